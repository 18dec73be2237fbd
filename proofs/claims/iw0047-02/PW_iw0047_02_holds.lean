import PyProof.Rows.All
import Wide.All
import OpenK.AllK
import KE.KSuper
import Lean
import PySem.Challenge.RW_iw0047_02
set_option Elab.async false
set_option linter.all false
set_option maxRecDepth 100000
set_option genSizeOf false
set_option genCtorIdx false
noncomputable section
open Nat renaming le_trans->WL,le_of_ble_eq_true->WU,beq->WV,le_refl->WY,le_add_right->WZ,eq_of_beq_eq_true->Wa,le_succ_of_le->Wf,zero_le->Wh,add_le_add_left->Wj,add_le_add_right->Wo,lt_of_lt_of_le->Wt,le_add_left->XA,mul_le_mul_left->XJ,add_right_comm->XM,lt_irrefl->XN,mul_add->XW,le_of_lt->Xe,succ_le_succ->Xk,lt_succ_self->Xl,ne_of_lt->Xw,le_succ->X3,lt_of_le_of_lt->X5,le_of_eq->X6,add_le_add->YJ,beq_refl->YM,zero_lt_succ->ZN,succ_pos->ZQ,add_right_cancel->Zg,not_succ_le_zero->Zl,ble->Zn,add_assoc->Zv,not_lt->Zz,add_comm->Z7
open List renaming toArray->WM,mem_append_right->WP,mem_append_left->WR,length_map->WS,mem_cons->Wb,mem_singleton->Wl,size_toArray->Wr,length_append->Ws,getElem?_eq_getElem->Wu,not_mem_nil->W0,lookup_cons->W1,mem_append->W2,nodup_cons->W3,filterMap_cons->W4,getElem?_eq_some_iff->W9,getElem?_map->XD,mem_of_getElem?->XE,append_nil->XI,map_cons->XK,mem_filter->XL,mem_map_of_mem->XP,pairwise_cons->XS,mem_map->Xd,map_map->Xf,append_assoc->Xv,filter_sublist->X0,replicate->X1,map_append->YB,forIn_cons->YC,length_filter_le->YF,nodup_nil->YH,any_cons->YQ,lookup_eq_none_iff->YY,nodup_append->YZ,take_succ_eq_append_getElem->Ya,length_range->Yb,filterMap_append->Yd,length_replicate->Ye,mem_of_mem_drop->Yo,length_pos_iff->Yw,getElem_range->Y2,getD_eq_getElem?_getD->Y4,reverse_cons->Y9,filter_cons->ZK,length_cons->ZL,take_length->ZM,nil_append->ZX,find?_cons->ZY,mem_range->Zf,drop->Zq,map_congr_left->Zr,filterMap_nil->Z0,lookup_append->Z4,zip_nil_right->Z5,drop_sublist->Z8,pairwise_map->Z9,flatMap_cons->aE,lookup->aJ
open Option renaming none->WN,map_eq_some_iff->Wz,ne_none_iff_exists'->XF,isSome_iff_exists->XT,some_ne_none->Xz,isNone_iff_eq_none->YP,map_some->aL
open PySem renaming Value->WO,Shared->WQ,World->WW,OsState->We,Params->Wg,wpAny_bind->Wi,Program->Wm,FuncData->Wp,Str->W5,wpAny_pure->W6,Scope->XB,Around->XG,wpAny_loadName_local->XH,Addr->XQ,wpAny_mono->XR,valueAt->XU,wpAny_comprehension_free->XV,wpAny_evalAll_nil->XX,Keyword->Xg,sizeLine_eq->Xi,Stmt->Xj,GenState->Xo,call->Xp,seg_execs_cons->Xq,wpAny_assign_Name->Xx,Heap->Xy,wpAny_newObj_type->YG,Operator->YI,Comprehension->YR,NameKind->YS,wpAny_Name->YV,wpAny_Call_Name_kw->YW,wpAny_Assign_Name->Yc,wpAny_storeName_local->Yf,wpAny_call->Yi,Result->Yk,wpAny_pyIter_gen->Ym,wpAny_newFunctionEnv->Yr,Pos->Yt,wpAny_updateSeq->Yu,Obj->Yx,Fin->Y1,wpAny_standAt->ZF,intKind_is->ZR,codeAny_compStart_list->ZU,wpAny_execs_nil->ZZ,Frame->Zi,seg_wrap->Zj,seg_Expr_Yield->Zk,DictEntry->Zo,Env->Zp,wpAny_holding->Zy,Sem->aC,Seg->aF,ItemsOf->aN,seg_end->aO
open Option.some renaming inj->WT
open Classical renaming byContradiction->WX
open Int renaming le_trans->Wc,le_refl->Wq,le_of_lt->XO,le_antisymm->XZ,lt_of_lt_of_le->Xm,ofNat_lt->Xu,natCast_nonneg->X7,not_le->YK,lt_of_le_of_lt->YU,not_lt->Yh,le_sub_one_of_lt->Yq,toNat_of_nonneg->Yv,ofNat_le->Yy,toNat_natCast->Y8,sub_pos_of_lt->ZB,lt_irrefl->ZD,fmod_nonneg_of_pos->ZP,add_nonneg->Ze,fmod_lt_of_pos->Z1,zero_add->aA
open PySem.Heap renaming lt_size->Wn,get?_push_of_some->Wv,get?_push_size->Xc,get?_update_self->Xr,get?_update_other->X9,SameBut->YO,dictOf_iff->YT
open PySem.Flow renaming next->Ww
open PySem.W renaming piece_app->Wx,segRun_of->Wy,Frag->Xb,methodCall_KW->Xh,boot_heap->YL,boot_drawn->Yg,callWith_of->Yp,boot_toks->Y0,boot_o_2->ZI,codeRec_of->ZV,boot_o_4->Zd
open Array renaming getElem?_eq_some_iff->W7,getElem?_eq_getElem->Y6,mk->ZJ,getElem?_toList->Zb,length_toList->Zu
open Bool renaming and_eq_true_iff->W8,not_eq_true'->XC,false_ne_true->Xn,and_eq_true->X2,or_false->Yn,false_eq_true->Y5,true_and->Zx
open PySem.Sem renaming bind_eq_wrap'->XY,wrap_wrap->YE,bind_eq_wrap->Yl,wrap->aG
open PySem.Env renaming kindOf->Xa
open PySem.F renaming plain_extend_loop->Xs,entry_extend_loop->Y7,slot_dict_get->Zc
open ForInStep renaming yield->Xt
open PyProof.Rows renaming AllBare->X4,subscriptTail_builtinR->X8,News->Zh
open PySem.Challenge renaming pw_iw0047_02->YA,rw_iw0047_02->Ys
open PySem.NameKind renaming cell->YD,free->ZE
open Ne renaming symm->YN
open PySem.Builtin.Range renaming rangeSize->YX,small->Zt
open List.Sublist renaming map->Yj
open PySem.Builtin.List renaming listExtendWith->Yz,listSameRef->ZH
open PySem.ScopeKind renaming function->Y3
open PySem.Value renaming isInt_shape->ZA,bool->Z2,type->Z6,ref->aH,none->aQ
open Prod.mk renaming injEq->ZC,inj->aI
open PySem.W.Looks renaming of_pure->ZG
open Exists renaming intro->ZO
open PySem.SeqAt renaming shaped->ZS
open PyProof renaming noPylong_small->ZT
open List.cons renaming injEq->ZW
open PySem.Shared renaming asleep_of_life->Za
open PySem.Around renaming under_plainId->Zm
open PySem.Builtin.Int renaming intBits->Zs
open List.Mem renaming tail->Zw
open PySem.Calls renaming Constant_str->Z3
open PySem.PyData renaming canLayAll0->aB,depthAll->aM,eqv->aP
open Nat.succ renaming inj->aD
open PySem.Heap.Ns renaming of_isNs->aK
open PySem.Obj renaming mapSeq->aR
open Int.ofNat renaming inj->aS
section
open PySem PySem.W PyProof.Rows
namespace Mine.Hd
open PySem PySem.W
noncomputable def n0:Str:=⟨#[60,109,111,100,117,108,101,62]⟩
noncomputable def n1:Str:=⟨#[47,99,108,97,105,109,47,99,117,116,46,112,121]⟩
noncomputable def n2:Str:=⟨#[95,95,109,97,105,110,95,95]⟩
noncomputable def n3:Str:=⟨#[95,95,110,97,109,101,95,95]⟩
noncomputable def n4:Str:=⟨#[95,95,100,111,99,95,95]⟩
noncomputable def n5:Str:=⟨#[95,95,112,97,99,107,97,103,101,95,95]⟩
noncomputable def n6:Str:=⟨#[95,95,108,111,97,100,101,114,95,95]⟩
noncomputable def n7:Str:=⟨#[95,95,115,112,101,99,95,95]⟩
noncomputable def n8:Str:=⟨#[95,95,97,110,110,111,116,97,116,105,111,110,115,95,95]⟩
noncomputable def n9:Str:=⟨#[95,95,98,117,105,108,116,105,110,115,95,95]⟩
noncomputable def n10:Str:=⟨#[95,95,102,105,108,101,95,95]⟩
noncomputable def n11:Str:=⟨#[95,95,99,97,99,104,101,100,95,95]⟩
noncomputable def n12:Str:=⟨#[95,119,97,108,108]⟩
noncomputable def n13:Str:=⟨#[107]⟩
noncomputable def n14:Str:=⟨#[119,104,111,111,115,104,46,109,97,116,99,104,105,110,103,46,109,99,111,114,101]⟩
noncomputable def n15:Str:=⟨#[116,121,112,101,46,95,95,115,117,98,99,108,97,115,115,101,115,95,95,46,69,120,99,101,112,116,105,111,110,46,48]⟩
noncomputable def n16:Str:=⟨#[116,121,112,101,46,95,95,115,117,98,99,108,97,115,115,101,115,95,95,46,69,120,99,101,112,116,105,111,110,46,110]⟩
noncomputable def n17:Str:=⟨#[82,101,97,100,84,111,111,70,97,114]⟩
noncomputable def n18:Str:=⟨#[95,95,109,111,100,117,108,101,95,95]⟩
noncomputable def n19:Str:=⟨#[95,95,113,117,97,108,110,97,109,101,95,95]⟩
noncomputable def n20:Str:=⟨#[95,95,102,105,114,115,116,108,105,110,101,110,111,95,95]⟩
noncomputable def n21:Str:=⟨#[95,95,115,116,97,116,105,99,95,97,116,116,114,105,98,117,116,101,115,95,95]⟩
noncomputable def n22:Str:=⟨#[95,95,119,101,97,107,114,101,102,95,95]⟩
noncomputable def n23:Str:=⟨#[116,121,112,101,46,95,95,115,117,98,99,108,97,115,115,101,115,95,95,46,69,120,99,101,112,116,105,111,110,46,49]⟩
noncomputable def n24:Str:=⟨#[78,111,81,117,97,108,105,116,121,65,118,97,105,108,97,98,108,101]⟩
noncomputable def n25:Str:=⟨#[77,97,116,99,104,101,114]⟩
noncomputable def n26:Str:=⟨#[105,115,95,97,99,116,105,118,101]⟩
noncomputable def n27:Str:=⟨#[114,101,115,101,116]⟩
noncomputable def n28:Str:=⟨#[116,101,114,109]⟩
noncomputable def n29:Str:=⟨#[116,101,114,109,95,109,97,116,99,104,101,114,115]⟩
noncomputable def n30:Str:=⟨#[109,97,116,99,104,105,110,103,95,116,101,114,109,115]⟩
noncomputable def n31:Str:=⟨#[105,115,95,108,101,97,102]⟩
noncomputable def n32:Str:=⟨#[99,104,105,108,100,114,101,110]⟩
noncomputable def n33:Str:=⟨#[114,101,112,108,97,99,101]⟩
noncomputable def n34:Str:=⟨#[99,111,112,121]⟩
noncomputable def n35:Str:=⟨#[100,101,112,116,104]⟩
noncomputable def n36:Str:=⟨#[115,117,112,112,111,114,116,115,95,98,108,111,99,107,95,113,117,97,108,105,116,121]⟩
noncomputable def n37:Str:=⟨#[109,97,120,95,113,117,97,108,105,116,121]⟩
noncomputable def n38:Str:=⟨#[98,108,111,99,107,95,113,117,97,108,105,116,121]⟩
noncomputable def n39:Str:=⟨#[105,100]⟩
noncomputable def n40:Str:=⟨#[97,108,108,95,105,100,115]⟩
noncomputable def n41:Str:=⟨#[97,108,108,95,105,116,101,109,115]⟩
noncomputable def n42:Str:=⟨#[118,97,108,117,101]⟩
noncomputable def n43:Str:=⟨#[115,107,105,112,95,116,111]⟩
noncomputable def n44:Str:=⟨#[115,107,105,112,95,116,111,95,113,117,97,108,105,116,121]⟩
noncomputable def n45:Str:=⟨#[110,101,120,116]⟩
noncomputable def n46:Str:=⟨#[115,99,111,114,101]⟩
noncomputable def n47:Str:=⟨#[115,101,108,102]⟩
noncomputable def n51:Str:=⟨#[99,109]⟩
noncomputable def n52:Str:=⟨#[109]⟩
noncomputable def n54:Str:=⟨#[116]⟩
noncomputable def n55:Str:=⟨#[99]⟩
noncomputable def n59:Str:=⟨#[109,105,110,113,117,97,108,105,116,121]⟩
noncomputable def n74:Str:=⟨#[95,95,100,105,99,116,95,95]⟩
noncomputable def n75:Str:=⟨#[78,117,108,108,77,97,116,99,104,101,114,67,108,97,115,115]⟩
noncomputable def n84:Str:=⟨#[78,117,108,108,77,97,116,99,104,101,114]⟩
noncomputable def n85:Str:=⟨#[76,105,115,116,77,97,116,99,104,101,114]⟩
noncomputable def n86:Str:=⟨#[95,95,105,110,105,116,95,95]⟩
noncomputable def n87:Str:=⟨#[119,101,105,103,104,116]⟩
noncomputable def n88:Str:=⟨#[98,108,111,99,107,95,109,97,120,95,119,101,105,103,104,116]⟩
noncomputable def n89:Str:=⟨#[105,100,115]⟩
noncomputable def n90:Str:=⟨#[119,101,105,103,104,116,115]⟩
noncomputable def n91:Str:=⟨#[118,97,108,117,101,115]⟩
noncomputable def n92:Str:=⟨#[102,111,114,109,97,116]⟩
noncomputable def n93:Str:=⟨#[115,99,111,114,101,114]⟩
noncomputable def n94:Str:=⟨#[112,111,115,105,116,105,111,110]⟩
noncomputable def n95:Str:=⟨#[97,108,108,95,119,101,105,103,104,116,115]⟩
noncomputable def n96:Str:=⟨#[116,101,114,109,105,110,102,111]⟩
noncomputable def n116:Str:=⟨#[95,97,108,108,95,119,101,105,103,104,116,115]⟩
noncomputable def n117:Str:=⟨#[95,102,111,114,109,97,116]⟩
noncomputable def n118:Str:=⟨#[95,105]⟩
noncomputable def n119:Str:=⟨#[95,105,100,115]⟩
noncomputable def n120:Str:=⟨#[95,115,99,111,114,101,114]⟩
noncomputable def n121:Str:=⟨#[95,116,101,114,109]⟩
noncomputable def n122:Str:=⟨#[95,116,101,114,109,105,110,102,111]⟩
noncomputable def n123:Str:=⟨#[95,118,97,108,117,101,115]⟩
noncomputable def n124:Str:=⟨#[95,119,101,105,103,104,116,115]⟩
noncomputable def n125:Str:=⟨#[119,104,111,111,115,104,46,109,97,116,99,104,105,110,103,46,98,105,110,97,114,121]⟩
noncomputable def n126:Str:=⟨#[66,105,77,97,116,99,104,101,114]⟩
noncomputable def n127:Str:=⟨#[97]⟩
noncomputable def n128:Str:=⟨#[98]⟩
noncomputable def n134:Str:=⟨#[114,97]⟩
noncomputable def n135:Str:=⟨#[114,98]⟩
noncomputable def n138:Str:=⟨#[65,100,100,105,116,105,118,101,66,105,77,97,116,99,104,101,114]⟩
noncomputable def n139:Str:=⟨#[113]⟩
noncomputable def n141:Str:=⟨#[98,113]⟩
noncomputable def n145:Str:=⟨#[85,110,105,111,110,77,97,116,99,104,101,114]⟩
noncomputable def n146:Str:=⟨#[95,105,100]⟩
noncomputable def n147:Str:=⟨#[95,109,97,100,101]⟩
noncomputable def n149:Str:=⟨#[97,95,97,99,116,105,118,101]⟩
noncomputable def n150:Str:=⟨#[98,95,97,99,116,105,118,101]⟩
noncomputable def n151:Str:=⟨#[97,95,109,97,120]⟩
noncomputable def n152:Str:=⟨#[98,95,109,97,120]⟩
noncomputable def n157:Str:=⟨#[97,95,105,100]⟩
noncomputable def n158:Str:=⟨#[98,95,105,100]⟩
noncomputable def n159:Str:=⟨#[97,114]⟩
noncomputable def n160:Str:=⟨#[98,114]⟩
noncomputable def n162:Str:=⟨#[105,100,95,97]⟩
noncomputable def n163:Str:=⟨#[105,100,95,98]⟩
noncomputable def n167:Str:=⟨#[68,105,115,106,117,110,99,116,105,111,110,77,97,120,77,97,116,99,104,101,114]⟩
noncomputable def n168:Str:=⟨#[95,95,99,108,97,115,115,99,101,108,108,95,95]⟩
noncomputable def n170:Str:=⟨#[95,95,99,108,97,115,115,95,95]⟩
noncomputable def n171:Str:=⟨#[116,105,101,98,114,101,97,107]⟩
noncomputable def n179:Str:=⟨#[73,110,116,101,114,115,101,99,116,105,111,110,77,97,116,99,104,101,114]⟩
noncomputable def n180:Str:=⟨#[95,102,105,110,100,95,102,105,114,115,116]⟩
noncomputable def n181:Str:=⟨#[95,102,105,110,100,95,110,101,120,116]⟩
noncomputable def n186:Str:=⟨#[97,95,109,105,110]⟩
noncomputable def n187:Str:=⟨#[98,95,109,105,110]⟩
noncomputable def n190:Str:=⟨#[114]⟩
noncomputable def n194:Str:=⟨#[114,110]⟩
noncomputable def n197:Str:=⟨#[110,114]⟩
noncomputable def n199:Str:=⟨#[65,110,100,78,111,116,77,97,116,99,104,101,114]⟩
noncomputable def n205:Str:=⟨#[112,111,115]⟩
noncomputable def n206:Str:=⟨#[110,101,103]⟩
noncomputable def n207:Str:=⟨#[112,111,115,95,105,100]⟩
noncomputable def n220:Str:=⟨#[65,110,100,77,97,121,98,101,77,97,116,99,104,101,114]⟩
noncomputable def n221:Str:=⟨#[95,102,105,114,115,116,95,98]⟩
noncomputable def n230:Str:=⟨#[110,101,119,95,97]⟩
noncomputable def n231:Str:=⟨#[110,101,119,95,98]⟩
noncomputable def n237:Str:=⟨#[119,104,111,111,115,104,46,109,97,116,99,104,105,110,103,46,119,114,97,112,112,101,114,115]⟩
noncomputable def n238:Str:=⟨#[87,114,97,112,112,105,110,103,77,97,116,99,104,101,114]⟩
noncomputable def n239:Str:=⟨#[95,114,101,112,108,97,99,101,109,101,110,116]⟩
noncomputable def n240:Str:=⟨#[99,104,105,108,100]⟩
noncomputable def n241:Str:=⟨#[98,111,111,115,116]⟩
noncomputable def n245:Str:=⟨#[110,101,119,99,104,105,108,100]⟩
noncomputable def n262:Str:=⟨#[70,105,108,116,101,114,77,97,116,99,104,101,114]⟩
noncomputable def n263:Str:=⟨#[101,120,99,108,117,100,101]⟩
noncomputable def n273:Str:=⟨#[95,101,120,99,108,117,100,101]⟩
noncomputable def n274:Str:=⟨#[73,110,118,101,114,115,101,77,97,116,99,104,101,114]⟩
noncomputable def n275:Str:=⟨#[108,105,109,105,116]⟩
noncomputable def n276:Str:=⟨#[109,105,115,115,105,110,103]⟩
noncomputable def n290:Str:=⟨#[95,119,101,105,103,104,116]⟩
noncomputable def n291:Str:=⟨#[82,101,113,117,105,114,101,77,97,116,99,104,101,114]⟩
noncomputable def n302:Str:=⟨#[67,111,110,115,116,97,110,116,83,99,111,114,101,87,114,97,112,112,101,114,77,97,116,99,104,101,114]⟩
noncomputable def n309:Str:=⟨#[95,115,99,111,114,101]⟩
noncomputable def n310:Str:=⟨#[108,97,119,95,105,119,48,48,52,55,95,48,50]⟩
noncomputable def n311:Str:=⟨#[95,108,97,119,95,108,101,97,102]⟩
noncomputable def n312:Str:=⟨#[95,108,97,119,95,119,105,116,104,105,110]⟩
noncomputable def n313:Str:=⟨#[95,108,97,119,95,116,119,111]⟩
noncomputable def n314:Str:=⟨#[95,108,97,119,95,111,110,101]⟩
noncomputable def n315:Str:=⟨#[95,108,97,119,95,116,114,101,101]⟩
noncomputable def n316:Str:=⟨#[110,117,109,98,101,114,115]⟩
noncomputable def n317:Str:=⟨#[115,116,97,99,107]⟩
noncomputable def n318:Str:=⟨#[108,105,115,116,115]⟩
noncomputable def n319:Str:=⟨#[112,108,97,99,101]⟩
noncomputable def n320:Str:=⟨#[110,117,109,98,101,114]⟩
noncomputable def n321:Str:=⟨#[107,105,110,100]⟩
noncomputable def n322:Str:=⟨#[109,111,114,101]⟩
noncomputable def n323:Str:=⟨#[116,114,101,101]⟩
noncomputable def n324:Str:=⟨#[112,108,97,105,110]⟩
noncomputable def n325:Str:=⟨#[108,101,97,118,101,115]⟩
noncomputable def n326:Str:=⟨#[114,105,103,104,116]⟩
noncomputable def n327:Str:=⟨#[115,101,99,111,110,100]⟩
noncomputable def n328:Str:=⟨#[116,97,105,108]⟩
noncomputable def n329:Str:=⟨#[108,101,102,116]⟩
noncomputable def n330:Str:=⟨#[102,105,114,115,116]⟩
noncomputable def n331:Str:=⟨#[104,101,97,100]⟩
noncomputable def n332:Str:=⟨#[108,97,119]⟩
noncomputable def qn(a b:W5):Str:=⟨(a.cps.toList++46::b.cps.toList).toArray⟩
def n48:=qn n25 n26
def n49:=qn n25 n27
def n50:=qn n25 n28
def n53:=qn n25 n29
def n56:=qn n25 n30
def n57:=qn n25 n31
def n58:=qn n25 n32
def n60:=qn n25 n33
def n61:=qn n25 n34
def n62:=qn n25 n35
def n63:=qn n25 n36
def n64:=qn n25 n37
def n65:=qn n25 n38
def n66:=qn n25 n39
def n67:=qn n25 n40
def n68:=qn n25 n41
def n69:=qn n25 n42
def n70:=qn n25 n43
def n71:=qn n25 n44
def n72:=qn n25 n45
def n73:=qn n25 n46
def n76:=qn n75 n36
def n77:=qn n75 n37
def n78:=qn n75 n38
def n79:=qn n75 n44
def n80:=qn n75 n26
def n81:=qn n75 n27
def n82:=qn n75 n40
def n83:=qn n75 n34
def n97:=qn n85 n86
def n98:=qn n85 n26
def n99:=qn n85 n27
def n100:=qn n85 n43
def n101:=qn n85 n28
def n102:=qn n85 n34
def n103:=qn n85 n33
def n104:=qn n85 n36
def n105:=qn n85 n37
def n106:=qn n85 n38
def n107:=qn n85 n44
def n108:=qn n85 n39
def n109:=qn n85 n40
def n110:=qn n85 n41
def n111:=qn n85 n42
def n112:=qn n85 n45
def n113:=qn n85 n87
def n114:=qn n85 n88
def n115:=qn n85 n46
def n129:=qn n126 n86
def n130:=qn n126 n27
def n131:=qn n126 n32
def n132:=qn n126 n34
def n133:=qn n126 n35
def n136:=qn n126 n43
def n137:=qn n126 n36
def n140:=qn n138 n37
def n142:=qn n138 n38
def n143:=qn n138 n87
def n144:=qn n138 n46
def n148:=qn n145 n147
def n153:=qn n145 n33
def n154:=qn n145 n26
def n155:=qn n145 n43
def n156:=qn n145 n39
def n161:=qn n145 n45
def n164:=qn n145 n87
def n165:=qn n145 n46
def n166:=qn n145 n44
def n169:=qn n167 n147
def n172:=qn n167 n86
def n173:=qn n167 n34
def n174:=qn n167 n33
def n175:=qn n167 n46
def n176:=qn n167 n37
def n177:=qn n167 n38
def n178:=qn n167 n44
def n182:=qn n179 n147
def n183:=qn n179 n86
def n184:=qn n179 n27
def n185:=qn n179 n180
def n188:=qn n179 n33
def n189:=qn n179 n26
def n191:=qn n179 n181
def n192:=qn n179 n39
def n193:=qn n179 n40
def n195:=qn n179 n43
def n196:=qn n179 n44
def n198:=qn n179 n45
def n200:=qn n199 n147
def n201:=qn n199 n86
def n202:=qn n199 n27
def n203:=qn n199 n180
def n204:=qn n199 n26
def n208:=qn n199 n181
def n209:=qn n199 n36
def n210:=qn n199 n33
def n211:=qn n199 n37
def n212:=qn n199 n38
def n213:=qn n199 n44
def n214:=qn n199 n39
def n215:=qn n199 n45
def n216:=qn n199 n43
def n217:=qn n199 n87
def n218:=qn n199 n46
def n219:=qn n199 n42
def n222:=qn n220 n147
def n223:=qn n220 n86
def n224:=qn n220 n27
def n225:=qn n220 n221
def n226:=qn n220 n26
def n227:=qn n220 n39
def n228:=qn n220 n45
def n229:=qn n220 n43
def n232:=qn n220 n33
def n233:=qn n220 n44
def n234:=qn n220 n87
def n235:=qn n220 n46
def n236:=qn n220 n42
def n242:=qn n238 n86
def n243:=qn n238 n34
def n244:=qn n238 n35
def n246:=qn n238 n239
def n247:=qn n238 n33
def n248:=qn n238 n39
def n249:=qn n238 n40
def n250:=qn n238 n26
def n251:=qn n238 n27
def n252:=qn n238 n32
def n253:=qn n238 n42
def n254:=qn n238 n43
def n255:=qn n238 n45
def n256:=qn n238 n36
def n257:=qn n238 n44
def n258:=qn n238 n37
def n259:=qn n238 n38
def n260:=qn n238 n87
def n261:=qn n238 n46
def n264:=qn n262 n86
def n265:=qn n262 n27
def n266:=qn n262 n34
def n267:=qn n262 n239
def n268:=qn n262 n181
def n269:=qn n262 n45
def n270:=qn n262 n43
def n271:=qn n262 n40
def n272:=qn n262 n41
def n277:=qn n274 n86
def n278:=qn n274 n34
def n279:=qn n274 n239
def n280:=qn n274 n26
def n281:=qn n274 n27
def n282:=qn n274 n36
def n283:=qn n274 n181
def n284:=qn n274 n39
def n285:=qn n274 n40
def n286:=qn n274 n45
def n287:=qn n274 n43
def n288:=qn n274 n87
def n289:=qn n274 n46
def n292:=qn n291 n86
def n293:=qn n291 n34
def n294:=qn n291 n36
def n295:=qn n291 n33
def n296:=qn n291 n37
def n297:=qn n291 n38
def n298:=qn n291 n44
def n299:=qn n291 n87
def n300:=qn n291 n46
def n301:=qn n291 n42
def n303:=qn n302 n86
def n304:=qn n302 n34
def n305:=qn n302 n239
def n306:=qn n302 n37
def n307:=qn n302 n38
def n308:=qn n302 n46
noncomputable abbrev l0:String:=PySem.W.SL.s5856160107412720595x4
noncomputable abbrev l1:String:=PySem.W.SL.s658472552662922059x5
noncomputable abbrev l2:String:=PySem.W.SL.s7097527257260152453x26
noncomputable abbrev l3:String:=PySem.W.SL.s14018661285674007319x4
noncomputable abbrev l4:String:=PySem.W.SL.s7174869446012820540x8
noncomputable abbrev l5:String:=PySem.W.SL.s5946037652744460706x9
noncomputable abbrev l6:String:=PySem.W.SL.s10062305145149207511x16
noncomputable abbrev l7:String:=PySem.W.SL.s17162191345867700912x4
noncomputable abbrev l8:String:=PySem.W.SL.s11030030927630378310x26
noncomputable abbrev l9:String:=PySem.W.SL.s5160863994218179198x17
noncomputable abbrev l10:String:=PySem.W.SL.s4278001404047624695x13
noncomputable abbrev GC:String:=PySem.W.SL.s2742458400755230247x6
noncomputable abbrev l12:String:=PySem.W.SL.s10220274742760427390x26
noncomputable abbrev l13:String:=PySem.W.SL.s14755015743595814543x17
noncomputable abbrev MY:String:=PySem.W.SL.s4290257624100764138x5
noncomputable abbrev MZ:String:=PySem.W.SL.s4860613602091757760x24
noncomputable abbrev G7:String:=PySem.W.SL.s11443829558043349243x14
noncomputable abbrev l17:String:=PySem.W.SL.s6511155373996960695x17
noncomputable abbrev l18:String:=PySem.W.SL.s12411053484034534018x21
noncomputable abbrev l19:String:=PySem.W.SL.s15660640913423913556x4
noncomputable abbrev l20:String:=PySem.W.SL.s2766695959194262286x5
noncomputable abbrev pT:Program:=YA
theorem Ma:YA=pT:=rfl
noncomputable def bT:List Stmt:=pT.main.body
noncomputable def SK:Xj->List Xj
 | .ClassDef _ _ _ b _ _ _ _ _ _ _=>b
 | _=>[]
def top(i:Nat):Stmt:=bT.getD i default
def sub(i j:Nat):Stmt:=(SK (top i)).getD j default
noncomputable abbrev r(a:Nat):Value:=.ref a
noncomputable abbrev s(x:W5)(t:Nat):Value:=.str x t
noncomputable abbrev z(i:Int):Value:=.int i 0
noncomputable abbrev e(P:Wg)(x:W5)(t:Nat)(v:WO):DictEntry:=⟨PyData.keyHash P x,.str x t,v⟩
def tu(l:List WO):Obj:=⟨.type l20,none,.seq l.toArray 0,#[]⟩
noncomputable def nf(l:List WO):Obj:=⟨.none,none,.fields l.toArray,#[]⟩
noncomputable def ob(c:WO)(d:Option XQ)(dt:Data)(sl:Array (Option WO)):Obj:=⟨c,d,dt,sl⟩
def co(a:W5)(ta:Nat)(b:W5)(tb:Nat)(c:W5)(tc:Nat)(l1 l2 l3 l4 l5:Int)(r1:Nat)(b1:Bool)(i1:Int)(r2 r3 r4 r5:Nat)(i2 i3:Int)(d:W5)(td:Nat):Yx :=
 ⟨.type l0,none,.fields #[s a ta,s b tb,s c tc,z l1,z l2,z l3,z l4,z l5,r r1,.bool b1,z i1,r r2,.none,r r3,r r4,r r5,z i2,z i3,s d td],#[]⟩
noncomputable def fd(st:Xj)(q:W5)(g:Nat)(cl:List (W5×XQ))(dv kd doc pm code ct:WO)(b:Nat):FuncData:=match st with
 | .FunctionDef n a bd _ _ _ sc _ _ _=>{name:=n,qualname:=q,params:=a,body:=.stmts bd,scope:=sc,globals:=g,closure:=cl,defaults:=dv,kwdefaults:=kd,doc:=doc,pyModule:=pm,code:=code,closureTuple:=ct,builtins:=b}
 | _=>default
noncomputable def cd(n:W5)(bases mro:List WO)(ns:Nat)(q:W5)(hd:Bool)(_:Nat)(subs:List WO)(ab:Bool)(_:Bool)(del:Bool):ClassData :=
 {name:=n,bases:=bases,mro:=mro,ns:=ns,qualname:=q,hasDict:=hd,subclasses:=subs,abstract:=ab,hasDel:=del}
noncomputable def fa(a b:Nat)(n:W5):Obj:=ob .none none (.func (fd (sub a b) n 0 [] .none .none .none .none .none .none 0)) #[]
noncomputable def fb(a b:Nat)(n:W5)(x y:WO)(c:Nat):Obj:=ob (.type l4) none (.func (fd (sub a b) n 3 [] x .none .none y (r c) .none 0)) #[]
noncomputable def fc(a b:W5)(t l x y z u q v:Nat):Obj:=co a t b (t+1) n1 (t+2) l x y z u q true 181 (q+1) (q+2) (q+3) (q+4) v l n1 (v+1)
section
variable(P:Wg)
def dl0:List DictEntry:=[e P n4 166 .none,e P n5 167 .none,e P n6 168 (.builtin l2),e P n7 169 .none,e P n8 170 (r 6),e P n9 171 (r 4),e P n10 173 (s n1 172),e P n11 174 .none,e P n12 193 (r 21)]
def dl1:List DictEntry:=dl0 P++[e P n17 215 (r 31)]
def dl2:List DictEntry:=dl1 P++[e P n24 235 (r 44)]
def dl3:List DictEntry:=dl2 P++[e P n25 411 (r 206)]
def dl4:List DictEntry:=dl3 P++[e P n75 484 (r 276)]
def dl5:List DictEntry:=dl4 P++[e P n84 490 (r 285)]
def dl6:List DictEntry:=dl5 P++[e P n85 662 (r 430)]
def dl7:List DictEntry:=dl6 P++[e P n126 736 (r 491)]
def dl8:List DictEntry:=dl7 P++[e P n138 782 (r 531)]
def dl9:List DictEntry:=dl8 P++[e P n145 896 (r 607)]
def dl10:List DictEntry:=dl9 P++[e P n167 986 (r 679)]
def dl11:List DictEntry:=dl10 P++[e P n179 1116 (r 778)]
def dl12:List DictEntry:=dl11 P++[e P n199 1270 (r 912)]
def dl13:List DictEntry:=dl12 P++[e P n220 1397 (r 1016)]
def dl14:List DictEntry:=dl13 P++[e P n238 1559 (r 1163)]
def dl15:List DictEntry:=dl14 P++[e P n262 1653 (r 1241)]
def dl16:List DictEntry:=dl15 P++[e P n274 1777 (r 1347)]
def dl17:List DictEntry:=dl16 P++[e P n291 1872 (r 1430)]
def dl18:List DictEntry:=dl17 P++[e P n302 1935 (r 1485)]
def dl19:List DictEntry:=dl18 P++[e P n311 1943 (r 1492)]
def dl20:List DictEntry:=dl19 P++[e P n312 1949 (r 1497)]
def dl21:List DictEntry:=dl20 P++[e P n313 1955 (r 1502)]
def dl22:List DictEntry:=dl21 P++[e P n314 1961 (r 1507)]
def dl23:List DictEntry:=dl22 P++[e P n315 1983 (r 1514)]
def nl0:List Value:=[(z 1),(z 0),(r 20),(z 5),(z 0),(r 27)]
def nl1:List Value:=nl0++[(z 7),(z 0),(r 40)]
def nl2:List Value:=nl1++[(z 9),(z 0),(r 53)]
def nl3:List Value:=nl2++[(z 91),(z 0),(r 216)]
def nl4:List Value:=nl3++[(z 116),(z 0),(r 284)]
def nl5:List Value:=nl4++[(z 118),(z 0),(r 291)]
def nl6:List Value:=nl5++[(z 211),(z 0),(r 438)]
def nl7:List Value:=nl6++[(z 238),(z 0),(r 499)]
def nl8:List Value:=nl7++[(z 261),(z 0),(r 539)]
def nl9:List Value:=nl8++[(z 377),(z 0),(r 616)]
def nl10:List Value:=nl9++[(z 440),(z 0),(r 688)]
def nl11:List Value:=nl10++[(z 539),(z 0),(r 787)]
def nl12:List Value:=nl11++[(z 632),(z 0),(r 920)]
def nl13:List Value:=nl12++[(z 713),(z 0),(r 1024)]
def nl14:List Value:=nl13++[(z 776),(z 0),(r 1172)]
def nl15:List Value:=nl14++[(z 819),(z 0),(r 1250)]
def nl16:List Value:=nl15++[(z 888),(z 0),(r 1355)]
def nl17:List Value:=nl16++[(z 932),(z 0),(r 1438)]
def nl18:List Value:=nl17++[(z 953),(z 0),(r 1491)]
def nl19:List Value:=nl18++[(z 958),(z 0),(r 1496)]
def nl20:List Value:=nl19++[(z 963),(z 0),(r 1501)]
def nl21:List Value:=nl20++[(z 980),(z 0),(r 1506)]
def nl22:List Value:=nl21++[(z 989),(z 0),(r 1513)]
def o0:=tu []
def o1:=nf []
def o5:=nf [(z 1),(z 0),(r 20)]
def o17:=tu [(.type l5)]
def o18:=ob (.type l8) none (.fields (WM [(.builtin l6),(.type l7)])) #[]
def o30:=ob .none none (.dict (WM [e P n15 212 (z 31),e P n16 213 (z 2),e P n23 232 (z 44)]) 3) #[]
def o74:=fc n28 n50 262 17 1 0 0 3 69 266
def o75:=fb 4 2 n50 .none (s n14 194) 74
def o81:=fc n29 n53 269 20 1 0 0 35 76 275
def o82:=fb 4 3 n53 .none (s n14 194) 81
def o83:=tu [.none]
def o89:=fc n30 n56 278 28 2 0 0 35 84 285
def o90:=fb 4 4 n56 (r 83) (s n14 194) 89
def o103:=fc n32 n58 295 46 1 0 0 3 98 299
def o104:=fb 4 6 n58 .none (s n14 194) 103
def o105:=tu [(.int 0 302)]
def o111:=fc n33 n60 303 49 2 0 0 3 106 308
def o112:=fb 4 7 n60 (r 105) (s n14 194) 111
def o205:=ob (.type l3) none (.dict (WM [e P n18 243 (s n14 194),e P n20 247 (.int 9 246),e P n26 254 (r 61),e P n27 261 (r 68),e P n28 268 (r 75),e P n29 277 (r 82),e P n30 287 (r 90),e P n31 294 (r 97),e P n32 301 (r 104),e P n33 310 (r 112),e P n34 317 (r 119),e P n35 324 (r 126),e P n36 331 (r 133),e P n37 338 (r 140),e P n38 345 (r 147),e P n39 352 (r 154),e P n40 359 (r 161),e P n41 366 (r 168),e P n42 373 (r 175),e P n43 381 (r 182),e P n44 389 (r 189),e P n45 396 (r 196),e P n46 403 (r 203),e P n21 404 (r 204),e P n74 406 (r 207),e P n22 408 (r 208),e P n4 409 .none]) 4) #[]
def o213:=ob (.type l7) none (.cls (cd n25 [(.type GC)] [(r 206),(.type GC)] 205 n25 true 0 [(r 276)] false false false)) #[some (r 48),none,some (s n25 236),some (s n25 244),some (.builtin G7),some (.bool true)]
def o214:=tu [(r 206)]
def o233:=fc n37 n77 431 96 1 0 0 3 225 435
def o234:=fb 5 1 n77 .none (s n14 194) 230
def o254:=fc n26 n80 453 105 1 0 0 3 246 457
def o255:=fb 5 4 n80 .none (s n14 194) 251
def o278:=ob (.type l3) none (.dict (WM [e P n18 419 (s n14 194),e P n20 423 (.int 91 422),e P n36 430 (r 224),e P n37 437 (r 231),e P n38 444 (r 238),e P n44 452 (r 245),e P n26 459 (r 252),e P n27 466 (r 259),e P n40 473 (r 266),e P n34 480 (r 273),e P n21 481 (r 274),e P n4 482 .none]) 2) #[]
def o279:=ob (.type l7) none (.cls (cd n75 [(r 206)] [(r 276),(r 206),(.type GC)] 275 n75 true 0 [] false false false)) #[some (r 211),none,some (s n75 412),some (s n75 420),some (.builtin G7),some (.bool true)]
def o289:=fc n84 n84 485 116 0 0 0 3 279 488
def o290:=ob (.type l4) none (.func (fd (top 6) n84 3 [] .none .none .none (s n14 194) (r 284) .none 0)) #[]
def o292:=nf (nl5)
def o293:=ob (.type l7) none (.cls (cd n25 [(.type GC)] [(r 206),(.type GC)] 205 n25 true 0 [(r 276),(r 430)] false false false)) #[some (r 48),none,some (s n25 236),some (s n25 244),some (.builtin G7),some (.bool true)]
def o301:=tu [.none,.none,.none,.none,(.int 0 503),.none,.none,.none]
def o307:=fc n86 n97 504 120 10 0 0 3 294 517
def o308:=fb 7 0 n97 (r 293) (s n14 194) 299
def o314:=fc n26 n98 520 131 1 0 0 3 301 524
def o315:=fb 7 1 n98 .none (s n14 194) 306
def o328:=fc n43 n100 534 137 2 0 0 3 315 539
def o329:=fb 7 3 n100 .none (s n14 194) 320
def o335:=fc n28 n101 542 145 1 0 0 3 322 546
def o336:=fb 7 4 n101 .none (s n14 194) 327
def o344:=tu [(.int 0 556)]
def o350:=fc n33 n103 557 151 2 0 0 3 337 562
def o351:=fb 7 6 n103 (r 336) (s n14 194) 342
def o364:=fc n37 n105 572 162 1 0 0 3 351 576
def o365:=fb 7 8 n105 .none (s n14 194) 356
def o385:=fc n39 n108 594 174 1 0 0 3 372 598
def o386:=fb 7 11 n108 .none (s n14 194) 377
def o413:=fc n45 n112 622 186 1 0 0 3 400 626
def o414:=fb 7 15 n112 .none (s n14 194) 405
def o427:=fc n88 n114 636 197 1 0 0 3 414 640
def o428:=fb 7 17 n114 .none (s n14 194) 419
def o437:=ob (.type l3) none (.dict (WM [e P n18 498 (s n14 194),e P n20 502 (.int 118 501),e P n86 519 (r 300),e P n26 526 (r 307),e P n27 533 (r 314),e P n43 541 (r 321),e P n28 548 (r 328),e P n34 555 (r 335),e P n33 564 (r 343),e P n36 571 (r 350),e P n37 578 (r 357),e P n38 585 (r 364),e P n44 593 (r 371),e P n39 600 (r 378),e P n40 607 (r 385),e P n41 614 (r 392),e P n42 621 (r 399),e P n45 628 (r 406),e P n87 635 (r 413),e P n88 642 (r 420),e P n46 649 (r 427),e P n21 659 (r 428),e P n4 660 .none]) 2) #[]
def o438:=ob (.type l7) none (.cls (cd n85 [(r 206)] [(r 430),(r 206),(.type GC)] 429 n85 true 0 [] false false false)) #[some (r 286),none,some (s n85 491),some (s n85 499),some (.builtin G7),some (.bool true)]
def o444:=ob (.type l7) none (.cls (cd n25 [(.type GC)] [(r 206),(.type GC)] 205 n25 true 0 [(r 276),(r 430),(r 491)] false false false)) #[some (r 48),none,some (s n25 236),some (s n25 244),some (.builtin G7),some (.bool true)]
def o457:=fc n86 n129 677 213 3 0 0 3 440 683
def o458:=fb 9 0 n129 .none (s n125 663) 445
def o471:=fc n32 n131 693 220 1 0 0 3 454 697
def o472:=fb 9 2 n131 .none (s n125 663) 459
def o492:=fc n43 n136 714 229 2 0 0 3 475 721
def o493:=fb 9 5 n136 .none (s n125 663) 480
def o502:=ob (.type l3) none (.dict (WM [e P n18 672 (s n125 663),e P n20 676 (.int 211 675),e P n86 685 (r 446),e P n27 692 (r 453),e P n32 699 (r 460),e P n34 706 (r 467),e P n35 713 (r 474),e P n43 723 (r 481),e P n36 730 (r 488),e P n21 733 (r 489),e P n4 734 .none]) 2) #[]
def o508:=ob (.type l7) none (.cls (cd n126 [(r 206)] [(r 491),(r 206),(.type GC)] 490 n126 true 0 [(r 531)] false false false)) #[some (r 433),none,some (s n126 665),some (s n126 673),some (.builtin G7),some (.bool true)]
def o509:=tu [(r 491)]
def o521:=fc n37 n140 749 240 1 0 0 3 501 754
def o522:=fb 10 0 n140 .none (s n125 663) 506
def o545:=ob (.type l3) none (.dict (WM [e P n18 744 (s n125 663),e P n20 748 (.int 238 747),e P n37 756 (r 507),e P n38 764 (r 514),e P n87 771 (r 521),e P n46 778 (r 528),e P n21 779 (r 529),e P n4 780 .none]) 2) #[]
def o551:=ob (.type l7) none (.cls (cd n138 [(r 491)] [(r 531),(r 491),(r 206),(.type GC)] 530 n138 true 0 [(r 607)] false false false)) #[some (r 494),none,some (s n138 737),some (s n138 745),some (.builtin G7),some (.bool true)]
def o552:=tu [(r 531)]
def o564:=fc n147 n148 796 264 3 0 0 3 541 802
def o565:=fb 11 1 n148 .none (s n125 663) 546
def o566:=tu [(.int 0 805)]
def o572:=fc n33 n153 806 267 2 0 0 3 549 817
def o573:=fb 11 2 n153 (r 548) (s n125 663) 554
def o579:=fc n26 n154 820 295 1 0 0 3 556 824
def o580:=fb 11 3 n154 .none (s n125 663) 561
def o586:=fc n43 n155 827 298 2 0 0 3 563 834
def o587:=fb 11 4 n155 .none (s n125 663) 568
def o593:=fc n39 n156 837 307 1 0 0 3 570 844
def o594:=fb 11 5 n156 .none (s n125 663) 575
def o600:=fc n45 n161 847 322 1 0 0 3 577 859
def o601:=fb 11 6 n161 .none (s n125 663) 582
def o624:=ob (.type l3) none (.dict (WM [e P n18 790 (s n125 663),e P n20 794 (.int 261 793),e P n146 795 .none,e P n147 804 (r 547),e P n33 819 (r 555),e P n26 826 (r 562),e P n43 836 (r 569),e P n39 846 (r 576),e P n45 861 (r 583),e P n87 872 (r 590),e P n46 883 (r 597),e P n44 891 (r 604),e P n21 893 (r 605),e P n4 894 .none]) 2) #[]
def o630:=ob (.type l7) none (.cls (cd n145 [(r 531)] [(r 607),(r 531),(r 491),(r 206),(.type GC)] 606 n145 true 0 [(r 679)] false false false)) #[some (r 534),none,some (s n145 783),some (s n145 791),some (.builtin G7),some (.bool true)]
def o634:=ob (.type l19) none (.cell (some (r 679))) #[]
def o644:=fc n147 n169 909 379 3 0 0 3 618 915
def o645:=fb 12 0 n169 .none (s n125 663) 623
def o646:=tu [(.int 0 918)]
def o653:=fc n86 n172 919 382 4 0 0 3 627 927
def o654:=ob (.type l4) none (.func (fd (sub 12 1) n172 3 [(n170,613)] (r 625) .none .none (s n125 663) (r 632) (r 626) 0)) #[]
def o662:=tu [(.int 0 937)]
def o668:=fc n33 n174 938 389 2 0 0 3 642 949
def o669:=fb 12 3 n174 (r 641) (s n125 663) 647
def o682:=fc n37 n176 959 432 1 0 0 3 656 963
def o683:=fb 12 5 n176 .none (s n125 663) 661
def o699:=ob (.type l3) none (.dict (WM [e P n18 904 (s n125 663),e P n20 908 (.int 377 907),e P n147 917 (r 624),e P n86 929 (r 633),e P n34 936 (r 640),e P n33 951 (r 648),e P n46 958 (r 655),e P n37 965 (r 662),e P n38 972 (r 669),e P n44 980 (r 676),e P n21 982 (r 677),e P n4 984 .none]) 3) #[]
def o700:=ob (.type l7) none (.cls (cd n167 [(r 607)] [(r 679),(r 607),(r 531),(r 491),(r 206),(.type GC)] 678 n167 true 0 [] false false false)) #[some (r 610),none,some (s n167 897),some (s n167 905),some (.builtin G7),some (.bool true)]
def o705:=ob (.type l7) none (.cls (cd n138 [(r 491)] [(r 531),(r 491),(r 206),(.type GC)] 530 n138 true 0 [(r 607),(r 778)] false false false)) #[some (r 494),none,some (s n138 737),some (s n138 745),some (.builtin G7),some (.bool true)]
def o709:=ob (.type l19) none (.cell (some (r 778))) #[]
def o719:=fc n147 n182 999 442 3 0 0 3 690 1005
def o720:=fb 13 0 n182 .none (s n125 663) 695
def o727:=fc n86 n183 1008 445 3 0 0 3 698 1015
def o728:=ob (.type l4) none (.func (fd (sub 13 1) n183 3 [(n170,685)] .none .none .none (s n125 663) (r 703) (r 697) 0)) #[]
def o741:=fc n180 n185 1025 452 1 0 0 3 712 1029
def o742:=fb 13 3 n185 .none (s n125 663) 717
def o743:=tu [(.int 0 1032)]
def o749:=fc n33 n188 1033 456 2 0 0 3 720 1046
def o750:=fb 13 4 n188 (r 719) (s n125 663) 725
def o756:=fc n26 n189 1049 487 1 0 0 3 727 1053
def o757:=fb 13 5 n189 .none (s n125 663) 732
def o763:=fc n181 n191 1056 490 1 0 0 3 734 1067
def o764:=fb 13 6 n191 .none (s n125 663) 739
def o770:=fc n39 n192 1070 512 1 0 0 3 741 1074
def o771:=fb 13 7 n192 .none (s n125 663) 746
def o784:=fc n43 n195 1084 518 2 0 0 3 755 1092
def o785:=fb 13 9 n195 .none (s n125 663) 760
def o798:=fc n45 n198 1103 532 1 0 0 3 769 1109
def o799:=fb 13 11 n198 .none (s n125 663) 774
def o801:=ob (.type l3) none (.dict (WM [e P n18 994 (s n125 663),e P n20 998 (.int 440 997),e P n147 1007 (r 696),e P n86 1017 (r 704),e P n27 1024 (r 711),e P n180 1031 (r 718),e P n33 1048 (r 726),e P n26 1055 (r 733),e P n181 1069 (r 740),e P n39 1076 (r 747),e P n40 1083 (r 754),e P n43 1094 (r 761),e P n44 1102 (r 768),e P n45 1111 (r 775),e P n21 1112 (r 776),e P n4 1114 .none]) 3) #[]
def o802:=ob (.type l7) none (.cls (cd n179 [(r 531)] [(r 778),(r 531),(r 491),(r 206),(.type GC)] 777 n179 true 0 [] false false false)) #[some (r 682),none,some (s n179 987),some (s n179 995),some (.builtin G7),some (.bool true)]
def o807:=ob (.type l7) none (.cls (cd n126 [(r 206)] [(r 491),(r 206),(.type GC)] 490 n126 true 0 [(r 531),(r 912)] false false false)) #[some (r 433),none,some (s n126 665),some (s n126 673),some (.builtin G7),some (.bool true)]
def o811:=ob (.type l19) none (.cell (some (r 912))) #[]
def o821:=fc n147 n200 1129 541 3 0 0 3 789 1135
def o822:=fb 14 0 n200 .none (s n125 663) 794
def o829:=fc n86 n201 1138 544 3 0 0 3 797 1145
def o830:=ob (.type l4) none (.func (fd (sub 14 1) n201 3 [(n170,784)] .none .none .none (s n125 663) (r 802) (r 796) 0)) #[]
def o843:=fc n180 n203 1155 551 1 0 0 3 811 1159
def o844:=fb 14 3 n203 .none (s n125 663) 816
def o850:=fc n26 n204 1162 555 1 0 0 3 818 1166
def o851:=fb 14 4 n204 .none (s n125 663) 823
def o857:=fc n181 n208 1169 558 1 0 0 3 825 1178
def o858:=fb 14 5 n208 .none (s n125 663) 830
def o866:=tu [(.int 0 1188)]
def o872:=fc n33 n210 1189 579 2 0 0 3 840 1196
def o873:=fb 14 7 n210 (r 839) (s n125 663) 845
def o879:=fc n37 n211 1199 593 1 0 0 3 847 1203
def o880:=fb 14 8 n211 .none (s n125 663) 852
def o900:=fc n39 n214 1221 602 1 0 0 3 868 1225
def o901:=fb 14 11 n214 .none (s n125 663) 873
def o907:=fc n45 n215 1228 605 1 0 0 3 875 1234
def o908:=fb 14 12 n215 .none (s n125 663) 880
def o914:=fc n43 n216 1237 614 2 0 0 3 882 1242
def o915:=fb 14 13 n216 .none (s n125 663) 887
def o938:=ob (.type l3) none (.dict (WM [e P n18 1124 (s n125 663),e P n20 1128 (.int 539 1127),e P n147 1137 (r 795),e P n86 1147 (r 803),e P n27 1154 (r 810),e P n180 1161 (r 817),e P n26 1168 (r 824),e P n181 1180 (r 831),e P n36 1187 (r 838),e P n33 1198 (r 846),e P n37 1205 (r 853),e P n38 1212 (r 860),e P n44 1220 (r 867),e P n39 1227 (r 874),e P n45 1236 (r 881),e P n43 1244 (r 888),e P n87 1251 (r 895),e P n46 1258 (r 902),e P n42 1265 (r 909),e P n21 1266 (r 910),e P n4 1268 .none]) 3) #[]
def o939:=ob (.type l7) none (.cls (cd n199 [(r 491)] [(r 912),(r 491),(r 206),(.type GC)] 911 n199 true 0 [] false false false)) #[some (r 781),none,some (s n199 1117),some (s n199 1125),some (.builtin G7),some (.bool true)]
def o943:=nf (nl12)
def o944:=ob (.type l7) none (.cls (cd n138 [(r 491)] [(r 531),(r 491),(r 206),(.type GC)] 530 n138 true 0 [(r 607),(r 778),(r 1016)] false false false)) #[some (r 494),none,some (s n138 737),some (s n138 745),some (.builtin G7),some (.bool true)]
def o957:=fc n147 n222 1283 634 3 0 0 3 922 1289
def o958:=fb 15 0 n222 .none (s n125 663) 927
def o964:=fc n86 n223 1292 637 3 0 0 3 929 1298
def o965:=fb 15 1 n223 .none (s n125 663) 934
def o978:=fc n221 n225 1308 644 1 0 0 3 943 1314
def o979:=fb 15 3 n225 .none (s n125 663) 948
def o985:=fc n26 n226 1317 650 1 0 0 3 950 1321
def o986:=fb 15 4 n226 .none (s n125 663) 955
def o992:=fc n39 n227 1324 653 1 0 0 3 957 1328
def o993:=fb 15 5 n227 .none (s n125 663) 962
def o999:=fc n45 n228 1331 656 1 0 0 3 964 1337
def o1000:=fb 15 6 n228 .none (s n125 663) 969
def o1006:=fc n43 n229 1340 665 2 0 0 3 971 1347
def o1007:=fb 15 7 n229 .none (s n125 663) 976
def o1008:=tu [(.int 0 1350)]
def o1014:=fc n33 n232 1351 674 2 0 0 3 979 1362
def o1015:=fb 15 8 n232 (r 978) (s n125 663) 984
def o1045:=ob (.type l3) none (.dict (WM [e P n18 1278 (s n125 663),e P n20 1282 (.int 632 1281),e P n147 1291 (r 928),e P n86 1300 (r 935),e P n27 1307 (r 942),e P n221 1316 (r 949),e P n26 1323 (r 956),e P n39 1330 (r 963),e P n45 1339 (r 970),e P n43 1349 (r 977),e P n33 1364 (r 985),e P n44 1372 (r 992),e P n87 1379 (r 999),e P n46 1386 (r 1006),e P n42 1393 (r 1013),e P n21 1394 (r 1014),e P n4 1395 .none]) 2) #[]
def o1046:=ob (.type l7) none (.cls (cd n220 [(r 531)] [(r 1016),(r 531),(r 491),(r 206),(.type GC)] 1015 n220 true 0 [] false false false)) #[some (r 915),none,some (s n220 1271),some (s n220 1279),some (.builtin G7),some (.bool true)]
def o1052:=ob (.type l7) none (.cls (cd n25 [(.type GC)] [(r 206),(.type GC)] 205 n25 true 0 [(r 276),(r 430),(r 491),(r 1163)] false false false)) #[some (r 48),none,some (s n25 236),some (s n25 244),some (.builtin G7),some (.bool true)]
def o1060:=tu [(.int 1 1412)]
def o1066:=fc n86 n242 1413 715 3 0 0 3 1027 1419
def o1067:=fb 17 0 n242 (r 1026) (s n237 1398) 1032
def o1087:=fc n239 n246 1436 725 2 0 0 3 1048 1441
def o1088:=fb 17 3 n246 .none (s n237 1398) 1053
def o1089:=tu [(.int 0 1444)]
def o1095:=fc n33 n247 1445 728 2 0 0 3 1056 1451
def o1096:=fb 17 4 n247 (r 1055) (s n237 1398) 1061
def o1102:=fc n39 n248 1454 735 1 0 0 3 1063 1458
def o1103:=fb 17 5 n248 .none (s n237 1398) 1068
def o1116:=fc n26 n250 1468 741 1 0 0 3 1077 1472
def o1117:=fb 17 7 n250 .none (s n237 1398) 1082
def o1130:=fc n32 n252 1482 747 1 0 0 3 1091 1486
def o1131:=fb 17 9 n252 .none (s n237 1398) 1096
def o1144:=fc n43 n254 1496 753 2 0 0 3 1105 1501
def o1145:=fb 17 11 n254 .none (s n237 1398) 1110
def o1151:=fc n45 n255 1504 756 1 0 0 3 1112 1508
def o1152:=fb 17 12 n255 .none (s n237 1398) 1117
def o1172:=fc n37 n258 1526 765 1 0 0 3 1133 1530
def o1173:=fb 17 15 n258 .none (s n237 1398) 1138
def o1196:=ob (.type l3) none (.dict (WM [e P n18 1407 (s n237 1398),e P n20 1411 (.int 713 1410),e P n86 1421 (r 1033),e P n34 1428 (r 1040),e P n35 1435 (r 1047),e P n239 1443 (r 1054),e P n33 1453 (r 1062),e P n39 1460 (r 1069),e P n40 1467 (r 1076),e P n26 1474 (r 1083),e P n27 1481 (r 1090),e P n32 1488 (r 1097),e P n42 1495 (r 1104),e P n43 1503 (r 1111),e P n45 1510 (r 1118),e P n36 1517 (r 1125),e P n44 1525 (r 1132),e P n37 1532 (r 1139),e P n38 1539 (r 1146),e P n87 1546 (r 1153),e P n46 1553 (r 1160),e P n21 1556 (r 1161),e P n4 1557 .none]) 2) #[]
def o1203:=tu [(r 1163)]
def o1206:=ob (.type l19) none (.cell (some (r 1241))) #[]
def o1211:=tu [(.bool false),(.int 1 1572)]
def o1218:=fc n86 n264 1573 778 5 0 0 3 1176 1582
def o1219:=ob (.type l4) none (.func (fd (sub 18 0) n264 3 [(n170,1169)] (r 1174) .none .none (s n237 1398) (r 1181) (r 1175) 0)) #[]
def o1239:=fc n239 n267 1599 791 2 0 0 3 1197 1604
def o1240:=fb 18 3 n267 .none (s n237 1398) 1202
def o1246:=fc n181 n268 1607 794 1 0 0 3 1204 1614
def o1247:=fb 18 4 n268 .none (s n237 1398) 1209
def o1253:=fc n45 n269 1617 806 1 0 0 3 1211 1621
def o1254:=fb 18 5 n269 .none (s n237 1398) 1216
def o1260:=fc n43 n270 1624 810 2 0 0 3 1218 1629
def o1261:=fb 18 6 n270 .none (s n237 1398) 1223
def o1277:=ob (.type l3) none (.dict (WM [e P n18 1567 (s n237 1398),e P n20 1571 (.int 776 1570),e P n86 1584 (r 1182),e P n27 1591 (r 1189),e P n34 1598 (r 1196),e P n239 1606 (r 1203),e P n181 1616 (r 1210),e P n45 1623 (r 1217),e P n43 1631 (r 1224),e P n40 1638 (r 1231),e P n41 1645 (r 1238),e P n21 1649 (r 1239),e P n4 1651 .none]) 3) #[]
def o1278:=ob (.type l7) none (.cls (cd n262 [(r 1163)] [(r 1241),(r 1163),(r 206),(.type GC)] 1240 n262 true 0 [] false false false)) #[some (r 1166),none,some (s n262 1560),some (s n262 1568),some (.builtin G7),some (.bool true)]
def o1287:=ob (.type l19) none (.cell (some (r 1347))) #[]
def o1292:=tu [.none,(.int 1 1666),(.int 0 1667)]
def o1299:=fc n86 n277 1668 821 6 0 0 3 1254 1678
def o1300:=ob (.type l4) none (.func (fd (sub 19 0) n277 3 [(n170,1247)] (r 1252) .none .none (s n237 1398) (r 1259) (r 1253) 0)) #[]
def o1313:=fc n239 n279 1688 832 2 0 0 3 1268 1693
def o1314:=fb 19 2 n279 .none (s n237 1398) 1273
def o1320:=fc n26 n280 1696 835 1 0 0 3 1275 1700
def o1321:=fb 19 3 n280 .none (s n237 1398) 1280
def o1341:=fc n181 n283 1717 844 1 0 0 3 1296 1723
def o1342:=fb 19 6 n283 .none (s n237 1398) 1301
def o1348:=fc n39 n284 1726 863 1 0 0 3 1303 1730
def o1349:=fb 19 7 n284 .none (s n237 1398) 1308
def o1362:=fc n45 n286 1740 869 1 0 0 3 1317 1744
def o1363:=fb 19 9 n286 .none (s n237 1398) 1322
def o1369:=fc n43 n287 1747 875 2 0 0 3 1324 1752
def o1370:=fb 19 10 n287 .none (s n237 1398) 1329
def o1386:=ob (.type l3) none (.dict (WM [e P n18 1661 (s n237 1398),e P n20 1665 (.int 819 1664),e P n86 1680 (r 1260),e P n34 1687 (r 1267),e P n239 1695 (r 1274),e P n26 1702 (r 1281),e P n27 1709 (r 1288),e P n36 1716 (r 1295),e P n181 1725 (r 1302),e P n39 1732 (r 1309),e P n40 1739 (r 1316),e P n45 1746 (r 1323),e P n43 1754 (r 1330),e P n87 1761 (r 1337),e P n46 1768 (r 1344),e P n21 1773 (r 1345),e P n4 1775 .none]) 3) #[]
def o1387:=ob (.type l7) none (.cls (cd n274 [(r 1163)] [(r 1347),(r 1163),(r 206),(.type GC)] 1346 n274 true 0 [] false false false)) #[some (r 1244),none,some (s n274 1654),some (s n274 1662),some (.builtin G7),some (.bool true)]
def o1405:=fc n86 n292 1790 890 3 0 0 3 1357 1796
def o1406:=fb 20 0 n292 .none (s n237 1398) 1362
def o1421:=tu [(.int 0 1813)]
def o1427:=fc n33 n295 1814 901 2 0 0 3 1379 1821
def o1428:=fb 20 3 n295 (r 1378) (s n237 1398) 1384
def o1434:=fc n37 n296 1824 915 1 0 0 3 1386 1828
def o1435:=fb 20 4 n296 .none (s n237 1398) 1391
def o1472:=ob (.type l3) none (.dict (WM [e P n18 1785 (s n237 1398),e P n20 1789 (.int 888 1788),e P n86 1798 (r 1363),e P n34 1805 (r 1370),e P n36 1812 (r 1377),e P n33 1823 (r 1385),e P n37 1830 (r 1392),e P n38 1837 (r 1399),e P n44 1845 (r 1406),e P n87 1852 (r 1413),e P n46 1859 (r 1420),e P n42 1866 (r 1427),e P n21 1869 (r 1428),e P n4 1870 .none]) 2) #[]
def o1473:=ob (.type l7) none (.cls (cd n291 [(r 1163)] [(r 1430),(r 1163),(r 206),(.type GC)] 1429 n291 true 0 [] false false false)) #[some (r 1350),none,some (s n291 1778),some (s n291 1786),some (.builtin G7),some (.bool true)]
def o1477:=nf (nl17)
def o1478:=ob (.type l7) none (.cls (cd n238 [(r 206)] [(r 1163),(r 206),(.type GC)] 1162 n238 true 0 [(r 1241),(r 1347),(r 1430),(r 1485)] false false false)) #[some (r 1019),none,some (s n238 1400),some (s n238 1408),some (.builtin G7),some (.bool true)]
def o1486:=tu [(.int 1 1885)]
def o1492:=fc n86 n303 1886 934 3 0 0 3 1441 1892
def o1493:=fb 21 0 n303 (r 1440) (s n237 1398) 1446
def o1506:=fc n239 n305 1902 941 2 0 0 3 1455 1907
def o1507:=fb 21 2 n305 .none (s n237 1398) 1460
def o1513:=fc n37 n306 1910 944 1 0 0 3 1462 1914
def o1514:=fb 21 3 n306 .none (s n237 1398) 1467
def o1530:=ob (.type l3) none (.dict (WM [e P n18 1880 (s n237 1398),e P n20 1884 (.int 932 1883),e P n86 1894 (r 1447),e P n34 1901 (r 1454),e P n239 1909 (r 1461),e P n37 1916 (r 1468),e P n38 1923 (r 1475),e P n46 1930 (r 1482),e P n21 1932 (r 1483),e P n4 1933 .none]) 2) #[]
def o1531:=ob (.type l7) none (.cls (cd n302 [(r 1163)] [(r 1485),(r 1163),(r 206),(.type GC)] 1484 n302 true 0 [] false false false)) #[some (r 1433),none,some (s n302 1873),some (s n302 1881),some (.builtin G7),some (.bool true)]
def o1540:=ob (.type l0) none (.fields (WM [(s n311 1938),(s n311 1939),(s n1 1940),(z 953),(z 2),(z 0),(z 0),(z 3),(r 1488),(.bool true),(z 181),(r 1489),.none,.none,.none,(r 1490),(z 1941),(z 953),(s n1 1942)])) #[]
def o1541:=ob (.type l4) none (.func (fd (top 23) n311 3 [] .none .none .none (s n310 1936) (r 1491) .none 0)) #[]
def o1547:=ob (.type l0) none (.fields (WM [(s n312 1944),(s n312 1945),(s n1 1946),(z 958),(z 3),(z 0),(z 0),(z 3),(r 1493),(.bool true),(z 181),(r 1494),.none,.none,.none,(r 1495),(z 1947),(z 958),(s n1 1948)])) #[]
def o1548:=ob (.type l4) none (.func (fd (top 24) n312 3 [] .none .none .none (s n310 1936) (r 1496) .none 0)) #[]
def o1554:=ob (.type l0) none (.fields (WM [(s n313 1950),(s n313 1951),(s n1 1952),(z 963),(z 5),(z 0),(z 0),(z 3),(r 1498),(.bool true),(z 181),(r 1499),.none,.none,.none,(r 1500),(z 1953),(z 963),(s n1 1954)])) #[]
def o1555:=ob (.type l4) none (.func (fd (top 25) n313 3 [] .none .none .none (s n310 1936) (r 1501) .none 0)) #[]
def o1561:=ob (.type l0) none (.fields (WM [(s n314 1956),(s n314 1957),(s n1 1958),(z 980),(z 4),(z 0),(z 0),(z 3),(r 1503),(.bool true),(z 181),(r 1504),.none,.none,.none,(r 1505),(z 1959),(z 980),(s n1 1960)])) #[]
def o1562:=ob (.type l4) none (.func (fd (top 26) n314 3 [] .none .none .none (s n310 1936) (r 1506) .none 0)) #[]
def o1570:=fc n315 n315 1962 989 1 0 0 3 1508 1981
def o1571:=ob (.type l4) none (.func (fd (top 27) n315 3 [] .none .none .none (s n310 1936) (r 1513) .none 0)) #[]
def o1577:=ob (.type l0) none (.fields (WM [(s n332 1984),(s n332 1985),(s n1 1986),(z 1016),(z 1),(z 0),(z 0),(z 3),(r 1515),(.bool true),(z 181),(r 1516),.none,.none,.none,(r 1517),(z 1987),(z 1016),(s n1 1988)])) #[]
def o1578:=ob (.type l4) none (.func (fd (top 28) n332 3 [] .none .none .none (s n310 1936) (r 1518) .none 0)) #[]
end
noncomputable def B(P:Wg)(x2 x3:Yx):List Obj:=[PySem.W.boot_o_0 P,PySem.W.boot_o_1 P,x2,x3,PySem.W.boot_o_4 P,PySem.W.boot_o_5 P,PySem.W.boot_o_6 P,PySem.W.boot_o_7 P,PySem.W.boot_o_8 P,PySem.W.boot_o_9 P,PySem.W.boot_o_10 P]
noncomputable def alt:List Yx->List Yx
 | []=>[]
 | [a]=>[a]
 | a::_::t=>a::alt t
def bt:Nat->List Yx->BT
 | 0,_=>.nil
 | _+1,[]=>.nil
 | n+1,v::t=>.node v (bt n (alt t)) (bt n (alt t.tail))
theorem Bp:segRunT=PySem.W.Fast.tw10110043849684766642:=PySem.W.Fast.te10110043849684766642
theorem BF:treeTable=PySem.W.Fast.tw14364793385576792824:=PySem.W.Fast.te14364793385576792824
noncomputable def mk(t:BT)(n toks:Nat)(os:We):SharedT:=⟨t,n,{},#[],{},toks,os⟩
abbrev env:Env:={scope:=pT.main.scope,locals:=mainNs,globals:=mainNs,cells:=[],code:=.ref 13,frame:=some 14}
abbrev cE:Code:=.body bT env
noncomputable abbrev q0:Pos:=⟨0,0,0,0⟩
abbrev tf:Frame:=topFrame q0
def N0(P:Wg)(Aj:Yx):List Obj:=[o0,Aj,ob (.type l0) none (.fields (WM [(s n0 182),(s n0 183),(s n1 184),(z 1),(z 0),(z 0),(z 0),(z 0),(r 11),(.bool false),(z 181),(r 12),.none,.none,.none,.none,(z 185),(z 1),(s n1 186)])) #[],ob (.type l1) none .plain #[some (r 13),some (r 3),some (r 3),none,some (s n2 164),none,some (r 0)]]
def L0(P:Wg):List Obj:=B P (ZI P) (PySem.W.boot_o_3 P)++(N0 P (o1))
def S0(w:WW)(os:We):SharedT:=mk (bt 12 (L0 w.params)) 15 187 os
def N1(P:Wg):List Obj:=[o0,o1,tu [(s n13 190)],o0,ob .none none (.func (fd (top 0) n12 0 [] .none .none .none .none .none .none 0)) #[],fc n12 n12 187 1 1 0 0 3 15 191,ob (.type l4) none (.func (fd (top 0) n12 3 [] .none .none .none (s n2 164) (r 20) .none 0)) #[]]
def L1(P:Wg):List Obj:=B P (ZI P) (ob (.type l3) none (.dict (WM (e P n3 165 (s n2 164)::dl0 P)) 10) #[])++(N0 P (o5)++(N1 P))
def S1(w:WW)(os:We):SharedT:=mk (bt 12 (L1 w.params)) 22 194 os
def L2(P:Wg):List Obj:=B P (ZI P) (ob (.type l3) none (.dict (WM (e P n3 165 (s n14 194)::dl0 P)) 10) #[])++(N0 P (o5)++(N1 P))
def S2(w:WW)(os:We):SharedT:=mk (bt 12 (L2 w.params)) 22 196 os
def N3(P:Wg):List Obj:=[o17,o18,ob (.type l3) none (.dict (WM [e P n18 203 (s n14 194),e P n19 205 (s n17 204),e P n20 207 (.int 5 206),e P n21 208 (r 29)]) 4) #[],o0,o1,ob (.type l0) none (.fields (WM [(s n17 198),(s n17 199),(s n1 200),(z 5),(z 0),(z 0),(z 0),(z 0),(r 25),(.bool false),(z 181),(r 26),.none,.none,.none,.none,(z 201),(z 5),(s n1 202)])) #[],ob (.type l1) none .plain #[some (r 27),some (r 3),some (r 24),none,some (s n14 194),none,some (r 0)],o0,ob (.type l3) none (.dict (WM [e P n18 203 (s n14 194),e P n20 207 (.int 5 206),e P n21 208 (r 29),e P n22 210 (r 32),e P n4 211 .none]) 3) #[],ob (.type l7) none (.cls (cd n17 [(.type l5)] [(r 31),(.type l5),(.type l10),(.type GC)] 30 n17 true 0 [] false false false)) #[some (r 22),none,some (s n17 196),some (s n17 204),some (.builtin l9),some (.bool true)],ob (.type l13) none (.fields (WM [(s n22 209),(r 31),(.builtin l12),.none])) #[],ob (.type MY) none (.fields (WM [(r 31),(r 31),(r 31)])) #[],ob (.type l8) none (.fields (WM [(.builtin MZ),(r 31)])) #[]]
def L3(P:Wg):List Obj:=B P (ob .none none (.dict (WM [e P n15 212 (z 31),e P n16 213 (z 1)]) 2) #[]) (ob (.type l3) none (.dict (WM (e P n3 165 (s n14 194)::dl1 P)) 11) #[])++(N0 P (nf (nl0))++(N1 P++(N3 P)))
def S3(w:WW)(os:We):SharedT:=mk (bt 12 (L3 w.params)) 35 216 os
def N4(P:Wg):List Obj:=[o17,o18,ob (.type l3) none (.dict (WM [e P n18 223 (s n14 194),e P n19 225 (s n24 224),e P n20 227 (.int 7 226),e P n21 228 (r 42)]) 4) #[],o0,o1,ob (.type l0) none (.fields (WM [(s n24 218),(s n24 219),(s n1 220),(z 7),(z 0),(z 0),(z 0),(z 0),(r 38),(.bool false),(z 181),(r 39),.none,.none,.none,.none,(z 221),(z 7),(s n1 222)])) #[],ob (.type l1) none .plain #[some (r 40),some (r 3),some (r 37),none,some (s n14 194),none,some (r 0)],o0,ob (.type l3) none (.dict (WM [e P n18 223 (s n14 194),e P n20 227 (.int 7 226),e P n21 228 (r 42),e P n22 230 (r 45),e P n4 231 .none]) 3) #[],ob (.type l7) none (.cls (cd n24 [(.type l5)] [(r 44),(.type l5),(.type l10),(.type GC)] 43 n24 true 0 [] false false false)) #[some (r 35),none,some (s n24 216),some (s n24 224),some (.builtin l9),some (.bool true)],ob (.type l13) none (.fields (WM [(s n22 229),(r 44),(.builtin l12),.none])) #[],ob (.type MY) none (.fields (WM [(r 44),(r 44),(r 44)])) #[],ob (.type l8) none (.fields (WM [(.builtin MZ),(r 44)])) #[]]
def L4(P:Wg):List Obj:=B P (o30 P) (ob (.type l3) none (.dict (WM (e P n3 165 (s n14 194)::dl2 P)) 12) #[])++(N0 P (nf (nl1))++(N1 P++(N3 P++(N4 P))))
def S4(w:WW)(os:We):SharedT:=mk (bt 12 (L4 w.params)) 48 236 os
def N5(P:Wg)(x206:Yx):List Obj:=[tu [(.type GC)],o18,ob (.type l3) none (.dict (WM [e P n18 243 (s n14 194),e P n19 245 (s n25 244),e P n20 247 (.int 9 246),e P n26 254 (r 61),e P n27 261 (r 68),e P n28 268 (r 75),e P n29 277 (r 82),e P n30 287 (r 90),e P n31 294 (r 97),e P n32 301 (r 104),e P n33 310 (r 112),e P n34 317 (r 119),e P n35 324 (r 126),e P n36 331 (r 133),e P n37 338 (r 140),e P n38 345 (r 147),e P n39 352 (r 154),e P n40 359 (r 161),e P n41 366 (r 168),e P n42 373 (r 175),e P n43 381 (r 182),e P n44 389 (r 189),e P n45 396 (r 196),e P n46 403 (r 203),e P n21 404 (r 204)]) 25) #[],o0,nf [(z 11),(z 4),(r 60),(z 14),(z 4),(r 67),(z 17),(z 4),(r 74),(z 20),(z 4),(r 81),(z 28),(z 4),(r 89),(z 43),(z 4),(r 96),(z 46),(z 4),(r 103),(z 49),(z 4),(r 111),(z 52),(z 4),(r 118),(z 55),(z 4),(r 125),(z 58),(z 4),(r 132),(z 61),(z 4),(r 139),(z 64),(z 4),(r 146),(z 67),(z 4),(r 153),(z 70),(z 4),(r 160),(z 73),(z 4),(r 167),(z 76),(z 4),(r 174),(z 79),(z 4),(r 181),(z 83),(z 4),(r 188),(z 86),(z 4),(r 195),(z 89),(z 4),(r 202)],ob (.type l0) none (.fields (WM [(s n25 238),(s n25 239),(s n1 240),(z 9),(z 0),(z 0),(z 0),(z 0),(r 51),(.bool false),(z 181),(r 52),.none,.none,.none,.none,(z 241),(z 9),(s n1 242)])) #[],ob (.type l1) none .plain #[some (r 53),some (r 3),some (r 50),none,some (s n14 194),none,some (r 0)],o0,o1,tu [(s n47 251)],o0,fa 4 0 n48,fc n26 n48 248 11 1 0 0 3 55 252,fb 4 0 n48 .none (s n14 194) 60,o0,o1,tu [(s n47 258)],o0,fa 4 1 n49,fc n27 n49 255 14 1 0 0 3 62 259,fb 4 1 n49 .none (s n14 194) 67,o0,o1,tu [(s n47 265)],o0,fa 4 2 n50,o74,o75,o0,o1,tu [(s n47 272),(s n51 273),(s n52 274)],o0,fa 4 3 n53,o81,o82,o83,o0,o1,tu [(s n47 281),(s n39 282),(s n54 283),(s n55 284)],o0,fa 4 4 n56,o89,o90,o0,o1,tu [(s n47 291)],o0,fa 4 5 n57,fc n31 n57 288 43 1 0 0 3 91 292,fb 4 5 n57 .none (s n14 194) 96,o0,o1,tu [(s n47 298)],o0,fa 4 6 n58,o103,o104,o105,o0,o1,tu [(s n47 306),(s n59 307)],o0,fa 4 7 n60,o111,o112,o0,o1,tu [(s n47 314)],o0,fa 4 8 n61,fc n34 n61 311 52 1 0 0 3 113 315,fb 4 8 n61 .none (s n14 194) 118,o0,o1,tu [(s n47 321)],o0,fa 4 9 n62,fc n35 n62 318 55 1 0 0 3 120 322,fb 4 9 n62 .none (s n14 194) 125,o0,o1,tu [(s n47 328)],o0,fa 4 10 n63,fc n36 n63 325 58 1 0 0 3 127 329,fb 4 10 n63 .none (s n14 194) 132,o0,o1,tu [(s n47 335)],o0,fa 4 11 n64,fc n37 n64 332 61 1 0 0 3 134 336,fb 4 11 n64 .none (s n14 194) 139,o0,o1,tu [(s n47 342)],o0,fa 4 12 n65,fc n38 n65 339 64 1 0 0 3 141 343,fb 4 12 n65 .none (s n14 194) 146,o0,o1,tu [(s n47 349)],o0,fa 4 13 n66,fc n39 n66 346 67 1 0 0 3 148 350,fb 4 13 n66 .none (s n14 194) 153,o0,o1,tu [(s n47 356)],o0,fa 4 14 n67,fc n40 n67 353 70 1 0 0 3 155 357,fb 4 14 n67 .none (s n14 194) 160,o0,o1,tu [(s n47 363)],o0,fa 4 15 n68,fc n41 n68 360 73 1 0 0 3 162 364,fb 4 15 n68 .none (s n14 194) 167,o0,o1,tu [(s n47 370)],o0,fa 4 16 n69,fc n42 n69 367 76 1 0 0 3 169 371,fb 4 16 n69 .none (s n14 194) 174,o0,o1,tu [(s n47 377),(s n39 378)],o0,fa 4 17 n70,fc n43 n70 374 79 2 0 0 3 176 379,fb 4 17 n70 .none (s n14 194) 181,o0,o1,tu [(s n47 385),(s n59 386)],o0,fa 4 18 n71,fc n44 n71 382 83 2 0 0 3 183 387,fb 4 18 n71 .none (s n14 194) 188,o0,o1,tu [(s n47 393)],o0,fa 4 19 n72,fc n45 n72 390 86 1 0 0 3 190 394,fb 4 19 n72 .none (s n14 194) 195,o0,o1,tu [(s n47 400)],o0,fa 4 20 n73,fc n46 n73 397 89 1 0 0 3 197 401,fb 4 20 n73 .none (s n14 194) 202,o0,o205 P,x206,ob (.type l13) none (.fields (WM [(s n74 405),(r 206),(.builtin l17),(.builtin l18)])) #[],ob (.type l13) none (.fields (WM [(s n22 407),(r 206),(.builtin l12),.none])) #[],ob (.type MY) none (.fields (WM [(r 206),(r 206),(r 206)])) #[],ob (.type l8) none (.fields (WM [(.builtin MZ),(r 206)])) #[]]
def L5(P:Wg):List Obj:=B P (o30 P) (ob (.type l3) none (.dict (WM (e P n3 165 (s n14 194)::dl3 P)) 13) #[])++(N0 P (nf (nl2))++(N1 P++(N3 P++(N4 P++(N5 P (ob (.type l7) none (.cls (cd n25 [(.type GC)] [(r 206),(.type GC)] 205 n25 true 0 [] false false false)) #[some (r 48),none,some (s n25 236),some (s n25 244),some (.builtin G7),some (.bool true)]))))))
def S5(w:WW)(os:We):SharedT:=mk (bt 12 (L5 w.params)) 211 412 os
def N6(P:Wg):List Obj:=[o214,o18,ob (.type l3) none (.dict (WM [e P n18 419 (s n14 194),e P n19 421 (s n75 420),e P n20 423 (.int 91 422),e P n36 430 (r 224),e P n37 437 (r 231),e P n38 444 (r 238),e P n44 452 (r 245),e P n26 459 (r 252),e P n27 466 (r 259),e P n40 473 (r 266),e P n34 480 (r 273),e P n21 481 (r 274)]) 12) #[],o0,nf [(z 93),(z 4),(r 223),(z 96),(z 4),(r 230),(z 99),(z 4),(r 237),(z 102),(z 4),(r 244),(z 105),(z 4),(r 251),(z 108),(z 4),(r 258),(z 111),(z 4),(r 265),(z 114),(z 4),(r 272)],ob (.type l0) none (.fields (WM [(s n75 414),(s n75 415),(s n1 416),(z 91),(z 0),(z 0),(z 0),(z 0),(r 214),(.bool false),(z 181),(r 215),.none,.none,.none,.none,(z 417),(z 91),(s n1 418)])) #[],ob (.type l1) none .plain #[some (r 216),some (r 3),some (r 213),none,some (s n14 194),none,some (r 0)],o0,o1,tu [(s n47 427)],o0,fa 5 0 n76,fc n36 n76 424 93 1 0 0 3 218 428,fb 5 0 n76 .none (s n14 194) 223,o0,o1,tu [(s n47 434)],o0,fa 5 1 n77,o233,o234,o0,o1,tu [(s n47 441)],o0,fa 5 2 n78,fc n38 n78 438 99 1 0 0 3 232 442,fb 5 2 n78 .none (s n14 194) 237,o0,o1,tu [(s n47 448),(s n59 449)],o0,fa 5 3 n79,fc n44 n79 445 102 2 0 0 3 239 450,fb 5 3 n79 .none (s n14 194) 244,o0,o1,tu [(s n47 456)],o0,fa 5 4 n80,o254,o255,o0,o1,tu [(s n47 463)],o0,fa 5 5 n81,fc n27 n81 460 108 1 0 0 3 253 464,fb 5 5 n81 .none (s n14 194) 258,o0,o1,tu [(s n47 470)],o0,fa 5 6 n82,fc n40 n82 467 111 1 0 0 3 260 471,fb 5 6 n82 .none (s n14 194) 265,o0,o1,tu [(s n47 477)],o0,fa 5 7 n83,fc n34 n83 474 114 1 0 0 3 267 478,fb 5 7 n83 .none (s n14 194) 272,o0,o278 P,o279,ob (.type MY) none (.fields (WM [(r 276),(r 276),(r 276)])) #[],ob (.type l8) none (.fields (WM [(.builtin MZ),(r 276)])) #[]]
def L6(P:Wg):List Obj:=B P (o30 P) (ob (.type l3) none (.dict (WM (e P n3 165 (s n14 194)::dl4 P)) 14) #[])++(N0 P (nf (nl3))++(N1 P++(N3 P++(N4 P++(N5 P (o213)++(N6 P))))))
def S6(w:WW)(os:We):SharedT:=mk (bt 12 (L6 w.params)) 279 485 os
def N7(P:Wg):List Obj:=[o0,o1,o0,o0,ob .none none (.func (fd (top 6) n84 0 [] .none .none .none .none .none .none 0)) #[],o289,o290]
def L7(P:Wg):List Obj:=B P (o30 P) (ob (.type l3) none (.dict (WM (e P n3 165 (s n14 194)::dl5 P)) 15) #[])++(N0 P (nf (nl4))++(N1 P++(N3 P++(N4 P++(N5 P (o213)++(N6 P++(N7 P)))))))
def S7(w:WW)(os:We):SharedT:=mk (bt 12 (L7 w.params)) 286 491 os
def N8(P:Wg):List Obj:=[o214,o18,ob (.type l3) none (.dict (WM [e P n18 498 (s n14 194),e P n19 500 (s n85 499),e P n20 502 (.int 118 501),e P n86 519 (r 300),e P n26 526 (r 307),e P n27 533 (r 314),e P n43 541 (r 321),e P n28 548 (r 328),e P n34 555 (r 335),e P n33 564 (r 343),e P n36 571 (r 350),e P n37 578 (r 357),e P n38 585 (r 364),e P n44 593 (r 371),e P n39 600 (r 378),e P n40 607 (r 385),e P n41 614 (r 392),e P n42 621 (r 399),e P n45 628 (r 406),e P n87 635 (r 413),e P n88 642 (r 420),e P n46 649 (r 427),e P n21 659 (r 428)]) 23) #[],o0,nf [(z 120),(z 4),(r 299),(z 131),(z 4),(r 306),(z 134),(z 4),(r 313),(z 137),(z 4),(r 320),(z 145),(z 4),(r 327),(z 148),(z 4),(r 334),(z 151),(z 4),(r 342),(z 159),(z 4),(r 349),(z 162),(z 4),(r 356),(z 168),(z 4),(r 363),(z 171),(z 4),(r 370),(z 174),(z 4),(r 377),(z 177),(z 4),(r 384),(z 180),(z 4),(r 391),(z 183),(z 4),(r 398),(z 186),(z 4),(r 405),(z 189),(z 4),(r 412),(z 197),(z 4),(r 419),(z 205),(z 4),(r 426)],ob (.type l0) none (.fields (WM [(s n85 493),(s n85 494),(s n1 495),(z 118),(z 0),(z 0),(z 0),(z 0),(r 289),(.bool false),(z 181),(r 290),.none,.none,.none,.none,(z 496),(z 118),(s n1 497)])) #[],ob (.type l1) none .plain #[some (r 291),some (r 3),some (r 288),none,some (s n14 194),none,some (r 0)],o301,o0,o1,tu [(s n47 507),(s n89 508),(s n90 509),(s n91 510),(s n92 511),(s n93 512),(s n94 513),(s n95 514),(s n28 515),(s n96 516)],o0,fa 7 0 n97,o307,o308,o0,o1,tu [(s n47 523)],o0,fa 7 1 n98,o314,o315,o0,o1,tu [(s n47 530)],o0,fa 7 2 n99,fc n27 n99 527 134 1 0 0 3 308 531,fb 7 2 n99 .none (s n14 194) 313,o0,o1,tu [(s n47 537),(s n39 538)],o0,fa 7 3 n100,o328,o329,o0,o1,tu [(s n47 545)],o0,fa 7 4 n101,o335,o336,o0,o1,tu [(s n47 552)],o0,fa 7 5 n102,fc n34 n102 549 148 1 0 0 3 329 553,fb 7 5 n102 .none (s n14 194) 334,o344,o0,o1,tu [(s n47 560),(s n59 561)],o0,fa 7 6 n103,o350,o351,o0,o1,tu [(s n47 568)],o0,fa 7 7 n104,fc n36 n104 565 159 1 0 0 3 344 569,fb 7 7 n104 .none (s n14 194) 349,o0,o1,tu [(s n47 575)],o0,fa 7 8 n105,o364,o365,o0,o1,tu [(s n47 582)],o0,fa 7 9 n106,fc n38 n106 579 168 1 0 0 3 358 583,fb 7 9 n106 .none (s n14 194) 363,o0,o1,tu [(s n47 589),(s n59 590)],o0,fa 7 10 n107,fc n44 n107 586 171 2 0 0 3 365 591,fb 7 10 n107 .none (s n14 194) 370,o0,o1,tu [(s n47 597)],o0,fa 7 11 n108,o385,o386,o0,o1,tu [(s n47 604)],o0,fa 7 12 n109,fc n40 n109 601 177 1 0 0 3 379 605,fb 7 12 n109 .none (s n14 194) 384,o0,o1,tu [(s n47 611)],o0,fa 7 13 n110,fc n41 n110 608 180 1 0 0 3 386 612,fb 7 13 n110 .none (s n14 194) 391,o0,o1,tu [(s n47 618)],o0,fa 7 14 n111,fc n42 n111 615 183 1 0 0 3 393 619,fb 7 14 n111 .none (s n14 194) 398,o0,o1,tu [(s n47 625)],o0,fa 7 15 n112,o413,o414,o0,o1,tu [(s n47 632)],o0,fa 7 16 n113,fc n87 n113 629 189 1 0 0 3 407 633,fb 7 16 n113 .none (s n14 194) 412,o0,o1,tu [(s n47 639)],o0,fa 7 17 n114,o427,o428,o0,o1,tu [(s n47 646)],o0,fa 7 18 n115,fc n46 n115 643 205 1 0 0 3 421 647,fb 7 18 n115 .none (s n14 194) 426,tu [(s n116 650),(s n117 651),(s n118 652),(s n119 653),(s n120 654),(s n121 655),(s n122 656),(s n123 657),(s n124 658)],o437 P,o438,ob (.type MY) none (.fields (WM [(r 430),(r 430),(r 430)])) #[],ob (.type l8) none (.fields (WM [(.builtin MZ),(r 430)])) #[]]
def L8(P:Wg):List Obj:=B P (o30 P) (ob (.type l3) none (.dict (WM (e P n3 165 (s n14 194)::dl6 P)) 16) #[])++(N0 P (o292)++(N1 P++(N3 P++(N4 P++(N5 P (o293)++(N6 P++(N7 P++(N8 P))))))))
def S8(w:WW)(os:We):SharedT:=mk (bt 12 (L8 w.params)) 433 663 os
def L9(P:Wg):List Obj:=B P (o30 P) (ob (.type l3) none (.dict (WM (e P n3 165 (s n125 663)::dl6 P)) 16) #[])++(N0 P (o292)++(N1 P++(N3 P++(N4 P++(N5 P (o293)++(N6 P++(N7 P++(N8 P))))))))
def S9(w:WW)(os:We):SharedT:=mk (bt 12 (L9 w.params)) 433 665 os
def LF(P:Wg)(x491:Yx):List Obj:=[o214,o18,ob (.type l3) none (.dict (WM [e P n18 672 (s n125 663),e P n19 674 (s n126 673),e P n20 676 (.int 211 675),e P n86 685 (r 446),e P n27 692 (r 453),e P n32 699 (r 460),e P n34 706 (r 467),e P n35 713 (r 474),e P n43 723 (r 481),e P n36 730 (r 488),e P n21 733 (r 489)]) 11) #[],o0,nf [(z 213),(z 4),(r 445),(z 217),(z 4),(r 452),(z 220),(z 4),(r 459),(z 223),(z 4),(r 466),(z 226),(z 4),(r 473),(z 229),(z 4),(r 480),(z 236),(z 4),(r 487)],ob (.type l0) none (.fields (WM [(s n126 667),(s n126 668),(s n1 669),(z 211),(z 0),(z 0),(z 0),(z 0),(r 436),(.bool false),(z 181),(r 437),.none,.none,.none,.none,(z 670),(z 211),(s n1 671)])) #[],ob (.type l1) none .plain #[some (r 438),some (r 3),some (r 435),none,some (s n125 663),none,some (r 0)],o0,o1,tu [(s n47 680),(s n127 681),(s n128 682)],o0,fa 9 0 n129,o457,o458,o0,o1,tu [(s n47 689)],o0,fa 9 1 n130,fc n27 n130 686 217 1 0 0 3 447 690,fb 9 1 n130 .none (s n125 663) 452,o0,o1,tu [(s n47 696)],o0,fa 9 2 n131,o471,o472,o0,o1,tu [(s n47 703)],o0,fa 9 3 n132,fc n34 n132 700 223 1 0 0 3 461 704,fb 9 3 n132 .none (s n125 663) 466,o0,o1,tu [(s n47 710)],o0,fa 9 4 n133,fc n35 n133 707 226 1 0 0 3 468 711,fb 9 4 n133 .none (s n125 663) 473,o0,o1,tu [(s n47 717),(s n39 718),(s n134 719),(s n135 720)],o0,fa 9 5 n136,o492,o493,o0,o1,tu [(s n47 727)],o0,fa 9 6 n137,fc n36 n137 724 236 1 0 0 3 482 728,fb 9 6 n137 .none (s n125 663) 487,tu [(s n127 731),(s n128 732)],o502 P,x491,ob (.type MY) none (.fields (WM [(r 491),(r 491),(r 491)])) #[],ob (.type l8) none (.fields (WM [(.builtin MZ),(r 491)])) #[]]
def L10(P:Wg):List Obj:=B P (o30 P) (ob (.type l3) none (.dict (WM (e P n3 165 (s n125 663)::dl7 P)) 17) #[])++(N0 P (nf (nl6))++(N1 P++(N3 P++(N4 P++(N5 P (o444)++(N6 P++(N7 P++(N8 P++(LF P (ob (.type l7) none (.cls (cd n126 [(r 206)] [(r 491),(r 206),(.type GC)] 490 n126 true 0 [] false false false)) #[some (r 433),none,some (s n126 665),some (s n126 673),some (.builtin G7),some (.bool true)]))))))))))
def S10(w:WW)(os:We):SharedT:=mk (bt 12 (L10 w.params)) 494 737 os
def Lg(P:Wg)(x531:Yx):List Obj:=[o509,o18,ob (.type l3) none (.dict (WM [e P n18 744 (s n125 663),e P n19 746 (s n138 745),e P n20 748 (.int 238 747),e P n37 756 (r 507),e P n38 764 (r 514),e P n87 771 (r 521),e P n46 778 (r 528),e P n21 779 (r 529)]) 8) #[],o0,nf [(z 240),(z 4),(r 506),(z 248),(z 4),(r 513),(z 256),(z 4),(r 520),(z 259),(z 4),(r 527)],ob (.type l0) none (.fields (WM [(s n138 739),(s n138 740),(s n1 741),(z 238),(z 0),(z 0),(z 0),(z 0),(r 497),(.bool false),(z 181),(r 498),.none,.none,.none,.none,(z 742),(z 238),(s n1 743)])) #[],ob (.type l1) none .plain #[some (r 499),some (r 3),some (r 496),none,some (s n125 663),none,some (r 0)],o0,o1,tu [(s n47 752),(s n139 753)],o0,fa 10 0 n140,o521,o522,o0,o1,tu [(s n47 760),(s n141 761)],o0,fa 10 1 n142,fc n38 n142 757 248 1 0 0 3 508 762,fb 10 1 n142 .none (s n125 663) 513,o0,o1,tu [(s n47 768)],o0,fa 10 2 n143,fc n87 n143 765 256 1 0 0 3 515 769,fb 10 2 n143 .none (s n125 663) 520,o0,o1,tu [(s n47 775)],o0,fa 10 3 n144,fc n46 n144 772 259 1 0 0 3 522 776,fb 10 3 n144 .none (s n125 663) 527,o0,o545 P,x531,ob (.type MY) none (.fields (WM [(r 531),(r 531),(r 531)])) #[],ob (.type l8) none (.fields (WM [(.builtin MZ),(r 531)])) #[]]
def L11(P:Wg):List Obj:=B P (o30 P) (ob (.type l3) none (.dict (WM (e P n3 165 (s n125 663)::dl8 P)) 18) #[])++(N0 P (nf (nl7))++(N1 P++(N3 P++(N4 P++(N5 P (o444)++(N6 P++(N7 P++(N8 P++(LF P (o508)++(Lg P (ob (.type l7) none (.cls (cd n138 [(r 491)] [(r 531),(r 491),(r 206),(.type GC)] 530 n138 true 0 [] false false false)) #[some (r 494),none,some (s n138 737),some (s n138 745),some (.builtin G7),some (.bool true)])))))))))))
def S11(w:WW)(os:We):SharedT:=mk (bt 12 (L11 w.params)) 534 783 os
def MV(P:Wg)(x607:Yx):List Obj:=[o552,o18,ob (.type l3) none (.dict (WM [e P n18 790 (s n125 663),e P n19 792 (s n145 791),e P n20 794 (.int 261 793),e P n146 795 .none,e P n147 804 (r 547),e P n33 819 (r 555),e P n26 826 (r 562),e P n43 836 (r 569),e P n39 846 (r 576),e P n45 861 (r 583),e P n87 872 (r 590),e P n46 883 (r 597),e P n44 891 (r 604),e P n21 893 (r 605)]) 14) #[],o0,nf [(z 264),(z 4),(r 546),(z 267),(z 4),(r 554),(z 295),(z 4),(r 561),(z 298),(z 4),(r 568),(z 307),(z 4),(r 575),(z 322),(z 4),(r 582),(z 343),(z 4),(r 589),(z 359),(z 4),(r 596),(z 375),(z 4),(r 603)],ob (.type l0) none (.fields (WM [(s n145 785),(s n145 786),(s n1 787),(z 261),(z 0),(z 0),(z 0),(z 0),(r 537),(.bool false),(z 181),(r 538),.none,.none,.none,.none,(z 788),(z 261),(s n1 789)])) #[],ob (.type l1) none .plain #[some (r 539),some (r 3),some (r 536),none,some (s n125 663),none,some (r 0)],o0,o1,tu [(s n47 799),(s n127 800),(s n128 801)],o0,fa 11 1 n148,o564,o565,o566,o0,o1,tu [(s n47 809),(s n59 810),(s n127 811),(s n128 812),(s n149 813),(s n150 814),(s n151 815),(s n152 816)],o0,fa 11 2 n153,o572,o573,o0,o1,tu [(s n47 823)],o0,fa 11 3 n154,o579,o580,o0,o1,tu [(s n47 830),(s n39 831),(s n134 832),(s n135 833)],o0,fa 11 4 n155,o586,o587,o0,o1,tu [(s n47 840),(s n146 841),(s n127 842),(s n128 843)],o0,fa 11 5 n156,o593,o594,o0,o1,tu [(s n47 850),(s n127 851),(s n128 852),(s n149 853),(s n150 854),(s n157 855),(s n158 856),(s n159 857),(s n160 858)],o0,fa 11 6 n161,o600,o601,o0,o1,tu [(s n47 865),(s n127 866),(s n128 867),(s n162 868),(s n163 869)],o0,fa 11 7 n164,fc n87 n164 862 343 1 0 0 3 584 870,fb 11 7 n164 .none (s n125 663) 589,o0,o1,tu [(s n47 876),(s n127 877),(s n128 878),(s n162 879),(s n163 880)],o0,fa 11 8 n165,fc n46 n165 873 359 1 0 0 3 591 881,fb 11 8 n165 .none (s n125 663) 596,o0,o1,tu [(s n47 887),(s n59 888)],o0,fa 11 9 n166,fc n44 n166 884 375 2 0 0 3 598 889,fb 11 9 n166 .none (s n125 663) 603,tu [(s n146 892)],o624 P,x607,ob (.type MY) none (.fields (WM [(r 607),(r 607),(r 607)])) #[],ob (.type l8) none (.fields (WM [(.builtin MZ),(r 607)])) #[]]
def L12(P:Wg):List Obj:=B P (o30 P) (ob (.type l3) none (.dict (WM (e P n3 165 (s n125 663)::dl9 P)) 19) #[])++(N0 P (nf (nl8))++(N1 P++(N3 P++(N4 P++(N5 P (o444)++(N6 P++(N7 P++(N8 P++(LF P (o508)++(Lg P (o551)++(MV P (ob (.type l7) none (.cls (cd n145 [(r 531)] [(r 607),(r 531),(r 491),(r 206),(.type GC)] 606 n145 true 0 [] false false false)) #[some (r 534),none,some (s n145 783),some (s n145 791),some (.builtin G7),some (.bool true)]))))))))))))
def S12(w:WW)(os:We):SharedT:=mk (bt 12 (L12 w.params)) 610 897 os
def Mb(P:Wg):List Obj:=[tu [(r 607)],o18,ob (.type l3) none (.dict (WM [e P n18 904 (s n125 663),e P n19 906 (s n167 905),e P n20 908 (.int 377 907),e P n147 917 (r 624),e P n86 929 (r 633),e P n34 936 (r 640),e P n33 951 (r 648),e P n46 958 (r 655),e P n37 965 (r 662),e P n38 972 (r 669),e P n44 980 (r 676),e P n21 982 (r 677),e P n168 983 (r 613)]) 13) #[],o634,o0,nf [(z 379),(z 4),(r 623),(z 382),(z 4),(r 632),(z 386),(z 4),(r 639),(z 389),(z 4),(r 647),(z 424),(z 4),(r 654),(z 432),(z 4),(r 661),(z 435),(z 4),(r 668),(z 438),(z 4),(r 675)],ob (.type l0) none (.fields (WM [(s n167 899),(s n167 900),(s n1 901),(z 377),(z 0),(z 0),(z 0),(z 0),(r 614),(.bool false),(z 181),(r 615),.none,.none,.none,.none,(z 902),(z 377),(s n1 903)])) #[],ob (.type l1) none .plain #[some (r 616),some (r 3),some (r 612),none,some (s n125 663),none,some (r 0)],o0,o1,tu [(s n47 912),(s n127 913),(s n128 914)],o0,fa 12 0 n169,o644,o645,o646,tu [(r 613)],tu [(s n170 922)],o1,tu [(s n47 923),(s n127 924),(s n128 925),(s n171 926)],o0,fa 12 1 n172,o653,o654,o0,o1,tu [(s n47 933)],o0,fa 12 2 n173,fc n34 n173 930 386 1 0 0 3 634 934,fb 12 2 n173 .none (s n125 663) 639,o662,o0,o1,tu [(s n47 941),(s n59 942),(s n127 943),(s n128 944),(s n149 945),(s n150 946),(s n151 947),(s n152 948)],o0,fa 12 3 n174,o668,o669,o0,o1,tu [(s n47 955)],o0,fa 12 4 n175,fc n46 n175 952 424 1 0 0 3 649 956,fb 12 4 n175 .none (s n125 663) 654,o0,o1,tu [(s n47 962)],o0,fa 12 5 n176,o682,o683,o0,o1,tu [(s n47 969)],o0,fa 12 6 n177,fc n38 n177 966 435 1 0 0 3 663 970,fb 12 6 n177 .none (s n125 663) 668,o0,o1,tu [(s n47 976),(s n59 977)],o0,fa 12 7 n178,fc n44 n178 973 438 2 0 0 3 670 978,fb 12 7 n178 .none (s n125 663) 675,tu [(s n171 981)],o699 P,o700,ob (.type MY) none (.fields (WM [(r 679),(r 679),(r 679)])) #[],ob (.type l8) none (.fields (WM [(.builtin MZ),(r 679)])) #[]]
def L13(P:Wg):List Obj:=B P (o30 P) (ob (.type l3) none (.dict (WM (e P n3 165 (s n125 663)::dl10 P)) 20) #[])++(N0 P (nf (nl9))++(N1 P++(N3 P++(N4 P++(N5 P (o444)++(N6 P++(N7 P++(N8 P++(LF P (o508)++(Lg P (o551)++(MV P (o630)++(Mb P))))))))))))
def S13(w:WW)(os:We):SharedT:=mk (bt 12 (L13 w.params)) 682 987 os
def Na(P:Wg):List Obj:=[o552,o18,ob (.type l3) none (.dict (WM [e P n18 994 (s n125 663),e P n19 996 (s n179 995),e P n20 998 (.int 440 997),e P n147 1007 (r 696),e P n86 1017 (r 704),e P n27 1024 (r 711),e P n180 1031 (r 718),e P n33 1048 (r 726),e P n26 1055 (r 733),e P n181 1069 (r 740),e P n39 1076 (r 747),e P n40 1083 (r 754),e P n43 1094 (r 761),e P n44 1102 (r 768),e P n45 1111 (r 775),e P n21 1112 (r 776),e P n168 1113 (r 685)]) 17) #[],o709,o0,nf [(z 442),(z 4),(r 695),(z 445),(z 4),(r 703),(z 449),(z 4),(r 710),(z 452),(z 4),(r 717),(z 456),(z 4),(r 725),(z 487),(z 4),(r 732),(z 490),(z 4),(r 739),(z 512),(z 4),(r 746),(z 515),(z 4),(r 753),(z 518),(z 4),(r 760),(z 529),(z 4),(r 767),(z 532),(z 4),(r 774)],ob (.type l0) none (.fields (WM [(s n179 989),(s n179 990),(s n1 991),(z 440),(z 0),(z 0),(z 0),(z 0),(r 686),(.bool false),(z 181),(r 687),.none,.none,.none,.none,(z 992),(z 440),(s n1 993)])) #[],ob (.type l1) none .plain #[some (r 688),some (r 3),some (r 684),none,some (s n125 663),none,some (r 0)],o0,o1,tu [(s n47 1002),(s n127 1003),(s n128 1004)],o0,fa 13 0 n182,o719,o720,tu [(r 685)],tu [(s n170 1011)],o1,tu [(s n47 1012),(s n127 1013),(s n128 1014)],o0,fa 13 1 n183,o727,o728,o0,o1,tu [(s n47 1021)],o0,fa 13 2 n184,fc n27 n184 1018 449 1 0 0 3 705 1022,fb 13 2 n184 .none (s n125 663) 710,o0,o1,tu [(s n47 1028)],o0,fa 13 3 n185,o741,o742,o743,o0,o1,tu [(s n47 1036),(s n59 1037),(s n127 1038),(s n128 1039),(s n149 1040),(s n150 1041),(s n151 1042),(s n152 1043),(s n186 1044),(s n187 1045)],o0,fa 13 4 n188,o749,o750,o0,o1,tu [(s n47 1052)],o0,fa 13 5 n189,o756,o757,o0,o1,tu [(s n47 1059),(s n127 1060),(s n128 1061),(s n157 1062),(s n158 1063),(s n190 1064),(s n134 1065),(s n135 1066)],o0,fa 13 6 n191,o763,o764,o0,o1,tu [(s n47 1073)],o0,fa 13 7 n192,o770,o771,o0,o1,tu [(s n47 1080)],o0,fa 13 8 n193,fc n40 n193 1077 515 1 0 0 3 748 1081,fb 13 8 n193 .none (s n125 663) 753,o0,o1,tu [(s n47 1087),(s n39 1088),(s n134 1089),(s n135 1090),(s n194 1091)],o0,fa 13 9 n195,o784,o785,o0,o1,tu [(s n47 1098),(s n59 1099)],o0,fa 13 10 n196,fc n44 n196 1095 529 2 0 0 3 762 1100,fb 13 10 n196 .none (s n125 663) 767,o0,o1,tu [(s n47 1106),(s n159 1107),(s n197 1108)],o0,fa 13 11 n198,o798,o799,o0,o801 P,o802,ob (.type MY) none (.fields (WM [(r 778),(r 778),(r 778)])) #[],ob (.type l8) none (.fields (WM [(.builtin MZ),(r 778)])) #[]]
def L14(P:Wg):List Obj:=B P (o30 P) (ob (.type l3) none (.dict (WM (e P n3 165 (s n125 663)::dl11 P)) 21) #[])++(N0 P (nf (nl10))++(N1 P++(N3 P++(N4 P++(N5 P (o444)++(N6 P++(N7 P++(N8 P++(LF P (o508)++(Lg P (o705)++(MV P (o630)++(Mb P++(Na P)))))))))))))
def S14(w:WW)(os:We):SharedT:=mk (bt 12 (L14 w.params)) 781 1117 os
def Nd(P:Wg):List Obj:=[o509,o18,ob (.type l3) none (.dict (WM [e P n18 1124 (s n125 663),e P n19 1126 (s n199 1125),e P n20 1128 (.int 539 1127),e P n147 1137 (r 795),e P n86 1147 (r 803),e P n27 1154 (r 810),e P n180 1161 (r 817),e P n26 1168 (r 824),e P n181 1180 (r 831),e P n36 1187 (r 838),e P n33 1198 (r 846),e P n37 1205 (r 853),e P n38 1212 (r 860),e P n44 1220 (r 867),e P n39 1227 (r 874),e P n45 1236 (r 881),e P n43 1244 (r 888),e P n87 1251 (r 895),e P n46 1258 (r 902),e P n42 1265 (r 909),e P n21 1266 (r 910),e P n168 1267 (r 784)]) 22) #[],o811,o0,nf [(z 541),(z 4),(r 794),(z 544),(z 4),(r 802),(z 548),(z 4),(r 809),(z 551),(z 4),(r 816),(z 555),(z 4),(r 823),(z 558),(z 4),(r 830),(z 576),(z 4),(r 837),(z 579),(z 4),(r 845),(z 593),(z 4),(r 852),(z 596),(z 4),(r 859),(z 599),(z 4),(r 866),(z 602),(z 4),(r 873),(z 605),(z 4),(r 880),(z 614),(z 4),(r 887),(z 624),(z 4),(r 894),(z 627),(z 4),(r 901),(z 630),(z 4),(r 908)],ob (.type l0) none (.fields (WM [(s n199 1119),(s n199 1120),(s n1 1121),(z 539),(z 0),(z 0),(z 0),(z 0),(r 785),(.bool false),(z 181),(r 786),.none,.none,.none,.none,(z 1122),(z 539),(s n1 1123)])) #[],ob (.type l1) none .plain #[some (r 787),some (r 3),some (r 783),none,some (s n125 663),none,some (r 0)],o0,o1,tu [(s n47 1132),(s n127 1133),(s n128 1134)],o0,fa 14 0 n200,o821,o822,tu [(r 784)],tu [(s n170 1141)],o1,tu [(s n47 1142),(s n127 1143),(s n128 1144)],o0,fa 14 1 n201,o829,o830,o0,o1,tu [(s n47 1151)],o0,fa 14 2 n202,fc n27 n202 1148 548 1 0 0 3 804 1152,fb 14 2 n202 .none (s n125 663) 809,o0,o1,tu [(s n47 1158)],o0,fa 14 3 n203,o843,o844,o0,o1,tu [(s n47 1165)],o0,fa 14 4 n204,o850,o851,o0,o1,tu [(s n47 1172),(s n205 1173),(s n206 1174),(s n207 1175),(s n190 1176),(s n197 1177)],o0,fa 14 5 n208,o857,o858,o0,o1,tu [(s n47 1184)],o0,fa 14 6 n209,fc n36 n209 1181 576 1 0 0 3 832 1185,fb 14 6 n209 .none (s n125 663) 837,o866,o0,o1,tu [(s n47 1192),(s n59 1193),(s n127 1194),(s n128 1195)],o0,fa 14 7 n210,o872,o873,o0,o1,tu [(s n47 1202)],o0,fa 14 8 n211,o879,o880,o0,o1,tu [(s n47 1209)],o0,fa 14 9 n212,fc n38 n212 1206 596 1 0 0 3 854 1210,fb 14 9 n212 .none (s n125 663) 859,o0,o1,tu [(s n47 1216),(s n59 1217)],o0,fa 14 10 n213,fc n44 n213 1213 599 2 0 0 3 861 1218,fb 14 10 n213 .none (s n125 663) 866,o0,o1,tu [(s n47 1224)],o0,fa 14 11 n214,o900,o901,o0,o1,tu [(s n47 1231),(s n159 1232),(s n197 1233)],o0,fa 14 12 n215,o907,o908,o0,o1,tu [(s n47 1240),(s n39 1241)],o0,fa 14 13 n216,o914,o915,o0,o1,tu [(s n47 1248)],o0,fa 14 14 n217,fc n87 n217 1245 624 1 0 0 3 889 1249,fb 14 14 n217 .none (s n125 663) 894,o0,o1,tu [(s n47 1255)],o0,fa 14 15 n218,fc n46 n218 1252 627 1 0 0 3 896 1256,fb 14 15 n218 .none (s n125 663) 901,o0,o1,tu [(s n47 1262)],o0,fa 14 16 n219,fc n42 n219 1259 630 1 0 0 3 903 1263,fb 14 16 n219 .none (s n125 663) 908,o0,o938 P,o939,ob (.type MY) none (.fields (WM [(r 912),(r 912),(r 912)])) #[],ob (.type l8) none (.fields (WM [(.builtin MZ),(r 912)])) #[]]
def L15(P:Wg):List Obj:=B P (o30 P) (ob (.type l3) none (.dict (WM (e P n3 165 (s n125 663)::dl12 P)) 22) #[])++(N0 P (nf (nl11))++(N1 P++(N3 P++(N4 P++(N5 P (o444)++(N6 P++(N7 P++(N8 P++(LF P (o807)++(Lg P (o705)++(MV P (o630)++(Mb P++(Na P++(Nd P))))))))))))))
def S15(w:WW)(os:We):SharedT:=mk (bt 12 (L15 w.params)) 915 1271 os
def OU(P:Wg):List Obj:=[o552,o18,ob (.type l3) none (.dict (WM [e P n18 1278 (s n125 663),e P n19 1280 (s n220 1279),e P n20 1282 (.int 632 1281),e P n147 1291 (r 928),e P n86 1300 (r 935),e P n27 1307 (r 942),e P n221 1316 (r 949),e P n26 1323 (r 956),e P n39 1330 (r 963),e P n45 1339 (r 970),e P n43 1349 (r 977),e P n33 1364 (r 985),e P n44 1372 (r 992),e P n87 1379 (r 999),e P n46 1386 (r 1006),e P n42 1393 (r 1013),e P n21 1394 (r 1014)]) 17) #[],o0,nf [(z 634),(z 4),(r 927),(z 637),(z 4),(r 934),(z 641),(z 4),(r 941),(z 644),(z 4),(r 948),(z 650),(z 4),(r 955),(z 653),(z 4),(r 962),(z 656),(z 4),(r 969),(z 665),(z 4),(r 976),(z 674),(z 4),(r 984),(z 695),(z 4),(r 991),(z 698),(z 4),(r 998),(z 704),(z 4),(r 1005),(z 710),(z 4),(r 1012)],ob (.type l0) none (.fields (WM [(s n220 1273),(s n220 1274),(s n1 1275),(z 632),(z 0),(z 0),(z 0),(z 0),(r 918),(.bool false),(z 181),(r 919),.none,.none,.none,.none,(z 1276),(z 632),(s n1 1277)])) #[],ob (.type l1) none .plain #[some (r 920),some (r 3),some (r 917),none,some (s n125 663),none,some (r 0)],o0,o1,tu [(s n47 1286),(s n127 1287),(s n128 1288)],o0,fa 15 0 n222,o957,o958,o0,o1,tu [(s n47 1295),(s n127 1296),(s n128 1297)],o0,fa 15 1 n223,o964,o965,o0,o1,tu [(s n47 1304)],o0,fa 15 2 n224,fc n27 n224 1301 641 1 0 0 3 936 1305,fb 15 2 n224 .none (s n125 663) 941,o0,o1,tu [(s n47 1311),(s n127 1312),(s n128 1313)],o0,fa 15 3 n225,o978,o979,o0,o1,tu [(s n47 1320)],o0,fa 15 4 n226,o985,o986,o0,o1,tu [(s n47 1327)],o0,fa 15 5 n227,o992,o993,o0,o1,tu [(s n47 1334),(s n159 1335),(s n160 1336)],o0,fa 15 6 n228,o999,o1000,o0,o1,tu [(s n47 1343),(s n39 1344),(s n134 1345),(s n135 1346)],o0,fa 15 7 n229,o1006,o1007,o1008,o0,o1,tu [(s n47 1354),(s n59 1355),(s n127 1356),(s n128 1357),(s n149 1358),(s n150 1359),(s n230 1360),(s n231 1361)],o0,fa 15 8 n232,o1014,o1015,o0,o1,tu [(s n47 1368),(s n59 1369)],o0,fa 15 9 n233,fc n44 n233 1365 695 2 0 0 3 986 1370,fb 15 9 n233 .none (s n125 663) 991,o0,o1,tu [(s n47 1376)],o0,fa 15 10 n234,fc n87 n234 1373 698 1 0 0 3 993 1377,fb 15 10 n234 .none (s n125 663) 998,o0,o1,tu [(s n47 1383)],o0,fa 15 11 n235,fc n46 n235 1380 704 1 0 0 3 1000 1384,fb 15 11 n235 .none (s n125 663) 1005,o0,o1,tu [(s n47 1390)],o0,fa 15 12 n236,fc n42 n236 1387 710 1 0 0 3 1007 1391,fb 15 12 n236 .none (s n125 663) 1012,o0,o1045 P,o1046,ob (.type MY) none (.fields (WM [(r 1016),(r 1016),(r 1016)])) #[],ob (.type l8) none (.fields (WM [(.builtin MZ),(r 1016)])) #[]]
def L16(P:Wg):List Obj:=B P (o30 P) (ob (.type l3) none (.dict (WM (e P n3 165 (s n125 663)::dl13 P)) 23) #[])++(N0 P (o943)++(N1 P++(N3 P++(N4 P++(N5 P (o444)++(N6 P++(N7 P++(N8 P++(LF P (o807)++(Lg P (o944)++(MV P (o630)++(Mb P++(Na P++(Nd P++(OU P)))))))))))))))
def S16(w:WW)(os:We):SharedT:=mk (bt 12 (L16 w.params)) 1019 1398 os
def L17(P:Wg):List Obj:=B P (o30 P) (ob (.type l3) none (.dict (WM (e P n3 165 (s n237 1398)::dl13 P)) 23) #[])++(N0 P (o943)++(N1 P++(N3 P++(N4 P++(N5 P (o444)++(N6 P++(N7 P++(N8 P++(LF P (o807)++(Lg P (o944)++(MV P (o630)++(Mb P++(Na P++(Nd P++(OU P)))))))))))))))
def S17(w:WW)(os:We):SharedT:=mk (bt 12 (L17 w.params)) 1019 1400 os
def QH(P:Wg)(x1163:Yx):List Obj:=[o214,o18,ob (.type l3) none (.dict (WM [e P n18 1407 (s n237 1398),e P n19 1409 (s n238 1408),e P n20 1411 (.int 713 1410),e P n86 1421 (r 1033),e P n34 1428 (r 1040),e P n35 1435 (r 1047),e P n239 1443 (r 1054),e P n33 1453 (r 1062),e P n39 1460 (r 1069),e P n40 1467 (r 1076),e P n26 1474 (r 1083),e P n27 1481 (r 1090),e P n32 1488 (r 1097),e P n42 1495 (r 1104),e P n43 1503 (r 1111),e P n45 1510 (r 1118),e P n36 1517 (r 1125),e P n44 1525 (r 1132),e P n37 1532 (r 1139),e P n38 1539 (r 1146),e P n87 1546 (r 1153),e P n46 1553 (r 1160),e P n21 1556 (r 1161)]) 23) #[],o0,nf [(z 715),(z 4),(r 1032),(z 719),(z 4),(r 1039),(z 722),(z 4),(r 1046),(z 725),(z 4),(r 1053),(z 728),(z 4),(r 1061),(z 735),(z 4),(r 1068),(z 738),(z 4),(r 1075),(z 741),(z 4),(r 1082),(z 744),(z 4),(r 1089),(z 747),(z 4),(r 1096),(z 750),(z 4),(r 1103),(z 753),(z 4),(r 1110),(z 756),(z 4),(r 1117),(z 759),(z 4),(r 1124),(z 762),(z 4),(r 1131),(z 765),(z 4),(r 1138),(z 768),(z 4),(r 1145),(z 771),(z 4),(r 1152),(z 774),(z 4),(r 1159)],ob (.type l0) none (.fields (WM [(s n238 1402),(s n238 1403),(s n1 1404),(z 713),(z 0),(z 0),(z 0),(z 0),(r 1022),(.bool false),(z 181),(r 1023),.none,.none,.none,.none,(z 1405),(z 713),(s n1 1406)])) #[],ob (.type l1) none .plain #[some (r 1024),some (r 3),some (r 1021),none,some (s n237 1398),none,some (r 0)],o1060,o0,o1,tu [(s n47 1416),(s n240 1417),(s n241 1418)],o0,fa 17 0 n242,o1066,o1067,o0,o1,tu [(s n47 1425)],o0,fa 17 1 n243,fc n34 n243 1422 719 1 0 0 3 1034 1426,fb 17 1 n243 .none (s n237 1398) 1039,o0,o1,tu [(s n47 1432)],o0,fa 17 2 n244,fc n35 n244 1429 722 1 0 0 3 1041 1433,fb 17 2 n244 .none (s n237 1398) 1046,o0,o1,tu [(s n47 1439),(s n245 1440)],o0,fa 17 3 n246,o1087,o1088,o1089,o0,o1,tu [(s n47 1448),(s n59 1449),(s n190 1450)],o0,fa 17 4 n247,o1095,o1096,o0,o1,tu [(s n47 1457)],o0,fa 17 5 n248,o1102,o1103,o0,o1,tu [(s n47 1464)],o0,fa 17 6 n249,fc n40 n249 1461 738 1 0 0 3 1070 1465,fb 17 6 n249 .none (s n237 1398) 1075,o0,o1,tu [(s n47 1471)],o0,fa 17 7 n250,o1116,o1117,o0,o1,tu [(s n47 1478)],o0,fa 17 8 n251,fc n27 n251 1475 744 1 0 0 3 1084 1479,fb 17 8 n251 .none (s n237 1398) 1089,o0,o1,tu [(s n47 1485)],o0,fa 17 9 n252,o1130,o1131,o0,o1,tu [(s n47 1492)],o0,fa 17 10 n253,fc n42 n253 1489 750 1 0 0 3 1098 1493,fb 17 10 n253 .none (s n237 1398) 1103,o0,o1,tu [(s n47 1499),(s n39 1500)],o0,fa 17 11 n254,o1144,o1145,o0,o1,tu [(s n47 1507)],o0,fa 17 12 n255,o1151,o1152,o0,o1,tu [(s n47 1514)],o0,fa 17 13 n256,fc n36 n256 1511 759 1 0 0 3 1119 1515,fb 17 13 n256 .none (s n237 1398) 1124,o0,o1,tu [(s n47 1521),(s n59 1522)],o0,fa 17 14 n257,fc n44 n257 1518 762 2 0 0 3 1126 1523,fb 17 14 n257 .none (s n237 1398) 1131,o0,o1,tu [(s n47 1529)],o0,fa 17 15 n258,o1172,o1173,o0,o1,tu [(s n47 1536)],o0,fa 17 16 n259,fc n38 n259 1533 768 1 0 0 3 1140 1537,fb 17 16 n259 .none (s n237 1398) 1145,o0,o1,tu [(s n47 1543)],o0,fa 17 17 n260,fc n87 n260 1540 771 1 0 0 3 1147 1544,fb 17 17 n260 .none (s n237 1398) 1152,o0,o1,tu [(s n47 1550)],o0,fa 17 18 n261,fc n46 n261 1547 774 1 0 0 3 1154 1551,fb 17 18 n261 .none (s n237 1398) 1159,tu [(s n241 1554),(s n240 1555)],o1196 P,x1163,ob (.type MY) none (.fields (WM [(r 1163),(r 1163),(r 1163)])) #[],ob (.type l8) none (.fields (WM [(.builtin MZ),(r 1163)])) #[]]
def L18(P:Wg):List Obj:=B P (o30 P) (ob (.type l3) none (.dict (WM (e P n3 165 (s n237 1398)::dl14 P)) 24) #[])++(N0 P (nf (nl13))++(N1 P++(N3 P++(N4 P++(N5 P (o1052)++(N6 P++(N7 P++(N8 P++(LF P (o807)++(Lg P (o944)++(MV P (o630)++(Mb P++(Na P++(Nd P++(OU P++(QH P (ob (.type l7) none (.cls (cd n238 [(r 206)] [(r 1163),(r 206),(.type GC)] 1162 n238 true 0 [] false false false)) #[some (r 1019),none,some (s n238 1400),some (s n238 1408),some (.builtin G7),some (.bool true)])))))))))))))))))
def S18(w:WW)(os:We):SharedT:=mk (bt 12 (L18 w.params)) 1166 1560 os
def QM(P:Wg):List Obj:=[o1203,o18,ob (.type l3) none (.dict (WM [e P n18 1567 (s n237 1398),e P n19 1569 (s n262 1568),e P n20 1571 (.int 776 1570),e P n86 1584 (r 1182),e P n27 1591 (r 1189),e P n34 1598 (r 1196),e P n239 1606 (r 1203),e P n181 1616 (r 1210),e P n45 1623 (r 1217),e P n43 1631 (r 1224),e P n40 1638 (r 1231),e P n41 1645 (r 1238),e P n21 1649 (r 1239),e P n168 1650 (r 1169)]) 14) #[],o1206,o0,nf [(z 778),(z 4),(r 1181),(z 785),(z 4),(r 1188),(z 788),(z 4),(r 1195),(z 791),(z 4),(r 1202),(z 794),(z 4),(r 1209),(z 806),(z 4),(r 1216),(z 810),(z 4),(r 1223),(z 814),(z 4),(r 1230),(z 817),(z 4),(r 1237)],ob (.type l0) none (.fields (WM [(s n262 1562),(s n262 1563),(s n1 1564),(z 776),(z 0),(z 0),(z 0),(z 0),(r 1170),(.bool false),(z 181),(r 1171),.none,.none,.none,.none,(z 1565),(z 776),(s n1 1566)])) #[],ob (.type l1) none .plain #[some (r 1172),some (r 3),some (r 1168),none,some (s n237 1398),none,some (r 0)],o1211,tu [(r 1169)],tu [(s n170 1576)],o1,tu [(s n47 1577),(s n240 1578),(s n89 1579),(s n263 1580),(s n241 1581)],o0,fa 18 0 n264,o1218,o1219,o0,o1,tu [(s n47 1588)],o0,fa 18 1 n265,fc n27 n265 1585 785 1 0 0 3 1183 1589,fb 18 1 n265 .none (s n237 1398) 1188,o0,o1,tu [(s n47 1595)],o0,fa 18 2 n266,fc n34 n266 1592 788 1 0 0 3 1190 1596,fb 18 2 n266 .none (s n237 1398) 1195,o0,o1,tu [(s n47 1602),(s n245 1603)],o0,fa 18 3 n267,o1239,o1240,o0,o1,tu [(s n47 1610),(s n240 1611),(s n89 1612),(s n190 1613)],o0,fa 18 4 n268,o1246,o1247,o0,o1,tu [(s n47 1620)],o0,fa 18 5 n269,o1253,o1254,o0,o1,tu [(s n47 1627),(s n39 1628)],o0,fa 18 6 n270,o1260,o1261,o0,o1,tu [(s n47 1635)],o0,fa 18 7 n271,fc n40 n271 1632 814 1 0 0 3 1225 1636,fb 18 7 n271 .none (s n237 1398) 1230,o0,o1,tu [(s n47 1642)],o0,fa 18 8 n272,fc n41 n272 1639 817 1 0 0 3 1232 1643,fb 18 8 n272 .none (s n237 1398) 1237,tu [(s n273 1646),(s n119 1647),(s n241 1648)],o1277 P,o1278,ob (.type MY) none (.fields (WM [(r 1241),(r 1241),(r 1241)])) #[],ob (.type l8) none (.fields (WM [(.builtin MZ),(r 1241)])) #[]]
def L19(P:Wg):List Obj:=B P (o30 P) (ob (.type l3) none (.dict (WM (e P n3 165 (s n237 1398)::dl15 P)) 25) #[])++(N0 P (nf (nl14))++(N1 P++(N3 P++(N4 P++(N5 P (o1052)++(N6 P++(N7 P++(N8 P++(LF P (o807)++(Lg P (o944)++(MV P (o630)++(Mb P++(Na P++(Nd P++(OU P++(QH P (ob (.type l7) none (.cls (cd n238 [(r 206)] [(r 1163),(r 206),(.type GC)] 1162 n238 true 0 [(r 1241)] false false false)) #[some (r 1019),none,some (s n238 1400),some (s n238 1408),some (.builtin G7),some (.bool true)])++(QM P)))))))))))))))))
def S19(w:WW)(os:We):SharedT:=mk (bt 12 (L19 w.params)) 1244 1654 os
def SC(P:Wg):List Obj:=[o1203,o18,ob (.type l3) none (.dict (WM [e P n18 1661 (s n237 1398),e P n19 1663 (s n274 1662),e P n20 1665 (.int 819 1664),e P n86 1680 (r 1260),e P n34 1687 (r 1267),e P n239 1695 (r 1274),e P n26 1702 (r 1281),e P n27 1709 (r 1288),e P n36 1716 (r 1295),e P n181 1725 (r 1302),e P n39 1732 (r 1309),e P n40 1739 (r 1316),e P n45 1746 (r 1323),e P n43 1754 (r 1330),e P n87 1761 (r 1337),e P n46 1768 (r 1344),e P n21 1773 (r 1345),e P n168 1774 (r 1247)]) 18) #[],o1287,o0,nf [(z 821),(z 4),(r 1259),(z 829),(z 4),(r 1266),(z 832),(z 4),(r 1273),(z 835),(z 4),(r 1280),(z 838),(z 4),(r 1287),(z 841),(z 4),(r 1294),(z 844),(z 4),(r 1301),(z 863),(z 4),(r 1308),(z 866),(z 4),(r 1315),(z 869),(z 4),(r 1322),(z 875),(z 4),(r 1329),(z 883),(z 4),(r 1336),(z 886),(z 4),(r 1343)],ob (.type l0) none (.fields (WM [(s n274 1656),(s n274 1657),(s n1 1658),(z 819),(z 0),(z 0),(z 0),(z 0),(r 1248),(.bool false),(z 181),(r 1249),.none,.none,.none,.none,(z 1659),(z 819),(s n1 1660)])) #[],ob (.type l1) none .plain #[some (r 1250),some (r 3),some (r 1246),none,some (s n237 1398),none,some (r 0)],o1292,tu [(r 1247)],tu [(s n170 1671)],o1,tu [(s n47 1672),(s n240 1673),(s n275 1674),(s n276 1675),(s n87 1676),(s n39 1677)],o0,fa 19 0 n277,o1299,o1300,o0,o1,tu [(s n47 1684)],o0,fa 19 1 n278,fc n34 n278 1681 829 1 0 0 3 1261 1685,fb 19 1 n278 .none (s n237 1398) 1266,o0,o1,tu [(s n47 1691),(s n245 1692)],o0,fa 19 2 n279,o1313,o1314,o0,o1,tu [(s n47 1699)],o0,fa 19 3 n280,o1320,o1321,o0,o1,tu [(s n47 1706)],o0,fa 19 4 n281,fc n27 n281 1703 838 1 0 0 3 1282 1707,fb 19 4 n281 .none (s n237 1398) 1287,o0,o1,tu [(s n47 1713)],o0,fa 19 5 n282,fc n36 n282 1710 841 1 0 0 3 1289 1714,fb 19 5 n282 .none (s n237 1398) 1294,o0,o1,tu [(s n47 1720),(s n240 1721),(s n276 1722)],o0,fa 19 6 n283,o1341,o1342,o0,o1,tu [(s n47 1729)],o0,fa 19 7 n284,o1348,o1349,o0,o1,tu [(s n47 1736)],o0,fa 19 8 n285,fc n40 n285 1733 866 1 0 0 3 1310 1737,fb 19 8 n285 .none (s n237 1398) 1315,o0,o1,tu [(s n47 1743)],o0,fa 19 9 n286,o1362,o1363,o0,o1,tu [(s n47 1750),(s n39 1751)],o0,fa 19 10 n287,o1369,o1370,o0,o1,tu [(s n47 1758)],o0,fa 19 11 n288,fc n87 n288 1755 883 1 0 0 3 1331 1759,fb 19 11 n288 .none (s n237 1398) 1336,o0,o1,tu [(s n47 1765)],o0,fa 19 12 n289,fc n46 n289 1762 886 1 0 0 3 1338 1766,fb 19 12 n289 .none (s n237 1398) 1343,tu [(s n146 1769),(s n290 1770),(s n275 1771),(s n276 1772)],o1386 P,o1387,ob (.type MY) none (.fields (WM [(r 1347),(r 1347),(r 1347)])) #[],ob (.type l8) none (.fields (WM [(.builtin MZ),(r 1347)])) #[]]
def L20(P:Wg):List Obj:=B P (o30 P) (ob (.type l3) none (.dict (WM (e P n3 165 (s n237 1398)::dl16 P)) 26) #[])++(N0 P (nf (nl15))++(N1 P++(N3 P++(N4 P++(N5 P (o1052)++(N6 P++(N7 P++(N8 P++(LF P (o807)++(Lg P (o944)++(MV P (o630)++(Mb P++(Na P++(Nd P++(OU P++(QH P (ob (.type l7) none (.cls (cd n238 [(r 206)] [(r 1163),(r 206),(.type GC)] 1162 n238 true 0 [(r 1241),(r 1347)] false false false)) #[some (r 1019),none,some (s n238 1400),some (s n238 1408),some (.builtin G7),some (.bool true)])++(QM P++(SC P))))))))))))))))))
def S20(w:WW)(os:We):SharedT:=mk (bt 12 (L20 w.params)) 1350 1778 os
def SM(P:Wg):List Obj:=[o1203,o18,ob (.type l3) none (.dict (WM [e P n18 1785 (s n237 1398),e P n19 1787 (s n291 1786),e P n20 1789 (.int 888 1788),e P n86 1798 (r 1363),e P n34 1805 (r 1370),e P n36 1812 (r 1377),e P n33 1823 (r 1385),e P n37 1830 (r 1392),e P n38 1837 (r 1399),e P n44 1845 (r 1406),e P n87 1852 (r 1413),e P n46 1859 (r 1420),e P n42 1866 (r 1427),e P n21 1869 (r 1428)]) 14) #[],o0,nf [(z 890),(z 4),(r 1362),(z 895),(z 4),(r 1369),(z 898),(z 4),(r 1376),(z 901),(z 4),(r 1384),(z 915),(z 4),(r 1391),(z 918),(z 4),(r 1398),(z 921),(z 4),(r 1405),(z 924),(z 4),(r 1412),(z 927),(z 4),(r 1419),(z 930),(z 4),(r 1426)],ob (.type l0) none (.fields (WM [(s n291 1780),(s n291 1781),(s n1 1782),(z 888),(z 0),(z 0),(z 0),(z 0),(r 1353),(.bool false),(z 181),(r 1354),.none,.none,.none,.none,(z 1783),(z 888),(s n1 1784)])) #[],ob (.type l1) none .plain #[some (r 1355),some (r 3),some (r 1352),none,some (s n237 1398),none,some (r 0)],o0,o1,tu [(s n47 1793),(s n127 1794),(s n128 1795)],o0,fa 20 0 n292,o1405,o1406,o0,o1,tu [(s n47 1802)],o0,fa 20 1 n293,fc n34 n293 1799 895 1 0 0 3 1364 1803,fb 20 1 n293 .none (s n237 1398) 1369,o0,o1,tu [(s n47 1809)],o0,fa 20 2 n294,fc n36 n294 1806 898 1 0 0 3 1371 1810,fb 20 2 n294 .none (s n237 1398) 1376,o1421,o0,o1,tu [(s n47 1817),(s n59 1818),(s n230 1819),(s n231 1820)],o0,fa 20 3 n295,o1427,o1428,o0,o1,tu [(s n47 1827)],o0,fa 20 4 n296,o1434,o1435,o0,o1,tu [(s n47 1834)],o0,fa 20 5 n297,fc n38 n297 1831 918 1 0 0 3 1393 1835,fb 20 5 n297 .none (s n237 1398) 1398,o0,o1,tu [(s n47 1841),(s n59 1842)],o0,fa 20 6 n298,fc n44 n298 1838 921 2 0 0 3 1400 1843,fb 20 6 n298 .none (s n237 1398) 1405,o0,o1,tu [(s n47 1849)],o0,fa 20 7 n299,fc n87 n299 1846 924 1 0 0 3 1407 1850,fb 20 7 n299 .none (s n237 1398) 1412,o0,o1,tu [(s n47 1856)],o0,fa 20 8 n300,fc n46 n300 1853 927 1 0 0 3 1414 1857,fb 20 8 n300 .none (s n237 1398) 1419,o0,o1,tu [(s n47 1863)],o0,fa 20 9 n301,fc n42 n301 1860 930 1 0 0 3 1421 1864,fb 20 9 n301 .none (s n237 1398) 1426,tu [(s n127 1867),(s n128 1868)],o1472 P,o1473,ob (.type MY) none (.fields (WM [(r 1430),(r 1430),(r 1430)])) #[],ob (.type l8) none (.fields (WM [(.builtin MZ),(r 1430)])) #[]]
def L21(P:Wg):List Obj:=B P (o30 P) (ob (.type l3) none (.dict (WM (e P n3 165 (s n237 1398)::dl17 P)) 27) #[])++(N0 P (nf (nl16))++(N1 P++(N3 P++(N4 P++(N5 P (o1052)++(N6 P++(N7 P++(N8 P++(LF P (o807)++(Lg P (o944)++(MV P (o630)++(Mb P++(Na P++(Nd P++(OU P++(QH P (ob (.type l7) none (.cls (cd n238 [(r 206)] [(r 1163),(r 206),(.type GC)] 1162 n238 true 0 [(r 1241),(r 1347),(r 1430)] false false false)) #[some (r 1019),none,some (s n238 1400),some (s n238 1408),some (.builtin G7),some (.bool true)])++(QM P++(SC P++(SM P)))))))))))))))))))
def S21(w:WW)(os:We):SharedT:=mk (bt 12 (L21 w.params)) 1433 1873 os
def Td(P:Wg):List Obj:=[o1203,o18,ob (.type l3) none (.dict (WM [e P n18 1880 (s n237 1398),e P n19 1882 (s n302 1881),e P n20 1884 (.int 932 1883),e P n86 1894 (r 1447),e P n34 1901 (r 1454),e P n239 1909 (r 1461),e P n37 1916 (r 1468),e P n38 1923 (r 1475),e P n46 1930 (r 1482),e P n21 1932 (r 1483)]) 10) #[],o0,nf [(z 934),(z 4),(r 1446),(z 938),(z 4),(r 1453),(z 941),(z 4),(r 1460),(z 944),(z 4),(r 1467),(z 947),(z 4),(r 1474),(z 950),(z 4),(r 1481)],ob (.type l0) none (.fields (WM [(s n302 1875),(s n302 1876),(s n1 1877),(z 932),(z 0),(z 0),(z 0),(z 0),(r 1436),(.bool false),(z 181),(r 1437),.none,.none,.none,.none,(z 1878),(z 932),(s n1 1879)])) #[],ob (.type l1) none .plain #[some (r 1438),some (r 3),some (r 1435),none,some (s n237 1398),none,some (r 0)],o1486,o0,o1,tu [(s n47 1889),(s n240 1890),(s n46 1891)],o0,fa 21 0 n303,o1492,o1493,o0,o1,tu [(s n47 1898)],o0,fa 21 1 n304,fc n34 n304 1895 938 1 0 0 3 1448 1899,fb 21 1 n304 .none (s n237 1398) 1453,o0,o1,tu [(s n47 1905),(s n245 1906)],o0,fa 21 2 n305,o1506,o1507,o0,o1,tu [(s n47 1913)],o0,fa 21 3 n306,o1513,o1514,o0,o1,tu [(s n47 1920)],o0,fa 21 4 n307,fc n38 n307 1917 947 1 0 0 3 1469 1921,fb 21 4 n307 .none (s n237 1398) 1474,o0,o1,tu [(s n47 1927)],o0,fa 21 5 n308,fc n46 n308 1924 950 1 0 0 3 1476 1928,fb 21 5 n308 .none (s n237 1398) 1481,tu [(s n309 1931)],o1530 P,o1531,ob (.type MY) none (.fields (WM [(r 1485),(r 1485),(r 1485)])) #[],ob (.type l8) none (.fields (WM [(.builtin MZ),(r 1485)])) #[]]
def L22(P:Wg):List Obj:=B P (o30 P) (ob (.type l3) none (.dict (WM (e P n3 165 (s n237 1398)::dl18 P)) 28) #[])++(N0 P (o1477)++(N1 P++(N3 P++(N4 P++(N5 P (o1052)++(N6 P++(N7 P++(N8 P++(LF P (o807)++(Lg P (o944)++(MV P (o630)++(Mb P++(Na P++(Nd P++(OU P++(QH P (o1478)++(QM P++(SC P++(SM P++(Td P))))))))))))))))))))
def S22(w:WW)(os:We):SharedT:=mk (bt 12 (L22 w.params)) 1488 1936 os
def L23(P:Wg):List Obj:=B P (o30 P) (ob (.type l3) none (.dict (WM (e P n3 165 (s n310 1936)::dl18 P)) 28) #[])++(N0 P (o1477)++(N1 P++(N3 P++(N4 P++(N5 P (o1052)++(N6 P++(N7 P++(N8 P++(LF P (o807)++(Lg P (o944)++(MV P (o630)++(Mb P++(Na P++(Nd P++(OU P++(QH P (o1478)++(QM P++(SC P++(SM P++(Td P))))))))))))))))))))
def S23(w:WW)(os:We):SharedT:=mk (bt 12 (L23 w.params)) 1488 1938 os
def N24(P:Wg):List Obj:=[o0,o1,ob .none none (.func (fd (top 23) n311 0 [] .none .none .none .none .none .none 0)) #[],o1540,o1541]
def L24(P:Wg):List Obj:=B P (o30 P) (ob (.type l3) none (.dict (WM (e P n3 165 (s n310 1936)::dl19 P)) 29) #[])++(N0 P (nf (nl18))++(N1 P++(N3 P++(N4 P++(N5 P (o1052)++(N6 P++(N7 P++(N8 P++(LF P (o807)++(Lg P (o944)++(MV P (o630)++(Mb P++(Na P++(Nd P++(OU P++(QH P (o1478)++(QM P++(SC P++(SM P++(Td P++(N24 P)))))))))))))))))))))
def S24(w:WW)(os:We):SharedT:=mk (bt 12 (L24 w.params)) 1493 1944 os
def N25(P:Wg):List Obj:=[o0,o1,ob .none none (.func (fd (top 24) n312 0 [] .none .none .none .none .none .none 0)) #[],o1547,o1548]
def L25(P:Wg):List Obj:=B P (o30 P) (ob (.type l3) none (.dict (WM (e P n3 165 (s n310 1936)::dl20 P)) 30) #[])++(N0 P (nf (nl19))++(N1 P++(N3 P++(N4 P++(N5 P (o1052)++(N6 P++(N7 P++(N8 P++(LF P (o807)++(Lg P (o944)++(MV P (o630)++(Mb P++(Na P++(Nd P++(OU P++(QH P (o1478)++(QM P++(SC P++(SM P++(Td P++(N24 P++(N25 P))))))))))))))))))))))
def S25(w:WW)(os:We):SharedT:=mk (bt 12 (L25 w.params)) 1498 1950 os
def N26(P:Wg):List Obj:=[o0,o1,ob .none none (.func (fd (top 25) n313 0 [] .none .none .none .none .none .none 0)) #[],o1554,o1555]
def L26(P:Wg):List Obj:=B P (o30 P) (ob (.type l3) none (.dict (WM (e P n3 165 (s n310 1936)::dl21 P)) 31) #[])++(N0 P (nf (nl20))++(N1 P++(N3 P++(N4 P++(N5 P (o1052)++(N6 P++(N7 P++(N8 P++(LF P (o807)++(Lg P (o944)++(MV P (o630)++(Mb P++(Na P++(Nd P++(OU P++(QH P (o1478)++(QM P++(SC P++(SM P++(Td P++(N24 P++(N25 P++(N26 P)))))))))))))))))))))))
def S26(w:WW)(os:We):SharedT:=mk (bt 12 (L26 w.params)) 1503 1956 os
def N27(P:Wg):List Obj:=[o0,o1,ob .none none (.func (fd (top 26) n314 0 [] .none .none .none .none .none .none 0)) #[],o1561,o1562]
def L27(P:Wg):List Obj:=B P (o30 P) (ob (.type l3) none (.dict (WM (e P n3 165 (s n310 1936)::dl22 P)) 32) #[])++(N0 P (nf (nl21))++(N1 P++(N3 P++(N4 P++(N5 P (o1052)++(N6 P++(N7 P++(N8 P++(LF P (o807)++(Lg P (o944)++(MV P (o630)++(Mb P++(Na P++(Nd P++(OU P++(QH P (o1478)++(QM P++(SC P++(SM P++(Td P++(N24 P++(N25 P++(N26 P++(N27 P))))))))))))))))))))))))
def S27(w:WW)(os:We):SharedT:=mk (bt 12 (L27 w.params)) 1508 1962 os
def N28(P:Wg):List Obj:=[o0,o1,tu [(s n316 1965),(s n317 1966),(s n318 1967),(s n319 1968),(s n320 1969),(s n321 1970),(s n322 1971),(s n323 1972),(s n324 1973),(s n325 1974),(s n326 1975),(s n327 1976),(s n328 1977),(s n329 1978),(s n330 1979),(s n331 1980)],o0,ob .none none (.func (fd (top 27) n315 0 [] .none .none .none .none .none .none 0)) #[],o1570,o1571]
def L28(P:Wg):List Obj:=B P (o30 P) (ob (.type l3) none (.dict (WM (e P n3 165 (s n310 1936)::dl23 P)) 33) #[])++(N0 P (nf (nl22))++(N1 P++(N3 P++(N4 P++(N5 P (o1052)++(N6 P++(N7 P++(N8 P++(LF P (o807)++(Lg P (o944)++(MV P (o630)++(Mb P++(Na P++(Nd P++(OU P++(QH P (o1478)++(QM P++(SC P++(SM P++(Td P++(N24 P++(N25 P++(N26 P++(N27 P++(N28 P)))))))))))))))))))))))))
def S28(w:WW)(os:We):SharedT:=mk (bt 12 (L28 w.params)) 1515 1984 os
def N29(P:Wg):List Obj:=[o0,o1,ob .none none (.func (fd (top 28) n332 0 [] .none .none .none .none .none .none 0)) #[],o1577,o1578]
def L29(P:Wg):List Obj:=B P (o30 P) (ob (.type l3) none (.dict (WM (e P n3 165 (s n310 1936)::dl23 P++[e P n332 1989 (r 1519)])) 34) #[])++(N0 P (nf (nl22++[(z 1016),(z 0),(r 1518)]))++(N1 P++(N3 P++(N4 P++(N5 P (o1052)++(N6 P++(N7 P++(N8 P++(LF P (o807)++(Lg P (o944)++(MV P (o630)++(Mb P++(Na P++(Nd P++(OU P++(QH P (o1478)++(QM P++(SC P++(SM P++(Td P++(N24 P++(N25 P++(N26 P++(N27 P++(N28 P++(N29 P))))))))))))))))))))))))))
def S29(w:WW)(os:We):SharedT:=mk (bt 12 (L29 w.params)) 1520 1990 os
theorem c1(w:WW)(os:We):segRunT treeTable pT w 11 (some (.ref 6)) 1 30 (S0 w os) (piecesOf [top 0] env cE ⟨0,0,0,0⟩ [tf])=some (Ww,S1 w os,cE,⟨1,0,3,12⟩):=by
 rw[Bp,BF]
 kernel_rfl
theorem c2(w:WW)(os:We):segRunT treeTable pT w 11 (some (.ref 6)) 1 10 (S1 w os) (piecesOf [top 1] env cE ⟨1,0,3,12⟩ [tf])=some (Ww,S2 w os,cE,⟨4,0,4,8⟩):=by
 rw[Bp,BF]
 kernel_rfl
theorem c3(w:WW)(os:We):segRunT treeTable pT w 11 (some (.ref 6)) 1 197 (S2 w os) (piecesOf [top 2] env cE ⟨4,0,4,8⟩ [tf])=some (Ww,S3 w os,cE,⟨5,0,6,8⟩):=by
 rw[Bp,BF]
 kernel_rfl
theorem c4(w:WW)(os:We):segRunT treeTable pT w 11 (some (.ref 6)) 1 197 (S3 w os) (piecesOf [top 3] env cE ⟨5,0,6,8⟩ [tf])=some (Ww,S4 w os,cE,⟨7,0,8,8⟩):=by
 rw[Bp,BF]
 kernel_rfl
theorem c5(w:WW)(os:We):segRunT treeTable pT w 11 (some (.ref 6)) 1 856 (S4 w os) (piecesOf [top 4] env cE ⟨7,0,8,8⟩ [tf])=some (Ww,S5 w os,cE,⟨9,0,90,35⟩):=by
 rw[Bp,BF]
 kernel_rfl
theorem c6(w:WW)(os:We):segRunT treeTable pT w 11 (some (.ref 6)) 1 462 (S5 w os) (piecesOf [top 5] env cE ⟨9,0,90,35⟩ [tf])=some (Ww,S6 w os,cE,⟨91,0,115,17⟩):=by
 rw[Bp,BF]
 kernel_rfl
theorem c7(w:WW)(os:We):segRunT treeTable pT w 11 (some (.ref 6)) 1 29 (S6 w os) (piecesOf [top 6] env cE ⟨91,0,115,17⟩ [tf])=some (Ww,S7 w os,cE,⟨116,0,117,29⟩):=by
 rw[Bp,BF]
 kernel_rfl
theorem c8(w:WW)(os:We):segRunT treeTable pT w 11 (some (.ref 6)) 1 827 (S7 w os) (piecesOf [top 7] env cE ⟨116,0,117,29⟩ [tf])=some (Ww,S8 w os,cE,⟨118,0,209,32⟩):=by
 rw[Bp,BF]
 kernel_rfl
theorem c9(w:WW)(os:We):segRunT treeTable pT w 11 (some (.ref 6)) 1 10 (S8 w os) (piecesOf [top 8] env cE ⟨118,0,209,32⟩ [tf])=some (Ww,S9 w os,cE,⟨210,0,210,8⟩):=by
 rw[Bp,BF]
 kernel_rfl
theorem c10(w:WW)(os:We):segRunT treeTable pT w 11 (some (.ref 6)) 1 437 (S9 w os) (piecesOf [top 9] env cE ⟨210,0,210,8⟩ [tf])=some (Ww,S10 w os,cE,⟨211,0,237,17⟩):=by
 rw[Bp,BF]
 kernel_rfl
theorem c11(w:WW)(os:We):segRunT treeTable pT w 11 (some (.ref 6)) 1 353 (S10 w os) (piecesOf [top 10] env cE ⟨211,0,237,17⟩ [tf])=some (Ww,S11 w os,cE,⟨238,0,260,46⟩):=by
 rw[Bp,BF]
 kernel_rfl
theorem c12(w:WW)(os:We):segRunT treeTable pT w 11 (some (.ref 6)) 1 564 (S11 w os) (piecesOf [top 11] env cE ⟨238,0,260,46⟩ [tf])=some (Ww,S12 w os,cE,⟨261,0,376,17⟩):=by
 rw[Bp,BF]
 kernel_rfl
theorem c13(w:WW)(os:We):segRunT treeTable pT w 11 (some (.ref 6)) 1 537 (S12 w os) (piecesOf [top 12] env cE ⟨261,0,376,17⟩ [tf])=some (Ww,S13 w os,cE,⟨377,0,439,17⟩):=by
 rw[Bp,BF]
 kernel_rfl
theorem c14(w:WW)(os:We):segRunT treeTable pT w 11 (some (.ref 6)) 1 658 (S13 w os) (piecesOf [top 13] env cE ⟨377,0,439,17⟩ [tf])=some (Ww,S14 w os,cE,⟨440,0,538,27⟩):=by
 rw[Bp,BF]
 kernel_rfl
theorem c15(w:WW)(os:We):segRunT treeTable pT w 11 (some (.ref 6)) 1 788 (S14 w os) (piecesOf [top 14] env cE ⟨440,0,538,27⟩ [tf])=some (Ww,S15 w os,cE,⟨539,0,631,17⟩):=by
 rw[Bp,BF]
 kernel_rfl
theorem c16(w:WW)(os:We):segRunT treeTable pT w 11 (some (.ref 6)) 1 665 (S15 w os) (piecesOf [top 15] env cE ⟨539,0,631,17⟩ [tf])=some (Ww,S16 w os,cE,⟨632,0,711,17⟩):=by
 rw[Bp,BF]
 kernel_rfl
theorem c17(w:WW)(os:We):segRunT treeTable pT w 11 (some (.ref 6)) 1 10 (S16 w os) (piecesOf [top 16] env cE ⟨632,0,711,17⟩ [tf])=some (Ww,S17 w os,cE,⟨712,0,712,8⟩):=by
 rw[Bp,BF]
 kernel_rfl
theorem c18(w:WW)(os:We):segRunT treeTable pT w 11 (some (.ref 6)) 1 815 (S17 w os) (piecesOf [top 17] env cE ⟨712,0,712,8⟩ [tf])=some (Ww,S18 w os,cE,⟨713,0,775,46⟩):=by
 rw[Bp,BF]
 kernel_rfl
theorem c19(w:WW)(os:We):segRunT treeTable pT w 11 (some (.ref 6)) 1 536 (S18 w os) (piecesOf [top 18] env cE ⟨713,0,775,46⟩ [tf])=some (Ww,S19 w os,cE,⟨776,0,818,17⟩):=by
 rw[Bp,BF]
 kernel_rfl
theorem c20(w:WW)(os:We):segRunT treeTable pT w 11 (some (.ref 6)) 1 662 (S19 w os) (piecesOf [top 19] env cE ⟨776,0,818,17⟩ [tf])=some (Ww,S20 w os,cE,⟨819,0,887,27⟩):=by
 rw[Bp,BF]
 kernel_rfl
theorem c21(w:WW)(os:We):segRunT treeTable pT w 11 (some (.ref 6)) 1 547 (S20 w os) (piecesOf [top 20] env cE ⟨819,0,887,27⟩ [tf])=some (Ww,S21 w os,cE,⟨888,0,931,17⟩):=by
 rw[Bp,BF]
 kernel_rfl
theorem c22(w:WW)(os:We):segRunT treeTable pT w 11 (some (.ref 6)) 1 419 (S21 w os) (piecesOf [top 21] env cE ⟨888,0,931,17⟩ [tf])=some (Ww,S22 w os,cE,⟨932,0,951,26⟩):=by
 rw[Bp,BF]
 kernel_rfl
theorem c23(w:WW)(os:We):segRunT treeTable pT w 11 (some (.ref 6)) 1 10 (S22 w os) (piecesOf [top 22] env cE ⟨932,0,951,26⟩ [tf])=some (Ww,S23 w os,cE,⟨952,0,952,8⟩):=by
 rw[Bp,BF]
 kernel_rfl
theorem c24(w:WW)(os:We):segRunT treeTable pT w 11 (some (.ref 6)) 1 27 (S23 w os) (piecesOf [top 23] env cE ⟨952,0,952,8⟩ [tf])=some (Ww,S24 w os,cE,⟨953,0,957,76⟩):=by
 rw[Bp,BF]
 kernel_rfl
theorem c25(w:WW)(os:We):segRunT treeTable pT w 11 (some (.ref 6)) 1 27 (S24 w os) (piecesOf [top 24] env cE ⟨953,0,957,76⟩ [tf])=some (Ww,S25 w os,cE,⟨958,0,962,91⟩):=by
 rw[Bp,BF]
 kernel_rfl
theorem c26(w:WW)(os:We):segRunT treeTable pT w 11 (some (.ref 6)) 1 27 (S25 w os) (piecesOf [top 25] env cE ⟨958,0,962,91⟩ [tf])=some (Ww,S26 w os,cE,⟨963,0,979,44⟩):=by
 rw[Bp,BF]
 kernel_rfl
theorem c27(w:WW)(os:We):segRunT treeTable pT w 11 (some (.ref 6)) 1 27 (S26 w os) (piecesOf [top 26] env cE ⟨963,0,979,44⟩ [tf])=some (Ww,S27 w os,cE,⟨980,0,988,103⟩):=by
 rw[Bp,BF]
 kernel_rfl
theorem c28(w:WW)(os:We):segRunT treeTable pT w 11 (some (.ref 6)) 1 45 (S27 w os) (piecesOf [top 27] env cE ⟨980,0,988,103⟩ [tf])=some (Ww,S28 w os,cE,⟨989,0,1015,19⟩):=by
 rw[Bp,BF]
 kernel_rfl
theorem c29(w:WW)(os:We):segRunT treeTable pT w 11 (some (.ref 6)) 1 27 (S28 w os) (piecesOf [top 28] env cE ⟨989,0,1015,19⟩ [tf])=some (Ww,S29 w os,cE,⟨1016,0,1043,16⟩):=by
 rw[Bp,BF]
 kernel_rfl
end Mine.Hd
end
section
namespace Mine.Hd
open PySem PySem.W
theorem JS(w:WW)(os:We):topGo treeTable pT w 11 (some (.ref 6)) 12 ⟨YL w.params,ZJ [],Yg,Y0,os⟩ (topStub pT)=some ((S0 w os).abs,⟨denote treeTable cE,cE,q0,[tf]⟩):=by kernel_rfl
theorem blk(w:WW)(os:We):segRun treeTable pT w 11 (some (.ref 6)) 1 1 (S0 w os).abs (blockOf bT env cE q0 [tf])=some (Ww,(S0 w os).abs,cE,q0):=by kernel_rfl
theorem fin(w:WW)(os:We):topRun treeTable pT w 11 (some (.ref 6)) 2 (S29 w os).abs ⟨doneF .next,cE,⟨1016,0,1043,16⟩,[tf]⟩=some (S29 w os).abs:=by kernel_rfl
theorem QN:bT=[top 0]++([top 1]++([top 2]++([top 3]++([top 4]++([top 5]++([top 6]++([top 7]++([top 8]++([top 9]++([top 10]++([top 11]++([top 12]++([top 13]++([top 14]++([top 15]++([top 16]++([top 17]++([top 18]++([top 19]++([top 20]++([top 21]++([top 22]++([top 23]++([top 24]++([top 25]++([top 26]++([top 27]++([top 28]++([]))))))))))))))))))))))))))))):=by kernel_rfl
noncomputable abbrev QO:Nat:=12+(1+(30+(10+(197+(197+(856+(462+(29+(827+(10+(437+(353+(564+(537+(658+(788+(665+(10+(815+(536+(662+(547+(419+(10+(27+(27+(27+(27+(45+(27+2))))))))))))))))))))))))))))))
abbrev SF(w:WW)(os:We):Shared:=(S29 w os).abs
theorem runs(w:WW)(os:We):topRun treeTable pT w 11 (some (.ref 6)) QO ⟨YL w.params,ZJ [],Yg,Y0,os⟩ (topStub pT)=some (SF w os) :=
 go_top (JS w os) (piece_block (blk w os) ((congrArg (λl=>topRun treeTable pT w 11 (some (.ref 6)) (30+(10+(197+(197+(856+(462+(29+(827+(10+(437+(353+(564+(537+(658+(788+(665+(10+(815+(536+(662+(547+(419+(10+(27+(27+(27+(27+(45+(27+2))))))))))))))))))))))))))))) (S0 w os).abs (restOf l env cE q0 [tf])) QN).trans (Wx (Wy (c1 w os)) (Wx (Wy (c2 w os)) (Wx (Wy (c3 w os)) (Wx (Wy (c4 w os)) (Wx (Wy (c5 w os)) (Wx (Wy (c6 w os)) (Wx (Wy (c7 w os)) (Wx (Wy (c8 w os)) (Wx (Wy (c9 w os)) (Wx (Wy (c10 w os)) (Wx (Wy (c11 w os)) (Wx (Wy (c12 w os)) (Wx (Wy (c13 w os)) (Wx (Wy (c14 w os)) (Wx (Wy (c15 w os)) (Wx (Wy (c16 w os)) (Wx (Wy (c17 w os)) (Wx (Wy (c18 w os)) (Wx (Wy (c19 w os)) (Wx (Wy (c20 w os)) (Wx (Wy (c21 w os)) (Wx (Wy (c22 w os)) (Wx (Wy (c23 w os)) (Wx (Wy (c24 w os)) (Wx (Wy (c25 w os)) (Wx (Wy (c26 w os)) (Wx (Wy (c27 w os)) (Wx (Wy (c28 w os)) (Wx (Wy (c29 w os)) (piece_nil (fin w os)))))))))))))))))))))))))))))))))
end Mine.Hd
end
section
namespace Mine.Hd
open PySem PySem.W PySem.Calls PyProof.Rows
noncomputable abbrev pw:Program:=YA
theorem runsW(w:WW)(os:We):topRun treeTable pw w 11 (some (.ref 6)) QO ⟨YL w.params,ZJ [],Yg,Y0,os⟩ (topStub pw)=some (SF w os):=by
 rw[show pw=pT from Ma];exact runs w os
theorem o_open:opening pw=plainProg pw.main.scope.names:=by kernel_rfl
theorem SN(s:WQ):fenceModules? pw s=some s:=by kernel_rfl
theorem PY:importedModules pw.main.body=[]:=by kernel_rfl
abbrev HF(w:WW):Heap:=absHeap (bt 12 (L29 w.params)) 1520 {}
theorem q_ns(w:WW):((HF w).isNs mainGlobals,(HF w).isNs cStatics,(HF w).isNs builtinsNs)=(true,true,true):=by kernel_rfl
theorem q_stat(w:WW):staticsOk [] (YL w.params) (HF w)=true:=by kernel_rfl
theorem SO(w:WW):namesBound pT (HF w)=true:=by kernel_rfl
theorem q_laid(w:WW):laidKept (YL w.params) (HF w)=true:=by kernel_rfl
theorem q_acc(w:WW):(HF w).accountedOkI []=true:=by kernel_rfl
theorem q_blt(w:WW):(HF w).bltView=bltViewBooted:=by kernel_rfl
theorem q_g6(w:WW):(HF w).nsMap mainGlobals "__builtins__"=some (.ref 4):=by kernel_rfl
theorem q_bm(w:WW):(HF w).get? 4=some (Zd w.params):=by kernel_rfl
theorem OV(w:WW):(Zd w.params).cls=.type "module"/\(Zd w.params).dict=some builtinsNs:=⟨rfl,rfl⟩
theorem PZ{p:Wm}{w:WW}{UO UH:WQ}{n:Nat}(hi:importedModules p.main.body=[])(z:UO.asleep)(hm:UO.heap.objs.size=11)
 (r:topRun treeTable p w 11 (some (.ref 6)) n UO (topStub p)=some UH)(ha:globalOf UO.heap "__annotations__"=some (.ref 6))(hn:UH.heap.isNs mainGlobals=true)(hb:UH.heap.isNs builtinsNs=true)
 (acc:UH.heap.accountedOkI []=true)(st:staticsOk [] UO.heap UH.heap=true)(nb:namesBound p UH.heap=true)(bl:UH.heap.bltView=bltViewBooted)(gb:builtinsGlobalAsBooted UH.heap)(hg:UH.gens=#[])(ld:laidKept UO.heap UH.heap=true) :
 TopRan p w UO UH/\UH.asleep:=by
 rw[<- table_eq_tree] at r;obtain⟨a,l,os',fr⟩:=topRun_spec _ _ _ _ z r;refine⟨⟨a,l,Shared.rest_eq os',λb o hb' hno=>fr b o (hm▸Wn hb') (λq=>hno (.inl q)) (λq=>hno (.inr (.inl q))) (λq=>hno (.inr (.inr (q▸ha)))) hb',?_,?_,Pin.keysAreStrs_of hn,
  λx hx=>(Pin.builtinOf_eq hb x).trans (Heap.of_bltView hb bl x hx),gb,λg hg'=>?_,names_of_bound nb,laid_of_kept ld⟩,Za l z⟩
 ·rw[hi];exact Heap.accountedI_of_ok acc
 ·rw[hi];exact statics_of_ok st
 ·rw[hg] at hg';exact absurd hg' (by simp)
theorem q_ann(w:WW):globalOf (YL w.params) "__annotations__"=some (.ref 6):=by kernel_rfl
theorem QP(w:WW):namesBound pw (HF w)=true:=by rw[show pw=pT from Ma];exact SO w
theorem Pa(w:WW):(HF w).isNs mainGlobals=true:=(aI (q_ns w)).1
theorem q_n2(w:WW):(HF w).isNs builtinsNs=true:=(aI (aI (q_ns w)).2).2
theorem q_gb(w:WW):builtinsGlobalAsBooted (HF w):=⟨4,Zd w.params,(Pin.globalOf_eq (Pa w) _).trans (q_g6 w),q_bm w,(OV w).1,(OV w).2⟩
theorem topRan(w:WW)(os:We)(z:(⟨YL w.params,ZJ [],Yg,Y0,os⟩:WQ).asleep):TopRan pw w ⟨YL w.params,ZJ [],Yg,Y0,os⟩ (SF w os)/\(SF w os).asleep :=
 PZ PY z rfl (runsW w os) (q_ann w) (Pa w) (q_n2 w) (q_acc w) (q_stat w) (QP w) (q_blt w) (q_gb w) rfl (q_laid w)
theorem QQ(w:WW):(∃s,AfterRun (opening pw) w s)/\∀s,AfterRun (opening pw) w s->∃os,fenceModules? pw s=some ⟨YL w.params,ZJ [],Yg,Y0,os⟩/\(⟨YL w.params,ZJ [],Yg,Y0,os⟩:WQ).asleep:=by
 have h:=boot_open (p:=pw) (N:=600) o_open (by decide) SN w
 rw[<- table_eq_tree] at h;obtain⟨UO,h2,hv⟩:=Wz.mp h;obtain⟨s,h4,h5⟩:=Option.bind_eq_some_iff.mp h2;have A:=AfterImport.of_importEnds h4;refine⟨⟨s,A⟩,λs' hs'=>?_⟩;obtain rfl:s'=s:=AfterImport.unique hs' A;have z:UO.asleep:=Za (fence_lifeW h5) A.life;obtain⟨hh,gs,d,k,os⟩:=UO;simp only[ZC] at hv;obtain⟨rfl,rfl,rfl,rfl⟩:=hv;exact⟨os,h5,z⟩
end Mine.Hd
end
section
namespace Mine.Hd
open PySem PySem.W PySem.W.X PySem.Calls PyProof.Rows
noncomputable abbrev RW:OpenLaw:=Ys
theorem Te(w:WW):globalOf (HF w) "law"=some (.ref 1519):=by kernel_rfl
theorem q_bare:pw.bare:=⟨rfl,rfl,rfl,rfl,rfl,by decide +kernel⟩
theorem q_well:opensWell pw=true:=by decide +kernel
def Mc:FuncData:=fd (top 28) n332 3 [] .none .none .none (s n310 1936) (r 1518) .none 0
noncomputable def bodyOf:FuncBody->List Xj
 | .stmts b=>b
 | _=>[]
theorem q_lawO(w:WW):(HF w).get? 1519=some ⟨.type "function",none,.func Mc,#[]⟩:=by kernel_rfl
theorem q_pin(w:WW):isTheDefsW pw (HF w) "law" :=
 ⟨1519,_,Mc,Mc.params,bodyOf Mc.body,Mc.scope,Te w,q_lawO w,rfl,by(rw[show pw=pT from Ma];kernel_rfl),by kernel_rfl,by kernel_rfl,rfl,by kernel_rfl,rfl,by kernel_rfl,by kernel_rfl,by kernel_rfl,
  .inl ⟨by kernel_rfl,by kernel_rfl⟩,[],by kernel_rfl,.inl ⟨rfl,by kernel_rfl⟩⟩
def Nf:Prop:=∀(w:WW) (UH:WQ) (vs:List WO) (ns:List Int),(∀b o,(HF w).get? b=some o->UH.heap.get? b=some o)->UH.gens=#[] ->
 UH.heap.get? 1520=some {cls:=.type "list",data:=.seq vs.toArray}->IntsAre vs ns->ns.length<=63->UH.heap.objs.size=1521->(PyData.list (ns.map PyData.int)).layable0=true ->
 wpAny (model pw w) callerA (call (.ref 1519) [.ref 1520]) (λv s'=>v=.bool true/\OldK UH.heap s'.heap/\s'.os=UH.os/\X4 s'.gens) (λU U=>False) UH
theorem holdG{P:Prop}(h:∀G:Prop,(P->G)->G):P:=h P id
theorem core(call:Nf):RW.row.claim.HoldsOpenBy (callStub RW.row.name) (if RW.row.pinned=true then[RW.row.name] else[]) RW.row.keeps RW.row.writes:=by
 refine⟨⟨q_bare,q_well,rfl⟩,?wit,λw=>⟨(QQ w).1,λs' hs'=>?_⟩⟩
 case wit=>exact⟨[.list []],by decide +kernel,by decide +kernel⟩
 obtain⟨os,hf,z⟩:=(QQ w).2 s' hs';obtain⟨T,z1⟩:=topRan w os z;refine⟨_,hf,rfl,SF w os,T,?pin,λx hx=>(nomatch hx),λx hx=>(nomatch hx),?_⟩
 case pin =>
  intro n hn;have hn':n∈[("law":W5)]:=hn;rw[Wl] at hn';subst hn';exact q_pin w
 refine ClaimW.callFrom_of_specG (c:=RW.row.claim) z1 rfl λargs hpre hlay ord hord=>?_;obtain⟨⟨vs,UH⟩,hlaid⟩:=XT.mp (layAllW_isSome (P:=w.params) (ord:=ord) (cl:=classAt (SF w os).heap) (R:=RW.row.claim.records) (λc hc=>(by cases hc)) args RW.row.args (SF w os) (pre_splitW (r:=RW.row.toRowW) hpre).1)
 have keeps:=layAllW_keeps _ _ _ hlaid;have hal:=layAllW_rest _ _ _ hlaid;obtain⟨as,hrd,hin,AU⟩:=reads_layAllW hord _ _ _ hlaid hlay UH.heap (λU U e=>e);have L:Laid RW.row.records w (SF w os) UH args vs as:=⟨⟨ord,hord,hlaid⟩,hrd,hin,AU,keeps,hal.1,hal.2.2.1⟩;have hwl:=L.well;have hlo:=L.low (show sysModules<1520 by decide)
 refine⟨vs,UH,hlaid,?_⟩;have hpre2:=hpre;refine holdG λGG hG=>?_
 wrow_args hpre2 hlay hrd hwl hlo
 rename_i ns hs hlay0 hL1 hr1 hl2 as1 as2 a vals as3 hL ra w1 r0 hI hr hc1 hc2;refine hG ?_;clear hG GG;have hat:=script_at L;have hob:=script_obj L hL;have hlen:ns.length<=63:=by omega
 have C:=call w UH vals ns (λb o e=>keeps b o e) hal.1 (by rw[<- show a=1520 from hat.1];exact hob) hI hlen (show UH.heap.objs.size=1521 from hat.2) hL1
 rw[<- show a=1520 from hat.1] at C
 have hN:UH.heap.Ns mainGlobals ((HF w).nsMap mainGlobals):=(aK (Pa w)).keeps keeps;have hl:(HF w).nsMap mainGlobals "law"=some (.ref 1519):=(Pin.globalOf_eq (Pa w) _).symm.trans (Te w);refine Wi (wpAny_nsGet hN ?_);rw[show(HF w).nsMap mainGlobals RW.row.name=some (.ref 1519) from hl]
 refine Wi (XR C (λv s' h=>W6 ?_) λe s' h=>h.elim);obtain⟨rfl,h1,h2,h3⟩:=h;have g:GoodWG RW.row.claim (classAt (SF w os).heap) (ExcName.means (SF w os).heap) [ofPy (PyData.list (ns.map PyData.int))] UH (.ok (.ret (.bool true))) s' :=
  ⟨.inl ⟨.bool true,.bool true,[],rfl,(λU=>rfl),.bool true,by wrow_post,λU=>⟨YH,λU h=>nomatch h⟩⟩,h1,h2,h3⟩
 obtain⟨hsame,hu,ha,hap,hm⟩:=frees_parts (r:=RW.row.toRowW) (by decide +kernel)
 have zz:=g.laid (c:=RW.row.claim) rfl rfl (ident_freeW hu ha hap) L;exact⟨_,rfl,zz.1,zz.2.1,zz.2.2,λq=>nomatch (show false=true from q)⟩
theorem holds_by(call:Nf)(said:RW.row.wellSaid=true):RW.row.Holds:=⟨said,⟨[.list []],by decide +kernel,by decide +kernel⟩,core call⟩
end Mine.Hd
end
section
open PySem PySem.W PyProof.Rows
theorem Mine.Hd.saidL:Ys.wellSaid=true:=by kernel_rfl
end
section
namespace Mine
open PySem
noncomputable abbrev AA:Nat:=0
noncomputable abbrev Ab:Nat:=1
noncomputable abbrev AR:Nat:=2
noncomputable abbrev AK:Nat:=3
noncomputable abbrev AD:Nat:=4
noncomputable abbrev DP:Nat:=5
noncomputable abbrev EU:Nat:=6
noncomputable abbrev Hs:Nat:=7
noncomputable abbrev Ht:Nat:=8
noncomputable abbrev Hu:Nat:=9
noncomputable abbrev Fa:Nat:=10
noncomputable abbrev Dl:Nat:=11
noncomputable abbrev BG:Nat:=12
noncomputable abbrev Fb:Nat:=13
noncomputable abbrev D1:Nat:=14
noncomputable abbrev DW:Nat:=15
noncomputable abbrev Bx:Nat:=16
noncomputable abbrev Gs:Nat:=17
noncomputable abbrev Kv:Nat:=18
noncomputable abbrev Gu:Nat:=19
noncomputable abbrev FJ:Nat:=20
noncomputable abbrev DB:Nat:=21
noncomputable abbrev Ey:Nat:=22
noncomputable abbrev Ag:Nat:=23
noncomputable abbrev AB:Nat:=24
noncomputable abbrev AH:Nat:=25
noncomputable abbrev EY:Nat:=26
noncomputable abbrev A3:Nat:=27
noncomputable abbrev A8:Nat:=28
noncomputable abbrev Ik:Nat:=29
noncomputable abbrev AV:Nat:=30
noncomputable abbrev Hv:Nat:=31
noncomputable abbrev x_q:Nat:=32
noncomputable abbrev An:Nat:=33
noncomputable abbrev Am:Nat:=34
noncomputable abbrev Cj:Nat:=35
noncomputable abbrev Cm:Nat:=36
noncomputable abbrev AL:Nat:=37
noncomputable abbrev BJ:Nat:=38
noncomputable abbrev BD:Nat:=39
noncomputable abbrev BC:Nat:=40
noncomputable abbrev FB:Nat:=41
noncomputable abbrev FC:Nat:=42
noncomputable abbrev Jv:Nat:=43
noncomputable abbrev Ng:Nat:=44
noncomputable abbrev CG:Nat:=45
noncomputable abbrev Dm:Nat:=46
noncomputable abbrev A0:Nat:=47
noncomputable abbrev Fc:Nat:=48
noncomputable abbrev Fd:Nat:=49
noncomputable abbrev Hr:Nat:=50
noncomputable abbrev x_rn:Nat:=51
noncomputable abbrev Md:Nat:=52
noncomputable abbrev JH:Nat:=53
noncomputable abbrev Hw:Nat:=54
noncomputable abbrev Dq:Nat:=55
noncomputable abbrev Jw:Nat:=56
noncomputable abbrev Fe:Nat:=57
noncomputable abbrev Hx:Nat:=58
noncomputable abbrev AJ:Nat:=59
noncomputable abbrev Aw:Nat:=60
noncomputable abbrev BZ:Nat:=61
noncomputable abbrev BH:Nat:=62
noncomputable abbrev EV:Nat:=63
noncomputable abbrev DX:Nat:=64
noncomputable abbrev A6:Nat:=65
noncomputable abbrev Ax:Nat:=66
noncomputable abbrev Cg:Nat:=67
noncomputable abbrev Bm:Nat:=68
noncomputable abbrev Gv:Nat:=69
noncomputable abbrev FK:Nat:=70
noncomputable abbrev A9:Nat:=71
noncomputable abbrev Il:Nat:=72
noncomputable abbrev Ff:Nat:=73
noncomputable abbrev B6:Nat:=74
noncomputable abbrev AZ:Nat:=75
noncomputable abbrev FD:Nat:=76
noncomputable abbrev AY:Nat:=77
noncomputable abbrev AW:Nat:=78
noncomputable abbrev Hy:Nat:=79
noncomputable abbrev Aq:Nat:=80
noncomputable abbrev Ba:Nat:=81
noncomputable abbrev Af:Nat:=82
noncomputable abbrev A7:Nat:=83
noncomputable abbrev AX:Nat:=84
noncomputable abbrev Lh:Nat:=85
noncomputable abbrev Nh:Nat:=86
noncomputable abbrev DC:Nat:=87
noncomputable abbrev By:Nat:=88
noncomputable abbrev Ai:Nat:=89
noncomputable abbrev Cn:Nat:=90
noncomputable abbrev CR:Nat:=91
noncomputable abbrev Bz:Nat:=92
noncomputable abbrev DY:Nat:=93
noncomputable abbrev DZ:Nat:=94
noncomputable abbrev Bq:Nat:=95
noncomputable abbrev Ez:Nat:=96
noncomputable abbrev EZ:Nat:=97
noncomputable abbrev Im:Nat:=98
noncomputable abbrev B7:Nat:=99
noncomputable abbrev HK:Nat:=100
noncomputable abbrev Fh:Nat:=101
noncomputable abbrev Au:Nat:=102
noncomputable abbrev QI:Nat:=103
noncomputable abbrev x_c:Nat:=104
noncomputable abbrev x_cm:Nat:=105
noncomputable abbrev x_m:Nat:=106
noncomputable def QR:List (List Nat):=[[115,101,108,102],[95,95,105,110,105,116,95,95],[116,101,114,109,95,109,97,116,99,104,101,114,115],[109,97,116,99,104,105,110,103,95,116,101,114,109,115],[109,105,110,113,117,97,108,105,116,121],[105,100,115],[119,101,105,103,104,116,115],[118,97,108,117,101,115],[102,111,114,109,97,116],[115,99,111,114,101,114],[112,111,115,105,116,105,111,110],[97,108,108,95,119,101,105,103,104,116,115],[116,101,114,109],[116,101,114,109,105,110,102,111],[95,105,100,115],[95,119,101,105,103,104,116,115],[95,97,108,108,95,119,101,105,103,104,116,115],[95,118,97,108,117,101,115],[95,105],[95,102,111,114,109,97,116],[95,115,99,111,114,101,114],[95,116,101,114,109],[95,116,101,114,109,105,110,102,111],[105,100],[105,115,95,97,99,116,105,118,101],[109,97,120,95,113,117,97,108,105,116,121],[98,108,111,99,107,95,109,97,120,95,119,101,105,103,104,116],[97],[98],[114,97],[115,107,105,112,95,116,111],[114,98],[113],[97,95,97,99,116,105,118,101],[98,95,97,99,116,105,118,101],[97,95,109,97,120],[98,95,109,97,120],[114,101,112,108,97,99,101],[95,109,97,100,101],[95,105,100],[110,101,120,116],[97,95,105,100],[98,95,105,100],[97,114],[98,114],[116,105,101,98,114,101,97,107],[95,102,105,110,100,95,102,105,114,115,116],[95,102,105,110,100,95,110,101,120,116],[97,95,109,105,110],[98,95,109,105,110],[114],[114,110],[110,114],[112,111,115],[110,101,103],[112,111,115,95,105,100],[95,102,105,114,115,116,95,98],[110,101,119,95,97],[110,101,119,95,98],[99,104,105,108,100],[98,111,111,115,116],[110,101,119,99,104,105,108,100],[95,114,101,112,108,97,99,101,109,101,110,116],[101,120,99,108,117,100,101],[95,101,120,99,108,117,100,101],[108,105,109,105,116],[109,105,115,115,105,110,103],[119,101,105,103,104,116],[95,119,101,105,103,104,116],[115,99,111,114,101],[95,115,99,111,114,101],[110,117,109,98,101,114],[110,97,109,101],[119,111,114,100],[100,111,99,115],[100,111,99],[108,101,97,102],[116,114,101,101],[112,108,97,105,110],[105,110,115,105,100,101],[107,105,110,100],[108,101,102,116],[102,105,114,115,116],[114,105,103,104,116],[115,101,99,111,110,100],[101,110,100,115],[98,111,116,104],[109,111,114,101],[110,117,109,98,101,114,115],[115,116,97,99,107],[108,105,115,116,115],[112,108,97,99,101],[108,101,97,118,101,115],[116,97,105,108],[104,101,97,100],[115,99,114,105,112,116],[100,101,101,100,115],[108,111,119],[116,117,114,110],[114,101,115,116],[100,117,101],[103,111,97,108],[99,104,105,108,100,114,101,110],[116],[99],[99,109],[109]]
def nm(i:Nat):Str:=⟨((QR[i]?).getD [i+2000000]).toArray⟩
noncomputable abbrev BA:Nat:=75
noncomputable abbrev AG:Nat:=82
noncomputable abbrev AF:Nat:=90
noncomputable abbrev Co:Nat:=104
noncomputable abbrev B0:Nat:=112
noncomputable abbrev Ea:Nat:=231
noncomputable abbrev FL:Nat:=252
noncomputable abbrev AQ:Nat:=285
noncomputable abbrev JI:Nat:=300
noncomputable abbrev Da:Nat:=307
noncomputable abbrev Eb:Nat:=321
noncomputable abbrev CH:Nat:=328
noncomputable abbrev Ec:Nat:=343
noncomputable abbrev Cs:Nat:=357
noncomputable abbrev Io:Nat:=378
noncomputable abbrev GM:Nat:=406
noncomputable abbrev B3:Nat:=420
noncomputable abbrev Bn:Nat:=446
noncomputable abbrev BX:Nat:=460
noncomputable abbrev Fj:Nat:=481
noncomputable abbrev BS:Nat:=507
noncomputable abbrev HL:Nat:=547
noncomputable abbrev D2:Nat:=555
noncomputable abbrev CC:Nat:=562
noncomputable abbrev Cp:Nat:=569
noncomputable abbrev Fm:Nat:=576
noncomputable abbrev EK:Nat:=583
noncomputable abbrev Hz:Nat:=624
noncomputable abbrev JJ:Nat:=633
noncomputable abbrev Ed:Nat:=648
noncomputable abbrev Ct:Nat:=662
noncomputable abbrev HM:Nat:=696
noncomputable abbrev IA:Nat:=704
noncomputable abbrev CX:Nat:=718
noncomputable abbrev D3:Nat:=726
noncomputable abbrev DD:Nat:=733
noncomputable abbrev Cu:Nat:=740
noncomputable abbrev HZ:Nat:=747
noncomputable abbrev D4:Nat:=761
noncomputable abbrev Fn:Nat:=775
noncomputable abbrev GN:Nat:=795
noncomputable abbrev HN:Nat:=803
noncomputable abbrev CJ:Nat:=817
noncomputable abbrev Cv:Nat:=824
noncomputable abbrev CY:Nat:=831
noncomputable abbrev Db:Nat:=846
noncomputable abbrev CK:Nat:=853
noncomputable abbrev GO:Nat:=874
noncomputable abbrev FE:Nat:=881
noncomputable abbrev Dc:Nat:=888
noncomputable abbrev FM:Nat:=928
noncomputable abbrev F5:Nat:=935
noncomputable abbrev CZ:Nat:=949
noncomputable abbrev CM:Nat:=956
noncomputable abbrev FF:Nat:=963
noncomputable abbrev D5:Nat:=970
noncomputable abbrev Cw:Nat:=977
noncomputable abbrev Cy:Nat:=985
noncomputable abbrev BP:Nat:=1033
noncomputable abbrev Ca:Nat:=1054
noncomputable abbrev B4:Nat:=1062
noncomputable abbrev EW:Nat:=1069
noncomputable abbrev BY:Nat:=1083
noncomputable abbrev Bo:Nat:=1097
noncomputable abbrev B5:Nat:=1111
noncomputable abbrev C6:Nat:=1118
noncomputable abbrev Bb:Nat:=1139
noncomputable abbrev HO:Nat:=1182
noncomputable abbrev DQ:Nat:=1203
noncomputable abbrev Cb:Nat:=1210
noncomputable abbrev FG:Nat:=1217
noncomputable abbrev Dd:Nat:=1224
noncomputable abbrev GQ:Nat:=1260
noncomputable abbrev DE:Nat:=1274
noncomputable abbrev Cc:Nat:=1281
noncomputable abbrev CN:Nat:=1302
noncomputable abbrev Fo:Nat:=1309
noncomputable abbrev Ee:Nat:=1323
noncomputable abbrev DF:Nat:=1330
noncomputable abbrev GR:Nat:=1363
noncomputable abbrev DG:Nat:=1385
noncomputable abbrev DS:Nat:=1392
noncomputable abbrev IB:Nat:=1447
noncomputable abbrev Dr:Nat:=1461
noncomputable abbrev Cd:Nat:=1468
noncomputable abbrev Bt:Nat:=1492
noncomputable abbrev BV:Nat:=1497
noncomputable abbrev B8:Nat:=1502
noncomputable abbrev CS:Nat:=1507
noncomputable abbrev Dn:Nat:=1514
noncomputable abbrev OW:Nat:=1519
noncomputable abbrev Ip:Nat:=1000000
noncomputable abbrev Li:Nat:=1000001
noncomputable def QS:List (List Nat):=[[97],[98],[99],[100],[101],[102],[103],[104],[116,101,120,116]]
set_option genCtorIdx true in
inductive V
 | none|bool (b:Bool)|int (i:Int)|ref (a:Nat)|str (n:Nat)
noncomputable abbrev As:=List (Nat×V)
noncomputable def AM{α:Type}(x:Nat):List (Nat×α)->Option α
 | []=>WN
 | p::r=>bif WV p.1 x then some p.2 else AM x r
set_option genCtorIdx true in
inductive Cl
 | Base|Null|Leaf|Bi|Add|Union|DMax|Inter|AndNot|AndMaybe|Wrap|Filter|Inverse|Require|Const
noncomputable def cls:List Cl:=[.Base,.Null,.Leaf,.Bi,.Add,.Union,.DMax,.Inter,.AndNot,.AndMaybe,.Wrap,.Filter,.Inverse,.Require,.Const]
noncomputable def Cf:Cl->Nat
 | .Base=>206
 | .Null=>276
 | .Leaf=>430
 | .Bi=>491
 | .Add=>531
 | .Union=>607
 | .DMax=>679
 | .Inter=>778
 | .AndNot=>912
 | .AndMaybe=>1016
 | .Wrap=>1163
 | .Filter=>1241
 | .Inverse=>1347
 | .Require=>1430
 | .Const=>1485
set_option genCtorIdx true in
inductive O
 | inst (c:Cl) (as:As)
 | list (vs:List V)|stk (vs:List V)|ro (vs:List V)|tup (vs:List V)
 | dict (es:List (Int×V)) (g:Nat)|set (xs:List Int)
 | range (lo hi st:Int)
 | cell (v:Option V)
def mtab:Cl->List (Nat×Nat)
 | .Base=>[(AR,AG),(AK,AF),(BG,BA),(AL,B0),(Au,Co)]
 | .Null=>[(AR,AG),(AK,AF),(BG,BA),(AB,FL),(AH,Ea),(AL,B0),(Au,Co)]
 | .Leaf=>[(Ab,JI),(AR,AG),(AK,AF),(BG,CH),(Ag,Io),(AB,Da),(AH,Cs),(EY,B3),(AV,Eb),(AL,Ec),(BC,GM),(Au,Co)]
 | .Bi=>[(Ab,Bn),(AR,AG),(AK,AF),(BG,BA),(AV,Fj),(AL,B0),(Au,BX)]
 | .Add=>[(Ab,Bn),(AR,AG),(AK,AF),(BG,BA),(AH,BS),(AV,Fj),(AL,B0),(Au,BX)]
 | .Union=>[(Ab,Bn),(AR,AG),(AK,AF),(BG,BA),(Ag,Fm),(AB,CC),(AH,BS),(AV,Cp),(AL,D2),(BJ,HL),(BC,EK),(Au,BX)]
 | .DMax=>[(Ab,JJ),(AR,AG),(AK,AF),(BG,BA),(Ag,Fm),(AB,CC),(AH,Ct),(AV,Cp),(AL,Ed),(BJ,Hz),(BC,EK),(Au,BX)]
 | .Inter=>[(Ab,IA),(AR,AG),(AK,AF),(BG,BA),(Ag,HZ),(AB,DD),(AH,BS),(AV,D4),(AL,D3),(BJ,HM),(BC,Fn),(Dm,CX),(A0,Cu),(Au,BX)]
 | .AndNot=>[(Ab,HN),(AR,AG),(AK,AF),(BG,BA),(Ag,GO),(AB,Cv),(AH,CK),(AV,Dc),(AL,Db),(BJ,GN),(BC,FE),(Dm,CJ),(A0,CY),(Au,BX)]
 | .AndMaybe=>[(Ab,F5),(AR,AG),(AK,AF),(BG,BA),(Ag,FF),(AB,CM),(AH,BS),(AV,Cw),(AL,Cy),(BJ,FM),(BC,D5),(Jw,CZ),(Au,BX)]
 | .Wrap=>[(Ab,BP),(AR,AG),(AK,AF),(BG,BA),(Ag,EW),(AB,BY),(AH,Bb),(AV,B5),(AL,B4),(BC,C6),(BH,Ca),(Au,Bo)]
 | .Filter=>[(Ab,HO),(AR,AG),(AK,AF),(BG,BA),(Ag,EW),(AB,BY),(AH,Bb),(AV,Dd),(AL,B4),(BC,FG),(A0,Cb),(BH,DQ),(Au,Bo)]
 | .Inverse=>[(Ab,GQ),(AR,AG),(AK,AF),(BG,BA),(Ag,Fo),(AB,Cc),(AH,Bb),(AV,DF),(AL,B4),(BC,Ee),(A0,CN),(BH,DE),(Au,Bo)]
 | .Require=>[(Ab,GR),(AR,AG),(AK,AF),(BG,BA),(Ag,EW),(AB,BY),(AH,DS),(AV,B5),(AL,DG),(BC,C6),(BH,Ca),(Au,Bo)]
 | .Const=>[(Ab,IB),(AR,AG),(AK,AF),(BG,BA),(Ag,EW),(AB,BY),(AH,Cd),(AV,B5),(AL,B4),(BC,C6),(BH,Dr),(Au,Bo)]
def Bh(c:Cl)(m:Nat):Option Nat:=AM m (mtab c)
def ctab:Cl->As
 | .Union=>[(BD,.none)]
 | .DMax=>[(BD,.none)]
 | _=>[]
def Gw(c:Cl)(n:Nat):Option V:=AM n (ctab c)
end Mine
namespace Mine
open PySem
noncomputable abbrev MH:=Nat->Option O
noncomputable def MH.put(H:MH)(a:Nat)(o:O):MH:=λb=>bif WV b a then some o else H b
set_option genInjectivity false
mutual
inductive E
 | bad|none|bool (b:Bool)|int (i:Int)|neg (n:Nat)
 | var (x:Nat)|cvar (x:Nat)
 | attr (e:E) (n:Nat)
 | meth (e:E) (m:Nat) (as:List E) (ks:List (Nat×E))
 | fn (f:Nat) (as:List E) (ks:List (Nat×E))
 | new (c:Cl) (as:List E) (ks:List (Nat×E))
 | via (c:Cl) (m:Nat) (f:Nat) (as:List E)
 | sup (c:Cl) (f:Nat) (as:List E)
 | len (e:E)|max1 (e:E)|max2 (a b:E)|min2 (a b:E)|range (as:List E)|sorted (e:E)|setof (e:E)|listof (e:E)
 | not (e:E)|and (es:List E)|or (es:List E)|ite (c:T) (a b:E)
 | cmp (o:CmpOp) (a b:E)|bin (o:YI) (a b:E)
 | idx (e i:E)|upto (e i:E)
 | tup (es:List E)|lst (es:List E)|stk|dct
 | pop (e:E)|append (e v:E)|dget (e k d:E)
 | str (n:Nat)|ltr (e:E)|cat (a b:E)|lmt (e:E)|lmt1 (e i:E)|ltm (e:E)
 | lcomp (e:E) (x:Nat) (it:E) (cs:List T)|dcomp (k v:E) (x:Nat) (it:E) (cs:List T)
inductive T
 | e (e:E)|not (t:T)|and (ts:List T)|or (ts:List T)
end
inductive S
 | asg (x:Nat) (e:E)|casg (x:Nat) (e:E)|asg2 (x y:Nat) (e:E)
 | unp (xs:List (Nat×Bool)) (e:E)
 | seta (e:E) (n:Nat) (v:E)|auga (e:E) (n:Nat) (o:YI) (v:E)|aug (x:Nat) (o:YI) (v:E)
 | cond (t:T) (b c:List S)|while (t:T) (b:List S)|for (x:Nat) (it:E) (b:List S)
 | ret (e:E)|ret0|raise|assert (t:T)|expr (e:E)|brk|cont|pass
noncomputable def put(x:Nat)(v:V):As->As
 | []=>[(x,v)]
 | p::r=>bif WV p.1 x then(p.1,v)::r else p::put x v r
noncomputable abbrev Kp:=List (Nat×Nat)
abbrev CB:=Nat->List V->As->MH->(V->MH->Prop)->Prop
set_option genCtorIdx true in
inductive Fl
 | next|ret (v:V)|brk|cont
noncomputable def op{α:Type}(o:Option α)(K:α->Prop):Prop:=match o with
 | some x=>K x
 | none=>False
def Jh(b:Bool)(A B:Prop):Prop:=match b with
 | true=>A
 | false=>B
noncomputable def A5(lo hi st:Int):List Int:=(List.range ((hi-lo+st-1) / st).toNat).map λ(i:Nat)=>lo+st*(i:Int)
noncomputable def D6(lo hi st:Int):Prop:=0<st/\-1000<=lo/\lo<=1000/\-1000<=hi/\hi-lo<=1000/\st<=1000
inductive Lj:O->List V->Prop
 | list {vs}:vs.length<=1000->Lj (.list vs) vs
 | dict {es g}:es.length<=1000->Lj (.dict es g) (es.map λe=>.int e.1)
 | range {lo hi st}:D6 lo hi st->Lj (.range lo hi st) ((A5 lo hi st).map .int)
noncomputable def GS:List V->Option (List Int)
 | []=>some []
 | .int i::r=>(GS r).map (i::·)
 | _::_=>WN
inductive Iq (i:Int):O->Bool->Prop
 | list {vs is}:vs.length<=1000->GS vs=some is->Iq i (.list vs) (is.contains i)
 | tup {vs is}:vs.length<=1000->GS vs=some is->Iq i (.tup vs) (is.contains i)
 | dict {es g}:Iq i (.dict es g) (es.any λe=>e.1==i)
 | set {xs}:xs.length<=1000->Iq i (.set xs) (xs.contains i)
def GT(H:MH)(v:V)(K:Bool->Prop):Prop:=match v with
 | .none=>K false
 | .bool b=>K b
 | .int i=>K (i !=0)
 | .ref a=>∃vs,(H a=some (.list vs)\/H a=some (.tup vs))/\vs.length<=1000/\K (!vs.isEmpty)
 | .str _=>False
noncomputable def G8(v:V)(K:Int->Prop):Prop:=match v with
 | .int i=>K i
 | _=>False
noncomputable def D7(v:V)(K:Nat->Prop):Prop:=match v with
 | .ref i=>K i
 | _=>False
noncomputable def boolW(v:V)(K:Bool->Prop):Prop:=match v with
 | .bool i=>K i
 | _=>False
def IC(v u:V)(K:Int->Int->Prop):Prop:=G8 v λa=>G8 u λb=>K a b
noncomputable def isNone(v:V):Option Bool:=match v with
 | .none=>some true
 | .int _=>some false
 | .ref _=>some false
 | _=>none
inductive MW (H:MH):List V->List (Nat×Nat)->Prop
 | nil:MW H [] []
 | cons {a x y vs is}:H a=some (.tup [.str x,.str y])->MW H vs is->MW H (.ref a::vs) ((x,y)::is)
noncomputable def eqW(H:MH)(a b:Nat)(K:Bool->Prop):Prop:=∃vs us is js,H a=some (.list vs)/\H b=some (.list us)/\MW H vs is/\MW H us js/\vs.length<=1000/\us.length<=1000/\K (is==js)
def QT(H:MH)(a:Nat):Prop:=∃c as,H a=some (.inst c as)
@[irreducible] def Jx (H:MH) (a b:Nat) (K:Bool->Prop):Prop:=QT H a/\QT H b/\K (a !=b)
def SP(H:MH)(o:CmpOp)(v u:V)(K:Bool->Prop):Prop:=match o with
 | .Eq=>match v with
  | .ref a=>D7 u λb=>eqW H a b K
  | _=>IC v u λa b=>K (a==b)
 | .NotEq=>match v with
  | .bool a=>boolW u λb=>K (a !=b)
  | .ref a=>D7 u λb=>eqW H a b λt=>K (!t)
  | _=>IC v u λa b=>K (a !=b)
 | .Lt=>IC v u λa b=>K (decide (a<b))
 | .LtE=>IC v u λa b=>K (decide (a<=b))
 | .Gt=>IC v u λa b=>K (decide (a > b))
 | .GtE=>IC v u λa b=>K (decide (a ≥ b))
 | .Is=>match u with
  | .none=>op (isNone v) K
  | _=>False
 | .IsNot=>match u with
  | .none=>op (isNone v) λb=>K (!b)
  | _=>D7 v λa=>D7 u λb=>Jx H a b K
 | .In=>G8 v λi=>D7 u λa=>∃o b,H a=some o/\Iq i o b/\K b
 | .NotIn=>G8 v λi=>D7 u λa=>∃o b,H a=some o/\Iq i o b/\K (!b)
def Pb(o:YI)(v u:V)(K:V->Prop):Prop:=IC v u λa b=>match o with
 | .Add=>K (.int (a+b))
 | .Sub=>K (.int (a-b))
 | .Mult=>(a.natAbs<=1000000\/b.natAbs<=1000000)/\K (.int (a*b))
 | .Mod=>b≠0/\K (.int (a.fmod b))
 | .FloorDiv=>b≠0/\b.natAbs<1073741824/\K (.int (a.fdiv b))
 | .RShift=>0<=b/\K (.int (a.fdiv (2 ^ b.toNat)))
 | _=>False
inductive Kw:O->Nat->Prop
 | list {vs}:vs.length<=1000->Kw (.list vs) vs.length
 | dict {es g}:es.length<=1000->Kw (.dict es g) es.length
 | stk {vs}:vs.length<=1000->Kw (.stk vs) vs.length
noncomputable def C7(i:Int):List (Int×V)->Option V
 | []=>WN
 | p::r=>if p.1=i then some p.2 else C7 i r
noncomputable def ID(i:Int)(v:V)(es:List (Int×V)):List (Int×V) :=
 if es.any (λe=>e.1=i) then es.map (λe=>if e.1=i then(e.1,v) else e) else es++[(i,v)]
noncomputable def nth(vs:List V)(i:Int):Option V:=if 0<=i then vs[i.toNat]? else if -(vs.length:Int)<=i then vs[(vs.length+i).toNat]? else WN
inductive Ky (i:Int) (v:V):O->Prop
 | list {vs}:vs.length<=1000->nth vs i=some v->Ky i v (.list vs)
 | dict {es g}:es.length<=1000->C7 i es=some v->Ky i v (.dict es g)
 | stk {vs}:vs.length<=1000->nth vs i=some v->Ky i v (.stk vs)
noncomputable def Me(x:Int):List Int->List Int
 | []=>[x]
 | y::r=>if x<=y then x::y::r else y::Me x r
noncomputable def Jy:List Int->List Int
 | []=>[]
 | x::r=>Me x (Jy r)
def alloc(H:MH)(o:O)(Q:V->MH->Prop):Prop:=∀a,H a=WN->Q (.ref a) (H.put a o)
def rdI(H:MH)(a:Nat)(K:Cl->As->Prop):Prop:=∃c as,H a=some (.inst c as)/\K c as
def Mf(H:MH)(v:V)(n:Nat)(K:V->Prop):Prop:=D7 v λa=>rdI H a λc as=>op ((AM n as).or (Gw c n)) K
def BL(H:MH)(v:V)(m:Nat)(K:Nat->Prop):Prop:=D7 v λa=>rdI H a λc as=>AM m as=none/\op (Bh c m) K
def Mg(H:MH)(v:V)(K:O->Prop):Prop:=D7 v λa=>∃o,H a=some o/\K o
@[irreducible] def EL (C:CB) (c:Cl) (vs:List V) (us:As) (H:MH) (Q:V->MH->Prop):Prop:=∀a,H a=WN->match Bh c Ab with
 | some f=>C f (.ref a::vs) us (H.put a (.inst c [])) λv H=>v=.none/\Q (.ref a) H
 | WN=>vs=[]/\us=[]/\Q (.ref a) (H.put a (.inst c []))
@[irreducible] def JK {α:Type} (H:MH) (v:V) (body:V->MH->(Option α->MH->Prop)->Prop) (Q:List α->MH->Prop):Prop:=D7 v λa=>∃o vs,H a=some o/\Lj o vs /\
 ∃I:Nat->List α->MH->Prop,I 0 [] H/\(∀i l H v,vs[i]?=some v->I i l H->H a=some o/\body v H λx H=>I (i+1) (l++x.toList) H)/\(∀l H,I vs.length l H->H a=some o/\Q l H)
def whileW(test:As->MH->(Bool->MH->Prop)->Prop)(body:As->MH->(Fl->As->MH->Prop)->Prop)(ρ:As)(H:MH)(Q:Fl->As->MH->Prop):Prop :=
 ∃(I:Nat->As->MH->Prop) (n:Nat),I n ρ H/\∀n ρ H,I n ρ H->test ρ H λb H=>Jh b (body ρ H λf ρ H=>match f with
  | .next|.cont=>∃m,m<n/\I m ρ H
  | .brk=>Q .next ρ H
  | .ret v=>Q (.ret v) ρ H) (Q .next ρ H)
noncomputable def isD:O->Bool
 | .dict _ _=>true
 | _=>false
def forW(v:V)(body:V->As->MH->(Fl->As->MH->Prop)->Prop)(ρ:As)(H:MH)(Q:Fl->As->MH->Prop):Prop:=D7 v λa=>∃o vs,H a=some o/\Lj o vs/\isD o=false /\
 ∃I:Nat->As->MH->Prop,I 0 ρ H/\(∀i ρ H v,vs[i]?=some v->I i ρ H->H a=some o/\body v ρ H λf ρ H=>match f with
  | .next|.cont=>I (i+1) ρ H
  | .brk=>Q .next ρ H
  | .ret v=>Q (.ret v) ρ H)/\(∀ρ H,I vs.length ρ H->H a=some o/\Q .next ρ H)
mutual
def wE(C:CB)(κ:Kp):E->As->MH->(V->MH->Prop)->Prop
 | .bad,_,_,_=>False
 | .none,_,H,Q=>Q .none H
 | .bool b,_,H,Q=>Q (.bool b) H
 | .int i,_,H,Q=>Q (.int i) H
 | .neg n,_,H,Q=>Q (.int (-n)) H
 | .var x,ρ,H,Q=>op (AM x ρ) λv=>Q v H
 | .cvar x,_,H,Q=>op (AM x κ) λa=>∃v,H a=some (.cell (some v))/\Q v H
 | .attr e n,ρ,H,Q=>wE C κ e ρ H λv H=>Mf H v n λu=>Q u H
 | .meth e m as ks,ρ,H,Q=>wE C κ e ρ H λv H=>BL H v m λf=>Nb C κ as ρ H λvs H=>wKs C κ ks ρ H λus H=>C f (v::vs) us H Q
 | .fn f as ks,ρ,H,Q=>Nb C κ as ρ H λvs H=>wKs C κ ks ρ H λus H=>C f vs us H Q
 | .new c as ks,ρ,H,Q=>Nb C κ as ρ H λvs H=>wKs C κ ks ρ H λus H=>EL C c vs us H Q
 | .via _ _ f as,ρ,H,Q=>Nb C κ as ρ H λvs H=>C f vs [] H Q
 | .sup c f as,ρ,H,Q=>op (AM AA ρ) λv=>D7 v λa=>rdI H a λc' U=>c'=c/\Nb C κ as ρ H λvs H=>C f (.ref a::vs) [] H Q
 | .len e,ρ,H,Q=>wE C κ e ρ H λv H=>Mg H v λo=>∃n,Kw o n/\Q (.int n) H
 | .max1 e,ρ,H,Q=>wE C κ e ρ H λv H=>D7 v λa=>∃vs is,H a=some (.list vs)/\vs.length<=1000/\GS vs=some is/\is≠[]/\∀i,i∈is->(∀j∈is,j<=i)->Q (.int i) H
 | .max2 a b,ρ,H,Q=>wE C κ a ρ H λv H=>wE C κ b ρ H λu H=>IC v u λi j=>Q (.int (max i j)) H
 | .min2 a b,ρ,H,Q=>wE C κ a ρ H λv H=>wE C κ b ρ H λu H=>IC v u λi j=>Q (.int (min i j)) H
 | .range as,ρ,H,Q=>Nb C κ as ρ H λvs H=>match vs with
  | [a]=>G8 a λhi=>alloc H (.range 0 hi 1) Q
  | [a,b]=>IC a b λlo hi=>alloc H (.range lo hi 1) Q
  | [a,b,c]=>IC a b λlo hi=>G8 c λst=>0<st/\st.natAbs<1073741824/\alloc H (.range lo hi st) Q
  | _=>False
 | .sorted e,ρ,H,Q=>wE C κ e ρ H λv H=>Mg H v λo=>∃es g is,o=.dict es g/\es.length<64/\es.map (·.1)=is/\alloc H (.list ((Jy is).map .int)) Q
 | .setof e,ρ,H,Q=>wE C κ e ρ H λv H=>Mg H v λo=>∃vs is,o=.list vs/\GS vs=some is/\is.length<=1000/\alloc H (.set is) Q
 | .listof e,ρ,H,Q=>wE C κ e ρ H λv H=>Mg H v λo=>∃lo hi st,o=.range lo hi st/\D6 lo hi st/\alloc H (.list ((A5 lo hi st).map .int)) Q
 | .not e,ρ,H,Q=>wE C κ e ρ H λv H=>GT H v λb=>Q (.bool (!b)) H
 | .and es,ρ,H,Q=>SR C κ es ρ H Q
 | .or es,ρ,H,Q=>wOr C κ es ρ H Q
 | .ite c a b,ρ,H,Q=>wT C κ c ρ H λt H=>Jh t (wE C κ a ρ H Q) (wE C κ b ρ H Q)
 | .cmp o a b,ρ,H,Q=>wE C κ a ρ H λv H=>wE C κ b ρ H λu H=>SP H o v u λt=>Q (.bool t) H
 | .bin o a b,ρ,H,Q=>wE C κ a ρ H λv H=>wE C κ b ρ H λu H=>Pb o v u λr=>Q r H
 | .idx e i,ρ,H,Q=>wE C κ e ρ H λv H=>wE C κ i ρ H λu H=>Mg H v λo=>G8 u λj=>∃r,Ky j r o/\Q r H
 | .upto e i,ρ,H,Q=>wE C κ e ρ H λv H=>wE C κ i ρ H λu H=>Mg H v λo=>∃vs n,o=.ro vs/\u=.int (n:Nat)/\n<=1000/\vs.length<=1000/\alloc H (.list (vs.take n)) Q
 | .tup es,ρ,H,Q=>Nb C κ es ρ H λvs H=>vs.length<=1000/\alloc H (.tup vs) Q
 | .lst es,ρ,H,Q=>Nb C κ es ρ H λvs H=>vs.length<=1000/\alloc H (.list vs) Q
 | .stk,_,H,Q=>alloc H (.stk []) Q
 | .str n,_,H,Q=>Q (.str n) H
 | .ltr e,ρ,H,Q=>wE C κ e ρ H λv H=>G8 v λi=>(0<=i/\i<8)/\Q (.str i.toNat) H
 | .cat a b,ρ,H,Q=>wE C κ a ρ H λv H=>wE C κ b ρ H λu H=>D7 v λa=>D7 u λb=>∃vs us,H a=some (.list vs)/\H b=some (.list us)/\vs.length<=1000/\us.length<=1000/\alloc H (.list (vs++us)) Q
 | .lmt e,ρ,H,Q=>wE C κ e ρ H λv H=>BL H v AK λU=>C Ip [v] [] H Q
 | .lmt1 e i,ρ,H,Q=>wE C κ e ρ H λv H=>BL H v AK λU=>wE C κ i ρ H λu H=>C Ip [v,u] [] H Q
 | .ltm e,ρ,H,Q=>wE C κ e ρ H λv H=>BL H v AR λU=>C Li [v] [] H Q
 | .dct,_,H,Q=>∀g,alloc H (.dict [] g) Q
 | .pop e,ρ,H,Q=>wE C κ e ρ H λv H=>D7 v λa=>∃vs u,H a=some (.stk (vs++[u]))/\vs.length<=1000/\Q u (H.put a (.stk vs))
 | .append e x,ρ,H,Q=>wE C κ e ρ H λv H=>D7 v λa=>∃ws,H a=some (.stk ws)/\wE C κ x ρ H λu H=>∃vs,H a=some (.stk vs)/\vs.length<=1000/\Q .none (H.put a (.stk (vs++[u])))
 | .dget e k d,ρ,H,Q=>wE C κ e ρ H λv H=>D7 v λa=>∃o g,H a=some (.dict o g)/\wE C κ k ρ H λu H=>wE C κ d ρ H λw H=>∃es g,H a=some (.dict es g)/\G8 u λi=>Q ((C7 i es).getD w) H
 | .lcomp e x it cs,ρ,H,Q=>wE C κ it ρ H λv H =>
  JK H v (λu H R=>SQ C κ cs [(x,u)] H λt H=>Jh t (wE C κ e [(x,u)] H λy H=>R (some y) H) (R WN H)) (λl H=>l.length<=1000/\alloc H (.list l) Q)
 | .dcomp k e x it cs,ρ,H,Q=>wE C κ it ρ H λv H =>
  JK H v (λu H R=>SQ C κ cs [(x,u)] H λt H=>Jh t (wE C κ k [(x,u)] H λy H=>wE C κ e [(x,u)] H λz H=>G8 y λi=>R (some (i,z)) H) (R WN H))
   (λl H=>l.length<=1000/\∀g,alloc H (.dict (l.foldl (λd p=>ID p.1 p.2 d) []) g) Q)
def wT(C:CB)(κ:Kp):T->As->MH->(Bool->MH->Prop)->Prop
 | .e e,ρ,H,Q=>wE C κ e ρ H λv H=>GT H v λb=>Q b H
 | .not t,ρ,H,Q=>wT C κ t ρ H λb H=>Q (!b) H
 | .and ts,ρ,H,Q=>SQ C κ ts ρ H Q
 | .or ts,ρ,H,Q=>wTo C κ ts ρ H Q
def SQ(C:CB)(κ:Kp):List T->As->MH->(Bool->MH->Prop)->Prop
 | [],_,H,Q=>Q true H
 | e::r,ρ,H,Q=>wT C κ e ρ H λb H=>Jh b (SQ C κ r ρ H Q) (Q false H)
def wTo(C:CB)(κ:Kp):List T->As->MH->(Bool->MH->Prop)->Prop
 | [],_,H,Q=>Q false H
 | e::r,ρ,H,Q=>wT C κ e ρ H λb H=>Jh b (Q true H) (wTo C κ r ρ H Q)
def SR(C:CB)(κ:Kp):List E->As->MH->(V->MH->Prop)->Prop
 | [],_,_,_=>False
 | e::r,ρ,H,Q=>wE C κ e ρ H λv H=>Jh r.isEmpty (Q v H) (GT H v λb=>Jh b (SR C κ r ρ H Q) (Q v H))
def wOr(C:CB)(κ:Kp):List E->As->MH->(V->MH->Prop)->Prop
 | [],_,_,_=>False
 | e::r,ρ,H,Q=>wE C κ e ρ H λv H=>Jh r.isEmpty (Q v H) (GT H v λb=>Jh b (Q v H) (wOr C κ r ρ H Q))
def Nb(C:CB)(κ:Kp):List E->As->MH->(List V->MH->Prop)->Prop
 | [],_,H,Q=>Q [] H
 | e::r,ρ,H,Q=>wE C κ e ρ H λv H=>Nb C κ r ρ H λvs H=>Q (v::vs) H
def wKs(C:CB)(κ:Kp):List (Nat×E)->As->MH->(As->MH->Prop)->Prop
 | [],_,H,Q=>Q [] H
 | p::r,ρ,H,Q=>wKp C κ p ρ H λv H=>wKs C κ r ρ H λvs H=>Q ((p.1,v)::vs) H
def wKp(C:CB)(κ:Kp):(Nat×E)->As->MH->(V->MH->Prop)->Prop
 | (_,e),ρ,H,Q=>wE C κ e ρ H Q
end
def Pc(κ:Kp):List (Nat×Bool)->List V->As->MH->(As->MH->Prop)->Prop
 | [],[],ρ,H,Q=>Q ρ H
 | p::xs,v::vs,ρ,H,Q=>Jh p.2 (op (AM p.1 κ) λa=>∃o,H a=some (.cell o)/\Pc κ xs vs ρ (H.put a (.cell (some v))) Q) (Pc κ xs vs (put p.1 v ρ) H Q)
 | _,_,_,_,_=>False
def Pd(H:MH)(v:V)(n:Nat)(u:V)(Q:MH->Prop):Prop:=D7 v λa=>rdI H a λc as=>(put n u as).length<=40/\Q (H.put a (.inst c (put n u as)))
def GU(K:As->MH->Prop)(Q:Fl->As->MH->Prop):Fl->As->MH->Prop:=λf ρ H=>match f with
 | .next=>K ρ H
 | f=>Q f ρ H
mutual
def wS(C:CB)(κ:Kp):S->As->MH->(Fl->As->MH->Prop)->Prop
 | .asg x e,ρ,H,Q=>wE C κ e ρ H λv H=>Q .next (put x v ρ) H
 | .casg x e,ρ,H,Q=>wE C κ e ρ H λv H=>op (AM x κ) λa=>∃o,H a=some (.cell o)/\Q .next ρ (H.put a (.cell (some v)))
 | .asg2 x y e,ρ,H,Q=>wE C κ e ρ H λv H=>Q .next (put y v (put x v ρ)) H
 | .unp xs e,ρ,H,Q=>wE C κ e ρ H λv H=>Mg H v λo=>∃vs,o=.tup vs/\Pc κ xs vs ρ H (Q .next)
 | .seta e n x,ρ,H,Q=>wE C κ x ρ H λu H=>wE C κ e ρ H λv H=>Pd H v n u (Q .next ρ)
 | .auga e n o x,ρ,H,Q=>wE C κ e ρ H λv H=>Mf H v n λu=>wE C κ x ρ H λy H=>Pb o u y λr=>Pd H v n r (Q .next ρ)
 | .aug x o e,ρ,H,Q=>op (AM x ρ) λu=>wE C κ e ρ H λy H=>Pb o u y λr=>Q .next (put x r ρ) H
 | .cond t b c,ρ,H,Q=>wT C κ t ρ H λx H=>Jh x (A4 C κ b ρ H Q) (A4 C κ c ρ H Q)
 | .while t b,ρ,H,Q=>whileW (λρ H Q=>wT C κ t ρ H Q) (λρ H Q=>A4 C κ b ρ H Q) ρ H Q
 | .for x it b,ρ,H,Q=>wE C κ it ρ H λv H=>forW v (λu ρ H Q=>A4 C κ b (put x u ρ) H Q) ρ H Q
 | .ret e,ρ,H,Q=>wE C κ e ρ H λv H=>Q (.ret v) ρ H
 | .ret0,ρ,H,Q=>Q (.ret .none) ρ H
 | .raise,_,_,_=>False
 | .assert t,ρ,H,Q=>wT C κ t ρ H λx H=>x=true/\Q .next ρ H
 | .expr e,ρ,H,Q=>wE C κ e ρ H λU H=>Q .next ρ H
 | .brk,ρ,H,Q=>Q .brk ρ H
 | .cont,ρ,H,Q=>Q .cont ρ H
 | .pass,ρ,H,Q=>Q .next ρ H
def A4(C:CB)(κ:Kp):List S->As->MH->(Fl->As->MH->Prop)->Prop
 | [],ρ,H,Q=>Q .next ρ H
 | s::r,ρ,H,Q=>wS C κ s ρ H (GU (λρ H=>A4 C κ r ρ H Q) Q)
end
noncomputable def HP(x:Nat):List Nat->Bool
 | []=>false
 | y::r=>WV y x||HP x r
noncomputable def Mh(ps:List Nat):As->As->Option As
 | sl,[]=>some sl
 | sl,p::r=>bif HP p.1 ps&&(AM p.1 sl).isNone then Mh ps (sl++[p]) r else WN
noncomputable def F6(sl:As):List Nat->As
 | []=>[]
 | p::r=>match AM p sl with
  | some v=>(p,v)::F6 sl r
  | none=>F6 sl r
noncomputable def LG(ps:List Nat)(ds:List V)(vs:List V)(ks:As):Option As :=
 bif Zn vs.length ps.length&&Zn ds.length ps.length then
  match Mh ps (ps.zip vs) ks with
  | some sl=>bif (ps.take (ps.length-ds.length)).all (λp=>(AM p sl).isSome) then some (F6 (sl++(ps.drop (ps.length-ds.length)).zip ds) ps) else WN
  | WN=>WN
 else WN
def Lk:List Nat->As->Kp->MH->(Kp->MH->Prop)->Prop
 | [],_,κ,H,Q=>Q κ H
 | x::r,ρ,κ,H,Q=>∀a,H a=WN->Lk r ρ ((x,a)::κ) (H.put a (.cell (AM x ρ))) Q
structure Fi where
 pars:List Nat
 dflt:List V
 cells:List Nat
 body:List S
noncomputable def without(xs:List Nat):As->As
 | []=>[]
 | p::r=>bif HP p.1 xs then without xs r else p::without xs r
def Ah(Q:V->MH->Prop):Fl->As->MH->Prop:=λfl U H=>match fl with
 | .next=>Q .none H
 | .ret v=>Q v H
 | _=>False
def IE(C:CB)(i:Fi)(vs:List V)(ks:As)(H:MH)(Q:V->MH->Prop):Prop :=
 op (LG i.pars i.dflt vs ks) λρ=>Lk i.cells ρ [] H λκ H=>A4 C κ i.body (without i.cells ρ) H (Ah Q)
end Mine
namespace Mine
open PySem
noncomputable def Mi:List S:=[.ret (.none)]
noncomputable def Mj:Fi:=⟨[AA],[],[],Mi⟩
noncomputable def JT:List S:=[.ret (.lst [])]
noncomputable def JU:Fi:=⟨[AA],[],[],JT⟩
def Jz:List S:=[.ret (.var AA)]
def J0:Fi:=⟨[AA,AD],[.int 0],[],Jz⟩
noncomputable def Ef:List S:=[.ret (.int 0)]
def Ha:Fi:=⟨[AA],[],[],Ef⟩
noncomputable def FN:List S:=[.ret (.bool false)]
def Ir:Fi:=⟨[AA],[],[],FN⟩
noncomputable def F7:List S:=[.ret (.new .Null [] [])]
def JV:Fi:=⟨[],[],[],F7⟩
def GV:List S:=[.seta (.var AA) D1 (.var DP),.seta (.var AA) DW (.var EU),.seta (.var AA) Bx (.var Dl),.seta (.var AA) Gs (.var Hs),.seta (.var AA) Kv (.var Fa),.seta (.var AA) Gu (.var Ht),.seta (.var AA) FJ (.var Hu),.seta (.var AA) DB (.var BG),.seta (.var AA) Ey (.var Fb)]
def Ml:Fi:=⟨[AA,DP,EU,Hs,Ht,Hu,Fa,Dl,BG,Fb],[.none,.none,.none,.none,.int 0,.none,.none,.none],[],GV⟩
def FO:List S:=[.ret (.cmp .Lt (.attr (.var AA) Kv) (.len (.attr (.var AA) D1)))]
def It:Fi:=⟨[AA],[],[],FO⟩
def GX:List S:=[.cond (.not (.e (.meth (.var AA) AB [] []))) [.raise] [],.cond (.e (.cmp .Lt (.var Ag) (.meth (.var AA) Ag [] []))) [.ret0] [],.while (.and [(.e (.cmp .Lt (.attr (.var AA) Kv) (.len (.attr (.var AA) D1)))),(.e (.cmp .Lt (.idx (.attr (.var AA) D1) (.attr (.var AA) Kv)) (.var Ag)))]) [.auga (.var AA) Kv .Add (.int 1)]]
def J1:Fi:=⟨[AA,Ag],[],[],GX⟩
noncomputable def Mm:List S:=[.ret (.attr (.var AA) DB)]
noncomputable def Br:Fi:=⟨[AA],[],[],Mm⟩
def GY:List S:=[.cond (.not (.e (.meth (.var AA) AB [] []))) [.ret (.fn AQ [] [])] [.cond (.and [(.e (.var AD)),(.e (.cmp .Lt (.meth (.var AA) AH [] []) (.var AD)))]) [.ret (.fn AQ [] [])] [.ret (.var AA)]]]
def J2:Fi:=⟨[AA,AD],[.int 0],[],GY⟩
def Eg:List S:=[.cond (.e (.attr (.var AA) FJ)) [.ret (.bad)] [.ret (.meth (.var AA) EY [] [])]]
def Hb:Fi:=⟨[AA],[],[],Eg⟩
def LH:List S:=[.ret (.idx (.attr (.var AA) D1) (.attr (.var AA) Kv))]
def Pe:Fi:=⟨[AA],[],[],LH⟩
def JL:List S:=[.auga (.var AA) Kv .Add (.int 1)]
def Mn:Fi:=⟨[AA],[],[],JL⟩
def C8:List S:=[.cond (.e (.attr (.var AA) Bx)) [.ret (.attr (.var AA) Bx)] [.cond (.e (.attr (.var AA) DW)) [.ret (.max1 (.attr (.var AA) DW))] [.ret (.int 1)]]]
def FP:Fi:=⟨[AA],[],[],C8⟩
def LJ:List S:=[.seta (.var AA) A3 (.var A3),.seta (.var AA) A8 (.var A8)]
def Pf:Fi:=⟨[AA,A3,A8],[],[],LJ⟩
noncomputable def Kz:List S:=[.ret (.lst [(.attr (.var AA) A3),(.attr (.var AA) A8)])]
noncomputable def K0:Fi:=⟨[AA],[],[],Kz⟩
def Ll:List S:=[.cond (.not (.e (.meth (.var AA) AB [] []))) [.raise] [],.asg Ik (.meth (.attr (.var AA) A3) AV [(.var Ag)] []),.asg Hv (.meth (.attr (.var AA) A8) AV [(.var Ag)] []),.ret (.or [(.var Ik),(.var Hv)])]
def Lm:Fi:=⟨[AA,Ag],[],[],Ll⟩
def DH:List S:=[.asg x_q (.int 0),.cond (.e (.meth (.attr (.var AA) A3) AB [] [])) [.aug x_q .Add (.meth (.attr (.var AA) A3) AH [] [])] [],.cond (.e (.meth (.attr (.var AA) A8) AB [] [])) [.aug x_q .Add (.meth (.attr (.var AA) A8) AH [] [])] [],.ret (.var x_q)]
def IF:Fi:=⟨[AA],[],[],DH⟩
def K1:List S:=[.ret (.new .Union [(.var A3),(.var A8)] [])]
def K2:Fi:=⟨[AA,A3,A8],[],[],K1⟩
def D8:List S:=[.asg A3 (.attr (.var AA) A3),.asg A8 (.attr (.var AA) A8),.asg An (.meth (.var A3) AB [] []),.asg Am (.meth (.var A8) AB [] []),.cond (.and [(.e (.var AD)),(.e (.var An)),(.e (.var Am))]) [.asg Cj (.meth (.var A3) AH [] []),.asg Cm (.meth (.var A8) AH [] []),.cond (.and [(.e (.cmp .Lt (.var Cj) (.var AD))),(.e (.cmp .Lt (.var Cm) (.var AD)))]) [.ret (.meth (.new .Inter [(.var A3),(.var A8)] []) AL [(.var AD)] [])] [.cond (.e (.cmp .Lt (.var Cj) (.var AD))) [.ret (.new .AndMaybe [(.var A8),(.var A3)] [])] [.cond (.e (.cmp .Lt (.var Cm) (.var AD))) [.ret (.new .AndMaybe [(.var A3),(.var A8)] [])] []]]] [],.cond (.not (.or [(.e (.var An)),(.e (.var Am))])) [.ret (.fn AQ [] [])] [.cond (.not (.e (.var An))) [.ret (.meth (.var A8) AL [(.var AD)] [])] [.cond (.not (.e (.var Am))) [.ret (.meth (.var A3) AL [(.var AD)] [])] []]],.asg A3 (.meth (.var A3) AL [(.ite (.e (.var AD)) (.bin .Sub (.var AD) (.meth (.var A8) AH [] [])) (.int 0))] []),.asg A8 (.meth (.var A8) AL [(.ite (.e (.var AD)) (.bin .Sub (.var AD) (.meth (.var A3) AH [] [])) (.int 0))] []),.cond (.or [(.e (.cmp .IsNot (.var A3) (.attr (.var AA) A3))),(.e (.cmp .IsNot (.var A8) (.attr (.var AA) A8)))]) [.ret (.meth (.var AA) BJ [(.var A3),(.var A8)] [])] [.seta (.var AA) BD (.none),.ret (.var AA)]]
def JW:Fi:=⟨[AA,AD],[.int 0],[],D8⟩
def E0:List S:=[.ret (.or [(.meth (.attr (.var AA) A3) AB [] []),(.meth (.attr (.var AA) A8) AB [] [])])]
def IG:Fi:=⟨[AA],[],[],E0⟩
def D9:List S:=[.seta (.var AA) BD (.none),.asg2 Ik Hv (.bool false),.cond (.e (.meth (.attr (.var AA) A3) AB [] [])) [.asg Ik (.meth (.attr (.var AA) A3) AV [(.var Ag)] [])] [],.cond (.e (.meth (.attr (.var AA) A8) AB [] [])) [.asg Hv (.meth (.attr (.var AA) A8) AV [(.var Ag)] [])] [],.ret (.or [(.var Ik),(.var Hv)])]
def JX:Fi:=⟨[AA,Ag],[],[],D9⟩
def Fq:List S:=[.asg BD (.attr (.var AA) BD),.cond (.e (.cmp .IsNot (.var BD) (.none))) [.ret (.var BD)] [],.asg A3 (.attr (.var AA) A3),.asg A8 (.attr (.var AA) A8),.cond (.not (.e (.meth (.var A3) AB [] []))) [.asg BD (.meth (.var A8) Ag [] [])] [.cond (.not (.e (.meth (.var A8) AB [] []))) [.asg BD (.meth (.var A3) Ag [] [])] [.asg BD (.min2 (.meth (.var A3) Ag [] []) (.meth (.var A8) Ag [] []))]],.seta (.var AA) BD (.var BD),.ret (.var BD)]
def Ni:Fi:=⟨[AA],[],[],Fq⟩
def IH:List S:=[.seta (.var AA) BD (.none),.asg A3 (.attr (.var AA) A3),.asg A8 (.attr (.var AA) A8),.asg An (.meth (.var A3) AB [] []),.asg Am (.meth (.var A8) AB [] []),.cond (.not (.or [(.e (.var An)),(.e (.var Am))])) [.raise] [.cond (.not (.e (.var An))) [.ret (.meth (.var A8) BC [] [])] [.cond (.not (.e (.var Am))) [.ret (.meth (.var A3) BC [] [])] []]],.asg FB (.meth (.var A3) Ag [] []),.asg FC (.meth (.var A8) Ag [] []),.asg2 Jv Ng (.none),.cond (.e (.cmp .LtE (.var FB) (.var FC))) [.asg Jv (.meth (.var A3) BC [] [])] [],.cond (.e (.cmp .LtE (.var FC) (.var FB))) [.asg Ng (.meth (.var A8) BC [] [])] [],.ret (.or [(.var Jv),(.var Ng)])]
def Ln:Fi:=⟨[AA],[],[],IH⟩
def Lo:List S:=[.ret (.new .DMax [(.var A3),(.var A8)] [])]
def Lp:Fi:=⟨[AA,A3,A8],[],[],Lo⟩
def JM:List S:=[.expr (.sup .DMax Bn [(.var A3),(.var A8)]),.seta (.var AA) CG (.var CG)]
def Mo:Fi:=⟨[AA,A3,A8,CG],[.int 0],[],JM⟩
def Eh:List S:=[.asg A3 (.attr (.var AA) A3),.asg A8 (.attr (.var AA) A8),.asg An (.meth (.var A3) AB [] []),.asg Am (.meth (.var A8) AB [] []),.cond (.and [(.e (.var AD)),(.e (.var An)),(.e (.var Am))]) [.asg Cj (.meth (.var A3) AH [] []),.asg Cm (.meth (.var A8) AH [] []),.cond (.and [(.e (.cmp .Lt (.var Cj) (.var AD))),(.e (.cmp .Lt (.var Cm) (.var AD)))]) [.ret (.fn AQ [] [])] [.cond (.e (.cmp .Lt (.var Cm) (.var AD))) [.ret (.meth (.var A3) AL [(.var AD)] [])] [.cond (.e (.cmp .Lt (.var Cj) (.var AD))) [.ret (.meth (.var A8) AL [(.var AD)] [])] []]]] [],.cond (.not (.or [(.e (.var An)),(.e (.var Am))])) [.ret (.fn AQ [] [])] [.cond (.not (.e (.var An))) [.ret (.meth (.var A8) AL [(.var AD)] [])] [.cond (.not (.e (.var Am))) [.ret (.meth (.var A3) AL [(.var AD)] [])] []]],.asg A3 (.meth (.var A3) AL [(.var AD)] []),.asg A8 (.meth (.var A8) AL [(.var AD)] []),.asg An (.meth (.var A3) AB [] []),.asg Am (.meth (.var A8) AB [] []),.cond (.not (.and [(.e (.var An)),(.e (.var Am))])) [.ret (.fn AQ [] [])] [.cond (.not (.e (.var An))) [.ret (.var A8)] [.cond (.not (.e (.var Am))) [.ret (.var A3)] [.cond (.or [(.e (.cmp .IsNot (.var A3) (.attr (.var AA) A3))),(.e (.cmp .IsNot (.var A8) (.attr (.var AA) A8)))]) [.ret (.meth (.var AA) BJ [(.var A3),(.var A8)] [])] [.ret (.var AA)]]]]]
def J3:Fi:=⟨[AA,AD],[.int 0],[],Eh⟩
def Ei:List S:=[.ret (.max2 (.meth (.attr (.var AA) A3) AH [] []) (.meth (.attr (.var AA) A8) AH [] []))]
def He:Fi:=⟨[AA],[],[],Ei⟩
def K3:List S:=[.ret (.new .Inter [(.var A3),(.var A8)] [])]
def K4:Fi:=⟨[AA,A3,A8],[],[],K3⟩
def II:List S:=[.expr (.sup .Inter Bn [(.var A3),(.var A8)]),.expr (.meth (.var AA) Dm [] [])]
def Lq:Fi:=⟨[AA,A3,A8],[],[],II⟩
def EF:List S:=[.cond (.and [(.e (.meth (.attr (.var AA) A3) AB [] [])),(.e (.meth (.attr (.var AA) A8) AB [] [])),(.e (.cmp .NotEq (.meth (.attr (.var AA) A3) Ag [] []) (.meth (.attr (.var AA) A8) Ag [] [])))]) [.expr (.meth (.var AA) A0 [] [])] []]
def G9:Fi:=⟨[AA],[],[],EF⟩
def EA:List S:=[.asg A3 (.attr (.var AA) A3),.asg A8 (.attr (.var AA) A8),.asg An (.meth (.var A3) AB [] []),.asg Am (.meth (.var A8) AB [] []),.cond (.not (.and [(.e (.var An)),(.e (.var Am))])) [.ret (.fn AQ [] [])] [],.cond (.e (.var AD)) [.asg Cj (.meth (.var A3) AH [] []),.asg Cm (.meth (.var A8) AH [] []),.cond (.e (.cmp .Lt (.bin .Add (.var Cj) (.var Cm)) (.var AD))) [.ret (.fn AQ [] [])] [],.asg Fc (.bin .Sub (.var AD) (.var Cm)),.asg Fd (.bin .Sub (.var AD) (.var Cj))] [.asg2 Fc Fd (.int 0)],.asg A3 (.meth (.var A3) AL [(.var Fc)] []),.asg A8 (.meth (.var A8) AL [(.var Fd)] []),.asg An (.meth (.var A3) AB [] []),.asg Am (.meth (.var A8) AB [] []),.cond (.not (.or [(.e (.var An)),(.e (.var Am))])) [.ret (.fn AQ [] [])] [.cond (.not (.e (.var An))) [.ret (.var A8)] [.cond (.not (.e (.var Am))) [.ret (.var A3)] [.cond (.or [(.e (.cmp .IsNot (.var A3) (.attr (.var AA) A3))),(.e (.cmp .IsNot (.var A8) (.attr (.var AA) A8)))]) [.ret (.meth (.var AA) BJ [(.var A3),(.var A8)] [])] [.ret (.var AA)]]]]]
def JY:Fi:=⟨[AA,AD],[.int 0],[],EA⟩
def E1:List S:=[.ret (.and [(.meth (.attr (.var AA) A3) AB [] []),(.meth (.attr (.var AA) A8) AB [] [])])]
def IJ:Fi:=⟨[AA],[],[],E1⟩
def Ej:List S:=[.asg A3 (.attr (.var AA) A3),.asg A8 (.attr (.var AA) A8),.asg FB (.meth (.var A3) Ag [] []),.asg FC (.meth (.var A8) Ag [] []),.assert (.e (.cmp .NotEq (.var FB) (.var FC))),.asg Hr (.bool false),.while (.and [(.e (.meth (.var A3) AB [] [])),(.e (.meth (.var A8) AB [] [])),(.e (.cmp .NotEq (.var FB) (.var FC)))]) [.cond (.e (.cmp .Lt (.var FB) (.var FC))) [.asg Ik (.meth (.var A3) AV [(.var FC)] []),.cond (.not (.e (.meth (.var A3) AB [] []))) [.ret0] [],.asg Hr (.or [(.var Hr),(.var Ik)]),.asg FB (.meth (.var A3) Ag [] [])] [.asg Hv (.meth (.var A8) AV [(.var FB)] []),.cond (.not (.e (.meth (.var A8) AB [] []))) [.ret0] [],.asg Hr (.or [(.var Hr),(.var Hv)]),.asg FC (.meth (.var A8) Ag [] [])]],.ret (.var Hr)]
def Hf:Fi:=⟨[AA],[],[],Ej⟩
def Hg:List S:=[.ret (.meth (.attr (.var AA) A3) Ag [] [])]
def Nj:Fi:=⟨[AA],[],[],Hg⟩
def F8:List S:=[.cond (.not (.e (.meth (.var AA) AB [] []))) [.raise] [],.asg Ik (.meth (.attr (.var AA) A3) AV [(.var Ag)] []),.asg Hv (.meth (.attr (.var AA) A8) AV [(.var Ag)] []),.cond (.e (.meth (.var AA) AB [] [])) [.asg x_rn (.bool false),.cond (.e (.cmp .NotEq (.meth (.attr (.var AA) A3) Ag [] []) (.meth (.attr (.var AA) A8) Ag [] []))) [.asg x_rn (.meth (.var AA) A0 [] [])] [],.ret (.or [(.var Ik),(.var Hv),(.var x_rn)])] []]
def JZ:Fi:=⟨[AA,Ag],[],[],F8⟩
def IK:List S:=[.cond (.not (.e (.meth (.var AA) AB [] []))) [.raise] [],.asg Jv (.meth (.attr (.var AA) A3) BC [] []),.cond (.e (.meth (.var AA) AB [] [])) [.asg Md (.meth (.var AA) A0 [] []),.ret (.or [(.var Jv),(.var Md)])] []]
def Lr:Fi:=⟨[AA],[],[],IK⟩
def J4:List S:=[.ret (.new .AndNot [(.var A3),(.var A8)] [])]
def J5:Fi:=⟨[AA,A3,A8],[],[],J4⟩
def HQ:List S:=[.expr (.sup .AndNot Bn [(.var A3),(.var A8)]),.expr (.meth (.var AA) Dm [] [])]
def K5:Fi:=⟨[AA,A3,A8],[],[],HQ⟩
def Ds:List S:=[.cond (.and [(.e (.meth (.attr (.var AA) A3) AB [] [])),(.e (.meth (.attr (.var AA) A8) AB [] [])),(.e (.cmp .Eq (.meth (.attr (.var AA) A3) Ag [] []) (.meth (.attr (.var AA) A8) Ag [] [])))]) [.expr (.meth (.var AA) A0 [] [])] []]
def GZ:Fi:=⟨[AA],[],[],Ds⟩
def Ek:List S:=[.ret (.meth (.attr (.var AA) A3) AB [] [])]
def Hh:Fi:=⟨[AA],[],[],Ek⟩
def Ce:List S:=[.asg JH (.attr (.var AA) A3),.asg Hw (.attr (.var AA) A8),.cond (.not (.e (.meth (.var Hw) AB [] []))) [.ret0] [],.asg Dq (.meth (.var JH) Ag [] []),.asg Hr (.bool false),.cond (.e (.cmp .Lt (.meth (.var Hw) Ag [] []) (.var Dq))) [.expr (.meth (.var Hw) AV [(.var Dq)] [])] [],.while (.and [(.e (.meth (.var JH) AB [] [])),(.e (.meth (.var Hw) AB [] [])),(.e (.cmp .Eq (.var Dq) (.meth (.var Hw) Ag [] [])))]) [.asg Md (.meth (.var JH) BC [] []),.cond (.not (.e (.meth (.var JH) AB [] []))) [.brk] [],.asg Hr (.or [(.var Hr),(.var Md)]),.asg Dq (.meth (.var JH) Ag [] []),.expr (.meth (.var Hw) AV [(.var Dq)] [])],.ret (.var Hr)]
def HA:Fi:=⟨[AA],[],[],Ce⟩
def De:List S:=[.cond (.not (.e (.meth (.attr (.var AA) A3) AB [] []))) [.ret (.fn AQ [] [])] [.cond (.and [(.e (.var AD)),(.e (.cmp .Lt (.meth (.attr (.var AA) A3) AH [] []) (.var AD)))]) [.ret (.fn AQ [] [])] [.cond (.not (.e (.meth (.attr (.var AA) A8) AB [] []))) [.ret (.meth (.attr (.var AA) A3) AL [(.var AD)] [])] []]],.asg A3 (.meth (.attr (.var AA) A3) AL [(.var AD)] []),.asg A8 (.meth (.attr (.var AA) A8) AL [] []),.cond (.or [(.e (.cmp .IsNot (.var A3) (.attr (.var AA) A3))),(.e (.cmp .IsNot (.var A8) (.attr (.var AA) A8)))]) [.ret (.meth (.var AA) BJ [(.var A3),(.var A8)] [])] [.ret (.var AA)]]
def Iu:Fi:=⟨[AA,AD],[.int 0],[],De⟩
def Dt:List S:=[.ret (.meth (.attr (.var AA) A3) AH [] [])]
def Ga:Fi:=⟨[AA],[],[],Dt⟩
def JN:List S:=[.ret (.meth (.attr (.var AA) A3) Ag [] [])]
def Mp:Fi:=⟨[AA],[],[],JN⟩
def FH:List S:=[.cond (.not (.e (.meth (.attr (.var AA) A3) AB [] []))) [.raise] [],.asg Jv (.meth (.attr (.var AA) A3) BC [] []),.asg Md (.bool false),.cond (.and [(.e (.meth (.attr (.var AA) A3) AB [] [])),(.e (.meth (.attr (.var AA) A8) AB [] []))]) [.asg Md (.meth (.var AA) A0 [] [])] [],.ret (.or [(.var Jv),(.var Md)])]
def K6:Fi:=⟨[AA],[],[],FH⟩
def FQ:List S:=[.cond (.not (.e (.meth (.attr (.var AA) A3) AB [] []))) [.raise] [],.cond (.e (.cmp .Lt (.var Ag) (.meth (.attr (.var AA) A3) Ag [] []))) [.ret0] [],.expr (.meth (.attr (.var AA) A3) AV [(.var Ag)] []),.cond (.e (.meth (.attr (.var AA) A8) AB [] [])) [.expr (.meth (.attr (.var AA) A8) AV [(.var Ag)] []),.expr (.meth (.var AA) A0 [] [])] []]
def Iv:Fi:=⟨[AA,Ag],[],[],FQ⟩
def Iw:List S:=[.ret (.new .AndMaybe [(.var A3),(.var A8)] [])]
def Ix:Fi:=⟨[AA,A3,A8],[],[],Iw⟩
def F9:List S:=[.expr (.via .Add Ab Bn [(.var AA),(.var A3),(.var A8)]),.expr (.meth (.var AA) Jw [] [])]
def Ja:Fi:=⟨[AA,A3,A8],[],[],F9⟩
def EG:List S:=[.asg A3 (.attr (.var AA) A3),.asg A8 (.attr (.var AA) A8),.cond (.and [(.e (.meth (.var A3) AB [] [])),(.e (.meth (.var A8) AB [] [])),(.e (.cmp .NotEq (.meth (.var A3) Ag [] []) (.meth (.var A8) Ag [] [])))]) [.expr (.meth (.var A8) AV [(.meth (.var A3) Ag [] [])] [])] []]
def HB:Fi:=⟨[AA],[],[],EG⟩
def Du:List S:=[.ret (.meth (.attr (.var AA) A3) AB [] [])]
def Gb:Fi:=⟨[AA],[],[],Du⟩
def HR:List S:=[.ret (.meth (.attr (.var AA) A3) Ag [] [])]
def K7:Fi:=⟨[AA],[],[],HR⟩
def EB:List S:=[.cond (.not (.e (.meth (.attr (.var AA) A3) AB [] []))) [.raise] [],.asg Jv (.meth (.attr (.var AA) A3) BC [] []),.asg Ng (.bool false),.cond (.and [(.e (.meth (.attr (.var AA) A3) AB [] [])),(.e (.meth (.attr (.var AA) A8) AB [] []))]) [.asg Ng (.meth (.attr (.var AA) A8) AV [(.meth (.attr (.var AA) A3) Ag [] [])] [])] [],.ret (.or [(.var Jv),(.var Ng)])]
def Jb:Fi:=⟨[AA],[],[],EB⟩
def Cz:List S:=[.cond (.not (.e (.meth (.attr (.var AA) A3) AB [] []))) [.raise] [],.asg Ik (.meth (.attr (.var AA) A3) AV [(.var Ag)] []),.asg Hv (.bool false),.cond (.and [(.e (.meth (.attr (.var AA) A3) AB [] [])),(.e (.meth (.attr (.var AA) A8) AB [] []))]) [.asg Hv (.meth (.attr (.var AA) A8) AV [(.var Ag)] [])] [],.ret (.or [(.var Ik),(.var Hv)])]
def Hi:Fi:=⟨[AA,Ag],[],[],Cz⟩
def C0:List S:=[.asg A3 (.attr (.var AA) A3),.asg A8 (.attr (.var AA) A8),.asg An (.meth (.var A3) AB [] []),.asg Am (.meth (.var A8) AB [] []),.cond (.not (.e (.var An))) [.ret (.fn AQ [] [])] [.cond (.and [(.e (.var AD)),(.e (.var Am))]) [.cond (.e (.cmp .Lt (.bin .Add (.meth (.var A3) AH [] []) (.meth (.var A8) AH [] [])) (.var AD))) [.ret (.fn AQ [] [])] [.cond (.e (.cmp .Lt (.meth (.var A3) AH [] []) (.var AD))) [.ret (.new .Inter [(.attr (.var AA) A3),(.attr (.var AA) A8)] [])] []]] [.cond (.not (.e (.var Am))) [.ret (.meth (.var A3) AL [(.var AD)] [])] []]],.asg Fe (.meth (.var A3) AL [(.bin .Sub (.var AD) (.meth (.var A8) AH [] []))] []),.asg Hx (.meth (.var A8) AL [(.bin .Sub (.var AD) (.meth (.var A3) AH [] []))] []),.cond (.or [(.e (.cmp .IsNot (.var Fe) (.var A3))),(.e (.cmp .IsNot (.var Hx) (.var A8)))]) [.ret (.meth (.var AA) BJ [(.var Fe),(.var Hx)] [])] [.ret (.var AA)]]
def Hj:Fi:=⟨[AA,AD],[.int 0],[],C0⟩
def Gc:List S:=[.seta (.var AA) AJ (.var AJ),.seta (.var AA) Aw (.var Aw)]
def Mq:Fi:=⟨[AA,AJ,Aw],[.int 1],[],Gc⟩
def HC:List S:=[.ret (.new .Wrap [(.var BZ)] [(Aw,(.attr (.var AA) Aw))])]
def HD:Fi:=⟨[AA,BZ],[],[],HC⟩
def Gd:List S:=[.asg Hr (.meth (.attr (.var AA) AJ) AL [(.var AD)] []),.cond (.e (.cmp .IsNot (.var Hr) (.attr (.var AA) AJ))) [.ret (.meth (.var AA) BH [(.var Hr)] [])] [.ret (.var AA)]]
def J6:Fi:=⟨[AA,AD],[.int 0],[],Gd⟩
def Iy:List S:=[.ret (.meth (.attr (.var AA) AJ) Ag [] [])]
def Pg:Fi:=⟨[AA],[],[],Iy⟩
def Df:List S:=[.ret (.meth (.attr (.var AA) AJ) AB [] [])]
def Iz:Fi:=⟨[AA],[],[],Df⟩
noncomputable def Jc:List S:=[.ret (.lst [(.attr (.var AA) AJ)])]
noncomputable def Jd:Fi:=⟨[AA],[],[],Jc⟩
def El:List S:=[.ret (.meth (.attr (.var AA) AJ) AV [(.var Ag)] [])]
def J7:Fi:=⟨[AA,Ag],[],[],El⟩
def Ge:List S:=[.expr (.meth (.attr (.var AA) AJ) BC [] [])]
def Mr:Fi:=⟨[AA],[],[],Ge⟩
def Em:List S:=[.ret (.bin .Mult (.meth (.attr (.var AA) AJ) AH [] []) (.attr (.var AA) Aw))]
def Hk:Fi:=⟨[AA],[],[],Em⟩
def FI:List S:=[.expr (.sup .Filter BP [(.var AJ)]),.seta (.var AA) D1 (.var DP),.seta (.var AA) DX (.var EV),.seta (.var AA) Aw (.var Aw),.expr (.meth (.var AA) A0 [] [])]
def K8:Fi:=⟨[AA,AJ,DP,EV,Aw],[.bool false,.int 1],[],FI⟩
def DT:List S:=[.ret (.new .Filter [(.var BZ),(.attr (.var AA) D1)] [(EV,(.attr (.var AA) DX)),(Aw,(.attr (.var AA) Aw))])]
def GD:Fi:=⟨[AA,BZ],[],[],DT⟩
def EH:List S:=[.asg AJ (.attr (.var AA) AJ),.asg DP (.attr (.var AA) D1),.asg Hr (.bool false),.cond (.e (.attr (.var AA) DX)) [.while (.and [(.e (.meth (.var AJ) AB [] [])),(.e (.cmp .In (.meth (.var AJ) Ag [] []) (.var DP)))]) [.asg Hr (.or [(.meth (.var AJ) BC [] []),(.var Hr)])]] [.while (.and [(.e (.meth (.var AJ) AB [] [])),(.e (.cmp .NotIn (.meth (.var AJ) Ag [] []) (.var DP)))]) [.asg Hr (.or [(.meth (.var AJ) BC [] []),(.var Hr)])]],.ret (.var Hr)]
def HE:Fi:=⟨[AA],[],[],EH⟩
def HS:List S:=[.expr (.meth (.attr (.var AA) AJ) BC [] []),.expr (.meth (.var AA) A0 [] [])]
def K9:Fi:=⟨[AA],[],[],HS⟩
def FR:List S:=[.expr (.meth (.attr (.var AA) AJ) AV [(.var Ag)] []),.expr (.meth (.var AA) A0 [] [])]
def I0:Fi:=⟨[AA,Ag],[],[],FR⟩
def CO:List S:=[.expr (.sup .Inverse BP [(.var AJ)]),.seta (.var AA) A6 (.var A6),.seta (.var AA) Bm (.var Cg),.seta (.var AA) Ax (.or [(.var Ax),(.tup [])]),.seta (.var AA) BD (.var Ag),.expr (.meth (.var AA) A0 [] [])]
def J8:Fi:=⟨[AA,AJ,A6,Ax,Cg,Ag],[.none,.int 1,.int 0],[],CO⟩
def DI:List S:=[.ret (.new .Inverse [(.var BZ),(.attr (.var AA) A6)] [(Ax,(.attr (.var AA) Ax)),(Cg,(.attr (.var AA) Bm)),(Ag,(.attr (.var AA) BD))])]
def Fs:Fi:=⟨[AA,BZ],[],[],DI⟩
def EI:List S:=[.ret (.cmp .Lt (.attr (.var AA) BD) (.attr (.var AA) A6))]
def HG:Fi:=⟨[AA],[],[],EI⟩
def BQ:List S:=[.asg AJ (.attr (.var AA) AJ),.asg Ax (.attr (.var AA) Ax),.cond (.and [(.not (.e (.meth (.var AJ) AB [] []))),(.e (.cmp .NotIn (.attr (.var AA) BD) (.var Ax)))]) [.ret0] [],.while (.and [(.e (.cmp .Lt (.attr (.var AA) BD) (.attr (.var AA) A6))),(.e (.cmp .In (.attr (.var AA) BD) (.var Ax)))]) [.auga (.var AA) BD .Add (.int 1)],.cond (.and [(.e (.meth (.var AJ) AB [] [])),(.e (.cmp .Lt (.meth (.var AJ) Ag [] []) (.attr (.var AA) BD)))]) [.expr (.meth (.var AJ) AV [(.attr (.var AA) BD)] [])] [],.while (.and [(.e (.meth (.var AJ) AB [] [])),(.e (.cmp .Lt (.attr (.var AA) BD) (.attr (.var AA) A6)))]) [.cond (.e (.cmp .In (.attr (.var AA) BD) (.var Ax))) [.auga (.var AA) BD .Add (.int 1),.cont] [],.cond (.e (.cmp .Eq (.attr (.var AA) BD) (.meth (.var AJ) Ag [] []))) [.auga (.var AA) BD .Add (.int 1),.expr (.meth (.var AJ) BC [] []),.cont] [],.brk]]
def Gf:Fi:=⟨[AA],[],[],BQ⟩
def IL:List S:=[.ret (.attr (.var AA) BD)]
def Lu:Fi:=⟨[AA],[],[],IL⟩
def Gg:List S:=[.cond (.e (.cmp .GtE (.attr (.var AA) BD) (.attr (.var AA) A6))) [.raise] [],.auga (.var AA) BD .Add (.int 1),.expr (.meth (.var AA) A0 [] [])]
def J9:Fi:=⟨[AA],[],[],Gg⟩
def E2:List S:=[.cond (.e (.cmp .GtE (.attr (.var AA) BD) (.attr (.var AA) A6))) [.raise] [],.cond (.e (.cmp .Lt (.var Ag) (.attr (.var AA) BD))) [.ret0] [],.seta (.var AA) BD (.var Ag),.expr (.meth (.var AA) A0 [] [])]
def IM:Fi:=⟨[AA,Ag],[],[],E2⟩
def Gh:List S:=[.seta (.var AA) A3 (.var A3),.seta (.var AA) A8 (.var A8),.expr (.via .Wrap Ab BP [(.var AA),(.new .Inter [(.var A3),(.var A8)] [])])]
def KA:Fi:=⟨[AA,A3,A8],[],[],Gh⟩
def DJ:List S:=[.cond (.not (.e (.meth (.attr (.var AA) AJ) AB [] []))) [.ret (.fn AQ [] [])] [.cond (.and [(.e (.var AD)),(.e (.cmp .Lt (.meth (.attr (.var AA) A3) AH [] []) (.var AD)))]) [.ret (.fn AQ [] [])] []],.asg Fe (.meth (.attr (.var AA) A3) AL [(.var AD)] []),.asg Hx (.meth (.attr (.var AA) A8) AL [] []),.cond (.not (.e (.meth (.var Fe) AB [] []))) [.ret (.fn AQ [] [])] [.cond (.or [(.e (.cmp .IsNot (.var Fe) (.attr (.var AA) A3))),(.e (.cmp .IsNot (.var Hx) (.attr (.var AA) A8)))]) [.ret (.new .Require [(.var Fe),(.attr (.var AA) A8)] [])] [.ret (.var AA)]]]
def IN:Fi:=⟨[AA,AD],[.int 0],[],DJ⟩
def DU:List S:=[.ret (.meth (.attr (.var AA) A3) AH [] [])]
def GE:Fi:=⟨[AA],[],[],DU⟩
def IO:List S:=[.expr (.via .Wrap Ab BP [(.var AA),(.var AJ)]),.seta (.var AA) FK (.var Gv)]
def Lv:Fi:=⟨[AA,AJ,Gv],[.int 1],[],IO⟩
def Dv:List S:=[.ret (.new .Const [(.var BZ)] [(Gv,(.attr (.var AA) FK))])]
def Gi:Fi:=⟨[AA,BZ],[],[],Dv⟩
def EJ:List S:=[.ret (.attr (.var AA) FK)]
def HH:Fi:=⟨[AA],[],[],EJ⟩
def HT:List S:=[.casg Ff (.bin .Mod (.bin .Add (.bin .Mult (.var A9) (.int 153)) (.int 109)) (.int 256)),.asg B6 (.lcomp (.var AZ) AZ (.range [(.int 8)]) [(.e (.cmp .Eq (.bin .Mod (.bin .RShift (.cvar Ff) (.var AZ)) (.int 2)) (.int 1)))]),.asg FD (.new .Leaf [(.var B6)] [(EU,(.lcomp (.int 1) AZ (.var B6) [])),(BG,(.tup [(.str 8),(.cvar Il)]))]),.ret (.tup [(.var FD),(.dcomp (.var AZ) (.lst [(.tup [(.str 8),(.cvar Il)])]) AZ (.var B6) []),(.lst [(.tup [(.str 8),(.cvar Il)])])])]
def LA:Fi:=⟨[A9,Il],[],[Il,Ff],HT⟩
noncomputable def GA:List S:=[.asg Hy (.lcomp (.var AZ) AZ (.sorted (.cvar AW)) [(.e (.cmp .In (.var AZ) (.cvar B6)))]),.cond (.e (.cmp .Eq (.len (.var Hy)) (.len (.cvar AW)))) [.ret (.tup [(.var AY),(.cvar AW)])] [],.ret (.tup [(.new .Filter [(.var AY),(.setof (.var Hy))] [(Aw,(.int 1))]),(.dcomp (.var AZ) (.idx (.cvar AW) (.var AZ)) AZ (.var Hy) [])])]
noncomputable def Je:Fi:=⟨[AY,AW,B6],[],[AW,B6],GA⟩
def Ft:List S:=[.cond (.e (.cmp .Eq (.var Aq) (.int 5))) [.ret (.tup [(.new .Inter [(.var Ba),(.var A7)] []),(.dcomp (.var AZ) (.cat (.idx (.cvar Af) (.var AZ)) (.idx (.cvar AX) (.var AZ))) AZ (.cvar Af) [(.e (.cmp .In (.var AZ) (.cvar AX)))])])] [],.cond (.e (.cmp .Eq (.var Aq) (.int 6))) [.asg B6 (.sorted (.cvar Af)),.asg Lh (.ite (.e (.cmp .Gt (.len (.var B6)) (.int 0))) (.listof (.range [(.idx (.var B6) (.int 0)),(.bin .Add (.idx (.var B6) (.neg 1)) (.int 1))])) (.lst [])),.unp [(A7,false),(AX,true)] (.fn BV [(.var A7),(.cvar AX),(.var Lh)] []),.ret (.tup [(.new .AndNot [(.var Ba),(.var A7)] []),(.dcomp (.var AZ) (.idx (.cvar Af) (.var AZ)) AZ (.cvar Af) [(.e (.cmp .NotIn (.var AZ) (.cvar AX)))])])] [],.cond (.e (.cmp .Eq (.var Aq) (.int 7))) [.unp [(A7,false),(AX,true)] (.fn BV [(.var A7),(.cvar AX),(.sorted (.cvar Af))] []),.ret (.tup [(.new .AndMaybe [(.var Ba),(.var A7)] []),(.dcomp (.var AZ) (.cat (.idx (.cvar Af) (.var AZ)) (.dget (.cvar AX) (.var AZ) (.lst []))) AZ (.cvar Af) [])])] [],.cond (.e (.cmp .Eq (.var Aq) (.int 8))) [.ret (.tup [(.new .Require [(.var Ba),(.var A7)] []),(.dcomp (.var AZ) (.cat (.idx (.cvar Af) (.var AZ)) (.idx (.cvar AX) (.var AZ))) AZ (.cvar Af) [(.e (.cmp .In (.var AZ) (.cvar AX)))])])] [],.asg Nh (.dcomp (.var AZ) (.cat (.dget (.cvar Af) (.var AZ) (.lst [])) (.dget (.cvar AX) (.var AZ) (.lst []))) AZ (.range [(.int 10)]) [(.or [(.e (.cmp .In (.var AZ) (.cvar Af))),(.e (.cmp .In (.var AZ) (.cvar AX)))])]),.cond (.e (.cmp .Eq (.var Aq) (.int 11))) [.ret (.tup [(.new .DMax [(.var Ba),(.var A7)] []),(.var Nh)])] [],.ret (.tup [(.new .Union [(.var Ba),(.var A7)] []),(.var Nh)])]
def Lw:Fi:=⟨[Aq,Ba,Af,A7,AX],[],[Af,AX],Ft⟩
def IP:List S:=[.cond (.e (.cmp .Eq (.var Aq) (.int 10))) [.asg A6 (.bin .Sub (.int 10) (.bin .Mod (.var DC) (.int 10))),.ret (.tup [(.new .Inverse [(.var AY),(.var A6)] [(Cg,(.int 1))]),(.dcomp (.var AZ) (.lst []) AZ (.range [(.var A6)]) [(.e (.cmp .NotIn (.var AZ) (.cvar AW)))])])] [],.cond (.e (.cmp .Eq (.bin .Mod (.var DC) (.int 4)) (.int 3))) [.ret (.tup [(.new .Const [(.var AY)] [(Gv,(.int 1))]),(.cvar AW)])] [],.casg Ff (.bin .Mod (.bin .Add (.bin .Mult (.var DC) (.int 613)) (.int 682)) (.int 1024)),.casg B6 (.lcomp (.var AZ) AZ (.range [(.int 10)]) [(.e (.cmp .Eq (.bin .Mod (.bin .RShift (.cvar Ff) (.var AZ)) (.int 2)) (.int 1)))]),.ret (.tup [(.new .Filter [(.var AY),(.setof (.cvar B6))] [(Aw,(.int 1))]),(.dcomp (.var AZ) (.idx (.cvar AW) (.var AZ)) AZ (.cvar AW) [(.e (.cmp .In (.var AZ) (.cvar B6)))])])]
def Lx:Fi:=⟨[Aq,DC,AY,AW],[],[AW,Ff,B6],IP⟩
def HU:List S:=[.asg Ai .stk,.asg Cn (.int 0),.for CR (.range [(.len (.var By))]) [.asg A9 (.idx (.var By) (.var CR)),.asg Aq (.bin .Mod (.var A9) (.int 12)),.asg DC (.bin .FloorDiv (.var A9) (.int 12)),.cond (.and [(.or [(.e (.cmp .Eq (.var Aq) (.int 9))),(.e (.cmp .Eq (.var Aq) (.int 10)))]),(.e (.cmp .Gt (.len (.var Ai)) (.int 0)))]) [.unp [(AY,false),(AW,false),(Bz,false)] (.pop (.var Ai)),.unp [(AY,false),(AW,false)] (.fn CS [(.var Aq),(.var DC),(.var AY),(.var AW)] []),.expr (.append (.var Ai) (.tup [(.var AY),(.var AW),(.var Bz)]))] [.cond (.and [(.e (.cmp .Gt (.var Aq) (.int 3))),(.e (.cmp .NotEq (.var Aq) (.int 9))),(.e (.cmp .NotEq (.var Aq) (.int 10))),(.e (.cmp .Gt (.len (.var Ai)) (.int 1)))]) [.unp [(A7,false),(AX,false),(DY,false)] (.pop (.var Ai)),.unp [(Ba,false),(Af,false),(DZ,false)] (.pop (.var Ai)),.unp [(AY,false),(AW,false)] (.fn B8 [(.var Aq),(.var Ba),(.var Af),(.var A7),(.var AX)] []),.expr (.append (.var Ai) (.tup [(.var AY),(.var AW),(.cat (.var DZ) (.var DY))]))] [.cond (.e (.cmp .Lt (.var Cn) (.int 4))) [.asg Cn (.bin .Add (.var Cn) (.int 1)),.expr (.append (.var Ai) (.fn Bt [(.var A9),(.ltr (.var CR))] []))] []]]],.cond (.e (.cmp .Eq (.len (.var Ai)) (.int 0))) [.expr (.append (.var Ai) (.fn Bt [(.int 0),(.str 0)] []))] [],.while (.e (.cmp .Gt (.len (.var Ai)) (.int 1))) [.unp [(A7,false),(AX,false),(DY,false)] (.pop (.var Ai)),.unp [(Ba,false),(Af,false),(DZ,false)] (.pop (.var Ai)),.unp [(AY,false),(AW,false)] (.fn B8 [(.int 4),(.var Ba),(.var Af),(.var A7),(.var AX)] []),.expr (.append (.var Ai) (.tup [(.var AY),(.var AW),(.cat (.var DZ) (.var DY))]))],.ret (.idx (.var Ai) (.int 0))]
def LB:Fi:=⟨[By],[],[],HU⟩
def OX:List S:=[.casg Bq (.upto (.cvar Bq) (.int 14)),.unp [(AY,false),(AW,true),(Bz,false)] (.fn Dn [(.lcomp (.idx (.cvar Bq) (.var CR)) CR (.range [(.int 0),(.len (.cvar Bq)),(.int 2)]) [])] []),.asg Ez (.lcomp (.idx (.cvar Bq) (.var CR)) CR (.range [(.int 1),(.len (.cvar Bq)),(.int 2)]) []),.cond (.e (.cmp .NotEq (.ltm (.var AY)) (.var Bz))) [.ret (.bool false)] [],.asg EZ (.int 0),.for Im (.range [(.bin .Add (.len (.var Ez)) (.int 11))]) [.asg B7 (.lcomp (.var AZ) AZ (.range [(.var EZ),(.int 10)]) [(.e (.cmp .In (.var AZ) (.cvar AW)))]),.cond (.e (.cmp .Eq (.len (.var B7)) (.int 0))) [.ret (.and [(.not (.meth (.var AY) AB [] [])),(.cmp .Eq (.lmt (.var AY)) (.lst []))])] [],.cond (.or [(.not (.e (.meth (.var AY) AB [] []))),(.e (.cmp .NotEq (.meth (.var AY) Ag [] []) (.idx (.var B7) (.int 0))))]) [.ret (.bool false)] [],.asg HK (.idx (.cvar AW) (.idx (.var B7) (.int 0))),.cond (.or [(.e (.cmp .NotEq (.lmt (.var AY)) (.var HK))),(.e (.cmp .NotEq (.lmt1 (.var AY) (.bin .Add (.idx (.var B7) (.int 0)) (.int 1))) (.lst [])))]) [.ret (.bool false)] [],.asg A9 (.ite (.e (.cmp .Lt (.var Im) (.len (.var Ez)))) (.idx (.var Ez) (.var Im)) (.int 0)),.asg Aq (.bin .Mod (.var A9) (.int 5)),.cond (.or [(.e (.cmp .Eq (.var Aq) (.int 2))),(.e (.cmp .Eq (.var Aq) (.int 3)))]) [.asg Fh (.bin .Mod (.bin .FloorDiv (.var A9) (.int 5)) (.int 12)),.expr (.meth (.var AY) AV [(.var Fh)] []),.asg EZ (.max2 (.var EZ) (.var Fh))] [.cond (.e (.cmp .Eq (.var Aq) (.int 4))) [.asg AY (.meth (.var AY) AL [] [])] [.expr (.meth (.var AY) BC [] []),.asg EZ (.bin .Add (.idx (.var B7) (.int 0)) (.int 1))]]],.ret (.bool false)]
def Ji:Fi:=⟨[Bq],[],[Bq,AW],OX⟩
def Ph:List (Nat×Fi):=[(BA,Mj),(Co,JU),(B0,J0),(Ea,Ha),(FL,Ir),(AQ,JV),(JI,Ml),(Da,It),(Eb,J1),(CH,Br),(Ec,J2),(Cs,Hb),(Io,Pe),(GM,Mn),(B3,FP),(Bn,Pf),(BX,K0),(Fj,Lm),(BS,IF),(HL,K2),(D2,JW),(CC,IG),(Cp,JX),(Fm,Ni),(EK,Ln),(Hz,Lp),(JJ,Mo),(Ed,J3),(Ct,He),(HM,K4),(IA,Lq),(CX,G9),(D3,JY),(DD,IJ),(Cu,Hf),(HZ,Nj),(D4,JZ),(Fn,Lr),(GN,J5),(HN,K5),(CJ,GZ),(Cv,Hh),(CY,HA),(Db,Iu),(CK,Ga),(GO,Mp),(FE,K6),(Dc,Iv),(FM,Ix),(F5,Ja),(CZ,HB),(CM,Gb),(FF,K7),(D5,Jb),(Cw,Hi),(Cy,Hj),(BP,Mq),(Ca,HD),(B4,J6),(EW,Pg),(BY,Iz),(Bo,Jd),(B5,J7),(C6,Mr),(Bb,Hk),(HO,K8),(DQ,GD),(Cb,HE),(FG,K9),(Dd,I0),(GQ,J8),(DE,Fs),(Cc,HG),(CN,Gf),(Fo,Lu),(Ee,J9),(DF,IM),(GR,KA),(DG,IN),(DS,GE),(IB,Lv),(Dr,Gi),(Cd,HH),(Bt,LA),(BV,Je),(B8,Lw),(CS,Lx),(Dn,LB)]
def call:Nat->CB
 | 0=>λU U U U U=>False
 | d+1=>λf vs ks H Q=>op (AM f Ph) λi=>IE (call d) i vs ks H Q
end Mine
end
section
namespace Mine
open PySem
theorem dl{a u n:Nat}(h:8*a+u+n<=7900):a<1000:=Nat.lt_of_mul_lt_mul_left (X5 (WL (WL (WZ (8*a) u) (WZ _ n)) h) (by decide:7900<8*1000))
theorem dm{a u x y:Nat}(h:8*a+u+24*y<=7900)(k:x<=y):8*a+u+24*x<=7900:=WL (Wj (XJ 24 k) _) h
theorem e8{a u b:Nat}:8*(a+1)+(u+3)+b=8*a+u+b+11:=by
 show 8*a+8+u+3+b=_
 rw[XM (8*a) 8 u];exact XM (8*a+u) 11 b
theorem di{a u x y:Nat}(h:8*a+u+24*y<=7900)(k:x+1<=y):8*(a+1)+(u+3)+24*x+12<=7900:=by
 rw[e8];exact WL (X3 (8*a+u+24*x+23)) (dm (x:=x+1) h k)
theorem dw{a x:Nat}(h:a+x+12<=7900):a+x<=7900:=WL (WZ _ _) h
theorem d0{a x:Nat}(h:a+x<=7900):a<=7900:=WL (WZ _ _) h
theorem dc{a x b:Nat}(h:a+24*x+12<=7900)(h':b<=a+12):b+24*x<=7900:=WL (Wo h' _) (XM a 12 (24*x)▸h)
theorem m24{x y:Nat}(h:x<=y):24*x<=24*y:=XJ 24 h
theorem d2{a u b:Nat}(h:a+u+b+2<=7900):a+(u+1+1)+b<=7900:=WL (X6 (by rw[XM (a+u) b 2];rfl)) h
theorem ph2{x a b c n:Nat}(h1:x<=a+b+2)(h2:a+2+(b+2+c)<=n):x+2+c<=n :=
 WL (Wo (Wo h1 2) c) (WL (X6 (by rw[<- Zv (a+2) (b+2) c];exact congrArg (·+2+c) (XM a b 2))) h2)
theorem ph1{x a c n:Nat}(h1:x<=a+1)(h2:a+2+c<=n):x+2+c<=n+3:=WL (Wo (Wo h1 2) c) (WL (X6 (by rw[XM a 1 2,XM (a+2) 1 c])) (WL (Xk h2) (Wj (by decide:1<=3) n)))
theorem ph0{x c n:Nat}(h:x=1)(h2:c<=n):x+2+c<=n+3:=by rw[h,Z7];exact Wo h2 3
theorem m3{i:Nat}:3*i<=3*(i+1):=XJ 3 (X3 i)
theorem du{a u:Nat}:8*(a+1)+(u+1)<=8*a+u+12:=WL (X6 (congrArg (·+1) (XM (8*a) 8 u))) (Wj (by decide:9<=12) (8*a+u))
theorem bn{x y:Int}(h:(x !=y)=true):x≠y:=bne_iff_ne.mp h
theorem be'{x y:Int}(h:(x !=y)=false):x=y:=WX λz=>by rw[bne_iff_ne.mpr z] at h;cases h
theorem AU{P:Prop}(h:∀G:Prop,(P->G)->G):P:=h P id
section
variable{a b c d e f g i l:Prop}{G:Prop}
theorem Az(h:a/\b)(k:a->b->G):G:=k h.1 h.2
theorem DN(h:a/\b/\c)(k:a->b->c->G):G:=Az h.2 (k h.1)
theorem Ij(h:a/\b/\c/\d)(k:a->b->c->d->G):G:=DN h.2 (k h.1)
theorem Nk(h:a/\b/\c/\d/\e)(k:a->b->c->d->e->G):G:=Ij h.2 (k h.1)
theorem x06(h:a/\b/\c/\d/\e/\f)(k:a->b->c->d->e->f->G):G:=Nk h.2 (k h.1)
theorem SU(h:a/\b/\c/\d/\e/\f/\g)(k:a->b->c->d->e->f->g->G):G:=x06 h.2 (k h.1)
theorem Tf(h:a/\b/\c/\d/\e/\f/\g/\i)(k:a->b->c->d->e->f->g->i->G):G:=SU h.2 (k h.1)
theorem x09(h:a/\b/\c/\d/\e/\f/\g/\i/\l)(k:a->b->c->d->e->f->g->i->l->G):G:=Tf h.2 (k h.1)
end
section
universe u0
variable{α0:Sort u0}{a b c d e f g i l:α0->Prop}{G:Prop}
theorem CT(h:∃s,a s)(k:∀s,a s->G):G:=h.elim λs h=>k s h
theorem Aj(h:∃s,a s/\b s)(k:∀s,a s->b s->G):G:=h.elim λs h=>Az h (k s)
theorem FS(h:∃s,a s/\b s/\c s)(k:∀s,a s->b s->c s->G):G:=h.elim λs h=>DN h (k s)
theorem Tg(h:∃s,a s/\b s/\c s/\d s)(k:∀s,a s->b s->c s->d s->G):G:=h.elim λs h=>Ij h (k s)
theorem x15(h:∃s,a s/\b s/\c s/\d s/\e s)(k:∀s,a s->b s->c s->d s->e s->G):G:=h.elim λs h=>Nk h (k s)
theorem x16(h:∃s,a s/\b s/\c s/\d s/\e s/\f s)(k:∀s,a s->b s->c s->d s->e s->f s->G):G:=h.elim λs h=>x06 h (k s)
theorem x17(h:∃s,a s/\b s/\c s/\d s/\e s/\f s/\g s)(k:∀s,a s->b s->c s->d s->e s->f s->g s->G):G:=h.elim λs h=>SU h (k s)
theorem x18(h:∃s,a s/\b s/\c s/\d s/\e s/\f s/\g s/\i s)(k:∀s,a s->b s->c s->d s->e s->f s->g s->i s->G):G:=h.elim λs h=>Tf h (k s)
end
section
universe u0 u1
variable{α0:Sort u0}{α1:Sort u1}{a b c d e f g i l:α0->α1->Prop}{G:Prop}
theorem HI(h:∃s t,a s t)(k:∀s t,a s t->G):G:=h.elim λs h=>CT h (k s)
theorem Ly(h:∃s t,a s t/\b s t)(k:∀s t,a s t->b s t->G):G:=h.elim λs h=>Aj h (k s)
theorem En(h:∃s t,a s t/\b s t/\c s t)(k:∀s t,a s t->b s t->c s t->G):G:=h.elim λs h=>FS h (k s)
theorem SD(h:∃s t,a s t/\b s t/\c s t/\d s t)(k:∀s t,a s t->b s t->c s t->d s t->G):G:=h.elim λs h=>Tg h (k s)
theorem SV(h:∃s t,a s t/\b s t/\c s t/\d s t/\e s t)(k:∀s t,a s t->b s t->c s t->d s t->e s t->G):G:=h.elim λs h=>x15 h (k s)
theorem x26(h:∃s t,a s t/\b s t/\c s t/\d s t/\e s t/\f s t)(k:∀s t,a s t->b s t->c s t->d s t->e s t->f s t->G):G:=h.elim λs h=>x16 h (k s)
theorem x27(h:∃s t,a s t/\b s t/\c s t/\d s t/\e s t/\f s t/\g s t)(k:∀s t,a s t->b s t->c s t->d s t->e s t->f s t->g s t->G):G:=h.elim λs h=>x17 h (k s)
theorem x28(h:∃s t,a s t/\b s t/\c s t/\d s t/\e s t/\f s t/\g s t/\i s t)(k:∀s t,a s t->b s t->c s t->d s t->e s t->f s t->g s t->i s t->G):G:=h.elim λs h=>x18 h (k s)
end
section
universe u0 u1 u2
variable{α0:Sort u0}{α1:Sort u1}{α2:Sort u2}{a b c d e f g i:α0->α1->α2->Prop}{G:Prop}
theorem Fu(h:∃s t u,a s t u)(k:∀s t u,a s t u->G):G:=h.elim λs h=>HI h (k s)
theorem MX(h:∃s t u,a s t u/\b s t u)(k:∀s t u,a s t u->b s t u->G):G:=h.elim λs h=>Ly h (k s)
theorem x33(h:∃s t u,a s t u/\b s t u/\c s t u)(k:∀s t u,a s t u->b s t u->c s t u->G):G:=h.elim λs h=>En h (k s)
theorem Jf(h:∃s t u,a s t u/\b s t u/\c s t u/\d s t u)(k:∀s t u,a s t u->b s t u->c s t u->d s t u->G):G:=h.elim λs h=>SD h (k s)
theorem x35(h:∃s t u,a s t u/\b s t u/\c s t u/\d s t u/\e s t u)(k:∀s t u,a s t u->b s t u->c s t u->d s t u->e s t u->G):G:=h.elim λs h=>SV h (k s)
theorem x36(h:∃s t u,a s t u/\b s t u/\c s t u/\d s t u/\e s t u/\f s t u)(k:∀s t u,a s t u->b s t u->c s t u->d s t u->e s t u->f s t u->G):G:=h.elim λs h=>x26 h (k s)
theorem x37(h:∃s t u,a s t u/\b s t u/\c s t u/\d s t u/\e s t u/\f s t u/\g s t u)(k:∀s t u,a s t u->b s t u->c s t u->d s t u->e s t u->f s t u->g s t u->G):G:=h.elim λs h=>x27 h (k s)
theorem x38(h:∃s t u,a s t u/\b s t u/\c s t u/\d s t u/\e s t u/\f s t u/\g s t u/\i s t u)(k:∀s t u,a s t u->b s t u->c s t u->d s t u->e s t u->f s t u->g s t u->i s t u->G):G:=h.elim λs h=>x28 h (k s)
end
section
universe u0 u1 u2 u3
variable{α0:Sort u0}{α1:Sort u1}{α2:Sort u2}{α3:Sort u3}{a b c d e f g:α0->α1->α2->α3->Prop}{G:Prop}
theorem GJ(h:∃s t u v,a s t u v)(k:∀s t u v,a s t u v->G):G:=h.elim λs h=>Fu h (k s)
theorem x42(h:∃s t u v,a s t u v/\b s t u v)(k:∀s t u v,a s t u v->b s t u v->G):G:=h.elim λs h=>MX h (k s)
theorem Th(h:∃s t u v,a s t u v/\b s t u v/\c s t u v)(k:∀s t u v,a s t u v->b s t u v->c s t u v->G):G:=h.elim λs h=>x33 h (k s)
theorem x44(h:∃s t u v,a s t u v/\b s t u v/\c s t u v/\d s t u v)(k:∀s t u v,a s t u v->b s t u v->c s t u v->d s t u v->G):G:=h.elim λs h=>Jf h (k s)
theorem x45(h:∃s t u v,a s t u v/\b s t u v/\c s t u v/\d s t u v/\e s t u v)(k:∀s t u v,a s t u v->b s t u v->c s t u v->d s t u v->e s t u v->G):G:=h.elim λs h=>x35 h (k s)
theorem x46(h:∃s t u v,a s t u v/\b s t u v/\c s t u v/\d s t u v/\e s t u v/\f s t u v)(k:∀s t u v,a s t u v->b s t u v->c s t u v->d s t u v->e s t u v->f s t u v->G):G:=h.elim λs h=>x36 h (k s)
theorem x47(h:∃s t u v,a s t u v/\b s t u v/\c s t u v/\d s t u v/\e s t u v/\f s t u v/\g s t u v)(k:∀s t u v,a s t u v->b s t u v->c s t u v->d s t u v->e s t u v->f s t u v->g s t u v->G):G:=h.elim λs h=>x37 h (k s)
end
section
universe u0 u1 u2 u3 u4
variable{α0:Sort u0}{α1:Sort u1}{α2:Sort u2}{α3:Sort u3}{α4:Sort u4}{a b c d e f:α0->α1->α2->α3->α4->Prop}{G:Prop}
theorem x51(h:∃s t u v w,a s t u v w)(k:∀s t u v w,a s t u v w->G):G:=h.elim λs h=>GJ h (k s)
theorem x53(h:∃s t u v w,a s t u v w/\b s t u v w/\c s t u v w)(k:∀s t u v w,a s t u v w->b s t u v w->c s t u v w->G):G:=h.elim λs h=>Th h (k s)
theorem x54(h:∃s t u v w,a s t u v w/\b s t u v w/\c s t u v w/\d s t u v w)(k:∀s t u v w,a s t u v w->b s t u v w->c s t u v w->d s t u v w->G):G:=h.elim λs h=>x44 h (k s)
theorem x55(h:∃s t u v w,a s t u v w/\b s t u v w/\c s t u v w/\d s t u v w/\e s t u v w)(k:∀s t u v w,a s t u v w->b s t u v w->c s t u v w->d s t u v w->e s t u v w->G):G:=h.elim λs h=>x45 h (k s)
theorem x56(h:∃s t u v w,a s t u v w/\b s t u v w/\c s t u v w/\d s t u v w/\e s t u v w/\f s t u v w)(k:∀s t u v w,a s t u v w->b s t u v w->c s t u v w->d s t u v w->e s t u v w->f s t u v w->G):G:=h.elim λs h=>x46 h (k s)
end
section
universe u0 u1 u2 u3 u4 u5
variable{α0:Sort u0}{α1:Sort u1}{α2:Sort u2}{α3:Sort u3}{α4:Sort u4}{α5:Sort u5}{a b c d e:α0->α1->α2->α3->α4->α5->Prop}{G:Prop}
theorem x63(h:∃s t u v w x,a s t u v w x/\b s t u v w x/\c s t u v w x)(k:∀s t u v w x,a s t u v w x->b s t u v w x->c s t u v w x->G):G:=h.elim λs h=>x53 h (k s)
theorem x64(h:∃s t u v w x,a s t u v w x/\b s t u v w x/\c s t u v w x/\d s t u v w x)(k:∀s t u v w x,a s t u v w x->b s t u v w x->c s t u v w x->d s t u v w x->G):G:=h.elim λs h=>x54 h (k s)
end
section
universe u0 u1 u2 u3 u4 u5 u6
variable{α0:Sort u0}{α1:Sort u1}{α2:Sort u2}{α3:Sort u3}{α4:Sort u4}{α5:Sort u5}{α6:Sort u6}{a b c d:α0->α1->α2->α3->α4->α5->α6->Prop}{G:Prop}
theorem x74(h:∃s t u v w x y,a s t u v w x y/\b s t u v w x y/\c s t u v w x y/\d s t u v w x y)(k:∀s t u v w x y,a s t u v w x y->b s t u v w x y->c s t u v w x y->d s t u v w x y->G):G:=h.elim λs h=>x64 h (k s)
end
section
universe u0 u1 u2 u3 u4 u5 u6 u7
variable{α0:Sort u0}{α1:Sort u1}{α2:Sort u2}{α3:Sort u3}{α4:Sort u4}{α5:Sort u5}{α6:Sort u6}{α7:Sort u7}{a b c:α0->α1->α2->α3->α4->α5->α6->α7->Prop}{G:Prop}
end
theorem zN.{u}{α:Type u}{a:α}{G:Prop}(h:none=some a):G:=nomatch h
theorem zS.{u}{α:Type u}{a:α}{G:Prop}(h:some a=none):G:=nomatch h
theorem zT{G:Prop}(h:false=true):G:=nomatch h
theorem zF{G:Prop}(h:true=false):G:=nomatch h
theorem nS.{u}{α:Type u}{x:Option α}{a:α}{G:Prop}(h:x=none)(e:x=some a):G:=zN (h.symm.trans e)
theorem sN.{u}{α:Type u}{x:Option α}{a:α}{G:Prop}(h:x=some a)(e:x=none):G:=zN (e.symm.trans h)
theorem fT{x:Bool}{G:Prop}(h:x=false)(e:x=true):G:=zT (h.symm.trans e)
theorem tG{x:Bool}{G:Prop}(h:x=true)(e:x=false):G:=zT (e.symm.trans h)
theorem oCs.{u}{α:Type u}{G:Prop}(x:Option α)(h:x=none->G)(k:∀a,x=some a->G):G:=by
 cases x
 ·exact h rfl
 ·exact k _ rfl
theorem bCs{G:Prop}(x:Bool)(h:x=true->G)(k:x=false->G):G:=by
 cases x
 ·exact k rfl
 ·exact h rfl
theorem lCs.{u}{α:Type u}{G:Prop}(x:List α)(h:x=[]->G)(k:∀a r,x=a::r->G):G:=by
 cases x
 ·exact h rfl
 ·exact k _ _ rfl
theorem mcP.{u}{α:Type u}{a b:α}{l:List α}(h:a∈b::l):a=b\/a∈l:=Wb.mp h
theorem msP.{u}{α:Type u}{a b:α}(h:a∈[b]):a=b:=Wl.mp h
theorem maP.{u}{α:Type u}{a:α}{l r:List α}(h:a∈l++r):a∈l\/a∈r:=W2.mp h
theorem ncP.{u}{α:Type u}{a:α}{l:List α}(h:(a::l).Nodup):a∉l/\l.Nodup:=W3.mp h
theorem ncR.{u}{α:Type u}{a:α}{l:List α}(h:a∉l/\l.Nodup):(a::l).Nodup:=W3.mpr h
theorem laP.{u}{α:Type u}{p:α->Bool}{l:List α}(h:l.all p=true):∀x∈l,p x=true:=List.all_eq_true.mp h
theorem mmP.{u,v} {α:Type u} {β:Type v} {f:α->β} {l:List α} {b:β} (h:b∈l.map f):∃a,a∈l/\f a=b:=Xd.mp h
theorem mfP.{u}{α:Type u}{p:α->Bool}{l:List α}{a:α}(h:a∈l.filter p):a∈l/\p a=true:=XL.mp h
theorem boP{a b:Bool}(h:(a||b)=true):a=true\/b=true:=Bool.or_eq_true_iff.mp h
theorem Ti{a b:Nat}(h:a<=b):¬ b<a:=Zz.mpr h
theorem ozA{a b:Nat}(e:a=b)(h:a<=1000):b<=16777216:=e▸WL h (by decide)
theorem ozB{a b:Nat}(e:a=b)(h:a<=1000):(b:Int)<2 ^ 63:=e▸YU (Yy.mpr h) (by decide)
theorem ozD{n l i:Nat}(e:n=l-i)(h:i<l):l-(i+1)<n:=e▸Nat.sub_lt_sub_left h (Xl i)
theorem ozE{i l:Nat}(h:i<=l)(k:¬ i<l):i=l:=Nat.le_antisymm h (Zz.mp k)
theorem ozF{a u:Nat}(h:8*a+u<=7900):u+64<9900:=X5 (Wo (WL (XA _ _) h) 64) (by decide)
theorem ozH{y v p m:Nat}(e:v=y)(h:v<=p)(k:m=p):y<=m:=k▸e▸h
theorem ozI{a b:Nat}(e:a=b)(h:a<=40):b<=1000:=e▸WL h (by decide)
theorem ozN{j:Int}{n:Nat}(h:0<=j)(k:j.toNat<n)(l:n<=1000):j<2 ^ 63:=YU ((Yv h)▸Yy.mpr (WL (Xe k) l)) (by decide)
theorem ozO{v x:Nat}{j:Int}(e:v=x)(h:-(v:Int)<=j):-(x:Int)<=j:=e▸h
theorem ozP{v:Nat}{j:Int}(h:-(v:Int)<=j)(l:v<=1000):-2 ^ 63<=j:=Wc (Wc (by decide) (Int.neg_le_neg (Yy.mpr l))) h
theorem ozQ{a b:Nat}(e:a=b)(h:a<=1000):b+1<=16777216:=e▸WL (Xk h) (by decide)
theorem ozR{a b:Nat}(e:a=b)(h:b<=1000):a+1<4096:=e▸X5 (Xk h) (by decide)
theorem ozS{a b:Nat}(e:a<=b)(h:b<=1000):a<4096:=X5 (WL e h) (by decide)
theorem ocA{a u b v:Nat}(h:8*a+u<=2412)(k:8*b+v<=8*(a+1)+(u+3)+12):8*b+v+24*199<=7900:=WL (Wo (WL k (WL (X6 (e8 (b:=12))) (Wo h 23))) _) (by decide)
theorem ocB{a u z:Nat}(h:8*a+u<=2412)(k:z<=24):8*(a+1)+(u+3)+24*(199+3+z)+2<=7900:=WL (Wo (WL (X6 e8) (Wo (YJ h (XJ 24 (Wj k 202))) 11)) 2) (by decide)
theorem smI{x:Int}(h:-1000<=x)(k:x<=5000):-2 ^ 63<=x/\x<2 ^ 63:=⟨Wc (by decide) h,YU k (by decide)⟩
theorem mxI{i j:Int}:(if j > i then j else i)=max i j:=by
 rw[Int.max_def];by_cases z:i<=j
 ·rw[if_pos z];by_cases q:j > i
  ·exact if_pos q
  ·rw[if_neg q];exact XZ z (Yh.mp q)
 ·rw[if_neg z];exact if_neg λq=>z (XO q)
theorem mnI{i j:Int}:(if j<i then j else i)=min i j:=by
 rw[Int.min_def];by_cases z:i<=j
 ·rw[if_pos z];exact if_neg (Yh.mpr z)
 ·rw[if_neg z];exact if_pos (YK.mp z)
section
set_option genInjectivity false
noncomputable abbrev D:=Int->Option (List Nat)
set_option genCtorIdx true in
inductive BK
 | uni|dm|inter|anot|maybe
inductive UK
 | filt (sa:Nat) (xs:List Int) (ex:Bool) (bo:Int)
 | inv (ma:Nat) (lim wt id:Int)
 | con (sc:Int)
inductive Tr
 | null (a:Nat)
 | leaf (a la wa i:Nat) (ds:List (Int×List Nat)) (t:Nat×Nat)
 | bin (k:BK) (a:Nat) (A B:Tr)
 | una (k:UK) (a:Nat) (A:Tr)
 | req (a i:Nat) (A B:Tr)
noncomputable def C9(d:Int):List (Int×List Nat)->Option (List Nat)
 | []=>none
 | p::r=>if p.1=d then some p.2 else C9 d r
noncomputable def I5:Option (List Nat)->Option (List Nat)->Option (List Nat)
 | none,o=>o
 | some s,none=>some s
 | some s,some t=>some (s++t)
noncomputable def KB(o p:Option (List Nat)):Option (List Nat):=o.bind λU=>p
noncomputable def dU(A B:D):D:=λd=>I5 (A d) (B d)
def dI(A B:D):D:=λd=>KB (A d) (KB (B d) (I5 (A d) (B d)))
noncomputable def dN(A B:D):D:=λd=>if B d=none then A d else none
noncomputable def dM(A B:D):D:=λd=>KB (A d) (I5 (A d) (B d))
def dR(A B:D):D:=dI A B
noncomputable def keep(xs:List Int)(ex:Bool)(d:Int):Bool:=xs.contains d !=ex
def dF(xs:List Int)(ex:Bool)(_bo:Int)(A:D):D:=λd=>if keep xs ex d=true then A d else none
noncomputable def dV(lim _wt id:Int)(A:D):D:=λd=>if id<=d/\d<lim/\A d=none then some [] else none
noncomputable def dC(_sc:Int)(A:D):D:=A
def dB:BK->D->D->D
 | .uni=>dU|.dm=>dU|.inter=>dI|.anot=>dN|.maybe=>dM
def dA:UK->D->D
 | .filt _ xs ex bo=>dF xs ex bo
 | .inv _ lim wt id=>dV lim wt id
 | .con sc=>dC sc
noncomputable def frm(A:D)(y:Int):D:=λd=>if y<=d then A d else none
def Av(A:D):Prop:=∃d,A d≠none
def Hd(A:D)(x:Int):Prop:=A x≠none/\∀d,A d≠none->x<=d
def Ms(A:D)(b:Bool):Prop:=b=true<->Av A
def Bd(A:D):Prop:=∀d,A d≠none->0<=d/\d<1000
def Tr.den:Tr->D
 | .null _=>λU=>none
 | .leaf _ _ _ i ds _=>λd=>C9 d (ds.drop i)
 | .bin k _ A B=>dB k A.den B.den
 | .una k _ A=>dA k A.den
 | .req _ _ A B=>dR A.den B.den
noncomputable def Tr.addr:Tr->Nat
 | .null a|.leaf a _ _ _ _ _|.bin _ a _ _|.una _ a _|.req a _ _ _=>a
noncomputable def bC:BK->Cl
 | .uni=>.Union|.dm=>.DMax|.inter=>.Inter|.anot=>.AndNot|.maybe=>.AndMaybe
noncomputable def uC:UK->Cl
 | .filt _ _ _ _=>.Filter|.inv _ _ _ _=>.Inverse|.con _=>.Const
def Tr.cl:Tr->Cl
 | .null _=>.Null|.leaf _ _ _ _ _ _=>.Leaf|.bin k _ _ _=>bC k|.una k _ _=>uC k|.req _ _ _ _=>.Require
def idf:Option V->As
 | none=>[]
 | some v=>[(BD,v)]
def bF(k:BK)(p q:Nat)(id:Option V):As:=(A3,.ref p)::(A8,.ref q)::match k with
 | .dm=>(CG,.int 0)::idf id
 | _=>idf id
def Ch(la wa i t:Nat):As:=[(D1,.ref la),(DW,.ref wa),(Bx,.none),(Gs,.none),(Kv,.int i),(Gu,.none),(FJ,.none),(DB,.ref t),(Ey,.none)]
def uF(p:Nat):UK->As
 | .filt sa _ ex bo=>[(AJ,.ref p),(Aw,.int bo),(D1,.ref sa),(DX,.bool ex)]
 | .inv ma lim wt id=>[(AJ,.ref p),(Aw,.int 1),(A6,.int lim),(Bm,.int wt),(Ax,.ref ma),(BD,.int id)]
 | .con sc=>[(AJ,.ref p),(Aw,.int 1),(FK,.int sc)]
def SW(p q i:Nat):As:=[(A3,.ref p),(A8,.ref q),(AJ,.ref i),(Aw,.int 1)]
noncomputable def QU:BK->Bool
 | .uni|.dm=>true
 | _=>false
def Fv(k:BK)(A:D):Option V->Prop
 | none=>True
 | some .none=>QU k=true
 | some (.int x)=>QU k=true/\Hd A x
 | _=>False
def uX(H:MH):UK->Prop
 | .filt sa xs _ _=>H sa=some (.set xs)
 | .inv ma _ _ _=>H ma=some (.tup [])
 | .con _=>True
def BB(H:MH):Tr->Prop
 | .null a=>H a=some (.inst .Null [])
 | .leaf a la wa i ds t=>H a=some (.inst .Leaf (Ch la wa i t.1))/\H la=some (.list (ds.map λp=>.int p.1))/\H wa=some (.list (ds.map λU=>.int 1))/\H t.1=some (.tup [.str 8,.str t.2])/\∀p∈ds,p.2=[t.2]
 | .bin k a A B=>(∃id,H a=some (.inst (bC k) (bF k A.addr B.addr id))/\Fv k (dB k A.den B.den) id)/\BB H A/\BB H B
 | .una k a A=>H a=some (.inst (uC k) (uF A.addr k))/\uX H k/\BB H A
 | .req a i A B=>H a=some (.inst .Require (SW A.addr B.addr i))/\H i=some (.inst .Inter (bF .inter A.addr B.addr none))/\BB H A/\BB H B
noncomputable def fp:Tr->List Nat
 | .null _=>[]
 | .leaf a _ _ _ _ _=>[a]
 | .bin _ a A B=>a::(fp A++fp B)
 | .una _ a A=>a::fp A
 | .req a i A B=>a::i::(fp A++fp B)
noncomputable def sz:Tr->Nat
 | .null _|.leaf _ _ _ _ _ _=>1
 | .bin _ _ A B=>sz A+sz B+1
 | .una _ _ A=>sz A+1
 | .req _ _ A B=>sz A+sz B+2
noncomputable def sc:Tr->List Nat
 | .null _=>[]
 | .leaf _ _ _ _ _ t=>[t.2]
 | .bin _ _ A B=>sc A++sc B
 | .una _ _ A=>sc A
 | .req _ _ A B=>sc A++sc B
def Al(A B:D):Prop:=∀x y,Hd A x->Hd B y->x=y
def RN(A B:D):Prop:=Av A->∀d,B d≠none->∃e,d<=e/\A e≠none
def LK:BK->D->D->Prop
 | .uni|.dm=>λU U=>True
 | .inter=>Al
 | .anot=>λA B=>(∀x,Hd A x->∀d,B d≠none->x<d)/\RN A B
 | .maybe=>λA B=>(∀x y,Hd A x->Hd B y->x<=y)/\(Av A->∀d,B d≠none->A d≠none)
def okV(lim id:Int)(A:D):Prop:=(∀x,Hd A x->id<=x)/\(id<lim->A id=none)
def okU:UK->D->Prop
 | .filt _ xs ex bo=>λA=>(0<=bo/\bo<=1000/\xs.length<=1000)/\∀x,Hd A x->keep xs ex x=true
 | .inv _ lim wt id=>λA=>(0<=wt/\0<=id/\lim<=1000)/\okV lim id A
 | .con sc=>λU=>0<=sc
noncomputable def Dg(i:Nat)(ds:List (Int×List Nat)):Prop:=ds.Pairwise (λp q=>p.1<q.1)/\(∀p∈ds,0<=p.1/\p.1<1000)/\i<=ds.length/\ds.length<=1000
def Ok:Tr->Prop
 | .null _=>True
 | .leaf _ _ _ i ds _=>Dg i ds
 | .bin k _ A B=>Ok A/\Ok B/\LK k A.den B.den
 | .una k _ A=>Ok A/\okU k A.den
 | .req _ _ A B=>Ok A/\Ok B/\Al A.den B.den
noncomputable def ro:O->Bool
 | .inst .Null _|.list _|.set _|.tup _=>true
 | _=>false
structure Ao(H H':MH)(F:List Nat):Prop where
 kp:∀b o,H b=some o->b∉F\/ro o=true->H' b=some o
 dm:∀b,H' b=none->H b=none
structure AS(H:MH)(T:Tr):Prop where
 rep:BB H T
 ok:Ok T
 nd:(fp T).Nodup
noncomputable def Eo(A:D)(y:Int)(H H':MH):Prop:=∀x,Hd A x->y<=x->∀S,BB H S->BB H' S
structure Qt(H H':MH)(F:List Nat):Prop where
 fr:Ao H H' F
 rp:∀S,BB H S->BB H' S
structure Upd(H:MH)(T:Tr)(H':MH)(T':Tr):Prop where
 ad:T'.addr=T.addr
 fp:fp T'=fp T
 sz:sz T'=sz T
 sc:sc T'=sc T
 ok:Ok T'
 rep:BB H' T'
 fr:Ao H H' (Mine.fp T)
end
theorem AE(H:MH)(a:Nat)(o:O):H.put a o a=some o:=by show cond (WV a a) _ _=_;rw[YM];rfl
theorem AT(H:MH){a b:Nat}(o:O)(h:b≠a):H.put a o b=H b:=by
 show cond (WV b a) _ _=_
 exact(show WV b a=false from by cases q:WV b a with
  | false=>rfl
  | true=>exact absurd (Wa q) h)▸rfl
theorem Hd.uniq{A:D}{x y}(h:Hd A x)(k:Hd A y):x=y:=XZ (h.2 _ k.1) (k.2 _ h.1)
theorem Hd.act{A:D}{x}(h:Hd A x):Av A:=⟨x,h.1⟩
theorem KC{A:D}(b:Bd A)(h:Av A):∃x,Hd A x:=by
 refine CT h λd hs=>?_;have key:∀n:Nat,∀d,A d≠none->d<=n->∃x,Hd A x:=by
  intro n
  induction n with
  | zero=>exact λd hs hle=>⟨d,hs,λe ht=>Wc hle (b _ ht).1⟩
  | succ n ih =>
   intro d hs hle;by_cases q:∃e,A e≠none/\e<=n
   ·refine Aj q λe ht hle=>?_;exact ih e ht hle
   ·exact⟨d,hs,λe ht=>Wc hle (YK.mp λz=>q ⟨e,ht,z⟩)⟩
 exact key d.toNat d hs (Int.self_le_toNat d)
theorem B9{A:D}{y d}:frm A y d≠none<->y<=d/\A d≠none:=by
 unfold frm;split
 ·exact⟨λh=>⟨by assumption,h⟩,λh=>h.2⟩
 ·exact⟨λh=>absurd rfl h,λh=>absurd h.1 (by assumption)⟩
theorem BO{A:D}{y d}(h:y<=d):frm A y d=A d:=if_pos h
theorem EC{A B:D}{y}(h:∀d,y<=d->B d=A d)(k:∀d,B d≠none->y<=d):B=frm A y:=by
 funext d;unfold frm;split
 ·exact h d (by assumption)
 ·exact WX λz=>absurd (k d z) (by assumption)
theorem C1{A:D}{x y}(h:Hd A x)(q:y<=x):frm A y=A:=(EC (λU U=>rfl) λd e=>Wc q (h.2 _ e)).symm
theorem OY{A:D}{x y}(q:x<=y):frm (frm A x) y=frm A y:=by
 funext d;unfold frm;split
 ·exact if_pos (Wc q (by assumption))
 ·rfl
theorem Mt{A:D}{x}(h:¬ Av A):frm A x=A:=(EC (λU U=>rfl) λd e=>absurd ⟨d,e⟩ h).symm
theorem Hd.frm_ge{A:D}{x y}(h:Hd (Mine.frm A y) x):y<=x:=(B9.mp h.1).1
theorem Ms.t{A:D}(h:Av A):Ms A true:=⟨λU=>h,λU=>rfl⟩
theorem Ms.f{A:D}(h:¬ Av A):Ms A false:=by constructor<;>intro z;exact zT z;exact absurd z h
theorem Ms.pos{A:D}(h:Ms A true):Av A:=h.mp rfl
theorem Ms.neg{A:D}(h:Ms A false):¬ Av A:=λz=>nomatch h.mpr z
theorem Lz{p q:Option (List Nat)}:I5 p q≠none<->p≠none\/q≠none:=by cases p<;>cases q<;>simp[I5]
theorem MA{p q:Option (List Nat)}:KB p q≠none<->p≠none/\q≠none:=by cases p<;>simp[KB]
theorem E3{A B:D}{d}:dU A B d≠none<->A d≠none\/B d≠none:=Lz
theorem Ep{A B:D}{d}:dI A B d≠none<->A d≠none/\B d≠none:=by
 unfold dI;rw[MA,MA,Lz];exact⟨λh=>⟨h.1,h.2.1⟩,λh=>⟨h.1,h.2,.inl h.1⟩⟩
theorem HV{A B:D}{d}:dM A B d≠none<->A d≠none:=by
 unfold dM;rw[MA,Lz];exact⟨λh=>h.1,λh=>⟨h,.inl h⟩⟩
theorem KD{A B:D}{d}:dR A B d≠none<->A d≠none/\B d≠none:=Ep
theorem HW{A B:D}{d}:dN A B d≠none<->A d≠none/\B d=none:=by
 unfold dN;split
 ·exact⟨λh=>⟨h,by assumption⟩,λh=>h.1⟩
 ·exact⟨λh=>absurd rfl h,λh=>absurd h.2 (by assumption)⟩
theorem IQ{xs ex bo}{A:D}{d}:dF xs ex bo A d≠none<->A d≠none/\keep xs ex d=true:=by
 unfold dF;split
 ·rename_i h;simp[h]
 ·rename_i h;simp[h]
theorem HX{lim wt id}{A:D}{d}:dV lim wt id A d≠none<->id<=d/\d<lim/\A d=none:=by
 unfold dV;split
 ·rename_i h;simp[h]
 ·rename_i h;simp[h]
theorem KG{sc}{A:D}{d}:dC sc A d≠none<->A d≠none:=.rfl
theorem Gx{d}:∀{l:List (Int×List Nat)},C9 d l≠none->∃s,C9 d l=some s/\(d,s)∈l
 | [],h=>absurd rfl h
 | p::r,h=>by
  unfold C9 at h ⊢;split at h
  ·rename_i e;rw[if_pos e];exact⟨_,rfl,by exact e▸.head _⟩
  ·rename_i e;rw[if_neg e];refine Aj (Gx h) λs h1 h2=>?_;exact⟨s,h1,.tail _ h2⟩
theorem Bd.sub{A B:D}(b:Bd A)(h:∀d,B d≠none->A d≠none):Bd B:=λd e=>b d (h d e)
theorem Ok.bd:∀{T:Tr},Ok T->Bd T.den
 | .null _,_=>λU h=>absurd rfl h
 | .leaf _ _ _ i ds _,h=>λd e=>by
  refine Aj (Gx e) λs U h1=>?_;exact h.2.1 _ (Yo h1)
 | .bin k _ A B,h=>by
  cases k with
  | uni=>exact λd e=>(E3.mp e).elim (Ok.bd h.1 d) (Ok.bd h.2.1 d)
  | dm=>exact λd e=>(E3.mp e).elim (Ok.bd h.1 d) (Ok.bd h.2.1 d)
  | inter=>exact(Ok.bd h.1).sub λd e=>(Ep.mp e).1
  | anot=>exact(Ok.bd h.1).sub λd e=>(HW.mp e).1
  | maybe=>exact(Ok.bd h.1).sub λd e=>HV.mp e
 | .una k _ A,h=>by
  cases k with
  | filt _ xs ex bo=>exact(Ok.bd h.1).sub λd e=>((IQ (bo:=bo)).mp e).1
  | inv _ lim wt id=>exact λd e=>have z:=(HX (wt:=wt)).mp e;⟨Wc h.2.1.2.1 z.1,Xm z.2.1 h.2.1.2.2⟩
  | con sc=>exact(Ok.bd h.1).sub λd e=>(KG (sc:=sc)).mp e
 | .req _ _ A B,h=>(Ok.bd h.1).sub λd e=>(KD.mp e).1
theorem Ao.refl{H:MH}{F}:Ao H H F:=⟨λU U e U=>e,λU e=>e⟩
theorem Ao.trans{H H' H'':MH}{F}(h:Ao H H' F)(k:Ao H' H'' F):Ao H H'' F:=⟨λb o e q=>k.kp b o (h.kp b o e q) q,λb e=>h.dm b (k.dm b e)⟩
theorem Ao.mono{H H':MH}{F G}(h:Ao H H' F)(q:∀x∈F,x∈G):Ao H H' G:=⟨λb o e z=>h.kp b o e (z.imp (λn m=>n (q _ m)) id),h.dm⟩
theorem Ao.drop{UG H H':MH}{F}(UD:Ao UG H [])(h:Ao H H' F)(q:∀x∈F,UG x=none):Ao UG H' [] :=
 ⟨λb o e U=>h.kp b o (UD.kp b o e (.inl (W0))) (.inl λm=>by replace e:=(q b m).symm.trans e;exact zN e),λb e=>UD.dm b (h.dm b e)⟩
theorem Ao.put{H:MH}{a:Nat}{o:O}{F}(h:a∈F)(hr:∀o',H a=some o'->ro o'=false):Ao H (H.put a o) F:=by
 refine⟨λb o' e q=>?_,λb e=>?_⟩
 ·by_cases z:b=a
  ·subst z;rcases q with q|q
   ·exact absurd h q
   ·exact fT (hr _ e) q
  ·rw[AT _ _ z];exact e
 ·by_cases z:b=a
  ·subst z;rw[AE] at e;exact zS e
  ·rw[AT _ _ z] at e;exact e
theorem Ao.new{H:MH}{a:Nat}{o:O}{F}(h:H a=none):Ao H (H.put a o) F:=by
 refine⟨λb o' e q=>?_,λb e=>?_⟩
 ·rw[AT _ _ λz=>by subst z;exact nS h e];exact e
 ·by_cases z:b=a
  ·subst z;exact h
  ·rw[AT _ _ z] at e;exact e
theorem uX.keep{H H':MH}{F}(f:Ao H H' F):∀{k:UK},uX H k->uX H' k
 | .filt _ _ _ _,h=>f.kp _ _ h (.inr rfl)
 | .inv _ _ _ _,h=>f.kp _ _ h (.inr rfl)
 | .con _,h=>h
theorem BB.own{H:MH}:∀{T:Tr},BB H T->∃as,H T.addr=some (.inst T.cl as)
 | .null _,h=>⟨_,h⟩
 | .bin _ _ _ _,h=>let ⟨_,h,_⟩:=h.1;⟨_,h⟩
 | .leaf _ _ _ _ _ _,h|.una _ _ _,h|.req _ _ _ _,h=>⟨_,h.1⟩
theorem BB.frame{H H':MH}{F:List Nat}(f:Ao H H' F):∀{T:Tr},BB H T->(∀x∈fp T,x∉F)->BB H' T
 | .null _,h,_=>f.kp _ _ h (.inr rfl)
 | .leaf _ _ _ _ _ _,h,q=>⟨f.kp _ _ h.1 (.inl (q _ (.head _))),f.kp _ _ h.2.1 (.inr rfl),f.kp _ _ h.2.2.1 (.inr rfl),f.kp _ _ h.2.2.2.1 (.inr rfl),h.2.2.2.2⟩
 | .bin _ _ _ _,⟨⟨id,h1,hc⟩,h2,h3⟩,q=>⟨⟨id,f.kp _ _ h1 (.inl (q _ (.head _))),hc⟩,BB.frame f h2 λx m=>q x (.tail _ (WR _ m)),BB.frame f h3 λx m=>q x (.tail _ (WP _ m))⟩
 | .una _ _ _,h,q=>⟨f.kp _ _ h.1 (.inl (q _ (.head _))),uX.keep f h.2.1,BB.frame f h.2.2 λx m=>q x (.tail _ m)⟩
 | .req _ _ _ _,h,q=>⟨f.kp _ _ h.1 (.inl (q _ (.head _))),f.kp _ _ h.2.1 (.inl (q _ (.tail _ (.head _)))),BB.frame f h.2.2.1 λx m=>q x (.tail _ (.tail _ (WR _ m))),BB.frame f h.2.2.2 λx m=>q x (.tail _ (.tail _ (WP _ m)))⟩
theorem OZ(k:BK) (as):ro (.inst (bC k) as)=false:=by cases k<;>rfl
theorem uC_ro(k:UK) (as):ro (.inst (uC k) as)=false:=by cases k<;>rfl
theorem BB.fps{H:MH}:∀{T:Tr},BB H T->∀x∈fp T,∃o,H x=some o/\ro o=false
 | .null _,_,_,m=>nomatch m
 | .leaf _ _ _ _ _ _,h,_,m=>⟨_,Wl.mp m▸h.1,rfl⟩
 | .bin k _ _ _,h,x,m=>(Wb.mp m).elim (λe=>let ⟨_,h,_⟩:=h.1;⟨_,e▸h,OZ k _⟩) λm=>(W2.mp m).elim (BB.fps h.2.1 x) (BB.fps h.2.2 x)
 | .una k _ _,h,x,m=>(Wb.mp m).elim (λe=>⟨_,e▸h.1,uC_ro k _⟩) (BB.fps h.2.2 x)
 | .req _ _ _ _,h,x,m=>(Wb.mp m).elim (λe=>⟨_,e▸h.1,rfl⟩) λm=>(Wb.mp m).elim (λe=>⟨_,e▸h.2.1,rfl⟩) λm=>(W2.mp m).elim (BB.fps h.2.2.1 x) (BB.fps h.2.2.2 x)
theorem dsEq{c:List Nat}:∀{ds es:List (Int×List Nat)},ds.map (λp=>V.int p.1)=es.map (λp=>V.int p.1)->(∀p∈es,p.2=c)->(∀p∈ds,p.2=c)->es=ds
 | [],[],_,_,_=>rfl
 | [],_::_,h,_,_=>nomatch h
 | _::_,[],h,_,_=>nomatch h
 | p::ds,q::es,h,k,k'=>by
  injection h with h1 h2;injection h1 with h1
  exact(dsEq h2 (λx m=>k x (.tail _ m)) λx m=>k' x (.tail _ m))▸(Prod.ext h1 ((k' p (.head _)).trans (k q (.head _)).symm))▸rfl
theorem Nl{H:MH}{a:Nat}{c c':Cl}{as as':As}(h:H a=some (.inst c as))(k:H a=some (.inst c' as')):c=c'/\as=as':=by
 replace k:=h.symm.trans k;cases k;exact⟨rfl,rfl⟩
theorem bC_inj{k k':BK}(h:bC k=bC k'):k=k':=by cases k<;>cases k'<;>first|rfl|cases h
theorem bF_inj{k:BK}{p q p' q' id id'}(h:bF k p q id=bF k p' q' id'):p=p'/\q=q':=by
 injection h with h1 h2;injection h2 with h2 h3;injection h1 with _ h1;injection h2 with _ h2;injection h1 with h1;injection h2 with h2;exact⟨h1,h2⟩
theorem uF_inj{H:MH}{k k':UK}{p p'}(hc:uC k=uC k')(h:uF p k=uF p' k')(x:uX H k)(x':uX H k'):k=k'/\p=p':=by
 cases k<;>cases k'<;>try (cases hc;done)
 all_goals
  unfold uF at h;simp only[ZW,ZC,V.ref.injEq,V.int.injEq,V.bool.injEq,true_and,and_true] at h
 ·obtain⟨rfl,rfl,rfl,rfl⟩:=h;have z:=Eq.trans (Eq.symm x) x';cases z;exact⟨rfl,rfl⟩
 ·obtain⟨rfl,rfl,rfl,rfl,rfl⟩:=h;exact⟨rfl,rfl⟩
 ·obtain⟨rfl,rfl⟩:=h;exact⟨rfl,rfl⟩
noncomputable def tg:Cl->Nat
 | .Null=>0|.Leaf=>1|.Union|.DMax|.Inter|.AndNot|.AndMaybe=>2|.Filter|.Inverse|.Const=>3|_=>4
noncomputable def tgT:Tr->Nat
 | .null _=>0|.leaf _ _ _ _ _ _=>1|.bin _ _ _ _=>2|.una _ _ _=>3|.req _ _ _ _=>4
theorem QV(T:Tr):tg T.cl=tgT T:=by
 cases T with
 | bin k=>cases k<;>rfl
 | una k=>cases k<;>rfl
 | _=>rfl
theorem BB.tag{H:MH}{S T:Tr}(h:BB H S)(k:BB H T)(e:S.addr=T.addr):tgT S=tgT T:=by
 refine CT h.own λU h=>?_;obtain⟨U,k⟩:=k.own;rw[<- QV,<- QV,(Nl h (e▸k)).1]
theorem noN{a b:Nat}{P:Prop}(h:a=b)(k:WV a b=false):P:=by subst h;rw[YM] at k;exact zF k
theorem BB.fun{H:MH}:∀{S T:Tr},BB H S->BB H T->S.addr=T.addr->S=T
 | .null _,T,h,k,e=>by cases T<;>first|(cases e;rfl)|exact noN (h.tag k e) rfl
 | .leaf _ _ _ i ds _,T,h,k,e=>by
  cases T<;>first|exact noN (h.tag k e) rfl|skip
  cases e
  have z:=(Nl h.1 k.1).2;unfold Ch at z;simp only[ZW,ZC,V.ref.injEq,V.int.injEq,true_and,and_true] at z;rename_i la wa t la' wa' i' ds' t';obtain⟨rfl,rfl,z,z'⟩:=z;have h2:=h.2.1;rw[k.2.1] at h2;have h3:=h.2.2.2.1;replace h3:=k.2.2.2.1▸z'▸h3;have e2:t.2=t'.2:=by injection h3 with h3;injection h3 with h3;injection h3 with _ h3;injection h3 with h3;injection h3 with h3;exact h3.symm
  have et:t=t':=Prod.ext z' e2;subst et;exact(dsEq (O.list.inj (WT h2)) h.2.2.2.2 k.2.2.2.2)▸(aS z)▸rfl
 | .bin _ _ A B,T,h,k,e=>by
  cases T<;>first|exact noN (h.tag k e) rfl|skip
  cases e
  refine DN h λy h2 h3=>?_;refine Aj y λU h1 U=>?_;refine DN k λy k2 k3=>?_;refine Aj y λU k1 U=>?_;obtain⟨z1,z2⟩:=Nl h1 k1;cases bC_inj z1
  obtain⟨e1,e2⟩:=bF_inj z2;exact(BB.fun h2 k2 e1)▸(BB.fun h3 k3 e2)▸rfl
 | .una _ _ A,T,h,k,e=>by
  cases T<;>first|exact noN (h.tag k e) rfl|skip
  cases e
  refine Az (Nl h.1 k.1) λz1 z2=>?_;refine Az (uF_inj z1 z2 h.2.1 k.2.1) λy e=>?_;obtain rfl:=y;rw[BB.fun h.2.2 k.2.2 e]
 | .req _ _ A B,T,h,k,e=>by
  cases T<;>first|exact noN (h.tag k e) rfl|skip
  cases e
  have z:=(Nl h.1 k.1).2;unfold SW at z;simp only[ZW,ZC,V.ref.injEq,true_and,and_true] at z;obtain⟨e1,e2,rfl⟩:=z;exact(BB.fun h.2.2.1 k.2.2.1 e1)▸(BB.fun h.2.2.2 k.2.2.2 e2)▸rfl
/-! QO of the mini language -/
theorem AC{H:MH}{a n K c as}(h:H a=some (.inst c as))(k:op ((AM n as).or (Gw c n)) K):Mf H (.ref a) n K:=⟨c,as,h,k⟩
theorem Cq{H:MH}{a n u Q c as}(h:H a=some (.inst c as))(l:Zn (put n u as).length 40=true)(k:Q (H.put a (.inst c (put n u as)))):Pd H (.ref a) n u Q:=⟨c,as,h,WU l,k⟩
theorem Ar{H:MH}{a m f K c as}(h:H a=some (.inst c as))(h1:(AM m as).isNone=true)(h2:Bh c m=some f)(k:K f):BL H (.ref a) m K :=
 ⟨c,as,h,YP.mp h1,by rw[h2];exact k⟩
theorem At{H:MH}{a o}{K:O->Prop}(h:H a=some o)(k:K o):Mg H (.ref a) K:=⟨o,h,k⟩
theorem AO{b A B}(h:b=true->A)(k:b=false->B):Jh b A B:=by
 cases b
 ·exact k rfl
 ·exact h rfl
theorem ED{C c vs us Q f}{H:MH}(h:Bh c Ab=some f)(k:∀a,H a=none->C f (.ref a::vs) us (H.put a (.inst c [])) λv H=>v=.none/\Q (.ref a) H):EL C c vs us H Q:=by
 unfold EL;intro a z;exact h.symm▸k a z
noncomputable def CF(v:V):Prop:=v=.none\/v=.bool false
def Hl(T:Tr)(m:Nat):Nat:=(Bh T.cl m).getD 0
structure GL(d:Nat)(T:Tr):Prop where
 act:∀{H Q},AS H T->(∀b,Ms T.den b->Q (.bool b) H)->call d (Hl T AB) [.ref T.addr] [] H Q
 id:∀{H Q},AS H T->Av T.den->(∀x H',Qt H H' (fp T)->Hd T.den x->Q (.int x) H')->call d (Hl T Ag) [.ref T.addr] [] H Q
 mq:∀{H Q},AS H T->(∀q,0<=q->Q (.int q) H)->call d (Hl T AH) [.ref T.addr] [] H Q
 next:∀{H Q},AS H T->Av T.den->(∀v x T' H',CF v->Upd H T H' T'->Hd T.den x->T'.den=frm T.den (x+1)->Q v H')->call d (Hl T BC) [.ref T.addr] [] H Q
 skip:∀{H Q y},AS H T->Av T.den->(∀v T' H',CF v->Upd H T H' T'->T'.den=frm T.den y->Eo T.den y H H'->Q v H')->call d (Hl T AV) [.ref T.addr,.int y] [] H Q
 repl:∀{H Q vs},AS H T->(vs=[]\/∃q,q<=0/\vs=[.int q])->(∀T' H',Qt H H' (fp T)->AS H' T'->T'.den=T.den->sz T'<=sz T->(True->True)->(∀x∈fp T',x∈fp T\/H x=none)->Q (.ref T'.addr) H')->call d (Hl T AL) (.ref T.addr::vs) [] H Q
theorem Qt.refl{H F}:Qt H H F:=⟨.refl,λU h=>h⟩
theorem Qt.trans{H H' H'' F}(h:Qt H H' F)(k:Qt H' H'' F):Qt H H'' F:=⟨h.fr.trans k.fr,λS z=>k.rp S (h.rp S z)⟩
theorem Qt.mono{H H' F G}(h:Qt H H' F)(q:∀x∈F,x∈G):Qt H H' G:=⟨h.fr.mono q,h.rp⟩
theorem AS.q{H H' F T}(g:AS H T)(q:Qt H H' F):AS H' T:=⟨q.rp _ g.rep,g.ok,g.nd⟩
theorem AS.u{H H' T T'}(g:AS H T)(u:Upd H T H' T'):AS H' T':=⟨u.rep,u.ok,u.fp▸g.nd⟩
theorem Upd.refl{H T}(g:AS H T):Upd H T H T:=⟨rfl,rfl,rfl,rfl,g.ok,g.rep,.refl⟩
theorem Upd.q{H T H' T' H''}(u:Upd H T H' T')(w:Qt H' H'' (Mine.fp T)):Upd H T H'' T':=⟨u.ad,u.fp,u.sz,u.sc,u.ok,w.rp _ u.rep,u.fr.trans w.fr⟩
theorem Qt.u{H T H'}(g:AS H T)(w:Qt H H' (fp T)):Upd H T H' T:=(Upd.refl g).q w
theorem SX{T:Tr}(h:Av T.den):tgT T≠0:=by
 cases T with
 | null a=>exact absurd rfl h.choose_spec
 | _=>exact λz=>noN z rfl
def C2:List Nat:=[A3,A8,CG,BD,D1,DW,Bx,Gs,Kv,Gu,FJ,DB,Ey,AJ,Aw,DX,A6,Bm,Ax,FK]
theorem Gy{x:Nat}:∀{l:List Nat},HP x l=true->x∈l
 | y::r,h=>(Bool.or_eq_true _ _▸h).elim (λe=>Wa e▸.head _) λe=>.tail _ (Gy e)
theorem Oa{m:Nat}{L:List Nat}(hm:HP m L=false):∀{as:As},as.all (λp=>HP p.1 L)=true->(AM m as).isNone=true
 | [],_=>rfl
 | p::r,h=>by
  obtain⟨h1,h2⟩:=W8.mp h
  show(cond (WV p.1 m) _ _:Option V).isNone=true
  cases e:WV p.1 m with
  | true=>exact absurd ((Wa e▸hm:HP p.1 L=false).symm.trans h1) (by decide)
  | false=>exact Oa hm h2
theorem fnd(T:Tr)(m:Nat)(h:(Bh T.cl m).isSome=true):Bh T.cl m=some (Hl T m):=by
 unfold Hl;cases e:Bh T.cl m with
 | none=>replace h:=e▸h;exact zT h
 | some f=>rfl
theorem BB.m{H:MH}{T:Tr}{m}{K:Nat->Prop}(r:BB H T)(h1:(Bh T.cl m).isSome=true)(hm:HP m C2=false)(k:K (Hl T m)):BL H (.ref T.addr) m K:=by
 have key:∀as,H T.addr=some (.inst T.cl as)->as.all (λp=>HP p.1 C2)=true->BL H (.ref T.addr) m K:=λas h2 h3=>Ar h2 (Oa hm h3) (fnd T m h1) k;cases T with
 | null a=>exact key _ r rfl
 | leaf a la wa i ds t=>exact key _ r.1 rfl
 | bin kk a A B=>obtain⟨⟨id,r,U⟩,U⟩:=r;exact key _ r (by cases kk<;>cases id<;>rfl)
 | una kk a A=>exact key _ r.1 (by cases kk<;>rfl)
 | req a i A B=>exact key _ r.1 rfl
theorem fm1(T:Tr):([AB,AH,AL,AK,AR,BG,Au].all λm=>(Bh T.cl m).isSome)=true:=by
 cases T with
 | bin kk=>cases kk<;>rfl
 | una kk=>cases kk<;>rfl
 | _=>rfl
theorem fm2{T:Tr}(h:tgT T≠0):([Ag,BC,AV].all λm=>(Bh T.cl m).isSome)=true:=by
 cases T with
 | null=>exact absurd rfl h
 | bin kk=>cases kk<;>rfl
 | una kk=>cases kk<;>rfl
 | _=>rfl
theorem BB.m1{H:MH}{T:Tr}{m}{K:Nat->Prop}(r:BB H T)(hm:(HP m [AB,AH,AL,AK,AR,BG,Au]&&!HP m C2)=true)(k:K (Hl T m)):BL H (.ref T.addr) m K:=by
 refine Az (W8.mp hm) λh1 h2=>?_;exact r.m (laP (fm1 T) m (Gy h1)) (XC _▸h2) k
theorem BB.m2{H:MH}{T:Tr}{m}{K:Nat->Prop}(r:BB H T)(ha:Av T.den)(hm:(HP m [Ag,BC,AV]&&!HP m C2)=true)(k:K (Hl T m)):BL H (.ref T.addr) m K:=by
 refine Az (W8.mp hm) λh1 h2=>?_;exact r.m (laP (fm2 (SX ha)) m (Gy h1)) (XC _▸h2) k
theorem LL{α:Type}(f:α->Int):∀l:List α,GS (l.map λp=>.int (f p))=some (l.map f)
 | []=>rfl
 | p::r=>by simp only[XK,GS,LL f r,aL]
theorem Gz{ds:List (Int×List Nat)}{i:Nat}(h:i<ds.length):ds.drop i=ds[i]::ds.drop (i+1):=List.drop_eq_getElem_cons h
theorem Oc{ds:List (Int×List Nat)}{i:Nat}(h:¬ i<ds.length):(λd=>C9 d (ds.drop i))=λU=>none:=by rw[List.drop_eq_nil_of_le (Zz.mp h)];rfl
theorem Mu{i:Nat}{ds:List (Int×List Nat)}(ok:Dg i ds)(h:i<ds.length):Hd (λd=>C9 d (ds.drop i)) ds[i].1/\C9 ds[i].1 (ds.drop i)=some ds[i].2:=by
 have e:C9 ds[i].1 (ds.drop i)=some ds[i].2:=by rw[Gz h];exact if_pos rfl
 refine⟨⟨by show C9 _ _≠_;rw[e];exact Xz _,λd q=>?_⟩,e⟩
 refine Aj (Gx q) λs U m=>?_;rw[Gz h] at m;rcases Wb.mp m with z|m
 ·exact Int.le_of_eq (congrArg Prod.fst z.symm)
 ·have hp:=ok.1.sublist (Z8 i ds);rw[Gz h] at hp;exact XO ((XS.mp hp).1 _ m)
theorem SY{i:Nat}{ds:List (Int×List Nat)}(ok:Dg i ds)(h:i<ds.length):(λd=>C9 d (ds.drop (i+1)))=frm (λd=>C9 d (ds.drop i)) (ds[i].1+1):=by
 have hp:=ok.1.sublist (Z8 i ds);rw[Gz h] at hp;refine EC (λd q=>?_) λd q=>?_
 ·show _=C9 d (ds.drop i)
  rw[Gz h];exact(if_neg (by omega)).symm
 ·refine Aj (Gx q) λs U m=>?_;exact(XS.mp hp).1 _ m
theorem MB{i:Nat}{ds:List (Int×List Nat)}(ok:Dg i ds):Av (λd=>C9 d (ds.drop i))<->i<ds.length :=
 ⟨λ⟨d,q⟩=>WX λz=>q (congrFun (Oc z) d),λh=>(Mu ok h).1.act⟩
section
variable{a la wa i:Nat}{ds:List (Int×List Nat)}{t:Nat×Nat}{H:MH}{Q:V->MH->Prop}{e:Nat}
theorem Mv(h:ds.length<=1000):Kw (.list (ds.map λp=>V.int p.1)) ds.length:=by
 have:=Kw.list (vs:=ds.map λp=>V.int p.1) (by rw[WS];exact h)
 rwa [WS] at this
theorem Mw{f:Int×List Nat->Int}(h:ds.length<=1000)(k:i<ds.length):Ky (i:Int) (.int (f ds[i])) (.list (ds.map λp=>V.int (f p))):=by
 refine .list (by rw[WS];exact h) ?_
 unfold nth;rw[if_pos (X7 i),Y8,XD,Wu k];rfl
theorem Es(r:BB H (.leaf a la wa i ds t))(ok:Dg i ds)(q:∀b,Ms (Tr.leaf a la wa i ds t).den b->Q (.bool b) H):call (e+1) Da [.ref a] [] H Q:=by
 refine(AC r.1 (AC r.1 (At r.2.1 ⟨_,Mv ok.2.2.2,q _ ?_⟩)):A4 (call e) [] FO [(AA,.ref a)] H (Ah Q));exact⟨λz=>(MB ok).mpr (Xu.mp (of_decide_eq_true z)),λz=>decide_eq_true (Xu.mpr ((MB ok).mp z))⟩
theorem Od(r:BB H (.leaf a la wa i ds t))(ok:Dg i ds)(h:i<ds.length)(q:Q (.int ds[i].1) H):call (e+1) Io [.ref a] [] H Q:=by
 exact(AC r.1 (AC r.1 (At r.2.1 ⟨_,Mw ok.2.2.2 h,q⟩)):A4 (call e) [] LH [(AA,.ref a)] H (Ah Q))
theorem KH{j:Nat}(r:BB H (.leaf a la wa i ds t)):BB (H.put a (.inst .Leaf (Ch la wa j t.1))) (.leaf a la wa j ds t)/\Ao H (H.put a (.inst .Leaf (Ch la wa j t.1))) [a]:=by
 have f:Ao H (H.put a (.inst .Leaf (Ch la wa j t.1))) [a]:=Ao.put (.head _) λo' z=>by obtain rfl:=WT (r.1.symm.trans z);rfl
 exact⟨⟨AE _ _ _,f.kp _ _ r.2.1 (.inr rfl),f.kp _ _ r.2.2.1 (.inr rfl),f.kp _ _ r.2.2.2.1 (.inr rfl),r.2.2.2.2⟩,f⟩
theorem Pi(r:BB H (.leaf a la wa i ds t))(q:Q .none (H.put a (.inst .Leaf (Ch la wa (i+1) t.1)))):call (e+1) GM [.ref a] [] H Q:=by
 exact(AC r.1 (Cq r.1 rfl q):A4 (call e) [] JL [(AA,.ref a)] H (Ah Q))
theorem QW(r:BB H (.leaf a la wa i ds t))(ok:Dg i ds)(q:∀m,0<=m->Q (.int m) H):call (e+1) B3 [.ref a] [] H Q:=by
 refine(AC r.1 (AC r.1 ⟨_,.inl r.2.2.1,by rw[WS];exact ok.2.2.2,AO (λz=>?_) λU=>q 1 (by decide)⟩):A4 (call e) [] C8 [(AA,.ref a)] H (Ah Q))
 refine AC r.1 ⟨_,_,r.2.2.1,by rw[WS];exact ok.2.2.2,LL (λU=>1) ds,λz'=>?_,λm hm U=>q m ?_⟩
 ·replace z:=(List.map_eq_nil_iff.mp z')▸z;exact zT z
 ·refine Aj (Xd.mp hm) λp hp y=>?_;obtain rfl:=y;decide
theorem Oe(r:BB H (.leaf a la wa i ds t))(ok:Dg i ds)(q:∀m,0<=m->Q (.int m) H):call (e+2) Cs [.ref a] [] H Q:=by
 exact(AC r.1 (Ar r.1 rfl rfl (QW r ok q)):A4 (call (e+1)) [] Eg [(AA,.ref a)] H (Ah Q))
theorem Pj{y:Int}(r:BB H (.leaf a la wa i ds t))(ok:Dg i ds)(h:i<ds.length)(q:∀j,Dg j ds->BB (H.put a (.inst .Leaf (Ch la wa j t.1))) (.leaf a la wa j ds t)->Ao H (H.put a (.inst .Leaf (Ch la wa j t.1))) [a]->(λd=>C9 d (ds.drop j))=frm (λd=>C9 d (ds.drop i)) y->(y<=ds[i].1->j=i)->Q .none (H.put a (.inst .Leaf (Ch la wa j t.1))))(q0:y<ds[i].1->Q .none H) :
 call (e+2) Eb [.ref a,.int y] [] H Q:=by
 refine(Ar r.1 rfl rfl (Es r ok λb hb=>?_):A4 (call (e+1)) [] GX [(AA,.ref a),(Ag,.int y)] H (Ah Q));refine(hb.mpr ((MB ok).mpr h)).symm▸Ar r.1 rfl rfl (Od r ok h (AO (λz=>q0 (of_decide_eq_true z)) λz=>?_));refine⟨λn ρ H'=>∃j,n=ds.length-j/\i<=j/\j<=ds.length/\ρ=[(AA,.ref a),(Ag,.int y)]/\(∀k (hk:k<ds.length),i<=k->k<j->ds[k].1<y)/\BB H' (.leaf a la wa j ds t)/\(H'=H/\j=i\/H'=H.put a (.inst .Leaf (Ch la wa j t.1))),_,⟨i,rfl,WY _,ok.2.2.1,rfl,λk U h1 h2=>absurd h2 (Zz.mpr h1),r,.inl ⟨rfl,rfl⟩⟩,?_⟩;rintro n ρ H' ⟨j,rfl,h1,h2,rfl,h3,r',hH⟩;have okj:Dg j ds:=⟨ok.1,ok.2.1,h2,ok.2.2.2⟩;have fin:(∀hj:j<ds.length,¬ ds[j].1<y)->Q .none H':=λhj=>by
  have e:(λd=>C9 d (ds.drop j))=frm (λd=>C9 d (ds.drop i)) y:=by
   have e0:∀d,y<=d->∀k,i<=k->k<=j->C9 d (ds.drop k)=C9 d (ds.drop i):=by
    intro d hd k hk
    induction k with
    | zero=>intro _;exact(show i=0 by omega)▸rfl
    | succ k ih =>
     intro hkj;by_cases z:i=k+1
     ·rw[z]
     ·have hk':k<ds.length:=by omega
      rw[<- ih (by omega) (by omega),Gz hk']
      have:=h3 k hk' (by omega) (by assumption)
      exact(if_neg (by omega)).symm
   refine EC (λd hd=>e0 d hd j h1 (WY _)) λd hd=>?_;by_cases hj':j<ds.length
   ·have:=(Mu okj hj').1.2 d hd;have:=hj hj';omega
   ·exact absurd (congrFun (Oc hj') d) hd
  have e1:H'=H.put a (.inst .Leaf (Ch la wa j t.1)):=by
   rcases hH with⟨rfl,rfl⟩|rfl
   ·funext b
    by_cases q:b=a
    ·subst q;rw[AE];exact r.1
    ·rw[AT _ _ q]
   ·rfl
  rw[e1] at r' ⊢;exact q j okj r' (KH r).2 e λz=>WX λne=>absurd (h3 i h (WY _) (by omega)) (by omega)
 refine AC r'.1 (AC r'.1 (At r'.2.1 ⟨_,Mv ok.2.2.2,AO (λz1=>?_) λz1=>?_⟩))
 ·have hj:j<ds.length:=Xu.mp (of_decide_eq_true z1);refine AC r'.1 (AC r'.1 (At r'.2.1 ⟨_,Mw ok.2.2.2 hj,AO (λz2=>?_) λz2=>fin λU=>of_decide_eq_false z2⟩));refine AC r'.1 (Cq r'.1 rfl ⟨ds.length-(j+1),by omega,j+1,rfl,by omega,hj,rfl,λk hk g1 g2=>?_,(KH r').1,.inr ?_⟩)
  ·by_cases g3:k=j
   ·subst g3;exact of_decide_eq_true z2
   ·exact h3 k hk g1 (by omega)
  ·rcases hH with⟨rfl,rfl⟩|rfl
   ·rfl
   ·funext b
    by_cases q:b=a
    ·subst q;rw[AE,AE];rfl
    ·rw[AT _ _ q,AT _ _ q,AT _ _ q]
 ·exact fin λhj=>absurd (decide_eq_true (Xu.mpr hj)) (by rw[z1];exact Xn)
end
theorem SZ{H:MH}{a:Nat}{o o':O}:(H.put a o).put a o'=H.put a o':=by
 funext b
 by_cases q:b=a
 ·subst q;rw[AE,AE]
 ·rw[AT _ _ q,AT _ _ q,AT _ _ q]
theorem Mx{H:MH}{a:Nat}{o:O}(h:H a=some o):H.put a o=H:=by
 funext b
 by_cases q:b=a
 ·subst q;rw[AE,h]
 ·exact(AT _ _ q)
theorem EN{H:MH}{n m u Q c as}(l:Zn (put m u as).length 40=true)(k:Q (H.put n (.inst c (put m u as)))):Pd (H.put n (.inst c as)) (.ref n) m u Q:=Cq (AE _ _ _) l (by rw[SZ];exact k)
theorem My{H:MH}{n m f K c as}(h1:(AM m as).isNone=true)(h2:Bh c m=some f)(k:K f):BL (H.put n (.inst c as)) (.ref n) m K:=Ar (AE _ _ _) h1 h2 k
structure LC(T T':Tr):Prop where
 ad:T'.addr=T.addr
 fp:fp T'=fp T
 sz:sz T'=sz T
 sc:sc T'=sc T
theorem LC.refl{T}:LC T T:=⟨rfl,rfl,rfl,rfl⟩
theorem LC.trans{A B C}(h:LC A B)(k:LC B C):LC A C:=⟨k.ad.trans h.ad,k.fp.trans h.fp,k.sz.trans h.sz,k.sc.trans h.sc⟩
theorem Upd.eqv{H T H' T'}(u:Upd H T H' T'):LC T T':=⟨u.ad,u.fp,u.sz,u.sc⟩
structure Bk(UG H:MH)(a:Nat)(c:Cl)(xs:As)(UE UL A B:Tr):Prop where
 own:H a=some (.inst c xs)
 oA:Ok A
 oB:Ok B
 rA:BB H A
 rB:BB H B
 eA:LC UE A
 eB:LC UL B
 fr:Ao UG H (a::(fp UE++fp UL))
 nd:(a::(fp UE++fp UL)).Nodup
section
variable{UG H H':MH}{a:Nat}{c:Cl}{xs ys:As}{UE UL A B A' B':Tr}
theorem Of{α:Type}{a:α}{l m:List α}(h:(a::(l++m)).Nodup):(a∉l/\a∉m)/\l.Nodup/\m.Nodup/\∀x∈l,x∉m:=by
 refine Az (W3.mp h) λh1 h2=>?_;refine DN (YZ.mp h2) λk1 k2 k3=>?_;exact⟨⟨λz=>h1 (WR _ z),λz=>h1 (WP _ z)⟩,k1,k2,λx hx hm=>k3 x hx x hm rfl⟩
theorem Bk.gA(b:Bk UG H a c xs UE UL A B):AS H A:=⟨b.rA,b.oA,b.eA.fp▸(Of b.nd).2.1⟩
theorem Bk.gB(b:Bk UG H a c xs UE UL A B):AS H B:=⟨b.rB,b.oB,b.eB.fp▸(Of b.nd).2.2.1⟩
theorem Bk.mA(b:Bk UG H a c xs UE UL A B)(u:Upd H A H' A'):Bk UG H' a c xs UE UL A' B :=
 have n:=Of b.nd
 ⟨u.fr.kp _ _ b.own (.inl (b.eA.fp▸n.1.1)),u.ok,b.oB,u.rep,b.rB.frame u.fr λx m=>by rw[b.eA.fp];rw[b.eB.fp] at m;exact λz=>n.2.2.2 x z m,b.eA.trans u.eqv,b.eB,
  b.fr.trans (u.fr.mono λx m=>by rw[b.eA.fp] at m;exact .tail _ (WR _ m)),b.nd⟩
theorem Bk.mB(b:Bk UG H a c xs UE UL A B)(u:Upd H B H' B'):Bk UG H' a c xs UE UL A B' :=
 have n:=Of b.nd
 ⟨u.fr.kp _ _ b.own (.inl (b.eB.fp▸n.1.2)),b.oA,u.ok,b.rA.frame u.fr λx m=>by rw[b.eB.fp];rw[b.eA.fp] at m;exact n.2.2.2 x m,u.rep,b.eA,b.eB.trans u.eqv,
  b.fr.trans (u.fr.mono λx m=>by rw[b.eB.fp] at m;exact .tail _ (WP _ m)),b.nd⟩
theorem Bk.qA(b:Bk UG H a c xs UE UL A B)(q:Qt H H' (fp A)):Bk UG H' a c xs UE UL A B:=b.mA (q.u b.gA)
theorem Bk.qB(b:Bk UG H a c xs UE UL A B)(q:Qt H H' (fp B)):Bk UG H' a c xs UE UL A B:=b.mB (q.u b.gB)
theorem Bk.put(b:Bk UG H a c xs UE UL A B)(hr:∀as,ro (.inst c as)=false):Bk UG (H.put a (.inst c ys)) a c ys UE UL A B :=
 have n:=Of b.nd;have f:Ao H (H.put a (.inst c ys)) [a]:=Ao.put (.head _) λo' z=>by obtain rfl:=WT (b.own.symm.trans z);exact hr _
 ⟨AE _ _ _,b.oA,b.oB,b.rA.frame f λx m=>λz=>n.1.1 (Wl.mp z▸b.eA.fp▸m),b.rB.frame f λx m=>λz=>n.1.2 (Wl.mp z▸b.eB.fp▸m),b.eA,b.eB,
  b.fr.trans (f.mono λx m=>Wl.mp m▸.head _),b.nd⟩
theorem Bk.start{k:BK}(g:AS H (.bin k a A B)):∃id,Fv k (dB k A.den B.den) id/\Bk H H a (bC k) (bF k A.addr B.addr id) A B A B:=by
 obtain⟨⟨⟨id,h1,h2⟩,h3,h4⟩,ok,nd⟩:=g;exact⟨id,h2,h1,ok.1,ok.2.1,h3,h4,.refl,.refl,.refl,nd⟩
theorem Bk.upd{k:BK}{id:Option V}(b:Bk UG H a (bC k) (bF k UE.addr UL.addr id) UE UL A B)(hc:Fv k (dB k A.den B.den) id)(ok:LK k A.den B.den):Upd UG (.bin k a UE UL) H (.bin k a A B):=by
 refine⟨rfl,?_,?_,?_,⟨b.oA,b.oB,ok⟩,⟨⟨id,?_,hc⟩,b.rA,b.rB⟩,b.fr⟩
 ·show a::(fp A++fp B)=a::(fp UE++fp UL);exact b.eA.fp▸b.eB.fp▸rfl
 ·show sz A+sz B+1=sz UE+sz UL+1;exact b.eA.sz▸b.eB.sz▸rfl
 ·show Mine.sc A++Mine.sc B=Mine.sc UE++Mine.sc UL;exact b.eA.sc▸b.eB.sc▸rfl
 ·rw[b.eA.ad,b.eB.ad];exact b.own
end
structure Uk(UG H:MH)(a:Nat)(c:Cl)(xs:As)(UE A:Tr):Prop where
 own:H a=some (.inst c xs)
 oA:Ok A
 rA:BB H A
 eA:LC UE A
 fr:Ao UG H (a::fp UE)
 nd:(a::fp UE).Nodup
section
variable{UG H H':MH}{a:Nat}{c:Cl}{xs ys:As}{UE A A':Tr}
theorem Uk.gA(b:Uk UG H a c xs UE A):AS H A:=⟨b.rA,b.oA,b.eA.fp▸(W3.mp b.nd).2⟩
theorem Uk.mA(b:Uk UG H a c xs UE A)(u:Upd H A H' A'):Uk UG H' a c xs UE A' :=
 ⟨u.fr.kp _ _ b.own (.inl (b.eA.fp▸(W3.mp b.nd).1)),u.ok,u.rep,b.eA.trans u.eqv,b.fr.trans (u.fr.mono λx m=>by rw[b.eA.fp] at m;exact .tail _ m),b.nd⟩
theorem Uk.qA(b:Uk UG H a c xs UE A)(q:Qt H H' (fp A)):Uk UG H' a c xs UE A:=b.mA (q.u b.gA)
theorem Uk.put(b:Uk UG H a c xs UE A)(hr:∀as,ro (.inst c as)=false):Uk UG (H.put a (.inst c ys)) a c ys UE A :=
 have f:Ao H (H.put a (.inst c ys)) [a]:=Ao.put (.head _) λo' z=>by obtain rfl:=WT (b.own.symm.trans z);exact hr _
 ⟨AE _ _ _,b.oA,b.rA.frame f λx m=>λz=>(W3.mp b.nd).1 (Wl.mp z▸b.eA.fp▸m),b.eA,b.fr.trans (f.mono λx m=>Wl.mp m▸.head _),b.nd⟩
theorem Uk.start{k:UK}(g:AS H (.una k a A)):Uk H H a (uC k) (uF A.addr k) A A:=⟨g.rep.1,g.ok.1,g.rep.2.2,.refl,.refl,g.nd⟩
theorem Uk.upd{k₀ k:UK}(b:Uk UG H a (uC k) (uF UE.addr k) UE A)(hs:∀T:Tr,sc (.una k a T)=sc (.una k₀ a T))(x:uX H k)(ok:okU k A.den):Upd UG (.una k₀ a UE) H (.una k a A):=by
 refine⟨rfl,?_,?_,?_,⟨b.oA,ok⟩,⟨?_,x,b.rA⟩,b.fr⟩
 ·show a::fp A=a::fp UE;exact b.eA.fp▸rfl
 ·show sz A+1=sz UE+1;exact b.eA.sz▸rfl
 ·rw[hs];cases k₀<;>first|rfl|exact b.eA.sc
 ·rw[b.eA.ad];exact b.own
end
section
variable{e:Nat}{H:MH}{Q:V->MH->Prop}
theorem EP{A:D}{z d}(h:¬ z<=d):frm A z d=none:=if_neg h
theorem Mz{A B:D}{z}:frm (dU A B) z=dU (frm A z) (frm B z):=by
 funext d;by_cases q:z<=d
 ·unfold dU;rw[BO q,BO q,BO q]
 ·unfold dU;rw[EP q,EP q,EP q];rfl
theorem QX{A B:D}{z}:frm (dI A B) z=dI (frm A z) (frm B z):=by
 funext d;by_cases q:z<=d
 ·unfold dI;rw[BO q,BO q,BO q]
 ·unfold dI;rw[EP q,EP q,EP q];rfl
theorem QY{A B:D}{z}:frm (dM A B) z=dM (frm A z) (frm B z):=by
 funext d;by_cases q:z<=d
 ·unfold dM;rw[BO q,BO q,BO q]
 ·unfold dM;rw[EP q,EP q,EP q];rfl
theorem Nm{A B:D}{z}:frm (dR A B) z=dR (frm A z) (frm B z):=QX
theorem QZ{A B:D}{z}:frm (dN A B) z=dN (frm A z) (frm B z):=by
 funext d;by_cases q:z<=d
 ·unfold dN;rw[BO q,BO q,BO q]
 ·unfold dN;rw[EP q,EP q,EP q];rfl
theorem Qa{A:D}{s z}:frm (dC s A) z=dC s (frm A z):=rfl
theorem Nn{A:D}{xs ex bo z}:frm (dF xs ex bo A) z=dF xs ex bo (frm A z):=by
 funext d;by_cases q:z<=d
 ·unfold dF;rw[BO q,BO q]
 ·unfold dF;rw[EP q,EP q];exact(ite_self _).symm
theorem IR{A:D}(h:¬ Av A):A=λU=>none:=funext λd=>WX λz=>h ⟨d,z⟩
theorem MC{A B:D}(h:¬ Av A):dU A B=B:=by rw[IR h];rfl
theorem LM{p:Option (List Nat)}:I5 p none=p:=by cases p<;>rfl
theorem Pk{A B:D}(h:¬ Av B):dU A B=A:=by rw[IR h];funext d;exact LM
theorem No{A B:D}:Av (dU A B)<->Av A\/Av B :=
 ⟨λ⟨d,h⟩=>(E3.mp h).imp (⟨d,·⟩) (⟨d,·⟩),λh=>h.elim (λ⟨d,h⟩=>⟨d,E3.mpr (.inl h)⟩) λ⟨d,h⟩=>⟨d,E3.mpr (.inr h)⟩⟩
theorem Tj{A B:D}{x y}(h:Hd A x)(k:Hd B y):Hd (dU A B) (min x y):=by
 refine⟨E3.mpr ?_,λd q=>?_⟩
 ·rcases Int.le_total x y with z|z
  ·rw[Int.min_eq_left z];exact .inl h.1
  ·rw[Int.min_eq_right z];exact .inr k.1
 ·rcases E3.mp q with q|q
  ·exact Wc (Int.min_le_left _ _) (h.2 _ q)
  ·exact Wc (Int.min_le_right _ _) (k.2 _ q)
def Ih(n d:Nat):Prop:=∀T,sz T<=n->∀e,d<=e->GL e T
theorem AS.bA{H k a A B}(g:AS H (.bin k a A B)):AS H A:=⟨g.rep.2.1,g.ok.1,(Of g.nd).2.1⟩
theorem AS.bB{H k a A B}(g:AS H (.bin k a A B)):AS H B:=⟨g.rep.2.2,g.ok.2.1,(Of g.nd).2.2.1⟩
theorem AS.uA{H k a A}(g:AS H (.una k a A)):AS H A:=⟨g.rep.2.2,g.ok.1,(W3.mp g.nd).2⟩
noncomputable def idv:Option V->V
 | none=>.none
 | some v=>v
theorem rdId{k p q id c}{K:V->Prop}(hu:QU k=true)(hc:c=bC k)(h:K (idv id)):op ((AM BD (bF k p q id)).or (Gw c BD)) K:=by
 subst hc;cases k<;>first|exact zT hu;done|(cases id<;>exact h)
theorem M0{k p q id v}:put BD v (bF k p q id)=bF k p q (some v):=by cases k<;>cases id<;>rfl
theorem IS{k p q id v}:Zn (put BD v (bF k p q id)).length 40=true:=by rw[M0];cases k<;>rfl
theorem Pm{k:BK}(hu:QU k=true):dB k=dU:=by cases k<;>first|rfl|exact zT hu
theorem Tl{k:BK}{A B:D}(hu:QU k=true):LK k A B:=by cases k<;>first|trivial|cases hu
theorem BB.cache{H:MH}{k a A B v}(r:BB H (.bin k a A B))(hu:QU k=true)(hc:Fv k (dB k A.den B.den) (some v)):∀{S:Tr},BB H S->BB (H.put a (.inst (bC k) (bF k A.addr B.addr (some v)))) S:=by
 obtain⟨id,own,U⟩:=r.1;have ht:tg (bC k)=2:=QV (.bin k a A B);have kI:∀{b c as},H b=some (.inst c as)->WV (tg c) 2=false->(H.put a (.inst (bC k) (bF k A.addr B.addr (some v)))) b=some (.inst c as):=λ{b c as} h hn=>by
  rw[AT _ _ λz=>?_];· exact h
  subst z;replace hn:=ht▸((Nl own h).1)▸hn;exact zF hn
 have kO:∀{b o},H b=some o->(∀c as,o≠.inst c as)->(H.put a (.inst (bC k) (bF k A.addr B.addr (some v)))) b=some o:=λ{b o} h hn=>by
  rw[AT _ _ λz=>?_];· exact h
  subst z;obtain rfl:=WT (own.symm.trans h);exact hn _ _ rfl
 intro S
 induction S with
 | null b=>exact λh=>kI h rfl
 | leaf b la wa i ds t=>exact λh=>⟨kI h.1 rfl,kO h.2.1 λU U z=>(nomatch z),kO h.2.2.1 λU U z=>(nomatch z),kO h.2.2.2.1 λU U z=>(nomatch z),h.2.2.2.2⟩
 | bin k' b A' B' ia ib =>
  intro h;refine⟨?_,ia h.2.1,ib h.2.2⟩;by_cases q:b=a
  ·subst q;cases BB.fun r h rfl
   exact⟨_,AE _ _ _,hc⟩
  ·refine Aj h.1 λid' h1 h2=>?_;exact⟨id',by rw[AT _ _ q];exact h1,h2⟩
 | una k' b A' ia =>
  intro h;refine⟨kI h.1 (by cases k'<;>rfl),?_,ia h.2.2⟩
  cases k' with
  | filt=>exact kO h.2.1 λU U z=>(nomatch z)
  | inv=>exact kO h.2.1 λU U z=>(nomatch z)
  | con=>trivial
 | req b i A' B' ia ib =>
  intro h;refine⟨kI h.1 rfl,?_,ia h.2.2.1,ib h.2.2.2⟩;rw[AT _ _ λz=>?_];· exact h.2.1
  subst z;have:=(Nl own h.2.1).1;cases k<;>first|exact zT hu;done|cases this
section
variable{n d a:Nat}{k:BK}{A B:Tr}
theorem Og(ih:Ih n d)(he:d<=e)(hA:sz A<=n)(hB:sz B<=n)(hu:QU k=true)(g:AS H (.bin k a A B))(q:∀b,Ms (Tr.bin k a A B).den b->Q (.bool b) H):call (e+1) CC [.ref a] [] H Q:=by
 refine Aj g.rep.1 λid own U=>?_;refine(AC own (g.rep.2.1.m1 rfl ((ih A hA e he).act g.bA λb hb=>?_)):A4 (call e) [] E0 [(AA,.ref a)] H (Ah Q));replace q:=(show(Tr.bin k a A B).den=dU A.den B.den from congrFun (congrFun (Pm hu) _) _)▸q
 cases b with
 | true=>exact q true (Ms.t (No.mpr (.inl hb.pos)))
 | false=>exact AC own (g.rep.2.2.m1 rfl ((ih B hB e he).act g.bB λb hb'=>q b (by exact(MC hb.neg).symm▸hb')))
theorem Qb(ih:Ih n d)(he:d<=e)(hA:sz A<=n)(hB:sz B<=n)(hu:QU k=true)(g:AS H (.bin k a A B))(ha:Av (Tr.bin k a A B).den)
 (q:∀x H',Qt H H' (fp (.bin k a A B))->Hd (Tr.bin k a A B).den x->Q (.int x) H'):call (e+1) Fm [.ref a] [] H Q:=by
 have hd:(Tr.bin k a A B).den=dU A.den B.den:=congrFun (congrFun (Pm hu) _) _;refine Aj (Bk.start g) λid hc b=>?_;refine(AC b.own (rdId hu rfl ?_):A4 (call e) [] Fq [(AA,.ref a)] H (Ah Q));have slow:idv id=.none->A4 (call e) [] Fq.tail [(AA,.ref a),(BD,.none)] H (Ah Q):=λU=>by
  have fin:∀{H' x ρ},Bk H H' a (bC k) (bF k A.addr B.addr id) A B A B->(∀S,BB H S->BB H' S)->Hd (dU A.den B.den) x->ρ=[(AA,.ref a),(BD,.int x),(A3,.ref A.addr),(A8,.ref B.addr)] ->
   A4 (call e) [] (Fq.drop 5) ρ H' (Ah Q):=λ{H' x ρ} b' rp hx hρ=>by
   subst hρ;refine Cq b'.own IS ?_;have c:Fv k (dB k A.den B.den) (some (.int x)):=⟨hu,by rw[Pm hu];exact hx⟩
   refine M0.symm▸?_;have r':=rp _ g.rep;exact q x _ ⟨(b'.put (OZ k)).fr,λS h=>r'.cache hu c (rp S h)⟩ (hd▸hx)
  refine AC b.own (AC b.own (g.rep.2.1.m1 rfl ((ih A hA e he).act g.bA λba hba=>?_)));have hB':=ih B hB e he;have hA':=ih A hA e he;cases ba with
  | false =>
   rw[hd,MC hba.neg] at ha;refine g.rep.2.2.m2 ha rfl (hB'.id g.bB ha λx H' w hx=>?_);exact fin (b.qB w) w.rp (by rw[MC hba.neg];exact hx) rfl
  | true =>
   refine g.rep.2.2.m1 rfl (hB'.act g.bB λbb hbb=>?_);cases bb with
   | false =>
    refine g.rep.2.1.m2 hba.pos rfl (hA'.id g.bA hba.pos λx H' w hx=>?_);exact fin (b.qA w) w.rp (by rw[Pk hbb.neg];exact hx) rfl
   | true =>
    refine g.rep.2.1.m2 hba.pos rfl (hA'.id g.bA hba.pos λx H' w hx=>?_);have b1:=b.qA w;refine b1.rB.m2 hbb.pos rfl (hB'.id b1.gB hbb.pos λy H'' w' hy=>?_);exact fin (b1.qB w') (λS h=>w'.rp S (w.rp S h)) (Tj hx hy) rfl
 cases id with
 | none=>exact slow rfl
 | some v =>
  cases v with
  | none=>exact slow rfl
  | int x=>exact q x H .refl hc.2
  | bool=>exact hc.elim
  | ref=>exact hc.elim
  | str=>exact hc.elim
theorem M2(ih:Ih n d)(he:d<=e)(hA:sz A<=n)(hB:sz B<=n)(hu:QU k=true)(g:AS H (.bin k a A B))(ha:Av (Tr.bin k a A B).den)
 (q:∀v x T' H',CF v->Upd H (.bin k a A B) H' T'->Hd (Tr.bin k a A B).den x->T'.den=frm (Tr.bin k a A B).den (x+1)->Q v H'):call (e+1) EK [.ref a] [] H Q:=by
 have hd:(Tr.bin k a A B).den=dU A.den B.den:=congrFun (congrFun (Pm hu) _) _;obtain⟨id,hc,b⟩:=Bk.start g
 show A4 (call e) [] IH [(AA,.ref a)] H (Ah Q)
 refine Cq b.own IS ?_;rw[M0];replace b:=b.put (ys:=bF k A.addr B.addr (some .none)) (OZ k)
 generalize H.put a _=H1 at b ⊢
 have fin:∀{v x H' A' B'},CF v->Bk H H' a (bC k) (bF k A.addr B.addr (some .none)) A B A' B'->Hd (dU A.den B.den) x->dU A'.den B'.den=frm (dU A.den B.den) (x+1)->Q v H':=λ{v x H' A' B'} f b' hx e =>
  q v x (.bin k a A' B') H' f (b'.upd hu (Tl hu)) (hd▸hx) ((congrFun (congrFun (Pm hu) _) _).trans (hd▸e))
 have oA:=ih A hA e he;have oB:=ih B hB e he;refine AC b.own (AC b.own (b.rA.m1 rfl (oA.act b.gA λba hba=>b.rB.m1 rfl (oB.act b.gB λbb hbb=>?_))));cases ba with
 | false =>
  cases bb with
  | false=>rw[hd,MC hba.neg] at ha;exact absurd ha hbb.neg
  | true=>exact b.rB.m2 hbb.pos rfl (oB.next b.gB hbb.pos λv x B' H' f u hx e=>fin f (b.mB u) (by rw[MC hba.neg];exact hx) (by rw[MC hba.neg,MC hba.neg];exact e))
 | true =>
  cases bb with
  | false=>exact b.rA.m2 hba.pos rfl (oA.next b.gA hba.pos λv x A' H' f u hx e=>fin f (b.mA u) (by rw[Pk hbb.neg];exact hx) (by rw[Pk hbb.neg,Pk hbb.neg];exact e))
  | true =>
   refine b.rA.m2 hba.pos rfl (oA.id b.gA hba.pos λx H' w hx=>?_);replace b:=b.qA w;refine b.rB.m2 hbb.pos rfl (oB.id b.gB hbb.pos λy H' w hy=>?_);replace b:=b.qB w;have hm:=Tj hx hy;have e0:frm (dU A.den B.den) (min x y+1)=dU (frm A.den (min x y+1)) (frm B.den (min x y+1)):=Mz;refine AO (λz=>?_) λz=>?_
   ·have hxy:=of_decide_eq_true z;have em:min x y=x:=Int.min_eq_left hxy;rw[em] at hm e0;refine b.rA.m2 hba.pos rfl (oA.next b.gA hba.pos λv x' A' H' f u hx' eA=>?_);rw[hx'.uniq hx] at eA;replace b:=b.mA u;refine AO (λz=>?_) λz=>?_
    ·have hyx:=of_decide_eq_true z;have exy:y=x:=XZ hyx hxy;rw[exy] at hy;refine b.rB.m2 hbb.pos rfl (oB.next b.gB hbb.pos λv' y' B' H' f' u hy' eB=>?_);rw[hy'.uniq hy] at eB;have z:=fin f' (b.mB u) hm (by rw[e0,eA,eB])
     rcases f with rfl|rfl<;>exact z
    ·have z:=fin (.inl rfl) b hm (by rw[e0,eA,C1 hy (YK.mp (of_decide_eq_false z))])
     rcases f with rfl|rfl<;>exact z
   ·have hyx:=XO (YK.mp (of_decide_eq_false z));have em:min x y=y:=Int.min_eq_right hyx;rw[em] at hm e0;refine AO (λz'=>?_) λz'=>absurd hyx (of_decide_eq_false z');refine b.rB.m2 hbb.pos rfl (oB.next b.gB hbb.pos λv' y' B' H' f' u hy' eB=>?_);rw[hy'.uniq hy] at eB;refine fin f' (b.mB u) hm ?_;rw[e0,eB,C1 hx (YK.mp (of_decide_eq_false z))]
theorem M3{y:Int}(ih:Ih n d)(he:d<=e)(hA:sz A<=n)(hB:sz B<=n)(hu:QU k=true)(g:AS H (.bin k a A B))
 (q:∀v T' H',CF v->Upd H (.bin k a A B) H' T'->T'.den=frm (Tr.bin k a A B).den y->Eo (Tr.bin k a A B).den y H H'->Q v H'):call (e+1) Cp [.ref a,.int y] [] H Q:=by
 have hd:∀A B,(Tr.bin k a A B).den=dU A.den B.den:=λA B=>congrFun (congrFun (Pm hu) _) _;refine Aj (Bk.start g) λid hc b=>?_;refine(Cq b.own IS ?_:A4 (call e) [] D9 [(AA,.ref a),(Ag,.int y)] H (Ah Q));rw[M0];replace b:=b.put (ys:=bF k A.addr B.addr (some .none)) (OZ k);have s0:∀S,BB H S->BB (H.put a (.inst (bC k) (bF k A.addr B.addr (some .none)))) S:=λS r=>g.rep.cache (v:=.none) hu hu r
 generalize H.put a _=H1 at b s0 ⊢
 have sA:∀x,Hd (dU A.den B.den) x->∀z,Hd A.den z->x<=z:=λx h z hz=>h.2 _ (E3.mpr (.inl hz.1));have sB:∀x,Hd (dU A.den B.den) x->∀z,Hd B.den z->x<=z:=λx h z hz=>h.2 _ (E3.mpr (.inr hz.1));have fin:∀{v H' A' B'},CF v->Bk H H' a (bC k) (bF k A.addr B.addr (some .none)) A B A' B'->A'.den=frm A.den y->B'.den=frm B.den y->Eo (dU A.den B.den) y H H'->Q v H':=λ{v H' A' B'} f b' e1 e2 st =>
  q v (.bin k a A' B') H' f (b'.upd hu (Tl hu)) (by rw[hd,hd,e1,e2,Mz]) (by rw[hd];exact st)
 have oA:=ih A hA e he;have oB:=ih B hB e he;have rest:∀{v H' A'},CF v->Bk H H' a (bC k) (bF k A.addr B.addr (some .none)) A B A' B->A'.den=frm A.den y->Eo (dU A.den B.den) y H H'->A4 (call e) [] (D9.drop 3) [(AA,.ref a),(Ag,.int y),(Ik,v),(Hv,.bool false)] H' (Ah Q):=λ{v H' A'} f b e1 st=>by
  refine AC b.own (b.rB.m1 rfl (oB.act b.gB λbb hbb=>?_));cases bb with
  | false =>
   have z:=fin (.inr rfl) b e1 (Mt hbb.neg).symm st;rcases f with rfl|rfl<;>exact z
  | true =>
   refine AC b.own (b.rB.m2 hbb.pos rfl (oB.skip b.gB hbb.pos λv' B' H' f' u e2 st'=>?_));have z:=fin f' (b.mB u) e1 e2 λx hx l S r=>by
    obtain⟨y',hy⟩:=KC g.bB.ok.bd hbb.pos;exact st' y' hy (Wc l (sB x hx y' hy)) S (st x hx l S r)
   rcases f with rfl|rfl<;>exact z
 refine AC b.own (b.rA.m1 rfl (oA.act b.gA λba hba=>?_));cases ba with
 | false=>exact rest (.inr rfl) b (Mt hba.neg).symm λx U U S r=>s0 S r
 | true=>exact AC b.own (b.rA.m2 hba.pos rfl (oA.skip b.gA hba.pos λv' A' H' f' u e2 st'=>rest f' (b.mA u) e2 λx hx l S r=>by
  obtain⟨y',hy⟩:=KC g.bA.ok.bd hba.pos;exact st' y' hy (Wc l (sA x hx y' hy)) S (s0 S r)))
end
section
variable{p:Nat}{T:Tr}
theorem Ak(o:GL e T)(g:AS H T)(ad:T.addr=p)(q:∀b,Ms T.den b->Q (.bool b) H):BL H (.ref p) AB λf=>call e f [.ref p] [] H Q:=by
 subst ad;exact g.rep.m1 rfl (o.act g q)
theorem Bc{x}(o:GL e T)(g:AS H T)(ad:T.addr=p)(hx:Hd T.den x)(q:∀H',Qt H H' (fp T)->Q (.int x) H'):BL H (.ref p) Ag λf=>call e f [.ref p] [] H Q:=by
 subst ad;exact g.rep.m2 hx.act rfl (o.id g hx.act λy H' w hy=>by exact(hy.uniq hx).symm▸q H' w)
theorem CV(o:GL e T)(g:AS H T)(ad:T.addr=p)(q:∀m,0<=m->Q (.int m) H):BL H (.ref p) AH λf=>call e f [.ref p] [] H Q:=by
 subst ad;exact g.rep.m1 rfl (o.mq g q)
theorem EQ{x}(o:GL e T)(g:AS H T)(ad:T.addr=p)(hx:Hd T.den x)(q:∀v T' H',CF v->Upd H T H' T'->T'.den=frm T.den (x+1)->Q v H'):BL H (.ref p) BC λf=>call e f [.ref p] [] H Q:=by
 subst ad;exact g.rep.m2 hx.act rfl (o.next g hx.act λv y T' H' f u hy e=>by rw[hy.uniq hx] at e;exact q v T' H' f u e)
theorem CU{y}(o:GL e T)(g:AS H T)(ad:T.addr=p)(ha:Av T.den)(q:∀v T' H',CF v->Upd H T H' T'->T'.den=frm T.den y->Eo T.den y H H'->Q v H'):BL H (.ref p) AV λf=>call e f [.ref p,.int y] [] H Q:=by
 subst ad;exact g.rep.m2 ha rfl (o.skip g ha q)
theorem CD{vs}(o:GL e T)(g:AS H T)(ad:T.addr=p)(hv:vs=[]\/∃q,q<=0/\vs=[.int q])(q:∀T' H',Qt H H' (fp T)->AS H' T'->T'.den=T.den->sz T'<=sz T->(True->True)->(∀x∈fp T',x∈fp T\/H x=none)->Q (.ref T'.addr) H') :
 BL H (.ref p) AL λf=>call e f (.ref p::vs) [] H Q:=by
 subst ad;exact g.rep.m1 rfl (o.repl g hv q)
end
theorem tB{H:MH}{b}{K:Bool->Prop}(k:K b):GT H (.bool b) K:=k
theorem ifT{A B}(k:A):Jh true A B:=k
theorem JO{A B}(k:B):Jh false A B:=k
theorem Bu{C κ ρ H Q}(k:Q .next ρ H):A4 C κ [] ρ H Q:=k
theorem Et{K Q ρ H}(k:K ρ H):GU K Q .next ρ H:=k
theorem Ad{x:Nat}{v:V}:∀{ρ:As},AM x (put x v ρ)=some v
 | []=>by show cond (WV x x) _ _=_;rw[YM];rfl
 | p::r=>by
  show AM x (cond (WV p.1 x) _ _)=_
  cases e:WV p.1 x with
  | true=>show cond (WV p.1 x) _ _=_;rw[e];rfl
  | false=>show cond (WV p.1 x) _ _=_;rw[e];exact Ad
theorem Qc{C κ x y r ρ H Q u v}(hu:AM x ρ=some u)(fu:CF u)(hv:AM y ρ=some v)(k:A4 C κ r (put x v ρ) H Q):A4 C κ (.asg x (.or [.var x,.var y])::r) ρ H Q:=by
 show op (AM x ρ) _
 refine hu.symm▸?_;have:op (AM y ρ) λv=>GU (λρ H=>A4 C κ r ρ H Q) Q .next (put x v ρ) H:=by rw[hv];exact k
 rcases fu with rfl|rfl<;>exact this
theorem Av.hd{A:D}(h:Av A)(b:Bd A):∃x,Hd A x:=KC b h
def E4(A B A' B':D):Prop:=dR A' B'=dR A B/\dR B' A'=dR B A
theorem E4.dI{A B A' B':D}(h:E4 A B A' B'):Mine.dI A' B'=Mine.dI A B:=h.1
theorem dR_l{A B:D}{y}(h:Hd B y):dR (frm A y) B=dR A B:=by
 have e:frm (dR A B) y=dR A B:=(EC (λU U=>rfl) λd q=>h.2 _ (KD.mp q).2).symm;rw[<- e,Nm,C1 h (Wq _)]
theorem dR_r{A B:D}{x}(h:Hd A x):dR A (frm B x)=dR A B:=by
 have e:frm (dR A B) x=dR A B:=(EC (λU U=>rfl) λd q=>h.2 _ (KD.mp q).1).symm;rw[<- e,Nm,C1 h (Wq _)]
theorem E4.l{A B A' B':D}{y}(h:E4 A B A' B')(k:Hd B' y):E4 A B (frm A' y) B':=⟨(dR_l k).trans h.1,(dR_r k).trans h.2⟩
theorem E4.r{A B A' B':D}{x}(h:E4 A B A' B')(k:Hd A' x):E4 A B A' (frm B' x):=⟨(dR_r k).trans h.1,(dR_l k).trans h.2⟩
theorem dI_act{A B:D}{x}(h:Hd A x)(k:Hd B x):Hd (dI A B) x:=⟨Ep.mpr ⟨h.1,k.1⟩,λd q=>h.2 _ (Ep.mp q).1⟩
theorem C3{A B:D}(h:Av (dI A B)):Av A/\Av B:=let ⟨d,h⟩:=h;⟨⟨d,(Ep.mp h).1⟩,⟨d,(Ep.mp h).2⟩⟩
theorem Hd.frm_lt{A:D}{x y z}(h:Hd A x)(k:Hd (frm A y) z)(q:x<y):x<z:=Xm q k.frm_ge
section
variable{n d a:Nat}{UE UL A B:Tr}{UG:MH}
theorem KJ(ih:Ih n d)(he:d<=e)(hA:sz UE<=n)(hB:sz UL<=n)(b:Bk UG H a .Inter (bF .inter UE.addr UL.addr none) UE UL A B){x y:Int}(hx:Hd A.den x)(hy:Hd B.den y)(ne:x≠y)
 (q:∀v A' B' H',CF v->Bk UG H' a .Inter (bF .inter UE.addr UL.addr none) UE UL A' B'->Al A'.den B'.den->E4 A.den B.den A'.den B'.den->Q v H'):call (e+1) Cu [.ref a] [] H Q:=by
 have cA:∀{H A B},Bk UG H a .Inter (bF .inter UE.addr UL.addr none) UE UL A B->GL e A:=λb=>ih _ (b.eA.sz▸hA) e he;have cB:∀{H A B},Bk UG H a .Inter (bF .inter UE.addr UL.addr none) UE UL A B->GL e B:=λb=>ih _ (b.eB.sz▸hB) e he;refine(AC b.own (AC b.own (Bc (cA b) b.gA b.eA.ad hx λH1 w=>?_)):A4 (call e) [] Ej [(AA,.ref a)] H (Ah Q));replace b:=b.qA w;refine Bc (cB b) b.gB b.eB.ad hy λH2 w=>?_;replace b:=b.qB w;refine⟨by simpa using ne,?_⟩
 refine⟨λm ρ H'=>∃A' B' x y r t,m=(2000-x-y).toNat/\Bk UG H' a .Inter (bF .inter UE.addr UL.addr none) UE UL A' B'/\Hd A'.den x/\Hd B'.den y/\E4 A.den B.den A'.den B'.den/\CF r /\
  ρ=(AA,.ref a)::(A3,.ref UE.addr)::(A8,.ref UL.addr)::(FB,.int x)::(FC,.int y)::(Hr,r)::t,_,⟨A,B,x,y,.bool false,[],rfl,b,hx,hy,⟨rfl,rfl⟩,.inr rfl,rfl⟩,?_⟩
 clear hx hy ne b w;rintro m ρ H' ⟨A',B',x,y,r,t,rfl,b,hx,hy,hd,hr,rfl⟩;refine Ak (cA b) b.gA b.eA.ad λba hba=>?_;refine(hba.mpr hx.act).symm▸Ak (cB b) b.gB b.eB.ad λbb hbb=>?_;refine(hbb.mpr hy.act).symm▸AO (λne=>?_) λz=>?_
 ·have ne:x≠y:=by simpa using ne
  have lx:=b.oA.bd _ hx.1;have ly:=b.oB.bd _ hy.1;refine AO (λz=>?_) λz=>?_
  ·have lt:=of_decide_eq_true z;refine CU (cA b) b.gA b.eA.ad hx.act λv A1 H1 f u e1 U=>?_;have hd':E4 A.den B.den A1.den B'.den:=by rw[e1];exact hd.l hy
   replace b:=b.mA u;refine Ak (cA b) b.gA b.eA.ad λba hba=>?_;cases ba with
   | false=>exact q .none _ _ _ (.inl rfl) b (λx y hx U=>absurd hx.act hba.neg) hd'
   | true =>
    obtain⟨x1,hx1⟩:=hba.pos.hd b.oA.bd;have lt1:x<x1:=hx.frm_lt (e1▸hx1) lt;have lx1:=b.oA.bd _ hx1.1;refine tB (JO (Bu (Et (Qc rfl hr Ad ?_))));refine Bc (cA b) b.gA b.eA.ad hx1 λH2 w=>?_;exact ZO _ ⟨by omega,A1,B',x1,y,v,_,rfl,b.qA w,hx1,hy,hd',f,rfl⟩
  ·have lt:y<x:=by have:=of_decide_eq_false z;omega
   refine CU (cB b) b.gB b.eB.ad hy.act λv B1 H1 f u e1 U=>?_;have hd':E4 A.den B.den A'.den B1.den:=by rw[e1];exact hd.r hx
   replace b:=b.mB u;refine Ak (cB b) b.gB b.eB.ad λbb hbb=>?_;cases bb with
   | false=>exact q .none _ _ _ (.inl rfl) b (λx y U hy=>absurd hy.act hbb.neg) hd'
   | true =>
    obtain⟨y1,hy1⟩:=hbb.pos.hd b.oB.bd;have lt1:y<y1:=hy.frm_lt (e1▸hy1) lt;have ly1:=b.oB.bd _ hy1.1;refine tB (JO (Bu (Et (Qc rfl hr Ad ?_))));refine Bc (cB b) b.gB b.eB.ad hy1 λH2 w=>?_;exact ZO _ ⟨by omega,A',B1,x,y1,v,_,rfl,b.qB w,hx,hy1,hd',f,rfl⟩
 ·have exy:x=y:=by simpa using z
  subst exy;exact q r A' B' H' hr b (λu v hu hv=>(hu.uniq hx).trans (hv.uniq hy).symm) hd
end
theorem dI_fl{A B:D}{z}:dI (frm A z) B=frm (dI A B) z:=by
 funext d;by_cases q:z<=d
 ·rw[BO q];unfold dI;rw[BO q]
 ·rw[EP q];unfold dI;rw[EP q];rfl
theorem dR_fl{A B:D}{z}:dR (frm A z) B=frm (dR A B) z/\dR B (frm A z)=frm (dR B A) z:=by
 constructor
 ·funext d;by_cases q:z<=d
  ·rw[BO q];unfold dR dI;rw[BO q]
  ·rw[EP q];unfold dR dI;rw[EP q];rfl
 ·funext d;by_cases q:z<=d
  ·rw[BO q];unfold dR dI;rw[BO q]
  ·rw[EP q];unfold dR dI;rw[EP q];cases B d<;>rfl
theorem dI_val{A B:D}{x s t}(h:A x=some s)(k:B x=some t):dI A B x=some (s++t):=by unfold dI;exact h▸k▸rfl
theorem Al.hd{A B:D}(al:Al A B)(bA:Bd A)(bB:Bd B)(hA:Av A)(hB:Av B):∃x,Hd A x/\Hd B x/\Hd (dI A B) x:=by
 refine CT (KC bA hA) λx hx=>?_;refine CT (KC bB hB) λy hy=>?_;cases al x y hx hy
 exact⟨x,hx,hy,dI_act hx hy⟩
theorem IT{C κ x y ρ H Q u v}(hu:AM x ρ=some u)(fu:CF u)(hv:AM y ρ=some v)(k:Q (.ret v) ρ H):A4 C κ [.ret (.or [.var x,.var y])] ρ H Q:=by
 show op (AM x ρ) _
 refine hu.symm▸?_;have:op (AM y ρ) λv=>GU (λρ H=>A4 C κ [] ρ H Q) Q (.ret v) ρ H:=by rw[hv];exact k
 rcases fu with rfl|rfl<;>exact this
theorem Oh{C κ x y z ρ H Q u v w}(hu:AM x ρ=some u)(fu:CF u)(hv:AM y ρ=some v)(fv:CF v)(hw:AM z ρ=some w)(k:Q (.ret w) ρ H):A4 C κ [.ret (.or [.var x,.var y,.var z])] ρ H Q:=by
 show op (AM x ρ) _
 refine hu.symm▸?_;have:op (AM z ρ) λv=>GU (λρ H=>A4 C κ [] ρ H Q) Q (.ret v) ρ H:=by exact hw.symm▸k
 have:op (AM y ρ) λv=>GT H v λb=>Jh b (GU (λρ H=>A4 C κ [] ρ H Q) Q (.ret v) ρ H) (op (AM z ρ) λv=>GU (λρ H=>A4 C κ [] ρ H Q) Q (.ret v) ρ H):=by
  rw[hv];rcases fv with rfl|rfl<;>exact this
 rcases fu with rfl|rfl<;>exact this
theorem KK{H a K c as}(h:H a=some (.inst c as))(k:K c as):rdI H a K:=⟨c,as,h,k⟩
structure Mk(k:BK)(H:MH)(A B:Tr)(n:Nat)(A' B':Tr)(H':MH):Prop where
 good:AS H' (.bin k n A' B')
 den:dB k A'.den B'.den=dB k A.den B.den
 eA:LC A A'
 eB:LC B B'
 fr:Ao H H' (fp A++fp B)
 nn:H n=none
 qt:LK k A.den B.den->∀S,BB H S->BB H' S
theorem Ao.new'{H H':MH}{n:Nat}{o:O}{F}(h:H n=none)(f:Ao (H.put n o) H' (n::F)):Ao H H' F :=
 ⟨λb o' e q=>by
  have ne:b≠n:=λz=>by subst z;exact nS h e
  exact f.kp b o' (by rw[AT _ _ ne];exact e) (q.imp (λm z=>(Wb.mp z).elim ne m) id),λb e=>(Ao.new (F:=[]) h).dm b (f.dm b e)⟩
theorem BB.new{H:MH}{n:Nat}{o:O}{S:Tr}(h:H n=none)(r:BB H S):BB (H.put n o) S:=r.frame (F:=[]) (Ao.new h) λU U=>W0
theorem BB.nin{H:MH}{n:Nat}{S:Tr}(r:BB H S)(h:H n=none):n∉fp S:=λm=>by refine Aj (r.fps n m) λo e U=>?_;exact nS h e
section
variable{n d a m:Nat}{UE UL A B:Tr}{UG H':MH}{k:BK}{c:Cl}{ido:Option V}
theorem Bk.fresh{xs}(gA:AS H A)(gB:AS H B)(dj:∀x∈fp A,x∉fp B)(h:H m=none):Bk (H.put m (.inst c xs)) (H.put m (.inst c xs)) m c xs A B A B :=
 ⟨AE _ _ _,gA.ok,gB.ok,gA.rep.new h,gB.rep.new h,.refl,.refl,.refl,W3.mpr ⟨λz=>(W2.mp z).elim (gA.rep.nin h) (gB.rep.nin h),YZ.mpr ⟨gA.nd,gB.nd,λx hx y hy e=>dj x hx (e▸hy)⟩⟩⟩
theorem Bk.made{o id}{A' B':Tr}(b:Bk (H.put m o) H' m (bC k) (bF k A.addr B.addr id) A B A' B')(h:H m=none)(hc:Fv k (dB k A'.den B'.den) id)(ok:LK k A'.den B'.den)(dn:dB k A'.den B'.den=dB k A.den B.den)(qt:LK k A.den B.den->∀S,BB (H.put m o) S->BB H' S) :
 Mk k H A B m A' B' H' :=
 ⟨⟨⟨⟨id,by rw[b.eA.ad,b.eB.ad];exact b.own,hc⟩,b.rA,b.rB⟩,⟨b.oA,b.oB,ok⟩,by show(m::(fp A'++fp B')).Nodup;rw[b.eA.fp,b.eB.fp];exact b.nd⟩,dn,b.eA,b.eB,Ao.new' h b.fr,h,λz S r=>qt z S (r.new h)⟩
theorem IU{p q:Nat}(k:Q .none (H.put m (.inst c (bF .inter p q none)))):call (e+1) Bn [.ref m,.ref p,.ref q] [] (H.put m (.inst c [])) Q:=by
 show A4 (call e) [] LJ [(AA,.ref m),(A3,.ref p),(A8,.ref q)] _ (Ah Q)
 exact EN rfl (EN rfl k)
/-! or -/
theorem Oi(gA:AS H A)(gB:AS H B)(dj:∀x∈fp A,x∉fp B)(q:∀m H',Mk .uni H A B m A B H'->Q (.ref m) H'):EL (call (e+1)) .Union [.ref A.addr,.ref B.addr] [] H Q :=
 ED rfl λm h=>IU ⟨rfl,q m _ ((Bk.fresh (c:=.Union) gA gB dj h).made (k:=.uni) (id:=none) h trivial trivial rfl λU U r=>r)⟩
theorem Qd(gA:AS H A)(gB:AS H B)(dj:∀x∈fp A,x∉fp B){us:As}(hu:us=[]\/us=[(CG,.int 0)])(q:∀m H',Mk .dm H A B m A B H'->Q (.ref m) H'):EL (call (e+2)) .DMax [.ref A.addr,.ref B.addr] us H Q:=by
 refine ED rfl λm h=>?_;have fin:A4 (call (e+1)) [] JM [(AA,.ref m),(A3,.ref A.addr),(A8,.ref B.addr),(CG,.int 0)] (H.put m (.inst .DMax [])) (Ah λv H'=>v=.none/\Q (.ref m) H'):=by
  refine KK (AE _ _ _) ⟨rfl,IU ?_⟩;exact EN rfl ⟨rfl,q m _ ((Bk.fresh (c:=.DMax) gA gB dj h).made (k:=.dm) (id:=none) h trivial trivial rfl λU U r=>r)⟩
 rcases hu with rfl|rfl<;>exact fin
/-! and -/
theorem Fw(ih:Ih n d)(he:d<=e)(hA:sz UE<=n)(hB:sz UL<=n)(b:Bk UG H a .Inter (bF .inter UE.addr UL.addr none) UE UL A B)(q:∀b,(b=true<->Av A.den/\Av B.den)->Q (.bool b) H):call (e+1) DD [.ref a] [] H Q:=by
 refine(AC b.own (Ak (ih _ (b.eA.sz▸hA) e he) b.gA b.eA.ad λba hba=>?_):A4 (call e) [] E1 [(AA,.ref a)] H (Ah Q));cases ba with
 | false=>exact q false ⟨λz=>(nomatch z),λz=>absurd z.1 hba.neg⟩
 | true=>exact AC b.own (Ak (ih _ (b.eB.sz▸hB) e he) b.gB b.eB.ad λbb hbb=>q bb ⟨λz=>⟨hba.pos,hbb.mp z⟩,λz=>hbb.mpr z.2⟩)
theorem Pn(ih:Ih n d)(he:d<=e)(hA:sz UE<=n)(hB:sz UL<=n)(b:Bk UG H a .Inter (bF .inter UE.addr UL.addr none) UE UL A B)
 (q:∀A' B' H',Bk UG H' a .Inter (bF .inter UE.addr UL.addr none) UE UL A' B'->Al A'.den B'.den->E4 A.den B.den A'.den B'.den->(Al A.den B.den->∀S,BB H S->BB H' S)->Q .none H'):call (e+2) CX [.ref a] [] H Q:=by
 have cA:∀{H A B},Bk UG H a .Inter (bF .inter UE.addr UL.addr none) UE UL A B->GL (e+1) A:=λb=>ih _ (b.eA.sz▸hA) _ (Wf he);have cB:∀{H A B},Bk UG H a .Inter (bF .inter UE.addr UL.addr none) UE UL A B->GL (e+1) B:=λb=>ih _ (b.eB.sz▸hB) _ (Wf he);refine(AC b.own (Ak (cA b) b.gA b.eA.ad λba hba=>?_):A4 (call (e+1)) [] EF [(AA,.ref a)] H (Ah Q));cases ba with
 | false=>exact q _ _ _ b (λU U h U=>absurd h.act hba.neg) ⟨rfl,rfl⟩ λU U r=>r
 | true =>
  refine AC b.own (Ak (cB b) b.gB b.eB.ad λbb hbb=>?_);cases bb with
  | false=>exact q _ _ _ b (λU U U h=>absurd h.act hbb.neg) ⟨rfl,rfl⟩ λU U r=>r
  | true =>
   obtain⟨x,hx⟩:=hba.pos.hd b.oA.bd;refine CT (hbb.pos.hd b.oB.bd) λy hy=>?_;refine AC b.own (Bc (cA b) b.gA b.eA.ad hx λH1 w1=>?_);replace b:=b.qA w1;refine AC b.own (Bc (cB b) b.gB b.eB.ad hy λH2 w2=>?_);replace b:=b.qB w2;refine AO (λz=>?_) λz=>?_
   ·have ne:x≠y:=by simpa using z
    exact Ar b.own rfl rfl (KJ ih he hA hB b hx hy ne λv A' B' H' U b al e=>q A' B' H' b al e λal'=>absurd (al' x y hx hy) ne)
   ·have exy:x=y:=by simpa using z
    exact q _ _ _ b (λu v hu hv=>(hu.uniq hx).trans (exy.trans (hy.uniq hv))) ⟨rfl,rfl⟩ λU S r=>w2.rp S (w1.rp S r)
theorem MD(ih:Ih n d)(he:d<=e)(hA:sz A<=n)(hB:sz B<=n)(gA:AS H A)(gB:AS H B)(dj:∀x∈fp A,x∉fp B)(q:∀m A' B' H',Mk .inter H A B m A' B' H'->E4 A.den B.den A'.den B'.den->Q (.ref m) H'):EL (call (e+3)) .Inter [.ref A.addr,.ref B.addr] [] H Q:=by
 refine ED rfl λm h=>?_;refine(KK (AE _ _ _) ⟨rfl,IU ?_⟩:A4 (call (e+2)) [] II [(AA,.ref m),(A3,.ref A.addr),(A8,.ref B.addr)] (H.put m (.inst .Inter [])) (Ah λv H'=>v=.none/\Q (.ref m) H'));refine My rfl rfl (Pn ih he hA hB (Bk.fresh gA gB dj h) λA' B' H' b al dn qt=>⟨rfl,q m A' B' H' (b.made (k:=.inter) h trivial al dn.dI qt) dn⟩)
theorem int_id(ih:Ih n d)(he:d<=e)(hA:sz A<=n)(g:AS H (.bin .inter a A B))(ha:Av (Tr.bin .inter a A B).den)(q:∀x H',Qt H H' (fp (.bin .inter a A B))->Hd (Tr.bin .inter a A B).den x->Q (.int x) H'):call (e+1) HZ [.ref a] [] H Q:=by
 refine AU λGG hG=>?_;refine Aj (Bk.start g) λid hc b=>?_;refine FS (g.ok.2.2.hd b.oA.bd b.oB.bd (C3 ha).1 (C3 ha).2) λx hx hy hd=>?_;refine hG ?_;clear hG GG;exact(AC b.own (Bc (ih _ hA e he) b.gA rfl hx λH' w=>q x H' (w.mono λx m=>.tail _ (WR _ m)) hd):A4 (call e) [] Hg [(AA,.ref a)] H (Ah Q))
theorem Np(ih:Ih n d)(he:d<=e)(hA:sz UE<=n)(hB:sz UL<=n)(b:Bk UG H a c (bF k UE.addr UL.addr ido) UE UL A B)(q:∀m,0<=m->Q (.int m) H):call (e+1) BS [.ref a] [] H Q:=by
 have cA:=ih _ (b.eA.sz▸hA) e he;have cB:=ih _ (b.eB.sz▸hB) e he
 show A4 (call e) [] DH [(AA,.ref a)] H (Ah Q)
 have rest:∀m,0<=m->A4 (call e) [] (DH.drop 2) [(AA,.ref a),(x_q,.int m)] H (Ah Q):=λm hm=>by
  refine AC b.own (Ak cB b.gB b.eB.ad λbb U=>?_);cases bb with
  | false=>exact q m hm
  | true=>exact AC b.own (CV cB b.gB b.eB.ad λm' hm'=>q _ (Ze hm hm'))
 refine AC b.own (Ak cA b.gA b.eA.ad λba U=>?_);cases ba with
 | false=>exact rest 0 (Wq _)
 | true=>exact AC b.own (CV cA b.gA b.eA.ad λm' hm'=>rest _ (Ze (Wq _) hm'))
theorem M4(ih:Ih n d)(he:d<=e)(hA:sz A<=n)(hB:sz B<=n)(g:AS H (.bin .inter a A B))(ha:Av (Tr.bin .inter a A B).den)
 (q:∀v x A' B' H',CF v->Upd H (.bin .inter a A B) H' (.bin .inter a A' B')->LC A A'->LC B B'->Hd (Tr.bin .inter a A B).den x->(Tr.bin .inter a A' B').den=frm (Tr.bin .inter a A B).den (x+1)->Al A'.den B'.den->dR A'.den B'.den=frm (dR A.den B.den) (x+1)->Q v H'):call (e+2) Fn [.ref a] [] H Q:=by
 refine Aj (Bk.start g) λid hc b=>?_;have hid:id=none:=by
  cases id with
  | none=>rfl
  | some v=>cases v<;>first|exact zT hc;done|(cases hc.1;done)|exact hc.elim
 subst hid;refine FS (g.ok.2.2.hd b.oA.bd b.oB.bd (C3 ha).1 (C3 ha).2) λx hx hy hd=>?_;have he':=Wf he;refine(Ar b.own rfl rfl (Fw ih he hA hB b λba hba=>?_):A4 (call (e+1)) [] IK [(AA,.ref a)] H (Ah Q));refine(hba.mpr (C3 ha)).symm▸AC b.own (EQ (ih _ hA _ he') b.gA b.eA.ad hx λv A' H1 f u e1=>?_);replace b:=b.mA u;have dn:dI A'.den B.den=frm (dI A.den B.den) (x+1):=by rw[e1];exact dI_fl
 have rn:dR A'.den B.den=frm (dR A.den B.den) (x+1):=by rw[e1];exact dR_fl.1
 refine Ar b.own rfl rfl (Fw ih he hA hB b λbb hbb=>?_);cases bb with
 | false=>exact q .none x A' B H1 (.inl rfl) (b.upd (k:=.inter) (id:=none) trivial λu v hu hv=>nomatch hbb.mpr ⟨hu.act,hv.act⟩) b.eA b.eB hd dn (λu v hu hv=>nomatch hbb.mpr ⟨hu.act,hv.act⟩) rn
 | true =>
  obtain⟨x1,hx1⟩:=(hbb.mp rfl).1.hd b.oA.bd;have lt:x<x1:=by have:=(e1▸hx1:Hd (frm A.den (x+1)) x1).frm_ge;assumption
  refine Ar b.own rfl rfl (KJ ih he hA hB b hx1 hy (Int.ne_of_gt lt) λv' A2 B2 H2 f' b al e2=>?_);exact IT rfl f rfl (q v' x A2 B2 H2 f' (b.upd (k:=.inter) (id:=none) trivial al) b.eA b.eB hd (e2.dI.trans dn) al (e2.1.trans rn))
theorem M5{y:Int}(ih:Ih n d)(he:d<=e)(hA:sz A<=n)(hB:sz B<=n)(g:AS H (.bin .inter a A B))(ha:Av (Tr.bin .inter a A B).den)
 (q:∀v A' B' H',CF v->Upd H (.bin .inter a A B) H' (.bin .inter a A' B')->LC A A'->LC B B'->(Tr.bin .inter a A' B').den=frm (Tr.bin .inter a A B).den y->Eo (Tr.bin .inter a A B).den y H H'->Al A'.den B'.den->dR A'.den B'.den=frm (dR A.den B.den) y->Q v H'):call (e+2) D4 [.ref a,.int y] [] H Q:=by
 refine Aj (Bk.start g) λid hc b=>?_;have hid:id=none:=by
  cases id with
  | none=>rfl
  | some v=>cases v<;>first|exact zT hc;done|(cases hc.1;done)|exact hc.elim
 subst hid;have he':=Wf he;refine(Ar b.own rfl rfl (Fw ih he hA hB b λba hba=>?_):A4 (call (e+1)) [] F8 [(AA,.ref a),(Ag,.int y)] H (Ah Q));rw[hba.mpr (C3 ha)];refine AC b.own (CU (ih _ hA _ he') b.gA b.eA.ad (C3 ha).1 λv A' H1 f u e1 s1=>?_);replace b:=b.mA u;refine AC b.own (CU (ih _ hB _ he') b.gB b.eB.ad (C3 ha).2 λv' B' H2 f' u e2 s2=>?_);replace b:=b.mB u;refine FS (g.ok.2.2.hd g.bA.ok.bd g.bB.ok.bd (C3 ha).1 (C3 ha).2) λx hx hy hd=>?_;have st:Eo (dI A.den B.den) y H H2:=λz hz l S r=>s2 x hy (hz.uniq hd▸l) S (s1 x hx (hz.uniq hd▸l) S r);have dn:dI A'.den B'.den=frm (dI A.den B.den) y:=by rw[e1,e2];exact QX.symm
 have rn:dR A'.den B'.den=frm (dR A.den B.den) y:=by rw[e1,e2];exact Nm.symm
 refine Ar b.own rfl rfl (Fw ih he hA hB b λbb hbb=>?_);cases bb with
 | false=>exact q .none A' B' H2 (.inl rfl) (b.upd (k:=.inter) (id:=none) trivial λu v hu hv=>nomatch hbb.mpr ⟨hu.act,hv.act⟩) b.eA b.eB dn st (λu v hu hv=>nomatch hbb.mpr ⟨hu.act,hv.act⟩) rn
 | true =>
  obtain⟨x1,hx1⟩:=(hbb.mp rfl).1.hd b.oA.bd;obtain⟨y1,hy1⟩:=(hbb.mp rfl).2.hd b.oB.bd;have cA:=ih _ (b.eA.sz▸hA) _ he';have cB:=ih _ (b.eB.sz▸hB) _ he';refine AC b.own (Bc cA b.gA b.eA.ad hx1 λH3 w3=>?_);replace b:=b.qA w3;refine AC b.own (Bc cB b.gB b.eB.ad hy1 λH4 w4=>?_);replace b:=b.qB w4;refine AO (λz=>?_) λz=>?_
  ·have ne:x1≠y1:=by simpa using z
   refine Ar b.own rfl rfl (KJ ih he hA hB b hx1 hy1 ne λv' A2 B2 H2 f'' b al e2'=>?_);exact Et (Bu (Et (Oh rfl f rfl f' rfl (q v' A2 B2 H2 f'' (b.upd (k:=.inter) (id:=none) trivial al) b.eA b.eB (e2'.dI.trans dn) (λz hz l S r=>absurd ((hx1.uniq (by rw[e1,C1 hx (hz.uniq hd▸l)];exact hx)).trans (hy1.uniq (by rw[e2,C1 hy (hz.uniq hd▸l)];exact hy)).symm) ne) al (e2'.1.trans rn)))))
  ·have exy:x1=y1:=by simpa using z
   exact Bu (Et (Oh rfl f rfl f' rfl (q _ A' B' H4 (.inr rfl) (b.upd (k:=.inter) (id:=none) trivial λu v hu hv=>(hu.uniq hx1).trans (exy.trans (hy1.uniq hv))) b.eA b.eB dn (λz hz l S r=>w4.rp S (w3.rp S (st z hz l S r))) (λu v hu hv=>(hu.uniq hx1).trans (exy.trans (hy1.uniq hv))) rn)))
end
theorem Qe{A B:D}{z}:dN (frm A z) B=frm (dN A B) z:=by
 funext d;by_cases q:z<=d
 ·rw[BO q];unfold dN;rw[BO q]
 ·rw[EP q];unfold dN;rw[EP q];exact ite_self _
theorem Qf{A B:D}{z}:dM (frm A z) B=frm (dM A B) z:=by
 funext d;by_cases q:z<=d
 ·rw[BO q];unfold dM;rw[BO q]
 ·rw[EP q];unfold dM;rw[EP q];rfl
theorem Tm{A B:D}{x}(h:Hd A x):dN A (frm B x)=dN A B:=by
 have e:frm (dN A B) x=dN A B:=(EC (λU U=>rfl) λd q=>h.2 _ (HW.mp q).1).symm;rw[<- e,QZ,C1 h (Wq _)]
theorem Tn{A B:D}{x}(h:Hd A x):dM A (frm B x)=dM A B:=by
 have e:frm (dM A B) x=dM A B:=(EC (λU U=>rfl) λd q=>h.2 _ (HV.mp q)).symm;rw[<- e,QY,C1 h (Wq _)]
theorem dN_nx{A B:D}{x}(h:Hd A x)(k:B x≠none):dN (frm A (x+1)) B=dN A B:=by
 refine Qe.symm▸(EC (λU U=>rfl) λd q=>?_).symm;obtain⟨q1,q2⟩:=HW.mp q;have:=h.2 _ q1;have:d≠x:=λe=>k (e▸q2);omega
theorem RN.frm{A B:D}{y}(h:RN A B)(ha:Av A):RN (Mine.frm A y) (Mine.frm B y):=λU d q=>by
 obtain⟨q1,q2⟩:=B9.mp q;refine Aj (h ha d q2) λe l k=>?_;exact⟨e,l,B9.mpr ⟨Wc q1 l,k⟩⟩
theorem RN.nx{A B:D}{y}(h:RN A B)(ha:Av A)(k:∀d,B d≠none->y<=d):RN (Mine.frm A y) B:=λU d q=>by
 refine Aj (h ha d q) λe l k'=>?_;exact⟨e,l,B9.mpr ⟨Wc (k d q) l,k'⟩⟩
theorem Oj{A B:D}{x}(h:Hd A x)(k:∀d,B d≠none->x<d):Hd (dN A B) x :=
 ⟨HW.mpr ⟨h.1,WX λz=>ZD _ (k x z)⟩,λd q=>h.2 _ (HW.mp q).1⟩
theorem Ol{A B:D}{x}(h:Hd A x):Hd (dM A B) x:=⟨HV.mpr h.1,λd q=>h.2 _ (HV.mp q)⟩
theorem KL{A B:D}(h:Av (dN A B)):Av A:=let ⟨d,h⟩:=h;⟨d,(HW.mp h).1⟩
theorem KM{A B:D}:Av (dM A B)<->Av A:=⟨λ⟨d,h⟩=>⟨d,HV.mp h⟩,λ⟨d,h⟩=>⟨d,HV.mpr h⟩⟩
theorem Sa{A B:D}(b:Bd A)(h:∀x,Hd A x->∀d,B d≠none->x<d):Av (dN A B)<->Av A :=
 ⟨KL,λha=>let ⟨x,hx⟩:=KC b ha;(Oj hx (h x hx)).act⟩
theorem CE{k:BK}{A:D}{id}(hk:QU k=false)(h:Fv k A id):id=none:=by
 cases id with
 | none=>rfl
 | some v=>cases v<;>first|exact absurd (hk.symm.trans h) (by decide)|exact absurd (hk.symm.trans h.1) (by decide)|exact h.elim
section
variable{n d a m:Nat}{UE UL A B:Tr}{UG H':MH}
abbrev BN(UG H:MH)(a:Nat)(UE UL A B:Tr):Prop:=Bk UG H a .AndNot (bF .anot UE.addr UL.addr none) UE UL A B
abbrev BM(UG H:MH)(a:Nat)(UE UL A B:Tr):Prop:=Bk UG H a .AndMaybe (bF .maybe UE.addr UL.addr none) UE UL A B
/-! and not -/
theorem Sb(ih:Ih n d)(he:d<=e)(hA:sz UE<=n)(b:BN UG H a UE UL A B)(q:∀b,Ms A.den b->Q (.bool b) H):call (e+1) Cv [.ref a] [] H Q:=by
 exact(AC b.own (Ak (ih _ (b.eA.sz▸hA) e he) b.gA b.eA.ad q):A4 (call e) [] Ek [(AA,.ref a)] H (Ah Q))
theorem KN(ih:Ih n d)(he:d<=e)(hA:sz UE<=n)(hB:sz UL<=n)(b:BN UG H a UE UL A B)(pr:Av B.den->Av A.den)(rn:RN A.den B.den)
 (q:∀v A' B' H',CF v->BN UG H' a UE UL A' B'->LK .anot A'.den B'.den->dN A'.den B'.den=dN A.den B.den->(LK .anot A.den B.den->∀S,BB H S->BB H' S)->Q v H'):call (e+1) CY [.ref a] [] H Q:=by
 have cA:∀{H A B},BN UG H a UE UL A B->GL e A:=λb=>ih _ (b.eA.sz▸hA) e he;have cB:∀{H A B},BN UG H a UE UL A B->GL e B:=λb=>ih _ (b.eB.sz▸hB) e he;refine(AC b.own (AC b.own (Ak (cB b) b.gB b.eB.ad λbb hbb=>?_)):A4 (call e) [] Ce [(AA,.ref a)] H (Ah Q));cases bb with
 | false=>exact q .none _ _ _ (.inl rfl) b ⟨λx U d z=>absurd ⟨d,z⟩ hbb.neg,rn⟩ rfl λU U r=>r
 | true =>
  obtain⟨x,hx⟩:=(pr hbb.pos).hd b.oA.bd;refine CT (hbb.pos.hd b.oB.bd) λy hy=>?_;refine tB (JO (Bu (Et (Bc (cA b) b.gA b.eA.ad hx λH1 w1=>?_))));replace b:=b.qA w1;refine Bc (cB b) b.gB b.eB.ad hy λH2 w2=>?_;replace b:=b.qB w2;have w:∀S,BB H S->BB H2 S:=λS r=>w2.rp S (w1.rp S r);clear w1 w2;have loop:∀{B1 H1},BN UG H1 a UE UL A B1->(∀d,B1.den d≠none->x<=d)->RN A.den B1.den->dN A.den B1.den=dN A.den B.den->(LK .anot A.den B.den->Hd B1.den y/\∀S,BB H S->BB H1 S) ->
   A4 (call e) [] (Ce.drop 6) [(AA,.ref a),(JH,.ref UE.addr),(Hw,.ref UL.addr),(Dq,.int x),(Hr,.bool false)] H1 (Ah Q):=λ{B1 H1} b ge rn hd st=>by
   refine⟨λm ρ H'=>∃A' B' x r t,m=(1000-x).toNat/\BN UG H' a UE UL A' B'/\Hd A'.den x/\(∀d,B'.den d≠none->x<=d)/\RN A'.den B'.den/\dN A'.den B'.den=dN A.den B.den/\(LK .anot A.den B.den->(∀d,B'.den d≠none->x<d)/\∀S,BB H S->BB H' S)/\CF r /\
    ρ=(AA,.ref a)::(JH,.ref UE.addr)::(Hw,.ref UL.addr)::(Dq,.int x)::(Hr,r)::t,_,⟨A,B1,x,.bool false,[],rfl,b,hx,ge,rn,hd,λo=>⟨λd z=>Xm (o.1 x hx y hy.1) ((st o).1.2 d z),(st o).2⟩,.inr rfl,rfl⟩,?_⟩
   clear hx hy b ge rn hd st pr w;rintro m ρ H' ⟨A',B',x,r,t,rfl,b,hx,ge,rn,hd,st,hr,rfl⟩;refine Ak (cA b) b.gA b.eA.ad λba hba=>?_;refine(hba.mpr hx.act).symm▸Ak (cB b) b.gB b.eB.ad λbb hbb=>?_;cases bb with
   | false=>exact q r _ _ _ hr b ⟨λx U d z=>absurd ⟨d,z⟩ hbb.neg,rn⟩ hd λo=>(st o).2
   | true =>
    refine CT (hbb.pos.hd b.oB.bd) λy hy=>?_;refine tB (ifT (Bc (cB b) b.gB b.eB.ad hy λH1 w=>?_));replace b:=b.qB w;refine AO (λz=>?_) λz=>?_
    ·have exy:x=y:=by simpa using z
     subst exy;have no:¬ LK .anot A.den B.den:=λo=>ZD _ ((st o).1 x hy.1);refine EQ (cA b) b.gA b.eA.ad hx λv A1 H2 f u e1=>?_;replace b:=b.mA u;have hd1:dN A1.den B'.den=dN A.den B.den:=by rw[e1,dN_nx hx hy.1];exact hd
     refine Ak (cA b) b.gA b.eA.ad λba hba=>?_;cases ba with
     | false=>exact q r _ _ _ hr b ⟨λx h=>absurd h.act hba.neg,λh=>absurd h hba.neg⟩ hd1 λo=>absurd o no
     | true =>
      refine CT (hba.pos.hd b.oA.bd) λx1 hx1=>?_;have lt:x<x1:=by have:=(e1▸hx1:Hd (frm A'.den (x+1)) x1).frm_ge;assumption
      have lx1:=b.oA.bd _ hx1.1;refine tB (JO (Bu (Et (Qc rfl hr Ad ?_))));refine Bc (cA b) b.gA b.eA.ad hx1 λH3 w=>?_;replace b:=b.qA w;refine CU (cB b) b.gB b.eB.ad hy.act λv' B1 H4 f' u e2 U=>?_;replace b:=b.mB u;have eA:frm A'.den x1=A1.den:=by
       have z:=C1 hx1 (Wq x1);rw[e1,OY (by assumption)] at z
       rw[e1];exact z
      exact ZO _ ⟨by omega,A1,B1,x1,v,_,rfl,b,hx1,λd z=>by rw[e2] at z;exact(B9.mp z).1,by exact e2.symm▸eA▸rn.frm hx.act,by rw[e2,Tm hx1];exact hd1,λo=>absurd o no,f,rfl⟩
    ·have ne:x≠y:=by simpa using z
     have lt:x<y:=by have:=ge y hy.1;omega
     exact q r _ _ _ hr b ⟨λx' hx' d z=>by rw[hx'.uniq hx];exact Xm lt (hy.2 d z),rn⟩ hd λo S h=>w.rp S ((st o).2 S h)
  refine AO (λz=>?_) λz=>?_
  ·have lt:=of_decide_eq_true z;refine CU (cB b) b.gB b.eB.ad hbb.pos λv B1 H1 f u e1 U=>?_;refine loop (b.mB u) (λd z=>by rw[e1] at z;exact(B9.mp z).1) (λha d z=>by rw[e1] at z;exact rn ha d (B9.mp z).2) (by rw[e1,Tm hx]) λo=>?_
   have:=o.1 x hx y hy.1;omega
  ·exact loop b (λd z'=>Wc (Yh.mp (of_decide_eq_false z)) (hy.2 d z')) rn rfl λo=>⟨hy,w⟩
theorem not_id(ih:Ih n d)(he:d<=e)(hA:sz A<=n)(g:AS H (.bin .anot a A B))(ha:Av (Tr.bin .anot a A B).den)(q:∀x H',Qt H H' (fp (.bin .anot a A B))->Hd (Tr.bin .anot a A B).den x->Q (.int x) H'):call (e+1) GO [.ref a] [] H Q:=by
 refine Aj (Bk.start g) λid hc b=>?_;refine CT ((KL ha).hd b.oA.bd) λx hx=>?_;exact(AC b.own (Bc (ih _ hA e he) b.gA rfl hx λH' w=>q x H' (w.mono λx m=>.tail _ (WR _ m)) (Oj hx (g.ok.2.2.1 x hx))):A4 (call e) [] JN [(AA,.ref a)] H (Ah Q))
theorem not_mq(ih:Ih n d)(he:d<=e)(hA:sz A<=n)(g:AS H (.bin .anot a A B))(q:∀m,0<=m->Q (.int m) H):call (e+1) CK [.ref a] [] H Q:=by
 refine Aj (Bk.start g) λid hc b=>?_;exact(AC b.own (CV (ih _ hA e he) b.gA rfl q):A4 (call e) [] Dt [(AA,.ref a)] H (Ah Q))
theorem Qg(ih:Ih n d)(he:d<=e)(hA:sz A<=n)(hB:sz B<=n)(g:AS H (.bin .anot a A B))(ha:Av (Tr.bin .anot a A B).den)
 (q:∀v x T' H',CF v->Upd H (.bin .anot a A B) H' T'->Hd (Tr.bin .anot a A B).den x->T'.den=frm (Tr.bin .anot a A B).den (x+1)->Q v H'):call (e+2) FE [.ref a] [] H Q:=by
 refine Aj (Bk.start g) λid hc b=>?_;cases CE rfl hc
 replace b:BN H H a A B A B:=b;refine CT ((KL ha).hd b.oA.bd) λx hx=>?_;have ok:=g.ok.2.2;have hd:=Oj hx (ok.1 x hx);have he':=Wf he;refine(AC b.own (Ak (ih _ hA _ he') b.gA b.eA.ad λba hba=>?_):A4 (call (e+1)) [] FH [(AA,.ref a)] H (Ah Q));refine(hba.mpr hx.act).symm▸tB (JO (Bu (Et (AC b.own (EQ (ih _ hA _ he') b.gA b.eA.ad hx λv A' H1 f u e1=>?_)))));replace b:=b.mA u;have dn:dN A'.den B.den=frm (dN A.den B.den) (x+1):=by rw[e1,Qe]
 have rn:RN A'.den B.den:=by rw[e1];exact ok.2.nx hx.act λd q=>ok.1 x hx d q
 refine AC b.own (Ak (ih _ (b.eA.sz▸hA) _ he') b.gA b.eA.ad λba hba=>?_);have cases0:(∀x,Hd A'.den x->∀d,B.den d≠none->x<d)->A4 (call (e+1)) [] (FH.drop 4) [(AA,.ref a),(Jv,v),(Md,.bool false)] H1 (Ah Q):=λo =>
  IT rfl f rfl (q (.bool false) x _ H1 (.inr rfl) (b.upd (k:=.anot) (id:=none) trivial ⟨o,rn⟩) hd dn)
 cases ba with
 | false=>exact cases0 λx h=>absurd h.act hba.neg
 | true =>
  refine AC b.own (Ak (ih _ hB _ he') b.gB b.eB.ad λbb hbb=>?_);cases bb with
  | false=>exact cases0 λx U d h=>absurd ⟨d,h⟩ hbb.neg
  | true=>exact Ar b.own rfl rfl (KN ih he hA hB b (λU=>hba.pos) rn λv' A2 B2 H2 f' b ok2 e2 U=>Et (Bu (Et (IT rfl f rfl (q v' x _ H2 f' (b.upd (k:=.anot) (id:=none) trivial ok2) hd (e2.trans dn))))))
theorem Qh{y:Int}(ih:Ih n d)(he:d<=e)(hA:sz A<=n)(hB:sz B<=n)(g:AS H (.bin .anot a A B))(ha:Av (Tr.bin .anot a A B).den)
 (q:∀v T' H',CF v->Upd H (.bin .anot a A B) H' T'->T'.den=frm (Tr.bin .anot a A B).den y->Eo (Tr.bin .anot a A B).den y H H'->Q v H'):call (e+2) Dc [.ref a,.int y] [] H Q:=by
 refine Aj (Bk.start g) λid hc b=>?_;cases CE rfl hc
 replace b:BN H H a A B A B:=b;refine CT ((KL ha).hd b.oA.bd) λx hx=>?_;have ok:=g.ok.2.2;have hd:=Oj hx (ok.1 x hx);have he':=Wf he;refine(AC b.own (Ak (ih _ hA _ he') b.gA b.eA.ad λba hba=>?_):A4 (call (e+1)) [] FQ [(AA,.ref a),(Ag,.int y)] H (Ah Q));refine(hba.mpr hx.act).symm▸tB (JO (Bu (Et (AC b.own (Bc (ih _ hA _ he') b.gA b.eA.ad hx λH0 w=>?_)))));replace b:=b.qA w;refine AO (λz=>?_) λz=>?_
 ·have lt:=of_decide_eq_true z;exact q .none _ H0 (.inl rfl) (b.upd (k:=.anot) (id:=none) trivial ok) (C1 hd (XO lt)).symm λU U U S r=>w.rp S r
 refine AC b.own (CU (ih _ hA _ he') b.gA b.eA.ad hx.act λv A' H1 f u e1 s1=>?_);replace b:=b.mA u;refine AC b.own (Ak (ih _ hB _ he') b.gB b.eB.ad λbb hbb=>?_);cases bb with
 | false =>
  refine q .none _ H1 (.inl rfl) (b.upd (k:=.anot) (id:=none) trivial ⟨λx U d h=>absurd ⟨d,h⟩ hbb.neg,λU d h=>absurd ⟨d,h⟩ hbb.neg⟩) (by show dN A'.den B.den=_;rw[e1,Qe];rfl) λz hz l S r=>?_
  exact s1 x hx (hz.uniq hd▸l) S (w.rp S r)
 | true =>
  refine AC b.own (CU (ih _ hB _ he') b.gB b.eB.ad hbb.pos λv' B' H2 f' u e2 s2=>?_);replace b:=b.mB u;refine Ar b.own rfl rfl (KN ih he hA hB b (λ⟨d,h⟩=>?_) (by rw[e1,e2];exact ok.2.frm hx.act) λv' A2 B2 H3 f' b ok2 e3 st=>?_)
  ·rw[e2] at h;obtain⟨l,h⟩:=B9.mp h;refine Aj (ok.2 hx.act d h) λe l' h'=>?_;exact⟨e,by rw[e1];exact B9.mpr ⟨Wc l l',h'⟩⟩
  ·refine q .none _ H3 (.inl rfl) (b.upd (k:=.anot) (id:=none) trivial ok2) (by show dN A2.den B2.den=_;rw[e3,e1,e2];exact QZ.symm) λz hz l S r=>?_
   have l:y<=x:=hz.uniq hd▸l;have eA:A'.den=A.den:=by exact e1.trans (C1 hx l)
   obtain⟨y',hy⟩:=hbb.pos.hd g.bB.ok.bd;have ly:y<=y':=Wc l (XO (ok.1 x hx y' hy.1));have eB:B'.den=B.den:=by rw[e2,C1 hy ly]
   exact st (by rw[eA,eB];exact ok) S (s2 y' hy ly S (s1 x hx l S (w.rp S r)))
theorem Po(ih:Ih n d)(he:d<=e)(hA:sz UE<=n)(hB:sz UL<=n)(b:BN UG H a UE UL A B)(pr:∀x,Hd A.den x->∀d,B.den d≠none->x<=d)(rn:RN A.den B.den)
 (q:∀A' B' H',BN UG H' a UE UL A' B'->LK .anot A'.den B'.den->dN A'.den B'.den=dN A.den B.den->(LK .anot A.den B.den->∀S,BB H S->BB H' S)->Q .none H'):call (e+2) CJ [.ref a] [] H Q:=by
 have cA:∀{H A B},BN UG H a UE UL A B->GL (e+1) A:=λb=>ih _ (b.eA.sz▸hA) _ (Wf he);have cB:∀{H A B},BN UG H a UE UL A B->GL (e+1) B:=λb=>ih _ (b.eB.sz▸hB) _ (Wf he);refine(AC b.own (Ak (cA b) b.gA b.eA.ad λba hba=>?_):A4 (call (e+1)) [] Ds [(AA,.ref a)] H (Ah Q));cases ba with
 | false=>exact q _ _ _ b ⟨λx h=>absurd h.act hba.neg,rn⟩ rfl λU U r=>r
 | true =>
  refine AC b.own (Ak (cB b) b.gB b.eB.ad λbb hbb=>?_);cases bb with
  | false=>exact q _ _ _ b ⟨λx U d h=>absurd ⟨d,h⟩ hbb.neg,rn⟩ rfl λU U r=>r
  | true =>
   obtain⟨x,hx⟩:=hba.pos.hd b.oA.bd;refine CT (hbb.pos.hd b.oB.bd) λy hy=>?_;refine AC b.own (Bc (cA b) b.gA b.eA.ad hx λH1 w1=>?_);replace b:=b.qA w1;refine AC b.own (Bc (cB b) b.gB b.eB.ad hy λH2 w2=>?_);replace b:=b.qB w2;refine AO (λz=>?_) λz=>?_
   ·have exy:x=y:=by simpa using z
    subst exy;exact Ar b.own rfl rfl (KN ih he hA hB b (λU=>hba.pos) rn λv A' B' H' U b ok e U=>q A' B' H' b ok e λo=>absurd (o.1 x hx x hy.1) (ZD _))
   ·have ne:x≠y:=by simpa using z
    have lt:x<y:=by have:=pr x hx y hy.1;omega
    exact q _ _ _ b ⟨λu hu d z=>by exact(hu.uniq hx).symm▸Xm lt (hy.2 d z),rn⟩ rfl λU S r=>w2.rp S (w1.rp S r)
theorem Om(ih:Ih n d)(he:d<=e)(hA:sz A<=n)(hB:sz B<=n)(gA:AS H A)(gB:AS H B)(dj:∀x∈fp A,x∉fp B)(pr:∀x,Hd A.den x->∀d,B.den d≠none->x<=d)(rn:RN A.den B.den)(q:∀m A' B' H',Mk .anot H A B m A' B' H'->Q (.ref m) H'):EL (call (e+3)) .AndNot [.ref A.addr,.ref B.addr] [] H Q:=by
 refine ED rfl λm h=>?_;refine(KK (AE _ _ _) ⟨rfl,IU ?_⟩:A4 (call (e+2)) [] HQ [(AA,.ref m),(A3,.ref A.addr),(A8,.ref B.addr)] (H.put m (.inst .AndNot [])) (Ah λv H'=>v=.none/\Q (.ref m) H'));exact My rfl rfl (Po ih he hA hB (Bk.fresh gA gB dj h) pr rn λA' B' H' b ok dn qt=>⟨rfl,q m A' B' H' (b.made (k:=.anot) h trivial ok dn qt)⟩)
/-! and maybe -/
theorem mb_act(ih:Ih n d)(he:d<=e)(hA:sz UE<=n)(b:BM UG H a UE UL A B)(q:∀b,Ms A.den b->Q (.bool b) H):call (e+1) CM [.ref a] [] H Q:=by
 exact(AC b.own (Ak (ih _ (b.eA.sz▸hA) e he) b.gA b.eA.ad q):A4 (call e) [] Du [(AA,.ref a)] H (Ah Q))
theorem mb_id(ih:Ih n d)(he:d<=e)(hA:sz A<=n)(g:AS H (.bin .maybe a A B))(ha:Av (Tr.bin .maybe a A B).den)(q:∀x H',Qt H H' (fp (.bin .maybe a A B))->Hd (Tr.bin .maybe a A B).den x->Q (.int x) H'):call (e+1) FF [.ref a] [] H Q:=by
 refine Aj (Bk.start g) λid hc b=>?_;refine CT ((KM.mp ha).hd b.oA.bd) λx hx=>?_;exact(AC b.own (Bc (ih _ hA e he) b.gA rfl hx λH' w=>q x H' (w.mono λx m=>.tail _ (WR _ m)) (Ol hx)):A4 (call e) [] HR [(AA,.ref a)] H (Ah Q))
theorem Sc(ih:Ih n d)(he:d<=e)(hA:sz A<=n)(hB:sz B<=n)(g:AS H (.bin .maybe a A B))(ha:Av (Tr.bin .maybe a A B).den)
 (q:∀v x T' H',CF v->Upd H (.bin .maybe a A B) H' T'->Hd (Tr.bin .maybe a A B).den x->T'.den=frm (Tr.bin .maybe a A B).den (x+1)->Q v H'):call (e+1) D5 [.ref a] [] H Q:=by
 refine Aj (Bk.start g) λid hc b=>?_;cases CE rfl hc
 replace b:BM H H a A B A B:=b;refine CT ((KM.mp ha).hd b.oA.bd) λx hx=>?_;have ok:=g.ok.2.2;refine(AC b.own (Ak (ih _ hA _ he) b.gA b.eA.ad λba hba=>?_):A4 (call e) [] EB [(AA,.ref a)] H (Ah Q));refine(hba.mpr hx.act).symm▸tB (JO (Bu (Et (AC b.own (EQ (ih _ hA _ he) b.gA b.eA.ad hx λv A' H1 f u e1=>?_)))));replace b:=b.mA u;have dn:dM A'.den B.den=frm (dM A.den B.den) (x+1):=by rw[e1,Qf]
 have fin:∀{v' B' H2},CF v'->BM H H2 a A B A' B'->LK .maybe A'.den B'.den->dM A'.den B'.den=dM A'.den B.den->A4 (call e) [] (EB.drop 4) [(AA,.ref a),(Jv,v),(Ng,v')] H2 (Ah Q):=λ{v' B' H2} f' b o e2 =>
  IT rfl f rfl (q v' x _ H2 f' (b.upd (k:=.maybe) (id:=none) trivial o) (Ol hx) (e2.trans dn))
 refine AC b.own (Ak (ih _ (b.eA.sz▸hA) _ he) b.gA b.eA.ad λba hba=>?_);cases ba with
 | false=>exact fin (.inr rfl) b ⟨λU U h U=>absurd h.act hba.neg,λh=>absurd h hba.neg⟩ rfl
 | true =>
  obtain⟨x1,hx1⟩:=hba.pos.hd b.oA.bd;refine AC b.own (Ak (ih _ hB _ he) b.gB b.eB.ad λbb hbb=>?_);cases bb with
  | false=>exact fin (.inr rfl) b ⟨λU U U h=>absurd h.act hbb.neg,λU d h=>absurd ⟨d,h⟩ hbb.neg⟩ rfl
  | true =>
   refine AC b.own (b.rB.m2 hbb.pos rfl (AC b.own (Bc (ih _ (b.eA.sz▸hA) _ he) b.gA b.eA.ad hx1 λH2 w=>?_)));replace b:=b.qA w;refine(ih _ hB _ he).skip b.gB hbb.pos λv' B' H3 f' u e2 U=>?_;replace b:=b.mB u;refine Et (Bu (Et (fin f' b ⟨λu w hu hw=>?_,λU d h=>?_⟩ (by rw[e2,Tn hx1]))))
   ·rw[hu.uniq hx1];exact(e2▸hw:Hd (frm B.den x1) w).frm_ge
   ·rw[e2] at h;refine Az (B9.mp h) λh1 h2=>?_;refine e1.symm▸?_;have:=(e1▸hx1:Hd (frm A.den (x+1)) x1).frm_ge;exact B9.mpr ⟨by omega,ok.2 hx.act d h2⟩
theorem Sd{y:Int}(ih:Ih n d)(he:d<=e)(hA:sz A<=n)(hB:sz B<=n)(g:AS H (.bin .maybe a A B))(ha:Av (Tr.bin .maybe a A B).den)
 (q:∀v T' H',CF v->Upd H (.bin .maybe a A B) H' T'->T'.den=frm (Tr.bin .maybe a A B).den y->Eo (Tr.bin .maybe a A B).den y H H'->Q v H'):call (e+1) Cw [.ref a,.int y] [] H Q:=by
 refine Aj (Bk.start g) λid hc b=>?_;cases CE rfl hc
 replace b:BM H H a A B A B:=b;refine CT ((KM.mp ha).hd b.oA.bd) λx hx=>?_;have ok:=g.ok.2.2;refine(AC b.own (Ak (ih _ hA _ he) b.gA b.eA.ad λba hba=>?_):A4 (call e) [] Cz [(AA,.ref a),(Ag,.int y)] H (Ah Q));rw[hba.mpr hx.act];refine tB (JO (Bu (Et (AC b.own (CU (ih _ hA _ he) b.gA b.eA.ad hx.act λv A' H1 f u e1 s1=>?_)))));replace b:=b.mA u;have st:Eo (dM A.den B.den) y H H1:=λz hz l S r=>s1 x hx (hz.uniq (Ol hx)▸l) S r;have fin:∀{v' B' H2},CF v'->BM H H2 a A B A' B'->LK .maybe A'.den B'.den->dM A'.den B'.den=frm (dM A.den B.den) y->Eo (dM A.den B.den) y H H2->A4 (call e) [] (Cz.drop 4) [(AA,.ref a),(Ag,.int y),(Ik,v),(Hv,v')] H2 (Ah Q):=λ{v' B' H2} f' b o e2 st =>
  IT rfl f rfl (q v' _ H2 f' (b.upd (k:=.maybe) (id:=none) trivial o) e2 st)
 refine AC b.own (Ak (ih _ (b.eA.sz▸hA) _ he) b.gA b.eA.ad λba hba=>?_);cases ba with
 | false=>exact fin (.inr rfl) b ⟨λU U h U=>absurd h.act hba.neg,λh=>absurd h hba.neg⟩ (by rw[e1,Qf]) st
 | true =>
  refine AC b.own (Ak (ih _ hB _ he) b.gB b.eB.ad λbb hbb=>?_);cases bb with
  | false=>exact fin (.inr rfl) b ⟨λU U U h=>absurd h.act hbb.neg,λU d h=>absurd ⟨d,h⟩ hbb.neg⟩ (by rw[e1,Qf]) st
  | true =>
   refine AC b.own (CU (ih _ hB _ he) b.gB b.eB.ad hbb.pos λv' B' H3 f' u e2 s2=>?_);replace b:=b.mB u;have sub:∀d,B'.den d≠none->A'.den d≠none:=λd h=>by
    rw[e2] at h;refine Az (B9.mp h) λh1 h2=>?_;rw[e1];exact B9.mpr ⟨h1,ok.2 hx.act d h2⟩
   refine Et (Bu (Et (fin f' b ⟨λu w hu hw=>hu.2 _ (sub _ hw.1),λU=>sub⟩ (by rw[e1,e2,QY]) λz hz l S r=>?_)))
   have l:y<=x:=hz.uniq (Ol hx)▸l;refine CT (hbb.pos.hd g.bB.ok.bd) λy' hy=>?_;exact s2 y' hy (Wc l (ok.1 x y' hx hy)) S (s1 x hx l S r)
theorem Qi(ih:Ih n d)(he:d<=e)(hA:sz UE<=n)(hB:sz UL<=n)(b:BM UG H a UE UL A B)(sub:Av A.den->∀d,B.den d≠none->A.den d≠none)
 (q:∀A' B' H',BM UG H' a UE UL A' B'->LK .maybe A'.den B'.den->dM A'.den B'.den=dM A.den B.den->(LK .maybe A.den B.den->∀S,BB H S->BB H' S)->Q .none H'):call (e+1) CZ [.ref a] [] H Q:=by
 have cA:∀{H A B},BM UG H a UE UL A B->GL e A:=λb=>ih _ (b.eA.sz▸hA) _ he;have cB:∀{H A B},BM UG H a UE UL A B->GL e B:=λb=>ih _ (b.eB.sz▸hB) _ he;refine(AC b.own (AC b.own (Ak (cA b) b.gA b.eA.ad λba hba=>?_)):A4 (call e) [] EG [(AA,.ref a)] H (Ah Q));cases ba with
 | false=>exact q _ _ _ b ⟨λU U h U=>absurd h.act hba.neg,sub⟩ rfl λU U r=>r
 | true =>
  refine Ak (cB b) b.gB b.eB.ad λbb hbb=>?_;cases bb with
  | false=>exact q _ _ _ b ⟨λU U U h=>absurd h.act hbb.neg,sub⟩ rfl λU U r=>r
  | true =>
   obtain⟨x,hx⟩:=hba.pos.hd b.oA.bd;refine CT (hbb.pos.hd b.oB.bd) λy hy=>?_;refine tB (ifT (Bc (cA b) b.gA b.eA.ad hx λH1 w1=>?_));replace b:=b.qA w1;refine Bc (cB b) b.gB b.eB.ad hy λH2 w2=>?_;replace b:=b.qB w2;refine AO (λz=>?_) λz=>?_
   ·have mB:∀{m K},(HP m [Ag,BC,AV]&&!HP m C2)=true->K (Hl B m)->BL H2 (.ref UL.addr) m K:=λh k=>by exact b.eB.ad▸b.rB.m2 hbb.pos h k
    refine mB rfl (Bc (cA b) b.gA b.eA.ad hx λH3 w3=>?_);replace b:=b.qA w3;have:=(cB b).skip (y:=x) b.gB hbb.pos (Q:=λU H'=>Q .none H') λv B' H4 f u e2 s2=>by
     replace b:=b.mB u;refine q _ _ _ b ⟨λu w hu hw=>?_,λh d k=>?_⟩ (by rw[e2,Tn hx]) λo S r=>?_
     ·rw[hu.uniq hx];exact(e2▸hw:Hd (frm B.den x) w).frm_ge
     ·rw[e2] at k;exact sub h d (B9.mp k).2
     ·exact s2 y hy (o.1 x y hx hy) S (w3.rp S (w2.rp S (w1.rp S r)))
    rw[b.eB.ad] at this;exact this
   ·have exy:x=y:=by simpa using z
    exact q _ _ _ b ⟨λu w hu hw=>by rw[hu.uniq hx,hw.uniq hy,exy];exact Wq _,sub⟩ rfl λU S r=>w2.rp S (w1.rp S r)
theorem Qj(ih:Ih n d)(he:d<=e)(hA:sz A<=n)(hB:sz B<=n)(gA:AS H A)(gB:AS H B)(dj:∀x∈fp A,x∉fp B)(sub:Av A.den->∀d,B.den d≠none->A.den d≠none)(q:∀m A' B' H',Mk .maybe H A B m A' B' H'->Q (.ref m) H'):EL (call (e+2)) .AndMaybe [.ref A.addr,.ref B.addr] [] H Q:=by
 refine ED rfl λm h=>?_;refine(IU ?_:A4 (call (e+1)) [] F9 [(AA,.ref m),(A3,.ref A.addr),(A8,.ref B.addr)] (H.put m (.inst .AndMaybe [])) (Ah λv H'=>v=.none/\Q (.ref m) H'));exact My rfl rfl (Qi ih he hA hB (Bk.fresh gA gB dj h) sub λA' B' H' b ok dn qt=>⟨rfl,q m A' B' H' (b.made (k:=.maybe) h trivial ok dn qt)⟩)
end
end
theorem Se{α:Type}{p q:Prop}[Decidable p][Decidable q]{a b:α}(h:p<->q):(if p then a else b)=if q then a else b:=by
 by_cases k:p
 ·rw[if_pos k,if_pos (h.mp k)]
 ·rw[if_neg k,if_neg λz=>k (h.mpr z)]
theorem Qk{A:D}{s x}:Hd (dC s A) x<->Hd A x:=⟨λh=>⟨KG.mp h.1,λd q=>h.2 d (KG.mpr q)⟩,λh=>⟨KG.mpr h.1,λd q=>h.2 d (KG.mp q)⟩⟩
theorem ME{A:D}{s}:Av (dC s A)<->Av A:=⟨λ⟨d,h⟩=>⟨d,KG.mp h⟩,λ⟨d,h⟩=>⟨d,KG.mpr h⟩⟩
theorem On{A:D}{xs ex bo x}(h:Hd A x)(k:keep xs ex x=true):Hd (dF xs ex bo A) x:=⟨IQ.mpr ⟨h.1,k⟩,λd q=>h.2 _ (IQ.mp q).1⟩
theorem Jj{A:D}{xs ex bo}(h:Av (dF xs ex bo A)):Av A:=let ⟨d,h⟩:=h;⟨d,(IQ.mp h).1⟩
theorem dF_act{A:D}{xs ex bo}(b:Bd A)(k:∀x,Hd A x->keep xs ex x=true):Av (dF xs ex bo A)<->Av A :=
 ⟨Jj,λh=>let ⟨x,hx⟩:=KC b h;(On hx (k x hx)).act⟩
theorem dF_nx{A:D}{xs ex bo x}(h:Hd A x)(k:keep xs ex x=false):dF xs ex bo (frm A (x+1))=dF xs ex bo A:=by
 refine Nn▸(EC (λU U=>rfl) λd q=>?_).symm;obtain⟨q1,q2⟩:=IQ.mp q;have:=h.2 _ q1;have:d≠x:=λe=>absurd ((e▸q2:keep xs ex x=true).symm.trans k) (by decide)
 omega
theorem Ql{A:D}{lim wt id y}(h:id<=y):dV lim wt y A=frm (dV lim wt id A) y:=by
 refine EC (λd q=>?_) λd q=>(HX.mp q).1;have e:(y<=d/\d<lim/\A d=none)<->(id<=d/\d<lim/\A d=none):=⟨λz=>⟨Wc h q,z.2⟩,λz=>⟨q,z.2⟩⟩;exact Se e
theorem Oo{A:D}{lim wt id}(h:id<lim)(k:A id=none):Hd (dV lim wt id A) id:=⟨HX.mpr ⟨Wq _,h,k⟩,λd q=>(HX.mp q).1⟩
theorem MF{A:D}{lim wt id}(h:Av (dV lim wt id A)):id<lim:=let ⟨d,h⟩:=h;have z:=HX.mp h;YU z.1 z.2.1
theorem Op{A:D}{lim wt id}:dV lim wt id (frm A id)=dV lim wt id A:=by
 funext d;refine Se ⟨λz=>⟨z.1,z.2.1,?_⟩,λz=>⟨z.1,z.2.1,?_⟩⟩
 ·exact(BO z.1).symm.trans z.2.2
 ·exact(BO z.1).trans z.2.2
theorem dV_nx{A:D}{lim wt id}(k:A id≠none):dV lim wt (id+1) (frm A (id+1))=dV lim wt id A:=by
 rw[Op]
 funext d;refine Se ⟨λz=>⟨by omega,z.2⟩,λz=>⟨?_,z.2⟩⟩
 have:d≠id:=λe=>k (e▸z.2.2);omega
theorem I6{e m p:Nat}{c:Cl}{H:MH}{Q:V->MH->Prop}{vs us}(hv:(vs=[.ref m,.ref p]/\us=[]) )(k:Q .none (H.put m (.inst c [(AJ,.ref p),(Aw,.int 1)]))):call (e+1) BP vs us (H.put m (.inst c [])) Q:=by
 obtain⟨rfl,rfl⟩:=hv
 show A4 (call e) [] Gc [(AA,.ref m),(AJ,.ref p),(Aw,.int 1)] _ (Ah Q)
 exact EN rfl (EN rfl k)
section
variable{n d e a m p i:Nat}{UE UL A B:Tr}{UG H H':MH}{Q:V->MH->Prop}{c:Cl}{xs:As}
/-! what all wrappers share -/
theorem IV{nm:Nat}{K:V->Prop}(own:H a=some (.inst c xs))(hp:AM AJ xs=some (.ref p))(k:K (.ref p)):Mf H (.ref a) AJ K :=
 AC own (by exact hp.symm▸k)
/-! filter -/
abbrev UF(UG H:MH)(a sa:Nat)(xs:List Int)(ex:Bool)(bo:Int)(UE A:Tr):Prop:=Uk UG H a .Filter (uF UE.addr (.filt sa xs ex bo)) UE A
variable{sa:Nat}{ys:List Int}{ex:Bool}{bo:Int}
theorem Oq{x:Int}{K:Bool->Prop}(hl:ys.length<=1000)(h:H sa=some (.set ys))(k:K (ys.contains x)):∃o b,H sa=some o/\Iq x o b/\K b:=⟨_,_,h,.set hl,k⟩
theorem I7(ih:Ih n d)(he:d<=e)(hA:sz UE<=n)(b:UF UG H a sa ys ex bo UE A)(hs:H sa=some (.set ys))(hl:ys.length<=1000)
 (q:∀v A' H',CF v->UF UG H' a sa ys ex bo UE A'->H' sa=some (.set ys)->(∀x,Hd A'.den x->keep ys ex x=true)->dF ys ex bo A'.den=dF ys ex bo A.den->((∀x,Hd A.den x->keep ys ex x=true)->A'.den=A.den/\∀S,BB H S->BB H' S)->Q v H'):call (e+1) Cb [.ref a] [] H Q:=by
 have cA:∀{H A},UF UG H a sa ys ex bo UE A->GL e A:=λb=>ih _ (b.eA.sz▸hA) e he
 show A4 (call e) [] EH [(AA,.ref a)] H (Ah Q)
 have inv:∀{cd:T},(∀{H' A' r},UF UG H' a sa ys ex bo UE A'->H' sa=some (.set ys)->∀{K:Bool->MH->Prop},(∀H2 t,UF UG H2 a sa ys ex bo UE A'->H2 sa=some (.set ys)->(∀S,BB H' S->BB H2 S)->(t=true->∃x,Hd A'.den x/\keep ys ex x=false)->(t=false->∀x,Hd A'.den x->keep ys ex x=true)->K t H2) ->
  wT (call e) [] cd [(AA,.ref a),(AJ,.ref UE.addr),(DP,.ref sa),(Hr,r)] H' K) ->
  A4 (call e) [] [.while cd [.asg Hr (.or [.meth (.var AJ) BC [] [],.var Hr])]] [(AA,.ref a),(AJ,.ref UE.addr),(DP,.ref sa),(Hr,.bool false)] H (GU (λρ H=>A4 (call e) [] [.ret (.var Hr)] ρ H (Ah Q)) (Ah Q)):=λ{cd} test=>by
  refine⟨λm ρ H'=>∃A' r,(∀x,Hd A'.den x->(1000-x).toNat<=m)/\UF UG H' a sa ys ex bo UE A'/\H' sa=some (.set ys)/\dF ys ex bo A'.den=dF ys ex bo A.den/\((∀x,Hd A.den x->keep ys ex x=true)->A'.den=A.den/\∀S,BB H S->BB H' S)/\CF r/\ρ=[(AA,.ref a),(AJ,.ref UE.addr),(DP,.ref sa),(Hr,r)],
   1000,⟨A,.bool false,λx hx=>by have:=b.oA.bd _ hx.1;omega,b,hs,rfl,λU=>⟨rfl,λU r=>r⟩,.inr rfl,rfl⟩,?_⟩
  rintro m ρ H' ⟨A',r,hm,b,hs,hd,st,hr,rfl⟩;refine test b hs λH2 t b hs rp ht hf=>?_;cases t with
  | false=>exact q r A' H2 hr b hs (hf rfl) hd λo=>⟨(st o).1,λS h=>rp S ((st o).2 S h)⟩
  | true =>
   obtain⟨x,hx,hk⟩:=ht rfl;have hm:=hm x hx;have lx:=b.oA.bd _ hx.1;refine EQ (cA b) b.gA b.eA.ad hx λv A1 H3 f u e1=>?_;have hs':H3 sa=some (.set ys):=u.fr.kp _ _ hs (.inr rfl);have out:∀r',CF r'->∃m',m'<m/\∃A' r,(∀x,Hd A'.den x->(1000-x).toNat<=m')/\UF UG H3 a sa ys ex bo UE A'/\H3 sa=some (.set ys)/\dF ys ex bo A'.den=dF ys ex bo A.den/\((∀x,Hd A.den x->keep ys ex x=true)->A'.den=A.den/\∀S,BB H S->BB H3 S)/\CF r/\[(AA,V.ref a),(AJ,.ref UE.addr),(DP,.ref sa),(Hr,r')]=[(AA,.ref a),(AJ,.ref UE.addr),(DP,.ref sa),(Hr,r)]:=λr' f' =>
    ⟨(1000-x).toNat-1,by omega,A1,r',λx1 hx1=>by have:=(e1▸hx1:Hd (frm A'.den (x+1)) x1).frm_ge;omega,b.mA u,hs',by rw[e1,dF_nx hx hk];exact hd,λo=>absurd ((o x ((st o).1▸hx)).symm.trans hk) (by decide),f',rfl⟩
   rcases f with rfl|rfl<;>exact out r hr
 refine AC b.own (AC b.own (AC b.own ?_));have ex':=ex;cases hex:ex with
 | true =>
  subst hex;refine inv (cd:=.and [.e (.meth (.var AJ) AB [] []),.e (.cmp .In (.meth (.var AJ) Ag [] []) (.var DP))]) λ{H' A' r} b hs K k=>?_;refine Ak (cA b) b.gA b.eA.ad λba hba=>?_;cases ba with
  | false=>exact k H' false b hs (λU r=>r) (λz=>nomatch z) λU x h=>absurd h.act hba.neg
  | true =>
   obtain⟨x,hx⟩:=hba.pos.hd b.oA.bd;refine tB (ifT (Bc (cA b) b.gA b.eA.ad hx λH2 w=>?_));have hs':H2 sa=some (.set ys):=w.fr.kp _ _ hs (.inr rfl);refine Oq hl hs' ?_;have key:=k H2 (ys.contains x) (b.qA w) hs' w.rp (λz=>⟨x,hx,by unfold keep;rw[z];rfl⟩) λz x' hx'=>by rw[hx'.uniq hx];unfold keep;rw[z];rfl
   cases hc:ys.contains x<;>rw[hc] at key<;>exact key
 | false =>
  subst hex;refine inv (cd:=.and [.e (.meth (.var AJ) AB [] []),.e (.cmp .NotIn (.meth (.var AJ) Ag [] []) (.var DP))]) λ{H' A' r} b hs K k=>?_;refine Ak (cA b) b.gA b.eA.ad λba hba=>?_;cases ba with
  | false=>exact k H' false b hs (λU r=>r) (λz=>nomatch z) λU x h=>absurd h.act hba.neg
  | true =>
   obtain⟨x,hx⟩:=hba.pos.hd b.oA.bd;refine tB (ifT (Bc (cA b) b.gA b.eA.ad hx λH2 w=>?_));have hs':H2 sa=some (.set ys):=w.fr.kp _ _ hs (.inr rfl);refine Oq hl hs' ?_;have key:=k H2 (!ys.contains x) (b.qA w) hs' w.rp (λz=>⟨x,hx,by unfold keep;rw[show ys.contains x=false from by simpa using z];rfl⟩) λz x' hx'=>by rw[hx'.uniq hx];unfold keep;rw[show ys.contains x=true from by simpa using z];rfl
   cases hc:ys.contains x<;>rw[hc] at key<;>exact key
theorem Pp(ih:Ih n d)(he:d<=e)(hA:sz A<=n)(g:AS H (.una (.filt sa ys ex bo) a A))(ha:Av (Tr.una (.filt sa ys ex bo) a A).den)
 (q:∀v x T' H',CF v->Upd H (.una (.filt sa ys ex bo) a A) H' T'->Hd (Tr.una (.filt sa ys ex bo) a A).den x->T'.den=frm (Tr.una (.filt sa ys ex bo) a A).den (x+1)->Q v H'):call (e+2) FG [.ref a] [] H Q:=by
 have b:UF H H a sa ys ex bo A A:=Uk.start g;have ok:=g.ok.2;refine CT ((Jj (bo:=bo) ha).hd b.oA.bd) λx hx=>?_;refine(AC b.own (EQ (ih _ hA _ (Wf he)) b.gA rfl hx λv A' H1 f u e1=>?_):A4 (call (e+1)) [] HS [(AA,.ref a)] H (Ah Q));replace b:=b.mA u;refine Ar b.own rfl rfl (I7 ih he hA b (u.fr.kp _ _ g.rep.2.1 (.inr rfl)) ok.1.2.2 λv A2 H2 U b hs k e2 U=>?_);exact q .none x _ H2 (.inl rfl) (b.upd (λU=>rfl) hs ⟨ok.1,k⟩) (On (bo:=bo) hx (ok.2 x hx)) (by show dF ys ex bo A2.den=frm (dF ys ex bo A.den) (x+1);rw[e2,e1,Nn])
theorem Pq{y:Int}(ih:Ih n d)(he:d<=e)(hA:sz A<=n)(g:AS H (.una (.filt sa ys ex bo) a A))(ha:Av (Tr.una (.filt sa ys ex bo) a A).den)
 (q:∀v T' H',CF v->Upd H (.una (.filt sa ys ex bo) a A) H' T'->T'.den=frm (Tr.una (.filt sa ys ex bo) a A).den y->Eo (Tr.una (.filt sa ys ex bo) a A).den y H H'->Q v H'):call (e+2) Dd [.ref a,.int y] [] H Q:=by
 have b:UF H H a sa ys ex bo A A:=Uk.start g;have ok:=g.ok.2;refine CT ((Jj (bo:=bo) ha).hd b.oA.bd) λx hx=>?_;refine(AC b.own (CU (ih _ hA _ (Wf he)) b.gA rfl hx.act λv A' H1 f u e1 s1=>?_):A4 (call (e+1)) [] FR [(AA,.ref a),(Ag,.int y)] H (Ah Q));replace b:=b.mA u;refine Ar b.own rfl rfl (I7 ih he hA b (u.fr.kp _ _ g.rep.2.1 (.inr rfl)) ok.1.2.2 λv A2 H2 U b hs k e2 st=>?_);refine q .none _ H2 (.inl rfl) (b.upd (λU=>rfl) hs ⟨ok.1,k⟩) (by show dF ys ex bo A2.den=frm (dF ys ex bo A.den) y;rw[e2,e1,Nn]) λz hz l S r=>?_
 have l:y<=x:=hz.uniq (On (bo:=bo) hx (ok.2 x hx))▸l;have eA:A'.den=A.den:=by rw[e1,C1 hx l]
 exact(st (by rw[eA];exact ok.2)).2 S (s1 x hx l S r)
theorem M6(ih:Ih n d)(he:d<=e)(hA:sz A<=n)(gA:AS H A)(own:H a=some (.inst c xs))(hp:AM AJ xs=some (.ref A.addr))(q:∀b,Ms A.den b->Q (.bool b) H):call (e+1) BY [.ref a] [] H Q:=by
 exact(IV (nm:=0) own hp (Ak (ih _ hA e he) gA rfl q):A4 (call e) [] Df [(AA,.ref a)] H (Ah Q))
theorem Os{x:Int}(ih:Ih n d)(he:d<=e)(hA:sz A<=n)(gA:AS H A)(own:H a=some (.inst c xs))(hp:AM AJ xs=some (.ref A.addr))(hx:Hd A.den x)(q:∀H',Qt H H' (fp A)->Q (.int x) H'):call (e+1) EW [.ref a] [] H Q:=by
 exact(IV (nm:=0) own hp (Bc (ih _ hA e he) gA rfl hx q):A4 (call e) [] Iy [(AA,.ref a)] H (Ah Q))
theorem Ps{x:Int}(ih:Ih n d)(he:d<=e)(hA:sz A<=n)(gA:AS H A)(own:H a=some (.inst c xs))(hp:AM AJ xs=some (.ref A.addr))(hx:Hd A.den x)(q:∀A' H',Upd H A H' A'->A'.den=frm A.den (x+1)->Q .none H'):call (e+1) C6 [.ref a] [] H Q:=by
 exact(IV (nm:=0) own hp (EQ (ih _ hA e he) gA rfl hx λv A' H' U u e=>q A' H' u e):A4 (call e) [] Ge [(AA,.ref a)] H (Ah Q))
theorem Pu{y:Int}(ih:Ih n d)(he:d<=e)(hA:sz A<=n)(gA:AS H A)(own:H a=some (.inst c xs))(hp:AM AJ xs=some (.ref A.addr))(ha:Av A.den)(q:∀v A' H',CF v->Upd H A H' A'->A'.den=frm A.den y->Eo A.den y H H'->Q v H'):call (e+1) B5 [.ref a,.int y] [] H Q:=by
 exact(IV (nm:=0) own hp (CU (ih _ hA e he) gA rfl ha q):A4 (call e) [] El [(AA,.ref a),(Ag,.int y)] H (Ah Q))
theorem Ot{bo:Int}(ih:Ih n d)(he:d<=e)(hA:sz A<=n)(gA:AS H A)(own:H a=some (.inst c xs))(hp:AM AJ xs=some (.ref A.addr))(hb:AM Aw xs=some (.int bo))(hbo:0<=bo/\bo<=1000)(q:∀m,0<=m->Q (.int m) H):call (e+1) Bb [.ref a] [] H Q:=by
 refine(IV (nm:=0) own hp (CV (ih _ hA e he) gA rfl λm hm=>AC own ?_):A4 (call e) [] Em [(AA,.ref a)] H (Ah Q));exact hb.symm▸⟨.inr (by omega),q _ (Int.mul_nonneg hm hbo.1)⟩
/-! inverse -/
abbrev UV(UG H:MH)(a ma:Nat)(lim wt i:Int)(UE A:Tr):Prop:=Uk UG H a .Inverse (uF UE.addr (.inv ma lim wt i)) UE A
variable{ma:Nat}{lim wt j:Int}
theorem KO(ih:Ih n d)(he:d<=e)(hA:sz UE<=n)(b:UV UG H a ma lim wt j UE A)(hs:H ma=some (.tup []))
 (q:∀j' A' H',UV UG H' a ma lim wt j' UE A'->H' ma=some (.tup [])->j<=j'->okV lim j' A'.den->dV lim wt j' A'.den=dV lim wt j A.den->(okV lim j A.den->j'=j/\∀S,BB H S->BB H' S)->Q .none H'):call (e+1) CN [.ref a] [] H Q:=by
 have cA:∀{H A j},UV UG H a ma lim wt j UE A->GL e A:=λb=>ih _ (b.eA.sz▸hA) e he;have miss:∀{H:MH} {x:Int} {K:Bool->Prop},H ma=some (.tup [])->K false->∃o b,H ma=some o/\Iq x o b/\K b:=λ{H x K} h k=>⟨_,_,h,.tup (is:=[]) (by decide) rfl,k⟩
 refine(AC b.own (AC b.own (Ak (cA b) b.gA b.eA.ad λba hba=>?_)):A4 (call e) [] BQ [(AA,.ref a)] H (Ah Q));cases ba with
 | false =>
  refine tB (ifT (AC b.own (miss hs ?_)));exact q j A H b hs (Wq _) ⟨λx h=>absurd h.act hba.neg,λU=>WX λz=>hba.neg ⟨_,z⟩⟩ rfl λU=>⟨rfl,λU r=>r⟩
 | true =>
  obtain⟨x,hx⟩:=hba.pos.hd b.oA.bd;refine tB (JO (JO (Bu (Et ?_))));refine⟨λm ρ H'=>m=0/\H'=H/\ρ=[(AA,.ref a),(AJ,.ref UE.addr),(Ax,.ref ma)],0,⟨rfl,rfl,rfl⟩,?_⟩;rintro m ρ H' ⟨rfl,rfl,rfl⟩;have after:A4 (call e) [] (BQ.drop 4) [(AA,.ref a),(AJ,.ref UE.addr),(Ax,.ref ma)] H' (Ah Q):=by
   have loop:∀{A1 H1},UV UG H1 a ma lim wt j UE A1->H1 ma=some (.tup [])->(∀d,A1.den d≠none->j<=d)->dV lim wt j A1.den=dV lim wt j A.den->(okV lim j A.den->A1.den=A.den/\∀S,BB H' S->BB H1 S) ->
    A4 (call e) [] (BQ.drop 5) [(AA,.ref a),(AJ,.ref UE.addr),(Ax,.ref ma)] H1 (Ah Q):=λ{A1 H1} b1 hs1 ge1 hd1 st1=>by
    refine⟨λm ρ H2=>∃A' i,m=(lim-i).toNat/\j<=i/\UV UG H2 a ma lim wt i UE A'/\H2 ma=some (.tup [])/\(∀d,A'.den d≠none->i<=d)/\dV lim wt i A'.den=dV lim wt j A.den/\(okV lim j A.den->i=j/\A'.den=A.den/\∀S,BB H' S->BB H2 S) /\
     ρ=[(AA,.ref a),(AJ,.ref UE.addr),(Ax,.ref ma)],_,⟨A1,j,rfl,Wq _,b1,hs1,ge1,hd1,λo=>⟨rfl,st1 o⟩,rfl⟩,?_⟩
    clear b hx hba hs b1 hs1 ge1 hd1 st1;rintro m ρ H2 ⟨A',i,rfl,le,b,hs,ge,hd,st,rfl⟩;refine Ak (cA b) b.gA b.eA.ad λba hba=>?_;cases ba with
    | false=>exact q i A' H2 b hs le ⟨λx h=>absurd h.act hba.neg,λU=>WX λz=>hba.neg ⟨_,z⟩⟩ hd λo=>⟨(st o).1,(st o).2.2⟩
    | true =>
     refine tB (ifT (AC b.own (AC b.own (AO (λz=>?_) λz=>?_))))
     ·have lt:=of_decide_eq_true z;refine AC b.own (miss hs (tB (JO (Bu (Et ?_)))));refine CT (hba.pos.hd b.oA.bd) λx hx=>?_;refine AC b.own (Bc (cA b) b.gA b.eA.ad hx λH3 w=>?_);replace b:=b.qA w;have hs':H3 ma=some (.tup []):=w.fr.kp _ _ hs (.inr rfl);refine AO (λz=>?_) λz=>?_
      ·have eix:i=x:=by simpa using z
       subst eix;refine AC b.own (Cq b.own rfl ?_);have b':=b.put (ys:=uF UE.addr (.inv ma lim wt (i+1))) (λU=>rfl);have hs2:(H3.put a (.inst .Inverse (uF UE.addr (.inv ma lim wt (i+1))))) ma=some (.tup []):=by rw[AT _ _ λz=>by replace hs':=b.own▸z▸hs';exact nomatch hs'];exact hs'
       refine EQ (cA b') b'.gA b'.eA.ad hx λv A2 H4 f u e1=>?_;have no:¬ okV lim j A.den:=λo=>by
        refine DN (st o) λe1 e2 U=>?_;subst e1;exact hx.1 (by rw[e2];exact o.2 lt)
       exact ZO _ ⟨by omega,A2,i+1,rfl,by omega,b'.mA u,u.fr.kp _ _ hs2 (.inr rfl),λd z=>by rw[e1] at z;exact(B9.mp z).1,by rw[e1,dV_nx hx.1];exact hd,λo=>absurd o no,rfl⟩
      ·have ne:i≠x:=by simpa using z
       have:=ge x hx.1;refine q i A' H3 b hs' le ⟨λy hy=>?_,λU=>WX λz=>?_⟩ hd λo=>⟨(st o).1,λS r=>w.rp S ((st o).2.2 S r)⟩
       ·rw[hy.uniq hx];exact this
       ·have:=hx.2 i z;omega
     ·exact q i A' H2 b hs le ⟨λy hy=>ge y hy.1,λl=>absurd l (of_decide_eq_false z)⟩ hd λo=>⟨(st o).1,(st o).2.2⟩
   refine Ak (cA b) b.gA b.eA.ad λba hba'=>?_;rw[hba'.mpr hx.act];refine tB (ifT (Bc (cA b) b.gA b.eA.ad hx λH1 w=>?_));replace b:=b.qA w;have hs':H1 ma=some (.tup []):=w.fr.kp _ _ hs (.inr rfl);refine AC b.own (AO (λz=>?_) λz=>?_)
   ·have lt:=of_decide_eq_true z;have mA:∀{m K},(HP m [Ag,BC,AV]&&!HP m C2)=true->K (Hl A m)->BL H1 (.ref UE.addr) m K:=λh k=>by exact b.eA.ad▸b.rA.m2 hx.act h k
    refine mA rfl (AC b.own ?_);have:=(cA b).skip (y:=j) b.gA hx.act (Q:=λU H'=>A4 (call e) [] (BQ.drop 5) [(AA,.ref a),(AJ,.ref UE.addr),(Ax,.ref ma)] H' (Ah Q)) λv A1 H2 f u e1 U =>
     loop (b.mA u) (u.fr.kp _ _ hs' (.inr rfl)) (λd z=>by rw[e1] at z;exact(B9.mp z).1) (by rw[e1,Op]) λo=>by have:=o.1 x hx;omega
    rw[b.eA.ad] at this;exact this
   ·exact loop b hs' (λd z'=>Wc (Yh.mp (of_decide_eq_false z)) (hx.2 d z')) rfl λU=>⟨rfl,w.rp⟩
  refine AC b.own (AC b.own (AO (λU=>AC b.own (miss hs after)) λU=>after))
theorem Sf(own:H a=some (.inst .Inverse (uF p (.inv ma lim wt j))))(q:∀b,(b=true<->j<lim)->Q (.bool b) H):call (e+1) Cc [.ref a] [] H Q:=by
 exact(AC own (AC own (q _ ⟨of_decide_eq_true,λh=>decide_eq_true h⟩)):A4 (call e) [] EI [(AA,.ref a)] H (Ah Q))
theorem inv_id(own:H a=some (.inst .Inverse (uF p (.inv ma lim wt j))))(q:Q (.int j) H):call (e+1) Fo [.ref a] [] H Q:=by
 exact(AC own q:A4 (call e) [] IL [(AA,.ref a)] H (Ah Q))
theorem Ou(b:UV UG H a ma lim wt j UE A)(hs:H ma=some (.tup []))(j':Int):UV UG (H.put a (.inst .Inverse (uF UE.addr (.inv ma lim wt j')))) a ma lim wt j' UE A/\(H.put a (.inst .Inverse (uF UE.addr (.inv ma lim wt j')))) ma=some (.tup []) :=
 ⟨b.put (λU=>rfl),by rw[AT _ _ λz=>by replace hs:=b.own▸z▸hs;exact nomatch hs];exact hs⟩
theorem Qm(ih:Ih n d)(he:d<=e)(hA:sz A<=n)(g:AS H (.una (.inv ma lim wt j) a A))(ha:Av (Tr.una (.inv ma lim wt j) a A).den)
 (q:∀v x T' H',CF v->Upd H (.una (.inv ma lim wt j) a A) H' T'->Hd (Tr.una (.inv ma lim wt j) a A).den x->T'.den=frm (Tr.una (.inv ma lim wt j) a A).den (x+1)->Q v H'):call (e+2) Ee [.ref a] [] H Q:=by
 have b:UV H H a ma lim wt j A A:=Uk.start g;have ok:=g.ok.2;have lt:=MF (wt:=wt) ha;refine(AC b.own (AC b.own (AO (λz=>absurd (of_decide_eq_true z) (YK.mpr lt)) λU=>Bu (Et (AC b.own (Cq b.own rfl ?_))))):A4 (call (e+1)) [] Gg [(AA,.ref a)] H (Ah Q));refine Az (Ou b g.rep.2.1 (j+1)) λb hs=>?_;refine Ar b.own rfl rfl (KO ih he hA b hs λj' A' H' b hs le ok' e' U=>?_);exact q .none j (.una (.inv ma lim wt j') a A') H' (.inl rfl) (Uk.upd (k₀:=.inv ma lim wt j) (k:=.inv ma lim wt j') b (λU=>rfl) hs ⟨⟨ok.1.1,by have:=ok.1.2.1;omega,ok.1.2.2⟩,ok'⟩) (Oo (wt:=wt) lt (ok.2.2 lt)) (e'.trans (Ql (by omega)))
theorem Qn{y:Int}(ih:Ih n d)(he:d<=e)(hA:sz A<=n)(g:AS H (.una (.inv ma lim wt j) a A))(ha:Av (Tr.una (.inv ma lim wt j) a A).den)
 (q:∀v T' H',CF v->Upd H (.una (.inv ma lim wt j) a A) H' T'->T'.den=frm (Tr.una (.inv ma lim wt j) a A).den y->Eo (Tr.una (.inv ma lim wt j) a A).den y H H'->Q v H'):call (e+2) DF [.ref a,.int y] [] H Q:=by
 have b:UV H H a ma lim wt j A A:=Uk.start g;have ok:=g.ok.2;have lt:=MF (wt:=wt) ha;have hd:Hd (dV lim wt j A.den) j:=Oo (wt:=wt) lt (ok.2.2 lt);refine(AC b.own (AC b.own (AO (λz=>absurd (of_decide_eq_true z) (YK.mpr lt)) λU=>Bu (Et (AC b.own (AO (λz=>?_) λz=>?_))))):A4 (call (e+1)) [] E2 [(AA,.ref a),(Ag,.int y)] H (Ah Q))
 ·have lt:=of_decide_eq_true z;exact q .none _ H (.inl rfl) (.refl g) (C1 hd (XO lt)).symm λU U U S r=>r
 ·have ge:j<=y:=Yh.mp (of_decide_eq_false z);refine Cq b.own rfl ?_;have b0:=b;refine Az (Ou b g.rep.2.1 y) λb hs=>?_;refine Ar b.own rfl rfl (KO ih he hA b hs λj' A' H' b hs le ok' e' st=>?_);refine q .none (.una (.inv ma lim wt j') a A') H' (.inl rfl) (Uk.upd (k₀:=.inv ma lim wt j) (k:=.inv ma lim wt j') b (λU=>rfl) hs ⟨⟨ok.1.1,by have:=ok.1.2.1;omega,ok.1.2.2⟩,ok'⟩) (e'.trans (Ql ge)) λz hz l S r=>?_
  have ey:y=j:=XZ (hz.uniq hd▸l) ge;subst ey;refine(st ok.2).2 S ?_;have z:BB (H.put a (.inst .Inverse (uF A.addr (.inv ma lim wt y)))) S:=by exact(Mx b0.own).symm▸r
  exact z
/-! constant -/
theorem con_q{s:Int}(own:H a=some (.inst .Const (uF p (.con s))))(q:Q (.int s) H):call (e+1) Cd [.ref a] [] H Q:=by
 exact(AC own q:A4 (call e) [] EJ [(AA,.ref a)] H (Ah Q))
end
section
variable{n d e a m p i:Nat}{UE UL A B:Tr}{UG H H1 H':MH}{Q:V->MH->Prop}{c:Cl}{xs us:As}{vs:List V}
structure SG(k:UK)(H:MH)(A:Tr)(m:Nat)(k':UK)(A':Tr)(H':MH):Prop where
 good:AS H' (.una k' m A')
 den:dA k' A'.den=dA k A.den
 eA:LC A A'
 sc:∀T,sc (.una k' m T)=sc (.una k m T)
 fr:Ao H H' (fp A)
 nn:H m=none
 qt:okU k A.den->∀S,BB H S->BB H' S
theorem Ao.new2{H H1 H':MH}{n:Nat}{F}(f0:Ao H H1 [])(f:Ao H1 H' (n::F))(h:H n=none):Ao H H' F :=
 ⟨λb o' e q=>f.kp b o' (f0.kp b o' e (.inl (W0))) (q.imp (λm z=>(Wb.mp z).elim (λz=>by replace e:=h▸z▸e;exact zN e) m) id),λb e=>f0.dm b (f.dm b e)⟩
theorem Ao.more{H H1 H':MH}{F G}(f:Ao H H1 F)(g:Ao H1 H' G)(q:∀x∈G,x∈F\/H x=none):Ao H H' F :=
 ⟨λb o e z=>g.kp b o (f.kp b o e z) (z.imp (λm y=>(q b y).elim m λy=>by replace e:=y.symm.trans e;exact zN e) id),λb e=>f.dm b (g.dm b e)⟩
theorem BB.nil{H H1:MH}{S:Tr}(r:BB H S)(f0:Ao H H1 []):BB H1 S:=r.frame f0 λU U=>W0
theorem AS.nil{H H1:MH}{S:Tr}(g:AS H S)(f0:Ao H H1 []):AS H1 S:=⟨g.rep.nil f0,g.ok,g.nd⟩
theorem Ao.new0{H:MH}{n:Nat}{o:O}(h:H n=none):Ao H (H.put n o) []:=Ao.new h
section
theorem Uk.fresh(f0:Ao H H1 [])(own:H1 m=some (.inst c xs))(g:AS H A)(h:H m=none):Uk H1 H1 m c xs A A :=
 ⟨own,g.ok,g.rep.nil f0,.refl,.refl,W3.mpr ⟨g.rep.nin h,g.nd⟩⟩
theorem Uk.made{k k':UK}{A':Tr}(f0:Ao H H1 [])(b:Uk H1 H' m (uC k') (uF A.addr k') A A')(h:H m=none)(x:uX H' k')(ok:okU k' A'.den)(dn:dA k' A'.den=dA k A.den)(hs:∀T,sc (.una k' m T)=sc (.una k m T))(qt:okU k A.den->∀S,BB H1 S->BB H' S) :
 SG k H A m k' A' H' :=
 ⟨⟨⟨by rw[b.eA.ad];exact b.own,x,b.rA⟩,⟨b.oA,ok⟩,by show(m::fp A').Nodup;rw[b.eA.fp];exact b.nd⟩,dn,b.eA,hs,Ao.new2 f0 b.fr h,h,λz S r=>qt z S (r.nil f0)⟩
theorem Sg{C Q}(h:Bh c Ab=none)(k:∀a,H a=none->Q (.ref a) (H.put a (.inst c []))):EL C c [] [] H Q:=by
 unfold EL;intro a z;exact h.symm▸⟨rfl,rfl,k a z⟩
theorem Qo(q:∀m,H m=none->AS (H.put m (.inst .Null [])) (.null m)->Q (.ref m) (H.put m (.inst .Null []))):call (e+1) AQ [] [] H Q:=by
 refine(Sg rfl λm h=>q m h ⟨AE _ _ _,trivial,YH⟩:A4 (call e) [] F7 [] H (Ah Q))
theorem Ov{s:Int}(g:AS H A)(h0:0<=s)(q:∀m H',SG (.con s) H A m (.con s) A H'->Q (.ref m) H'):EL (call (e+2)) .Const [.ref A.addr] [(Gv,.int s)] H Q:=by
 refine ED rfl λm h=>?_;refine(I6 ⟨rfl,rfl⟩ (EN rfl ⟨rfl,q m _ ?_⟩):A4 (call (e+1)) [] IO [(AA,.ref m),(AJ,.ref A.addr),(Gv,.int s)] (H.put m (.inst .Const [])) (Ah λv H'=>v=.none/\Q (.ref m) H'));exact(Uk.fresh (Ao.new0 h) (AE _ _ _) g h).made (k:=.con s) (k':=.con s) (Ao.new0 h) h trivial h0 rfl (λU=>rfl) λU U r=>r
theorem LN{sa:Nat}{ys:List Int}{ex:Bool}{bo:Int}(ih:Ih n d)(he:d<=e)(hA:sz A<=n)(g:AS H A)(hs:H sa=some (.set ys))(hl:ys.length<=1000)(hb:0<=bo/\bo<=1000)(h:H m=none)
 (q:∀A' H',SG (.filt sa ys ex bo) H A m (.filt sa ys ex bo) A' H'->Q (.ref m) H') :
 A4 (call (e+1)) [] FI [(AA,.ref m),(AJ,.ref A.addr),(DP,.ref sa),(EV,.bool ex),(Aw,.int bo)] (H.put m (.inst .Filter [])) (Ah λv H'=>v=.none/\Q (.ref m) H'):=by
 refine KK (AE _ _ _) ⟨rfl,I6 ⟨rfl,rfl⟩ (EN rfl (EN rfl (EN rfl (My rfl rfl ?_))))⟩;have f0:Ao H (H.put m (.inst .Filter (uF A.addr (.filt sa ys ex bo)))) []:=Ao.new0 h;have b:UF _ _ m sa ys ex bo A A:=Uk.fresh f0 (AE _ _ _) g h;exact I7 ih he hA b (f0.kp _ _ hs (.inr rfl)) hl λv A' H' U b' hs' k e2 st=>⟨rfl,q A' H' (b'.made (k:=.filt sa ys ex bo) (k':=.filt sa ys ex bo) f0 h hs' ⟨⟨hb.1,hb.2,hl⟩,k⟩ e2 (λU=>rfl) λo=>(st o.2).2)⟩
theorem M7{lim wt j:Int}{mv:V}(ih:Ih n d)(he:d<=e)(hA:sz A<=n)(g:AS H A)(hb:0<=wt/\0<=j/\lim<=1000)(hm:mv=.none\/∃ma,mv=.ref ma/\H ma=some (.tup []))(h:H m=none)
 (q:∀t t' j' A' H',SG (.inv t lim wt j) H A m (.inv t' lim wt j') A' H'->Q (.ref m) H') :
 A4 (call (e+1)) [] CO [(AA,.ref m),(AJ,.ref A.addr),(A6,.int lim),(Ax,mv),(Cg,.int wt),(Ag,.int j)] (H.put m (.inst .Inverse [])) (Ah λv H'=>v=.none/\Q (.ref m) H'):=by
 refine KK (AE _ _ _) ⟨rfl,I6 ⟨rfl,rfl⟩ (EN rfl (EN rfl ?_))⟩;have rest:∀t,(H.put m (.inst .Inverse [(AJ,.ref A.addr),(Aw,.int 1),(A6,.int lim),(Bm,.int wt)])) t=none ->
  A4 (call (e+1)) [] (CO.drop 4) [(AA,.ref m),(AJ,.ref A.addr),(A6,.int lim),(Ax,mv),(Cg,.int wt),(Ag,.int j)]
   (((H.put m (.inst .Inverse [(AJ,.ref A.addr),(Aw,.int 1),(A6,.int lim),(Bm,.int wt)])).put t (.tup [])).put m (.inst .Inverse [(AJ,.ref A.addr),(Aw,.int 1),(A6,.int lim),(Bm,.int wt),(Ax,.ref t)]))
   (Ah λv H'=>v=.none/\Q (.ref m) H'):=λt ht=>by
  refine EN rfl (My rfl rfl ?_);have ne:t≠m:=λz=>by rw[z,AE] at ht;exact zS ht
  have f1:=(Ao.new0 (o:=.inst .Inverse [(AJ,.ref A.addr),(Aw,.int 1),(A6,.int lim),(Bm,.int wt)]) h).trans (Ao.new0 (o:=.tup []) ht);have hm':=(AT _ (.tup []) (YN ne)).trans (AE H m (.inst .Inverse [(AJ,.ref A.addr),(Aw,.int 1),(A6,.int lim),(Bm,.int wt)]));have f0:=f1.drop (Ao.put (o:=.inst .Inverse (uF A.addr (.inv t lim wt j))) (.head _) λo' z=>by obtain rfl:=WT (hm'.symm.trans z);rfl) λx hx=>by exact(Wl.mp hx).symm▸h
  have b:UV _ _ m t lim wt j A A:=Uk.fresh f0 (AE _ _ _) g h;exact KO ih he hA b ((AT _ _ ne).trans (AE _ _ _)) λj' A' H' b' hs' le ok e2 st =>
   ⟨rfl,q t t j' A' H' (b'.made (k:=.inv t lim wt j) (k':=.inv t lim wt j') f0 h hs' ⟨⟨hb.1,by omega,hb.2.2⟩,ok⟩ e2 (λU=>rfl) λo=>(st o.2).2)⟩
 have key:∀t,(H.put m (.inst .Inverse [(AJ,.ref A.addr),(Aw,.int 1),(A6,.int lim),(Bm,.int wt)])) t=none->_:=λt ht =>
  Cq (n:=Ax) (u:=.ref t) (Q:=λH'=>A4 (call (e+1)) [] (CO.drop 4) [(AA,.ref m),(AJ,.ref A.addr),(A6,.int lim),(Ax,mv),(Cg,.int wt),(Ag,.int j)] H' (Ah λv H'=>v=.none/\Q (.ref m) H'))
   ((AT _ (.tup []) (λz=>by rw[<- z,AE] at ht;exact zS ht)).trans (AE H m (.inst .Inverse [(AJ,.ref A.addr),(Aw,.int 1),(A6,.int lim),(Bm,.int wt)]))) rfl (rest t ht)
 rcases hm with rfl|⟨ma,rfl,hma⟩
 ·exact⟨Wh _,key⟩
 ·refine⟨[],.inr ?_,Wh _,⟨Wh _,key⟩⟩;rw[AT _ _ λz=>by replace hma:=h▸z▸hma;exact zN hma];exact hma
/-! require -/
structure MkR(H:MH)(A B:Tr)(m i:Nat)(A' B':Tr)(H':MH):Prop where
 good:AS H' (.req m i A' B')
 den:dR A'.den B'.den=dR A.den B.den
 eA:LC A A'
 eB:LC B B'
 fr:Ao H H' (fp A++fp B)
 nm:H m=none
 ni:H i=none
 qt:Al A.den B.den->∀S,BB H S->BB H' S
theorem Ow(ih:Ih n d)(he:d<=e)(hA:sz A<=n)(hB:sz B<=n)(gA:AS H A)(gB:AS H B)(dj:∀x∈fp A,x∉fp B)(q:∀m i A' B' H',MkR H A B m i A' B' H'->Q (.ref m) H'):EL (call (e+4)) .Require [.ref A.addr,.ref B.addr] [] H Q:=by
 refine ED rfl λm h=>?_;refine(EN rfl ?_:A4 (call (e+3)) [] Gh [(AA,.ref m),(A3,.ref A.addr),(A8,.ref B.addr)] (H.put m (.inst .Require [])) (Ah λv H'=>v=.none/\Q (.ref m) H'));refine EN rfl ?_;have f0:=Ao.new0 (o:=.inst .Require [(A3,.ref A.addr),(A8,.ref B.addr)]) h;have gA':=gA.nil f0;have gB':=gB.nil f0;refine MD ih he hA hB gA' gB' dj λi A' B' H2 mk sr=>?_;have hm:H2 m=some (.inst .Require [(A3,.ref A.addr),(A8,.ref B.addr)]):=mk.fr.kp _ _ (AE _ _ _) (.inl λz=>(W2.mp z).elim (gA.rep.nin h) (gB.rep.nin h));have ne:m≠i:=λz=>by have:=mk.nn;rw[<- z,AE] at this;exact zS this
 have wr:∀{Q':V->MH->Prop},Q' .none (H2.put m (.inst .Require (SW A.addr B.addr i)))->call (e+3) BP [.ref m,.ref i] [] H2 Q':=λ{Q'} k=>by
  exact(Cq hm rfl (EN rfl k):A4 (call (e+2)) [] Gc [(AA,.ref m),(AJ,.ref i),(Aw,.int 1)] H2 (Ah Q'))
 refine wr ⟨rfl,q m i A' B' _ ?_⟩;have ni:H i=none:=f0.dm _ mk.nn;have nd:=mk.good.nd;have mf:m∉fp (.bin .inter i A' B'):=λz=>by
  rcases Wb.mp z with z|z
  ·exact ne z
  ·rw[mk.eA.fp,mk.eB.fp] at z;exact(W2.mp z).elim (gA.rep.nin h) (gB.rep.nin h)
 have f2:Ao H2 (H2.put m (.inst .Require (SW A.addr B.addr i))) [m]:=Ao.put (.head _) λo' z=>by obtain rfl:=WT (hm.symm.trans z);rfl
 have r2:=mk.good.rep.frame f2 λx hx z=>mf (Wl.mp z▸hx);have f3:Ao H H2 (fp A++fp B):=⟨λb o e z=>mk.fr.kp b o (f0.kp b o e (.inl (W0))) z,λb e=>f0.dm b (mk.fr.dm b e)⟩;refine Aj r2.1 λid own hc=>?_;cases CE rfl hc
 exact⟨⟨⟨by rw[mk.eA.ad,mk.eB.ad];exact AE _ _ _,own,r2.2.1,r2.2.2⟩,mk.good.ok,W3.mpr ⟨mf,nd⟩⟩,sr.1,mk.eA,mk.eB,
  f3.more f2 λx hx=>.inr (by rw[Wl.mp hx];exact h),h,ni,λal S r=>(mk.qt al S (r.nil f0)).frame f2 λx hx z=>r.nin h (Wl.mp z▸hx)⟩
end
section
variable{k:BK}{Ut:UK}
/-! or: the score;the greater of two sides' qualities -/
theorem dm_mq(ih:Ih n d)(he:d<=e)(hA:sz A<=n)(hB:sz B<=n)(g:AS H (.bin .dm a A B))(q:∀m,0<=m->Q (.int m) H):call (e+1) Ct [.ref a] [] H Q:=by
 refine Aj (Bk.start g) λid hc b=>?_;exact(AC b.own (CV (ih _ hA e he) b.gA rfl λx hx=>AC b.own (CV (ih _ hB e he) b.gB rfl λy U=>q _ (Wc hx (Int.le_max_left _ _)))):A4 (call e) [] Ei [(AA,.ref a)] H (Ah Q))
/-! require -/
theorem AS.rI{a i A B}(g:AS H (.req a i A B)):AS H (.bin .inter i A B):=⟨⟨⟨none,g.rep.2.1,trivial⟩,g.rep.2.2⟩,g.ok,(W3.mp g.nd).2⟩
theorem Ox{i:Nat}{A' B':Tr}(g:AS H (.req a i A B))(u:Upd H (.bin .inter i A B) H' (.bin .inter i A' B'))(eA:LC A A')(eB:LC B B'):Upd H (.req a i A B) H' (.req a i A' B'):=by
 refine Aj u.rep.1 λid own hc=>?_;cases CE rfl hc
 refine⟨rfl,?_,?_,by show sc A'++sc B'=sc A++sc B;exact eA.sc▸eB.sc▸rfl,u.ok,⟨?_,own,u.rep.2⟩,u.fr.mono λx m=>.tail _ m⟩
 ·show a::i::(fp A'++fp B')=_;rw[eA.fp,eB.fp];rfl
 ·show sz A'+sz B'+2=_;rw[eA.sz,eB.sz];rfl
 ·rw[eA.ad,eB.ad];exact u.fr.kp _ _ g.rep.1 (.inl (W3.mp g.nd).1)
theorem dR_hd{A B:D}{x}(h:Hd A x)(k:Hd B x):Hd (dR A B) x:=⟨KD.mpr ⟨h.1,k.1⟩,λd q=>h.2 _ (KD.mp q).1⟩
theorem MG{A B:D}:Av (dR A B)<->Av (dI A B):=⟨λ⟨d,h⟩=>⟨d,Ep.mpr (KD.mp h)⟩,λ⟨d,h⟩=>⟨d,KD.mpr (Ep.mp h)⟩⟩
theorem Nq{i:Nat}(g:AS H (.req a i A B))(ha:Av (dR A.den B.den)):∃x,Hd A.den x/\Hd B.den x/\Hd (dI A.den B.den) x/\Hd (dR A.den B.den) x:=by
 refine AU λGG hG=>?_;refine Az (C3 (MG.mp ha)) λhA hB=>?_;refine FS (g.ok.2.2.hd g.ok.1.bd g.ok.2.1.bd hA hB) λx h1 h2 h3=>?_;refine hG ?_;clear hG GG;exact⟨x,h1,h2,h3,dR_hd h1 h2⟩
theorem Qp{i:Nat}(ih:Ih n d)(he:d<=e)(hA:sz A<=n)(hB:sz B<=n)(g:AS H (.req a i A B))(ha:Av (Tr.req a i A B).den)
 (q:∀v x T' H',CF v->Upd H (.req a i A B) H' T'->Hd (Tr.req a i A B).den x->T'.den=frm (Tr.req a i A B).den (x+1)->Q v H'):call (e+3) C6 [.ref a] [] H Q:=by
 refine AU λGG hG=>?_;refine Tg (Nq g ha) λx h1 h2 h3 h4=>?_;refine hG ?_;clear hG GG;refine(AC g.rep.1 (Ar g.rep.2.1 rfl rfl (M4 ih he hA hB g.rI h3.act λv x' A' B' H' f u eA eB hx e U er=>?_)):A4 (call (e+2)) [] Ge [(AA,.ref a)] H (Ah Q));rw[hx.uniq h3] at er;exact q .none x _ H' (.inl rfl) (Ox g u eA eB) h4 er
theorem Qq{i:Nat}{y:Int}(ih:Ih n d)(he:d<=e)(hA:sz A<=n)(hB:sz B<=n)(g:AS H (.req a i A B))(ha:Av (Tr.req a i A B).den)
 (q:∀v T' H',CF v->Upd H (.req a i A B) H' T'->T'.den=frm (Tr.req a i A B).den y->Eo (Tr.req a i A B).den y H H'->Q v H'):call (e+3) B5 [.ref a,.int y] [] H Q:=by
 refine AU λGG hG=>?_;refine Tg (Nq g ha) λx h1 h2 h3 h4=>?_;refine hG ?_;clear hG GG;refine(AC g.rep.1 (Ar g.rep.2.1 rfl rfl (M5 ih he hA hB g.rI h3.act λv A' B' H' f u eA eB U st U er=>?_)):A4 (call (e+2)) [] El [(AA,.ref a),(Ag,.int y)] H (Ah Q));exact q v _ H' f (Ox g u eA eB) er λz hz l S r=>st x h3 (hz.uniq h4▸l) S r
theorem Qr{la wa j:Nat}{ds:List (Int×List Nat)}{t:Nat×Nat}(h1:H la=some (.list (ds.map λp=>.int p.1)))(h2:H wa=some (.list (ds.map λU=>.int 1)))(h3:H t.1=some (.tup [.str 8,.str t.2]))(h4:∀p∈ds,p.2=[t.2])(ok:Dg j ds)(h:H m=none)
 (q:AS (H.put m (.inst .Leaf (Ch la wa j t.1))) (.leaf m la wa j ds t)->Q (.ref m) (H.put m (.inst .Leaf (Ch la wa j t.1)))) :
 A4 (call e) [] GV [(AA,.ref m),(DP,.ref la),(EU,.ref wa),(Hs,.none),(Ht,.none),(Hu,.none),(Fa,.int j),(Dl,.none),(BG,.ref t.1),(Fb,.none)] (H.put m (.inst .Leaf [])) (Ah λv H'=>v=.none/\Q (.ref m) H'):=by
 refine EN rfl (EN rfl (EN rfl (EN rfl (EN rfl (EN rfl (EN rfl (EN rfl (EN rfl ⟨rfl,q ?_⟩))))))));have f0:=Ao.new0 (o:=.inst .Leaf (Ch la wa j t.1)) h;exact⟨⟨AE _ _ _,f0.kp _ _ h1 (.inr rfl),f0.kp _ _ h2 (.inr rfl),f0.kp _ _ h3 (.inr rfl),h4⟩,ok,W3.mpr ⟨W0,YH⟩⟩
end
def C4(H:MH)(T:Tr)(Q:V->MH->Prop):Prop:=∀T' H',Qt H H' (fp T)->AS H' T'->T'.den=T.den->sz T'<=sz T->(True->True)->(∀x∈fp T',x∈fp T\/H x=none)->Q (.ref T'.addr) H'
theorem Qs:∀T:Tr,1<=sz T
 | .null _|.leaf _ _ _ _ _ _=>WY _
 | .bin _ _ _ _|.una _ _ _=>XA _ _
 | .req _ _ _ _=>WL (by decide) (XA 2 _)
section
variable{T:Tr}{k:BK}{uk uk' Ut:UK}{Ve:Int}
structure KP(H:MH)(A B:Tr)(H2:MH)(A' B':Tr):Prop where
 gA:AS H2 A'
 gB:AS H2 B'
 dA:A'.den=A.den
 dB:B'.den=B.den
 sA:sz A'<=sz A
 sB:sz B'<=sz B
 cA:True->True
 cB:True->True
 dj:∀x∈fp A',x∉fp B'
 nf:∀x∈fp A'++fp B',x∈fp A++fp B\/H x=none
 fr:Ao H H2 (fp A++fp B)
 rp:∀S,BB H S->BB H2 S
theorem KP.of{H2:MH}{A' B':Tr}(rB:BB H B)(dj:∀x∈fp A,x∉fp B)(w1:Qt H H1 (fp A))(g1:AS H1 A')(d1:A'.den=A.den)(s1:sz A'<=sz A)(c1:True->True)(f1:∀x∈fp A',x∈fp A\/H x=none)(w2:Qt H1 H2 (fp B))(g2:AS H2 B')(d2:B'.den=B.den)(s2:sz B'<=sz B)(c2:True->True)(f2:∀x∈fp B',x∈fp B\/H1 x=none):KP H A B H2 A' B':=by
 refine⟨g1.q w2,g2,d1,d2,s1,s2,c1,c2,λx hx hx'=>?_,λx hx=>(W2.mp hx).elim (λh=>(f1 x h).imp (WR _) id) λh=>(f2 x h).imp (WP _) (w1.fr.dm x),
  (w1.fr.mono λx m=>WR _ m).trans (w2.fr.mono λx m=>WP _ m),λS r=>w2.rp S (w1.rp S r)⟩
 rcases f2 x hx' with h|h
 ·rcases f1 x hx with h'|h'
  ·exact dj x h' h
  ·obtain⟨o,e,U⟩:=rB.fps x h;exact nS h' e
 ·obtain⟨o,e,U⟩:=g1.rep.fps x hx;exact nS h e
theorem Mk.outR{A' B':Tr}{H2 H3:MH}{A2 B2:Tr}(mk:Mk k H2 A' B' m A2 B2 H3)(t:KP H A B H2 A' B')(ok:LK k A'.den B'.den)(q:C4 H (.bin k a A B) Q):Q (.ref m) H3:=by
 refine q (.bin k m A2 B2) H3 ⟨(t.fr.more mk.fr t.nf).mono λx h=>.tail _ h,λS r=>mk.qt ok S (t.rp S r)⟩ mk.good ?_ ?_ ?_ λx hx=>?_
 ·show Mine.dB k A2.den B2.den=Mine.dB k A.den B.den;exact mk.den▸t.dA▸t.dB▸rfl
 ·show sz A2+sz B2+1<=sz A+sz B+1;rw[mk.eA.sz,mk.eB.sz];have:=t.sA;have:=t.sB;omega
 ·exact λh=>h
 ·rcases Wb.mp hx with rfl|hx
  ·exact .inr (t.fr.dm _ mk.nn)
  ·rw[mk.eA.fp,mk.eB.fp] at hx;exact(t.nf x hx).imp (Zw _) id
theorem KP.self{A' B':Tr}{H2:MH}(t:KP H A B H2 A' B')(g:AS H (.bin k a A B))(q:C4 H (.bin k a A B) Q):Q (.ref a) H2 :=
 q _ H2 ⟨t.fr.mono λx h=>.tail _ h,t.rp⟩ (g.q (F:=fp A++fp B) ⟨t.fr,t.rp⟩) rfl (WY _) (λh=>h) λx h=>.inl h
theorem Eu(hn:¬ Av T.den)(q:C4 H T Q):call (e+1) AQ [] [] H Q :=
 Qo λm h g=>q (.null m) _ ⟨Ao.new h,λS r=>r.new h⟩ g (IR hn).symm (Qs T) (λh=>h) λx hx=>nomatch hx
theorem Dh{x y:Nat}{K:Bool->Prop}{S S':Tr}(r:BB H S)(r':BB H S')(hx:S.addr=x)(hy:S'.addr=y)(k:K (x !=y)):Jx H x y K:=by
 subst hx;subst hy;unfold Jx;obtain⟨U,h⟩:=r.own;obtain⟨U,h'⟩:=r'.own;exact⟨⟨_,_,h⟩,⟨_,_,h'⟩,k⟩
theorem FT{S:Tr}(hi:∀x∈fp S,x∈fp T)(hd:S.den=T.den)(hs:sz S<=sz T)(hc:True->True)(q:C4 H T Q):C4 H S Q:=λS' H' w g d s c f =>
 q S' H' (w.mono hi) g (d.trans hd) (WL s hs) (λh=>c (hc h)) λx hx=>(f x hx).imp (hi x) id
theorem Pv{vs:List V}(g:AS H (.null a))(hv:vs=[]\/∃r:Int,r<=0/\vs=[.int r])(q:C4 H (.null a) Q):call (e+1) B0 (.ref a::vs) [] H Q:=by
 have z:=q (.null a) H .refl g rfl (WY _) (λh=>h) λx h=>.inl h;rcases hv with rfl|⟨r,_,rfl⟩<;>exact z
theorem Pw{la wa j:Nat}{ds:List (Int×List Nat)}{vs:List V}(g:AS H (.leaf a la wa j ds t))(hv:vs=[]\/∃r:Int,r<=0/\vs=[.int r])(q:C4 H (.leaf a la wa j ds t) Q):call (e+4) Ec (.ref a::vs) [] H Q:=by
 have key:∀r:Int,r<=0->A4 (call (e+3)) [] GY [(AA,.ref a),(AD,.int r)] H (Ah Q):=λr hr=>by
  refine Ar g.rep.1 rfl rfl (Es g.rep g.ok λb hb=>?_);cases b with
  | false=>exact Eu hb.neg q
  | true =>
   have z:=q _ H .refl g rfl (WY _) (λh=>h) λx h=>.inl h;refine tB (JO (AO (λU=>Ar g.rep.1 rfl rfl (Oe g.rep g.ok λm hm=>AO (λz=>absurd (of_decide_eq_true z) (by omega)) λU=>z)) λU=>z))
 rcases hv with rfl|⟨r,hr,rfl⟩
 ·exact key 0 (Wq _)
 ·exact key r hr
theorem Qu{vs:List V}(ih:Ih n d)(he:d<=e)(hA:sz A<=n)(hB:sz B<=n)(g:AS H (.bin .uni a A B))(hv:vs=[]\/∃r:Int,r<=0/\vs=[.int r])(q:C4 H (.bin .uni a A B) Q):call (e+3) D2 (.ref a::vs) [] H Q:=by
 refine Aj (Bk.start g) λid hc b=>?_;have cA:=ih _ hA (e+2) (by omega)
 have cB:=ih _ hB (e+2) (by omega)
 have na:=Of g.nd;have key:∀r:Int,r<=0->A4 (call (e+2)) [] D8 [(AA,.ref a),(AD,.int r)] H (Ah Q):=λr hr=>by
  refine AC b.own (AC b.own (Ak cA b.gA rfl λba hba=>Ak cB b.gB rfl λbb hbb=>?_));cases ba with
  | false =>
   have e1:B.den=dU A.den B.den:=(MC hba.neg).symm;have none1:bb=false->Q=Q->call (e+2) AQ [] [] H Q:=λh U=>Eu (T:=.bin .uni a A B) (by rw[show(Tr.bin .uni a A B).den=dU A.den B.den from rfl,No];subst h;exact λz=>z.elim hba.neg hbb.neg) q
   cases bb with
   | false=>exact AO (λU=>none1 rfl rfl) λU=>none1 rfl rfl
   | true =>
    have z:BL H (.ref B.addr) AL λf=>call (e+2) f [.ref B.addr,.int r] [] H Q:=CD cB b.gB rfl (.inr ⟨r,hr,rfl⟩) (FT (T:=.bin .uni a A B) (S:=B) (λx h=>.tail _ (WP _ h)) e1 (by show _<=sz A+sz B+1;omega) (λh=>h) q)
    exact AO (λU=>z) λU=>z
  | true =>
   cases bb with
   | false =>
    have e1:A.den=dU A.den B.den:=(Pk hbb.neg).symm;have z:BL H (.ref A.addr) AL λf=>call (e+2) f [.ref A.addr,.int r] [] H Q:=CD cA b.gA rfl (.inr ⟨r,hr,rfl⟩) (FT (T:=.bin .uni a A B) (S:=A) (λx h=>.tail _ (WR _ h)) e1 (by show _<=sz A+sz B+1;omega) (λh=>h) q)
    exact AO (λU=>z) λU=>z
   | true =>
    have rest:∀t,A4 (call (e+2)) [] (D8.drop 6) ((AA,.ref a)::(AD,.int r)::(A3,.ref A.addr)::(A8,.ref B.addr)::(An,.bool true)::(Am,.bool true)::t) H (Ah Q):=λt=>by
     refine b.rA.m1 rfl ?_;refine(λ(rA:∀s:Int,s<=0->call (e+2) (Hl A AL) [.ref A.addr,.int s] [] H _)=>AO (λU=>CV cB b.gB rfl λm hm=>rA (r-m) (by omega)) λU=>rA 0 (Wq _)) ?_
     refine λs hs=>cA.repl b.gA (.inr ⟨s,hs,rfl⟩) λA' H1 w1 g1 d1 s1 c1 f1=>?_;have gB1:=b.gB.q w1;refine gB1.rep.m1 rfl ?_;refine(λ(rB:∀s:Int,s<=0->call (e+2) (Hl B AL) [.ref B.addr,.int s] [] H1 _)=>AO (λU=>CV (ih _ (WL s1 hA) (e+2) (by omega)) g1 rfl λm hm=>rB (r-m) (by omega)) λU=>rB 0 (Wq _)) ?_
     refine λs hs=>cB.repl gB1 (.inr ⟨s,hs,rfl⟩) λB' H2 w2 g2 d2 s2 c2 f2=>?_;have t:=KP.of b.rB na.2.2.2 w1 g1 d1 s1 c1 f1 w2 g2 d2 s2 c2 f2;have own:=w2.fr.kp _ _ (w1.fr.kp _ _ b.own (.inl na.1.1)) (.inl na.1.2);have nomade:(AM BJ (bF .uni A.addr B.addr id)).isNone=true:=by cases id<;>rfl
     have made:EL (call (e+1)) .Union [.ref A'.addr,.ref B'.addr] [] H2 Q:=Oi t.gA t.gB t.dj λm H' mk=>mk.outR t trivial q;refine AC own (Dh t.gA.rep (t.rp _ b.rA) rfl rfl (AO (λU=>Ar (m:=BJ) own nomade rfl made) λU=>?_));refine AC own (Dh t.gB.rep (t.rp _ b.rB) rfl rfl (AO (λU=>Ar (m:=BJ) own nomade rfl made) λU=>?_));refine Cq own IS ?_;rw[M0];refine q (.bin .uni a A B) _ ⟨(t.fr.mono λx h=>.tail _ h).trans (Ao.put (.head _) λo' z=>by obtain rfl:=WT (own.symm.trans z);rfl),λS h=>(t.rp _ g.rep).cache (v:=.none) rfl rfl (t.rp S h)⟩ ⟨(t.rp _ g.rep).cache (v:=.none) rfl rfl (t.rp _ g.rep),g.ok,g.nd⟩ rfl (WY _) (λh=>h) λx h=>.inl h
    refine AO (λU=>CV cA b.gA rfl λma hma=>CV cB b.gB rfl λmb hmb=>?_) λU=>rest [];refine AO (λz=>absurd (of_decide_eq_true z) (by omega)) λU=>JO ?_
    refine AO (λz=>absurd (of_decide_eq_true z) (by omega)) λU=>?_
    exact AO (λz=>absurd (of_decide_eq_true z) (by omega)) λU=>rest [(Cj,.int ma),(Cm,.int mb)]
 rcases hv with rfl|⟨r,hr,rfl⟩
 ·exact key 0 (Wq _)
 ·exact key r hr
end
end
end Mine
end
section
set_option profiler true
set_option profiler.threshold 2000
namespace Mine
open PySem
section
variable{n d e a m p i:Nat}{UE UL A B T:Tr}{UG H H1 H':MH}{Q:V->MH->Prop}{c:Cl}{xs:As}{us:As}{vs:List V}{k:BK}{uk uk' Ut:UK}{Ve:Int}
theorem Sh{vs:List V}(ih:Ih n d)(he:d<=e)(hA:sz A<=n)(hB:sz B<=n)(g:AS H (.bin .dm a A B))(hv:vs=[]\/∃r:Int,r<=0/\vs=[.int r])(q:C4 H (.bin .dm a A B) Q):call (e+4) Ed (.ref a::vs) [] H Q:=by
 refine Aj (Bk.start g) λid hc b=>?_;have cA:=ih _ hA (e+3) (by omega)
 have cB:=ih _ hB (e+3) (by omega)
 have na:=Of g.nd;have key:∀r:Int,r<=0->A4 (call (e+3)) [] Eh [(AA,.ref a),(AD,.int r)] H (Ah Q):=λr hr=>by
  refine AC b.own (AC b.own (Ak cA b.gA rfl λba hba=>Ak cB b.gB rfl λbb hbb=>?_));cases ba with
  | false =>
   cases bb with
   | false =>
    have z:call (e+3) AQ [] [] H Q:=Eu (T:=.bin .dm a A B) (by rw[show(Tr.bin .dm a A B).den=dU A.den B.den from rfl,No];exact λz=>z.elim hba.neg hbb.neg) q
    exact AO (λU=>z) λU=>z
   | true =>
    have z:BL H (.ref B.addr) AL λf=>call (e+3) f [.ref B.addr,.int r] [] H Q:=CD cB b.gB rfl (.inr ⟨r,hr,rfl⟩) (FT (T:=.bin .dm a A B) (S:=B) (λx h=>.tail _ (WP _ h)) (MC hba.neg).symm (by show _<=sz A+sz B+1;omega) (λh=>h) q)
    exact AO (λU=>z) λU=>z
  | true =>
   cases bb with
   | false =>
    have z:BL H (.ref A.addr) AL λf=>call (e+3) f [.ref A.addr,.int r] [] H Q:=CD cA b.gA rfl (.inr ⟨r,hr,rfl⟩) (FT (T:=.bin .dm a A B) (S:=A) (λx h=>.tail _ (WR _ h)) (Pk hbb.neg).symm (by show _<=sz A+sz B+1;omega) (λh=>h) q)
    exact AO (λU=>z) λU=>z
   | true =>
    have rest:∀t,A4 (call (e+3)) [] (Eh.drop 6) ((AA,.ref a)::(AD,.int r)::(A3,.ref A.addr)::(A8,.ref B.addr)::(An,.bool true)::(Am,.bool true)::t) H (Ah Q):=λt=>by
     refine CD cA b.gA rfl (.inr ⟨r,hr,rfl⟩) λA' H1 w1 g1 d1 s1 c1 f1=>?_;have gB1:=b.gB.q w1;refine CD cB gB1 rfl (.inr ⟨r,hr,rfl⟩) λB' H2 w2 g2 d2 s2 c2 f2=>?_;have t:=KP.of b.rB na.2.2.2 w1 g1 d1 s1 c1 f1 w2 g2 d2 s2 c2 f2;have own:=w2.fr.kp _ _ (w1.fr.kp _ _ b.own (.inl na.1.1)) (.inl na.1.2);have nomade:(AM BJ (bF .dm A.addr B.addr id)).isNone=true:=by cases id<;>rfl
     have made:EL (call (e+2)) .DMax [.ref A'.addr,.ref B'.addr] [] H2 Q:=Qd t.gA t.gB t.dj (.inl rfl) λm H' mk=>mk.outR t trivial q;refine Ak (ih _ (WL s1 hA) _ (by omega)) t.gA rfl λba hba'=>?_
     refine(hba'.mpr (d1▸hba.pos)).symm▸Ak (ih _ (WL s2 hB) _ (by omega)) t.gB rfl λbb hbb'=>?_
     rw[hbb'.mpr (d2▸hbb.pos)];refine AC own (Dh t.gA.rep (t.rp _ b.rA) rfl rfl (AO (λU=>Ar (m:=BJ) own nomade rfl made) λU=>?_));refine AC own (Dh t.gB.rep (t.rp _ b.rB) rfl rfl (AO (λU=>Ar (m:=BJ) own nomade rfl made) λU=>?_));exact t.self g q
    refine AO (λU=>CV cA b.gA rfl λma hma=>CV cB b.gB rfl λmb hmb=>?_) λU=>rest [];refine AO (λz=>absurd (of_decide_eq_true z) (by omega)) λU=>JO ?_
    refine AO (λz=>absurd (of_decide_eq_true z) (by omega)) λU=>?_
    exact AO (λz=>absurd (of_decide_eq_true z) (by omega)) λU=>rest [(Cj,.int ma),(Cm,.int mb)]
 rcases hv with rfl|⟨r,hr,rfl⟩
 ·exact key 0 (Wq _)
 ·exact key r hr
theorem Qv{vs:List V}(ih:Ih n d)(he:d<=e)(hA:sz A<=n)(hB:sz B<=n)(g:AS H (.bin .inter a A B))(hv:vs=[]\/∃r:Int,r<=0/\vs=[.int r])(q:C4 H (.bin .inter a A B) Q):call (e+5) D3 (.ref a::vs) [] H Q:=by
 refine Aj (Bk.start g) λid hc b=>?_;cases CE rfl hc
 have cA:=ih _ hA (e+4) (by omega)
 have cB:=ih _ hB (e+4) (by omega)
 have na:=Of g.nd;have key:∀r:Int,r<=0->A4 (call (e+4)) [] EA [(AA,.ref a),(AD,.int r)] H (Ah Q):=λr hr=>by
  have nul:¬ (Av A.den/\Av B.den)->call (e+4) AQ [] [] H Q:=λh=>Eu (T:=.bin .inter a A B) (λz=>h (C3 z)) q;refine AC b.own (AC b.own (Ak cA b.gA rfl λba hba=>Ak cB b.gB rfl λbb hbb=>?_));cases ba with
  | false=>exact nul λh=>hba.neg h.1
  | true =>
   cases bb with
   | false=>exact nul λh=>hbb.neg h.2
   | true =>
    have rest:∀{u v:Int} {t:As},u<=0->v<=0->AM Fc t=some (.int u)->AM Fd t=some (.int v)->A4 (call (e+4)) [] (EA.drop 6) ((AA,.ref a)::(AD,.int r)::(A3,.ref A.addr)::(A8,.ref B.addr)::(An,.bool true)::(Am,.bool true)::t) H (Ah Q):=λ{u v t} hu hv tu tv=>by
     refine b.rA.m1 rfl ?_
     show op (AM Fc t) _
     refine tu.symm▸cA.repl b.gA (.inr ⟨u,hu,rfl⟩) λA' H1 w1 g1 d1 s1 c1 f1=>?_;have gB1:=b.gB.q w1;refine gB1.rep.m1 rfl ?_
     show op (AM Fd t) _
     refine tv.symm▸cB.repl gB1 (.inr ⟨v,hv,rfl⟩) λB' H2 w2 g2 d2 s2 c2 f2=>?_;have t:=KP.of b.rB na.2.2.2 w1 g1 d1 s1 c1 f1 w2 g2 d2 s2 c2 f2;have own:=w2.fr.kp _ _ (w1.fr.kp _ _ b.own (.inl na.1.1)) (.inl na.1.2);have made:EL (call (e+3)) .Inter [.ref A'.addr,.ref B'.addr] [] H2 Q:=MD ih he (WL s1 hA) (WL s2 hB) t.gA t.gB t.dj λm A2 B2 H' mk U=>mk.outR t (by exact d1.symm▸d2.symm▸g.ok.2.2) q
     refine Ak (ih _ (WL s1 hA) _ (by omega)) t.gA rfl λba hba'=>?_
     refine(hba'.mpr (d1▸hba.pos)).symm▸Ak (ih _ (WL s2 hB) _ (by omega)) t.gB rfl λbb hbb'=>?_
     rw[hbb'.mpr (d2▸hbb.pos)];refine AC own (Dh t.gA.rep (t.rp _ b.rA) rfl rfl (AO (λU=>Ar (m:=BJ) own rfl rfl made) λU=>?_));refine AC own (Dh t.gB.rep (t.rp _ b.rB) rfl rfl (AO (λU=>Ar (m:=BJ) own rfl rfl made) λU=>?_));exact t.self g q
    refine AO (λU=>CV cA b.gA rfl λma hma=>CV cB b.gB rfl λmb hmb=>?_) λU=>rest (u:=0) (v:=0) (t:=[(Fc,.int 0),(Fd,.int 0)]) (by decide) (by decide) rfl rfl
    exact AO (λz=>absurd (of_decide_eq_true z) (by omega)) λU=>rest (u:=r-mb) (v:=r-ma) (t:=[(Cj,.int ma),(Cm,.int mb),(Fc,.int (r-mb)),(Fd,.int (r-ma))]) (by omega) (by omega) rfl rfl
 rcases hv with rfl|⟨r,hr,rfl⟩
 ·exact key 0 (Wq _)
 ·exact key r hr
theorem Qw{vs:List V}(ih:Ih n d)(he:d<=e)(hA:sz A<=n)(hB:sz B<=n)(g:AS H (.bin .anot a A B))(hv:vs=[]\/∃r:Int,r<=0/\vs=[.int r])(q:C4 H (.bin .anot a A B) Q):call (e+5) Db (.ref a::vs) [] H Q:=by
 refine Aj (Bk.start g) λid hc b=>?_;cases CE rfl hc
 have cA:=ih _ hA (e+4) (by omega)
 have cB:=ih _ hB (e+4) (by omega)
 have na:=Of g.nd;have ok:=g.ok.2.2;have key:∀r:Int,r<=0->A4 (call (e+4)) [] De [(AA,.ref a),(AD,.int r)] H (Ah Q):=λr hr=>by
  refine AC b.own (Ak cA b.gA rfl λba hba=>?_);cases ba with
  | false =>
   have nul:call (e+4) AQ [] [] H Q:=Eu (T:=.bin .anot a A B) (λz=>hba.neg (KL z)) q;exact nul
  | true =>
   have rest:A4 (call (e+4)) [] [.cond (.not (.e (.meth (.attr (.var AA) A8) AB [] []))) [.ret (.meth (.attr (.var AA) A3) AL [.var AD] [])] []] [(AA,.ref a),(AD,.int r)] H (GU (λρ H=>A4 (call (e+4)) [] (De.drop 1) ρ H (Ah Q)) (Ah Q)):=by
    refine AC b.own (Ak cB b.gB rfl λbb hbb=>?_);cases bb with
    | false =>
     exact AC b.own (CD cA b.gA rfl (.inr ⟨r,hr,rfl⟩) (FT (T:=.bin .anot a A B) (S:=A) (λx h=>.tail _ (WR _ h)) (by show _=dN A.den B.den;rw[IR hbb.neg];rfl) (by show _<=sz A+sz B+1;omega) (λh=>h) q))
    | true =>
     refine tB (JO (Bu (Et (AC b.own (CD cA b.gA rfl (.inr ⟨r,hr,rfl⟩) λA' H1 w1 g1 d1 s1 c1 f1=>?_)))));have gB1:=b.gB.q w1;have own1:=w1.fr.kp _ _ b.own (.inl na.1.1);refine AC own1 (CD cB gB1 rfl (.inl rfl) λB' H2 w2 g2 d2 s2 c2 f2=>?_);have t:=KP.of b.rB na.2.2.2 w1 g1 d1 s1 c1 f1 w2 g2 d2 s2 c2 f2;have own:=w2.fr.kp _ _ own1 (.inl na.1.2);have made:EL (call (e+3)) .AndNot [.ref A'.addr,.ref B'.addr] [] H2 Q:=Om ih he (WL s1 hA) (WL s2 hB) t.gA t.gB t.dj (by exact d1.symm▸d2.symm▸(λx hx d h=>XO (ok.1 x hx d h))) (by rw[d1,d2];exact ok.2) λm A2 B2 H' mk=>mk.outR t (by show LK .anot _ _;rw[d1,d2];exact ok) q
     refine AC own (Dh t.gA.rep (t.rp _ b.rA) rfl rfl (AO (λU=>Ar (m:=BJ) own rfl rfl made) λU=>?_));refine AC own (Dh t.gB.rep (t.rp _ b.rB) rfl rfl (AO (λU=>Ar (m:=BJ) own rfl rfl made) λU=>?_));exact t.self g q
   exact tB (JO (AO (λU=>AC b.own (CV cA b.gA rfl λma hma=>AO (λz=>absurd (of_decide_eq_true z) (by omega)) λU=>JO rest)) λU=>JO rest))
 rcases hv with rfl|⟨r,hr,rfl⟩
 ·exact key 0 (Wq _)
 ·exact key r hr
theorem Si{vs:List V}(ih:Ih n d)(he:d<=e)(hA:sz A<=n)(hB:sz B<=n)(g:AS H (.bin .maybe a A B))(hv:vs=[]\/∃r:Int,r<=0/\vs=[.int r])(q:C4 H (.bin .maybe a A B) Q):call (e+4) Cy (.ref a::vs) [] H Q:=by
 refine Aj (Bk.start g) λid hc b=>?_;cases CE rfl hc
 have cA:=ih _ hA (e+3) (by omega)
 have cB:=ih _ hB (e+3) (by omega)
 have na:=Of g.nd;have ok:=g.ok.2.2;have key:∀r:Int,r<=0->A4 (call (e+3)) [] C0 [(AA,.ref a),(AD,.int r)] H (Ah Q):=λr hr=>by
  refine AC b.own (AC b.own (Ak cA b.gA rfl λba hba=>Ak cB b.gB rfl λbb hbb=>?_));cases ba with
  | false =>
   have nul:call (e+3) AQ [] [] H Q:=Eu (T:=.bin .maybe a A B) (λz=>hba.neg (KM.mp z)) q;exact nul
  | true =>
   cases bb with
   | false =>
    have z:BL H (.ref A.addr) AL λf=>call (e+3) f [.ref A.addr,.int r] [] H Q:=CD cA b.gA rfl (.inr ⟨r,hr,rfl⟩) (FT (T:=.bin .maybe a A B) (S:=A) (λx h=>.tail _ (WR _ h)) (by show _=dM A.den B.den;rw[IR hbb.neg];funext d;show _=KB (A.den d) (I5 (A.den d) none);refine LM.symm▸?_;cases A.den d<;>rfl) (by show _<=sz A+sz B+1;omega) (λh=>h) q)
    exact AO (λU=>z) λU=>z
   | true =>
    have rest:A4 (call (e+3)) [] (C0.drop 5) ((AA,.ref a)::(AD,.int r)::(A3,.ref A.addr)::(A8,.ref B.addr)::(An,.bool true)::(Am,.bool true)::[]) H (Ah Q):=by
     refine b.rA.m1 rfl (CV cB b.gB rfl λmb hmb=>?_);refine cA.repl b.gA (.inr ⟨r-mb,by omega,rfl⟩) λA' H1 w1 g1 d1 s1 c1 f1=>?_
     have gB1:=b.gB.q w1;have gA1:=b.gA.q w1;refine gB1.rep.m1 rfl (CV cA gA1 rfl λma hma=>?_);refine cB.repl gB1 (.inr ⟨r-ma,by omega,rfl⟩) λB' H2 w2 g2 d2 s2 c2 f2=>?_
     have t:=KP.of b.rB na.2.2.2 w1 g1 d1 s1 c1 f1 w2 g2 d2 s2 c2 f2;have own:=w2.fr.kp _ _ (w1.fr.kp _ _ b.own (.inl na.1.1)) (.inl na.1.2);have made:EL (call (e+2)) .AndMaybe [.ref A'.addr,.ref B'.addr] [] H2 Q:=Qj ih he (WL s1 hA) (WL s2 hB) t.gA t.gB t.dj (by exact d1.symm▸d2.symm▸ok.2) λm A2 B2 H' mk=>mk.outR t (by show LK .maybe _ _;rw[d1,d2];exact ok) q
     refine Dh t.gA.rep (t.rp _ b.rA) rfl rfl (AO (λU=>Ar (m:=BJ) own rfl rfl made) λU=>?_);refine Dh t.gB.rep (t.rp _ b.rB) rfl rfl (AO (λU=>Ar (m:=BJ) own rfl rfl made) λU=>?_);exact t.self g q
    refine AO (λU=>CV cA b.gA rfl λma hma=>CV cB b.gB rfl λmb hmb=>AO (λz=>absurd (of_decide_eq_true z) (by omega)) λU=>CV cA b.gA rfl λma hma=>AO (λz=>absurd (of_decide_eq_true z) (by omega)) λU=>rest) λU=>rest
 rcases hv with rfl|⟨r,hr,rfl⟩
 ·exact key 0 (Wq _)
 ·exact key r hr
theorem SG.outR{A' A2:Tr}{H2:MH}(mk:SG uk H1 A' m uk' A2 H2)(w1:Qt H H1 (fp A))(d1:A'.den=A.den)(s1:sz A'<=sz A)(c1:True->True)(f1:∀x∈fp A',x∈fp A\/H x=none)(ok:okU uk A'.den)(hd:dA uk A.den=dA Ut A.den)(hs:∀T,Mine.sc (.una uk a T)=Mine.sc (.una Ut a T))(q:C4 H (.una Ut a A) Q):Q (.ref m) H2:=by
 refine q (.una uk' m A2) H2 ⟨(w1.fr.more mk.fr f1).mono λx h=>.tail _ h,λS r=>mk.qt ok S (w1.rp S r)⟩ mk.good ?_ ?_ ?_ λx hx=>?_
 ·show dA uk' A2.den=dA Ut A.den;rw[mk.den,d1,hd]
 ·show sz A2+1<=sz A+1;rw[mk.eA.sz];omega
 ·exact λh=>h
 ·rcases Wb.mp hx with rfl|hx
  ·exact .inr (w1.fr.dm _ mk.nn)
  ·rw[mk.eA.fp] at hx;exact(f1 x hx).imp (Zw _) id
theorem KQ{vs:List V}(ih:Ih n d)(he:d<=e)(hA:sz A<=n)(g:AS H (.una uk a A))(hv:vs=[]\/∃r:Int,r<=0/\vs=[.int r])(q:C4 H (.una uk a A) Q):call (e+4) B4 (.ref a::vs) [] H Q:=by
 have na:=(W3.mp g.nd).1;have hch:AM AJ (uF A.addr uk)=some (.ref A.addr):=by cases uk<;>rfl
 have key:∀r:Int,r<=0->A4 (call (e+3)) [] Gd [(AA,.ref a),(AD,.int r)] H (Ah Q):=λr hr=>by
  refine AC g.rep.1 ?_;refine hch.symm▸CD (ih _ hA _ (by omega)) g.uA rfl (.inr ⟨r,hr,rfl⟩) λA' H1 w1 g1 d1 s1 c1 f1=>?_
  have own:=w1.fr.kp _ _ g.rep.1 (.inl na);have hx:=uX.keep w1.fr g.rep.2.1;have gq:=g.q w1;have made:BL H1 (.ref a) BH λf=>call (e+3) f [.ref a,.ref A'.addr] [] H1 Q:=by
   have hsz:=WL s1 hA;have ok:=g.ok.2;have go:∀f,Bh (uC uk) BH=some f->call (e+3) f [.ref a,.ref A'.addr] [] H1 Q->BL H1 (.ref a) BH λf=>call (e+3) f [.ref a,.ref A'.addr] [] H1 Q:=λf hf k=>Ar own (by cases uk<;>rfl) hf k
   cases uk with
   | filt sa ys ex bo =>
    refine go _ rfl ?_;exact(AC own (AC own (AC own (ED rfl λm h=>LN ih he hsz g1 hx ok.1.2.2 ⟨ok.1.1,ok.1.2.1⟩ h λA2 H2 mk=>mk.outR w1 d1 s1 c1 f1 (by rw[d1];exact ok) rfl (λU=>rfl) q))):A4 (call (e+2)) [] DT [(AA,.ref a),(BZ,.ref A'.addr)] H1 (Ah Q))
   | inv ma lim wt j =>
    refine go _ rfl ?_;exact(AC own (AC own (AC own (AC own (ED rfl λm h=>M7 ih he hsz g1 ok.1 (.inr ⟨ma,rfl,hx⟩) h λt t' j' A2 H2 mk=>mk.outR w1 d1 s1 c1 f1 (by rw[d1];exact ok) rfl (λU=>rfl) q)))):A4 (call (e+2)) [] DI [(AA,.ref a),(BZ,.ref A'.addr)] H1 (Ah Q))
   | con s =>
    refine go _ rfl ?_;exact(AC own (Ov g1 ok λm H2 mk=>mk.outR w1 d1 s1 c1 f1 ok rfl (λU=>rfl) q):A4 (call (e+2)) [] Dv [(AA,.ref a),(BZ,.ref A'.addr)] H1 (Ah Q))
  refine AC own ?_;refine hch.symm▸(Dh g1.rep gq.rep.2.2 rfl rfl (AO (λU=>made) λU=>?_));exact q _ H1 (w1.mono λx h=>.tail _ h) gq rfl (WY _) (λh=>h) λx h=>.inl h
 rcases hv with rfl|⟨r,hr,rfl⟩
 ·exact key 0 (Wq _)
 ·exact key r hr
theorem Qx{i:Nat}{vs:List V}(ih:Ih n d)(he:d<=e)(hA:sz A<=n)(hB:sz B<=n)(g:AS H (.req a i A B))(hv:vs=[]\/∃r:Int,r<=0/\vs=[.int r])(q:C4 H (.req a i A B) Q):call (e+5) DG (.ref a::vs) [] H Q:=by
 have gi:=g.rI;refine Aj (Bk.start gi) λid hc b=>?_;cases CE rfl hc
 have cA:=ih _ hA (e+4) (by omega)
 have cB:=ih _ hB (e+4) (by omega)
 have na:=Of gi.nd;have nr:=(W3.mp g.nd).1;have nA:a∉fp A:=λz=>nr (.tail _ (WR _ z));have nB:a∉fp B:=λz=>nr (.tail _ (WP _ z));have key:∀r:Int,r<=0->A4 (call (e+4)) [] DJ [(AA,.ref a),(AD,.int r)] H (Ah Q):=λr hr=>by
  refine AC g.rep.1 (Ar g.rep.2.1 rfl rfl (Fw ih (e:=e+3) (by omega) hA hB b λba hba=>?_))
  cases ba with
  | false =>
   have nul:call (e+4) AQ [] [] H Q:=Eu (T:=.req a i A B) (λz=>nomatch hba.mpr (C3 (MG.mp z))) q;exact nul
  | true =>
   have hAB:=hba.mp rfl;have rest:A4 (call (e+4)) [] (DJ.drop 1) [(AA,.ref a),(AD,.int r)] H (Ah Q):=by
    refine AC g.rep.1 (CD cA b.gA rfl (.inr ⟨r,hr,rfl⟩) λA' H1 w1 g1 d1 s1 c1 f1=>?_);have own1:=w1.fr.kp _ _ g.rep.1 (.inl nA);refine AC own1 (CD cB (b.gB.q w1) rfl (.inl rfl) λB' H2 w2 g2 d2 s2 c2 f2=>?_);have t:=KP.of b.rB na.2.2.2 w1 g1 d1 s1 c1 f1 w2 g2 d2 s2 c2 f2;have own:=w2.fr.kp _ _ own1 (.inl nB);have gB2:AS H2 B:=⟨t.rp _ b.rB,b.oB,(Of gi.nd).2.2.1⟩;have dj2:∀x∈fp A',x∉fp B:=λx hx hx'=>by
     rcases f1 x hx with h|h
     ·exact na.2.2.2 x h hx'
     ·refine Aj (b.rB.fps x hx') λo e U=>?_;exact nS h e
    have made:EL (call (e+4)) .Require [.ref A'.addr,.ref B.addr] [] H2 Q:=Ow ih he (WL s1 hA) hB t.gA gB2 dj2 λm j A2 B2 H3 mk=>by
     refine q (.req m j A2 B2) H3 ⟨(t.fr.more mk.fr λx hx=>?_).mono λx h=>.tail _ (.tail _ h),λS r=>mk.qt (by rw[d1];exact g.ok.2.2) S (t.rp S r)⟩ mk.good ?_ ?_ ?_ λx hx=>?_
     ·exact(W2.mp hx).elim (λh=>t.nf x (WR _ h)) λh=>.inl (WP _ h)
     ·show dR A2.den B2.den=dR A.den B.den;exact mk.den▸d1▸rfl
     ·show sz A2+sz B2+2<=sz A+sz B+2;rw[mk.eA.sz,mk.eB.sz];omega
     ·exact λh=>h
     ·rcases Wb.mp hx with rfl|hx
      ·exact .inr (t.fr.dm _ mk.nm)
      ·rcases Wb.mp hx with rfl|hx
       ·exact .inr (t.fr.dm _ mk.ni)
       ·rw[mk.eA.fp,mk.eB.fp] at hx;refine(W2.mp hx).elim (λh=>(t.nf x (WR _ h)).imp (λz=>.tail _ (.tail _ z)) (λz=>z)) λh=>.inl (.tail _ (.tail _ (WP _ h)))
    refine Ak (ih _ (WL s1 hA) _ (by omega)) t.gA rfl λbb hbb=>?_
    refine(hbb.mpr (d1▸hAB.1)).symm▸tB (JO (AC own (Dh t.gA.rep (t.rp _ b.rA) rfl rfl (AO (λU=>AC own made) λU=>?_))));refine AC own (Dh t.gB.rep (t.rp _ b.rB) rfl rfl (AO (λU=>AC own made) λU=>?_));exact q _ H2 ⟨t.fr.mono λx h=>.tail _ (.tail _ h),t.rp⟩ (g.q (F:=fp A++fp B) ⟨t.fr,t.rp⟩) rfl (WY _) (λh=>h) λx h=>.inl h
   exact tB (JO (AO (λU=>AC g.rep.1 (CV cA b.gA rfl λma hma=>AO (λz=>absurd (of_decide_eq_true z) (by omega)) λU=>rest)) λU=>rest))
 rcases hv with rfl|⟨r,hr,rfl⟩
 ·exact key 0 (Wq _)
 ·exact key r hr
end
end Mine
end
section
namespace Mine
open PySem
section
variable{n d e a i:Nat}{A B:Tr}
theorem Qy:GL (e+8) (.null a) :=
 ⟨λg q=>by exact(q false (Ms.f λ⟨_,z⟩=>z rfl):A4 (call (e+7)) [] FN [(AA,.ref a)] _ (Ah _)),λU ⟨_,z⟩=>absurd rfl z,
  λg q=>by exact(q 0 (Wq _):A4 (call (e+7)) [] Ef [(AA,.ref a)] _ (Ah _)),λU ⟨_,z⟩=>absurd rfl z,λU ⟨_,z⟩=>absurd rfl z,
  λg hv q=>Pv g hv q⟩
theorem Qz{la wa j:Nat}{ds:List (Int×List Nat)}{t:Nat×Nat}:GL (e+8) (.leaf a la wa j ds t):=by
 have act:∀{H},AS H (.leaf a la wa j ds t)->Av (Tr.leaf a la wa j ds t).den->j<ds.length:=λg h=>(MB g.ok).mp h;refine⟨λg q=>Es g.rep g.ok q,λg ha q=>Od g.rep g.ok (act g ha) (q _ _ .refl (Mu g.ok (act g ha)).1),
  λg q=>Oe g.rep g.ok q,λ{H Q} g ha q=>Pi g.rep ?_,λ{H Q y} g ha q=>?_,λg hv q=>Pw g hv q⟩
 ·have h:=act g ha;refine Az (KH (j:=j+1) g.rep) λr' f=>?_;exact q .none _ (.leaf a la wa (j+1) ds t) _ (.inl rfl) ⟨rfl,rfl,rfl,rfl,⟨g.ok.1,g.ok.2.1,h,g.ok.2.2.2⟩,r',f⟩ (Mu g.ok h).1 (SY g.ok h)
 ·have h:=act g ha;have hd:=(Mu g.ok h).1;refine Pj g.rep g.ok h (λj' ok' r' f e' st=>q .none (.leaf a la wa j' ds t) _ (.inl rfl) ⟨rfl,rfl,rfl,rfl,ok',r',f⟩ e' λz hz l S r=>?_) λlt=>q .none _ H (.inl rfl) (.refl g) (C1 hd (XO lt)).symm λU U U S r=>r;refine(st (hz.uniq hd▸l)).symm▸?_;have z:BB (H.put a (.inst .Leaf (Ch la wa j t.1))) S:=by rw[Mx g.rep.1];exact r
  exact z
theorem Sj(ih:Ih n d)(he:d<=e)(hA:sz A<=n)(hB:sz B<=n):GL (e+8) (.bin .uni a A B) :=
 ⟨λg q=>Og ih (e:=e+7) (by omega) hA hB rfl g q,λg ha q=>Qb ih (e:=e+7) (by omega) hA hB rfl g ha q,
  λg q=>let ⟨_,_,b⟩:=Bk.start g;Np (k:=.uni) ih (e:=e+7) (by omega) hA hB b q,λg ha q=>M2 ih (e:=e+7) (by omega) hA hB rfl g ha q,λg ha q=>M3 ih (e:=e+7) (by omega) hA hB rfl g q,
  λg hv q=>Qu ih (e:=e+5) (by omega) hA hB g hv q⟩
theorem con_dm(ih:Ih n d)(he:d<=e)(hA:sz A<=n)(hB:sz B<=n):GL (e+8) (.bin .dm a A B) :=
 ⟨λg q=>Og ih (e:=e+7) (by omega) hA hB rfl g q,λg ha q=>Qb ih (e:=e+7) (by omega) hA hB rfl g ha q,
  λg q=>dm_mq ih (e:=e+7) (by omega) hA hB g q,λg ha q=>M2 ih (e:=e+7) (by omega) hA hB rfl g ha q,λg ha q=>M3 ih (e:=e+7) (by omega) hA hB rfl g q,
  λg hv q=>Sh ih (e:=e+4) (by omega) hA hB g hv q⟩
theorem Sl(ih:Ih n d)(he:d<=e)(hA:sz A<=n)(hB:sz B<=n):GL (e+8) (.bin .inter a A B):=by
 refine⟨λ{H Q} g q=>?_,λg ha q=>int_id ih (e:=e+7) (by omega) hA g ha q,
  λg q=>let ⟨_,_,b⟩:=Bk.start g;Np (k:=.inter) ih (e:=e+7) (by omega) hA hB b q,λg ha q=>M4 ih (e:=e+6) (by omega) hA hB g ha λv x A' B' H' f u U U hx e U U=>q v x _ H' f u hx e,λg ha q=>M5 ih (e:=e+6) (by omega) hA hB g ha λv A' B' H' f u U U e st U U=>q v _ H' f u e st,
  λg hv q=>Qv ih (e:=e+3) (by omega) hA hB g hv q⟩
 ·refine Aj (Bk.start g) λid hc b=>?_;cases CE rfl hc
  refine Fw ih (e:=e+7) (by omega) hA hB b λt ht=>q t ⟨λz=>?_,λz=>ht.mpr (C3 z)⟩
  refine FS (g.ok.2.2.hd b.oA.bd b.oB.bd (ht.mp z).1 (ht.mp z).2) λx U U h=>?_;exact h.act
theorem Sm(ih:Ih n d)(he:d<=e)(hA:sz A<=n)(hB:sz B<=n):GL (e+8) (.bin .anot a A B):=by
 refine⟨λ{H Q} g q=>?_,λg ha q=>not_id ih (e:=e+7) (by omega) hA g ha q,
  λg q=>not_mq ih (e:=e+7) (by omega) hA g q,λg ha q=>Qg ih (e:=e+6) (by omega) hA hB g ha q,λg ha q=>Qh ih (e:=e+6) (by omega) hA hB g ha q,
  λg hv q=>Qw ih (e:=e+3) (by omega) hA hB g hv q⟩
 refine Aj (Bk.start g) λid hc b=>?_;cases CE rfl hc
 exact Sb ih (e:=e+7) (by omega) hA b λt ht=>q t (ht.trans (Sa b.oA.bd g.ok.2.2.1).symm)
theorem con_mb(ih:Ih n d)(he:d<=e)(hA:sz A<=n)(hB:sz B<=n):GL (e+8) (.bin .maybe a A B):=by
 refine⟨λ{H Q} g q=>?_,λg ha q=>mb_id ih (e:=e+7) (by omega) hA g ha q,
  λg q=>let ⟨_,_,b⟩:=Bk.start g;Np (k:=.maybe) ih (e:=e+7) (by omega) hA hB b q,λg ha q=>Sc ih (e:=e+7) (by omega) hA hB g ha q,λg ha q=>Sd ih (e:=e+7) (by omega) hA hB g ha q,
  λg hv q=>Si ih (e:=e+4) (by omega) hA hB g hv q⟩
 refine Aj (Bk.start g) λid hc b=>?_;cases CE rfl hc
 exact mb_act ih (e:=e+7) (by omega) hA b λt ht=>q t (ht.trans KM.symm)
theorem Q0{sa:Nat}{ys:List Int}{ex:Bool}{bo:Int}(ih:Ih n d)(he:d<=e)(hA:sz A<=n):GL (e+8) (.una (.filt sa ys ex bo) a A):=by
 have up:∀{H H'},Qt H H' (fp A)->Qt H H' (fp (.una (.filt sa ys ex bo) a A)):=λw=>w.mono λx m=>.tail _ m;refine⟨λg q=>M6 ih (e:=e+7) (by omega) hA g.uA g.rep.1 rfl λt ht=>q t (ht.trans (dF_act (bo:=bo) g.uA.ok.bd g.ok.2.2).symm),λ{H Q} g ha q=>?_,
  λg q=>Ot ih (e:=e+7) (by omega) hA g.uA g.rep.1 rfl rfl ⟨g.ok.2.1.1,g.ok.2.1.2.1⟩ q,λg ha q=>Pp ih (e:=e+6) (by omega) hA g ha q,λg ha q=>Pq ih (e:=e+6) (by omega) hA g ha q,
  λg hv q=>KQ ih (e:=e+4) (by omega) hA g hv q⟩
 refine CT ((Jj (bo:=bo) ha).hd g.uA.ok.bd) λx hx=>?_;exact Os ih (e:=e+7) (by omega) hA g.uA g.rep.1 rfl hx λH' w=>q x H' (up w) (On (bo:=bo) hx (g.ok.2.2 x hx))
theorem Sn{ma:Nat}{lim wt j:Int}(ih:Ih n d)(he:d<=e)(hA:sz A<=n):GL (e+8) (.una (.inv ma lim wt j) a A):=by
 have act:∀{H},AS H (.una (.inv ma lim wt j) a A)->(Av (Tr.una (.inv ma lim wt j) a A).den<->j<lim):=λg=>⟨MF (wt:=wt),λh=>(Oo (wt:=wt) h (g.ok.2.2.2 h)).act⟩;have hd:∀{H},AS H (.una (.inv ma lim wt j) a A)->Av (Tr.una (.inv ma lim wt j) a A).den->Hd (Tr.una (.inv ma lim wt j) a A).den j:=λg h=>have l:=(act g).mp h;Oo (wt:=wt) l (g.ok.2.2.2 l);exact⟨λg q=>Sf g.rep.1 λt ht=>q t (ht.trans (act g).symm),λg ha q=>inv_id g.rep.1 (q j _ .refl (hd g ha)),
  λg q=>Ot ih (e:=e+7) (by omega) hA g.uA g.rep.1 rfl rfl ⟨by decide,by decide⟩ q,λg ha q=>Qm ih (e:=e+6) (by omega) hA g ha q,λg ha q=>Qn ih (e:=e+6) (by omega) hA g ha q,
  λg hv q=>KQ ih (e:=e+4) (by omega) hA g hv q⟩
theorem So{s:Int}(ih:Ih n d)(he:d<=e)(hA:sz A<=n):GL (e+8) (.una (.con s) a A):=by
 have up:∀{H H'},Qt H H' (fp A)->Qt H H' (fp (.una (.con s) a A)):=λw=>w.mono λx m=>.tail _ m;have out:∀{H H' A'},AS H (.una (.con s) a A)->Upd H A H' A'->Upd H (.una (.con s) a A) H' (.una (.con s) a A'):=λg u=>((Uk.start g).mA u).upd (λU=>rfl) trivial g.ok.2;refine⟨λg q=>M6 ih (e:=e+7) (by omega) hA g.uA g.rep.1 rfl λt ht=>q t (ht.trans (ME (s:=s)).symm),λ{H Q} g ha q=>?_,
  λg q=>con_q g.rep.1 (q s g.ok.2),λ{H Q} g ha q=>?_,λ{H Q y} g ha q=>?_,
  λg hv q=>KQ ih (e:=e+4) (by omega) hA g hv q⟩
 ·obtain⟨x,hx⟩:=((ME (s:=s)).mp ha).hd g.uA.ok.bd;exact Os ih (e:=e+7) (by omega) hA g.uA g.rep.1 rfl hx λH' w=>q x H' (up w) ((Qk (s:=s)).mpr hx)
 ·obtain⟨x,hx⟩:=((ME (s:=s)).mp ha).hd g.uA.ok.bd;exact Ps ih (e:=e+7) (by omega) hA g.uA g.rep.1 rfl hx λA' H' u e'=>q .none x _ H' (.inl rfl) (out g u) ((Qk (s:=s)).mpr hx) (by show dC s A'.den=frm (dC s A.den) (x+1);rw[e',Qa])
 ·exact Pu ih (e:=e+7) (by omega) hA g.uA g.rep.1 rfl ((ME (s:=s)).mp ha) λv A' H' f u e' st=>q v _ H' f (out g u) (by show dC s A'.den=frm (dC s A.den) y;rw[e',Qa]) λz hz l S r=>st z ((Qk (s:=s)).mp hz) l S r
theorem Sp(ih:Ih n d)(he:d<=e)(hA:sz A<=n)(hB:sz B<=n):GL (e+8) (.req a i A B):=by
 have up:∀{H H'},Qt H H' (fp A)->Qt H H' (fp (.req a i A B)):=λw=>w.mono λx m=>.tail _ (.tail _ (WR _ m));refine⟨λ{H Q} g q=>?_,λ{H Q} g ha q=>?_,λ{H Q} g q=>?_,
  λg ha q=>Qp ih (e:=e+5) (by omega) hA hB g ha q,λg ha q=>Qq ih (e:=e+5) (by omega) hA hB g ha q,λg hv q=>Qx ih (e:=e+3) (by omega) hA hB g hv q⟩
 ·have gi:=g.rI;refine Aj (Bk.start gi) λid hc b=>?_;cases CE rfl hc
  refine(AC g.rep.1 (Ar g.rep.2.1 rfl rfl (Fw ih (e:=e+6) (by omega) hA hB b λt ht=>q t ⟨λz=>?_,λz=>ht.mpr (C3 (MG.mp z))⟩)):A4 (call (e+7)) [] Df [(AA,.ref a)] H (Ah Q))
  refine FS (g.ok.2.2.hd b.oA.bd b.oB.bd (ht.mp z).1 (ht.mp z).2) λx U U h=>?_;exact MG.mpr h.act
 ·refine AU λGG hG=>?_;refine Tg (Nq g ha) λx h1 h2 h3 h4=>?_;refine hG ?_;clear hG GG;refine(AC g.rep.1 (Ar g.rep.2.1 rfl rfl ?_):A4 (call (e+7)) [] Iy [(AA,.ref a)] H (Ah Q));exact(AC g.rep.2.1 (Bc (ih _ hA (e+6) (by omega)) g.rI.bA rfl h1 λH' w=>q x H' (up w) h4):A4 (call (e+6)) [] Hg [(AA,.ref i)] H (Ah Q))
 ·exact(AC g.rep.1 (CV (ih _ hA (e+7) (by omega)) g.rI.bA rfl q):A4 (call (e+7)) [] DU [(AA,.ref a)] H (Ah Q))
end
theorem IW:∀n,Ih n (8*n)
 | 0=>λT h=>absurd (Qs T) (by omega)
 | n+1=>λT h e he=>by
  have ih:=IW n;obtain⟨e,rfl⟩:∃e',e=e'+8:=⟨e-8,by omega⟩
  have he:8*n<=e:=by omega
  cases T with
  | null a=>exact Qy
  | leaf=>exact Qz
  | bin k a A B =>
   have hA:sz A<=n:=by have:sz A+sz B+1<=n+1:=h;omega
   have hB:sz B<=n:=by have:sz A+sz B+1<=n+1:=h;omega
   cases k
   ·exact Sj ih he hA hB
   ·exact con_dm ih he hA hB
   ·exact Sl ih he hA hB
   ·exact Sm ih he hA hB
   ·exact con_mb ih he hA hB
  | una k a A =>
   have hA:sz A<=n:=by have:sz A+1<=n+1:=h;omega
   cases k
   ·exact Q0 ih he hA
   ·exact Sn ih he hA
   ·exact So ih he hA
  | req a i A B =>
   have hA:sz A<=n:=by have:sz A+sz B+2<=n+1:=h;omega
   have hB:sz B<=n:=by have:sz A+sz B+2<=n+1:=h;omega
   exact Sp ih he hA hB
noncomputable def keys(ds:List (Int×List Nat)):List Int:=ds.map (·.1)
noncomputable def Nr(is:List Int):Prop:=is.Pairwise (· < ·)
noncomputable def PD(ds:List (Int×List Nat)):Prop:=Nr (keys ds)/\∀i∈keys ds,0<=i/\i<10
noncomputable def mkd(is:List Int)(f:Int->Option (List Nat)):List (Int×List Nat):=is.filterMap λi=>(f i).map λs=>(i,s)
noncomputable abbrev GB(ds:List (Int×List Nat)):D:=λd=>C9 d ds
theorem Ay{i:Int}:∀{ds:List (Int×List Nat)},C9 i ds≠none<->i∈keys ds
 | []=>⟨λh=>absurd rfl h,λh=>(nomatch h)⟩
 | p::r=>by
  show(if p.1=i then some p.2 else C9 i r)≠none<->i∈p.1::keys r
  by_cases h:p.1=i
  ·rw[if_pos h];exact⟨λU=>h▸.head _,λU=>Xz _⟩
  ·rw[if_neg h,Ay,Wb];exact⟨.inr,λz=>z.resolve_left λe=>h e.symm⟩
theorem Nt{d:Int}{f:Int->Option (List Nat)}:∀{is:List Int},C9 d (mkd is f)=if d∈is then f d else none
 | []=>(if_neg (W0)).symm
 | i::r=>by
  have ih:=Nt (d:=d) (f:=f) (is:=r);unfold mkd at ih ⊢;rw[W4];by_cases h:i=d
  ·subst h;rw[if_pos (.head _)];cases e:f i with
   | none=>show C9 i (r.filterMap _)=_;rw[ih];split<;>trivial
   | some s=>exact if_pos rfl
  ·have e1:(if d∈i::r then f d else none)=if d∈r then f d else none:=Se ⟨λz=>(Wb.mp z).resolve_left λe=>h e.symm,.tail _⟩
   rw[e1,<- ih];cases e:f i with
   | none=>rfl
   | some s=>exact if_neg h
theorem KS{f:Int->Option (List Nat)}:∀{is:List Int},keys (mkd is f)=is.filter λi=>(f i).isSome
 | []=>rfl
 | i::r=>by
  unfold mkd;rw[W4,ZK];have ih:=KS (f:=f) (is:=r);unfold mkd at ih;cases e:f i with
  | none=>simpa using ih
  | some s=>simpa [keys] using ih
theorem PD.mkd{is:List Int}{f:Int->Option (List Nat)}(h:Nr is)(b:∀i∈is,f i≠none->0<=i/\i<10):PD (Mine.mkd is f):=by
 unfold PD Nr;refine KS.symm▸⟨h.filter _,λi hi=>?_⟩;obtain⟨h1,h2⟩:=XL.mp hi;exact b i h1 (Option.isSome_iff_ne_none.mp h2)
theorem Nr.nd{is:List Int}(h:Nr is):is.Nodup:=h.imp λz=>Int.ne_of_lt z
theorem LO:∀{l r:List (Int×V)},((r++l).map (·.1)).Nodup->l.foldl (λd p=>ID p.1 p.2 d) r=r++l
 | [],r,_=>(XI r).symm
 | p::l,r,h=>by
  have e:ID p.1 p.2 r=r++[p]:=by
   unfold ID;rw[if_neg];intro z;refine Aj (List.any_eq_true.mp z) λq hq e=>?_;rw[YB,XK] at h;exact(YZ.mp h).2.2 q.1 (XP hq) p.1 (.head _) (by simpa using e)
  rw[List.foldl_cons,e,LO (by rwa [Xv]),Xv];rfl
theorem Sq{x:Int}:∀{l:List Int},(∀y∈l,x<y)->Me x l=x::l
 | [],_=>rfl
 | y::r,h=>if_pos (XO (h y (.head _)))
theorem IX:∀{l:List Int},Nr l->Jy l=l
 | [],_=>rfl
 | x::r,h=>by
  refine Az (XS.mp h) λh1 h2=>?_
  show Me x (Jy r)=_
  rw[IX h2,Sq h1]
theorem PD.s64{ds:List (Int×List Nat)}(h:PD ds):ds.length<64:=by
 have hl:∀(l:List Int) (lo:Int),Nr l->(∀i∈l,lo<=i/\i<10)->lo<=10->(l.length:Int)<=10-lo:=by
  intro l
  induction l with
  | nil=>exact λlo U U h=>Int.sub_nonneg_of_le h
  | cons x r ih =>
   intro lo h b _;refine Az (XS.mp h) λh1 h2=>?_;have bx:=b x (.head _);have:=ih (x+1) h2 (λi hi=>⟨h1 i hi,(b i (.tail _ hi)).2⟩) (by omega)
   rw[ZL];push_cast;omega
 have:=hl _ 0 h.1 h.2 (by decide)
 unfold keys at this;rw[WS] at this;omega
noncomputable def tms(ts:List Nat):List (Nat×Nat):=ts.map λj=>(8,j)
theorem MW.length{H:MH}:∀{vs is},MW H vs is->vs.length=is.length
 | _,_,.nil=>rfl
 | _,_,.cons _ h=>congrArg (·+1) h.length
theorem MW.frame{H H':MH}{F}(f:Ao H H' F):∀{vs is},MW H vs is->MW H' vs is
 | _,_,.nil=>.nil
 | _,_,.cons h r=>.cons (f.kp _ _ h (.inr rfl)) (r.frame f)
theorem MW.append{H:MH}:∀{vs is us js},MW H vs is->MW H us js->MW H (vs++us) (is++js)
 | _,_,_,_,.nil,k=>k
 | _,_,_,_,.cons h r,k=>.cons h (r.append k)
noncomputable def TL(H:MH)(v:V)(ts:List Nat):Prop:=∃l vs,v=.ref l/\H l=some (.list vs)/\MW H vs (tms ts)
theorem TL.frame{H H':MH}{F v ts}(f:Ao H H' F)(h:TL H v ts):TL H' v ts :=
 let ⟨l,vs,e,h1,h2⟩:=h;⟨l,vs,e,f.kp _ _ h1 (.inr rfl),h2.frame f⟩
inductive DV (H:MH):List (Int×V)->List (Int×List Nat)->Prop
 | nil:DV H [] []
 | cons {i v ts es ds}:TL H v ts->DV H es ds->DV H ((i,v)::es) ((i,ts)::ds)
theorem DV.frame{H H':MH}{F}(f:Ao H H' F):∀{es ds},DV H es ds->DV H' es ds
 | _,_,.nil=>.nil
 | _,_,.cons h r=>.cons (h.frame f) (r.frame f)
theorem DV.keys{H:MH}:∀{es ds},DV H es ds->es.map (·.1)=Mine.keys ds
 | _,_,.nil=>rfl
 | _,_,.cons _ r=>congrArg (_::·) r.keys
theorem DV.len{H:MH}:∀{es ds},DV H es ds->es.length=ds.length
 | _,_,.nil=>rfl
 | _,_,.cons _ r=>congrArg (·+1) r.len
theorem DV.find{H:MH}{i:Int}:∀{es ds},DV H es ds->∀{ts},C9 i ds=some ts->∃v,C7 i es=some v/\TL H v ts
 | _,_,.nil,_,h=>nomatch h
 | _,_,.cons (i:=j) (ts:=tj) h r,ts,k=>by
  have k:(if j=i then some tj else C9 i _)=some ts:=k
  show ∃v,(if j=i then some _ else C7 i _)=some v/\TL H v ts
  by_cases z:j=i
  ·rw[if_pos z] at k ⊢;obtain rfl:=WT k;exact⟨_,rfl,h⟩
  ·rw[if_neg z] at k ⊢;exact r.find k
theorem DV.no{H:MH}{i:Int}:∀{es ds},DV H es ds->C9 i ds=none->C7 i es=none
 | _,_,.nil,_=>rfl
 | _,_,.cons (i:=j) (ts:=tj) h r,k=>by
  have k:(if j=i then some tj else C9 i _)=none:=k
  show(if j=i then some _ else C7 i _)=none
  by_cases z:j=i
  ·exact sN (if_pos z) k
  ·rw[if_neg z] at k ⊢;exact r.no k
theorem DV.any{H:MH}{i:Int}:∀{es ds},DV H es ds->(es.any λe=>e.1==i)=(C9 i ds).isSome
 | _,_,.nil=>rfl
 | _,_,.cons (i:=j) (ts:=tj) h r=>by
  show((j==i)||List.any _ _)=(if j=i then some tj else C9 i _).isSome
  by_cases z:j=i
  ·rw[if_pos z];simp[z]
  ·rw[if_neg z,r.any];simp[z]
theorem DV.snoc{H:MH}{i v ts}(h:TL H v ts):∀{es ds},DV H es ds->DV H (es++[(i,v)]) (ds++[(i,ts)])
 | _,_,.nil=>.cons h .nil
 | _,_,.cons k r=>.cons k (r.snoc h)
theorem itD{H:MH}{es}{g:Nat}{ds:List (Int×List Nat)}(h:PD ds)(dv:DV H es ds):Lj (.dict es g) ((keys ds).map .int)/\es.length<=1000:=by
 have le:es.length<=1000:=by have:=h.s64;rw[dv.len];omega
 refine⟨?_,le⟩;have z:=Lj.dict (es:=es) (g:=g) le
 rwa [show es.map (λe=>V.int e.1)=(keys ds).map .int from by rw[<- dv.keys,Xf];rfl] at z
theorem G0:∀l:List Int,GS (l.map .int)=some l
 | []=>rfl
 | x::r=>by show(GS (r.map .int)).map (x::·)=_;exact(G0 r)▸rfl
theorem Ao.l{H H':MH}{b o}(f:Ao H H' [])(h:H b=some o):H' b=some o:=f.kp b o h (.inl (W0))
theorem BB.fpi{H:MH}:∀{T:Tr},BB H T->∀x∈fp T,∃c as,H x=some (.inst c as)
 | .null _,_,_,m=>nomatch m
 | .leaf _ _ _ _ _ _,h,_,m=>⟨_,_,Wl.mp m▸h.1⟩
 | .bin k _ _ _,h,x,m=>(Wb.mp m).elim (λe=>let ⟨_,h,_⟩:=h.1;⟨_,_,e▸h⟩) λm=>(W2.mp m).elim (BB.fpi h.2.1 x) (BB.fpi h.2.2 x)
 | .una k _ _,h,x,m=>(Wb.mp m).elim (λe=>⟨_,_,e▸h.1⟩) (BB.fpi h.2.2 x)
 | .req _ _ _ _,h,x,m=>(Wb.mp m).elim (λe=>⟨_,_,e▸h.1⟩) λm=>(Wb.mp m).elim (λe=>⟨_,_,e▸h.2.1⟩) λm=>(W2.mp m).elim (BB.fpi h.2.2.1 x) (BB.fpi h.2.2.2 x)
theorem Ao.ni{H H':MH}{F b o}(f:Ao H H' F)(h:H b=some o)(hF:∀x∈F,∃c as,H x=some (.inst c as))(hn:∀c as,o≠.inst c as):H' b=some o :=
 f.kp b o h (.inl λm=>by refine HI (hF b m) λc as e=>?_;obtain rfl:=WT (e.symm.trans h);exact hn _ _ rfl)
theorem EX{α:Type}{H:MH}{a o}{is:List Int}{body:V->MH->(Option α->MH->Prop)->Prop}{Q:List α->MH->Prop}(ho:H a=some o)(it:Lj o (is.map .int))(f:Int->Option α)(hb:∀i∈is,∀R:Option α->MH->Prop,R (f i) H->body (.int i) H R)(q:Q (is.filterMap f) H):JK H (.ref a) body Q:=by
 unfold JK;refine⟨o,_,ho,it,λi l H'=>H'=H/\l=(is.take i).filterMap f,⟨rfl,rfl⟩,?_,?_⟩
 ·rintro i l H' v hv ⟨rfl,rfl⟩;refine Aj (Wz.mp (XD▸hv)) λj hj z=>?_;obtain rfl:=z;refine⟨ho,hb j (XE hj) _ ⟨rfl,?_⟩⟩;refine CT (W9.mp hj) λhlt e=>?_;rw[Ya hlt,Yd,e];cases h:f j<;>simp[h]
 ·rintro l H' ⟨rfl,rfl⟩;rw[WS,ZM];exact⟨ho,q⟩
theorem cv{H:MH}{a v}{K:V->Prop}(h:H a=some (.cell (some v)))(k:K v):∃v,H a=some (.cell (some v))/\K v:=⟨v,h,k⟩
theorem DA{H:MH}{a o}{is:List Int}{body:V->MH->(Option (Int×V)->MH->Prop)->Prop}{Q:List (Int×V)->MH->Prop}(ho:H a=some o)(it:Lj o (is.map .int))(f:Int->Option (List Nat))
 (hb:∀i∈is,∀H',Ao H H' []->∀R:Option (Int×V)->MH->Prop,(f i=none->R none H')->(∀ts v H'',f i=some ts->Ao H' H'' []->TL H'' v ts->R (some (i,v)) H'')->body (.int i) H' R)
 (q:∀es H',Ao H H' []->DV H' es (mkd is f)->Q es H'):JK H (.ref a) body Q:=by
 unfold JK;refine⟨o,_,ho,it,λk l H'=>Ao H H' []/\DV H' l (mkd (is.take k) f),⟨.refl,.nil⟩,?_,?_⟩
 ·rintro k l H' v hv ⟨fr,dv⟩;refine Aj (Wz.mp (XD▸hv)) λj hj y=>?_;obtain rfl:=y;obtain⟨hlt,e⟩:=W9.mp hj;have tk:is.take (k+1)=is.take k++[j]:=by rw[Ya hlt,e]
  refine⟨fr.kp _ _ ho (.inl W0),hb j (XE hj) H' fr _ (λz=>⟨fr,?_⟩) λts v H'' z f2 tl=>⟨fr.trans f2,?_⟩⟩
  ·rw[tk];unfold mkd;rw[Yd]
   show DV H' (l++[]) _
   rw[XI];simp only[W4,Z0,z,Option.map_none,XI];exact dv
  ·rw[tk];unfold mkd;rw[Yd];simp only[W4,Z0,z,aL];exact(dv.frame f2).snoc tl
 ·rintro l H' ⟨fr,dv⟩;rw[WS,ZM] at dv;exact⟨fr.kp _ _ ho (.inl W0),q _ _ fr dv⟩
theorem DV.fold{H:MH}{es ds}(dv:DV H es ds)(h:Nr (Mine.keys ds)):es.foldl (λd p=>ID p.1 p.2 d) []=es:=by
 have z:=LO (l:=es) (r:=[]) (by rw[ZX,dv.keys];exact h.nd)
 rwa [ZX] at z
structure Pr(H:MH)(m:Nat)(T:Tr)(ds:List (Int×List Nat)):Prop where
 at_:∃p es g,H m=some (.tup [.ref T.addr,.ref p])/\H p=some (.dict es g)/\DV H es ds
 g:AS H T
 d:T.den=GB ds
 pd:PD ds
section
variable{e:Nat}{H:MH}{Q:V->MH->Prop}
theorem E5{lo hi:Int}:(A5 lo hi 1).length=(hi-lo).toNat:=by
 unfold A5;rw[WS,Yb];congr 1;omega
theorem Q1{lo hi:Int}{i:Nat}{v:V}(h:((A5 lo hi 1).map V.int)[i]?=some v):v=.int (lo+i)/\(i:Int)<hi-lo:=by
 replace h:=XD.symm.trans h;refine Aj (Wz.mp h) λj hj z=>?_;obtain rfl:=z;unfold A5 at hj;rw[XD] at hj;refine Aj (Wz.mp hj) λa ha z=>?_;obtain rfl:=z;obtain⟨hl,e⟩:=W9.mp ha;rw[Y2] at e;rw[Yb] at hl;subst e;exact⟨by congr 1;omega,by omega⟩
theorem E6{lo hi i:Int}:i∈A5 lo hi 1<->lo<=i/\i<hi:=by
 unfold A5;rw[Xd];constructor
 ·rintro⟨a,ha,rfl⟩;have:=Zf.mp ha;omega
 ·rintro⟨h1,h2⟩;exact⟨(i-lo).toNat,Zf.mpr (by omega),by omega⟩
theorem G1{lo hi:Int}:Nr (A5 lo hi 1):=by
 unfold A5 Nr;rw[Z9];exact List.pairwise_lt_range.imp λh=>by omega
theorem Ao.wr{H H':MH}{d:Nat}{o o':O}(f:Ao H H' [])(h:H d=none)(hd:H' d=some o')(hr:ro o'=false):Ao H (H'.put d o) [] :=
 f.drop (F:=[d]) (Ao.put (.head _) λo'' z=>by obtain rfl:=WT (hd.symm.trans z);exact hr) λx hx=>by exact(Wl.mp hx).symm▸h
theorem Oy{H:MH}{a b:Nat}{o}(h:H a=none)(k:H b=some o):a≠b:=λz=>by replace h:=k▸z▸h;exact zS h
theorem M8{p:Int->Bool}:∀{is:List Int},(is.filterMap λi=>if p i=true then some (V.int i) else none)=(is.filter p).map .int
 | []=>rfl
 | i::r=>by
  rw[W4,ZK,M8];cases p i<;>rfl
theorem itL{is:List Int}(h:is.length<=1000):Lj (.list (is.map .int)) (is.map .int):=.list (by rw[WS];exact h)
theorem Nu{is:List Int}(h:is.length<=1000):Kw (.list (is.map .int)) is.length:=by
 have z:=Kw.list (vs:=is.map V.int) (by rw[WS];exact h)
 rwa [WS] at z
theorem hasL{is:List Int}{i:Int}(h:is.length<=1000):Iq i (.list (is.map .int)) (decide (i∈is)):=by
 have z:=Iq.list (i:=i) (vs:=is.map V.int) (by rw[WS];exact h) (G0 is)
 rwa [show is.contains i=decide (i∈is) from by rw[List.contains_eq_mem]] at z
theorem Oz{f:Int->V}:∀{L:List Int},(L.filterMap λi=>some (f i))=L.map f
 | []=>rfl
 | x::r=>by rw[W4,Oz];rfl
theorem MI{ts:List Nat}:∀{L:List Int},mkd L (λU=>some ts)=L.map λi=>(i,ts)
 | []=>rfl
 | x::r=>by
  have ih:=MI (ts:=ts) (L:=r);unfold mkd at ih ⊢;rw[W4,ih];rfl
theorem KT{ts:List Nat}{L:List Int}:keys (L.map λi=>(i,ts))=L:=by
 unfold keys;rw[Xf];exact List.map_id L
structure Tp(H:MH)(m:Nat)(T:Tr)(ds:List (Int×List Nat)):Prop where
 at_:∃p es g v,H m=some (.tup [.ref T.addr,.ref p,v])/\H p=some (.dict es g)/\DV H es ds/\TL H v (sc T)
 g:AS H T
 d:T.den=GB ds
 pd:PD ds
section
theorem Px{la wa:Nat}{ds:List (Int×List Nat)}{t:Nat×Nat}(h1:H la=some (.list (ds.map λp=>.int p.1)))(h2:H wa=some (.list (ds.map λU=>.int 1)))(h3:H t.1=some (.tup [.str 8,.str t.2]))(h4:∀p∈ds,p.2=[t.2])(ok:Dg 0 ds)
 (q:∀m,H m=none->AS (H.put m (.inst .Leaf (Ch la wa 0 t.1))) (.leaf m la wa 0 ds t)->Q (.ref m) (H.put m (.inst .Leaf (Ch la wa 0 t.1)))):EL (call (e+1)) .Leaf [.ref la] [(EU,.ref wa),(BG,.ref t.1)] H Q:=by
 refine ED rfl λm hm=>?_;exact(Qr h1 h2 h3 h4 ok hm (q m hm):A4 (call e) [] GV [(AA,.ref m),(DP,.ref la),(EU,.ref wa),(Hs,.none),(Ht,.none),(Hu,.none),(Fa,.int (0:Nat)),(Dl,.none),(BG,.ref t.1),(Fb,.none)] (H.put m (.inst .Leaf [])) (Ah λv H'=>v=.none/\Q (.ref m) H'))
theorem Q2{number:Int}{j:Nat}(q:∀m T ds H',Ao H H' []->Tp H' m T ds->sc T=[j]->sz T=1->(∀x∈fp T,H x=none)->Q (.ref m) H'):call (e+2) Bt [.int number,.str j] [] H Q:=by
 show ∀c1,H c1=none->∀c2,(H.put c1 (.cell (some (.str j)))) c2=none->A4 (call (e+1)) [(Ff,c2),(Il,c1)] HT [(A9,.int number)] ((H.put c1 (.cell (some (.str j)))).put c2 (.cell none)) (Ah Q)
 intro c1 h1 c2 h2;refine⟨.inr (by decide),by decide,_,AE _ _ _,?_⟩
 have f1:=Ao.new0 (o:=.cell (some (.str j))) h1;have f2:=f1.trans (Ao.new0 (o:=.cell none) h2);have hc2:H c2=none:=f1.dm _ h2;have f3:=f2.wr (o:=.cell (some (.int ((number*153+109).fmod 256)))) hc2 (AE _ _ _) rfl;have k2:=AE ((H.put c1 (.cell (some (.str j)))).put c2 (.cell none)) c2 (.cell (some (.int ((number*153+109).fmod 256))));have n12:c1≠c2:=λz=>by rw[<- z,AE] at h2;exact zS h2
 have k1:(((H.put c1 (.cell (some (.str j)))).put c2 (.cell none)).put c2 (.cell (some (.int ((number*153+109).fmod 256))))) c1=some (.cell (some (.str j))):=(AT _ _ n12).trans ((AT _ _ n12).trans (AE _ _ _))
 generalize ((H.put c1 (.cell (some (.str j)))).put c2 (.cell none)).put c2 (.cell (some (.int ((number*153+109).fmod 256))))=H3 at f3 k1 k2 ⊢
 clear f1 f2;intro r hr;have n4:=Ao.new0 (o:=.range 0 8 1) hr;have f4:=f3.trans n4;have c4:=n4.l k2;have d4':=n4.l k1;refine EX (AE _ _ _) (.range (by unfold D6;decide)) (λi=>if(decide ((((number*153+109).fmod 256).fdiv (2 ^ i.toNat)).fmod 2=1))=true then some (V.int i) else none) (λi hi R k=>?_) ?_
 ·refine cv c4 ⟨(E6.mp hi).1,by decide,?_⟩
  refine AO (λz=>?_) λz=>?_
  ·rw[if_pos (by simpa using z)] at k;exact k
  ·rw[if_neg (by simpa using z)] at k;exact k
 refine M8.symm▸?_
 generalize hL:(A5 0 8 1).filter (λi=>decide ((((number*153+109).fmod 256).fdiv (2 ^ i.toNat)).fmod 2=1))=L
 have asc:Nr L:=hL▸G1.filter _;have bd:∀i∈L,0<=i/\i<8:=λi hi=>E6.mp (XL.mp (hL▸hi)).1;have len:L.length<=1000:=by
  have:L.length<=(A5 0 8 1).length:=hL▸YF _ _;exact WL this (by rw[E5];decide)
 clear c4 k1 k2 hL
 generalize H3.put r (.range 0 8 1)=H4 at f4 d4' ⊢
 clear n4 f3;refine⟨by rw[WS];exact len,λl hl=>?_⟩
 have n5:=Ao.new0 (o:=.list (L.map .int)) hl;have f5:=f4.trans n5;have l5:=AE H4 l (.list (L.map .int));have k5:=n5.l d4'
 generalize H4.put l (.list (L.map .int))=H5 at f5 l5 k5 ⊢
 clear n5 f4 d4';refine EX l5 (itL len) (λU=>some (V.int 1)) (λi hi R k=>k) ?_;refine Oz.symm▸⟨by rw[WS];exact len,λwa hwa=>?_⟩
 have n6:=Ao.new0 (o:=.list (L.map λU=>V.int 1)) hwa;have f6:=f5.trans n6;have w6:=AE H5 wa (.list (L.map λU=>V.int 1));have l6:=n6.l l5;have k6:=n6.l k5
 generalize H5.put wa (.list (L.map λU=>V.int 1))=H6 at f6 w6 l6 k6 ⊢
 clear n6 f5 l5 k5;refine cv k6 ⟨WU rfl,λtt htt=>?_⟩;have n7:=Ao.new0 (o:=.tup [.str 8,.str j]) htt;have f7:=f6.trans n7;have t7:=AE H6 tt (.tup [.str 8,.str j]);have l7:=n7.l l6;have w7:=n7.l w6;have k7:=n7.l k6
 generalize H6.put tt (.tup [.str 8,.str j])=H7 at f7 t7 l7 w7 k7 ⊢
 clear n7 f6 l6 w6 k6;refine Px (ds:=L.map λi=>(i,[j])) (t:=(tt,j)) (by rw[Xf];exact l7) (by rw[Xf];exact w7) t7 (λp hp=>by refine Aj (Xd.mp hp) λi U y=>?_;obtain rfl:=y;rfl) ⟨?_,?_,Wh _,by rw[WS];exact len⟩ λa ha g=>?_
 ·rw[Z9];exact asc
 ·intro p hp;refine Aj (Xd.mp hp) λi hi y=>?_;obtain rfl:=y;exact⟨(bd i hi).1,Int.lt_trans (bd i hi).2 (by decide)⟩
 have n8:=Ao.new0 (o:=.inst .Leaf (Ch l wa 0 tt)) ha;have f8:=f7.trans n8;have l8:=n8.l l7;have k8:=n8.l k7;have ha0:=f7.dm _ ha
 generalize H7.put a (.inst .Leaf (Ch l wa 0 tt))=H8 at f8 l8 k8 g ⊢
 clear n8 f7 l7 w7 k7 t7;refine DA l8 (itL len) (λU=>some [j]) (λi hi H' fr R U k=>?_) λes H9 f9 dv=>?_
 ·refine cv (fr.l k8) ⟨WU rfl,λu hu=>⟨WU rfl,λx hx=>?_⟩⟩;have m1:=Ao.new0 (o:=.tup [.str 8,.str j]) hu;have m2:=Ao.new0 (o:=.list [.ref u]) hx;exact k [j] (.ref x) _ rfl (m1.trans m2) ⟨x,_,rfl,AE _ _ _,.cons (m2.l (AE _ _ _)) .nil⟩
 have el:es.length<=1000:=by rw[dv.len,MI,WS];exact len
 refine⟨el,λgg p hp=>?_⟩;rw[MI] at dv;refine(dv.fold (by rw[KT];exact asc)).symm▸?_
 have n10:=Ao.new0 (o:=.dict es gg) hp;have p10:=AE H9 p (.dict es gg);have k10:=n10.l (f9.l k8);have dv10:=dv.frame n10;have f10:=(f8.trans f9).trans n10;have g10:=(g.nil f9).nil n10
 generalize H9.put p (.dict es gg)=H10 at n10 p10 k10 dv10 f10 g10 ⊢
 refine cv k10 ⟨WU rfl,λu hu=>⟨WU rfl,λx hx=>⟨WU rfl,λm hm=>?_⟩⟩⟩;have m1:=Ao.new0 (o:=.tup [.str 8,.str j]) hu;have m2:=Ao.new0 (o:=.list [.ref u]) hx;have m3:=Ao.new0 (o:=.tup [.ref a,.ref p,.ref x]) hm;have mm:=(m1.trans m2).trans m3;refine q m (.leaf a l wa 0 (L.map λi=>(i,[j])) (tt,j)) (L.map λi=>(i,[j])) _ (f10.trans mm) ⟨⟨p,es,gg,.ref x,AE _ _ _,mm.l p10,dv10.frame mm,⟨x,_,rfl,m3.l (AE _ _ _),.cons (m3.l (m2.l (AE _ _ _))) .nil⟩⟩,g10.nil mm,rfl,?_,?_⟩ rfl rfl λx hx=>?_
 ·rw[KT];exact asc
 ·rw[KT];exact λi hi=>⟨(bd i hi).1,Int.lt_trans (bd i hi).2 (by decide)⟩
 ·exact(Wl.mp hx).symm▸ha0
end
theorem PD.len{ds:List (Int×List Nat)}(h:PD ds):ds.length<=1000:=WL (Xe h.s64) (by decide)
theorem Dw{ds:List (Int×List Nat)}:(keys ds).length=ds.length:=WS _
theorem DV.l3{H:MH}{es ds}(dv:DV H es ds)(h:PD ds):es.length<=1000:=dv.len▸h.len
theorem lenD{H:MH}{es ds}{g:Nat}(dv:DV H es ds)(h:PD ds):Kw (.dict es g) ds.length:=dv.len▸Kw.dict (dv.l3 h)
theorem Nv{H:MH}{es ds}{g:Nat}{i:Int}{ts}(dv:DV H es ds)(h:PD ds)(k:C9 i ds=some ts):∃v,Ky i v (.dict es g)/\TL H v ts :=
 let ⟨v,h1,h2⟩:=dv.find k;⟨v,.dict (dv.l3 h) h1,h2⟩
theorem Py{H:MH}{es ds}{g:Nat}{i:Int}(dv:DV H es ds):Iq i (.dict es g) (decide (i∈keys ds)):=by
 have z:=Iq.dict (i:=i) (es:=es) (g:=g);rw[dv.any] at z;rw[show decide (i∈keys ds)=(C9 i ds).isSome from ?_];· exact z
 cases e:C9 i ds with
 | none=>exact decide_eq_false λh=>Ay.mpr h e
 | some s=>exact decide_eq_true (Ay.mp (by rw[e];exact Xz _))
section
variable{n d:Nat}{A T:Tr}
theorem LP{sa:Nat}{ys:List Int}{ex:Bool}{bo:Int}{us:As}(ih:Ih n d)(he:d<=e)(hA:sz A<=n)(g:AS H A)(hs:H sa=some (.set ys))(hl:ys.length<=1000)(hb:0<=bo/\bo<=1000)(hu:(us=[(Aw,.int bo)]/\ex=false)\/(us=[(EV,.bool true),(Aw,.int bo)]/\ex=true))
 (q:∀m A' H',SG (.filt sa ys ex bo) H A m (.filt sa ys ex bo) A' H'->Q (.ref m) H'):EL (call (e+2)) .Filter [.ref A.addr,.ref sa] us H Q:=by
 have key:∀m,H m=none->A4 (call (e+1)) [] FI [(AA,.ref m),(AJ,.ref A.addr),(DP,.ref sa),(EV,.bool ex),(Aw,.int bo)] (H.put m (.inst .Filter [])) (Ah λv H'=>v=.none/\Q (.ref m) H'):=λm h=>LN ih he hA g hs hl hb h (q m);rcases hu with⟨rfl,rfl⟩|⟨rfl,rfl⟩<;>exact ED rfl key
theorem Q3{lim wt:Int}(ih:Ih n d)(he:d<=e)(hA:sz A<=n)(g:AS H A)(hb:0<=wt/\lim<=1000)
 (q:∀m t t' j' A' H',SG (.inv t lim wt 0) H A m (.inv t' lim wt j') A' H'->Q (.ref m) H'):EL (call (e+2)) .Inverse [.ref A.addr,.int lim] [(Cg,.int wt)] H Q:=by
 have key:∀m,H m=none->A4 (call (e+1)) [] CO [(AA,.ref m),(AJ,.ref A.addr),(A6,.int lim),(Ax,.none),(Cg,.int wt),(Ag,.int 0)] (H.put m (.inst .Inverse [])) (Ah λv H'=>v=.none/\Q (.ref m) H'):=λm h=>M7 ih he hA g ⟨hb.1,Wq _,hb.2⟩ (.inl rfl) h (q m);exact ED rfl key
noncomputable def only(L:List Int)(A:D):D:=λd=>if d∈L then A d else none
theorem Nw{p l gp:Nat}{es:List (Int×V)}{ds:List (Int×List Nat)}{L:List Int}(ih:Ih n d)(he:d<=e)(hT:sz T<=n)(g:AS H T)(hd:T.den=GB ds)(pd:PD ds)(hp:H p=some (.dict es gp))(dv:DV H es ds)(hl:H l=some (.list (L.map .int)))(hL:L.length<=1000)
 (q:∀m T' ds' H',Ao H H' (fp T)->Pr H' m T' ds'->T'.den=only L T.den->sz T'<=sz T+1->sc T'=sc T->(∀x∈fp T',x∈fp T\/H x=none)->Q (.ref m) H'):call (e+3) BV [.ref T.addr,.ref p,.ref l] [] H Q:=by
 show ∀c1,H c1=none->∀c2,(H.put c1 (.cell (some (.ref p)))) c2=none->A4 (call (e+2)) [(B6,c2),(AW,c1)] GA [(AY,.ref T.addr)] ((H.put c1 (.cell (some (.ref p)))).put c2 (.cell (some (.ref l)))) (Ah Q)
 intro c1 h1 c2 h2;have f1:=Ao.new0 (o:=.cell (some (.ref p))) h1;have n2:=Ao.new0 (o:=.cell (some (.ref l))) h2;have f2:=f1.trans n2;have k1:=n2.l (AE H c1 (.cell (some (.ref p))));have k2:=AE (H.put c1 (.cell (some (.ref p)))) c2 (.cell (some (.ref l)))
 generalize (H.put c1 (.cell (some (.ref p)))).put c2 (.cell (some (.ref l)))=H2 at f2 k1 k2 ⊢
 clear f1 n2;have p2:=f2.l hp;have l2:=f2.l hl;refine cv k1 (At p2 ⟨_,_,_,rfl,by rw[dv.len];exact pd.s64,dv.keys,λs hs'=>?_⟩)
 refine(IX pd.1).symm▸?_;have n3:=Ao.new0 (o:=.list ((keys ds).map .int)) hs';have f3:=f2.trans n3;have s3:=AE H2 s (.list ((keys ds).map .int));replace k1:=n3.l k1;replace k2:=n3.l k2;replace p2:=n3.l p2;replace l2:=n3.l l2
 generalize H2.put s (.list ((keys ds).map .int))=H3 at f3 s3 k1 k2 p2 l2 ⊢
 clear n3 f2;have len:=pd.len;refine EX (α:=V) (is:=keys ds) s3 (itL (by rw[Dw];exact len)) (λi=>if decide (i∈L)=true then some (V.int i) else none) (λi hi R hR=>?_) ?_
 ·refine cv k2 ⟨_,_,l2,hasL hL,?_⟩;by_cases z:i∈L
  ·rw[decide_eq_true z] at hR ⊢;exact hR
  ·rw[decide_eq_false z] at hR ⊢;exact hR
 refine(M8 (p:=λi=>decide (i∈L))).symm▸?_
 generalize hins:(keys ds).filter (λi=>decide (i∈L))=ins
 have lins:ins.length<=ds.length:=by exact hins▸Dw▸YF _ _
 have ains:Nr ins:=hins▸pd.1.filter _;have mins:∀i,i∈ins<->i∈keys ds/\i∈L:=λi=>by rw[<- hins,XL,decide_eq_true_iff]
 refine⟨by rw[WS];omega,λr hr=>?_⟩
 have n4:=Ao.new0 (o:=.list (ins.map .int)) hr;have f4:=f3.trans n4;have r4:=AE H3 r (.list (ins.map .int));replace k1:=n4.l k1;replace p2:=n4.l p2
 generalize H3.put r (.list (ins.map .int))=H4 at f4 r4 k1 p2 ⊢
 clear n4 f3 k2 l2 s3;refine At r4 ⟨_,Nu (by omega),cv k1 (At p2 ⟨_,lenD dv pd,AO (λz=>?_) λz=>?_⟩)⟩
 ·have e1:ins.length=(keys ds).length:=by rw[Dw];exact aS (by simpa using z)
  have all:∀i∈keys ds,i∈L:=λi hi=>of_decide_eq_true (List.length_filter_eq_length_iff.mp (hins▸e1) i hi);refine cv k1 ⟨WU rfl,λm hm=>?_⟩;have n5:=Ao.new0 (o:=.tup [.ref T.addr,.ref p]) hm;refine q m T ds _ ((f4.trans n5).mono λx h=>nomatch h) ⟨⟨p,es,gp,AE _ _ _,n5.l p2,dv.frame (f4.trans n5)⟩,g.nil (f4.trans n5),hd,pd⟩ ?_ (X3 _) rfl λx h=>.inl h
  funext d
  unfold only;split
  ·rfl
  ·rename_i h;rw[hd];exact WX λz=>h (all d (Ay.mp z))
 ·refine At r4 ⟨_,_,rfl,G0 _,by omega,λst hst=>?_⟩
  have n5:=Ao.new0 (o:=.set ins) hst;have f5:=f4.trans n5;have s5:=AE H4 st (.set ins);replace k1:=n5.l k1;replace p2:=n5.l p2;replace r4:=n5.l r4
  generalize H4.put st (.set ins)=H5 at f5 s5 k1 p2 r4 ⊢
  clear n5 f4;refine LP ih he hT (g.nil f5) s5 (by omega) ⟨by decide,by decide⟩ (.inl ⟨rfl,rfl⟩) λm A' H6 mk=>?_
  have inst:∀x∈fp T,∃c as,H5 x=some (.inst c as):=(g.nil f5).rep.fpi;have k6:=mk.fr.ni k1 inst λU U z=>nomatch z;have p6:=mk.fr.ni p2 inst λU U z=>nomatch z;have r6:=mk.fr.kp _ _ r4 (.inr rfl);have dv6:=(dv.frame f5).frame mk.fr;have pdm:PD (mkd ins λi=>C9 i ds):=PD.mkd ains λi hi U=>pd.2 i ((mins i).mp hi).1;refine DA r6 (itL (by omega)) (λi=>C9 i ds) (λi hi H' fr R U k=>?_) λes' H6' f6 dv'=>?_
  ·obtain⟨s,hs⟩:=XF.mp (Ay.mpr ((mins i).mp hi).1);obtain⟨v,iv,tl⟩:=Nv (dv6.frame fr) pd hs;exact cv (fr.l k6) (At (fr.l p6) ⟨v,iv,k s v H' hs .refl tl⟩)
  refine⟨dv'.l3 pdm,λgg dd hdd=>?_⟩;refine(dv'.fold pdm.1).symm▸?_;have n7:=Ao.new0 (o:=.dict es' gg) hdd;have d7:=AE H6' dd (.dict es' gg);have dv7:=dv'.frame n7;replace n7:=f6.trans n7
  generalize H6'.put dd (.dict es' gg)=H7 at n7 d7 dv7 ⊢
  refine⟨WU rfl,λtp htp=>?_⟩;have n8:=Ao.new0 (o:=.tup [.ref m,.ref dd]) htp;have f8:=n7.trans n8;have den:dF ins false 1 T.den=only L T.den:=by
   funext d
   unfold dF only keep;rw[hd];by_cases z:d∈ins
   ·have:=(mins d).mp z;rw[if_pos (by simpa using z),if_pos this.2]
   ·rw[if_neg (by simpa using z)]
    split
    ·rename_i h;exact(WX λw=>z ((mins d).mpr ⟨Ay.mp (YN w),h⟩))
    ·rfl
  have den':(Tr.una (.filt st ins false 1) m A').den=only L T.den:=by exact den▸mk.den
  have ff:Ao H _ (fp T):=((f5.mono (G:=fp T) λx h=>nomatch h).trans mk.fr).trans (f8.mono λx h=>nomatch h);refine q tp (.una (.filt st ins false 1) m A') (mkd ins λi=>C9 i ds) _ ff ⟨⟨dd,es',gg,AE _ _ _,n8.l d7,dv7.frame n8⟩,mk.good.nil f8,?_,pdm⟩ den' ?_ mk.eA.sc λx hx=>?_
  ·rw[den']
   funext d
   show _=C9 d (mkd ins λi=>C9 i ds)
   rw[Nt];unfold only;rw[hd];by_cases z:d∈ins
   ·rw[if_pos z,if_pos ((mins d).mp z).2]
   ·rw[if_neg z];split
    ·rename_i h;exact WX λw=>z ((mins d).mpr ⟨Ay.mp w,h⟩)
    ·rfl
  ·show sz A'+1<=sz T+1;exact mk.eA.sz▸WY _
  ·rcases Wb.mp hx with rfl|hx
   ·exact .inr (f5.dm _ mk.nn)
   ·exact .inl (mk.eA.fp▸hx)
end
theorem lkd_of{is:List Int}{f:D}(h:∀d,f d≠none->d∈is):GB (mkd is f)=f:=by
 funext d
 show C9 d _=_
 rw[Nt];split
 ·rfl
 ·rename_i z;exact(WX λw=>z (h d (YN w)))
theorem PD.mem{ds:List (Int×List Nat)}{d:Int}(h:PD ds)(k:GB ds d≠none):0<=d/\d<10:=h.2 d (Ay.mp k)
theorem Gj{p q:Option (List Nat)}{ts m n}(h:I5 p q=some ts)(hp:∀x,p=some x->x.length<=m)(hq:∀x,q=some x->x.length<=n):ts.length<=m+n:=by
 cases p with
 | none=>exact WL (hq _ h) (XA _ _)
 | some x =>
  cases q with
  | none=>obtain rfl:=WT h;exact WL (hp _ rfl) (WZ _ _)
  | some y=>obtain rfl:=WT h;rw[Ws];exact YJ (hp _ rfl) (hq _ rfl)
theorem FU{p q:Option (List Nat)}{ts}(h:KB p q=some ts):q=some ts:=by
 cases p with
 | none=>exact zN h
 | some x=>exact h
theorem BB.lens{H:MH}:∀{T:Tr},BB H T->∀{d ts},T.den d=some ts->ts.length<=sz T
 | .null _,_,_,_,h=>nomatch h
 | .leaf a la wa i ds t,r,d,ts,h=>by
  refine Aj (Gx (d:=d) (l:=ds.drop i) (by show C9 d (ds.drop i)≠none;rw[show C9 d (ds.drop i)=some ts from h];exact Xz _)) λs e m=>?_
  obtain rfl:=WT ((show C9 d (ds.drop i)=some ts from h).symm.trans e)
  have:=r.2.2.2.2 _ (Yo m);exact(show ts=[t.2] from this).symm▸WY _
 | .bin k _ A B,r,d,ts,h=>by
  have a:=λx=>BB.lens r.2.1 (d:=d) (ts:=x);have b:=λx=>BB.lens r.2.2 (d:=d) (ts:=x);cases k with
  | uni=>exact Wf (Gj h a b)
  | dm=>exact Wf (Gj h a b)
  | inter=>exact Wf (Gj (FU (FU h)) a b)
  | anot =>
   have h:(if B.den d=none then A.den d else none)=some ts:=h
   split at h
   ·exact Wf (WL (a _ h) (WZ _ _))
   ·exact zN h
  | maybe=>exact Wf (Gj (FU h) a b)
 | .una k _ A,r,d,ts,h=>by
  have a:=λx=>BB.lens r.2.2 (d:=d) (ts:=x)
  show ts.length<=sz A+1
  cases k with
  | filt _ xs ex bo =>
   have h:(if keep xs ex d=true then A.den d else none)=some ts:=h
   split at h
   ·exact Wf (a _ h)
   ·exact zN h
  | inv _ lim wt id =>
   have h:(if id<=d/\d<lim/\A.den d=none then some [] else none)=some ts:=h
   split at h
   ·obtain rfl:=WT h;exact Wh _
   ·exact zN h
  | con sc=>exact Wf (a _ h)
 | .req _ _ A B,r,d,ts,h=>by
  have a:=λx=>BB.lens r.2.2.1 (d:=d) (ts:=x);have b:=λx=>BB.lens r.2.2.2 (d:=d) (ts:=x);exact(WL (Gj (FU (FU h)) a b) (WZ _ _):ts.length<=sz A+sz B+2)
noncomputable def Sr(ds:List (Int×List Nat)):Prop:=∀i ts,C9 i ds=some ts->ts.length<=500
theorem AS.sht{H T ds}(g:AS H T)(hd:T.den=GB ds)(h:sz T<=500):Sr ds:=λi ts e=>WL (g.rep.lens (d:=i) (by exact hd.symm▸e)) h
theorem TL.len{H v ts}(h:TL H v ts){l vs}(e:v=.ref l)(k:H l=some (.list vs)):vs.length=ts.length:=by
 refine En h λl' vs' e' h1 h2=>?_;cases e';cases e
 replace k:=h1.symm.trans k;cases k;rw[h2.length];exact WS _
theorem TL.nil{H:MH}{l}(h:H l=some (.list [])):TL H (.ref l) []:=⟨l,[],rfl,h,.nil⟩
theorem MJ{H v u ts us}{Q:V->MH->Prop}(h:TL H v ts)(k:TL H u us)(ht:ts.length<=500)(hu:us.length<=500)(q:∀w H',Ao H H' []->TL H' w (ts++us)->Q w H') :
 D7 v λa=>D7 u λb=>∃vs us,H a=some (.list vs)/\H b=some (.list us)/\vs.length<=1000/\us.length<=1000/\alloc H (.list (vs++us)) Q:=by
 have lv:=λl vs=>h.len (l:=l) (vs:=vs);have lu:=λl vs=>k.len (l:=l) (vs:=vs);refine En h λa vs z h1 h2=>?_;obtain rfl:=z;refine En k λb ws z k1 k2=>?_;obtain rfl:=z;refine⟨vs,ws,h1,k1,by rw[lv _ _ rfl h1];omega,by rw[lu _ _ rfl k1];omega,λl hl=>?_⟩
 have n:=Ao.new0 (o:=.list (vs++ws)) hl;refine q _ _ n ⟨l,_,rfl,AE _ _ _,?_⟩;unfold tms;rw[YB];exact(h2.frame n).append (k2.frame n)
structure L2(c1 c2 pa pb ga gb:Nat)(ea eb:List (Int×V))(da db:List (Int×List Nat))(H:MH):Prop where
 k1:H c1=some (.cell (some (.ref pa)))
 k2:H c2=some (.cell (some (.ref pb)))
 p1:H pa=some (.dict ea ga)
 p2:H pb=some (.dict eb gb)
 d1:DV H ea da
 d2:DV H eb db
section
variable{n d c1 c2 pa pb ga gb:Nat}{ea eb:List (Int×V)}{da db:List (Int×List Nat)}{H' H6:MH}{A B T:Tr}{C:CB}{ρ:As}{F:List Nat}
theorem L2.ni(l:L2 c1 c2 pa pb ga gb ea eb da db H)(f:Ao H H' F)(hF:∀x∈F,∃c as,H x=some (.inst c as)):L2 c1 c2 pa pb ga gb ea eb da db H' :=
 ⟨f.ni l.k1 hF λU U z=>(nomatch z),f.ni l.k2 hF λU U z=>(nomatch z),f.ni l.p1 hF λU U z=>(nomatch z),f.ni l.p2 hF λU U z=>(nomatch z),l.d1.frame f,l.d2.frame f⟩
theorem L2.l(l:L2 c1 c2 pa pb ga gb ea eb da db H)(f:Ao H H' []):L2 c1 c2 pa pb ga gb ea eb da db H':=l.ni f λU h=>nomatch h
theorem I8{is:List Int}{f:D}{es:List (Int×V)}(ha:Nr is)(hl:is.length<=1000)(dv:DV H es (mkd is f))(q:∀dd gg H',Ao H H' []->H' dd=some (.dict es gg)->DV H' es (mkd is f)->Q (.ref dd) H') :
 es.length<=1000/\∀g,alloc H (.dict (es.foldl (λd p=>ID p.1 p.2 d) []) g) Q:=by
 refine⟨?_,λgg dd hdd=>?_⟩
 ·rw[dv.len];exact WL (List.length_filterMap_le _ _) hl
 ·rw[dv.fold (by rw[KS];exact ha.filter _)]
  have n7:=Ao.new0 (o:=.dict es gg) hdd;exact q dd _ _ n7 (AE _ _ _) (dv.frame n7)
theorem Hm{is:List Int}{f:D}{es:List (Int×V)}{dd gg:Nat}(ha:Nr is)(g:AS H T)(hd:T.den=f)(hf:∀d,f d≠none->d∈is/\0<=d/\d<10)(h1:H dd=some (.dict es gg))(dv:DV H es (mkd is f))(q:∀m H',Ao H H' []->Pr H' m T (mkd is f)->Q (.ref m) H') :
 [V.ref T.addr,.ref dd].length<=1000/\alloc H (.tup [.ref T.addr,.ref dd]) Q:=by
 refine⟨WU rfl,λm hm=>?_⟩;have n8:=Ao.new0 (o:=.tup [.ref T.addr,.ref dd]) hm;exact q m _ n8 ⟨⟨dd,es,gg,AE _ _ _,n8.l h1,dv.frame n8⟩,g.nil n8,hd.trans (lkd_of λd z=>(hf d z).1).symm,PD.mkd ha λi U z=>(hf i z).2⟩
theorem Q4(L:L2 c1 c2 pa pb ga gb ea eb da db H)(pda:PD da)(pdb:PD db)(sa:Sr da)(sb:Sr db)(q:∀dd es gg H',Ao H H' []->H' dd=some (.dict es gg)->DV H' es (mkd (keys da) (dI (GB da) (GB db)))->Q (.ref dd) H') :
 wE C [(AX,c2),(Af,c1)] (.dcomp (.var AZ) (.cat (.idx (.cvar Af) (.var AZ)) (.idx (.cvar AX) (.var AZ))) AZ (.cvar Af) [.e (.cmp .In (.var AZ) (.cvar AX))]) ρ H Q:=by
 refine cv L.k1 (DA L.p1 (itD pda L.d1).1 (dI (GB da) (GB db)) (λi hi H' fr R h0 k=>?_) λes H' f' dv=>I8 pda.1 (by rw[Dw];exact pda.len) dv λdd gg H'' f'' h dv=>q dd es gg H'' (f'.trans f'') h dv)
 have L':=L.l fr;refine CT (XF.mp (Ay.mpr hi)) λs hs=>?_;refine cv L'.k2 ⟨_,_,L'.p2,Py L'.d2,?_⟩;by_cases z:i∈keys db
 ·refine CT (XF.mp (Ay.mpr z)) λt ht=>?_;rw[decide_eq_true z];obtain⟨v,iv,tv⟩:=Nv L'.d1 pda hs;obtain⟨u,iu,tu⟩:=Nv L'.d2 pdb ht;refine cv L'.k1 (At L'.p1 ⟨v,iv,cv L'.k2 (At L'.p2 ⟨u,iu,MJ tv tu (sa _ _ hs) (sb _ _ ht) λw H'' f'' tl=>?_⟩)⟩);exact k _ w H'' (dI_val (A:=GB da) (B:=GB db) hs ht) f'' tl
 ·rw[decide_eq_false z];exact h0 (WX λw=>z (Ay.mp (Ep.mp w).2))
theorem dc_not(L:L2 c1 c2 pa pb ga gb ea eb da db H)(pda:PD da)(q:∀dd es gg H',Ao H H' []->H' dd=some (.dict es gg)->DV H' es (mkd (keys da) (dN (GB da) (GB db)))->Q (.ref dd) H') :
 wE C [(AX,c2),(Af,c1)] (.dcomp (.var AZ) (.idx (.cvar Af) (.var AZ)) AZ (.cvar Af) [.e (.cmp .NotIn (.var AZ) (.cvar AX))]) ρ H Q:=by
 refine cv L.k1 (DA L.p1 (itD pda L.d1).1 (dN (GB da) (GB db)) (λi hi H' fr R h0 k=>?_) λes H' f' dv=>I8 pda.1 (by rw[Dw];exact pda.len) dv λdd gg H'' f'' h dv=>q dd es gg H'' (f'.trans f'') h dv)
 have L':=L.l fr;refine CT (XF.mp (Ay.mpr hi)) λs hs=>?_;refine cv L'.k2 ⟨_,_,L'.p2,Py L'.d2,?_⟩;by_cases z:i∈keys db
 ·rw[decide_eq_true z];exact h0 (if_neg λw=>Ay.mpr z w)
 ·rw[decide_eq_false z];obtain⟨v,iv,tv⟩:=Nv L'.d1 pda hs;exact cv L'.k1 (At L'.p1 ⟨v,iv,k _ v H' ((if_pos (WX λw=>z (Ay.mp w))).trans hs) .refl tv⟩)
theorem Nx{x c p gp:Nat}{κ:Kp}{es:List (Int×V)}{ds:List (Int×List Nat)}{i:Int}(hx:AM x κ=some c)(hc:H c=some (.cell (some (.ref p))))(hp:H p=some (.dict es gp))(dv:DV H es ds)(q:∀v H',Ao H H' []->TL H' v ((C9 i ds).getD [])->Q v H') :
 wE C κ (.dget (.cvar x) (.var AZ) (.lst [])) [(AZ,.int i)] H Q:=by
 show op (AM x κ) _
 refine hx.symm▸cv hc ⟨es,gp,hp,Wh _,λl hl=>?_⟩;have n:=Ao.new0 (o:=.list []) hl;refine⟨es,gp,n.l hp,?_⟩
 show Q ((C7 i es).getD (.ref l)) _
 cases h:C9 i ds with
 | none =>
  rw[dv.no h];refine q _ _ n ?_;exact h.symm▸.nil (AE _ _ _)
 | some ts =>
  refine Aj (dv.find h) λv h1 h2=>?_;rw[h1];refine q _ _ n ?_;rw[h];exact h2.frame n
theorem dc_may(L:L2 c1 c2 pa pb ga gb ea eb da db H)(pda:PD da)(sa:Sr da)(sb:Sr db)(q:∀dd es gg H',Ao H H' []->H' dd=some (.dict es gg)->DV H' es (mkd (keys da) (dM (GB da) (GB db)))->Q (.ref dd) H') :
 wE C [(AX,c2),(Af,c1)] (.dcomp (.var AZ) (.cat (.idx (.cvar Af) (.var AZ)) (.dget (.cvar AX) (.var AZ) (.lst []))) AZ (.cvar Af) []) ρ H Q:=by
 refine cv L.k1 (DA L.p1 (itD pda L.d1).1 (dM (GB da) (GB db)) (λi hi H' fr R h0 k=>?_) λes H' f' dv=>I8 pda.1 (by rw[Dw];exact pda.len) dv λdd gg H'' f'' h dv=>q dd es gg H'' (f'.trans f'') h dv)
 have L':=L.l fr;obtain⟨s,hs⟩:=XF.mp (Ay.mpr hi);obtain⟨v,iv,tv⟩:=Nv L'.d1 pda hs;refine cv L'.k1 (At L'.p1 ⟨v,iv,Nx (x:=AX) (i:=i) rfl L'.k2 L'.p2 L'.d2 λu H1 f1 tu=>MJ (tv.frame f1) tu (sa _ _ hs) ?_ λw H2 f2 tl=>?_⟩)
 ·cases h:C9 i db with
  | none=>exact Wh _
  | some t=>exact sb _ _ h
 ·refine k _ w H2 ?_ (f1.trans f2) tl
  show KB (C9 i da) (I5 (C9 i da) (C9 i db))=_
  refine hs.symm▸?_;cases C9 i db with
  | none=>exact congrArg some (XI s).symm
  | some t=>rfl
theorem w_cat{a b:E}{κ:Kp}(h:wE C κ a ρ H λv H=>wE C κ b ρ H λu H=>D7 v λa=>D7 u λb=>∃vs us,H a=some (.list vs)/\H b=some (.list us)/\vs.length<=1000/\us.length<=1000/\alloc H (.list (vs++us)) Q):wE C κ (.cat a b) ρ H Q:=h
theorem dc_or(L:L2 c1 c2 pa pb ga gb ea eb da db H)(pda:PD da)(pdb:PD db)(sa:Sr da)(sb:Sr db)(q:∀dd es gg H',Ao H H' []->H' dd=some (.dict es gg)->DV H' es (mkd (A5 0 10 1) (dU (GB da) (GB db)))->Q (.ref dd) H') :
 wE C [(AX,c2),(Af,c1)] (.dcomp (.var AZ) (.cat (.dget (.cvar Af) (.var AZ) (.lst [])) (.dget (.cvar AX) (.var AZ) (.lst []))) AZ (.range [(.int 10)]) [(.or [(.e (.cmp .In (.var AZ) (.cvar Af))),(.e (.cmp .In (.var AZ) (.cvar AX)))])]) ρ H Q:=by
 intro r hr;have n4:=Ao.new0 (o:=.range 0 10 1) hr;have L4:=L.l n4;refine DA (AE _ _ _) (.range (by unfold D6;decide)) (dU (GB da) (GB db)) (λi hi H' fr R h0 k=>?_) λes H' f' dv=>I8 G1 (by rw[E5];decide) dv λdd gg H'' f'' h dv=>q dd es gg H'' ((n4.trans f').trans f'') h dv
 have L':=L4.l fr;have made:C9 i da≠none\/C9 i db≠none->wE C [(AX,c2),(Af,c1)] (.cat (.dget (.cvar Af) (.var AZ) (.lst [])) (.dget (.cvar AX) (.var AZ) (.lst []))) [(AZ,.int i)] H' λz H=>R (some (i,z)) H:=λhor=>by
  refine w_cat ?_;refine Nx (x:=Af) (i:=i) rfl L'.k1 L'.p1 L'.d1 λv H1 f1 tv=>?_;have L1:=L'.l f1;refine Nx (x:=AX) (i:=i) rfl L1.k2 L1.p2 L1.d2 λu H2 f2 tu=>MJ (tv.frame f2) tu ?_ ?_ λw H3 f3 tl=>?_
  ·cases h:C9 i da with
   | none=>exact Wh _
   | some t=>exact sa _ _ h
  ·cases h:C9 i db with
   | none=>exact Wh _
   | some t=>exact sb _ _ h
  ·refine k _ w H3 ?_ ((f1.trans f2).trans f3) tl
   show I5 (C9 i da) (C9 i db)=_
   cases h:C9 i da with
   | none =>
    cases h':C9 i db with
    | none=>rw[h,h'] at hor;exact hor.elim (absurd rfl) (absurd rfl)
    | some t=>rfl
   | some s =>
    cases C9 i db with
    | none=>exact congrArg some (XI s).symm
    | some t=>rfl
 refine cv L'.k1 ⟨_,_,L'.p1,Py L'.d1,?_⟩;by_cases z:i∈keys da
 ·rw[decide_eq_true z];exact made (.inl (Ay.mpr z))
 ·rw[decide_eq_false z];refine cv L'.k2 ⟨_,_,L'.p2,Py L'.d2,?_⟩;by_cases z':i∈keys db
  ·rw[decide_eq_true z'];exact made (.inr (Ay.mpr z'))
  ·rw[decide_eq_false z'];refine h0 (WX λw=>(E3.mp w).elim (λh=>z (Ay.mp h)) λh=>z' (Ay.mp h))
end
section
variable{n d:Nat}{H6:MH}{A B T:Tr}
def Out2(H:MH)(A B:Tr)(Q:V->MH->Prop):Prop:=∀m T' ds' H',Ao H H' (fp A++fp B)->Pr H' m T' ds'->sz T'<=sz A+sz B+2->sc T'=sc A++sc B->(∀x∈fp T',x∈fp A++fp B\/H x=none)->Q (.ref m) H'
theorem Q5{is:List Int}(h:is≠[])(hl:is.length<=1000):Ky (-1) (.int (is.getLast h)) (.list (is.map .int)):=by
 have hp:=Yw.mpr h;refine .list (by rw[WS];exact hl) ?_
 unfold nth;rw[if_neg (by decide),WS,if_pos (by omega),show((is.length:Int)+-1).toNat=is.length-1 by omega,XD,<- List.getLast?_eq_getElem?,List.getLast?_eq_some_getLast h];rfl
theorem Gk{is:List Int}{i:Nat}{x:Int}(h:is[i]?=some x)(hl:is.length<=1000):Ky (i:Int) (.int x) (.list (is.map .int)):=by
 refine .list (by rw[WS];exact hl) ?_
 unfold nth;rw[if_pos (X7 i),Y8,XD,h];rfl
theorem key_hd{ds:List (Int×List Nat)}(h:PD ds){x:Int}(hx:Hd (GB ds) x):∃r,keys ds=x::r:=by
 have hm:=Ay.mp hx.1;cases e:keys ds with
 | nil=>rw[e] at hm;exact nomatch hm
 | cons k r =>
  have h1:=h.1;rw[e] at h1 hm;have hk:GB ds k≠none:=Ay.mpr (by rw[e];exact .head _)
  have:=hx.2 k hk;rcases Wb.mp hm with z|z
  ·rw[z];exact⟨r,rfl⟩
  ·have:=(XS.mp h1).1 x z;omega
theorem Ss{kind:Int}{pa pb:Nat}{ea eb:List (Int×V)}{da db:List (Int×List Nat)}(ih:Ih n d)(he:d<=e)(hn:n<=500)(hA:sz A<=n)(hB:sz B+1<=n)(gA:AS H A)(gB:AS H B)(dj:∀x∈fp A,x∉fp B)(dA:A.den=GB da)(dB:B.den=GB db)(pda:PD da)(pdb:PD db)
 (hpa:H pa=some (.dict ea ga))(va:DV H ea da)(hpb:H pb=some (.dict eb gb))(vb:DV H eb db)(q:Out2 H A B Q):call (e+6) B8 [.int kind,.ref A.addr,.ref pa,.ref B.addr,.ref pb] [] H Q:=by
 show ∀c1,H c1=none->∀c2,(H.put c1 (.cell (some (.ref pa)))) c2=none->A4 (call (e+5)) [(AX,c2),(Af,c1)] Ft [(Aq,.int kind),(Ba,.ref A.addr),(A7,.ref B.addr)] ((H.put c1 (.cell (some (.ref pa)))).put c2 (.cell (some (.ref pb)))) (Ah Q)
 intro c1 h1 c2 h2;have n1:=Ao.new0 (o:=.cell (some (.ref pa))) h1;have n2:=Ao.new0 (o:=.cell (some (.ref pb))) h2;have f3:=n1.trans n2;have L:L2 c1 c2 pa pb ga gb ea eb da db ((H.put c1 (.cell (some (.ref pa)))).put c2 (.cell (some (.ref pb)))):=⟨n2.l (AE _ _ _),AE _ _ _,f3.l hpa,f3.l hpb,va.frame f3,vb.frame f3⟩;have hc2:H c2=none:=n1.dm _ h2;have c12:c1≠c2:=(Oy h2 (AE _ _ _)).symm
 generalize (H.put c1 (.cell (some (.ref pa)))).put c2 (.cell (some (.ref pb)))=H3 at f3 L ⊢
 clear n1 n2 h1 h2;have gA3:=gA.nil f3;have gB3:=gB.nil f3;have inst:∀x∈fp A++fp B,∃c as,H3 x=some (.inst c as):=λx hx=>(W2.mp hx).elim (gA3.rep.fpi x) (gB3.rep.fpi x);have f3':Ao H H3 (fp A++fp B):=f3.mono λx h=>nomatch h;have hB':sz B<=n:=Nat.le_of_succ_le hB;have lA:(keys da).length<=1000:=by rw[Dw];exact pda.len
 have sa:Sr da:=gA.sht dA (WL hA hn);have sb:Sr db:=gB.sht dB (WL hB' hn);have made:∀{k m A' B' H6},Mk k H3 A B m A' B' H6->∀{m' ds' H'},Ao H6 H' []->Pr H' m' (.bin k m A' B') ds'->Q (.ref m') H':=λ{k m A' B' H6} mk {m' ds' H'} f p =>
  q m' _ ds' H' ((f3'.trans mk.fr).trans (f.mono λx h=>nomatch h)) p (by show sz A'+sz B'+1<=_;rw[mk.eA.sz,mk.eB.sz];exact X3 _) (by show sc A'++sc B'=_;rw[mk.eA.sc,mk.eB.sc]) λx hx=>by
   rcases Wb.mp hx with rfl|hx
   ·exact .inr (f3.dm _ mk.nn)
   ·rw[mk.eA.fp,mk.eB.fp] at hx;exact .inl hx
 refine AO (λU=>?_) λU=>Bu (Et ?_)
 ·-- and
  refine MD ih (e:=e+2) (by omega) hA hB' gA3 gB3 dj λm A' B' H6 mk U=>?_
  refine Q4 (L.ni mk.fr inst) pda pdb sa sb λdd es gg H7 f7 h7 v7=>?_;exact Hm (T:=.bin .inter m A' B') pda.1 (mk.good.nil f7) (mk.den.trans (by exact dA▸dB▸rfl)) (λd z=>⟨Ay.mp (Ep.mp z).1,pda.mem (Ep.mp z).1⟩) h7 v7 λm' H' f p=>made mk (f7.trans f) p
 have cut:∀(k:BK) {l:Nat} {Ls:List Int} {H4:MH} {K:V->MH->Prop},Ao H3 H4 []->H4 l=some (.list (Ls.map .int))->Ls.length<=1000 ->
  (∀{B' es' db' p' g' H5 m},H5 m=some (.tup [.ref B'.addr,.ref p'])->H5 c2=some (.cell (some (.ref pb)))->L2 c1 c2 pa p' ga g' ea es' da db' (H5.put c2 (.cell (some (.ref p'))))->AS (H5.put c2 (.cell (some (.ref p')))) A->AS (H5.put c2 (.cell (some (.ref p')))) B'->(∀x∈fp A,x∉fp B')->sz B'<=n->PD db'->B'.den=GB db'->B'.den=only Ls B.den ->
   (∀{m A2 B2 H6},Mk k (H5.put c2 (.cell (some (.ref p')))) A B' m A2 B2 H6->L2 c1 c2 pa p' ga g' ea es' da db' H6/\∀{m' ds' H'},Ao H6 H' []->Pr H' m' (.bin k m A2 B2) ds'->Q (.ref m') H')->K (.ref m) H5) ->
  call (e+5) BV [.ref B.addr,.ref pb,.ref l] [] H4 K:=λk {l Ls H4 K} f4 hl hL k'=>by
  have L4:=L.l f4;refine Nw ih (e:=e+2) (by omega) hB' (gB3.nil f4) dB pdb L4.p2 L4.d2 hl hL λm B' db' H5 f5 pr den hsz hsc hfp=>?_
  refine x33 pr.at_ λp' es' g' hm hp' dv'=>?_;have inst4:∀x∈fp B,∃c as,H4 x=some (.inst c as):=(gB3.nil f4).rep.fpi;have L5:=L4.ni f5 inst4;have wr:Ao H5 (H5.put c2 (.cell (some (.ref p')))) [c2]:=Ao.put (.head _) λo' z=>by obtain rfl:=WT (L5.k2.symm.trans z);rfl
  have nc:∀{b o},H5 b=some o->(∀v,o≠.cell v)->b≠c2:=λh hn z=>by replace h:=L5.k2▸z▸h;obtain rfl:=WT h;exact hn _ rfl
  have ni:∀{T:Tr},BB H5 T->∀x∈fp T,x∉[c2]:=λr x hx h=>by refine HI (r.fpi x hx) λc as z=>?_;exact nc z (λU z=>nomatch z) (Wl.mp h)
  have rA5:BB H5 A:=(gA3.nil f4).rep.frame f5 dj;have gA5:AS (H5.put c2 (.cell (some (.ref p')))) A:=⟨rA5.frame wr (ni rA5),gA3.ok,gA3.nd⟩;have gB5:AS (H5.put c2 (.cell (some (.ref p')))) B':=⟨pr.g.rep.frame wr (ni pr.g.rep),pr.g.ok,pr.g.nd⟩;have L5':L2 c1 c2 pa p' ga g' ea es' da db' (H5.put c2 (.cell (some (.ref p')))):=⟨(AT _ _ c12).trans L5.k1,AE _ _ _,(AT _ _ (nc L5.p1 λU z=>nomatch z)).trans L5.p1,(AT _ _ (nc hp' λU z=>nomatch z)).trans hp',L5.d1.frame wr,dv'.frame wr⟩;have fH4:Ao H H4 []:=f3.trans f4;have fH5:Ao H (H5.put c2 (.cell (some (.ref p')))) (fp A++fp B):=(((fH4.mono λx h=>nomatch h).trans (f5.mono λx h=>WP _ h)):Ao H H5 (fp A++fp B)).more wr λx hx=>.inr (Wl.mp hx▸hc2);have sub:∀x∈fp A++fp B',x∈fp A++fp B\/H x=none:=λx hx=>(W2.mp hx).elim (λh=>.inl (WR _ h)) λh=>(hfp x h).imp (WP _) (fH4.dm x);refine k' hm L5.k2 L5' gA5 gB5 (λx hx hx'=>?_) (WL hsz hB) pr.pd pr.d den λ{m A2 B2 H6} mk=>⟨L5'.ni mk.fr λx hx=>(W2.mp hx).elim (gA5.rep.fpi x) (gB5.rep.fpi x),λ{m' ds' H'} f p=>?_⟩
  ·rcases hfp x hx' with h|h
   ·exact dj x hx h
   ·refine HI ((gA3.nil f4).rep.fpi x hx) λc as z=>?_;exact nS h z
  ·refine q m' _ ds' H' ((fH5.more mk.fr sub).trans (f.mono λx h=>nomatch h)) p (by show sz A2+sz B2+1<=_;rw[mk.eA.sz,mk.eB.sz];omega) (by show sc A2++sc B2=_;rw[mk.eA.sc,mk.eB.sc,hsc]) λx hx=>?_
   rcases Wb.mp hx with rfl|hx
   ·exact .inr (fH5.dm _ mk.nn)
   ·rw[mk.eA.fp,mk.eB.fp] at hx;exact sub x hx
 refine AO (λU=>?_) λU=>Bu (Et ?_)
 ·-- and not
  refine cv L.k1 (At L.p1 ⟨_,_,_,rfl,by rw[L.d1.len];exact pda.s64,L.d1.keys,λs hs=>?_⟩)
  rw[IX pda.1];have n4:=Ao.new0 (o:=.list ((keys da).map .int)) hs;have s4:=AE H3 s (.list ((keys da).map .int))
  generalize H3.put s (.list ((keys da).map .int))=H4 at n4 s4 ⊢
  have go:∀{l:Nat} {Ls:List Int} {H5:MH},Ao H3 H5 []->H5 l=some (.list (Ls.map .int))->Ls.length<=1000->(∀x,Hd (GB da) x->∀i∈Ls,x<=i/\∃y∈keys da,i<=y) ->
   A4 (call (e+5)) [(AX,c2),(Af,c1)] [.unp [(A7,false),(AX,true)] (.fn BV [.var A7,.cvar AX,.var Lh] []),.ret (.tup [.new .AndNot [.var Ba,.var A7] [],.dcomp (.var AZ) (.idx (.cvar Af) (.var AZ)) AZ (.cvar Af) [.e (.cmp .NotIn (.var AZ) (.cvar AX))]])]
    [(Aq,.int kind),(Ba,.ref A.addr),(A7,.ref B.addr),(B6,.ref s),(Lh,.ref l)] H5 (GU (λρ H=>A4 (call (e+5)) [(AX,c2),(Af,c1)] (Ft.drop 2) ρ H (Ah Q)) (Ah Q)):=λ{l Ls H5} f5 hl hL hb=>by
   refine cv (L.l f5).k2 ?_;refine cut .anot f5 hl hL λ{B' es' db' p' g' H6 m} hm hc L6 gA6 gB6 dj6 hs6 pd6 d6 den6 out=>?_;refine At hm ⟨_,rfl,_,hc,?_⟩;have pr:∀x,Hd A.den x->∀d,B'.den d≠none->x<=d/\∃y∈keys da,d<=y:=λx hx d hd=>by
    rw[den6] at hd;unfold only at hd;split at hd
    ·exact hb x (dA▸hx) d (by assumption)
    ·exact absurd rfl hd
   have rn:RN A.den B'.den:=λha d hd=>by
    obtain⟨x,hx⟩:=ha.hd gA.ok.bd;refine Az (pr x hx d hd) λU w=>?_;refine Aj w λy hy le=>?_;exact⟨y,le,by rw[dA];exact Ay.mpr hy⟩
   refine Om ih (e:=e+2) (by omega) hA hs6 gA6 gB6 dj6 (λx hx d hd=>(pr x hx d hd).1) rn λm A2 B2 H7 mk=>?_
   obtain⟨L7,out⟩:=out mk;refine dc_not L7 pda λdd es gg H8 f8 h8 v8=>?_;exact Hm (T:=.bin .anot m A2 B2) pda.1 (mk.good.nil f8) (mk.den.trans (by exact dA▸d6▸rfl)) (λd z=>⟨Ay.mp (HW.mp z).1,pda.mem (HW.mp z).1⟩) h8 v8 λm' H' f p=>out (f8.trans f) p
  refine At s4 ⟨_,Nu lA,?_⟩;by_cases hk:keys da=[]
  ·rw[hk];refine⟨Wh _,λl hl=>?_⟩;exact go (n4.trans (Ao.new0 hl)) (Ls:=[]) (AE _ _ _) (Wh _) λU U i hi=>nomatch hi
  ·have hpos:=Yw.mpr hk;refine AO (λU=>?_) λz=>absurd (Xu.mpr hpos) (of_decide_eq_false z);obtain⟨k,r,hkr⟩:∃k r,keys da=k::r:=by
    cases h:keys da with
    | nil=>exact absurd h hk
    | cons k r=>exact⟨k,r,rfl⟩
   have hy:=List.getLast_mem hk;have i0:Ky ((0:Nat):Int) (.int k) (.list ((keys da).map .int)):=Gk (by exact hkr▸rfl) lA
   have i1:=Q5 hk lA
   generalize (keys da).getLast hk=y at hy i1
   have by1:=pda.2 y hy;have bk:=pda.2 k (by rw[hkr];exact .head _)
   refine At s4 ⟨_,i0,At s4 ⟨_,i1,λrg hrg=>?_⟩⟩;have n5:=n4.trans (Ao.new0 (o:=.range k (y+1) 1) hrg);refine At (AE _ _ _) ⟨_,_,_,rfl,⟨by decide,by omega,by omega,by omega,by omega,by decide⟩,λl hl=>?_⟩
   refine go (n5.trans (Ao.new0 hl)) (Ls:=A5 k (y+1) 1) (AE _ _ _) (by rw[E5];omega) λx hx i hi=>?_
   obtain⟨r',e⟩:=key_hd pda hx;replace e:=hkr.symm.trans e;cases e
   have:=E6.mp hi;exact⟨this.1,y,hy,by omega⟩
 refine AO (λU=>?_) λU=>Bu (Et ?_)
 ·-- and maybe
  refine cv L.k2 (cv L.k1 (At L.p1 ⟨_,_,_,rfl,by rw[L.d1.len];exact pda.s64,L.d1.keys,λs hs=>?_⟩))
  refine(IX pda.1).symm▸cut .maybe (Ao.new0 hs) (AE _ _ _) lA λ{B' es' db' p' g' H6 m} hm hc L6 gA6 gB6 dj6 hs6 pd6 d6 den6 out=>?_;refine At hm ⟨_,rfl,_,hc,?_⟩;refine Qj ih (e:=e+3) (by omega) hA hs6 gA6 gB6 dj6 (λU d hd=>?_) λm A2 B2 H7 mk=>?_
  ·rw[den6] at hd;unfold only at hd;split at hd
   ·rw[dA];exact Ay.mpr (by assumption)
   ·exact absurd rfl hd
  ·obtain⟨L7,out⟩:=out mk;refine dc_may L7 pda sa (gB6.sht d6 (WL hs6 hn)) λdd es gg H8 f8 h8 v8=>?_;exact Hm (T:=.bin .maybe m A2 B2) pda.1 (mk.good.nil f8) (mk.den.trans (by exact dA▸d6▸rfl)) (λd z=>⟨Ay.mp (HV.mp z),pda.mem (HV.mp z)⟩) h8 v8 λm' H' f p=>out (f8.trans f) p
 refine AO (λU=>?_) λU=>Bu (Et ?_)
 ·-- require
  refine Ow ih (e:=e+1) (by omega) hA hB' gA3 gB3 dj λm j A' B' H6 mk=>?_
  refine Q4 (L.ni mk.fr inst) pda pdb sa sb λdd es gg H7 f7 h7 v7=>?_;refine Hm (T:=.req m j A' B') pda.1 (mk.good.nil f7) (mk.den.trans (by exact dA▸dB▸rfl)) (λd z=>⟨Ay.mp (Ep.mp z).1,pda.mem (Ep.mp z).1⟩) h7 v7 λm' H' f p=>?_
  refine q m' _ _ H' ((f3'.trans mk.fr).trans ((f7.trans f).mono λx h=>nomatch h)) p (by show sz A'+sz B'+2<=_;rw[mk.eA.sz,mk.eB.sz];exact Xl _) (by show sc A'++sc B'=_;exact mk.eA.sc▸mk.eB.sc▸rfl) λx hx=>?_
  rcases Wb.mp hx with rfl|hx
  ·exact .inr (f3.dm _ mk.nm)
  ·rcases Wb.mp hx with rfl|hx
   ·exact .inr (f3.dm _ mk.ni)
   ·rw[mk.eA.fp,mk.eB.fp] at hx;exact .inl hx
 refine dc_or (ρ:=[(Aq,.int kind),(Ba,.ref A.addr),(A7,.ref B.addr)]) L pda pdb sa sb λdd es gg H7 f7 h7 v7=>?_;have gA7:=gA3.nil f7;have gB7:=gB3.nil f7;have inst7:∀x∈fp A++fp B,∃c as,H7 x=some (.inst c as):=λx hx=>(W2.mp hx).elim (gA7.rep.fpi x) (gB7.rep.fpi x);have sup:∀d,dU (GB da) (GB db) d≠none->d∈A5 0 10 1/\0<=d/\d<10:=λd z=>by
  have bd:0<=d/\d<10:=(E3.mp z).elim pda.mem pdb.mem;exact⟨E6.mpr bd,bd⟩
 have fin:∀{k m H8},Mine.dB k=dU->Mk k H7 A B m A B H8->[V.ref (Tr.bin k m A B).addr,.ref dd].length<=1000/\alloc H8 (.tup [.ref (Tr.bin k m A B).addr,.ref dd]) Q:=λ{k m H8} hk mk=>by
  refine Hm (T:=.bin k m A B) G1 mk.good (by show Mine.dB k A.den B.den=_;exact hk▸dA▸dB▸rfl) sup (mk.fr.ni h7 inst7 λU U z=>nomatch z) (v7.frame mk.fr) λm' H' f p=>?_
  refine q m' _ _ H' (((f3'.trans (f7.mono λx h=>nomatch h)).trans mk.fr).trans (f.mono λx h=>nomatch h)) p (by show sz A+sz B+1<=_;exact X3 _) rfl λx hx=>?_
  rcases Wb.mp hx with rfl|hx
  ·exact .inr (f3.dm _ (f7.dm _ mk.nn))
  ·exact .inl hx
 refine AO (λU=>?_) λU=>Bu (Et ?_)
 ·exact Qd (e:=e+3) gA7 gB7 dj (.inl rfl) λm H8 mk=>fin rfl mk
 ·exact Oi (e:=e+4) gA7 gB7 dj λm H8 mk=>fin rfl mk
end
theorem O0{UG H:MH}{c:Nat}{o:Option V}{w:V}(h0:UG c=none)(f:Ao UG H [])(h:H c=some (.cell o)):Ao UG (H.put c (.cell (some w))) []/\(H.put c (.cell (some w))) c=some (.cell (some w))/\∀{b x},H b=some x->(x≠.cell o\/b≠c)->(H.put c (.cell (some w))) b=some x :=
 ⟨f.wr h0 h rfl,AE _ _ _,λ{b x} hb hn=>(AT _ _ λz=>hn.elim (λn=>by replace hb:=h▸z▸hb;obtain rfl:=WT hb;exact n rfl) λn=>n z).trans hb⟩
section
variable{n d:Nat}{T:Tr}
def Out1(H:MH)(T:Tr)(Q:V->MH->Prop):Prop:=∀m T' ds' H',Ao H H' (fp T)->Pr H' m T' ds'->sz T'<=sz T+1->sc T'=sc T->(∀x∈fp T',x∈fp T\/H x=none)->Q (.ref m) H'
theorem SG.pr{k k':UK}{H5 H6:MH}{A':Tr}{m:Nat}(mk:SG k H5 T m k' A' H6)(f5:Ao H H5 [])(q:Out1 H T Q){m' ds' H'}(f:Ao H6 H' [])(p:Pr H' m' (.una k' m A') ds'):Q (.ref m') H':=by
 refine q m' _ ds' H' (((f5.mono (G:=fp T) λx h=>nomatch h).trans mk.fr).trans (f.mono λx h=>nomatch h)) p (by show sz A'+1<=sz T+1;exact mk.eA.sz▸WY _) mk.eA.sc λx hx=>?_
 rcases Wb.mp hx with rfl|hx
 ·exact .inr (f5.dm _ mk.nn)
 ·exact .inl (mk.eA.fp▸hx)
theorem Su{kind more:Int}{p gp:Nat}{es:List (Int×V)}{ds:List (Int×List Nat)}(ih:Ih n d)(he:d<=e)(hT:sz T<=n)(g:AS H T)(hd:T.den=GB ds)(pd:PD ds)(hp:H p=some (.dict es gp))(dv:DV H es ds)(q:Out1 H T Q) :
 call (e+3) CS [.int kind,.int more,.ref T.addr,.ref p] [] H Q:=by
 show ∀c1,H c1=none->∀c2,(H.put c1 (.cell (some (.ref p)))) c2=none->∀c3,((H.put c1 (.cell (some (.ref p)))).put c2 (.cell none)) c3=none ->
  A4 (call (e+2)) [(B6,c3),(Ff,c2),(AW,c1)] IP [(Aq,.int kind),(DC,.int more),(AY,.ref T.addr)] (((H.put c1 (.cell (some (.ref p)))).put c2 (.cell none)).put c3 (.cell none)) (Ah Q)
 intro c1 h1 c2 h2 c3 h3;have n1:=Ao.new0 (o:=.cell (some (.ref p))) h1;have n2:=Ao.new0 (o:=.cell none) h2;have n3:=Ao.new0 (o:=.cell none) h3;have f5:=(n1.trans n2).trans n3;have hc2:=n1.dm _ h2;have hc3:=n1.dm _ (n2.dm _ h3);have d32:c3≠c2:=Oy h3 (AE _ _ _);have k1:=n3.l (n2.l (AE H c1 (.cell (some (.ref p)))));have k2:=n3.l (AE (H.put c1 (.cell (some (.ref p)))) c2 (.cell none));have k3:=AE ((H.put c1 (.cell (some (.ref p)))).put c2 (.cell none)) c3 (.cell none)
 generalize ((H.put c1 (.cell (some (.ref p)))).put c2 (.cell none)).put c3 (.cell none)=H5 at f5 k1 k2 k3 ⊢
 clear n1 n2 n3 h1 h2 h3;have p5:=f5.l hp;have v5:=dv.frame f5;refine AO (λU=>?_) λU=>Bu (Et ?_)
 ·-- an inverse
  have hl:0<10-more.fmod 10/\10-more.fmod 10<=10:=⟨by have:=Z1 more (show(0:Int)<10 by decide);omega,by have:=ZP more (show(0:Int)<10 by decide);omega⟩
  refine⟨by decide,?_⟩
  show A4 (call (e+2)) [(B6,c3),(Ff,c2),(AW,c1)] [.ret (.tup [(.new .Inverse [(.var AY),(.var A6)] [(Cg,(.int 1))]),(.dcomp (.var AZ) (.lst []) AZ (.range [(.var A6)]) [(.e (.cmp .NotIn (.var AZ) (.cvar AW)))])])] [(Aq,.int kind),(DC,.int more),(AY,.ref T.addr),(A6,.int (10-more.fmod 10))] H5 _
  generalize 10-more.fmod 10=limit at hl ⊢
  refine Q3 ih he hT (g.nil f5) ⟨by decide,by omega⟩ λm t t' j' A' H7 mk=>?_
  have inst:=(g.nil f5).rep.fpi;have k7:=mk.fr.ni k1 inst λU U z=>nomatch z;have p7:=mk.fr.ni p5 inst λU U z=>nomatch z;have v7:=v5.frame mk.fr;intro rg hrg;have n8:=Ao.new0 (o:=.range 0 limit 1) hrg;refine DA (AE _ _ _) (.range (by unfold D6;omega)) (dV limit 1 0 (GB ds)) (λi hi H' fr R h0 k=>?_) λes' H9 f9 v9=>I8 G1 (by rw[E5];omega) v9 λdd gg H10 f10 h10 v10=>?_
  ·have fr:=n8.trans fr;have hi:=E6.mp hi;refine cv (fr.l k7) ⟨_,_,fr.l p7,Py (v7.frame fr),?_⟩;by_cases z:i∈keys ds
   ·rw[decide_eq_true z];exact h0 (if_neg λw=>Ay.mpr z w.2.2)
   ·rw[decide_eq_false z];refine⟨Wh _,λl hl=>?_⟩;exact k [] (.ref l) _ (if_pos ⟨hi.1,hi.2,WX λw=>z (Ay.mp w)⟩) (Ao.new0 hl) (.nil (AE _ _ _))
  ·have f8:=(n8.trans f9).trans f10;exact Hm (T:=.una (.inv t' limit 1 j') m A') G1 (mk.good.nil f8) (mk.den.trans (by show dV limit 1 0 T.den=_;rw[hd])) (λd z=>⟨E6.mpr ⟨((HX (wt:=1)).mp z).1,((HX (wt:=1)).mp z).2.1⟩,((HX (wt:=1)).mp z).1,by have:=((HX (wt:=1)).mp z).2.1;omega⟩) h10 v10 λm' H' f pr=>mk.pr f5 q (f8.trans f) pr
 refine⟨by decide,AO (λU=>?_) λU=>Bu (Et ?_)⟩
 ·-- a constant score
  refine Ov (e:=e) (g.nil f5) (by decide) λm H7 mk=>?_
  have inst:=(g.nil f5).rep.fpi;have k7:=mk.fr.ni k1 inst λU U z=>nomatch z;have p7:=mk.fr.ni p5 inst λU U z=>nomatch z;refine cv k7 ⟨WU rfl,λtp htp=>?_⟩;have n8:=Ao.new0 (o:=.tup [.ref m,.ref p]) htp;exact mk.pr f5 q n8 ⟨⟨p,es,gp,AE _ _ _,n8.l p7,(v5.frame mk.fr).frame n8⟩,mk.good.nil n8,hd,pd⟩
 refine⟨.inr (by decide),by decide,_,k2,?_⟩
 generalize (more*613+682).fmod 1024=word
 refine DN (O0 (w:=.int word) hc2 f5 k2) λf6 k6 st=>?_;replace k1:=st k1 (.inl λz=>nomatch z);replace p5:=st p5 (.inl λz=>nomatch z);replace k3:=st k3 (.inr d32);have v6:=dv.frame f6
 generalize H5.put c2 (.cell (some (.int word)))=H6 at f6 k6 k1 p5 k3 v6 ⊢
 clear st v5 k2 f5;intro rg hrg;have n7:=Ao.new0 (o:=.range 0 10 1) hrg;have f7:=f6.trans n7;have r7:=AE H6 rg (.range 0 10 1);replace k1:=n7.l k1;replace p5:=n7.l p5;replace k3:=n7.l k3;replace k6:=n7.l k6
 generalize H6.put rg (.range 0 10 1)=H7 at f7 r7 k1 p5 k3 k6 n7 ⊢
 refine EX (α:=V) (is:=A5 0 10 1) r7 (.range (by unfold D6;decide)) (λi=>if((word.fdiv (2 ^ i.toNat)).fmod 2==1)=true then some (V.int i) else none) (λi hi R hR=>?_) ?_
 ·have hi:=E6.mp hi;refine cv k6 ⟨hi.1,by decide,?_⟩
  cases z:((word.fdiv (2 ^ i.toNat)).fmod 2==1)<;>rw[z] at hR
  ·exact(show Jh ((word.fdiv (2 ^ i.toNat)).fmod 2==1) (R (some (V.int i)) H7) (R none H7) by rw[z];exact hR)
  ·exact(show Jh ((word.fdiv (2 ^ i.toNat)).fmod 2==1) (R (some (V.int i)) H7) (R none H7) by rw[z];exact hR)
 refine(M8 (p:=λi=>(word.fdiv (2 ^ i.toNat)).fmod 2==1)).symm▸?_;have ldo:((A5 0 10 1).filter λi=>(word.fdiv (2 ^ i.toNat)).fmod 2==1).length<=1000:=WL (YF _ _) (by rw[E5];decide)
 generalize (A5 0 10 1).filter (λi=>(word.fdiv (2 ^ i.toNat)).fmod 2==1)=docs at ldo ⊢
 refine⟨by rw[WS];exact ldo,λl hl=>?_⟩
 have n8:=Ao.new0 (o:=.list (docs.map .int)) hl;have f8:=f7.trans n8;have l8:=AE H7 l (.list (docs.map .int));replace k1:=n8.l k1;replace p5:=n8.l p5;replace k3:=n8.l k3
 generalize H7.put l (.list (docs.map .int))=H8 at f8 l8 k1 p5 k3 ⊢
 refine⟨_,k3,?_⟩;refine DN (O0 (w:=.ref l) hc3 f8 k3) λf9 k9 st=>?_;replace k1:=st k1 (.inl λz=>nomatch z);replace p5:=st p5 (.inl λz=>nomatch z);replace l8:=st l8 (.inl λz=>nomatch z)
 generalize H8.put c3 (.cell (some (.ref l)))=H9 at f9 k9 k1 p5 l8 ⊢
 clear st k6 r7 n7 n8 f6 f7 f8;refine cv k9 (At l8 ⟨_,_,rfl,G0 _,ldo,λst hst=>?_⟩);have n11:=Ao.new0 (o:=.set docs) hst;have f11:=f9.trans n11;have s11:=AE H9 st (.set docs);replace k1:=n11.l k1;replace p5:=n11.l p5;replace k9:=n11.l k9;replace l8:=n11.l l8
 generalize H9.put st (.set docs)=H11 at f11 s11 k1 p5 k9 l8 ⊢
 refine LP ih he hT (g.nil f11) s11 ldo ⟨by decide,by decide⟩ (.inl ⟨rfl,rfl⟩) λm A' H12 mk=>?_
 have inst:=(g.nil f11).rep.fpi;have r1:=mk.fr.ni k1 inst λU U z=>nomatch z;have r2:=mk.fr.ni p5 inst λU U z=>nomatch z;have r3:=mk.fr.ni k9 inst λU U z=>nomatch z;have r4:=mk.fr.ni l8 inst λU U z=>nomatch z;have v12:=(dv.frame f11).frame mk.fr;refine cv r1 (DA r2 (itD pd v12).1 (dF docs false 1 (GB ds)) (λi hi H' fr R h0 k=>?_) λes' H13 f13 v13=>I8 pd.1 (by rw[Dw];exact pd.len) v13 λdd gg H14 f14 h14 v14=>?_)
 ·obtain⟨s,hs⟩:=XF.mp (Ay.mpr hi);refine cv (fr.l r3) ⟨_,_,fr.l r4,hasL ldo,?_⟩;by_cases z:i∈docs
  ·rw[decide_eq_true z];obtain⟨v,iv,tv⟩:=Nv (v12.frame fr) pd hs;exact cv (fr.l r1) (At (fr.l r2) ⟨v,iv,k s v H' ((if_pos (by unfold keep;simpa using z)).trans hs) .refl tv⟩)
  ·rw[decide_eq_false z];exact h0 (if_neg (by unfold keep;simpa using z))
 ·exact Hm (T:=.una (.filt st docs false 1) m A') pd.1 (mk.good.nil (f13.trans f14)) (mk.den.trans (by show dF docs false 1 T.den=_;rw[hd])) (λd z=>⟨Ay.mp ((IQ (bo:=1)).mp z).1,pd.mem ((IQ (bo:=1)).mp z).1⟩) h14 v14 λm' H' f pr=>mk.pr f11 q ((f13.trans f14).trans f) pr
end
structure Ku where
 m:Nat
 T:Tr
 L:List (Int×List Nat)
def Ny(H:MH):List Ku->Prop
 | []=>True
 | p::r=>Tp H p.m p.T p.L/\(∀q∈r,∀x∈fp p.T,x∉fp q.T)/\Ny H r
noncomputable def Di(ps:List Ku):List V:=(ps.map λp=>V.ref p.m).reverse
noncomputable def Nc:List Ku->Nat
 | []=>0
 | p::r=>sz p.T+2+Nc r
theorem Dx{ps:List Ku}:(Di ps).length=ps.length:=by unfold Di;rw[List.length_reverse,WS]
theorem Fx:∀{ps:List Ku},ps.length<=Nc ps
 | []=>WY _
 | p::r=>by show r.length+1<=sz p.T+2+Nc r;rw[Z7];exact YJ (WL (X3 1) (XA _ _)) Fx
theorem Ny.frame{H H':MH}{F}(f:Ao H H' F)(hF:∀x∈F,(∃c as,H x=some (.inst c as))\/∃vs,H x=some (.stk vs)):∀{ps:List Ku},Ny H ps->(∀p∈ps,∀x∈fp p.T,x∉F)->Ny H' ps
 | [],_,_=>trivial
 | p::r,⟨h1,h2,h3⟩,hd=>by
  refine⟨?_,h2,Ny.frame f hF h3 λp hp=>hd p (.tail _ hp)⟩;refine x44 h1.at_ λq es g v a1 a2 a3 a4=>?_;exact⟨⟨q,es,g,v,f.kp _ _ a1 (.inr rfl),f.kp _ _ a2 (.inl λm=>(hF _ m).elim (λ⟨c,as,z⟩=>nomatch z.symm.trans a2) λ⟨vs,z⟩=>nomatch z.symm.trans a2),a3.frame f,a4.frame f⟩,⟨h1.g.rep.frame f (hd p (.head _)),h1.g.ok,h1.g.nd⟩,h1.d,h1.pd⟩
theorem Ny.rep{H:MH}{q:Ku}:∀{qs:List Ku},Ny H qs->q∈qs->BB H q.T
 | _::_,h,hm=>(mcP hm).elim (λe=>e▸h.1.g.rep) (Ny.rep h.2.2)
structure Sk(UG H:MH)(s:Nat)(ps:List Ku):Prop where
 fr:Ao UG H []
 s0:UG s=none
 at_:H s=some (.stk (Di ps))
 st:Ny H ps
 new:∀p∈ps,∀x∈fp p.T,UG x=none
section
variable{n d:Nat}{UG:MH}{s:Nat}{p:Ku}{ps:List Ku}
theorem Sk.put(k:Sk UG H s ps){qs:List Ku}(hs:Ny H qs)(hn:∀p∈qs,∀x∈fp p.T,UG x=none):Sk UG (H.put s (.stk (Di qs))) s qs:=by
 have w:Ao H (H.put s (.stk (Di qs))) [s]:=Ao.put (.head _) λo' z=>by obtain rfl:=WT (k.at_.symm.trans z);rfl
 refine⟨k.fr.drop w λx hx=>msP hx▸k.s0,k.s0,AE _ _ _,hs.frame w (λx hx=>.inr ⟨_,msP hx▸k.at_⟩) λp hp x hx hm=>?_,hn⟩;refine HI ((hs.rep hp).fpi x hx) λc as z=>?_;exact nomatch (k.at_▸(msP hm)▸z)
theorem Sk.push{m:Nat}{T:Tr}{L:List (Int×List Nat)}{H':MH}{F:List Nat}(k:Sk UG H s ps)(f:Ao H H' F)(hF:∀x∈F,(∃c as,H x=some (.inst c as))/\UG x=none)(dj:∀p∈ps,∀x∈fp p.T,x∉F)(pr:Tp H' m T L)(hfp:∀x∈fp T,x∈F\/H x=none) :
 H' s=some (.stk (Di ps))/\Sk UG (H'.put s (.stk (Di ps++[.ref m]))) s (⟨m,T,L⟩::ps):=by
 have st:=k.st.frame f (λx hx=>.inl (hF x hx).1) dj;have k':Sk UG H' s ps:=⟨k.fr.drop f λx hx=>(hF x hx).2,k.s0,f.ni k.at_ (λx hx=>(hF x hx).1) λU U z=>(nomatch z),st,k.new⟩;refine⟨k'.at_,?_⟩;have e:Di ps++[.ref m]=Di (⟨m,T,L⟩::ps):=by unfold Di;exact XK▸Y9▸rfl
 refine e.symm▸k'.put ⟨pr,λq hq x hx hx'=>?_,st⟩ λq hq x hx=>?_
 ·rcases hfp x hx with h|h
  ·exact dj q hq x hx' h
  ·refine HI ((k.st.rep hq).fpi x hx') λc as z=>?_;exact nS h z
 ·rcases mcP hq with rfl|hq
  ·exact(hfp x hx).elim (λh=>(hF x h).2) (k.fr.dm x)
  ·exact k.new q hq x hx
theorem Sk.pop(k:Sk UG H s (p::ps)):Di (p::ps)=Di ps++[.ref p.m]/\Sk UG (H.put s (.stk (Di ps))) s ps/\Tp (H.put s (.stk (Di ps))) p.m p.T p.L:=by
 have e:Di (p::ps)=Di ps++[.ref p.m]:=by unfold Di;rw[XK,Y9]
 refine⟨e,k.put k.st.2.2 λq hq=>k.new q (.tail _ hq),?_⟩;have w:Ao H (H.put s (.stk (Di ps))) [s]:=Ao.put (.head _) λo' z=>by obtain rfl:=WT (k.at_.symm.trans z);rfl
 have:=(show Ny H [p] from⟨k.st.1,λU h=>(nomatch h),trivial⟩).frame w (λx hx=>.inr ⟨_,msP hx▸k.at_⟩) λq hq x hx hm=>by
  refine HI (k.st.1.g.rep.fpi x ((msP hq)▸hx)) λc as z=>?_;exact nomatch (k.at_▸(msP hm)▸z)
 exact this.1
end
theorem AN{x y:Nat}{v:V}(h:WV y x=false):∀{ρ:As},AM x (put y v ρ)=AM x ρ
 | []=>by show cond (WV y x) _ _=_;exact h▸rfl
 | p::r=>by
  show AM x (cond (WV p.1 y) _ _)=cond (WV p.1 x) _ _
  cases e:WV p.1 y with
  | true =>
   have e':p.1=y:=Wa e
   show cond (WV p.1 x) _ _=_
   exact e'▸h▸rfl
  | false =>
   show cond (WV p.1 x) _ _=_
   rw[AN h]
theorem CW{x:Nat}{ρ:As}{v:V}{K:V->Prop}(h:AM x ρ=some v)(k:K v):op (AM x ρ) K:=by rw[h];exact k
theorem Gn:∀T:Tr,(sc T).length<=sz T
 | .null _=>Wh _
 | .leaf _ _ _ _ _ _=>WY _
 | .bin _ _ A B=>by
  show(sc A++sc B).length<=sz A+sz B+1
  rw[Ws];exact Wf (YJ (Gn A) (Gn B))
 | .una _ _ A=>Wf (Gn A)
 | .req _ _ A B=>by
  show(sc A++sc B).length<=sz A+sz B+2
  rw[Ws];exact WL (YJ (Gn A) (Gn B)) (WZ _ _)
section
theorem popS{C κ r}{UG H:MH}{s:Nat}{p:Ku}{ps:List Ku}{ρ:As}{u v t:Nat}{K:Fl->As->MH->Prop}(hS:AM Ai ρ=some (.ref s))(k:Sk UG H s (p::ps))(hl:ps.length<=1000)
 (q:∀H' a es g w,Sk UG H' s ps->Ao H H' [s]->H' a=some (.dict es g)->DV H' es p.L->TL H' w (sc p.T)->(∀qs,Ny H qs->Ny H' qs)->(∀b es g,H b=some (.dict es g)->H' b=some (.dict es g))->A4 C κ r (put t w (put v (.ref a) (put u (.ref p.T.addr) ρ))) H' K) :
 A4 C κ (.unp [(u,false),(v,false),(t,false)] (.pop (.var Ai))::r) ρ H K:=by
 refine DN k.pop λe1 k' pr=>?_;refine CW hS ⟨Di ps,.ref p.m,by exact e1▸k.at_,by rw[Dx];exact hl,?_⟩
 refine x44 pr.at_ λa es g w h1 h2 h3 h4=>?_;have f:Ao H (H.put s (.stk (Di ps))) [s]:=Ao.put (.head _) λo' z=>by obtain rfl:=WT (k.at_.symm.trans z);rfl
 refine At h1 ⟨_,rfl,q _ a es g w k' f h2 h3 h4 (λqs st=>st.frame f (λx hx=>.inr ⟨_,msP hx▸k.at_⟩) λr hr x hx hm=>?_) λb es g hb=>?_⟩
 ·refine HI ((st.rep hr).fpi x hx) λc as z=>?_;exact nomatch (k.at_▸(msP hm)▸z)
 ·rw[AT _ _ λz=>by exact nomatch (k.at_▸z▸hb)];exact hb
theorem Nz{H H1 H2:MH}{s:Nat}{ps:List Ku}{F:List Nat}{m:Nat}{T:Tr}{L:List (Int×List Nat)}(k:Sk H H1 s ps)(f:Ao H1 H2 F)(hF:∀x∈F,(∃c as,H1 x=some (.inst c as))/\H x=none)(dj:∀p∈ps,∀x∈fp p.T,x∉F)(pr:Tp H2 m T L)(hfp:∀x∈fp T,x∈F\/H1 x=none)(hl:ps.length<=1000){K:MH->Prop}
 (h:∀H3,Sk H H3 s (⟨m,T,L⟩::ps)->K H3):∃vs,H2 s=some (.stk vs)/\vs.length<=1000/\K (H2.put s (.stk (vs++[.ref m]))):=by
 refine Az (k.push f hF dj pr hfp) λh1 h2=>?_;exact⟨_,h1,by rw[Dx];exact hl,h _ h2⟩
theorem To{s:Nat}{ps:List Ku}{H1:MH}{x y:E}{v:Int}{j:Nat}{r:List S}{κ ρ}{K:Fl->As->MH->Prop}(hS:AM Ai ρ=some (.ref s))(k:Sk H H1 s ps)(hl:ps.length<=1000)(hx:∀{Q:V->MH->Prop},Q (.int v) H1->wE (call (e+6)) κ x ρ H1 Q)(hy:∀{Q:V->MH->Prop},Q (.str j) H1->wE (call (e+6)) κ y ρ H1 Q)
 (h:∀p H2,sz p.T=1->Sk H H2 s (p::ps)->A4 (call (e+6)) κ r ρ H2 K):A4 (call (e+6)) κ (.expr (.append (.var Ai) (.fn Bt [x,y] []))::r) ρ H1 K:=by
 refine CW hS ⟨_,k.at_,hx (hy ?_)⟩;exact Q2 (e:=e+4) λm T L H2 f pr U hsz hfp=>Nz k f (λU h=>nomatch h) (λU U U U h=>nomatch h) pr (λx hx=>.inr (hfp x hx)) hl λH3 k'=>Et (h ⟨m,T,L⟩ _ hsz k')
theorem oneS(ih:Ih 24 192)(he:192<=e){s:Nat}{p:Ku}{ps:List Ku}{H1:MH}{kind more:Int}{r:List S}{κ ρ}{K:Fl->As->MH->Prop}(hS:AM Ai ρ=some (.ref s))(hK:AM Aq ρ=some (.int kind))(hM:AM DC ρ=some (.int more))(k:Sk H H1 s (p::ps))(hp:Nc (p::ps)<=24)
 (h:∀p' ρ' H2,sz p'.T<=sz p.T+1->(∀y,WV AY y=false->WV AW y=false->WV Bz y=false->AM y ρ'=AM y ρ)->Sk H H2 s (p'::ps)->A4 (call (e+6)) κ r ρ' H2 K) :
 A4 (call (e+6)) κ (.unp [(AY,false),(AW,false),(Bz,false)] (.pop (.var Ai))::.unp [(AY,false),(AW,false)] (.fn CS [.var Aq,.var DC,.var AY,.var AW] [])::.expr (.append (.var Ai) (.tup [.var AY,.var AW,.var Bz]))::r) ρ H1 K:=by
 have hl:ps.length<=1000:=WL Fx (WL (WL (XA _ _) hp) (by decide))
 refine popS hS k hl λH2 a es ga w k2 U ha va vw st U=>?_;have st2:Ny H2 [p]:=st _ ⟨k.st.1,λU h=>(nomatch h),trivial⟩;have dj:=k.st.2.1;have nw:=k.new p (.head _);have pp:=st2.1;have u:∀y,WV AY y=false->WV AW y=false->WV Bz y=false->AM y (put Bz w (put AW (.ref a) (put AY (.ref p.T.addr) ρ)))=AM y ρ:=λy h1 h2 h3=>(AN h3).trans ((AN h2).trans (AN h1));refine CW ((u _ rfl rfl rfl).trans hK) ?_;refine CW ((u _ rfl rfl rfl).trans hM) ?_;refine CW ((AN rfl).trans ((AN rfl).trans Ad)) ?_;refine CW ((AN rfl).trans Ad) ?_;refine Su (e:=e+3) ih (Nat.le_add_right_of_le he) (WL (WL (WZ _ _) (WZ _ _)) hp) pp.g pp.d pp.pd ha va λm T ds H3 f pr hsz hsc hfp=>?_;refine x33 pr.at_ λp' es' g' h1 h2 h3=>?_;have inst:∀x∈fp p.T,∃c as,H2 x=some (.inst c as):=pp.g.rep.fpi;refine At h1 ⟨_,rfl,?_⟩;have u':∀y,WV AY y=false->WV AW y=false->AM y (put AW (.ref p') (put AY (.ref T.addr) (put Bz w (put AW (.ref a) (put AY (.ref p.T.addr) ρ)))))=AM y (put Bz w (put AW (.ref a) (put AY (.ref p.T.addr) ρ))):=λy h1 h2=>(AN h2).trans (AN h1);refine CW ((u' _ rfl rfl).trans ((u _ rfl rfl rfl).trans hS)) ⟨_,f.ni k2.at_ inst (λU U z=>nomatch z),?_⟩;refine CW ((AN rfl).trans Ad) ?_;refine CW Ad ?_;refine CW ((u' _ rfl rfl).trans Ad) ⟨WU rfl,λm3 hm3=>?_⟩;have n4:=Ao.new0 (o:=.tup [.ref T.addr,.ref p',w]) hm3;exact Nz k2 (f.trans (n4.mono λx h=>nomatch h)) (λx hx=>⟨inst x hx,nw x hx⟩) (λq hq x hx hm=>dj q hq x hm hx) ⟨⟨p',es',g',w,AE _ _ _,n4.l h2,h3.frame n4,hsc▸(vw.frame f).frame n4⟩,pr.g.nil n4,pr.d,pr.pd⟩ hfp hl λH4 k4=>Et (h ⟨m3,T,ds⟩ _ _ hsz (λy a1 a2 a3=>(u' y a1 a2).trans (u y a1 a2 a3)) k4)
theorem twoS(ih:Ih 24 192)(he:192<=e){s:Nat}{p q:Ku}{ps:List Ku}{H1:MH}{ek:E}{kind:Int}{r:List S}{κ ρ}{K:Fl->As->MH->Prop}(hS:AM Ai ρ=some (.ref s))(k:Sk H H1 s (p::q::ps))(hp:Nc (p::q::ps)<=24)
 (hK:∀{ρ' H Q},AM Aq ρ'=AM Aq ρ->Q (.int kind) H->wE (call (e+6)) κ ek ρ' H Q)
 (h:∀p' ρ' H2,sz p'.T<=sz p.T+sz q.T+2->(∀y,WV A7 y=false->WV AX y=false->WV DY y=false->WV Ba y=false->WV Af y=false->WV DZ y=false->WV AY y=false->WV AW y=false->AM y ρ'=AM y ρ)->Sk H H2 s (p'::ps)->A4 (call (e+6)) κ r ρ' H2 K) :
 A4 (call (e+6)) κ (.unp [(A7,false),(AX,false),(DY,false)] (.pop (.var Ai))::.unp [(Ba,false),(Af,false),(DZ,false)] (.pop (.var Ai))::.unp [(AY,false),(AW,false)] (.fn B8 [ek,.var Ba,.var Af,.var A7,.var AX] [])::.expr (.append (.var Ai) (.tup [.var AY,.var AW,.cat (.var DZ) (.var DY)]))::r) ρ H1 K:=by
 have hp2:sz q.T+2+Nc ps<=24:=WL (XA _ _) hp;have hl:ps.length<=1000:=WL Fx (WL (WL (XA _ _) hp2) (by decide))
 refine popS hS k (WL Fx (show sz q.T+2+Nc ps<=1000 from WL hp2 (by decide))) λH2 b eb gb wb k2 f2 hb vb tb st U=>?_
 refine popS ((AN rfl).trans ((AN rfl).trans ((AN rfl).trans hS))) k2 hl λH3 a ea ga wa k3 f3 ha va ta st' kb=>?_;have st3:Ny H3 [q,p]:=st' _ (st _ ⟨k.st.2.2.1,λz hz x hx hx'=>by rw[msP hz] at hx';exact k.st.2.1 q (.head _) x hx' hx,k.st.1,λU h=>(nomatch h),trivial⟩)
 replace hb:=kb _ _ _ hb;replace vb:=vb.frame f3;replace tb:=tb.frame f3;have djp:=k.st.2.1;have djq:=k.st.2.2.2.1;have nwp:=k.new p (.head _);have nwq:=k.new q (.tail _ (.head _));have pq:=st3.1;have pp:=st3.2.2.1;have u:∀y,WV A7 y=false->WV AX y=false->WV DY y=false->WV Ba y=false->WV Af y=false->WV DZ y=false->AM y (put DZ wa (put Af (.ref a) (put Ba (.ref q.T.addr) (put DY wb (put AX (.ref b) (put A7 (.ref p.T.addr) ρ))))))=AM y ρ:=λy h1 h2 h3 h4 h5 h6=>(AN h6).trans ((AN h5).trans ((AN h4).trans ((AN h3).trans ((AN h2).trans (AN h1)))));refine hK (u _ rfl rfl rfl rfl rfl rfl) ?_;refine CW ((AN rfl).trans ((AN rfl).trans Ad)) ?_;refine CW ((AN rfl).trans Ad) ?_;refine CW ((AN rfl).trans ((AN rfl).trans ((AN rfl).trans ((AN rfl).trans ((AN rfl).trans Ad))))) ?_;refine CW ((AN rfl).trans ((AN rfl).trans ((AN rfl).trans ((AN rfl).trans Ad)))) ?_;refine Ss (e:=e) ih he (by decide) (WL (WL (WZ _ _) (WZ _ _)) hp2) (WL (WL (X3 (sz p.T+1)) (WZ _ _)) hp) pq.g pp.g (st3.2.1 p (.head _)) pq.d pp.d pq.pd pp.pd ha va hb vb λm T ds H4 f pr hsz hsc hfp=>?_
 refine x33 pr.at_ λp' es' g' h1 h2 h3=>?_;have inst:∀x∈fp q.T++fp p.T,∃c as,H3 x=some (.inst c as):=λx hx=>(maP hx).elim (pq.g.rep.fpi x) (pp.g.rep.fpi x);refine At h1 ⟨_,rfl,?_⟩
 generalize hρ:put DZ wa (put Af (.ref a) (put Ba (.ref q.T.addr) (put DY wb (put AX (.ref b) (put A7 (.ref p.T.addr) ρ)))))=ρ' at u
 have gh:AM DZ ρ'=some wa:=hρ▸Ad;have gt:AM DY ρ'=some wb:=hρ▸(AN rfl).trans ((AN rfl).trans ((AN rfl).trans Ad));have u':∀y,WV AY y=false->WV AW y=false->AM y (put AW (.ref p') (put AY (.ref T.addr) ρ'))=AM y ρ':=λy h1 h2=>(AN h2).trans (AN h1);refine CW ((u' _ rfl rfl).trans ((u _ rfl rfl rfl rfl rfl rfl).trans hS)) ⟨_,f.ni k3.at_ inst (λU U z=>nomatch z),?_⟩;refine CW ((AN rfl).trans Ad) ?_;refine CW Ad ?_;refine CW ((u' _ rfl rfl).trans gh) ?_;refine CW ((u' _ rfl rfl).trans gt) ?_;have l1:(sc q.T).length<=500:=WL (Gn _) (WL (WL (WL (WZ _ _) (WZ _ _)) hp2) (by decide))
 have l2:(sc p.T).length<=500:=WL (Gn _) (WL (WL (WL (WZ _ _) (WZ _ _)) hp) (by decide))
 refine MJ (ta.frame f) (tb.frame f) l1 l2 λw H5 f5 tw=>⟨WU rfl,λm3 hm3=>?_⟩;have n4:=Ao.new0 (o:=.tup [.ref T.addr,.ref p',w]) hm3;have f6:=f5.trans n4;exact Nz k3 (f.trans (f6.mono λx h=>nomatch h)) (λx hx=>⟨inst x hx,(maP hx).elim (nwq x) (nwp x)⟩) (λz hz x hx hm=>(maP hm).elim (λhm=>djq z hz x hm hx) λhm=>djp z (.tail _ hz) x hm hx) ⟨⟨p',es',g',w,AE _ _ _,f6.l h2,h3.frame f6,hsc▸tw.frame n4⟩,pr.g.nil f6,pr.d,pr.pd⟩ hfp hl λH7 k7=>Et (h ⟨m3,T,ds⟩ _ _ (show sz T<=sz p.T+sz q.T+2 by rw[Z7 (sz p.T)];exact hsz) (λy a1 a2 a3 a4 a5 a6 a7 a8=>(u' y a7 a8).trans (u y a1 a2 a3 a4 a5 a6)) k7)
end
section
def Q6:S:=.cond (.e (.cmp .Lt (.var Cn) (.int 4))) [.asg Cn (.bin .Add (.var Cn) (.int 1)),.expr (.append (.var Ai) (.fn Bt [.var A9,.ltr (.var CR)] []))] []
noncomputable def tTwo(k:E):List S:=[.unp [(A7,false),(AX,false),(DY,false)] (.pop (.var Ai)),.unp [(Ba,false),(Af,false),(DZ,false)] (.pop (.var Ai)),.unp [(AY,false),(AW,false)] (.fn B8 [k,.var Ba,.var Af,.var A7,.var AX] []),.expr (.append (.var Ai) (.tup [.var AY,.var AW,.cat (.var DZ) (.var DY)]))]
def N2:S:=.cond (.and [.e (.cmp .Gt (.var Aq) (.int 3)),.e (.cmp .NotEq (.var Aq) (.int 9)),.e (.cmp .NotEq (.var Aq) (.int 10)),.e (.cmp .Gt (.len (.var Ai)) (.int 1))]) (tTwo (.var Aq)) [Q6]
noncomputable def tOne:List S:=[.unp [(AY,false),(AW,false),(Bz,false)] (.pop (.var Ai)),.unp [(AY,false),(AW,false)] (.fn CS [.var Aq,.var DC,.var AY,.var AW] []),.expr (.append (.var Ai) (.tup [.var AY,.var AW,.var Bz]))]
def tBody:S:=.cond (.and [.or [.e (.cmp .Eq (.var Aq) (.int 9)),.e (.cmp .Eq (.var Aq) (.int 10))],.e (.cmp .Gt (.len (.var Ai)) (.int 0))]) tOne [N2]
theorem Q7{H':MH}{s i:Nat}{ps:List Ku}{number kind more l:Int}{ρ:As}(ih:Ih 24 192)(he:192<=e)(S:AM Ai ρ=some (.ref s))(L:AM Cn ρ=some (.int l))(P:AM CR ρ=some (.int i))(N:AM A9 ρ=some (.int number))(K:AM Aq ρ=some (.int kind))(M:AM DC ρ=some (.int more))(k:Sk H H' s ps)(hi:i<8)(hp:Nc ps<=3*i)
 {G:Fl->As->MH->Prop}(h:∀{ρ' H'' ps' l'},AM Ai ρ'=some (.ref s)->AM Cn ρ'=some (.int l')->AM By ρ'=AM By ρ->Sk H H'' s ps'->Nc ps'<=3*(i+1)->G .next ρ' H''):A4 (call (e+6)) [] [tBody] ρ H' G:=by
 have h3i:3*i<=24:=WL (XJ 3 (Xe hi)) (by decide)
 have hl:ps.length<=1000:=WL Fx (WL hp (WL h3i (by decide)))
 have hl1:(Di ps).length<=1000:=by rw[Dx];exact hl
 have other:∀{G:Fl->As->MH->Prop},(∀{ρ' H'' ps' l'},AM Ai ρ'=some (.ref s)->AM Cn ρ'=some (.int l')->AM By ρ'=AM By ρ->Sk H H'' s ps'->Nc ps'<=3*(i+1)->G .next ρ' H'')->A4 (call (e+6)) [] [Q6] ρ H' G:=λ{G} h=>by
  refine CW L (AO (λzl=>?_) λU=>Bu (Et (Bu (h S L rfl k (WL hp m3)))));refine CW L ?_;refine To (j:=i) ((AN rfl).trans S) k hl (λq=>CW ((AN rfl).trans N) q) (λq=>CW ((AN rfl).trans P) ⟨⟨X7 i,Xu.mpr hi⟩,by rw[Y8];exact q⟩) λp' H2 hsz k'=>Bu (Et (Bu (h ((AN rfl).trans S) Ad (AN rfl) k' (ph0 hsz hp))))
 have three:∀{G:Fl->As->MH->Prop},(∀{ρ' H'' ps' l'},AM Ai ρ'=some (.ref s)->AM Cn ρ'=some (.int l')->AM By ρ'=AM By ρ->Sk H H'' s ps'->Nc ps'<=3*(i+1)->G .next ρ' H'')->A4 (call (e+6)) [] [N2] ρ H' G:=λ{G} h=>by
  have no:=other (G:=GU (λρ H=>A4 (call (e+6)) [] [] ρ H G) G) λa b c d w=>Et (Bu (h a b c d w));refine CW K (AO (λU=>?_) λU=>JO no);refine CW K (AO (λU=>?_) λU=>JO no);refine CW K (AO (λU=>?_) λU=>JO no);refine CW S (At k.at_ ⟨_,.stk hl1,?_⟩);refine AO (λz=>?_) λU=>JO no
  match ps,k,hp,z with
  | [],_,_,z=>exact zT z
  | [_],_,_,z=>exact zT z
  | p::q::ps,k,hp,_ =>
   exact twoS ih he S k (WL hp h3i) (λhz q=>CW (hz.trans K) q) λp' ρ' H2 hsz u k'=>Bu (Et (Bu (h ((u _ rfl rfl rfl rfl rfl rfl rfl rfl).trans S) ((u _ rfl rfl rfl rfl rfl rfl rfl rfl).trans L) (u _ rfl rfl rfl rfl rfl rfl rfl rfl) k' (WL (ph2 hsz hp) m3))))
 have no:=three (G:=GU (λρ H=>A4 (call (e+6)) [] [] ρ H G) G) λa b c d w=>Et (Bu (h a b c d w));have yes:Jh (decide (((Di ps).length:Int) > 0)) (A4 (call (e+6)) [] tOne ρ H' (GU (λρ H=>A4 (call (e+6)) [] [] ρ H G) G)) (A4 (call (e+6)) [] [N2] ρ H' (GU (λρ H=>A4 (call (e+6)) [] [] ρ H G) G)):=by
  refine AO (λz=>?_) λU=>no
  match ps,k,hp,z with
  | [],_,_,z=>exact zT z
  | p::ps,k,hp,_ =>
   exact oneS ih he S K M k (WL hp h3i) λp' ρ' H2 hsz u k'=>Bu (Et (Bu (h ((u _ rfl rfl rfl).trans S) ((u _ rfl rfl rfl).trans L) (u _ rfl rfl rfl) k' (ph1 hsz hp))))
 have len:∀{R:Bool->MH->Prop},R (decide (((Di ps).length:Int) > 0)) H'->wT (call (e+6)) [] (.e (.cmp .Gt (.len (.var Ai)) (.int 0))) ρ H' R:=λq=>CW S (At k.at_ ⟨_,.stk hl1,q⟩);refine CW K (AO (λz=>?_) λU=>?_)
 ·refine len ?_;cases z:decide (((Di ps).length:Int) > 0)<;>rw[z] at yes
  ·exact yes
  ·exact yes
 ·refine CW K (AO (λz=>?_) λU=>?_)
  ·refine len ?_;cases z:decide (((Di ps).length:Int) > 0)<;>rw[z] at yes
   ·exact yes
   ·exact yes
  ·exact JO (A:=True) no
def tWhile:S:=.while (.e (.cmp .Gt (.len (.var Ai)) (.int 1))) (tTwo (.int 4))
def tEnd:S:=.ret (.idx (.var Ai) (.int 0))
theorem LQ{H':MH}{s:Nat}{ps:List Ku}{ρ:As}(ih:Ih 24 192)(he:192<=e)(S:AM Ai ρ=some (.ref s))(k:Sk H H' s ps)(hp:Nc ps<=24)(h0:0<ps.length)
 (q:∀m T ds H',Ao H H' []->Tp H' m T ds->sz T<=24->(∀x∈fp T,H x=none)->Q (.ref m) H'):A4 (call (e+6)) [] [tWhile,tEnd] ρ H' (Ah Q):=by
 refine⟨λn ρ H'=>∃ps,AM Ai ρ=some (.ref s)/\Sk H H' s ps/\Nc ps<=24/\0<ps.length/\ps.length=n,ps.length,⟨ps,S,k,hp,h0,rfl⟩,?_⟩;rintro n ρ H' ⟨ps,S,k,hp,h0,rfl⟩;have hl:ps.length<=1000:=WL Fx (WL hp (by decide))
 have hl1:(Di ps).length<=1000:=by exact Dx.symm▸hl
 refine CW S (At k.at_ ⟨_,.stk hl1,?_⟩);refine Dx.symm▸AO (λz=>?_) λz=>?_
 ·match ps,k,hp,z with
  | [],_,_,z=>exact zT z
  | [_],_,_,z=>exact zT z
  | p::r::ps,k,hp,_ =>
   refine twoS ih he S k hp (kind:=4) (λU q=>q) λp' ρ' H2 hsz u k'=>Bu ⟨ps.length+1,Xl _,p'::ps,(u _ rfl rfl rfl rfl rfl rfl rfl rfl).trans S,k',?_,ZN _,rfl⟩;have hp':sz p.T+2+(sz r.T+2+Nc ps)<=24:=hp;exact ph2 hsz hp'
 ·match ps,k,hp,h0,z with
  | [p],k,hp,_,_ =>
   refine Et (CW S (At k.at_ ⟨.ref p.m,.stk (by exact Dx.symm▸WU rfl) rfl,?_⟩))
   have hp':sz p.T+2+0<=24:=hp;exact q p.m p.T p.L H' k.fr k.st.1 (WL (WZ _ 2) hp') (k.new p (.head _))
  | p::r::ps,_,_,_,z=>exact absurd (of_decide_eq_false z) (λw=>w (Xu.mpr (Nat.succ_lt_succ (ZQ _))))
theorem Q8{na:Nat}{ns:List Int}(he:192<=e)(hna:H na=some (.list (ns.map .int)))(hl:ns.length<=7)(q:∀m T ds H',Ao H H' []->Tp H' m T ds->sz T<=24->(∀x∈fp T,H x=none)->Q (.ref m) H'):call (e+7) Dn [.ref na] [] H Q:=by
 have ih:Ih 24 192:=IW 24
 show A4 (call (e+6)) [] HU [(By,.ref na)] H (Ah Q)
 intro s hs;have f1:=Ao.new0 (o:=.stk []) hs;have hl3:ns.length<=1000:=WL hl (by decide)
 refine At (f1.l hna) ⟨_,Nu hl3,?_⟩;intro rg hrg;have hrg0:H rg=none:=f1.dm _ hrg;have rs:rg≠s:=Oy hrg (AE _ _ _);have n0:=Ao.new0 (o:=.range 0 ns.length 1) hrg0;have e0:(H.put s (.stk [])).put rg (.range 0 ns.length 1)=(H.put rg (.range 0 ns.length 1)).put s (.stk []):=by
  funext b
  by_cases z:b=s
  ·subst z;rw[AT _ _ rs.symm,AE,AE]
  ·by_cases z':b=rg
   ·subst z';rw[AE,AT _ _ z,AE]
   ·rw[AT _ _ z',AT _ _ z,AT _ _ z,AT _ _ z']
 refine e0.symm▸?_;have hna0:=n0.l hna;have r0:=AE H rg (.range 0 ns.length 1);have hs0:(H.put rg (.range 0 ns.length 1)) s=none:=(AT _ _ rs.symm).trans hs;replace q:∀m T ds H',Ao (H.put rg (.range 0 ns.length 1)) H' []->Tp H' m T ds->sz T<=24->(∀x∈fp T,(H.put rg (.range 0 ns.length 1)) x=none)->Q (.ref m) H':=λm T ds H' f t z h=>q m T ds H' (n0.trans f) t z λx hx=>n0.dm x (h x hx)
 generalize H.put rg (.range 0 ns.length 1)=H0 at n0 hna0 r0 hs0 q ⊢
 have kr:Sk H0 (H0.put s (.stk [])) s []:=⟨Ao.new0 hs0,hs0,AE _ _ _,trivial,λU h=>nomatch h⟩;refine⟨_,_,(Ao.new0 (o:=.stk []) hs0).l r0,.range (by unfold D6;omega),rfl,λi ρ H'=>∃ps l,AM Ai ρ=some (.ref s)/\AM Cn ρ=some (.int l)/\AM By ρ=some (.ref na)/\Sk H0 H' s ps/\Nc ps<=3*i,⟨[],0,rfl,rfl,rfl,kr,WY _⟩,?_,?_⟩
 ·rintro i ρ H' v hv ⟨ps,l,hS,hL,hN,k,hp⟩;obtain⟨rfl,hi'⟩:=Q1 hv;rw[aA];have hi:i<ns.length:=by omega
  refine⟨k.fr.l r0,?_⟩;obtain⟨number,hn⟩:∃x,ns[i]?=some x:=⟨_,Wu hi⟩;refine CW ((AN rfl).trans hN) (CW Ad (At (k.fr.l hna0) ⟨_,Gk hn hl3,?_⟩));refine CW Ad ⟨by decide,?_⟩
  refine CW ((AN rfl).trans Ad) ⟨by decide,by decide,?_⟩
  have up:∀y,WV DC y=false->WV Aq y=false->WV A9 y=false->AM y (put DC (.int (number.fdiv 12)) (put Aq (.int (number.fmod 12)) (put A9 (.int number) (put CR (.int i) ρ))))=AM y (put CR (.int i) ρ):=λy h1 h2 h3=>(AN h1).trans ((AN h2).trans (AN h3));refine Q7 ih he ((up _ rfl rfl rfl).trans ((AN rfl).trans hS)) ((up _ rfl rfl rfl).trans ((AN rfl).trans hL)) ((up _ rfl rfl rfl).trans Ad) ((AN rfl).trans ((AN rfl).trans Ad)) ((AN rfl).trans Ad) Ad k (Wt hi (WL hl (by decide))) hp λ{ρ' H'' ps' l'} a b c d w=>⟨ps',l',a,b,c.trans ((up _ rfl rfl rfl).trans ((AN rfl).trans hN)),d,w⟩
 ·rintro ρ H' ⟨ps,l,hS,-,-,k,hp⟩;rw[WS,E5] at hp;have hp:Nc ps<=24:=by omega
  have hl:ps.length<=1000:=WL Fx (WL hp (by decide))
  have hl1:(Di ps).length<=1000:=by exact Dx.symm▸hl
  refine⟨k.fr.l r0,Et ?_⟩;refine CW hS (At k.at_ ⟨_,.stk hl1,?_⟩);rw[Dx];refine AO (λz=>?_) λz=>Bu (Et ?_)
  ·match ps,k,z with
   | [],k,_ =>
    refine To hS k (by decide) (λq=>q) (λq=>q) (v:=0) (j:=0) λp' H2 hsz k'=>Bu (Et (LQ ih he hS k' (by refine(hsz.symm▸?_:sz p'.T+2+0<=24);decide) (ZN _) q))
   | p::ps,_,z=>exact absurd (eq_of_beq z) (Int.ofNat_ne_zero.mpr (Nat.succ_ne_zero _))
  ·refine LQ ih he hS k hp ?_ q
   match ps,z with
   | [],z=>exact zF z
   | p::ps,_=>exact ZN _
end
end
section
variable{d:Nat}{H:MH}{c1 c2 p dl rg:Nat}{es:List (Int×V)}{ds:List (Int×List Nat)}{deeds:List Int}{i:Nat}{ρ:As}{κ:Kp}{G:Fl->As->MH->Prop}{Q:V->MH->Prop}
theorem LR{H:MH}{v m}{K K':Nat->Prop}(h:BL H v m K)(q:∀f,K f->K' f):BL H v m K':=by
 cases v with
 | ref a =>
  refine En h λc as h1 h2 h3=>?_;refine⟨c,as,h1,h2,?_⟩;cases e:Bh c m with
  | none=>rw[e] at h3;exact h3
  | some f=>rw[e] at h3;exact q f h3
 | _=>exact h
theorem opK{x:Nat}{κ:Kp}{v:Nat}{K:Nat->Prop}(h:AM x κ=some v)(k:K v):op (AM x κ) K:=by rw[h];exact k
theorem Sv{A:D}{x y}:frm (frm A x) y=frm A (max x y):=by
 funext d;unfold frm
 by_cases h1:y<=d<;>by_cases h2:x<=d
 ·rw[if_pos h1,if_pos h2,if_pos (by omega)]
 ·rw[if_pos h1,if_neg h2,if_neg (by omega)]
 ·rw[if_neg h1,if_neg (by omega)]
 ·rw[if_neg h1,if_neg (by omega)]
noncomputable def Ks(A:D)(l:List Int):Prop:=Nr l/\∀i,i∈l<->A i≠none
theorem Ks.hd{A:D}{x r}(k:Ks A (x::r)):Hd A x:=⟨(k.2 x).mp (.head _),λd h=>(Wb.mp ((k.2 d).mpr h)).elim (λe=>e▸Wq _) λm=>XO ((XS.mp k.1).1 d m)⟩
noncomputable def MtOk(T:Tr)(i:List V)(ts:List Nat):Prop:=match i with
 | []=>(∀x,Hd T.den x->T.den x=some ts)/\(¬ Av T.den->ts=[])
 | [.int x]=>(Hd T.den x->T.den x=some ts)/\(¬ Hd T.den x->ts=[])
 | _=>False
def CL(d:Nat):CB:=λf vs us H Q =>
 (f=Ip/\us=[]/\∃T i ts,vs=.ref T.addr::i/\AS H T/\sz T<=24/\MtOk T i ts/\∀v H',Qt H H' (fp T)->TL H' v ts->Q v H') \/
 (f=Li/\us=[]/\∃T,vs=[.ref T.addr]/\AS H T/\sz T<=24/\∀v H',Ao H H' []->TL H' v (sc T)->Q v H') \/
 call d f vs us H Q
theorem eq_ok{H:MH}{v u:V}{ts us:List Nat}{K:Bool->Prop}(h:TL H v ts)(k:TL H u us)(ht:ts.length<=500)(hu:us.length<=500)(q:K (tms ts==tms us)):SP H .Eq v u K:=by
 have lv:=λl vs=>h.len (l:=l) (vs:=vs);have lu:=λl vs=>k.len (l:=l) (vs:=vs);refine En h λa vs z h1 h2=>?_;obtain rfl:=z;refine En k λb ws z k1 k2=>?_;obtain rfl:=z;exact⟨vs,ws,_,_,h1,k1,h2,k2,by rw[lv _ _ rfl h1];omega,by rw[lu _ _ rfl k1];omega,q⟩
theorem Q9{H:MH}{v u:V}{ts:List Nat}{K:Bool->Prop}(h:TL H v ts)(k:TL H u ts)(ht:ts.length<=500)(q:K false):SP H .NotEq v u K:=by
 have lv:=λl vs=>h.len (l:=l) (vs:=vs);have lu:=λl vs=>k.len (l:=l) (vs:=vs);refine En h λa vs z h1 h2=>?_;obtain rfl:=z;refine En k λb ws z k1 k2=>?_;obtain rfl:=z;exact⟨vs,ws,_,_,h1,k1,h2,k2,by rw[lv _ _ rfl h1];omega,by rw[lu _ _ rfl k1];omega,by rw[beq_self_eq_true];exact q⟩
structure Wd(H:MH)(c2 p dl rg:Nat)(es:List (Int×V))(ds:List (Int×List Nat))(deeds:List Int):Prop where
 c:H c2=some (.cell (some (.ref p)))
 p:∃g,H p=some (.dict es g)
 v:DV H es ds
 d:H dl=some (.list (deeds.map .int))
 r:H rg=some (.range 0 (deeds.length+11) 1)
structure Tk(H:MH)(T:Tr)(ds:List (Int×List Nat))(low:Int):Prop where
 g:AS H T
 n:sz T<=24
 d:T.den=frm (GB ds) low
 pd:PD ds
 lo:0<=low/\low<=11
theorem Wd.fr{H H':MH}{c2 p dl rg es ds deeds F}(w:Wd H c2 p dl rg es ds deeds)(f:Ao H H' F)(hF:∀x∈F,∃c as,H x=some (.inst c as)):Wd H' c2 p dl rg es ds deeds :=
 ⟨f.ni w.c hF λU U z=>(nomatch z),w.p.imp λU h=>f.ni h hF λU U z=>(nomatch z),w.v.frame f,f.ni w.d hF λU U z=>(nomatch z),f.ni w.r hF λU U z=>(nomatch z)⟩
theorem Wd.nw{H H':MH}{c2 p dl rg es ds deeds}(w:Wd H c2 p dl rg es ds deeds)(f:Ao H H' []):Wd H' c2 p dl rg es ds deeds:=w.fr f λU h=>nomatch h
theorem Tk.nw{H H':MH}{T ds low}(t:Tk H T ds low)(f:Ao H H' []):Tk H' T ds low:=⟨t.g.nil f,t.n,t.d,t.pd,t.lo⟩
theorem Tk.q{H H':MH}{T ds low F}(t:Tk H T ds low)(q:Qt H H' F):Tk H' T ds low:=⟨t.g.q q,t.n,t.d,t.pd,t.lo⟩
noncomputable def LI(c2 p dl rg:Nat)(es:List (Int×V))(ds:List (Int×List Nat))(deeds:List Int)(i:Nat)(ρ:As)(H:MH):Prop:=∃T low,AM AY ρ=some (.ref T.addr)/\AM EZ ρ=some (.int low)/\AM Ez ρ=some (.ref dl)/\Wd H c2 p dl rg es ds deeds/\Tk H T ds low/\(i:Int)-deeds.length<=low/\(deeds.length<i->low<=10)
noncomputable def RA:S:=.cond (.or [(.e (.cmp .Eq (.var Aq) (.int 2))),(.e (.cmp .Eq (.var Aq) (.int 3)))]) [.asg Fh (.bin .Mod (.bin .FloorDiv (.var A9) (.int 5)) (.int 12)),.expr (.meth (.var AY) AV [(.var Fh)] []),.asg EZ (.max2 (.var EZ) (.var Fh))] [.cond (.e (.cmp .Eq (.var Aq) (.int 4))) [.asg AY (.meth (.var AY) AL [] [])] [.expr (.meth (.var AY) BC [] []),.asg EZ (.bin .Add (.idx (.var B7) (.int 0)) (.int 1))]]
noncomputable def Tq:E:=.lcomp (.var AZ) AZ (.range [(.var EZ),(.int 10)]) [(.e (.cmp .In (.var AZ) (.cvar AW)))]
noncomputable def lNum:E:=.ite (.e (.cmp .Lt (.var Im) (.len (.var Ez)))) (.idx (.var Ez) (.var Im)) (.int 0)
noncomputable def lPick(lo:Int):E:=.lcomp (.idx (.cvar Bq) (.var CR)) CR (.range [.int lo,.len (.cvar Bq),.int 2]) []
noncomputable def lTurn:List S:=[.asg B7 Tq,.cond (.e (.cmp .Eq (.len (.var B7)) (.int 0))) [.ret (.and [(.not (.meth (.var AY) AB [] [])),(.cmp .Eq (.lmt (.var AY)) (.lst []))])] [],.cond (.or [(.not (.e (.meth (.var AY) AB [] []))),(.e (.cmp .NotEq (.meth (.var AY) Ag [] []) (.idx (.var B7) (.int 0))))]) [.ret (.bool false)] [],.asg HK (.idx (.cvar AW) (.idx (.var B7) (.int 0))),.cond (.or [(.e (.cmp .NotEq (.lmt (.var AY)) (.var HK))),(.e (.cmp .NotEq (.lmt1 (.var AY) (.bin .Add (.idx (.var B7) (.int 0)) (.int 1))) (.lst [])))]) [.ret (.bool false)] [],.asg A9 lNum,.asg Aq (.bin .Mod (.var A9) (.int 5)),RA]
section
variable{rl:Nat}{r:List Int}{T:Tr}{low number kind x:Int}{C:CB}
theorem cl{H:MH}{v m vs}{Q:V->MH->Prop}(h:BL H v m λf=>call d f vs [] H Q):BL H v m λf=>CL d f vs [] H Q:=LR h λU z=>.inr (.inr z)
theorem restE(hκ:AM AW κ=some c2)(hL:AM EZ ρ=some (.int low))(w:Wd H c2 p dl rg es ds deeds)(pd:PD ds)(lo:0<=low/\low<=11){K:V->MH->Prop}(q:∀l (is:List Int) H',Ao H H' []->H' l=some (.list (is.map .int))->is.length<=1000->Ks (frm (GB ds) low) is->K (.ref l) H'):wE C κ Tq ρ H K:=by
 refine CW hL λrg hrg=>?_;have n1:=Ao.new0 (o:=.range low 10 1) hrg;have w1:=w.nw n1;refine EX (α:=V) (is:=A5 low 10 1) (AE _ _ _) (.range (by unfold D6;omega)) (λi=>if decide (i∈keys ds)=true then some (V.int i) else none) (λi hi R hR=>?_) ?_
 ·refine opK hκ (cv w1.c ⟨_,_,w1.p.choose_spec,Py w1.v,?_⟩);cases z:decide (i∈keys ds)<;>rw[z] at hR
  ·exact hR
  ·exact hR
 refine(M8 (p:=λi=>decide (i∈keys ds))).symm▸?_;have hl:((A5 low 10 1).filter λi=>decide (i∈keys ds)).length<=1000:=WL (YF _ _) (by rw[E5];omega)
 refine⟨by rw[WS];exact hl,λl hl'=>q l _ _ (n1.trans (Ao.new0 hl')) (AE _ _ _) hl ⟨G1.filter _,λi=>?_⟩⟩
 rw[XL,E6,B9,Ay,decide_eq_true_eq];exact⟨λh=>⟨h.1.1,h.2⟩,λh=>⟨⟨h.1,(pd.2 i h.2).2⟩,h.2⟩⟩
theorem pick{lo:Int}{sl:Nat}{s:List Int}(h0:lo=0\/lo=1)(hκ:AM Bq κ=some c1)(k:H c1=some (.cell (some (.ref sl))))(hs:H sl=some (.list (s.map .int)))(hl:s.length<=14){K:V->MH->Prop}
 (q:∀l (is:List Int) H',Ao H H' []->H' l=some (.list (is.map .int))->is.length<=7->K (.ref l) H'):wE C κ (lPick lo) ρ H K:=by
 have hl1:s.length<=1000:=by omega
 refine opK hκ (cv k (At hs ⟨_,Nu hl1,by decide,by decide,λrg hrg=>?_⟩))
 have n1:=Ao.new0 (o:=.range lo s.length 2) hrg;have len:(A5 lo s.length 2).length<=7:=by unfold A5;rw[WS,Yb];omega
 have mem:∀i∈A5 lo s.length 2,0<=i/\i<s.length:=by
  intro i hi;refine Aj (Xd.mp hi) λa ha z=>?_;obtain rfl:=z;have:=Zf.mp ha;omega
 refine EX (α:=V) (is:=A5 lo s.length 2) (AE _ _ _) (.range (by unfold D6;omega)) (λi=>some (V.int (s[i.toNat]?.getD 0))) (λi hi R hR=>?_) ?_
 ·obtain⟨h1,h2⟩:=mem i hi;refine opK hκ (cv (n1.l k) (At (n1.l hs) ⟨V.int (s[i.toNat]?.getD 0),?_,hR⟩));have h3:i.toNat<s.length:=by omega
  have:=Gk (is:=s) (i:=i.toNat) (Wu h3) hl1;rw[Yv h1] at this;exact(Wu h3).symm▸this
 have e:(A5 lo s.length 2).filterMap (λi=>some (V.int (s[i.toNat]?.getD 0)))=((A5 lo s.length 2).map λi=>s[i.toNat]?.getD 0).map .int:=by rw[Xf];exact(List.filterMap_eq_map (f:=λi:Int=>V.int (s[i.toNat]?.getD 0)))▸rfl
 refine e.symm▸⟨by rw[WS,WS];omega,λl hl'=>q l _ _ (n1.trans (Ao.new0 hl')) (AE _ _ _) (by rw[WS];exact len)⟩
theorem deed(he:192<=d)(hT:AM AY ρ=some (.ref T.addr))(hL:AM EZ ρ=some (.int low))(hD:AM Ez ρ=some (.ref dl))(hR:AM B7 ρ=some (.ref rl))(hN:AM A9 ρ=some (.int number))(hK:AM Aq ρ=some (.int kind))
 (w:Wd H c2 p dl rg es ds deeds)(t:Tk H T ds low)(k:Ks T.den (x::r))(hl:(x::r).length<=1000)(hr:H rl=some (.list ((x::r).map .int)))(hi:(i:Int)-deeds.length<=low)(hk:deeds.length<=i->kind=0)(h:∀ρ' H',LI c2 p dl rg es ds deeds (i+1) ρ' H'->G .next ρ' H'):A4 (CL d) κ [RA] ρ H G:=by
 have ct:∀{S:Tr},sz S<=24->GL d S:=λh=>IW 24 _ h d he;have hx:=k.hd;have inst:=t.g.rep.fpi;have tlo:=t.lo;have kd:kind≠0->¬ deeds.length<=i:=λh z=>h (hk z);have x0:low<=x/\0<=x/\x<10:=by
  have:=hx.1;rw[t.d] at this;refine Az (B9.mp this) λa b=>?_;exact⟨a,t.pd.2 x (Ay.mp b)⟩
 have sk:kind≠0->∀{G:Fl->As->MH->Prop},(∀ρ' H',LI c2 p dl rg es ds deeds (i+1) ρ' H'->G .next ρ' H')->A4 (CL d) κ [.asg Fh (.bin .Mod (.bin .FloorDiv (.var A9) (.int 5)) (.int 12)),.expr (.meth (.var AY) AV [(.var Fh)] []),.asg EZ (.max2 (.var EZ) (.var Fh))] ρ H G:=λh0 {G} h=>by
  have hi':=kd h0;have hg:0<=(number.fdiv 5).fmod 12/\(number.fdiv 5).fmod 12<=11:=⟨ZP _ (by decide),by have:=Z1 (number.fdiv 5) (show(0:Int)<12 by decide);omega⟩
  refine CW hN ⟨by decide,by decide,by decide,?_⟩
  generalize (number.fdiv 5).fmod 12=goal at hg ⊢
  refine CW ((AN rfl).trans hT) (LR (CU (y:=goal) (ct t.n) t.g rfl hx.act λv T' H' hv u hd st=>?_) λf z=>CW Ad (.inr (.inr z)));refine CW ((AN rfl).trans hL) (CW Ad ?_);refine h _ _ ⟨T',max low goal,(AN rfl).trans ((AN rfl).trans (u.ad▸hT)),Ad,(AN rfl).trans ((AN rfl).trans hD),w.fr u.fr inst,⟨t.g.u u,u.sz▸t.n,by rw[hd,t.d,Sv],t.pd,by omega⟩,by omega,by omega⟩
 have rest:A4 (CL d) κ [.cond (.e (.cmp .Eq (.var Aq) (.int 4))) [.asg AY (.meth (.var AY) AL [] [])] [.expr (.meth (.var AY) BC [] []),.asg EZ (.bin .Add (.idx (.var B7) (.int 0)) (.int 1))]] ρ H (GU (λρ H=>A4 (CL d) κ [] ρ H G) G):=by
  refine CW hK (AO (λz=>?_) λU=>?_)
  ·have hi':=kd (by rw[eq_of_beq z];decide)
   refine CW hT (cl (CD (ct t.n) t.g rfl (.inl rfl) λT' H' q g' hd hs U hfp=>Et <| Bu <| Et <| Bu <| h _ _ ⟨T',low,Ad,(AN rfl).trans hL,(AN rfl).trans hD,w.fr q.fr inst,⟨g',WL hs t.n,hd.trans t.d,t.pd,t.lo⟩,by omega,by omega⟩))
  ·refine CW hT (cl (EQ (x:=x) (ct t.n) t.g rfl hx λv T' H' hv u hd=>?_));refine CW hR (At (u.fr.ni hr inst λU U z=>nomatch z) ⟨.int x,Gk (i:=0) rfl hl,?_⟩);refine h _ _ ⟨T',x+1,(AN rfl).trans (u.ad▸hT),Ad,(AN rfl).trans hD,w.fr u.fr inst,⟨t.g.u u,u.sz▸t.n,by rw[hd,t.d,OY (by omega)],t.pd,by omega⟩,by omega,by omega⟩
 refine CW hK (AO (λz=>?_) λU=>?_)
 ·exact sk (by rw[eq_of_beq z];decide) (G:=GU (λρ H=>A4 (CL d) κ [] ρ H G) G) λρ' H' q=>Et (Bu (h ρ' H' q))
 ·refine CW hK (AO (λz=>?_) λU=>?_)
  ·exact sk (by rw[eq_of_beq z];decide) (G:=GU (λρ H=>A4 (CL d) κ [] ρ H G) G) λρ' H' q=>Et (Bu (h ρ' H' q))
  ·exact JO (A:=True) rest
end
theorem Ks.nil{A:D}(k:Ks A []):¬ Av A:=λ⟨d,h⟩=>nomatch (k.2 d).mpr h
section
theorem turn(he:192<=d)(hκ:AM AW κ=some c2)(hdl:deeds.length<=7)(hi:i<deeds.length+11)(ht:AM Im ρ=some (.int (i:Nat)))(I:LI c2 p dl rg es ds deeds i ρ H)(hy:∀ρ H,G (.ret (.bool true)) ρ H)(hn:∀ρ' H',LI c2 p dl rg es ds deeds (i+1) ρ' H'->G .next ρ' H'):A4 (CL d) κ lTurn ρ H G:=by
 refine x27 I λT low hT hL hD w t hi1 hi2=>?_;have ct:GL d T:=IW 24 _ t.n d he;refine restE hκ hL w t.pd t.lo λrl rest H1 f1 hr hl k=>?_;rw[<- t.d] at k;replace w:=w.nw f1;replace t:=t.nw f1;have L:∀{y u},WV B7 y=false->AM y ρ=some u->AM y (put B7 (.ref rl) ρ)=some u:=λa b=>(AN a).trans b;have hT1:=L rfl hT;have hL1:=L rfl hL;have hD1:=L rfl hD;have ht1:=L rfl ht;have hR1:AM B7 (put B7 (.ref rl) ρ)=some (.ref rl):=Ad
 generalize put B7 (V.ref rl) ρ=ρ1 at hT1 hL1 hD1 ht1 hR1 ⊢
 clear hT hL hD ht L f1;refine CW hR1 (At hr ⟨_,Nu hl,?_⟩);refine AO (λz=>?_) λz=>Bu (Et ?_)
 ·match rest,k,z with
  | x::r,_,z=>exact absurd (eq_of_beq z) (Int.ofNat_ne_zero.mpr (Nat.succ_ne_zero _))
  | [],k,_ =>
   refine CW hT1 (cl (Ak ct t.g rfl λb hb=>?_));have b0:b=false:=by
    cases b with
    | false=>rfl
    | true=>exact absurd (hb.mp rfl) k.nil
   subst b0;refine CW hT1 (t.g.rep.m1 rfl <| .inl ⟨rfl,rfl,T,[],[],rfl,t.g,t.n,⟨λx hx=>absurd hx.act k.nil,λU=>rfl⟩,λv H2 q2 tv=>?_⟩);refine⟨Wh _,λl hl'=>?_⟩;have n3:=Ao.new0 (o:=.list []) hl';exact eq_ok (tv.frame n3) (.nil (AE _ _ _)) (Wh _) (Wh _) (hy _ _)
 match rest,k,hl,hr,z with
 | [],_,_,_,z=>exact absurd z (by decide)
 | x::r,k,hl,hr,_ =>
  have hx:=k.hd;have inst:=t.g.rep.fpi;refine CW hT1 (cl (Ak ct t.g rfl λb hb=>?_));have b1:b=true:=hb.mpr hx.act;subst b1;refine CW hT1 (cl (Bc ct t.g rfl hx λH2 q2=>?_));replace w:=w.fr q2.fr inst;replace hr:=q2.fr.ni hr inst λU U z=>nomatch z;replace t:=t.q q2;replace inst:=t.g.rep.fpi;refine CW hR1 (At hr ⟨.int x,Gk (i:=0) rfl hl,?_⟩);refine AO (λz=>absurd z (by rw[bne_self_eq_false];decide)) λU=>?_
  have vx:∃s,T.den x=some s/\C9 x ds=some s:=by
   cases z:T.den x with
   | none=>exact absurd z hx.1
   | some s =>
    refine⟨s,rfl,?_⟩;rw[t.d] at z
    rwa [BO (B9.mp (show frm (GB ds) low x≠none by rw[z];exact Xz _)).1] at z
  obtain⟨s,hs,hs'⟩:=vx;obtain⟨gp,wp⟩:=w.p;refine Aj (Nv (g:=gp) w.v t.pd hs') λdv iv tv=>?_;have sl:s.length<=500:=WL (t.g.rep.lens hs) (WL t.n (by decide))
  refine opK hκ (cv w.c (CW hR1 (At hr ⟨.int x,Gk (i:=0) rfl hl,At wp ⟨dv,iv,?_⟩⟩)));have L:∀{y u},WV HK y=false->AM y ρ1=some u->AM y (put HK dv ρ1)=some u:=λa b=>(AN a).trans b;have hT2:=L rfl hT1;have hL2:=L rfl hL1;have hD2:=L rfl hD1;have ht2:=L rfl ht1;have hR2:=L rfl hR1;have hU2:AM HK (put HK dv ρ1)=some dv:=Ad
  show A4 (CL d) κ _ (put HK dv ρ1) H2 G
  generalize put HK dv ρ1=ρ2 at hT2 hL2 hD2 ht2 hR2 hU2 ⊢
  clear hT1 hL1 hD1 ht1 hR1 L;refine CW hT2 (t.g.rep.m1 rfl <| .inl ⟨rfl,rfl,T,[],s,rfl,t.g,t.n,⟨λy hy=>hy.uniq hx▸hs,λz=>absurd hx.act z⟩,λv H3 q3 tv3=>?_⟩);replace w:=w.fr q3.fr inst;replace hr:=q3.fr.ni hr inst λU U z=>nomatch z;replace t:=t.q q3;replace inst:=t.g.rep.fpi;refine CW hU2 (Q9 tv3 (tv.frame q3.fr) sl ?_);refine CW hT2 (t.g.rep.m1 rfl <| CW hR2 (At hr ⟨.int x,Gk (i:=0) rfl hl,?_⟩));refine .inl ⟨rfl,rfl,T,[.int (x+1)],[],rfl,t.g,t.n,⟨λz=>absurd (z.uniq hx) (by omega),λU=>rfl⟩,λv H4 q4 tv4=>?_⟩
  replace w:=w.fr q4.fr inst;replace hr:=q4.fr.ni hr inst λU U z=>nomatch z;replace t:=t.q q4;refine⟨Wh _,λl hl'=>?_⟩;have n5:=Ao.new0 (o:=.list []) hl';refine Q9 (tv4.frame n5) (.nil (AE _ _ _)) (Wh _) ?_;replace w:=w.nw n5;replace hr:=n5.l hr;replace t:=t.nw n5
  generalize H4.put l (.list [])=H5 at w hr t ⊢
  have num:∀{K:V->MH->Prop},(∀number,(deeds.length<=i->number=0)->K (.int number) H5)->wE (CL d) κ lNum ρ2 H5 K:=λ{K} h=>by
   refine CW ht2 (CW hD2 (At w.d ⟨_,Nu (by omega),AO (λz=>?_) λz=>h 0 λU=>rfl⟩))
   have hlt:i<deeds.length:=by have:=of_decide_eq_true z;omega
   refine CW hD2 (CW ht2 (At w.d ⟨_,Gk (Wu hlt) (by omega),h _ λz=>by omega⟩))
  have go:A4 (CL d) κ [.asg A9 lNum,.asg Aq (.bin .Mod (.var A9) (.int 5)),RA] ρ2 H5 G:=by
   refine num λnumber hz=>?_;refine CW Ad ⟨by decide,?_⟩
   have L:∀{y u},WV A9 y=false->WV Aq y=false->AM y ρ2=some u->AM y (put Aq (.int (number.fmod 5)) (put A9 (.int number) ρ2))=some u:=λa b c=>(AN b).trans ((AN a).trans c);refine deed he (L rfl rfl hT2) (L rfl rfl hL2) (L rfl rfl hD2) (L rfl rfl hR2) ((AN rfl).trans Ad) Ad w t k hl hr hi1 (λz=>by rw[hz z];rfl) hn
  exact go
theorem law_ok{ns:List Int}{a:Nat}(ha:H a=some (.ro (ns.map .int)))(hl:ns.length<=1000)(q:∀H',Q (.bool true) H'):IE (CL 199) Ji [.ref a] [] H Q:=by
 show ∀c1,H c1=none->∀c2,(H.put c1 (.cell (some (.ref a)))) c2=none->A4 (CL 199) [(AW,c2),(Bq,c1)] OX [] ((H.put c1 (.cell (some (.ref a)))).put c2 (.cell none)) (Ah Q)
 intro c1 h1 c2 h2;have n1:=Ao.new0 (o:=.cell (some (.ref a))) h1;have n2:=Ao.new0 (o:=.cell none) h2;have f2:=n1.trans n2;have d12:c2≠c1:=Oy h2 (AE _ _ _);have k1:=n2.l (AE H c1 (.cell (some (.ref a))));have k2:=AE (H.put c1 (.cell (some (.ref a)))) c2 (.cell none);have ha2:=f2.l ha;have z2:=n1.dm _ h2
 generalize (H.put c1 (.cell (some (.ref a)))).put c2 (.cell none)=H2 at f2 k1 k2 ha2 ⊢
 clear n1 n2 h2;refine cv k1 (At ha2 ⟨_,14,rfl,rfl,by decide,by rw[WS];exact hl,λsl hsl=>?_⟩)
 have e16:(ns.map V.int).take 14=(ns.take 14).map .int:=(List.map_take).symm;refine e16.symm▸?_;have G7:(ns.take 14).length<=14:=by rw[List.length_take];exact Nat.min_le_left _ _
 generalize ns.take 14=s at G7 ⊢
 have n3:=Ao.new0 (o:=.list (s.map .int)) hsl;have f3:=f2.trans n3;have s3:=AE H2 sl (.list (s.map .int));replace k1:=n3.l k1;replace k2:=n3.l k2
 generalize H2.put sl (.list (s.map .int))=H3 at f3 s3 k1 k2 ⊢
 refine⟨_,k1,?_⟩;refine DN (O0 (w:=.ref sl) h1 f3 k1) λf4 k1' st=>?_;replace k2:=st k2 (.inr d12);replace s3:=st s3 (.inl λz=>nomatch z)
 generalize H3.put c1 (.cell (some (.ref sl)))=H4 at f4 k1' k2 s3 ⊢
 clear st k1 n3 f3 f2 hsl ha2;refine pick (κ:=[(AW,c2),(Bq,c1)]) (.inl rfl) rfl k1' s3 G7 λna is H5 f5 hna hl8=>?_;refine .inr (.inr (Q8 (e:=192) (WY _) hna hl8 λm T ds H6 f6 pr hsz hfp=>?_));refine x44 pr.at_ λp es gp lv hm hp hv tl=>?_;have f45:=f5.trans f6;replace k1':=f45.l k1';replace k2:=f45.l k2;replace s3:=f45.l s3;replace f4:=f4.trans f45;refine At hm ⟨_,rfl,_,k2,?_⟩;refine DN (O0 (w:=.ref p) z2 f4 k2) λf7 k2' st=>?_;replace k1':=st k1' (.inr λz=>d12 z.symm);replace s3:=st s3 (.inl λz=>nomatch z);replace hp:=st hp (.inl λz=>nomatch z);have w7:Ao H6 (H6.put c2 (.cell (some (.ref p)))) [c2]:=Ao.put (.head _) λo' z=>by replace z:=k2.symm.trans z;obtain rfl:=WT z;rfl
 replace hv:=hv.frame w7;replace tl:=tl.frame w7;have dj:∀x∈fp T,x∉[c2]:=λx hx hm=>by
  refine HI (pr.g.rep.fpi x hx) λc as z=>?_;replace z:=k2▸(Wl.mp hm)▸z;exact nomatch z
 have g7:AS (H6.put c2 (.cell (some (.ref p)))) T:=⟨pr.g.rep.frame w7 dj,pr.g.ok,pr.g.nd⟩;clear w7 dj
 generalize H6.put c2 (.cell (some (.ref p)))=H7 at k2' k1' s3 hp hv tl g7 ⊢
 refine pick (κ:=[(AW,c2),(Bq,c1)]) (.inr rfl) rfl k1' s3 G7 λdl deeds H8 f8 hdl hl8=>?_;refine(g7.nil f8).rep.m1 rfl <| .inr (.inl ⟨rfl,rfl,T,rfl,g7.nil f8,hsz,λv H9 f9 tv=>?_⟩);have f89:=f8.trans f9;have scl:(sc T).length<=500:=WL (Gn T) (WL hsz (by decide))
 refine CW ((AN rfl).trans Ad) (Q9 tv (tl.frame f89) scl ?_);have t9:Tk H9 T ds 0:=⟨g7.nil f89,hsz,by exact pr.d.symm▸EC (λU U=>rfl) (λd h=>(pr.pd.2 d (Ay.mp h)).1),pr.pd,by decide⟩
 replace hdl:=f9.l hdl;refine At hdl ⟨_,Nu (by omega),λrg hrg=>?_⟩
 have n9:=Ao.new0 (o:=.range 0 (deeds.length+11) 1) hrg;have w9:Wd (H9.put rg (.range 0 (deeds.length+11) 1)) c2 p dl rg es ds deeds:=⟨n9.l (f89.l k2'),⟨_,n9.l (f89.l hp)⟩,(hv.frame f89).frame n9,n9.l hdl,AE _ _ _⟩;refine⟨_,_,w9.r,.range (by unfold D6;omega),rfl,λi ρ H'=>LI c2 p dl rg es ds deeds i ρ H',⟨T,0,rfl,rfl,rfl,w9,t9.nw n9,by omega,λh=>by decide⟩,?_,?_⟩
 ·intro i ρ H' v hv I;refine Az (Q1 hv) λy hi=>?_;obtain rfl:=y;refine⟨I.choose_spec.choose_spec.2.2.2.1.r,?_⟩;rw[aA];refine x27 I λT low hT hL hD w t h1 h2=>?_;exact turn (d:=199) (by decide) rfl hl8 (by omega) Ad ⟨T,low,(AN rfl).trans hT,(AN rfl).trans hL,(AN rfl).trans hD,w,t,h1,h2⟩ (λU H=>q H) λU U z=>z
 ·rintro ρ H' ⟨T,low,hT,hL,hD,w,t,h1,h2⟩;rw[WS,E5] at h1 h2;omega
end
end
end Mine
end
section
namespace Mine
open PySem PySem.W PySem.Calls PyProof.Rows
noncomputable def wd(n:Nat):Str:=⟨((QS[n]?).getD (X1 (n+10) 97)).toArray⟩
inductive VR:V->WO->Prop
 | none:VR .none .none
 | bool (b:Bool):VR (.bool b) (.bool b)
 | int (i:Int) (t:Tok):VR (.int i) (.int i t)
 | ref (a:Nat):VR (.ref a) (.ref a)
 | str (n:Nat) (t:Tok):VR (.str n) (.str (wd n) t)
inductive A2 {α β:Type} (R:α->β->Prop):List α->List β->Prop
 | nil:A2 R [] []
 | cons {a b l m}:R a b->A2 R l m->A2 R (a::l) (b::m)
theorem A2.length{α β:Type}{R:α->β->Prop}{l:List α}{m:List β}(h:A2 R l m):l.length=m.length:=by
 induction h with
 | nil=>rfl
 | cons _ _ ih=>exact congrArg (·+1) ih
theorem A2.append{α β:Type}{R:α->β->Prop}{l l':List α}{m m':List β}(h:A2 R l m)(h':A2 R l' m'):A2 R (l++l') (m++m'):=by
 induction h with
 | nil=>exact h'
 | cons x _ ih=>exact .cons x ih
theorem A2.tl{α β:Type}{R:α->β->Prop}{v:α}{vs:List α}{ys:List β}(r:A2 R (v::vs) ys):∃y zs,ys=y::zs/\R v y/\A2 R vs zs:=by
 cases r with|cons h1 h2=>exact⟨_,_,rfl,h1,h2⟩
theorem A2.nl{α β:Type}{R:α->β->Prop}{ys:List β}(r:A2 R [] ys):ys=[]:=by cases r;rfl
theorem Fy:∀{l:List (List Nat)},l.Nodup->∀{x y:Nat} {s:List Nat},l[x]?=some s->l[y]?=some s->x=y
 | [],_,x,_,s,hx,_=>by exact zN hx
 | z::l,h,x,y,s,hx,hy=>by
  refine Az (ncP h) λh1 h2=>?_
  match x,y with
  | 0,0=>rfl
  | 0,y+1=>obtain rfl:=WT hx;exact absurd (XE (show l[y]?=some _ from hy)) h1
  | x+1,0=>obtain rfl:=WT hy;exact absurd (XE (show l[x]?=some _ from hx)) h1
  | x+1,y+1=>exact congrArg (·+1) (Fy h2 hx hy)
theorem Pz:QR.Nodup:=by decide +kernel
theorem P0:QR.all (λl=>l.all λn=>Nat.blt n 2000000)=true:=by decide +kernel
theorem M9{x y:Nat}(h:QR[x]?=some [y+2000000]):False:=by
 have h1:=laP P0 _ (XE h);have h2:=laP h1 _ (.head _);exact Ti (XA 2000000 y) (WU h2)
theorem I9{x y:Nat}(h:nm x=nm y):x=y:=by
 have e:(QR[x]?).getD [x+2000000]=(QR[y]?).getD [y+2000000]:=by
  have:=congrArg Array.toList (Str.mk.inj h)
  simpa using this
 cases hx:QR[x]? with
 | some s =>
  refine oCs (QR[y]?) (λhy=>?_) λt hy=>?_
  ·replace e:=hy▸hx▸e;replace hx:=(show s=[y+2000000] from e)▸hx;exact(M9 hx).elim
  ·replace e:=hy▸hx▸e;cases(show s=t from e);exact Fy Pz hx hy
 | none =>
  refine oCs (QR[y]?) (λhy=>?_) λt hy=>?_
  ·replace e:=hy▸hx▸e;have:=(List.cons.inj (show[x+2000000]=[y+2000000] from e)).1;exact Zg ‹_›
  ·replace e:=hy▸hx▸e;replace hy:=(show[x+2000000]=t from e)▸hy;exact(M9 hy).elim
theorem P1:QS.Nodup:=by decide +kernel
theorem Sw:QS.all (λl=>Nat.blt l.length 10)=true:=by decide +kernel
theorem wds_ok:QS.all (λl=>l.all λn=>decide (n<0x110000))=true:=by decide +kernel
theorem NA{x n:Nat}(h:QS[x]?=some (X1 (n+10) 97)):False:=by
 have h1:=laP Sw _ (XE h);rw[Ye] at h1;exact Ti (XA 10 n) (WU h1)
theorem wd_inj{x y:Nat}(h:wd x=wd y):x=y:=by
 have e:(QS[x]?).getD (X1 (x+10) 97)=(QS[y]?).getD (X1 (y+10) 97):=by
  have:=congrArg Array.toList (Str.mk.inj h)
  simpa using this
 cases hx:QS[x]? with
 | some s =>
  cases hy:QS[y]? with
  | none=>rw[hx,hy] at e;rw[show s=_ from e] at hx;exact(NA hx).elim
  | some t=>replace e:=hy▸hx▸e;cases(show s=t from e);exact Fy P1 hx hy
 | none =>
  cases hy:QS[y]? with
  | none =>
   rw[hx,hy] at e;have:=congrArg List.length (show X1 (x+10) 97=X1 (y+10) 97 from e)
   rw[Ye,Ye] at this;exact Zg this
  | some t=>rw[hx,hy] at e;rw[<- show _=t from e] at hy;exact(NA hy).elim
theorem wd_ok(n:Nat):PyData.strOk (wd n)=true:=by
 unfold PyData.strOk wd;cases h:QS[n]? with
 | some s =>
  have:=laP wds_ok _ (XE h)
  simpa using this
 | none =>
  refine Array.all_eq_true'.mpr λx hx=>?_;have hx:x∈X1 (n+10) 97:=by simpa using hx
  refine((List.mem_replicate.mp hx).2).symm▸?_;decide
theorem RB{x y:Nat}(h:WV x y=false):(nm x==nm y)=false:=beq_eq_false_iff_ne.mpr λe=>by rw[I9 e,YM] at h;exact zF h
def ER(p:Nat×V)(e:Zo):Prop:=(∃t,e.key=.str (nm p.1) t)/\VR p.2 e.val
theorem LS(s n:W5)(t:Tok):(Value.str s t).isStr n=(s==n):=rfl
theorem ER.none{as:As}{es:List Zo}(h:A2 ER as es):es.any (·.refKey)=false:=by
 induction h with
 | nil=>rfl
 | @cons p e l m hp _ ih =>
  refine Az hp λz U=>?_;refine CT z λt k=>?_;rw[YQ,ih,Yn];unfold DictEntry.refKey;rw[k]
noncomputable def P2(R:V->WO->Prop):Option V->Option WO->Prop
 | some v,some y=>R v y
 | WN,WN=>True
 | _,_=>False
theorem ER.get{as:As}{es:List Zo}{x:Nat}(h:A2 ER as es):∃r,getL (nm x) es=some r/\P2 VR (AM x as) r:=by
 have hn:=ER.none h;unfold getL;refine hn.symm▸?_;clear hn
 induction h with
 | nil=>exact⟨_,rfl,trivial⟩
 | @cons p e l m hp _ ih =>
  obtain⟨⟨t,hk⟩,hv⟩:=hp
  show ∃r,_/\P2 VR (cond (WV p.1 x) (some p.2) (AM x l)) r
  rw[ZY,hk,LS];cases q:WV p.1 x with
  | true=>rw[Wa q,beq_self_eq_true];exact⟨_,rfl,hv⟩
  | false=>rw[RB q];exact ih
theorem ER.put{as:As}{es:List Zo}{x:Nat}{v:V}{y:WO}{hs:Int}{t:Tok}(h:A2 ER as es)(hv:VR v y):A2 ER (Mine.put x v as) (putL (nm x) hs (.str (nm x) t) y es):=by
 induction h with
 | nil=>exact .cons ⟨⟨t,rfl⟩,hv⟩ .nil
 | @cons p e l m hp h ih =>
  refine Az hp λz hv'=>?_;refine CT z λt' hk=>?_
  show A2 ER (cond (WV p.1 x) _ _) _
  rw[putL,hk,LS];cases q:WV p.1 x with
  | true=>rw[Wa q,beq_self_eq_true];exact .cons ⟨⟨t',rfl⟩,hv⟩ h
  | false=>rw[RB q];exact .cons ⟨⟨t',hk⟩,hv'⟩ ih
noncomputable def DR(p:Int×V)(q:Int×WO):Prop:=p.1=q.1/\VR p.2 q.2
noncomputable abbrev FV(xs:List WO)(n:Nat):Obj:={cls:=.type "list",data:=.seq xs.toArray n}
noncomputable abbrev tuObj(xs:List WO):Obj:={cls:=.type "tuple",data:=.seq xs.toArray}
noncomputable abbrev BW:=List (XQ×Yx)
noncomputable def DO(WH:Wm)(w:WW)(kvs:List (Int×WO))(g:Nat)(o:Yx):Prop:=∃es,o.ExactDict/\o.data=.dict es g/\KeysOf (intKind WH w) es/\Pairs (intKind WH w) es.toList kvs/\(kvs.map (·.1)).Nodup
theorem DO.is{WH w kvs g o}(h:DO WH w kvs g o):o.IsDictOf (intKind WH w) kvs:=let ⟨es,r⟩:=h;⟨es,g,r⟩
theorem DO.at_{WH w kvs g o}{hp:Xy}{a:XQ}(h:DO WH w kvs g o)(e:hp.get? a=some o):hp.DictAt (intKind WH w) a kvs g:=let ⟨es,r⟩:=h;⟨o,es,e,r⟩
theorem DO.of{WH w kvs g}{hp:Xy}{a:XQ}(h:hp.DictAt (intKind WH w) a kvs g):∃o,hp.get? a=some o/\DO WH w kvs g o:=let ⟨o,es,e,r⟩:=h;⟨o,e,es,r⟩
section
variable(WH:Wm)(w:WW)(UD:Xy)(D:Nat->Nat)(WI:BW)
def OB:O->Yx->Prop
 | .list vs,ob|.stk vs,ob=>∃xs n,ob=FV xs n/\A2 VR vs xs
 | .tup vs,ob=>∃xs,ob=tuObj xs/\A2 VR vs xs
 | .set xs,ob=>∃n,ob.SetObjOf (intKind WH w) (λk=>xs.contains k) n/\n<=xs.length
 | .range lo hi st,ob=>∃(Ug Uy Uz:Tok),ob={cls:=.type "range",data:=.fields #[.int lo Ug,.int hi Uy,.int st Uz]}
 | .cell (some v),ob=>∃y,ob.data=.cell (some y)/\VR v y
 | .cell WN,ob=>ob.data=.cell WN
 | .dict es g,ob=>∃kvs,DO WH w kvs g ob/\A2 DR es kvs
 | _,_=>False
def OI(a:Nat)(o:O):Prop:=∃c as es n,o=.inst c as/\(a,instObj (Cf c) (D a))∈WI/\(D a,dictOf es n)∈WI/\A2 ER as es
def OO(a:Nat)(o:O):Prop:=∃vs xs n,o=.ro vs/\UD.get? a=some (FV xs n)/\A2 VR vs xs
def OP(a:Nat)(o:O):Prop:=∃ob,(a,ob)∈WI/\OB WH w o ob
def OR(a:Nat)(o:O):Prop:=OI D WI a o\/OO UD a o\/OP WH w WI a o
structure FZ(X:BW)(H:MH):Prop where
 nd:(WI.map (·.1)).Nodup
 ob:∀a o,H a=some o->OR WH w UD D WI a o
 dj:∀a c as,H a=some (.inst c as)->H (D a)=WN/\∀a' c' as',H a'=some (.inst c' as')->D a'=D a->a'=a
 xs:∀p∈X,p∈WI/\H p.1=WN/\∀a c as,H a=some (.inst c as)->D a≠p.1
end
section
variable{WH:Wm}{w:WW}{UD:Xy}{D D':Nat->Nat}{WI WK:BW}{X:BW}{H:MH}{a:Nat}{o:O}
theorem key{p:XQ×Yx}{l:BW}(h:p∈l):p.1∈l.map (·.1):=XP (f:=(·.1)) h
theorem OR.inst{c as}(h:OR WH w UD D WI a (.inst c as)):∃es n,(a,instObj (Cf c) (D a))∈WI/\(D a,dictOf es n)∈WI/\A2 ER as es:=by
 rcases h with⟨_,_,es,n,e,h⟩|⟨_,_,_,e,_⟩|⟨_,_,h⟩
 ·cases e;exact⟨es,n,h⟩
 ·cases e
 ·exact h.elim
theorem OR.ro{vs}(h:OR WH w UD D WI a (.ro vs)):∃xs n,UD.get? a=some (FV xs n)/\A2 VR vs xs:=by
 rcases h with⟨_,_,_,_,e,_⟩|⟨_,xs,n,e,h⟩|⟨_,_,h⟩
 ·cases e
 ·cases e;exact⟨xs,n,h⟩
 ·exact h.elim
noncomputable def plain:O->Bool
 | .inst _ _|.ro _=>false
 | _=>true
theorem OR.pl(h:OR WH w UD D WI a o)(p:plain o=true):OP WH w WI a o:=by
 rcases h with⟨_,_,_,_,rfl,_⟩|⟨_,_,_,rfl,_⟩|h
 ·exact zT p
 ·exact zT p
 ·exact h
theorem OB.plain{ob}(h:OB WH w o ob):plain o=true:=by cases o<;>first|rfl|cases h
theorem OR.mono(h:OR WH w UD D WI a o)(hD:∀c as,o=.inst c as->D' a=D a/\∀p∈WI,p.1=D a->p∈WK)(hm:∀p∈WI,p.1=a->p∈WK):OR WH w UD D' WK a o:=by
 rcases h with⟨c,as,es,n,rfl,h1,h2,h3⟩|h|⟨ob,h1,h2⟩
 ·refine Az (hD _ _ rfl) λe k=>?_;refine .inl ⟨c,as,es,n,rfl,?_,?_,h3⟩<;>refine e.symm▸?_
  ·exact hm _ h1 rfl
  ·exact k _ h2 rfl
 ·exact .inr (.inl h)
 ·exact .inr (.inr ⟨ob,hm _ h1 rfl,h2⟩)
theorem FZ.none(L:FZ WH w UD D WI X H)(h1:a∉WI.map (·.1))(h2:UD.get? a=WN):H a=Option.none:=by
 cases h:H a with
 | none=>rfl
 | some o =>
  rcases L.ob a o h with⟨_,_,_,_,_,h,_⟩|⟨_,_,_,_,h,_⟩|⟨_,h,_⟩
  ·exact absurd (key h) h1
  ·exact nS h2 h
  ·exact absurd (key h) h1
theorem FZ.dkey(L:FZ WH w UD D WI X H){c as}(h:H a=some (.inst c as)):D a∈WI.map (·.1):=by
 refine En ((L.ob _ _ h).inst) λes n U h2 U=>?_;exact key h2
theorem Fz{b:Nat}{o':O}(h:H.put a o b=some o'):b=a/\o'=o\/b≠a/\H b=some o':=by
 by_cases q:b=a
 ·subst q;rw[AE] at h;obtain rfl:=WT h;exact .inl ⟨rfl,rfl⟩
 ·rw[AT _ _ q] at h;exact .inr ⟨q,h⟩
theorem FZ.wr(L:FZ WH w UD D WI X H)(nd:(WK.map (·.1)).Nodup)(hm:∀p∈WI,p.1≠a->p∈WK)(h:OP WH w WK a o)(hd:∀b c as,H b=some (.inst c as)->D b≠a)(hx:∀p∈X,p.1≠a):FZ WH w UD D WK X (H.put a o):=by
 have pl:plain o=true:=Aj h λU U h=>h.plain;refine⟨nd,λb o' e=>?_,λb c as e=>?_,λp hp=>?_⟩
 ·rcases Fz e with⟨rfl,rfl⟩|⟨q,e⟩
  ·exact .inr (.inr h)
  ·exact(L.ob b o' e).mono (λc as z=>⟨rfl,λp hp k=>hm p hp (k▸hd b c as (z▸e))⟩) λp hp k=>hm p hp (k▸q)
 ·rcases Fz e with⟨rfl,rfl⟩|⟨q,e⟩
  ·exact zT pl
  ·refine Az (L.dj b c as e) λd1 d2=>?_;refine⟨by exact(AT _ _ (hd b c as e)).symm▸d1,λa' c' as' e' ed=>?_⟩
   rcases Fz e' with⟨rfl,rfl⟩|⟨q',e'⟩
   ·exact zT pl
   ·exact d2 a' c' as' e' ed
 ·refine DN (L.xs p hp) λp1 p2 p3=>?_;refine⟨hm p p1 (hx p hp),by exact(AT _ _ (hx p hp)).symm▸p2,λb c as e=>?_⟩
  rcases Fz e with⟨rfl,rfl⟩|⟨q,e⟩
  ·exact zT pl
  ·exact p3 b c as e
theorem FZ.alloc(L:FZ WH w UD D WI X H){x:Nat}{ob:Yx}(h1:x∉WI.map (·.1))(h:OB WH w o ob):FZ WH w UD D ((x,ob)::WI) X (H.put x o) :=
 L.wr (ncR ⟨h1,L.nd⟩) (λp hp U=>.tail _ hp) ⟨ob,.head _,h⟩ (λb c as e z=>h1 (z▸L.dkey e)) λp hp z=>h1 (z▸key (L.xs p hp).1)
noncomputable def O1(d:Nat)(o:Yx)(l:BW):BW:=l.map λp=>if p.1=d then(d,o) else p
theorem KU(d:Nat)(o:Yx)(l:BW):(O1 d o l).map (·.1)=l.map (·.1):=by
 unfold O1;rw[Xf];refine Zr λp U=>?_
 show(if p.1=d then(d,o) else p).1=p.1
 split
 ·rename_i h;exact h.symm
 ·rfl
theorem FW{d:Nat}{o:Yx}{l:BW}{p:XQ×Yx}(hp:p∈l)(hd:p.1≠d):p∈O1 d o l:=Xd.mpr ⟨p,hp,if_neg hd⟩
theorem KV{d:Nat}{o o':Yx}{l:BW}(hp:(d,o')∈l):(d,o)∈O1 d o l:=Xd.mpr ⟨_,hp,if_pos rfl⟩
theorem MK{d:Nat}{o o':Yx}:∀{l:BW},(l.map (·.1)).Nodup->(d,o)∈l->PySem.W.Upd d o o' l (O1 d o' l)
 | p::l,nd,hp=>by
  refine Az (ncP nd) λn1 n2=>?_;by_cases q:p.1=d
  ·have e:p=(d,o):=(mcP hp).elim Eq.symm λh=>absurd (show p.1∈_ from q▸key h) n1
   subst e;have hr:∀r∈l,r.1≠d:=λr hr e=>n1 (show d∈_ from e▸key hr)
   have:O1 d o' ((d,o)::l)=(d,o')::l:=by
    show(if d=d then(d,o') else(d,o))::_=_
    refine(if_pos rfl).symm▸?_
    congr 1
    exact(Zr (g:=id) (λp hp=>if_neg (hr p hp))).trans (List.map_id _)
   exact this.symm▸.head hr
  ·have:O1 d o' (p::l)=p::O1 d o' l:=congrArg (·::O1 d o' l) (if_neg q)
   exact this.symm▸.tail q (MK n2 ((mcP hp).resolve_left λe=>q (e▸rfl)))
theorem FZ.change(L:FZ WH w UD D WI X H){o':O}{ob ob':Yx}(h:H a=some o)(hm:(a,ob')∈WI)(h':OB WH w o' ob):FZ WH w UD D (O1 a ob WI) X (H.put a o') :=
 L.wr (by rw[KU];exact L.nd) (λp hp hd=>FW hp hd) ⟨ob,KV hm,h'⟩ (λb c as e q=>by have:=(L.dj b c as e).1;exact zS (h▸q▸this)) λp hp e=>by
  have:=(L.xs p hp).2.1;exact zS (h▸e▸this)
theorem FZ.wrI(L:FZ WH w UD D WI X H){c:Cl}{as:As}(nd:(WK.map (·.1)).Nodup)(hb:∀b,b≠a->D' b=D b)(hm:∀p∈WI,p.1≠a->p.1≠D' a->p∈WK)(h:OI D' WK a (.inst c as))(hn:H (D' a)=WN)(hne:D' a≠a)
 (hd:∀b c as,b≠a->H b=some (.inst c as)->D b≠a/\D b≠D' a)(hx:∀p∈X,p.1≠a/\p.1≠D' a):FZ WH w UD D' WK X (H.put a (.inst c as)):=by
 refine⟨nd,λb o' e=>?_,λb c as e=>?_,λp hp=>?_⟩
 ·rcases Fz e with⟨rfl,rfl⟩|⟨q,e⟩
  ·exact .inl h
  ·exact(L.ob b o' e).mono (λc as z=>⟨hb b q,λp hp k=>Az (hd b c as q (z▸e)) λk1 k2=>hm p hp (k▸k1) (k▸k2)⟩) λp hp k=>hm p hp (k▸q) λz=>by exact zS (e▸k▸z▸hn)
 ·rcases Fz e with⟨rfl,z⟩|⟨q,e⟩
  ·cases z
   refine⟨by exact(AT _ _ hne).symm▸hn,λa' c' as' e' ed=>?_⟩
   rcases Fz e' with⟨z,_⟩|⟨q',e'⟩
   ·exact z
   ·exact absurd ((hb a' q').symm.trans ed) (hd a' c' as' q' e').2
  ·refine Az (L.dj b c as e) λd1 d2=>?_;refine(hb b q).symm▸⟨by exact(AT _ _ (hd b c as q e).1).symm▸d1,λa' c' as' e' ed=>?_⟩
   rcases Fz e' with⟨z,_⟩|⟨q',e'⟩
   ·rw[z] at ed;exact absurd ed.symm (hd b c as q e).2
   ·exact d2 a' c' as' e' ((hb a' q').symm.trans ed)
 ·refine DN (L.xs p hp) λp1 p2 p3=>?_;refine Az (hx p hp) λx1 x2=>?_;refine⟨hm p p1 x1 x2,by exact(AT _ _ x1).symm▸p2,λb c as e=>?_⟩
  rcases Fz e with⟨rfl,z⟩|⟨q,e⟩
  ·exact λz=>x2 z.symm
  ·exact(hb b q).symm▸p3 b c as e
theorem FZ.allocInst(L:FZ WH w UD D WI X H){x dx:Nat}{c:Cl}(h1:x∉WI.map (·.1))(h3:dx∉WI.map (·.1))(h4:UD.get? dx=WN)(hne:dx≠x) :
 ∃D',FZ WH w UD D' ((x,instObj (Cf c) dx)::(dx,dictOf [] 0)::WI) X (H.put x (.inst c [])):=by
 have e:(if x=x then dx else D x)=dx:=if_pos rfl
 refine⟨λb=>if b=x then dx else D b,L.wrI ?_ (λb q=>if_neg q) (λp hp U U=>.tail _ (.tail _ hp)) ?_ ?_ ?_ ?_ ?_⟩
 ·exact ncR ⟨λq=>(mcP q).elim (λq=>hne q.symm) h1,ncR ⟨h3,L.nd⟩⟩
 ·exact⟨c,[],[],0,rfl,by show(x,instObj (Cf c) (if x=x then dx else D x))∈_;exact e.symm▸.head _,by show((if x=x then dx else D x),_)∈_;exact e.symm▸.tail _ (.head _),.nil⟩
 ·show H (if x=x then dx else D x)=_;exact e.symm▸L.none h3 h4
 ·show(if x=x then dx else D x)≠x;exact e.symm▸hne
 ·show ∀b c as,b≠x->H b=some (.inst c as)->D b≠x/\D b≠(if x=x then dx else D x);exact e.symm▸(λb c as U z=>⟨λq=>h1 (q▸L.dkey z),λq=>h3 (q▸L.dkey z)⟩)
 ·show ∀p∈X,p.1≠x/\p.1≠(if x=x then dx else D x);exact e.symm▸(λp hp=>⟨λq=>h1 (q▸key (L.xs p hp).1),λq=>h3 (q▸key (L.xs p hp).1)⟩)
theorem FZ.setAttr(L:FZ WH w UD D WI X H){c:Cl}{as as':As}{es':List Zo}{n':Nat}(h:H a=some (.inst c as))(h':A2 ER as' es') :
 FZ WH w UD D (O1 (D a) (dictOf es' n') WI) X (H.put a (.inst c as')):=by
 refine Az (L.dj a c as h) λd1 d2=>?_;refine En ((L.ob _ _ h).inst) λes n m1 m2 U=>?_;have hne:a≠D a:=λe=>by rw[<- e,h] at d1;exact zS d1
 refine L.wrI (by rw[KU];exact L.nd) (λU U=>rfl) (λp hp U k=>FW hp k) ⟨c,as',es',n',rfl,FW m1 hne,KV m2,h'⟩ d1 (YN hne) (λb c' as'' q e=>⟨λz=>?_,λz=>q (d2 b c' as'' e z)⟩) λp hp=>?_
 ·have:=(L.dj b c' as'' e).1;rw[z,h] at this;exact zS this
 ·refine DN (L.xs p hp) λU p2 p3=>?_;refine⟨λe=>?_,YN (p3 a c as h)⟩;rw[e,h] at p2;exact zS p2
theorem FZ.addX(L:FZ WH w UD D WI X H){x:Nat}{ob:Yx}(h1:x∉WI.map (·.1))(h2:UD.get? x=WN):FZ WH w UD D ((x,ob)::WI) ((x,ob)::X) H:=by
 refine⟨ncR ⟨h1,L.nd⟩,λa o e=>(L.ob a o e).mono (λU U U=>⟨rfl,λp hp U=>.tail _ hp⟩) λp hp U=>.tail _ hp,L.dj,λp hp=>?_⟩;rcases mcP hp with rfl|hp
 ·exact⟨.head _,L.none h1 h2,λa c as e z=>h1 (show x∈_ from(show D a=x from z)▸L.dkey e)⟩
 ·refine DN (L.xs p hp) λp1 p2 p3=>?_;exact⟨.tail _ p1,p2,p3⟩
theorem FZ.dropX{X':BW}(L:FZ WH w UD D WI X H)(hX:∀p∈X',p∈X):FZ WH w UD D WI X' H:=⟨L.nd,L.ob,L.dj,λp hp=>L.xs p (hX p hp)⟩
end
section
set_option genInjectivity false
structure Cx where
 UD:Xy
 L:XQ
 X:BW
 gs:Array Xo
 dr:Drawn
 os:We
noncomputable abbrev Cx.x(c:Cx)(X:BW):Cx:={c with X:=X}
noncomputable abbrev Cx.lx(c:Cx)(L:XQ)(X:BW):Cx:={c with L:=L,X:=X}
noncomputable abbrev Cx.g(c:Cx)(gs:Array Xo):Cx:={c with gs:=gs}
section
variable(WH:Wm)(w:WW)
inductive LedE (UD:Xy) (L:XQ) (X:BW) (H:MH) (h:Xy):Prop
 | mk (D:Nat->Nat) (WI:BW) (N:Zh UD L h WI) (L':FZ WH w UD D WI X H):LedE UD L X H h
structure Aa(c:Cx)(m:W5->Option WO)(H:MH)(s:WQ):Prop where
 fr:Fr c.UD c.L s.heap m
 led:LedE WH w c.UD c.L c.X H s.heap
 gs:∀(k:Nat) (st:Xo),c.gs[k]?=some st->s.gens[k]?=some st
 dr:X4 s.gens
 os:s.os=c.os
def BR(ρ:As)(m:W5->Option WO):Prop:=∀x v,AM x ρ=some v->∃y,m (nm x)=some y/\VR v y
structure EO(env:Zp)(L:XQ)(κ:Kp)(sc:XB):Prop where
 isc:env.scope=sc
 ikd:sc.kind=Y3
 ilo:env.locals=L
 igl:env.globals=mainGlobals
 ibi:env.builtins=builtinsNs
 ice:∀x a,AM x κ=some a->sc.names.lookup (nm x)=some .cell\/sc.names.lookup (nm x)=some .free->env.cells.lookup (nm x)=some a
 icl:∀p∈sc.names,p.2=YD->∃a,env.cells.lookup p.1=some a
inductive PE (c:Cx) (m:W5->Option WO) (Q:V->MH->Prop) (y:WO) (s:WQ):Prop
 | mk (v:V) (H:MH) (r:VR v y) (R:Aa WH w c m H s) (q:Q v H):PE c m Q y s
inductive PB (c:Cx) (m:W5->Option WO) (Q:Bool->MH->Prop) (b:Bool) (s:WQ):Prop
 | mk (H:MH) (R:Aa WH w c m H s) (q:Q b H):PB c m Q b s
inductive PEs (c:Cx) (m:W5->Option WO) (Q:List V->MH->Prop) (ys:List WO) (s:WQ):Prop
 | mk (vs:List V) (H:MH) (r:A2 VR vs ys) (R:Aa WH w c m H s) (q:Q vs H):PEs c m Q ys s
end
noncomputable def N9(x:W5):Bool:=!(x==("__debug__":W5))&&!(x==("__classdict__":W5))
theorem nms_ok:QR.all (λl=>N9 ⟨l.toArray⟩)=true:=by decide +kernel
theorem Ts(x:Nat):N9 (nm x)=true:=by
 refine oCs (QR[x]?) (λh=>?_) λs h=>?_
 ·
  have:∀s:W5,s.cps.size≠1->(nm x==s)=false:=λs hs=>beq_eq_false_iff_ne.mpr λe=>hs (by refine e▸?_;unfold nm;exact h▸rfl)
  unfold N9;rw[this _ (by decide +kernel),this _ (by decide +kernel)];rfl
 ·unfold nm;exact h.symm▸laP nms_ok _ (XE h)
theorem Dy(x:Nat):(nm x==("__debug__":W5))=false:=by
 have:=(W8.mp (Ts x)).1;rwa [XC] at this
theorem nm_cd(x:Nat):(nm x==("__classdict__":W5))=false:=by
 have:=(W8.mp (Ts x)).2;rwa [XC] at this
theorem Bj{v:V}{y:WO}{K:Int->Prop}(h:G8 v K)(r:VR v y):∃i t,v=.int i/\y=.int i t/\K i:=by
 cases r with
 | int i t=>exact⟨i,t,rfl,rfl,h⟩
 | _=>exact h.elim
theorem Bl{v:V}{y:WO}{K:Nat->Prop}(h:D7 v K)(r:VR v y):∃a,v=.ref a/\y=.ref a/\K a:=by
 cases r with
 | ref a=>exact⟨a,rfl,rfl,h⟩
 | _=>exact h.elim
section
variable{WH:Wm}{w:WW}{A:XG}{env:Zp}{c:Cx}{m:W5->Option WO}{H:MH}{s:WQ}{κ:Kp}{sc:XB}{ρ:As}{Er:WO->WQ->Prop}{Q:V->MH->Prop}
theorem Aa.tok(R:Aa WH w c m H s)(t:Nat):Aa WH w c m H {s with toks:=t}:=⟨R.fr,R.led,R.gs,R.dr,R.os⟩
theorem Aa.heap(R:Aa WH w c m H s){m':W5->Option WO}{H':MH}{h':Xy}{t:Nat}(F:Fr c.UD c.L h' m'){D:Nat->Nat}{WI:BW}(N:Zh c.UD c.L h' WI)(L:FZ WH w c.UD D WI c.X H') :
 Aa WH w c m' H' {s with heap:=h',toks:=t}:=⟨F,⟨D,WI,N,L⟩,R.gs,R.dr,R.os⟩
theorem PE.b{b:Bool}(R:Aa WH w c m H s)(q:Q (.bool b) H):PE WH w c m Q (.bool b) s:=⟨_,_,.bool b,R,q⟩
theorem PE.n(R:Aa WH w c m H s)(q:Q .none H):PE WH w c m Q .none s:=⟨_,_,.none,R,q⟩
theorem PE.i{i:Int}{t:Tok}{k:Nat}(R:Aa WH w c m H s)(q:Q (.int i) H):PE WH w c m Q (.int i t) {s with toks:=k}:=⟨_,_,.int i t,R.tok k,q⟩
theorem s_var{x p v}(O:EO env c.L κ sc)(hk:sc.names.lookup (nm x)=some .local)(l:BR ρ m)(R:Aa WH w c m H s)(g:AM x ρ=some v)(q:Q v H) :
 wpAny (model WH w) A (eval (.Name (nm x) p) env) (PE WH w c m Q) Er s:=by
 refine Aj (l x v g) λy e r=>?_;refine YV (XH (by rw[O.isc];exact O.ikd) (by unfold Xa;rw[O.isc];exact hk) (by rw[O.ilo];exact R.fr.ns) e ⟨v,H,r,R,q⟩) (Dy x)
theorem Aa.pl(R:Aa WH w c m H s){a:Nat}{o:O}(h:H a=some o)(p:plain o=true):∃D WI ob,Zh c.UD c.L s.heap WI/\FZ WH w c.UD D WI c.X H/\(a,ob)∈WI/\OB WH w o ob:=by
 refine AU λGG hG=>?_;obtain⟨D,WI,N,L⟩:=R.led;refine Aj ((L.ob _ _ h).pl p) λob h1 h2=>?_;refine hG ?_;exact⟨D,WI,ob,N,L,h1,h2⟩
def Ob(WH:Wm)(w:WW)(H:MH)(h:Xy):Prop:=∀a o,H a=some o->plain o=true->∃ob,h.get? a=some ob/\OB WH w o ob/\(a==sysModules)=false
theorem Aa.obs(R:Aa WH w c m H s)(hm:(c.UD.get? sysModules).isSome=true):Ob WH w H s.heap:=λa o h p=>by
 refine Jf (R.pl h p) λD WI ob N L h1 h2=>?_;exact⟨ob,N.get h1,h2,beq_eq_false_iff_ne.mpr λe=>by replace hm:=(N.fresh h1)▸e▸hm;exact zT hm⟩
theorem Ob.lst(R:Ob WH w H s.heap){a:Nat}{vs:List V}(h:H a=some (.list vs)\/H a=some (.stk vs)):∃xs,s.heap.IsList a xs.toArray/\A2 VR vs xs:=by
 rcases h with h|h<;>obtain⟨o,h1,⟨xs,n,rfl,r⟩,U⟩:=R a _ h rfl<;>exact⟨xs,⟨_,h1,rfl,n,rfl⟩,r⟩
theorem Ob.tup(R:Ob WH w H s.heap){a:Nat}{vs:List V}(h:H a=some (.tup vs)):∃xs,s.heap.IsTuple a xs.toArray/\A2 VR vs xs:=by
 refine FS (R a _ h rfl) λo h1 z U=>?_;refine Aj z λxs y r=>?_;obtain rfl:=y;exact⟨xs,⟨_,h1,rfl,_,rfl⟩,r⟩
theorem Aa.cell(R:Aa WH w c m H s){a:Nat}{v:V}(h:H a=some (.cell (some v))):∃y,s.heap.IsCell a (some y)/\VR v y:=by
 refine Jf (R.pl h rfl) λD WI o N L h1 z=>?_;refine Aj z λy hd r=>?_;exact⟨y,⟨o,N.get h1,hd⟩,r⟩
theorem Aa.lo(R:Aa WH w c m H s):∃oL,s.heap.get? c.L=some oL:=MX R.fr.ns λo U U h U=>⟨o,h⟩
theorem Aa.lst(R:Aa WH w c m H s){a:Nat}{vs:List V}(h:H a=some (.list vs)\/H a=some (.stk vs)):∃xs,s.heap.IsList a xs.toArray/\A2 VR vs xs:=by
 rcases h with h|h<;>obtain⟨D,WI,o,N,L,h1,xs,n,rfl,r⟩:=R.pl h rfl<;>exact⟨xs,⟨_,N.get h1,rfl,n,rfl⟩,r⟩
theorem Aa.tup(R:Aa WH w c m H s){a:Nat}{vs:List V}(h:H a=some (.tup vs)):∃xs,s.heap.IsTuple a xs.toArray/\A2 VR vs xs:=by
 refine Jf (R.pl h rfl) λD WI o N L h1 z=>?_;refine Aj z λxs y r=>?_;obtain rfl:=y;exact⟨xs,⟨_,N.get h1,rfl,_,rfl⟩,r⟩
theorem RC{x p v a}(O:EO env c.L κ sc)(hk:sc.names.lookup (nm x)=some .cell\/sc.names.lookup (nm x)=some .free)(R:Aa WH w c m H s)(g:AM x κ=some a)(hc:H a=some (.cell (some v)))(q:Q v H) :
 wpAny (model WH w) A (eval (.Name (nm x) p) env) (PE WH w c m Q) Er s:=by
 refine Aj (R.cell hc) λy hcell r=>?_;refine Or.elim (hk) (λhk=>?_) λhk=>?_
 ·exact YV (wpAny_loadName_cell (by rw[O.isc];exact O.ikd) (by unfold Xa;rw[O.isc];exact hk) (O.ice _ _ g (.inl hk)) hcell ⟨v,H,r,R,q⟩) (Dy x)
 ·exact YV (wpAny_loadName_free (by rw[O.isc];exact O.ikd) (by unfold Xa;rw[O.isc];exact hk) (O.ice _ _ g (.inr hk)) hcell ⟨v,H,r,R,q⟩ (nm_cd x)) (Dy x)
theorem A2.empty{vs:List V}{xs:List WO}(h:A2 VR vs xs):xs.toArray.isEmpty=vs.isEmpty:=by cases h<;>rfl
theorem IY{v:V}{y:WO}{Q:Bool->MH->Prop}(R:Aa WH w c m H s)(r:VR v y)(t:GT H v λb=>Q b H):wpAny (model WH w) A (truthy y) (PB WH w c m Q) Er s:=by
 cases r with
 | none=>exact truthy_none ⟨H,R,t⟩
 | bool b=>exact wpAny_truthy_bool ⟨H,R,t⟩
 | int i t'=>exact P.truthy_int ⟨H,R,t⟩
 | ref a =>
  obtain⟨vs,h|h,hl,q⟩:=t
  ·refine Aj (R.lst (.inl h)) λxs h1 h2=>?_;have:=h2.length;exact wpAny_truthy_list h1 (by rw[Wr,<- this];exact ozB rfl ‹_›) ⟨H,R.tok _,by exact h2.empty.symm▸q⟩
  ·refine Aj (R.tup h) λxs h1 h2=>?_;have:=h2.length;exact truthy_tuple h1 (by rw[Wr,<- this];exact ozB rfl ‹_›) ⟨H,R.tok _,by exact h2.empty.symm▸q⟩
 | str=>exact t.elim
theorem Jk{vs:List V}{ys:List WO}(h:A2 VR vs ys){is:List Int}(e:GS vs=some is):IntsAre ys is:=by
 induction h generalizing is with
 | nil=>obtain rfl:=WT e;exact .nil
 | @cons a b l m r _ ih =>
  cases r with
  | int i t =>
   refine Aj (Wz.mp (show(GS l).map (i::·)=some is from e)) λjs e' z=>?_;obtain rfl:=z
   exact .cons i t (ih e')
  | _=>exact zN e
theorem DR.valueAt{es:List (Int×V)}{kvs:List (Int×WO)}(h:A2 DR es kvs)(i:Int):P2 VR (C7 i es) (XU kvs i):=by
 induction h with
 | nil=>trivial
 | @cons p r l m hp _ ih =>
  refine Az hp λh1 h2=>?_;by_cases q:p.1=i
  ·rw[show C7 i (p::l)=some p.2 from if_pos q,show XU (r::m) i=some r.2 from by unfold XU;rw[ZY,<- h1,decide_eq_true q];rfl];exact h2
  ·rw[show C7 i (p::l)=C7 i l from if_neg q,show XU (r::m) i=XU m i from by unfold XU;rw[ZY,<- h1,decide_eq_false q]];exact ih
theorem LT(i:Int):∀es:List (Int×V),(C7 i es).isSome=es.any λe=>e.1==i
 | []=>rfl
 | p::r=>by
  by_cases q:p.1=i
  ·rw[show C7 i (p::r)=some p.2 from if_pos q,YQ,q,beq_self_eq_true];rfl
  ·rw[show C7 i (p::r)=C7 i r from if_neg q,LT i r,YQ,beq_eq_false_iff_ne.mpr q];rfl
theorem ML(i:Int):∀is:List Int,is.contains i=is.any (·==i)
 | []=>rfl
 | j::r=>by rw[List.contains_cons,YQ,ML i r,Bool.beq_comm]
theorem KW{M:Model}{x y:WO}{R:Bool->WQ->Prop}(h:wpAny M A (compareOp .In x y) (λv s=>∃b,v=Z2 b/\R b s) Er s):wpAny M A (contains y x) R Er s:=by
 have h':wpAny M A (contains y x>>=λb=>pure (Z2 b)) (λv s=>∃b,v=Z2 b/\R b s) Er s:=h;intro Γ p hΓ;have:=h' Γ p hΓ;rw[Sem.wp_bind'] at this;refine Sem.wp_mono M Γ _ (λb p s h=>?_) (λU U U h=>h) _ _ this;rw[Sem.wp_pure'] at h;refine Aj h λb' e r=>?_;obtain rfl:=Value.bool.inj e;exact r
theorem s_in{i:Int}{a:Nat}{tk:Tok}{o:O}{b:Bool}{P:WO->WQ->Prop}(R:Ob WH w H s.heap)(ho:H a=some o)(hi:Iq i o b)(fin:∀k,P (.bool b) {s with toks:=k}):wpAny (model WH w) A (compareOp .In (.int i tk) (.ref a)) P Er s:=by
 cases hi with
 | list hl ei =>
  refine Aj (R.lst (.inl ho)) λxs h1 h2=>?_;rw[ML] at fin;exact in_list_ints h1 (Jk h2 ei) (fin s.toks)
 | tup hl ei =>
  refine Aj (R.tup ho) λxs h1 h2=>?_;rw[ML] at fin;exact in_tuple_ints h1 (Jk h2 ei) (fin s.toks)
 | @dict es g =>
  obtain⟨ob,h1,⟨kvs,h2,h3⟩,hne⟩:=R a _ ho rfl;refine wpAny_in_of (ZR _ _ _ _) hne (YT.mpr ⟨ob,h1,h2.is⟩).mapOf ?_;have hv:=DR.valueAt h3 i;have:(XU kvs i).isSome=es.any λe=>e.1==i:=by
   rw[<- LT];cases q:C7 i es<;>cases q':XU kvs i<;>rw[q,q'] at hv<;>first|rfl|exact hv.elim
  rw[this];exact fin _
 | @set xs hl =>
  refine FS (R a _ ho rfl) λob h1 z U=>?_;refine Aj z λn h2 h3=>?_;exact wpAny_inSet_of (ZR _ _ _ _) rfl (h2.setOf h1 (by exact ozS ‹_› ‹_›)) (fin _)
theorem s_isn{a b:Nat}(R:Aa WH w c m H s)(h:Jx H a b λt=>Q (.bool t) H):wpAny (model WH w) A (compareOp .IsNot (.ref a) (.ref b)) (PE WH w c m Q) Er s:=by
 unfold Jx at h;refine DN h λy x q=>?_;refine HI y λV5 V6 ha=>?_;refine HI x λV7 V8 hb=>?_;by_cases e:a=b
 ·subst e;exact wpAny_isNot_ref_self (PE.b R (by rwa [bne_self_eq_false] at q))
 ·replace q:=(show(a !=b)=true from bne_iff_ne.mpr e)▸q
  obtain⟨D,WI,N,L⟩:=R.led;refine En ((L.ob _ _ ha).inst) λU U h1 U U=>?_;refine En ((L.ob _ _ hb).inst) λU U h2 U U=>?_;exact wpAny_isNot_ref_other e (N.get h1) (N.get h2) (λz=>nomatch z) (PE.b R q)
noncomputable def KX(p:Nat×Nat):PyData:=.tuple [.str (wd p.1),.str (wd p.2)]
theorem wd_beq(x y:Nat):(wd x==wd y)=(x==y):=by
 by_cases e:x=y
 ·subst e;rw[beq_self_eq_true,beq_self_eq_true]
 ·rw[beq_eq_false_iff_ne.mpr e];exact beq_eq_false_iff_ne.mpr λh=>e (wd_inj h)
theorem NB:∀is js:List (Nat×Nat),PyData.eqvAll (is.map KX) (js.map KX)=(is==js)
 | [],[]=>by rfl
 | [],_::_=>by trivial
 | _::_,[]=>by trivial
 | (a,b)::r,(a',b')::t=>by
  have ih:=NB r t;simp only[XK,PyData.eqvAll,KX,aP,wd_beq] at ih ⊢;rw[ih,Bool.and_true];rfl
theorem RD(is js:List (Nat×Nat)):aP (.list (is.map KX)) (.list (js.map KX))=(is==js):=by
 exact NB is js
theorem NC:∀is:List (Nat×Nat),aB (is.map KX)=true
 | []=>rfl
 | p::r=>by simp[aB,PyData.canLay0,KX,NC r,wd_ok]
theorem ND:∀is:List (Nat×Nat),aM (is.map KX)<=2
 | []=>Wh _
 | p::r=>by have:=ND r;simp[aM,PyData.depth,KX];omega
theorem JP(is:List (Nat×Nat)):ZS (.list (is.map KX))=true:=by
 have:=ND is;simp[ZS,PyData.canLay0,PyData.depth,NC];omega
theorem MW.reads(R:Aa WH w c m H s){vs:List V}{is:List (Nat×Nat)}(h:MW H vs is):∀{xs},A2 VR vs xs->∃as,ReadsAll s.heap xs (is.map KX) as:=by
 induction h with
 | nil=>intro xs r;cases r.nl;exact⟨_,.nil⟩
 | @cons a x y vs is hh _ ih =>
  intro xs r;refine AU λGG hG=>?_;obtain⟨u,t,rfl,r1,r⟩:=r.tl;refine CT (ih r) λas z=>?_;obtain⟨ys,⟨o,h1,h2,n,h3⟩,k⟩:=R.tup hh;refine En k.tl λy1 U v k1 k'=>?_;obtain rfl:=v;refine En k'.tl λy2 U v k2 kk=>?_;obtain rfl:=v;cases kk.nl;cases r1;cases k1;cases k2
  exact hG ⟨_,.cons (.tuple h1 h2 h3 (.cons (.str _ _) (.cons (.str _ _) .nil))) z⟩
theorem Tt{a b:Nat}{K:Bool->Prop}{P:Bool->Prop}(hu:8*A.depth+A.units<=7900)(R:Aa WH w c m H s)(h:eqW H a b K)(q:∀t,K t->P t) :
 ∃da db as bs,Reads s.heap (.ref a) da as/\Reads s.heap (.ref b) db bs/\ZS da=true/\ZS db=true/\A.units+64<PySem.cLine/\P (aP da db):=by
 refine x47 h λvs us is js h1 h2 h3 h4 h5 h6 h7=>?_;refine Aj (R.lst (.inl h1)) λxs z r1=>?_;refine FS z λo1 k1 k2 y=>?_;refine CT y λn1 k3=>?_;refine Aj (R.lst (.inl h2)) λys z r2=>?_;refine FS z λo2 l1 l2 y=>?_;refine CT y λn2 l3=>?_;obtain⟨as,z1⟩:=h3.reads R r1;obtain⟨bs,z2⟩:=h4.reads R r2;exact⟨_,_,_,_,.list k1 k2 k3 z1,.list l1 l2 l3 z2,JP _,JP _,by exact(ozF ‹_›:A.units+64<9900),q _ (by rw[RD];exact h7)⟩
theorem Tu{op:CmpOp}{v u:V}{y z:WO}(hm:(c.UD.get? sysModules).isSome=true)(hu:8*A.depth+A.units<=7900)(R:Aa WH w c m H s)(r:VR v y)(r':VR u z)(h:SP H op v u λt=>Q (.bool t) H) :
 wpAny (model WH w) A (compareOp op y z) (PE WH w c m Q) Er s:=by
 have i2:∀{K:Int->Int->Prop},IC v u K->∃i t j t',y=.int i t/\z=.int j t'/\K i j:=λh=>by
  refine En (Bj h r) λi t U x h=>?_;obtain rfl:=x;refine En (Bj h r') λj t' U x h=>?_;obtain rfl:=x;exact⟨i,t,j,t',rfl,rfl,h⟩
 cases op with
 | Eq =>
  cases r with
  | ref a =>
   refine FS (Bl h r') λb U n h=>?_;obtain rfl:=n;refine x46 (Tt (P:=λt=>Q (.bool t) H) hu R h λU z=>z) λda db as bs h1 h2 h3 h4 h5 h6=>?_;exact eq_dataH h1 h2 h3 h4 h5 (PE.b R h6)
  | int i t=>cases r' with
   | int j t'=>exact P.eq_int (PE.b R h)
   | _=>exact h.elim
  | _=>exact h.elim
 | Is =>
  cases r' with
  | none =>
   cases r with
   | none=>exact wpAny_is_self rfl (PE.b R h)
   | int i t=>exact wpAny_is_other rfl (λh=>nomatch h) (PE.b R h)
   | ref a=>exact wpAny_is_other rfl (λh=>nomatch h) (PE.b R h)
   | _=>exact h.elim
  | _=>exact h.elim
 | Lt=>refine Th (i2 h) λi t j t' x p h=>?_;obtain rfl:=x;obtain rfl:=p;exact P.lt_int (PE.b R h)
 | LtE=>refine Th (i2 h) λi t j t' x p h=>?_;obtain rfl:=x;obtain rfl:=p;exact P.le_int (PE.b R h)
 | Gt=>refine Th (i2 h) λi t j t' x p h=>?_;obtain rfl:=x;obtain rfl:=p;exact P.gt_int (PE.b R h)
 | GtE=>refine Th (i2 h) λi t j t' x p h=>?_;obtain rfl:=x;obtain rfl:=p;exact P.ge_int (PE.b R h)
 | NotEq =>
  cases r with
  | bool b =>
   cases r' with
   | bool b'=>exact PySem.SeqAt.RcNeAt.bool_bool (A:=A) (s:=s) b b' WH w Er (PE WH w c m Q) (PE.b R h)
   | _=>exact h.elim
  | int i t=>cases r' with
   | int j t'=>exact P.ne_int (PE.b R h)
   | _=>exact h.elim
  | ref a =>
   cases r' with
   | ref b =>
    refine x46 (Tt (P:=λt=>Q (.bool (!t)) H) hu R (show eqW H a b λt=>Q (.bool (!t)) H from h) λU z=>z) λda db as bs h1 h2 h3 h4 h5 h6=>?_
    exact ne_dataH h1 h2 h3 h4 h5 (PE.b R h6)
   | _=>exact h.elim
  | _=>exact h.elim
 | IsNot =>
  cases r' with
  | none =>
   cases r with
   | none=>exact wpAny_isNot_self rfl (PE.b R h)
   | int i t=>exact wpAny_isNot_other rfl (λh=>nomatch h) (PE.b R h)
   | ref a=>exact wpAny_isNot_other rfl (λh=>nomatch h) (PE.b R h)
   | _=>exact h.elim
  | ref b =>
   refine FS (Bl h r) λa U x h=>?_;obtain rfl:=x;exact s_isn R h
  | _=>refine FS (Bl h r) λa U x h=>?_;obtain rfl:=x;exact h.elim
 | In =>
  refine En (Bj h r) λi t U x h=>?_;obtain rfl:=x;refine FS (Bl h r') λa U x p=>?_;obtain rfl:=x;refine En p λo b ho hi q=>?_;exact s_in (R.obs hm) ho hi λk=>PE.b (R.tok k) q
 | NotIn =>
  refine En (Bj h r) λi t U x h=>?_;obtain rfl:=x;refine FS (Bl h r') λa U x p=>?_;obtain rfl:=x;refine En p λo b ho hi q=>?_;exact(Wi (KW (s_in (R.obs hm) ho hi λk=>⟨_,rfl,W6 (PE.b (R.tok k) q)⟩)):wpAny _ _ (do return Z2 (!(<- contains (.ref a) (.int i t)))) _ _ s)
theorem O2{a:Int}(h:a.natAbs<=1000000):Zs a<=64:=by
 unfold Zs;split
 ·exact Wh _
 ·rename_i hz;have h0:a.natAbs≠0:=λe=>hz (by rw[Int.natAbs_eq_zero.mp e];rfl)
  have:a.natAbs.log2<20:=(Nat.log2_lt h0).mpr (X5 h (by decide))
  exact WL (m:=20) ‹_› (by decide)
theorem s_binK{op:YI}{v u:V}{y z:WO}{G:V->Prop}{P':WO->WQ->Prop}(r:VR v y)(r':VR u z)(h:Pb op v u G)(fin:∀i t k,G (.int i)->P' (.int i t) {s with toks:=k}) :
 wpAny (model WH w) A (binaryOp op y z) P' Er s:=by
 refine En (Bj h r) λi t U x h=>?_;obtain rfl:=x;refine En (Bj h r') λj t' U x h=>?_;obtain rfl:=x;cases op with
 | Add=>exact P.add_int (fin _ _ _ h)
 | Sub=>exact P.sub_int (fin _ _ _ h)
 | Mult=>exact P.mul_int (fin _ _ _ h.2) (h.1.elim (λk=>.of_left (O2 k)) λk=>.of_right (O2 k))
 | Mod=>exact mod_int' h.1 (fin _ _ _ h.2)
 | RShift=>exact rshift_int h.1 (fin _ _ _ h.2)
 | FloorDiv=>exact floordiv_int h.1 (fin _ _ _ h.2.2) (.inl (ZT h.2.1))
 | _=>exact h.elim
theorem s_bin{op:YI}{v u:V}{y z:WO}(R:Aa WH w c m H s)(r:VR v y)(r':VR u z)(h:Pb op v u λx=>Q x H) :
 wpAny (model WH w) A (binaryOp op y z) (PE WH w c m Q) Er s:=s_binK r r' h λU U k q=>PE.i (k:=k) R q
theorem RE{op:YI}{v u:V}{y z:WO}(ho:op=.Add)(R:Aa WH w c m H s)(r:VR v y)(r':VR u z)(h:Pb op v u λx=>Q x H) :
 wpAny (model WH w) A (inplaceOp op y z) (PE WH w c m Q) Er s:=by
 subst ho;refine En (Bj h r) λi t U q h=>?_;obtain rfl:=q;refine En (Bj h r') λj t' U q h=>?_;obtain rfl:=q;exact P.iadd_int (PE.i R h)
end
end
section
variable{WH:Wm}{w:WW}{A:XG}{env:Zp}{c:Cx}{m:W5->Option WO}{κ:Kp}{sc:XB}{K:Xb}
structure KF(K:Xb)(isAttr:Nat->Bool):Prop where
 meth:∀c m f,Bh c m=some f->findIn K (.ref (Cf c)) (nm m)=some (some (.ref f))/\isFn K (.ref f)=true/\keepIn K (.ref f)=true
 pget:∀c x,plainGet K (Cf c) x=true
 hdic:∀c,hasDictIn K (Cf c)=true
 attr:∀c n,isAttr n=true->∃a,findIn K (.ref (Cf c)) (nm n)=some a/\noGet K a=true/\takerIn K (Cf c) (nm n)=some WN/\copiedNames.contains (nm n)=false/\∀v,Gw c n=some v->v=.none/\a=some .none
 noneGet:specialIn K .none "__get__"=some WN
 seta:∀c,findIn K (.ref (Cf c)) "__setattr__"=some (some (.builtin "object.__setattr__"))
 over:∀c,plainOver K (Cf c)=true
section
variable{H:MH}{s:WQ}{ρ:As}{Er:WO->WQ->Prop}{isAttr:Nat->Bool}
theorem P3{v:V}{y:WO}(r:VR v y):handedIn y=true:=by cases r<;>rfl
theorem Aa.inst(R:Aa WH w c m H s){a:Nat}{cl:Cl}{as:As}(e:H a=some (.inst cl as)) :
 ∃D WI es n,Zh c.UD c.L s.heap WI/\FZ WH w c.UD D WI c.X H/\InstAt s.heap a (instObj (Cf cl) (D a)) (Cf cl) (some (dictOf es n))/\(D a,dictOf es n)∈WI/\A2 ER as es:=by
 refine AU λGG hG=>?_;obtain⟨D,WI,N,L⟩:=R.led;refine En ((L.ob _ _ e).inst) λes n h1 h2 h3=>?_;refine hG ?_;exact⟨D,WI,es,n,N,L,InstAt.of_news N h1 h2,h2,h3⟩
theorem RF{n:Nat}{v:V}{y:WO}{ex:Bool}{Q:V->MH->Prop}(F:KF K isAttr)(X₀:K.In c.UD)(hn:isAttr n=true)(R:Aa WH w c m H s)(r:VR v y)(h:Mf H v n λu=>Q u H) :
 wpAny (model WH w) A (getAttr y (nm n) ex) (PE WH w c m Q) Er s:=by
 refine AU λGG hG=>?_;refine FS (Bl h r) λa U z t=>?_;obtain rfl:=z;refine Ly t λcl as ho h=>?_;refine x45 (R.inst ho) λD WI es k N L I hd h3=>?_;refine x15 (F.attr cl n hn) λat' f1 f2 f5 f3 f4=>?_;refine Aj (ER.get (x:=n) h3) λg hg r=>?_;refine hG ?_;refine oCs (AM n as) (λhv=>?_) λv hv=>?_
 ·
  rw[hv] at h r;cases g with
  | some y=>exact r.elim
  | none =>
   cases hc:Gw cl n with
   | none=>rw[hc] at h;exact h.elim
   | some u =>
    refine Az (f4 _ hc) λz t=>?_;obtain rfl:=z;obtain rfl:=t;rw[hc] at h;exact get_cls R.fr X₀ I (F.pget cl _) (F.hdic cl) f1 F.noneGet rfl f3 hg ⟨_,_,.none,R.tok _,h⟩
 ·
  rw[hv] at h r;cases g with
  | none=>exact r.elim
  | some y=>exact get_own R.fr X₀ I (F.pget cl _) (F.hdic cl) f1 f2 hg (P3 r) ⟨_,_,r,R.tok _,h⟩
theorem RG{n:Nat}{v u:V}{y z:WO}{Q:MH->Prop}{P:Unit->WQ->Prop}(F:KF K isAttr)(X₀:K.In c.UD)(hn:isAttr n=true)(R:Aa WH w c m H s)(r:VR v y)(r':VR u z)(h:Pd H v n u Q)
 (q:∀H' s',Aa WH w c m H' s'->Q H'->P () s'):wpAny (model WH w) A (setAttr y (nm n) z) P Er s:=by
 refine AU λGG hG=>?_;refine FS (Bl h r) λa U p o=>?_;obtain rfl:=p;refine En o λcl as ho hle hq=>?_;refine x45 (R.inst ho) λD WI es k N L I hd h3=>?_;refine Tg (F.attr cl n hn) λU U U f3 U=>?_;refine Aj (ER.get (x:=n) h3) λg hg U=>?_;refine hG ?_;have P':=ER.put (x:=n) (hs:=PyData.keyHash w.params (nm n)) (t:=s.toks+1) h3 r';refine set_dict R.fr X₀ N I rfl (F.seta cl) (F.over cl) f3 (F.hdic cl) (by exact hg▸rfl) rfl (MK L.nd hd) (by have:=P'.length;exact ozI ‹_› ‹_›) λh' F' N'=>q _ _ (R.heap F' N' (L.setAttr ho P')) hq
theorem KY{n:Nat}{v:V}{y:WO}{pl:aC Bool}{P:WO×List WO->WQ->Prop}{G:Nat->Prop}(F:KF K isAttr)(X₀:K.In c.UD)(R:Aa WH w c m H s)(r:VR v y)(h:BL H v n G)(q:∀f,keepIn K (.ref f)=true->G f->P (.ref f,[y]) s) :
 wpAny (model WH w) A (getMethod y (nm n) pl) P Er s:=by
 refine FS (Bl h r) λa U z u=>?_;obtain rfl:=z;refine En u λcl as ho hv h=>?_;refine x45 (R.inst ho) λD WI es k N L I hd h3=>?_;refine Aj (ER.get (x:=n) h3) λg hg r=>?_;replace r:=hv▸r;cases g with
 | some y=>exact r.elim
 | none =>
  refine oCs (Bh cl n) (λe=>?_) λf e=>?_
  ·rw[e] at h;exact h.elim
  ·
   rw[e] at h;refine DN (F.meth cl n f e) λm1 m2 m3=>?_;exact method_inst R.fr X₀ I (F.pget cl _) m1 m2 hg (q f m3 h)
end
section
set_option genInjectivity false
structure Vw where
 t:Nat
 a:Expr
 b:Expr
 c:Expr
 xs:List Expr
 kw:List Xg
 z:W5
 p:Yt
 k:Const
 o:YI
 cs:List CmpOp
 gs:List YR
 sc:XB
 os:List (Option Expr)
noncomputable def uT:UnaryOp->Nat
 | .Not=>5
 | .USub=>6
 | _=>0
noncomputable def bT:BoolOp->Nat
 | .And=>7
 | .Or=>8
noncomputable def vw(x:Expr)(t:Nat)(p:Yt)(a b c:Expr)(xs:List Expr):Vw:=⟨t,a,b,c,xs,[],⟨#[]⟩,p,.none,.Add,[],[],⟨.module,[],false,false,[]⟩,[]⟩
def AI(x:Expr):Vw:=match x with
 | .Name z p=>{vw x 1 p x x x [] with z:=z}
 | .Attribute a z p=>{vw x 2 p a x x [] with z:=z}
 | .Call a xs kw p=>{vw x 3 p a x x xs with kw:=kw}
 | .Constant k _ p=>{vw x 4 p x x x [] with k:=k}
 | .UnaryOp u a p=>vw x (uT u) p a x x []
 | .BoolOp u xs p=>vw x (bT u) p x x x xs
 | .IfExp a b c p=>vw x 9 p a b c []
 | .Compare a cs xs p=>{vw x 10 p a x x xs with cs:=cs}
 | .BinOp a o b p=>{vw x 11 p a b x [] with o:=o}
 | .Tuple xs _ p=>vw x 12 p x x x xs
 | .List xs p=>vw x 13 p x x x xs
 | .Subscript a b p=>vw x 14 p a b x []
 | .Dict ks xs p=>{vw x 15 p x x x xs with os:=ks}
 | .ListComp a gs sc p=>{vw x 16 p a x x [] with gs:=gs,sc:=sc}
 | .DictComp a b gs sc p=>{vw x 17 p a b x [] with gs:=gs,sc:=sc}
 | .Slice l u st p=>{vw x 18 p x x x [] with os:=[l,u,st]}
 | _=>vw x 0 ⟨0,0,0,0⟩ x x x []
noncomputable def Tv(x:Expr):List Prop:=[True,∃z p,x=.Name z p,∃a z p,x=.Attribute a z p,∃a xs kw p,x=.Call a xs kw p,∃k n p,x=.Constant k n p,∃a p,x=.UnaryOp .Not a p,∃a p,x=.UnaryOp .USub a p,∃xs p,x=.BoolOp .And xs p,∃xs p,x=.BoolOp .Or xs p,
 ∃a b c p,x=.IfExp a b c p,∃a cs xs p,x=.Compare a cs xs p,∃a o b p,x=.BinOp a o b p,∃xs n p,x=.Tuple xs n p,∃xs p,x=.List xs p,∃a b p,x=.Subscript a b p,∃ks xs p,x=.Dict ks xs p,∃a gs sc p,x=.ListComp a gs sc p,∃a b gs sc p,x=.DictComp a b gs sc p,∃l u st p,x=.Slice l u st p]
def RH:Nat->List Prop->Prop
 | _,[]=>True
 | 0,a::_=>a
 | n+1,_::r=>RH n r
theorem Sx(x:Expr):RH (AI x).t (Tv x):=by
 cases x with
 | Name=>exact⟨_,_,rfl⟩
 | Attribute=>exact⟨_,_,_,rfl⟩
 | Call=>exact⟨_,_,_,_,rfl⟩
 | Constant=>exact⟨_,_,_,rfl⟩
 | UnaryOp u a p=>cases u<;>first|trivial|exact⟨_,_,rfl⟩
 | BoolOp u a p=>cases u<;>exact⟨_,_,rfl⟩
 | IfExp=>exact⟨_,_,_,_,rfl⟩
 | Compare=>exact⟨_,_,_,_,rfl⟩
 | BinOp=>exact⟨_,_,_,_,rfl⟩
 | Tuple=>exact⟨_,_,_,rfl⟩
 | List=>exact⟨_,_,rfl⟩
 | Subscript=>exact⟨_,_,_,rfl⟩
 | Dict=>exact⟨_,_,_,rfl⟩
 | ListComp=>exact⟨_,_,_,_,rfl⟩
 | DictComp=>exact⟨_,_,_,_,_,rfl⟩
 | Slice=>exact⟨_,_,_,_,rfl⟩
 | _=>trivial
theorem AP{x:Expr}{t:Nat}(h:WV (AI x).t t=true):RH t (Tv x):=Wa h▸Sx x
end
section
set_option genInjectivity false
abbrev vt(x:Expr)(n:Nat):Bool:=WV (AI x).t n
noncomputable def isG(sc:XB)(z:W5):Bool:=sc.names.lookup z==some .globalImplicit
def OA(sc:XB)(x:Expr)(y:Nat)(kd:YS):Bool:=vt x 1&&((AI x).z==nm y)&&(sc.names.lookup (nm y)==some kd)
def GF(sc:XB)(x:Expr)(z:W5):Bool:=vt x 1&&((AI x).z==z)&&isG sc z
def C5(x:Expr):Bool:=vt x 1||vt x 2||vt x 3&&!(AI x).xs.isEmpty
def isE(x:Expr):Bool:=!(vt x 5||vt x 7||vt x 8||vt x 9)
def IZ(x:Expr):Bool:=!(vt x 0||vt x 18)
noncomputable def EE{α:Type}(l:List α)(f:α->Bool):Bool:=match l with
 | [a]=>f a
 | _=>false
noncomputable def OC{α:Type}(l:List α)(f:α->α->Bool):Bool:=match l with
 | [a,b]=>f a b
 | _=>false
noncomputable def Ew{α:Type}(l:Option α)(f:α->Bool):Bool:=match l with
 | some a=>f a
 | none=>false
noncomputable def uptB(l:List (Option Expr))(f:Expr->Bool):Bool:=match l with
 | [none,some a,none]=>f a
 | _=>false
theorem an{a b:Bool}(h:(a&&b)=true):a=true/\b=true:=W8.mp h
theorem NE{a b c:Bool}(h:(a&&b&&c)=true):a=true/\b=true/\c=true:=by
 refine Az (an h) λh h3=>?_;exact⟨(an h).1,(an h).2,h3⟩
theorem Jl{a b c d:Bool}(h:(a&&b&&c&&d)=true):a=true/\b=true/\c=true/\d=true:=by
 refine Az (an h) λh hl=>?_;refine DN (NE h) λh1 h2 h3=>?_;exact⟨h1,h2,h3,hl⟩
theorem QJ{a b c d e:Bool}(h:(a&&b&&c&&d&&e)=true):a=true/\b=true/\c=true/\d=true/\e=true:=by
 refine Az (an h) λh hl=>?_;refine Ij (Jl h) λh1 h2 h3 h4=>?_;exact⟨h1,h2,h3,h4,hl⟩
theorem an6{a b c d e f:Bool}(h:(a&&b&&c&&d&&e&&f)=true):a=true/\b=true/\c=true/\d=true/\e=true/\f=true:=by
 refine Az (an h) λh hl=>?_;refine Nk (QJ h) λh1 h2 h3 h4 h5=>?_;exact⟨h1,h2,h3,h4,h5,hl⟩
theorem an7{a b c d e f g:Bool}(h:(a&&b&&c&&d&&e&&f&&g)=true):a=true/\b=true/\c=true/\d=true/\e=true/\f=true/\g=true:=by
 refine Az (an h) λh hl=>?_;refine x06 (an6 h) λh1 h2 h3 h4 h5 h6=>?_;exact⟨h1,h2,h3,h4,h5,h6,hl⟩
theorem an8{a b c d e f g x:Bool}(h:(a&&b&&c&&d&&e&&f&&g&&x)=true):a=true/\b=true/\c=true/\d=true/\e=true/\f=true/\g=true/\x=true:=by
 refine Az (an h) λh hl=>?_;refine SU (an7 h) λh1 h2 h3 h4 h5 h6 h7=>?_;exact⟨h1,h2,h3,h4,h5,h6,h7,hl⟩
theorem an9{a b c d e f g x i:Bool}(h:(a&&b&&c&&d&&e&&f&&g&&x&&i)=true):a=true/\b=true/\c=true/\d=true/\e=true/\f=true/\g=true/\x=true/\i=true:=by
 refine Az (an h) λh hl=>?_;refine Tf (an8 h) λh1 h2 h3 h4 h5 h6 h7 h8=>?_;exact⟨h1,h2,h3,h4,h5,h6,h7,h8,hl⟩
theorem an10{a b c d e f g x i j:Bool}(h:(a&&b&&c&&d&&e&&f&&g&&x&&i&&j)=true):a=true/\b=true/\c=true/\d=true/\e=true/\f=true/\g=true/\x=true/\i=true/\j=true:=by
 refine Az (an h) λh hl=>?_;refine x09 (an9 h) λh1 h2 h3 h4 h5 h6 h7 h8 h9=>?_;exact⟨h1,h2,h3,h4,h5,h6,h7,h8,h9,hl⟩
theorem Bv{α:Type}{l:List α}{f:α->Bool}(h:EE l f=true):∃a,l=[a]/\f a=true:=by
 match l,h with
 | [a],h=>exact⟨a,rfl,h⟩
theorem Jm{α:Type}{l:List α}{f:α->α->Bool}(h:OC l f=true):∃a b,l=[a,b]/\f a b=true:=by
 match l,h with
 | [a,b],h=>exact⟨a,b,rfl,h⟩
theorem Do{α:Type}{l:Option α}{f:α->Bool}(h:Ew l f=true):∃a,l=some a/\f a=true:=by
 match l,h with
 | some a,h=>exact⟨a,rfl,h⟩
theorem Sy{l:List (Option Expr)}{f:Expr->Bool}(h:uptB l f=true):∃a,l=[none,some a,none]/\f a=true:=by
 match l,h with
 | [none,some a,none],h=>exact⟨a,rfl,h⟩
theorem isG_of{sc:XB}{x:W5}(h:isG sc x=true):sc.names.lookup x=some .globalImplicit:=eq_of_beq h
theorem DK{sc x y kd}(h:OA sc x y kd=true):(∃p,x=.Name (nm y) p)/\sc.names.lookup (nm y)=some kd:=by
 refine DN (NE h) λh1 h2 h3=>?_;clear h;refine HI (AP h1) λz p w=>?_;obtain rfl:=w;exact⟨⟨p,by exact(eq_of_beq h2)▸rfl⟩,eq_of_beq h3⟩
theorem Ia{sc x z}(h:GF sc x z=true):(∃p,x=.Name z p)/\isG sc z=true:=by
 refine DN (NE h) λh1 h2 h3=>?_;clear h;refine HI (AP h1) λz' p y=>?_;obtain rfl:=y;exact⟨⟨p,by exact(eq_of_beq h2)▸rfl⟩,h3⟩
structure Ck where
 isAttr:Nat->Bool
 clN:Cl->W5
 fnN:Nat->W5
 isGl:Nat->Bool
 WI:Cl->Bool
 via:Cl->Nat->Nat->Bool
 strict:Bool
noncomputable def isC(e:E):Bool:=E.casesOn (motive_1:=λU=>Bool) e false false (λU=>false) (λU=>false) (λU=>false) (λU=>false) (λU=>false) (λU U=>false) (λU U U U=>false) (λU U U=>false) (λU U U=>false) (λU U U U=>false) (λU U U=>false) (λU=>false) (λU=>false) (λU U=>false) (λU U=>false) (λU=>false) (λU=>false) (λU=>false) (λU=>false) (λU=>false) (λU=>false) (λU=>false) (λU U U=>false) (λU U U=>true) (λU U U=>false) (λU U=>false) (λU U=>false) (λU=>false) (λU=>false) false false (λU=>false) (λU U=>false) (λU U U=>false) (λU=>false) (λU=>false) (λU U=>false) (λU=>false) (λU U=>false) (λU=>false) (λU U U U=>false) (λU U U U U=>false)
noncomputable def isL(e:E):Bool:=E.casesOn (motive_1:=λU=>Bool) e false false (λU=>false) (λU=>false) (λU=>false) (λU=>false) (λU=>false) (λU U=>false) (λU U U U=>false) (λU U U=>false) (λU U U=>false) (λU U U U=>false) (λU U U=>false) (λU=>false) (λU=>false) (λU U=>false) (λU U=>false) (λU=>false) (λU=>false) (λU=>false) (λU=>false) (λU=>false) (λU=>false) (λU=>false) (λU U U=>false) (λU U U=>false) (λU U U=>false) (λU U=>false) (λU U=>false) (λU=>false) (λU=>false) false false (λU=>false) (λU U=>false) (λU U U=>false) (λU=>false) (λU=>false) (λU U=>false) (λU=>false) (λU U=>false) (λU=>false) (λU U U U=>true) (λU U U U U=>false)
noncomputable def Sz(e:E):Bool:=E.casesOn (motive_1:=λU=>Bool) e false false (λU=>false) (λU=>false) (λU=>false) (λU=>false) (λU=>false) (λU U=>false) (λU U U U=>false) (λU U U=>false) (λU U U=>false) (λU U U U=>false) (λU U U=>false) (λU=>false) (λU=>false) (λU U=>false) (λU U=>false) (λU=>false) (λU=>false) (λU=>false) (λU=>false) (λU=>false) (λU=>false) (λU=>false) (λU U U=>false) (λU U U=>false) (λU U U=>false) (λU U=>false) (λU U=>false) (λU=>false) (λU=>false) false false (λU=>false) (λU U=>false) (λU U U=>false) (λU=>false) (λU=>false) (λU U=>false) (λU=>false) (λU U=>false) (λU=>false) (λU U U U=>false) (λU U U U U=>true)
theorem nP{P:Prop}(h:false=true):P:=zT h
theorem isC_of(e:E):isC e=true->∃op a b,e=.cmp op a b :=
 E.casesOn (motive_1:=λe=>isC e=true->∃op a b,e=.cmp op a b) e nP nP (λU=>nP) (λU=>nP) (λU=>nP) (λU=>nP) (λU=>nP) (λU U=>nP) (λU U U U=>nP) (λU U U=>nP) (λU U U=>nP) (λU U U U=>nP) (λU U U=>nP) (λU=>nP) (λU=>nP) (λU U=>nP) (λU U=>nP) (λU=>nP) (λU=>nP) (λU=>nP) (λU=>nP) (λU=>nP) (λU=>nP) (λU=>nP) (λU U U=>nP) (λop a b U=>⟨op,a,b,rfl⟩) (λU U U=>nP) (λU U=>nP) (λU U=>nP) (λU=>nP) (λU=>nP) nP nP (λU=>nP) (λU U=>nP) (λU U U=>nP) (λU=>nP) (λU=>nP) (λU U=>nP) (λU=>nP) (λU U=>nP) (λU=>nP) (λU U U U=>nP) (λU U U U U=>nP)
theorem isL_of(e:E):isL e=true->∃e' z it cs,e=.lcomp e' z it cs :=
 E.casesOn (motive_1:=λe=>isL e=true->∃e' z it cs,e=.lcomp e' z it cs) e nP nP (λU=>nP) (λU=>nP) (λU=>nP) (λU=>nP) (λU=>nP) (λU U=>nP) (λU U U U=>nP) (λU U U=>nP) (λU U U=>nP) (λU U U U=>nP) (λU U U=>nP) (λU=>nP) (λU=>nP) (λU U=>nP) (λU U=>nP) (λU=>nP) (λU=>nP) (λU=>nP) (λU=>nP) (λU=>nP) (λU=>nP) (λU=>nP) (λU U U=>nP) (λU U U=>nP) (λU U U=>nP) (λU U=>nP) (λU U=>nP) (λU=>nP) (λU=>nP) nP nP (λU=>nP) (λU U=>nP) (λU U U=>nP) (λU=>nP) (λU=>nP) (λU U=>nP) (λU=>nP) (λU U=>nP) (λU=>nP) (λe z it cs U=>⟨e,z,it,cs,rfl⟩) (λU U U U U=>nP)
theorem TA(e:E):Sz e=true->∃e' v z it cs,e=.dcomp e' v z it cs :=
 E.casesOn (motive_1:=λe=>Sz e=true->∃e' v z it cs,e=.dcomp e' v z it cs) e nP nP (λU=>nP) (λU=>nP) (λU=>nP) (λU=>nP) (λU=>nP) (λU U=>nP) (λU U U U=>nP) (λU U U=>nP) (λU U U=>nP) (λU U U U=>nP) (λU U U=>nP) (λU=>nP) (λU=>nP) (λU U=>nP) (λU U=>nP) (λU=>nP) (λU=>nP) (λU=>nP) (λU=>nP) (λU=>nP) (λU=>nP) (λU=>nP) (λU U U=>nP) (λU U U=>nP) (λU U U=>nP) (λU U=>nP) (λU U=>nP) (λU=>nP) (λU=>nP) nP nP (λU=>nP) (λU U=>nP) (λU U U=>nP) (λU=>nP) (λU=>nP) (λU U=>nP) (λU=>nP) (λU U=>nP) (λU=>nP) (λU U U U=>nP) (λe v z it cs U=>⟨e,v,z,it,cs,rfl⟩)
def Bw(x:Expr):Bool:=!(vt x 16||vt x 17||vt x 0)
noncomputable def rl(s out:XB):Scope:={s with names:=s.names.map λ(n,k)=>if(k==.free&&out.kind==.function&&out.names.lookup n==some .cell) then(n,.cell) else(n,k)}
noncomputable def okM(x:Expr)(m:Nat):Bool:=vt x 3&&vt (AI x).a 2&&((AI (AI x).a).z==nm m)&&C5 (AI (AI x).a).a&&((AI (AI x).a).p.endLine==(AI x).p.line)&&(AI x).kw.isEmpty
noncomputable def okLt(sc:XB)(x:Expr):Bool:=vt x 3&&vt (AI x).a 2&&((AI (AI x).a).z==nm BG)&&C5 (AI (AI x).a).a&&((AI (AI x).a).p.endLine==(AI x).p.line)&&decide ((AI x).xs.length+(AI x).kw.length<20)&&OA sc (AI (AI x).a).a FD .local&&(AI x).xs.isEmpty&&(AI x).kw.isEmpty
def scP(out s:XB)(y:Nat):Bool:=(s.kind==.function)&&(s.names.all λp=>!(p.2==.cell))&&(s.names.all λp=>!(p.2==.free)||out.names.lookup p.1==some .cell)&&(s.names.all λp=>!(p.2==.local)||s.names.lookup p.1==some .local)&&(s.names.lookup (nm y)==some .local)
mutual
def Be(k:Ck):XB->E->Expr->Bool:=λsc e x=>match e with
 | .bad=>true
 | .none=>vt x 4&&((AI x).k==.none)
 | .bool b=>vt x 4&&((AI x).k==.bool b)
 | .int i=>vt x 4&&((AI x).k==.int i)
 | .neg n=>vt x 6&&vt (AI x).a 4&&((AI (AI x).a).k==.int n)
 | .var y=>OA sc x y .local
 | .cvar y=>OA sc x y .cell||OA sc x y .free
 | .attr e n=>vt x 2&&((AI x).z==nm n)&&k.isAttr n&&C5 (AI x).a&&Be k sc e (AI x).a
 | .meth e n as ks=>vt x 3&&vt (AI x).a 2&&((AI (AI x).a).z==nm n)&&C5 (AI (AI x).a).a&&((AI (AI x).a).p.endLine==(AI x).p.line)&&decide ((AI x).xs.length+(AI x).kw.length<20) &&
  Be k sc e (AI (AI x).a).a&&CP k sc as (AI x).xs&&JA k sc ks (AI x).kw
 | .fn f as ks=>vt x 3&&GF sc (AI x).a (k.fnN f)&&k.isGl f&&CP k sc as (AI x).xs&&JA k sc ks (AI x).kw
 | .new c as ks=>vt x 3&&GF sc (AI x).a (k.clN c)&&k.WI c&&CP k sc as (AI x).xs&&JA k sc ks (AI x).kw
 | .via c m f as=>vt x 3&&vt (AI x).a 2&&GF sc (AI (AI x).a).a (k.clN c)&&((AI (AI x).a).z==nm m)&&k.WI c&&k.via c m f&&((AI (AI x).a).p.endLine==(AI x).p.line)&&decide ((AI x).xs.length<20)&&CP k sc as (AI x).xs&&(AI x).kw.isEmpty
 | .sup _ _ _=>false
 | .len e=>vt x 3&&GF sc (AI x).a "len"&&(AI x).kw.isEmpty&&EE (AI x).xs λy=>IZ y&&Be k sc e y
 | .max1 e=>vt x 3&&(k.strict&&GF sc (AI x).a "max")&&(AI x).kw.isEmpty&&EE (AI x).xs λy=>IZ y&&Be k sc e y
 | .max2 a b=>vt x 3&&(k.strict&&GF sc (AI x).a "max")&&(AI x).kw.isEmpty&&OC (AI x).xs λy z=>(IZ y&&Be k sc a y)&&(IZ z&&Be k sc b z)
 | .min2 a b=>vt x 3&&(k.strict&&GF sc (AI x).a "min")&&(AI x).kw.isEmpty&&OC (AI x).xs λy z=>(IZ y&&Be k sc a y)&&(IZ z&&Be k sc b z)
 | .range as=>vt x 3&&GF sc (AI x).a "range"&&(AI x).kw.isEmpty&&CP k sc as (AI x).xs
 | .sorted e=>vt x 3&&(k.strict&&GF sc (AI x).a "sorted")&&(AI x).kw.isEmpty&&EE (AI x).xs λy=>IZ y&&Be k sc e y
 | .setof e=>vt x 3&&(k.strict&&GF sc (AI x).a "set")&&(AI x).kw.isEmpty&&EE (AI x).xs λy=>IZ y&&Be k sc e y
 | .listof e=>vt x 3&&(k.strict&&GF sc (AI x).a "list")&&(AI x).kw.isEmpty&&EE (AI x).xs λy=>IZ y&&Be k sc e y
 | .not e=>vt x 5&&Be k sc e (AI x).a
 | .and es=>vt x 7&&CP k sc es (AI x).xs
 | .or es=>vt x 8&&CP k sc es (AI x).xs
 | .ite c a b=>vt x 9&&QK k sc c (AI x).a&&Be k sc a (AI x).b&&Be k sc b (AI x).c
 | .cmp o a b=>vt x 10&&EE (AI x).cs (λo'=>o==o')&&Be k sc a (AI x).a&&EE (AI x).xs λz=>Be k sc b z&&!behindInMarks o z
 | .bin o a b=>vt x 11&&(o==(AI x).o)&&Be k sc a (AI x).a&&Be k sc b (AI x).b
 | .idx e i=>vt x 14&&Be k sc e (AI x).a&&IZ (AI x).b&&Be k sc i (AI x).b
 | .upto e i=>vt x 14&&vt (AI x).a 1&&Be k sc e (AI x).a&&vt (AI x).b 18&&uptB (AI (AI x).b).os λu=>Be k sc i u
 | .tup es=>vt x 12&&CP k sc es (AI x).xs
 | .lst es=>vt x 13&&CP k sc es (AI x).xs
 | .stk=>vt x 13&&(AI x).xs.isEmpty
 | .dct=>false
 | .dget e i d=>vt x 3&&vt (AI x).a 2&&((AI (AI x).a).z=="get")&&C5 (AI (AI x).a).a&&((AI (AI x).a).p.endLine==(AI x).p.line)&&Be k sc e (AI (AI x).a).a&&(AI x).kw.isEmpty&&OC (AI x).xs λy z=>(IZ y&&Be k sc i y)&&(IZ z&&Be k sc d z)
 | .str n=>vt x 4&&((AI x).k==.str (wd n))
 | .ltr e=>vt x 14&&vt (AI x).a 4&&((AI (AI x).a).k==.str "abcdefgh")&&IZ (AI x).b&&Be k sc e (AI x).b
 | .cat a b=>vt x 11&&((AI x).o==.Add)&&Be k sc a (AI x).a&&Be k sc b (AI x).b
 | .lmt e=>vt x 3&&(k.strict&&GF sc (AI x).a "list")&&(AI x).kw.isEmpty&&EE (AI x).xs λy=>IZ y&&(okM y AK&&(AI y).xs.isEmpty&&Be k sc e (AI (AI y).a).a)
 | .lmt1 e i=>vt x 3&&(k.strict&&GF sc (AI x).a "list")&&(AI x).kw.isEmpty&&EE (AI x).xs λy=>IZ y&&(okM y AK&&Be k sc e (AI (AI y).a).a&&EE (AI y).xs λz=>IZ z&&Be k sc i z)
 | .ltm e=>(k.strict&&vt x 16)&&EE (AI x).gs λg=>(g.is_async==0)&&vt g.target 1&&((AI g.target).z==nm FD)&&Bw g.iter&&(g.ifs.isEmpty&&okM g.iter AR&&(AI g.iter).xs.isEmpty&&Be k sc e (AI (AI g.iter).a).a)&&scP sc (AI x).sc FD&&okLt (rl (AI x).sc sc) (AI x).a
 | .pop e=>vt x 3&&vt (AI x).a 2&&((AI (AI x).a).z=="pop")&&C5 (AI (AI x).a).a&&((AI (AI x).a).p.endLine==(AI x).p.line)&&Be k sc e (AI (AI x).a).a&&(AI x).xs.isEmpty&&(AI x).kw.isEmpty
 | .append e v=>vt x 3&&vt (AI x).a 2&&((AI (AI x).a).z=="append")&&C5 (AI (AI x).a).a&&((AI (AI x).a).p.endLine==(AI x).p.line)&&Be k sc e (AI (AI x).a).a&&(AI x).kw.isEmpty&&EE (AI x).xs λy=>IZ y&&Be k sc v y
 | .lcomp e y it cs=>(k.strict&&vt x 16)&&EE (AI x).gs λg=>(g.is_async==0)&&vt g.target 1&&((AI g.target).z==nm y)&&Bw g.iter&&Be k sc it g.iter&&scP sc (AI x).sc y&&HJ k (rl (AI x).sc sc) cs g.ifs&&Be k (rl (AI x).sc sc) e (AI x).a
 | .dcomp e v y it cs=>(k.strict&&vt x 17)&&EE (AI x).gs λg=>(g.is_async==0)&&vt g.target 1&&((AI g.target).z==nm y)&&Bw g.iter&&Be k sc it g.iter&&scP sc (AI x).sc y&&HJ k (rl (AI x).sc sc) cs g.ifs&&(Be k (rl (AI x).sc sc) e (AI x).a&&Be k (rl (AI x).sc sc) v (AI x).b)
def QK(k:Ck):XB->T->Expr->Bool:=λsc e x=>match e with
 | .e e=>isE x&&(isC e||!vt x 10)&&Be k sc e x
 | .not e=>vt x 5&&QK k sc e (AI x).a
 | .and es=>vt x 7&&HJ k sc es (AI x).xs
 | .or es=>vt x 8&&HJ k sc es (AI x).xs
def HJ(k:Ck):XB->List T->List Expr->Bool:=λsc e xs=>match e,xs with
 | [],[]=>true
 | e::es,x::xs=>QK k sc e x&&HJ k sc es xs
 | _,_=>false
def CP(k:Ck):XB->List E->List Expr->Bool:=λsc e xs=>match e,xs with
 | [],[]=>true
 | e::es,x::xs=>(IZ x&&Be k sc e x)&&CP k sc es xs
 | _,_=>false
def JA(k:Ck):XB->List (Nat×E)->List Xg->Bool:=λsc e xs=>match e,xs with
 | [],[]=>true
 | p::es,x::xs=>Ew x.arg (λz=>z==nm p.1)&&okKp k sc p x.value&&JA k sc es xs
 | _,_=>false
def okKp(k:Ck):XB->(Nat×E)->Expr->Bool:=λsc p x=>match p with
 | (_,e)=>Be k sc e x
end
end
structure TB(out s:XB)(y:Nat):Prop where
 kd:s.kind=.function
 nc:∀p∈s.names,p.2≠.cell
 fr:∀p∈s.names,p.2=.free->out.names.lookup p.1=some .cell
 lo:∀p∈s.names,p.2=.local->s.names.lookup p.1=some .local
 hx:s.names.lookup (nm y)=some .local
theorem RI{out s:XB}{y:Nat}(h:scP out s y=true):TB out s y:=by
 refine Nk (QJ h) λh1 h2 h3 h4 h5=>?_;clear h;refine⟨eq_of_beq h1,λp hp e=>?_,λp hp e=>?_,λp hp e=>?_,eq_of_beq h5⟩
 ·have:=laP h2 p hp;replace this:=e▸this;exact zT this
 ·have:=laP h3 p hp;rw[e] at this;exact eq_of_beq this
 ·have:=laP h4 p hp;rw[e] at this;exact eq_of_beq this
def KR(p:Nat×V)(q:W5×WO):Prop:=q.1=nm p.1/\VR p.2 q.2
noncomputable def bis:List (W5×WO):=[("len",.builtin "len"),("max",.builtin "max"),("min",.builtin "min"),("range",.type "range"),("sorted",.builtin "sorted"),("set",.type "set"),("list",.type "list"),("super",.type "super")]
structure Base(k:Ck)(K:Xb)(UD:Xy):Prop where
 kin:K.In UD
 lim:UD.NoLimit
 mods:(UD.get? sysModules).isSome=true
 nall:keepIn K (.ref Ip)=false/\keepIn K (.ref Li)=false
 glo:∃mg mb,UD.Ns mainGlobals mg/\UD.Ns builtinsNs mb/\(∀cl,k.WI cl=true->mg (k.clN cl)=some (.ref (Cf cl)))/\(∀f,k.isGl f=true->mg (k.fnN f)=some (.ref f))/\∀p∈bis,mg p.1=none/\mb p.1=some p.2
 bui:∃mg bm o,UD.Ns mainGlobals mg/\mg "__builtins__"=some (.ref bm)/\bm≠builtinsNs/\UD.get? bm=some o/\o.cls=.type "module"/\o.dict=some builtinsNs/\o.data=.plain
 clD:∀cl,k.WI cl=true->(k.clN cl==("__debug__":W5))=false/\keepIn K (.ref (Cf cl))=true
 fnD:∀f,k.isGl f=true->(k.fnN f==("__debug__":W5))=false/\keepIn K (.ref f)=true
 via:∀cl n f,k.via cl n f=true->typeIn K (.ref (Cf cl))=some (.type "type")/\readsIn K (Cf cl) (.type "type")=true/\findCls K (.ref (Cf cl)) (.type "type") (nm n)=some (.val (.ref f)) /\
  specialIn K (.ref (Cf cl)) "__getattribute__"=some (some (.builtin "type.__getattribute__"))/\keepIn K (.ref f)=true
 mak:∀cl,k.WI cl=true->makesIn K (Cf cl)=true/\(Bh cl Ab=none->findIn K (.ref (Cf cl)) "__init__"=some (some (.builtin "object.__init__")))
theorem Base.na{k:Ck}{K:Xb}{UD:Xy}{f:Nat}(B:Base k K UD)(h:keepIn K (.ref f)=true):f≠Ip/\f≠Li:=⟨λe=>by rw[e,B.nall.1] at h;exact zT h,λe=>by rw[e,B.nall.2] at h;exact zT h⟩
theorem TC:nm Ab=("__init__":W5):=by decide +kernel
structure TmX where
 elt:Expr
 iter:Expr
 px:Yt
 scope:XB
 pos:Yt
 cl:List (W5×XQ)
structure TD(sc:XB)(env:Zp)(X:TmX):Prop where
 s:TB sc X.scope FD
 e:okLt (rl X.scope sc) X.elt=true
 c:∀p∈X.scope.names,p.2=ZE->X.cl.lookup p.1=env.cells.lookup p.1
noncomputable def TmB(WH:Wm)(w:WW)(A:XG)(env:Zp)(Er:WO->WQ->Prop)(X:TmX)(P:WO->WQ->Prop)(z:WO)(s:WQ):Prop :=
 wpAny (model WH w) A (pyIter z) (λit UM=>wpAny (model WH w) A (newList []) (λacc US=>wpAny (model WH w) A (newFunctionEnv X.scope env.globals X.cl [] env.qual none .none (some env)) (λcenv UT =>
  codeAny (model WH w) A (.compStart (.ListComp X.elt [⟨.Name (nm FD) X.px,X.iter,[],0⟩] X.scope X.pos) 0 it acc {cenv with scope:=relabel X.scope env}) (compPost (model WH w) A Er none P acc cenv.locals) UT) Er US) Er UM) Er s
structure Ev(WH:Wm)(w:WW)(K:Xb)(k:Ck)(C:CB)(A:XG)(c:Cx)(env:Zp)(κ:Kp)(sc:XB):Prop where
 F:KF K k.isAttr
 B:Base k K c.UD
 O:EO env c.L κ sc
 hh:k.strict=true->A.handled=none
 un:8*A.depth+A.units<=7900
 calls:∀A':XG,(k.strict=true->A'.handled=none)->8*A'.depth+A'.units<=8*A.depth+A.units+12->∀(c':Cx) m H s f vs ys us zs Q R,c'.UD=c.UD->f≠Ip/\f≠Li->Aa WH w c' m H s->A2 VR vs ys->A2 KR us zs->C f vs us H Q ->
  (∀v s',PE WH w c' m Q v s'->R (.ok (.ret v)) s')->codeAny (model WH w) A' (.call (.ref f) ⟨ys,zs⟩) R s
 alls:k.strict=true->∀(Er:WO->WQ->Prop) (c':Cx) m H s v y us ys Q,c'.UD=c.UD->Aa WH w c' m H s->VR v y->A2 VR us ys->C Ip (v::us) [] H Q ->
  codeAny (model WH w) A (.call (.ref AF) ⟨y::ys,[]⟩) (wants (λz s'=>wpAny (model WH w) A (Xp (.type "list") [z]) (PE WH w c' m Q) Er s') Er) s
 atms:k.strict=true->∀(Er:WO->WQ->Prop) (c':Cx) (env':Zp) (κ':Kp) (sc':XB) m H s v y Q (X:TmX),c'.UD=c.UD->EO env' c'.L κ' sc'->Aa WH w c' m H s->VR v y->C Li [v] [] H Q->TD sc' env' X ->
  codeAny (model WH w) A (.call (.ref AG) ⟨[y],[]⟩) (wants (TmB WH w A env' Er X (PE WH w c' m Q)) Er) s
section
variable{H:MH}{s:WQ}{ρ:As}{Er:WO->WQ->Prop}{k:Ck}{C:CB}
theorem Ev.glob(Z:Ev WH w K k C A c env κ sc)(R:Aa WH w c m H s){x:W5}{p:Yt}{v:WO}{P:WO->WQ->Prop}(hg:isG sc x=true)(hd:(x==("__debug__":W5))=false)
 (hv:∃mg mb,c.UD.Ns mainGlobals mg/\c.UD.Ns builtinsNs mb/\(mg x=some v\/mg x=none/\mb x=some v))(q:P v s):wpAny (model WH w) A (eval (.Name x p) env) P Er s:=by
 refine En hv λmg mb h1 h2 h3=>?_;have k1:=h1.keeps R.fr.keep;have k2:=h2.keeps R.fr.keep;have O:=Z.O;refine Name_function_global (by rw[O.isc];exact O.ikd) (by unfold Xa;rw[O.isc];exact isG_of hg) ?_ hd
 rcases h3 with h3|⟨h3,h4⟩
 ·exact loadGlobal_global (by rw[O.igl];exact k1) h3 q
 ·exact loadGlobal_builtin (by rw[O.igl];exact k1) h3 (by rw[O.ibi];exact k2) h4 q
theorem Ev.glC(Z:Ev WH w K k C A c env κ sc)(R:Aa WH w c m H s){cl:Cl}{p:Yt}{P:WO->WQ->Prop}(hg:isG sc (k.clN cl)=true)(hn:k.WI cl=true)(q:P (.ref (Cf cl)) s) :
 wpAny (model WH w) A (eval (.Name (k.clN cl) p) env) P Er s:=by
 refine AU λGG hG=>?_;refine SV Z.B.glo λmg mb h1 h2 h3 h4 h5=>?_;refine hG ?_;clear hG GG;exact Z.glob R hg (Z.B.clD cl hn).1 ⟨mg,mb,h1,h2,.inl (h3 cl hn)⟩ q
theorem Ev.glF(Z:Ev WH w K k C A c env κ sc)(R:Aa WH w c m H s){f:Nat}{p:Yt}{P:WO->WQ->Prop}(hg:isG sc (k.fnN f)=true)(hn:k.isGl f=true)(q:P (.ref f) s) :
 wpAny (model WH w) A (eval (.Name (k.fnN f) p) env) P Er s:=by
 refine AU λGG hG=>?_;refine SV Z.B.glo λmg mb h1 h2 h3 h4 h5=>?_;refine hG ?_;clear hG GG;exact Z.glob R hg (Z.B.fnD f hn).1 ⟨mg,mb,h1,h2,.inl (h4 f hn)⟩ q
theorem Ev.glB(Z:Ev WH w K k C A c env κ sc)(R:Aa WH w c m H s){b:W5×WO}{p:Yt}{P:WO->WQ->Prop}(hb:b∈bis)(hg:isG sc b.1=true)(q:P b.2 s) :
 wpAny (model WH w) A (eval (.Name b.1 p) env) P Er s:=by
 refine AU λGG hG=>?_;refine SV Z.B.glo λmg mb h1 h2 h3 h4 h5=>?_;refine hG ?_;clear hG GG;have:bis.all (λb=>!(b.1==("__debug__":W5)))=true:=by decide +kernel
 exact Z.glob R hg (by have:=laP this b hb;rwa [XC] at this) ⟨mg,mb,h1,h2,.inr (h5 b hb)⟩ q
theorem Ev.call(Z:Ev WH w K k C A c env κ sc)(R:Aa WH w c m H s){f vs ys us zs}{Q:V->MH->Prop}(hk:keepIn K (.ref f)=true)(r:A2 VR vs ys)(r':A2 KR us zs)(h:C f vs us H Q) :
 wpAny (model WH w) A (Xp (.ref f) ys zs) (PE WH w c m Q) Er s :=
 Yi (Z.calls A Z.hh (WZ _ 12) c m H s f vs ys us zs Q _ rfl (Z.B.na hk) R r r' h λU U z=>z)
theorem Bf{UD h:Xy}{L:XQ}{WI:BW}{x:Nat}(N:Zh UD L h WI)(hx:∀p∈WI,p.1<x):x∉WI.map (·.1):=λq=>by
 refine Aj (mmP q) λp hp z=>?_;obtain rfl:=z;exact XN _ (hx p hp)
theorem lt_size{UD h:Xy}{L:XQ}{WI:BW}(N:Zh UD L h WI):∀p∈WI,p.1<h.objs.size:=λp hp=>Wn (N p hp).1
theorem Ev.make(Z:Ev WH w K k C A c env κ sc)(R:Aa WH w c m H s){cl:Cl}{vs ys us zs}{Q:V->MH->Prop}(hn:k.WI cl=true)(r:A2 VR vs ys)(r':A2 KR us zs)(h:EL C cl vs us H Q) :
 wpAny (model WH w) A (Xp (.ref (Cf cl)) ys zs) (PE WH w c m Q) Er s:=by
 unfold EL at h;obtain⟨D,WI,N,L⟩:=R.led;refine Az (Z.B.mak cl hn) λhm hi=>?_;have key:∀{x dx:Nat} {h':Xy},Zh c.UD c.L h' ((x,instObj (Cf cl) dx)::(dx,dictOf [] 0)::WI)->(∀p∈WI,p.1<dx)->dx<x ->
  H x=WN/\∃D',FZ WH w c.UD D' ((x,instObj (Cf cl) dx)::(dx,dictOf [] 0)::WI) c.X (H.put x (.inst cl [])):=by
  intro x dx h' N' lt lt';have n1:x∉WI.map (·.1):=Bf N λp hp=>Nat.lt_trans (lt p hp) lt'
  exact⟨L.none n1 ((N' (x,_) (.head _)).2.2),L.allocInst n1 (Bf N lt) (N' (dx,_) (.tail _ (.head _))).2.2 (Xw lt')⟩
 refine oCs (Bh cl Ab) (λe=>?_) λf e=>?_
 ·
  replace h:=e▸h;have:H s.heap.objs.size=Option.none:=by
   refine L.none (Bf N (lt_size N)) ?_;cases q:c.UD.get? s.heap.objs.size with
   | none=>rfl
   | some o=>exact absurd (Wn (R.fr.keep _ _ q)) (XN _)
  refine AU λGG hG=>?_;refine DN (h _ this) λy u U=>?_;obtain rfl:=y;obtain rfl:=u;cases r;cases r'
  refine hG ?_;refine call_cls0 R.fr Z.B.kin N hm (hi e) λx dx h' F' N' lt lt'=>?_;refine Az (key N' lt lt') λk1 n=>?_;refine CT n λD' L'=>?_;exact⟨_,_,.ref x,R.heap F' N' L',(h x k1).2.2⟩
 ·
  replace h:=e▸h;refine DN (Z.F.meth _ _ _ e) λm1 m2 U=>?_;refine call_cls R.fr Z.B.kin N hm (TC▸m1) m2 λx dx h' F' N' lt lt'=>?_;refine Az (key N' lt lt') λk1 y=>?_;refine CT y λD' L'=>?_;refine Z.calls (A.under _) Z.hh du c m _ _ f _ _ _ _ _ _ rfl (Z.B.na (Z.F.meth _ _ _ e).2.2) (R.heap (t:=s.toks) F' N' L') (.cons (.ref x) r) r' (h x k1) λv s' z=>?_;refine AU λGG hG=>?_;obtain⟨v',H',rv,R',rfl,q⟩:=z;refine hG ?_;clear hG GG;cases rv
  exact⟨rfl,_,_,.ref x,R',q⟩
end
section
variable{k:Ck}{C:CB}
theorem O3{o:Expr}{z:W5}{t:aC WO}(h:C5 o=true):attributeBase o z env t=t:=by
 cases o with
 | Call f args kws p =>
  cases args with
  | nil=>exact zT h
  | cons a r=>cases f<;>rfl
 | UnaryOp u=>exact nomatch u<;>exact zT h
 | BoolOp u=>exact nomatch u<;>exact zT h
 | _=>first|rfl|cases h
theorem Dp:∀{es:List E} {xs:List Expr},CP k sc es xs=true->starEach xs env=xs.map λx=>(false,eval x env)
 | [],[],_=>rfl
 | [],_::_,h=>nomatch (show false=true from h)
 | _::_,[],h=>nomatch (show false=true from h)
 | e::es,x::xs,h=>by
  obtain⟨h1,h2⟩:=an (show((IZ x&&Be k sc e x)&&CP k sc es xs)=true from h)
  have ih:=Dp h2;have:starEach (x::xs) env=(false,eval x env)::starEach xs env:=by
   cases x with
   | Starred y p=>cases(an h1).1
   | _=>rfl
  rw[this,ih];rfl
theorem ES{pos:Yt}(xs:List Expr):backTo pos (xs.map λx=>(false,eval x env))=xs.map λx=>(false,eval x env):=by
 exact Xf
theorem Jn:∀{ks:List (Nat×E)} {kws:List Xg} {pos:Yt},JA k sc ks kws=true->(backToKw pos (keywordEach kws env)).all (·.1.isSome)=true/\(backToKw pos (keywordEach kws env)).any (·.1.isNone)=false/\(backToKw pos (keywordEach kws env)).length=kws.length
 | [],[],_,_=>⟨rfl,rfl,rfl⟩
 | [],_::_,_,h=>zT (show false=true from h)
 | _::_,[],_,h=>nomatch (show false=true from h)
 | p::ks,⟨some z,x,pp⟩::kws,pos,h=>by
  obtain⟨i1,i2,i3⟩:=Jn (pos:=pos) (an (show((z==nm p.1&&okKp k sc p x)&&JA k sc ks kws)=true from h)).2
  refine⟨?_,?_,?_⟩
  ·show(true&&_)=true;rw[Zx];exact i1
  ·show(false||_)=false;rw[Bool.false_or];exact i2
  ·exact congrArg (·+1) i3
 | _::_,⟨WN,_,_⟩::_,_,h=>zT (show false=true from h)
inductive PKs (WH:Wm) (w:WW) (c:Cx) (m:W5->Option WO) (kws:List Xg) (Q:As->MH->Prop) (ys:List WO) (s:WQ):Prop
 | mk (us:_) (H:_) (p0:A2 KR us ((kws.filterMap (·.arg)).zip ys)) (p1:Aa WH w c m H s) (p2:Q us H):PKs WH w c m kws Q ys s
theorem KZ(pos:Yt):∀kws:List Xg,(backToKw pos (keywordEach kws env)).filterMap (·.1)=kws.filterMap (·.arg)
 | []=>rfl
 | ⟨WN,_,_⟩::r=>KZ pos r
 | ⟨some z,_,_⟩::r=>congrArg (z::·) (KZ pos r)
theorem Go{f:WO}{ks:List (Nat×E)}{es:List E}{xs:List Expr}{kws:List Xg}{pos:Yt}{s:WQ}{Er}{P:Args->WQ->Prop}{Q:List V->As->MH->Prop}(h1:CP k sc es xs=true)(h2:JA k sc ks kws=true)
 (h:wpAny (model WH w) A (spliced (xs.map λx=>(false,eval x env))) (PEs WH w c m (λvs H=>∀s',Aa WH w c m H s'->wpAny (model WH w) A (evalAll ((backToKw pos (keywordEach kws env)).map (·.2))) (PKs WH w c m kws (λus H=>Q vs us H)) Er s')) Er s)
 (q:∀vs us ys zs H s',A2 VR vs ys->A2 KR us zs->Aa WH w c m H s'->Q vs us H->P ⟨ys,zs⟩ s') :
 wpAny (model WH w) A (evalArgs f true (backTo pos (starEach xs env)) (backToKw pos (keywordEach kws env))) P Er s:=by
 refine DN (Jn (env:=env) (pos:=pos) h2) λk1 k2 k3=>?_;rw[Dp h1,ES];have fin:wpAny (model WH w) A (spliced (xs.map λx=>(false,eval x env))) (λys UH=>wpAny (model WH w) A (evalAll ((backToKw pos (keywordEach kws env)).map (·.2))) (λzs UM=>P ⟨ys,((backToKw pos (keywordEach kws env)).filterMap (·.1)).zip zs⟩ UM) Er UH) Er s:=by
  refine XR h (λys UH ⟨vs,H,r,R,z⟩=>XR (z _ R) (λzs UM ⟨us,H',r',R',z'⟩=>?_) λU U e=>e) λU U e=>e;exact q vs us _ _ H' UM r (by rw[KZ];exact r') R' z'
 cases xs with
 | nil =>
  refine evalArgs_kw_nil k1 ?_;have fin':wpAny (model WH w) A (pure []:aC (List WO)) (λys UH=>wpAny (model WH w) A (evalAll ((backToKw pos (keywordEach kws env)).map (·.2))) (λzs UM=>P ⟨ys,((backToKw pos (keywordEach kws env)).filterMap (·.1)).zip zs⟩ UM) Er UH) Er s:=fin
  intro Γ p hΓ;have:=fin' Γ p hΓ;rw[Sem.wp_pure'] at this;exact this Γ p hΓ
 | cons x r=>exact evalArgs_kw k1 fin
theorem F0{f:WO}{first:List WO}{ks:List (Nat×E)}{es:List E}{xs:List Expr}{kws:List Xg}{pos:Yt}{s:WQ}{Er}{P:WO->WQ->Prop}{Q:List V->As->MH->Prop}(Z:Ev WH w K k C A c env κ sc)(hk:keepIn K f=true)(h1:CP k sc es xs=true)(h2:JA k sc ks kws=true)
 (h:wpAny (model WH w) A (spliced (xs.map λx=>(false,eval x env))) (PEs WH w c m (λvs H=>∀s',Aa WH w c m H s'->wpAny (model WH w) A (evalAll ((backToKw pos (keywordEach kws env)).map (·.2))) (PKs WH w c m kws (λus H=>Q vs us H)) Er s')) Er s)
 (q:∀vs us ys zs H s',A2 VR vs ys->A2 KR us zs->Aa WH w c m H s'->Q vs us H->wpAny (model WH w) A (Xp f (first++ys) zs) P Er s') :
 wpAny (model WH w) A (callWith pos f first (backTo pos (starEach xs env)) (backToKw pos (keywordEach kws env))) P Er s:=by
 refine DN (Jn (env:=env) (pos:=pos) h2) λk1 k2 k3=>?_;refine Yp (P:=K.In) ?_ (keeps_K hk) (Go h1 h2 h λvs us ys zs H s' r r' R' z=>⟨Z.B.kin.keeps R'.fr.keep,q vs us ys zs H s' r r' R' z⟩);rw[Dp h1,ES,k2,Yn];clear h
 induction xs with
 | nil=>rfl
 | cons x r ih=>simp
theorem O4{o:Expr}{name:W5}{apos pos:Yt}{ov:WO}{ks:List (Nat×E)}{es:List E}{xs:List Expr}{kws:List Xg}(h1:CP k sc es xs=true)(h2:JA k sc ks kws=true)(hl:(apos.endLine==pos.line)=true)(hn:xs.length+kws.length<20) :
 methodCall o name apos pos env ov (xs.length+kws.length) (backTo pos (starEach xs env)) (backToKw pos (keywordEach kws env))=(do
  let (f,first) <- holding [ov] (getMethod ov name (do return (<- importBound o env).getD true))
  callWith pos f first (backTo pos (starEach xs env)) (backToKw pos (keywordEach kws env))):=by
 refine DN (Jn (env:=env) (pos:=pos) h2) λk1 k2 k3=>?_;have hf:methodCallForm (xs.length+kws.length) (backTo pos (starEach xs env)) (backToKw pos (keywordEach kws env))=true:=by
  unfold methodCallForm;rw[k1,Dp h1,ES];have:(xs.map λx=>(false,eval x env)).all (λx=>!x.1)=true:=by simp
  rw[this,Zx,Zx,decide_eq_true_eq];split
  ·exact Nat.lt_trans ‹xs.length+kws.length<20› (by decide)
  ·exact Wt (Nat.succ_lt_succ ‹xs.length+kws.length<20›) (by decide)
 unfold methodCall;rw[hf];unfold calleeOf methodCallPos;rw[hl];rfl
end
end
section
variable(WH:Wm)(w:WW)(K:Xb)(k:Ck)(C:CB)
def SE(e:E):Prop:=∀A env c m κ sc ρ,Ev WH w K k C A c env κ sc->BR ρ m->∀x H s Q Er,Be k sc e x=true->Aa WH w c m H s->wE C κ e ρ H Q->wpAny (model WH w) A (eval x env) (PE WH w c m Q) Er s
def ST(t:T):Prop:=∀A env c m κ sc ρ,Ev WH w K k C A c env κ sc->BR ρ m->∀x H s Q Er,QK k sc t x=true->Aa WH w c m H s->wT C κ t ρ H Q->wpAny (model WH w) A (isTrue x env (eval x env)) (PB WH w c m Q) Er s
end
section
variable{WH:Wm}{w:WW}{A:XG}{env:Zp}{c:Cx}{m:W5->Option WO}{κ:Kp}{sc:XB}{K:Xb}{k:Ck}{C:CB}{ρ:As}{e a b:E}{t:T}{x:Expr}{H:MH}{s:WQ}{Q:V->MH->Prop}{Er:WO->WQ->Prop}
theorem SE.go(i:SE WH w K k C e)(Z:Ev WH w K k C A c env κ sc)(l:BR ρ m)(o:Be k sc e x=true)(R:Aa WH w c m H s)(h:wE C κ e ρ H Q):wpAny (model WH w) A (eval x env) (PE WH w c m Q) Er s:=i _ _ _ _ _ _ _ Z l _ _ _ _ _ o R h
theorem th{B:Type}{p:aC B}{P P':B->WQ->Prop}(i:wpAny (model WH w) A p P Er s)(q:∀b s',P b s'->P' b s'):wpAny (model WH w) A p P' Er s:=XR i q λU U e=>e
theorem D0{p:aC WO}{P:WO->WQ->Prop}(i:wpAny (model WH w) A p (PE WH w c m Q) Er s)(q:∀v y H' s',VR v y->Aa WH w c m H' s'->Q v H'->P y s'):wpAny (model WH w) A p P Er s :=
 XR i (λU U ⟨_,_,r,R,h⟩=>q _ _ _ _ r R h) λU U e=>e
theorem O5{p:aC Bool}{Q:Bool->MH->Prop}{P:Bool->WQ->Prop}(i:wpAny (model WH w) A p (PB WH w c m Q) Er s)(q:∀b H' s',Aa WH w c m H' s'->Q b H'->P b s'):wpAny (model WH w) A p P Er s :=
 XR i (λU U ⟨_,R,h⟩=>q _ _ _ R h) λU U e=>e
theorem LD{p:aC (List WO)}{Q:List V->MH->Prop}{P:List WO->WQ->Prop}(i:wpAny (model WH w) A p (PEs WH w c m Q) Er s)(q:∀vs ys H' s',A2 VR vs ys->Aa WH w c m H' s'->Q vs H'->P ys s'):wpAny (model WH w) A p P Er s :=
 XR i (λU U ⟨_,_,r,R,h⟩=>q _ _ _ _ r R h) λU U e=>e
theorem e_none:SE WH w K k C .none:=λA env c m κ sc ρ Z l x H s Q Er o R h=>by
 refine AU λGG hG=>?_;refine Az (an o) λo1 o2=>?_;refine Fu (AP o1) λk' n p z=>?_;obtain rfl:=z;cases eq_of_beq o2
 refine hG ?_;clear hG GG;exact λU U U=>PE.n R h
theorem e_bool{b:Bool}:SE WH w K k C (.bool b):=λA env c m κ sc ρ Z l x H s Q Er o R h=>by
 refine AU λGG hG=>?_;refine Az (an o) λo1 o2=>?_;refine Fu (AP o1) λk' n p z=>?_;obtain rfl:=z;cases(eq_of_beq o2:k'=_)
 refine hG ?_;clear hG GG;exact λU U U=>PE.b R h
theorem e_int{i:Int}:SE WH w K k C (.int i):=λA env c m κ sc ρ Z l x H s Q Er o R h=>by
 refine AU λGG hG=>?_;refine Az (an o) λo1 o2=>?_;refine Fu (AP o1) λk' n p z=>?_;obtain rfl:=z;cases(eq_of_beq o2:k'=_)
 refine hG ?_;clear hG GG;exact wpAny_Constant_int (PE.i R h)
theorem e_neg{n:Nat}:SE WH w K k C (.neg n):=λA env c m κ sc ρ Z l x H s Q Er o R h=>by
 refine AU λGG hG=>?_;refine DN (NE o) λo1 o3 o2=>?_;clear o;refine HI (AP o1) λy p z=>?_;obtain rfl:=z;refine Fu (AP (x:=y) o3) λk' n' p' z=>?_;obtain rfl:=z;cases(eq_of_beq o2:k'=_)
 refine hG ?_;clear hG GG;exact UnaryOp_ (wpAny_Constant_int (PyProof.Rows.neg_int ⟨_,_,.int _ _,(R.tok _).tok _,h⟩))
theorem QL{α:Type}{o:Option α}{K:α->Prop}(h:op o K):∃a,o=some a/\K a:=by
 cases o with
 | none=>exact h.elim
 | some a=>exact⟨a,rfl,h⟩
theorem e_var{y:Nat}:SE WH w K k C (.var y):=λA env c m κ sc ρ Z l x H s Q Er o R h=>by
 obtain⟨⟨p,rfl⟩,o'⟩:=DK o;refine Aj (QL h) λv g q=>?_;exact s_var Z.O o' l R g q
theorem e_cvar{y:Nat}:SE WH w K k C (.cvar y):=λA env c m κ sc ρ Z l x H s Q Er o R h=>by
 refine Aj (QL h) λa g z=>?_;refine Aj z λv hc q=>?_;rcases boP o with o|o<;>obtain⟨⟨p,rfl⟩,o'⟩:=DK o
 ·exact RC Z.O (.inl o') R g hc q
 ·exact RC Z.O (.inr o') R g hc q
theorem e_attr{n:Nat}(i:SE WH w K k C e):SE WH w K k C (.attr e n):=λA env c m κ sc ρ Z l x H s Q Er o R h=>by
 refine AU λGG hG=>?_;refine Nk (QJ o) λo1 o2 o3 o4 o5=>?_;clear o;refine Fu (AP o1) λov z p u=>?_;obtain rfl:=u;cases(eq_of_beq o2:z=_)
 refine hG ?_;clear hG GG;refine Attribute_any_ (D0 (i.go Z l o5 R h) λv y H s r R' q=>RF Z.F Z.B.kin o3 R' r q) ?_
 show(do
  let o' <- attributeBase ov (nm n) env (eval ov env)
  standAt p.atName
  let r <- holding [o'] (getAttr o' (nm n) true)
  letTemporaryGo ov o' r
  pure r)=_
 exact(O3 (o:=ov) o4)▸rfl
theorem e_not(i:SE WH w K k C e):SE WH w K k C (.not e):=λA env c m κ sc ρ Z l x H s Q Er o R h=>by
 refine Az (an o) λo1 o2=>?_;refine HI (AP o1) λy p z=>?_;obtain rfl:=z;exact UnaryOp_ (D0 (i.go Z l o2 R h) λv y H s r R' q=>not_of (O5 (IY R' r q) λb H s UJ UY=>PE.b UJ UY))
theorem e_ite(it:ST WH w K k C t)(ia:SE WH w K k C a)(ib:SE WH w K k C b):SE WH w K k C (.ite t a b):=λA env c m κ sc ρ Z l x H s Q Er o R h=>by
 refine AU λGG hG=>?_;refine Ij (Jl o) λo1 o2 o3 o4=>?_;clear o;refine GJ (AP o1) λy z u p r=>?_;obtain rfl:=r;refine hG ?_;clear hG GG;refine wpAny_IfExp (O5 (it _ _ _ _ _ _ _ Z l _ _ _ _ _ o2 R h) λv H s R' q=>?_);cases v
 ·exact ib.go Z l o4 R' q
 ·exact ia.go Z l o3 R' q
theorem e_cmp{op:CmpOp}(ia:SE WH w K k C a)(ib:SE WH w K k C b):SE WH w K k C (.cmp op a b):=λA env c m κ sc ρ Z l x H s Q Er o R h=>by
 refine AU λGG hG=>?_;refine Ij (Jl o) λo1 o2 o3 o4=>?_;clear o;refine GJ (AP o1) λy cs xs p u=>?_;obtain rfl:=u;refine Aj (Bv (l:=cs) o2) λop' u e=>?_;obtain rfl:=u;cases eq_of_beq e
 refine Aj (Bv (l:=xs) o4) λz u o4=>?_;obtain rfl:=u;refine Az (an o4) λo4 o5=>?_;refine hG ?_;clear hG GG;exact wpAny_Compare1 (D0 (ia.go Z l o3 R h) λv y H s r R' h'=>D0 (ib.go Z l o4 R' h') λv' y' H' s' r' UJ q=>Tu Z.B.mods Z.un UJ r r' q) (by rwa [XC] at o5)
theorem e_bin{op:YI}(ia:SE WH w K k C a)(ib:SE WH w K k C b):SE WH w K k C (.bin op a b):=λA env c m κ sc ρ Z l x H s Q Er o R h=>by
 refine AU λGG hG=>?_;refine Ij (Jl o) λo1 o2 o3 o4=>?_;clear o;refine GJ (AP o1) λy op' z p u=>?_;obtain rfl:=u;cases(eq_of_beq o2:op=op')
 refine hG ?_;clear hG GG;exact wpAny_BinOp (D0 (ia.go Z l o3 R h) λv y H s r R' h'=>D0 (ib.go Z l o4 R' h') λv' y' H' s' r' UJ q=>s_bin UJ r r' q)
end
section
variable{WH:Wm}{w:WW}{A:XG}{env:Zp}{c:Cx}{m:W5->Option WO}{κ:Kp}{sc:XB}{K:Xb}{k:Ck}{C:CB}{ρ:As}{e a b:E}{t:T}{H:MH}{s:WQ}{Er:WO->WQ->Prop}
section
theorem SH(Z:Ev WH w K k C A c env κ sc)(l:BR ρ m):∀{es:List E},(∀e∈es,SE WH w K k C e)->∀{xs:List Expr} {H:MH} {s:WQ} {Q:List V->MH->Prop},CP k sc es xs=true->Aa WH w c m H s->Nb C κ es ρ H Q->wpAny (model WH w) A (spliced (xs.map λx=>(false,eval x env))) (PEs WH w c m Q) Er s
 | [],_,[],H,s,Q,o,R,h=>spliced_nil ⟨[],H,.nil,R,h⟩
 | e::es,ih,x::xs,H,s,Q,o,R,h=>by
  refine Az (an (show((IZ x&&Be k sc e x)&&CP k sc es xs)=true from o)) λo1 o2=>?_
  exact spliced_cons (D0 ((ih e (.head _)).go Z l (an o1).2 R h) λv y H s r R' q=>LD (SH Z l (λe h=>ih e (.tail _ h)) o2 R' q) λvs ys UR UM UU UJ UY=>⟨v::vs,UR,.cons r UU,UJ,UY⟩)
 | [],_,_::_,_,_,_,o,_,_=>zT (show false=true from o)
 | _::_,_,[],_,_,_,o,_,_=>nomatch (show false=true from o)
theorem sKs(Z:Ev WH w K k C A c env κ sc)(l:BR ρ m){pos:Yt}:∀{ks:List (Nat×E)},(∀p∈ks,SE WH w K k C p.2)->∀{kws:List Xg} {H:MH} {s:WQ} {Q:As->MH->Prop},JA k sc ks kws=true->Aa WH w c m H s->wKs C κ ks ρ H Q->wpAny (model WH w) A (evalAll ((backToKw pos (keywordEach kws env)).map (·.2))) (PKs WH w c m kws Q) Er s
 | [],_,[],H,s,Q,o,R,h=>XX ⟨[],H,.nil,R,h⟩
 | (n,e)::ks,ih,⟨some z,x,pp⟩::kws,H,s,Q,o,R,h=>by
  refine DN (NE (show((z==nm n&&Be k sc e x)&&JA k sc ks kws)=true from o)) λo3 o4 o2=>?_
  refine wpAny_evalAll_cons (x:=do let v <- eval x env;standAt pos;pure v) (Wi (D0 ((ih (n,e) (.head _)).go Z l o4 R h) λv y H s r R' q=>Wi (ZF (W6 ?_))))
  exact th (sKs Z l (λp h=>ih p (.tail _ h)) o2 R' q) λys UM ⟨vs,UR,UU,UJ,UY⟩=>⟨(n,v)::vs,UR,.cons ⟨eq_of_beq o3,r⟩ UU,UJ,UY⟩
 | [],_,_::_,_,_,_,o,_,_=>zT (show false=true from o)
 | _::_,_,[],_,_,_,o,_,_=>nomatch (show false=true from o)
 | _::_,_,⟨WN,_,_⟩::_,_,_,_,o,_,_=>zT (show false=true from o)
theorem sTs(Z:Ev WH w K k C A c env κ sc)(l:BR ρ m){pos:Yt}{t:aC WO}:∀{es:List T},(∀e∈es,ST WH w K k C e)->∀{xs:List Expr} {H:MH} {s:WQ} {Q:Bool->MH->Prop},HJ k sc es xs=true->Aa WH w c m H s->SQ C κ es ρ H Q->wpAny (model WH w) A (isTrue (.BoolOp .And xs pos) env t) (PB WH w c m Q) Er s
 | [],_,[],H,s,Q,o,R,h=>isTrue_and_nil ⟨H,R,h⟩
 | e::es,ih,x::xs,H,s,Q,o,R,h=>by
  refine Az (an (show(QK k sc e x&&HJ k sc es xs)=true from o)) λo1 o2=>?_
  refine isTrue_and (O5 (ih e (.head _) _ _ _ _ _ _ _ Z l _ _ _ _ _ o1 R h) λb H s R' q=>?_);cases b
  ·exact⟨H,R',q⟩
  ·exact sTs Z l (λe h=>ih e (.tail _ h)) o2 R' q
 | [],_,_::_,_,_,_,o,_,_=>zT (show false=true from o)
 | _::_,_,[],_,_,_,o,_,_=>nomatch (show false=true from o)
theorem sTo(Z:Ev WH w K k C A c env κ sc)(l:BR ρ m){pos:Yt}{t:aC WO}:∀{es:List T},(∀e∈es,ST WH w K k C e)->∀{xs:List Expr} {H:MH} {s:WQ} {Q:Bool->MH->Prop},HJ k sc es xs=true->Aa WH w c m H s->wTo C κ es ρ H Q->wpAny (model WH w) A (isTrue (.BoolOp .Or xs pos) env t) (PB WH w c m Q) Er s
 | [],_,[],H,s,Q,o,R,h=>isTrue_or_nil ⟨H,R,h⟩
 | e::es,ih,x::xs,H,s,Q,o,R,h=>by
  refine Az (an (show(QK k sc e x&&HJ k sc es xs)=true from o)) λo1 o2=>?_
  refine isTrue_or (O5 (ih e (.head _) _ _ _ _ _ _ _ Z l _ _ _ _ _ o1 R h) λb H s R' q=>?_);cases b
  ·exact sTo Z l (λe h=>ih e (.tail _ h)) o2 R' q
  ·exact⟨H,R',q⟩
 | [],_,_::_,_,_,_,o,_,_=>zT (show false=true from o)
 | _::_,_,[],_,_,_,o,_,_=>nomatch (show false=true from o)
theorem sAnd(Z:Ev WH w K k C A c env κ sc)(l:BR ρ m){pos:Yt}:∀{es:List E},(∀e∈es,SE WH w K k C e)->∀{xs:List Expr} {H:MH} {s:WQ} {Q:V->MH->Prop},CP k sc es xs=true->Aa WH w c m H s->SR C κ es ρ H Q->wpAny (model WH w) A (eval (.BoolOp .And xs pos) env) (PE WH w c m Q) Er s
 | [],_,_,_,_,_,_,_,h=>h.elim
 | e::es,ih,x::xs,H,s,Q,o,R,h=>by
  refine Az (an (show((IZ x&&Be k sc e x)&&CP k sc es xs)=true from o)) λo1 o2=>?_
  match es,xs,ih,o2,h with
  | [],[],ih,_,h=>exact BoolOp_one ((ih e (.head _)).go Z l (an o1).2 R h)
  | e'::es,x'::xs,ih,o2,h =>
   refine BoolOp_and (D0 ((ih e (.head _)).go Z l (an o1).2 R h) λv y H s r R' q=>?_);refine O5 (IY (Q:=λb H=>Jh b (SR C κ (e'::es) ρ H Q) (Q v H)) R' r q) λb UR UM UJ UY=>?_;cases b
   ·exact⟨v,_,r,UJ,UY⟩
   ·exact sAnd Z l (λe h=>ih e (.tail _ h)) o2 UJ UY
 | _::_,_,[],_,_,_,o,_,_=>zT (show false=true from o)
theorem sOr(Z:Ev WH w K k C A c env κ sc)(l:BR ρ m){pos:Yt}:∀{es:List E},(∀e∈es,SE WH w K k C e)->∀{xs:List Expr} {H:MH} {s:WQ} {Q:V->MH->Prop},CP k sc es xs=true->Aa WH w c m H s->wOr C κ es ρ H Q->wpAny (model WH w) A (eval (.BoolOp .Or xs pos) env) (PE WH w c m Q) Er s
 | [],_,_,_,_,_,_,_,h=>h.elim
 | e::es,ih,x::xs,H,s,Q,o,R,h=>by
  refine Az (an (show((IZ x&&Be k sc e x)&&CP k sc es xs)=true from o)) λo1 o2=>?_
  match es,xs,ih,o2,h with
  | [],[],ih,_,h=>exact BoolOp_one ((ih e (.head _)).go Z l (an o1).2 R h)
  | e'::es,x'::xs,ih,o2,h =>
   refine BoolOp_or (D0 ((ih e (.head _)).go Z l (an o1).2 R h) λv y H s r R' q=>?_);refine O5 (IY (Q:=λb H=>Jh b (Q v H) (wOr C κ (e'::es) ρ H Q)) R' r q) λb UR UM UJ UY=>?_;cases b
   ·exact sOr Z l (λe h=>ih e (.tail _ h)) o2 UJ UY
   ·exact⟨v,_,r,UJ,UY⟩
 | _::_,_,[],_,_,_,o,_,_=>zT (show false=true from o)
theorem e_and{es:List E}(ih:∀e∈es,SE WH w K k C e):SE WH w K k C (.and es):=λA env c m κ sc ρ Z l x H s Q Er o R h=>by
 refine Az (an o) λo1 o2=>?_;refine HI (AP o1) λxs p z=>?_;obtain rfl:=z;exact sAnd Z l ih o2 R h
theorem e_or{es:List E}(ih:∀e∈es,SE WH w K k C e):SE WH w K k C (.or es):=λA env c m κ sc ρ Z l x H s Q Er o R h=>by
 refine Az (an o) λo1 o2=>?_;refine HI (AP o1) λxs p z=>?_;obtain rfl:=z;exact sOr Z l ih o2 R h
theorem t_and{es:List T}(ih:∀e∈es,ST WH w K k C e):ST WH w K k C (.and es):=λA env c m κ sc ρ Z l x H s Q Er o R h=>by
 refine Az (an o) λo1 o2=>?_;refine HI (AP o1) λxs p z=>?_;obtain rfl:=z;exact sTs Z l ih o2 R h
theorem t_or{es:List T}(ih:∀e∈es,ST WH w K k C e):ST WH w K k C (.or es):=λA env c m κ sc ρ Z l x H s Q Er o R h=>by
 refine Az (an o) λo1 o2=>?_;refine HI (AP o1) λxs p z=>?_;obtain rfl:=z;exact sTo Z l ih o2 R h
theorem t_not{t:T}(i:ST WH w K k C t):ST WH w K k C (.not t):=λA env c m κ sc ρ Z l x H s Q Er o R h=>by
 refine Az (an o) λo1 o2=>?_;refine HI (AP o1) λy p z=>?_;obtain rfl:=z;exact isTrue_not (O5 (i _ _ _ _ _ _ _ Z l _ _ _ _ _ o2 R h) λb H s R' q=>⟨H,R',q⟩)
end
section
variable{Q:V->MH->Prop}
theorem ET{ov:Expr}{z:W5}{ap p:Yt}{es:List E}{ks:List (Nat×E)}{xs:List Expr}{kws:List Xg}(o1:C5 ov=true)(o2:(ap.endLine==p.line)=true)(o3:xs.length+kws.length<20)(o5:CP k sc es xs=true)(o6:JA k sc ks kws=true) :
 eval (.Call (.Attribute ov z ap) xs kws p) env=(do
  let ov' <- eval ov env
  standAt ap.atName
  let (f,first) <- holding [ov'] (getMethod ov' z (do return (<- importBound ov env).getD true))
  callWith p f first (backTo p (starEach xs env)) (backToKw p (keywordEach kws env))):=by
 show(do
  let ov' <- attributeBase ov z env (eval ov env)
  standAt ap.atName
  methodCall ov z ap p env ov' (xs.length+kws.length) (backTo p (starEach xs env)) (backToKw p (keywordEach kws env)))=_
 rw[O3 o1];simp only[O4 o5 o6 o2 o3]
theorem O6{f:WO}{first:List WO}{p:Yt}{es:List E}{ks:List (Nat×E)}{xs:List Expr}{kws:List Xg}{P:WO->WQ->Prop}{G:List V->As->MH->Prop}(Z:Ev WH w K k C A c env κ sc)(l:BR ρ m)(ihs:∀e∈es,SE WH w K k C e)(ihk:∀p∈ks,SE WH w K k C p.2)(hk:keepIn K f=true)(o5:CP k sc es xs=true)(o6:JA k sc ks kws=true)
 (R:Aa WH w c m H s)(h:Nb C κ es ρ H λvs H=>wKs C κ ks ρ H λus H=>G vs us H)(q:∀vs us ys zs H s',A2 VR vs ys->A2 KR us zs->Aa WH w c m H s'->G vs us H->wpAny (model WH w) A (Xp f (first++ys) zs) P Er s') :
 wpAny (model WH w) A (callWith p f first (backTo p (starEach xs env)) (backToKw p (keywordEach kws env))) P Er s :=
 F0 Z hk o5 o6 (LD (SH Z l ihs o5 R h) λvs ys UR UM UU UJ Uc=>⟨vs,UR,UU,UJ,λUS UQ=>sKs Z l ihk o6 UQ Uc⟩) q
theorem e_meth{n:Nat}{es:List E}{ks:List (Nat×E)}(i:SE WH w K k C e)(ihs:∀e∈es,SE WH w K k C e)(ihk:∀p∈ks,SE WH w K k C p.2):SE WH w K k C (.meth e n es ks):=λA env c m κ sc ρ Z l x H s Q Er o R h=>by
 refine AU λGG hG=>?_;refine x09 (an9 o) λo1 o2 o3 o4 o5 o6 o7 o8 o9=>?_;clear o;refine GJ (AP o1) λf xs kws p u=>?_;obtain rfl:=u;refine Fu (AP (x:=f) o2) λov z ap u=>?_;obtain rfl:=u;cases(eq_of_beq o3:z=_)
 refine hG ?_;clear hG GG;refine Xh (D0 (i.go Z l o7 R h) λv y H s r R' q=>?_) (ET (ov:=ov) o4 o5 (of_decide_eq_true o6) o8 o9);refine KY Z.F Z.B.kin R' r q λf hf z=>?_;exact O6 (G:=λvs us H=>C f (v::vs) us H _) Z l ihs ihk hf o8 o9 R' z λvs us ys zs UR UM UU UW UJ Uc=>Z.call UJ hf (.cons r UU) UW Uc
theorem e_fn{f:Nat}{es:List E}{ks:List (Nat×E)}(ihs:∀e∈es,SE WH w K k C e)(ihk:∀p∈ks,SE WH w K k C p.2):SE WH w K k C (.fn f es ks):=λA env c m κ sc ρ Z l x H s Q Er o R h=>by
 refine AU λGG hG=>?_;refine Nk (QJ o) λo1 o2 o3 o8 o9=>?_;clear o;refine GJ (AP o1) λy xs kws p z=>?_;obtain rfl:=z;obtain⟨⟨p',e⟩,o4⟩:=Ia (x:=y) o2;refine hG ?_;clear hG GG;subst e;refine YW (Z.glF R o4 o3 ?_);exact O6 (G:=λvs us H=>C f vs us H _) Z l ihs ihk (Z.B.fnD f o3).2 o8 o9 R h λvs us ys zs UR UM UU UW UJ Uc=>Z.call UJ (Z.B.fnD f o3).2 UU UW Uc
theorem e_new{cl:Cl}{es:List E}{ks:List (Nat×E)}(ihs:∀e∈es,SE WH w K k C e)(ihk:∀p∈ks,SE WH w K k C p.2):SE WH w K k C (.new cl es ks):=λA env c m κ sc ρ Z l x H s Q Er o R h=>by
 refine AU λGG hG=>?_;refine Nk (QJ o) λo1 o2 o3 o8 o9=>?_;clear o;refine GJ (AP o1) λy xs kws p z=>?_;obtain rfl:=z;obtain⟨⟨p',e⟩,o4⟩:=Ia (x:=y) o2;refine hG ?_;clear hG GG;subst e;refine YW (Z.glC R o4 o3 ?_);exact O6 (G:=λvs us H=>EL C cl vs us H _) Z l ihs ihk (Z.B.clD cl o3).2 o8 o9 R h λvs us ys zs UR UM UU UW UJ Uc=>Z.make UJ o3 UU UW Uc
theorem Ae{α:Type}{l:List α}(h:l.isEmpty=true):l=[]:=List.isEmpty_iff.mp h
theorem e_via{cl:Cl}{n f:Nat}{es:List E}(ihs:∀e∈es,SE WH w K k C e):SE WH w K k C (.via cl n f es):=λA env c m κ sc ρ Z l x H s Q Er o R h=>by
 refine AU λGG hG=>?_;obtain⟨o1,o2,o3,o4,o5,o6,o7,o8,o9,o10⟩:=an10 o;clear o;refine GJ (AP o1) λy xs kws p v=>?_;obtain rfl:=v;refine Fu (AP (x:=y) o2) λov z ap v=>?_;obtain rfl:=v;cases(eq_of_beq o4:z=_)
 refine Az (Ia (x:=ov) o3) λv o11=>?_;refine CT v λp' e=>?_;refine hG ?_;clear hG GG;subst e;cases(Ae o10:kws=[])
 refine Nk (Z.B.via cl n f o6) λt1 t2 t3 t4 t5=>?_;refine Xh (Z.glC R o11 o5 (method_of_cls R.fr Z.B.kin t4 (cls_val R.fr Z.B.kin t1 t2 t3 rfl ?_))) (ET (k:=k) (ks:=[]) (ov:=.Name (k.clN cl) p') rfl o7 (of_decide_eq_true o8) o9 rfl);exact O6 (ks:=[]) (kws:=[]) (G:=λvs us H=>C f vs us H _) Z l ihs (λU h=>nomatch h) t5 o9 rfl (R.tok _) h λvs us ys zs UR UM UU UW UJ Uc=>Z.call UJ t5 UU UW Uc
end
section
variable{Q:V->MH->Prop}
theorem CQ{D:Nat->Nat}{WI:BW}{x:Nat}{ob:Yx}{o:O}{h':Xy}{t:Nat}(R:Aa WH w c m H s)(L:FZ WH w c.UD D WI c.X H)(F':Fr c.UD c.L h' m)(N':Zh c.UD c.L h' ((x,ob)::WI))
 (n1:x∉WI.map (·.1))(ho:OB WH w o ob)(q:alloc H o Q):PE WH w c m Q (.ref x) {s with heap:=h',toks:=t} :=
 ⟨_,_,.ref x,R.heap F' N' (L.alloc n1 ho),q _ (L.none n1 (N' (x,_) (.head _)).2.2)⟩
theorem Ka{D:Nat->Nat}{WI:BW}{a:Nat}{o o':O}{ob ob':Yx}{h':Xy}{t:Nat}(R:Aa WH w c m H s)(N:Zh c.UD c.L s.heap WI)(L:FZ WH w c.UD D WI c.X H)(ha:H a=some o)(hm:(a,ob)∈WI)
 (hs:YO a s.heap h')(ho:h'.get? a=some ob')(h:OB WH w o' ob'):Aa WH w c m (H.put a o') {s with heap:=h',toks:=t}:=by
 have U:=MK (o':=ob') L.nd hm;refine AU λGG hG=>?_;refine SD U.split λJS post e1 e2 u1 u2=>?_;refine hG ?_;clear hG GG;have hh:=N _ hm;have N':Zh c.UD c.L h' (O1 a ob' WI):=by
  rw[e2];rw[e1] at N;exact news_set N u1 u2 hs ho
 exact R.heap (R.fr.change hs hh.2.1 hh.2.2) N' (L.change ha hm h)
theorem RJ{o:O}{vs:List V}{ys:List WO}(R:Aa WH w c m H s)(r:A2 VR vs ys)(ho:∀ob,(∃xs n,ob=FV xs n/\A2 VR vs xs)->OB WH w o ob)(hle:vs.length<=1000)(q:alloc H o Q):wpAny (model WH w) A (newList ys) (PE WH w c m Q) Er s:=by
 obtain⟨D,WI,N,L⟩:=R.led;have hlen:=r.length;exact newList_N R.fr N (λh' F' N'=>CQ (t:=s.toks) R L F' N' (Bf N (lt_size N)) (ho _ ⟨ys,_,rfl,r⟩) q) (by refine Xi.symm▸?_;exact ozA ‹_› ‹_›)
theorem s_tup{vs:List V}{ys:List WO}(R:Aa WH w c m H s)(r:A2 VR vs ys)(hle:vs.length<=1000)(q:alloc H (.tup vs) Q):wpAny (model WH w) A (newTuple ys) (PE WH w c m Q) Er s:=by
 obtain⟨D,WI,N,L⟩:=R.led;have hlen:=r.length;exact newTuple_N R.fr N (λh' F' N'=>CQ (o:=.tup vs) (t:=s.toks) R L F' N' (Bf N (lt_size N)) ⟨ys,rfl,r⟩ q) (by refine Xi.symm▸?_;exact ozA ‹_› ‹_›)
theorem e_tup{es:List E}(ih:∀e∈es,SE WH w K k C e):SE WH w K k C (.tup es):=λA env c m κ sc ρ Z l x H s Q Er o R h=>by
 refine Az (an o) λo1 o2=>?_;refine Fu (AP o1) λxs n p z=>?_;obtain rfl:=z;refine Tuple_ ?_;rw[Dp (xs:=xs) o2,ES];exact LD (SH Z l ih o2 R h) λvs ys H s r R' q=>s_tup R' r q.1 q.2
theorem e_lst{es:List E}(ih:∀e∈es,SE WH w K k C e):SE WH w K k C (.lst es):=λA env c m κ sc ρ Z l x H s Q Er o R h=>by
 refine Az (an o) λo1 o2=>?_;refine HI (AP o1) λxs p y=>?_;obtain rfl:=y;refine List_ ?_;rw[Dp (xs:=xs) o2,ES];exact LD (SH Z l ih o2 R h) λvs ys H s r R' q=>RJ (o:=.list vs) R' r (λU z=>z) q.1 q.2
theorem e_stk:SE WH w K k C .stk:=λA env c m κ sc ρ Z l x H s Q Er o R h=>by
 refine AU λGG hG=>?_;refine Az (an o) λo1 o2=>?_;refine HI (AP o1) λxs p y=>?_;obtain rfl:=y;cases(Ae o2:xs=[])
 refine hG ?_;clear hG GG;exact List_ (spliced_nil (RJ (o:=.stk []) (vs:=[]) R .nil (λU z=>z) (by decide) h))
theorem OD{z:W5}{f:WO}{es:List E}{y:Expr}{xs:List Expr}{p:Yt}{P:WO->WQ->Prop}{G:List V->MH->Prop}(Z:Ev WH w K k C A c env κ sc)(l:BR ρ m)(ihs:∀e∈es,SE WH w K k C e)(hb:(z,f)∈bis)(hk:keeperOf f=pure .machine)(o2:GF sc y z=true)(o5:CP k sc es xs=true)
 (R:Aa WH w c m H s)(h:Nb C κ es ρ H G)(q:∀vs ys H s',A2 VR vs ys->Aa WH w c m H s'->G vs H->wpAny (model WH w) A (Xp f ys) P Er s'):wpAny (model WH w) A (eval (.Call y xs [] p) env) P Er s:=by
 obtain⟨⟨p',e⟩,o4⟩:=Ia o2;subst e;refine YW (Z.glB R hb o4 ?_);refine Yp (P:=λU=>True) (keywords:=backToKw p (keywordEach [] env)) ?_ (λh U=>⟨.machine,.inr (.inl rfl),ZG hk⟩) (Go (ks:=[]) (kws:=[]) (Q:=λvs us H=>us=[]/\G vs H) o5 rfl (LD (SH Z l ihs o5 R h) λvs ys H UH r R z=>⟨vs,H,r,R,λs' R'=>XX ⟨[],_,.nil,R',rfl,z⟩⟩) λvs us ys zs H s' r r' R' z=>⟨trivial,?_⟩)
 ·rw[Dp o5,ES];clear h o5
  induction xs with
  | nil=>rfl
  | cons x r ih=>simpa using ih
 ·refine AU λGG hG=>?_;obtain⟨rfl,z⟩:=z;cases r'
  refine hG ?_;exact q vs ys H s' r R' z
end
section
variable{Q:V->MH->Prop}
theorem OE{e:E}{sc:XB}{xs:List Expr}(h:(EE xs λy=>IZ y&&Be k sc e y)=true):CP k sc [e] xs=true:=by
 refine Aj (Bv h) λy z h=>?_;obtain rfl:=z;exact W8.mpr ⟨h,rfl⟩
theorem RK{a b:E}{sc:XB}{xs:List Expr}(h:(OC xs λy z=>(IZ y&&Be k sc a y)&&(IZ z&&Be k sc b z))=true):CP k sc [a,b] xs=true:=by
 refine Ly (Jm h) λy z x h=>?_;obtain rfl:=x;exact W8.mpr ⟨(an h).1,W8.mpr ⟨(an h).2,rfl⟩⟩
def g1(G:V->MH->Prop)(vs:List V)(H:MH):Prop:=match vs with
 | [v]=>G v H
 | _=>False
def g2(G:V->V->MH->Prop)(vs:List V)(H:MH):Prop:=match vs with
 | [v,u]=>G v u H
 | _=>False
theorem g1_of{vs:List V}{G:V->MH->Prop}(h:g1 G vs H):∃v,vs=[v]/\G v H:=by
 match vs,h with
 | [v],h=>exact⟨_,rfl,h⟩
theorem g2_of{vs:List V}{G:V->V->MH->Prop}(h:g2 G vs H):∃v u,vs=[v,u]/\G v u H:=by
 match vs,h with
 | [v,u],h=>exact⟨_,_,rfl,h⟩
theorem A2.one{vs:List V}{ys:List WO}{G:V->MH->Prop}(r:A2 VR vs ys)(h:g1 G vs H):∃v y,ys=[y]/\VR v y/\G v H:=by
 refine AU λGG hG=>?_;refine Aj (g1_of h) λv z h=>?_;obtain rfl:=z;obtain⟨y,U,rfl,h1,r⟩:=r.tl;refine hG ?_;clear hG GG;cases r.nl
 exact⟨_,_,rfl,h1,h⟩
theorem A2.two{vs:List V}{ys:List WO}{G:V->V->MH->Prop}(r:A2 VR vs ys)(h:g2 G vs H):∃v u y z,ys=[y,z]/\VR v y/\VR u z/\G v u H:=by
 refine AU λGG hG=>?_;refine Ly (g2_of h) λv u x h=>?_;obtain rfl:=x;obtain⟨y,U,rfl,h1,r⟩:=r.tl;obtain⟨z,U,rfl,h2,r⟩:=r.tl;refine hG ?_;clear hG GG;cases r.nl
 exact⟨_,_,_,_,rfl,h1,h2,h⟩
theorem bi1{z:W5}{f:WO}{y:Expr}{xs:List Expr}{kws:List Xg}{p:Yt}{P:WO->WQ->Prop}{G:V->MH->Prop}(Z:Ev WH w K k C A c env κ sc)(l:BR ρ m)(i:SE WH w K k C e)(hb:(z,f)∈bis)(hk:keeperOf f=pure .machine)(o2:GF sc y z=true)(o3:kws.isEmpty=true)(o5:(EE xs λy=>IZ y&&Be k sc e y)=true)
 (R:Aa WH w c m H s)(h:wE C κ e ρ H G)(q:∀v y H s',VR v y->Aa WH w c m H s'->G v H->wpAny (model WH w) A (Xp f [y]) P Er s'):wpAny (model WH w) A (eval (.Call y xs kws p) env) P Er s:=by
 cases Ae o3
 refine OD (es:=[e]) (G:=g1 G) Z l (λe he=>msP he▸i) hb hk o2 (OE o5) R h λvs ys H s' r R' z=>?_;obtain⟨v,y,rfl,r,z⟩:=r.one z;exact q v y H s' r R' z
theorem bi2{z:W5}{f:WO}{y:Expr}{xs:List Expr}{kws:List Xg}{p:Yt}{P:WO->WQ->Prop}{G:V->V->MH->Prop}(Z:Ev WH w K k C A c env κ sc)(l:BR ρ m)(ia:SE WH w K k C a)(ib:SE WH w K k C b)(hb:(z,f)∈bis)(hk:keeperOf f=pure .machine)(o2:GF sc y z=true)(o3:kws.isEmpty=true)(o5:(OC xs λy z=>(IZ y&&Be k sc a y)&&(IZ z&&Be k sc b z))=true)
 (R:Aa WH w c m H s)(h:wE C κ a ρ H λv H=>wE C κ b ρ H λu H=>G v u H)(q:∀v u y z H s',VR v y->VR u z->Aa WH w c m H s'->G v u H->wpAny (model WH w) A (Xp f [y,z]) P Er s'):wpAny (model WH w) A (eval (.Call y xs kws p) env) P Er s:=by
 cases Ae o3
 refine OD (es:=[a,b]) (G:=g2 G) Z l (λe he=>(mcP he).elim (λz=>z▸ia) λhe=>msP he▸ib) hb hk o2 (RK o5) R h λvs ys H s' r R' z=>?_;refine AU λGG hG=>?_;obtain⟨v,u,y,z,rfl,r,r',zz⟩:=r.two z;refine hG ?_;clear hG GG;exact q v u y z H s' r r' R' zz
theorem e_max2(ia:SE WH w K k C a)(ib:SE WH w K k C b):SE WH w K k C (.max2 a b):=λA env c m κ sc ρ Z l x H s Q Er o R h=>by
 refine AU λGG hG=>?_;refine Ij (Jl o) λo1 o2 o3 o4=>?_;refine Az (an o2) λost o2=>?_;clear o;refine GJ (AP o1) λy xs kws p n=>?_;obtain rfl:=n;refine hG ?_;clear hG GG;refine bi2 (y:=y) (xs:=xs) (kws:=kws) Z l ia ib (.tail _ (.head _)) rfl o2 o3 o4 R h λv u y z H s r r' R' q=>?_;refine AU λGG hG=>?_;obtain⟨i,t,rfl,rfl,q⟩:=Bj q r;refine En (Bj q r') λj t' n g q=>?_;obtain rfl:=n;obtain rfl:=g;obtain⟨D,WI,N,L⟩:=R'.led;refine hG ?_;clear hG GG;refine max_two_N (Z.hh ost) R'.fr N λh' tk F' N'=>⟨.int (max i j),H,?_,R'.heap F' N' L,q⟩;exact(mxI (i:=i) (j:=j)).symm▸.int _ _
theorem e_min2(ia:SE WH w K k C a)(ib:SE WH w K k C b):SE WH w K k C (.min2 a b):=λA env c m κ sc ρ Z l x H s Q Er o R h=>by
 refine AU λGG hG=>?_;refine Ij (Jl o) λo1 o2 o3 o4=>?_;refine Az (an o2) λost o2=>?_;clear o;refine GJ (AP o1) λy xs kws p n=>?_;obtain rfl:=n;refine hG ?_;clear hG GG;refine bi2 (y:=y) (xs:=xs) (kws:=kws) Z l ia ib (.tail _ (.tail _ (.head _))) rfl o2 o3 o4 R h λv u y z H s r r' R' q=>?_;refine AU λGG hG=>?_;obtain⟨i,t,rfl,rfl,q⟩:=Bj q r;refine En (Bj q r') λj t' n g q=>?_;obtain rfl:=n;obtain rfl:=g;obtain⟨D,WI,N,L⟩:=R'.led;refine hG ?_;clear hG GG;refine min_two_N (Z.hh ost) R'.fr N λh' tk F' N'=>⟨.int (min i j),H,?_,R'.heap F' N' L,q⟩;exact(mnI (i:=i) (j:=j)).symm▸.int _ _
theorem e_len(i:SE WH w K k C e):SE WH w K k C (.len e):=λA env c m κ sc ρ Z l x H s Q Er o R h=>by
 refine AU λGG hG=>?_;refine Ij (Jl o) λo1 o2 o3 o4=>?_;clear o;refine GJ (AP o1) λy xs kws p z=>?_;obtain rfl:=z;refine hG ?_;clear hG GG;refine bi1 (y:=y) (xs:=xs) (kws:=kws) Z l i (.head _) rfl o2 o3 o4 R h λv y H s r R' q=>?_;refine AU λGG hG=>?_;refine FS (Bl q r) λa U z u=>?_;obtain rfl:=z;refine Aj u λob ho t=>?_;refine Aj t λn hn q=>?_;refine hG ?_;clear hG GG;have lst:∀{vs:List V},H a=some (.list vs)\/H a=some (.stk vs)->vs.length<=1000->Q (.int vs.length) H->wpAny (model WH w) A (Xp (.builtin "len") [.ref a]) (PE WH w c m Q) Er s:=λ{vs} ho hl q=>by
  refine Aj (R'.lst ho) λxs h1 h2=>?_;have:=h2.length;refine call_len_list h1 (by refine Wr.symm▸?_;exact ozB ‹_› ‹_›) ⟨.int vs.length,H,?_,R'.tok _,q⟩
  exact this▸Wr▸.int _ _
 cases hn with
 | list hl=>exact lst (.inl ho) hl q
 | stk hl=>exact lst (.inr ho) hl q
 | @dict es g hl =>
  refine AU λGG hG=>?_;refine Jf (R'.pl ho rfl) λD WI ob N L h1 j=>?_;refine Aj j λkvs h2 h3=>?_;refine hG ?_;clear hG GG;have:=h3.length;have hm:=Z.B.mods;have hne:(a==sysModules)=false:=beq_eq_false_iff_ne.mpr λe=>by replace hm:=(N.fresh h1)▸e▸hm;exact zT hm
  refine call_len_dict hne (kda_dict N h1 h2.is) (by omega) ⟨.int es.length,H,?_,R'.tok _,q⟩
  exact this▸.int _ _
theorem e_max1(i:SE WH w K k C e):SE WH w K k C (.max1 e):=λA env c m κ sc ρ Z l x H s Q Er o R h=>by
 refine AU λGG hG=>?_;refine Ij (Jl o) λo1 o2 o3 o4=>?_;refine Az (an o2) λost o2=>?_;clear o;refine GJ (AP o1) λy xs kws p z=>?_;obtain rfl:=z;refine hG ?_;clear hG GG;refine bi1 (y:=y) (xs:=xs) (kws:=kws) Z l i (.tail _ (.head _)) rfl o2 o3 o4 R h λv y H s r R' q=>?_;refine AU λGG hG=>?_;refine FS (Bl q r) λa U z u=>?_;obtain rfl:=z;refine SV u λvs is ho hle hi hne q=>?_;refine Aj (R'.lst (.inl ho)) λxs h1 h2=>?_;obtain⟨D,WI,N,L⟩:=R'.led;refine hG ?_;clear hG GG;exact max_list_N (Z.hh ost) R'.fr N (vs:=xs) h1 (Jk h2 hi) (Yw.mpr hne) λh' M t tk F' N' hM hm=>⟨.int M,H,.int _ _,R'.heap F' N' L,q M hM hm⟩
theorem TE{es:List E}(ih:∀e∈es,SE WH w K k C e):SE WH w K k C (.range es):=λA env c m κ sc ρ Z l x H s Q Er o R h=>by
 refine AU λGG hG=>?_;refine Ij (Jl o) λo1 o2 o3 o4=>?_;clear o;refine GJ (AP o1) λy xs kws p v=>?_;obtain rfl:=v;cases(Ae o3:kws=[])
 refine hG ?_;clear hG GG;refine OD (y:=y) (xs:=xs) Z l ih (.tail _ (.tail _ (.tail _ (.head _)))) rfl o2 o4 R h λvs ys H s r R' z=>?_;have fin:∀{lo hi st:Int} {Ug Uy Uz:Tok} {k:Nat},alloc H (.range lo hi st) Q ->
  PE WH w c m Q (.ref s.heap.objs.size) {s with heap:=s.heap.push {cls:=.type "range",data:=.fields #[.int lo Ug,.int hi Uy,.int st Uz]},toks:=k}:=λq=>by
  obtain⟨D,WI,N,L⟩:=R'.led;exact CQ (o:=.range _ _ _) R' L (R'.fr.push _) (N.push R'.fr _) (Bf N (lt_size N)) ⟨_,_,_,rfl⟩ q
 have inv:(∃i,vs=[i]/\G8 i λhi=>alloc H (.range 0 hi 1) Q)\/(∃i j,vs=[i,j]/\IC i j λlo hi=>alloc H (.range lo hi 1) Q)\/∃i j l,vs=[i,j,l]/\IC i j λlo hi=>G8 l λst=>0<st/\st.natAbs<1073741824/\alloc H (.range lo hi st) Q:=by
  match vs,z with
  | [_],z=>exact .inl ⟨_,rfl,z⟩
  | [_,_],z=>exact .inr (.inl ⟨_,_,rfl,z⟩)
  | [_,_,_],z=>exact .inr (.inr ⟨_,_,_,rfl,z⟩)
 clear z;rcases inv with⟨i,rfl,z⟩|⟨i,j,rfl,z⟩|⟨i,j,l,rfl,z⟩
 ·obtain⟨U,U,rfl,r1,r⟩:=r.tl;cases r.nl
  refine En (Bj z r1) λi t u n q=>?_;obtain rfl:=u;obtain rfl:=n;exact call_range_1 (fin q)
 ·refine AU λGG hG=>?_;obtain⟨U,U,rfl,r1,r⟩:=r.tl;obtain⟨U,U,rfl,r2,r⟩:=r.tl;refine hG ?_;clear hG GG;cases r.nl
  refine AU λGG hG=>?_;refine En (Bj z r1) λi t u n q=>?_;obtain rfl:=u;obtain rfl:=n;refine En (Bj q r2) λj t' u n q=>?_;obtain rfl:=u;obtain rfl:=n;refine hG ?_;clear hG GG;exact call_range_2 (fin q)
 ·refine AU λGG hG=>?_;obtain⟨U,U,rfl,r1,r⟩:=r.tl;obtain⟨U,U,rfl,r2,r⟩:=r.tl;obtain⟨U,U,rfl,r3,r⟩:=r.tl;refine hG ?_;clear hG GG;cases r.nl
  refine AU λGG hG=>?_;refine En (Bj z r1) λi t u n q=>?_;obtain rfl:=u;obtain rfl:=n;obtain⟨j,t',rfl,rfl,q⟩:=Bj q r2;obtain⟨l,t'',rfl,rfl,q1,q2,q⟩:=Bj q r3;refine hG ?_;clear hG GG;exact call_range_3 (by omega) (fin q) (.inl (ZT q2))
end
section
variable{Q:V->MH->Prop}
theorem RL{x:Expr}{t:aC WO}(h:isE x=true):vt x 10=true\/isTrue x env t=(do let v <- t;standAt x.pos;holding [v] (truthy v)):=by
 cases x with
 | Compare l ops rs pos=>exact .inl rfl
 | UnaryOp op y p=>cases op<;>first|exact nomatch (show false=true from h)|exact .inr rfl
 | BoolOp op=>cases op<;>exact zT (show false=true from h)
 | IfExp=>exact nomatch (show false=true from h)
 | _=>exact .inr rfl
theorem t_e(i:SE WH w K k C e)(ic:∀op a b,e=.cmp op a b->SE WH w K k C a/\SE WH w K k C b):ST WH w K k C (.e e):=λA env c m κ sc ρ Z l x H s Q Er o R h=>by
 refine DN (NE o) λo1 oc o2=>?_;rcases RL (env:=env) (t:=eval x env) o1 with hv|he
 ·rw[hv,Bool.not_true,Yn] at oc;refine Fu (isC_of e oc) λop a b u=>?_;obtain rfl:=u
  ·refine AU λGG hG=>?_;refine Az (ic _ _ _ rfl) λia ib=>?_;refine Az (an o2) λo o4=>?_;refine Az (an o) λo o3=>?_;refine GJ (AP hv) λy cs xs p u=>?_;obtain rfl:=u;refine Aj (Bv (l:=cs) (an o).2) λop' u e=>?_;obtain rfl:=u;refine hG ?_;clear hG GG;cases eq_of_beq e
   refine Aj (Bv (l:=xs) o4) λz u o4=>?_;obtain rfl:=u;obtain⟨o4,o5⟩:=an o4;refine wpAny_isTrue_Compare1 (D0 (ia.go Z l o3 R h) λv y H s r R' h'=>D0 (ib.go Z l o4 R' h') λv' y' H' s' r' UJ q=>?_) (by rwa [XC] at o5)
   exact D0 (Tu (Q:=λv H=>GT H v λb=>Q b H) Z.B.mods Z.un UJ r r' q) λV9 VN Ud US UW UQ Ub=>IY UQ UW Ub
 ·exact isTrue_plain (D0 (i.go Z l o2 R h) λv y H s r R' q=>IY R' r q) he
theorem A2.nth{vs:List V}{xs:List WO}{r:V}(h:A2 VR vs xs):∀{i:Nat},vs[i]?=some r->∃y,xs[i]?=some y/\VR r y:=by
 induction h with
 | nil=>intro i e;exact zN e
 | cons x _ ih =>
  intro i e;cases i with
  | zero=>obtain rfl:=WT e;exact⟨_,rfl,x⟩
  | succ i=>exact ih (i:=i) e
theorem P4{value slice:Expr}{o:O}{a:Nat}{j:Int}{t:Tok}{r:V}{P:WO->WQ->Prop}(R:Ob WH w H s.heap)(ho:H a=some o)(hi:Ky j r o)(hs:IZ slice=true)(fin:∀y k,VR r y->P y {s with toks:=k}) :
 wpAny (model WH w) A (subscriptTail value slice (.ref a) (.int j t)) P Er s:=by
 have hsub:∀o i,subscripted slice false o i=operate [o,i] (getItem o i):=by
  intro o i;cases slice<;>first|rfl|exact zT hs
 have lst:∀{vs:List V},H a=some (.list vs)\/H a=some (.stk vs)->vs.length<=1000->nth vs j=some r->wpAny (model WH w) A (subscriptTail value slice (.ref a) (.int j t)) P Er s:=λ{vs} ho hle hi=>by
  refine Aj (R.lst ho) λxs hl h2=>?_;have hlen:=h2.length;unfold nth at hi;split at hi
  ·rename_i h0;refine Aj (h2.nth hi) λy e ry=>?_;have hlt:j.toNat<vs.length:=(W9.mp hi).1;exact X8 (x:=y) hl.typeIs F.slot_list_getitem.lookup (wpAny_getItem_list hl h0 (ozN ‹_› ‹_› ‹_›) (by simpa using e) ⟨rfl,fin _ s.toks ry⟩) (hsub _ _)
  ·rename_i h0;refine Az (Option.ite_none_right_eq_some.mp hi) λh1' hi=>?_;refine Aj (h2.nth hi) λy e ry=>?_;have e2:(j+(xs.toArray.size:Int)).toNat=((vs.length:Int)+j).toNat:=by rw[Wr,<- hlen,Int.add_comm]
   refine X8 (x:=y) hl.typeIs F.slot_list_getitem.lookup (wpAny_getItem_list_neg hl (YK.mp ‹_›) (by rw[Wr];exact ozO ‹_› ‹_›) (ozP ‹_› ‹_›) (by rw[e2];simpa using e) ⟨rfl,fin _ s.toks ry⟩) (hsub _ _)
 cases hi with
 | list hle hi=>exact lst (.inl ho) hle hi
 | stk hle hi=>exact lst (.inr ho) hle hi
 | dict hle hi =>
  refine FS (R a _ ho rfl) λob h1 z U=>?_;refine Aj z λkvs h2 h3=>?_;have g:=DR.valueAt h3 j;replace g:=hi▸g;cases gy:XU kvs j with
  | none=>rw[gy] at g;exact g.elim
  | some y =>
   rw[gy] at g;have hD:=YT.mpr ⟨ob,h1,h2.is⟩;exact X8 (x:=y) hD.typeIs slot_dict_getitem.lookup (wpAny_getItem_of (ZR _ _ _ _) hD.mapOf gy ⟨rfl,fin _ _ g⟩) (hsub _ _)
theorem e_idx(ia:SE WH w K k C a)(ib:SE WH w K k C b):SE WH w K k C (.idx a b):=λA env c m κ sc ρ Z l x H s Q Er o R h=>by
 refine AU λGG hG=>?_;refine Ij (Jl o) λo1 o2 o3 o4=>?_;clear o;refine Fu (AP o1) λy z p n=>?_;obtain rfl:=n;refine hG ?_;clear hG GG;refine Subscript_ (D0 (ia.go Z l o2 R h) λv y H s r R' h'=>D0 (ib.go Z l o4 R' h') λv' y' H' s' r' UJ q=>?_);refine AU λGG hG=>?_;refine FS (Bl q r) λa U f e=>?_;obtain rfl:=f;refine Aj e λob ho q=>?_;refine En (Bj q r') λj t n i g=>?_;obtain rfl:=n;obtain rfl:=i;refine Aj g λu hi q=>?_;refine hG ?_;clear hG GG;exact P4 (UJ.obs Z.B.mods) ho hi o3 λU k ry=>⟨_,_,ry,UJ.tok k,q⟩
end
section
variable{Q:V->MH->Prop}
theorem A2.snoc{α β:Type}{R:α->β->Prop}{u:α}:∀{vs:List α} {xs:List β},A2 R (vs++[u]) xs->∃xs' y,xs=xs'++[y]/\A2 R vs xs'/\R u y
 | [],_,r=>by
  obtain⟨y,U,rfl,h1,r⟩:=r.tl;cases r.nl
  exact⟨[],_,rfl,.nil,h1⟩
 | _::_,_,r=>by
  refine AU λGG hG=>?_;obtain⟨y,U,rfl,h1,r⟩:=r.tl;refine En (A2.snoc r) λxs' z e h3 h4=>?_;refine hG ?_;clear hG GG;exact⟨y::xs',z,by rw[e];rfl,.cons h1 h3,h4⟩
theorem e_pop(i:SE WH w K k C e):SE WH w K k C (.pop e):=λA env c m κ sc ρ Z l x H s Q Er o R h=>by
 refine AU λGG hG=>?_;refine Tf (an8 o) λo1 o2 o3 o4 o5 o6 o7 o8=>?_;clear o;refine GJ (AP o1) λy xs kws p j=>?_;obtain rfl:=j;refine Fu (AP (x:=y) o2) λov z ap j=>?_;obtain rfl:=j;cases(eq_of_beq o3:z=_)
 cases(Ae o7:xs=[])
 cases(Ae o8:kws=[])
 refine hG ?_;clear hG GG;refine Xh (D0 (i.go Z l o6 R h) λv y H s r R' q=>?_) (ET (k:=k) (sc:=sc) (es:=[]) (ks:=[]) (ov:=ov) o4 o5 (by decide) rfl rfl)
 refine AU λGG hG=>?_;refine FS (Bl q r) λa U j g=>?_;obtain rfl:=j;refine En g λvs u ha hle q=>?_;refine Jf (R'.pl ha rfl) λD WI ob N L h1 j=>?_;refine Ly j λxs n g h2=>?_;obtain rfl:=g;refine hG ?_;clear hG GG;refine Copied.getMethod_pop_at (N.get h1) rfl rfl ?_;refine Yp (P:=λU=>True) rfl (λh U=>⟨.machine,.inr (.inl rfl),ZG rfl⟩) (evalArgs_nil3 ⟨trivial,?_⟩);refine En (A2.snoc h2) λxs' y j h3 h4=>?_;obtain rfl:=j;have hl3:=h3.length;refine Copied.pop_at (N.get h1) (y:=y) (by simp) (λh' hs ho'=>?_) (by rw[Xi,Wr,Ws];exact(ozQ ‹_› ‹_›:xs'.length+1<=_))
 exact⟨u,_,h4,Ka (o':=.stk vs) (t:=s.toks) R' N L ha h1 hs ho' ⟨xs',n+1,by simp,h3⟩,q⟩
theorem RM(i:SE WH w K k C e)(ib:SE WH w K k C b):SE WH w K k C (.append e b):=λA env c m κ sc ρ Z l x H s Q Er o R h=>by
 refine AU λGG hG=>?_;refine Tf (an8 o) λo1 o2 o3 o4 o5 o6 o7 o8=>?_;clear o;refine GJ (AP o1) λy xs kws p j=>?_;obtain rfl:=j;refine Fu (AP (x:=y) o2) λov z ap j=>?_;obtain rfl:=j;cases(eq_of_beq o3:z=_)
 cases(Ae o7:kws=[])
 refine hG ?_;clear hG GG;have o9:CP k sc [b] xs=true:=OE o8;have o10:xs.length<20:=by refine Aj (Bv (l:=xs) o8) λy e U=>?_;exact e.symm▸WU rfl
 refine Xh (D0 (i.go Z l o6 R h) λv y H s r R' q=>?_) (ET (k:=k) (sc:=sc) (es:=[b]) (ks:=[]) (ov:=ov) o4 o5 o10 o9 rfl);refine AU λGG hG=>?_;refine FS (Bl q r) λa U j g=>?_;obtain rfl:=j;refine Aj g λws hw h'=>?_;refine Jf (R'.pl hw rfl) λD WI ob N L h1 j=>?_;refine Ly j λWA n g h2=>?_;obtain rfl:=g;refine hG ?_;clear hG GG;refine Calls.getMethod_list_append (N.get h1) rfl rfl ?_;refine Yp (P:=λU=>True) (by refine Aj (Bv (l:=xs) o8) λy e U=>?_;rw[Dp o9,ES,e];rfl) (λh U=>⟨.machine,.inr (.inl rfl),ZG rfl⟩) (Go (es:=[b]) (ks:=[]) (kws:=[]) (c:=c) (m:=m) (Q:=λvs us H=>us=[]/\g1 (λu H=>∃vs,H a=some (.stk vs)/\vs.length<=1000/\Q .none (H.put a (.stk (vs++[u])))) vs H) o9 rfl
  (LD (Q:=g1 _) (SH Z l (λe he=>msP he▸ib) o9 R' h') λvs ys H UH r R z=>⟨vs,H,r,R,λs' R'=>XX ⟨[],_,.nil,R',rfl,z⟩⟩) ?_)
 rintro vs us ys zs UR UM UU UW UJ ⟨rfl,z⟩;cases UW
 refine AU λGG hG=>?_;refine En (UU.one z) λu VO j ry g=>?_;obtain rfl:=j;refine FS g λvs hv hle q=>?_;refine Jf (UJ.pl hv rfl) λVf VP U3 U4 U5 g1 j=>?_;refine Ly j λVg VE g g2=>?_;obtain rfl:=g;refine hG ?_;clear hG GG;have hl2:=g2.length;refine⟨trivial,append_at (U4.get g1) (λh' hs ho'=>?_) (by rw[Xi,Wr];exact ozA ‹_› ‹_›)⟩
 exact⟨.none,_,.none,Ka (o':=.stk (vs++[u])) (t:=UM.toks) UJ U4 U5 hv g1 hs ho' ⟨Vg++[VO],VE+1,by simp,g2.append (.cons ry .nil)⟩,q⟩
end
end
end Mine
end
section
set_option genInjectivity false
namespace Mine
open PySem PySem.W PySem.Calls PyProof.Rows
structure Vs where
 t:Nat
 xs:List Expr
 a:Option Expr
 b:Option Expr
 o:YI
 ss:List Xj
 rs:List Xj
noncomputable def BU(x:Xj):Vs:=match x with
 | .Assign ts v _=>⟨1,ts,some v,none,.Add,[],[]⟩
 | .AugAssign t o v _=>⟨2,[t],some v,none,o,[],[]⟩
 | .If t b c _=>⟨3,[],some t,none,.Add,b,c⟩
 | .While t b c _=>⟨4,[],some t,none,.Add,b,c⟩
 | .For t i b c _=>⟨5,[t],some i,none,.Add,b,c⟩
 | .Return v _=>⟨6,[],v,none,.Add,[],[]⟩
 | .Raise _ _ _=>⟨7,[],none,none,.Add,[],[]⟩
 | .Assert t m _=>⟨8,[],some t,m,.Add,[],[]⟩
 | .Expr v _=>⟨9,[],some v,none,.Add,[],[]⟩
 | .Break _=>⟨10,[],none,none,.Add,[],[]⟩
 | .Continue _=>⟨11,[],none,none,.Add,[],[]⟩
 | .Pass _=>⟨12,[],none,none,.Add,[],[]⟩
 | _=>⟨0,[],none,none,.Add,[],[]⟩
noncomputable def RO(x:Xj):List Prop:=[True,∃ts v p,x=.Assign ts v p,∃t o v p,x=.AugAssign t o v p,∃t b c p,x=.If t b c p,∃t b c p,x=.While t b c p,∃t i b c p,x=.For t i b c p,∃v p,x=.Return v p,∃a b p,x=.Raise a b p,∃t m p,x=.Assert t m p,∃v p,x=.Expr v p,∃p,x=.Break p,∃p,x=.Continue p,∃p,x=.Pass p]
theorem RP(x:Xj):RH (BU x).t (RO x):=by
 cases x with
 | Assign=>exact⟨_,_,_,rfl⟩
 | AugAssign=>exact⟨_,_,_,_,rfl⟩
 | If=>exact⟨_,_,_,_,rfl⟩
 | While=>exact⟨_,_,_,_,rfl⟩
 | For=>exact⟨_,_,_,_,_,rfl⟩
 | Return=>exact⟨_,_,rfl⟩
 | Raise=>exact⟨_,_,_,rfl⟩
 | Assert=>exact⟨_,_,_,rfl⟩
 | Expr=>exact⟨_,_,rfl⟩
 | Break=>exact⟨_,rfl⟩
 | Continue=>exact⟨_,rfl⟩
 | Pass=>exact⟨_,rfl⟩
 | _=>trivial
abbrev MM(x:Xj)(n:Nat):Bool:=WV (BU x).t n
theorem BI{x:Xj}{t:Nat}(h:MM x t=true):RH t (RO x):=Wa h▸RP x
def Jo(sc:XB):List (Nat×Bool)->List Expr->Bool
 | [],[]=>true
 | p::xs,t::ts=>OA sc t p.1 (bif p.2 then .cell else .local)&&Jo sc xs ts
 | _,_=>false
mutual
def okS(k:Ck)(sc:XB):S->Xj->Bool:=λs y=>match s with
 | .asg x e=>MM y 1&&EE (BU y).xs (λt=>OA sc t x .local)&&Ew (BU y).a λv=>(Bw v||vt v 16&&isL e||vt v 17&&Sz e)&&Be k sc e v
 | .casg x e=>MM y 1&&EE (BU y).xs (λt=>OA sc t x .cell)&&Ew (BU y).a λv=>Be k sc e v
 | .asg2 x x' e=>MM y 1&&OC (BU y).xs (λt u=>OA sc t x .local&&OA sc u x' .local)&&Ew (BU y).a λv=>Bw v&&Be k sc e v
 | .unp xs e=>(k.strict&&MM y 1)&&EE (BU y).xs (λt=>vt t 12&&Jo sc xs (AI t).xs)&&Ew (BU y).a λv=>vt v 3&&Be k sc e v
 | .seta e n v=>MM y 1&&EE (BU y).xs (λt=>vt t 2&&((AI t).z==nm n)&&k.isAttr n&&Be k sc e (AI t).a)&&Ew (BU y).a λu=>Be k sc v u
 | .auga e n o v=>MM y 2&&EE (BU y).xs (λt=>vt t 2&&((AI t).z==nm n)&&k.isAttr n&&Be k sc e (AI t).a)&&(o==(BU y).o)&&(o==.Add)&&Ew (BU y).a λu=>Be k sc v u
 | .aug x o v=>MM y 2&&EE (BU y).xs (λt=>OA sc t x .local)&&(o==(BU y).o)&&(o==.Add)&&Ew (BU y).a λu=>Be k sc v u
 | .cond t b c=>MM y 3&&Ew (BU y).a (λu=>QK k sc t u)&&Hn k sc b (BU y).ss&&Hn k sc c (BU y).rs
 | .while t b=>MM y 4&&Ew (BU y).a (λu=>QK k sc t u)&&Hn k sc b (BU y).ss&&(BU y).rs.isEmpty
 | .for x it b=>(k.strict&&MM y 5)&&EE (BU y).xs (λt=>OA sc t x .local)&&Ew (BU y).a (λu=>Bw u&&Be k sc it u)&&Hn k sc b (BU y).ss&&(BU y).rs.isEmpty
 | .ret e=>MM y 6&&Ew (BU y).a λv=>Be k sc e v
 | .ret0=>MM y 6&&(BU y).a.isNone
 | .raise=>true
 | .assert t=>(k.strict&&MM y 8)&&Ew (BU y).a (λu=>QK k sc t u)&&(BU y).b.isNone
 | .expr e=>MM y 9&&Ew (BU y).a λv=>Bw v&&Be k sc e v
 | .brk=>MM y 10
 | .cont=>MM y 11
 | .pass=>MM y 12
def Hn(k:Ck)(sc:XB):List S->List Xj->Bool:=λs ys=>match s,ys with
 | [],[]=>true
 | s::r,y::ys=>okS k sc s y&&Hn k sc r ys
 | _,_=>false
end
end Mine
end
section
namespace Mine
open PySem PySem.W PySem.Calls PyProof.Rows
inductive FlR:Fl->Flow->Prop
 | next:FlR .next .next
 | brk:FlR .brk .brk
 | cont:FlR .cont .cont
 | ret {v y}:VR v y->FlR (.ret v) (.ret y)
inductive PS (WH:Wm) (w:WW) (c:Cx) (Q:Fl->As->MH->Prop) (f:Flow) (s:WQ):Prop
 | mk (fl:Fl) (ρ:As) (m:W5->Option WO) (H:MH) (rf:FlR fl f) (l:BR ρ m) (R:Aa WH w c m H s) (q:Q fl ρ H):PS WH w c Q f s
section
variable(WH:Wm)(w:WW)(K:Xb)(k:Ck)(C:CB)
def SS(x:S):Prop:=∀A env c κ sc,Ev WH w K k C A c env κ sc->∀ρ m,BR ρ m->∀y H s Q Er,okS k sc x y=true->Aa WH w c m H s->wS C κ x ρ H Q->wpAny (model WH w) A (exec y env) (PS WH w c Q) Er s
end
section
variable{WH:Wm}{w:WW}{A:XG}{env:Zp}{c:Cx}{m:W5->Option WO}{κ:Kp}{sc:XB}{K:Xb}{k:Ck}{C:CB}{ρ:As}{e a b:E}{t:T}{H:MH}{s:WQ}{Er:WO->WQ->Prop}
theorem PS.nx{Q:Fl->As->MH->Prop}(l:BR ρ m)(R:Aa WH w c m H s)(q:Q .next ρ H):PS WH w c Q .next s:=⟨.next,ρ,m,H,.next,l,R,q⟩
theorem BR.put{x:Nat}{v:V}{y:WO}(l:BR ρ m)(r:VR v y):BR (put x v ρ) (λz=>if z=nm x then some y else m z):=by
 intro z u h;cases q:WV x z with
 | true=>cases Wa q;rw[Ad] at h;cases h;exact⟨y,if_pos rfl,r⟩
 | false =>
  rw[AN q] at h;obtain⟨y',e1,e2⟩:=l z u h;exact⟨y',(if_neg λe=>by rw[I9 e,YM] at q;cases q).trans e1,e2⟩
theorem Cr{x:Nat}{v:V}{y:WO}{P:Unit->WQ->Prop}(O:EO env c.L κ sc)(hk:sc.names.lookup (nm x)=some .local)(l:BR ρ m)(R:Aa WH w c m H s)(r:VR v y)
 (q:∀m' s',BR (put x v ρ) m'->Aa WH w c m' H s'->P () s'):wpAny (model WH w) A (storeName env (nm x) y) P Er s:=by
 obtain⟨D,WI,N,L⟩:=R.led;refine Yf (by unfold Xa;exact O.isc.symm▸hk) (by exact O.ilo.symm▸R.fr.ns) (λh' hn hs=>?_) (by exact O.isc▸O.ikd▸rfl)
 rw[O.ilo] at hn hs;exact q _ _ (l.put r) (R.heap (R.fr.set hn hs) (N.set hs) L)
theorem NF{x:Nat}{v:V}{y:WO}{a:Nat}{o:Option V}{P:Unit->WQ->Prop}(O:EO env c.L κ sc)(hk:sc.names.lookup (nm x)=some .cell)(R:Aa WH w c m H s)(r:VR v y)
 (g:AM x κ=some a)(hc:H a=some (.cell o))(q:∀s',Aa WH w c m (H.put a (.cell (some v))) s'->P () s'):wpAny (model WH w) A (storeName env (nm x) y) P Er s:=by
 refine AU λGG hG=>?_;refine Jf (R.pl hc rfl) λD WI ob N L h1 h2=>?_;refine hG ?_;clear hG GG;have hcell:∃VQ,s.heap.IsCell a VQ:=by
  cases o with
  | none=>exact⟨_,ob,N.get h1,h2⟩
  | some v=>refine Aj h2 λy h2 U=>?_;exact⟨_,ob,N.get h1,h2⟩
 refine CT hcell λVQ hcell=>?_;refine wpAny_storeName_cell (by rw[O.isc];exact O.ikd) (by unfold Xa;rw[O.isc];exact hk) (O.ice _ _ g (.inl hk)) hcell λh' hv hs=>?_
 refine Aj hv λob' g1 g2=>?_;exact q _ (Ka (t:=s.toks) R N L hc h1 hs g1 ⟨y,g2,r⟩)
theorem NG{v:Expr}{t:Option Expr}{n:Nat}(h:Bw v=true):swapsWith v t n env=pure false:=by
 cases v<;>first|rfl|exact zT (show false=true from h)
theorem OF{v o:Expr}{z:W5}{p:Yt}{n:Nat}:swapsWith v (some (.Attribute o z p)) n env=pure false:=by
 cases v<;>rfl
theorem FX(O:EO env c.L κ sc):interactive env=false:=by
 unfold interactive;exact O.isc▸O.ikd▸rfl
theorem OG{v:Expr}{x:W5}{p:Yt}{n:Nat}(h:env.kindOf x=some .cell):swapsWith v (some (.Name x p)) n env=pure false:=by
 have e:(env.kindOf x==some NameKind.local)=false:=by rw[h];rfl
 cases v<;>first|rfl|(unfold swapsWith;dsimp only;rw[e,Bool.and_false,Bool.false_and,Bool.false_and])
theorem s_casg{x:Nat}(i:SE WH w K k C e):SS WH w K k C (.casg x e):=λA env c κ sc Z ρ m l y H s Q Er o R h=>by
 refine AU λGG hG=>?_;refine DN (NE o) λo1 o2 o3=>?_;clear o;refine Fu (BI o1) λts v p z=>?_;obtain rfl:=z;refine Aj (Bv (l:=ts) o2) λt z o2=>?_;obtain rfl:=z;obtain⟨⟨p',rfl⟩,o5⟩:=DK o2;refine hG ?_;clear hG GG;refine Yc (D0 (i.go Z l o3 R h) λv y H s r R' q=>?_) (OG (by have O:=Z.O;unfold Xa;exact O.isc.symm▸o5))
 refine Aj (QL q) λa g z=>?_;refine Aj z λob hc q=>?_;exact NF Z.O o5 R' r g hc λUM UJ=>.nx l UJ q
theorem P5{x:Nat}{p:Yt}{vx:Expr}{Q:Fl->As->MH->Prop}{t:Expr}(i:SE WH w K k C e)(Z:Ev WH w K k C A c env κ sc)(l:BR ρ m)(o2:OA sc t x .local=true)(o3:Be k sc e vx=true)(hs:∀n p',swapsWith vx (some (.Name (nm x) p')) n env=pure false)
 (R:Aa WH w c m H s)(h:wS C κ (.asg x e) ρ H Q):wpAny (model WH w) A (exec (.Assign [t] vx p) env) (PS WH w c Q) Er s:=by
 refine Az (DK o2) λz o5=>?_;refine CT z λp' u=>?_;obtain rfl:=u;exact Yc (D0 (i.go Z l o3 R h) λv y H s r R' q=>Cr Z.O o5 l R' r λm' UM l' UJ=>.nx l' UJ q) (hs _ _)
theorem s_ret(i:SE WH w K k C e):SS WH w K k C (.ret e):=λA env c κ sc Z ρ m l y H s Q Er o R h=>by
 refine AU λGG hG=>?_;refine Az (an o) λo1 o2=>?_;refine HI (BI o1) λv p z=>?_;obtain rfl:=z;refine Aj (Do (l:=v) o2) λv z o2=>?_;obtain rfl:=z;refine hG ?_;clear hG GG;exact wpAny_Return_some (D0 (i.go Z l o2 R h) λv y H s r R' q=>⟨.ret v,ρ,m,H,.ret r,l,R',q⟩)
theorem s_ret0:SS WH w K k C .ret0:=λA env c κ sc Z ρ m l y H s Q Er o R h=>by
 refine AU λGG hG=>?_;refine Az (an o) λo1 o2=>?_;refine HI (BI o1) λv p z=>?_;obtain rfl:=z;cases(YP.mp o2:v=none)
 refine hG ?_;clear hG GG;exact wpAny_Return_none ⟨.ret .none,ρ,m,H,.ret .none,l,R,h⟩
theorem s_brk:SS WH w K k C .brk:=λA env c κ sc Z ρ m l y H s Q Er o R h=>by
 refine CT (BI o) λp z=>?_;obtain rfl:=z;exact wpAny_Break ⟨.brk,ρ,m,H,.brk,l,R,h⟩
theorem s_cont:SS WH w K k C .cont:=λA env c κ sc Z ρ m l y H s Q Er o R h=>by
 refine CT (BI o) λp z=>?_;obtain rfl:=z;exact wpAny_Continue ⟨.cont,ρ,m,H,.cont,l,R,h⟩
theorem s_pass:SS WH w K k C .pass:=λA env c κ sc Z ρ m l y H s Q Er o R h=>by
 refine CT (BI o) λp z=>?_;obtain rfl:=z;exact wpAny_Pass (.nx l R h)
theorem RQ(i:ST WH w K k C t):SS WH w K k C (.assert t):=λA env c κ sc Z ρ m l y H s Q Er o R h=>by
 refine AU λGG hG=>?_;refine DN (NE o) λo1 o2 o3=>?_;refine Az (an o1) λost o1=>?_;clear o;refine Fu (BI o1) λu b p z=>?_;obtain rfl:=z;cases(YP.mp o3:b=none)
 refine hG ?_;clear hG GG;exact wpAny_Assert_new (Z.hh ost) (O5 (i _ _ _ _ _ _ _ Z l _ _ _ _ _ o2 R h) λv H s R' q=>by obtain⟨rfl,q⟩:=q;exact .nx l R' q)
theorem s_expr(i:SE WH w K k C e):SS WH w K k C (.expr e):=λA env c κ sc Z ρ m l y H s Q Er o R h=>by
 refine AU λGG hG=>?_;refine Az (an o) λo1 o2=>?_;refine HI (BI o1) λv p z=>?_;obtain rfl:=z;refine Az (an (show(Bw v&&Be k sc e v)=true from o2)) λo3 o4=>?_
 refine hG ?_;clear hG GG;exact wpAny_Expr_any (D0 (i.go Z l o4 R h) λv y H s r R' q=>.nx l R' q) (FX Z.O) (NG o3)
end
section
variable{WH:Wm}{w:WW}{A:XG}{env:Zp}{c:Cx}{m:W5->Option WO}{κ:Kp}{sc:XB}{K:Xb}{k:Ck}{C:CB}{ρ:As}{e a b:E}{t:T}{H:MH}{s:WQ}{Er:WO->WQ->Prop}
section
theorem Kb(x:W5)(p:Yt)(v:WO):assign (.Name x p) env v=(do standAt p;bindName env x v):=rfl
theorem DL{x:W5}{p:Yt}{v:WO}{P:Unit->WQ->Prop}(h:wpAny (model WH w) A (storeName env x v) P Er s):wpAny (model WH w) A (assign (.Name x p) env v) P Er s:=by
 rw[Kb];exact Wi (ZF (wpAny_bindName h))
theorem TF(Z:Ev WH w K k C A c env κ sc):∀{es:List S},(∀e∈es,SS WH w K k C e)->∀{xs:List Xj} {ρ:As} {m:W5->Option WO} {H:MH} {s:WQ} {Q:Fl->As->MH->Prop},BR ρ m->Hn k sc es xs=true->Aa WH w c m H s->A4 C κ es ρ H Q->wpAny (model WH w) A (execs xs env) (PS WH w c Q) Er s
 | [],_,[],ρ,m,H,s,Q,l,o,R,h=>ZZ (.nx l R h)
 | e::es,ih,x::xs,ρ,m,H,s,Q,l,o,R,h=>by
  refine Az (an (show(okS k sc e x&&Hn k sc es xs)=true from o)) λo1 o2=>?_
  refine wpAny_execs_cons (th (ih e (.head _) _ _ _ _ _ Z _ _ l _ _ _ _ _ o1 R h) λf UH ⟨fl,U6,U7,Uj,rf,Ul,UP,q⟩=>?_);cases rf with
  | next=>exact TF Z (λe h=>ih e (.tail _ h)) Ul o2 UP q
  | cont=>exact⟨_,U6,U7,Uj,.cont,Ul,UP,q⟩
  | brk=>exact⟨_,U6,U7,Uj,.brk,Ul,UP,q⟩
  | ret r=>exact⟨_,U6,U7,Uj,.ret r,Ul,UP,q⟩
 | [],_,_::_,_,_,_,_,_,_,o,_,_=>zT (show false=true from o)
 | _::_,_,[],_,_,_,_,_,_,o,_,_=>nomatch (show false=true from o)
theorem s_cond{b d:List S}(it:ST WH w K k C t)(ib:∀e∈b,SS WH w K k C e)(id:∀e∈d,SS WH w K k C e):SS WH w K k C (.cond t b d):=λA env c κ sc Z ρ m l y H s Q Er o R h=>by
 refine AU λGG hG=>?_;refine Ij (Jl o) λo1 o2 o3 o4=>?_;clear o;refine GJ (BI o1) λu b' d' p z=>?_;obtain rfl:=z;refine hG ?_;clear hG GG;refine wpAny_If (O5 (it _ _ _ _ _ _ _ Z l _ _ _ _ _ o2 R h) λv H s R' q=>?_);cases v
 ·exact TF Z id l o4 R' q
 ·exact TF Z ib l o3 R' q
theorem s_asg2{x x':Nat}(i:SE WH w K k C e):SS WH w K k C (.asg2 x x' e):=λA env c κ sc Z ρ m l y H s Q Er o R h=>by
 refine AU λGG hG=>?_;refine DN (NE o) λo1 o2 o3=>?_;clear o;refine Fu (BI o1) λts v p z=>?_;obtain rfl:=z;refine Ly (Jm (l:=ts) o2) λt u z o2=>?_;obtain rfl:=z;refine Az (an o2) λo4 o5=>?_;obtain⟨⟨p',rfl⟩,o6⟩:=DK o4;obtain⟨⟨p'',rfl⟩,o7⟩:=DK o5;refine Az (an (show(Bw v&&Be k sc e v)=true from o3)) λo8 o9=>?_
 refine hG ?_;clear hG GG;refine wpAny_Assign_two (D0 (i.go Z l o9 R h) λv y H s r R' q=>DL (Cr Z.O o6 l R' r λm' UM l' UJ=>DL (Cr Z.O o7 l' UJ r λm'' US l'' UQ=>.nx l'' UQ q))) rfl ?_;cases v<;>first|rfl|exact nomatch (show false=true from o8)
theorem TG{n:Nat}(i:SE WH w K k C e)(iv:SE WH w K k C b):SS WH w K k C (.seta e n b):=λA env c κ sc Z ρ m l y H s Q Er o R h=>by
 refine AU λGG hG=>?_;refine DN (NE o) λo1 o2 o3=>?_;clear o;refine Fu (BI o1) λts v p x=>?_;obtain rfl:=x;refine Aj (Bv (l:=ts) o2) λt x o2=>?_;obtain rfl:=x;refine Ij (Jl o2) λo6 o7 o5 o4=>?_;clear o2;refine Fu (AP o6) λov z p' x=>?_;obtain rfl:=x;cases(eq_of_beq o7:z=_)
 refine hG ?_;clear hG GG;exact plainObj_wpAny_Assign_Attribute (D0 (iv.go Z l o3 R h) λu y H s r R' h'=>D0 (i.go Z l o4 R' h') λu' y' H' s' r' UJ Uh=>RG Z.F Z.B.kin o5 UJ r' r Uh λUd US UQ q=>.nx l UQ q) OF
theorem s_auga{n:Nat}{op:YI}(i:SE WH w K k C e)(iv:SE WH w K k C b):SS WH w K k C (.auga e n op b):=λA env c κ sc Z ρ m l y H s Q Er o R h=>by
 refine AU λGG hG=>?_;refine Nk (QJ o) λo1 o2 o9 o8 o3=>?_;clear o;refine GJ (BI o1) λt op' v p x=>?_;obtain rfl:=x;refine Ij (Jl (show(vt t 2&&((AI t).z==nm n)&&k.isAttr n&&Be k _ e (AI t).a)=true from o2)) λo6 o7 o5 o4=>?_
 refine Fu (AP o6) λov z p' x=>?_;obtain rfl:=x;cases(eq_of_beq o7:z=_)
 cases(eq_of_beq o9:op=op')
 refine hG ?_;clear hG GG;have o8:=eq_of_beq o8;refine wpAny_AugAssign_AttributeAny (D0 (i.go Z l o4 R h) λu y H s r R' h'=>?_);refine D0 (RF (Q:=λu' H'=>wE C _ b ρ H' _) Z.F Z.B.kin o5 R' r h') λu' y' H' s' r' UJ Uh=>?_;refine D0 (iv.go Z l o3 UJ Uh) λVh VN Ud US UW UQ Ua=>?_;exact D0 (RE (Q:=λr H=>Pd H u n r _) o8 UQ r' UW Ua) λVi Vj VF UT VG UZ Um=>RG Z.F Z.B.kin o5 UZ r VG Um λVH Ui Ue q=>.nx l Ue q
theorem s_aug{x:Nat}{op:YI}(iv:SE WH w K k C b):SS WH w K k C (.aug x op b):=λA env c κ sc Z ρ m l y H s Q Er o R h=>by
 refine AU λGG hG=>?_;refine Nk (QJ o) λo1 o2 o9 o8 o3=>?_;clear o;refine GJ (BI o1) λt op' v p z=>?_;obtain rfl:=z;obtain⟨⟨p',rfl⟩,o5⟩:=DK (x:=t) o2;cases(eq_of_beq o9:op=op')
 refine hG ?_;clear hG GG;have o8:=eq_of_beq o8;refine Aj (QL h) λu g h=>?_;refine Aj (l _ _ g) λy gy ry=>?_;refine wpAny_AugAssign_Name (XH (by rw[Z.O.isc];exact Z.O.ikd) (by unfold Xa;rw[Z.O.isc];exact o5) (by rw[Z.O.ilo];exact R.fr.ns) gy ?_)
 refine D0 (iv.go Z l o3 R h) λVh VN Ud US UW UQ Ua=>?_;exact D0 (RE (Q:=λr H=>Q .next (put x r ρ) H) o8 UQ ry UW Ua) λVi Vj VF UT VG UZ Um=>Cr Z.O o5 l UZ VG λm' UM l' UJ=>.nx l' UJ Um
theorem TH{b:List S}(it:ST WH w K k C t)(ib:∀e∈b,SS WH w K k C e):SS WH w K k C (.while t b):=λA env c κ sc Z ρ m l y H s Q Er o R h=>by
 refine AU λGG hG=>?_;refine Ij (Jl o) λo1 o2 o3 o4=>?_;clear o;refine GJ (BI o1) λu b' d' p z=>?_;obtain rfl:=z;cases(Ae o4:d'=[])
 refine Ly h λI n h0 hI=>?_;refine hG ?_;clear hG GG;refine wpAny_While (codeAny_whileLoop (λn s=>∃ρ m H,BR ρ m/\Aa WH w c m H s/\I n ρ H) (λn UH x=>x33 x λU6 U7 Uj Ul UP UX=>?_) n ⟨ρ,m,H,l,R,h0⟩);refine O5 (it _ _ _ _ _ _ _ Z Ul _ _ _ _ _ o2 UP (hI _ _ _ UX)) λv UR UM UJ q=>?_;cases v
 ·exact ZZ (.nx Ul UJ q)
 ·refine th (TF Z ib Ul o3 UJ q) λf US ⟨fl,Un,U0,Ud,rf,Uo,UQ,Ub⟩=>?_;cases rf with
  | next=>refine Aj Ub λn' hn Ub=>?_;exact⟨n',hn,Un,U0,Ud,Uo,UQ,Ub⟩
  | cont=>refine Aj Ub λn' hn Ub=>?_;exact⟨n',hn,Un,U0,Ud,Uo,UQ,Ub⟩
  | brk=>exact .nx Uo UQ Ub
  | ret r=>exact⟨_,Un,U0,Ud,.ret r,Uo,UQ,Ub⟩
end
section
theorem Aa.keeps{h':Xy}{t:Nat}(R:Aa WH w c m H s)(hk:∀b o,s.heap.get? b=some o->h'.get? b=some o):Aa WH w c m H {s with heap:=h',toks:=t}:=by
 obtain⟨D,WI,N,L⟩:=R.led;exact R.heap (R.fr.keeps hk) (λp hp=>⟨hk _ _ (N p hp).1,(N p hp).2⟩) L
theorem Kd:∀{xs:List (Nat×Bool)} {ts:List Expr},Jo sc xs ts=true->(assignEach ts env).length=xs.length/\(assignEach ts env).findIdx? (·.1)=none
 | [],[],_=>⟨rfl,rfl⟩
 | [],_::_,h=>nomatch (show false=true from h)
 | _::_,[],h=>nomatch (show false=true from h)
 | p::r,t::ts,h=>by
  obtain⟨h1,h2⟩:=an h;obtain⟨⟨pp,rfl⟩,U⟩:=DK h1;obtain⟨i1,i2⟩:=Kd h2;refine⟨congrArg (·+1) i1,?_⟩
  show List.findIdx? (·.1) ((false,_)::assignEach ts env)=none
  rw[List.findIdx?_cons,i2];rfl
theorem Ke{Q:As->MH->Prop}:∀{xs:List (Nat×Bool)} {vs:List V} {ρ:As} {H:MH},Pc κ xs vs ρ H Q->xs.length=vs.length
 | [],[],_,_,_=>rfl
 | [],_::_,_,_,h=>h.elim
 | _::_,[],_,_,h=>h.elim
 | (x,false)::r,v::vs,_,_,h=>congrArg (·+1) (Ke (show Pc κ r vs _ _ Q from h))
 | (x,true)::r,v::vs,_,_,h=>by
  refine Aj (QL (show op (AM x κ) _ from h)) λU U z=>?_;refine Aj z λU U h=>?_
  exact congrArg (·+1) (Ke h)
theorem P6(O:EO env c.L κ sc){P:Unit->WQ->Prop}{Q:As->MH->Prop}(hP:∀ρ m H s,BR ρ m->Aa WH w c m H s->Q ρ H->P () s)(xs:List (Nat×Bool)):∀{ts:List Expr} {vs:List V} {ys:List WO} {ρ:As} {m:W5->Option WO} {H:MH} {s:WQ},
 Jo sc xs ts=true->A2 VR vs ys->BR ρ m->Aa WH w c m H s->Pc κ xs vs ρ H Q->wpAny (model WH w) A (assignInOrder ((assignEach ts env).map (·.2)) ys) P Er s:=by
 induction xs with
 | nil =>
  intro ts vs ys ρ m H s ho hA l R h;cases ts with
  | cons=>exact zT ho
  | nil =>
   cases vs with
   | cons=>exact h.elim
   | nil=>cases hA.nl;exact assignInOrder_nil (hP _ _ _ _ l R h)
 | cons p r ih =>
  intro ts vs ys ρ m H s ho hA l R h;cases ts with
  | nil=>exact zT ho
  | cons t ts =>
   cases vs with
   | nil=>exact h.elim
   | cons v vs =>
    refine En hA.tl λy ys z rv rr=>?_;obtain rfl:=z;obtain⟨x,b⟩:=p;refine Az (an ho) λh1 h2=>?_;clear ho hA;obtain⟨⟨pp,rfl⟩,h4⟩:=DK h1;refine assignInOrder_cons (t:=assign (.Name (nm x) pp) env) (ts:=(assignEach ts env).map (·.2)) (DL ?_)
    cases b with
    | false=>exact Cr O h4 l R rv λm' UM l' UJ=>ih h2 rr l' UJ h
    | true =>
     refine Aj (QL (show op (AM x κ) _ from h)) λa g z=>?_;refine Aj z λo hc h=>?_
     exact NF O h4 R rv g hc λUM UJ=>ih h2 rr l UJ h
theorem s_unp{xs:List (Nat×Bool)}(i:SE WH w K k C e):SS WH w K k C (.unp xs e):=λA env c κ sc Z ρ m l y H s Q Er o R h=>by
 refine AU λGG hG=>?_;refine DN (NE o) λo1 o2 o3=>?_;refine Az (an o1) λost o1=>?_;clear o;refine Fu (BI o1) λts v p z=>?_;obtain rfl:=z;refine Aj (Bv (l:=ts) o2) λt z o2=>?_;obtain rfl:=z;refine Az (an o2) λo4 o5=>?_;refine Fu (AP o4) λts kk p' z=>?_;obtain rfl:=z;refine Az (an (show(vt v 3&&Be k sc e v)=true from o3)) λo6 o7=>?_
 refine Az (Kd (env:=env) (ts:=ts) o5) λn1 n2=>?_;refine hG ?_;clear hG GG;refine Assign_Tuple (D0 (i.go Z l o7 R h) λv y H s r R' q=>?_) ?_ ?_
 ·refine AU λGG hG=>?_;refine FS (Bl q r) λa U z x=>?_;obtain rfl:=z;refine Aj x λob hv u=>?_;refine Aj u λvs n q=>?_;obtain rfl:=n;refine Aj (R'.tup hv) λys h1 h2=>?_;refine hG ?_;clear hG GG;refine assign_Tuple_tuple (items:=ys.toArray) (Z.hh ost) h1 (by exact n1▸(Ke q)▸h2.length▸Wr▸rfl) n2 λh' hx=>?_
  exact P6 Z.O (λρ m H s l R q=>.nx l R q) _ o5 h2 l (R'.keeps (t:=s.toks) λb ob e=>hx b ob (Xw (Wn e)) e) q
 all_goals
  refine GJ (AP o6) λf as ks p z=>?_;obtain rfl:=z;rfl
end
end
section
variable{WH:Wm}{w:WW}{A:XG}{c:Cx}{m:W5->Option WO}{H:MH}{s:WQ}{Er:WO->WQ->Prop}{X₀ X':BW}{I a i:Nat}{ob ob':Yx}{o:O}{vs:List V}
section
theorem Aa.dropX'(R:Aa WH w c m H s)(h:∀p∈X',p∈c.X):Aa WH w (c.x (X')) m H s:=by
 obtain⟨D,WI,N,L⟩:=R.led;exact⟨R.fr,⟨D,WI,N,L.dropX h⟩,R.gs,R.dr,R.os⟩
theorem Aa.addX'{D:Nat->Nat}{WI:BW}(R:Aa WH w c m H s)(L:FZ WH w c.UD D WI c.X H){q:Nat}{h':Xy}{t:Nat}(F':Fr c.UD c.L h' m)(N':Zh c.UD c.L h' ((q,ob)::WI))
 (lt:q∉WI.map (·.1)):Aa WH w (c.x ((q,ob)::c.X)) m H {s with heap:=h',toks:=t} :=
 ⟨F',⟨D,_,N',L.addX lt (N' (q,_) (.head _)).2.2⟩,R.gs,R.dr,R.os⟩
theorem Aa.moveX{h':Xy}{t:Nat}(R:Aa WH w (c.x ((I,ob)::X₀)) m H s)(hX:∀p∈X₀,p.1≠I)(hs:YO I s.heap h')(ho:h'.get? I=some ob') :
 Aa WH w (c.x ((I,ob')::X₀)) m H {s with heap:=h',toks:=t}:=by
 refine AU λGG hG=>?_;obtain⟨D,WI,N,L⟩:=R.led;refine DN (L.xs _ (.head _)) λx1 x2 x3=>?_;refine hG ?_;clear hG GG;have U:=MK (o':=ob') L.nd x1;refine AU λGG hG=>?_;refine SD U.split λJS post e1 e2 u1 u2=>?_;refine hG ?_;clear hG GG;have hh:=N _ x1;have N':Zh c.UD c.L h' (O1 I ob' WI):=by
  rw[e2];exact news_set (e1▸N) u1 u2 hs ho
 have kp:∀p∈WI,p.1≠I->p∈O1 I ob' WI:=λp hp q=>FW hp q;refine⟨R.fr.change hs hh.2.1 hh.2.2,⟨D,_,N',by rw[KU];exact L.nd,λb o e=>(L.ob b o e).mono (λc as z=>⟨rfl,λp hp q=>kp p hp (q▸x3 b c as (z▸e))⟩) λp hp q=>kp p hp λz=>?_,L.dj,λp hp=>?_⟩,R.gs,R.dr,R.os⟩
 ·exact zN (x2▸z▸q▸e)
 ·rcases mcP hp with rfl|hp
  ·exact⟨KV x1,x2,x3⟩
  ·refine DN (L.xs p (.tail _ hp)) λy1 y2 y3=>?_;exact⟨FW y1 (hX p hp),y2,y3⟩
theorem Aa.loseX{h':Xy}{t:Nat}(R:Aa WH w (c.x ((I,ob)::X₀)) m H s)(hX:∀p∈X₀,p.1≠I)(he:∀b o,b≠I->s.heap.get? b=some o->h'.get? b=some o) :
 Aa WH w (c.x (X₀)) m H {s with heap:=h',toks:=t}:=by
 refine AU λGG hG=>?_;obtain⟨D,WI,N,L⟩:=R.led;refine DN (L.xs _ (.head _)) λx1 x2 x3=>?_;refine hG ?_;clear hG GG;have hh:=N _ x1;refine AU λGG hG=>?_;refine Jf R.fr.ns λoL es ep hL hd hsk hf=>?_;refine hG ?_;clear hG GG;have kp:∀p∈WI,p.1≠I->p∈WI.filter λp=>p.1≠I:=λp hp q=>XL.mpr ⟨hp,decide_eq_true q⟩;refine⟨⟨⟨oL,es,ep,he _ _ (YN hh.2.1) hL,hd,hsk,hf⟩,λb o e=>he b o (λq=>by exact zN (hh.2.2▸q▸e)) (R.fr.keep b o e),R.fr.above⟩,⟨D,WI.filter λp=>p.1≠I,?_,L.nd.sublist (Yj _ X0),λb o e=>(L.ob b o e).mono (λc as z=>⟨rfl,λp hp q=>kp p hp (q▸x3 b c as (z▸e))⟩) λp hp q=>kp p hp λz=>?_,L.dj,λp hp=>?_⟩,R.gs,R.dr,R.os⟩
 ·intro p hp;refine Az (mfP hp) λhp1 hp2=>?_;exact⟨he _ _ (of_decide_eq_true hp2) (N p hp1).1,(N p hp1).2⟩
 ·exact zN (x2▸z▸q▸e)
 ·refine DN (L.xs p (.tail _ hp)) λy1 y2 y3=>?_;exact⟨kp p y1 (hX p hp),y2,y3⟩
end
section
variable{env:Zp}
def NH(a:Nat)(i:Nat):O->Yx->Prop
 | .list _,ob=>ob.cls=.type "list_iterator"/\ob.data=.fields #[.ref a,.int (i:Nat) 0]
 | .range lo hi st,ob=>ob={cls:=.type "range_iterator",dict:=none,data:=.fields #[rawInt (lo+(i:Nat)*st),rawInt (((A5 lo hi st).length:Int)-(i:Nat)),rawInt st],slots:=#[]}
 | .dict es g,ob=>ob.cls=.type "dict_keyiterator"/\ob.data=.fields #[.ref a,.int (i:Nat) 0,.int (es.length:Nat) 0,.int (g:Nat) 0]
 | _,_=>False
theorem A2.nthG{α β:Type}{R:α->β->Prop}{l:List α}{m:List β}{r:α}(h:A2 R l m):∀{i:Nat},l[i]?=some r->∃y,m[i]?=some y/\R r y:=by
 induction h with
 | nil=>intro i e;exact nomatch e
 | cons x _ ih =>
  intro i e;cases i with
  | zero=>obtain rfl:=WT e;exact⟨_,rfl,x⟩
  | succ i=>exact ih (i:=i) e
theorem Aa.xget(R:Aa WH w (c.x ((I,ob)::X₀)) m H s):s.heap.get? I=some ob:=by
 obtain⟨D,WI,N,L⟩:=R.led;exact N.get (L.xs _ (.head _)).1
theorem MN{v:V}{P:Option WO->WQ->Prop}(R:Aa WH w (c.x ((I,ob)::X₀)) m H s)(hX:∀p∈X₀,p.1≠I)(ho:H a=some o)(hi:Lj o vs)(it:NH a i o ob)(hv:vs[i]?=some v)
 (q:∀y ob' s',VR v y->NH a (i+1) o ob'->Aa WH w (c.x ((I,ob')::X₀)) m H s'->P (some y) s'):wpAny (model WH w) A (pyNext (.ref I)) P Er s:=by
 have hI:=R.xget;cases hi with
 | list hl =>
  refine Aj (R.lst (.inl ho)) λxs h1 h2=>?_;refine Aj (h2.nth hv) λy hy ry=>?_;refine wpAny_pyNext_list_item (l:=a) (i:=i) (items:=xs.toArray) ⟨ob,hI,it.1,it.2⟩ h1 (by simpa using hy) λh' hit hs=>?_
  refine FS hit λob' g1 g2 g3=>?_;exact q y ob' _ ry ⟨g2,g3⟩ (R.moveX (t:=s.toks) hX hs g1)
 | @dict es g hl =>
  refine Jf (R.pl ho rfl) λD WI o N L h1 u=>?_;refine Aj u λkvs h2 h3=>?_;refine Aj (Wz.mp (XD.symm.trans hv)) λe he z=>?_;obtain rfl:=z;refine Aj (h3.nthG he) λu hx hd=>?_;obtain⟨k,x⟩:=u;have hk:e.1=k:=hd.1;refine wpAny_pyNext_dict_item (i:=i) ⟨ob,hI,it.1,h3.length▸it.2⟩ (h2.at_ (N.get h1)) hx λkey h' hkey hit hs=>?_;refine CT (ZA hkey) λt u=>?_;obtain rfl:=u;refine FS hit λob' g1 g2 g3=>?_;exact q _ ob' _ (hk▸.int _ _) ⟨g2,h3.length▸g3⟩ (R.moveX (t:=s.toks) hX hs g1)
 | @range lo hi' st bb =>
  refine Aj (Wz.mp (XD.symm.trans hv)) λj hj z=>?_;obtain rfl:=z;have hlt:i<(A5 lo hi' st).length:=(W9.mp hj).1;have hval:j=lo+(i:Int)*st:=by
   have:=(W9.mp hj).2;unfold A5 at this;rw[List.getElem_map,Y2] at this;rw[<- this,Int.mul_comm]
  have it':ob=_:=it;subst it';refine wpAny_pyNext_range_item hI (ZB (Xu.mpr ‹_›)) λh' hit hs=>?_;refine q _ _ _ (hval▸.int _ _) ?_ (R.moveX (t:=s.toks+1) hX hs hit);have e1:lo+((i+1:Nat):Int)*st=lo+(i:Int)*st+st:=by push_cast;rw[Int.add_mul,Int.one_mul,Int.add_assoc]
  have e2:(((A5 lo hi' st).length:Int)-((i+1:Nat):Int))=((A5 lo hi' st).length:Int)-(i:Int)-1:=by push_cast;exact(Int.sub_sub _ _ _).symm
  exact e1▸e2▸rfl
theorem MO{P:Option WO->WQ->Prop}(hh:A.handled=none)(R:Aa WH w (c.x ((I,ob)::X₀)) m H s)(hX:∀p∈X₀,p.1≠I)(ho:H a=some o)(hi:Lj o vs)(it:NH a vs.length o ob)
 (q:∀s',Aa WH w (c.x (X₀)) m H s'->P none s'):wpAny (model WH w) A (pyNext (.ref I)) P Er s:=by
 have hI:=R.xget;cases hi with
 | list hl =>
  refine Aj (R.lst (.inl ho)) λxs h1 h2=>?_;exact wpAny_pyNext_list_end hh (l:=a) (items:=xs.toArray) ⟨ob,hI,it.1,it.2⟩ h1 (by simp[h2.length]) λh' he=>q _ (R.loseX (t:=s.toks) hX λb o hb e=>he b o hb e)
 | @dict es g hl =>
  refine Jf (R.pl ho rfl) λD WI o N L h1 z=>?_;refine Aj z λkvs h2 h3=>?_;have hlen:=h3.length;refine wpAny_pyNext_dict_end hh (i:=(es.map λe=>V.int e.1).length) ⟨ob,hI,it.1,hlen▸it.2⟩ (h2.at_ (N.get h1)) (by rw[WS,hlen];exact List.getElem?_eq_none (WY _)) λh' he=>q _ (R.loseX (t:=s.toks) hX λb o hb e=>he b o hb e)
 | @range lo hi' st bb =>
  have it':ob=_:=it;subst it';exact wpAny_pyNext_range_end hh hI (by rw[WS,Int.sub_self];exact Wq _) λh' he=>q _ (R.loseX (t:=s.toks) hX λb o hb e=>he b o hb e)
end
section
variable{env:Zp}{K:Xb}{k:Ck}{C:CB}{e:E}
theorem F1{lo hi st:Int}(h:0<st):((A5 lo hi st).length:Int)=YX lo hi st:=by
 unfold A5 YX;rw[if_pos h,WS,Yb];split
 ·rename_i hlt;have:(hi-lo+st-1) / st=(hi-lo-1) / st+1:=by
   rw[show hi-lo+st-1=(hi-lo-1)+st from Int.add_right_comm _ _ _,Int.add_ediv_of_dvd_right (Int.dvd_refl st),Int.ediv_self (Int.ne_of_gt ‹_›)]
  rw[this,Yv];have:=Int.ediv_nonneg (a:=hi-lo-1) (b:=st) (Yq (ZB ‹_›)) (XO ‹_›);exact Ze ‹_› (by decide)
 ·rename_i hge;have:(hi-lo+st-1) / st<=0:=by
   have h1:(hi-lo+st-1) / st<1:=Int.ediv_lt_of_lt_mul h (Int.lt_of_le_sub_one (Int.sub_le_sub_right (Wc (Int.add_le_add_right (Int.sub_nonpos_of_le (Yh.mp hge)) st) (Int.le_of_eq ((aA st).trans (Int.one_mul st).symm))) 1));exact Int.lt_add_one_iff.mp ‹_›
  rw[Int.toNat_of_nonpos this];rfl
theorem Kf{lo hi st:Int}(h:D6 lo hi st):(A5 lo hi st).length<=1000:=by
 refine AU λGG hG=>?_;refine x06 h λh1 h2 h3 h4 h5 h6=>?_;refine hG ?_;clear hG GG;have:((A5 lo hi st).length:Int)<=1000:=by
  refine(F1 h1).symm▸?_;unfold YX;refine(if_pos h1).symm▸?_;split
  ·have g2:(hi-lo-1) / st<=hi-lo-1:=Int.ediv_le_self _ (Yq (ZB ‹_›));exact Wc (Int.add_le_of_le_sub_right g2) h5
  ·decide
 exact Yy.mp ‹_›
theorem NI{lo hi st:Int}(h:D6 lo hi st):Zt lo hi st=true:=by
 have hs:=Kf h;have e:=F1 (lo:=lo) (hi:=hi) h.1;refine AU λGG hG=>?_;refine x06 h λh1 h2 h3 h4 h5 h6=>?_;refine hG ?_;clear hG GG;unfold Zt;refine e▸?_
 generalize (A5 lo hi st).length=n at hs
 clear e;refine(if_pos h1).symm▸?_;simp only[Builtin.Range.rangeFitsLong,X2,Bool.or_eq_true,decide_eq_true_eq,beq_iff_eq];have hh:=Wc (Int.le_add_of_sub_right_le h5) (Int.add_le_add_left h3 1000);exact⟨⟨⟨⟨smI h2 (Wc h3 (by decide)),smI h4 (Wc hh (by decide))⟩,smI (Wc (by decide) (XO h1)) (Wc h6 (by decide))⟩,smI (Wc (by decide) (X7 n)) (Wc (Yy.mpr hs) (by decide))⟩,.inr (smI (Wc h4 (Int.le_add_of_nonneg_right (Yq h1))) (Wc (Int.add_le_add hh (Wc (Int.sub_le_self st (by decide)) h6)) (by decide)))⟩
theorem Ib{P:WO->WQ->Prop}(R:Aa WH w c m H s)(ho:H a=some o)(hi:Lj o vs)(hm:(c.UD.get? sysModules).isSome=true)
 (q:∀I ob s',(∀p∈c.X,p.1≠I)->NH a 0 o ob->Aa WH w (c.x ((I,ob)::c.X)) m H s'->P (.ref I) s'):wpAny (model WH w) A (pyIter (.ref a)) P Er s:=by
 obtain⟨D,WI,N,L⟩:=R.led;have fresh:=Bf N (lt_size N);have hX:∀p∈c.X,p.1≠s.heap.objs.size:=λp hp e=>fresh (e▸key (L.xs p hp).1);cases hi with
 | list hl =>
  refine Aj (R.lst (.inl ho)) λxs h1 h2=>?_;exact wpAny_pyIter_list h1 (q _ _ _ hX ⟨rfl,rfl⟩ (Aa.addX' (t:=s.toks) R L (R.fr.push _) (N.push R.fr _) fresh))
 | @dict es g hl =>
  refine AU λGG hG=>?_;refine Jf (R.pl ho rfl) λD' WK o N' L' h1 v=>?_;refine Aj v λkvs h2 h3=>?_;have hne:(a==sysModules)=false:=beq_eq_false_iff_ne.mpr λe=>by replace hm:=(N'.fresh h1)▸e▸hm;exact zT hm
  refine hG ?_;clear hG GG;exact wpAny_pyIter_dict hne (h2.at_ (N'.get h1)) (q _ _ _ hX ⟨rfl,h3.length▸rfl⟩ (Aa.addX' (t:=s.toks) R L (R.fr.push _) (N.push R.fr _) fresh))
 | @range lo hi' st bb =>
  refine AU λGG hG=>?_;refine Jf (R.pl ho rfl) λU U ob N' U h1 z=>?_;refine Fu z λUg Uy Uz y=>?_;obtain rfl:=y;refine hG ?_;clear hG GG;refine wpAny_pyIter_range (N'.get h1) (NI bb) (q _ _ _ hX ?_ (Aa.addX' (t:=s.toks) R L (R.fr.push _) (N.push R.fr _) fresh))
  show _=_
  refine(F1 bb.1).symm▸?_;simp
theorem Dj{x:Expr}{v:WO}(h:Bw x=true):foldedSetIterable x env v=pure v:=by
 cases x<;>first|rfl|exact zT (show false=true from h)
theorem Ic{κ:Kp}{sc:XB}(Z:Ev WH w K k C A c env κ sc)(X:BW):Ev WH w K k C A (c.x (X)) env κ sc:=⟨Z.F,Z.B,Z.O,Z.hh,Z.un,Z.calls,Z.alls,Z.atms⟩
theorem s_for{x:Nat}{b:List S}(i:SE WH w K k C e)(ib:∀e∈b,SS WH w K k C e):SS WH w K k C (.for x e b):=λA env c κ sc Z ρ m l y H s Q Er o R h=>by
 refine AU λGG hG=>?_;refine Nk (QJ o) λo1 o2 o3 o4 o5=>?_;refine Az (an o1) λost o1=>?_;clear o;refine x51 (BI o1) λt it' b' d' p z=>?_;obtain rfl:=z;refine Az (DK (x:=t) o2) λz o6=>?_;refine CT z λp' u=>?_;obtain rfl:=u;refine Az (an (show(Bw it'&&Be k sc e it')=true from o3)) λo7 o8=>?_
 cases(Ae o5:d'=[])
 refine hG ?_;clear hG GG;refine wpAny_For (D0 (i.go Z l o8 R h) λv y H s r R' q=>?_) ?_
 ·refine AU λGG hG=>?_;refine FS (Bl q r) λa U z u=>?_;obtain rfl:=z;refine SD u λob vs ho hi hd j=>?_;refine FS j λI h0 hI hE=>?_;refine hG ?_;clear hG GG;refine Ib R' ho hi Z.B.mods λJ Vk UM hX Uq UJ=>?_;refine codeAny_forLoop (λn s=>∃i U3 ρ m H,n=vs.length-i/\i<=vs.length/\NH a i ob U3/\BR ρ m/\Aa WH w (c.x ((J,U3)::c.X)) m H s/\I i ρ H) (λn US Vl=>?_) vs.length ⟨0,Vk,ρ,m,H,rfl,Wh _,Uq,l,UJ,h0⟩;refine x56 Vl λi U3 Un U0 Ud hn hile VS Uo UQ Ua=>?_;by_cases hlt:i<vs.length
  ·refine Az (hI i Un Ud _ (Wu hlt) Ua) λha hb=>?_;refine MN UQ hX ha hi VS (Wu hlt) λy VT UT ry VU UZ=>?_;refine DL (Cr (Ic Z _).O o6 Uo UZ ry λWB Ui Vm Ue=>?_);refine th (TF (Ic Z _) ib Vm o4 Ue hb) λf WC ⟨fl,U8,U9,VA,rf,VB,Ur,VC⟩=>?_;cases rf with
   | next=>exact⟨vs.length-(i+1),by exact ozD ‹_› ‹_›,i+1,VT,U8,U9,VA,rfl,hlt,VU,VB,Ur,VC⟩
   | cont=>exact⟨vs.length-(i+1),by exact ozD ‹_› ‹_›,i+1,VT,U8,U9,VA,rfl,hlt,VU,VB,Ur,VC⟩
   | brk=>exact⟨.next,U8,U9,VA,.next,VB,Ur.dropX' (X':=c.X) (λp hp=>.tail _ hp),VC⟩
   | ret rv=>exact⟨_,U8,U9,VA,.ret rv,VB,Ur.dropX' (X':=c.X) (λp hp=>.tail _ hp),VC⟩
  ·have e:i=vs.length:=by exact ozE ‹_› ‹_›
   subst e;obtain⟨ha,hq⟩:=hE Un Ud Ua;refine MO (Z.hh ost) UQ hX ha hi VS λUT UZ=>?_;exact ZZ ⟨.next,Un,U0,Ud,.next,Uo,UZ,hq⟩
 ·exact λv=>Dj o7
end
end
section
variable{WH:Wm}{w:WW}{A:XG}{env:Zp}{c:Cx}{m:W5->Option WO}{κ:Kp}{sc:XB}{K:Xb}{k:Ck}{C:CB}{ρ:As}{e a b:E}{t:T}{H:MH}{s:WQ}{Er:WO->WQ->Prop}{Q:V->MH->Prop}
section
theorem Aa.ro(R:Aa WH w c m H s){a:Nat}{vs:List V}(h:H a=some (.ro vs)):∃xs,s.heap.IsList a xs.toArray/\A2 VR vs xs:=by
 refine AU λGG hG=>?_;obtain⟨D,WI,N,L⟩:=R.led;refine Ly ((L.ob _ _ h).ro) λxs n h1 h2=>?_;refine hG ?_;clear hG GG;exact⟨xs,⟨_,R.fr.keep _ _ h1,rfl,n,rfl⟩,h2⟩
theorem A2.take{vs:List V}{xs:List WO}(h:A2 VR vs xs):∀n,A2 VR (vs.take n) (xs.take n):=by
 induction h with
 | nil=>intro n;exact List.take_nil.symm▸List.take_nil.symm▸.nil
 | cons h _ ih =>
  intro n;cases n with
  | zero=>exact .nil
  | succ n=>exact .cons h (ih n)
theorem e_upto(ia:SE WH w K k C a)(ib:SE WH w K k C b):SE WH w K k C (.upto a b):=λA env c m κ sc ρ Z l x H s Q Er o R h=>by
 refine AU λGG hG=>?_;refine Nk (QJ o) λo1 o6 o2 o3 o4=>?_;clear o;refine Fu (AP o1) λy z p j=>?_;obtain rfl:=j;refine HI (AP (x:=y) o6) λyn yp j=>?_;obtain rfl:=j;refine GJ (AP (x:=z) o3) λlo up st p' j=>?_;obtain rfl:=j;refine Aj (Sy (l:=[lo,up,st]) o4) λu e o5=>?_;refine hG ?_;clear hG GG;cases e
 refine Subscript_ (D0 (ia.go Z l o2 R h) λv y H s r R' h'=>wpAny_Slice (W6 (XR (ib.go Z l o5 R' h') (λy' s' ⟨v',H',r',UJ,q⟩=>W6 ?_) λU U e=>e)));refine AU λGG hG=>?_;obtain⟨a,U,rfl,ob,ho,vs,n,rfl,rfl,hn,hl,q⟩:=Bl q r;refine hG ?_;clear hG GG;refine AU λGG hG=>?_;cases r'
 refine Aj (UJ.ro ho) λxs h1 h2=>?_;have hlen:=h2.length;obtain⟨D,WI,N,L⟩:=UJ.led;refine hG ?_;refine slice_list UJ.fr N h1 .none (.int _ _) (λh' F' N'=>?_) rfl (λU=>rfl) (by rw[Wr,Xi];exact ozA ‹_› ‹_›)
 have e:slicePick xs.toArray none (some (n:Int)) none=(xs.take n).toArray:=by rw[slicePick_upto']
 rw[e] at N';exact CQ (o:=.list (vs.take n)) (t:=s'.toks) UJ L F' N' (Bf N λp hp=>Nat.lt_succ_of_lt (lt_size N p hp)) ⟨_,_,rfl,h2.take n⟩ q
end
theorem JB(x:Int):∀l:List Int,(Me x l).Perm (x::l)
 | []=>.refl _
 | y::r=>by
  unfold Me;split
  ·exact .refl _
  ·exact((JB x r).cons y).trans (.swap ..)
theorem Kg:∀l:List Int,(Jy l).Perm l
 | []=>.refl _
 | x::r=>(JB x _).trans ((Kg r).cons x)
theorem NJ{x:Int}:∀{l:List Int},l.Pairwise (·<=·)->(Me x l).Pairwise (·<=·)
 | [],_=>List.pairwise_singleton ..
 | y::r,h=>by
  refine Az (XS.mp h) λh1 h2=>?_;unfold Me;split
  ·rename_i hx;exact .cons (λz hz=>(Wb.mp hz).elim (λe=>e▸hx) λhz=>Wc hx (h1 z hz)) h
  ·rename_i hx;refine .cons (λz hz=>?_) (NJ h2);rcases Wb.mp ((JB x r).mem_iff.mp hz) with rfl|hz
   ·omega
   ·exact h1 z hz
theorem LU:∀l:List Int,(Jy l).Pairwise (·<=·)
 | []=>.nil
 | _::r=>NJ (LU r)
theorem O7{ys:List WO}{is:List Int}(h:IntsAre ys is):A2 VR (is.map .int) ys:=by
 induction h with
 | nil=>exact .nil
 | cons n t _ ih=>exact .cons (.int n t) ih
theorem LV(out:Array WO)(n:Nat):FV out.toList n=seqObj "list" out n:=by
 show seqObj "list" out.toList.toArray n=_
 exact Array.toArray_toList▸rfl
section
theorem P7{es:List (Int×V)}{kvs:List (Int×WO)}(h:A2 DR es kvs):∀{vs:List WO},vs.length=kvs.length->(∀(j:Nat) (v:WO),vs[j]?=some v->∃k x,kvs[j]?=some (k,x)/\(intKind WH w).is k v=true)->IntsAre vs (es.map (·.1)):=by
 induction h with
 | nil =>
  intro vs hl _;cases vs with
  | nil=>exact .nil
  | cons=>cases hl
 | @cons p q _ _ hp _ ih =>
  intro vs hl hv;cases vs with
  | nil=>cases hl
  | cons v vs =>
   refine Ly (hv 0 v rfl) λk x e hk=>?_;obtain rfl:=WT e;obtain⟨t,rfl⟩:=ZA hk;rw[XK,show p.1=k from hp.1]
   exact .cons k t (ih (aD hl) λj v e=>hv (j+1) v e)
theorem Ev.nmod(Z:Ev WH w K k C A c env κ sc){WI:BW}{a:Nat}{ob:Yx}(N:Zh c.UD c.L s.heap WI)(h1:(a,ob)∈WI):(a==sysModules)=false :=
 beq_eq_false_iff_ne.mpr λe=>by have hm:=Z.B.mods;replace hm:=(N.fresh h1)▸e▸hm;exact zT hm
theorem RS(i:SE WH w K k C e):SE WH w K k C (.sorted e):=λA env c m κ sc ρ Z l x H s Q Er o R h=>by
 refine AU λGG hG=>?_;refine Ij (Jl o) λo1 o2 o3 o4=>?_;refine Az (an o2) λost o2=>?_;clear o;refine GJ (AP o1) λy xs kws p z=>?_;obtain rfl:=z;refine hG ?_;clear hG GG;refine bi1 (y:=y) (xs:=xs) (kws:=kws) Z l i (.tail _ (.tail _ (.tail _ (.tail _ (.head _))))) rfl o2 o3 o4 R h λv y H s r R' q=>?_;refine AU λGG hG=>?_;obtain⟨a,U,rfl,ob,ho,es,g,is,rfl,hl,rfl,q⟩:=Bl q r;refine Jf (R'.pl ho rfl) λD WI ob N L h1 u=>?_;refine Aj u λkvs h2 h3=>?_;refine hG ?_;clear hG GG;have hlen:=h3.length;obtain⟨ep,hat⟩:=(kda_dict N h1 h2.is).dictAt;refine kdu_sorted (kdl_dict (knd:=intKind WH w) (kvs:=kvs) (ep:=ep) (Z.nmod N h1)) (Z.hh ost) R'.fr N hat (by rw[Xi];omega) λB h' tk vs F' N' lt hvl hv=>?_
 have hI:=P7 h3 hvl hv;have z:=N' (B,_) (.head _);have ho':h'.get? B=some (seqObj "list" vs.toArray 0):=z.1;refine wpAny_call_entry PyProof.Rows.slot_list_sort ⟨_,z.1,rfl⟩ PyProof.Rows.entry_list_sort (list_sort_tree ho' hI (by omega) λout ns' hO hp hP=>⟨.none,rfl,?_⟩) (PyProof.Rows.args_list_sort _)
 have e:ns'=Jy (es.map (·.1)):=lks_uniq (hp.trans (Kg _).symm) hP (LU _)
 subst e;obtain⟨ep',hat'⟩:=sortedHeap_at (out:=out) ho';have old:∀b ob,b≠B->h'.get? b=some ob->(sortedHeap h' B vs out).get? b=some ob:=λb ob hb hg=>(sortedHeap_old hb (Wn hg)).trans hg;have fr:B∉WI.map (·.1):=Bf N lt
 have hat2:(sortedHeap h' B vs out).get? B=some (FV out.toList ep'):=by
  rw[LV];exact hat'
 have F2:Fr c.UD c.L (sortedHeap h' B vs out) m:=⟨F'.ns.at' λo e=>old _ o (YN z.2.1) e,λb o e=>old b o (λq=>by replace e:=z.2.2▸q▸e;exact zN e) (F'.keep b o e),F'.above⟩
 refine CQ (s:=s) (o:=.list _) (t:=tk) R' L F2 (x:=B) (ob:=FV out.toList ep') ?_ fr ⟨out.toList,ep',rfl,O7 hO⟩ q;intro p hp;rcases Wb.mp hp with rfl|hp
 ·exact⟨hat2,z.2⟩
 ·have g:=N' p (.tail _ hp);exact⟨old _ _ (λe=>fr (e▸key hp)) g.1,g.2⟩
theorem any_at(k:Int):∀is:List Int,((List.range is.length).map λi=>is.getD i 0).any (·==k)=is.contains k
 | is=>by
  rw[ML]
  congr 1
  refine List.ext_getElem (by simp) λi h1 h2=>?_
  simp[Y4,h2]
theorem TI(i:SE WH w K k C e):SE WH w K k C (.setof e):=λA env c m κ sc ρ Z l x H s Q Er o R h=>by
 refine AU λGG hG=>?_;refine Ij (Jl o) λo1 o2 o3 o4=>?_;refine Az (an o2) λost o2=>?_;clear o;refine GJ (AP o1) λy xs kws p z=>?_;obtain rfl:=z;refine hG ?_;clear hG GG;refine bi1 (y:=y) (xs:=xs) (kws:=kws) Z l i (.tail _ (.tail _ (.tail _ (.tail _ (.tail _ (.head _)))))) rfl o2 o3 o4 R h λv y H s r R' q=>?_;refine AU λGG hG=>?_;refine FS (Bl q r) λa U u n=>?_;obtain rfl:=u;refine Aj n λob ho j=>?_;refine SD j λvs is g hi hl q=>?_;obtain rfl:=g;refine Aj (R'.lst (.inl ho)) λxs h1 h2=>?_;refine hG ?_;clear hG GG;have hI:=Jk h2 hi;have hl2:xs.length=is.length:=hI.length;refine call_set_list (Z.hh ost) h1 hI (by refine Wr.symm▸?_;exact ozR ‹_› ‹_›) λh' tk hS hk=>?_
 refine AU λGG hG=>?_;refine Aj hS.objOf λob g1 g2=>?_;obtain⟨D,WI,N,L⟩:=R'.led;refine hG ?_;clear hG GG;have kp:∀b o,s.heap.get? b=some o->h'.get? b=some o:=λb o e=>hk b o (Wn e) e;have fr:=Bf N (lt_size N);have above:s.heap.objs.size≠c.L:=λe=>by refine CT R'.lo λoL hL=>?_;exact absurd (Wn hL) (e▸XN _)
 have f0:c.UD.get? s.heap.objs.size=none:=by
  cases q:c.UD.get? s.heap.objs.size with
  | none=>rfl
  | some o=>exact absurd (Wn (R'.fr.keep _ _ q)) (XN _)
 refine CQ (o:=.set is) (t:=tk) R' L (R'.fr.keeps kp) (x:=s.heap.objs.size) (ob:=ob) ?_ fr ⟨(firstMet (λi=>is.getD i 0) xs.toArray.size).length,?_,WL (firstMet_length_le _ xs.toArray.size) (X6 (by exact Wr.symm▸hl2))⟩ q
 ·intro p hp;rcases mcP hp with rfl|hp
  ·exact⟨g1,above,f0⟩
  ·exact⟨kp _ _ (N p hp).1,(N p hp).2⟩
 ·have:(λk'=>(firstMet (λi=>is.getD i 0) xs.toArray.size).any (·==k'))=λk'=>is.contains k':=funext λk'=>by
   rw[firstMet_any,Wr,hl2,any_at]
  exact this▸g2
theorem RT{F:Nat->WO->Prop}{acc:Array WO}{n:Nat}(h:aN F acc n):∀{is:List Int},is.length=n->(∀(i:Nat) (v:WO) (j:Int),F i v->is[i]?=some j->∃t,v=Value.int j t)->A2 VR (is.map V.int) acc.toList:=by
 intro is hl hF;have key:∀(is:List Int) (vs:List WO),is.length=vs.length->(∀(i:Nat) (v:WO) (j:Int),vs[i]?=some v->is[i]?=some j->∃t,v=Value.int j t)->A2 VR (is.map V.int) vs:=by
  intro is
  induction is with
  | nil=>intro vs h _;cases vs with
   | nil=>exact .nil
   | cons=>cases h
  | cons j r ih=>intro vs h hF;cases vs with
   | nil=>cases h
   | cons v vs =>
    refine CT (hF 0 _ _ rfl rfl) λt z=>?_;obtain rfl:=z;exact .cons (.int j t) (ih vs (aD h) λi v j e1 e2=>hF (i+1) v j e1 e2)
 refine key is _ (hl.trans (h.1.symm.trans (Zu (xs:=acc)).symm)) λi v j e1 e2=>?_;exact hF i v j (h.2 i v (by exact Zb▸e1)) e2
theorem meth0{n:Nat}{ov:Expr}{ap p:Yt}{G:V->MH->Prop}{P:WO->WQ->Prop}(i:SE WH w K k C e)(Z:Ev WH w K k C A c env κ sc)(l:BR ρ m)(o4:C5 ov=true)(o5:(ap.endLine==p.line)=true)(o7:Be k sc e ov=true)(R:Aa WH w c m H s)(h:wE C κ e ρ H G)
 (q:∀v y H s',VR v y->Aa WH w c m H s'->G v H->BL H v n λf=>codeAny (model WH w) A (.call (.ref f) ⟨[y],[]⟩) (wants P Er) s'):wpAny (model WH w) A (eval (.Call (.Attribute ov (nm n) ap) [] [] p) env) P Er s:=by
 refine Xh (D0 (i.go Z l o7 R h) λv y H s r R' z=>?_) (ET (k:=k) (sc:=sc) (es:=[]) (ks:=[]) o4 o5 (WU rfl) rfl rfl);refine KY Z.F Z.B.kin R' r (q v y H s r R' z) λf hf z=>?_;exact callWith_K0 (Z.B.kin.keeps R'.fr.keep) hf (Yi z)
theorem RU(i:SE WH w K k C e):SE WH w K k C (.listof e):=λA env c m κ sc ρ Z l x H s Q Er o R h=>by
 refine AU λGG hG=>?_;refine Ij (Jl o) λo1 o2 o3 o4=>?_;refine Az (an o2) λost o2=>?_;clear o;refine GJ (AP o1) λy xs kws p z=>?_;obtain rfl:=z;refine hG ?_;clear hG GG;refine bi1 (y:=y) (xs:=xs) (kws:=kws) Z l i (.tail _ (.tail _ (.tail _ (.tail _ (.tail _ (.tail _ (.head _))))))) rfl o2 o3 o4 R h λv y H s r R' q=>?_;refine AU λGG hG=>?_;refine FS (Bl q r) λa U u n=>?_;obtain rfl:=u;refine Aj n λob ho g=>?_;refine x33 g λlo hi st f hs q=>?_;obtain rfl:=f;refine Jf (R'.pl ho rfl) λD WI ob N L h1 u=>?_;refine Fu u λUg Uy Uz n=>?_;obtain rfl:=n;refine hG ?_;clear hG GG;have hlen:=F1 (lo:=lo) (hi:=hi) hs.1;refine call_list_range (Z.hh ost) (N.get h1) (NI hs) hlen.symm ?_ λh' tk acc ep kp g1 hacc=>?_
 ·have:=Kf hs;omega
 have fr:=Bf N (lt_size N);have above:s.heap.objs.size≠c.L:=λe=>by refine MX R'.fr.ns λoL U U hL U=>?_;exact absurd (Wn hL) (e▸XN _)
 have f0:c.UD.get? s.heap.objs.size=none:=by
  cases q:c.UD.get? s.heap.objs.size with
  | none=>rfl
  | some o=>exact absurd (Wn (R'.fr.keep _ _ q)) (XN _)
 refine CQ (o:=.list _) (t:=tk) R' L (R'.fr.keeps kp) (x:=s.heap.objs.size) (ob:=FV acc.toList ep) ?_ fr ⟨acc.toList,ep,rfl,RT hacc rfl ?_⟩ q
 ·intro p hp;rcases Wb.mp hp with rfl|hp
  ·exact⟨by rw[LV];exact g1,above,f0⟩
  ·exact⟨kp _ _ (N p hp).1,(N p hp).2⟩
 ·rintro i v j ⟨t,rfl⟩ hj;have:=(W9.mp hj).2;unfold A5 at this;rw[List.getElem_map,Y2] at this;exact⟨t,by rw[<- this,Int.mul_comm]⟩
end
section
theorem e_str{n:Nat}:SE WH w K k C (.str n):=λA env c m κ sc ρ Z l x H s Q Er o R h=>by
 refine AU λGG hG=>?_;refine Az (an o) λo1 o2=>?_;refine Fu (AP o1) λk' n' p z=>?_;obtain rfl:=z;cases(eq_of_beq o2:k'=_)
 refine hG ?_;clear hG GG;exact Z3 ⟨_,_,.str _ _,R.tok _,h⟩
theorem ltr_at:∀n:Nat,n<8->∃c,(seqIndex? (n:Int) ("abcdefgh":W5).length).bind (("abcdefgh":W5).cps[·]?)=some c/\wd n=⟨#[c]⟩:=by
 intro n hn;have:∀n:Nat,n<8->(seqIndex? (n:Int) ("abcdefgh":W5).length).bind (("abcdefgh":W5).cps[·]?)=some (97+n)/\wd n=⟨#[97+n]⟩:=by decide +kernel
 exact⟨_,this n hn⟩
theorem e_ltr(i:SE WH w K k C e):SE WH w K k C (.ltr e):=λA env c m κ sc ρ Z l x H s Q Er o R h=>by
 refine AU λGG hG=>?_;refine Nk (QJ o) λo1 o2 o3 o4 o5=>?_;clear o;refine Fu (AP o1) λy z p u=>?_;obtain rfl:=u;refine Fu (AP (x:=y) o2) λk' n' p' u=>?_;obtain rfl:=u;cases(eq_of_beq o3:k'=_)
 refine hG ?_;clear hG GG;refine Subscript_ (Z3 (D0 (i.go Z l o5 (R.tok _) h) λv y H s r R' q=>?_));refine AU λGG hG=>?_;refine En (Bj q r) λj t u u' g=>?_;obtain rfl:=u;obtain rfl:=u';refine Az g λhj q=>?_;refine CT (Int.eq_ofNat_of_zero_le hj.1) λn f=>?_;obtain rfl:=f;have hn:n<8:=Xu.mp hj.2;refine Aj (ltr_at n hn) λcc h1 h2=>?_;refine hG ?_;clear hG GG;refine X8 (typeIs_str _ _ _) PySem.F.slot_str_getitem.lookup (P.getItem_str (c:=cc) ?_ h1 ⟨rfl,.str n,H,?_,R'.tok _,q⟩) ?_
 ·have a1:¬ ((n:Int) < -(2 ^ 63:Int)):=Yh.mpr (Wc (by decide) (X7 n))
  have a2:¬ ((n:Int) ≥ 2 ^ 63):=YK.mpr (Xm hj.2 (by decide))
  rw[decide_eq_false a1,decide_eq_false a2];rfl
 ·exact h2▸.str _ _
 ·cases z<;>first|rfl|exact zT (show false=true from o4)
theorem e_cat(ia:SE WH w K k C a)(ib:SE WH w K k C b):SE WH w K k C (.cat a b):=λA env c m κ sc ρ Z l x H s Q Er o R h=>by
 refine AU λGG hG=>?_;refine Ij (Jl o) λo1 o2 o3 o4=>?_;clear o;refine GJ (AP o1) λy op' z p u=>?_;obtain rfl:=u;cases(eq_of_beq o2:op'=_)
 refine hG ?_;clear hG GG;refine wpAny_BinOp (D0 (ia.go Z l o3 R h) λv y H s r R' h'=>D0 (ib.go Z l o4 R' h') λv' y' H' s' r' UJ q=>?_);refine AU λGG hG=>?_;refine FS (Bl q r) λa U u g=>?_;obtain rfl:=u;refine FS (Bl g r') λb U u g=>?_;obtain rfl:=u;refine SV g λvs us h1 h2 h3 h4 q=>?_;refine Aj (UJ.lst (.inl h1)) λxs k1 k2=>?_;refine Aj (UJ.lst (.inl h2)) λys l1 l2=>?_;obtain⟨D,WI,N,L⟩:=UJ.led;refine hG ?_;clear hG GG;have e1:=k2.length;have e2:=l2.length;exact add_lists UJ.fr N k1 l1 (λh' F' N'=>CQ (o:=.list _) (t:=s'.toks) UJ L F' N' (Bf N (lt_size N)) ⟨_,_,rfl,k2.append l2⟩ q) (by exact Xi.symm▸WL (YJ (e1▸h3) (e2▸h4)) (by decide))
theorem e_dget{d:E}(i:SE WH w K k C e)(ib:SE WH w K k C b)(id:SE WH w K k C d):SE WH w K k C (.dget e b d):=λA env c m κ sc ρ Z l x H s Q Er o R h=>by
 refine AU λGG hG=>?_;refine Tf (an8 o) λo1 o2 o3 o4 o5 o6 o7 o8=>?_;clear o;refine GJ (AP o1) λy xs kws p j=>?_;obtain rfl:=j;refine Fu (AP (x:=y) o2) λov z ap j=>?_;obtain rfl:=j;cases(eq_of_beq o3:z=_)
 cases(Ae o7:kws=[])
 refine hG ?_;clear hG GG;have o9:CP k sc [b,d] xs=true:=RK o8;have o10:xs.length<20:=Ly (Jm (l:=xs) o8) λy z e U=>e.symm▸WU rfl;refine Xh (D0 (i.go Z l o6 R h) λv y H s r R' q=>?_) (ET (k:=k) (sc:=sc) (es:=[b,d]) (ks:=[]) (ov:=ov) o4 o5 o10 o9 rfl);refine AU λGG hG=>?_;refine FS (Bl q r) λa U j g=>?_;obtain rfl:=j;refine Ly g λes g hw h'=>?_;refine Jf (R'.pl hw rfl) λD WI ob N L h1 n=>?_;refine Aj n λkvs gd g3=>?_;refine hG ?_;clear hG GG;have hD:=YT.mpr ⟨ob,N.get h1,gd.is⟩;refine getMethod_builtin hD.typeIs PySem.F.plainAttrs_dict Zc PySem.F.type_dict_get hD.mapOf.noDict ?_;refine Yp (P:=λU=>True) (by refine Ly (Jm (l:=xs) o8) λy z e U=>?_;rw[Dp o9,ES,e];rfl) (λh U=>⟨.machine,.inr (.inl rfl),ZG rfl⟩) (Go (es:=[b,d]) (ks:=[]) (kws:=[]) (c:=c) (m:=m) (Q:=λvs us H=>us=[]/\g2 (λu w H=>∃es g,H a=some (.dict es g)/\G8 u λi=>Q ((C7 i es).getD w) H) vs H) o9 rfl
  (LD (Q:=g2 _) (SH Z l (λe he=>(mcP he).elim (λe=>e▸ib) λhe=>msP he▸id) o9 R' h') λvs ys H UH r R z=>⟨vs,H,r,R,λs' R'=>XX ⟨[],_,.nil,R',rfl,z⟩⟩) ?_)
 rintro vs us ys zs UR UM UU UW UJ ⟨rfl,z⟩;cases UW
 refine AU λGG hG=>?_;refine x44 (UU.two z) λu w' VO Uc n ru rw' f=>?_;obtain rfl:=n;refine Ly f λes' g' hv q=>?_;refine En (Bj q ru) λi t u1 u2 q=>?_;obtain rfl:=u1;obtain rfl:=u2;refine FS (UJ.obs Z.B.mods a _ hv rfl) λob' k1 n hne=>?_;refine Aj n λkvs' k2 k3=>?_;refine hG ?_;clear hG GG;have g:=DR.valueAt k3 i;have hD':=YT.mpr ⟨ob',k1,k2.is⟩;refine⟨trivial,call_meetsIn Zc hD'.typeIs PySem.F.entry_dict_get (PySem.F.args_dict_get_3 _ _ _) (meets_dict_get_default (intKind WH w) a (ZR _ _ _ _) hne _) ⟨_,hD'.mapOf,?_⟩⟩;refine⟨(C7 i es').getD w',UR,?_,UJ.tok _,q⟩;cases d1:C7 i es'<;>cases d2:XU kvs' i<;>rw[d1,d2] at g<;>first|exact g.elim|exact rw'|exact g
end
theorem mtC:∀c:Cl,(Bh c AK=some AF\/Bh c AK=none)/\(Bh c AR=some AG\/Bh c AR=none):=by
 intro c;cases c<;>decide
theorem RV{H:MH}{v:V}{n f:Nat}{P:Prop}{K:Nat->Prop}(hf:∀c:Cl,Bh c n=some f\/Bh c n=none)(h:BL H v n λU=>P)(k:P->K f):BL H v n K:=by
 cases v with
 | ref a =>
  refine En h λc as h1 h2 h3=>?_;refine⟨c,as,h1,h2,?_⟩;refine Aj (QL h3) λU e p=>?_;rcases hf c with z|z
  ·exact z.symm▸k p
  ·exact sN e z
 | _=>exact h.elim
section
theorem Tw{es:List E}{y ov:Expr}{ap p1 p:Yt}{xs:List Expr}(Z:Ev WH w K k C A c env κ sc)(l:BR ρ m)(ost:k.strict=true)(i:SE WH w K k C e)(ihs:∀e∈es,SE WH w K k C e)(o2:GF sc y "list"=true)(o4:C5 ov=true)(o5:(ap.endLine==p1.line)=true)(o6:Be k sc e ov=true)(o8:CP k sc es xs=true)(o10:xs.length+([]:List Xg).length<20)
 (R:Aa WH w c m H s)(h:wE C κ e ρ H λv H=>BL H v AK λU=>Nb C κ es ρ H λus H=>C Ip (v::us) [] H Q):wpAny (model WH w) A (eval (.Call y [.Call (.Attribute ov (nm AK) ap) xs [] p1] [] p) env) (PE WH w c m Q) Er s:=by
 refine Az (Ia o2) λx o9=>?_;refine CT x λp' u=>?_;obtain rfl:=u;refine YW (Z.glB R (.tail _ (.tail _ (.tail _ (.tail _ (.tail _ (.tail _ (.head _))))))) o9 ?_);refine callWith_type1 (Xh (D0 (i.go Z l o6 R h) λv y H s r R' z=>?_) (ET (k:=k) (sc:=sc) (es:=es) (ks:=[]) o4 o5 o10 o8 rfl));refine KY (G:=λf=>f=AF/\Nb C κ es ρ H λus H=>C Ip (v::us) [] H Q) Z.F Z.B.kin R' r (RV (λc=>(mtC c).1) z λz=>⟨rfl,z⟩) λf hf z=>?_;obtain⟨rfl,z⟩:=z;refine F0 (es:=es) (ks:=[]) (kws:=[]) (c:=c) (m:=m) (Q:=λus zs H=>zs=[]/\C Ip (v::us) [] H Q) Z hf o8 rfl (LD (SH Z l ihs o8 R' z) λvs ys H UH r R z=>⟨vs,H,r,R,λs' R'=>XX ⟨[],_,.nil,R',rfl,z⟩⟩) λus zs ys ws UR UM UU UW UJ q=>?_;obtain⟨rfl,q⟩:=q;cases UW
 exact Yi (Z.alls ost Er c m UR UM v y us ys Q rfl UJ r UU q)
theorem OH{x:Expr}{n:Nat}(o:okM x n=true):∃ov ap xs p,x=.Call (.Attribute ov (nm n) ap) xs [] p/\C5 ov=true/\(ap.endLine==p.line)=true:=by
 refine AU λGG hG=>?_;refine x06 (an6 o) λo5 o6 o7 o8 o9 o11=>?_;refine GJ (AP o5) λf xs kws p1 u=>?_;obtain rfl:=u;refine Fu (AP (x:=f) o6) λov z ap u=>?_;obtain rfl:=u;cases(eq_of_beq o7:z=_)
 cases(Ae o11:kws=[])
 refine hG ?_;exact⟨ov,ap,xs,p1,rfl,o8,o9⟩
theorem e_lmt(i:SE WH w K k C e):SE WH w K k C (.lmt e):=λA env c m κ sc ρ Z l x H s Q Er o R h=>by
 refine AU λGG hG=>?_;refine Ij (Jl o) λo1 o2 o3 o4=>?_;clear o;refine Az (an o2) λost o2=>?_;refine GJ (AP o1) λy xs kws p u=>?_;obtain rfl:=u;cases(Ae o3:kws=[])
 refine Aj (Bv (l:=xs) o4) λy' u o4=>?_;obtain rfl:=u;refine Az (an o4) λU o4=>?_;refine DN (NE o4) λo5 o6 o7=>?_;refine Th (OH o5) λov ap xs p1 z o8 o9=>?_;obtain rfl:=z;cases(Ae o6:xs=[])
 refine hG ?_;clear hG GG;exact Tw (es:=[]) Z l ost i (λU h=>nomatch h) o2 o8 o9 o7 rfl (by decide) R h
theorem e_lmt1(i:SE WH w K k C e)(ib:SE WH w K k C b):SE WH w K k C (.lmt1 e b):=λA env c m κ sc ρ Z l x H s Q Er o R h=>by
 refine AU λGG hG=>?_;refine Ij (Jl o) λo1 o2 o3 o4=>?_;clear o;refine Az (an o2) λost o2=>?_;refine GJ (AP o1) λy xs kws p u=>?_;obtain rfl:=u;cases(Ae o3:kws=[])
 refine Aj (Bv (l:=xs) o4) λy' u o4=>?_;obtain rfl:=u;refine Az (an o4) λU o4=>?_;refine DN (NE o4) λo5 o7 o6=>?_;refine Th (OH o5) λov ap xs p1 z o8 o9=>?_;obtain rfl:=z;have o10:xs.length+([]:List Xg).length<20:=Aj (Bv (l:=xs) o6) λy e U=>e.symm▸WU rfl;refine hG ?_;clear hG GG;exact Tw (es:=[b]) Z l ost i (λe he=>msP he▸ib) o2 o8 o9 o7 (OE (xs:=xs) o6) o10 R h
end
end
theorem CA{α:Type}{x:W5}{k:α}:∀{l:List (W5×α)},l.lookup x=some k->(x,k)∈l
 | [],h=>zN h
 | (n,j)::r,h=>by
  rw[W1] at h;refine bCs (x==n) (λe=>?_) λe=>?_
  ·replace h:=e▸h;obtain rfl:=WT h;exact(eq_of_beq e)▸.head _
  ·replace h:=e▸h;exact .tail _ (CA h)
theorem MP{env:Zp}{f:W5×YS->List (W5×XQ)->aC (ForInStep (List (W5×XQ)))}(h1:∀n k cs,k≠.free->f (n,k) cs=pure (.yield cs))(h2:∀n a cs,env.cells.lookup n=some a->f (n,.free) cs=pure (.yield ((n,a)::cs))) :
 ∀(names:List (W5×YS)) (cs:List (W5×XQ)),(∀p∈names,p.2=.free->∃a,env.cells.lookup p.1=some a)->∃cl,forIn names cs f=pure cl/\∀x,(cs.lookup x=env.cells.lookup x\/∃p∈names,p.1=x/\p.2=.free)->cl.lookup x=env.cells.lookup x
 | [],cs,_=>⟨cs,rfl,λx h=>h.elim id λz=>Aj z λU h U=>nomatch h⟩
 | (n,k)::r,cs,h=>by
  by_cases hk:k=.free
  ·subst hk;refine CT (h _ (.head _) rfl) λa ha=>?_;refine Aj (MP h1 h2 r ((n,a)::cs) λp hp=>h p (.tail _ hp)) λcl e g=>?_;refine⟨cl,by rw[YC,h2 _ _ _ ha,pure_bind];exact e,λx hx=>g x ?_⟩
   have hn:((n,a)::cs).lookup n=env.cells.lookup n:=by rw[W1,beq_self_eq_true,ha]
   rcases hx with hx|⟨p,hp,rfl,hf⟩
   ·by_cases e:x=n
    ·subst e;exact .inl hn
    ·exact .inl (by rw[W1,beq_eq_false_iff_ne.mpr e];exact hx)
   ·rcases mcP hp with rfl|hp
    ·exact .inl hn
    ·exact .inr ⟨p,hp,rfl,hf⟩
  ·refine Aj (MP h1 h2 r cs λp hp=>h p (.tail _ hp)) λcl e g=>?_;refine⟨cl,by rw[YC,h1 _ _ _ hk,pure_bind];exact e,λx hx=>g x ?_⟩
   rcases hx with hx|⟨p,hp,rfl,hf⟩
   ·exact .inl hx
   ·rcases mcP hp with rfl|hp
    ·exact absurd hf hk
    ·exact .inr ⟨p,hp,rfl,hf⟩
theorem clos{scope:XB}{env:Zp}(h:∀p∈scope.names,p.2=ZE->∃a,env.cells.lookup p.1=some a):∃cl,closureFor scope env=pure cl/\∀p∈scope.names,p.2=.free->cl.lookup p.1=env.cells.lookup p.1:=by
 have:=@MP env (λx r=>match x with
  | (name,kind)=>if(kind==.free)=true then do let c <- cellOf env name;pure (Xt ((name,c)::r)) else pure (Xt r)) (λn k cs hk=>?_) (λn a cs ha=>?_) scope.names [] h
 ·refine Aj this λcl e g=>?_;refine⟨cl,?_,λp hp hf=>g p.1 (.inr ⟨p,hp,rfl,hf⟩)⟩;exact(congrArg (·>>=λcs=>pure cs) e).trans (pure_bind _ _)
 ·have:(k==ZE)=false:=by cases k<;>first|rfl|exact absurd rfl hk
  simp only[this,Y5,if_false]
 ·show(do let c <- cellOf env n;pure (Xt ((n,c)::cs)):aC (ForInStep (List (W5×XQ))))=_
  unfold cellOf;exact ha.symm▸pure_bind _ _
theorem Aa.enterL{WH:Wm}{w:WW}{H:MH}{c:Cx}{m m':W5->Option WO}{s:WQ}(R:Aa WH w c m H s){h':Xy}(hk:∀b o,s.heap.get? b=some o->h'.get? b=some o)(hns:h'.Ns s.heap.objs.size m') :
 ∃oL D WI,Fr c.UD s.heap.objs.size h' m'/\Zh c.UD s.heap.objs.size h' WI/\FZ WH w c.UD D WI ((c.L,oL)::c.X) H/\(∀p∈WI,p.1<s.heap.objs.size) /\
  ∀m'' H'' s'',Aa WH w (c.lx (s.heap.objs.size) ((c.L,oL)::c.X)) m'' H'' s''->Aa WH w c m H'' s'':=by
 refine AU λGG hG=>?_;refine Jf R.fr.ns λoL es ep hL hd hsk hf=>?_;obtain⟨D,WI,N,L⟩:=R.led;refine hG ?_;clear hG GG;have Llt:c.L<s.heap.objs.size:=Wn hL;have nL:c.L∉WI.map (·.1):=λq=>by refine Aj (mmP q) λp hp e=>?_;exact(N p hp).2.1 e
 have bL:c.UD.get? c.L=Option.none:=by
  cases q:c.UD.get? c.L with
  | none=>rfl
  | some o=>exact absurd (Wn q) (Ti R.fr.above)
 refine⟨oL,D,(c.L,oL)::WI,⟨hns,λb o e=>hk _ _ (R.fr.keep b o e),WL R.fr.above (Xe Llt)⟩,?_,L.addX nL bL,λp hp=>?_,λm'' H'' s'' R''=>?_⟩
 ·intro p hp;rcases mcP hp with rfl|hp
  ·exact⟨hk _ _ hL,Xw Llt,bL⟩
  ·exact⟨hk _ _ (N p hp).1,Xw (Wn (N p hp).1),(N p hp).2.2⟩
 ·rcases mcP hp with rfl|hp
  ·exact Llt
  ·exact Wn (N p hp).1
 ·refine AU λGG hG=>?_;obtain⟨D',WK,N',L'⟩:=R''.led;refine DN (L'.xs (c.L,oL) (.head _)) λx1 x2 x3=>?_;refine hG ?_;clear hG GG;have kp:∀p∈WK,p.1≠c.L->p∈WK.filter λp=>p.1≠c.L:=λp hp q=>XL.mpr ⟨hp,decide_eq_true q⟩;refine⟨⟨⟨oL,es,ep,N'.get x1,hd,hsk,hf⟩,R''.fr.keep,R.fr.above⟩,⟨D',WK.filter λp=>p.1≠c.L,?_,L'.nd.sublist (Yj _ X0),λb o e=>(L'.ob b o e).mono (λc as z=>⟨rfl,λp hp q=>kp p hp (q▸x3 b c as (z▸e))⟩) λp hp q=>kp p hp λz=>?_,L'.dj,λp hp=>?_⟩,R''.gs,R''.dr,R''.os⟩
  ·intro p hp;refine Az (mfP hp) λhp1 hp2=>?_;exact⟨(N' p hp1).1,of_decide_eq_true hp2,(N' p hp1).2.2⟩
  ·exact zN (x2▸z▸q▸e)
  ·refine DN (L'.xs p (.tail _ hp)) λy1 y2 y3=>?_;exact⟨kp p y1 λz=>nL (z▸key (L.xs p hp).1),y2,y3⟩
theorem Aa.enter{WH:Wm}{w:WW}{H:MH}{c:Cx}{m m':W5->Option WO}{s:WQ}(R:Aa WH w c m H s){h':Xy}{t:Nat}(hk:∀b o,s.heap.get? b=some o->h'.get? b=some o)(hns:h'.Ns s.heap.objs.size m') :
 ∃oL,Aa WH w (c.lx (s.heap.objs.size) ((c.L,oL)::c.X)) m' H {s with heap:=h',toks:=t} /\
  ∀m'' H'' s'',Aa WH w (c.lx (s.heap.objs.size) ((c.L,oL)::c.X)) m'' H'' s''->Aa WH w c m H'' s'' :=
 x35 (R.enterL hk hns) λoL D WI F N L U back =>
 ⟨oL,⟨F,⟨D,WI,N,L⟩,R.gs,R.dr,R.os⟩,back⟩
section
variable{WH:Wm}{w:WW}{c:Cx}{m m':W5->Option WO}{H H':MH}{s s':WQ}
theorem Aa.swap{gL:XQ}{obL:Yx}{X':BW}(R:Aa WH w c m H s)(hX:(gL,obL)∈c.X)(hn:s.heap.Ns gL m')(ab:c.UD.objs.size<=gL)(hX':∀p∈X',p∈c.X/\p.1≠gL):∃oL,s.heap.get? c.L=some oL/\Aa WH w (c.lx (gL) ((c.L,oL)::X')) m' H s:=by
 refine AU λGG hG=>?_;refine Jf R.fr.ns λoL es ep hL hd hsk hf=>?_;obtain⟨D,WI,N,L⟩:=R.led;refine DN (L.xs _ hX) λx1 x2 x3=>?_;refine hG ?_;clear hG GG;have nL:c.L∉WI.map (·.1):=λq=>by refine Aj (mmP q) λp hp e=>?_;exact(N p hp).2.1 e
 have bL:c.UD.get? c.L=Option.none:=by
  cases q:c.UD.get? c.L with
  | none=>rfl
  | some o=>exact absurd (Wn q) (Ti R.fr.above)
 have kp:∀p∈WI,p.1≠gL->p∈(c.L,oL)::WI.filter λp=>p.1≠gL:=λp hp q=>.tail _ (XL.mpr ⟨hp,decide_eq_true q⟩);have nf:c.L∉(WI.filter λp=>p.1≠gL).map (·.1):=λq=>nL ((X0.map _).subset q)
 refine⟨oL,hL,⟨hn,R.fr.keep,ab⟩,⟨D,(c.L,oL)::WI.filter λp=>p.1≠gL,λp hp=>?_,ncR ⟨nf,L.nd.sublist (Yj _ X0)⟩,λb o e=>(L.ob b o e).mono (λcl as z=>⟨rfl,λp hp q=>kp p hp (q▸x3 b cl as (z▸e))⟩) λp hp q=>kp p hp λz=>?_,L.dj,λp hp=>?_⟩,R.gs,R.dr,R.os⟩
 ·rcases mcP hp with rfl|hp
  ·exact⟨hL,λz=>nL ((show c.L=gL from z)▸key x1),bL⟩
  ·refine Az (mfP hp) λh1 h2=>?_;exact⟨(N p h1).1,of_decide_eq_true h2,(N p h1).2.2⟩
 ·exact zN (x2▸z▸q▸e)
 ·rcases mcP hp with rfl|hp
  ·exact⟨.head _,L.none nL bL,λa cl as e z=>nL (show c.L∈_ from(show D a=c.L from z)▸L.dkey e)⟩
  ·refine Az (hX' p hp) λh1 h2=>?_;refine DN (L.xs p h1) λy1 y2 y3=>?_;exact⟨kp p y1 h2,y2,y3⟩
theorem Aa.adopt{S:XQ}{ob:Yx}{o:O}(R:Aa WH w (c.x ((S,ob)::c.X)) m H s)(hX:∀p∈c.X,p.1≠S)(h:OB WH w o ob):Aa WH w c m (H.put S o) s/\H S=none:=by
 refine AU λGG hG=>?_;obtain⟨D,WI,N,L⟩:=R.led;refine DN (L.xs _ (.head _)) λx1 x2 x3=>?_;refine hG ?_;clear hG GG;exact⟨⟨R.fr,⟨D,WI,N,(L.dropX λp hp=>.tail _ hp).wr L.nd (λp hp U=>hp) ⟨ob,x1,h⟩ x3 hX⟩,R.gs,R.dr,R.os⟩,x2⟩
end
theorem NK{g:W5×YS->W5×YS}(h1:∀p,(g p).1=p.1):∀{l:List (W5×YS)} {x:W5} {k:YS},(l.map g).lookup x=some k->∃k',l.lookup x=some k'/\(g (x,k')).2=k
 | [],_,_,h=>zN h
 | (n,j)::r,x,k,h=>by
  have e:g (n,j)=(n,(g (n,j)).2):=Prod.ext (h1 _) rfl;rw[XK,e,W1] at h;rw[W1];cases hx:x==n with
  | true=>rw[hx] at h;exact⟨j,rfl,by rw[eq_of_beq hx];exact WT h⟩
  | false=>rw[hx] at h;exact NK h1 h
section
variable{WH:Wm}{w:WW}{A:XG}{env:Zp}{c:Cx}{m:W5->Option WO}{κ:Kp}{sc scope:XB}{K:Xb}{k:Ck}{C:CB}{ρ:As}{e ke:E}{cs:List T}{z:Nat}{H:MH}{s:WQ}{Er:WO->WQ->Prop}{Q:V->MH->Prop}{a:Nat}{ob:O}{vs:List V}
theorem Kh(h:env.scope=sc):relabel scope env=rl scope sc:=by subst h;rfl
theorem O8{x:W5}{kd:YS}(S:∀p∈scope.names,p.2≠YD)(h:(rl scope sc).names.lookup x=some kd)(hk:kd=.cell\/kd=.free):scope.names.lookup x=some .free:=by
 refine Aj (NK (λp=>by dsimp only;split<;>rfl) (show(scope.names.map _).lookup x=some kd from h)) λk' h1 h2=>?_
 dsimp only at h2;split at h2
 ·rename_i hc;rw[X2,X2] at hc;exact h1.trans (eq_of_beq hc.1.1)
 ·rcases hk with rfl|rfl
  ·exact absurd h2 (S _ (CA h1))
  ·rw[h1];exact congrArg some h2
theorem EO.clos(O:EO env c.L κ sc)(S:TB sc scope z):∃cl,closureFor scope env=pure cl/\∀p∈scope.names,p.2=.free->cl.lookup p.1=env.cells.lookup p.1 :=
 Mine.clos λp hp hf=>O.icl (p.1,.cell) (CA (S.fr p hp hf)) rfl
theorem EO.comp{cl:List (W5×XQ)}{L':XQ}(O:EO env c.L κ sc)(S:TB sc scope z)(hcl:∀p∈scope.names,p.2=.free->cl.lookup p.1=env.cells.lookup p.1):EO (compEnvC scope cl L' env) L' κ (rl scope sc) where
 isc:=Kh O.isc
 ikd:=S.kd
 ilo:=rfl
 igl:=O.igl
 ibi:=O.ibi
 ice:=λx a g h=>by
  have hf:scope.names.lookup (nm x)=some .free:=h.elim (λh=>O8 S.nc h (.inl rfl)) λh=>O8 S.nc h (.inr rfl);have hm:=CA hf;exact(hcl _ hm rfl).trans (O.ice _ _ g (.inl (S.fr _ hm rfl)))
 icl:=λp hp e=>by
  refine Aj (Xd.mp hp) λp' hp' y=>?_;obtain rfl:=y;have hf:p'.2=.free:=by
   dsimp only at e;split at e
   ·rename_i hc;rw[X2,X2] at hc;exact eq_of_beq hc.1.1
   ·exact absurd e (S.nc _ hp')
  have e1:(if(p'.2==ZE&&sc.kind==.function&&sc.names.lookup p'.1==some .cell)=true then(p'.1,YD) else(p'.1,p'.2)).1=p'.1:=by split<;>rfl
  refine CT (O.icl (p'.1,.cell) (CA (S.fr _ hp' hf)) rfl) λa ha=>?_;exact⟨a,(congrArg (λz=>cl.lookup z) e1).trans ((hcl _ hp' hf).trans ha)⟩
theorem OJ{x:W5}(O:EO env c.L κ sc)(h:scope.names.lookup x=some .local):(rl scope sc).names.lookup x=some .local:=by
 exact(Kh O.isc)▸lookup_relabel_local h
theorem Aa.mv{X X':BW}{I:XQ}{ob ob':Yx}{h':Xy}{t:Nat}(R:Aa WH w (c.x X) m H s)(hI:(I,ob)∈X)(hs:YO I s.heap h')(ho:h'.get? I=some ob')(hX:∀p∈X',p=(I,ob')\/p∈X/\p.1≠I):Aa WH w (c.x X') m H {s with heap:=h',toks:=t}:=by
 have R1:=R.dropX' (X':=(I,ob)::X.filter λp=>decide (p.1≠I)) λp hp=>(mcP hp).elim (λe=>e▸hI) λhp=>(mfP hp).1;have R2:=Aa.moveX (c:=c) (t:=t) R1 (λp hp=>of_decide_eq_true (mfP hp).2) hs ho;exact R2.dropX' λp hp=>(hX p hp).elim (λe=>e▸.head _) λh=>.tail _ (XL.mpr ⟨h.1,decide_eq_true h.2⟩)
theorem O9{X₀:BW}{I i:Nat}{o:O}{oi:Yx}{P:WO->WQ->Prop}(R:Aa WH w (c.x ((I,oi)::X₀)) m H s)(it:NH a i o oi)(q:P (.ref I) s):wpAny (model WH w) A (pyIter (.ref I)) P Er s:=by
 have hI:=R.xget;cases o with
 | list=>exact wpAny_pyIter_listiter ⟨oi,hI,it⟩ q
 | dict=>exact wpAny_pyIter_keyiter ⟨oi,hI,it⟩ q
 | range=>subst it;exact wpAny_pyIter_rangeiter hI q
 | _=>exact it.elim
theorem NL{f:Expr->Bool->aC (ForInStep Bool)}(h:∀c,f c false=pure (.yield false)):∀xs:List Expr,(forIn xs false f:aC Bool)=pure false
 | []=>rfl
 | x::r=>by rw[YC,h,pure_bind];exact NL h r
theorem RX{m:W5->Option WO}(Z:Ev WH w K k C A c env κ sc)(l:BR ρ m):∀{ts:List T},(∀t∈ts,ST WH w K k C t)->∀{xs:List Expr} {H:MH} {s:WQ} {Q:Bool->MH->Prop},HJ k sc ts xs=true->Aa WH w c m H s->SQ C κ ts ρ H Q ->
 wpAny (model WH w) A (forIn xs true λc r=>if r=true then do let ok <- isTrue c env (eval c env);pure (Xt ok) else pure (Xt r)) (PB WH w c m Q) Er s
 | [],_,[],H,s,Q,_,R,h=>W6 ⟨H,R,h⟩
 | [],_,_::_,_,_,_,o,_,_=>zT o
 | _::_,_,[],_,_,_,o,_,_=>zT o
 | t::ts,i,x::xs,H,s,Q,o,R,h=>by
  refine Az (an (show(QK k sc t x&&HJ k sc ts xs)=true from o)) λo1 o2=>?_
  rw[YC];refine Wi ?_;refine(if_pos rfl).symm▸Wi (O5 (i t (.head _) _ _ _ _ _ _ _ Z l _ _ _ _ _ o1 R h) λb Uj UH UP UX=>W6 ?_);dsimp only;cases b with
  | true=>exact RX Z l (λt ht=>i t (.tail _ ht)) o2 UP UX
  | false=>rw[NL λc=>if_neg Xn];exact W6 ⟨Uj,UP,UX⟩
end
section
variable{WH:Wm}{w:WW}{A:XG}{env:Zp}{c:Cx}{m:W5->Option WO}{κ:Kp}{sc scope:XB}{K:Xb}{k:Ck}{C:CB}{ρ:As}{e ke it:E}{cs:List T}{z:Nat}{H:MH}{s:WQ}{Er:WO->WQ->Prop}{Q:V->MH->Prop}{vs:List V}
section
variable{a:Nat}{o:O}
theorem Aa.nx(R:Aa WH w c m H s):s.heap.objs.size≠c.L/\(∀p∈c.X,p.1<s.heap.objs.size/\p.1≠c.L)/\c.L<s.heap.objs.size:=by
 obtain⟨D,WI,N,L⟩:=R.led;refine CT R.lo λoL hL=>?_;have hlt:=Wn hL;exact⟨λe=>XN _ (e▸hlt),λp hp=>⟨lt_size N p (L.xs p hp).1,(N p (L.xs p hp).1).2.1⟩,hlt⟩
theorem RY{cl:List (W5×XQ)}{ob:Yx}{F:Zp->WQ->Prop}(R:Aa WH w c m H s)(S:TB sc scope z)(hf:ob.isFreed=false)
 (q:∀UN UI oL m' UT,UN=s.heap.objs.size->s.heap.get? c.L=some oL->(∀p∈c.X,p.1≠UN)->UN≠c.L->Aa WH w (c.lx UI ((c.L,oL)::(UN,ob)::c.X)) m' H UT->F (newEnv scope UI env.globals cl env.qual none .none (some env) env.builtins) UT) :
 wpAny (model WH w) A (newFunctionEnv scope env.globals cl [] env.qual none .none (some env)) F Er {s with heap:=s.heap.push ob}:=by
 refine DN R.nx λn1 n2 n3=>?_;obtain⟨D,WI,N,L⟩:=R.led;have R1:Aa WH w (c.x ((s.heap.objs.size,ob)::c.X)) m H {s with heap:=s.heap.push ob}:=R.addX' (t:=s.toks) L (R.fr.push _) (N.push R.fr _ hf) (Bf N (lt_size N))
 refine Yr S.nc (by intro y hy;nomatch hy) (λUX hns hsb=>?_) S.kd
 obtain⟨oL,hL⟩:=R.lo;have kp:∀b o,(s.heap.push ob).get? b=some o->UX.get? b=some o:=λb o e=>hsb.extBut b o (Xw (Wn e)) (Wv _ e);refine Aj (R1.enter (t:=s.toks+([]:List (W5×WO)).length) kp hns) λoL' R2 U=>?_;obtain⟨D',WK,N',L'⟩:=R2.led;have e1:=N'.get (L'.xs _ (.head _)).1;have e2:=kp _ _ (Wv ob hL);obtain rfl:=WT (e1.symm.trans e2);exact q _ _ _ _ _ rfl hL (λp hp=>Xw (n2 p hp).1) n1 R2
theorem P8{UO:WQ}{UG:MH}{UN UI:XQ}{oL obA:Yx}{m':W5->Option WO}(Uu:Aa WH w c m UG UO)(hL:UO.heap.get? c.L=some oL)(R:Aa WH w (c.lx UI ((UN,obA)::(c.L,oL)::c.X)) m' H s)(hA:OB WH w o obA)(nD:∀p∈c.X,p.1≠UN)(nL:UN≠c.L) :
 ∃obC,Aa WH w (c.x ((UI,obC)::c.X)) m (H.put UN o) s/\(∀p∈c.X,p.1≠UI)/\H UN=none/\s.heap.Ns UI m':=by
 obtain⟨D,WI,N,L⟩:=R.led;have x1:=λp hp=>(N p (L.xs p hp).1).2.1;have gL:=N.get (L.xs _ (.tail _ (.head _))).1;have hn:s.heap.Ns c.L m:=Uu.fr.ns.at' λo e=>by obtain rfl:=WT (hL.symm.trans e);exact gL
 refine Aj (R.swap (gL:=c.L) (obL:=oL) (m':=m) (X':=(UN,obA)::c.X) (.tail _ (.head _)) hn Uu.fr.above λp hp=>?_) λoC hC R2=>?_
 ·rcases mcP hp with rfl|hp
  ·exact⟨.head _,nL⟩
  ·exact⟨.tail _ (.tail _ hp),(Uu.nx.2.1 p hp).2⟩
 ·have R3:=R2.dropX' (X':=(UN,obA)::(UI,oC)::c.X) λp hp=>(mcP hp).elim (λe=>e▸.tail _ (.head _)) λhp=>(mcP hp).elim (λe=>e▸.head _) λhp=>.tail _ (.tail _ hp);have R4:=Aa.adopt (c:=c.x ((UI,oC)::c.X)) R3 (λp hp=>(mcP hp).elim (λe=>e▸λz=>x1 _ (.head _) z.symm) λhp=>nD p hp) hA;exact⟨oC,R4.1,λp hp=>x1 p (.tail _ (.tail _ hp)),R4.2,R.fr.ns⟩
theorem Lj.le(h:Lj o vs):vs.length<=1000:=by
 cases h with
 | list h=>exact h
 | dict h=>rw[WS];exact h
 | range h=>rw[WS];exact Kf h
theorem Tx{sc':XB}{env':Zp}{L':XQ}(Z:Ev WH w K k C A c env κ sc)(X:BW)(O:EO env' L' κ sc'):Ev WH w K k C A (c.lx L' X) env' κ sc':=⟨Z.F,Z.B,O,Z.hh,Z.un,Z.calls,Z.alls,Z.atms⟩
end
inductive CI {α:Type} (WH:Wm) (w:WW) (c:Cx) (a J UN UI:XQ) (oL:Yx) (o:O) (vs:List V) (Ac:List α->Yx->Prop) (I:Nat->List α->MH->Prop) (n:Nat) (s:WQ):Prop
 | mk (i:Nat) (l:List α) (ob oi:Yx) (m:W5->Option WO) (H:MH) (hn:n=vs.length-i) (hi:i<=vs.length) (hl:l.length<=i) (it:NH a i o oi) (r:Ac l ob) (R:Aa WH w (c.lx UI ((J,oi)::(UN,ob)::(c.L,oL)::c.X)) m H s) (h:I i l H):CI WH w c a J UN UI oL o vs Ac I n s
structure Ap(c:Cx)(J UN:XQ):Prop where
 dJ:UN≠J
 lJ:c.L≠J
 xJ:∀p∈c.X,p.1≠J
 dL:UN≠c.L
 xD:∀p∈c.X,p.1≠UN
section
variable{a J UN UI:XQ}{oL ob:Yx}{o:O}
theorem Ap.hX(p:Ap c J UN):∀q∈(UN,ob)::(c.L,oL)::c.X,q.1≠J:=λq hq=>(mcP hq).elim (λe=>e▸p.dJ) λhq=>(mcP hq).elim (λe=>e▸p.lJ) (p.xJ q)
theorem Ap.grow{ob' oi:Yx}{h':Xy}{t:Nat}(p:Ap c J UN)(R:Aa WH w (c.lx UI ((J,oi)::(UN,ob)::(c.L,oL)::c.X)) m H s)(hs:YO UN s.heap h')(ho:h'.get? UN=some ob'):Aa WH w (c.lx UI ((J,oi)::(UN,ob')::(c.L,oL)::c.X)) m H {s with heap:=h',toks:=t} :=
 Aa.mv (c:=c.lx UI []) R (.tail _ (.head _)) hs ho λq hq=>(mcP hq).elim (λe=>.inr (by subst e;exact⟨.head _,p.dJ.symm⟩)) λhq=>(mcP hq).elim .inl λhq=>(mcP hq).elim (λe=>.inr (by subst e;exact⟨.tail _ (.tail _ (.head _)),p.dL.symm⟩)) λhq=>.inr ⟨.tail _ (.tail _ (.tail _ hq)),p.xD q hq⟩
theorem Ap.get{oi:Yx}(R:Aa WH w (c.lx UI ((J,oi)::(UN,ob)::(c.L,oL)::c.X)) m H s):s.heap.get? UN=some ob:=by
 obtain⟨D,WI,N,L⟩:=R.led;exact N.get (L.xs _ (.tail _ (.head _))).1
theorem PA{α:Type}{Ac:List α->Yx->Prop}{I:Nat->List α->MH->Prop}{n:Nat}{RN EM:WQ->Prop}{inner:V->MH->(α->MH->Prop)->Prop}{cenv:Zp}{sc':XB}{px:Yt}{ifs:List Expr}(Z:Ev WH w K k C A (c.lx UI []) cenv κ sc')(ost:k.strict=true)(p:Ap c J UN)(hx:sc'.names.lookup (nm z)=some .local)(oc:HJ k sc' cs ifs=true)(its:∀t∈cs,ST WH w K k C t)
 (hi:Lj o vs)(hI:∀i l H v,vs[i]?=some v->I i l H->H a=some o/\SQ C κ cs [(z,v)] H λt H=>Jh t (inner v H λx H=>I (i+1) (l++[x]) H) (I (i+1) (l++[]) H))(hE:∀l H,I vs.length l H->H a=some o)
 (em:∀i l ob oi m H US u,i<vs.length->l.length<=i->BR [(z,u)] m->Ac l ob->Aa WH w (c.lx UI ((J,oi)::(UN,ob)::(c.L,oL)::c.X)) m H US->inner u H (λx H=>I (i+1) (l++[x]) H) ->
  (∀x ob' m' H' Ui,Ac (l++[x]) ob'->Aa WH w (c.lx UI ((J,oi)::(UN,ob')::(c.L,oL)::c.X)) m' H' Ui->I (i+1) (l++[x]) H'->∃m,m<n/\CI WH w c a J UN UI oL o vs Ac I m Ui)->EM US)
 (fin:∀l ob m H US,l.length<=vs.length->Ac l ob->Aa WH w (c.lx UI ((UN,ob)::(c.L,oL)::c.X)) m H US->I vs.length l H->RN US)(inv:CI WH w c a J UN UI oL o vs Ac I n s) :
 wpAny (model WH w) A (pyNext (.ref J)) (λr UH=>match r with
  | none=>RN UH
  | some v=>wpAny (model WH w) A (assign (.Name (nm z) px) cenv v) (λU UM =>
   wpAny (model WH w) A (forIn ifs true λc r=>if r=true then do let ok <- isTrue c cenv (eval c cenv);pure (Xt ok) else pure (Xt r)) (λok US =>
    if ok=true then EM US else ∃m,m<n/\CI WH w c a J UN UI oL o vs Ac I m US) Er UM) Er UH) Er s:=by
 refine AU λGG hG=>?_;obtain⟨i,l,ob,oi,m,H,hn,hle,hl,it,r,R,h⟩:=inv;refine hG ?_;clear hG GG;by_cases hlt:i<vs.length
 ·refine Az (hI i l H _ (Wu hlt) h) λha hb=>?_;refine MN (c:=c.lx UI []) R p.hX ha hi it (Wu hlt) λy oi' UH ry it' UP=>?_;refine Xx (Cr (ρ:=[]) (Ic Z _).O hx (λU U e=>zN e) UP ry λUv UM Uf UJ=>?_);refine O5 (RX (Ic Z _) Uf its oc UJ hb) λb Ud US UQ Ua=>?_;have dec:vs.length-(i+1)<n:=ozD hn hlt;cases b with
  | true=>exact(if_pos rfl).symm▸em i l ob oi' Uv Ud US _ hlt hl Uf r UQ Ua λx ob' m' H' Ui r' Ue h'=>⟨_,dec,i+1,_,ob',oi',m',H',rfl,hlt,(by rw[Ws];exact Xk hl),it',r',Ue,h'⟩
  | false=>exact(if_neg Xn).symm▸⟨_,dec,i+1,l,ob,oi',Uv,Ud,rfl,hlt,Wf hl,it',r,UQ,(by rw[XI] at Ua;exact Ua)⟩
 ·have e:i=vs.length:=ozE hle hlt;subst e;exact MO (c:=c.lx UI []) (Z.hh ost) R p.hX (hE l H h) hi it λUT UZ=>fin l ob m H UT hl r UZ h
end
theorem PC{v:V}{K:Nat->Prop}(h:D7 v K):∃i,v=.ref i/\K i:=by
 cases v with
 | ref i=>exact⟨i,rfl,h⟩
 | _=>exact h.elim
theorem PF{α:Type}{H:MH}{v:V}{body:V->MH->(Option α->MH->Prop)->Prop}{Q:List α->MH->Prop}(h:JK H v body Q):∃a o vs,v=.ref a/\H a=some o/\Lj o vs /\
 ∃I:Nat->List α->MH->Prop,I 0 [] H/\(∀i l H v,vs[i]?=some v->I i l H->H a=some o/\body v H λx H=>I (i+1) (l++x.toList) H)/\(∀l H,I vs.length l H->H a=some o/\Q l H):=by
 unfold JK at h;refine Aj (PC h) λa e h=>?_;exact HI h λo vs h=>⟨a,o,vs,e,h⟩
section
variable{a:Nat}{ob:O}
noncomputable abbrev CFin(WH:Wm)(w:WW)(c:Cx)(m:W5->Option WO)(RR:WO->XQ->Yk->WQ->Prop)(o:O)(H':MH):Prop :=
 ∀UN UI s' m' obC,Aa WH w (c.x ((UI,obC)::c.X)) m (H'.put UN o) s'->(∀p∈c.X,p.1≠UI)->H' UN=WN->s'.heap.Ns UI m'->RR (.ref UN) UI (.ok .next) s'
theorem Ty{J:XQ}{oi ob:Yx}{cl:List (W5×XQ)}{F:Zp->WQ->Prop}(R:Aa WH w (c.x ((J,oi)::c.X)) m H s)(hX:∀p∈c.X,p.1≠J)(S:TB sc scope z)(hf:ob.isFreed=false)
 (q:∀UI oL m' UT,Ap c J s.heap.objs.size->Aa WH w (c.lx UI ((J,oi)::(s.heap.objs.size,ob)::(c.L,oL)::c.X)) m' H UT ->
  (∀{obA:Yx} {o:O} {m' H' s'},Aa WH w (c.lx UI ((s.heap.objs.size,obA)::(c.L,oL)::c.X)) m' H' s'->OB WH w o obA->∃obC,Aa WH w (c.x ((UI,obC)::c.X)) m (H'.put s.heap.objs.size o) s'/\(∀p∈c.X,p.1≠UI)/\H' s.heap.objs.size=none/\s'.heap.Ns UI m')->F (newEnv scope UI env.globals cl env.qual none .none (some env) env.builtins) UT) :
 wpAny (model WH w) A (newFunctionEnv scope env.globals cl [] env.qual none .none (some env)) F Er {s with heap:=s.heap.push ob} :=
 RY R S hf λUN UI oL m' UT eD hL nD nL UJ=>by
  subst eD;have p:Ap c J s.heap.objs.size:=⟨(nD _ (.head _)).symm,(R.nx.2.1 _ (.head _)).2.symm,hX,nL,λp hp=>nD p (.tail _ hp)⟩;refine q UI oL m' UT p (UJ.dropX' λp hp=>?_) λR' hA=>P8 (R.dropX' (X':=c.X) λp hp=>.tail _ hp) hL R' hA p.xD p.dL;exact(mcP hp).elim (λe=>e▸.tail _ (.tail _ (.head _))) λhp=>(mcP hp).elim (λe=>e▸.tail _ (.head _)) λhp=>(mcP hp).elim (λe=>e▸.head _) λhp=>.tail _ (.tail _ (.tail _ hp))
theorem NM{iter elt:Expr}{px pos:Yt}{ifs:List Expr}{cl:List (W5×XQ)}{I:Nat->List V->MH->Prop}{RR:WO->XQ->Yk->WQ->Prop}(Z:Ev WH w K k C A c env κ sc)(ost:k.strict=true)(R:Aa WH w c m H s)(S:TB sc scope z)(its:∀t∈cs,ST WH w K k C t)(ie:SE WH w K k C e)
 (oc:HJ k (rl scope sc) cs ifs=true)(oe:Be k (rl scope sc) e elt=true)(hcl:∀p∈scope.names,p.2=.free->cl.lookup p.1=env.cells.lookup p.1)(ho:H a=some ob)(it:Lj ob vs)(h0:I 0 [] H)
 (hI:∀i l H v,vs[i]?=some v->I i l H->H a=some ob/\SQ C κ cs [(z,v)] H λt H=>Jh t (wE C κ e [(z,v)] H λx H=>I (i+1) (l++[x]) H) (I (i+1) (l++[]) H))
 (hE:∀l H,I vs.length l H->H a=some ob)(fin:∀l H',I vs.length l H'->CFin WH w c m RR (.list l) H') :
 wpAny (model WH w) A (pyIter (.ref a)) (λitv UM=>wpAny (model WH w) A (newList []) (λacc US=>wpAny (model WH w) A (newFunctionEnv scope env.globals cl [] env.qual none .none (some env)) (λcenv UT =>
  codeAny (model WH w) A (.compStart (.ListComp elt [⟨.Name (nm z) px,iter,ifs,0⟩] scope pos) 0 itv acc {cenv with scope:=relabel scope env}) (RR acc cenv.locals) UT) Er US) Er UM) Er s:=by
 refine Ib R ho it Z.B.mods λJ oi UM hX Uq UP=>?_;refine YG (Ty UP hX S rfl λUI oL m' UT p UQ out=>?_);have Z':Ev WH w K k C A (c.lx UI []) (compEnvC scope cl UI env) κ (rl scope sc):=Tx Z [] (Z.O.comp S hcl);have loop:codeAny (model WH w) A (.compLoop (.ListComp elt [⟨.Name (nm z) px,iter,ifs,0⟩] scope pos) 0 (.ref J) (.ref UM.heap.objs.size) (compEnvC scope cl UI env)) (RR (.ref UM.heap.objs.size) UI) UT:=by
  refine codeAny_compLoop_tests (CI WH w c a J UM.heap.objs.size UI oL ob vs (λl=>OB WH w (.list l)) I) (λn Ui inv=>?_) vs.length ⟨0,[],_,oi,m',H,rfl,Wh _,WY _,Uq,⟨[],_,rfl,.nil⟩,UQ,h0⟩;refine PA Z' ost p (OJ Z.O S.hx) oc its it hI hE (λi l ob oi m H US u hlt hl Uf r UQ Ua q=>?_) (λl ob m H US hle r Ue Us=>?_) inv
  ·refine D0 (ie.go (Ic Z' _) Uf oe UQ Ua) λv y VF UT rv UZ Um=>?_;refine AU λGG hG=>?_;obtain⟨ys,nn,rfl,r⟩:=r;have e1:=r.length;have e2:=it.le;refine hG ?_;refine append_at (its:=ys.toArray) (n:=nn) (Ap.get (c:=c) (ob:=FV ys nn) UZ) (λh' hs ho'=>?_) (by rw[Wr,Xi];omega)
   exact q v (FV (ys++[y]) (nn+1)) _ _ _ ⟨_,_,rfl,r.append (.cons rv .nil)⟩ (p.grow (t:=UT.toks) UZ hs (by simpa using ho')) Um
  ·refine Tg (out Ue r) λobC f1 f2 f3 f4=>?_;exact fin l H Us _ _ _ _ obC f1 f2 f3 f4
 exact ZU loop (O9 (c:=c.lx UI []) UQ Uq loop)
end
section
variable{a:Nat}{ob:O}
theorem Aa.drop{h'':Xy}{t:Nat}{UI:XQ}{obC:Yx}(R:Aa WH w (c.x ((UI,obC)::c.X)) m H s)(hX:∀p∈c.X,p.1≠UI)(hs:YO UI s.heap h''):Aa WH w c m H {s with heap:=h'',toks:=t} :=
 Aa.loseX (t:=t) R hX λb o hb e=>hs.extBut b o hb e
structure GP(k:Ck)(sc scope:XB)(z:Nat)(cs:List T)(it:E)(gs:List YR)(px:Yt)(iter:Expr)(ifs:List Expr):Prop where
 e:gs=[⟨.Name (nm z) px,iter,ifs,0⟩]
 nc:Bw iter=true
 oi:Be k sc it iter=true
 S:TB sc scope z
 oc:HJ k (rl scope sc) cs ifs=true
theorem PG{gs:List YR}{f:YR->Bool}(h:(EE gs λg=>(g.is_async==0)&&vt g.target 1&&((AI g.target).z==nm z)&&Bw g.iter&&Be k sc it g.iter&&scP sc scope z&&HJ k (rl scope sc) cs g.ifs&&f g)=true):∃px iter ifs,GP k sc scope z cs it gs px iter ifs/\f ⟨.Name (nm z) px,iter,ifs,0⟩=true:=by
 refine Aj (Bv h) λy w h=>?_;obtain⟨tg,iter,ifs,as⟩:=y;obtain rfl:=w;refine Tf (an8 h) λh1 h2 h3 h4 h5 h6 h7 h8=>?_;clear h;cases(eq_of_beq h1:as=0)
 refine HI (AP (x:=tg) h2) λn p y=>?_;obtain rfl:=y;cases(eq_of_beq h3:n=_)
 exact⟨p,iter,ifs,⟨rfl,h4,h5,RI h6,h7⟩,h8⟩
theorem PH(i:SE WH w K k C it)(its:∀t∈cs,ST WH w K k C t)(ie:SE WH w K k C e):SE WH w K k C (.lcomp e z it cs):=λA env c m κ sc ρ Z l x H s Q Er o R h=>by
 refine Az (an o) λo1 o2=>?_;refine Az (an o1) λost o1=>?_;refine GJ (AP o1) λelt gs scope pos t=>?_;obtain rfl:=t;refine MX (PG (f:=λg=>Be k (rl scope sc) e elt) o2) λpx iter ifs G he=>?_;cases G.e
 refine Aj (Z.O.clos G.S) λcl c1 c2=>?_;rw[eval_ListComp];refine XV (use:=none) rfl (λv=>Dj G.nc) c1 G.S.kd G.S.lo (D0 (i.go Z l G.oi R h) λv y H UH r UP hc=>?_);refine AU λGG hG=>?_;refine Jf (PF hc) λa ob vs u ho it q=>?_;obtain rfl:=u;refine FS q λI h0 hI hE=>?_;cases r
 refine hG ?_;exact NM (RR:=λacc UI=>compPost (model WH w) A Er none (PE WH w c m Q) acc UI) Z ost UP G.S its ie G.oc he c2 ho it h0 hI (λl H z=>(hE l H z).1) λl H' z UN UI s' m' obC f1 f2 f3 hn=>⟨m',hn,λh'' hs=>⟨_,_,.ref UN,f1.drop f2 hs,(hE l H' z).2.2 UN f3⟩⟩
theorem RZ{elt:Expr}{gs:List YR}{pos p:Yt}{x:W5}{n:Nat}:∃b,swapsWith (.ListComp elt gs scope pos) (some (.Name x p)) n env=pure b:=⟨_,rfl⟩
theorem asg_lc{x:Nat}{p:Yt}{vx t:Expr}{Q:Fl->As->MH->Prop}(i:SE WH w K k C it)(its:∀t∈cs,ST WH w K k C t)(ie:SE WH w K k C e)(Z:Ev WH w K k C A c env κ sc)(l:BR ρ m)(o2:OA sc t x .local=true)(o3:Be k sc (.lcomp e z it cs) vx=true)
 (R:Aa WH w c m H s)(h:wS C κ (.asg x (.lcomp e z it cs)) ρ H Q):wpAny (model WH w) A (exec (.Assign [t] vx p) env) (PS WH w c Q) Er s:=by
 refine Az (an o3) λo1 o4=>?_;refine Az (an o1) λost o1=>?_;refine GJ (AP o1) λelt gs scope pos j=>?_;obtain rfl:=j;obtain⟨⟨p',rfl⟩,o5⟩:=DK o2;obtain⟨b,hb⟩:=RZ (scope:=scope) (env:=env) (elt:=elt) (gs:=gs) (pos:=pos) (p:=p') (x:=nm x) (n:=p.line);cases b with
 | false=>exact Yc (D0 (PH i its ie _ _ _ _ _ _ _ Z l _ _ _ _ _ o3 R h) λv y H s r R' q=>Cr Z.O o5 l R' r λm' UM l' UJ=>.nx l' UJ q) hb
 | true =>
  refine MX (PG (f:=λg=>Be k (rl scope sc) e elt) o4) λpx iter ifs G he=>?_;cases G.e
  refine Aj (Z.O.clos G.S) λcl c1 c2=>?_;refine(exec_Assign_Name_used _ _ _ _ hb).symm▸Wi (ZF (Wi ?_));refine Wi (th (XV (use:=some (assign (.Name (nm x) p') env)) (Q:=λU s'=>PS WH w c Q .next s') rfl (λv=>Dj G.nc) c1 G.S.kd G.S.lo (D0 (i.go Z l G.oi R h) λv y H UH r UP hc=>?_)) λU s' hq=>W6 (W6 hq));refine AU λGG hG=>?_;refine Jf (PF hc) λa ob vs u ho it d=>?_;obtain rfl:=u;refine FS d λI h0 hI hE=>?_;cases r
  refine hG ?_;refine NM (RR:=λacc UI=>compPost (model WH w) A Er (some (assign (.Name (nm x) p') env)) (λU s'=>PS WH w c Q .next s') acc UI) Z ost UP G.S its ie G.oc he c2 ho it h0 hI (λl H z=>(hE l H z).1) λls H' zz UN UI s' m' obC f1 f2 f3 hn=>?_;refine(Xx (Cr (Ic Z _).O o5 l f1 (.ref UN) λUv UM Uf UJ=>?_):wpAny _ A (assign (.Name (nm x) p') env (.ref UN)) _ _ _);refine⟨m',hn.at' λo e=>?_,λUa VI=>.nx Uf (UJ.drop (t:=UM.toks) f2 VI) ((hE ls H' zz).2.2 UN f3)⟩;have e':s'.heap.get? UI=some obC:=f1.xget;obtain rfl:=WT (e'.symm.trans e);exact UJ.xget
end
theorem NN{es:List (Int×V)}{kvs:List (Int×WO)}{i:Int}{v:V}{y:WO}(h:A2 DR es kvs)(r:VR v y):A2 DR (ID i v es) (stored kvs i y):=by
 have h1:es.any (λe=>e.1=i)=kvs.any (λe=>e.1=i):=by
  induction h with
  | nil=>rfl
  | cons p _ ih=>rw[YQ,YQ,ih,p.1]
 unfold ID stored;refine h1▸?_;split
 ·rename_i hx;clear hx h1
  induction h with
  | nil=>exact .nil
  | @cons p q _ _ hp _ ih =>
   refine .cons ?_ ih
   show DR (if p.1=i then(p.1,v) else p) (if q.1=i then(q.1,y) else q)
   by_cases e:p.1=i
   ·rw[if_pos e,if_pos (hp.1▸e)];exact⟨hp.1,r⟩
   ·rw[if_neg e,if_neg (λq=>e (hp.1.trans q))];exact hp
 ·exact h.append (.cons ⟨rfl,r⟩ .nil)
noncomputable abbrev LW(l:List (Int×V)):List (Int×V):=l.foldl (λd p=>ID p.1 p.2 d) []
theorem Rd(i:Int)(v:V)(es:List (Int×V)):(ID i v es).length<=es.length+1:=by
 unfold ID;split
 ·rw[WS];exact X3 _
 ·rw[Ws];exact WY _
theorem OK(l:List (Int×V))(p:Int×V):LW (l++[p])=ID p.1 p.2 (LW l):=by unfold LW;exact List.foldl_append
theorem P9(l:List (Int×V)):(LW l).length<=l.length:=by
 have key:∀(l:List (Int×V)) d,(l.foldl (λd p=>ID p.1 p.2 d) d).length<=d.length+l.length:=by
  intro l
  induction l with
  | nil=>exact λd=>WY _
  | cons p r ih=>intro d;refine WL (ih _) ?_;have:=Rd p.1 p.2 d;show(ID p.1 p.2 d).length+r.length<=d.length+(r.length+1);omega
 have:=key l []
 rwa [List.length_nil,Nat.zero_add] at this
section
variable{a:Nat}{ob:O}
theorem DO.at2{kvs:List (Int×WO)}{h:Xy}{a:XQ}(x:h.DictOf (intKind WH w) a kvs):∃g o,h.get? a=some o/\DO WH w kvs g o:=CT x.dictAt λg x=>⟨g,DO.of x⟩
theorem NO{kx vx iter:Expr}{px pos:Yt}{ifs:List Expr}{cl:List (W5×XQ)}{I:Nat->List (Int×V)->MH->Prop}{RR:WO->XQ->Yk->WQ->Prop}(Z:Ev WH w K k C A c env κ sc)(ost:k.strict=true)(R:Aa WH w c m H s)(S:TB sc scope z)(its:∀t∈cs,ST WH w K k C t)(ik:SE WH w K k C ke)(ie:SE WH w K k C e)
 (oc:HJ k (rl scope sc) cs ifs=true)(ok:Be k (rl scope sc) ke kx=true)(oe:Be k (rl scope sc) e vx=true)(hcl:∀p∈scope.names,p.2=.free->cl.lookup p.1=env.cells.lookup p.1)(ho:H a=some ob)(it:Lj ob vs)(h0:I 0 [] H)
 (hI:∀i l H v,vs[i]?=some v->I i l H->H a=some ob/\SQ C κ cs [(z,v)] H λt H=>Jh t (wE C κ ke [(z,v)] H λy H=>wE C κ e [(z,v)] H λx H=>G8 y λj=>I (i+1) (l++[(j,x)]) H) (I (i+1) (l++[]) H))
 (hE:∀l H,I vs.length l H->H a=some ob)(fin:∀l g H',I vs.length l H'->CFin WH w c m RR (.dict (LW l) g) H') :
 wpAny (model WH w) A (pyIter (.ref a)) (λitv UM=>wpAny (model WH w) A newDict (λacc US=>wpAny (model WH w) A (newFunctionEnv scope env.globals cl [] env.qual none .none (some env)) (λcenv UT =>
  codeAny (model WH w) A (.compStart (.DictComp kx vx [⟨.Name (nm z) px,iter,ifs,0⟩] scope pos) 0 itv acc {cenv with scope:=relabel scope env}) (RR acc cenv.locals) UT) Er US) Er UM) Er s:=by
 refine Ib R ho it Z.B.mods λJ oi UM hX Uq UP=>?_;refine YG (Ty UP hX S rfl λUI oL m' UT p UQ out=>?_);have Z':Ev WH w K k C A (c.lx UI []) (compEnvC scope cl UI env) κ (rl scope sc):=Tx Z [] (Z.O.comp S hcl);have new:∃g,OB WH w (.dict [] g) {cls:=.type "dict",dict:=none,data:=.dict #[]}:=by
  refine Ly (DO.at2 (WH:=WH) (w:=w) (Heap.DictOf.new UM.heap)) λg o h1 h2=>?_;have h3:=Xc UM.heap (o:={cls:=.type "dict",dict:=none,data:=.dict #[]}) rfl;obtain rfl:=WT (h1.symm.trans h3);exact⟨g,[],h2,.nil⟩
 have loop:codeAny (model WH w) A (.compLoop (.DictComp kx vx [⟨.Name (nm z) px,iter,ifs,0⟩] scope pos) 0 (.ref J) (.ref UM.heap.objs.size) (compEnvC scope cl UI env)) (RR (.ref UM.heap.objs.size) UI) UT:=by
  refine codeAny_compLoop_testsD (CI WH w c a J UM.heap.objs.size UI oL ob vs (λl ob=>∃g,OB WH w (.dict (LW l) g) ob) I) (λn Ui inv=>?_) vs.length ⟨0,[],_,oi,m',H,rfl,Wh _,WY _,Uq,new,UQ,h0⟩;refine PA (inner:=λv H K=>wE C κ ke [(z,v)] H λy H=>wE C κ e [(z,v)] H λx H=>G8 y λj=>K (j,x) H) Z' ost p (OJ Z.O S.hx) oc its it hI hE (λi l ob oi m H US u hlt hl Uf r UQ Ua q=>?_) (λl ob m H US hle r Ue Us=>?_) inv
  ·refine D0 (ik.go (Ic Z' _) Uf ok UQ Ua) λv y VF UT rv UZ Um=>D0 (ie.go (Ic Z' _) Uf oe UZ Um) λv' y' VH Ui rv' Ue Us=>?_;refine AU λGG hG=>?_;refine Ly r λg kvs r1 r2=>?_;refine En (Bj Us rv) λj t h f Us=>?_;obtain rfl:=h;obtain rfl:=f;have e1:=r2.length;have e2:=it.le;have e3:=P9 l;have hD:=YT.mpr ⟨ob,Ap.get (c:=c) Ue,r1.is⟩;refine hG ?_;clear hG GG;refine wpAny_dictSet_pairs (ZR _ _ _ _) hD (λh' hm hs=>?_) (by rw[Xi];omega)
   refine Ly (DO.at2 hm) λg' ob' k1 k2=>?_;exact q (j,v') ob' _ _ _ ⟨g',_,k2,by rw[OK];exact NN r2 rv'⟩ (p.grow (t:=Ui.toks+1) Ue hs k1) Us
  ·refine CT r λg r=>Tg (out Ue r) λobC f1 f2 f3 f4=>?_;exact fin l g H Us _ _ _ _ obC f1 f2 f3 f4
 exact codeAny_compStart_dict loop (O9 (c:=c.lx UI []) UQ Uq loop)
theorem PI(i:SE WH w K k C it)(its:∀t∈cs,ST WH w K k C t)(ik:SE WH w K k C ke)(ie:SE WH w K k C e):SE WH w K k C (.dcomp ke e z it cs):=λA env c m κ sc ρ Z l x H s Q Er o R h=>by
 refine Az (an o) λo1 o2=>?_;refine Az (an o1) λost o1=>?_;refine x51 (AP o1) λkx vx gs scope pos t=>?_;obtain rfl:=t;refine MX (PG (f:=λg=>Be k (rl scope sc) ke kx&&Be k (rl scope sc) e vx) o2) λpx iter ifs G he=>?_;refine Az (an he) λhk he=>?_;cases G.e
 refine Aj (Z.O.clos G.S) λcl c1 c2=>?_;rw[arm_eval_DictComp];refine XV (use:=none) rfl (λv=>Dj G.nc) c1 G.S.kd G.S.lo (D0 (i.go Z l G.oi R h) λv y H UH r UP hc=>?_);refine AU λGG hG=>?_;refine Jf (PF hc) λa ob vs u ho it q=>?_;obtain rfl:=u;refine FS q λI h0 hI hE=>?_;cases r
 refine hG ?_;exact NO (RR:=λacc UI=>compPost (model WH w) A Er none (PE WH w c m Q) acc UI) Z ost UP G.S its ik ie G.oc hk he c2 ho it h0 hI (λl H z=>(hE l H z).1) λl g H' z UN UI s' m' obC f1 f2 f3 hn=>⟨m',hn,λh'' hs=>⟨_,_,.ref UN,f1.drop f2 hs,(hE l H' z).2.2 g UN f3⟩⟩
theorem Re{kx vx:Expr}{gs:List YR}{pos p:Yt}{x:W5}{n:Nat}:∃b,swapsWith (.DictComp kx vx gs scope pos) (some (.Name x p)) n env=pure b:=⟨_,rfl⟩
theorem asg_dc{x:Nat}{p:Yt}{ex t:Expr}{Q:Fl->As->MH->Prop}(i:SE WH w K k C it)(its:∀t∈cs,ST WH w K k C t)(ik:SE WH w K k C ke)(ie:SE WH w K k C e)(Z:Ev WH w K k C A c env κ sc)(l:BR ρ m)(o2:OA sc t x .local=true)(o3:Be k sc (.dcomp ke e z it cs) ex=true)
 (R:Aa WH w c m H s)(h:wS C κ (.asg x (.dcomp ke e z it cs)) ρ H Q):wpAny (model WH w) A (exec (.Assign [t] ex p) env) (PS WH w c Q) Er s:=by
 refine Az (an o3) λo1 o4=>?_;refine Az (an o1) λost o1=>?_;refine x51 (AP o1) λkx vx gs scope pos j=>?_;obtain rfl:=j;obtain⟨⟨p',rfl⟩,o5⟩:=DK o2;obtain⟨b,hb⟩:=Re (scope:=scope) (env:=env) (kx:=kx) (vx:=vx) (gs:=gs) (pos:=pos) (p:=p') (x:=nm x) (n:=p.line);cases b with
 | false=>exact Yc (D0 (PI i its ik ie _ _ _ _ _ _ _ Z l _ _ _ _ _ o3 R h) λv y H s r R' q=>Cr Z.O o5 l R' r λm' UM l' UJ=>.nx l' UJ q) hb
 | true =>
  refine MX (PG (f:=λg=>Be k (rl scope sc) ke kx&&Be k (rl scope sc) e vx) o4) λpx iter ifs G he=>?_;refine Az (an he) λhk he=>?_;cases G.e
  refine Aj (Z.O.clos G.S) λcl c1 c2=>?_;refine(exec_Assign_Name_used _ _ _ _ hb).symm▸Wi (ZF (Wi ?_));refine Wi (th (XV (use:=some (assign (.Name (nm x) p') env)) (Q:=λU s'=>PS WH w c Q .next s') rfl (λv=>Dj G.nc) c1 G.S.kd G.S.lo (D0 (i.go Z l G.oi R h) λv y H UH r UP hc=>?_)) λU s' hq=>W6 (W6 hq));refine AU λGG hG=>?_;refine Jf (PF hc) λa ob vs u ho it d=>?_;obtain rfl:=u;refine FS d λI h0 hI hE=>?_;cases r
  refine hG ?_;refine NO (RR:=λacc UI=>compPost (model WH w) A Er (some (assign (.Name (nm x) p') env)) (λU s'=>PS WH w c Q .next s') acc UI) Z ost UP G.S its ik ie G.oc hk he c2 ho it h0 hI (λl H z=>(hE l H z).1) λls g H' zz UN UI s' m' obC f1 f2 f3 hn=>?_;refine(Xx (Cr (Ic Z _).O o5 l f1 (.ref UN) λUv UM Uf UJ=>?_):wpAny _ A (assign (.Name (nm x) p') env (.ref UN)) _ _ _);refine⟨m',hn.at' λo e=>?_,λUa VI=>.nx Uf (UJ.drop (t:=UM.toks) f2 VI) ((hE ls H' zz).2.2 g UN f3)⟩;have e':s'.heap.get? UI=some obC:=f1.xget;obtain rfl:=WT (e'.symm.trans e);exact UJ.xget
theorem e_ltm(i:SE WH w K k C e):SE WH w K k C (.ltm e):=λA env c m κ sc ρ Z l x H s Q Er o R h=>by
 refine AU λGG hG=>?_;refine Az (an o) λo1 o2=>?_;refine Az (an o1) λost o1=>?_;refine GJ (AP o1) λelt gs scope pos t=>?_;obtain rfl:=t;refine Aj (Bv (l:=gs) o2) λy w h=>?_;obtain⟨tg,iter,ifs,as⟩:=y;obtain rfl:=w;refine SU (an7 h) λh1 h2 h3 h4 h5 h6 h7=>?_;clear h o2 o;cases(eq_of_beq h1:as=0)
 refine HI (AP (x:=tg) h2) λn p y=>?_;obtain rfl:=y;cases(eq_of_beq h3:n=_)
 refine Ij (Jl h5) λg1 g2 g3 g4=>?_;cases(Ae g1:ifs=[])
 refine Th (OH g2) λov ap xs p1 z o8 o9=>?_;obtain rfl:=z;cases(Ae g3:xs=[])
 have S:=RI h6;refine Aj (Z.O.clos S) λcl c1 c2=>?_;refine hG ?_;clear hG GG;rw[eval_ListComp];refine XV (use:=none) rfl (λv=>Dj h4) c1 S.kd S.lo ?_;refine meth0 (P:=TmB WH w A env Er ⟨elt,_,p,scope,pos,cl⟩ (PE WH w c m Q)) i Z l o8 o9 g4 R ‹_› λv y H s' r R' q=>?_;exact RV (λc=>(mtC c).2) q λq=>Z.atms ost Er c env κ sc m H s' v y Q _ rfl Z.O R' r q ⟨S,h7,c2⟩
end
end
section
variable{WH:Wm}{w:WW}{K:Xb}{k:Ck}{C:CB}
theorem e_bad:SE WH w K k C .bad:=λU U U U U U U U U U U U U U U U h=>h.elim
theorem no_E{e:E}(h:∀k sc x,Be k sc e x=false):SE WH w K k C e:=λU U U U U U U U U U U U U U o U U=>by rw[h] at o;exact zT o
noncomputable def cP(WH:Wm)(w:WW)(K:Xb)(k:Ck)(C:CB)(e:E):Prop:=E.casesOn (motive_1:=λU=>Prop) e True True (λU=>True) (λU=>True) (λU=>True) (λU=>True) (λU=>True) (λU U=>True) (λU U U U=>True) (λU U U=>True) (λU U U=>True) (λU U U U=>True) (λU U U=>True) (λU=>True) (λU=>True) (λU U=>True) (λU U=>True) (λU=>True) (λU=>True) (λU=>True) (λU=>True) (λU=>True) (λU=>True) (λU=>True) (λU U U=>True) (λU a b=>SE WH w K k C a/\SE WH w K k C b) (λU U U=>True) (λU U=>True) (λU U=>True) (λU=>True) (λU=>True) True True (λU=>True) (λU U=>True) (λU U U=>True) (λU=>True) (λU=>True) (λU U=>True) (λU=>True) (λU U=>True) (λU=>True) (λU U U U=>True) (λU U U U U=>True)
noncomputable def tP(WH:Wm)(w:WW)(K:Xb)(k:Ck)(C:CB)(e:E):Prop:=E.casesOn (motive_1:=λU=>Prop) e True True (λU=>True) (λU=>True) (λU=>True) (λU=>True) (λU=>True) (λU U=>True) (λU U U U=>True) (λU U U=>True) (λU U U=>True) (λU U U U=>True) (λU U U=>True) (λU=>True) (λU=>True) (λU U=>True) (λU U=>True) (λU=>True) (λU=>True) (λU=>True) (λU=>True) (λU=>True) (λU=>True) (λU=>True) (λt U U=>ST WH w K k C t) (λU U U=>True) (λU U U=>True) (λU U=>True) (λU U=>True) (λU=>True) (λU=>True) True True (λU=>True) (λU U=>True) (λU U U=>True) (λU=>True) (λU=>True) (λU U=>True) (λU=>True) (λU U=>True) (λU=>True) (λU U U U=>True) (λU U U U U=>True)
structure M1(WH:Wm)(w:WW)(K:Xb)(k:Ck)(C:CB)(e:E):Prop where
 i:SE WH w K k C e
 c:cP WH w K k C e
 t:tP WH w K k C e
theorem M1.cc{e:E}(h:M1 WH w K k C e):∀op a b,e=.cmp op a b->SE WH w K k C a/\SE WH w K k C b:=λop a b z=>(z▸h.c:cP WH w K k C (.cmp op a b))
theorem JC{α:Type}{P:α->Prop}{a:α}{l:List α}(h:P a)(h':∀x∈l,P x):∀x∈a::l,P x:=λx hx=>(mcP hx).elim (λe=>e▸h) (h' x)
theorem Tz(e:E):M1 WH w K k C e :=
 E.rec (motive_1:=λe=>M1 WH w K k C e) (motive_2:=λt=>ST WH w K k C t) (motive_3:=λes=>∀e∈es,SE WH w K k C e) (motive_4:=λks=>∀p∈ks,SE WH w K k C p.2) (motive_5:=λts=>∀t∈ts,ST WH w K k C t) (motive_6:=λp=>SE WH w K k C p.2)
  (.mk e_bad trivial trivial) (.mk e_none trivial trivial) (λU=>.mk (e_bool) trivial trivial) (λU=>.mk (e_int) trivial trivial) (λU=>.mk (e_neg) trivial trivial) (λU=>.mk (e_var) trivial trivial) (λU=>.mk (e_cvar) trivial trivial) (λU U i0=>.mk (e_attr i0.1) trivial trivial) (λU U U U i0 i1 i2=>.mk (e_meth i0.1 i1 i2) trivial trivial) (λU U U i0 i1=>.mk (e_fn i0 i1) trivial trivial) (λU U U i0 i1=>.mk (e_new i0 i1) trivial trivial) (λU U U U i0=>.mk (e_via i0) trivial trivial) (λU U U i0=>.mk (no_E λU U U=>rfl) trivial trivial) (λU i0=>.mk (e_len i0.1) trivial trivial) (λU i0=>.mk (e_max1 i0.1) trivial trivial) (λU U i0 i1=>.mk (e_max2 i0.1 i1.1) trivial trivial) (λU U i0 i1=>.mk (e_min2 i0.1 i1.1) trivial trivial) (λU i0=>.mk (TE i0) trivial trivial) (λU i0=>.mk (RS i0.1) trivial trivial) (λU i0=>.mk (TI i0.1) trivial trivial) (λU i0=>.mk (RU i0.1) trivial trivial) (λU i0=>.mk (e_not i0.1) trivial trivial) (λU i0=>.mk (e_and i0) trivial trivial) (λU i0=>.mk (e_or i0) trivial trivial) (λU U U i0 i1 i2=>⟨e_ite i0 i1.1 i2.1,trivial,i0⟩) (λU U U i0 i1=>⟨e_cmp i0.1 i1.1,⟨i0.1,i1.1⟩,trivial⟩) (λU U U i0 i1=>.mk (e_bin i0.1 i1.1) trivial trivial) (λU U i0 i1=>.mk (e_idx i0.1 i1.1) trivial trivial) (λU U i0 i1=>.mk (e_upto i0.1 i1.1) trivial trivial) (λU i0=>.mk (e_tup i0) trivial trivial) (λU i0=>.mk (e_lst i0) trivial trivial) (.mk e_stk trivial trivial) (.mk (no_E λU U U=>rfl) trivial trivial) (λU i0=>.mk (e_pop i0.1) trivial trivial) (λU U i0 i1=>.mk (RM i0.1 i1.1) trivial trivial) (λU U U i0 i1 i2=>.mk (e_dget i0.1 i1.1 i2.1) trivial trivial) (λU=>.mk (e_str) trivial trivial) (λU i0=>.mk (e_ltr i0.1) trivial trivial) (λU U i0 i1=>.mk (e_cat i0.1 i1.1) trivial trivial) (λU i0=>.mk (e_lmt i0.1) trivial trivial) (λU U i0 i1=>.mk (e_lmt1 i0.1 i1.1) trivial trivial) (λU i0=>.mk (e_ltm i0.1) trivial trivial) (λU U U U i0 i1 i2=>.mk (PH i1.1 i2 i0.1) trivial trivial) (λU U U U U i0 i1 i2 i3=>.mk (PI i2.1 i3 i0.1 i1.1) trivial trivial)
  (λU i=>t_e i.1 i.cc) (λU i=>t_not i) (λU is=>t_and is) (λU is=>t_or is)
  (λU h=>nomatch h) (λU U h hs=>JC h.1 hs) (λU h=>nomatch h) (λU U h hs=>JC (P:=λp:Nat×E=>SE WH w K k C p.2) h hs) (λU h=>nomatch h) (λU U h hs=>JC h hs) (λU U h=>h.1) e
theorem Ci(e:E):SE WH w K k C e:=(Tz e).i
theorem Ki(t:T):ST WH w K k C t:=(Tz (.ite t .none .none)).t
theorem s_asg{x:Nat}{e:E}:SS WH w K k C (.asg x e):=λA env c κ sc Z ρ m l y H s Q Er o R h=>by
 refine DN (NE o) λo1 o2 o3=>?_;clear o;refine Fu (BI o1) λts v p u=>?_;obtain rfl:=u;refine Aj (Bv (l:=ts) o2) λt u o2=>?_;obtain rfl:=u;obtain⟨o3,o4⟩:=an (show((Bw v||vt v 16&&isL e||vt v 17&&Sz e)&&Be k sc e v)=true from o3)
 refine Or.elim (boP o3) (λo3=>Or.elim (boP o3) (λo3=>?_) λo3=>?_) λo3=>?_
 ·exact P5 (Ci e) Z l o2 o4 (λn p'=>NG o3) R h
 ·refine GJ (isL_of e (an o3).2) λe' z it cs u=>?_;obtain rfl:=u
  ·exact asg_lc (Ci it) (λt U=>Ki t) (Ci e') Z l o2 o4 R h
 ·refine x51 (TA e (an o3).2) λe' v' z it cs u=>?_;obtain rfl:=u
  ·exact asg_dc (Ci it) (λt U=>Ki t) (Ci e') (Ci v') Z l o2 o4 R h
theorem TJ:SS WH w K k C .raise:=λU U U U U U U U U U U U U U U U h=>h.elim
theorem PJ(x:S):SS WH w K k C x :=
 S.rec (motive_1:=λx=>SS WH w K k C x) (motive_2:=λxs=>∀x∈xs,SS WH w K k C x)
  (λU U=>s_asg) (λU e=>s_casg (Ci e)) (λU U e=>s_asg2 (Ci e)) (λU e=>s_unp (Ci e)) (λe U v=>TG (Ci e) (Ci v)) (λe U U v=>s_auga (Ci e) (Ci v)) (λU U v=>s_aug (Ci v))
  (λt U U b c=>s_cond (Ki t) b c) (λt U b=>TH (Ki t) b) (λU it U b=>s_for (Ci it) b) (λe=>s_ret (Ci e)) s_ret0 TJ (λt=>RQ (Ki t)) (λe=>s_expr (Ci e)) s_brk s_cont s_pass
  (λU h=>nomatch h) (λU U h hs=>JC h hs) x
end
theorem KR.get{sl:As}{zs:List (W5×WO)}(h:A2 KR sl zs)(x:Nat):P2 VR (AM x sl) (zs.lookup (nm x)):=by
 induction h with
 | nil=>trivial
 | @cons p q l m hp _ ih =>
  obtain⟨z',y⟩:=q;refine Az hp λh1 h2=>?_;have h1:z'=nm p.1:=h1
  show P2 VR (cond (WV p.1 x) (some p.2) (AM x l)) (aJ (nm x) ((z',y)::m))
  rw[W1,h1];cases q:WV p.1 x with
  | true=>rw[Wa q,beq_self_eq_true];exact h2
  | false=>rw[beq_eq_false_iff_ne.mpr λe=>by rw[I9 e,YM] at q;exact zF q];exact ih
theorem P2.isSome{a:Option V}{b:Option WO}(h:P2 VR a b):b.isSome=a.isSome:=by
 cases a<;>cases b<;>first|rfl|exact h.elim
theorem P2.or'{a a':Option V}{b b':Option WO}(h:P2 VR a b)(h':P2 VR a' b'):P2 VR (a.or a') (b.or b'):=by
 cases a<;>cases b<;>first|exact h.elim|exact h|exact h'
theorem Kj{α:Type}{b:Bool}{o:Option α}{x:α}(h:(bif b then o else WN)=some x):b=true/\o=some x:=by
 cases b with
 | true=>exact⟨rfl,h⟩
 | false=>exact zN h
noncomputable abbrev KwF:=W5×WO->List (W5×WO)×List (W5×WO)->aC (ForInStep (List (W5×WO)×List (W5×WO)))
theorem Rf{names:List W5}{ps:List Nat}(hn:names=ps.map nm){us:As}{zs:List (W5×WO)}(h:A2 KR us zs) :
 ∀{sl sl':As} {tl:List (W5×WO)},A2 KR sl tl->Mh ps sl us=some sl'->∃tl',A2 KR sl' tl' /\
  ∀f:KwF,(∀x sl,names.contains x.1=true->(sl.1.lookup x.1).isSome=false->f x sl=pure (.yield (sl.1++[(x.1,x.2)],sl.2)))->forIn zs (tl,[]) f=pure (tl',[]):=by
 induction h with
 | nil=>intro sl sl' tl h e;obtain rfl:=WT e;exact⟨tl,h,λU U=>rfl⟩
 | @cons p q l m hp hr ih =>
  intro sl sl' tl h e;obtain⟨z,y⟩:=q;obtain⟨h1,h2⟩:=hp;subst h1;obtain⟨c,e⟩:=Kj (show(bif HP p.1 ps&&(AM p.1 sl).isNone then Mh ps (sl++[p]) l else WN)=some sl' from e)
  obtain⟨c1,c2⟩:=an c;have c3:names.contains (nm p.1)=true:=by
   rw[hn,List.contains_iff_mem];exact XP (Gy c1)
  have c4:(tl.lookup (nm p.1)).isSome=false:=by
   rw[(KR.get h p.1).isSome];cases q:AM p.1 sl with
   | none=>rfl
   | some v=>replace c2:=q▸c2;exact zT c2
  refine Aj (ih (h.append (.cons (a:=p) (b:=(nm p.1,y)) ⟨rfl,h2⟩ .nil)) e) λtl' k1 k2=>?_;refine⟨tl',k1,λf hf=>?_⟩;rw[YC,hf _ _ c3 c4,pure_bind];exact k2 f hf
noncomputable def dflt:List (W5×WO)->List (W5×WO)->List (W5×WO)
 | sl,[]=>sl
 | sl,p::r=>dflt (if(sl.lookup p.1).isNone then sl++[p] else sl) r
theorem JQ(n:W5):∀(l sl:List (W5×WO)),(dflt sl l).lookup n=(sl.lookup n).or (l.lookup n)
 | [],sl=>(Option.or_none (o:=sl.lookup n)).symm
 | (k,v)::r,sl=>by
  rw[show dflt sl ((k,v)::r)=dflt (if(sl.lookup k).isNone then sl++[(k,v)] else sl) r from rfl,JQ n r,W1]
  by_cases h:(sl.lookup k).isNone=true
  ·rw[if_pos h,Z4,W1];cases e:n==k with
   | true =>
    refine(eq_of_beq e).symm▸?_;cases q:sl.lookup k with
    | none=>rfl
    | some y=>replace h:=q▸h;exact zT h
   | false=>cases sl.lookup n<;>rfl
  ·rw[if_neg h];cases e:n==k with
   | true =>
    refine(eq_of_beq e).symm▸?_;cases q:sl.lookup k with
    | none=>exact absurd rfl (q▸h)
    | some y=>rfl
   | false=>rfl
theorem Kk{f:W5×WO->List (W5×WO)->aC (ForInStep (List (W5×WO)))}(hf:∀p sl,f p sl=pure (.yield (if(sl.lookup p.1).isNone then sl++[p] else sl))) :
 ∀(l sl:List (W5×WO)),forIn l sl f=pure (dflt sl l)
 | [],sl=>rfl
 | p::r,sl=>by rw[YC,hf,pure_bind];exact Kk hf r _
theorem JR(x:Nat):∀(a b:As),AM x (a++b)=(AM x a).or (AM x b)
 | [],b=>rfl
 | p::r,b=>by
  show cond (WV p.1 x) (some p.2) (AM x (r++b))=(cond (WV p.1 x) (some p.2) (AM x r)).or _
  refine(JR x r b).symm▸?_;cases WV p.1 x<;>rfl
theorem Rg{ds:List V}{ys:List WO}(h:A2 VR ds ys):∀{ps:List Nat},A2 KR (ps.zip ds) ((ps.map nm).zip ys):=by
 induction h with
 | nil=>intro ps;exact Z5.symm▸Z5.symm▸.nil
 | cons h _ ih =>
  intro ps;cases ps with
  | nil=>exact .nil
  | cons p ps=>exact .cons ⟨rfl,h⟩ ih
theorem PK{a:As}{b c':List (W5×WO)}{ds:As}(h1:A2 KR a b)(h2:A2 KR ds c'):∀ps:List Nat,A2 KR (F6 (a++ds) ps) ((ps.map nm).filterMap λn=>((dflt b c').lookup n).map (n,·))
 | []=>.nil
 | p::ps=>by
  have ih:=PK h1 h2 ps;have hg:P2 VR (AM p (a++ds)) ((dflt b c').lookup (nm p)):=by
   rw[JR,JQ];exact(KR.get h1 p).or' (KR.get h2 p)
  rw[XK,W4]
  show A2 KR (match AM p (a++ds) with
   | some v=>(p,v)::F6 (a++ds) ps
   | none=>F6 (a++ds) ps) _
  cases q:AM p (a++ds)<;>cases q':(dflt b c').lookup (nm p)<;>rw[q,q'] at hg<;>first|exact hg.elim|exact ih|exact .cons ⟨rfl,hg⟩ ih
theorem TK{fd:Wp}{L:List Arg}{kd:List (Option Expr)}{dd:List Expr}{ys:List WO}{zs:List (W5×WO)}(hp:fd.params=⟨[],L,none,[],kd,none,dd⟩) :
 ∃(f:KwF) (g:List (W5×WO)×List (W5×WO)->Option (Array WO)->aC (List (W5×WO))),bindArgs fd ⟨ys,zs⟩=forIn zs ((L.map (·.arg)).zip ys,[]) f>>=(λr=>seqItems? fd.defaults>>=g r)/\(∀x sl,(L.map (·.arg)).contains x.1=true->(sl.1.lookup x.1).isSome=false->f x sl=pure (.yield (sl.1++[(x.1,x.2)],sl.2))) /\
  ∀(tl:List (W5×WO)) (x:Option (Array WO)),ys.length<=(L.map (·.arg)).length->(x.getD #[]).toList.length<=(L.map (·.arg)).length->(((L.map (·.arg)).take ((L.map (·.arg)).length-(x.getD #[]).toList.length)).filter λn=>(tl.lookup n).isNone)=[] ->
   g (tl,[]) x=pure ((L.map (·.arg)).filterMap λn=>((dflt tl (((L.map (·.arg)).drop ((L.map (·.arg)).length-(x.getD #[]).toList.length)).zip (x.getD #[]).toList)).lookup n).map (n,·)):=by
 unfold bindArgs;refine hp.symm▸⟨_,_,rfl,λx sl c1 c2=>?_,λtl x c1 c2 c3=>?_⟩
 ·exact(if_pos (show(_||_)=true by rw[c1];rfl)).trans (if_neg (by rw[c2];decide))
 ·generalize L.map (·.arg)=names at c1 c2 c3 ⊢
  generalize (x.getD #[]).toList=dl at c2 c3 ⊢
  have c4:Zq (dl.length-names.length) dl=dl:=by rw[Nat.sub_eq_zero_of_le c2];rfl
  refine(if_neg (show ¬ (decide (ys.length > names.length)&&true)=true by rw[Bool.and_true,decide_eq_true_eq];exact Ti c1)).trans ?_
  refine(if_neg (show ¬ (!(List.filter (λn=>(aJ n tl).isNone) (List.take (names.length-(Zq (dl.length-names.length) dl).length) names)).isEmpty)=true by rw[c4,c3];decide)).trans ?_
  refine(congrArg (·>>=_) (Kk (λp sl=>by obtain⟨k,v⟩:=p;dsimp only;split<;>rfl) ((Zq (names.length-(Zq (dl.length-names.length) dl).length) names).zip (Zq (dl.length-names.length) dl)) tl)).trans ?_
  rw[c4];simp only[pure_bind,List.map_nil,ZX,XI,List.forIn_nil,List.isEmpty_nil,Bool.not_true,Y5,if_false]
theorem Id{fd:Wp}{s:WQ}{K:Xb}(X:K.In s.heap){ps:List Nat}{ds:List V}{vs:List V}{ys:List WO}{us:As}{zs:List (W5×WO)}{ρ:As}
 (h1:fd.params.posonlyargs=[])(h2:fd.params.kwonlyargs=[])(h3:fd.params.vararg=none)(h4:fd.params.kwarg=none)(hn:fd.params.args.map (·.arg)=ps.map nm)
 (hd:(ds=[]/\fd.defaults=.none)\/∃T o items n,fd.defaults=.ref T/\K.lookup T=some o/\o.data=.seq items n/\A2 VR ds items.toList)
 (r:A2 VR vs ys)(r':A2 KR us zs)(e:LG ps ds vs us=some ρ):∃binds sl,ρ=F6 sl ps/\A2 KR ρ binds/\BindsTo s fd ⟨ys,zs⟩ binds/\(fd.defaults=.none->bindArgs fd ⟨ys,zs⟩=pure binds):=by
 have hp:fd.params=⟨[],fd.params.args,none,[],fd.params.kw_defaults,none,fd.params.defaults⟩:=by
  generalize fd.params=p at h1 h2 h3 h4 ⊢
  cases p;cases h1;cases h2;cases h3;cases h4;rfl
 refine En (TK (ys:=ys) (zs:=zs) hp) λf g e1 hf hg=>?_;rw[hn] at e1 hf hg;refine Az (Kj (show(bif Zn vs.length ps.length&&Zn ds.length ps.length then _ else WN)=some ρ from e)) λhle e=>?_
 refine Az (an hle) λhle hle'=>?_;have hle:=WU hle;have hle':=WU hle';refine oCs (Mh ps (ps.zip vs) us) (λhsl=>?_) λsl hsl=>?_
 ·replace e:=hsl▸e;exact zN e
 ·
  replace e:=hsl▸e;refine Az (Kj e) λhall e=>?_;obtain rfl:=WT e;refine Aj (Rf (names:=ps.map nm) rfl r' (Rg r) hsl) λtl k1 k2=>?_;rw[k2 f hf,pure_bind] at e1;have fin:∀x:Option (Array WO),A2 VR ds (x.getD #[]).toList->g (tl,[]) x=pure ((ps.map nm).filterMap λn=>((dflt tl (((ps.map nm).drop ((ps.map nm).length-(x.getD #[]).toList.length)).zip (x.getD #[]).toList)).lookup n).map (n,·)) /\
   A2 KR (F6 (sl++(ps.drop (ps.length-ds.length)).zip ds) ps) ((ps.map nm).filterMap λn=>((dflt tl (((ps.map nm).drop ((ps.map nm).length-(x.getD #[]).toList.length)).zip (x.getD #[]).toList)).lookup n).map (n,·)):=λx hx=>by
   have l1:=r.length;have l2:=hx.length;have l3:(ps.map nm).length=ps.length:=WS ..;refine⟨hg tl x (ozH ‹_› ‹_› ‹_›) (ozH ‹_› ‹_› ‹_›) ?_,?_⟩
   ·rw[List.filter_eq_nil_iff];intro n hn';replace hn':=List.map_take▸l2▸l3▸hn';refine Aj (mmP hn') λp hp z=>?_;obtain rfl:=z;have:=laP hall p hp;replace this:=((KR.get k1 p).isSome).trans this;cases q:aJ (nm p) tl with
    | none=>replace this:=q▸this;exact zT this
    | some _=>exact Xn
   ·exact l3.symm▸l2▸List.map_drop▸PK k1 (Rg hx) ps
  rcases hd with⟨rfl,hd⟩|⟨T,o,items,n,hd,ho,hs,hA⟩
  ·refine Az (fin none .nil) λg1 g2=>?_;have h:=(show bindArgs fd ⟨ys,zs⟩=g (tl,[]) none by rw[e1,hd];rfl).trans g1
   exact⟨_,_,rfl,g2,BindsTo.of_eq h,λU=>h⟩
  ·refine Az (fin (some items) hA) λg1 g2=>?_;exact⟨_,_,rfl,g2,BindsTo.of_defaults hd (X _ _ ho) hs e1 g1,λh=>by replace h:=hd.symm.trans h;exact nomatch h⟩
theorem G2(sl:As):∀ps:List Nat,(F6 sl ps).map (·.1)=ps.filter λp=>(AM p sl).isSome
 | []=>rfl
 | p::r=>by
  rw[ZK]
  show List.map (λp:Nat×V=>p.1) (match AM p sl with
   | some v=>(p,v)::F6 sl r
   | none=>F6 sl r)=_
  cases AM p sl with
  | none=>exact G2 sl r
  | some v=>exact congrArg (p::·) (G2 sl r)
theorem KR.keys{sl:As}{zs:List (W5×WO)}(h:A2 KR sl zs):zs.map (·.1)=(sl.map (·.1)).map nm:=by
 induction h with
 | nil=>rfl
 | cons h _ ih=>exact XK▸XK▸XK▸ih▸h.1▸rfl
theorem Ie:∀{l:List Nat},l.Nodup->(l.map nm).Nodup
 | [],_=>.nil
 | x::r,h=>by
  refine Az (ncP h) λh1 h2=>?_;refine ncR ⟨λq=>?_,Ie h2⟩;refine Aj (mmP q) λy hy e=>?_;exact h1 (I9 e▸hy)
theorem Kl{α β:Type}[BEq α][LawfulBEq α]:∀{l:List (α×β)},(l.map (·.1)).Nodup->∀k,l.reverse.lookup k=l.lookup k
 | [],_,_=>rfl
 | (x,y)::r,h,k=>by
  refine Az (ncP h) λh1 h2=>?_;rw[Y9,Z4,Kl h2 k,W1,W1];cases e:k==x with
  | true =>
   have:r.lookup k=none:=by
    rw[YY];intro p hp;have:k≠p.1:=λq=>h1 (eq_of_beq e▸q▸XP (f:=(·.1)) hp)
    simpa using this
   exact this▸rfl
  | false=>cases r.lookup k<;>rfl
section
variable{WH:Wm}{w:WW}{k:Ck}{K:Xb}{d:Nat}{A:XG}{c:Cx}{m:W5->Option WO}{H:MH}{s:WQ}{f:Nat}{vs:List V}{ys:List WO}{us:As}{zs:List (W5×WO)}{Q:V->MH->Prop}{R:Yk->WQ->Prop}{fd:Wp}{body:List Xj}{i:Fi}
structure Jg(K:Xb)(f:Nat)(i:Fi)(fd:Wp)(body:List Xj):Prop where
 at_:∃oc od osl,K.lookup f=some ⟨oc,od,.func fd,osl⟩
 code:codeIn K fd.code fd.qualname=true
 gl:fd.globals=mainGlobals
 bi:fd.builtins=builtinsNs
 co:fd.scope.isCoroutine=false
 gen:fd.scope.isGenerator=false
 kind:fd.scope.kind=Y3
 p1:fd.params.posonlyargs=[]
 p2:fd.params.kwonlyargs=[]
 p3:fd.params.vararg=none
 p4:fd.params.kwarg=none
 pn:fd.params.args.map (·.arg)=i.pars.map nm
 df:(i.dflt=[]/\fd.defaults=.none)\/∃T o items n,fd.defaults=.ref T/\K.lookup T=some o/\o.data=.seq items n/\A2 VR i.dflt items.toList
 nd:i.pars.Nodup
 body:fd.body=.stmts body
structure E7(k:Ck)(i:Fi)(fd:Wp)(body:List Xj):Prop where
 nocell:∀x∈fd.scope.names,x.2≠YD
 cells:i.cells=[]
 loc:∀p∈i.pars,fd.scope.names.lookup (nm p)=some .local
 ok:Hn k fd.scope i.body body=true
theorem Gp:∀ρ:As,without [] ρ=ρ
 | []=>rfl
 | p::r=>congrArg (p::·) (Gp r)
def SI(WH:Wm)(w:WW)(k:Ck)(K:Xb)(C:CB)(d:Nat):Prop:=∀A:XG,(k.strict=true->A.handled=none)->8*A.depth+A.units+24*d<=7900->∀(c:Cx) m H s f vs ys us zs Q R,Base k K c.UD->Aa WH w c m H s->A2 VR vs ys->A2 KR us zs->C f vs us H Q ->
 (∀v s',PE WH w c m Q v s'->R (.ok (.ret v)) s')->codeAny (model WH w) A (.call (.ref f) ⟨ys,zs⟩) R s
structure ALd(WH:Wm)(w:WW)(k:Ck)(K:Xb)(C:CB)(d:Nat):Prop where
 mt:k.strict=true->∀A:XG,A.handled=none->8*A.depth+A.units+24*d<=7900->∀(Er:WO->WQ->Prop) (c:Cx) m H s v y us ys Q,Base k K c.UD->Aa WH w c m H s->VR v y->A2 VR us ys->C Ip (v::us) [] H Q ->
  codeAny (model WH w) A (.call (.ref AF) ⟨y::ys,[]⟩) (wants (λz s'=>wpAny (model WH w) A (Xp (.type "list") [z]) (PE WH w c m Q) Er s') Er) s
 tm:k.strict=true->∀A:XG,A.handled=none->8*A.depth+A.units+24*d<=7900->∀(Er:WO->WQ->Prop) (c:Cx) (env:Zp) (κ:Kp) (sc:XB) m H s v y Q (X:TmX),Base k K c.UD->EO env c.L κ sc->Aa WH w c m H s->VR v y->C Li [v] [] H Q->TD sc env X ->
  codeAny (model WH w) A (.call (.ref AG) ⟨[y],[]⟩) (wants (TmB WH w A env Er X (PE WH w c m Q)) Er) s
theorem T0{f:Nat}(h:AM f Ph=WN):∀{d:Nat} {vs us H Q},¬ call d f vs us H Q
 | 0,_,_,_,_=>λh=>h
 | d+1,vs,us,H,Q=>λg=>by
  have g:op (AM f Ph) λi=>IE (call d) i vs us H Q:=g;rw[h] at g;exact g
theorem LX{d:Nat}{vs us H Q}:¬ call d Ip vs us H Q:=T0 rfl
theorem LY{d:Nat}{vs us H Q}:¬ call d Li vs us H Q:=T0 rfl
theorem ALd.no{WH:Wm}{w:WW}{k:Ck}{K:Xb}{d:Nat}:ALd WH w k K (call d) d:=⟨λU U U U U U U U U U U U U U U U U U h=>(LX h).elim,λU U U U U U U U U U U U U U U U U U U U h=>(LY h).elim⟩
section
theorem Rh(q:∀v s',PE WH w c m Q v s'->R (.ok (.ret v)) s'){c':Cx}(back:∀m'' H'' s'',Aa WH w c' m'' H'' s''->Aa WH w c m H'' s'')(fl:Flow)(UM:WQ):PS WH w c' (Ah Q) fl UM->R (.ok (.ret (match fl with|.ret v=>v|_=>.none))) UM:=by
 intro h;refine AU λGG hG=>?_;obtain⟨fl',Vn,Uv,UR,rf,Uf,UJ,UY⟩:=h;refine hG ?_;clear hG GG;have UQ:=back _ _ _ UJ;cases rf with
 | next=>exact q _ _ ⟨.none,UR,.none,UQ,UY⟩
 | ret rv=>exact q _ _ ⟨_,UR,rv,UQ,UY⟩
 | brk=>exact UY.elim
 | cont=>exact UY.elim
theorem MQ{ρ:As}{binds:List (W5×WO)}(hkr:A2 KR ρ binds)(hnd:(binds.map (·.1)).Nodup):BR ρ (λy=>binds.reverse.lookup y):=λx v e=>by
 have:=KR.get hkr x;replace this:=e▸this;refine oCs (binds.lookup (nm x)) (λq=>?_) λy q=>?_
 ·rw[q] at this;exact this.elim
 ·rw[q] at this;exact⟨y,(Kl hnd _).trans q,this⟩
theorem Gq{ρ sl:As}{binds:List (W5×WO)}{ps:List Nat}(hkr:A2 KR ρ binds)(e:ρ=F6 sl ps)(h:ps.Nodup):(binds.map (·.1)).Nodup/\∀x∈binds,∃p∈ps,x.1=nm p:=by
 have hk:=KR.keys hkr;rw[e,G2] at hk;refine⟨by rw[hk];exact Ie (h.filter _),λx hx=>?_⟩
 have:x.1∈binds.map (·.1):=XP (f:=(·.1)) hx
 rw[hk] at this;refine Aj (mmP this) λp hp e=>?_;exact⟨p,(mfP hp).1,e.symm⟩
theorem QA{C:CB}(F:KF K k.isAttr)(ih:SI WH w k K C d)(al:ALd WH w k K C d)(hh:k.strict=true->A.handled=none)(hd:8*A.depth+A.units+24*(d+1)<=7900)(G:Jg K f i fd body)(P:E7 k i fd body)(B:Base k K c.UD)(Rl:Aa WH w c m H s)(r:A2 VR vs ys)(r':A2 KR us zs)
 (h:IE C i vs us H Q)(q:∀v s',PE WH w c m Q v s'->R (.ok (.ret v)) s'):codeAny (model WH w) A (.call (.ref f) ⟨ys,zs⟩) R s:=by
 refine Aj (QL h) λρ hb h=>?_;replace h:=P.cells▸h;have h':A4 C [] i.body (without [] ρ) H (Ah Q):=h;rw[Gp] at h';refine Fu G.at_ λoc od osl ho=>?_;have X:=B.kin.keeps Rl.fr.keep;refine AU λGG hG=>?_;refine SD (Id X G.p1 G.p2 G.p3 G.p4 G.pn G.df r r' hb) λbinds sl hsl hkr hbind U=>?_;refine Az (Gq hkr hsl G.nd) λhnd hin=>?_;refine hG ?_;clear hG GG;refine codeAny_call_def (fd:=fd) (body:=body) (binds:=binds) (dl hd) (X _ _ ho) rfl (B.lim.keeps Rl.fr.keep) (ZV X G.code) G.body hbind P.nocell (λx hx=>by refine Aj (hin x hx) λp hp e=>?_;exact e.symm▸P.loc p hp) (λUX hns hk=>?_) G.co G.gen G.kind
 refine Aj (Rl.enter (t:=s.toks+binds.length) hk hns) λoL UP back=>?_;have Z:Ev WH w K k C (A.deeper (callEnv fd s.heap.objs.size f)) (c.lx (s.heap.objs.size) ((c.L,oL)::c.X)) (callEnv fd s.heap.objs.size f) [] fd.scope :=
  ⟨F,B,⟨rfl,G.kind,rfl,G.gl,G.bi,λx a e U=>(zN e),λp hp e=>absurd e (P.nocell p hp)⟩,hh,d0 (dw (di hd (WY _))),λA' hh' hd' c' m H s f vs ys us zs Q R e U R' r r' h q=>ih A' hh' (dc (di hd (WY _)) hd') c' m H s f vs ys us zs Q R (e▸B) R' r r' h q,
   λks Er c' m H s v y us ys Q e R' r rs h=>al.mt ks (A.deeper _) (hh ks) (dw (di hd (WY _))) Er c' m H s v y us ys Q (e▸B) R' r rs h,
   λks Er c' env' κ' sc' m H s v y Q X e O R' r h=>al.tm ks (A.deeper _) (hh ks) (dw (di hd (WY _))) Er c' env' κ' sc' m H s v y Q X (e▸B) O R' r h⟩
 exact th (TF Z (λx U=>PJ x) (MQ hkr hnd) P.ok UP h') λfl UM h=>Rh q back fl UM h
theorem Ri{c:Cx}{env:Zp}{h:Xy}{ρ:As}{cm:W5->Option WO}{D:Nat->Nat}(apart:∀x y a,env.cells.lookup (nm x)=some a->env.cells.lookup (nm y)=some a->x=y)(xs:List Nat):∀{κ:Kp} {H:MH} {WI:BW} {K:Kp->MH->Prop},xs.Nodup->Zh c.UD c.L h WI->FZ WH w c.UD D WI c.X H ->
 (∀x∈xs,∃a,env.cells.lookup (nm x)=some a/\h.IsCell a (cm (nm x))/\P2 VR (AM x ρ) (cm (nm x))/\a≠c.L/\c.UD.get? a=none/\a∉WI.map (·.1))->Lk xs ρ κ H K ->
 ∃κ' H' WK,K κ' H'/\Zh c.UD c.L h WK/\FZ WH w c.UD D WK c.X H'/\∀y a,AM y κ'=some a->AM y κ=some a\/env.cells.lookup (nm y)=some a:=by
 induction xs with
 | nil=>exact λU N L U h=>⟨_,_,_,h,N,L,λy a e=>.inl e⟩
 | cons x r ih =>
  intro κ H WI K hnd N L hx hw;refine AU λGG hG=>?_;refine Az (ncP hnd) λn1 n2=>?_;refine x16 (hx x (.head _)) λa e1 z e4 e5 e6 e7=>?_;refine Aj z λob e2 e3=>?_;refine hG ?_;clear hG GG;have hw:Lk r ρ ((x,a)::κ) (H.put a (.cell (AM x ρ))) K:=hw a (L.none e7 e6);have hob:OB WH w (.cell (AM x ρ)) ob:=by
   cases q:AM x ρ<;>cases q':cm (nm x)<;>rw[q,q'] at e4<;>rw[q'] at e3<;>first|exact e4.elim|exact e3|exact⟨_,e3,e4⟩
  have N':Zh c.UD c.L h ((a,ob)::WI):=λp hp=>by
   rcases mcP hp with rfl|hp
   ·exact⟨e2,e5,e6⟩
   ·exact N p hp
  refine Jf (ih n2 N' (L.alloc e7 hob) (λy hy=>by
   refine AU λGG hG=>?_;refine x16 (hx y (.tail _ hy)) λa' f1 f2 f3 f4 f5 f6=>?_;refine hG ?_;clear hG GG;refine⟨a',f1,f2,f3,f4,f5,λq=>?_⟩;rcases mcP q with q|q
   ·have q:a'=a:=q;subst q;exact n1 (by exact(apart x y a' e1 f1).symm▸hy)
   ·exact f6 q) hw) λκ' H' WK k1 k2 k3 k4=>?_
  refine⟨κ',H',WK,k1,k2,k3,λy b e=>?_⟩;rcases k4 y b e with e|e
  ·have e:cond (WV x y) (some a) (AM y κ)=some b:=e;refine bCs (WV x y) (λq=>?_) λq=>?_
   ·replace e:=q▸e;obtain rfl:=WT e;exact .inr (Wa q▸e1)
   ·replace e:=q▸e;exact .inl e
  ·exact .inr e
end
theorem NP{kindOf:W5->Option YS}(n:W5):∀(binds:List (W5×WO)) (m:W5->Option WO),(binds.map (·.1)).Nodup->bindL kindOf binds m n=if kindOf n=some .local then(binds.lookup n).or (m n) else m n
 | [],m,_=>by split<;>rfl
 | (k,v)::r,m,h=>by
  refine Az (ncP h) λh1 h2=>?_;unfold bindL;rw[NP n r _ h2,W1];by_cases e:n=k
  ·subst e;have:r.lookup n=none:=by
    rw[YY];intro p hp;have:n≠p.1:=λq=>h1 (q▸XP (f:=(·.1)) hp)
    simpa using this
   rw[beq_self_eq_true,this];by_cases hl:kindOf n=some .local
   ·exact(if_pos hl)▸(if_pos hl)▸(if_pos hl)▸(if_pos rfl)▸rfl
   ·exact(if_neg hl)▸(if_neg hl)▸(if_neg hl)▸rfl
  ·refine(beq_eq_false_iff_ne.mpr e).symm▸?_;have:(if kindOf k=some .local then λy=>if y=k then some v else m y else m) n=m n:=by
    split
    ·exact if_neg e
    ·rfl
   rw[this]
theorem NQ{kindOf:W5->Option YS}(n:W5):∀(binds:List (W5×WO)) (m:W5->Option WO),(binds.map (·.1)).Nodup->bindC kindOf binds m n=if kindOf n=some .local then m n else(binds.lookup n).or (m n)
 | [],m,_=>by split<;>rfl
 | (k,v)::r,m,h=>by
  refine Az (ncP h) λh1 h2=>?_;unfold bindC;rw[NQ n r _ h2,W1];by_cases e:n=k
  ·subst e;have:r.lookup n=none:=by
    rw[YY];intro p hp;have:n≠p.1:=λq=>h1 (q▸XP (f:=(·.1)) hp)
    simpa using this
   rw[beq_self_eq_true,this];by_cases hl:kindOf n=some .local
   ·exact(if_pos hl)▸(if_pos hl)▸(if_pos hl)▸rfl
   ·exact(if_neg hl)▸(if_neg hl)▸(if_neg hl)▸(if_pos rfl)▸rfl
  ·refine(beq_eq_false_iff_ne.mpr e).symm▸?_;have:(if kindOf k=some .local then m else λy=>if y=k then some v else m y) n=m n:=by
    split
    ·rfl
    ·exact if_neg e
   exact this▸rfl
structure G3(k:Ck)(i:Fi)(fd:Wp)(body:List Xj):Prop where
 clo:fd.closure=[]
 dfl:fd.defaults=.none
 cnd:i.cells.Nodup
 cll:∀x∈i.cells,fd.scope.names.lookup (nm x)=some .cell
 loc:∀p∈i.pars,fd.scope.names.lookup (nm p)=some .local/\HP p i.cells=false\/p∈i.cells
 ok:Hn k fd.scope i.body body=true
theorem DM:∀(names:List (W5×YS)) (b:Nat) (acc:List (W5×XQ)) {n:W5},(n,YD)∈names\/(acc.lookup n).isSome=true->((cellsFrom b names acc).lookup n).isSome=true
 | [],_,_,_,h=>h.elim (λh=>nomatch h) id
 | (x,kd)::r,b,acc,n,h=>by
  unfold cellsFrom;split
  ·refine DM r _ _ ?_;rcases h with h|h
   ·rcases mcP h with h|h
    ·cases h;exact .inr (by rw[W1,beq_self_eq_true];rfl)
    ·exact .inl h
   ·refine .inr ?_;rw[W1];split
    ·rfl
    ·exact h
  ·rename_i hk;refine DM r _ _ ?_;rcases h with h|h
   ·rcases mcP h with h|h
    ·cases h;exact absurd rfl hk
    ·exact .inl h
   ·exact .inr h
theorem F3{x:Nat}{v:V}{xs:List Nat}:∀{ρ:As},AM x (without xs ρ)=some v->HP x xs=false/\AM x ρ=some v
 | [],h=>zN h
 | p::r,h=>by
  have h:AM x (bif HP p.1 xs then without xs r else p::without xs r)=some v:=h;refine bCs (HP p.1 xs) (λq=>?_) λq=>?_
  ·
   replace h:=q▸h;refine Az (F3 (ρ:=r) h) λh1 h2=>?_;refine⟨h1,?_⟩
   show cond (WV p.1 x) (some p.2) (AM x r)=some v
   cases e:WV p.1 x with
   | true=>replace q:=h1▸(Wa e)▸q;exact zT q
   | false=>exact h2
  ·
   replace h:=q▸h;have h:cond (WV p.1 x) (some p.2) (AM x (without xs r))=some v:=h
   show _/\cond (WV p.1 x) (some p.2) (AM x r)=some v
   cases e:WV p.1 x with
   | true=>replace h:=e▸h;exact⟨Wa e▸q,h⟩
   | false=>replace h:=e▸h;exact F3 (ρ:=r) h
theorem MR{x:Nat}:∀{l:List Nat},x∈l->HP x l=true
 | y::r,h=>by
  show(WV y x||HP x r)=true
  rcases mcP h with rfl|h
  ·rw[YM];rfl
  ·rw[MR h,Bool.or_true]
theorem NR{x:Nat}{v:V}:∀{ρ:As},AM x ρ=some v->x∈ρ.map (·.1)
 | [],h=>zN h
 | p::r,h=>by
  have h:cond (WV p.1 x) (some p.2) (AM x r)=some v:=h;refine XK.symm▸?_;refine bCs (WV p.1 x) (λe=>?_) λe=>?_
  ·exact(Wa e)▸.head _
  ·replace h:=e▸h;exact .tail _ (NR h)
section
theorem retE{c':Cx}(q:∀m'' H'' s'' v y,Aa WH w c' m'' H'' s''->VR v y->Q v H''->R (.ok (.ret y)) s'')(fl:Flow)(UM:WQ):PS WH w c' (Ah Q) fl UM->R (.ok (.ret (match fl with|.ret v=>v|_=>.none))) UM:=by
 intro h;refine AU λGG hG=>?_;obtain⟨fl',Vn,Uv,UR,rf,Uf,UJ,UY⟩:=h;refine hG ?_;clear hG GG;cases rf with
 | next=>exact q _ _ _ _ _ UJ .none UY
 | ret rv=>exact q _ _ _ _ _ UJ rv UY
 | brk=>exact UY.elim
 | cont=>exact UY.elim
theorem Km{C:CB}(hd:8*A.depth+A.units+24*(d+1)<=7900)(G:Jg K f i fd body)(P:G3 k i fd body){UD:Xy}(B:Base k K UD)(mk:∀(c':Cx) κ,c'.UD=UD->c'.L=s.heap.objs.size->EO (callEnvC fd s.heap.objs.size f) c'.L κ fd.scope->Ev WH w K k C (A.deeper (callEnvC fd s.heap.objs.size f)) c' (callEnvC fd s.heap.objs.size f) κ fd.scope)(VJ:∀b o,UD.get? b=some o->s.heap.get? b=some o)(r:A2 VR vs ys)(r':A2 KR us zs)
 (h:IE C i vs us H Q)
 (ent:∀(h':Xy) m',(∀b o,s.heap.get? b=some o->h'.get? b=some o)->h'.Ns s.heap.objs.size m'->∃(c':Cx) (D:Nat->Nat) (WI:BW),c'.UD=UD/\c'.L=s.heap.objs.size/\((∀(k:Nat) (st:Xo),c'.gs[k]?=some st->s.gens[k]?=some st)/\X4 s.gens/\s.os=c'.os)/\Fr c'.UD c'.L h' m'/\Zh c'.UD c'.L h' WI/\FZ WH w c'.UD D WI c'.X H/\(∀p∈WI,p.1<s.heap.objs.size) /\
  ∀m'' H'' s'' v y,Aa WH w c' m'' H'' s''->VR v y->Q v H''->R (.ok (.ret y)) s''):codeAny (model WH w) A (.call (.ref f) ⟨ys,zs⟩) R s:=by
 refine AU λGG hG=>?_;refine Aj (QL h) λρ hb h=>?_;refine Fu G.at_ λoc od osl ho=>?_;refine hG ?_;clear hG GG;have X:=B.kin.keeps VJ;refine AU λGG hG=>?_;refine SD (Id X G.p1 G.p2 G.p3 G.p4 G.pn G.df r r' hb) λbinds sl hsl hkr U hpure=>?_;refine Az (Gq hkr hsl G.nd) λhnd hin=>?_;refine hG ?_;clear hG GG;have some_of:∀{b:Nat} {x:Nat},x∈i.cells->((cellsFrom b fd.scope.names []).lookup (nm x)).isSome=true:=λhx=>DM _ _ _ (.inl (CA (P.cll _ hx)));refine codeAny_call_function (dl hd) (X _ _ ho) rfl G.co G.gen G.body (ZV X G.code) ?_;refine(hpure P.dfl).symm▸P.clo.symm▸W6 (wpAny_newFunctionEnv_cells G.kind (λx hx=>?_) λenv he UH x=>?_)
 ·refine Aj (hin x hx) λp hp e=>?_;exact e.symm▸(P.loc p hp).imp (λh=>h.1) λh=>⟨P.cll p h,some_of h⟩
 ·subst he;refine⟨(B.lim.keeps VJ).keeps x.toInCall.keep,codeAny_func ?_⟩;refine AU λGG hG=>?_;refine Ly x.done λUX tk u hk=>?_;obtain rfl:=u;refine x38 (ent UX _ hk x.toInCall.ns) λc' D WI u cL t VK N L lt back=>?_;obtain rfl:=u;refine DN t λc1 c2 c3=>?_;refine hG ?_;clear hG GG;have off:∀{a:Nat},s.heap.objs.size<a->a≠c'.L/\c'.UD.get? a=none/\a∉WI.map (·.1):=λ{a} ha=>by
   refine⟨cL▸Nat.ne_of_gt ha,?_,λq=>?_⟩
   ·cases q:c'.UD.get? a with
    | none=>rfl
    | some o=>exact absurd (Wn (VJ _ _ q)) (Ti (Xe ha))
   ·refine Aj (mmP q) λp hp u=>?_;obtain rfl:=u;exact absurd (lt p hp) (Ti (Xe ha))
  refine Jf (Ri (c:=c') (env:=newEnv fd.scope s.heap.objs.size fd.globals (cellsFrom (s.heap.objs.size+1) fd.scope.names []) (fd.qualname++".<locals>.") (some f) fd.code none fd.builtins)
   (cm:=bindC (newEnv fd.scope s.heap.objs.size fd.globals (cellsFrom (s.heap.objs.size+1) fd.scope.names []) (fd.qualname++".<locals>.") (some f) fd.code none fd.builtins).kindOf binds λU=>none)
   (λy z a e1 e2=>I9 (name_of_addr x.apart (CA e1) (CA e2))) i.cells P.cnd N L (λy hy=>by
    refine AU λGG hG=>?_;obtain⟨a,ha⟩:=XT.mp (some_of (b:=s.heap.objs.size+1) hy);refine DN (off (x.above _ _ (CA ha))) λo1 o2 o3=>?_;refine hG ?_;refine⟨a,ha,x.cell _ _ ha,?_,o1,o2,o3⟩;rw[NQ _ _ _ hnd,if_neg (by show ¬ fd.scope.names.lookup (nm y)=_;refine(P.cll y hy).symm▸?_;decide),Option.or_none]
    exact KR.get hkr y) h) λκ H' WK hw N' L' hκ=>?_
  have UP:Aa WH w c' _ H' {s with heap:=UX,toks:=tk}:=⟨VK,⟨D,WK,N',L'⟩,c1,c2,c3⟩
  have Z:=mk c' κ rfl cL ⟨rfl,G.kind,cL.symm,G.gl,G.bi,λy a e=>(hκ y a e).elim (λe=>(zN e)) λh U=>h,λp hp e=>XT.mp (DM _ _ _ (.inl (e▸hp)))⟩;refine th (TF Z (λx U=>PJ x) (ρ:=without i.cells ρ) (λy v e=>?_) P.ok UP hw) λfl UM h=>retE back fl UM h;refine Az (F3 e) λe1 e2=>?_;have hp:y∈i.pars:=by
   have:=NR e2;rw[hsl,G2] at this;exact(mfP this).1
  have hl:fd.scope.names.lookup (nm y)=some .local:=(P.loc y hp).elim (λh=>h.1) λh=>by
   have:HP y i.cells=true:=MR h;exact tG this e1
  have g:=KR.get hkr y;replace g:=e2▸g;refine oCs (binds.lookup (nm y)) (λq=>?_) λz q=>?_
  ·rw[q] at g;exact g.elim
  ·
   rw[q] at g;refine⟨z,?_,g⟩;rw[NP _ _ _ hnd,if_pos (by exact hl),q];rfl
theorem QB(F:KF K k.isAttr)(ih:SI WH w k K (call d) d)(hh:k.strict=true->A.handled=none)(hd:8*A.depth+A.units+24*(d+1)<=7900)(G:Jg K f i fd body)(P:G3 k i fd body)(B:Base k K c.UD)(Rl:Aa WH w c m H s)(r:A2 VR vs ys)(r':A2 KR us zs)
 (h:IE (call d) i vs us H Q)(q:∀v s',PE WH w c m Q v s'->R (.ok (.ret v)) s'):codeAny (model WH w) A (.call (.ref f) ⟨ys,zs⟩) R s :=
 Km hd G P B (λc' κ e eL O=>⟨F,e▸B,O,hh,d0 (dw (di hd (WY _))),
  λA' hh' hd' c'' m H s f vs ys us zs Q R e' U R' r r' h q=>ih A' hh' (dc (di hd (WY _)) hd') c'' m H s f vs ys us zs Q R (e'▸e▸B) R' r r' h q,λU U U U U U U U U U U U U U U h=>(LX h).elim,λU U U U U U U U U U U U U U U U U h=>(LY h).elim⟩) Rl.fr.keep r r' h λh' m' hk hns =>
  x35 (Rl.enterL hk hns) λoL D WI VK N L lt back =>
  ⟨(c.lx (s.heap.objs.size) ((c.L,oL)::c.X)),D,WI,rfl,rfl,⟨Rl.gs,Rl.dr,Rl.os⟩,VK,N,L,lt,λm'' H'' s'' v y R'' rv qv=>q _ _ ⟨v,H'',rv,back _ _ _ R'',qv⟩⟩
end
structure PL(WH:Wm)(k:Ck)(K:Xb)(f:Nat)(i:Fi)(fd:Wp)(body:List Xj)(cl:Cl)(g:Nat):Prop where
 nocell:∀x∈fd.scope.names,x.2≠YD
 cells:i.cells=[]
 loc:∀p∈i.pars,fd.scope.names.lookup (nm p)=some .local
 ks:fd.scope.names.lookup ("super":W5)=some .globalImplicit
 kc:fd.scope.names.lookup ("__class__":W5)=some .free
 slf:fd.scope.names.lookup (nm AA)=some .local
 hd:∃ar,fd.params.args.head?=some ar/\ar.arg=nm AA
 cd:∃cda ccl cdd vs ccs file tf,fd.code=.ref cda/\K.lookup cda=some ⟨ccl,cdd,.fields vs,ccs⟩/\vs[2]?=some (.str file tf)/\((WH.main.file:W5)==file)=true
 top:(WH.main.scope.names.lookup ("super":W5)).isSome=false
 cc:∃cc ccl ccd ccs,fd.closure.lookup ("__class__":W5)=some cc/\K.lookup cc=some ⟨ccl,ccd,.cell (some (.ref (Cf cl))),ccs⟩
 mro:mroIn K (Cf cl) (.ref (Cf cl))=some true
 sup:ks_superIn K (Cf cl) (Cf cl) "__init__"=some (some (.ref g))
 isf:isFn K (.ref g)=true
 fni:fnIn K g=true
 st:nsIn K cStatics "thirdparty.any"=some none
 ok:∃p0 p1 ap args pos p rest as r,body=.Expr (.Call (.Attribute (.Call (.Name "super" p0) [] [] p1) "__init__" ap) args [] pos) p::rest/\i.body=.expr (.sup cl g as)::r/\CP k fd.scope as args=true/\Hn k fd.scope r rest=true/\(ap.endLine==pos.line)=true/\args.length<20
theorem LZ(env:Zp):∀xs:List Expr,(xs.map λx=>(false,eval x env)).any (·.1)=false
 | []=>rfl
 | x::r=>LZ env r
section
theorem QC(F:KF K k.isAttr)(ih:SI WH w k K (call d) d)(hh:k.strict=true->A.handled=none)(hd:8*A.depth+A.units+24*(d+1)<=7900)
 {cl:Cl}{g:Nat}(G:Jg K f i fd body)(P:PL WH k K f i fd body cl g)(B:Base k K c.UD)(Rl:Aa WH w c m H s)(r:A2 VR vs ys)(r':A2 KR us zs)(h:IE (call d) i vs us H Q)
 (q:∀v s',PE WH w c m Q v s'->R (.ok (.ret v)) s'):codeAny (model WH w) A (.call (.ref f) ⟨ys,zs⟩) R s:=by
 have un:8*(A.depth+1)+(A.units+3)<=7900:=d0 (dw (di hd (WY _)));refine AU λGG hG=>?_;refine Aj (QL h) λρ hb h=>?_;replace h:=P.cells▸h;have h':A4 (call d) [] i.body (without [] ρ) H (Ah Q):=h;rw[Gp] at h';refine Fu G.at_ λoc od osl ho=>?_;have X:=B.kin.keeps Rl.fr.keep;refine SD (Id X G.p1 G.p2 G.p3 G.p4 G.pn G.df r r' hb) λbinds sl hsl hkr hbind U=>?_;refine Az (Gq hkr hsl G.nd) λhnd hin=>?_;obtain⟨p0,p1,ap,args,pos,p,rest,as,rs,hbody,hbo,okas,okr,hline,hlen⟩:=P.ok;refine hG ?_;clear hG GG;refine ks_codeAny_call_defAt (fd:=fd) (body:=body) (binds:=binds) (dl hd) (X _ _ ho) rfl (B.lim.keeps Rl.fr.keep) (ZV X G.code) G.body hbind P.nocell (λx hx=>by refine Aj (hin x hx) λp hp e=>?_;exact e.symm▸P.loc p hp) (λUX hns hk=>?_) G.co G.gen G.kind
 refine AU λGG hG=>?_;refine Aj (Rl.enter (t:=s.toks+binds.length) hk hns) λoL UP back=>?_
 generalize hc':(c.lx (s.heap.objs.size) ((c.L,oL)::c.X))=c' at UP back
 have ch:c'.UD=c.UD:=by exact hc'▸rfl
 have cL:c'.L=s.heap.objs.size:=by exact hc'▸rfl
 have O:EO (callEnv fd s.heap.objs.size f) c'.L [] fd.scope:=⟨rfl,G.kind,cL.symm,G.gl,G.bi,λx a e U=>(zN e),λp hp e=>absurd e (P.nocell p hp)⟩;have calls:∀A':XG,(k.strict=true->A'.handled=none)->8*A'.depth+A'.units<=8*(A.deeper (callEnv fd s.heap.objs.size f)).depth+(A.deeper (callEnv fd s.heap.objs.size f)).units+12->∀(c'':Cx) m H s f vs ys us zs Q R,c''.UD=c.UD->Aa WH w c'' m H s->A2 VR vs ys->A2 KR us zs->call d f vs us H Q ->
  (∀v s',PE WH w c'' m Q v s'->R (.ok (.ret v)) s')->codeAny (model WH w) A' (.call (.ref f) ⟨ys,zs⟩) R s :=
  λA' hh' hd' c'' m H s f vs ys us zs Q R e R' r r' h q=>ih A' hh' (dc (di hd (WY _)) hd') c'' m H s f vs ys us zs Q R (e▸B) R' r r' h q
 have Z:Ev WH w K k (call d) (A.deeper (callEnv fd s.heap.objs.size f)) c' (callEnv fd s.heap.objs.size f) [] fd.scope :=
  ⟨F,ch▸B,O,hh,un,λA' hh' hd' c'' m H s f vs ys us zs Q R e U=>calls A' hh' hd' c'' m H s f vs ys us zs Q R (e.trans ch),λU U U U U U U U U U U U U U U h=>(LX h).elim,λU U U U U U U U U U U U U U U U U h=>(LY h).elim⟩
 have l:=MQ hkr hnd;subst hbody;replace h':=hbo▸h';refine Aj (QL h') λva gs h'=>?_;refine Aj (PC h') λa z u=>?_;obtain rfl:=z;refine En u λcl' bs hi o h''=>?_;obtain rfl:=o;refine Aj (l _ _ gs) λys' gy ry=>?_;cases ry
 generalize Vo:({s with heap:=UX,toks:=s.toks+binds.length}:WQ)=UH at UP hG
 refine x45 (UP.inst hi) λUN Vp es n VV Vq I U U=>?_;have Uw:K.In UH.heap:=Z.B.kin.keeps UP.fr.keep;refine hG ?_;clear hG GG;refine ks_wpAt_execs_cons (ks_wpAt_mono (Q:=λfl UM=>fl=.next/\∃UR,Aa WH w c' (λy=>binds.reverse.lookup y) UR UM/\A4 (call d) [] rs ρ UR (Ah Q)) ?_ (λfl UM hf=>?_) λU U e=>e)
 rotate_left
 ·obtain⟨rfl,UR,UJ,Uh⟩:=hf;exact wpAt_of_wpAny (th (TF Z (λx U=>PJ x) l okr UJ Uh) λfl UM h=>Rh q back fl UM h)
 refine ks_wpAt_Expr_any ?_ (FX O) rfl;have he:eval (.Call (.Attribute (.Call (.Name "super" p0) [] [] p1) "__init__" ap) args [] pos) (callEnv fd s.heap.objs.size f)=(do
  let ov <- attributeBase (.Call (.Name "super" p0) [] [] p1) "__init__" (callEnv fd s.heap.objs.size f) (eval (.Call (.Name "super" p0) [] [] p1) (callEnv fd s.heap.objs.size f))
  standAt ap.atName
  let (f',first) <- holding [ov] (getMethod ov "__init__" (do return (<- importBound (.Call (.Name "super" p0) [] [] p1) (callEnv fd s.heap.objs.size f)).getD true))
  callWith pos f' first (backTo pos (starEach args (callEnv fd s.heap.objs.size f))) []):=by
  show(do
   let ov' <- attributeBase (.Call (.Name "super" p0) [] [] p1) "__init__" (callEnv fd s.heap.objs.size f) (eval (.Call (.Name "super" p0) [] [] p1) (callEnv fd s.heap.objs.size f))
   standAt ap.atName
   methodCall (.Call (.Name "super" p0) [] [] p1) "__init__" ap pos (callEnv fd s.heap.objs.size f) ov' (args.length+([]:List Xg).length) (backTo pos (starEach args (callEnv fd s.heap.objs.size f))) (backToKw pos (keywordEach [] (callEnv fd s.heap.objs.size f))))=_
  simp only[O4 (ks:=[]) (kws:=[]) okas rfl hline (by simpa using hlen)]
  rfl
 refine ks_wpAt_MethodCall ?_ he;clear he Vo q back hb hsl hkr hbind hin hnd okr h r r' hbo hk hns hd ih X cL hc';refine AU λGG hG=>?_;refine Aj P.hd λar har harg=>?_;refine x74 P.cd λcda ccl cdd fvs ccs file tf e1 e2 e3 e4=>?_;refine x42 P.cc λcc ccl' ccd ccs' f1 f2=>?_;refine Aj (any_some (F.hdic cl')) λcdD hD U=>?_;refine SV Z.B.glo λmg mb m1 m2 m3 m4 m5=>?_;obtain⟨U1,VW,VX,Ug,VY⟩:=UH;dsimp only at I Uw;obtain⟨oD,hD1,hD2⟩:∃oD,U1.get? (Cf cl')=some oD/\oD.data=.cls cdD:=by
  unfold clsIn at hD;split at hD
  ·rename_i c d cd' sl ho;obtain rfl:=WT hD;exact⟨_,Uw _ _ ho,rfl⟩
  ·exact zN hD
 have sb:=m5 ("super",.type "super") (.tail _ (.tail _ (.tail _ (.tail _ (.tail _ (.tail _ (.tail _ (.head _))))))));refine hG ?_;clear hG GG;refine ks_wpAt_super_base (env:=callEnv fd s.heap.objs.size f) P.ks P.kc (by decide +kernel) rfl (Uw _ _ ho) rfl (by rw[G.p1];exact har) e1 (Uw _ _ e2) rfl e3 e4 P.top ?_
 refine ks_loadName_global G.kind P.ks (loadGlobal_builtin (env:=callEnv fd s.heap.objs.size f) (by exact O.igl.symm▸m1.keeps UP.fr.keep) sb.1 (by exact O.ibi.symm▸m2.keeps UP.fr.keep) sb.2 ⟨rfl,?_⟩)
 refine wpAny_loadName_free G.kind P.kc f1 ⟨_,Uw _ _ f2,rfl⟩ ?_;refine harg.symm▸XH G.kind P.slf (by exact O.ilo.symm▸UP.fr.ns) gy ?_
 refine ks_wpAny_isType_cls hD1 hD2 ⟨rfl,?_⟩;refine ks_wpAny_call_super hD1 hD2 I.at_ I.cls (λc e=>?_) (looks_mroIn Uw P.mro) (λUh e VL=>?_)
 ·have:=I.no;unfold notCls at this;rw[e] at this;exact Bool.noConfusion this
 refine AU λGG hG=>?_;refine DN (ks_newsPush (s:=⟨U1,VW,VX,Ug,VY⟩) UP.fr VV rfl e VL) λVr U4 Vt=>?_;have VE:U1.objs.size∉Vp.map (·.1):=Bf VV Vt
 have UJ:=Aa.addX' (t:=Ug) UP Vq Vr U4 VE;obtain⟨Vf,VP,VZ,U5⟩:=UJ.led;have Vu:InstAt Uh a (instObj (Cf cl') (UN a)) (Cf cl') (some (dictOf es n)):=⟨VL _ _ I.at_,rfl,rfl,VL _ _ I.dict⟩;refine hG ?_;clear hG GG;refine ks_method (s:=⟨Uh,VW,VX,Ug,VY⟩) (C:=Cf cl') (D:=Cf cl') UJ.fr Z.B.kin VZ (U5.xs _ (.head _)).1 Vu P.st P.sup (beq_iff_eq.mp P.isf) (by decide +kernel) λUb Ua Vv Vx Vy=>?_
 have Vz:Ub∉VP.map (·.1):=Bf VZ Vy
 have UQ:=Aa.addX' (t:=Ug+1) UJ U5 Vv Vx Vz
 generalize VD:(c'.x ((Ub,methodObj (.ref g) (.ref a))::(U1.objs.size,{cls:=.type "super",dict:=none,data:=.fields #[.ref (Cf cl'),.ref a,.ref (Cf cl')],slots:=#[]})::c'.X))=Ux at UQ
 have c3h:Ux.UD=c.UD:=by exact VD▸ch
 have c3L:Ux.L=c'.L:=by exact VD▸rfl
 have c3X:Ux.X=(Ub,methodObj (.ref g) (.ref a))::(U1.objs.size,{cls:=.type "super",dict:=none,data:=.fields #[.ref (Cf cl'),.ref a,.ref (Cf cl')],slots:=#[]})::c'.X:=by exact VD▸rfl
 have c3c:(Ux.x (c'.X))=c':=by exact VD▸rfl
 have Va:Ev WH w K k (call d) (A.deeper (callEnv fd s.heap.objs.size f)) Ux (callEnv fd s.heap.objs.size f) [] fd.scope :=
  ⟨F,c3h▸B,c3L▸O,hh,un,λA' hh' hd' c'' m H s f vs ys us zs Q R e U=>calls A' hh' hd' c'' m H s f vs ys us zs Q R (e.trans c3h),λU U U U U U U U U U U U U U U h=>(LX h).elim,λU U U U U U U U U U U U U U U U U h=>(LY h).elim⟩
 refine Yp (P:=MethP K Ub g (.ref a)) (keywords:=backToKw pos (keywordEach [] (callEnv fd s.heap.objs.size f))) ?_ (keeps_M P.fni)
  (Go (ks:=[]) (kws:=[]) (Q:=λvs us H=>us=[]/\call d g (.ref a::vs) [] H _) okas rfl (LD (SH Va l (λe U=>Ci e) okas UQ h'') λVb V0 UR UM UU UZ Uc=>⟨Vb,UR,UU,UZ,λs' R'=>XX ⟨[],_,.nil,R',rfl,Uc⟩⟩) ?_)
 ·rw[Dp okas,ES]
  show(_||false)=false
  rw[Yn];exact LZ _ args
 ·rintro Vb WD V0 WE UR UM UU UW UZ ⟨rfl,Uc⟩;cases UW
  obtain⟨WF,WG,Vc,V1⟩:=UZ.led;have hm:=(V1.xs (Ub,methodObj (.ref g) (.ref a)) (by rw[c3X];exact .head _)).1
  refine⟨⟨Vc.get hm,Va.B.kin.keeps UZ.fr.keep⟩,Yi (ks_codeAny_call_bound (Vc.get hm) ?_)⟩;refine calls (A.deeper _) hh (WZ _ 12) Ux _ UR UM g _ _ _ _ _ _ c3h UZ (.cons (.ref a) UU) .nil Uc λv Ui V2=>?_;obtain⟨v',VH,rv,Ue,V3⟩:=V2;have Ur:=Ue.dropX' (X':=c'.X) (λp hp=>by rw[c3X];exact .tail _ (.tail _ hp))
  rw[c3c] at Ur;exact⟨rfl,VH,Ur,V3⟩
end
end
theorem Jp(c:Cl):c∈cls:=by cases c<;>(repeat (first|exact .head _|apply Zw))
theorem G4{α:Type}{x:Nat}{v:α}:∀{l:List (Nat×α)},AM x l=some v->(x,v)∈l
 | [],h=>zN h
 | p::r,h=>by
  have h:cond (WV p.1 x) (some p.2) (AM x r)=some v:=h;refine bCs (WV p.1 x) (λe=>?_) λe=>?_
  ·replace h:=e▸h;obtain rfl:=WT h;exact(Wa e)▸.head _
  ·replace h:=e▸h;exact .tail _ (G4 h)
def T1(K:Xb):Bool:=cls.all λc=>(mtab c).all λp=>(findIn K (.ref (Cf c)) (nm p.1)==some (some (.ref p.2)))&&isFn K (.ref p.2)&&keepIn K (.ref p.2)
def clsB(K:Xb):Bool:=cls.all λc=>keepIn K (.ref (Cf c))&&plainGet K (Cf c) (nm AA)&&hasDictIn K (Cf c)&&(findIn K (.ref (Cf c)) "__setattr__"==some (some (.builtin "object.__setattr__")))&&plainOver K (Cf c)
noncomputable def TM:V->Bool
 | .none=>true
 | _=>false
def attrB1(K:Xb)(c:Cl)(n:Nat):Bool:=Ew (findIn K (.ref (Cf c)) (nm n)) λa=>noGet K a&&(takerIn K (Cf c) (nm n)==some none)&&!copiedNames.contains (nm n)&&(match Gw c n with
 | some v=>TM v&&a==some .none
 | none=>true)
def T2(K:Xb)(l:List Nat):Bool:=cls.all λc=>l.all λn=>attrB1 K c n
theorem KF.of{K:Xb}{l:List Nat}(h1:T1 K=true)(h3:clsB K=true)(h4:T2 K l=true)(h5:(specialIn K .none "__get__"==some none)=true):KF K λn=>HP n l:=by
 have c3:=λc=>laP h3 c (Jp c);simp only[X2,beq_iff_eq] at c3;refine⟨λc m f e=>?_,λc U=>(c3 c).1.1.1.2,λc=>(c3 c).1.1.2,λc n hn=>?_,beq_iff_eq.mp h5,λc=>(c3 c).1.2,λc=>(c3 c).2⟩
 ·have:=laP (laP h1 c (Jp c)) _ (G4 e);refine DN (NE this) λh1 h2 h3=>?_;exact⟨beq_iff_eq.mp h1,h2,h3⟩
 ·have:=laP (laP h4 c (Jp c)) n (Gy hn);refine Aj (Do this) λa ha h=>?_;refine Ij (Jl h) λt1 t2 t3 t4=>?_;clear h;refine⟨a,ha,t1,beq_iff_eq.mp t2,by rwa [XC] at t3,λv hv=>?_⟩
  replace t4:=hv▸t4;refine Az (an t4) λt4 t5=>?_;exact⟨(by cases v<;>first|rfl|exact zT t4),beq_iff_eq.mp t5⟩
noncomputable def vr1(v:V)(y:WO):Bool:=match v with
 | .none=>y==.none
 | .bool b=>y==.bool b
 | .int i=>Value.isInt i y
 | .ref _=>false
 | .str _=>false
theorem vr1_of{v:V}{y:WO}(h:vr1 v y=true):VR v y:=by
 cases v with
 | none=>cases(eq_of_beq h:y=.none);exact .none
 | bool b=>cases(eq_of_beq h:y=.bool b);exact .bool b
 | int i=>refine CT (ZA (show Value.isInt i y=true from h)) λt z=>?_;obtain rfl:=z;exact .int i t
 | ref=>exact zT h
 | str=>exact zT h
def vrB:List V->List WO->Bool
 | [],[]=>true
 | v::r,y::s=>vr1 v y&&vrB r s
 | _,_=>false
theorem T3:∀{vs:List V} {ys:List WO},vrB vs ys=true->A2 VR vs ys
 | [],[],_=>.nil
 | v::r,y::s,h=>.cons (vr1_of (an h).1) (T3 (an h).2)
 | [],_::_,h=>zT (show false=true from h)
 | _::_,[],h=>nomatch (show false=true from h)
def dfB(K:Xb)(i:Fi):WO->Bool
 | .none=>i.dflt.isEmpty
 | .ref T=>Ew (K.lookup T) λo=>match o.data with
  | .seq items _=>vrB i.dflt items.toList
  | _=>false
 | _=>false
noncomputable def Dz:FuncBody->List Xj
 | .stmts b=>b
 | _=>[]
noncomputable def Jq:FuncBody->Bool
 | .stmts _=>true
 | _=>false
noncomputable def Kn:List Nat->Bool
 | []=>true
 | x::r=>!HP x r&&Kn r
theorem Ig:∀{l:List Nat},Kn l=true->l.Nodup
 | [],_=>.nil
 | x::r,h=>by
  refine Az (an h) λh1 h2=>?_;refine ncR ⟨λhm=>?_,Ig h2⟩;replace h1:=(MR hm)▸h1;exact zT h1
def T4(K:Xb)(i:Fi)(fd:Wp):Bool :=
 (codeIn K fd.code fd.qualname&&(fd.globals==mainGlobals)&&(fd.builtins==builtinsNs)&&!fd.scope.isCoroutine&&!fd.scope.isGenerator&&(fd.scope.kind==.function)&&dfB K i fd.defaults) &&
 (fd.params.posonlyargs.isEmpty&&fd.params.kwonlyargs.isEmpty&&fd.params.vararg.isNone&&fd.params.kwarg.isNone&&(fd.params.args.map (·.arg)==i.pars.map nm)&&Jq fd.body&&Kn i.pars)
theorem PM{b:Bool}(h:(!b)=true):b=false:=by cases b<;>first|rfl|exact zT h
theorem G5{α:Type}{o:Option α}(h:o.isNone=true):o=Option.none:=by cases o<;>first|rfl|exact zT h
theorem T5{K:Xb}{i:Fi}{v:WO}(h12:dfB K i v=true):(i.dflt=[]/\v=.none)\/∃T o items n,v=.ref T/\K.lookup T=some o/\o.data=.seq items n/\A2 VR i.dflt items.toList:=by
 unfold dfB at h12;split at h12
 ·exact .inl ⟨List.isEmpty_iff.mp h12,rfl⟩
 ·rename_i T;refine Aj (Do h12) λo e2 h12=>?_;split at h12
  ·rename_i e3;exact .inr ⟨T,_,_,_,rfl,e2,e3,T3 h12⟩
  ·exact zT h12
 ·exact zT h12
theorem NS{b:FuncBody}(h13:Jq b=true):b=.stmts (Dz b):=by
 unfold Jq at h13;split at h13
 ·rfl
 ·exact zT h13
theorem Jg.of{K:Xb}{f:Nat}{i:Fi}{fd:Wp}(hat:∃oc od osl,K.lookup f=some ⟨oc,od,.func fd,osl⟩)(h:T4 K i fd=true):Jg K f i fd (Dz fd.body):=by
 refine Az (an h) λhA hB=>?_;refine SU (an7 hA) λh1 h2 h3 h4 h5 h6 h12=>?_;refine SU (an7 hB) λh7 h8 h9 h10 h11 h13 h15=>?_;exact⟨hat,h1,eq_of_beq h2,eq_of_beq h3,PM h4,PM h5,eq_of_beq h6,Ae h7,Ae h8,G5 h9,G5 h10,eq_of_beq h11,T5 h12,Ig h15,NS h13⟩
noncomputable def Jr(fd:Wp):Bool:=fd.scope.names.all λx=>x.2 !=.cell
def TN(i:Fi)(fd:Wp):Bool:=i.pars.all λp=>fd.scope.names.lookup (nm p)==some .local
def NT(k:Ck)(i:Fi)(fd:Wp):Bool:=Jr fd&&i.cells.isEmpty&&TN i fd&&Hn k fd.scope i.body (Dz fd.body)
theorem JD{fd:Wp}(h:Jr fd=true):∀x∈fd.scope.names,x.2≠NameKind.cell:=λx hx e=>by
 have:=laP h x hx;replace this:=e▸this;exact zT this
theorem OL{i:Fi}{fd:Wp}(h:TN i fd=true):∀p∈i.pars,fd.scope.names.lookup (nm p)=some .local:=λp hp=>eq_of_beq (laP h p hp)
theorem E7.of{k:Ck}{i:Fi}{fd:Wp}(h:NT k i fd=true):E7 k i fd (Dz fd.body):=by
 refine Ij (Jl h) λh1 h2 h3 h4=>?_;exact⟨JD h1,Ae h2,OL h3,h4⟩
def NU(k:Ck)(i:Fi)(fd:Wp):Bool:=fd.closure.isEmpty&&(fd.defaults==.none)&&Kn i.cells&&(i.cells.all λx=>fd.scope.names.lookup (nm x)==some .cell) &&
 (i.pars.all λp=>(fd.scope.names.lookup (nm p)==some .local)&&!HP p i.cells||HP p i.cells)&&Hn k fd.scope i.body (Dz fd.body)
theorem G3.of{k:Ck}{i:Fi}{fd:Wp}(h:NU k i fd=true):G3 k i fd (Dz fd.body):=by
 refine x06 (an6 h) λh1 h2 h3 h4 h5 h6=>?_;exact⟨Ae h1,eq_of_beq h2,Ig h3,λx hx=>eq_of_beq (laP h4 x hx),λp hp=>(boP (laP h5 p hp)).imp (λh=>⟨eq_of_beq (an h).1,PM (an h).2⟩) Gy,h6⟩
def Rj(x:Expr)(f:Expr->List Expr->List Xg->Yt->Bool):Bool:=vt x 3&&f (AI x).a (AI x).xs (AI x).kw (AI x).p
theorem NV{x:Expr}{f:Expr->List Expr->List Xg->Yt->Bool}(h:Rj x f=true):∃a xs kw p,x=.Call a xs kw p/\f a xs kw p=true:=by
 refine Az (an h) λh1 h2=>?_;refine GJ (AP h1) λa xs kw p z=>?_;obtain rfl:=z;exact⟨a,xs,kw,p,rfl,h2⟩
def T6(x:Expr)(f:Expr->W5->Yt->Bool):Bool:=vt x 2&&f (AI x).a (AI x).z (AI x).p
theorem Rk{x:Expr}{f:Expr->W5->Yt->Bool}(h:T6 x f=true):∃a z p,x=.Attribute a z p/\f a z p=true:=by
 refine Az (an h) λh1 h2=>?_;refine Fu (AP h1) λa z p y=>?_;obtain rfl:=y;exact⟨a,z,p,rfl,h2⟩
def T7(x:Expr)(n:W5):Bool:=vt x 1&&((AI x).z==n)
theorem Rm{x:Expr}{n:W5}(h:T7 x n=true):∃p,x=.Name n p:=by
 refine Az (an h) λh1 h2=>?_;refine HI (AP h1) λz p y=>?_;obtain rfl:=y;exact⟨p,by exact(eq_of_beq h2)▸rfl⟩
def supV(x:Expr):Bool:=Rj x λsx sargs skws U=>sargs.isEmpty&&skws.isEmpty&&T7 sx "super"
theorem TO{x:Expr}(h:supV x=true):∃p0 p1,x=.Call (.Name "super" p0) [] [] p1:=by
 refine x42 (NV h) λa xs kw p z h=>?_;obtain rfl:=z;refine DN (NE h) λh1 h2 h3=>?_;clear h;cases Ae h1
 cases Ae h2
 obtain⟨p0,rfl⟩:=Rm h3;exact⟨p0,p,rfl⟩
def T8(x:Expr)(l:Nat):Bool:=T6 x λov z ap=>(z=="__init__")&&(ap.endLine==l)&&supV ov
theorem Rn{x:Expr}{l:Nat}(h:T8 x l=true):∃p0 p1 ap,x=.Attribute (.Call (.Name "super" p0) [] [] p1) "__init__" ap/\(ap.endLine==l)=true:=by
 refine MX (Rk h) λov z ap y h=>?_;obtain rfl:=y;refine DN (NE h) λh1 h2 h3=>?_;clear h;cases eq_of_beq h1
 refine HI (TO h3) λp0 p1 y=>?_;obtain rfl:=y;exact⟨p0,p1,ap,rfl,h2⟩
def supA(k:Ck)(sc:XB)(r:List S)(as:List E)(x:Expr)(rest:List Xj):Bool:=Rj x λfx args kws pos=>kws.isEmpty&&CP k sc as args&&Hn k sc r rest&&Nat.blt args.length 20&&T8 fx pos.line
theorem TP{k:Ck}{sc:XB}{r:List S}{as:List E}{x:Expr}{rest:List Xj}(h:supA k sc r as x rest=true):∃p0 p1 ap args pos,x=.Call (.Attribute (.Call (.Name "super" p0) [] [] p1) "__init__" ap) args [] pos/\CP k sc as args=true/\Hn k sc r rest=true/\(ap.endLine==pos.line)=true/\args.length<20:=by
 refine x42 (NV h) λfx args kws pos z h=>?_;obtain rfl:=z;refine Nk (QJ h) λh1 h2 h3 h4 h5=>?_;clear h;cases Ae h1
 refine MX (Rn h5) λp0 p1 ap z h6=>?_;obtain rfl:=z;exact⟨p0,p1,ap,args,pos,rfl,h2,h3,h6,WU h4⟩
def exprOf(y:Xj)(f:Expr->Bool):Bool:=MM y 9&&Ew (BU y).a f
def supB(k:Ck)(fd:Wp)(as:List E)(r:List S):Bool:=match Dz fd.body with
 | y::rest=>exprOf y λx=>supA k fd.scope r as x rest
 | _=>false
def cellB(K:Xb)(cl:Cl)(o:Option XQ):Bool:=Ew o λcc=>Ew (K.lookup cc) λob=>match ob.data with
 | .cell (some (.ref D))=>D==Cf cl
 | _=>false
def T9(K:Xb)(file:W5):WO->Bool
 | .ref c=>Ew (K.lookup c) λob=>match ob.data with
  | .fields vs=>Ew vs[2]? λv=>match v with
   | .str n _=>file==n
   | _=>false
  | _=>false
 | _=>false
def Ro(file:W5)(k:Ck)(K:Xb)(i:Fi)(fd:Wp)(cl:Cl)(g:Nat)(as:List E)(r:List S):Bool :=
 (Jr fd&&i.cells.isEmpty&&TN i fd &&
 (fd.scope.names.lookup ("super":W5)==some .globalImplicit)&&(fd.scope.names.lookup ("__class__":W5)==some .free)&&(fd.scope.names.lookup (nm AA)==some .local) &&
 ((fd.params.args.head?.map (·.arg))==some (nm AA))&&T9 K file fd.code)&&(cellB K cl (fd.closure.lookup ("__class__":W5))&&(mroIn K (Cf cl) (.ref (Cf cl))==some true) &&
 (ks_superIn K (Cf cl) (Cf cl) "__init__"==some (some (.ref g)))&&isFn K (.ref g)&&fnIn K g&&(nsIn K cStatics "thirdparty.any"==some none)&&supB k fd as r)
theorem PL.of{WH:Wm}{k:Ck}{K:Xb}{f:Nat}{i:Fi}{fd:Wp}{cl:Cl}{g:Nat}{as:List E}{r:List S}{file:W5}(hbo:i.body=.expr (.sup cl g as)::r)(hf:WH.main.file=file)(ht:(WH.main.scope.names.lookup ("super":W5)).isSome=false)(h:Ro file k K i fd cl g as r=true):PL WH k K f i fd (Dz fd.body) cl g:=by
 refine Az (an h) λhA hB=>?_;refine Tf (an8 hA) λh1 h2 h3 h4 h5 h6 h7 h8=>?_;refine SU (an7 hB) λh9 h10 h11 h11' h12 h13 h14=>?_;clear h hA hB;refine⟨JD h1,Ae h2,OL h3,eq_of_beq h4,eq_of_beq h5,eq_of_beq h6,?_,?_,ht,?_,eq_of_beq h10,eq_of_beq h11,h11',h12,eq_of_beq h13,?_⟩
 ·refine Aj (Wz.mp (eq_of_beq h7)) λar e1 e2=>?_;exact⟨ar,e1,e2⟩
 ·unfold T9 at h8;split at h8
  ·rename_i c e;refine AU λGG hG=>?_;refine Aj (Do h8) λz e2 h8=>?_;obtain⟨oc,od,odt,os⟩:=z;refine hG ?_;dsimp only at h8;split at h8
   ·refine Aj (Do h8) λv e3 h8=>?_;split at h8
    ·exact⟨c,_,_,_,_,_,_,e,e2,e3,by rw[hf];exact h8⟩
    ·exact zT h8
   ·exact zT h8
  ·exact zT h8
 ·refine AU λGG hG=>?_;refine Aj (Do h9) λcc e1 h9=>?_;refine Aj (Do h9) λz e2 h9=>?_;obtain⟨oc,od,odt,os⟩:=z;refine hG ?_;dsimp only at h9;split at h9
  ·rw[beq_iff_eq.mp h9] at e2;exact⟨cc,_,_,_,e1,e2⟩
  ·exact zT h9
 ·unfold supB at h14;split at h14
  ·rename_i y rest e1;refine AU λGG hG=>?_;refine Az (an h14) λh3 h4=>?_;refine HI (BI h3) λv p z=>?_;obtain rfl:=z;refine Aj (Do (l:=some v) h4) λx e h=>?_;obtain rfl:=WT e;refine x55 (TP h) λp0 p1 ap args pos z g1 g2 g3 g4=>?_;obtain rfl:=z;refine hG ?_;exact⟨p0,p1,ap,args,pos,p,rest,as,r,e1,hbo,g1,g2,g3,g4⟩
  ·exact zT h14
noncomputable abbrev OM:=Cl×Nat×List E
noncomputable def supE(e:E):Option OM:=E.casesOn (motive_1:=λU=>Option OM) e WN WN (λU=>WN) (λU=>WN) (λU=>WN) (λU=>WN) (λU=>WN) (λU U=>WN) (λU U U U=>WN) (λU U U=>WN) (λU U U=>WN) (λU U U U=>WN) (λc f as=>some (c,f,as)) (λU=>WN) (λU=>WN) (λU U=>WN) (λU U=>WN) (λU=>WN) (λU=>WN) (λU=>WN) (λU=>WN) (λU=>WN) (λU=>WN) (λU=>WN) (λU U U=>WN) (λU U U=>WN) (λU U U=>WN) (λU U=>WN) (λU U=>WN) (λU=>WN) (λU=>WN) WN WN (λU=>WN) (λU U=>WN) (λU U U=>WN) (λU=>WN) (λU=>WN) (λU U=>WN) (λU=>WN) (λU U=>WN) (λU=>WN) (λU U U U=>WN) (λU U U U U=>WN)
noncomputable def Rp(s:S):Option OM:=S.casesOn (motive_1:=λU=>Option OM) s (λU U=>WN) (λU U=>WN) (λU U U=>WN) (λU U=>WN) (λU U U=>WN) (λU U U U=>WN) (λU U U=>WN) (λU U U=>WN) (λU U=>WN) (λU U U=>WN) (λU=>WN) WN WN (λU=>WN) (λe=>supE e) WN WN WN
theorem nO{α:Type}{P:Prop}{a:α}(h:WN=some a):P:=zN h
theorem TQ(p:OM)(e:E):supE e=some p->e=.sup p.1 p.2.1 p.2.2:=E.casesOn (motive_1:=λe=>supE e=some p->e=.sup p.1 p.2.1 p.2.2) e nO nO (λU=>nO) (λU=>nO) (λU=>nO) (λU=>nO) (λU=>nO) (λU U=>nO) (λU U U U=>nO) (λU U U=>nO) (λU U U=>nO) (λU U U U=>nO) (λc f as h=>by cases(show some (c,f,as)=some p from h);rfl) (λU=>nO) (λU=>nO) (λU U=>nO) (λU U=>nO) (λU=>nO) (λU=>nO) (λU=>nO) (λU=>nO) (λU=>nO) (λU=>nO) (λU=>nO) (λU U U=>nO) (λU U U=>nO) (λU U U=>nO) (λU U=>nO) (λU U=>nO) (λU=>nO) (λU=>nO) nO nO (λU=>nO) (λU U=>nO) (λU U U=>nO) (λU=>nO) (λU=>nO) (λU U=>nO) (λU=>nO) (λU U=>nO) (λU=>nO) (λU U U U=>nO) (λU U U U U=>nO)
theorem TR(p:OM)(s:S):Rp s=some p->s=.expr (.sup p.1 p.2.1 p.2.2):=S.casesOn (motive_1:=λs=>Rp s=some p->s=.expr (.sup p.1 p.2.1 p.2.2)) s (λU U=>nO) (λU U=>nO) (λU U U=>nO) (λU U=>nO) (λU U U=>nO) (λU U U U=>nO) (λU U U=>nO) (λU U U=>nO) (λU U=>nO) (λU U U=>nO) (λU=>nO) nO nO (λU=>nO) (λe h=>congrArg S.expr (TQ p e h)) nO nO nO
def PN(file:W5)(k:Ck)(K:Xb)(i:Fi)(fd:Wp):Bool:=match i.body.head?.bind Rp with
 | some p=>Ro file k K i fd p.1 p.2.1 p.2.2 i.body.tail
 | none=>bif i.cells.isEmpty then NT k i fd else NU k i fd
theorem TS{b:List S}{p:OM}(h:b.head?.bind Rp=some p):b=.expr (.sup p.1 p.2.1 p.2.2)::b.tail:=by
 cases b with
 | nil=>exact zN h
 | cons s r=>exact(TR p s h)▸rfl
def fnB(file:W5)(k:Ck)(K:Xb)(p:Nat×Fi):Bool:=Ew (K.lookup p.1) λo=>match o.data with
 | .func fd=>T4 K p.2 fd&&PN file k K p.2 fd
 | _=>false
section
variable{WH:Wm}{w:WW}{k:Ck}{K:Xb}{file:W5}
theorem PO(F:KF K k.isAttr)(hf:WH.main.file=file)(ht:(WH.main.scope.names.lookup ("super":W5)).isSome=false)(hall:Ph.all (fnB file k K)=true):∀d,SI WH w k K (call d) d
 | 0=>λU U U U U U U U U U U U U U U U U U h=>h.elim
 | d+1=>λA hh hd c m H s f vs ys us zs Q R B Rl r r' h q=>by
  have ih:=PO F hf ht hall d;obtain⟨i,hi,h⟩:=QL (show op (AM f Ph) λi=>IE (call d) i vs us H Q from h)
  obtain⟨⟨oc,od,odt,os⟩,ho,hb⟩:=Do (laP hall _ (G4 hi));dsimp only at hb;split at hb
  ·rename_i fd;obtain⟨h1,h2⟩:=an hb;have G:=Jg.of (f:=f) ⟨_,_,_,ho⟩ h1;unfold PN at h2;cases e:i.body.head?.bind Rp with
   | some p=>rw[e] at h2;exact QC F ih hh hd G (PL.of (TS e) hf ht h2) B Rl r r' h q
   | none =>
    rw[e] at h2;cases e:i.cells.isEmpty with
    | true=>rw[e] at h2;exact QA F ih ALd.no hh hd G (E7.of h2) B Rl r r' h q
    | false=>rw[e] at h2;exact QB F ih hh hd G (G3.of h2) B Rl r r' h q
  ·cases hb
end
end Mine
end
section
namespace Mine
open PySem
/-! what the generators give -/
noncomputable def Dk:Tr->List Tr
 | .null _|.leaf _ _ _ _ _ _=>[]
 | .bin _ _ A B=>[A,B]
 | .una _ _ A=>[A]
 | .req _ i A B=>[.bin .inter i A B]
noncomputable def tv:Tr->V
 | .leaf _ _ _ _ _ t=>.ref t.1
 | _=>.none
open Classical in
noncomputable def hdI{α:Type}(A:D)(x:Int)(l:List α):List α:=if Hd A x then l else[]
theorem E8{α:Type}{A:D}{x:Int}{l:List α}(h:Hd A x):hdI A x l=l:=if_pos h
theorem Ii{α:Type}{A:D}{x:Int}{l:List α}(h:¬ Hd A x):hdI A x l=[]:=if_neg h
noncomputable def mt(x:Int):Tr->List (Nat×Nat)
 | .null _=>[]
 | .leaf a la wa i ds t=>hdI (Tr.den (.leaf a la wa i ds t)) x [t]
 | .bin k a A B=>hdI (Tr.den (.bin k a A B)) x (mt x A++mt x B)
 | .una k a A=>hdI (Tr.den (.una k a A)) x (mt x A)
 | .req a i A B=>hdI (Tr.den (.req a i A B)) x (mt x A++mt x B)
noncomputable def lf:Tr->List (Nat×(Nat×Nat))
 | .null _=>[]
 | .leaf a _ _ _ _ t=>[(a,t)]
 | .bin _ _ A B=>lf A++lf B
 | .una _ _ A=>lf A
 | .req _ _ A B=>lf A++lf B
theorem La{x:Int}:∀{T:Tr},¬ Hd T.den x->mt x T=[]
 | .null _,_=>rfl
 | .leaf _ _ _ _ _ _,h=>Ii h
 | .bin _ _ _ _,h=>Ii h
 | .una _ _ _,h=>Ii h
 | .req _ _ _ _,h=>Ii h
noncomputable def NW:Tr->Bool
 | .leaf _ _ _ _ _ _=>true
 | _=>false
theorem TT{x:Int}:∀{T:Tr},NW T=false->Hd T.den x->mt x T=(Dk T).flatMap (mt x)
 | .null _,_,_=>rfl
 | .leaf _ _ _ _ _ _,h,_=>zF h
 | .bin _ _ _ _,_,h=>(E8 h).trans (by simp[Dk])
 | .una _ _ _,_,h=>(E8 h).trans (by simp[Dk])
 | .req _ _ A B,_,h=>(E8 h).trans (by
  have h':Hd (Tr.den (.bin .inter 0 A B)) x:=h;simp only[Dk,aE,List.flatMap_nil,XI];exact(E8 h').symm)
theorem TU:∀{T:Tr},NW T=false->lf T=(Dk T).flatMap lf
 | .null _,_=>rfl
 | .leaf _ _ _ _ _ _,h=>zF h
 | .bin _ _ _ _,_=>by simp[Dk,lf]
 | .una _ _ _,_=>by simp[Dk,lf]
 | .req _ _ A B,_=>by simp[Dk,lf]
theorem Lb:∀T:Tr,sc T=(lf T).map (·.2.2)
 | .null _=>rfl
 | .leaf _ _ _ _ _ _=>rfl
 | .bin _ _ A B=>by show sc A++sc B=_;rw[Lb A,Lb B,<- YB];rfl
 | .una _ _ A=>Lb A
 | .req _ _ A B=>by show sc A++sc B=_;rw[Lb A,Lb B,<- YB];rfl
theorem G6{H:MH}{T S:Tr}(g:AS H T)(hS:S∈Dk T):AS H S/\sz S<sz T/\∀y∈fp S,y∈fp T:=by
 cases T with
 | null=>nomatch hS
 | leaf=>nomatch hS
 | bin k a A B =>
  rcases mcP hS with rfl|hS
  ·exact⟨g.bA,by show sz S<sz S+sz B+1;omega,λy hy=>.tail _ (WR _ hy)⟩
  ·cases msP hS
   exact⟨g.bB,by show sz S<sz A+sz S+1;exact XA _ _,λy hy=>.tail _ (WP _ hy)⟩
 | una k a A=>cases msP hS;exact⟨g.uA,by show sz S<sz S+1;exact Xl _,λy hy=>.tail _ hy⟩
 | req a i A B=>cases msP hS;exact⟨g.rI,by show sz A+sz B+1<sz A+sz B+2;exact Xl _,λy hy=>.tail _ hy⟩
theorem Ho{H:MH}{x:Int}:∀{T:Tr},BB H T->∀p∈mt x T,H p.1=some (.tup [.str 8,.str p.2])
 | .null _,_,_,h=>nomatch h
 | .leaf a la wa i ds t,r,p,h=>by
  by_cases z:Hd (Tr.den (.leaf a la wa i ds t)) x
  ·rw[mt,E8 z] at h;cases msP h;exact r.2.2.2.1
  ·rw[mt,Ii z] at h;nomatch h
 | .bin k a A B,r,p,h=>by
  by_cases z:Hd (Tr.den (.bin k a A B)) x
  ·rw[mt,E8 z] at h;exact(maP h).elim (Ho r.2.1 p) (Ho r.2.2 p)
  ·rw[mt,Ii z] at h;nomatch h
 | .una k a A,r,p,h=>by
  by_cases z:Hd (Tr.den (.una k a A)) x
  ·rw[mt,E8 z] at h;exact Ho r.2.2 p h
  ·rw[mt,Ii z] at h;nomatch h
 | .req a i A B,r,p,h=>by
  by_cases z:Hd (Tr.den (.req a i A B)) x
  ·rw[mt,E8 z] at h;exact(maP h).elim (Ho r.2.2.1 p) (Ho r.2.2.2 p)
  ·rw[mt,Ii z] at h;nomatch h
theorem Hp{H:MH}:∀{T:Tr},BB H T->∀p∈lf T,(∃la wa i,H p.1=some (.inst .Leaf (Ch la wa i p.2.1)))/\H p.2.1=some (.tup [.str 8,.str p.2.2])
 | .null _,_,_,h=>nomatch h
 | .leaf a la wa i ds t,r,p,h=>by cases msP h;exact⟨⟨_,_,_,r.1⟩,r.2.2.2.1⟩
 | .bin k a A B,r,p,h=>(maP h).elim (Hp r.2.1 p) (Hp r.2.2 p)
 | .una k a A,r,p,h=>Hp r.2.2 p h
 | .req a i A B,r,p,h=>(maP h).elim (Hp r.2.2.1 p) (Hp r.2.2.2 p)
theorem Js{A B:Tr}{x:Int}{r:Option (List Nat)}(hA:A.den x≠none->Hd A.den x/\A.den x=some ((mt x A).map (·.2)))(hB:B.den x≠none->Hd B.den x/\B.den x=some ((mt x B).map (·.2)))(h:A.den x≠none\/B.den x≠none)(e:I5 (A.den x) (B.den x)=r):r=some ((mt x A++mt x B).map (·.2)):=by
 subst e;rw[YB];have nA:A.den x=none->mt x A=[]:=λz=>La λk=>k.1 z;have nB:B.den x=none->mt x B=[]:=λz=>La λk=>k.1 z;by_cases a:A.den x=none
 ·rw[a,nA a];by_cases b:B.den x=none
  ·exact absurd h (by rw[a,b];decide)
  ·exact(hB b).2
 ·rw[(hA a).2];by_cases b:B.den x=none
  ·rw[b,nB b];show some _=some (_++[]);rw[XI]
  ·rw[(hB b).2];rfl
theorem PQ{H:MH}{A B:Tr}{x:Int}(gA:AS H A)(gB:AS H B)(al:Al A.den B.den)(iA:Hd A.den x->Hd A.den x/\A.den x=some ((mt x A).map (·.2)))(iB:Hd B.den x->Hd B.den x/\B.den x=some ((mt x B).map (·.2)))(h:Hd (dI A.den B.den) x):dI A.den B.den x=some ((mt x A++mt x B).map (·.2)):=by
 refine Az (Ep.mp h.1) λh1 h2=>?_;obtain⟨p,hp⟩:=Av.hd ⟨x,h1⟩ gA.ok.bd;refine CT (Av.hd ⟨x,h2⟩ gB.ok.bd) λq hq=>?_;have e:p=q:=al p q hp hq;subst e;have e:x=p:=XZ (h.2 p (Ep.mpr ⟨hp.1,hq.1⟩)) (hp.2 x h1);subst e;refine Js (λU=>iA hp) (λU=>iB hq) (.inl h1) ?_
 show _=KB (A.den x) (KB (B.den x) (I5 (A.den x) (B.den x)))
 exact((iA hp).2)▸((iB hq).2)▸rfl
theorem JE{H:MH}{x:Int}:∀{T:Tr},AS H T->Hd T.den x->T.den x=some ((mt x T).map (·.2))
 | .null _,_,h=>absurd rfl h.1
 | .leaf a la wa i ds t,g,h=>by
  rw[mt,E8 h];refine Aj (Gx h.1) λs e m=>?_
  show C9 x (ds.drop i)=_
  have e2:s=[t.2]:=g.rep.2.2.2.2 _ (Yo m);exact e▸e2▸rfl
 | .bin k a A B,g,h=>by
  rw[mt,E8 h];have iA:Hd A.den x->Hd A.den x/\A.den x=some ((mt x A).map (·.2)):=λz=>⟨z,JE g.bA z⟩
  have iB:Hd B.den x->Hd B.den x/\B.den x=some ((mt x B).map (·.2)):=λz=>⟨z,JE g.bB z⟩
  have dU':∀{h:Hd (dU A.den B.den) x},dU A.den B.den x=some ((mt x A++mt x B).map (·.2)):=λ{h} =>
   Js (λz=>iA ⟨z,λd k=>h.2 d (E3.mpr (.inl k))⟩) (λz=>iB ⟨z,λd k=>h.2 d (E3.mpr (.inr k))⟩) (E3.mp h.1) rfl
  cases k with
  | uni=>exact dU' (h:=h)
  | dm=>exact dU' (h:=h)
  | inter=>exact PQ (AS.bA g) (AS.bB g) g.ok.2.2 iA iB h
  | anot =>
   obtain⟨h1,h2⟩:=HW.mp h.1;obtain⟨p,hp⟩:=Av.hd ⟨x,h1⟩ (AS.bA g).ok.bd;have np:B.den p=none:=WX λz=>ZD _ (g.ok.2.2.1 p hp p z);have e:x=p:=XZ (h.2 p (HW.mpr ⟨hp.1,np⟩)) (hp.2 x h1);subst e;refine Js (λU=>iA hp) (λz=>absurd h2 z) (.inl h1) ?_
   show _=if B.den x=none then A.den x else none
   rw[if_pos h2,h2,(iA hp).2];rfl
  | maybe =>
   have h1:=HV.mp h.1;have hA:Hd A.den x:=⟨h1,λd k=>h.2 d (HV.mpr k)⟩;refine Js (λU=>iA hA) (λz=>?_) (.inl h1) ?_
   ·obtain⟨q,hq⟩:=Av.hd ⟨x,z⟩ (AS.bB g).ok.bd;have e:x=q:=XZ (g.ok.2.2.1 x q hA hq) (hq.2 x z);subst e;exact iB hq
   ·show _=KB (A.den x) (I5 (A.den x) (B.den x))
    rw[(iA hA).2];rfl
 | .una k a A,g,h=>by
  rw[mt,E8 h];have iA:Hd A.den x->A.den x=some ((mt x A).map (·.2)):=λz=>JE g.uA z
  cases k with
  | filt sa xs ex bo =>
   obtain⟨h1,h2⟩:=(IQ (bo:=bo)).mp h.1;refine CT (Av.hd ⟨x,h1⟩ (AS.uA g).ok.bd) λp hp=>?_;have e:x=p:=XZ (h.2 p ((IQ (bo:=bo)).mpr ⟨hp.1,g.ok.2.2 p hp⟩)) (hp.2 x h1);subst e
   show(if keep xs ex x=true then A.den x else none)=_
   rw[if_pos h2];exact iA hp
  | inv ma lim wt id =>
   have h1:=(HX (wt:=wt)).mp h.1;rw[La λz=>z.1 h1.2.2];exact if_pos h1
  | con sc=>exact iA h
 | .req a i A B,g,h=>by
  rw[mt,E8 h];exact PQ (AS.bA g.rI) (AS.bB g.rI) g.ok.2.2 (λz=>⟨z,JE (AS.bA g.rI) z⟩) (λz=>⟨z,JE (AS.bB g.rI) z⟩) h
section
variable{e d:Nat}{T:Tr}{H:MH}{Q:V->MH->Prop}{ρ:As}
theorem Rq(g:AS H T)(q:Q (tv T) H):BL H (.ref T.addr) BG λf=>call (e+1) f [.ref T.addr] [] H Q:=by
 refine g.rep.m1 rfl ?_;cases T with
 | null=>exact q
 | leaf a la wa i ds t=>exact AC g.rep.1 q
 | bin k=>cases k<;>exact q
 | una k=>cases k<;>exact q
 | req=>exact q
theorem c_kids(g:AS H T)(q:∀l,H l=none->Q (.ref l) (H.put l (.list ((Dk T).map λS=>.ref S.addr)))):BL H (.ref T.addr) Au λf=>call (e+1) f [.ref T.addr] [] H Q:=by
 refine g.rep.m1 rfl ?_;cases T with
 | null=>exact⟨Wh _,q⟩
 | leaf=>exact⟨Wh _,q⟩
 | bin k =>
  obtain⟨⟨id,r,U⟩,U⟩:=g.rep;cases k<;>exact AC r (AC r ⟨WU rfl,q⟩)
 | una k=>cases k<;>exact AC g.rep.1 ⟨WU rfl,q⟩
 | req=>exact AC g.rep.1 ⟨WU rfl,q⟩
noncomputable def mt1:S:=.cond (.not (.e (.meth (.var AA) AB [] []))) [.ret0] []
noncomputable def mt2:S:=.cond (.e (.cmp .Is (.var Ag) .none)) [.asg Ag (.meth (.var AA) Ag [] [])] [.cond (.e (.cmp .NotEq (.var Ag) (.meth (.var AA) Ag [] []))) [.ret0] []]
noncomputable def mt3:S:=.asg QI (.meth (.var AA) BG [] [])
noncomputable def MtL(T:Tr)(iv:V)(L:List (Nat×Nat)):Prop:=match iv with
 | .none=>(∀x,Hd T.den x->L=mt x T)/\(¬ Av T.den->L=[])
 | .int x=>L=mt x T
 | _=>False
theorem mt_pre{iv:V}{L:List (Nat×Nat)}(con:GL (d+1) T)(g:AS H T)(h:MtL T iv L):A4 (call (d+1)) [] [mt1,mt2,mt3] [(AA,.ref T.addr),(Ag,iv)] H λfl ρ H'=>Qt H H' (fp T) /\
 (fl=.ret .none/\L=[]\/∃x,fl=.next/\ρ=[(AA,.ref T.addr),(Ag,.int x),(QI,tv T)]/\Hd T.den x/\L=mt x T):=by
 refine Ak con g rfl λb hb=>?_;cases b with
 | false =>
  refine⟨.refl,.inl ⟨rfl,?_⟩⟩;have na:=hb.neg;cases iv with
  | none=>exact h.2 na
  | int x=>exact h.trans (La λz=>na z.act)
  | _=>exact h.elim
 | true =>
  refine CT (hb.pos.hd g.ok.bd) λx hx=>?_;have fin:∀{H1:MH},Qt H H1 (fp T)->L=mt x T->A4 (call (d+1)) [] [mt3] [(AA,.ref T.addr),(Ag,.int x)] H1 λfl ρ H'=>Qt H H' (fp T) /\
   (fl=.ret .none/\L=[]\/∃x,fl=.next/\ρ=[(AA,.ref T.addr),(Ag,.int x),(QI,tv T)]/\Hd T.den x/\L=mt x T):=λ{H1} w e =>
   Rq (g.q w) ⟨w,.inr ⟨x,rfl,rfl,hx,e⟩⟩
  cases iv with
  | none=>exact Bc con g rfl hx λH1 w=>fin w (h.1 x hx)
  | int y =>
   refine Bc con g rfl hx λH1 w=>AO (λz=>?_) λz=>?_
   ·exact⟨w,.inl ⟨rfl,h.trans (La λk=>bn z (k.uniq hx))⟩⟩
   ·cases be' z;exact fin w h
  | _=>exact h.elim
end
end Mine
end
section
namespace Mine
open PySem PySem.W PySem.Calls PyProof.Rows
structure Pt where
 q:List XQ
 g:List Nat
structure In(P:Pt)(s s':WQ):Prop where
 e0:∀q∈P.q,∃o,s'.heap.get? q=some o
 kp:∀b o,b∉P.q->s.heap.get? b=some o->s'.heap.get? b=some o
 gs:∀(k:Nat) (st:Xo),k∉P.g->s.gens[k]?=some st->s'.gens[k]?=some st
 dr:X4 s'.gens
 os:s'.os=s.os
 sz:s.gens.size<=s'.gens.size
structure HY(P:Pt)(s s':WQ):Prop where
 kp:∀q o,q∈P.q->s.heap.get? q=some o->s'.heap.get? q=some o
 gs:∀(k:Nat) (st:Xo),k∈P.g->s.gens[k]?=some st->s'.gens[k]?=some st
 dr:X4 s'.gens
 os:s'.os=s.os
 sz:s.gens.size<=s'.gens.size
theorem gsz{s s':WQ}(h:∀(k:Nat) (st:Xo),s.gens[k]?=some st->s'.gens[k]?=some st):s.gens.size<=s'.gens.size:=by
 cases e:s.gens.size with
 | zero=>exact Wh _
 | succ n =>
  have lt:n<s.gens.size:=e▸Xl n;exact(W7.mp (h n _ (Y6 lt))).1
def Ex(P:Pt)(s:WQ):Prop:=(∀q∈P.q,∃o,s.heap.get? q=some o)/\X4 s.gens
theorem In.ex{P:Pt}{a b:WQ}(h:In P a b):Ex P b:=⟨h.e0,h.dr⟩
theorem In.trans{P:Pt}{a b c:WQ}(h:In P a b)(k:In P b c):In P a c :=
 ⟨k.e0,λx o hx e=>k.kp x o hx (h.kp x o hx e),λx st hx e=>k.gs x st hx (h.gs x st hx e),k.dr,k.os.trans h.os,WL h.sz k.sz⟩
theorem HY.trans{P:Pt}{a b c:WQ}(h:HY P a b)(k:HY P b c):HY P a c :=
 ⟨λx o hx e=>k.kp x o hx (h.kp x o hx e),λx st hx e=>k.gs x st hx (h.gs x st hx e),k.dr,k.os.trans h.os,WL h.sz k.sz⟩
theorem In.refl{P:Pt}{s:WQ}(h:Ex P s):In P s s:=⟨h.1,λU U U e=>e,λU U U e=>e,h.2,rfl,WY _⟩
theorem HY.ex{P:Pt}{a b:WQ}(h:HY P a b)(k:Ex P a):Ex P b:=⟨λq hq=>CT (k.1 q hq) λo e=>⟨o,h.kp q o hq e⟩,h.dr⟩
noncomputable def FY(P:Pt)(h:Xy):BW:=P.q.filterMap λq=>(h.get? q).map λo=>(q,o)
theorem BE{P:Pt}{h:Xy}{p:XQ×Yx}:p∈FY P h<->p.1∈P.q/\h.get? p.1=some p.2:=by
 unfold FY;rw[List.mem_filterMap];constructor
 ·intro y;refine Aj y λq hq e=>?_;refine Aj (Wz.mp e) λo h1 z=>?_;obtain rfl:=z;exact⟨hq,h1⟩
 ·intro y;refine Az y λh1 h2=>?_;exact⟨p.1,h1,by rw[h2];rfl⟩
theorem Ko{h:Xy}:∀l:List XQ,((l.filterMap λq=>(h.get? q).map λo=>(q,o)).map (·.1)).Sublist l
 | []=>.slnil
 | q::r=>by
  rw[W4];cases h.get? q with
  | none=>exact(Ko r).cons q
  | some o=>exact(Ko r).cons_cons q
noncomputable def Cx.pt(c:Cx)(P:Pt)(h:Xy):Cx:=(c.x (FY P h++c.X))
structure SJ(P:Pt)(c:Cx):Prop where
 nd:P.q.Nodup
 x:∀p∈c.X,p.1∉P.q
 l:c.L∉P.q
 g:∀k∈P.g,c.gs[k]?=none
section
variable{WH:Wm}{w:WW}{c:Cx}{m m':W5->Option WO}{H H':MH}{s s':WQ}{P:Pt}
theorem Aa.re0(R:Aa WH w (c.pt P s.heap) m H s)(hP:SJ P c)(kp:∀b o,b∉P.q->s.heap.get? b=some o->s'.heap.get? b=some o)(gs:∀(k:Nat) (st:Xo),k∉P.g->s.gens[k]?=some st->s'.gens[k]?=some st)(dr:X4 s'.gens)(os:s'.os=s.os):Aa WH w (c.pt P s'.heap) m H s':=by
 refine AU λGG hG=>?_;obtain⟨D,WI,N,L⟩:=R.led;refine hG ?_;clear hG GG;have hn:∀q∈P.q,H q=none/\(∀a c as,H a=some (.inst c as)->D a≠q)/\c.UD.get? q=none:=λq hq=>by
  refine oCs (s.heap.get? q) (λe=>?_) λo e=>?_
  ·
   have h1:q∉WI.map (·.1):=λz=>by
    refine Aj (mmP z) λp hp v=>?_;obtain rfl:=v;exact sN ((N p hp).1) e
   have h2:c.UD.get? q=none:=by
    cases z:c.UD.get? q with
    | none=>rfl
    | some o=>exact sN (R.fr.keep _ _ z) e
   exact⟨L.none h1 h2,λa c as z k=>h1 (k▸L.dkey z),h2⟩
  ·
   refine DN (L.xs (q,o) (WR _ (BE.mpr ⟨hq,e⟩))) λx1 x2 x3=>?_;exact⟨x2,x3,(N _ x1).2.2⟩
 have kf:∀p∈WI,p.1∉P.q->p∈FY P s'.heap++WI.filter λp=>decide (p.1∉P.q):=λp hp z=>WP _ (XL.mpr ⟨hp,decide_eq_true z⟩);refine⟨⟨R.fr.ns.at' λo e=>kp _ o hP.l e,λb o e=>kp b o (λz=>by have e:c.UD.get? b=some o:=e;replace e:=((hn b z).2.2).symm.trans e;exact zN e) (R.fr.keep b o e),R.fr.above⟩,⟨D,FY P s'.heap++WI.filter λp=>decide (p.1∉P.q),λp hp=>?_,?_,λa o e=>(L.ob a o e).mono (λcl as z=>⟨rfl,λp hp k=>kf p hp λq=>(hn _ q).2.1 a cl as (z▸e) k.symm⟩) λp hp k=>kf p hp λq=>(by rw[k] at q;replace e:=((hn _ q).1).symm.trans e;exact zN e),L.dj,λp hp=>?_⟩,
  λk st e=>gs k st (λz=>by have e:c.gs[k]?=some st:=e;replace e:=(hP.g k z).symm.trans e;exact zN e) (R.gs k st e),dr,os.trans R.os⟩
 ·rcases maP hp with hp|hp
  ·refine Az (BE.mp hp) λh1 h2=>?_;exact⟨h2,λz=>hP.l (z▸h1),(hn _ h1).2.2⟩
  ·refine Az (mfP hp) λh1 h2=>?_;exact⟨kp _ _ (of_decide_eq_true h2) (N p h1).1,(N p h1).2⟩
 ·rw[YB];refine YZ.mpr ⟨hP.nd.sublist (Ko _),L.nd.sublist (Yj _ X0),λx hx y hy z=>?_⟩;refine Aj (mmP hx) λp hp v=>?_;obtain rfl:=v;refine Aj (mmP hy) λp' hp' v=>?_;obtain rfl:=v;exact of_decide_eq_true (mfP hp').2 (z▸(BE.mp hp).1)
 ·rcases maP hp with hp|hp
  ·have h1:=(BE.mp hp).1;exact⟨WR _ hp,(hn _ h1).1,(hn _ h1).2.1⟩
  ·refine DN (L.xs p (WP _ hp)) λx1 x2 x3=>?_;exact⟨kf p x1 (hP.x p hp),x2,x3⟩
theorem Aa.re(R:Aa WH w (c.pt P s.heap) m H s)(hP:SJ P c)(I:In P s s'):Aa WH w (c.pt P s'.heap) m H s':=R.re0 hP I.kp I.gs I.dr I.os
theorem Aa.ga(R:Aa WH w c m H s):Aa WH w (c.g (s.gens)) m H s:=⟨R.fr,R.led,λU U h=>h,R.dr,R.os⟩
theorem Aa.out{c':Cx}(Uu:Aa WH w (c.pt P s.heap) m H s)(ex:Ex P s)(R:Aa WH w ((c'.pt P s.heap).g s.gens) m' H' s')(hg:c'.gs=c.gs)(hd:c'.dr=c.dr)(ho:c'.os=c.os):HY P s s'/\Aa WH w (c'.pt P s'.heap) m' H' s':=by
 refine AU λGG hG=>?_;obtain⟨D,WI,N,L⟩:=R.led;refine hG ?_;clear hG GG;have kp:∀q o,q∈P.q->s.heap.get? q=some o->s'.heap.get? q=some o:=λq o hq e=>N.get (L.xs (q,o) (WR _ (BE.mpr ⟨hq,e⟩))).1;have e:FY P s'.heap=FY P s.heap:=by
  have key:∀l:List XQ,(∀q∈l,q∈P.q)->(l.filterMap λq=>(s'.heap.get? q).map λo=>(q,o))=l.filterMap λq=>(s.heap.get? q).map λo=>(q,o):=by
   intro l
   induction l with
   | nil=>intro _;rfl
   | cons q r ih =>
    intro hl;refine CT (ex.1 q (hl q (.head _))) λo e=>?_;rw[W4,W4,kp q o (hl q (.head _)) e,e,ih λx hx=>hl x (.tail _ hx)]
  exact key P.q λU h=>h
 refine⟨⟨kp,λk st U h=>R.gs k st h,R.dr,R.os.trans (ho.trans Uu.os.symm),gsz λk st h=>R.gs k st h⟩,?_⟩;unfold Cx.pt at R ⊢;exact e.symm▸⟨R.fr,⟨D,WI,N,L⟩,λk st h=>R.gs k st (Uu.gs k st (hg▸h)),R.dr,R.os⟩
end
structure Wk(WH:Wm)(w:WW)(A:XG)(I:XQ)(P:Pt)(n:Nat)(it:Nat->Nat)(Fin:WQ->Prop)(St:Nat->WQ->Prop):Prop where
 frame:∀i s s',St i s->In P s s'->St i s'
 fin:∀i s,St i s->Fin s
 item:∀i (s:WQ) (Q:Option WO->WQ->Prop) (E:WO->WQ->Prop),i<n->St i s->Ex P s->(∀s',St (i+1) s'->HY P s s'->Q (some (.ref (it i))) s')->wpAny (model WH w) A (pyNext (.ref I)) Q E s
 done:∀(s:WQ) (Q:Option WO->WQ->Prop) (E:WO->WQ->Prop),St n s->Ex P s->(∀s',Fin s'->HY P s s'->Q none s')->wpAny (model WH w) A (pyNext (.ref I)) Q E s
def UA(WH:Wm)(w:WW)(A:XG)(r₀:Yk):Prop:=∀{E:WO->WQ->Prop} {s:WQ} {a:XQ} {g n:Nat} {gs:Xo} {P:Nat->WQ->WQ->Prop} {Y:Protocol} {Q:Option WO->WQ->Prop},s.heap.NoLimit->s.heap.IsGen a g->s.gens[g]?=some gs ->
 gs.Goes (model WH w) A.in1 (λn UO r UH=>r=r₀/\P n UO UH) Y n (.send .none) (s.setGen g .running) ->
 (∀v UH gs',gs'.bare=true->Y (n-1) (s.setGen g .running) v UH (λr' s''=>match n with
  | 0=>False
  | m+1=>gs'.Goes (model WH w) A.in1 (λn UO r UH=>r=r₀/\P n UO UH) Y m r' s'')->Q (some v) (UH.setGen g gs')) ->
 (∀UH,P n (s.setGen g .running) UH->∀h',(∀b o,UH.heap.get? b=some o->h'.get? b=some o)->Q none {UH.setGen g .finished with heap:=h'})->wpAny (model WH w) A (pyNext (.ref a)) Q E s
theorem Ld{WH:Wm}{w:WW}{A:XG}(hh:A.handled=none)(hroom:A.depth<recursionLimit):UA WH w A (.ok (.ret .none)):=λ{E s a g n gs P Y Q} hl hg hgs hgo hY hP=>by
 refine Wi (wpAny_attempt (wpAny_callSpecial?_slot (name:=Str.ofString "__next__") hg.typeIs slot_gen_next
  (wpAny_call_entry slot_gen_next hg.typeIs entry_gen_next ?_ (args_gen_next _))))
 refine(Wi (Zy (wpAny_genNumber hg (Wi (wpAny_genState hgs ?_)))):wpAny _ _ (Builtin.Generator.genWake (.ref a) (.send .none)) _ _ s);cases gs with
 | running=>exact hgo.elim
 | finished=>exact hgo.elim
 | _ =>
  refine Wi (wpAny_roomToWake hl hroom ?_);refine(wpAny_resumeQ hgs hgo (λx UH hx=>?_) (λv UH gs' hb hv=>?_):wpAny _ _ (.resume g (.send .none) [] _) _ _ s)
  ·refine Az hx λz hp=>?_;obtain rfl:=z;refine(Wi ?_:wpAny _ _ (newExc (.type "StopIteration") []>>=_) _ _ _);refine Wi (YG ?_ (by size_fits))
   refine Wi (m:=firstArgMember _ _) (wpAny_of_eq (a:=aQ) (by first|rfl|(rfl)) ?_)
   refine YG ?_ (by size_fits)
   refine Wi (Wi (wpAny_handled ?_));refine(show A.in1.handled=none from hh).symm▸wpAny_throw ?_
   refine Wi (wpAny_isInstance (T:="StopIteration") (b:=true) ⟨_,Xc _ rfl,rfl⟩ isSubtype_stop ?_);exact W6 (hP UH hp _ λb o hb=>Wv _ (Wv _ hb))
  ·exact W6 ⟨v,rfl,W6 (hY v UH gs' hb hv)⟩
theorem Kq{s:WQ}{g:Nat}{x:Xo}(h:X4 s.gens)(hx:x.bare=true):X4 (s.setGen g x).gens:=λy hy=>by
 rcases Array.mem_or_eq_of_mem_setIfInBounds (show y∈s.gens.setIfInBounds g x from hy) with h'|h'
 ·exact h y h'
 ·exact h'.symm▸hx
theorem MS{s:WQ}{g:Nat}{x:Xo}:(s.setGen g x).gens.size=s.gens.size:=Array.size_setIfInBounds ..
theorem Kr{s:WQ}{g k:Nat}{x:Xo}(h:k≠g):(s.setGen g x).gens[k]?=s.gens[k]?:=Array.getElem?_setIfInBounds_ne (YN h)
theorem Rr{s:WQ}{g:Nat}{x y:Xo}(h:s.gens[g]?=some y):(s.setGen g x).gens[g]?=some x:=by
 have:g<s.gens.size:=(W7.mp h).1;exact((Array.getElem?_setIfInBounds_self_of_lt this):(s.gens.setIfInBounds g x)[g]?=some x)
noncomputable abbrev Pt.add(P:Pt)(g:Nat):Pt:=⟨P.q,g::P.g⟩
theorem ON{P:Pt}{g k:Nat}(h:k∉(P.add g).g):k≠g:=λz=>h (by exact z▸.head _)
theorem In.run{P:Pt}{s s':WQ}{g:Nat}{x:Xo}(hx:x.bare=true)(h:In P s s'):In (P.add g) s (s'.setGen g x) :=
 ⟨h.e0,h.kp,λk st hk e=>by exact(Kr (ON hk)).symm▸h.gs k st (λz=>hk (.tail _ z)) e,Kq h.dr hx,h.os,by exact MS.symm▸h.sz⟩
theorem In.add{P:Pt}{s s':WQ}{g:Nat}(h:In P s s'):In (P.add g) s s':=⟨h.e0,h.kp,λk st hk e=>h.gs k st (λz=>hk (.tail _ z)) e,h.dr,h.os,h.sz⟩
theorem HY.of_run{P:Pt}{s s':WQ}{g:Nat}{x y:Xo}(hy:y.bare=true)(hg:g∉P.g)(h:HY (P.add g) (s.setGen g x) s'):HY P s (s'.setGen g y) :=
 ⟨h.kp,λk st hk e=>by
  have ne:k≠g:=λz=>hg (z▸hk);rw[Kr ne];exact h.gs k st (.tail _ hk) (by rw[Kr ne];exact e),Kq h.dr hy,h.os,by have:=h.sz;rw[MS] at this ⊢;exact this⟩
def gR(P:Pt)(Fin:WQ->Prop)(r₀:Yk):GenEnd:=λn UO r UH=>r=r₀/\(n=0/\HY P UO UH/\Fin UH)
def gY(P:Pt)(it:Nat->Nat)(N:Nat)(K:WQ->Prop):Protocol:=λm UO v s kap=>v=.ref (it (N-1-m))/\HY P UO s/\K s/\∀s',In P s s'->kap (.send .none) s'
def gK(I:XQ)(g:Nat)(s:WQ):Prop:=s.heap.IsGen I g/\s.heap.NoLimit
section
variable{WH:Wm}{w:WW}{A:XG}{P:Pt}{I:XQ}{g N:Nat}{it:Nat->Nat}{Fin:WQ->Prop}{r₀:Yk}
theorem gK.kp{s s':WQ}(h:gK I g s)(hI:I∉P.q)(hC:cStatics∉P.q)(k:In P s s'):gK I g s':=by
 refine Az h λz y=>?_;refine MX z λo n q h1 h2=>?_;refine Aj y λmc h3 h4=>?_;exact⟨⟨o,n,q,k.kp _ _ hI h1,h2⟩,mc,h3.at' λo e=>k.kp _ o hC e,h4⟩
theorem Wk.gen(L:UA WH w A r₀)(hI:I∉P.q)(hC:cStatics∉P.q)(hg:g∉P.g)(hF:∀s s',Fin s->In (P.add g) s s'->Fin s') :
 Wk WH w A I P N it Fin (λi s=>gK I g s/\Fin s/\∃gs,s.gens[g]?=some gs/\∀s',In (P.add g) s s'->gs.Goes (model WH w) A.in1 (gR (P.add g) Fin r₀) (gY (P.add g) it N (λs=>gK I g s/\Fin s)) (N-i) (.send .none) s') where
 frame:=λi s s' ⟨h1,hf,gs,h2,h3⟩ k=>⟨h1.kp hI hC k,hF s s' hf k.add,gs,k.gs g gs hg h2,λs'' k'=>h3 s'' (k.add.trans k')⟩
 fin:=λi s h=>h.2.1
 item:=λi s Q E hi ⟨h1,hf,gs,h2,h3⟩ ex q=>by
  refine L (P:=λn UO UH=>n=0/\HY (P.add g) UO UH/\Fin UH) h1.2 h1.1 h2 (h3 _ ((In.refl ex).run rfl)) (λv UH gs' hb hv=>?_) λUH hp=>absurd hp.1 (Nat.sub_ne_zero_of_lt hi);refine Ij hv λz ho u hc=>?_;obtain rfl:=z;refine Az u λhk hf'=>?_;obtain⟨m,hm⟩:∃m,N-i=m+1:=⟨N-i-1,(Nat.sub_add_cancel (Nat.sub_pos_of_lt hi)).symm⟩;have e1:N-1-(N-i-1)=i:=by exact(Nat.sub_right_comm N i 1).symm▸Nat.sub_sub_self (Nat.le_sub_one_of_lt hi)
  refine e1.symm▸?_;have e2:=ho.gs g .running (.head _) (Rr h2);have VM:Ex P UH:=ho.ex ((In.refl ex).run (g:=g) (x:=.running) rfl).ex;refine q _ ⟨⟨hk.1,hk.2⟩,hF UH _ hf' ((In.refl VM).run hb),gs',Rr e2,λs' k=>?_⟩ (ho.of_run hb hg);have:=hc s' ⟨k.e0,k.kp,λx st hx e=>k.gs x st hx (by exact(Kr (ON hx)).symm▸e),k.dr,k.os,by have:=k.sz;rwa [MS] at this⟩
  replace this:=hm▸this;exact(show N-(i+1)=m by rw[<- Nat.sub_sub,hm];rfl).symm▸this
 done:=λs Q E ⟨h1,hf0,gs,h2,h3⟩ ex q=>by
  rw[Nat.sub_self] at h3;refine L (P:=λn UO UH=>n=0/\HY (P.add g) UO UH/\Fin UH) h1.2 h1.1 h2 (h3 _ ((In.refl ex).run rfl)) (λv UH gs' hb hv=>?_) λUH hp h' hk=>?_
  ·refine Ij hv λU ho U hc=>?_;exact(hc UH (In.refl (ho.ex ((In.refl ex).run (g:=g) (x:=.running) rfl).ex))).elim
  ·refine DN hp λU ho hf=>?_;have VM:Ex P UH:=ho.ex ((In.refl ex).run (g:=g) (x:=.running) rfl).ex;have o1:=ho.of_run (y:=.finished) rfl hg;refine q _ (hF UH _ hf ⟨λx hx=>CT (VM.1 x hx) λo e=>⟨o,hk _ _ e⟩,λb o U e=>hk b o e,λk st hx e=>?_,Kq ho.dr rfl,rfl,X6 MS.symm⟩) ⟨λx o hx e=>hk _ _ (o1.kp x o hx e),o1.gs,o1.dr,o1.os,o1.sz⟩;exact(Kr (ON hx)).symm▸e
end
section
variable{M:Model}{A:XG}{R:GenEnd}{Y:Protocol}{n:Nat}{UO:WQ}{c:Code}{fs:List Zi}{s:WQ}{env:Zp}
 {K:Flow->aC Y1}{H:WO->aC Y1}{gd:Bool->Bool}{lv:List WO->List WO}
theorem Rs{test:Expr}{body orelse:List Xj}{pos:Yt}
 (h:wpAny M (A.over c fs) (isTrue test env (eval test env)) (λb s'=>if b=true then aF M A R Y n UO c ((execs body env).wrap K H gd lv) fs s' else aF M A R Y n UO c ((execs orelse env).wrap K H gd lv) fs s') (λx s'=>aF M A R Y n UO c (H x) fs s') s) :
 aF M A R Y n UO c ((exec (.If test body orelse pos) env).wrap K H gd lv) fs s:=by
 rw[exec_If];refine seg_at ?_
 show aF M A R Y n UO c (aG K H gd lv (isTrue test env (eval test env)>>=λb=>if b=true then execs body env else execs orelse env)) fs s
 rw[XY,YE];refine Zj (XR h (λb s' hb=>?_) λU U x=>x);cases b with
 | true=>rw[if_pos rfl] at hb;exact hb
 | false=>rw[if_neg Xn] at hb;exact hb
theorem PR{target iter:Expr}{body orelse:List Xj}{pos:Yt}(hs:∀x,foldedSetIterable iter env x=pure x)
 (h:wpAny M (A.over c fs) (eval iter env) (λx UH=>wpAny M (A.over c fs) (pyIter x) (λit UM=>∀p,aF M A R Y n UO (.forLoop target it body orelse env) (M.den (.forLoop target it body orelse env))
  (.ret (λr=>((match r with|.ok f=>(.pure f:aC Flow)|.error e=>.raise e).onRaise λ(x:WO)=>do
   if(<- field x 1)==aQ then unsupported "frame.own-activation:exception-without-traceback"
   setFlight x env.frame).wrap K H gd lv) none (gd false) (lv []) c p []::fs) UM) (λx s'=>aF M A R Y n UO c (H x) fs s') UH) (λx s'=>aF M A R Y n UO c (H x) fs s') s) :
 aF M A R Y n UO c ((exec (.For target iter body orelse pos) env).wrap K H gd lv) fs s:=by
 rw[exec_For];refine seg_at ?_
 show aF M A R Y n UO c (aG K H gd lv (eval iter env>>=λy=>foldedSetIterable iter env y>>=λx=>standAt iter.pos>>=λU=>holding [x] (pyIter x)>>=λit=>runOwn (.forLoop target it body orelse env) env)) fs s
 rw[XY,YE];refine Zj (XR h (λx UH UX=>?_) λU U x=>x);rw[hs x];refine seg_at ?_
 show aF M A R Y n UO c (aG K H gd lv (holding [x] (pyIter x)>>=λit=>runOwn (.forLoop target it body orelse env) env)) fs UH
 rw[XY,YE];exact Zj (Zy (XR UX (λit UM Uh=>seg_call Uh) λU U x=>x))
end
section
variable{WH:Wm}{w:WW}{A:XG}{R:GenEnd}{Y:Protocol}{n:Nat}{UO:WQ}{fs:List Zi}{s:WQ}{env:Zp}
theorem E9{target:Expr}{it:WO}{body orelse:List Xj}(ht:∀v,letOwnedTupleGo target it v=pure ())
 (h:wpAny (model WH w) (A.over (.forLoop target it body orelse env) fs) (pyNext it) (λr s'=>match r with
  | none=>aF (model WH w) A R Y n UO (.block orelse env) ((model WH w).den (.block orelse env)) fs s'
  | some v=>wpAny (model WH w) (A.over (.forLoop target it body orelse env) fs) (assign target env v) (λU s''=>aF (model WH w) A R Y n UO (.forLoop target it body orelse env) ((execs body env).wrap (λf=>match f with
   | .next|.cont=>.pure (.again (.forLoop target it body orelse env))
   | .brk=>.pure (.done .next)
   | .ret v=>.pure (.done (.ret v))) (λe=>(do noteFrame e env;theTreesLotGoes e:aC Unit).wrap (λU=>.raise e) .raise id id) id id) fs s'') (λx s'=>aF (model WH w) A R Y n UO (.forLoop target it body orelse env) ((do noteFrame x env;theTreesLotGoes x:aC Unit).wrap (λU=>.raise x) .raise id id) fs s') s') (λU U=>False) s) :
 aF (model WH w) A R Y n UO (.forLoop target it body orelse env) ((model WH w).den (.forLoop target it body orelse env)) fs s:=by
 show aF _ A R Y n UO _ ((forTurn target it body orelse env).onRaise (λx=>do noteFrame x env;theTreesLotGoes x)) fs s
 rw[Sem.onRaise_eq_wrap];refine seg_at ?_
 show aF _ A R Y n UO _ (aG _ _ _ _ ((pyNext it).onRaise (λU=>standAt {target.pos with line:=0})>>=λr=>match r with
  | none=>again (.block orelse env)
  | some v=>letOwnedTupleGo target it v>>=λU=>assign target env v>>=λU=>execs body env>>=λf=>match f with
   | .next|.cont=>again (.forLoop target it body orelse env)
   | .brk=>pure (.done .next)
   | .ret v=>pure (.done (.ret v)))) fs s
 rw[XY,YE];refine Zj (wpAny_onRaise (XR h (λr s' hr=>?_) λU U x=>x.elim));cases r with
 | none=>exact seg_again rfl hr
 | some v =>
  dsimp only;refine(ht v).symm▸?_
  show aF _ A R Y n UO _ (aG _ _ _ _ ((assign target env v)>>=_)) fs s'
  rw[XY,YE];refine Zj (XR hr (λU s'' hb=>?_) λx s' hx=>?_)
  ·rw[XY,YE];rw[Sem.wrap_congr (execs body env) _ _ (K':=λf=>match f with
    | .next|.cont=>.pure (.again (.forLoop target it body orelse env))
    | .brk=>.pure (.done .next)
    | .ret v=>.pure (.done (.ret v))) (H':=(λe=>(do noteFrame e env;theTreesLotGoes e:aC Unit).wrap (λU=>.raise e) .raise id id))
    (λf=>by cases f<;>rfl)
    (λe=>by first|exact Yl _ _|(show(do noteFrame e env;theTreesLotGoes e:aC Unit).bind (λU=>.raise e)=_;rw[Yl]))]
   exact hb
  ·first
    | (rw[<- Yl] at hx;exact hx)
    | (show aF _ A R Y n UO _ ((do noteFrame x env;theTreesLotGoes x:aC Unit).bind λU=>.raise x) fs s';rw[Yl];exact hx)
theorem Le:(model WH w).den (.block [] env)=leafOf (.ok .next):=rfl
end
section
variable{WH:Wm}{w:WW}{s s':WQ}
theorem MT{h:Xy}{x:XQ}(e:h.objs.size<=x):h.get? x=none:=by
 cases q:h.get? x with
 | none=>rfl
 | some o=>exact absurd (Wn q) (Ti e)
structure Up(s s':WQ):Prop where
 kp:∀b o,s.heap.get? b=some o->s'.heap.get? b=some o
 gs:∀(k:Nat) (st:Xo),s.gens[k]?=some st->s'.gens[k]?=some st
 dr:X4 s'.gens
 os:s'.os=s.os
theorem Up.out{s s':WQ}(u:Up s s')(P:Pt):HY P s s':=⟨λq o U e=>u.kp q o e,λk st U e=>u.gs k st e,u.dr,u.os,gsz u.gs⟩
structure JF(K:Xb)(f:Nat)(i:Fi)(fd:Wp)(body:List Xj):Prop where
 at_:∃oc od osl,K.lookup f=some ⟨oc,od,.func fd,osl⟩
 code:codeIn K fd.code fd.qualname=true
 gl:fd.globals=mainGlobals
 bi:fd.builtins=builtinsNs
 co:fd.scope.isCoroutine=false
 gen:fd.scope.isGenerator=true
 kind:fd.scope.kind=Y3
 p1:fd.params.posonlyargs=[]
 p2:fd.params.kwonlyargs=[]
 p3:fd.params.vararg=none
 p4:fd.params.kwarg=none
 pn:fd.params.args.map (·.arg)=i.pars.map nm
 df:(i.dflt=[]/\fd.defaults=.none)\/∃T o items n,fd.defaults=.ref T/\K.lookup T=some o/\o.data=.seq items n/\A2 VR i.dflt items.toList
 nd:i.pars.Nodup
 body:fd.body=.stmts body
 nocell:∀x∈fd.scope.names,x.2≠YD
 loc:∀p∈i.pars,fd.scope.names.lookup (nm p)=some .local
structure Gm(fd:Wp)(body:List Xj)(f:Nat)(ρ:As)(s s':WQ)(I F g:Nat):Prop where
 up:Up s s'
 nI:s.heap.get? I=none
 nF:s.heap.get? F=none
 ne:I≠F
 lF:s.heap.objs.size<=F
 gn:s.gens.size=g
 st:s'.gens[g]?=some (.fresh (.func body (callEnv fd F f)))
 gI:∃obI,s'.heap.get? I=some obI/\∀h':Xy,h'.get? I=some obI->h'.IsGen I g
 ns:∃m0,s'.heap.Ns F m0/\BR ρ m0
section
variable{k:Ck}{K:Xb}{A:XG}{c:Cx}{m:W5->Option WO}{H:MH}{f I F g:Nat}{fd:Wp}{body:List Xj}{R:Yk->WQ->Prop}{i:Fi}{vs:List V}{ys:List WO}{ρ:As}
theorem Kt(hd:8*A.depth+A.units+24<=7900)(G:JF K f i fd body)(B:Base k K c.UD)(Rl:Aa WH w c m H s)(r:A2 VR vs ys)(hb:LG i.pars i.dflt vs []=some ρ)(q:∀I F g s',Gm fd body f ρ s s' I F g->R (.ok (.ret (.ref I))) s') :
 codeAny (model WH w) A (.call (.ref f) ⟨ys,[]⟩) R s:=by
 refine AU λGG hG=>?_;refine Fu G.at_ λoc od osl ho=>?_;have X:=B.kin.keeps Rl.fr.keep;refine SD (Id (s:=s) X G.p1 G.p2 G.p3 G.p4 G.pn G.df r .nil hb) λbinds sl hsl hkr hbind U=>?_;refine Az (Gq hkr hsl G.nd) λhnd hin=>?_;refine hG ?_;clear hG GG;refine codeAny_call_generator (dl hd) (X _ _ ho) rfl G.co G.gen G.body (ZV X G.code) (hbind _ _ _ _ ?_);refine Yr G.nocell (λx hx=>by refine Aj (hin x hx) λp hp e=>?_;exact e.symm▸G.loc p hp) (λUX hns hsb=>⟨(B.lim.keeps Rl.fr.keep).fresh _ hsb,q _ s.heap.objs.size s.gens.size _ ?_⟩) G.kind
 refine MX (id hns) λobF U U hF U=>?_;have ltF:=Wn hF;have kp:∀b o,s.heap.get? b=some o->UX.get? b=some o:=λb o e=>hsb.extBut b o (Xw (Wn e)) (Wv _ e);refine⟨⟨λb o e=>Wv _ (kp b o e),λk st e=>?_,Rl.dr.push rfl,rfl⟩,MT (Xe ltF),MT (WY _),Nat.ne_of_gt ltF,WY _,rfl,?_,⟨_,Xc _ rfl,λh' e=>⟨_,_,_,e,rfl,rfl,rfl⟩⟩,_,hns.at' λo e=>Wv _ e,MQ hkr hnd⟩
 ·have lt:=(W7.mp e).1;exact(Array.getElem?_push_lt lt).trans ((Y6 lt).symm.trans e)
 ·exact Array.getElem?_push_size
theorem Aa.made(Rl:Aa WH w c m H s)(M:Gm fd body f ρ s s' I F g):∃obI obF,s'.heap.get? I=some obI/\(∀h':Xy,h'.get? I=some obI->h'.IsGen I g)/\s'.heap.get? F=some obF/\Aa WH w (c.x ((I,obI)::(F,obF)::c.X)) m H s'/\I≠c.L/\F≠c.L/\∀p∈c.X,p.1≠I/\p.1≠F:=by
 refine AU λGG hG=>?_;refine Aj M.gI λobI gI hIs=>?_;refine Aj M.ns λm0 hns U=>?_;refine MX (id hns) λobF U U gF U=>?_;refine CT Rl.lo λoL hL=>?_;obtain⟨D,WI,N,L⟩:=Rl.led;refine hG ?_;have hb0:∀{x},s.heap.get? x=none->c.UD.get? x=none:=λ{x} e=>by
  cases q:c.UD.get? x with
  | none=>rfl
  | some o=>exact sN (Rl.fr.keep _ _ q) e
 have nn:∀{x},s.heap.get? x=none->x∉WI.map (·.1):=λ{x} e z=>by
  refine Aj (mmP z) λp hp y=>?_;obtain rfl:=y;exact sN ((N p hp).1) e
 have nL:∀{x},s.heap.get? x=none->x≠c.L:=λe z=>by exact zS (hL▸z▸e)
 refine⟨obI,obF,gI,hIs,gF,?_,nL M.nI,nL M.nF,λp hp=>⟨λe=>nn M.nI (e▸key (L.xs p hp).1),λe=>nn M.nF (e▸key (L.xs p hp).1)⟩⟩;exact⟨Rl.fr.keeps M.up.kp,⟨D,_,JC ⟨gI,nL M.nI,hb0 M.nI⟩ (JC ⟨gF,nL M.nF,hb0 M.nF⟩ λp hp=>⟨M.up.kp _ _ (N p hp).1,(N p hp).2⟩),(L.addX (x:=F) (ob:=obF) (nn M.nF) (hb0 M.nF)).addX (x:=I) (ob:=obI) (λz=>(mcP z).elim M.ne (nn M.nI)) (hb0 M.nI)⟩,λk st e=>M.up.gs k st (Rl.gs k st e),M.up.dr,M.up.os.trans Rl.os⟩
theorem BR.frame{x:Nat}{y:WO}(l:BR ρ m)(h:AM x ρ=none):BR ρ (λz=>if z=nm x then some y else m z):=λz v e=>by
 refine Aj (l z v e) λu e1 e2=>?_;refine⟨u,(if_neg λq=>?_).trans e1,e2⟩;rw[I9 q] at e;exact sN e h
end
theorem PT{JS r:List Nat}{x:Nat}:(JS++x::r).getD JS.length 0=x:=by simp
theorem Rt{JS r:List Nat}{x:Nat}:(JS++x::r).getD ((JS++x::r).length-1-r.length) 0=x:=by
 have:(JS++x::r).length-1-r.length=JS.length:=by rw[Ws,ZL,<- Zv];exact Nat.add_sub_cancel _ _
 exact this.symm▸PT
theorem HY.sub{P Q:Pt}{s s':WQ}(o:HY Q s s')(hq:∀q∈P.q,q∈Q.q)(hg:Q.g=P.g):HY P s s':=⟨λq x hx=>o.kp q x (hq q hx),λk st hk=>o.gs k st (hg▸hk),o.dr,o.os,o.sz⟩
theorem HY.rfl'{P:Pt}{s:WQ}(h:X4 s.gens):HY P s s:=⟨λU U U e=>e,λU U U e=>e,h,rfl,WY _⟩
structure Pl(PP P':Pt)(Lc:XQ):Prop where
 q:P'.q=Lc::PP.q
 g:P'.g=PP.g
 n:Lc∉PP.q
section
variable{B:XG}{env:Zp}{PP P':Pt}{Lc I':XQ}{L:List Nat}{Fin K' Fin':WQ->Prop}{St:Nat->WQ->Prop}{r₀:Yk}
theorem Pl.sub(p:Pl PP P' Lc):∀q∈PP.q,q∈P'.q:=λq h=>p.q▸.tail _ h
theorem Pl.mem(p:Pl PP P' Lc):Lc∈P'.q:=p.q▸.head _
theorem Pl.inn(p:Pl PP P' Lc)(ex:Ex P' s)(h:In PP s s'):In P' s s':=by
 refine⟨λq hq=>?_,λb o hb e=>h.kp b o (λz=>hb (p.sub b z)) e,λk st hk e=>h.gs k st (λz=>hk (p.g▸z)) e,h.dr,h.os,h.sz⟩;replace hq:=p.q▸hq;rcases mcP hq with rfl|hq
 ·exact CT (ex.1 _ p.mem) λo e=>⟨o,h.kp _ o p.n e⟩
 ·exact h.e0 q hq
theorem Pl.set{h':Xy}{t:Nat}(p:Pl PP P' Lc)(ex:Ex P' s){m:W5->Option WO}(hn:h'.Ns Lc m)(hs:YO Lc s.heap h'):In P' s {s with heap:=h',toks:=t}:=by
 refine⟨λq hq=>?_,λb o hb e=>hs.extBut b o (λz=>hb (z▸p.mem)) e,λU U U e=>e,ex.2,rfl,WY _⟩;by_cases z:q=Lc
 ·subst z;refine MX hn λo U U e U=>?_;exact⟨o,e⟩
 ·exact CT (ex.1 q hq) λo e=>⟨o,hs.extBut q o z e⟩
theorem TV{xt:Nat}{p2 p5 p6 p7:Yt}{fs:List Zi}{its r2:List Nat}{ρ:As}(hsc:env.scope.kind=.function)(hco:env.scope.isCoroutine=false)(hin:interactive env=false)(hk:env.kindOf (nm xt)=some .local)(hL:env.locals=Lc)
 (hfs:splitAtGen fs=none)(hfg:fs.any Frame.guarded=false)(p:Pl PP P' Lc)(hρ:AM xt ρ=none)
 (W:Wk WH w (B.over (.forLoop (.Name (nm xt) p2) (.ref I') [.Expr (.Yield (some (.Name (nm xt) p5)) p6) p7] [] env) fs) I' P' its.length (λi=>its.getD i 0) Fin' St)
 (hK:∀s m,Fin' s->s.heap.Ns Lc m->BR ρ m->K' s)
 (hnext:∀UH s m,(∀k∈PP.g,k<s.gens.size)->HY PP UH s->Ex P' s->Fin' s->s.heap.Ns Lc m->BR ρ m->aF (model WH w) B (gR PP Fin r₀) (gY PP (λi=>L.getD i 0) L.length K') r2.length UH (.block [] env) (leafOf (.ok .next)) fs s) :
 ∀(r JS preL:List Nat),its=JS++r->L=preL++(r++r2)->∀UO s m,(∀k∈PP.g,k<s.gens.size)->HY PP UO s->Ex P' s->St JS.length s->s.heap.Ns Lc m->BR ρ m ->
  aF (model WH w) B (gR PP Fin r₀) (gY PP (λi=>L.getD i 0) L.length K') (r++r2).length UO (.forLoop (.Name (nm xt) p2) (.ref I') [.Expr (.Yield (some (.Name (nm xt) p5)) p6) p7] [] env)
   ((model WH w).den (.forLoop (.Name (nm xt) p2) (.ref I') [.Expr (.Yield (some (.Name (nm xt) p5)) p6) p7] [] env)) fs s:=by
 intro r
 induction r with
 | nil =>
  intro JS preL e eL UO s m hz ho ex st hn l;rw[XI] at e;subst e;refine E9 (λU=>rfl) (W.done s _ _ st ex λs' hf ho'=>?_);dsimp only;rw[Le];exact hnext UO s' m (λk h=>Wt (hz k h) ho'.sz) (ho.trans (ho'.sub p.sub p.g)) (ho'.ex ex) hf (hn.at' λo e=>ho'.kp _ o p.mem e) l
 | cons x r ih =>
  intro JS preL e eL UO s m hz ho ex st hn l;refine E9 (λU=>rfl) (W.item JS.length s _ _ (by rw[e,Ws,ZL];exact Nat.lt_add_of_pos_right (ZQ _)) st ex λs' st' ho'=>?_)
  have e1:its.getD JS.length 0=x:=by rw[e];exact PT
  refine e1.symm▸?_;have ex':=ho'.ex ex;have hn':s'.heap.Ns env.locals m:=by rw[hL];exact hn.at' λo e=>ho'.kp _ o p.mem e
  refine Xx (Yf hk hn' (λh' hn2 hs=>?_) (by exact hsc▸rfl))
  replace hs:=hL▸hs;have hn3:h'.Ns Lc (λz=>if z=nm xt then some (.ref x) else m z):=hL▸hn2
  have I1:In P' s' {s' with heap:=h',toks:=s'.toks+1}:=p.set ex' hn3 hs
  have o2:HY PP UO {s' with heap:=h',toks:=s'.toks+1}:=(ho.trans (ho'.sub p.sub p.g)).trans ⟨λq o hq e=>hs.extBut q o (λz=>p.n (z▸hq)) e,λU U U e=>e,I1.dr,rfl,WY _⟩
  have l2:BR ρ (λz=>if z=nm xt then some (.ref x) else m z):=l.frame hρ
  have st2:=W.frame _ _ _ st' I1;refine Xq (Zk hfs rfl hfg ?_ hco hin);refine YV (XH hsc hk hn2 (if_pos rfl) ?_) (Dy xt);intro kap hkap;refine⟨?_,o2,hK _ _ (W.fin _ _ st2) hn3 l2,λs3 I3=>hkap .none s3 ?_⟩
  ·have eL':L=preL++x::(r++r2):=eL;exact eL'.symm▸congrArg aH Rt.symm
  ·refine seg_execs_nil (seg_again rfl (ih (JS++[x]) (preL++[x]) (by rw[e,Xv];rfl) (by rw[eL,Xv];rfl) s3 s3 _ (λk h=>Wt (Wt (hz k h) ho'.sz) I3.sz) (HY.rfl' I3.dr) (p.inn I1.ex I3).ex ?_ (hn3.at' λo e=>I3.kp _ o p.n e) l2))
   rw[Ws];exact W.frame _ _ _ st2 (p.inn I1.ex I3)
end
end
section
variable{WH:Wm}{w:WW}{k:Ck}{K:Xb}{A:XG}{c:Cx}{m:W5->Option WO}{H:MH}{s s':WQ}{d:Nat}{PP:Pt}
inductive Fg (WH:Wm) (w:WW) (cg:Cx) (P:Pt) (H:MH) (Fp:List Nat) (s:WQ):Prop
 | mk (m:W5->Option WO) (H':MH) (R:Aa WH w (cg.pt P s.heap) m H' s) (q:Qt H H' Fp):Fg WH w cg P H Fp s
noncomputable def GW(WH:Wm)(w:WW)(k:Ck)(K:Xb)(fd:Wp)(body:List Xj)(f d:Nat)(T:Tr)(ρ:As)(L Fp:List Nat):Prop:=∀(A:XG) (cg:Cx) (P:Pt) m0 H s I g obI,A.handled=none->8*A.depth+A.units+24*(d+2+sz T)<=7900->Base k K cg.UD ->
 s.gens[g]?=some (.fresh (.func body (callEnv fd cg.L f)))->s.heap.get? I=some obI->(∀h':Xy,h'.get? I=some obI->h'.IsGen I g)->(I,obI)∈cg.X->SJ (P.add g) cg->g∉P.g->(∀k∈P.g,k<s.gens.size)->Ex P s->Aa WH w (cg.pt P s.heap) m0 H s->BR ρ m0->AS H T ->
 ∃St,Wk WH w A I P L.length (λi=>L.getD i 0) (Fg WH w cg P H Fp) St/\St 0 s
section
variable{co:Cx}{f I F g:Nat}{fd:Wp}{body:List Xj}{R:Yk->WQ->Prop}{i:Fi}{vs us:List V}{ys:List WO}{ρ ρS:As}{Fp:List Nat}{obI:Yx}
theorem Gm.sub(M:Gm fd body f ρ s s' I F g)(pok:SJ PP co)(hz:∀k∈PP.g,k<s.gens.size)(ex:Ex PP s)(Rl:Aa WH w (co.pt PP s.heap) m H s):∃obI m0,s'.heap.get? I=some obI/\(∀h':Xy,h'.get? I=some obI->h'.IsGen I g)/\BR ρ m0 /\
 Aa WH w ((co.lx F ((I,obI)::co.X)).pt ⟨co.L::PP.q,PP.g⟩ s'.heap) m0 H s'/\SJ (Pt.add ⟨co.L::PP.q,PP.g⟩ g) (co.lx F ((I,obI)::co.X))/\g∉PP.g/\Ex ⟨co.L::PP.q,PP.g⟩ s':=by
 refine AU λGG hG=>?_;refine x27 (Rl.made M) λobI obF gI hIs gF R1 nIL nFL nX=>?_;refine Aj M.ns λm0 hns l0=>?_;have ab:co.UD.objs.size<=F:=WL Rl.fr.above (WL (Xe Rl.nx.2.2) M.lF);refine Aj (R1.swap (gL:=F) (obL:=obF) (m':=m0) (X':=(I,obI)::(FY PP s.heap++co.X)) (.tail _ (.head _)) hns ab λp hp=>(mcP hp).elim (λe=>by subst e;exact⟨.head _,M.ne⟩) λhp=>⟨.tail _ (.tail _ hp),(nX p hp).2⟩) λoL hL R2=>?_
 refine hG ?_;have nq:∀{x},s.heap.get? x=none->x∉PP.q:=λe z=>CT (ex.1 _ z) λo h=>by replace h:=e.symm.trans h;exact zN h
 have cL:∀p∈co.X,p.1≠co.L:=λp hp=>(Rl.nx.2.1 p (WP _ hp)).2;have ex':Ex ⟨co.L::PP.q,PP.g⟩ s':=⟨λq hq=>(mcP hq).elim (λe=>⟨oL,e▸hL⟩) λhq=>CT (ex.1 q hq) λo e=>⟨o,M.up.kp _ _ e⟩,M.up.dr⟩;refine⟨obI,m0,gI,hIs,l0,R2.dropX' λp hp=>?_,⟨ncR ⟨pok.l,pok.nd⟩,λp hp=>?_,?_,λx hx=>?_⟩,λz=>XN _ (M.gn▸hz g z),ex'⟩
 ·rcases maP hp with hp|hp
  ·obtain⟨h1,h2⟩:=BE.mp hp;obtain⟨p1,p2⟩:=p;rcases mcP h1 with e|h1
   ·have e:p1=co.L:=e;subst e;obtain rfl:=WT (hL.symm.trans h2);exact .head _
   ·refine CT (ex.1 p1 h1) λo e=>?_;obtain rfl:=WT ((M.up.kp _ _ e).symm.trans h2);exact .tail _ (.tail _ (WR _ (BE.mpr ⟨h1,e⟩)))
  ·rcases mcP hp with rfl|hp
   ·exact .tail _ (.head _)
   ·exact .tail _ (.tail _ (WP _ hp))
 ·rcases mcP hp with rfl|hp
  ·exact λz=>(mcP z).elim nIL (nq M.nI)
  ·exact λz=>(mcP z).elim (cL p hp) (pok.x p hp)
 ·exact λz=>(mcP z).elim nFL (nq M.nF)
 ·rcases mcP hx with rfl|hx
  ·cases q:co.gs[x]? with
   | none=>rfl
   | some st=>exact absurd (W7.mp (Rl.gs x st q)).1 (M.gn▸XN _)
  ·exact pok.g x hx
theorem Fg.back(h:Fg WH w (co.lx F ((I,obI)::co.X)) ⟨co.L::PP.q,PP.g⟩ H Fp s)(pok:SJ PP co)(cL:∀p∈co.X,p.1≠co.L)(ab:co.UD.objs.size<=co.L)(hn:s.heap.Ns co.L m):∃H',Aa WH w (co.pt PP s.heap) m H' s/\Qt H H' Fp:=by
 obtain⟨m',H',R,q⟩:=h;refine MX (id hn) λoL U U gL U=>?_;refine Aj (R.swap (gL:=co.L) (obL:=oL) (m':=m) (X':=FY PP s.heap++co.X) (WR _ (BE.mpr ⟨.head _,gL⟩)) hn ab λp hp=>?_) λoF U R2=>?_
 ·rcases maP hp with hp|hp
  ·refine Az (BE.mp hp) λh1 h2=>?_;exact⟨WR _ (BE.mpr ⟨.tail _ h1,h2⟩),λe=>pok.l (e▸h1)⟩
  ·exact⟨WP _ (.tail _ hp),cL p hp⟩
 ·exact⟨H',R2.dropX' λp hp=>.tail _ hp,q⟩
theorem Ru{env:Zp}{sc:XB}{xc mth:Nat}{es:List E}{ov:Expr}{ap p:Yt}{xs:List Expr}{S:Tr}{P:WO->WQ->Prop}{Er:WO->WQ->Prop}(Z:Ev WH w K k (call d) A c env [] sc)(hd:8*A.depth+A.units+24<=7900)(l:BR ρ m)(G:JF K f i fd body)(hb:LG i.pars i.dflt (.ref S.addr::us) []=some ρS)
 (hm:∀c:Cl,Bh c mth=some f\/Bh c mth=none)(o4:C5 ov=true)(o5:(ap.endLine==p.line)=true)(o6:Be k sc (.var xc) ov=true)(o8:CP k sc es xs=true)(o10:xs.length+([]:List Xg).length<20)(hx:AM xc ρ=some (.ref S.addr))(hw:BL H (.ref S.addr) mth λU=>True)
 (hes:∀{Q:List V->MH->Prop},Q us H->Nb (call d) [] es ρ H Q)(R:Aa WH w c m H s)(q:∀I F g UH UM,Aa WH w c m H UH->Gm fd body f ρS UH UM I F g->P (.ref I) UM):wpAny (model WH w) A (eval (.Call (.Attribute ov (nm mth) ap) xs [] p) env) P Er s:=by
 refine Xh (D0 (Q:=λv H'=>v=.ref S.addr/\H'=H) ((Ci (.var xc)).go Z l o6 R (by show op (AM xc ρ) _;exact hx.symm▸⟨rfl,rfl⟩)) λv y Uj UH r R' z=>?_) (ET (k:=k) (sc:=sc) (es:=es) (ks:=[]) o4 o5 o10 o8 rfl)
 obtain⟨rfl,rfl⟩:=z;refine KY (G:=λf'=>f'=f) Z.F Z.B.kin R' r (RV hm hw λU=>rfl) λf' hf z=>?_;subst z;refine F0 (es:=es) (ks:=[]) (kws:=[]) (c:=c) (m:=m) (Q:=λvs zs H'=>zs=[]/\vs=us/\H'=Uj) Z hf o8 rfl (LD (SH Z l (λe U=>Ci e) o8 R' (hes (Q:=λvs H'=>vs=us/\H'=Uj) ⟨rfl,rfl⟩)) λvs ys H UH r R z=>⟨vs,H,r,R,λs' R'=>XX ⟨[],_,.nil,R',rfl,z⟩⟩) λvs zs ys ws UR UM UU UW UJ e=>?_;obtain⟨rfl,rfl,rfl⟩:=e;cases UW
 exact Yi (Kt hd G Z.B UJ (.cons r UU) hb λI F g s' M=>q I F g _ _ UJ M)
end
structure GK where
 f:Nat
 i:Fi
 fd:Wp
 body:List Xj
 mth:Nat
 xc:Nat
 xt:Nat
 es:List E
 us:List V
 ini:Tr->As
 itm:Tr->List Nat
 fpx:Tr->List Nat
structure GKo(K:Xb)(d:Nat)(G:GK):Prop where
 ok:JF K G.f G.i G.fd G.body
 hb:∀S,LG G.i.pars G.i.dflt (.ref S.addr::G.us) []=some (G.ini S)
 hm:∀c:Cl,Bh c G.mth=some G.f\/Bh c G.mth=none
 hm1:(HP G.mth [AB,AH,AL,AK,AR,BG,Au]&&!HP G.mth C2)=true
 hs:∀S,AM AA (G.ini S)=some (.ref S.addr)
 hc:∀S,AM G.xc (G.ini S)=none
 ht:∀S,AM G.xt (G.ini S)=none
 hes:∀S v (H:MH) {Q:List V->MH->Prop},Q G.us H->Nb (call d) [] G.es (put G.xc v (G.ini S)) H Q
 hf:∀H T S,AS H T->S∈Dk T->∀y∈G.fpx S,y∈G.fpx T
theorem Qt.nil{H H1:MH}{F}(f:Ao H H1 []):Qt H H1 F:=⟨f.mono (λU h=>(nomatch h)),λS r=>BB.nil r f⟩
inductive KI (WH:Wm) (w:WW) (c:Cx) (PP:Pt) (UG:MH) (Fp:List Nat) (l:Nat) (kl:List V) (J:XQ) (ρ:As) (i:Nat) (s:WQ):Prop
 | mk (m:W5->Option WO) (H:MH) (oi:Yx) (R:Aa WH w ((c.x ((J,oi)::c.X)).pt PP s.heap) m H s) (lo:BR ρ m) (q:Qt UG H Fp) (hl:H l=some (.list kl)) (it:NH l i (.list kl) oi):KI WH w c PP UG Fp l kl J ρ i s
theorem BR.sub{ρ:As}{m:W5->Option WO}{x:Nat}{v:V}(l:BR (Mine.put x v ρ) m)(h:AM x ρ=none):BR ρ m:=λz u e=>by
 cases q:WV x z with
 | true=>rw[<- Wa q] at e;exact sN e h
 | false=>exact l z u ((AN q).trans e)
section
variable{UG:MH}{n:Nat}{T:Tr}{G:GK}{env:Zp}{sc:XB}{L:List Nat}{Fin K':WQ->Prop}{r₀:Yk}{J l:Nat}
theorem Rv{cbody:List Xj}{k1:Yk->aC Y1}{l1:List WO}{q1:Yt}{kp1:List WO}{p1 p2 p3 p5 p6 p7 p8 ap:Yt}{ov:Expr}{xs:List Expr}(o:GKo K d G)(hA:A.handled=none)(hb:8*(A.depth+1)+(A.units+1+3)+24*(d+2+n)<=7900)
 (mkEv:∀B':XG,B'.handled=none->8*B'.depth+B'.units+24*d+12<=7900->∀c':Cx,c'.UD=c.UD->c'.L=c.L->Ev WH w K k (call d) B' c' env [] sc)(hco:env.scope.isCoroutine=false)(hin:interactive env=false)
 (ih:∀S∈Dk T,GW WH w k K G.fd G.body G.f d S (G.ini S) (G.itm S) (G.fpx S))(hn:∀S∈Dk T,sz S<=n)(pok:SJ PP c)(hJ:J∉PP.q)(hJL:J≠c.L)(hJX:∀p∈c.X,p.1≠J)(g:AS UG T)
 (hK:∀s m H,Aa WH w (c.pt PP s.heap) m H s->Qt UG H (G.fpx T)->K' s)
 (o6:Be k sc (.var G.xc) ov=true)(o4:C5 ov=true)(o5:(ap.endLine==p3.line)=true)(o8:CP k sc G.es xs=true)(o10:xs.length+([]:List Xg).length<20)(lc:sc.names.lookup (nm G.xc)=some .local)(lt:sc.names.lookup (nm G.xt)=some .local)
 (hend:∀UH s m H,HY PP UH s->Ex PP s->Aa WH w (c.pt PP s.heap) m H s->Qt UG H (G.fpx T)->aF (model WH w) A.in1 (gR PP Fin r₀) (gY PP (λi=>L.getD i 0) L.length K') 0 UH (.func cbody env) (k1 (.ok .next)) [] s) :
 ∀(ks dn:List Tr) (preL:List Nat),Dk T=dn++ks->L=preL++ks.flatMap G.itm->∀UO s,(∀x∈PP.g,x<s.gens.size)->HY PP UO s->Ex PP s->KI WH w c PP UG (G.fpx T) l ((Dk T).map λS=>.ref S.addr) J (G.ini T) dn.length s ->
  aF (model WH w) A.in1 (gR PP Fin r₀) (gY PP (λi=>L.getD i 0) L.length K') (ks.flatMap G.itm).length UO (.forLoop (.Name (nm G.xc) p1) (.ref J) [.For (.Name (nm G.xt) p2) (.Call (.Attribute ov (nm G.mth) ap) xs [] p3) [.Expr (.Yield (some (.Name (nm G.xt) p5)) p6) p7] [] p8] [] env)
   ((model WH w).den (.forLoop (.Name (nm G.xc) p1) (.ref J) [.For (.Name (nm G.xt) p2) (.Call (.Attribute ov (nm G.mth) ap) xs [] p3) [.Expr (.Yield (some (.Name (nm G.xt) p5)) p6) p7] [] p8] [] env)) [.ret k1 none false l1 (.func cbody env) q1 kp1] s:=by
 have ev0:=mkEv (A.in1.over (.func cbody env) []) hA (by exact(WL (Wj (by rw[XW,XW];omega:24*d+12<=24*(d+2+n)) (8*(A.depth+1)+(A.units+1+3))) hb:8*(A.depth+1)+(A.units+1+3)+(24*d+12)<=7900)) c rfl rfl
 have isc:=ev0.O.isc;have hll:(Dk T).length<=1000:=by cases T<;>exact WU rfl
 intro ks
 induction ks with
 | nil =>
  intro dn preL e eL UO s hz ho ex ⟨m,H,oi,R,lo,q,hl,it⟩;rw[XI] at e;have R1:Aa WH w (((c.pt PP s.heap).g s.gens).x ((J,oi)::(FY PP s.heap++c.X))) m H s:=R.ga.dropX' λp hp=>(mcP hp).elim (λe=>e▸WP _ (.head _)) λhp=>(maP hp).elim (λh=>WR _ h) λh=>WP _ (.tail _ h);refine E9 (λU=>rfl) (MO (c:=(c.pt PP s.heap).g s.gens) (by exact hA) R1 (λp hp=>(maP hp).elim (λh z=>hJ (z▸(BE.mp h).1)) (hJX p)) hl (.list (by rw[WS];exact hll)) (by rw[WS,e];exact it) λs' R2=>?_)
  dsimp only;rw[Le];refine Az (R.out ex (c':=c) R2 rfl rfl rfl) λoo R3=>?_;exact seg_leaf (.ok .next) (hend UO s' m H (ho.trans oo) (oo.ex ex) R3 q)
 | cons S ks ihk =>
  intro dn preL e eL UO s hz ho ex ⟨m,H,oi,R,lo,q,hl,it⟩;have hS:S∈Dk T:=e▸WP _ (.head _);refine DN (G6 g hS) λgS U U=>?_;have R1:Aa WH w (((c.pt PP s.heap).g s.gens).x ((J,oi)::(FY PP s.heap++c.X))) m H s:=R.ga.dropX' λp hp=>(mcP hp).elim (λe=>e▸WP _ (.head _)) λhp=>(maP hp).elim (λh=>WR _ h) λh=>WP _ (.tail _ h);refine E9 (λU=>rfl) (MN (c:=(c.pt PP s.heap).g s.gens) R1 (λp hp=>(maP hp).elim (λh z=>hJ (z▸(BE.mp h).1)) (hJX p)) hl (.list (by rw[WS];exact hll)) it (v:=.ref S.addr) (by rw[XD,e];simp) λy oi' s1 ry it' R2=>?_)
  cases ry
  refine Xx (Cr (c:=((c.pt PP s.heap).g s.gens).x ((J,oi')::(FY PP s.heap++c.X))) (by exact ev0.O) lc lo R2 (.ref _) λm' s2 l' R3=>?_)
  have R3':Aa WH w (((c.x ((J,oi')::c.X)).pt PP s.heap).g s.gens) m' H s2:=R3.dropX' (X':=FY PP s.heap++(J,oi')::c.X) λp hp=>(maP hp).elim (λh=>.tail _ (WR _ h)) λh=>(mcP h).elim (λe=>e▸.head _) λh=>.tail _ (WP _ h);refine Az (R.out ex (c':=c.x ((J,oi')::c.X)) R3' rfl rfl rfl) λoa Ra=>?_;have exa:=oa.ex ex;have pok':SJ PP (c.x ((J,oi')::c.X)):=⟨pok.nd,λp hp=>(mcP hp).elim (λe=>e▸hJ) (pok.x p),pok.l,pok.g⟩;have hza:∀x∈PP.g,x<s2.gens.size:=λx hx=>Wt (hz x hx) oa.sz;clear R1 R2 R3 R3';refine Xq (PR (λU=>rfl) ?_);refine Ru (c:=((c.x ((J,oi')::c.X)).pt PP s2.heap).g s2.gens) (mkEv _ (by exact hA) (by exact(WL (Wj (by rw[XW,XW];omega:24*d+12<=24*(d+2+n)) (8*(A.depth+1)+(A.units+1+3))) hb:8*(A.depth+1)+(A.units+1+3)+(24*d+12)<=7900)) _ rfl rfl)
   (by exact(WL (Wj (by rw[XW,XW];omega:24<=24*(d+2+n)) (8*(A.depth+1)+(A.units+1+3))) hb:8*(A.depth+1)+(A.units+1+3)+24<=7900)) l' o.ok (o.hb S) o.hm o4 o5 o6 o8 o10 Ad ((gS.q q).rep.m1 o.hm1 trivial) (o.hes T _ H) Ra.ga λI F gn s3 s4 R4 M=>?_
  refine Az (Ra.out exa (c':=c.x ((J,oi')::c.X)) R4 rfl rfl rfl) λob Rb=>?_;have exb:=ob.ex exa;refine AU λGG hG=>?_;refine x27 (M.sub pok' (λx hx=>Wt (hza x hx) ob.sz) exb Rb) λobI m0 gI hIs l0 Rc pokc hgn exc=>?_;refine hG ?_;clear hG GG;refine Ym (hIs _ gI) λp=>?_;have zc:∀x∈PP.g,x<s4.gens.size:=λx hx=>Wt (Wt (hza x hx) ob.sz) (gsz M.up.gs);obtain⟨St,W,st0⟩:=ih S hS (A.in1.over (.forLoop (.Name (nm G.xt) p2) (.ref I) [.Expr (.Yield (some (.Name (nm G.xt) p5)) p6) p7] [] env) [.ret _ none _ _ (.forLoop (.Name (nm G.xc) p1) (.ref J) [.For (.Name (nm G.xt) p2) (.Call (.Attribute ov (nm G.mth) ap) xs [] p3) [.Expr (.Yield (some (.Name (nm G.xt) p5)) p6) p7] [] p8] [] env) p [],.ret k1 none false l1 (.func cbody env) q1 kp1]) ((c.x ((J,oi')::c.X)).lx F ((I,obI)::(J,oi')::c.X)) ⟨c.L::PP.q,PP.g⟩ m0 H s4 I gn obI (by exact hA)
   (by exact(WL (Wj (m24 (Wj (hn S hS) (d+2))) (8*(A.depth+1)+(A.units+1+3))) hb:8*(A.depth+1)+(A.units+1+3)+24*(d+2+sz S)<=7900)) ev0.B M.st gI hIs (.head _) pokc hgn zc exc Rc l0 (gS.q q)
  have cL:∀p∈(J,oi')::c.X,p.1≠c.L:=λp hp=>(Ra.nx.2.1 p (WP _ hp)).2;have ab:c.UD.objs.size<=c.L:=Ra.fr.above;have hnc:s4.heap.Ns c.L m':=Rb.fr.ns.at' λo e=>M.up.kp _ o e;have hfp:=o.hf UG T S g hS;rw[aE] at eL ⊢;refine TV (Lc:=c.L) (P':=⟨c.L::PP.q,PP.g⟩) (ρ:=G.ini T) (by rw[isc];exact ev0.O.ikd) hco hin (by unfold Xa;rw[isc];exact lt) ev0.O.ilo rfl rfl ⟨rfl,rfl,pok.l⟩ (o.ht T) W (λs m hf hn l=>?_) (λUH s m hz' ho' ex' hf hn lr=>?_) (G.itm S) [] preL rfl eL UO s4 m' zc (((ho.trans oa).trans ob).trans (M.up.out PP)) exc st0 hnc (l'.sub (o.hc T))
  ·refine Aj (hf.back (co:=c.x ((J,oi')::c.X)) pok' cL ab hn) λH' R5 q5=>?_;exact hK s m H' (R5.dropX' (X':=FY PP s.heap++c.X) λp hp=>(maP hp).elim (λh=>WR _ h) λh=>WP _ (.tail _ h)) (q.trans (q5.mono hfp))
  ·refine Aj (hf.back (co:=c.x ((J,oi')::c.X)) pok' cL ab hn) λH' R5 q5=>?_;have hl':H' l=some (.list ((Dk T).map λS=>.ref S.addr)):=q5.fr.kp _ _ hl (.inr rfl);refine seg_leaf (.ok .next) ?_;have:=ihk (dn++[S]) (preL++G.itm S) (by rw[e,Xv];rfl) (by rw[eL,Xv]) UH s hz' ho' ⟨λq hq=>ex'.1 q (.tail _ hq),ex'.2⟩ ⟨m,H',oi',R5,lr,q.trans (q5.mono hfp),hl',by rw[Ws];exact it'⟩
   exact seg_execs_nil (env:=env) (seg_again rfl this)
end
theorem Lf{env:Zp}:∀JS rest:List Xj,execs (JS++rest) env=(execs JS env>>=λf=>match f with|.next=>execs rest env|f=>pure f)
 | [],rest=>rfl
 | st::r,rest=>by
  show execs (st::(r++rest)) env=_
  rw[execs_cons,execs_cons,bind_assoc];refine congrArg (exec st env>>=·) (funext λf=>?_)
  cases f with
  | next=>exact Lf r rest
  | _=>exact(pure_bind _ _).symm
theorem QD{M:Model}{A:XG}{R:GenEnd}{Y:Protocol}{n:Nat}{UO:WQ}{c:Code}{fs:List Zi}{s:WQ}{env:Zp}{K:Flow->aC Y1}{H:WO->aC Y1}{gd:Bool->Bool}{lv:List WO->List WO}{JS rest:List Xj}
 (h:wpAny M (A.over c fs) (execs JS env) (λf s'=>aF M A R Y n UO c (match f with|.next=>(execs rest env).wrap K H gd lv|f=>K f) fs s') (λx s'=>aF M A R Y n UO c (H x) fs s') s):aF M A R Y n UO c ((execs (JS++rest) env).wrap K H gd lv) fs s:=by
 rw[Lf,XY,YE];refine Zj (XR h (λf s' hf=>?_) λU U x=>x);cases f<;>exact hf
noncomputable def Rw(k:Ck)(sc:XB)(xc xt mth:Nat)(es:List E)(st:Xj):Prop:=∃chx ov xs,∃p1 p2 p3 p5 p6 p7 p8 p9 ap:Yt,st=.For (.Name (nm xc) p1) chx [.For (.Name (nm xt) p2) (.Call (.Attribute ov (nm mth) ap) xs [] p3) [.Expr (.Yield (some (.Name (nm xt) p5)) p6) p7] [] p8] [] p9 /\
 Be k sc (.meth (.var AA) Au [] []) chx=true/\Bw chx=true/\Be k sc (.var xc) ov=true/\C5 ov=true/\(ap.endLine==p3.line)=true/\CP k sc es xs=true/\Nat.blt xs.length 20=true/\sc.names.lookup (nm xc)=some .local/\sc.names.lookup (nm xt)=some .local
section
variable{UG:MH}{UO:WQ}{n:Nat}{P:Pt}{T:Tr}{G:GK}{env:Zp}{sc:XB}{L:List Nat}{Fin K':WQ->Prop}{r₀:Yk}{J l:Nat}
theorem NX{cbody:List Xj}{st:Xj}{Kc:Flow->aC Y1}{Hc:WO->aC Y1}(o:GKo K (d+1) G)(hA:A.handled=none)(hb:8*(A.depth+1)+(A.units+1+3)+24*(d+1+2+n)<=7900)
 (mkEv:∀B':XG,B'.handled=none->8*B'.depth+B'.units+24*(d+1)+12<=7900->∀c':Cx,c'.UD=c.UD->c'.L=c.L->Ev WH w K k (call (d+1)) B' c' env [] sc)(hco:env.scope.isCoroutine=false)(hin:interactive env=false)
 (ih:∀S∈Dk T,GW WH w k K G.fd G.body G.f (d+1) S (G.ini S) (G.itm S) (G.fpx S))(hn:∀S∈Dk T,sz S<=n)(pok:SJ PP c)(g:AS UG T)
 (hK:∀s m H,Aa WH w (c.pt PP s.heap) m H s->Qt UG H (G.fpx T)->K' s)(sh:Rw k sc G.xc G.xt G.mth G.es st)
 (hend:∀UH s m H,HY PP UH s->Ex PP s->Aa WH w (c.pt PP s.heap) m H s->Qt UG H (G.fpx T)->aF (model WH w) A.in1 (gR PP Fin r₀) (gY PP (λi=>L.getD i 0) L.length K') 0 UH (.func cbody env) (Kc .next) [] s)
 (eL:L=(Dk T).flatMap G.itm)(hz:∀x∈PP.g,x<s.gens.size)(ho:HY PP UO s)(ex:Ex PP s)(R:Aa WH w (c.pt PP s.heap) m H s)(q:Qt UG H (G.fpx T))(lo:BR (G.ini T) m) :
 aF (model WH w) A.in1 (gR PP Fin r₀) (gY PP (λi=>L.getD i 0) L.length K') L.length UO (.func cbody env) ((exec st env).wrap Kc Hc id id) [] s:=by
 obtain⟨chx,ov,xs,p1,p2,p3,p5,p6,p7,p8,p9,ap,rfl,ochx,onc,o6,o4,o5,o8,oxs,lc,lt⟩:=sh;have bd:8*(A.depth+1)+(A.units+1+3)+24*(d+1)+12<=7900:=by rw[Zv];exact WL (Wj (by rw[XW 24,XW 24 (d+1+2)];omega) _) hb
 have ev:=mkEv (A.in1.over (.func cbody env) []) hA (by exact bd) ((c.pt PP s.heap).g s.gens) rfl rfl
 refine PR (λx=>Dj onc) (D0 (Q:=λv H'=>∃l,v=.ref l/\H l=none/\H'=H.put l (.list ((Dk T).map λS=>.ref S.addr))) (Ci (.meth (.var AA) Au [] []) _ _ _ _ _ _ _ ev lo _ _ _ _ _ ochx R.ga ?_) λv y H1 s1 r R1 hq=>?_)
 ·exact CW (o.hs T) (c_kids (g.q q) λl hl=>⟨l,rfl,hl,rfl⟩)
 ·obtain⟨l,rfl,hl,rfl⟩:=hq;cases r
  have hll:((Dk T).map λS=>V.ref S.addr).length<=1000:=by rw[WS];cases T<;>exact WU rfl
  refine Ib R1 (AE _ _ _) (.list hll) ev.B.mods λJ oi s2 hX it R2=>?_;have R2':Aa WH w (((c.x ((J,oi)::c.X)).pt PP s.heap).g s.gens) m (H.put l (.list ((Dk T).map λS=>.ref S.addr))) s2:=R2.dropX' (X':=FY PP s.heap++(J,oi)::c.X) λp hp=>(maP hp).elim (λh=>.tail _ (WR _ h)) λh=>(mcP h).elim (λe=>e▸.head _) λh=>.tail _ (WP _ h);refine Az (R.out ex (c':=c.x ((J,oi)::c.X)) R2' rfl rfl rfl) λoo R3=>λp=>?_;have hJ:J∉PP.q:=λz=>CT (ex.1 J z) λo e=>hX (J,o) (WR _ (BE.mpr ⟨z,e⟩)) rfl;have hJL:J≠c.L:=(R3.nx.2.1 (J,oi) (WP _ (.head _))).2;rw[eL] at hend ⊢;exact Rv o hA hb mkEv hco hin ih hn pok hJ hJL (λp hp=>hX p (WP _ hp)) g hK o6 o4 o5 o8 (WU oxs) lc lt hend (Dk T) [] [] rfl rfl UO s2 (λx hx=>Wt (hz x hx) oo.sz) (ho.trans oo) (oo.ex ex) ⟨m,_,oi,R3,lo,q.trans (.nil (Ao.new0 hl)),AE _ _ _,it⟩
theorem Ex.cst{cg:Cx}(ex:Ex P s)(R:Aa WH w (cg.pt P s.heap) m H s)(B:Base k K cg.UD):cStatics∉P.q:=λz=>by
 obtain⟨o,e⟩:=ex.1 _ z;obtain⟨D,WI,N,L'⟩:=R.led;have:=(N _ (L'.xs (cStatics,o) (WR _ (BE.mpr ⟨z,e⟩))).1).2.2;refine Aj B.lim λU y U=>?_;refine MX y λoC U U hC U=>?_;exact nS this hC
theorem Rx{i:Fi}{fd:Wp}{body:List Xj}{f:Nat}{cg:Cx}(F:KF K k.isAttr)(ih:SI WH w k K (call d) d)(G:JF K f i fd body)(B:Base k K cg.UD):∀B':XG,B'.handled=none->8*B'.depth+B'.units+24*d+12<=7900->∀c':Cx,c'.UD=cg.UD->c'.L=cg.L->Ev WH w K k (call d) B' c' (callEnv fd cg.L f) [] fd.scope :=
 λB' hB mB c' h0 hL'=>⟨F,h0▸B,⟨rfl,G.kind,hL'.symm,G.gl,G.bi,λx a e U=>(zN e),λp hp e=>absurd e (G.nocell p hp)⟩,λU=>hB,d0 (dw mB),λA'' hh'' hd'' c'' m H s f vs ys us zs Q R e U R' r r' h q=>ih A'' hh'' (dc mB hd'') c'' m H s f vs ys us zs Q R (by exact e.symm▸h0.symm▸B) R' r r' h q,
  λU U U U U U U U U U U U U U U h=>(LX h).elim,λU U U U U U U U U U U U U U U U U h=>(LY h).elim⟩
end
noncomputable abbrev iMT:Fi:=⟨[AA,Ag],[.none],[],[]⟩
noncomputable abbrev iTM:Fi:=⟨[AA],[],[],[]⟩
noncomputable def gMT(fd:Wp)(body:List Xj)(x:Int):GK:=⟨AF,iMT,fd,body,AK,x_c,QI,[.var Ag],[.int x],λT=>[(AA,.ref T.addr),(Ag,.int x)],λT=>(mt x T).map (·.1),fp⟩
noncomputable def gTM(fd:Wp)(body:List Xj):GK:=⟨AG,iTM,fd,body,AR,x_cm,x_m,[],[],λT=>[(AA,.ref T.addr)],λT=>(lf T).map (·.1),λU=>[]⟩
noncomputable def MtSh(k:Ck)(sc:XB)(body:List Xj):Prop:=∃a b c tx st,∃p1 p2 p3 p4:Yt,body=[a,b,c]++[.If tx [st] [.Expr (.Yield (some (.Name (nm QI) p1)) p2) p3] p4]/\Hn k sc [mt1,mt2,mt3] [a,b,c]=true/\QK k sc (.e (.cmp .Is (.var QI) .none)) tx=true/\Rw k sc x_c QI AK [.var Ag] st
noncomputable def TmSh(k:Ck)(sc:XB)(body:List Xj):Prop:=∃tx st,∃p1 p2 p3 p4:Yt,body=[.If tx [.Expr (.Yield (some (.Name (nm AA) p1)) p2) p3] [st] p4]/\QK k sc (.e (.cmp .IsNot (.meth (.var AA) BG [] []) .none)) tx=true/\Rw k sc x_cm x_m AR [] st
section
variable{UG:MH}{UO:WQ}{n:Nat}{P:Pt}{T:Tr}{fd:Wp}{body:List Xj}
theorem gMT_ok{x:Int}(G:JF K AF iMT fd body):GKo K d (gMT fd body x) :=
 ⟨G,λU=>rfl,λc=>(mtC c).1,rfl,λU=>rfl,λU=>rfl,λU=>rfl,λU U U U q=>q,λH T S g hS=>(G6 g hS).2.2⟩
theorem gTM_ok(G:JF K AG iTM fd body):GKo K d (gTM fd body) :=
 ⟨G,λU=>rfl,λc=>(mtC c).2,rfl,λU=>rfl,λU=>rfl,λU=>rfl,λU U U U q=>q,λU U U U U U h=>nomatch h⟩
theorem NY{α:Type}{f:Tr->List (Nat×α)}{l:List (Nat×α)}(e:l=(Dk T).flatMap f):l.map (·.1)=(Dk T).flatMap λS=>(f S).map (·.1):=by
 rw[e,List.map_flatMap]
theorem PU(T:Tr):(∃a la wa i ds t,T=.leaf a la wa i ds t)\/NW T=false/\tv T=.none:=by
 cases T<;>first|exact .inr ⟨rfl,rfl⟩|exact .inl ⟨_,_,_,_,_,_,rfl⟩
theorem mt_gw(F:KF K k.isAttr)(sc:SI WH w k K (call (d+1)) (d+1))(con:∀T,sz T<=n->GL (d+1) T)(G:JF K AF iMT fd body)(sh:MtSh k fd.scope body):∀N,∀T,sz T<=N->N<=n->∀iv Ls,MtL T iv Ls ->
 GW WH w k K fd body AF (d+1) T [(AA,.ref T.addr),(Ag,iv)] (Ls.map (·.1)) (fp T):=by
 intro N
 induction N with
 | zero=>intro T h;cases T<;>exact absurd h (Zl _)
 | succ N ihN =>
  intro T hT hN iv Ls hL A cg P m0 H s I g obI hA hb B st gI hIs hX pok hg hz ex R l gT;have mkEv:=Rx (cg:=cg) F sc G B;have hIP:=pok.x _ hX;have hF:∀s s',Fg WH w cg P H (fp T) s->In (P.add g) s s'->Fg WH w cg P H (fp T) s':=λs s' ⟨m,H',R,q⟩ I'=>⟨m,H',Aa.re (P:=P.add g) R pok I',q⟩;refine⟨_,Wk.gen (g:=g) (r₀:=.ok (.ret .none)) (Ld hA (dl hb)) hIP (ex.cst R B) hg hF,⟨hIs _ gI,B.lim.keeps λb o e=>R.fr.keep b o e⟩,⟨m0,H,R,.refl⟩,_,st,λs4 I4=>⟨rfl,?_⟩⟩;rw[Nat.sub_zero];have R4:=Aa.re (P:=P.add g) R pok I4;have ex4:=I4.ex;have bd:8*(A.depth+1)+(A.units+1+3)+24*(d+1)+12<=7900:=by rw[XW 24] at hb;omega
  have bn:8*(A.depth+1)+(A.units+1+3)+24*(d+1+2+(sz T-1))<=7900:=by
   have:0<sz T:=by cases T<;>exact ZQ _
   rw[XW 24] at hb ⊢;omega
  refine AU λGG hG=>?_;obtain⟨a,b,c,tx,stm,p1,p2,p3,p4,rfl,o1,o2,o3⟩:=sh;refine hG ?_;clear hG GG;have ev:=mkEv (A.in1.over (.func ([a,b,c]++[.If tx [stm] [.Expr (.Yield (some (.Name (nm QI) p1)) p2) p3] p4]) (callEnv fd cg.L AF)) []) hA (by exact bd)
  refine seg_func (QD (th (TF (ev ((cg.pt P s4.heap).g s4.gens) rfl rfl) (λx U=>PJ x) l o1 R4.ga (mt_pre (con T (WL hT hN)) gT hL)) λf s5 hps=>?_));refine AU λGG hG=>?_;obtain⟨fl,ρ',m5,H5,rf,l5,R5,q5,h5⟩:=hps;refine Az (R4.out ex4 (c':=cg) R5 rfl rfl rfl) λoo R6=>?_;refine hG ?_;clear hG GG;rcases h5 with⟨rfl,rfl⟩|⟨x,rfl,rfl,hx,rfl⟩
  ·cases rf with
   | ret rv=>cases rv;exact aO (.ok (.ret .none)) ⟨rfl,rfl,oo,m5,H5,R6,q5⟩
  ·cases rf
   have fin:∀s m H',Aa WH w (cg.pt P s.heap) m H' s->Qt H H' (fp T)->gK I g s/\Fg WH w cg P H (fp T) s:=λs m H' R q=>⟨⟨hIs _ ?_,B.lim.keeps λb o e=>R.fr.keep b o e⟩,m,H',R,q⟩
   ·have ev5:=ev ((cg.pt P s5.heap).g s5.gens) rfl rfl;refine Xq (Rs (O5 (Q:=λb H'=>H'=H5/\b=(!NW T)) (Ki (.e (.cmp .Is (.var QI) .none)) _ _ _ _ _ _ _ ev5 l5 _ _ _ _ _ o2 R6.ga ?_) λb H' s6 R7 hq=>?_))
    ·rcases PU T with⟨_,_,_,_,_,_,rfl⟩|⟨e1,e2⟩
     ·exact⟨rfl,rfl⟩
     ·exact e2.symm▸⟨rfl,by rw[e1];rfl⟩
    ·obtain⟨rfl,rfl⟩:=hq;refine Az (R6.out (oo.ex ex4) (c':=cg) R7 rfl rfl rfl) λo' R8=>?_;have ex6:=o'.ex (oo.ex ex4);have o46:=oo.trans o';have isc:=ev5.O.isc;have lo5:BR [(AA,.ref T.addr),(Ag,.int x)] m5:=BR.sub (x:=QI) (v:=tv T) l5 rfl;have hz6:∀y∈(P.add g).g,y<s6.gens.size:=λy hy=>Wt (Wt ((mcP hy).elim (λe=>e▸(W7.mp st).1) (hz y)) I4.sz) o46.sz;rcases PU T with⟨la,lb,lw,li,ld,t,rfl⟩|⟨e1,e2⟩
     ·rw[if_neg (show ¬ (!NW (.leaf la lb lw li ld t))=true from Xn)]
      have em:mt x (.leaf la lb lw li ld t)=[t]:=E8 hx;rw[em]
      show aF _ _ _ _ (0+1) _ _ _ _ _
      refine Aj (l5 QI _ rfl) λy hy ry=>?_;cases ry
      obtain⟨U,U,U,U,U,U,U,U,U,U,U,U,U,U,U,U,U,U,U,U,U,lt⟩:=o3;refine Xq (Zk rfl rfl rfl (YV (XH (by rw[isc];exact ev5.O.ikd) (by unfold Xa;rw[isc];exact lt) R8.fr.ns hy ?_) (Dy QI)) G.co (FX ev5.O))
      intro kap hkap;have f6:=fin s6 m5 H' R8 q5;exact⟨rfl,o46,f6,λs3 I3=>hkap .none s3 (aO (.ok (.ret .none)) ⟨rfl,rfl,HY.rfl' I3.dr,hF s6 s3 f6.2 I3⟩)⟩
     ·rw[e1];refine(if_pos rfl).symm▸Xq ?_;exact NX (G:=gMT fd _ x) (c:=cg) (PP:=P.add g) (UG:=H) (T:=T) (n:=sz T-1) (gMT_ok G) hA bn mkEv G.co (FX ev5.O) (λS hS=>ihN S (by have:=(G6 gT hS).2.1;omega) (by omega) (.int x) (mt x S) rfl) (λS hS=>by have:=(G6 gT hS).2.1;omega) pok gT fin o3
       (λUH s m H' ho ex R q=>aO (.ok (.ret .none)) ⟨rfl,rfl,ho,m,H',R,q⟩) (NY (TT e1 hx)) hz6 o46 ex6 R8 q5 lo5
   ·obtain⟨D,WI,N,L'⟩:=R.led;exact N.get (L'.xs _ (WP _ hX)).1
end
section
variable{UG:MH}{UO:WQ}{n:Nat}{P:Pt}{T:Tr}{fd:Wp}{body:List Xj}
theorem tm_gw(F:KF K k.isAttr)(sc:SI WH w k K (call (d+1)) (d+1))(G:JF K AG iTM fd body)(sh:TmSh k fd.scope body):∀N,∀T,sz T<=N->GW WH w k K fd body AG (d+1) T [(AA,.ref T.addr)] ((lf T).map (·.1)) []:=by
 intro N
 induction N with
 | zero=>intro T h;cases T<;>exact absurd h (Zl _)
 | succ N ihN =>
  intro T hT A cg P m0 H s I g obI hA hb B st gI hIs hX pok hg hz ex R l gT;have mkEv:=Rx (cg:=cg) F sc G B;have hIP:=pok.x _ hX;have hF:∀s s',Fg WH w cg P H [] s->In (P.add g) s s'->Fg WH w cg P H [] s':=λs s' ⟨m,H',R,q⟩ I'=>⟨m,H',Aa.re (P:=P.add g) R pok I',q⟩;refine⟨_,Wk.gen (g:=g) (r₀:=.ok (.ret .none)) (Ld hA (dl hb)) hIP (ex.cst R B) hg hF,⟨hIs _ gI,B.lim.keeps λb o e=>R.fr.keep b o e⟩,⟨m0,H,R,.refl⟩,_,st,λs4 I4=>⟨rfl,?_⟩⟩;rw[Nat.sub_zero];have R4:=Aa.re (P:=P.add g) R pok I4;have ex4:=I4.ex;have bd:8*(A.depth+1)+(A.units+1+3)+24*(d+1)+12<=7900:=by rw[XW 24] at hb;omega
  have bn:8*(A.depth+1)+(A.units+1+3)+24*(d+1+2+(sz T-1))<=7900:=by
   have:0<sz T:=by cases T<;>exact ZQ _
   rw[XW 24] at hb ⊢;omega
  refine AU λGG hG=>?_;refine x63 sh λtx stm p1 p2 p3 p4 v o2 o3=>?_;obtain rfl:=v;refine hG ?_;clear hG GG;have ev:=mkEv (A.in1.over (.func [.If tx [.Expr (.Yield (some (.Name (nm AA) p1)) p2) p3] [stm] p4] (callEnv fd cg.L AG)) []) hA (by exact bd) ((cg.pt P s4.heap).g s4.gens) rfl rfl
  have fin:∀s m H',Aa WH w (cg.pt P s.heap) m H' s->Qt H H' []->gK I g s/\Fg WH w cg P H [] s:=λs m H' R q=>⟨⟨hIs _ (by obtain⟨D,WI,N,L'⟩:=R.led;exact N.get (L'.xs _ (WP _ hX)).1),B.lim.keeps λb o e=>R.fr.keep b o e⟩,m,H',R,q⟩
  refine seg_func (Xq (Rs (O5 (Q:=λb H'=>H'=H/\b=NW T) (Ki (.e (.cmp .IsNot (.meth (.var AA) BG [] []) .none)) _ _ _ _ _ _ _ ev l _ _ _ _ _ o2 R4.ga ?_) λb H' s6 R7 hq=>?_)))
  ·refine Rq gT ?_;rcases PU T with⟨_,_,_,_,_,_,rfl⟩|⟨e1,e2⟩
   ·exact⟨rfl,rfl⟩
   ·exact e2.symm▸⟨rfl,e1.symm⟩
  ·obtain⟨rfl,rfl⟩:=hq;refine Az (R4.out ex4 (c':=cg) R7 rfl rfl rfl) λo' R8=>?_;have ex6:=o'.ex ex4;have isc:=ev.O.isc;have hz6:∀y∈(P.add g).g,y<s6.gens.size:=λy hy=>Wt (Wt ((mcP hy).elim (λe=>e▸(W7.mp st).1) (hz y)) I4.sz) o'.sz;rcases PU T with⟨la,lb,lw,li,ld,t,rfl⟩|⟨e1,e2⟩
   ·rw[if_pos (show NW (.leaf la lb lw li ld t)=true from rfl)]
    show aF _ _ _ _ (0+1) _ _ _ _ _
    refine Aj (l AA _ rfl) λy hy ry=>?_;cases ry
    refine Xq (Zk rfl rfl rfl (YV (XH (by rw[isc];exact ev.O.ikd) (by unfold Xa;rw[isc];exact G.loc AA (.head _)) R8.fr.ns hy ?_) (Dy AA)) G.co (FX ev.O))
    intro kap hkap;have f6:=fin s6 m0 H' R8 .refl;exact⟨rfl,o',f6,λs3 I3=>hkap .none s3 (aO (.ok (.ret .none)) ⟨rfl,rfl,HY.rfl' I3.dr,hF s6 s3 f6.2 I3⟩)⟩
   ·rw[if_neg (show ¬ NW T=true from λz=>by rw[e1] at z;exact zT z)]
    refine Xq ?_;exact NX (G:=gTM fd _) (c:=cg) (PP:=P.add g) (UG:=H') (T:=T) (n:=sz T-1) (gTM_ok G) hA bn mkEv G.co (FX ev.O) (λS hS=>ihN S (by have:=(G6 gT hS).2.1;omega)) (λS hS=>by have:=(G6 gT hS).2.1;omega) pok gT fin o3
     (λUH s m H' ho ex R q=>aO (.ok (.ret .none)) ⟨rfl,rfl,ho,m,H',R,q⟩) (NY (TU e1)) hz6 o' ex6 R8 .refl l
end
end
noncomputable abbrev itP(it:Nat->Nat)(i:Nat)(v:WO):Prop:=v=aH (it i)
noncomputable abbrev lO(acc:Array WO)(n:Nat):Obj:={cls:=.type "list",dict:=none,data:=.seq acc n,slots:=#[]}
theorem In.one{S:XQ}{s:WQ}{h:Xy}{o:Yx}{tk:Nat}(hb:X4 s.gens)(hs:h.get? S=some o)(k:∀b o,b≠S->s.heap.get? b=some o->h.get? b=some o):In ⟨[S],[]⟩ s {s with heap:=h,toks:=tk} :=
 ⟨λq hq=>⟨o,by exact(msP hq).symm▸hs⟩,λb o hb e=>k b o (λz=>hb (by exact z▸.head _)) e,λU U U e=>e,hb,rfl,WY _⟩
section
variable{WH:Wm}{w:WW}{A:XG}{I S:XQ}{n:Nat}{it:Nat->Nat}{Fin:WQ->Prop}{St:Nat->WQ->Prop}{R:Yk->WQ->Prop}
theorem QE(W:Wk WH w A.in1 I ⟨[S],[]⟩ n it Fin St)(hn:n<=1000)(res:WO):∀(j i:Nat) (s:WQ) (acc:Array WO) (c:Nat),n-i=j->i<=n->St i s->X4 s.gens->s.heap.get? S=some (lO acc c)->aN (itP it) acc i ->
 (∀s' acc' c',Fin s'->s'.heap.get? S=some (lO acc' c')->aN (itP it) acc' n->R (.ok (.ret res)) s')->codeAny (model WH w) A (.builtin "list.extend.loop" ⟨[.ref S,.ref I,res],[]⟩) R s:=by
 have exS:∀{s:WQ} {o},s.heap.get? S=some o->X4 s.gens->Ex ⟨[S],[]⟩ s:=λ{s o} e b=>⟨λq hq=>⟨o,by exact(msP hq).symm▸e⟩,b⟩
 intro j
 induction j with
 | zero =>
  intro i s acc c hk hi hst hbr hS hacc hR;cases Nat.le_antisymm hi (Nat.sub_eq_zero_iff_le.mp hk)
  refine codeAny_builtin Y7 ?_;refine(Zm Xs _).symm▸?_;refine(Wi (W.done s _ _ hst (exS hS hbr) λs' hf ho=>?_):wpAny _ A.in1 (pyNext (.ref I)>>=_) _ _ s);exact W6 (hR s' acc c hf (ho.kp S _ (.head _) hS) hacc)
 | succ j ih =>
  intro i s acc c hk hi hst hbr hS hacc hR;have hlt:i<n:=Nat.lt_of_sub_eq_succ hk;have l1:acc.size+1<=sizeLine:=by rw[hacc.1,Xi];exact WL (WL hlt hn) (by decide)
  refine codeAny_builtin Y7 ?_;refine(Zm Xs _).symm▸?_;refine(Wi (W.item i s _ _ hlt hst (exS hS hbr) λs' hst' ho=>?_):wpAny _ A.in1 (pyNext (.ref I)>>=_) _ _ s);have hS':=ho.kp S _ (.head _) hS;refine Wi (Yu hS' rfl (W6 ⟨plainId_quiet Xs _,ih (i+1) _ (acc.push (.ref (it i))) _ (by rw[<- Nat.sub_sub,hk];rfl) hlt (W.frame _ s' _ hst' (In.one (tk:=s'.toks) ho.dr (Xr _ hS' rfl) λb o hb e=>(X9 _ _ (YN hb)).trans e)) ho.dr (Xr _ hS' rfl) (hacc.push rfl) hR⟩)
   (Nat.le_of_succ_le l1) (by show(acc.push _).size<=sizeLine+1;rw[Array.size_push];exact Wf l1))
theorem Ry(W:Wk WH w A.in1 I ⟨[S],[]⟩ n it Fin St)(hn:n<=1000)(res:WO){s:WQ}{V4:Nat}(hst:St 0 s)(hbr:X4 s.gens){g:Nat}(hg:s.heap.IsGen I g)(hI:I≠S)(hS:s.heap.get? S=some {cls:=.type "list",data:=.seq #[] V4})
 (hR:∀s' acc' c',Fin s'->s'.heap.get? S=some (lO acc' c')->aN (itP it) acc' n->R (.ok (.ret res)) s') :
 wpAny (model WH w) A.in1 (Yz (.ref S) (.ref I) res)
  (λfin s'=>match fin with|.done f=>R (.ok f) s'|.again c'=>c'.quiet=true/\codeAny (model WH w) A c' R s') (λe s'=>R (.error e) s') s:=by
 have hT:=hg.typeIs;refine Wi (wpAny_typeOf hT ?_);have h1:ZH (.ref S) (.ref I)=false:=by simp[ZH,YN hI]
 have h2:(Z6 "generator"==Z6 "list")=false:=by decide
 have h3:(Z6 "generator"==Z6 "tuple")=false:=by decide
 simp only[h1,h2,h3,Yn,Y5,if_false];refine Wi (Ym hg ?_);refine Wi (Zy ?_);refine Wi (wpAny_specialOf hT PySem.F.gen_no_len ?_);refine Wi (wpAny_specialOf hT PySem.F.gen_no_hint ?_);refine W6 ?_;refine Wi (wpAny_rule ?_);refine Wi ?_;refine Wi (Yu hS rfl ?_);have U2:=Xr (aR (·.push aQ)) hS rfl
 refine Yu (hz:=by seq_fits) U2 rfl ?_
 have Vd:=Xr (aR (·.pop)) U2 rfl
 refine W6 ⟨plainId_quiet Xs _,QE W hn res n 0 _ _ _ rfl (Wh _) (W.frame 0 s _ hst (In.one (tk:=s.toks) hbr Vd λb o hb e=>(X9 _ _ (YN hb)).trans ((X9 _ _ (YN hb)).trans e))) hbr Vd (ItemsOf.nil _) hR⟩
end
theorem QF{P:Pt}{h:Xy}(hq:∀q∈P.q,h.get? q=none):FY P h=[]:=by
 cases e:FY P h with
 | nil=>rfl
 | cons p r =>
  refine Az (BE.mp (show p∈FY P h by rw[e];exact .head _)) λh1 h2=>?_
  exact nS (hq _ h1) h2
theorem TW{it:Nat->Nat}{acc:Array WO}{L:List Nat}(h:aN (itP it) acc L.length)(hF:∀i j,L[i]?=some j->it i=j):A2 VR (L.map V.ref) acc.toList:=by
 have key:∀(is:List Nat) (vs:List WO),is.length=vs.length->(∀(i:Nat) (v:WO) (j:Nat),vs[i]?=some v->is[i]?=some j->v=aH j)->A2 VR (is.map V.ref) vs:=by
  intro is
  induction is with
  | nil=>intro vs h _;cases vs with
   | nil=>exact .nil
   | cons=>cases h
  | cons j r ih=>intro vs h hF;cases vs with
   | nil=>cases h
   | cons v vs =>
    obtain rfl:=hF 0 _ _ rfl rfl;exact .cons (.ref j) (ih vs (aD h) λi v j e1 e2=>hF (i+1) v j e1 e2)
 refine key L _ (h.1.symm.trans (Zu (xs:=acc)).symm) λi v j e1 e2=>?_;have:=h.2 i v (by exact Zb▸e1)
 exact(hF i j e2)▸this
section
variable{WH:Wm}{w:WW}{k:Ck}{K:Xb}{A:XG}{c:Cx}{m:W5->Option WO}{H:MH}{s s':WQ}{d:Nat}{T:Tr}{fd:Wp}{body:List Xj}{f I F g:Nat}{ρ:As}{L Fp:List Nat}{E:WO->WQ->Prop}{Q:WO->WQ->Prop}
theorem Gm.walk{P:Pt}{s1:WQ}{A':XG}(hh:A'.handled=none)(mb:8*A'.depth+A'.units+24*(d+2+sz T)<=7900)(B:Base k K c.UD)(Rl:Aa WH w c m H s)(M:Gm fd body f ρ s s' I F g)(W:GW WH w k K fd body f d T ρ L Fp)(gT:AS H T)(hg:P.g=[])(nd:P.q.Nodup)(hS:∀q∈P.q,s'.heap.get? q=none)(ex:Ex P s1)(u:Up s' s1) :
 ∃cg St,Wk WH w A' I P L.length (λi=>L.getD i 0) (Fg WH w cg P H Fp) St/\St 0 s1/\(∀p∈c.X,p.1∉P.q)/\c.L∉P.q/\∀s'',Fg WH w cg P H Fp s''->∃H',Aa WH w (c.pt P s''.heap) m H' s''/\Qt H H' Fp:=by
 refine AU λGG hG=>?_;refine x27 (Rl.made M) λobI obF gI hIs gF R1 nIL nFL nX=>?_;refine Aj M.ns λm0 hns l0=>?_;have ab:c.UD.objs.size<=F:=WL Rl.fr.above (WL (Xe Rl.nx.2.2) M.lF);refine Aj (R1.swap (gL:=F) (obL:=obF) (m':=m0) (X':=(I,obI)::c.X) (.tail _ (.head _)) hns ab λp hp=>(mcP hp).elim (λe=>by subst e;exact⟨.head _,M.ne⟩) λhp=>⟨.tail _ (.tail _ hp),(nX p hp).2⟩) λoL hL R2=>?_
 refine hG ?_;clear hG GG;have nS':∀{x o},s'.heap.get? x=some o->x∉P.q:=λe z=>nS (hS _ z) e;have cX:∀p∈(c.L,oL)::(I,obI)::c.X,p.1∉P.q:=by
  obtain⟨D,WI,N,L'⟩:=R2.led;exact λp hp=>nS' (N p (L'.xs p hp).1).1
 have pok:SJ (P.add g) (c.lx F ((c.L,oL)::(I,obI)::c.X)):=⟨nd,cX,nS' gF,λx hx=>by
  refine(show x=g from(mcP hx).resolve_right (by rw[hg];exact W0)).symm▸?_
  cases q:c.gs[g]? with
  | none=>rfl
  | some st=>exact absurd (W7.mp (Rl.gs g st q)).1 (M.gn▸XN _)⟩
 have R3:Aa WH w ((c.lx F ((c.L,oL)::(I,obI)::c.X)).pt P s1.heap) m0 H s1:=by
  refine Aa.re0 (P:=P.add g) (s:=s') ?_ pok (λb o U e=>u.kp b o e) (λk st U e=>u.gs k st e) u.dr u.os
  show Aa WH w ((c.lx F ((c.L,oL)::(I,obI)::c.X)).x (FY P s'.heap++_)) m0 H s'
  exact(QF hS).symm▸R2
 refine Aj (W A' (c.lx F ((c.L,oL)::(I,obI)::c.X)) P m0 H s1 I g obI hh mb B (u.gs _ _ M.st) (u.kp _ _ gI) hIs (.tail _ (.head _)) pok (by rw[hg];exact W0) (by rw[hg];exact λU z=>nomatch z) ex R3 l0 gT) λSt W' st0=>?_
 refine⟨_,St,W',st0,λp hp=>cX p (.tail _ (.tail _ hp)),cX _ (.head _),λs'' hf=>?_⟩;obtain⟨m',H',R',q'⟩:=hf;obtain⟨D,WI,N,L'⟩:=R'.led;have gL:=N.get (L'.xs _ (WP _ (.head _))).1;have hn:s''.heap.Ns c.L m:=(Rl.fr.ns.at' λo e=>M.up.kp _ o e).at' λo e=>by obtain rfl:=WT (hL.symm.trans e);exact gL
 refine Aj (R'.swap (gL:=c.L) (obL:=oL) (m':=m) (X':=FY P s''.heap++c.X) (WP _ (.head _)) hn Rl.fr.above λp hp=>?_) λoF U R5=>⟨H',R5.dropX' λp hp=>.tail _ hp,q'⟩;rcases maP hp with hp|hp
 ·exact⟨WR _ hp,λz=>cX _ (.head _) (z▸(BE.mp hp).1)⟩
 ·exact⟨WP _ (.tail _ (.tail _ hp)),(Rl.nx.2.1 p hp).2⟩
theorem LE(hh:A.handled=none)(mb:8*A.depth+A.units+24*(d+2+sz T)+2<=7900)(B:Base k K c.UD)(Rl:Aa WH w c m H s)(M:Gm fd body f ρ s s' I F g)(W:GW WH w k K fd body f d T ρ L Fp)(gT:AS H T)(hl:L.length<=1000)
 (q:∀l H' s'',Aa WH w c m (H'.put l (.list (L.map .ref))) s''->Qt H H' Fp->H' l=none->Q (.ref l) s''):wpAny (model WH w) A (Xp (.type "list") [.ref I]) Q E s':=by
 refine Aj M.gI λobI gI hIs=>?_;have hgn:=hIs _ gI;have hI:I≠s'.heap.objs.size:=Xw (Wn gI);have hS0:(s'.heap.push {cls:=.type "list",data:=.seq #[]}).get? s'.heap.objs.size=some {cls:=.type "list",data:=.seq #[]}:=Xc _ rfl;refine SV (Gm.walk (A':=A.in1.in1) (P:=⟨[s'.heap.objs.size],[]⟩) (s1:={s' with heap:=s'.heap.push {cls:=.type "list",data:=.seq #[]}}) hh (d2 mb) B Rl M W gT rfl (ncR ⟨W0,YH⟩) (λq hq=>by rw[msP hq];exact MT (WY _)) ⟨λq hq=>by rw[msP hq];exact⟨_,hS0⟩,M.up.dr⟩ ⟨λb o e=>Wv _ e,λU U e=>e,M.up.dr,rfl⟩) λcg St W hst nX nL back=>?_
 refine callType_codes (Q₁:=λobj UH=>obj=.ref s'.heap.objs.size/\UH={s' with heap:=s'.heap.push {cls:=.type "list",data:=.seq #[]}}) PySem.F.called_list (PySem.F.typeCall_list_1 _) PySem.F.entry_list_init
  (code_list_new _ ⟨rfl,rfl⟩) λobj UH UX=>?_
 obtain⟨rfl,rfl⟩:=UX;have hS:(s'.heap.push {cls:=.type "list",data:=.seq #[]}).get? s'.heap.objs.size=some {cls:=.type "list",data:=.seq #[]}:=Xc _ rfl;refine⟨⟨_,hS,rfl⟩,PySem.F.args_list_init_2 _ _,?_⟩;have hgn1:({s' with heap:=s'.heap.push {cls:=.type "list",data:=.seq #[]}}:WQ).heap.IsGen I g:=hgn.push _
 have hb1:X4 ({s' with heap:=s'.heap.push {cls:=.type "list",data:=.seq #[]}}:WQ).gens:=M.up.dr
 generalize hs1:({s' with heap:=s'.heap.push {cls:=.type "list",data:=.seq #[]}}:WQ)=s1 at hst hgn1 hb1 back ⊢
 have hS:s1.heap.get? s'.heap.objs.size=some {cls:=.type "list",data:=.seq #[]}:=by exact hs1▸hS
 refine(Wi ?_:wpAny _ A.in1.in1 (do let old <- Builtin.List.listItems (.ref s'.heap.objs.size);Builtin.List.listUpdate (.ref s'.heap.objs.size) (λU=>#[]);letGo old.toList.reverse;Yz (.ref s'.heap.objs.size) (.ref I) .none) _ _ s1)
 refine Wi (wpAny_seqItems hS rfl (W6 ?_));refine Wi (Yu hS rfl ?_);have U2:=Xr (aR (λU=>(#[]:Array WO))) hS rfl;refine Wi (wpAny_letGo ?_);refine Ry W hl .none (W.frame 0 s1 _ hst (In.one (tk:=s1.toks) hb1 U2 λb o hb e=>(X9 _ _ (YN hb)).trans e)) hb1 (hgn1.sameBut (Heap.SameBut.update ..) hI) hI U2 λs2 acc' c' hf hS' hacc=>?_;refine Aj (back s2 hf) λH' R0 q'=>?_;have R':Aa WH w (c.x ((s'.heap.objs.size,lO acc' c')::c.X)) m H' s2:=R0.dropX' λp hp=>(mcP hp).elim (λe=>by subst e;exact WR _ (BE.mpr ⟨.head _,hS'⟩)) λhp=>WP _ hp
 refine⟨rfl,?_⟩;refine Az (R'.adopt (o:=.list (L.map .ref)) (λp hp z=>nX p hp (z▸.head _)) ⟨acc'.toList,c',rfl,TW hacc λi j hj=>by show L.getD i 0=j;rw[Y4,hj];rfl⟩) λR3 hn=>?_
 exact q _ H' s2 R3 q' hn
end
section
variable{WH:Wm}{w:WW}{k:Ck}{K:Xb}{A:XG}{c:Cx}{m:W5->Option WO}{H:MH}{s:WQ}{env:Zp}{κ:Kp}{sc:XB}{fd:Wp}{body:List Xj}{Er:WO->WQ->Prop}
section
variable{a la wa i t:Nat}{elt:Expr}
theorem QG(F:KF K k.isAttr)(hat:k.isAttr DB=true)(B:Base k K c.UD)(G:Jg K CH Br fd body)(Pl:E7 k Br fd body)(hd:8*A.depth+A.units+24<=7900)(O:EO env c.L κ sc)(R:Aa WH w c m H s)(ha:H a=some (.inst .Leaf (Ch la wa i t)))
 (hm:m (nm FD)=some (.ref a))(ho:okLt sc elt=true):wpAny (model WH w) A (eval elt env) (λy s2=>y=.ref t/\Up s s2) Er s:=by
 refine AU λGG hG=>?_;refine x09 (an9 ho) λo1 o2 o3 o4 o5 o6 o7 o8 o9=>?_;refine GJ (AP o1) λf xs kws p u=>?_;obtain rfl:=u;refine Fu (AP (x:=f) o2) λov z ap u=>?_;obtain rfl:=u;cases(eq_of_beq o3:z=_)
 cases(Ae o8:xs=[])
 cases(Ae o9:kws=[])
 obtain⟨⟨p',e⟩,o10⟩:=DK (x:=ov) o7;cases e
 refine Fu G.at_ λoc od osl hf=>?_;have X:=B.kin.keeps R.fr.keep;refine SD (Id (s:=s) (vs:=[.ref a]) (ys:=[.ref a]) (us:=[]) (zs:=[]) X G.p1 G.p2 G.p3 G.p4 G.pn G.df (.cons (.ref a) .nil) .nil (ρ:=[(AA,.ref a)]) rfl) λbinds sl hsl hkr hbind U=>?_;refine Az (Gq hkr hsl G.nd) λhnd hin=>?_;refine hG ?_;clear hG GG;refine Xh (YV (XH (by rw[O.isc];exact O.ikd) (by unfold Xa;rw[O.isc];exact o10) (by rw[O.ilo];exact R.fr.ns) hm ?_) (Dy _)) (ET (k:=k) (sc:=sc) (es:=[]) (ks:=[]) o4 o5 (by decide) rfl rfl)
 refine KY (G:=λf'=>f'=CH) F B.kin R (.ref a) ⟨.Leaf,_,ha,rfl,rfl⟩ λf' hkf z=>?_;subst z;refine callWith_K0 X hkf (Yi ?_);refine codeAny_call_def (fd:=fd) (body:=body) (binds:=binds) (dl hd) (X _ _ hf) rfl (B.lim.keeps R.fr.keep) (ZV X G.code) G.body hbind Pl.nocell (λx hx=>by refine Aj (hin x hx) λp hp e=>?_;exact e.symm▸Pl.loc p hp) (λUX hns hk=>?_) G.co G.gen G.kind
 refine Aj (R.enter (t:=s.toks+binds.length) hk hns) λoL UP U=>?_;have hlo:=MQ hkr hnd;have ok:=Pl.ok;obtain⟨y,rfl,oy⟩:∃y,body=[y]/\okS k fd.scope (.ret (.attr (.var AA) DB)) y=true:=by
  match body,ok with
  | [y],h=>exact⟨y,rfl,(an h).1⟩
  | [],h=>exact zT h
  | _::_::_,h=>exact zT (an h).2
 refine Az (an oy) λy1 y2=>?_;refine HI (BI y1) λv p z=>?_;obtain rfl:=z;refine Aj (Do (l:=v) y2) λx e hx=>?_;subst e;refine Nk (QJ hx) λa1 a2 a3 a4 a5=>?_;refine Fu (AP a1) λov z p u=>?_;obtain rfl:=u;cases(eq_of_beq a2:z=_)
 obtain⟨⟨p'',e⟩,a6⟩:=DK (x:=ov) a5;cases e
 refine Aj (hlo AA _ rfl) λu hu ru=>?_;cases ru
 refine wpAny_execs_cons (wpAny_Return_some (Attribute_any_ (YV (XH (by exact G.kind) (by exact a6) (by exact UP.fr.ns) hu ?_) (Dy _)) ?_))
 ·refine AU λGG hG=>?_;refine x45 (UP.inst ha) λD WI es k' N L I hd' h3=>?_;refine x15 (F.attr .Leaf DB hat) λat' f1 f2 f5 f3 f4=>?_;refine Aj (ER.get (x:=DB) h3) λg hg r=>?_;refine hG ?_;cases g with
  | none=>exact r.elim
  | some y =>
   cases(show VR (.ref t) y from r)
   exact get_own UP.fr B.kin I (F.pget .Leaf _) (F.hdic .Leaf) f1 f2 hg rfl ⟨rfl,hk,λU U e=>e,R.dr,rfl⟩
 ·rfl
end
inductive TmI (ps:List (Nat×(Nat×Nat))) (P:Pt) (UI UN:XQ) (St:Nat->WQ->Prop) (n:Nat) (s:WQ):Prop
 | mk (i:Nat) (mC:W5->Option WO) (nn:Nat) (hn:n=ps.length-i) (hi:i<=ps.length) (st:St i s) (ex:Ex P s) (ns:s.heap.Ns UI mC) (d:s.heap.get? UN=some (FV ((ps.take i).map λp=>.ref p.2.1) nn)):TmI ps P UI UN St n s
theorem Up.inn{P:Pt}{s s':WQ}(u:Up s s')(ex:Ex P s):In P s s':=⟨λq hq=>CT (ex.1 q hq) λo e=>⟨o,u.kp _ _ e⟩,λb o U e=>u.kp b o e,λk st U e=>u.gs k st e,u.dr,u.os,gsz u.gs⟩
theorem In.set{P:Pt}{s:WQ}{S:XQ}{h':Xy}{t:Nat}{o':Yx}(hS:S∈P.q)(ex:Ex P s)(hs:YO S s.heap h')(ho:h'.get? S=some o'):In P s {s with heap:=h',toks:=t} :=
 ⟨λq hq=>by
  by_cases z:q=S
  ·exact⟨o',z▸ho⟩
  ·exact CT (ex.1 q hq) λo e=>⟨o,hs.extBut q o z e⟩,λb o hb e=>hs.extBut b o (λz=>hb (z▸hS)) e,λU U U e=>e,ex.2,rfl,WY _⟩
section
variable{s':WQ}{d:Nat}{T:Tr}{fdl:Wp}{bodyl:List Xj}{f I F g:Nat}{ρ:As}{Q:V->MH->Prop}{X:TmX}
theorem TX(Fk:KF K k.isAttr)(hat:k.isAttr DB=true)(B:Base k K c.UD)(G:Jg K CH Br fdl bodyl)(Pl:E7 k Br fdl bodyl)(hh:A.handled=none)(mb:8*A.depth+A.units+24*(d+2+sz T)<=7900)(O:EO env c.L κ sc)(hX:TD sc env X)(Rl:Aa WH w c m H s)(M:Gm fd body f ρ s s' I F g)
 (W:GW WH w k K fd body f d T ρ ((lf T).map (·.1)) [])(gT:AS H T)(hl:(lf T).length<=1000)(q:∀l H',Qt H H' []->H' l=none->Q (.ref l) (H'.put l (.list ((lf T).map λp=>.ref p.2.1)))):TmB WH w A env Er X (PE WH w c m Q) (.ref I) s':=by
 refine Aj M.gI λobI gI hIs=>?_;refine Ym (hIs _ gI) (YG (Yr hX.s.nc (by intro y hy;nomatch hy) (λUX hns hsb=>?_) hX.s.kd))
 have sz1:(s'.heap.push {cls:=.type "list",dict:=none,data:=.seq ([]:List WO).toArray}).objs.size=s'.heap.objs.size+1:=Heap.size_push ..
 generalize hC:(s'.heap.push {cls:=.type "list",dict:=none,data:=.seq ([]:List WO).toArray}).objs.size=UI at hns hsb sz1
 have hD:=Xc s'.heap (o:={cls:=.type "list",dict:=none,data:=.seq ([]:List WO).toArray}) rfl;have up1:∀b o,(s'.heap.push {cls:=.type "list",dict:=none,data:=.seq ([]:List WO).toArray}).get? b=some o->UX.get? b=some o:=λb o e=>hsb.extBut b o (λz=>XN _ (hC▸z▸Wn e)) (Wv _ e);have hDC:s'.heap.objs.size≠UI:=by rw[sz1];exact Xw (Xl _)
 refine MX (id hns) λoC U U gC U=>?_;have exP:Ex ⟨[UI,s'.heap.objs.size],[]⟩ {s' with heap:=UX,toks:=s'.toks+([]:List (W5×WO)).length}:=⟨λq hq=>(mcP hq).elim (λe=>⟨oC,e▸gC⟩) λhq=>(by rw[msP hq];exact⟨_,up1 _ _ hD⟩),M.up.dr⟩
 refine SV (Gm.walk (A':=A) (P:=⟨[UI,s'.heap.objs.size],[]⟩) hh mb B Rl M W gT rfl (ncR ⟨λz=>hDC (msP z).symm,ncR ⟨W0,YH⟩⟩) (λq hq=>MT ((mcP hq).elim (λe=>by rw[e,sz1];exact X3 _) λhq=>by rw[msP hq];exact WY _)) exP ⟨λb o e=>up1 b o (Wv _ e),λU U e=>e,M.up.dr,rfl⟩) λcg St W' st0 nX nL back=>?_
 have ab:c.UD.objs.size<=UI:=by
  refine CT Rl.lo λoL hL=>?_;rw[sz1];exact WL Rl.fr.above (Wf (Xe (Wn (M.up.kp _ _ hL))))
 have O':EO (compEnvC X.scope X.cl UI env) UI κ (rl X.scope sc):=O.comp hX.s hX.c;have hk:(compEnvC X.scope X.cl UI env).kindOf (nm FD)=some .local:=by unfold Xa;exact O'.isc.symm▸OJ O hX.s.hx
 have hp:((compEnvC X.scope X.cl UI env).scope.kind==.class||((compEnvC X.scope X.cl UI env).scope.kind==.module&&(compEnvC X.scope X.cl UI env).locals !=(compEnvC X.scope X.cl UI env).globals))=false:=by rw[O'.isc,O'.ikd];rfl
 generalize hD1:s'.heap.objs.size=UN at hDC sz1 hD exP W' st0 nX nL back ⊢
 have loop:codeAny (model WH w) A (.compLoop (.ListComp X.elt [⟨.Name (nm FD) X.px,X.iter,[],0⟩] X.scope X.pos) 0 (.ref I) (.ref UN) (compEnvC X.scope X.cl UI env)) (compPost (model WH w) A Er none (PE WH w c m Q) (.ref UN) UI) {s' with heap:=UX,toks:=s'.toks+([]:List (W5×WO)).length}:=by
  refine codeAny_compLoop_list (TmI (lf T) ⟨[UI,UN],[]⟩ UI UN St) (λn s5 inv=>?_) (lf T).length ⟨0,_,0,rfl,Wh _,st0,exP,hns,up1 _ _ hD⟩;refine AU λGG hG=>?_;obtain⟨i,mC,nn,hn,hi,st,ex,ns,hd⟩:=inv;refine hG ?_;clear hG GG;by_cases hlt:i<(lf T).length
  ·have hp1:((lf T).map (·.1)).getD i 0=((lf T)[i]).1:=by simp[hlt]
   refine W'.item i s5 _ _ (by rw[WS];exact hlt) st ex λs1 st1 o1=>?_
   have mem:(lf T)[i]∈lf T:=List.getElem_mem hlt
   generalize hpp:(lf T)[i]=p at hp1 mem
   refine hp1.symm▸?_;have ex1:=o1.ex ex;have ns1:s1.heap.Ns UI mC:=ns.at' λo e=>o1.kp UI o (.head _) e;have d1:=o1.kp UN _ (.tail _ (.head _)) hd;refine Xx (Yf hk ns1 (λh' hn2 hs=>?_) hp);refine MX (id hn2) λoC2 U U gC2 U=>?_;have I2:In ⟨[UI,UN],[]⟩ s1 {s1 with heap:=h',toks:=s1.toks+1}:=In.set (.head _) ex1 hs gC2
   have st2:=W'.frame _ _ _ st1 I2;refine Aj (back _ (W'.fin _ _ st2)) λH' R' q'=>?_;refine Aj (R'.swap (gL:=UI) (obL:=oC2) (m':=_) (X':=c.X) (WR _ (BE.mpr ⟨.head _,gC2⟩)) hn2 ab λp hp=>⟨WP _ hp,λz=>nX p hp (z▸.head _)⟩) λoL U R2=>?_;have hrep:=(Hp (q'.rp _ gT.rep) p mem).1;refine Fu hrep λla wa i' ha=>?_;refine th (QG (c:=c.lx UI ((c.L,oL)::c.X)) Fk hat B G Pl (WL (Wj (XJ 24 (WL (Xk (Wh _)) (WZ (d+2) (sz T)))) _) mb:8*A.depth+A.units+24<=7900) O' R2 ha (if_pos rfl) hX.e) λy s3 hy=>?_;obtain⟨rfl,u⟩:=hy;have I3:=u.inn I2.ex;have d3:=u.kp _ _ (hs.extBut UN _ hDC d1);refine append_at (its:=((lf T).take i |>.map λp=>aH p.2.1).toArray) (n:=nn) d3 (λh'' hs2 ho2=>?_) (by rw[Wr,WS,List.length_take,Xi];exact WL (Nat.min_le_right _ _) (WL hl (by decide)))
   have I4:In ⟨[UI,UN],[]⟩ s3 {s3 with heap:=h''}:=In.set (t:=s3.toks) (.tail _ (.head _)) I3.ex hs2 ho2
   refine⟨(lf T).length-(i+1),ozD hn hlt,i+1,_,nn+1,rfl,hlt,W'.frame _ _ _ st2 (I3.trans I4),I4.ex,(hn2.at' λo e=>u.kp _ o e).at' λo e=>hs2.extBut UI o (YN hDC) e,?_⟩;rw[List.take_add_one,Wu hlt,hpp];rw[ho2];simp
  ·have e:i=(lf T).length:=ozE hi hlt;subst e;refine W'.done s5 _ _ (by rw[WS];exact st) ex λs1 hf o1=>?_
   dsimp only;have ns1:s1.heap.Ns UI mC:=ns.at' λo e=>o1.kp UI o (.head _) e;have d1:=o1.kp UN _ (.tail _ (.head _)) hd;refine MX (id ns1) λoC2 U U gC2 U=>?_;refine⟨mC,ns1,λh' hs=>?_⟩;refine Aj (back _ hf) λH' R' q'=>?_;have R2:Aa WH w (c.x ((UI,oC2)::(UN,FV (((lf T).take (lf T).length).map λp=>.ref p.2.1) nn)::c.X)) m H' s1:=R'.dropX' λp hp=>(mcP hp).elim (λe=>by subst e;exact WR _ (BE.mpr ⟨.head _,gC2⟩)) λhp=>(mcP hp).elim (λe=>by subst e;exact WR _ (BE.mpr ⟨.tail _ (.head _),d1⟩)) λhp=>WP _ hp
   have R3:=Aa.drop (t:=s1.toks) (c:=c.x ((UN,FV (((lf T).take (lf T).length).map λp=>.ref p.2.1) nn)::c.X)) R2 (λp hp=>(mcP hp).elim (λe=>by subst e;exact hDC) λhp z=>nX p hp (z▸.head _)) hs
   rw[ZM] at R3;refine Az (R3.adopt (o:=.list ((lf T).map λp=>.ref p.2.1)) (λp hp z=>nX p hp (z▸.tail _ (.head _))) ⟨_,_,rfl,?_⟩) λR4 hnn=>⟨_,_,.ref UN,R4,q UN H' q' hnn⟩
   generalize lf T=ps
   induction ps with
   | nil=>exact .nil
   | cons p r ih=>exact .cons (.ref _) ih
 exact ZU loop (Ym (hIs _ (up1 _ _ (Wv _ gI))) loop)
end
theorem OQ{H:MH}:∀{l:List (Nat×Nat)},(∀p∈l,H p.1=some (.tup [.str 8,.str p.2]))->MW H ((l.map (·.1)).map .ref) (tms (l.map (·.2)))
 | [],_=>.nil
 | p::r,h=>.cons (h p (.head _)) (OQ λq hq=>h q (.tail _ hq))
theorem Jt{α:Type}{A:D}{x:Int}{l:List α}:(hdI A x l).length<=l.length:=by
 by_cases h:Hd A x
 ·rw[E8 h];exact WY _
 ·rw[Ii h];exact Wh _
theorem Hq(x:Int):∀T:Tr,(mt x T).length<=sz T
 | .null _=>Wh _
 | .leaf _ _ _ _ _ _=>Jt
 | .bin _ _ A B=>WL Jt (by have:=Hq x A;have:=Hq x B;rw[Ws];show _<=sz A+sz B+1;omega)
 | .una _ _ A=>WL Jt (by have:=Hq x A;show _<=sz A+1;omega)
 | .req _ _ A B=>WL Jt (by have:=Hq x A;have:=Hq x B;rw[Ws];show _<=sz A+sz B+2;omega)
theorem JG:∀T:Tr,(lf T).length<=sz T
 | .null _=>Wh _
 | .leaf _ _ _ _ _ _=>WY _
 | .bin _ _ A B=>by have:=JG A;have:=JG B;show(lf A++lf B).length<=sz A+sz B+1;rw[Ws];omega
 | .una _ _ A=>by have:=JG A;show(lf A).length<=sz A+1;omega
 | .req _ _ A B=>by have:=JG A;have:=JG B;show(lf A++lf B).length<=sz A+sz B+2;rw[Ws];omega
noncomputable def ivOf:List V->V
 | []=>.none
 | v::_=>v
theorem TY{H:MH}{T:Tr}{i:List V}{ts:List Nat}(g:AS H T)(h:MtOk T i ts):∃Ls,MtL T (ivOf i) Ls/\ts=Ls.map (·.2)/\Ls.length<=sz T/\LG iMT.pars iMT.dflt (.ref T.addr::i) []=some [(AA,.ref T.addr),(Ag,ivOf i)]/\∀H',BB H' T->∀p∈Ls,H' p.1=some (.tup [.str 8,.str p.2]):=by
 have hd:∀{x},Hd T.den x->T.den x=some ts->ts=(mt x T).map (·.2):=λhx e=>WT (e.symm.trans (JE g hx))
 match i,h with
 | [],h =>
  by_cases a:Av T.den
  ·refine CT (a.hd g.ok.bd) λx hx=>?_;exact⟨mt x T,⟨λy hy=>by exact(hy.uniq hx)▸rfl,λz=>absurd a z⟩,hd hx (h.1 x hx),Hq x T,rfl,λH' r=>Ho r⟩
  ·exact⟨[],⟨λx hx=>absurd hx.act a,λU=>rfl⟩,h.2 a,Wh _,rfl,λU U U z=>nomatch z⟩
 | [.int x],h =>
  refine⟨mt x T,rfl,?_,Hq x T,rfl,λH' r=>Ho r⟩;by_cases hx:Hd T.den x
  ·exact hd hx (h.1 hx)
  ·rw[La hx];exact h.2 hx
section
variable{d:Nat}{T:Tr}{fdt fdl:Wp}{bodyt bodyl:List Xj}{Q:V->MH->Prop}{X:TmX}{ts:List Nat}{i:List V}{ys:List WO}
theorem TZ(F:KF K k.isAttr)(ih:SI WH w k K (call (d+1)) (d+1))(con:∀T,sz T<=24->GL (d+1) T)(G:JF K AF iMT fd body)(sh:MtSh k fd.scope body)(hh:A.handled=none)(mb:8*A.depth+A.units+24*(d+1+2+24)+2<=7900)(B:Base k K c.UD)(R:Aa WH w c m H s)(g:AS H T)(hz:sz T<=24)(hi:MtOk T i ts)(r:A2 VR i ys)
 (q:∀v H',Qt H H' (fp T)->TL H' v ts->Q v H'):codeAny (model WH w) A (.call (.ref AF) ⟨.ref T.addr::ys,[]⟩) (wants (λz s'=>wpAny (model WH w) A (Xp (.type "list") [z]) (PE WH w c m Q) Er s') Er) s:=by
 refine AU λGG hG=>?_;refine x15 (TY g hi) λLs h1 y h3 h4 h5=>?_;obtain rfl:=y;refine hG ?_;have mb':8*A.depth+A.units+24*(d+1+2+sz T)+2<=7900:=WL (Wo (Wj (m24 (Wj hz _)) _) 2) mb;refine Kt (WL (Wj (XJ 24 (WL (Xk (Wh _)) (WZ (d+1+2) 24))) _) (WL (WZ _ 2) mb):8*A.depth+A.units+24<=7900) G B R (.cons (.ref _) r) h4 λI Fr gn s' M=>?_;refine LE hh mb' B R M (mt_gw F ih con G sh 24 T hz (WY _) _ Ls h1) g (by rw[WS];exact WL h3 (WL hz (by decide))) λl H' s'' R' q' hn=>⟨_,_,.ref l,R',?_⟩
 have f0:=Ao.new0 (o:=.list ((Ls.map (·.1)).map .ref)) hn
 exact q _ _ (q'.trans (.nil f0)) ⟨l,_,rfl,AE _ _ _,OQ λp hp=>f0.l (h5 _ (q'.rp _ g.rep) p hp)⟩
theorem Ta(F:KF K k.isAttr)(hat:k.isAttr DB=true)(ih:SI WH w k K (call (d+1)) (d+1))(G:JF K AG iTM fdt bodyt)(sh:TmSh k fdt.scope bodyt)(Gl:Jg K CH Br fdl bodyl)(Pl:E7 k Br fdl bodyl)(hh:A.handled=none)(mb:8*A.depth+A.units+24*(d+1+2+24)+2<=7900)(B:Base k K c.UD)(O:EO env c.L κ sc)(hX:TD sc env X)(R:Aa WH w c m H s)(g:AS H T)(hz:sz T<=24)
 (q:∀v H',Ao H H' []->TL H' v (Mine.sc T)->Q v H'):codeAny (model WH w) A (.call (.ref AG) ⟨[.ref T.addr],[]⟩) (wants (TmB WH w A env Er X (PE WH w c m Q)) Er) s:=by
 have mb':8*A.depth+A.units+24*(d+1+2+sz T)<=7900:=WL (Wj (m24 (Wj hz _)) _) (WL (WZ _ 2) mb);refine Kt (WL (Wj (XJ 24 (WL (Xk (Wh _)) (WZ (d+1+2) 24))) _) (WL (WZ _ 2) mb):8*A.depth+A.units+24<=7900) G B R (.cons (.ref _) .nil) (ρ:=[(AA,.ref T.addr)]) rfl λI Fr gn s' M=>?_;refine TX F hat B Gl Pl hh mb' O hX R M (tm_gw F ih G sh 24 T hz) g (WL (JG T) (WL hz (by decide))) λl H' q' hn=>?_
 have f0:=Ao.new0 (o:=.list ((lf T).map λp=>.ref p.2.1)) hn;refine q _ _ (q'.fr.trans f0) ⟨l,_,rfl,AE _ _ _,?_⟩;have:=OQ (H:=H'.put l (.list ((lf T).map λp=>.ref p.2.1))) (l:=(lf T).map (·.2)) λp hp=>by
  refine Aj (Xd.mp hp) λp' hp' z=>?_;obtain rfl:=z;exact f0.l (Hp (q'.rp _ g.rep) p' hp').2
 rw[Xf,Xf,Xf] at this;rw[Lb];exact this
end
end
end Mine
end
section
namespace Mine.Hd
open PySem PySem.W PySem.Calls PyProof.Rows
noncomputable def Kas:List Addr:=[206,276,430,491,531,607,679,778,912,1016,1163,1241,1347,1430,1485,205,275,429,490,530,606,678,777,911,1015,1162,1240,1346,1429,1484,75,82,90,104,112,231,252,285,300,307,321,328,343,357,378,406,420,446,460,481,507,547,555,562,569,576,583,624,633,648,662,696,704,718,726,733,740,747,761,775,795,803,817,824,831,846,853,874,881,888,928,935,949,956,963,970,977,985,1033,1054,1062,1069,1083,1097,1111,1118,1139,1182,1203,1210,1217,1224,1260,1274,1281,1302,1309,1323,1330,1363,1385,1392,1447,1461,1468,1492,1497,1502,1507,1514,1519,2,74,81,83,89,103,105,111,230,251,284,293,299,306,320,327,336,342,356,377,405,419,445,459,480,506,546,548,554,561,568,575,582,623,625,632,613,641,647,661,695,703,685,717,719,725,732,739,746,760,774,794,802,784,816,823,830,839,845,852,873,880,887,927,934,948,955,962,969,976,978,984,1026,1032,1053,1055,1061,1068,1082,1096,1110,1117,1138,1174,1181,1169,1202,1209,1216,1223,1252,1259,1247,1273,1280,1301,1308,1322,1329,1362,1378,1384,1391,1440,1446,1460,1467,1491,1496,1501,1506,1513,1518]
def Kx(P:Wg):Frag:=[(206,o1052),(276,o279),(430,o438),(491,o807),(531,o944),(607,o630),(679,o700),(778,o802),(912,o939),(1016,o1046),(1163,o1478),(1241,o1278),(1347,o1387),(1430,o1473),(1485,o1531),(205,o205 P),(275,o278 P),(429,o437 P),(490,o502 P),(530,o545 P),(606,o624 P),(678,o699 P),(777,o801 P),(911,o938 P),(1015,o1045 P),(1162,o1196 P),(1240,o1277 P),(1346,o1386 P),(1429,o1472 P),(1484,o1530 P),(75,o75),(82,o82),(90,o90),(104,o104),(112,o112),(231,o234),(252,o255),(285,o290),(300,o308),(307,o315),(321,o329),(328,o336),(343,o351),(357,o365),(378,o386),(406,o414),(420,o428),(446,o458),(460,o472),(481,o493),(507,o522),(547,o565),(555,o573),(562,o580),(569,o587),(576,o594),(583,o601),(624,o645),(633,o654),(648,o669),(662,o683),(696,o720),(704,o728),(718,o742),(726,o750),(733,o757),(740,o764),(747,o771),(761,o785),(775,o799),(795,o822),(803,o830),(817,o844),(824,o851),(831,o858),(846,o873),(853,o880),(874,o901),(881,o908),(888,o915),(928,o958),(935,o965),(949,o979),(956,o986),(963,o993),(970,o1000),(977,o1007),(985,o1015),(1033,o1067),(1054,o1088),(1062,o1096),(1069,o1103),(1083,o1117),(1097,o1131),(1111,o1145),(1118,o1152),(1139,o1173),(1182,o1219),(1203,o1240),(1210,o1247),(1217,o1254),(1224,o1261),(1260,o1300),(1274,o1314),(1281,o1321),(1302,o1342),(1309,o1349),(1323,o1363),(1330,o1370),(1363,o1406),(1385,o1428),(1392,o1435),(1447,o1493),(1461,o1507),(1468,o1514),(1492,o1541),(1497,o1548),(1502,o1555),(1507,o1562),(1514,o1571),(1519,o1578),(2,o30 P),(74,o74),(81,o81),(83,o83),(89,o89),(103,o103),(105,o105),(111,o111),(230,o233),(251,o254),(284,o289),(293,o301),(299,o307),(306,o314),(320,o328),(327,o335),(336,o344),(342,o350),(356,o364),(377,o385),(405,o413),(419,o427),(445,o457),(459,o471),(480,o492),(506,o521),(546,o564),(548,o566),(554,o572),(561,o579),(568,o586),(575,o593),(582,o600),(623,o644),(625,o646),(632,o653),(613,o634),(641,o662),(647,o668),(661,o682),(695,o719),(703,o727),(685,o709),(717,o741),(719,o743),(725,o749),(732,o756),(739,o763),(746,o770),(760,o784),(774,o798),(794,o821),(802,o829),(784,o811),(816,o843),(823,o850),(830,o857),(839,o866),(845,o872),(852,o879),(873,o900),(880,o907),(887,o914),(927,o957),(934,o964),(948,o978),(955,o985),(962,o992),(969,o999),(976,o1006),(978,o1008),(984,o1014),(1026,o1060),(1032,o1066),(1053,o1087),(1055,o1089),(1061,o1095),(1068,o1102),(1082,o1116),(1096,o1130),(1110,o1144),(1117,o1151),(1138,o1172),(1174,o1211),(1181,o1218),(1169,o1206),(1202,o1239),(1209,o1246),(1216,o1253),(1223,o1260),(1252,o1292),(1259,o1299),(1247,o1287),(1273,o1313),(1280,o1320),(1301,o1341),(1308,o1348),(1322,o1362),(1329,o1369),(1362,o1405),(1378,o1421),(1384,o1427),(1391,o1434),(1440,o1486),(1446,o1492),(1460,o1506),(1467,o1513),(1491,o1540),(1496,o1547),(1501,o1554),(1506,o1561),(1513,o1570),(1518,o1577)]
noncomputable def clNx:Cl->W5
 | .Base=>⟨#[77,97,116,99,104,101,114]⟩
 | .Null=>⟨#[78,117,108,108,77,97,116,99,104,101,114,67,108,97,115,115]⟩
 | .Leaf=>⟨#[76,105,115,116,77,97,116,99,104,101,114]⟩
 | .Bi=>⟨#[66,105,77,97,116,99,104,101,114]⟩
 | .Add=>⟨#[65,100,100,105,116,105,118,101,66,105,77,97,116,99,104,101,114]⟩
 | .Union=>⟨#[85,110,105,111,110,77,97,116,99,104,101,114]⟩
 | .DMax=>⟨#[68,105,115,106,117,110,99,116,105,111,110,77,97,120,77,97,116,99,104,101,114]⟩
 | .Inter=>⟨#[73,110,116,101,114,115,101,99,116,105,111,110,77,97,116,99,104,101,114]⟩
 | .AndNot=>⟨#[65,110,100,78,111,116,77,97,116,99,104,101,114]⟩
 | .AndMaybe=>⟨#[65,110,100,77,97,121,98,101,77,97,116,99,104,101,114]⟩
 | .Wrap=>⟨#[87,114,97,112,112,105,110,103,77,97,116,99,104,101,114]⟩
 | .Filter=>⟨#[70,105,108,116,101,114,77,97,116,99,104,101,114]⟩
 | .Inverse=>⟨#[73,110,118,101,114,115,101,77,97,116,99,104,101,114]⟩
 | .Require=>⟨#[82,101,113,117,105,114,101,77,97,116,99,104,101,114]⟩
 | .Const=>⟨#[67,111,110,115,116,97,110,116,83,99,111,114,101,87,114,97,112,112,101,114,77,97,116,99,104,101,114]⟩
def gls:List (Nat×W5):=[(AQ,⟨#[78,117,108,108,77,97,116,99,104,101,114]⟩),(Bt,⟨#[95,108,97,119,95,108,101,97,102]⟩),(BV,⟨#[95,108,97,119,95,119,105,116,104,105,110]⟩),(B8,⟨#[95,108,97,119,95,116,119,111]⟩),(CS,⟨#[95,108,97,119,95,111,110,101]⟩),(Dn,⟨#[95,108,97,119,95,116,114,101,101]⟩),(OW,⟨#[108,97,119]⟩)]
noncomputable def PV:Cl->Bool
 | .Add=>true
 | .AndMaybe=>true
 | .AndNot=>true
 | .Const=>true
 | .DMax=>true
 | .Filter=>true
 | .Inter=>true
 | .Inverse=>true
 | .Leaf=>true
 | .Null=>true
 | .Require=>true
 | .Union=>true
 | .Wrap=>true
 | _=>false
def UB:List Nat:=[D1,DW,Bx,Gs,Kv,Gu,FJ,DB,Ey,A3,A8,BD,CG,AJ,Aw,DX,A6,Ax,Bm,FK]
def viax(c:Cl)(m f:Nat):Bool:=match c with
 | .Add=>WV m Ab&&WV f Bn
 | .Wrap=>WV m Ab&&WV f BP
 | _=>false
def ck:Ck:=⟨λn=>HP n UB,clNx,λf=>(AM f gls).getD ⟨#[]⟩,λf=>(AM f gls).isSome,PV,viax,true⟩
def ck':Ck:={ck with strict:=false}
theorem Kx_as(P:Wg):Kas=(Kx P).map (·.1):=by kernel_rfl
theorem Kx_get(w:WW):Kas.map (HF w).get?=(Kx w.params).map (λp=>some p.2):=by kernel_rfl
theorem Kx_in(w:WW):(Kx w.params).In (HF w):=Frag.in_of (Kx_as _) (Kx_get w)
theorem t_none(P:Wg):(specialIn (Kx P) .none "__get__"==some none)=true:=by kernel_rfl
theorem t_cls(P:Wg):clsB (Kx P)=true:=by kernel_rfl
theorem t_meth(P:Wg):T1 (Kx P)=true:=by kernel_rfl
theorem t_attr(P:Wg):T2 (Kx P) UB=true:=by kernel_rfl
theorem q_file:pT.main.file=n1:=by kernel_rfl
theorem q_top:(pT.main.scope.names.lookup ("super":W5)).isSome=false:=by kernel_rfl
theorem t_fn(P:Wg):Ph.all (fnB n1 ck (Kx P))=true:=by kernel_rfl
noncomputable def gnOkB(K:Xb)(i:Fi)(fd:Wp):Bool :=
 (codeIn K fd.code fd.qualname&&(fd.globals==mainGlobals)&&(fd.builtins==builtinsNs)&&!fd.scope.isCoroutine&&fd.scope.isGenerator&&(fd.scope.kind==.function)&&dfB K i fd.defaults) &&
 (fd.params.posonlyargs.isEmpty&&fd.params.kwonlyargs.isEmpty&&fd.params.vararg.isNone&&fd.params.kwarg.isNone&&(fd.params.args.map (·.arg)==i.pars.map nm)&&Jq fd.body&&Kn i.pars)&&Jr fd&&TN i fd
theorem UC{K:Xb}{f:Nat}{i:Fi}{fd:Wp}(hat:∃oc od osl,K.lookup f=some ⟨oc,od,.func fd,osl⟩)(h:gnOkB K i fd=true):JF K f i fd (Dz fd.body):=by
 refine Ij (Jl h) λhA hB hC hD=>?_;refine SU (an7 hA) λh1 h2 h3 h4 h5 h6 h12=>?_;refine SU (an7 hB) λh7 h8 h9 h10 h11 h13 h15=>?_;exact⟨hat,h1,eq_of_beq h2,eq_of_beq h3,PM h4,h5,eq_of_beq h6,Ae h7,Ae h8,G5 h9,G5 h10,eq_of_beq h11,T5 h12,Ig h15,NS h13,JD hC,OL hD⟩
noncomputable abbrev Bg:FuncData:=fd (sub 4 4) n56 3 [] (r 83) .none .none (s n14 194) (r 89) .none 0
theorem GH(P:Wg):JF (Kx P) AF iMT Bg (Dz Bg.body):=UC ⟨.type l4,none,#[],by kernel_rfl⟩ (by kernel_rfl)
theorem F4:MtSh ck Bg.scope (Dz Bg.body):=⟨_,_,_,_,_,_,_,_,_,rfl,by kernel_rfl,by kernel_rfl,⟨_,_,_,_,_,_,_,_,_,_,_,_,rfl,by kernel_rfl,by kernel_rfl,by kernel_rfl,by kernel_rfl,by kernel_rfl,by kernel_rfl,by kernel_rfl,by kernel_rfl,by kernel_rfl⟩⟩
noncomputable abbrev Bs:FuncData:=fd (sub 4 3) n53 3 [] .none .none .none (s n14 194) (r 81) .none 0
theorem Gr(P:Wg):JF (Kx P) AG iTM Bs (Dz Bs.body):=UC ⟨.type l4,none,#[],by kernel_rfl⟩ (by kernel_rfl)
theorem GI:TmSh ck Bs.scope (Dz Bs.body):=⟨_,_,_,_,_,_,rfl,by kernel_rfl,⟨_,_,_,_,_,_,_,_,_,_,_,_,rfl,by kernel_rfl,by kernel_rfl,by kernel_rfl,by kernel_rfl,by kernel_rfl,by kernel_rfl,by kernel_rfl,by kernel_rfl,by kernel_rfl⟩⟩
noncomputable abbrev FA:FuncData:=fd (sub 7 4) n101 3 [] .none .none .none (s n14 194) (r 327) .none 0
theorem NZ(P:Wg):Jg (Kx P) CH Br FA (Dz FA.body):=.of ⟨.type l4,none,#[],by kernel_rfl⟩ (by kernel_rfl)
theorem MU:E7 ck Br FA (Dz FA.body):=.of (by kernel_rfl)
abbrev Ju:FuncData:=fd (top 28) n332 3 [] .none .none .none (s n310 1936) (r 1518) .none 0
theorem Tb(P:Wg):Jg (Kx P) OW Ji Ju (Dz Ju.body):=.of ⟨.type l4,none,#[],by kernel_rfl⟩ (by kernel_rfl)
theorem Rz:G3 ck Ji Ju (Dz Ju.body):=.of (by kernel_rfl)
theorem b_lim(w:WW):((HF w).isNs cStatics&&((HF w).nsMap cStatics "sys.recursionlimit"==none))=true:=by kernel_rfl
theorem b_mods(w:WW):((HF w).get? sysModules).isSome=true:=by kernel_rfl
theorem b_cls(w:WW):(cls.all λc=>!PV c||((HF w).nsMap mainGlobals (clNx c)==some (.ref (Cf c))))=true:=by kernel_rfl
theorem b_fns(w:WW):(gls.all λp=>(HF w).nsMap mainGlobals p.2==some (.ref p.1))=true:=by kernel_rfl
theorem b_bis(w:WW):(bis.all λp=>((HF w).nsMap mainGlobals p.1==none)&&((HF w).nsMap builtinsNs p.1==some p.2))=true:=by kernel_rfl
theorem b_clD(P:Wg):(cls.all λc=>!PV c||(!(clNx c==("__debug__":W5))&&keepIn (Kx P) (.ref (Cf c))))=true:=by kernel_rfl
theorem b_fnD(P:Wg):(gls.all λp=>!(p.2==("__debug__":W5))&&keepIn (Kx P) (.ref p.1))=true:=by kernel_rfl
def viaB(P:Wg)(cl:Cl)(n f:Nat):Bool:=(typeIn (Kx P) (.ref (Cf cl))==some (.type "type"))&&readsIn (Kx P) (Cf cl) (.type "type")&&(specialIn (Kx P) (.ref (Cf cl)) "__getattribute__"==some (some (.builtin "type.__getattribute__")))&&keepIn (Kx P) (.ref f)
theorem b_via(P:Wg):(viaB P .Add Ab Bn&&viaB P .Wrap Ab BP)=true:=by kernel_rfl
theorem b_vA(P:Wg):findCls (Kx P) (.ref (Cf .Add)) (.type "type") (nm Ab)=some (.val (.ref Bn)):=by kernel_rfl
theorem b_vW(P:Wg):findCls (Kx P) (.ref (Cf .Wrap)) (.type "type") (nm Ab)=some (.val (.ref BP)):=by kernel_rfl
theorem b_mak(P:Wg):(cls.all λc=>!PV c||(makesIn (Kx P) (Cf c)&&((Bh c Ab).isSome||(findIn (Kx P) (.ref (Cf c)) "__init__"==some (some (.builtin "object.__init__"))))))=true:=by kernel_rfl
theorem b_nall(P:Wg):keepIn (Kx P) (.ref Ip)=false/\keepIn (Kx P) (.ref Li)=false:=⟨by kernel_rfl,by kernel_rfl⟩
theorem OS{p:Cl->Bool}(h:cls.all p=true)(c:Cl):p c=true:=laP h c (Jp c)
theorem OT{a b:Bool}(h:(!a||b)=true)(ha:a=true):b=true:=by replace h:=ha▸h;exact h
theorem R9{f:Nat}(h:(AM f gls).isSome=true):(f,(AM f gls).getD ⟨#[]⟩)∈gls:=by
 refine CT (XT.mp h) λz hz=>?_;exact hz.symm▸G4 hz
theorem SA{P:Wg}{cl:Cl}{n f:Nat}(h:viaB P cl n f=true)(e:findCls (Kx P) (.ref (Cf cl)) (.type "type") (nm n)=some (.val (.ref f))):typeIn (Kx P) (.ref (Cf cl))=some (.type "type")/\readsIn (Kx P) (Cf cl) (.type "type")=true/\findCls (Kx P) (.ref (Cf cl)) (.type "type") (nm n)=some (.val (.ref f)) /\
 specialIn (Kx P) (.ref (Cf cl)) "__getattribute__"=some (some (.builtin "type.__getattribute__"))/\keepIn (Kx P) (.ref f)=true:=by
 refine Az (an h) λh h4=>?_;refine Az (an h) λh h3=>?_;refine Az (an h) λh1 h2=>?_;exact⟨beq_iff_eq.mp h1,h2,e,beq_iff_eq.mp h3,h4⟩
theorem PW{m n f g:Nat}(h:(WV m n&&WV f g)=true):m=n/\f=g:=⟨Wa (an h).1,Wa (an h).2⟩
section
variable(w:WW){h:Xy}(hk:∀b o,(HF w).get? b=some o->h.get? b=some o)
include hk
theorem PX{a:Nat}(e:(HF w).isNs a=true):h.Ns a ((HF w).nsMap a):=(aK e).at' λo e=>hk a o e
theorem base:Base ck (Kx w.params) h where
 kin:=λa o e=>hk a o (Kx_in w a o e)
 lim:=by
  refine Az (an (b_lim w)) λh1 h2=>?_;exact⟨_,PX w hk h1,beq_iff_eq.mp h2⟩
 mods:=by
  obtain⟨o,ho⟩:=XT.mp (b_mods w);exact(hk _ _ ho)▸rfl
 nall:=b_nall _
 glo:=by
  have n1:=PX w hk (Pa w);have n2:=PX w hk (q_n2 w);have c1:=b_cls w;have c2:=b_fns w;have c3:=b_bis w
  revert c1 c2 c3 n1 n2
  generalize (HF w).nsMap mainGlobals=mg
  generalize (HF w).nsMap builtinsNs=mb
  intro n1 n2 c1 c2 c3;exact⟨mg,mb,n1,n2,λcl hn=>beq_iff_eq.mp (OT (OS c1 cl) hn),λf hf=>beq_iff_eq.mp (laP c2 _ (R9 hf)),λp hp=>(an (laP c3 p hp)).imp beq_iff_eq.mp beq_iff_eq.mp⟩
 bui:=⟨(HF w).nsMap mainGlobals,4,Zd w.params,PX w hk (Pa w),q_g6 w,by decide,hk 4 (Zd w.params) (q_bm w),(OV w).1,(OV w).2,rfl⟩
 clD:=λcl hn=>by
  refine Az (an (OT (OS (b_clD w.params) cl) hn)) λh1 h2=>?_;exact⟨by rwa [XC] at h1,h2⟩
 fnD:=λf hf=>by
  refine Az (an (laP (b_fnD w.params) _ (R9 hf))) λh1 h2=>?_;exact⟨by rwa [XC] at h1,h2⟩
 via:=λcl n f hv=>by
  refine Az (an (b_via w.params)) λh1 h2=>?_;cases cl with
  | Add=>refine Az (PW hv) λy x=>?_;obtain rfl:=y;obtain rfl:=x;exact SA h1 (b_vA _)
  | Wrap=>refine Az (PW hv) λy x=>?_;obtain rfl:=y;obtain rfl:=x;exact SA h2 (b_vW _)
  | _=>exact zT hv
 mak:=λcl hn=>by
  refine Az (an (OT (OS (b_mak w.params) cl) hn)) λh1 h2=>?_;refine⟨h1,λe=>?_⟩;rw[e] at h2;exact beq_iff_eq.mp h2
end
theorem kf(P:Wg):KF (Kx P) ck.isAttr:=KF.of (t_meth P) (t_cls P) (t_attr P) (t_none P)
theorem Tc:pw.main.file=n1:=by exact(show pw=pT from Ma).symm▸q_file
theorem q_top':(pw.main.scope.names.lookup ("super":W5)).isSome=false:=by exact(show pw=pT from Ma).symm▸q_top
theorem sc(w:WW)(d:Nat):SI pw w ck (Kx w.params) (call d) d:=PO (kf _) Tc q_top' (t_fn _) d
def H0(ns:List Int):MH:=λb=>bif WV b 1520 then some (.ro (ns.map .int)) else WN
theorem con24:∀T,sz T<=24->GL 199 T:=λT h=>IW 24 T h 199 (by decide)
theorem SB{w:WW}{env:Zp}{κ:Kp}{c:Cx}{sc':XB}(B:Base ck (Kx w.params) c.UD)(O:EO env c.L κ sc'):Ev pw w (Kx w.params) ck (CL 199) (callerA.deeper env) c env κ sc':=by
 have cA:8*callerA.depth+callerA.units<=2412:=by decide
 have mb:8*(callerA.depth+1)+(callerA.units+3)+24*(198+1+2+24)+2<=7900:=WL (Wo (Wj (by decide:24*(198+1+2+24)<=24*(199+3+24)) _) 2) (ocB ‹8*_+_<=2412› (WY 24))
 refine⟨kf _,B,O,λU=>rfl,by exact(XA _ _:8*(callerA.depth+1)+(callerA.units+3)<=7900),?_,?_,?_⟩
 ·intro A' hh' hd' c' m H s f vs ys us zs Q R e hna R' r r' h q;rcases h with h|h|h
  ·exact absurd h.1 hna.1
  ·exact absurd h.1 hna.2
  ·exact sc w 199 A' hh' (ocA ‹8*_+_<=2412› ‹_›) c' m H s f vs ys us zs Q R (e▸B) R' r r' h q
 ·intro ks Er c' m H s v y us ys Q e R' r rs h;rcases h with h|h|h
  ·refine AU λGG hG=>?_;refine DN h λU U z=>?_;refine x35 z λT i ts e1 g hz hi hq=>?_;cases e1
   cases r
   refine hG ?_;exact TZ (d:=198) (kf _) (sc w 199) con24 (GH _) F4 rfl (by exact mb) (e▸B) R' g hz hi rs hq
  ·exact absurd h.1 (by decide)
  ·exact(LX h).elim
 ·intro ks Er c' env' κ' sc'' m H s v y Q X e O' R' r h hX;rcases h with h|h|h
  ·exact absurd h.1 (by decide)
  ·refine AU λGG hG=>?_;refine DN h λU U z=>?_;refine Tg z λT e1 g hz hq=>?_;cases e1
   cases r
   refine hG ?_;exact Ta (d:=198) (kf _) (by decide) (sc w 199) (Gr _) GI (NZ _) MU rfl (by exact mb) (e▸B) O' hX R' g hz hq
  ·exact(LY h).elim
theorem call_ok:Nf:=by
 intro w UH vs ns hk hg ho hI hl hsz hlay;have hlaw:IE (CL 199) Ji [.ref 1520] [] (H0 ns) (λv U=>v=.bool true):=law_ok rfl (WL (m:=63) ‹_› (by decide)) λU=>rfl
 have B:=base w hk;refine Yi (Km (d:=199) (by decide) (Tb _) Rz (UD:=UH.heap) B (λc' κ e eL O=>SB (e▸B) O) (λU U e=>e) (.cons (.ref 1520) .nil) .nil hlaw λh' m' hk' hns=>?_)
 refine⟨⟨UH.heap,UH.heap.objs.size,[],UH.gens,UH.drawn,UH.os⟩,λU=>0,[],rfl,rfl,⟨λU U e=>e,.of_eq hg,rfl⟩,⟨hns,hk',WY _⟩,News.nil,⟨YH,λa o e=>?_,λa c as e=>?_,λp hp=>(nomatch hp)⟩,λp hp=>(nomatch hp),λm'' H'' s'' v y R'' rv qv=>?_⟩
 ·have e:cond (WV a 1520) (some (O.ro (ns.map .int))) WN=some o:=e;cases q:WV a 1520 with
  | true=>rw[q] at e;obtain rfl:=WT e;exact(Wa q).symm▸.inr (.inl ⟨_,vs,0,rfl,ho,O7 hI⟩)
  | false=>rw[q] at e;exact zN e
 ·have e:cond (WV a 1520) (some (O.ro (ns.map .int))) WN=some (.inst c as):=e;cases q:WV a 1520<;>rw[q] at e<;>cases e
 ·have qv:v=.bool true:=qv;subst qv;cases rv
  exact⟨rfl,.of_keep R''.fr.keep,R''.os,R''.dr⟩
end Mine.Hd
end
end
theorem PySem.Challenge.cw_iw0047_02_holds : PySem.Challenge.rw_iw0047_02.Holds := by
  exact PySem.W.holds_law Mine.Hd.saidL fun said => Mine.Hd.holds_by Mine.Hd.call_ok said
