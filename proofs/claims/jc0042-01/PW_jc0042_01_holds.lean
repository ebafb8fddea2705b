import PyProof.Rows.All
import Wide.All
import OpenK.AllK
import Wide.FinOn
import KE.KIntText
import PySem.Challenge.RW_jc0042_01
open Option renaming some->UX, none->UY, bind_some->Wg, map_some->abw
open Bool renaming true->UZ, false->U0, and_eq_true->VQ, false_ne_true->VV, false_eq_true->Xk, not_eq_true'->XX, or_eq_true->abN, false_and->ab7, and_eq_true_iff->ac3
open PySem renaming wpAny_bind->U1, Value->U4, wpAny_pure->U5, Addr->U8, Shared->U9, sizeLine->Vb, Params->Vc, Str->Vd, Heap->Ve, wpAny->Vh, model->Vi, Around->Vm, wpAny_holding->Vq, Expr->Vv, FuncData->Vx, Program->VB, wpAny_mono->VH, IntMulOk->VL, wpAny_standAt->VM, sizeLine_eq->VO, Stmt->V4, World->V6, wpAny_newObj_type->V7, DictEntry->Wi, NameKind->Wm, eval->Ws, recursionLimit->Wv, builtinKind->WC, holding->WD, wpAny_loadName_local->WF, strKind->WK, standAt->WM, rawInt->WO, starEach->WQ, Operator->WX, compareOp->W2, getMethod->W3, wpAny_field->W8, seg_execs_cons->Xa, wpAny_specialOf->Xc, Obj->Xi, Sem->Xj, wpAny_call_entry->Xp, wpAny_call->Xs, binaryOp->XA, codeAny->XB, typeIs_str->XD, cellsFrom->XG, wpAny_items_cons->XM, Pos->XQ, Scope->XR, wpAny_of_eq->XS, backTo->XW, codeAny_of_tree->X1, theTreesLotGoes->X2, behindInMarks->X4, wpAny_onRaise->X5, BindsTo->Yg, Env->Yk, interactive->Yp, typeLookup->Ys, isInstance->Yt, getItem->Yw, getAttrByItsOwn->YM, call_meets->YO, wpAny_callSpecial?_slot->YR, CmpOp->YX, truthy->YY, setItem->Y0, letTemporaryGo->Y1, wpAny_mkText->Y2, callWith->Y3, wpAny_seqItems->Y5, intText?->Y6, getMethod_builtin->Y7, wpAny_listPart->Y8, checkBoundCall->Za, assignEach->Zp, wpAny_load->Zq, codeAmong->Zr, checkBuiltinCall->Zs, wpAny_isInstance->Zt, attributeBase->Zv, wpAny_attempt->Zw, Model->Zz, wpAny_letTemporaryGo->ZA, codeAny_call_builtin->ZB, wpAny_with_toks->ZH, assign->ZI, wpAny_updateSeq->ZJ, codeAny_builtin->ZK, wpAny_items_nil->ZL, Tok->ZP, holding->ZQ, callSpecial?->ZR, seqIndex?->ZS, keeperOf->ZV, Result->ZW, callEnvC->ZX, typeIs_int->ZY, boundAndCalled->ZZ, wpAny_loadPart->Z0, argsOk->Z1, slot_listiter_next->Z2, execs->aah, splitId->aai, sliceBounds->aaj, typeOf->aao, GenState->aaA, noteFrame->aaB, specialOf->aaC, seg_wrap->aaD, operate->aaJ, getAttr->aaK, pyIter->aaL, pyNext->aaM, nsPutIn->aaN, wpAny_typeOf->aaO, letOwnedTupleGo->aaS, wpAny_loadPart'->aaU, exec->aaW, wpAny_pyIter_listiter->aaX, builtinLookup_eq_fast->aaZ, unpackItems->aa5, isTrue->aa6, methodCallForm->aa7, subscripted->aa8, firstArgMember->aba, newFields->abd, spliced->abe, fitsSsize->abf, builtinType_eq_fast->abm, comprehension->abu, wpAny_listSubscript_int->abv, seg_execs_nil->abz, callMarked->abA, closureFor->abD, wpAny_rule->abE, loadName->abS, foldedSetIterable->abT, wpAny_assign_Name->abV, wpAny_pyIter_list->abW, entryFor->abY, inplaceOp->ace, storeName->acf, IsPart->aci, callGetattribute->acj, wpAny_askSetting->acl, notIterableAtAll->acn, intKind->aco, keywordEach->acr, typeLookup_type->acy, importedModules->acD, release->acF, forTurn->acH, wpAny_newFunctionEnv_cells->acO, JoinOk->acP, PyData->acR, wpAny_fieldsOf->acS, strKind_is->acU, intKind_is->acW, leafOf->ac0, seg_Expr_Yield->ac1, arm_eval_Call->adg, methodCallPos->adh, Seg->adr, markedBehindIn_of_false->ads, seqItems?->adu, partValue->adv, ClassData->adx
open Option.some renaming inj->U2
open Nat renaming le_trans->U3, le_of_eq->Vg, lt_of_le_of_lt->Vn, le_add_right->Vo, lt_of_lt_of_le->Vs, le_refl->Vt, add_le_add_right->Vw, beq->VC, add_le_add->VF, eq_of_beq_eq_true->VK, add_right_comm->VW, le_of_ble_eq_true->Wf, add_comm->Wk, sub_add_cancel->Wp, le_add_left->Wr, succ_pos->Wx, le_of_lt->WB, casesOn->WE, succ_le_succ->WG, add_le_add_left->WH, le_succ->WI, pow_le_pow_right->WR, lt_irrefl->WV, sub_self->WW, zero_le->W4, add_sub_cancel_left->W6, not_lt_zero->W9, sub_eq_zero_of_le->Xo, min_eq_left->Xu, two_pow_pos->Xv, lt_succ_of_lt->Xx, mul_le_mul_right->Xy, pow_add->XE, one_mul->XF, lt_trans->XI, sub_le->XK, le_of_succ_le_succ->XN, add_sub_of_le->XY, lt_succ_of_le->XZ, blt->Yj, add_zero->Ym, min_eq_right->Yn, add_assoc->Yx, le_antisymm->Yy, sub_lt->Yz, one_pos->YE, add_mul->YH, lt_or_ge->YN, ne_of_gt->YP, sub_pos_of_lt->YQ, not_succ_le_zero->Zf, lt_sub_of_add_lt->Zg, zero_mul->ZC, toDigits->ZF, add_sub_cancel->ZO, succ->Z9, lt_succ_self->aaa, le_of_not_lt->aab, lt_add_of_pos_right->aad, toDigits_of_lt_base->aaf, lt_of_succ_lt_succ->aam, ne_of_lt->aan, le_total->aaq, pow_succ->aas, mul_comm->aau, zero_add->aav, sub_eq_of_eq_add->aaR, mul_le_mul_left->aa0, mod_lt->abb, ble->abi, beq_refl->abj, le_succ_of_le->abn, le_of_succ_le->abp, succ_lt_succ->abF, not_lt_of_le->abG, log2_lt->abP, div_le_self->ab1, mul_lt_mul_of_pos_right->aca, sub_lt_right_of_lt_add->acp, shiftRight_eq_div_pow->acu, mul_zero->acT, div_div_eq_div_mul->acY, testBit_shiftRight->acZ, testBit_shiftLeft->adc, cast->adi, eq_of_testBit_eq->ado, le_sub_of_add_le->adp, add_lt_add_left->ady
open List renaming prefix_refl->U6, length_append->Va, append_assoc->Vk, prefix_append->Vp, length_map->VA, length_cons->VD, casesOn->VG, getElem?_eq_getElem->VI, size_toArray->VJ, getElem?_append_right->VU, append_nil->VY, map_append->V5, replicate->Wa, range->Wb, map_cons->Wc, getElem?_toArray->Wj, getElem?_append_left->Wn, getElem?_eq_none->Wu, mem_cons->WL, foldl_append->WS, mem_nil_iff->WT, mem_of_getElem?->WZ, map_congr_left->Xb, length->Xd, lookup_cons->Xe, cons_append->Xg, flatten_cons->Xw, map_map->Yi, reverse_append->Yo, getElem?_map->YJ, map->YL, length_singleton->YT, length_take->YU, length_drop->YW, forIn_cons->Zi, nil_append->Zj, foldl_cons->Zl, find?_cons->Zn, dropLast_concat_getLast->Zo, mem_singleton->ZG, take_length->Z6, not_mem_nil->Z8, take_of_length_le->aak, of_mem_zip->aal, length_nil->aap, mem_append_right->aay, length_replicate->aaz, getElem?_set_ne->aaE, drop_zero->aaH, getElem?_range->aaT, any_cons->aaY, getElem?_take->aa1, ext_getElem?->abh, replicate_append_replicate->abr, take_left->ab3, getD_eq_getElem?_getD->ab5, perm_append_singleton->acb, sum_cons->acs, getElem?_cons_succ->acw, filter_cons_of_neg->acC, getElem?_set_self->acE, map_nil->acK, zipWith->acM, reverse_singleton->acN, eraseIdx_toArray->acQ, singleton_append->acX, dropLast_concat->ac7, mem_cons_of_mem->ac9, mem_append_left->ade, length_dropLast->adf, replicate_succ->adj, take_succ_cons->adk, filter_append->adz, getElem?_drop->adC
open PySem.Builtin.Int renaming intBits->U7
open True renaming intro->Vf
open PySem.IntMulOk renaming of_left->Vj
open PySem.Str renaming empty->Vl, ofString->WN, join->aae, length->abc
open Int renaming natCast_nonneg->Vr, toNat_natCast->Vz, le_trans->VN, toNat_of_nonneg->VP, eq_ofNat_of_zero_le->VZ, fmod_eq_emod_of_nonneg->V8, fdiv_eq_ediv_of_nonneg->Wl, le_of_lt->Wy, toNat_lt->WY, add_nonneg->W5, toNat_sub->Xf, lt_of_lt_of_le->Xm, lt_trans->XH, add_sub_cancel->XO, toNat->XU, add_le_add_right->Yb, sub_nonneg_of_le->Yc, negSucc_lt_zero->Yq, le_refl->YD, max_eq_right->Y9, negSucc->Zd, le_of_lt_add_one->Zh, max_eq_left->Zu, add_zero->ZD, le_of_eq->ZE, lt_of_le_of_lt->ZM, le_add_of_nonneg_right->ZN, one_mul->ZT, add_mul->ZU, zero_add->aat, add_le_add->aaP, sub_nonpos_of_le->aaQ, mul_assoc->aa3, ofNat_sub->aa4, add_comm->abl, mul_le_mul_of_nonneg_left->abQ, lt_succ->abR, natCast_add->abZ, natCast_mul->ab2, le_add_one->acq, two_mul->adn, natAbs_of_nonneg->adq, add_le_add_left->adB
open PySem.Heap renaming get?_push_of_some->Vy, get?_push_size->VX, lt_size->We, SameBut->WU, get?_update_self->Xn, ExtBut->X3, size_push->ab6
open PySem.Expr renaming casesOn->VE, Slice->aag, Name->acA
open PySem.SeqAt renaming shaped->VS, canLay_of_shaped->aac, EqAt->adl
open PySem.Heap.SameBut renaming update->VT
open PySem.Unicode renaming isSpace->V9
open PySem.PyData renaming keyHash->Wd, eqvAll->XJ, int->X0, eqv->Yu, str->Yv, canLayAll0->YF, depthAll->Zc, canLay0->Zy, depth->Z7
open PySem.Txt renaming strip->Wh, slice->Wt, join->WA, charAt->Xz, item->X7, rstrip->X9, mul->Yl, isspace->abM, replace->abO
open PySem.W renaming InstAt->Wq, specialIn->ab9
open PyProof.Rows renaming IntsAre->Ww, subscriptTail->WP, lookup_of_mem_nodup->abk, add_int->abK, len_str->abL, cellsFrom_names->acv
open PySem.Builtin.List renaming listSubscript?->WJ, listItems->W0, listFitsIndex->YV, listTooLong->Zm, listUpdate->Zx, listSameRef->abg
open PySem.Sem renaming bind_eq_wrap'->W7, wrap_wrap->XV
open PySem.Value renaming none->Xh, ref->X8, int->aaF, casesOn->aaV, builtin->ack, isStrOf_shape->ada, bool->adm
open PySem.Obj renaming mapSeq->Xl, putName->Ze, mapFields->Z3, data_mapFields->aa9, isFreed_of_fields->ac8
open PySem.Around renaming under_plainId->Xq, under_of_weight->YC
open PySem.Builtin.Str renaming strKind->Xr, occurrences->Yh, partsBetween->abo
open Nat.succ renaming inj->XC
open PySem.MeetsSeq renaming plain_remove_loop->XT, entry_remove_loop->aby
open PySem.Builtin.Range renaming rangeSize->X6, small->YK
open List.cons renaming inj->Yd
open ForInStep renaming yield->Ye
open Array renaming eraseIdxIfInBounds->Yr, getElem?_toList->YS, length_toList->Zk, getElem?_eq_getElem->ab8, getElem?_push_lt->acz, toList_extract->ac2
open PySem.Challenge renaming pw_jc0042_01->YA
open PySem.Calls renaming callWith_builtin->YI, loadGlobal_builtin->abB
open Classical renaming em->Y4, byContradiction->abs
open PySem.Stmt renaming casesOn->Zb
open PySem.F renaming plainAttrs_list->Z4, args_list_append_2->abC, entry_list_append->abH, slot_list_append->abU, entry_list_pop->ach, args_list_getattribute_2->acx, slot_set_pop->acB, args_list_setitem_3->adt, args_list_getitem_2->adw
open PySem.Heap.IsSliceOf renaming new->Z5
open Prod.mk renaming inj->aar, injEq->abX
open PySem.Value.ref renaming inj->aaw
open PySem.Manifest renaming signature?->aax, canonical->acI
open PySem.Bind renaming checkArgs->aaG, madeBy->ac4, lastOf->ac6
open PySem.Builtin.Generator renaming genWake->aaI
open PySem.SetTable renaming eraseAt->aa2, insertAt->acV
open Nat.le renaming dest->abq
open PySem.Flow renaming next->abt
open PySem.GM renaming noRef->abx
open PySem.NameKind renaming free->abI, cell->abJ
open List.Pairwise renaming map->ab4
open Ne renaming symm->acd
open PyProof renaming noPylong_small->acg
open PySem.StrLaws renaming join_length_le->acm, glued_eq_join->act
open PySem.Data renaming casesOn->acG
open String renaming length_append->acJ
open PySem.callAny renaming viaDunder->ac5
open PySem.Spec renaming bitAnd->adb
open Int.ofNat renaming inj->adA
set_option Elab.async false
set_option backward.match.sparseCases false
set_option maxHeartbeats 0
set_option tactic.hygienic false
set_option genSizeOf false
set_option genInjectivity false
set_option bootstrap.genMatcherCode false
set_option maxRecDepth 100000
set_option autoImplicit false
set_option linter.unusedVariables false
namespace Mine.Internal
noncomputable section
open PySem PySem.Calls PyProof.Rows
local macro_rules | `(tactic| rfl') => `(tactic| kernel_rfl)
section
section
theorem o4 {α β:Type _} {a c:α} {b d:β} (h:UX (a,b)=UX (c,d)):a=c/\b=d:=⟨congrArg Prod.fst (U2 h),congrArg Prod.snd (U2 h)⟩
@[elab_as_elim] theorem yc {p:Nat->Prop} {i:Nat} (hi:i < 3) (h0:p 0) (h1:p 1) (h2:p 2):p i:=WE (motive:=λi=>i < 3->p i) i (λa=>h0) (λi=>WE (motive:=λi=>i+1 < 3->p (i+1)) i (λa=>h1) λi=>WE (motive:=λi=>i+2 < 3->p (i+2)) i (λa=>h2) λi h=>absurd h (Nat.not_lt.mpr (Wr 3 i))) hi
@[elab_as_elim] theorem ac {α:Sort _} {a b:α} {motive:α->Prop} (h:a=b) (x:motive b):motive a:=h▸x
@[elab_as_elim] theorem aD {α:Sort _} {a b:α} {motive:α->Prop} (h:a=b) (x:motive a):motive b:=h▸x
theorem iO {x n:Nat} (h:x<=n) (k:abi n 16777216=UZ):x<=Vb:=VO▸U3 h (Wf k)
section
variable {α β γ δ ε ζ:Type}
theorem aA {A B:α->Prop} (a:α) (h0:A a) (h1:B a):∃a,A a/\B a:=⟨a,h0,h1⟩
theorem cE {A B C:α->Prop} (a:α) (h0:A a) (h1:B a) (h2:C a):∃a,A a/\B a/\C a:=⟨a,h0,h1,h2⟩
theorem oF {A B C D:α->Prop} (a:α) (h0:A a) (h1:B a) (h2:C a) (b:D a):∃a,A a/\B a/\C a/\D a:=⟨a,h0,h1,h2,b⟩
theorem Uj {A B C D E F:α->Prop} (a:α) (h0:A a) (h1:B a) (h2:C a) (b:D a) (c:E a) (d:F a):∃a,A a/\B a/\C a/\D a/\E a/\F a:=⟨a,h0,h1,h2,b,c,d⟩
theorem sU {A:α->β->Prop} (a:α) (b:β) (h0:A a b):∃a b,A a b:=⟨a,b,h0⟩
theorem bL {A B:α->β->Prop} (a:α) (b:β) (h0:A a b) (h1:B a b):∃a b,A a b/\B a b:=⟨a,b,h0,h1⟩
theorem cY {A B C:α->β->Prop} (a:α) (b:β) (h0:A a b) (h1:B a b) (h2:C a b):∃a b,A a b/\B a b/\C a b:=⟨a,b,h0,h1,h2⟩
theorem Hy {A B C D:α->β->Prop} (a:α) (b:β) (h0:A a b) (h1:B a b) (h2:C a b) (c:D a b):∃a b,A a b/\B a b/\C a b/\D a b:=⟨a,b,h0,h1,h2,c⟩
theorem l8 {A B C D E:α->β->Prop} (a:α) (b:β) (h0:A a b) (h1:B a b) (h2:C a b) (c:D a b) (d:E a b):∃a b,A a b/\B a b/\C a b/\D a b/\E a b:=⟨a,b,h0,h1,h2,c,d⟩
theorem QP {A B C D E F:α->β->Prop} (a:α) (b:β) (h0:A a b) (h1:B a b) (h2:C a b) (c:D a b) (d:E a b) (e:F a b):∃a b,A a b/\B a b/\C a b/\D a b/\E a b/\F a b:=⟨a,b,h0,h1,h2,c,d,e⟩
theorem Hz {A:α->β->γ->Prop} (a:α) (b:β) (c:γ) (h0:A a b c):∃a b c,A a b c:=⟨a,b,c,h0⟩
theorem Lk {A B:α->β->γ->Prop} (a:α) (b:β) (c:γ) (h0:A a b c) (h1:B a b c):∃a b c,A a b c/\B a b c:=⟨a,b,c,h0,h1⟩
theorem gI {A B C:α->β->γ->Prop} (a:α) (b:β) (c:γ) (h0:A a b c) (h1:B a b c) (h2:C a b c):∃a b c,A a b c/\B a b c/\C a b c:=⟨a,b,c,h0,h1,h2⟩
theorem QQ {A B C D:α->β->γ->Prop} (a:α) (b:β) (c:γ) (h0:A a b c) (h1:B a b c) (h2:C a b c) (d:D a b c):∃a b c,A a b c/\B a b c/\C a b c/\D a b c:=⟨a,b,c,h0,h1,h2,d⟩
theorem Uk {A:α->β->γ->δ->Prop} (a:α) (b:β) (c:γ) (d:δ) (h0:A a b c d):∃a b c d,A a b c d:=⟨a,b,c,d,h0⟩
theorem Ll {A B:α->β->γ->δ->Prop} (a:α) (b:β) (c:γ) (d:δ) (h0:A a b c d) (h1:B a b c d):∃a b c d,A a b c d/\B a b c d:=⟨a,b,c,d,h0,h1⟩
theorem Ul {A:α->β->γ->δ->ε->Prop} (a:α) (b:β) (c:γ) (d:δ) (e:ε) (h0:A a b c d e):∃a b c d e,A a b c d e:=⟨a,b,c,d,e,h0⟩
end
theorem via {G:Prop} (h:∀P:Prop,(G->P)->P):G:=h G λx=>x
section
variable {G:Prop}
theorem aN {A B:Prop} (h:A/\B) (k:A->B->G):G:=k h.1 h.2
theorem b9 {A B C:Prop} (h:A/\B/\C) (k:A->B->C->G):G:=aN h.2 (k h.1)
theorem pZ {A B C D:Prop} (h:A/\B/\C/\D) (k:A->B->C->D->G):G:=b9 h.2 (k h.1)
theorem QR {A B C D E:Prop} (h:A/\B/\C/\D/\E) (k:A->B->C->D->E->G):G:=pZ h.2 (k h.1)
theorem yd {A B C D E F:Prop} (h:A/\B/\C/\D/\E/\F) (k:A->B->C->D->E->F->G):G:=QR h.2 (k h.1)
variable {α β γ δ ε ζ η:Type}
theorem bI {A:α->Prop} (h:∃a,A a) (k:∀a,A a->G):G:=h.elim k
theorem aj {A B:α->Prop} (h:∃a,A a/\B a) (k:∀a,A a->B a->G):G:=h.elim λa h=>aN h (k a)
theorem ca {A B C:α->Prop} (h:∃a,A a/\B a/\C a) (k:∀a,A a->B a->C a->G):G:=h.elim λa h=>b9 h (k a)
theorem fA {A B C D:α->Prop} (h:∃a,A a/\B a/\C a/\D a) (k:∀a,A a->B a->C a->D a->G):G:=h.elim λa h=>pZ h (k a)
theorem Um {A B C D E:α->Prop} (h:∃a,A a/\B a/\C a/\D a/\E a) (k:∀a,A a->B a->C a->D a->E a->G):G:=h.elim λa h=>QR h (k a)
theorem QS {A B C D E F:α->Prop} (h:∃a,A a/\B a/\C a/\D a/\E a/\F a) (k:∀a,A a->B a->C a->D a->E a->F a->G):G:=h.elim λa h=>yd h (k a)
theorem p9 {A:α->β->Prop} (h:∃a b,A a b) (k:∀a b,A a b->G):G:=h.elim λa h=>bI h (k a)
theorem aG {A B:α->β->Prop} (h:∃a b,A a b/\B a b) (k:∀a b,A a b->B a b->G):G:=h.elim λa h=>aj h (k a)
theorem cy {A B C:α->β->Prop} (h:∃a b,A a b/\B a b/\C a b) (k:∀a b,A a b->B a b->C a b->G):G:=h.elim λa h=>ca h (k a)
theorem ye {A B C D:α->β->Prop} (h:∃a b,A a b/\B a b/\C a b/\D a b) (k:∀a b,A a b->B a b->C a b->D a b->G):G:=h.elim λa h=>fA h (k a)
theorem eX {A B C D E:α->β->Prop} (h:∃a b,A a b/\B a b/\C a b/\D a b/\E a b) (k:∀a b,A a b->B a b->C a b->D a b->E a b->G):G:=h.elim λa h=>Um h (k a)
theorem QT {A B C D E F:α->β->Prop} (h:∃a b,A a b/\B a b/\C a b/\D a b/\E a b/\F a b) (k:∀a b,A a b->B a b->C a b->D a b->E a b->F a b->G):G:=h.elim λa h=>QS h (k a)
theorem ky {A:α->β->γ->Prop} (h:∃a b c,A a b c) (k:∀a b c,A a b c->G):G:=h.elim λa h=>p9 h (k a)
theorem mn {A B:α->β->γ->Prop} (h:∃a b c,A a b c/\B a b c) (k:∀a b c,A a b c->B a b c->G):G:=h.elim λa h=>aG h (k a)
theorem gO {A B C:α->β->γ->Prop} (h:∃a b c,A a b c/\B a b c/\C a b c) (k:∀a b c,A a b c->B a b c->C a b c->G):G:=h.elim λa h=>cy h (k a)
theorem jg {A B C D:α->β->γ->Prop} (h:∃a b c,A a b c/\B a b c/\C a b c/\D a b c) (k:∀a b c,A a b c->B a b c->C a b c->D a b c->G):G:=h.elim λa h=>ye h (k a)
theorem BG {A B C D E:α->β->γ->Prop} (h:∃a b c,A a b c/\B a b c/\C a b c/\D a b c/\E a b c) (k:∀a b c,A a b c->B a b c->C a b c->D a b c->E a b c->G):G:=h.elim λa h=>eX h (k a)
theorem QU {A B C D E F:α->β->γ->Prop} (h:∃a b c,A a b c/\B a b c/\C a b c/\D a b c/\E a b c/\F a b c) (k:∀a b c,A a b c->B a b c->C a b c->D a b c->E a b c->F a b c->G):G:=h.elim λa h=>QT h (k a)
theorem qa {A:α->β->γ->δ->Prop} (h:∃a b c d,A a b c d) (k:∀a b c d,A a b c d->G):G:=h.elim λa h=>ky h (k a)
theorem Un {A B:α->β->γ->δ->Prop} (h:∃a b c d,A a b c d/\B a b c d) (k:∀a b c d,A a b c d->B a b c d->G):G:=h.elim λa h=>mn h (k a)
theorem ez {A B C:α->β->γ->δ->Prop} (h:∃a b c d,A a b c d/\B a b c d/\C a b c d) (k:∀a b c d,A a b c d->B a b c d->C a b c d->G):G:=h.elim λa h=>gO h (k a)
theorem yf {A B C D:α->β->γ->δ->Prop} (h:∃a b c d,A a b c d/\B a b c d/\C a b c d/\D a b c d) (k:∀a b c d,A a b c d->B a b c d->C a b c d->D a b c d->G):G:=h.elim λa h=>jg h (k a)
theorem QV {A B C D E:α->β->γ->δ->Prop} (h:∃a b c d,A a b c d/\B a b c d/\C a b c d/\D a b c d/\E a b c d) (k:∀a b c d,A a b c d->B a b c d->C a b c d->D a b c d->E a b c d->G):G:=h.elim λa h=>BG h (k a)
theorem Uo {A B C D E F:α->β->γ->δ->Prop} (h:∃a b c d,A a b c d/\B a b c d/\C a b c d/\D a b c d/\E a b c d/\F a b c d) (k:∀a b c d,A a b c d->B a b c d->C a b c d->D a b c d->E a b c d->F a b c d->G):G:=h.elim λa h=>QU h (k a)
theorem QW {A:α->β->γ->δ->ε->Prop} (h:∃a b c d e,A a b c d e) (k:∀a b c d e,A a b c d e->G):G:=h.elim λa h=>qa h (k a)
theorem Up {A B:α->β->γ->δ->ε->Prop} (h:∃a b c d e,A a b c d e/\B a b c d e) (k:∀a b c d e,A a b c d e->B a b c d e->G):G:=h.elim λa h=>Un h (k a)
theorem QX {A B C D:α->β->γ->δ->ε->Prop} (h:∃a b c d e,A a b c d e/\B a b c d e/\C a b c d e/\D a b c d e) (k:∀a b c d e,A a b c d e->B a b c d e->C a b c d e->D a b c d e->G):G:=h.elim λa h=>yf h (k a)
theorem Uq {A B C D E:α->β->γ->δ->ε->Prop} (h:∃a b c d e,A a b c d e/\B a b c d e/\C a b c d e/\D a b c d e/\E a b c d e) (k:∀a b c d e,A a b c d e->B a b c d e->C a b c d e->D a b c d e->E a b c d e->G):G:=h.elim λa h=>QV h (k a)
theorem Ur {A:α->β->γ->δ->ε->ζ->Prop} (h:∃a b c d e f,A a b c d e f) (k:∀a b c d e f,A a b c d e f->G):G:=h.elim λa h=>QW h (k a)
theorem uM {A:α->β->γ->δ->ε->ζ->η->Prop} (h:∃a b c d e f g,A a b c d e f g) (k:∀a b c d e f g,A a b c d e f g->G):G:=h.elim λa h=>Ur h (k a)
end
theorem ff {P:Prop} (h:U0=UZ):P:=nomatch h
theorem tf {P:Prop} (h:UZ=U0):P:=nomatch h
theorem nn {γ:Type} {a:γ} {P:Prop} (e:Option.none=UX a):P:=nomatch e
noncomputable def yg:List Nat->List Nat->Bool
 |[],[]=>UZ
 |a::x,b::y=>match VC a b with
  |true=>yg x y
  |false=>U0
 |_,_=>U0
theorem Ek (x:List Nat):yg x x=UZ:=by
 induction x with
 |nil=>rfl
 |cons a x b=>refine(?_:(match VC a a with|true=>yg x x|false=>U0)=UZ);rw[abj];exact b
theorem Lm {x:List Nat}:∀{y:List Nat},yg x y=UZ->x=y:=by
 induction x with
 |nil=>intro y h;induction y using VG with
  |nil=>rfl
  |cons=>exact ff h
 |cons a x c=>intro y h;induction y using VG with
  |nil=>exact ff h
  |cons b y=>
   have h:(match VC a b with|true=>yg x y|false=>U0)=UZ:=h;induction e:VC a b with
   |false=>rw[e] at h;exact ff h
   |true=>rw[e] at h;exact ac (VK e) (ac (c h) rfl)
def sq (a b:Vd):Bool:=yg a.cps.toList b.cps.toList
theorem bS {a b:Vd}:sq a b=UZ↔a=b:=⟨λh=>congrArg Str.mk (Array.toList_inj.mp (Lm h)),λh=>h▸Ek _⟩
theorem cg {a b:Vd}:sq a b=U0↔a≠b:=by rw[<-Bool.not_eq_true,bS]
inductive D where
 |none|bool (b:Bool)|int (i:Int)|str (s:Vd)|ints (ns:List Int)|tup (ds:List D)|list (ds:List D)|dict (P:Vc) (es:List (Vd×D))|opq
inductive V where
 |none|bool (b:Bool)|int (i:Int)|str (s:Vd)|ref (n:Nat)|con (v:U4)|dat (d:D)|fk (k:Nat)
noncomputable def QY:List U4:=[.builtin "len", .builtin "max", .builtin "min", .type "range", .type "str", .type "int", .type "list", .type "set", .builtin "list.append", .builtin "list.pop", .builtin "list.remove", .builtin "list.count", .builtin "str.strip", .builtin "str.rstrip", .builtin "str.replace", .builtin "str.split", .builtin "str.join", .builtin "str.isspace", .builtin "int.bit_length", .builtin "set.pop"]
def FN (k:Nat):U4:=QY.getD k .none
structure oG where
 name:Vd
 qual:Vd
 params:Arguments
 body:List V4
 scope:XR
structure fB where
 c:U8
 P:U8
 line:Nat
 col:Nat
 qual:Vd
inductive O where
 |dead
 |fro (d:D)
 |fn (t:oG) (cl:List (Vd×Nat))
 |list (xs:List V)
 |ints (ns:List Int)
 |strs (ss:List Vd)
 |dats (ds:List D)
 |tup (xs:List V)
 |dict (es:List (Vd×V))
 |cell (v:Option V)
 |frame (loc:List (Vd×V))
 |range (a b c:Int)
 |rngIt (x left step:Int)
 |listIt (l:Nat) (i:Nat)
 |datIt (d:D) (i:Nat)
 |strIt (s:Vd) (i:Nat)
 |inst (C:U8) (d:Nat) (xs:Option (List V))
 |set (ns:List Int)
noncomputable def O.live:O->Bool
 | .dead=>U0
 | .fro _=>U0
 |_=>UZ
noncomputable def lk (x:Vd):List (Vd×V)->Option V
 |[]=>UY
 |(y,v)::r=>match sq x y with
  |true=>UX v
  |false=>lk x r
noncomputable def put (x:Vd) (v:V):List (Vd×V)->List (Vd×V)
 |[]=>[(x,v)]
 |(y,u)::r=>match sq x y with
  |true=>(y,v)::r
  |false=>(y,u)::put x v r
theorem mo (y z:Vd) (u:V) (r:List (Vd×V)):lk y ((z,u)::r)=if y=z then UX u else lk y r:=by
 refine(?_:(match sq y z with|true=>UX u|false=>lk y r)=_);by_cases h:y=z
 ·exact ac (bS.mpr h) (ac (if_pos h) rfl)
 ·exact ac (cg.mpr h) (ac (if_neg h) rfl)
theorem uN (x y:Vd) (v:V) (l:List (Vd×V)):lk y (put x v l)=if y=x then UX v else lk y l:=by
 induction l with
 |nil=>exact mo ..
 |cons p r b=>
  obtain⟨z,u⟩:=p;refine(?_:lk y (match sq x z with|true=>(z,v)::r|false=>(z,u)::put x v r)=_);rw[mo y z];by_cases a:x=z
  ·refine ac (bS.mpr a) ?_;refine ac a ?_;refine(mo ..).trans ?_;by_cases h:y=z
   ·refine ac (if_pos h) ?_;exact ac (if_pos h) rfl
   ·refine ac (if_neg h) ?_;refine ac (if_neg h) ?_;exact ac (if_neg h) rfl
  ·rw[cg.mpr a];refine(mo ..).trans ?_;rw[b];by_cases h:y=z
   ·refine ac (if_pos h) ?_;refine ac (if_pos h) ?_;exact ac (if_neg (λe=>a (e.symm.trans h))) rfl
   ·refine ac (if_neg h) ?_;exact ac (if_neg h) rfl
noncomputable abbrev bT (vs:List U4) (n:Nat):Xi:={cls:= .type "list",dict:=UY,data:= .seq vs.toArray n,slots:= #[]}
noncomputable abbrev rz (vs:List U4) (n:Nat):Xi:={cls:= .type "tuple",dict:=UY,data:= .seq vs.toArray n,slots:= #[]}
noncomputable abbrev cK (es:List Wi) (n:Nat):Xi:={cls:= .type "dict",dict:=UY,data:= .dict es.toArray n,slots:= #[]}
def Le (g g':Ve):Prop:=∀b o,g.get? b=UX o->g'.get? b=UX o
theorem Le.refl (g:Ve):Le g g:=λa a e=>e
theorem Le.trans {a b c:Ve} (x:Le a b) (y:Le b c):Le a c:=λd d e=>y _ _ (x _ _ e)
inductive DQ where
 |d (d:D) (v:U4)|s (ds:List D) (vs:List U4)|e (P:Vc) (r:List (Vd×D)) (es:List Wi)
class inductive DX (g:Ve):DQ->Prop
 |none:DX g (.d .none .none)
 |bool (b):DX g (.d (.bool b) (.bool b))
 |int (i t):DX g (.d (.int i) (.int i t))
 |str (s t):DX g (.d (.str s) (.str s t))
 |ints {ns vs a n}:g.get? a=UX (bT vs n)->Ww vs ns->DX g (.d (.ints ns) (.ref a))
 |tup {ds vs a n}:g.get? a=UX (rz vs n)->DX g (.s ds vs)->DX g (.d (.tup ds) (.ref a))
 |list {ds vs a n}:g.get? a=UX (bT vs n)->DX g (.s ds vs)->DX g (.d (.list ds) (.ref a))
 |dict {P es vs a n}:g.get? a=UX (cK vs n)->DX g (.e P es vs)->DX g (.d (.dict P es) (.ref a))
 |opq {v}:DX g (.d .opq v)
 |nil:DX g (.s [] [])
 |cons {d v ds vs}:DX g (.d d v)->DX g (.s ds vs)->DX g (.s (d::ds) (v::vs))
 |enil {P}:DX g (.e P [] [])
 |econs {P k t v x r es}:DX g (.d v x)->DX g (.e P r es)->DX g (.e P ((k,v)::r) (⟨Wd P k, .str k t,x⟩::es))
abbrev DR (g:Ve) (d:D) (v:U4):Prop:=DX g (.d d v)
abbrev cb (g:Ve) (d:List D) (v:List U4):Prop:=DX g (.s d v)
abbrev DE (g:Ve) (P:Vc) (r:List (Vd×D)) (es:List Wi):Prop:=DX g (.e P r es)
theorem DX.mono {g g':Ve} (k:Le g g') {q} (h:DX g q):DX g' q:=DX.rec (motive:=λq c=>DX g' q)
 .none .bool .int .str (λe r=> .ints (k _ _ e) r) (λe c d=> .tup (k _ _ e) d) (λe c d=> .list (k _ _ e) d) (λe c d=> .dict (k _ _ e) d) .opq .nil (λc c a b=> .cons a b) .enil (λc c a b=> .econs a b) h
class inductive VR (g:Ve) (U:List U8):V->U4->Prop
 |none:VR g U .none .none
 |bool (b):VR g U (.bool b) (.bool b)
 |int (i t):VR g U (.int i) (.int i t)
 |str (s t):VR g U (.str s) (.str s t)
 |ref {n a}:U[n]?=UX a->VR g U (.ref n) (.ref a)
 |con (v):VR g U (.con v) v
 |dat {d v}:DR g d v->VR g U (.dat d) v
 |fk (k):VR g U (.fk k) (FN k)
class inductive av (g:Ve) (U:List U8):List V->List U4->Prop
 |nil:av g U [] []
 |cons {d v ds vs}:VR g U d v->av g U ds vs->av g U (d::ds) (v::vs)
class inductive dk:List Vd->List U4->Prop
 |nil:dk [] []
 |cons {s t ss vs}:dk ss vs->dk (s::ss) (.str s t::vs)
theorem ai {α:Type} {U ρ':List α} (p:U <+:ρ') {n:Nat} {a:α} (e:U[n]?=UX a):ρ'[n]?=UX a:=by
 obtain⟨t,rfl⟩:=p;have b:n < U.length:=by
  refine(YN n U.length).elim (λh=>?_) λh=>?_
  ·exact h
  ·rw[Wu h] at e;exact nn e
 refine ac (Wn b) ?_;exact e
theorem VR.mono {g g':Ve} {U ρ':List U8} (k:Le g g') (p:U <+:ρ') {v x} (h:VR g U v x):VR g' ρ' v x:=by
 induction h with
 |none=>exact .none
 |bool b=>exact .bool b
 |int i t=>exact .int i t
 |str s t=>exact .str s t
 |ref e=>exact .ref (ai p e)
 |con=>exact .con _
 |dat d=>exact .dat (d.mono k)
 |fk j=>exact .fk j
theorem av.mono {g g':Ve} {U ρ':List U8} (k:Le g g') (p:U <+:ρ') {v x} (h:av g U v x):av g' ρ' v x:=by
 induction h with
 |nil=>exact .nil
 |cons a _ b=>exact .cons (a.mono k p) b
theorem av.length {g:Ve} {U:List U8} {v x} (h:av g U v x):x.length=v.length:=by
 induction h with
 |nil=>rfl
 |cons _ _ a=>exact congrArg Z9 a
section
variable {g:Ve} {U:List U8} {x:U4} {xs:List U4}
noncomputable def Ln (g:Ve) (U:List U8) (x:U4):V->Prop
 | .none=>x= .none
 | .bool b=>x= .bool b
 | .int i=>∃t,x= .int i t
 | .str s=>∃t,x= .str s t
 | .ref n=>∃a,x= .ref a/\U[n]?=UX a
 | .con v=>x=v
 | .dat d=>DR g d x
 | .fk k=>x=FN k
theorem VR.inv {v:V} (h:VR g U v x):Ln g U x v:=VR.casesOn (motive:=λv x a=>Ln g U x v) h rfl (λa=>rfl) (λa t=>⟨t,rfl⟩) (λa t=>⟨t,rfl⟩) (λe=>(aA _ rfl e)) (λa=>rfl) id λa=>rfl
theorem VR.i_none (h:VR g U .none x):x= .none:=h.inv
theorem VR.i_bool {b:Bool} (h:VR g U (.bool b) x):x= .bool b:=h.inv
theorem VR.i_int {i:Int} (h:VR g U (.int i) x):∃t,x= .int i t:=h.inv
theorem VR.i_str {s:Vd} (h:VR g U (.str s) x):∃t,x= .str s t:=h.inv
theorem VR.i_ref {n:Nat} (h:VR g U (.ref n) x):∃a,x= .ref a/\U[n]?=UX a:=h.inv
theorem VR.i_dat {d:D} (h:VR g U (.dat d) x):DR g d x:=h.inv
section
variable {p:U4->Prop}
@[elab_as_elim] theorem VR.e_int {i:Int} (h:VR g U (.int i) x) (k:∀t,p (.int i t)):p x:=bI h.i_int λt e=>e▸k t
@[elab_as_elim] theorem VR.e_str {i:Vd} (h:VR g U (.str i) x) (k:∀t,p (.str i t)):p x:=bI h.i_str λt e=>e▸k t
@[elab_as_elim] theorem VR.e_ref {n:Nat} (h:VR g U (.ref n) x) (k:∀a,U[n]?=UX a->p (.ref a)):p x:=aj h.i_ref λa e q=>e▸k a q
end
noncomputable def HA (g:Ve) (U:List U8) (xs:List U4):List V->Prop
 |[]=>xs=[]
 |v::vs=>∃x r,xs=x::r/\VR g U v x/\av g U vs r
theorem av.inv {vs:List V} (h:av g U vs xs):HA g U xs vs:=av.casesOn (motive:=λv x c=>HA g U x v) h rfl λa b=>(cY _ _ rfl a b)
theorem av.i0 (h:av g U [] xs):xs=[]:=h.inv
theorem av.ic {v:V} {vs:List V} (h:av g U (v::vs) xs):∃x r,xs=x::r/\VR g U v x/\av g U vs r:=h.inv
section
variable {p:List U4->Prop}
@[elab_as_elim] theorem av.e0 (h:av g U [] xs) (k:p []):p xs:=h.i0▸k
@[elab_as_elim] theorem av.ec {v:V} {vs:List V} (h:av g U (v::vs) xs) (k:∀x r,VR g U v x->av g U vs r->p (x::r)):p xs:=cy h.ic λx r e a b=>e▸k x r a b
@[elab_as_elim] theorem av.e1 {v:V} (h:av g U [v] xs) (k:∀x,VR g U v x->p [x]):p xs:=h.ec λx c a b=>b.e0 (k x a)
@[elab_as_elim] theorem av.e2 {v w:V} (h:av g U [v,w] xs) (k:∀x y,VR g U v x->VR g U w y->p [x,y]):p xs:=h.ec λx c a b=>b.e1 λy b=>k x y a b
@[elab_as_elim] theorem av.e3 {v w u:V} (h:av g U [v,w,u] xs) (k:∀x y z,VR g U v x->VR g U w y->VR g U u z->p [x,y,z]):p xs:=h.ec λx c a b=>b.e2 λy z b d=>k x y z a b d
end
theorem av.i1 {v:V} (h:av g U [v] xs):∃x,xs=[x]/\VR g U v x:=h.e1 λx a=>(aA x rfl a)
theorem av.i2 {v w:V} (h:av g U [v,w] xs):∃x y,xs=[x,y]/\VR g U v x/\VR g U w y:=h.e2 λx y a b=>(cY x y rfl a b)
noncomputable def Rv (g:Ve) (x:U4):D->Prop
 | .none=>x= .none
 | .bool b=>x= .bool b
 | .int i=>∃t,x= .int i t
 | .str s=>∃t,x= .str s t
 | .ints ns=>∃a vs n,x= .ref a/\g.get? a=UX (bT vs n)/\Ww vs ns
 | .tup ds=>∃a vs n,x= .ref a/\g.get? a=UX (rz vs n)/\cb g ds vs
 | .list ds=>∃a vs n,x= .ref a/\g.get? a=UX (bT vs n)/\cb g ds vs
 | .dict P es=>∃a vs n,x= .ref a/\g.get? a=UX (cK vs n)/\DE g P es vs
 | .opq=>True
noncomputable def Pa (g:Ve) (xs:List U4):List D->Prop
 |[]=>xs=[]
 |v::vs=>∃x r,xs=x::r/\DR g v x/\cb g vs r
noncomputable def Pb (g:Ve) (P:Vc) (des:List Wi):List (Vd×D)->Prop
 |[]=>des=[]
 |(k,v)::r=>∃t x q,des=⟨Wd P k, .str k t,x⟩::q/\DR g v x/\DE g P r q
noncomputable def HB (g:Ve):DQ->Prop
 | .d d v=>Rv g v d
 | .s ds vs=>Pa g vs ds
 | .e P r es=>Pb g P es r
theorem DX.inv {q} (h:DX g q):HB g q:=DX.casesOn (motive:=λq c=>HB g q) h rfl (λc=>rfl) (λc t=>⟨t,rfl⟩) (λc t=>⟨t,rfl⟩) (λe r=>(gI _ _ _ rfl e r)) (λe r=>(gI _ _ _ rfl e r)) (λe r=>(gI _ _ _ rfl e r)) (λe r=>(gI _ _ _ rfl e r)) trivial rfl (λa b=>(cY _ _ rfl a b)) rfl λa b=>(gI _ _ _ rfl a b)
theorem DR.i_none (h:DR g .none x):x= .none:=h.inv
theorem DR.i_bool {b:Bool} (h:DR g (.bool b) x):x= .bool b:=h.inv
theorem DR.i_int {i:Int} (h:DR g (.int i) x):∃t,x= .int i t:=h.inv
theorem DR.i_str {s:Vd} (h:DR g (.str s) x):∃t,x= .str s t:=h.inv
theorem DR.i_ints {ns:List Int} (h:DR g (.ints ns) x):∃a vs n,x= .ref a/\g.get? a=UX (bT vs n)/\Ww vs ns:=h.inv
theorem DR.i_list {ds:List D} (h:DR g (.list ds) x):∃a vs n,x= .ref a/\g.get? a=UX (bT vs n)/\cb g ds vs:=h.inv
theorem DR.i_tup {ds:List D} (h:DR g (.tup ds) x):∃a vs n,x= .ref a/\g.get? a=UX (rz vs n)/\cb g ds vs:=h.inv
theorem DR.i_dict {P:Vc} {es:List (Vd×D)} (h:DR g (.dict P es) x):∃a vs n,x= .ref a/\g.get? a=UX (cK vs n)/\DE g P es vs:=h.inv
theorem cb.i0 (h:cb g [] xs):xs=[]:=h.inv
theorem cb.ic {d:D} {ds:List D} (h:cb g (d::ds) xs):∃x r,xs=x::r/\DR g d x/\cb g ds r:=h.inv
@[elab_as_elim] theorem cb.ec {p:List U4->Prop} {v:D} {vs:List D} (h:cb g (v::vs) xs) (k:∀x r,DR g v x->cb g vs r->p (x::r)):p xs:=cy h.ic λx r e a b=>e▸k x r a b
end
def d6 (g:Ve) (U:List U8):Option V->Option U4->Prop
 | .none, .none=>True
 | .some v, .some x=>VR g U v x
 |_,_=>False
theorem d6.i_some {g:Ve} {U:List U8} {v:V} {o:Option U4} (h:d6 g U (UX v) o):∃z,o=UX z/\VR g U v z:=by
 induction o with
 |none=>exact h.elim
 |some z=>exact(aA z rfl h)
theorem d6.mono {g g':Ve} {U ρ':List U8} (k:Le g g') (p:U <+:ρ') {v x} (h:d6 g U v x):d6 g' ρ' v x:=by
 induction v with
 |none=>induction x with
  |none=>trivial
  |some=>exact h.elim
 |some=>induction x with
  |none=>exact h.elim
  |some=>exact VR.mono k p h
class inductive ER (g:Ve) (U:List U8) (P:Vc):List (Vd×V)->List Wi->Prop
 |nil:ER g U P [] []
 |cons {k t v x r es}:VR g U v x->ER g U P r es->ER g U P ((k,v)::r) (⟨Wd P k, .str k t,x⟩::es)
noncomputable def HC (g:Ve) (U:List U8) (P:Vc) (es:List Wi):List (Vd×V)->Prop
 |[]=>es=[]
 |(k,v)::r=>∃t x q,es=⟨Wd P k, .str k t,x⟩::q/\VR g U v x/\ER g U P r q
theorem ER.inv {g:Ve} {U:List U8} {P:Vc} {l:List (Vd×V)} {es:List Wi} (h:ER g U P l es):HC g U P es l:=ER.casesOn (motive:=λl es c=>HC g U P es l) h rfl λa b=>(gI _ _ _ rfl a b)
theorem ER.i0 {g:Ve} {U:List U8} {P:Vc} {es:List Wi} (h:ER g U P [] es):es=[]:=h.inv
theorem ER.ic {g:Ve} {U:List U8} {P:Vc} {k:Vd} {v:V} {r:List (Vd×V)} {es:List Wi} (h:ER g U P ((k,v)::r) es):∃t x q,es=⟨Wd P k, .str k t,x⟩::q/\VR g U v x/\ER g U P r q:=h.inv
theorem ER.mono {g g':Ve} {U ρ':List U8} {P:Vc} (k:Le g g') (p:U <+:ρ') {v x} (h:ER g U P v x):ER g' ρ' P v x:=by
 induction h with
 |nil=>exact .nil
 |cons a _ b=>exact .cons (a.mono k p) b
def Us (ob:Xi) (m:Vd->Option U4):Prop:=∃es a,ob.data= .dict es a/\StrKeys es/\∀name,nsFind es name=m name
structure d7 where
 o:OsState
 gp:Nat->aaA->Prop
structure Cx where
 prog:VB
 w:V6
 KK:List (U8×Xi)
 TT:List fB
 g:Ve
 os:d7
def CR (U:List U8) (cl:List (Vd×Nat)) (l:List (Vd×U8)):Prop:=∀x n,(x,n)∈cl->∃a,l.lookup x=UX a/\U[n]?=UX a
structure uO (g:Ve) (U:List U8) (t:oG) (cl:List (Vd×Nat)) (fd:Vx):Prop where
 name:fd.name=t.name
 qual:fd.qualname=t.qual
 params:fd.params=t.params
 body:fd.body= .stmts t.body
 scope:fd.scope=t.scope
 glob:fd.globals=mainGlobals
 bu:fd.builtins=builtinsNs
 d1:fd.defaults= .none
 d2:fd.kwdefaults= .none
 code:g.CodeRec fd.code t.qual
 clo:CR U cl fd.closure
theorem CR.mono {U ρ':List U8} (p:U <+:ρ') {cl l} (x:CR U cl l):CR ρ' cl l:=λy n e=>aj (x y n e) λa b d=>(aA a b (ai p d))
theorem uO.mono {g g':Ve} {U ρ':List U8} (k:Le g g') (p:U <+:ρ') {t cl fd} (x:uO g U t cl fd):uO g' ρ' t cl fd:=
 {x with code:=x.code.keeps k,clo:=x.clo.mono p}
def OR (P:Vc) (g:Ve) (U:List U8):O->U8->Xi->Prop
 | .dead,_,_=>True
 | .fro _,_,_=>True
 | .fn t cl,_,ob=>ob.cls= .type "function"/\∃fd,ob.data= .func fd/\uO g U t cl fd
 | .list xs,_,ob=>∃vs n,ob=bT vs n/\av g U xs vs
 | .ints ns,_,ob=>∃vs n,ob=bT vs n/\Ww vs ns
 | .strs ss,_,ob=>∃vs n,ob=bT vs n/\dk ss vs
 | .dats ds,_,ob=>∃vs n,ob=bT vs n/\cb g ds vs
 | .tup xs,_,ob=>∃vs n,ob=rz vs n/\av g U xs vs
 | .dict es,_,ob=>∃des n,ob=cK des n/\ER g U P es des
 | .cell v,_,ob=>∃x,ob.data= .cell x/\d6 g U v x
 | .frame e,_,ob=>∃m,Us ob m/\∀x,d6 g U (lk x e) (m x)
 | .range a b c,_,ob=>∃t u v,ob={cls:= .type "range",data:= .fields #[.int a t, .int b u, .int c v]}
 | .rngIt x left step,_,ob=>ob={cls:= .type "range_iterator",data:= .fields #[WO x,WO left,WO step]}
 | .listIt l i,_,ob=>∃b,U[l]?=UX b/\ob.cls= .type "list_iterator"/\ob.data= .fields #[.ref b, .int i 0]
 | .datIt d i,_,ob=>∃b,DR g d (.ref b)/\ob.cls= .type "list_iterator"/\ob.data= .fields #[.ref b, .int i 0]
 | .strIt s i,_,ob=>∃t f,(f="str_iterator"∨f="str_ascii_iterator")/\ob.cls= .type f/\ob.data= .fields #[.str s t, .int i 0]
 | .inst C d UY,_,ob=>∃da,U[d]?=UX da/\ob=({cls:= .ref C,dict:=UX da,data:= .plain,slots:= #[]}:Xi)
 | .inst C d (UX l),_,ob=>∃da,U[d]?=UX da/\∃vs n,ob=({cls:= .ref C,dict:=UX da,data:= .seq vs.toArray n,slots:= #[]}:Xi)/\av g U l vs
 | .set ns,_,ob=>ob.IntSetOf (λk=>ns.contains k) ns.length
theorem Lo {α:Type} {A B b:α->Prop} (h:∃a,A a/\B a) (k:∀a,B a->b a):∃a,A a/\b a:=aj h λa x y=>(aA a x (k a y))
theorem BH {α β:Type} {A B c:α->β->Prop} (h:∃a b,A a b/\B a b) (k:∀a b,B a b->c a b):∃a b,A a b/\c a b:=aG h λa b x y=>(bL a b x (k a b y))
theorem OR.mono {P:Vc} {g g':Ve} {U ρ':List U8} (k:Le g g') (p:U <+:ρ') {o a ob} (h:OR P g U o a ob):OR P g' ρ' o a ob:=by
 induction o using O.casesOn with
 |fn=>exact⟨h.1,Lo h.2 λc r=>r.mono k p⟩
 |«list»=>exact BH h λc c r=>r.mono k p
 |«dats»=>exact BH h λc c r=>r.mono k
 |«tup»=>exact BH h λc c r=>r.mono k p
 |«dict»=>exact BH h λc c r=>r.mono k p
 |cell=>exact Lo h λc r=>r.mono k p
 |frame=>exact Lo h λc r x=>(r x).mono k p
 |listIt=>exact aj h λb e r=>⟨b,ai p e,r⟩
 |datIt=>exact aj h λb e r=>⟨b,e.mono k,r⟩
 |inst _ _ d=>induction d using Option.casesOn with
  |none=>exact aj h λb e r=>(aA b (ai p e) r)
  |some=>exact aj h λb e r=>⟨b,ai p e,BH r λc c r=>r.mono k p⟩
 |_=>exact h
def tR (g:Ve) (t:fB) (ob:Xi):Prop:=∃ps,ob={cls:= .none,data:= .fields ps}/\(ps= #[]∨∃a,ps= #[WO t.line,WO t.col, .ref a]/\g.CodeRec (.ref a) t.qual)
theorem tR.mono {g g':Ve} (k:Le g g') {t:fB} {ob:Xi}:tR g t ob->tR g' t ob
 |⟨a,f,r⟩=>⟨a,f,r.imp id λr=>aj r λb u v=>(aA b u (v.keeps k))⟩
structure HR (c:Cx) (fz:Ve) (U:List U8) (H:List O) (h:Ve):Prop where
 fzle:Le fz h
 gle:Le c.g h
 wd:∀p∈c.KK,fz.get? p.1=UX p.2
 len:U.length=H.length
 inj:∀(i j:Nat) (o o':O) (a:U8),H[i]?=UX o->o.live=UZ->H[j]?=UX o'->o'.live=UZ->U[i]?=UX a->U[j]?=UX a->i=j
 obj:∀(i:Nat) (o:O),H[i]?=UX o->o.live=UZ->∃a ob,U[i]?=UX a/\h.get? a=UX ob/\c.g.get? a=UY/\fz.get? a=UY/\OR c.w.params fz U o a ob
 fro:∀(i:Nat) (d:D),H[i]?=UX (.fro d)->∃a,U[i]?=UX a/\DR fz d (.ref a)
 dis:∀(a:U8) (o:Xi),c.g.get? a=UX o->fz.get? a=UY
 tab:∀t∈c.TT,∃ob,h.get? t.P=UX ob/\tR fz t ob/\c.g.get? t.P=UY/\fz.get? t.P=UY
 tdis:∀t∈c.TT,∀(i:Nat) (o:O),H[i]?=UX o->o.live=UZ->U[i]?≠UX t.P
theorem HR.at {c:Cx} {fz:Ve} {U:List U8} {H:List O} {h:Ve} (x:HR c fz U H h) {i:Nat} {o:O} {a:U8} (hi:H[i]?=UX o) (hl:o.live=UZ) (d:U[i]?=UX a):∃ob,h.get? a=UX ob/\OR c.w.params fz U o a ob:=by refine aG (x.obj i o hi hl) λe ob e1 b=>?_;obtain⟨e2,_,_,e3⟩:=b;obtain rfl:=U2 (d.symm.trans e1);exact(aA ob e2 e3)
theorem HR.froAt {c:Cx} {fz:Ve} {U:List U8} {H:List O} {h:Ve} (x:HR c fz U H h) {i:Nat} {d:D} {a:U8} (hi:H[i]?=UX (.fro d)) (b:U[i]?=UX a):DR fz d (.ref a):=by refine aj (x.fro i d hi) λe e1 e2=>?_;obtain rfl:=U2 (b.symm.trans e1);exact e2
theorem bn {α:Type} {l:List α} {i:Nat} {a:α} (e:l[i]?=UX a):i < l.length:=by
 refine(YN i l.length).elim (λh=>?_) λh=>?_
 ·exact h
 ·rw[Wu h] at e;exact nn e
theorem oH {fz h:Ve} (k:Le fz h):fz.get? h.objs.size=UY:=by
 induction e:fz.get? h.objs.size with
 |none=>rfl
 |some o=>exact absurd (We (k _ _ e)) (WV _)
theorem bj {α:Type} {l:List α} {a:α} {n:Nat} (h:n=l.length):(l++[a])[n]?=UX a:=by refine ac h ?_;refine ac (VU (Vt _)) ?_;rw[WW];rfl
theorem uP {α:Type} {l:List α} {a b:α} {i:Nat} (e:(l++[a])[i]?=UX b):l[i]?=UX b∨(i=l.length/\b=a):=by
 refine(YN i l.length).elim (λh=>?_) λh=>?_
 ·exact .inl ((Wn h).symm.trans e)
 ·have c:i=l.length:=Yy (Nat.le_of_lt_succ (by have:=bn e;rwa[Va] at this)) h;exact .inr ⟨c,U2 (e.symm.trans (bj c))⟩
@[elab_as_elim] theorem mq {α:Type} {l:List α} {a:α} {p:Nat->α->Prop} {i:Nat} {b:α} (e:(l++[a])[i]?=UX b) (k:l[i]?=UX b->p i b) (m:p l.length a):p i b:=(uP e).elim k λq=>q.1▸q.2▸m
theorem HR.push {c:Cx} {fz:Ve} {U:List U8} {H:List O} {h:Ve} (x:HR c fz U H h) (ob:Xi) (o:O) (hf:ob.isFreed=U0)
  (C:OR c.w.params fz (U++[h.objs.size]) o h.objs.size ob) (D:o.live=UZ:=by rfl):HR c fz (U++[h.objs.size]) (H++[o]) (h.push ob):=
 have k:Le h (h.push ob):=λb o e=>Vy _ e
 have p:U <+:U++[h.objs.size]:=Vp _ _
 have lt:∀{b:U8} {ob:Xi},h.get? b=UX ob->b≠h.objs.size:=λe q=>absurd (We e) (q▸WV _)
 have g:∀{i:Nat} {u:O} {a:U8},H[i]?=UX u->u.live=UZ->(U++[h.objs.size])[i]?=UX a->U[i]?=UX a/\a≠h.objs.size:=λe l q=>eX (x.obj _ _ e l) λb m e1 e2 f f f=>U2 ((ai p e1).symm.trans q)▸⟨e1,lt e2⟩
 have new:∀{a:U8},(U++[h.objs.size])[H.length]?=UX a->a=h.objs.size:=λq=>U2 (q.symm.trans (bj x.len.symm))
 ⟨x.fzle.trans k,x.gle.trans k,x.wd,(List.length_append.trans (x.len▸rfl)).trans List.length_append.symm,
  λi j G I a e1=>mq e1 (λA B e2=>mq e2 (λv y n s=>x.inj _ _ _ _ a A B v y (g A B n).1 (g v y s).1) λf n s=>absurd (new s) (g A B n).2) λf e2=>mq e2 (λv y n s=>absurd (new n) (g v y s).2) λf f f=>rfl,
  λi u e=>mq e (λr l=>eX (x.obj _ _ r l) λa m e1 e2 e3 E F=>⟨a,m,ai p e1,k _ _ e2,e3,E,F.mono (Le.refl _) p⟩) λf=>⟨_,ob,bj x.len.symm,VX _ hf,oH x.gle,oH x.fzle,C⟩,
  λi d e=>(uP e).elim (λr=>aj (x.fro i d r) λa e1 e2=>(aA a (ai p e1) e2)) λq=>ff ((congrArg O.live q.2).trans D),x.dis,
  λt z=>aj (x.tab t z) λob e1 r=>(aA ob (k _ _ e1) r),
  λt z i u e=>mq e (λr l q=>x.tdis t z _ _ r l (g r l q).1) λf q=>fA (x.tab t z) λf e1 f f f=>lt e1 (new q)⟩
theorem BI {α:Type} {l:List α} {a b c:α} {i j:Nat} (e:(l.set i a)[j]?=UX b) (hi:l[i]?=UX c):(j=i/\b=a)∨(j≠i/\l[j]?=UX b):=
 (Decidable.em (j=i)).imp (λq=>⟨q,U2 ((e.symm.trans (q▸rfl)).trans (acE (bn hi)))⟩) λq=>⟨q,(aaE (acd q)).symm.trans e⟩
@[elab_as_elim] theorem HE {α:Type} {l:List α} {a c:α} {p:Nat->α->Prop} {i j:Nat} {b:α} (e:(l.set i a)[j]?=UX b) (hi:l[i]?=UX c) (m:p i a) (k:j≠i->l[j]?=UX b->p j b):p j b:=(BI e hi).elim (λq=>q.1▸q.2▸m) λq=>k q.1 q.2
theorem HR.chg {c:Cx} {fz fz':Ve} {U:List U8} {H:List O} {h h':Ve} (x:HR c fz U H h) {i:Nat} {o₀ o:O} {a:U8} (hi:H[i]?=UX o₀) (hl:o₀.live=UZ) (z:U[i]?=UX a) (E:Le fz fz') (J:Le fz' h')
  (F:∀b ob,b≠a->h.get? b=UX ob->h'.get? b=UX ob) (G:∀b,b≠a->fz.get? b=UY->fz'.get? b=UY)
  (K:o.live=UZ->∃ob,h'.get? a=UX ob/\fz'.get? a=UY/\OR c.w.params fz' U o a ob) (hd:∀d,o= .fro d->DR fz' d (.ref a)):HR c fz' U (H.set i o) h':=
 have e3:c.g.get? a=UY:=eX (x.obj i o₀ hi hl) λY f e1 f e3 f f=>U2 (e1.symm.trans z)▸e3
 have live:∀{j:Nat} {v:O},(H.set i o)[j]?=UX v->v.live=UZ->∃v,H[j]?=UX v/\v.live=UZ:=λe=>HE e hi (λf=>(aA _ hi hl)) λf r l=>(aA _ r l)
 have A:∀{b ob},c.g.get? b=UX ob->b≠a:=λe q=>nn (e3.symm.trans (q▸e))
 have B:∀t∈c.TT,t.P≠a:=λt y q=>x.tdis t y i o₀ hi hl (q▸z)
 ⟨J,λb o e=>F b o (A e) (x.gle b o e),λp L=>E _ _ (x.wd p L),x.len.trans List.length_set.symm,
  λj k Z o2 b M N Q R n s=>aj (live M N) λf g1 S=>aj (live Q R) λf T V=>x.inj j k _ _ b g1 S T V n s,
  λj v e=>HE e hi (λl=>ca (K l) λob n s C=>(l8 a ob z n e3 s C)) λW r l=>eX (x.obj j _ r l) λb u n s C I X=>
   have D:b≠a:=λq=>W (x.inj j i _ _ b r l hi hl n (q▸z))
   (l8 b u n (F b u D s) C (G b D I) (X.mono E (U6 _))),
  λj d e=>(BI e hi).elim (λq=>(aA a (q.1▸z) (hd d q.2.symm))) λq=>aj (x.fro j d q.2) λb n s=>(aA b n (s.mono E)),
  λb o e=>G b (A e) (x.dis b o e),
  λt y=>fA (x.tab t y) λu n s C I=>(oF u (F _ _ (B t y) n) (s.mono E) C (G _ (B t y) I)),
  λt y j v e l q=>aj (live e l) λf r m=>x.tdis t y j _ r m q⟩
theorem HR.fne {c:Cx} {fz:Ve} {U:List U8} {H:List O} {h:Ve} (x:HR c fz U H h) {i:Nat} {o₀:O} {a:U8} (hi:H[i]?=UX o₀) (hl:o₀.live=UZ) (e:U[i]?=UX a):fz.get? a=UY:=by refine aG (x.obj i o₀ hi hl) λg b e1 d=>?_;obtain⟨_,_,f,_⟩:=d;exact U2 (e1.symm.trans e)▸f
theorem HR.upd {c:Cx} {fz:Ve} {U:List U8} {H:List O} {h h':Ve} (x:HR c fz U H h) {i:Nat} {o₀ o:O} {a:U8} {ob:Xi} (hi:H[i]?=UX o₀) (hl:o₀.live=UZ) (g:U[i]?=UX a)
  (hs:WU a h h') (k:h'.get? a=UX ob) (l:OR c.w.params fz U o a ob) (m:o.live=UZ:=by rfl):HR c fz U (H.set i o) h':=
 have j:=x.fne hi hl g
 x.chg hi hl g (Le.refl _) (λb o e=>by refine(hs.2 b λq=>nn (j.symm.trans (q▸e))).symm▸ ?_;exact x.fzle b o e) (λb ob q e=>by refine(hs.2 b q).symm▸ ?_;exact e) (λf f e=>e) (λf=>(cE ob k j l)) λd e=>by subst e;exact ff m
theorem HR.le {c:Cx} {fz:Ve} {U:List U8} {H:List O} {h h':Ve} (x:HR c fz U H h) (k:Le h h'):HR c fz U H h':=
 ⟨x.fzle.trans k,x.gle.trans k,x.wd,x.len,x.inj,λi o e l=>cy (x.obj i o e l) λa b e1 e2 r=>⟨a,b,e1,k _ _ e2,r⟩,x.fro,x.dis,λt d=>aj (x.tab t d) λb e1 r=>⟨b,k _ _ e1,r⟩,x.tdis⟩
theorem HR.kill {c:Cx} {fz:Ve} {U:List U8} {H:List O} {h h':Ve} (x:HR c fz U H h) {i:Nat} {o₀:O} {a:U8} (hi:H[i]?=UX o₀) (hl:o₀.live=UZ) (g:U[i]?=UX a)
  (hs:X3 a h h'):HR c fz U (H.set i .dead) h':=
 x.chg hi hl g (Le.refl _) (λb o e=>hs b o (λq=>nn ((x.fne hi hl g).symm.trans (q▸e))) (x.fzle b o e)) (λb j q e=>hs b j q e) (λf f e=>e) (λl=>ff l) λd e=>by cases e
noncomputable def sub (h:Ve) (P:U8->Prop):Ve:=by
 classical exact PySem.W.hideAll h ((Wb h.objs.size).filter λa=> !decide (P a))
theorem dZ {h:Ve} {P:U8->Prop} {a:U8} {o:Xi} (e:h.get? a=UX o) (p:P a):(sub h P).get? a=UX o:=by dsimp only[sub];refine PySem.W.hideAll_get _ e λb=>?_;have:=(List.mem_filter.mp b).2;simp[p] at this
theorem qb {h:Ve} {P:U8->Prop} {a:U8} {o:Xi} (e:(sub h P).get? a=UX o):h.get? a=UX o/\P a:=by
 dsimp only[sub] at e;have b:=PySem.W.of_hideAll _ e;refine⟨b,abs λn=>?_⟩;rw[PySem.W.hideAll_none] at e
 ·exact nn e
 ·refine List.mem_filter.mpr ⟨List.mem_range.mpr (We b),?_⟩;simp[n]
theorem fC {h:Ve} {P:U8->Prop} {a:U8} (n:¬P a):(sub h P).get? a=UY:=by
 induction e:(sub h P).get? a with
 |none=>rfl
 |some o=>exact absurd (qb e).2 n
theorem sub_le {h:Ve} {P:U8->Prop}:Le (sub h P) h:=λa a e=>(qb e).1
theorem HR.freeze {c:Cx} {fz:Ve} {U:List U8} {H:List O} {h:Ve} (x:HR c fz U H h) {i:Nat} {o₀:O} {a:U8} {ob:Xi} {d:D} (hi:H[i]?=UX o₀) (hl:o₀.live=UZ) (n:U[i]?=UX a)
  (j:h.get? a=UX ob) (hd:∀fz',Le fz fz'->fz'.get? a=UX ob->DR fz' d (.ref a)):∃fz',Le fz fz'/\DR fz' d (.ref a)/\HR c fz' U (H.set i (.fro d)) h:=by
 have k:Le fz (sub h λb=>b=a∨(fz.get? b).isSome=UZ):=λb o e=>dZ (x.fzle b o e) (.inr (by refine ac e ?_;rfl))
 have g:=hd _ k (dZ j (.inl rfl))
 refine(cE _ k g (x.chg hi hl n k sub_le (λf f f e=>e) (λb q e=>fC ?_) (λl=>ff l) λr e=>by cases e;exact g))
 rintro(p|m)
 ·exact q p
 ·rw[e] at m;exact ff m
end
end
variable {α β γ δ X:Type} {a f it ia ad da cc:U8} {c:Cx} {b:Bool} {d:D} {i k j lev kt N:Nat} {A A':Vm} {B:α->β->Prop} {E Q:U4->U9->Prop} {P:Vc} {g g' fz h fz' h' fz₀:Ve} {U ρ' as ρ₀:List U8} {xs keep ys defs rest:List U4} {v:V} {s:U9} {vs:List V} {w:V6} {u:ZP} {ns ts:List Int} {ds:List D} {es:List (Vd×V)} {o o₀:O} {t:Xj β} {ob ox:Xi} {H H' objs:List O} {Mo:Zz} {dr:Drawn} {pos ap px py p0 p1 p2 p3 pa pb pt pi:XQ} {ss NM rs:List Vd} {y z:U4} {Z:Yk} {e value elt iter slice:Vv} {whole:Xj U4} {op:YX} {lo hi:Option Vv} {code:Code} {cl:List (Vd×Nat)} {scope:XR} {ifs:List Vv} {names:List (Vd×Wm)} {ps:List (Vd×Vd)} {J:VB} {fd:Vx} {body:List V4} {σ ν un:List Nat} {os:d7} {pl:Xj Bool} {od:Option Xi} {des:List Wi} {items:Array U4} {st:V4} {tg bt:String} {mg:Vd->Option U4} {m1 m0:Option Int} {xa xb:Vd} {kvs:List (Vd×U4)} {fs:List Frame} {o0 o1:Nat->O}
section
structure St where
 H:List O
 orc:List Bool
def M (α:Type):Type:=St->Option (α×St×List Prop)
noncomputable def ret (a:α):M α:=λS=>UX (a,S,[])
noncomputable def bnd (m:M α) (k:α->M β):M β:=λS=>match m S with
 |none=>UY
 |some (a,S',p)=>match k a S' with
  |none=>UY
  |some (b,c,q)=>UX (b,c,p++q)
noncomputable def fail :M α:=λa=>UY
noncomputable def dec (b:Bool):M Bool:=λS=>match S.orc with
 |[]=>UY
 |o::r=>UX (o,⟨S.H,r⟩,[b=o])
noncomputable def need (p:Prop):M Unit:=λS=>UX ((),S,[p])
def ao:List Prop->Prop
 |[]=>True
 |p::r=>p/\ao r
theorem af {p q:List Prop}:ao (p++q)↔ao p/\ao q:=by
 induction p with
 |nil=>exact⟨λh=>⟨trivial,h⟩,λh=>h.2⟩
 |cons a p c=>exact(and_congr_right λb=>c).trans and_assoc.symm
abbrev bE:U4->U9->Prop:=λa a=>False
structure GB (gp:Nat->aaA->Prop) (gs:Array aaA):Prop where
 bare:AllBare gs
 kept:∀i x,gp i x->gs[i]?=UX x
structure SR (c:Cx) (fz:Ve) (U:List U8) (H:List O) (s:U9):Prop where
 hr:HR c fz U H s.heap
 os:s.os=c.os.o
 bare:GB c.os.gp s.gens
 tk:1<=s.toks
theorem iw {t:Xj α} {Q:α->U9->Prop} (h1:1<=s.toks) (h:Vh Mo A t (λv s'=>1<=s'.toks->Q v s') bE s):Vh Mo A t Q bE s:=
 ZH h1 (VH h (λa a x=>x) λa a x=>x.elim)
theorem SR.to (a:SR c fz U H s) {tk:ZP} (b:HR c fz' ρ' H' h')
  (d:s.toks<=tk∨1<=tk):SR c fz' ρ' H' {s with heap:=h',drawn:=dr,toks:=tk}:=
 ⟨b,a.os,a.bare,d.elim (U3 a.tk) id⟩
theorem SR.tz (a:SR c fz U H s) (b:HR c fz' ρ' H' h'):SR c fz' ρ' H' {s with heap:=h',drawn:=dr}:=a.to b (.inl (Vt _))
theorem SR.ta (a:SR c fz U H s) (b:HR c fz' ρ' H' h'):SR c fz' ρ' H' {s with heap:=h',drawn:=dr,toks:=s.toks+k}:=a.to b (.inl (Vo _ _))
theorem SR.tb (a:SR c fz U H s) {l:Nat} (b:HR c fz' ρ' H' h'):SR c fz' ρ' H' {s with heap:=h',drawn:=dr,toks:=s.toks+k+l}:=a.to b (.inl (U3 (Vo _ _) (Vo _ _)))
abbrev bJ (α β:Type):=Ve->List U8->α->β->Prop
def dc (c:Cx) (fz:Ve) (U:List U8) (H:List O) (R:bJ α β) (a:α) (Q:β->U9->Prop):Prop:=
 ∀fz' ρ' b x,Le fz fz'->U <+:ρ'->SR c fz' ρ' H b->R fz' ρ' a x->Q x b
def ae (c:Cx) (A:Vm) (fz:Ve) (U:List U8) (m:M α) (t:Xj β) (R:bJ α β):Prop:=
 ∀S a S' p,m S=UX (a,S',p)->ao p->∀fz' ρ' s Q,Le fz fz'->U <+:ρ'->SR c fz' ρ' S.H s->dc c fz' ρ' S'.H R a Q->Vh (Vi c.prog c.w) A t Q bE s
section
def OK (r:Option (α×St×List Prop)) (K:α->St->List Prop->Prop):Prop:=match r with
 |none=>True
 |some (a,S',p)=>K a S' p
theorem OK.of {r:Option (α×St×List Prop)} {a:α} {S':St} {p:List Prop} {K:α->St->List Prop->Prop} (e:r=UX (a,S',p)) (h:OK r K):K a S' p:=(e▸h:OK (UX (a,S',p)) K)
def rA (c:Cx) (A:Vm) (fz:Ve) (U:List U8) (t:Xj β) (R:bJ α β) (S:St) (a:α) (S':St) (p:List Prop):Prop:=
 ao p->∀fz' ρ' s Q,Le fz fz'->U <+:ρ'->SR c fz' ρ' S.H s->dc c fz' ρ' S'.H R a Q->Vh (Vi c.prog c.w) A t Q bE s
theorem ae.run {m:M α} {R:bJ α β} (h:∀S K,(∀a S' p,rA c A fz U t R S a S' p->K a S' p)->OK (m S) K):ae c A fz U m t R:=λS a S' p e=>OK.of (K:=rA c A fz U t R S) e (h S _ λb b b x=>x)
theorem OK.map {r:Option (α×St×List Prop)} {P:List Prop} {K:α->St->List Prop->Prop} (h:OK r λb S2 p2=>K b S2 (P++p2)):OK (match r with|none=>UY|some (b,a,q)=>UX (b,a,P++q)) K:=by
 induction r with
 |none=>trivial
 |some r=>exact h
theorem OK.bnd {m:M α} {k:α->M β} {S:St} {K:β->St->List Prop->Prop} (h:∀a S1 p1,m S=UX (a,S1,p1)->OK (k a S1) λb S2 p2=>K b S2 (p1++p2)):OK (Mine.Internal.bnd m k S) K:=by
 unfold Mine.Internal.bnd;induction e:m S with
 |none=>trivial
 |some r=>exact OK.map (h r.1 r.2.1 r.2.2 e)
theorem OK.need {P:Prop} {k:Unit->M α} {S:St} {K:α->St->List Prop->Prop} (h:OK (k () S) λb S2 p2=>K b S2 (P::p2)):OK (Mine.Internal.bnd (Mine.Internal.need P) k S) K:=OK.map (P:=[P]) h
theorem OK.dec {k:Bool->M α} {S:St} {K:α->St->List Prop->Prop} (h:∀o r,OK (k o ⟨S.H,r⟩) λa S2 p2=>K a S2 ((b=o)::p2)):OK (Mine.Internal.bnd (Mine.Internal.dec b) k S) K:=by
 obtain⟨H,c⟩:=S;induction c using VG with
 |nil=>trivial
 |cons o r=>exact OK.map (P:=[b=o]) (h o r)
@[elab_as_elim] theorem OK.use {r:Option (α×St×List Prop)} {a:α} {S':St} {p:List Prop} {G:α->St->List Prop->Prop} (e:r=UX (a,S',p)) (h:∀K,(∀a S p,G a S p->K a S p)->OK r K):G a S' p:=OK.of e (h G λb b b x=>x)
theorem OK.got {r:Option (α×St×List Prop)} {K:α->St->List Prop->Prop} (h:∀a S' p,r=UX (a,S',p)->K a S' p):OK r K:=by
 induction r with
 |none=>trivial
 |some r=>exact h _ _ _ rfl
theorem ae.alt {b:St->Bool} {m d:M α} {R:bJ α β} (h1:ae c A fz U m t R) (h0:ae c A fz U d t R):ae c A fz U (λS=>match b S with|true=>m S|false=>d S) t R:=λS=>by
 have h0:=h0 S;refine(?_:∀a e p,(match b S with|true=>m S|false=>d S)=_->_);induction b S with
 |true=>exact(h1 S)
 |false=>exact h0
theorem db {a b:α} {S S':St} {p q:List Prop} (e:UX (a,S,p)=UX (b,S',q)):b=a/\S'=S/\q=p:=by cases e;exact⟨rfl,rfl,rfl⟩
theorem ae.at {m:M α} {R:bJ α β} (h:ae c A fz U m t R) (k:Le fz fz') (p:U <+:ρ'):ae c A fz' ρ' m t R:=
 λS a f q e g b d s Q i j=>h S a f q e g b d s Q (k.trans i) (p.trans j)
theorem ae.mono {m:M α} {R R':bJ α β} (h:ae c A fz U m t R) (i:∀fz' ρ' a x,Le fz fz'->U <+:ρ'->R fz' ρ' a x->R' fz' ρ' a x):ae c A fz U m t R':=
 λS a j q e l fz' ρ' s Q k p x y=>h S a j q e l fz' ρ' s Q k p x λb d n z f g o r=>y b d n z f g o (i _ _ _ _ (k.trans f) (p.trans g) r)
theorem ae.ret {a:α} {x:β} {R:bJ α β} (h:∀fz' ρ',Le fz fz'->U <+:ρ'->R fz' ρ' a x):ae c A fz U (ret a) (pure x) R:=by intro S b j q e _ fz' ρ' s Q k p i y;refine b9 (db e) λd f g=>?_;subst d;subst f;subst g;exact U5 (y fz' ρ' s x (Le.refl _) (U6 _) i (h _ _ k p))
theorem ae.bind {m:M α} {k:α->M γ} {f:β->Xj δ} {R:bJ α β} {R':bJ γ δ} (h1:ae c A fz U m t R)
  (h2:∀fz' ρ' a x,Le fz fz'->U <+:ρ'->R fz' ρ' a x->ae c A fz' ρ' (k a) (f x) R'):ae c A fz U (bnd m k) (t >>= f) R':=ae.run λS K q=>OK.bnd λa j u h=>OK.got λb N v B=>q _ _ _ λC fz' ρ' s Q l n x y=>aN (af.mp C) λg i=>
 U1 (h1 S a j u h g fz' ρ' s _ l n x λd e D z o p E r=>h2 d e a z (l.trans o) (n.trans p) r j b _ v B i d e D Q (Le.refl _) (U6 _) E λF G H w I J L=>y F G H w (o.trans I) (p.trans J) L)
theorem ae.pass {m:M α} {t:Xj Unit} {f:Unit->Xj β} {R:bJ α β} (d:∀s Q,Q () s->Vh (Vi c.prog c.w) A t Q bE s) (h:ae c A fz U m (f ()) R):ae c A fz U m (t >>= f) R:=by intro S a g q e i b ρ' s Q k p x y;exact U1 (d s _ (h S a g q e i b ρ' s Q k p x y))
theorem ae.stand {m:M α} {f:Unit->Xj β} {R:bJ α β} (h:ae c A fz U m (f ()) R):ae c A fz U m (WM pos >>= f) R:=ae.pass (λa a h=>VM h) h
theorem ae.holding {m:M α} {vs:List U4} {R:bJ α β} (h:ae c A fz U m t R):ae c A fz U m (WD vs t) R:=
 λS a d q e f b ρ' s Q k p x y=>Vq (h S a d q e f b ρ' s Q k p x y)
theorem ix {vs:List U4} {t:Xj U4} (h:Vh Mo A t Q E s):Vh Mo A (aaJ vs t) Q E s:=
 λb p a=>by rw[Sem.wp_operate];exact h b p a
theorem ae.operate {m:M α} {vs:List U4} {t:Xj U4} {R:bJ α U4} (h:ae c A fz U m t R):ae c A fz U m (aaJ vs t) R:=
 λS a d q e f b ρ' s Q k p x y=>ix (h S a d q e f b ρ' s Q k p x y)
theorem ae.fail {R:bJ α β}:ae c A fz U (fail:M α) t R:=λS a b q e=>by cases e
theorem ae.dec {k:Bool->M α} {R:bJ α β} (h:∀o,b=o->ae c A fz U (k o) t R):ae c A fz U (bnd (dec b) k) t R:=ae.run λS K f=>OK.dec λo r=>OK.got λa l m g=>f _ _ _ λe d ρ' s Q i j x y=>h o e.1 _ _ _ _ g e.2 d ρ' s Q i j x y
theorem ae.need {P:Prop} {k:Unit->M α} {R:bJ α β} (h:P->ae c A fz U (k ()) t R):ae c A fz U (bnd (need P) k) t R:=ae.run λS K d=>OK.need (OK.got λa f g e=>d _ _ _ λb=>h b.1 _ _ _ _ e b.2)
end
theorem ae.bfail {m:M α} {t:Xj γ} {R:bJ β γ}:ae c A fz U (bnd m λa=>Mine.Internal.fail) t R:=ae.run λa a a=>OK.bnd λa a a a=>Vf
theorem bA {m:M α} {k:α->M β} {S:St} {b:β} {S':St} {q:List Prop} (e:bnd m k S=UX (b,S',q)):∃a S1 p1 p2,m S=UX (a,S1,p1)/\k a S1=UX (b,S',p2)/\q=p1++p2:=OK.of (K:=λb S' q=>∃a S1 p1 p2,m S=UX (a,S1,p1)/\k a S1=UX (b,S',p2)/\q=p1++p2) e (OK.bnd λa S1 p1 h=>OK.got λb d p2 c=>⟨a,S1,p1,p2,h,c,rfl⟩)
end
variable {S' S1 S2 S3:St} {m:M α} {R:bJ α β}
section
def Gh (c:Cx) (fz:Ve) (U:List U8) (m:M α) (R:Ve->List U8->α->Prop):Prop:=
 ∀S a S' p,m S=UX (a,S',p)->ao p->∀fz' ρ' h,Le fz fz'->U <+:ρ'->HR c fz' ρ' S.H h->∃b,Le fz' b/\HR c b ρ' S'.H h/\R b ρ' a
noncomputable def eA:D->V
 | .none=> .none
 | .bool b=> .bool b
 | .int i=> .int i
 | .str s=> .str s
 |d=> .dat d
theorem jx {x:U4} (h:DR g d x):VR g U (eA d) x:=by
 induction d using Mine.Internal.D.casesOn with
 |none=>exact ac h.i_none .none
 |bool=>exact ac h.i_bool (.bool _)
 |int=>obtain⟨t,rfl⟩:=h.i_int;exact .int _ _
 |str=>obtain⟨t,rfl⟩:=h.i_str;exact .str _ _
 |_=>exact .dat h
noncomputable def jy:List D->Option (List Int)
 |[]=>UX []
 | .int i::r=>match jy r with
  |some l=>UX (i::l)
  |none=>UY
 |_=>UY
noncomputable def zE (ds:List D):D:=match jy ds with
 |some ns=> .ints ns
 |none=> .list ds
theorem oI:∀{ns:List Int} {vs:List U4},jy ds=UX ns->cb g ds vs->Ww vs ns:=by
 induction ds with
 |nil=>intro ns vs h c;refine ac c.i0 (aD (U2 h) ?_);exact .nil
 |cons d r f=>
  intro ns vs h c;induction d using Mine.Internal.D.casesOn with
  |int i=>
   dsimp only[jy] at h;induction e:jy r with
   |none=>rw[e] at h;exact nn h
   |some l=>rw[e] at h;refine c.ec λx q a b=>?_;obtain⟨t,rfl⟩:=a.i_int;exact aD (U2 h) (.cons _ _ (f e b))
  |_=>exact nn h
theorem zF {vs:List U4} {n:Nat} (e:g.get? a=UX (bT vs n)) (h:cb g ds vs):DR g (zE ds) (.ref a):=by
 dsimp only[zE];induction b:jy ds with
 |none=>exact .list e h
 |some ns=>exact .ints e (oI b h)
noncomputable def Lp (i:Nat) (d:D):M D:=λS=>UX (d,⟨S.H.set i (.fro d),S.orc⟩,[])
def lc (i:Nat) (d:D):M D:=λS=>match S.H[i]? with
 |none=>UY
 |some o=>match o.live with
  |true=>Lp i d S
  |false=>UY
mutual
noncomputable def cj (P:Vc):Nat->V->M D
 |_, .none=>ret .none
 |_, .bool b=>ret (.bool b)
 |_, .int i=>ret (.int i)
 |_, .str s=>ret (.str s)
 |_, .dat d=>ret d
 |_, .con _=>fail
 |_, .fk _=>fail
 |0, .ref _=>fail
 |n+1, .ref i=>λS=>match S.H[i]? with
  |some (.fro d)=>UX (d,S,[])
  |some (.ints ns)=>lc i (.ints ns) S
  |some (.strs ss)=>lc i (.list (ss.map D.str)) S
  |some (.dats ds)=>lc i (.list ds) S
  |some (.list xs)=>bnd (o5 P n xs) (λds=>lc i (zE ds)) S
  |some (.tup xs)=>bnd (o5 P n xs) (λds=>lc i (.tup ds)) S
  |some (.dict es)=>bnd (rB P n es) (λds=>lc i (.dict P ds)) S
  |_=>UY
noncomputable def o5 (P:Vc):Nat->List V->M (List D)
 |_,[]=>ret []
 |0,_=>fail
 |n+1,v::r=>bnd (cj P n v) λd=>bnd (o5 P n r) λds=>ret (d::ds)
noncomputable def rB (P:Vc):Nat->List (Vd×V)->M (List (Vd×D))
 |_,[]=>ret []
 |0,_=>fail
 |n+1,(k,v)::r=>bnd (cj P n v) λd=>bnd (rB P n r) λds=>ret ((k,d)::ds)
end
section
def zG (c:Cx) (fz:Ve) (U:List U8) (R:Ve->List U8->α->Prop) (S:St) (a:α) (S':St) (p:List Prop):Prop:=
 ao p->∀fz' ρ' h,Le fz fz'->U <+:ρ'->HR c fz' ρ' S.H h->∃b,Le fz' b/\HR c b ρ' S'.H h/\R b ρ' a
theorem Gh.run {R:Ve->List U8->α->Prop} (h:∀S K,(∀a S' p,zG c fz U R S a S' p->K a S' p)->OK (m S) K):Gh c fz U m R:=λS b b b e=>OK.of (K:=zG c fz U R S) e (h S _ λb b b x=>x)
theorem Gh.ret {a:α} {R:Ve->List U8->α->Prop} (h:∀fz' ρ',Le fz fz'->U <+:ρ'->R fz' ρ' a):Gh c fz U (ret a) R:=Gh.run λb b d=>d _ _ _ λb b b b k q x=>(cE _ (Le.refl _) x (h _ _ k q))
theorem Gh.fail {R:Ve->List U8->α->Prop}:Gh c fz U (fail:M α) R:=λa a a a e=>nomatch e
theorem Gh.bind {k:α->M β} {R:Ve->List U8->α->Prop} {R':Ve->List U8->β->Prop} (h1:Gh c fz U m R) (h2:∀fz' ρ' a,Le fz fz'->U <+:ρ'->R fz' ρ' a->Gh c fz' ρ' (k a) R'):Gh c fz U (bnd m k) R':=
 Gh.run λS K l=>OK.bnd λa f n e1=>OK.got λb o p e2=>l _ _ _ λr fz' ρ' g h q x=>aN (af.mp r) λd e=>ca (h1 S a f n e1 d fz' ρ' g h q x) λi j s t=>
  ca (h2 i ρ' a (h.trans j) q t f b o p e2 e i ρ' g (Le.refl _) (U6 _) s) λu v w y=>(cE u (j.trans v) w y)
theorem ae.ghost {k:α->M β} {t:Xj γ} {R:Ve->List U8->α->Prop} {R':bJ β γ} (h1:Gh c fz U m R) (h2:∀fz' ρ' a,Le fz fz'->U <+:ρ'->R fz' ρ' a->ae c A fz' ρ' (k a) t R'):ae c A fz U (bnd m k) t R':=
 ae.run λS K j=>OK.bnd λa f l e1=>OK.got λb n o e2=>j _ _ _ λp fz' ρ' s Q g q x y=>aN (af.mp p) λd e=>ca (h1 S a f l e1 d fz' ρ' s.heap g q x.hr) λh i u v=>
  h2 h ρ' a (g.trans i) q v f b n o e2 e h ρ' s Q (Le.refl _) (U6 _) (x.tz u) λw B C z D E F r=>y w B C z (i.trans D) E F r
theorem BJ {vs:List U4} (h:dk ss vs):cb g (ss.map D.str) vs:=by
 induction h with
 |nil=>exact .nil
 |cons _ a=>exact .cons (.str _ _) a
def sV (fz:Ve) (U:List U8) (v:V):Ve->List U8->D->Prop:=λfz' a d=>∀x,VR fz U v x->DR fz' d x
def HF (fz:Ve) (U:List U8) (v:List V):Ve->List U8->List D->Prop:=λfz' a d=>∀x,av fz U v x->cb fz' d x
def HG (P:Vc) (fz:Ve) (U:List U8) (v:List (Vd×V)):Ve->List U8->List (Vd×D)->Prop:=λfz' a d=>∀x,ER fz U P v x->DE fz' P d x
theorem nA {S n:St} {K:D->St->List Prop->Prop} {ob:O} {p₁:List Prop} (C:∀a S' p,zG c fz U (sV fz U (.ref i)) S a S' p->K a S' p) (h1:S.H[i]?=UX ob) (l:ob.live=UZ)
  (E:ao p₁->∀fz' ρ' h,HR c fz' ρ' S.H h->∃m,Le fz' m/\HR c m ρ' n.H h/\∀j a ob',Le m j->OR c.w.params fz' ρ' ob a ob'->j.get? a=UX ob'->DR j d (.ref a)):OK (lc i d n) λb S2 p2=>K b S2 (p₁++p2):=by
 unfold lc
 induction y:n.H[i]? with
 |none=>exact Vf
 |some o=>
  refine(?_:OK (match o.live with|true=>Lp i d n|false=>UY) _);induction A:o.live with
  |false=>exact Vf
  |true=>
   exact C _ _ _ λF fz' ρ' h k q x=>ca (E (af.mp F).1 fz' ρ' h x) λm s r G=>cy (r.obj i _ y A) λa ob' v B e=>aj (x.at h1 l v) λI g1 J=>
    ca (r.freeze y A v B λf L g=>G f a ob' L (U2 (g1.symm.trans B)▸J) g) λj t M u=>(cE j (s.trans t) u (λz N=>N.e_ref λb P=>U2 (v.symm.trans (ai q P))▸M))
theorem uQ {S:St} {K:D->St->List Prop->Prop} {ob:O} (g:∀a S' p,zG c fz U (sV fz U (.ref i)) S a S' p->K a S' p) (h1:S.H[i]?=UX ob) (l:ob.live=UZ) {m:M β} {f:β->D} {R:Ve->List U8->Ve->List U8->β->Prop}
  (j:∀fz U,Gh c fz U m (R fz U)) (k:∀fz' ρ' d e ds b a ob',R fz' ρ' d e ds->Le d b->OR c.w.params fz' ρ' ob a ob'->b.get? a=UX ob'->DR b (f ds) (.ref a)):OK (bnd m (λds=>lc i (f ds)) S) K:=
 OK.bnd λds n o q=>nA g h1 l λr fz' ρ' h x=>ca (j fz' ρ' S ds n o q r fz' ρ' h (Le.refl _) (U6 _) x) λs t u v=>(cE s t u (λf a ob y=>k _ _ _ _ _ f a ob v y))
theorem Lq {n:Nat} (i2:∀fz U vs,Gh c fz U (o5 c.w.params n vs) (HF fz U vs)) (v:∀fz U vs,Gh c fz U (rB c.w.params n vs) (HG c.w.params fz U vs)) :Gh c fz U (cj c.w.params (n+1) (.ref i)) (sV fz U (.ref i)):=
 Gh.run λS K l=>by
  dsimp only[cj];induction p:S.H[i]? with
  |none=>exact Vf
  |some y=>
   induction y using O.casesOn with
   |fro C=>exact l _ _ _ λD j ρ' h k q x=>(cE j (Le.refl _) x (λz A=>A.e_ref λb B=>x.froAt p (ai q B)))
   |«ints» ns=>exact nA (p₁:=[]) l p rfl λd j ρ' h x=>(cE j (Le.refl _) x (λf a d d o g=>aG o λvs m e r=> .ints (aD e g) r))
   |«strs» ns=>exact nA (p₁:=[]) l p rfl λd j ρ' h x=>(cE j (Le.refl _) x (λf a d d o g=>aG o λvs m e r=> .list (aD e g) (BJ r)))
   |«dats» ns=>exact nA (p₁:=[]) l p rfl λd j ρ' h x=>(cE j (Le.refl _) x (λf a d s o g=>aG o λvs m e r=> .list (aD e g) (r.mono s)))
   |«list» vs=>exact uQ l p rfl (λfz U=>i2 fz U vs) λd d d d d d d d t s o g=>aG o λu m e r=>zF (aD e g) ((t u r).mono s)
   |«tup» vs=>exact uQ l p rfl (λfz U=>i2 fz U vs) λd d d d d d d d t s o g=>aG o λu m e r=> .tup (aD e g) ((t u r).mono s)
   |«dict» vs=>exact uQ l p rfl (λfz U=>v fz U vs) λd d d d d d d d t s o g=>aG o λu m e r=> .dict (aD e g) ((t u r).mono s)
   |_=>exact Vf
theorem BK (n:Nat) (v:V) (h:∀i,Gh c fz U (cj c.w.params n (.ref i)) (sV fz U (.ref i))):Gh c fz U (cj c.w.params n v) (sV fz U v):=by
 induction v using V.casesOn with
 |ref i=>exact h i
 |none=>cases n<;>exact Gh.ret λa a a a x h=>h.i_none▸ .none
 |bool=>cases n<;>exact Gh.ret λa a a a x h=>h.i_bool▸ .bool _
 |int=>cases n<;>exact Gh.ret λa a a a x h=>h.e_int λa=> .int _ _
 |str=>cases n<;>exact Gh.ret λa a a a x h=>h.e_str λa=> .str _ _
 |dat=>cases n<;>exact Gh.ret λa a k a x h=>h.i_dat.mono k
 |_=>cases n<;>exact Gh.fail
theorem Lu {n:Nat} (i1:∀fz U v,Gh c fz U (cj c.w.params n v) (sV fz U v)) (i2:∀fz U vs,Gh c fz U (o5 c.w.params n vs) (HF fz U vs)) :Gh c fz U (o5 c.w.params (n+1) vs) (HF fz U vs):=by
 induction vs using VG with
 |nil=>exact Gh.ret λe e e e g h=>h.i0▸ .nil
 |cons v r=>exact Gh.bind (m:=cj c.w.params n v) (i1 fz U v) λi j d k l o=>Gh.bind (i2 i j r) λt u ds p y q=>Gh.ret λz A f B g s=>s.ec λx C a b=> .cons (((o _ a).mono p).mono f) ((q _ (b.mono k l)).mono f)
theorem Lv {n:Nat} (i1:∀fz U v,Gh c fz U (cj c.w.params n v) (sV fz U v)) (i2:∀fz U vs,Gh c fz U (rB c.w.params n vs) (HG c.w.params fz U vs)) {vs:List (Vd×V)}:Gh c fz U (rB c.w.params (n+1) vs) (HG c.w.params fz U vs):=by
 induction vs using VG with
 |nil=>exact Gh.ret λf f f f i h=>h.i0▸ .enil
 |cons v r=>exact Gh.bind (m:=cj c.w.params n v.2) (i1 fz U v.2) λj k d l o p=>Gh.bind (i2 j k r) λy z ds q A s=>Gh.ret λB C g D i u=>gO u.ic λt x E e a b=>e▸ .econs (((p _ a).mono q).mono g) ((s _ (b.mono l o)).mono g)
theorem Pc (n:Nat):(∀fz U v,Gh c fz U (cj c.w.params n v) (sV fz U v))/\(∀fz U vs,Gh c fz U (o5 c.w.params n vs) (HF fz U vs))/\∀fz U vs,Gh c fz U (rB c.w.params n vs) (HG c.w.params fz U vs):=by
 induction n with
 |zero=>exact⟨λfz U v=>BK 0 v λa=>Gh.fail,λfz U vs=>VG vs (Gh.ret λa a a a d h=>h.i0▸ .nil) λa a=>Gh.fail,λfz U vs=>VG vs (Gh.ret λa a a a d h=>h.i0▸ .enil) λa a=>Gh.fail⟩
 |succ n b=>exact⟨λfz U v=>BK (n+1) v λi=>Lq b.2.1 b.2.2,λfz U vs=>Lu b.1 b.2.1,λfz U vs=>Lv b.1 b.2.2⟩
theorem qc (n:Nat) (fz:Ve) (U:List U8) (v:V):Gh c fz U (cj c.w.params n v) (λfz' ρ' d=>∀x,VR fz U v x->DR fz' d x):=(Pc n).1 fz U v
end
section
def yh (P:Vc) (n:Nat):V->M V
 | .ref j=>match abi n j with
  |true=>bnd (cj P 9 (.ref j)) λd=>ret (.dat d)
  |false=>ret (.ref j)
 |v=>ret v
def uR (P:Vc) (n:Nat):List V->M (List V)
 |[]=>ret []
 |v::r=>bnd (yh P n v) λu=>bnd (uR P n r) λa=>ret (u::a)
def HH (P:Vc) (n:Nat):List (Vd×V)->M (List (Vd×V))
 |[]=>ret []
 |(x,v)::r=>bnd (yh P n v) λu=>bnd (HH P n r) λa=>ret ((x,u)::a)
def QZ (P:Vc) (n:Nat):O->M O
 | .list xs=>bnd (uR P n xs) λys=>ret (.list ys)
 | .tup xs=>bnd (uR P n xs) λys=>ret (.tup ys)
 | .dict es=>bnd (HH P n es) λys=>ret (.dict ys)
 | .frame es=>bnd (HH P n es) λys=>ret (.frame ys)
 | .cell (UX v)=>bnd (yh P n v) λu=>ret (.cell (UX u))
 | .inst C d (UX xs)=>bnd (uR P n xs) λys=>ret (.inst C d (UX ys))
 |o=>ret o
def reO (i:Nat) (o:O):M Unit:=λS=>match S.H[i]? with
 |some a=>match a.live,o.live with
  |true,UZ=>UX ((),⟨S.H.set i o,S.orc⟩,[])
  |_,_=>UX ((),S,[])
 |none=>UY
def El (P:Vc) (n i:Nat):M Unit:=λS=>match S.H[i]? with
 |some o=>match o.live with
  |true=>bnd (QZ P n o) (λa=>reO i a) S
  |false=>UX ((),S,[])
 |none=>UY
noncomputable def qd (P:Vc) (n:Nat):Nat->M Unit
 |0=>ret ()
 |k+1=>bnd (qd P n k) λa=>El P n k
noncomputable def BL (n:Nat):V->Bool
 | .ref j=>Yj j n
 |_=>UZ
noncomputable def uS (n:Nat):List V->Bool
 |[]=>UZ
 |v::r=>BL n v&&uS n r
def BM (n:Nat):List (Vd×V)->Bool
 |[]=>UZ
 |(_,v)::r=>BL n v&&BM n r
noncomputable def HI (n:Nat):List (Vd×Nat)->Bool
 |[]=>UZ
 |(_,v)::r=>Yj v n&&HI n r
def HJ (n:Nat):O->Bool
 | .list xs=>uS n xs
 | .tup xs=>uS n xs
 | .dict es=>BM n es
 | .frame es=>BM n es
 | .cell (UX v)=>BL n v
 | .cell UY=>UZ
 | .inst _ d (UX xs)=>Yj d n&&uS n xs
 | .inst _ d UY=>Yj d n
 | .fn _ cl=>HI n cl
 | .listIt l _=>Yj l n
 |_=>UZ
noncomputable def rC (n:Nat):List O->Bool
 |[]=>UZ
 |o::r=>HJ n o&&rC n r
section
theorem qe (n:Nat) (v:V):Gh c fz U (yh c.w.params n v) (λfz' ρ' u=>∀x,VR fz U v x->VR fz' ρ' u x):=by
 induction v with
 |ref j=>
  unfold yh;dsimp only;induction abi n j with
  |true=>exact Gh.bind (qc 9 fz U _) λi k d l m h=>Gh.ret λf g a e x b=> .dat ((h x b).mono a)
  |false=>exact Gh.ret λf g a e x b=>b.mono a e
 |_=>exact Gh.ret λf g a e x b=>b.mono a e
theorem rE (n:Nat) (vs:List V):∀(fz:Ve) (U:List U8),Gh c fz U (uR c.w.params n vs) (λfz' ρ' e=>∀xs,av fz U vs xs->av fz' ρ' e xs):=by
 induction vs with
 |nil=>exact λfz U=>Gh.ret λd d d d xs h=>h.i0▸ .nil
 |cons v r i=>exact λfz U=>Gh.bind (qe n v) λj k u l m o=>Gh.bind (i j k) λz A e p q s=>Gh.ret λB C f g xs t=>by exact t.ec λx y a b=>(.cons (((o _ a).mono p q).mono f g) ((s _ (b.mono l m)).mono f g))
theorem BN (P:Vc) (n:Nat) (vs:List (Vd×V)):∀(fz:Ve) (U:List U8),Gh c fz U (HH c.w.params n vs) (λfz' ρ' j=>(∀xs,ER fz U P vs xs->ER fz' ρ' P j xs)/\∀y w,d6 fz U (lk y vs) w->d6 fz' ρ' (lk y j) w):=by
 induction vs with
 |nil=>exact λfz U=>Gh.ret λd d k q=>⟨λxs h=>h.i0▸ .nil,λy w h=>h.mono k q⟩
 |cons p r C=>
  obtain⟨x,v⟩:=p;exact λfz U=>Gh.bind (qe n v) λD E u l m o=>Gh.bind (C D E) λH I j s A B=>Gh.ret λJ K f g=>⟨λxs F=>by
   refine gO F.ic λt x y e a b=>(ac e ?_)
   exact .cons (((o _ a).mono s A).mono f g) ((B.1 _ (b.mono l m)).mono f g),λy w h=>by
    rw[mo] at h;refine ac (mo ..) ?_;by_cases i:y=x
    ·rw[if_pos i] at h;refine aj (d6.i_some h) λz e G=>(ac e (ac (if_pos i) ?_))
     exact((o _ G).mono s A).mono f g
    ·rw[if_neg i] at h;exact ac (if_neg i) ((B.2 y w (h.mono l m)).mono f g)⟩
theorem Lw (n:Nat) (o:O):Gh c fz U (QZ c.w.params n o) (λfz' ρ' E=>∀a ob,OR c.w.params fz U o a ob->OR c.w.params fz' ρ' E a ob):=by
 have same:Gh c fz U (ret o) (λfz' ρ' E=>∀a ob,OR c.w.params fz U o a ob->OR c.w.params fz' ρ' E a ob):=Gh.ret λb b k q a ob h=>h.mono k q;induction o with
 |«list» l=>exact Gh.bind (rE n l fz U) λs t D y p g=>Gh.ret λA B i f a ob j=>aG j λvs m e r=>⟨vs,m,e,(g _ r).mono i f⟩
 |tup l=>exact Gh.bind (rE n l fz U) λs t D y p g=>Gh.ret λA B i f a ob j=>aG j λvs m e r=>⟨vs,m,e,(g _ r).mono i f⟩
 |dict F=>exact Gh.bind (BN c.w.params n F fz U) λs t D y p g=>Gh.ret λA B i f a ob j=>aG j λvs m e r=>⟨vs,m,e,(g.1 _ r).mono i f⟩
 |frame F=>exact Gh.bind (BN c.w.params n F fz U) λs t D y p g=>Gh.ret λA B i f a ob j=>aj j λm e r=>⟨m,e,λx=>(g.2 x _ (r x)).mono i f⟩
 |cell v=>
  induction v with
  |none=>exact same
  |some v=>exact Gh.bind (qe n v) λs t u y p g=>Gh.ret λA B i f a ob j=>aj j λx e r=>⟨x,e,by
    induction x with
    |none=>exact r.elim
    |some z=>exact(g z r).mono i f⟩
 |inst C d l=>
  induction l with
  |none=>exact same
  |some l=>exact Gh.bind (rE n l fz U) λs t D y p g=>Gh.ret λA B i f a ob ⟨G,e,vs,m,H,r⟩=>⟨G,ai (p.trans f) e,vs,m,H,(g _ r).mono i f⟩
 |_=>exact same
theorem HR.reO (x:HR c fz U H h) (hi:H[i]?=UX o₀) (hl:o₀.live=UZ) (d:o.live=UZ) (e:∀a ob,U[i]?=UX a->h.get? a=UX ob->OR c.w.params fz U o a ob):HR c fz U (H.set i o) h:=by exact cy (x.obj i o₀ hi hl) λa ob e1 e2 b=>(x.upd hi hl e1 ⟨rfl,λb b=>rfl⟩ e2 (e a ob e1 e2) d)
theorem Jn (n i:Nat):Gh c fz U (El c.w.params n i) (λd d d=>True):=by
 refine Gh.run λS K l=>?_;unfold El;induction y:S.H[i]? with
 |none=>exact Vf
 |some o=>
  dsimp only;induction z:o.live with
  |false=>exact l _ _ _ λg e ρ' h k q x=>(cE e (Le.refl _) x trivial)
  |true=>
   refine OK.bnd λm j p A=>?_;have u:∀e ρ' h,Le fz e->U <+:ρ'->HR c e ρ' S.H h->ao p->∃f,Le e f/\HR c f ρ' j.H h/\∀a r,OR c.w.params e ρ' o a r->OR c.w.params f ρ' m a r:=λe ρ' h k q x g=>
    Lw (c:=c) (fz:=e) (U:=ρ') n o S m j p A g e ρ' h (Le.refl _) (U6 _) x
   have v:OK (UX ((),j,[])) λb B C=>K b B (p++C):=l _ _ _ λg e ρ' h k q x=>
    ca (u e ρ' h k q x (af.mp g).1) λf s t d=>(cE f s t trivial)
   unfold reO;induction D:j.H[i]? with
   |none=>exact Vf
   |some E=>
    dsimp only;induction F:E.live with
    |false=>exact v
    |true=>induction G:m.live with
     |false=>exact v
     |true=>
      refine l _ _ _ λg e ρ' h k q x=>(ca (u e ρ' h k q x (af.mp g).1) λf s t I=>?_)
      exact(cE f s (t.reO D F G λa J L M=>aj (x.at y z L) λr N O=>I _ _ (U2 (N.symm.trans M)▸O)) trivial)
theorem uT (n:Nat):∀k (fz:Ve) (U:List U8),Gh c fz U (qd c.w.params n k) (λa a a=>True)
 |0,_,_=>Gh.ret λa a a a=>trivial
 |k+1,fz,U=>Gh.bind (uT n k fz U) λb d a a a a=>Jn n k
theorem gu {l:List α} {n:Nat} {a:α} (e:l[i]?=UX a) (h:i < n):(l.take n)[i]?=UX a:=by refine ac (aa1) (ac (if_pos h) ?_);exact e
set_option tactic.hygienic true in
theorem fe {l:List α} {n:Nat} {a:α} (e:(l.take n)[i]?=UX a):l[i]?=UX a/\i < n:=by
 simp only[aa1] at e;split at e
 ·rename_i h;exact⟨e,h⟩
 ·exact nn e
theorem mr {n:Nat} {x:U4} (f:BL n v=UZ) (h:VR g U v x):VR g (U.take n) v x:=by
 induction h with
 |none=>exact .none
 |bool=>exact .bool _
 |int=>exact .int _ _
 |str=>exact .str _ _
 |ref e=>exact .ref (gu e (Wf f))
 |con=>exact .con _
 |dat h=>exact .dat h
 |fk=>exact .fk _
theorem rF {n:Nat} {v:List V} {x:List U4} (f:uS n v=UZ) (h:av g U v x):av g (U.take n) v x:=by
 induction h with
 |nil=>exact .nil
 |cons a _ b=>refine aN (Bool.and_eq_true_iff.mp f) λc d=>?_;exact .cons (mr c a) (b d)
theorem Lx {n:Nat} {v:List (Vd×V)} {x:List Wi} (f:BM n v=UZ) (h:ER g U P v x):ER g (U.take n) P v x:=by
 induction h with
 |nil=>exact .nil
 |cons a _ b=>refine aN (Bool.and_eq_true_iff.mp f) λc d=>?_;exact .cons (mr c a) (b d)
theorem Ly {n:Nat} {y:Vd} {w:Option U4} {v:List (Vd×V)} (f:BM n v=UZ) (h:d6 g U (lk y v) w):d6 g (U.take n) (lk y v) w:=by
 induction v with
 |nil=>cases w<;>first|trivial|exact h.elim
 |cons p r c=>
  obtain⟨x,v⟩:=p;refine aN (Bool.and_eq_true_iff.mp f) λd e=>?_;rw[mo] at h;refine ac (mo ..) ?_;by_cases a:y=x
  ·rw[if_pos a] at h;refine aj (d6.i_some h) λz b i=>(ac b (ac (if_pos a) ?_))
   exact mr d i
  ·rw[if_neg a] at h;exact ac (if_neg a) (c e h)
theorem Jo {n:Nat} {x:Vd} {l:List (Vd×Nat)} (f:HI n l=UZ) (h:(x,k)∈l):k < n:=by
 induction l with
 |nil=>cases h
 |cons p r b=>
  refine aN (Bool.and_eq_true_iff.mp (show(Yj p.2 n&&HI n r)=UZ from f)) λa c=>((List.mem_cons.mp h).elim (λe=>?_) λh=>?_)
  ·rw[<-e] at a;exact Wf a
  ·exact b c h
theorem Lz {n:Nat} (f:HJ n o=UZ) (h:OR P g U o a ob):OR P g (U.take n) o a ob:=by
 induction o with
 |«list» c=>obtain⟨vs,m,e,r⟩:=h;exact⟨vs,m,e,rF f r⟩
 |tup c=>obtain⟨vs,m,e,r⟩:=h;exact⟨vs,m,e,rF f r⟩
 |dict s=>obtain⟨vs,m,e,r⟩:=h;exact⟨vs,m,e,Lx f r⟩
 |frame s=>obtain⟨m,e,r⟩:=h;exact⟨m,e,λx=>Ly f (r x)⟩
 |cell v=>
  refine aj h λx e r=>(aA x e ?_)
  induction v with
  |none=>cases x<;>first|trivial|exact r.elim
  |some v=>induction x with
   |none=>exact r.elim
   |some z=>exact mr f r
 |inst C d c=>
  induction c with
  |none=>obtain⟨j,e,r⟩:=h;exact(aA j (gu e (Wf f)) r)
  |some c=>
   refine aj h λj e k=>(aG k λvs m p r=>?_)
   dsimp only[HJ] at f;simp only[VQ] at f;exact⟨j,gu e (Wf f.1),vs,m,p,rF f.2 r⟩
 |fn t B=>
  refine aN h λe k=>(aj k λu p r=>?_)
  refine⟨e,u,p,{r with clo:=λx m q=>?_}⟩;exact aj (r.clo x m q) λb y A=>⟨b,y,gu A (Jo f q)⟩
 |listIt l i=>obtain⟨b,e,r⟩:=h;exact⟨b,gu e (Wf f),r⟩
 |_=>exact h
theorem Em {n:Nat} {l:List O} (f:rC n l=UZ):∀{i:Nat} {o:O},l[i]?=UX o->HJ n o=UZ:=by
 induction l with
 |nil=>intro i o h;exact nn h
 |cons x r a=>
  obtain⟨b,c⟩:=Bool.and_eq_true_iff.mp f;intro i o h;induction i with
  |zero=>refine aD (U2 h) ?_;exact b
  |succ i=>exact a c h
theorem HR.take (x:HR c fz U H h) {n:Nat} (y:n<=H.length) (hf:rC n (H.take n)=UZ):HR c fz (U.take n) (H.take n) h:=by
 refine⟨x.fzle,x.gle,x.wd,ac YU (ac YU (ac x.len rfl)),?_,?_,λi d e=>?_,x.dis,x.tab,λt g i o e l q=>?_⟩
 ·intro i j k m a e1 p e2 r b f;exact x.inj i j k m a (fe e1).1 p (fe e2).1 r (fe b).1 (fe f).1
 ·intro i o e l;exact eX (x.obj i o (fe e).1 l) λa s b f u v w=>(l8 a s (gu b (fe e).2) f u v (Lz (Em hf e) w))
 ·exact aj (x.fro i d (fe e).1) λa b f=>(aA a (gu b (fe e).2) f)
 ·exact x.tdis t g i o (fe e).1 l (fe q).1
end
inductive Fl where
 |next|brk|cont
 |ret (v:V)
def FR:bJ Fl Flow:=λfz U f x=>match f,x with
 | .next, .next=>True
 | .brk, .brk=>True
 | .cont, .cont=>True
 | .ret v, .ret y=>VR fz U v y
 |_,_=>False
def HK (P:Vc) (n:Nat):Fl->M Fl
 | .ret v=>bnd (yh P n v) λu=>ret (.ret u)
 |f=>ret f
def Q0 (n:Nat):Fl->Bool
 | .ret v=>BL n v
 |_=>UZ
def zH (n:Nat) (f:Fl):M Fl:=λS=>match rC n (S.H.take n),Q0 n f with
 |true,UZ=>UX (f,⟨S.H.take n,S.orc⟩,[])
 |_,_=>UY
def iy (tr:Option Vc) (m:M Fl):M Fl:=match tr with
 |none=>m
 |some P=>λS=>bnd m (λf=>bnd (HK P S.H.length f) λf=>bnd (qd P S.H.length S.H.length) λa=>zH S.H.length f) S
section
theorem LA (n:Nat) (f:Fl):Gh c fz U (HK c.w.params n f) (λb d g=>∀x,FR fz U f x->FR b d g x):=by
 induction f with
 |ret v=>
  refine Gh.bind (qe _ v) λk l u m o h=>Gh.ret λp q i j x e=>?_;induction x with
  |ret z=>exact(h z e).mono i j
  |_=>exact e.elim
 |_=>refine Gh.ret λa a a a x e=>?_;cases x<;>first|exact e.elim|trivial
theorem oJ {tr:Option Vc} (htr:∀P,tr=UX P->P=c.w.params) {m:M Fl} {t:Xj Flow} (h:ae c A fz U m t FR):ae c A fz U (iy tr m) t FR:=by
 induction tr with
 |none=>exact h
 |some P=>
  have:=htr P rfl;refine ac this (ae.run λS K F=>OK.bnd λG I Z J=>OK.bnd λo L p1 N=>OK.bnd λa q p2 O=>?_);unfold zH;induction hl:rC S.H.length (q.H.take S.H.length) with
  |false=>exact Vf
  |true=>
  induction r:Q0 S.H.length o with
  |false=>exact Vf
  |true=>
  refine F _ _ _ λe v ρ' s Q k p z y=>?_;clear F;refine aN (af.mp e) λf e=>(aN (af.mp e) λg e=>?_)
  have i:=(af.mp e).1;clear e;refine h S G I Z J f v ρ' s Q k p z λf2 l B x k2 j d R=>(ca (LA S.H.length G I o L p1 N g f2 l B.heap (Le.refl _) (U6 _) d.hr) λT k3 V W=>?_)
  refine ca (uT (c:=c) S.H.length S.H.length T l L _ q p2 O i T l B.heap (Le.refl _) (U6 _) V) λf4 X C a=>?_;have b:ρ'.length=S.H.length:=z.hr.len;have Y:l.take S.H.length=ρ':=by obtain⟨t,rfl⟩:=j;exact aD b (ac ab3 rfl)
  have D:=C.take (aD C.len (aD b j.length_le):S.H.length<=q.H.length) hl;rw[Y] at D;refine y f4 ρ' B x (k2.trans (k3.trans X)) (U6 _) (d.tz D) ?_;have E:=W x R;clear W R V C J N O f g i h z d D;induction o with
  |ret u=>
   cases x<;>first|exact E.elim|skip
   exact aD Y (mr (n:=S.H.length) r (VR.mono X (U6 _) E))
  |_=>cases x<;>first|exact E.elim|trivial
end
end
section
abbrev au:bJ V U4:=λfz U v x=>VR fz U v x
abbrev dJ:bJ Unit Unit:=λa a a a=>True
abbrev gP:bJ Bool Bool:=λc c a b=>a=b
abbrev zI:bJ (List V) (List U4):=λfz U v x=>av fz U v x
abbrev lf:bJ (Option V) (Option U4):=λfz U v x=>match v,x with
 |none,UY=>True
 |some v,UX x=>VR fz U v x
 |_,_=>False
abbrev o6:bJ (V×List V) (U4×List U4):=λfz U v x=>VR fz U v.1 x.1/\av fz U v.2 x.2
inductive GV where
 |v (x:U4)
 |f (k:Nat)
def GV.val:GV->U4
 | .v x=>x
 | .f k=>FN k
structure Ec where
 names:List (Vd×Wm)
 cells:List (Vd×Nat)
 fid:Nat
 glob:List (Vd×GV)
 trim:Option Vc:=UY
 spS:Nat->Option (V4×M Fl):=λa=>UY
 spE:Nat->Option (Vv×M V):=λa=>UY
structure dU where
 bin:WX->V->V->M V
 iop:WX->V->V->M V
 cmp:YX->V->V->M V
 tru:V->M Bool
 una:UnaryOp->V->M V
 idx:V->V->M V
 sli:V->V->V->M V
 gti:V->V->M V
 sit:V->V->V->M Unit
 ssl:V->V->V->V->M Unit
 att:V->Vd->M V
 sat:V->Vd->V->M Unit
 mth:V->Vd->M (V×List V)
 cal:V->List V->M V
 iter:V->M V
 nxt:Nat->M (Option V)
 unp:V->Nat->M (List V)
structure bP where
 ev:Vv->M V
 tr:Vv->M Bool
 ex:V4->M Fl
 exs:List V4->M Fl
 asg:Vv->V->M Unit
 fl:Vv->Nat->List V4->List V4->M Fl
 wl:Vv->List V4->List V4->M Fl
noncomputable def kd (x:Vd):List (Vd×Wm)->Option Wm
 |[]=>UY
 |(y,k)::r=>match sq x y with
  |true=>UX k
  |false=>kd x r
theorem fK (x:Vd) (l):kd x l=l.lookup x:=by
 induction l with
 |nil=>rfl
 |cons p r a=>
  refine ac Xe ?_;refine(?_:(match sq x p.1 with|true=>UX p.2|false=>kd x r)=_);by_cases h:x=p.1
  ·exact ac (bS.mpr h) (ac (beq_iff_eq.mpr h) rfl)
  ·exact ac (cg.mpr h) (ac (beq_false_of_ne h) a)
def cT (x:Vd):List (Vd×Nat)->Option Nat
 |[]=>UY
 |(y,k)::r=>match sq x y with
  |true=>UX k
  |false=>cT x r
def ms (x:Vd):List (Vd×GV)->Option GV
 |[]=>UY
 |(y,k)::r=>match sq x y with
  |true=>UX k
  |false=>ms x r
noncomputable def toV:U4->V
 | .none=> .none
 | .bool b=> .bool b
 | .int i _=> .int i
 | .str s _=> .str s
 |v=> .con v
theorem yi (v:U4):VR g U (toV v) v:=by cases v<;>first|exact .none|exact .bool _|exact .int _ _|exact .str _ _|exact .con _
def GV.toV:GV->V
 | .v x=>Mine.Internal.toV x
 | .f k=> .fk k
theorem GV.rep (v:GV):VR g U v.toV v.val:=by
 induction v with
 |v x=>exact yi x
 |f k=>exact .fk k
def BO:Const->M V
 | .none=>ret .none
 | .bool b=>ret (.bool b)
 | .int i=>ret (.int i)
 | .str s=>ret (.str s)
 |_=>fail
noncomputable def En (x:Vd):Bool:=x==("__classdict__":Vd)
def orF (o:Option α) (k:α->M β):M β:=match o with
 |some a=>k a
 |none=>fail
noncomputable def qf (n:Nat):M V:=λS=>match S.H[n]? with
 |some (.cell (UX v))=>UX (v,S,[])
 |_=>UY
def Eo (n:Nat) (x:Vd):M V:=λS=>match S.H[n]? with
 |some (.frame l)=>orF (lk x l) ret S
 |_=>UY
def nm (C:Ec) (x:Vd):M V:=match kd x C.names with
 |some .local=>Eo C.fid x
 |some .cell=>orF (cT x C.cells) qf
 |some .free=>match En x with
  |true=>fail
  |false=>orF (cT x C.cells) qf
 |some .globalImplicit=>orF (ms x C.glob) λv=>ret v.toV
 |_=>fail
def rG (n:Nat) (x:Vd) (v:V):M Unit:=λS=>match S.H[n]? with
 |some (.frame l)=>UX ((),⟨S.H.set n (.frame (put x v l)),S.orc⟩,[])
 |_=>UY
noncomputable def o7 (v:V) (n:Nat):M Unit:=λS=>match S.H[n]? with
 |some (.cell _)=>UX ((),⟨S.H.set n (.cell (UX v)),S.orc⟩,[])
 |_=>UY
def jV (C:Ec) (x:Vd) (v:V):M Unit:=match kd x C.names with
 |some .local=>rG C.fid x v
 |some .cell=>orF (cT x C.cells) (o7 v)
 |_=>fail
noncomputable def z0:XQ:=⟨0,0,0,0⟩
noncomputable def xz:Vv:= .Name "" z0
def xv (e:Vv) (z:α) (k:Nat->XQ->Vv->List Vv->XR->α):α:=
 @Expr.casesOn (λf=>α) e (λa b c=>z) (λa b c=>z) (λa b c d=>z) (λa b c=>z) (λa b c d=>z) (λa b c d=>z) (λa b p=>k 1 p xz [] default) (λa b p=>k 4 p xz a default)
  (λa b s p=>k 5 p a [] s) (λa b s p=>k 6 z0 a [] s) (λa b c s p=>k 7 z0 a [] s) (λa b s p=>k 8 p a [] s) (λa b=>z) (λa p=>k 20 p (a.getD xz) [] default) (λa b=>z)
  (λa b c p=>k 15 p a c default) (λa b c p=>k (match c with|[]=>9|_=>10) p a b default) (λa b c d=>z) (λa b=>z) (λa b p=>k 16 p xz [] default) (λa b p=>k 14 p a [] default)
  (λa b p=>k 11 p a [b] default) (λa p=>k 17 z0 a [] default) (λa p=>k 13 p xz [] default) (λa p=>k 18 z0 xz a default) (λa b p=>k 19 z0 xz a default) (λa b c d=>z)
def sv (s:V4) (z:α) (k:Nat->XQ->Vv->Vv->List V4->List V4->Arguments->XR->α):α:=
 @Stmt.casesOn (λm=>α) s (λa b c d e f g h i p=>k 1 p xz xz c [] b g) (λa b c d e f g h i j=>z) (λa b c d e f g h i j l=>k 2 z0 xz xz d [] default default) (λa p=>k 3 p (a.getD xz) xz [] [] default default)
  (λa b=>z) (λa b p=>k 4 p b xz [] [] default default) (λa b c d e f g=>z) (λa b c p=>k 5 p c xz [] [] default default) (λa b c d e=>z) (λa b c d p=>k 6 p a b c d default default) (λa b c d e=>z)
  (λa b c p=>k 7 p a xz b c default default) (λa b c p=>k 8 p a xz b c default default) (λa b c=>z) (λa b c=>z) (λa b c=>z) (λa b c=>z) (λa b c d e=>z) (λa b c d e=>z) (λa b c=>z)
  (λa b=>z) (λa b c d=>z) (λa b=>z) (λa b=>z) (λa p=>k 9 p a xz [] [] default default) (λa=>z) (λa=>z) (λa=>z)
noncomputable def qg (e:Vv):Nat:=xv e 0 λn a a a a=>n
noncomputable def dK (e:Vv):XQ:=xv e z0 λa p a a a=>p
def cm (e:Vv):Vv:=xv e xz λb b a b b=>a
noncomputable def kz (e:Vv):List Vv:=xv e [] λa a a l a=>l
noncomputable def Q1 (e:Vv):XR:=xv e default λa a a a s=>s
def fV (s:V4):XQ:=sv s z0 λa p a a a a a a=>p
def aU (s:V4):Vv:=sv s xz λb b a b b b b b=>a
noncomputable def uU (s:V4):Vv:=sv s xz λb b b a b b b b=>a
noncomputable def cL (s:V4):List V4:=sv s [] λa a a a l a a a=>l
def mu (s:V4):List V4:=sv s [] λa a a a a l a a=>l
noncomputable def LB (s:V4):Arguments:=sv s default λb b b b b b a b=>a
def HL (s:V4):XR:=sv s default λa a a a a a a c=>c
noncomputable def iP (e:Vv):Bool:=Yj 4 (qg e)&&Yj (qg e) 8
noncomputable def eB (e:Vv):Bool:=VC (qg e) 4
noncomputable def qh (ts:List Vv) (e:Vv):Bool:=match ts with
 |[t]=> !(VC (qg e) 19&&(Yj 17 (qg t)&&Yj (qg t) 20))
 |_=>UZ
noncomputable def ew (x:Vd):Bool:=x==("__debug__":Vd)
noncomputable def eg (e:Vv):Bool:=VC (qg e) 17
def jW (f:Vv->M V):List Vv->M (List V)
 |[]=>ret []
 |e::r=>match eg e with
  |true=>fail
  |false=>bnd (f e) λv=>bnd (jW f r) λvs=>ret (v::vs)
set_option backward.match.sparseCases true in
noncomputable def tS (f:Vv->M V) (t:V->M Bool) (op:BoolOp):List Vv->M V
 |[]=>fail
 |[x]=>f x
 |x::r=>bnd (f x) λv=>bnd (t v) λb=>bnd (dec b) λd=>match op,d with
  | .And,U0| .Or,UZ=>ret v
  |_,_=>tS f t op r
noncomputable def Ep (f:Vv->M Bool) (op:BoolOp):List Vv->M Bool
 |[]=>ret (op== .And)
 |x::r=>bnd (f x) λb=>bnd (dec b) λd=>match op,d with
  | .And,U0=>ret U0
  | .Or,UZ=>ret UZ
  |_,_=>Ep f op r
def uV (f:Vv->M V):Option Vv->M V
 |none=>ret .none
 |some e=>f e
noncomputable def jz (f:Vv->V->M Unit) (v:V):List Vv->M Unit
 |[]=>ret ()
 |t::r=>match eg t with
  |true=>fail
  |false=>bnd (f t v) λa=>jz f v r
noncomputable def qi (f:Vv->V->M Unit):List Vv->List V->M Unit
 |[],[]=>ret ()
 |t::r,v::vs=>match eg t with
  |true=>fail
  |false=>bnd (f t v) λa=>qi f r vs
 |_,_=>fail
noncomputable def cG (f:V4->M Fl):List V4->M Fl
 |[]=>ret .next
 |s::r=>bnd (f s) λx=>match x with
  | .next=>cG f r
  |y=>ret y
noncomputable def lg:List V->Option (List Int)
 |[]=>UX []
 | .int i::r=>match lg r with
  |some l=>UX (i::l)
  |none=>UY
 |_=>UY
noncomputable def nB:List V->O
 |[]=> .list []
 |v::r=>match lg (v::r) with
  |some l=> .ints l
  |none=> .list (v::r)
def fD (e:Vv):Bool:=match kz e with
 |[]=>VC (qg e) 9&&VC (qg (cm e)) 13
 |_=>U0
noncomputable def fg:List Vv->Bool
 |[]=>UZ
 |e::r=>match eg e with
  |true=>U0
  |false=>fg r
def qj (ap pos:XQ) (es:List Vv):Bool:=fg es&&Yj es.length 30&&VC ap.endLine pos.line
def mv (C:Ec) (o:dU) (F:bP) (e:Vv):M V:=match e with
 | .Constant k _ _=>BO k
 | .Name x _=>match ew x with
  |true=>fail
  |false=>nm C x
 | .BinOp l op r _=>bnd (F.ev l) λa=>bnd (F.ev r) λb=>o.bin op a b
 | .UnaryOp op x _=>bnd (F.ev x) λa=>o.una op a
 | .BoolOp op es _=>tS F.ev o.tru op es
 | .IfExp t b e _=>bnd (F.tr t) λc=>bnd (dec c) λd=>match d with
  |true=>F.ev b
  |false=>F.ev e
 | .Compare l [op] [r] _=>match X4 op r with
  |true=>fail
  |false=>bnd (F.ev l) λa=>bnd (F.ev r) λb=>o.cmp op a b
 | .Subscript v (.Slice lo hi UY _) _=>bnd (F.ev v) λa=>bnd (uV F.ev lo) λl=>bnd (uV F.ev hi) λh=>o.sli a l h
 | .Subscript _ (.Slice ..) _=>fail
 | .Subscript v i _=>bnd (F.ev v) λa=>bnd (F.ev i) λb=>o.idx a b
 | .List es _=>bnd (jW F.ev es) λvs=>λS=>UX (.ref S.H.length,⟨S.H++[nB vs],S.orc⟩,[vs.length<=Vb])
 | .Tuple es _ _=>bnd (jW F.ev es) λvs=>λS=>UX (.ref S.H.length,⟨S.H++[.tup vs],S.orc⟩,[vs.length<=Vb])
 | .Dict [] [] _=>λS=>UX (.ref S.H.length,⟨S.H++[.dict []],S.orc⟩,[])
 | .Attribute v x _=>match fD v with
  |true=>fail
  |false=>bnd (F.ev v) λa=>o.att a x
 | .Call (.Attribute v x ap) es [] pos=>match fD v,qj ap pos es with
  |false,UZ=>bnd (F.ev v) λa=>bnd (o.mth a x) λj=>bnd (jW F.ev es) λvs=>o.cal j.1 (j.2++vs)
  |_,_=>fail
 | .Call (.Attribute ..) _ _ _=>fail
 | .Call f es [] _=>bnd (F.ev f) λg=>bnd (jW F.ev es) λvs=>o.cal g vs
 |_=>fail
def BP (f:Ec) (o:dU) (F:bP) (e:Vv):M Bool:=match e with
 | .UnaryOp .Not x _=>bnd (F.tr x) λb=>ret (!b)
 | .BoolOp op es _=>Ep F.tr op es
 | .IfExp t b e _=>bnd (F.tr t) λc=>bnd (dec c) λd=>match d with
  |true=>F.tr b
  |false=>F.tr e
 | .Compare l [op] [r] _=>match X4 op r with
  |true=>fail
  |false=>bnd (F.ev l) λa=>bnd (F.ev r) λb=>bnd (o.cmp op a b) λv=>o.tru v
 | .Compare ..=>fail
 |e=>bnd (F.ev e) λv=>o.tru v
def yj (C:Ec) (o:dU) (F:bP) (e:Vv) (v:V):M Unit:=match e with
 | .Name x _=>jV C x v
 | .Tuple es _ _=>match fg es with
  |true=>bnd (o.unp v es.length) λvs=>qi F.asg es vs
  |false=>fail
 | .Subscript c (.Slice lo hi UY _) _=>bnd (F.ev c) λa=>bnd (uV F.ev lo) λl=>bnd (uV F.ev hi) λh=>o.ssl a l h v
 | .Subscript _ (.Slice ..) _=>fail
 | .Subscript c i _=>bnd (F.ev c) λa=>bnd (F.ev i) λb=>o.sit a b v
 | .Attribute c x _=>bnd (F.ev c) λa=>o.sat a x v
 |_=>fail
noncomputable def jA:O->Bool
 | .rngIt ..| .listIt ..| .datIt ..| .strIt ..=>UZ
 |_=>U0
def jB (i:Nat):M Unit:=λS=>match S.H[i]? with
 |some o=>match jA o with
  |true=>UX ((),S,[])
  |false=>UY
 |none=>UY
def gQ (C:Ec) (o:dU) (F:bP) (s:V4):M Fl:=match s with
 | .Expr e _=>match iP e with
  |true=>fail
  |false=>bnd (F.ev e) λv=>match v with
   | .none=>ret .next
   |_=>fail
 | .Pass _=>ret .next
 | .Break _=>ret .brk
 | .Continue _=>ret .cont
 | .Return UY _=>ret (.ret .none)
 | .Return (UX e) _=>bnd (F.ev e) λv=>ret (.ret v)
 | .Assign ts e _=>match iP e,qh ts e with
  |false,UZ=>bnd (F.ev e) λv=>bnd (jz F.asg v ts) λf=>ret .next
  |_,_=>fail
 | .AugAssign (.Name x _) op e _=>bnd (nm C x) λa=>bnd (F.ev e) λb=>bnd (o.iop op a b) λr=>bnd (jV C x r) λf=>ret .next
 | .AugAssign (.Subscript _ (.Slice ..) _) _ _ _=>fail
 | .AugAssign (.Subscript h i _) op e _=>bnd (F.ev h) λa=>bnd (F.ev i) λb=>bnd (o.gti a b) λg=>bnd (F.ev e) λv=>bnd (o.iop op g v) λr=>bnd (o.sit a b r) λf=>ret .next
 | .If t b e _=>bnd (F.tr t) λc=>bnd (dec c) λd=>match d with
  |true=>F.exs b
  |false=>F.exs e
 | .While t b e _=>F.wl t b e
 | .For t it b e _=>match eB it with
  |true=>fail
  |false=>bnd (F.ev it) λx=>bnd (o.iter x) λi=>match i with
   | .ref n=>F.fl t n b e
   |_=>fail
 |_=>fail
def kA (C:Ec) (o:dU) (F:bP) (t:Vv) (i:Nat) (b e:List V4):M Fl:=
 bnd (o.nxt i) λr=>match r with
  |none=>F.exs e
  |some v=>bnd (jB i) λa=>bnd (F.asg t v) λa=>bnd (iy C.trim (F.exs b)) λf=>match f with
   | .next| .cont=>F.fl t i b e
   | .brk=>ret .next
   | .ret v=>ret (.ret v)
def kB (C:Ec) (a:dU) (F:bP) (t:Vv) (b e:List V4):M Fl:=
 bnd (F.tr t) λc=>bnd (dec c) λd=>match d with
  |false=>F.exs e
  |true=>bnd (iy C.trim (F.exs b)) λf=>match f with
   | .next| .cont=>F.wl t b e
   | .brk=>ret .next
   | .ret v=>ret (.ret v)
noncomputable def jC (s:V4):Nat:=(fV s).line
noncomputable def nC (e:Vv):Nat:=xv e 0 λn p a a a=>match Yj n 12 with
 |true=>p.line*1000000+p.col*1000+p.endCol
 |false=>0
end
end
variable {C:Ec} {F:bP} {G:Ec->bP} {glob:List (Vd×GV)} {spS:Ec->Nat->Option (V4×M Fl)} {spE:Ec->Nat->Option (Vv×M V)}
section
section
set_option backward.match.sparseCases true in
noncomputable def ci (k:Nat) (f:U4) (xs:List U4):Xj U4:=do
 let r <-match <-ZV f,U0 with
  | .frame,UZ=>abA starredCall f xs []
  | .frame,U0=>if k > 30 then call f xs [] else abA plainCall f xs []
  | .boundFrame,U0=>if k > 30 then call f xs [] else abA callOfAMethodObject f xs []
  | .machine,U0=>call f xs []
  |_,_=>aaJ (f::(if U0 then xs.reverse else xs)++([]:List (Vd×U4)).map (·.2)) (call f xs [])
 WD [r] point
 pure r
structure aI (c:Cx) (C:Ec) (Z:Yk) (U:List U8):Prop where
 kind:Z.scope.kind= .function
 names:Z.scope.names=C.names
 glob:∀x v,ms x C.glob=UX v->∀h:Ve,(∀p∈c.KK,h.get? p.1=UX p.2)->∃mg,h.Ns Z.globals mg/\(mg x=UX v.val∨(mg x=UY/\∃mb,h.Ns Z.builtins mb/\mb x=UX v.val))
 loc:U[C.fid]?=UX Z.locals
 cells:∀x n,cT x C.cells=UX n->∃a,Z.cells.lookup x=UX a/\U[n]?=UX a
 trim:∀P,C.trim=UX P->P=c.w.params
theorem aI.at (x:aI c C Z U) (p:U <+:ρ'):aI c C Z ρ':=
 ⟨x.kind,x.names,x.glob,ai p x.loc,λy n e=>aj (x.cells y n e) λa b d=>(aA a b (ai p d)),x.trim⟩
structure cp (c:Cx) (A:Vm) (o:dU):Prop where
 bin:∀fz U op a b x y,VR fz U a x->VR fz U b y->ae c A fz U (o.bin op a b) (XA op x y) au
 iop:∀fz U op a b x y,VR fz U a x->VR fz U b y->ae c A fz U (o.iop op a b) (ace op x y) au
 cmp:∀fz U op a b x y,VR fz U a x->VR fz U b y->ae c A fz U (o.cmp op a b) (W2 op x y) au
 tru:∀fz U a x,VR fz U a x->ae c A fz U (o.tru a) (YY x) gP
 una:∀fz U op a x,VR fz U a x->ae c A fz U (o.una op a) (unaryOp op x) au
 idx:∀fz U value slice a b x y,(∀l h s p,slice≠aag l h s p)->VR fz U a x->VR fz U b y->ae c A fz U (o.idx a b) (WP value slice x y) au
 sli:∀fz U value lo hi p pos a l h x y z,VR fz U a x->VR fz U l y->VR fz U h z->
  ae c A fz U (o.sli a l h) (abd "slice" [y,z, .none] >>= λi=>WM pos >>= λd=>WP value (.Slice lo hi UY p) x i) au
 gti:∀fz U a b x y,VR fz U a x->VR fz U b y->ae c A fz U (o.gti a b) (Yw x y) au
 sit:∀fz U a b v x y z,VR fz U a x->VR fz U b y->VR fz U v z->ae c A fz U (o.sit a b v) (Y0 x y z) dJ
 ssl:∀fz U pos a l h v x y z u,VR fz U a x->VR fz U l y->VR fz U h z->VR fz U v u->
  ae c A fz U (o.ssl a l h v) (abd "slice" [y,z, .none] >>= λi=>WM pos >>= λd=>WD [u,x,i] (Y0 x i u) >>= λd=>acF [i,u,x] []) dJ
 att:∀fz U value n a x,VR fz U a x->ae c A fz U (o.att a n) (WD [x] (aaK x n UZ) >>= λr=>Y1 value x r >>= λd=>pure r) au
 sat:∀fz U n a v x z,VR fz U a x->VR fz U v z->ae c A fz U (o.sat a n v) (setAttr x n z) dJ
 mth:∀fz U n a x pl,VR fz U a x->ae c A fz U (o.mth a n) (W3 x n pl) o6
 cal:∀fz U k f vs xf xs,VR fz U f xf->av fz U vs xs->ae c A fz U (o.cal f vs) (ci k xf xs) au
 iter:∀fz U a x,VR fz U a x->ae c A fz U (o.iter a) (aaL x) au
 nxt:∀fz U i a,U[i]?=UX a->ae c A fz U (o.nxt i) (aaM (.ref a)) lf
 unp:∀fz U a x n,VR fz U a x->ae c A fz U (o.unp a n) (aa5 x n UY) zI
section
variable {o:dU} 
theorem ae.eq {t':Xj β} (e:t=t') (h:ae c A fz U m t' R):ae c A fz U m t R:=e▸h
theorem BQ (k:Const):ae c A fz U (BO k) (constValue Z k) au:=by
 induction k with
 |none=>exact ae.ret λd d d d=> .none
 |bool b=>exact ae.ret λd d d d=> .bool b
 |int i=>intro S a l q e m f ρ' s Q k p x y;refine b9 (db e) λg h j=>?_;subst g;subst h;subst j;exact wpAny_mkInt (y f ρ' _ _ (Le.refl _) (U6 _) (x.ta x.hr) (.int i _))
 |str t=>intro S a l q e m f ρ' s Q k p x y;refine b9 (db e) λg h j=>?_;subst g;subst h;subst j;exact Y2 (y f ρ' _ _ (Le.refl _) (U6 _) (x.ta x.hr) (.str t _))
 |_=>exact ae.fail
theorem gv {l:List (Vd×V)} (x:SR c fz' ρ' H s) (hi:H[i]?=UX (.frame l)) (f:ρ'[i]?=UX a):
  ∃m,s.heap.Ns a m/\∀y,d6 fz' ρ' (lk y l) (m y):=by
 refine aj (x.hr.at hi rfl f) λg h j=>(aj j λm b r=>?_)
 refine via λt e=>(aG b λk n o d=>?_)
 refine aN d λp q=>?_
 refine e ?_;clear e
 exact⟨m,⟨g,k,n,h,o,p,q⟩,r⟩
theorem yk {v:Option V} (x:SR c fz' ρ' H s) (hi:H[i]?=UX (.cell v)) (b:ρ'[i]?=UX a):
  ∃ob z,s.heap.get? a=UX ob/\ob.data= .cell z/\d6 fz' ρ' v z:=let⟨ob,e,z,h1,h2⟩:=x.hr.at hi rfl b;(cY ob z e h1 h2)
theorem ae.orF {o:Option α} {k:α->M β} {t:Xj γ} {R:bJ β γ} (h:∀a,o=UX a->ae c A fz U (k a) t R):ae c A fz U (orF o k) t R:=by
 induction o with
 |none=>exact ae.fail
 |some a=>exact h a rfl
theorem sW {t:Xj U4} {n:Nat} {b:U8} (f:U[n]?=UX b) (g:∀{ob:Xi} {z:U4} {s:U9} {Q:U4->U9->Prop},s.heap.get? b=UX ob->ob.data= .cell (UX z)->Q z s->Vh (Vi c.prog c.w) A t Q bE s):ae c A fz U (qf n) t au:=
 ae.run λS K h=>by
  unfold qf;induction i:S.H[n]? with
  |none=>exact Vf
  |some ob=>induction ob using O.casesOn with
   |cell v=>induction v with
    |none=>exact Vf
    |some v=>exact h _ _ _ λo a ρ' s Q q p d y=>cy (yk d i (ai p f)) λob z j k l=>aj (d6.i_some l) λz e m=>g j (k.trans (aD e rfl)) (y a ρ' s z (Le.refl _) (U6 _) d m)
   |_=>exact Vf
theorem Er {t:Xj U4} {n:Nat} {x:Vd} {b:U8} (e:U[n]?=UX b) (f:∀{m:Vd->Option U4} {z:U4} {s:U9} {Q:U4->U9->Prop},s.heap.Ns b m->m x=UX z->Q z s->Vh (Vi c.prog c.w) A t Q bE s):ae c A fz U (Eo n x) t au:=
 ae.run λS K g=>by
  unfold Eo;induction h:S.H[n]? with
  |none=>exact Vf
  |some i=>induction i using O.casesOn with
   |frame l=>
    refine(?_:OK (orF (lk x l) ret S) K);induction j:lk x l with
    |none=>exact Vf
    |some v=>exact g _ _ _ λu a ρ' s Q B p d y=>aj (gv d h (ai p e)) λm k o=>aj (d6.i_some (aD j (o x))) λz q r=>f k q (y a ρ' s z (Le.refl _) (U6 _) d r)
   |_=>exact Vf
theorem Es (e:aI c C Z U) {x:Vd} (g:Z.kindOf x=UX .globalImplicit) {v} (h1:ms x C.glob=UX v):ae c A fz U (ret v.toV) (abS Z x) au:=
 ae.run λS K h=>h _ _ _ λl b ρ' s Q m p d y=>aj (e.glob x v h1 s.heap λp i=>d.hr.fzle _ _ (d.hr.wd p i)) λn f r=>
  have a:Q v.val s:=y b ρ' s v.val (Le.refl _) (U6 _) d v.rep
  (loadName_read e.kind g).symm▸r.elim (λr=>loadGlobal_global f r a) λr=>aj r.2 λo j k=>abB f r.1 j k a
theorem uW (a:aI c C Z U) (x:Vd):ae c A fz U (nm C x) (abS Z x) au:=by
 have f:Z.kindOf x=kd x C.names:=by rw[fK];refine aD a.names ?_;rfl
 unfold nm;induction h:kd x C.names with
 |none=>exact ae.fail
 |some k=>
  have f:=f.trans h;induction k with
  |«local»=>exact Er a.loc λm o g=>WF a.kind f m o g
  |cell=>exact ae.orF λn i=>aj (a.cells x n i) λb d e=>sW e λj l g=>wpAny_loadName_cell a.kind f d (aA _ j l) g
  |free=>
   refine(?_:ae c A fz U (match En x with|true=>Mine.Internal.fail|false=>orF (cT x C.cells) qf) _ _);induction p:En x with
   |true=>exact ae.fail
   |false=>exact ae.orF λn i=>aj (a.cells x n i) λb d e=>sW e λj l g=>wpAny_loadName_free a.kind f d (aA _ j l) g p
  |globalImplicit=>exact ae.orF λv i=>Es a f i
  |_=>exact ae.fail
theorem zJ (b:aI c C Z U) {x:Vd} (h:Z.kindOf x=UX .local) (i:VR fz U v z):ae c A fz U (rG C.fid x v) (acf Z x z) dJ:=
 ae.run λS K j=>by
  unfold rG;induction g:S.H[C.fid]? with
  |none=>exact Vf
  |some k=>induction k using O.casesOn with
   |frame l=>
    exact j _ _ _ λI d ρ' s Q n p e y=>aj (gv e g (ai p b.loc)) λm o q=>wpAny_storeName_local h o (λJ f r=>jg f λt u B D E F G=>
     y d ρ' _ () (Le.refl _) (U6 _) (e.ta (e.hr.upd g rfl (ai p b.loc) r D ⟨_,(cY u B E F G),λw=>by
      rw[uN];by_cases a:w=x
      ·refine ac (if_pos a) ?_;refine ac (if_pos a) ?_;exact i.mono n p
      ·refine ac (if_neg a) ?_;refine ac (if_neg a) ?_;exact q w⟩)) trivial) (ac b.kind rfl)
   |_=>exact Vf
theorem xK (h:aI c C Z U) {x:Vd} (k:Z.kindOf x=UX .cell) (l:VR fz U v z) {n:Nat} (h1:cT x C.cells=UX n):ae c A fz U (o7 v n) (acf Z x z) dJ:=
 ae.run λS K m=>by
  unfold o7;induction i:S.H[n]? with
  |none=>exact Vf
  |some d=>induction d using O.casesOn with
   |cell j=>
    exact m _ _ _ λE e ρ' s Q o p f y=>aj (h.cells x n h1) λb g a=>cy (yk f i (ai p a)) λd F q r G=>wpAny_storeName_cell h.kind k g (aA d q r) λI t u=>
     aj t λw B D=>y e ρ' _ () (Le.refl _) (U6 _) (f.tz (f.hr.upd i rfl (ai p a) u B (aA (UX z) D (l.mono o p)))) trivial
   |_=>exact Vf
theorem gJ (b:aI c C Z U) (x:Vd) (d:VR fz U v z):ae c A fz U (jV C x v) (acf Z x z) dJ:=by
 have a:Z.kindOf x=kd x C.names:=by rw[fK];refine aD b.names ?_;rfl
 unfold jV;induction h:kd x C.names with
 |none=>exact ae.fail
 |some k=>
  have a:=a.trans h;induction k with
  |«local»=>exact zJ b a d
  |cell=>exact ae.orF λn e=>xK b a d e
  |_=>exact ae.fail
structure eh (c:Cx) (A:Vm) (C:Ec) (Z:Yk) (fz:Ve) (U:List U8):Prop where
 s:∀l st m,C.spS l=UX (st,m)->ae c A fz U m (aaW st Z) FR
 e:∀l e m,C.spE l=UX (e,m)->ae c A fz U m (Ws e Z) au
theorem eh.at (x:eh c A C Z fz U) (k:Le fz fz') (p:U <+:ρ'):eh c A C Z fz' ρ':=
 ⟨λl st m e=>(x.s l st m e).at k p,λl st m e=>(x.e l st m e).at k p⟩
structure bM (c:Cx) (A:Vm) (C:Ec) (Z:Yk) (fz:Ve) (U:List U8):Prop where
 eo:aI c C Z U
 sp:eh c A C Z fz U
theorem bM.at (x:bM c A C Z fz U) (k:Le fz fz') (p:U <+:ρ'):bM c A C Z fz' ρ':=⟨x.eo.at p,x.sp.at k p⟩
def kC (c:Cx) (A:Vm) (fz:Ve) (U:List U8) (m:M Fl) (code:Code):Prop:=
 ∀S f S' p,m S=UX (f,S',p)->ao p->∀fz' ρ' s (R:ZW->U9->Prop),Le fz fz'->U <+:ρ'->SR c fz' ρ' S.H s->dc c fz' ρ' S'.H FR f (λx a=>R (.ok x) a)->XB (Vi c.prog c.w) A code R s
structure bG (c:Cx) (A:Vm) (C:Ec) (Z:Yk) (F:bP):Prop where
 ev:∀fz U,bM c A C Z fz U->∀e,ae c A fz U (F.ev e) (Ws e Z) au
 tr:∀fz U,bM c A C Z fz U->∀e,ae c A fz U (F.tr e) (aa6 e Z (Ws e Z)) gP
 ex:∀fz U,bM c A C Z fz U->∀s,ae c A fz U (F.ex s) (aaW s Z) FR
 exs:∀fz U,bM c A C Z fz U->∀s,ae c A fz U (F.exs s) (aah s Z) FR
 asg:∀fz U,bM c A C Z fz U->∀e v z,VR fz U v z->ae c A fz U (F.asg e v) (ZI e Z z) dJ
 fl:∀fz U,bM c A C Z fz U->∀t i a b e,U[i]?=UX a->kC c A fz U (F.fl t i b e) (.forLoop t (.ref a) b e Z)
 wl:∀fz U,bM c A C Z fz U->∀t b e,kC c A fz U (F.wl t b e) (.whileLoop t b e Z)
theorem iz {x:Vv} {r:List Vv} (h:eg x=U0):WQ (x::r) Z=(U0,Ws x Z)::WQ r Z:=by
 induction x using VE with
 |Starred=>exact tf h
 |_=>rfl
theorem sX {x:Vv} {r:List Vv} {ev:Vv->M V} (h:eg x=U0):jW ev (x::r)=bnd (ev x) λv=>bnd (jW ev r) λvs=>ret (v::vs):=by refine(?_:(match eg x with|true=>_|false=>_)=_);exact ac h rfl
theorem uX {x:Vv} {r:List Vv} {ev:Vv->M V} (h:eg x=UZ):jW ev (x::r)=fail:=by refine(?_:(match eg x with|true=>_|false=>_)=_);exact ac h rfl
theorem nD (G:bM c A C Z fz U) (i:bG c A C Z F) (pos:XQ) (es:List Vv):∀(fz':Ve) (ρ':List U8),Le fz fz'->U <+:ρ'->ae c A fz' ρ' (jW F.ev es) (abe (XW pos (WQ es Z))) zI:=by
 induction es with
 |nil=>exact λd d d d=>ae.ret λd d d d=> .nil
 |cons e r j=>
  intro fz' ρ' k p;induction h:eg e with
  |true=>refine ac (uX h) ?_;exact ae.fail
  |false=>
   refine ac (iz h) (ac (sX h) ?_);refine ae.bind (i.ev _ _ (G.at k p) e) λl m a x n o q=>(ae.eq (t':=(WD [x] (abe (XW pos (WQ r Z)))) >>= λs=>pure ([x]++s)) rfl ?_)
   exact ae.bind (ae.holding (j l m (k.trans n) (p.trans o))) λw z b y t u v=>(ae.ret λB D f g=> .cons ((q.mono t u).mono f g) (v.mono f g))
set_option backward.match.sparseCases true in
theorem BR (G:bM c A C Z fz U) (h:bG c A C Z F) (q:cp c A o) (pos:XQ) (op:BoolOp) (es:List Vv) (fz':Ve) (ρ':List U8) (k:Le fz fz') (p:U <+:ρ'):ae c A fz' ρ' (tS F.ev o.tru op es) (boolOp pos op (evalEach es Z)) au:=by
 induction es generalizing fz' ρ' with
 |nil=>exact ae.fail
 |cons x r s=>
  induction r using VG with
  |nil=>exact h.ev _ _ (G.at k p) x
  |cons y r=>
  show ae c A fz' ρ' (bnd (F.ev x) λv=>bnd (o.tru v) λb=>bnd (dec b) λd=>match op,d with| .And,U0| .Or,UZ=>ret v|_,_=>tS F.ev o.tru op (y::r))
   (Ws x Z >>= λv=>WM pos >>= λe=>WD [v] (YY v) >>= λt=>(match op,t with| .And,U0| .Or,UZ=>pure v|_,_=>boolOp pos op (evalEach (y::r) Z))) au
  refine ae.bind (h.ev _ _ (G.at k p) x) λu w a z B D i=>ae.stand (ae.bind (ae.holding (q.tru u w a z i)) λj l b t m n E=>?_);have g:b=t:=E;subst g;refine ae.dec λd H=>?_;subst H;have f:=s j l (k.trans (B.trans m)) (p.trans (D.trans n));have done:ae c A j l (ret a) (pure z:Xj U4) au:=ae.ret λK L I J=>(i.mono m n).mono I J;cases op<;>cases b<;>first|exact done|exact f
theorem Et (G:bM c A C Z fz U) (g:bG c A C Z F) (op:BoolOp) (es:List Vv) (fz':Ve) (ρ':List U8) (k:Le fz fz') (p:U <+:ρ'):ae c A fz' ρ' (Ep F.tr op es) (allTrue op es Z) gP:=by
 induction es generalizing fz' ρ' with
 |nil=>exact ae.ret λa a a a=>rfl
 |cons x r h=>refine ac (arm_allTrue_cons ..) (ae.bind (g.tr _ _ (G.at k p) x) λi j b t l m n=>?_);have f:b=t:=n;subst f;refine ae.dec λd o=>?_;subst o;have e:=h i j (k.trans l) (p.trans m);cases op<;>cases b<;>first|exact e|exact ae.ret λa a a a=>rfl
theorem lh (G:bM c A C Z fz U) (b:bG c A C Z F) (e:Option Vv):ae c A fz U (uV F.ev e) (valueOrNone (evalOpt e Z)) au:=by
 induction e with
 |none=>exact ae.ret λa a a a=> .none
 |some e=>exact b.ev _ _ G e
noncomputable def Q3:Vv->Bool
 | .UnaryOp .Not _ _=>UZ
 | .BoolOp _ _ _=>UZ
 | .IfExp _ _ _ _=>UZ
 | .Compare _ _ _ _=>UZ
 |_=>U0
theorem uY (h:Q3 e=U0):aa6 e Z whole=(do let v <-whole;WM e.pos;WD [v] (YY v)):=by
 induction e using VE with
 |UnaryOp op x p=>induction op with
  |Not=>exact tf h
  |_=>rfl
 |BoolOp=>exact tf h
 |IfExp=>exact tf h
 |Compare=>exact tf h
 |_=>rfl
theorem BS {l r:Vv} (d:X4 op r=U0):Ws (.Compare l [op] [r] pos) Z=
  (Ws l Z >>= λa=>WD [a] (Ws r Z) >>= λb=>WM pos >>= λc=>aaJ [a,b] (W2 op a b)):=by
 rw[eval_Compare1,ads d]
theorem xL {l r:Vv} (d:X4 op r=U0):aa6 (.Compare l [op] [r] pos) Z whole=
  (Ws l Z >>= λa=>WD [a] (Ws r Z) >>= λb=>WM pos >>= λc=>aaJ [a,b] (W2 op a b) >>= λx=>WD [x] (YY x)):=by
 rw[isTrue_Compare1,ads d]
theorem LC (G:bM c A C Z fz U) (g:bG c A C Z F) (q:cp c A o) (e:Vv):ae c A fz U (BP C o F e) (aa6 e Z (Ws e Z)) gP:=by
 have plain:Q3 e=U0->ae c A fz U (bnd (F.ev e) λv=>o.tru v) (aa6 e Z (Ws e Z)) gP:=λh=>by exact ac (uY h) (ae.bind (g.ev _ _ G e) λm n a x k p s=>ae.stand (ae.holding (q.tru m n a x s)))
 induction e using VE with
 |UnaryOp op x p=>
  cases op with
  |Not=>rw[arm_isTrue_UnaryOp];refine(?_:ae c A fz U (bnd (F.tr x) λb=>ret (!b)) (aa6 x Z (Ws x Z) >>= λb=>pure (!b)) gP);refine ae.bind (g.tr _ _ G x) λm n a b k p i=>?_;have:a=b:=i;exact ac this (ae.ret λf f f f=>rfl)
  |_=>exact plain rfl
 |BoolOp op vs p=>rw[arm_isTrue_BoolOp];exact Et G g op vs fz U (Le.refl _) (U6 _)
 |IfExp t b B p=>
  rw[arm_isTrue_IfExp];refine ae.bind (g.tr _ _ G t) λm n a x k p i=>?_;have:a=x:=i;subst this;refine ae.dec λd u=>?_;subst u;cases a
  ·exact g.tr _ _ (G.at k p) B
  ·exact g.tr _ _ (G.at k p) b
 |Compare l j w p=>
  cases j with
  |nil=>exact ae.fail
  |cons op j=>
   cases j with
   |cons=>exact ae.fail
   |nil=>
    cases w with
    |nil=>exact ae.fail
    |cons r w=>
     cases w with
     |cons=>exact ae.fail
     |nil=>
      refine(?_:ae c A fz U (match X4 op r with|true=>fail|false=>bnd (F.ev l) λa=>bnd (F.ev r) λb=>bnd (o.cmp op a b) λv=>o.tru v) _ _);cases D:X4 op r with
      |true=>exact ae.fail
      |false=>refine ac (xL D) (ae.bind (g.ev _ _ G l) λm n a x k p s=>ae.bind (ae.holding (g.ev _ _ (G.at k p) r)) λE H b y I J K=>ae.stand (ae.bind (ae.operate (q.cmp E H op a b x y (s.mono I J) K)) λL M d z N O u=>ae.holding (q.tru L M d z u)))
 |_=>exact plain rfl
theorem uZ:∀{ns:List Int} {xs:List U4},lg vs=UX ns->av g U vs xs->Ww xs ns:=by
 induction vs with
 |nil=>intro ns xs h c;refine ac c.i0 (aD (U2 h) ?_);exact .nil
 |cons v r e=>
  intro ns xs h c;induction v with
  |int i=>
   dsimp only[lg] at h;induction d:lg r with
   |none=>rw[d] at h;exact nn h
   |some l=>
    rw[d] at h;refine c.ec λx q a b=>(a.e_int λt=>?_)
    exact aD (U2 h) (.cons _ _ (e d b))
  |_=>exact nn h
theorem u3 {n:Nat} (h:av g U vs xs):(nB vs).live=UZ/\OR P g U (nB vs) a (bT xs n):=by
 unfold nB;induction vs using VG with
 |nil=>exact⟨rfl,xs,n,rfl,h⟩
 |cons v r=>
  dsimp only;induction b:lg (v::r) with
  |none=>exact⟨rfl,xs,n,rfl,h⟩
  |some l=>exact⟨rfl,xs,n,rfl,uZ b h⟩
theorem yl (T:Bool) (h:av fz U vs xs):ae c A fz U (λS=>UX (V.ref S.H.length,⟨S.H++[if T then nB vs else .tup vs],S.orc⟩,[vs.length<=Vb])) (if T then newList xs else newTuple xs) au:=by
 intro S a m q e l d ρ' s Q k p b y;refine b9 (db e) λf g i=>?_;subst f;subst g;subst i;have j:xs.toArray.size<=Vb:=ac VJ (ac h.length l.1);induction T with
 |true=>refine V7 (y d _ _ _ (Le.refl _) (Vp _ _) (b.tz (b.hr.push _ (nB vs) rfl (u3 (h.mono k (p.trans (Vp _ _)))).2 (u3 (P:=c.w.params) (a:=0) (n:=0) h).1)) (.ref (bj b.hr.len.symm))) j
 |false=>refine V7 (y d _ _ _ (Le.refl _) (Vp _ _) (b.tz (b.hr.push _ (.tup vs) rfl (bL xs 0 rfl (h.mono k (p.trans (Vp _ _)))))) (.ref (bj b.hr.len.symm))) j
theorem de {f:U4} {c:List (Bool×Xj U4)} {Q:Args->U9->Prop} (d:(c.any λx=>x.1)=U0)
  (h:Vh Mo A (abe c) (λvs s'=>Q ⟨vs,[]⟩ s') E s):Vh Mo A (evalArgs f UZ c []) Q E s:=by
 induction c using VG with
 |nil=>unfold evalArgs;refine U1 (VH h (λvs s' e=>?_) λa a x=>x);exact U1 (U5 (Vq (U1 (U5 (U1 (U5 (U5 e)))))))
 |cons x r=>
  obtain⟨b,t⟩:=x;induction b with
  |true=>exact tf d
  |false=>exact Calls.evalArgs_plain h
theorem mw (G:bM c A C Z fz U) (X:bG c A C Z F) (OO:cp c A o) {f:V} {m:U4} {first:List V} {xfirst:List U4} (hf:VR fz U f m) (l:av fz U first xfirst) (pos:XQ) (es:List Vv):
  ae c A fz U (bnd (jW F.ev es) λvs=>o.cal f (first++vs)) (Y3 pos m xfirst (XW pos (WQ es Z)) []) au:=by
 have E:∀{fz U} {a:List V} {b:List U4} {d e},av fz U a b->av fz U d e->av fz U (a++d) (b++e):=λh1 h2=>by
  induction h1 with
  |nil=>exact h2
  |cons a _ H=>exact .cons a H
 have plain:∀S vs I q,jW F.ev es S=UX (vs,I,q)->(XW pos (WQ es Z)).any (·.1)=U0:=λS vs I q e=>by
  clear X;induction es generalizing S vs I q with
  |nil=>rfl
  |cons x r H=>
   induction h:eg x with
   |true=>rw[uX h] at e;exact nn e
   |false=>rw[sX h] at e;refine ac (iz h) (OK.use (G:=λg g g=>(XW pos ((U0,Ws x Z)::WQ r Z)).any (·.1)=U0) e λK D=>OK.bnd λv n J e1=>OK.bnd λus Y L e2=>?_);exact D _ _ _ (H n us Y L e2)
 refine ae.run λS K D=>OK.bnd λvs n J h=>OK.got λv Y L h'=>D _ _ _ λhq t ρ' s Q k p sr y=>?_
 clear D
 have u:=plain S vs n J h
 obtain⟨M,N⟩:=af.mp hq
 have go:Vh (Vi c.prog c.w) A (evalArgs m UZ (XW pos (WQ es Z)) []) (λa i=>Vh (Vi c.prog c.w) A (ci ((XW pos (WQ es Z)).length+2*([]:List (Option Vd×Xj U4)).length) m (xfirst++a.pos)) Q bE i/\a.kw=[]) bE s:=by
  have B:Vh (Vi c.prog c.w) A (abe (XW pos (WQ es Z))) (λO i=>Vh (Vi c.prog c.w) A (ci ((XW pos (WQ es Z)).length+2*([]:List (Option Vd×Xj U4)).length) m (xfirst++O)) Q bE i/\([]:List (Vd×U4))=[]) bE s:=by
   refine nD G X pos es t ρ' k p S vs n J h M t ρ' s _ (Le.refl _) (U6 _) sr λf2 r2 s2 O P R T hr=>⟨?_,rfl⟩
   exact OO.cal f2 r2 _ f (first++vs) m (xfirst++O) (hf.mono (k.trans P) (p.trans R)) (E (l.mono (k.trans P) (p.trans R)) hr) n _ _ L h' N f2 r2 s2 Q (Le.refl _) (U6 _) T
    λf3 r3 s3 z k3 q3 W hz=>y f3 r3 s3 z (P.trans k3) (R.trans q3) W hz
  exact de u B
 dsimp only[Y3]
 refine U1 (Vq (VH go (λa i j=>?_) λg g x=>x))
 obtain⟨j,hk⟩:=j
 obtain⟨ap,ak⟩:=a
 dsimp only at hk j
 refine ac hk (U1 (VM (ac u j)))
end
end
section
section
variable {o:dU} 
theorem jX {x:Vd} (h:ew x=U0):Ws (.Name x pos) Z=(WM pos >>= λa=>abS Z x):=eval_Name Z x pos h
theorem u4 {l r:Vv} {op:WX} :Ws (.BinOp l op r pos) Z=
  (Ws l Z >>= λa=>WD [a] (Ws r Z) >>= λb=>WM pos >>= λc=>aaJ [a,b] (XA op a b)):=rfl
theorem u5 {v i:Vv} :Ws (.Subscript v i pos) Z=
  (Ws v Z >>= λa=>WD [a] (Ws i Z) >>= λb=>WM pos >>= λc=>WP v i a b):=rfl
theorem qk {p:XQ}:Ws (.Slice lo hi UY p) Z=
  (valueOrNone (evalOpt lo Z) >>= λl=>WD [l] (valueOrNone (evalOpt hi Z)) >>= λu=>WD [l,u] (pure .none) >>= λs=>abd "slice" [l,u,s]):=rfl
theorem ae.hpure {vs:List U4} {a:β} {f:β->Xj γ} {R:bJ α γ} (h:ae c A fz U m (f a) R):ae c A fz U m (ZQ vs (pure a) >>= f) R:=by intro S b g q e i d ρ' s Q k p x y;exact U1 (Vq (U5 (h S b g q e i d ρ' s Q k p x y)))
theorem ae.unhold {vs:List U4} {f:β->Xj γ} {R:bJ α γ} (h:ae c A fz U m (t >>= f) R):ae c A fz U m (ZQ vs t >>= f) R:=by intro S b i q e j a ρ' s Q k p x y l d g;have z:=h S b i q e j a ρ' s Q k p x y l d g;rw[Sem.wp_bind'] at z ⊢;rw[Sem.wp_holding];exact z
theorem jY {f:Vv} {es:List Vv} (hf:∀a b p,f≠ .Attribute a b p):Ws (.Call f es [] pos) Z=
  (Ws f Z >>= λg=>Y3 pos g [] (XW pos (WQ es Z)) []):=by
 cases f<;>first|rfl|exact absurd rfl (hf _ _ _)
theorem fu {v:Vv} {x:Vd} (a:fD v=U0):Zv v x Z whole=whole:=by
 induction v using VE with
 |Call f b c p=>induction f using VE with
  |Name=>induction b with
   |nil=>induction c with
    |nil=>exact tf a
    |cons=>rfl
   |cons=>rfl
  |_=>rfl
 |_=>rfl
theorem u6 {v:Vv} {x:Vd} (c:fD v=U0):Ws (.Attribute v x pos) Z=
  (Ws v Z >>= λa=>WM pos.atName >>= λb=>WD [a] (aaK a x UZ) >>= λr=>Y1 v a r >>= λb=>pure r):=by
 rw[arm_eval_Attribute,fu c]
theorem mx {r:List Vv} (h:fg (e::r)=UZ):eg e=U0/\fg r=UZ:=by
 have h:(match eg e with|true=>U0|false=>fg r)=UZ:=h;induction a:eg e with
 |true=>rw[a] at h;exact ff h
 |false=>rw[a] at h;exact⟨rfl,h⟩
theorem BT {es:List Vv} (h:fg es=UZ):(XW pos (WQ es Z)).all (!·.1)=UZ:=by
 induction es with
 |nil=>rfl
 |cons e r a=>
  refine aN (mx h) λb c=>(ac (iz b) ?_)
  exact(ac3).mpr ⟨rfl,a c⟩
theorem jl {v:Vv} {x:Vd} {es:List Vv} (g:fD v=U0) (c:qj ap pos es=UZ):Ws (.Call (.Attribute v x ap) es [] pos) Z=
  (Ws v Z >>= λa=>WM ap.atName >>= λb=>WD [a] (W3 a x (do return (<-importBound v Z).getD UZ)) >>= λfr=>Y3 pos fr.1 fr.2 (XW pos (WQ es Z)) []):=by
 rw[adg];refine ac (fu g) ?_
 dsimp only[qj] at c
 simp only[VQ] at c
 refine via λl f=>(aN c λd h=>?_)
 obtain⟨i,j⟩:=d
 refine f ?_;clear f
 have e:aa7 (es.length+([]:List Keyword).length) (XW pos (WQ es Z)) (backToKw pos (acr [] Z))=UZ:=by dsimp only[aa7];exact ac (BT i) (ac (decide_eq_true (Wf j:es.length < 30)) rfl)
 have k:(ap.endLine==pos.line)=UZ:=beq_iff_eq.mpr (VK h)
 dsimp only[methodCall]
 refine ac e ?_
 unfold adh calleeOf
 exact ac k rfl
noncomputable def Rw (e:Vv):Bool:=VC e.ctorIdx (aag .none .none .none default).ctorIdx
theorem rH (h:Rw e=U0) (l u s:Option Vv) (q:XQ):e≠ .Slice l u s q:=λa=>by subst a;exact tf h
noncomputable def LD (e:Vv):Bool:=VC e.ctorIdx (Expr.Attribute (.Name "" default) "" default).ctorIdx
theorem BU (h:LD e=U0) (v:Vv) (x:Vd) (q:XQ):e≠ .Attribute v x q:=λa=>by subst a;exact tf h
theorem LF (G:bM c A C Z fz U) (j:bG c A C Z F) (B:cp c A o) (e:Vv):ae c A fz U (mv C o F e) (Ws e Z) au:=by
 induction e using VE with
 |Constant k a b=>exact BQ k
 |Name x p=>
  refine(?_:ae c A fz U (match ew x with|true=>fail|false=>nm C x) _ _);induction h:ew x with
  |true=>exact ae.fail
  |false=>refine ac (jX h) ?_;exact ae.stand (uW G.eo x)
 |BinOp l op r p=>exact ac u4 (ae.bind (j.ev _ _ G l) λm n a x k p u=>ae.bind (ae.holding (j.ev _ _ (G.at k p) r)) λH I b y D E L=>ae.stand (ae.operate (B.bin H I op a b x y (u.mono D E) L)))
 |UnaryOp op x p=>rw[arm_eval_UnaryOp];exact ae.bind (j.ev _ _ G x) λm n a z k p u=>ae.stand (ae.holding (B.una m n op a z u))
 |BoolOp op vs p=>rw[arm_eval_BoolOp];exact BR G j B p op vs fz U (Le.refl _) (U6 _)
 |IfExp t b e' p=>
  rw[arm_eval_IfExp];refine ae.bind (j.tr _ _ G t) λm n a x k p O=>?_;have:a=x:=O;subst this;refine ae.dec λd hd=>?_;subst hd;cases a
  ·exact j.ev _ _ (G.at k p) e'
  ·exact j.ev _ _ (G.at k p) b
 |Compare l J P p=>
  induction J with
  |nil=>exact ae.fail
  |cons op J=>
   induction J with
   |cons=>exact ae.fail
   |nil=>
    induction P with
    |nil=>exact ae.fail
    |cons r P=>
     induction P with
     |cons=>exact ae.fail
     |nil=>
      refine(?_:ae c A fz U (match X4 op r with|true=>fail|false=>bnd (F.ev l) λa=>bnd (F.ev r) λb=>o.cmp op a b) _ _);induction R:X4 op r with
      |true=>exact ae.fail
      |false=>exact ac (BS R) (ae.bind (j.ev _ _ G l) λm n a x k p u=>ae.bind (ae.holding (j.ev _ _ (G.at k p) r)) λH I b y D E L=>ae.stand (ae.operate (B.cmp H I op a b x y (u.mono D E) L)))
 |Subscript v i p=>
  have plain:(∀l h s q,i≠ .Slice l h s q)->ae c A fz U (bnd (F.ev v) λa=>bnd (F.ev i) λb=>o.idx a b) (Ws (.Subscript v i p) Z) au:=λN=>by exact ac u5 (ae.bind (j.ev _ _ G v) λm n a x k p u=>ae.bind (ae.holding (j.ev _ _ (G.at k p) i)) λH I b y D E L=>ae.stand (B.idx H I v i a b x y N (u.mono D E) L))
  induction i using VE with
  |Slice lo N st q=>
   induction st with
   |some=>exact ae.fail
   |none=>
    refine ac u5 (ac qk ?_);refine ae.bind (j.ev _ _ G v) λm n a x k2 p2 u=>(ae.unhold ?_)
    rw[bind_assoc];refine ae.bind (lh (G.at k2 p2) j lo) λH I l y D E hl=>?_;rw[bind_assoc];refine ae.bind (ae.holding (lh (G.at (k2.trans D) (p2.trans E)) j N)) λf4 r4 h z k4 p4 hh=>?_;rw[bind_assoc];exact ae.hpure (B.sli f4 r4 v lo N q p a l h x y z ((u.mono D E).mono k4 p4) (hl.mono k4 p4) hh)
  |_=>exact plain (rH rfl)
 |List w p=>rw[arm_eval_List];exact ae.stand (ae.bind (nD G j p w fz U (Le.refl _) (U6 _)) λm n vs xs k q h=>yl UZ h)
 |Tuple w a p=>rw[arm_eval_Tuple];exact ae.stand (ae.bind (nD G j p w fz U (Le.refl _) (U6 _)) λm n vs xs k q h=>yl U0 h)
 |Dict T vs p=>
  induction T with
  |cons=>exact ae.fail
  |nil=>
   induction vs with
   |cons=>exact ae.fail
   |nil=>rw[eval_Dict_empty];refine ae.stand (ae.run λS K hK=>hK _ _ _ λhq V ρ' s Q k pp W y=>?_);exact V7 (y V _ _ _ (Le.refl _) (Vp _ _) (W.tz (W.hr.push _ (.dict []) rfl (bL ([]) 0 rfl .nil))) (.ref (bj W.hr.len.symm)))
 |Attribute v x p=>
  refine(?_:ae c A fz U (match fD v with|true=>fail|false=>bnd (F.ev v) λa=>o.att a x) _ _);induction X:fD v with
  |true=>exact ae.fail
  |false=>exact ac (u6 X) (ae.bind (j.ev _ _ G v) λm n a z k q u=>ae.stand (B.att m n v x a z u))
 |Call f w T p=>induction T with
  |cons=>cases f<;>exact ae.fail
  |nil=>
   have plain:LD f=U0->ae c A fz U (bnd (F.ev f) λg=>bnd (jW F.ev w) λvs=>o.cal g ([]++vs)) (Ws (.Call f w [] p) Z) au:=λh=>by exact ac (jY (BU h)) (ae.bind (j.ev _ _ G _) λm n g z k r hg=>mw (G.at k r) j B (first:=[]) (xfirst:=[]) hg .nil p w)
   induction f using VE with
   |Attribute v x q=>
    refine(?_:ae c A fz U (match fD v,qj q p w with|false,UZ=>bnd (F.ev v) λa=>bnd (o.mth a x) λY=>bnd (jW F.ev w) λvs=>o.cal Y.1 (Y.2++vs)|_,_=>fail) _ _);induction X:fD v with
    |true=>exact ae.fail
    |false=>
     induction R:qj q p w with
     |false=>exact ae.fail
     |true=>exact ac (jl X R) (ae.bind (j.ev _ _ G v) λm n a z k r u=>ae.stand (ae.bind (ae.holding (B.mth m n x a z _ u)) λH I Y y D E M=>mw (G.at (k.trans D) (r.trans E)) j B M.1 M.2 p w))
   |_=>exact plain rfl
 |_=>exact ae.fail
end
end
section
section
variable {o:dU} 
theorem ae.bindName {x:Vd} {R:bJ α Unit} (h:ae c A fz U m (acf Z x z) R):ae c A fz U m (bindName Z x z) R:=
 λS a d q e f b ρ' s Q k p g y=>wpAny_bindName (h S a d q e f b ρ' s Q k p g y)
theorem i8 {vs:List U4} {Q:Unit->U9->Prop} (h:Q () s):Vh Mo A (acF vs keep) Q E s:=
 λb p a=>by rw[Sem.wp_release];exact h
theorem ae.released {t:Xj Unit} {vs:List U4} {R:bJ α Unit} (h:ae c A fz U m t R):ae c A fz U m (t >>= λb=>acF vs keep) R:=
 λS a f q e g d ρ' s Q k p i y=>U1 (VH (h S a f q e g d ρ' s Q k p i y) (λb b z=>i8 z) λb b z=>z)
theorem gw {x:Vv} {r:List Vv} (h:eg x=U0):Zp (x::r) Z=(U0,ZI x Z)::Zp r Z:=by
 induction x using VE with
 |Starred=>exact tf h
 |_=>rfl
theorem rI {es:List Vv} (h:fg es=UZ):(Zp es Z).length=es.length/\(Zp es Z).findIdx? (·.1)=UY/\(Zp es Z).map (·.2)=es.map λt=>ZI t Z:=by
 induction es with
 |nil=>exact⟨rfl,rfl,rfl⟩
 |cons e r c=>
  refine aN (mx h) λf g=>(b9 (c g) λa b d=>?_)
  refine ac (gw f) ⟨ac VD (ac VD (ac a rfl)),?_,ac Wc (ac Wc (ac d rfl))⟩;refine ac (List.findIdx?_cons) (ac b ?_);rfl
theorem BV (G:bM c A C Z fz U) (f:bG c A C Z F) (es:List Vv):∀(vs:List V) (xs:List U4) (fz':Ve) (ρ':List U8),Le fz fz'->U <+:ρ'->av fz' ρ' vs xs->
  ae c A fz' ρ' (qi F.asg es vs) (assignInOrder (es.map λt=>ZI t Z) xs) dJ:=by
 induction es with
 |nil=>
  intro vs xs fz' ρ' k p h;induction vs with
  |nil=>refine ac h.i0 ?_;exact ae.ret λa a a a=>trivial
  |cons=>exact ae.fail
 |cons e r g=>
  intro vs xs fz' ρ' k p h;induction vs with
  |nil=>exact ae.fail
  |cons v vs=>
   refine h.ec λx xs i j=>(?_:ae c A fz' ρ' (match eg e with|true=>fail|false=>bnd (F.asg e v) λa=>qi F.asg r vs) (WD xs (ZI e Z x) >>= λa=>assignInOrder (r.map λt=>ZI t Z) xs) dJ)
   induction eg e with
   |true=>exact ae.fail
   |false=>exact ae.bind (ae.holding (f.asg _ _ (G.at k p) e v x i)) λl m a a b d a=>g vs xs l m (k.trans b) (p.trans d) (j.mono b d)
theorem zK (G:bM c A C Z fz U) (g:bG c A C Z F) (es:List Vv):∀(fz':Ve) (ρ':List U8),Le fz fz'->U <+:ρ'->VR fz' ρ' v z->
  ae c A fz' ρ' (jz F.asg v es) (assignAll z ((Zp es Z).map (·.2))) dJ:=by
 induction es with
 |nil=>exact λa a a a a=>ae.ret λa a a a=>trivial
 |cons e r b=>
  intro fz' ρ' k p h;refine(?_:ae c A fz' ρ' (match eg e with|true=>fail|false=>bnd (F.asg e v) λa=>jz F.asg v r) _ _);induction m:eg e with
  |true=>exact ae.fail
  |false=>
   refine ac (gw m) (ac Wc ?_);induction r using VG with
   |nil=>refine ae.eq (t':=ZI e Z z >>= λu=>pure u) (bind_pure _).symm ?_;exact ae.bind (g.asg _ _ (G.at k p) e v z h) λi j a a d f a=>ae.ret λa a a a=>trivial
   |cons x y=>
    have b:=b;have n:jz F.asg v (x::y)=match eg x with|true=>fail|false=>bnd (F.asg x v) λa=>jz F.asg v y:=rfl;induction l:eg x with
    |true=>refine ac n (ac l ?_);exact ae.bfail
    |false=>rw[gw l,Wc] at b ⊢;exact ae.bind (ae.holding (g.asg _ _ (G.at k p) e v z h)) λi j a a d f a=>b i j (k.trans d) (p.trans f) (h.mono d f)
theorem Jp (G:bM c A C Z fz U) (g:bG c A C Z F) (E:cp c A o) (e:Vv) (r:VR fz U v z):ae c A fz U (yj C o F e v) (ZI e Z z) dJ:=by
 induction e using VE with
 |Name x p=>rw[PySem.assign_Name];exact ae.stand (ae.bindName (gJ G.eo x r))
 |Tuple j a p=>
  refine(?_:ae c A fz U (match fg j with|true=>bnd (o.unp v j.length) λvs=>qi F.asg j vs|false=>fail) _ _);induction h:fg j with
  |false=>exact ae.fail
  |true=>refine b9 (rI (Z:=Z) h) λN O P=>?_;rw[arm_assign_Tuple];refine ae.stand ?_;unfold unpack;refine ac N (ac O (ac P ?_));exact ae.bind (ae.holding (E.unp fz U v z j.length r)) λt u vs Q d f H=>BV G g j vs Q t u d f H
 |Subscript k i p=>
  have B:(∀l h s q,i≠ .Slice l h s q)->ae c A fz U (bnd (F.ev k) λa=>bnd (F.ev i) λb=>o.sit a b v) (ZI (.Subscript k i p) Z z) dJ:=λK=>by rw[arm_assign_Subscript];refine ae.bind (ae.holding (g.ev _ _ G k)) λt u a x d f D=>ae.bind (ae.holding (g.ev _ _ (G.at d f) i)) λL M b y m n R=>ae.stand (ae.released (ae.holding (E.sit L M a b v x y z (D.mono m n) R ((r.mono d f).mono m n))))
  induction i using VE with
  |Slice lo K st q=>
   induction st with
   |some=>exact ae.fail
   |none=>
    rw[arm_assign_Subscript];refine ac qk ?_;refine ae.bind (ae.holding (g.ev _ _ G k)) λt u a x d f D=>(ae.unhold ?_)
    rw[bind_assoc];refine ae.bind (lh (G.at d f) g lo) λL M l y m n S=>?_;rw[bind_assoc];refine ae.bind (ae.holding (lh (G.at (d.trans m) (f.trans n)) g K)) λT V h w I J H=>?_;rw[bind_assoc];exact ae.hpure (E.ssl T V p a l h v x y w z ((D.mono m n).mono I J) (S.mono I J) H (((r.mono d f).mono m n).mono I J))
  |_=>exact B (rH rfl)
 |Attribute k x p=>rw[arm_assign_Attribute];exact ae.bind (ae.holding (g.ev _ _ G k)) λt u a w d f D=>ae.stand (ae.released (ae.holding (E.sat t u x a v w z D (r.mono d f))))
 |_=>exact ae.fail
end
end
section
section
variable {o:dU} 
theorem BW (b:Z.scope.kind= .function) (c:iP e=U0):aaW (.Expr e pos) Z=(WM pos >>= λa=>Ws e Z >>= λv=>dropValue e pos v):=by
 refine exec_Expr Z e pos ?_ ?_
 ·dsimp only[Yp];refine ac b ?_;rfl
 ·cases e<;>first|rfl|exact tf c
theorem zL {ts:List Vv} {l:Nat} (a:iP e=U0):swapsWithSole ts e l Z=pure U0:=by
 induction ts using VG with
 |nil=>rfl
 |cons t r=>
  induction r using VG with
  |cons=>rfl
  |nil=>refine(?_:swapsWith e (UX t) l Z=pure U0);cases e<;>first|rfl|exact tf a
theorem xM {ts:List Vv} (h:qh ts e=UZ):swappedStores ts e Z=pure UY:=by
 rcases ts with _|⟨t,r⟩
 ·rfl
 ·induction t using VE with
  |Tuple=>induction r with
   |nil=>induction e using VE with
    |Tuple=>exact ff h
    |_=>rfl
   |cons=>rfl
  |List=>induction r with
   |nil=>induction e using VE with
    |Tuple=>exact ff h
    |_=>rfl
   |cons=>rfl
  |_=>rfl
theorem xN {f i:Vv} {d:XQ} {op:WX} (hi:∀l h s q,i≠ .Slice l h s q):aaW (.AugAssign (.Subscript f i d) op value pos) Z=
  (WM pos >>= λc=>Ws f Z >>= λa=>WD [a] (Ws i Z) >>= λb=>WD [a,b] (WM d >>= λc=>Yw a b >>= λe=>WD [e] (Ws value Z) >>= λv=>WM pos >>= λc=>aaJ [e,v] (ace op e v)) >>= λr=>
   WM d >>= λc=>WD [r,a,b] (Y0 a b r) >>= λc=>acF [r,a,b] [] >>= λc=>pure abt):=by
 cases i<;>first|rfl|exact absurd rfl (hi _ _ _ _)
theorem ae.stood {f:β->Xj γ} {R:bJ α γ} (h:ae c A fz U m (t >>= f) R):ae c A fz U m ((WM pos >>= λa=>t) >>= f) R:=by rw[bind_assoc];exact ae.stand h
theorem ae.rel {vs:List U4} {f:Unit->Xj β} (h:ae c A fz U m (f ()) R):ae c A fz U m (acF vs keep >>= f) R:=ae.pass (λa a h=>i8 h) h
theorem ke {it:Vv} (h:eB it=U0) (x:U4):abT it Z x=pure x:=by cases it<;>first|rfl|exact tf h
theorem Jq (G:bM c A C Z fz U) (d:bG c A C Z F) (ss:List V4) (fz':Ve) (ρ':List U8) (k:Le fz fz') (p:U <+:ρ'):ae c A fz' ρ' (cG F.ex ss) (aah ss Z) FR:=by
 induction ss generalizing fz' ρ' with
 |nil=>exact ae.ret λb b b b=>trivial
 |cons s r e=>
  refine ac (execs_cons ..) (ae.bind (d.ex _ _ (G.at k p) s) λf g a x i j h=>?_);induction a with
  |next=>cases x<;>first|exact h.elim|exact e f g (k.trans i) (p.trans j)
  |brk=>cases x<;>first|exact h.elim|exact ae.ret λb b b b=>trivial
  |cont=>cases x<;>first|exact h.elim|exact ae.ret λb b b b=>trivial
  |ret v=>cases x<;>first|exact h.elim|exact ae.ret λn o l m=>VR.mono l m h
theorem u7 {m:M Fl} (h:kC c A fz U m code):ae c A fz U m (runOwn code Z) FR:=by intro S f d q e g a ρ' s Q k p i y;refine wpAny_runOwn (h:=UY) ?_;refine ac (by cases A;rfl:A.mark UY=A) ?_;exact h S f d q e g a ρ' s _ k p i λj l n x o r b t=>y j l n x o r b t
theorem LG (G:bM c A C Z fz U) (g:bG c A C Z F) (K:cp c A o) (s:V4):ae c A fz U (gQ C o F s) (aaW s Z) FR:=by
 induction s using Zb with
 |Expr e p=>
  refine(?_:ae c A fz U (match iP e with|true=>fail|false=>bnd (F.ev e) λv=>match v with| .none=>ret Fl.next|_=>fail) _ _);induction h:iP e with
  |true=>exact ae.fail
  |false=>
   refine ac (BW G.eo.kind h) (ae.stand (ae.bind (g.ev _ _ G e) λD E a x k j m=>?_));induction m with
   |none=>refine ac (dropValue_plain (by intro a h;cases h)) ?_;exact ae.ret λf f f f=>trivial
   |_=>exact ae.fail
 |Pass p=>rw[exec_Pass];exact ae.stand (ae.ret λf f f f=>trivial)
 |Break p=>rw[arm_exec_Break];exact ae.stand (ae.ret λf f f f=>trivial)
 |Continue p=>rw[arm_exec_Continue];exact ae.stand (ae.ret λf f f f=>trivial)
 |Return e p=>
  induction e with
  |none=>rw[exec_Return_none];exact ae.stand (ae.ret λf f f f=> .none)
  |some e=>rw[exec_Return_some];refine ae.stand (ae.bind (g.ev _ _ G e) λD E a x k j m=>ae.ret λL M H B=>?_);exact VR.mono H B m
 |Assign I e p=>
  refine(?_:ae c A fz U (match iP e,qh I e with|false,UZ=>bnd (F.ev e) λv=>bnd (jz F.asg v I) λf=>ret Fl.next|_,_=>fail) _ _);induction h:iP e with
  |true=>exact ae.fail
  |false=>
   induction h':qh I e with
   |false=>exact ae.fail
   |true=>
    rw[exec_Assign_arm];refine ac (zL h) ?_;refine ae.stand (?_:ae c A fz U _ (Ws e Z >>= λv=>swappedStores I e Z >>= λw=>assignStores Z v w ((Zp I Z).map (·.2))) FR);refine ae.bind (g.ev _ _ G e) λD E a x k j m=>(ac (xM h') ?_)
    refine(?_:ae c A D E _ (assignAll x ((Zp I Z).map (·.2)) >>= λf=>pure abt) FR);exact ae.bind (zK (G.at k j) g I D E (Le.refl _) (U6 _) m) λf f f f f f f=>ae.ret λf f f f=>trivial
 |AugAssign t op e p=>
  induction t using VE with
  |Name x q=>rw[exec_AugAssign_Name];refine ae.stand (ae.bind (uW G.eo x) λD E a y k j m=>ae.bind (ae.holding (g.ev _ _ (G.at k j) e)) λL M b z H B R=>ae.stand (ae.bind (ae.operate (K.iop L M op a b y z (m.mono H B) R)) λf4 r4 d w S N O=>ae.stand (ae.bind (ae.bindName (gJ (((G.eo.at j).at B).at N) x O)) λf f f f f f f=>ae.ret λf f f f=>trivial)))
  |Subscript V i q=>
   have P:(∀l h s q,i≠ .Slice l h s q)->ae c A fz U (bnd (F.ev V) λa=>bnd (F.ev i) λb=>bnd (o.gti a b) λJ=>bnd (F.ev e) λv=>bnd (o.iop op J v) λr=>bnd (o.sit a b r) λf=>ret Fl.next) (aaW (.AugAssign (.Subscript V i q) op e p) Z) FR:=λW=>by refine ac (xN W) (ae.stand (ae.bind (g.ev _ _ G V) λD E a x k j m=>ae.bind (ae.holding (g.ev _ _ (G.at k j) i)) λL M b y H B R=>ae.unhold (ae.stood ?_)));rw[bind_assoc];refine ae.bind (K.gti L M a b x y (m.mono H B) R) λf4 r4 J z S N Q=>?_;rw[bind_assoc];refine ae.bind (ae.holding (g.ev _ _ (((G.at k j).at H B).at S N) e)) λf5 r5 v w X Y hv=>ae.stood (ae.bind (ae.operate (K.iop f5 r5 op J v z w (Q.mono X Y) hv)) λf6 r6 d u k6 p6 O=>ae.stand ?_);exact ae.bind (ae.holding (K.sit f6 r6 a b d x y u ((((m.mono H B).mono S N).mono X Y).mono k6 p6) (((R.mono S N).mono X Y).mono k6 p6) O)) λf f f f f f f=>ae.rel (ae.ret λf f f f=>trivial)
   induction i using VE with
   |Slice=>exact ae.fail
   |_=>exact P (rH rfl)
  |_=>exact ae.fail
 |If t b e p=>
  rw[exec_If];refine ae.stand (ae.bind (g.tr _ _ G t) λD E a x k j a0=>?_);have:a=x:=a0;subst this;refine ae.dec λd O=>?_;subst O;cases a
  ·exact g.exs _ _ (G.at k j) e
  ·exact g.exs _ _ (G.at k j) b
 |While t b e p=>rw[exec_While];exact ae.stand (u7 (g.wl _ _ G t b e))
 |For t T b e p=>
  refine(?_:ae c A fz U (match eB T with|true=>fail|false=>bnd (F.ev T) λx=>bnd (o.iter x) λi=>match i with| .ref n=>F.fl t n b e|_=>fail) _ _);induction h:eB T with
  |true=>exact ae.fail
  |false=>
   rw[exec_For];refine ae.stand (ae.bind (g.ev _ _ G T) λD E a x k j m=>?_);rw[ke h];refine ae.stand (ae.bind (ae.holding (K.iter D E a x m)) λL M i y H B W=>?_);induction W with
   |ref hn=>exact u7 (g.fl _ _ ((G.at k j).at H B) t _ _ b e hn)
   |_=>exact ae.fail
 |_=>exact ae.fail
end
end
section
section
variable {o:dU} 
set_option backward.match.sparseCases true in
theorem lj {c:Vv} {n:String} {Q:Unit->U9->Prop} (e:s.heap.get? a=UX ob) (f:ob.cls= .type n)
  (g:(["enumerate","zip","dict_itemiterator","dict_reverseitemiterator","odict_iterator","itertools.zip_longest","itertools.pairwise"]:List String).contains n=U0) (h:Q () s):Vh Mo A (aaS c (.ref a) z) Q E s:=by
 have d:∀b:U8,Vh Mo A (do
   let o <-load a
   match o.cls,o.data with
   | .type n, .fields vs=>
    if["enumerate","zip","dict_itemiterator","dict_reverseitemiterator","odict_iterator","itertools.zip_longest","itertools.pairwise"].contains n&&vs[0]?==UX (WO b) then
     rule "for.unpacks-the-owned-tuple"
     updateField a 0 .none
   |_,_=>pure ()) Q E s:=λb=>by
  refine U1 (Zq e ?_)
  refine ac f ?_
  induction ob.data using acG with
  |fields vs=>dsimp only;exact ac g (U5 h)
  |_=>exact U5 h
 unfold aaS
 induction c using VE with
 |Tuple=>cases z<;>first|exact U5 h|exact d _
 |List=>cases z<;>first|exact U5 h|exact d _
 |_=>exact U5 h
theorem BX (h:SR c fz' ρ' H s) {ob:O} (hi:H[i]?=UX ob) (hl:jA ob=UZ) (j:ρ'[i]?=UX a):
  ∃x n,s.heap.get? a=UX x/\x.cls= .type n/\(["enumerate","zip","dict_itemiterator","dict_reverseitemiterator","odict_iterator","itertools.zip_longest","itertools.pairwise"]:List String).contains n=U0:=by
 have f:ob.live=UZ:=by cases ob<;>first|rfl|cases hl
 refine eX (h.hr.obj i ob hi f) λp x k g e e r=>?_
 obtain rfl:=U2 (j.symm.trans k)
 induction ob with
 |rngIt=>exact⟨x,"range_iterator",g,ac (show x=_ from r) rfl,by decide⟩
 |listIt=>obtain⟨b,_,d,_⟩:=r;exact⟨x,"list_iterator",g,d,by decide⟩
 |datIt=>obtain⟨b,_,d,_⟩:=r;exact⟨x,"list_iterator",g,d,by decide⟩
 |strIt=>
  refine cy r λt l m o e=>(cY x l g o ?_)
  rcases m with rfl|rfl<;>decide
 |_=>cases hl
theorem my {S:St} {u:Unit} {p:List Prop} (g1:jB i S=UX (u,S',p)):∃ob,S.H[i]?=UX ob/\jA ob=UZ/\S'=S/\p=[]:=by
 refine OK.use g1 λK a=>?_;unfold jB;induction b:S.H[i]? with
 |none=>exact Vf
 |some ob=>
  dsimp only;induction c:jA ob with
  |false=>exact Vf
  |true=>exact a _ _ _ (oF ob b c rfl rfl)
theorem u8 {d:Bool} {S:St} {p:List Prop} (e:dec b S=UX (d,S',p)) (a:ao p):b=d/\S'.H=S.H:=by
 revert a;refine OK.use e λK f=>?_;obtain⟨H,c⟩:=S;induction c using VG with
 |nil=>exact Vf
 |cons o r=>exact f _ _ _ λa=>⟨a.1,rfl⟩
theorem BY {m:M Fl} {fl f:Fl} {w:Flow} {l:St} {p5:List Prop} {R:ZW->U9->Prop} {g:Ve} {h:List U8} {s4:U9}
  (a:m l=UX (f,S',p5)->dc c g h S'.H FR f (λx s'=>R (.ok x) s')->XB (Vi c.prog c.w) A code R s4)
  (k:(match(generalizing:=false) fl with| .next| .cont=>m| .brk=>ret Fl.next| .ret v=>ret (Fl.ret v)) l=UX (f,S',p5)) (i:FR g h fl w) (j:SR c g h l.H s4) (y:dc c g h S'.H FR f (λx s'=>R (.ok x) s')) (o:code.quiet=UZ):
  Vh (Vi c.prog c.w) A (match w with| .next| .cont=>again code| .brk=>pure (.done .next)| .ret v=>pure (.done (.ret v))) (λn s'=>match n with| .done f=>R (.ok f) s'| .again c'=>c'.quiet=UZ/\XB (Vi c.prog c.w) A c' R s') bE s4:=by
 induction fl with
 |next=>cases w<;>first|exact i.elim|exact U5 ⟨o,a k y⟩
 |cont=>cases w<;>first|exact i.elim|exact U5 ⟨o,a k y⟩
 |brk=>
  cases w<;>first|exact i.elim|skip
  refine b9 (db k) λb d e=>?_;subst b;subst d;subst e;exact U5 (y g h s4 .next (Le.refl _) (U6 _) j trivial)
 |ret u=>
  cases w<;>first|exact i.elim|skip
  refine b9 (db k) λb d e=>?_;subst b;subst d;subst e;exact U5 (y g h s4 (.ret _) (Le.refl _) (U6 _) j i)
theorem LH (G:bM c A C Z fz U) (O:bG c A C Z F) (OO:cp c A o) (t:Vv) (i:Nat) (a:U8) (b e:List V4) (m:U[i]?=UX a):kC c A fz U (kA C o F t i b e) (.forLoop t (.ref a) b e Z):=by
 intro S f u q he;refine OK.use he λK B=>OK.bnd λr S1 p1 h1=>OK.got λf u p2 T=>B _ _ _ λj D ρ' s R k p sr y=>?_;clear B he;obtain⟨I,J⟩:=af.mp j;clear j;refine X1 (ac (YC (A:=A) (c:=Code.forLoop t (.ref a) b e Z) rfl) ?_);show Vh (Vi c.prog c.w) A ((acH t (.ref a) b e Z).onRaise (λx=>do aaB x Z;X2 x)) _ _ s;refine X5 (VH (E:=bE) ?_ (λd d h=>h) λd d h=>h.elim);unfold acH;refine U1 (VM (U1 (X5 (VH (E:=bE) (OO.nxt D ρ' i a (ai p m) S r S1 p1 h1 I D ρ' s _ (Le.refl _) (U6 _) sr λL M s2 x k2 V l W=>?_) (λd d h=>h) λd d h=>h.elim))));have P:=G.at (k.trans k2) (p.trans V);have m:=ai V (ai p m);have y:dc c L M u.H FR f (λx s'=>R (.ok x) s'):=λX Y s5 w5 k5 q5=>y X Y s5 w5 (k2.trans k5) (V.trans q5);clear h1 I sr;induction r with
 |none=>induction x with
  |some=>exact W.elim
  |none=>exact U5 ⟨rfl,codeAny_block (VH (E:=bE) (O.exs L M P e S1 f u p2 T J L M s2 (λz s3=>R (.ok z) s3) (Le.refl _) (U6 _) l y) (λd d h=>h) λd d h=>h.elim)⟩
 |some v=>induction x with
  |none=>exact W.elim
  |some z=>revert J y;refine OK.use T λK B=>OK.bnd λd S2 q1 g1=>?_;refine fA (my g1) λob hh hl a0 a1=>?_;subst a0;subst a1;clear T g1;refine OK.bnd λd S3 a2 g3=>OK.bnd λfl S4 a3 g5=>OK.got λf u p5 g6=>B _ _ _ λj y=>?_;clear B;refine cy (BX l hh hl m) λxo n e1 e2 e3=>?_;obtain⟨a4,j⟩:=af.mp (af.mp j).2;obtain⟨a5,a6⟩:=af.mp j;clear j hh;refine U1 (lj e1 e2 e3 ?_);refine U1 (O.asg L M P t v z W S2 _ S3 a2 g3 a4 L M s2 _ (Le.refl _) (U6 _) l λf3 r3 s3 d k3 Q a7 d=>?_);refine U1 ((oJ (htr:=G.eo.trim) (O.exs f3 r3 (P.at k3 Q) b)) S3 fl S4 a3 g5 a5 f3 r3 s3 _ (Le.refl _) (U6 _) a7 λf4 r4 s4 w k4 q4 N hw=>?_);exact BY (λg y=>O.fl f4 r4 (P.at (k3.trans k4) (Q.trans q4)) t i a b e (ai (Q.trans q4) m) S4 f u p5 g a6 f4 r4 s4 R (Le.refl _) (U6 _) N y) g6 hw N (λX Y s5 w5 k5 q5=>y X Y s5 w5 (k3.trans (k4.trans k5)) (Q.trans (q4.trans q5))) rfl
theorem LI (G:bM c A C Z fz U) (M:bG c A C Z F) (OO:cp c A o) (t:Vv) (b e:List V4):kC c A fz U (kB C o F t b e) (.whileLoop t b e Z):=by
 intro S f m q he;refine OK.use he λK n=>OK.bnd λi S1 p1 h1=>OK.bnd λd S2 q1 h3=>OK.got λf m q2 N=>n _ _ _ λl r ρ' s R k p sr y=>?_;clear n he;refine aN (af.mp l) λu l=>(aN (af.mp l) λv B=>?_)
 clear l;refine aN (u8 h3 v) λO hH=>?_;subst O;clear h3 v;refine X1 ((YC (A:=A) (c:=Code.whileLoop t b e Z) rfl).symm▸ ?_);show Vh (Vi c.prog c.w) A ((whileTurn t b e Z).onRaise (λx=>do aaB x Z;X2 x)) _ _ s;refine X5 (VH (E:=bE) ?_ (λa a h=>h) λa a h=>h.elim);unfold whileTurn;refine U1 (M.tr r ρ' (G.at k p) t S i S1 p1 h1 u r ρ' s _ (Le.refl _) (U6 _) sr λD I s2 x k2 J j hx=>?_);obtain rfl:i=x:=hx;have P:=G.at (k.trans k2) (p.trans J);have y:dc c D I m.H FR f (λx s'=>R (.ok x) s'):=λQ T V W X Y=>y Q T V W (k2.trans X) (J.trans Y);simp only[<-hH] at j;clear h1 u sr;induction i with
 |false=>exact U1 (VH (E:=bE) (M.exs D I P e S2 f m q2 N B D I s2 (λz s3=>R (.ok z) s3) (Le.refl _) (U6 _) j y) (λa a h=>U5 h) λa a h=>h)
 |true=>
  revert B y;refine OK.use N λK n=>OK.bnd λfl S4 a0 g5=>OK.got λf m p5 g6=>n _ _ _ λl y=>?_;clear n N;refine aN (af.mp l) λa1 a2=>(U1 ((oJ (htr:=G.eo.trim) (M.exs D I P b)) S2 fl S4 a0 g5 a1 D I s2 _ (Le.refl _) (U6 _) j λf4 r4 s4 w k4 q4 L hw=>?_))
  exact BY (λg y=>M.wl f4 r4 (P.at k4 q4) t b e S4 f m p5 g a2 f4 r4 s4 R (Le.refl _) (U6 _) L y) g6 hw L (λQ T V W X Y=>y Q T V W (k4.trans X) (q4.trans Y)) rfl
end
end
noncomputable def u9 (o:O):M Nat:=λS=>UX (S.H.length,⟨S.H++[o],S.orc⟩,[])
noncomputable def tT (f:Nat):M Unit:=λS=>match S.H[f]? with
 |some (.frame _)=>UX ((),⟨S.H.set f .dead,S.orc⟩,[])
 |_=>UY
noncomputable def vc (a:Nat) (v:V):M Unit:=λS=>match S.H[a]? with
 |some (.list xs)=>UX ((),⟨S.H.set a (.list (xs++[v])),S.orc⟩,[xs.length<=Vb])
 |_=>UY
def vd (C:Ec):List (Vd×Wm)->List (Vd×Wm)
 |[]=>[]
 |(n,k)::r=>(match k with
  | .free=>(match kd n C.names with
   |some .cell=>(n, .cell)
   |_=>(n, .free))
  |k=>(n,k))::vd C r
def gy (C:Ec):List (Vd×Wm)->Option (List (Vd×Nat))
 |[]=>UX []
 |(n,k)::r=>match k with
  | .free=>match cT n C.cells,gy C r with
   |some i,UX l=>UX ((n,i)::l)
   |_,_=>UY
  |_=>gy C r
noncomputable def isFn:ScopeKind->Bool
 | .function=>UZ
 |_=>U0
noncomputable def HM:Wm->Bool
 | .local=>UZ
 |_=>U0
noncomputable def BZ:Wm->Bool
 | .cell=>UZ
 |_=>U0
def tU (all:List (Vd×Wm)):List (Vd×Wm)->Bool
 |[]=>UZ
 |(n,k)::r=>(!BZ k)&&(match HM k with
  |true=>(match kd n all with
   |some .local=>UZ
   |_=>U0)
  |false=>UZ)&&tU all r
def ql (scope:XR) (x:Vd):Bool:=isFn scope.kind&&tU scope.names scope.names&&(match kd x scope.names with
 |some .local=>UZ
 |_=>U0)
def ve (f:Vv->M Bool):List Vv->M Bool
 |[]=>ret UZ
 |e::r=>bnd (f e) λb=>bnd (dec b) λd=>match d with
  |true=>ve f r
  |false=>ret U0
noncomputable def bk:Nat->Option (V4×M Fl):=λa=>UY
noncomputable def br:Nat->Option (Vv×M V):=λa=>UY
noncomputable def eY (o:dU) (C:Ec) (F:bP) (elt:Vv) (ifs:List Vv) (x:Vd) (i a:Nat):Nat->M Unit
 |0=>fail
 |n+1=>bnd (o.nxt i) λr=>match r with
  |none=>ret ()
  |some v=>bnd (jB i) λb=>bnd (jV C x v) λb=>bnd (ve F.tr ifs) λc=>match c with
   |true=>bnd (F.ev elt) λy=>bnd (vc a y) λb=>eY o C F elt ifs x i a n
   |false=>eY o C F elt ifs x i a n
def mz (C:Ec) (scope:XR) (cl:List (Vd×Nat)) (f:Nat):Ec:={names:=vd C scope.names,cells:=cl,fid:=f,glob:=C.glob,spS:=bk,spE:=br}
def ey (C:Ec) (o:dU) (G:Ec->bP) (n:Nat) (elt:Vv) (x:Vd) (iter:Vv) (ifs:List Vv) (scope:XR) (use:V->M Unit):M V:=
 match ql scope x&& !eB iter,gy C scope.names with
 |true,UX cl=>bnd ((G C).ev iter) λxv=>bnd (o.iter xv) λit=>match it with
  | .ref i=>bnd (jB i) λb=>bnd (u9 (.list [])) λa=>bnd (u9 (.frame [])) λf=>
   bnd (eY o (mz C scope cl f) (G (mz C scope cl f)) elt ifs x i a n) λb=>bnd (use (.ref a)) λb=>bnd (tT f) λb=>ret (.ref a)
  |_=>fail
 |_,_=>fail
def nE (C:Ec) (y:Vd) (py:XQ) (scope:XR) (pos:XQ):Bool:=(match kd y C.names with
 |some .local=>UZ
 |_=>U0)&&(py.line==pos.line)&& !(scope.names.any λ(n,k)=>n==y&&(k== .local||k== .cell))
structure Lc where
 elt:Vv
 x:Vd
 px:XQ
 iter:Vv
 ifs:List Vv
 scope:XR
 pos:XQ
noncomputable def sY:Vv->Option Lc
 | .ListComp elt [⟨.Name x px,iter,ifs,0⟩] scope pos=>UX ⟨elt,x,px,iter,ifs,scope,pos⟩
 |_=>UY
theorem o8 {l:Lc} (h:sY e=UX l):e= .ListComp l.elt [⟨.Name l.x l.px,l.iter,l.ifs,0⟩] l.scope l.pos:=by
 induction e using VE with
 |ListComp b gs a c=>induction gs with
  |nil=>exact nn h
  |cons g r=>
   obtain⟨t,iter,d,n⟩:=g;induction t using VE with
   |Name x f=>induction n with
    |ofNat n=>induction n with
     |zero=>induction r with
      |nil=>refine(U2 h)▸ ?_;rfl
      |cons=>exact nn h
     |succ=>exact nn h
    |negSucc=>exact nn h
   |_=>exact nn h
 |_=>exact nn h
noncomputable def HN:V4->Option (Vv×Vv×XQ)
 | .Assign [t] v p=>UX (t,v,p)
 |_=>UY
theorem vf {s:V4} {r:Vv×Vv×XQ} (h:HN s=UX r):s= .Assign [r.1] r.2.1 r.2.2:=by
 induction s using Zb with
 |Assign a v p=>induction a with
  |nil=>exact nn h
  |cons t q=>induction q with
   |nil=>exact aD (U2 h) rfl
   |cons=>exact nn h
 |_=>exact nn h
noncomputable def aE (o:dU):Nat->Ec->bP
 |0,_=>⟨λa=>fail,λa=>fail,λa=>fail,λa=>fail,λa a=>fail,λa a a a=>fail,λa a a=>fail⟩
 |n+1,C=>
  let F:=aE o n C
  {ev:=λe=>match C.spE (nC e) with
    |some (c,m)=>bnd (need (e=c)) λa=>m
    |none=>match sY e with
     |some l=>ey C o (aE o n) n l.elt l.x l.iter l.ifs l.scope λa=>ret ()
     |none=>mv C o F e
   tr:=BP C o F
   ex:=λs=>match C.spS (jC s) with
    |some (d,m)=>bnd (need (s=d)) λa=>m
    |none=>match HN s with
     |some r=>match sY r.2.1 with
      |some l=>match r.1 with
       | .Name y py=>match nE C y py l.scope l.pos with
        |true=>bnd (ey C o (aE o n) n l.elt l.x l.iter l.ifs l.scope λv=>jV C y v) λa=>ret .next
        |false=>bnd (ey C o (aE o n) n l.elt l.x l.iter l.ifs l.scope λa=>ret ()) λv=>bnd (jV C y v) λa=>ret .next
       | .Subscript f i b=>bnd (ey C o (aE o n) n l.elt l.x l.iter l.ifs l.scope λa=>ret ()) λv=>bnd (F.asg (.Subscript f i b) v) λa=>ret .next
       |_=>gQ C o F s
      |none=>gQ C o F s
     |none=>gQ C o F s
   exs:=cG F.ex
   asg:=yj C o F
   fl:=kA C o F
   wl:=kB C o F}
section
section
variable {o:dU} 
theorem sZ (o:SR c fz' ρ' H s) {ob:O} (hi:H[i]?=UX ob) (hl:jA ob=UZ) (p:ρ'[i]?=UX a)
  (h:Q (.ref a) s):Vh (Vi c.prog c.w) A (aaL (.ref a)) Q E s:=by
 have g:ob.live=UZ:=by cases ob<;>first|rfl|cases hl
 refine eX (o.hr.obj i ob hi g) λz x q f e e r=>?_
 obtain rfl:=U2 (p.symm.trans q)
 induction ob with
 |rngIt v l st=>exact wpAny_pyIter_rangeiter (x:=v) (left:=l) (step:=st) (by rw[show x=_ from r] at f;exact f) h
 |listIt l n=>obtain⟨b,_,d,j⟩:=r;exact aaX (l:=b) (i:=n) (cE _ f d j) h
 |datIt l n=>obtain⟨b,_,d,j⟩:=r;exact aaX (l:=b) (i:=n) (cE _ f d j) h
 |strIt t n=>
  refine cy r λu B y k m=>?_;rcases y with rfl|rfl
  ·exact wpAny_pyIter_striter_wide (x:=t) (t:=u) (i:=n) (cE _ f k m) h
  ·exact wpAny_pyIter_striter_ascii (x:=t) (t:=u) (i:=n) (cE _ f k m) h
 |_=>cases hl
theorem nF {c:List V}:∀{xs ys:List U4},av g U vs xs->av g U c ys->av g U (vs++c) (xs++ys):=by
 induction vs with
 |nil=>intro xs ys h k;refine ac h.i0 ?_;exact k
 |cons v r d=>intro xs ys h k;exact h.ec λx u a b=>(.cons a (d b k))
theorem av.snoc {x:U4} (h:av g U vs xs) (k:VR g U v x):av g U (vs++[v]) (xs++[x]):=nF h (.cons k .nil)
theorem kD {vs vs':List U4} {n:Nat} {f:Array U4->Array U4} (e:h.get? a=UX (bT vs n)) (hf:f vs.toArray=vs'.toArray):∃m,(h.update a (Xl f)).get? a=UX (bT vs' m):=by have:=IsL.update (n:=n) e f;rw[hf] at this;exact⟨_,this⟩
theorem Jr {a:Nat} {aa:U8} {x:U4} (r:U[a]?=UX aa) (C:VR fz U v x):ae c A fz U (vc a v) (call (.builtin "list.append") [.ref aa,x]) (λ_ _ _ (_:U4)=>True):=by
 intro S u I q e D h ρ' s Q k p i y;dsimp only[vc] at e;induction g:S.H[a]? with
 |none=>rw[g] at e;exact nn e
 |some E=>
  rw[g] at e;induction E with
  |list t=>
   refine b9 (db e) λd j l=>(ac d ?_)
   subst j;subst l;refine eX (i.hr.obj a _ g rfl) λJ w z o b b F=>(aG F λvs n d B=>?_)
   subst d;rw[ai p r] at z;obtain rfl:=U2 z;refine YO abU (T:="list") (aA _ o rfl) abH (abC _ _) (list_append aa vs.toArray n x (ac VJ (ac B.length D.1):vs.toArray.size<=Vb)) ⟨o,?_⟩;refine bI (kD (f:=λt=>t.push x) (vs':=vs++[x]) o (by simp)) λm G=>?_;exact y h ρ' _ _ (Le.refl _) (U6 _) (i.tz (i.hr.upd g rfl (ai p r) (VT ..) G (bL (vs++[x]) m rfl (B.snoc (C.mono k p))))) trivial
  |_=>exact nn e
theorem zM {all:List (Vd×Wm)} {l:List (Vd×Wm)} (h:tU all l=UZ) (y) (b:y∈l):y.2≠ .cell/\(y.2= .local->all.lookup y.1=UX .local):=by
 induction l with
 |nil=>exact nomatch b
 |cons p r f=>
  obtain⟨n,k⟩:=p;dsimp only[tU] at h;rw[VQ,VQ] at h;obtain⟨⟨d,a⟩,g⟩:=h;rcases List.mem_cons.mp b with rfl|b
  ·constructor
   ·intro q;have c:k= .cell:=q;rw[c] at d;cases d
   ·intro q;have c:k= .local:=q;subst c;dsimp only[HM] at a;rw[<-fK];induction e:kd n all with
    |none=>rw[e] at a;cases a
    |some i=>rw[e] at a;cases i<;>first|rfl|cases a
  ·exact f g b
theorem qm (D:aI c C Z U) {l:List (Vd×Wm)} (h:gy C l=UX cl) (acc:List (Vd×U8)) (q:∀x a,acc.lookup x=UX a->Z.cells.lookup x=UX a):
  ∃cs,(forIn (m:=Xj) l acc λx r=>match x with|(name,kind)=>if(kind==abI)=UZ then do let a <-cellOf Z name;pure (Ye ((name,a)::r)) else pure (Ye r))=pure cs/\
   (∀x a,cs.lookup x=UX a->Z.cells.lookup x=UX a)/\(∀x,(acc.lookup x).isSome=UZ->(cs.lookup x).isSome=UZ)/\(∀x n,cT x cl=UX n->cT x C.cells=UX n/\(cs.lookup x).isSome=UZ):=by
 induction l generalizing cl acc with
 |nil=>obtain rfl:=U2 h;exact⟨acc,rfl,q,λd h=>h,λd d h=>nomatch h⟩
 |cons p r A=>
  obtain⟨n,k⟩:=p;refine ac (Zi ..) ?_;by_cases s:k= .free
  ·subst s;change (match cT n C.cells,gy C r with|some i,UX l=>UX ((n,i)::l)|_,_=>UY)=UX cl at h;induction j:cT n C.cells with
   |none=>rw[j] at h;exact nn h
   |some i=>
    rw[j] at h;induction t:gy C r with
    |none=>rw[t] at h;exact nn h
    |some l=>
     rw[t] at h;obtain rfl:=U2 h;refine aj (D.cells n i j) λa B G=>?_;have u:∀x b,((n,a)::acc).lookup x=UX b->Z.cells.lookup x=UX b:=λx b f=>by
      rw[Xe] at f;induction e:x==n with
      |true=>rw[e] at f;obtain rfl:=U2 f;refine ac (eq_of_beq e) ?_;exact B
      |false=>rw[e] at f;exact q x b f
     refine fA (A t ((n,a)::acc) u) λcs v w o y=>?_;have E:(((n,a)::acc).lookup n).isSome=UZ:=by refine ac Xe ?_;rw[beq_self_eq_true];rfl
     refine(oF cs ?_ w (λx e=>o x ?_) (λx m g=>?_))
     ·refine(?_:(cellOf Z n >>= λa=>pure (Ye ((n,a)::acc))) >>= _=_);dsimp only[cellOf];exact ac B v
     ·rw[Xe];induction x==n with
      |true=>rfl
      |false=>exact e
     ·dsimp only[cT] at g;by_cases e:x=n
      ·subst e;rw[bS.mpr rfl] at g;obtain rfl:=U2 g;exact⟨j,o _ E⟩
      ·rw[cg.mpr e] at g;exact y x m g
  ·have z:(k==abI)=U0:=by simpa using s
   have F:gy C r=UX cl:=by dsimp only[gy] at h;cases k<;>first|exact h|exact absurd rfl s
   refine fA (A F acc q) λcs v w o y=>(oF cs ?_ w o y)
   show(if(k==abI)=UZ then _ else pure (Ye acc)) >>= _=_;refine ac z ?_;refine ac (if_neg VV) ?_;exact v
theorem Js (a:aI c C Z U) (scope:XR) (l:List (Vd×Wm)):(l.map λ(n,k)=>if(k== .free&&Z.scope.kind== .function&&Z.kindOf n==UX .cell) then(n, .cell) else(n,k))=vd C l:=by
 induction l with
 |nil=>rfl
 |cons p r b=>
  obtain⟨n,k⟩:=p;refine ac Wc (ac b ?_);have d:vd C ((n,k)::r)=(match k with
   | .free=>(match kd n C.names with
    |some .cell=>(n, .cell)
    |_=>(n, .free))
   |k=>(n,k))::vd C r:=rfl
  refine ac d ?_;congr 1;dsimp only;refine ac a.kind (ac (by rw[fK];refine aD a.names ?_;rfl:Z.kindOf n=kd n C.names) ?_);cases k<;>first|rfl|skip
  induction kd n C.names with
  |none=>rfl
  |some e=>cases e<;>rfl
theorem Eu (i:aI c C Z U) (r:Z.builtins=Z.builtins) {cs:List (Vd×U8)} (g:scope.kind= .function)
  (k:∀x a,cs.lookup x=UX a->Z.cells.lookup x=UX a) (l:∀x n,cT x cl=UX n->cT x C.cells=UX n/\(cs.lookup x).isSome=UZ)
  (p:U <+:ρ') {f:Nat} {L:U8} (hf:ρ'[f]?=UX L):aI c (mz C scope cl f) (compEnvC scope cs L Z) ρ' where
 kind:=g
 names:=Js i scope scope.names
 glob:=i.glob
 loc:=hf
 cells:=λx n e=>by
  refine aN (l x n e) λm j=>(aj (i.cells x n m) λa o q=>?_)
  induction h:cs.lookup x with
  |none=>rw[h] at j;cases j
  |some b=>have:=k x b h;rw[o] at this;obtain rfl:=U2 this;exact(aA a h (ai p q))
 trim:=λd h=>(nomatch h)
theorem xO (f:Vv->Bool->Xj (ForInStep Bool)) (hf:∀e,f e U0=pure (.yield U0)) (l:List Vv):forIn l U0 f=pure U0:=by
 induction l with
 |nil=>rfl
 |cons e r a=>exact ac (Zi ..) (ac (hf e) a)
theorem Jt (G:bM c A C Z fz U) (i:bG c A C Z F) (ifs:List Vv) (fz':Ve) (ρ':List U8) (k:Le fz fz') (p:U <+:ρ'):
  ae c A fz' ρ' (ve F.tr ifs) (forIn ifs UZ λc r=>if r=UZ then do let j <-aa6 c Z (Ws c Z);pure (Ye j) else pure (Ye r)) gP:=by
 induction ifs generalizing fz' ρ' with
 |nil=>exact ac List.forIn_nil (ae.ret λa a a a=>rfl)
 |cons e r l=>
  refine ac (Zi ..) (ac (if_pos rfl) (ac (bind_assoc ..) ?_));refine ae.bind (i.tr _ _ (G.at k p) e) λg h b t m n o=>?_;have f:b=t:=o;subst f;refine ae.dec λd q=>?_;subst q;refine ac (pure_bind ..) ?_;induction b with
  |true=>exact l g h (k.trans m) (p.trans n)
  |false=>refine(?_:ae c A g h (ret U0) (forIn r U0 _) gP);exact ac (xO _ (λe=>rfl) _) (ae.ret λa a a a=>rfl)
end
end
section
section
variable {o:dU} 
theorem OK.new {ob:O} {k:Nat->M β} {S:St} {K:β->St->List Prop->Prop} (h:OK (k S.H.length ⟨S.H++[ob],S.orc⟩) K):OK (Mine.Internal.bnd (u9 ob) k S) K:=by
 refine(?_:OK (match k S.H.length ⟨S.H++[ob],S.orc⟩ with|none=>UY|some (b,a,q)=>UX (b,a,[]++q)) K);induction e:k S.H.length ⟨S.H++[ob],S.orc⟩ with
 |none=>trivial
 |some r=>rw[e] at h;exact h
theorem zN {f:Nat} {S:St} {u:Unit} {p:List Prop} (e:tT f S=UX (u,S',p)):∃loc,S.H[f]?=UX (.frame loc)/\S'=⟨S.H.set f .dead,S.orc⟩/\p=[]:=by
 refine OK.use e λK a=>?_;unfold tT;induction h:S.H[f]? with
 |none=>exact Vf
 |some o=>induction o with
  |frame l=>exact a _ _ _ (cE l h rfl rfl)
  |_=>exact Vf
theorem Ev (OO:cp c A o) (IH:bG c A C Z F) {x:Vd} {a:Nat} {aa:U8}:
  ∀(n:Nat) (fz:Ve) (U:List U8),bM c A C Z fz U->U[i]?=UX ia->U[a]?=UX aa->∀(S S':St) (u:Unit) (q:List Prop),eY o C F elt ifs x i a n S=UX (u,S',q)->ao q->
   ∀s (R:ZW->U9->Prop),SR c fz U S.H s->dc c fz U S'.H dJ () (λb s'=>R (.ok .next) s')->XB (Vi c.prog c.w) A (.compLoop (.ListComp elt [⟨.Name x px,iter,ifs,0⟩] scope pos) 0 (.ref ia) (.ref aa) Z) R s:=by
 intro n
 induction n with
 |zero=>intro _ _ _ _ _ _ _ _ _ P;exact nn P
 |succ n ih=>
 intro fz U G f g S S' u q P
 refine OK.use P λK e=>OK.bnd λr S1 p1 h1=>OK.got λu S' p2 Y=>e _ _ _ λd s R sr y=>?_
 clear e P
 obtain⟨t,a0⟩:=af.mp d
 clear d
 refine X1 (ac (YC (A:=A) (c:=Code.compLoop (.ListComp elt [⟨.Name x px,iter,ifs,0⟩] scope pos) 0 (.ref ia) (.ref aa) Z) rfl) ?_)
 show Vh (Vi c.prog c.w) A ((compTurn (.ListComp elt [⟨.Name x px,iter,ifs,0⟩] scope pos) 0 (.ref ia) (.ref aa) Z).onRaise (λx=>do aaB x Z;X2 x)) _ _ s
 refine X5 (VH (E:=bE) ?_ (λb b h=>h) λb b h=>h.elim)
 rw[compTurn_list]
 refine U1 (VM (U1 (OO.nxt fz U i ia f S r S1 p1 h1 t fz U s _ (Le.refl _) (U6 _) sr λf2 r2 s2 w k2 Q j T=>?_)))
 clear h1 t sr
 have G2:=G.at k2 Q
 have f:=ai Q f
 have g:=ai Q g
 have y:dc c f2 r2 S'.H dJ () (λb s'=>R (.ok .next) s'):=λB D I V k l=>y B D I V (k2.trans k) (Q.trans l)
 induction r with
 |none=>induction w with
  |some=>exact T.elim
  |none=>obtain⟨_,rfl,_⟩:=db Y;exact U5 (y f2 r2 s2 () (Le.refl _) (U6 _) j trivial)
 |some v=>induction w with
  |none=>exact T.elim
  |some z=>
   revert a0 y;refine OK.use Y λK e=>OK.bnd λb S2 q1 g1=>?_;refine fA (my g1) λob hh hl a1 a2=>?_;subst a1;subst a2;clear Y g1 hh;refine OK.bnd λb S3 a3 g3=>OK.bnd λok S4 a4 g5=>OK.got λu S' p5 g6=>e _ _ _ λd y=>?_;clear e;obtain⟨J,d⟩:=af.mp (af.mp d).2;obtain⟨L,M⟩:=af.mp d;clear d;refine U1 (U5 ?_);refine U1 (abV ?_);refine gJ G2.eo x T S2 _ S3 a3 g3 J f2 r2 s2 _ (Le.refl _) (U6 _) j λf3 r3 s3 b k3 q3 N b=>?_;have G3:=G2.at k3 q3;refine U1 (Jt G3 IH ifs f3 r3 (Le.refl _) (U6 _) S3 ok S4 a4 g5 L f3 r3 s3 _ (Le.refl _) (U6 _) N λW X s4 w' k4 m O hw=>?_);obtain rfl:ok=w':=hw;have G4:=G3.at k4 m;have m:=q3.trans m;have f:=ai m f;have g:=ai m g;have y:dc c W X S'.H dJ () (λb s'=>R (.ok .next) s'):=λB D I V k l=>y B D I V (k3.trans (k4.trans k)) (m.trans l);clear g3 g5 J L T j N G3 G2 G;induction ok with
   |false=>exact U5 ⟨rfl,ih W X G4 f g S4 S' u p5 g6 M s4 R O y⟩
   |true=>revert M y;refine OK.use g6 λK e=>OK.bnd λyv S5 a5 g7=>OK.bnd λb S6 a6 g9=>OK.got λu S' p7 a7=>e _ _ _ λd y=>?_;clear e g6;obtain⟨a8,d⟩:=af.mp d;obtain⟨a9,ab⟩:=af.mp d;refine U1 (U1 (IH.ev W X G4 elt S4 yv S5 a5 g7 a8 W X s4 _ (Le.refl _) (U6 _) O λB D I V k l ad h5=>?_));refine U1 (Jr (ai l g) h5 S5 _ S6 a6 g9 a9 B D I _ (Le.refl _) (U6 _) ad λf6 r6 s6 w6 k6 p ae b=>?_);have p:=l.trans p;exact U5 (U5 ⟨rfl,ih f6 r6 (G4.at (k.trans k6) p) (ai p f) (ai p g) S6 S' u p7 a7 ab s6 R ae λf7 r7 s7 w7 k7 q7 ag h7=>y f7 r7 s7 w7 (k.trans (k6.trans k7)) (p.trans q7) ag h7⟩)
end
end
section
section
variable {o:dU} 
theorem B3 {ob:O} {S:St} {n:Nat} {p:List Prop} (e:u9 ob S=UX (n,S',p)):n=S.H.length/\S'=⟨S.H++[ob],S.orc⟩/\p=[]:=by obtain⟨rfl,rfl,rfl⟩:=db e;exact⟨rfl,rfl,rfl⟩
theorem HR.newFrame {cls:U4} {m:Vd->Option U4} {loc:List (Vd×V)} (x:HR c fz U H h) (hs:WU h.objs.size (h.push {cls:=cls,data:= .dict #[]}) h')
  (i:h'.Ns h.objs.size m) (j:∀y,d6 fz (U++[h.objs.size]) (lk y loc) (m y)):HR c fz (U++[h.objs.size]) (H++[.frame loc]) h':=by
 have e0:(Heap.push h {cls:=cls,data:= .dict #[]}).Ns h.objs.size (λa=>UY):=Heap.Ns.new h cls
 refine jg e0 λf k l e1 e2 e3 n=>?_
 have b:f={cls:=cls,data:= .dict #[]}:=by have:=VX h (o:={cls:=cls,data:= .dict #[]}) rfl;rw[e1] at this;exact U2 this
 have g:=x.push f (.frame []) (ac b rfl) ⟨λa=>UY,(cY k l e2 e3 n),λy=>trivial⟩
 rw[b] at g
 refine jg i λp d e q r s t=>?_
 have u:(H++[O.frame []])[H.length]?=UX (.frame []):=bj rfl
 have:=g.upd u rfl (bj x.len.symm) hs q (o:= .frame loc) ⟨m,(cY d e r s t),j⟩
 rw[List.set_append_right _ _ (Vt _),WW] at this
 exact this
theorem Ju {k:ScopeKind} (h:isFn k=UZ):k= .function:=by cases k<;>first|rfl|cases h
theorem LJ {x:U4} (h:(!eB e)=UZ):abT e Z x=pure x:=by
 induction e using VE with
 |Set=>cases h
 |_=>rfl
theorem ll (OO:cp c A o) {Gm:Ec->bP} (IH:∀C Z,bG c A C Z (Gm C)) (G:bM c A C Z fz U) {n:Nat} {x:Vd} {a1:XQ}
  {use:V->M Unit} {u:Option (U4->Xj Unit)} (h0:u=UY->use=λa=>ret ()) (h1:∀t,u=UX t->∀fz' ρ' v z,Le fz fz'->U <+:ρ'->VR fz' ρ' v z->ae c A fz' ρ' (use v) (t z) dJ):
  ae c A fz U (ey C o Gm n elt x iter ifs scope use) (abu (.ListComp elt [⟨.Name x px,iter,ifs,0⟩] scope pos) scope Z a1 (newList []) U0 (Ws iter Z) u) (λfz U v z=>u=UY->VR fz U v z):=by
 refine ae.run λS K hK=>?_
 unfold ey
 induction X:ql scope x&& !eB iter with
 |false=>exact Vf
 |true=>
 induction al:gy C scope.names with
 |none=>exact Vf
 |some cl=>
 refine OK.bnd λxv S1 p1 e1=>OK.bnd λit S2 p2 e2=>?_
 induction it with
 |ref i=>
  refine OK.bnd λa F p3 e3=>(fA (my e3) λam a2 an d g=>?_)
  subst d;subst g;refine OK.new (OK.new (OK.bnd λa S6 p6 e6=>OK.bnd λa S7 p7 e7=>OK.bnd λa S8 p8 e8=>?_));refine ca (zN e8) λao hf d g=>?_;subst d;subst g;refine hK _ _ _ λR fz' ρ' s Q k p sr y=>?_;clear hK e3 e8;refine via λΩ κ=>(aN (af.mp R) λap R=>?_)
  refine aN (af.mp R) λaq R=>(aN (af.mp (af.mp R).2) λar R=>?_)
  refine κ ?_;clear κ;have as:=(af.mp R).1;clear R;unfold ql at X;rw[VQ,VQ,VQ] at X;refine via λΩ κ=>(aN X λau av=>?_)
  obtain⟨⟨aw,ax⟩,aH⟩:=au;refine κ ?_;clear κ;have f:=Ju aw;have j:=zM ax;refine fA (qm G.eo al [] (λa a h=>nomatch h)) λcs f1 f2 a f4=>?_;have Y:abD scope Z=pure cs:=by unfold abD;exact(congrArg (λt=>t >>= λr=>pure r) f1).trans (pure_bind _ _)
  refine wpAny_comprehension_free (E:=bE) rfl (λa=>LJ av) Y f (λy hy=>(j y hy).2) ?_;refine(IH C Z).ev fz' ρ' (G.at k p) iter S xv S1 p1 e1 ap fz' ρ' s _ (Le.refl _) (U6 _) sr λa3 r2 s2 w2 k2 l2 ay az=>?_;have G2:=(G.at k p).at k2 l2;refine OO.iter a3 r2 xv w2 az S1 _ F p2 e2 aq a3 r2 s2 _ (Le.refl _) (U6 _) ay λf3 I J w3 k3 l3 N aB=>?_;have G3:=G2.at k3 l3;refine aj (VR.i_ref aB) λia d a4=>(ac d ?_)
  refine V7 (hd:=by size_fits) ?_;have aC:SR c f3 (I++[J.heap.objs.size]) (F.H++[.list []]) {J with heap:=J.heap.push {cls:= .type "list",dict:=UY,data:= .seq ([]:List U4).toArray}}:=
   (N.tz (N.hr.push _ (.list []) rfl (bL ([]) 0 rfl .nil)))
  refine wpAny_newFunctionEnv (λy hy=>(j y hy).1) (λy hy=>nomatch hy) (λh' hn a6=>?_) f;dsimp only at hn a6 ⊢;have aD:=aC.hr.newFrame (m:=λx=>([]:List (Vd×U4)).reverse.lookup x) (loc:=[]) a6 hn (λa=>trivial);generalize hL:(J.heap.push {cls:= .type "list",dict:=UY,data:= .seq ([]:List U4).toArray}).objs.size=L at*;generalize ha:J.heap.objs.size=q at*;have a7:SR c f3 (I++[q]++[L]) (F.H++[.list []]++[.frame []]) {J with heap:=h',toks:=J.toks+([]:List (Vd×U4)).length}:=(N.tz aD)
  have l5:I <+:I++[q]++[L]:=(Vp _ _).trans (Vp _ _);have pv:F.H.length=I.length:=N.hr.len.symm;have a8:(I++[q]++[L])[(F.H++[O.list []]).length]?=UX L:=bj (by simp[pv]);have a9:(I++[q]++[L])[F.H.length]?=UX q:=ai (Vp _ _) (bj pv);have aE:=Eu G3.eo rfl f f2 f4 l5 a8;have G5:bM c A (mz C scope cl (F.H++[O.list []]).length) (compEnvC scope cs L Z) f3 (I++[q]++[L]):=⟨aE,{s:=λa a a h=>(nomatch h),e:=λa a a h=>(nomatch h)}⟩
  have ab:dc c f3 (I++[q]++[L]) S6.H dJ () (λa s'=>compPost (Vi c.prog c.w) A bE u Q (.ref q) L (.ok .next) s'):=by
   intro f6 r6 s6 w6 k6 l6 ad _;have ag:=ai l6 a8;have ah:=ai l6 a9;have T:∀(f7:Ve) (r7:List U8) (s7:U9),r6 <+:r7->SR c f7 r7 S7.H s7->∃m,s7.heap.Ns L m/\∀h',WU L s7.heap h'->SR c f7 r7 (S7.H.set (F.H++[O.list []]).length .dead) {s7 with heap:=h'}:=λf7 r7 s7 l7 B=>by exact aj (gv B hf (ai l7 ag)) λm D a=>(aA m D (λP b=>B.tz (B.hr.kill hf rfl (ai l7 ag) b.extBut)))
   induction hu:u with
   |none=>
    rw[h0 hu] at e7;refine b9 (db e7) λd g aF=>(ac d ?_)
    subst g;subst aF;exact aj (T f6 r6 s6 (U6 _) ad) λm D a0=>(aA m D (λP b=>y f6 r6 _ _ (k2.trans (k3.trans k6)) (l2.trans (l3.trans (l5.trans l6))) (a0 P b) λa=> .ref ah))
   |some t=>
    refine h1 t hu f6 r6 (.ref F.H.length) (.ref q) (k.trans (k2.trans (k3.trans k6))) (p.trans (l2.trans (l3.trans (l5.trans l6)))) (.ref ah) S6 _ S7 p7 e7 as f6 r6 s6 _ (Le.refl _) (U6 _) ad λf7 r7 s7 w7 k7 l7 B a=>(aj (T f7 r7 s7 l7 B) λm D a0=>?_)
    exact(aA m D (λP b=>y f7 r7 _ _ (k2.trans (k3.trans (k6.trans k7))) (l2.trans (l3.trans (l5.trans (l6.trans l7)))) (a0 P b) λh=>by rw[hu] at h;cases h))
  have W:XB (Vi c.prog c.w) A (.compLoop (.ListComp elt [⟨.Name x px,iter,ifs,0⟩] scope pos) 0 (.ref ia) (.ref q) (compEnvC scope cs L Z)) (compPost (Vi c.prog c.w) A bE u Q (.ref q) L)
    {J with heap:=h',toks:=J.toks+([]:List (Vd×U4)).length}:=
   Ev OO (IH _ _) n f3 _ G5 (ai l5 a4) a9 _ S6 _ p6 e6 ar _ _ a7 ab
  refine codeAny_compStart_list W ?_;have aG:(F.H++[O.list []]++[O.frame []])[i]?=UX am:=by have ak:=bn a2;refine ac (Wn (ac Va (Vs ak (Vo _ _)))) (ac (Wn ak) ?_);exact a2
  exact sZ a7 aG an (ai l5 a4) W
 |_=>exact Vf
end
end
section
section
variable {o:dU} 
theorem zO {y:Vd} {gs:List Comprehension} {l:Nat} (a:aI c C Z U):
  swapsWithSole [.Name y py] (.ListComp elt gs scope pos) l Z=pure (nE C y py scope pos):=by
 refine(?_:(do return Z.blockKind== .function&&Z.kindOf y==UX .local&&py.line==pos.line&& !(scope.names.any λ(n,k)=>n==y&&(k== .local||k== .cell)):Xj Bool)=_)
 refine ac (by rw[fK];refine aD a.names ?_;rfl:Z.kindOf y=kd y C.names) (ac (by dsimp only[Env.blockKind];refine ac a.kind ?_;rfl:Z.blockKind= .function) ?_)
 dsimp only[nE]
 induction kd y C.names with
 |none=>rfl
 |some k=>cases k<;>rfl
theorem Ew (B:cp c A o) {g:Ec->bP} (D:∀C Z,bG c A C Z (g C)) (G:bM c A C Z fz U) {n:Nat} {x y:Vd} {f:XQ}:
  ae c A fz U (match nE C y py scope pos with
   |true=>bnd (ey C o g n elt x iter ifs scope λv=>jV C y v) λa=>ret Fl.next
   |false=>bnd (ey C o g n elt x iter ifs scope λa=>ret ()) λv=>bnd (jV C y v) λa=>ret Fl.next)
   (aaW (.Assign [.Name y py] (.ListComp elt [⟨.Name x px,iter,ifs,0⟩] scope pos) f) Z) FR:=by
 rw[arm_exec_Assign];refine ac (zO G.eo) ?_
 refine ae.stand ?_
 induction nE C y py scope pos with
 |true=>refine(?_:ae c A fz U _ (((abu (.ListComp elt [⟨.Name x px,iter,ifs,0⟩] scope pos) scope Z iter.pos (newList []) U0 (Ws iter Z) (UX λv=>ZI (.Name y py) Z v)) >>= λa=>pure ()) >>= λa=>pure abt) FR);rw[bind_assoc];refine ae.bind (ll B D G (λh=>by cases h) λt i E F v z k p h=>?_) λa a a a a a a=>ae.eq (pure_bind _ _) (ae.ret λa a a a=>trivial);obtain rfl:=U2 i;intro S b j q e l d ρ' s Q m r u w;exact abV (gJ (G.eo.at p) y h S b j q e l d ρ' s Q m r u w)
 |false=>
  refine(?_:ae c A fz U _ ((abu (.ListComp elt [⟨.Name x px,iter,ifs,0⟩] scope pos) scope Z iter.pos (newList []) U0 (Ws iter Z) UY) >>= λv=>ZI (.Name y py) Z v >>= λa=>pure abt) FR);refine ae.bind (ll B D G (λa=>rfl) λt i=>by cases i) λE F v z k p h=>(ae.bind (R:=dJ) ?_ λa a a a a a a=>ae.ret λa a a a=>trivial)
  intro S b j q e l d ρ' s Q m r u w;exact abV (gJ (G.eo.at p) y (h rfl) S b j q e l d ρ' s Q m r u w)
theorem d5 (q:cp c A o) (n:Nat):∀C Z,bG c A C Z (aE o n C):=by
 induction n with
 |zero=>exact λd d=>⟨λd d d d=>ae.fail,λd d d d=>ae.fail,λd d d d=>ae.fail,λd d d d=>ae.fail,λd d d d d d d=>ae.fail,λd d d d d d d d d=>λS f K p h=>nn h,λd d d d d d=>λS f K p h=>nn h⟩
 |succ n D=>
  intro C Z;have u:=D C Z;refine⟨λj U G e=>?_,λj U G e=>LC G u q e,λj U G s=>?_,λj U G s=>Jq G u s j U (Le.refl _) (U6 _),λj U G e v z h=>Jp G u q e h,λj U G t i a b e h=>LH G u q t i a b e h,λj U G t b e=>LI G u q t b e⟩
  ·show ae c A j U (match C.spE (nC e) with
    |some (L,m)=>bnd (need (e=L)) λd=>m
    |none=>match sY e with
     |some l=>ey C o (aE o n) n l.elt l.x l.iter l.ifs l.scope λd=>ret ()
     |none=>mv C o (aE o n C) e) _ _
   induction h:C.spE (nC e) with
   |none=>
    dsimp only;induction B:sY e with
    |some l=>refine ac (o8 B) ?_;rw[eval_ListComp];exact ae.mono (ll q D G (λd=>rfl) λt E=>nn E) λd d d d d d h=>h rfl
    |none=>exact LF G u q e
   |some r=>exact ae.need λF=>F▸G.sp.e _ _ _ h
  ·show ae c A j U (match C.spS (jC s) with
    |some (M,m)=>bnd (need (s=M)) λd=>m
    |none=>match HN s with
     |some r=>match sY r.2.1 with
      |some l=>match r.1 with
       | .Name y I=>match nE C y I l.scope l.pos with
        |true=>bnd (ey C o (aE o n) n l.elt l.x l.iter l.ifs l.scope λv=>jV C y v) λd=>ret .next
        |false=>bnd (ey C o (aE o n) n l.elt l.x l.iter l.ifs l.scope λd=>ret ()) λv=>bnd (jV C y v) λd=>ret .next
       | .Subscript H i g=>bnd (ey C o (aE o n) n l.elt l.x l.iter l.ifs l.scope λd=>ret ()) λv=>bnd ((aE o n C).asg (.Subscript H i g) v) λd=>ret .next
       |_=>gQ C o (aE o n C) s
      |none=>gQ C o (aE o n C) s
     |none=>gQ C o (aE o n C) s) _ _
   have w:=LG G u q s
   induction h:C.spS (jC s) with
   |none=>
    dsimp only;induction J:HN s with
    |none=>exact w
    |some r=>
     dsimp only;induction B:sY r.2.1 with
     |none=>exact w
     |some l=>
      obtain⟨t,v,p⟩:=r;dsimp only at B;induction t using VE with
      |Name y I=>refine ac (vf J) ?_;dsimp only;exact ac (o8 B) (Ew q D G)
      |Subscript H i g=>refine ac (vf J) ?_;dsimp only;refine ac (o8 B) ?_;rw[arm_exec_Assign];refine ae.stand ?_;show ae c A j U _ ((abu (.ListComp l.elt [⟨.Name l.x l.px,l.iter,l.ifs,0⟩] l.scope l.pos) l.scope Z l.iter.pos (newList []) U0 (Ws l.iter Z) UY) >>= λv=>ZI (.Subscript H i g) Z v >>= λd=>pure abt) FR;exact ae.bind (ll q D G (λd=>rfl) λt E=>nn E) λN O v z k p h=>(ae.bind (u.asg N O (G.at k p) _ v z (h rfl)) λd d d d d d d=>ae.ret λd d d d=>trivial)
      |_=>exact w
   |some r=>exact ae.need λF=>F▸G.sp.s _ _ _ h
end
end
section
theorem HR.exts (x:HR c fz U H h) (k:Le h h') (as:List U8) (os:List O) (n:as.length=os.length) (nd:as.Nodup)
  (A:∀a∈as,h.objs.size<=a) (B:∀(i:Nat) (a:U8) (o:O),as[i]?=UX a->os[i]?=UX o->o.live=UZ/\∃ob,h'.get? a=UX ob/\OR c.w.params fz (U++as) o a ob):HR c fz (U++as) (H++os) h':=by
 have p:U <+:U++as:=Vp _ _
 have split:∀{i:Nat} {o:O},(H++os)[i]?=UX o->(H[i]?=UX o)∨(H.length<=i/\os[i - H.length]?=UX o):=λ{i o} e=>by
  refine(YN i H.length).elim (λh=>?_) λh=>?_
  ·simp only[Wn h] at e;exact .inl e
  ·simp only[VU h] at e;exact .inr ⟨h,e⟩
 have m:∀{i:Nat},H.length<=i->(U++as)[i]?=as[i - H.length]?:=λ{i} h=>ac (VU ((x.len).symm▸h)) (ac x.len rfl)
 have fresh:∀{a:U8} {o:Xi},h.get? a=UX o->a∉as:=λ{a o} e M=>WV _ (Vs (We e) (A a M))
 have s:∀{i:Nat} {u:O} {a:U8},H[i]?=UX u->u.live=UZ->(U++as)[i]?=UX a->U[i]?=UX a/\a∉as:=λ{i u a} e l L=>by refine cy (x.obj i u e l) λb v e1 e2 g=>?_;simp only[ai p e1] at L;cases L;exact⟨e1,fresh e2⟩
 refine⟨x.fzle.trans k,x.gle.trans k,x.wd,ac Va (ac Va (ac x.len (ac n rfl))),?_,?_,λi d e=>?_,x.dis,λt D=>aj (x.tab t D) λob e1 r=>(aA ob (k _ _ e1) r),λt D i u e l q=>?_⟩
 ·intro i j N P a e1 G e2 I y z;rcases split e1 with E|⟨g1,E⟩<;>rcases split e2 with F|⟨J,F⟩
  ·exact x.inj i j N P a E G F I (s E G y).1 (s F I z).1
  ·simp only[m J] at z;exact absurd (WZ z) (s E G y).2
  ·simp only[m g1] at y;exact absurd (WZ y) (s F I z).2
  ·simp only[m g1] at y;simp only[m J] at z;have:i - H.length=j - H.length:=(List.getElem?_inj (bn y) nd).mp (y.trans z.symm);exact(Wp g1).symm.trans ((congrArg (· +_) this).trans (Wp J))
 ·intro i u e l;rcases split e with r|⟨g1,r⟩
  ·exact eX (x.obj i u r l) λa v e1 e2 e3 Q R=>(l8 a v (ai p e1) (k _ _ e2) e3 Q (R.mono (Le.refl _) p))
  ·have C:=bn r;simp only[<-n] at C;have K:as[i - H.length]?=UX as[i - H.length]:=VI C;refine aN (B _ _ _ K r) λg S=>(aj S λob e1 e2=>?_)
   have nn:∀{f:Ve},Le f h->f.get? as[i - H.length]=UY:=λ{f} T=>by
    induction e:f.get? as[i - H.length] with
    |none=>rfl
    |some o=>exact absurd (WZ K) (fresh (T _ _ e))
   exact(l8 _ ob ((m g1).trans K) e1 (nn x.gle) (nn x.fzle) e2)
 ·rcases split e with r|⟨g1,r⟩
  ·exact aj (x.fro i d r) λa e1 e2=>(aA a (ai p e1) e2)
  ·have C:=bn r;simp only[<-n] at C;have:=(B _ _ _ (VI C) r).1;cases this
 ·refine aj (x.tab t D) λv e1 g=>?_;rcases split e with r|⟨g1,r⟩
  ·exact x.tdis t D i u r l (s r l q).1
  ·simp only[m g1] at q;exact fresh e1 (WZ q)
structure FT where
 params:List Vd
 body:List V4
 scope:XR
 cn:List Vd
 trim:Option Vc:=UY
noncomputable def jD (names:List (Vd×Wm)):List (Vd×V)->List (Vd×V)->List (Vd×V)
 |[],a=>a
 |(n,v)::r,a=>jD names r (match kd n names with
  |some .local=>put n v a
  |_=>a)
def lm (names:List (Vd×Wm)):List (Vd×V)->List (Vd×V)->List (Vd×V)
 |[],a=>a
 |(n,v)::r,a=>lm names r (match kd n names with
  |some .local=>a
  |_=>put n v a)
noncomputable def gR (n:Nat):List Vd->List (Vd×Nat)
 |[]=>[]
 |x::r=>(x,n)::gR (n+1) r
def kE (T:FT) (binds:List (Vd×V)):M Nat:=λS=>UX (S.H.length,⟨S.H++(.frame (jD T.scope.names binds [])::T.cn.map λn=> .cell (lk n (lm T.scope.names binds []))),S.orc⟩,[])
def be (T:FT) (clo:List (Vd×Nat)) (glob:List (Vd×GV)) (spS:Ec->Nat->Option (V4×M Fl)) (spE:Ec->Nat->Option (Vv×M V)) (L:Nat):Ec:=
 let C:Ec:={names:=T.scope.names,cells:=clo++gR (L+1) T.cn,fid:=L,glob:=glob,trim:=T.trim}
 {C with spS:=spS C,spE:=spE C}
def aR (T:FT) (glob:List (Vd×GV)) (spS:Ec->Nat->Option (V4×M Fl)) (spE:Ec->Nat->Option (Vv×M V)) (G:Ec->bP) (clo:List (Vd×Nat)) (vs:List V):M V:=
 match VC vs.length T.params.length with
 |true=>bnd (kE T (T.params.zip vs)) λL=>bnd ((G (be T clo glob spS spE L)).exs T.body) λf=>match f with
  | .ret v=>ret v
  | .next=>ret .none
  |_=>fail
 |false=>fail
theorem nG (d:Z.scope.names=names) {ps:List Vd} (acc:List (Vd×V)) (m:Vd->Option U4) (a:av fz U vs xs) (h:∀y,d6 fz U (lk y acc) (m y)) (y):
  d6 fz U (lk y (jD names (ps.zip vs) acc)) (bindL Z.kindOf (ps.zip xs) m y):=by
 induction ps generalizing vs xs acc m with
 |nil=>exact h y
 |cons p ps e=>
  induction vs with
  |nil=>exact ac a.i0 (h y)
  |cons v vs=>
  refine a.ec λx xs a b=>(?_:d6 fz U (lk y (jD names (ps.zip vs) _)) (bindL Z.kindOf (ps.zip xs) _ y))
  refine e _ _ b λy=>(((by rw[fK,<-d];rfl:Z.kindOf p=kd p names)).symm▸ ?_)
  induction f:kd p names with
  |none=>exact h y
  |some k=>
   induction k with
   |«local»=>
    dsimp only;rw[uN,if_pos rfl];by_cases c:y=p
    ·refine ac (if_pos c) ?_;refine ac (if_pos c) ?_;exact a
    ·refine ac (if_neg c) ?_;refine ac (if_neg c) ?_;exact h y
   |_=>exact h y
theorem Jv (e:Z.scope.names=names) {ps:List Vd} (acc:List (Vd×V)) (m:Vd->Option U4) (a:av fz U vs xs) (h:∀y,d6 fz U (lk y acc) (m y)) (y):
  d6 fz U (lk y (lm names (ps.zip vs) acc)) (bindC Z.kindOf (ps.zip xs) m y):=by
 induction ps generalizing vs xs acc m with
 |nil=>exact h y
 |cons p ps f=>
  induction vs with
  |nil=>exact ac a.i0 (h y)
  |cons v vs=>
  refine a.ec λx xs a b=>(?_:d6 fz U (lk y (lm names (ps.zip vs) _)) (bindC Z.kindOf (ps.zip xs) _ y))
  refine f _ _ b λy=>?_;refine((by rw[fK,<-e];rfl:Z.kindOf p=kd p names)).symm▸ ?_;have c:d6 fz U (lk y (put p v acc)) (if y=p then UX x else m y):=by
   rw[uN];by_cases d:y=p
   ·refine ac (if_pos d) ?_;refine ac (if_pos d) ?_;exact a
   ·refine ac (if_neg d) ?_;refine ac (if_neg d) ?_;exact h y
  induction g:kd p names with
  |none=>exact c
  |some k=>
   induction k with
   |«local»=>exact h y
   |_=>exact c
theorem B4 {l:List Vd} {n:Nat} {x:Vd}:cT x (gR n l)=UX i->∃j,i=n+j/\l[j]?=UX x:=by
 induction l generalizing n with
 |nil=>exact λh=>nomatch h
 |cons y r b=>
  refine(?_:(match sq x y with|true=>UX n|false=>cT x (gR (n+1) r))=UX i->_);by_cases a:x=y
  ·exact ac (bS.mpr a) λh=>aA 0 (U2 h).symm (congrArg UX a.symm)
  ·exact ac (cg.mpr a) λh=>aj (b h) λj c d=>aA (j+1) (c.trans (VW n 1 j)) d
noncomputable def mA:List (Vd×Wm)->List Vd
 |[]=>[]
 |(n,k)::r=>match k with
  | .cell=>n::mA r
  |_=>mA r
theorem i9 {n:Nat} {acc:List (Vd×U8)}:(∀{j:Nat} {x:Vd},(mA names)[j]?=UX x->(x,n+j)∈XG n names acc)/\(∀y∈acc,y∈XG n names acc):=by
 induction names generalizing n acc with
 |nil=>exact⟨λh=>(nomatch h),λa h=>h⟩
 |cons p r b=>
  obtain⟨nm,k⟩:=p;by_cases c:k= .cell
  ·refine ac c ?_;have b:=@b (n+1) ((nm,n)::acc);have e:XG n ((nm,abJ)::r) acc=XG (n+1) r ((nm,n)::acc):=rfl;refine(e).symm▸⟨λ{j x} h=>?_,λy f=>b.2 y (.tail _ f)⟩;induction j with
   |zero=>have:nm=x:=U2 h;subst this;exact b.2 _ (.head _)
   |succ j=>have:=b.1 (j:=j) (x:=x) h;rwa[show n+1+j=n+(j+1) by exact VW _ _ _] at this
  ·have d:(k==abJ)=U0:=by simpa using c
   have e:XG n ((nm,k)::r) acc=XG n r acc:=by refine(?_:(if(k==abJ)=UZ then XG (n+1) r ((nm,n)::acc) else XG n r acc)=_);exact ac d (ac (if_neg VV) rfl)
   have g:mA ((nm,k)::r)=mA r:=by
    induction k with
    |cell=>exact absurd rfl c
    |_=>rfl
   refine ac e (ac g ?_);exact b
def bv (KK:List (U8×Xi)) (h:Ve):Prop:=∀p∈KK,h.get? p.1=UX p.2
structure bz (KK:List (U8×Xi)) (f:U8) (fd:Vx) (T:FT):Prop where
 obj:∃fo,(f,fo)∈KK/\fo.data= .func fd
 body:fd.body= .stmts T.body
 scope:fd.scope=T.scope
 clo:fd.closure=[]
 code:∀h,bv KK h->h.CodeRec fd.code fd.qualname
 bind:∀(s:U9) (xs:List U4),bv KK s.heap->xs.length=T.params.length->Yg s fd ⟨xs,[]⟩ (T.params.zip xs)
 cn:mA T.scope.names=T.cn
 nd:((XG 0 T.scope.names []).map (·.1)).Nodup
 kinds:∀x∈T.params,T.scope.names.lookup x=UX .local∨(T.scope.names.lookup x=UX .cell/\x∈T.cn)
 co:T.scope.isCoroutine=U0
 gen:T.scope.isGenerator=U0
 kind:T.scope.kind= .function
def eC (KK:List (U8×Xi)) (glob:List (Vd×GV)):Prop:=∀x v,ms x glob=UX v->∀h:Ve,bv KK h->∃mg,h.Ns mainGlobals mg/\(mg x=UX v.val∨(mg x=UY/\∃a,h.Ns builtinsNs a/\a x=UX v.val))
structure aP (n:Nat) (A:Vm):Prop where
 depth:A.depth+n < Wv
 units:A.units+10*n+100 < cLine
 handled:A.handled=UY
theorem aP.deeper {n:Nat} (x:aP (n+1) A) (Z:Yk):aP n (A.deeper Z):=
 ⟨by show A.depth+1+n < _;have:=x.depth;lia,by show A.units+3+10*n+100 < _;have:=x.units;lia,x.handled⟩
def eS (c:Cx) (A:Vm) (fz:Ve) (U:List U8) (m:M V) (code:Code):Prop:=
 ∀S v S' p,m S=UX (v,S',p)->ao p->∀fz' ρ' s (R:ZW->U9->Prop),Le fz fz'->U <+:ρ'->SR c fz' ρ' S.H s->dc c fz' ρ' S'.H au v (λx a=>R (.ok (.ret x)) a)->XB (Vi c.prog c.w) A code R s
structure f9 (Z:Yk) (fd:Vx) (f:U8):Prop where
 glob:Z.globals=fd.globals
 bu:Z.builtins=fd.builtins
 code:Z.code=fd.code
 qual:Z.qual=fd.qualname++".<locals>."
set_option backward.match.sparseCases true in
theorem ml {R:ZW->U9->Prop} {o:Xi} {d:List U4} {binds:List (Vd×U4)}
  (g:A.depth < Wv) (z:s.heap.get? a=UX o) (i:o.data= .func fd) (n:s.heap.NoLimit) (t:s.heap.CodeRec fd.code fd.qualname)
  (j:fd.body= .stmts body) (k:Yg s fd ⟨d,[]⟩ binds) (p:fd.closure=[])
  (l:∀x∈binds,fd.scope.names.lookup x.1=UX .local∨(fd.scope.names.lookup x.1=UX .cell/\((XG (s.heap.objs.size+1) fd.scope.names []).lookup x.1).isSome=UZ)) (u:1<=s.toks)
  (h:∀c,InCallC s (ZX fd s.heap.objs.size a).locals (bindL (ZX fd s.heap.objs.size a).kindOf binds λb=>UY) (ZX fd s.heap.objs.size a).cells
    (bindC (ZX fd s.heap.objs.size a).kindOf binds λb=>UY) c->1<=c.toks->
   Vh (Vi J w) (A.deeper (ZX fd s.heap.objs.size a)) (aah body (ZX fd s.heap.objs.size a)) (λf s'=>R (.ok (.ret (match f with| .ret v=>v|_=> .none))) s')
    (λe s'=>Vh (Vi J w) (A.deeper (ZX fd s.heap.objs.size a)) (leaving (ZX fd s.heap.objs.size a) e) (λb m=>R (.error e) m) (λe' m=>R (.error e') m) s') c)
  (y:fd.scope.isCoroutine=U0) (q:fd.scope.isGenerator=U0) (B:fd.scope.kind= .function):
  XB (Vi J w) A (.call (.ref a) ⟨d,[]⟩) R s:=by
 refine codeAny_call_function g z i y q j t ((p).symm▸ ?_)
 refine k _ _ _ _ (ZH u (acO B l λZ C s' x r=>?_))
 subst C
 exact⟨n.keeps x.toInCall.keep,codeAny_func (h s' x r)⟩
theorem o9 {T:FT} 
  (F:bz c.KK f fd T) (a5:fd.globals=mainGlobals) (a6:fd.builtins=builtinsNs) (M:eC c.KK glob) (Y:∀h,bv c.KK h->h.NoLimit) (hA:A.depth < Wv) (htr:∀P,T.trim=UX P->P=c.w.params)
  (hG:∀C Z,bG c (A.deeper Z) C Z (G C))
  (a7:∀L Z fz' ρ',Le fz fz'->U <+:ρ'->f9 Z fd f->aI c (be T [] glob spS spE L) Z ρ'->eh c (A.deeper Z) (be T [] glob spS spE L) Z fz' ρ')
  (hx:av fz U vs xs) (N:∀s:U9,bv c.KK s.heap->xs.length=T.params.length->Yg s fd ⟨ys,[]⟩ (T.params.zip xs)):eS c A fz U (aR T glob spS spE G [] vs) (.call (.ref f) ⟨ys,[]⟩):=by
 intro S v S' p e
 refine OK.use e λK hK=>?_
 clear e
 unfold aR
 induction a0:VC vs.length T.params.length with
 |false=>exact Vf
 |true=>
 refine OK.bnd λL S1 p1 e1=>OK.bnd λfl S2 p2 e2=>OK.got λv S' p3 g2=>hK _ _ _ λhp fz' ρ' s R k q D y=>?_
 clear hK
 refine b9 (db e1) λg z B=>?_
 subst g
 subst z
 subst B
 refine aN (af.mp (af.mp hp).2) λa8 ag=>?_
 clear e1 hp
 refine aj F.obj λfo a9 aa=>?_
 have I:bv c.KK s.heap:=λp hp=>D.hr.fzle _ _ (D.hr.wd p hp)
 have O:∀(m:Nat) (x:Vd),x∈T.cn->∃j,T.cn[j]?=UX x/\(XG m T.scope.names []).lookup x=UX (m+j):=λm x hx=>by refine bI (List.mem_iff_getElem?.mp hx) λj J=>(aA j J (abk (acv T.scope.names 0 m [] [] rfl▸F.nd) (i9.1 (F.cn▸J))))
 refine ml (binds:=T.params.zip xs) hA (I _ a9) aa (Y _ I) (F.code _ I) F.body (N s I (by exact ac hx.length (ac (VK a0) rfl):xs.length=T.params.length)) F.clo (λy hy=>?_) D.tk (λad ic ah=>?_) (F.scope▸F.co) (F.scope▸F.gen) (F.scope▸F.kind)
 ·refine(F.scope).symm▸ ?_;rcases F.kinds y.1 ((λy hy=>(aal hy).1:∀y∈T.params.zip xs,y.1∈T.params) y hy) with h|⟨h,h'⟩
  ·exact .inl h
  ·exact aj (O (s.heap.objs.size+1) y.1 h') λj d J=>(.inr ⟨h,(J).symm▸rfl⟩)
 ·generalize l:ZX fd s.heap.objs.size f=Z at*;have hL:Z.locals=s.heap.objs.size:=(l)▸rfl;have hC:Z.cells=XG (s.heap.objs.size+1) T.scope.names []:=aD l (aD F.scope rfl);have t:Z.scope=T.scope:=aD l (aD F.scope rfl);have a1:=hx.mono k q;have r:Z.scope.names=T.scope.names:=by rw[t]
  refine aG ic.done λae tk g Q=>?_;subst g;have a2:=D.hr.exts (k:=Q) (s.heap.objs.size::(Wb T.cn.length).map (s.heap.objs.size+1+·)) (.frame (jD T.scope.names (T.params.zip vs) [])::T.cn.map λn=> .cell (lk n (lm T.scope.names (T.params.zip vs) [])))
   (by simp) (by
    rw[List.nodup_cons];refine⟨λhm=>?_,?_⟩
    ·exact aj (List.mem_map.mp hm) λj d J=>(YP (Vs (aaa _) (Vo _ _)) J)
    ·exact ab4 _ (λa b ab e=>ab (Nat.add_left_cancel e)) List.nodup_range)
   (λa W=>by
    rcases List.mem_cons.mp W with rfl|hm
    ·exact Vt _
    ·refine aj (List.mem_map.mp hm) λj d g=>?_;subst g;exact U3 (WI _) (Vo _ _))
   (λi a o W X=>by
    induction i with
    |zero=>obtain rfl:=U2 W;obtain rfl:=U2 X;refine jg ic.toInCall.ns λob es ep d1 d2 d3 d4=>?_;rw[hL] at d1;refine⟨rfl,ob,d1,_,(cY es ep d2 d3 d4),λy=>?_⟩;exact(nG r [] (λd=>UY) a1 (λd=>trivial) y).mono (Le.refl _) (Vp _ _)
    |succ i=>
     rw[acw,YJ] at W X;induction hi:T.cn[i]? with
     |none=>rw[hi] at X;exact nn X
     |some n=>
      rw[hi] at X;obtain rfl:=U2 X;rw[aaT (bn hi)] at W;obtain rfl:=U2 W;have V:Z.cells.lookup n=UX (s.heap.objs.size+1+i):=by exact(hC).symm▸(abk (acv T.scope.names 0 (s.heap.objs.size+1) [] [] rfl▸F.nd) (i9.1 (F.cn▸hi)))
      refine aj (ic.cell n _ V) λob d1 d2=>⟨rfl,ob,d1,_,d2,?_⟩
      exact(Jv r [] (λd=>UY) a1 (λd=>trivial) n).mono (Le.refl _) (Vp _ _))
  have pp:ρ' <+:ρ'++(s.heap.objs.size::(Wb T.cn.length).map (s.heap.objs.size+1+·)):=Vp _ _;have eo:aI c (be T [] glob spS spE S.H.length) Z (ρ'++(s.heap.objs.size::(Wb T.cn.length).map (s.heap.objs.size+1+·))):=
   {kind:=(t).symm▸F.kind
    names:=r
    glob:=λx v hv h hk=>by have e2:Z.builtins=builtinsNs:=(l)▸a6;refine ac ((l)▸a5:Z.globals=mainGlobals) (ac e2 ?_);exact M x v hv h hk
    loc:=by refine(hL).symm▸ ?_;show(_++_)[S.H.length]?=_;refine ac (VU ((D.hr.len).symm▸(Vt _))) ?_;rw[D.hr.len,WW];rfl
    cells:=λx n hn=>by
     refine aj (B4 hn) λj g J=>?_;subst g;refine(aA (s.heap.objs.size+1+j) ?_ ?_)
     ·exact(hC).symm▸(abk (acv T.scope.names 0 (s.heap.objs.size+1) [] [] rfl▸F.nd) (i9.1 (F.cn▸J)))
     ·refine ac (VU ((D.hr.len).symm▸(U3 (WI _) (Vo _ _)))) (ac D.hr.len (ac (show S.H.length+1+j - S.H.length=j+1 by exact ac (Yx _ _ _) ((W6 ..).trans (Wk ..))) (ac (acw) (ac (YJ) (ac (aaT (bn J)) ?_)))));rfl
    trim:=htr}
  have G1:bM c (A.deeper Z) (be T [] glob spS spE S.H.length) Z fz' (ρ'++(s.heap.objs.size::(Wb T.cn.length).map (s.heap.objs.size+1+·))):=
   ⟨eo,a7 _ _ _ _ k (q.trans pp) ((l)▸⟨rfl,rfl,rfl,rfl⟩) eo⟩
  refine VH (E:=bE) ((hG _ Z).exs fz' _ G1 T.body _ fl S2 p2 e2 a8 fz' _ _ _ (Le.refl _) (U6 _) (D.to a2 (.inr ‹_›)) λf2 r2 s2 w k2 a3 a4 hw=>?_) (λd d h=>h) λd d h=>h.elim;clear a2 e2 eo G1 ic;induction fl with
  |next=>
   cases w<;>first|exact hw.elim|skip
   refine b9 (db g2) λg z B=>?_;subst g;subst z;subst B;exact y f2 r2 s2 .none k2 (pp.trans a3) a4 .none
  |ret u=>
   cases w<;>first|exact hw.elim|skip
   refine b9 (db g2) λg z B=>?_;subst g;subst z;subst B;exact y f2 r2 s2 _ k2 (pp.trans a3) a4 hw
  |_=>exact nn g2
theorem ym {T:FT} 
  (F:bz c.KK f fd T) (d:fd.globals=mainGlobals) (e:fd.builtins=builtinsNs) (a:eC c.KK glob) (b:∀h,bv c.KK h->h.NoLimit) (i:A.depth < Wv) (htr:∀P,T.trim=UX P->P=c.w.params)
  (j:∀C Z,bG c (A.deeper Z) C Z (G C))
  (g:∀L Z fz' ρ',Le fz fz'->U <+:ρ'->f9 Z fd f->aI c (be T [] glob spS spE L) Z ρ'->eh c (A.deeper Z) (be T [] glob spS spE L) Z fz' ρ')
  (k:av fz U vs xs):eS c A fz U (aR T glob spS spE G [] vs) (.call (.ref f) ⟨xs,[]⟩):=
 o9 F d e a b i htr j g k λs h=>F.bind s xs h
def nH (K:List (U8×Xi)) (fd:Vx) (T:FT) (defs:List U4):Prop:=∀(s:U9) (xs:List U4),bv K s.heap->(xs++defs).length=T.params.length->Yg s fd ⟨xs,[]⟩ (T.params.zip (xs++defs))
theorem vg:∀(l:List U4),av g U (l.map toV) l
 |[]=> .nil
 |v::r=> .cons (yi v) (vg r)
end
end
variable {T:FT}
section
section
section
theorem eN {t:Xj U4} (h:Vh Mo A t Q E s):Vh Mo A (t >>= λr=>WD [r] point >>= λa=>pure r) Q E s:=
 U1 (VH h (λr b c=>U1 (Vq (wpAny_point (U5 c)))) λa a x=>x)
theorem LK {m:M V} (hf:∀fz' ρ' H s,Le fz fz'->U <+:ρ'->SR c fz' ρ' H s->∃o fd,s.heap.get? f=UX o/\o.data= .func fd) (h:eS c A fz U m (.call (.ref f) ⟨xs,[]⟩)):
  ae c A fz U m (ci k (.ref f) xs) au:=by
 intro S v g p e i fz' ρ' s Q a q b y
 refine aG (hf fz' ρ' S.H s a q b) λo fd j l=>?_
 have d:Vh (Vi c.prog c.w) A (call (.ref f) xs []) Q bE s:=Xs (h S v g p e i fz' ρ' s _ a q b y)
 unfold ci ZV
 refine U1 (U1 (Zq j ?_))
 refine(l).symm▸(U5 ?_)
 dsimp only
 split
 ·exact eN d
 ·exact eN (by dsimp only[abA];exact wpAny_keep d)
theorem dL {m:M V} {id:String} (h:ae c A fz U m (call (.builtin id) xs []) au):ae c A fz U m (ci k (.builtin id) xs) au:=by intro S v b p e d a ρ' s Q f q g y;unfold ci ZV;refine U1 (U5 ?_);dsimp only;exact eN (h S v b p e d a ρ' s Q f q g y)
theorem mB {m:M V} {id:String} (h:ae c A fz U m (call (.type id) xs []) au):ae c A fz U m (ci k (.type id) xs) au:=by intro S v b p e d a ρ' s Q f q g y;unfold ci ZV;refine U1 (U5 ?_);dsimp only;exact eN (h S v b p e d a ρ' s Q f q g y)
noncomputable def eE (t:oG):FT:={params:=t.params.args.map (·.arg),body:=t.body,scope:=t.scope,cn:=[]}
structure az (t:oG):Prop where
 bind:∀fd:Vx,fd.params=t.params->fd.defaults= .none->fd.kwdefaults= .none->∀xs:List U4,xs.length=(eE t).params.length->bindArgs fd ⟨xs,[]⟩=pure ((eE t).params.zip xs)
 nc:∀x∈t.scope.names,x.2≠ .cell
 kinds:∀x∈(eE t).params,t.scope.names.lookup x=UX .local
 co:t.scope.isCoroutine=U0
 gen:t.scope.isGenerator=U0
 kind:t.scope.kind= .function
theorem s0 {k:Vd->Option Wm} {b:List (Vd×U4)} (m:Vd->Option U4) (h:∀x∈b,k x.1=UX .local) (y):bindL k b m y=(b.reverse.lookup y).or (m y):=by
 induction b generalizing m with
 |nil=>rfl
 |cons p r c=>
  obtain⟨n,v⟩:=p;refine(?_:(bindL k r (if k n=UX .local then _ else m) y)=_);refine ac (if_pos (h (n,v) (.head _))) (ac (c _ (λx d=>h x (.tail _ d))) (ac List.reverse_cons (ac List.lookup_append (ac Option.or_assoc (congrArg _ ?_)))));refine ac Xe ?_;by_cases a:y=n
  ·exact ac (if_pos a) (ac (beq_iff_eq.mpr a) rfl)
  ·exact ac (if_neg a) (ac (beq_eq_false_iff_ne.mpr a) rfl)
theorem nI {x:Vd} {n:Nat} {l:List (Vd×Nat)}:cT x l=UX n->(x,n)∈l:=by
 induction l with
 |nil=>exact λh=>nomatch h
 |cons p r b=>
  refine(?_:(match sq x p.1 with|true=>UX p.2|false=>cT x r)=UX n->_);by_cases a:x=p.1
  ·exact ac (bS.mpr a) λh=>ac a (U2 h▸ .head _)
  ·exact ac (cg.mpr a) λh=> .tail _ (b h)
def Ex (glob:List (Vd×GV)) (G:Ec->bP) (n:Nat) (vs:List V):M V:=λS=>match S.H[n]? with
 |some (.fn t cl)=>bnd (need (az t)) (λa=>aR (eE t) glob (λa=>bk) (λa=>br) G cl vs) S
 |_=>UY
set_option backward.match.sparseCases true in
theorem Jw {n:Nat} 
  (M:eC c.KK glob) (V:∀h,bv c.KK h->h.NoLimit) (hA:A.depth < Wv) (hG:∀C Z,bG c (A.deeper Z) C Z (G C))
  (hf:U[n]?=UX f) (hx:av fz U vs xs):ae c A fz U (Ex glob G n vs) (ci k (.ref f) xs) au:=by
 refine ae.run λS K hK=>?_
 unfold Ex
 induction hn:S.H[n]? with
 |none=>exact Vf
 |some ob=>induction ob with
 |fn t cl=>
  dsimp only;refine OK.need ?_;unfold aR;induction W:VC vs.length (eE t).params.length with
  |false=>exact Vf
  |true=>
  refine OK.bnd λL S1 p1 R=>OK.bnd λfl S2 p2 T=>OK.got λv S' p3 g2=>hK _ _ _ λX N ρ' s Q kk q O y=>?_;clear hK;refine b9 (db R) λz B D=>?_;subst z;subst B;subst D;have F:az t:=X.1;refine aN (af.mp (af.mp X.2).2) λa4 ab=>?_;clear R X;refine ca (O.hr.at hn rfl (ai q hf)) λob ho a9 θ=>(aj θ λfd hd m=>?_)
  have Y:XB (Vi c.prog c.w) A (.call (.ref f) ⟨xs,[]⟩) (λr s'=>match r with| .ok (.ret v)=>Q v s'| .ok _=>False| .error e=>bE e s') s:=by
   have a5:xs.length=(eE t).params.length:=ac hx.length (ac (VK W) rfl);have I:∀y∈(eE t).params.zip xs,y.1∈(eE t).params:=λy hy=>(aal hy).1;refine codeAny_call_def (binds:=(eE t).params.zip xs) hA ho hd (V _ (λp X=>O.hr.fzle _ _ (O.hr.wd p X):bv c.KK s.heap)) (ac m.qual (m.code.keeps O.hr.fzle)) m.body (BindsTo.of_eq (F.bind fd m.params m.d1 m.d2 xs a5)) (ac m.scope F.nc)
    (λy hy=>(m.scope).symm▸(F.kinds y.1 (I y hy))) (λaa a0 P=>?_) (ac m.scope F.co) (ac m.scope F.gen) (ac m.scope F.kind)
   generalize l:callEnv fd s.heap.objs.size f=Z at*;have g:Z.scope=t.scope:=aD l (aD m.scope rfl);have a6:=hx.mono kk q;have j:Z.scope.names=(eE t).scope.names:=(g).symm▸rfl;have J:∀x∈(eE t).params.zip xs,Z.kindOf x.1=UX .local:=λx a7=>by refine(?_:Z.scope.names.lookup x.1=_);refine(g).symm▸ ?_;exact F.kinds _ (I x a7)
   have a1:=O.hr.exts (k:=P) [s.heap.objs.size] [.frame (jD (eE t).scope.names ((eE t).params.zip vs) [])] rfl (by simp) (λa ha=>by
     rw[ZG] at ha;refine(ha).symm▸ ?_;exact Vt _) (λi a o ha ho=>by
     induction i with
     |zero=>
      obtain rfl:=U2 ha;obtain rfl:=U2 ho;refine jg a0 λob es ep d1 d2 d3 d4=>⟨rfl,ob,d1,_,(cY es ep d2 d3 d4),λy=>?_⟩
      have:=(nG j [] (λd=>UY) a6 (λd=>trivial) y (ps:=(eE t).params)).mono (Le.refl _) (Vp ρ' [s.heap.objs.size]);rw[s0 _ J,Option.or_none] at this;exact this
     |succ i=>exact nn ha)
   have pp:ρ' <+:ρ'++[s.heap.objs.size]:=Vp _ _;have eo:aI c (be (eE t) cl glob (λd=>bk) (λd=>br) S.H.length) Z (ρ'++[s.heap.objs.size]):=
    {kind:=(g).symm▸F.kind
     names:=j
     glob:=λx v hv h hk=>by have R:Z.globals=mainGlobals:=(l)▸m.glob;have T:Z.builtins=builtinsNs:=(l)▸m.bu;refine ac R (ac T ?_);exact M x v hv h hk
     loc:=ac (((l)▸rfl:Z.locals=s.heap.objs.size)) (bj O.hr.len.symm)
     cells:=λx n hn=>by
      have hm:(x,n)∈cl:=by exact VY cl▸nI hn
      exact aj (m.clo x n hm) λb R T=>(aA b (ac (((l)▸rfl:Z.cells=fd.closure)) R) (ai pp T))
     trim:=λd h=>(nomatch h)}
   have G1:bM c (A.deeper Z) (be (eE t) cl glob (λd=>bk) (λd=>br) S.H.length) Z N (ρ'++[s.heap.objs.size]):=⟨eo,{s:=λd d d h=>(nomatch h),e:=λd d d h=>(nomatch h)}⟩
   have a8:(eE t).body=t.body:=rfl;refine VH (E:=bE) ((hG _ Z).exs N _ G1 t.body _ fl S2 p2 T a4 N _ _ _ (Le.refl _) (U6 _) (O.ta a1) λf2 r2 s2 w k2 a2 a3 hw=>?_) (λd d h=>h) λd d h=>h.elim;clear a1 T a0 eo G1 j J;induction fl with
   |next=>
    cases w<;>first|exact hw.elim|skip
    refine b9 (db g2) λz B D=>?_;subst z;subst B;subst D;exact y f2 r2 s2 .none k2 (pp.trans a2) a3 .none
   |ret u=>
    cases w<;>first|exact hw.elim|skip
    refine b9 (db g2) λz B D=>?_;subst z;subst B;subst D;exact y f2 r2 s2 _ k2 (pp.trans a2) a3 hw
   |_=>exact nn g2
  have hc:Vh (Vi c.prog c.w) A (call (.ref f) xs []) Q bE s:=Xs Y;unfold ci ZV;refine U1 (U1 (Zq ho ?_));refine(hd).symm▸(U5 ?_);dsimp only;split
  ·exact eN hc
  ·exact eN (by dsimp only[abA];exact wpAny_keep hc)
 |_=>exact Vf
end
end
section
noncomputable def HO:V->Bool
 | .ref _=>U0
 |_=>UZ
noncomputable def mC:List V->Bool
 |[]=>UZ
 |v::r=>HO v&&mC r
def tV:O->Bool
 | .list xs=>mC xs
 | .tup xs=>mC xs
 | .ints _=>UZ
 | .strs _=>UZ
 | .dats _=>UZ
 |_=>U0
noncomputable def dp:List O->Bool
 |[]=>UZ
 |o::r=>tV o&&dp r
theorem Ey {x:U4} (f:HO v=UZ) (h:VR g U v x):VR g ρ' v x:=by
 induction h with
 |none=>exact .none
 |bool=>exact .bool _
 |int=>exact .int _ _
 |str=>exact .str _ _
 |ref=>cases f
 |con=>exact .con _
 |dat h=>exact .dat h
 |fk=>exact .fk _
theorem s8 {v:List V}:∀{x:List U4},mC v=UZ->av g U v x->av g ρ' v x:=by
 induction v with
 |nil=>intro x _ h;refine ac h.i0 ?_;exact .nil
 |cons u r c=>intro x f h;refine h.ec λy w a b=>?_;dsimp only[mC] at f;simp only[VQ] at f;exact .cons (Ey f.1 a) (c f.2 b)
theorem pc (f:tV o=UZ) (h:OR P g U o a ob):OR P g ρ' o a ob:=by
 induction o with
 |«list» b=>obtain⟨vs,n,e,r⟩:=h;exact⟨vs,n,e,s8 f r⟩
 |«tup» b=>obtain⟨vs,n,e,r⟩:=h;exact⟨vs,n,e,s8 f r⟩
 |«ints»=>exact h
 |«strs»=>exact h
 |«dats»=>exact h
 |_=>cases f
theorem qo (f:tV o=UZ):o.live=UZ:=by cases o<;>first|rfl|cases f
theorem du:∀{l:List O},dp l=UZ->∀{i:Nat} {o:O},l[i]?=UX o->tV o=UZ
 |[],_,_,_,h=>by simp at h
 |x::r,f,i,o,h=>by
  dsimp only[dp] at f;simp only[VQ] at f;induction i with
  |zero=>obtain rfl:=U2 h;exact f.1
  |succ i=>exact du f.2 (i:=i) (o:=o) h
noncomputable def iQ:List O->List Nat->List O->List O
 |H,n::σ,o::os=>iQ (H.set n o) σ os
 |H,_,_=>H
noncomputable def iR (H:List O):List Nat->Option (List O)
 |[]=>UX []
 |n::σ=>match H[n]?,iR H σ with
  |some o,UX os=>UX (o::os)
  |_,_=>UY
noncomputable def Ez (n:Nat):List Nat->Bool
 |[]=>U0
 |m::r=>VC n m||Ez n r
noncomputable def qp:List Nat->Bool
 |[]=>UZ
 |n::r=> !Ez n r&&qp r
theorem EA {n:Nat} {l:List Nat}:Ez n l=UZ↔n∈l:=by
 induction l with
 |nil=>exact⟨λh=>(nomatch h),λh=>(nomatch h)⟩
 |cons m r a=>exact Bool.or_eq_true_iff.trans ((or_congr (iff_of_eq Nat.beq_eq) a).trans List.mem_cons.symm)
theorem zP {l:List Nat} (h:qp l=UZ):l.Nodup:=by
 induction l with
 |nil=>exact List.nodup_nil
 |cons n r c=>exact aN (Bool.and_eq_true_iff.mp h) λa b=>List.nodup_cons.mpr ⟨λd=>VV ((congrArg not (EA.mpr d)).symm.trans a),c b⟩
theorem ln (H os:List O):iQ H [] os=H:=by cases os<;>rfl
theorem tH (H:List O) (σ:List Nat) (os:List O):(iQ H σ os).length=H.length:=by
 induction σ generalizing H os with
 |nil=>exact congrArg _ (ln H os)
 |cons n σ a=>induction os with
  |nil=>rfl
  |cons o os=>exact(a (H.set n o) os).trans List.length_set
theorem vh (H:List O) (σ:List Nat) (os:List O) (i:Nat) (h:i∉σ):(iQ H σ os)[i]?=H[i]?:=by
 induction σ generalizing H os with
 |nil=>exact ac (ln H os) rfl
 |cons n σ a=>induction os with
  |nil=>rfl
  |cons o os=>exact(a (H.set n o) os (λb=>h (.tail _ b))).trans (aaE (λq:n=i=>h (q▸ .head _)))
theorem lq {os:List O} (hl:σ.length=os.length) (nd:σ.Nodup) (c:∀n∈σ,n < H.length) (h:(iQ H σ os)[i]?=UX o):(i∉σ/\H[i]?=UX o)∨∃k:Nat,σ[k]?=UX i/\os[k]?=UX o:=by
 induction σ generalizing H os with
 |nil=>exact .inl ⟨λh=>(nomatch h),aD (ln H os) h⟩
 |cons n σ d=>induction os with
  |nil=>cases hl
  |cons p os=>
   refine aN (List.nodup_cons.mp nd) λe f=>(Y4 (i=n)).elim (λa=>?_) λa=>?_
   ·subst a;exact .inr (aA 0 rfl (((vh (H.set i p) σ os i e).trans (acE (c i (.head _)))).symm.trans h))
   ·refine(d (H:=H.set n p) (XC hl) f (λm b=>ac List.length_set (c m (.tail _ b))) h).elim (λq=> .inl ⟨λb=>(List.mem_cons.mp b).elim a q.1,(aaE (acd a)).symm.trans q.2⟩) λq=>aj q λk g j=> .inr (aA (k+1) g j)
theorem qr {os:List O} (h:iR H σ=UX os):os.length=σ.length/\∀{k:Nat} {n:Nat},σ[k]?=UX n->∃o,os[k]?=UX o/\H[n]?=UX o:=by
 induction σ generalizing os with
 |nil=>exact U2 h▸⟨rfl,λh=>(nomatch h)⟩
 |cons n σ b=>
  refine(?_:(match H[n]?,iR H σ with|some o,UX os=>UX (o::os)|_,_=>UY)=UX os->_) h;induction c:H[n]? with
  |none=>exact λh=>nomatch h
  |some o=>
   induction d:iR H σ with
   |none=>exact λh=>nomatch h
   |some e=>
    refine λh=>U2 h▸aN (b d) λl f=>⟨congrArg Z9 l,λ{k m} a=>?_⟩
    induction k with
    |zero=>exact aA o rfl (U2 a▸c)
    |succ k=>exact f (k:=k) (n:=m) a
inductive AD (U:List U8):List Nat->List U8->Prop
 |nil:AD U [] []
 |cons {n a σ as}:U[n]?=UX a->AD U σ as->AD U (n::σ) (a::as)
theorem AD.get (x:AD U σ as):as.length=σ.length/\∀{k n:Nat},σ[k]?=UX n->∃a,as[k]?=UX a/\U[n]?=UX a:=by
 induction x with
 |nil=>exact⟨rfl,λh=>nomatch h⟩
 | @cons n a σ as h r c=>
  refine aN c λl f=>⟨congrArg Z9 l,λ{k m} b=>?_⟩
  induction k with
  |zero=>exact aA a rfl (U2 b▸h)
  |succ k=>exact f (k:=k) (n:=m) b
theorem AD.mono (p:U <+:ρ') (x:AD U σ as):AD ρ' σ as:=by
 induction x with
 |nil=>exact .nil
 |cons h r a=>exact .cons (ai p h) a
noncomputable def lr (g h:Ve) (U:List U8) (H:List O) (σ:List Nat):Ve:=
 sub h λa=>(g.get? a).isSome=UZ∨∃(i:Nat) (o:O),H[i]?=UX o/\o.live=UZ/\U[i]?=UX a/\i∉σ
section
theorem HR.pick (x:HR c fz U H h) (I:AD U σ as) (nd:σ.Nodup) (Q:iR H σ=UX objs) (hf:dp objs=UZ):
  HR {c with g:=lr c.g h U H σ} fz as objs h:=by
 refine aN (I.get) λR S=>(aN (qr Q) λM T=>?_)
 have p:∀{k:Nat} {o:O},objs[k]?=UX o->∃n a,σ[k]?=UX n/\as[k]?=UX a/\U[n]?=UX a/\H[n]?=UX o/\o.live=UZ:=λ{k o} e=>by have E:=bn e;rw[M] at E;refine aj (S (k:=k) (VI E)) λa e1 e2=>?_;refine aj (T (k:=k) (VI E)) λr e3 F=>?_;rw[e] at e3;obtain rfl:=U2 e3;exact(l8 _ a (VI E) e1 e2 F (qo (du hf e)))
 have out:∀{k n:Nat} {a:U8} {o:O},σ[k]?=UX n->U[n]?=UX a->H[n]?=UX o->o.live=UZ->(lr c.g h U H σ).get? a=UY:=λ{k n a o} e1 e2 e3 F=>by
  refine fC (eX (x.obj n o e3 F) λN z m s A u J=>?_);rw[e2] at m;obtain rfl:=U2 m;rintro(f|⟨i,r,f,B,C,K⟩)
  ·rw[A] at f;cases f
  ·have:=x.inj i n r o a f B e3 F C e2;exact K (ac this (WZ e1))
 refine⟨x.fzle,sub_le,x.wd,ac R (ac M rfl),?_,?_,λi d e=>?_,λb o e=>?_,λt G=>?_,λt G i o e l q=>?_⟩
 ·intro i j V W a e1 _ e2 _ m s;refine eX (p e1) λX a1 D v w y L=>(eX (p e2) λY a2 Z P s3 s4 s5=>?_)
  rw[m] at v;obtain rfl:=U2 v;rw[s] at P;obtain rfl:=U2 P;have:=x.inj X Y V W a y L s4 s5 w s3;subst this;exact(List.getElem?_inj (bn D) nd).mp (D.trans Z.symm)
 ·intro i o e l;refine eX (p e) λn a D v w y L=>(eX (x.obj n o y l) λN z m s A u J=>?_)
  rw[w] at m;obtain rfl:=U2 m;exact(l8 a z v s (out D w y l) u (pc (du hf e) J))
 ·have:=du hf e;cases this
 ·obtain⟨e1,f|⟨i,r,f,B,C,K⟩⟩:=qb e
  ·obtain⟨r,f⟩:=Option.isSome_iff_exists.mp f;exact x.dis b r f
  ·refine eX (x.obj i r f B) λN z m s A u J=>?_;obtain rfl:=U2 (C.symm.trans m);exact u
 ·refine fA (x.tab t G) λz m s A u=>(oF z m s (fC ?_) u)
  rintro(f|⟨i,r,f,B,C,K⟩)
  ·rw[A] at f;cases f
  ·exact x.tdis t G i r f B C
 ·refine eX (p e) λn a D v w y L=>?_;rw[v] at q;obtain rfl:=U2 q;exact x.tdis t G n o y l w
theorem HR.back (x:HR c fz U H h) {objs':List O} (E:AD U σ as) (nd:σ.Nodup) (Q:iR H σ=UX objs) (hf:dp objs=UZ)
  (k:Le fz fz') (y:HR {c with g:=lr c.g h U H σ} fz' as objs' h') (B:dp objs'=UZ):HR c fz' U (iQ H σ objs') h':=by
 refine aN (E.get) λR S=>?_
 obtain⟨l2,N⟩:=qr Q
 have F:σ.length=objs'.length:=by refine aD R ?_;exact y.len
 have G:Le c.g (lr c.g h U H σ):=λb o e=>dZ (x.gle b o e) (.inl (by refine ac e ?_;rfl))
 have r:∀n∈σ,n < H.length:=λn T=>by obtain⟨j,V⟩:=List.mem_iff_getElem?.mp T;exact aj (N V) λo f e=>(bn e)
 have s:∀{i:Nat} {o:O},(iQ H σ objs')[i]?=UX o->o.live=UZ->∃u,H[i]?=UX u/\u.live=UZ:=λ{i o} e l=>by
  rcases lq F nd r e with ⟨_,m⟩|⟨j,v,m⟩
  ·exact(aA o m l)
  ·exact aj (N v) λu e1 e2=>(aA u e2 (qo (du hf e1)))
 refine⟨y.fzle,G.trans y.gle,y.wd,by rw[tH];exact x.len,?_,?_,λi d e=>?_,λb o e=>y.dis b o (G b o e),λt C=>?_,λt C i o e l q=>?_⟩
 ·intro i j o1 o2 a e1 W e2 X p w;refine aj (s e1 W) λI J K=>(aj (s e2 X) λL Y Z=>?_)
  exact x.inj i j I L a J K Y Z p w
 ·intro i o e l;rcases lq F nd r e with ⟨v,m⟩|⟨j,v,m⟩
  ·refine eX (x.obj i o m l) λa z p w A D M=>?_;have P:(lr c.g h U H σ).get? a=UX z:=dZ w (.inr (Hy i o m l p v));exact(l8 a z p (y.gle _ _ P) A (y.dis _ _ P) (M.mono k (U6 _)))
  ·refine eX (y.obj j o m l) λa z p w A D M=>(aj (S v) λa' e1 e2=>?_)
   rw[p] at e1;obtain rfl:=U2 e1;refine(l8 a z e2 w ?_ D (pc (du B m) M));induction e3:c.g.get? a with
   |none=>rfl
   |some u=>rw[G _ _ e3] at A;cases A
 ·rcases lq F nd r e with ⟨v,m⟩|⟨j,v,m⟩
  ·exact aj (x.fro i d m) λa e1 e2=>(aA a e1 (e2.mono k))
  ·have:=du B m;cases this
 ·refine fA (y.tab t C) λz p w f D=>(fA (x.tab t C) λf f f A f=>?_)
  exact(oF z p w A D)
 ·exact aj (s e l) λu J K=>(x.tdis t C i u J K q)
set_option tactic.hygienic true in
theorem HR.forget (x:HR c fz ρ' H h) (p:U <+:ρ') (r:H.take U.length=objs) (hf:dp objs=UZ):HR c fz U objs h:=by
 have D:U.length<=H.length:=aD x.len p.length_le;have b:∀{k:Nat} {o:O},objs[k]?=UX o->H[k]?=UX o/\k < U.length:=λ{k o} e=>by
  simp only[<-r,aa1] at e;split at e
  ·rename_i f;exact⟨e,f⟩
  ·exact nn e
 have g:∀{k:Nat},k < U.length->ρ'[k]?=U[k]?:=λ{k} f=>ai p (VI f)▸(VI f).symm;refine⟨x.fzle,x.gle,x.wd,by refine aD r (ac YU ?_);lia,?_,?_,λi d e=>?_,x.dis,x.tab,λt s i o e l q=>?_⟩
 ·intro i j u v a e1 w e2 y m n;exact x.inj i j u v a (b e1).1 w (b e2).1 y ((g (b e1).2).trans m) ((g (b e2).2).trans n)
 ·intro i o e l;exact eX (x.obj i o (b e).1 l) λa z m n A B C=>(l8 a z ((g (b e).2).symm.trans m) n A B (pc (du hf e) C))
 ·have:=du hf e;cases this
 ·exact x.tdis t s i o (b e).1 l ((g (b e).2).trans q)
end
end
abbrev Sp:=List V->List O->Option (D×List O×List Prop)
structure Wo where
 prog:VB
 w:V6
 KK:List (U8×Xi)
 TT:List fB
noncomputable def Wo.cx (W:Wo) (g:Ve) (os:d7):Cx:=⟨W.prog,W.w,W.KK,W.TT,g,os⟩
def cI (g:Ve):Prop:=(g.get? sysModules).isSome=UZ
def aX (W:Wo) (lev:Nat) (f:U8) (sp:Sp):Prop:=
 ∀g os A fz U s vs xs objs d a ps (R:ZW->U9->Prop),cI g->aP lev A->SR (W.cx g os) fz U objs s->av fz U vs xs->sp vs objs=UX (d,a,ps)->ao ps->
  (∀fz' b x,Le fz fz'->SR (W.cx g os) fz' U a b->DR fz' d x->R (.ok (.ret x)) b)->XB (Vi W.prog W.w) A (.call (.ref f) ⟨xs,[]⟩) R s
noncomputable def zQ (P:Vc):List Bool->List V->Nat->M (List V×List Nat)
 |[],[],_=>ret ([],[])
 |k::ks,v::vs,j=>match k with
  |false=>bnd (cj P 9 v) λd=>bnd (zQ P ks vs j) λr=>ret (eA d::r.1,r.2)
  |true=>match v with
   | .ref n=>bnd (zQ P ks vs (j+1)) λr=>ret (.ref j::r.1,n::r.2)
   |_=>fail
 |_,_,_=>fail
def dY (P:Vc) (keep:List Bool) (sp:Sp) (vs:List V):M V:=
 bnd (zQ P keep vs 0) λr=>λS=>match qp r.2,iR S.H r.2 with
  |true,UX objs=>match dp objs with
   |true=>match sp r.1 objs with
    |some (d,a,ps)=>match dp a with
     |true=>UX (eA d,⟨iQ S.H r.2 a,S.orc⟩,ps)
     |false=>UY
    |none=>UY
   |false=>UY
  |_,_=>UY
section
theorem LL (ks:List Bool) (vs:List V) (j:Nat) (fz:Ve) (U:List U8):Gh c fz U (zQ c.w.params ks vs j) (λfz' ρ' r=>∀xs,av fz U vs xs->∃as,AD ρ' r.2 as/\∀pre:List U8,pre.length=j->av fz' (pre++as) r.1 xs):=by
 induction ks generalizing vs j fz U with
 |nil=>induction vs with
  |nil=>exact Gh.ret λe e e e xs h=>h.e0 ⟨[], .nil,λe e=> .nil⟩
  |cons=>exact Gh.fail
 |cons k ks s=>
  induction vs with
  |nil=>exact Gh.fail
  |cons v vs=>
  induction k with
  |false=>refine Gh.bind (qc 9 fz U v) λy z d A B C=>Gh.bind (s vs j y z) λD E r t u l=>Gh.ret λF G g i xs m=>m.ec λx xs a b=>?_;exact aj (l _ (b.mono A B)) λas o p=>(aA as (o.mono i) (λpre f=> .cons (jx (((C _ a).mono t).mono g)) ((p pre f).mono g (U6 _))))
  |true=>
   induction v with
   |ref n=>
    refine Gh.bind (s vs (j+1) fz U) λD E r t u l=>Gh.ret λF G g i xs m=>m.ec λx xs a b=>a.e_ref λq H=>?_;refine aj (l _ b) λas o p=>?_;refine(aA (q::as) (.cons (ai i (ai u H)) (o.mono i)) (λpre f=> .cons (.ref ?_) ?_))
    ·exact ac (VU (Vg f)) (ac f (ac (WW _) rfl))
    ·exact Vk pre [q] as▸(p (pre++[q]) (List.length_append.trans (congrArg (· +1) f))).mono g (U6 _)
   |_=>exact Gh.fail
theorem EB {W:Wo} {sp:Sp} {keep:List Bool} (h:aX W lev f sp) (n:cI g) (hA:aP lev A) (hx:av fz U vs xs):
  eS (W.cx g os) A fz U (dY W.w.params keep sp vs) (.call (.ref f) ⟨xs,[]⟩):=by
 intro S v S' p e hp J ρ' s R k q C y
 refine ez (bA e) λr D p1 p2 e1 b t=>?_
 subst t
 obtain⟨K,L⟩:=af.mp hp
 refine ca (LL (c:=W.cx g os) keep vs 0 fz U S r D p1 e1 K J ρ' s.heap k q C.hr) λf1 k1 M r1=>?_
 refine aj (r1 xs hx) λas E F=>?_
 have F:=F [] rfl
 rw[Zj] at F
 induction N:qp r.2 with
 |false=>rw[N] at b;exact nn b
 |true=>
 rw[N] at b
 induction G:iR D.H r.2 with
 |none=>rw[G] at b;exact nn b
 |some j=>
 rw[G] at b
 dsimp only at b
 induction I:dp j with
 |false=>rw[I] at b;exact nn b
 |true=>
 rw[I] at b
 dsimp only at b
 induction Q:sp r.1 j with
 |none=>rw[Q] at b;exact nn b
 |some z=>
 obtain⟨d,l,ps⟩:=z
 rw[Q] at b
 dsimp only at b
 induction u:dp l with
 |false=>rw[u] at b;exact nn b
 |true=>
 rw[u] at b
 refine b9 (db b) λt T V=>?_
 subst t
 subst T
 subst V
 have X:=zP N
 have B:cI (lr g s.heap ρ' D.H r.2):=by obtain⟨o,Y⟩:=Option.isSome_iff_exists.mp n;have:=dZ (P:=λa=>(g.get? a).isSome=UZ∨∃(i:Nat) (o:O),D.H[i]?=UX o/\o.live=UZ/\ρ'[i]?=UX a/\i∉r.2) (M.gle _ _ Y) (.inl (by refine ac Y ?_;rfl));refine(?_:(Option.isSome _)=UZ);exact Option.isSome_iff_exists.mpr ⟨_,this⟩
 exact h (lr g s.heap ρ' D.H r.2) os A f1 as s r.1 xs j d l p2 R B hA ⟨M.pick E X G I,C.os,C.bare,(by first|exact C.tk|exact U3 C.tk (Vo _ _)|assumption)⟩ F Q L λf2 s2 x Z m hd=>(y f2 ρ' s2 x (k1.trans Z) (U6 _) ⟨M.back E X G I Z m.hr u,m.os,m.bare,(by first|exact m.tk|exact U3 m.tk (Vo _ _)|assumption)⟩ (jx hd))
theorem Jx {W:Wo} {sp:Sp} {spS:Nat->Ec->Nat->Option (V4×M Fl)} {spE:Nat->Ec->Nat->Option (Vv×M V)} {G:Nat->Ec->bP}
  (F:bz W.KK f fd T) (n:fd.globals=mainGlobals) (o:fd.builtins=builtinsNs) (i:eC W.KK glob) (j:∀h,bv W.KK h->h.NoLimit) (htr:∀P,T.trim=UX P->P=W.w.params) (l:nH W.KK fd T defs)
  (S:∀N g os A C Z,cI g->aP lev A->bG (W.cx g os) A C Z (G N C))
  (p:∀N g os A L Z fz U,cI g->aP lev A->f9 Z fd f->aI (W.cx g os) (be T [] glob (spS N) (spE N) L) Z U->eh (W.cx g os) A (be T [] glob (spS N) (spE N) L) Z fz U)
  (run:∀vs objs d objs' ps,sp vs objs=UX (d,objs',ps)->ao ps->∃N orc S' qs,bnd (aR T glob (spS N) (spE N) (G N) [] (vs++defs.map toV)) (λv=>cj W.w.params 9 v) ⟨objs,orc⟩=UX (d,S',qs)/\ao qs/\S'.H.take objs.length=objs'/\dp objs'=UZ):aX W (lev+1) f sp:=by
 intro g os A fz U s vs m objs d objs' ps R a r I X Y t y
 refine yf (run vs objs d objs' ps Y t) λN orc S' qs e hq ht hf=>(ez (bA e) λv J p1 p2 e1 e2 u=>?_)
 subst u
 obtain⟨z,B⟩:=af.mp hq
 have hc:=o9 (c:=W.cx g os) (A:=A) (fz:=fz) (U:=U) (glob:=glob) (spS:=spS N) (spE:=spE N) (G:=G N) (vs:=vs++defs.map toV) (xs:=m++defs) (ys:=m) F n o i j (by have:=r.depth;lia) htr (λC Z=>S N g os _ C Z a (r.deeper Z))
  (λL Z D ρ' k q h1 E=>p N g os _ L Z D ρ' a (r.deeper Z) h1 E) (nF X (vg defs)) (λs h=>l s m h)
 refine hc ⟨objs,orc⟩ v J p1 e1 z fz U s R (Le.refl _) (U6 _) I λK O Q x k1 q1 b hv=>(ca (qc (c:=W.cx g os) 9 K O v J d S' p2 e2 B K O Q.heap (Le.refl _) (U6 _) b.hr) λf2 k2 x2 E=>?_)
 refine y f2 Q x (k1.trans k2) ⟨x2.forget q1 ((I.hr.len).symm▸ht) hf,b.os,b.bare,(by first|exact b.tk|exact U3 b.tk (Vo _ _)|assumption)⟩ (E x hv)
theorem c8 {K:List (U8×Xi)} (F:bz K f fd T):nH K fd T []:=λs a b h=>by rw[VY] at h ⊢;exact F.bind s a b h
end
end
variable {sp:Sp}
section
section
def gS (vs:List V) (k:V->M α):M α:=match vs with
 |[v]=>k v
 |_=>fail
def mD (vs:List V) (k:V->V->M α):M α:=match vs with
 |[v,w]=>k v w
 |_=>fail
def EC (vs:List V) (k:V->V->V->M α):M α:=match vs with
 |[v,w,u]=>k v w u
 |_=>fail
def asI (v:V) (k:Int->M α):M α:=match v with
 | .int i=>k i
 |_=>fail
def asS (v:V) (k:Vd->M α):M α:=match v with
 | .str i=>k i
 |_=>fail
def asR (v:V) (k:Nat->M α):M α:=match v with
 | .ref i=>k i
 |_=>fail
noncomputable def ej (o:O) (p:List Prop):M V:=λS=>UX (.ref S.H.length,⟨S.H++[o],S.orc⟩,p)
noncomputable def getO (f:O->Option β) (i:Nat) (k:β->M α):M α:=λS=>match S.H[i]? with
 |some o=>match f o with
  |some b=>k b S
  |none=>UY
 |none=>UY
def cU (o:Option α) (k:α->M β):M β:=match o with
 |some a=>k a
 |none=>fail
def bX (b:Bool) (m:M α):M α:=match b with
 |true=>m
 |false=>fail
noncomputable def zR (o:Option α) (c:Option β) (f:α->β->Option γ):Option γ:=match o with
 |some a=>match c with
  |some b=>f a b
  |none=>UY
 |none=>UY
theorem mE {o:Option α} {c:Option β} {f:α->β->Option γ} {r:γ} (h:zR o c f=UX r):∃a b,o=UX a/\c=UX b/\f a b=UX r:=by
 induction o with
 |none=>exact nn h
 |some a=>induction c with
  |none=>exact nn h
  |some b=>exact(cY a b rfl rfl h)
theorem rJ {o a:Option α} {r:α} (h:o.or a=UX r):o=UX r∨a=UX r:=by
 induction o with
 |none=>exact .inr h
 |some=>exact .inl h
theorem dQ {Q:α->U9->Prop} {t e:Xj α} (a:b=U0) (h:Vh Mo A e Q E s):Vh Mo A (if b=UZ then t else e) Q E s:=ac a h
theorem qt {Q:α->U9->Prop} {t e:Xj α} (a:b=UZ) (h:Vh Mo A t Q E s):Vh Mo A (if b=UZ then t else e) Q E s:=ac a h
section
variable {x F:U4}
theorem dc.at {a:α} {y:β} {Q:β->U9->Prop} (h:dc c fz U H R a Q) (b:SR c fz U H s) (d:R fz U a y):Q y s:=h _ _ _ _ (Le.refl _) (U6 _) b d
theorem dc.new {tk:ZP} (y:dc c fz U (H++[o]) au (.ref H.length) Q) (a:SR c fz U H s) (hf:ob.isFreed=U0) (b:OR c.w.params fz (U++[s.heap.objs.size]) o s.heap.objs.size ob) (d:o.live=UZ) (e:s.toks<=tk):Q (.ref s.heap.objs.size) {s with heap:=s.heap.push ob,toks:=tk}:=
 y _ _ _ _ (Le.refl _) (Vp _ _) (a.to (a.hr.push ob o hf b d) (.inl e)) (.ref (bj a.hr.len.symm))
theorem ae.call1 {k:V->M α} {t:List U4->Xj β} (a:av fz U vs xs) (h:∀v x,VR fz U v x->ae c A fz U (k v) (t [x]) R):ae c A fz U (gS vs k) (t xs) R:=by
 rcases vs with _|⟨v,_|_⟩
 ·exact ae.fail
 ·exact a.e1 (h v)
 ·exact ae.fail
theorem ae.call2 {k:V->V->M α} {t:List U4->Xj β} (a:av fz U vs xs) (h:∀v w x y,VR fz U v x->VR fz U w y->ae c A fz U (k v w) (t [x,y]) R):ae c A fz U (mD vs k) (t xs) R:=by
 rcases vs with _|⟨v,_|⟨w,_|_⟩⟩
 ·exact ae.fail
 ·exact ae.fail
 ·exact a.e2 (h v w)
 ·exact ae.fail
theorem ae.call3 {k:V->V->V->M α} {t:List U4->Xj β} (a:av fz U vs xs) (h:∀v w u x y z,VR fz U v x->VR fz U w y->VR fz U u z->ae c A fz U (k v w u) (t [x,y,z]) R):ae c A fz U (EC vs k) (t xs) R:=by
 rcases vs with _|⟨v,_|⟨w,_|⟨u,_|_⟩⟩⟩
 ·exact ae.fail
 ·exact ae.fail
 ·exact ae.fail
 ·exact a.e3 (h v w u)
 ·exact ae.fail
variable {t:U4->Xj β}
theorem ae.asI {k:Int->M α} (a:VR fz U v x) (h:∀i u,ae c A fz U (k i) (t (.int i u)) R):ae c A fz U (asI v k) (t x) R:=by
 induction v with
 |int i=>exact a.e_int (h i)
 |_=>exact ae.fail
theorem ae.asS {k:Vd->M α} (a:VR fz U v x) (h:∀i u,ae c A fz U (k i) (t (.str i u)) R):ae c A fz U (asS v k) (t x) R:=by
 induction v with
 |str i=>exact a.e_str (h i)
 |_=>exact ae.fail
theorem ae.asR {k:Nat->M α} (b:VR fz U v x) (h:∀i a,U[i]?=UX a->ae c A fz U (k i) (t (.ref a)) R):ae c A fz U (asR v k) (t x) R:=by
 induction v with
 |ref i=>exact b.e_ref (h i)
 |_=>exact ae.fail
theorem OK.seq {m:M γ} {k:γ->M α} {S:St} {K:α->St->List Prop->Prop} (h:OK (m S) λa S1 p1=>OK (k a S1) λb S2 p2=>K b S2 (p1++p2)):OK (Mine.Internal.bnd m k S) K:=OK.bnd λa S1 p1 e=>by rw[e] at h;exact h
theorem OK.opt {o:Option γ} {k:γ->M α} {S:St} {K:α->St->List Prop->Prop} (h:∀a,o=UX a->OK (k a S) K):OK (cU o k S) K:=by
 induction o with
 |none=>trivial
 |some a=>exact h a rfl
theorem ae.opt {o:Option γ} {k:γ->M α} {t:Xj β} (h:∀a,o=UX a->ae c A fz U (k a) t R):ae c A fz U (cU o k) t R:=by
 induction o with
 |none=>exact ae.fail
 |some a=>exact h a rfl
theorem OK.when {S:St} {K:α->St->List Prop->Prop} (h:b=UZ->OK (m S) K):OK (bX b m S) K:=by
 induction b with
 |false=>trivial
 |true=>exact h rfl
theorem OK.getO {f:O->Option δ} {k:δ->M α} {S:St} {K:α->St->List Prop->Prop} (h:∀o b,S.H[i]?=UX o->f o=UX b->OK (k b S) K):OK (getO f i k S) K:=by
 unfold Mine.Internal.getO;induction e:S.H[i]? with
 |none=>trivial
 |some o=>
  dsimp only;induction a:f o with
  |none=>trivial
  |some b=>exact h o b e a
end
end
noncomputable def dW (v:V) (p:Prop):M V:=λS=>UX (v,S,[p])
def LM:WX->Int->Int->M V
 | .Add,a,b=>ret (.int (a+b))
 | .Sub,a,b=>ret (.int (a - b))
 | .Mult,a,b=>dW (.int (a*b)) (VL a b)
 | .FloorDiv,a,b=>dW (.int (a.fdiv b)) (b≠0/\b.natAbs < 1073741824)
 | .Mod,a,b=>dW (.int (a.fmod b)) (b≠0)
 | .Pow,a,b=>dW (.int (a^b.toNat)) (0<=b/\b<=1000000/\a.natAbs < 2^64)
 | .LShift,a,b=>dW (.int (a*2^b.toNat)) (0<=b/\(U7 a:Int)+b<=2^27)
 | .RShift,a,b=>dW (.int (a.fdiv (2^b.toNat))) (0<=b)
 | .BitXor,a,b=>ret (.int (Builtin.bitXor a b))
 |_,_,_=>fail
def LN:WX->Int->Int->M V
 | .Add,a,b=>ret (.int (a+b))
 | .Sub,a,b=>ret (.int (a - b))
 |_,_,_=>fail
def zS:WX->Vd->Vd->M V
 | .Add,a,b=>dW (.str (a++b)) (a.length+b.length<=Vb)
 |_,_,_=>fail
def LO:YX->Int->Int->M V
 | .Eq,a,b=>ret (.bool (decide (a=b)))
 | .NotEq,a,b=>ret (.bool (!decide (a=b)))
 | .Lt,a,b=>ret (.bool (decide (a < b)))
 | .LtE,a,b=>ret (.bool (decide (a<=b)))
 | .Gt,a,b=>ret (.bool (decide (b < a)))
 | .GtE,a,b=>ret (.bool (decide (b<=a)))
 |_,_,_=>fail
def LP:YX->Vd->Vd->M V
 | .Eq,a,b=>ret (.bool (sq a b))
 | .NotEq,a,b=>ret (.bool (!sq a b))
 |_,_,_=>fail
section
theorem ae.lift {a:α} {ps:List Prop} (d:m=λS=>UX (a,S,ps))
  (h:∀(s:U9) (Q:β->U9->Prop),ao ps->(∀x tk,(∀fz' ρ',Le fz fz'->U <+:ρ'->R fz' ρ' a x)->Q x {s with toks:=tk})->Vh (Vi c.prog c.w) A t Q bE s):ae c A fz U m t R:=by
 exact ac d (ae.run λS K e=>e _ _ _ λf fz' ρ' s Q k p b y=>iw b.tk (h s _ f λx tk g i=>y.at (b.to b.hr (.inr ‹_›)) (g _ _ k p)))
theorem ED (op:WX) (a b:Int) (t u:ZP):ae c A fz U (LM op a b) (XA op (.int a t) (.int b u)) au:=by
 induction op with
 |Add=>exact ae.lift rfl λs Q h y=>abK (y _ _ λd d d d=> .int _ _)
 |Sub=>exact ae.lift rfl λs Q h y=>PyProof.Rows.sub_int (y _ _ λd d d d=> .int _ _)
 |Mult=>exact ae.lift rfl λs Q h y=>P.mul_int (y _ _ λd d d d=> .int _ _) h.1
 |FloorDiv=>exact ae.lift rfl λs Q h y=>PyProof.Rows.floordiv_int h.1.1 (y _ _ λd d d d=> .int _ _) (.inl (acg h.1.2))
 |Mod=>exact ae.lift rfl λs Q h y=>PyProof.Rows.mod_int' h.1 (y _ _ λd d d d=> .int _ _)
 |Pow=>exact ae.lift rfl λs Q h y=>PyProof.Rows.pow_int_small h.1.1 h.1.2.1 h.1.2.2 (y _ _ λd d d d=> .int _ _)
 |LShift=>exact ae.lift rfl λs Q h y=>PyProof.Rows.lshift_int h.1.1 h.1.2 (y _ _ λd d d d=> .int _ _)
 |RShift=>exact ae.lift rfl λs Q h y=>PyProof.Rows.rshift_int h.1 (y _ _ λd d d d=> .int _ _)
 |BitXor=>exact ae.lift rfl λs Q h y=>PyProof.Rows.xor_int (y _ _ λd d d d=> .int _ _)
 |_=>exact ae.fail
theorem EE (op:WX) (a b:Int) (t u:ZP):ae c A fz U (LN op a b) (ace op (.int a t) (.int b u)) au:=by
 induction op with
 |Add=>exact ae.lift rfl λs Q h y=>P.iadd_int (y _ _ λd d d d=> .int _ _)
 |Sub=>exact ae.lift rfl λs Q h y=>P.isub_int (y _ _ λd d d d=> .int _ _)
 |_=>exact ae.fail
theorem EF (op:WX) (a b:Vd) (t u:ZP):ae c A fz U (zS op a b) (XA op (.str a t) (.str b u)) au:=by
 induction op with
 |Add=>exact ae.lift rfl λs Q h y=>PyProof.Rows.add_str (λe f=>y _ _ λd d d d=> .str _ _) h.1
 |_=>exact ae.fail
theorem EG (op:WX) (a b:Vd) (t u:ZP):ae c A fz U (zS op a b) (ace op (.str a t) (.str b u)) au:=by
 induction op with
 |Add=>exact ae.lift rfl λs Q h y=>PyProof.Rows.iadd_str (λe f=>y _ _ λd d d d=> .str _ _) h.1
 |_=>exact ae.fail
theorem gc {c:Bool} (h:b=c):∀fz' ρ',Le fz fz'->U <+:ρ'->VR fz' ρ' (.bool b) (.bool c):=λa a a a=>h▸ .bool _
theorem fh (a b:Int):decide (a=b)=(a==b):=by by_cases h:a=b<;>simp[h]
theorem EH (op:YX) (a b:Int) (t u:ZP):ae c A fz U (LO op a b) (W2 op (.int a t) (.int b u)) au:=by
 induction op with
 |Eq=>exact ae.lift rfl λs Q h y=>PyProof.Rows.eq_int (y _ s.toks (gc (fh a b)))
 |NotEq=>exact ae.lift rfl λs Q h y=>P.ne_int (y _ s.toks (gc (by rw[fh];rfl)))
 |Lt=>exact ae.lift rfl λs Q h y=>PyProof.Rows.lt_int (y _ s.toks (gc rfl))
 |LtE=>exact ae.lift rfl λs Q h y=>PyProof.Rows.le_int (y _ s.toks (gc rfl))
 |Gt=>exact ae.lift rfl λs Q h y=>PyProof.Rows.gt_int (y _ s.toks (gc rfl))
 |GtE=>exact ae.lift rfl λs Q h y=>PyProof.Rows.ge_int (y _ s.toks (gc rfl))
 |_=>exact ae.fail
theorem vj (a b:Vd):sq a b=(a==b):=by
 by_cases h:a=b
 ·subst h;refine ac (bS.mpr rfl) ?_;rw[beq_self_eq_true]
 ·exact ac (cg.mpr h) (ac (beq_eq_false_iff_ne.mpr h) rfl)
theorem EI (op:YX) (a b:Vd) (t u:ZP):ae c A fz U (LP op a b) (W2 op (.str a t) (.str b u)) au:=by
 induction op with
 |Eq=>exact ae.lift rfl λs Q h y=>PyProof.Rows.eq_str (y _ s.toks (gc (vj a b)))
 |NotEq=>exact ae.lift rfl λs Q h y=>PyProof.Rows.ne_str (y _ s.toks (gc (by rw[vj];rfl)))
 |_=>exact ae.fail
end
inductive SV where
 |vs (xs:List V)|ns (xs:List Int)|ss (xs:List Vd)|ds (xs:List D)
noncomputable def SV.len:SV->Nat
 | .vs xs=>xs.length
 | .ns xs=>xs.length
 | .ss xs=>xs.length
 | .ds xs=>xs.length
def cq (g:Ve) (U:List U8):SV->List U4->Prop
 | .vs xs,l=>av g U xs l
 | .ns xs,l=>Ww l xs
 | .ss xs,l=>dk xs l
 | .ds xs,l=>cb g xs l
def eT:Bool->List U4->Nat->Xi
 |true,xs,n=>bT xs n
 |false,xs,n=>rz xs n
noncomputable def gT:D->Option (Bool×SV)
 | .ints ns=>UX (UZ, .ns ns)
 | .list ds=>UX (UZ, .ds ds)
 | .tup ds=>UX (U0, .ds ds)
 |_=>UY
def tW:O->Option (Bool×SV)
 | .list xs=>UX (UZ, .vs xs)
 | .ints xs=>UX (UZ, .ns xs)
 | .strs xs=>UX (UZ, .ss xs)
 | .dats xs=>UX (UZ, .ds xs)
 | .tup xs=>UX (U0, .vs xs)
 | .fro d=>gT d
 |_=>UY
def look (v:V):M (Bool×SV):=match v with
 | .ref i=>getO tW i ret
 | .dat d=>match gT d with
  |some r=>ret r
  |none=>fail
 |_=>fail
noncomputable def dg :List α->Nat->Option α
 |[],_=>UY
 |x::_,0=>UX x
 |_::r,n+1=>dg r n
theorem eF:∀(l:List α) (n:Nat),dg l n=l[n]?
 |[],_=>rfl
 |_::_,0=>rfl
 |_::r,n+1=>eF r n
noncomputable def ay (d:α):List α->Nat->α
 |[],_=>d
 |x::_,0=>x
 |_::r,n+1=>ay d r n
theorem gK {d:α}:∀{l:List α} {n:Nat},n < l.length->l[n]?=UX (ay d l n)
 |[],_,h=>nomatch h
 |_::_,0,_=>rfl
 |_::r,n+1,h=>gK (l:=r) (aam h)
def SV.at:SV->Nat->Option V
 | .vs xs,j=>dg xs j
 | .ns xs,j=>UX (.int (ay 0 xs j))
 | .ss xs,j=>UX (.str (ay Vl xs j))
 | .ds xs,j=>match dg xs j with
  |some d=>UX (eA d)
  |none=>UY
noncomputable def dM (n:Nat):Int->Nat
 | .ofNat j=>j
 | .negSucc j=>n - (j+1)
def aK (n:Nat):Int->Prop
 | .ofNat j=>j < n/\j < 2^62
 | .negSucc j=>j+1<=n/\j < 2^62
section
theorem IA.i0 (h:Ww xs []):xs=[]:=by cases h;rfl
theorem IA.ic {n:Int} (h:Ww xs (n::ns)):∃t r,xs= .int n t::r/\Ww r ns:=by cases h with|cons _ t b=>exact(bL t _ rfl b)
theorem dk.i0 (h:dk [] xs):xs=[]:=by cases h;rfl
theorem dk.ic {n:Vd} {ns:List Vd} (h:dk (n::ns) xs):∃t r,xs= .str n t::r/\dk ns r:=by cases h with|cons b=>exact(bL _ _ rfl b)
theorem vk {xs:List Int}:∀{l:List U4} {j:Nat} {i:Int},Ww l xs->xs[j]?=UX i->∃t,l[j]?=UX (.int i t):=by
 induction xs with
 |nil=>intro l j i _ h;exact nn h
 |cons x r a=>
  intro l j i h e;refine aG (IA.ic h) λt u η b=>(ac η ?_)
  induction j with
  |zero=>obtain rfl:=U2 e;exact⟨t,rfl⟩
  |succ j=>have:=a b e;exact this
theorem EJ {xs:List Vd}:∀{l:List U4} {j:Nat} {i:Vd},dk xs l->xs[j]?=UX i->∃t,l[j]?=UX (.str i t):=by
 induction xs with
 |nil=>intro l j i _ h;exact nn h
 |cons x r a=>
  intro l j i h e;refine aG (dk.ic h) λt u η b=>(ac η ?_)
  induction j with
  |zero=>obtain rfl:=U2 e;exact⟨t,rfl⟩
  |succ j=>have:=a b e;exact this
theorem av.get {xs:List V}:∀{l:List U4} {j:Nat} {v:V},av g U xs l->xs[j]?=UX v->∃x,l[j]?=UX x/\VR g U v x:=by
 induction xs with
 |nil=>intro l j i _ h;exact nn h
 |cons x r c=>
  intro l j i h e;refine h.ec λy u a b=>?_;induction j with
  |zero=>obtain rfl:=U2 e;exact(aA y rfl a)
  |succ j=>have:=c b e;exact this
theorem cb.get {xs:List D}:∀{l:List U4} {j:Nat} {v:D},cb g xs l->xs[j]?=UX v->∃x,l[j]?=UX x/\DR g v x:=by
 induction xs with
 |nil=>intro l j i _ h;exact nn h
 |cons x r c=>
  intro l j i h e;refine h.ec λy u a b=>?_;induction j with
  |zero=>obtain rfl:=U2 e;exact(aA y rfl a)
  |succ j=>have:=c b e;exact this
theorem IntsAre.len {xs:List Int}:∀{l:List U4},Ww l xs->l.length=xs.length:=by
 induction xs with
 |nil=>intro l h;refine ac (IA.i0 h) ?_;rfl
 |cons x r a=>
  intro l h;refine aG (IA.ic h) λt u η b=>(ac η ?_)
  exact congrArg Z9 (a b)
theorem dk.len {xs:List Vd}:∀{l:List U4},dk xs l->l.length=xs.length:=by
 induction xs with
 |nil=>intro l h;refine ac (dk.i0 h) ?_;rfl
 |cons x r a=>
  intro l h;refine aG (dk.ic h) λt u η b=>(ac η ?_)
  exact congrArg Z9 (a b)
theorem cb.len {xs:List D}:∀{l:List U4},cb g xs l->l.length=xs.length:=by
 induction xs with
 |nil=>intro l h;refine ac h.i0 ?_;rfl
 |cons x r c=>intro l h;exact h.ec λt u a b=>(congrArg Z9 (c b))
theorem cq.len:∀{sv:SV} {l:List U4},cq g U sv l->l.length=sv.len
 | .vs _,_,h=>av.length h
 | .ns _,_,h=>IntsAre.len h
 | .ss _,_,h=>dk.len h
 | .ds _,_,h=>cb.len h
theorem cq.at {sv:SV} {l:List U4} (h:cq g U sv l) (e:sv.at j=UX v) (f:j < sv.len):∃x,l[j]?=UX x/\VR g U v x:=by
 induction sv with
 |vs a=>exact av.get h ((eF a j).symm.trans e)
 |ns a=>obtain rfl:=U2 e;obtain⟨t,b⟩:=vk h (gK (d:=0) f);exact⟨_,b, .int _ _⟩
 |ss a=>obtain rfl:=U2 e;obtain⟨t,b⟩:=EJ h (gK (d:=Vl) f);exact⟨_,b, .str _ _⟩
 |ds a=>
  unfold SV.at at e;dsimp only at e;rw[eF] at e;induction c:a[j]? with
  |none=>rw[c] at e;exact nn e
  |some d=>rw[c] at e;obtain rfl:=U2 e;exact aj (cb.get h c) λx e1 e2=>(aA x e1 (jx e2))
theorem iA {r:Bool×SV} {x:U4} (e:gT d=UX r) (h:DR g d x):∃a xs n,x= .ref a/\g.get? a=UX (eT r.1 xs n)/\cq g U r.2 xs:=by
 induction d using D.casesOn with
 |«ints»|«list»|«tup»=>obtain rfl:=U2 e;exact h.inv
 |_=>exact nn e
theorem B5 {sv:SV} (x:∃d,h.get? a=UX d/\∃vs n,d=eT b vs n/\cq g U sv vs):∃xs n,h.get? a=UX (eT b xs n)/\cq g U sv xs:=aj x λc q f=>aG f λvs n e r=>(bL vs n (e▸q) r)
theorem vm {r:Bool×SV} (e:tW o=UX r) (hl:o.live=UZ->∃c,h.get? a=UX c/\OR P g U o a c) (hf:∀d,o= .fro d->DR g d (.ref a)) (k:∀b x,g.get? b=UX x->h.get? b=UX x):∃xs n,h.get? a=UX (eT r.1 xs n)/\cq g U r.2 xs:=by
 induction o with
 |«list»|«ints»|«strs»|«dats»|«tup»=>obtain rfl:=U2 e;exact B5 (hl rfl)
 |fro d=>exact gO (iA (U:=U) e (hf d rfl)) λb xs n f i j=>⟨xs,n,aaw f▸k _ _ i,j⟩
 |_=>exact nn e
def LQ (c:Cx) (fz:Ve) (U:List U8) (H:List O) (r:Bool×SV) (ad:U8):Prop:=∀fz' ρ' s,Le fz fz'->U <+:ρ'->SR c fz' ρ' H s->∃xs n,s.heap.get? ad=UX (eT r.1 xs n)/\cq fz' ρ' r.2 xs
theorem OK.lookR {l:Nat} {S:St} {K:Bool×SV->St->List Prop->Prop} (h:∀r,(∀fz' ρ' s a,SR c fz' ρ' S.H s->ρ'[l]?=UX a->∃xs n,s.heap.get? a=UX (eT r.1 xs n)/\cq fz' ρ' r.2 xs)->K r S []):OK (look (.ref l) S) K:=
 OK.getO λo r h0 f=>h r λfz' ρ' s a b e=>vm f (λg=>b.hr.at h0 g e) (λd i=>b.hr.froAt (aD i h0) e) b.hr.fzle
theorem OK.look {x:U4} {S:St} {K:Bool×SV->St->List Prop->Prop} (g:VR fz U v x) (h:∀r ad,x= .ref ad->LQ c fz U S.H r ad->K r S []):OK (look v S) K:=by
 induction v with
 |dat d=>
  refine(?_:OK ((match gT d with|some r=>ret r|none=>fail) S) K);induction m:gT d with
  |none=>exact Vf
  |some r=>exact gO (iA (U:=U) m g.i_dat) λa f f e f f=>h r a e λj ρ' s k q l=>gO (iA (U:=ρ') m (g.i_dat.mono k)) λb o n e1 e2 e3=>⟨o,n,aaw (e1.symm.trans e)▸l.hr.fzle _ _ e2,e3⟩
 |ref i=>exact aj g.i_ref λa e p=>OK.lookR λr t=>h r a e λj ρ' s k q l=>t _ _ _ _ l (ai q p)
 |_=>exact Vf
end
def HP (v:V) (i:Int):M V:=bnd (look v) λr=>match r.2.at (dM r.2.len i) with
  |some u=>dW u (aK r.2.len i)
  |none=>fail
def vn (P:Vc) (v k:V):M V:=asI k λi=>match v with
 | .str x=>dW (.str (X7 x i)) (abf i=UZ/\(Xz x i).isSome=UZ)
 |v=>HP v i
def lookI (v:V) (k:List Int->M α):M α:=bnd (look v) λr=>match r with
 |(UZ, .ns ns)=>k ns
 |_=>fail
def LR (c:Cx) (A:Vm) (fz:Ve) (U:List U8) (t:Xj β) (R:bJ α β) (r:Bool×SV) (ad:U8) (S:St) (a:α) (S':St) (p:List Prop):Prop:=
 ao p->∀fz' ρ' s Q,Le fz fz'->U <+:ρ'->SR c fz' ρ' S.H s->dc c fz' ρ' S'.H R a Q->∀xs n,s.heap.get? ad=UX (eT r.1 xs n)->cq fz' ρ' r.2 xs->Vh (Vi c.prog c.w) A t Q bE s
section
theorem B6 (t:Bool) (xs:List U4) (n:Nat):(eT t xs n).cls= .type (if t then "list" else "tuple"):=by cases t<;>rfl
theorem B7 {n:Nat} {i:Int} (h:aK n i):dM n i < n:=by
 induction i with
 |ofNat j=>exact h.1
 |negSucc j=>exact Yz (Vs (Wx j) h.1) (Wx j)
theorem rK {n:Nat} {i:Int} (h:aK n i): -(2^63)<=i/\i < 2^63:=by
 induction i with
 |ofNat j=>exact⟨VN (by decide) (Vr j),Xm (Int.ofNat_lt.mpr h.2) (by decide)⟩
 |negSucc j=>exact⟨by have:=h.2;lia,XH (Yq j) (by decide)⟩
theorem jZ {i:Int} {n:Nat} (h:aK n i):ZS i n=UX (dM n i):=by
 induction i with
 |ofNat j=>exact seqIndex_of (Vr j) (Int.ofNat_lt.mpr h.1)
 |negSucc j=>exact(seqIndex_neg (Yq j) (by have:=h.1;lia)).trans (congrArg UX (by refine(?_:(Int.subNatNat n (j+1)).toNat=_);refine ac Int.subNatNat_eq_coe ?_;exact Xf n (j+1)))
theorem Jy {t:Bool} {n:Nat} {i:Int} {x:U4} (h:s.heap.get? a=UX (eT t xs n)) (hi:aK xs.length i) (e:xs[dM xs.length i]?=UX x) (d:Q x s):
  Vh (Vi c.prog c.w) A (Yw (.ref a) (.int i u)) Q E s:=by
 have g:=jZ hi
 have f:=rK hi
 have b:=(Wj).trans e
 induction t with
 |false=>exact P.getItem_tuple (n:=n) (items:=xs.toArray) h f.1 f.2 g b d
 |true=>induction i with
  |ofNat j=>exact wpAny_getItem_list (items:=xs.toArray) ⟨_,h,rfl,n,rfl⟩ (Vr j) f.2 b d
  |negSucc j=>exact PySem.W.kde_getNeg ⟨_,h,rfl,n,rfl⟩ (Yq j) f.1 g e d
theorem ae.look {k:Bool×SV->M α} {t:U4->Xj β} {x:U4} (f:VR fz U v x) (h:∀r ad S K,(∀a S' p,LR c A fz U (t (.ref ad)) R r ad S a S' p->K a S' p)->OK (k r S) K):ae c A fz U (bnd (look v) k) (t x) R:=
 ae.run λS K g=>OK.seq (OK.look (c:=c) f λr ad e i=>h r ad S _ λa S' p j=>g _ _ _ λl b ρ' s Q k q d y=>aG (i _ _ _ k q d) λm n o u=>e▸j l b ρ' s Q k q d y m n o u)
theorem ae.lookI {k:List Int->M α} {t:U4->Xj β} {x:U4} (d:VR fz U v x) (h:∀l ad S K,(∀a S' p,LR c A fz U (t (.ref ad)) R (UZ, .ns l) ad S a S' p->K a S' p)->OK (k l S) K):ae c A fz U (lookI v k) (t x) R:=ae.look d λr ad S K e=>by
 obtain⟨b,sv⟩:=r;induction b with
 |false=>exact Vf
 |true=>induction sv with
  |ns l=>exact h l ad S K e
  |_=>exact Vf
theorem ae.look2 {w:V} {k:Bool×SV->Bool×SV->M α} (t:U4->U4->Xj β) {x:U4} (i:VR fz U v x) (j:VR fz U w y)
  (h:∀r b ad d S K,(∀a S' p,(ao p->∀fz' ρ' s Q,Le fz fz'->U <+:ρ'->SR c fz' ρ' S.H s->dc c fz' ρ' S'.H R a Q->∀xs n ys m,s.heap.get? ad=UX (eT r.1 xs n)->cq fz' ρ' r.2 xs->s.heap.get? d=UX (eT b.1 ys m)->cq fz' ρ' b.2 ys->Vh (Vi c.prog c.w) A (t (.ref ad) (.ref d)) Q bE s)->K a S' p)->OK (k r b S) K):
  ae c A fz U (bnd (Mine.Internal.look v) λr=>bnd (Mine.Internal.look w) λb=>k r b) (t x y) R:=
 ae.run λS K l=>OK.seq (OK.look (c:=c) i λr ad e o=>OK.seq (OK.look (c:=c) j λb d u f=>h r b ad d S _ λa S' p z=>l _ _ _ λB fz' ρ' s Q k q g C=>aG (o _ _ _ k q g) λxs n D E=>aG (f _ _ _ k q g) λys m F G=>by refine ac e (ac u ?_);exact z B fz' ρ' s Q k q g C xs n ys m D E F G))
theorem yn {i:Int} {x:U4} (e:VR fz U v x) (T:U4->Xj U4) (f:∀(s:U9) (Q:U4->U9->Prop) (z:U4) (t:Bool) (ad:U8) (xs:List U4) (n:Nat),s.heap.get? ad=UX (eT t xs n)->
   Vh (Vi c.prog c.w) A (Yw (.ref ad) (.int i u)) (λr s'=>r=z/\Q r s') bE s->Vh (Vi c.prog c.w) A (T (.ref ad)) Q bE s):ae c A fz U (HP v i) (T x) au:=ae.look e λr ad S K g=>by
 induction h:r.2.at (dM r.2.len i) with
 |none=>exact Vf
 |some z=>exact g _ _ _ λb j ρ' s Q k q l y xs n d a=>aj (a.at h (B7 b.1)) λw m o=>f s Q w r.1 ad xs n d (Jy d (ac a.len b.1) (ac a.len m) ⟨rfl,y.at l o⟩)
theorem jE {x:U4} (hs:∀l h s p,slice≠aag l h s p):aa8 slice U0 x y=aaJ [x,y] (Yw x y):=by
 induction slice using VE with
 |Slice=>exact absurd rfl (hs _ _ _ _)
 |_=>rfl
theorem yo {k:V} {x:U4} (f:VR fz U v x) (m:VR fz U k y) (hs:∀l h s p,slice≠aag l h s p):ae c A fz U (vn P v k) (WP value slice x y) au:=by
 refine(ae.asI m ?_:);intro i u;have d:=yn (A:=A) (c:=c) (u:=u) (i:=i) f (WP value slice · (.int i u)) λs Q z t ad g n j h=>by
  have b:(eT t g n).cls= .type (if t then "list" else "tuple"):=B6 t g n;induction t with
  |true=>exact subscriptTail_builtinR (T:="list") (aA _ j b) F.slot_list_getitem.lookup h (jE hs)
  |false=>exact subscriptTail_builtinR (T:="tuple") (aA _ j b) F.slot_tuple_getitem.lookup h (jE hs)
 induction v with
 |str t=>exact f.e_str λo=>ae.lift rfl λs Q h y=>subscriptTail_builtin_flat (XD _ _ _) F.slot_str_getitem.lookup (SB.getItem h.1.1 h.1.2 ⟨λa e=>(nomatch e),y _ _ λa a a a=> .str _ _⟩) (jE hs)
 |_=>exact d
theorem Jz {k:V} {x:U4} (d:VR fz U v x) (e:VR fz U k y):ae c A fz U (vn P v k) (Yw x y) au:=by
 refine(ae.asI e ?_:);intro i u;have b:=yn (A:=A) (c:=c) (u:=u) (i:=i) d (Yw · (.int i u)) λs Q z t ad f n g h=>VH h (λa a h=>h.2) λa a h=>h;induction v with
 |str t=>exact d.e_str λj=>ae.lift rfl λs Q h y=>SB.getItem h.1.1 h.1.2 (y _ _ λa a a a=> .str _ _)
 |_=>exact b
end
theorem JA {Q:Unit->U9->Prop} {n:Nat} {i:Int} {t:ZP} {v:U4} (c:s.heap.get? a=UX (bT xs n)) (hi:aK xs.length i)
  (f:Q () {s with heap:=s.heap.update a (Xl (·.setIfInBounds (dM xs.length i) v))}):Vh (Vi J w) A (Y0 (.ref a) (.int i t) v) Q E s:=by
 have g:s.heap.IsList a xs.toArray:=⟨_,c,rfl,n,rfl⟩
 have h:=B7 hi
 have d:xs.toArray[dM xs.length i]?=UX xs[dM xs.length i]:=ac (Wj) (VI h)
 unfold Y0
 try with_reducible refine Vq ?_
 first|refine U1 (U5 ?_)|skip
 refine U1 (wpAny_sequenceKey g.typeIs (by decide) ?_)
 refine U1 (YR (name:=WN "__setitem__") g.typeIs F.slot_list_setitem
  (Xp F.slot_list_setitem g.typeIs F.entry_list_setitem ?_ (adt _ _ _)))
 refine(?_:Vh _ _ (WJ (.int i t) >>= _) _ _ s)
 have b:YV i=UZ:=by
  induction i with
  |ofNat j=>exact fitsIndex_of (Vr j) (rK hi).2
  |negSucc j=>exact fitsIndex_neg (Yq j) (rK hi).1
 refine U1 (abv b ?_)
 clear b
 induction i with
 |ofNat j=>
  refine(?_:Vh _ _ ((seqItemAt a j >>= λr=>pure (r.map (j,·))) >>= _) _ _ s);refine U1 (U1 (wpAny_seqItemAt c rfl (U5 ?_)));refine ac (show xs.toArray[j]?=_ from d) (?_:Vh _ _ (setSeqItemAt a j v >>= _) _ _ s);refine U1 (wpAny_setSeqItemAt (items:=xs.toArray) (n:=n) c rfl ?_)
  first
   |exact U1 (U5 (U5 (aA .none rfl (U5 f))))
   |exact U5 ⟨.none,rfl,U5 f⟩
 |negSucc j=>
  refine(?_:Vh _ _ ((W0 (.ref a) >>= λxs=>pure ((ZS (Zd j) xs.size).bind λi=>xs[i]?.map (i,·))) >>= _) _ _ s);refine U1 (U1 ?_);refine(?_:Vh _ _ (adu (.ref a) >>= _) _ _ s);refine U1 (Y5 c rfl (U5 (U5 ?_)));have e:ZS (Zd j) xs.toArray.size=UX (dM xs.length (Zd j)):=ac VJ (jZ hi);refine ac e ?_;simp only[Wg,d,abw];refine(?_:Vh _ _ (setSeqItemAt a (dM xs.length (Zd j)) v >>= _) _ _ s);refine U1 (wpAny_setSeqItemAt (items:=xs.toArray) (n:=n) c rfl ?_)
  first
   |exact U1 (U5 (U5 (aA .none rfl (U5 f))))
   |exact U5 (aA .none rfl (U5 f))
noncomputable def setL :List α->Nat->α->List α
 |[],_,_=>[]
 |_::r,0,v=>v::r
 |x::r,n+1,v=>x::setL r n v
def EK (P:Vc) (a k v:V):M Unit:=asR a λi=>asI k λj=>λS=>match S.H[i]? with
  |some (.list xs)=>UX ((),⟨S.H.set i (.list (setL xs (dM xs.length j) v)),S.orc⟩,[aK xs.length j])
  |some (.ints xs)=>asI v (λm S=>UX ((),⟨S.H.set i (.ints (setL xs (dM xs.length j) m)),S.orc⟩,[aK xs.length j])) S
  |_=>UY
section
theorem yp:∀(l:List α) (n:Nat) (v:α),setL l n v=l.set n v
 |[],_,_=>rfl
 |_::_,0,_=>rfl
 |_::r,n+1,v=>congrArg (_::·) (yp r n v)
theorem av.setL {x:U4} (c:VR g U v x) :∀{xs:List U4} (n:Nat),av g U vs xs->av g U (Mine.Internal.setL vs n v) (Mine.Internal.setL xs n x):=by
 induction vs with
 |nil=>exact λn h=>h.e0 .nil
 |cons u r d=>exact λn h=>h.ec λy l a b=>WE n (.cons c b) λn=> .cons a (d n b)
theorem B8 {m:Int} {t:ZP} :∀{xs:List U4} (n:Nat),Ww xs ns->Ww (setL xs n (.int m t)) (setL ns n m):=by
 induction ns with
 |nil=>exact λn h=>(IA.i0 h).symm▸ .nil
 |cons u r a=>exact λn h=>aG (IA.ic h) λy l e b=>e.symm▸WE n (.cons m t b) λn=> .cons u y (a n b)
theorem OK.upd {y:β} {a:α} {S:St} {K:α->St->List Prop->Prop} {b:O} {f:List U4->List U4} {p:Prop} (hi:U[i]?=UX ad) (g:∀a S' p,rA c A fz U t R S a S' p->K a S' p) (L:Nat) (h1:S.H[i]?=UX o) (l1:o.live=UZ) (l2:b.live=UZ)
  (h:∀fz' ρ' ob,Le fz fz'->U <+:ρ'->OR c.w.params fz' ρ' o ad ob->∃vs n,ob=bT vs n/\vs.length=L/\∀m,OR c.w.params fz' ρ' b ad (bT (f vs) m)) (j:∀fz U,R fz U a y)
  (l:∀s Q vs n,s.heap.get? ad=UX (bT vs n)->vs.length=L->p->(∀m h',WU ad s.heap h'->h'.get? ad=UX (bT (f vs) m)->Q y {s with heap:=h'})->Vh (Vi c.prog c.w) A t Q bE s):OK (UX (a,⟨S.H.set i b,S.orc⟩,[p])) K:=
 g _ _ _ λr fz' ρ' s Q k q d u=>aj (d.hr.at h1 l1 (ai q hi)) λob e2 e3=>cy (h _ _ _ k q e3) λvs n e v x=>l s Q vs n (aD e e2) v r.1 λm h' z B=>u.at (d.tz (d.hr.upd h1 l1 (ai q hi) z B (x m) l2)) (j _ _)
theorem yq {vs:List U4} {n L:Nat} {j:Int} {Q:Unit->U9->Prop} (e:s.heap.get? ad=UX (bT vs n)) (a:vs.length=L) (b:aK L j) (h:∀m h',WU ad s.heap h'->h'.get? ad=UX (bT (setL vs (dM L j) z) m)->Q () {s with heap:=h'}):Vh (Vi c.prog c.w) A (Y0 (.ref ad) (.int j u) z) Q bE s:=by subst a;exact JA e b (bI (kD (f:=λd=>d.setIfInBounds (dM vs.length j) z) (vs':=setL vs (dM vs.length j) z) e (by rw[yp];simp)) λm g=>h m _ (VT ..) g)
theorem JB {a k:V} {x:U4} (p:VR fz U a x) (r:VR fz U k y) (g:VR fz U v z):ae c A fz U (EK P a k v) (Y0 x y z) dJ:=by
 unfold EK;refine(ae.asR (t:=λx=>Y0 x y z) p ?_);intro i ad h;refine(ae.asI (t:=λy=>Y0 (.ref ad) y z) r ?_:);intro j u;refine ae.run λS K l=>?_;induction o:S.H[i]? with
 |none=>exact Vf
 |some w=>induction w with
  |«list» B=>exact OK.upd h l _ o rfl rfl (λb b b k q f=>aG f λvs n e d=>(cY vs n e d.length (λm=>(bL _ m rfl (av.setL (g.mono k q) _ d))))) (λb b=>trivial) λs Q vs n e=>yq e
  |«ints» B=>induction v with
   |int m=>refine bI g.i_int λt e=>?_;subst e;exact OK.upd h l _ o rfl rfl (λb b b k q f=>aG f λvs n e d=>(cY vs n e (IntsAre.len d) (λm=>(bL _ m rfl (B8 _ d))))) (λb b=>trivial) λs Q vs n e=>yq e
   |_=>exact Vf
  |_=>exact Vf
end
noncomputable def SV.emp:SV->Bool
 | .vs xs=>xs.isEmpty
 | .ns xs=>xs.isEmpty
 | .ss xs=>xs.isEmpty
 | .ds xs=>xs.isEmpty
theorem SV.emp_eq (sv:SV):sv.emp=decide (sv.len=0):=by
 induction sv with
 |_ a=>cases a<;>rfl
def LU (v:V):M Bool:=match v with
 | .none=>ret U0
 | .bool b=>ret b
 | .int i=>ret (!decide (i=0))
 | .str x=>λS=>UX (!decide (x.length=0),S,[x.length < 2^62])
 |v=>bnd (look v) λr=>λS=>UX (!r.2.emp,S,[r.2.len < 2^62])
def LV (v:V):M V:=match v with
 | .str x=>dW (.int x.length) (x.length < 2^62)
 |v=>bnd (look v) λr=>dW (.int r.2.len) (r.2.len < 2^62)
def SV.all:SV->Option (List V)
 | .vs xs=>UX xs
 | .ds xs=>UX (xs.map eA)
 |_=>UY
def iterD (d:D):M V:=match gT d with
 |some (UZ,_)=>ej (.datIt d 0) []
 |_=>fail
def zT (v:V):M V:=match v with
 | .str x=>ej (.strIt x 0) []
 | .dat d=>iterD d
 | .ref i=>λS=>match S.H[i]? with
  |some (.range a b c)=>ej (.rngIt a (X6 a b c) c) [YK a b c=UZ] S
  |some (.fro d)=>iterD d S
  |some o=>match jA o with
   |true=>UX (.ref i,S,[])
   |false=>match tW o with
    |some (UZ,_)=>ej (.listIt i 0) [] S
    |_=>UY
  |none=>UY
 |_=>fail
def cz (x:Vd) (i:Nat):Vd:=⟨#[ay 0 x.cps.toList i]⟩
def SV.nx:SV->Nat->M (Option V)
 | .vs xs,i=>ret (dg xs i)
 | .ds xs,i=>match dg xs i with
  |some d=>ret (UX (eA d))
  |none=>ret UY
 | .ns xs,i=>bnd (dec (decide (i < xs.length))) λb=>match b with
  |true=>ret (UX (.int (ay 0 xs i)))
  |false=>ret UY
 | .ss xs,i=>bnd (dec (decide (i < xs.length))) λb=>match b with
  |true=>ret (UX (.str (ay Vl xs i)))
  |false=>ret UY
noncomputable def fE (it:Nat) (o:O) (r:Option V):M (Option V):=λS=>match r with
 |some v=>UX (UX v,⟨S.H.set it o,S.orc⟩,[])
 |none=>UX (UY,⟨S.H.set it .dead,S.orc⟩,[])
def EL (it:Nat):M (Option V):=λS=>match S.H[it]? with
 |some (.listIt l i)=>bnd (look (.ref l)) (λr=>match r.1 with
  |true=>bnd (r.2.nx i) (fE it (.listIt l (i+1)))
  |false=>fail) S
 |some (.datIt d i)=>match gT d with
  |some (UZ,sv)=>bnd (sv.nx i) (fE it (.datIt d (i+1))) S
  |_=>UY
 |some (.strIt x i)=>bnd (dec (decide (i < x.length))) (λb=>match b with
  |true=>fE it (.strIt x (i+1)) (UX (.str (cz x i)))
  |false=>fE it .dead UY) S
 |some (.rngIt x left step)=>bnd (dec (decide (0 < left))) (λb=>match b with
  |true=>fE it (.rngIt (x+step) (left - 1) step) (UX (.int x))
  |false=>fE it .dead UY) S
 |_=>UY
section
theorem xP {sv:SV} (h:xs.length=sv.len):xs.toArray.isEmpty=sv.emp:=by rw[SV.emp_eq];refine aD h ?_;unfold Array.isEmpty;exact ac VJ rfl
theorem tX {n:Nat} (h:n < 2^62):(n:Int) < 2^63:=Xm (Int.ofNat_lt.mpr h) (by decide)
theorem JC {x:U4} (e:VR fz U v x):ae c A fz U (LU v) (YY x) gP:=by
 have g:=ae.look (A:=A) (c:=c) (R:=gP) (t:=YY) (k:=λr S=>UX (!r.2.emp,S,[r.2.len < 2^62])) e λr ad S K u=>u _ _ _ λw j ρ' s Q k q l y z n m o=>by
  have d:(z.length:Int) < 2^63:=tX (o.len.symm▸w.1);have f:=y.at (l.tb l.hr:SR c j ρ' S.H {s with toks:=s.toks+1+1}) (congrArg (!·) (xP o.len).symm);obtain⟨b,sv⟩:=r;induction b with
  |true=>exact wpAny_truthy_list ⟨_,m,rfl,n,rfl⟩ d f
  |false=>exact truthy_tuple ⟨_,m,rfl,n,rfl⟩ d f
 induction v with
 |none=>refine ac e.i_none ?_;exact ae.lift rfl λs Q h y=>truthy_none (y _ s.toks λa a a a=>rfl)
 |bool b=>refine ac e.i_bool ?_;exact ae.lift rfl λs Q h y=>wpAny_truthy_bool (y _ s.toks λa a a a=>rfl)
 |int i=>exact e.e_int λt=>ae.lift rfl λs Q h y=>P.truthy_int (y _ s.toks λa a a a=>congrArg (!·) (fh i 0))
 |str s=>exact e.e_str λt=>ae.lift rfl λB Q h y=>P.truthy_str (Int.not_le.mpr (tX h.1)) (y _ _ λa a a a=>by
   refine(?_:(!decide (s.length=0))=((s.length:Int)!=0));by_cases h:s.length=0
   ·refine ac h ?_;rfl
   ·refine ac (decide_eq_false h) ?_;exact(bne_iff_ne.mpr (Int.ofNat_ne_zero.mpr h)).symm)
 |_=>exact g
theorem JD {x:U4} (i:VR fz U v x):ae c A fz U (LV v) (call (.builtin "len") [x] []) au:=by
 have g:=ae.look (A:=A) (c:=c) (R:=au) (t:=λx=>call (.builtin "len") [x] []) (k:=λr=>dW (.int r.2.len) (r.2.len < 2^62)) i λr ad S K p=>p _ _ _ λu w ρ' s Q k q j y f n l m=>by
  have d:(f.length:Int) < 2^63:=tX (m.len.symm▸u.1);have e:Q (.int f.toArray.size (s.toks+1)) {s with toks:=s.toks+1+1}:=y.at (j.tb j.hr) ((congrArg (λn:Nat=>V.int n) m.len)▸ .int _ _);obtain⟨b,sv⟩:=r;induction b with
  |true=>exact Calls.call_len_list (items:=f.toArray) ⟨_,l,rfl,n,rfl⟩ d e
  |false=>exact P.len_tuple (n:=n) (items:=f.toArray) l (Int.not_le.mpr d) e
 induction v with
 |str s=>exact i.e_str λt=>ae.lift rfl λz Q h y=>abL (Int.not_le.mpr (tX h.1)) (y _ _ λa a a a=> .int _ _)
 |_=>exact g
theorem cq.all {sv:SV} (h:cq g U sv xs) (e:sv.all=UX vs):av g U vs xs:=by
 induction sv with
 |vs l=>obtain rfl:=U2 e;exact h
 |ds l=>
  obtain rfl:=U2 e;have:∀{l:List D} {xs:List U4},cb g l xs->av g U (l.map eA) xs:=λ{l}=>by
   induction l with
   |nil=>exact λh=>h.i0.symm▸ .nil
   |cons d r c=>exact λh=>h.ec λx u a b=> .cons (jx a) (c b)
  exact this h
 |_=>exact nn e
theorem B9 (x:X3 h.objs.size h h'):Le h h':=λb o e=>x b o (aan (We e)) e
end
section
theorem OK.iterD {x:U4} {S:St} {K:V->St->List Prop->Prop} (j:∀a S' p,rA c A fz U (aaL x) au S a S' p->K a S' p) (hd:∀fz' ρ' s,Le fz fz'->U <+:ρ'->SR c fz' ρ' S.H s->DR fz' d x):OK (iterD d S) K:=by
 unfold Mine.Internal.iterD;induction h:gT d with
 |none=>exact Vf
 |some r=>
  obtain⟨b,sv⟩:=r;induction b with
  |false=>exact Vf
  |true=>refine j _ _ _ λo fz' ρ' s Q k q g y=>?_;have i:=hd _ _ _ k q g;refine gO (iA (U:=ρ') h i) λa l n e m f=>?_;subst e;exact abW (items:=l.toArray) ⟨_,g.hr.fzle _ _ m,rfl,n,rfl⟩ (y.new g rfl ⟨a,i,rfl,rfl⟩ rfl (Vt _))
theorem EM {x:U4} (h:VR fz U v x):ae c A fz U (zT v) (aaL x) au:=by
 refine ae.run λS K j=>?_;induction v with
 |str t=>refine bI h.i_str λB e=>?_;subst e;exact j _ _ _ λp f ρ' s Q k q b y=>wpAny_pyIter_strU (y.new b rfl (cY B (strIterType t) (by unfold strIterType;split<;>simp) rfl rfl) rfl (Vt _))
 |dat d=>exact OK.iterD j λa a a k a a=>h.i_dat.mono k
 |ref i=>
  refine aj h.i_ref λad e l=>?_;subst e;clear h;unfold zT;dsimp only;induction m:S.H[i]? with
  |none=>exact Vf
  |some o=>
   have r:∀{sv:SV},tW o=UX (UZ,sv)->OK (UX (V.ref S.H.length,(⟨S.H++[.listIt i 0],S.orc⟩:St),([]:List Prop))) K:=λ{sv} w=>j _ _ _ λp f ρ' s Q k q b y=>
    have g:=ai q l
    aG (vm w (λw=>b.hr.at m w g) (λd C=>b.hr.froAt (aD C m) g) b.hr.fzle) λD n E a=>abW (items:=D.toArray) ⟨_,E,rfl,n,rfl⟩ (y.new b rfl ⟨ad,ai (Vp _ _) g,rfl,rfl⟩ rfl (Vt _))
   have z:jA o=UZ->OK (UX (V.ref i,S,([]:List Prop))) K:=λh=>j _ _ _ λp f ρ' s Q k q b y=>sZ b m h (ai q l) (y.at b (.ref (ai q l)));induction o with
   |range I J L=>
    refine j _ _ _ λp f ρ' s Q k q b y=>(aj (b.hr.at m rfl (ai q l)) λM F G=>ky G λt u v e=>?_)
    exact wpAny_pyIter_range (e▸F) p.1 (y.new b rfl rfl rfl (Vt _))
   |fro d=>exact OK.iterD j λa a a k q b=>b.hr.froAt m (ai q l)
   |rngIt|listIt|datIt|strIt=>exact z rfl
   |«list»|«ints»|«strs»|«dats»=>exact r rfl
   |_=>exact Vf
 |_=>exact Vf
def Ut (sv:SV) (i:Nat):Option V->Prop
 |some v=>sv.at i=UX v/\i < sv.len
 |none=>sv.len<=i
theorem OK.nx {sv:SV} {S:St} {K:Option V->St->List Prop->Prop} (h:∀r orc p,(ao p->Ut sv i r)->K r ⟨S.H,orc⟩ p):OK (sv.nx i S) K:=by
 induction sv with
 |vs b=>
  refine h _ _ _ λa=>?_;rw[eF];induction h:b[i]? with
  |none=>exact List.getElem?_eq_none_iff.mp h
  |some v=>exact⟨(eF b i).trans h,bn h⟩
 |ds b=>
  refine(?_:OK ((match dg b i with|some d=>ret (UX (eA d))|none=>ret UY) S) K);induction e:dg b i with
  |none=>exact h _ _ _ λa=>List.getElem?_eq_none_iff.mp ((eF ..).symm.trans e)
  |some v=>
   refine h _ _ _ λa=>⟨?_,bn ((eF ..).symm.trans e)⟩
   refine(?_:(match dg b i with|some d=>UX (eA d)|none=>UY)=_);rw[e]
 |ns b=>exact OK.dec λo r=>match o with
  |true=>h _ _ _ λc=>⟨rfl,of_decide_eq_true c.1⟩
  |false=>h _ _ _ λc=>Nat.not_lt.mp (of_decide_eq_false c.1)
 |ss b=>exact OK.dec λo r=>match o with
  |true=>h _ _ _ λc=>⟨rfl,of_decide_eq_true c.1⟩
  |false=>h _ _ _ λc=>Nat.not_lt.mp (of_decide_eq_false c.1)
theorem vo (C:A.handled=UY) {it:Nat} {sv:SV} {S:St} {K:Option V->St->List Prop->Prop} (z:∀a S' p,rA c A fz U (aaM (.ref ia)) lf S a S' p->K a S' p) (hi:U[it]?=UX ia) (h0:S.H[it]?=UX o₀) (l0:o₀.live=UZ) (l1:o.live=UZ)
  (h:∀fz' ρ' s,Le fz fz'->U <+:ρ'->SR c fz' ρ' S.H s->∃l xs n,s.heap.IsListIter ia l i/\s.heap.get? l=UX (bT xs n)/\cq fz' ρ' sv xs/\∀ob:Xi,ob.cls= .type "list_iterator"->ob.data= .fields #[.ref l, .int (i+1:Nat) 0]->OR c.w.params fz' ρ' o ia ob):OK (bnd (sv.nx i) (fE it o) S) K:=by
 refine OK.seq (OK.nx λr D p f=>?_)
 induction r with
 |some v=>refine z _ _ _ λj fz' ρ' s Q k q b y=>jg (h _ _ _ k q b) λl xs n d m e B=>?_;have f:=f (af.mp j).1;exact aj (e.at f.1 f.2) λw E F=>(wpAny_pyNext_list_item d ⟨_,m,rfl,n,rfl⟩ (x:=w) ((Wj).trans E) λG g t=>ca g λob g1 I J=>y.at (R:=lf) (y:=UX w) (b.tz (b.hr.upd h0 l0 (ai q hi) t g1 (B ob I J) l1)) F)
 |none=>exact z _ _ _ λj fz' ρ' s Q k q b y=>jg (h _ _ _ k q b) λl xs n d m e B=>(wpAny_pyNext_list_end C d ⟨_,m,rfl,n,rfl⟩ ((Wj).trans (Wu (ac e.len (f (af.mp j).1)))) λG u=>y.at (R:=lf) (y:=UY) (b.tz (b.hr.kill h0 l0 (ai q hi) u)) trivial)
theorem JE (G:A.handled=UY) {it:Nat} (hi:U[it]?=UX ia):ae c A fz U (EL it) (aaM (.ref ia)) lf:=by
 refine ae.run λS K F=>?_;unfold EL;induction j:S.H[it]? with
 |none=>exact Vf
 |some o=>
  induction o with
  |listIt l i=>
   refine OK.seq (OK.lookR (c:=c) λr V=>?_);obtain⟨b,sv⟩:=r;induction b with
   |false=>exact Vf
   |true=>exact vo G F hi j rfl rfl λm ρ' s k q a=>aj (a.hr.at j rfl (ai q hi)) λp h D=>ca D λb w B C=>aG (V _ _ _ _ a w) λN n O P=>⟨b,N,n,(cE p h B C),O,P,λI g1 J=>(cE _ w g1 J)⟩
  |datIt d i=>
   dsimp only;induction W:gT d with
   |none=>exact Vf
   |some r=>
    obtain⟨b,sv⟩:=r;induction b with
    |false=>exact Vf
    |true=>exact vo G F hi j rfl rfl λm ρ' s k q a=>aj (a.hr.at j rfl (ai q hi)) λp h D=>ca D λb w B C=>gO (iA (U:=ρ') W w) λad N n e O P=>⟨b,N,n,(cE p h B C),aaw e▸a.hr.fzle _ _ O,P,λI g1 J=>(cE _ w g1 J)⟩
  |strIt x i=>
   refine OK.dec λo r=>?_;induction o with
   |true=>
    refine F _ _ _ λE m ρ' s Q k q a y=>?_;have u:=ai q hi;refine aj (a.hr.at j rfl u) λp h D=>cy D λt T w B C=>?_;have L:x.cps[i]?=UX (ay 0 x.cps.toList i):=Array.getElem?_toList.symm.trans (gK (of_decide_eq_true E.1));have v:∀z,z.IsStrIter ia T x t (i+1)->WU ia s.heap z->Q (UX (.str ⟨#[ay 0 x.cps.toList i]⟩ s.toks)) {s with heap:=z,toks:=s.toks+1}:=λz g f=>ca g λI g1 J X=>
     y.at (R:=lf) (a.ta (a.hr.upd j rfl u f g1 (cY t T w J X))) (.str _ _)
    rcases w with rfl|rfl
    ·exact wpAny_pyNext_wide_item (cE p h B C) L v
    ·exact wpAny_pyNext_ascii_item (cE p h B C) L v
   |false=>
    refine F _ _ _ λE m ρ' s Q k q a y=>?_;have u:=ai q hi;refine aj (a.hr.at j rfl u) λp h D=>cy D λt T w B C=>?_;have L:x.cps[i]?=UY:=Array.getElem?_toList.symm.trans (Wu (Nat.not_lt.mp (of_decide_eq_false E.1)));have v:∀z,X3 ia s.heap z->Q UY {s with heap:=z}:=λz f=>y.at (R:=lf) (y:=UY) (a.tz (a.hr.kill j rfl u f)) trivial;rcases w with rfl|rfl
    ·exact wpAny_pyNext_wide_end G (cE p h B C) L v
    ·exact wpAny_pyNext_ascii_end G (cE p h B C) L v
  |rngIt x left step=>
   refine OK.dec λo r=>?_;induction o with
   |true=>exact F _ _ _ λE m ρ' s Q k q a y=>aj (a.hr.at j rfl (ai q hi)) λp h e=>wpAny_pyNext_range_item (h.trans (congrArg UX e)) (of_decide_eq_true E.1) λz g f=>y.at (R:=lf) (a.ta (a.hr.upd j rfl (ai q hi) f g rfl)) (.int _ _)
   |false=>exact F _ _ _ λE m ρ' s Q k q a y=>aj (a.hr.at j rfl (ai q hi)) λp h e=>wpAny_pyNext_range_end G (h.trans (congrArg UX e)) (Int.not_lt.mp (of_decide_eq_false E.1)) λz f=>y.at (R:=lf) (y:=UY) (a.tz (a.hr.kill j rfl (ai q hi) f)) trivial
  |_=>exact Vf
end
noncomputable def gz (a b:Int):Int:=match decide (b > a) with
 |true=>b
 |false=>a
noncomputable def gA:List Int->Int
 |[]=>0
 |[a]=>a
 |a::r=>match decide (gA r < a) with
  |true=>gA r
  |false=>a
noncomputable def SV.toO:SV->O
 | .vs xs=> .list xs
 | .ns xs=> .ints xs
 | .ss xs=> .strs xs
 | .ds xs=> .dats xs
def LW (vs:List V):M V:=mD vs λv w=>asI v λa=>asI w λb=>ret (.int (gz a b))
def LX (vs:List V):M V:=gS vs λv=>lookI v λns=>dW (.int (gA ns)) (0 < ns.length)
def Ca (vs:List V):M V:=match vs with
 |[_]=>gS vs λv=>asI v λn=>ej (.range 0 n 1) []
 |[_,_]=>mD vs λv w=>asI v λa=>asI w λb=>ej (.range a b 1) []
 |_=>EC vs λv w u=>asI v λa=>asI w λb=>asI u λd=>ej (.range a b d) [d≠0/\d.natAbs < 1000]
def LY (vs:List V):M V:=gS vs λv=>asI v λn=>dW (.str (WN (toString n))) (n.natAbs.log2 < 1920)
def LZ (vs:List V):M V:=gS vs λv=>asS v λx=>dW (.int ((Y6 x).getD 0)) (Y6 x=UX ((Y6 x).getD 0)/\x.length<=640)
def HQ (vs:List V):M V:=gS vs λv=>bnd (look v) λr=>ej r.2.toO [r.2.len<=Vb]
section
theorem vp (h0:0 < ns.length):gA ns∈ns/\∀a∈ns,gA ns<=a:=by
 induction ns with
 |nil=>exact absurd h0 (WV 0)
 |cons a r e=>induction r using VG with
 |nil=>exact⟨.head _,λb f=>List.mem_singleton.mp f▸YD _⟩
 |cons b r=>
  refine aN (e (Wx _)) λg d=>(?_:(match decide (gA (b::r) < a) with|true=>gA (b::r)|false=>a)∈a::b::r/\∀x∈a::b::r,(match decide (gA (b::r) < a) with|true=>gA (b::r)|false=>a)<=x)
  by_cases h:gA (b::r) < a
  ·refine ac (decide_eq_true h) ⟨.tail _ g,λx c=>?_⟩;rcases List.mem_cons.mp c with rfl|c
   ·exact Wy h
   ·exact d x c
  ·refine ac (decide_eq_false h) ⟨.head _,λx c=>?_⟩;rcases List.mem_cons.mp c with rfl|c
   ·exact YD _
   ·exact VN (Int.not_lt.mp h) (d x c)
theorem EN {l:U8} {vs:List U4} (o:A.handled=UY) (hl:s.heap.IsList l vs.toArray) (hi:Ww vs ns) (d:0 < ns.length)
  (h:∀h' (t:ZP) tk,Le s.heap h'->Q (.int (gA ns) t) {s with heap:=h',toks:=tk}):Vh (Vi c.prog c.w) A (call (.builtin "min") [.ref l]) Q E s:=by
 obtain⟨a,e⟩:=hi.allInts.items
 have b:ns=a.toList.map (·.1):=by refine aD hi.numsOf ?_;rw[<-nums_intItems,<-e]
 have f:0 < a.size:=by have n:=d;simp only[b,VA,Zk] at n;exact n
 simp only[e] at hl
 refine min_intList o hl f λv h' tk p q=>?_
 obtain⟨t,rfl⟩:=intItems_at p
 obtain⟨r,u⟩:=argBest_lt (numAt a) (a.size - 1)
 have g:∀j,j < a.size->numAt a j∈ns:=λj x=>by refine ac b ?_;rw[numAt_eq,ab5];refine ac (VI (by rw[VA,Zk];exact x)) ?_;exact List.getElem_mem _
 have y:numAt a (argBest (λi j=>decide (numAt a i < numAt a j)) (a.size - 1))=gA ns:=by
  obtain⟨z,B⟩:=vp d;refine Int.le_antisymm ?_ (B _ (g _ (Vn r (Yz f YE))));obtain⟨j,k⟩:=List.mem_iff_getElem?.mp z;have m:numAt a j=gA ns:=by rw[numAt_eq,ab5,<-b];refine ac k ?_;rfl
  exact aD m (u j (Nat.le_sub_one_of_lt (by have:=bn k;simp only[b,VA,Zk] at this;exact this:j < a.size)))
 exact ac y (h h' t tk q)
theorem JF (b:A.handled=UY) (d:av fz U vs xs):ae c A fz U (LW vs) (call (.builtin "max") xs []) au:=by
 refine(ae.call2 (t:=λxs=>call (.builtin "max") xs []) d ?_:);intro v w x y e f;refine(ae.asI (t:=λx=>call (.builtin "max") [x,y] []) e ?_:);intro i t;refine(ae.asI (t:=λy=>call (.builtin "max") [.int i t,y] []) f ?_:);intro j u;refine ae.run λS K g=>g _ _ _ λp l ρ' s Q k q a y=>iw a.tk (max_two_ints b λr z m n=>?_);have o:(if j > i then aaF j u else aaF i t)= .int (gz i j) (if j > i then u else t):=by
  unfold gz;by_cases h:j > i
  ·exact ac (if_pos h) (ac (decide_eq_true h) (ac (if_pos h) rfl))
  ·exact ac (if_neg h) (ac (decide_eq_false h) (ac (if_neg h) rfl))
 exact ac o (y.at (a.to (a.hr.le m) (.inr ‹_›)) (.int _ _))
theorem JG (b:A.handled=UY) (d:av fz U vs xs):ae c A fz U (LX vs) (call (.builtin "min") xs []) au:=by refine(ae.call1 (t:=λxs=>call (.builtin "min") xs []) d ?_:);intro v x e;refine(ae.lookI (t:=λx=>call (.builtin "min") [x] []) e ?_:);exact λl ad S K f=>f _ _ _ λg h ρ' s Q k q a y xs n i j=>iw a.tk (EN b ⟨_,i,rfl,n,rfl⟩ j g.1 λp t r m o=>y.at (a.to (a.hr.le m) (.inr ‹_›)) (.int _ _))
theorem Cb (o:av fz U vs xs):ae c A fz U (Ca vs) (call (.type "range") xs []) au:=by
 have B:=ae.call1 (A:=A) (c:=c) (R:=au) (k:=λv=>asI v λn=>ej (.range 0 n 1) []) (t:=λxs=>call (.type "range") xs []) o λv x e=>by refine(ae.asI (t:=λx=>call (.type "range") [x] []) e ?_:);exact λi t=>ae.run λS K f=>f _ _ _ λm g ρ' s Q k q h y=>call_range_1 (y.new h rfl (Hz _ _ _ rfl) rfl (Vo _ 2))
 have C:=ae.call2 (A:=A) (c:=c) (R:=au) (k:=λv w=>asI v λa=>asI w λb=>ej (.range a b 1) []) (t:=λxs=>call (.type "range") xs []) o λv w x y e p=>by refine(ae.asI (t:=λx=>call (.type "range") [x,y] []) e ?_:);intro i t;refine(ae.asI (t:=λy=>call (.type "range") [.int i t,y] []) p ?_:);exact λj u=>ae.run λS K f=>f _ _ _ λm g ρ' s Q k q h y=>call_range_2 (y.new h rfl (Hz _ _ _ rfl) rfl (Vo _ 1))
 have r:=ae.call3 (A:=A) (c:=c) (R:=au) (k:=λv w u=>asI v λa=>asI w λb=>asI u λd=>ej (.range a b d) [d≠0/\d.natAbs < 1000]) (t:=λxs=>call (.type "range") xs []) o λv w u x y z e p D=>by refine(ae.asI (t:=λx=>call (.type "range") [x,y,z] []) e ?_:);intro i t;refine(ae.asI (t:=λy=>call (.type "range") [.int i t,y,z] []) p ?_:);intro j u;refine(ae.asI (t:=λz=>call (.type "range") [.int i t, .int j u,z] []) D ?_:);exact λl v=>ae.run λS K f=>f _ _ _ λm g ρ' s Q k q h y=>call_range_3 m.1.1 (y.new h rfl (Hz _ _ _ rfl) rfl (Vt _)) (.inl (acg (XI m.1.2 (by decide))))
 rcases vs with _|⟨a,_|⟨b,_|_⟩⟩
 ·exact r
 ·exact B
 ·exact C
 ·exact r
theorem JH (b:av fz U vs xs):ae c A fz U (LY vs) (call (.type "str") xs []) au:=by refine(ae.call1 (t:=λxs=>call (.type "str") xs []) b ?_:);intro v x d;refine(ae.asI (t:=λx=>call (.type "str") [x] []) d ?_:);exact λi t=>ae.lift rfl λs Q h y=>P.str_of_int h.1 (y _ _ λa a a a=> .str _ _)
theorem JI (b:av fz U vs xs):ae c A fz U (LZ vs) (call (.type "int") xs []) au:=by refine(ae.call1 (t:=λxs=>call (.type "int") xs []) b ?_:);intro v x d;refine(ae.asS (t:=λx=>call (.type "int") [x] []) d ?_:);exact λi t=>ae.lift rfl λs Q h y=>PySem.W.KIN.call_text h.1.1 h.1.2 (y _ _ λa a a a=> .int _ _)
theorem cq.toO {sv:SV} {n:Nat} (h:cq g U sv xs):OR P g U sv.toO a (bT xs n):=by cases sv<;>exact(bL xs n rfl h)
theorem SV.toO_live (sv:SV):sv.toO.live=UZ:=by cases sv<;>rfl
theorem cq.mono (k:Le g g') (p:U <+:ρ') {sv:SV} (h:cq g U sv xs):cq g' ρ' sv xs:=by
 induction sv with
 |vs=>exact av.mono k p h
 |ns=>exact h
 |ss=>exact h
 |ds=>exact DX.mono k h
theorem EO (h:av fz U vs xs):ae c A fz U (HQ vs) (call (.type "list") xs []) au:=by
 refine(ae.call1 (t:=λxs=>call (.type "list") xs []) h ?_:);intro v x j;refine(ae.look (t:=λx=>call (.type "list") [x] []) j ?_:);refine λr ad S K l=>l _ _ _ λm e ρ' s Q k q f y xs n p g=>?_;obtain⟨b,sv⟩:=r;refine call_list_seq (hsz:=(g.len.symm▸m.1:xs.length<=_)) (T:=if b then "list" else "tuple") ad (by cases b<;>decide) p (by cases b<;>rfl) (items:=xs.toArray) (n:=n) (by cases b<;>rfl) λB C u w=>?_;refine y e _ _ _ (Le.refl _) (Vp _ _) (f.tz (f.hr.exts u [s.heap.objs.size] [sv.toO] rfl (by simp) (λa d=>Vg (List.mem_singleton.mp d).symm) (λi a o d z=>?_))) (.ref (bj f.hr.len.symm));induction i with
 |zero=>cases d;cases z;exact⟨SV.toO_live _,_,w,cq.toO (g.mono (Le.refl _) (Vp _ _))⟩
 |succ=>exact nn d
end
noncomputable def j0:List (Vd×Nat):=[("strip",12),("rstrip",13),("replace",14),("split",15),("join",16),("isspace",17)]
noncomputable def qu:List (Vd×Nat):=[("append",8),("pop",9),("remove",10),("count",11)]
noncomputable def tY:List (Vd×Nat):=[("bit_length",18)]
def vq (v:V) (n:Vd):M (V×List V):=match v with
 | .str _=>match cT n j0 with
  |some k=>ret (.fk k,[v])
  |none=>fail
 | .int _=>match cT n tY with
  |some k=>ret (.fk k,[v])
  |none=>fail
 |v=>bnd (look v) λr=>match r.1,cT n qu with
  |true,UX k=>ret (.fk k,[v])
  |_,_=>fail
section
theorem qv {x:Vd} {t:ZP} {n:Vd} {Q:U4×List U4->U9->Prop} (h:cT n j0=UX k) (b:Q (FN k,[.str x t]) s):Vh Mo A (W3 (.str x t) n pl) Q E s:=by
 have c:=nI h;simp only[j0,WL,abX,WT,or_false] at c;rcases c with ⟨rfl,rfl⟩|⟨rfl,rfl⟩|⟨rfl,rfl⟩|⟨rfl,rfl⟩|⟨rfl,rfl⟩|⟨rfl,rfl⟩
 ·have a:Q (.builtin "str.strip",[.str x t]) s:=b
  with_reducible exact GM.of (.str x t) (XD _ _ _) F.slot_str_strip F.type_str_strip abx a
 ·have a:Q (.builtin "str.rstrip",[.str x t]) s:=b
  with_reducible exact GM.of (.str x t) (XD _ _ _) F.slot_str_rstrip F.type_str_rstrip abx a
 ·have a:Q (.builtin "str.replace",[.str x t]) s:=b
  with_reducible exact GM.of (.str x t) (XD _ _ _) F.slot_str_replace F.type_str_replace abx a
 ·have a:Q (.builtin "str.split",[.str x t]) s:=b
  with_reducible exact GM.of (.str x t) (XD _ _ _) F.slot_str_split F.type_str_split abx a
 ·have a:Q (.builtin "str.join",[.str x t]) s:=b
  with_reducible exact GM.of (.str x t) (XD _ _ _) F.slot_str_join F.type_str_join abx a
 ·have a:Q (.builtin "str.isspace",[.str x t]) s:=b
  with_reducible exact GM.of (.str x t) (XD _ _ _) F.slot_str_isspace F.type_str_isspace abx a
theorem JJ {m:Nat} {n:Vd} {Q:U4×List U4->U9->Prop} (i:s.heap.get? a=UX (bT xs m)) (h:cT n qu=UX k) (d:Q (FN k,[.ref a]) s):
  Vh Mo A (W3 (.ref a) n pl) Q E s:=by
 have j:=nI h
 have f:s.TypeIs (.ref a) "list":=(aA _ i rfl)
 have g:∀b,X8 a= .ref b->∃o,s.heap.get? b=UX o/\o.dict=UY:=λb e=>by cases e;exact(aA _ i rfl)
 simp only[qu,WL,abX,WT,or_false] at j
 rcases j with ⟨rfl,rfl⟩|⟨rfl,rfl⟩|⟨rfl,rfl⟩|⟨rfl,rfl⟩
 ·have c:Q (.builtin "list.append",[.ref a]) s:=d
  with_reducible exact Y7 f Z4 F.slot_list_append F.type_list_append g c
 ·have c:Q (.builtin "list.pop",[.ref a]) s:=d
  with_reducible exact Y7 f Z4 F.slot_list_pop F.type_list_pop g c
 ·have c:Q (.builtin "list.remove",[.ref a]) s:=d
  with_reducible exact Y7 f Z4 F.slot_list_remove F.type_list_remove g c
 ·have c:Q (.builtin "list.count",[.ref a]) s:=d
  with_reducible exact Y7 f Z4 F.slot_list_count F.type_list_count g c
theorem JK {x:U4} {n:Vd} (f:VR fz U v x):ae c A fz U (vq v n) (W3 x n pl) o6:=by
 have g:ae c A fz U (bnd (look v) λr=>match r.1,cT n qu with
  |true,UX k=>ret (.fk k,[v])
  |_,_=>fail) (W3 x n pl) o6:=by
  refine ae.run λS K p=>OK.seq (OK.look (c:=c) f λr ad e u=>?_)
  subst e
  obtain⟨b,sv⟩:=r
  induction b with
  |false=>exact Vf
  |true=>
   dsimp only;induction d:cT n qu with
   |none=>exact Vf
   |some j=>exact p _ _ _ λB w ρ' s Q k q i y=>aG (u _ _ _ k q i) λC m z a=>JJ z d (y.at i ⟨.fk j, .cons (f.mono k q) .nil⟩)
 induction v with
 |str t=>
  refine f.e_str λl=>(?_:ae c A fz U (match cT n j0 with|some k=>ret (V.fk k,[V.str t])|none=>fail:M (V×List V)) _ o6)
  induction d:cT n j0 with
  |none=>exact ae.fail
  |some j=>exact ae.lift rfl λs Q h y=>qv d (y _ s.toks λa a a a=>⟨.fk j, .cons (.str _ _) .nil⟩)
 |int t=>
  refine f.e_int λl=>(?_:ae c A fz U (match cT n tY with|some k=>ret (V.fk k,[V.int t])|none=>fail:M (V×List V)) _ o6)
  induction d:cT n tY with
  |none=>exact ae.fail
  |some j=>have o:=nI d;simp only[tY,WL,abX,WT,or_false] at o;obtain⟨rfl,rfl⟩:=o;exact ae.lift rfl λs Q h y=>getMethod_int_bit_length (y (.builtin "int.bit_length",[.int t l]) s.toks λa a a a=>⟨.fk 18, .cons (.int _ _) .nil⟩)
 |_=>exact g
end
def EP (P:Vc) (a:Nat) (v:V):M V:=match v with
 | .ref _=>λS=>match S.H[a]? with
  |some (.dats _)=>bnd (cj P 9 v) (λd=>ret (V.dat d)) S
  |_=>UX (v,S,[])
 |_=>ret v
noncomputable def L6 (v:V) (o:O):Option (O×Nat):=match o,v with
 | .list xs,v=>UX (.list (xs++[v]),xs.length)
 | .ints xs, .int m=>UX (.ints (xs++[m]),xs.length)
 | .strs xs, .str m=>UX (.strs (xs++[m]),xs.length)
 | .dats xs, .dat d=>UX (.dats (xs++[d]),xs.length)
 |_,_=>UY
def L7 (P:Vc) (vs:List V):M V:=mD vs λw v=>asR w λa=>bnd (EP P a v) λv=>getO (L6 v) a λr S=>UX (.none,⟨S.H.set a r.1,S.orc⟩,[r.2<=Vb])
noncomputable def HT:O->Option (List Int)
 | .ints xs=>UX xs
 |_=>UY
def L8 (vs:List V):M V:=gS vs λv=>asR v λa=>getO HT a λxs S=>UX (.int (ay 0 xs (xs.length - 1)),⟨S.H.set a (.ints xs.dropLast),S.orc⟩,[0 < xs.length/\xs.length<=Vb])
noncomputable def bB:List Int->Int->Int
 |[],_=>0
 |a::r,m=>match decide (a=m) with
  |true=>1+bB r m
  |false=>bB r m
def Cc (vs:List V):M V:=mD vs λv w=>asI w λm=>lookI v λns=>ret (.int (bB ns m))
noncomputable def mF:List V->Option (List Vd)
 |[]=>UX []
 | .str s::r=>match mF r with
  |some l=>UX (s::l)
  |none=>UY
 |_=>UY
noncomputable def qw:List D->Option (List Vd)
 |[]=>UX []
 | .str s::r=>match qw r with
  |some l=>UX (s::l)
  |none=>UY
 |_=>UY
def SV.strs:SV->Option (List Vd)
 | .ss l=>UX l
 | .vs l=>mF l
 | .ds l=>qw l
 |_=>UY
def HU (vs:List V):M V:=mD vs λv w=>asS v λx=>bnd (look w) λr=>match r.1,r.2.strs with
  |true,UX ss=>dW (.str (WA x ss)) (acP x ss=UZ)
  |_,_=>fail
def Cd (vs:List V):M V:=gS vs λv=>asS v λx=>dW (.str (Wh x)) (x.length<=Vb)
def yr (vs:List V):M V:=gS vs λv=>asS v λx=>dW (.str (X9 x)) (x.length<=Vb)
def Ce (vs:List V):M V:=gS vs λv=>asS v λx=>ret (.bool (abM x))
def HV (vs:List V):M V:=gS vs λv=>asI v λa=>ret (.int (U7 a))
section
theorem JL {vs:List U4} {n:Nat} {x:U4} (b:s.heap.get? a=UX (bT vs n)) (hsz:vs.length<=Vb)
  (d:∀m h',WU a s.heap h'->h'.get? a=UX (bT (vs++[x]) m)->Q .none {s with heap:=h'}):Vh (Vi c.prog c.w) A (call (.builtin "list.append") [.ref a,x]) Q E s:=by
 refine YO abU (T:="list") (aA _ b rfl) abH (abC _ _) (list_append a vs.toArray n x ((VJ).symm▸hsz)) ⟨b,?_⟩
 refine bI (kD (f:=λe=>e.push x) (vs':=vs++[x]) b (by simp)) λm g=>?_
 exact d m _ (VT ..) g
theorem Cf {m:Int} {t:ZP} :∀{xs:List U4},Ww xs ns->Ww (xs++[.int m t]) (ns++[m]):=by
 induction ns with
 |nil=>exact λh=>(IA.i0 h).symm▸ .cons _ _ .nil
 |cons n r a=>exact λh=>aG (IA.ic h) λu l e b=>e.symm▸ .cons _ _ (a b)
theorem Cg {m:Vd} {t:ZP} {ns:List Vd}:∀{xs:List U4},dk ns xs->dk (ns++[m]) (xs++[.str m t]):=by
 induction ns with
 |nil=>exact λh=>h.i0.symm▸ .cons .nil
 |cons n r a=>exact λh=>aG h.ic λu l e b=>e.symm▸ .cons (a b)
theorem cb.app {x:List D}:∀{a b:List U4} {y:List D},cb g x a->cb g y b->cb g (x++y) (a++b):=by
 induction x with
 |nil=>intro a b y h k;refine ac h.i0 ?_;exact k
 |cons n r c=>intro a b y h k;exact h.ec λt u q s=>(.cons q (c s k))
theorem Ch {x:U4} (h:DR g d x) {ns:List D} (k:cb g ns xs):cb g (ns++[d]) (xs++[x]):=cb.app k (.cons h .nil)
theorem JM {a:Nat} {x:U4} (f:VR fz U v x):Gh c fz U (EP c.w.params a v) (λn r1 p=>VR n r1 p x):=by
 induction v with
 |ref j=>
  refine Gh.run λS K i=>?_;have l:OK (UX (V.ref j,S,[])) K:=i _ _ _ λm e ρ' h k q g=>(cE e (Le.refl _) g (f.mono k q))
  unfold EP;dsimp only;induction S.H[a]? with
  |none=>exact l
  |some o=>induction o with
   |«dats» ds=>refine OK.bnd λd r s t=>i _ _ _ λm e ρ' h k q g=>?_;exact ca (qc (c:=c) 9 e ρ' (.ref j) S d r s t (af.mp m).1 e ρ' h (Le.refl _) (U6 _) g) λu y z A=>(cE u y z (.dat (A _ (f.mono k q))))
   |_=>exact l
 |_=>exact Gh.ret λb b k q=>f.mono k q
theorem yt {x:U4} {r:O×Nat} (c:VR fz U v x) (e:L6 v o=UX r):o.live=UZ/\r.1.live=UZ/\∀{ad ob},OR P fz U o ad ob->∃vs n,ob=bT vs n/\vs.length=r.2/\∀m,OR P fz U r.1 ad (bT (vs++[x]) m):=by
 induction o with
 |«list» l=>obtain rfl:=U2 e;exact⟨rfl,rfl,λb=>aG b λvs n e a=>(cY vs n e a.length (λm=>(bL _ m rfl (a.snoc c))))⟩
 |«ints» l=>induction v with
  |int m=>obtain rfl:=U2 e;exact c.e_int λt=>⟨rfl,rfl,λb=>aG b λvs n e a=>(cY vs n e (IntsAre.len a) (λm=>(bL _ m rfl (Cf a))))⟩
  |_=>exact nn e
 |«strs» l=>induction v with
  |str m=>obtain rfl:=U2 e;exact c.e_str λt=>⟨rfl,rfl,λb=>aG b λvs n e a=>(cY vs n e (dk.len a) (λm=>(bL _ m rfl (Cg a))))⟩
  |_=>exact nn e
 |«dats» l=>induction v with
  |dat d=>obtain rfl:=U2 e;exact⟨rfl,rfl,λb=>aG b λvs n e a=>(cY vs n e (cb.len a) (λm=>(bL _ m rfl (Ch c.i_dat a))))⟩
  |_=>exact nn e
 |_=>exact nn e
theorem JN (g:av fz U vs xs):ae c A fz U (L7 c.w.params vs) (call (.builtin "list.append") xs []) au:=by refine(ae.call2 (t:=λxs=>call (.builtin "list.append") xs []) g ?_:);intro w v y x j b;refine(ae.asR (t:=λy=>call (.builtin "list.append") [y,x] []) j ?_:);intro i ad l;exact ae.ghost (JM b) λH I J L m d=>ae.run λS K p=>OK.getO λo r u e=>b9 (yt (P:=c.w.params) d e) λz B a=>OK.upd (f:=λvs=>vs++[x]) (ai m l) p r.2 u z B (λC ρ' M k q D=>(yt (d.mono k q) e).2.2 D) (λa a=> .none) λs Q vs n E F G h=>JL E (ac F G) h
end
section
theorem tJ:∀{xs:List U4},Ww xs ns->Ww xs.dropLast ns.dropLast:=by
 induction ns with
 |nil=>exact λh=>(IA.i0 h).symm▸ .nil
 |cons n r c=>
  intro xs h;refine aG (IA.ic h) λt u e b=>(ac e ?_)
  cases r with
  |nil=>exact(IA.i0 b).symm▸ .nil
  |cons m s=>refine aG (IA.ic b) λv w e a=>?_;subst e;exact .cons n t (c b)
theorem qx (xs:List U4):xs.eraseIdx (xs.length - 1)=xs.dropLast:=List.eraseIdx_length_sub_one
theorem EQ {l:List Int} (e:HT o=UX l):o= .ints l:=by
 induction o with
 |«ints»=>exact congrArg O.ints (U2 e)
 |_=>exact nn e
theorem JO (z:av fz U vs xs):ae c A fz U (L8 vs) (call (.builtin "list.pop") xs []) au:=by refine(ae.call1 (t:=λxs=>call (.builtin "list.pop") xs []) z ?_:);intro v x B;refine(ae.asR (t:=λx=>call (.builtin "list.pop") [x] []) B ?_:);refine λi ad r=>ae.run λS K C=>OK.getO λo l u D=>C _ _ _ λa E ρ' s Q k q b y=>?_;have e:=EQ D;subst e;refine aj (b.hr.at u rfl (ai q r)) λw g G=>aG G λvs n e h=>?_;subst e;have a:=a.1;have j:=IntsAre.len h;refine bI (vk h (gK (d:=0) (Yz a.1 YE))) λt H=>?_;refine YO PySem.F.slot_list_pop (T:="list") (aA _ g rfl) ach (PySem.F.args_list_pop_1 _) (MeetsSeq.list_pop_last ad vs.toArray n _ (by refine ac VJ (ac (Wj) (ac j ?_));exact H) (j.symm▸a.2:vs.length<=_)) ⟨g,?_⟩;refine bI (kD (f:=λxs=>xs.eraseIdxIfInBounds (vs.toArray.size - 1)) (vs':=vs.dropLast) g ?_) λm I=>y.at (b.tz (b.hr.upd u rfl (ai q r) (VT ..) I (bL _ m rfl (tJ h)))) (.int _ _);have p:vs.length - 1 < vs.length:=Yz (ac j a.1) YE;simp only[Yr,VJ,acQ,p,dif_pos,qx]
noncomputable def L9 (m:Int):U4->Bool
 | .int a _=>a==m
 |_=>U0
theorem zU (m:Int) :∀{xs:List U4},Ww xs ns->((xs.countP (L9 m):Nat):Int)=bB ns m:=by
 induction ns with
 |nil=>exact λh=>(IA.i0 h).symm▸rfl
 |cons n r a=>
  intro xs h;refine aG (IA.ic h) λt u e b=>(ac e ?_)
  refine(congrArg adi (List.countP_cons ..)).trans (?_:_=match decide (n=m) with|true=>1+bB r m|false=>bB r m);refine aD (a b) ?_;rw[fh];refine(?_:((_+if(n==m)=UZ then 1 else 0:Nat):Int)=_);cases n==m with
  |true=>exact abl ((u.countP (L9 m):Nat):Int) 1
  |false=>rfl
theorem ES:∀{xs:List U4},Ww xs ns->∀y∈xs,∃a t,y= .int a t:=by
 induction ns with
 |nil=>intro xs h y c;rw[IA.i0 h] at c;exact nomatch c
 |cons n r d=>
  intro xs h y c;refine aG (IA.ic h) λt u η b=>?_;subst η;rcases List.mem_cons.mp c with rfl|c
  ·exact(sU n t rfl)
  ·exact d b y c
theorem Ci (g:av fz U vs xs):ae c A fz U (Cc vs) (call (.builtin "list.count") xs []) au:=by
 refine(ae.call2 (t:=λxs=>call (.builtin "list.count") xs []) g ?_:);intro v w x z h i;refine(ae.asI (t:=λz=>call (.builtin "list.count") [x,z] []) i ?_:);intro m u;refine(ae.lookI (t:=λx=>call (.builtin "list.count") [x, .int m u] []) h ?_:);refine λl ad S K j=>j _ _ _ λr o ρ' s Q k q b y xs n d f=>?_;refine YO PySem.F.slot_list_count (T:="list") (aA _ d rfl) PySem.F.entry_list_count (PySem.F.args_list_count_2 _ _) (MeetsSeq.list_count ad xs.toArray n (.int m u) (L9 m) λy p=>?_) ⟨d,?_⟩
 ·exact p9 (ES f y (List.mem_toArray.mp p)) λa t e=>e▸MeetsSeq.EqGives.int a m t u
 ·exact y.at (b.ta b.hr) (aD (zU m f) (.int _ _))
theorem Cj:∀{ss:List Vd} {xs:List U4},mF vs=UX ss->av g U vs xs->dk ss xs:=by
 induction vs with
 |nil=>intro ss xs h b;obtain rfl:=U2 h;refine(b.i0).symm▸ ?_;exact .nil
 |cons v r d=>
  intro ss xs h q;refine q.ec λx u a b=>?_;induction v with
  |str s=>
   refine a.e_str λt=>?_;dsimp only[mF] at h;induction c:mF r with
   |none=>rw[c] at h;exact nn h
   |some l=>rw[c] at h;obtain rfl:=U2 h;exact .cons (d c b)
  |_=>exact nn h
theorem ET {vs:List D}:∀{ss:List Vd} {xs:List U4},qw vs=UX ss->cb g vs xs->dk ss xs:=by
 induction vs with
 |nil=>intro ss xs h b;obtain rfl:=U2 h;refine(b.i0).symm▸ ?_;exact .nil
 |cons v r e=>
  intro ss xs h q;refine q.ec λx u a b=>?_;induction v using Mine.Internal.D.casesOn with
  |str s=>
   refine bI a.i_str λt c=>(c.symm▸ ?_)
   dsimp only[qw] at h;cases d:qw r with
   |none=>rw[d] at h;exact nn h
   |some l=>rw[d] at h;obtain rfl:=U2 h;exact .cons (e d b)
  |_=>exact nn h
theorem cq.strs {sv:SV} (e:sv.strs=UX ss) (h:cq g U sv xs):dk ss xs:=by
 induction sv with
 |ss l=>obtain rfl:=U2 e;exact h
 |vs l=>exact Cj e h
 |ds l=>exact ET e h
 |_=>exact nn e
theorem s9:∀{ss:List Vd} {xs:List U4},dk ss xs->∃l:List (Vd×ZP),strValues l=xs/\l.map (·.1)=ss
 |_,_, .nil=>⟨[],rfl,rfl⟩
 |_,_, .cons (s:=s) (t:=t) b=>by exact aj (s9 b) λl a c=>(aA ((s,t)::l) ((a)▸rfl) ((c)▸rfl))
theorem EU (f:av fz U vs xs):ae c A fz U (HU vs) (call (.builtin "str.join") xs []) au:=by
 refine(ae.call2 (t:=λxs=>call (.builtin "str.join") xs []) f ?_:);intro v w x z g h;refine(ae.asS (t:=λx=>call (.builtin "str.join") [x,z] []) g ?_:);intro x t;refine(ae.look (t:=λz=>call (.builtin "str.join") [.str x t,z] []) h ?_:);intro r ad S K i;obtain⟨b,sv⟩:=r;induction b with
 |false=>exact Vf
 |true=>
  dsimp only;induction j:sv.strs with
  |none=>exact Vf
  |some ss=>exact i _ _ _ λm o ρ' s Q k q a y xs n p u=>aj (s9 (u.strs j)) λl d e=>iw a.tk (SC.join (D:=ad) (l:=l) (texts:=ss) ⟨_,p,rfl,n,d.symm▸rfl⟩ e m.1 λC E B=>y.at (a.to a.hr (.inr ‹_›)) (.str _ _))
theorem Ck (b:av fz U vs xs):ae c A fz U (Cd vs) (call (.builtin "str.strip") xs []) au:=by refine(ae.call1 (t:=λxs=>call (.builtin "str.strip") xs []) b ?_:);intro v x d;refine(ae.asS (t:=λx=>call (.builtin "str.strip") [x] []) d ?_:);exact λa a=>ae.lift rfl λs Q h y=>call_gives F.slot_str_strip (XD _ _ _) F.entry_str_strip (F.args_str_strip_1 _) (gives_str_strip _ _) (post_val_or_made (λa=>fits_stripped _ _ _ h.1) λe k=>y _ _ λa a a a=> .str _ _)
theorem Cm (b:av fz U vs xs):ae c A fz U (Ce vs) (call (.builtin "str.isspace") xs []) au:=by refine(ae.call1 (t:=λxs=>call (.builtin "str.isspace") xs []) b ?_:);intro v x d;refine(ae.asS (t:=λx=>call (.builtin "str.isspace") [x] []) d ?_:);exact λa a=>ae.lift rfl λs Q h y=>call_gives F.slot_str_isspace (XD _ _ _) F.entry_str_isspace (F.args_str_isspace_1 _) (gives_str_isspace _ _) (y _ s.toks λa a a a=> .bool _)
theorem zV (b:av fz U vs xs):ae c A fz U (yr vs) (call (.builtin "str.rstrip") xs []) au:=by refine(ae.call1 (t:=λxs=>call (.builtin "str.rstrip") xs []) b ?_:);intro v x d;refine(ae.asS (t:=λx=>call (.builtin "str.rstrip") [x] []) d ?_:);exact λa a=>ae.lift rfl λs Q h y=>call_gives F.slot_str_rstrip (XD _ _ _) F.entry_str_rstrip (F.args_str_rstrip_1 _) (gives_str_rstrip _ _) (post_val_or_made (λa=>fits_stripped _ _ _ h.1) λe k=>y _ _ λa a a a=> .str _ _)
theorem EV (b:av fz U vs xs):ae c A fz U (HV vs) (call (.builtin "int.bit_length") xs []) au:=by refine(ae.call1 (t:=λxs=>call (.builtin "int.bit_length") xs []) b ?_:);intro v x d;refine(ae.asI (t:=λx=>call (.builtin "int.bit_length") [x] []) d ?_:);exact λa a=>ae.lift rfl λs Q h y=>call_int_bit_length (y _ _ λa a a a=> .int _ _)
end
noncomputable def EW:V->Option (Option Int)
 | .none=>UX UY
 | .int i=>UX (UX i)
 |_=>UY
noncomputable def jm:List Int->List Int
 |[]=>[]
 |[a]=>[a]
 |_::r=>jm r
noncomputable def zW:Int->Bool
 | .negSucc 0=>UZ
 |_=>U0
def Ma (v:V) (lo hi:Option Int):M V:=match lo,hi with
 |some k,UY=>bX (zW k) (lookI v λns=>ej (.ints (jm ns)) [ns.length<=Vb])
 |_,_=>fail
def Mb (v l h:V):M V:=cU (EW l) λlo=>cU (EW h) λhi=>match v with
 | .str x=>dW (.str (Wt x lo hi)) (x.length<=Vb)
 |v=>Ma v lo hi
def Mc (op:UnaryOp) (v:V):M V:=match op with
 | .USub=>asI v λa=>ret (.int (-a))
 |_=>fail
section
theorem yu {x:U4} {o:Option Int} (e:EW v=UX o) (h:VR g U v x):∃p:Option (Int×ZP),adv p=x/\p.map (·.1)=o:=by
 induction v with
 |none=>exact⟨UY,h.i_none.symm,U2 e⟩
 |int i=>exact bI h.i_int λt q=>⟨UX (i,t),q.symm,U2 e⟩
 |_=>exact nn e
theorem yw {p:Option (Int×ZP)}:aci (adv p) (p.map (·.1)):=by
 induction p with
 |none=>exact .none
 |some q=>exact .int _ _
theorem EY (ns:List Int):jm ns=ns.drop (ns.length - 1):=by
 induction ns with
 |nil=>rfl
 |cons n r a=>cases r with
  |nil=>rfl
  |cons=>exact a
theorem oM {o i:U4} {T id:String} {ops:List U4} (e:s.TypeIs o T)
  (hl:Ys (.type T) "__getitem__"=pure (UX (.builtin id))) (h:Vh (Vi J w) A (Yw o i) Q E s)
  (hs:aa8 slice U0 o i=aaJ ops (Yw o i)):Vh (Vi J w) A (WP value slice o i) Q E s:=by
 dsimp only[WP]
 refine U1 (ac (getitemInPython_of_ne e.not_modules) ?_)
 refine U1 (Xc e hl ?_)
 have c:Vh (Vi J w) A (aa8 slice U0 o i) (λr b=>Vh (Vi J w) A (Y1 value o r >>= λa=>pure r) Q E b) E s:=by exact ac hs (wpAny_operating (VH h (λr b d=>U1 (ZA (U5 d))) λa a x=>x))
 first
  |exact U5 (U1 c)
  |exact U1 (U5 (U1 c))
  |exact U1 c
theorem JP {k:Int} (h:zW k=UZ):k= -1:=by
 induction k with
 |ofNat=>exact ff h
 |negSucc n=>cases n with
  |zero=>rfl
  |succ=>exact ff h
noncomputable abbrev rL (value:Vv) (lo hi:Option Vv) (p pos:XQ) (x y z:U4):Xj U4:=abd "slice" [y,z, .none] >>= λi=>WM pos >>= λa=>WP value (.Slice lo hi UY p) x i
theorem JQ {p:XQ} {a:V} {x:U4} {f g:Option Int} (py:aci y f) (m:aci z g) (q:VR fz U a x):ae c A fz U (Ma a f g) (rL value lo hi p pos x y z) au:=by
 induction f with
 |none=>exact ae.fail
 |some h=>
  induction g with
  |some=>exact ae.fail
  |none=>
   refine(?_:ae c A fz U (bX (zW h) (lookI a λns=>ej (.ints (jm ns)) [ns.length<=Vb])) _ au);induction r:zW h with
   |false=>exact ae.fail
   |true=>rw[JP r] at py;refine ae.lookI (t:=(rL value lo hi p pos · y z)) q λns ad S K u=>u _ _ _ λv w ρ' s Q k C i B j n g1 l=>?_;have d:Le s.heap (s.heap.push {cls:= .type "slice",data:= .fields [y,z, .none].toArray}):=λb o e=>Vy _ e;refine U1 (V7 (hd:=by size_fits) (U1 (VM (oM (ops:=[.ref s.heap.objs.size, .ref ad]) (T:="list") ⟨_,d _ _ g1,rfl⟩ F.slot_list_getitem.lookup (wpAny_getItem_list_slice ⟨_,d _ _ g1,rfl,n,rfl⟩ (Z5 ..) py m .none (by simp) ?_ ((IntsAre.len l).symm▸v.1:j.length<=_)) (by rfl)))));exact dc.new (ob:=bT (slicePick j.toArray (UX (-1)) UY UY).toList 0) B (i.tz (i.hr.le d)) rfl (bL _ 0 rfl ((EY ns).symm▸PySem.W.kmk_from_neg l (by decide))) rfl (Vt _)
theorem JR {p:XQ} {t:Vd} {tk:ZP} {pl a:Option (Int×ZP)}:ae c A fz U (dW (.str (Wt t (pl.map (·.1)) (a.map (·.1)))) (t.length<=Vb)) (rL value lo hi p pos (.str t tk) (adv pl) (adv a)) au:=
 ae.run λS K f=>f _ _ _ λg h ρ' s Q k m d i=>iw d.tk (U1 (V7 (hd:=by size_fits) (U1 (VM (subscriptTail_ops (ops:=[.ref s.heap.objs.size, .str t tk]) (XD _ _ _) F.slot_str_getitem.lookup (wpAny_getItem_str_slice (l:=pl) (u:=a) (st:=UY) (cE _ (VX _ rfl) rfl rfl) rfl (post_val_or_str ⟨U3 (Txt.slice_le t _ _) g.1,λn q j=>i.at (d.to (d.hr.le λb o e=>Vy _ e) (.inr ‹_›)) (.str _ _)⟩)) (by rfl) (λr=>by cases value<;>rfl))))))
theorem JS {p:XQ} {a l h:V} {x:U4} (b:VR fz U a x) (hl:VR fz U l y) (d:VR fz U h z):ae c A fz U (Mb a l h) (rL value lo hi p pos x y z) au:=by
 refine ae.opt λm e=>ae.opt λn f=>?_;refine aj (yu e hl) λo g i=>?_;refine aj (yu f d) λq j k=>(aD g (aD i (aD j (aD k ?_))))
 induction a with
 |str t=>exact b.e_str λr=>JR
 |_=>exact JQ yw yw b
theorem rM {op:UnaryOp} {x:U4} (b:VR fz U v x):ae c A fz U (Mc op v) (unaryOp op x) au:=by
 induction op with
 |USub=>refine(ae.asI (t:=unaryOp .USub) b ?_:);exact λi t=>ae.lift rfl λs Q h y=>P.neg_int (y _ _ λa a a a=> .int _ _)
 |_=>exact ae.fail
end
def SV.ints:SV->Option (List Int)
 | .ns l=>UX l
 | .vs l=>lg l
 | .ds l=>jy l
 |_=>UY
def SV.cat (a b:SV):Option SV:=(zR a.ints b.ints λx y=>UX (.ns (x++y))).or ((zR a.strs b.strs λx y=>UX (.ss (x++y))).or (match a,b with
 | .vs x, .vs y=>UX (.vs (x++y))
 | .ds x, .ds y=>UX (.ds (x++y))
 |_,_=>UY))
noncomputable def jF (k:Int):List Int->Bool
 |[]=>U0
 |a::r=>decide (a=k)||jF k r
def EZ (a b:V):M V:=bnd (look a) λr=>bnd (look b) λc=>bX r.1 (bX c.1 (cU (r.2.cat c.2) λsv=>ej sv.toO [r.2.len+c.2.len<=Vb]))
section
theorem cq.ints {sv:SV} {ss:List Int} (e:sv.ints=UX ss) (h:cq g U sv xs):Ww xs ss:=by
 induction sv with
 |ns l=>obtain rfl:=U2 e;exact h
 |vs l=>exact uZ e h
 |ds l=>exact oI e h
 |_=>exact nn e
theorem vt {x:List Int}:∀{a b:List U4} {y:List Int},Ww a x->Ww b y->Ww (a++b) (x++y):=by
 induction x with
 |nil=>exact λh k=>(IA.i0 h).symm▸k
 |cons n r c=>exact λh k=>aG (IA.ic h) λt u e q=>e.symm▸ .cons n t (c q k)
theorem vx {x:List Vd}:∀{a b:List U4} {y:List Vd},dk x a->dk y b->dk (x++y) (a++b):=by
 induction x with
 |nil=>exact λh k=>h.i0.symm▸k
 |cons n r c=>exact λh k=>aG h.ic λt u e q=>e.symm▸ .cons (c q k)
theorem av.app {a b:List U4} {x y:List V} (h:av g U x a) (k:av g U y b):av g U (x++y) (a++b):=nF h k
theorem cq.cat {a b sv:SV} (e:a.cat b=UX sv) (h1:cq g U a xs) (h2:cq g U b ys):cq g U sv (xs++ys):=by
 refine(rJ e).elim (λe=>?_) λe=>?_
 ·exact cy (mE e) λx y e1 e2 e3=>U2 e3▸vt (h1.ints e1) (h2.ints e2)
 refine(rJ e).elim (λe=>?_) λe=>?_
 ·exact cy (mE e) λx y e1 e2 e3=>U2 e3▸vx (h1.strs e1) (h2.strs e2)
 induction a with
 |vs x=>induction b with
  |vs y=>exact aD (U2 e) (av.app h1 h2)
  |_=>exact nn e
 |ds x=>induction b with
  |ds y=>exact aD (U2 e) (cb.app h1 h2)
  |_=>exact nn e
 |_=>exact nn e
theorem E0 {a b:V} {x:U4} (j:VR fz U a x) (l:VR fz U b y):ae c A fz U (EZ a b) (XA .Add x y) au:=by refine ae.look2 (k:=λr d=>bX r.1 (bX d.1 (cU (r.2.cat d.2) λsv=>ej sv.toO [r.2.len+d.2.len<=Vb]))) (XA .Add) j l ?_;intro r d ad C S K o;refine OK.when λp=>OK.when λt=>OK.opt λsv u=>o _ _ _ λv w ρ' s Q k q z B e n f m g1 g h i=>?_;rw[p] at g1;rw[t] at h;refine P.add_list (items:=e.toArray) (items2:=f.toArray) (n:=n) (n2:=m) g1 h ?_ (ac VJ (ac VJ (ac g.len (ac i.len v.1))));exact ac (show e.toArray++f.toArray=(e++f).toArray from List.append_toArray ..) (dc.new (ob:=bT (e++f) 0) B z rfl (cq.toO (n:=0) ((cq.cat u g i).mono (Le.refl _) (Vp _ _))) (SV.toO_live _) (Vt _))
end
noncomputable def yx (f:α->α->Bool):List α->List α->Bool
 |[],[]=>UZ
 |a::x,b::y=>f a b&&yx f x y
 |_,_=>U0
def eO (x y:List Int):Bool:=yx (λa b=>decide (a=b)) x y
def Uu (x y:List Vd):Bool:=yx sq x y
theorem JT {f:α->α->Bool} (hf:∀{a b},f a b=UZ↔a=b) {x:List α}:∀{y:List α},yx f x y=UZ↔x=y:=by
 induction x with
 |nil=>intro y;cases y with
  |nil=>exact⟨λc=>rfl,λc=>rfl⟩
  |cons=>exact⟨λh=>ff h,λh=>nomatch h⟩
 |cons a x d=>intro y;cases y with
  |nil=>exact⟨λh=>ff h,λh=>nomatch h⟩
  |cons b y=>exact(ac3 (x:=f a b) (y:=yx f x y)).trans ((and_congr hf d).trans List.cons_eq_cons.symm)
theorem JU {x y:List Int}:eO x y=UZ↔x=y:=JT decide_eq_true_iff
noncomputable def eP:Bool->List acR->acR
 |true,l=> .list l
 |false,l=> .tuple l
def E1 (f:SV->Option (List α)) (c:List α->List α->Bool) (g:α->acR) (t:Bool) (a b:SV):Option (Bool×Prop):=zR (f a) (f b) λx y=>UX (c x y,VS (eP t (x.map g))=UZ/\VS (eP t (y.map g))=UZ)
def Md (t:Bool) (a b:SV):Option (Bool×Prop):=(E1 SV.ints eO .int t a b).or (E1 SV.strs Uu .str t a b)
def Me (op:YX) (e:Bool) (p:Prop):M V:=match op with
 | .Eq=>dW (.bool e) p
 | .NotEq=>dW (.bool (!e)) p
 |_=>fail
def E2 (op:YX) (a b:V):M V:=bnd (look a) λr=>bnd (look b) λc=>bX (r.1==c.1) (cU (Md r.1 r.2 c.2) λe=>Me op e.1 e.2)
section
theorem zX {f:α->α->Bool} {g:α->acR} (c:∀a b,Yu (g a) (g b)=f a b) (x:List α):∀y:List α,XJ (x.map g) (y.map g)=yx f x y:=by
 induction x with
 |nil=>intro y;cases y<;>(simp only[YL,XJ]<;>rfl)
 |cons a x d=>intro y;cases y with
  |nil=>simp only[YL,XJ]<;>rfl
  |cons b y=>simp only[YL,XJ,c,d]<;>rfl
theorem qy:∀{xs:List U4},Ww xs ns->ReadsAll h xs (ns.map .int) []:=by
 induction ns with
 |nil=>exact λk=>(IA.i0 k).symm▸ .nil
 |cons n r a=>exact λk=>aG (IA.ic k) λt u e b=>e.symm▸ .cons (as:=[]) (bs:=[]) (.int n t) (a b)
theorem zY {ns:List Vd}:∀{xs:List U4},dk ns xs->ReadsAll h xs (ns.map .str) []:=by
 induction ns with
 |nil=>exact λk=>k.i0.symm▸ .nil
 |cons n r a=>exact λk=>aG k.ic λt u e b=>e.symm▸ .cons (as:=[]) (bs:=[]) (.str n t) (a b)
theorem vy {t:Bool} {vs:List U4} {n:Nat} {ds:List acR} (h1:h.get? a=UX (eT t vs n)) (h2:ReadsAll h vs ds []):∃as,Reads h (.ref a) (eP t ds) as:=by
 induction t with
 |false=>exact⟨_, .tuple h1 rfl rfl h2⟩
 |true=>exact⟨_, .list h1 rfl rfl h2⟩
theorem Mf (t:Bool) (x y:List acR):Yu (eP t x) (eP t y)=XJ x y:=by cases t<;>(dsimp only[eP];rw[Yu])
structure Q4 (h:Ve) (ad bd:U8) (e:Bool):Prop where
 ok:∃d d' as bs,Reads h (.ref ad) d as/\Reads h (.ref bd) d' bs/\VS d=UZ/\VS d'=UZ/\Yu d d'=e
theorem yz {f:SV->Option (List α)} {i:List α->List α->Bool} {g:α->acR} {t:Bool} {a b:SV} {e:Bool×Prop} {j:U8} {n m:Nat} (hf:∀{sv l xs},f sv=UX l->cq fz U sv xs->ReadsAll h xs (l.map g) []) (p:∀x y,XJ (x.map g) (y.map g)=i x y) (k:E1 f i g t a b=UX e) (o:e.2)
  (h1:h.get? ad=UX (eT t xs n)) (h2:h.get? j=UX (eT t ys m)) (g1:cq fz U a xs) (q:cq fz U b ys):Q4 h ad j e.1:=
 cy (mE k) λx y r s d=>by have d:=U2 d;subst d;exact bI (vy h1 (hf r g1)) λc u=>bI (vy h2 (hf s q)) λc v=>⟨_,_,_,_,u,v,o.1,o.2,(Mf ..).trans (p x y)⟩
theorem Cn {t:Bool} {a b:SV} {e:Bool×Prop} {d:U8} {n m:Nat} (k:Md t a b=UX e) (f:e.2)
  (h1:h.get? ad=UX (eT t xs n)) (h2:h.get? d=UX (eT t ys m)) (g1:cq fz U a xs) (g:cq fz U b ys):Q4 h ad d e.1:=
 (rJ k).elim (λk=>yz (λe k=>qy (k.ints e)) (zX λc c=>by rw[Yu,fh]) k f h1 h2 g1 g) λk=>yz (λe k=>zY (k.strs e)) (zX λc c=>by rw[Yu,vj]) k f h1 h2 g1 g
theorem E3 (D:A.units+64 < cLine) {a b:V} {x:U4} (G:VR fz U a x) (H:VR fz U b y):ae c A fz U (E2 op a b) (W2 op x y) au:=by
 refine ae.look2 (k:=λr f=>bX (r.1==f.1) (cU (Md r.1 r.2 f.2) λe=>Me op e.1 e.2)) (W2 op) G H ?_;intro r f ad O S K E;refine OK.when λt=>OK.opt λe F=>?_;have t:=eq_of_beq t;induction op with
 |Eq=>exact E _ _ _ λg h ρ' s Q k q i j I n J m g1 l o p=>(Cn F g.1 g1 (ac t o) l p).ok.elim λd u=>BG u λL M N v w z B C=>eq_dataH v w z B D (ac C (j.at i (.bool _)))
 |NotEq=>exact E _ _ _ λg h ρ' s Q k q i j I n J m g1 l o p=>(Cn F g.1 g1 (ac t o) l p).ok.elim λd u=>BG u λL M N v w z B C=>ne_dataH v w z B D (ac C (j.at i (.bool _)))
 |_=>exact Vf
end
noncomputable def rep :Nat->List α->List α
 |0,_=>[]
 |n+1,l=>l++rep n l
def SV.rep (sv:SV) (n:Nat):SV:=match sv.ints with
 |some l=> .ns (Mine.Internal.rep n l)
 |none=>match sv with
  | .vs l=> .vs (Mine.Internal.rep n l)
  | .ss l=> .ss (Mine.Internal.rep n l)
  | .ds l=> .ds (Mine.Internal.rep n l)
  | .ns l=> .ns (Mine.Internal.rep n l)
def vz (v:V) (k:Int):M V:=bnd (look v) λr=>bX r.1 (ej (r.2.rep k.toNat).toO [-(2^63:Int)<=k/\k < 2^63/\r.2.len*k.toNat<=2^24])
section
theorem vA (xs:List U4):∀(n:Nat) (acc:Array U4),List.foldl (λa b=>a++b) acc (Wa n xs.toArray)=acc++(rep n xs).toArray
 |0,acc=>by simp[rep]
 |n+1,acc=>by refine ac adj ?_;rw[Zl,vA xs n];refine ac (show rep (n+1) xs=xs++rep n xs from rfl) ?_;simp
theorem yA:∀n:Nat,rep n ([]:List α)=[]
 |0=>rfl
 |n+1=>ac (show rep (n+1) ([]:List α)=[]++rep n [] from rfl) (ac (yA n) rfl)
theorem JV (xs:List U4) (n:Nat):List.foldl (λb c=>b++c) #[] (Wa (if xs.toArray.isEmpty=UZ then 0 else n) xs.toArray)=(rep n xs).toArray:=by
 rw[vA];induction xs using VG with
 |nil=>simp only[yA];simp[rep]
 |cons a r=>simp
theorem JW {l:U8} {x:Int} (hl:s.heap.get? l=UX (bT xs k)) (d: -(2^63:Int)<=x) (e:x < 2^63) (hsz:xs.length*x.toNat<=2^24)
  (h:Q (.ref s.heap.objs.size) {s with heap:=s.heap.push (bT (rep x.toNat xs) 0)}):
  Vh (Vi c.prog c.w) A (XA .Mult (.ref l) (.int x u)) Q E s/\Vh (Vi c.prog c.w) A (XA .Mult (.int x u) (.ref l)) Q E s:=by
 have a:xs.toArray.size*x.toNat<=2^24:=ac VJ hsz
 have b:∀{g:U4->U9->Prop},Vh (Vi c.prog c.w) A (call (.builtin "list.__mul__") [.ref l, .int x u]) Q g s:=λ{g}=>
  YO F.slot_list_mul (aA _ hl rfl) F.entry_list_mul (F.args_list_mul_2 _ _)
   (AutoListH.list___mul___list_int_3 l xs.toArray k x u (by simp[YV];exact⟨d,e⟩) (by lia) (by simp[Zm,Vb];rw[VJ] at a;exact a))
   ⟨hl,by rw[JV];exact h⟩
 constructor
 ·exact wpAny_binaryOp_repeat_ref (T:="list") (U:="int") (by decide) (aA _ hl rfl) (λf=>ZY f x u) noFill_list_mul F.fills_int_mul F.slot_int_rmul repeat_list F.slot_int_index.lookup
   (YO F.slot_int_rmul (ZY s x u) F.entry_int_rmul (F.args_int_rmul_2 _ _) (int___rmul___int_list x u l xs.toArray k) ⟨hl,rfl,(aA _ hl rfl),b⟩)
 ·exact lm_binaryOp_repeat_right (T:="list") (U:="int") (by decide) (λf=>ZY f x u) (aA _ hl rfl) F.fills_int_mul noFill_list_mul F.slot_int_mul lm_noRepeat_int repeat_list F.slot_int_index.lookup
   (YO F.slot_int_mul (ZY s x u) F.entry_int_mul (F.args_int_mul_2 _ _) (int___mul___int_list x u l xs.toArray k) ⟨hl,rfl,(aA _ hl rfl),b⟩)
theorem pd (h:Ww xs ns):∀n,Ww (rep n xs) (rep n ns)
 |0=> .nil
 |n+1=>vt h (pd h n)
theorem cq.rep {sv:SV} (h:cq g U sv xs) (n:Nat):cq g U (sv.rep n) (Mine.Internal.rep n xs):=by
 unfold SV.rep;induction b:sv.ints with
 |some l=>exact pd (h.ints b) n
 |none=>
  induction sv with
  |vs l=>
   induction n with
   |zero=>exact av.nil
   |succ n a=>exact av.app h a
  |ds l=>
   induction n with
   |zero=>exact DX.nil
   |succ n a=>exact cb.app h a
  |ss l=>
   induction n with
   |zero=>exact dk.nil
   |succ n a=>exact vx h a
  |ns l=>exact pd h n
theorem vB {x:U4} {k:Int} (t:U4->Xj U4) (e:∀{s:U9} {Q:U4->U9->Prop} {l:U8},Vh (Vi c.prog c.w) A (XA .Mult (.ref l) (.int k u)) Q bE s/\Vh (Vi c.prog c.w) A (XA .Mult (.int k u) (.ref l)) Q bE s->Vh (Vi c.prog c.w) A (t (.ref l)) Q bE s) (f:VR fz U v x):ae c A fz U (vz v k) (t x) au:=
 ae.look f λr ad S K g=>OK.when λh=>g _ _ _ λa i ρ' s Q m q j y o n b d=>e (JW (by rw[h] at b;exact b) a.1.1 a.1.2.1 (ac d.len a.1.2.2) (y.new j rfl (cq.toO (n:=0) ((d.rep _).mono (Le.refl _) (Vp _ _))) (SV.toO_live _) (Vt _)))
end
noncomputable def qz:WX->Bool
 | .Mult=>UZ
 |_=>U0
noncomputable def HW:WX->Bool
 | .Add=>UZ
 |_=>U0
def Mg (op:WX) (a b:V):M V:=match a,b with
 | .int i, .int j=>LM op i j
 | .str x, .str y=>zS op x y
 | .str x, .int n=>match qz op with
  |true=>dW (.str (Yl x n)) (MulOk x n)
  |false=>fail
 | .int k,v=>match qz op with
  |true=>vz v k
  |false=>fail
 |v, .int k=>match qz op with
  |true=>vz v k
  |false=>fail
 |v,w=>match HW op with
  |true=>EZ v w
  |false=>fail
def Mh (op:WX) (a b:V):M V:=match a,b with
 | .int i, .int j=>LN op i j
 | .str x, .str y=>zS op x y
 |_,_=>fail
noncomputable def vC:V->Option Bool
 | .none=>UX UZ
 | .bool _=>UX U0
 | .int _=>UX U0
 | .str _=>UX U0
 | .ref _=>UX U0
 | .dat (.ints _)=>UX U0
 | .dat (.tup _)=>UX U0
 | .dat (.list _)=>UX U0
 | .dat (.dict _ _)=>UX U0
 |_=>UY
def Mi:YX->Bool->Bool->M V
 | .Eq,a,b=>ret (.bool (a==b))
 | .NotEq,a,b=>ret (.bool (a !=b))
 |_,_,_=>fail
def zZ:YX->V->M V
 | .Is,v=>match vC v with
  |some b=>ret (.bool b)
  |none=>fail
 | .IsNot,v=>match vC v with
  |some b=>ret (.bool (!b))
  |none=>fail
 |_,_=>fail
def HX:YX->Int->V->M V
 | .In,k,v=>bnd (look v) λr=>bX r.1 (cU r.2.ints λl=>ret (.bool (jF k l)))
 | .NotIn,k,v=>bnd (look v) λr=>bX r.1 (cU r.2.ints λl=>ret (.bool (!jF k l)))
 |_,_,_=>fail
def Mj (op:YX) (a b:V):M V:=match a,b with
 | .int i, .int j=>LO op i j
 | .str x, .str y=>LP op x y
 | .bool x, .bool y=>Mi op x y
 |v, .none=>zZ op v
 | .int k,v=>HX op k v
 |v,w=>E2 op v w
section
theorem yB {op:WX} {a b:V} {x:U4} (d:VR fz U a x) (e:VR fz U b y):ae c A fz U (match HW op with|true=>EZ a b|false=>fail) (XA op x y) au:=by cases op<;>first|exact ae.fail|exact E0 d e
theorem E4 {op:WX} {a:V} {k:Int} {x:U4} (b:VR fz U a x) (d:VR fz U (.int k) y):ae c A fz U (match qz op with|true=>vz a k|false=>fail) (XA op x y) au:=by refine d.e_int λt=>?_;cases op<;>first|exact ae.fail|exact vB (XA .Mult · _) (·.1) b
theorem E5 {op:WX} {b:V} {k:Int} {x:U4} (a:VR fz U (.int k) x) (d:VR fz U b y):ae c A fz U (match qz op with|true=>vz b k|false=>fail) (XA op x y) au:=by refine a.e_int λt=>?_;cases op<;>first|exact ae.fail|exact vB (XA .Mult _ ·) (·.2) d
theorem JX {op:WX} {a b:V} {x:U4} (e:VR fz U a x) (f:VR fz U b y):ae c A fz U (Mg op a b) (XA op x y) au:=by
 induction a with
 |int i=>induction b with
  |int j=>refine e.e_int λt=>?_;refine f.e_int λu=>?_;exact ED _ _ _ _ _
  |_=>exact E5 e f
 |str s=>induction b with
  |str g=>refine e.e_str λt=>?_;refine f.e_str λu=>?_;exact EF _ _ _ _ _
  |int k=>
   refine e.e_str λt=>(f.e_int λu=>?_)
   cases op<;>first|exact ae.fail|exact ae.lift rfl λs Q h y=>SB.mul h.1 λl k=>y _ _ λd d d d=> .str _ _
  |_=>exact yB e f
 |_=>induction b with
  |int k=>exact E4 e f
  |_=>exact yB e f
theorem JY {op:WX} {a b:V} {x:U4} (d:VR fz U a x) (e:VR fz U b y):ae c A fz U (Mh op a b) (ace op x y) au:=by
 induction a with
 |int i=>induction b with
  |int j=>refine d.e_int λt=>?_;refine e.e_int λu=>?_;exact EE _ _ _ _ _
  |_=>exact ae.fail
 |str s=>induction b with
  |str f=>refine d.e_str λt=>?_;refine e.e_str λu=>?_;exact EG _ _ _ _ _
  |_=>exact ae.fail
 |_=>exact ae.fail
theorem yC {x:U4} (h:VR fz U v x) (e:vC v=UX b):(x==Xh)=b:=by
 have f:∀{a},x= .ref a->UX U0=UX b->(x==Xh)=b:=λh e=>h▸U2 e;induction v with
 |none=>refine ac h.i_none ?_;exact U2 e
 |bool=>refine ac h.i_bool ?_;exact U2 e
 |int=>exact h.e_int λc=>U2 e
 |str=>exact h.e_str λc=>U2 e
 |ref=>exact aj h.i_ref λa q c=>f q e
 |dat d=>induction d using Mine.Internal.D.casesOn with
  |«ints»=>exact ky h.i_dat.i_ints λc c c q=>f q.1 e
  |«tup»=>exact ky h.i_dat.i_tup λc c c q=>f q.1 e
  |«list»=>exact ky h.i_dat.i_list λc c c q=>f q.1 e
  |«dict»=>exact ky h.i_dat.i_dict λc c c q=>f q.1 e
  |_=>exact nn e
 |_=>exact nn e
theorem E6 {x:U4} (d:VR fz U v x):ae c A fz U (zZ op v) (W2 op x .none) au:=by
 induction op with
 |Is=>
  unfold zZ;dsimp only;induction h:vC v with
  |none=>exact ae.fail
  |some b=>exact ae.lift rfl λs Q a y=>is_none (y _ s.toks (gc (yC d h).symm))
 |IsNot=>
  unfold zZ;dsimp only;induction h:vC v with
  |none=>exact ae.fail
  |some b=>exact ae.lift rfl λs Q a y=>isNot_none (y _ s.toks (gc (ac (yC d h) rfl)))
 |_=>exact ae.fail
theorem yD (k:Int) (l:List Int):l.any (· ==k)=jF k l:=by
 induction l with
 |nil=>rfl
 |cons a r b=>refine ac aaY ?_;rw[b,<-fh];rfl
theorem mH {k:Int} {t:ZP} {x:U4} (i:VR fz U v x):ae c A fz U (HX op k v) (W2 op (.int k t) x) au:=by
 induction op with
 |In=>exact ae.look (t:=W2 .In (.int k t)) i λr ad S K b=>OK.when λd=>OK.opt λl e=>b _ _ _ λj f ρ' s Q m q g y o n a h=>in_list_ints ⟨_,(by rw[d] at a;exact a),rfl,n,rfl⟩ (h.ints e) (ac (yD k l) (y.at g (.bool _)))
 |NotIn=>exact ae.look (t:=W2 .NotIn (.int k t)) i λr ad S K b=>OK.when λd=>OK.opt λl e=>b _ _ _ λj f ρ' s Q m q g y o n a h=>notin_list_ints ⟨_,(by rw[d] at a;exact a),rfl,n,rfl⟩ (h.ints e) (ac (yD k l) (y.at g (.bool _)))
 |_=>exact ae.fail
theorem E7 {a:Bool}:ae c A fz U (Mi op a b) (W2 op (.bool a) (.bool b)) au:=by
 induction op with
 |Eq=>exact ae.lift rfl λs Q d y=>eq_bool (y _ s.toks (gc rfl))
 |NotEq=>exact ae.lift rfl λs Q d y=>ne_bool (y _ s.toks (gc rfl))
 |_=>exact ae.fail
theorem JZ (g:A.units+64 < cLine) {a b:V} {x:U4} (d:VR fz U a x) (e:VR fz U b y):ae c A fz U (Mj op a b) (W2 op x y) au:=by
 have f:ae c A fz U (E2 op a b) (W2 op x y) au:=E3 g d e;induction b with
 |none=>clear f;obtain rfl:=e.i_none;cases a<;>exact E6 d
 |int j=>induction a with
  |int i=>refine d.e_int λt=>?_;refine e.e_int λu=>?_;exact EH _ _ _ _ _
  |_=>exact f
 |str j=>induction a with
  |str i=>refine d.e_str λt=>?_;refine e.e_str λu=>?_;exact EI _ _ _ _ _
  |int i=>refine d.e_int λt=>?_;exact mH e
  |_=>exact f
 |bool j=>induction a with
  |bool i=>obtain rfl:=d.i_bool;obtain rfl:=e.i_bool;exact E7
  |int i=>refine d.e_int λt=>?_;exact mH e
  |_=>exact f
 |_=>induction a with
  |int i=>refine d.e_int λt=>?_;exact mH e
  |_=>exact f
end
abbrev bC:=List (Nat×(List V->M V))
noncomputable def oN (a:Nat):bC->Option (List V->M V)
 |[]=>UY
 |(b,m)::r=>match VC a b with
  |true=>UX m
  |false=>oN a r
def TB (R:α->β->Prop):List α->List β->Prop
 |[],[]=>True
 |a::x,b::y=>R a b/\TB R x y
 |_,_=>False
theorem TB.get {R:α->β->Prop} {d:α} {c:β} (hd:R d c) {x:List α}:∀{y:List β},TB R x y->∀k,R (x.getD k d) (y.getD k c):=by
 induction x with
 |nil=>intro y h k;cases y with
  |nil=>exact hd
  |cons=>exact h.elim
 |cons a x e=>intro y h k;cases y with
  |nil=>exact h.elim
  |cons b y=>cases k with
   |zero=>exact h.1
   |succ k=>exact e h.2 k
end
variable {Tb:bC}
section
def rN (C:Ec) (t:oG):M Fl:=match gy C t.scope.names with
 |some cl=>bnd (u9 (.fn t cl)) λn=>bnd (jV C t.name (.ref n)) λa=>ret .next
 |none=>fail
section
theorem HR.made (x:HR c fz U H h) {T:fB} (A:T∈c.TT) (g:∀t∈c.TT,t.P=T.P->t=T) {c':U8} {oc:Xi} (u:X3 T.P h h') (w:h.objs.size<=c') (I:h'.get? c'=UX oc)
  (n:h'.CodeRec (.ref c') T.qual) (J:h'.get? T.P=UX {cls:= .none,data:= .fields #[WO T.line,WO T.col, .ref c']}):
  ∃fz',Le fz fz'/\fz'.CodeRec (.ref c') T.qual/\HR c fz' U H h':=by
 refine fA (x.tab T A) λK L Q B C=>?_
 have k:Le fz (sub h' λb=>b=c'∨(fz.get? b).isSome=UZ):=λb o e=>dZ ((λb o e=>u b o (λq=>by subst q;rw[C] at e;exact nn e) (x.fzle b o e):∀b o,fz.get? b=UX o->h'.get? b=UX o) b o e) (.inr (by refine ac e ?_;rfl))
 have out:∀{b:U8},b < h.objs.size->fz.get? b=UY->(sub h' λb=>b=c'∨(fz.get? b).isSome=UZ).get? b=UY:=λ{b} M e=>fC (by
  rintro(rfl|D)
  ·exact absurd M (Nat.not_lt.mpr w)
  ·rw[e] at D;cases D)
 have f:(sub h' λb=>b=c'∨(fz.get? b).isSome=UZ).CodeRec (.ref c') T.qual:=by refine ez n λE s vs t e1 e2 r=>?_;cases e1;exact⟨_,s,vs,t,rfl,dZ e2 (.inl rfl),r⟩
 refine⟨_,k,f,sub_le,λb o e=>u b o (λq=>by subst q;rw[B] at e;exact nn e) (x.gle b o e),λp N=>k _ _ (x.wd p N),x.len,x.inj,λi o e l=>?_,λi d e=>?_,λa o e=>out (We (x.gle a o e)) (x.dis a o e),λt F=>?_,x.tdis⟩
 ·exact eX (x.obj i o e l) λa v j m y z O=>(l8 a v j (u a v (λq=>x.tdis T A i o e l (ac j (ac q rfl))) m) y (out (We m) z) (O.mono k (U6 _)))
 ·exact aj (x.fro i d e) λa j m=>(aA a j (m.mono k))
 ·by_cases G:t.P=T.P
  ·have:=g t F G;exact ac this ⟨_,J,(aA _ rfl (.inr (aA c' rfl f))),B,out (We L:T.P < h.objs.size) C⟩
  ·exact fA (x.tab t F) λv j m y z=>(oF v (u _ _ G j) (m.mono k) y (out (We j) z))
end
section
theorem E8 {l:List (Vd×Wm)} (h:gy C l=UX cl) {x:Vd} {n:Nat} (a:(x,n)∈cl):cT x C.cells=UX n:=by
 induction l generalizing cl with
 |nil=>exact nomatch (U2 h▸a:(x,n)∈[])
 |cons p r d=>
  obtain⟨y,k⟩:=p;induction k with
  |free=>
   change (match cT y C.cells,gy C r with|some i,UX l=>UX ((y,i)::l)|_,_=>UY)=UX cl at h;induction b:cT y C.cells with
   |none=>rw[b] at h;exact nn h
   |some i=>
    rw[b] at h;induction c:gy C r with
    |none=>rw[c] at h;exact nn h
    |some l=>
     rw[c] at h;obtain rfl:=U2 h;rcases List.mem_cons.mp a with e|a
     ·cases e;exact b
     ·exact d c a
  |_=>exact d h a
theorem E9 {x:Vd} {n:Nat} {l:List (Vd×Nat)} (h:(x,n)∈l):∃m,cT x l=UX m:=by
 induction l with
 |nil=>exact nomatch h
 |cons p r b=>
  refine(?_:∃m,(match sq x p.1 with|true=>UX p.2|false=>cT x r)=UX m);by_cases a:x=p.1
  ·exact ac (bS.mpr a) ⟨p.2,rfl⟩
  ·exact ac (cg.mpr a) ((List.mem_cons.mp h).elim (λe=>absurd (congrArg Prod.fst e) a) b)
theorem J0 {T:fB} {t:oG} (eo:aI c C Z U) (hT:T∈c.TT) (E:∀t∈c.TT,t.P=T.P->t=T) (o:Z.code= .ref T.c) (hC:∀h,bv c.KK h->PySem.W.CodeHd h T.c T.P)
  (hg:Z.globals=mainGlobals) (hq:qualnameIn Z t.name t.name=t.qual) (h1:T.qual=t.qual) (h2:T.line=pos.line) (h3:T.col=pos.col)
  (hb:∀h,bv c.KK h->∃mg,h.Ns mainGlobals mg/\h.BuiltinsAt mg T.P) (a3:mainGlobals≠T.P) (a4:t.params.defaults=[]) (a5:t.params.kw_defaults=[]) (ha:annTrees t.params UY Z=[]):
  ae c A fz U (rN C t) (aaW (.FunctionDef t.name t.params t.body [] UY [] t.scope UY t.name pos) Z) FR:=by
 dsimp only[rN]
 induction L:gy C t.scope.names with
 |none=>exact ae.fail
 |some cl=>
 intro S f S' p e hp M ρ' s Q k q F y
 refine ez (bA e) λn S1 p1 p2 e1 e2 i=>?_
 subst i
 refine b9 (B3 e1) λi G I=>?_
 subst i
 subst G
 subst I
 refine ez (bA e2) λd S2 p3 p4 e3 e4 i=>?_
 subst i
 refine b9 (db e4) λi G I=>?_
 subst i
 subst G
 subst I
 have a6:=(af.mp (af.mp hp).2).1
 refine fA (qm eo L [] (λd d h=>nomatch h)) λcs f1 f2 d f4=>?_
 have u:abD t.scope Z=pure cs:=by dsimp only[abD];exact(congrArg (λt=>t >>= λr=>pure r) f1).trans (pure_bind _ _)
 have N:CR U cl cs:=λx m hm=>by
  obtain⟨m',a7⟩:=E9 hm;obtain⟨_,hs⟩:=f4 x m' a7;refine aj (eo.cells x m (E8 L hm)) λa ea eb=>?_;induction hh:cs.lookup x with
  |none=>rw[hh] at hs;cases hs
  |some b=>have:=f2 x b hh;rw[ea] at this;obtain rfl:=U2 this;exact(aA a rfl eb)
 have J:bv c.KK s.heap:=λp hp=>F.hr.fzle _ _ (F.hr.wd p hp)
 refine aj (hb _ J) λmg O R=>(fA (F.hr.tab T hT) λao t1 a8 t3 t4=>?_)
 refine aj a8 λps a9 aa=>?_
 subst a9
 refine PySem.W.nestDef_K a4 a5 ha ((hq).symm▸ ?_)
 have V:∀(g:Ve) (B:Ve) (K:Nat) (X:Vx),Le M g->HR c g ρ' S.H B->uO g ρ' t cl X->1<=K->
   Vh (Vi c.prog c.w) A (acf Z t.name (.ref B.objs.size)) (λd ab=>Q .next ab) bE {s with heap:=B.push {cls:= .type "function",data:= .func X},toks:=K}:=λg B K X kk j fi D=>by
  have pp:ρ' <+:ρ'++[B.objs.size]:=Vp _ _
  have Y:=j.push {cls:= .type "function",data:= .func X} (.fn t cl) rfl ⟨rfl,X,rfl,fi.mono (Le.refl _) pp⟩
  refine gJ ((eo.at q).at pp) (fz:=g) t.name (v:= .ref S.H.length) (z:= .ref B.objs.size) (.ref (bj j.len.symm)) _ _ S' p3 e3 a6 g (ρ'++[B.objs.size]) _ _ (Le.refl _) (U6 _) (F.to (Y) (.inr ‹_›)) λad r2 s2 d k2 q2 ag d=>?_
  exact y ad r2 s2 .next (kk.trans k2) (pp.trans q2) ag trivial
 refine iw F.tk ?_
 rcases aa with rfl|⟨c',rfl,l⟩
 ·refine PySem.W.makeFunction_K u hg O o (hC _ J) t1 trivial rfl a3 R λc' ah ai B K hx ak ap l a0 D=>(ez (id l) λd oc d d al am d=>?_)
  cases al;obtain⟨g,a1,a2,j⟩:=F.hr.made hT E hx ak am (ac h1 l) (by refine ac h2 (ac h3 ?_);simpa using a0);exact V g B K _ a1 j ⟨rfl,rfl,rfl,rfl,rfl,rfl,rfl,rfl,rfl,h1▸a2,N.mono q⟩ D
 ·refine PySem.W.makeFunction_hit (cv:= .ref c') u hg O o (hC _ J) t1 trivial (by simp[Zr,WO,h2,h3]) R λah ai B K hk aq D=>?_;exact V M B K _ (Le.refl _) (F.hr.le hk) ⟨rfl,rfl,rfl,rfl,rfl,rfl,rfl,rfl,rfl,h1▸l,N.mono q⟩ D
end
end
section
open PySem.W
open PySem.Builtin PySem.Builtin.ObjectAttr
section
noncomputable def HY (l:Bool):String:=match l with
 |true=>"list.__getattribute__"
 |false=>"object.__getattribute__"
noncomputable def vD (C:U8) (l:Bool):List U4:=match l with
 |true=>[.ref C, .type "list", .type "object"]
 |false=>[.ref C, .type "object"]
structure bV (K:Frag) (C:U8) (l:Bool):Prop where
 cd:∃cd,clsIn K C=UX cd/\cd.hasDict=UZ/\cd.mro=vD C l
 ga:findIn K (.ref C) "__getattribute__"=UX (UX (.builtin (HY l)))
 gx:findIn K (.ref C) "__getattr__"=UX UY
 sa:findIn K (.ref C) "__setattr__"=UX (UX (.builtin "object.__setattr__"))
section
theorem iS {name:Vd} {n:Nat}:∀{es:List (Vd×V)} {des:List Wi},ER g U P es des->
  (∀v,lk name es=UX v->∃x,lookIn name (cK des n)=UX (UX x)/\VR g U v x)/\(lk name es=UY->lookIn name (cK des n)=UX UY):=by
 intro es des h
 have i:(∀v,lk name es=UX v->∃e,des.find? (·.key.isStr name)=UX e/\VR g U v e.val)/\(lk name es=UY->des.find? (·.key.isStr name)=UY)/\des.any (·.refKey)=U0:=by
  induction h with
  |nil=>exact⟨λv h=>(nomatch h),λc=>rfl,rfl⟩
  | @cons k t v x r des a b l=>
   refine b9 l λi1 i2 m=>?_;have j:(DictEntry.mk (Wd P k) (.str k t) x).key.isStr name=sq name k:=by
    refine(?_:(k==name)=sq name k);by_cases e:name=k
    ·subst e;exact ac (bS.mpr rfl) (beq_self_eq_true _)
    ·exact ac (cg.mpr e) (beq_eq_false_iff_ne.mpr (acd e))
   refine⟨λu d=>?_,λd=>?_,ac aaY (ac m rfl)⟩
   ·dsimp only[lk] at d;induction f:sq name k with
    |true=>rw[f] at d;obtain rfl:=U2 d;exact(aA _ (ac (Zn) (ac j (ac f rfl))) a)
    |false=>rw[f] at d;refine ac (Zn) (ac j (ac f ?_));exact i1 u d
   ·dsimp only[lk] at d;induction f:sq name k with
    |true=>rw[f] at d;cases d
    |false=>rw[f] at d;refine ac (Zn) (ac j (ac f ?_));exact i2 d
 refine b9 i λo p q=>⟨λv s=>?_,λw=>?_⟩
 ·refine aj (o v s) λe y z=>⟨e.val,?_,z⟩
  unfold lookIn;dsimp only;exact ac y rfl
 ·unfold lookIn;dsimp only;refine ac (p w) ?_;dsimp only;refine ac q ?_;rfl
end
section
variable {K:Frag} {x C:U8} {name:Vd} {expr:Bool} 
theorem qA {l:Bool} {v:U4} (a:bV K C l) (b:findIn K (.ref C) name=UX UY) (hl:∃o,od=UX o/\lookIn name o=UX (UX v)):findObj K C od name=UX (.value v):=by
 refine ca a.cd λc d e f=>?_;obtain⟨o,rfl,hl⟩:=hl;dsimp only[findObj];refine ac d (ac b ?_);simp -iota only[Wg];have:W.ownOf c (UX o) name=UX (UX v):=by dsimp only[W.ownOf];refine ac (if_pos e) ?_;exact hl
 refine ac this ?_;rfl
theorem xQ {tk:ZP} {v:U4} {R:ZW->U9->Prop} (X:K.In s.heap) (I:InstAt s.heap x ox C od) (b:bV K C UZ) (hf:findObj K C od name=UX (.value v)) (h:R (.ok (.ret v)) s):
  XB (Vi J w) A (.call (.builtin "list.__getattribute__") ⟨[.ref x, .str name tk],[]⟩) R s:=by
 refine ca b.cd λk c l e=>?_
 obtain⟨f,g,d,t,os⟩:=s
 have a:=I.type (M:=Vi J w)
 have i:WC "list.__getattribute__"=UX .slot:=by decide+kernel
 have j:aai "list.__getattribute__"=UX ("list","__getattribute__"):=by decide+kernel
 refine ZB F.slot_list_getattribute.plain F.entry_list_ga (@check_slot (Vi J w) _ _ _ "list.__getattribute__" "list" "__getattribute__" (.ref x) [.str name tk] [] _ i j (a.andThen (looks_mroIn X (by dsimp only[mroIn];refine ac c ?_;rw[Wg];refine ac e ?_;rfl)):Looks (Vi J w) f (Yt (.ref x) (.type "list")) UZ) (acx _ _) ?_)
 unfold Builtin.«object.__getattribute__»
 refine U1 (U5 (U1 (U5 (U1 (a.at (U1 ((looks_find (M:=Vi J w) X I hf).at ?_)))))))
 exact U5 h
theorem vE {l:Bool} {v:U4} (X:K.In s.heap) (I:InstAt s.heap x ox C od) (a:bV K C l) (hf:findObj K C od name=UX (.value v)) (b:handedIn v=UZ) (h:Q v {s with toks:=s.toks+1}):
  Vh (Vi J w) A (aaK (.ref x) name expr) Q E s:=by
 induction l with
 |false=>exact get_value X I a.ga hf b h
 |true=>obtain⟨c,g,d,t,os⟩:=s;have e:=looks_findIn (M:=Vi J w) X a.gx;unfold aaK getAttrBy;refine U1 (Y2 (Vq (U1 ((I.type (M:=Vi J w)).at (U1 ((looks_findIn (M:=Vi J w) X a.ga).at ?_))))));refine(?_:Vh _ _ (YM _ _ _ _ _ _) _ _ _);dsimp only[YM];refine U1 (e.at (U1 (Zw (Vq ?_))));dsimp only[acj];refine ac (show(expr&&onTheHeap (ack (HY UZ)))=U0 from by cases expr<;>rfl) (ac (if_neg (by decide)) ?_);refine(?_:Vh _ _ (ZZ (.builtin "list.__getattribute__") _ _) _ _ _);dsimp only[ZZ];refine U1 ?_;rw[F.slot_list_getattribute.bind];refine U5 (Xs (xQ (s:=⟨c,g,d,t+1,os⟩) X I a hf ?_));refine(?_:Vh _ _ (handedOut v) _ _ _);exact ac (handedOut_of b) (U5 h)
noncomputable def kF (t:U4):Bool:=t== .type "function"||t== .type "method_descriptor"||t== .type "wrapper_descriptor"
theorem xR {l:Bool} {f tf:U4} {Q:U4×List U4->U9->Prop} (X:K.In s.heap) (I:InstAt s.heap x ox C od) (g:bV K C l)
  (hf:findIn K (.ref C) name=UX (UX f)) (i:typeIn K f=UX tf) (d:kF tf=UZ) (hs:shadowIn od name=UX U0) (h:Q (f,[.ref x]) s):
  Vh (Vi J w) A (W3 (.ref x) name pl) Q E s:=by
 unfold W3 aaC
 refine U1 (U1 (I.type.here ((looks_findIn X g.ga).here ?_)))
 dsimp only
 refine ac (by cases l<;>decide+kernel:(acI (HY l)!="object.__getattribute__")=U0) (ac (if_neg (by decide)) ?_)
 refine U1 (U1 (I.type.here ((looks_findIn X g.gx).here ?_)))
 refine U1 (U1 (I.type.here ((looks_findIn X hf).here (U1 ((looks_typeIn X i).here ?_)))))
 refine ac (if_neg (by dsimp only[kF] at d;simp only[abN,beq_iff_eq] at d;rcases d with (rfl|rfl)|rfl<;>decide+kernel)) ?_
 refine U1 (Z0 I.at_ ?_)
 have c:=I.dict
 induction e:ox.dict with
 |none=>exact U1 (abE (U5 h))
 |some j=>
  induction od with
  |none=>rw[e] at c;exact c.elim
  |some o=>
   rw[e] at c;refine aj (Option.map_eq_some_iff.mp hs) λr a b=>(U1 (U1 (Z0 c ?_)))
   refine(nsLook_of a).symm▸(U5 ?_);exact(b).symm▸(U1 (abE (U5 h)))
end
end
section
section
theorem ER.length:∀{es:List (Vd×V)} {des:List Wi},ER g U P es des->des.length=es.length
 |_,_, .nil=>rfl
 |_,_, .cons _ b=>ac VD (ac VD (ac (ER.length b) rfl))
theorem xS {name:Vd} {t:ZP} {x:U4} (c:VR g U v x) (h:ER g U P es des):
  ER g U P (put name v es) (aaN name.cps.size name.cps.toList (λ|some e=>{e with val:=x}|none=>⟨Wd P name, .str name t,x⟩) des).1:=by
 induction h with
 |nil=>exact .cons c .nil
 | @cons k f u y r des a b d=>
  have i:(Value.str k f).isStrByCps name.cps.size name.cps.toList=sq name k:=by
   refine ac (Value.isStrByCps_eq ..) (?_:(k==name)=sq name k);by_cases e:name=k
   ·exact ac (bS.mpr e) (beq_iff_eq.mpr e.symm)
   ·exact ac (cg.mpr e) (beq_eq_false_iff_ne.mpr (acd e))
  unfold aaN;refine(?_:ER g U P (match sq name k with|true=>(k,v)::r|false=>(k,u)::put name v r) _);dsimp only;refine ac i ?_;induction j:sq name k with
  |true=>refine ac (if_pos rfl) ?_;exact .cons c b
  |false=>refine ac (if_neg (by decide)) ?_;generalize l:aaN name.cps.size name.cps.toList (λ|some e=>{e with val:=x}|none=>⟨Wd P name, .str name t,x⟩) des=z at d ⊢;obtain⟨m,n⟩:=z;exact .cons a d
theorem Fa {name:Vd} {t:ZP} {x:U4} {n:Nat} (c:VR g U v x) (h:ER g U P es des):
  ∃des' n',Ze name (Wd P name) (.str name t) x (cK des n)=cK des' n'/\ER g U P (put name v es) des':=by
 have a:=xS (name:=name) (t:=t) c h
 unfold Ze
 dsimp only
 generalize f:aaN name.cps.size name.cps.toList (λ|some e=>{e with val:=x}|none=>⟨Wd P name, .str name t,x⟩) des=z at a ⊢
 obtain⟨b,d⟩:=z
 induction d with
 |false=>exact⟨b,n,rfl,a⟩
 |true=>exact(bL b (n+1) rfl a)
theorem Co (h:ER g U P es des):des.any (·.refKey)=U0:=by
 induction h with
 |nil=>rfl
 |cons a b c=>refine ac aaY (ac c ?_);rfl
end
section
variable {K:Frag} {x C:U8} {name:Vd}
theorem xT (self:U4) (l:Bool):refuseLoop self "__setattr__" (vD C l)=pure ():=by
 induction l with
 |false=>dsimp only[vD];rw[refuseLoop_ref];exact PySem.F.store_object.passes self
 |true=>dsimp only[vD];rw[refuseLoop_ref];rfl'
theorem Fb {l:Bool} {n:Nat} {v:U4} {Q:Unit->U9->Prop} (X:K.In s.heap) (y:s.heap.get? x=UX ox) (m:ox.cls= .ref C) (N:notCls ox=UZ) (hd:ox.dict=UX da) (c:s.heap.get? da=UX (cK des n))
  (B:bV K C l) (hf:findIn K (.ref C) name=UX UY) (O:des.any (·.refKey)=U0)
  (h:∀h' des' n' t,WU da s.heap h'->Ze name (Wd w.params name) (.str name t) v (cK des n)=cK des' n'->h'.get? da=UX (cK des' n')->des'.length<=des.length+1->Q () {s with heap:=h',toks:=s.toks+1+1})
  (hz:des.length<=1000):Vh (Vi J w) A (setAttr (.ref x) name v) Q E s:=by
 have I:Wq s.heap x ox C (UX (cK des n)):=⟨y,m,N,by refine ac hd ?_;exact c⟩
 refine ca B.cd λP o R D=>(set_plain X I B.sa ?_)
 have i:Looks (Vi J w) s.heap (Yt (.ref x) (.type "object")) UZ:=I.type.andThen (looks_mroIn X (by dsimp only[mroIn];refine ac o ?_;rw[Wg];refine ac D ?_;cases l<;>rfl))
 have j:=PySem.F.store_object
 have S:Looks (Vi J w) s.heap (mroOf (.ref C)) P.mro:=(looks_clsIn X o).andThen .now
 obtain⟨T,g,d,t,os⟩:=s
 refine ZB j.slot.plain j.entry (@check_slot (Vi J w) _ _ _ "object.__setattr__" "object" "__setattr__" (.ref x) [.str name t,v] [] _ j.kind j.split i (j.args (.ref x) (.str name t) v) ?_)
 have G:=I.type (M:=Vi J w)
 rw[osa_eq,refuse_eq]
 refine U1 (U1 (G.at (U1 (S.at ?_))))
 refine ac D ?_;rw[xT]
 refine U5 (U1 (G.at (U1 ((looks_findIn (M:=Vi J w) X hf).at (U1 (U5 ?_))))))
 refine(?_:Vh _ _ (storeInOwnDict _ _ _ _ _ _) _ _ _)
 dsimp only[storeInOwnDict]
 obtain⟨Z,U,V,W⟩:=ox
 dsimp only at m hd
 subst m hd
 refine U1 (U5 (U1 (U1 (Z0 y (U1 ((looks_clsIn X o).at ?_))))))
 refine ac R (U5 (a:=UX da) (U1 (U5 (U1 ?_))))
 dsimp only[nsSet]
 refine U1 (U1 (acl (U5 (U1 (Y2 (U1 (Z0 c ?_)))))))
 dsimp only
 have p:(!des.toArray.any (·.key.isStr name)&&des.toArray.any (·.refKey))=U0:=by
  have:des.toArray.any (·.refKey)=des.any (·.refKey):=by simp
  refine ac this ?_;rw[O,Bool.and_false]
 rw[aRefKeyMayBeTheName_at];refine ac p ?_
 have b:∃des' n',Ze name (Wd w.params name) (.str name (t+1)) v (cK des n)=cK des' n'/\des'.length<=des.length+1:=by
  unfold Ze;dsimp only;have Y:∀(f:Option Wi->Wi) (l:List Wi),(aaN name.cps.size name.cps.toList f l).1.length<=l.length+1:=λf l=>by
   induction l with
   |nil=>simp[aaN]
   |cons e r q=>
    dsimp only[aaN];split
    ·simp
    ·generalize aaN name.cps.size name.cps.toList f r=z at q ⊢;obtain⟨u,H⟩:=z;simp at q ⊢;exact q
  have:=Y (λ|some e=>{e with val:=v}|none=>⟨Wd w.params name, .str name (t+1),v⟩) des;generalize aaN name.cps.size name.cps.toList (λ|some e=>{e with val:=v}|none=>⟨Wd w.params name, .str name (t+1),v⟩) des=z at this ⊢;obtain⟨u,H⟩:=z;induction H with
  |false=>exact(bL u n rfl this)
  |true=>exact(bL u (n+1) rfl this)
 refine aG b λdes' n' b k=>?_
 have L:(T.update da (Ze name (Wd w.params name) (.str name (t+1)) v)).get? da=UX (cK des' n'):=by have:=Xn (Ze name (Wd w.params name) (.str name (t+1)) v) c (by refine ac b ?_;rfl);exact ac this (ac b rfl)
 refine wpAny_updatePart c ?_
 refine U1 (wpAny_lookBehind L (pastItsLine_dict (by refine ac VJ (ac VO ?_);lia)) ?_)
 exact U5 (h _ des' n' _ (VT ..) b L k)
end
end
end
section
open PySem.W (Frag findIn typeIn clsIn lookIn shadowIn handedIn findObj notCls mroIn)
structure aV where
 C:U8
 l:Bool
 attrs:List Vd
 meths:List (Vd×V)
noncomputable def yE (C:U8):List aV->Option aV
 |[]=>UY
 |t::r=>match VC t.C C with
  |true=>UX t
  |false=>yE C r
noncomputable def z5 (x:Vd):List Vd->Bool
 |[]=>U0
 |y::r=>sq x y||z5 x r
theorem yF {x:Vd} {l:List Vd} (h:z5 x l=UZ):x∈l:=by
 induction l with
 |nil=>exact ff h
 |cons y r a=>exact((abN _ _).mp h).elim (λh=>bS.mp h▸ .head _) λh=> .tail _ (a h)
structure ClTOK (K:Frag) (t:aV):Prop where
 f:bV K t.C t.l
 attrs:∀n∈t.attrs,findIn K (.ref t.C) n=UX UY
 meths:∀n v,lk n t.meths=UX v->∃f tf,findIn K (.ref t.C) n=UX (UX f)/\typeIn K f=UX tf/\kF tf=UZ/\∀g U,VR g U v f
def tZ (K:Frag) (CL:List aV):Prop:=∀t∈CL,ClTOK K t
theorem kG {C:U8} {t:aV} {CL:List aV} (h:yE C CL=UX t):t∈CL/\t.C=C:=by
 induction CL with
 |nil=>exact nn h
 |cons u r b=>
  have h:(match VC u.C C with|true=>UX u|false=>yE C r)=UX t:=h;induction a:VC u.C C with
  |true=>rw[a] at h;obtain rfl:=U2 h;exact⟨.head _,VK a⟩
  |false=>rw[a] at h;exact⟨.tail _ (b h).1,(b h).2⟩
noncomputable def Q5:V->Bool
 | .none=>UZ
 | .bool _=>UZ
 | .int _=>UZ
 | .str _=>UZ
 | .ref _=>UZ
 |_=>U0
noncomputable def j4:O->Option (U8×Nat×Option (List V))
 | .inst C d xs=>UX (C,d,xs)
 |_=>UY
theorem Fc {r:U8×Nat×Option (List V)} (e:j4 o=UX r):o= .inst r.1 r.2.1 r.2.2:=by
 induction o with
 |inst=>exact aD (U2 e) rfl
 |_=>exact nn e
noncomputable def nJ:O->Option (List (Vd×V))
 | .dict es=>UX es
 |_=>UY
theorem jG {r:List (Vd×V)} (e:nJ o=UX r):o= .dict r:=by
 induction o with
 |dict=>exact congrArg O.dict (U2 e)
 |_=>exact nn e
noncomputable def qB:O->Option (List (Vd×V))
 | .frame l=>UX l
 |_=>UY
theorem mI {r:List (Vd×V)} (e:qB o=UX r):o= .frame r:=by
 induction o with
 |frame=>exact congrArg O.frame (U2 e)
 |_=>exact nn e
noncomputable def Fd (o:O):Option (U8×Nat×List V):=match o with
 | .inst C d (UX xs)=>UX (C,d,xs)
 |_=>UY
theorem yG {r:U8×Nat×List V} (e:Fd o=UX r):o= .inst r.1 r.2.1 (UX r.2.2):=by
 induction o with
 |inst C d a=>induction a with
  |none=>exact nn e
  |some=>exact aD (U2 e) rfl
 |_=>exact nn e
theorem OK.asR {k:Nat->M α} {S:St} {K:α->St->List Prop->Prop} (h:∀i,v= .ref i->OK (k i S) K):OK (asR v k S) K:=by
 induction v with
 |ref i=>exact h i rfl
 |_=>exact Vf
def qC (CL:List aV) (r:U8×Nat×Option (List V)) (k:aV->List (Vd×V)->M α):M α:=cU (yE r.1 CL) λt=>getO nJ r.2.1 λes=>k t es
def Mk (CL:List aV) (v:V) (n:Vd):M V:=asR v λi=>getO j4 i λr=>qC CL r λt es=>bX (z5 n t.attrs) (cU (lk n es) λu=>bX (Q5 u) (ret u))
def Ml (CL:List aV) (v:V) (n:Vd) (u:V):M Unit:=asR v λi=>getO j4 i λr=>qC CL r λt es=>bX (z5 n t.attrs) λS=>UX ((),⟨S.H.set r.2.1 (.dict (put n u es)),S.orc⟩,[es.length<=1000])
def Rx (CL:List aV) (v:V) (n:Vd) (r:U8×Nat×Option (List V)):M (V×List V):=qC CL r λt es=>cU (lk n t.meths) λf=>bX (lk n es).isNone (ret (f,[v]))
def z6 (CL:List aV) (v:V) (n:Vd):M (V×List V):=match v with
 | .ref i=>λS=>match S.H[i]? with
  |some o=>match j4 o with
   |some r=>Rx CL v n r S
   |none=>vq v n S
  |none=>vq v n S
 |_=>vq v n
section
theorem SR.inK (x:SR c fz U H s):Frag.In c.KK s.heap:=λa o e=>by
 have:∀{K:List (U8×Xi)},K.lookup a=UX o->(a,o)∈K:=λ{K}=>by
  induction K with
  |nil=>intro h;exact nn h
  |cons p r f=>
   obtain⟨b,q⟩:=p;intro h;rw[Xe] at h;induction d:a==b with
   |true=>rw[d] at h;obtain rfl:=U2 h;refine ac (beq_iff_eq.mp d) ?_;exact .head _
   |false=>rw[d] at h;exact .tail _ (f h)
 exact x.hr.fzle _ _ (x.hr.wd _ (this e))
theorem ju (x:SR c fz U H s) {d:Nat} (hd:H[d]?=UX (.dict es)) (a:U[d]?=UX da):
  ∃des n,s.heap.get? da=UX (cK des n)/\ER fz U c.w.params es des:=aj (x.hr.at hd rfl a) λg b f=>aG f λdes n e r=>(bL des n (e▸b) r)
theorem J1 {C:U8} {d:Nat} {xs:Option (List V)} (h:OR P g U (.inst C d xs) a ob):∃da,U[d]?=UX da/\ob.cls= .ref C/\notCls ob=UZ/\ob.dict=UX da:=by
 induction xs with
 |none=>exact aj h λda g e=>e.symm▸⟨da,g,rfl,rfl,rfl⟩
 |some l=>exact aj h λda g c=>aG c λvs n e b=>e.symm▸(oF da g rfl rfl rfl)
structure Pd (c:Cx) (fz:Ve) (U:List U8) (H:List O) (d:Nat) (a:U8) (t:aV) (es:List (Vd×V)):Prop where
 h:H[d]?=UX (.dict es)
 ok:∀fz' ρ' s,Le fz fz'->U <+:ρ'->SR c fz' ρ' H s->∃ox da des nn,(s.heap.get? a=UX ox/\ox.cls= .ref t.C/\notCls ox=UZ/\ox.dict=UX da)/\ρ'[d]?=UX da/\s.heap.get? da=UX (cK des nn)/\ER fz' ρ' c.w.params es des
theorem OK.inst {CL:List aV} {r:U8×Nat×Option (List V)} {S:St} {k:aV->List (Vd×V)->M α} {K:α->St->List Prop->Prop} (hi:U[i]?=UX a) (h1:S.H[i]?=UX o) (h2:j4 o=UX r) (h:∀t es,t∈CL->Pd c fz U S.H r.2.1 a t es->OK (k t es S) K):OK (qC CL r k S) K:=
 OK.opt λt d=>OK.getO λA es j l=>
  have e:=j.trans (congrArg UX (jG l))
  h t es (kG d).1 ⟨e,λm ρ' s k q f=>aj (f.hr.at (h1.trans (congrArg UX (Fc h2))) rfl (ai q hi)) λn e2 p=>fA (J1 p) λu g v w x=>aG (ju f e g) λb nn y z=>⟨n,u,b,nn,⟨e2,(kG d).2▸v,w,x⟩,g,y,z⟩⟩
theorem z7 {x:U4} (h:Q5 v=UZ) (r:VR g U v x):handedIn x=UZ:=by
 induction v with
 |none=>refine ac r.i_none ?_;rfl
 |bool=>refine ac r.i_bool ?_;rfl
 |int=>exact r.e_int λa=>rfl
 |str=>exact r.e_str λa=>rfl
 |ref=>exact r.e_ref λa a=>rfl
 |_=>exact ff h
theorem J2 {CL:List aV} (h:tZ c.KK CL) {n:Vd} {x:U4} (j:VR fz U v x):
  ae c A fz U (Mk CL v n) (WD [x] (aaK x n UZ) >>= λr=>Y1 value x r >>= λb=>pure r) au:=by
 refine(ae.asR (t:=λx=>WD [x] (aaK x n UZ) >>= λr=>Y1 value x r >>= λb=>pure r) j ?_:)
 refine λi a l=>ae.run λS K m=>OK.getO λo r p w=>OK.inst (c:=c) (fz:=fz) l p w λt M B I=>OK.when λC=>OK.opt λu D=>OK.when λE=>m _ _ _ λN F ρ' s Q k q d y=>?_
 refine yf (I.ok _ _ _ k q d) λO P G nn g R H J=>aj ((iS (n:=nn) J).1 _ D) λz L e=>?_
 have T:=h t B
 exact U1 (Vq (vE d.inK ⟨g.1,g.2.1,g.2.2.1,g.2.2.2.symm▸H⟩ T.f (qA T.f (T.attrs n (yF C)) (aA _ rfl L)) (z7 E e) (U1 (ZA (U5 (y.at (d.ta d.hr) e))))))
theorem J3 {CL:List aV} (p:tZ c.KK CL) {n:Vd} {u:V} {x:U4} (w:VR fz U v x) (B:VR fz U u z):ae c A fz U (Ml CL v n u) (setAttr x n z) dJ:=by
 refine(ae.asR (t:=λx=>setAttr x n z) w ?_:);refine λi a C=>ae.run λS K D=>OK.getO λo r E F=>OK.inst (c:=c) (fz:=fz) C E F λt es G I=>OK.when λH=>D _ _ _ λJ L ρ' s Q k q d y=>?_;refine yf (I.ok _ _ _ k q d) λox da M nn g N O l=>?_;have T:=p t G;exact Fb d.inK g.1 g.2.1 g.2.2.1 g.2.2.2 O T.f (T.attrs n (yF H)) (Co l) (λh' e P W X j Y hl=>aG (Fa (name:=n) (t:=W) (n:=nn) (B.mono k q) l) λb m Z e2=>
  y.at (R:=dJ) ⟨d.hr.upd I.h rfl N X ((j.symm.trans Z:cK e P=cK b m)▸Y) (bL _ _ rfl e2),d.os,d.bare,U3 d.tk (Vo _ 2)⟩ trivial) (l.length.symm▸J.1)
theorem Fe {CL:List aV} (u:tZ c.KK CL) {x:U4} {n:Vd} (j:VR fz U v x):ae c A fz U (z6 CL v n) (W3 x n pl) o6:=by
 have b:=JK (c:=c) (A:=A) (n:=n) (pl:=pl) j;induction v with
 |ref i=>
  refine aj j.i_ref λa e l=>?_;subst e;refine ae.run λS K m=>?_;have b:OK (vq (.ref i) n S) K:=OK.got λr w p e=>m _ _ _ (b S r w p e);unfold z6;dsimp only;induction z:S.H[i]? with
  |none=>exact b
  |some o=>
   dsimp only;induction B:j4 o with
   |none=>exact b
   |some r=>
    refine OK.inst (c:=c) (fz:=fz) l z B λt W D I=>OK.opt λf E=>OK.when λF=>m _ _ _ λX G ρ' s Q k q d y=>?_;refine yf (I.ok _ _ _ k q d) λL Y h nn g Z M N=>?_;have T:=u t D;have J:Wq s.heap a L t.C (UX (cK h nn)):=⟨g.1,g.2.1,g.2.2.1,g.2.2.2.symm▸M⟩
    exact ye (T.meths n f E) λff tf O P R V=>xR d.inK J T.f O P R (by unfold shadowIn;dsimp only;refine ac ((iS (n:=nn) N).2 (Option.isNone_iff_eq_none.mp F)) ?_;rfl) (y.at d ⟨V _ _, .cons (.ref (ai q l)) .nil⟩)
 |_=>exact b
end
end
variable {CL:List aV}
section
open PySem.W
open PySem.Builtin PySem.Builtin.ObjectAttr
section
noncomputable def pe (K:Frag) (C:U8):Bool:=match K.lookup C with
 |some ⟨_,_, .cls a,b⟩=> !a.abstract&& !a.hasDel&&(b.toList[4]?).join==UX (.builtin "list.__new__")&& !a.mro.isEmpty&&a.mro.contains (.ref C)&&a.mro.contains (.type "list")&&
   specialIn K (.ref C) "__call__"==UX (UX (.builtin "type.__call__"))&&instIn K (.ref C) (.type "type")==UX UZ
 |_=>U0
structure vF (M:Zz) (h:Ve) (C:U8):Prop where
 obj:∃oc od cd sl,h.get? C=UX ⟨oc,od, .cls cd,sl⟩/\cd.abstract=U0/\cd.hasDel=U0/\cd.mro.isEmpty=U0
 made:Looks M h (ac4 (.ref C)) (UX "list.__new__")
 base:Looks M h (Bind.staticBase (.ref C)) (.ref C)
 self:Looks M h (isSubtype (.ref C) (.ref C)) UZ
 top:Looks M h (isSubtype (.ref C) (.type "list")) UZ
 call:Looks M h (aaC (.ref C) "__call__") (UX (.builtin "type.__call__"))
 typ:Looks M h (Yt (.ref C) (.type "type")) UZ
theorem Cp {K:Frag} {M:Zz} (X:K.In h) {C:U8} (e:pe K C=UZ):vF M h C:=by
 revert e;unfold pe;induction f:K.lookup C with
 |none=>exact λe=>tf e.symm
 |some o=>obtain⟨m,n,p,r⟩:=o;induction p using acG with
 |cls b=>
  intro e;simp only[VQ,XX,beq_iff_eq] at e;obtain⟨⟨⟨⟨⟨⟨⟨t,u⟩,v⟩,d⟩,w⟩,x⟩,y⟩,z⟩:=e;have g:clsIn K C=UX b:=by dsimp only[clsIn];rw[f]
  have i:Looks M h (mroOf (.ref C)) b.mro:=(looks_clsIn X g).andThen .now;obtain⟨c,l,j⟩:∃c l,b.mro=c::l:=by induction q:b.mro using VG with|nil=>rw[q] at d;cases d|cons c l=>exact(sU c l rfl)
  have a:Looks M h (ac4 (.ref C)) (UX "list.__new__"):=by intro A Q E s k q;dsimp only[ac4];refine U1 (i A _ E s k ?_);refine ac j ?_;rw[Zi];refine U1 (U1 (U1 (U1 (Z0 (k _ _ (X _ _ f)) (U5 ?_)))));dsimp only;refine aD (YS) (ac v ?_);exact U5 (U5 (U5 q))
  refine⟨⟨m,n,b,r,X _ _ f,t,u,d⟩,a,?_,looks_mroIn X ?_,looks_mroIn X ?_,looks_specialIn X y,looks_instIn X z⟩
  ·intro A Q E s k q;dsimp only[Bind.staticBase];refine U1 (i A _ E s k ?_);refine ac j ?_;rw[Zi];exact U1 (U1 (U1 (a A _ E s k (U5 (U5 (U5 q))))))
  ·dsimp only[mroIn];refine ac g ?_;rw[Wg,if_neg (by refine ac d ?_;decide),w]
  ·dsimp only[mroIn];refine ac g ?_;rw[Wg,if_neg (by refine ac d ?_;decide),x]
 |_=>exact λe=>tf e.symm
noncomputable abbrev kH (C a:U8):Xi:={cls:= .ref C,dict:=UX a,data:= .seq #[]}
theorem tK:WC "list.__new__"=UX .builtinFn:=by decide+kernel
theorem rO:aai "list.__new__"=UX ("list","__new__"):=by decide+kernel
section
variable {K:Frag} {C:U8} {R:ZW->U9->Prop} {g:Array aaA} {d:Drawn} {t:Nat} {os:OsState}
theorem Pe (Y:vF (Vi J w) h C)
  (m:R (.ok (.ret (.ref (h.objs.size+1)))) ⟨(h.push emptyDict).push (kH C h.objs.size),g,d,t,os⟩):
  XB (Vi J w) A (.call (.builtin "list.__new__") ⟨.ref C::rest,[]⟩) R ⟨h,g,d,t,os⟩:=by
 obtain⟨⟨n,o,q,r,k,z,s,B⟩,a,b,l,i,call,u⟩:=Y
 refine X1 ?_
 show Vh _ A.in1 (do Zs "list.__new__" ⟨.ref C::rest,[]⟩;again (.builtin "list.__new__" ⟨.ref C::rest,[]⟩)) _ _ _
 have j:Looks (Vi J w) h (isType (.ref C)) UZ:=(Looks.ld (part:=UY) k).andThen .now
 have c:∀Q:Unit->U9->Prop,Q () ⟨h,g,d,t,os⟩->Vh (Vi J w) A.in1 (Zs "list.__new__" ⟨.ref C::rest,[]⟩) Q (λe v=>R (.error e) v) ⟨h,g,d,t,os⟩:=λQ x=>by
  dsimp only[Zs];refine ac tK (ac rO ?_);refine qt (beq_self_eq_true "__new__") (U1 (j.at ?_));refine dQ rfl (U1 (i.at ?_));refine dQ rfl (U1 (b.at ?_));refine U1 (a.at ?_);refine dQ (bne_self_eq_false _) ?_
  repeat lk
  exact x
 refine U1 (c _ (U5 ⟨plainId_quiet F.plain_list_new _,codeAny_builtin_stack F.entry_list_new rfl λp st=>?_⟩))
 refine ac (Xq F.plain_list_new _) ?_
 have f:=owner_list_new
 dsimp only;refine ac (f) ?_
 have y:((h.push {cls:= .type "dict",data:= .dict #[]}).push {cls:= .ref C,dict:=UX h.objs.size,data:= .seq #[]}).get? C=UX ⟨n,o, .cls q,r⟩:=Vy _ (Vy _ k)
 repeat (first|refine dQ rfl ?_|lk)
 refine dQ s (U5 (U5 ?_))
 refine(?_:R _ _)
 rw[ab6]
 exact m
theorem Mm {init:U4} (Y:vF (Vi J w) h C) (hi:Looks (Vi J w) h (Ys (.ref C) "__init__") (UX init))
  (l:∀self,Looks (Vi J w) h (bindSpecial init self) (init,[self]))
  (m:XB (Vi J w) (A.under (.builtin "type.__call__" ⟨.ref C::rest,[]⟩)) (.call init ⟨.ref (h.objs.size+1)::rest,[]⟩) (InitBack (h.objs.size+1) R) ⟨(h.push emptyDict).push (kH C h.objs.size),g,d,t,os⟩):
  XB (Vi J w) A (.call (.ref C) ⟨rest,[]⟩) R ⟨h,g,d,t,os⟩:=by
 have n:=Y
 obtain⟨⟨x,y,p,B,f,D,E,q⟩,i,j,self,s,call,c⟩:=Y
 refine X1 (?_:Vh _ _ (callAny (.ref C) _) _ _ _)
 refine nd_load f (?_:Vh _ _ (ac5 (.ref C) _) _ _ _)
 dsimp only[ac5]
 refine U1 (call.at ?_)
 dsimp only
 rw[tc_bind]
 refine U1 (U5 (U1 (U5 ?_)))
 refine U5 (a:=Fin.again (.call (.builtin "type.__call__") ⟨.ref C::rest,[]⟩)) (And.intro rfl ?_)
 refine codeAny_call_builtin_at (Code.quiet_builtin _ (by decide+kernel)) entry_typeCall (check_slot tc_kind tc_split c (tc_args _ _ _) ?_)
 unfold Builtin.«type.__call__»
 have F:Looks (Vi J w) h (mroOf (.ref C)) p.mro:=((Looks.ld (part:=UY) f).andThen .now).andThen .now
 repeat (first|refine dQ q ?_|refine dQ rfl ?_|with_reducible refine Xs ?_|lk)
 refine Pe n ?_
 have k:∀b o,h.get? b=UX o->((h.push emptyDict).push (kH C h.objs.size)).get? b=UX o:=λb o e=>Vy _ (Vy _ e)
 have u:((h.push emptyDict).push (kH C h.objs.size)).get? (h.objs.size+1)=UX (kH C h.objs.size):=by heap_get
 have G:Looks (Vi J w) ((h.push emptyDict).push (kH C h.objs.size)) (aao (.ref (h.objs.size+1))) (.ref C):=(Looks.ld u).andThen .now
 have H:=self.keeps k
 have i1:=hi.keeps k
 have I:=(l (.ref (h.objs.size+1))).keeps k
 unfold Yt ZR aaC
 repeat (first|with_reducible refine Xs ?_|lk)
 refine codeAny_mono m λr K z=>?_
 rcases r with e|(v|_|_|_)<;>first|exact z|exact z.elim|skip
 obtain⟨rfl,z⟩:=z
 exact U5 (U5 z)
end
end
section
structure dm (K:Frag) (C:U8):Prop where
 f:bV K C UZ
 gi:findIn K (.ref C) "__getitem__"=UX (UX (.builtin "list.__getitem__"))
 si:findIn K (.ref C) "__setitem__"=UX (UX (.builtin "list.__setitem__"))
 it:findIn K (.ref C) "__iter__"=UX (UX (.builtin "list.__iter__"))
 ns:(seqItemTypes.all λn=>subIn K (.ref C) (.type n)==UX U0)=UZ
structure qD (h:Ve) (x C:U8) (ox:Xi) (od:Option Xi) (items:Array U4) (n:Nat):Prop where
 i:Wq h x ox C od
 d:ox.data= .seq items n
section
variable {K:Frag} {x C:U8} {n:Nat}
theorem nK {M:Zz} (X:K.In h) (I:Wq h x ox C od) (a:bV K C UZ):Looks M h (Yt (.ref x) (.type "list")) UZ:=by refine ca a.cd λd b e c=>?_;exact I.type.andThen (looks_mroIn X (by unfold mroIn;refine ac b ?_;rw[Wg];refine ac c ?_;rfl))
theorem z8 {M:Zz} {i owner n:String} {self:U4} {Q:Unit->U9->Prop}
  (d:WC i=UX .method) (hs:aai i=UX (owner,n)) (hi:Looks M s.heap (Yt self (.type owner)) UZ) (c:Z1 i ⟨self::rest,[]⟩) (q:Q () s):
  Vh M A (Zs i ⟨self::rest,[]⟩) Q E s:=by
 simp only[Zs,d,hs]
 refine U1 (hi.here ?_)
 simp only[Bool.not_true,Xk,if_false]
 induction a:aax i with
 |none=>exact U5 q
 |some b=>simp only[Z1,a] at c;refine(?_:Vh M A (aaG i b ⟨self::rest,[]⟩) Q E s);refine ac (c:aaG i b ⟨self::rest,[]⟩=pure ()) ?_;exact U5 q
theorem pf {i n:String} {B:Builtin} (X:K.In s.heap) (I:Wq s.heap x ox C od) (d:bV K C UZ)
  (c:WC i=UX .method∨WC i=UX .slot) (hs:aai i=UX ("list",n)) (k:plainId i=UZ) (l:abY table i=UX B) (g:Z1 i ⟨.ref x::rest,[]⟩)
  (h:Vh (Vi J w) A.in1 (B ⟨.ref x::rest,[]⟩) (λb s'=>match b with| .done (.ret v)=>Q v s'|_=>False) E s):
  Vh (Vi J w) A (call (.builtin i) (.ref x::rest)) Q E s:=by
 have b:Vh (Vi J w) A.in1 (B ⟨.ref x::rest,[]⟩) (λb s'=>match b with| .done f=>wants Q E (.ok f) s'| .again j=>j.quiet=UZ/\XB (Vi J w) A j (wants Q E) s') (λe s'=>wants Q E (.error e) s') s:=
  VH h (λb s' z=>by rcases b with (_|_|_|_)|_<;>first|exact z|exact z.elim) λa a z=>z
 refine Xs (ZB k l ?_)
 rcases c with c|c
 ·exact z8 c hs (nK X I d) g b
 ·exact check_slot c hs (nK X I d) g b
theorem kg {name:Vd} {i n:String} {B:Builtin} {Q:Option U4->U9->Prop} (X:K.In s.heap) (I:Wq s.heap x ox C od) (c:bV K C UZ)
  (hf:findIn K (.ref C) name=UX (UX (.builtin i))) (d:∀self,bindSpecial (.builtin i) self=pure (.builtin i,[self])) (e:WC i=UX .method∨WC i=UX .slot) (hs:aai i=UX ("list",n)) (f:plainId i=UZ) (g:abY table i=UX B) (j:Z1 i ⟨.ref x::rest,[]⟩)
  (h:Vh (Vi J w) A.in1 (B ⟨.ref x::rest,[]⟩) (λb s'=>match b with| .done (.ret v)=>Q (UX v) s'|_=>False) E s):
  Vh (Vi J w) A (ZR (.ref x) name rest) Q E s:=by
 unfold ZR aaC
 refine U1 (U1 (I.type.here ((looks_findIn X hf).here ?_)))
 refine Vq (U1 ?_)
 rw[d]
 refine U5 (U1 (VH (pf (Q:=λv=>Q (UX v)) X I c e hs f g j h) (λv s' z=>U5 z) λa a z=>z))
theorem lu {k:U4} {name:Vd} (X:K.In s.heap) (I:Wq s.heap x ox C od) (a:dm K C) (h:Q k s):Vh (Vi J w) A (sequenceKey (.ref x) k name) Q E s:=by unfold sequenceKey;refine U1 (I.type.here (U1 ((anyM_none X a.ns).here ?_)));exact U5 h
theorem yH:WC "list.__getitem__"=UX .method∨WC "list.__getitem__"=UX .slot:=by decide+kernel
theorem vH:aai "list.__getitem__"=UX ("list","__getitem__"):=by decide+kernel
theorem J4:WC "list.__setitem__"=UX .method∨WC "list.__setitem__"=UX .slot:=by decide+kernel
theorem Ff:aai "list.__setitem__"=UX ("list","__setitem__"):=by decide+kernel
theorem J5:WC "list.append"=UX .method∨WC "list.append"=UX .slot:=by decide+kernel
theorem Fg:aai "list.append"=UX ("list","append"):=by decide+kernel
theorem gU {M:Zz} {o:Xi} {xs:Array U4} {m:Nat} {Q:Array U4->U9->Prop} (b:s.heap.get? a=UX o) (hd:o.data= .seq xs m) (h:Q xs s):Vh M A (W0 (.ref a)) Q E s:=by dsimp only[W0];exact U1 (Y5 b hd (U5 h))
theorem z9 {v:U4} (X:K.In s.heap) (Y:qD s.heap x C ox od items n) (b:bV K C UZ) (hz:items.size<=Vb)
  (h:Q .none {s with heap:=s.heap.update x (Xl (·.push v))}):Vh (Vi J w) A (call (.builtin "list.append") [.ref x,v]) Q E s:=by
 refine pf X Y.i b J5 Fg F.slot_list_append.plain F.entry_list_append (F.args_list_append_2 _ _) ?_
 have a:(items.push v).size<=Vb+1:=by rw[Array.size_push];lia
 obtain⟨c,g,d,t,os⟩:=s
 wp_walk using (ZJ (Y.i.at_) (Y.d) (hz:=hz) (_hz':=a))
 exact h
theorem Aa {k:Int} {t:ZP} {v:U4} (X:K.In s.heap) (Y:qD s.heap x C ox od items n) (b:dm K C) (c:aK items.size k) (e:items[dM items.size k]?=UX v) (h:Q v s):
  Vh (Vi J w) A (Yw (.ref x) (.int k t)) Q E s:=by
 have g:=Y.i.at_
 have l:=Y.d
 dsimp only[Yw]
 try with_reducible refine Vq ?_
 refine U1 (lu X Y.i b ?_)
 refine U1 (kg X Y.i b.f b.gi F.slot_list_getitem.bind yH vH F.slot_list_getitem.plain F.entry_list_getitem (adw _ _) ?_)
 refine(?_:Vh _ _ (WJ (.int k t) >>= _) _ _ s)
 have a:YV k=UZ:=by
  induction k with
  |ofNat j=>have:=c.2;exact fitsIndex_of (Vr j) (by show((j:Nat):Int) < 2^63;lia)
  |negSucc j=>have:=c.2;exact fitsIndex_neg (Yq j) (by lia)
 refine U1 (abv a ?_)
 clear a
 induction k with
 |ofNat j=>
  refine(?_:Vh _ _ ((seqItemAt x j >>= λr=>pure (r.map (j,·))) >>= _) _ _ s);refine U1 (U1 (wpAny_seqItemAt g l (U5 ?_)));refine ac (show items[j]?=UX v from e) ?_
  first
   |exact U1 (U5 (U5 (U5 h)))
   |exact U5 (U5 h)
 |negSucc j=>
  refine(?_:Vh _ _ ((W0 (.ref x) >>= λm=>pure ((ZS (Zd j) m.size).bind λi=>m[i]?.map (i,·))) >>= _) _ _ s);refine U1 (U1 ?_);refine(?_:Vh _ _ (adu (.ref x) >>= _) _ _ s);refine U1 (Y5 g l (U5 (U5 ?_)));refine(jZ c).symm▸ ?_;dsimp only;simp -iota only[Wg,e,abw]
  first
   |exact U1 (U5 (U5 (U5 h)))
   |exact U5 (U5 h)
theorem vI {g:U8} {k l vs:U4} {lo hi st:Option Int} (X:K.In s.heap) (Y:qD s.heap x C ox od items n) (o:dm K C)
  (hs:s.heap.IsSliceOf g k l vs) (pl:aci k lo) (q:aci l hi) (ps:aci vs st) (h0:st≠UX 0)
  (h:Q (.ref s.heap.objs.size) {s with heap:=s.heap.push {cls:= .type "list",data:= .seq (slicePick items lo hi st)}})
  (hsz:items.size<=Vb):Vh (Vi J w) A (Yw (.ref x) (.ref g)) Q E s:=by
 refine ca (id hs) λos a p b=>?_
 have j:s.TypeIs (.ref g) "slice":=(aA os a p)
 unfold Yw
 try with_reducible refine Vq ?_
 refine U1 (lu X Y.i o ?_)
 refine U1 (kg X Y.i o.f o.gi F.slot_list_getitem.bind yH vH F.slot_list_getitem.plain F.entry_list_getitem (adw _ _) ?_)
 refine(?_:Vh _ _ (WJ (.ref g) >>= _) _ _ s)
 refine U1 ?_
 unfold WJ
 refine U1 (Xc j slice_no_index ?_)
 dsimp only
 refine U5 (?_:Vh _ _ (aao (.ref g) >>= _) _ _ s)
 refine U1 (aaO j ?_)
 refine dQ rfl ?_
 rw[listSliceParts_eq]
 have e:¬((rawPart st==WO 0)=UZ):=by
  induction st with
  |none=>exact VV
  |some c=>
   intro r;have:c=0:=by simpa[rawPart,WO] using r
   exact h0 (by rw[this])
 refine U1 (U1 (W8 a b (x:=vs) rfl (U1 (Y8 ps ?_))))
 refine ac (if_neg e) (U1 (W8 a b (x:=k) rfl (U1 (Y8 pl ?_))))
 refine U1 (W8 a b (x:=l) rfl (U1 (Y8 q (U5 ?_))))
 refine U1 (m:=W0 (.ref x)) ?_
 unfold W0
 refine U1 (Y5 (Y.i.at_) (Y.d) (U5 ?_))
 refine U1 (XS (sliceIndices_raw lo hi st items.size h0) ?_)
 refine U1 (V7 (U5 (U5 h)) (U3 (slicePick_size_le items lo hi st) hsz))
theorem xU {g l:U8} {k:Xi} {o:U4} {lo:Option Int} {a m:Nat} {new:Array U4} {Q:Unit->U9->Prop} (X:K.In s.heap) (Y:qD s.heap x C ox od items n) (p:dm K C)
  (hs:s.heap.IsSliceOf g o .none .none) (pl:aci o lo) (H:aaj lo UY UY items.size=((a:Int),(items.size:Int),1)) (q:a<=items.size) (hl:s.heap.get? l=UX k) (r:k.cls= .type "list") (t:k.data= .seq new m) (u:l≠x)
  (h:∀f:Array U4->Array U4,f items=(items.toList.take a).toArray++new->Q () {s with heap:=s.heap.update x (Xl f)})
  (hsz:items.size+new.size<=1000):Vh (Vi J w) A (Y0 (.ref x) (.ref g) (.ref l)) Q E s:=by
 have B:=Y.i.at_
 have D:=Y.d
 refine ca (id hs) λos b v c=>?_
 have j:s.TypeIs (.ref g) "slice":=(aA os b v)
 unfold Y0
 try with_reducible refine Vq ?_
 refine U1 (lu X Y.i p ?_)
 refine U1 (kg X Y.i p.f p.si F.slot_list_setitem.bind J4 Ff F.slot_list_setitem.plain F.entry_list_setitem (adt _ _ _) ?_)
 refine(?_:Vh _ _ (WJ (.ref g) >>= _) _ _ s)
 refine U1 ?_
 unfold WJ
 refine U1 (Xc j slice_no_index ?_)
 refine U5 (?_:Vh _ _ (aao (.ref g) >>= _) _ _ s)
 refine U1 (aaO j ?_)
 refine dQ rfl ?_
 rw[listSliceParts_eq]
 refine U1 (U1 (W8 b c (x:= .none) rfl (U1 (Y8 .none ?_))))
 refine ac (if_neg (show¬((rawPart UY==WO 0)=UZ) from VV)) (U1 (W8 b c (x:=o) rfl (U1 (Y8 pl ?_))))
 refine U1 (W8 b c (x:= .none) rfl (U1 (Y8 .none (U5 ?_))))
 have y:(abg (.ref x) (.ref l))=U0:=by unfold abg;exact beq_eq_false_iff_ne.mpr λe=>u e.symm
 refine dQ y (U1 ?_)
 unfold Builtin.List.listAllItems
 refine U1 (aaO ((aA k hl r):s.TypeIs (.ref l) "list") ?_)
 refine qt rfl (gU hl t ?_)
 refine U1 (gU B D ?_)
 refine U1 (XS (sliceIndices_raw lo UY UY items.size (by simp)) ?_)
 refine ac H ?_
 dsimp only
 refine qt rfl (U1 (abE ?_))
 have z:Zm (items.size+new.size)=U0:=by unfold Zm;refine ac VO ?_;simp;lia
 refine dQ z ?_
 have G:(items.extract 0 (a:Int).toNat++new++items.extract (max (a:Int) (items.size:Int)).toNat)=(items.toList.take a).toArray++new:=by have I:(max (a:Int) (items.size:Int)).toNat=items.size:=ac (Y9 (Int.ofNat_le.mpr q)) rfl;refine ac (Vz a:(a:Int).toNat=a) (ac I ?_);apply Array.toList_inj.mp;simp
 refine U1 ?_
 unfold Zx
 refine ZJ B D ?_ (hz:=by refine(VO).symm▸ ?_;lia) (_hz':=by refine ac G (ac VO ?_);simp;lia)
 refine U1 (wpAny_letGo (U5 (U5 (h _ G))))
end
end
section
theorem qE:Slot "method_descriptor" "__get__" "method_descriptor.__get__":=
 .of (owner:="method_descriptor") (n:="__get__") (by rw[acy];refine ac aaZ ?_;rfl') (by decide+kernel) (by decide+kernel) (by decide+kernel)
  (by first|exact .inl (by decide+kernel)|exact .inr (by decide+kernel)) (by rw[isSubtype_type];rfl')
theorem xV:abY table "method_descriptor.__get__"=UX Builtin.«method_descriptor.__get__»:=entryFor_of_tree (by rfl')
theorem Ab (a b c:U4):Z1 "method_descriptor.__get__" ⟨[a,b,c],[]⟩:=by dsimp only[Z1];rfl'
theorem lw:Slot "wrapper_descriptor" "__get__" "wrapper_descriptor.__get__":=
 .of (owner:="wrapper_descriptor") (n:="__get__") (by rw[acy];refine ac aaZ ?_;rfl') (by decide+kernel) (by decide+kernel) (by decide+kernel)
  (by first|exact .inl (by decide+kernel)|exact .inr (by decide+kernel)) (by rw[isSubtype_type];rfl')
theorem xW:abY table "wrapper_descriptor.__get__"=UX Builtin.«wrapper_descriptor.__get__»:=entryFor_of_tree (by rfl')
theorem Ac (a b c:U4):Z1 "wrapper_descriptor.__get__" ⟨[a,b,c],[]⟩:=by dsimp only[Z1];rfl'
theorem vJ:aao (.builtin "list.pop")=pure (.type "method_descriptor"):=by show builtinType _=_;refine ac abm ?_;rfl'
theorem vK:aao (.builtin "list.__len__")=pure (.type "wrapper_descriptor"):=by show builtinType _=_;refine ac abm ?_;rfl'
theorem tc:aao (.builtin "list.__init__")=pure (.type "wrapper_descriptor"):=by show builtinType _=_;refine ac abm ?_;rfl'
section
variable {K:Frag} {x C:U8} 
theorem J6 (X:K.In s.heap) (I:Wq s.heap x ox C od) (f:bV K C UZ) {c:U4} (b:(c== .none)=U0)
  (h:Q (.ref s.heap.objs.size) {s with heap:=s.heap.push {cls:= .type "builtin_function_or_method",data:= .fields #[.builtin "list.pop", .ref x]}}):
  Vh (Vi J w) A (call (.builtin "method_descriptor.__get__") [.builtin "list.pop", .ref x,c]) Q E s:=by
 refine Xp qE (s:=s) (vJ) xV ?_ (Ab _ _ _)
 obtain⟨i,g,d,t,os⟩:=s
 unfold Builtin.«method_descriptor.__get__»
 have j:Manifest.toldItsClass.contains "list.pop"=U0:=by decide+kernel
 have a:∀n,n="list"->Looks (Vi J w) i (Yt (.ref x) (.type n)) UZ:=λn e=>e▸(nK (M:=Vi J w) X I f)
 repeat (first|(with_reducible refine Looks.at (a _ (by rfl')) ?_)|rw[b,if_neg VV]|refine dQ j ?_|refine dQ rfl ?_|lk)
 exact(aA _ rfl h)
theorem vM {id:String} (a:id="list.__len__"∨id="list.__init__") (X:K.In s.heap) (I:Wq s.heap x ox C od) (f:bV K C UZ) {c:U4} (b:(c== .none)=U0)
  (h:Q (.ref s.heap.objs.size) {s with heap:=s.heap.push {cls:= .type "method-wrapper",data:= .fields #[.builtin id, .ref x]}}):
  Vh (Vi J w) A (call (.builtin "wrapper_descriptor.__get__") [.builtin id, .ref x,c]) Q E s:=by
 refine Xp lw (s:=s) ((by rcases a with rfl|rfl<;>first|exact vK|exact tc:aao (.builtin id)=pure (.type "wrapper_descriptor"))) xW ?_ (Ac _ _ _)
 obtain⟨i,g,d,t,os⟩:=s
 unfold Builtin.«wrapper_descriptor.__get__»
 rcases a with rfl|rfl
 all_goals
  repeat (first|(with_reducible refine Looks.at ((λn e=>e▸(nK (M:=Vi J w) X I f):∀n,n="list"->Looks (Vi J w) i (Yt (.ref x) (.type n)) UZ) _ (by rfl')) ?_)|rw[b,if_neg VV]|refine dQ rfl ?_|lk)
  exact(aA _ rfl h)
theorem Mn {m D:U8} {id:String} {b l:List U4} {name:Vd} {tk:ZP} {Q:Fin->U9->Prop}
  (c:s.heap.get? m=UX {cls:= .type "super",dict:=UY,data:= .fields #[.ref D, .ref x, .ref C],slots:= #[]}) (f:Looks (Vi J w) s.heap (opaqueClassAbove (.ref C)) UY)
  (n:Looks (Vi J w) s.heap (mroOf (.ref C)) b) (hl:(b.dropWhile (· != .ref D)).drop 1=l) (X:K.In s.heap)
  (hf:alongIn K name l=UX (UX (.builtin id))) (o:aao (.builtin id)=pure (.type tg)) (p:Ys (.type tg) "__get__"=pure (UX (.builtin bt))) (i:x≠C) (q:(name==("__class__":Vd))=U0)
  (r:Vh (Vi J w) A (call (.builtin bt) [.builtin id, .ref x, .ref C]) (λv s'=>Q (.done (.ret v)) s') E s):
  Vh (Vi J w) A (Builtin.«super.__getattribute__» ⟨[.ref m, .str name tk],[]⟩) Q E s:=by
 obtain⟨h,g,d,t,os⟩:=s
 have j:(X8 x==X8 C)=U0:=by simp[i]
 have e:({cls:= .type "super",dict:=UY,data:= .fields #[.ref D, .ref x, .ref C],slots:= #[]}:Xi).data= .fields #[.ref D, .ref x, .ref C]:=rfl
 have u:(#[.ref D, .ref x, .ref C]:Array U4)[0]?=UX (.ref D):=rfl
 have y:(#[.ref D, .ref x, .ref C]:Array U4)[1]?=UX (.ref x):=rfl
 have B:(#[.ref D, .ref x, .ref C]:Array U4)[2]?=UX (.ref C):=rfl
 have k:∀F,(⟨h,g,d,F,os⟩:U9).TypeIs (.builtin id) tg:=λa=>o
 unfold Builtin.«super.__getattribute__»
 repeat (first
  |(with_reducible refine W8 c e u ?_)|(with_reducible refine W8 c e y ?_)|(with_reducible refine W8 c e B ?_)
  |(with_reducible refine ks_wpAny_notOpaque f ?_)
  |(with_reducible refine Looks.at n ?_;rw[hl])
  |(refine ks_forIn_along X (λa a=>rfl) rfl ?_ hf)
  |(with_reducible refine aaO (k _) ?_)
  |(with_reducible refine XS p ?_)
  |refine dQ q ?_|rw[j,if_neg VV]|refine dQ rfl ?_
  |(with_reducible refine VH r (λv s' G=>?_) λa a z=>z)
  |wp_step
  |dsimp only)
 exact G
theorem Ad {e D:U8} {id:String} {c l:List U4} {name:Vd} {Q:U4×List U4->U9->Prop}
  (f:s.heap.get? e=UX {cls:= .type "super",dict:=UY,data:= .fields #[.ref D, .ref x, .ref C],slots:= #[]}) (j:Looks (Vi J w) s.heap (opaqueClassAbove (.ref C)) UY)
  (o:Looks (Vi J w) s.heap (mroOf (.ref C)) c) (hl:(c.dropWhile (· != .ref D)).drop 1=l) (X:K.In s.heap)
  (hf:alongIn K name l=UX (UX (.builtin id))) (p:aao (.builtin id)=pure (.type tg)) (q:Ys (.type tg) "__get__"=pure (UX (.builtin bt))) (k:x≠C) (r:(name==("__class__":Vd))=U0)
  (B:∀a,handedIn (.ref a)=UZ)
  (u:∀s':U9,s'.heap=s.heap->s'.gens=s.gens->s'.os=s.os->s.toks<=s'.toks->Vh (Vi J w) A.in1 (call (.builtin bt) [.builtin id, .ref x, .ref C]) (λv s'=>(∃a,v= .ref a)/\Q (v,[]) s') (λb b=>False) s'):
  Vh (Vi J w) A (W3 (.ref e) name pl) Q E s:=by
 obtain⟨h,g,d,t,os⟩:=s
 have i:=F.ks_slot_super_ga.lookup
 have m:∀y,(⟨h,g,d,y,os⟩:U9).TypeIs (.ref e) "super":=λb=>(aA _ f rfl)
 dsimp only[W3]
 refine U1 (Xc (m _) i ?_)
 refine(?_:Vh _ _ (if(acI "super.__getattribute__"!="object.__getattribute__")=UZ then _ else _) _ _ _)
 refine ac (if_pos (F.ks_canon_super_ga)) ?_
 unfold aaK getAttrBy
 refine U1 (U1 (Y2 (Vq (U1 (aaO (m _) (U1 (XS i ?_)))))))
 refine(?_:Vh _ _ (YM (.ref e) (.str name t) (.type "super") (.builtin "super.__getattribute__") UZ U0) _ _ _)
 unfold YM hookBefore acj ZZ
 refine U1 (XS (show(if onTheHeap (.type "super") then Ys (.type "super") "__getattr__" else pure UY)=pure UY from rfl) ?_)
 refine U1 (Zw (Vq ?_))
 refine(?_:Vh _ _ (bindSpecial (.builtin "super.__getattribute__") (.ref e) >>= _) _ _ _)
 refine U1 (XS (F.ks_slot_super_ga.bind _) ?_)
 refine VH (Q:=λv s'=>(∃a,v= .ref a)/\Q (v,[]) s') (E:=λb b=>False)
  (Xp F.ks_slot_super_ga (m _) F.ks_entry_super_ga (Mn (s:=⟨h,g,d,t+1,os⟩) f j o hl X hf p q k r (VH (u ⟨h,g,d,t+1,os⟩ rfl rfl rfl (WI _)) (λv s' z=>⟨v,rfl,z⟩) λb b z=>z)) (F.ks_gaArgs_super _ _)) (λv s' n=>?_) λb b z=>z.elim
 obtain⟨⟨a,rfl⟩,n⟩:=n
 exact U5 (U5 n)
theorem Ae {b:U8} {id:String} {B:Builtin} {R:ZW->U9->Prop} (g:s.heap.get? b=UX {cls:= .type bt,dict:=UY,data:= .fields #[.builtin id, .ref x],slots:= #[]})
  (a:bt="builtin_function_or_method"∨bt="method-wrapper") (d:plainId id=UZ) (i:abY table id=UX B)
  (j:∀Q:Unit->U9->Prop,Q () s->Vh (Vi J w) A.in1 (Za id ⟨[.ref x],[]⟩) Q (λe s'=>R (.error e) s') s)
  (h:Vh (Vi J w) A.in1 (B ⟨[.ref x],[]⟩) (λc s'=>match c with| .done f=>R (.ok f) s'| .again c'=>c'.quiet=UZ/\XB (Vi J w) A c' R s') (λe s'=>R (.error e) s') s):
  XB (Vi J w) A (.call (.ref b) ⟨[],[]⟩) R s:=by
 refine X1 (?_:Vh _ A.in1 (callAny (.ref b) ⟨[],[]⟩) _ _ _)
 dsimp only[callAny]
 refine U1 (Zq g ?_)
 dsimp only
 refine ac (if_pos (by rcases a with rfl|rfl<;>decide)) ?_
 refine(?_:Vh _ _ (if((Value.type bt)!= .type "method")=UZ then _ else _) _ _ _)
 refine ac (if_pos (by rcases a with rfl|rfl<;>decide)) ?_
 refine U1 (j _ (U5 ⟨plainId_quiet d _,ZK i ?_⟩))
 exact ac (Xq d _) h
end
end
section
structure Fh (J:VB) (K:Frag) (f:U8) (fd:Vx) (D cc:U8):Prop where
 of:∃fo,K.lookup f=UX fo/\fo.data= .func fd
 first:∃ar,(fd.params.posonlyargs++fd.params.args).head?=UX ar/\ar.arg=("self":Vd)
 code:∃cda oc vs file tf,fd.code= .ref cda/\K.lookup cda=UX oc/\oc.data= .fields vs/\vs[2]?=UX (.str file tf)/\((J.main.file:Vd)==file)=UZ
 cell:∃oc,K.lookup cc=UX oc/\oc.data= .cell (UX (.ref D))
 cls:∃oD cd,K.lookup D=UX oD/\oD.data= .cls cd
 top:(J.main.scope.names.lookup ("super":Vd)).isSome=U0
 op:nsIn K cStatics "thirdparty.any"=UX UY
 sub:mroIn K D (.ref D)=UX UZ
section
variable {K:Frag} {x D:U8} 
theorem Fi {b:Vd} {z m:Vd->Option U4} (h:Fh J K f fd D cc) (X:K.In s.heap)
  (k:Z.scope.kind= .function) (i:Z.kindOf "super"=UX .globalImplicit) (j:Z.kindOf "__class__"=UX .free) (a:Z.kindOf "self"=UX .local) (l:(b==("__class__":Vd))=U0)
  (n:Z.func=UX f) (p:Z.code=fd.code) (q:Z.cells.lookup ("__class__":Vd)=UX cc) (G:s.heap.Ns Z.globals mg) (r:mg "super"=UY) (H:s.heap.Ns Z.builtins z) (u:z "super"=UX (.type "super"))
  (L:s.heap.Ns Z.locals m) (v:m "self"=UX (.ref x)) (I:Wq s.heap x ox D od)
  (M:∀h',h'.get? s.heap.objs.size=UX {cls:= .type "super",dict:=UY,data:= .fields #[.ref D, .ref x, .ref D],slots:= #[]}->(∀y o,s.heap.get? y=UX o->h'.get? y=UX o)->Q (.ref s.heap.objs.size) {s with heap:=h'}):
  _root_.PySem.wpAt (Vi J w) A (.func body Z) (Zv (.Call (.Name "super" p0) [] [] p1) b Z whole) Q E s:=by
 refine aj h.of λfo N O=>(aj h.first λar P a2=>?_)
 refine Uq h.code λR oc vs B tf S T U V W=>(aj h.cell λY e1 e2=>?_)
 refine aG h.cls λoD cd C F=>?_
 obtain⟨hp,g,d,t,os⟩:=s
 refine ks_wpAt_super_base i j l n (X _ _ N) O P (p.trans S) (X _ _ T) U V W h.top (ks_loadName_global k i (abB G r H u ⟨rfl,?_⟩))
 refine wpAny_loadName_free k j q (aA _ (X _ _ e1) e2) ((a2).symm▸ ?_)
 refine WF k a L v (ks_wpAny_isType_cls (X _ _ C) F ⟨rfl,?_⟩)
 refine ks_wpAny_call_super (X _ _ C) F I.at_ I.cls (λc e=>?_) (looks_mroIn X h.sub:Looks (Vi J w) hp (isSubtype (.ref D) (.ref D)) UZ) M
 have:=I.no
 dsimp only[notCls] at this
 rw[e] at this
 exact Bool.noConfusion this
theorem vN {b:U8} {id:String} {Q:Keeper->U9->Prop} (c:s.heap.get? b=UX {cls:= .type bt,dict:=UY,data:= .fields #[.builtin id, .ref x],slots:= #[]})
  (a:bt="builtin_function_or_method"∨bt="method-wrapper") (h:Q .machine s):Vh (Vi J w) A (ZV (.ref b)) Q E s:=by
 dsimp only[ZV]
 refine U1 (Zq c ?_)
 dsimp only
 rcases a with rfl|rfl
 ·refine ac (if_pos (by decide)) ?_;exact U5 h
 ·refine ac (if_pos (by decide)) ?_;exact U5 h
theorem pg {name:Vd} {mb m:Vd->Option U4} {id gt:String} {B:Builtin} (SF:Fh J K f fd D cc) (X:K.In s.heap) (CF:bV K D UZ)
  (hk:Z.scope.kind= .function) (H:Z.kindOf "super"=UX .globalImplicit) (L:Z.kindOf "__class__"=UX .free) (c:Z.kindOf "self"=UX .local)
  (M:Z.func=UX f) (N:Z.code=fd.code) (O:Z.cells.lookup ("__class__":Vd)=UX cc) (hg:s.heap.Ns Z.globals mg) (P:mg "super"=UY) (hb:s.heap.Ns Z.builtins mb) (R:mb "super"=UX (.type "super"))
  (hm:s.heap.Ns Z.locals m) (S:m "self"=UX (.ref x)) (I:Wq s.heap x ox D od) (T:x≠D)
  (hn:(name==("__class__":Vd))=U0) (hf:alongIn K name [.type "list", .type "object"]=UX (UX (.builtin id))) (ht:aao (.builtin id)=pure (.type tg)) (U:Ys (.type tg) "__get__"=pure (UX (.builtin gt)))
  (n:∀(s':U9) (Q:U4->U9->Prop),K.In s'.heap->Wq s'.heap x ox D od->Q (.ref s'.heap.objs.size) {s' with heap:=s'.heap.push {cls:= .type bt,data:= .fields #[.builtin id, .ref x]}}->
   Vh (Vi J w) A.in1 (call (.builtin gt) [.builtin id, .ref x, .ref D]) Q (λa a=>False) s')
  (p:bt="builtin_function_or_method"∨bt="method-wrapper") (V:plainId id=UZ) (he:abY table id=UX B)
  (hc:∀(s':U9) (Q:Unit->U9->Prop) (E:U4->U9->Prop),K.In s'.heap->Wq s'.heap x ox D od->Q () s'->Vh (Vi J w) A.in1 (Za id ⟨[.ref x],[]⟩) Q E s')
  (W:Ws (.Call (.Attribute (.Call (.Name "super" p0) [] [] p1) name ap) [] [] pos) Z=(do
    let ov <-Zv (.Call (.Name "super" p0) [] [] p1) name Z (Ws (.Call (.Name "super" p0) [] [] p1) Z)
    WM ap.atName
    let(f,first) <-WD [ov] (W3 ov name pl)
    Y3 pos f first (XW pos (WQ [] Z)) []))
  (h:∀s':U9,(∀y o,s.heap.get? y=UX o->s'.heap.get? y=UX o)->s'.gens=s.gens->s'.os=s.os->s.toks<=s'.toks->Vh (Vi J w) A.in1 (B ⟨[.ref x],[]⟩) (λj s'=>match j with| .done (.ret v)=>Q v s'|_=>False) E s'):
  _root_.PySem.wpAt (Vi J w) A (.func body Z) (Ws (.Call (.Attribute (.Call (.Name "super" p0) [] [] p1) name ap) [] [] pos) Z) Q E s:=by
 refine ks_wpAt_MethodCall (pl:=pl) ?_ W
 refine Fi SF X hk H L c hn M N O hg P hb R hm S I λF Y i=>?_
 obtain⟨hp,g,d,t,os⟩:=s
 have q:Wq F x ox D od:=⟨i _ _ I.at_,I.cls,I.no,by have:=I.dict;cases k:ox.dict<;>cases r:od<;>rw[k,r] at this<;>first|trivial|exact this.elim|exact i _ _ this⟩
 have u:K.In F:=X.keeps i
 refine ca CF.cd λcd k1 k2 k3=>?_
 refine Ad (s:=⟨F,g,d,t,os⟩) Y (looks_opaque u SF.op) ((looks_clsIn u k1).andThen .now) (l:=[.type "list", .type "object"]) (by refine(k3).symm▸ ?_;simp[vD]) u hf ht U T hn (λa=>rfl) λb k r e3 e4=>?_
 refine VH (n b (λv s'=>v= .ref b.heap.objs.size/\s'={b with heap:=b.heap.push {cls:= .type bt,data:= .fields #[.builtin id, .ref x]}}) (ac k u) (ac k q) ⟨rfl,rfl⟩) (λv s' hv=>?_) λa a z=>z.elim
 obtain⟨rfl,rfl⟩:=hv
 refine⟨⟨_,rfl⟩,?_⟩
 have C:(b.heap.push {cls:= .type bt,data:= .fields #[.builtin id, .ref x]}).get? b.heap.objs.size=UX {cls:= .type bt,dict:=UY,data:= .fields #[.builtin id, .ref x],slots:= #[]}:=Heap.get?_push_at rfl rfl
 have G:∀y o,F.get? y=UX o->(b.heap.push {cls:= .type bt,data:= .fields #[.builtin id, .ref x]}).get? y=UX o:=λy o e=>Vy _ (ac k e)
 have I2:Wq (b.heap.push {cls:= .type bt,data:= .fields #[.builtin id, .ref x]}) x ox D od:=⟨G _ _ q.at_,q.cls,q.no,by have:=q.dict;cases k:ox.dict<;>cases r:od<;>rw[k,r] at this<;>first|trivial|exact this.elim|exact G _ _ this⟩
 dsimp only[Y3]
 refine U1 (Vq (de rfl (U5 ?_)))
 refine U1 (VM (U1 (vN C p ?_)))
 refine(?_:Vh _ _ (call (.ref b.heap.objs.size) [] [] >>= _) _ _ _)
 refine U1 (Xs (Ae C p V he (λQ hQ=>hc {b with heap:=b.heap.push {cls:= .type bt,data:= .fields #[.builtin id, .ref x]}} Q _ (u.keeps G) I2 hQ) ?_))
 refine VH (h {b with heap:=b.heap.push {cls:= .type bt,data:= .fields #[.builtin id, .ref x]}} (λy o e=>G y o (i y o e)) r e3 e4) (λj s' z=>?_) λa a z=>z
 rcases j with (_|_|_|v)|_<;>first|exact z.elim|skip
 exact U1 (Vq (wpAny_point (U5 z)))
end
end
section
section
variable {x:U8} {n:Nat}
theorem Fj (f:s.heap.get? x=UX ox) (hd:ox.data= .seq items n) (h:Q (.int items.size s.toks) {s with toks:=s.toks+1}):
  Vh (Vi J w) A (Builtin.«list.__len__» ⟨[.ref x],[]⟩) (λa s'=>match a with| .done (.ret v)=>Q v s'|_=>False) E s:=by
 obtain⟨i,g,d,t,os⟩:=s
 obtain⟨j,b,c,e⟩:=ox
 dsimp only at hd
 subst hd
 unfold Builtin.«list.__len__»
 wp_walk
 exact h
theorem Fk {v:U4} (f:s.heap.get? x=UX ox) (hd:ox.data= .seq items n) (b:items[items.size - 1]?=UX v) (hz:items.size<=1000)
  (h:Q v {s with heap:=s.heap.update x (Xl (·.eraseIdxIfInBounds (items.size - 1)))}):
  Vh (Vi J w) A (Builtin.«list.pop» ⟨[.ref x],[]⟩) (λc s'=>match c with| .done (.ret v)=>Q v s'|_=>False) E s:=by
 unfold Builtin.«list.pop»
 have a:0 < items.size:=by
  refine(YN 0 items.size).elim (λh=>?_) λh=>?_
  ·exact h
  ·rw[Array.getElem?_eq_none (by exact U3 h (Wr _ _))] at b;exact nn b
 have e:(items.eraseIdxIfInBounds (items.size - 1)).size<=Vb+1:=by
  have:(items.eraseIdxIfInBounds (items.size - 1)).size<=items.size:=by
   unfold Yr;split
   ·rw[Array.size_eraseIdx];exact XK _ _
   ·exact Vt _
  refine(VO).symm▸ ?_;exact U3 (U3 this hz) (by decide)
 have j:items.isEmpty=U0:=by unfold Array.isEmpty;exact decide_eq_false (YP a)
 have k:ZS (-1) items.size=UX (items.size - 1):=by have:=jZ (i:=Zd 0) (n:=items.size) (show 0+1<=items.size/\0 < 2^62 from⟨a,by decide⟩);refine ac (show(-1:Int)=Zd 0 from rfl) (ac this ?_);rfl
 obtain⟨l,g,d,t,os⟩:=s
 wp_walk
 refine(hd).symm▸(U5 (U5 ?_))
 simp -iota only[j,k,b,Wg,abw,Xk,if_false]
 refine U1 ?_
 unfold Zx
 refine ZJ f hd ?_ (hz:=iO hz rfl) (_hz':=e)
 exact U5 h
theorem Cq (c:s.heap.get? x=UX ox) (hd:ox.data= .seq items n) (hz:items.size<=1000)
  (h:Q .none {s with heap:=s.heap.update x (Xl λa=> #[])}):
  Vh (Vi J w) A (Builtin.«list.__init__» ⟨[.ref x],[]⟩) (λb s'=>match b with| .done (.ret v)=>Q v s'|_=>False) E s:=by
 unfold Builtin.«list.__init__»
 obtain⟨e,g,d,t,os⟩:=s
 refine U1 (gU c hd (U1 ?_))
 unfold Zx
 refine ZJ c hd ?_ (hz:=iO hz rfl) (_hz':=by refine(VO).symm▸ ?_;simp)
 exact U1 (wpAny_letGo (U5 h))
end
end
section
section
variable {K:Frag} {x D:U8} 
theorem qF {id:String} {Q:Unit->U9->Prop} (d:WC id=UX .slot) (c:Z1 id ⟨[.ref x],[]⟩) (h:Q () s):Vh (Vi J w) A (Za id ⟨[.ref x],[]⟩) Q E s:=by
 unfold Za;induction a:aax id with
 |none=>exact U5 h
 |some b=>dsimp only;refine ac d ?_;simp only[Z1,a] at c;refine(?_:Vh _ _ (aaG id b ⟨[.ref x],[]⟩) _ _ _);refine ac (c:aaG id b ⟨[.ref x],[]⟩=pure ()) ?_;exact U5 h
theorem Fm:WC "list.pop"=UX .method:=by decide+kernel
theorem Cr {Q:Unit->U9->Prop} (X:K.In s.heap) (I:Wq s.heap x ox D od) (k:mroIn K D (.type "module")=UX U0) (l:typeIn K (.ref D)=UX (.type "type")) {cd:adx} (f:clsIn K D=UX cd) (h:Q () s):
  Vh (Vi J w) A (Za "list.pop" ⟨[.ref x],[]⟩) Q E s:=by
 obtain⟨b,g,d,t,os⟩:=s
 have v:Looks (Vi J w) b (Yt (.ref x) (.type "module")) U0:=I.type.andThen (looks_mroIn X k)
 have y:Looks (Vi J w) b (isType (.ref x)) U0:=by refine(Looks.ld (part:=UY) (I.at_)).andThen ?_;obtain⟨z,m,i,n⟩:=ox;cases i<;>first|exact .now|cases (I.no)
 have B:Looks (Vi J w) b (aao (.ref x)) (.ref D):=I.type
 have C:Looks (Vi J w) b (classData D) cd:=looks_clsIn X f
 have F:Looks (Vi J w) b (aao (.ref D)) (.type "type"):=looks_typeIn X l
 unfold Za
 have c:∀a:String,(toString a++toString "."++toString (ac6 "list.pop")!="*")=UZ:=λa=>by
  rw[bne_iff_ne];intro e;have j:(toString a++toString "."++toString (ac6 "list.pop")).length=("*":String).length:=congrArg String.length e;have o:ac6 "list.pop"="pop":=by rfl'
  simp only[o] at j;have p:("*":String).length=1:=by decide
  have q:(toString ".":String).length=1:=by decide
  have r:(toString "pop":String).length=3:=by decide
  simp only[acJ,acJ,p,q,r] at j;lia
 refine ac (by rfl':aax "list.pop"=UX ⟨.positional,"list.pop","pop", .self,[⟨"index", .posOnly,U0⟩]⟩) ?_
 dsimp only
 refine ac Fm ?_
 dsimp only
 have u:Manifest.varargsMethods.contains "list.pop"=U0:=by decide+kernel
 repeat (first|refine dQ u ?_|refine dQ rfl ?_|lk)
 refine ac (if_pos (c _)) (U5 (U1 ?_))
 refine(?_:Vh _ _ (Bind.printed "pop" U0 _ _) _ _ _)
 unfold Bind.printed
 refine qt rfl (U5 (X5 ?_))
 exact XS (a:=()) rfl h
end
end
end
section
open PySem.W (Frag findIn typeIn clsIn lookIn shadowIn handedIn findObj notCls mroIn nsIn)
section
def a8 (c:Cx) (A:Vm) (code:Code) (fz:Ve) (U:List U8) (m:M α) (t:Xj β) (R:bJ α β):Prop:=
 ∀S a S' p,m S=UX (a,S',p)->ao p->∀fz' ρ' s Q,Le fz fz'->U <+:ρ'->SR c fz' ρ' S.H s->dc c fz' ρ' S'.H R a Q->_root_.PySem.wpAt (Vi c.prog c.w) A code t Q bE s
section
theorem ae.toAt (h:ae c A fz U m t R):a8 c A code fz U m t R:=λS a d p e f b ρ' s Q k q g y=>_root_.PySem.wpAt_of_wpAny (h S a d p e f b ρ' s Q k q g y)
theorem a8.run (h:∀S K,(∀a S' p,(ao p->∀fz' ρ' s Q,Le fz fz'->U <+:ρ'->SR c fz' ρ' S.H s->dc c fz' ρ' S'.H R a Q->_root_.PySem.wpAt (Vi c.prog c.w) A code t Q bE s)->K a S' p)->OK (m S) K):a8 c A code fz U m t R:=λS a S' p e=>by have:=h S _ λb b b x=>x;rw[e] at this;exact this
theorem a8.ret {a:α} {x:β} (h:∀fz' ρ',Le fz fz'->U <+:ρ'->R fz' ρ' a x):a8 c A code fz U (ret a) (pure x) R:=(ae.ret h).toAt
end
structure te (KK:List (U8×Xi)) (f:U8) (fd:Vx) (T:FT) (cc:U8):Prop where
 obj:∃fo,(f,fo)∈KK/\fo.data= .func fd
 body:fd.body= .stmts T.body
 scope:fd.scope=T.scope
 clo:fd.closure=[(("__class__":Vd),cc)]
 code:∀h,bv KK h->h.CodeRec fd.code fd.qualname
 glob:fd.globals=mainGlobals
 bu:fd.builtins=builtinsNs
 cn:T.cn=[]
 nc:∀x∈T.scope.names,x.2≠ .cell
 kinds:∀x∈T.params,T.scope.names.lookup x=UX .local
 co:T.scope.isCoroutine=U0
 gen:T.scope.isGenerator=U0
 kind:T.scope.kind= .function
 trim:T.trim=UY
structure Fn (Z:Yk) (fd:Vx) (f:U8) (T:FT):Prop where
 func:Z.func=UX f
 code:Z.code=fd.code
 cells:Z.cells=fd.closure
 glob:Z.globals=mainGlobals
 bu:Z.builtins=builtinsNs
 scope:Z.scope=T.scope
def gV (T:FT) (m:Nat->M Fl) (vs:List V):M V:=bnd (kE T (T.params.zip vs)) λL=>bnd (m L) λf=>match f with
  | .ret v=>ret v
  | .next=>ret .none
  |_=>fail
noncomputable def l9 (T:FT) (glob:List (Vd×GV)) (L:Nat):Ec:={names:=T.scope.names,cells:=[],fid:=L,glob:=glob}
set_option backward.match.sparseCases true in
theorem rP {m:Nat->M Fl} 
  (F:te c.KK f fd T cc) (t:eC c.KK glob) (E:∀h,bv c.KK h->h.NoLimit) (hA:A.depth < Wv) (a5:vs.length=T.params.length) (z:∀s:U9,bv c.KK s.heap->Yg s fd ⟨xs,[]⟩ (T.params.zip xs))
  (H:∀L Z fz' ρ',Le fz fz'->U <+:ρ'->Fn Z fd f T->aI c (l9 T glob L) Z ρ'->a8 c (A.deeper Z) (.func T.body Z) fz' ρ' (m L) (aah T.body Z) FR)
  (hx:av fz U vs xs):eS c A fz U (gV T m vs) (.call (.ref f) ⟨xs,[]⟩):=by
 intro S v S' p e G fz' ρ' s R k q I y
 unfold gV at e
 refine ez (bA e) λL S1 p1 q1 J g1 B=>?_
 subst B
 refine ez (bA g1) λfl S2 p2 q2 V W B=>?_
 subst B
 obtain⟨_,G⟩:=af.mp G
 obtain⟨X,a7⟩:=af.mp G
 unfold kE at J
 rw[F.cn] at J
 cases J
 refine aj F.obj λfo Y a0=>?_
 have l:bv c.KK s.heap:=λp G=>I.hr.fzle _ _ (I.hr.wd p G)
 have r:∀y∈T.params.zip xs,y.1∈T.params:=λy hy=>(aal hy).1
 refine ks_codeAny_call_defAt (binds:=T.params.zip xs) hA (l _ Y) a0 (E _ l) (F.code _ l) F.body (z s l) (ac F.scope F.nc)
  (λy hy=>(F.scope).symm▸(F.kinds y.1 (r y hy))) (λK a1 C=>?_) (ac F.scope F.co) (ac F.scope F.gen) (ac F.scope F.kind)
 generalize g:callEnv fd s.heap.objs.size f=Z at*
 have d:Z.scope=T.scope:=aD g (aD F.scope rfl)
 have a2:=hx.mono k q
 have j:Z.scope.names=T.scope.names:=ac d rfl
 have N:∀x∈T.params.zip xs,Z.kindOf x.1=UX .local:=λx a3=>by refine(?_:Z.scope.names.lookup x.1=_);refine(d).symm▸ ?_;exact F.kinds _ (r x a3)
 have a4:=I.hr.exts (k:=C) [s.heap.objs.size] [.frame (jD T.scope.names (T.params.zip vs) [])] rfl (by simp) (λa O=>by
   rw[ZG] at O;refine(O).symm▸ ?_;exact Vt _) (λi a o O ho=>by
   induction i with
   |zero=>
    cases O;cases ho;refine jg a1 λob es ep d1 d2 d3 d4=>⟨rfl,ob,d1,_,(cY es ep d2 d3 d4),λy=>?_⟩
    have:=(nG j [] (λb=>UY) a2 (λb=>trivial) y (ps:=T.params)).mono (Le.refl _) (Vp ρ' [s.heap.objs.size]);rw[s0 _ N,Option.or_none] at this;exact this
   |succ i=>cases O)
 have pp:ρ' <+:ρ'++[s.heap.objs.size]:=Vp _ _
 have eo:aI c (l9 T glob S.H.length) Z (ρ'++[s.heap.objs.size]):=
  {kind:=(d).symm▸F.kind
   names:=j
   glob:=λx v hv h hk=>by have J:Z.globals=mainGlobals:=(g)▸F.glob;have V:Z.builtins=builtinsNs:=(g)▸F.bu;refine ac J (ac V ?_);exact t x v hv h hk
   loc:=by refine(((g)▸rfl:Z.locals=s.heap.objs.size)).symm▸ ?_;exact bj I.hr.len.symm
   cells:=λx n hn=>nomatch hn
   trim:=λb h=>(nomatch h)}
 have es:Fn Z fd f T:=by exact(g)▸⟨rfl,rfl,rfl,F.glob,F.bu,(F.scope)▸rfl⟩
 have D:=H S.H.length Z fz' _ k (q.trans pp) es eo _ fl S2 p2 V X fz' _ {s with heap:=K,toks:=s.toks+(T.params.zip xs).length} (λf s'=>R (.ok (.ret (match f with| .ret v=>v|_=> .none))) s') (Le.refl _) (U6 _) (I.ta a4) λf2 r2 s2 w k2 P Q hw=>by
  induction fl with
  |next=>
   cases w<;>first|exact hw.elim|skip
   cases W;exact y f2 r2 s2 .none k2 (pp.trans P) Q .none
  |ret u=>
   cases w<;>first|exact hw.elim|skip
   cases W;exact y f2 r2 s2 _ k2 (pp.trans P) Q hw
  |_=>cases W
 exact _root_.PySem.wpAt_mono D (λb b h=>h) λb b h=>h.elim
inductive SK where
 |len|pop|init
noncomputable def t6:List V->V
 |[]=> .none
 |[a]=>a
 |_::r=>t6 r
noncomputable def Ry (k:SK) (i:Nat) (D:U8) (d:Nat) (xs:List V):M V:=λS=>match k with
 | .len=>UX (.int xs.length,S,[xs.length<=1000])
 | .pop=>UX (t6 xs,⟨S.H.set i (.inst D d (UX xs.dropLast)),S.orc⟩,[0 < xs.length/\xs.length<=1000])
 | .init=>UX (.none,⟨S.H.set i (.inst D d (UX [])),S.orc⟩,[xs.length<=1000])
def Af (k:SK) (D:U8) (C:Ec):M V:=getO qB C.fid λl=>cU (lk ("self":Vd) l) λv=>asR v λi=>getO Fd i λr=>bX (VC r.1 D) (getO nJ r.2.1 λa=>Ry k i D r.2.1 r.2.2)
noncomputable def SK.name:SK->Vd
 | .len=>"__len__"
 | .pop=>"pop"
 | .init=>"__init__"
noncomputable def SK.id:SK->String
 | .len=>"list.__len__"
 | .pop=>"list.pop"
 | .init=>"list.__init__"
theorem av.snocI {v:List V} {u:V} {x:List U4} (h:av g U (v++[u]) x):∃y z,x=y++[z]/\av g U v y/\VR g U u z:=by
 induction v generalizing x with
 |nil=>exact aj h.i1 λz e c=>⟨[],z,e, .nil,c⟩
 |cons a v d=>exact cy h.ic λb r e f i=>cy (d i) λy z j k l=>(cY (b::y) z (e.trans (congrArg (b::·) j)) (.cons f k) l)
theorem Ag (u:V) (v:List V):t6 (v++[u])=u:=by
 induction v with
 |nil=>rfl
 |cons a v c=>induction v with
  |nil=>rfl
  |cons b v=>exact c
theorem av.last {v:List V} {x:List U4} (h:av g U v x) (a:0 < v.length):∃z,x[x.length - 1]?=UX z/\VR g U (t6 v) z/\av g U v.dropLast x.dropLast:=by
 rw[<-Zo (List.ne_nil_of_length_pos a)] at h ⊢;refine cy h.snocI λy z e b c=>(ac e ?_)
 rw[Ag,ac7,ac7];refine ac Va ?_;exact(cE z (bj rfl) c b)
structure mJ (J:VB) (K:Frag) (f:U8) (fd:Vx) (D cc:U8):Prop where
 s:Fh J K f fd D cc
 c:bV K D UZ
 m:mroIn K D (.type "module")=UX U0
 t:typeIn K (.ref D)=UX (.type "type")
 a:∀k:SK,PySem.W.alongIn K k.name [.type "list", .type "object"]=UX (UX (.builtin k.id))
def kI (KK:List (U8×Xi)):Prop:=∀h,bv KK h->∃mg a,h.Ns mainGlobals mg/\mg "super"=UY/\h.Ns builtinsNs a/\a "super"=UX (.type "super")
section
structure Fo (c:Cx) (D:U8) (Z:Yk) (fz:Ve) (U:List U8) (i d:Nat) (xs:List V) (s:U9) (m:Vd->Option U4) (x da:U8) (es:List Wi) (nn:Nat) (vs:List U4) (n:Nat):Prop where
 hn:s.heap.Ns Z.locals m
 hms:m "self"=UX (.ref x)
 hx:U[i]?=UX x
 g2:s.heap.get? x=UX {cls:= .ref D,dict:=UX da,data:= .seq vs.toArray n,slots:= #[]}
 g5:U[d]?=UX da
 g6:av fz U xs vs
 w1:s.heap.get? da=UX (cK es nn)
 xD:x≠D
theorem Fo.I {D:U8} {d:Nat} {xs:List V} {m:Vd->Option U4} {x:U8} {es:List Wi} {nn:Nat} {vs:List U4} {n:Nat} (X:Fo c D Z fz U i d xs s m x da es nn vs n):Wq s.heap x {cls:= .ref D,dict:=UX da,data:= .seq vs.toArray n,slots:= #[]} D (UX (cK es nn)):=⟨X.g2,rfl,rfl,X.w1⟩
theorem SR.lk (x:SR c fz U H s) {o:Xi} (e:c.KK.lookup a=UX o):fz.get? a=UX o:=by
 have:∀{K:List (U8×Xi)},K.lookup a=UX o->(a,o)∈K:=λ{K}=>by
  induction K with
  |nil=>exact λh=>nn h
  |cons p r d=>
   intro h;rw[Xe] at h;induction b:a==p.1 with
   |true=>rw[b] at h;exact ac (beq_iff_eq.mp b) (aD (U2 h) (.head _))
   |false=>rw[b] at h;exact .tail _ (d h)
 exact x.hr.wd _ (this e)
theorem vO {D:U8} {l des:List (Vd×V)} {d:Nat} {xs:List V} (p:aI c C Z U) (h1:H[C.fid]?=UX (.frame l)) (h2:lk ("self":Vd) l=UX (.ref i)) (j:H[i]?=UX (.inst D d (UX xs))) (q:H[d]?=UX (.dict des)) (r:∃o,c.KK.lookup D=UX o) (b:SR c fz U H s):
  ∃m x da es nn vs n,Fo c D Z fz U i d xs s m x da es nn vs n:=
 aj (gv b h1 p.loc) λm t u=>aj (d6.i_some (aD h2 (u ("self":Vd)))) λz f v=>aj v.i_ref λx e g=>aj (b.hr.at j rfl g) λE w h=>aj h λda k h=>aG h λvs n y A=>aG (ju b q k) λes nn w1 a=>
  ⟨m,x,da,es,nn,vs,n,t,f.trans (congrArg UX e),g,y▸w,k,A,w1,λe=>r.elim λo B=>Mine.Internal.nn ((b.hr.fne j rfl g).symm.trans (ac e (b.lk B)))⟩
theorem rQ {D:U8} {L:Nat} {k:SK} (h:mJ c.prog c.KK f fd D cc) (P:kI c.KK) (F:te c.KK f fd T cc)
  (es:Fn Z fd f T) (Y:aI c (l9 T glob L) Z U) (R:T.scope.names.lookup ("super":Vd)=UX .globalImplicit) (V:T.scope.names.lookup ("__class__":Vd)=UX .free) (g:T.scope.names.lookup ("self":Vd)=UX .local)
  (W:Ws (.Call (.Attribute (.Call (.Name "super" p0) [] [] p1) k.name ap) [] [] pos) Z=(do
    let ov <-Zv (.Call (.Name "super" p0) [] [] p1) k.name Z (Ws (.Call (.Name "super" p0) [] [] p1) Z)
    WM ap.atName
    let(f,first) <-WD [ov] (W3 ov k.name pl)
    Y3 pos f first (XW pos (WQ [] Z)) [])):
  a8 c A (.func body Z) fz U (Af k D (l9 T glob L)) (Ws (.Call (.Attribute (.Call (.Name "super" p0) [] [] p1) k.name ap) [] [] pos) Z) au:=by
 refine a8.run λS K hK=>OK.getO λo l h1 g1=>OK.opt λv h2=>OK.asR λi e=>OK.getO λo' r N g3=>OK.when λh4=>OK.getO λa2 a3 h5 g5=>?_
 have hD:∃o,c.KK.lookup D=UX o:=aG h.s.cls λoD cd d1 d2=>⟨oD,d1⟩
 have h4:=VK h4
 have h1:=h1.trans (congrArg UX (mI g1))
 have N:=N.trans (congrArg UX (yG g3))
 have h5:=h5.trans (congrArg UX (jG g5))
 rw[e] at h2
 rw[h4] at N
 have b:∀n',Z.kindOf n'=T.scope.names.lookup n':=λn'=>by show Z.scope.names.lookup n'=_;rw[es.scope]
 have j:∀k:SK,(k.name==("__class__":Vd))=U0:=λk=>by cases k<;>decide
 have u:Z.cells.lookup ("__class__":Vd)=UX cc:=by refine ac es.cells (ac F.clo ?_);simp
 clear g1 g3 g5
 induction k with
 |len=>
  refine hK _ _ _ λw M ρ' s Q kk q d y=>uM (vO (Y.at q) h1 h2 N h5 hD d) λm x da a0 nn vs n X=>(ye (P _ λp w=>d.hr.fzle _ _ (d.hr.wd p w)) λmg mb m1 m2 m3 m4=>?_)
  refine pg (B:=Builtin.«list.__len__») (bt:="method-wrapper") (gt:="wrapper_descriptor.__get__") (tg:="wrapper_descriptor") (id:="list.__len__") h.s d.inK h.c Y.kind ((b _).trans R) ((b _).trans V) ((b _).trans g)
   es.func es.code u (ac es.glob m1) m2 (ac es.bu m3) m4 X.hn X.hms X.I X.xD (j .len) (h.a .len) vK lw.lookup (λJ Q X I C=>vM (.inl rfl) X I h.c rfl C) (.inr rfl) (by decide+kernel) PySem.F.entry_list_len
   (λJ Q E X I C=>qF (by decide+kernel) (PySem.args_list_len _) C) W λJ i1 i2 i3 i4=>Fj (i1 _ _ X.g2) rfl (y.at ⟨d.hr.le i1,i3.trans d.os,i2.symm▸d.bare,U3 d.tk (abn i4)⟩ ?_)
  refine ac VJ (ac X.g6.length ?_);exact .int _ _
 |pop=>
  refine hK _ _ _ λw M ρ' s Q kk q d y=>uM (vO (Y.at q) h1 h2 N h5 hD d) λm x da a0 nn vs n X=>(ye (P _ λp w=>d.hr.fzle _ _ (d.hr.wd p w)) λmg mb m1 m2 m3 m4=>?_)
  refine ca (X.g6.last w.1.1) λz z1 z2 z3=>ca h.c.cd λcd k1 k2 k3=>?_;have O:=X.g6.length;refine pg (B:=Builtin.«list.pop») (bt:="builtin_function_or_method") (gt:="method_descriptor.__get__") (tg:="method_descriptor") (id:="list.pop") h.s d.inK h.c Y.kind ((b _).trans R) ((b _).trans V) ((b _).trans g)
   es.func es.code u (ac es.glob m1) m2 (ac es.bu m3) m4 X.hn X.hms X.I X.xD (j .pop) (h.a .pop) vJ qE.lookup (λJ Q X I C=>J6 X I h.c rfl C) (.inl rfl) (by decide+kernel) ach
   (λJ Q E X I C=>Cr X I h.m h.t k1 C) W λJ i1 i2 i3 i4=>?_
  refine Fk (v:=z) (i1 _ _ X.g2) rfl ((Wj).trans z1) (O.symm▸w.1.2:vs.length<=_) ?_;have he:(vs.toArray.eraseIdxIfInBounds (vs.toArray.size - 1))=vs.dropLast.toArray:=by have a1:vs.length - 1 < vs.length:=Yz (ac O w.1.1) YE;simp only[Yr,VJ,acQ,a1,dif_pos,qx]
  have G:SR c M ρ' S.H J:=⟨d.hr.le i1,i3.trans d.os,i2.symm▸d.bare,U3 d.tk i4⟩
  exact y.at (G.tz (G.hr.upd N rfl X.hx (VT ..) (Xn _ (i1 _ _ X.g2) rfl) ⟨da,X.g5,vs.dropLast,_,by simp only[Xl,he];rfl,z3⟩)) z2
 |init=>
  refine hK _ _ _ λw M ρ' s Q kk q d y=>uM (vO (Y.at q) h1 h2 N h5 hD d) λm x da a0 nn vs n X=>(ye (P _ λp w=>d.hr.fzle _ _ (d.hr.wd p w)) λmg mb m1 m2 m3 m4=>?_)
  refine pg (B:=Builtin.«list.__init__») (bt:="method-wrapper") (gt:="wrapper_descriptor.__get__") (tg:="wrapper_descriptor") (id:="list.__init__") h.s d.inK h.c Y.kind ((b _).trans R) ((b _).trans V) ((b _).trans g)
   es.func es.code u (ac es.glob m1) m2 (ac es.bu m3) m4 X.hn X.hms X.I X.xD (j .init) (h.a .init) tc lw.lookup (λJ Q X I C=>vM (.inr rfl) X I h.c rfl C) (.inr rfl) (by decide+kernel) PySem.F.entry_list_init
   (λJ Q E X I C=>qF (by decide+kernel) (by unfold Z1;rfl') C) W λJ i1 i2 i3 i4=>Cq (i1 _ _ X.g2) rfl (X.g6.length.symm▸w.1:vs.length<=_) ?_
  have G:SR c M ρ' S.H J:=⟨d.hr.le i1,i3.trans d.os,i2.symm▸d.bare,U3 d.tk i4⟩
  exact y.at (G.tz (G.hr.upd N rfl X.hx (VT ..) (Xn _ (i1 _ _ X.g2) rfl) ⟨da,X.g5,[],_,by simp only[Xl];rfl, .nil⟩)) .none
end
end
section
def Fp (m:M V):M Fl:=bnd m λv=>ret (Fl.ret v)
def Mp (m:M V):M Fl:=bnd m λa=>ret Fl.next
def nM (m m2:M Fl):M Fl:=bnd m λf=>match f with
 | .next=>m2
 |y=>ret y
def Q6 (m:M Bool) (m1 m2:M Fl):M Fl:=bnd m λb=>bnd (dec b) λd=>match d with
 |true=>m1
 |false=>m2
section
theorem a8.cons {m m2:M Fl} {rest:List V4} (h1:a8 c A code fz U m (aaW st Z) FR) (h2:∀fz' ρ',Le fz fz'->U <+:ρ'->a8 c A code fz' ρ' m2 (aah rest Z) FR):
  a8 c A code fz U (nM m m2) (aah (st::rest) Z) FR:=by
 intro S b J q e u fz' ρ' s Q o p x y
 refine ez (bA e) λa t B C e1 e2 k=>?_
 subst k
 obtain⟨l,n⟩:=af.mp u
 refine ks_wpAt_execs_cons (h1 S a t B e1 l fz' ρ' s _ o p x λd f i z g h j r=>?_)
 induction a with
 |next=>
  cases z<;>first|exact r.elim|skip
  exact h2 d f (o.trans g) (p.trans h) t b _ C e2 n d f i Q (Le.refl _) (U6 _) j λD E F w G H I=>y D E F w (g.trans G) (h.trans H) I
 |brk=>cases z<;>first|exact r.elim|(obtain⟨rfl,rfl,rfl⟩:=db e2;exact y d f i _ g h j r)
 |cont=>cases z<;>first|exact r.elim|(obtain⟨rfl,rfl,rfl⟩:=db e2;exact y d f i _ g h j r)
 |ret v=>cases z<;>first|exact r.elim|(obtain⟨rfl,rfl,rfl⟩:=db e2;exact y d f i _ g h j r)
theorem a8.return {m:M V} (h:a8 c A code fz U m (Ws e Z) au):a8 c A code fz U (Fp m) (aaW (.Return (UX e) pos) Z) FR:=by intro S b D q e n i ρ' s Q o p x y;refine ez (bA e) λa E t F e1 e2 d=>?_;subst d;obtain⟨j,u⟩:=af.mp n;refine b9 (db e2) λd k l=>?_;subst d;subst k;subst l;exact ks_wpAt_Return_some (h S a _ t e1 j i ρ' s _ o p x λf g v z w B C r=>y f g v _ w B C r)
theorem a8.expr {m:M V} (hi:Yp Z=U0) (hs:swapsWith e UY pos.line Z=pure U0) (h:a8 c A code fz U m (Ws e Z) au):a8 c A code fz U (Mp m) (aaW (.Expr e pos) Z) FR:=by intro S b D q e n i ρ' s Q o p x y;refine ez (bA e) λa E t F e1 e2 d=>?_;subst d;obtain⟨j,u⟩:=af.mp n;refine b9 (db e2) λd k l=>?_;subst d;subst k;subst l;exact ks_wpAt_Expr_any (h S a _ t e1 j i ρ' s _ o p x λf g v z w B C r=>y f g v _ w B C trivial) hi hs
theorem a8.if {m:M Bool} {m1 m2:M Fl} {t:Vv} {b1 b2:List V4} (h:a8 c A code fz U m (aa6 t Z (Ws t Z)) gP) (h1:∀fz' ρ',Le fz fz'->U <+:ρ'->a8 c A code fz' ρ' m1 (aah b1 Z) FR)
  (h2:∀fz' ρ',Le fz fz'->U <+:ρ'->a8 c A code fz' ρ' m2 (aah b2 Z) FR):a8 c A code fz U (Q6 m m1 m2) (aaW (.If t b1 b2 pos) Z) FR:=by
 intro S b W q e N fz' ρ' s Q o p x y
 refine ez (bA e) λa O P X e1 e2 i=>?_
 subst i
 obtain⟨u,v⟩:=af.mp N
 refine ez (bA e2) λd I k J e3 K i=>?_
 subst i
 obtain⟨B,j⟩:=af.mp v
 obtain⟨R,T⟩:=u8 e3 B
 subst R
 refine ks_wpAt_If (h S a O P e1 u fz' ρ' s _ o p x λf g L z l n C r=>?_)
 have V:a=z:=r
 subst V
 rw[<-T] at C
 induction a with
 |true=>exact h1 f g (o.trans l) (p.trans n) I b _ J K j f g L Q (Le.refl _) (U6 _) C λD E F w G k H=>y D E F w (l.trans G) (n.trans k) H
 |false=>exact h2 f g (o.trans l) (p.trans n) I b _ J K j f g L Q (Le.refl _) (U6 _) C λD E F w G k H=>y D E F w (l.trans G) (n.trans k) H
theorem a8.nil:a8 c A code fz U (Mine.Internal.ret Fl.next) (aah [] Z) FR:=a8.ret λa a a a=>trivial
end
abbrev mK (k:SK) (p0 p1 ap pos:XQ):Vv:= .Call (.Attribute (.Call (.Name "super" p0) [] [] p1) k.name ap) [] [] pos
structure Ah (T:FT):Prop where
 ks:T.scope.names.lookup ("super":Vd)=UX .globalImplicit
 kc:T.scope.names.lookup ("__class__":Vd)=UX .free
 kself:T.scope.names.lookup ("self":Vd)=UX .local
def Ai (T:FT) (k:SK) (p0 p1 ap pos:XQ):Prop:=∀Z:Yk,Z.scope=T.scope->∃pl,Ws (mK k p0 p1 ap pos) Z=(do
    let a <-Zv (.Call (.Name "super" p0) [] [] p1) k.name Z (Ws (.Call (.Name "super" p0) [] [] p1) Z)
    WM ap.atName
    let(f,first) <-WD [a] (W3 a k.name pl)
    Y3 pos f first (XW pos (WQ [] Z)) [])
section
variable {D:U8} {pos2 pos3:XQ} 
def vP (D:U8) (T:FT) (glob:List (Vd×GV)) (L:Nat):M Fl:=nM (Fp (Af .len D (l9 T glob L))) (ret .next)
theorem Aj (m:mJ c.prog c.KK f fd D cc) (i:kI c.KK) (F:te c.KK f fd T cc) (ST:Ah T) (n:Ai T .len p0 p1 ap pos) (o:T.body=[.Return (UX (mK .len p0 p1 ap pos)) pos2])
  (b:eC c.KK glob) (e:∀h,bv c.KK h->h.NoLimit) (p:A.depth < Wv) (g:vs.length=T.params.length) (d:∀s:U9,bv c.KK s.heap->Yg s fd ⟨xs,[]⟩ (T.params.zip xs)) (r:av fz U vs xs):
  eS c A fz U (gV T (vP D T glob) vs) (.call (.ref f) ⟨xs,[]⟩):=by
 refine rP F b e p g d (λL Z t ρ' k q l u=>?_) r
 refine bI (n Z l.scope) λv j=>(ac o ?_)
 exact a8.cons (a8.return (rQ m i F l u ST.ks ST.kc ST.kself j)) λa a a a=>a8.nil
def Mq (D:U8) (T:FT) (glob:List (Vd×GV)) (G:Ec->bP) (t:Vv) (b:List V4) (L:Nat):M Fl:=
 nM (Q6 ((G (l9 T glob L)).tr t) ((G (l9 T glob L)).exs b) (ret .next)) (nM (Fp (Af .pop D (l9 T glob L))) (ret .next))
theorem Cs {t:Vv} {b:List V4} (z:mJ c.prog c.KK f fd D cc) (m:kI c.KK) (F:te c.KK f fd T cc) (ST:Ah T) (B:Ai T .pop p0 p1 ap pos) (E:T.body=[.If t b [] pos3, .Return (UX (mK .pop p0 p1 ap pos)) pos2])
  (d:eC c.KK glob) (i:∀h,bv c.KK h->h.NoLimit) (H:A.depth < Wv) (r:∀C Z,bG c (A.deeper Z) C Z (G C)) (j:vs.length=T.params.length) (g:∀s:U9,bv c.KK s.heap->Yg s fd ⟨xs,[]⟩ (T.params.zip xs)) (I:av fz U vs xs):
  eS c A fz U (gV T (Mq D T glob G t b) vs) (.call (.ref f) ⟨xs,[]⟩):=by
 refine rP F d i H j g (λL Z n ρ' k q u v=>?_) I
 refine bI (B Z u.scope) λJ o=>(ac E ?_)
 have w:bM c (A.deeper Z) (l9 T glob L) Z n ρ':=⟨v,{s:=λa a a h=>(nomatch h),e:=λa a a h=>(nomatch h)}⟩
 exact a8.cons (a8.if ((r _ Z).tr _ _ w t).toAt (λx y p l=>((r _ Z).exs _ _ (w.at p l) b).toAt) λx y p l=>a8.nil) λx y p l=>(a8.cons (a8.return (rQ z m F u (v.at l) ST.ks ST.kc ST.kself o)) λa a a a=>a8.nil)
def t8 (D:U8) (T:FT) (glob:List (Vd×GV)) (G:Ec->bP) (st:V4) (L:Nat):M Fl:=
 nM ((G (l9 T glob L)).ex st) (nM (Mp (Af .init D (l9 T glob L))) (ret .next))
theorem Ak (p:mJ c.prog c.KK f fd D cc) (l:kI c.KK) (F:te c.KK f fd T cc) (ST:Ah T) (r:Ai T .init p0 p1 ap pos) (t:T.body=[st, .Expr (mK .init p0 p1 ap pos) pos2])
  (hi:∀Z:Yk,Z.scope=T.scope->Yp Z=U0) (hs:∀Z:Yk,Z.scope=T.scope->swapsWith (mK .init p0 p1 ap pos) UY pos2.line Z=pure U0)
  (b:eC c.KK glob) (g:∀h,bv c.KK h->h.NoLimit) (u:A.depth < Wv) (v:∀C Z,bG c (A.deeper Z) C Z (G C)) (i:vs.length=T.params.length) (d:∀s:U9,bv c.KK s.heap->Yg s fd ⟨xs,[]⟩ (T.params.zip xs)) (w:av fz U vs xs):
  eS c A fz U (gV T (t8 D T glob G st) vs) (.call (.ref f) ⟨xs,[]⟩):=by
 refine rP F b g u i d (λL Z m ρ' k q j o=>?_) w
 refine bI (r Z j.scope) λz n=>(ac t ?_)
 have x:bM c (A.deeper Z) (l9 T glob L) Z m ρ':=⟨o,{s:=λa a a h=>(nomatch h),e:=λa a a h=>(nomatch h)}⟩
 exact a8.cons ((v _ Z).ex _ _ x st).toAt λB E H y=>(a8.cons (a8.expr (hi Z j.scope) (hs Z j.scope) (rQ p l F j (o.at y) ST.ks ST.kc ST.kself n)) λa a a a=>a8.nil)
end
end
end
section
open PySem.W (CodeHd tabObj)
section
def qG (h:Ve) (a:U8) (items:Array U4):Prop:=∃o n,h.get? a=UX o/\o.data= .seq items n
theorem tM {l:U8} {x:U4} {Q:Option U4->U9->Prop} (a:s.heap.IsListIter it l i)
  (hl:qG s.heap l items) (f:items[i]?=UX x)
  (g:∀h',h'.IsListIter it l (i+1)->WU it s.heap h'->Q (UX x) {s with heap:=h'}):
  Vh (Vi J w) A (aaM (.ref it)) Q E s:=by
 refine ca (id a) λo c h b=>(aG hl λj k d e=>?_)
 unfold aaM
 refine U1 (Zw (YR (name:=WN "__next__") a.typeIs Z2
  (Xp Z2 a.typeIs entry_listiter_next ?_ (args_listiter_next _))))
 refine(?_:Vh _ _ (field (.ref it) 0 >>= _) _ _ s)
 refine U1 (W8 c b (x:= .ref l) rfl ?_)
 refine(?_:Vh _ _ (if(X8 l==Xh)=UZ then _ else _) _ _ s)
 refine(if_neg (show¬((X8 l==Xh)=UZ) from VV)).symm▸(?_:Vh _ _ (field (.ref it) 1 >>= _) _ _ s)
 refine U1 (W8 c b (x:= .int i 0) rfl ?_)
 refine(?_:Vh _ _ (adu (.ref l) >>= _) _ _ s)
 refine U1 (Y5 d e ?_)
 simp only[Vz,f]
 refine U1 (wpAny_setField c b (by simp) (U5 (aA x rfl (U5 (g _ ?_ (VT ..))))))
 exact⟨_,Xn _ c (ac8 (aa9 b _)),(Obj.cls_mapFields ..).trans h,by rw[aa9 b];simp[WO]⟩
theorem vQ {l:U8} {Q:Option U4->U9->Prop} (h:A.handled=UY)
  (c:s.heap.IsListIter it l i) (hl:qG s.heap l items) (j:items[i]?=UY)
  (k:∀h',X3 it s.heap h'->Q UY {s with heap:=h'}):Vh (Vi J w) A (aaM (.ref it)) Q E s:=by
 refine ca (id c) λo d n e=>(aG hl λp q f g=>?_)
 unfold aaM
 refine U1 (Zw (YR (name:=WN "__next__") c.typeIs Z2
  (Xp Z2 c.typeIs entry_listiter_next ?_ (args_listiter_next _))))
 refine(?_:Vh _ _ (field (.ref it) 0 >>= _) _ _ s)
 refine U1 (W8 d e (x:= .ref l) rfl ?_)
 refine(?_:Vh _ _ (if(X8 l==Xh)=UZ then _ else _) _ _ s)
 refine ac (if_neg (show¬((X8 l==Xh)=UZ) from VV)) (?_:Vh _ _ (field (.ref it) 1 >>= _) _ _ s)
 refine U1 (W8 d e (x:= .int i 0) rfl ?_)
 refine(?_:Vh _ _ (adu (.ref l) >>= _) _ _ s)
 refine U1 (Y5 f g ?_)
 simp only[Vz,j]
 refine U1 (abE (U1 (wpAny_setField d e (by simp) ?_)))
 refine(?_:Vh _ _ (newExc (.type "StopIteration") [] >>= _) _ _ _)
 refine U1 ?_
 simp only[newExc,newTuple]
 refine U1 (V7 ?_ (by size_fits))
 refine U1 (m:=aba _ _) (XS (a:=Xh) (by first|rfl|(simp only[aba];rfl)) ?_)
 refine V7 ?_ (by size_fits)
 dsimp only
 refine U1 (wpAny_handled ?_)
 refine ac (show A.in1.handled=UY from h) (U1 (U5 (wpAny_throw ?_)))
 refine U1 (Zt (T:="StopIteration") (b:=UZ) (aA _ (VX _ rfl) rfl) isSubtype_stop ?_)
 exact U5 (k _ (((VT ..).extBut.push _).push _))
theorem Al (G:A.handled=UY) (I g:U8) (B:g≠I) (items:Array U4) (Ts:Nat->U8) (c:Nat->Array U4)
  (C:∀j,j < items.size->items[j]?=UX (.ref (Ts j))) (q:∀j,j < items.size->Ts j≠I):
  WalksU J w A I (I::g::(Wb items.size).map Ts) [I] items.size (λj v=>j < items.size/\v=c j)
   (λj h=>h.IsListIter I g j/\qG h g items/\∀k,k < items.size->h.IsTuple (Ts k) (c k))
   (λj T h=>(j < items.size/\T=Ts j)/\h.IsListIter I g (j+1)/\qG h g items/\∀k,k < items.size->h.IsTuple (Ts k) (c k)) where
 sub:=λb p=>by simp at p;simp[p]
 frame:=λa a a st D=>⟨st.1.at λo e=>D I (by simp) o e,aG st.2.1 λo n e d=>(bL o n (D g (by simp) o e) d),
  λk f=>(st.2.2 k f).at λo e=>D (Ts k) (ac9 _ (ac9 _ (List.mem_map.mpr (aA k (List.mem_range.mpr f) rfl)))) o e⟩
 item:=λi s Q E y st l=>by refine tM st.1 st.2.1 (x:= .ref (Ts i)) (C i y) λz r m=>?_;have tup:∀k,k < items.size->z.IsTuple (Ts k) (c k):=λk f=>(st.2.2 k f).extBut m.extBut (q k f);exact aG st.2.1 λo n e d=>(l (Ts i) (c i) z s.toks ⟨y,rfl⟩ (tup i y) ⟨⟨y,rfl⟩,r,(bL o n (m.extBut _ _ B e) d),tup⟩ λb o p e=>m.extBut b o (λh=>p (by simp[h])) e)
 go:=λa a a a a s Q a t l=>wpAny_letOwnedTupleGo_listiter t.2.1 (l s.heap t.2 λa a a e=>e)
 apart:=λj T a t u=>by
  refine(List.mem_cons.mp u).elim (λe=>?_) λe=>?_
  ·exact q j t.1.1 (t.1.2▸e)
  ·cases e
 done:=λs Q E st l=>vQ G st.1 st.2.1 (by simp) λz F=>l z s.toks λb o p e=>F b o (λh=>p (by simp[h])) e
 self:=λa a a a st l=>aaX st.1 l
theorem tN {M:Zz} {c P:U8} {ps:Array U4} {qualname:Vd} (R:Z.code= .ref c) (C:CodeHd s.heap c P) (w:s.heap.get? P=UX (tabObj ps)) (S:TriplesOk ps.toList)
  (p:∀cv,Zr pos ps.toList=UX cv->Q cv s)
  (l:Zr pos ps.toList=UY->∀c' h' tk,s.toks<=tk->X3 P s.heap h'->s.heap.objs.size<=c'->h'.CodeRec (.ref c') qualname->h'.get? P=UX (tabObj (ps++ #[WO pos.line,WO pos.col, .ref c']))->Q (.ref c') {s with heap:=h',toks:=tk}):
  Vh M A (genexprCode Z pos qualname scope) Q E s:=by
 refine bI (C.code w S) λo y=>?_
 obtain⟨vs,J,tf,z,tg,T,K,tt,op,U,V,B,W,X,Y,D,f,g,F,a0⟩:=y
 unfold genexprCode codeAt
 refine ac R (ac (if_neg (show¬((X8 c==Xh)=UZ) from VV)) ?_)
 refine U1 (acS U V ?_)
 refine ac B (U1 (acS f g ?_))
 induction d:Zr pos ps.toList with
 |some cv=>exact U5 (p cv d)
 |none=>
  refine ac W (ac X (ac Y (ac D ?_)));refine U1 ((λh=>ZH (Vt _) (VH h (λa a x=>x) λa a e a=>e):∀{Q:U4->U9->Prop} {s:U9} {t:Xj U4},Vh M A t (λv L=>s.toks<=L.toks->Q v L) E s->Vh M A t Q E s) (wpAny_newCode λc' P' h' tk N q a1 u m G=>?_));have i:=N _ _ f;refine U1 (wpAny_updateFieldsOfTheText i g ?_);have j:(Z3 (λvs=>if(Zr pos vs.toList).isSome=UZ then vs else vs++ #[WO pos.line,WO pos.col, .ref c']) op).data=
    .fields (ps++ #[WO pos.line,WO pos.col, .ref c']):=by
   rw[aa9 g];refine ac d ?_;rfl
  have k:=Xn (h:=h') (λo=>Z3 (λvs=>if(Zr pos vs.toList).isSome=UZ then vs else
   vs++ #[WO pos.line,WO pos.col, .ref c']) o) i (ac8 j)
  refine U1 (acS k j ?_);refine ac (by simp:(ps++ #[WO pos.line,WO pos.col,X8 c']).toList=ps.toList++[WO pos.line,WO pos.col, .ref c']) (ac (codeAmong_snoc _ F d) ?_);rw[w] at f;obtain rfl:=U2 f;have n:(h'.update P λo=>Z3 (λvs=>if(Zr pos vs.toList).isSome=UZ then vs else vs++ #[WO pos.line,WO pos.col, .ref c']) o).get? P=UX (tabObj (ps++ #[WO pos.line,WO pos.col, .ref c'])):=by refine ac k ?_;congr 1;have:ps=ps:=rfl;cases g;unfold Z3;dsimp only;refine ac d ?_;rfl
  have H:Heap.CodeRec (h'.update P λo=>Z3 (λvs=>if(Zr pos vs.toList).isSome=UZ then vs else vs++ #[WO pos.line,WO pos.col, .ref c']) o) (.ref c') qualname:=by refine ez m λc2 o2 I t2 e1 e2 r=>?_;cases e1;exact⟨_,o2,I,t2,rfl,(VT ..).extBut _ _ (YP (Vs (We w) q)) e2,r⟩
  exact U5 (l d c' _ tk G (λb O hb e=>((VT ..).extBut b O hb (N b O e))) q H n)
end
end
section
open PySem.W (CodeHd tabObj)
open PySem.W (Frag findIn looks_findIn)
section
section
def kJ (h:Ve) (Z:Yk) (x:Vd) (v:U4):Prop:=∃mg,h.Ns Z.globals mg/\(mg x=UX v∨(mg x=UY/\∃a,h.Ns Z.builtins a/\a x=UX v))
theorem iT {M:Zz} {x:Vd} {v:U4} (a:Z.scope.kind= .function) (b:Z.kindOf x=UX .globalImplicit) (c:kJ s.heap Z x v) (h:Q v s):Vh M A (abS Z x) Q E s:=by
 refine aj c λi g1 r=>?_;have d:Vh M A (loadGlobal Z x) Q E s:=by
  rcases r with r|⟨e,j,f,g⟩
  ·exact loadGlobal_global g1 r h
  ·exact abB g1 e f g h
 unfold abS;dsimp only;simp -iota only[Env.blockKind,a,b,ScopeKind.isAnnotationScope,ab7,Xk,if_false];exact d
theorem fj {x:Vd} {p:XQ} (hd:ew x=U0) (h:Vh (Vi J w) A (abS Z x) Q E s):Vh (Vi J w) A (Ws (.Name x p) Z) Q E s:=by refine ac (jX hd) ?_;exact U1 (VM h)
theorem Ct {m:Vd->Option U4} {x:Vd} {a:Vd} {t:ZP} (c:Z.scope.kind= .function) (hl:Z.kindOf "len"=UX .globalImplicit) (d:kJ s.heap Z "len" (.builtin "len"))
  (e:Z.kindOf x=UX .local) (hd:ew x=U0) (f:s.heap.Ns Z.locals m) (g:m x=UX (.str a t)) (hz:a.length < 2^62) (h:∀k u,s.toks<=u->Q (.int a.length k) {s with toks:=u}):
  Vh (Vi J w) A (Ws (.Call (.Name "len" p1) [.Name x p2] [] p3) Z) Q E s:=by
 refine ac (jY (λb b b h=>by cases h)) (U1 (fj rfl (iT c hl d ?_)))
 refine YI rfl (de rfl (XM (fj hd (WF c e f g (ZL ?_)))))
 exact abL (by lia) (h _ _ (U3 (Vo _ _) (Vo _ _)))
theorem J7 {m:Vd->Option U4} {a b:Vd} {t:ZP} {p4 p5 r v:XQ} (n:Z.scope.kind= .function) (hl:Z.kindOf "len"=UX .globalImplicit) (o:kJ s.heap Z "len" (.builtin "len"))
  (d:Z.kindOf xa=UX .local) (f:ew xa=U0) (g:Z.kindOf xb=UX .local) (h:ew xb=U0) (p:s.heap.Ns Z.locals m) (i:m xa=UX (.str a t)) (j:m xb=UX (.str b u)) (k:a.length < 2^62) (l:b.length < 2^62):
  Vh (Vi J w) A (Ws (.BinOp (.Call (.Name "len" p1) [.Name xa p2] [] p3) .Add (.Call (.Name "len" p4) [.Name xb p5] [] r) v) Z) (λy s'=>(∃t,y= .int ((a.length+b.length:Nat):Int) t)/\Keeps s s') E s:=by
 refine ac u4 (U1 (Ct n hl o d f p i k λz x B=>?_))
 refine U1 (Vq (Ct (s:={s with toks:=x}) n hl o g h p j l λC D F=>?_))
 refine U1 (VM (ix (abK ?_)))
 exact⟨⟨_,by rw[abZ]⟩,s.heap,_,rfl,λc c e=>e⟩
theorem Fq {m:Vd->Option U4} {g0:Vd} {a b:Vd} {t:ZP} {o pl:XQ} {p4 p5:XQ} {t0:ZP} (c:Z.scope.kind= .function) (hl:Z.kindOf g0=UX .globalImplicit) (d:ew g0=U0) (q:kJ s.heap Z g0 (.str Vl t0))
  (e:Z.kindOf xa=UX .local) (f:ew xa=U0) (g:Z.kindOf xb=UX .local) (h:ew xb=U0) (p:s.heap.Ns Z.locals m) (i:m xa=UX (.str a t)) (j:m xb=UX (.str b u)) (l:a.length+b.length<=16777216)
  (n:qj pl o [Expr.Tuple [.Name xa p2, .Name xb p3] k p4]=UZ):
  Vh (Vi J w) A (Ws (.Call (.Attribute (.Name g0 p1) "join" pl) [.Tuple [.Name xa p2, .Name xb p3] k p4] [] o) Z) (λy s'=>(∃t,y= .str (WA Vl [a,b]) t)/\Keeps s s') E s:=by
 refine ac (jl (by rfl) n) (U1 (fj d (iT c hl q ?_)))
 refine U1 (VM (U1 (Vq ?_)))
 refine qv (by rfl:cT ("join":Vd) j0=UX 16) (YI rfl (de rfl (XM ?_)))
 rw[arm_eval_Tuple]
 refine U1 (VM (U1 (XM (fj f (WF c e p i (XM (fj h (WF c g p j (ZL ?_)))))))))
 refine V7 ?_ (by size_fits)
 refine ZL ?_
 have r:(s.heap.push {cls:= .type "tuple",data:= .seq #[.str a t, .str b u]}).get? s.heap.objs.size=UX {cls:= .type "tuple",dict:=UY,data:= .seq #[.str a t, .str b u],slots:= #[]}:=VX _ rfl
 refine join_tuple (D:=s.heap.objs.size) (items:= #[.str a t, .str b u]) (ys:=[a,b]) ⟨_,r,rfl,_,rfl⟩ (.cons _ _ (.cons _ _ .nil)) ?_ λx z=>?_
 ·have:(Vl:Vd).length=0:=rfl;simp only[Wc,acK,acs,List.sum_nil,this,acT,Ym];exact l
 ·exact⟨⟨_,rfl⟩,_,_,rfl,λB C v=>Vy _ v⟩
end
section
variable {K:Frag} {x C:U8} 
theorem J8:WC "list.__iter__"=UX .method∨WC "list.__iter__"=UX .slot:=by decide+kernel
theorem Fs:aai "list.__iter__"=UX ("list","__iter__"):=by decide+kernel
theorem Ft (X:K.In s.heap) (I:Wq s.heap x ox C od) (i:dm K C)
  (l:Q (.ref s.heap.objs.size) {s with heap:=s.heap.push {cls:= .type "list_iterator",data:= .fields #[.ref x, .int 0 0]}}):Vh (Vi J w) A (aaL (.ref x)) Q E s:=by
 have e:Vh (Vi J w) A (call (.builtin "list.__iter__") [.ref x]) (λit b=>∃c r,b.TypeIs it c/\Ys (.type c) "__next__"=pure (UX r)/\Q it b) E s:=by refine pf X I i.f J8 Fs slot_list_iter.plain entry_list_iter (args_list_iter _) (?_:Vh _ _ (do PySem.ret (<-abd "list_iterator" [.ref x,WO 0])) _ _ s);exact U1 (V7 (U5 (cY ("list_iterator") _ (aA _ (VX _ rfl) rfl) slot_listiter_next.lookup l)))
 unfold aaL aaC
 refine U1 (U1 (I.type.here ((looks_findIn X i.it).here ?_)))
 refine(?_:Vh _ _ (callSpecialIfBoundUnlessNone? (.ref x) "__iter__" _ >>= _) _ _ _)
 refine U1 ?_
 refine Vq (U1 (U1 (U1 (I.type.here ((looks_findIn X i.it).here ?_)))))
 refine U1 (acl (wpAny_ite ?_))
 have g:∀{k:Option U4->U9->Prop},(∀it b,(∃c r,b.TypeIs it c/\Ys (.type c) "__next__"=pure (UX r)/\Q it b)->k (UX it) b)->
   Vh (Vi J w) A (if(ack "list.__iter__"==Xh)=UZ then((do rule "iter.none";raiseError "TypeError" s!"'{← typeNameOf (.ref x)}' object is not iterable":Xj U4) >>= λv=>pure (UX v)) else(call (.builtin "list.__iter__") [.ref x] >>= λv=>pure (UX v))) k E s:=λh=>by
  simp only[builtin_beq_none,Xk,if_false]
  exact U1 (VH e (λv b j=>U5 (h v b j)) λa a j=>j)
 have d:∀it b,(∃c r,b.TypeIs it c/\Ys (.type c) "__next__"=pure (UX r)/\Q it b)->Vh (Vi J w) A (match UX it with
  |some it=>aaC it "__next__" >>= λr=>match r with
   |none=>(do rule "iter.non-iterator";raiseError "TypeError" s!"iter() returned non-iterator of type '{← typeNameOf it}'":Xj U4)
   |some _=>pure it
  |none=>pure .none) Q E b:=λit b m=>cy m λc r n o p=>U1 (Xc n o (U5 p))
 split
 ·exact U1 (U5 (U5 (g λit b h=>d it b h)))
 ·exact wpAny_tryCatch (U1 (U5 (U5 (g λit b h=>d it b h))))
end
end
end
section
open PySem.W (CodeHd tabObj)
theorem xX (n:Nat):passing (λa=>UZ) n 0=Wb n:=by unfold passing;exact ac aaH (List.filter_eq_self.mpr λa a=>rfl)
structure Am (c:Cx) (Z:Yk) (T:fB) (pos:XQ):Prop where
 code:Z.code= .ref T.c
 mem:T∈c.TT
 uniq:∀t∈c.TT,t.P=T.P->t=T
 hd:∀h,bv c.KK h->CodeHd h T.c T.P
 qual:T.qual=Z.qual++"<genexpr>"
 line:T.line=pos.line
 col:T.col=pos.col
 glob:Z.globals=mainGlobals
 bu:Z.builtins=builtinsNs
 bm:∀h,bv c.KK h->∃mg,h.Ns mainGlobals mg/\h.BuiltinsAt mg T.P
 gp:mainGlobals≠T.P
 lim:∀h,bv c.KK h->h.NoLimit
 kind:Z.scope.kind= .function
structure Fu (scope:XR) (Z:Yk) (xa xb:Vd):Prop where
 co:scope.isCoroutine=U0
 clos:abD scope Z=pure []
 cell:∀y∈scope.names,y.2≠ .cell
 h0:scope.names.lookup (".0":Vd)=UX NameKind.local
 ka:scope.names.lookup xa=UX .local
 kb:scope.names.lookup xb=UX .local
 ab:xa≠xb
 kind:scope.kind= .function
theorem yI {t:Xj α} {Q:α->U9->Prop} (h:Vh Mo A t (λv s'=>s.toks<=s'.toks->Q v s') E s):Vh Mo A t Q E s:=
 ZH (Vt _) (VH h (λa a x=>x) λa a e a=>e)
section
abbrev Rz (c:Cx) (A:Vm) (Z:Yk) (scope:XR) (xa xb:Vd) (elt:Vv) (Q:U4->U9->Prop) (t0:ZP) (u:U8) (code:U4) (x:U8) (d:U9) (I:U8) (r l:List U8) (e:Nat) (p:Nat->Array U4->Prop) (g:Nat->Ve->Prop) (q:Nat->U8->Ve->Prop) (m:Nat->Bool) (F:Nat->U4->Prop):Prop:=
 (X8 u)= .ref I/\(∀A':Vm,A'.handled=UY->WalksU c.prog c.w A' I r l e p g q)/\(∀i h,p i h->∃z B,h= #[z,B])/\g 0 d.heap/\(∀b∈r,b < d.heap.objs.size)/\d.heap.NoLimit/\cStatics∉l/\
     (∀k:Ve,(∀b o,d.heap.get? b=UX o->k.get? b=UX o)->
      QuietGenT c.prog c.w (genEnv scope [] d.heap.objs.size code x Z) xa xb [] elt (Wb d.heap.objs.size) l p m F k)/\
     (∀a f s gs,gs.bare=UZ->d.heap.objs.size < a->f.objs.size=a+1->(∀b o,d.heap.get? b=UX o->f.get? b=UX o)->
      WalksS c.prog c.w A.in4 a (a::d.heap.objs.size::Wb d.heap.objs.size) (d.heap.objs.size::l) (GenOnlyQ d.gens.size) (passing m e 0).length
       (λj y=>∃i,(passing m e 0)[j]?=UX i/\F i y) (GenAt c.prog c.w A.in4 a d.gens.size d.heap.objs.size (Wb d.heap.objs.size) l m e F)->
      GenAt c.prog c.w A.in4 a d.gens.size d.heap.objs.size (Wb d.heap.objs.size) l m e F 0 {d with gens:=d.gens.push gs,toks:=s,heap:=f}->
      (λv t=>t0<=t.toks->Q v t) (.ref a) {d with gens:=d.gens.push gs,toks:=s,heap:=f})
def RA (c:Cx) (A:Vm) (Z:Yk) (E:U4->U9->Prop) (scope:XR) (xa xb:Vd) (elt:Vv) (Q:U4->U9->Prop) (t0:ZP) (f:U8) (code:U4) (s3:U9):Prop:=
 Vh (Vi c.prog c.w) A (builtinsFor Z.globals Z.builtins) (λg b=>∃I h i d j a e k F,Rz c A Z scope xa xb elt Q t0 f code g b I h i d j a e k F) E s3
theorem th {T:fB} {m:Vd->Option U4} {x D:U8} {n:Nat} {Ts:Nat->U8} {fa fb:Nat->Vd} {ta tb:Nat->ZP} {F:Nat->U4->Prop} 
  (G:SR c fz U H s) (hh:A.handled=UY) (a2:A.depth < Wv) (z:Am c Z T pos) (GS:Fu scope Z xa xb)
  (a3:Z.kindOf "self"=UX .local) (hm:s.heap.Ns Z.locals m) (aF:m "self"=UX (.ref x)) (I:Wq s.heap x ox D od) (hd:ox.data= .seq items n) (AF:dm c.KK D)
  (aG:∀j,j < items.size->items[j]?=UX (.ref (Ts j))) (K:∀j,j < items.size->s.heap.IsTuple (Ts j) #[.str (fa j) (ta j), .str (fb j) (tb j)])
  (ad:∀(B:Yk) (A':Vm) E' (j:Nat) (f:U9) l,j < items.size->B.scope=scope->B.globals=mainGlobals->B.builtins=builtinsNs->bv c.KK f.heap->f.heap.Ns B.locals l->l xa=UX (.str (fa j) (ta j))->l xb=UX (.str (fb j) (tb j))->
   Vh (Vi c.prog c.w) A' (Ws elt B) (λy ae=>F j y/\Keeps f ae) E' f)
  (hQ:∀a fp wr g P St s',WalksS c.prog c.w A.in4 a fp wr (GenOnlyQ g) items.size P St->(∀j v,P j v->F j v)->St 0 s'->(∀i s,St i s->s.TypeIs (.ref a) "generator")->(∀b∈fp,b < s'.heap.objs.size)->a∈fp->
   SR c fz U H s->s'.os=s.os->AllBare s'.gens->s.toks<=s'.toks->(∀b o,b≠T.P->s.heap.get? b=UX o->s'.heap.get? b=UX o)->
   (∀L:U9,Moved wr (GenOnlyQ g) s' L->∃fz',Le fz fz'/\SR c fz' U H L)->Q (.ref a) s'):
  Vh (Vi c.prog c.w) A (Ws (.GeneratorExp elt [⟨.Tuple [.Name xa pa, .Name xb pb] kt pt, .Name "self" pi,[],0⟩] scope pos) Z) Q E s:=by
 have M:bv c.KK s.heap:=λp Y=>G.hr.fzle _ _ (G.hr.wd p Y)
 have a4:∀{h':Ve},(∀b o,b≠T.P->s.heap.get? b=UX o->h'.get? b=UX o)->bv c.KK h':=λ{h'} k p Y=>by
  refine fA (G.hr.tab T z.mem) λd d d d q4=>(k _ _ (λe=>?_) (M p Y))
  have:=G.hr.wd p Y;rw[e,q4] at this;cases this
 refine fA (G.hr.tab T z.mem) λaY t1 aH t3 t4=>(aj aH λps aI af=>?_)
 subst aI
 have aV:T.P < s.heap.objs.size:=We t1
 refine yI (wpAny_GeneratorExp_walksQT hh GS.co GS.clos GS.cell GS.h0 GS.ka GS.kb GS.ab GS.kind a2 ?_ (λx=>rfl))
 refine fj rfl (WF z.kind a3 hm aF (Ft G.inK I AF ?_))
 have N:∀b o,s.heap.get? b=UX o->(s.heap.push {cls:= .type "list_iterator",data:= .fields #[.ref x, .int 0 0]}).get? b=UX o:=λb o e=>Vy _ e
 have ag:bv c.KK (s.heap.push {cls:= .type "list_iterator",data:= .fields #[.ref x, .int 0 0]}):=λp Y=>N _ _ (M p Y)
 have aJ:(s.heap.push {cls:= .type "list_iterator",data:= .fields #[.ref x, .int 0 0]}).get? s.heap.objs.size=UX {cls:= .type "list_iterator",data:= .fields #[.ref x, .int 0 0]}:=VX _ rfl
 have C:∀{b o},s.heap.get? b=UX o->b≠s.heap.objs.size:=λe q=>WV _ (q▸We e)
 have ah:T.P≠s.heap.objs.size:=C t1
 have cont:∀(code:U4) (J:U9),(∀b o,b≠T.P->(s.heap.push {cls:= .type "list_iterator",data:= .fields #[.ref x, .int 0 0]}).get? b=UX o->J.heap.get? b=UX o)->J.gens=s.gens->J.os=s.os->J.drawn=s.drawn->
   (∀hF:Ve,(∀b o,b≠s.heap.objs.size->J.heap.get? b=UX o->hF.get? b=UX o)->∃fz',Le fz fz'/\HR c fz' U H hF)->
   RA c A Z E scope xa xb elt Q s.toks s.heap.objs.size code J:=λcode J k3 e1 e2 e3 ai=>by
  have a0:∀b o,b≠T.P->s.heap.get? b=UX o->J.heap.get? b=UX o:=λb o u e=>k3 b o u (N b o e)
  have O:=a4 a0
  refine aj (z.bm _ O) λmg aK aL=>(bI aL λbm aM=>?_)
  obtain⟨ob,aN,ak,_,aW,aO,al,a5,a6⟩:=aM
  refine(?_:Vh _ _ (builtinsFor _ _) _ _ _)
  refine wpAny_builtinsFor (ac z.glob aK) aN ak aO al a5 a6 ?_
  have aP:x≠T.P:=λe=>by have:=I.at_;rw[e,t1] at this;obtain rfl:=U2 this;have:=I.cls;cases this
  have am:=a0 _ _ aP I.at_
  have aQ:∀j,j < items.size->Ts j≠T.P:=λj V e=>by refine ca (K j V) λo X hc d=>?_;rw[e,t1] at X;obtain rfl:=U2 X;cases hc
  have an:∀j,j < items.size->J.heap.IsTuple (Ts j) #[.str (fa j) (ta j), .str (fb j) (tb j)]:=λj V=>aj (K j V) λo X r=>(aA o (a0 _ _ (aQ j V) X) r)
  have ao:J.heap.get? s.heap.objs.size=UX {cls:= .type "list_iterator",data:= .fields #[.ref x, .int 0 0]}:=k3 _ _ (acd ah) aJ
  have aR:∀j,j < items.size->Ts j≠s.heap.objs.size:=λj V=>aj (K j V) λo X d=>C X
  have ap:=z.lim _ O
  have aq:cStatics≠s.heap.objs.size:=let⟨_,⟨o,es,ep,X,_⟩,_⟩:=z.lim _ M;C X
  refine⟨_,_,_,_,_,_,_,λd=>UZ,F,rfl,λA' a7=>Al a7 s.heap.objs.size x (C I.at_) items Ts (λj=> #[.str (fa j) (ta j), .str (fb j) (tb j)]) aG aR,?_,⟨⟨_,ao,rfl,rfl⟩,⟨_,n,am,hd⟩,an⟩,?_,ap,?_,?_,?_⟩
  ·rintro i aX ⟨_,rfl⟩;exact⟨_,_,rfl⟩
  ·intro b u;rcases List.mem_cons.mp u with rfl|u
   ·exact We ao
   ·rcases List.mem_cons.mp u with rfl|u
    ·exact We am
    ·refine aj (List.mem_map.mp u) λj V aS=>(aD aS ?_)
     exact aj (an j (List.mem_range.mp V)) λo X d=>(We X)
  ·intro h;exact aq (List.mem_singleton.mp h)
  ·intro ar hr;have as:∀f:U9,(∀b∈Wb J.heap.objs.size,b∉[s.heap.objs.size]->∀o,ar.get? b=UX o->f.heap.get? b=UX o)->bv c.KK f.heap:=λf R p Y=>by have h3:=O p Y;exact R _ (List.mem_range.mpr (We h3)) (λh=>C (M p Y) (List.mem_singleton.mp h)) _ (hr _ _ h3)
   refine⟨λA' E' i va vb f l a7 hP h1 h2 h3 R=>?_,λA' E' i va vb f l a7 hP d h1 h2 h3 R=>?_⟩
   ·exact U5 ⟨rfl,f.heap,f.toks,rfl,λd d e=>e⟩
   ·obtain⟨V,hv⟩:=hP;have e1:va= .str (fa i) (ta i)/\vb= .str (fb i) (tb i):=by have:=congrArg Array.toList hv;simp at this;exact this
    obtain⟨rfl,rfl⟩:=e1;exact ad _ A' E' i f l V rfl z.glob rfl (as f R) h1 h2 h3
  ·intro a au tk gs av aw ax ay W GA a8;rw[xX,List.length_range] at W;refine hQ a _ _ _ _ _ _ W (λj v hv=>?_) GA (λi s aT=>aT.1.typeIs) (λb u=>?_) (List.mem_cons_self ..) G e2 ?_ a8 (λb o u e=>ay _ _ (a0 b o u e)) λL a1=>?_
   ·refine aj hv λi hi hF=>?_;have:=(List.getElem?_eq_some_iff.mp hi)
    obtain⟨h1,h2⟩:=this;simp at h2;exact ac h2 hF
   ·refine(?_:b < au.objs.size);refine ac ax ?_;rcases List.mem_cons.mp u with rfl|u
    ·exact aaa _
    ·rcases List.mem_cons.mp u with rfl|u
     ·exact Xx aw
     ·exact XI (List.mem_range.mp u) (Xx aw)
   ·intro y hy;rw[e1] at hy;rcases Array.mem_push.mp hy with hy|rfl
    ·exact G.bare.bare y hy
    ·exact av
   ·obtain⟨f1,k1,x1⟩:=ai L.heap λb o u e=>a1.heap b o (λh=>by
     rcases List.mem_cons.mp h with rfl|h
     ·exact WV _ (We e)
     ·exact u (List.mem_singleton.mp h)) (ay b o e)
    refine⟨f1,k1,x1,a1.os.trans (e2.trans G.os),?_,U3 G.tk (U3 a8 a1.toks)⟩;have az:=a1.gens;refine⟨az.bare λy hy=>?_,λi x hi=>?_⟩
    ·rw[e1] at hy;rcases Array.mem_push.mp hy with hy|rfl
     ·exact G.bare.bare y hy
     ·exact av
    ·have h1:=G.bare.kept i x hi;have a9:i < s.gens.size:=(Array.getElem?_eq_some_iff.mp h1).1;have h2:(J.gens.push gs)[i]?=UX x:=by refine ac e1 (ac (acz a9) ?_);exact aD (ab8 a9) h1
     rcases az with q|⟨q,_⟩
     ·refine ac (show L.gens=J.gens.push gs from q) ?_;exact h2
     ·refine ac (q.2 i ((e1).symm▸(aan a9))) ?_;exact h2
 refine⟨(z.lim _ M).push _,tN z.code (z.hd _ ag) (N _ _ t1) ?_ ?_ ?_⟩
 ·rcases af with rfl|⟨c',rfl,_⟩
  ·trivial
  ·trivial
 ·intro cv aZ;refine cont cv _ (λb o d e=>e) rfl rfl rfl λhF R=>(aA fz (Le.refl _) (G.hr.le λb o e=>R b o (C e) (N b o e)))
 ·intro S c' h' tk a8 hx aB aC aU;rcases af with rfl|⟨b0,rfl,_⟩
  ·refine cont (.ref c') _ hx rfl rfl rfl λhF R=>(ez (id aC) λc2 oc vs t q1 q2 q3=>?_)
   cases q1;have aa:s.heap.objs.size < c':=by rw[ab6] at aB;exact aB
   have aE:=G.hr.made z.mem z.uniq (c':=c') (oc:=oc) (λb o u e=>R b o (C e) (hx b o u (N b o e))) (WB aa) (R _ _ (YP aa) q2) (by
    refine ac z.qual ?_;exact⟨_,oc,vs,t,rfl,R _ _ (YP aa) q2,q3⟩) (by
    refine ac z.line (ac z.col ?_);exact R _ _ ah (aU))
   refine ca aE λf1 k1 d x1=>?_;exact(aA f1 k1 x1)
  ·exfalso;rw[z.line,z.col] at S;simp[Zr,WO] at S
end
section
theorem Cu (a b:U4):Z1 "sum" ⟨[a,b],[]⟩:=by dsimp only[Z1];rfl'
theorem Cv {x:U4} {zd:ZP} 
  (h:Vh (Vi J w) A.in1 (aaL x) (λit c=>∃I k l G n P St val,it= .ref I/\WalksS J w A.in1 I k l G n P St/\St 0 c/\(∀b∈k,b < c.heap.objs.size)/\
   (∀i v,P i v->∃t,v= .int (val i) t)/\(∀j,j < n->InLong (val j)/\InLong (preSum val (j+1)))/\
   ∀s' t',Moved l G c s'->Q (.int (preSum val n) t') s') E s):
  Vh (Vi J w) A (call (.builtin "sum") [x, .int 0 zd]) Q E s:=by
 refine call_function_tree F.kind_sum F.plain_sum F.entry_sum (Cu _ _) ?_
 unfold Builtin.«sum»
 dsimp only;simp -iota only[VD,aap]
 refine ac (if_neg (by decide)) (U1 (XS (show Builtin.Builtins.bindParams "sum" ["start"] 0 ⟨[.int 0 zd],[]⟩=pure [UX (.int 0 zd)] from rfl) ?_))
 refine U1 (VH h (λit c d=>?_) λa a e=>e)
 refine via λz r=>?_
 obtain⟨I,k,l,G,n,P,St,val,u,W,m,p,f,g,y⟩:=d
 refine r (ac u ?_)
 dsimp only
 refine qt rfl (U1 (abE ?_))
 refine U1 (wpAny_mkInt ?_)
 refine U1 (U5 ?_)
 dsimp only
 refine U1 (U1 (U1 (Zt (T:="int") (b:=U0) (ZY _ _ _) _root_.PySem.sub_int_str ?_)))
 refine U5 (U1 (U1 (Zt (T:="int") (b:=U0) (ZY _ _ _) _root_.PySem.sub_int_bytes ?_)))
 refine U5 (U1 (U1 (Zt (T:="int") (b:=U0) (ZY _ _ _) _root_.PySem.sub_int_bytearray ?_)))
 refine U5 (U5 ?_)
 refine U1 (V7 ?_)
 refine U5 ⟨plainId_quiet F.plain_sum_loop _,codeAny_sum_loopS W val f g c.heap.objs.size (λq=>WV _ (p _ q):c.heap.objs.size∉k) n 0 _ c.toks 0 rfl (W4 _)
  (W.frame 0 c _ _ m (by first|exact Vt _|exact WI _|lia) λb a o e=>Vy _ e) (VX _ rfl) λs' t' q=>?_⟩
 exact y s' t' (q.drop_new (by first|exact Vt _|exact WI _|lia))
end
noncomputable def Q7:List V->Option (Vd×Vd)
 |[.str a, .str b]=>UX (a,b)
 |_=>UY
noncomputable def HZ:D->Option (Vd×Vd)
 | .tup [.str a, .str b]=>UX (a,b)
 |_=>UY
theorem Fv {p:Vd×Vd} (h:Q7 vs=UX p):vs=[.str p.1, .str p.2]:=by
 rcases vs with _|⟨a,vs⟩
 ·exact nn h
 induction a with|str a=>?_|_=>exact nn h
 rcases vs with _|⟨b,vs⟩
 ·exact nn h
 induction b with|str b=>?_|_=>exact nn h
 induction vs with
 |nil=>exact aD (U2 h) rfl
 |cons=>exact nn h
theorem Fw {p:Vd×Vd} (h:HZ d=UX p):d= .tup [.str p.1, .str p.2]:=by
 induction d using Mine.Internal.D.casesOn with|tup vs=>?_|_=>exact nn h
 rcases vs with _|⟨a,vs⟩
 ·exact nn h
 induction a using Mine.Internal.D.casesOn with|str a=>?_|_=>exact nn h
 rcases vs with _|⟨b,vs⟩
 ·exact nn h
 induction b using Mine.Internal.D.casesOn with|str b=>?_|_=>exact nn h
 induction vs with
 |nil=>exact aD (U2 h) rfl
 |cons=>exact nn h
def ua (H:List O):V->Option (Vd×Vd)
 | .ref n=>match H[n]? with
  |some (.tup vs)=>Q7 vs
  |some (.fro d)=>HZ d
  |_=>UY
 | .dat d=>HZ d
 |_=>UY
noncomputable def jH (H:List O):List V->Option (List (Vd×Vd))
 |[]=>UX []
 |v::r=>match ua H v,jH H r with
  |some p,UX ps=>UX (p::ps)
  |_,_=>UY
noncomputable def aC:List (Vd×Vd)->Nat
 |[]=>0
 |(a,b)::r=>a.length+b.length+aC r
noncomputable def aT (ps:List (Vd×Vd)):Vd:=WA Vl (ps.map λp=>WA Vl [p.1,p.2])
def ly (C:Ec) (S:St):Option (U8×List (Vd×V)×List (Vd×Vd)):=match S.H[C.fid]? with
 |some (.frame l)=>match lk ("self":Vd) l with
  |some (.ref i)=>match S.H[i]? with
   |some (.inst D d (UX xs))=>match S.H[d]?,jH S.H xs with
    |some (.dict es),UX ps=>UX (D,es,ps)
    |_,_=>UY
   |_=>UY
  |_=>UY
 |_=>UY
def Mr (r:Option α) (K:α->Prop):Prop:=match r with
 |none=>True
 |some a=>K a
@[elab_as_elim] theorem Mr.use {r:Option α} {a:α} {G:α->Prop} (e:r=UX a) (h:∀K,(∀a,G a->K a)->Mr r K):G a:=by have:=h G λb x=>x;rw[e] at this;exact this
theorem An {S:St} {r:U8×List (Vd×V)×List (Vd×Vd)} (e:ly C S=UX r):∃l i d xs,S.H[C.fid]?=UX (.frame l)/\lk ("self":Vd) l=UX (.ref i)/\S.H[i]?=UX (.inst r.1 d (UX xs))/\S.H[d]?=UX (.dict r.2.1)/\jH S.H xs=UX r.2.2:=by
 refine Mr.use e λK a=>?_;unfold ly;induction b:S.H[C.fid]? with
 |none=>exact Vf
 |some o=>
 induction o with|frame l=>?_|_=>exact Vf
 dsimp only;induction c:lk ("self":Vd) l with
 |none=>exact Vf
 |some v=>
 induction v with|ref i=>?_|_=>exact Vf
 dsimp only;induction f:S.H[i]? with
 |none=>exact Vf
 |some o=>
 induction o with|inst D d xs=>?_|_=>exact Vf
 induction xs with
 |none=>exact Vf
 |some xs=>
 dsimp only;induction g:S.H[d]? with
 |none=>exact Vf
 |some o=>
 induction o with|dict j=>?_|_=>exact Vf
 induction h:jH S.H xs with
 |none=>exact Vf
 |some k=>exact a _ ⟨l,i,d,xs,b,c,f,g,h⟩
def Ao (D:U8) (C:Ec):M V:=λS=>match ly C S with
 |some (a,es,ps)=>match VC a D,lk ("_initial_size":Vd) es with
  |true,UX (.int i)=>UX (.int (aC ps),S,[i=0/\aC ps < 2^40])
  |_,_=>UY
 |none=>UY
def Ap (D:U8) (C:Ec):M V:=λS=>match ly C S with
 |some (a,_,ps)=>match VC a D with
  |true=>UX (.str (aT ps),S,[aC ps<=16777216/\ps.length<=1000])
  |false=>UY
 |none=>UY
section
theorem Fx (j:SR c fz U H s) {x:U4} {p:Vd×Vd} (e:ua H v=UX p) (k:VR fz U v x):∃T t u,x= .ref T/\s.heap.IsTuple T #[.str p.1 t, .str p.2 u]:=by
 have dat:∀{d x},HZ d=UX p->DR fz d x->∃T t u,x= .ref T/\s.heap.IsTuple T #[.str p.1 t, .str p.2 u]:=λ{d x} e h=>by
  rw[Fw e] at h;refine gO h.i_tup λa vs n f g r=>(ac f ?_)
  refine cy r.ic λb b f i q=>?_;subst f;refine cy q.ic λb b f w y=>?_;subst f;obtain rfl:=y.i0;obtain⟨t,rfl⟩:=i.i_str;obtain⟨u,rfl⟩:=w.i_str;exact⟨_,_,_,rfl,_,j.hr.fzle _ _ g,rfl,_,rfl⟩
 induction v with
 |ref n=>
  refine k.e_ref λa l=>?_;dsimp only[ua] at e;induction i:H[n]? with
  |none=>rw[i] at e;exact nn e
  |some o=>
   rw[i] at e;induction o with
   |tup vs=>
    refine aj (j.hr.at i rfl l) λD z A=>(aG A λB m f r=>?_)
    subst f;rw[Fv e] at r;refine cy r.i2 λb b f g1 C=>?_;subst f;obtain⟨t,rfl⟩:=g1.i_str;obtain⟨u,rfl⟩:=C.i_str;exact⟨_,_,_,rfl,_,z,rfl,_,rfl⟩
   |fro d=>exact dat e (j.hr.froAt i l)
   |_=>exact nn e
 |dat d=>exact dat e k.i_dat
 |_=>exact nn e
theorem Cw (i:SR c fz U H s) :∀{xs:List U4} {ps:List (Vd×Vd)},jH H vs=UX ps->av fz U vs xs->xs.length=ps.length/\
  ∀j,j < ps.length->∃T t u,xs[j]?=UX (.ref T)/\s.heap.IsTuple T #[.str (ps.getD j (Vl,Vl)).1 t, .str (ps.getD j (Vl,Vl)).2 u]:=by
 induction vs with
 |nil=>intro xs ps e h;obtain rfl:=h.i0;obtain rfl:=U2 e;exact⟨rfl,λj h=>absurd h (W9 _)⟩
 |cons v r k=>
  intro xs ps e h;refine h.ec λx xs a b=>?_;dsimp only[jH] at e;induction d:ua H v with
  |none=>simp only[d] at e;exact nn e
  |some p=>
   induction f:jH H r with
   |none=>simp only[d,f] at e;exact nn e
   |some n=>
    simp only[d,f] at e;obtain rfl:=U2 e;obtain⟨i1,i2⟩:=k f b;refine⟨congrArg Z9 i1,λj l=>?_⟩;induction j with
    |zero=>
     refine mn (Fx i d a) λT t u g m=>(ac g ?_)
     exact⟨T,t,u,rfl,m⟩
    |succ j=>exact i2 j (aam l)
end
theorem vR:∀(ps:List (Vd×Vd)) (k:Nat),k<=ps.length->preSum (λj=>(((ps.getD j (Vl,Vl)).1.length+(ps.getD j (Vl,Vl)).2.length:Nat):Int)) k=((aC (ps.take k):Nat):Int):=by
 intro ps k;have d:∀(l:List (Vd×Vd)) (p:Vd×Vd),aC (l++[p])=aC l+(p.1.length+p.2.length):=λl p=>by
  induction l with
  |nil=>simp[aC]
  |cons q r e=>obtain⟨a,b⟩:=q;refine ac Xg ?_;rw[aC,aC];refine ac e ?_;exact(Yx _ _ _).symm
 induction k with
 |zero=>intro _;rfl
 |succ k e=>
  intro f;have c:k < ps.length:=f;rw[preSum,e (WB c),List.take_succ_eq_append_getElem c,d];have:ps.getD k (Vl,Vl)=ps[k]:=by simp[List.getD,c]
  refine ac this ?_;lia
theorem mM:∀(ps:List (Vd×Vd)) (k:Nat),aC (ps.take k)<=aC ps
 |[],_=>by simp[aC]
 |_::_,0=>by simp[aC]
 |(a,b)::r,k+1=>by have:=mM r k;simp only[adk,aC];exact WH this _
theorem lz:∀(ps:List (Vd×Vd)) (j:Nat),(ps.getD j (Vl,Vl)).1.length+(ps.getD j (Vl,Vl)).2.length<=aC ps
 |[],j=>by simp[aC];rfl
 |(a,b)::r,0=>by simp[aC]
 |(a,b)::r,j+1=>by have:=lz r j;simp only[List.getD_cons_succ,aC];exact U3 this (Wr _ _)
end
section
open PySem.W (CodeHd tabObj findIn)
section
structure Ms (c:Cx) (fz:Ve) (U:List U8) (H:List O) (s:U9) (Z:Yk) (D:U8) (es:List (Vd×V)) (ps:List (Vd×Vd)) (m:Vd->Option U4) (x:U8) (ox:Xi) (des:List Wi) (nn:Nat) (vs:List U4) (n:Nat):Prop where
 ns:s.heap.Ns Z.locals m
 self:m "self"=UX (.ref x)
 i:Wq s.heap x ox D (UX (cK des nn))
 d:ox.data= .seq vs.toArray n
 er:ER fz U c.w.params es des
 len:vs.length=ps.length
 it:∀j,j < ps.length->∃T t u,vs[j]?=UX (.ref T)/\s.heap.IsTuple T #[.str (ps.getD j (Vl,Vl)).1 t, .str (ps.getD j (Vl,Vl)).2 u]
theorem rR {S:St} {D:U8} (h:aI c C Z U) (a:SR c fz U S.H s) (e:ly C S=UX (D,es,ps)):∃m x ox des nn vs n,Ms c fz U S.H s Z D es ps m x ox des nn vs n:=by
 refine QV (An e) λl i d G j k o p q=>(aj (gv a j h.loc) λm r t=>?_)
 refine aj (d6.i_some (aD k (t ("self":Vd)))) λz b u=>(aj u.i_ref λx f v=>?_)
 subst f;refine aj (a.hr.at o rfl v) λI w g=>?_;obtain⟨J,y,vs,n,rfl,A⟩:=g;refine aG (ju a p y) λdes nn w1 B=>(aN (Cw a q A) λE F=>?_)
 exact⟨m,x,_,des,nn,vs,n,r,b,⟨w,rfl,rfl,w1⟩,rfl,B,E,F⟩
theorem lA {x:Vd} {v:GV} {a:Yk} (b:eC c.KK glob) (d:ms x glob=UX v) (h1:a.globals=mainGlobals) (h2:a.builtins=builtinsNs) (e:bv c.KK h):kJ h a x v.val:=by exact aj (b x v d h e) λf g1 g=>(aA f (h1▸g1) (h2▸g))
noncomputable abbrev RB (p1 p3 q1 q2 a b c d e pa pb pt pi gpos f g:XQ) (kt:Nat) (scope:XR):Vv:=
 .Call (.Name "sum" p1) [.GeneratorExp (.BinOp (.Call (.Name "len" q1) [.Name "fws" q2] [] a) .Add (.Call (.Name "len" b) [.Name "part" c] [] d) e) [⟨.Tuple [.Name "fws" pa, .Name "part" pb] kt pt, .Name "self" pi,[],0⟩] scope gpos, .Attribute (.Name "self" f) "_initial_size" g] [] p3
theorem ma {vs:List U4} (h:∀j,j < ps.length->∃T t u,vs[j]?=UX (.ref T)/\s.heap.IsTuple T #[.str (ps.getD j (Vl,Vl)).1 t, .str (ps.getD j (Vl,Vl)).2 u]):
  ∃(Ts:Nat->U8) (ta tb:Nat->ZP),∀j,j < ps.length->vs[j]?=UX (.ref (Ts j))/\s.heap.IsTuple (Ts j) #[.str (ps.getD j (Vl,Vl)).1 (ta j), .str (ps.getD j (Vl,Vl)).2 (tb j)]:=by
 classical
 refine⟨λj=>if a:j < ps.length then(h j a).choose else 0,λj=>if a:j < ps.length then(h j a).choose_spec.choose else 0,λj=>if a:j < ps.length then(h j a).choose_spec.choose_spec.choose else 0,λj a=>?_⟩
 simp only[a,dif_pos]
 exact(h j a).choose_spec.choose_spec.choose_spec
theorem Mt {n:Nat} (h:n < 2^40): -2^63<=(n:Int)/\(n:Int) < 2^63:=⟨VN (by decide) (Vr n),XH (Int.ofNat_lt.mpr h) (by decide)⟩
theorem Fy {D:U8} {T:fB} {q1 q2 q3 q4 q5 q6 q7 gpos s1 s2:XQ} (eo:aI c C Z U) (hh:A.handled=UY) (I:A.depth < Wv) (GX:Am c Z T gpos) (GS:Fu scope Z "fws" "part")
  (AF:dm c.KK D) (hi:findIn c.KK (.ref D) "_initial_size"=UX UY) (o:kd ("self":Vd) C.names=UX .local) (O:kd ("sum":Vd) C.names=UX .globalImplicit) (a2:ms ("sum":Vd) C.glob=UX (.v (.builtin "sum")))
  (R:scope.names.lookup ("len":Vd)=UX .globalImplicit) (a3:ms ("len":Vd) C.glob=UX (.f 0)) (u:eC c.KK C.glob):
  ae c A fz U (Ao D C) (Ws (RB p1 p3 q1 q2 q3 q4 q5 q6 q7 pa pb pt pi gpos s1 s2 kt scope) Z) au:=by
 refine ae.run λS K hK=>?_
 unfold Ao
 induction h1:ly C S with
 |none=>exact Vf
 |some r=>
 obtain⟨D',es,l⟩:=r
 dsimp only
 induction h2:VC D' D with
 |false=>exact Vf
 |true=>
 have:=VK h2
 subst this
 induction h3:lk ("_initial_size":Vd) es with
 |none=>exact Vf
 |some vi=>
 induction vi with
 |int i=>
  refine hK _ _ _ λhp an ρ' s Q k q sr y=>?_;clear hK;refine aN hp.1 λV b=>?_;subst V;have X:=eo.at q;refine uM (rR X sr h1) λm x ox ao nn vs n J=>(ky (ma J.it) λTs ta tb hT=>?_)
  have hk:∀G,Z.kindOf G=kd G C.names:=λG=>by rw[fK];refine aD eo.names ?_;rfl
  refine aj ((iS (n:=nn) J.er).1 _ h3) λzi l1 l2=>?_;refine l2.e_int λap=>?_;refine(?_:Vh _ _ (Ws (.Call (.Name "sum" p1) _ [] p3) Z) _ _ _);refine ac (jY (BU rfl)) (U1 (fj rfl (iT eo.kind ((hk _).trans O) (lA u a2 GX.glob GX.bu (λp hp=>sr.hr.fzle _ _ (sr.hr.wd p hp):bv c.KK s.heap)) ?_)));refine YI rfl (de rfl (XM ?_));have B:vs.toArray.size=l.length:=ac VJ (ac J.len rfl);refine th (T:=T) (m:=m) (x:=x) (items:=vs.toArray) (Ts:=Ts) (fa:=λj=>(l.getD j (Vl,Vl)).1) (fb:=λj=>(l.getD j (Vl,Vl)).2) (ta:=ta) (tb:=tb)
   (F:=λj v=>∃t,v= .int (((l.getD j (Vl,Vl)).1.length+(l.getD j (Vl,Vl)).2.length:Nat):Int) t) sr hh I GX GS ((hk _).trans o) J.ns J.self J.i J.d AF
   (λj L=>by refine ac (Wj) ?_;exact(hT j (aD B L)).1) (λj L=>(hT j (aD B L)).2) (λw A' E' j ag ah L c1 c2 c3 hK hn v1 v2=>?_) λga fp wr g P St M W a4 a5 ai a6 aq ar as a7 av ak h=>?_
  ·have ck:w.scope.kind= .function:=ac c1 GS.kind;have N:∀G,w.kindOf G=scope.names.lookup G:=λG=>by show w.scope.names.lookup G=_;rw[c1]
   have a8:=lz l j;exact J7 ck ((N _).trans R) (lA u a3 c2 c3 hK) ((N _).trans GS.ka) rfl ((N _).trans GS.kb) rfl hn v1 v2 (Vn (U3 (Vo _ _) a8) (XI b (by decide))) (by lia)
  ·
   refine aj (h M (⟨λa a a e=>e, .inl rfl,rfl,rfl,Vt _⟩:Moved wr (GenOnlyQ g) M M)) λf1 k1 Y=>(uM (rR X Y h1) λm1 x1 aw al a9 ax n1 E=>?_)
   refine aj ((iS (n:=a9) E.er).1 _ h3) λay aa ab=>?_;refine bI ab.i_int λa0 ad=>?_;subst ad;refine XM (ac (u6 (by rfl)) ?_);refine U1 (fj rfl (WF eo.kind ((hk _).trans o) E.ns E.self ?_));refine U1 (VM (U1 (Vq (vE Y.inK E.i AF.f (qA AF.f hi (aA _ rfl aa)) rfl ?_))));refine U1 (ZA (U5 (ZL ?_)));refine(?_:Vh _ _ (call (.builtin "sum") [.ref ga, .int 0 a0]) _ _ _);have W1:=W.in4_1;have H:St 0 {M with toks:=M.toks+1}:=W1.frame 0 M M.heap _ a5 (WI _) λa a a e=>e;refine Cv (W1.self 0 _ _ _ H ⟨ga,fp,wr,_,_,P,St,λj=>(((l.getD j (Vl,Vl)).1.length+(l.getD j (Vl,Vl)).2.length:Nat):Int),rfl,W1,H,a6,a4,λj L=>?_,λa1 t' z=>?_⟩)
   ·simp only[B] at L;have h2:=mM l (j+1);refine ac (vR l (j+1) L) ?_;unfold InLong;dsimp only;exact⟨Mt (Vn (lz l j) b),Mt (Vn h2 b)⟩
   ·refine ac B (ac (vR l _ (Vt _)) (ac Z6 ?_));exact aj (h a1 ⟨z.heap,z.gens,z.drawn,z.os,U3 (WI _) z.toks⟩) λf2 k2 af=>(y f2 ρ' a1 _ k2 (U6 _) af (.int _ _))
 |_=>exact Vf
noncomputable abbrev RC (g0:Vd) (p1 ap p3 q1 q2 a b c d pa pb pt pi gpos:XQ) (e kt:Nat) (scope:XR):Vv:=
 .Call (.Attribute (.Name g0 p1) "join" ap) [.GeneratorExp (.Call (.Attribute (.Name g0 q1) "join" c) [.Tuple [.Name "fws" q2, .Name "part" a] e b] [] d) [⟨.Tuple [.Name "fws" pa, .Name "part" pb] kt pt, .Name "self" pi,[],0⟩] scope gpos] [] p3
theorem tP (ps:List (Vd×Vd)):((ps.map λp=>WA Vl [p.1,p.2]).map (·.length)).sum<=aC ps:=by
 induction ps with
 |nil=>simp[aC]
 |cons p r c=>
  obtain⟨a,b⟩:=p;simp only[Wc,acs,aC];have:(WA Vl [a,b]).length<=a.length+b.length:=by have h:=acm Vl [a,b];simp only[Wc,acK,acs,List.sum_nil,(rfl:(Vl:Vd).length=0),acT,Ym] at h;refine(?_:(Builtin.Str.glued Vl [a,b]).length<=_);rw[act];exact h
  exact VF this c
theorem Fz {D:U8} {T:fB} {g0:Vd} {t0:ZP} {q1 q2 q3 q4 aq q5 gpos:XQ} {kq:Nat} (eo:aI c C Z U) (hh:A.handled=UY) (G:A.depth < Wv) (GX:Am c Z T gpos) (GS:Fu scope Z "fws" "part")
  (AF:dm c.KK D) (H:kd ("self":Vd) C.names=UX .local) (M:ew g0=U0) (a2:kd g0 C.names=UX .globalImplicit) (N:ms g0 C.glob=UX (.v (.str Vl t0)))
  (a3:scope.names.lookup g0=UX .globalImplicit) (f:eC c.KK C.glob)
  (a4:qj ap p3 [Expr.GeneratorExp (.Call (.Attribute (.Name g0 q1) "join" aq) [.Tuple [.Name "fws" q2, .Name "part" q3] kq q4] [] q5) [⟨.Tuple [.Name "fws" pa, .Name "part" pb] kt pt, .Name "self" pi,[],0⟩] scope gpos]=UZ) (a5:qj aq q5 [Expr.Tuple [.Name "fws" q2, .Name "part" q3] kq q4]=UZ):
  ae c A fz U (Ap D C) (Ws (RC g0 p1 ap p3 q1 q2 q3 q4 aq q5 pa pb pt pi gpos kq kt scope) Z) au:=by
 refine ae.run λS K hK=>?_
 unfold Ap
 induction h1:ly C S with
 |none=>exact Vf
 |some r=>
 obtain⟨D',es,b⟩:=r
 dsimp only
 induction h2:VC D' D with
 |false=>exact Vf
 |true=>
 have:=VK h2
 subst this
 refine hK _ _ _ λhp ak ρ' s Q k q O y=>?_
 clear hK
 refine aN (hp.1) λa1 l=>?_
 have a6:=eo.at q
 refine uM (rR a6 O h1) λm x ox al nn vs n L=>(ky (ma L.it) λTs ta tb hT=>?_)
 have hk:∀z,Z.kindOf z=kd z C.names:=λz=>by rw[fK];refine aD eo.names ?_;rfl
 refine(?_:Vh _ _ (Ws (.Call (.Attribute (.Name g0 p1) "join" ap) _ [] p3) Z) _ _ _)
 refine ac (jl (by rfl) a4) (U1 (fj M (iT eo.kind ((hk _).trans a2) (lA f N GX.glob GX.bu (λp hp=>O.hr.fzle _ _ (O.hr.wd p hp):bv c.KK s.heap)) ?_)))
 refine U1 (VM (U1 (Vq ?_)))
 refine(?_:Vh _ _ (W3 (.str Vl t0) "join" _) _ _ _)
 refine qv (by rfl:cT ("join":Vd) j0=UX 16) (YI rfl (de rfl (XM ?_)))
 have o:vs.toArray.size=b.length:=ac VJ (ac L.len rfl)
 refine th (T:=T) (m:=m) (x:=x) (items:=vs.toArray) (Ts:=Ts) (fa:=λj=>(b.getD j (Vl,Vl)).1) (fb:=λj=>(b.getD j (Vl,Vl)).2) (ta:=ta) (tb:=tb)
  (F:=λj v=>∃t,v= .str (WA Vl [(b.getD j (Vl,Vl)).1,(b.getD j (Vl,Vl)).2]) t) O hh G GX GS ((hk _).trans H) L.ns L.self L.i L.d AF
  (λj a=>by refine ac (Wj) ?_;exact(hT j (aD o a)).1) (λj a=>(hT j (aD o a)).2) (λh A' E' j ag ah a c1 c2 c3 hK hn v1 v2=>?_) λga fp wr g P St s' W R a7 V a8 a9 am an aa ab ai w=>?_
 ·have ck:h.scope.kind= .function:=ac c1 GS.kind;have I:∀z,h.kindOf z=scope.names.lookup z:=λz=>by show h.scope.names.lookup z=_;rw[c1]
  have ao:=lz b j;exact Fq (p5:=p1) (t0:=t0) ck ((I _).trans a3) M (lA f N c2 c3 hK) ((I _).trans GS.ka) rfl ((I _).trans GS.kb) rfl hn v1 v2 (by lia) a5
 ·refine ZL (?_:Vh _ _ (call (.builtin "str.join") [.str Vl t0, .ref ga]) _ _ _);have ad:(Wb vs.toArray.size).map (λj=>WA Vl [(b.getD j (Vl,Vl)).1,(b.getD j (Vl,Vl)).2])=b.map λp=>WA Vl [p.1,p.2]:=by
   refine ac o ?_;apply abh;intro j;by_cases a:j < b.length
   ·simp[a,List.getD]
   ·exact ac (Wu (by simpa using aab a)) (ac (Wu (by simpa using aab a)) rfl)
  refine yI (SC.joinGen (W.in4_2) V a7 a8 a9 (λj v hv=>bI (R j v hv) λu e=>(sU _ u e)) (λaf X hm B=>?_) (ac o (ac VO (U3 l (by decide)))));have hl:X.map (·.1)=b.map λp=>WA Vl [p.1,p.2]:=by
   refine aD ad ?_;apply abh;intro j;have E:X.length=vs.toArray.size:=by simpa[strValues] using B.1
   by_cases a:j < vs.toArray.size
   ·have Y:j < X.length:=E▸a;refine bI (R j _ (B.2 j (.str X[j].1 X[j].2) (by simp[strValues,VI Y]))) λu hv=>?_;injection hv with h1 _;refine ac (YJ) (ac (VI Y) (ac (YJ) (ac (aaT a) ?_)));simp[h1]
   ·exact ac (Wu (by simpa[E] using aab a)) (ac (Wu (by simpa using aab a)) rfl)
  refine ac hl ⟨joinOk_of ?_,λt' k' a0=>?_⟩
  ·have:=tP b;have h0:(Vl:Vd).length=0:=rfl;refine ac h0 ?_;rw[acT,Ym];lia
  ·exact aj (w af hm) λf2 k2 J=>(y f2 ρ' _ _ k2 (U6 _) ⟨J.hr,J.os,J.bare,U3 O.tk (U3 ab a0)⟩ (.str _ _))
end
end
section
open PySem.W (Frag findIn typeIn clsIn looks_findIn)
section
theorem aP.in1 {n:Nat} (x:aP (n+1) A):aP n A.in1:=⟨by show A.depth+n < _;have:=x.depth;exact WB this,by show A.units+1+10*n+100 < _;have:=x.units;lia,x.handled⟩
theorem aP.in2 {n:Nat} (x:aP (n+1) A):aP n A.in1.in1:=⟨by show A.depth+n < _;have:=x.depth;exact WB this,by show A.units+1+1+10*n+100 < _;have:=x.units;lia,x.handled⟩
theorem aP.less {n:Nat} (x:aP (n+1) A):aP n A:=⟨by have:=x.depth;exact WB this,by have:=x.units;lia,x.handled⟩
section
variable {K:Frag} {x C:U8} 
set_option tactic.hygienic true in
theorem mN (X:K.In s.heap) (I:Wq s.heap x ox C od) (hs:findIn K (.ref C) "__len__"=UX (UX (.ref f))) (hf:typeIn K (.ref f)=UX (.type "function"))
  (h:Vh (Vi J w) A (call (.ref f) [.ref x]) (W.LenBack Q) E s):Vh (Vi J w) A (Builtin.«len» ⟨[.ref x],[]⟩) (λb s'=>∃r,b= .done (.ret r)/\Q r s') E s:=by
 unfold Builtin.«len»
 refine U1 (m:=oneArg "len" _) (U5 ?_)
 refine U1 (m:=ZR (.ref x) (WN "__len__")) (W.special_fn X I hs hf (VH h (λr s' d=>?_) λa a y=>y))
 cases r<;>first|exact d.elim|skip
 rename_i n u
 refine aN d λc e=>?_
 obtain⟨h0,g⟩:=c
 refine U1 (Vq (U5 ?_))
 refine U1 (wpAny_letGo ?_)
 refine(?_:Vh _ _ (if n < 0 then _ else _) _ _ _)
 refine ac (if_neg (Int.not_lt.mpr h0)) (?_:Vh _ _ (if n≥2^63 then _ else _) _ _ _)
 exact ac (if_neg (Int.not_le.mpr g)) (U1 (wpAny_mkInt (U5 (aA _ rfl e))))
theorem J9 (X:K.In s.heap) (I:Wq s.heap x ox C od) (hs:findIn K (.ref C) "__len__"=UX (UX (.ref f))) (hf:typeIn K (.ref f)=UX (.type "function"))
  (h:Vh (Vi J w) A.in1 (call (.ref f) [.ref x]) (W.LenBack Q) E s):Vh (Vi J w) A (call (.builtin "len") [.ref x]) Q E s:=
 Calls.call_function_entry kind_len plain_len entry_len (args_len1 _) (mN X I hs hf h)
theorem Cy {Q:Bool->U9->Prop} (X:K.In s.heap) (I:Wq s.heap x ox C od) (c:findIn K (.ref C) "__bool__"=UX UY) (hs:findIn K (.ref C) "__len__"=UX (UX (.ref f))) (hf:typeIn K (.ref f)=UX (.type "function"))
  (h:Vh (Vi J w) A.in1 (call (.ref f) [.ref x]) (W.LenBack λr s'=>match r with| .int n _=>Q (n !=0) s'|_=>False) E s):Vh (Vi J w) A (YY (.ref x)) Q E s:=by
 unfold YY
 refine U1 (m:=ZR (.ref x) (WN "__bool__")) (U1 (U1 (I.type.here ((looks_findIn X c).here (U5 ?_)))))
 refine U1 (U1 (I.type.here ((looks_findIn X hs).here ?_)))
 refine(?_:Vh _ _ (runValue (.builtin "len" ⟨[.ref x],[]⟩) >>= _) _ _ _)
 refine U1 (wpAny_runValue (ZK entry_len ?_))
 refine(Xq plain_len _).symm▸(VH (mN X I hs hf h) (λd s' g=>?_) λa a e=>e)
 obtain⟨r,rfl,b⟩:=g
 cases r<;>first|exact b.elim|exact U5 b
end
end
end
section
open PySem.W (Frag findIn typeIn clsIn looks_findIn specialIn looks_specialIn)
def ki (c:Cx) (A:Vm) (T:bC):Prop:=∀a m,oN a T=UX m->(∃b,(a,b)∈c.KK/\((∃fd,b.data= .func fd)∨((∃d,b.data= .cls d)/\specialIn c.KK (.ref a) "__call__"=UX (UX (.builtin "type.__call__")))))/\
 ∀fz U vs xs,av fz U vs xs->eS c A fz U (m vs) (.call (.ref a) ⟨xs,[]⟩)
structure Aq (K:Frag) (t:aV):Prop extends ClTOK K t where
 fns:∀n f,lk n t.meths=UX (.con (.ref f))->typeIn K (.ref f)=UX (.type "function")
 nob:findIn K (.ref t.C) "__bool__"=UX UY
 acc:t.l=UZ->dm K t.C
def eG (K:Frag) (CL:List aV):Prop:=∀t∈CL,Aq K t
theorem eG.ok {K:Frag} (h:eG K CL):tZ K CL:=λt a=>(h t a).toClTOK
def asF (v:V) (k:U8->M α):M α:=match v with
 | .con (.ref f)=>k f
 |_=>fail
theorem OK.asF {k:U8->M α} {S:St} {K:α->St->List Prop->Prop} (h:∀f,v= .con (.ref f)->OK (k f S) K):OK (asF v k S) K:=by
 induction v with
 |con x=>cases x with
  |ref f=>exact h f rfl
  |_=>exact Vf
 |_=>exact Vf
def RD (T:bC) (CL:List aV) (nm:Vd) (v:V) (k:M V->M α) (r:U8×Nat×Option (List V)):M α:=qC CL r λt a=>cU (lk nm t.meths) λf=>asF f λf=>cU (oN f T) λm=>k (m [v])
def vS (T:bC) (CL:List aV) (nm:Vd) (v:V) (k:M V->M α) (a:M α):M α:=match v with
 | .ref i=>λS=>match S.H[i]? with
  |some o=>match j4 o with
   |some r=>RD T CL nm v k r S
   |none=>a S
  |none=>a S
 |_=>a
structure Pf (K:Frag) (nm:Vd) (f:U8) (h:Ve) (a:U8):Prop where
 ok:∃(C:U8) (ox:Xi) (od:Option Xi),Wq h a ox C od/\findIn K (.ref C) nm=UX (UX (.ref f))/\typeIn K (.ref f)=UX (.type "function")/\findIn K (.ref C) "__bool__"=UX UY
section
theorem rS {T:bC} {nm:Vd} {x:U4} {k:M V->M α} {d:M α} (t:U4->Xj β) (E:eG c.KK CL) (F:VR fz U v x) (j:ae c A fz U d (t x) R)
  (h:∀a f m,oN f T=UX m->∀S K,(∀b S' p,(ao p->∀fz' ρ' s Q,Le fz fz'->U <+:ρ'->SR c fz' ρ' S.H s->dc c fz' ρ' S'.H R b Q->Pf c.KK nm f s.heap a->VR fz' ρ' v (.ref a)->Vh (Vi c.prog c.w) A (t (.ref a)) Q bE s)->K b S' p)->OK (k (m [v]) S) K):ae c A fz U (vS T CL nm v k d) (t x) R:=by
 induction v with
 |ref i=>
  refine aj F.i_ref λa e n=>?_;subst e;refine ae.run λS K u=>?_;have j:OK (d S) K:=OK.got λb S' p e=>u _ _ _ (j S b S' p e);unfold vS;dsimp only;induction G:S.H[i]? with
  |none=>exact j
  |some o=>
   dsimp only;induction J:j4 o with
   |none=>exact j
   |some r=>refine OK.inst (c:=c) (fz:=fz) n G J λt Z L I=>OK.opt λg z=>OK.asF λf e=>OK.opt λm N=>h a f m N S K λb S' p O=>u _ _ _ λP fz' ρ' s Q k q B y=>O P fz' ρ' s Q k q B y ?_ (.ref (ai q n));subst e;have TX:=E t L;exact yf (I.ok _ _ _ k q B) λD da l nn g g5 W g7=>(ye (TX.meths nm _ z) λff tf X f2 f3 Y=>⟨_,D,_,(⟨g.1,g.2.1,g.2.2.1,g.2.2.2.symm▸W⟩:Wq s.heap a D t.C (UX (cK l nn))),X.trans (congrArg (λx=>UX (UX x)) (show ff= .ref f from(Y fz U).inv)),TX.fns nm f z,TX.nob⟩)
 |_=>exact j
theorem mO {m:M V} {S:St} {r:V} {p:List Prop} {R:U4->U9->Prop}
  (g:eS c A' fz' ρ' m (.call (.ref f) ⟨[.ref a],[]⟩)) (e:m S=UX (r,S1,p)) (i:ao p) (j:SR c fz' ρ' S.H s)
  (h:∀b r2 d z,Le fz' b->ρ' <+:r2->SR c b r2 S1.H d->VR b r2 r z->R z d):Vh (Vi c.prog c.w) A' (call (.ref f) [.ref a]) R bE s:=
 Xs (g S r S1 p e i fz' ρ' s _ (Le.refl _) (U6 _) j h)
def Mu (T:bC) (CL:List aV) (v:V):M V:=vS T CL "__len__" v (λm=>bnd m λr=>match r with
 | .int n=>dW (.int n) (0<=n/\n < 2^62)
 |_=>fail) (LV v)
def Mv (T:bC) (CL:List aV) (v:V):M V:=vS T CL "__str__" v (λm=>bnd m λr=>match r with
 | .str t=>ret (.str t)
 |_=>fail) (LY [v])
def Mw (T:bC) (CL:List aV) (v:V):M Bool:=vS T CL "__len__" v (λm=>bnd m λr=>match r with
 | .int n=>λS=>UX (!decide (n=0),S,[0<=n/\n < 2^62])
 |_=>fail) (LU v)
theorem H0 {n:Int} (h:n < 2^62):n < 2^63:=XH h (by decide)
theorem FA {T:bC} {x:U4} (o:eG c.KK CL) (p:ki c A.in1 T) (i:VR fz U v x):ae c A fz U (Mu T CL v) (call (.builtin "len") [x] []) au:=by
 refine rS (λx=>call (.builtin "len") [x] []) o i (JD i) λa f m u S K w=>OK.bnd λr J L B=>?_;induction r with
 |int n=>exact w _ _ _ λj d ρ' s Q M q k y e g=>jg e.ok λC N O I D h P=>J9 k.inK I D h (mO ((p f m u).2 d ρ' _ _ (.cons g .nil)) B (af.mp j).1 k λh E R z F G b H=>
   have l:=(af.mp j).2.1
   H.e_int λt=>⟨⟨l.1,H0 l.2⟩,y h E _ _ F G (b.ta b.hr) (.int _ _)⟩)
 |_=>exact Vf
theorem FB {T:bC} {x:U4} (k:eG c.KK CL) (l:ki c A.in1.in1 T) (o:A.units+64 < cLine) (i:VR fz U v x):ae c A fz U (Mv T CL v) (call (.type "str") [x] []) au:=by
 refine rS (λx=>call (.type "str") [x] []) k i (JH (.cons i .nil)) λa f m p S K u=>OK.bnd λr J L w=>?_;induction r with
 |str n=>exact u _ _ _ λB b ρ' s Q M q j y d e=>jg d.ok λC N O I D g P=>W.kso_call (by show A.units+1+1 < _;exact Vn (WH (by decide:2<=64) _) o) j.inK I D (by unfold W.isFn;refine ac g ?_;rfl) (mO ((l f m p).2 b ρ' _ _ (.cons e .nil)) w (af.mp B).1 j λg E R z F G h H=>H.e_str λt=>y g E _ _ F G h (.str _ _))
 |_=>exact Vf
theorem FC {T:bC} {x:U4} (o:eG c.KK CL) (p:ki c A.in1 T) (i:VR fz U v x):ae c A fz U (Mw T CL v) (YY x) gP:=by
 refine rS YY o i (JC i) λa f m u S K w=>OK.bnd λr L M B=>?_;induction r with
 |int n=>exact w _ _ _ λj d ρ' s Q N q k y e g=>jg e.ok λC O P I D h E=>Cy k.inK I E D h (mO ((p f m u).2 d ρ' _ _ (.cons g .nil)) B (af.mp j).1 k λh F R z G H b J=>
   have l:=(af.mp j).2.1
   J.e_int λt=>⟨⟨l.1,H0 l.2⟩,y h F _ _ G H (b.ta b.hr) (congrArg (!·) (fh n 0))⟩)
 |_=>exact Vf
theorem Ka {m:M V} (hf:∃b,(f,b)∈c.KK/\(∃cd,b.data= .cls cd)) (hs:specialIn c.KK (.ref f) "__call__"=UX (UX (.builtin "type.__call__"))) (h:eS c A fz U m (.call (.ref f) ⟨xs,[]⟩)):
  ae c A fz U m (ci k (.ref f) xs) au:=by
 refine aj hf λb g i=>bI i λcd j=>?_
 intro S v l p e n d ρ' s Q o q a y
 unfold ci ZV
 refine U1 (U1 (Zq (a.hr.fzle _ _ (a.hr.wd _ g)) ?_))
 refine ac j (U1 ((looks_specialIn a.inK hs).here ?_))
 exact ac (if_pos (by decide)) (U5 (eN (Xs (h S v l p e n d ρ' s _ o q a y))))
end
def lB (CL:List aV) (v:V):M (Nat×U8×Nat×List V):=asR v λi=>getO Fd i λr=>cU (yE r.1 CL) λt=>bX t.l (getO nJ r.2.1 λa=>ret (i,r))
noncomputable def nN (v:V) (S:St):Bool:=match v with
 | .ref i=>match S.H[i]? with
  |some (.inst _ _ (UX _))=>UZ
  |_=>U0
 |_=>U0
structure RE (c:Cx) (CL:List aV) (fz:Ve) (U:List U8) (H:List O) (s:U9) (i:Nat) (C:U8) (d:Nat) (xs:List V) (a da:U8) (od:Option Xi) (vs:List U4) (n:Nat):Prop where
 h:H[i]?=UX (.inst C d (UX xs))
 ha:U[i]?=UX a
 hda:U[d]?=UX da
 ob:s.heap.get? a=UX {cls:= .ref C,dict:=UX da,data:= .seq vs.toArray n,slots:= #[]}
 i:qD s.heap a C {cls:= .ref C,dict:=UX da,data:= .seq vs.toArray n,slots:= #[]} od vs.toArray n
 r:av fz U xs vs
 f:dm c.KK C
section
def Mx (c:Cx) (CL:List aV) (fz:Ve) (U:List U8) (H:List O) (i:Nat) (C:U8) (d:Nat) (xs:List V) (a:U8):Prop:=∀fz' ρ' s,Le fz fz'->U <+:ρ'->SR c fz' ρ' H s->∃da od vs n,RE c CL fz' ρ' H s i C d xs a da od vs n
theorem OK.acc {x:U4} {S:St} {K:Nat×U8×Nat×List V->St->List Prop->Prop} (u:eG c.KK CL) (w:VR fz U v x) (h:∀i C d xs a,x= .ref a->Mx c CL fz U S.H i C d xs a->K (i,C,d,xs) S []):OK (lB CL v S) K:=by
 induction v with
 |ref i=>refine aj w.i_ref λa e y=>OK.getO λo r f z=>OK.opt λt A=>OK.when λB=>OK.getO λN O D E=>h i r.1 r.2.1 r.2.2 a e λF ρ' s k q j=>?_;have e1:=yG z;have e2:=jG E;subst e1;subst e2;have l:=ai q y;refine aN (kG A) λG I=>aj (j.hr.at f rfl l) λP m g=>aj g λJ p L=>aG L λvs n e M=>aG (ju j D p) λb nn w1 Q=>?_;subst e;exact⟨J,UX (cK b nn),vs,n,f,l,p,m,⟨⟨m,rfl,rfl,w1⟩,rfl⟩,M,I▸(u t G).acc B⟩
 |_=>exact Vf
theorem ae.acc {k:Nat×U8×Nat×List V->M α} (t:U4->Xj β) {x:U4} (b:eG c.KK CL) (f:VR fz U v x)
  (h:∀i C d xs ad S K,(∀a S' p,(ao p->∀fz' ρ' s Q,Le fz fz'->U <+:ρ'->SR c fz' ρ' S.H s->dc c fz' ρ' S'.H R a Q->Mx c CL fz U S.H i C d xs ad->Vh (Vi c.prog c.w) A (t (.ref ad)) Q bE s)->K a S' p)->OK (k (i,C,d,xs) S) K):ae c A fz U (bnd (lB CL v) k) (t x) R:=
 ae.run λS K g=>OK.seq (OK.acc (c:=c) b f λi C d xs ad e X=>h i C d xs ad S _ λa S' p j=>g _ _ _ λl fz' ρ' s Q m q n y=>e▸j l fz' ρ' s Q m q n y X)
theorem yJ {C:U8} {vs ws:List U4} {n:Nat} {f:Array U4->Array U4} (b:h.get? a=UX {cls:= .ref C,dict:=UX da,data:= .seq vs.toArray n,slots:= #[]}) (hf:f vs.toArray=ws.toArray):
  ∃m,(h.update a (Xl f)).get? a=UX {cls:= .ref C,dict:=UX da,data:= .seq ws.toArray m,slots:= #[]}:=by
 have:=Xn (Xl f) b rfl
 refine ac this ?_
 unfold Xl
 dsimp only
 exact ac hf ⟨_,rfl⟩
def My (CL:List aV) (v u:V):M V:=bnd (lB CL v) λr S=>UX (.none,⟨S.H.set r.1 (.inst r.2.1 r.2.2.1 (UX (r.2.2.2++[u]))),S.orc⟩,[r.2.2.2.length<=1000])
def Mz (P:Vc) (CL:List aV) (vs:List V):M V:=mD vs λv u S=>match nN v S with
 |true=>My CL v u S
 |false=>L7 P vs S
theorem nO {n:Nat} (h:n<=1000):n<=Vb:=U3 h (by refine ac VO ?_;decide)
theorem FD (e:eG c.KK CL) {u:V} {x:U4} (g:VR fz U v x) (hz:VR fz U u z):ae c A fz U (My CL v u) (call (.builtin "list.append") [x,z] []) au:=
 ae.acc (λx=>call (.builtin "list.append") [x,z] []) e g λi C d w a S K j=>j _ _ _ λl o ρ' s Q k q b y X=>qa (X _ _ _ k q b) λp B vs n X=>z9 b.inK X.i X.f.f (nO (X.r.length.symm▸l.1:vs.length<=_)) (bI (yJ (f:=(·.push z)) (ws:=vs++[z]) X.ob (by simp)) λm t=>y.at (b.tz (b.hr.upd X.h rfl X.ha (VT ..) t ⟨p,X.hda,vs++[z],_,rfl,X.r.snoc (hz.mono k q)⟩)) .none)
theorem FE (b:eG c.KK CL) (a:av fz U vs xs):ae c A fz U (Mz c.w.params CL vs) (call (.builtin "list.append") xs []) au:=by
 rcases vs with _|⟨v,_|⟨w,_|_⟩⟩
 ·exact ae.fail
 ·exact ae.fail
 ·refine ae.alt ?_ (JN (c:=c) (A:=A) a);exact cy a.i2 λx z e d f=>e▸FD b d f
 ·exact ae.fail
def RF (CL:List aV) (v k:V):M V:=bnd (lB CL v) λr=>match k with
 | .int j=>match dg r.2.2.2 (dM r.2.2.2.length j) with
  |some u=>dW u (aK r.2.2.2.length j)
  |none=>fail
 |_=>fail
def MA (P:Vc) (CL:List aV) (v k:V):M V:=λS=>match nN v S with
 |true=>RF CL v k S
 |false=>vn P v k S
theorem oO {K:Frag} {x C:U8} {i:U4} {id:String} {ops:List U4} (X:K.In s.heap) (I:Wq s.heap x ox C od)
  (hl:findIn K (.ref C) "__getitem__"=UX (UX (.builtin id))) (h:Vh (Vi c.prog c.w) A (Yw (.ref x) i) Q E s)
  (hs:aa8 slice U0 (.ref x) i=PySem.operate ops (Yw (.ref x) i)):Vh (Vi c.prog c.w) A (WP value slice (.ref x) i) Q E s:=by
 unfold WP getitemInPython aaC
 refine U1 (U1 (U1 (I.type.here ((looks_findIn X hl).here ?_))))
 have d:Vh (Vi c.prog c.w) A (aa8 slice U0 (.ref x) i) (λr b=>Vh (Vi c.prog c.w) A (Y1 value (.ref x) r >>= λa=>pure r) Q E b) E s:=by exact ac hs (wpAny_operating (VH h (λr b e=>U1 (ZA (U5 e))) λa a x=>x))
 first
  |exact U5 (U1 d)
  |exact U1 (U5 (U1 d))
  |exact U1 d
theorem FF (D:eG c.KK CL) {k:V} {x:U4} (g:VR fz U v x) (m:VR fz U k y) (hs:∀l h s p,slice≠aag l h s p):ae c A fz U (MA c.w.params CL v k) (WP value slice x y) au:=by
 refine ae.alt (ae.acc (WP value slice · y) D g λi C d o a S K E=>?_) (yo (c:=c) (A:=A) (P:=c.w.params) g m hs (value:=value));induction k with
 |int j=>
  dsimp only;induction t:dg o (dM o.length j) with
  |none=>exact Vf
  |some w=>
   refine E _ _ _ λF G ρ' s Q H q b I X=>qa (X _ _ _ H q b) λL M vs n X=>?_;rw[eF] at t;refine aj (X.r.get t) λz B J=>?_;rw[<-X.r.length] at B;refine bI m.i_int λu e=>(ac e ?_)
   exact oO b.inK X.i.i X.f.gi (Aa b.inK X.i X.f (X.r.length.symm▸F.1:aK vs.length j) ((Wj).trans B) (I.at b J)) (jE hs)
 |_=>exact Vf
end
theorem xY (k n:Nat) (h:k<=n):aaj (UX ((k:Nat):Int)) UY UY n=(((k:Nat):Int),((n:Nat):Int),1):=by unfold aaj;simp;exact ac (if_neg (Int.not_lt.mpr (Vr _))) (ac (Int.min_eq_left (Int.ofNat_le.mpr h)) (Y9 (Vr _)))
theorem Ar (n:Nat):aaj UY UY UY n=(((0:Nat):Int),((n:Nat):Int),1):=by unfold aaj;simp
def RG (CL:List aV) (v l h:V):M V:=bnd (lB CL v) λr=>match l,h with
 | .int (.ofNat k), .none=>ej (.list (r.2.2.2.drop k)) [k<=r.2.2.2.length/\r.2.2.2.length<=1000]
 |_,_=>fail
def MB (CL:List aV) (v l h:V):M V:=λS=>match nN v S with
 |true=>RG CL v l h S
 |false=>Mb v l h S
noncomputable def H1:O->Option (List V)
 | .list xs=>UX xs
 |_=>UY
theorem FG {r:List V} (e:H1 o=UX r):o= .list r:=by
 induction o with
 |«list»=>exact congrArg O.list (U2 e)
 |_=>exact nn e
noncomputable def MC (l h:V) (xs ys:List V):Option (List V×Prop):=match l,h with
 | .none, .none=>UX (ys,xs.length+ys.length<=1000)
 | .int (.ofNat k), .none=>UX (xs.take k++ys,k<=xs.length/\xs.length+ys.length<=1000)
 |_,_=>UY
def MD (CL:List aV) (v l h u:V):M Unit:=bnd (lB CL v) λr=>asR u λj=>getO H1 j λys=>cU (MC l h r.2.2.2 ys) λz S=>UX ((),⟨S.H.set r.1 (.inst r.2.1 r.2.2.1 (UX z.1)),S.orc⟩,[z.2])
section
theorem av.drop (k:Nat) (h:av g U vs xs):av g U (vs.drop k) (xs.drop k):=by
 induction k generalizing vs xs with
 |zero=>exact h
 |succ k c=>induction vs with
  |nil=>exact h.e0 .nil
  |cons=>exact h.ec λa a a b=>c b
theorem av.take (k:Nat) (h:av g U vs xs):av g U (vs.take k) (xs.take k):=by
 induction k generalizing vs xs with
 |zero=>exact .nil
 |succ k d=>induction vs with
  |nil=>exact h.e0 .nil
  |cons=>exact h.ec λc c a b=> .cons a (d b)
theorem qH (x:SR c fz' ρ' H s) (k:Le s.heap h):SR c fz' ρ' H {s with heap:=h}:=(x.tz (x.hr.le k))
theorem FH (v:eG c.KK CL) {p:XQ} {a l h:V} {x:U4} (j:VR fz U a x) (hl:VR fz U l y) (m:VR fz U h z):ae c A fz U (MB CL a l h) (rL value lo hi p pos x y z) au:=by
 refine ae.alt (ae.acc (rL value lo hi p pos · y z) v j λi C d H ad S K q=>?_) (JS j hl m);induction l with
 |int k=>induction k with
  |negSucc=>exact Vf
  |ofNat k=>induction h with
   |none=>
    refine q _ _ _ λw B ρ' s Q D E F G X=>?_;clear q;refine bI hl.i_int λt e=>(ac e ?_)
    refine ac m.i_none ?_;have g:=qH F (h:=s.heap.push {cls:= .type "slice",data:= .fields [aaF (.ofNat k) t, .none, .none].toArray}) λb o e=>Vy _ e;refine qa (X _ _ _ D E g) λI J vs n X=>?_;have u:k<=vs.length/\vs.length<=1000:=X.r.length.symm▸w.1;refine U1 (V7 (hd:=by size_fits) (U1 (VM (oO g.inK X.i.i X.f.gi (vI (lo:=UX ((k:Nat):Int)) (hi:=UY) (st:=UY) g.inK X.i X.f (Z5 ..) (.int _ _) .none .none (by simp) ?_ (nO u.2)) (ops:=[.ref s.heap.objs.size, .ref ad]) (by rfl)))));exact ac (slicePick_from _ k u.1) (dc.new (ob:=bT (vs.drop k) 0) G g rfl (bL (vs.drop k) 0 rfl ((X.r.drop k).mono (Le.refl _) (Vp _ _))) rfl (Vt _))
   |_=>exact Vf
 |_=>exact Vf
theorem Kb {l h:V} {xs ys:List V} {z:List V×Prop} {u:U4} (e:MC l h xs ys=UX z) (hl:VR fz U l y) (a:VR fz U h u) (hz:z.2):∃lo k,aci y lo/\u= .none/\k<=xs.length/\xs.length+ys.length<=1000/\aaj lo UY UY xs.length=((k:Int),(xs.length:Int),1)/\z.1=xs.take k++ys:=by
 induction l with
 |none=>induction h with
  |none=>obtain rfl:=U2 e;exact(QP UY 0 (hl.i_none▸ .none) a.i_none (W4 _) hz (Ar _) rfl)
  |_=>exact nn e
 |int k=>induction k with
  |negSucc=>cases h<;>exact nn e
  |ofNat k=>induction h with
   |none=>obtain rfl:=U2 e;exact(QP (UX k) k (hl.e_int λt=> .int _ _) a.i_none hz.1 hz.2 (xY _ _ hz.1) rfl)
   |_=>exact nn e
 |_=>exact nn e
noncomputable abbrev ME (pos:XQ) (u x y z:U4):Xj Unit:=abd "slice" [y,z, .none] >>= λi=>WM pos >>= λa=>ZQ [u,x,i] (Y0 x i u) >>= λa=>acF [i,u,x] []
theorem FJ (N:eG c.KK CL) {a l h:V} {x u:U4} (O:VR fz U a x) (hl:VR fz U l y) (P:VR fz U h z) (E:VR fz U v u):ae c A fz U (MD CL a l h v) (ME pos u x y z) dJ:=by
 refine ae.acc (ME pos u · y z) N O λi C d xs ad S K F=>?_;induction v with
 |ref j=>
  refine aj E.i_ref λG e R=>?_;subst e;clear E;refine OK.getO λo ys w B=>OK.opt λzs T=>F _ _ _ λW Y ρ' s Q Z H I yy X=>?_;clear F;have e:=FG B;subst e;refine QT (Kb T hl P W.1) λlo k hp e p J L e2=>(e.symm▸ ?_)
  have g:=qH I (h:=s.heap.push {cls:= .type "slice",data:= .fields [y, .none, .none].toArray}) λb o e=>Vy _ e;refine qa (X _ _ _ Z H g) λda od vs n X=>?_;have q:=ai H R;refine aj (g.hr.at w rfl q) λob g2 θ=>aG θ λt m e M=>?_;subst e;have D:G≠ad:=λhe=>by have p:=X.h;simp only[<-g.hr.inj j i _ _ G w rfl X.h rfl q (he▸X.ha),w] at p;exact nomatch p
  rw[<-X.r.length] at p J L;refine U1 (V7 (hd:=by size_fits) (U1 (VM (U1 (Vq (xU (lo:=lo) (a:=k) g.inK X.i X.f (Z5 ..) hp L p g2 rfl rfl D (λf hf=>i8 ?_) (show vs.length+t.length<=1000 from M.length.symm▸J)))))));exact bI (yJ (f:=f) (ws:=vs.take k++t) X.ob (by refine ac hf ?_;simp)) λmm hg=>yy.at (I.tz (g.hr.upd X.h rfl X.ha (VT ..) hg ⟨da,X.hda,vs.take k++t,_,rfl,e2.symm▸av.app (X.r.take k) M⟩)) trivial
 |_=>exact Vf
end
end
section
open PySem.W (Frag findIn typeIn clsIn looks_findIn specialIn looks_specialIn InitBack makesIn makes_of make_core instObj emptyDict bind_fn)
theorem aP.new {n:Nat} {C:U8} (x:aP (n+1) A):aP n (A.under (.builtin "type.__call__" ⟨.ref C::rest,[]⟩)):=
 ⟨by show A.depth+1+n < _;have:=x.depth;lia,by have e:(Code.builtin "type.__call__" ⟨.ref C::rest,[]⟩).cUnits<=9:=Wf (by rfl');refine(?_:A.units+(Code.builtin "type.__call__" ⟨.ref C::rest,[]⟩).cUnits+10*n+100 < _);have:=x.units;lia,x.handled⟩
structure lC (K:Frag) (l:Bool) (C f:U8):Prop where
 mak:(match l with|true=>pe K C|false=>makesIn K C)=UZ
 ini:findIn K (.ref C) "__init__"=UX (UX (.ref f))
 fn:typeIn K (.ref f)=UX (.type "function")
noncomputable def MF (l:Bool):Option (List V):=match l with
 |true=>UX []
 |false=>UY
def vT (l:Bool) (C:U8) (a:List V->M V) (vs:List V):M V:=λS=>
 bnd (a (.ref (S.H.length+1)::vs)) (λr=>match r with
  | .none=>ret (.ref (S.H.length+1))
  |_=>fail) ⟨S.H++[.dict []]++[.inst C S.H.length (MF l)],S.orc⟩
section
theorem FK {l:Bool} {C:U8} {O:List V->M V} (N:lC c.KK l C f) (T:av fz U vs xs)
  (W:∀fz U vs xs C rest,av fz U vs xs->eS c (A.under (.builtin "type.__call__" ⟨.ref C::rest,[]⟩)) fz U (O vs) (.call (.ref f) ⟨xs,[]⟩)):
  eS c A fz U (vT l C O vs) (.call (.ref C) ⟨xs,[]⟩):=by
 intro S v S' p e Y i ρ' s R k q B y
 unfold vT at e
 refine ez (bA e) λr Z p1 p2 e1 P j=>?_
 subst j
 obtain⟨D,a0⟩:=af.mp Y
 have k1:Le s.heap (s.heap.push emptyDict):=λb o e=>Vy _ e
 have g:ρ'.length=S.H.length:=B.hr.len
 have n:(ρ'++[s.heap.objs.size])[S.H.length]?=UX s.heap.objs.size:=bj g.symm
 have E:(s.heap.push emptyDict).objs.size=s.heap.objs.size+1:=ab6 ..
 have t:∀m,(s.heap.push emptyDict).get? s.heap.objs.size=UX emptyDict->m.isFreed=U0->(OR c.w.params i (ρ'++[s.heap.objs.size]++[(s.heap.push emptyDict).objs.size]) (.inst C S.H.length (MF l)) (s.heap.push emptyDict).objs.size m)->
   XB (Vi c.prog c.w) (A.under (.builtin "type.__call__" ⟨.ref C::xs,[]⟩)) (.call (.ref f) ⟨.ref (s.heap.objs.size+1)::xs,[]⟩) (InitBack (s.heap.objs.size+1) R) {s with heap:=(s.heap.push emptyDict).push m}:=λm a F G=>by
  have h2:=(B.hr.push emptyDict (.dict []) rfl (bL ([]) 0 rfl .nil)).push m (.inst C S.H.length (MF l)) F G
  have z:ρ' <+:ρ'++[s.heap.objs.size]++[(s.heap.push emptyDict).objs.size]:=((Vp _ _:ρ' <+:ρ'++[s.heap.objs.size])).trans (Vp _ _)
  have h:(ρ'++[s.heap.objs.size]++[(s.heap.push emptyDict).objs.size])[S.H.length+1]?=UX (s.heap.objs.size+1):=by exact ac (bj (ac Va (ac g rfl))) (ac E rfl)
  refine W i (ρ'++[s.heap.objs.size]++[(s.heap.push emptyDict).objs.size]) (.ref (S.H.length+1)::vs) _ C xs (.cons (.ref h) ((T.mono k q).mono (Le.refl _) z)) _ r Z p1 e1 D i _ {s with heap:=(s.heap.push emptyDict).push m} _ (Le.refl _) (U6 _) (B.tz h2) λf3 r3 s3 x k3 Q I J=>?_
  induction r with
  |none=>cases J;refine b9 (db P) λj K L=>?_;subst j;subst K;subst L;exact⟨rfl,y f3 r3 s3 _ k3 (z.trans Q) I (.ref (ai Q h))⟩
  |_=>exact nn P
 have X:=B.inK
 obtain⟨hh,gg,dd,tt,oo⟩:=s
 induction l with
 |true=>exact Mm (Cp X N.mak) (looks_findIn X N.ini) (λd=>bind_fn X d N.fn) (t _ (VX _ rfl) rfl ⟨_,ai (Vp _ _) n,[],0,rfl, .nil⟩)
 |false=>exact make_core (makes_of X N.mak) (looks_findIn X N.ini) (λd=>bind_fn X d N.fn) (.inl rfl) (t _ (VX _ rfl) rfl (aA _ (ai (Vp _ _) n) rfl))
end
end
section
open PySem.W (Frag findIn typeIn clsIn findObj lookIn ownOf takesIn looks_findIn looks_find specialIn looks_specialIn handedIn handedOut_of mroIn looks_mroIn fn_get methodObj copiedNames)
section
structure iB (K:Frag) (C f:U8) (nm:Vd):Prop where
 find:findIn K (.ref C) nm=UX (UX (.ref f))
 get:specialIn K (.ref f) "__get__"=UX (UX (.builtin "function.__get__"))
 data:takesIn K (.ref f)=UX U0
 cop:copiedNames.contains nm=U0
 fn:typeIn K (.ref f)=UX (.type "function")
section
variable {K:Frag} {x C:U8} {name:Vd} {expr:Bool} 
theorem Cz {l:Bool} (a:bV K C l) (B:iB K C f name) (hl:∃o,od=UX o/\lookIn name o=UX UY):findObj K C od name=UX (.bind (.builtin "function.__get__") (.ref f)):=by
 refine ca a.cd λb c d e=>?_;obtain⟨o,rfl,hl⟩:=hl;dsimp only[findObj];refine ac c (ac B.find ?_);simp only[Wg];refine ac B.get ?_;simp only[Wg];refine ac B.data ?_;simp only[Wg];have:W.ownOf b (UX o) name=UX UY:=by dsimp only[W.ownOf];exact ac (if_pos d) hl
 refine ac this ?_;simp only[Wg,B.cop,ab7,Xk,if_false]
theorem CA (X:K.In s.heap) (I:Wq s.heap x ox C od) (a:bV K C UZ) (B:iB K C f name) (hl:∃o,od=UX o/\lookIn name o=UX UY)
  (h:Q (.ref s.heap.objs.size) {s with heap:=s.heap.push (methodObj (.ref f) (.ref x)),toks:=s.toks+1}):
  Vh (Vi J w) A (aaK (.ref x) name expr) Q E s:=by
 refine ca a.cd λm c n e=>?_
 obtain⟨i,g,d,t,os⟩:=s
 have b:=I.type (M:=Vi J w)
 have j:=looks_findIn (M:=Vi J w) X a.gx
 have k:=looks_find (M:=Vi J w) X I (Cz a B hl)
 unfold aaK getAttrBy
 refine U1 (Y2 (Vq (U1 (b.at (U1 ((looks_findIn (M:=Vi J w) X a.ga).at ?_))))))
 refine(?_:Vh _ _ (YM _ _ _ _ _ _) _ _ _)
 dsimp only[YM]
 refine U1 (j.at (U1 (Zw (Vq ?_))))
 dsimp only[acj]
 refine ac (show(expr&&onTheHeap (ack (HY UZ)))=U0 from by cases expr<;>rfl) (ac (if_neg (by decide)) ?_)
 refine(?_:Vh _ _ (ZZ (.builtin "list.__getattribute__") _ _) _ _ _)
 dsimp only[ZZ]
 refine U1 ?_
 rw[F.slot_list_getattribute.bind]
 have l:aai "list.__getattribute__"=UX ("list","__getattribute__"):=by decide+kernel
 refine U5 (Xs ?_)
 refine ZB F.slot_list_getattribute.plain F.entry_list_ga (@W.check_slot (Vi J w) _ _ _ "list.__getattribute__" "list" "__getattribute__" (.ref x) [.str name t] [] _ (by decide+kernel:WC "list.__getattribute__"=UX .slot) l (b.andThen (looks_mroIn X (by dsimp only[mroIn];refine ac c ?_;rw[Wg];refine ac e ?_;rfl)):W.Looks (Vi J w) i (Yt (.ref x) (.type "list")) UZ) (acx _ _) ?_)
 unfold Builtin.«object.__getattribute__»
 refine U1 (U5 (U1 (U5 (U1 (b.at (U1 (k.at ?_)))))))
 refine U1 (Vq ?_)
 refine Xs (fn_get X B.fn ?_)
 refine U5 (?_:Vh _ _ (handedOut _) _ _ _)
 exact U5 h
end
noncomputable def As:Option Wm->Bool
 |some .local=>UZ
 |_=>U0
theorem vU {o:Option Wm} (e:As o=UZ):o=UX .local:=by
 induction o with
 |none=>exact ff e
 |some k=>induction k with
  |«local»=>rfl
  |_=>exact ff e
def H2 (T:bC) (CL:List aV) (C:Ec) (nm y:Vd) (r:Nat×U8×Nat×List V):M (V×(List V->M V)):=cU (yE r.2.1 CL) λt=>getO nJ r.2.2.1 λes=>getO qB C.fid λl=>bX (As (kd y C.names)) (cU (lk nm t.meths) λu=>asF u λf=>bX (lk nm es).isNone (cU (lk y l) λb=>cU (oN f T) λm=>ret (b,m)))
structure Pg (c:Cx) (T:bC) (CL:List aV) (C:Ec) (nm y:Vd) (r:Nat×U8×Nat×List V) (H:List O) (z:V×(List V->M V)):Prop where
 ok:∃f es l,iB c.KK r.2.1 f nm/\oN f T=UX z.2/\H[r.2.2.1]?=UX (.dict es)/\lk nm es=UY/\H[C.fid]?=UX (.frame l)/\lk y l=UX z.1/\kd y C.names=UX .local
theorem FL {T:bC} {C:Ec} {nm y:Vd} {r:Nat×U8×Nat×List V} {S:St} {K:V×(List V->M V)->St->List Prop->Prop} (d:∀t∈CL,∀f,lk nm t.meths=UX (.con (.ref f))->iB c.KK t.C f nm) (h:∀z,Pg c T CL C nm y r S.H z->K z S []):OK (H2 T CL C nm y r S) K:=
 OK.opt λt a=>OK.getO λo g i j=>OK.getO λx l k n=>OK.when λp=>OK.opt λu q=>OK.asF λf e=>OK.when λs=>OK.opt λb v=>OK.opt λm w=>h (b,m) ⟨f,g,l,(kG a).2▸d t (kG a).1 f (aD e q),w,i.trans (congrArg UX (jG j)),Option.isNone_iff_eq_none.mp s,k.trans (congrArg UX (mI n)),v,vU p⟩
def H3 (T:bC) (CL:List aV) (C:Ec) (F:bP) (v:Vv) (nm y:Vd):M V:=bnd (F.ev v) λa=>bnd (lB CL a) λr=>bnd (H2 T CL C nm y r) λz=>bnd (look z.1) λq=>bX (!q.1) (cU q.2.all λc=>bnd (need (c.length<=1000)) λb=>z.2 (a::c))
section
variable {C:Ec} 
theorem OK.look' {S:St} {K:Bool×SV->St->List Prop->Prop} (h:∀r,(∀{fz' ρ' s x},SR c fz' ρ' S.H s->VR fz' ρ' v x->∃a xs n,x= .ref a/\s.heap.get? a=UX (eT r.1 xs n)/\cq fz' ρ' r.2 xs)->K r S []):OK (Mine.Internal.look v S) K:=by
 induction v with
 |dat d=>
  refine(?_:OK ((match gT d with|some r=>ret r|none=>fail) S) K);induction b:gT d with
  |none=>exact Vf
  |some r=>exact h r λ{_ ρ' _ _} f g=>gO (iA (U:=ρ') b g.i_dat) λa xs n e e2 e3=>⟨a,xs,n,e,f.hr.fzle _ _ e2,e3⟩
 |ref l=>exact OK.lookR (c:=c) λr i=>h r λf g=>aj g.i_ref λa e j=>aG (i _ _ _ _ f j) λxs n b k=>⟨a,xs,n,e,b,k⟩
 |_=>exact Vf
theorem rU {Q:Bool->U9->Prop} {x:U4} (a:s.TypeIs x "tuple") (h:Q U0 s):Vh Mo A (acn x) Q E s:=by dsimp only[acn];refine U1 (Xc a PySem.F.slot_tuple_iter.lookup ?_);exact U5 h
theorem FM {T:bC} (G:bM c A C Z fz U) (IH:bG c A C Z F) (hC:eG c.KK CL) (hT:ki c A T) {v:Vv} {nm y:Vd} {ps:XQ} (hv:fD v=U0) (hy:ew y=U0)
  (hB:∀t∈CL,∀f,lk nm t.meths=UX (.con (.ref f))->iB c.KK t.C f nm):
  ae c A fz U (H3 T CL C F v nm y) (Ws (.Call (.Attribute v nm ap) [.Starred (.Name y py) ps] [] pos) Z) au:=by
 rw[adg];refine ac (fu hv) ?_
 refine ae.bind (IH.ev _ _ G v) λf1 r1 a x k1 q1 ha=>ae.stand ?_
 refine ae.run λS K hK=>OK.seq (OK.acc (c:=c) hC ha λi Cl d xs ad e X=>OK.seq (FL hB λz P=>OK.seq (OK.look' (c:=c) λr R=>OK.when λht=>OK.opt λus hu=>OK.need (OK.got λw S' p6 e6=>hK _ _ _ λhp h ρ' s Q kk q p yy=>?_))))
 subst e
 clear hK
 refine aN hp λu V=>?_
 have u:us.length<=1000:=u
 refine qa (X _ _ _ kk q p) λda od vs n X=>(ky P.ok λf es l θ=>yd θ λB g4 h2 g2 h3 D=>?_)
 have h4:=D.2
 refine aG (ju p h2 X.hda) λW nn w1 w2=>?_
 have l1:=(iS (n:=nn) w2).2 g2
 have I:Wq s.heap ad {cls:= .ref Cl,dict:=UX da,data:= .seq vs.toArray n,slots:= #[]} Cl (UX (cK W nn)):=⟨X.ob,rfl,rfl,w1⟩
 dsimp only[methodCall]
 refine U1 (Vq ?_)
 have Y:aa7 ([(acA y py).Starred ps].length+([]:List Keyword).length) (XW pos (WQ [(acA y py).Starred ps] Z)) (backToKw pos (acr [] Z))=U0:=rfl
 refine(Y).symm▸ ?_
 dsimp only[calleeOf]
 refine(if_neg VV).symm▸(U1 (CA p.inK I X.f.f B (aA _ rfl l1) ?_))
 refine U5 ?_
 dsimp only
 dsimp only[adh]
 refine U1 (U5 ?_)
 have E:Le s.heap (s.heap.push (methodObj (.ref f) (.ref ad))):=λb o e=>Vy _ e
 have j:SR c h ρ' S.H {s with heap:=s.heap.push (methodObj (.ref f) (.ref ad)),toks:=s.toks+1}:=(p.ta (p.hr.le E))
 refine aj (gv j h3 (ai q (ai q1 G.eo.loc))) λmm hn hm=>(aj (d6.i_some (aD (D.1) (hm y))) λz h5 a0=>?_)
 refine gO (R j a0) λbd ys nb a1 j1 j2=>?_
 subst a1
 rw[(XX r.1▸ht:r.1=U0)] at j1
 have J:=j2.all hu
 dsimp only[Y3]
 refine U1 (Vq ?_)
 dsimp only[evalArgs]
 refine U1 ?_
 refine ac (if_pos rfl) ?_;refine ac (jX hy) ?_
 have a6:Le s.heap {s with heap:=s.heap.push (methodObj (.ref f) (.ref ad)),toks:=s.toks+1}.heap:=E
 refine U1 (U1 (VM (WF G.eo.kind (((by rw[fK];refine aD G.eo.names ?_;rfl:Z.kindOf y=kd y C.names)).trans h4) hn h5 ?_)))
 refine U1 (VM (U5 (U1 (U5 ?_))))
 dsimp only
 refine Vq ?_
 have L:Shared.TypeIs {s with heap:=s.heap.push (methodObj (.ref f) (.ref ad)),toks:=s.toks+1} (.ref bd) "tuple":=(aA _ j1 rfl)
 have a2:backToKw pos (acr [] Z)=[]:=rfl
 refine(a2).symm▸ ?_
 refine U1 (U5 ?_)
 refine U1 (U1 (rU L ?_))
 refine(if_neg VV).symm▸ ?_
 refine Vq (wpAny_collect_seq bd (.inr rfl) j1 rfl rfl (λh' M=>?_) (by refine ac VJ ?_;refine ac (J.length) ?_;refine ac VO ?_;lia))
 refine U5 (U1 (VM ?_))
 have N:h'.get? s.heap.objs.size=UX (methodObj (.ref f) (.ref ad)):=M _ _ (VX _ rfl)
 refine aj (Option.map_eq_some_iff.mp B.fn) λfo a7 a8=>?_
 have k:=qH j M
 dsimp only[ZV]
 refine U1 (U1 (Zq N ?_))
 dsimp only
 rw[if_neg (by decide)]
 refine aN (hT f _ g4) λO a3=>?_
 obtain⟨m,a4,a9⟩:=O
 refine(?_:Vh _ _ (load f >>= _) _ _ _)
 refine U1 (Zq (k.hr.fzle _ _ (k.hr.wd (f,m) a4):h'.get? f=UX m) (U5 ?_))
 have a5:Vh (Vi c.prog c.w) A (call (.ref s.heap.objs.size) ys []) Q bE {s with heap:=h',toks:=s.toks+1}:=by refine Xs (ks_codeAny_call_bound N ?_);exact a3 h ρ' (a::us) (.ref ad::ys) (.cons (ha.mono kk q) J) _ w S' p6 e6 V h ρ' _ _ (Le.refl _) (U6 _) k yy
 refine((rfl:((XW pos (WQ [(acA y py).Starred ps] Z)).any (·.1)||([]:List (Option Vd×Xj U4)).any (·.1.isNone))=UZ)).symm▸ ?_
 cases hd:m.data<;>exact eN (ix a5)
end
end
end
section
section
theorem qI {l b:U8} (x:h.IsList l items) (hs:X3 b h h') (a:l≠b):h'.IsList l items:=
 aj x λo c r=>(aA o (hs l o a c) r)
theorem CB {t:U8} (j:t≠it) (n i:Nat) (s:U9) (Q:List U4->U9->Prop) (e:s.heap.IsListIter it t i) (k:s.heap.IsList t items) (f:i+n<=items.size)
  (l:∀h',h'.IsListIter it t (i+n)->WU it s.heap h'->Q ((items.toList.drop i).take n) {s with heap:=h'}):Vh (Vi J w) A (draw (.ref it) n) Q E s:=by
 induction n generalizing i s Q with
 |zero=>refine(?_:Vh _ _ (pure []) Q E s);exact U5 (l s.heap e (Heap.SameBut.refl ..))
 |succ n o=>have g:i < items.size:=Vn (Vo _ _) f;refine(?_:Vh _ _ (aaM (.ref it) >>= _) Q E s);refine U1 (wpAny_pyNext_list_item e k (x:=items[i]) (by simp[g]) λm b a=>?_);refine U1 (Vq (o (i+1) _ _ b (qI k a.extBut j) (U3 (Vg (VW ..)) f) λh c d=>U5 ?_));have:=l h (VW i 1 n▸c) (a.trans d);rw[(by simp[List.drop_eq_getElem_cons,g]:items.toList.drop i=items[i]::items.toList.drop (i+1)),adk] at this;exact this
theorem pk {t:U8} {Q:List U4->U9->Prop} (n:A.handled=UY) (k:s.heap.IsList t items)
  (p:∀h',X3 s.heap.objs.size s.heap h'->Q items.toList {s with heap:=h'}):Vh (Vi J w) A (aa5 (.ref t) items.size UY) Q E s:=by
 have f:t≠s.heap.objs.size:=by obtain⟨o,l,_⟩:=k;exact aan (We l)
 dsimp only[aa5]
 refine U1 ?_
 dsimp only[acn]
 refine U1 (Xc k.typeIs F.slot_list_iter.lookup ?_)
 refine U5 ?_
 simp only[Xk,if_false]
 refine U1 (Vq (abW k ?_))
 have g:(s.heap.push {cls:= .type "list_iterator",data:= .fields #[.ref t, .int 0 0]}).IsList t items:=aj k λo l r=>(aA o (Vy _ l) r)
 refine U1 (Vq (CB f items.size 0 _ _ (cE _ (VX _ rfl) rfl rfl) g (by lia) λh c a=>?_))
 have i:List.take items.size (List.drop 0 items.toList)=items.toList:=by refine ac aaH ?_;exact aak (by simp)
 refine ac i (ac (if_neg (by simp)) ?_)
 refine U1 (Vq (wpAny_pyNext_list_end n c (qI g a.extBut f:h.IsList t items) (by simp) λj d=>?_))
 simp only[Option.isSome_none,Xk,if_false]
 refine U5 (p j λb o m e=>d b o m (a.extBut b o m (Vy _ e)))
end
def SV.allX:SV->Option (List V)
 | .ss xs=>UX (xs.map .str)
 |sv=>sv.all
def MG (v:V) (n:Nat):M (List V):=bnd (look v) λr=>cU r.2.allX λxs=>bX (VC xs.length n) (ret xs)
noncomputable def guess:Nat->Nat->M Nat
 |0,_=>fail
 |n+1,k=>λS=>match S.orc with
  |[]=>UY
  |true::r=>UX (k,⟨S.H,r⟩,[])
  |false::r=>guess n (k+1) ⟨S.H,r⟩
def CC (N:List Vd) (vs:List V):M V:=EC vs λv w u=>asS v λx=>asS w λy=>asI u λk=>bnd (guess 5 0) λj=>cU (dg N j) λa=>ej (.strs [a,Wt x (UX (a.length+y.length:Nat)) UY])
    [(decide (k < -(2^63:Int))||decide (k≥2^63))=U0/\(decide (x.length < y.length)||decide (Xr x < Xr y))=U0/\(y.length==0)=U0/\(Yh x y 0 x.length (limitOf x k)).isEmpty=U0/\
     x.length<=Vb/\abo x (Yh x y 0 x.length (limitOf x k)) y.length=[a,Wt x (UX (a.length+y.length:Nat)) UY]]
section
theorem cq.allX {sv:SV} (h:cq g U sv xs) (e:sv.allX=UX vs):av g U vs xs:=by
 induction sv with
 |ss l=>
  obtain rfl:=U2 e;have:∀{l:List Vd} {xs:List U4},dk l xs->av g U (l.map V.str) xs:=λ{l}=>by
   induction l with
   |nil=>exact λh=>h.i0.symm▸ .nil
   |cons d r a=>exact λh=>aG h.ic λt u e b=>e.symm▸ .cons (.str _ _) (a b)
  exact this h
 |_=>exact h.all e
theorem FO (g:A.handled=UY) {x:U4} {n:Nat} (l:VR fz U v x):ae c A fz U (MG v n) (aa5 x n UY) zI:=by
 refine ae.look (t:=(aa5 · n UY)) l λr ad S K o=>OK.opt λvs p=>OK.when λu=>o _ _ _ λC w ρ' s Q k q h y e m i z=>?_;have a:=z.allX p;refine aD (a.length.trans (VK u):e.length=n) ?_;have d:∀f,X3 s.heap.objs.size s.heap f->Q e {s with heap:=f}:=λf B=>y.at (h.tz (h.hr.le (B9 B))) a;obtain⟨b,sv⟩:=r;induction b with
 |true=>exact pk (items:=e.toArray) g ⟨_,i,rfl,m,rfl⟩ d
 |false=>exact unpackItems_tuple (items:=e.toArray) g ⟨_,i,rfl,m,rfl⟩ d
theorem OK.guess {n:Nat}:∀{k:Nat} {S:St} {K:Nat->St->List Prop->Prop},(∀j orc,K j ⟨S.H,orc⟩ [])->OK (Mine.Internal.guess n k S) K:=by
 induction n with
 |zero=>exact λa=>Vf
 |succ n c=>
  intro k S K h;obtain⟨H,orc⟩:=S;induction orc using VG with
  |nil=>exact Vf
  |cons b r=>cases b with
   |true=>exact h k r
   |false=>exact c h
theorem vV (l:List Vd):∀t:ZP,dk l (strsFrom t l):=by
 induction l with
 |nil=>exact λa=> .nil
 |cons x r b=>exact λt=> .cons (b (t+1))
theorem CD {N:List Vd} (b:av fz U vs xs):ae c A fz U (CC N vs) (call (.builtin "str.split") xs []) au:=by refine(ae.call3 (t:=λxs=>call (.builtin "str.split") xs []) b ?_:);intro v w u x y z d e f;refine(ae.asS (t:=λx=>call (.builtin "str.split") [x,y,z] []) d ?_:);intro x t;refine(ae.asS (t:=λy=>call (.builtin "str.split") [.str x t,y,z] []) e ?_:);intro y u;refine(ae.asI (t:=λz=>call (.builtin "str.split") [.str x t, .str y u,z] []) f ?_:);refine λk v=>ae.run λS K g=>OK.seq (OK.guess λj h=>OK.opt λnm D=>g _ _ _ λi l ρ' s Q E q m n=>?_);refine yd i.1 λo p r B C a=>?_;refine YO PySem.F.slot_str_split (XD _ _ _) PySem.F.entry_str_split (PySem.F.args_str_split_3 _ _ _) (meets_str_split_sep_max x y k t u v o p r B C (by refine ac a (ac VO ?_);show(2:Nat)<=16777216;decide)) ?_;exact ac a (n.new m rfl (bL _ 0 rfl (vV _ _)) rfl (Vo _ _))
end
section
def KV (g:Ve) (U:List U8):List (Vd×V)->List (Vd×U4)->Prop
 |[],l=>l=[]
 |(k,v)::r,l=>∃x s,l=(k,x)::s/\VR g U v x/\KV g U r s
theorem KV.nil:KV g U [] []:=rfl
theorem KV.cons {k:Vd} {x:U4} {r:List (Vd×V)} {s:List (Vd×U4)} (a:VR g U v x) (b:KV g U r s):KV g U ((k,v)::r) ((k,x)::s):=(cY x s rfl a b)
def iK (x:Vd):List Vd->Bool
 |[]=>U0
 |y::r=>match sq x y with
  |true=>UZ
  |false=>iK x r
def iU:List Vd->Bool
 |[]=>UZ
 |x::r=>match iK x r with
  |true=>U0
  |false=>iU r
noncomputable def ge :List (Vd×α)->List Vd
 |[]=>[]
 |(k,_)::r=>k::ge r
theorem mP:∀(es:List (Vd×α)),(ge es).length=es.length
 |[]=>rfl
 |(k,d)::r=>congrArg (· +1) (mP r)
theorem CE {x:Vd} {l:List Vd} (e:iK x l=U0):x∉l:=by
 induction l with
 |nil=>exact nofun
 |cons y r b=>
  have e:(match sq x y with|true=>UZ|false=>iK x r)=U0:=e;induction a:sq x y with
  |true=>rw[a] at e;exact tf e
  |false=>rw[a] at e;exact λh=>(List.mem_cons.mp h).elim (cg.mp a) (b e)
theorem mQ {l:List Vd} (e:iU l=UZ):l.Nodup:=by
 induction l with
 |nil=>exact .nil
 |cons x r b=>
  have e:(match iK x r with|true=>U0|false=>iU r)=UZ:=e;induction a:iK x r with
  |true=>rw[a] at e;exact ff e
  |false=>rw[a] at e;exact List.nodup_cons.mpr ⟨CE a,b e⟩
section
theorem KV.i0 (h:KV g U [] kvs):kvs=[]:=h
theorem KV.ic {k:Vd} {r:List (Vd×V)} (h:KV g U ((k,v)::r) kvs):∃x s,kvs=(k,x)::s/\VR g U v x/\KV g U r s:=h
theorem KV.keys:∀{kvs:List (Vd×U4)},KV g U es kvs->kvs.map (·.1)=ge es:=by
 induction es with
 |nil=>exact λh=>congrArg (YL _) h
 |cons p r c=>exact λh=>cy h λx s e a b=>e▸congrArg (p.1::·) (c b)
theorem ER.kv:∀{des:List Wi},ER g U w.params es des->∃kvs,KV g U es kvs/\Pairs (WK J w) des kvs/\∀e∈des,∃k,(WK J w).is k e.key=UZ/\e.hash=(WK J w).hash k:=by
 induction es with
 |nil=>exact λh=>h.i0.symm▸⟨[], .nil, .nil,λc h=>nomatch h⟩
 |cons p r i=>
  obtain⟨k,v⟩:=p;intro des h;refine gO h.ic λt x q d a b=>(ac d ?_)
  refine ca (i b) λkvs j l m=>(cE _ (.cons a j) (.cons (acU ..) rfl l) (λe f=>?_))
  rcases List.mem_cons.mp f with rfl|f
  ·exact(aA k (acU ..) rfl)
  ·exact m e f
theorem KV.er:∀{kvs:List (Vd×U4)} {des:List Wi},KV g U es kvs->Pairs (WK J w) des kvs->(∀e∈des,∃k,(WK J w).is k e.key=UZ/\e.hash=(WK J w).hash k)->ER g U w.params es des:=by
 induction es with
 |nil=>exact λh d c=>by subst h;cases d;exact .nil
 |cons p r o=>
  obtain⟨k,v⟩:=p;intro kvs des h d i;refine cy h.ic λx s f a b=>?_;subst f;cases d with
  | @cons e _ _ _ j l q=>
  refine aj (i e (.head _)) λz u m=>?_;obtain rfl:=(WK J w).inj _ _ _ u j;obtain⟨t,n⟩:=ada j;obtain⟨A,B,C⟩:=e;dsimp only at n l m;subst n l m;exact .cons a (o b q λe y=>i e (.tail _ y))
set_option tactic.hygienic true in
theorem KV.put {k:Vd} {x:U4} (l:VR g U v x) :∀{kvs:List (Vd×U4)},(kvs.map (·.1)).Nodup->KV g U es kvs->KV g U (Mine.Internal.put k v es) (stored kvs k x):=by
 induction es with
 |nil=>exact λc h=>h.symm▸ .cons l .nil
 |cons p r d=>
  obtain⟨y,u⟩:=p;intro kvs f h;refine cy h.ic λz s i a b=>?_;subst i;rw[Wc,List.nodup_cons] at f;have d:=d f.2 b;unfold Mine.Internal.put stored;by_cases h:k=y
  ·subst h;refine(bS.mpr rfl).symm▸ ?_;have:((k,z)::s).any (λkv=>decide (kv.1=k))=UZ:=by simp
   refine ac (if_pos this) (ac Wc (ac (map_store_of_not_mem s k x f.1) ?_));simp only[if_true];exact .cons l b
  ·refine(cg.mpr h).symm▸ ?_;have m:¬y=k:=λe=>h e.symm;dsimp only[stored] at d;refine ac aaY ?_;rw[decide_eq_false m,Bool.false_or];refine ac Wc ?_;dsimp only;refine(if_neg m).symm▸ ?_;split
   ·rename_i j;rw[if_pos j] at d;exact .cons a d
   ·rename_i j;rw[if_neg j] at d;exact .cons a d
theorem DE.er {es:List (Vd×D)}:∀{des:List Wi},DE g P es des->ER g U P (es.map λp=>(p.1,V.dat p.2)) des:=by
 induction es with
 |nil=>exact λh=>h.inv.symm▸ .nil
 |cons p r d=>
  obtain⟨k,v⟩:=p;intro des h;refine gO h.inv λt x q c a b=>(ac c ?_)
  exact .cons (.dat a) (d b)
theorem rV {n:Nat} (c:h.get? a=UX (cK des n)) (d:ER g U w.params es des) (f:iU (ge es)=UZ):∃kvs,KV g U es kvs/\h.DictOf (WK J w) a kvs:=by refine ca (d.kv (J:=J)) λkvs b i j=>?_;refine⟨kvs,b,_,des.toArray,n,c,⟨rfl,rfl,rfl⟩,rfl,λe k=>j e (by simpa using k),by simpa using i,?_⟩;refine ac b.keys ?_;exact mQ f
theorem Kc (p:KV g U es kvs) (hd:h.DictOf (WK J w) a kvs):∃des n,h.get? a=UX (cK des n)/\ER g U w.params es des:=by refine QU hd λo c q r d hd f s b=>?_;obtain⟨j,k,l⟩:=d;obtain⟨cls,dict,m,i⟩:=o;dsimp only at j k l hd;subst j k l hd;exact(bL c.toList q (ac r rfl) (p.er s λe t=>f e (by simpa using t)))
end
def MH (P:Vc) (a k v:V):M Unit:=match a,k with
 | .ref i, .str n=>getO nJ i λes=>bX (iU (ge es)) λS=>UX ((),⟨S.H.set i (.dict (put n v es)),S.orc⟩,[es.length<=1000])
 |_,_=>EK P a k v
def H4 (x:Vd):List (Vd×D)->Option D
 |[]=>UY
 |(y,v)::r=>match sq x y with
  |true=>UX v
  |false=>H4 x r
def MI (P:Vc):V->V->M V
 | .dat (.dict a es), .str n=>bX (iU (ge es)) (cU (H4 n es) λd=>dW (eA d) (a=P))
 |v,k=>vn P v k
def H5 (P:Vc):List V->M V
 |[.dat (.dict a es)]=>bX (iU (ge es)) (ej (.strs (ge es)) [a=P/\es.length<=1000])
 |vs=>HQ vs
section
theorem FP {a k:V} {x:U4} (p:VR fz U a x) (r:VR fz U k y) (u:VR fz U v z):ae c A fz U (MH c.w.params a k v) (Y0 x y z) dJ:=by
 have b:=JB (c:=c) (A:=A) (P:=c.w.params) p r u;induction a with
 |ref i=>induction k with
  |str n=>
   clear b;refine aj p.i_ref λad e D=>bI r.i_str λt E=>?_;refine ac e ?_;refine ac E (ae.run λS K F=>OK.getO λo G B h=>OK.when λC=>F _ _ _ λH I ρ' s Q L q j M=>?_);have e:=jG h;subst e;have d:=ai q D;refine aG (ju j B d) λN nn g1 O=>aj (rV (J:=c.prog) g1 O C) λl m R=>?_;refine wpAny_setItem_pairs (knd:=WK c.prog c.w) (acU ..) R (λh' T W=>?_) (by
    have:l.length=G.length:=by refine aD (VA (f:=(·.1))) ?_;rw[m.keys,mP]
    refine ac this ?_;exact nO H.1)
   exact aG (Kc ((m.put ((u.mono L q)) (ac m.keys (mQ C)))) T) λg X Y Z=>M.at (j.ta (j.hr.upd B rfl d W Y (bL g X rfl Z))) trivial
  |_=>exact b
 |_=>exact b
theorem MJ {k:Vd} {es:List (Vd×D)}:∀{kvs:List (Vd×U4)},H4 k es=UX d->KV fz U (es.map λp=>(p.1,V.dat p.2)) kvs->∃x,valueAt kvs k=UX x/\DR fz d x:=by
 induction es with
 |nil=>intro kvs h _;exact nn h
 |cons p r i=>
  obtain⟨y,u⟩:=p;intro kvs h j;refine cy (KV.ic j) λz s c a b=>(ac c ?_)
  dsimp only[H4] at h;by_cases f:k=y
  ·subst f;rw[bS.mpr rfl] at h;exact(aA z (by simp[valueAt]) (U2 h▸a.i_dat))
  ·rw[cg.mpr f] at h;refine aj (i h b) λx g l=>(aA x ?_ l)
   unfold valueAt at g ⊢;refine ac (Zn) (ac (decide_eq_false (λe=>f e.symm)) ?_);exact g
theorem ti (es:List (Vd×D)):ge (es.map λp=>(p.1,V.dat p.2))=ge es:=by
 induction es with
 |nil=>rfl
 |cons p r a=>exact congrArg (p.1::·) a
theorem FQ {k:V} {x:U4} (g:VR fz U v x) (i:VR fz U k y) (hs:∀l h s p,slice≠aag l h s p):ae c A fz U (MI c.w.params v k) (WP value slice x y) au:=by
 have b:=yo (c:=c) (A:=A) (P:=c.w.params) g i hs (value:=value);induction v with
 |dat D=>induction D using Mine.Internal.D.casesOn with
  |dict r T=>induction k with
   |str n=>clear b;refine gO g.i_dat.i_dict λa vs m e g1 u=>bI i.i_str λt B=>?_;refine ac e ?_;refine ac B (ae.run λS K C=>OK.when λE=>OK.opt λd G=>C _ _ _ λH I ρ' s Q j q f L=>?_);obtain rfl:r=c.w.params:=H.1;exact aj (rV (J:=c.prog) (h:=s.heap) (f.hr.fzle _ _ (j _ _ g1)) (DE.er (U:=ρ') (u.mono j)) (by rw[ti];exact E)) λM N o=>aj (MJ G N) λz O R=>oM o.typeIs PySem.F.slot_dict_getitem.lookup (wpAny_getItem_of (knd:=WK c.prog c.w) (acU ..) o.mapOf O (L.at (f.ta f.hr) (jx R))) (jE hs)
   |_=>exact b
  |_=>exact b
 |_=>exact b
theorem FS {es:List (Vd×D)}:∀{kvs:List (Vd×U4)} {acc:List U4},KV fz U (es.map λp=>(p.1,V.dat p.2)) kvs->acc.length=kvs.length->
  (∀(j:Nat) (v:U4),acc[j]?=UX v->∃k x,kvs[j]?=UX (k,x)/\(WK c.prog c.w).is k v=UZ)->dk (ge es) acc:=by
 induction es with
 |nil=>intro kvs acc i g _;obtain rfl:=KV.i0 i;refine ac (List.eq_nil_of_length_eq_zero g) ?_;exact .nil
 |cons p r n=>
  obtain⟨k,d⟩:=p;intro kvs acc i g h;refine cy (KV.ic i) λx s l a b=>?_;subst l;induction acc with
  |nil=>cases g
  |cons v acc=>
   refine aG (h 0 v rfl) λy z o q=>(aN (o4 o) λe f=>?_)
   subst e;subst f;refine bI (ada q) λt m=>(m.symm▸ ?_)
   exact .cons (n b (XC g) λj v u=>h (j+1) v u)
theorem CG (H:A.handled=UY) (I:cI c.g) (z:av fz U vs xs):ae c A fz U (H5 c.w.params vs) (call (.type "list") xs []) au:=by
 have d:=EO (c:=c) (A:=A) z;rcases vs with _|⟨v,vs⟩
 ·exact d
 induction v with
 |dat D=>induction D using Mine.Internal.D.casesOn with
  |dict P' B=>induction vs using VG with
   |nil=>
    clear d;refine aj z.i1 λb e l=>gO l.i_dat.i_dict λad L n M g1 N=>?_;refine ac e ?_;refine ac M (ae.run λS K C=>OK.when λO=>C _ _ _ λP r ρ' s Q t q m R=>?_);clear C;obtain⟨T,V⟩:=P.1;subst T;refine aj (rV (J:=c.prog) (h:=s.heap) (m.hr.fzle _ _ (t _ _ g1)) (DE.er (U:=ρ') (N.mono t)) (by rw[ti];exact O)) λk E X=>?_;refine X.dictAt.elim λF u=>?_;refine iw m.tk (W.kdl_call (W.kdl_dict (knd:=WK c.prog c.w) (kvs:=k) (ep:=F) (beq_eq_false_iff_ne.mpr λe=>(Option.isSome_iff_exists.mp I).elim λo x=>nn ((m.hr.dis _ _ (e▸x)).symm.trans (t _ _ g1)):(ad==sysModules)=U0)) H u (ac (by refine aD (VA (f:=(·.1))) ?_;rw[E.keys,mP,VA]:k.length=B.length) (nO V)) λh' tk p Y y Z G=>λa0=>?_);have hr:=m.hr.exts y [s.heap.objs.size] [.strs (ge B)] rfl (by simp) (λa l=>Vg (List.mem_singleton.mp l).symm) (λi a o l x=>by
     cases i with
     |zero=>obtain rfl:=U2 l;obtain rfl:=U2 x;exact⟨rfl,_,Z,p.toList,Y,rfl,FS (c:=c) E G.1 λj v hj=>G.2 j v ((YS).symm.trans hj)⟩
     |succ i=>exact nn l)
    exact R r _ _ _ (Le.refl _) (Vp _ _) (m.to hr (.inr ‹_›)) (.ref (bj m.hr.len.symm))
   |cons=>exact d
  |_=>exact d
 |_=>exact d
end
end
end
section
open PySem.W (Frag)
section
section
variable {o:Xi} {n:Int}
theorem At {a:Source} {Q:Nat->U9->Prop} (h:∀d,Q 0 {s with drawn:=d}):Vh (Vi J w) A (choose a 1) Q E s:=λc p b=>by unfold choose;rw[Sem.wp_choose];refine⟨by decide,?_⟩;rw[Nat.mod_one];exact h _
theorem mR (x:α):aa2 #[x] 0= #[]:=by simp[aa2]
theorem Uv (p n:Nat):min p n+(n - p)=n:=(aaq p n).elim (λh=>ac (Xu h) (XY h)) λh=>ac (Yn h) (ac (Xo h) rfl)
theorem xZ (xs:Array α) (p:Nat) (x:α):(acV xs p x).size=xs.size+1:=by unfold acV;simp;exact(VW _ _ _).trans (congrArg (· +1) (Uv _ _))
set_option tactic.hygienic true in
theorem x6 {Q:Option U4->U9->Prop} (u:s.heap.get? a=UX o) (hs:o.IntSetOf (λk=>[n].contains k) 1)
  (h:∀h' d q t,WU a s.heap h'->h'.get? a=UX q->q.IntSetOf (λk=>([]:List Int).contains k) 0->Q (UX (.int n t)) {s with heap:=h',drawn:=d}):Vh (Vi J w) A (setPop a) Q E s:=by
 refine aN (hs J w) λhex H=>(BG H λD R t v y g F r=>?_)
 have c:t.place.size=1/\t.fill<=t.mask:=by simp only[SetTable.fits,VQ,beq_iff_eq,decide_eq_true_eq] at r;exact⟨ac r.1 (ac F rfl),r.2⟩
 unfold setPop
 refine U1 (wpAny_setState_of u v r ?_)
 dsimp only
 have I:t.popPlace=UX 0:=by
  unfold SetTable.popPlace;refine ac (if_neg (by simp;intro h;rw[h] at c;simp at c)) ?_;dsimp only;split
  ·rename_i h;rw[c.1] at h;congr 1;exact Xo h
  ·rfl
 refine ac I ?_
 dsimp only
 have z:∃x,D= #[x]:=by obtain⟨l⟩:=D;obtain⟨x,rfl⟩:=List.length_eq_one_iff.mp F;exact⟨x,rfl⟩
 obtain⟨⟨f,x⟩,rfl⟩:=z
 have K:∃t,x= .int n t:=by refine aj ((y (f,x) (by simp)).1) λk L b=>?_;obtain⟨t,rfl⟩:=Value.isInt_shape L;have:=(g k).mpr (aA (f, .int k t) (by simp) (acW ..));simp at this;exact⟨t,ac this rfl⟩
 obtain⟨B,rfl⟩:=K
 have i:(t.popped 0).fits 0=UZ:=by
  obtain⟨j,G⟩:∃j,t.place= #[j]:=by have C:=c.1;generalize t.place=M at C ⊢;obtain⟨l⟩:=M;obtain⟨x,rfl⟩:=List.length_eq_one_iff.mp C;exact⟨x,rfl⟩
  unfold SetTable.popped SetTable.drop SetTable.fits SetTable.fill;refine ac G ?_;have m:=c.2;unfold SetTable.fill at m;rw[G] at m;simp only[Wj,List.getElem?_cons_zero,mR,xZ];simp at m ⊢;lia
 have p:∀d,Vh (Vi J w) A (storeSet a (aa2 #[(f,aaF n B)] 0) (t.popped 0) >>= λb=>pure (UX (aaF n B))) Q E {s with drawn:=d}:=λd=>by refine U1 (wpAny_storeSet_of u v (U5 ?_) (by rw[mR];exact W4 _));rw[mR];obtain⟨C,m⟩:=SetOf_store (knd:=aco J w) (es':= #[]) (t':=t.popped 0) (S':=λk=>([]:List Int).contains k) u hex v (λe N=>by simp at N) (λk=>by simp) (by decide) i;exact aj m.objOf λq O P=>(h _ d q B (VT ..) O P.intSetOf)
 refine U1 ?_
 unfold setsByText
 refine U1 (acl (U5 ?_))
 split
 ·exact U1 (At λd=>p d)
 ·refine U1 ?_
  wp_delta
  exact ac (if_neg (by simp)) (U5 (U1 (U5 (p s.drawn))))
end
def MK (vs:List V):M V:=match vs with
 |[]=>ej (.set []) []
 |_=>fail
noncomputable def pn:O->Option (List Int)
 | .set ns=>UX ns
 |_=>UY
theorem rW {o:O} {r:List Int} (e:pn o=UX r):o= .set r:=by
 induction o with
 |set=>exact congrArg O.set (U2 e)
 |_=>exact nn e
def FU (C:Ec) (y:Vd):M V:=bX (As (kd y C.names)) (getO qB C.fid λl=>cU (lk y l) λv=>asI v λn=>ej (.set [n]) [])
def lD (v:V) (S:St):Bool:=match v with
 | .ref i=>match S.H[i]? with
  |some o=>(pn o).isSome
  |none=>U0
 |_=>U0
def ML (v:V):M Bool:=asR v λi=>getO pn i λns S=>match ns with
  |[]=>UX (U0,S,[])
  |_::r=>UX (UZ,S,[(r.length:Int) < 2^62])
def FV (v:V) (n:Vd):M (V×List V):=bX (sq n "pop") (ret (.fk 19,[v]))
noncomputable def MM:List Int->Option Int
 |[n]=>UX n
 |_=>UY
def H6 (vs:List V):M V:=gS vs λv=>asR v λi=>getO pn i λns=>cU (MM ns) λn S=>UX (.int n,⟨S.H.set i (.set []),S.orc⟩,[])
def H7 (op:YX) (k v:V):M V:=match op with
 | .In=>asI k λa=>asR v λi=>getO pn i λns=>bX ns.isEmpty (ret (.bool U0))
 |_=>fail
section
theorem CH (x:SR c fz U H s) (h:H[i]?=UX (.set ns)) (b:U[i]?=UX a):∃o,s.heap.get? a=UX o/\o.IntSetOf (λk=>ns.contains k) ns.length:=by exact x.hr.at h rfl b
theorem qJ {S:St} {o:O} (h:S.H[i]?=UX o) (e:pn o=UX ns) (hi:U[i]?=UX a) (q:U <+:ρ') (x:SR c fz' ρ' S.H s):∃o,s.heap.get? a=UX o/\o.IntSetOf (λk=>ns.contains k) ns.length:=CH x (h.trans (congrArg UX (rW e))) (ai q hi)
theorem FW (b:av fz U vs xs):ae c A fz U (MK vs) (call (.type "set") xs []) au:=by
 induction vs using VG with
 |nil=>exact b.e0 (ae.run λS K d=>d _ _ _ λg e ρ' s Q h q f y=>call_set_0 λa=>y.new f rfl (intSetOf_fresh a) rfl (Vt _))
 |cons=>exact ae.fail
theorem x7 {Q:Bool->U9->Prop} {d:U8} {o:Xi} {n:Int} {t:ZP} (g:s.heap.get? d=UX o) (hs:o.IntSetOf (λa=>U0) 0)
  (h:∀h' b,WU d s.heap h'->h'.get? d=UX b->b.IntSetOf (λk=>[n].contains k) 1->Q UZ {s with heap:=h',toks:=s.toks+1}):Vh (Vi c.prog c.w) A (setAdd d (.int n t)) Q E s:=by
 unfold setAdd
 refine Vq (U1 ((aco c.prog c.w).pyHash (acW ..) ?_))
 refine wpAny_setAddHashed_of (s:={s with toks:=s.toks+1}) (acW ..) rfl ((hs.kind c.prog c.w).setOf g (by decide)) (by decide) λh' e f=>?_
 refine aj f.objOf λb i j=>?_
 refine h h' b e i ?_
 have:(λk=>[n].contains k)=λl=>(U0||decide (l=n)):=by funext k;simp only[List.contains_cons,List.contains_nil,Bool.or_false,Bool.false_or];rw[<-fh]
 exact ac this j.intSetOf
theorem FX (u:aI c C Z U) {y:Vd} (I:ew y=U0) (J:displayRoad k [.Name y py]= .oneByOne) (L:∀h,bv c.KK h->W.kdsCode c.KK Z.code=UZ):ae c A fz U (FU C y) (Ws (.Set [.Name y py] k pos) Z) au:=by
 refine ae.run λS K G=>OK.when λM=>OK.getO λo l N w=>OK.opt λv O=>?_;have e:=mI w;subst e;induction v with
 |int n=>
  refine G _ _ _ λH x ρ' s Q kk q f P=>?_;clear G;rw[arm_eval_Set];refine U1 (VM (U1 (W.kds_main f.inK (L _ λp H=>f.hr.fzle _ _ (f.hr.wd p H)) λb=>?_)));refine ac J (W.kds_core (ts:=[Ws (.Name y py) Z >>= λv=>WM pos >>= λd=>pure v]) (by decide) rfl (show(1:Nat)<=30 by decide) rfl λg=>?_);refine aj (gv (qH f (h:=s.heap.push {cls:= .type "set",dict:=UY,data:= .set #[] 0 (.fresh 0 0 g)}) (λb o e=>Vy _ e)) N (ai q u.loc)) λm R T=>?_;refine aj (d6.i_some (aD O (T y))) λz V X=>?_;refine bI X.i_int λt e=>?_;subst e;refine(?_:Vh _ _ ((Ws (.Name y py) Z >>= λv=>WM pos >>= λd=>pure v) >>= λv=>ZQ [v] (evalAll []) >>= λr=>pure (v::r)) _ _ _);refine ac (jX I) ?_;refine U1 (U1 (U1 (VM (WF u.kind (((by rw[fK];refine aD u.names ?_;rfl:Z.kindOf y=kd y C.names)).trans (vU M)) R V ?_))));refine U1 (VM (U5 (U1 (Vq (U5 (U5 ?_))))));refine W.kds_fill_cons (x7 (c:=c) (VX _ rfl) (intSetOf_fresh g) λY o' B D E=>W.kds_fill_nil (by decide) ?_);have F:=f.hr.exts (λb o e=>(B.2 b (aan (We e))).trans (Vy _ e):Le s.heap Y) [s.heap.objs.size] [.set [n]] rfl (by simp) (λa j=>Vg (List.mem_singleton.mp j).symm) (λi a o j ho=>by
   cases i with
   |zero=>obtain rfl:=U2 j;obtain rfl:=U2 ho;exact⟨rfl,o',D,E⟩
   |succ i=>exact nn j)
  exact P x _ _ _ (Le.refl _) (Vp _ _) (f.ta F) (.ref (bj f.hr.len.symm))
 |_=>exact Vf
theorem tQ:Ys (.type "set") "__bool__"=pure UY:=by rw[acy];refine ac aaZ ?_;rfl'
theorem yK {Q:Bool->U9->Prop} {o:Xi} {S:Int->Bool} {n:Nat} (g:s.heap.get? a=UX o) (hs:o.IntSetOf S n) (p:(n:Int) < 2^63)
  (h:Q ((n:Int)!=0) {s with toks:=s.toks+1+1}):Vh (Vi c.prog c.w) A (YY (.ref a)) Q E s:=by
 refine aN (hs c.prog c.w) λhex q=>(BG q λB C t u v i d x=>?_)
 have j:s.TypeIs (.ref a) "set":=(aA o g hex.1)
 unfold YY
 refine U1 (m:=ZR (.ref a) (WN "__bool__")) (U1 (Xc j tQ (U5 ?_)))
 refine U1 (Xc j PySem.F.slot_set_len.lookup ?_)
 refine(?_:Vh _ _ (runValue (.builtin "len" ⟨[.ref a],[]⟩) >>= _) _ _ _)
 refine U1 (wpAny_runValue (ZK entry_len ?_))
 refine(Xq plain_len _).symm▸(VH (wpAny_len_body_set g hex u x ((d).symm▸p) (Q:=λr k=>match r with| .int n _=>Q (n !=0) k|_=>False) ((d).symm▸h)) (λy k z=>?_) λb b e=>e)
 refine aj z λr f l=>(ac f ?_)
 cases r<;>first|exact l.elim|exact U5 l
theorem FY {x:U4} (l:VR fz U v x):ae c A fz U (ML v) (YY x) gP:=by
 refine(ae.asR (t:=YY) l ?_:);refine λi a g=>ae.run λS K h=>OK.getO λo ns j d=>?_;induction ns using VG with
 |nil=>exact h _ _ _ λk e ρ' s Q n q b y=>aj (qJ j d g q b) λo d f=>yK d f (by decide) (y.at (b.tb b.hr) rfl)
 |cons m r=>exact h _ _ _ λk e ρ' s Q n q b y=>aj (qJ j d g q b) λo d f=>yK d f (by have:=k.1;refine ac VD ?_;lia) (y.at (b.tb b.hr) (by refine(?_:UZ=_);refine ac VD ?_;exact(bne_iff_ne.mpr (by lia)).symm))
theorem CI {S:St} (hs:lD v S=UZ):∃i ns,v= .ref i/\S.H[i]?=UX (.set ns):=by
 induction v with
 |ref i=>
  have hs:(match S.H[i]? with|some o=>(pn o).isSome|none=>U0)=UZ:=hs;induction a:S.H[i]? with
  |none=>rw[a] at hs;exact ff hs
  |some o=>rw[a] at hs;exact bI (Option.isSome_iff_exists.mp hs) λns e=>⟨i,ns,rfl,a.trans (congrArg UX (rW e))⟩
 |_=>exact ff hs
theorem FZ {x:U4} {n:Vd} (j:VR fz U v x) {S:St} {K:V×List V->St->List Prop->Prop} (k:∀a S' p,rA c A fz U (W3 x n pl) o6 S a S' p->K a S' p) (hs:lD v S=UZ):OK (FV v n S) K:=by
 refine OK.when λh=>k _ _ _ λt l ρ' s Q u q d y=>?_;refine aG (CI hs) λi ns e m=>?_;subst e;refine j.e_ref λa f=>?_;have e:=bS.mp h;refine ac e ?_;exact aj (CH d m (ai q f)) λo g r=>
  have hex:=(r c.prog c.w).1
  Y7 (T:="set") (aA o g hex.1) PySem.F.plainAttrs_set acB PySem.F.type_set_pop (λb e=>aaw e▸(aA o g hex.2.1)) (y.at d ⟨.fk 19, .cons (.ref (ai q f)) .nil⟩)
theorem Kd {l:List Int} {n:Int} (e:MM l=UX n):l=[n]:=by
 rcases l with _|⟨a,_|_⟩
 ·exact nn e
 ·exact congrArg (· ::[]) (U2 e)
 ·exact nn e
theorem F0 (r:av fz U vs xs):ae c A fz U (H6 vs) (call (.builtin "set.pop") xs []) au:=by
 refine(ae.call1 (t:=λxs=>call (.builtin "set.pop") xs []) r ?_:);intro v x u;refine(ae.asR (t:=λx=>call (.builtin "set.pop") [x] []) u ?_:);refine λi a k=>ae.run λS K z=>OK.getO λo ns l b=>OK.opt λn B=>z _ _ _ λD C ρ' s Q E q f y=>?_;have e:=Kd B;subst e;refine aj (qJ l b k q f) λo m p=>(Xp acB (aA o m ((p c.prog c.w).1.1)) PySem.F.entry_set_pop ?_ (PySem.F.args_set_pop_1 _))
 refine(?_:Vh _ _ (setPop a >>= _) _ _ s);exact U1 (x6 m p λG d H t g h j=>U5 (aA _ rfl (y.at (f.tz (f.hr.upd (l.trans (congrArg UX (rW b))) rfl (ai q k) g h j)) (.int _ _))))
theorem CJ {k:V} {x:U4} (f:VR fz U k x) (g:VR fz U v y):ae c A fz U (H7 op k v) (W2 op x y) au:=by
 induction op with
 |In=>refine(ae.asI (t:=(W2 .In · y)) f ?_:);intro n t;refine(ae.asR (t:=W2 .In (.int n t)) g ?_:);exact λi a h=>ae.run λS K j=>OK.getO λo ns l b=>OK.when λm=>j _ _ _ λB p ρ' s Q C q d r=>by have e:=List.isEmpty_iff.mp m;subst e;exact aj (qJ l b h q d) λo u z=>wpAny_inSet_of (knd:=aco c.prog c.w) (acW ..) rfl ((z.kind c.prog c.w).setOf u (by decide)) (r.at (d.ta d.hr) (.bool _))
 |_=>exact ae.fail
end
end
end
section
def Au (F:bP) (v:Vv) (y z:Vd):M V:=bnd (F.ev v) λa=>asS a λx=>dW (.str (abO x y z)) (x.length<=1048576)
section
theorem F1 (G:bM c A C Z fz U) (o:bG c A C Z F) {v:Vv} {y z:Vd} {f g:Nat} (q:fD v=U0) (r:qj ap pos [.Constant (.str y) f p1, .Constant (.str z) g p2]=UZ) (i:(y==z)=U0) (hz:z.length<=14):
  ae c A fz U (Au F v y z) (Ws (.Call (.Attribute v "replace" ap) [.Constant (.str y) f p1, .Constant (.str z) g p2] [] pos) Z) au:=by
 refine ac (jl q r) (ae.bind (o.ev _ _ G v) λI J a x L M u=>ae.stand ?_)
 induction a with
 |str x=>
  refine u.e_str λt=>ae.run λS K B=>B _ _ _ λD d ρ' s Q k p e E=>?_;refine U1 (Vq (qv (by decide+kernel:cT "replace" j0=UX 14) ?_));dsimp only;unfold Y3;have j:∀l:List U4->U9->Prop,l [.str y s.toks, .str z (s.toks+1)] {s with toks:=s.toks+1+1}->
    Vh (Vi c.prog c.w) A (abe (XW pos (WQ [.Constant (.str y) f p1, .Constant (.str z) g p2] Z))) l bE s:=λl h=>by
   refine(?_:Vh _ _ (abe [(U0,constValue Z (.str y)),(U0,constValue Z (.str z))]) _ _ _)
   unfold abe
   refine U1 (Y2 (U1 (U5 (U1 (Vq ?_)))))
   unfold abe
   exact U1 (Y2 (U1 (U5 (U1 (Vq (U5 (U5 (U5 h))))))))
  refine U1 (Vq (de rfl (j _ ?_)));refine U1 (VM ?_);refine dL (c:=c) (A:=A) (fz:=d) (U:=ρ') (m:=dW (.str (abO x y z)) True) (id:="str.replace") (xs:=[.str x t, .str y s.toks, .str z (s.toks+1)]) (k:=2) ?_ S _ _ _ rfl ⟨trivial,trivial⟩ d ρ' _ Q (Le.refl _) (U6 _) ⟨e.hr,e.os,e.bare,by show 1<=s.toks+1+1;lia⟩ E;exact ae.lift rfl λN Q h H=>SC.replaceW (YP (e.tk)) (Nat.succ_ne_zero _) (aan (aaa _)) i (D.1:x.length<=1048576) hz λO P=>H _ _ λb b b b=> .str _ _
 |_=>exact ae.fail
end
end
section
open AutoSeq1 (wpAny_loadPart')
theorem x8 (l:U8) (items:Array U4) (n:Nat) (x:U4) (j:Nat) (p:j < items.size) (b:items.size<=Vb) (k:Nat):∀i:Nat,i+k=j->Meets (Builtin.«list.remove.loop» ⟨[.ref l,x,WO i],[]⟩)
  (λA R s=>s.heap.get? l=UX {cls:= .type "list",dict:=UY,data:= .seq items n,slots:= #[]}/\(∀m (u:m < items.size),m<=j->adl A.in1 s items[m] x (decide (m=j)))/\R (.ok (.ret .none)) {s with heap:=s.heap.update l (Xl λxs=>xs.eraseIdxIfInBounds j)}):=by
 induction k with
 |zero=>
  intro i f J w A R s ⟨a,e,h⟩;obtain rfl:i=j:=f;obtain⟨q,g,d,r,os⟩:=s
  wp_walk using aaU a
  refine ac (show items[((i:Nat):Int).toNat]?=UX items[i] by simp[p]) (U1 (e i p (Vt _) J w _ _ ?_));refine ac (decide_eq_true rfl) ?_;have o:(items.eraseIdxIfInBounds i).size<=Vb+1:=U3 (MeetsSeq.size_erased items _) (abn b)
  wp_walk using (ZJ a rfl (hz:=b) (_hz':=o)),aaU a
  simpa using h
 |succ k t=>
  intro i f J w A R s ⟨a,e,h⟩;obtain⟨q,g,d,r,os⟩:=s;have c:i < items.size:=by lia
  wp_walk using aaU a
  refine ac (show items[((i:Nat):Int).toNat]?=UX items[i] by simp[c]) (U1 (e i c (U3 (Vo _ _) (Vg f)) J w _ _ ?_));refine ac (decide_eq_false (show¬i=j by lia)) ?_
  wp_walk
  refine(show((i:Int)+1)=((i+1:Nat):Int) by push_cast;rfl).symm▸ ?_;refine⟨plainId_quiet XT _,ZK aby ?_⟩;exact ac (Xq XT _) (t (i+1) (by lia) J w A R _ ⟨a,e,h⟩)
theorem vW (l:U8) (items:Array U4) (n:Nat) (x:U4) (j:Nat) (c:j < items.size) (a:items.size<=Vb):Meets (Builtin.«list.remove» ⟨[.ref l,x],[]⟩)
  (λA R s=>s.heap.get? l=UX {cls:= .type "list",dict:=UY,data:= .seq items n,slots:= #[]}/\(∀m (f:m < items.size),m<=j->adl A.in1 s items[m] x (decide (m=j)))/\R (.ok (.ret .none)) {s with heap:=s.heap.update l (Xl λxs=>xs.eraseIdxIfInBounds j)}):=by
 intro J w A R s ⟨b,e,h⟩
 obtain⟨i,g,d,k,os⟩:=s
 wp_walk using aaU b
 refine⟨plainId_quiet XT _,ZK aby ?_⟩
 exact(Xq XT _).symm▸(x8 l items n x j c a j 0 (Wk _ _) J w A R _ ⟨b,e,h⟩)
def rX (n:Int) (c:List Int):D->Bool
 | .tup [.int m, .ints e]=>decide (m=n)&&eO e c
 |_=>U0
def mS (n:Int) (c:List Int):List D->List D
 |[]=>[]
 |d::r=>match rX n c d with
  |true=>r
  |false=>d::mS n c r
def Av (n:Int) (c:List Int) (ds:List D):Prop:=(∀d∈ds,∃m e,d= .tup [.int m, .ints e])/\(∃d∈ds,rX n c d=UZ)/\ds.length<=1000
noncomputable def H8:O->Option (Int×List Int)
 | .tup [.int n, .dat (.ints c)]=>UX (n,c)
 |_=>UY
theorem Aw {r:Int×List Int} (h:H8 o=UX r):o= .tup [.int r.1, .dat (.ints r.2)]:=by
 induction o with
 |tup vs=>
  rcases vs with _|⟨a,vs⟩
  ·exact nn h
  ·induction a with
   |int n=>
    rcases vs with _|⟨b,vs⟩
    ·exact nn h
    ·induction b with
     |dat d=>induction d using Mine.Internal.D.casesOn with
      |«ints» l=>induction vs using VG with
       |nil=>exact aD (U2 h) rfl
       |cons=>exact nn h
      |_=>exact nn h
     |_=>exact nn h
   |_=>exact nn h
 |_=>exact nn h
noncomputable def H9:O->Option (List D)
 | .dats ds=>UX ds
 |_=>UY
theorem F2 {r:List D} (e:H9 o=UX r):o= .dats r:=by
 induction o with
 |«dats»=>exact congrArg O.dats (U2 e)
 |_=>exact nn e
def MN (vs:List V):M V:=mD vs λv w=>asR v λi=>asR w λj=>getO H9 i λds=>getO H8 j λr S=>UX (.none,⟨S.H.set i (.dats (mS r.1 r.2 ds)),S.orc⟩,[Av r.1 r.2 ds])
section
theorem MO (n:Int) (cs:List Int) :(∃d∈ds,rX n cs d=UZ)->∃j,j < ds.length/\mS n cs ds=ds.eraseIdx j/\∀m d,ds[m]?=UX d->m<=j->rX n cs d=decide (m=j):=by
 induction ds with
 |nil=>exact λh=>h.elim λd h=>nomatch h.1
 |cons d r f=>
  intro h;refine(?_:∃j,_/\(match rX n cs d with|true=>r|false=>d::mS n cs r)=_/\_);induction c:rX n cs d with
  |true=>refine(cE 0 (Wx _) rfl (λm e a b=>?_));have b:=Nat.le_zero.mp b;subst b;exact aD (U2 a) c
  |false=>
   refine ca (f (h.elim λe a=>(List.mem_cons.mp a.1).elim (λq=>ff (c.symm.trans (aD q a.2))) λq=>(aA e q a.2))) λj g i k=>(cE (j+1) (abF g) (congrArg (d::·) i) (λm e a b=>?_))
   cases m with
   |zero=>exact aD (U2 a) c
   |succ m=>exact(k m e a (XN b)).trans (decide_eq_decide.mpr Nat.succ_inj.symm)
theorem cb.erase:∀{xs:List U4} (j:Nat),cb g ds xs->cb g (ds.eraseIdx j) (xs.eraseIdx j):=by
 induction ds with
 |nil=>exact λj h=>h.i0.symm▸ .nil
 |cons d r c=>exact λj h=>h.ec λx u a b=>WE j b λj=> .cons a (c j b)
theorem cb.at:∀{xs:List U4} {m:Nat} {x:U4},cb g ds xs->xs[m]?=UX x->∃d,ds[m]?=UX d/\DR g d x:=by
 induction ds with
 |nil=>exact λh e=>nn ((congrArg (λl:List U4=>l[_]?) h.i0).symm.trans e)
 |cons d r c=>
  intro xs m x h;exact h.ec λy u a b e=>by
   cases m with
   |zero=>exact(aA d rfl (U2 e▸a))
   |succ m=>exact c b e
theorem oP (n:Int) (e:List Int):VS (.tuple [.int n, .list (e.map .int)])=UZ:=by
 have a:=aac (PySem.W.ke_shaped_ints e);dsimp only[VS];rw[VQ];refine⟨?_,decide_eq_true ?_⟩
 ·simp only[Zy,YF,Bool.and_true,Bool.true_and] at a ⊢;exact a
 ·simp only[Z7,Zc];exact ac (PySem.W.ke_depthAll e) (by decide)
theorem F3 (x y:List Int):XJ (x.map .int) (y.map .int)=eO x y:=zX (λa a=>by rw[Yu,fh]) x y
theorem F4 (m n:Int) (e f:List Int):Yu (.tuple [.int m, .list (e.map .int)]) (.tuple [.int n, .list (f.map .int)])=(decide (m=n)&&eO e f):=by simp only[Yu,XJ,F3,Bool.and_true,fh]
theorem qK {n:Nat} {m:Int} {e:List Int} {b:U8} {t:ZP} {vs:List U4} (h1:h.get? a=UX (rz [.int m t, .ref b] n)) (h2:h.get? b=UX (bT vs k)) (c:Ww vs e):∃as,Reads h (.ref a) (.tuple [.int m, .list (e.map .int)]) as:=
 ⟨_, .tuple h1 rfl rfl (.cons (.int _ _) (.cons (.list h2 rfl rfl (qy c)) .nil))⟩
theorem Ke (hu:A.units+100 < cLine) {S:St} {u:U8} {n:Int} {cs:List Int} (hi:ρ'[i]?=UX ia) (v:ρ'[j]?=UX u) (h1:S.H[i]?=UX (.dats ds)) (h2:S.H[j]?=UX (.tup [.int n, .dat (.ints cs)]))
  (N:Av n cs ds) (e:SR c fz' ρ' S.H s) (y:dc c fz' ρ' (S.H.set i (.dats (mS n cs ds))) au .none Q):Vh (Vi c.prog c.w) A (call (.builtin "list.remove") [.ref ia, .ref u] []) Q bE s:=by
 refine b9 N λz B C=>(aj (e.hr.at h1 rfl hi) λob l q=>?_)
 refine aG q λg nn a o=>?_
 subst a
 refine aj (e.hr.at h2 rfl v) λO P q=>(aG q λws mm a h=>?_)
 subst a
 refine ca (MO n cs B) λk D E G=>?_
 have b:g.length=ds.length:=cb.len o
 refine cy h.i2 λI J a g1 K=>?_
 subst a
 obtain⟨t2,rfl⟩:=g1.i_int
 refine gO K.i_dat.i_ints λa3 v3 n3 a R U=>?_
 subst a
 obtain⟨V,W⟩:=qK P (e.hr.fzle _ _ R) U
 clear h g1 K h2 v
 refine YO PySem.F.slot_list_remove (T:="list") (aA _ l rfl) PySem.F.entry_list_remove (PySem.F.args_list_remove_2 _ _) (vW ia g.toArray nn _ k (ac VJ (ac b D)) (ac VJ (ac b (ac VO (U3 C (by decide)))))) ⟨l,λm p r=>?_,?_⟩
 ·simp only[VJ] at p;refine aj (cb.at (x:=g[m]) o (VI p)) λd t L=>?_;refine p9 (z d (WZ t)) λX Y a=>?_;subst a;refine aD (G m _ t r) (?_:adl _ _ g[m] _ _);generalize g[m]=um at L ⊢;clear y o l D E G t z B C h1;refine gO L.i_tup λb1 Z n1 a w1 w2=>(ac a ?_)
  refine cy w2.ic λy1 q1 a I w3=>?_;subst a;obtain⟨t1,rfl⟩:=I.i_int;refine cy w3.ic λy2 q2 a J w4=>?_;subst a;obtain rfl:=w4.i0;refine gO J.i_ints λb3 a0 n4 a z3 z4=>?_;subst a;obtain⟨a1,R1⟩:=qK (e.hr.fzle _ _ w1) (e.hr.fzle _ _ z3) z4;have M:=oP X Y;have:=SeqAt.eqAt_reads _ _ A.in1 s _ _ _ _ R1 W (aac M) (aac (oP n cs)) (SeqAt.room_of_shaped M (by show A.units+1+64 < _;lia));simp only[F4] at this;exact this
 ·obtain⟨m,p⟩:=kD (f:=λxs=>xs.eraseIdxIfInBounds k) (vs':=g.eraseIdx k) l (by
   simp[Yr];lia)
  exact y fz' ρ' _ _ (Le.refl _) (U6 _) (e.tz (e.hr.upd h1 rfl hi (VT ..) p (bL _ m rfl ((E).symm▸(cb.erase k o))))) .none
theorem Kf (d:A.units+100 < cLine) (e:av fz U vs xs):ae c A fz U (MN vs) (call (.builtin "list.remove") xs []) au:=by refine(ae.call2 (t:=λxs=>call (.builtin "list.remove") xs []) e ?_:);intro v w x y f g;refine(ae.asR (t:=λx=>call (.builtin "list.remove") [x,y] []) f ?_:);intro i h k;refine(ae.asR (t:=λy=>call (.builtin "list.remove") [.ref h,y] []) g ?_:);exact λj C l=>ae.run λS K m=>OK.getO λo ds n a=>OK.getO λD r p b=>m _ _ _ λu z ρ' s Q E q B y=>Ke d (ai q k) (ai q l) (n.trans (congrArg UX (F2 a))) (p.trans (congrArg UX (Aw b))) u.1 B y
end
end
section
def Ax (T:bC) (CL:List aV) (v:V):M Bool:=λS=>match lD v S with
 |true=>ML v S
 |false=>Mw T CL v S
def F5 (P:Vc) (CL:List aV) (v k:V):M V:=λS=>match nN v S with
 |true=>MA P CL v k S
 |false=>MI P v k S
def RH (op:YX) (a b:V):M V:=λS=>match lD b S with
 |true=>H7 op a b S
 |false=>Mj op a b S
def RI (CL:List aV) (v:V) (n:Vd):M (V×List V):=λS=>match lD v S with
 |true=>FV v n S
 |false=>z6 CL v n S
def Q8:List V->M V:=λa=>fail
def Q9 (P:Vc) (T:bC) (CL:List aV) (NM:List Vd):List (List V->M V):=[(gS · (Mu T CL)),LW,LX,Ca,(gS · (Mv T CL)),LZ,H5 P,MK,Mz P CL,L8,MN,Cc,Cd,yr,Q8,CC NM,HU,Ce,HV,H6]
noncomputable def Ra (P:Vc) (T:bC) (CL:List aV) (NM:List Vd) (k:Nat) (vs:List V):M V:=(Q9 P T CL NM).getD k Q8 vs
def RJ (P:Vc) (T:bC) (CL:List aV) (NM:List Vd) (clo:Nat->List V->M V) (f:V) (vs:List V):M V:=match f with
 | .fk k=>Ra P T CL NM k vs
 | .con (.ref a)=>match oN a T with
  |some m=>m vs
  |none=>fail
 | .ref n=>clo n vs
 |_=>fail
def MP (T:bC) (CL:List aV) (op:UnaryOp) (v:V):M V:=match op with
 | .Not=>bnd (Ax T CL v) λb=>ret (.bool (!b))
 |op=>Mc op v
def F6 (P:Vc) (T:bC) (CL:List aV) (NM:List Vd) (clo:Nat->List V->M V):dU:=
 {bin:=Mg,iop:=Mh,cmp:=RH,tru:=Ax T CL,una:=MP T CL,idx:=F5 P CL,sli:=MB CL,gti:=vn P,sit:=MH P,ssl:=MD CL,att:=Mk CL,sat:=Ml CL,mth:=RI CL,
  cal:=RJ P T CL NM clo,iter:=zT,nxt:=EL,unp:=MG}
def aZ (P:Vc) (T:bC) (CL:List aV) (NM:List Vd) (glob:List (Vd×GV)) (N:Nat):Nat->dU
 |0=>F6 P T CL NM λa a=>fail
 |k+1=>F6 P T CL NM (Ex glob (aE (aZ P T CL NM glob N k) N))
section
theorem aP.le {n m:Nat} (x:aP n A) (h:m<=n):aP m A:=⟨by have:=x.depth;lia,by have:=x.units;exact Vn (Vw (WH (aa0 10 h) _) _) this,x.handled⟩
theorem Kg {T:bC} (d:aP (lev+1) A) (h:cI c.g) (e:eG c.KK CL) (f:∀A,aP lev A->ki c A T) {n:Nat} (b:av fz U vs xs):ae c A fz U (Ra c.w.params T CL NM k vs) (ci n (FN k) xs) au:=
 TB.get (R:=λ(m:List V->M V) F=>∀{vs xs},av fz U vs xs->ae c A fz U (m vs) (ci n F xs) au) (λa=>ae.fail) (x:=Q9 c.w.params T CL NM) (y:=QY)
  ⟨λb=>dL (ae.call1 (t:=λxs=>call (.builtin "len") xs []) b λa a=>FA e (f _ d.in1)),λb=>dL (JF d.handled b),λb=>dL (JG d.handled b),λb=>mB (Cb b),
   λb=>mB (ae.call1 (t:=λxs=>call (.type "str") xs []) b λa a=>FB e (f _ d.in2) (by have:=d.units;lia)),λb=>mB (JI b),λb=>mB (CG d.handled h b),λb=>mB (FW b),λb=>dL (FE e b),λb=>dL (JO b),
   λb=>dL (Kf (by have:=d.units;lia) b),λb=>dL (Ci b),λb=>dL (Ck b),λb=>dL (zV b),λa=>ae.fail,λb=>dL (CD b),λb=>dL (EU b),λb=>dL (Cm b),λb=>dL (EV b),λb=>dL (F0 b),trivial⟩ k b
theorem vX {T:bC} (d:aP (lev+1) A) (e:eG c.KK CL) (f:∀A,aP lev A->ki c A T) {a:V} {x:U4} (b:VR fz U a x):ae c A fz U (Ax T CL a) (YY x) gP:=ae.alt (FY b) (FC e (f _ d.in1) b)
theorem F7 {T:bC} (g:aP (lev+1) A) (h:eG c.KK CL) (i:∀A,aP lev A->ki c A T) {op:UnaryOp} {a:V} {x:U4} (e:VR fz U a x):ae c A fz U (MP T CL op a) (unaryOp op x) au:=by
 induction op with
 |Not=>refine(?_:ae c A fz U (bnd (Ax T CL a) λb=>ret (.bool (!b))) (ZQ [x] (YY x >>= λb=>pure (adm (!b)))) au);refine ae.holding (ae.bind (vX g h i e) λf r b y k q j=>?_);exact ac (j:b=y) (ae.ret λd d d d=>VR.bool _)
 |Invert=>exact rM (op:= .Invert) e
 |UAdd=>exact rM (op:= .UAdd) e
 |USub=>exact rM (op:= .USub) e
theorem yL {T:bC} (C:aP (lev+1) A) (Z:cI c.g) (B:eG c.KK CL) (F:∀A,aP lev A->ki c A T) {clo:Nat->List V->M V}
  (D:∀fz U n f k vs xs,U[n]?=UX f->av fz U vs xs->ae c A fz U (clo n vs) (ci k (.ref f) xs) au):cp c A (F6 c.w.params T CL NM clo) where
 bin:=λfz U op a b x y d o=>JX d o
 iop:=λfz U op a b x y d o=>JY d o
 cmp:=λfz U op a b x y d o=>ae.alt (CJ d o) (JZ (by have:=C.units;lia) d o)
 tru:=λfz U a x d=>vX C B F d
 una:=λfz U op a x d=>F7 C B F d
 idx:=λfz U q G a b x y Q d o=>ae.alt (FF B d o Q) (FQ d o Q)
 sli:=λfz U q lo hi p I a l h x y z d J L=>FH B d J L
 gti:=λfz U a b x y d o=>Jz (P:=c.w.params) d o
 sit:=λfz U a b v x y z d o t=>FP d o t
 ssl:=λfz U I a l h v x y z u d J L t=>FJ B d J L t
 att:=λfz U q n a x d=>J2 B.ok d
 sat:=λfz U n a v x z d t=>J3 B.ok d t
 mth:=λfz U n a x pl d=>ae.run λS K R=>by
  refine(?_:OK (match lD a S with|true=>FV a n S|false=>z6 CL a n S) K);induction h:lD a S with
  |true=>exact FZ d R h
  |false=>exact OK.got λr S' p e=>R _ _ _ (Fe B.ok d S r S' p e)
 cal:=λfz U k f vs xf xs hf t=>by
  cases hf with
  |fk j=>exact Kg C Z B F t
  |con v=>
   cases xf with
   |ref a=>
    refine(?_:ae c A fz U (match oN a T with|some m=>m vs|none=>fail) _ _);cases h:oN a T with
    |none=>exact ae.fail
    |some m=>
     refine aN (F A C.less a m h) λN W=>?_;obtain⟨O,X,E⟩:=N;rcases E with ⟨fd,E⟩|⟨E,h4⟩
     ·exact LK (λa0 ρ' H s k p Y=>(bL O fd (Y.hr.fzle _ _ (Y.hr.wd (a,O) X)) E)) (W fz U vs xs t)
     ·exact Ka (aA O X E) h4 (W fz U vs xs t)
   |_=>exact ae.fail
  |ref h=>exact D fz U _ _ k vs xs h t
  |_=>exact ae.fail
 iter:=λfz U a x d=>EM d
 nxt:=λfz U i a h=>JE C.handled h
 unp:=λfz U a x n d=>FO C.handled d
theorem nP {T:bC} (e:cI c.g) (i:eG c.KK CL) (l:∀A,aP lev A->ki c A T) (b:eC c.KK glob) (d:∀h,bv c.KK h->h.NoLimit):∀k A,aP (lev+1+k) A->cp c A (aZ c.w.params T CL NM glob N k)
 |0,A,h=>yL h e i l λa a a a a a a a a=>ae.fail
 |k+1,A,h=>yL (h.le (Vo _ _)) e i l λp U n f j vs q m o=>
   Jw b d (by have:=h.depth;exact Vn (Vo _ _) this) (λC Z=>d5 (nP e i l b d k _ (aP.deeper (n:=lev+1+k) h Z)) N C Z) m o
end
noncomputable abbrev pw:=YA
def cM (n:Nat):V4:=(dg pw.main.body n).getD (.Pass ⟨0,0,0,0⟩)
def dN (n k:Nat):V4:=(dg (cL (cM n)) k).getD (.Pass ⟨0,0,0,0⟩)
noncomputable abbrev en (x:Vd) (t:Nat) (v:U4):Vd×ZP×U4:=(x,t,v)
noncomputable def vY (P:Vc) (l:List (Vd×ZP×U4)):List Wi:=l.map λp=>⟨Wd P p.1, .str p.1 p.2.1,p.2.2⟩
def dO (P:Vc) (l:List (Vd×ZP×U4)) (n:Nat):Xi:={cls:= .type "dict",data:= .dict (vY P l).toArray n}
def jh (t:V4) (nm q:Vd) (clo:List (Vd×U8)) (a:U4) (b:U4) (code:U8) (c:U4):Vx:=
 {name:=nm,qualname:=q,params:=LB t,body:= .stmts (cL t),scope:=HL t,globals:=3,closure:=clo,defaults:=a,kwdefaults:= .none,doc:= .none,pyModule:=b,annotations:=UY,code:= .ref code,closureTuple:=c,builtins:=0}
noncomputable def fO (fd:Vx):Xi:={cls:= .type "function",data:= .func fd}
noncomputable def cO (vs:List U4):Xi:={cls:= .type "code",data:= .fields vs.toArray}
def cX (n q:Vd) (t:Nat) (l k:Int) (r:Nat) (x y:U4) (u e:Nat):Xi:=cO [.str n t, .str q (t+1), .str "/claim/cut.py" (t+2), .int l 0, .int k 0, .int 0 0, .int 0 0, .int 3 0, .ref r, .bool UZ, .int 181 0, .ref (r+1), .none,x,y, .ref u, .int e 0, .int l 0, .str "/claim/cut.py" (e+1)]
def cC (n q:Vd) (t:Nat) (l k:Int) (r e:Nat):Xi:=cX n q t l k r (.ref (r+2)) (.ref (r+3)) (r+4) e
def cN (n q:Vd) (t:Nat) (l k:Int) (r e:Nat):Xi:=cX n q t l k r .none .none (r+2) e
noncomputable def tO (vs:List U4):Xi:={cls:= .type "tuple",data:= .seq vs.toArray 0}
abbrev mT:U4:= .str "cpy313.email.header" 279
abbrev jI:U4:= .str "law_jc0042_01" 508
def oQ (t:V4) (n:Vd) (a:U4) (c:U8):Vx:=jh t n n [] .none a c .none
def kK (t:V4) (n q:Vd) (c:U8):Vx:=jh t n q [] .none mT c .none
def jb:Vx:=jh (cM 3) "_grouping_intervals" "_grouping_intervals" [] .none (.str "cpy313.locale" 194) 27 .none
def Ay:Vx:=jh (cM 4) "_strip_padding" "_strip_padding" [] .none (.str "cpy313.locale" 194) 34 .none
def rY:Vx:=jh (cM 6) "compute_powers" "compute_powers" [] (.ref 36) (.str "cpy313._pylong" 217) 42 .none
def vZ:Vx:=jh (cM 7) "_str_to_int_inner" "_str_to_int_inner" [] .none (.str "cpy313._pylong" 217) 49 .none
def Az:Vx:=jh (cM 8) "int_from_string" "int_from_string" [] .none (.str "cpy313._pylong" 217) 56 .none
def rZ:Vx:=jh (cM 9) "_int2digits" "_int2digits" [] .none (.str "cpy313._pylong" 217) 63 .none
def r8:Vx:=jh (cM 10) "_digits2int" "_digits2int" [] .none (.str "cpy313._pylong" 217) 70 .none
def AA:Vx:=kK (dN 14 0) "__init__" "_ValueFormatter.__init__" 84
def AB:Vx:=kK (dN 14 1) "_str" "_ValueFormatter._str" 91
def RK:Vx:=kK (dN 14 2) "__str__" "_ValueFormatter.__str__" 98
def ub:Vx:=kK (dN 14 3) "newline" "_ValueFormatter.newline" 105
def Ph:Vx:=kK (dN 14 4) "add_transition" "_ValueFormatter.add_transition" 112
def Pj:Vx:=kK (dN 14 5) "feed" "_ValueFormatter.feed" 119
def Pk:Vx:=kK (dN 14 6) "_maxlengths" "_ValueFormatter._maxlengths" 126
def Pl:Vx:=kK (dN 14 7) "_ascii_split" "_ValueFormatter._ascii_split" 133
def uc:Vx:=kK (dN 14 8) "_append_chunk" "_ValueFormatter._append_chunk" 140
def nQ:Vx:=jh (dN 15 0) "__init__" "_Accumulator.__init__" [("__class__",152)] (.ref 157) mT 164 (.ref 158)
def ud:Vx:=kK (dN 15 1) "push" "_Accumulator.push" 171
def ue:Vx:=jh (dN 15 2) "pop_from" "_Accumulator.pop_from" [] (.ref 173) mT 179 .none
def nR:Vx:=jh (dN 15 3) "pop" "_Accumulator.pop" [("__class__",152)] .none mT 187 (.ref 181)
def uf:Vx:=kK (dN 15 4) "__len__" "_Accumulator.__len__" 194
def ug:Vx:=kK (dN 15 5) "__str__" "_Accumulator.__str__" 201
def qL:Vx:=jh (dN 15 6) "reset" "_Accumulator.reset" [] (.ref 203) mT 209 .none
def uh:Vx:=kK (dN 15 7) "is_onlyws" "_Accumulator.is_onlyws" 216
def nS:Vx:=jh (dN 15 8) "part_count" "_Accumulator.part_count" [("__class__",152)] .none mT 224 (.ref 218)
def ui:Vx:=jh (cM 17) "parse_keqv_list" "parse_keqv_list" [] .none (.str "cpy313.urllib.request" 489) 238 .none
def uj:Vx:=jh (cM 18) "parse_http_list" "parse_http_list" [] .none (.str "cpy313.urllib.request" 489) 243 .none
def uk:Vx:=oQ (cM 20) "_law_cells" jI 250
def ul:Vx:=oQ (cM 21) "_law_ruler" jI 257
def uo:Vx:=oQ (cM 22) "_law_sizes" jI 264
def qM:Vx:=oQ (cM 23) "_law_numeral" jI 271
def uq:Vx:=oQ (cM 24) "_law_value" jI 276
def qN:Vx:=oQ (cM 25) "_law_letter" jI 283
def ur:Vx:=oQ (cM 26) "_law_read" jI 290
def qO:Vx:=oQ (cM 27) "_law_taken" jI 295
def qP:Vx:=oQ (cM 28) "_law_day" jI 300
def AC:Vx:=oQ (cM 29) "law" jI 305
def po:List (Vd×ZP×U4):=[en "__name__" 1 (.str "builtins" 160),en "__doc__" 2 (.builtin "builtins.__doc__:str#opaque"),en "__package__" 3 (.builtin "builtins.__package__:str#opaque"),en "__loader__" 4 (.builtin "builtins.__loader__:shared#opaque"),en "__spec__" 5 (.builtin "builtins.__spec__#opaque"),en "__build_class__" 6 (.builtin "__build_class__"),en "__import__" 7 (.builtin "__import__"),en "abs" 8 (.builtin "abs"),en "all" 9 (.builtin "all"),en "any" 10 (.builtin "any"),en "ascii" 11 (.builtin "ascii"),en "bin" 12 (.builtin "bin"),en "breakpoint" 13 (.builtin "breakpoint"),en "callable" 14 (.builtin "callable"),en "chr" 15 (.builtin "chr"),en "compile" 16 (.builtin "compile"),en "delattr" 17 (.builtin "delattr"),en "dir" 18 (.builtin "dir"),en "divmod" 19 (.builtin "divmod"),en "eval" 20 (.builtin "eval"),en "exec" 21 (.builtin "exec"),en "format" 22 (.builtin "format"),en "getattr" 23 (.builtin "getattr"),en "globals" 24 (.builtin "globals"),en "hasattr" 25 (.builtin "hasattr"),en "hash" 26 (.builtin "hash"),en "hex" 27 (.builtin "hex"),en "id" 28 (.builtin "id"),en "input" 29 (.builtin "input"),en "isinstance" 30 (.builtin "isinstance"),en "issubclass" 31 (.builtin "issubclass"),en "iter" 32 (.builtin "iter"),en "aiter" 33 (.builtin "aiter"),en "len" 34 (.builtin "len"),en "locals" 35 (.builtin "locals"),en "max" 36 (.builtin "max"),en "min" 37 (.builtin "min"),en "next" 38 (.builtin "next"),en "anext" 39 (.builtin "anext"),en "oct" 40 (.builtin "oct"),en "ord" 41 (.builtin "ord"),en "pow" 42 (.builtin "pow"),en "print" 43 (.builtin "print"),en "repr" 44 (.builtin "repr"),en "round" 45 (.builtin "round"),en "setattr" 46 (.builtin "setattr"),en "sorted" 47 (.builtin "sorted"),en "sum" 48 (.builtin "sum"),en "vars" 49 (.builtin "vars"),en "None" 50 .none,en "Ellipsis" 51 .ellipsis,en "NotImplemented" 52 .notImplemented,en "False" 53 (.bool U0),en "True" 54 (.bool UZ),en "bool" 55 (.type "bool"),en "memoryview" 56 (.type "memoryview"),en "bytearray" 57 (.type "bytearray"),en "bytes" 58 (.type "bytes"),en "classmethod" 59 (.type "classmethod"),en "complex" 60 (.type "complex"),en "dict" 61 (.type "dict"),en "enumerate" 62 (.type "enumerate"),en "filter" 63 (.type "filter"),en "float" 64 (.type "float"),en "frozenset" 65 (.type "frozenset"),en "property" 66 (.type "property"),en "int" 67 (.type "int"),en "list" 68 (.type "list"),en "map" 69 (.type "map"),en "object" 70 (.type "object"),en "range" 71 (.type "range"),en "reversed" 72 (.type "reversed"),en "set" 73 (.type "set"),en "slice" 74 (.type "slice"),en "staticmethod" 75 (.type "staticmethod"),en "str" 76 (.type "str"),en "super" 77 (.type "super"),en "tuple" 78 (.type "tuple"),en "type" 79 (.type "type"),en "zip" 80 (.type "zip"),en "__debug__" 81 (.bool UZ),en "BaseException" 82 (.type "BaseException"),en "BaseExceptionGroup" 83 (.type "BaseExceptionGroup"),en "Exception" 84 (.type "Exception"),en "GeneratorExit" 85 (.type "GeneratorExit"),en "KeyboardInterrupt" 86 (.type "KeyboardInterrupt"),en "SystemExit" 87 (.type "SystemExit"),en "ArithmeticError" 88 (.type "ArithmeticError"),en "AssertionError" 89 (.type "AssertionError"),en "AttributeError" 90 (.type "AttributeError"),en "BufferError" 91 (.type "BufferError"),en "EOFError" 92 (.type "EOFError"),en "ImportError" 93 (.type "ImportError"),en "LookupError" 94 (.type "LookupError"),en "MemoryError" 95 (.type "MemoryError"),en "NameError" 96 (.type "NameError"),en "OSError" 97 (.type "OSError"),en "ReferenceError" 98 (.type "ReferenceError"),en "RuntimeError" 99 (.type "RuntimeError"),en "StopAsyncIteration" 100 (.type "StopAsyncIteration"),en "StopIteration" 101 (.type "StopIteration"),en "SyntaxError" 102 (.type "SyntaxError"),en "SystemError" 103 (.type "SystemError"),en "TypeError" 104 (.type "TypeError"),en "ValueError" 105 (.type "ValueError"),en "Warning" 106 (.type "Warning"),en "FloatingPointError" 107 (.type "FloatingPointError"),en "OverflowError" 108 (.type "OverflowError"),en "ZeroDivisionError" 109 (.type "ZeroDivisionError"),en "BytesWarning" 110 (.type "BytesWarning"),en "DeprecationWarning" 111 (.type "DeprecationWarning"),en "EncodingWarning" 112 (.type "EncodingWarning"),en "FutureWarning" 113 (.type "FutureWarning"),en "ImportWarning" 114 (.type "ImportWarning"),en "PendingDeprecationWarning" 115 (.type "PendingDeprecationWarning"),en "ResourceWarning" 116 (.type "ResourceWarning"),en "RuntimeWarning" 117 (.type "RuntimeWarning"),en "SyntaxWarning" 118 (.type "SyntaxWarning"),en "UnicodeWarning" 119 (.type "UnicodeWarning"),en "UserWarning" 120 (.type "UserWarning"),en "BlockingIOError" 121 (.type "BlockingIOError"),en "ChildProcessError" 122 (.type "ChildProcessError"),en "ConnectionError" 123 (.type "ConnectionError"),en "FileExistsError" 124 (.type "FileExistsError"),en "FileNotFoundError" 125 (.type "FileNotFoundError"),en "InterruptedError" 126 (.type "InterruptedError"),en "IsADirectoryError" 127 (.type "IsADirectoryError"),en "NotADirectoryError" 128 (.type "NotADirectoryError"),en "PermissionError" 129 (.type "PermissionError"),en "ProcessLookupError" 130 (.type "ProcessLookupError"),en "TimeoutError" 131 (.type "TimeoutError"),en "IndentationError" 132 (.type "IndentationError"),en "_IncompleteInputError" 133 (.type "_IncompleteInputError"),en "IndexError" 134 (.type "IndexError"),en "KeyError" 135 (.type "KeyError"),en "ModuleNotFoundError" 136 (.type "ModuleNotFoundError"),en "NotImplementedError" 137 (.type "NotImplementedError"),en "PythonFinalizationError" 138 (.type "PythonFinalizationError"),en "RecursionError" 139 (.type "RecursionError"),en "UnboundLocalError" 140 (.type "UnboundLocalError"),en "UnicodeError" 141 (.type "UnicodeError"),en "BrokenPipeError" 142 (.type "BrokenPipeError"),en "ConnectionAbortedError" 143 (.type "ConnectionAbortedError"),en "ConnectionRefusedError" 144 (.type "ConnectionRefusedError"),en "ConnectionResetError" 145 (.type "ConnectionResetError"),en "TabError" 146 (.type "TabError"),en "UnicodeDecodeError" 147 (.type "UnicodeDecodeError"),en "UnicodeEncodeError" 148 (.type "UnicodeEncodeError"),en "UnicodeTranslateError" 149 (.type "UnicodeTranslateError"),en "ExceptionGroup" 150 (.type "ExceptionGroup"),en "EnvironmentError" 151 (.type "OSError"),en "IOError" 152 (.type "OSError"),en "open" 153 (.builtin "open"),en "quit" 154 (.builtin "builtins.quit#opaque"),en "exit" 155 (.builtin "builtins.exit#opaque"),en "copyright" 156 (.builtin "builtins.copyright#opaque"),en "credits" 157 (.builtin "builtins.credits#opaque"),en "license" 158 (.builtin "builtins.license#opaque"),en "help" 159 (.builtin "builtins.help#opaque")]
noncomputable def gW:List (Vd×ZP×U4):=[en "__name__" 165 jI,en "__doc__" 166 .none,en "__package__" 167 .none,en "__loader__" 168 (.builtin "__main__.__loader__#opaque"),en "__spec__" 169 .none,en "__annotations__" 170 (.ref 6),en "__builtins__" 171 (.ref 4),en "__file__" 173 (.str "/claim/cut.py" 172),en "__cached__" 174 .none,en "_wall" 193 (.ref 21),en "CHAR_MAX" 197 (.int 127 196),en "_grouping_intervals" 206 (.ref 28),en "_strip_padding" 216 (.ref 35),en "compute_powers" 238 (.ref 43),en "_str_to_int_inner" 249 (.ref 50),en "int_from_string" 256 (.ref 57),en "_int2digits" 267 (.ref 64),en "_digits2int" 278 (.ref 71),en "NL" 282 (.str "\n" 281),en "EMPTYSTRING" 284 (.str "" 283),en "_ValueFormatter" 392 (.ref 144),en "_Accumulator" 488 (.ref 228),en "parse_keqv_list" 501 (.ref 239),en "parse_http_list" 507 (.ref 244),en "_law_cells" 518 (.ref 251),en "_law_ruler" 528 (.ref 258),en "_law_sizes" 537 (.ref 265),en "_law_numeral" 548 (.ref 272),en "_law_value" 554 (.ref 277),en "_law_letter" 570 (.ref 284),en "_law_read" 589 (.ref 291),en "_law_taken" 595 (.ref 296),en "_law_day" 601 (.ref 301),en "law" 607 (.ref 306)]
def Uw:List (Vd×ZP×U4):=[en "__module__" 292 mT,en "__firstlineno__" 296 (.int 111 295),en "__init__" 307 (.ref 85),en "_str" 315 (.ref 92),en "__str__" 322 (.ref 99),en "newline" 330 (.ref 106),en "add_transition" 337 (.ref 113),en "feed" 347 (.ref 120),en "_maxlengths" 354 (.ref 127),en "_ascii_split" 364 (.ref 134),en "_append_chunk" 378 (.ref 141),en "__static_attributes__" 385 (.ref 142),en "__dict__" 387 (.ref 145),en "__weakref__" 389 (.ref 146),en "__doc__" 390 .none]
def Ux:List (Vd×ZP×U4):=[en "__module__" 400 mT,en "__firstlineno__" 404 (.int 177 403),en "__init__" 414 (.ref 165),en "push" 423 (.ref 172),en "pop_from" 433 (.ref 180),en "pop" 441 (.ref 188),en "__len__" 448 (.ref 195),en "__str__" 455 (.ref 202),en "reset" 463 (.ref 210),en "is_onlyws" 470 (.ref 217),en "part_count" 478 (.ref 225),en "__static_attributes__" 480 (.ref 226),en "__dict__" 483 (.ref 229),en "__weakref__" 485 (.ref 230),en "__doc__" 486 .none]
noncomputable def AE:adx:={name:="_ValueFormatter",bases:=[(.type "object")],mro:=[(.ref 144),(.type "object")],ns:=143,qualname:="_ValueFormatter",hasDict:=UZ,slotNames:=[],subclasses:=[],abstract:=U0,collection:=UY,hasDel:=U0}
noncomputable def qQ:adx:={name:="_Accumulator",bases:=[(.type "list")],mro:=[(.ref 228),(.type "list"),(.type "object")],ns:=227,qualname:="_Accumulator",hasDict:=UZ,slotNames:=[],subclasses:=[],abstract:=U0,collection:=UY,hasDel:=U0}
def aF (P:Vc):List (U8×Xi):=[
 (0,dO P po 159),
 (2,{cls:= .none,dict:=UY,data:=(.dict #[] 0),slots:= #[]}),
 (3,dO P gW 34),
 (4,{cls:=(.type "module"),dict:=(UX 0),data:= .plain,slots:= #[]}),
 (36,tO [(.bool U0)]),
 (157,tO [(.int 0 405)]),
 (173,tO [(.int 0 424)]),
 (203,tO [.none]),
 (143,dO P Uw 4),
 (227,dO P Ux 5),
 (144,{cls:=(.type "type"),dict:=UY,data:=(.cls AE),slots:= #[UY,UY,(UX (.str "_ValueFormatter" 285)),(UX (.str "_ValueFormatter" 293)),(UX (.builtin "object.__new__")),(UX (.bool UZ))]}),
 (152,{cls:=(.type "cell"),dict:=UY,data:=(.cell (UX (.ref 228))),slots:= #[]}),
 (228,{cls:=(.type "type"),dict:=UY,data:=(.cls qQ),slots:= #[(UX (.ref 149)),UY,(UX (.str "_Accumulator" 393)),(UX (.str "_Accumulator" 401)),(UX (.builtin "list.__new__")),(UX (.bool UZ))]}),
 (27,cO [(.str "_grouping_intervals" 198),(.str "_grouping_intervals" 199),(.str "/claim/cut.py" 200),(.int 6 0),(.int 1 0),(.int 0 0),(.int 0 0),(.int 35 0),(.ref 22),(.bool UZ),(.int 181 0),(.ref 23), .none,(.ref 24),(.ref 25),(.ref 26),(.int 204 0),(.int 6 0),(.str "/claim/cut.py" 205)]),
 (28,fO jb),
 (34,cC "_strip_padding" "_strip_padding" 207 18 2 29 214),
 (35,fO Ay),
 (42,cC "compute_powers" "compute_powers" 219 29 4 37 236),
 (43,fO rY),
 (49,cC "_str_to_int_inner" "_str_to_int_inner" 239 70 1 44 247),
 (50,fO vZ),
 (56,cC "int_from_string" "int_from_string" 250 80 1 51 254),
 (57,fO Az),
 (63,cC "_int2digits" "_int2digits" 257 83 2 58 265),
 (64,fO rZ),
 (70,cC "_digits2int" "_digits2int" 268 99 2 65 276),
 (71,fO r8),
 (84,cC "__init__" "_ValueFormatter.__init__" 297 113 5 79 305),
 (85,fO AA),
 (91,cC "_str" "_ValueFormatter._str" 308 121 2 86 313),
 (92,fO AB),
 (98,cC "__str__" "_ValueFormatter.__str__" 316 125 1 93 320),
 (99,fO RK),
 (105,cC "newline" "_ValueFormatter.newline" 323 128 1 100 328),
 (106,fO ub),
 (112,cC "add_transition" "_ValueFormatter.add_transition" 331 139 1 107 335),
 (113,fO Ph),
 (119,cC "feed" "_ValueFormatter.feed" 338 142 4 114 345),
 (120,fO Pj),
 (126,cC "_maxlengths" "_ValueFormatter._maxlengths" 348 145 1 121 352),
 (127,fO Pk),
 (133,cC "_ascii_split" "_ValueFormatter._ascii_split" 355 148 4 128 362),
 (134,fO Pl),
 (140,cC "_append_chunk" "_ValueFormatter._append_chunk" 365 151 3 135 376),
 (141,fO uc),
 (164,cC "__init__" "_Accumulator.__init__" 406 179 2 159 412),
 (165,fO nQ),
 (171,cC "push" "_Accumulator.push" 415 183 3 166 421),
 (172,fO ud),
 (179,cC "pop_from" "_Accumulator.pop_from" 425 186 2 174 431),
 (180,fO ue),
 (187,cC "pop" "_Accumulator.pop" 434 191 1 182 439),
 (188,fO nR),
 (194,cC "__len__" "_Accumulator.__len__" 442 196 1 189 446),
 (195,fO uf),
 (201,cC "__str__" "_Accumulator.__str__" 449 199 1 196 453),
 (202,fO ug),
 (209,cC "reset" "_Accumulator.reset" 456 202 2 204 461),
 (210,fO qL),
 (216,cC "is_onlyws" "_Accumulator.is_onlyws" 464 208 1 211 468),
 (217,fO uh),
 (224,cC "part_count" "_Accumulator.part_count" 471 211 1 219 476),
 (225,fO nS),
 (238,cC "parse_keqv_list" "parse_keqv_list" 491 214 1 233 499),
 (239,fO ui),
 (243,cN "parse_http_list" "parse_http_list" 502 222 1 240 505),
 (244,fO uj),
 (250,cC "_law_cells" "_law_cells" 510 250 1 245 516),
 (251,fO uk),
 (257,cC "_law_ruler" "_law_ruler" 519 255 1 252 526),
 (258,fO ul),
 (264,cC "_law_sizes" "_law_sizes" 529 266 1 259 535),
 (265,fO uo),
 (271,cC "_law_numeral" "_law_numeral" 538 273 2 266 546),
 (272,fO qM),
 (276,cN "_law_value" "_law_value" 549 282 2 273 552),
 (277,fO uq),
 (283,cC "_law_letter" "_law_letter" 555 289 4 278 568),
 (284,fO qN),
 (290,cC "_law_read" "_law_read" 571 305 4 285 587),
 (291,fO ur),
 (295,cN "_law_taken" "_law_taken" 590 322 5 292 593),
 (296,fO qO),
 (300,cN "_law_day" "_law_day" 596 341 4 297 599),
 (301,fO qP),
 (305,cN "law" "law" 602 370 1 302 605),
 (306,fO AC)]
noncomputable def RL:List U8:=[0,2,3,4,36,157,173,203,143,227,144,152,228,27,28,34,35,42,43,49,50,56,57,63,64,70,71,84,85,91,92,98,99,105,106,112,113,119,120,126,127,133,134,140,141,164,165,171,172,179,180,187,188,194,195,201,202,209,210,216,217,224,225,238,239,243,244,250,251,257,258,264,265,271,272,276,277,283,284,290,291,295,296,300,301,305,306]
end
section
open PySem.W
def dF (t:V4):FT:={params:=(LB t).args.map (·.arg),body:=cL t,scope:=HL t,cn:=mA (HL t).names}
theorem cA {K:List (U8×Xi)} {o:Xi} (h:K.lookup a=UX o):(a,o)∈K:=by
 induction K with
 |nil=>exact nn h
 |cons p r c=>
  rw[Xe] at h;induction b:(a==p.1) with
  |true=>rw[b] at h;exact ac (beq_iff_eq.mp b) (aD (U2 h) (.head _))
  |false=>rw[b] at h;exact .tail _ (c h)
def ut:U4->Option Vd
 | .str q _=>UX q
 |_=>UY
theorem r9 {v:U4} {q:Vd} (h:ut v=UX q):∃t,v= .str q t:=by
 induction v using aaV with
 |str s t=>exact⟨t,congrArg (Value.str · t) (U2 h)⟩
 |_=>exact nn h
def mU (o:Xi):Option (Array U4):=match o.data with
 | .fields vs=>UX vs
 |_=>UY
theorem pq {o:Xi} {vs:Array U4}:mU o=UX vs->o.data= .fields vs:=by
 unfold mU;induction o.data using acG with
 |fields a=>exact λh=>congrArg Data.fields (U2 h)
 |_=>exact nn
noncomputable def Ia (o:Xi):Option Vd:=(mU o).bind λvs=>(vs.toList[1]?).bind ut
theorem kL {K:List (U8×Xi)} {c:U8} {q:Vd} (h1:(K.lookup c).bind Ia=UX q) (h:Ve) (a:bv K h):h.CodeRec (.ref c) q:=by
 exact aj (Option.bind_eq_some_iff.mp h1) λo b d=>aj (Option.bind_eq_some_iff.mp d) λvs e f=>aj (Option.bind_eq_some_iff.mp f) λv g i=>bI (r9 i) λt j=>
  ⟨c,o,vs,t,rfl,a (c,o) (cA b),pq e,Array.getElem?_toList.symm.trans (g.trans (congrArg UX j))⟩
def mV (names:List (Vd×Wm)) (cn:List Vd):List Vd->Bool
 |[]=>UZ
 |x::r=>(match kd x names with
  |some .local=>UZ
  |some .cell=>iK x cn
  |_=>U0)&&mV names cn r
theorem CM {x:Vd} {l:List Vd} (h:iK x l=UZ):x∈l:=by
 induction l with
 |nil=>exact ff h
 |cons y r b=>
  have h:(match sq x y with|true=>UZ|false=>iK x r)=UZ:=h;induction a:sq x y with
  |true=>exact aD (bS.mp a) (.head _)
  |false=>rw[a] at h;exact .tail _ (b h)
theorem pr {cn:List Vd} {ps:List Vd} (h:mV names cn ps=UZ):∀x∈ps,names.lookup x=UX .local∨(names.lookup x=UX .cell/\x∈cn):=by
 induction ps with
 |nil=>exact nofun
 |cons y r d=>
  have h:((match kd y names with|some .local=>UZ|some .cell=>iK y cn|_=>U0)&&mV names cn r)=UZ:=h;rw[VQ,fK] at h;intro x b;rcases List.mem_cons.mp b with rfl|b
  ·have a:=h.1;induction c:names.lookup x with
   |none=>rw[c] at a;exact ff a
   |some k=>
    rw[c] at a;induction k with
    |«local»=>exact .inl rfl
    |cell=>exact .inr ⟨rfl,CM a⟩
    |_=>exact ff a
  ·exact d h.2 x b
theorem AG {l:List α} (h:l.length=1):∃a,l=[a]:=List.length_eq_one_iff.mp h
theorem AH {l:List α} (h:l.length=2):∃a b,l=[a,b]:=by
 induction l using VG with
 |nil=>exact nomatch h
 |cons a l=>exact bI (AG (XC h)) λb e=>(sU a b (congrArg (a::·) e))
theorem pv {l:List α} (h:l.length=3):∃a b c,l=[a,b,c]:=by
 induction l using VG with
 |nil=>exact nomatch h
 |cons a l=>exact p9 (AH (XC h)) λb c e=>Hz a b c (congrArg (a::·) e)
theorem MQ {l:List α} (h:l.length=4):∃a b c d,l=[a,b,c,d]:=by
 induction l using VG with
 |nil=>exact nomatch h
 |cons a l=>exact ky (pv (XC h)) λb c d e=>Uk a b c d (congrArg (a::·) e)
theorem RM {l:List α} (h:l.length=5):∃a b c d e,l=[a,b,c,d,e]:=by
 induction l using VG with
 |nil=>exact nomatch h
 |cons a l=>exact qa (MQ (XC h)) λb c d e q=>Ul a b c d e (congrArg (a::·) q)
abbrev c9 (P:Vc) (fd:Vx) (T:FT):Prop:=∀(s:U9) (xs:List U4),bv (aF P) s.heap->xs.length=T.params.length->Yg s fd ⟨xs,[]⟩ (T.params.zip xs)
section
theorem j5 (e:T.params.length=1) (h:∀s a,bv (aF P) s.heap->Yg s fd ⟨[a],[]⟩ (T.params.zip [a])):c9 P fd T:=λs d b c=>bI (AG (c.trans e)) λa q=>ac q (h s a b)
theorem qR (e:T.params.length=2) (h:∀s a b,bv (aF P) s.heap->Yg s fd ⟨[a,b],[]⟩ (T.params.zip [a,b])):c9 P fd T:=λs f c d=>p9 (AH (d.trans e)) λa b q=>ac q (h s a b c)
theorem Rb (e:T.params.length=3) (h:∀s a b c,bv (aF P) s.heap->Yg s fd ⟨[a,b,c],[]⟩ (T.params.zip [a,b,c])):c9 P fd T:=λs g d f=>ky (pv (f.trans e)) λa b c q=>ac q (h s a b c d)
theorem Ib (e:T.params.length=4) (h:∀s a b c d,bv (aF P) s.heap->Yg s fd ⟨[a,b,c,d],[]⟩ (T.params.zip [a,b,c,d])):c9 P fd T:=λs i f g=>qa (MQ (g.trans e)) λa b c d q=>ac q (h s a b c d f)
theorem Rc (e:T.params.length=5) (h:∀s a b c d e,bv (aF P) s.heap->Yg s fd ⟨[a,b,c,d,e],[]⟩ (T.params.zip [a,b,c,d,e])):c9 P fd T:=λs i f g=>QW (RM (g.trans e)) λa b c d e q=>ac q (h s a b c d e f)
theorem bY (c:U8) {q:Vd} (h1:(aF P).lookup f=UX (fO fd)) (h2:fd.body= .stmts T.body) (b:fd.scope=T.scope) (d:fd.closure=[]) (e:fd.code= .ref c) (g:fd.qualname=q) (i:((aF P).lookup c).bind Ia=UX q) (j:c9 P fd T) (k:mA T.scope.names=T.cn)
  (h:(iU ((XG 0 T.scope.names []).map (·.1))&&(mV T.scope.names T.cn T.params&&(!T.scope.isCoroutine&& !T.scope.isGenerator)))=UZ) (a:T.scope.kind= .function):bz (aF P) f fd T:=by
 rw[VQ,VQ,VQ,XX,XX] at h
 exact⟨(aA _ (cA h1) rfl),h2,b,d,λh l=>e▸g▸kL i h l,j,k,mQ h.1,pr h.2.1,h.2.2.1,h.2.2.2,a⟩
end
def F8:FT:=dF (cM 4)
theorem RN:c9 P Ay F8:=qR (by rfl') λa a a a=> .of_eq (by rfl')
theorem MR:bz (aF P) 35 Ay F8:=bY 34 (by rfl') rfl rfl rfl rfl rfl (by rfl') RN rfl (by rfl') (by rfl')
def gB:FT:=dF (cM 6)
theorem RO:c9 P rY gB:=Ib (by rfl') λa a a a a c=>kp_binds (K:=aF P) (λb o e=>c (b,o) (cA e)) λS=>by rfl'
theorem RP:bz (aF P) 43 rY gB:=bY 42 (by rfl') rfl rfl rfl rfl rfl (by rfl') RO rfl (by rfl') (by rfl')
def kj:FT:=dF (cM 7)
theorem RQ:c9 P vZ kj:=j5 (by rfl') λa a a=> .of_eq (by rfl')
theorem MS:bz (aF P) 50 vZ kj:=bY 49 (by rfl') rfl rfl rfl rfl rfl (by rfl') RQ rfl (by rfl') (by rfl')
def jJ:FT:=dF (cM 8)
theorem RR:c9 P Az jJ:=j5 (by rfl') λa a a=> .of_eq (by rfl')
theorem MT:bz (aF P) 57 Az jJ:=bY 56 (by rfl') rfl rfl rfl rfl rfl (by rfl') RR rfl (by rfl') (by rfl')
def a9:FT:=dF (cM 9)
theorem RS:c9 P rZ a9:=qR (by rfl') λa a a a=> .of_eq (by rfl')
theorem MU:bz (aF P) 64 rZ a9:=bY 63 (by rfl') rfl rfl rfl rfl rfl (by rfl') RS rfl (by rfl') (by rfl')
def gX:FT:=dF (cM 10)
theorem RT:c9 P r8 gX:=qR (by rfl') λa a a a=> .of_eq (by rfl')
theorem AI:bz (aF P) 71 r8 gX:=bY 70 (by rfl') rfl rfl rfl rfl rfl (by rfl') RT rfl (by rfl') (by rfl')
def v4:FT:=dF (dN 14 0)
theorem RU:c9 P AA v4:=Rc (by rfl') λa a a a a a a=> .of_eq (by rfl')
theorem RV:bz (aF P) 85 AA v4:=bY 84 (by rfl') rfl rfl rfl rfl rfl (by rfl') RU rfl (by rfl') (by rfl')
def F9:FT:=dF (dN 14 1)
theorem RW:c9 P AB F9:=qR (by rfl') λa a a a=> .of_eq (by rfl')
theorem RX:bz (aF P) 92 AB F9:=bY 91 (by rfl') rfl rfl rfl rfl rfl (by rfl') RW rfl (by rfl') (by rfl')
def nT:FT:=dF (dN 14 3)
theorem Pm:c9 P ub nT:=j5 (by rfl') λa a a=> .of_eq (by rfl')
theorem Pn:bz (aF P) 106 ub nT:=bY 105 (by rfl') rfl rfl rfl rfl rfl (by rfl') Pm rfl (by rfl') (by rfl')
def AJ:FT:=dF (dN 14 8)
theorem Po:c9 P uc AJ:=Rb (by rfl') λa a a a a=> .of_eq (by rfl')
theorem Pp:bz (aF P) 141 uc AJ:=bY 140 (by rfl') rfl rfl rfl rfl rfl (by rfl') Po rfl (by rfl') (by rfl')
def eU:FT:=dF (dN 15 0)
theorem Pq:c9 P nQ eU:=qR (by rfl') λa a a c=>kp_binds (K:=aF P) (λb o e=>c (b,o) (cA e)) λS=>by rfl'
def AK:FT:=dF (dN 15 1)
theorem Pr:c9 P ud AK:=Rb (by rfl') λa a a a a=> .of_eq (by rfl')
theorem Ps:bz (aF P) 172 ud AK:=bY 171 (by rfl') rfl rfl rfl rfl rfl (by rfl') Pr rfl (by rfl') (by rfl')
def AL:FT:=dF (dN 15 2)
theorem Pu:c9 P ue AL:=qR (by rfl') λa a a c=>kp_binds (K:=aF P) (λb o e=>c (b,o) (cA e)) λS=>by rfl'
theorem Pv:bz (aF P) 180 ue AL:=bY 179 (by rfl') rfl rfl rfl rfl rfl (by rfl') Pu rfl (by rfl') (by rfl')
def gf:FT:=dF (dN 15 3)
theorem Pw:c9 P nR gf:=j5 (by rfl') λa a a=> .of_eq (by rfl')
def iL:FT:=dF (dN 15 4)
theorem Px:c9 P uf iL:=j5 (by rfl') λa a a=> .of_eq (by rfl')
theorem Py:bz (aF P) 195 uf iL:=bY 194 (by rfl') rfl rfl rfl rfl rfl (by rfl') Px rfl (by rfl') (by rfl')
def iM:FT:=dF (dN 15 5)
theorem Pz:c9 P ug iM:=j5 (by rfl') λa a a=> .of_eq (by rfl')
theorem PA:bz (aF P) 202 ug iM:=bY 201 (by rfl') rfl rfl rfl rfl rfl (by rfl') Pz rfl (by rfl') (by rfl')
def lE:FT:=dF (dN 15 6)
theorem PB:c9 P qL lE:=qR (by rfl') λa a a c=>kp_binds (K:=aF P) (λb o e=>c (b,o) (cA e)) λS=>by rfl'
theorem Ic:bz (aF P) 210 qL lE:=bY 209 (by rfl') rfl rfl rfl rfl rfl (by rfl') PB rfl (by rfl') (by rfl')
def AM:FT:=dF (dN 15 7)
theorem PC:c9 P uh AM:=j5 (by rfl') λa a a=> .of_eq (by rfl')
theorem PD:bz (aF P) 217 uh AM:=bY 216 (by rfl') rfl rfl rfl rfl rfl (by rfl') PC rfl (by rfl') (by rfl')
def jo:FT:=dF (dN 15 8)
theorem PE:c9 P nS jo:=j5 (by rfl') λa a a=> .of_eq (by rfl')
def AN:FT:=dF (cM 17)
theorem PF:c9 P ui AN:=j5 (by rfl') λa a a=> .of_eq (by rfl')
theorem Ie:bz (aF P) 239 ui AN:=bY 238 (by rfl') rfl rfl rfl rfl rfl (by rfl') PF rfl (by rfl') (by rfl')
def dv:FT:=dF (cM 18)
theorem PH:c9 P uj dv:=j5 (by rfl') λa a a=> .of_eq (by rfl')
theorem Ig:bz (aF P) 244 uj dv:=bY 243 (by rfl') rfl rfl rfl rfl rfl (by rfl') PH rfl (by rfl') (by rfl')
def fL:FT:=dF (cM 20)
theorem PI:c9 P uk fL:=j5 (by rfl') λa a a=> .of_eq (by rfl')
theorem Ih:bz (aF P) 251 uk fL:=bY 250 (by rfl') rfl rfl rfl rfl rfl (by rfl') PI rfl (by rfl') (by rfl')
def nU:FT:=dF (cM 21)
theorem PJ:c9 P ul nU:=j5 (by rfl') λa a a=> .of_eq (by rfl')
theorem Ii:bz (aF P) 258 ul nU:=bY 257 (by rfl') rfl rfl rfl rfl rfl (by rfl') PJ rfl (by rfl') (by rfl')
def jp:FT:=dF (cM 22)
theorem PK:c9 P uo jp:=j5 (by rfl') λa a a=> .of_eq (by rfl')
theorem Ij:bz (aF P) 265 uo jp:=bY 264 (by rfl') rfl rfl rfl rfl rfl (by rfl') PK rfl (by rfl') (by rfl')
def AO:FT:=dF (cM 23)
theorem PL:c9 P qM AO:=qR (by rfl') λa a a a=> .of_eq (by rfl')
theorem Ik:bz (aF P) 272 qM AO:=bY 271 (by rfl') rfl rfl rfl rfl rfl (by rfl') PL rfl (by rfl') (by rfl')
def dR:FT:=dF (cM 24)
theorem PM:c9 P uq dR:=qR (by rfl') λa a a a=> .of_eq (by rfl')
theorem Il:bz (aF P) 277 uq dR:=bY 276 (by rfl') rfl rfl rfl rfl rfl (by rfl') PM rfl (by rfl') (by rfl')
def dS:FT:=dF (cM 25)
theorem PN:c9 P qN dS:=Ib (by rfl') λa a a a a a=> .of_eq (by rfl')
theorem PO:bz (aF P) 284 qN dS:=bY 283 (by rfl') rfl rfl rfl rfl rfl (by rfl') PN rfl (by rfl') (by rfl')
def uu:FT:=dF (cM 26)
theorem PP:c9 P ur uu:=Ib (by rfl') λa a a a a a=> .of_eq (by rfl')
theorem Im:bz (aF P) 291 ur uu:=bY 290 (by rfl') rfl rfl rfl rfl rfl (by rfl') PP rfl (by rfl') (by rfl')
def gj:FT:=dF (cM 27)
theorem PQ:c9 P qO gj:=Rc (by rfl') λa a a a a a a=> .of_eq (by rfl')
theorem PR:bz (aF P) 296 qO gj:=bY 295 (by rfl') rfl rfl rfl rfl rfl (by rfl') PQ rfl (by rfl') (by rfl')
def bp:FT:=dF (cM 28)
theorem PT:c9 P qP bp:=Ib (by rfl') λa a a a a a=> .of_eq (by rfl')
theorem PU:bz (aF P) 301 qP bp:=bY 300 (by rfl') rfl rfl rfl rfl rfl (by rfl') PT rfl (by rfl') (by rfl')
def uv:FT:=dF (cM 29)
theorem PV:c9 P AC uv:=j5 (by rfl') λa a a=> .of_eq (by rfl')
theorem Io:bz (aF P) 306 AC uv:=bY 305 (by rfl') rfl rfl rfl rfl rfl (by rfl') PV rfl (by rfl') (by rfl')
noncomputable def fv:List (Vd×ZP×U4)->Vd->Option U4
 |[],_=>UY
 |(y,_,v)::r,x=>match sq x y with
  |true=>UX v
  |false=>fv r x
theorem x9 (x:Vd):∀l,nsFind (vY P l).toArray x=fv l x:=λl=>by
 unfold nsFind findBy;rw[List.find?_toArray];induction l with
 |nil=>rfl
 |cons p r a=>
  obtain⟨y,t,v⟩:=p;unfold vY;refine ac Wc ?_;refine ac (Zn) ?_;refine(?_:(match(y==x) with|true=>UX _|false=>_).map _=(match sq x y with|true=>UX v|false=>fv r x));by_cases h:x=y
  ·exact ac (bS.mpr h) (ac (beq_iff_eq.mpr h.symm) rfl)
  ·exact ac (cg.mpr h) (ac (beq_eq_false_iff_ne.mpr (acd h)) a)
theorem yM {l:List (Vd×ZP×U4)} {n:Nat} (e:h.get? a=UX (dO P l n)):h.Ns a (fv l):=
 ⟨_,(vY P l).toArray,n,e,rfl,λen c=>by
  refine aj (List.mem_map.mp (show en∈vY P l by simpa using c)) λp b d=>(aD d ?_)
  exact(sU _ _ rfl),λx=>x9 x l⟩
theorem CN (h:Ve) (a:bv (aF P) h):h.Ns mainGlobals (fv gW):=yM (a (3,dO P gW 34) (cA (by rfl')))
theorem Rd (h:Ve) (a:bv (aF P) h):h.Ns builtinsNs (fv po):=yM (a (0,dO P po 159) (cA (by rfl')))
theorem lim (h:Ve) (b:bv (aF P) h):h.NoLimit:=
 ⟨λa=>UY,(QQ _ (#[]) 0 (b (2,{cls:= .none,dict:=UY,data:= .dict #[] 0,slots:= #[]}) (cA (by rfl'))) rfl (λa c=>by simp at c) (λa=>rfl)),rfl⟩
theorem pA:kI (aF P):=λh a=>(Hy _ _ (CN h a) (by rfl') (Rd h a) (by rfl'))
noncomputable def gl:List (Vd×GV):=[("len", .f 0),("max", .f 1),("min", .f 2),("range", .f 3),("str", .f 4),("int", .f 5),("list", .f 6),("set", .f 7),("NL", .v (.str "\n" 281)),("EMPTYSTRING", .v (.str "" 283)),
 ("_Accumulator", .v (.ref 228)),("_ValueFormatter", .v (.ref 144)),("_digits2int", .v (.ref 71)),("_int2digits", .v (.ref 64)),("_law_numeral", .v (.ref 272)),("_law_value", .v (.ref 277)),("_strip_padding", .v (.ref 35)),("compute_powers", .v (.ref 43)),
 ("_str_to_int_inner", .v (.ref 50)),("int_from_string", .v (.ref 57)),("parse_keqv_list", .v (.ref 239)),("parse_http_list", .v (.ref 244)),("_law_cells", .v (.ref 251)),("_law_ruler", .v (.ref 258)),("_law_sizes", .v (.ref 265)),("_law_letter", .v (.ref 284)),
 ("_law_read", .v (.ref 291)),("_law_taken", .v (.ref 296)),("_law_day", .v (.ref 301)),("_grouping_intervals", .v (.ref 28)),("CHAR_MAX", .v (.int 127 196)),("sum", .v (.builtin "sum"))]
def AP:List (Vd×GV)->Prop
 |[]=>True
 |(x,v)::r=>(fv gW x=UX v.val∨(fv gW x=UY/\fv po x=UX v.val))/\AP r
theorem Ga {l:List (Vd×GV)}:AP l->∀{x v},ms x l=UX v->fv gW x=UX v.val∨(fv gW x=UY/\fv po x=UX v.val):=by
 induction l with
 |nil=>intro _ x v e;exact nn e
 |cons p r b=>
  intro h x v e;obtain⟨y,u⟩:=p;dsimp only[ms] at e;induction a:sq x y with
  |true=>rw[a] at e;obtain rfl:=U2 e;refine ac (bS.mp a) ?_;exact h.1
  |false=>rw[a] at e;exact b h.2 e
theorem gb {x:Vd} {v:U4} (h1:fv gW x=UY) (h2:fv po x=UX v):fv gW x=UX v∨(fv gW x=UY/\fv po x=UX v):= .inr ⟨h1,h2⟩
theorem PW:AP gl:=
 ⟨gb (by rfl') (by rfl'),gb (by rfl') (by rfl'),gb (by rfl') (by rfl'),gb (by rfl') (by rfl'),gb (by rfl') (by rfl'),gb (by rfl') (by rfl'),gb (by rfl') (by rfl'),gb (by rfl') (by rfl'),
  .inl (by rfl'), .inl (by rfl'), .inl (by rfl'), .inl (by rfl'), .inl (by rfl'), .inl (by rfl'), .inl (by rfl'), .inl (by rfl'), .inl (by rfl'), .inl (by rfl'), .inl (by rfl'), .inl (by rfl'), .inl (by rfl'), .inl (by rfl'),
  .inl (by rfl'), .inl (by rfl'), .inl (by rfl'), .inl (by rfl'), .inl (by rfl'), .inl (by rfl'), .inl (by rfl'), .inl (by rfl'), .inl (by rfl'),gb (by rfl') (by rfl'),trivial⟩
theorem dG:eC (aF P) gl:=λx v e h a=>by
 rcases Ga PW e with q|⟨q,b⟩
 ·exact(aA _ (CN h a) (.inl q))
 ·exact(aA _ (CN h a) (.inr ⟨q,_,Rd h a,b⟩))
theorem PX:bV (aF P) 144 U0:=⟨(cE AE (by rfl') (by rfl') (by rfl')),by rfl',by rfl',by rfl'⟩
theorem AQ:bV (aF P) 228 UZ:=⟨(cE qQ (by rfl') (by rfl') (by rfl')),by rfl',by rfl',by rfl'⟩
theorem AR:dm (aF P) 228:=⟨AQ,by rfl',by rfl',by rfl',by rfl'⟩
def lF (K:Frag) (C:U8):List (Vd×V)->Prop
 |[]=>True
 |(n,v)::r=>(∃f tf,findIn K (.ref C) n=UX (UX f)/\typeIn K f=UX tf/\kF tf=UZ/\∀g U,VR g U v f)/\(∀f,v= .con (.ref f)->typeIn K (.ref f)=UX (.type "function"))/\lF K C r
theorem v5 {K:Frag} {C:U8} {l:List (Vd×V)}:lF K C l->∀{n v},lk n l=UX v->(∃f tf,findIn K (.ref C) n=UX (UX f)/\typeIn K f=UX tf/\kF tf=UZ/\∀g U,VR g U v f)/\(∀f,v= .con (.ref f)->typeIn K (.ref f)=UX (.type "function")):=by
 induction l with
 |nil=>intro _ n v e;exact nn e
 |cons p r b=>
  intro h n v e;obtain⟨y,u⟩:=p;dsimp only[lk] at e;induction a:sq n y with
  |true=>rw[a] at e;obtain rfl:=U2 e;refine ac (bS.mp a) ?_;exact⟨h.1,h.2.1⟩
  |false=>rw[a] at e;exact b h.2.2 e
theorem eH {K:Frag} {C:U8} {n:Vd} {r:List (Vd×V)} (h1:findIn K (.ref C) n=UX (UX (.ref f))) (h2:typeIn K (.ref f)=UX (.type "function")) (h:lF K C r):lF K C ((n, .con (.ref f))::r):=
 ⟨(Hy (.ref f) (.type "function") h1 h2 (by rfl') (λa a=> .con _)),λg e=>by cases e;exact h2,h⟩
theorem Kh {K:Frag} {C:U8} {n:Vd} {tf:U4} {r:List (Vd×V)} (h1:findIn K (.ref C) n=UX (UX (FN k))) (h2:typeIn K (FN k)=UX tf) (b:kF tf=UZ) (h:lF K C r):lF K C ((n, .fk k)::r):=
 ⟨(Hy (FN k) tf h1 h2 b (λa a=> .fk k)),λg e=>(nomatch e),h⟩
noncomputable def Gb:aV:={C:=144,l:=U0,attrs:=["_maxlen","_continuation_ws","_continuation_ws_len","_splitchars","_lines","_current_line"],meths:=[("newline", .con (.ref 106)),("_str", .con (.ref 92)),("_append_chunk", .con (.ref 141))]}
noncomputable def Gc:aV:={C:=228,l:=UZ,attrs:=["_initial_size"],meths:=[("push", .con (.ref 172)),("pop_from", .con (.ref 180)),("pop", .con (.ref 188)),("__len__", .con (.ref 195)),("__str__", .con (.ref 202)),("reset", .con (.ref 210)),("is_onlyws", .con (.ref 217)),("part_count", .con (.ref 225)),("append", .fk 8)]}
noncomputable def bZ:List aV:=[Gc,Gb]
def Gd (K:Frag) (C:U8):List Vd->Prop
 |[]=>True
 |n::r=>findIn K (.ref C) n=UX UY/\Gd K C r
theorem yN {K:Frag} {C:U8}:∀{l:List Vd},Gd K C l->∀n∈l,findIn K (.ref C) n=UX UY
 |y::r,h,n,a=>by
  rcases List.mem_cons.mp a with rfl|a
  ·exact h.1
  ·exact yN h.2 n a
theorem Re {K:Frag} {t:aV} (h1:bV K t.C t.l) (h2:Gd K t.C t.attrs) (a:lF K t.C t.meths) (b:findIn K (.ref t.C) "__bool__"=UX UY) (c:t.l=UZ->dm K t.C):Aq K t where
 f:=h1
 attrs:=yN h2
 meths:=λn v e=>(v5 a e).1
 fns:=λn f e=>(v5 a e).2 f rfl
 nob:=b
 acc:=c
theorem PY:Aq (aF P) Gb:=Re PX ⟨by rfl',by rfl',by rfl',by rfl',by rfl',by rfl',trivial⟩
 (eH (by rfl') (by rfl') (eH (by rfl') (by rfl') (eH (by rfl') (by rfl') trivial))) (by rfl') (λh=>nomatch h)
theorem PZ:Aq (aF P) Gc:=Re AQ ⟨by rfl',trivial⟩
 (eH (by rfl') (by rfl') (eH (by rfl') (by rfl') (eH (by rfl') (by rfl') (eH (by rfl') (by rfl') (eH (by rfl') (by rfl') (eH (by rfl') (by rfl') (eH (by rfl') (by rfl') (eH (by rfl') (by rfl')
  (Kh (tf:= .type "method_descriptor") (by rfl') (by rfl') (by rfl') trivial))))))))) (by rfl') (λa=>AR)
theorem qS:eG (aF P) bZ:=λt a=>by
 rcases List.mem_cons.mp a with rfl|a
 ·exact PZ
 ·rcases List.mem_cons.mp a with rfl|a
  ·exact PY
  ·cases a
theorem MV:lC (aF P) U0 144 85:=⟨by rfl',by rfl',by rfl'⟩
theorem MW:lC (aF P) UZ 228 165:=⟨by rfl',by rfl',by rfl'⟩
theorem Ki:specialIn (aF P) (.ref 144) "__call__"=UX (UX (.builtin "type.__call__")):=by rfl'
theorem Kj:specialIn (aF P) (.ref 228) "__call__"=UX (UX (.builtin "type.__call__")):=by rfl'
theorem MX:iB (aF P) 228 172 "push":=⟨by rfl',by rfl',by rfl',by rfl',by rfl'⟩
end
section
noncomputable def tI (c P line col:Nat) (q:Vd):fB:=⟨c,P,line,col,q⟩
noncomputable def oR:List fB:=[tI 49 45 73 4 "_str_to_int_inner.<locals>.inner",tI 63 59 86 4 "_int2digits.<locals>.inner",tI 70 66 101 4 "_digits2int.<locals>.inner",tI 194 190 197 19 "_Accumulator.__len__.<locals>.<genexpr>",tI 201 197 200 32 "_Accumulator.__str__.<locals>.<genexpr>"]
def Wz (J:VB) (w:V6):Wo:=⟨J,w,aF w.params,oR⟩
noncomputable def ce:List Vd:=["a","b","c"]
def Gz (P:Vc) (T:bC) (k N:Nat):Ec->bP:=aE (aZ P T bZ ce gl N k) N
def gY (c:Cx) (A:Vm):bC->Prop
 |[]=>True
 |(a,m)::r=>((∃b,(a,b)∈c.KK/\((∃fd,b.data= .func fd)∨((∃d,b.data= .cls d)/\ab9 c.KK (.ref a) "__call__"=UX (UX (.builtin "type.__call__")))))/\∀fz U vs xs,av fz U vs xs->eS c A fz U (m vs) (.call (.ref a) ⟨xs,[]⟩))/\gY c A r
theorem gY.x {T:bC} (d:gY c A T):ki c A T:=by
 induction T with
 |nil=>exact λb b h=>nomatch h
 |cons p r e=>
  intro a m;refine(?_:(match VC a p.1 with|true=>UX p.2|false=>oN a r)=UX m->_);induction f:VC a p.1 with
  |true=>exact λh=>U2 h▸ac (VK f) d.1
  |false=>exact e d.2 a m
section
theorem MY {f:Nat} {spS:Nat->Ec->Nat->Option (V4×M Fl)} {spE:Nat->Ec->Nat->Option (Vv×M V)} (F:bz (aF w.params) f fd T) (h1:fd.globals=mainGlobals) (h2:fd.builtins=builtinsNs) (htr:∀P,T.trim=UX P->P=w.params)
  (e:nH (aF w.params) fd T defs) (l:∀g os A,cI g->aP lev A->gY ((Wz J w).cx g os) A Tb)
  (h:∀N g os A L Z fz U,cI g->aP (lev+1+k) A->cp ((Wz J w).cx g os) A (aZ w.params Tb bZ ce gl N k)->f9 Z fd f->aI ((Wz J w).cx g os) (be T [] gl (spS N) (spE N) L) Z U->eh ((Wz J w).cx g os) A (be T [] gl (spS N) (spE N) L) Z fz U)
  (run:∀vs objs d objs' ps,sp vs objs=UX (d,objs',ps)->ao ps->∃N orc S' qs,bnd (aR T gl (spS N) (spE N) (Gz w.params Tb k N) [] (vs++defs.map toV)) (λv=>cj w.params 9 v) ⟨objs,orc⟩=UX (d,S',qs)/\ao qs/\S'.H.take objs.length=objs'/\dp objs'=UZ):aX (Wz J w) (lev+1+k+1) f sp:=by
 have j:∀N g os A,cI g->aP (lev+1+k) A->cp ((Wz J w).cx g os) A (aZ w.params Tb bZ ce gl N k):=λN g os A a b=>nP (c:=(Wz J w).cx g os) a qS (λm i=>(l g os m a i).x) dG lim k A b
 exact Jx (W:=Wz J w) (lev:=lev+1+k) (G:=λN=>Gz w.params Tb k N) F h1 h2 dG lim htr e (λN g os A C Z a b=>d5 (j N g os A a b) N C Z) (λN g os A L Z fz U a b n o=>h N g os A L Z fz U a b (j N g os A a b) n o) run
theorem dw {L:Nat} :eh c A (be T [] gl (λa=>bk) (λa=>br) L) Z fz U:=⟨λa a a h=>(nomatch h),λa a a h=>(nomatch h)⟩
end
section
noncomputable def kM:Fl->Option Fl
 | .next=>UY
 | .cont=>UY
 | .brk=>UX .next
 | .ret v=>UX (.ret v)
def nW (C:Ec) (F:bP) (t:Vv) (b e:List V4):M (Option Fl):=bnd (F.tr t) λc=>bnd (dec c) λd=>match d with
 |false=>bnd (F.exs e) λf=>ret (UX f)
 |true=>bnd (iy C.trim (F.exs b)) λf=>ret (kM f)
def gZ (C:Ec) (o:dU) (F:bP) (t:Vv) (i:Nat) (b e:List V4):M (Option Fl):=bnd (o.nxt i) λr=>match r with
 |none=>bnd (F.exs e) λf=>ret (UX f)
 |some v=>bnd (jB i) λa=>bnd (F.asg t v) λa=>bnd (iy C.trim (F.exs b)) λf=>ret (kM f)
theorem aJ {k:α->M β} {S:St} {a:α} {b:β} {p q:List Prop} (h:m S=UX (a,S1,p)) (h2:k a S1=UX (b,S2,q)):bnd m k S=UX (b,S2,p++q):=by dsimp only[bnd];refine ac h ?_;dsimp only;exact ac h2 rfl
theorem iC (a:α) (k:α->M β):bnd (ret a) k=k a:=funext λS=>by refine(?_:(match k a S with|none=>UY|some (b,c,q)=>UX (b,c,[]++q))=_);cases k a S<;>rfl
theorem yO (m:M α):bnd m ret=m:=funext λS=>by
 unfold bnd;induction m S with
 |none=>rfl
 |some r=>exact congrArg (λq=>UX (r.1,r.2.1,q)) (VY _)
theorem bQ (m:M α) (k:α->M β) (l:β->M γ):bnd (bnd m k) l=bnd m λa=>bnd (k a) l:=funext λS=>by
 unfold bnd;induction m S with
 |none=>rfl
 |some r=>
  dsimp only;induction k r.1 r.2.1 with
  |none=>rfl
  |some b=>
   dsimp only;induction l b.1 b.2.1 with
   |none=>rfl
   |some c=>exact congrArg (λq=>UX (c.1,c.2.1,q)) (Vk _ _ _)
theorem sb {k:α->M β} {S:St} {a:α} {b:β} {p:List Prop} (h:m S=UX (a,S1,p)) (h2:k a S1=UX (b,S1,[])):bnd m k S=UX (b,S1,p):=by refine ac (aJ h h2) ?_;rw[VY]
section
variable {o:dU} {t:Vv} {b e:List V4} {S:St} {ps q:List Prop} {f r:Fl} 
def v6 (m:M Fl):Option Fl->M Fl
 |none=>m
 |some f=>ret f
theorem CO (m:M Fl) (f:Fl):(match(generalizing:=false) f with| .next| .cont=>m| .brk=>ret Fl.next| .ret v=>ret (Fl.ret v))=v6 m (kM f):=by cases f<;>rfl
theorem Ip:kB C o F t b e=bnd (nW C F t b e) (v6 (F.wl t b e)):=by
 unfold nW kB;rw[bQ];refine congrArg (bnd (F.tr t)) (funext λc=>?_);rw[bQ];refine congrArg (bnd (dec c)) (funext λd=>?_);induction d with
 |false=>dsimp only;rw[bQ];exact(yO _).symm.trans (congrArg (bnd (F.exs e)) (funext λf=>(iC (UX f) (v6 _)).symm))
 |true=>dsimp only;rw[bQ];exact congrArg (bnd _) (funext λf=>(CO _ f).trans (iC (kM f) _).symm)
theorem Iq (h:nW C F t b e S=UX (UY,S',ps)) (h2:F.wl t b e S'=UX (r,S2,q)):kB C o F t b e S=UX (r,S2,ps++q):=ac Ip (aJ h h2)
theorem MZ (h:nW C F t b e S=UX (UX f,S',ps)):kB C o F t b e S=UX (f,S',ps):=ac Ip (sb h rfl)
theorem Ir:kA C o F t i b e=bnd (gZ C o F t i b e) (v6 (F.fl t i b e)):=by
 unfold gZ kA;rw[bQ];refine congrArg (bnd (o.nxt i)) (funext λc=>?_);induction c with
 |none=>dsimp only;rw[bQ];exact(yO _).symm.trans (congrArg (bnd (F.exs e)) (funext λf=>(iC (UX f) (v6 _)).symm))
 |some v=>dsimp only;rw[bQ];refine congrArg (bnd (jB i)) (funext λa=>?_);rw[bQ];refine congrArg (bnd (F.asg t v)) (funext λa=>?_);rw[bQ];exact congrArg (bnd _) (funext λf=>(CO _ f).trans (iC (kM f) _).symm)
theorem qT (h:gZ C o F t i b e S=UX (UY,S',ps)) (h2:F.fl t i b e S'=UX (r,S2,q)):kA C o F t i b e S=UX (r,S2,ps++q):=ac Ir (aJ h h2)
theorem mW (h:gZ C o F t i b e S=UX (UX f,S',ps)):kA C o F t i b e S=UX (f,S',ps):=ac Ir (sb h rfl)
end
def nX (o:dU) (C:Ec) (F:bP) (elt:Vv) (ifs:List Vv) (x:Vd) (i a:Nat):M Bool:=bnd (o.nxt i) λr=>match r with
 |none=>ret U0
 |some v=>bnd (jB i) λb=>bnd (jV C x v) λb=>bnd (ve F.tr ifs) λc=>match c with
  |true=>bnd (F.ev elt) λy=>bnd (vc a y) λb=>ret UZ
  |false=>ret UZ
section
variable {o:dU} {x:Vd} {a n:Nat} {S:St} {ps q:List Prop}
theorem It:eY o C F elt ifs x i a (n+1)=bnd (nX o C F elt ifs x i a) λg=>match g with|true=>eY o C F elt ifs x i a n|false=>ret ():=by
 unfold nX;rw[bQ];refine(?_:bnd (o.nxt i) _=_);refine congrArg (bnd (o.nxt i)) (funext λc=>?_);induction c with
 |none=>dsimp only;rw[iC]
 |some v=>
  dsimp only;rw[bQ];refine congrArg (bnd (jB i)) (funext λb=>?_);rw[bQ];refine congrArg (bnd (jV C x v)) (funext λb=>?_);rw[bQ];refine congrArg (bnd (ve F.tr ifs)) (funext λg=>?_);induction g with
  |false=>dsimp only;rw[iC]
  |true=>dsimp only;rw[bQ];refine congrArg (bnd (F.ev elt)) (funext λy=>?_);rw[bQ];refine congrArg (bnd (vc a y)) (funext λb=>?_);rw[iC]
theorem AS (h:nX o C F elt ifs x i a S=UX (UZ,S',ps)) (h2:eY o C F elt ifs x i a n S'=UX ((),S2,q)):eY o C F elt ifs x i a (n+1) S=UX ((),S2,ps++q):=ac It (aJ h h2)
theorem CP (h:nX o C F elt ifs x i a S=UX (U0,S',ps)):eY o C F elt ifs x i a (n+1) S=UX ((),S',ps):=ac It (sb h rfl)
end
theorem ae.via {m2:M α} {t:Xj β} 
  (h:∀S a S' p,m S=UX (a,S',p)->ao p->∃orc b p2,m2 ⟨S.H,orc⟩=UX (a,⟨S'.H,b⟩,p2)/\ao p2) (h2:ae c A fz U m2 t R):ae c A fz U m t R:=by
 intro S a S' p e g d ρ' s Q k q i y
 exact mn (h S a S' p e g) λorc b p2 e2 f=>(h2 ⟨S.H,orc⟩ a _ p2 e2 f d ρ' s Q k q i y)
def aw (l:List V4) (n:Nat):V4:=(dg l n).getD (.Pass ⟨0,0,0,0⟩)
def Iu:V4->Bool
 | .For _ it _ _ _=> !eB it
 |_=>U0
noncomputable def M0:V4->Bool
 | .While ..=>UZ
 |_=>U0
section
variable {o:dU} {S:St} {f:Fl} {p q:List Prop} {n:Nat}
theorem jK {s:V4} {r:List V4} (h1:F.ex s S=UX (.next,S1,p)) (h2:cG F.ex r S1=UX (f,S2,q)):cG F.ex (s::r) S=UX (f,S2,p++q):=aJ h1 h2
theorem kN {a b:List V4} (h1:cG F.ex a S=UX (.next,S1,p)) (h2:cG F.ex b S1=UX (f,S2,q)):cG F.ex (a++b) S=UX (f,S2,p++q):=by
 induction a generalizing S p with
 |nil=>cases h1;exact h2
 |cons s r e=>
  refine ez (bA h1) λg i j k h d c=>(ac c ?_)
  rw[Vk];induction g with
  |next=>exact aJ h (e d)
  |_=>cases d
theorem Ge {s:V4} (h:Iu s=UZ):∃t it b e pos,s= .For t it b e pos/\eB it=U0:=by
 induction s using Zb with
 |For t it b e pos=>exact⟨t,it,b,e,pos,rfl,XX _▸h⟩
 |_=>exact ff h
theorem Kk {s:V4} (h:M0 s=UZ):∃t b e pos,s= .While t b e pos:=by
 induction s using Zb with
 |While t b e pos=>exact⟨t,b,e,pos,rfl⟩
 |_=>exact ff h
theorem mX {s:V4} (hf:Iu s=UZ) (hs:C.spS (jC s)=UY) (h1:bnd ((aE o n C).ev (uU s)) o.iter S=UX (.ref i,S1,p)) (h2:(aE o n C).fl (aU s) i (cL s) (mu s) S1=UX (f,S2,q)):(aE o (n+1) C).ex s S=UX (f,S2,p++q):=by refine Up (Ge hf) λt d b e c h g=>?_;subst h;refine(?_:(match C.spS (jC (.For t d b e c)) with|some (j,m)=>bnd (need (Stmt.For t d b e c=j)) λa=>m|none=>gQ C o (aE o n C) (.For t d b e c)) S=_);refine ac hs (?_:(match eB d with|true=>fail|false=>bnd ((aE o n C).ev d) λx=>bnd (o.iter x) λi=>match i with| .ref k=>(aE o n C).fl t k b e|_=>fail) S=_);refine ac g ?_;dsimp only;rw[<-bQ];exact aJ h1 h2
theorem P0 {s:V4} (hf:M0 s=UZ) (hs:C.spS (jC s)=UY) (h2:(aE o n C).wl (aU s) (cL s) (mu s) S=UX (f,S2,q)):(aE o (n+1) C).ex s S=UX (f,S2,q):=by refine qa (Kk hf) λt b e c d=>?_;subst d;refine(?_:(match C.spS (jC (.While t b e c)) with|some (g,m)=>bnd (need (Stmt.While t b e c=g)) λa=>m|none=>gQ C o (aE o n C) (.While t b e c)) S=_);exact ac hs h2
end
theorem CQ {orc:List Bool} {p q:List Prop} {r:Option (Fl×St×List Prop)} (hl:VC vs.length T.params.length=UZ)
  (a:(G (be T [] glob spS spE objs.length)).exs T.body ⟨objs++(.frame (jD T.scope.names (T.params.zip vs) [])::T.cn.map λn=> .cell (lk n (lm T.scope.names (T.params.zip vs) []))),orc⟩=r) (h:r=UX (.ret v,S2,p)) (hf:cj P 9 v S2=UX (d,S3,q)):
  bnd (aR T glob spS spE G [] vs) (λv=>cj P 9 v) ⟨objs,orc⟩=UX (d,S3,p++q):=by
 refine aJ ?_ hf
 dsimp only[aR]
 refine ac hl ?_
 have:=aJ (m:=kE T (T.params.zip vs)) (k:=λL=>bnd ((G (be T [] glob spS spE L)).exs T.body) λf=>match f with
  | .ret v=>ret v
  | .next=>ret .none
  |_=>fail) (S:=⟨objs,orc⟩) (p:=[]) (q:=p++[]) rfl (aJ (a.trans h) rfl)
 rw[VY,Zj] at this
 exact this
theorem tj (n:Nat):X6 0 n 1=(n:Int):=by
 dsimp only[X6];refine ac (if_pos (by decide)) ?_;split
 ·simp
 ·lia
theorem ya (n:Nat) (h:n<=1000):YK 0 n 1=UZ:=by unfold YK Builtin.Range.rangeFitsLong;rw[tj];simp;lia
end
section
abbrev lG (P:Vc) (T:FT) (Tb:bC) (N:Nat) (vs:List V) (objs:List O) (orc:List Bool):Option (D×St×List Prop):=bnd (aR T gl (λa=>bk) (λa=>br) (Gz P Tb 2 N) [] vs) (λv=>cj P 9 v) ⟨objs,orc⟩
noncomputable def bD (k:Nat) (r:Option (D×St×List Prop)):Option (D×List O×List Prop):=match r with
 |some (d,S,p)=>UX (d,S.H.take k,p)
 |none=>UY
theorem dh {r:Option (D×St×List Prop)} {p:List Prop} (h:bD k r=UX (d,objs,p)):∃S',r=UX (d,S',p)/\S'.H.take k=objs:=by
 induction r with
 |none=>exact nn h
 |some r=>obtain⟨a,b,c⟩:=aar (U2 h)|>.imp id aar;exact(aA r.2.1 (aD a (aD c rfl)) b)
noncomputable def gC:V->Vd
 | .str s=>s
 |_=>""
noncomputable def bU:V->Int
 | .int i=>i
 |_=>0
noncomputable def cr:V->List Int
 | .dat (.ints l)=>l
 |_=>[]
def nV (vs:List V) (n:Nat):V:=ay .none vs n
noncomputable def CS (f:List V->List O->X) (pre:X->List V) (ob:X->List O) (res:X->D) (ob':X->List O) (nd:X->Prop):Sp:=λvs objs=>UX (res (f vs objs),ob' (f vs objs),[vs=pre (f vs objs)/\objs=ob (f vs objs)/\nd (f vs objs)])
noncomputable abbrev fW (f:List V->X) (pre:X->List V) (res:X->D) (nd:X->Prop):Sp:=CS (λvs a=>f vs) pre (λa=>[]) res (λa=>[]) nd
theorem CT {W:Wo} {sp':Sp} (h:∀vs objs d objs' ps,sp' vs objs=UX (d,objs',ps)->ao ps->∃sp a,aX W lev f sp/\sp vs objs=UX (d,objs',a)/\ao a):aX W lev f sp':=
 λg os A b U s vs c objs d objs' ps R i j k l e m y=>
  let⟨_,a,h1,h2,h3⟩:=h vs objs d objs' ps e m
  h1 g os A b U s vs c objs d objs' a R i j k l h2 h3 y
theorem dH {W:Wo} {a:Nat} (h:aX W lev f sp) (hl:lev<=a):aX W a f sp:=λg os A e U s vs i c d b j R k l=>h g os A e U s vs i c d b j R k (l.le hl)
section
variable {W:Wo} {f:List V->List O->X} {pre:X->List V} {ob:X->List O} {res:X->D} {ob':X->List O} {nd:X->Prop}
theorem yP {G:List V->List O->D->List O->Prop} (h:∀x,nd x->G (pre x) (ob x) (res x) (ob' x)):∀vs objs d objs' ps,CS f pre ob res ob' nd vs objs=UX (d,objs',ps)->ao ps->G vs objs d objs':=λvs objs d objs' ps e a=>by cases e;obtain⟨⟨b,c,g⟩,_⟩:=a;have:=h _ g;simp only[<-b,<-c] at this;exact this
theorem v7 (h:∀x,nd x->∃sp b,aX W lev a sp/\sp (pre x) (ob x)=UX (res x,ob' x,b)/\ao b):aX W lev a (CS f pre ob res ob' nd):=
 CT (yP (G:=λvs e d c=>∃sp b,aX W lev a sp/\sp vs e=UX (d,c,b)/\ao b) h)
end
section
variable {fa:Nat} {f:List V->List O->X} {pre:X->List V} {ob:X->List O} {res:X->D} {ob':X->List O} {nd:X->Prop} 
theorem dq {spS:Nat->Ec->Nat->Option (V4×M Fl)} {spE:Nat->Ec->Nat->Option (Vv×M V)} (F:bz (aF w.params) fa fd T) (h1:fd.globals=mainGlobals) (h2:fd.builtins=builtinsNs) (htr:∀P,T.trim=UX P->P=w.params)
  (c:nH (aF w.params) fd T defs) (j:∀g os A,cI g->aP lev A->gY ((Wz J w).cx g os) A Tb)
  (i:∀N g os A L Z fz U,cI g->aP (lev+1+k) A->cp ((Wz J w).cx g os) A (aZ w.params Tb bZ ce gl N k)->f9 Z fd fa->aI ((Wz J w).cx g os) (be T [] gl (spS N) (spE N) L) Z U->eh ((Wz J w).cx g os) A (be T [] gl (spS N) (spE N) L) Z fz U)
  (run:∀x,nd x->∃N orc qs,bD (ob x).length (bnd (aR T gl (spS N) (spE N) (Gz w.params Tb k N) [] (pre x++defs.map toV)) (λv=>cj w.params 9 v) ⟨ob x,orc⟩)=UX (res x,ob' x,qs)/\ao qs/\dp (ob' x)=UZ):aX (Wz J w) (lev+1+k+1) fa (CS f pre ob res ob' nd):=
 MY F h1 h2 htr c j i (yP (G:=λvs b d a=>∃N orc h qs,bnd (aR T gl (spS N) (spE N) (Gz w.params Tb k N) [] (vs++defs.map toV)) (λv=>cj w.params 9 v) ⟨b,orc⟩=UX (d,h,qs)/\ao qs/\h.H.take b.length=a/\dp a=UZ) λx l=>
  let⟨N,orc,qs,e,hq,hf⟩:=run x l;let⟨h,e1,e2⟩:=dh e
  ⟨N,orc,h,qs,e1,hq,e2,hf⟩)
theorem qU {c:List V->X} (F:bz (aF w.params) fa fd T) (h1:fd.globals=mainGlobals) (h2:fd.builtins=builtinsNs) (htr:T.trim=UY) (b:nH (aF w.params) fd T [])
  (run:∀x,nd x->∃orc qs,bD 0 (lG w.params T [] 60 (pre x++[]) [] orc)=UX (res x,[],qs)/\ao qs):aX (Wz J w) 4 fa (fW c pre res nd):=
 dq (lev:=0) (k:=2) (Tb:=[]) (defs:=[]) (spS:=λa a=>bk) (spE:=λa a=>br) F h1 h2 (λP e=>by rw[htr] at e;cases e) b (λa a a a a=>trivial) (λa a a a a a a a a a a a a=>dw) λx d=>aG (run x d) λorc qs e h=>⟨60,orc,qs,e,h,rfl⟩
end
def lH (P:Nat->Prop):Nat->Prop
 |0=>True
 |n+1=>lH P n/\P n
theorem lH.get {P:Nat->Prop} {n:Nat} (h:lH P n) (a:j < n):P j:=by
 induction n with
 |zero=>exact absurd a (W9 _)
 |succ n b=>
  rcases Nat.lt_succ_iff_lt_or_eq.mp a with c|rfl
  ·exact b h.1 c
  ·exact h.2
theorem uw {l:List α} (h:l.length=2):∃a b,l=[a,b]:=by
 rcases l with _|⟨a,_|⟨b,_|_⟩⟩
 ·cases h
 ·cases h
 ·exact(sU a b rfl)
 ·cases h
theorem j6 {l:List α} {n:Nat} (h:l.length=n+1):∃a r,l=a::r/\r.length=n:=by
 induction l using VG with
 |nil=>cases h
 |cons a r=>exact(bL a r rfl (XC h))
theorem Iv {l:List α} (h:l.length=7):∃a b c d e f g,l=[a,b,c,d,e,f,g]:=by
 refine aG (j6 h) λa i j k=>(ac j ?_)
 refine aG (j6 k) λb i j m=>(ac j ?_)
 refine aG (j6 m) λc i j n=>(ac j ?_)
 refine aG (j6 n) λd i j o=>(ac j ?_)
 refine aG (j6 o) λe i j p=>(ac j ?_)
 refine p9 (uw p) λf g j=>(ac j ?_)
 exact⟨a,b,c,d,e,f,g,rfl⟩
end
def fF:List Int->Nat->List Int->List Int
 |[],_,a=>a
 |x::r,k,a=>fF r (k+1) (setL a (k % 4) (ay 0 a (k % 4)+x.fmod (10^9)))
def qV:V4:=aw fL.body 1
def oS:Ec:=be fL [] gl (λa=>bk) (λa=>br) 0
noncomputable def Uy:Option Int->List (Vd×V)
 |none=>[]
 |some j=>[("k", .int j)]
def oT (l cs:List Int) (j:Option Int) (it:O):List O:=[.frame (("script", .dat (.ints l))::("cells", .ref 1)::Uy j), .ints cs, .range 0 l.length 1,it]
theorem AT (P:Vc) (l cs:List Int) (j:Option Int) (k left:Int) (n N:Nat) (orc:List Bool):
  gZ oS (aZ P [] bZ ce gl N 2) (aE (aZ P [] bZ ce gl N 2) (n+12) oS) (aU qV) 3 (cL qV) (mu qV) ⟨oT l cs j (.rngIt k left 1),UZ::orc⟩=
   UX (UY,⟨oT l (setL cs (dM cs.length (k.fmod 4)) (ay 0 cs (dM cs.length (k.fmod 4))+(ay 0 l (dM l.length k)).fmod (10^9))) (UX k) (.rngIt (k+1) (left - 1) 1),orc⟩,
    [decide (0 < left)=UZ,(4:Int)≠0,aK cs.length (k.fmod 4),aK l.length k,(0:Int)<=9/\(9:Int)<=1000000/\(10:Int).natAbs < 2^64,((10:Int)^(9:Int).toNat)≠0,aK cs.length (k.fmod 4)]):=by
 cases j<;>rfl'
theorem CU (P:Vc) (l cs:List Int) (j:Option Int) (k left:Int) (n N:Nat) (orc:List Bool):
  gZ oS (aZ P [] bZ ce gl N 2) (aE (aZ P [] bZ ce gl N 2) (n+12) oS) (aU qV) 3 (cL qV) (mu qV) ⟨oT l cs j (.rngIt k left 1),U0::orc⟩=
   UX (UX .next,⟨oT l cs j .dead,orc⟩,[decide (0 < left)=U0]):=by
 cases j<;>rfl'
theorem v8 (l:List α) (n:Nat) (v:α):(setL l n v).length=l.length:=by
 induction l generalizing n with
 |nil=>rfl
 |cons _ r a=>induction n using WE with
  |zero=>rfl
  |succ n=>exact congrArg (· +1) (a n)
theorem pB {d:α} (p:List α) (x:α) (r:List α):ay d (p++x::r) p.length=x:=by
 induction p with
 |nil=>rfl
 |cons _ p a=>exact a
theorem AU (k:Nat):((k:Int).fmod 4)=((k % 4:Nat):Int):=by refine ac (V8 _ (by decide)) ?_;rfl
theorem AV (P:Vc) (N:Nat) (r p cs:List Int) (j:Option Int) (n:Nat) (a:cs.length=4) (hl:(p++r).length<=1000) (h:r.length<=n):∃orc b ps,
  (aE (aZ P [] bZ ce gl N 2) (n+13) oS).fl (aU qV) 3 (cL qV) (mu qV) ⟨oT (p++r) cs j (.rngIt p.length r.length 1),orc⟩=UX (.next,⟨oT (p++r) (fF r p.length cs) b .dead,[]⟩,ps)/\ao ps:=by
 induction r generalizing p cs j n with
 |nil=>exact⟨[U0],j,_,mW (CU P (p++[]) cs j p.length ([]:List Int).length n N []),⟨by decide,trivial⟩⟩
 |cons x r d=>
  induction n using WE with
  |zero=>exact absurd h (Zf _)
  |succ n=>
  have f:dM (p++x::r).length (p.length:Int)=p.length:=rfl;obtain⟨orc,b,ps,e,c⟩:=d (p++[x]) (setL cs (p.length % 4) (ay 0 cs (p.length % 4)+x.fmod (10^9))) (UX p.length) n ((v8 ..).trans a) (Vk p [x] r▸hl) (XN h);simp only[Vk,acX,Va,YT] at e;have t:=AT P (p++x::r) cs j p.length (x::r).length (n+1) N orc;rw[(by rw[AU];rfl:dM cs.length ((p.length:Int).fmod 4)=p.length % 4),f,pB] at t;simp only[(by refine(VD).symm▸ ?_;lia:((x::r).length:Int) - 1=(r.length:Int)),(by push_cast;rfl:((p.length:Int)+1)=((p.length+1:Nat):Int))] at t;refine⟨UZ::orc,b,_,qT t e,af.mpr ⟨?_,c⟩⟩;have h0:=abb p.length (show 4 > 0 by decide);refine⟨decide_eq_true (by refine(VD).symm▸ ?_;lia),by decide,?_,?_,by decide,by decide,?_,trivial⟩
  ·rw[AU];refine ac a ?_;exact⟨h0,XI (abb _ (by decide)) (by decide)⟩
  ·rw[Va] at hl ⊢;exact⟨by refine(VD).symm▸ ?_;lia,by simp only[VD] at hl;exact Vn (U3 (Vo _ _) hl) (by decide)⟩
  ·rw[AU];refine ac a ?_;exact⟨h0,XI (abb _ (by decide)) (by decide)⟩
theorem AW (r:List Int) (k:Nat) (cs:List Int):(fF r k cs).length=cs.length:=by
 induction r generalizing k cs with
 |nil=>rfl
 |cons x r a=>exact(a _ _).trans (v8 _ _ _)
noncomputable def eZ:List Int:=[7808244,11834,8919,7414]
def qW (f:List Int):D:= .ints [ay 0 f 0,ay 0 f 1,ay 0 f 2,ay 0 f 3]
theorem Gf {f:List Int} (h:f.length=4):qW f= .ints f:=by
 match f,h with
 |[a,b,c,d],_=>rfl
abbrev yQ:Sp:=fW (X:=List Int) (λvs=>cr (nV vs 0)) (λl=>[.dat (.ints l)]) (λl=>qW (fF l 0 eZ)) λl=>l.length<=63
theorem CV (P:Vc) (l:List Int) (hl:l.length<=63):∃N orc S' qs,bnd (aR fL gl (λa=>bk) (λa=>br) (Gz P [] 2 N) [] [.dat (.ints l)]) (λv=>cj P 9 v) ⟨[],orc⟩=UX (qW (fF l 0 eZ),S',qs)/\ao qs/\S'.H.take 0=[]:=by
 refine mn (AV P (l.length+15) l [] eZ UY l.length rfl (U3 hl (by decide)) (Vt _)) λorc b d e c=>(ac (Gf (AW _ _ _)) ?_)
 have f:(aE (aZ P [] bZ ce gl (l.length+15) 2) (l.length+14) oS).ex (aw fL.body 1) ⟨[.frame [("script", .dat (.ints l)),("cells", .ref 1)], .ints eZ],orc⟩=UX (.next,⟨oT l (fF l 0 eZ) b .dead,[]⟩,[l.length < 2^62,YK 0 l.length 1=UZ]++d):=
  mX (C:=oS) (o:=aZ P [] bZ ce gl (l.length+15) 2) (n:=l.length+13) (i:=3) (s:=aw fL.body 1) (by rfl') (by rfl') (S1:=⟨oT l eZ UY (.rngIt 0 (X6 0 l.length 1) 1),orc⟩) (by rfl') (by rw[tj];exact e)
 refine⟨l.length+15,orc,_,_,CQ (r:=cG (aE (aZ P [] bZ ce gl (l.length+15) 2) (l.length+14) oS).ex ([aw fL.body 0]++[aw fL.body 1,aw fL.body 2]) ⟨[.frame [("script", .dat (.ints l))]],orc⟩) (v:= .ref 1) rfl (by rfl') (kN (by rfl':cG (aE (aZ P [] bZ ce gl (l.length+15) 2) (l.length+14) oS).ex [aw fL.body 0] ⟨[.frame [("script", .dat (.ints l))]],orc⟩=UX (.next,⟨[.frame [("script", .dat (.ints l)),("cells", .ref 1)], .ints eZ],orc⟩,[(4:Nat)<=Vb])) (jK f (by cases b<;>rfl':cG (aE (aZ P [] bZ ce gl (l.length+15) 2) (l.length+14) oS).ex [aw fL.body 2] ⟨oT l (fF l 0 eZ) b .dead,[]⟩=UX (.ret (.ref 1),⟨oT l (fF l 0 eZ) b .dead,[]⟩,[])))) rfl,?_,rfl⟩;refine af.mpr ⟨af.mpr ⟨⟨by decide,trivial⟩,af.mpr ⟨af.mpr ⟨⟨Vn hl (by decide),ya _ (U3 hl (by decide)),trivial⟩,c⟩,trivial⟩⟩,trivial⟩
theorem Gg (J:VB) (w:V6):aX (Wz J w) 4 251 yQ:=
 dq (X:=List Int) (lev:=0) (k:=2) (T:=fL) (Tb:=[]) (defs:=[]) (spS:=λa a=>bk) (spE:=λa a=>br) Ih rfl rfl (λa h=>nomatch h) (c8 Ih) (λa a a a a=>trivial) (λa a a a a a a a a a a a a=>dw) λl c=>
  ez (CV w.params _ c) λN b a d e f a=>⟨N,b,d,congrArg (bD 0) e,f,rfl⟩
noncomputable def cB (c:Int):Int:=1+c.fmod 3
noncomputable def di (c:Int):Int:=1+(c.fdiv 3).fmod 3
noncomputable def cF (c:Int):Int:=(c.fdiv 9).fmod 4
def iV (c:Int):Nat->D
 |0=> .tup [.ints [cB c,di c,0,4], .ints [cB c,di c,di c,di c,di c,di c,di c]]
 |1=> .tup [.ints [cB c,0,9], .ints [cB c,cB c,cB c,cB c,cB c,cB c,cB c]]
 |2=> .tup [.ints [cB c,di c,127,1], .ints [cB c,di c]]
 |_=> .tup [.ints [cB c,di c], .ints [cB c,di c]]
noncomputable def CW:List Prop:=[(3:Int)≠0,(3:Int)≠0/\(3:Nat) < 1073741824,(3:Int)≠0,(9:Int)≠0/\(9:Nat) < 1073741824,(4:Int)≠0]
theorem M1 (P:Vc) (c:Int):bD 0 (lG P nU [] 60 [.int c] [] [UZ])=UX (iV c 0,[],CW++[decide (cF c=0)=UZ,(4:Nat)<=Vb,(1:Nat)<=Vb,(1:Nat)<=Vb,(-2^63:Int)<=6/\(6:Int) < 2^63/\(6:Nat)<=Vb,(7:Nat)<=Vb,(2:Nat)<=Vb]):=by rfl'
theorem M2 (P:Vc) (c:Int):bD 0 (lG P nU [] 60 [.int c] [] [U0,UZ])=UX (iV c 1,[],CW++[decide (cF c=0)=U0,decide (cF c=1)=UZ,(3:Nat)<=Vb,(1:Nat)<=Vb,(-2^63:Int)<=7/\(7:Int) < 2^63/\(7:Nat)<=Vb,(2:Nat)<=Vb]):=by rfl'
theorem M3 (P:Vc) (c:Int):bD 0 (lG P nU [] 60 [.int c] [] [U0,U0,UZ])=UX (iV c 2,[],CW++[decide (cF c=0)=U0,decide (cF c=1)=U0,decide (cF c=2)=UZ,(4:Nat)<=Vb,(2:Nat)<=Vb,(2:Nat)<=Vb]):=by rfl'
theorem M4 (P:Vc) (c:Int):bD 0 (lG P nU [] 60 [.int c] [] [U0,U0,U0])=UX (iV c 3,[],CW++[decide (cF c=0)=U0,decide (cF c=1)=U0,decide (cF c=2)=U0,(2:Nat)<=Vb,(2:Nat)<=Vb,(2:Nat)<=Vb]):=by rfl'
theorem qX:ao CW:=⟨by decide,by decide,by decide,by decide,by decide,trivial⟩
def fT (c:Int):List Int:=if cF c=0 then[cB c,di c,0,4] else if cF c=1 then[cB c,0,9] else if cF c=2 then[cB c,di c,127,1] else[cB c,di c]
def g8 (c:Int):List Int:=if cF c=0 then[cB c,di c,di c,di c,di c,di c,di c] else if cF c=1 then[cB c,cB c,cB c,cB c,cB c,cB c,cB c] else[cB c,di c]
abbrev v9:Sp:=fW (X:=Int) (λvs=>bU (nV vs 0)) (λc=>[.int c]) (λc=> .tup [.ints (fT c), .ints (g8 c)]) λc=>0<=cF c/\cF c < 4
theorem CX (J:VB) (w:V6):aX (Wz J w) 4 258 v9:=qU Ii rfl rfl rfl (c8 Ii) λc b=>by
 have a:∀{i j:Int},cF c=i->i≠j->decide (cF c=j)=U0:=λh n=>decide_eq_false λe=>n (h.symm.trans e);rcases(by lia:cF c=0∨cF c=1∨cF c=2∨cF c=3) with h|h|h|h
 ·have r:=M1 w.params c;rw[show iV c 0= .tup [.ints (fT c), .ints (g8 c)] by unfold fT g8;refine ac h ?_;rfl] at r;exact(bL _ _ r (af.mpr ⟨qX,decide_eq_true h,by decide,by decide,by decide,by decide,by decide,by decide,trivial⟩))
 ·have r:=M2 w.params c;rw[show iV c 1= .tup [.ints (fT c), .ints (g8 c)] by unfold fT g8;refine ac h ?_;rfl] at r;exact(bL _ _ r (af.mpr ⟨qX,a h (by decide),decide_eq_true h,by decide,by decide,by decide,by decide,trivial⟩))
 ·have r:=M3 w.params c;rw[show iV c 2= .tup [.ints (fT c), .ints (g8 c)] by unfold fT g8;refine ac h ?_;rfl] at r;exact(bL _ _ r (af.mpr ⟨qX,a h (by decide),a h (by decide),decide_eq_true h,by decide,by decide,by decide,trivial⟩))
 ·have r:=M4 w.params c;rw[show iV c 3= .tup [.ints (fT c), .ints (g8 c)] by unfold fT g8;refine ac h ?_;rfl] at r;exact(bL _ _ r (af.mpr ⟨qX,a h (by decide),a h (by decide),a h (by decide),by decide,by decide,by decide,trivial⟩))
def fc (q:Vd) (s:V4):oG:=⟨"inner",q,LB s,cL s,HL s⟩
theorem Iw {p:α->Bool} {x:Option α} (h:x.any p=UZ):∃y,x=UX y/\p y=UZ:=by
 induction x with
 |none=>exact tf h.symm
 |some y=>exact aA y rfl h
theorem ux {x:Option α} (h:x.isSome=UZ):∃y,x=UX y:=by
 induction x with
 |none=>exact tf h.symm
 |some y=>exact⟨y,rfl⟩
def AX (P:U8):U4->Bool
 | .ref p=>VC p P
 |_=>U0
theorem yR {P:U8} {v:U4} (h:AX P v=UZ):v= .ref P:=by
 induction v using aaV with
 |ref p=>exact congrArg X8 (VK h)
 |_=>exact tf h.symm
def AY:U4->Option Int
 | .int q _=>UX q
 |_=>UY
theorem yS {v:U4} {q:Int} (h:AY v=UX q):∃t,v= .int q t:=by
 induction v using aaV with
 |int s t=>exact⟨t,congrArg (aaF · t) (U2 h)⟩
 |_=>exact nn h
def CY:U4->Option Bool
 | .bool q=>UX q
 |_=>UY
theorem Gi {v:U4} {q:Bool} (h:CY v=UX q):v= .bool q:=by
 induction v using aaV with
 |bool s=>exact congrArg adm (U2 h)
 |_=>exact nn h
def Kl (P:U8) (o:Xi) (vs:Array U4):Bool:=decide (o.cls= .type "code")&&((vs.toList[11]?).any (AX P)&&(AX P (vs.getD 11 .none)&&((ut (vs.getD 18 .none)).isSome&&((AY (vs.getD 7 .none)).isSome&&((CY (vs.getD 9 .none)).isSome&&(AY (vs.getD 10 .none)).isSome)))))
noncomputable def se (P:U8) (o:Xi):Bool:=(mU o).any (Kl P o)
theorem tm {K:List (U8×Xi)} {c P:U8} (h1:(K.lookup c).map (se P)=UX UZ) (d:c≠P) (h:Ve) (e:bv K h):PySem.W.CodeHd h c P:=by
 refine aj (Option.map_eq_some_iff.mp h1) λo f g=>aj (Iw g) λvs k a=>aN (Bool.and_eq_true_iff.mp a) λl a=>aN (Bool.and_eq_true_iff.mp a) λa2 a=>aN (Bool.and_eq_true_iff.mp a) λm a=>aN (Bool.and_eq_true_iff.mp a) λn a=>aN (Bool.and_eq_true_iff.mp a) λp a=>aN (Bool.and_eq_true_iff.mp a) λr s=>(aj (Iw a2) λv u w=>bI (ux n) λq x=>bI (ux p) λi y=>bI (ux r) λb z=>bI (ux s) λj A=>bI (r9 x) λt B=>bI (yS y) λC D=>bI (yS A) λE F=>?_)
 exact⟨o,vs,q,t,i,C,b,j,E,e (c,o) (cA f),of_decide_eq_true l,pq k,Array.getElem?_toList.symm.trans (u.trans (congrArg UX (yR w))),yR m,B,D,Gi z,F,d⟩
theorem M5 {f:α->Nat} {l:List α} (h:(l.map f).Nodup) {a b:α} (d:a∈l) (g:b∈l) (e:f a=f b):a=b:=by
 induction l with
 |nil=>exact nomatch d
 |cons c l j=>exact aN (List.nodup_cons.mp h) λi k=>(List.mem_cons.mp d).elim (λp=>(List.mem_cons.mp g).elim (λq=>p.trans q.symm) λq=>absurd (List.mem_map.mpr (aA b q (e.symm.trans (congrArg f p)))) i) λp=>(List.mem_cons.mp g).elim (λq=>absurd (List.mem_map.mpr (aA a p (e.trans (congrArg f q)))) i) λq=>j k p q
theorem Rf (c:4≠a) (h:Ve) (b:bv (aF P) h):∃mg,h.Ns mainGlobals mg/\h.BuiltinsAt mg a:=by refine⟨_,CN h b,4,{cls:= .type "module",dict:=UX 0,data:= .plain,slots:= #[]},by rfl',by decide,by decide,c,b (4,_) (cA (by rfl')),rfl,rfl,rfl⟩
section
theorem wa {T:fB} (a:T∈oR) (t) (h:t∈oR) (e:t.P=T.P):t=T:=M5 (f:=fB.P) (by decide) h a e
theorem pC {T:fB} {q:Vd} (i:f9 Z fd f) (n:aI ((Wz J w).cx g os) C Z U) (o:T∈oR) (j:st= .FunctionDef (fc q st).name (fc q st).params (fc q st).body [] UY [] (fc q st).scope UY (fc q st).name (fV st))
  (a:fd.code= .ref T.c) (p:fd.globals=mainGlobals) (r:((aF w.params).lookup T.c).map (se T.P)=UX UZ) (k:T.c≠T.P) (s:4≠T.P) (u:mainGlobals≠T.P) (v:fd.qualname++".<locals>."++(fc q st).name=q) (x:kd (fc q st).name C.names=UX .local∨kd (fc q st).name C.names=UX .cell) (h1:T.qual=q) (hl:T.line=(fV st).line) (d:T.col=(fV st).col)
  (l:(fc q st).params.defaults=[]) (m:(fc q st).params.kw_defaults=[]) (y:∀Z,annTrees (fc q st).params UY Z=[]) (e:(fc q st).qual=q):ae ((Wz J w).cx g os) A fz U (rN C (fc q st)) (aaW st Z) FR:=by
 have b:qualnameIn Z (fc q st).name (fc q st).name=(fc q st).qual:=by unfold qualnameIn;exact ac (by rw[fK];refine aD n.names ?_;rfl:Z.kindOf (fc q st).name=kd (fc q st).name C.names) (ac (if_neg (by rcases x with h|h<;>rw[h]<;>decide)) (ac i.qual (ac v (ac e rfl))))
 have:=J0 (c:=(Wz J w).cx g os) (A:=A) (fz:=fz) (U:=U) (Z:=Z) (C:=C) (T:=T) (t:=fc q st) (pos:=fV st) n o (wa o) (i.code.trans a) (tm r k) (i.glob.trans p) b (h1.trans e.symm) hl d (Rf s) u l m (y Z)
 rw[<-j] at this
 exact this
def qY (l:Nat) (q:Vd) (st:V4):Nat->Ec->Nat->Option (V4×M Fl):=λa C n=>match VC n l with
 |true=>UX (st,rN C (fc q st))
 |false=>UY
theorem pD {l L:Nat} {q:Vd} (h:∀C,C={names:=T.scope.names,cells:=[]++gR (L+1) T.cn,fid:=L,glob:=gl,trim:=T.trim}->ae c A fz U (rN C (fc q st)) (aaW st Z) FR):eh c A (be T [] gl (qY l q st N) (λa=>br) L) Z fz U:=
 ⟨λn d m e=>by
  have b:(match VC n l with|true=>UX (st,rN {names:=T.scope.names,cells:=[]++gR (L+1) T.cn,fid:=L,glob:=gl,trim:=T.trim} (fc q st))|false=>UY)=UX (d,m):=e;induction f:VC n l with
  |true=>simp only[f] at b;obtain⟨rfl,rfl⟩:=o4 b;exact h _ rfl
  |false=>(rw[f] at b;cases b),λa a a e=>nomatch e⟩
end
section
abbrev dy (P:Vc) (T:FT) (Tb:bC) (N:Nat) (sp:Nat->Ec->Nat->Option (V4×M Fl)) (vs:List V) (objs:List O) (orc:List Bool):Option (D×St×List Prop):=bnd (aR T gl (sp N) (λa=>br) (Gz P Tb 6 N) [] vs) (λv=>cj P 9 v) ⟨objs,orc⟩
def AZ:List (Vd×Wm)->Bool
 |[]=>UZ
 |p::r=> !BZ p.2&&AZ r
theorem eV:∀{l:List (Vd×Wm)},AZ l=UZ->∀x∈l,x.2≠ .cell
 |p::r,h,x,a=>by
  dsimp only[AZ] at h;rw[VQ] at h;rcases List.mem_cons.mp a with rfl|a
  ·intro e;rw[e] at h;cases h.1
  ·exact eV h.2 x a
theorem jv {ps:List Vd} (h:mV names [] ps=UZ) (x:Vd) (a:x∈ps):names.lookup x=UX .local:=by
 rcases pr h x a with h|⟨_,h⟩
 ·exact h
 ·cases h
def fw:oG:=fc "_digits2int.<locals>.inner" (aw gX.body 0)
def nY:=qY 101 "_digits2int.<locals>.inner" (aw gX.body 0)
theorem cW:az fw where
 bind:=λe f h i m j=>by
  refine p9 (AH (j.trans (show(eE fw).params.length=2 by rfl'))) λa b c=>(ac c ?_)
  obtain⟨n,o,p,b,q,g,r,d,k,l,s,t,co,u,v⟩:=e;cases f;cases h;cases i;rfl'
 nc:=eV (by rfl')
 kinds:=jv (by rfl')
 co:=by rfl'
 gen:=by rfl'
 kind:=by rfl'
abbrev aW (n:Nat):Prop:=n < 4611686018427387904
theorem RY (P:Vc) (a b c w:Int):bD 0 (dy P gX [] 30 nY [.dat (.ints [a,b,c]), .int w] [] [UZ,U0,U0,UZ,UZ,UZ])=
  UX (.int ((c*2^(1*w).toNat+b)*2^(1*w).toNat+a),[],
   [aw gX.body 0=aw gX.body 0,aW 3,UZ=UZ,aW 3,az fw,U0=U0,(0:Int)<=1,VL 1 w,az fw,U0=U0,(0:Int)<=1,VL 1 w,az fw,UZ=UZ,(2:Nat) < 3/\aW 2,
    (0:Int)<=1*w/\(U7 c:Int)+1*w<=2^27,az fw,UZ=UZ,(1:Nat) < 3/\aW 1,(0:Int)<=1*w/\(U7 (c*2^(1*w).toNat+b):Int)+1*w<=2^27,az fw,UZ=UZ,(0:Nat) < 3/\aW 0]):=by rfl'
set_option tactic.hygienic true in
theorem sf {x:Int} (h:x.natAbs < 2^k):U7 x<=k:=by
 dsimp only[U7];split
 ·exact W4 _
 ·rename_i a;have:=(abP (by simpa using a:x.natAbs≠0)).mpr h;exact this
noncomputable def ek (w:Int):List Int->Int
 |[]=>0
 |x::r=>ek w r*2^w.toNat+x
abbrev CZ:Sp:=fW (X:=List Int×Int) (λvs=>(cr (nV vs 0),bU (nV vs 1))) (λx=>[.dat (.ints x.1), .int x.2]) (λx=> .int (ek x.2 x.1)) λx=>x.1.length=3/\0<=x.2/\x.2<=100/\(ay 0 x.1 0).natAbs < 2^100/\(ay 0 x.1 1).natAbs < 2^100/\(ay 0 x.1 2).natAbs < 2^100
theorem wb (J:VB) (w:V6) {L:Nat} (b:f9 Z r8 71) (c:aI ((Wz J w).cx g os) (be gX [] gl (nY N) (λa=>br) L) Z U):
  eh ((Wz J w).cx g os) A (be gX [] gl (nY N) (λa=>br) L) Z fz U:=
 pD λC d=>by exact ac d (pC (T:=tI 70 66 101 4 "_digits2int.<locals>.inner") b {c with} (by simp[oR]) (by rfl') (by rfl') rfl (by rfl') (by decide) (by decide) (by decide) (by rfl') (.inr (by rfl')) rfl (by rfl') (by rfl') (by rfl') (by rfl') (λZ=>by rfl') (by rfl'))
theorem C0 {x y:Int} {w:Nat} (b:x.natAbs < 2^k) (c:y.natAbs < 2^100) (d:100<=k):(x*2^w+y).natAbs < 2^(k+w+1):=by
 have e:(x*2^w).natAbs=x.natAbs*2^w:=by rw[Int.natAbs_mul,Int.natAbs_pow];rfl
 have a:x.natAbs*2^w < 2^k*2^w:=aca b (Xv w);have f:(2:Nat)^100<=2^(k+w):=WR (by decide) (U3 d (Vo _ _));have g:(2:Nat)^(k+w+1)=2^(k+w)+2^(k+w):=(aas ..).trans (Nat.mul_two _);simp only[<-XE] at a;exact Vs (Vn (Int.natAbs_add_le _ _:(x*2^w+y).natAbs<=(x*2^w).natAbs+y.natAbs) (Nat.add_lt_add (Vn (Vg e) a) (Vs c f))) (Vg g.symm)
theorem Km (J:VB) (w:V6):aX (Wz J w) 8 71 CZ:=
 dq (X:=List Int×Int) (lev:=0) (k:=6) (T:=gX) (Tb:=[]) (defs:=[]) (spS:=nY) (spE:=λd d=>br) AI rfl rfl (λd h=>nomatch h) (c8 AI) (λd d d d d=>trivial) (λd d d d d d d d d d d p q=>wb J w p q) λx j=>by
  obtain⟨L,v⟩:=x;refine yd j λi h0 l r g e=>?_;clear j;dsimp only at i h0 l r g e;refine aG (j6 i) λa u η f=>?_;subst η;obtain⟨b,c,rfl⟩:=uw f;clear i f;have g:b.natAbs < 2^100:=g;have e:c.natAbs < 2^100:=e;have m:(1*v).toNat=v.toNat:=by rw[ZT]
  have s:v.toNat<=100:=Int.toNat_le.mpr l;have t:ek v [a,b,c]=(c*2^(1*v).toNat+b)*2^(1*v).toNat+a:=by refine ac m ?_;simp[ek]
  have y:=sf e;have z:=sf (C0 (w:=v.toNat) e g (Vt _));have n:VL 1 v:= .of_left (by decide);have o:=RY w.params a b c v;rw[<-t] at o;exact⟨30,_,_,o,⟨rfl,by decide,rfl,by decide,cW,rfl,by decide,n,cW,rfl,by decide,n,cW,rfl,by decide,⟨by lia,by lia⟩,cW,rfl,by decide,⟨by lia,by refine(m).symm▸ ?_;lia⟩,cW,rfl,by decide,trivial⟩,rfl⟩
theorem R0 (P:Vc) (a b c d e f g h i w:Int):bD 0 (dy P gX [] 40 nY [.dat (.ints [a,b,c,d,e,f,g,h,i]), .int w] [] [UZ,U0,U0,U0,U0,UZ,UZ,UZ,U0,UZ,UZ,U0,U0,UZ,UZ,U0,UZ,UZ])=
  UX (.int ((((i*2^(1*w).toNat+h)*2^(1*w).toNat+g)*2^(2*w).toNat+(f*2^(1*w).toNat+e))*2^(4*w).toNat+((d*2^(1*w).toNat+c)*2^(2*w).toNat+(b*2^(1*w).toNat+a))),[],
   [aw gX.body 0=aw gX.body 0,aW 9,UZ=UZ,aW 9,az fw,U0=U0,(0:Int)<=1,VL 4 w,az fw,U0=U0,(0:Int)<=1,VL 2 w,az fw,U0=U0,(0:Int)<=1,VL 1 w,az fw,U0=U0,(0:Int)<=1,VL 1 w,az fw,UZ=UZ,(8:Nat) < 9/\aW 8,(0:Int)<=1*w/\(U7 i:Int)+1*w<=2^27,az fw,UZ=UZ,(7:Nat) < 9/\aW 7,(0:Int)<=1*w/\(U7 (i*2^(1*w).toNat+h):Int)+1*w<=2^27,az fw,UZ=UZ,(6:Nat) < 9/\aW 6,(0:Int)<=2*w/\(U7 ((i*2^(1*w).toNat+h)*2^(1*w).toNat+g):Int)+2*w<=2^27,az fw,U0=U0,(0:Int)<=1,VL 1 w,az fw,UZ=UZ,(5:Nat) < 9/\aW 5,(0:Int)<=1*w/\(U7 f:Int)+1*w<=2^27,az fw,UZ=UZ,(4:Nat) < 9/\aW 4,(0:Int)<=4*w/\(U7 (((i*2^(1*w).toNat+h)*2^(1*w).toNat+g)*2^(2*w).toNat+(f*2^(1*w).toNat+e)):Int)+4*w<=2^27,az fw,U0=U0,(0:Int)<=1,VL 2 w,az fw,U0=U0,(0:Int)<=1,VL 1 w,az fw,UZ=UZ,(3:Nat) < 9/\aW 3,(0:Int)<=1*w/\(U7 d:Int)+1*w<=2^27,az fw,UZ=UZ,(2:Nat) < 9/\aW 2,(0:Int)<=2*w/\(U7 (d*2^(1*w).toNat+c):Int)+2*w<=2^27,az fw,U0=U0,(0:Int)<=1,VL 1 w,az fw,UZ=UZ,(1:Nat) < 9/\aW 1,(0:Int)<=1*w/\(U7 b:Int)+1*w<=2^27,az fw,UZ=UZ,(0:Nat) < 9/\aW 0]):=by rfl'
theorem C1 {x y:Int} {n l:Nat} (b:x.natAbs < 2^k) (c:y.natAbs < 2^j) (h1:k+n<=l) (h2:j<=l):(x*2^n+y).natAbs < 2^(l+1):=by
 have d:(x*2^n).natAbs=x.natAbs*2^n:=by rw[Int.natAbs_mul,Int.natAbs_pow];rfl
 have a:x.natAbs*2^n < 2^k*2^n:=aca b (Xv n);simp only[<-XE] at a;have e:(2:Nat)^(k+n)<=2^l:=WR (by decide) h1;have f:(2:Nat)^j<=2^l:=WR (by decide) h2;have g:(2:Nat)^(l+1)=2^l+2^l:=(aas ..).trans (Nat.mul_two _);exact Vs (Vn (Int.natAbs_add_le _ _:(x*2^n+y).natAbs<=(x*2^n).natAbs+y.natAbs) (Nat.add_lt_add (Vn (Vg d) (Vs a e)) (Vs c f))) (Vg g.symm)
theorem bw {x:Int} {m:Int} (a:x.natAbs < 2^k) (h0:0<=m) (h1:(k:Int)+m<=134217728):0<=m/\(U7 x:Int)+m<=2^27:=by have:=sf a;exact⟨h0,VN (Yb (Int.ofNat_le.mpr this) m) (VN h1 (by decide))⟩
theorem tn {x:Int} {m:Int} (a:x.natAbs < 2^k) (h:0<=m/\m<=400) (b:k<=134217328):0<=m/\(U7 x:Int)+m<=2^27:=bw a h.1 (VN (aaP (Int.ofNat_le.mpr b) h.2) (by decide))
theorem Kn (x:Int) (n m:Nat):x*2^(n+m)=x*2^n*2^m:=by rw[Int.pow_add,aa3]
abbrev C2:Sp:=fW (X:=List Int×Int) (λvs=>(cr (nV vs 0),bU (nV vs 1))) (λx=>[.dat (.ints x.1), .int x.2]) (λx=> .int (ek x.2 x.1)) λx=>x.1.length=9/\0<=x.2/\x.2<=100/\∀y∈x.1,y.natAbs < 2^100
theorem Ko (J:VB) (v:V6):aX (Wz J v) 8 71 C2:=
 dq (X:=List Int×Int) (lev:=0) (k:=6) (T:=gX) (Tb:=[]) (defs:=[]) (spS:=nY) (spE:=λj j=>br) AI rfl rfl (λj h=>nomatch h) (c8 AI) (λj j j j j=>trivial) (λj j j j j j j j j j j N O=>wb J v N O) λx D=>by
  obtain⟨L,w⟩:=x;refine pZ D λy h0 r m=>?_;clear D;dsimp only at y h0 r m;refine aG (j6 y) λa Z η s=>?_;subst η;refine aG (j6 s) λb L2 η t=>?_;subst η;obtain⟨c,d,e,f,g,h,i,rfl⟩:=Iv t;clear y s t;have P:=m c (.tail _ (.tail _ (.head _)));have E:=m d (.tail _ (.tail _ (.tail _ (.head _))));have Q:=m e (.tail _ (.tail _ (.tail _ (.tail _ (.head _)))));have F:=m f (.tail _ (.tail _ (.tail _ (.tail _ (.tail _ (.head _))))));have R:=m g (.tail _ (.tail _ (.tail _ (.tail _ (.tail _ (.tail _ (.head _)))))));have A:=m h (.tail _ (.tail _ (.tail _ (.tail _ (.tail _ (.tail _ (.tail _ (.head _))))))));have G:=m i (.tail _ (.tail _ (.tail _ (.tail _ (.tail _ (.tail _ (.tail _ (.tail _ (.head _)))))))));obtain⟨n,rfl⟩:∃n:Nat,w=n:=⟨w.toNat,(VP h0).symm⟩
  have w1:(1*(n:Int)).toNat=n:=congrArg XU (ZT _);have H:(2*(n:Int)).toNat=n+n:=congrArg XU (adn (n:Int));have S:(4*(n:Int)).toNat=n+n+(n+n):=congrArg XU ((aa3 2 2 (n:Int)).trans ((adn _).trans (congrArg (λz=>z+z) (adn (n:Int)))));have B:n<=100:=Int.ofNat_le.mp r;have u:(1*(n:Int)).toNat<=100:=U3 (Vg w1) B;have U:(2*(n:Int)).toNat<=200:=U3 (Vg H) (VF B B);have o:0<=1*(n:Int)/\1*(n:Int)<=400:=ac (ZT _) ⟨h0,VN r (by decide)⟩;have p:0<=2*(n:Int)/\2*(n:Int)<=400:=⟨Int.mul_nonneg (by decide) h0,VN (abQ r (by decide)) (by decide)⟩
  have q:0<=4*(n:Int)/\4*(n:Int)<=400:=⟨Int.mul_nonneg (by decide) h0,VN (abQ r (by decide)) (by decide)⟩
  have I:=C1 (n:=(1*(n:Int)).toNat) (l:=200) G A (WH u _) (by decide);have K:=C1 (n:=(1*(n:Int)).toNat) (l:=301) I R (WH u _) (by decide);have V:=C1 (n:=(1*(n:Int)).toNat) (l:=200) F Q (WH u _) (by decide);have W:=C1 (n:=(2*(n:Int)).toNat) (l:=502) K V (WH U _) (by decide);have Y:=C1 (n:=(1*(n:Int)).toNat) (l:=200) E P (WH u _) (by decide);have C:ek n [a,b,c,d,e,f,g,h,i]=((((i*2^(1*(n:Int)).toNat+h)*2^(1*(n:Int)).toNat+g)*2^(2*(n:Int)).toNat+(f*2^(1*(n:Int)).toNat+e))*2^(4*(n:Int)).toNat+((d*2^(1*(n:Int)).toNat+c)*2^(2*(n:Int)).toNat+(b*2^(1*(n:Int)).toNat+a))):=by refine ac w1 (ac H (ac S ?_));simp only[ek,Vz,Kn];simp only[ZU,Int.zero_mul,aat];simp only[Int.add_assoc]
  have M:=R0 v.params a b c d e f g h i n;rw[<-C] at M;exact⟨40,_,_,M,⟨rfl,by decide,rfl,by decide,cW,rfl,by decide,Vj (by decide),cW,rfl,by decide,Vj (by decide),cW,rfl,by decide,Vj (by decide),cW,rfl,by decide,Vj (by decide),cW,rfl,by decide,tn G (by first|exact o|exact p|exact q) (by decide),cW,rfl,by decide,tn I (by first|exact o|exact p|exact q) (by decide),cW,rfl,by decide,tn K (by first|exact o|exact p|exact q) (by decide),cW,rfl,by decide,Vj (by decide),cW,rfl,by decide,tn F (by first|exact o|exact p|exact q) (by decide),cW,rfl,by decide,tn W (by first|exact o|exact p|exact q) (by decide),cW,rfl,by decide,Vj (by decide),cW,rfl,by decide,Vj (by decide),cW,rfl,by decide,tn E (by first|exact o|exact p|exact q) (by decide),cW,rfl,by decide,tn Y (by first|exact o|exact p|exact q) (by decide),cW,rfl,by decide,Vj (by decide),cW,rfl,by decide,tn (m b (.tail _ (.head _))) (by first|exact o|exact p|exact q) (by decide),cW,rfl,by decide,trivial⟩,rfl⟩
end
noncomputable def Gj (k:Nat):M Unit:=λS=>match S.H[S.H.length - 1]? with
 |some (.ints ns)=>UX ((),⟨S.H.set (S.H.length - 1) (.ints (Wa k 0)),S.orc⟩,[ns=Wa k 0])
 |_=>UY
def A3 (F:bP) (st:V4):M Fl:=bnd (F.ex st) λf=>bnd (guess 12 0) λk=>bnd (Gj k) λa=>ret f
section
theorem A4 {n:Nat} {S:St} {p:List Prop} (e:guess n k S=UX (j,S',p)):S'.H=S.H/\p=[]:=OK.use e λK b=>OK.guess λa a=>b _ _ _ ⟨rfl,rfl⟩
theorem Gk {n:Nat}:Gh c fz U (guess n k) (λa a a=>True):=λS j f p e a b ρ' h k q x=>by refine aN (A4 e) λd rfl=>?_;rw[<-d] at x;exact(cE b (Le.refl _) x trivial)
theorem Kp:Gh c fz U (Gj k) (λa a a=>True):=λS j r p e g b ρ' h s q x=>by
 unfold Gj at e;induction d:S.H[S.H.length - 1]? with
 |none=>rw[d] at e;exact nn e
 |some l=>
 rw[d] at e;induction l with
 |«ints» ns=>
  refine b9 (db e) λt m n=>?_;subst m;subst n;have o:ns=Wa k 0:=g.1;refine(cE b (Le.refl _) ?_ trivial);have:S.H.set (S.H.length - 1) (.ints (Wa k 0))=S.H:=by
   refine aD o (abh λi=>?_);refine ac (List.getElem?_set) ?_;by_cases f:S.H.length - 1=i
   ·exact ac (if_pos f) (ac (if_pos (bn d)) (f▸d.symm))
   ·exact ac (if_neg f) rfl
  refine(?_:HR c b ρ' (S.H.set (S.H.length - 1) (.ints (Wa k 0))) h);exact ac this x
 |_=>exact nn e
theorem C3 (G:bM c A C Z fz U) (d:bG c A C Z F) (st:V4):ae c A fz U (A3 F st) (aaW st Z) FR:=by
 refine ae.eq (t':=aaW st Z >>= λx=>pure x) (by simp) ?_;exact ae.bind (d.ex _ _ G st) λm n f x o p b=>ae.ghost Gk λq r k e g a=>ae.ghost Kp λs t a h i a=>ae.ret λu w j l=>by
  induction f with
  |ret v=>cases x<;>first|exact b.elim|exact VR.mono ((e.trans h).trans j) ((g.trans i).trans l) b
  |_=>cases x<;>first|exact b.elim|trivial
end
noncomputable def M6:Vd:="_int2digits.<locals>.inner"
def aM:oG:=fc M6 (aw a9.body 1)
def cD (P:Vc):Nat->Ec->Nat->Option (V4×M Fl):=λN C n=>match VC n 84 with
 |true=>UX (aw a9.body 0,A3 (Gz P [] 6 N {C with spS:=bk,spE:=br}) (aw a9.body 0))
 |false=>qY 86 M6 (aw a9.body 1) N C n
theorem aB:az aM where
 bind:=λf h i j n l=>by
  refine ky (pv (l.trans (show(eE aM).params.length=3 by rfl'))) λa b c e=>(ac e ?_)
  obtain⟨o,q,p,b,r,g,s,d,k,m,t,u,co,v,w⟩:=f;cases h;cases i;cases j;rfl'
 nc:=eV (by rfl')
 kinds:=jv (by rfl')
 co:=by rfl'
 gen:=by rfl'
 kind:=by rfl'
noncomputable def ah (x:Int) (s w:Int):Int:=x.fdiv (2^(s*w).toNat)
noncomputable def am (x:Int) (s w:Int):Int:=Builtin.bitXor x (ah x s w*2^(s*w).toNat)
noncomputable def cP (a w:Int):Int:=((U7 a:Int)+w - 1).fdiv w
def fX (a w:Int) (k:Nat):List Prop:=[aw a9.body 0=aw a9.body 0,(1:Nat)<=Vb,w≠0/\w.natAbs < 1073741824,(-2^63:Int)<=cP a w/\cP a w < 2^63/\1*(cP a w).toNat<=Vb,rep (cP a w).toNat [(0:Int)]=Wa k 0,aw a9.body 1=aw a9.body 1]
theorem R3 (P:Vc) (a w:Int):bD 0 (dy P a9 [] 40 (cD P) [.int a, .int w] [] [UZ,U0])=UX (.ints [],[],fX a w 0++[(!decide (a=0))=U0]):=by rfl'
theorem R4 (P:Vc) (a w:Int):bD 0 (dy P a9 [] 40 (cD P) [.int a, .int w] [] [U0,UZ,UZ,UZ])=UX (.ints [a],[],fX a w 1++([(!decide (a=0))=UZ,aW 1,az aM,UZ=UZ,(0:Nat) < 1/\aW 0])):=by rfl'
theorem R5 (P:Vc) (a w:Int):bD 0 (dy P a9 [] 40 (cD P) [.int a, .int w] [] [U0,U0,UZ,UZ,U0,UZ,UZ])=UX (.ints [(am a 1 w),(ah a 1 w)],[],fX a w 2++([(!decide (a=0))=UZ,aW 2,az aM,U0=U0,(0:Int)<=1,VL 1 w,(0:Int)<=1*w,(0:Int)<=1*w/\(U7 (ah a 1 w):Int)+1*w<=2^27,az aM,UZ=UZ,(0:Nat) < 2/\aW 0,az aM,UZ=UZ,(1:Nat) < 2/\aW 1])):=by rfl'
theorem R6 (P:Vc) (a w:Int):bD 0 (dy P a9 [] 40 (cD P) [.int a, .int w] [] [U0,U0,U0,UZ,UZ,U0,UZ,U0,UZ,UZ])=UX (.ints [(am a 1 w),(am (ah a 1 w) 1 w),(ah (ah a 1 w) 1 w)],[],fX a w 3++([(!decide (a=0))=UZ,aW 3,az aM,U0=U0,(0:Int)<=1,VL 1 w,(0:Int)<=1*w,(0:Int)<=1*w/\(U7 (ah a 1 w):Int)+1*w<=2^27,az aM,UZ=UZ,(0:Nat) < 3/\aW 0,az aM,U0=U0,(0:Int)<=1,VL 1 w,(0:Int)<=1*w,(0:Int)<=1*w/\(U7 (ah (ah a 1 w) 1 w):Int)+1*w<=2^27,az aM,UZ=UZ,(1:Nat) < 3/\aW 1,az aM,UZ=UZ,(2:Nat) < 3/\aW 2])):=by rfl'
theorem R7 (P:Vc) (a w:Int):bD 0 (dy P a9 [] 40 (cD P) [.int a, .int w] [] [U0,U0,U0,U0,UZ,UZ,U0,U0,UZ,UZ,U0,UZ,UZ])=UX (.ints [(am (am a 2 w) 1 w),(ah (am a 2 w) 1 w),(am (ah a 2 w) 1 w),(ah (ah a 2 w) 1 w)],[],fX a w 4++([(!decide (a=0))=UZ,aW 4,az aM,U0=U0,(0:Int)<=1,VL 2 w,(0:Int)<=2*w,(0:Int)<=2*w/\(U7 (ah a 2 w):Int)+2*w<=2^27,az aM,U0=U0,(0:Int)<=1,VL 1 w,(0:Int)<=1*w,(0:Int)<=1*w/\(U7 (ah (am a 2 w) 1 w):Int)+1*w<=2^27,az aM,UZ=UZ,(0:Nat) < 4/\aW 0,az aM,UZ=UZ,(1:Nat) < 4/\aW 1,az aM,U0=U0,(0:Int)<=1,VL 1 w,(0:Int)<=1*w,(0:Int)<=1*w/\(U7 (ah (ah a 2 w) 1 w):Int)+1*w<=2^27,az aM,UZ=UZ,(2:Nat) < 4/\aW 2,az aM,UZ=UZ,(3:Nat) < 4/\aW 3])):=by rfl'
theorem R8 (P:Vc) (a w:Int):bD 0 (dy P a9 [] 40 (cD P) [.int a, .int w] [] [U0,U0,U0,U0,U0,UZ,UZ,U0,U0,UZ,UZ,U0,UZ,U0,UZ,UZ])=UX (.ints [(am (am a 2 w) 1 w),(ah (am a 2 w) 1 w),(am (ah a 2 w) 1 w),(am (ah (ah a 2 w) 1 w) 1 w),(ah (ah (ah a 2 w) 1 w) 1 w)],[],fX a w 5++([(!decide (a=0))=UZ,aW 5,az aM,U0=U0,(0:Int)<=1,VL 2 w,(0:Int)<=2*w,(0:Int)<=2*w/\(U7 (ah a 2 w):Int)+2*w<=2^27,az aM,U0=U0,(0:Int)<=1,VL 1 w,(0:Int)<=1*w,(0:Int)<=1*w/\(U7 (ah (am a 2 w) 1 w):Int)+1*w<=2^27,az aM,UZ=UZ,(0:Nat) < 5/\aW 0,az aM,UZ=UZ,(1:Nat) < 5/\aW 1,az aM,U0=U0,(0:Int)<=1,VL 1 w,(0:Int)<=1*w,(0:Int)<=1*w/\(U7 (ah (ah a 2 w) 1 w):Int)+1*w<=2^27,az aM,UZ=UZ,(2:Nat) < 5/\aW 2,az aM,U0=U0,(0:Int)<=1,VL 1 w,(0:Int)<=1*w,(0:Int)<=1*w/\(U7 (ah (ah (ah a 2 w) 1 w) 1 w):Int)+1*w<=2^27,az aM,UZ=UZ,(3:Nat) < 5/\aW 3,az aM,UZ=UZ,(4:Nat) < 5/\aW 4])):=by rfl'
theorem R9 (P:Vc) (a w:Int):bD 0 (dy P a9 [] 40 (cD P) [.int a, .int w] [] [U0,U0,U0,U0,U0,U0,UZ,UZ,U0,U0,UZ,U0,UZ,UZ,U0,UZ,U0,UZ,UZ])=UX (.ints [(am (am a 3 w) 1 w),(am (ah (am a 3 w) 1 w) 1 w),(ah (ah (am a 3 w) 1 w) 1 w),(am (ah a 3 w) 1 w),(am (ah (ah a 3 w) 1 w) 1 w),(ah (ah (ah a 3 w) 1 w) 1 w)],[],fX a w 6++([(!decide (a=0))=UZ,aW 6,az aM,U0=U0,(0:Int)<=1,VL 3 w,(0:Int)<=3*w,(0:Int)<=3*w/\(U7 (ah a 3 w):Int)+3*w<=2^27,az aM,U0=U0,(0:Int)<=1,VL 1 w,(0:Int)<=1*w,(0:Int)<=1*w/\(U7 (ah (am a 3 w) 1 w):Int)+1*w<=2^27,az aM,UZ=UZ,(0:Nat) < 6/\aW 0,az aM,U0=U0,(0:Int)<=1,VL 1 w,(0:Int)<=1*w,(0:Int)<=1*w/\(U7 (ah (ah (am a 3 w) 1 w) 1 w):Int)+1*w<=2^27,az aM,UZ=UZ,(1:Nat) < 6/\aW 1,az aM,UZ=UZ,(2:Nat) < 6/\aW 2,az aM,U0=U0,(0:Int)<=1,VL 1 w,(0:Int)<=1*w,(0:Int)<=1*w/\(U7 (ah (ah a 3 w) 1 w):Int)+1*w<=2^27,az aM,UZ=UZ,(3:Nat) < 6/\aW 3,az aM,U0=U0,(0:Int)<=1,VL 1 w,(0:Int)<=1*w,(0:Int)<=1*w/\(U7 (ah (ah (ah a 3 w) 1 w) 1 w):Int)+1*w<=2^27,az aM,UZ=UZ,(4:Nat) < 6/\aW 4,az aM,UZ=UZ,(5:Nat) < 6/\aW 5])):=by rfl'
theorem Sa (P:Vc) (a w:Int):bD 0 (dy P a9 [] 40 (cD P) [.int a, .int w] [] [U0,U0,U0,U0,U0,U0,U0,UZ,UZ,U0,U0,UZ,U0,UZ,UZ,U0,U0,UZ,UZ,U0,UZ,UZ])=UX (.ints [(am (am a 3 w) 1 w),(am (ah (am a 3 w) 1 w) 1 w),(ah (ah (am a 3 w) 1 w) 1 w),(am (am (ah a 3 w) 2 w) 1 w),(ah (am (ah a 3 w) 2 w) 1 w),(am (ah (ah a 3 w) 2 w) 1 w),(ah (ah (ah a 3 w) 2 w) 1 w)],[],fX a w 7++([(!decide (a=0))=UZ,aW 7,az aM,U0=U0,(0:Int)<=1,VL 3 w,(0:Int)<=3*w,(0:Int)<=3*w/\(U7 (ah a 3 w):Int)+3*w<=2^27,az aM,U0=U0,(0:Int)<=1,VL 1 w,(0:Int)<=1*w,(0:Int)<=1*w/\(U7 (ah (am a 3 w) 1 w):Int)+1*w<=2^27,az aM,UZ=UZ,(0:Nat) < 7/\aW 0,az aM,U0=U0,(0:Int)<=1,VL 1 w,(0:Int)<=1*w,(0:Int)<=1*w/\(U7 (ah (ah (am a 3 w) 1 w) 1 w):Int)+1*w<=2^27,az aM,UZ=UZ,(1:Nat) < 7/\aW 1,az aM,UZ=UZ,(2:Nat) < 7/\aW 2,az aM,U0=U0,(0:Int)<=1,VL 2 w,(0:Int)<=2*w,(0:Int)<=2*w/\(U7 (ah (ah a 3 w) 2 w):Int)+2*w<=2^27,az aM,U0=U0,(0:Int)<=1,VL 1 w,(0:Int)<=1*w,(0:Int)<=1*w/\(U7 (ah (am (ah a 3 w) 2 w) 1 w):Int)+1*w<=2^27,az aM,UZ=UZ,(3:Nat) < 7/\aW 3,az aM,UZ=UZ,(4:Nat) < 7/\aW 4,az aM,U0=U0,(0:Int)<=1,VL 1 w,(0:Int)<=1*w,(0:Int)<=1*w/\(U7 (ah (ah (ah a 3 w) 2 w) 1 w):Int)+1*w<=2^27,az aM,UZ=UZ,(5:Nat) < 7/\aW 5,az aM,UZ=UZ,(6:Nat) < 7/\aW 6])):=by rfl'
theorem Sb (P:Vc) (a w:Int):bD 0 (dy P a9 [] 40 (cD P) [.int a, .int w] [] [U0,U0,U0,U0,U0,U0,U0,U0,UZ,UZ,U0,U0,U0,UZ,UZ,U0,UZ,UZ,U0,U0,UZ,UZ,U0,UZ,UZ])=UX (.ints [(am (am (am a 4 w) 2 w) 1 w),(ah (am (am a 4 w) 2 w) 1 w),(am (ah (am a 4 w) 2 w) 1 w),(ah (ah (am a 4 w) 2 w) 1 w),(am (am (ah a 4 w) 2 w) 1 w),(ah (am (ah a 4 w) 2 w) 1 w),(am (ah (ah a 4 w) 2 w) 1 w),(ah (ah (ah a 4 w) 2 w) 1 w)],[],fX a w 8++([(!decide (a=0))=UZ,aW 8,az aM,U0=U0,(0:Int)<=1,VL 4 w,(0:Int)<=4*w,(0:Int)<=4*w/\(U7 (ah a 4 w):Int)+4*w<=2^27,az aM,U0=U0,(0:Int)<=1,VL 2 w,(0:Int)<=2*w,(0:Int)<=2*w/\(U7 (ah (am a 4 w) 2 w):Int)+2*w<=2^27,az aM,U0=U0,(0:Int)<=1,VL 1 w,(0:Int)<=1*w,(0:Int)<=1*w/\(U7 (ah (am (am a 4 w) 2 w) 1 w):Int)+1*w<=2^27,az aM,UZ=UZ,(0:Nat) < 8/\aW 0,az aM,UZ=UZ,(1:Nat) < 8/\aW 1,az aM,U0=U0,(0:Int)<=1,VL 1 w,(0:Int)<=1*w,(0:Int)<=1*w/\(U7 (ah (ah (am a 4 w) 2 w) 1 w):Int)+1*w<=2^27,az aM,UZ=UZ,(2:Nat) < 8/\aW 2,az aM,UZ=UZ,(3:Nat) < 8/\aW 3,az aM,U0=U0,(0:Int)<=1,VL 2 w,(0:Int)<=2*w,(0:Int)<=2*w/\(U7 (ah (ah a 4 w) 2 w):Int)+2*w<=2^27,az aM,U0=U0,(0:Int)<=1,VL 1 w,(0:Int)<=1*w,(0:Int)<=1*w/\(U7 (ah (am (ah a 4 w) 2 w) 1 w):Int)+1*w<=2^27,az aM,UZ=UZ,(4:Nat) < 8/\aW 4,az aM,UZ=UZ,(5:Nat) < 8/\aW 5,az aM,U0=U0,(0:Int)<=1,VL 1 w,(0:Int)<=1*w,(0:Int)<=1*w/\(U7 (ah (ah (ah a 4 w) 2 w) 1 w):Int)+1*w<=2^27,az aM,UZ=UZ,(6:Nat) < 8/\aW 6,az aM,UZ=UZ,(7:Nat) < 8/\aW 7])):=by rfl'
theorem Sc (P:Vc) (a w:Int):bD 0 (dy P a9 [] 40 (cD P) [.int a, .int w] [] [U0,U0,U0,U0,U0,U0,U0,U0,U0,UZ,UZ,U0,U0,U0,UZ,UZ,U0,UZ,UZ,U0,U0,UZ,UZ,U0,UZ,U0,UZ,UZ])=UX (.ints [(am (am (am a 4 w) 2 w) 1 w),(ah (am (am a 4 w) 2 w) 1 w),(am (ah (am a 4 w) 2 w) 1 w),(ah (ah (am a 4 w) 2 w) 1 w),(am (am (ah a 4 w) 2 w) 1 w),(ah (am (ah a 4 w) 2 w) 1 w),(am (ah (ah a 4 w) 2 w) 1 w),(am (ah (ah (ah a 4 w) 2 w) 1 w) 1 w),(ah (ah (ah (ah a 4 w) 2 w) 1 w) 1 w)],[],fX a w 9++([(!decide (a=0))=UZ,aW 9,az aM,U0=U0,(0:Int)<=1,VL 4 w,(0:Int)<=4*w,(0:Int)<=4*w/\(U7 (ah a 4 w):Int)+4*w<=2^27,az aM,U0=U0,(0:Int)<=1,VL 2 w,(0:Int)<=2*w,(0:Int)<=2*w/\(U7 (ah (am a 4 w) 2 w):Int)+2*w<=2^27,az aM,U0=U0,(0:Int)<=1,VL 1 w,(0:Int)<=1*w,(0:Int)<=1*w/\(U7 (ah (am (am a 4 w) 2 w) 1 w):Int)+1*w<=2^27,az aM,UZ=UZ,(0:Nat) < 9/\aW 0,az aM,UZ=UZ,(1:Nat) < 9/\aW 1,az aM,U0=U0,(0:Int)<=1,VL 1 w,(0:Int)<=1*w,(0:Int)<=1*w/\(U7 (ah (ah (am a 4 w) 2 w) 1 w):Int)+1*w<=2^27,az aM,UZ=UZ,(2:Nat) < 9/\aW 2,az aM,UZ=UZ,(3:Nat) < 9/\aW 3,az aM,U0=U0,(0:Int)<=1,VL 2 w,(0:Int)<=2*w,(0:Int)<=2*w/\(U7 (ah (ah a 4 w) 2 w):Int)+2*w<=2^27,az aM,U0=U0,(0:Int)<=1,VL 1 w,(0:Int)<=1*w,(0:Int)<=1*w/\(U7 (ah (am (ah a 4 w) 2 w) 1 w):Int)+1*w<=2^27,az aM,UZ=UZ,(4:Nat) < 9/\aW 4,az aM,UZ=UZ,(5:Nat) < 9/\aW 5,az aM,U0=U0,(0:Int)<=1,VL 1 w,(0:Int)<=1*w,(0:Int)<=1*w/\(U7 (ah (ah (ah a 4 w) 2 w) 1 w):Int)+1*w<=2^27,az aM,UZ=UZ,(6:Nat) < 9/\aW 6,az aM,U0=U0,(0:Int)<=1,VL 1 w,(0:Int)<=1*w,(0:Int)<=1*w/\(U7 (ah (ah (ah (ah a 4 w) 2 w) 1 w) 1 w):Int)+1*w<=2^27,az aM,UZ=UZ,(7:Nat) < 9/\aW 7,az aM,UZ=UZ,(8:Nat) < 9/\aW 8])):=by rfl'
noncomputable def ji (x n j:Nat):Nat:=x / 2^(j*n) % 2^n
noncomputable def wc (n:Nat):Nat->Nat->Nat->List Nat
 |0,x,_=>[x]
 |f+1,x,m=>match abi m 1 with
  |true=>[x]
  |false=>wc n f (x % 2^(m / 2*n)) (m / 2)++wc n f (x / 2^(m / 2*n)) (m - m / 2)
theorem M7 {x n s:Nat} (h:j < s):ji (x % 2^(s*n)) n j=ji x n j:=by
 dsimp only[ji];have a:(s - j)*n=n+(s - j - 1)*n:=by
  have:s - j=1+(s - j - 1):=((Wk _ _).trans (Wp (YQ h))).symm
  conv=>lhs;rw[this,YH,XF]
 rw[(by rw[<-YH];congr 1;exact(XY (WB h)).symm:s*n=j*n+(s - j)*n),XE,Nat.mod_mul_right_div_self,a,XE,Nat.mod_mul_right_mod]
theorem Kq {x n s:Nat}:ji (x / 2^(s*n)) n j=ji x n (s+j):=by dsimp only[ji];rw[acY,<-XE,<-YH]
theorem we {n x:Nat} (b:x < 2^(1*n)):[x]=(Wb 1).map (ji x n):=by refine congrArg (λa=>[a]) (?_:x=x / 2^(0*n) % 2^n);rw[ZC,Nat.pow_zero,Nat.div_one];exact(Nat.mod_eq_of_lt (XF n▸b)).symm
theorem fM (n:Nat) (f x m:Nat) (h1:1<=m) (h2:m<=2^f) (a:x < 2^(m*n)):wc n f x m=(Wb m).map (ji x n):=by
 induction f generalizing x m with
 |zero=>obtain rfl:m=1:=Yy h2 h1;exact we a
 |succ f c=>
  refine(?_:(match abi m 1 with|true=>[x]|false=>wc n f (x % 2^(m / 2*n)) (m / 2)++wc n f (x / 2^(m / 2*n)) (m - m / 2))=_);induction b:abi m 1 with
  |true=>have:m<=1:=Wf b;obtain rfl:m=1:=Yy this h1;exact we a
  |false=>
   have e:¬m<=1:=λh=>by rw[Nat.ble_eq_true_of_le h] at b;exact tf b
   have i:(2:Nat)^(f+1)=2*2^f:=(aas ..).trans (aau _ _);dsimp only;refine ac (c _ (m / 2) (Nat.div_pos (Nat.not_le.mp e) (by decide)) (by exact Nat.div_le_of_le_mul (U3 h2 (Vg (aau _ _)))) (abb _ (Xv _))) ?_;refine ac (c _ (m - m / 2) (by exact YQ (Nat.div_lt_self h1 (by decide))) (by lia) (by rw[Nat.div_lt_iff_lt_mul (Xv _),<-XE,<-YH];exact ac (show m - m / 2+m / 2=m by exact Wp (ab1 _ _)) a)) ?_;have g:Wb m=Wb (m / 2)++(Wb (m - m / 2)).map (m / 2+·):=by
    conv=>lhs;rw[show m=m / 2+(m - m / 2) from(XY (ab1 _ _)).symm]
    exact List.range_add ..
   refine ac g ?_;refine ac V5 ?_;refine ac Yi ?_;congr 1
   ·refine Xb λj d=>M7 (List.mem_range.mp d)
   ·refine Xb λj d=>Kq
theorem A5 (a b:Nat):Builtin.bitAnd a b=((a&&& b:Nat):Int):=by refine(?_:adb a b=_);dsimp only[adb];refine ac (decide_eq_true (Vr a)) (ac (decide_eq_true (Vr b)) ?_);simp
theorem Rg (a:Nat):(-(-(a:Int) - 1) - 1).toNat=a:=by lia
theorem C4 (a b:Nat):Builtin.bitOr a b=((a|||b:Nat):Int):=by refine(?_:Spec.bitOr a b=_);unfold Spec.bitOr adb Spec.bitNot;refine ac (decide_eq_false (by lia)) (ac (decide_eq_false (by lia)) ?_);simp only;refine ac (Rg a) (ac (Rg b) ?_);lia
theorem Kr (x n:Nat):x&&& (x / 2^n*2^n)=x / 2^n*2^n:=by
 refine ado λi=>?_;rw[Nat.testBit_and,<-Nat.shiftLeft_eq,<-acu,adc,acZ];by_cases h:n<=i
 ·refine ac (show n+(i - n)=i by exact XY h) ?_;simp
 ·refine ac (decide_eq_false h) ?_;simp
theorem M8 (x n:Nat):x|||(x / 2^n*2^n)=x:=by
 refine ado λi=>?_;rw[Nat.testBit_or,<-Nat.shiftLeft_eq,<-acu,adc,acZ];by_cases h:n<=i
 ·refine ac (show n+(i - n)=i by exact XY h) ?_;simp
 ·refine ac (decide_eq_false h) ?_;simp
theorem kO (x s n:Nat):ah x s n=((x / 2^(s*n):Nat):Int):=by dsimp only[ah];refine ac (show((s:Int)*(n:Int)).toNat=s*n by rw[<-ab2];rfl) ?_;refine ac (Wl _ (Wy (Int.pow_pos (by decide)))) ?_;norm_cast
theorem kP (x s n:Nat):am x s n=((x % 2^(s*n):Nat):Int):=by dsimp only[am];rw[kO];refine ac (show((s:Int)*(n:Int)).toNat=s*n by rw[<-ab2];rfl) ?_;refine ac (by norm_cast:((x / 2^(s*n):Nat):Int)*2^(s*n)=((x / 2^(s*n)*2^(s*n):Nat):Int)) (?_:Builtin.bitOr _ _ - Builtin.bitAnd _ _=_);rw[A5,C4,Kr,M8];have:=Nat.div_add_mod x (2^(s*n));rw[aau] at this;exact(congrArg (λz:Nat=>(z:Int) - ((x / 2^(s*n)*2^(s*n):Nat):Int)) (this.symm.trans (Wk _ _))).trans (XO ((x % 2^(s*n):Nat):Int) ((x / 2^(s*n)*2^(s*n):Nat):Int))
def UB (x:Int) (K:Nat):Prop:=0<=x/\x.natAbs < 2^K
theorem bc {x s w:Int} {K:Nat} (h:UB x K) (a:0<=w):UB (ah x s w) K:=by
 obtain⟨n,rfl⟩:∃n:Nat,x=n:=⟨x.toNat,by have:=h.1;lia⟩
 have e:ah n s w=((n / 2^(s*w).toNat:Nat):Int):=by unfold ah;refine ac (Wl _ (Wy (Int.pow_pos (by decide)))) ?_;norm_cast
 exact ac e ⟨Vr _,Vn (ab1 _ _) h.2⟩
theorem iW {x s w:Int} {K:Nat} (h:UB x K) (a:0<=w):UB (am x s w) K:=by
 obtain⟨n,rfl⟩:∃n:Nat,x=n:=⟨x.toNat,by have:=h.1;lia⟩
 have e:am n s w=((n % 2^(s*w).toNat:Nat):Int):=by have:=kP n 1 (s*w).toNat;rw[XF] at this;refine aD this ?_;unfold am ah;exact ac (by rw[<-ab2,XF];rfl:(((1:Nat):Int)*((s*w).toNat:Int)).toNat=(s*w).toNat) rfl
 exact ac e ⟨Vr _,Vn (Nat.mod_le _ _) h.2⟩
theorem Sd (P:Vc) {a w:Int} (e:UB a 1000) (f:0<=w) (g:w<=100) (h1:ao (fX a w 0)) (b:a=0):∃orc S' qs,dy P a9 [] 40 (cD P) [.int a, .int w] [] orc=UX (.ints [],S',qs)/\ao qs/\S'.H.take 0=[]:=by refine aj (dh (R3 P a w)) λS' c d=>?_;exact(gI _ S' _ c (af.mpr ⟨h1,⟨by refine(decide_eq_true b).symm▸ ?_;rfl,trivial⟩⟩) d)
theorem Se (P:Vc) {a w:Int} (e:UB a 1000) (f:0<=w) (g:w<=100) (h1:ao (fX a w 1)) (b:a≠0):∃orc S' qs,dy P a9 [] 40 (cD P) [.int a, .int w] [] orc=UX (.ints [a],S',qs)/\ao qs/\S'.H.take 0=[]:=by refine aj (dh (R4 P a w)) λS' c d=>?_;exact⟨_,S',_,c,af.mpr ⟨h1,⟨by refine(decide_eq_false b).symm▸ ?_;rfl,by decide,aB,rfl,by decide,trivial⟩⟩,d⟩
theorem Sf (P:Vc) {a w:Int} (b:UB a 1000) (c:0<=w) (g:w<=100) (h1:ao (fX a w 2)) (d:a≠0):∃orc S' qs,dy P a9 [] 40 (cD P) [.int a, .int w] [] orc=UX (.ints [(am a 1 w),(ah a 1 w)],S',qs)/\ao qs/\S'.H.take 0=[]:=by refine aj (dh (R5 P a w)) λS' e f=>?_;exact(gI _ S' _ e (af.mpr ⟨h1,⟨by refine(decide_eq_false d).symm▸ ?_;rfl,by decide,aB,rfl,by decide,Vj (by decide),by lia,bw (bc b c).2 (by lia) (by lia),aB,rfl,by decide,aB,rfl,by decide,trivial⟩⟩) f)
theorem Sg (P:Vc) {a w:Int} (c:UB a 1000) (b:0<=w) (g:w<=100) (h1:ao (fX a w 3)) (d:a≠0):∃orc S' qs,dy P a9 [] 40 (cD P) [.int a, .int w] [] orc=UX (.ints [(am a 1 w),(am (ah a 1 w) 1 w),(ah (ah a 1 w) 1 w)],S',qs)/\ao qs/\S'.H.take 0=[]:=by refine aj (dh (R6 P a w)) λS' e f=>?_;exact(gI _ S' _ e (af.mpr ⟨h1,⟨by refine(decide_eq_false d).symm▸ ?_;rfl,by decide,aB,rfl,by decide,Vj (by decide),by lia,bw (bc c b).2 (by lia) (by lia),aB,rfl,by decide,aB,rfl,by decide,Vj (by decide),by lia,bw (bc (bc c b) b).2 (by lia) (by lia),aB,rfl,by decide,aB,rfl,by decide,trivial⟩⟩) f)
theorem Sh (P:Vc) {a w:Int} (c:UB a 1000) (b:0<=w) (g:w<=100) (h1:ao (fX a w 4)) (d:a≠0):∃orc S' qs,dy P a9 [] 40 (cD P) [.int a, .int w] [] orc=UX (.ints [(am (am a 2 w) 1 w),(ah (am a 2 w) 1 w),(am (ah a 2 w) 1 w),(ah (ah a 2 w) 1 w)],S',qs)/\ao qs/\S'.H.take 0=[]:=by refine aj (dh (R7 P a w)) λS' e f=>?_;exact(gI _ S' _ e (af.mpr ⟨h1,⟨by refine(decide_eq_false d).symm▸ ?_;rfl,by decide,aB,rfl,by decide,Vj (by decide),by lia,bw (bc c b).2 (by lia) (by lia),aB,rfl,by decide,Vj (by decide),by lia,bw (bc (iW c b) b).2 (by lia) (by lia),aB,rfl,by decide,aB,rfl,by decide,aB,rfl,by decide,Vj (by decide),by lia,bw (bc (bc c b) b).2 (by lia) (by lia),aB,rfl,by decide,aB,rfl,by decide,trivial⟩⟩) f)
theorem Si (P:Vc) {a w:Int} (c:UB a 1000) (b:0<=w) (g:w<=100) (h1:ao (fX a w 5)) (d:a≠0):∃orc S' qs,dy P a9 [] 40 (cD P) [.int a, .int w] [] orc=UX (.ints [(am (am a 2 w) 1 w),(ah (am a 2 w) 1 w),(am (ah a 2 w) 1 w),(am (ah (ah a 2 w) 1 w) 1 w),(ah (ah (ah a 2 w) 1 w) 1 w)],S',qs)/\ao qs/\S'.H.take 0=[]:=by refine aj (dh (R8 P a w)) λS' e f=>?_;exact(gI _ S' _ e (af.mpr ⟨h1,⟨by refine(decide_eq_false d).symm▸ ?_;rfl,by decide,aB,rfl,by decide,Vj (by decide),by lia,bw (bc c b).2 (by lia) (by lia),aB,rfl,by decide,Vj (by decide),by lia,bw (bc (iW c b) b).2 (by lia) (by lia),aB,rfl,by decide,aB,rfl,by decide,aB,rfl,by decide,Vj (by decide),by lia,bw (bc (bc c b) b).2 (by lia) (by lia),aB,rfl,by decide,aB,rfl,by decide,Vj (by decide),by lia,bw (bc (bc (bc c b) b) b).2 (by lia) (by lia),aB,rfl,by decide,aB,rfl,by decide,trivial⟩⟩) f)
theorem Sj (P:Vc) {a w:Int} (c:UB a 1000) (b:0<=w) (g:w<=100) (h1:ao (fX a w 6)) (d:a≠0):∃orc S' qs,dy P a9 [] 40 (cD P) [.int a, .int w] [] orc=UX (.ints [(am (am a 3 w) 1 w),(am (ah (am a 3 w) 1 w) 1 w),(ah (ah (am a 3 w) 1 w) 1 w),(am (ah a 3 w) 1 w),(am (ah (ah a 3 w) 1 w) 1 w),(ah (ah (ah a 3 w) 1 w) 1 w)],S',qs)/\ao qs/\S'.H.take 0=[]:=by refine aj (dh (R9 P a w)) λS' e f=>?_;exact(gI _ S' _ e (af.mpr ⟨h1,⟨by refine(decide_eq_false d).symm▸ ?_;rfl,by decide,aB,rfl,by decide,Vj (by decide),by lia,bw (bc c b).2 (by lia) (by lia),aB,rfl,by decide,Vj (by decide),by lia,bw (bc (iW c b) b).2 (by lia) (by lia),aB,rfl,by decide,aB,rfl,by decide,Vj (by decide),by lia,bw (bc (bc (iW c b) b) b).2 (by lia) (by lia),aB,rfl,by decide,aB,rfl,by decide,aB,rfl,by decide,Vj (by decide),by lia,bw (bc (bc c b) b).2 (by lia) (by lia),aB,rfl,by decide,aB,rfl,by decide,Vj (by decide),by lia,bw (bc (bc (bc c b) b) b).2 (by lia) (by lia),aB,rfl,by decide,aB,rfl,by decide,trivial⟩⟩) f)
theorem Sk (P:Vc) {a w:Int} (c:UB a 1000) (b:0<=w) (g:w<=100) (h1:ao (fX a w 7)) (d:a≠0):∃orc S' qs,dy P a9 [] 40 (cD P) [.int a, .int w] [] orc=UX (.ints [(am (am a 3 w) 1 w),(am (ah (am a 3 w) 1 w) 1 w),(ah (ah (am a 3 w) 1 w) 1 w),(am (am (ah a 3 w) 2 w) 1 w),(ah (am (ah a 3 w) 2 w) 1 w),(am (ah (ah a 3 w) 2 w) 1 w),(ah (ah (ah a 3 w) 2 w) 1 w)],S',qs)/\ao qs/\S'.H.take 0=[]:=by refine aj (dh (Sa P a w)) λS' e f=>?_;exact(gI _ S' _ e (af.mpr ⟨h1,⟨by refine(decide_eq_false d).symm▸ ?_;rfl,by decide,aB,rfl,by decide,Vj (by decide),by lia,bw (bc c b).2 (by lia) (by lia),aB,rfl,by decide,Vj (by decide),by lia,bw (bc (iW c b) b).2 (by lia) (by lia),aB,rfl,by decide,aB,rfl,by decide,Vj (by decide),by lia,bw (bc (bc (iW c b) b) b).2 (by lia) (by lia),aB,rfl,by decide,aB,rfl,by decide,aB,rfl,by decide,Vj (by decide),by lia,bw (bc (bc c b) b).2 (by lia) (by lia),aB,rfl,by decide,Vj (by decide),by lia,bw (bc (iW (bc c b) b) b).2 (by lia) (by lia),aB,rfl,by decide,aB,rfl,by decide,aB,rfl,by decide,Vj (by decide),by lia,bw (bc (bc (bc c b) b) b).2 (by lia) (by lia),aB,rfl,by decide,aB,rfl,by decide,trivial⟩⟩) f)
theorem Sl (P:Vc) {a w:Int} (c:UB a 1000) (b:0<=w) (g:w<=100) (h1:ao (fX a w 8)) (d:a≠0):∃orc S' qs,dy P a9 [] 40 (cD P) [.int a, .int w] [] orc=UX (.ints [(am (am (am a 4 w) 2 w) 1 w),(ah (am (am a 4 w) 2 w) 1 w),(am (ah (am a 4 w) 2 w) 1 w),(ah (ah (am a 4 w) 2 w) 1 w),(am (am (ah a 4 w) 2 w) 1 w),(ah (am (ah a 4 w) 2 w) 1 w),(am (ah (ah a 4 w) 2 w) 1 w),(ah (ah (ah a 4 w) 2 w) 1 w)],S',qs)/\ao qs/\S'.H.take 0=[]:=by refine aj (dh (Sb P a w)) λS' e f=>?_;exact(gI _ S' _ e (af.mpr ⟨h1,⟨by refine(decide_eq_false d).symm▸ ?_;rfl,by decide,aB,rfl,by decide,Vj (by decide),by lia,bw (bc c b).2 (by lia) (by lia),aB,rfl,by decide,Vj (by decide),by lia,bw (bc (iW c b) b).2 (by lia) (by lia),aB,rfl,by decide,Vj (by decide),by lia,bw (bc (iW (iW c b) b) b).2 (by lia) (by lia),aB,rfl,by decide,aB,rfl,by decide,aB,rfl,by decide,Vj (by decide),by lia,bw (bc (bc (iW c b) b) b).2 (by lia) (by lia),aB,rfl,by decide,aB,rfl,by decide,aB,rfl,by decide,Vj (by decide),by lia,bw (bc (bc c b) b).2 (by lia) (by lia),aB,rfl,by decide,Vj (by decide),by lia,bw (bc (iW (bc c b) b) b).2 (by lia) (by lia),aB,rfl,by decide,aB,rfl,by decide,aB,rfl,by decide,Vj (by decide),by lia,bw (bc (bc (bc c b) b) b).2 (by lia) (by lia),aB,rfl,by decide,aB,rfl,by decide,trivial⟩⟩) f)
theorem Sm (P:Vc) {a w:Int} (c:UB a 1000) (b:0<=w) (g:w<=100) (h1:ao (fX a w 9)) (d:a≠0):∃orc S' qs,dy P a9 [] 40 (cD P) [.int a, .int w] [] orc=UX (.ints [(am (am (am a 4 w) 2 w) 1 w),(ah (am (am a 4 w) 2 w) 1 w),(am (ah (am a 4 w) 2 w) 1 w),(ah (ah (am a 4 w) 2 w) 1 w),(am (am (ah a 4 w) 2 w) 1 w),(ah (am (ah a 4 w) 2 w) 1 w),(am (ah (ah a 4 w) 2 w) 1 w),(am (ah (ah (ah a 4 w) 2 w) 1 w) 1 w),(ah (ah (ah (ah a 4 w) 2 w) 1 w) 1 w)],S',qs)/\ao qs/\S'.H.take 0=[]:=by refine aj (dh (Sc P a w)) λS' e f=>?_;exact(gI _ S' _ e (af.mpr ⟨h1,⟨by refine(decide_eq_false d).symm▸ ?_;rfl,by decide,aB,rfl,by decide,Vj (by decide),by lia,bw (bc c b).2 (by lia) (by lia),aB,rfl,by decide,Vj (by decide),by lia,bw (bc (iW c b) b).2 (by lia) (by lia),aB,rfl,by decide,Vj (by decide),by lia,bw (bc (iW (iW c b) b) b).2 (by lia) (by lia),aB,rfl,by decide,aB,rfl,by decide,aB,rfl,by decide,Vj (by decide),by lia,bw (bc (bc (iW c b) b) b).2 (by lia) (by lia),aB,rfl,by decide,aB,rfl,by decide,aB,rfl,by decide,Vj (by decide),by lia,bw (bc (bc c b) b).2 (by lia) (by lia),aB,rfl,by decide,Vj (by decide),by lia,bw (bc (iW (bc c b) b) b).2 (by lia) (by lia),aB,rfl,by decide,aB,rfl,by decide,aB,rfl,by decide,Vj (by decide),by lia,bw (bc (bc (bc c b) b) b).2 (by lia) (by lia),aB,rfl,by decide,aB,rfl,by decide,Vj (by decide),by lia,bw (bc (bc (bc (bc c b) b) b) b).2 (by lia) (by lia),aB,rfl,by decide,aB,rfl,by decide,trivial⟩⟩) f)
section
set_option linter.unusedSimpArgs false
def cV (x n k:Nat):List Int:=((Wb k).map (ji x n)).map λj:Nat=>(j:Int)
theorem mY (x n:Nat):ah x 1 n=((x / 2^(1*n):Nat):Int):=kO x 1 n
theorem mZ (x n:Nat):am x 1 n=((x % 2^(1*n):Nat):Int):=kP x 1 n
theorem m5 (x n:Nat):ah x 2 n=((x / 2^(2*n):Nat):Int):=kO x 2 n
theorem m6 (x n:Nat):am x 2 n=((x % 2^(2*n):Nat):Int):=kP x 2 n
theorem m7 (x n:Nat):ah x 3 n=((x / 2^(3*n):Nat):Int):=kO x 3 n
theorem m8 (x n:Nat):am x 3 n=((x % 2^(3*n):Nat):Int):=kP x 3 n
theorem m9 (x n:Nat):ah x 4 n=((x / 2^(4*n):Nat):Int):=kO x 4 n
theorem na (x n:Nat):am x 4 n=((x % 2^(4*n):Nat):Int):=kP x 4 n
theorem Sn (x n:Nat):([]:List Int)=cV x n 0:=rfl
theorem So (x n:Nat) (a:x < 2^(1*n)):([(x:Int)]:List Int)=cV x n 1:=by rw[cV];refine aD (fM n 4 x 1 (by decide) (by decide) a) ?_;rfl
theorem Sq (x n:Nat) (a:x < 2^(2*n)):([(am x 1 n),(ah x 1 n)]:List Int)=cV x n 2:=by rw[cV];refine aD (fM n 4 x 2 (by decide) (by decide) a) ?_;simp only[mY,m5,m7,m9,mZ,m6,m8,na];rfl
theorem Sr (x n:Nat) (a:x < 2^(3*n)):([(am x 1 n),(am (ah x 1 n) 1 n),(ah (ah x 1 n) 1 n)]:List Int)=cV x n 3:=by rw[cV];refine aD (fM n 4 x 3 (by decide) (by decide) a) ?_;simp only[mY,m5,m7,m9,mZ,m6,m8,na];rfl
theorem Ss (x n:Nat) (a:x < 2^(4*n)):([(am (am x 2 n) 1 n),(ah (am x 2 n) 1 n),(am (ah x 2 n) 1 n),(ah (ah x 2 n) 1 n)]:List Int)=cV x n 4:=by rw[cV];refine aD (fM n 4 x 4 (by decide) (by decide) a) ?_;simp only[mY,m5,m7,m9,mZ,m6,m8,na];rfl
theorem Su (x n:Nat) (a:x < 2^(5*n)):([(am (am x 2 n) 1 n),(ah (am x 2 n) 1 n),(am (ah x 2 n) 1 n),(am (ah (ah x 2 n) 1 n) 1 n),(ah (ah (ah x 2 n) 1 n) 1 n)]:List Int)=cV x n 5:=by rw[cV];refine aD (fM n 4 x 5 (by decide) (by decide) a) ?_;simp only[mY,m5,m7,m9,mZ,m6,m8,na];rfl
theorem Sv (x n:Nat) (a:x < 2^(6*n)):([(am (am x 3 n) 1 n),(am (ah (am x 3 n) 1 n) 1 n),(ah (ah (am x 3 n) 1 n) 1 n),(am (ah x 3 n) 1 n),(am (ah (ah x 3 n) 1 n) 1 n),(ah (ah (ah x 3 n) 1 n) 1 n)]:List Int)=cV x n 6:=by rw[cV];refine aD (fM n 4 x 6 (by decide) (by decide) a) ?_;simp only[mY,m5,m7,m9,mZ,m6,m8,na];rfl
theorem Sw (x n:Nat) (a:x < 2^(7*n)):([(am (am x 3 n) 1 n),(am (ah (am x 3 n) 1 n) 1 n),(ah (ah (am x 3 n) 1 n) 1 n),(am (am (ah x 3 n) 2 n) 1 n),(ah (am (ah x 3 n) 2 n) 1 n),(am (ah (ah x 3 n) 2 n) 1 n),(ah (ah (ah x 3 n) 2 n) 1 n)]:List Int)=cV x n 7:=by rw[cV];refine aD (fM n 4 x 7 (by decide) (by decide) a) ?_;simp only[mY,m5,m7,m9,mZ,m6,m8,na];rfl
theorem Sx (x n:Nat) (a:x < 2^(8*n)):([(am (am (am x 4 n) 2 n) 1 n),(ah (am (am x 4 n) 2 n) 1 n),(am (ah (am x 4 n) 2 n) 1 n),(ah (ah (am x 4 n) 2 n) 1 n),(am (am (ah x 4 n) 2 n) 1 n),(ah (am (ah x 4 n) 2 n) 1 n),(am (ah (ah x 4 n) 2 n) 1 n),(ah (ah (ah x 4 n) 2 n) 1 n)]:List Int)=cV x n 8:=by rw[cV];refine aD (fM n 4 x 8 (by decide) (by decide) a) ?_;simp only[mY,m5,m7,m9,mZ,m6,m8,na];rfl
theorem Sy (x n:Nat) (a:x < 2^(9*n)):([(am (am (am x 4 n) 2 n) 1 n),(ah (am (am x 4 n) 2 n) 1 n),(am (ah (am x 4 n) 2 n) 1 n),(ah (ah (am x 4 n) 2 n) 1 n),(am (am (ah x 4 n) 2 n) 1 n),(ah (am (ah x 4 n) 2 n) 1 n),(am (ah (ah x 4 n) 2 n) 1 n),(am (ah (ah (ah x 4 n) 2 n) 1 n) 1 n),(ah (ah (ah (ah x 4 n) 2 n) 1 n) 1 n)]:List Int)=cV x n 9:=by rw[cV];refine aD (fM n 4 x 9 (by decide) (by decide) a) ?_;simp only[mY,m5,m7,m9,mZ,m6,m8,na];rfl
theorem fm {x n:Nat} (c:0 < n) (h:cP x n=k):x < 2^(k*n):=by
 unfold cP at h;have h0:(0:Int) < n:=Int.ofNat_le.mpr c;rw[Wl _ (Wy h0)] at h;have d:((U7 x:Nat):Int)<=k*n:=by have:=Int.lt_ediv_add_one_mul_self ((U7 x:Int)+n - 1) h0;rw[h] at this;rw[ZU,ZT] at this;lia
 have a:U7 x<=k*n:=by exact_mod_cast d
 unfold U7 at a;by_cases b:x=0
 ·refine ac b ?_;exact Xv _
 ·rw[if_neg (by simpa using b)] at a;exact(abP b).mp ((by simpa using a:x.log2+1<=k*n))
abbrev A6 (k:Nat):Sp:=fW (X:=Int×Int) (λvs=>(bU (nV vs 0),bU (nV vs 1))) (λx=>[.int x.1, .int x.2]) (λx=> .ints (cV x.1.toNat x.2.toNat k)) λx=>0<=x.1/\1<=x.2/\x.2<=100/\x.1.natAbs < 2^1000/\cP x.1 x.2=k/\k < 10
theorem Gl (J:VB) (w:V6) {L:Nat} (k:aP 7 A) (o:cI g) (f:f9 Z rZ 64) (c:aI ((Wz J w).cx g os) (be a9 [] gl (cD w.params N) (λa=>br) L) Z U) (i:cp ((Wz J w).cx g os) A (aZ w.params [] bZ ce gl N 6)):
  eh ((Wz J w).cx g os) A (be a9 [] gl (cD w.params N) (λa=>br) L) Z fz U:=by
 refine⟨λn st m e=>?_,λa a a e=>nomatch e⟩
 have b:(match VC n 84 with
  |true=>UX (aw a9.body 0,A3 (Gz w.params [] 6 N {names:=a9.scope.names,cells:=[]++gR (L+1) a9.cn,fid:=L,glob:=gl,trim:=a9.trim}) (aw a9.body 0))
  |false=>qY 86 M6 (aw a9.body 1) N {names:=a9.scope.names,cells:=[]++gR (L+1) a9.cn,fid:=L,glob:=gl,trim:=a9.trim} n)=UX (st,m):=e
 induction d:VC n 84 with
 |true=>simp only[d] at b;obtain⟨rfl,rfl⟩:=o4 b;exact C3 (C:={names:=a9.scope.names,cells:=[]++gR (L+1) a9.cn,fid:=L,glob:=gl,trim:=a9.trim}) ⟨{c with},⟨λa a a h=>(nomatch h),λa a a h=>(nomatch h)⟩⟩ (d5 i N _ Z) _
 |false=>simp only[d] at b;exact(pD (T:=a9) (L:=L) (l:=86) (N:=N) (λC j=>by refine ac j ?_;exact pC (T:=tI 63 59 86 4 "_int2digits.<locals>.inner") f {c with} (by simp[oR]) (by rfl') (by rfl') rfl (by rfl') (by decide) (by decide) (by decide) (by rfl') (.inr (by rfl')) rfl (by rfl') (by rfl') (by rfl') (by rfl') (λZ=>by rfl') (by rfl'))).s n st m b
theorem Ks {n:Nat} (a:0 < n):cP (0:Nat) n=0:=by unfold cP U7;refine ac (if_pos (by rfl)) (ac (Wl _ (Vr _)) ?_);exact Int.ediv_eq_zero_of_lt (by lia) (by lia)
theorem oU:∀k:Nat,rep k [(0:Int)]=Wa k 0
 |0=>rfl
 |k+1=>ac adj (aD (oU k) rfl)
theorem C5 (J:VB) (w:V6) (k:Nat):aX (Wz J w) 8 64 (A6 k):=
 dq (X:=Int×Int) (lev:=0) (k:=6) (T:=a9) (Tb:=[]) (defs:=[]) (spS:=cD w.params) (spE:=λb b=>br) MU rfl rfl (λb h=>nomatch h) (c8 MU) (λb b b b b=>trivial) (λb b b b b b b b y z A B C=>Gl J w z y B C A) λx t=>by
  obtain⟨a,v⟩:=x;refine yd t λp q f u c r=>?_;clear t;dsimp only at p q f u c;obtain⟨x,rfl⟩:∃x:Nat,a=x:=⟨a.toNat,(VP p).symm⟩
  obtain⟨n,rfl⟩:∃n:Nat,v=n:=⟨v.toNat,(VP (VN (by decide) q)).symm⟩
  have g:0 < n:=Int.ofNat_le.mp q;have l:UB x 1000:=⟨p,u⟩
  have h0:(0:Int)<=n:=Vr _;have m:∀j:Nat,cP x n=j->ao (fX x n j):=λj D=>⟨rfl,by decide,⟨by lia,Vn (Int.ofNat_le.mp f) (by decide)⟩,⟨ac c (Vr _),by refine ac c ?_;lia,by refine ac c (ac VO ?_);lia⟩,ac D (oU j),rfl,trivial⟩
  refine(?_:∃N i o,bD 0 (bnd (aR a9 gl (cD w.params N) (λb=>br) (Gz w.params [] 6 N) [] [.int x, .int n]) (λv=>cj w.params 9 v) ⟨[],i⟩)=UX (.ints (cV (x:Int).toNat (n:Int).toNat k),[],o)/\ao o/\dp []=UZ);rw[Vz,Vz];have d:k≠0->(x:Int)≠0:=λE e=>by
   obtain rfl:x=0:=by lia
   have:=c.symm.trans (Ks g);lia
  have all:lH (λk=>cP x n=k->(k≠0->(x:Int)≠0)->∃i s o,dy w.params a9 [] 40 (cD w.params) [.int x, .int n] [] i=UX (.ints (cV x n k),s,o)/\ao o/\s.H.take 0=[]) 10:=
   ⟨⟨⟨⟨⟨⟨⟨⟨⟨⟨trivial,λc b=>Sn x n▸Sd w.params l h0 f (m 0 c) (by have:=fm g c;rw[ZC] at this;lia)⟩,
    λc d=>So x n (fm g c)▸Se w.params l h0 f (m 1 c) (d (by decide))⟩,λc d=>Sq x n (fm g c)▸Sf w.params l h0 f (m 2 c) (d (by decide))⟩,
    λc d=>Sr x n (fm g c)▸Sg w.params l h0 f (m 3 c) (d (by decide))⟩,λc d=>Ss x n (fm g c)▸Sh w.params l h0 f (m 4 c) (d (by decide))⟩,
    λc d=>Su x n (fm g c)▸Si w.params l h0 f (m 5 c) (d (by decide))⟩,λc d=>Sv x n (fm g c)▸Sj w.params l h0 f (m 6 c) (d (by decide))⟩,
    λc d=>Sw x n (fm g c)▸Sk w.params l h0 f (m 7 c) (d (by decide))⟩,λc d=>Sx x n (fm g c)▸Sl w.params l h0 f (m 8 c) (d (by decide))⟩,
    λc d=>Sy x n (fm g c)▸Sm w.params l h0 f (m 9 c) (d (by decide))⟩
  obtain⟨i,s,o,F,G,_⟩:=all.get r c d;exact⟨40,i,o,congrArg (bD 0) F,G,rfl⟩
end
def aQ (n:Int) (L:List Int):Nat->Vd
 |0=>WN (toString n)
 |j+1=>Wt (aQ n L j) UY (UX (-(ay 0 L j)))
noncomputable def fG (n:Int) (L:List Int):Nat->List Vd
 |0=>[]
 |j+1=>Wt (aQ n L j) (UX (-(ay 0 L j))) UY::fG n L j
def M9 (n:Int) (L:List Int) (g:Nat):Vd:=WA "_" (aQ n L g::fG n L g)
def P1 (n:Int) (L:List Int) (j:Nat):List Prop:=[UZ=UZ,(aQ n L j).length < 2^62,decide (((aQ n L j).length:Int)<=ay 0 L j)=U0,(aQ n L j).length<=Vb,(1:Nat)<=Vb,j+1<=Vb,(aQ n L j).length<=Vb]
def Gn (n:Int) (L:List Int):Nat->List Prop
 |0=>[]
 |g+1=>Gn n L g++P1 n L g
noncomputable def Sz (n:Int) (L:List Int) (g:Nat):List Prop:=[(1:Nat)<=Vb,g+1<=Vb,acP "_" (aQ n L g::fG n L g)=UZ]
def SD (n:Int) (L:List Int) (g:Nat):List Prop:=[UZ=UZ,(aQ n L g).length < 2^62,decide (((aQ n L g).length:Int)<=ay 0 L g)=UZ]
noncomputable def SG (n:Int):List Prop:=[n.natAbs.log2 < 1920,(0:Nat)<=Vb]
noncomputable def SH (g:Nat) (b:Bool):List Bool:=((Wb g).flatMap λa=>[UZ,U0])++[b,b]
def Na (n:Int) (L:List Int) (g:Nat):List Prop:=SG n++(Gn n L g++((match Yj g L.length with|true=>SD n L g|false=>[U0=U0])++Sz n L g))
abbrev C6 (P:Vc) (n:Int) (L:List Int) (g:Nat):Prop:=bD 0 (lG P AO [] 60 [.int n, .dat (.ints L)] [] (SH g (Yj g L.length)))=UX (.str (M9 n L g),[],Na n L g)
theorem SI (P:Vc) (n a b:Int):lH (C6 P n [a,b]) 3:=⟨⟨⟨trivial,by rfl'⟩,by rfl'⟩,by rfl'⟩
theorem SJ (P:Vc) (n a b c d e f g:Int):lH (C6 P n [a,b,c,d,e,f,g]) 6:=⟨⟨⟨⟨⟨⟨trivial,by rfl'⟩,by rfl'⟩,by rfl'⟩,by rfl'⟩,by rfl'⟩,by rfl'⟩
structure Ix (n:Int) (L:List Int) (g:Nat):Prop where
 log:n.natAbs.log2 < 1920
 go:∀j,j < g->ay 0 L j < (aQ n L j).length
 stop:g < L.length->((aQ n L g).length:Int)<=ay 0 L g
 le:g<=L.length
 len:∀j,(aQ n L j).length<=1000
 join:acP "_" (aQ n L g::fG n L g)=UZ
theorem yT {n:Int} {L:List Int} (hl:∀j,(aQ n L j).length<=1000):∀g,g<=1000->(∀j,j < g->ay 0 L j < (aQ n L j).length)->ao (Gn n L g)
 |0,_,_=>trivial
 |g+1,b,h=>by have a:=hl g;refine af.mpr ⟨yT hl g (WB b) λj c=>h j (Xx c),⟨rfl,Vn a (by decide),decide_eq_false (by have:=h g (Vt _);exact Int.not_le.mpr this),iO a rfl,by decide,iO b rfl,iO a rfl,trivial⟩⟩
theorem tq {n:Int} {L:List Int} {g:Nat} (h:Ix n L g) (a:g<=1000):ao (Na n L g):=by
 refine af.mpr ⟨⟨h.log,by decide,trivial⟩,af.mpr ⟨yT h.len g a h.go,af.mpr ⟨?_,⟨by decide,(VO).symm▸(Vn a (by decide)),h.join,trivial⟩⟩⟩⟩;induction b:Yj g L.length with
 |true=>exact⟨rfl,Vn (h.len g) (by decide),decide_eq_true (h.stop (Wf b)),trivial⟩
 |false=>exact⟨rfl,trivial⟩
noncomputable def nf:Int->List Int->Nat
 |_,[]=>0
 |k,s::r=>if k<=s then 0 else nf (k - s) r+1
noncomputable def el (n:Int) (L:List Int):Nat:=nf (WN (toString n)).length L
def bN (n:Int) (L:List Int):Vd:=M9 n L (el n L)
def sg (n:Int) (L:List Int):Prop:=Ix n L (el n L)/\(L.length=2∨L.length=7/\el n L < 6)
abbrev wf:Sp:=fW (X:=Int×List Int) (λvs=>(bU (nV vs 0),cr (nV vs 1))) (λx=>[.int x.1, .dat (.ints x.2)]) (λx=> .str (bN x.1 x.2)) λx=>sg x.1 x.2
theorem yU (J:VB) (w:V6):aX (Wz J w) 4 272 wf:=qU Ik rfl rfl rfl (c8 Ik) λx k=>by
 obtain⟨n,L⟩:=x;obtain⟨i,j|⟨j,l⟩⟩:=k
 ·refine p9 (uw j) λa b h=>?_;subst h;exact(bL _ _ ((SI w.params n a b).get (XZ i.le)) (tq i (U3 i.le (by show 2<=1000;decide))))
 ·refine uM (Iv j) λa b c d e f g h=>?_;subst h;exact(bL _ _ ((SJ w.params n a b c d e f g).get l) (tq i (U3 i.le (by show 7<=1000;decide))))
noncomputable def qZ (s:Vd):Nat->Int
 |0=>(s.length:Int) - 1
 |k+1=>qZ s k - 1
noncomputable def wg (s:Vd) (j k:Nat):Vd:=Wt s (UX (j:Int)) (UX (qZ s k+1))
def Iy (s:Vd) (i:Int) (b:Bool):List Prop:=[UZ=UZ,abf i=UZ/\(Xz s i).isSome=UZ,sq (X7 s i) " "=b]
noncomputable def Go (s:Vd):Nat->List Prop
 |0=>[]
 |j+1=>Go s j++(Iy s j UZ++[UZ=UZ])
noncomputable def Gp (s:Vd):Nat->List Prop
 |0=>[]
 |k+1=>Gp s k++(Iy s (qZ s k) UZ++[UZ=UZ])
noncomputable def A7 (s:Vd) (i:Int):Nat->List Prop
 |0=>[U0=U0,U0=U0]
 |_+1=>Iy s i U0++[U0=U0]
def C7 (s:Vd) (a j k:Nat):List Prop:=Go s j++(A7 s j (a - j)++([s.length < 2^62]++(Gp s k++(A7 s (qZ s k) (a - j - k)++[s.length<=Vb]))))
noncomputable def Nb (n:Nat):List Bool:=(Wb n).flatMap λa=>[UZ,UZ,UZ]
noncomputable def Nc:Nat->List Bool
 |0=>[U0,U0]
 |_+1=>[UZ,U0,U0]
abbrev wh (P:Vc) (s:Vd) (a j k:Nat):Prop:=bD 0 (lG P F8 [] 60 [.str s, .int a] [] (Nb j++(Nc (a - j)++(Nb k++Nc (a - j - k)))))=UX (.str (wg s j k),[],C7 s a j k)
theorem C8 (P:Vc) (s:Vd):lH (λa=>lH (λj=>lH (λk=>wh P s a j k) (a+1 - j)) (a+1)) 5:=by
 repeat' (first|exact trivial|refine And.intro ?_ ?_|rfl')
def lI (s:Vd) (i:Int) (b:Bool):Prop:=abf i=UZ/\(Xz s i).isSome=UZ/\sq (X7 s i) " "=b
structure iD (s:Vd) (a j k:Nat):Prop where
 le:j+k<=a
 a4:a<=4
 len:s.length<=1000
 lft:∀i,i < j->lI s i UZ
 ls:j < a->lI s j U0
 rgt:∀i,i < k->lI s (qZ s i) UZ
 rs:j+k < a->lI s (qZ s k) U0
theorem wi {s:Vd} {i:Int} (h:lI s i b):ao (Iy s i b):=⟨rfl,⟨h.1,h.2.1⟩,h.2.2,trivial⟩
theorem yV {s:Vd}:∀{j:Nat},(∀i,i < j->lI s i UZ)->ao (Go s j)
 |0,_=>trivial
 |j+1,h=>af.mpr ⟨yV λi a=>h i (Xx a),af.mpr ⟨wi (h j (Vt _)),rfl,trivial⟩⟩
theorem yW {s:Vd}:∀{j:Nat},(∀i,i < j->lI s (qZ s i) UZ)->ao (Gp s j)
 |0,_=>trivial
 |j+1,h=>af.mpr ⟨yW λi a=>h i (Xx a),af.mpr ⟨wi (h j (Vt _)),rfl,trivial⟩⟩
theorem wj {s:Vd} {i:Int}:∀{n:Nat},(0 < n->lI s i U0)->ao (A7 s i n)
 |0,_=>⟨rfl,rfl,trivial⟩
 |n+1,h=>af.mpr ⟨wi (h (Wx _)),rfl,trivial⟩
theorem C9 {s:Vd} {a:Nat} (h:iD s a j k):ao (C7 s a j k):=by have c:=h.len;exact af.mpr ⟨yV h.lft,af.mpr ⟨wj λb=>h.ls (Nat.sub_pos_iff_lt.mp b),af.mpr ⟨⟨Vn c (by decide),trivial⟩,af.mpr ⟨yW h.rgt,af.mpr ⟨wj λb=>h.rs (Nat.sub_pos_iff_lt.mp (Nat.sub_sub _ _ _▸b)),iO c rfl,trivial⟩⟩⟩⟩⟩
noncomputable def al (s:Vd):List Nat:=s.cps.toList
noncomputable def lJ:List Nat->Nat
 |[]=>0
 |c::r=>if c=32 then lJ r+1 else 0
noncomputable def mc (s:Vd) (b:Int):Nat:=min b.toNat (lJ (al s))
def me (s:Vd) (b:Int):Nat:=min (b.toNat - mc s b) (lJ (al s).reverse)
def d8 (s:Vd) (b:Int):Vd:=wg s (mc s b) (me s b)
abbrev wk:Sp:=fW (X:=Vd×Int) (λvs=>(gC (nV vs 0),bU (nV vs 1))) (λx=>[.str x.1, .int x.2]) (λx=> .str (d8 x.1 x.2)) λx=>0<=x.2/\iD x.1 x.2.toNat (mc x.1 x.2) (me x.1 x.2)
theorem Da (J:VB) (w:V6):aX (Wz J w) 4 35 wk:=qU MR rfl rfl rfl (c8 MR) λx c=>by obtain⟨s,b⟩:=x;obtain⟨h0,h⟩:=c;have r:=(((C8 w.params s).get (XZ h.a4)).get (XZ (U3 (Vo _ _) h.le))).get (j:=me s b) (by have a:mc s b+me s b<=b.toNat:=h.le;show me s b < b.toNat+1 - mc s b;exact Zg (XZ (U3 (Vg (Wk _ _)) a)));rw[wh,show((b.toNat:Nat):Int)=b from VP h0] at r;exact(bL _ _ r (C9 h))
def Nd:Vv:=match aw gB.body 2 with
 | .Assign _ e _=>e
 |_=> .Name "" ⟨0,0,0,0⟩
def yX:XQ×XQ×Nat:=match Nd with
 | .Set [.Name _ p] k q=>(p,q,k)
 |_=>(⟨0,0,0,0⟩,⟨0,0,0,0⟩,0)
def uy:Nat->Ec->Nat->Option (Vv×M V):=λa C n=>match VC n 32009012 with
 |true=>UX (.Set [.Name "w" yX.1] yX.2.2 yX.2.1,FU C "w")
 |false=>UY
theorem Gq (J:VB) (w:V6) {L:Nat} (d:f9 Z rY 43) (f:aI ((Wz J w).cx g os) (be gB [] gl (λa=>bk) (uy N) L) Z U):
  eh ((Wz J w).cx g os) A (be gB [] gl (λa=>bk) (uy N) L) Z fz U:=by
 refine⟨λa a a e=>(nomatch e),λn st m e=>?_⟩
 have b:(match VC n 32009012 with
  |true=>UX (Expr.Set [.Name "w" yX.1] yX.2.2 yX.2.1,FU {names:=gB.scope.names,cells:=[]++gR (L+1) gB.cn,fid:=L,glob:=gl,trim:=gB.trim} "w")
  |false=>UY)=UX (st,m):=e
 induction c:VC n 32009012 with
 |true=>simp only[c] at b;obtain⟨rfl,rfl⟩:=o4 b;exact FX (C:={names:=gB.scope.names,cells:=[]++gR (L+1) gB.cn,fid:=L,glob:=gl,trim:=gB.trim}) {f with} (by decide+kernel) (by rfl') (λh a=>by refine(d.code).symm▸ ?_;rfl')
 |false=>simp only[c] at b;exact nn b
theorem P2:nH (aF P) rY gB [.bool U0]:=λs f g h=>by
 have i:f.length=3:=by have:(f++[adm U0]).length=4:=h.trans (show gB.params.length=4 by rfl');simpa using this
 refine ky (pv i) λa b c d=>(ac d ?_)
 exact W.kp_binds (K:=aF P) (λb o e=>g (b,o) (cA e)) λS=>by rfl'
theorem Nf (P:Vc) (w:Int):bD 0 (bnd (aR gB gl (λa=>bk) (uy 60) (Gz P [] 2 60) [] [.int w, .int 5, .int 2048, .bool U0]) (λv=>cj P 9 v) ⟨[],[UZ,U0,UZ,UZ,U0,UZ]⟩)=
  UX (.dict P [],[],[Nd=Nd,(0:Int) < 2^62,UZ=UZ,U0=U0,decide (w<=2048)=UZ,UZ=UZ,U0=U0,UZ=UZ]):=by rfl'
abbrev Ng (P:Vc):Sp:=fW (X:=Int) (λvs=>bU (nV vs 0)) (λw=>[.int w, .int 5, .int 2048]) (λa=> .dict P []) λw=>w<=2048
theorem P3 (J:VB) (w:V6):aX (Wz J w) 4 43 (Ng w.params):=
 dq (X:=Int) (lev:=0) (k:=2) (T:=gB) (Tb:=[]) (defs:=[.bool U0]) (spS:=λa a=>bk) (spE:=uy) RP rfl rfl (λa h=>nomatch h) P2 (λa a a a a=>trivial) (λa a a a a a a a a a a b c=>Gq J w b c) λv d=>
  ⟨60,_,_,Nf w.params v,⟨rfl,by decide,rfl,rfl,decide_eq_true d,rfl,rfl,rfl,trivial⟩,rfl⟩
theorem bW {keep:List Bool} (b:(aF w.params).lookup f=UX (fO fd)) (h:aX (Wz J w) lev f sp) (c:cI g) (d:aP lev A):
  (∃a,(f,a)∈((Wz J w).cx g os).KK/\((∃fd,a.data= .func fd)∨((∃cd,a.data= .cls cd)/\ab9 ((Wz J w).cx g os).KK (.ref f) "__call__"=UX (UX (.builtin "type.__call__")))))/\∀fz U vs xs,av fz U vs xs->eS ((Wz J w).cx g os) A fz U (dY w.params keep sp vs) (.call (.ref f) ⟨xs,[]⟩):=
 ⟨(aA (fO fd) (cA b) (.inl ⟨fd,rfl⟩)),λfz U vs xs e=>EB (W:=Wz J w) h c d e⟩
noncomputable def Rh:Vd:="_str_to_int_inner.<locals>.inner"
def Nh:oG:=fc Rh (aw kj.body 1)
def uz:=qY 73 Rh (aw kj.body 1)
def Ni (P:Vc):bC:=[(43,dY P [U0,U0,U0] (Ng P))]
theorem P4:az Nh where
 bind:=λe f h i m j=>by
  refine p9 (AH (j.trans (show(eE Nh).params.length=2 by rfl'))) λa b c=>(ac c ?_)
  obtain⟨n,o,p,b,q,g,r,d,k,l,s,t,co,u,v⟩:=e;cases f;cases h;cases i;rfl'
 nc:=eV (by rfl')
 kinds:=jv (by rfl')
 co:=by rfl'
 gen:=by rfl'
 kind:=by rfl'
noncomputable def hO (s:Vd):Vd:=Wt s (UX 0) (UX (s.length:Int))
noncomputable def iE (s:Vd):Int:=(Y6 (hO s)).getD 0
theorem Kt (P:Vc) (s:Vd):bD 0 (dy P kj (Ni P) 40 uz [.str s] [] [UZ])=UX (.int (iE s),[],
  [aw kj.body 1=aw kj.body 1,s.length < 2^62,[V.int s.length, .int 5, .int 2048]=[V.int s.length, .int 5, .int 2048]/\([]:List O)=[]/\(s.length:Int)<=2048,s.length < 2^62,az Nh,decide ((s.length:Int) - 0<=2048)=UZ,s.length<=Vb,Y6 (hO s)=UX (iE s)/\(hO s).length<=640]):=by rfl'
abbrev Iz:Sp:=fW (X:=Vd) (λvs=>gC (nV vs 0)) (λs=>[.str s]) (λs=> .int (iE s)) λs=>s.length<=600/\Y6 (hO s)=UX (iE s)/\(hO s).length<=640
theorem Gr (J:VB) (w:V6) {L:Nat} (b:f9 Z vZ 50) (c:aI ((Wz J w).cx g os) (be kj [] gl (uz N) (λa=>br) L) Z U):
  eh ((Wz J w).cx g os) A (be kj [] gl (uz N) (λa=>br) L) Z fz U:=
 pD λC d=>by exact ac d (pC (T:=tI 49 45 73 4 "_str_to_int_inner.<locals>.inner") b {c with} (by simp[oR]) (by rfl') (by rfl') rfl (by rfl') (by decide) (by decide) (by decide) (by rfl') (.inr (by rfl')) rfl (by rfl') (by rfl') (by rfl') (by rfl') (λZ=>by rfl') (by rfl'))
theorem Nj (J:VB) (w:V6):aX (Wz J w) 12 50 Iz:=
 dq (X:=Vd) (lev:=4) (k:=6) (T:=kj) (Tb:=Ni w.params) (defs:=[]) (spS:=uz) (spE:=λa a=>br) MS rfl rfl (λa h=>nomatch h) (c8 MS) (λa a a c d=>⟨bW (fd:=rY) (by rfl') (P3 J w) c d,trivial⟩) (λa a a a a a a a a a a e f=>Gr J w e f) λs g=>
  b9 g λb i j=>⟨40,_,_,Kt w.params s,⟨rfl,Vn b (by decide),⟨rfl,rfl,Int.ofNat_le.mpr (U3 b (by decide))⟩,Vn b (by decide),P4,decide_eq_true (Int.ofNat_le.mpr (U3 b (by decide))),iO b rfl,⟨i,j⟩,trivial⟩,rfl⟩
def tu:Vv:=aU (aw jJ.body 0)
def Nk:Vv:= .Call (.Attribute (cm (cm tu)) "replace" (dK (cm tu))) [.Constant (.str "_") 0 (dK (ay xz (kz tu) 0)), .Constant (.str "") 0 (dK (ay xz (kz tu) 1))] [] (dK tu)
def IB (P:Vc) (Tb:bC):Nat->Ec->Nat->Option (Vv×M V):=λN C n=>match VC n 81008035 with
 |true=>UX (Nk,Au (Gz P Tb 2 N {C with spS:=bk,spE:=br}) (cm (cm tu)) "_" "")
 |false=>UY
def wm (P:Vc):bC:=[(50,dY P [U0] Iz)]
noncomputable def cu (s:Vd):Vd:=abO (X9 s) "_" ""
theorem Ku (P:Vc) (s:Vd):bD 0 (bnd (aR jJ gl (λa=>bk) (IB P (wm P) 40) (Gz P (wm P) 2 40) [] [.str s]) (λv=>cj P 9 v) ⟨[],[]⟩)=UX (.int (iE (cu s)),[],
  [tu=Nk,s.length<=Vb,(X9 s).length<=1048576,[V.str (cu s)]=[V.str (cu s)]/\([]:List O)=[]/\(cu s).length<=600/\Y6 (hO (cu s))=UX (iE (cu s))/\(hO (cu s)).length<=640]):=by rfl'
abbrev IC:Sp:=fW (X:=Vd) (λvs=>gC (nV vs 0)) (λs=>[.str s]) (λs=> .int (iE (cu s))) λs=>s.length<=1000/\(X9 s).length<=1000/\(cu s).length<=600/\Y6 (hO (cu s))=UX (iE (cu s))/\(hO (cu s)).length<=640
theorem Nl (J:VB) (w:V6):aX (Wz J w) 16 57 IC:=
 dq (X:=Vd) (lev:=12) (k:=2) (T:=jJ) (Tb:=wm w.params) (defs:=[]) (spS:=λa a=>bk) (spE:=IB w.params (wm w.params)) MT rfl rfl (λa h=>nomatch h) (c8 MT) (λa a a c d=>⟨bW (fd:=vZ) (by rfl') (Nj J w) c d,trivial⟩) (λN g os A L Z r U c d i t j=>by
  refine⟨λa a a e=>(nomatch e),λn st m e=>?_⟩;have b:(match VC n 81008035 with
   |true=>UX (Nk,Au (Gz w.params (wm w.params) 2 N {names:=jJ.scope.names,cells:=[]++gR (L+1) jJ.cn,fid:=L,glob:=gl,trim:=jJ.trim}) (cm (cm tu)) "_" "")
   |false=>UY)=UX (st,m):=e
  induction f:VC n 81008035 with
  |true=>simp only[f] at b;obtain⟨rfl,rfl⟩:=o4 b;exact F1 (C:={names:=jJ.scope.names,cells:=[]++gR (L+1) jJ.cn,fid:=L,glob:=gl,trim:=jJ.trim}) ⟨{j with},⟨λa a a h=>(nomatch h),λa a a h=>(nomatch h)⟩⟩ (d5 i N _ Z) (by rfl') (by rfl') (by decide+kernel) (by decide+kernel)
  |false=>simp only[f] at b;cases b) λs l=>
  b9 l λo p q=>⟨40,_,_,Ku w.params s,⟨by rfl',iO o rfl,U3 p (by decide),⟨rfl,rfl,q⟩,trivial⟩,rfl⟩
def kQ (a x:Vd):Prop:=(decide ((1:Int) < -(2^63:Int))||decide ((1:Int)≥2^63))=U0/\(decide (x.length < abc "=")||decide (Xr x < Xr "="))=U0/\(abc "="==0)=U0/\(Yh x "=" 0 x.length (limitOf x 1)).isEmpty=U0/\
 x.length<=Vb/\abo x (Yh x "=" 0 x.length (limitOf x 1)) (abc "=")=[a,Wt x (UX (a.length+abc "=":Nat)) UY]
noncomputable def cQ (x:Vd):Vd:=Wt x (UX 2) UY
noncomputable def A8 (x:Vd):Bool->Vd
 |true=>Wt (cQ x) (UX 1) (UX (-1))
 |false=>cQ x
def A9 (s:Vd) (i:Int) (b:Bool):List Prop:=[abf i=UZ/\(Xz s i).isSome=UZ,sq (X7 s i) "\""=b]
def Ba (a x:Vd) (j:Nat):Bool->List Prop
 |true=>kQ a x::(A9 (cQ x) 0 UZ++(A9 (cQ x) (-1) UZ++[UZ=UZ,(cQ x).length<=Vb,j<=1000]))
 |false=>kQ a x::(A9 (cQ x) 0 U0++[U0=U0,j<=1000])
def P5 (P:Vc) (x y z:Vd) (p q r:Bool):D:= .dict P [("a", .str (A8 x p)),("b", .str (A8 y q)),("c", .str (A8 z r))]
noncomputable def Gs (j:Nat) (q:Bool):List Bool:=Wa j U0++(UZ::(match q with|true=>[UZ,UZ,UZ]|false=>[U0,U0]))
theorem Gu (P:Vc) (x y z:Vd) (p q r:Bool):bD 0 (lG P AN [] 60 [.dat (.list [.str x, .str y, .str z])] [] (Gs 0 p++(Gs 1 q++Gs 2 r)))=UX (P5 P x y z p q r,[],Ba "a" x 0 p++(Ba "b" y 1 q++Ba "c" z 2 r)):=by cases p<;>cases q<;>cases r<;>rfl'
structure jq (a x:Vd) (q:Bool):Prop where
 sp:kQ a x
 len:(cQ x).length<=1000
 c0:(Xz (cQ x) 0).isSome=UZ
 q0:sq (X7 (cQ x) 0) "\""=q
 c1:q=UZ->(Xz (cQ x) (-1)).isSome=UZ/\sq (X7 (cQ x) (-1)) "\""=UZ
theorem sh {a x:Vd} {q:Bool} (h:jq a x q) (b:j<=1000):ao (Ba a x j q):=by
 have f:=h.len;have c:=h.q0;induction q with
 |true=>obtain⟨d,e⟩:=h.c1 rfl;exact⟨h.sp,⟨by decide,h.c0⟩,c,⟨by decide,d⟩,e,rfl,by refine(VO).symm▸ ?_;lia,b,trivial⟩
 |false=>exact⟨h.sp,⟨by decide,h.c0⟩,c,rfl,b,trivial⟩
def jL (x:Vd):Bool:=sq (X7 (cQ x) 0) "\""
def pE (x:Vd):Vd:=A8 x (jL x)
noncomputable def Bb:V->List D
 | .dat (.list l)=>l
 |_=>[]
noncomputable def Bc:D->Vd
 | .str s=>s
 |_=>""
abbrev yY (P:Vc):Sp:=fW (X:=Vd×Vd×Vd) (λvs=>(Bc (ay .none (Bb (nV vs 0)) 0),Bc (ay .none (Bb (nV vs 0)) 1),Bc (ay .none (Bb (nV vs 0)) 2))) (λx=>[.dat (.list [.str x.1, .str x.2.1, .str x.2.2])])
 (λx=> .dict P [("a", .str (pE x.1)),("b", .str (pE x.2.1)),("c", .str (pE x.2.2))]) λx=>jq "a" x.1 (jL x.1)/\jq "b" x.2.1 (jL x.2.1)/\jq "c" x.2.2 (jL x.2.2)
theorem Gv (J:VB) (w:V6):aX (Wz J w) 4 239 (yY w.params):=qU Ie rfl rfl rfl (c8 Ie) λx a=>(bL _ _ (Gu w.params x.1 x.2.1 x.2.2 _ _ _) (af.mpr ⟨sh a.1 (by decide),af.mpr ⟨sh a.2.1 (by decide),sh a.2.2 (by decide)⟩⟩))
section
structure HS where
 e:Bool
 q:Bool
 part:Vd
 xs:List Vd
def hU (c:Vd) (h:HS):HS:=match h.e,h.q with
 |true,q=>⟨U0,q,h.part++c,h.xs⟩
 |false,UZ=>match sq c "\\" with
  |true=>⟨UZ,UZ,h.part,h.xs⟩
  |false=>match sq c "\"" with
   |true=>⟨U0,U0,h.part++c,h.xs⟩
   |false=>⟨U0,UZ,h.part++c,h.xs⟩
 |false,U0=>match sq c "," with
  |true=>⟨U0,U0,"",h.xs++[h.part]⟩
  |false=>match sq c "\"" with
   |true=>⟨U0,UZ,h.part++c,h.xs⟩
   |false=>⟨U0,U0,h.part++c,h.xs⟩
def Gw (c:Vd) (h:HS):List Bool:=match h.e,h.q with
 |true,_=>[UZ]
 |false,UZ=>match sq c "\\" with
  |true=>[U0,UZ,UZ]
  |false=>match sq c "\"" with
   |true=>[U0,UZ,U0,UZ]
   |false=>[U0,UZ,U0,U0]
 |false,U0=>match sq c "," with
  |true=>[U0,U0,UZ]
  |false=>match sq c "\"" with
   |true=>[U0,U0,U0,UZ]
   |false=>[U0,U0,U0,U0]
def yZ:V4:=aw dv.body 3
def tv:Ec:=be dv [] gl (λa=>bk) (λa=>br) 0
noncomputable def Gx:Option Vd->List (Vd×V)
 |none=>[]
 |some c=>[("cur", .str c)]
noncomputable def fR (s:Vd) (h:HS) (c:Option Vd) (it:O):List O:=[.frame (("s", .str s)::("res", .ref 1)::("part", .str h.part)::("escape", .bool h.e)::("quote", .bool h.q)::Gx c), .list (h.xs.map V.str),it]
abbrev jr (P:Vc) (N n:Nat) (S:St):Option (Option Fl×St×List Prop):=gZ tv (aZ P [] bZ ce gl N 2) (aE (aZ P [] bZ ce gl N 2) (n+12) tv) (aU yZ) 2 (cL yZ) (mu yZ) S
section
variable (P:Vc) (s part:Vd) (xs:List Vd) (c:Option Vd) (i n N:Nat) (orc:List Bool)
theorem SL (q:Bool):jr P N n ⟨fR s ⟨UZ,q,part,xs⟩ c (.strIt s i),UZ::UZ::orc⟩=UX (UY,⟨fR s ⟨U0,q,part++cz s i,xs⟩ (UX (cz s i)) (.strIt s (i+1)),orc⟩,[decide (i < s.length)=UZ,UZ=UZ,part.length+1<=Vb]):=by cases c<;>rfl'
theorem SM:jr P N n ⟨fR s ⟨U0,UZ,part,xs⟩ c (.strIt s i),UZ::U0::UZ::UZ::orc⟩=UX (UY,⟨fR s ⟨UZ,UZ,part,xs⟩ (UX (cz s i)) (.strIt s (i+1)),orc⟩,[decide (i < s.length)=UZ,U0=U0,UZ=UZ,sq (cz s i) "\\"=UZ]):=by cases c<;>rfl'
theorem SN:jr P N n ⟨fR s ⟨U0,UZ,part,xs⟩ c (.strIt s i),UZ::U0::UZ::U0::UZ::orc⟩=UX (UY,⟨fR s ⟨U0,U0,part++cz s i,xs⟩ (UX (cz s i)) (.strIt s (i+1)),orc⟩,[decide (i < s.length)=UZ,U0=U0,UZ=UZ,sq (cz s i) "\\"=U0,sq (cz s i) "\""=UZ,part.length+1<=Vb]):=by cases c<;>rfl'
theorem SO:jr P N n ⟨fR s ⟨U0,UZ,part,xs⟩ c (.strIt s i),UZ::U0::UZ::U0::U0::orc⟩=UX (UY,⟨fR s ⟨U0,UZ,part++cz s i,xs⟩ (UX (cz s i)) (.strIt s (i+1)),orc⟩,[decide (i < s.length)=UZ,U0=U0,UZ=UZ,sq (cz s i) "\\"=U0,sq (cz s i) "\""=U0,part.length+1<=Vb]):=by cases c<;>rfl'
theorem SP:jr P N n ⟨fR s ⟨U0,U0,part,xs⟩ c (.strIt s i),UZ::U0::U0::UZ::orc⟩=UX (UY,⟨[.frame (("s", .str s)::("res", .ref 1)::("part", .str "")::("escape", .bool U0)::("quote", .bool U0)::Gx (UX (cz s i))), .list (xs.map V.str++[.str part]), .strIt s (i+1)],orc⟩,[decide (i < s.length)=UZ,U0=U0,U0=U0,sq (cz s i) ","=UZ,(xs.map V.str).length<=Vb]):=by cases c<;>rfl'
theorem SQ:jr P N n ⟨fR s ⟨U0,U0,part,xs⟩ c (.strIt s i),UZ::U0::U0::U0::UZ::orc⟩=UX (UY,⟨fR s ⟨U0,UZ,part++cz s i,xs⟩ (UX (cz s i)) (.strIt s (i+1)),orc⟩,[decide (i < s.length)=UZ,U0=U0,U0=U0,sq (cz s i) ","=U0,sq (cz s i) "\""=UZ,part.length+1<=Vb]):=by cases c<;>rfl'
theorem SS:jr P N n ⟨fR s ⟨U0,U0,part,xs⟩ c (.strIt s i),UZ::U0::U0::U0::U0::orc⟩=UX (UY,⟨fR s ⟨U0,U0,part++cz s i,xs⟩ (UX (cz s i)) (.strIt s (i+1)),orc⟩,[decide (i < s.length)=UZ,U0=U0,U0=U0,sq (cz s i) ","=U0,sq (cz s i) "\""=U0,part.length+1<=Vb]):=by cases c<;>rfl'
theorem SU (h:HS):jr P N n ⟨fR s h c (.strIt s i),U0::orc⟩=UX (UX .next,⟨fR s h c .dead,orc⟩,[decide (i < s.length)=U0]):=by cases c<;>rfl'
end
theorem Gy (P:Vc) (s:Vd) (c:Option Vd) (i n N:Nat) (orc:List Bool) (h:HS) (hi:i < s.length) (g:h.part.length<=1000) (j:h.xs.length<=1000):
  ∃nds,jr P N n ⟨fR s h c (.strIt s i),UZ::(Gw (cz s i) h++orc)⟩=UX (UY,⟨fR s (hU (cz s i) h) (UX (cz s i)) (.strIt s (i+1)),orc⟩,nds)/\ao nds:=by
 obtain⟨e,q,part,b⟩:=h
 have a:decide (i < s.length)=UZ:=decide_eq_true hi
 have d:part.length+1<=Vb:=by refine ac VO ?_;dsimp only at g;exact Vn g (by decide)
 induction e with
 |true=>exact⟨_,SL P s part b c i n N orc q,a,rfl,d,trivial⟩
 |false=>
  induction q with
  |true=>
   unfold Gw hU;dsimp only;induction g1:sq (cz s i) "\\" with
   |true=>exact⟨_,SM P s part b c i n N orc,a,rfl,rfl,g1,trivial⟩
   |false=>
    dsimp only;induction f:sq (cz s i) "\"" with
    |true=>exact⟨_,SN P s part b c i n N orc,a,rfl,rfl,g1,f,d,trivial⟩
    |false=>exact⟨_,SO P s part b c i n N orc,a,rfl,rfl,g1,f,d,trivial⟩
  |false=>
   unfold Gw hU;dsimp only;induction g1:sq (cz s i) "," with
   |true=>have:=SP P s part b c i n N orc;rw[show b.map V.str++[V.str part]=(b++[part]).map V.str by simp] at this;exact⟨_,this,a,rfl,rfl,g1,by rw[VA];refine ac VO ?_;dsimp only at j;exact U3 j (by decide),trivial⟩
   |false=>
    dsimp only;induction f:sq (cz s i) "\"" with
    |true=>exact⟨_,SQ P s part b c i n N orc,a,rfl,rfl,g1,f,d,trivial⟩
    |false=>exact⟨_,SS P s part b c i n N orc,a,rfl,rfl,g1,f,d,trivial⟩
noncomputable def ng (s:Vd):Nat->Nat->HS->HS
 |_,0,h=>h
 |i,r+1,h=>ng s (i+1) r (hU (cz s i) h)
theorem Kv (s:Vd) (i:Nat):(cz s i).length=1:=rfl
theorem ba (a b:Vd):(a++b).length=a.length+b.length:=by refine(?_:(a.cps++b.cps).size=_);refine ac Array.size_append ?_;rfl
theorem Db (c:Vd) (b:c.length=1) (h:HS):(hU c h).part.length<=h.part.length+1/\(hU c h).xs.length<=h.xs.length+1:=by
 obtain⟨e,q,part,xs⟩:=h;dsimp only[hU];have d:(part++c).length<=part.length+1:=Vg ((ba ..).trans (congrArg _ b));have f:(xs++[part]).length<=xs.length+1:=Vg Va;have a:(part++c).length<=part.length+1/\xs.length<=xs.length+1:=⟨d,WI _⟩
 induction e with
 |true=>exact a
 |false=>induction q with
  |true=>induction sq c "\\" with
   |true=>exact⟨WI _,WI _⟩
   |false=>induction sq c "\""<;>exact a
  |false=>induction sq c "," with
   |true=>exact⟨W4 _,f⟩
   |false=>induction sq c "\""<;>exact a
theorem Dc (P:Vc) (N:Nat) (s:Vd) (r i:Nat) (h:HS) (c:Option Vd) (n:Nat) (hi:i+r=s.length) (b:r<=n) (d:h.part.length+r<=1000) (f:h.xs.length+r<=1000) (rest:List Bool):∃orc c' ps,
  (aE (aZ P [] bZ ce gl N 2) (n+13) tv).fl (aU yZ) 2 (cL yZ) (mu yZ) ⟨fR s h c (.strIt s i),orc⟩=UX (.next,⟨fR s (ng s i r h) c' .dead,rest⟩,ps)/\ao ps:=by
 induction r generalizing i h c n with
 |zero=>exact⟨U0::rest,c,_,mW (SU P s c i n N rest h),⟨decide_eq_false (abG (Vg hi.symm)),trivial⟩⟩
 |succ r g=>
  induction n using WE with
  |zero=>exact absurd b (Zf _)
  |succ n=>
  refine aN (Db (cz s i) (Kv s i) h) λj k=>(mn (g (i+1) (hU (cz s i) h) (UX (cz s i)) n ((VW i 1 r).trans hi) (XN b) (U3 (Vw j r) (U3 (Vg (VW ..)) d)) (U3 (Vw k r) (U3 (Vg (VW ..)) f))) λorc c' ps e a=>?_)
  exact aj (Gy P s c i (n+1) N orc h (Vs (aad (Wx _)) (Vg hi)) (U3 (Vo _ _) d) (U3 (Vo _ _) f)) λl t m=>(Lk _ c' _ (qT t e) (af.mpr ⟨m,a⟩))
noncomputable def h0:HS:=⟨U0,U0,"",[]⟩
theorem GC (P:Vc) (s e0 e1 b:Vd) (hs:s.length<=900) (g:ng s 0 s.length h0=⟨U0,U0,b,[e0,e1]⟩) (h2:b.length≠0) (hl:e0.length<=900/\e1.length<=900/\b.length<=900):∃N orc S' qs,bnd (aR dv gl (λa=>bk) (λa=>br) (Gz P [] 2 N) [] [.str s]) (λv=>cj P 9 v) ⟨[],orc⟩=UX (.list [.str (Wh e0), .str (Wh e1), .str (Wh b)],S',qs)/\ao qs/\S'.H.take 0=[]:=by
 obtain⟨orc,c,h,e,d⟩:=Dc P (s.length+15) s s.length 0 h0 UY s.length (Wk _ _) (Vt _) (by show 0+_<=_;lia) (by show 0+_<=_;lia) [UZ];rw[g] at e;have j:(aE (aZ P [] bZ ce gl (s.length+15) 2) (s.length+14) tv).ex (aw dv.body 3) ⟨[.frame [("s", .str s),("res", .ref 1),("part", .str ""),("escape", .bool U0),("quote", .bool U0)], .list []],orc⟩=UX (.next,⟨fR s ⟨U0,U0,b,[e0,e1]⟩ c .dead,[UZ]⟩,[]++h):=
  mX (C:=tv) (o:=aZ P [] bZ ce gl (s.length+15) 2) (n:=s.length+13) (i:=2) (s:=aw dv.body 3) (by rfl') (by rfl') (S1:=⟨fR s h0 UY (.strIt s 0),orc⟩) (by rfl') e
 have k:cG (aE (aZ P [] bZ ce gl (s.length+15) 2) (s.length+14) tv).ex [aw dv.body 4,aw dv.body 5] ⟨fR s ⟨U0,U0,b,[e0,e1]⟩ c .dead,[UZ]⟩=UX (.ret (.ref 4),⟨[.frame (("s", .str s)::("res", .ref 1)::("part", .str b)::("escape", .bool U0)::("quote", .bool U0)::Gx c), .list [.str e0, .str e1, .str b], .dead, .dead, .list [.str (Wh e0), .str (Wh e1), .str (Wh b)], .dead],[]⟩,
   [b.length < 2^62,(!decide (b.length=0))=UZ,(2:Nat)<=Vb,e0.length<=Vb,(0:Nat)<=Vb,e1.length<=Vb,(1:Nat)<=Vb,b.length<=Vb,(2:Nat)<=Vb]):=by cases c<;>rfl'
 obtain⟨l,m,f⟩:=hl;refine⟨s.length+15,orc,_,_,CQ (r:=cG (aE (aZ P [] bZ ce gl (s.length+15) 2) (s.length+14) tv).ex ([aw dv.body 0,aw dv.body 1,aw dv.body 2]++aw dv.body 3::[aw dv.body 4,aw dv.body 5]) ⟨[.frame [("s", .str s)]],orc⟩) (v:= .ref 4) rfl (by rfl') (kN (by rfl':cG (aE (aZ P [] bZ ce gl (s.length+15) 2) (s.length+14) tv).ex [aw dv.body 0,aw dv.body 1,aw dv.body 2] ⟨[.frame [("s", .str s)]],orc⟩=UX (.next,⟨[.frame [("s", .str s),("res", .ref 1),("part", .str ""),("escape", .bool U0),("quote", .bool U0)], .list []],orc⟩,[(0:Nat)<=Vb])) (jK j k)) rfl,?_,rfl⟩;refine af.mpr ⟨af.mpr ⟨⟨by decide,trivial⟩,af.mpr ⟨d,⟨Vn f (by decide),(decide_eq_false h2).symm▸rfl,by decide,iO l rfl,by decide,iO m rfl,by decide,iO f rfl,by decide,trivial⟩⟩⟩,trivial⟩
structure wn (s e0 e1 e2:Vd):Prop where
 len:s.length<=900
 run:ng s 0 s.length h0=⟨U0,U0,e2,[e0,e1]⟩
 ne:e2.length≠0
 l:e0.length<=900/\e1.length<=900/\e2.length<=900
def km (s:Vd):HS:=ng s 0 s.length h0
def b8 (s:Vd):Nat->Vd
 |2=>(km s).part
 |j=>ay Vl (km s).xs j
abbrev Dd:Sp:=fW (X:=Vd) (λvs=>gC (nV vs 0)) (λs=>[.str s]) (λs=> .list [.str (Wh (b8 s 0)), .str (Wh (b8 s 1)), .str (Wh (b8 s 2))]) λs=>wn s (b8 s 0) (b8 s 1) (b8 s 2)
theorem Kw (J:VB) (w:V6):aX (Wz J w) 4 244 Dd:=
 dq (X:=Vd) (lev:=0) (k:=2) (T:=dv) (Tb:=[]) (defs:=[]) (spS:=λa a=>bk) (spE:=λa a=>br) Ig rfl rfl (λa h=>nomatch h) (c8 Ig) (λa a a a a=>trivial) (λa a a a a a a a a a a a a=>dw) λs b=>
  ez (GC w.params s _ _ _ b.len b.run b.ne b.l) λN c a d e f a=>⟨N,c,d,congrArg (bD 0) e,f,rfl⟩
end
noncomputable def nh (f:St->X) (pre:X->List O) (v:X->α) (a:X->List O) (ps:X->List Prop):M α:=λS=>UX (v (f S),⟨a (f S),S.orc⟩,(S.H=pre (f S))::ps (f S))
section
theorem tw {f:St->X} {pre:X->List O} {v:X->α} {b:X->List O} {ps:X->List Prop} {m2:M α} (run:∀x,ao (ps x)->∃o1 d p2,m2 ⟨pre x,o1⟩=UX (v x,⟨b x,d⟩,p2)/\ao p2) (h:ae c A fz U m2 t R):
  ae c A fz U (nh f pre v b ps) t R:=by
 intro S a r p e i j ρ' s Q k q g y
 cases e
 obtain⟨l,m⟩:=i
 refine mn (run _ m) λo1 d p2 n o=>?_
 rw[l] at g
 exact h _ _ _ _ n o _ _ _ _ k q g y
theorem ae.after {g:α->M Unit} (h:ae c A fz U m t R) (w:∀fz U a,Gh c fz U (g a) (λd d d=>True)) (z:∀fz fz' U a x,Le fz fz'->R fz U a x->R fz' U a x):ae c A fz U (bnd m λa=>bnd (g a) λd=>Mine.Internal.ret a) t R:=by
 intro S a N p e B fz' ρ' s Q k q C y;refine ez (bA e) λb n D O e1 e2 f=>?_;subst f;refine ez (bA e2) λu P E T e3 F f=>?_;subst f;cases F;obtain⟨G,H⟩:=af.mp B;refine h S a n D e1 G fz' ρ' s Q k q C λo j r x I J i K=>(ca (w o j a n u _ E e3 (af.mp H).1 o j r.heap (Le.refl _) (U6 _) i.hr) λL v l d=>?_)
 exact y L j r x (I.trans v) J (i.tz l) (z _ _ _ _ _ v K)
end
def eI (S:St) (i:Nat) (x:Vd):V:=match S.H[i]? with
 |some (.frame l)=>(lk x l).getD .none
 |_=> .none
def q8 (v:V):M Unit:=λS=>match v with
 | .ref i=>match S.H[i]? with
  |some (.list vs)=>UX ((),⟨S.H.set i (.strs (vs.map gC)),S.orc⟩,[vs=(vs.map gC).map V.str])
  |_=>UY
 |_=>UY
def q9 (v:V):M Unit:=λS=>match v with
 | .ref i=>match S.H[i]? with
  |some (.list vs)=>UX ((),⟨S.H.set i (.ints (vs.map bU)),S.orc⟩,[vs=(vs.map bU).map V.int])
  |_=>UY
 |_=>UY
theorem av.strs (h:av g U (ss.map V.str) xs):dk ss xs:=by
 induction ss generalizing xs with
 |nil=>exact h.e0 .nil
 |cons s r c=>exact av.ec h λx xs a b=>a.e_str λt=> .cons (c b)
theorem av.ints (h:av g U (ns.map V.int) xs):Ww xs ns:=by
 induction ns generalizing xs with
 |nil=>exact h.e0 .nil
 |cons s r c=>exact av.ec h λx xs a b=>a.e_int λt=> .cons _ _ (c b)
theorem Kx {S:St} {u:Unit} {p:List Prop} {g:List V->O×Prop} (e:(match v with
 | .ref i=>match S.H[i]? with
  |some (.list vs)=>UX ((),(⟨S.H.set i (g vs).1,S.orc⟩:St),[(g vs).2])
  |_=>UY
 |_=>UY)=UX (u,S',p)):∃i vs,S.H[i]?=UX (.list vs)/\S'=⟨S.H.set i (g vs).1,S.orc⟩/\p=[(g vs).2]:=by
 induction v with
 |ref i=>
  dsimp only at e;induction h:S.H[i]? with
  |none=>rw[h] at e;exact nn e
  |some o=>
   rw[h] at e;induction o with
   |list vs=>exact b9 (db e) λa b d=>cY i vs h b d
   |_=>exact nn e
 |_=>exact nn e
section
theorem ID {m:M Unit} {g:List V->O×Prop} (n:∀S,m S=match v with
 | .ref i=>match S.H[i]? with
  |some (.list vs)=>UX ((),(⟨S.H.set i (g vs).1,S.orc⟩:St),[(g vs).2])
  |_=>UY
 |_=>UY) (hl:∀vs,(g vs).1.live=UZ) (o:∀vs,(g vs).2->∀P fz U a ob,OR P fz U (.list vs) a ob->OR P fz U (g vs).1 a ob):Gh c fz U m (λb b b=>True):=by
 intro S u B p e r d ρ' h k q x
 rw[n] at e
 refine cy (Kx e) λi vs l f j=>(ac f ?_)
 subst j
 refine(cE d (Le.refl _) (x.reO l rfl (hl vs) λa ob s t=>o vs r.1 _ _ _ _ _ ?_) trivial)
 refine eX (x.obj i _ l rfl) λC w y z b b A=>?_
 obtain rfl:=U2 (s.symm.trans y)
 obtain rfl:=U2 (t.symm.trans z)
 exact A
theorem De (v:V):Gh c fz U (q8 v) (λb b b=>True):=ID (g:=λvs=>(.strs (vs.map gC),vs=(vs.map gC).map V.str)) (λS=>rfl) (λb=>rfl) λvs d P fz U a i h=>by refine aG h λf n e r=>?_;rw[show vs=(vs.map gC).map V.str from d] at r;exact(bL f n e r.strs)
theorem Df (v:V):Gh c fz U (q9 v) (λb b b=>True):=ID (g:=λvs=>(.ints (vs.map bU),vs=(vs.map bU).map V.int)) (λS=>rfl) (λb=>rfl) λvs d P fz U a i h=>by refine aG h λf n e r=>?_;rw[show vs=(vs.map bU).map V.int from d] at r;exact(bL f n e r.ints)
end
theorem y0 {o:dU} {n:Nat} {x:Vd} {S:St} {p1 p2 p3 p4:List Prop} (d:(ql scope x&& !eB iter)=UZ) (e:gy C scope.names=UX cl)
  (h1:bnd ((G C).ev iter) o.iter S=UX (.ref i,S1,p1)) (hi:jB i S1=UX ((),S1,p4)) (h2:eY o (mz C scope cl (S1.H.length+1)) (G (mz C scope cl (S1.H.length+1))) elt ifs x i S1.H.length n ⟨S1.H++[.list []]++[.frame []],S1.orc⟩=UX ((),S2,p2)) (g:tT (S1.H.length+1) S2=UX ((),S3,p3)):
  ey C o G n elt x iter ifs scope (λc=>ret ()) S=UX (.ref S1.H.length,S3,p1++(p4++(p2++p3))):=by
 dsimp only[ey]
 refine ac d (ac e ?_)
 refine ez (bA h1) λxv l m r h j f=>(ac f ?_)
 rw[Vk]
 refine aJ h (aJ j (aJ hi ?_))
 refine aJ (p:=[]) (q:=p2++p3) (S1:=⟨S1.H++[.list []],S1.orc⟩) rfl ?_
 refine aJ (p:=[]) (q:=p2++p3) (S1:=⟨S1.H++[.list []]++[.frame []],S1.orc⟩) (a:=S1.H.length+1) (by show UX _=UX _;refine ac Va ?_;rfl) ?_
 refine aJ h2 (aJ (p:=[]) (q:=p3) rfl ?_)
 have:=aJ g (k:=λc=>ret (V.ref S1.H.length)) (b:= .ref S1.H.length) (q:=[]) rfl
 rwa[VY] at this
theorem GD (xs:List Vd):(xs.map V.str).map gC=xs:=ac Yi (List.map_id' _)
theorem GE (xs:List Int):(xs.map V.int).map bU=xs:=ac Yi (List.map_id' _)
theorem Ky {m:M V} {S:St} {xs:List Vd} {p:List Prop} (h:m S=UX (.ref i,S1,p)) (h1:S1.H[i]?=UX (.list (xs.map V.str))) (b:ao p):∃p2,(bnd m λv=>bnd (q8 v) λa=>ret v) S=UX (.ref i,⟨S1.H.set i (.strs xs),S1.orc⟩,p2)/\ao p2:=by
 have e:q8 (.ref i) S1=UX ((),⟨S1.H.set i (.strs xs),S1.orc⟩,[xs.map V.str=xs.map V.str]):=by refine(?_:(match S1.H[i]? with|some (.list vs)=>_|_=>_)=_);refine ac h1 ?_;dsimp only;rw[GD]
 exact(aA _ (aJ h (aJ (q:=[]) e rfl)) (af.mpr ⟨b,rfl,trivial⟩))
theorem Kz {m:M V} {S:St} {xs:List Int} {p:List Prop} (h:m S=UX (.ref i,S1,p)) (h1:S1.H[i]?=UX (.list (xs.map V.int))) (b:ao p):∃p2,(bnd m λv=>bnd (q9 v) λa=>ret v) S=UX (.ref i,⟨S1.H.set i (.ints xs),S1.orc⟩,p2)/\ao p2:=by
 have e:q9 (.ref i) S1=UX ((),⟨S1.H.set i (.ints xs),S1.orc⟩,[xs.map V.int=xs.map V.int]):=by refine(?_:(match S1.H[i]? with|some (.list vs)=>_|_=>_)=_);refine ac h1 ?_;dsimp only;rw[GE]
 exact(aA _ (aJ h (aJ (q:=[]) e rfl)) (af.mpr ⟨b,rfl,trivial⟩))
noncomputable def lK (l:Nat) (e:Vv) (m:Nat->Ec->M V):Nat->Ec->Nat->Option (Vv×M V):=λN C n=>match VC n l with
 |true=>UX (e,m N C)
 |false=>UY
theorem pF {x y:α} (h:(match b with|true=>UX x|false=>UY)=UX y):x=y:=by
 induction b with
 |true=>exact U2 h
 |false=>exact nn h
abbrev hV (T:FT) (L:Nat):Ec:={names:=T.scope.names,cells:=[]++gR (L+1) T.cn,fid:=L,glob:=gl,trim:=T.trim}
theorem nZ {l L:Nat} {m:Nat->Ec->M V} (h:ae c A fz U (m N (hV T L)) (Ws e Z) au):eh c A (be T [] gl (λa=>bk) (lK l e m N) L) Z fz U:=
 ⟨λa a a e=>(nomatch e),λn d f b=>by cases pF b;exact h⟩
section
def hX (e:Vv):Lc:=(sY e).getD ⟨xz,"",z0,xz,[],default,z0⟩
def jc:Vv:=ay xz (kz (aU (aw (cL (aw dR.body 2)) 0))) 0
noncomputable def pG:XR:=(hX jc).scope
def gD (s:Vd):Nat->Nat->List Vd
 |_,0=>[]
 |i,r+1=>("\\"++cz s i)::gD s (i+1) r
noncomputable def jM (a:Vd) (w:Int) (s:Vd):O:= .frame [("numeral", .str a),("way", .int w),("text", .str s)]
noncomputable def Dg (a:Vd) (w:Int) (s:Vd) (it:O) (xs:List Vd) (c:Option Vd):List O:=[jM a w s,it, .list (xs.map V.str), .frame (match c with|none=>[]|some c=>[("sign", .str c)])]
def Bd:Ec:=mz (hV dR 0) pG [] 3
abbrev IE (P:Vc) (N n:Nat) (S:St):Option (Bool×St×List Prop):=nX (aZ P [] bZ ce gl N 2) Bd (aE (aZ P [] bZ ce gl N 2) (n+12) Bd) (hX jc).elt [] "sign" 1 2 S
section
variable (P:Vc) (a s:Vd) (w:Int) (xs:List Vd) (c:Option Vd) (i n N:Nat) (orc:List Bool)
theorem P6:IE P N n ⟨Dg a w s (.strIt s i) xs c,UZ::orc⟩=UX (UZ,⟨[jM a w s, .strIt s (i+1), .list (xs.map V.str++[.str ("\\"++cz s i)]), .frame [("sign", .str (cz s i))]],orc⟩,[decide (i < s.length)=UZ,1+1<=16777216,(xs.map V.str).length<=Vb]):=by cases c<;>rfl'
theorem P7:IE P N n ⟨Dg a w s (.strIt s i) xs c,U0::orc⟩=UX (U0,⟨Dg a w s .dead xs c,orc⟩,[decide (i < s.length)=U0]):=by cases c<;>rfl'
end
theorem SW (xs:List Vd) (u:Vd):xs.map V.str++[V.str u]=(xs++[u]).map V.str:=ac V5 rfl
theorem GF (P:Vc) (N m:Nat) (a s:Vd) (w:Int) (r i:Nat) (xs:List Vd) (c:Option Vd) (k:Nat) (hi:i+r=s.length) (b:r < k) (f:xs.length+r<=1000):∃orc c' ps,
  eY (aZ P [] bZ ce gl N 2) Bd (aE (aZ P [] bZ ce gl N 2) (m+12) Bd) (hX jc).elt [] "sign" 1 2 k ⟨Dg a w s (.strIt s i) xs c,orc⟩=UX ((),⟨Dg a w s .dead (xs++gD s i r) c',[]⟩,ps)/\ao ps:=by
 induction r generalizing i xs c k with
 |zero=>induction k using WE with
  |zero=>exact absurd b (W9 _)
  |succ k=>exact⟨[U0],c,[decide (i < s.length)=U0],ac (VY xs:xs++gD s i 0=xs) (CP (P7 P a s w xs c i m N [])),decide_eq_false (abG (Vg hi.symm)),trivial⟩
 |succ r g=>
  induction k using WE with
  |zero=>exact absurd b (W9 _)
  |succ k=>
  obtain⟨orc,c',ps,e,d⟩:=g (i+1) (xs++["\\"++cz s i]) (UX (cz s i)) k ((VW i 1 r).trans hi) (aam b) (ac Va (U3 (Vg (VW _ 1 _)) f));have t:=P6 P a s w xs c i m N orc;rw[SW] at t;rw[Vk] at e;exact⟨UZ::orc,c',_,AS t e,af.mpr ⟨⟨decide_eq_true (Vs (aad (Wx r)) (Vg hi)),by decide,by rw[VA];refine ac VO ?_;exact U3 (U3 (Vo _ _) f) (by decide),trivial⟩,d⟩⟩
def iX (P:Vc):Nat->Ec->Nat->Option (Vv×M V):=lK 287023053 jc λN C=>nh (X:=Vd×Int×Vd) (λS=>(gC (eI S 0 "numeral"),bU (eI S 0 "way"),gC (eI S 0 "text"))) (λx=>[jM x.1 x.2.1 x.2.2]) (λa=> .ref 2)
 (λx=>[jM x.1 x.2.1 x.2.2, .dead, .strs (gD x.2.2 0 x.2.2.length), .dead]) λx=>[C.fid=0,x.2.2.length<=1000/\x.2.2.length+20<=N]
theorem Dh {w:V6} {N L:Nat} (o:cp ((Wz J w).cx g os) A (aZ w.params [] bZ ce gl N 2)) (p:aI ((Wz J w).cx g os) (be dR [] gl (λb=>bk) (iX w.params N) L) Z U):
  eh ((Wz J w).cx g os) A (be dR [] gl (λb=>bk) (iX w.params N) L) Z fz U:=by
 refine nZ (tw (m2:=bnd ((aE (aZ w.params [] bZ ce gl N 2) N (hV dR L)).ev jc) λv=>bnd (q8 v) λb=>ret v) (λx q=>?_) ((d5 o N (hV dR L) Z).ev fz U ⟨{p with},⟨λb b b h=>(nomatch h),λb b b h=>(nomatch h)⟩⟩ jc|>.after (λb b v=>De v) λb b b b b k h=>h.mono k (U6 _)))
 obtain⟨a,d,s⟩:=x
 refine b9 q λf i b=>?_
 obtain⟨r,l⟩:=i
 have f:L=0:=f
 refine ac f ?_
 dsimp only at r l
 obtain⟨m,rfl⟩:∃m,N=m+13:=⟨N - 13,(Wp (U3 (U3 (by decide) (Wr 20 _)) l)).symm⟩
 obtain⟨c,t,E,e,j⟩:=GF w.params (m+13) m a s d s.length 0 [] UY (m+12) (by lia) (by lia) (by show 0+_<=_;lia)
 have u:bnd ((aE (aZ w.params [] bZ ce gl (m+13) 2) (m+12) (hV dR 0)).ev (hX jc).iter) (aZ w.params [] bZ ce gl (m+13) 2).iter ⟨[jM a d s],c⟩=UX (.ref 1,⟨[jM a d s, .strIt s 0],c⟩,[]):=by rfl'
 have y:=y0 (x:="sign") (ifs:=[]) (scope:=pG) (cl:=[]) (C:=hV dR 0) (G:=aE (aZ w.params [] bZ ce gl (m+13) 2) (m+12)) (n:=m+12) (by rfl') (by rfl') u (p4:=[]) (by rfl') e (S3:=⟨[jM a d s, .dead, .list ((gD s 0 s.length).map V.str), .dead],[]⟩) (p3:=[]) (by cases t<;>rfl')
 refine aj (Ky ((show(aE (aZ w.params [] bZ ce gl (m+13) 2) (m+13) (hV dR 0)).ev jc ⟨[jM a d s],c⟩=ey (hV dR 0) (aZ w.params [] bZ ce gl (m+13) 2) (aE (aZ w.params [] bZ ce gl (m+13) 2) (m+12)) (m+12) (hX jc).elt "sign" (hX jc).iter [] pG (λb=>ret ()) ⟨[jM a d s],c⟩ by rfl').trans y) (xs:=gD s 0 s.length) rfl (af.mpr ⟨trivial,af.mpr ⟨trivial,af.mpr ⟨j,trivial⟩⟩⟩)) λz B D=>?_
 exact⟨c,[],z,B,D⟩
abbrev wo (P:Vc) (T:FT) (Tb:bC) (N:Nat) (sp:Nat->Ec->Nat->Option (Vv×M V)) (vs:List V) (objs:List O) (orc:List Bool):Option (D×St×List Prop):=bnd (aR T gl (λa=>bk) (sp N) (Gz P Tb 2 N) [] vs) (λv=>cj P 9 v) ⟨objs,orc⟩
noncomputable def bf (s:Vd) (w:Int):Vd:=Yl " " (w.fmod 3)++s++Yl " " ((w.fdiv 3).fmod 3)
def sk (k:Int):Prop:=(decide (k < -2^63)||decide (k≥2^63))=U0/\(¬k < 1->(k==1||(" ":Vd).length==0)=U0->¬((" ":Vd).length:Int) > (2^63 - 1) / k)/\(¬k < 1->(k==1||(" ":Vd).length==0)=U0->Builtin.Str.tooLong ((" ":Vd).length*k.toNat)=U0)
noncomputable def sm (s:Vd) (w:Int):List Prop:=[(3:Int)≠0,sk (w.fmod 3),(Yl " " (w.fmod 3)).length+s.length<=16777216,(3:Int)≠0/\(3:Nat) < 1073741824,(3:Int)≠0,sk ((w.fdiv 3).fmod 3),(Yl " " (w.fmod 3)++s).length+(Yl " " ((w.fdiv 3).fmod 3)).length<=16777216]
def lL (s:Vd) (w:Int):Bool->Bool->List Prop
 |true,b=>[sq (bf s w) s=UZ,(9:Int)≠0/\(9:Nat) < 1073741824,(2:Int)≠0,(!decide ((w.fdiv 9).fmod 2=0))=b,b=b]
 |false,_=>[sq (bf s w) s=U0,U0=U0]
noncomputable def jN (w:Int) (b:Bool):List Prop:=[(18:Int)≠0/\(18:Nat) < 1073741824,(2:Int)≠0,(!decide ((w.fdiv 18).fmod 2=0))=b]
noncomputable def pH (t:Vd):List Prop:=[1+t.length<=16777216,("\""++t:Vd).length+1<=16777216]
noncomputable def jd (t:Vd):Vd:=WA "" (gD t 0 t.length)
noncomputable def iF (t:Vd):Vd:="\""++t++"\""
def GG (s:Vd) (w:Int) (n:Nat):List Prop:=[jc=jc,[jM s w (bf s w)]=[jM s w (bf s w)],(0:Nat)=0,(bf s w).length<=1000/\(bf s w).length+20<=n+60,acP "" (gD (bf s w) 0 (bf s w).length)=UZ]
section
variable (P:Vc) (s:Vd) (w:Int) (n:Nat)
theorem P8:bD 0 (wo P dR [] (n+60) (iX P) [.str s, .int w] [] [UZ,UZ,UZ])=UX (.str (bf s w),[],sm s w++lL s w UZ UZ):=by rfl'
theorem Nm:bD 0 (wo P dR [] (n+60) (iX P) [.str s, .int w] [] [UZ,U0,U0,U0])=UX (.str (iF (bf s w)),[],sm s w++(lL s w UZ U0++(jN w U0++pH (bf s w)))):=by rfl'
theorem Nn:bD 0 (wo P dR [] (n+60) (iX P) [.str s, .int w] [] [UZ,U0,U0,UZ])=UX (.str (iF (jd (bf s w))),[],sm s w++(lL s w UZ U0++(jN w UZ++GG s w n++pH (jd (bf s w))))):=by rfl'
theorem No:bD 0 (wo P dR [] (n+60) (iX P) [.str s, .int w] [] [U0,U0,UZ])=UX (.str (iF (jd (bf s w))),[],sm s w++(lL s w U0 U0++(jN w UZ++GG s w n++pH (jd (bf s w))))):=by rfl'
theorem Np:bD 0 (wo P dR [] (n+60) (iX P) [.str s, .int w] [] [U0,U0,U0])=UX (.str (iF (bf s w)),[],sm s w++(lL s w U0 U0++(jN w U0++pH (bf s w)))):=by rfl'
end
theorem n7 {k:Int} (h0:0<=k) (a:k < 3):sk k:=by
 have:k=0∨k=1∨k=2:=by lia
 rcases this with rfl|rfl|rfl<;>(unfold sk;decide+kernel)
theorem bb (x:Int) {k:Int} (h:0 < k):0<=x.fmod k/\x.fmod k < k:=⟨Int.fmod_nonneg_of_pos _ h,Int.fmod_lt_of_pos _ h⟩
theorem eQ {k:Int} (h0:0<=k) (a:k < 3):(Yl " " k).length=k.toNat:=by
 have:k=0∨k=1∨k=2:=by lia
 rcases this with rfl|rfl|rfl<;>rfl
theorem oV {x:Nat} (h:x < 3):x=0∨x=1∨x=2:=yc (p:=λi=>i=0∨i=1∨i=2) h (.inl rfl) (.inr (.inl rfl)) (.inr (.inr rfl))
theorem jO {a:Int} (h:0<=a/\a < 3):a.toNat<=2:=Nat.le_of_lt_succ ((WY h.1).mpr h.2)
theorem wp (s:Vd) (w:Int):(bf s w).length<=s.length+4:=by have a:=bb w (show(0:Int) < 3 by decide);have b:=bb (w.fdiv 3) (show(0:Int) < 3 by decide);unfold bf;rw[ba,ba,eQ a.1 a.2];refine ac (eQ b.1 b.2) ?_;exact U3 (VF (Vw (jO a) _) (jO b)) (Vg (congrArg (· +2) (Wk 2 _)))
theorem KA {s:Vd} {w:Int} (h:s.length<=200):ao (sm s w):=by
 have a:=bb w (show(0:Int) < 3 by decide);have b:=bb (w.fdiv 3) (show(0:Int) < 3 by decide);refine⟨by decide,n7 a.1 a.2,?_,by decide,by decide,n7 b.1 b.2,?_,trivial⟩
 ·refine ac (eQ a.1 a.2) ?_;exact U3 (VF (jO a) h) (by decide)
 ·rw[ba,eQ a.1 a.2];refine ac (eQ b.1 b.2) ?_;exact U3 (VF (VF (jO a) h) (jO b)) (by decide)
theorem lM (s:Vd) (r i:Nat):(gD s i r).length=r/\((gD s i r).map (·.length)).sum=2*r:=by
 induction r generalizing i with
 |zero=>exact⟨rfl,rfl⟩
 |succ r a=>exact⟨congrArg (· +1) (a (i+1)).1,(congrArg (2+·) (a (i+1)).2).trans (Wk 2 _)⟩
theorem y5 (s:Vd):(jd s).length<=2*s.length:=by have:=acm "" (gD s 0 s.length);rw[(lM s s.length 0).2,(lM s s.length 0).1] at this;rw[<-eq_of_beq (join_plain_closes "" (gD s 0 s.length))] at this;exact this
theorem y6 {t:Vd} (h:t.length<=1000):ao (pH t):=⟨by lia,by rw[ba];show 1+_+1<=_;lia,trivial⟩
def P9 (s:Vd) (w:Int) (k:Nat):Prop:=s.length<=200/\((bf s w=s/\(w.fdiv 9).fmod 2≠0)↔k=0)/\(k≠0->((w.fdiv 18).fmod 2=0↔k=1))
def Be (s:Vd) (w:Int):Nat->Vd
 |0=>bf s w
 |1=>iF (bf s w)
 |_=>iF (jd (bf s w))
abbrev IF (k:Nat):Sp:=fW (X:=Vd×Int) (λvs=>(gC (nV vs 0),bU (nV vs 1))) (λx=>[.str x.1, .int x.2]) (λx=> .str (Be x.1 x.2 k)) λx=>P9 x.1 x.2 k/\k < 3
theorem Nq (J:VB) (w:V6) (k:Nat):aX (Wz J w) 4 277 (IF k):=
 dq (X:=Vd×Int) (lev:=0) (k:=2) (T:=dR) (Tb:=[]) (defs:=[]) (spS:=λa a=>bk) (spE:=iX w.params) Il rfl rfl (λa h=>nomatch h) (c8 Il) (λa a a a a=>trivial) (λa a a a a a a a a a A a B=>Dh A B) λx C=>by
  obtain⟨s,c⟩:=x;obtain⟨⟨n,h0,o⟩,p⟩:=C;dsimp only at n h0 o;have f:=KA (w:=c) n;have g:=wp s c;have r:∀b,(!decide ((c.fdiv 18).fmod 2=0))=b->ao (jN c b):=λb e=>⟨by decide,by decide,e,trivial⟩
  have t:ao (GG s c 260):=⟨rfl,rfl,rfl,⟨by lia,by lia⟩,joinOk_of (by refine ac ((lM _ _ 0).1) (ac ((lM _ _ 0).2) ?_);show _+_*0<=_;lia),trivial⟩
  have i:k=1->ao (jN c U0):=λe=>r _ ((decide_eq_true ((o λh=>absurd (e.symm.trans h) (by decide)).mpr e)).symm▸rfl);have j:k=2->ao (jN c UZ):=λe=>r _ ((decide_eq_false λD=>absurd ((o λh=>absurd (e.symm.trans h) (by decide)).mp D) λh=>absurd (e.symm.trans h) (by decide)).symm▸rfl);have l:ao (pH (bf s c)):=y6 (U3 g (U3 (Vw n 4) (by decide)));have m:ao (pH (jd (bf s c))):=y6 (U3 (y5 (bf s c)) (U3 (aa0 2 (U3 g (Vw n 4))) (by decide)));have u:bf s c=s->sq (bf s c) s=UZ:=bS.mpr;have v:bf s c=s->k≠0->ao (lL s c UZ U0):=λd p=>⟨u d,by decide,by decide,ac (decide_eq_true (Decidable.byContradiction λq=>p (h0.mp ⟨d,q⟩))) rfl,rfl,trivial⟩
  have y:bf s c≠s->ao (lL s c U0 U0):=λd=>⟨cg.mpr d,rfl,trivial⟩
  rcases oV p with rfl|rfl|rfl
  ·have z:=h0.mpr rfl;exact(gI _ _ _ (P8 w.params s c 260) (af.mpr ⟨f,u z.1,by decide,by decide,(decide_eq_false z.2).symm▸rfl,rfl,trivial⟩) rfl)
  ·refine(Y4 (bf s c=s)).elim (λd=>?_) λd=>?_
   ·exact(gI _ _ _ (Nm w.params s c 260) (af.mpr ⟨f,af.mpr ⟨v d (by decide),af.mpr ⟨i rfl,l⟩⟩⟩) rfl)
   ·exact(gI _ _ _ (Np w.params s c 260) (af.mpr ⟨f,af.mpr ⟨y d,af.mpr ⟨i rfl,l⟩⟩⟩) rfl)
  ·refine(Y4 (bf s c=s)).elim (λd=>?_) λd=>?_
   ·exact(gI _ _ _ (Nn w.params s c 260) (af.mpr ⟨f,af.mpr ⟨v d (by decide),af.mpr ⟨af.mpr ⟨j rfl,t⟩,m⟩⟩⟩) rfl)
   ·exact(gI _ _ _ (No w.params s c 260) (af.mpr ⟨f,af.mpr ⟨y d,af.mpr ⟨af.mpr ⟨j rfl,t⟩,m⟩⟩⟩) rfl)
end
open Classical in
def ed (s:Vd) (w:Int):Nat:=if bf s w=s/\(w.fdiv 9).fmod 2≠0 then 0 else if(w.fdiv 18).fmod 2=0 then 1 else 2
def gE (s:Vd) (w:Int):Vd:=Be s w (ed s w)
abbrev Di:Sp:=fW (X:=Vd×Int) (λvs=>(gC (nV vs 0),bU (nV vs 1))) (λx=>[.str x.1, .int x.2]) (λx=> .str (gE x.1 x.2)) λx=>x.1.length<=200
theorem KB (J:VB) (w:V6):aX (Wz J w) 4 277 Di:=v7 λx d=>by
 obtain⟨s,b⟩:=x;refine⟨IF (ed s b),_,Nq J w _,rfl,⟨rfl,rfl,⟨d,?_⟩,?_⟩,trivial⟩
 ·refine(?_:((bf s b=s/\(b.fdiv 9).fmod 2≠0)↔ed s b=0)/\(ed s b≠0->((b.fdiv 18).fmod 2=0↔ed s b=1)));unfold ed;by_cases h0:bf s b=s/\(b.fdiv 9).fmod 2≠0
  ·refine ac (if_pos h0) ?_;exact⟨⟨λa=>rfl,λa=>h0⟩,λh=>absurd rfl h⟩
  ·refine ac (if_neg h0) ?_;by_cases c:(b.fdiv 18).fmod 2=0
   ·refine ac (if_pos c) ?_;exact⟨⟨λh=>absurd h h0,nofun⟩,λa=>⟨λa=>rfl,λa=>c⟩⟩
   ·refine ac (if_neg c) ?_;exact⟨⟨λh=>absurd h h0,nofun⟩,λa=>⟨λh=>absurd h c,nofun⟩⟩
 ·unfold ed;split<;>(try split)<;>decide
noncomputable def wA (w:Int) (x:Nat):Int:=(w.fdiv (36^x)).fmod 3
noncomputable def wB (w:Int) (x:Nat):Int:=((w.fdiv (36^x)).fdiv 3).fmod 3
def wq (A a:Int):Int:=gz (a - A) 0
def lN (A a:Int):Int:=A - a+wq A a
def ni (A B a:Int):Int:=gz (B - wq A a) 0
noncomputable def Bf (A B:Int) (N:Vd) (a:Int):Vd:=Yl " " (lN A a)++N++Yl " " (ni A B a)
def et (s:Vd) (x:Nat):Vd:=pE (Wh (b8 s x))
def wt (P:Vc) (T N:Vd) (A B a:Int) (i:Nat):List Prop:=[UZ=UZ,UZ=UZ/\UZ=UZ,P=P,[V.str T,V.int a]=[V.str T,V.int a]/\([]:List O)=[]/\0<=a/\iD T a.toNat (mc T a) (me T a),i<=Vb,aK (i+1) (-1),
 sk (lN A a),(Yl " " (lN A a)).length+N.length<=16777216,sk (ni A B a),(Yl " " (lN A a)++N).length+(Yl " " (ni A B a)).length<=16777216,(!sq (d8 T a) (Bf A B N a))=U0]
noncomputable def sn (x:Nat):List Prop:=[(0:Int)<=(x:Int)/\(x:Int)<=1000000/\(36:Int).natAbs < 2^64,(36:Int)^x≠0/\((36:Int)^x).natAbs < 1073741824]
def GH (u:Vd):Prop:=u.length<=1000/\(X9 u).length<=1000/\(cu u).length<=600/\Y6 (hO (cu u))=UX (iE (cu u))/\(hO (cu u)).length<=640
def uA (P:Vc) (s:Vd) (c w:Int) (L:List Int) (x:Nat):List Prop:=[UZ=UZ,aK 3 x,[V.int c,eA (.ints L)]=[V.int c,eA (.ints L)]/\([]:List O)=[]/\sg c L]++(sn x++([(3:Int)≠0]++(sn x++([(3:Int)≠0/\(3:Nat) < 1073741824,(3:Int)≠0,(0:Nat)<=Vb,(2:Int)≠0/\(2:Nat) < 1073741824,(4:Nat)<=Vb]++
 (wt P (et s x) (bN c L) (wA w x) (wB w x) ((wA w x).fdiv 2) 0++(wt P (et s x) (bN c L) (wA w x) (wB w x) (wA w x) 1++(wt P (et s x) (bN c L) (wA w x) (wB w x) (wA w x+1) 2++(wt P (et s x) (bN c L) (wA w x) (wB w x) 4 3++
 [U0=U0,aK 4 1,[V.str (d8 (et s x) (wA w x))]=[V.str (d8 (et s x) (wA w x))]/\([]:List O)=[]/\GH (d8 (et s x) (wA w x)),x<=Vb]))))))))
def SX (P:Vc) (s:Vd):List Prop:=[[V.str s]=[V.str s]/\([]:List O)=[]/\wn s (b8 s 0) (b8 s 1) (b8 s 2),[V.dat (.list [.str (Wh (b8 s 0)), .str (Wh (b8 s 1)), .str (Wh (b8 s 2))])]=[V.dat (.list [.str (Wh (b8 s 0)), .str (Wh (b8 s 1)), .str (Wh (b8 s 2))])]/\([]:List O)=[]/\
 jq "a" (Wh (b8 s 0)) (jL (Wh (b8 s 0)))/\jq "b" (Wh (b8 s 1)) (jL (Wh (b8 s 1)))/\jq "c" (Wh (b8 s 2)) (jL (Wh (b8 s 2))),P=P/\(3:Nat)<=1000,(3:Nat)<=Vb,UZ=UZ/\UZ=UZ,U0=U0,(0:Nat)<=Vb,UZ=UZ]
def IG (P:Vc):bC:=[(244,dY P [U0] Dd),(239,dY P [U0] (yY P)),(272,dY P [U0,U0] wf),(35,dY P [U0,U0] wk),(57,dY P [U0] IC)]
noncomputable def Nr:List Bool:=[UZ,UZ,U0,UZ,U0,UZ,U0,UZ,U0,U0]
def pI (s:Vd) (w:Int) (x:Nat):Int:=iE (cu (d8 (et s x) (wA w x)))
theorem GI (P:Vc) (s:Vd) (a b c w:Int) (L:List Int):bD 0 (lG P uu (IG P) 60 [.str s, .dat (.ints [a,b,c]), .dat (.ints L), .int w] [] ([U0]++Nr++Nr++Nr++[U0]))=
  UX (.ints [pI s w 0,pI s w 1,pI s w 2],[],SX P s++(uA P s a w L 0++(uA P s b w L 1++(uA P s c w L 2++[U0=U0])))):=by rfl'
structure re (s:Vd) (w:Int) (L:List Int) (nm:Vd) (c:Int) (x:Nat):Prop where
 elt:jq nm (Wh (b8 s x)) (jL (Wh (b8 s x)))
 num:sg c L
 len:(bN c L).length<=100
 st:∀a:Int,0<=a->a<=4->iD (et s x) a.toNat (mc (et s x) a) (me (et s x) a)/\d8 (et s x) a=Bf (wA w x) (wB w x) (bN c L) a
 ifs:GH (d8 (et s x) (wA w x))
 val:pI s w x=c
theorem su (a b:Int):gz a b=max a b:=by
 unfold gz;by_cases h:b > a
 ·refine ac (decide_eq_true h) ?_;show b=_;lia
 ·refine ac (decide_eq_false h) ?_;show a=_;exact(Zu (Int.not_lt.mp h)).symm
theorem II (w:Int) (x:Nat):0<=wA w x/\wA w x < 3:=bb _ (by decide)
theorem IJ (w:Int) (x:Nat):0<=wB w x/\wB w x < 3:=bb _ (by decide)
theorem Uz {A B a:Int} (c:0<=A/\A < 3) (b:0<=B/\B < 3) (d:0<=a):(0<=A - a+max (a - A) 0/\A - a+max (a - A) 0 < 3)/\0<=max (B - max (a - A) 0) 0/\max (B - max (a - A) 0) 0 < 3:=
 (Int.le_total a A).elim
  (λh=>ac (Y9 (aaQ h)) (ac (Int.sub_zero B) (ac (Zu b.1) ⟨⟨W5 (Yc h) (YD 0),ac (ZD _) (ZM (Int.sub_le_self A d) c.2)⟩,b⟩)))
  λh=>ac (Zu (Yc h)) (ac ((congrArg (A - a+·) (Int.neg_sub A a).symm).trans (Int.add_right_neg _)) ⟨⟨YD 0,by decide⟩,Int.le_max_right _ _,Int.max_lt.mpr ⟨ZM (Int.sub_le_self B (Yc h)) b.2,by decide⟩⟩)
theorem y7 {A B a:Int} (b:0<=A/\A < 3) (c:0<=B/\B < 3) (d:0<=a):(0<=lN A a/\lN A a < 3)/\0<=ni A B a/\ni A B a < 3:=by unfold lN ni wq;simp only[su];exact Uz b c d
theorem n8 {T N:Vd} {A B a:Int} (f:0<=A/\A < 3) (g:0<=B/\B < 3) (d:0<=a) (hi:i<=100) (e:N.length<=100) (h:iD T a.toNat (mc T a) (me T a)/\d8 T a=Bf A B N a):ao (wt P T N A B a i):=by
 refine aN (y7 f g d) λb c=>?_;refine⟨rfl,⟨rfl,rfl⟩,rfl,⟨rfl,rfl,d,h.1⟩,by refine ac VO ?_;lia,⟨WG (W4 _),by decide⟩,n7 b.1 b.2,?_,n7 c.1 c.2,?_,ac h.2 (ac (bS.mpr rfl) rfl),trivial⟩
 ·refine ac (eQ b.1 b.2) ?_;exact U3 (VF (jO b) e) (by decide)
 ·rw[ba,eQ b.1 b.2];refine ac (eQ c.1 c.2) ?_;exact U3 (VF (VF (jO b) e) (jO c)) (by decide)
theorem Dj {x:Nat} (a:x < 3):ao (sn x):=yc a ⟨by decide,by decide,trivial⟩ ⟨by decide,by decide,trivial⟩ ⟨by decide,by decide,trivial⟩
theorem pJ {s:Vd} {c w:Int} {L:List Int} {x:Nat} {nm:Vd} (e:x < 3) (h:re s w L nm c x):ao (uA P s c w L x):=by
 have a:=II w x;have b:=IJ w x;have d:0<=(wA w x).fdiv 2/\(wA w x).fdiv 2<=4:=ac (Wl _ (by decide)) ⟨Int.ediv_nonneg a.1 (by decide),VN (Int.ediv_le_self _ a.1) (VN (Wy a.2) (by decide))⟩;have f:ao (sn x):=Dj e;have g:aK 3 x:=⟨e,by lia⟩
 refine af.mpr ⟨⟨rfl,g,⟨rfl,rfl,h.num⟩,trivial⟩,af.mpr ⟨f,af.mpr ⟨⟨by decide,trivial⟩,af.mpr ⟨f,af.mpr ⟨⟨by decide,by decide,by decide,by decide,by decide,trivial⟩,?_⟩⟩⟩⟩⟩;exact af.mpr ⟨n8 a b d.1 (by decide:0<=100) h.len (h.st _ d.1 d.2),af.mpr ⟨n8 a b a.1 (by decide:1<=100) h.len (h.st _ a.1 (by lia)),af.mpr ⟨n8 a b (by lia) (by decide:2<=100) h.len (h.st _ (by lia) (by lia)),
  af.mpr ⟨n8 a b (by decide) (by decide:3<=100) h.len (h.st _ (by decide) (by decide)),rfl,⟨by decide,by decide⟩,⟨rfl,rfl,h.ifs⟩,by refine ac VO ?_;lia,trivial⟩⟩⟩⟩
structure rf (s:Vd) (a b c:Int) (L:List Int) (w:Int):Prop where
 http:wn s (b8 s 0) (b8 s 1) (b8 s 2)
 xa:re s w L "a" a 0
 xb:re s w L "b" b 1
 xc:re s w L "c" c 2
abbrev Dk:Sp:=fW (X:=Vd×(Int×Int×Int)×List Int×Int) (λvs=>(gC (nV vs 0),(ay 0 (cr (nV vs 1)) 0,ay 0 (cr (nV vs 1)) 1,ay 0 (cr (nV vs 1)) 2),cr (nV vs 2),bU (nV vs 3))) (λx=>[.str x.1, .dat (.ints [x.2.1.1,x.2.1.2.1,x.2.1.2.2]), .dat (.ints x.2.2.1), .int x.2.2.2])
 (λx=> .ints [x.2.1.1,x.2.1.2.1,x.2.1.2.2]) λx=>rf x.1 x.2.1.1 x.2.1.2.1 x.2.1.2.2 x.2.2.1 x.2.2.2
theorem KC (J:VB) (w:V6):aX (Wz J w) 20 291 Dk:=
 dq (X:=Vd×(Int×Int×Int)×List Int×Int) (lev:=16) (k:=2) (T:=uu) (Tb:=IG w.params) (defs:=[]) (spS:=λd d=>bk) (spE:=λd d=>br) Im rfl rfl (λd h=>nomatch h) (c8 Im)
  (λg os A f i=>⟨bW (fd:=uj) (by rfl') (dH (Kw J w) (by decide)) f i,bW (fd:=ui) (by rfl') (dH (Gv J w) (by decide)) f i,bW (fd:=qM) (by rfl') (dH (yU J w) (by decide)) f i,
   bW (fd:=Ay) (by rfl') (dH (Da J w) (by decide)) f i,bW (fd:=Az) (by rfl') (Nl J w) f i,trivial⟩)
  (λd d d d d d d d d d d d d=>dw) λx o=>by
  obtain⟨s,⟨a,b,c⟩,L,j⟩:=x
  obtain⟨h0,l,m,n⟩:=o
  have e:=GI w.params s a b c j L
  rw[show pI s j 0=a from l.val,show pI s j 1=b from m.val,show pI s j 2=c from n.val] at e
  refine⟨60,_,_,e,af.mpr ⟨⟨⟨rfl,rfl,h0⟩,⟨rfl,rfl,l.elt,m.elt,n.elt⟩,⟨rfl,by decide⟩,by decide,⟨rfl,rfl⟩,rfl,by decide,rfl,trivial⟩,af.mpr ⟨pJ (by decide) l,af.mpr ⟨pJ (by decide) m,af.mpr ⟨pJ (by decide) n,rfl,trivial⟩⟩⟩⟩,rfl⟩
end
section
open PySem.W
structure cR (J:VB):Prop where
 file:((J.main.file:Vd)=="/claim/cut.py")=UZ
 top:(J.main.scope.names.lookup ("super":Vd)).isSome=U0
section
theorem Qa:te (aF P) 165 nQ eU 152 where
 obj:=(aA (fO nQ) (cA (by rfl')) rfl)
 body:=rfl
 scope:=rfl
 clo:=rfl
 code:=λh a=>kL (K:=aF P) (c:=164) (by rfl') h a
 glob:=rfl
 bu:=rfl
 cn:=rfl
 nc:=eV (by rfl')
 kinds:=jv (by rfl')
 co:=by rfl'
 gen:=by rfl'
 kind:=by rfl'
 trim:=rfl
theorem Qb:te (aF P) 188 nR gf 152 where
 obj:=(aA (fO nR) (cA (by rfl')) rfl)
 body:=rfl
 scope:=rfl
 clo:=rfl
 code:=λh a=>kL (K:=aF P) (c:=187) (by rfl') h a
 glob:=rfl
 bu:=rfl
 cn:=rfl
 nc:=eV (by rfl')
 kinds:=jv (by rfl')
 co:=by rfl'
 gen:=by rfl'
 kind:=by rfl'
 trim:=rfl
theorem Qc:te (aF P) 225 nS jo 152 where
 obj:=(aA (fO nS) (cA (by rfl')) rfl)
 body:=rfl
 scope:=rfl
 clo:=rfl
 code:=λh a=>kL (K:=aF P) (c:=224) (by rfl') h a
 glob:=rfl
 bu:=rfl
 cn:=rfl
 nc:=eV (by rfl')
 kinds:=jv (by rfl')
 co:=by rfl'
 gen:=by rfl'
 kind:=by rfl'
 trim:=rfl
noncomputable def Nt (o:Xi):Option Vd:=(mU o).bind λvs=>(vs[2]?).bind ut
noncomputable def Qd (fd:Vx):Option Vd:=(fd.params.posonlyargs++fd.params.args).head?.map (·.arg)
theorem GJ (e:cR J) {c:U8} (h1:(aF P).lookup f=UX (fO fd)) (h2:Qd fd=UX "self") (g:fd.code= .ref c) (h:((aF P).lookup c).bind Nt=UX "/claim/cut.py"):mJ J (aF P) f fd 228 152 where
 s:={
  of:=(aA _ h1 rfl)
  first:=aj (Option.map_eq_some_iff.mp h2) λi b d=>(aA i b d)
  code:=aj (Option.bind_eq_some_iff.mp h) λo b d=>aj (Option.bind_eq_some_iff.mp d) λvs j l=>aj (Option.bind_eq_some_iff.mp l) λv n p=>bI (r9 p) λt q=>
   ⟨c,o,vs,_,t,g,b,pq j,n.trans (congrArg UX q),e.file⟩
  cell:=aj (Option.map_eq_some_iff.mp (show((aF P).lookup 152).map (·.data)=UX (.cell (UX (.ref 228))) by rfl')) λo b d=>(aA o b d)
  cls:=aj (Option.map_eq_some_iff.mp (show((aF P).lookup 228).map (·.data)=UX (.cls qQ) by rfl')) λo b d=>(bL o qQ b d)
  top:=e.top
  op:=by rfl'
  sub:=by rfl'}
 c:=AQ
 m:=by rfl'
 t:=by rfl'
 a:=λk=>by cases k<;>rfl'
theorem Nu (a:cR J):mJ J (aF P) 165 nQ 228 152:=GJ a (by rfl') (by rfl') rfl (c:=164) (by rfl')
theorem Nv (a:cR J):mJ J (aF P) 188 nR 228 152:=GJ a (by rfl') (by rfl') rfl (c:=187) (by rfl')
theorem Nw (a:cR J):mJ J (aF P) 225 nS 228 152:=GJ a (by rfl') (by rfl') rfl (c:=224) (by rfl')
end
theorem GK (h1:T.scope.names.lookup ("super":Vd)=UX .globalImplicit) (h2:T.scope.names.lookup ("__class__":Vd)=UX .free) (a:T.scope.names.lookup ("self":Vd)=UX .local):Ah T:=⟨h1,h2,a⟩
def uB:Vv:=aU (aw jo.body 0)
def uC:Vv:=aU (aw gf.body 1)
def uD:Vv:=aU (aw eU.body 1)
theorem pK {x:Vd} (b:(ap.endLine==pos.line)=UZ):∃pl,Ws (.Call (.Attribute (.Call (.Name "super" p0) [] [] p1) x ap) [] [] pos) Z=(do
    let a <-Zv (.Call (.Name "super" p0) [] [] p1) x Z (Ws (.Call (.Name "super" p0) [] [] p1) Z)
    WM ap.atName
    let(f,first) <-WD [a] (W3 a x pl)
    Y3 pos f first (XW pos (WQ [] Z)) []):=by
 refine⟨(do return (<-importBound (.Call (.Name "super" p0) [] [] p1) Z).getD UZ),?_⟩
 rw[adg]
 dsimp only[methodCall]
 refine ac (rfl:aa7 (([]:List Vv).length+([]:List Keyword).length) (XW pos (WQ [] Z)) (backToKw pos (acr [] Z))=UZ) ?_
 unfold adh calleeOf
 exact ac b rfl
def nj (n:Nat) (m:M V) (vs:List V):M V:=match VC vs.length n with
 |true=>m
 |false=>fail
theorem sw {n:Nat} {m:M V} (h:vs.length=n->eS c A fz U m code):eS c A fz U (nj n m vs) code:=by
 dsimp only[nj];induction b:VC vs.length n with
 |true=>exact h (VK b)
 |false=>exact λa a a a e=>nomatch e
def T0 (P:Vc) (N:Nat):bC:=[(172,aR AK gl (λa=>bk) (λa=>br) (Gz P [] 0 N) []),(180,aR AL gl (λa=>bk) (λa=>br) (Gz P [] 0 N) []),(195,aR iL gl (λa=>bk) (lK 197015084 (aU (aw iL.body 0)) (λa C=>Ao 228 C) N) (Gz P [] 0 N) []),
 (202,aR iM gl (λa=>bk) (lK 200015086 (aU (aw iM.body 0)) (λa C=>Ap 228 C) N) (Gz P [] 0 N) []),(225,λvs=>nj 1 (gV jo (vP 228 jo gl) vs) vs),(165,λvs=>nj 2 (gV eU (t8 228 eU gl (Gz P [] 0 N) (aw eU.body 0)) vs) vs)]
abbrev gk (c:Cx) (A:Vm) (a:U8) (m:List V->M V):Prop:=(∃b,(a,b)∈c.KK/\((∃fd,b.data= .func fd)∨((∃d,b.data= .cls d)/\ab9 c.KK (.ref a) "__call__"=UX (UX (.builtin "type.__call__")))))/\∀fz U vs xs,av fz U vs xs->eS c A fz U (m vs) (.call (.ref a) ⟨xs,[]⟩)
section
theorem wu {m:List V->M V} (b:(aF w.params).lookup a=UX (fO fd)) (h:∀fz U vs xs,av fz U vs xs->eS ((Wz J w).cx g os) A fz U (m vs) (.call (.ref a) ⟨xs,[]⟩)):gk ((Wz J w).cx g os) A a m:=⟨(aA (fO fd) (cA b) (.inl ⟨fd,rfl⟩)),h⟩
theorem Dl (b:cI g) (d:∀A,aP lev A->gY ((Wz J w).cx g os) A Tb) (e:aP (lev+1+k) A):cp ((Wz J w).cx g os) A (aZ w.params Tb bZ ce gl N k):=nP (c:=(Wz J w).cx g os) b qS (λf a=>(d f a).x) dG lim k A e
theorem nk (a:cI g) (b:∀A,aP lev A->gY ((Wz J w).cx g os) A Tb) (c:aP (lev+1+k+1) A) (C:Ec) (Z:Yk):bG ((Wz J w).cx g os) (A.deeper Z) C Z (Gz w.params Tb k N C):=d5 (Dl a b (c.deeper Z)) N C Z
theorem hZ {spE:Nat->Ec->Nat->Option (Vv×M V)} (F:bz (aF w.params) f fd T) (j:(aF w.params).lookup f=UX (fO fd)) (h1:fd.globals=mainGlobals) (h2:fd.builtins=builtinsNs) (htr:T.trim=UY) (e:∀A,aP lev A->gY ((Wz J w).cx g os) A Tb)
  (c:∀A L Z fz U,aP (lev+1+k) A->cp ((Wz J w).cx g os) A (aZ w.params Tb bZ ce gl N k)->f9 Z fd f->aI ((Wz J w).cx g os) (be T [] gl (λa=>bk) (spE N) L) Z U->eh ((Wz J w).cx g os) A (be T [] gl (λa=>bk) (spE N) L) Z fz U) (i:cI g) (b:aP (lev+1+k+1) A):
  gk ((Wz J w).cx g os) A f (aR T gl (λa=>bk) (spE N) (Gz w.params Tb k N) []):=
 wu j λfz U vs o l=>ym F h1 h2 dG lim (by have:=b.depth;lia) (λP h=>by rw[htr] at h;exact nn h) (λC Z=>nk i e b C Z) (λL Z d ρ' k q m n=>c _ L Z d ρ' (b.deeper Z) (Dl i e (b.deeper Z)) m n) l
theorem Nx (e:cR J) (f:aP 1 A):gk ((Wz J w).cx g os) A 225 λvs=>nj 1 (gV jo (vP 228 jo gl) vs) vs:=
 wu (fd:=nS) (by rfl') λj U vs h b=>sw λd=>Aj (c:=(Wz J w).cx g os) (Nw e) pA Qc (GK (by rfl') (by rfl') (by rfl')) (λZ a=>pK (by rfl')) (show jo.body=[.Return (UX (mK .len (dK (cm (cm (cm uB)))) (dK (cm (cm uB))) (dK (cm uB)) (dK uB))) (fV (aw jo.body 0))] by rfl') dG lim (by have:=f.depth;lia) d (λs i=>PE s h i (b.length.trans d)) b
theorem Dm (f:cR J) (i:cI g) (b:aP 2 A):gk ((Wz J w).cx g os) A 165 λvs=>nj 2 (gV eU (t8 228 eU gl (Gz w.params [] 0 N) (aw eU.body 0)) vs) vs:=
 wu (fd:=nQ) (by rfl') λm U vs j d=>sw λe=>Ak (c:=(Wz J w).cx g os) (Nu f) pA Qa (GK (by rfl') (by rfl') (by rfl')) (λZ a=>pK (by rfl')) (show eU.body=[aw eU.body 0, .Expr (mK .init (dK (cm (cm (cm uD)))) (dK (cm (cm uD))) (dK (cm uD)) (dK uD)) (fV (aw eU.body 1))] by rfl')
  (λZ h=>by dsimp only[Yp];refine ac h ?_;rfl') (λZ h=>by rfl') dG lim (by have:=b.depth;lia) (λC Z=>nk (Tb:=[]) (lev:=0) (k:=0) i (λa a=>trivial) b C Z) e (λs l=>Pq s j l (d.length.trans e)) d
theorem IK {T:fB} (h:T∈oR) (d:f9 Z fd f) (i:aI ((Wz J w).cx g os) C Z U) (a:fd.code= .ref T.c) (j:((aF w.params).lookup T.c).map (se T.P)=UX UZ) (e:T.c≠T.P) (k:4≠T.P) (l:mainGlobals≠T.P) (m:T.qual=fd.qualname++".<locals>."++"<genexpr>") (hl:T.line=pos.line) (b:T.col=pos.col) (n:fd.globals=mainGlobals) (o:fd.builtins=builtinsNs):
  Am ((Wz J w).cx g os) Z T pos where
 code:=d.code.trans a
 mem:=h
 uniq:=wa h
 hd:=tm j e
 qual:=ac d.qual m
 line:=hl
 col:=b
 glob:=d.glob.trans n
 bu:=d.bu.trans o
 bm:=Rf k
 gp:=l
 lim:=lim
 kind:=i.kind
theorem Ny (f:cI g) (b:aP 2 A):gk ((Wz J w).cx g os) A 195 (aR iL gl (λa=>bk) (lK 197015084 (aU (aw iL.body 0)) (λa C=>Ao 228 C) N) (Gz w.params [] 0 N) []):=
 hZ (lev:=0) (k:=0) (fd:=uf) Py (by rfl') rfl rfl rfl (λa a=>trivial) (λA L Z d U b i h e=>nZ (by refine Fy (scope:=Q1 (ay xz (kz (aU (aw iL.body 0))) 0)) (gpos:=dK (ay xz (kz (aU (aw iL.body 0))) 0)) (c:=(Wz J w).cx g os) (A:=A) (fz:=d) (U:=U) (C:=hV iL L) (Z:=Z) (D:=228) (T:=tI 194 190 197 19 "_Accumulator.__len__.<locals>.<genexpr>") {e with} b.handled (by have:=b.depth;lia) (IK (.tail _ (.tail _ (.tail _ (.head _)))) h e rfl (by rfl') (by decide) (by decide) (by decide) (by rfl') rfl rfl rfl rfl) ⟨by rfl',rfl,eV (by rfl'),by rfl',by rfl',by rfl',by decide,by rfl'⟩ AR (by rfl') (by rfl') (by rfl') (by rfl') (by rfl') (by rfl') dG)) f b
theorem Nz (f:cI g) (b:aP 2 A):gk ((Wz J w).cx g os) A 202 (aR iM gl (λa=>bk) (lK 200015086 (aU (aw iM.body 0)) (λa C=>Ap 228 C) N) (Gz w.params [] 0 N) []):=
 hZ (lev:=0) (k:=0) (fd:=ug) PA (by rfl') rfl rfl rfl (λa a=>trivial) (λA L Z d U b i h e=>nZ (by refine Fz (scope:=Q1 (ay xz (kz (aU (aw iM.body 0))) 0)) (gpos:=dK (ay xz (kz (aU (aw iM.body 0))) 0)) (c:=(Wz J w).cx g os) (A:=A) (fz:=d) (U:=U) (C:=hV iM L) (Z:=Z) (D:=228) (T:=tI 201 197 200 32 "_Accumulator.__str__.<locals>.<genexpr>") (g0:="EMPTYSTRING") {e with} b.handled (by have:=b.depth;lia) (IK (.tail _ (.tail _ (.tail _ (.tail _ (.head _))))) h e rfl (by rfl') (by decide) (by decide) (by decide) (by rfl') rfl rfl rfl rfl) ⟨by rfl',rfl,eV (by rfl'),by rfl',by rfl',by rfl',by decide,by rfl'⟩ AR (by rfl') (by rfl') (by rfl') (t0:=283) (by rfl') (by rfl') dG (by rfl') (by rfl'))) f b
theorem uE (d:cR J) (c:cI g) (b:aP 2 A):gY ((Wz J w).cx g os) A (T0 w.params N):=
 ⟨hZ (spE:=λa a=>br) (lev:=0) (k:=0) (fd:=ud) Ps (by rfl') rfl rfl rfl (λa a=>trivial) (λa a a a a a a a a=>dw) c b,hZ (spE:=λa a=>br) (lev:=0) (k:=0) (fd:=ue) Pv (by rfl') rfl rfl rfl (λa a=>trivial) (λa a a a a a a a a=>dw) c b,Ny c b,Nz c b,Nx d (b.le (by decide)),Dm d c b,trivial⟩
end
noncomputable def GL (m:List V->M V) (vs:List V):M V:=match VC vs.length 1 with
 |true=>m (vs++[.none])
 |false=>m vs
def Dn (P:Vc) (N:Nat) (vs:List V):M V:=nj 1 (gV gf (Mq 228 gf gl (Gz P (T0 P N) 0 N) (aU (aw gf.body 0)) (cL (aw gf.body 0))) vs) vs
def T1 (P:Vc) (N:Nat):bC:=(188,Dn P N)::(210,GL (aR lE gl (λa=>bk) (λa=>br) (Gz P (T0 P N) 0 N) []))::(217,aR AM gl (λa=>bk) (λa=>br) (Gz P (T0 P N) 0 N) [])::
 (228,vT UZ 228 λvs=>nj 2 (gV eU (t8 228 eU gl (Gz P [] 0 N) (aw eU.body 0)) vs) vs)::T0 P N
def rg:Vv:=aU (aw (cL (aw nT.body 1)) 0)
def wv (P:Vc):Nat->Ec->Nat->Option (Vv×M V):=lK 131012049 rg λN C=>H3 (T1 P N) bZ C (Gz P (T1 P N) 0 N C) (cm (cm rg)) "push" "end_of_line"
def T2 (P:Vc) (N:Nat):bC:=(106,aR nT gl (λa=>bk) (wv P N) (Gz P (T1 P N) 0 N) [])::(85,aR v4 gl (λa=>bk) (λa=>br) (Gz P (T1 P N) 0 N) [])::T1 P N
def T3 (P:Vc) (N:Nat):bC:=(141,aR AJ gl (λa=>bk) (λa=>br) (Gz P (T2 P N) 0 N) [])::(92,aR F9 gl (λa=>bk) (λa=>br) (Gz P (T2 P N) 0 N) [])::(144,vT U0 144 (aR v4 gl (λa=>bk) (λa=>br) (Gz P (T1 P N) 0 N) []))::T2 P N
section
theorem NA (d:bv (aF P) s.heap) (h:(xs++[Xh]).length=lE.params.length):Yg s qL ⟨xs,[]⟩ (lE.params.zip (xs++[.none])):=by
 have f:xs.length=1:=by have:(xs++[Xh]).length=2:=h.trans (show lE.params.length=2 by rfl');simpa using this
 refine bI (AG f) λa c=>(c.symm▸ ?_)
 exact W.kp_binds (K:=aF P) (λb o e=>d (b,o) (cA e)) λS=>by rfl'
theorem NB (l:cR J) (d:cI g) (b:aP 4 A):gk ((Wz J w).cx g os) A 210 (GL (aR lE gl (λa=>bk) (λa=>br) (Gz w.params (T0 w.params N) 0 N) [])):=by
 have f:∀A,aP 2 A->gY ((Wz J w).cx g os) A (T0 w.params N):=λA b=>uE l d b;refine wu (fd:=qL) (by rfl') λp U vs i j=>?_;dsimp only[GL];induction r:VC vs.length 1 with
 |true=>exact o9 (c:=(Wz J w).cx g os) (vs:=vs++[V.none]) (xs:=i++[.none]) Ic rfl rfl dG lim (by have:=b.depth;lia) (λP h=>nomatch h) (λC Z=>nk (lev:=2) (k:=0) d f b C Z) (λL Z e ρ' k q m n=>dw) (nF j (.cons .none .nil)) λs o h=>NA o h
 |false=>exact ym Ic rfl rfl dG lim (by have:=b.depth;lia) (λP h=>nomatch h) (λC Z=>nk (lev:=2) (k:=0) d f b C Z) (λL Z e ρ' k q m n=>dw) j
theorem NC (d:cR J) (e:cI g) (b:aP 4 A):gk ((Wz J w).cx g os) A 188 (Dn w.params N):=
 wu (fd:=nR) (by rfl') λl U vs i f=>sw λh=>Cs (c:=(Wz J w).cx g os) (Nv d) pA Qb (GK (by rfl') (by rfl') (by rfl')) (λZ a=>pK (by rfl'))
  (show gf.body=[.If (aU (aw gf.body 0)) (cL (aw gf.body 0)) [] (fV (aw gf.body 0)), .Return (UX (mK .pop (dK (cm (cm (cm uC)))) (dK (cm (cm uC))) (dK (cm uC)) (dK uC))) (fV (aw gf.body 1))] by rfl') dG lim (by have:=b.depth;lia) (λC Z=>nk (lev:=2) (k:=0) e (λA b=>uE d e b) b C Z) h (λs j=>Pw s i j (f.length.trans h)) f
theorem ND {l:Bool} {C:U8} {m:List V->M V} {cd:adx} (e:((aF w.params).lookup C).map (·.data)=UX (.cls cd)) (hs:ab9 (aF w.params) (.ref C) "__call__"=UX (UX (.builtin "type.__call__"))) (i:lC (aF w.params) l C f) {n:Nat} (j:aP (n+1) A) (h:∀A,aP n A->gk ((Wz J w).cx g os) A f m):gk ((Wz J w).cx g os) A C (vT l C m):=by exact aj (Option.map_eq_some_iff.mp e) λo k p=>⟨(aA o (cA k) (.inr ⟨⟨cd,p⟩,hs⟩)),λb U vs c a=>FK i a λb U vs c C d a=>(h _ j.new).2 b U vs c a⟩
theorem uF (d:cR J) (c:cI g) (b:aP 4 A):gY ((Wz J w).cx g os) A (T1 w.params N):=
 ⟨NC d c b,NB d c b,hZ (spE:=λa a=>br) (lev:=2) (k:=0) (fd:=uh) PD (by rfl') rfl rfl rfl (λA b=>uE d c b) (λa a a a a a a a a=>dw) c b,
  ND (n:=2) (cd:=qQ) (by rfl') Kj MW (b.le (by decide)) λA b=>Dm d c b,uE d c (b.le (by decide))⟩
theorem NE (i:cR J) (e:cI g) (b:aP 6 A):gk ((Wz J w).cx g os) A 106 (aR nT gl (λa=>bk) (wv w.params N) (Gz w.params (T1 w.params N) 0 N) []):=
 hZ (spE:=wv w.params) (lev:=4) (k:=0) (fd:=ub) Pn (by rfl') rfl rfl rfl (λA b=>uF i e b) (λA L Z m U b j n l=>nZ (by
  refine FM (v:=cm (cm rg)) (nm:="push") (y:="end_of_line") (C:=hV nT L) (T:=T1 w.params N) ⟨{l with},⟨λa a a h=>(nomatch h),λa a a h=>(nomatch h)⟩⟩ (d5 j N _ Z) qS (uF i e (b.le (by decide))).x (by rfl') (by rfl') ?_;rintro t c f d;rcases List.mem_cons.mp c with rfl|c
  ·simp only[show lk "push" Gc.meths=UX (.con (.ref 172)) by rfl'] at d;cases d;exact MX
  ·rcases List.mem_cons.mp c with rfl|c
   ·simp only[show lk "push" Gb.meths=UY by rfl'] at d;exact nn d
   ·cases c)) e b
theorem IL (d:cR J) (c:cI g) (b:aP 6 A):gk ((Wz J w).cx g os) A 85 (aR v4 gl (λa=>bk) (λa=>br) (Gz w.params (T1 w.params N) 0 N) []):=
 hZ (spE:=λa a=>br) (lev:=4) (k:=0) (fd:=AA) RV (by rfl') rfl rfl rfl (λA b=>uF d c b) (λa a a a a a a a a=>dw) c b
theorem Bg (a:cR J) (b:cI g) (c:aP 6 A):gY ((Wz J w).cx g os) A (T2 w.params N):=⟨NE a b c,IL a b c,uF a b (c.le (by decide))⟩
theorem Qe (d:cR J) (c:cI g) (b:aP 8 A):gY ((Wz J w).cx g os) A (T3 w.params N):=
 ⟨hZ (spE:=λa a=>br) (lev:=6) (k:=0) (fd:=uc) Pp (by rfl') rfl rfl rfl (λA b=>Bg d c b) (λa a a a a a a a a=>dw) c b,hZ (spE:=λa a=>br) (lev:=6) (k:=0) (fd:=AB) RX (by rfl') rfl rfl rfl (λA b=>Bg d c b) (λa a a a a a a a a=>dw) c b,
  ND (n:=6) (cd:=AE) (by rfl') Ki MV (b.le (by decide)) λA b=>IL d c b,Bg d c (b.le (by decide))⟩
end
end
section
section
def uG (P:Vc):bC:=(272,dY P [U0,U0] wf)::(277,dY P [U0,U0] Di)::T3 P 60
def Do (P:Vc):FT:={dS with trim:=UX P}
def NF (P:Vc):Ec:=be (Do P) [] gl (λa=>bk) (λa=>br) 0
abbrev oL (P:Vc):=aZ P (uG P) bZ ce gl 60 2
abbrev mL (P:Vc) (n:Nat):=aE (oL P) n (NF P)
def oW:V4:=aw dS.body 2
structure Lt where
 a:Int
 b:Int
 c:Int
 w:Int
 W:Int
 L:List Int
noncomputable def gF:Nat->Vd
 |2=>""
 |_=>","
noncomputable def bx:Nat->Bool
 |2=>U0
 |_=>UZ
noncomputable def Lt.n (d:Lt):Nat->Int
 |0=>d.a
 |1=>d.b
 |_=>d.c
noncomputable def nL (x:Nat):Vd:=X7 "abc" x++"="
def vL (d:Lt) (x:Nat):Vd:=gE (bN (d.n x) d.L) ((d.w.fdiv (36^x)).fmod 36)++gF x
noncomputable def eL (d:Lt) (x:Nat):Vd:=" "++nL x++vL d x
noncomputable def bg (d:Lt):Nat->List (Vd×V)
 |0=>[]
 |x+1=>[("x", .int x),("name", .str (nL x)),("value", .str (vL d x))]
noncomputable def pV (p:Vd×Vd):V:= .dat (.tup [.str p.1, .str p.2])
noncomputable def bF (d:Lt) (e:List (Vd×V)) (ps:List (Vd×Vd)) (ls rs:List Vd) (it:O):List O:=
 [.frame (([("counts", .dat (.ints [d.a,d.b,d.c])),("sizes", .dat (.ints d.L)),("way", .int d.w),("width", .int d.W),("page", .ref 2),("rows", .ref 8)]:List (Vd×V))++e),
  .dict [("_maxlen", .int d.W),("_continuation_ws", .str " "),("_continuation_ws_len", .int 1),("_splitchars", .str ","),("_lines", .ref 4),("_current_line", .ref 6)], .inst 144 1 UY,
  .frame [("self", .ref 2),("headerlen", .int 0),("maxlen", .int d.W),("continuation_ws", .str " "),("splitchars", .str ",")], .list (ls.map V.str), .dict [("_initial_size", .int 0)], .inst 228 5 (UX (ps.map pV)), .frame [("self", .ref 6),("initial_size", .int 0)], .list (rs.map V.str), .range 0 3 1,it]
abbrev tL (P:Vc) (n:Nat) (S:St):=gZ (NF P) (oL P) (mL P (n+40)) (aU oW) 10 (cL oW) [] S
def sx:Vv:=aU (aw iL.body 0)
def sy:Vv:=aU (aw iM.body 0)
def ww (d:Lt) (x:Nat):List Prop:=[UZ=UZ,UZ=UZ/\UZ=UZ,(2:Nat)<=Vb,aK 3 x,[V.int (d.n x),eA (.ints d.L)]=[V.int (d.n x),eA (.ints d.L)]/\([]:List O)=[]/\sg (d.n x) d.L]++(sn x++[(36:Int)≠0,
 [V.str (bN (d.n x) d.L),V.int ((d.w.fdiv (36^x)).fmod 36)]=[V.str (bN (d.n x) d.L),V.int ((d.w.fdiv (36^x)).fmod 36)]/\([]:List O)=[]/\(bN (d.n x) d.L).length<=200,bx x=bx x,(gE (bN (d.n x) d.L) ((d.w.fdiv (36^x)).fmod 36)).length+(gF x).length<=16777216])
def jP (W:Int) (ps:List (Vd×Vd)) (o:Bool):List Prop:=[(2:Nat)<=Vb,ps.length - 1<=1000,sx=sx,(0:Int)=0/\aC ps < 2^40,(0:Int)<=(aC ps:Int)/\(aC ps:Int) < 2^62,decide (W < (aC ps:Int))=o]
noncomputable def lO (n:Nat):List Prop:=[UZ=UZ,n<=1000,(-1:Int)≠0/\(1:Nat) < 1000,UZ=UZ]
noncomputable def Bh (i n:Nat):List Prop:=[UZ=UZ,U0=U0,i < n/\i < 2^62,(1:Nat) < 2/\(1:Nat) < 2^62,(2:Nat) < 2^62,UZ=UZ,UZ=UZ/\UZ=UZ,U0=U0,U0=U0]
def wx (i n:Nat) (q:Vd):List Prop:=[UZ=UZ,U0=U0,i < n/\i < 2^62,(1:Nat) < 2/\(1:Nat) < 2^62,q.length < 2^62,(!decide (q.length=0))=UZ,abf (-1)=UZ/\(Xz q (-1)).isSome=UZ,sq (X7 q (-1)) ","=UZ,UZ=UZ]
def wz (i n:Nat) (ps:List (Vd×Vd)) (a:Nat):List Prop:=[i<=n/\n<=1000,(0:Nat)<=Vb,i<=n/\n<=1000,sy=sy,aC ps<=16777216/\ps.length<=1000,a<=Vb,U0=U0,n<=1000,(1:Nat)<=1000]
noncomputable def GN (n:Nat):List Prop:=[U0=U0,U0=U0,n<=1000,U0=U0,0 < n/\n<=1000,U0=U0,(2:Nat)<=Vb,n - 1<=1000]
noncomputable def gL:List Prop:=[U0=U0]
def ee (rs:List Vd):Vd:=ay Vl rs (rs.length - 1)
def sA (d:Lt) (x:Nat) (rs:List Vd) (o:Bool):List Prop:=[(0:Nat)<=Vb,VS (eP UZ (rs.map Yv))=UZ/\UZ=UZ,UZ=UZ,aK rs.length (-1),(ee rs).length+1<=16777216,(ee rs++" ").length+(nL x).length<=16777216,(ee rs++" "++nL x).length+(vL d x).length<=16777216,
 (ee rs++" "++nL x++vL d x).length < 2^62,decide (((ee rs++" "++nL x++vL d x).length:Int)<=d.W)=o,o=o]
def NG (d:Lt) (x:Nat) (rs:List Vd):List Prop:=[aK rs.length (-1),1+(nL x).length<=16777216,(" "++nL x).length+(vL d x).length<=16777216,(ee rs).length+(eL d x).length<=16777216,aK rs.length (-1)]
noncomputable def np (d:Lt) (x:Nat) (rs:List Vd):List Prop:=[1+(nL x).length<=16777216,(" "++nL x).length+(vL d x).length<=16777216,rs.length<=Vb]
noncomputable def GO:List Prop:=[(0:Nat)<=Vb,UZ=UZ/\UZ=UZ,U0=U0,U0=U0]
noncomputable abbrev A1 (x:Nat):Vd×Vd:=(" ",nL x)
noncomputable abbrev B1 (d:Lt) (x:Nat):Vd×Vd:=("",vL d x)
def IM (d:Lt) (x:Nat) (ps:List (Vd×Vd)) (rs:List Vd):List Prop:=ww d x++(jP d.W (ps++[A1 x]) U0++(gL++(jP d.W (ps++[A1 x,B1 d x]) U0++(gL++(gL++(sA d x rs UZ++NG d x rs))))))
def IN (d:Lt) (x:Nat) (ps:List (Vd×Vd)) (q:Vd) (a:Nat) (rs:List Vd):List Prop:=ww d x++(jP d.W (ps++[A1 x]) U0++(gL++(jP d.W (ps++[A1 x,B1 d x]) UZ++(lO (ps.length+2)++(Bh ps.length (ps.length+2)++(wx (ps.length - 1) (ps.length+2) q++(wz ps.length (ps.length+2) ps a++(gL++(gL++(sA d x rs U0++np d x rs))))))))))
def IP (d:Lt) (x:Nat) (ps:List (Vd×Vd)) (q:Vd) (a:Nat) (rs:List Vd):List Prop:=ww d x++(jP d.W (ps++[A1 x]) UZ++(lO (ps.length+1)++(wx (ps.length - 1) (ps.length+1) q++(wz ps.length (ps.length+1) ps a++(gL++(jP d.W [A1 x,B1 d x] U0++(gL++(gL++(sA d x rs U0++np d x rs)))))))))
def IQ (d:Lt) (x:Nat) (ps:List (Vd×Vd)) (q:Vd) (a:Nat) (rs:List Vd):List Prop:=ww d x++(jP d.W (ps++[A1 x]) UZ++(lO (ps.length+1)++(wx (ps.length - 1) (ps.length+1) q++(wz ps.length (ps.length+1) ps a++(gL++(jP d.W [A1 x,B1 d x] UZ++(lO 2++(Bh 0 2++(GN 2++(gL++(gL++(sA d x rs U0++np d x rs))))))))))))
noncomputable def NH:List Bool:=[UZ,U0,UZ,U0,U0]
noncomputable def NI:List Bool:=[UZ,U0,UZ,UZ,UZ]
noncomputable def UA:List Bool:=[UZ,UZ,UZ]
noncomputable def NJ:List Bool:=[UZ,U0,U0]
def NK (x:Nat):List Bool:=[UZ,bx x,U0,U0,U0,U0,U0]++UA
def IR (x:Nat):List Bool:=[UZ,bx x,U0,U0,UZ]++[UZ]++NH++NI++[U0]++[U0,U0]++NJ
def IS (x:Nat):List Bool:=[UZ,bx x,UZ]++[UZ]++NI++[U0]++[U0,U0,U0,U0]++NJ
def IT (x:Nat):List Bool:=[UZ,bx x,UZ]++[UZ]++NI++[U0]++[U0,UZ]++[UZ]++NH++[U0]++[U0]++[U0,U0]++[U0,U0]++NJ
section
variable (P:Vc) (d:Lt) (N:Nat) (o:List Bool) (p0 q0 p1 q1 p2 q2 l0 l1 r0 r1 r2:Vd)
theorem SY:tL P N ⟨bF d (bg d 0) [] [] [] (.rngIt 0 3 1),[UZ,UZ,U0,U0,U0,U0,U0,U0,U0]++o⟩=UX (UY,⟨bF d (bg d 1) [A1 0,B1 d 0] [] [eL d 0] (.rngIt 1 2 1),o⟩,ww d 0++(jP d.W [A1 0] U0++(gL++(jP d.W [A1 0,B1 d 0] U0++(gL++(gL++(GO++np d 0 []))))))):=by rfl'
theorem SZ:tL P N ⟨bF d (bg d 0) [] [] [] (.rngIt 0 3 1),[UZ,UZ,U0,U0,UZ,UZ]++NH++[U0,U0,U0,U0,U0,U0,U0,U0]++o⟩=UX (UY,⟨bF d (bg d 1) [A1 0,B1 d 0] [] [eL d 0] (.rngIt 1 2 1),o⟩,ww d 0++(jP d.W [A1 0] U0++(gL++(jP d.W [A1 0,B1 d 0] UZ++(lO 2++(Bh 0 2++(GN 2++(gL++(gL++(GO++np d 0 [])))))))))):=by rfl'
theorem Qf:tL P N ⟨bF d (bg d 1) [(" ",p0),("",q0)] [] [r0] (.rngIt 1 2 1),NK 1++o⟩=UX (UY,⟨bF d (bg d 2) [(" ",p0),("",q0),A1 1,B1 d 1] [] [r0++eL d 1] (.rngIt 2 1 1),o⟩,IM d 1 [(" ",p0),("",q0)] [r0]):=by rfl'
theorem Qg:tL P N ⟨bF d (bg d 1) [(" ",p0),("",q0)] [] [r0] (.rngIt 1 2 1),IR 1++o⟩=UX (UY,⟨bF d (bg d 2) [A1 1,B1 d 1] [aT [(" ",p0),("",q0)]] [r0,eL d 1] (.rngIt 2 1 1),o⟩,IN d 1 [(" ",p0),("",q0)] q0 0 [r0]):=by rfl'
theorem Qh:tL P N ⟨bF d (bg d 1) [(" ",p0),("",q0)] [] [r0] (.rngIt 1 2 1),IS 1++o⟩=UX (UY,⟨bF d (bg d 2) [A1 1,B1 d 1] [aT [(" ",p0),("",q0)]] [r0,eL d 1] (.rngIt 2 1 1),o⟩,IP d 1 [(" ",p0),("",q0)] q0 0 [r0]):=by rfl'
theorem Qi:tL P N ⟨bF d (bg d 1) [(" ",p0),("",q0)] [] [r0] (.rngIt 1 2 1),IT 1++o⟩=UX (UY,⟨bF d (bg d 2) [A1 1,B1 d 1] [aT [(" ",p0),("",q0)]] [r0,eL d 1] (.rngIt 2 1 1),o⟩,IQ d 1 [(" ",p0),("",q0)] q0 0 [r0]):=by rfl'
theorem NL:tL P N ⟨bF d (bg d 2) [(" ",p0),("",q0),(" ",p1),("",q1)] [] [r0] (.rngIt 2 1 1),NK 2++o⟩=UX (UY,⟨bF d (bg d 3) [(" ",p0),("",q0),(" ",p1),("",q1),A1 2,B1 d 2] [] [r0++eL d 2] (.rngIt 3 0 1),o⟩,IM d 2 [(" ",p0),("",q0),(" ",p1),("",q1)] [r0]):=by rfl'
theorem NN:tL P N ⟨bF d (bg d 2) [(" ",p0),("",q0),(" ",p1),("",q1)] [] [r0] (.rngIt 2 1 1),IR 2++o⟩=UX (UY,⟨bF d (bg d 3) [A1 2,B1 d 2] [aT [(" ",p0),("",q0),(" ",p1),("",q1)]] [r0,eL d 2] (.rngIt 3 0 1),o⟩,IN d 2 [(" ",p0),("",q0),(" ",p1),("",q1)] q1 0 [r0]):=by rfl'
theorem NO:tL P N ⟨bF d (bg d 2) [(" ",p0),("",q0),(" ",p1),("",q1)] [] [r0] (.rngIt 2 1 1),IS 2++o⟩=UX (UY,⟨bF d (bg d 3) [A1 2,B1 d 2] [aT [(" ",p0),("",q0),(" ",p1),("",q1)]] [r0,eL d 2] (.rngIt 3 0 1),o⟩,IP d 2 [(" ",p0),("",q0),(" ",p1),("",q1)] q1 0 [r0]):=by rfl'
theorem NP:tL P N ⟨bF d (bg d 2) [(" ",p0),("",q0),(" ",p1),("",q1)] [] [r0] (.rngIt 2 1 1),IT 2++o⟩=UX (UY,⟨bF d (bg d 3) [A1 2,B1 d 2] [aT [(" ",p0),("",q0),(" ",p1),("",q1)]] [r0,eL d 2] (.rngIt 3 0 1),o⟩,IQ d 2 [(" ",p0),("",q0),(" ",p1),("",q1)] q1 0 [r0]):=by rfl'
theorem NQ:tL P N ⟨bF d (bg d 2) [(" ",p0),("",q0)] [l0] [r0,r1] (.rngIt 2 1 1),NK 2++o⟩=UX (UY,⟨bF d (bg d 3) [(" ",p0),("",q0),A1 2,B1 d 2] [l0] [r0,r1++eL d 2] (.rngIt 3 0 1),o⟩,IM d 2 [(" ",p0),("",q0)] [r0,r1]):=by rfl'
theorem NR:tL P N ⟨bF d (bg d 2) [(" ",p0),("",q0)] [l0] [r0,r1] (.rngIt 2 1 1),IR 2++o⟩=UX (UY,⟨bF d (bg d 3) [A1 2,B1 d 2] [l0,aT [(" ",p0),("",q0)]] [r0,r1,eL d 2] (.rngIt 3 0 1),o⟩,IN d 2 [(" ",p0),("",q0)] q0 1 [r0,r1]):=by rfl'
theorem NS:tL P N ⟨bF d (bg d 2) [(" ",p0),("",q0)] [l0] [r0,r1] (.rngIt 2 1 1),IS 2++o⟩=UX (UY,⟨bF d (bg d 3) [A1 2,B1 d 2] [l0,aT [(" ",p0),("",q0)]] [r0,r1,eL d 2] (.rngIt 3 0 1),o⟩,IP d 2 [(" ",p0),("",q0)] q0 1 [r0,r1]):=by rfl'
theorem NT:tL P N ⟨bF d (bg d 2) [(" ",p0),("",q0)] [l0] [r0,r1] (.rngIt 2 1 1),IT 2++o⟩=UX (UY,⟨bF d (bg d 3) [A1 2,B1 d 2] [l0,aT [(" ",p0),("",q0)]] [r0,r1,eL d 2] (.rngIt 3 0 1),o⟩,IQ d 2 [(" ",p0),("",q0)] q0 1 [r0,r1]):=by rfl'
theorem UC (ps:List (Vd×Vd)) (ls rs:List Vd):tL P N ⟨bF d (bg d 3) ps ls rs (.rngIt 3 0 1),U0::o⟩=UX (UX .next,⟨bF d (bg d 3) ps ls rs .dead,o⟩,gL):=by rfl'
noncomputable def NU:List Prop:=[(0:Nat)<=1000,(1:Nat)<=1000,(1:Nat) < 2^62,(2:Nat)<=1000,(3:Nat)<=1000,(0:Nat)<=Vb,(4:Nat)<=1000,(0:Nat)<=1000,(0:Nat)<=1000,(5:Nat)<=1000,(0:Nat)<=Vb]
theorem Qj:cG (mL P (N+41)).ex [aw dS.body 0,aw dS.body 1] ⟨(bF d [] [] [] [] .dead).take 1|>.map λe=> .frame [("counts", .dat (.ints [d.a,d.b,d.c])),("sizes", .dat (.ints d.L)),("way", .int d.w),("width", .int d.W)],o⟩=UX (.next,⟨(bF d [] [] [] [] .dead).take 9,o⟩,NU):=by rfl'
theorem S9:bnd ((mL P (N+40)).ev (uU (aw dS.body 2))) (oL P).iter ⟨(bF d [] [] [] [] .dead).take 9,o⟩=UX (.ref 10,⟨bF d [] [] [] [] (.rngIt 0 3 1),o⟩,[UZ=UZ]):=by rfl'
noncomputable def pL:List Bool:=[U0,UZ,UZ,UZ,U0,U0,U0,UZ,U0]
abbrev lP (P:Vc) (n:Nat) (S:St):=bnd (bnd (cG (mL P (n+41)).ex [aw dS.body 3,aw dS.body 4,aw dS.body 5]) (λf=>match f with| .ret v=>ret v| .next=>ret .none|_=>fail)) (λv=>cj P 9 v) S
def sB (ps:List (Vd×Vd)) (q:Vd) (ls rs:List Vd):List Prop:=[ps.length<=1000,U0=U0,0 < ps.length/\ps.length<=1000,(2:Nat)<=Vb,VS (eP U0 (YL Yv [("":Vd),q]))=UZ/\UZ=UZ,UZ=UZ,rg=rg,(2:Nat)<=1000,(2:Nat)<=Vb,ps.length - 1<=1000,
 sx=sx,(0:Int)=0/\aC ps < 2^40,(0:Int)<=(aC ps:Int)/\(aC ps:Int) < 2^62,decide ((0:Int) < (aC ps:Int))=UZ,UZ=UZ,sx=sx,(0:Int)=0/\aC ps < 2^40,(0:Int)<=(aC ps:Int)/\(aC ps:Int) < 2^62,(!!decide ((aC ps:Int)=0))=U0,sy=sy,aC ps<=16777216/\ps.length<=1000,abM (aT ps)=U0,U0=U0,
 sy=sy,aC ps<=16777216/\ps.length<=1000,ls.length<=Vb,UZ=UZ,(0:Nat)<=Vb,ps.length<=1000,(1:Nat)<=1000,acP "\n" (ls++[aT ps])=UZ,acP "\n" rs=UZ,(!sq (WA "\n" (ls++[aT ps])) (WA "\n" rs))=U0]
noncomputable abbrev je (r:Option (D×St×List Prop)):Option (D×List Prop):=r.map λr=>(r.1,r.2.2)
theorem Ta:je (lP P N ⟨bF d (bg d 3) [(" ",p0),("",q0),(" ",p1),("",q1),(" ",p2),("",q2)] [] [r0] .dead,pL⟩)=UX (.str (WA "\n" ([]++[aT [(" ",p0),("",q0),(" ",p1),("",q1),(" ",p2),("",q2)]])),sB [(" ",p0),("",q0),(" ",p1),("",q1),(" ",p2),("",q2)] q2 [] [r0]):=by rfl'
theorem Tc:je (lP P N ⟨bF d (bg d 3) [(" ",p0),("",q0),(" ",p1),("",q1)] [l0] [r0,r1] .dead,pL⟩)=UX (.str (WA "\n" ([l0]++[aT [(" ",p0),("",q0),(" ",p1),("",q1)]])),sB [(" ",p0),("",q0),(" ",p1),("",q1)] q1 [l0] [r0,r1]):=by rfl'
theorem Td:je (lP P N ⟨bF d (bg d 3) [(" ",p0),("",q0)] [l0] [r0,r1] .dead,pL⟩)=UX (.str (WA "\n" ([l0]++[aT [(" ",p0),("",q0)]])),sB [(" ",p0),("",q0)] q0 [l0] [r0,r1]):=by rfl'
theorem Te:je (lP P N ⟨bF d (bg d 3) [(" ",p0),("",q0)] [l0,l1] [r0,r1,r2] .dead,pL⟩)=UX (.str (WA "\n" ([l0,l1]++[aT [(" ",p0),("",q0)]])),sB [(" ",p0),("",q0)] q0 [l0,l1] [r0,r1,r2]):=by rfl'
end
end
section
theorem aO (a b:Vd):al (a++b)=al a++al b:=by refine(?_:(a.cps++b.cps).toList=_);rw[Array.toList_append];rfl
theorem fN {a b:Vd} (h:al a=al b):a=b:=by cases a;cases b;exact congrArg Str.mk (Array.toList_inj.mp h)
theorem aH (s:Vd):(al s).length=s.length:=Zk
theorem ko {s:Vd} {l:List Nat} {c:Nat} (h:al s=l++[c]):Xz s (-1)=UX c:=by
 unfold Xz ZS;have a:(if(-1:Int) < 0 then(-1:Int)+((l.length+1:Nat):Int) else -1)=(l.length:Int):=by rw[if_pos (by decide)];lia
 refine((by rw[<-aH,h,Va];rfl:s.length=l.length+1)).symm▸ ?_;dsimp only;rw[a,if_pos (by simp;lia)];refine(?_:s.cps[(l.length:Int).toNat]?=UX c);rw[Vz,<-YS];refine(?_:(al s)[l.length]?=UX c);rw[h,VU (Vt _),WW];rfl
theorem tA {s:Vd} {l:List Nat} {c:Nat} (h:al s=l++[c]):X7 s (-1)=⟨#[c]⟩:=by unfold X7;refine(ko h).symm▸ ?_;rfl
theorem GP {s:Vd} {c:Nat} (h:c∈al s) (a:V9 c=U0):abM s=U0:=by
 unfold abM;have:s.cps.all V9=U0:=by rw[Array.all_eq_false];obtain⟨i,b,e⟩:=List.mem_iff_getElem.mp h;have d:s.cps[i]=c:=e;exact⟨i,(b:i < s.cps.size),by rw[d,a];decide⟩
 rw[this,Bool.and_false]
theorem gM (a:Vd) (l:List Vd):WA a l=aae a l:=act a l
theorem iY:∀l:List Vd,al (aae Vl l)=(l.map al).flatten
 |[]=>rfl
 |[x]=>by simp[aae]
 |x::y::r=>by refine(?_:al (x++Vl++aae Vl (y::r))=_);rw[aO,aO,iY (y::r)];refine(?_:al x++[]++_=_);rw[VY];rfl
theorem kR (ps:List (Vd×Vd)):al (aT ps)=(ps.map λp=>al p.1++al p.2).flatten:=by
 unfold aT;rw[gM,iY,Yi];congr 1;refine Xb λp a=>(?_:al (WA Vl [p.1,p.2])=_)
 rw[gM,iY];simp
theorem dI (ps:List (Vd×Vd)):(aT ps).length=aC ps:=by
 rw[<-aH,kR];induction ps with
 |nil=>rfl
 |cons p r c=>rw[Wc,Xw,Va,c,Va,aH,aH];obtain⟨a,b⟩:=p;rfl
theorem sC (ps qs:List (Vd×Vd)):aT (ps++qs)=aT ps++aT qs:=fN (by rw[aO,kR,kR,kR,V5,List.flatten_append])
theorem lQ (ps qs:List (Vd×Vd)):aC (ps++qs)=aC ps+aC qs:=by rw[<-dI,sC,ba,dI,dI]
def dn (s:Vd):Prop:=∀c∈al s,c < 1000
theorem fq {a b:Vd} (d:dn a) (e:dn b):dn (a++b):=λc h=>by rw[aO] at h;exact(List.mem_append.mp h).elim (d c) (e c)
theorem kS {s:Vd} (h:(al s).all (λc=>decide (c < 1000))=UZ):dn s:=λc a=>of_decide_eq_true (List.all_eq_true.mp h c a)
theorem GQ:∀{l:List Vd},(∀s∈l,dn s)->dn (aae Vl l):=λ{l} h c a=>by
 rw[iY] at a;refine aj (List.mem_flatten.mp a) λm d a=>(aj (List.mem_map.mp d) λs e b=>?_)
 subst b;exact h s e c a
theorem GR {s:Vd} (h:dn s) (r i:Nat) (u) (d:u∈gD s i r):dn u:=by
 induction r generalizing i with
 |zero=>exact nomatch d
 |succ r e=>
  rcases List.mem_cons.mp d with rfl|d
  ·refine fq (kS (by decide)) λc b=>?_;have b:c=ay 0 (al s) i:=List.mem_singleton.mp b;rw[b];have:∀(l:List Nat) (i:Nat),(∀c∈l,c < 1000)->ay 0 l i < 1000:=λl=>by
    induction l with
    |nil=>intro i _;exact Nat.zero_lt_succ _
    |cons a l e=>intro i h;induction i with
     |zero=>exact h a (.head _)
     |succ i=>exact e i λc b=>h c (.tail _ b)
   exact this _ i h
  ·exact e (i+1) d
theorem sD {s:Vd} (h:dn s) (w:Int):dn (bf s w):=by
 have a:∀k:Int,dn (Yl " " k):=λk c b=>by have:al (Yl " " k)=Wa k.toNat 32:=mul_one_list 32 k;rw[this] at b;refine(List.eq_of_mem_replicate b).symm▸ ?_;decide
 exact fq (fq (a _) h) (a _)
theorem KD {s:Vd} (h:dn s) (w:Int):dn (gE s w):=by
 have q:∀{t:Vd},dn t->dn (iF t):=λa=>fq (fq (kS (by decide)) a) (kS (by decide));refine(?_:dn (Be s w (ed s w)));generalize ed s w=k;induction k using WE with
 |zero=>exact sD h w
 |succ k=>induction k using WE with
  |zero=>exact q (sD h w)
  |succ k=>refine q ?_;unfold jd;rw[show("":Vd)=Vl from rfl,gM];exact GQ (GR (sD h w) _ _)
theorem wC {s:Vd} (h:dn s):PyData.strOk s=UZ:=by unfold PyData.strOk;rw[Array.all_eq_true_iff_forall_mem];exact λc a=>decide_eq_true (XI (h c (by unfold al;exact Array.mem_toList_iff.mpr a)) (by decide))
theorem n9 {t:Bool} {r q:Vd} (h1:dn r) (h2:dn q):VS (eP t (YL Yv [r,q]))=UZ:=by unfold VS eP;cases t<;>simp[Zy,YF,Z7,Zc,wC h1,wC h2]
theorem Bi {r:Vd} (h1:dn r):VS (eP UZ (YL Yv [r]))=UZ:=by unfold VS eP;simp[Zy,YF,Z7,Zc,wC h1]
theorem dz (d:Lt) (x:Nat):aT [A1 x,B1 d x]=eL d x:=fN (by rw[kR];unfold eL;rw[aO,aO];simp;rfl)
theorem oa (x:Nat):(nL x).length=2:=by unfold nL;rw[ba];rfl
theorem y8 {s:Vd} {w:Int} (h:s.length<=100):(gE s w).length<=212:=by
 have a:=wp s w;have b:∀t:Vd,(iF t).length=t.length+2:=λt=>by unfold iF;rw[ba,ba];show 1+_+1=_;lia
 refine(?_:(Be s w (ed s w)).length<=212);generalize ed s w=k;rcases k with _|_|k
 ·exact U3 a (U3 (Vw h 4) (by decide))
 ·exact U3 (Vg (b (bf s w))) (U3 (Vw (U3 a (Vw h 4)) 2) (by decide))
 ·exact U3 (Vg (b (jd (bf s w)))) (U3 (Vw (U3 (y5 (bf s w)) (aa0 2 (U3 a (Vw h 4)))) 2) (by decide))
structure eW (d:Lt):Prop where
 low:∀x,x < 3->dn (bN (d.n x) d.L)
 num:∀x,x < 3->sg (d.n x) d.L
 len:∀x,x < 3->(bN (d.n x) d.L).length<=100
variable {d:Lt}
theorem ib (h:eW d) {x:Nat} (a:x < 3):(vL d x).length<=213:=by have b:(gF x).length<=1:=(by decide:∀x < 3,(gF x).length<=1) x a;unfold vL;rw[ba];exact U3 (VF (y8 (w:=(d.w.fdiv (36^x)).fmod 36) (h.len x a)) b) (by decide)
theorem j7 (x:Nat):(eL d x).length=(vL d x).length+3:=by unfold eL;rw[ba,ba,oa];show 1+2+_=_;lia
theorem oe:dn ("":Vd):=λc a=>nomatch a
theorem IU (h:eW d) {x:Nat} (a:x < 3):dn (vL d x):=fq (KD (h.low x a) _) (kS ((by decide:∀x < 3,(al (gF x)).all (λc=>decide (c < 1000))=UZ) x a))
theorem IV (h:eW d) {x:Nat} (a:x < 3):dn (eL d x):=fq (fq (kS (by decide)) (kS ((by decide:∀x < 3,(al (nL x)).all (λc=>decide (c < 1000))=UZ) x a))) (IU h a)
theorem wD (h:eW d) {x:Nat} (a:x < 3):ao (ww d x):=by
 have b:aK 3 x:=⟨a,XI a (by decide)⟩
 have c:=y8 (w:=(d.w.fdiv (36^x)).fmod 36) (h.len x a);have e:(gF x).length<=1:=(by decide:∀x < 3,(gF x).length<=1) x a;have f:=h.len x a;exact af.mpr ⟨⟨rfl,⟨rfl,rfl⟩,by decide,b,⟨rfl,rfl,h.num x a⟩,trivial⟩,af.mpr ⟨(Dj a:ao (sn x)),by decide,⟨rfl,rfl,by lia⟩,rfl,U3 (VF c e) (by decide),trivial⟩⟩
theorem fY {W:Int} {o:Bool} (h1:ps.length<=1000) (h2:aC ps<=10000) (a:decide (W < (aC ps:Int))=o):ao (jP W ps o):=
 ⟨by decide,U3 (XK _ _) h1,rfl,⟨rfl,by lia⟩,⟨by lia,by lia⟩,a,trivial⟩
theorem dB:ao gL:=⟨rfl,trivial⟩
theorem rh {n:Nat} (h:n<=1000):ao (lO n):=⟨rfl,h,by decide,rfl,trivial⟩
theorem wE {n:Nat} (h:i < n) (a:n<=1000):ao (Bh i n):=⟨rfl,rfl,⟨h,Vs h (U3 a (by decide))⟩,by decide,by decide,rfl,⟨rfl,rfl⟩,rfl,rfl,trivial⟩
theorem Dp {n:Nat} (h:0 < n) (a:n<=1000):ao (GN n):=⟨rfl,rfl,a,rfl,⟨h,a⟩,rfl,by decide,U3 (XK _ _) a,trivial⟩
theorem NV (d:Lt) {x:Nat} (a:x < 2):al (vL d x)=al (gE (bN (d.n x) d.L) ((d.w.fdiv (36^x)).fmod 36))++[44]:=by unfold vL;rw[aO];rw[(by decide:∀x < 2,al (gF x)=[44]) x a]
theorem Dq (h:eW d) {n x:Nat} (hi:i < n) (c:n<=1000) (b:x < 2):ao (wx i n (vL d x)):=by
 have e:=ib h (show x < 3 from XI b (by decide));have a:=NV d b;have f:0 < (vL d x).length:=by rw[<-aH,a,Va];exact Wx _
 exact⟨rfl,rfl,⟨hi,by lia⟩,by decide,by lia,by rw[decide_eq_false (by lia)];rfl,⟨by decide,by rw[ko a];rfl⟩,by rw[tA a];rfl,rfl,trivial⟩
theorem Dr {n b:Nat} (hi:i<=n) (a:n<=1000) (h1:aC ps<=10000) (h2:ps.length<=1000) (c:b<=1000):ao (wz i n ps b):=
 ⟨⟨hi,a⟩,by decide,⟨hi,a⟩,rfl,⟨by lia,h2⟩,by refine(VO).symm▸ ?_;lia,rfl,a,by decide,trivial⟩
theorem Ds (h:eW d) {x:Nat} (b:x < 3) {o:Bool} (h0:0 < rs.length/\rs.length<=100) (hs:VS (eP UZ (rs.map Yv))=UZ) (c:(ee rs).length<=1000) (f:decide (((ee rs).length+(vL d x).length+3:Int)<=d.W)=o):ao (sA d x rs o):=by
 have g:=ib h b;have a:=oa x;have e:(ee rs++" "++nL x++vL d x).length=(ee rs).length+3+(vL d x).length:=by rw[ba,ba,ba,a];rfl
 have i:(ee rs++" ").length=(ee rs).length+1:=ba _ _;have j:(ee rs++" "++nL x).length=(ee rs).length+3:=by rw[ba,i,a]
 refine⟨by decide,⟨hs,rfl⟩,rfl,⟨h0.1,by decide⟩,by lia,by lia,by lia,ac e (Vn (VF (Vw c 3) g) (by decide)),?_,rfl,trivial⟩;rw[<-f,e];congr 1;apply propext;push_cast;lia
theorem NW (h:eW d) {x:Nat} (a:x < 3) (h0:0 < rs.length) (b:(ee rs).length<=1000):ao (NG d x rs):=by have c:=ib h a;have e:=oa x;have f:=j7 (d:=d) x;have g:(" "++nL x:Vd).length=1+(nL x).length:=ba _ _;exact⟨⟨h0,by decide⟩,by lia,by lia,by lia,⟨h0,by decide⟩,trivial⟩
theorem Dt (h:eW d) {x:Nat} (a:x < 3) (h0:rs.length<=100):ao (np d x rs):=by have b:=ib h a;have c:=oa x;have e:(" "++nL x:Vd).length=1+(nL x).length:=ba _ _;exact⟨by lia,by lia,by refine(VO).symm▸ ?_;lia,trivial⟩
theorem sE (h:eW d) {x e:Nat} (b:0 < x/\x < 3) (c:2<=ps.length/\ps.length<=10) (hl:aC ps<=1000) (f:e<=10) (h0:0 < rs.length/\rs.length<=10) (hs:VS (eP UZ (rs.map Yv))=UZ) (z:(ee rs).length=aC ps) (A:d.W < (aC ps:Int)+(eL d x).length)
  (P:Vc) (N:Nat) {S:List Bool->St} {q:Vd} (B:q=vL d (x - 1)) (h1:∀o,tL P N ⟨H,IR x++o⟩=UX (UY,S o,IN d x ps q e rs)) (h2:∀o,tL P N ⟨H,IS x++o⟩=UX (UY,S o,IP d x ps q e rs)) (C:∀o,tL P N ⟨H,IT x++o⟩=UX (UY,S o,IQ d x ps q e rs)):
  ∃pre nds,(∀o,tL P N ⟨H,pre++o⟩=UX (UY,S o,nds))/\ao nds:=by
 subst B
 have D:=j7 (d:=d) x
 have J:=oa x
 have E:aC (ps++[A1 x])=aC ps+3:=by rw[lQ];show _+(1+(nL x).length+0)=_;lia
 have k:aC [A1 x,B1 d x]=(eL d x).length:=by rw[<-dz,dI]
 have n:aC (ps++[A1 x,B1 d x])=aC ps+(eL d x).length:=by rw[lQ,k]
 have F:(ps++[A1 x]).length=ps.length+1:=Va
 have G:(ps++[A1 x,B1 d x]).length=ps.length+2:=Va
 have l:(eL d x).length<=216:=U3 (Vg D) (Vw (ib h b.2) 3)
 have w1:aC (ps++[A1 x])<=10000:=U3 (Vg E) (U3 (Vw hl 3) (by decide))
 have p:(ps++[A1 x]).length<=1000:=U3 (Vg F) (U3 (WG c.2) (by decide))
 have I:(ps++[A1 x,B1 d x]).length<=1000:=U3 (Vg G) (U3 (Vw c.2 2) (by decide))
 have g:ps.length+2<=1000:=U3 (Vw c.2 2) (by decide)
 have j:ps.length+1<=1000:=abp g
 have r:ps.length<=1000:=abp j
 have s:aC ps<=10000:=U3 hl (by decide)
 have a:ao (sA d x rs U0++np d x rs):=af.mpr ⟨Ds h b.2 ⟨h0.1,U3 h0.2 (by decide)⟩ hs (U3 (Vg z) hl) (decide_eq_false (by lia)),Dt h b.2 (U3 h0.2 (by decide))⟩
 have m:=wD h b.2
 by_cases t:d.W < (aC (ps++[A1 x]):Int)
 ·have i:ao (jP d.W (ps++[A1 x]) UZ):=fY p w1 (decide_eq_true t);have u:ao (lO (ps.length+1)):=rh j;have v:ao (wx (ps.length - 1) (ps.length+1) (vL d (x - 1))):=Dq h (XZ (XK _ _)) j (acp b.1 b.2);have w:ao (wz ps.length (ps.length+1) ps e):=Dr (WI _) j s r (U3 f (by decide));by_cases y:d.W < (aC [A1 x,B1 d x]:Int)
  ·exact⟨_,_,C,af.mpr ⟨m,af.mpr ⟨i,af.mpr ⟨u,af.mpr ⟨v,af.mpr ⟨w,af.mpr ⟨dB,af.mpr ⟨fY (show 2<=1000 by decide) (U3 (Vg k) (U3 l (by decide))) (decide_eq_true y),af.mpr ⟨rh (by decide),af.mpr ⟨wE (by decide) (by decide),af.mpr ⟨Dp (by decide) (by decide),af.mpr ⟨dB,af.mpr ⟨dB,a⟩⟩⟩⟩⟩⟩⟩⟩⟩⟩⟩⟩⟩
  ·exact⟨_,_,h2,af.mpr ⟨m,af.mpr ⟨i,af.mpr ⟨u,af.mpr ⟨v,af.mpr ⟨w,af.mpr ⟨dB,af.mpr ⟨fY (show 2<=1000 by decide) (U3 (Vg k) (U3 l (by decide))) (decide_eq_false y),af.mpr ⟨dB,af.mpr ⟨dB,a⟩⟩⟩⟩⟩⟩⟩⟩⟩⟩
 ·exact⟨_,_,h1,af.mpr ⟨m,af.mpr ⟨fY p w1 (decide_eq_false t),af.mpr ⟨dB,af.mpr ⟨fY I (U3 (Vg n) (U3 (VF hl l) (by decide)):aC (ps++[A1 x,B1 d x])<=10000) (decide_eq_true (Xm A (ZE (congrArg adi n).symm))),af.mpr ⟨rh g,af.mpr ⟨wE (Xx (aaa _)) g,af.mpr ⟨Dq h (Xx (XZ (XK _ _))) g (acp b.1 b.2),af.mpr ⟨Dr (U3 (WI _) (WI _)) g s r (U3 f (by decide)),af.mpr ⟨dB,af.mpr ⟨dB,a⟩⟩⟩⟩⟩⟩⟩⟩⟩⟩⟩
theorem Bj (h:eW d) {x:Nat} (b:x < 3) (a:ps.length<=10) (hl:aC ps<=1000) (h0:0 < rs.length/\rs.length<=10) (hs:VS (eP UZ (rs.map Yv))=UZ) (c:(ee rs).length=aC ps) (f:(aC ps:Int)+(eL d x).length<=d.W):ao (IM d x ps rs):=by
 have g:=j7 (d:=d) x;have q:=oa x;have i:aC (ps++[A1 x])=aC ps+3:=by rw[lQ];show _+(1+(nL x).length+0)=_;lia
 have j:aC [A1 x,B1 d x]=(eL d x).length:=by rw[<-dz,dI]
 have e:aC (ps++[A1 x,B1 d x])=aC ps+(eL d x).length:=by rw[lQ,j]
 have k:(ps++[A1 x]).length=ps.length+1:=Va;have l:(ps++[A1 x,B1 d x]).length=ps.length+2:=Va;have m:(eL d x).length<=216:=U3 (Vg g) (Vw (ib h b) 3);have n:aC (ps++[A1 x,B1 d x])<=10000:=U3 (Vg e) (U3 (VF hl m) (by decide));have o:(ps++[A1 x]).length<=1000:=U3 (Vg k) (U3 (WG a) (by decide));have p:(ps++[A1 x,B1 d x]).length<=1000:=U3 (Vg l) (U3 (Vw a 2) (by decide));exact af.mpr ⟨wD h b,af.mpr ⟨fY o (U3 (Vg i) (U3 (Vw hl 3) (by decide)):aC (ps++[A1 x])<=10000) (decide_eq_false (by lia)),af.mpr ⟨dB,af.mpr ⟨fY p n (decide_eq_false (Int.not_lt.mpr (VN (ZE (congrArg adi e)) f))),af.mpr ⟨dB,af.mpr ⟨dB,af.mpr ⟨Ds h b ⟨h0.1,U3 h0.2 (by decide)⟩ hs (U3 (Vg c) hl) (decide_eq_true (by lia)),NW h b h0.1 (U3 (Vg c) hl)⟩⟩⟩⟩⟩⟩⟩
theorem Qk (P:Vc) (N:Nat) (h:eW d) (f:10<=d.W):∃pre nds,(∀o,tL P N ⟨bF d (bg d 0) [] [] [] (.rngIt 0 3 1),pre++o⟩=UX (UY,⟨bF d (bg d 1) [A1 0,B1 d 0] [] [eL d 0] (.rngIt 1 2 1),o⟩,nds))/\ao nds:=by
 have g:=ib h (show 0 < 3 by decide);have i:=j7 (d:=d) 0;have j:aC [A1 0]=3:=by decide
 have k:aC [A1 0,B1 d 0]=(eL d 0).length:=by rw[<-dz,dI]
 have a:=wD h (show 0 < 3 by decide);have b:ao (GO++np d 0 []):=af.mpr ⟨⟨by decide,⟨rfl,rfl⟩,rfl,rfl,trivial⟩,Dt h (by decide) (by decide)⟩;have e:ao (jP d.W [A1 0] U0):=fY (show 1<=1000 by decide) (by lia) (decide_eq_false (by lia));by_cases c:d.W < (aC [A1 0,B1 d 0]:Int)
 ·exact⟨_,_,λo=>SZ P d N o,af.mpr ⟨a,af.mpr ⟨e,af.mpr ⟨dB,af.mpr ⟨fY (show 2<=1000 by decide) (by lia) (decide_eq_true c),af.mpr ⟨rh (by decide),af.mpr ⟨wE (by decide) (by decide),af.mpr ⟨Dp (by decide) (by decide),af.mpr ⟨dB,af.mpr ⟨dB,b⟩⟩⟩⟩⟩⟩⟩⟩⟩⟩
 ·exact⟨_,_,λo=>SY P d N o,af.mpr ⟨a,af.mpr ⟨e,af.mpr ⟨dB,af.mpr ⟨fY (show 2<=1000 by decide) (by lia) (decide_eq_false c),af.mpr ⟨dB,af.mpr ⟨dB,b⟩⟩⟩⟩⟩⟩⟩
def lR (d:Lt):List Vd:=
 if((eL d 0).length+(eL d 1).length:Int)<=d.W then(if((eL d 0).length+(eL d 1).length+(eL d 2).length:Int)<=d.W then[eL d 0++eL d 1++eL d 2] else[eL d 0++eL d 1,eL d 2])
 else(if((eL d 1).length+(eL d 2).length:Int)<=d.W then[eL d 0,eL d 1++eL d 2] else[eL d 0,eL d 1,eL d 2])
def dj (d:Lt):Vd:=WA "\n" (lR d)
theorem NX {q:Vd} {ls:List Vd} (c:0 < ps.length/\ps.length<=10) (h0:0 < aC ps/\aC ps<=1000) (d:61∈al (aT ps)) (e:VS (eP U0 (YL Yv [("":Vd),q]))=UZ) (a:rs=ls++[aT ps]) (hl:ls.length<=10/\(ls.map (·.length)).sum<=10000):ao (sB ps q ls rs):=by have b:acP "\n" (ls++[aT ps])=UZ:=joinOk_of (by rw[V5,List.sum_append,Va];show _+((aT ps).length+0)+(ls.length+1)*1<=_;rw[dI];exact U3 (VF (VF hl.2 h0.2) (Xy 1 (WG hl.1))) (by decide));refine⟨by lia,rfl,⟨c.1,by lia⟩,by decide,⟨e,rfl⟩,rfl,rfl,by decide,by decide,by lia,rfl,⟨rfl,by lia⟩,⟨by lia,by lia⟩,decide_eq_true (by lia),rfl,rfl,⟨rfl,by lia⟩,⟨by lia,by lia⟩,by rw[decide_eq_false (by lia)];rfl,rfl,⟨by lia,by lia⟩,GP d (by decide+kernel),rfl,rfl,⟨by lia,by lia⟩,by rw[VO];lia,rfl,by decide,by lia,by decide,b,a▸b,?_,trivial⟩;rw[a,bS.mpr rfl];rfl
theorem Ql (d:Lt) {x:Nat} (a:x < 3):61∈al (eL d x):=by unfold eL;rw[aO,aO];refine ade _ (aay _ ?_);exact(by decide:∀x < 3,61∈al (nL x)) x a
theorem tB {r:Option (D×St×List Prop)} {v:D} {p:List Prop} (h:je r=UX (v,p)):∃S',r=UX (v,S',p):=by refine aj (Option.map_eq_some_iff.mp h) λd e f=>?_;obtain⟨a,b,c⟩:=d;cases f;exact⟨b,e⟩
theorem gH (P:Vc) (N M:Nat) {T:Vd} {S:List Bool->St} (b:∃pre nds,(∀o,tL P N ⟨H,pre++o⟩=UX (UY,S o,nds))/\ao nds)
  (h2:∃orc p S2 nds S',(mL P (N+40)).fl (aU oW) 10 (cL oW) [] (S orc)=UX (.next,S2,p)/\ao p/\lP P M S2=UX (.str T,S',nds)/\ao nds):
  ∃orc p S2 nds S',(mL P (N+41)).fl (aU oW) 10 (cL oW) [] ⟨H,orc⟩=UX (.next,S2,p)/\ao p/\lP P M S2=UX (.str T,S',nds)/\ao nds:=by
 refine aG b λpre nds e c=>(QX h2 λorc p S2 a S' d f g h=>?_)
 exact⟨pre++orc,_,S2,a,S',qT (e orc) d,af.mpr ⟨c,f⟩,g,h⟩
theorem lS (d:Lt) (x y:Nat):aT [A1 x,B1 d x,A1 y,B1 d y]=eL d x++eL d y:=(sC [A1 x,B1 d x] [A1 y,B1 d y]).trans (by rw[dz,dz])
theorem Bk (d:Lt) (x y z:Nat):aT [A1 x,B1 d x,A1 y,B1 d y,A1 z,B1 d z]=eL d x++eL d y++eL d z:=(sC [A1 x,B1 d x,A1 y,B1 d y] [A1 z,B1 d z]).trans (by rw[lS,dz])
theorem oh (P:Vc) (h:eW d) {ls:List Vd} {q:Vd} (hf:je (lP P 18 ⟨bF d (bg d 3) ps ls rs .dead,pL⟩)=UX (.str (WA "\n" (ls++[aT ps])),sB ps q ls rs)) (c:0 < ps.length/\ps.length<=10) (h0:0 < aC ps/\aC ps<=1000) (f:61∈al (aT ps)) (g:VS (eP U0 (YL Yv [("":Vd),q]))=UZ) (hl:ls.length<=10/\(ls.map (·.length)).sum<=10000) (b:rs=ls++[aT ps]) (a:lR d=rs):
  ∃orc p S2 nds S',(mL P 55).fl (aU oW) 10 (cL oW) [] ⟨bF d (bg d 3) ps ls rs (.rngIt 3 0 1),orc⟩=UX (.next,S2,p)/\ao p/\lP P 18 S2=UX (.str (dj d),S',nds)/\ao nds:=by
 rw[<-b,<-a] at hf
 obtain⟨S',e⟩:=tB hf
 rw[a] at e
 exact⟨U0::pL,_,_,_,S',mW (UC P d 14 pL ps ls rs),dB,by rw[<-a] at e ⊢;exact e,(NX c h0 f g b hl)⟩
theorem GT (P:Vc) (h:eW d) (q:10<=d.W):∃orc p S2 nds S',(mL P 58).fl (aU oW) 10 (cL oW) [] ⟨bF d (bg d 0) [] [] [] (.rngIt 0 3 1),orc⟩=UX (.next,S2,p)/\ao p/\lP P 18 S2=UX (.str (dj d),S',nds)/\ao nds:=by
 have u:=ib h (show 0 < 3 by decide);have v:=ib h (show 1 < 3 by decide);have g0:=j7 (d:=d) 0;have g1:=j7 (d:=d) 1;have r:=j7 (d:=d) 2;have g:aC [A1 0,B1 d 0]=(eL d 0).length:=by rw[<-dz,dI]
 have a:aC [A1 1,B1 d 1]=(eL d 1).length:=by rw[<-dz,dI]
 have b:aC [A1 2,B1 d 2]=(eL d 2).length:=by rw[<-dz,dI]
 have i:aC [A1 0,B1 d 0,A1 1,B1 d 1]=(eL d 0).length+(eL d 1).length:=by rw[<-dI,lS,ba]
 have j:aC [A1 1,B1 d 1,A1 2,B1 d 2]=(eL d 1).length+(eL d 2).length:=by rw[<-dI,lS,ba]
 have w:aC [A1 0,B1 d 0,A1 1,B1 d 1,A1 2,B1 d 2]=(eL d 0).length+(eL d 1).length+(eL d 2).length:=by rw[<-dI,Bk,ba,ba]
 have s:(eL d 0).length<=216:=U3 (Vg g0) (Vw u 3);have k:(eL d 1).length<=216:=U3 (Vg g1) (Vw v 3);have t:(eL d 2).length<=216:=U3 (Vg r) (Vw (ib h (show 2 < 3 by decide)) 3);have y:aC [A1 0,B1 d 0]<=1000:=U3 (Vg g) (U3 s (by decide));have z:aC [A1 1,B1 d 1]<=1000:=U3 (Vg a) (U3 k (by decide));have A:0 < aC [A1 2,B1 d 2]/\aC [A1 2,B1 d 2]<=1000:=⟨Vs (Wx _) (Vg (b.trans r).symm),U3 (Vg b) (U3 t (by decide))⟩
 have B:aC [A1 0,B1 d 0,A1 1,B1 d 1]<=1000:=U3 (Vg i) (U3 (VF s k) (by decide));have C:0 < (eL d 2).length:=Vs (Wx _) (Vg r.symm);have D:0 < aC [A1 0,B1 d 0,A1 1,B1 d 1,A1 2,B1 d 2]/\aC [A1 0,B1 d 0,A1 1,B1 d 1,A1 2,B1 d 2]<=1000:=⟨Vs C (U3 (Wr _ _) (Vg w.symm)),U3 (Vg w) (U3 (VF (VF s k) t) (by decide))⟩
 have l:=Ql d (show 2 < 3 by decide);have e:=IV h (show 0 < 3 by decide);have m:=IV h (show 1 < 3 by decide);have n:dn (vL d 2):=IU h (show 2 < 3 by decide);refine gH P 17 18 (S:=λo=>⟨bF d (bg d 1) [A1 0,B1 d 0] [] [eL d 0] (.rngIt 1 2 1),o⟩) (Qk P 17 h q) ?_;by_cases f:((eL d 0).length+(eL d 1).length:Int)<=d.W
 ·refine gH P 16 18 (S:=λo=>⟨bF d (bg d 2) [A1 0,B1 d 0,A1 1,B1 d 1] [] [eL d 0++eL d 1] (.rngIt 2 1 1),o⟩) ⟨_,_,λo=>Qf P d 16 o (nL 0) (vL d 0) (eL d 0),Bj (ps:=[A1 0,B1 d 0]) (rs:=[eL d 0]) h (by decide) (show 2<=10 by decide) y (show 0 < 1/\1<=10 by decide) (Bi e) (show(eL d 0).length=aC [A1 0,B1 d 0] from g.symm) (by show(aC [A1 0,B1 d 0]:Int)+_<=_;refine(g).symm▸ ?_;exact f)⟩ ?_;by_cases c:((eL d 0).length+(eL d 1).length+(eL d 2).length:Int)<=d.W
  ·refine gH P 15 18 (S:=λo=>⟨bF d (bg d 3) [A1 0,B1 d 0,A1 1,B1 d 1,A1 2,B1 d 2] [] [eL d 0++eL d 1++eL d 2] (.rngIt 3 0 1),o⟩) ⟨_,_,λo=>NL P d 15 o (nL 0) (vL d 0) (nL 1) (vL d 1) (eL d 0++eL d 1),Bj (ps:=[A1 0,B1 d 0,A1 1,B1 d 1]) (rs:=[eL d 0++eL d 1]) h (by decide) (show 4<=10 by decide) B (show 0 < 1/\1<=10 by decide) (Bi (fq e m)) (by show(eL d 0++eL d 1).length=aC [A1 0,B1 d 0,A1 1,B1 d 1];rw[i,ba]) (by show(aC [A1 0,B1 d 0,A1 1,B1 d 1]:Int)+_<=_;refine(i).symm▸ ?_;push_cast;exact c)⟩ ?_;exact oh P h (Ta P d 18 (nL 0) (vL d 0) (nL 1) (vL d 1) (nL 2) (vL d 2) (eL d 0++eL d 1++eL d 2)) (show 0 < 6/\6<=10 by decide) D (by rw[show aT _=_ from Bk d 0 1 2,aO];exact aay _ l) (n9 oe n) (by decide) (ac (show aT _=_ from Bk d 0 1 2) rfl) (by unfold lR;rw[if_pos f,if_pos c])
  ·refine gH P 15 18 (S:=λo=>⟨bF d (bg d 3) [A1 2,B1 d 2] [aT [A1 0,B1 d 0,A1 1,B1 d 1]] [eL d 0++eL d 1,eL d 2] (.rngIt 3 0 1),o⟩) (sE h (x:=2) (by decide) (ps:=[A1 0,B1 d 0,A1 1,B1 d 1]) (show 2<=4/\4<=10 by decide) B (show 0<=10 by decide) (rs:=[eL d 0++eL d 1]) (show 0 < 1/\1<=10 by decide) (Bi (fq e m)) (show(eL d 0++eL d 1).length=aC [A1 0,B1 d 0,A1 1,B1 d 1] by rw[i,ba]) (by refine(i).symm▸ ?_;push_cast;exact Int.not_le.mp c) P 15 rfl (λo=>NN P d 15 o (nL 0) (vL d 0) (nL 1) (vL d 1) (eL d 0++eL d 1)) (λo=>NO P d 15 o (nL 0) (vL d 0) (nL 1) (vL d 1) (eL d 0++eL d 1)) (λo=>NP P d 15 o (nL 0) (vL d 0) (nL 1) (vL d 1) (eL d 0++eL d 1))) ?_;exact oh P h (Td P d 18 (nL 2) (vL d 2) (aT [A1 0,B1 d 0,A1 1,B1 d 1]) (eL d 0++eL d 1) (eL d 2)) (show 0 < 2/\2<=10 by decide) A (by rw[show aT _=_ from dz d 2];exact l) (n9 oe n) (by rw[lS];show 1<=10/\(eL d 0++eL d 1).length+0<=_;rw[ba];lia) (by rw[show aT [(_,_),(_,_)]=_ from dz d 2,lS];rfl) (by unfold lR;rw[if_pos f,if_neg c])
 ·refine gH P 16 18 (S:=λo=>⟨bF d (bg d 2) [A1 1,B1 d 1] [aT [A1 0,B1 d 0]] [eL d 0,eL d 1] (.rngIt 2 1 1),o⟩) (sE h (x:=1) (by decide) (ps:=[A1 0,B1 d 0]) (show 2<=2/\2<=10 by decide) y (show 0<=10 by decide) (rs:=[eL d 0]) (show 0 < 1/\1<=10 by decide) (Bi e) (show(eL d 0).length=aC [A1 0,B1 d 0] from g.symm) (ac (g) (Int.not_le.mp f)) P 16 rfl (λo=>Qg P d 16 o (nL 0) (vL d 0) (eL d 0)) (λo=>Qh P d 16 o (nL 0) (vL d 0) (eL d 0)) (λo=>Qi P d 16 o (nL 0) (vL d 0) (eL d 0))) ?_;by_cases c:((eL d 1).length+(eL d 2).length:Int)<=d.W
  ·refine gH P 15 18 (S:=λo=>⟨bF d (bg d 3) [A1 1,B1 d 1,A1 2,B1 d 2] [aT [A1 0,B1 d 0]] [eL d 0,eL d 1++eL d 2] (.rngIt 3 0 1),o⟩) ⟨_,_,λo=>NQ P d 15 o (nL 1) (vL d 1) (aT [A1 0,B1 d 0]) (eL d 0) (eL d 1),Bj (ps:=[A1 1,B1 d 1]) (rs:=[eL d 0,eL d 1]) h (by decide) (show 2<=10 by decide) z (show 0 < 2/\2<=10 by decide) (n9 e m) (show(eL d 1).length=aC [A1 1,B1 d 1] from a.symm) (by show(aC [A1 1,B1 d 1]:Int)+_<=_;refine(a).symm▸ ?_;exact c)⟩ ?_;exact oh P h (Tc P d 18 (nL 1) (vL d 1) (nL 2) (vL d 2) (aT [A1 0,B1 d 0]) (eL d 0) (eL d 1++eL d 2)) (show 0 < 4/\4<=10 by decide) (⟨Vs C (U3 (Wr _ _) (Vg j.symm)),U3 (Vg j) (U3 (VF k t) (by decide))⟩:0 < aC [A1 1,B1 d 1,A1 2,B1 d 2]/\aC [A1 1,B1 d 1,A1 2,B1 d 2]<=1000) (by rw[show aT _=_ from lS d 1 2,aO];exact aay _ l) (n9 oe n) (by rw[dz];show 1<=10/\(eL d 0).length+0<=_;lia) (by rw[show aT [(_,_),(_,_),(_,_),(_,_)]=_ from lS d 1 2,dz];rfl) (by unfold lR;rw[if_neg f,if_pos c])
  ·refine gH P 15 18 (S:=λo=>⟨bF d (bg d 3) [A1 2,B1 d 2] [aT [A1 0,B1 d 0],aT [A1 1,B1 d 1]] [eL d 0,eL d 1,eL d 2] (.rngIt 3 0 1),o⟩) (sE h (x:=2) (by decide) (ps:=[A1 1,B1 d 1]) (show 2<=2/\2<=10 by decide) z (show 1<=10 by decide) (rs:=[eL d 0,eL d 1]) (show 0 < 2/\2<=10 by decide) (n9 e m) (show(eL d 1).length=aC [A1 1,B1 d 1] from a.symm) (by refine(a).symm▸ ?_;lia) P 15 rfl (λo=>NR P d 15 o (nL 1) (vL d 1) (aT [A1 0,B1 d 0]) (eL d 0) (eL d 1)) (λo=>NS P d 15 o (nL 1) (vL d 1) (aT [A1 0,B1 d 0]) (eL d 0) (eL d 1)) (λo=>NT P d 15 o (nL 1) (vL d 1) (aT [A1 0,B1 d 0]) (eL d 0) (eL d 1))) ?_;exact oh P h (Te P d 18 (nL 2) (vL d 2) (aT [A1 0,B1 d 0]) (aT [A1 1,B1 d 1]) (eL d 0) (eL d 1) (eL d 2)) (show 0 < 2/\2<=10 by decide) A (ac (show aT _=_ from dz d 2) l) (n9 oe n) (by rw[dz,dz];show 2<=10/\(eL d 0).length+((eL d 1).length+0)<=_;exact⟨by decide,U3 (VF (U3 (Vg g0) (Vw u 3)) (U3 (Vg g1) (Vw v 3))) (by decide)⟩) (by rw[show aT [_,_]=_ from dz d 2,dz,dz];rfl) (by unfold lR;rw[if_neg f,if_neg c])
def tC (f:Fl):M V:=match f with
 | .ret v=>ret v
 | .next=>ret .none
 |_=>fail
theorem y9 {orc:List Bool} {f:Fl} {b:St} {z:D} {p3 p4 p2:List Prop} (hl:VC vs.length T.params.length=UZ)
  (c:(G (be T [] gl (λa=>bk) spE objs.length)).exs T.body ⟨objs++(.frame (jD T.scope.names (T.params.zip vs) [])::T.cn.map λn=> .cell (lk n (lm T.scope.names (T.params.zip vs) []))),orc⟩=UX (f,b,p3))
  (hf:tC f b=UX (v,S3,p4)) (hz:cj P 9 v S3=UX (z,S',p2)):
  bnd (aR T gl (λa=>bk) spE G [] vs) (λv=>cj P 9 v) ⟨objs,orc⟩=UX (z,S',(p3++p4)++p2):=by
 refine aJ ?_ hz
 unfold aR
 exact(hl).symm▸(aJ (m:=kE T (T.params.zip vs)) (p:=[]) rfl (aJ c hf))
theorem KE (P:Vc) (h:eW d) (k:10<=d.W):∃orc qs,bD 0 (bnd (aR (Do P) gl (λg=>bk) (λg=>br) (Gz P (uG P) 2 60) [] [.dat (.ints [d.a,d.b,d.c]), .dat (.ints d.L), .int d.w, .int d.W]) (λv=>cj P 9 v) ⟨[],orc⟩)=UX (.str (dj d),[],qs)/\ao qs:=by
 refine QX (GT P h k) λorc p t u N e x y z=>(ez (bA y) λv O Q A B D j=>?_)
 subst j;refine ez (bA B) λf E F H I J j=>?_;subst j;obtain⟨l,m⟩:=af.mp z;obtain⟨q,r⟩:=af.mp l;have K:(mL P 59).ex (aw dS.body 2) ⟨(bF d [] [] [] [] .dead).take 9,orc⟩=UX (.next,t,[UZ=UZ]++p):=
  mX (C:=NF P) (o:=oL P) (n:=58) (i:=10) (s:=aw dS.body 2) (by rfl') (by rfl') (S1:=⟨bF d [] [] [] [] (.rngIt 0 3 1),orc⟩) (S9 P d 18 orc) e
 have M:=y9 (P:=P) (T:=Do P) (spE:=λg=>br) (G:=Gz P (uG P) 2 60) (vs:=[.dat (.ints [d.a,d.b,d.c]), .dat (.ints d.L), .int d.w, .int d.W]) (objs:=[]) (orc:=orc) rfl ((show _=cG (mL P (18+41)).ex ([aw dS.body 0,aw dS.body 1]++aw dS.body 2::[aw dS.body 3,aw dS.body 4,aw dS.body 5]) ⟨(bF d [] [] [] [] .dead).take 1|>.map λg=> .frame [("counts", .dat (.ints [d.a,d.b,d.c])),("sizes", .dat (.ints d.L)),("way", .int d.w),("width", .int d.W)],orc⟩ by rfl').trans (kN (Qj P d 18 orc) (jK K I))) (show tC f E=_ from J) D;exact⟨orc,((NU++(([UZ=UZ]++p)++F))++H)++A,by rw[M];rfl,af.mpr ⟨af.mpr ⟨af.mpr ⟨⟨by decide,by decide,by decide,by decide,by decide,by decide,by decide,by decide,by decide,by decide,by decide,trivial⟩,af.mpr ⟨af.mpr ⟨⟨rfl,trivial⟩,x⟩,q⟩⟩,r⟩,m⟩⟩
abbrev wF:Sp:=fW (X:=Lt) (λvs=>⟨ay 0 (cr (nV vs 0)) 0,ay 0 (cr (nV vs 0)) 1,ay 0 (cr (nV vs 0)) 2,bU (nV vs 2),bU (nV vs 3),cr (nV vs 1)⟩) (λd=>[.dat (.ints [d.a,d.b,d.c]), .dat (.ints d.L), .int d.w, .int d.W]) (λd=> .str (dj d)) λd=>eW d/\10<=d.W
theorem nq {K:List (U8×Xi)} (F:bz K f fd T):bz K f fd {T with trim:=UX P}:=⟨F.obj,F.body,F.scope,F.clo,F.code,F.bind,F.cn,F.nd,F.kinds,F.co,F.gen,F.kind⟩
theorem Ri (P:Vc):bz (aF P) 284 qN (Do P):=nq PO
theorem Du (j:cR J):aX (Wz J w) 12 284 wF:=
 dq (X:=Lt) (lev:=8) (k:=2) (T:=Do w.params) (Tb:=uG w.params) (defs:=[]) (spS:=λa a=>bk) (spE:=λa a=>br) (Ri w.params) rfl rfl (λa h=>by cases h;rfl) (c8 (Ri w.params))
  (λg os A b c=>⟨bW (fd:=qM) (by rfl') (dH (yU J w) (by decide)) b c,bW (fd:=uq) (by rfl') (dH (KB J w) (by decide)) b c,Qe j b c⟩) (λa a a a a a a a a a a a a=>dw) λd i=>by
  exact aG (KE w.params i.1 i.2) λf l e m=>⟨60,f,l,e,m,rfl⟩
end
section
structure V3 where
 a:Int
 b:Int
 c:Int
noncomputable def V3.l (v:V3):List Int:=[v.a,v.b,v.c]
structure Lr where
 s:Int
 tk:List Int
 c:V3
 w:Int
 t:Vd
def Lr.D (r:Lr):D:= .tup [.int r.s, .ints r.tk, .ints r.c.l, .int r.w, .str r.t]
noncomputable def pM:D->List D
 | .tup l=>l
 |_=>[]
noncomputable def GU:D->Int
 | .int i=>i
 |_=>0
noncomputable def Bl:D->List Int
 | .ints l=>l
 |_=>[]
def v3 (l:List Int):V3:=⟨ay 0 l 0,ay 0 l 1,ay 0 l 2⟩
def GW (d:D):Lr:=⟨GU (ay .none (pM d) 0),Bl (ay .none (pM d) 1),v3 (Bl (ay .none (pM d) 2)),GU (ay .none (pM d) 3),Bc (ay .none (pM d) 4)⟩
def bH (ls:List D) (n:Int):Lr:=GW ((dg ls (dM ls.length n)).getD .none)
theorem NY (r:Lr):GW r.D=r:=by obtain⟨s,d,⟨a,b,c⟩,w,t⟩:=r;rfl
noncomputable def oi (S:St) (i:Nat):List D:=match S.H[i]? with
 |some (.dats l)=>l
 |_=>[]
noncomputable def GY:V->Nat
 | .ref i=>i
 |_=>0
def nt (S:St) (f:Nat):List D:=oi S (GY (eI S f "letters"))
def gq (f:Nat):M V:=λS=>UX (.dat (bH (nt S f) (bU (eI S f "number"))).D,S,[eI S f "letters"= .ref (GY (eI S f "letters"))/\eI S f "number"= .int (bU (eI S f "number"))/\S.H[GY (eI S f "letters")]?=UX (.dats (nt S f))/\aK (nt S f).length (bU (eI S f "number"))/\
 dg (nt S f) (dM (nt S f).length (bU (eI S f "number")))=UX (bH (nt S f) (bU (eI S f "number"))).D])
theorem Qm {S:St} {f:Nat} {x:Vd} (h:eI S f x=v) (b:v≠ .none):∃l,S.H[f]?=UX (.frame l)/\lk x l=UX v:=by
 unfold eI at h;induction a:S.H[f]? with
 |none=>rw[a] at h;exact absurd h.symm b
 |some o=>induction o with
  |frame l=>
   induction c:lk x l with
   |none=>rw[a] at h;dsimp only at h;rw[c] at h;exact absurd h.symm b
   |some u=>rw[a] at h;dsimp only at h;rw[c] at h;exact aA l rfl (h▸c)
  |_=>rw[a] at h;exact absurd h.symm b
theorem IW {o:dU} {n:Nat} {x:Vd} {p:XQ} {S:St} (h0:C.spE 0=UY) (hd:ew x=U0) (b:kd x C.names=UX .local) (h:eI S C.fid x=v) (c:v≠ .none):(aE o (n+1) C).ev (.Name x p) S=UX (v,S,[]):=by
 refine aj (Qm h c) λl d e=>(?_:(match C.spE 0 with|some (f,m)=>bnd (need (acA x p=f)) λa=>m|none=>mv C o (aE o n C) (.Name x p)) S=_)
 refine ac h0 (?_:(match ew x with|true=>fail|false=>nm C x) S=_);refine ac hd (?_:nm C x S=_);unfold nm;refine ac b (?_:(match S.H[C.fid]? with|some (.frame l)=>orF (lk x l) ret S|_=>UY)=_);refine ac d (?_:orF (lk x l) ret S=_);refine ac e ?_;rfl
theorem NZ {ls:List D} {n:Int} {S:St} (hi:S.H[i]?=UX (.dats ls)) (h:dg ls (dM ls.length n)=UX d):F5 P CL (.ref i) (.int n) S=UX (eA d,S,[aK ls.length n]):=by
 have a:(match(SV.ds ls).at (dM ls.length n) with|some u=>dW u (aK ls.length n)|none=>fail) S=UX (eA d,S,[aK ls.length n]):=by unfold SV.at;dsimp only;refine ac h ?_;rfl
 unfold F5;refine ac (by unfold nN;dsimp only;rw[hi]:nN (.ref i) S=U0) ?_;exact aJ (k:=λr=>match r.2.at (dM r.2.len n) with|some u=>dW u (aK r.2.len n)|none=>fail) (by unfold look getO;dsimp only;refine ac hi ?_;rfl:look (.ref i) S=UX ((UZ, .ds ls),S,[])) a
section
theorem GZ {T:bC} (d:∀n,ae c A fz U ((aE (aZ P T CL NM glob N k) n C).ev (.Subscript (.Name "letters" p1) (.Name "number" p2) p3)) (Ws (.Subscript (.Name "letters" p1) (.Name "number" p2) p3) Z) au)
  (h0:C.spE 0=UY) (h1:C.spE (nC (.Subscript (.Name "letters" p1) (.Name "number" p2) p3))=UY) (f:kd "letters" C.names=UX .local) (g:kd "number" C.names=UX .local):ae c A fz U (gq C.fid) (Ws (.Subscript (.Name "letters" p1) (.Name "number" p2) p3) Z) au:=by
 refine ae.via (λS a u p e i=>?_) (d 2)
 cases e
 obtain⟨⟨j,l,o,q,r⟩,_⟩:=i
 have s:(aE (aZ P T CL NM glob N k) 2 C).ev (.Subscript (.Name "letters" p1) (.Name "number" p2) p3) S=UX (.dat (bH (nt S C.fid) (bU (eI S C.fid "number"))).D,S,[]++([]++[aK (nt S C.fid).length (bU (eI S C.fid "number"))])):=by refine(?_:(match C.spE (nC (.Subscript (.Name "letters" p1) (.Name "number" p2) p3)) with|some (t,m)=>bnd (need (Expr.Subscript (.Name "letters" p1) (.Name "number" p2) p3=t)) λb=>m|none=>mv C (aZ P T CL NM glob N k) (aE (aZ P T CL NM glob N k) 1 C) (.Subscript (.Name "letters" p1) (.Name "number" p2) p3)) S=_);refine ac h1 ?_;refine aJ (IW h0 (by decide+kernel) f j (by intro h;cases h)) (aJ (IW h0 (by decide+kernel) g l (by intro h;cases h)) ?_);cases k<;>exact NZ (P:=P) (CL:=CL) o r
 exact⟨S.orc,S.orc,_,s,q,trivial⟩
end
def ri (P:Vc):bC:=[(71,dY P [U0,U0] CZ),(64,dY P [U0,U0] (A6 3))]
def iZ (P:Vc):FT:={gj with trim:=UX P}
def ip:V4:=aw gj.body 3
def j8:V4:=aw (cL ip) 1
def rj:List V4:=(cL j8)
def eK:Vv:=cm (ay xz (kz (aU (aw rj 4))) 0)
def IX:Vv:=cm (aU (aw rj 0))
def IY:Vv:=cm (hX eK).iter
noncomputable def Rj (l:Nat) (e:Vv) (f:Nat):Nat->Option (Vv×M V):=λn=>match VC n l with
 |true=>UX (e,gq f)
 |false=>UY
structure KX where
 hs:List D
 h0:List D
 ls:List D
 ts:List Int
 hl:List Int
 nd:List Int
 td:List Int
 sv:List Int
 cv:List Int
 W:Int
 hf:Int
 gd:Int
 n:Int
 sd:Int
 ag:Bool
 rd:Bool
 j:Nat
noncomputable def ie (x:KX):List O:=[.dats x.hs, .dats x.ls, .ints x.ts, .frame [("held", .ref 0),("letters", .ref 1),("width", .int x.W),("half", .int x.hf),("guard", .int x.gd),("again", .bool x.ag),("number", .int x.n),("need", .ref 13),("told", .dat (.ints x.td)),("ready", .bool x.rd)],
 .cell (UX (.ref 2)), .cell (UX (.dat (.ints x.sv))), .cell (UX (.dat (.ints x.cv))), .cell (UX (.int x.sd)), .fro (.ints x.hl), .dats x.h0, .listIt 9 x.j, .range 0 3 1, .dead, .fro (.ints x.nd), .dead]
noncomputable def IZ:V->Bool
 | .bool b=>b
 |_=>U0
noncomputable def uH (S:St) (i:Nat):List Int:=match S.H[i]? with
 |some (.ints l)=>l
 |some (.fro (.ints l))=>l
 |_=>[]
noncomputable def Bm (S:St) (i:Nat):V:=match S.H[i]? with
 |some (.cell (UX v))=>v
 |_=> .none
noncomputable def UD (S:St) (i:Nat):Nat:=match S.H[i]? with
 |some (.listIt _ j)=>j
 |_=>0
def N0 (S:St):KX where
 hs:=oi S 0
 h0:=oi S 9
 ls:=oi S 1
 ts:=uH S 2
 hl:=uH S 8
 nd:=uH S 13
 td:=cr (eI S 3 "told")
 sv:=cr (Bm S 5)
 cv:=cr (Bm S 6)
 W:=bU (eI S 3 "width")
 hf:=bU (eI S 3 "half")
 gd:=bU (eI S 3 "guard")
 n:=bU (eI S 3 "number")
 sd:=bU (Bm S 7)
 ag:=IZ (eI S 3 "again")
 rd:=IZ (eI S 3 "ready")
 j:=UD S 10
noncomputable def cS (ts:List Int):List Int->List Int
 |[]=>[]
 |k::r=>match jF k ts with
  |true=>cS ts r
  |false=>k::cS ts r
def wG (P:Vc):Ec:={hV (iZ P) 3 with spE:=Rj 333037052 IY 3}
def Bn (P:Vc):Ec:=mz (wG P) (hX eK).scope [("taken",4)] 17
def sF (x:KX) (it:O) (ks:List Int) (a:Option Int):List O:=ie x++[it, .list (ks.map V.int), .frame (match a with|none=>[]|some k=>[("k", .int k)])]
abbrev oK (P:Vc) (N:Nat):=aZ P (ri P) bZ ce gl N 2
abbrev Bo (P:Vc) (N n:Nat) (S:St):Option (Bool×St×List Prop):=nX (oK P N) (Bn P) (aE (oK P N) (n+12) (Bn P)) (hX eK).elt (hX eK).ifs "k" 15 16 S
section
variable (P:Vc) (x:KX) (L ks:List Int) (c:Option Int) (i n N:Nat) (orc:List Bool)
theorem UE:Bo P N n ⟨sF x (.datIt (.ints L) i) ks c,UZ::UZ::orc⟩=UX (UZ,⟨ie x++[.datIt (.ints L) (i+1), .list (ks.map V.int++[.int (ay 0 L i)]), .frame [("k", .int (ay 0 L i))]],orc⟩,[decide (i < L.length)=UZ,(!jF (ay 0 L i) x.ts)=UZ,(ks.map V.int).length<=Vb]):=by cases c<;>rfl'
theorem UF:Bo P N n ⟨sF x (.datIt (.ints L) i) ks c,UZ::U0::orc⟩=UX (UZ,⟨ie x++[.datIt (.ints L) (i+1), .list (ks.map V.int), .frame [("k", .int (ay 0 L i))]],orc⟩,[decide (i < L.length)=UZ,(!jF (ay 0 L i) x.ts)=U0]):=by cases c<;>rfl'
theorem UG:Bo P N n ⟨sF x (.datIt (.ints L) i) ks c,U0::orc⟩=UX (U0,⟨sF x .dead ks c,orc⟩,[decide (i < L.length)=U0]):=by cases c<;>rfl'
end
theorem N1 {a:Int} {r:List Int} (h:jF a ts=UZ):cS ts (a::r)=cS ts r:=by refine(?_:(match jF a ts with|true=>cS ts r|false=>a::cS ts r)=_);exact ac h rfl
theorem N2 {a:Int} {r:List Int} (h:jF a ts=U0):cS ts (a::r)=a::cS ts r:=by refine(?_:(match jF a ts with|true=>cS ts r|false=>a::cS ts r)=_);exact ac h rfl
theorem Tf (xs:List Int) (u:Int):xs.map V.int++[V.int u]=(xs++[u]).map V.int:=ac V5 rfl
theorem N3 (P:Vc) (N m:Nat) (x:KX) (r p ks:List Int) (c:Option Int) (k:Nat) (h:r.length < k) (i:ks.length+r.length<=1000) (j:(p++r).length<=1000):∃orc c' ps,
  eY (oK P N) (Bn P) (aE (oK P N) (m+12) (Bn P)) (hX eK).elt (hX eK).ifs "k" 15 16 k ⟨sF x (.datIt (.ints (p++r)) p.length) ks c,orc⟩=UX ((),⟨sF x .dead (ks++cS x.ts r) c',[]⟩,ps)/\ao ps:=by
 induction r generalizing p ks c k with
 |nil=>induction k using WE with
  |zero=>exact absurd h (W9 _)
  |succ k=>exact⟨[U0],c,[decide (p.length < (p++[]).length)=U0],ac (show ks++cS x.ts []=ks from VY ks) (CP (UG P x (p++[]) ks c p.length m N [])),decide_eq_false (abG (Vg (congrArg Xd (VY p)))),trivial⟩
 |cons a r l=>
  induction k using WE with
  |zero=>exact absurd h (W9 _)
  |succ k=>
  have n:ay 0 (p++a::r) p.length=a:=pB p a r;have d:decide (p.length < (p++a::r).length)=UZ:=decide_eq_true (ac Va (aad (Wx _)));have o:(p++[a]).length=p.length+1:=Va;have f:r.length < k:=XN h;induction g:jF a x.ts with
  |true=>obtain⟨orc,c',ps,e,b⟩:=l (p++[a]) ks (UX a) k f (WB i) (ac (Vk ..) j);rw[Vk,o] at e;have t:=UF P x (p++a::r) ks c p.length m N orc;rw[n] at t;exact(N1 g).symm▸⟨UZ::U0::orc,c',_,AS t e,af.mpr ⟨⟨d,ac g rfl,trivial⟩,b⟩⟩
  |false=>obtain⟨orc,c',ps,e,b⟩:=l (p++[a]) (ks++[a]) (UX a) k f (ac Va (U3 (Vg (VW ..)) i)) (ac (Vk ..) j);rw[Vk,Vk,o] at e;have t:=UE P x (p++a::r) ks c p.length m N orc;rw[n,Tf] at t;refine(N2 g).symm▸ ?_;exact⟨UZ::UZ::orc,c',_,AS t e,af.mpr ⟨⟨d,ac g rfl,by rw[VA];refine ac VO ?_;exact U3 (U3 (Vo _ _) i) (by decide),trivial⟩,b⟩⟩
def lT (ls:List D) (n:Int):Prop:=aK ls.length n/\dg ls (dM ls.length n)=UX (bH ls n).D
def kT (P:Vc):Nat->Ec->Nat->Option (Vv×M V):=λN C n=>match VC n 329021036 with
 |true=>UX (IX,gq C.fid)
 |false=>lK 333025074 eK (λN C=>nh N0 ie (λa=>V.ref 16) (λx=>ie x++[.dead, .ints (cS x.ts (bH x.ls x.n).tk), .dead]) λx=>[C.fid=3,lT x.ls x.n/\(bH x.ls x.n).tk.length<=100/\(bH x.ls x.n).tk.length+30<=N]) N C n
theorem wH {c:Cx} {P:Vc} {T:bC} {N:Nat} (b:cp c A (aZ P T bZ ce gl N k)) (d:aI c C Z U) (h0:C.spE 0=UY) (h1:C.spE (nC (.Subscript (.Name "letters" p1) (.Name "number" p2) p3))=UY) (e:kd "letters" C.names=UX .local) (f:kd "number" C.names=UX .local) (hs:∀l,C.spS l=UY) (g:∀l,C.spE l=UY):
  ae c A fz U (gq C.fid) (Ws (.Subscript (.Name "letters" p1) (.Name "number" p2) p3) Z) au:=
 GZ (P:=P) (T:=T) (CL:=bZ) (NM:=ce) (glob:=gl) (N:=N) (k:=k) (λn=>(d5 b n C Z).ev fz U ⟨d,⟨λl a a h=>(by rw[hs] at h;cases h),λl a a h=>(by rw[g] at h;cases h)⟩⟩ _) h0 h1 e f
theorem N4 {c:Cx} {P:Vc} {T:bC} {N l:Nat} (i:cp c A (aZ P T bZ ce gl N k)) (b:aI c C Z U) (d:ae c A fz U (gq C.fid) (Ws e Z) au) (hs:∀l,C.spS l=UY):bM c A {C with spE:=Rj l e C.fid} Z fz U:=
 ⟨{b with},⟨λl a a h=>(by rw[hs] at h;cases h),λn f g h=>by cases pF (h:(match VC n l with|true=>UX (e,gq C.fid)|false=>UY)=UX (f,g));exact d⟩⟩
theorem Dv {N L:Nat} (d:cp ((Wz J w).cx g os) A (aZ w.params (ri w.params) bZ ce gl N 2)) (i:aI ((Wz J w).cx g os) (be (iZ w.params) [] gl (λb=>bk) (kT w.params N) L) Z U):
  eh ((Wz J w).cx g os) A (be (iZ w.params) [] gl (λb=>bk) (kT w.params N) L) Z fz U:=by
 refine⟨λb b b e=>(nomatch e),λn r s h=>?_⟩
 have f:(match VC n 329021036 with
  |true=>UX (IX,gq L)
  |false=>lK 333025074 eK (λN C=>nh N0 ie (λb=>V.ref 16) (λx=>ie x++[.dead, .ints (cS x.ts (bH x.ls x.n).tk), .dead]) λx=>[C.fid=3,lT x.ls x.n/\(bH x.ls x.n).tk.length<=100/\(bH x.ls x.n).tk.length+30<=N]) N (hV (iZ w.params) L) n)=UX (r,s):=h
 induction o:VC n 329021036 with
 |true=>simp only[o] at f;obtain⟨rfl,rfl⟩:=o4 f;exact wH (C:=hV (iZ w.params) L) d {i with} rfl rfl (by rfl') (by rfl') (λb=>rfl) (λb=>rfl)
 |false=>
  simp only[o] at f;cases pF f;by_cases q:L=3
  ·subst q;refine tw (m2:=bnd ((aE (oK w.params N) N (wG w.params)).ev eK) λv=>bnd (q9 v) λb=>ret v) (λx t=>?_) ((d5 d N (wG w.params) Z).ev fz U (N4 (C:=hV (iZ w.params) 3) d {i with} (wH (C:=hV (iZ w.params) 3) d {i with} rfl rfl (by rfl') (by rfl') (λb=>rfl) (λb=>rfl):ae ((Wz J w).cx g os) A fz U (gq 3) (Ws IY Z) au) λb=>rfl) eK|>.after (λb b v=>Df v) λb b b b b k h=>h.mono k (U6 _));refine b9 t λb j b=>?_;obtain⟨⟨u,y⟩,z,I⟩:=j;obtain⟨m,rfl⟩:∃m,N=m+13:=⟨N - 13,by lia⟩
   obtain⟨c,B,K,e,l⟩:=N3 w.params (m+13) m x (bH x.ls x.n).tk [] [] UY (m+12) (by lia) (by show 0+_<=_;lia) (by show(bH x.ls x.n).tk.length<=_;exact U3 z (by decide));refine aj (Kz ((show(aE (oK w.params (m+13)) (m+13) (wG w.params)).ev eK ⟨ie x,c⟩=ey (wG w.params) (oK w.params (m+13)) (aE (oK w.params (m+13)) (m+12)) (m+12) (hX eK).elt "k" (hX eK).iter (hX eK).ifs (hX eK).scope (λb=>ret ()) ⟨ie x,c⟩ by rfl').trans (y0 (x:="k") (ifs:=(hX eK).ifs) (scope:=(hX eK).scope) (cl:=[("taken",4)]) (C:=wG w.params) (G:=aE (oK w.params (m+13)) (m+12)) (n:=m+12) (by rfl') (by rfl') (by rfl':bnd ((aE (oK w.params (m+13)) (m+12) (wG w.params)).ev (hX eK).iter) (oK w.params (m+13)).iter ⟨ie x,c⟩=UX (.ref 15,⟨ie x++[.datIt (.ints (bH x.ls x.n).tk) 0],c⟩,[IY=IY,V.ref 1=V.ref 1/\V.int x.n=V.int x.n/\UX (O.dats x.ls)=UX (O.dats x.ls)/\lT x.ls x.n,aK 5 1])) (p4:=[]) (by rfl') e (S3:=⟨ie x++[.dead, .list ((cS x.ts (bH x.ls x.n).tk).map V.int), .dead],[]⟩) (p3:=[]) (by cases B<;>rfl'))) (xs:=cS x.ts (bH x.ls x.n).tk) rfl (af.mpr ⟨⟨rfl,⟨rfl,rfl,rfl,u,y⟩,⟨by decide,by decide⟩,trivial⟩,af.mpr ⟨trivial,af.mpr ⟨l,trivial⟩⟩⟩)) λD E F=>?_;exact⟨c,[],D,E,F⟩
  ·intro S a M p e H;cases e;exact absurd H.2.1 q
structure Hd where
 n:Int
 c:V3
def Hd.D (h:Hd):D:= .tup [.int h.n, .ints h.c.l]
structure EX where
 n:Int
 nd:List Int
 td:List Int
 rd:Bool
 cv:List Int
 sd:Int
noncomputable def fZ (W:Int):Int:=2^(W - 1).toNat
def I0 (W:Int):Int:=ek W [fZ W,fZ W,fZ W]
noncomputable def UH:Option EX->List (Vd×V)
 |none=>[]
 |some e=>[("number", .int e.n),("need", .dat (.ints e.nd)),("told", .dat (.ints e.td)),("ready", .bool e.rd)]
noncomputable def UI:Option EX->Option V
 |none=>UY
 |some e=>UX (.dat (.ints e.cv))
noncomputable def UJ:Option EX->Option V
 |none=>UY
 |some e=>UX (.int e.sd)
noncomputable def wI (L:List D) (W:Int) (hs:List D) (ts v:List Int) (ag:Bool) (ex:Option EX) (a:List O):List O:=[.dats hs, .dats L, .ints ts, .frame (([("held", .ref 0),("letters", .ref 1),("width", .int W),("half", .int (fZ W)),("guard", .int (I0 W)),("again", .bool ag)]:List (Vd×V))++UH ex),
 .cell (UX (.ref 2)), .cell (UX (.dat (.ints v))), .cell (UI ex), .cell (UJ ex), .fro (.ints [fZ W,fZ W,fZ W])]++a
def fy (P:Vc):Ec:=be (iZ P) [] gl (λa=>bk) (kT P 60) 3
def Bp (C:Ec) (F:bP) (t:Vv) (i:Nat) (b:List V4) (v:V):M (Option Fl):=bnd (jB i) λa=>bnd (F.asg t v) λa=>bnd (iy C.trim (F.exs b)) λf=>ret (kM f)
theorem tD {o:dU} {t:Vv} {i:Nat} {b e:List V4} {S:St} {r:Option Fl} {p q:List Prop} (h1:o.nxt i S=UX (UX v,S1,p)) (h2:Bp C F t i b v S1=UX (r,S2,q)):gZ C o F t i b e S=UX (r,S2,p++q):=aJ h1 h2
abbrev rT (P:Vc) (n:Nat) (v:V) (S:St):=Bp (fy P) (aE (oK P 60) (n+30) (fy P)) (aU j8) 10 rj v S
noncomputable def Dw (v:V3):Nat->List Int
 |0=>[v.a+1,v.b+0,v.c+0]
 |1=>[v.a+0,v.b+1,v.c+0]
 |_=>[v.a+0,v.b+0,v.c+1]
def lU (W:Int) (v c:V3) (i:Nat):Int:=ek W (Dw v i)+I0 W - ek W c.l
def kU (W:Int) (v c:V3) (i:Nat):List Int:=cV (lU W v c i).toNat W.toNat 3
def rk (W:Int) (v c:V3) (i:Nat) (sd:Int):Bool:=decide (ay 0 (kU W v c i) (dM (kU W v c i).length sd)=fZ W)
def oX (W:Int) (v c:V3) (i:Nat):Bool:=decide (fZ W<=gA (kU W v c i))
def N5 (L:List D) (W:Int) (v:V3) (h:Hd) (i:Nat) (rd:Bool):EX:=⟨h.n,Dw v i,kU W v h.c i,rd,h.c.l,(bH L h.n).s⟩
noncomputable def N6 (i:Nat):List Bool:=match i with
 |0=>[UZ,UZ,UZ,U0,UZ,U0,U0]
 |1=>[UZ,U0,UZ,UZ,UZ,U0,U0]
 |_=>[UZ,U0,UZ,U0,UZ,UZ,U0]
noncomputable def i5 (i x:Nat):Bool:=VC i x
noncomputable def UK (sd:Int) (i:Nat):List Prop:=[UZ=UZ,UZ=UZ,aK 3 0,decide ((0:Int)=sd)=i5 i 0,(0:Nat)<=Vb,UZ=UZ,aK 3 1,decide ((1:Int)=sd)=i5 i 1,(1:Nat)<=Vb,UZ=UZ,aK 3 2,decide ((2:Int)=sd)=i5 i 2,(2:Nat)<=Vb,U0=U0]
def I1 (W:Int) (l:List Int):Prop:=[V.dat (.ints l), .int W]=[V.dat (.ints l), .int W]/\([]:List O)=[]/\l.length=3/\0<=W/\W<=100/\(ay 0 l 0).natAbs < 2^100/\(ay 0 l 1).natAbs < 2^100/\(ay 0 l 2).natAbs < 2^100
def UL (W a:Int):Prop:=[V.int a, .int W]=[V.int a, .int W]/\([]:List O)=[]/\0<=a/\1<=W/\W<=100/\a.natAbs < 2^1000/\cP a W=3/\3 < 10
def pN (L:List D) (W:Int) (v:V3) (h:Hd) (i:Nat) (b:Bool):List Prop:=[IX=IX,V.ref 1=V.ref 1/\V.int h.n=V.int h.n/\UX (O.dats L)=UX (O.dats L)/\lT L h.n,aK 5 0]++(UK (bH L h.n).s i++[I1 W (Dw v i),I1 W h.c.l,UL W (lU W v h.c i),aK (kU W v h.c i).length (bH L h.n).s,rk W v h.c i (bH L h.n).s=b])
def Rk (L:List D) (W:Int) (hs h0:List D) (ts:List Int) (v:V3) (ag:Bool) (h:Hd) (i:Nat) (rd:Bool) (j:Nat):KX:=⟨hs,h0,L,ts,[fZ W,fZ W,fZ W],Dw v i,kU W v h.c i,v.l,h.c.l,W,fZ W,I0 W,h.n,(bH L h.n).s,ag,rd,j⟩
def pO (L:List D) (W:Int) (hs h0:List D) (ts:List Int) (v:V3) (ag:Bool) (h:Hd) (i:Nat) (rd b:Bool) (j:Nat):List Prop:=[eK=eK,ie (Rk L W hs h0 ts v ag h i rd j)=ie (Rk L W hs h0 ts v ag h i rd j),(3:Nat)=3,lT L h.n/\(bH L h.n).tk.length<=100/\(bH L h.n).tk.length+30<=60,(0:Nat)<=Vb,
 VS (eP UZ ((cS ts (bH L h.n).tk).map X0))=UZ/\UZ=UZ,(rd !=eO (cS ts (bH L h.n).tk) [])=U0,rd=b]
def wJ (v c:V3):V3:=⟨gz v.a c.a,gz v.b c.b,gz v.c c.c⟩
def N7 (h:Hd) (hs:List D) (ts:List Int):List Prop:=[(2:Nat)<=Vb,Av h.n h.c.l hs,ts.length<=Vb,UZ=UZ,UZ=UZ,aK 3 0,aK 3 0,(0:Nat)<=Vb,UZ=UZ,aK 3 1,aK 3 1,(1:Nat)<=Vb,UZ=UZ,aK 3 2,aK 3 2,(2:Nat)<=Vb,U0=U0]
section
variable (P:Vc) (L hs h0:List D) (W:Int) (ts:List Int) (v:V3) (h:Hd) (ex:Option EX) (ag:Bool) (j n:Nat) (o:List Bool)
theorem N8 {i:Nat} (hi:i < 3):rT P n (.dat h.D) ⟨wI L W hs ts v.l ag ex [.dats h0, .listIt 9 j],N6 i++[U0,U0,U0]++o⟩=UX (UY,⟨wI L W hs ts v.l ag (UX (N5 L W v h i (rk W v h.c i (bH L h.n).s))) [.dats h0, .listIt 9 j],o⟩,pN L W v h i U0++pO L W hs h0 ts v ag h i (rk W v h.c i (bH L h.n).s) U0 j):=by refine yc hi ?_ ?_ ?_<;>cases ex<;>rfl'
theorem N9 {i:Nat} (hi:i < 3):rT P n (.dat h.D) ⟨wI L W hs ts v.l ag ex [.dats h0, .listIt 9 j],N6 i++[UZ,U0,U0]++o⟩=UX (UY,⟨wI L W hs ts v.l ag (UX (N5 L W v h i (oX W v h.c i))) [.dats h0, .listIt 9 j],o⟩,pN L W v h i UZ++([0 < (kU W v h.c i).length]++pO L W hs h0 ts v ag h i (oX W v h.c i) U0 j)):=by refine yc hi ?_ ?_ ?_<;>cases ex<;>rfl'
theorem Oa {i:Nat} (hi:i < 3):rT P n (.dat h.D) ⟨wI L W hs ts v.l ag ex [.dats h0, .listIt 9 j],N6 i++[UZ,U0,UZ,UZ,UZ,UZ,U0]++o⟩=UX (UY,⟨wI L W (mS h.n h.c.l hs) (ts++[h.n]) (wJ v h.c).l UZ (UX (N5 L W v h i (oX W v h.c i))) [.dats h0, .listIt 9 j],o⟩,pN L W v h i UZ++([0 < (kU W v h.c i).length]++(pO L W hs h0 ts v ag h i (oX W v h.c i) UZ j++N7 h hs ts))):=by refine yc hi ?_ ?_ ?_<;>cases ex<;>rfl'
end
end
end
variable {Ls:List Lr}
section
noncomputable def dP (n:Nat):List Nat->Nat
 |[]=>0
 |d::r=>dP n r*2^n+d
theorem Tg {n v d:Nat} (h:d < 2^n):ji (v*2^n+d) n 0=d:=by unfold ji;simp only[ZC,Nat.pow_zero,Nat.div_one,Wk,Nat.add_mul_mod_self_right,Nat.mod_eq_of_lt h]
theorem Th {n v d:Nat} (h:d < 2^n):ji (v*2^n+d) n (j+1)=ji v n j:=by unfold ji;simp only[YH,XF,Wk (j*n),XE,<-acY,Wk (v*2^n),Nat.add_mul_div_right _ _ (Xv n),Nat.div_eq_of_lt h,aav]
theorem wK {n:Nat}:∀{ds:List Nat},(∀d∈ds,d < 2^n)->(Wb ds.length).map (ji (dP n ds) n)=ds
 |[],_=>rfl
 |d::r,h=>by refine ac VD ?_;refine ac List.range_succ_eq_map ?_;refine ac Wc ?_;refine ac Yi ?_;have h0:=h d (.head _);refine(?_:ji (dP n r*2^n+d) n 0::_=_);exact ac (Tg h0) (congrArg (d::·) ((Xb λj a=>Th h0).trans (wK (ds:=r) λx b=>h x (.tail _ b))))
theorem wL {n:Nat} {ds:List Nat} (h:∀d∈ds,d < 2^n):cV (dP n ds) n ds.length=ds.map λj:Nat=>(j:Int):=by unfold cV;exact ac (wK h) rfl
theorem wM {n:Nat}:∀{ds:List Nat},(∀d∈ds,d < 2^n)->dP n ds < 2^(ds.length*n)
 |[],_=>Xv _
 |d::r,h=>by simp only[VD,YH,XF,XE];refine(?_:dP n r*2^n+d < _);have a:(dP n r+1)*2^n<=2^(r.length*n)*2^n:=Xy _ (wM (ds:=r) λx b=>h x (.tail _ b));simp only[YH,XF] at a;exact Vs (ady (h d (.head _)) _) a
theorem wN {x n:Nat} (c:0 < n) (h1:x < 2^((k+1)*n)) (h2:2^(k*n)<=x):cP (x:Int) (n:Int)=((k+1:Nat):Int):=by
 have a:x≠0:=λh=>by subst h;exact absurd (Xv (k*n)) (Nat.not_lt.mpr h2)
 have b:U7 (x:Int)=x.log2+1:=by unfold U7;refine ac (if_neg (by simpa using a)) ?_;rfl
 have d:x.log2 < (k+1)*n:=(abP a).mpr h1;have e:k*n<=x.log2:=(Nat.le_log2 a).mpr h2;unfold cP;refine ac b (ac (Wl _ (by lia)) ?_);have h0:(0:Int) < n:=by lia
 refine Int.le_antisymm (Zh (Int.ediv_lt_of_lt_mul h0 ?_)) ((Int.le_ediv_iff_mul_le h0).mpr ?_)
 ·have:((k:Int)+1+1)*n=(((k+1)*n:Nat):Int)+n:=by push_cast;rw[ZU,ZT]
  push_cast;refine ac this ?_;lia
 ·have:((k:Int)+1)*n=((k*n:Nat):Int)+n:=by push_cast;simp only[ZU,ZT]
  push_cast;refine ac this ?_;lia
theorem sG (n:Nat):∀ds:List Nat,ek (n:Int) (ds.map λj:Nat=>(j:Int))=((dP n ds:Nat):Int)
 |[]=>rfl
 |d::r=>by refine(?_:ek (n:Int) (r.map λj:Nat=>(j:Int))*2^n+(d:Int)=((dP n r*2^n+d:Nat):Int));refine ac (sG n r) ?_;push_cast;rfl
theorem Ti (P a b c h x y z:Int):(((0*P+c)*P+b)*P+a)+(((0*P+h)*P+h)*P+h) - (((0*P+z)*P+y)*P+x)=((0*P+(c+h - z))*P+(b+h - y))*P+(a+h - x):=by simp only[ZU,Int.sub_mul,Int.zero_mul,aat];lia
def V3.ok (v:V3):Prop:=(0<=v.a/\v.a<=1000000)/\(0<=v.b/\v.b<=1000000)/\0<=v.c/\v.c<=1000000
noncomputable def bh (v:V3):Nat->V3
 |0=>⟨v.a+1,v.b+0,v.c+0⟩
 |1=>⟨v.a+0,v.b+1,v.c+0⟩
 |_=>⟨v.a+0,v.b+0,v.c+1⟩
theorem Ob (v:V3) (i:Nat):Dw v i=(bh v i).l:=by
 match i with
 |0=>rfl
 |1=>rfl
 |_+2=>rfl
theorem Bq {h:Nat} {x c:Int} (a:N=2*h) (hl:2097152<=h) (n:x<=1000001) (b:0<=c):(x+h - c).toNat < N:=by lia
theorem Oc {v h c:Int}:v+1+h - c=h↔c=v+1:=by lia
theorem Od {x h c:Int}:h<=x+h - c↔c<=x:=by lia
theorem za {x:Int} (a:0<=x) (b:x<=1000000):0<=x+0/\x+0<=1000001:=ac (ZD x) ⟨a,VN b (by decide)⟩
theorem Dx {x c:Int} {h:Nat} (hl:2097152<=h) (a:0<=x) (b:c<=1000000):1<=x+h - c:=by lia
theorem I3 {v:V3} (h:v.ok) (i:Nat):(0<=(bh v i).a/\(bh v i).a<=1000001)/\(0<=(bh v i).b/\(bh v i).b<=1000001)/\0<=(bh v i).c/\(bh v i).c<=1000001:=by
 refine pZ h λd e f g=>?_;obtain⟨j,k⟩:=d;obtain⟨l,m⟩:=e
 match i with
 |0=>exact⟨⟨acq j,Yb k 1⟩,za l m,za f g⟩
 |1=>exact⟨za j k,⟨acq l,Yb m 1⟩,za f g⟩
 |_+2=>exact⟨za j k,za l m,acq f,Yb g 1⟩
theorem sH {n:Nat} (s:22<=n) {v c:V3} (w:v.ok) (x:c.ok) (i:Nat):∃h:Nat,fZ (n:Int)=(h:Int)/\2097152<=h/\kU (n:Int) v c i=[(bh v i).a+h - c.a,(bh v i).b+h - c.b,(bh v i).c+h - c.c]/\0<=lU (n:Int) v c i/\(lU (n:Int) v c i).natAbs < 2^(3*n)/\cP (lU (n:Int) v c i) (n:Int)=3:=by
 have o:2^n=2*2^(n - 1):=by
  conv=>lhs;rw[show n=(n - 1)+1 from(Wp (U3 (by decide) s)).symm]
  simp only[aas,aau]
 have f:2097152<=2^(n - 1):=U3 (by decide:2097152<=2^21) (WR (by decide) (by exact adp s));have p:fZ (n:Int)=((2^(n - 1):Nat):Int):=by unfold fZ;rw[show((n:Int) - 1).toNat=n - 1 by exact Xf _ 1];push_cast;rfl
 generalize 2^(n - 1)=h at o f p;refine pZ (I3 w i) λg l q y=>?_;obtain⟨z,A⟩:=g;obtain⟨B,C⟩:=l;refine pZ x λg l D r=>?_;obtain⟨E,F⟩:=g;obtain⟨G,H⟩:=l;have e:lU (n:Int) v c i=ek (n:Int) [(bh v i).a+h - c.a,(bh v i).b+h - c.b,(bh v i).c+h - c.c]:=by unfold lU I0;rw[Ob];refine ac p ?_;exact Ti _ _ _ _ _ _ _ _
 have t:[(bh v i).a+h - c.a,(bh v i).b+h - c.b,(bh v i).c+h - c.c]=[((bh v i).a+h - c.a).toNat,((bh v i).b+h - c.b).toNat,((bh v i).c+h - c.c).toNat].map λj:Nat=>(j:Int):=by simp only[Wc,acK];exact ac (VP (Wy (Dx f z F))) (ac (VP (Wy (Dx f B H))) (ac (VP (Wy (Dx f q r))) rfl))
 have m:∀d∈[((bh v i).a+h - c.a).toNat,((bh v i).b+h - c.b).toNat,((bh v i).c+h - c.c).toNat],d < 2^n:=by
  intro d m;simp only[WL,Z8,or_false] at m;rcases m with rfl|rfl|rfl
  ·exact Bq o f A E
  ·exact Bq o f C G
  ·exact Bq o f y D
 simp only[t,sG] at e;have u:=wM m;refine(Uj h p f ?_ (by rw[e];exact Vr _) (by rw[e];exact u) ?_)
 ·unfold kU;simp only[e,Vz,Vz,t];exact wL m
 ·rw[e];refine wN (k:=2) (by lia) u ?_;refine(?_:2^(2*n)<=((0*2^n+((bh v i).c+h - c.c).toNat)*2^n+_)*2^n+_);simp only[Nat.two_mul,XE];have I:2^n*2^n<=((0*2^n+((bh v i).c+h - c.c).toNat)*2^n+((bh v i).b+h - c.b).toNat)*2^n:=Xy _ (by exact U3 (Vg (XF _).symm) (U3 (Xy _ (U3 ((Int.le_toNat (Wy (Dx f q r))).mpr (Dx f q r)) (Wr _ _)):1*2^n<=(0*2^n+((bh v i).c+h - c.c).toNat)*2^n) (Vo _ _)));exact U3 I (Vo _ _)
noncomputable def V3.at (v:V3):Nat->Int
 |0=>v.a
 |1=>v.b
 |_=>v.c
noncomputable def sI (v c:V3) (i:Nat):Bool:=decide (c.at i=v.at i+1/\c.a<=(bh v i).a/\c.b<=(bh v i).b/\c.c<=(bh v i).c)
structure PS where
 hs:List Hd
 ts:List Int
 v:V3
 ag:Bool
noncomputable def iG (h:Hd):List Hd->List Hd
 |[]=>[]
 |d::r=>match decide (d.n=h.n)&&eO d.c.l h.c.l with
  |true=>r
  |false=>d::iG h r
theorem zb (h:Hd):∀hs:List Hd,mS h.n h.c.l (hs.map Hd.D)=(iG h hs).map Hd.D
 |[]=>rfl
 |d::r=>by refine(?_:(match decide (d.n=h.n)&&eO d.c.l h.c.l with|true=>r.map Hd.D|false=>d.D::mS h.n h.c.l (r.map Hd.D))=_);refine ac (zb h r) (?_:_=(match decide (d.n=h.n)&&eO d.c.l h.c.l with|true=>r|false=>d::iG h r).map Hd.D);cases decide (d.n=h.n)&&eO d.c.l h.c.l<;>rfl
def wO (L:List D) (h:Hd):Nat:=(bH L h.n).s.toNat
noncomputable def iH (L:List D) (p:PS) (h:Hd):Bool:=sI p.v h.c (wO L h)
def fP (L:List D) (p:PS) (h:Hd):PS:=match iH L p h with
 |true=>⟨iG h p.hs,p.ts++[h.n],wJ p.v h.c,UZ⟩
 |false=>p
structure kW (L:List D) (p:PS) (h:Hd):Prop where
 vw:lT L h.n
 s:0<=(bH L h.n).s/\(bH L h.n).s < 3
 tk:(bH L h.n).tk.length<=20
 v:p.v.ok
 c:h.c.ok
 ts:p.ts.length<=100
 hs:p.hs.length<=100
 mem:h∈p.hs
 law:iH L p h=(cS p.ts (bH L h.n).tk).isEmpty
theorem zc (l:List Int):eO l []=l.isEmpty:=by cases l<;>rfl
theorem jQ:∀l:List Int,eO l l=UZ
 |[]=>rfl
 |a::r=>by show(decide (a=a)&&eO r r)=UZ;refine ac (decide_eq_true rfl) (ac (jQ r) ?_);rfl
theorem iI (l:List Int):VS (eP UZ (l.map X0))=UZ:=by
 have c:∀l:List Int,YF (l.map X0)=UZ:=λl=>by
  induction l with
  |nil=>rfl
  |cons a r b=>simp[YF,Zy,b]
 have d:∀l:List Int,Zc (l.map X0)=0:=λl=>by
  induction l with
  |nil=>rfl
  |cons a r b=>simp[Zc,Z7,b]
 unfold VS eP;simp[Zy,Z7,c,d]
theorem I4 {n:Nat} {v:V3} (e:n<=100) (h:(0<=v.a/\v.a<=1000001)/\(0<=v.b/\v.b<=1000001)/\0<=v.c/\v.c<=1000001):I1 (n:Int) v.l:=by have b:∀x:Int,0<=x->x<=1000001->x.natAbs < 2^100:=λx h0 d=>Vn (show x.natAbs<=1000001 from Int.ofNat_le.mp (ac (adq h0) d)) (by decide);exact⟨rfl,rfl,rfl,by lia,by lia,b _ h.1.1 h.1.2,b _ h.2.1.1 h.2.1.2,b _ h.2.2.1 h.2.2.2⟩
theorem Tj (x y z m:Int):m<=gA [x,y,z]↔m<=x/\m<=y/\m<=z:=by
 refine aN (vp (ns:=[x,y,z]) (Wx _)) λf d=>?_;constructor
 ·intro h;exact⟨VN h (d x (.head _)),VN h (d y (.tail _ (.head _))),VN h (d z (.tail _ (.tail _ (.head _))))⟩
 ·rintro⟨a,b,c⟩;simp only[WL,Z8,or_false] at f;rcases f with e|e|e<;>rw[e]<;>assumption
theorem Qn {n:Nat} (g:22<=n) {v c:V3} (j:v.ok) (k:c.ok) (hi:i < 3):rk (n:Int) v c i (i:Int)=decide (c.at i=v.at i+1)/\oX (n:Int) v c i=decide (c.a<=(bh v i).a/\c.b<=(bh v i).b/\c.c<=(bh v i).c):=by
 refine fA (sH g j k i) λh e d f d=>?_;constructor
 ·dsimp only[rk];refine ac f ?_;refine ac e ?_;rcases(oV hi) with rfl|rfl|rfl
  ·show decide (v.a+1+h - c.a=h)=decide (c.a=v.a+1);congr 1;apply propext;exact Oc
  ·show decide (v.b+1+h - c.b=h)=decide (c.b=v.b+1);congr 1;apply propext;exact Oc
  ·show decide (v.c+1+h - c.c=h)=decide (c.c=v.c+1);congr 1;apply propext;exact Oc
 ·unfold oX;refine ac f ?_;refine ac e ?_;congr 1;apply propext;simp only[Tj];exact and_congr Od (and_congr Od Od)
theorem Dz {L:List D} {n:Nat} (m:22<=n/\n<=100) {p:PS} {h:Hd} (k:kW L p h) (hi:i < 3) (hs:(bH L h.n).s=(i:Int)) (t:rk (n:Int) p.v h.c i (i:Int)=b):ao (pN L (n:Int) p.v h i b):=by
 refine QS (sH m.1 k.v k.c i) λg g g u w y z=>?_;have j:∀x:Nat,decide ((x:Int)=(i:Int))=i5 i x:=λx=>by
  simp only[i5];refine(Y4 (x=i)).elim (λl=>?_) λl=>?_
  ·cases l;refine ac (decide_eq_true rfl) ?_;rw[abj]
  ·refine ac (decide_eq_false (by lia)) ?_;induction A:VC i x with
   |true=>exact absurd (VK A).symm l
   |false=>rfl
 have o:∀x:Nat,x < 3->aK 3 (x:Int):=λx l=>⟨l,by lia⟩
 refine af.mpr ⟨⟨rfl,⟨rfl,rfl,rfl,k.vw⟩,⟨by decide,by decide⟩,trivial⟩,af.mpr ⟨?_,?_⟩⟩
 ·exact(hs).symm▸⟨rfl,rfl,o 0 (by decide),j 0,by decide,rfl,o 1 (by decide),j 1,by decide,rfl,o 2 (by decide),j 2,by decide,rfl,trivial⟩
 ·refine⟨Ob p.v i▸I4 m.2 (I3 k.v i),I4 m.2 ?_,⟨rfl,rfl,w,by lia,by lia,Vs y (WR (by decide) (by lia)),z,by decide⟩,by simp only[u,hs];exact(⟨hi,by lia⟩:aK 3 (i:Int)),(hs).symm▸t,trivial⟩;refine pZ k.c λq r e f=>?_;obtain⟨a,b⟩:=q;obtain⟨c,d⟩:=r;exact⟨⟨a,by lia⟩,⟨c,by lia⟩,e,by lia⟩
theorem wP {L hs h0:List D} {n:Nat} {p:PS} {h:Hd} (k:kW L p h) {ag rd:Bool} (h1:rd=iH L p h) (h2:rd=b):ao (pO L (n:Int) hs h0 p.ts p.v ag h i rd b j):=by have:=k.tk;exact⟨rfl,rfl,rfl,⟨k.vw,by lia,by lia⟩,by decide,⟨iI _,rfl⟩,by simp only[h1,k.law,zc];cases (cS p.ts (bH L h.n).tk).isEmpty<;>rfl,h2,trivial⟩
abbrev bK (L:List D) (n:Nat) (p:PS) (ex:Option EX) (a:List O):List O:=wI L (n:Int) (p.hs.map Hd.D) p.ts p.v.l p.ag ex a
theorem Oe {L:List D} {p:PS} {h:Hd} (k:kW L p h):ao (N7 h (p.hs.map Hd.D) p.ts):=by
 have b:∀x:Nat,x < 3->aK 3 (x:Int):=λx g=>⟨g,by lia⟩
 have j:=k.hs;have m:=k.ts;refine⟨by decide,⟨λd i=>?_,⟨h.D,List.mem_map.mpr (aA h k.mem rfl),?_⟩,by rw[VA];lia⟩,by refine ac VO ?_;lia,rfl,rfl,b 0 (by decide),b 0 (by decide),by decide,rfl,b 1 (by decide),b 1 (by decide),by decide,rfl,b 2 (by decide),b 2 (by decide),by decide,rfl,trivial⟩
 ·refine aj (List.mem_map.mp i) λe a f=>(f▸ ?_)
  exact(sU e.n e.c.l rfl)
 ·refine(?_:(decide (h.n=h.n)&&eO h.c.l h.c.l)=UZ);simp only[decide_eq_true rfl,jQ];rfl
theorem G0 (P:Vc) (m:Nat) {L:List D} {n:Nat} (l:22<=n/\n<=100) {p:PS} {h:Hd} (k:kW L p h) (ex:Option EX) (h0:List D) (j:Nat):
  ∃q pre nds,(∀o,rT P m (.dat h.D) ⟨bK L n p ex [.dats h0, .listIt 9 j],pre++o⟩=UX (UY,⟨bK L n (fP L p h) q [.dats h0, .listIt 9 j],o⟩,nds))/\ao nds:=by
 obtain⟨i,g⟩:∃i:Nat,(bH L h.n).s=(i:Int):=⟨(bH L h.n).s.toNat,(VP k.s.1).symm⟩
 have d:i < 3:=by have:=k.s.2;lia
 refine aN (Qn l.1 k.v k.c d) λw x=>(fA (sH l.1 k.v k.c i) λa a a y a=>?_)
 have r:0 < (kU (n:Int) p.v h.c i).length:=ac y (Wx _)
 have b:iH L p h=(rk (n:Int) p.v h.c i (i:Int)&&oX (n:Int) p.v h.c i):=by unfold iH sI;simp only[(by unfold wO;refine ac g ?_;rfl:wO L h=i),w,x,<-Bool.decide_and]
 induction e:rk (n:Int) p.v h.c i (i:Int) with
 |false=>
  simp only[e,ab7] at b;have st:fP L p h=p:=by unfold fP;rw[b]
  exact ac st ⟨_,_,_,λo=>N8 P L _ h0 n p.ts p.v h ex p.ag j m o d,(af.mpr ⟨Dz l k d g e,wP k (ac g (ac e (ac b rfl))) (ac g (ac e rfl))⟩:ao (pN L (n:Int) p.v h i U0++pO L (n:Int) (p.hs.map Hd.D) h0 p.ts p.v p.ag h i (rk (n:Int) p.v h.c i (bH L h.n).s) U0 j))⟩
 |true=>
  simp only[e,Bool.true_and] at b;have u:=Dz l k d g e;induction f:oX (n:Int) p.v h.c i with
  |false=>simp only[f] at b;exact ac (by unfold fP;rw[b]:fP L p h=p) (Lk _ _ _ (λo=>N9 P L _ h0 n p.ts p.v h ex p.ag j m o d) (af.mpr ⟨u,af.mpr ⟨⟨r,trivial⟩,wP k (ac f (ac b rfl)) f⟩⟩:ao (pN L (n:Int) p.v h i UZ++([0 < (kU (n:Int) p.v h.c i).length]++pO L (n:Int) (p.hs.map Hd.D) h0 p.ts p.v p.ag h i (oX (n:Int) p.v h.c i) U0 j))))
  |true=>simp only[f] at b;refine ac (by unfold fP;rw[b]:fP L p h=⟨iG h p.hs,p.ts++[h.n],wJ p.v h.c,UZ⟩) ?_;exact(Lk _ _ _ (λo=>(by have t:=Oa P L (p.hs.map Hd.D) h0 n p.ts p.v h ex p.ag j m o d;simp only[zb] at t;exact t)) (af.mpr ⟨u,af.mpr ⟨⟨r,trivial⟩,af.mpr ⟨wP k (ac f (ac b rfl)) f,Oe k⟩⟩⟩:ao (pN L (n:Int) p.v h i UZ++([0 < (kU (n:Int) p.v h.c i).length]++(pO L (n:Int) (p.hs.map Hd.D) h0 p.ts p.v p.ag h i (oX (n:Int) p.v h.c i) UZ j++N7 h (p.hs.map Hd.D) p.ts)))))
section
section
variable (P:Vc) {L:List D} {n:Nat}
theorem Of (p:PS) (ex:Option EX) (a:List D) (j:Nat) (o:List Bool) (h:dg a j=UX d):(oK P 60).nxt 10 ⟨bK L n p ex [.dats a, .listIt 9 j],o⟩=UX (UX (eA d),⟨bK L n p ex [.dats a, .listIt 9 (j+1)],o⟩,[]):=by
 have b:(SV.ds a).nx j ⟨bK L n p ex [.dats a, .listIt 9 j],o⟩=UX (UX (eA d),⟨bK L n p ex [.dats a, .listIt 9 j],o⟩,[]):=by unfold SV.nx;dsimp only;refine ac h ?_;rfl
 exact(show(oK P 60).nxt 10 ⟨bK L n p ex [.dats a, .listIt 9 j],o⟩=bnd (look (.ref 9)) (λr=>match r.1 with|true=>bnd (r.2.nx j) (fE 10 (.listIt 9 (j+1)))|false=>fail) ⟨bK L n p ex [.dats a, .listIt 9 j],o⟩ by rfl').trans (aJ (by rfl':look (.ref 9) ⟨bK L n p ex [.dats a, .listIt 9 j],o⟩=UX ((UZ, .ds a),⟨bK L n p ex [.dats a, .listIt 9 j],o⟩,[])) (aJ b (by rfl':fE 10 (.listIt 9 (j+1)) (UX (eA d)) ⟨bK L n p ex [.dats a, .listIt 9 j],o⟩=UX (UX (eA d),⟨bK L n p ex [.dats a, .listIt 9 (j+1)],o⟩,[]))))
theorem KF (p:PS) (ex:Option EX) (a:List D) (j:Nat) (o:List Bool) (h:dg a j=UY):(oK P 60).nxt 10 ⟨bK L n p ex [.dats a, .listIt 9 j],o⟩=UX (UY,⟨bK L n p ex [.dats a, .dead],o⟩,[]):=by
 have b:(SV.ds a).nx j ⟨bK L n p ex [.dats a, .listIt 9 j],o⟩=UX (UY,⟨bK L n p ex [.dats a, .listIt 9 j],o⟩,[]):=by unfold SV.nx;dsimp only;refine ac h ?_;rfl
 exact(show(oK P 60).nxt 10 ⟨bK L n p ex [.dats a, .listIt 9 j],o⟩=bnd (look (.ref 9)) (λr=>match r.1 with|true=>bnd (r.2.nx j) (fE 10 (.listIt 9 (j+1)))|false=>fail) ⟨bK L n p ex [.dats a, .listIt 9 j],o⟩ by rfl').trans (aJ (by rfl':look (.ref 9) ⟨bK L n p ex [.dats a, .listIt 9 j],o⟩=UX ((UZ, .ds a),⟨bK L n p ex [.dats a, .listIt 9 j],o⟩,[])) (aJ b (by rfl':fE 10 (.listIt 9 (j+1)) UY ⟨bK L n p ex [.dats a, .listIt 9 j],o⟩=UX (UY,⟨bK L n p ex [.dats a, .dead],o⟩,[]))))
def kX (L:List D):PS->List Hd->Prop
 |_,[]=>True
 |p,h::r=>kW L p h/\kX L (fP L p h) r
theorem KG (f:α->β) (a:List α) (x:α) (r:List α):dg ((a++x::r).map f) a.length=UX (f x):=by rw[eF,V5,VU (by rw[VA];exact Vt _),VA,WW];rfl
theorem KH (f:α->β) (a:List α):dg (a.map f) a.length=UY:=by rw[eF];exact Wu (by rw[VA];exact Vt _)
theorem DA (q:22<=n/\n<=100) (r a:List Hd) (p:PS) (ex:Option EX) (k:Nat) (i:kX L p r) (j:r.length<=k):∃c pre nds,
  (∀rest,(aE (oK P 60) (k+31) (fy P)).fl (aU j8) 10 rj [] ⟨bK L n p ex [.dats ((a++r).map Hd.D), .listIt 9 a.length],pre++rest⟩=UX (.next,⟨bK L n (r.foldl (fP L) p) c [.dats ((a++r).map Hd.D), .dead],rest⟩,nds))/\ao nds:=by
 induction r generalizing a p ex k with
 |nil=>have h:=λrest=>KF P (L:=L) (n:=n) p ex ((a++[]).map Hd.D) a.length rest (by rw[VY];exact KH _ a);have t:∀rest,gZ (fy P) (oK P 60) (aE (oK P 60) (k+30) (fy P)) (aU j8) 10 rj [] ⟨bK L n p ex [.dats ((a++[]).map Hd.D), .listIt 9 a.length],rest⟩=UX (UX .next,⟨bK L n p ex [.dats ((a++[]).map Hd.D), .dead],rest⟩,[]++[]):=λrest=>aJ (h rest) (by rfl');exact⟨ex,[],[]++[],λrest=>mW (t rest),trivial⟩
 |cons h r s=>
  induction k using WE with
  |zero=>exact absurd j (Zf _)
  |succ k=>
  refine mn (G0 P (k+1) q i.1 ex ((a++h::r).map Hd.D) (a.length+1)) λf pre nds e g=>(mn (s (a++[h]) (fP L p h) f k i.2 (XN j)) λc b l m d=>?_)
  rw[Vk,Va] at m;exact⟨c,pre++b,_,λrest=>by rw[Vk];exact qT (tD ((λo=>Of P (L:=L) (n:=n) p ex ((a++h::r).map Hd.D) a.length o (KG Hd.D a h r)) _) (e (b++rest))) (m rest),af.mpr ⟨af.mpr ⟨(show ao [] from trivial),g⟩,d⟩⟩
theorem Qo (p:PS) (ex:Option EX) (k:Nat) (o:List Bool):(aE (oK P 60) (k+10) (fy P)).ex (aw (cL ip) 0) ⟨bK L n p ex [],o⟩=UX (.next,⟨bK L n {p with ag:=U0} ex [],o⟩,[]):=by cases ex<;>rfl'
theorem Tk (p:PS) (ex:Option EX) (k:Nat) (o:List Bool):bnd ((aE (oK P 60) (k+10) (fy P)).ev (uU j8)) (oK P 60).iter ⟨bK L n p ex [],o⟩=UX (.ref 10,⟨bK L n p ex [.dats (p.hs.map Hd.D), .listIt 9 0],o⟩,[(p.hs.map Hd.D).length<=Vb]):=by cases ex<;>rfl'
theorem Qp (p:PS) (ex:Option EX) (b:List D) (o:List Bool):(bnd (HK P 9 .next) λf=>bnd (qd P 9 9) λa=>zH 9 f) ⟨bK L n p ex [.dats b, .dead],o⟩=UX (.next,⟨bK L n p ex [],o⟩,[]):=by cases ex<;>rfl'
theorem I5 (p:PS) (ex:Option EX) (k:Nat) (o:List Bool):(aE (oK P 60) (k+10) (fy P)).tr (aU ip) ⟨bK L n p ex [],o⟩=UX (p.ag,⟨bK L n p ex [],o⟩,[]):=by cases ex<;>rfl'
def bq (L:List D) (p:PS):PS:=p.hs.foldl (fP L) {p with ag:=U0}
def ig (L:List D):Nat->PS->Prop
 |0,_=>False
 |f+1,p=>kX L {p with ag:=U0} p.hs/\p.hs.length<=10/\((bq L p).ag=UZ->ig L f (bq L p))
noncomputable def dT (L:List D):Nat->PS->PS
 |0,p=>p
 |f+1,p=>match(bq L p).ag with
  |true=>dT L f (bq L p)
  |false=>bq L p
theorem DB (z:22<=n/\n<=100) (f:Nat) (p:PS) (ex:Option EX) (h:ig L f p) (u:p.ag=UZ):∃l pre nds,
  (∀rest,(aE (oK P 60) (f+45) (fy P)).wl (aU ip) (cL ip) (mu ip) ⟨bK L n p ex [],pre++rest⟩=UX (.next,⟨bK L n (dT L f p) l [],rest⟩,nds))/\ao nds:=by
 induction f generalizing p ex with
 |zero=>exact h.elim
 |succ f A=>
  refine b9 h λB I E=>(mn (DA P (L:=L) (n:=n) z p.hs [] {p with ag:=U0} ex (f+12) B (by lia)) λc pre nds e v=>?_)
  simp only[Zj] at e;have d:∀o,nW (fy P) (aE (oK P 60) (f+45) (fy P)) (aU ip) (cL ip) (mu ip) ⟨bK L n p ex [],UZ::(pre++o)⟩=UX (UY,⟨bK L n (bq L p) c [],o⟩,_):=λo=>by
   have F:(aE (oK P 60) (f+44) (fy P)).ex j8 ⟨bK L n {p with ag:=U0} ex [],pre++o⟩=UX (.next,⟨bK L n (bq L p) c [.dats (p.hs.map Hd.D), .dead],o⟩,[(p.hs.map Hd.D).length<=Vb]++nds):=
    mX (C:=fy P) (o:=oK P 60) (n:=f+43) (i:=10) (s:=j8) (by rfl') (by rfl') (Tk P {p with ag:=U0} ex (f+33) (pre++o)) (e o)
   have G:cG (aE (oK P 60) (f+44) (fy P)).ex (cL ip) ⟨bK L n p ex [],pre++o⟩=UX (.next,⟨bK L n (bq L p) c [.dats (p.hs.map Hd.D), .dead],o⟩,[]++(([(p.hs.map Hd.D).length<=Vb]++nds)++[])):=
    (show _=cG (aE (oK P 60) (f+44) (fy P)).ex [aw (cL ip) 0,j8] ⟨bK L n p ex [],pre++o⟩ by rfl').trans (jK (Qo P p ex (f+34) (pre++o)) (jK F rfl))
   exact aJ (I5 P p ex (f+35) (UZ::(pre++o))) (aJ (m:=dec p.ag) (a:=UZ) (p:=[p.ag=UZ]) rfl (aJ (q:=[]) (aJ (k:=λf=>bnd (HK P 9 f) λf=>bnd (qd P 9 9) λb=>zH 9 f) G (Qp P (bq L p) c (p.hs.map Hd.D) o):iy (fy P).trim ((aE (oK P 60) (f+45) (fy P)).exs (cL ip)) ⟨bK L n p ex [],pre++o⟩=UX (.next,⟨bK L n (bq L p) c [],o⟩,([]++(([(p.hs.map Hd.D).length<=Vb]++nds)++[]))++[])) rfl))
  have g:ao ([]++([p.ag=UZ]++((([]++(([(p.hs.map Hd.D).length<=Vb]++nds)++[]))++[])++[]))):=
   af.mpr ⟨trivial,af.mpr ⟨⟨u,trivial⟩,af.mpr ⟨af.mpr ⟨af.mpr ⟨trivial,af.mpr ⟨af.mpr ⟨⟨(by rw[VA];refine ac VO ?_;lia:(p.hs.map Hd.D).length<=Vb),trivial⟩,v⟩,trivial⟩⟩,trivial⟩,trivial⟩⟩⟩
  induction r:(bq L p).ag with
  |true=>refine mn (A (bq L p) c (E r) r) λl j y H t=>?_;exact⟨l,UZ::(pre++j),_,λrest=>by refine ac (by show(match(bq L p).ag with|true=>dT L f (bq L p)|false=>bq L p)=_;rw[r]:dT L (f+1) p=dT L f (bq L p)) ?_;rw[Xg,Vk];exact Iq (o:=oK P 60) (d (j++rest)) (H rest),af.mpr ⟨g,t⟩⟩
  |false=>
   have w:∀o,nW (fy P) (aE (oK P 60) (f+44) (fy P)) (aU ip) (cL ip) (mu ip) ⟨bK L n (bq L p) c [],U0::o⟩=UX (UX .next,⟨bK L n (bq L p) c [],o⟩,[]++([(bq L p).ag=U0]++([]++[]))):=λo=>
    aJ (I5 P (bq L p) c (f+34) (U0::o)) (aJ (m:=dec (bq L p).ag) (a:=U0) (p:=[(bq L p).ag=U0]) rfl (by rfl'))
   exact⟨c,UZ::(pre++[U0]),_,λrest=>by refine ac (by show(match(bq L p).ag with|true=>dT L f (bq L p)|false=>bq L p)=_;rw[r]:dT L (f+1) p=bq L p) ?_;rw[Xg,Vk];exact Iq (o:=oK P 60) (d ([U0]++rest)) (MZ (o:=oK P 60) (w rest)),af.mpr ⟨g,show ao ([]++([(bq L p).ag=U0]++([]++[]))) from⟨r,trivial⟩⟩⟩
def zd (L:List D) (W:Int) (hs:List D) (ts v:List Int):List O:=[.dats hs, .dats L, .ints ts]++(.frame (jD (iZ P).scope.names ((iZ P).params.zip [.ref 0, .ref 1, .ref 2, .dat (.ints v), .int W]) [])::(iZ P).cn.map λn=> .cell (lk n (lm (iZ P).scope.names ((iZ P).params.zip [.ref 0, .ref 1, .ref 2, .dat (.ints v), .int W]) [])))
theorem Og (p:PS) (o:List Bool):cG (aE (oK P 60) 59 (fy P)).ex [aw gj.body 0,aw gj.body 1,aw gj.body 2] ⟨zd P L (n:Int) (p.hs.map Hd.D) p.ts p.v.l,o⟩=UX (.next,⟨bK L n {p with ag:=UZ} UY [],o⟩,[0<=(n:Int) - 1/\(n:Int) - 1<=1000000/\(2:Int).natAbs < 2^64,(3:Nat)<=Vb,I1 (n:Int) [fZ n,fZ n,fZ n]]):=by rfl'
theorem Oh (p:PS) (ex:Option EX) (o:List Bool):cG (aE (oK P 60) 59 (fy P)).ex [aw gj.body 4] ⟨bK L n p ex [],o⟩=UX (.ret (.dat (.ints p.v.l)),⟨bK L n p ex [],o⟩,[]):=by cases ex<;>rfl'
end
structure TX where
 L:List D
 W:Int
 hs:List Hd
 ts:List Int
 v:V3
def wQ (d:D):Hd:=⟨GU (ay .none (pM d) 0),v3 (Bl (ay .none (pM d) 1))⟩
noncomputable def TX.p (x:TX):PS:=⟨x.hs,x.ts,x.v,UZ⟩
def TX.r (x:TX):PS:=dT x.L 13 x.p
abbrev ze:Sp:=CS (X:=TX) (λvs objs=>⟨oi ⟨objs,[]⟩ 1,bU (nV vs 4),(oi ⟨objs,[]⟩ 0).map wQ,uH ⟨objs,[]⟩ 2,v3 (cr (nV vs 3))⟩) (λx=>[.ref 0, .ref 1, .ref 2, .dat (.ints x.v.l), .int x.W]) (λx=>[.dats (x.hs.map Hd.D), .dats x.L, .ints x.ts])
 (λx=> .ints x.r.v.l) (λx=>[.dats (x.r.hs.map Hd.D), .dats x.L, .ints x.r.ts]) λx=>∃n:Nat,x.W=(n:Int)/\22<=n/\n<=100/\ig x.L 13 x.p
theorem DC (P:Vc) {L:List D} {n:Nat} (f:22<=n/\n<=100) (p:PS) (j:ig L 13 {p with ag:=UZ}):∃orc qs,bD 3 (bnd (aR (iZ P) gl (λa=>bk) (kT P 60) (Gz P (ri P) 2 60) [] [.ref 0, .ref 1, .ref 2, .dat (.ints p.v.l), .int (n:Int)]) (λv=>cj P 9 v) ⟨[.dats (p.hs.map Hd.D), .dats L, .ints p.ts],orc⟩)=
  UX (.ints (dT L 13 {p with ag:=UZ}).v.l,[.dats ((dT L 13 {p with ag:=UZ}).hs.map Hd.D), .dats L, .ints (dT L 13 {p with ag:=UZ}).ts],qs)/\ao qs:=by
 refine mn (DB P f 13 {p with ag:=UZ} UY j rfl) λd b h e i=>?_
 have k:(aE (oK P 60) 59 (fy P)).ex ip ⟨bK L n {p with ag:=UZ} UY [],b++[]⟩=UX (.next,⟨bK L n (dT L 13 {p with ag:=UZ}) d [],[]⟩,h):=P0 (C:=fy P) (o:=oK P 60) (n:=58) (s:=ip) (by rfl') (by rfl') (e [])
 have g:=kN (Og P p (b++[])) (jK k (Oh P (dT L 13 {p with ag:=UZ}) d []))
 have m:=y9 (P:=P) (T:=iZ P) (spE:=kT P 60) (G:=Gz P (ri P) 2 60) (vs:=[.ref 0, .ref 1, .ref 2, .dat (.ints p.v.l), .int (n:Int)]) (objs:=[.dats (p.hs.map Hd.D), .dats L, .ints p.ts]) (orc:=b++[]) rfl
  ((show _=cG (aE (oK P 60) 59 (fy P)).ex ([aw gj.body 0,aw gj.body 1,aw gj.body 2]++ip::[aw gj.body 4]) ⟨zd P L (n:Int) (p.hs.map Hd.D) p.ts p.v.l,b++[]⟩ by rfl').trans g) (v:= .dat (.ints (dT L 13 {p with ag:=UZ}).v.l)) (p4:=[]) rfl (z:= .ints (dT L 13 {p with ag:=UZ}).v.l) (p2:=[]) rfl
 have c:(fZ (n:Int)).natAbs < 2^100:=by unfold fZ;refine ac (show((n:Int) - 1).toNat=n - 1 from Xf _ 1) (ac (show(2:Int)^(n - 1)=((2^(n - 1):Nat):Int) by push_cast;rfl) ?_);exact Nat.pow_lt_pow_right (by decide) (Vs (Yz (Vs (by decide) f.1) YE) f.2)
 refine(bL (b++[]) _ (ac m rfl) ?_)
 exact af.mpr ⟨af.mpr ⟨af.mpr ⟨⟨⟨by lia,by lia,by decide⟩,by decide,⟨rfl,rfl,rfl,by lia,by lia,c,c,c⟩,trivial⟩,af.mpr ⟨i,trivial⟩⟩,trivial⟩,trivial⟩
theorem Rm (P:Vc):bz (aF P) 296 qO (iZ P):=nq PR
theorem G6 (J:VB) (w:V6):aX (Wz J w) 12 296 ze:=
 dq (X:=TX) (lev:=8) (k:=2) (T:=iZ w.params) (Tb:=ri w.params) (defs:=[]) (spS:=λa a=>bk) (spE:=kT w.params) (Rm w.params) rfl rfl (λa h=>by cases h;rfl) (c8 (Rm w.params))
  (λg os A b c=>⟨bW (fd:=r8) (by rfl') (Km J w) b c,bW (fd:=rZ) (by rfl') (C5 J w 3) b c,trivial⟩) (λN g os A L Z u U b c f y i=>Dv f i) λx j=>by
  obtain⟨L,W,l,m,v⟩:=x
  refine fA j λn o p q r=>(ac (o:W=(n:Int)) ?_)
  exact aG (DC w.params ⟨p,q⟩ ⟨l,m,v,UZ⟩ r) λd s e t=>⟨60,d,s,e,t,rfl⟩
end
section
def i6 (P:Vc):FT:={bp with trim:=UX P}
def nu:V4:=aw bp.body 5
def Br:List V4:=(cL nu)
def Tl:List V4:=cL (aw (mu (aw Br 1)) 0)
def eD (n:Nat):Vv:=cm (ay xz (kz (aU (aw Tl 1))) n)
noncomputable def Bs (i:Nat) (o:O):M Unit:=λS=>match S.H[i]? with
 |some (.list [])=>UX ((),⟨S.H.set i o,S.orc⟩,[o= .ints []∨o= .dats []])
 |_=>UY
noncomputable def rl (n:Nat) (o:O):List Nat->M Unit
 |[]=>ret ()
 |k::r=>bnd (Bs (n+k) o) λa=>rl n o r
def rm (m:M Fl) (o:O) (ks:List Nat):M Fl:=λS=>bnd m (λf=>bnd (rl S.H.length o ks) λa=>ret f) S
section
theorem G7 (i:Nat) (o:O):Gh c fz U (Bs i o) (λb b b=>True):=by
 intro S u D p e r f ρ' h k q x;unfold Bs at e;induction d:S.H[i]? with
 |none=>rw[d] at e;exact nn e
 |some t=>
 rw[d] at e;induction t with
 |list l=>induction l using VG with
  |nil=>
  refine b9 (db e) λE v w=>?_
  subst v
  subst w
  have y:o.live=UZ:=r.1.elim (λh=>h▸rfl) λh=>h▸rfl
  refine(cE f (Le.refl _) (x.reO d rfl y λa F z A=>?_) trivial)
  refine eX (x.obj i _ d rfl) λG B g j b b C=>(aG C λI n s m=>?_)
  have g:=U2 (z.symm.trans g)
  subst g
  have j:=U2 (A.symm.trans j)
  subst j
  have m:=m.i0
  subst m
  exact r.1.elim (λh=>ac h (bL ([]) n s .nil)) λh=>ac h (bL ([]) n s .nil)
  |cons=>exact nn e
 |_=>exact nn e
theorem DD (n:Nat) (o:O) (ks:List Nat) (fz:Ve) (U:List U8):Gh c fz U (rl n o ks) (λa a a=>True):=by
 induction ks generalizing fz U with
 |nil=>exact Gh.ret λa a a a=>trivial
 |cons k r b=>exact Gh.bind (G7 (n+k) o) λd e a a a a=>b d e
theorem G8 {m:M Fl} {t:Xj Flow} {ks:List Nat} (h:ae c A fz U m t FR):ae c A fz U (rm m o ks) t FR:=λS a i p e=>
 ae.after (g:=λb=>rl S.H.length o ks) h (λfz U b=>DD S.H.length o ks fz U) (λfz j U f x k d=>by cases f<;>cases x<;>first|exact d|exact VR.mono k (U6 _) d) S a i p e
end
def uI (P:Vc):bC:=[(284,dY P [U0,U0,U0,U0] wF),(291,dY P [U0,U0,U0,U0] Dk),(296,dY P [UZ,UZ,UZ,U0,U0] ze)]
abbrev oD (P:Vc) (N:Nat):=aZ P (uI P) bZ ce gl N 2
def sJ (P:Vc):Nat->Ec->Nat->Option (V4×M Fl):=λN C n=>match VC n 343 with
 |true=>UX (aw bp.body 1,rm ((aE (oD P N) N C).ex (aw bp.body 1)) (.ints []) [0,1,2])
 |false=>match VC n 344 with
  |true=>UX (aw bp.body 2,rm ((aE (oD P N) N C).ex (aw bp.body 2)) (.ints []) [0,1,2])
  |false=>match VC n 345 with
   |true=>UX (aw bp.body 3,rm ((aE (oD P N) N C).ex (aw bp.body 3)) (.dats []) [0,1,2])
   |false=>match VC n 346 with
    |true=>UX (aw bp.body 4,rm ((aE (oD P N) N C).ex (aw bp.body 4)) (.dats []) [0])
    |false=>UY
def sK:Nat->Ec->Nat->Option (Vv×M V):=λN C n=>match VC n 362031046 with
 |true=>UX (eD 0,gq C.fid)
 |false=>match VC n 362051066 with
  |true=>UX (eD 1,gq C.fid)
  |false=>match VC n 362078093 with
   |true=>UX (eD 3,gq C.fid)
   |false=>UY
theorem zf {b1 b2 a:Bool} {x y z u:α} (h:(match b1 with|true=>UX x|false=>match b2 with|true=>UX y|false=>match a with|true=>UX z|false=>UY)=UX u):u=x∨u=y∨u=z:=by
 induction b1 with
 |true=>exact .inl (U2 h).symm
 |false=>induction b2 with
  |true=>exact .inr (.inl (U2 h).symm)
  |false=>induction a with
   |true=>exact .inr (.inr (U2 h).symm)
   |false=>exact nn h
theorem KI {b1 b2 a b:Bool} {x y z w u:α} (h:(match b1 with|true=>UX x|false=>match b2 with|true=>UX y|false=>match a with|true=>UX z|false=>match b with|true=>UX w|false=>UY)=UX u):u=x∨u=y∨u=z∨u=w:=by
 induction b1 with
 |true=>exact .inl (U2 h).symm
 |false=>exact .inr (zf h)
theorem Oi {L:Nat} (d:cp ((Wz J w).cx g os) A (oD w.params N)) (f:aI ((Wz J w).cx g os) (be (i6 w.params) [] gl (sJ w.params N) (sK N) L) Z U):
  eh ((Wz J w).cx g os) A (be (i6 w.params) [] gl (sJ w.params N) (sK N) L) Z fz U:=by
 have b:∀st:V4,ae ((Wz J w).cx g os) A fz U ((aE (oD w.params N) N (hV (i6 w.params) L)).ex st) (aaW st Z) FR:=λst=>(d5 d N (hV (i6 w.params) L) Z).ex fz U ⟨{f with},⟨λa a a h=>(nomatch h),λa a a h=>(nomatch h)⟩⟩ st
 have c:∀{i j k:XQ},ae ((Wz J w).cx g os) A fz U (gq L) (Ws (.Subscript (.Name "letters" i) (.Name "number" j) k) Z) au:=λ{i j k}=>wH (C:=hV (i6 w.params) L) d {f with} rfl rfl (by rfl') (by rfl') (λa=>rfl) (λa=>rfl)
 refine⟨λn st m h=>?_,λn e m h=>?_⟩
 ·rcases KI h with e|e|e|e<;>(cases e;exact G8 (b _))
 ·rcases zf h with e|e|e<;>(cases e;exact c)
structure aY where
 c0:Int
 c1:Int
 c2:Int
 c3:Int
 L:List Int
 s:V3
 W:Int
structure eR where
 Ls:List Lr
 v0:V3
 v1:V3
 v2:V3
 t0:List Int
 t1:List Int
 t2:List Int
 b0:List Int
 b1:List Int
 b2:List Int
 h0:List Hd
 h1:List Hd
 h2:List Hd
structure fS where
 d:Int
 w:Int
 t:Vd
 o:Int
 nc:Option (Int×List Int)
noncomputable def UM:Option (Int×List Int)->List (Vd×V)
 |none=>[]
 |some (n,l)=>[("number", .int n),("counts", .dat (.ints l))]
def UN:Option fS->List (Vd×V)
 |none=>[]
 |some e=>([("deed", .int e.d),("way", .int e.w),("text", .str e.t),("other", .int e.o)]:List (Vd×V))++UM e.nc
noncomputable def UO (m:Option Int):Option V:=match m with
 |none=>UY
 |some i=>UX (.int i)
noncomputable def d9 (a:Int):List Int:=[a.fmod 3,(a.fdiv 6).fmod 6,(a.fdiv 36).fmod 6,(a.fdiv 216).fmod 6,(a.fdiv 1296).fmod 6,(a.fdiv 7776).fmod 6,(a.fdiv 46656).fmod 6,(a.fdiv 279936).fmod 6,(a.fdiv 1679616).fmod 6]
noncomputable def ii (a:Int):List Int:=d9 a++[3,4,5,3,4,5,3,4,5,3,4,5]
def bR (k:aY) (x:eR) (e:Option fS) (m:Option Int) (it:O):List O:=[.frame (([("sizes", .dat (.ints k.L)),("starts", .dat (.ints k.s.l)),("width", .int k.W),("taken", .ref 8),("boxes", .ref 12),("held", .ref 16),("letters", .ref 17)]:List (Vd×V))++UN e),
 .cell (UX (.dat (.ints [k.c0,k.c1,k.c2,k.c3]))), .cell (UX (.ref 4)), .cell (UO m), .list [.dat (.ints x.v0.l), .dat (.ints x.v1.l), .dat (.ints x.v2.l)], .ints x.t0, .ints x.t1, .ints x.t2, .list [.ref 5, .ref 6, .ref 7], .ints x.b0, .ints x.b1, .ints x.b2, .list [.ref 9, .ref 10, .ref 11],
 .dats (x.h0.map Hd.D), .dats (x.h1.map Hd.D), .dats (x.h2.map Hd.D), .list [.ref 13, .ref 14, .ref 15], .dats (x.Ls.map Lr.D), .ints [k.c0.fmod 3], .range 1 9 1, .dead, .list ((d9 k.c0).tail.map V.int), .dead, .ints (d9 k.c0), .ints [3,4,5], .ints [3,4,5,3,4,5,3,4,5,3,4,5], .ints (ii k.c0),it]
def Bt (P:Vc):Ec:=be (i6 P) [] gl (sJ P 60) (sK 60) 0
abbrev kY (P:Vc) (n:Nat):=aE (oD P 60) n (Bt P)
noncomputable def Bu (k:aY):eR:=⟨[],k.s,k.s,k.s,[],[],[],[],[],[],[],[],[]⟩
def Oj (P:Vc) (k:aY):List O:=[]++(.frame (jD (i6 P).scope.names ((i6 P).params.zip [.dat (.ints [k.c0,k.c1,k.c2,k.c3]), .dat (.ints k.L), .dat (.ints k.s.l), .int k.W]) [])::(i6 P).cn.map λn=> .cell (lk n (lm (i6 P).scope.names ((i6 P).params.zip [.dat (.ints [k.c0,k.c1,k.c2,k.c3]), .dat (.ints k.L), .dat (.ints k.s.l), .int k.W]) [])))
abbrev rD (P:Vc) (n:Nat) (v:V) (S:St):=Bp (Bt P) (kY P (n+25)) (aU nu) 27 Br v S
def fU (x:eR):Int:=((x.Ls.map Lr.D).length:Int)
noncomputable def wR (k:aY) (x:eR):Int:=k.c1.fdiv (7^(fU x).toNat)
noncomputable def DF (k:aY) (x:eR) (v:V3):Lt:=⟨v.a,v.b,v.c,wR k x,10+k.c3.fmod 40,k.L⟩
def ij (k:aY) (x:eR) (m:Nat) (v:V3) (t:List Int):Lr:=⟨(m:Int),t,v,wR k x,dj (DF k x v)⟩
def wS (x:eR) (r:Lr):Int:=((x.Ls.map Lr.D++[r.D]).length:Int) - 1
def Tm (m:Nat):List Bool:=[UZ,i5 0 m,UZ,i5 1 m,UZ,i5 2 m,U0]
def Tn (m:Nat):List Bool:=[UZ, !i5 0 m,UZ, !i5 1 m,UZ, !i5 2 m,U0]
def I6 (m:Nat):List Bool:=[UZ,UZ,UZ]++Tm m++[U0]++Tn m
def To (m:Nat):List Prop:=[UZ=UZ,UZ=UZ,aK 3 m,aK 3 0,i5 0 m=i5 0 m,(0:Nat)<=Vb,UZ=UZ,aK 3 m,aK 3 1,i5 1 m=i5 1 m,(1:Nat)<=Vb,UZ=UZ,aK 3 m,aK 3 2,i5 2 m=i5 2 m,(2:Nat)<=Vb,U0=U0]
def wT (x:eR) (m i:Nat) (b:List Int):List Prop:=match VC i m with
 |true=>[UZ=UZ,U0=U0]
 |false=>[UZ=UZ,UZ=UZ,aK 3 i,(x.Ls.map Lr.D).length < 2^62,b.length<=Vb]
def sL (x:eR):Prop:=(x.Ls.map Lr.D).length < 2^62
def Tp (d:Lt):Prop:=[V.dat (.ints [d.a,d.b,d.c]),V.dat (.ints d.L),V.int d.w,V.int d.W]=[V.dat (.ints [d.a,d.b,d.c]),V.dat (.ints d.L),V.int d.w,V.int d.W]/\([]:List O)=[]/\eW d/\10<=d.W
def DG (k:aY) (x:eR) (m:Nat) (v:V3) (t:List Int):List Prop:=[(3:Int)≠0,UZ=UZ,sL x,decide (fU x < 4)=UZ,UZ=UZ]++(To m++([aK 3 m,aK 4 1,sL x,0<=fU x/\fU x<=1000000/\(7:Int).natAbs < 2^64,(7:Int)^(fU x).toNat≠0/\((7:Int)^(fU x).toNat).natAbs < 1073741824,aK 3 m,aK 4 3,(40:Int)≠0,Tp (DF k x v),U0=U0,UZ=UZ]++
 (wT x m 0 x.b0++(wT x m 1 x.b1++(wT x m 2 x.b2++[U0=U0,aK 3 m,t.length<=Vb,aK 3 m,(5:Nat)<=Vb,(x.Ls.map Lr.D).length<=Vb,aK 3 m,(x.Ls.map Lr.D++[(ij k x m v t).D]).length < 2^62,t.length<=Vb])))))
def DH (k:aY) (x:eR) (r:Lr) (e:Option fS) (m:Option Int) (it:O):List O:=(bR k x e m it).set 17 (.dats (x.Ls.map Lr.D++[r.D]))
def Ok (k:aY) (x:eR) (m:Nat) (v:V3) (nc:Option (Int×List Int)):fS:=⟨(m:Int),wR k x,dj (DF k x v),2,nc⟩
noncomputable def Ol (e:Option fS):Option (Int×List Int):=match e with
 |none=>UY
 |some e=>e.nc
section
variable (P:Vc) (k:aY) (x:eR) (e:Option fS) (m:Option Int) (j n:Nat) (o:List Bool)
theorem Tq:rD P n (.int 0) ⟨bR k x e m (.listIt 26 j),I6 0++o⟩=UX (UY,⟨DH k {x with v0:=bh x.v0 0,b1:=x.b1++[fU x],b2:=x.b2++[fU x],t0:=x.t0++[wS x (ij k x 0 (bh x.v0 0) x.t0)]} (ij k x 0 (bh x.v0 0) x.t0) (UX (Ok k x 0 (bh x.v0 0) (Ol e))) (UX 0) (.listIt 26 j),o⟩,DG k x 0 (bh x.v0 0) x.t0):=by
 match e with
 |none=>rfl'
 |some ⟨_,_,_,_,UY⟩=>rfl'
 |some ⟨_,_,_,_,UX (_,_)⟩=>rfl'
theorem Tr:rD P n (.int 1) ⟨bR k x e m (.listIt 26 j),I6 1++o⟩=UX (UY,⟨DH k {x with v1:=bh x.v1 1,b0:=x.b0++[fU x],b2:=x.b2++[fU x],t1:=x.t1++[wS x (ij k x 1 (bh x.v1 1) x.t1)]} (ij k x 1 (bh x.v1 1) x.t1) (UX (Ok k x 1 (bh x.v1 1) (Ol e))) (UX 1) (.listIt 26 j),o⟩,DG k x 1 (bh x.v1 1) x.t1):=by
 match e with
 |none=>rfl'
 |some ⟨_,_,_,_,UY⟩=>rfl'
 |some ⟨_,_,_,_,UX (_,_)⟩=>rfl'
theorem Tt:rD P n (.int 2) ⟨bR k x e m (.listIt 26 j),I6 2++o⟩=UX (UY,⟨DH k {x with v2:=bh x.v2 2,b0:=x.b0++[fU x],b1:=x.b1++[fU x],t2:=x.t2++[wS x (ij k x 2 (bh x.v2 2) x.t2)]} (ij k x 2 (bh x.v2 2) x.t2) (UX (Ok k x 2 (bh x.v2 2) (Ol e))) (UX 2) (.listIt 26 j),o⟩,DG k x 2 (bh x.v2 2) x.t2):=by
 match e with
 |none=>rfl'
 |some ⟨_,_,_,_,UY⟩=>rfl'
 |some ⟨_,_,_,_,UX (_,_)⟩=>rfl'
end
def DI (x:eR):List Prop:=[(3:Int)≠0,UZ=UZ,sL x,decide (fU x < 4)=U0,U0=U0,U0=U0,U0=U0]
def wU (m:Nat) (b:List Int):List Prop:=[(3:Int)≠0,U0=U0,U0=U0,UZ=UZ,aK 3 m,(0:Nat)<=Vb,VS (eP UZ (b.map X0))=UZ/\UZ=UZ,(!eO b [])=U0,U0=U0]
def gN (b:List Int):Int:=ay 0 b (b.length - 1)
def kZ (x:eR) (b:List Int):Lr:=bH (x.Ls.map Lr.D) (gN b)
def iq (k:aY) (x:eR) (b:List Int) (h:List Hd) (t:List Int) (v:V3):TX:=⟨x.Ls.map Lr.D,k.W,(h.map Hd.D++[Hd.D ⟨gN b,(kZ x b).c⟩]).map wQ,t,v⟩
def I7 (e:Vv) (x:eR) (b:List Int) (i:Nat):List Prop:=[e=e,V.ref 17=V.ref 17/\V.int (gN b)=V.int (gN b)/\UX (O.dats (x.Ls.map Lr.D))=UX (O.dats (x.Ls.map Lr.D))/\lT (x.Ls.map Lr.D) (gN b),aK 5 i]
def Tu (k:aY) (r:Lr):Prop:=[V.str r.t, .dat (.ints [r.c.a,r.c.b,r.c.c]), .dat (.ints k.L), .int r.w]=[V.str r.t, .dat (.ints [r.c.a,r.c.b,r.c.c]), .dat (.ints k.L), .int r.w]/\([]:List O)=[]/\rf r.t r.c.a r.c.b r.c.c k.L r.w
def Tv (X:TX) (hs:List D):Prop:=[V.ref 0, .ref 1, .ref 2, .dat (.ints X.v.l), .int X.W]=[V.ref 0, .ref 1, .ref 2, .dat (.ints X.v.l), .int X.W]/\[O.dats hs, .dats X.L, .ints X.ts]=[O.dats (X.hs.map Hd.D), .dats X.L, .ints X.ts]/\∃n:Nat,X.W=(n:Int)/\22<=n/\n<=100/\ig X.L 13 X.p
def DJ (k:aY) (x:eR) (m:Nat) (b:List Int) (h:List Hd) (t:List Int) (v:V3):List Prop:=[(3:Int)≠0,U0=U0,U0=U0,UZ=UZ,aK 3 m,(0:Nat)<=Vb,VS (eP UZ (b.map X0))=UZ/\UZ=UZ,(!eO b [])=UZ,UZ=UZ,aK 3 m,0 < b.length/\b.length<=Vb]++(I7 (eD 0) x b 4++(I7 (eD 1) x b 2++(I7 (eD 3) x b 3++
 [Tu k (kZ x b),U0=U0,aK 3 m,(2:Nat)<=Vb,(h.map Hd.D).length<=Vb,aK 3 m,aK 3 m,aK 3 m,Tv (iq k x b h t v) (h.map Hd.D++[Hd.D ⟨gN b,(kZ x b).c⟩]),aK 3 m,aK 3 m,U0=U0])))
noncomputable def Om:List Bool:=[U0,U0,UZ,UZ,UZ,U0,U0]
section
variable (P:Vc) (k:aY) (x:eR) (e:fS) (m:Option Int) (j n:Nat) (o:List Bool)
theorem Tw:rD P n (.int 0) ⟨bR k x (UX e) m (.listIt 26 j),[UZ,U0,U0,U0,U0]++o⟩=UX (UY,⟨bR k x (UX {e with d:=0}) (UX 0) (.listIt 26 j),o⟩,DI x):=by
 match e with
 |⟨_,_,_,_,UY⟩=>rfl'
 |⟨_,_,_,_,UX (_,_)⟩=>rfl'
theorem Tx:rD P n (.int 3) ⟨bR k x (UX e) m (.listIt 26 j),[U0,U0,UZ,U0,U0]++o⟩=UX (UY,⟨bR k x (UX {e with d:=3}) (UX 0) (.listIt 26 j),o⟩,wU 0 x.b0):=by
 match e with
 |⟨_,_,_,_,UY⟩=>rfl'
 |⟨_,_,_,_,UX (_,_)⟩=>rfl'
theorem Tz:rD P n (.int 1) ⟨bR k x (UX e) m (.listIt 26 j),[UZ,U0,U0,U0,U0]++o⟩=UX (UY,⟨bR k x (UX {e with d:=1}) (UX 1) (.listIt 26 j),o⟩,DI x):=by
 match e with
 |⟨_,_,_,_,UY⟩=>rfl'
 |⟨_,_,_,_,UX (_,_)⟩=>rfl'
theorem TA:rD P n (.int 4) ⟨bR k x (UX e) m (.listIt 26 j),[U0,U0,UZ,U0,U0]++o⟩=UX (UY,⟨bR k x (UX {e with d:=4}) (UX 1) (.listIt 26 j),o⟩,wU 1 x.b1):=by
 match e with
 |⟨_,_,_,_,UY⟩=>rfl'
 |⟨_,_,_,_,UX (_,_)⟩=>rfl'
theorem TC:rD P n (.int 2) ⟨bR k x (UX e) m (.listIt 26 j),[UZ,U0,U0,U0,U0]++o⟩=UX (UY,⟨bR k x (UX {e with d:=2}) (UX 2) (.listIt 26 j),o⟩,DI x):=by
 match e with
 |⟨_,_,_,_,UY⟩=>rfl'
 |⟨_,_,_,_,UX (_,_)⟩=>rfl'
theorem TD:rD P n (.int 5) ⟨bR k x (UX e) m (.listIt 26 j),[U0,U0,UZ,U0,U0]++o⟩=UX (UY,⟨bR k x (UX {e with d:=5}) (UX 2) (.listIt 26 j),o⟩,wU 2 x.b2):=by
 match e with
 |⟨_,_,_,_,UY⟩=>rfl'
 |⟨_,_,_,_,UX (_,_)⟩=>rfl'
theorem TE:rD P n (.int 3) ⟨bR k x (UX e) m (.listIt 26 j),Om++o⟩=UX (UY,⟨bR k {x with b0:=x.b0.dropLast,h0:=(iq k x x.b0 x.h0 x.t0 x.v0).r.hs,t0:=(iq k x x.b0 x.h0 x.t0 x.v0).r.ts,v0:=(iq k x x.b0 x.h0 x.t0 x.v0).r.v} (UX {e with d:=3,nc:=UX (gN x.b0,(kZ x x.b0).c.l)}) (UX 0) (.listIt 26 j),o⟩,DJ k x 0 x.b0 x.h0 x.t0 x.v0):=by
 match e with
 |⟨_,_,_,_,UY⟩=>rfl'
 |⟨_,_,_,_,UX (_,_)⟩=>rfl'
theorem TF:rD P n (.int 4) ⟨bR k x (UX e) m (.listIt 26 j),Om++o⟩=UX (UY,⟨bR k {x with b1:=x.b1.dropLast,h1:=(iq k x x.b1 x.h1 x.t1 x.v1).r.hs,t1:=(iq k x x.b1 x.h1 x.t1 x.v1).r.ts,v1:=(iq k x x.b1 x.h1 x.t1 x.v1).r.v} (UX {e with d:=4,nc:=UX (gN x.b1,(kZ x x.b1).c.l)}) (UX 1) (.listIt 26 j),o⟩,DJ k x 1 x.b1 x.h1 x.t1 x.v1):=by
 match e with
 |⟨_,_,_,_,UY⟩=>rfl'
 |⟨_,_,_,_,UX (_,_)⟩=>rfl'
theorem TG:rD P n (.int 5) ⟨bR k x (UX e) m (.listIt 26 j),Om++o⟩=UX (UY,⟨bR k {x with b2:=x.b2.dropLast,h2:=(iq k x x.b2 x.h2 x.t2 x.v2).r.hs,t2:=(iq k x x.b2 x.h2 x.t2 x.v2).r.ts,v2:=(iq k x x.b2 x.h2 x.t2 x.v2).r.v} (UX {e with d:=5,nc:=UX (gN x.b2,(kZ x x.b2).c.l)}) (UX 2) (.listIt 26 j),o⟩,DJ k x 2 x.b2 x.h2 x.t2 x.v2):=by
 match e with
 |⟨_,_,_,_,UY⟩=>rfl'
 |⟨_,_,_,_,UX (_,_)⟩=>rfl'
theorem TH (e:Option fS):(oD P 60).nxt 27 ⟨bR k x e m (.listIt 26 j),UZ::o⟩=UX (UX (.int (ay 0 (ii k.c0) j)),⟨bR k x e m (.listIt 26 (j+1)),o⟩,[decide (j < 21)=UZ]):=by rfl'
theorem TI (e:Option fS):gZ (Bt P) (oD P 60) (kY P (n+25)) (aU nu) 27 Br [] ⟨bR k x e m (.listIt 26 21),U0::o⟩=UX (UX .next,⟨bR k x e m .dead,o⟩,[decide (21 < 21)=U0]):=by rfl'
noncomputable def nv:Nat->Nat->List Prop
 |_,0=>[]
 |i,c+1=>aK 5 0::(i<=Vb)::nv (i+1) c
theorem TJ:je (bnd (bnd (cG (kY P 59).ex [aw bp.body 6]) tC) (λv=>cj P 9 v) ⟨bR k {x with Ls:=[]} (UX e) m .dead,o⟩)=UX (.tup [.list [.ints x.v0.l, .ints x.v1.l, .ints x.v2.l], .ints []],nv 0 0++[(2:Nat)<=Vb]):=by
 match e with
 |⟨_,_,_,_,UY⟩=>rfl'
 |⟨_,_,_,_,UX (_,_)⟩=>rfl'
theorem TK (r0:Lr):je (bnd (bnd (cG (kY P 59).ex [aw bp.body 6]) tC) (λv=>cj P 9 v) ⟨bR k {x with Ls:=[r0]} (UX e) m .dead,o⟩)=UX (.tup [.list [.ints x.v0.l, .ints x.v1.l, .ints x.v2.l], .ints [r0.s]],nv 0 1++[(2:Nat)<=Vb]):=by
 match e with
 |⟨_,_,_,_,UY⟩=>rfl'
 |⟨_,_,_,_,UX (_,_)⟩=>rfl'
theorem TL (r0 r1:Lr):je (bnd (bnd (cG (kY P 59).ex [aw bp.body 6]) tC) (λv=>cj P 9 v) ⟨bR k {x with Ls:=[r0,r1]} (UX e) m .dead,o⟩)=UX (.tup [.list [.ints x.v0.l, .ints x.v1.l, .ints x.v2.l], .ints [r0.s,r1.s]],nv 0 2++[(2:Nat)<=Vb]):=by
 match e with
 |⟨_,_,_,_,UY⟩=>rfl'
 |⟨_,_,_,_,UX (_,_)⟩=>rfl'
theorem TM (r0 r1 r2:Lr):je (bnd (bnd (cG (kY P 59).ex [aw bp.body 6]) tC) (λv=>cj P 9 v) ⟨bR k {x with Ls:=[r0,r1,r2]} (UX e) m .dead,o⟩)=UX (.tup [.list [.ints x.v0.l, .ints x.v1.l, .ints x.v2.l], .ints [r0.s,r1.s,r2.s]],nv 0 3++[(2:Nat)<=Vb]):=by
 match e with
 |⟨_,_,_,_,UY⟩=>rfl'
 |⟨_,_,_,_,UX (_,_)⟩=>rfl'
theorem TN (r0 r1 r2 r3:Lr):je (bnd (bnd (cG (kY P 59).ex [aw bp.body 6]) tC) (λv=>cj P 9 v) ⟨bR k {x with Ls:=[r0,r1,r2,r3]} (UX e) m .dead,o⟩)=UX (.tup [.list [.ints x.v0.l, .ints x.v1.l, .ints x.v2.l], .ints [r0.s,r1.s,r2.s,r3.s]],nv 0 4++[(2:Nat)<=Vb]):=by
 match e with
 |⟨_,_,_,_,UY⟩=>rfl'
 |⟨_,_,_,_,UX (_,_)⟩=>rfl'
noncomputable def Bv (st:V4) (o:O):List Prop:=[st=st,(0:Nat)<=Vb,(0:Nat)<=Vb,(0:Nat)<=Vb,(3:Nat)<=Vb,o= .ints []∨o= .dats [],o= .ints []∨o= .dats [],o= .ints []∨o= .dats []]
def uJ:List Prop:=[(3:Nat)<=Vb]++(Bv (aw bp.body 1) (.ints [])++(Bv (aw bp.body 2) (.ints [])++(Bv (aw bp.body 3) (.dats [])++[aw bp.body 4=aw bp.body 4,(0:Nat)<=Vb,O.dats []= .ints []∨O.dats []= .dats []])))
theorem Qq:cG (kY P 59).ex [aw bp.body 0,aw bp.body 1,aw bp.body 2,aw bp.body 3,aw bp.body 4] ⟨Oj P k,o⟩=UX (.next,⟨(bR k (Bu k) UY UY .dead).take 18,o⟩,uJ):=by rfl'
noncomputable def G9:Nat->Nat->List Prop
 |_,0=>[]
 |i,c+1=>[UZ=UZ,aK 4 0,(0:Int)<=((i+1:Nat):Int)/\((i+1:Nat):Int)<=1000000/\(6:Int).natAbs < 2^64,(6:Int)^(i+1)≠0/\((6:Int)^(i+1)).natAbs < 1073741824,(6:Int)≠0,i<=Vb]++G9 (i+1) c
noncomputable def wV:List Prop:=[aK 4 0,(3:Int)≠0,(1:Nat)<=Vb,UZ=UZ]++(G9 0 8++[U0=U0,(9:Nat)<=Vb,(3:Nat)<=Vb,(-(2^63):Int)<=4/\(4:Int) < 2^63/\3*(4:Nat)<=2^24,(21:Nat)<=Vb])
theorem TO:bnd ((kY P 58).ev (uU nu)) (oD P 60).iter ⟨(bR k (Bu k) UY UY .dead).take 18,[UZ,UZ,UZ,UZ,UZ,UZ,UZ,UZ,U0]++o⟩=UX (.ref 27,⟨bR k (Bu k) UY UY (.listIt 26 0),o⟩,wV):=by rfl'
end
end
structure Dy where
 Ls:List Lr
 v:Nat->V3
 t:Nat->List Int
 b:Nat->List Int
 h:Nat->List Hd
noncomputable def upd (f:Nat->α) (m:Nat) (a:α):Nat->α:=λi=>match VC i m with
 |true=>a
 |false=>f i
noncomputable def Dy.S (y:Dy):eR:=⟨y.Ls,y.v 0,y.v 1,y.v 2,y.t 0,y.t 1,y.t 2,y.b 0,y.b 1,y.b 2,y.h 0,y.h 1,y.h 2⟩
noncomputable def Dy.way (k:aY) (y:Dy):Int:=k.c1.fdiv (7^y.Ls.length)
def Dy.lt (k:aY) (y:Dy) (m:Nat):Lt:=⟨(bh (y.v m) m).a,(bh (y.v m) m).b,(bh (y.v m) m).c,y.way k,10+k.c3.fmod 40,k.L⟩
def Dy.new (k:aY) (y:Dy) (m:Nat):Lr:=⟨(m:Int),y.t m,bh (y.v m) m,y.way k,dj (y.lt k m)⟩
def ir (k:aY) (y:Dy) (m:Nat):Dy:=⟨y.Ls++[y.new k m],upd y.v m (bh (y.v m) m),upd y.t m (y.t m++[(y.Ls.length:Int)]),λi=>match VC i m with|true=>y.b i|false=>y.b i++[(y.Ls.length:Int)],y.h⟩
def Dy.num (y:Dy) (m:Nat):Int:=gN (y.b m)
def Dy.got (y:Dy) (m:Nat):Lr:=bH (y.Ls.map Lr.D) (y.num m)
noncomputable def Dy.tk (y:Dy) (m:Nat):PS:=⟨y.h m++[⟨y.num m,(y.got m).c⟩],y.t m,y.v m,UZ⟩
def Dy.tr (y:Dy) (m:Nat):PS:=dT (y.Ls.map Lr.D) 13 (y.tk m)
def i7 (y:Dy) (m:Nat):Dy:=⟨y.Ls,upd y.v m (y.tr m).v,upd y.t m (y.tr m).ts,upd y.b m (y.b m).dropLast,upd y.h m (y.tr m).hs⟩
noncomputable def dC (k:aY) (y:Dy):Nat->Dy
 |0=>if y.Ls.length < 4 then ir k y 0 else y
 |1=>if y.Ls.length < 4 then ir k y 1 else y
 |2=>if y.Ls.length < 4 then ir k y 2 else y
 |3=>if y.b 0=[] then y else i7 y 0
 |4=>if y.b 1=[] then y else i7 y 1
 |_=>if y.b 2=[] then y else i7 y 2
structure pP (k:aY) (y:Dy) (m:Nat):Prop where
 lt:eW (y.lt k m)
 t:(y.t m).length<=100
 b:∀i,(y.b i).length<=100
structure pQ (k:aY) (y:Dy) (m:Nat):Prop where
 b:(y.b m).length<=100
 h:(y.h m).length<=100
 vw:lT (y.Ls.map Lr.D) (y.num m)
 rd:rf (y.got m).t (y.got m).c.a (y.got m).c.b (y.got m).c.c k.L (y.got m).w
 W:∃n:Nat,k.W=(n:Int)/\22<=n/\n<=100
 tk:ig (y.Ls.map Lr.D) 13 (y.tk m)
def wW (k:aY) (y:Dy):Nat->Prop
 |0=>y.Ls.length < 4->pP k y 0
 |1=>y.Ls.length < 4->pP k y 1
 |2=>y.Ls.length < 4->pP k y 2
 |3=>y.b 0≠[]->pQ k y 0
 |4=>y.b 1≠[]->pQ k y 1
 |_=>y.b 2≠[]->pQ k y 2
theorem oj (y:Dy):fU y.S=(y.Ls.length:Int):=by unfold fU;rw[VA];rfl
theorem zg (hs:List Hd):(hs.map Hd.D).map wQ=hs:=by refine ac Yi ((Xb λh d=>?_).trans (List.map_id hs));obtain⟨n,⟨a,b,c⟩⟩:=h;rfl
theorem DK (k:aY) (y:Dy):wR k y.S=y.way k:=by unfold wR Dy.way;rw[oj,Vz]
theorem I8 (k:aY) (y:Dy) (m:Nat):DF k y.S (bh (y.v m) m)=y.lt k m:=by unfold DF;rw[DK];rfl
theorem wX (k:aY) (y:Dy) (m:Nat):ij k y.S m (bh (y.v m) m) (y.t m)=y.new k m:=by unfold ij;rw[I8,DK];rfl
theorem wY (y:Dy) (r:Lr):wS y.S r=(y.Ls.length:Int):=by unfold wS;refine ac Va ?_;rw[VA];exact XO (y.Ls.length:Int) 1
theorem On (k:aY) (x:eR) (r:Lr) (e:Option fS) (m:Option Int) (it:O):DH k x r e m it=bR k {x with Ls:=x.Ls++[r]} e m it:=by refine(?_:List.set (bR k x e m it) 17 (.dats (x.Ls.map Lr.D++[r.D]))=_);refine ac (show x.Ls.map Lr.D++[r.D]=(x.Ls++[r]).map Lr.D by refine ac V5 ?_;rfl) ?_;rfl
def rn (P:Vc) (n:Nat) (k:aY) (y:Dy) (d:Nat) (e:Option fS) (m:Option Int) (j:Nat) (b:Dy):Prop:=∃c f pre a,(∀o,rD P n (.int (d:Int)) ⟨bR k y.S e m (.listIt 26 j),pre++o⟩=UX (UY,⟨bR k b.S (UX c) f (.listIt 26 j),o⟩,a))/\ao a
theorem Qr {k:aY} {y:Dy} {m:Nat} (c:m < 3) (hl:y.Ls.length < 4) (h:pP k y m) (p:0<=k.c3.fmod 40):ao (DG k y.S m (bh (y.v m) m) (y.t m)):=by
 have a:∀i:Nat,i < 3->aK 3 (i:Int):=λi f=>⟨f,U3 f (by decide)⟩
 have l:∀i:Nat,i < 4->aK 4 (i:Int):=λi f=>⟨f,U3 f (by decide)⟩
 have e:fU y.S=(y.Ls.length:Int):=oj y;have j:(y.S.Ls.map Lr.D).length=y.Ls.length:=VA ..;have o:=h.t;have q:(7:Int)^y.Ls.length≠0/\((7:Int)^y.Ls.length).natAbs < 1073741824:=by exact(by decide:∀n < 4,(7:Int)^n≠0/\((7:Int)^n).natAbs < 1073741824) _ hl
 have d:sL y.S:=by unfold sL;refine(j).symm▸ ?_;exact U3 hl (by decide)
 have g:∀i,i < 3->ao (wT y.S m i (y.b i)):=λi f=>by
  unfold wT;induction VC i m with
  |true=>exact⟨rfl,rfl,trivial⟩
  |false=>exact⟨rfl,rfl,a i f,(j).symm▸(U3 hl (by decide)),iO (h.b i) rfl,trivial⟩
 refine af.mpr ⟨⟨by decide,rfl,d,decide_eq_true ((e).symm▸(Int.ofNat_le.mpr hl)),rfl,trivial⟩,af.mpr ⟨⟨rfl,rfl,a m c,a 0 (by decide),rfl,by decide,rfl,a m c,a 1 (by decide),rfl,by decide,rfl,a m c,a 2 (by decide),rfl,by decide,rfl,trivial⟩,af.mpr ⟨?_,af.mpr ⟨g 0 (by decide),af.mpr ⟨g 1 (by decide),af.mpr ⟨g 2 (by decide),?_⟩⟩⟩⟩⟩⟩
 ·refine⟨a m c,l 1 (by decide),d,(e).symm▸⟨Vr _,by lia,by decide⟩,by refine ac e ?_;rw[Vz];exact q,a m c,l 3 (by decide),by decide,⟨rfl,rfl,?_⟩,rfl,rfl,trivial⟩;rw[I8];exact⟨h.lt,ZN (bb k.c3 (by decide:(0:Int) < 40)).1⟩
 ·exact⟨rfl,a m c,iO o rfl,a m c,by decide,ac j (ac VO (U3 (WB hl) (by decide))),a m c,by refine ac Va (ac j ?_);show y.Ls.length+1 < _;exact Vn hl (by decide),iO o rfl,trivial⟩
theorem Qs {y:Dy} (hl:¬y.Ls.length < 4) (a:y.Ls.length<=100):ao (DI y.S):=by exact⟨by decide,rfl,by unfold sL;refine ac (VA ..:(y.S.Ls.map Lr.D).length=y.Ls.length) ?_;exact Vn a (by decide),decide_eq_false (by rw[oj];lia),rfl,rfl,rfl,trivial⟩
theorem Qt {m:Nat} (a:m < 3) {b:List Int} (c:b=[]):ao (wU m b):=by exact ac c ⟨by decide,rfl,rfl,rfl,⟨a,U3 a (by decide)⟩,by decide,⟨iI [],rfl⟩,rfl,rfl,trivial⟩
theorem Oo {b:List Int} (h:b≠[]):(!eO b [])=UZ:=by
 rw[zc];induction b using VG with
 |nil=>exact absurd rfl h
 |cons=>rfl
theorem Op (k:aY) (y:Dy) (m:Nat):(iq k y.S (y.b m) (y.h m) (y.t m) (y.v m)).p=y.tk m:=by refine(?_:(⟨((y.h m).map Hd.D++[Hd.D ⟨gN (y.b m),(kZ y.S (y.b m)).c⟩]).map wQ,y.t m,y.v m,UZ⟩:PS)=_);refine ac (show(y.h m).map Hd.D++[Hd.D ⟨gN (y.b m),(kZ y.S (y.b m)).c⟩]=(y.h m++[(⟨gN (y.b m),(kZ y.S (y.b m)).c⟩:Hd)]).map Hd.D by rw[V5];rfl) ?_;rw[zg];rfl
theorem Ha (k:aY) (y:Dy) (m:Nat):(iq k y.S (y.b m) (y.h m) (y.t m) (y.v m)).r=y.tr m:=by unfold TX.r;rw[Op];rfl
theorem Qu {k:aY} {y:Dy} {m:Nat} (f:m < 3) (g:y.b m≠[]) (h:pQ k y m):ao (DJ k y.S m (y.b m) (y.h m) (y.t m) (y.v m)):=by
 have a:aK 3 (m:Int):=⟨f,U3 f (by decide)⟩
 have l:=h.h;have d:∀(e:Vv) (i:Nat),i < 5->ao (I7 e y.S (y.b m) i):=λe i j=>⟨rfl,⟨rfl,rfl,rfl,h.vw⟩,⟨j,U3 j (by decide)⟩,trivial⟩
 have o:(y.h m).map Hd.D++[Hd.D ⟨gN (y.b m),(kZ y.S (y.b m)).c⟩]=(y.h m++[(⟨gN (y.b m),(kZ y.S (y.b m)).c⟩:Hd)]).map Hd.D:=by refine ac V5 ?_;rfl
 refine af.mpr ⟨⟨by decide,rfl,rfl,rfl,a,by decide,⟨iI _,rfl⟩,Oo g,rfl,a,⟨(List.length_pos_iff.mpr g:0 < (y.b m).length),iO (h.b) rfl⟩,trivial⟩,af.mpr ⟨d _ 4 (by decide),af.mpr ⟨d _ 2 (by decide),af.mpr ⟨d _ 3 (by decide),?_⟩⟩⟩⟩;refine⟨⟨rfl,rfl,h.rd⟩,rfl,a,by decide,by rw[VA];refine ac VO ?_;exact U3 l (by decide),a,a,a,⟨rfl,?_,?_⟩,a,a,rfl,trivial⟩
 ·refine(?_:[O.dats ((y.h m).map Hd.D++[Hd.D ⟨gN (y.b m),(kZ y.S (y.b m)).c⟩]), .dats (y.Ls.map Lr.D), .ints (y.t m)]=[O.dats ((((y.h m).map Hd.D++[Hd.D ⟨gN (y.b m),(kZ y.S (y.b m)).c⟩]).map wQ).map Hd.D), .dats (y.Ls.map Lr.D), .ints (y.t m)]);refine ac o ?_;rw[zg]
 ·rw[Op];exact ca h.W λn p q r=>(oF n p q r h.tk)
theorem wZ {n:Nat} {k:aY} {y:Dy} {d m:Nat} {e:Option fS} {e1:fS} {x:eR} (run:∀o,rD P n (.int (d:Int)) ⟨bR k y.S e m0 (.listIt 26 j),I6 m++o⟩=UX (UY,⟨DH k x (ij k y.S m (bh (y.v m) m) (y.t m)) (UX e1) m1 (.listIt 26 j),o⟩,DG k y.S m (bh (y.v m) m) (y.t m)))
  (b:{x with Ls:=x.Ls++[ij k y.S m (bh (y.v m) m) (y.t m)]}=(ir k y m).S) (c:m < 3) (hl:y.Ls.length < 4) (f:pP k y m) (a:0<=k.c3.fmod 40):rn P n k y d e m0 j (ir k y m):=
 ⟨e1,m1,_,_,λo=>by rw[run,On,b],Qr c hl f a⟩
theorem w8 {n:Nat} {k:aY} {y:Dy} {d m:Nat} {e:Option fS} (h:y.Ls.length < 4->rn P n k y d e m0 j (ir k y m)) (b:e=UY->d < 3/\y.Ls.length < 4) (c:y.Ls.length<=4) {f:fS->fS} {p:List Bool} (run:∀e o,rD P n (.int (d:Int)) ⟨bR k y.S (UX e) m0 (.listIt 26 j),p++o⟩=UX (UY,⟨bR k y.S (UX (f e)) m1 (.listIt 26 j),o⟩,DI y.S)):rn P n k y d e m0 j (if y.Ls.length < 4 then ir k y m else y):=by
 by_cases a:y.Ls.length < 4
 ·refine ac (if_pos a) ?_;exact h a
 ·refine ac (if_neg a) ?_;induction e with
  |none=>exact absurd (b rfl).2 a
  |some e=>exact(Ll _ _ _ _ (run e) (Qs a (U3 c (by decide))))
theorem w9 {n:Nat} {k:aY} {y:Dy} {d m:Nat} {e:Option fS} (c:m < 3) (hd:¬d < 3) (i:y.b m≠[]->pQ k y m) (l:e=UY->d < 3/\y.Ls.length < 4) {f g:fS->fS} {p q:List Bool} (r1:∀e o,rD P n (.int (d:Int)) ⟨bR k y.S (UX e) m0 (.listIt 26 j),p++o⟩=UX (UY,⟨bR k y.S (UX (f e)) m1 (.listIt 26 j),o⟩,wU m (y.b m)))
  {x:eR} (r2:∀e o,rD P n (.int (d:Int)) ⟨bR k y.S (UX e) m0 (.listIt 26 j),q++o⟩=UX (UY,⟨bR k x (UX (g e)) m1 (.listIt 26 j),o⟩,DJ k y.S m (y.b m) (y.h m) (y.t m) (y.v m))) (r:x=(i7 y m).S):rn P n k y d e m0 j (if y.b m=[] then y else i7 y m):=by
 induction e with
 |none=>exact absurd (l rfl).1 hd
 |some e=>
  by_cases a:y.b m=[]
  ·refine(if_pos a).symm▸ ?_;exact(Ll _ _ _ _ (r1 e) (Qt c a))
  ·refine(if_neg a).symm▸ ?_;exact(Ll _ _ _ _ (r▸r2 e) (Qu c a (i a)))
theorem Oq (P:Vc) (n:Nat) {k:aY} {y:Dy} (c:0<=k.c3.fmod 40) (i:y.Ls.length<=4) {d:Nat} (hd:d < 6) (f:wW k y d) (e:Option fS) (g:e=UY->d < 3/\y.Ls.length < 4) (m:Option Int) (j:Nat):rn P n k y d e m j (dC k y d):=by
 rcases d with _|_|_|_|_|_|d
 ·exact w8 (λa=>wZ (Tq P k y.S e m j n) (by show eR.mk _ _ _ _ _ _ _ _ _ _ _ _ _=_;rw[wY,oj];refine ac (show ij k y.S 0 _ _=_ from wX k y 0) ?_;rfl) (by decide) a (f a) c) g i λe=>Tw P k y.S e m j n
 ·exact w8 (λa=>wZ (Tr P k y.S e m j n) (by show eR.mk _ _ _ _ _ _ _ _ _ _ _ _ _=_;rw[wY,oj];refine ac (show ij k y.S 1 _ _=_ from wX k y 1) ?_;rfl) (by decide) a (f a) c) g i λe=>Tz P k y.S e m j n
 ·exact w8 (λa=>wZ (Tt P k y.S e m j n) (by show eR.mk _ _ _ _ _ _ _ _ _ _ _ _ _=_;rw[wY,oj];refine ac (show ij k y.S 2 _ _=_ from wX k y 2) ?_;rfl) (by decide) a (f a) c) g i λe=>TC P k y.S e m j n
 ·exact w9 (by decide) (by decide) f g (λe=>Tx P k y.S e m j n) (λe=>TE P k y.S e m j n) (by refine ac (show iq k y.S y.S.b0 y.S.h0 y.S.t0 y.S.v0=iq k y.S (y.b 0) (y.h 0) (y.t 0) (y.v 0) from rfl) ?_;rw[Ha];rfl)
 ·exact w9 (by decide) (by decide) f g (λe=>TA P k y.S e m j n) (λe=>TF P k y.S e m j n) (by refine ac (show iq k y.S y.S.b1 y.S.h1 y.S.t1 y.S.v1=iq k y.S (y.b 1) (y.h 1) (y.t 1) (y.v 1) from rfl) ?_;rw[Ha];rfl)
 ·exact w9 (by decide) (by decide) f g (λe=>TD P k y.S e m j n) (λe=>TG P k y.S e m j n) (by refine ac (show iq k y.S y.S.b2 y.S.h2 y.S.t2 y.S.v2=iq k y.S (y.b 2) (y.h 2) (y.t 2) (y.v 2) from rfl) ?_;rw[Ha];rfl)
 ·exact absurd hd (Nat.not_lt.mpr (Wr 6 d))
def lV (k:aY):Dy->List Nat->Prop
 |_,[]=>True
 |y,d::r=>d < 6/\wW k y d/\lV k (dC k y d) r
theorem xd (k:aY) {y:Dy} (h:y.Ls.length<=4) (d:Nat):(dC k y d).Ls.length<=4:=by
 have w:∀m,(if y.Ls.length < 4 then ir k y m else y).Ls.length<=4:=λm=>by
  by_cases a:y.Ls.length < 4
  ·refine ac (if_pos a) ?_;show(y.Ls++[_]).length<=4;refine ac Va ?_;show y.Ls.length+1<=4;exact a
  ·exact ac (if_neg a) h
 have o:∀m,(if y.b m=[] then y else i7 y m).Ls.length<=4:=λm=>by
  by_cases c:y.b m=[]
  ·exact ac (if_pos c) h
  ·exact ac (if_neg c) h
 match d with
 |0=>exact w 0
 |1=>exact w 1
 |2=>exact w 2
 |3=>exact o 0
 |4=>exact o 1
 |_+5=>exact o 2
theorem KJ (f:α->Int) (a:List α) (x:α) (r:List α):ay 0 ((a++x::r).map f) a.length=f x:=by refine ac V5 ?_;have:=pB (d:=0) (a.map f) (f x) (r.map f);rwa[VA] at this
theorem Hb (P:Vc) {k:aY} (i:0<=k.c3.fmod 40):∀(r a:List Nat) (y:Dy) (e:Option fS) (m:Option Int) (n:Nat),ii k.c0=(a++r).map (λd:Nat=>(d:Int))->lV k y r->y.Ls.length<=4->r.length<=n->(e=UY->∃d q,r=d::q/\d < 3/\y.Ls.length < 4)->
  ∃e' j pre nds,(∀o,(kY P (n+26)).fl (aU nu) 27 Br [] ⟨bR k y.S e m (.listIt 26 a.length),pre++o⟩=UX (.next,⟨bR k (r.foldl (dC k) y).S (UX e') j .dead,o⟩,nds))/\ao nds:=λr=>by
 induction r with
 |nil=>
  intro a y e m n c _ _ _ l;have f:a.length=21:=by have:=congrArg Xd c;simp only[VY,VA] at this;exact this.symm.trans (show(ii k.c0).length=21 from rfl)|>.symm▸rfl
  induction e with
  |none=>obtain⟨_,_,h,_⟩:=l rfl;cases h
  |some e=>refine(f).symm▸ ?_;exact⟨e,m,[U0],[decide (21 < 21)=U0],λo=>mW (TI P k y.S m n o (UX e)),rfl,trivial⟩
 |cons d r z=>
  intro a y e m n c p s v l;induction n with
  |zero=>exact absurd v (Zf _)
  |succ n=>
   have g:a.length < 21:=by have:=congrArg Xd c;simp only[VA,Va,VD] at this;have f:(ii k.c0).length=21:=rfl;lia
   obtain⟨A,B,pre,nds,t,C⟩:=Oq P (n+1) i s p.1 p.2.1 e (λh=>by obtain⟨H,q,D,E,F⟩:=l h;cases D;exact⟨E,F⟩) m (a.length+1);obtain⟨e',j,b,w,u,G⟩:=z (a++[d]) (dC k y d) (UX A) B n (by rw[Vk];exact c) p.2.2 (xd k s d) (by simpa using v) (λh=>nomatch h);simp only[Va] at u;have x:=λo=>TH P k y.S m a.length o e;simp only[((c).symm▸(KJ _ a d r):ay 0 (ii k.c0) a.length=(d:Int))] at x;exact⟨e',j,UZ::(pre++b),_,λo=>by refine ac Xg ?_;rw[Vk];exact qT (tD (x _) (t (b++o))) (u o),af.mpr ⟨af.mpr ⟨(show ao [decide (a.length < 21)=UZ] from⟨decide_eq_true g,trivial⟩),C⟩,G⟩⟩
noncomputable def oY (k:aY):Dy:=⟨[],λa=>k.s,λa=>[],λa=>[],λa=>[]⟩
def ik (a:Int):List Nat:=(ii a).map XU
theorem KL (a:Int):ii a=(ik a).map λd:Nat=>(d:Int):=by
 unfold ik;refine ac Yi ((List.map_id (ii a)).symm.trans (Xb λd b=>?_));have:0<=d:=by unfold ii d9 at b;simp only[Xg,Zj,WL,Z8,or_false] at b;rcases b with rfl|rfl|rfl|rfl|rfl|rfl|rfl|rfl|rfl|rfl|rfl|rfl|rfl|rfl|rfl|rfl|rfl|rfl|rfl|rfl|rfl<;>first|exact(λx=>(bb x (by decide)).1:∀x:Int,0<=x.fmod 3) _|exact(λx=>(bb x (by decide)).1:∀x:Int,0<=x.fmod 6) _|decide
 exact(VP this).symm
def bo (k:aY):Dy:=(ik k.c0).foldl (dC k) (oY k)
noncomputable def jf (y:Dy):List Int:=y.Ls.map Lr.s
theorem DL:∀(c i:Nat),i+c<=100->ao (nv i c)
 |0,_,_=>trivial
 |c+1,i,h=>⟨⟨by decide,by decide⟩,iO (U3 (Vo _ _) h) rfl,DL c (i+1) (by lia)⟩
theorem KM (P:Vc) (k:aY) (y:Dy) (e:fS) (m:Option Int) (i:y.Ls.length<=4):je (bnd (bnd (cG (kY P 59).ex [aw bp.body 6]) tC) (λv=>cj P 9 v) ⟨bR k y.S (UX e) m .dead,[]⟩)=UX (.tup [.list [.ints (y.v 0).l, .ints (y.v 1).l, .ints (y.v 2).l], .ints (jf y)],nv 0 y.Ls.length++[(2:Nat)<=Vb]):=by
 obtain⟨f,v,t,b,h⟩:=y;rcases f with _|⟨a,_|⟨c,_|⟨d,_|⟨g,_|⟨j,f⟩⟩⟩⟩⟩
 ·exact TJ P k (Dy.S ⟨[],v,t,b,h⟩) e m []
 ·exact TK P k (Dy.S ⟨[a],v,t,b,h⟩) e m [] a
 ·exact TL P k (Dy.S ⟨[a,c],v,t,b,h⟩) e m [] a c
 ·exact TM P k (Dy.S ⟨[a,c,d],v,t,b,h⟩) e m [] a c d
 ·exact TN P k (Dy.S ⟨[a,c,d,g],v,t,b,h⟩) e m [] a c d g
 ·exact absurd i (Nat.not_le.mpr (Wr 5 _))
theorem Os:ao (G9 0 8):=by
 have a:aK 4 0:=⟨by decide,by decide⟩
 refine⟨rfl,a,by decide,by decide,by decide,by decide,rfl,a,by decide,by decide,by decide,by decide,rfl,a,by decide,by decide,by decide,by decide,rfl,a,by decide,by decide,by decide,by decide,rfl,a,by decide,by decide,by decide,by decide,rfl,a,by decide,by decide,by decide,by decide,rfl,a,by decide,by decide,by decide,by decide,rfl,a,by decide,by decide,by decide,by decide,trivial⟩
theorem xe (st:V4) (h:o= .ints []∨o= .dats []):ao (Bv st o):=⟨rfl,by decide,by decide,by decide,by decide,h,h,h,trivial⟩
theorem KN:ao uJ:=af.mpr ⟨⟨by decide,trivial⟩,af.mpr ⟨xe _ (.inl rfl),af.mpr ⟨xe _ (.inl rfl),af.mpr ⟨xe _ (.inr rfl),rfl,by decide, .inr rfl,trivial⟩⟩⟩⟩
theorem Qv:ao wV:=af.mpr ⟨⟨⟨by decide,by decide⟩,by decide,by decide,rfl,trivial⟩,af.mpr ⟨Os,rfl,by decide,by decide,by decide,by decide,trivial⟩⟩
theorem xg (k:aY):∀(r:List Nat) (y:Dy),y.Ls.length<=4->(r.foldl (dC k) y).Ls.length<=4
 |[],_,h=>h
 |d::r,y,h=>xg k r _ (xd k h d)
theorem KO (P:Vc) {k:aY} (z:lV k (oY k) (ik k.c0)):∃orc qs,bD 0 (bnd (aR (i6 P) gl (sJ P 60) (sK 60) (Gz P (uI P) 2 60) [] [.dat (.ints [k.c0,k.c1,k.c2,k.c3]), .dat (.ints k.L), .dat (.ints k.s.l), .int k.W]) (λv=>cj P 9 v) ⟨[],orc⟩)=
  UX (.tup [.list [.ints ((bo k).v 0).l, .ints ((bo k).v 1).l, .ints ((bo k).v 2).l], .ints (jf (bo k))],[],qs)/\ao qs:=by
 obtain⟨q,r,b,c,u,A⟩:=Hb P (k:=k) (bb k.c3 (by decide)).1 (ik k.c0) [] (oY k) UY UY 32 (KL k.c0) z (by show 0<=4;decide) (by show 21<=32;decide) (λa=>⟨_,_,rfl,by have:=bb k.c0 (show(0:Int) < 3 by decide);refine(?_:(k.c0.fmod 3).toNat < 3);exact(WY this.1).mpr this.2,by show 0 < 4;decide⟩)
 have B:(bo k).Ls.length<=4:=xg k _ (oY k) (by show 0<=4;decide)
 obtain⟨D,E⟩:=tB (KM P k (bo k) q r B)
 have t:=af.mpr ⟨DL (bo k).Ls.length 0 (by lia),(show ao [(2:Nat)<=Vb] from⟨by decide,trivial⟩)⟩
 refine ez (bA E) λv N O w F G H=>(ez (bA F) λf Q x y I J d=>?_)
 subst d
 simp only[H] at t
 obtain⟨e,g⟩:=af.mp t
 have K:(kY P 59).ex nu ⟨(bR k (Bu k) UY UY .dead).take 18,[UZ,UZ,UZ,UZ,UZ,UZ,UZ,UZ,U0]++(b++[])⟩=UX (.next,⟨bR k (bo k).S (UX q) r .dead,[]⟩,wV++c):=
  mX (C:=Bt P) (o:=oD P 60) (n:=58) (i:=27) (s:=nu) (by rfl') (by rfl') (TO P k (b++[])) (u [])
 have M:bnd (aR (i6 P) gl (sJ P 60) (sK 60) (Gz P (uI P) 2 60) [] [.dat (.ints [k.c0,k.c1,k.c2,k.c3]), .dat (.ints k.L), .dat (.ints k.s.l), .int k.W]) (λv=>cj P 9 v) ⟨[],[UZ,UZ,UZ,UZ,UZ,UZ,UZ,UZ,U0]++(b++[])⟩=UX (.tup [.list [.ints ((bo k).v 0).l, .ints ((bo k).v 1).l, .ints ((bo k).v 2).l], .ints (jf (bo k))],D,((uJ++((wV++c)++x))++y)++w):=by refine aJ ?_ G;unfold aR;exact aJ (m:=kE (i6 P) ((i6 P).params.zip [.dat (.ints [k.c0,k.c1,k.c2,k.c3]), .dat (.ints k.L), .dat (.ints k.s.l), .int k.W])) (p:=[]) rfl (aJ ((show _=cG (kY P 59).ex ([aw bp.body 0,aw bp.body 1,aw bp.body 2,aw bp.body 3,aw bp.body 4]++nu::[aw bp.body 6]) ⟨Oj P k,[UZ,UZ,UZ,UZ,UZ,UZ,UZ,UZ,U0]++(b++[])⟩ by rfl').trans (kN (Qq P k ([UZ,UZ,UZ,UZ,UZ,UZ,UZ,UZ,U0]++(b++[]))) (jK K I))) J)
 refine⟨_,((uJ++((wV++c)++x))++y)++w,ac M rfl,?_⟩
 obtain⟨h,j⟩:=af.mp e
 exact af.mpr ⟨af.mpr ⟨af.mpr ⟨KN,af.mpr ⟨af.mpr ⟨Qv,A⟩,h⟩⟩,j⟩,g⟩
abbrev I9:Sp:=fW (X:=aY) (λvs=>⟨ay 0 (cr (nV vs 0)) 0,ay 0 (cr (nV vs 0)) 1,ay 0 (cr (nV vs 0)) 2,ay 0 (cr (nV vs 0)) 3,cr (nV vs 1),v3 (cr (nV vs 2)),bU (nV vs 3)⟩) (λk=>[.dat (.ints [k.c0,k.c1,k.c2,k.c3]), .dat (.ints k.L), .dat (.ints k.s.l), .int k.W])
 (λk=> .tup [.list [.ints ((bo k).v 0).l, .ints ((bo k).v 1).l, .ints ((bo k).v 2).l], .ints (jf (bo k))]) λk=>lV k (oY k) (ik k.c0)
theorem Ot (P:Vc):bz (aF P) 301 qP (i6 P):=nq PU
theorem Ou (f:cR J):aX (Wz J w) 24 301 I9:=
 dq (X:=aY) (lev:=20) (k:=2) (T:=i6 w.params) (Tb:=uI w.params) (defs:=[]) (spS:=sJ w.params) (spE:=sK) (Ot w.params) rfl rfl (λa h=>by cases h;rfl) (c8 (Ot w.params))
  (λg os A b c=>⟨bW (fd:=qN) (by rfl') (dH (Du f) (by decide)) b c,bW (fd:=ur) (by rfl') (KC J w) b c,bW (fd:=qO) (by rfl') (dH (G6 J w) (by decide)) b c,trivial⟩) (λN g os A L Z o U b c i p j=>Oi i j) λk l=>by
  exact aG (KO w.params l) λd m e n=>⟨60,d,m,e,n,rfl⟩
end
section
open Sem (wp)
section
theorem ae.go (h:ae c A fz U m t R) {S:St} {a:α} {p:List Prop} (e:m S=UX (a,S',p)) (d:ao p) {Q:β->U9->Prop} (g:SR c fz U S.H s)
  (k:∀f r s' x,Le fz f->U <+:r->SR c f r S'.H s'->R f r a x->Q x s'):Vh (Vi c.prog c.w) A t Q E s:=VH (h S a S' p e d fz U s Q (Le.refl _) (U6 _) g k) (λb b h=>h) λb b z=>z.elim
section
variable {R:GenEnd} {Y:Protocol} {n:Nat} {s₀:U9} {c:Code} {K:Flow->Xj Fin} {H:U4->Xj Fin} {gd:Bool->Bool} {lv:List U4->List U4}
noncomputable def UP (Z:Yk) (K:Flow->Xj Fin) (H:U4->Xj Fin) (gd:Bool->Bool) (lv:List U4->List U4):ZW->Xj Fin:=λr=>((match r with| .ok f=>(.pure f:Xj Flow)| .error e=> .raise e).onRaise λ(x:U4)=>do
    if(<-field x 1)==Xh then unsupported "frame.own-activation:exception-without-traceback"
    setFlight x Z.frame).wrap K H gd lv
theorem KP {t it:Vv} {b e:List V4} (hs:eB it=U0)
  (h:Vh (Vi J w) (A.over c fs) (Ws it Z) (λx s'=>Vh (Vi J w) (A.over c fs) (aaL x) (λi d=>∀p,adr (Vi J w) A R Y n s₀ (.forLoop t i b e Z) ((Vi J w).den (.forLoop t i b e Z)) (.ret (UP Z K H gd lv) UY (gd U0) (lv []) c p []::fs) d) bE s') bE s):
  adr (Vi J w) A R Y n s₀ c ((aaW (.For t it b e pos) Z).wrap K H gd lv) fs s:=by
 rw[exec_For]
 refine seg_at (?_:adr _ A R Y n s₀ c ((Ws it Z >>= λv=>abT it Z v >>= λx=>WM it.pos >>= λa=>WD [x] (aaL x) >>= λi=>runOwn (.forLoop t i b e Z) Z).wrap K H gd lv) fs s)
 rw[W7,XV]
 refine aaD (VH h (λx s' g=>?_) λa a z=>z.elim)
 rw[ke hs]
 refine(?_:adr _ A R Y n s₀ c ((WM it.pos >>= λa=>WD [x] (aaL x) >>= λi=>runOwn (.forLoop t i b e Z) Z).wrap K H gd lv) fs s')
 refine seg_at (?_:adr _ A R Y n s₀ c ((WD [x] (aaL x) >>= λi=>runOwn (.forLoop t i b e Z) Z).wrap K H gd lv) fs s')
 rw[W7,XV]
 refine aaD (Vq (VH g (λi d f=>?_) λa a z=>z.elim))
 exact seg_call f
noncomputable def DM (t:Vv) (i:U4) (b e:List V4) (Z:Yk):Flow->Xj Fin
 | .next| .cont=> .pure (.again (.forLoop t i b e Z))
 | .brk=> .pure (.done .next)
 | .ret v=> .pure (.done (.ret v))
noncomputable def DN (Z:Yk):U4->Xj Fin:=λx=>(do aaB x Z;X2 x:Xj Unit).wrap (λa=> .raise x) .raise id id
theorem yb {t:Vv} {i:U4} {b e:List V4}
  (h:Vh (Vi J w) (A.over (.forLoop t i b e Z) fs) (aaM i) (λr s'=>match r with
   |none=>adr (Vi J w) A R Y n s₀ (.forLoop t i b e Z) (.pure (.again (.block e Z))) fs s'
   |some v=>Vh (Vi J w) (A.over (.forLoop t i b e Z) fs) (aaS t i v) (λa d=>Vh (Vi J w) (A.over (.forLoop t i b e Z) fs) (ZI t Z v) (λa c=>
     adr (Vi J w) A R Y n s₀ (.forLoop t i b e Z) ((aah b Z).wrap (DM t i b e Z) (DN Z) id id) fs c) bE d) bE s') bE s):
  adr (Vi J w) A R Y n s₀ (.forLoop t i b e Z) ((Vi J w).den (.forLoop t i b e Z)) fs s:=by
 show adr _ A R Y n s₀ _ ((acH t i b e Z).onRaise (λx=>do aaB x Z;X2 x)) fs s
 unfold acH
 rw[Sem.onRaise_eq_wrap,W7,XV]
 refine aaD (VM ?_)
 rw[W7,XV]
 refine aaD (X5 (VH h (λr s' g=>?_) λa a z=>z.elim))
 induction r with
 |none=>exact g
 |some v=>
  dsimp only;refine(?_:adr _ A R Y n s₀ _ (((aaS t i v >>= λa=>ZI t Z v >>= λa=>aah b Z >>= _)).wrap _ _ _ _) fs s');rw[W7,XV];refine aaD (VH g (λa d j=>?_) λa a z=>z.elim);rw[W7,XV];refine aaD (VH j (λa l k=>?_) λa a z=>z.elim);rw[W7,XV];rw[Sem.wrap_congr (aah b Z) _ _ (K':=DM t i b e Z) (H':=DN Z) (λf=>by cases f<;>rfl)
   (λe=>by first|exact Sem.bind_eq_wrap _ _|(show(do aaB e Z;X2 e:Xj Unit).bind (λa=> .raise e)=_;rw[Sem.bind_eq_wrap];rfl))]
  exact k
theorem xh {t:Vv} {b e:List V4} 
  (h:Vh (Vi J w) (A.over c fs) (aa6 t Z (Ws t Z)) (λd s'=>adr (Vi J w) A R Y n s₀ c ((if d=UZ then aah b Z else aah e Z).wrap K H gd lv) fs s') bE s):
  adr (Vi J w) A R Y n s₀ c ((aaW (.If t b e pos) Z).wrap K H gd lv) fs s:=by
 rw[exec_If]
 refine seg_at (?_:adr _ A R Y n s₀ c ((aa6 t Z (Ws t Z) >>= λd=>if d=UZ then aah b Z else aah e Z).wrap K H gd lv) fs s)
 rw[W7,XV]
 exact aaD (VH h (λd s' f=>f) λa a z=>z.elim)
theorem sM {cx:Cx} (i:cx.prog=J) (j:cx.w=w) {K:β->Xj Fin} {H:U4->Xj Fin} {g:bJ α β} {S:St} {a:α} {p:List Prop}
  (l:ae cx (A.over c fs) fz U m t g) (e:m S=UX (a,S',p)) (d:ao p) (o:SR cx fz U S.H s)
  (k:∀fz' ρ' s' x,Le fz fz'->U <+:ρ'->SR cx fz' ρ' S'.H s'->g fz' ρ' a x->adr (Vi J w) A R Y n s₀ c (K x) fs s'):adr (Vi J w) A R Y n s₀ c (t.wrap K H gd lv) fs s:=by
 subst i j
 exact aaD (VH (l S a S' p e d fz U s _ (Le.refl _) (U6 _) o λfz' ρ' s' x q r f u=>k fz' ρ' s' x q r f u) (λb b h=>h) λb b z=>z.elim)
theorem DO {fr:Frame} (h:adr (Vi J w) A R Y n s₀ (.block [] Z) (ac0 (.ok .next)) fs s):adr (Vi J w) A R Y n s₀ c (.pure (.again (.block [] Z))) fs s:=seg_again rfl (by refine(?_:adr _ A R Y n s₀ _ _ fs s);exact h)
end
end
end
section
section
def eJ:FT:=dF (cM 3)
abbrev DP:V4:=aw eJ.body 1
abbrev tE:Vv:=(aU DP)
abbrev mf:List V4:=(cL DP)
abbrev i1:V4:=aw mf 0
abbrev i2:V4:=aw mf 1
abbrev y1:V4:=aw mf 2
abbrev a2:V4:=aw mf 3
abbrev j1:V4:=aw (cL i2) 0
abbrev w1:V4:=aw (cL i2) 1
abbrev y2:V4:=aw (cL w1) 0
theorem DS:eJ.body=[aw eJ.body 0, .For tE (uU DP) mf [] (fV DP)]:=by rfl'
theorem TP:mf=[.If (aU i1) (cL i1) [] (fV i1), .If (aU i2) [.If (aU j1) (cL j1) [] (fV j1), .While (aU w1) [.Expr (.Yield (UX (cm (aU y2))) (dK (aU y2))) (fV y2)] [] (fV w1)] [] (fV i2), .Expr (.Yield (UX (cm (aU y1))) (dK (aU y1))) (fV y1),a2]:=by rfl'
def zh (P:Vc) (N:Nat):dU:=aZ P [] bZ ce gl N 2
def lW:Ec:=be eJ [] gl (λa=>bk) (λa=>br) 2
def mh (P:Vc):bP:=aE (zh P 60) 59 lW
noncomputable def gG (L:List Int):V:= .dat (.ints L)
noncomputable def Rn:Option Int->V
 |none=> .none
 |some v=> .int v
def g0 (o0 o1:O) (L:List Int):List O:=[o0,o1, .frame [("grouping",gG L)]]
def g1 (o0 o1:O) (L:List Int):List O:=[o0,o1, .frame [("grouping",gG L),("last_interval", .none)]]
noncomputable def Ro:Option Int->List (Vd×V)
 |none=>[]
 |some x=>[("interval", .int x)]
def gs (o0 o1:O) (L:List Int) (i:Nat) (li:Option Int) (iv:Option Int):List O:=[o0,o1, .frame (("grouping",gG L)::("last_interval",Rn li)::Ro iv), .datIt (.ints L) i]
section
variable (P:Vc) (o0 o1:O) (L:List Int) (i:Nat) (li iv:Option Int) (x:Int) (orc:List Bool)
theorem TQ:(mh P).ex (aw eJ.body 0) ⟨g0 o0 o1 L,orc⟩=UX (.next,⟨g1 o0 o1 L,orc⟩,[]):=by rfl'
theorem TR:(mh P).ev (uU DP) ⟨g1 o0 o1 L,orc⟩=UX (gG L,⟨g1 o0 o1 L,orc⟩,[]):=by rfl'
theorem Ov:(zh P 60).iter (gG L) ⟨g1 o0 o1 L,orc⟩=UX (.ref 3,⟨gs o0 o1 L 0 UY UY,orc⟩,[]):=by rfl'
theorem TS:(zh P 60).nxt 3 ⟨gs o0 o1 L i li iv,UZ::orc⟩=UX (UX (.int (ay 0 L i)),⟨gs o0 o1 L (i+1) li iv,orc⟩,[decide (i < L.length)=UZ]):=by rfl'
theorem TU:(zh P 60).nxt 3 ⟨gs o0 o1 L i li iv,U0::orc⟩=UX (UY,⟨[o0,o1, .frame (("grouping",gG L)::("last_interval",Rn li)::Ro iv), .dead],orc⟩,[decide (i < L.length)=U0]):=by rfl'
theorem TV:(mh P).asg tE (.int x) ⟨gs o0 o1 L i li iv,orc⟩=UX ((),⟨gs o0 o1 L i li (UX x),orc⟩,[]):=by cases iv<;>rfl'
theorem TW:(mh P).tr (aU i1) ⟨gs o0 o1 L i li (UX x),orc⟩=UX (decide (x=127),⟨gs o0 o1 L i li (UX x),orc⟩,[]):=by rfl'
theorem TY:(mh P).tr (aU i2) ⟨gs o0 o1 L i li (UX x),orc⟩=UX (decide (x=0),⟨gs o0 o1 L i li (UX x),orc⟩,[]):=by rfl'
theorem TZ (v:Int):(mh P).tr (aU j1) ⟨gs o0 o1 L i (UX v) (UX x),orc⟩=UX (U0,⟨gs o0 o1 L i (UX v) (UX x),orc⟩,[]):=by rfl'
theorem Ow (v:Int):(mh P).tr (aU w1) ⟨gs o0 o1 L i (UX v) (UX x),orc⟩=UX (UZ,⟨gs o0 o1 L i (UX v) (UX x),orc⟩,[]):=by rfl'
theorem Ox (v:Int):(mh P).ev (cm (aU y2)) ⟨gs o0 o1 L i (UX v) (UX x),orc⟩=UX (.int v,⟨gs o0 o1 L i (UX v) (UX x),orc⟩,[]):=by rfl'
theorem T4:(mh P).ev (cm (aU y1)) ⟨gs o0 o1 L i li (UX x),orc⟩=UX (.int x,⟨gs o0 o1 L i li (UX x),orc⟩,[]):=by rfl'
theorem T5:(mh P).ex a2 ⟨gs o0 o1 L i li (UX x),orc⟩=UX (.next,⟨gs o0 o1 L i (UX x) (UX x),orc⟩,[]):=by rfl'
theorem Qw:(mh P).exs (cL i1) ⟨gs o0 o1 L i li (UX x),orc⟩=UX (.ret .none,⟨gs o0 o1 L i li (UX x),orc⟩,[]):=by rfl'
end
end
end
section
open Sem (wp)
section
structure GS where
 i:Nat
 li:Option Int
 x:Int
 rep:Bool
noncomputable def GS.out (σ:GS):Int:=match σ.rep with
 |true=>σ.li.getD 0
 |false=>σ.x
def tF (L:List Int) (i:Nat) (li:Option Int):Option GS:=if i < L.length then(if ay 0 L i=127 then UY else if ay 0 L i=0 then UX ⟨i+1,li,0,UZ⟩ else UX ⟨i+1,li,ay 0 L i,U0⟩) else UY
def Rp (L:List Int) (σ:GS):Option GS:=match σ.rep with
 |true=>UX σ
 |false=>tF L σ.i (UX σ.x)
noncomputable def jj (L:List Int):Nat->Option GS
 |0=>tF L 0 UY
 |j+1=>match jj L j with
  |none=>UY
  |some σ=>Rp L σ
def YG (cx:Cx) (fz₀:Ve) (ρ₀:List U8) (L:List Int) (o0 o1:Nat->O) (N:Nat):Protocol:=λk s₀ v d c=>∃σ ρ' fz' e,jj L (N - 1 - k)=UX σ/\v= .int σ.out e/\Le fz₀ fz'/\ρ₀ <+:ρ'/\
 SR cx fz' ρ' (gs (o0 (N - 1 - k)) (o1 (N - 1 - k)) L σ.i σ.li (UX σ.x)) d/\(k≠0->∀a b,Le fz' a->SR cx a ρ' (gs (o0 (N - k)) (o1 (N - k)) L σ.i σ.li (UX σ.x)) b->c (.send .none) b)
def PG (cx:Cx) (fz₀:Ve) (ρ₀:List U8) (L:List Int) (o0 o1:Nat->O) (N:Nat):Nat->U9->U9->Prop:=λn s₀ c=>jj L (N - n)=UY/\∃fz' ρ' a b,Le fz₀ fz'/\ρ₀ <+:ρ'/\SR cx fz' ρ' [o0 (N - n),o1 (N - n),a,b] c
section
variable {L:List Int} 
abbrev cZ (J:VB) (w:V6) (g:Ve) (os:d7):Cx:=(Wz J w).cx g os
theorem nw (b:cI g) (d:aP 5 A'):cp (cZ J w g os) A' (zh w.params 60):=
 nP (c:=cZ J w g os) (lev:=2) b qS (λA' a=>gY.x (T:=[]) trivial) dG lim 2 A' d
theorem eM (a:cI g) (b:aP 5 A'):bG (cZ J w g os) A' lW Z (mh w.params):=d5 (nw a b) 59 lW Z
theorem k8 (a:aI (cZ J w g os) lW Z U):bM (cZ J w g os) A' lW Z fz U:=⟨a,dw⟩
theorem KQ (p:cI g) (e:Z.scope.isCoroutine=U0) (f:Yp Z=U0) (q:aP 5 (A.over (.whileLoop (aU w1) [.Expr (.Yield (UX (cm (aU y2))) (dK (aU y2))) (fV y2)] [] Z) fs)) (j:splitAtGen fs=UY) (k:fs.any Frame.guarded=U0) (i:Nat) (v:Int):
  ∀n fz U s s₀,n+1<=N->jj L (N - 1 - n)=UX ⟨i,UX v,0,UZ⟩->Le fz₀ fz->ρ₀ <+:U->aI (cZ J w g os) lW Z U->SR (cZ J w g os) fz U (gs (o0 (N - 1 - n)) (o1 (N - 1 - n)) L i (UX v) (UX 0)) s->
  adr (Vi J w) A (λn s₀ r l=>r= .ok (.ret .none)/\PG (cZ J w g os) fz₀ ρ₀ L o0 o1 N n s₀ l) (YG (cZ J w g os) fz₀ ρ₀ L o0 o1 N) (n+1) s₀ (.whileLoop (aU w1) [.Expr (.Yield (UX (cm (aU y2))) (dK (aU y2))) (fV y2)] [] Z)
   ((Vi J w).den (.whileLoop (aU w1) [.Expr (.Yield (UX (cm (aU y2))) (dK (aU y2))) (fV y2)] [] Z)) fs s:=by
 intro n
 induction n with
 |zero=>
  intro fz U s s₀ Q t u y d E;refine seg_whileLoop (((eM p q).tr fz U (k8 d) _).go (Ow w.params _ _ L i 0 [] v) trivial E λF G T x B a b H=>?_);have I:UZ=x:=H;refine ac I (ac (if_pos rfl) ?_);refine Xa (ac1 j rfl k (((eM p q).ev F G (k8 (d.at a)) _).go (Ox w.params _ _ L i 0 [] v) trivial b λK C V z D m c M=>?_) e f);intro O R;cases M with
  |int _ P=>exact⟨_,C,K,P,t,rfl,(u.trans B).trans D,(y.trans a).trans m,c,λh=>absurd rfl h⟩
 |succ n W=>
  intro fz U s s₀ Q t u y d E;refine seg_whileLoop (((eM p q).tr fz U (k8 d) _).go (Ow w.params _ _ L i 0 [] v) trivial E λF G T x B a b H=>?_);refine ac (H:UZ=x) (ac (if_pos rfl) ?_);refine Xa (ac1 j rfl k (((eM p q).ev F G (k8 (d.at a)) _).go (Ox w.params _ _ L i 0 [] v) trivial b λK C V z D m c M=>?_) e f);intro O R;cases M with
  |int _ P=>refine⟨_,C,K,P,t,rfl,(u.trans B).trans D,(y.trans a).trans m,c,λh X S Y o=>?_⟩;refine R _ _ (seg_again rfl ?_);rw[(by lia:N - (n+1)=N - 1 - n)] at o;refine W X C S S (by lia) ?_ (((u.trans B).trans D).trans Y) ((y.trans a).trans m) ((d.at a).at m) o;refine ac (show N - 1 - n=N - 1 - (n+1)+1 by exact(Wp (YQ (Zg Q))).symm) ?_;dsimp only[jj];refine ac t ?_;rfl
end
end
section
section
variable {L:List Int} 
abbrev YB:List V4:=[.Expr (.Yield (UX (cm (aU y2))) (dK (aU y2))) (fV y2)]
def Bw (J:VB) (w:V6) (g:Ve) (os:d7) (A:Vm) (Z:Yk) (fz₀:Ve) (ρ₀:List U8) (L:List Int) (o0 o1:Nat->O) (N:Nat) (fr:Frame) (n:Nat):Prop:=
 ∀fz U s s₀ i li iv it,n+1<=N->jj L (N - 1 - n)=tF L i li->(li=UY->ay 0 L i≠0)->Le fz₀ fz->ρ₀ <+:U->aI (cZ J w g os) lW Z U->U[3]?=UX it->SR (cZ J w g os) fz U (gs (o0 (N - 1 - n)) (o1 (N - 1 - n)) L i li iv) s->
  adr (Vi J w) A (λn s₀ r a=>r= .ok (.ret .none)/\PG (cZ J w g os) fz₀ ρ₀ L o0 o1 N n s₀ a) (YG (cZ J w g os) fz₀ ρ₀ L o0 o1 N) (n+1) s₀ (.forLoop tE (.ref it) mf [] Z)
   ((Vi J w).den (.forLoop tE (.ref it) mf [] Z)) [fr] s
set_option tactic.hygienic true in
theorem mj (y:cI g) (T:Z.scope.isCoroutine=U0) (V:Yp Z=U0) {M:ZW->Xj Fin} {l:List U4} {W:Code} (a2:M (.ok .next)=ac0 (.ok (.ret .none))) (a3:M (.ok (.ret .none))=ac0 (.ok (.ret .none)))
  (e:∀it,aP 5 (A.over (.forLoop tE (.ref it) mf [] Z) [.ret M UY U0 l W p0 []]))
  (a4:∀it k2 l2 p2,aP 5 (A.over (.whileLoop (aU w1) YB [] Z) [.ret k2 UY U0 l2 (.forLoop tE (.ref it) mf [] Z) p2 [], .ret M UY U0 l W p0 []]))
  (n:Nat) (ih:∀m,n=m+1->Bw J w g os A Z fz₀ ρ₀ L o0 o1 N (.ret M UY U0 l W p0 []) m):Bw J w g os A Z fz₀ ρ₀ L o0 o1 N (.ret M UY U0 l W p0 []) n:=by
 intro fz U s f i o iv it hn hs a5 k0 q0 eo B sr
 have I:∀{C ρ' s' c' a b},tF L i o=UY->Le fz C->U <+:ρ'->SR (cZ J w g os) C ρ' [o0 (N - 1 - n),o1 (N - 1 - n),a,b] s'->adr (Vi J w) A (λn f r X=>r= .ok (.ret .none)/\PG (cZ J w g os) fz₀ ρ₀ L o0 o1 N n f X) (YG (cZ J w g os) fz₀ ρ₀ L o0 o1 N) (n+1) f c' (ac0 (.ok (.ret .none))) [] s':=λ{C ρ' s' c' a b} h k q x=>by
  refine seg_end _ ⟨rfl,?_⟩;have e1:N - (n+1)=N - 1 - n:=by lia
  refine⟨by exact ac e1 (ac hs (ac h rfl)),C,ρ',a,b,k0.trans k,q0.trans q,?_⟩;refine ac e1 ?_;exact x
 refine yb ?_
 by_cases S:i < L.length
 ·refine((nw y (e it)).nxt fz U 3 it B).go (TS w.params _ _ L i o iv []) ⟨decide_eq_true S,trivial⟩ sr λf1 r1 s1 x k1 O D E=>?_;induction x with
  |none=>exact E.elim
  |some z=>
  refine cy (BX D (i:=3) rfl rfl (ai O B)) λxo nm e1 e2 e3=>?_;refine lj e1 e2 e3 ?_;refine((eM y (e it)).asg f1 r1 (k8 (eo.at O)) _ _ z E).go (TV w.params _ _ L (i+1) o iv _ []) trivial D λf2 r2 s2 c k2 q2 a6 c=>(ac TP ?_)
  refine Xa (xh (((eM y (e it)).tr f2 r2 (k8 ((eo.at O).at q2)) _).go (TW w.params _ _ L (i+1) o _ []) trivial a6 λf3 r3 s3 d k3 q3 Y P=>?_));have p:decide (ay 0 L i=127)=d:=P;have Q:=((eo.at O).at q2).at q3;have F:=(k1.trans k2).trans k3;have t:=(O.trans q2).trans q3;clear P;induction d with
  |true=>
   have j:=of_decide_eq_true p;refine ac (if_pos rfl) (sM (cx:=cZ J w g os) rfl rfl ((eM y (e it)).exs f3 r3 (k8 Q) _) (Qw w.params _ _ L (i+1) o _ []) trivial Y λf4 r4 s4 x k4 R G E=>?_);cases x<;>first|exact E.elim|skip
   rename_i v;refine ac (by cases E;rfl:v= .none) ?_;show adr _ _ _ _ _ _ _ (ac0 (.ok (.ret .none))) _ _;refine seg_leaf (.ok (.ret .none)) (ac a3 ?_);exact I (by unfold tF;exact ac (if_pos S) (ac (if_pos j) rfl)) (F.trans k4) (t.trans R) G
  |false=>
   have j:=of_decide_eq_false p;refine ac (if_neg VV) (abz ?_);refine Xa (xh (((eM y (e it)).tr f3 r3 (k8 Q) _).go (TY w.params _ _ L (i+1) o _ []) trivial Y λf4 r4 s4 d k4 R G P=>?_));have p:decide (ay 0 L i=0)=d:=P;have u:=Q.at R;clear P;induction d with
   |true=>
    have h0:=of_decide_eq_true p;refine ac (if_pos rfl) ?_;induction o with
    |none=>exact absurd h0 (a5 rfl)
    |some v=>
    refine Xa (xh (((eM y (e it)).tr f4 r4 (k8 u) _).go (TZ w.params _ _ L (i+1) _ [] v) trivial G λf5 r5 s5 d k5 K H P=>?_));refine ac (show d=U0 from P.symm) (ac (if_neg VV) ?_);refine abz (Xa (seg_While λp2=>?_));rw[h0] at H;exact KQ y T V (a4 it _ _ p2) rfl rfl (i+1) v n f5 r5 s5 f hn (hs.trans (by unfold tF;exact ac (if_pos S) (ac (if_neg j) (ac (if_pos h0) rfl)))) (((k0.trans F).trans k4).trans k5) (((q0.trans t).trans R).trans K) (u.at K) H
   |false=>
    refine ac (if_neg VV) (abz ?_);refine Xa (ac1 rfl rfl rfl (((eM y (e it)).ev f4 r4 (k8 u) _).go (T4 w.params _ _ L (i+1) o _ []) trivial G λf5 r5 s5 z k5 K H hz=>?_) T V);intro a9 hk;have a0:jj L (N - 1 - n)=UX ⟨i+1,o,ay 0 L i,U0⟩:=hs.trans (by unfold tF;exact ac (if_pos S) (ac (if_neg j) (ac (if_neg (of_decide_eq_false p)) rfl)));cases hz with
    |int _ tk=>
    refine⟨_,r5,f5,tk,a0,rfl,((k0.trans F).trans k4).trans k5,((q0.trans t).trans R).trans K,H,λh f6 s6 k6 a7=>?_⟩;refine bI (Nat.exists_eq_succ_of_ne_zero h) λm a8=>?_;subst a8;refine hk _ _ (Xa (sM (cx:=cZ J w g os) rfl rfl ((eM y (e it)).ex f6 r5 (k8 (u.at K)) _) (T5 w.params _ _ L (i+1) o _ []) trivial a7 λf7 r7 s7 x k7 q7 a1 E=>?_));cases x<;>first|exact E.elim|skip
    refine abz (seg_again rfl ?_);rw[show N - m.succ=N - 1 - m by exact(by lia:N - (m+1)=N - 1 - m)] at a1;refine ih m rfl f7 r7 s7 s6 (i+1) (UX (ay 0 L i)) _ it (by exact WB hn) ?_ (λh=>by cases h) ((((k0.trans F).trans k4).trans k5).trans (k6.trans k7)) ((((q0.trans t).trans R).trans K).trans q7) ((u.at K).at q7) (ai q7 (ai K (ai R (ai t B)))) a1;refine ac (show N - 1 - m=N - 1 - (m+1)+1 by exact(Wp (YQ (Zg hn))).symm) ?_;show(match jj L (N - 1 - (m+1)) with
     |none=>UY
     |some σ=>Rp L σ)=_
    refine ac a0 ?_;rfl
 ·refine((nw y (e it)).nxt fz U 3 it B).go (TU w.params _ _ L i o iv []) ⟨decide_eq_false S,trivial⟩ sr λf1 r1 s1 x k1 O D E=>?_;induction x with
  |some=>exact E.elim
  |none=>refine DO (fr:= .ret M UY U0 l W p0 []) (seg_leaf (.ok .next) ?_);refine ac a2 ?_;exact I (by unfold tF;exact ac (if_neg S) rfl) k1 O D
end
end
section
section
variable {L:List Int} 
theorem lX {n:Nat} (x:aP (n+k) A) (h1:A'.depth<=A.depth+k) (h2:A'.units<=A.units+10*k) (a:A'.handled=A.handled):aP n A':=
 ⟨by have:=x.depth;exact Vn (U3 (Vw h1 _) (Vg ((Yx _ _ _).trans (congrArg _ (Wk _ _))))) this,by have:=x.units;lia,a.trans x.handled⟩
theorem xi (j:cI g) (a:Z.scope.isCoroutine=U0) (b:Yp Z=U0) {i:ZW->Xj Fin} {l:List U4} {k:Code} (c:i (.ok .next)=ac0 (.ok (.ret .none))) (d:i (.ok (.ret .none))=ac0 (.ok (.ret .none)))
  (f:∀it,aP 5 (A.over (.forLoop tE (.ref it) mf [] Z) [.ret i UY U0 l k p0 []]))
  (h:∀it o l2 p2,aP 5 (A.over (.whileLoop (aU w1) YB [] Z) [.ret o UY U0 l2 (.forLoop tE (.ref it) mf [] Z) p2 [], .ret i UY U0 l k p0 []])):
  ∀n,Bw J w g os A Z fz₀ ρ₀ L o0 o1 N (.ret i UY U0 l k p0 []) n
 |0=>mj j a b c d f h 0 (λm e=>nomatch e)
 |n+1=>mj j a b c d f h (n+1) (λm e=>by cases e;exact xi j a b c d f h n)
theorem DT (d:cI g) (e:Z.scope.isCoroutine=U0) (f:Yp Z=U0) (i:aP 8 A) (n:Nat) (h0:ay 0 L 0≠0) (F:N=n+1) {s₀:U9} (G:Le fz₀ fz) (q0:ρ₀ <+:U) (j:aI (cZ J w g os) lW Z U)
  (H:SR (cZ J w g os) fz U (g0 (o0 0) (o1 0) L) s):
  adr (Vi J w) A (λn s₀ r c=>r= .ok (.ret .none)/\PG (cZ J w g os) fz₀ ρ₀ L o0 o1 N n s₀ c) (YG (cZ J w g os) fz₀ ρ₀ L o0 o1 N) (n+1) s₀ (.func eJ.body Z) ((Vi J w).den (.func eJ.body Z)) [] s:=by
 have b:aP 5 (A.over (.func eJ.body Z) []):=lX (k:=3) i (by show A.depth+0+1<=A.depth+3;lia) (by show A.units+0+3<=A.units+30;lia) rfl
 refine seg_func (ac DS ?_)
 rw[DS] at b
 refine Xa (sM (cx:=cZ J w g os) rfl rfl ((eM d b).ex fz U (k8 j) _) (TQ w.params _ _ L []) trivial H λI K W x M l m o=>?_)
 cases x<;>first|exact o.elim|skip
 refine Xa (KP (by rfl') (((eM d b).ev I K (k8 (j.at l)) _).go (TR w.params _ _ L []) trivial m λv y O x B C q o=>?_))
 refine VH ((nw d b).iter v y _ x o _ _ _ _ (Ov w.params _ _ L []) trivial v y O _ (Le.refl _) (U6 _) q λP Q R z S D t T=>?_) (λa a h=>h) λa a z=>z.elim
 cases T with
 |ref u=>
 intro p
 have E:N - 1 - n=0:=F▸WW n
 exact xi d e f (by rfl) (by rfl) (λV=>lX (k:=3) i (by show A.depth+1+0<=A.depth+3;lia) (by show A.units+3+0<=A.units+30;lia) rfl) (λV B X Y=>lX (k:=3) i (by show A.depth+1+0<=A.depth+3;lia) (by show A.units+3+0<=A.units+30;lia) rfl) n P Q R s₀ 0 UY UY _ (by lia) (ac E rfl) (λa=>h0) (((G.trans M).trans B).trans S) (((q0.trans l).trans C).trans D) (((j.at l).at C).at D) u (ac E t)
end
end
section
theorem HR.keepNew (x:HR c fz U H h) (ob:Xi) (hf:ob.isFreed=U0):∃fz',Le fz fz'/\fz'.get? h.objs.size=UX ob/\HR c fz' U H (h.push ob):=by
 have n:Le h (h.push ob):=λb o e=>Vy _ e;have k:Le fz (sub (h.push ob) λb=>b=h.objs.size∨(fz.get? b).isSome=UZ):=λb o e=>dZ (n _ _ (x.fzle b o e)) (.inr (by refine ac e ?_;rfl));have r:∀{b o},h.get? b=UX o->b≠h.objs.size:=λe q=>WV _ (q▸We e);have f:∀{b o},h.get? b=UX o->fz.get? b=UY->(sub (h.push ob) λb=>b=h.objs.size∨(fz.get? b).isSome=UZ).get? b=UY:=λe q=>fC λ
  | .inl w=>r e w
  | .inr v=>by rw[q] at v;cases v
 refine⟨_,k,dZ (VX _ hf:(h.push ob).get? h.objs.size=UX ob) (.inl rfl),sub_le,x.gle.trans n,λp y=>k _ _ (x.wd p y),x.len,x.inj,λi o e l=>?_,λi d e=>?_,λb o e=>f (x.gle _ _ e) (x.dis b o e),λt z=>?_,x.tdis⟩
 ·exact eX (x.obj i o e l) λa g j m s u A=>(l8 a g j (n _ _ m) s (f m u) (A.mono k (U6 _)))
 ·exact aj (x.fro i d e) λa j m=>(aA a j (m.mono k))
 ·exact fA (x.tab t z) λg j m s u=>(oF g (n _ _ j) (m.mono k) s (f j u))
noncomputable def oZ (os:d7) (gn:Nat) (st:aaA):d7:=⟨os.o,λi x=>os.gp i x∨(i=gn/\x=st)⟩
section
variable {os':d7} {gn:Nat} {a b:aaA}
theorem Bx (x:HR (cZ J w g os) fz U H h):HR (cZ J w g os') fz U H h:=⟨x.fzle,x.gle,x.wd,x.len,x.inj,x.obj,x.fro,x.dis,x.tab,x.tdis⟩
theorem Ja (x:aI (cZ J w g os) C Z U):aI (cZ J w g os') C Z U:=⟨x.kind,x.names,x.glob,x.loc,x.cells,x.trim⟩
theorem xj (x:SR (cZ J w g (oZ os gn a)) fz U H s) (d:b.bare=UZ) (e:∀y,¬os.gp gn y):s.gens[gn]?=UX a/\SR (cZ J w g (oZ os gn b)) fz U H (s.setGen gn b):=by
 have c:=x.bare.kept gn a (.inr ⟨rfl,rfl⟩);refine⟨c,Bx x.hr,x.os,⟨λy f=>?_,λi y j=>?_⟩,x.tk⟩
 ·refine(Array.mem_or_eq_of_mem_setIfInBounds f).elim (λh=>?_) λh=>?_
  ·exact x.bare.bare y h
  ·refine ac h ?_;exact d
 ·refine(?_:(s.gens.setIfInBounds gn b)[i]?=UX y);rcases j with h|⟨rfl,rfl⟩
  ·exact(Array.getElem?_setIfInBounds_ne (λq:gn=i=>e y ((q).symm▸h))).symm▸x.bare.kept i y (.inl h)
  ·exact Array.getElem?_setIfInBounds_self_of_lt ((Array.getElem?_eq_some_iff.mp c).1)
theorem zj (x:SR (cZ J w g (oZ os gn a)) fz U H s):SR (cZ J w g os) fz U H s:=⟨Bx x.hr,x.os,⟨x.bare.bare,λi y h=>x.bare.kept i y (.inl h)⟩,x.tk⟩
theorem KR (x:SR c fz U H s) (n:Nat) (a:n<=H.length) (hf:rC n (H.take n)=UZ):SR c fz (U.take n) (H.take n) s:=(x.tz (x.hr.take a hf))
theorem Hc {n:Nat} {ga:U8} {gs:aaA} {P:Nat->U9->U9->Prop} {Y:Protocol} {Q:Option U4->U9->Prop} (k:A.handled=UY) (hl:s.heap.NoLimit) (e:A.depth < Wv)
  (h:s.heap.IsGen ga gn) (g:s.gens[gn]?=UX gs) (f:gs.Goes (Vi J w) A.in1 (λn s₀ r c=>r= .ok (.ret .none)/\P n s₀ c) Y n (.send .none) (s.setGen gn .running))
  (l:∀v c d,d.bare=UZ->Y (n - 1) (s.setGen gn .running) v c (λp i=>match n with
    |0=>False
    |m+1=>d.Goes (Vi J w) A.in1 (λn s₀ r c=>r= .ok (.ret .none)/\P n s₀ c) Y m p i)->Q (UX v) (c.setGen gn d))
  (q:∀c,P n (s.setGen gn .running) c->∀h',Le c.heap h'->Q UY {c.setGen gn .finished with heap:=h'}):Vh (Vi J w) A (aaM (.ref ga)) Q E s:=by
 dsimp only[aaM]
 refine U1 (Zw (YR (name:=WN "__next__") h.typeIs slot_gen_next (Xp slot_gen_next h.typeIs entry_gen_next ?_ (args_gen_next _))))
 refine(?_:Vh _ A.in1 (aaI (.ref ga) (.send .none)) _ _ s)
 dsimp only[aaI]
 refine U1 (Vq (wpAny_genNumber h (U1 (wpAny_genState g ?_))))
 induction gs with
 |running=>exact f.elim
 |finished=>exact f.elim
 |_=>
  refine U1 (wpAny_roomToWake hl e ?_);refine(?_:Vh _ A.in1 (.resume gn (.send .none) [] _) _ _ s);refine wpAny_resumeQ g f (λx c t=>?_) (λv c d j u=>U5 (aA v rfl (U5 (l v c d j u))));obtain⟨rfl,y⟩:=t;refine(?_:Vh _ _ (newExc (.type "StopIteration") [] >>= _) _ _ _);refine U1 (U1 (V7 ?_ (by size_fits)));refine U1 (m:=aba _ _) (XS (a:=Xh) (by first|rfl|(simp only[aba];rfl)) ?_);refine V7 ?_ (by size_fits);refine U1 (U1 (wpAny_handled ?_))
  first|rw[show A.in1.handled=UY from k]|rw[k]
  refine wpAny_throw (U1 (Zt (T:="StopIteration") (b:=UZ) (aA _ (VX _ rfl) rfl) isSubtype_stop ?_));exact U5 (q c y _ λb o j=>Vy _ (Vy _ j))
end
end
section
abbrev kp:V4:=aw jp.body 1
abbrev sN:Vv:=(aU kp)
abbrev ny:List V4:=(cL kp)
def om:Ec:=be jp [] gl (λa=>bk) (λa=>br) 0
def xk (P:Vc):bP:=aE (zh P 60) 59 om
noncomputable def UQ:Option Int->List (Vd×V)
 |none=>[]
 |some x=>[("size", .int x)]
def cf (L:List Int) (sz:Option Int):O:= .frame (("ruler",gG L)::("sizes", .ref 1)::UQ sz)
section
variable (P:Vc) (L:List Int) (W:List V) (sz:Option Int) (a b:O) (x:Int) (orc:List Bool)
theorem Qx:(xk P).asg sN (.int x) ⟨[cf L sz, .list W,a,b],orc⟩=UX ((),⟨[cf L (UX x), .list W,a,b],orc⟩,[]):=by cases sz<;>rfl'
theorem T6:(xk P).exs ny ⟨[cf L (UX x), .list W,a,b],U0::orc⟩=UX (.next,⟨[cf L (UX x), .list (W++[.int x]),a,b],orc⟩,[W.length<=16777216,(W++[V.int x]).length < 4611686018427387904,decide (((W++[V.int x]).length:Int)=7)=U0]):=by rfl'
theorem T7:(xk P).exs ny ⟨[cf L (UX x), .list W,a,b],UZ::orc⟩=UX (.brk,⟨[cf L (UX x), .list (W++[.int x]),a,b],orc⟩,[W.length<=16777216,(W++[V.int x]).length < 4611686018427387904,decide (((W++[V.int x]).length:Int)=7)=UZ]):=by rfl'
end
end
section
def vG (L:List Int) (j:Nat):Int:=match jj L j with
 |some σ=>σ.out
 |none=>0
noncomputable def fH (L:List Int):Nat->List Int
 |0=>[]
 |j+1=>fH L j++[vG L j]
noncomputable def UR (L:List Int):Nat->Option Int
 |0=>UY
 |j+1=>UX (vG L j)
def oA (L:List Int) (j:Nat):O:=cf L (UR L j)
def oB (L:List Int) (j:Nat):O:= .list ((fH L j).map V.int)
theorem xl (L:List Int):∀j,(fH L j).length=j
 |0=>rfl
 |j+1=>by show(fH L j++[vG L j]).length=_;refine ac Va (ac (xl L j) ?_);rfl
theorem KS (L:List Int) (j:Nat):oB L (j+1)= .list ((fH L j).map V.int++[.int (vG L j)]):=by refine(?_:O.list ((fH L j++[vG L j]).map V.int)=_);refine ac V5 ?_;rfl
section
variable {L:List Int} {gn:Nat} {ga:U8} {m:Nat} {Rr:ZW->U9->Prop}
abbrev RZ (J:VB) (w:V6) (g:Ve) (os:d7) (gn:Nat) (fz₀:Ve) (ρ₀:List U8) (L:List Int):GenEnd:=λn s₀ r a=>r= .ok (.ret .none)/\PG (cZ J w g (oZ os gn .running)) fz₀ ρ₀ L (oA L) (oB L) 8 n s₀ a
abbrev YZ (J:VB) (w:V6) (g:Ve) (os:d7) (gn:Nat) (fz₀:Ve) (ρ₀:List U8) (L:List Int):Protocol:=YG (cZ J w g (oZ os gn .running)) fz₀ ρ₀ L (oA L) (oB L) 8
theorem zk (a:cI g) (b:aP 5 A'):bG (cZ J w g os) A' om Z (xk w.params):=d5 (nw a b) 59 om Z
theorem Qy (hg:cI g) (C:aP 9 A) (hn:∀y,¬os.gp gn y) (hG:fz₀.IsGen ga gn) (eo:aI (cZ J w g os) om Z ρ₀) (hm:m<=7) (a0:∀i,i < m->jj L i≠UY) (he:m=7∨jj L m=UY)
  (y:∀fz' ρ' a b s',Le fz₀ fz'->ρ₀ <+:ρ'->SR (cZ J w g os) fz' ρ' [oA L m,oB L m,a,b] s'->Rr (.ok .next) s'):
  ∀n j fz U s r Q,n+1+j=8->1<=n->j<=m->r.bare=UZ->Le fz₀ fz->SR (cZ J w g (oZ os gn r)) fz U (oA L j::oB L j::Q) s->
  (∀fz' s',Le fz fz'->SR (cZ J w g (oZ os gn .running)) fz' U (oA L j::oB L j::Q) s'->r.Goes (Vi J w) A.in1 (RZ J w g os gn fz₀ ρ₀ L) (YZ J w g os gn fz₀ ρ₀ L) (n+1) (.send .none) s')->
  XB (Vi J w) A (.forLoop sN (.ref ga) ny [] Z) Rr s:=by
 intro n
 induction n with
 |zero=>intro j fz U s r Q _ h;exact absurd h (by decide)
 |succ n ih=>
  intro j fz U s r Q hj h1 D hb k0 R a1;refine X1 (ac (YC (A:=A) (c:=Code.forLoop sN (.ref ga) ny [] Z) rfl) ?_);show Vh (Vi J w) A ((acH sN (.ref ga) ny [] Z).onRaise (λx=>do aaB x Z;X2 x)) _ _ s;refine X5 (VH (E:=bE) ?_ (λd d h=>h) λd d h=>h.elim);dsimp only[acH];have a2:bv (aF w.params) s.heap:=λp hp=>R.hr.fzle _ _ (R.hr.wd p hp);have e7:8 - 1 - (n+1)=j:=aaR (XC (hj.symm.trans ((Wk _ _).trans rfl)):7=j+(n+1));have e8:8 - (n+1)=j+1:=aaR (hj.symm.trans ((Wk _ _).trans (VW j (n+1) 1)):8=j+1+(n+1));have e9:8 - (n+1+1)=j:=aaR (hj.symm.trans (Wk _ _));obtain⟨a3,a4⟩:=xj R (b:= .running) rfl hn;refine U1 (VM (U1 (X5 (Hc C.handled (lim _ a2) (by have:=C.depth;exact Vn (Vo _ _) this) (hG.keeps (k0.trans R.hr.fzle)) a3 (a1 fz _ (Le.refl _) a4) (λv G z H hY=>?_) λG hP h' a5=>?_))))
  ·refine Uo hY λσ ρ' fz' tk e a6 I S f k=>(ac a6 ?_)
   rw[show n+1+1 - 1=n+1 from rfl] at e f k;rw[e7] at e f;rw[e8] at k;have t:j < m:=by
    rcases YN j m with h|h
    ·exact h
    ·have:j=m:=Yy D h;rcases he with T|T
     ·lia
     ·rw[this,T] at e;exact nn e
   have hv:σ.out=vG L j:=by dsimp only[vG];rw[e]
   obtain⟨a9,l⟩:=xj f H hn;refine gO (hG.keeps (I.trans l.hr.fzle)) λog nm qn g1 g2 d=>?_;dsimp only;refine U1 (lj g1 g2 (by decide) ?_);have B:aI (cZ J w g (oZ os gn z)) om Z ρ':=Ja (eo.at S);have a7:aP 5 A:=⟨by have:=C.depth;lia,by have:=C.units;lia,C.handled⟩
   have F:=zk (J:=J) (w:=w) (g:=g) (Z:=Z) (os:=oZ os gn z) hg a7;refine U1 (F.asg fz' ρ' ⟨B,dw⟩ sN _ _ (.int σ.out tk) _ _ _ _ (Qx w.params L _ _ _ _ _ []) trivial fz' ρ' _ _ (Le.refl _) (U6 _) l λW X s2 d k2 Y l d=>?_);have u:((fH L j).map V.int).length=j:=by rw[VA,xl]
   have K:((fH L j).map V.int).length<=16777216:=by refine ac u ?_;lia
   have o:((fH L j).map V.int++[V.int σ.out]).length=j+1:=by refine ac Va (ac u ?_);rfl
   have M:O.list ((fH L j).map V.int++[.int σ.out])=oB L (j+1):=by refine ac hv ?_;exact(KS L j).symm
   have N:cf L (UX σ.out)=oA L (j+1):=by refine ac hv ?_;rfl
   by_cases T:j+1=7
   ·have a8:j+1=m:=by lia
    refine U1 (F.exs W X ⟨B.at Y,dw⟩ ny _ _ _ _ (T7 w.params L _ _ _ _ []) ⟨K,by refine(o).symm▸ ?_;lia,by refine ac o (ac T ?_);rfl,trivial⟩ W X s2 _ (Le.refl _) (U6 _) l λf3 r3 s3 x k3 q3 q hx=>?_);cases x<;>first|exact hx.elim|skip
    rw[M,N,a8] at q;exact U5 (y f3 r3 _ _ s3 ((I.trans k2).trans k3) ((S.trans Y).trans q3) (zj q))
   ·refine U1 (F.exs W X ⟨B.at Y,dw⟩ ny _ _ _ _ (T6 w.params L _ _ _ _ []) ⟨K,by refine(o).symm▸ ?_;lia,by refine ac o ?_;exact decide_eq_false (by lia),trivial⟩ W X s2 _ (Le.refl _) (U6 _) l λf3 r3 s3 x k3 q3 q hx=>?_);cases x<;>first|exact hx.elim|skip
    rw[M,N] at q;have hr:ρ'=r3:=(Y.trans q3).eq_of_length (by refine ac f.hr.len (ac q.hr.len ?_);rfl);refine U5 ⟨rfl,ih (j+1) f3 r3 s3 z _ (by lia) (by lia) t H ((I.trans k2).trans k3) q λf4 s4 k4 P=>?_⟩;rw[<-hr] at P;exact k (Nat.succ_ne_zero n) f4 s4 ((k2.trans k3).trans k4) P
  ·refine aN hP λe θ=>(ez θ λfz' ρ' a b I S f=>?_)
   rw[e9] at e f;have t:j=m:=by
    rcases YN j m with h|h
    ·exact absurd e (a0 j h)
    ·exact Yy D h
   subst t;have l:=qH (zj (xj f (b:= .finished) rfl hn).2) a5;dsimp only;exact U5 ⟨rfl,codeAny_block (U5 (y fz' ρ' a b _ I S l))⟩
end
end
section
section
theorem Qz (s:U9) (xs:List U4) (c:bv (aF P) s.heap) (h:xs.length=eJ.params.length):Yg s jb ⟨xs,[]⟩ (eJ.params.zip xs):=by
 refine bI (AG (h.trans (show eJ.params.length=1 by rfl'))) λa b=>(b.symm▸ ?_)
 exact BindsTo.of_eq (by rfl')
theorem Oy:(28,fO jb)∈aF P:=cA (by rfl')
theorem Oz (h:Ve) (a:bv (aF P) h):h.CodeRec jb.code jb.qualname:=kL (K:=aF P) (c:=27) (by rfl') h a
end
section
variable {L:List Int} 
theorem OA (R:A.depth < Wv) (f:SR (cZ J w g os) fz U H s) {x:U4} (S:VR fz U (gG L) x)
  (T:∀c fz' fa s' gn ga,c.scope.isCoroutine=U0->Yp c=U0->Le fz fz'->fz'.IsGen ga gn->(∀y,¬os.gp gn y)->aI (cZ J w g os) {lW with fid:=H.length} c (U++[fa])->
   SR (cZ J w g (oZ os gn (.fresh (.func eJ.body c)))) fz' (U++[fa]) (H++[.frame [("grouping",gG L)]]) s'->Q (.ref ga) s'):Vh (Vi J w) A (call (.ref 28) [x] []) Q bE s:=by
 have j:bv (aF w.params) s.heap:=λp t=>f.hr.fzle _ _ (f.hr.wd p t)
 refine Xs (codeAny_call_generator (fd:=jb) (body:=eJ.body) R (j _ Oy) rfl (by rfl') (by rfl') rfl (Oz _ j) ?_)
 refine Qz s [x] j (show _=eJ.params.length by rfl') _ _ _ _ (ZH f.tk ?_)
 refine acO (by rfl') (λy u=>?_) λc l I K z=>?_
 ·have B:∀x∈eJ.params,eJ.scope.names.lookup x=UX .local∨(eJ.scope.names.lookup x=UX .cell/\x∈eJ.cn):=pr (by rfl');rcases B y.1 (aal u).1 with h|⟨_,h⟩
  ·exact .inl h
  ·cases h
 ·refine aG K.done λm M C e=>?_;subst C;have N:c.locals=s.heap.objs.size:=ac l rfl;have d:c.scope.names=eJ.scope.names:=ac l rfl;have D:=f.hr.exts (k:=e) [s.heap.objs.size] [.frame [("grouping",gG L)]] rfl (by simp) (λa q=>by
     rw[ZG] at q;exact(q).symm▸Vt _) (λi a o q V=>by
     induction i with
     |zero=>obtain rfl:=U2 q;obtain rfl:=U2 V;refine jg K.toInCall.ns λW X Y O Z d3 d4=>?_;rw[N] at O;refine⟨rfl,W,O,_,(cY X Y Z d3 d4),λy=>?_⟩;have:=(nG d [] (λb=>UY) (av.cons S .nil) (λb=>trivial) y (ps:=eJ.params)).mono (Le.refl _) (Vp U [s.heap.objs.size]);exact this
     |succ i=>exact nn q)
  refine⟨lim _ (λp t=>e _ _ (j p t)),?_⟩;refine ca (D.keepNew {cls:= .type "generator",data:= .fields #[.int s.gens.size 0, .str jb.name M, .str jb.qualname (M+1)]} rfl) λE k1 g1 F=>?_;have G:∀y,¬os.gp s.gens.size y:=λy u=>by have:=(Array.getElem?_eq_some_iff.mp (f.bare.kept _ _ u)).1;exact WV _ this
  refine T c E s.heap.objs.size _ s.gens.size m.objs.size (ac l (show jb.scope.isCoroutine=U0 by rfl')) (ac l rfl) k1 (QQ _ _ _ g1 rfl rfl rfl) G ?_ ⟨Bx F,f.os,⟨?_,?_⟩,U3 z (Vo _ 2)⟩
  ·exact{kind:=(l).symm▸(show jb.scope.kind= .function by rfl')
         names:=d
         glob:=λx v hv h B=>by refine ac (ac l rfl:c.globals=mainGlobals) (ac (ac l rfl:c.builtins=builtinsNs) ?_);exact dG x v hv h B
         loc:=(N).symm▸bj f.hr.len.symm
         cells:=λx n hn=>nomatch hn
         trim:=λb h=>nomatch h}
  ·exact f.bare.bare.push rfl
  ·rintro i y (hi|⟨rfl,rfl⟩)
   ·have P:=f.bare.kept i y hi;have r:i < s.gens.size:=(Array.getElem?_eq_some_iff.mp P).1;refine(?_:(s.gens.push _)[i]?=UX y);exact(acz r).symm▸(ab8 r)▸P
   ·refine(?_:(s.gens.push _)[s.gens.size]?=_);exact ac (Array.getElem?_push_size) rfl
end
end
abbrev pR:Vv:=uU kp
theorem QA (P:Vc) (L:List Int) (orc:List Bool):jW (xk P).ev [.Name "ruler" (dK (ay xz (kz pR) 0))] ⟨[oA L 0,oB L 0],orc⟩=UX ([gG L],⟨[oA L 0,oB L 0],orc⟩,[]):=by rfl'
theorem KT:kp= .For sN (.Call (.Name "_grouping_intervals" (dK (cm pR))) [.Name "ruler" (dK (ay xz (kz pR) 0))] [] (dK pR)) ny [] (fV kp):=by rfl'
def mG (L:List Int):Nat:=((Wb 7).takeWhile λj=>(jj L j).isSome).length
def on (L:List Int):Prop:=ay 0 L 0≠0/\mG L<=7/\(∀i,i < mG L->jj L i≠UY)/\(mG L=7∨jj L (mG L)=UY)
def He:M Fl:=nh (λS=>cr (eI S 0 "ruler")) (λL=>[oA L 0,oB L 0]) (λa=>Fl.next) (λL=>[oA L (mG L), .ints (fH L (mG L))]) (λL=>[on L])
section
theorem KU (X:cI g) (u:aP 9 A) (R:aI (cZ J w g os) om Z U):ae (cZ J w g os) A fz U He (aaW kp Z) FR:=by
 intro S fl S' p e z B ρ' s Q k q T y;cases e;refine b9 z λl Y d=>(b9 Y λC D a0=>?_)
 refine aN a0 λE t=>?_;dsimp only at l C D E t y;generalize cr (eI S 0 "ruler")=L at*;rw[l] at T;have a1:aP 5 A:=⟨by have:=u.depth;lia,by have:=u.units;lia,u.handled⟩
 have F:=R.at q;have a2:bv (aF w.params) s.heap:=λp z=>T.hr.fzle _ _ (T.hr.wd p z);have a3:∀x,Z.kindOf x=jp.scope.names.lookup x:=λx=>by show Z.scope.names.lookup x=_;refine ac R.names ?_;rfl
 refine ac KT ?_;rw[exec_For];refine U1 (VM ?_);refine ac (jY (λd d d h=>by cases h)) (U1 (U1 (fj rfl (iT (v:= .ref 28) R.kind ((a3 _).trans (by rfl')) ?_ ?_))))
 ·exact aj (R.glob "_grouping_intervals" (.v (.ref 28)) (by rfl') s.heap a2) λmg g1 g2=>(aA mg g1 g2)
 refine Calls.callWith_function (o:=fO jb) (fd:=jb) (de rfl ?_);refine nD (c:=cZ J w g os) ⟨F,dw⟩ (zk X a1) _ _ B ρ' (Le.refl _) (U6 _) _ _ _ _ (QA w.params L []) trivial B ρ' s _ (Le.refl _) (U6 _) T λf1 G s1 xs k1 q1 j a4=>?_;cases a4 with
 |cons hx H=>
 cases H;have I:bv (aF w.params) s1.heap:=λp z=>j.hr.fzle _ _ (j.hr.wd p z);refine⟨⟨I _ Oy,rfl⟩,OA (by have:=u.depth;exact Vn (Vo _ _) this) j hx λa9 f2 fa s2 gn ga a5 a6 k2 hG a7 a8 K=>?_⟩;rw[ke (show eB (.Call (.Name "_grouping_intervals" (dK (cm pR))) [.Name "ruler" (dK (ay xz (kz pR) 0))] [] (dK pR))=U0 from rfl)];refine U1 (U5 ?_);refine U1 (VM (U1 (Vq (wpAny_pyIter_gen (hG.keeps K.hr.fzle) ?_))));refine wpAny_runOwn (h:=UY) ?_;refine(show A.mark UY=A by cases A;rfl).symm▸ ?_;have hl:G.length=2:=j.hr.len;refine Qy (fz₀:=f2) (ρ₀:=G) (m:=mG L) X u a7 hG (F.at q1) D E t (λV r3 a b W k3 q3 f=>?_) 7 0 f2 (G++[fa]) s2 _ _ rfl (by decide) (W4 _) rfl (Le.refl _) K λV W k3 f=>?_
 ·have e2:r3.take 2=G:=aD hl ((List.prefix_iff_eq_take.mp q3).symm);have hr:HR (cZ J w g os) V r3 ([oA L (mG L),oB L (mG L),a,b].set 1 (.ints (fH L (mG L)))) W.heap:=f.hr.reO (i:=1) (o₀:=oB L (mG L)) rfl rfl rfl λa' ob h1 h2=>by refine eX (f.hr.obj 1 (oB L (mG L)) rfl rfl) λaa ab M O d d r=>?_;rw[h1] at M;cases M;rw[h2] at O;cases O;exact aG r λvs n e r=>(bL vs n e (av.ints r))
  have P:=KR (⟨hr,f.os,f.bare,f.tk⟩:SR (cZ J w g os) V r3 [oA L (mG L), .ints (fH L (mG L)),a,b] W) 2 (show 2<=4 by decide) (by cases mG L<;>rfl);rw[e2] at P;exact y V G W _ ((k1.trans k2).trans k3) q1 P trivial
 ·exact⟨rfl,DT (A:=A.in1) (N:=8) X a5 a6 (lX (k:=1) u (by show A.depth<=A.depth+1;exact WI _) (by show A.units+1<=A.units+10;lia) rfl) 7 C rfl k3 (Vp _ _) (Ja a8) f⟩
end
end
section
def ro:Nat->Ec->Nat->Option (V4×M Fl):=λN C n=>match VC n 268&&VC C.fid 0 with
 |true=>UX (kp,He)
 |false=>UY
theorem DU {L:Nat} (d:cI g) (e:aP 9 A) (f:aI ((Wz J w).cx g os) (be jp [] gl (ro N) (λa=>br) L) Z U):
  eh ((Wz J w).cx g os) A (be jp [] gl (ro N) (λa=>br) L) Z fz U:=by
 refine⟨λn st m h=>?_,λa a a h=>(nomatch h)⟩
 have b:(match VC n 268&&VC L 0 with
  |true=>UX (kp,He)
  |false=>UY)=UX (st,m):=h
 induction c:VC n 268&&VC L 0 with
 |false=>rw[c] at b;exact nn b
 |true=>rw[c] at b;obtain⟨rfl,rfl⟩:=o4 b;have h0:=VK (Bool.and_eq_true_iff.mp c).2;subst h0;exact KU d e {f with}
theorem DV (P:Vc) (L:List Int):bD 0 (bnd (aR jp gl (ro 60) (λa=>br) (Gz P [] 2 60) [] [gG L]) (λv=>cj P 9 v) ⟨[],[]⟩)=UX (.ints (fH L (mG L)),[],[0<=16777216,kp=kp,[oA L 0,oB L 0]=[oA L 0,oB L 0],on L]):=by rfl'
abbrev zl:Sp:=fW (X:=List Int) (λvs=>cr (nV vs 0)) (λL=>[.dat (.ints L)]) (λL=> .ints (fH L (mG L))) on
theorem Hf (J:VB) (w:V6):aX (Wz J w) 10 265 zl:=
 dq (X:=List Int) (lev:=6) (k:=2) (T:=jp) (Tb:=[]) (defs:=[]) (spS:=ro) (spE:=λa a=>br) Ij rfl rfl (λa h=>nomatch h) (c8 Ij) (λa a a a a=>trivial) (λa a a a a a a a b c a a d=>DU b c d) λL e=>
  ⟨60,[],_,DV w.params L,⟨by decide,rfl,rfl,e,trivial⟩,rfl⟩
abbrev DW:Sp:=fW (X:=Int×Int) (λvs=>(bU (nV vs 0),bU (nV vs 1))) (λx=>[.int x.1, .int x.2]) (λx=> .ints (cV x.1.toNat x.2.toNat (cP x.1 x.2).toNat)) λx=>0<=x.1/\1<=x.2/\x.2<=100/\x.1.natAbs < 2^1000/\0<=cP x.1 x.2/\cP x.1 x.2 < 10
theorem KW (J:VB) (w:V6):aX (Wz J w) 8 64 DW:=v7 λx e=>by obtain⟨a,b⟩:=x;refine yd e λf g h i c d=>?_;dsimp only at c d;exact⟨A6 (cP a b).toNat,_,C5 J w _,rfl,⟨⟨rfl,rfl,f,g,h,i,(VP c).symm,(WY c).mpr d⟩,trivial⟩⟩
def Jb (P:Vc):bC:=[(251,dY P [U0] yQ),(258,dY P [U0] v9),(265,dY P [U0] zl),(301,dY P [U0,U0,U0,U0] I9),(71,dY P [U0,U0] C2),(64,dY P [U0,U0] DW)]
def jk (l:List Int) (i:Nat):Int:=ay 0 (fF l 0 eZ) i
def il (l:List Int):Int:=(jk l 3).fdiv 2400
def pS (l:List Int):List Int:=fH (fT (il l)) (mG (fT (il l)))
def dD (l:List Int):Int:=22+((jk l 3).fdiv 40).fmod 60
def cH (l:List Int):V3:=⟨(jk l 2).fmod 90,((jk l 2).fdiv 90).fmod 9000,(jk l 1).fmod 900000⟩
def dE (l:List Int):aY:=⟨jk l 0,jk l 1,jk l 2,jk l 3,pS l,cH l,dD l⟩
def js (y:Dy):List Int:=(y.v 0).l++(y.v 1).l++(y.v 2).l
def ku (l:List Int):Int:=ek (dD l) (js (bo (dE l))) - ek (dD l) (rep 3 (cH l).l)
def fQ (l:List Int):List Int:=cV (ku l).toNat (dD l).toNat (cP (ku l) (dD l)).toNat
def xm (S:List Int):List Int:=rep 3 [bB S 0,bB S 1,bB S 2]
def nz (Z:List Int):List Int:=rep (9 - (Z.length:Int)).toNat [0]
def Jc (l:List Int):List Prop:=[[V.dat (.ints l)]=[V.dat (.ints l)]/\([]:List O)=[]/\l.length<=63,aK 4 3,(2400:Int)≠0/\(2400:Nat) < 1073741824,
 [V.int (il l)]=[V.int (il l)]/\([]:List O)=[]/\0<=cF (il l)/\cF (il l) < 4,[V.dat (.ints (fT (il l)))]=[V.dat (.ints (fT (il l)))]/\([]:List O)=[]/\on (fT (il l)),
 VS (eP UZ ((pS l).map X0))=UZ/\VS (eP UZ ((g8 (il l)).map X0))=UZ,(!eO (pS l) (g8 (il l)))=U0,
 aK 4 2,(90:Int)≠0,aK 4 2,(90:Int)≠0/\(90:Nat) < 1073741824,(9000:Int)≠0,aK 4 1,(900000:Int)≠0,(3:Nat)<=Vb,aK 4 3,(40:Int)≠0/\(40:Nat) < 1073741824,(60:Int)≠0]
def Jd (l:List Int):List Prop:=[[V.dat (qW (fF l 0 eZ)), .dat (.ints (pS l)), .dat (.ints (cH l).l), .int (dD l)]=[.dat (qW (fF l 0 eZ)), .dat (.ints (pS l)), .dat (.ints (cH l).l), .int (dD l)]/\([]:List O)=[]/\lV (dE l) (oY (dE l)) (ik (dE l).c0),
 U0=U0,aK 3 0,aK 3 1,(6:Nat)<=Vb,aK 3 2,(9:Nat)<=Vb,[V.dat (.ints (js (bo (dE l)))), .int (dD l)]=[V.dat (.ints (js (bo (dE l)))), .int (dD l)]/\([]:List O)=[]/\(js (bo (dE l))).length=9/\0<=dD l/\dD l<=100/\∀x∈js (bo (dE l)),x.natAbs < 2^100,(-2^63:Int)<=3/\(3:Int) < 2^63/\(9:Nat)<=Vb,
 [V.dat (.ints (rep 3 (cH l).l)), .int (dD l)]=[V.dat (.ints (rep 3 (cH l).l)), .int (dD l)]/\([]:List O)=[]/\(rep 3 (cH l).l).length=9/\0<=dD l/\dD l<=100/\∀x∈rep 3 (cH l).l,x.natAbs < 2^100,[V.int (ku l),V.int (dD l)]=[V.int (ku l),V.int (dD l)]/\([]:List O)=[]/\0<=ku l/\1<=dD l/\dD l<=100/\(ku l).natAbs < 2^1000/\0<=cP (ku l) (dD l)/\cP (ku l) (dD l) < 10]
def Je (Z S:List Int):List Prop:=[Z.length<=Vb,(1:Nat)<=Vb,VS (eP UZ ((jm Z).map X0))=UZ/\UZ=UZ,(!eO (jm Z) [0])=UZ,(1:Nat)<=Vb,Z.length < 2^62,
 (-2^63:Int)<=9 - (Z.length:Int)/\9 - (Z.length:Int) < 2^63/\1*(9 - (Z.length:Int)).toNat<=Vb,Z.length+(nz Z).length<=Vb,UZ=UZ,UZ=UZ,(0:Nat)<=Vb,UZ=UZ,(1:Nat)<=Vb,UZ=UZ,(2:Nat)<=Vb,U0=U0,
 (-2^63:Int)<=3/\(3:Int) < 2^63/\(9:Nat)<=Vb,VS (eP UZ ((Z++nz Z).map X0))=UZ/\UZ=UZ]
theorem KY (P:Vc) (l:List Int):bD 0 (bnd (aR uv gl (λa=>bk) (λa=>br) (Gz P (Jb P) 2 60) [] [.dat (.ints l)]) (λv=>cj P 9 v) ⟨[],[U0,U0,UZ,UZ,UZ,UZ,U0,UZ,UZ,UZ]⟩)=
 UX (.bool (eO (fQ l++nz (fQ l)) (xm (jf (bo (dE l))))),[],Jc l++(Jd l++Je (fQ l) (jf (bo (dE l))))):=by rfl'
theorem Rq (c:Int):1+c % 3=1∨1+c % 3=2∨1+c % 3=3:=by lia
theorem OB (c:Int):cB c=1∨cB c=2∨cB c=3:=by unfold cB;refine ac (V8 _ (by decide)) ?_;exact Rq _
theorem OC (c:Int):di c=1∨di c=2∨di c=3:=by unfold di;refine ac (V8 _ (by decide)) ?_;exact Rq _
theorem DY (c:Int):0<=cF c/\cF c < 4:=by unfold cF;refine ac (V8 _ (by decide)) ?_;exact⟨Int.emod_nonneg _ (by decide),Int.emod_lt_of_pos _ (by decide)⟩
noncomputable def OD (L:List Int):Bool:= !decide (ay 0 L 0=0)&&decide (mG L<=7)&&(Wb (mG L)).all (λi=>(jj L i).isSome)&&(decide (mG L=7)||(jj L (mG L)).isNone)
theorem zm {L:List Int} (h:OD L=UZ):on L:=by unfold OD at h;simp only[VQ,abN,XX,decide_eq_true_eq,decide_eq_false_iff_not,List.all_eq_true,List.mem_range,Option.isNone_iff_eq_none] at h;exact⟨h.1.1.1,h.1.1.2,(λi a e=>by have:=h.1.2 i a;rw[e] at this;cases this),h.2⟩
def By (R E:List Int):Prop:=∃f s:Int,(f=1∨f=2∨f=3)/\(s=1∨s=2∨s=3)/\((R=[f,s,0,4]/\E=[f,s,s,s,s,s,s])∨(R=[f,0,9]/\E=[f,f,f,f,f,f,f])∨(R=[f,s,127,1]/\E=[f,s])∨(R=[f,s]/\E=[f,s]))
theorem xn (c:Int):By (fT c) (g8 c):=by
 refine(cY (cB c) (di c) (OB c) (OC c) ?_);have:=DY c;rcases(by lia:cF c=0∨cF c=1∨cF c=2∨cF c=3) with h|h|h|h<;>(unfold fT g8;rw[h])
 ·exact .inl ⟨rfl,rfl⟩
 ·exact .inr (.inl ⟨rfl,rfl⟩)
 ·exact .inr (.inr (.inl ⟨rfl,rfl⟩))
 ·exact .inr (.inr (.inr ⟨rfl,rfl⟩))
theorem DZ {R E:List Int} (h:By R E):on R/\fH R (mG R)=E:=by obtain⟨f,s,a,b,h⟩:=h;rcases h with ⟨rfl,rfl⟩|⟨rfl,rfl⟩|⟨rfl,rfl⟩|⟨rfl,rfl⟩<;>rcases a with rfl|rfl|rfl<;>first|exact⟨zm (by decide+kernel),by decide+kernel⟩|(rcases b with rfl|rfl|rfl<;>exact⟨zm (by decide+kernel),by decide+kernel⟩)
def iJ (T:List Int):Prop:=∃f s:Int,(f=1∨f=2∨f=3)/\(s=1∨s=2∨s=3)/\(T=[f,s,s,s,s,s,s]∨T=[f,s])
theorem Hg {R E:List Int} (h:By R E):iJ E:=by
 obtain⟨f,s,a,b,h⟩:=h;rcases h with ⟨_,rfl⟩|⟨_,rfl⟩|⟨_,rfl⟩|⟨_,rfl⟩
 ·exact(cY f s a b (.inl rfl))
 ·exact(cY f f a a (.inl rfl))
 ·exact(cY f s a b (.inr rfl))
 ·exact(cY f s a b (.inr rfl))
noncomputable def aL (Ls:List Lr) (i:Int):Lr:=(Ls[i.toNat]?).getD ⟨0,[],⟨0,0,0⟩,0,""⟩
def dX (Ls:List Lr) (T:List Int) (x:Nat):Nat:=(T.filter λj=>decide ((aL Ls j).s=(x:Int))).length
theorem oq:∀{l1 l2:List Int},l1.Nodup->(∀a∈l1,a∈l2)->l1.length<=l2.length
 |[],_,_,_=>W4 _
 |a::r,l2,g,h=>by have d:=h a (.head _);have c:=List.nodup_cons.mp g;have:=oq (l1:=r) (l2:=l2.erase a) c.2 λb f=>(List.mem_erase_of_ne (λe:b=a=>c.1 (aD e f))).mpr (h b (.tail _ f));simp only[List.length_erase_of_mem d] at this;have:=List.length_pos_of_mem d;refine ac VD ?_;exact Nat.add_le_of_le_sub this ‹_›
theorem ot {A B:List Int} {x:Nat} (nd:A.Nodup) (h:∀j∈A,(aL Ls j).s=(x:Int)->j∈B):dX Ls A x<=dX Ls B x:=
 oq (nd.filter _) λa c=>by exact aN (List.mem_filter.mp c) λd b=>(List.mem_filter.mpr ⟨h a d (of_decide_eq_true b),b⟩)
theorem OE {A B:List Int} {x:Nat} {j:Int} (nd:A.Nodup) (h:∀j∈A,(aL Ls j).s=(x:Int)->j∈B) (d:j∈B) (hs:(aL Ls j).s=(x:Int)) (e:j∉A):dX Ls A x < dX Ls B x:=by
 have:=oq (l1:=j::A.filter λj=>decide ((aL Ls j).s=(x:Int))) (l2:=B.filter λj=>decide ((aL Ls j).s=(x:Int)))
  (List.nodup_cons.mpr ⟨λh=>e (List.mem_filter.mp h).1,nd.filter _⟩) λa b=>by
  rcases List.mem_cons.mp b with rfl|b
  ·exact List.mem_filter.mpr ⟨d,decide_eq_true hs⟩
  ·exact aN (List.mem_filter.mp b) λf c=>(List.mem_filter.mpr ⟨h a f (of_decide_eq_true c),c⟩)
 exact this
structure xp (k:aY) (Ls:List Lr) (i:Int):Prop where
 s:0<=(aL Ls i).s/\(aL Ls i).s < 3
 nd:(aL Ls i).tk.Nodup
 lo:∀j∈(aL Ls i).tk,0<=j/\j < i
 own:∀j,0<=j->j < i->(aL Ls j).s=(aL Ls i).s->j∈(aL Ls i).tk
 cl:∀j∈(aL Ls i).tk,∀l∈(aL Ls j).tk,l∈(aL Ls i).tk
 c:∀x,x < 3->(aL Ls i).c.at x=k.s.at x+dX Ls (aL Ls i).tk x+(if x=(aL Ls i).s.toNat then 1 else 0)
 t:(aL Ls i).t=dj ⟨(aL Ls i).c.a,(aL Ls i).c.b,(aL Ls i).c.c,(aL Ls i).w,10+k.c3.fmod 40,k.L⟩
def jR (k:aY) (Ls:List Lr):Prop:=∀i:Int,0<=i->i < Ls.length->xp k Ls i
structure im (Ls:List Lr) (T:List Int):Prop where
 nd:T.Nodup
 lo:∀j∈T,0<=j/\j < Ls.length
 cl:∀j∈T,∀l∈(aL Ls j).tk,l∈T
theorem im.pre {k:aY} {T:List Int} (h:im Ls T) (a:jR k Ls) {i j:Int} (hi:i∈T) (h0:0<=j) (b:j < i) (hs:(aL Ls j).s=(aL Ls i).s):j∈T:=
 h.cl i hi j ((a i (h.lo i hi).1 (h.lo i hi).2).own j h0 b hs)
theorem xp.set {k:aY} {i:Int} (x:xp k Ls i) (h:i<=Ls.length):im Ls (aL Ls i).tk:=⟨x.nd,λj a=>⟨(x.lo j a).1,by have:=(x.lo j a).2;exact Xm this h⟩,x.cl⟩
theorem OF {k:aY} (e:jR k Ls) {A B:List Int} (f:im Ls A) (d:im Ls B) {j:Int} (c:j∈A) {x:Nat} (hs:(aL Ls j).s=(x:Int)) (h:dX Ls A x<=dX Ls B x):j∈B:=by
 refine abs λg=>?_;have:=OE (Ls:=Ls) (A:=B) (B:=A) (x:=x) d.nd (λb i a=>by
  rcases Int.lt_trichotomy b j with h|h|h
  ·exact f.pre e c (d.lo b i).1 h (a.trans hs.symm)
  ·refine ac h ?_;exact c
  ·exact absurd (d.pre e i (f.lo j c).1 h (hs.trans a.symm)) g) c hs g
 exact absurd h (Nat.not_le_of_lt this)
theorem k9 (v:V3) {x:Nat} (hi:i < 3) (a:x < 3):(bh v i).at x=v.at x+(if x=i then 1 else 0):=by rcases oV hi with rfl|rfl|rfl<;>rcases oV a with rfl|rfl|rfl<;>rfl
theorem xq (v c:V3) (hi:i < 3):sI v c i=UZ↔c.at i=v.at i+1/\∀x,x < 3->c.at x<=v.at x+(if x=i then 1 else 0):=by
 unfold sI;rw[decide_eq_true_iff];refine⟨λh=>⟨h.1,λx a=>?_⟩,λh=>⟨h.1,?_,?_,?_⟩⟩
 ·refine aD (k9 v hi a) ?_;rcases oV a with rfl|rfl|rfl
  ·exact h.2.1
  ·exact h.2.2.1
  ·exact h.2.2.2
 ·have:=h.2 0 (by decide);rw[<-k9 v hi (by decide)] at this;exact this
 ·have:=h.2 1 (by decide);rw[<-k9 v hi (by decide)] at this;exact this
 ·have:=h.2 2 (by decide);rw[<-k9 v hi (by decide)] at this;exact this
theorem D1 {k:aY} (g:jR k Ls) {i:Int} (h0:0<=i) (hl:i < Ls.length) {T:List Int} (l:im Ls T) (hi:i∉T) {v:V3} (m:∀x,x < 3->v.at x=k.s.at x+dX Ls T x):
  sI v (aL Ls i).c (aL Ls i).s.toNat=UZ↔∀j∈(aL Ls i).tk,j∈T:=by
 have x:=g i h0 hl
 have d:(aL Ls i).s.toNat < 3:=by have:=x.s;exact(WY this.1).mpr this.2
 have n:((aL Ls i).s.toNat:Int)=(aL Ls i).s:=VP x.s.1
 rw[xq _ _ d]
 constructor
 ·rintro⟨z,u⟩ j b;have e:=x.lo j b;have o:=(g j e.1 (by lia)).s;have p:(aL Ls j).s.toNat < 3:=(WY o.1).mpr o.2;refine OF g (x.set (Wy hl)) l b (x:=(aL Ls j).s.toNat) (VP o.1).symm ?_;have:=u _ p;simp only[x.c _ p,m _ p] at this;lia
 ·intro h;have f:∀y,dX Ls (aL Ls i).tk y<=dX Ls T y:=λy=>ot x.nd λj b a=>h j b;have w:dX Ls T (aL Ls i).s.toNat<=dX Ls (aL Ls i).tk (aL Ls i).s.toNat:=ot l.nd λj b r=>by
   have e:=l.lo j b;simp only[n] at r;rcases Int.lt_trichotomy j i with q|q|q
   ·exact x.own j e.1 q r
   ·exact absurd (aD q b) hi
   ·exact absurd (l.pre g b h0 q r.symm) hi
  have A:=f (aL Ls i).s.toNat;refine⟨?_,λy t=>?_⟩
  ·refine ac (x.c _ d) (ac (m _ d) (ac (if_pos rfl) ?_));lia
  ·refine ac (x.c _ t) (ac (m _ t) ?_);have:=f y;lia
section
def jS (k:aY):Prop:=∀x,x < 3->0<=k.s.at x/\k.s.at x<=900000
theorem xt {i:Int} (h0:0<=i) (hl:i < Ls.length):Ls[i.toNat]?=UX (aL Ls i):=by have:i.toNat < Ls.length:=(WY h0).mpr hl;unfold aL;refine ac (VI this) ?_;rfl
theorem rp {i:Int} (h0:0<=i) (hl:i < Ls.length):dg (Ls.map Lr.D) (dM (Ls.map Lr.D).length i)=UX (aL Ls i).D/\bH (Ls.map Lr.D) i=aL Ls i:=by
 obtain⟨n,rfl⟩:=VZ h0;have h:dg (Ls.map Lr.D) n=UX (aL Ls (n:Int)).D:=by rw[eF,YJ];refine ac (show Ls[n]?=UX (aL Ls (n:Int)) from xt h0 hl) ?_;rfl
 refine⟨h,?_⟩;refine(?_:GW ((dg (Ls.map Lr.D) n).getD .none)=_);exact ac h (NY _)
theorem Jf {i:Int} (h0:0<=i) (hl:i < Ls.length) (c:Ls.length<=4):lT (Ls.map Lr.D) i:=by obtain⟨a,b⟩:=rp h0 hl;refine⟨?_,(b).symm▸a⟩;obtain⟨n,rfl⟩:=VZ h0;exact⟨by rw[VA];exact Int.ofNat_lt.mp hl,by lia⟩
theorem Jg {v:V3} (h:∀x,x < 3->0<=v.at x/\v.at x<=1000000):v.ok:=⟨h 0 (by decide),h 1 (by decide),h 2 (by decide)⟩
theorem QB (u v:V3) (x:Nat):(wJ u v).at x=gz (u.at x) (v.at x):=by rcases x with _|_|x<;>rfl
theorem QC {a b:Int} (h:a < b):gz a b=b:=by unfold gz;exact ac (decide_eq_true h) rfl
theorem QD {a b:Int} (h:b<=a):gz a b=a:=by unfold gz;exact ac (decide_eq_false (by lia)) rfl
theorem jw {T:List Int} (nd:T.Nodup) (lo:∀j∈T,0<=j/\j < Ls.length):T.length<=Ls.length:=by
 have:=oq (l1:=T) (l2:=(Wb Ls.length).map λn:Nat=>(n:Int)) nd λa b=>by exact aN (lo a b) λh0 c=>(List.mem_map.mpr (aA a.toNat (List.mem_range.mpr ((WY h0).mpr c)) (VP h0)))
 rwa[VA,List.length_range] at this
theorem xu (T:List Int) (x:Nat):dX Ls T x<=T.length:=List.length_filter_le _ _
theorem pT (Ls:List Lr) (T:List Int) (i:Int) (x:Nat):dX Ls (T++[i]) x=dX Ls T x+(if(aL Ls i).s=(x:Int) then 1 else 0):=by
 unfold dX;rw[adz];refine ac Va ?_;by_cases h:(aL Ls i).s=(x:Int)
 ·refine ac (if_pos h) ?_;rw[List.filter_cons_of_pos (by simpa using h)];rfl
 ·refine ac (if_neg h) ?_;rw[acC (by simpa using h)];rfl
theorem zn {k:Int} {l:List Int}:jF k l=UZ↔k∈l:=by
 induction l with
 |nil=>exact⟨λh=>(nomatch h),λh=>(nomatch h)⟩
 |cons a r b=>exact Bool.or_eq_true_iff.trans ((or_congr (decide_eq_true_iff.trans eq_comm) b).trans List.mem_cons.symm)
theorem Hh {tk:List Int}:(cS ts tk).isEmpty=UZ↔∀j∈tk,j∈ts:=by
 induction tk with
 |nil=>exact⟨λa a h=>(nomatch h),λa=>rfl⟩
 |cons k r c=>
  refine(?_:(match jF k ts with|true=>cS ts r|false=>k::cS ts r).isEmpty=UZ↔_);induction h:jF k ts with
  |true=>exact c.trans ⟨λg j b=>by
    rcases List.mem_cons.mp b with rfl|b
    ·exact zn.mp h
    ·exact g j b,λg j b=>g j (.tail _ b)⟩
  |false=>exact⟨λg=>(nomatch g),λg=>by have:=zn.mpr (g k (.head _));rw[h] at this;cases this⟩
theorem Hi {h:Hd} {hs:List Hd} (a:h∈hs) (nd:(hs.map Hd.n).Nodup):hs.Perm (h::iG h hs):=by
 induction hs with
 |nil=>exact nomatch a
 |cons d r b=>
  refine aN (List.nodup_cons.mp nd) λf g=>(?_:(d::r).Perm (h::(match decide (d.n=h.n)&&eO d.c.l h.c.l with|true=>r|false=>d::iG h r)))
  induction e:decide (d.n=h.n)&&eO d.c.l h.c.l with
  |true=>
   have i:h=d:=by
    refine(List.mem_cons.mp a).elim (λq=>?_) λq=>?_
    ·exact q
    ·have:=of_decide_eq_true (Bool.and_eq_true_iff.mp e).1;exact absurd (List.mem_map.mpr (aA h q this.symm)) f
   rw[i]
  |false=>
   have j:h∈r:=by
    refine(List.mem_cons.mp a).elim (λq=>?_) λq=>?_
    ·rw[q,decide_eq_true rfl,jQ] at e;exact tf e
    ·exact q
   exact((b j g).cons d).trans (.swap ..)
structure kx (k:aY) (Ls:List Lr) (p:PS):Prop where
 T:im Ls p.ts
 v:∀x,x < 3->p.v.at x=k.s.at x+dX Ls p.ts x
 h:∀h∈p.hs,0<=h.n/\h.n < Ls.length/\h.c=(aL Ls h.n).c
 nd:(p.ts++p.hs.map Hd.n).Nodup
section
variable {k:aY} {p:PS} {h:Hd}
theorem kx.rdy (x:kx k Ls p) (c:jR k Ls) (a:h∈p.hs):iH (Ls.map Lr.D) p h=UZ↔∀j∈(aL Ls h.n).tk,j∈p.ts:=by refine b9 (x.h h a) λh0 b d=>?_;unfold iH wO;refine ac ((rp h0 b).2) (ac d ?_);refine D1 c h0 b x.T (λe=>?_) x.v;exact(List.nodup_append.mp x.nd).2.2 _ e _ (List.mem_map.mpr (aA h a rfl)) rfl
theorem cn {L t n:Nat} {s B:Int} (a:L<=4) (hl:t<=L) (h1:0<=s/\s<=900000) (h2:n<=t) (b:900004<=B):0<=s+n/\s+n<=B:=⟨W5 h1.1 (Vr n),VN (aaP h1.2 (Int.ofNat_le.mpr (U3 h2 (U3 hl a)))) b⟩
theorem Rs {L t n:Nat} {s B:Int} (a:L<=4) (hl:t<=L) (h1:0<=s/\s<=900000) (h2:n<=t) (b:900005<=B):0<=s+n+1/\s+n+1<=B:=⟨W5 (cn a hl h1 h2 (YD _)).1 (by decide),VN (Yb (cn a hl h1 h2 (YD _)).2 1) b⟩
theorem OG (b:jS k) (c:Ls.length<=4) {T:List Int} (d:T.length<=Ls.length) {v:V3} (e:∀x,x < 3->v.at x=k.s.at x+dX Ls T x):v.ok:=Jg λx a=>by have f:=xu (Ls:=Ls) T x;exact ac (e x a) (cn c d (b x a) f (by decide))
theorem QE (f:jS k) (g:jR k Ls) (a:Ls.length<=4) {i:Int} (h0:0<=i) (h1:i < Ls.length):(aL Ls i).c.ok/\(aL Ls i).tk.length<=4:=by
 have x:=g i h0 h1;have b:=jw x.nd (x.set (Wy h1)).lo;refine⟨Jg λy d=>?_,by lia⟩;have h1:=f y d;have e:=xu (Ls:=Ls) (aL Ls i).tk y;refine ac (x.c y d) ?_;split
 ·exact Rs a b h1 e (by decide)
 ·exact ac (ZD _) (cn a b h1 e (by decide))
theorem Hj (l:jS k) (b:jR k Ls) (c:Ls.length<=4) (x:kx k Ls p) (d:h∈p.hs):kW (Ls.map Lr.D) p h:=by
 refine b9 (x.h h d) λh0 a o=>?_;have e:=(rp h0 a).2;have f:=jw x.T.nd x.T.lo;have q:p.hs.length<=Ls.length:=by
  have:=jw (Ls:=Ls) (T:=p.hs.map Hd.n) (List.nodup_append.mp x.nd).2.1 λj r=>by
   refine aj (List.mem_map.mp r) λg m i=>(aD i ?_)
   exact⟨(x.h g m).1,(x.h g m).2.1⟩
  rwa[VA] at this
 have t:=QE l b c h0 a;refine⟨Jf h0 a c,(e).symm▸((b _ h0 a).s),by refine(e).symm▸ ?_;lia,OG l c f x.v,o▸t.1,by lia,by lia,d,?_⟩;exact(e).symm▸(Bool.eq_iff_iff.mpr ((x.rdy b d).trans Hh.symm))
end
end
section
section
variable {k:aY} {p:PS} {h:Hd}
theorem KZ (u:jR k Ls) (x:kx k Ls p) (d:h∈p.hs) (f:iH (Ls.map Lr.D) p h=UZ):
  kx k Ls ⟨iG h p.hs,p.ts++[h.n],wJ p.v h.c,UZ⟩/\((p.ts++[h.n])++(iG h p.hs).map Hd.n).Perm (p.ts++p.hs.map Hd.n)/\p.hs.Perm (h::iG h p.hs):=by
 refine b9 (x.h h d) λh0 i I=>?_
 have w:=List.nodup_append.mp x.nd
 have m:=Hi d w.2.1
 have b:((p.ts++[h.n])++(iG h p.hs).map Hd.n).Perm (p.ts++p.hs.map Hd.n):=by rw[Vk];exact((m.map Hd.n).symm).append_left p.ts
 have E:h.n∉p.ts:=λF=>w.2.2 _ F _ (List.mem_map.mpr (aA h d rfl)) rfl
 have z:=u _ h0 i
 have o:sI p.v h.c (aL Ls h.n).s.toNat=UZ:=by unfold iH wO at f;rw[(rp h0 i).2] at f;exact f
 refine aN ((xq _ _ (by have:=z.s;exact(WY this.1).mpr this.2:(aL Ls h.n).s.toNat < 3)).mp o) λA G=>⟨⟨⟨?_,?_,?_⟩,λy B=>?_,λg H=>x.h g (m.mem_iff.mpr (.tail _ H)),b.nodup_iff.mpr x.nd⟩,b,m⟩
 ·have:=(List.nodup_append.mp (b.nodup_iff.mpr x.nd)).1;exact this
 ·intro j r;rcases List.mem_append.mp r with q|q
  ·exact x.T.lo j q
  ·refine ac (List.mem_singleton.mp q) ?_;exact⟨h0,i⟩
 ·intro j r l t;rcases List.mem_append.mp r with q|q
  ·exact List.mem_append.mpr (.inl (x.T.cl j q l t))
  ·rw[List.mem_singleton.mp q] at t;exact List.mem_append.mpr (.inl (((x.rdy u d).mp f) l t))
 ·refine(?_:(wJ p.v h.c).at y=k.s.at y+dX Ls (p.ts++[h.n]) y);rw[QB,pT];have C:=x.v y B;by_cases a:(aL Ls h.n).s=(y:Int)
  ·refine ac (if_pos a) ?_;have e:(aL Ls h.n).s.toNat=y:=congrArg XU a;rw[e] at A;refine ac (QC (by lia)) ?_;rw[A,C];lia
  ·refine ac (if_neg a) ?_;have:=G y B;rw[if_neg (λe=>a (by exact e▸(VP (z.s).1).symm))] at this;refine ac (QD (by lia)) (ac C ?_);lia
structure ou (k:aY) (Ls:List Lr) (p0 p:PS) (r:List Hd):Prop where
 inv:kx k Ls p
 sub:∀h∈r,h∈p.hs
 nd:(r.map Hd.n).Nodup
 perm:(p.ts++p.hs.map Hd.n).Perm (p0.ts++p0.hs.map Hd.n)
 mono:∀j∈p0.ts,j∈p.ts
 len:p.hs.length+(if p.ag=UZ then 1 else 0)<=p0.hs.length
 no:p.ag=U0->p.ts=p0.ts/\p.hs=p0.hs/\p.v=p0.v/\∀h∈p.hs,h∉r->iH (Ls.map Lr.D) p h=U0
theorem D2 (l:jR k Ls) {p0:PS} {r:List Hd} (x:ou k Ls p0 p (h::r)):ou k Ls p0 (fP (Ls.map Lr.D) p h) r:=by
 have b:=List.nodup_cons.mp x.nd;refine(?_:ou k Ls p0 (match iH (Ls.map Lr.D) p h with|true=>⟨iG h p.hs,p.ts++[h.n],wJ p.v h.c,UZ⟩|false=>p) r);induction f:iH (Ls.map Lr.D) p h with
 |true=>
  refine b9 (KZ l x.inv (x.sub h (.head _)) f) λm o i=>⟨m,λg a=>?_,b.2,o.trans x.perm,λj s=>List.mem_append.mpr (.inl (x.mono j s)),?_,λe=>by cases e⟩
  ·rcases List.mem_cons.mp (i.mem_iff.mp (x.sub g (.tail _ a))) with q|q
   ·exact absurd (List.mem_map.mpr (aA g a (congrArg Hd.n q))) b.1
   ·exact q
  ·have:=i.length_eq;simp only[VD] at this;have B:=x.len;refine(?_:(iG h p.hs).length+(if UZ=UZ then 1 else 0)<=_);refine ac (if_pos rfl) ?_;lia
 |false=>
  refine⟨x.inv,λg a=>x.sub g (.tail _ a),b.2,x.perm,x.mono,x.len,λe=>?_⟩;refine pZ (x.no e) λt u w y=>⟨t,u,w,λg a z=>?_⟩
  by_cases q:g=h
  ·refine ac q ?_;exact f
  ·exact y g a λA=>by
    rcases List.mem_cons.mp A with d|d
    ·exact q d
    ·exact z d
theorem D3 (b:jS k) (a:jR k Ls) (c:Ls.length<=4) {p0:PS} (r:List Hd) {p:PS} (x:ou k Ls p0 p r):kX (Ls.map Lr.D) p r/\ou k Ls p0 (r.foldl (fP (Ls.map Lr.D)) p) []:=by
 induction r generalizing p with
 |nil=>exact⟨trivial,x⟩
 |cons h r d=>exact aN (d (D2 a x)) λe f=>⟨⟨Hj b a c x.inv (x.sub h (.head _)),e⟩,f⟩
theorem K1 (b:jS k) (c:jR k Ls) (d:Ls.length<=4) (x:kx k Ls p):kX (Ls.map Lr.D) {p with ag:=U0} p.hs/\ou k Ls p (bq (Ls.map Lr.D) p) []:=
 D3 b c d p.hs ⟨⟨x.T,x.v,x.h,x.nd⟩,λa h=>h,(List.nodup_append.mp x.nd).2.1, .refl _,λa h=>h,by show p.hs.length+(if U0=UZ then 1 else 0)<=_;refine ac (if_neg (by decide)) ?_;exact Vt _,λa=>⟨rfl,rfl,rfl,λh e f=>absurd e f⟩⟩
structure Hk (k:aY) (Ls:List Lr) (p q:PS):Prop where
 inv:kx k Ls q
 perm:(q.ts++q.hs.map Hd.n).Perm (p.ts++p.hs.map Hd.n)
 mono:∀j∈p.ts,j∈q.ts
 no:∀h∈q.hs,iH (Ls.map Lr.D) q h=U0
theorem K2 (i:jS k) (l:jR k Ls) (m:Ls.length<=4) (f:Nat) {p:PS} (x:kx k Ls p) (h:p.hs.length < f) (b:p.hs.length<=10):ig (Ls.map Lr.D) f p/\Hk k Ls p (dT (Ls.map Lr.D) f p):=by
 induction f generalizing p with
 |zero=>exact absurd h (W9 _)
 |succ f n=>
  refine aN (K1 i l m x) λd y=>(?_:(kX (Ls.map Lr.D) {p with ag:=U0} p.hs/\p.hs.length<=10/\((bq (Ls.map Lr.D) p).ag=UZ->ig (Ls.map Lr.D) f (bq (Ls.map Lr.D) p)))/\Hk k Ls p (match(bq (Ls.map Lr.D) p).ag with|true=>dT (Ls.map Lr.D) f (bq (Ls.map Lr.D) p)|false=>bq (Ls.map Lr.D) p))
  have o:=y.len;induction g:(bq (Ls.map Lr.D) p).ag with
  |true=>rw[g,if_pos rfl] at o;exact aN (n y.inv (by lia) (by lia)) λq c=>⟨⟨d,b,λa=>q⟩,⟨c.inv,c.perm.trans y.perm,λj r=>c.mono j (y.mono j r),c.no⟩⟩
  |false=>exact⟨⟨d,b,λe=>by cases e⟩,⟨y.inv,y.perm,y.mono,λh s=>(y.no g).2.2.2 h s (by simp)⟩⟩
end
end
section
structure iu (k:aY) (y:Dy):Prop where
 len:y.Ls.length<=4
 L:jR k y.Ls
 own:∀m:Nat,m < 3->∀i:Int,0<=i->i < y.Ls.length->(aL y.Ls i).s=(m:Int)->i∈y.t m
 T:∀m,m < 3->im y.Ls (y.t m)
 V:∀m,m < 3->∀x,x < 3->(y.v m).at x=k.s.at x+dX y.Ls (y.t m) x
 H:∀m,m < 3->∀h∈y.h m,0<=h.n/\h.n < y.Ls.length/\h.c=(aL y.Ls h.n).c
 nr:∀m,m < 3->∀h∈y.h m,¬∀j∈(aL y.Ls h.n).tk,j∈y.t m
 nd:∀m,m < 3->((y.t m++(y.h m).map Hd.n)++y.b m).Nodup
 all:∀m,m < 3->∀i:Int,i∈(y.t m++(y.h m).map Hd.n)++y.b m↔0<=i/\i < y.Ls.length
 bl:∀i,(y.b i).length<=y.Ls.length
theorem OH (k:aY):iu k (oY k) where
 len:=W4 _
 L:=λi h0 c=>absurd c (by show¬i < ((0:Nat):Int);exact Int.not_lt.mpr h0)
 own:=λm b i h0 c=>absurd c (by show¬i < ((0:Nat):Int);exact Int.not_lt.mpr h0)
 T:=λm b=>⟨.nil,λa h=>(nomatch h),λa h=>(nomatch h)⟩
 V:=λm b x e=>(ZD _).symm
 H:=λm b h d=>nomatch d
 nr:=λm b h d=>nomatch d
 nd:=λm b=> .nil
 all:=λm b i=>⟨λh=>(nomatch h),λh=>by have f:i < ((0:Nat):Int):=h.2;exact absurd h.1 (Int.not_le.mpr h.2)⟩
 bl:=λa=>Vt _
theorem rq {f:Nat->α} {m:Nat} {a:α}:upd f m a m=a:=by refine(?_:(match VC m m with|true=>a|false=>f m)=a);rw[abj]
theorem rr {f:Nat->α} {m:Nat} {a:α} (h:i≠m):upd f m a i=f i:=by refine(?_:(match VC i m with|true=>a|false=>f i)=f i);exact ac (show VC i m=U0 from Bool.eq_false_iff.mpr λe=>h (VK e)) rfl
section
variable {k:aY} {y:Dy} {r:Lr}
theorem OI {i:Int} (h1:i < Ls.length):aL (Ls++[r]) i=aL Ls i∨i < 0:=by
 by_cases h0:0<=i
 ·refine .inl ?_;unfold aL;exact ac (Wn ((WY h0).mpr h1)) rfl
 ·exact .inr (Int.not_le.mp h0)
theorem ft {i:Int} (h0:0<=i) (h1:i < Ls.length):aL (Ls++[r]) i=aL Ls i:=(OI h1).resolve_right (Int.not_lt.mpr h0)
theorem D4:aL (Ls++[r]) (Ls.length:Int)=r:=by unfold aL;rw[Vz,VU (Vt _),WW];rfl
theorem ow {T:List Int} (a:∀j∈T,0<=j/\j < Ls.length) (x:Nat):dX (Ls++[r]) T x=dX Ls T x:=by unfold dX;congr 1;exact List.filter_congr λj b=>(ac (ft (a j b).1 (a j b).2) rfl)
theorem Hl (n:jR k Ls) (o:xp k (Ls++[r]) Ls.length):jR k (Ls++[r]):=λi h0 g=>by
 simp only[Va,YT] at g;by_cases h:i=Ls.length
 ·refine(h).symm▸ ?_;exact o
 ·have a:i < Ls.length:=Int.lt_iff_le_and_ne.mpr ⟨Zh g,h⟩;have x:=n i h0 a;have e:=ft (r:=r) h0 a;refine⟨(e).symm▸x.s,(e).symm▸x.nd,(e).symm▸x.lo,λj b d f=>?_,?_,λz p=>?_,(e).symm▸x.t⟩
  ·rw[e] at f ⊢;rw[ft b (XH d a)] at f;exact x.own j b d f
  ·refine(e).symm▸ ?_;intro j b l m;rw[ft (x.lo j b).1 (by have:=(x.lo j b).2;exact XH this a)] at m;exact x.cl j b l m
  ·refine ac e ?_;rw[ow (x.set (Wy a)).lo];exact x.c z p
theorem xw {T:List Int} (a:im Ls T):im (Ls++[r]) T:=⟨a.nd,λj b=>⟨(a.lo j b).1,by have:=(a.lo j b).2;refine ac Va ?_;exact Xm this (Int.ofNat_le.mpr (WI _))⟩,λj b l c=>by rw[ft (a.lo j b).1 (a.lo j b).2] at c;exact a.cl j b l c⟩
theorem D5 (x:iu k y) {m:Nat} (D:m < 3) (M:y.Ls.length < 4):iu k (ir k y m):=by
 have g:=x.T m D;have f:=D4 (Ls:=y.Ls) (r:=y.new k m);have E:∀{i:Nat},i < 3->(y.Ls.length:Int)∉(y.t i++(y.h i).map Hd.n)++y.b i:=λo h=>by exact Int.lt_irrefl _ ((x.all _ o _).mp h).2
 have p:((y.Ls++[y.new k m]).length:Int)=y.Ls.length+1:=by refine ac Va ?_;rfl
 have R:xp k (y.Ls++[y.new k m]) y.Ls.length:=by
  refine⟨?_,?_,?_,?_,?_,?_,?_⟩
  ·refine ac f ?_;exact⟨Vr m,by show(m:Int) < 3;exact Int.ofNat_le.mpr D⟩
  ·refine ac f ?_;exact g.nd
  ·refine ac f ?_;exact g.lo
  ·intro j h0 G I;rw[f] at I ⊢;rw[ft h0 G] at I;exact x.own m D j h0 G I
  ·refine ac f ?_;intro j u l J;rw[ft (g.lo j u).1 (g.lo j u).2] at J;exact g.cl j u l J
  ·intro z K;refine ac f (?_:(bh (y.v m) m).at z=k.s.at z+dX (y.Ls++[y.new k m]) (y.t m) z+(if z=((m:Nat):Int).toNat then 1 else 0));refine ac (k9 _ D K) ?_;rw[x.V m D z K,ow g.lo,Vz]
  ·refine ac f ?_;rfl
 have S:im (y.Ls++[y.new k m]) (y.t m++[(y.Ls.length:Int)]):=by
  refine⟨List.nodup_append.mpr ⟨g.nd,by simp,λa X b U e=>(λh=>E D (List.mem_append.mpr (.inl (List.mem_append.mpr (.inl h)))):(y.Ls.length:Int)∉y.t m) ?_⟩,λj u=>?_,λj u l J=>?_⟩
  ·rw[ZG] at U;refine aD U (aD e ?_);exact X
  ·refine ac p ?_;rcases List.mem_append.mp u with q|q
   ·exact⟨(g.lo j q).1,XH (g.lo j q).2 (abR _)⟩
   ·refine ac (List.mem_singleton.mp q) ?_;exact⟨Vr _,abR _⟩
  ·rcases List.mem_append.mp u with q|q
   ·exact List.mem_append.mpr (.inl ((xw (r:=y.new k m) g).cl j q l J))
   ·rw[List.mem_singleton.mp q,f] at J;exact List.mem_append.mpr (.inl J)
 have w:∀i,(ir k y m).t i=if i=m then y.t m++[(y.Ls.length:Int)] else y.t i:=λi=>by
  by_cases h:i=m
  ·refine ac (if_pos h) (ac h ?_);exact rq
  ·refine ac (if_neg h) ?_;exact rr h
 have N:∀i,(ir k y m).b i=if i=m then y.b i else y.b i++[(y.Ls.length:Int)]:=λi=>by
  refine(?_:(match VC i m with|true=>y.b i|false=>y.b i++[(y.Ls.length:Int)])=_);by_cases h:i=m
  ·refine ac (if_pos h) ?_;rw[h,abj]
  ·refine ac (if_neg h) ?_;rw[show VC i m=U0 from Bool.eq_false_iff.mpr λe=>h (VK e)]
 have F:∀i,(((ir k y m).t i++(y.h i).map Hd.n)++(ir k y m).b i).Perm ((y.Ls.length:Int)::((y.t i++(y.h i).map Hd.n)++y.b i)):=λi=>by
  rw[w,N];by_cases h:i=m
  ·refine ac (if_pos h) ?_;rw[if_pos h,<-h];have G:(y.t i++[(y.Ls.length:Int)]).Perm ((y.Ls.length:Int)::y.t i):=acb _ _;exact((G.append_right _).append_right _)
  ·refine ac (if_neg h) ?_;rw[if_neg h,<-Vk];exact acb _ _
 refine⟨?_,(Hl x.L R),λi o j h0 G I=>?_,λi o=>?_,λi o z K=>?_,λi o h Q=>?_,λi o h Q O=>?_,λi o=>?_,λi o j=>?_,λi=>?_⟩
 ·refine(?_:(y.Ls++[y.new k m]).length<=4);refine ac Va (ac YT ?_);exact M
 ·rw[w];have Y:j < y.Ls.length+1:=by refine aD p ?_;exact G
  by_cases u:j=y.Ls.length
  ·have A:(aL (y.Ls++[y.new k m]) j).s=(i:Int):=I;rw[u,f] at A;have d:i=m:=(adA (show(m:Int)=(i:Int) from A)).symm;refine ac (if_pos d) ?_;rw[u];exact List.mem_append.mpr (.inr (by simp))
  ·have A:(aL (y.Ls++[y.new k m]) j).s=(i:Int):=I;rw[ft h0 (by lia)] at A;have:=x.own i o j h0 (by lia) A;by_cases d:i=m
   ·refine ac (if_pos d) ?_;rw[<-d];exact List.mem_append.mpr (.inl this)
   ·refine ac (if_neg d) ?_;exact this
 ·rw[w];by_cases d:i=m
  ·refine ac (if_pos d) ?_;exact S
  ·refine ac (if_neg d) ?_;exact xw (x.T i o)
 ·refine(?_:(upd y.v m (bh (y.v m) m) i).at z=k.s.at z+dX (y.Ls++[y.new k m]) ((ir k y m).t i) z);rw[w];by_cases d:i=m
  ·subst d;refine ac rq ?_;rw[if_pos rfl,k9 _ D K,x.V i D z K,pT,ow g.lo,f];refine(?_:_=k.s.at z+((dX y.Ls (y.t i) z+if((i:Nat):Int)=(z:Int) then 1 else 0:Nat):Int));by_cases C:z=i
   ·refine ac (if_pos C) (ac (if_pos (congrArg adi C.symm)) ?_);lia
   ·refine ac (if_neg C) (ac (if_neg λe=>C (adA e).symm) ?_);lia
  ·refine ac (rr d) ?_;rw[if_neg d,ow (x.T i o).lo];exact x.V i o z K
 ·refine b9 (x.H i o h Q) λP a2 W=>⟨P,?_,?_⟩
  ·refine(?_:h.n < ((y.Ls++[y.new k m]).length:Int));refine ac p ?_;exact Xm a2 (Int.ofNat_le.mpr (WI _))
  ·refine(?_:h.c=(aL (y.Ls++[y.new k m]) h.n).c);refine ac (ft P a2) ?_;exact W
 ·refine b9 (x.H i o h Q) λP a2 W=>(x.nr i o h Q λj u=>?_)
  have B:j∈(ir k y m).t i:=O j (by show j∈(aL (y.Ls++[y.new k m]) h.n).tk;refine ac (ft P a2) ?_;exact u);rw[w] at B;by_cases d:i=m
  ·rw[if_pos d] at B;rcases List.mem_append.mp B with q|q
   ·refine ac d ?_;exact q
   ·have:=((x.L h.n P a2).lo j u).2;rw[List.mem_singleton.mp q] at this;exact absurd (XH this a2) (Int.lt_irrefl _)
  ·rw[if_neg d] at B;exact B
 ·exact(F i).nodup_iff.mpr (List.nodup_cons.mpr ⟨E o,x.nd i o⟩)
 ·refine(?_:_↔0<=j/\j < ((y.Ls++[y.new k m]).length:Int));refine ac p (((F i).mem_iff).trans (List.mem_cons.trans ⟨λh=>?_,λh=>?_⟩))
  ·rcases h with rfl|h
   ·exact⟨Vr _,abR _⟩
   ·exact⟨((x.all i o j).mp h).1,XH ((x.all i o j).mp h).2 (abR _)⟩
  ·by_cases q:j=y.Ls.length
   ·exact .inl q
   ·exact .inr ((x.all i o j).mpr ⟨h.1,Int.lt_iff_le_and_ne.mpr ⟨Zh h.2,q⟩⟩)
 ·refine(?_:_<=(y.Ls++[y.new k m]).length);rw[N,Va];have:=x.bl i;by_cases h:i=m
  ·refine ac (if_pos h) ?_;exact abn this
  ·refine ac (if_neg h) ?_;rw[Va];show(y.b i).length+1<=y.Ls.length+1;exact WG this
end
end
section
def jt (k:aY):Prop:=∀d:Lt,d.L=k.L->(∀x,x < 3->0<=d.n x/\d.n x<=999999)->10<=d.W->eW d/\rf (dj d) d.a d.b d.c d.L d.w
section
variable {k:aY} {y:Dy}
theorem D6 (f:jS k) (g:jR k Ls) (a:Ls.length<=4) {i:Int} (h0:0<=i) (h1:i < Ls.length):∀x,x < 3->0<=(aL Ls i).c.at x/\(aL Ls i).c.at x<=999999:=λy b=>by
 have x:=g i h0 h1;have d:=jw x.nd (x.set (Wy h1)).lo;have h1:=f y b;have e:=xu (Ls:=Ls) (aL Ls i).tk y;refine ac (x.c y b) ?_;split
 ·exact Rs a d h1 e (by decide)
 ·exact ac (ZD _) (cn a d h1 e (by decide))
theorem Hm {b:List Int} (h:b≠[]):b=b.dropLast++[gN b]:=by
 have e:gN b=b.getLast h:=by
  have a:b.length - 1 < b.length:=by have:=List.length_pos_iff.mpr h;exact Yz this YE
  have c:=gK (d:=(0:Int)) a;simp only[VI a] at c;rw[List.getLast_eq_getElem];exact(U2 c).symm
 refine ac e ?_;exact(Zo h).symm
structure US (k:aY) (y:Dy) (m:Nat):Prop where
 num:0<=y.num m/\y.num m < y.Ls.length
 got:y.got m=aL y.Ls (y.num m)
 p:kx k y.Ls (y.tk m)
 perm:((y.tk m).ts++(y.tk m).hs.map Hd.n++(y.b m).dropLast).Perm ((y.t m++(y.h m).map Hd.n)++y.b m)
 hs:(y.h m).length<=4
 b:(y.b m).length<=4
theorem Hn (x:iu k y) {m:Nat} (e:m < 3) (l:y.b m≠[]):US k y m:=by
 have g:=Hm l;have a:0<=y.num m/\y.num m < y.Ls.length:=(x.all m e _).mp (List.mem_append.mpr (.inr (ac g (List.mem_append.mpr (.inr (List.mem_singleton.mpr rfl))))));have i:y.got m=aL y.Ls (y.num m):=(rp a.1 a.2).2;have d:((y.tk m).ts++(y.tk m).hs.map Hd.n++(y.b m).dropLast).Perm ((y.t m++(y.h m).map Hd.n)++y.b m):=by refine(?_:(y.t m++(y.h m++[(⟨y.num m,(y.got m).c⟩:Hd)]).map Hd.n++(y.b m).dropLast).Perm _);refine ac V5 ?_;rw[<-Vk (y.t m)];refine ac (Vk _ _ (y.b m).dropLast) ?_;refine List.Perm.append_left _ ?_;have:(([(⟨y.num m,(y.got m).c⟩:Hd)].map Hd.n)++(y.b m).dropLast).Perm ((y.b m).dropLast++[gN (y.b m)]):=List.perm_append_comm;simp only[<-g] at this;exact this
 have f:=jw (Ls:=y.Ls) (x.nd m e) λj o=>(x.all m e j).mp o;simp only[Va,Va,VA] at f;have r:=x.len;refine⟨a,i,⟨x.T m e,x.V m e,λh p=>?_,(List.nodup_append.mp (d.nodup_iff.mpr (x.nd m e))).1⟩,d,by lia,by lia⟩;refine(List.mem_append.mp p).elim (λq=>?_) λq=>?_
 ·exact x.H m e h q
 ·exact ac (List.mem_singleton.mp q) ⟨a.1,a.2,congrArg Lr.c i⟩
theorem zo (a:jS k) (x:iu k y) {m:Nat} (c:m < 3) (d:y.b m≠[]):ig (y.Ls.map Lr.D) 13 (y.tk m)/\Hk k y.Ls (y.tk m) (y.tr m):=by
 have o:=Hn x c d;have e:(y.tk m).hs.length<=5:=by refine(?_:(y.h m++[_]).length<=5);refine ac Va (ac YT ?_);have:=o.hs;lia
 exact K2 a x.L x.len 13 o.p (by lia) (by lia)
theorem OJ (C:jS k) (x:iu k y) {m:Nat} (w:m < 3) (A:y.b m≠[]):iu k (i7 y m):=by
 refine aN (zo C x w A) λc d=>?_;have s:∀{α:Type} (f:Nat->α) (a:α) (i:Nat),upd f m a i=if i=m then a else f i:=λf a i=>by
  by_cases h:i=m
  ·refine ac (if_pos h) (ac h ?_);exact rq
  ·rw[if_neg h];exact rr h
 have p:∀i,(i7 y m).t i=if i=m then(y.tr m).ts else y.t i:=λi=>s _ _ _;have D:∀i,(i7 y m).v i=if i=m then(y.tr m).v else y.v i:=λi=>s _ _ _;have r:∀i,(i7 y m).b i=if i=m then(y.b m).dropLast else y.b i:=λi=>s _ _ _;have u:∀i,(i7 y m).h i=if i=m then(y.tr m).hs else y.h i:=λi=>s _ _ _;have o:∀i,(((i7 y m).t i++((i7 y m).h i).map Hd.n)++(i7 y m).b i).Perm ((y.t i++(y.h i).map Hd.n)++y.b i):=λi=>by
  rw[p,u,r];by_cases h:i=m
  ·refine ac (if_pos h) ?_;rw[if_pos h,if_pos h,h];exact(d.perm.append_right _).trans (Hn x w A).perm
  ·refine ac (if_neg h) ?_;rw[if_neg h,if_neg h]
 refine⟨x.len,x.L,λi l j h0 E F=>?_,λi l=>?_,λi l z B=>?_,λi l h e=>?_,λi l h e g=>?_,λi l=>(o i).nodup_iff.mpr (x.nd i l),λi l j=>((o i).mem_iff).trans (x.all i l j),λi=>?_⟩
 ·rw[p];have:=x.own i l j h0 E F;by_cases h:i=m
  ·rw[if_pos h];exact d.mono j (by rw[h] at this;exact this)
  ·rw[if_neg h];exact this
 ·rw[p];by_cases h:i=m
  ·rw[if_pos h];exact d.inv.T
  ·rw[if_neg h];exact x.T i l
 ·rw[p,D];by_cases h:i=m
  ·refine ac (if_pos h) ?_;rw[if_pos h];exact d.inv.v z B
  ·refine ac (if_neg h) ?_;rw[if_neg h];exact x.V i l z B
 ·rw[u] at e;by_cases q:i=m
  ·rw[if_pos q] at e;exact d.inv.h h e
  ·rw[if_neg q] at e;exact x.H i l h e
 ·rw[u] at e;rw[p] at g;by_cases q:i=m
  ·rw[if_pos q] at e g;have:=(d.inv.rdy x.L e).mpr g;rw[d.no h e] at this;cases this
  ·rw[if_neg q] at e g;exact x.nr i l h e g
 ·rw[r];have:=x.bl i;by_cases q:i=m
  ·refine ac (if_pos q) ?_;rw[adf,<-q];exact U3 (XK _ _) this
  ·rw[if_neg q];exact this
theorem OL (g:jS k) (h:jt k) (x:iu k y) {m:Nat} (d:m < 3) (a:y.Ls.length < 4):pP k y m:=by
 have e:=D5 x d a;have j:=jw (x.T m d).nd (x.T m d).lo;have l:=e.L y.Ls.length (by lia) (by show(y.Ls.length:Int) < ((y.Ls++[y.new k m]).length:Int);refine ac Va ?_;show _ < ((y.Ls.length+1:Nat):Int);lia);have b:=D6 g e.L e.len (i:=y.Ls.length) (by lia) (by show(y.Ls.length:Int) < ((y.Ls++[y.new k m]).length:Int);refine ac Va ?_;show _ < ((y.Ls.length+1:Nat):Int);lia);rw[show aL (ir k y m).Ls y.Ls.length=y.new k m from D4] at b;have f:∀x,x < 3->0<=(y.lt k m).n x/\(y.lt k m).n x<=999999:=λx c=>by
  rcases(oV c) with rfl|rfl|rfl
  ·exact b 0 c
  ·exact b 1 c
  ·exact b 2 c
 refine⟨(h (y.lt k m) rfl f (by have:=(bb k.c3 (by decide:(0:Int) < 40)).1;lia:10<=10+k.c3.fmod 40)).1,by have:=x.len;lia,λi=>by have:=x.bl i;lia⟩
theorem OM (f:jS k) (i:jt k) (j:∃n:Nat,k.W=(n:Int)/\22<=n/\n<=100) (x:iu k y) {m:Nat} (g:m < 3) (h:y.b m≠[]):pQ k y m:=by
 have o:=Hn x g h;have q:=o.hs;have r:=o.b;have l:10<=10+k.c3.fmod 40:=by have:=(bb k.c3 (by decide:(0:Int) < 40)).1;lia
 have e:=D6 f x.L x.len o.num.1 o.num.2;have p:=(x.L _ o.num.1 o.num.2).t;refine⟨by lia,by lia,Jf o.num.1 o.num.2 x.len,?_,j,(zo f x g h).1⟩;refine ac o.got (ac p ?_);refine(i ⟨(aL y.Ls (y.num m)).c.a,(aL y.Ls (y.num m)).c.b,(aL y.Ls (y.num m)).c.c,(aL y.Ls (y.num m)).w,10+k.c3.fmod 40,k.L⟩ rfl (λx d=>?_) l).2;rcases(oV d) with rfl|rfl|rfl
 ·exact e 0 d
 ·exact e 1 d
 ·exact e 2 d
end
end
section
section
variable {k:aY} {y:Dy}
theorem Ho (c:jS k) (e:jt k) (f:∃n:Nat,k.W=(n:Int)/\22<=n/\n<=100) (x:iu k y) {d:Nat} (hd:d < 6):wW k y d/\iu k (dC k y d):=by
 have w:∀m,m < 3->(y.Ls.length < 4->pP k y m)/\iu k (if y.Ls.length < 4 then ir k y m else y):=λm a=>⟨λh=>OL c e x a h,by
  by_cases h:y.Ls.length < 4
  ·refine ac (if_pos h) ?_;exact D5 x a h
  ·refine ac (if_neg h) ?_;exact x⟩
 have o:∀m,m < 3->(y.b m≠[]->pQ k y m)/\iu k (if y.b m=[] then y else i7 y m):=λm a=>⟨λh=>OM c e f x a h,by
  by_cases h:y.b m=[]
  ·refine ac (if_pos h) ?_;exact x
  ·refine ac (if_neg h) ?_;exact OJ c x a h⟩
 rcases(by lia:d=0∨d=1∨d=2∨d=3∨d=4∨d=5) with rfl|rfl|rfl|rfl|rfl|rfl
 ·exact w 0 (by decide)
 ·exact w 1 (by decide)
 ·exact w 2 (by decide)
 ·exact o 0 (by decide)
 ·exact o 1 (by decide)
 ·exact o 2 (by decide)
theorem zp (a:jS k) (b:jt k) (c:∃n:Nat,k.W=(n:Int)/\22<=n/\n<=100) (ds:List Nat) {y:Dy} (h:∀d∈ds,d < 6) (x:iu k y):lV k y ds/\iu k (ds.foldl (dC k) y):=by
 induction ds generalizing y with
 |nil=>exact⟨trivial,x⟩
 |cons d r f=>
  refine aN (Ho a b c x (h d (.head _))) λg i=>(aN (f (λe j=>h e (.tail _ j)) i) λl m=>?_)
  exact⟨⟨h d (.head _),g,l⟩,m⟩
theorem Hp (d m:Nat) (hd:d < 3):((dC k y (d+3)).b m).length=(if m=d then(y.b m).length - 1 else(y.b m).length):=by
 have o:((if y.b d=[] then y else i7 y d).b m).length=(if m=d then(y.b m).length - 1 else(y.b m).length):=by
  by_cases h:y.b d=[]
  ·refine ac (if_pos h) ?_;by_cases q:m=d
   ·refine ac (if_pos q) (ac q (ac h ?_));rfl
   ·exact ac (if_neg q) rfl
  ·refine ac (if_neg h) ?_;by_cases q:m=d
   ·refine ac (if_pos q) (ac q ?_);refine(?_:(upd y.b d (y.b d).dropLast d).length=_);exact ac rq (ac adf rfl)
   ·refine ac (if_neg q) (?_:(upd y.b d (y.b d).dropLast m).length=_);exact ac (rr q) rfl
 rcases(oV hd) with rfl|rfl|rfl<;>exact o
theorem uK (d:Nat):(dC k y (d+3)).Ls=y.Ls:=by
 have o:∀m,(if y.b m=[] then y else i7 y m).Ls=y.Ls:=λm=>by
  by_cases h:y.b m=[]
  ·exact ac (if_pos h) rfl
  ·refine ac (if_neg h) ?_;rfl
 rcases(by lia:d=0∨d=1∨2<=d) with rfl|rfl|h
 ·exact o 0
 ·exact o 1
 ·obtain⟨e,rfl⟩:∃e,d=e+2:=⟨d - 2,(Wp h).symm⟩
  exact o 2
def sO (k:aY) (y:Dy):Dy:=dC k (dC k (dC k y 3) 4) 5
theorem rt (m:Nat) (a:m < 3):((sO k y).b m).length=(y.b m).length - 1:=by refine(?_:((dC k _ (2+3)).b m).length=_);refine ac (Hp 2 m (by decide)) (ac (show(4:Nat)=1+3 from rfl) (ac (Hp 1 m (by decide)) (ac (show(3:Nat)=0+3 from rfl) (ac (Hp 0 m (by decide)) ?_))));rcases(oV a) with rfl|rfl|rfl<;>rfl
theorem D7 (x:iu k y) {m:Nat} (l:m < 3) (p:y.b m=[]):y.h m=[]:=by
 have f:∀n:Nat,∀h∈y.h m,h.n.toNat≠n:=λn=>by
  induction n using Nat.strongRecOn with
  |ind n s=>
   intro h o e;refine b9 (x.H m l h o) λh0 t a=>(x.nr m l h o λj u=>?_)
   have c:=(x.L h.n h0 t).lo j u;have i:=(x.all m l j).mpr ⟨c.1,by lia⟩;simp only[p,VY] at i;rcases List.mem_append.mp i with q|q
   ·exact q
   ·refine aj (List.mem_map.mp q) λg v d=>(ac d ?_)
    exact absurd rfl (s g.n.toNat (e▸(WY (d▸c.1)).mpr (Xm (d▸c.2) (Int.self_le_toNat _))) g v)
 induction e:y.h m with
 |nil=>rfl
 |cons h r=>exact absurd rfl (f h.n.toNat h ((e).symm▸(.head _)))
end
end
section
theorem iN (a m:Int) (r:List Int):bB (a::r) m=(if a=m then 1 else 0)+bB r m:=by
 refine(?_:(match decide (a=m) with|true=>1+bB r m|false=>bB r m)=_);by_cases h:a=m
 ·exact ac (decide_eq_true h) (ac (if_pos h) rfl)
 ·refine ac (decide_eq_false h) (ac (if_neg h) ?_);exact(aat _).symm
theorem Bz (m:Int) (a b:List Int):bB (a++b) m=bB a m+bB b m:=by
 induction a with
 |nil=>exact(aat _).symm
 |cons a r c=>exact(iN ..).trans ((congrArg _ c).trans ((Int.add_assoc ..).symm.trans (congrArg (· +bB b m) (iN ..).symm)))
theorem j9 (m:Int) (a:List Int):0<=bB a m/\bB a m<=a.length:=by
 induction a with
 |nil=>exact⟨YD 0,YD 0⟩
 |cons a r h=>
  refine ac (iN ..) ?_;have b:((a::r).length:Int)=1+r.length:=(abZ ..).trans (abl ..);refine ac b ?_;by_cases e:a=m
  ·exact ac (if_pos e) ⟨W5 (by decide) h.1,adB h.2 1⟩
  ·exact ac (if_neg e) ⟨W5 (by decide) h.1,aaP (by decide) h.2⟩
theorem lY (m:Int) {a:List Int} (h:m∈a):1<=bB a m:=by
 induction a with
 |nil=>exact nomatch h
 |cons a r b=>
  refine ac (iN ..) ?_;by_cases e:a=m
  ·exact ac (if_pos e) (ZN (j9 m r).1)
  ·exact ac (if_neg e) (ac (aat _) ((List.mem_cons.mp h).elim (λq=>absurd q.symm e) b))
noncomputable def xx (n:Nat):List Int:=(Wb n).map λi:Nat=>(i:Int)
theorem zq {n:Nat} {j:Int}:j∈xx n↔0<=j/\j < n:=by unfold xx;rw[List.mem_map];exact⟨λa=>aj a λi h e=>by have:=List.mem_range.mp h;exact e▸⟨Vr _,Int.ofNat_lt.mpr this⟩,λh=>(aA j.toNat (List.mem_range.mpr ((WY h.1).mpr h.2)) (VP h.1))⟩
theorem ON (n:Nat):(xx n).Nodup:=ab4 _ (λa b h e=>h (by lia)) List.nodup_range
theorem OP (Ls:List Lr) (x n:Nat) (h:n<=Ls.length):(dX Ls (xx n) x:Int)=bB ((Ls.take n).map Lr.s) x:=by
 induction n with
 |zero=>rfl
 |succ n b=>
  have a:=xt (Ls:=Ls) (i:=(n:Int)) (Vr _) (Int.ofNat_lt.mpr h);rw[Vz] at a;refine ac (show xx (n+1)=xx n++[(n:Int)] from(congrArg (YL _) List.range_succ).trans V5) ?_;rw[pT,List.take_add_one,a,V5,Bz,abZ];refine ac (b (abp h)) (congrArg _ ?_);refine(?_:_=(match decide ((aL Ls (n:Int)).s=(x:Int)) with|true=>(1:Int)+0|false=>0));by_cases q:(aL Ls (n:Int)).s=(x:Int)
  ·exact ac (if_pos q) (ac (decide_eq_true q) rfl)
  ·exact ac (if_neg q) (ac (decide_eq_false q) rfl)
theorem K3 {T:List Int} (nd:T.Nodup) (h:∀i:Int,i∈T↔0<=i/\i < Ls.length) (x:Nat):(dX Ls T x:Int)=bB (Ls.map Lr.s) x:=by exact ac (Yy (ot nd λj b a=>zq.mpr ((h j).mp b)) (ot (ON _) λj b a=>(h j).mpr (zq.mp b)):dX Ls T x=dX Ls (xx Ls.length) x) (ac (OP Ls x _ (Vt _)) (ac Z6 rfl))
section
variable {k:aY} {y:Dy}
theorem QF (x:iu k y) {m z:Nat} (a:m < 3) (hz:z < 3) (c:y.b m=[]):(y.v m).at z=k.s.at z+bB (jf y) z:=by have h:=x.all m a;simp only[c,(D7 x a c)] at h;refine ac (x.V m a z hz) ?_;rw[K3 (x.T m a).nd (λi=>by have:=h i;simpa using this)];rfl
theorem oy:(sO k y).Ls=y.Ls:=(uK 2).trans ((uK 1).trans (uK 0))
structure T8 (k:aY):Prop where
 ok:lV k (oY k) (ik k.c0)
 v:∀m z,m < 3->z < 3->((bo k).v m).at z=k.s.at z+bB (jf (bo k)) z
 len:1<=(bo k).Ls.length/\(bo k).Ls.length<=4
 s:∀s∈jf (bo k),0<=s/\s < 3
theorem D8 (d:Nat):y.Ls.length<=(dC k y d).Ls.length:=by
 have w:∀m,y.Ls.length<=(if y.Ls.length < 4 then ir k y m else y).Ls.length:=λm=>by
  by_cases h:y.Ls.length < 4
  ·refine ac (if_pos h) ?_;show _<=(y.Ls++[_]).length;refine ac Va ?_;lia
  ·refine ac (if_neg h) ?_;exact Vt _
 rcases(by lia:d=0∨d=1∨d=2∨3<=d) with rfl|rfl|rfl|h
 ·exact w 0
 ·exact w 1
 ·exact w 2
 ·obtain⟨e,rfl⟩:∃e,d=e+3:=⟨d - 3,(Wp h).symm⟩
  rw[uK];exact Vt _
theorem Ea (ds:List Nat) {y:Dy}:y.Ls.length<=(ds.foldl (dC k) y).Ls.length:=by
 induction ds generalizing y with
 |nil=>exact Vt _
 |cons d r a=>exact U3 (D8 d) a
theorem Jh (f:Int):∀d∈(d9 f).map XU,d < 6:=λd g=>by
 refine aj (List.mem_map.mp g) λe b c=>(aD c ?_)
 have:e < 6:=by unfold d9 at b;simp only[WL,WT,or_false] at b;rcases b with h|h|h|h|h|h|h|h|h<;>rw[h]<;>first|exact(λa=>XH (bb a (by decide:(0:Int) < 3)).2 (by decide):∀a:Int,a.fmod 3 < 6) _|exact(λa=>(bb a (by decide:(0:Int) < 6)).2:∀a:Int,a.fmod 6 < 6) _
 lia
theorem QG (j:jS k) (l:jt k) (o:∃n:Nat,k.W=(n:Int)/\22<=n/\n<=100):T8 k:=by
 have t:ik k.c0=(d9 k.c0).map XU++[3,4,5,3,4,5,3,4,5,3,4,5]:=by unfold ik ii;refine ac V5 ?_;rfl
 have f:∀d∈ik k.c0,d < 6:=λd h=>by
  simp only[t] at h;refine(List.mem_append.mp h).elim (λq=>?_) λq=>?_
  ·exact Jh _ d q
  ·have:∀d∈[3,4,5,3,4,5,3,4,5,3,4,5],d < 6:=by decide
   exact this d q
 refine aN (zp j l o _ f (OH k)) λy A=>(aN (zp j l o _ (Jh k.c0) (OH k)) λa u=>?_)
 have v:bo k=sO k (sO k (sO k (sO k (((d9 k.c0).map XU).foldl (dC k) (oY k))))):=by unfold bo;refine ac t (ac WS ?_);rfl
 have B:∀m,m < 3->(bo k).b m=[]:=λm c=>by refine List.length_eq_zero_iff.mp (ac v (ac (rt m c) (ac (rt m c) (ac (rt m c) (ac (rt m c) ?_)))));exact Xo (m:=4) (U3 (u.bl m) u.len)
 have e:iu k (bo k):=A;refine⟨y,λm z c C=>QF e c C (B m c),⟨?_,e.len⟩,λs D=>?_⟩
 ·refine ac v (ac oy (ac oy (ac oy (ac oy ?_))));have E:1<=(dC k (oY k) (k.c0.fmod 3).toNat).Ls.length:=by have:=bb k.c0 (by decide:(0:Int) < 3);rcases(yc (p:=λi=>i=0∨i=1∨i=2) ((WY this.1).mpr this.2) (.inl rfl) (.inr (.inl rfl)) (.inr (.inr rfl)):(k.c0.fmod 3).toNat=0∨(k.c0.fmod 3).toNat=1∨(k.c0.fmod 3).toNat=2) with h|h|h<;>(exact ac h (Vt 1))
  exact U3 E (Ea _)
 ·refine aj (List.mem_map.mp D) λr F g=>(aD g ?_)
  obtain⟨n,w⟩:=List.mem_iff_getElem?.mp F;have x:n < (bo k).Ls.length:=bn w;have:=xt (Ls:=(bo k).Ls) (i:=(n:Int)) (Vr _) (Int.ofNat_lt.mpr x);simp only[Vz,w] at this;exact ac (U2 this) ((e.L n (Vr _) (Int.ofNat_lt.mpr x)).s)
end
end
theorem zr (w:Int):∀as bs:List Int,as.length=bs.length->ek w (acM (· +·) as bs)=ek w as+ek w bs
 |[],[],_=>rfl
 |[],_::_,h=>nomatch h
 |_::_,[],h=>nomatch h
 |a::r,b::q,h=>by refine(?_:ek w (acM (· +·) r q)*2^w.toNat+(a+b)=(ek w r*2^w.toNat+a)+(ek w q*2^w.toNat+b));refine ac (zr w r q (XC h)) ?_;rw[ZU];lia
theorem zt {n d:Nat} (hd:1<=d):∀r:List Nat,2^(r.length*n)<=dP n (r++[d])
 |[]=>by show 2^(0*n)<=0*2^n+d;rw[ZC,ZC,aav];exact hd
 |a::r=>by refine ac VD ?_;rw[YH,XF,XE];refine(?_:_<=dP n (r++[d])*2^n+a);exact U3 (Xy _ (zt (n:=n) hd r)) (Vo _ _)
theorem pU {n:Nat}:∀(r:List Nat) (m:Nat),dP n (r++Wa m 0)=dP n r
 |[],0=>rfl
 |[],m+1=>by have:=pU (n:=n) [] m;refine(?_:dP n (Wa m 0)*2^n+0=0);refine ac (show dP n (Wa m 0)=0 from this) ?_;rw[ZC]
 |a::r,m=>by show dP n (r++Wa m 0)*2^n+a=dP n r*2^n+a;exact ac (pU r m) rfl
structure OQ (n:Nat) (x:Nat) (D9:List Nat) (ds:List Nat):Prop where
 len:ds.length<=9/\7<=ds.length
 dig:cP (x:Int) (n:Int)=(ds.length:Int)
 cut:cV x n ds.length=ds.map λj:Nat=>(j:Int)
 pad:(ds.map λj:Nat=>(j:Int))++rep (9 - ds.length) [0]=D9.map λj:Nat=>(j:Int)
 top:(!eO (jm (ds.map λj:Nat=>(j:Int))) [0])=UZ
 lt:x < 2^(9*n)
theorem tG (a:Int):∀r:List Int,jm (r++[a])=[a]
 |[]=>rfl
 |[b]=>rfl
 |b::c::r=>tG a (c::r)
theorem sP {n:Nat} (i:22<=n) {a r:List Nat} {d:Nat} (l:a.length=9) (e:a=(r++[d])++Wa (9 - (r.length+1)) 0) (hd:1<=d) (t:6<=r.length) (c:∀x∈a,x < 2^22):OQ n (dP n a) a (r++[d]):=by
 have b:(r++[d]).length=r.length+1:=ac Va rfl;have o:r.length+1<=9:=by have:=congrArg Xd e;rw[l,Va,b] at this;lia
 have f:dP n a=dP n (r++[d]):=ac e (pU _ _);have k:∀x∈r++[d],x < 2^n:=λx p=>Vs (c x (ac e (List.mem_append.mpr (.inl p)))) (WR (by decide) i);have g:=wM k;rw[b] at g;refine⟨by refine(b).symm▸ ?_;lia,?_,?_,?_,?_,?_⟩
 ·refine ac f (ac b ?_);exact wN (Vn (Wr _ _) i) g (zt hd r)
 ·refine ac f ?_;exact wL k
 ·refine ac b (Eq.trans ?_ (congrArg (YL λj:Nat=>(j:Int)) e.symm));refine ac (V5 (l₁:=r++[d])) ?_;congr 1;have:∀m:Nat,rep m [(0:Int)]=(Wa m 0).map λj:Nat=>(j:Int):=λm=>by
   induction m with
   |zero=>rfl
   |succ m q=>show[(0:Int)]++rep m [0]=_;refine ac q ?_;rfl
  exact this _
 ·refine ac V5 (?_:(!eO (jm ((r.map λj:Nat=>(j:Int))++[(d:Int)])) [0])=UZ);rw[tG];have:eO [(d:Int)] [0]=U0:=Bool.eq_false_iff.mpr λh=>by have s:=JU.mp h;simp only[List.cons.injEq,and_true] at s;lia
  refine ac this ?_;rfl
 ·exact ac f (Vs g (WR (by decide) (Xy _ o)))
theorem Hq {n:Nat} (f:22<=n) (a b c:Nat) (h:1<=a+b+c) (k:a<=4) (l:b<=4) (m:c<=4):∃ds,OQ n (dP n [a,b,c,a,b,c,a,b,c]) [a,b,c,a,b,c,a,b,c] ds:=by
 have e:∀x∈[a,b,c,a,b,c,a,b,c],x < 2^22:=λx g=>by
  simp only[WL,WT,or_false] at g;have:(4:Nat) < 2^22:=by decide
  rcases g with rfl|rfl|rfl|rfl|rfl|rfl|rfl|rfl|rfl<;>lia
 by_cases i:1<=c
 ·exact⟨_,sP f (r:=[a,b,c,a,b,c,a,b]) (d:=c) rfl rfl i (show 6<=8 by decide) e⟩
 ·have:c=0:=by lia
  subst this;by_cases j:1<=b
  ·exact⟨_,sP f (r:=[a,b,0,a,b,0,a]) (d:=b) rfl rfl j (show 6<=7 by decide) e⟩
  ·have:b=0:=by lia
   subst this;exact⟨_,sP f (r:=[a,0,0,a,0,0]) (d:=a) rfl rfl (h) (show 6<=6 by decide) e⟩
theorem Rt (l:List Int):jS (dE l):=λx c=>by
 have a:=bb ((jk l 2).fdiv 90) (by decide:(0:Int) < 9000);have b:=bb (jk l 1) (by decide:(0:Int) < 900000);rcases(oV c) with rfl|rfl|rfl
 ·exact⟨(bb (jk l 2) (by decide:(0:Int) < 90)).1,VN (Wy (bb (jk l 2) (by decide:(0:Int) < 90)).2) (by decide)⟩
 ·exact⟨a.1,by show((jk l 2).fdiv 90).fmod 9000<=900000;exact VN (Wy a.2) (by decide)⟩
 ·exact⟨b.1,by show(jk l 1).fmod 900000<=900000;exact Wy b.2⟩
theorem OS (l:List Int):∃n:Nat,dD l=(n:Int)/\22<=n/\n<=81:=by have h:=bb ((jk l 3).fdiv 40) (by decide:(0:Int) < 60);exact cE ((dD l).toNat) (VP (W5 (by decide) h.1)).symm ((Int.le_toNat (W5 (by decide) h.1)).mpr (ZN h.1)) (Int.toNat_le.mpr (VN (adB (Zh (b:=59) h.2) 22) (by decide)))
theorem xy (l:List Int):pS l=g8 (il l):=(DZ (xn (il l))).2
structure T9 (l:List Int):Prop where
 all:ao (Jc l++(Jd l++Je (fQ l) (jf (bo (dE l)))))
 yes:eO (fQ l++nz (fQ l)) (xm (jf (bo (dE l))))=UZ
theorem OT {p:Int->Prop} {a b c:Int} (e:p a) (f:p b) (g:p c):∀x∈[a,b,c,a,b,c,a,b,c],p x:=λx d=>by simp only[WL,Z8,or_false] at d;rcases d with rfl|rfl|rfl|rfl|rfl|rfl|rfl|rfl|rfl<;>assumption
theorem Ji {x:Int} {a n m:Nat} (e:x=a) (c:0<=x/\x<=n) (h:n=m) (b:1<=m/\m<=4):a<=4:=U3 (Int.ofNat_le.mp (e▸c.2)) (h▸b.2)
theorem OU {s x:Int} {a n m:Nat} (k:0<=s/\s<=900000) (e:x=a) (c:0<=x/\x<=n) (h:n=m) (b:1<=m/\m<=4):s+a<=1000000:=VN (aaP k.2 (Int.ofNat_le.mpr (Ji e c h b))) (by decide)
theorem QH (l:List Int) (hl:l.length<=63) (X:jt (dE l)):T9 l:=by
 refine ca (OS l) λn E F Y=>?_;have D:=QG (Rt l) X (cE n E F (by lia));generalize k:jf (bo (dE l))=S;have f:S.length=(bo (dE l)).Ls.length:=(k)▸(VA ..);have M:=j9 0 S;have N:=j9 1 S;have O:=j9 2 S;have B:=D.len;obtain⟨a,G⟩:=VZ M.1;obtain⟨b,H⟩:=VZ N.1;obtain⟨c,I⟩:=VZ O.1;have J:1<=a+b+c:=by
  obtain⟨s,r,e⟩:∃s r,S=s::r:=match S,(λe=>by rw[e] at f;have:(0:Nat)=_:=f;lia:S≠[]) with
   |s::r,_=>(sU s r rfl)
  have hs:=D.s s (ac k (ac e (.head _)));rcases(by lia:s=0∨s=1∨s=2) with q|q|q
  ·have:=lY 0 (a:=S) (ac e (ac q (.head _)));exact U3 (Int.ofNat_le.mp (G▸this)) (U3 (Vo _ _) (Vo _ _))
  ·have:=lY 1 (a:=S) (ac e (ac q (.head _)));exact U3 (Int.ofNat_le.mp (H▸this)) (U3 (Wr _ _) (Vo _ _))
  ·have:=lY 2 (a:=S) (ac e (ac q (.head _)));exact U3 (Int.ofNat_le.mp (I▸this)) (Wr _ _)
 obtain⟨ds,T⟩:=Hq F a b c J (Ji G M f B) (Ji H N f B) (Ji I O f B);have C:∀m,m < 3->((bo (dE l)).v m).l=[(cH l).a+a,(cH l).b+b,(cH l).c+c]:=λm P=>by have U:=D.v m 0 P (by decide);have V:=D.v m 1 P (by decide);have W:=D.v m 2 P (by decide);rw[k] at U V W;refine(?_:[((bo (dE l)).v m).at 0,((bo (dE l)).v m).at 1,((bo (dE l)).v m).at 2]=_);refine ac U (ac V (ac W ?_));refine(?_:[_+bB S 0,_+bB S 1,_+bB S 2]=_);refine ac G (ac H (ac I ?_));rfl
 have y:js (bo (dE l))=acM (· +·) (rep 3 (cH l).l) ([a,b,c,a,b,c,a,b,c].map λj:Nat=>(j:Int)):=by unfold js;refine ac (C 0 (by decide)) (ac (C 1 (by decide)) (ac (C 2 (by decide)) ?_));rfl
 have g:ku l=((dP n [a,b,c,a,b,c,a,b,c]:Nat):Int):=by unfold ku;refine ac y ?_;rw[zr (dD l) (rep 3 (cH l).l) ([a,b,c,a,b,c,a,b,c].map λj:Nat=>(j:Int)) rfl,E,sG];lia
 have h:fQ l=ds.map λj:Nat=>(j:Int):=by unfold fQ;refine ac g ?_;rw[E,T.dig,Vz,Vz,Vz];exact T.cut
 have d:(fQ l).length=ds.length:=by refine ac h ?_;rw[VA]
 have K:nz (fQ l)=rep (9 - ds.length) [0]:=by unfold nz;refine(d).symm▸ ?_;have:=T.len;congr 1;exact Xf 9 _
 have u:fQ l++nz (fQ l)=xm S:=by refine ac K (ac h (ac T.pad ?_));unfold xm;refine ac G (ac H (ac I ?_));rfl
 have Q:∀x,x < 3->0<=(cH l).at x/\(cH l).at x<=900000:=(Rt l)
 have Z:=Q 1 (by decide);have k2:=Q 2 (by decide);have i:∀z:Int,0<=z->z<=1000000->z.natAbs < 2^100:=λz h0 h1=>by exact Vn (show z.natAbs<=1000000 from Int.ofNat_le.mp (ac (adq h0) h1)) (by decide)
 have R:=T.lt;have A:dP n [a,b,c,a,b,c,a,b,c] < 2^1000:=Vs R (WR (by decide) (by lia));refine⟨af.mpr ⟨?_,af.mpr ⟨?_,?_⟩⟩,?_⟩
 ·exact⟨⟨rfl,rfl,hl⟩,⟨by decide,by decide⟩,by decide,⟨rfl,rfl,DY _⟩,⟨rfl,rfl,(DZ (xn (il l))).1⟩,⟨iI _,iI _⟩,by rw[xy,jQ];rfl,⟨by decide,by decide⟩,by decide,⟨by decide,by decide⟩,by decide,by decide,⟨by decide,by decide⟩,by decide,by decide,⟨by decide,by decide⟩,by decide,by decide,trivial⟩
 ·have o:0<=(cH l).a/\(cH l).a<=900000:=(Q 0 (by decide))
  have p:0<=(cH l).b/\(cH l).b<=900000:=Z;have t:0<=(cH l).c/\(cH l).c<=900000:=k2;have L:js (bo (dE l))=[(cH l).a+a,(cH l).b+b,(cH l).c+c,(cH l).a+a,(cH l).b+b,(cH l).c+c,(cH l).a+a,(cH l).b+b,(cH l).c+c]:=by unfold js;refine ac (C 0 (by decide)) (ac (C 1 (by decide)) (ac (C 2 (by decide)) ?_));rfl
  refine⟨⟨rfl,rfl,D.ok⟩,rfl,⟨by decide,by decide⟩,⟨by decide,by decide⟩,by decide,⟨by decide,by decide⟩,by decide,⟨rfl,rfl,congrArg Xd L,by lia,by lia,L▸OT (i _ (W5 o.1 (Vr _)) (OU o G M f B)) (i _ (W5 p.1 (Vr _)) (OU p H N f B)) (i _ (W5 t.1 (Vr _)) (OU t I O f B))⟩,by decide,⟨rfl,rfl,rfl,by lia,by lia,OT (i _ o.1 (VN o.2 (by decide))) (i _ p.1 (VN p.2 (by decide))) (i _ t.1 (VN t.2 (by decide)))⟩,⟨rfl,rfl,?_,by lia,by lia,?_,?_,?_⟩,trivial⟩
  ·refine(g).symm▸ ?_;lia
  ·refine(g).symm▸ ?_;exact A
  ·refine ac g (ac E (ac T.dig ?_));lia
  ·refine ac g (ac E (ac T.dig ?_));have:=T.len;lia
 ·have t9:=T.len;have w:=T.top;rw[<-h] at w;have hp:(nz (fQ l)).length<=9:=by have:=congrArg Xd u;rw[Va] at this;have h9:(xm S).length=9:=rfl;lia
  refine(k).symm▸ ?_;refine⟨by refine ac d (ac VO ?_);lia,by decide,⟨iI _,rfl⟩,w,by decide,by refine(d).symm▸ ?_;lia,⟨by refine(d).symm▸ ?_;lia,by refine(d).symm▸ ?_;lia,ac d (ac VO (ac (XF _) (ac (Xf 9 _) (U3 (XK _ _) (by decide)))))⟩,by refine ac d (ac VO ?_);lia,rfl,rfl,by decide,rfl,by decide,rfl,by decide,rfl,by decide,⟨iI _,rfl⟩,trivial⟩
 ·refine ac k (ac u ?_);exact jQ _
abbrev QI:Sp:=fW (X:=List Int) (λvs=>cr (nV vs 0)) (λl=>[.dat (.ints l)]) (λa=> .bool UZ) λl=>l.length<=63/\jt (dE l)
theorem OV (f:cR J):aX (Wz J w) 28 306 QI:=
 dq (X:=List Int) (lev:=24) (k:=2) (T:=uv) (Tb:=Jb w.params) (defs:=[]) (spS:=λa a=>bk) (spE:=λa a=>br) Io rfl rfl (λa h=>nomatch h) (c8 Io)
  (λg os A b c=>⟨bW (fd:=uk) (by rfl') (dH (Gg J w) (by decide)) b c,bW (fd:=ul) (by rfl') (dH (CX J w) (by decide)) b c,bW (fd:=uo) (by rfl') (dH (Hf J w) (by decide)) b c,
   bW (fd:=qP) (by rfl') (Ou f) b c,bW (fd:=r8) (by rfl') (dH (Ko J w) (by decide)) b c,bW (fd:=rZ) (by rfl') (dH (KW J w) (by decide)) b c,trivial⟩)
  (λa a a a a a a a a a a a a=>dw) λl d=>by
  have h:=QH l d.1 d.2
  have e:=KY w.params l
  rw[h.yes] at e
  exact⟨60,_,_,e,h.all,rfl⟩
structure LS where
 e:Bool
 q:Bool
 part:List Nat
 xs:List (List Nat)
noncomputable def bO (h:LS) (c:Nat):LS:=match h.e,h.q with
 |true,q=>⟨U0,q,h.part++[c],h.xs⟩
 |false,UZ=>if c=92 then⟨UZ,UZ,h.part,h.xs⟩ else if c=34 then⟨U0,U0,h.part++[c],h.xs⟩ else⟨U0,UZ,h.part++[c],h.xs⟩
 |false,U0=>if c=44 then⟨U0,U0,[],h.xs++[h.part]⟩ else if c=34 then⟨U0,UZ,h.part++[c],h.xs⟩ else⟨U0,U0,h.part++[c],h.xs⟩
def HS.L (h:HS):LS:=⟨h.e,h.q,al h.part,h.xs.map al⟩
theorem Eb {s:Vd} {c:Nat} (h:(al s)[i]?=UX c):cz s i=⟨#[c]⟩:=by have a:=gK (d:=0) (bn h);rw[h] at a;refine(?_:(⟨#[ay 0 (al s) i]⟩:Vd)=_);exact aD (U2 a) rfl
theorem xA:∀{xs ys:List Vd},xs.map al=ys.map al->xs=ys
 |[],[],_=>rfl
 |[],_::_,h=>nomatch h
 |_::_,[],h=>nomatch h
 |a::r,b::q,h=>ac (fN (Yd h).1) (ac (xA (Yd h).2) rfl)
theorem ru (c d:Nat):sq ⟨#[c]⟩ ⟨#[d]⟩=decide (c=d):=by
 by_cases h:c=d
 ·refine ac h (ac (decide_eq_true rfl) ?_);exact bS.mpr rfl
 ·refine ac (decide_eq_false h) (cg.mpr λe=>h ?_);have:=congrArg al e;exact(Yd this).1
theorem OW (h:HS) (c:Nat):(hU ⟨#[c]⟩ h).L=bO h.L c:=by
 obtain⟨e,q,part,g⟩:=h;have f:sq ⟨#[c]⟩ "\""=decide (c=34):=ru c 34;have d:al (part++⟨#[c]⟩)=al part++[c]:=aO _ _;unfold hU bO HS.L;induction e with
 |true=>dsimp only;rw[d]
 |false=>
  induction q with
  |true=>
   dsimp only;refine ac (ru c 92:sq ⟨#[c]⟩ "\\"=decide (c=92)) (ac f ?_);by_cases a:c=92
   ·exact ac (decide_eq_true a) (ac (if_pos a) rfl)
   ·refine ac (decide_eq_false a) (ac (if_neg a) ?_);by_cases b:c=34
    ·refine ac (decide_eq_true b) (ac (if_pos b) ?_);dsimp only;exact ac d rfl
    ·refine ac (decide_eq_false b) (ac (if_neg b) ?_);dsimp only;exact ac d rfl
  |false=>
   dsimp only;refine ac (ru c 44:sq ⟨#[c]⟩ ","=decide (c=44)) (ac f ?_);by_cases a:c=44
   ·refine ac (decide_eq_true a) (ac (if_pos a) ?_);dsimp only;refine ac V5 ?_;rfl
   ·refine ac (decide_eq_false a) (ac (if_neg a) ?_);by_cases b:c=34
    ·refine ac (decide_eq_true b) (ac (if_pos b) ?_);dsimp only;exact ac d rfl
    ·refine ac (decide_eq_false b) (ac (if_neg b) ?_);dsimp only;exact ac d rfl
theorem QJ (s:Vd) (r:List Nat) (i:Nat) (h:HS) (a:∀j,j < r.length->(al s)[i+j]?=r[j]?):(ng s i r.length h).L=r.foldl bO h.L:=by
 induction r generalizing i h with
 |nil=>rfl
 |cons c r b=>refine(?_:(ng s (i+1) r.length (hU (cz s i) h)).L=r.foldl bO (bO h.L c));refine ac (b (i+1) _ (λj d=>ac (VW i 1 j) (a (j+1) (abF d)))) ?_;rw[Eb (show(al s)[i]?=UX c from a 0 (Wx _)),OW]
theorem L_inj {a b:HS} (h:a.L=b.L):a=b:=by
 obtain⟨e,q,p,i⟩:=a;obtain⟨j,k,l,c⟩:=b;have m:=congrArg LS.part h;have n:=congrArg LS.xs h;have d:e=j:=(congrArg LS.e h)
 have f:q=k:=(congrArg LS.q h)
 have g:i=c:=xA n;exact ac d (ac f (ac (fN m:p=l) (ac g rfl)))
theorem K4 (s:Vd) (h:HS):(ng s 0 s.length h).L=(al s).foldl bO h.L:=by
 have:=QJ s (al s) 0 h λj a=>by rw[aav]
 rwa[aH] at this
theorem pW:∀(a:List Nat) (p:List Nat) (xs:List (List Nat)),(∀c∈a,c≠44/\c≠34)->a.foldl bO ⟨U0,U0,p,xs⟩=⟨U0,U0,p++a,xs⟩
 |[],p,xs,_=>by rw[VY];rfl
 |c::r,p,xs,h=>by
  refine aN (h c (.head _)) λb e=>(?_:r.foldl bO (if c=44 then _ else if c=34 then _ else⟨U0,U0,p++[c],xs⟩)=_)
  refine ac (if_neg b) ?_;rw[if_neg e,pW r _ _ (λd f=>h d (.tail _ f)),Vk];rfl
theorem zu:∀(a:List Nat) (p:List Nat) (xs:List (List Nat)),(∀c∈a,c≠92/\c≠34)->a.foldl bO ⟨U0,UZ,p,xs⟩=⟨U0,UZ,p++a,xs⟩
 |[],p,xs,_=>by rw[VY];rfl
 |c::r,p,xs,h=>by
  refine aN (h c (.head _)) λb e=>(?_:r.foldl bO (if c=92 then _ else if c=34 then _ else⟨U0,UZ,p++[c],xs⟩)=_)
  refine ac (if_neg b) ?_;rw[if_neg e,zu r _ _ (λd f=>h d (.tail _ f)),Vk];rfl
noncomputable def rv (a:List Nat):List Nat:=(a.map λc=>[92,c]).flatten
theorem xB:∀(a:List Nat) (p:List Nat) (xs:List (List Nat)),(rv a).foldl bO ⟨U0,UZ,p,xs⟩=⟨U0,UZ,p++a,xs⟩
 |[],p,xs=>by rw[VY];rfl
 |c::r,p,xs=>by refine(?_:(rv r).foldl bO (bO (bO ⟨U0,UZ,p,xs⟩ 92) c)=_);have:bO (bO ⟨U0,UZ,p,xs⟩ 92) c=⟨U0,UZ,p++[c],xs⟩:=rfl;refine ac this ?_;rw[xB r,Vk];rfl
theorem jT (x:Vd) (l u:Option Int):Wt x l u=StrLaws.sliceText x l u:=rfl
theorem sQ {x:Vd} {a b:Nat} (c:a<=b) (d:b<=x.length):al (Wt x (UX (a:Int)) (UX (b:Int)))=((al x).drop a).take (b - a):=by rw[jT];refine ac (StrLaws.sliceText_nat x c d) ?_;exact List.toList_toArray
theorem OX {x:Vd} {s:Nat} (h0:0 < s) (h:s<=x.length):al (Wt x UY (UX (-(s:Int))))=(al x).take (x.length - s):=by rw[jT];refine ac (StrLaws.sliceText_to_neg (by lia) (by lia)) ?_;refine(?_:((al x).drop 0).take _=_);exact ac aaH (ac (show(-(s:Int)+x.length - 0).toNat=x.length - s by exact(congrArg XU ((Int.sub_zero _).trans (abl _ _))).trans (Xf _ _)) rfl)
theorem Ua {n s m:Nat} (h:s<=n) (e:m=n):m - (n - s)<=((m:Int) - (-(s:Int)+n)).toNat:=by subst e;exact ac (Nat.sub_sub_self h) (ac (show(m:Int) - (-(s:Int)+m)=s by lia) (Vt s))
theorem K5 {x:Vd} {s:Nat} (h0:0 < s) (h:s<=x.length):al (Wt x (UX (-(s:Int))) UY)=(al x).drop (x.length - s):=by rw[jT];refine ac (StrLaws.sliceText_from_neg (by lia) (by lia)) ?_;refine(?_:((al x).drop (-(s:Int)+x.length).toNat).take _=_);refine ac (show(-(s:Int)+x.length).toNat=x.length - s from(congrArg XU (abl _ _)).trans (Xf _ _)) (aak ?_);refine ac YW ?_;have:(al x).length=x.length:=aH x;refine(?_:_<=(((al x).length:Int) - _).toNat);exact Ua h this
theorem Ed {x:Vd} {s:Nat} (h:s<=x.length):al (Wt x (UX (s:Int)) UY)=(al x).drop s:=by have a:(al x).length=x.length:=aH x;rw[jT];refine ac (StrLaws.sliceText_from ⟨by lia,by show(s:Int)<=((al x).length:Int);lia⟩) ?_;refine(?_:((al x).drop ((s:Int)).toNat).take _=_);rw[Vz];refine aak ?_;rw[YW];refine(?_:_<=(((al x).length:Int) - _).toNat);exact Vg (Xf _ _).symm
def fI (n:Int):List Nat:=al (WN (toString n))
noncomputable def jn:List (List Nat)->List Nat
 |[]=>[]
 |[a]=>a
 |a::b::r=>a++95::jn (b::r)
theorem Hr (l:List Vd):al (aae "_" l)=jn (l.map al):=by
 induction l with
 |nil=>rfl
 |cons x r a=>induction r using VG with
  |nil=>rfl
  |cons y r=>refine(?_:al (x++"_"++aae "_" (y::r))=_);exact ac (aO ..) (ac (aO ..) (ac a (ac (Vk ..) rfl)))
structure oz (n:Int) (L:List Int) (g:Nat):Prop where
 flat:((aQ n L g::fG n L g).map al).flatten=fI n
 ne:∀s∈(aQ n L g::fG n L g).map al,s≠[]
theorem UT {L s:Nat} {x:Int} (hl:x < L) (e:x=s):((min (L - s) L:Nat):Int)=(L:Int) - x:=by subst e;exact ac (Xu (XK _ _)) (aa4 (WB (Int.ofNat_lt.mp hl)))
theorem UU {L s:Nat} {x:Int} (hs:1<=x) (hl:x < L) (e:x=s) (t:L - (L - s)=0):False:=by subst e;exact absurd (Int.ofNat_le.mp hs) (((Nat.sub_sub_self (WB (Int.ofNat_lt.mp hl))).symm.trans t)▸by decide)
theorem UV {L s:Nat} {x:Int} (hl:x < L) (e:x=s) (t:min (L - s) L=0):False:=by subst e;exact YP (YQ (Int.ofNat_lt.mp hl)) ((Xu (XK _ _)).symm.trans t)
theorem Hs {n:Int} {L:List Int} {g:Nat} (x:oz n L g) (hs:1<=ay 0 L g) (hl:ay 0 L g < (aQ n L g).length):oz n L (g+1)/\((aQ n L (g+1)).length:Int)=(aQ n L g).length - ay 0 L g:=by
 refine bI (VZ (show 0<=ay 0 L g by lia)) λs e=>?_;have c:al (aQ n L (g+1))=(al (aQ n L g)).take ((aQ n L g).length - s):=by refine(?_:al (Wt (aQ n L g) UY (UX (-(ay 0 L g))))=_);refine ac e ?_;exact OX (Int.ofNat_le.mp (VN hs (ZE e))) (WB (Int.ofNat_lt.mp (ZM (ZE e.symm) hl)))
 have d:(fG n L (g+1)).map al=(al (aQ n L g)).drop ((aQ n L g).length - s)::(fG n L g).map al:=by refine(?_:al (Wt (aQ n L g) (UX (-(ay 0 L g))) UY)::(fG n L g).map al=_);refine ac e ?_;exact ac (K5 (Int.ofNat_le.mp (VN hs (ZE e))) (WB (Int.ofNat_lt.mp (ZM (ZE e.symm) hl)))) rfl
 have a:(al (aQ n L g)).length=(aQ n L g).length:=aH _;refine⟨⟨?_,λt b=>?_⟩,?_⟩
 ·refine ac Wc ?_;rw[c,d,Xw,Xw,<-Vk,List.take_append_drop];have:=x.flat;simp only[Wc,Xw] at this;exact this
 ·simp only[Wc,c,d] at b;rcases List.mem_cons.mp b with rfl|b
  ·intro h0;have:=congrArg Xd h0;simp only[YU,a,aap] at this;exact UV hl e this
  ·rcases List.mem_cons.mp b with rfl|b
   ·intro h0;have:=congrArg Xd h0;simp only[YW,a,aap] at this;exact UU hs hl e this
   ·exact x.ne t ((Wc).symm▸(.tail _ b))
 ·rw[<-aH,c,YU];refine ac a ?_;exact UT hl e
structure oC (D ν:List Nat):Prop where
 bare:ν.filter (λc=>decide (c≠95))=D
 in_:∀c∈ν,c=95∨c∈D
 last:∃l c,ν=l++[c]/\c∈D
 head:∃c r,ν=c::r/\c∈D
theorem OY {ps:List (List Nat)} (h:ps≠[]) (h1:∀s∈ps,s≠[]) (h2:∀s∈ps,∀c∈s,c≠95):oC ps.flatten (jn ps):=by
 induction ps with
 |nil=>exact absurd rfl h
 |cons a r e=>
 have f:a≠[]:=h1 a (.head _);induction r using VG with
 |nil=>
  refine ac (show[a].flatten=a from VY a) ⟨List.filter_eq_self.mpr λc d=>decide_eq_true (h2 a (.head _) c d),λc d=> .inr d,⟨a.dropLast,a.getLast f,(Zo f).symm,List.getLast_mem f⟩,?_⟩;induction a using VG with
  |nil=>exact absurd rfl f
  |cons c r=>exact⟨c,r,rfl, .head _⟩
 |cons b r=>
  have e:=e (λh=>nomatch h) (λs g=>h1 s (.tail _ g)) (λs g=>h2 s (.tail _ g));refine ac (Xw:(a::b::r).flatten=a++(b::r).flatten) (?_:oC _ (a++95::jn (b::r)));refine⟨?_,λc d=>?_,?_,?_⟩
  ·rw[adz,List.filter_eq_self.mpr λc d=>decide_eq_true (h2 a (.head _) c d),acC (by simp),e.bare]
  ·refine(List.mem_append.mp d).elim (λq=>?_) λq=>?_
   ·exact .inr (List.mem_append.mpr (.inl q))
   ·refine(List.mem_cons.mp q).elim (λq=>?_) λq=>?_
    ·exact .inl q
    ·exact(e.in_ c q).imp id λh=>List.mem_append.mpr (.inr h)
  ·refine aG e.last λl c i j=>?_;exact⟨a++95::l,c,by refine(i).symm▸ ?_;simp,List.mem_append.mpr (.inr j)⟩
  ·induction a using VG with
   |nil=>exact absurd rfl f
   |cons c q=>exact⟨c,q++95::jn (b::r),rfl,List.mem_append.mpr (.inl (.head _))⟩
theorem K6:∀(k m:Nat),m < 10^(k+1)->1<=(ZF 10 m).length/\(ZF 10 m).length<=k+1:=λk=>by
 induction k with
 |zero=>intro m h;refine ac (aaf h) ?_;exact⟨Vt 1,Vt 1⟩
 |succ k c=>
  intro m h;by_cases b:m < 10
  ·refine ac (aaf b) ?_;exact⟨Vt 1,WG (W4 _)⟩
  ·have a:m % 10 < 10:=abb m (by decide);have t:ZF 10 (m / 10)++ZF 10 (m % 10)=ZF 10 (10*(m / 10)+m % 10):=Nat.toDigits_append_toDigits (by decide) (Nat.div_pos (Nat.not_lt.mp b) (by decide)) a;simp only[Nat.div_add_mod] at t;have:=c (m / 10) (by simp only[aas] at h;exact Nat.div_lt_of_lt_mul (Vs h (Vg (aau _ _))));refine aD t (ac Va (ac (aaf a) ?_));exact⟨WG (W4 _),WG this.2⟩
structure BA (n:Int):Prop where
 dig:∀c∈fI n,48<=c/\c<=57
 len:1<=(fI n).length/\(fI n).length<=6
 back:Y6 (WN (toString n))=UX n
theorem uL {n:Int} (h0:0<=n) (h1:n<=999999):BA n:=by
 refine bI (VZ h0) λm a=>?_;subst a;have e:fI (m:Int)=(ZF 10 m).map Char.toNat:=PySem.W.KIN.signs_num m;refine⟨λc f=>?_,?_,(PySem.W.KIN.num_reads h0 (by lia))⟩
 ·rw[e] at f;refine aj (List.mem_map.mp f) λg b d=>(aD d ?_)
  have:=Nat.isDigit_of_mem_toDigits (by decide) (by decide) b;simp only[Char.isDigit,VQ,decide_eq_true_eq] at this;exact⟨this.1,this.2⟩
 ·refine ac e ?_;rw[VA];exact K6 5 m (by lia)
structure Ub (n:Int) (L:List Int) (j t:Nat):Prop where
 go:∀i,i < t->ay 0 L (j+i) < (aQ n L (j+i)).length
 cut:oz n L (j+t)
 stop:j+t < L.length->((aQ n L (j+t)).length:Int)<=ay 0 L (j+t)
 le:j+t<=L.length
 few:t < (aQ n L j).length
theorem BB {n:Int} {L:List Int} (r:List Int) (j:Nat) (h:L.drop j=r) (u:j<=L.length) (hs:∀s∈r,1<=s) (x:oz n L j):Ub n L j (nf (aQ n L j).length r):=by
 induction r generalizing j with
 |nil=>have k:=congrArg Xd h;simp only[YW,aap] at k;have b:(al (aQ n L j)).length≠0:=λe=>x.ne (al (aQ n L j)) (.head _) (List.length_eq_zero_iff.mp e);simp only[aH] at b;exact⟨λi l=>absurd l (W9 _),x,λo=>by have:j+0 < L.length:=o;lia,u,by show 0 < _;lia⟩
 |cons s r BB=>
  have k:=congrArg Xd h;simp only[YW,VD] at k;have p:j < L.length:=Nat.sub_pos_iff_lt.mp (k▸Wx _);have c:ay 0 L j=s:=by
   have v:=gK (d:=(0:Int)) p;have y:L[j]?=UX s:=by have:(L.drop j)[0]?=UX s:=ac h rfl;rwa[adC,Ym] at this
   simp only[y] at v;exact(U2 v).symm
  have q:=hs s (.head _);have b:(al (aQ n L j)).length≠0:=λe=>x.ne (al (aQ n L j)) (.head _) (List.length_eq_zero_iff.mp e);simp only[aH] at b;by_cases f:((aQ n L j).length:Int)<=s
  ·have e:nf (aQ n L j).length (s::r)=0:=if_pos f;refine ac e ?_;exact⟨λi l=>absurd l (W9 _),x,λa=>by show((aQ n L j).length:Int)<=ay 0 L j;refine ac c ?_;exact f,u,by lia⟩
  ·obtain⟨z,w⟩:=Hs x ((c).symm▸q) ((c).symm▸(Int.not_le.mp f));have e:nf (aQ n L j).length (s::r)=nf (aQ n L (j+1)).length r+1:=by refine(?_:(if((aQ n L j).length:Int)<=s then 0 else nf ((aQ n L j).length - s) r+1)=_);exact ac (if_neg f) (ac w (ac c rfl))
   have g:=BB (j+1) (aD List.drop_drop (ac h rfl)) (by lia) (λt A=>hs t (.tail _ A)) z;refine ac e ?_;have m:∀t:Nat,j+(t+1)=j+1+t:=λt=>VW j t 1;refine⟨λi l=>?_,by rw[m];exact g.cut,by rw[m];exact g.stop,by rw[m];exact g.le,?_⟩
   ·induction i with
    |zero=>rw[Ym];refine ac c ?_;exact Int.not_le.mp f
    |succ i=>rw[m];exact g.go i (by lia)
   ·have:=g.few;simp only[c] at w;lia
theorem Ee:∀ps:List (List Nat),(jn ps).length<=ps.flatten.length+ps.length
 |[]=>Vt _
 |[a]=>by simp[jn]
 |a::b::r=>by refine(?_:(a++95::jn (b::r)).length<=_);refine ac Va (ac VD (ac Xw (ac Va (ac (VD (as:=b::r)) ?_))));exact U3 (WH (WG (Ee (b::r))) _) (Vg (Yx a.length (b::r).flatten.length ((b::r).length+1)).symm)
theorem zv (n:Int) (L:List Int):∀j,(aQ n L j).length<=(aQ n L 0).length
 |0=>Vt _
 |j+1=>U3 (Txt.slice_le (aQ n L j) UY (UX (-(ay 0 L j)))) (zv n L j)
theorem xC (n:Int) (L:List Int):∀g,(fG n L g).length=g
 |0=>rfl
 |g+1=>congrArg (· +1) (xC n L g)
structure Uc (n:Int) (L:List Int):Prop where
 x:sg n L
 is:oC (fI n) (al (bN n L))
 len:(bN n L).length<=12
theorem la {n:Int} (h0:0<=n) (h1:n<=999999) {L:List Int} (v:iJ L):Uc n L:=by
 have D:=uL h0 h1;have p:(∀s∈L,1<=s)/\(L.length=2∨L.length=7):=by
  obtain⟨f,s,E,p,h|h⟩:=v<;>subst h
  ·exact⟨λt d=>by simp only[WL,WT,or_false] at d;rcases d with rfl|rfl|rfl|rfl|rfl|rfl|rfl<;>lia, .inr rfl⟩
  ·exact⟨λt d=>by simp only[WL,WT,or_false] at d;rcases d with rfl|rfl<;>lia, .inl rfl⟩
 have w:(aQ n L 0).length=(fI n).length:=(aH _).symm;have q:(aQ n L 0).length<=6:=by have:=D.len;exact this.2
 have x:oz n L 0:=by
  refine⟨?_,λt d=>?_⟩
  ·refine(?_:[al (WN (toString n))].flatten=fI n);simp[fI]
  ·have:t=fI n:=List.mem_singleton.mp d;refine ac this ?_;intro e;have:=D.len;rw[e] at this;exact absurd this.1 (by decide)
 have R:=BB L 0 rfl (W4 _) p.1 x;have y:nf (aQ n L 0).length L=el n L:=rfl;rw[y] at R;have o:∀i:Nat,0+i=i:=aav;have b:oz n L (el n L):=by have:=R.cut;rwa[o] at this
 have k:el n L < 6:=by have:=R.few;exact U3 this q
 have r:=congrArg Xd b.flat;have z:((aQ n L (el n L)::fG n L (el n L)).map al).length=el n L+1:=by rw[VA,VD,xC]
 have A:=Ee ((aQ n L (el n L)::fG n L (el n L)).map al);have g:al (bN n L)=jn ((aQ n L (el n L)::fG n L (el n L)).map al):=by refine(?_:al (WA "_" (aQ n L (el n L)::fG n L (el n L)))=_);rw[gM];exact Hr _
 have l:(bN n L).length<=12:=by rw[<-aH];refine ac g ?_;have:=D.len;lia
 have m:∀t∈(aQ n L (el n L)::fG n L (el n L)).map al,∀c∈t,c≠95:=λt d c B e=>by have:c∈fI n:=aD b.flat (List.mem_flatten.mpr (aA t d B));have:=D.dig c this;exact absurd (e▸this.2) (by decide)
 refine⟨⟨⟨?_,λj C=>?_,λh=>?_,?_,λj=>by have:=zv n L j;lia,?_⟩,?_⟩,?_,l⟩
 ·refine(Y4 (n.natAbs=0)).elim (λu=>?_) λu=>?_
  ·refine ac u ?_;decide
  ·exact Vs ((abP u).mpr (show n.natAbs < 2^20 by lia)) (by decide)
 ·have:=R.go j C;rwa[o] at this
 ·have:=R.stop;rw[o] at this;exact this h
 ·have:=R.le;rwa[o] at this
 ·refine joinOk_of ?_;have e:((aQ n L (el n L)::fG n L (el n L)).map (·.length)).sum=(fI n).length:=by refine aD b.flat (ac List.length_flatten (ac Yi ?_));exact congrArg List.sum (Xb λs a=>(aH s).symm)
  refine ac e ?_;rw[VD,xC];have:=D.len;refine(?_:_+_*1<=_);lia
 ·refine(p.2).elim (λh=>?_) λh=>?_
  ·exact .inl h
  ·exact .inr ⟨h,k⟩
 ·have:=OY (ps:=(aQ n L (el n L)::fG n L (el n L)).map al) (by simp) b.ne m;rw[b.flat] at this;refine ac g ?_;exact this
theorem lZ {n:Int} (D:BA n) (h:oC (fI n) ν):∀c∈ν,c=95∨(48<=c/\c<=57):=λc a=>(h.in_ c a).imp id (D.dig c)
theorem OZ {d:Lt} (e:iJ d.L) (b:∀x,x < 3->0<=d.n x/\d.n x<=999999):eW d:=by refine⟨λx a c h=>?_,λx a=>(la (b x a).1 (b x a).2 e).x,λx a=>U3 (la (b x a).1 (b x a).2 e).len (by decide)⟩;rcases lZ (uL (b x a).1 (b x a).2) (la (b x a).1 (b x a).2 e).is c h with q|q<;>lia
noncomputable def cJ (n:Nat):List Nat:=Wa n 32
noncomputable def aS (A B:Nat) (ν:List Nat):List Nat:=cJ A++ν++cJ B
theorem oE {k:Int} (h0:0<=k) (a:k < 3):al (Yl " " k)=cJ k.toNat:=by rcases(by lia:k=0∨k=1∨k=2) with rfl|rfl|rfl<;>rfl
theorem sR (s:Vd) (w:Int):al (bf s w)=aS (w.fmod 3).toNat ((w.fdiv 3).fmod 3).toNat (al s):=by have a:=bb w (by decide:(0:Int) < 3);have b:=bb (w.fdiv 3) (by decide:(0:Int) < 3);unfold bf aS;rw[aO,aO,oE a.1 a.2,oE b.1 b.2]
theorem zw (s:Vd):∀(r:List Nat) (i:Nat),(∀j,j < r.length->(al s)[i+j]?=r[j]?)->((gD s i r.length).map al).flatten=rv r
 |[],_,_=>rfl
 |c::r,i,h=>by have a:=h 0 (Wx _);simp only[Ym] at a;refine(?_:(al ("\\"++cz s i)::(gD s (i+1) r.length).map al).flatten=[92,c]++rv r);refine ac Xw ?_;rw[aO,Eb a];refine ac (zw s r (i+1) λj b=>by have:=h (j+1) (abF b);refine ac (show i+1+j=i+(j+1) by exact VW _ _ _) ?_;exact this) ?_;rfl
theorem Ht (t:Vd):al (jd t)=rv (al t):=by
 unfold jd;rw[gM];refine(?_:al (aae Vl _)=_);rw[iY];have:=zw t (al t) 0 λj a=>by rw[aav]
 rwa[aH] at this
theorem zx (t:Vd):al (iF t)=34::(al t++[34]):=by unfold iF;rw[aO,aO];rfl
structure xE (v un:List Nat) (A B:Nat) (ν:List Nat):Prop where
 run:∀p xs,v.foldl bO ⟨U0,U0,p,xs⟩=⟨U0,U0,p++un,xs⟩
 un:(un=ν/\A=0/\B=0)∨un=34::(aS A B ν++[34])
theorem Ru {a n b:Nat} (h:a+n+b=n):a=0/\b=0:=by lia
theorem Jj {n:Int} (D:BA n) {s:Vd} (h:oC (fI n) (al s)) (w:Int):xE (al (gE s w)) (match ed s w with|0=>al s|_=>34::(aS (w.fmod 3).toNat ((w.fdiv 3).fmod 3).toNat (al s)++[34])) (w.fmod 3).toNat ((w.fdiv 3).fmod 3).toNat (al s):=by
 have i:=lZ D h;have m:∀c∈aS (w.fmod 3).toNat ((w.fdiv 3).fmod 3).toNat (al s),c≠92/\c≠34:=λc f=>by
  unfold aS cJ at f;refine(List.mem_append.mp f).elim (λq=>?_) λq=>?_
  ·refine(List.mem_append.mp q).elim (λq=>?_) λq=>?_
   ·exact(List.mem_replicate.mp q).2▸(by decide)
   ·have:=i c q;lia
  ·exact(List.mem_replicate.mp q).2▸(by decide)
 have j:∀p b,bO ⟨U0,U0,p,b⟩ 34=⟨U0,UZ,p++[34],b⟩:=λa a=>rfl;have l:∀p b,bO ⟨U0,UZ,p,b⟩ 34=⟨U0,U0,p++[34],b⟩:=λa a=>rfl;unfold gE
 match g:ed s w with
 |0=>
  have d:bf s w=s:=by
   unfold ed at g;refine(Y4 (bf s w=s/\(w.fdiv 9).fmod 2≠0)).elim (λc=>?_) λc=>?_
   ·exact c.1
   ·rw[if_neg c] at g;split at g<;>cases g
  have e:=congrArg (λt=>(al t).length) d;rw[sR] at e;unfold aS cJ at e;rw[Va,Va,aaz,aaz] at e;refine⟨λp b=>?_, .inl ⟨rfl,(Ru e).1,(Ru e).2⟩⟩;refine(?_:(al (bf s w)).foldl bO _=_);refine ac d ?_;exact pW _ _ _ λc f=>by have:=i c f;lia
 |1=>refine⟨λp b=>?_, .inr rfl⟩;refine(?_:(al (iF (bf s w))).foldl bO _=_);rw[zx,sR,Zl,j,WS,zu _ _ _ m,Zl,l];refine ac List.foldl_nil ?_;simp
 |k+2=>refine⟨λp b=>?_, .inr rfl⟩;refine(?_:(al (iF (jd (bf s w)))).foldl bO _=_);rw[zx,Ht,sR,Zl,j,WS,xB,Zl,l];refine ac List.foldl_nil ?_;simp
def pX (z:List Nat):Prop:=z=[]∨z=[10]
theorem Jk (d:Lt):∃f g,pX f/\pX g/\al (dj d)=al (eL d 0)++(f++(al (eL d 1)++(g++al (eL d 2)))):=by
 have h:∀a b:Vd,al (WA "\n" [a,b])=al a++([10]++al b):=λa b=>by rw[gM];refine(?_:al (a++"\n"++b)=_);rw[aO,aO,Vk];rfl
 have j:∀a b c:Vd,al (WA "\n" [a,b,c])=al a++([10]++(al b++([10]++al c))):=λa b c=>by rw[gM];refine(?_:al (a++"\n"++(b++"\n"++c))=_);rw[aO,aO,aO,aO,Vk,Vk];rfl
 unfold dj lR;by_cases i:((eL d 0).length+(eL d 1).length:Int)<=d.W
 ·refine ac (if_pos i) ?_;by_cases e:((eL d 0).length+(eL d 1).length+(eL d 2).length:Int)<=d.W
  ·refine ac (if_pos e) ?_;exact(cY ([]) ([]) (.inl rfl) (.inl rfl) (by rw[(λa=>by rw[gM];rfl:∀a:Vd,al (WA "\n" [a])=al a),aO,aO,Vk];rfl))
  ·refine ac (if_neg e) ?_;exact(cY ([]) ([10]) (.inl rfl) (.inr rfl) (by rw[h,aO,Vk];rfl))
 ·refine ac (if_neg i) ?_;by_cases e:((eL d 1).length+(eL d 2).length:Int)<=d.W
  ·refine ac (if_pos e) ?_;exact(cY ([10]) ([]) (.inr rfl) (.inl rfl) (by rw[h,aO];rfl))
  ·exact ac (if_neg e) (cY ([10]) ([10]) (.inr rfl) (.inr rfl) (j _ _ _))
noncomputable def io (x:Nat) (un:List Nat):List Nat:=(97+x)::61::un
theorem O0 (d:Lt) {x:Nat} (a:x < 3):al (eL d x)=32::(97+x)::61::(al (gE (bN (d.n x) d.L) ((d.w.fdiv (36^x)).fmod 36))++al (gF x)):=by unfold eL vL;rw[aO,aO,aO];rcases(by lia:x=0∨x=1∨x=2) with rfl|rfl|rfl<;>rfl
theorem BC {d:Lt} {x:Nat} (b:x < 3) {A B:Nat} (V:xE (al (gE (bN (d.n x) d.L) ((d.w.fdiv (36^x)).fmod 36))) un A B ν) (p:List Nat) (xs:List (List Nat)):
  (al (eL d x)).foldl bO ⟨U0,U0,p,xs⟩=(al (gF x)).foldl bO ⟨U0,U0,p++(32::io x un),xs⟩:=by
 refine ac (O0 d b) ?_
 have e:(32::(97+x)::61::(al (gE (bN (d.n x) d.L) ((d.w.fdiv (36^x)).fmod 36))++al (gF x)))=[32,97+x,61]++(al (gE (bN (d.n x) d.L) ((d.w.fdiv (36^x)).fmod 36))++al (gF x)):=rfl
 refine ac e ?_;rw[WS,pW [32,97+x,61] p xs λc a=>by simp only[WL,WT,or_false] at a;rcases a with rfl|rfl|rfl<;>lia,WS,V.run]
 rw[Vk];rfl
theorem Jl {z:List Nat} (h:pX z) (p:List Nat) (xs:List (List Nat)):z.foldl bO ⟨U0,U0,p,xs⟩=⟨U0,U0,p++z,xs⟩:=by
 rcases h with rfl|rfl
 ·rw[VY];rfl
 ·rfl
theorem sS {p:List Nat} {xs:List (List Nat)}:(al (gF 0)).foldl bO ⟨U0,U0,p,xs⟩=⟨U0,U0,[],xs++[p]⟩/\(al (gF 1)).foldl bO ⟨U0,U0,p,xs⟩=⟨U0,U0,[],xs++[p]⟩/\(al (gF 2)).foldl bO ⟨U0,U0,p,xs⟩=⟨U0,U0,p,xs⟩:=⟨rfl,rfl,rfl⟩
theorem K7 {d:Lt} {j k l c f g:List Nat} {p q h i r s:Nat} (t:xE (al (gE (bN (d.n 0) d.L) ((d.w.fdiv (36^0)).fmod 36))) j p q c) (u:xE (al (gE (bN (d.n 1) d.L) ((d.w.fdiv (36^1)).fmod 36))) k h i f) (v:xE (al (gE (bN (d.n 2) d.L) ((d.w.fdiv (36^2)).fmod 36))) l r s g):
  ∃a b,pX a/\pX b/\(km (dj d)).L=⟨U0,U0,b++(32::io 2 l),[32::io 0 j,a++(32::io 1 k)]⟩:=by
 refine cy (Jk d) λa b m o e=>(cY a b m o ?_)
 unfold km
 rw[K4,e];refine ac WS ?_
 refine(?_:((a++(al (eL d 1)++(b++al (eL d 2))))).foldl bO ((al (eL d 0)).foldl bO ⟨U0,U0,[],[]⟩)=_)
 rw[BC (by decide) t,sS.1,WS,Jl m,WS,BC (by decide) u,sS.2.1,WS,Jl o,BC (by decide) v];refine ac sS.2.2 ?_
 rfl
end
section
open PySem.Spec PySem.Builtin PySem.Builtin.Str
theorem xF {p:Nat->Bool}:∀{z:List Nat} {c:Nat} {r:List Nat},(∀a∈z,p a=UZ)->p c=U0->((z++c::r).takeWhile p).length=z.length
 |[],c,r,_,h=>by rw[Zj,List.takeWhile_cons_of_neg (by refine ac h ?_;decide)]
 |a::z,c,r,d,h=>by refine ac Xg ?_;refine ac (List.takeWhile_cons_of_pos (d a (.head _))) ?_;refine ac VD ?_;refine ac (xF (λb e=>d b (.tail _ e)) h) ?_;exact ac VD rfl
theorem sT (x:Vd) (i j:Nat):al (Builtin.Str.strSub x i j)=((al x).take j).drop i:=by refine(?_:(x.cps.extract i j).toList=_);refine ac ac2 (?_:List.take (j - i) (List.drop i (al x))=_);exact ac List.drop_take rfl
theorem zy {l r:Bool} {x:Vd} {z b t:List Nat} {c e:Nat} {b1 b2:List Nat} (h:al x=z++(b++t)) (hl:l=U0->z=[]) (i:r=U0->t=[]) (hz:∀a∈z,V9 a=UZ) (j:∀a∈t,V9 a=UZ) (h1:b=c::b1) (k:V9 c=U0)
  (h2:b=b2++[e]) (m:V9 e=U0):al (Txt.stripBy V9 l r x)=b:=by
 have d:x.length=z.length+(b.length+t.length):=by rw[<-aH,h,Va,Va]
 have f:stripLo V9 l x=z.length:=by
  induction l with
  |false=>refine ac (hl rfl) ?_;rfl
  |true=>refine(?_:((al x).takeWhile V9).length=_);refine ac h (ac h1 (ac Xg ?_));exact xF hz k
 have g:stripHi V9 r x z.length=z.length+b.length:=by
  induction r with
  |false=>refine(?_:x.length=_);refine ac d (ac (i rfl) ?_);rfl
  |true=>refine(?_:x.length - (((al x).drop z.length).reverse.takeWhile V9).length=_);refine ac h (ac List.drop_left (ac h2 (ac Yo (ac Yo (ac acN (ac acX ?_))))));refine ac (xF (λa n=>j a (List.mem_reverse.mp n)) m) (ac List.length_reverse (ac d (aD h2 ?_)));exact ac (Yx _ _ _).symm (ZO ..)
 rw[PyProof.Rows.stripBy_eq,f,g,sT,h,<-Vk,<-Va,ab3,List.drop_left]
theorem zz:V9 32=UZ:=by decide+kernel
theorem K8:V9 10=UZ:=by decide+kernel
theorem jU:∀c,c < 128->33<=c->V9 c=U0:=by decide+kernel
theorem O1 {s:Vd} {c:Nat} (h:subAt s ⟨#[c]⟩ i=UZ):(al s)[i]?=UX c:=by dsimp only[subAt] at h;have a:=congrArg Array.toList (beq_iff_eq.mp h);rw[ac2] at a;have b:((al s).drop i).take (i+1 - i)=[c]:=a;rw[show i+1 - i=1 by exact W6 ..] at b;have d:(((al s).drop i).take 1)[0]?=UX c:=ac b rfl;rw[List.getElem?_take_of_lt (by decide),adC,Ym] at d;exact d
theorem K9 {s:Vd} {c a:Nat} {r:List Nat} (h:al s=a::c::r) (k:a≠c) (l:c∉r):occurrences s ⟨#[c]⟩ 0 s.length 1=[1]:=by
 have b:=StrLaws.found_one s c;have d:c∈s.cps.toList:=by show c∈al s;refine ac h ?_;exact .tail _ (.head _)
 rw[decide_eq_true d] at b;have g:=StrLaws.occ_length_le s ⟨#[c]⟩ 0 s.length 1;have m:=StrLaws.occ_spec s ⟨#[c]⟩ 0 s.length 1
 match e:occurrences s ⟨#[c]⟩ 0 s.length 1 with
 |[]=>rw[e] at b;cases b
 |i::j::q=>rw[e] at g;exact absurd g (by simp)
 |[i]=>
  have f:=O1 (m i (ac e (.head _))).2;rw[h] at f
  match i with
  |0=>exact absurd (U2 f) k
  |1=>rfl
  |i+2=>have n:r[i]?=UX c:=f;exact absurd (WZ n) l
theorem Hu {a x:Vd} {n:Nat} (e:al a=[n]) (h:al x=n::61::un) (g:n≠61) (i:∀c∈un,c≠61) (d:∀c∈al x,c < 256) (hl:x.length<=1000):kQ a x:=by
 have b:occurrences x "=" 0 x.length (limitOf x 1)=[1]:=K9 h g λj=>i 61 j rfl;have f:x.length=un.length+2:=by rw[<-aH];refine ac h ?_;rfl
 have k:Xr x=1:=by dsimp only[Xr];rw[if_pos];rw[Array.all_eq_true'];intro c l;exact decide_eq_true (d c (Array.mem_toList_iff.mpr l))
 refine⟨by decide,?_,by decide,(b).symm▸rfl,iO hl rfl,?_⟩
 ·refine ac k (ac (show abc "="=1 from rfl) (ac (decide_eq_false (by lia)) (ac (decide_eq_false (by decide+kernel)) ?_)));rfl
 ·refine(b).symm▸(?_:[strSub x 0 1,strSub x 2 x.length]=[a,Wt x (UX (a.length+1:Nat)) UY]);have m:strSub x 2 x.length=Wt x (UX (a.length+1:Nat)) UY:=fN (by refine ac (by rw[<-aH];refine ac e ?_;rfl:a.length=1) ?_;rw[sT,Ed (by lia),<-aH,Z6]);exact ac (fN (by rw[sT,h];refine ac e ?_;rfl):strSub x 0 1=a) (ac m rfl)
theorem l4 {s:Vd} {c:Nat} (h:(al s)[i]?=UX c):Xz s (i:Int)=UX c:=by
 have a:ZS (i:Int) s.length=UX i:=by unfold ZS;simp;exact ac (if_neg (Int.not_lt.mpr (Vr _))) ⟨⟨Vr _,Int.ofNat_lt.mpr (by rw[<-aH];exact bn h:i < s.length)⟩,rfl⟩
 unfold Xz;refine ac a (?_:s.cps[i]?=UX c);refine aD (YS) ?_;exact h
theorem xG {s:Vd} {c:Nat} (h:(al s)[i]?=UX c):X7 s (i:Int)=⟨#[c]⟩:=by unfold X7;refine ac (l4 h) ?_;rfl
structure Ud (nm x:Vd) (T:List Nat):Prop where
 elt:jq nm x (jL x)
 val:al (pE x)=T
theorem QK {nm x:Vd} {A B:Nat} (y:k < 3) (p:al nm=[97+k]) (n:al x=io k un) (g:∀c∈ν,c=95∨(48<=c/\c<=57)) (s:∃c r,ν=c::r/\48<=c/\c<=57) (v:(un=ν/\A=0/\B=0)∨un=34::(aS A B ν++[34])) (hl:x.length<=900):Ud nm x (aS A B ν):=by
 have i:∀c∈aS A B ν,c=32∨c=95∨(48<=c/\c<=57):=λc b=>by
  unfold aS cJ at b;refine(List.mem_append.mp b).elim (λq=>?_) λq=>?_
  ·refine(List.mem_append.mp q).elim (λq=>?_) λq=>?_
   ·exact .inl (List.mem_replicate.mp q).2
   ·exact .inr (g c q)
  ·exact .inl (List.mem_replicate.mp q).2
 have j:∀c∈un,c=34∨c=32∨c=95∨(48<=c/\c<=57):=λc b=>by
  rcases v with ⟨h,_,_⟩|h
  ·rw[h] at b;exact .inr (.inr (g c b))
  ·rw[h] at b;refine(List.mem_cons.mp b).elim (λq=>?_) λq=>?_
   ·exact .inl q
   ·refine(List.mem_append.mp q).elim (λq=>?_) λq=>?_
    ·exact .inr (i c q)
    ·exact .inl (List.mem_singleton.mp q)
 have w:x.length=un.length+2:=by rw[<-aH];refine ac n ?_;rfl
 have f:al (cQ x)=un:=by unfold cQ;refine ac (show(UX (2:Int))=UX ((2:Nat):Int) from rfl) (ac (Ed (by lia)) (ac n ?_));rfl
 have z:(cQ x).length=un.length:=by rw[<-aH,f]
 have l:kQ nm x:=Hu p n (by lia) (λc b=>by have:=j c b;lia) (λc b=>by
  rw[n] at b;unfold io at b;refine(List.mem_cons.mp b).elim (λq=>?_) λq=>?_
  ·exact q▸XI (ady y 97) (by decide)
  ·refine(List.mem_cons.mp q).elim (λq=>?_) λq=>?_
   ·exact q▸(by decide)
   ·exact(j c q).elim (λh=>h▸(by decide)) λh=>h.elim (λh=>h▸(by decide)) λh=>h.elim (λh=>h▸(by decide)) λh=>Vn h.2 (by decide)) (by lia)
 have m:∀c r q,un=c::r->decide (c=34)=q->jL x=q/\(Xz (cQ x) 0).isSome=UZ:=λc r q b C=>by
  have h0:(al (cQ x))[0]?=UX c:=by refine ac f (ac b ?_);rfl
  refine⟨?_,by refine ac (show(0:Int)=((0:Nat):Int) from rfl) (ac (l4 h0) ?_);rfl⟩;unfold jL;refine ac (show(0:Int)=((0:Nat):Int) from rfl) (ac (xG h0) (aD C ?_));exact ru c 34
 rcases v with ⟨h,rfl,rfl⟩|h
 ·refine aG s λc r b D=>(aN (m c r U0 (h.trans b) (decide_eq_false (by lia))) λo t=>?_)
  refine⟨⟨l,by lia,t,rfl,λe=>by rw[o] at e;cases e⟩,?_⟩;unfold pE;refine ac o (ac (by unfold aS cJ;simp:aS 0 0 ν=ν) (aD h ?_));exact f
 ·refine aN (m 34 _ UZ h rfl) λo t=>?_;have d:al (cQ x)=(34::aS A B ν)++[34]:=by refine ac f (ac h ?_);rfl
  refine⟨⟨l,by lia,t,rfl,λa=>⟨ac (ko d) rfl,ac (tA d) (bS.mpr rfl)⟩⟩,?_⟩;unfold pE;refine ac o (?_:al (Wt (cQ x) (UX 1) (UX (-1)))=_);have u:(cQ x).length=(aS A B ν).length+2:=by rw[<-aH,f,h,VD];refine ac Va ?_;rfl
  have e:Wt (cQ x) (UX 1) (UX (-1))=Wt (cQ x) (UX ((1:Nat):Int)) (UX (((aS A B ν).length+1:Nat):Int)):=by rw[jT,StrLaws.sliceText_neg_hi _ _ (by decide) (by lia)];refine ac (show((-1:Int)+((cQ x).length:Int))=(((aS A B ν).length+1:Nat):Int) by lia) ?_;rfl
  refine ac e (ac (sQ (by lia) (by lia)) (ac f (ac h ?_)));refine(?_:((aS A B ν)++[34]).take ((aS A B ν).length+1 - 1)=_);rw[ZO,ab3]
theorem pY:∀(A:Nat) {c:Nat} {r:List Nat},c≠32->lJ (cJ A++c::r)=A
 |0,c,r,h=>if_neg h
 |A+1,c,r,h=>by refine(?_:(if 32=32 then lJ (cJ A++c::r)+1 else 0)=_);exact ac (if_pos rfl) (ac (pY A h) rfl)
theorem zA (A:Nat):(cJ A).reverse=cJ A:=List.reverse_replicate
theorem O2 {A B:Nat} {c e:Nat} {l r:List Nat} (h1:ν=c::r) (h2:ν=l++[e]) (a:c≠32) (b:e≠32):lJ (aS A B ν)=A/\lJ (aS A B ν).reverse=B:=by
 constructor
 ·unfold aS;rw[Vk,h1];refine ac Xg ?_;exact pY A a
 ·unfold aS;refine ac Yo ?_;rw[Yo,zA,zA,h2,Yo];refine ac acN ?_;exact pY B b
theorem rx {s:Vd} {c:Nat} (h:(al s)[i]?=UX c) (hl:s.length<=1000):lI s (i:Int) (decide (c=32)):=by
 have a:i < s.length:=by rw[<-aH];exact bn h
 refine⟨?_,ac (l4 h) rfl,ac (xG h) (ru c 32)⟩;unfold abf;simp;lia
theorem ry (s:Vd):∀k:Nat,qZ s k=(s.length:Int) - 1 - k
 |0=>by show(s.length:Int) - 1=_;lia
 |k+1=>by show qZ s k - 1=_;refine ac (ry s k) ?_;lia
theorem zB {A:Nat} (h:i < A):(cJ A)[i]?=UX 32:=by unfold cJ;exact ac (List.getElem?_replicate) (ac (if_pos h) rfl)
abbrev K0 (x B:Nat):Prop:=min x B < x->min x B=B
theorem Ue {t a b:Nat} (h:t=a+b) (hi:i < b):(t:Int) - 1 - i=((a+(b - 1 - i):Nat):Int):=by obtain⟨r,rfl⟩:=abq hi;refine ac h ?_;rw[Nat.sub_sub,Wk 1 i,show i.succ+r - (i+1)=r from W6 ..,show a+(i.succ+r)=a+r+i+1 by rw[<-Yx,VW];rfl];exact(congrArg (· - (i:Int)) (XO ((a+r+i:Nat):Int) 1)).trans (XO ((a+r:Nat):Int) i)
theorem Uf {t a n b:Nat} (h:t=a+n+b) (c:1<=n):(t:Int) - 1 - b=((a+(n - 1):Nat):Int):=by obtain⟨r,rfl⟩:=abq c;refine ac h ?_;rw[W6,show a+(1+r)+b=a+r+b+1 by ac_rfl];exact(congrArg (· - (b:Int)) (XO ((a+r+b:Nat):Int) 1)).trans (XO ((a+r:Nat):Int) b)
theorem Ug {t:Nat} (h:k<=t):(t:Int) - 1 - k+1=((t - k:Nat):Int):=by rw[aa4 h];lia
theorem La {t a n b:Nat} (h:t=a+n+b) (h1:j<=a) (h2:k<=b):a - j+(n+(b - k))=t - k - j:=by obtain⟨c,rfl⟩:=abq h1;obtain⟨d,rfl⟩:=abq h2;refine ac h ?_;rw[W6,W6,show j+c+n+(k+d)=c+(n+d)+j+k by ac_rfl,ZO,ZO]
theorem Lb {t:Vd} {A B:Nat} {c e:Nat} {l r:List Nat} (f:al t=aS A B ν) (h1:ν=c::r) (h2:ν=l++[e]) (w:c≠32) (x:e≠32) (hl:t.length<=1000) {a:Int} (D:0<=a) (E:a<=4):
  iD t a.toNat (mc t a) (me t a)/\al (d8 t a)=aS (A - min a.toNat A) (B - min (a.toNat - min a.toNat A) B) ν:=by
 refine aN (O2 (A:=A) (B:=B) h1 h2 w x) λF G=>?_
 have p:mc t a=min a.toNat A:=by unfold mc;refine ac f ?_;rw[F]
 have y:me t a=min (a.toNat - min a.toNat A) B:=by unfold me;refine ac p ?_;rw[f,G]
 have b:t.length=A+ν.length+B:=by rw[<-aH];refine ac f ?_;unfold aS cJ;simp[Yx]
 have g:1<=ν.length:=by refine ac h1 (ac VD ?_);lia
 have gl:∀i,i < A->(al t)[i]?=UX 32:=λi d=>by refine ac f ?_;unfold aS;rw[Vk];refine ac (Wn (by unfold cJ;simpa using d)) ?_;exact zB d
 have z:∀i,i < ν.length->(al t)[A+i]?=ν[i]?:=λi d=>by refine ac f ?_;unfold aS;rw[Vk,VU (by unfold cJ;simp)];refine ac (Wn (by unfold cJ;simp;lia)) ?_;unfold cJ;simp
 have H:∀i,i < B->(al t)[A+ν.length+i]?=UX 32:=λi d=>by refine ac f ?_;unfold aS;refine ac (VU (by unfold cJ;simp)) (ac (show A+ν.length+i - (cJ A++ν).length=i by unfold cJ;simp) ?_);exact zB d
 refine ac p (ac y ?_)
 have n:min a.toNat A < a.toNat->min a.toNat A=A:=λh=>Yn (WB (Nat.lt_of_not_le λq=>absurd (Xu q▸h) (WV _)))
 generalize j:min a.toNat A=J at n
 have k:K0 (a.toNat - J) B:=λh=>Yn (WB (Nat.lt_of_not_le λq=>absurd (Xu q▸h) (WV _)))
 have o:J<=A:=j▸Nat.min_le_right _ _
 have m:=Nat.min_le_right (a.toNat - J) B
 have C:=Nat.min_le_left (a.toNat - J) B
 unfold K0 at k
 generalize s:min (a.toNat - J) B=K at m C k
 have M:0 < t.length:=by lia
 refine⟨⟨Wk K J▸(Nat.le_sub_iff_add_le (j▸Nat.min_le_left _ _:J<=a.toNat)).mp C,Int.toNat_le.mpr E,hl,λi d=>rx (gl i (Vs d o)) hl,λh=>?_,λi d=>?_,λh=>?_⟩,?_⟩
 ·have h0:=z 0 g;simp only[h1,Ym] at h0;have:=rx (c:=c) (i:=J) (ac (n h) h0) hl;rwa[decide_eq_false w] at this
 ·have u:=Vs d m;have:=rx (H (B - 1 - i) (Vn (XK _ _) (Yz (Vs (Nat.zero_lt_of_lt d) m) YE))) hl;rw[ry];refine ac (show(t.length:Int) - 1 - i=((A+ν.length+(B - 1 - i):Nat):Int) from Ue b u) ?_;exact this
 ·have u:K=B:=k (Zg (aD (Wk J K) h));have h0:=z (ν.length - 1) (Yz g YE);have v:ν[ν.length - 1]?=UX e:=by refine ac h2 (ac Va ?_);exact bj rfl
  simp only[v] at h0;have:=rx h0 hl;simp only[decide_eq_false x] at this;rw[ry,u];refine ac (show(t.length:Int) - 1 - B=((A+(ν.length - 1):Nat):Int) from Uf b g) ?_;exact this
 ·unfold d8 wg;refine ac p ?_;rw[y,j,s,ry,show(t.length:Int) - 1 - K+1=((t.length - K:Nat):Int) from Ug (U3 m (U3 (Wr _ _) (Vg b.symm))),sQ (adp (U3 (VF (U3 o (Vo _ _)) m) (Vg b.symm))) (XK _ _)];refine ac f ?_;have I:cJ B=cJ (B - K)++cJ K:=by unfold cJ;refine ac abr ?_;congr 1;exact(Wp m).symm
  have e:aS A B ν=cJ J++(aS (A - J) (B - K) ν++cJ K):=by unfold aS;refine ac (by unfold cJ;refine ac abr ?_;congr 1;exact(XY o).symm:cJ A=cJ J++cJ (A - J)) (ac I ?_);simp only[Vk]
  have L:(aS (A - J) (B - K) ν).length=t.length - K - J:=by unfold aS cJ;simp;exact La b o m
  exact ac e (ac (List.drop_left' (aaz:(cJ J).length=J)) (ac (List.take_left' L) rfl))
theorem Hv {n:Int} (D:BA n) {u:Vd} {B:Nat} (N:oC (fI n) ν) (f:al u=ν++cJ B) (hl:u.length<=500):GH u/\iE (cu u)=n:=by
 have A:=lZ D N;refine aG N.head λc r m o=>(aG N.last λl e p q=>?_)
 have s:=D.dig c o;have v:=D.dig e q;have g:al (X9 u)=ν:=by refine zy (l:=U0) (r:=UZ) (z:=[]) (t:=cJ B) (c:=c) (e:=e) (b1:=r) (b2:=l) ((f).symm▸rfl) (λb=>rfl) (λh=>by cases h) (λb h=>nomatch h) (λa d=>?_) m (jU c (by lia) (by lia)) p (jU e (by lia) (by lia));refine ac ((List.mem_replicate.mp d).2) ?_;exact zz
 have i:al (cu u)=fI n:=by
  unfold cu;have w:al (abO (X9 u) "_" "")=(al (X9 u)).filter (· !=95):=(replace_strikes (X9 u) 95)
  refine ac w ?_;refine ac g ?_;refine aD N.bare ?_;exact List.filter_congr λa b=>by by_cases h:a=95<;>simp[h]
 have x:(cu u).length=(fI n).length:=by rw[<-aH,i]
 have C:=D.len;have d:hO (cu u)=cu u:=fN (by unfold hO;refine ac (show(UX (0:Int))=UX ((0:Nat):Int) from rfl) ?_;rw[sQ (W4 _) (Vt _),aaH,Nat.sub_zero,<-aH,Z6]);have j:Y6 (hO (cu u))=UX n:=by refine ac d ?_;refine ac (fN i:cu u=WN (toString n)) ?_;exact D.back
 have k:iE (cu u)=n:=by unfold iE;refine ac j ?_;rfl
 have y:(X9 u).length<=u.length:=by rw[<-aH,<-aH,g,f];refine ac Va ?_;lia
 exact⟨⟨by lia,by lia,by lia,ac j (ac k rfl),by refine(d).symm▸ ?_;lia⟩,k⟩
def f8 (d:Lt) (x:Nat):List Nat:=match ed (bN (d.n x) d.L) ((d.w.fdiv (36^x)).fmod 36) with
 |0=>al (bN (d.n x) d.L)
 |_=>34::(aS (((d.w.fdiv (36^x)).fmod 36).fmod 3).toNat ((((d.w.fdiv (36^x)).fmod 36).fdiv 3).fmod 3).toNat (al (bN (d.n x) d.L))++[34])
theorem BD (y:Int):(y.fmod 36).fmod 3=y.fmod 3:=by refine ac (V8 _ (by decide)) (ac (V8 _ (by decide)) (ac (V8 _ (by decide)) ?_));exact Int.emod_emod_of_dvd _ ⟨12,rfl⟩
theorem UW (y:Int):y % 36 / 3 % 3=y / 3 % 3:=by have h:y=y % 36+3*(12*(y / 36)):=(Int.emod_add_mul_ediv y 36).symm.trans (congrArg (y % 36+·) (aa3 3 12 (y / 36)));have a:y / 3=y % 36 / 3+3*(4*(y / 36)):=(congrArg (· / 3) h).trans ((Int.add_mul_ediv_left _ _ (by decide)).trans (congrArg (y % 36 / 3+·) (aa3 3 4 (y / 36))));exact ac a (Int.add_mul_emod_self_left _ _ _).symm
theorem BE (y:Int):((y.fmod 36).fdiv 3).fmod 3=(y.fdiv 3).fmod 3:=by refine ac (V8 _ (by decide)) (ac (V8 _ (by decide)) (ac (V8 _ (by decide)) (ac (Wl _ (by decide)) (ac (Wl _ (by decide)) ?_))));exact UW _
theorem Ef {A a:Int} (b:0<=A) (c:0<=a):wq A a=((a.toNat - A.toNat:Nat):Int):=by
 obtain⟨A,rfl⟩:=VZ b;obtain⟨a,rfl⟩:=VZ c;unfold wq;rw[su];rcases aaq a A with h|h
 ·rw[Vz,Vz];refine ac (Xo h) ?_;exact Y9 (aaQ (Int.ofNat_le.mpr h))
 ·rw[Vz,Vz];refine ac (aa4 h) ?_;exact Zu (Yc (Int.ofNat_le.mpr h))
theorem Uh {A a:Int} (b:0<=A) (c:0<=a):(lN A a).toNat=A.toNat - min a.toNat A.toNat:=by
 unfold lN;refine ac (Ef b c) ?_;obtain⟨A,rfl⟩:=VZ b;obtain⟨a,rfl⟩:=VZ c;rcases aaq a A with h|h
 ·rw[Vz,Vz,Xo h];refine ac (Xu h) ?_;exact(congrArg XU (ZD _)).trans (Xf _ _)
 ·rw[Vz,Vz];exact ac (Yn h) ((congrArg XU ((congrArg (((A:Int) - a)+·) ((aa4 h).trans (Int.neg_sub _ _).symm)).trans (Int.add_right_neg _))).trans (WW _).symm)
theorem Ui {A B a:Int} (b:0<=A) (d:0<=B) (e:0<=a):(ni A B a).toNat=B.toNat - min (a.toNat - min a.toNat A.toNat) B.toNat:=by
 unfold ni;refine ac (Ef b e) ?_;rw[su];refine ac (show a.toNat - min a.toNat A.toNat=a.toNat - A.toNat by rcases aaq a.toNat A.toNat with h|h;exact ac (Xu h) ((WW _).trans (Xo h).symm);rw[Yn h]) ?_;obtain⟨B,rfl⟩:=VZ d;generalize a.toNat - A.toNat=c;rcases aaq c B with h|h
 ·rw[Vz];exact ac (Xu h) (ac (Zu (Yc (Int.ofNat_le.mpr h))) (Xf _ _))
 ·rw[Vz];exact ac (Yn h) (ac (Y9 (aaQ (Int.ofNat_le.mpr h))) (WW _).symm)
theorem xH {d:Lt} {x:Nat} (Q:x < 3) (u:0<=d.n x/\d.n x<=999999) (R:iJ d.L) {z:List Nat} (hz:∀a∈z,V9 a=UZ) {s nm:Vd} (y:al nm=[97+x]) (hs:al (b8 s x)=z++io x (f8 d x)):re s d.w d.L nm (d.n x) x:=by
 have N:=la u.1 u.2 R;have D:=uL u.1 u.2;have V:=Jj D N.is ((d.w.fdiv (36^x)).fmod 36);have A:(f8 d x=al (bN (d.n x) d.L)/\(wA d.w x).toNat=0/\(wB d.w x).toNat=0)∨f8 d x=34::(aS (wA d.w x).toNat (wB d.w x).toNat (al (bN (d.n x) d.L))++[34]):=by
  have:=V.un;rw[BD,BE] at this;have e:f8 d x=(match ed (bN (d.n x) d.L) ((d.w.fdiv (36^x)).fmod 36) with|0=>al (bN (d.n x) d.L)|_=>34::(aS ((d.w.fdiv (36^x)).fmod 3).toNat (((d.w.fdiv (36^x)).fdiv 3).fmod 3).toNat (al (bN (d.n x) d.L))++[34])):=by unfold f8;rw[BD,BE]
  exact ac e this
 have k:=lZ D N.is;refine aG N.is.head λc r I B=>(aG N.is.last λl e J C=>?_)
 have F:=D.dig c B;have S:=D.dig e C;have j:=II d.w x;have m:=IJ d.w x;have i:∃K f,io x (f8 d x)=K++[f]/\V9 f=U0:=by
  rcases A with ⟨h,_,_⟩|h
  ·exact(bL ((97+x)::61::l) e (ac h (ac J rfl)) (jU e (by lia) (by lia)))
  ·exact(bL ((97+x)::61::34::aS (wA d.w x).toNat (wB d.w x).toNat (al (bN (d.n x) d.L))) 34 (ac h rfl) (jU 34 (by lia) (by lia)))
 refine aG i λK f G T=>?_;have o:al (Wh (b8 s x))=io x (f8 d x):=zy (l:=UZ) (r:=UZ) (t:=[]) (by refine ac hs ?_;rw[VY]) (λh=>by cases h) (λh=>by cases h) hz (λb h=>nomatch h) (show io x (f8 d x)=(97+x)::61::f8 d x from rfl) (jU _ (by lia) (by lia)) G T;have U:(f8 d x).length<=100:=by
  have g:=N.len;rw[<-aH] at g;rcases A with ⟨h,_,_⟩|h
  ·refine ac h ?_;lia
  ·refine ac h ?_;unfold aS cJ;simp;exact U3 (VF (jO j) (VF g (WG (jO m)))) (by decide)
 have p:(Wh (b8 s x)).length<=900:=by rw[<-aH];refine ac o ?_;show(f8 d x).length+2<=900;lia
 have E:=QK Q y o k (bL c r I (F)) A p;have M:al (et s x)=aS (wA d.w x).toNat (wB d.w x).toNat (al (bN (d.n x) d.L)):=E.val;have W:(et s x).length<=400:=by have g:=N.len;rw[<-aH] at g ⊢;refine ac M ?_;unfold aS cJ;simp;exact U3 (VF (jO j) (VF g (jO m))) (by decide)
 have st:∀a:Int,0<=a->a<=4->iD (et s x) a.toNat (mc (et s x) a) (me (et s x) a)/\al (d8 (et s x) a)=aS ((wA d.w x).toNat - min a.toNat (wA d.w x).toNat) ((wB d.w x).toNat - min (a.toNat - min a.toNat (wA d.w x).toNat) (wB d.w x).toNat) (al (bN (d.n x) d.L)):=
  λa h0 v=>Lb M I J (by lia) (by lia) (by lia) h0 v
 have X:=(st (wA d.w x) j.1 (by lia)).2;have q:al (d8 (et s x) (wA d.w x))=al (bN (d.n x) d.L)++cJ (wB d.w x).toNat:=by refine ac X (ac (show(wA d.w x).toNat - min (wA d.w x).toNat (wA d.w x).toNat=0 from ac (Nat.min_self _) (WW _)) (ac (show(wB d.w x).toNat - min 0 (wB d.w x).toNat=(wB d.w x).toNat from congrArg (_ - ·) (Nat.zero_min _)) ?_));rfl
 have H:(d8 (et s x) (wA d.w x)).length<=500:=by have g:=N.len;rw[<-aH] at g ⊢;refine ac q ?_;unfold cJ;simp;exact U3 (VF g (jO m)) (by decide)
 refine aN (Hv D N.is q H) λY Z=>⟨E.elt,N.x,U3 N.len (by decide),λa h0 v=>⟨(st a h0 v).1,fN ?_⟩,Y,Z⟩
 refine aN (y7 j m h0) λO P=>(ac ((st a h0 v).2) ?_)
 unfold Bf;rw[aO,aO,oE O.1 O.2];refine ac (oE P.1 P.2) ?_;refine ac (Uh j.1 h0) ?_;rw[Ui j.1 m.1 h0];rfl
theorem O3 {d:Lt} (i:∀x,x < 3->0<=d.n x/\d.n x<=999999) (p:iJ d.L) (H:10<=d.W):rf (dj d) d.a d.b d.c d.L d.w:=by
 have N:=λx f=>la (i x f).1 (i x f).2 p;have V:=λx f=>Jj ((λx f=>uL (i x f).1 (i x f).2) x f) (N x f).is ((d.w.fdiv (36^x)).fmod 36);refine cy (K7 (d:=d) (V 0 (by decide)) (V 1 (by decide)) (V 2 (by decide))) λm r t u I=>?_;have j:(km (dj d)).L=⟨U0,U0,r++(32::io 2 (f8 d 2)),[32::io 0 (f8 d 0),m++(32::io 1 (f8 d 1))]⟩:=I;have v:al (b8 (dj d) 2)=r++(32::io 2 (f8 d 2)):=congrArg LS.part j;have g:(km (dj d)).xs.map al=[32::io 0 (f8 d 0),m++(32::io 1 (f8 d 1))]:=congrArg LS.xs j;obtain⟨y,A,f⟩:=uw (show(km (dj d)).xs.length=2 by have:=congrArg Xd g;rw[VA] at this;exact this);rw[f] at g;have h0:al y=32::io 0 (f8 d 0):=(Yd g).1;have B:al A=m++(32::io 1 (f8 d 1)):=(Yd (Yd g).2).1;have C:b8 (dj d) 0=y:=by show ay Vl (km (dj d)).xs 0=y;refine ac f ?_;rfl
 have D:b8 (dj d) 1=A:=by show ay Vl (km (dj d)).xs 1=A;refine ac f ?_;rfl
 have E:∀z,pX z->∀a∈z++[32],V9 a=UZ:=λz o a J=>by
  rcases List.mem_append.mp J with q|q
  ·rcases o with rfl|rfl
   ·cases q
   ·refine ac (List.mem_singleton.mp q) ?_;exact K8
  ·refine ac (List.mem_singleton.mp q) ?_;exact zz
 have K:=xH (d:=d) (x:=1) (by decide) (i 1 (by decide)) p (z:=m++[32]) (E m t) (s:=dj d) (nm:="b") rfl (by refine ac D ?_;rw[B,Vk];rfl);have M:=xH (d:=d) (x:=2) (by decide) (i 2 (by decide)) p (z:=r++[32]) (E r u) (s:=dj d) (nm:="c") rfl (by refine ac v ?_;rw[Vk];rfl);have F:∀x,x < 3->(f8 d x).length<=100:=λx f=>by
  have l:=(N x f).len;rw[<-aH] at l;have R:=bb ((d.w.fdiv (36^x)).fmod 36) (by decide:(0:Int) < 3);have a2:=bb (((d.w.fdiv (36^x)).fmod 36).fdiv 3) (by decide:(0:Int) < 3);have O:=bb (d.w.fdiv (36^x)) (by decide:(0:Int) < 3);have P:=bb ((d.w.fdiv (36^x)).fdiv 3) (by decide:(0:Int) < 3);unfold f8;rw[BD,BE];generalize ed _ _=k;induction k using WE with
  |zero=>exact U3 l (by decide)
  |succ k=>refine(?_:(34::(aS _ _ _++[34])).length<=100);unfold aS cJ;simp;exact U3 (VF (jO O) (VF l (WG (jO P)))) (by decide)
 have o:∀z,pX z->z.length<=1:=λz h=>by rcases h with rfl|rfl<;>decide
 have G:∀x,x < 3->(al (eL d x)).length<=216:=λx f=>by rw[aH,j7];have:=ib (OZ p i) f;grind
 refine⟨⟨?_,?_,?_,?_⟩,(xH (d:=d) (x:=0) (by decide) (i 0 (by decide)) p (z:=[]++[32]) (E [] (.inl rfl)) (s:=dj d) (nm:="a") rfl (ac C (ac h0 rfl))),K,M⟩
 ·refine cy (Jk d) λy1 y2 g1 Q e=>?_;rw[<-aH];refine ac e ?_;simp only[Va];have:=o y1 g1;have:=o y2 Q;have:=G 0 (by decide);have:=G 1 (by decide);have:=G 2 (by decide);grind
 ·refine L_inj (ac C (ac D ?_));refine(?_:(km (dj d)).L=⟨U0,U0,al (b8 (dj d) 2),[al y,al A]⟩);exact ac j (ac v (ac h0 (ac B rfl)))
 ·rw[<-aH,v];refine ac Va ?_;show _+(_+1)≠0;grind
 ·have S:=F 0 (by decide);have T:=F 1 (by decide);have U:=F 2 (by decide);have X:=o m t;have Y:=o r u;refine ac C ?_;rw[D,<-aH,<-aH,<-aH,h0,B];refine ac v ?_;unfold io;simp only[Va,VD];grind
theorem O4 {k:aY} (h:iJ k.L):jt k:=λd b c a=>⟨OZ (ac b h) c,O3 c (ac b h) a⟩
end
section
theorem Ld (l:List Int):jt (dE l):=O4 (by refine(?_:iJ (pS l));rw[xy];exact Hg (xn _))
end
section
open PySem.W PySem.W.X
def q:VB:=view pw [29]
noncomputable def loose:List Vd:=["_wall","CHAR_MAX","_grouping_intervals","_strip_padding","compute_powers","_str_to_int_inner","int_from_string","_int2digits","_digits2int","NL","EMPTYSTRING","_ValueFormatter","_Accumulator","parse_keqv_list","parse_http_list","_law_cells","_law_ruler","_law_sizes","_law_numeral","_law_value","_law_letter","_law_read","_law_taken","_law_day"]
noncomputable def Xt (s:U9):Bool:=xlAt q [] s&&recOk [] s
noncomputable def zC:List U8->Ve->List (Option Xi)
 |[],_=>[]
 |a::r,h=>h.get? a::zC r h
noncomputable def O5:List U8:=[45,59,66,190,197]
def O6 (s:U9):List (Option Xi)×List (Option Xi)×Bool×Bool:=(zC RL s.heap,zC O5 s.heap,(s.heap.get? sysModules).isSome,abi 1 s.toks)
def val (w:V6):List (Option Xi)×List (Option Xi)×Bool×Bool:=((aF w.params).map λp=>UX p.2,O5.map λa=>UX {cls:= .none,data:= .fields #[]},UZ,UZ)
theorem O7:∀w:V6,(fencedOpening treeTable pw w 4000).map (λs=>(s.heap,s.gens,s.drawn,s.toks))=UX (boot_heap w.params,Array.mk [],boot_drawn,boot_toks):=
 boot_open (by rfl') (by decide+kernel) (λs=>by rfl')
theorem Lf {T:String->Option Builtin} {p:VB} {f:U9->α} {R:α} (e:fencedOpening T p w N=UX s) (b:(s.heap.isNs mainGlobals&&s.gens.size==0)=UZ)
  (t:((topRun T p w s.heap.objs.size (s.heap.nsMap mainGlobals "__annotations__") N s (topStub p)).bind λa=>
   match staticsOk (acD p.main.body) s.heap a.heap&&namesBound p a.heap&&gensDone a&&laidKept s.heap a.heap with
    |true=>UX a
    |false=>UY).map f=UX R):(openEnds T p w N).map f=UX R:=by
 unfold openEnds
 rw[e]
 show(topFrom T p w N s).map f=UX R
 unfold topFrom
 rw[b]
 exact t
theorem QL (w:V6):((boot_heap w.params).isNs mainGlobals&&(#[]:Array aaA).size==0)=UZ:=by rfl'
theorem QM:∀(w:V6) (os:OsState),((PySem.W.Fast.tw14082659384304107361 PySem.W.Fast.tw14364793385576792824 YA w (boot_heap w.params).objs.size ((boot_heap w.params).nsMap mainGlobals "__annotations__") 4000 ⟨boot_heap w.params, #[],boot_drawn,boot_toks,os⟩ (topStub YA)).bind λa=>
  match staticsOk (acD pw.main.body) (boot_heap w.params) a.heap&&namesBound pw a.heap&&gensDone a&&laidKept (boot_heap w.params) a.heap with
   |true=>UX a
   |false=>UY).map (λs=>(PySem.W.Fast.tw4187177175401517315 q loose (acD pw.main.body) Xt UZ s,O6 s))=UX (openGood q loose,val w):=λw os=>by rfl'
theorem left:LeftO pw q loose Xt O6 val 4000:=λw=>by
 refine aj (Option.map_eq_some_iff.mp (O7 w)) λa e b=>?_;obtain⟨h,gs,d,k,os⟩:=a;obtain⟨rfl,rfl,rfl,rfl⟩:h=boot_heap w.params/\gs=Array.mk []/\d=boot_drawn/\k=boot_toks:=by simpa using b
 have t:=QM w os;rw[<-PySem.W.Fast.te14082659384304107361,<-PySem.W.Fast.te14364793385576792824,<-PySem.W.Fast.te4187177175401517315] at t;exact Lf e (QL w) t
theorem QN:OpenLaw.wellSaid PySem.Challenge.rw_jc0042_01=UZ:=by rw[PySem.W.Fast.te9446332074065402090];rfl'
end
section
noncomputable def fJ:List U8:=[45,59,66,190,197]
noncomputable def zD:Xi:={cls:= .none,data:= .fields #[]}
theorem xI:∀t∈oR,t.P∈fJ:=by decide+kernel
def xJ (P:Vc) (c:U8):Xi:=((aF P).lookup c).getD zD
noncomputable def Jm:Data->Array U4
 | .fields vs=>vs
 |_=> #[]
theorem Lg (P:Vc):∀a∈fJ,∃c ob vs,(c,ob)∈aF P/\ob.cls= .type "code"/\ob.data= .fields vs/\vs[11]?=UX (.ref a):=λa d=>by
 have b:∀c,(aF P).lookup c=UX (xJ P c)->(xJ P c).cls= .type "code"->(xJ P c).data= .fields (Jm (xJ P c).data)->(Jm (xJ P c).data)[11]?=UX (.ref a)->∃c ob vs,(c,ob)∈aF P/\ob.cls= .type "code"/\ob.data= .fields vs/\vs[11]?=UX (.ref a):=λc e f g h=>⟨c,_,_,cA e,f,g,h⟩
 simp only[fJ,WL,WT,or_false] at d;rcases d with rfl|rfl|rfl|rfl|rfl
 ·exact b 49 (by rfl') (by rfl') (by rfl') (by rfl')
 ·exact b 63 (by rfl') (by rfl') (by rfl') (by rfl')
 ·exact b 70 (by rfl') (by rfl') (by rfl') (by rfl')
 ·exact b 194 (by rfl') (by rfl') (by rfl') (by rfl')
 ·exact b 201 (by rfl') (by rfl') (by rfl') (by rfl')
theorem Eg (P:Vc):∀p∈aF P,p.1≠sysModules/\p.1∉fJ:=λp a=>by have:=List.all_eq_true.mp (by rfl':(aF P).all (λp=> !(p.1==sysModules)&& !fJ.contains p.1)=UZ) p a;simpa using this
theorem Lh {l:List Int} {vs:List U4} (m:cR J) (D:∀p∈aF w.params,s.heap.get? p.1=UX p.2) (u:∀a∈fJ,s.heap.get? a=UX zD)
  (H:(s.heap.get? sysModules).isSome=UZ) (i:1<=s.toks) (I:s.gens= #[]) (E:s.heap.get? a=UX (bT vs 0)) (hi:Ww vs l) (hl:l.length<=63) (K:a≠sysModules):
  XB (Vi J w) callerA (.call (.ref 306) ⟨[.ref a],[]⟩) (λr s'=>r= .ok (.ret (.bool UZ))/\OldK s.heap s'.heap/\s'.os=s.os/\AllBare s'.gens) s:=by
 have j:∀{b o},s.heap.get? b=UX o->b≠sysModules->b∉fJ->(sub s.heap λb=>b≠sysModules/\b∉fJ).get? b=UX o:=λe L v=>dZ e ⟨L,v⟩
 have z:∀a∈fJ,(sub s.heap λb=>b=sysModules).get? a=UY:=λa h=>fC λe=>absurd (e▸h) (by decide)
 have A:a∉fJ:=λh=>by have:=u a h;rw[E] at this;cases this
 have M:DR (sub s.heap λb=>b≠sysModules/\b∉fJ) (.ints l) (.ref a):= .ints (j E K A) hi
 refine OV m (sub s.heap λb=>b=sysModules) ⟨s.os,λd d=>False⟩ callerA (sub s.heap λb=>b≠sysModules/\b∉fJ) [] s [.dat (.ints l)] [.ref a] [] (.bool UZ) [] _ _ ?_ ⟨by decide,by decide,rfl⟩ ?_ (.cons (.dat M) .nil) rfl ⟨⟨rfl,rfl,hl,Ld l⟩,trivial⟩ ?_
 ·refine bI (Option.isSome_iff_exists.mp H) λo N=>(?_:(Heap.get? _ _).isSome=UZ)
  refine ac (dZ (P:=λb=>b=sysModules) N rfl) ?_;rfl
 ·refine⟨⟨sub_le,(sub_le:Le (sub s.heap λb=>b=sysModules) s.heap),λp m=>j (D p m) (Eg _ p m).1 (Eg _ p m).2,rfl,λd d d d d h=>(nomatch h),λd d h=>(nomatch h),λd d h=>(nomatch h),λb o e=>fC λh=>h.1 (qb e).2,λt i=>⟨zD,u _ (xI t i),(aA (#[]) rfl (.inl rfl)),z _ (xI t i),fC λh=>h.2 (xI t i)⟩,λd d d d h=>(nomatch h)⟩,rfl,⟨λy F=>?_,λd d h=>h.elim⟩,i⟩;rw[I] at F;simp at F
 ·intro O s' x Q n R;cases R;have keep:∀b o,s.heap.get? b=UX o->b∉fJ->s'.heap.get? b=UX o:=λb o e f=>by
   by_cases h:b=sysModules
   ·exact n.hr.gle _ _ (dZ e h)
   ·exact n.hr.fzle _ _ (Q _ _ (j e h f))
  have g:∀a∈fJ,∃k,s'.heap.get? a=UX {cls:= .none,data:= .fields k}:=λa h=>by
   have v:a∈oR.map fB.P:=h;refine aj (List.mem_map.mp v) λt i B=>(aD B ?_)
   refine ca (n.hr.tab t i) λG q C d=>?_;obtain⟨k,rfl,_⟩:=C;exact⟨k,q⟩
  refine⟨rfl,⟨λb o e=>?_,λb o e=>?_⟩,n.os,n.bare.bare⟩
  ·by_cases f:b∈fJ
   ·refine bI (g b f) λk q=>?_;rw[u b f] at e;cases e;refine jg (Lg w.params b f) λc G vs S T U V=>?_;exact .inr (.inl ⟨⟨c,G,vs,D _ S,T,U,V⟩,rfl, #[],k,rfl,by refine ac q (ac Array.empty_append ?_);rfl⟩)
   ·exact .inl (keep b o e f)
  ·by_cases f:b∈fJ
   ·refine bI (g b f) λk q=>?_;exact⟨_,q⟩
   ·exact⟨o,keep b o e f⟩
end
section
open PySem.W PySem.W.X
theorem Li:cR pw:=⟨by rfl',by rfl'⟩
theorem QO {v:U4} {i:Int} (w:Well P h v (.int i)):∃t,v= .int i t:=by cases w;exact⟨_,rfl⟩
theorem O8 {v:U4} {xs:List WData} (w:Well P h v (.list xs)):∃a vs,v= .ref a/\h.get? a=UX {cls:= .type "list",data:= .seq vs.toArray}/\WellAll P h vs xs:=by cases w with|list a b=>exact(cY _ _ rfl a b)
theorem Eh {vs:List U4} {d:WData} {ds:List WData} (w:WellAll P h vs (d::ds)):∃v r,vs=v::r/\Well P h v d/\WellAll P h r ds:=by cases w with|cons a b=>exact(cY _ _ rfl a b)
theorem Ei {vs:List U4} (w:WellAll P h vs []):vs=[]:=by cases w;rfl
theorem Hw {xs:List WData}:∀{vs:List U4},WShape.hasItems [] xs .int=UZ->WellAll P h vs xs->∃l:List Int,Ww vs l/\l.length=xs.length:=by
 induction xs with
 |nil=>intro vs _ w;refine ac (Ei w) ?_;exact⟨[], .nil,rfl⟩
 |cons x r d=>
  intro vs e w;have c:WShape.has [] x .int=UZ/\WShape.hasItems [] r .int=UZ:=by simpa[WShape.hasItems] using e
  refine cy (Eh w) λv j η a b=>?_;refine ac η ?_;obtain⟨i,rfl⟩:=hasW_int c.1;refine aj (d c.2 b) λl f g=>?_;obtain⟨t,rfl⟩:=QO a;exact(aA (i::l) (.cons i t f) (congrArg Z9 g))
theorem BF:∀(l:List (U8×Xi)) (h:Ve),zC (l.map (·.1)) h=l.map (λp=>UX p.2)->∀p∈l,h.get? p.1=UX p.2
 |[],_,_,_,h=>nomatch h
 |q::r,h,e,p,a=>by
  have b:h.get? q.1::zC (r.map (·.1)) h=UX q.2::r.map (λp=>UX p.2):=e;obtain⟨c,d⟩:=Yd b;rcases List.mem_cons.mp a with rfl|f
  ·exact c
  ·exact BF r h d p f
theorem Lj {c:Vd->Option U4} (x:h.Ns a mg) (y:h.Ns a c) (n:Vd):mg n=c n:=by refine jg x λo l m e f b g=>?_;refine jg y λp i j g1 d b k=>?_;rw[e] at g1;cases g1;rw[f] at d;cases d;exact(g n).symm.trans (k n)
theorem Ej (xs:List WData):PySem.Challenge.rw_jc0042_01.row.claim.post [.list xs] (.bool UZ) [.list xs]=UZ:=by show(WShape.has [] (.bool UZ) .bool&&WTm.holds [] (.eq .res (.lit (.bool UZ))) _)=UZ;refine ac (holdsW_of_value (w_eq_bool (k:=UZ) (l:=UZ) (by simp only[WTm.value]) (by simp only[WTm.value]))) ?_;simp[WShape.has,WShape.arms]
theorem Hx {R:WRecords} {cl:Vd->Option U8} {xs:List WData} (r:ReadsW R cl h (.ref a) (.list xs) as):a∈as:=by cases r;exact .head _
theorem O9 {R:WRecords} {cl:Vd->Option U8} {v:U4} {vs:List U4} {d:WData} {ds:List WData} (r:ReadsAllW R cl h (v::vs) (d::ds) as):∃a b,as=a++b/\ReadsW R cl h v d a:=by cases r with|cons x _=>exact(bL _ _ rfl x)
theorem cw:PySem.Challenge.rw_jc0042_01.Holds:=by
 refine holds_law QN λm=>?_;refine holds_openX (q:=q) (loose:=loose) (Xt:=Xt) (XP:=XL q []) (Yf:=O6) (Ya:=val) (N:=4000) left (λs e=>xl_of s (Bool.and_eq_true_iff.mp e).1) XL.keeps (by rfl) (by rfl) (by rfl) (λs e=>recFacts_of (Bool.and_eq_true_iff.mp e).2) (by rfl) m (by decide+kernel) ⟨rfl,rfl,rfl,rfl,rfl,by decide+kernel⟩ ?hw ?hc
 case hw=>w_witness2
 case hc=>
  intro w i f mg mb G y V o pm cd a1 dV kV ho hd a2 hD H hg W Y as L n Z I z J;obtain⟨y1,y2⟩:=aar y;obtain⟨y2,K⟩:=aar y2;obtain⟨K,y4⟩:=aar K;obtain⟨M,O⟩:=pre_splitW (r:=PySem.Challenge.rw_jc0042_01.row.toRowW) n;refine cy (hasAllW_cons M) λd r j P Q=>?_;subst j;obtain rfl:=hasAllW_nil Q;refine aj (hasW_list P) λF j R=>?_;subst j;refine cy (Eh z) λv vr η A B=>?_;subst η;obtain rfl:=Ei B;refine cy (O8 A) λa vs η ha S=>?_;subst η;clear A B z;refine aj (Hw R S) λl hi C=>?_;have U:a≠sysModules:=aG (O9 I) λu b e r q=>absurd (J a (ac e (ade _ (Hx r)))) (by refine ac q ?_;decide);have D:l.length<=63:=by
   refine ac C ?_;have h:=condW_of (X:= !decide ((63:Int) < (F.length:Int))&&UZ) (t:= .and (.not (.lt (.lit (.int 63)) (.len (.arg 0)))) (.lit (.bool UZ))) O (w_and (w_not (w_lt (by simp only[WTm.value]) (w_len_list (xs:=F) (by simp only[WTm.value];rfl)))) (by simp only[WTm.value]));have h2:(F.length:Int)<=63:=by simpa using h
   lia
  have hK:∀p∈aF w.params,f.heap.get? p.1=UX p.2:=λp hp=>L.keeps _ _ (BF _ _ (Eq.trans (congrArg (λx=>zC x i.heap) (by rfl')) y1) p hp);have hT:∀a∈fJ,f.heap.get? a=UX zD:=λa h=>by exact L.keeps _ _ (BF (O5.map λa=>(a,zD)) _ y2 (a,zD) (List.mem_map.mpr (aA a h rfl)))
  have E:V=306:=by have:=Lj G.T.g (CN f.heap hK) "law";rw[show mg "law"=UX (.ref V) from H] at this;cases this.trans (show fv gW "law"=UX (.ref 306) by rfl');rfl
  refine ac E ?_;refine enter_call (codeAny_mono (Lh Li hK hT ?_ ?_ hg ha hi D U) λr s' ξ=>pZ ξ λe h1 h2 h3=>⟨.inl ⟨.bool UZ, .bool UZ,[],e,λc=>rfl, .bool _,Ej _,λc=>⟨.nil,λc h=>nomatch h⟩⟩,h1,h2,h3⟩)
  ·obtain⟨ob,h⟩:=Option.isSome_iff_exists.mp (show(i.heap.get? sysModules).isSome=UZ from K);refine ac (L.keeps _ _ h) ?_;rfl
  ·refine aj L.laid λord a0 k=>?_;exact U3 (Wf y4) (layAllW_grows _ _ _ k).toks
end
end
end Mine.Internal
theorem PySem.Challenge.cw_jc0042_01_holds : PySem.Challenge.rw_jc0042_01.Holds :=
  Mine.Internal.cw
