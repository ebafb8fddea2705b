import PyProof.Rows.All
import Wide.All
import OpenK.AllK
import Wide.FinOn
import KE.KIntText
import PySem.Challenge.RW_jc0042_01
open Option renaming some->UV, none->UW, bind_some->We, map_some->abu
open Bool renaming true->UX, false->UY, and_eq_true->VO, false_ne_true->VT, false_eq_true->Xi, not_eq_true'->XV, or_eq_true->abL, false_and->ab5, and_eq_true_iff->ac0
open PySem renaming wpAny_bind->UZ, Value->U2, wpAny_pure->U3, Addr->U6, Shared->U7, sizeLine->U9, Params->Va, Str->Vb, Heap->Vc, wpAny->Vf, model->Vg, Around->Vk, wpAny_holding->Vo, Expr->Vs, FuncData->Vv, Program->Vz, wpAny_mono->VF, IntMulOk->VJ, sizeLine_eq->VK, wpAny_standAt->VL, Stmt->VY, wpAny_newObj_type->V4, World->V6, DictEntry->Wg, NameKind->Wk, eval->Wq, recursionLimit->Wt, builtinKind->WA, holding->WB, wpAny_loadName_local->WD, strKind->WI, standAt->WK, rawInt->WM, starEach->WO, Operator->WV, compareOp->WZ, getMethod->W0, wpAny_field->W6, seg_execs_cons->W8, wpAny_specialOf->Xa, Obj->Xg, Sem->Xh, wpAny_call_entry->Xn, wpAny_call->Xq, binaryOp->Xy, codeAny->Xz, typeIs_str->XB, cellsFrom->XE, wpAny_items_cons->XJ, Pos->XN, Scope->XO, wpAny_of_eq->XQ, backTo->XU, codeAny_of_tree->XZ, theTreesLotGoes->X0, behindInMarks->X2, wpAny_onRaise->X3, BindsTo->Yd, Env->Yi, interactive->Yn, typeLookup->Yq, isInstance->Yr, getItem->Yu, getAttrByItsOwn->YK, call_meets->YM, wpAny_callSpecial?_slot->YP, CmpOp->YV, truthy->YW, setItem->YX, letTemporaryGo->YY, wpAny_mkText->Y0, callWith->Y1, wpAny_seqItems->Y3, intText?->Y4, getMethod_builtin->Y5, wpAny_listPart->Y6, checkBoundCall->Y8, assignEach->Zn, wpAny_load->Zo, codeAmong->Zp, checkBuiltinCall->Zq, wpAny_isInstance->Zr, attributeBase->Zt, wpAny_attempt->Zu, Model->Zx, wpAny_letTemporaryGo->Zy, codeAny_call_builtin->Zz, wpAny_with_toks->ZF, assign->ZG, wpAny_updateSeq->ZH, codeAny_builtin->ZI, wpAny_items_nil->ZJ, Tok->ZN, holding->ZO, callSpecial?->ZP, seqIndex?->ZQ, keeperOf->ZT, Result->ZU, callEnvC->ZV, typeIs_int->ZW, boundAndCalled->ZX, wpAny_loadPart->ZY, argsOk->ZZ, slot_listiter_next->Z0, execs->aaf, splitId->aag, sliceBounds->aah, typeOf->aam, GenState->aay, noteFrame->aaz, specialOf->aaA, seg_wrap->aaB, operate->aaH, getAttr->aaI, pyIter->aaJ, pyNext->aaK, nsPutIn->aaL, wpAny_typeOf->aaM, letOwnedTupleGo->aaQ, wpAny_loadPart'->aaS, exec->aaU, wpAny_pyIter_listiter->aaV, builtinLookup_eq_fast->aaX, unpackItems->aa3, isTrue->aa4, methodCallForm->aa5, subscripted->aa6, firstArgMember->aa8, newFields->abb, spliced->abc, fitsSsize->abd, builtinType_eq_fast->abk, comprehension->abs, wpAny_listSubscript_int->abt, seg_execs_nil->abx, callMarked->aby, closureFor->abB, wpAny_rule->abC, loadName->abQ, foldedSetIterable->abR, wpAny_assign_Name->abT, wpAny_pyIter_list->abU, entryFor->abW, inplaceOp->acb, storeName->acd, IsPart->acg, callGetattribute->ach, wpAny_askSetting->acj, notIterableAtAll->acl, intKind->acm, keywordEach->acp, typeLookup_type->acw, release->acC, forTurn->acE, wpAny_newFunctionEnv_cells->acK, JoinOk->acM, PyData->acO, wpAny_fieldsOf->acP, strKind_is->acR, intKind_is->acT, leafOf->acX, seg_Expr_Yield->acY, arm_eval_Call->adc, methodCallPos->ade, Seg->ado, markedBehindIn_of_false->adp, seqItems?->adr, partValue->ads, ClassData->adu
open Option.some renaming inj->U0
open Nat renaming le_trans->U1, le_of_eq->Ve, lt_of_le_of_lt->Vl, le_add_right->Vm, lt_of_lt_of_le->Vq, le_refl->Vr, add_le_add_right->Vt, beq->VA, add_le_add->VD, eq_of_beq_eq_true->VI, add_right_comm->VU, le_of_ble_eq_true->Wd, add_comm->Wi, sub_add_cancel->Wm, le_add_left->Wp, succ_pos->Wv, le_of_lt->Wy, casesOn->WC, succ_le_succ->WE, add_le_add_left->WF, le_succ->WG, pow_le_pow_right->WP, lt_irrefl->WT, sub_self->WU, zero_le->W2, add_sub_cancel_left->W4, not_lt_zero->W7, sub_eq_zero_of_le->Xm, min_eq_left->Xr, two_pow_pos->Xs, lt_succ_of_lt->Xv, mul_le_mul_right->Xw, pow_add->XC, one_mul->XD, lt_trans->XG, sub_le->XI, le_of_succ_le_succ->XK, add_sub_of_le->XW, lt_succ_of_le->XX, blt->Yh, add_zero->Yk, min_eq_right->Yl, add_assoc->Yv, le_antisymm->Yw, sub_lt->Yx, one_pos->YC, add_mul->YE, lt_or_ge->YL, ne_of_gt->YN, sub_pos_of_lt->YO, not_succ_le_zero->Zd, lt_sub_of_add_lt->Ze, zero_mul->ZA, toDigits->ZD, add_sub_cancel->ZM, succ->Z7, lt_succ_self->Z8, le_of_not_lt->Z9, lt_add_of_pos_right->aab, toDigits_of_lt_base->aad, lt_of_succ_lt_succ->aak, ne_of_lt->aal, le_total->aao, pow_succ->aaq, mul_comm->aas, zero_add->aat, sub_eq_of_eq_add->aaP, mul_le_mul_left->aaY, mod_lt->aa9, ble->abg, beq_refl->abh, le_succ_of_le->abl, le_of_succ_le->abn, succ_lt_succ->abD, not_lt_of_le->abE, log2_lt->abN, div_le_self->abY, mul_lt_mul_of_pos_right->ab8, sub_lt_right_of_lt_add->acn, shiftRight_eq_div_pow->acs, mul_zero->acQ, div_div_eq_div_mul->acV, testBit_shiftRight->acW, testBit_shiftLeft->ac9, cast->adf, eq_of_testBit_eq->adl, le_sub_of_add_le->adm, add_lt_add_left->adv
open List renaming prefix_refl->U4, length_append->U8, append_assoc->Vi, prefix_append->Vn, length_map->Vy, length_cons->VB, casesOn->VE, getElem?_eq_getElem->VG, size_toArray->VH, getElem?_append_right->VS, append_nil->VW, map_append->VZ, replicate->V8, range->V9, map_cons->Wa, getElem?_toArray->Wh, getElem?_append_left->Wl, getElem?_eq_none->Ws, mem_cons->WJ, foldl_append->WQ, mem_nil_iff->WR, mem_of_getElem?->WX, map_congr_left->W9, length->Xb, lookup_cons->Xc, cons_append->Xe, flatten_cons->Xu, map_map->Yg, reverse_append->Ym, getElem?_map->YH, map->YJ, length_singleton->YR, length_take->YS, length_drop->YU, forIn_cons->Zg, nil_append->Zh, foldl_cons->Zj, find?_cons->Zl, dropLast_concat_getLast->Zm, mem_singleton->ZE, take_length->Z4, not_mem_nil->Z6, take_of_length_le->aai, of_mem_zip->aaj, length_nil->aan, mem_append_right->aaw, length_replicate->aax, getElem?_set_ne->aaC, drop_zero->aaF, getElem?_range->aaR, any_cons->aaW, getElem?_take->aaZ, ext_getElem?->abf, replicate_append_replicate->abp, take_left->ab1, getD_eq_getElem?_getD->ab3, perm_append_singleton->ab9, sum_cons->acq, getElem?_cons_succ->acu, filter_cons_of_neg->acA, getElem?_set_self->acB, map_nil->acH, zipWith->acI, reverse_singleton->acJ, eraseIdx_toArray->acN, singleton_append->acU, dropLast_concat->ac4, mem_cons_of_mem->ac6, mem_append_left->ada, length_dropLast->adb, replicate_succ->adg, take_succ_cons->adh, filter_append->adw, getElem?_drop->adz
open PySem.Builtin.Int renaming intBits->U5
open True renaming intro->Vd
open PySem.IntMulOk renaming of_left->Vh
open PySem.Str renaming empty->Vj, ofString->WL, join->aac, length->aba
open Int renaming natCast_nonneg->Vp, toNat_natCast->Vx, le_trans->VM, toNat_of_nonneg->VN, eq_ofNat_of_zero_le->VX, fmod_eq_emod_of_nonneg->V5, fdiv_eq_ediv_of_nonneg->Wj, le_of_lt->Ww, toNat_lt->WW, add_nonneg->W3, toNat_sub->Xd, lt_of_lt_of_le->Xk, lt_trans->XF, add_sub_cancel->XM, toNat->XS, add_le_add_right->X8, sub_nonneg_of_le->X9, negSucc_lt_zero->Yo, le_refl->YA, max_eq_right->Y7, negSucc->Zb, le_of_lt_add_one->Zf, max_eq_left->Zs, add_zero->ZB, le_of_eq->ZC, lt_of_le_of_lt->ZK, le_add_of_nonneg_right->ZL, one_mul->ZR, add_mul->ZS, zero_add->aar, add_le_add->aaN, sub_nonpos_of_le->aaO, mul_assoc->aa1, ofNat_sub->aa2, add_comm->abj, mul_le_mul_of_nonneg_left->abO, lt_succ->abP, natCast_add->abX, natCast_mul->abZ, le_add_one->aco, two_mul->adk, natAbs_of_nonneg->adn, add_le_add_left->ady
open PySem.Heap renaming get?_push_of_some->Vw, get?_push_size->VV, lt_size->Wc, SameBut->WS, get?_update_self->Xl, ExtBut->X1, size_push->ab4
open PySem.Expr renaming casesOn->VC, Slice->aae, Name->acy
open PySem.SeqAt renaming shaped->VP, canLay_of_shaped->aaa, EqAt->adi
open PySem.Heap.SameBut renaming update->VQ
open PySem.Unicode renaming isSpace->V7
open PySem.PyData renaming keyHash->Wb, eqvAll->XH, int->XY, eqv->Ys, str->Yt, canLayAll0->YD, depthAll->Za, canLay0->Zw, depth->Z5
open PySem.Txt renaming strip->Wf, slice->Wr, join->Wx, charAt->Xx, item->X5, rstrip->X7, mul->Yj, isspace->abK, replace->abM
open PySem.W renaming InstAt->Wn, specialIn->ab7
open PyProof.Rows renaming IntsAre->Wu, subscriptTail->WN, lookup_of_mem_nodup->abi, add_int->abI, len_str->abJ, cellsFrom_names->act
open PySem.Builtin.List renaming listSubscript?->WH, listItems->WY, listFitsIndex->YT, listTooLong->Zk, listUpdate->Zv, listSameRef->abe
open PySem.Sem renaming bind_eq_wrap'->W5, wrap_wrap->XT
open PySem.Value renaming none->Xf, ref->X6, int->aaD, casesOn->aaT, builtin->aci, isStrOf_shape->ac7, bool->adj
open PySem.Obj renaming mapSeq->Xj, putName->Zc, mapFields->Z1, data_mapFields->aa7, isFreed_of_fields->ac5
open PySem.Around renaming under_plainId->Xo, under_of_weight->Yz
open PySem.Builtin.Str renaming strKind->Xp, occurrences->Ye, partsBetween->abm
open Nat.succ renaming inj->XA
open PySem.MeetsSeq renaming plain_remove_loop->XR, entry_remove_loop->abw
open PySem.Builtin.Range renaming rangeSize->X4, small->YI
open List.cons renaming inj->Yb
open ForInStep renaming yield->Yc
open Array renaming eraseIdxIfInBounds->Yp, getElem?_toList->YQ, length_toList->Zi, getElem?_eq_getElem->ab6, getElem?_push_lt->acx, toList_extract->acZ
open PySem.Challenge renaming pw_jc0042_01->Yy
open PySem.Calls renaming callWith_builtin->YF, loadGlobal_builtin->abz
open Classical renaming em->Y2, byContradiction->abq
open PySem.Stmt renaming casesOn->Y9
open PySem.F renaming plainAttrs_list->Z2, args_list_append_2->abA, entry_list_append->abF, slot_list_append->abS, entry_list_pop->acf, args_list_getattribute_2->acv, slot_set_pop->acz, args_list_setitem_3->adq, args_list_getitem_2->adt
open PySem.Heap.IsSliceOf renaming new->Z3
open Prod.mk renaming inj->aap, injEq->abV
open PySem.Value.ref renaming inj->aau
open PySem.Manifest renaming signature?->aav, canonical->acF
open PySem.Bind renaming checkArgs->aaE, madeBy->ac1, lastOf->ac3
open PySem.Builtin.Generator renaming genWake->aaG
open PySem.SetTable renaming eraseAt->aa0, insertAt->acS
open Nat.le renaming dest->abo
open PySem.Flow renaming next->abr
open PySem.GM renaming noRef->abv
open PySem.NameKind renaming free->abG, cell->abH
open List.Pairwise renaming map->ab2
open Ne renaming symm->aca
open PyProof renaming noPylong_small->ace
open PySem.StrLaws renaming join_length_le->ack, glued_eq_join->acr
open PySem.Data renaming casesOn->acD
open String renaming length_append->acG
open PySem.callAny renaming viaDunder->ac2
open PySem.Spec renaming bitAnd->ac8
open Int.ofNat renaming inj->adx
set_option Elab.async false
set_option backward.match.sparseCases false
set_option maxHeartbeats 0
set_option tactic.hygienic false
set_option genSizeOf false
set_option genInjectivity false
set_option bootstrap.genMatcherCode false
set_option maxRecDepth 100000
set_option autoImplicit false
set_option linter.unusedVariables false
namespace Mine.Internal
noncomputable section
open PySem PySem.Calls PyProof.Rows
local macro_rules | `(tactic| rfl') => `(tactic| kernel_rfl)
section
section
theorem o4 {α β:Type _} {a c:α} {b d:β} (h:UV (a,b)=UV (c,d)):a=c/\b=d:=⟨congrArg Prod.fst (U0 h),congrArg Prod.snd (U0 h)⟩
@[elab_as_elim] theorem yc {p:Nat->Prop} {i:Nat} (hi:i < 3) (h0:p 0) (h1:p 1) (h2:p 2):p i:=WC (motive:=λi=>i < 3->p i) i (λa=>h0) (λi=>WC (motive:=λi=>i+1 < 3->p (i+1)) i (λa=>h1) λi=>WC (motive:=λi=>i+2 < 3->p (i+2)) i (λa=>h2) λi h=>absurd h (Nat.not_lt.mpr (Wp 3 i))) hi
@[elab_as_elim] theorem ac {α:Sort _} {a b:α} {motive:α->Prop} (h:a=b) (x:motive b):motive a:=h▸x
@[elab_as_elim] theorem aD {α:Sort _} {a b:α} {motive:α->Prop} (h:a=b) (x:motive a):motive b:=h▸x
theorem jf {x n:Nat} (h:x<=n) (k:abg n 16777216=UX):x<=U9:=VK▸U1 h (Wd k)
section
variable {α β γ δ ε ζ:Type}
theorem aA {A B:α->Prop} (a:α) (h0:A a) (h1:B a):∃a,A a/\B a:=⟨a,h0,h1⟩
theorem cE {A B C:α->Prop} (a:α) (h0:A a) (h1:B a) (h2:C a):∃a,A a/\B a/\C a:=⟨a,h0,h1,h2⟩
theorem oF {A B C D:α->Prop} (a:α) (h0:A a) (h1:B a) (h2:C a) (b:D a):∃a,A a/\B a/\C a/\D a:=⟨a,h0,h1,h2,b⟩
theorem Uh {A B C D E F:α->Prop} (a:α) (h0:A a) (h1:B a) (h2:C a) (b:D a) (c:E a) (d:F a):∃a,A a/\B a/\C a/\D a/\E a/\F a:=⟨a,h0,h1,h2,b,c,d⟩
theorem sU {A:α->β->Prop} (a:α) (b:β) (h0:A a b):∃a b,A a b:=⟨a,b,h0⟩
theorem bL {A B:α->β->Prop} (a:α) (b:β) (h0:A a b) (h1:B a b):∃a b,A a b/\B a b:=⟨a,b,h0,h1⟩
theorem cY {A B C:α->β->Prop} (a:α) (b:β) (h0:A a b) (h1:B a b) (h2:C a b):∃a b,A a b/\B a b/\C a b:=⟨a,b,h0,h1,h2⟩
theorem Hy {A B C D:α->β->Prop} (a:α) (b:β) (h0:A a b) (h1:B a b) (h2:C a b) (c:D a b):∃a b,A a b/\B a b/\C a b/\D a b:=⟨a,b,h0,h1,h2,c⟩
theorem l8 {A B C D E:α->β->Prop} (a:α) (b:β) (h0:A a b) (h1:B a b) (h2:C a b) (c:D a b) (d:E a b):∃a b,A a b/\B a b/\C a b/\D a b/\E a b:=⟨a,b,h0,h1,h2,c,d⟩
theorem QN {A B C D E F:α->β->Prop} (a:α) (b:β) (h0:A a b) (h1:B a b) (h2:C a b) (c:D a b) (d:E a b) (e:F a b):∃a b,A a b/\B a b/\C a b/\D a b/\E a b/\F a b:=⟨a,b,h0,h1,h2,c,d,e⟩
theorem Hz {A:α->β->γ->Prop} (a:α) (b:β) (c:γ) (h0:A a b c):∃a b c,A a b c:=⟨a,b,c,h0⟩
theorem Lj {A B:α->β->γ->Prop} (a:α) (b:β) (c:γ) (h0:A a b c) (h1:B a b c):∃a b c,A a b c/\B a b c:=⟨a,b,c,h0,h1⟩
theorem gI {A B C:α->β->γ->Prop} (a:α) (b:β) (c:γ) (h0:A a b c) (h1:B a b c) (h2:C a b c):∃a b c,A a b c/\B a b c/\C a b c:=⟨a,b,c,h0,h1,h2⟩
theorem QO {A B C D:α->β->γ->Prop} (a:α) (b:β) (c:γ) (h0:A a b c) (h1:B a b c) (h2:C a b c) (d:D a b c):∃a b c,A a b c/\B a b c/\C a b c/\D a b c:=⟨a,b,c,h0,h1,h2,d⟩
theorem Ui {A:α->β->γ->δ->Prop} (a:α) (b:β) (c:γ) (d:δ) (h0:A a b c d):∃a b c d,A a b c d:=⟨a,b,c,d,h0⟩
theorem Lk {A B:α->β->γ->δ->Prop} (a:α) (b:β) (c:γ) (d:δ) (h0:A a b c d) (h1:B a b c d):∃a b c d,A a b c d/\B a b c d:=⟨a,b,c,d,h0,h1⟩
theorem Uj {A:α->β->γ->δ->ε->Prop} (a:α) (b:β) (c:γ) (d:δ) (e:ε) (h0:A a b c d e):∃a b c d e,A a b c d e:=⟨a,b,c,d,e,h0⟩
end
theorem via {G:Prop} (h:∀P:Prop,(G->P)->P):G:=h G λx=>x
section
variable {G:Prop}
theorem aN {A B:Prop} (h:A/\B) (k:A->B->G):G:=k h.1 h.2
theorem b9 {A B C:Prop} (h:A/\B/\C) (k:A->B->C->G):G:=aN h.2 (k h.1)
theorem pZ {A B C D:Prop} (h:A/\B/\C/\D) (k:A->B->C->D->G):G:=b9 h.2 (k h.1)
theorem QP {A B C D E:Prop} (h:A/\B/\C/\D/\E) (k:A->B->C->D->E->G):G:=pZ h.2 (k h.1)
theorem yd {A B C D E F:Prop} (h:A/\B/\C/\D/\E/\F) (k:A->B->C->D->E->F->G):G:=QP h.2 (k h.1)
variable {α β γ δ ε ζ η:Type}
theorem bI {A:α->Prop} (h:∃a,A a) (k:∀a,A a->G):G:=h.elim k
theorem aj {A B:α->Prop} (h:∃a,A a/\B a) (k:∀a,A a->B a->G):G:=h.elim λa h=>aN h (k a)
theorem ca {A B C:α->Prop} (h:∃a,A a/\B a/\C a) (k:∀a,A a->B a->C a->G):G:=h.elim λa h=>b9 h (k a)
theorem fA {A B C D:α->Prop} (h:∃a,A a/\B a/\C a/\D a) (k:∀a,A a->B a->C a->D a->G):G:=h.elim λa h=>pZ h (k a)
theorem Uk {A B C D E:α->Prop} (h:∃a,A a/\B a/\C a/\D a/\E a) (k:∀a,A a->B a->C a->D a->E a->G):G:=h.elim λa h=>QP h (k a)
theorem QQ {A B C D E F:α->Prop} (h:∃a,A a/\B a/\C a/\D a/\E a/\F a) (k:∀a,A a->B a->C a->D a->E a->F a->G):G:=h.elim λa h=>yd h (k a)
theorem p9 {A:α->β->Prop} (h:∃a b,A a b) (k:∀a b,A a b->G):G:=h.elim λa h=>bI h (k a)
theorem aG {A B:α->β->Prop} (h:∃a b,A a b/\B a b) (k:∀a b,A a b->B a b->G):G:=h.elim λa h=>aj h (k a)
theorem cy {A B C:α->β->Prop} (h:∃a b,A a b/\B a b/\C a b) (k:∀a b,A a b->B a b->C a b->G):G:=h.elim λa h=>ca h (k a)
theorem ye {A B C D:α->β->Prop} (h:∃a b,A a b/\B a b/\C a b/\D a b) (k:∀a b,A a b->B a b->C a b->D a b->G):G:=h.elim λa h=>fA h (k a)
theorem eX {A B C D E:α->β->Prop} (h:∃a b,A a b/\B a b/\C a b/\D a b/\E a b) (k:∀a b,A a b->B a b->C a b->D a b->E a b->G):G:=h.elim λa h=>Uk h (k a)
theorem QR {A B C D E F:α->β->Prop} (h:∃a b,A a b/\B a b/\C a b/\D a b/\E a b/\F a b) (k:∀a b,A a b->B a b->C a b->D a b->E a b->F a b->G):G:=h.elim λa h=>QQ h (k a)
theorem ky {A:α->β->γ->Prop} (h:∃a b c,A a b c) (k:∀a b c,A a b c->G):G:=h.elim λa h=>p9 h (k a)
theorem mn {A B:α->β->γ->Prop} (h:∃a b c,A a b c/\B a b c) (k:∀a b c,A a b c->B a b c->G):G:=h.elim λa h=>aG h (k a)
theorem gO {A B C:α->β->γ->Prop} (h:∃a b c,A a b c/\B a b c/\C a b c) (k:∀a b c,A a b c->B a b c->C a b c->G):G:=h.elim λa h=>cy h (k a)
theorem jg {A B C D:α->β->γ->Prop} (h:∃a b c,A a b c/\B a b c/\C a b c/\D a b c) (k:∀a b c,A a b c->B a b c->C a b c->D a b c->G):G:=h.elim λa h=>ye h (k a)
theorem BG {A B C D E:α->β->γ->Prop} (h:∃a b c,A a b c/\B a b c/\C a b c/\D a b c/\E a b c) (k:∀a b c,A a b c->B a b c->C a b c->D a b c->E a b c->G):G:=h.elim λa h=>eX h (k a)
theorem QS {A B C D E F:α->β->γ->Prop} (h:∃a b c,A a b c/\B a b c/\C a b c/\D a b c/\E a b c/\F a b c) (k:∀a b c,A a b c->B a b c->C a b c->D a b c->E a b c->F a b c->G):G:=h.elim λa h=>QR h (k a)
theorem qa {A:α->β->γ->δ->Prop} (h:∃a b c d,A a b c d) (k:∀a b c d,A a b c d->G):G:=h.elim λa h=>ky h (k a)
theorem Ul {A B:α->β->γ->δ->Prop} (h:∃a b c d,A a b c d/\B a b c d) (k:∀a b c d,A a b c d->B a b c d->G):G:=h.elim λa h=>mn h (k a)
theorem ez {A B C:α->β->γ->δ->Prop} (h:∃a b c d,A a b c d/\B a b c d/\C a b c d) (k:∀a b c d,A a b c d->B a b c d->C a b c d->G):G:=h.elim λa h=>gO h (k a)
theorem yf {A B C D:α->β->γ->δ->Prop} (h:∃a b c d,A a b c d/\B a b c d/\C a b c d/\D a b c d) (k:∀a b c d,A a b c d->B a b c d->C a b c d->D a b c d->G):G:=h.elim λa h=>jg h (k a)
theorem QT {A B C D E:α->β->γ->δ->Prop} (h:∃a b c d,A a b c d/\B a b c d/\C a b c d/\D a b c d/\E a b c d) (k:∀a b c d,A a b c d->B a b c d->C a b c d->D a b c d->E a b c d->G):G:=h.elim λa h=>BG h (k a)
theorem Um {A B C D E F:α->β->γ->δ->Prop} (h:∃a b c d,A a b c d/\B a b c d/\C a b c d/\D a b c d/\E a b c d/\F a b c d) (k:∀a b c d,A a b c d->B a b c d->C a b c d->D a b c d->E a b c d->F a b c d->G):G:=h.elim λa h=>QS h (k a)
theorem QU {A:α->β->γ->δ->ε->Prop} (h:∃a b c d e,A a b c d e) (k:∀a b c d e,A a b c d e->G):G:=h.elim λa h=>qa h (k a)
theorem Un {A B:α->β->γ->δ->ε->Prop} (h:∃a b c d e,A a b c d e/\B a b c d e) (k:∀a b c d e,A a b c d e->B a b c d e->G):G:=h.elim λa h=>Ul h (k a)
theorem QV {A B C D:α->β->γ->δ->ε->Prop} (h:∃a b c d e,A a b c d e/\B a b c d e/\C a b c d e/\D a b c d e) (k:∀a b c d e,A a b c d e->B a b c d e->C a b c d e->D a b c d e->G):G:=h.elim λa h=>yf h (k a)
theorem Uo {A B C D E:α->β->γ->δ->ε->Prop} (h:∃a b c d e,A a b c d e/\B a b c d e/\C a b c d e/\D a b c d e/\E a b c d e) (k:∀a b c d e,A a b c d e->B a b c d e->C a b c d e->D a b c d e->E a b c d e->G):G:=h.elim λa h=>QT h (k a)
theorem Up {A:α->β->γ->δ->ε->ζ->Prop} (h:∃a b c d e f,A a b c d e f) (k:∀a b c d e f,A a b c d e f->G):G:=h.elim λa h=>QU h (k a)
theorem uM {A:α->β->γ->δ->ε->ζ->η->Prop} (h:∃a b c d e f g,A a b c d e f g) (k:∀a b c d e f g,A a b c d e f g->G):G:=h.elim λa h=>Up h (k a)
end
theorem ff {P:Prop} (h:UY=UX):P:=nomatch h
theorem tf {P:Prop} (h:UX=UY):P:=nomatch h
theorem nn {γ:Type} {a:γ} {P:Prop} (e:Option.none=UV a):P:=nomatch e
noncomputable def yg:List Nat->List Nat->Bool
 |[],[]=>UX
 |a::x,b::y=>match VA a b with
  |true=>yg x y
  |false=>UY
 |_,_=>UY
theorem Ek (x:List Nat):yg x x=UX:=by
 induction x with
 |nil=>rfl
 |cons a x b=>refine(?_:(match VA a a with|true=>yg x x|false=>UY)=UX);rw[abh];exact b
theorem Ll {x:List Nat}:∀{y:List Nat},yg x y=UX->x=y:=by
 induction x with
 |nil=>intro y h;induction y using VE with
  |nil=>rfl
  |cons=>exact ff h
 |cons a x c=>intro y h;induction y using VE with
  |nil=>exact ff h
  |cons b y=>
   have h:(match VA a b with|true=>yg x y|false=>UY)=UX:=h;induction e:VA a b with
   |false=>rw[e] at h;exact ff h
   |true=>rw[e] at h;exact ac (VI e) (ac (c h) rfl)
def sq (a b:Vb):Bool:=yg a.cps.toList b.cps.toList
theorem bS {a b:Vb}:sq a b=UX↔a=b:=⟨λh=>congrArg Str.mk (Array.toList_inj.mp (Ll h)),λh=>h▸Ek _⟩
theorem cg {a b:Vb}:sq a b=UY↔a≠b:=by rw[<-Bool.not_eq_true,bS]
inductive D where
 |none|bool (b:Bool)|int (i:Int)|str (s:Vb)|ints (ns:List Int)|tup (ds:List D)|list (ds:List D)|dict (P:Va) (es:List (Vb×D))|opq
inductive V where
 |none|bool (b:Bool)|int (i:Int)|str (s:Vb)|ref (n:Nat)|con (v:U2)|dat (d:D)|fk (k:Nat)
noncomputable def QW:List U2:=[.builtin "len", .builtin "max", .builtin "min", .type "range", .type "str", .type "int", .type "list", .type "set", .builtin "list.append", .builtin "list.pop", .builtin "list.remove", .builtin "list.count", .builtin "str.strip", .builtin "str.rstrip", .builtin "str.replace", .builtin "str.split", .builtin "str.join", .builtin "str.isspace", .builtin "int.bit_length", .builtin "set.pop"]
def FN (k:Nat):U2:=QW.getD k .none
structure oG where
 name:Vb
 qual:Vb
 params:Arguments
 body:List VY
 scope:XO
structure fB where
 c:U6
 P:U6
 line:Nat
 col:Nat
 qual:Vb
inductive O where
 |dead
 |fro (d:D)
 |fn (t:oG) (cl:List (Vb×Nat))
 |list (xs:List V)
 |ints (ns:List Int)
 |strs (ss:List Vb)
 |dats (ds:List D)
 |tup (xs:List V)
 |dict (es:List (Vb×V))
 |cell (v:Option V)
 |frame (loc:List (Vb×V))
 |range (a b c:Int)
 |rngIt (x left step:Int)
 |listIt (l:Nat) (i:Nat)
 |datIt (d:D) (i:Nat)
 |strIt (s:Vb) (i:Nat)
 |inst (C:U6) (d:Nat) (xs:Option (List V))
 |set (ns:List Int)
noncomputable def O.live:O->Bool
 | .dead=>UY
 | .fro _=>UY
 |_=>UX
noncomputable def lk (x:Vb):List (Vb×V)->Option V
 |[]=>UW
 |(y,v)::r=>match sq x y with
  |true=>UV v
  |false=>lk x r
noncomputable def put (x:Vb) (v:V):List (Vb×V)->List (Vb×V)
 |[]=>[(x,v)]
 |(y,u)::r=>match sq x y with
  |true=>(y,v)::r
  |false=>(y,u)::put x v r
theorem mo (y z:Vb) (u:V) (r:List (Vb×V)):lk y ((z,u)::r)=if y=z then UV u else lk y r:=by
 refine(?_:(match sq y z with|true=>UV u|false=>lk y r)=_);by_cases h:y=z
 ·exact ac (bS.mpr h) (ac (if_pos h) rfl)
 ·exact ac (cg.mpr h) (ac (if_neg h) rfl)
theorem uN (x y:Vb) (v:V) (l:List (Vb×V)):lk y (put x v l)=if y=x then UV v else lk y l:=by
 induction l with
 |nil=>exact mo ..
 |cons p r b=>
  obtain⟨z,u⟩:=p;refine(?_:lk y (match sq x z with|true=>(z,v)::r|false=>(z,u)::put x v r)=_);rw[mo y z];by_cases a:x=z
  ·refine ac (bS.mpr a) ?_;refine ac a ?_;refine(mo ..).trans ?_;by_cases h:y=z
   ·refine ac (if_pos h) ?_;exact ac (if_pos h) rfl
   ·refine ac (if_neg h) ?_;refine ac (if_neg h) ?_;exact ac (if_neg h) rfl
  ·rw[cg.mpr a];refine(mo ..).trans ?_;rw[b];by_cases h:y=z
   ·refine ac (if_pos h) ?_;refine ac (if_pos h) ?_;exact ac (if_neg (λe=>a (e.symm.trans h))) rfl
   ·refine ac (if_neg h) ?_;exact ac (if_neg h) rfl
noncomputable abbrev bT (vs:List U2) (n:Nat):Xg:={cls:= .type "list",dict:=UW,data:= .seq vs.toArray n,slots:= #[]}
noncomputable abbrev rz (vs:List U2) (n:Nat):Xg:={cls:= .type "tuple",dict:=UW,data:= .seq vs.toArray n,slots:= #[]}
noncomputable abbrev cK (es:List Wg) (n:Nat):Xg:={cls:= .type "dict",dict:=UW,data:= .dict es.toArray n,slots:= #[]}
def Le (g g':Vc):Prop:=∀b o,g.get? b=UV o->g'.get? b=UV o
theorem Le.refl (g:Vc):Le g g:=λa a e=>e
theorem Le.trans {a b c:Vc} (x:Le a b) (y:Le b c):Le a c:=λd d e=>y _ _ (x _ _ e)
inductive DQ where
 |d (d:D) (v:U2)|s (ds:List D) (vs:List U2)|e (P:Va) (r:List (Vb×D)) (es:List Wg)
class inductive DX (g:Vc):DQ->Prop
 |none:DX g (.d .none .none)
 |bool (b):DX g (.d (.bool b) (.bool b))
 |int (i t):DX g (.d (.int i) (.int i t))
 |str (s t):DX g (.d (.str s) (.str s t))
 |ints {ns vs a n}:g.get? a=UV (bT vs n)->Wu vs ns->DX g (.d (.ints ns) (.ref a))
 |tup {ds vs a n}:g.get? a=UV (rz vs n)->DX g (.s ds vs)->DX g (.d (.tup ds) (.ref a))
 |list {ds vs a n}:g.get? a=UV (bT vs n)->DX g (.s ds vs)->DX g (.d (.list ds) (.ref a))
 |dict {P es vs a n}:g.get? a=UV (cK vs n)->DX g (.e P es vs)->DX g (.d (.dict P es) (.ref a))
 |opq {v}:DX g (.d .opq v)
 |nil:DX g (.s [] [])
 |cons {d v ds vs}:DX g (.d d v)->DX g (.s ds vs)->DX g (.s (d::ds) (v::vs))
 |enil {P}:DX g (.e P [] [])
 |econs {P k t v x r es}:DX g (.d v x)->DX g (.e P r es)->DX g (.e P ((k,v)::r) (⟨Wb P k, .str k t,x⟩::es))
abbrev DR (g:Vc) (d:D) (v:U2):Prop:=DX g (.d d v)
abbrev cb (g:Vc) (d:List D) (v:List U2):Prop:=DX g (.s d v)
abbrev DE (g:Vc) (P:Va) (r:List (Vb×D)) (es:List Wg):Prop:=DX g (.e P r es)
theorem DX.mono {g g':Vc} (k:Le g g') {q} (h:DX g q):DX g' q:=DX.rec (motive:=λq c=>DX g' q)
 .none .bool .int .str (λe r=> .ints (k _ _ e) r) (λe c d=> .tup (k _ _ e) d) (λe c d=> .list (k _ _ e) d) (λe c d=> .dict (k _ _ e) d) .opq .nil (λc c a b=> .cons a b) .enil (λc c a b=> .econs a b) h
class inductive VR (g:Vc) (U:List U6):V->U2->Prop
 |none:VR g U .none .none
 |bool (b):VR g U (.bool b) (.bool b)
 |int (i t):VR g U (.int i) (.int i t)
 |str (s t):VR g U (.str s) (.str s t)
 |ref {n a}:U[n]?=UV a->VR g U (.ref n) (.ref a)
 |con (v):VR g U (.con v) v
 |dat {d v}:DR g d v->VR g U (.dat d) v
 |fk (k):VR g U (.fk k) (FN k)
class inductive av (g:Vc) (U:List U6):List V->List U2->Prop
 |nil:av g U [] []
 |cons {d v ds vs}:VR g U d v->av g U ds vs->av g U (d::ds) (v::vs)
class inductive dk:List Vb->List U2->Prop
 |nil:dk [] []
 |cons {s t ss vs}:dk ss vs->dk (s::ss) (.str s t::vs)
theorem ai {α:Type} {U ρ':List α} (p:U <+:ρ') {n:Nat} {a:α} (e:U[n]?=UV a):ρ'[n]?=UV a:=by
 obtain⟨t,rfl⟩:=p;have b:n < U.length:=by
  refine(YL n U.length).elim (λh=>?_) λh=>?_
  ·exact h
  ·rw[Ws h] at e;exact nn e
 refine ac (Wl b) ?_;exact e
theorem VR.mono {g g':Vc} {U ρ':List U6} (k:Le g g') (p:U <+:ρ') {v x} (h:VR g U v x):VR g' ρ' v x:=by
 induction h with
 |none=>exact .none
 |bool b=>exact .bool b
 |int i t=>exact .int i t
 |str s t=>exact .str s t
 |ref e=>exact .ref (ai p e)
 |con=>exact .con _
 |dat d=>exact .dat (d.mono k)
 |fk j=>exact .fk j
theorem av.mono {g g':Vc} {U ρ':List U6} (k:Le g g') (p:U <+:ρ') {v x} (h:av g U v x):av g' ρ' v x:=by
 induction h with
 |nil=>exact .nil
 |cons a _ b=>exact .cons (a.mono k p) b
theorem av.length {g:Vc} {U:List U6} {v x} (h:av g U v x):x.length=v.length:=by
 induction h with
 |nil=>rfl
 |cons _ _ a=>exact congrArg Z7 a
section
variable {g:Vc} {U:List U6} {x:U2} {xs:List U2}
noncomputable def Lm (g:Vc) (U:List U6) (x:U2):V->Prop
 | .none=>x= .none
 | .bool b=>x= .bool b
 | .int i=>∃t,x= .int i t
 | .str s=>∃t,x= .str s t
 | .ref n=>∃a,x= .ref a/\U[n]?=UV a
 | .con v=>x=v
 | .dat d=>DR g d x
 | .fk k=>x=FN k
theorem VR.inv {v:V} (h:VR g U v x):Lm g U x v:=VR.casesOn (motive:=λv x a=>Lm g U x v) h rfl (λa=>rfl) (λa t=>⟨t,rfl⟩) (λa t=>⟨t,rfl⟩) (λe=>(aA _ rfl e)) (λa=>rfl) id λa=>rfl
theorem VR.i_none (h:VR g U .none x):x= .none:=h.inv
theorem VR.i_bool {b:Bool} (h:VR g U (.bool b) x):x= .bool b:=h.inv
theorem VR.i_int {i:Int} (h:VR g U (.int i) x):∃t,x= .int i t:=h.inv
theorem VR.i_str {s:Vb} (h:VR g U (.str s) x):∃t,x= .str s t:=h.inv
theorem VR.i_ref {n:Nat} (h:VR g U (.ref n) x):∃a,x= .ref a/\U[n]?=UV a:=h.inv
theorem VR.i_dat {d:D} (h:VR g U (.dat d) x):DR g d x:=h.inv
section
variable {p:U2->Prop}
@[elab_as_elim] theorem VR.e_int {i:Int} (h:VR g U (.int i) x) (k:∀t,p (.int i t)):p x:=bI h.i_int λt e=>e▸k t
@[elab_as_elim] theorem VR.e_str {i:Vb} (h:VR g U (.str i) x) (k:∀t,p (.str i t)):p x:=bI h.i_str λt e=>e▸k t
@[elab_as_elim] theorem VR.e_ref {n:Nat} (h:VR g U (.ref n) x) (k:∀a,U[n]?=UV a->p (.ref a)):p x:=aj h.i_ref λa e q=>e▸k a q
end
noncomputable def HA (g:Vc) (U:List U6) (xs:List U2):List V->Prop
 |[]=>xs=[]
 |v::vs=>∃x r,xs=x::r/\VR g U v x/\av g U vs r
theorem av.inv {vs:List V} (h:av g U vs xs):HA g U xs vs:=av.casesOn (motive:=λv x c=>HA g U x v) h rfl λa b=>(cY _ _ rfl a b)
theorem av.i0 (h:av g U [] xs):xs=[]:=h.inv
theorem av.ic {v:V} {vs:List V} (h:av g U (v::vs) xs):∃x r,xs=x::r/\VR g U v x/\av g U vs r:=h.inv
section
variable {p:List U2->Prop}
@[elab_as_elim] theorem av.e0 (h:av g U [] xs) (k:p []):p xs:=h.i0▸k
@[elab_as_elim] theorem av.ec {v:V} {vs:List V} (h:av g U (v::vs) xs) (k:∀x r,VR g U v x->av g U vs r->p (x::r)):p xs:=cy h.ic λx r e a b=>e▸k x r a b
@[elab_as_elim] theorem av.e1 {v:V} (h:av g U [v] xs) (k:∀x,VR g U v x->p [x]):p xs:=h.ec λx c a b=>b.e0 (k x a)
@[elab_as_elim] theorem av.e2 {v w:V} (h:av g U [v,w] xs) (k:∀x y,VR g U v x->VR g U w y->p [x,y]):p xs:=h.ec λx c a b=>b.e1 λy b=>k x y a b
@[elab_as_elim] theorem av.e3 {v w u:V} (h:av g U [v,w,u] xs) (k:∀x y z,VR g U v x->VR g U w y->VR g U u z->p [x,y,z]):p xs:=h.ec λx c a b=>b.e2 λy z b d=>k x y z a b d
end
theorem av.i1 {v:V} (h:av g U [v] xs):∃x,xs=[x]/\VR g U v x:=h.e1 λx a=>(aA x rfl a)
theorem av.i2 {v w:V} (h:av g U [v,w] xs):∃x y,xs=[x,y]/\VR g U v x/\VR g U w y:=h.e2 λx y a b=>(cY x y rfl a b)
noncomputable def Rt (g:Vc) (x:U2):D->Prop
 | .none=>x= .none
 | .bool b=>x= .bool b
 | .int i=>∃t,x= .int i t
 | .str s=>∃t,x= .str s t
 | .ints ns=>∃a vs n,x= .ref a/\g.get? a=UV (bT vs n)/\Wu vs ns
 | .tup ds=>∃a vs n,x= .ref a/\g.get? a=UV (rz vs n)/\cb g ds vs
 | .list ds=>∃a vs n,x= .ref a/\g.get? a=UV (bT vs n)/\cb g ds vs
 | .dict P es=>∃a vs n,x= .ref a/\g.get? a=UV (cK vs n)/\DE g P es vs
 | .opq=>True
noncomputable def O9 (g:Vc) (xs:List U2):List D->Prop
 |[]=>xs=[]
 |v::vs=>∃x r,xs=x::r/\DR g v x/\cb g vs r
noncomputable def Pa (g:Vc) (P:Va) (des:List Wg):List (Vb×D)->Prop
 |[]=>des=[]
 |(k,v)::r=>∃t x q,des=⟨Wb P k, .str k t,x⟩::q/\DR g v x/\DE g P r q
noncomputable def HB (g:Vc):DQ->Prop
 | .d d v=>Rt g v d
 | .s ds vs=>O9 g vs ds
 | .e P r es=>Pa g P es r
theorem DX.inv {q} (h:DX g q):HB g q:=DX.casesOn (motive:=λq c=>HB g q) h rfl (λc=>rfl) (λc t=>⟨t,rfl⟩) (λc t=>⟨t,rfl⟩) (λe r=>(gI _ _ _ rfl e r)) (λe r=>(gI _ _ _ rfl e r)) (λe r=>(gI _ _ _ rfl e r)) (λe r=>(gI _ _ _ rfl e r)) trivial rfl (λa b=>(cY _ _ rfl a b)) rfl λa b=>(gI _ _ _ rfl a b)
theorem DR.i_none (h:DR g .none x):x= .none:=h.inv
theorem DR.i_bool {b:Bool} (h:DR g (.bool b) x):x= .bool b:=h.inv
theorem DR.i_int {i:Int} (h:DR g (.int i) x):∃t,x= .int i t:=h.inv
theorem DR.i_str {s:Vb} (h:DR g (.str s) x):∃t,x= .str s t:=h.inv
theorem DR.i_ints {ns:List Int} (h:DR g (.ints ns) x):∃a vs n,x= .ref a/\g.get? a=UV (bT vs n)/\Wu vs ns:=h.inv
theorem DR.i_list {ds:List D} (h:DR g (.list ds) x):∃a vs n,x= .ref a/\g.get? a=UV (bT vs n)/\cb g ds vs:=h.inv
theorem DR.i_tup {ds:List D} (h:DR g (.tup ds) x):∃a vs n,x= .ref a/\g.get? a=UV (rz vs n)/\cb g ds vs:=h.inv
theorem DR.i_dict {P:Va} {es:List (Vb×D)} (h:DR g (.dict P es) x):∃a vs n,x= .ref a/\g.get? a=UV (cK vs n)/\DE g P es vs:=h.inv
theorem cb.i0 (h:cb g [] xs):xs=[]:=h.inv
theorem cb.ic {d:D} {ds:List D} (h:cb g (d::ds) xs):∃x r,xs=x::r/\DR g d x/\cb g ds r:=h.inv
@[elab_as_elim] theorem cb.ec {p:List U2->Prop} {v:D} {vs:List D} (h:cb g (v::vs) xs) (k:∀x r,DR g v x->cb g vs r->p (x::r)):p xs:=cy h.ic λx r e a b=>e▸k x r a b
end
def d6 (g:Vc) (U:List U6):Option V->Option U2->Prop
 | .none, .none=>True
 | .some v, .some x=>VR g U v x
 |_,_=>False
theorem d6.i_some {g:Vc} {U:List U6} {v:V} {o:Option U2} (h:d6 g U (UV v) o):∃z,o=UV z/\VR g U v z:=by
 induction o with
 |none=>exact h.elim
 |some z=>exact(aA z rfl h)
theorem d6.mono {g g':Vc} {U ρ':List U6} (k:Le g g') (p:U <+:ρ') {v x} (h:d6 g U v x):d6 g' ρ' v x:=by
 induction v with
 |none=>induction x with
  |none=>trivial
  |some=>exact h.elim
 |some=>induction x with
  |none=>exact h.elim
  |some=>exact VR.mono k p h
class inductive ER (g:Vc) (U:List U6) (P:Va):List (Vb×V)->List Wg->Prop
 |nil:ER g U P [] []
 |cons {k t v x r es}:VR g U v x->ER g U P r es->ER g U P ((k,v)::r) (⟨Wb P k, .str k t,x⟩::es)
noncomputable def HC (g:Vc) (U:List U6) (P:Va) (es:List Wg):List (Vb×V)->Prop
 |[]=>es=[]
 |(k,v)::r=>∃t x q,es=⟨Wb P k, .str k t,x⟩::q/\VR g U v x/\ER g U P r q
theorem ER.inv {g:Vc} {U:List U6} {P:Va} {l:List (Vb×V)} {es:List Wg} (h:ER g U P l es):HC g U P es l:=ER.casesOn (motive:=λl es c=>HC g U P es l) h rfl λa b=>(gI _ _ _ rfl a b)
theorem ER.i0 {g:Vc} {U:List U6} {P:Va} {es:List Wg} (h:ER g U P [] es):es=[]:=h.inv
theorem ER.ic {g:Vc} {U:List U6} {P:Va} {k:Vb} {v:V} {r:List (Vb×V)} {es:List Wg} (h:ER g U P ((k,v)::r) es):∃t x q,es=⟨Wb P k, .str k t,x⟩::q/\VR g U v x/\ER g U P r q:=h.inv
theorem ER.mono {g g':Vc} {U ρ':List U6} {P:Va} (k:Le g g') (p:U <+:ρ') {v x} (h:ER g U P v x):ER g' ρ' P v x:=by
 induction h with
 |nil=>exact .nil
 |cons a _ b=>exact .cons (a.mono k p) b
def Uq (ob:Xg) (m:Vb->Option U2):Prop:=∃es a,ob.data= .dict es a/\StrKeys es/\∀name,nsFind es name=m name
structure d7 where
 o:OsState
 gp:Nat->aay->Prop
structure Cx where
 prog:Vz
 w:V6
 KK:List (U6×Xg)
 TT:List fB
 g:Vc
 os:d7
def CR (U:List U6) (cl:List (Vb×Nat)) (l:List (Vb×U6)):Prop:=∀x n,(x,n)∈cl->∃a,l.lookup x=UV a/\U[n]?=UV a
structure uO (g:Vc) (U:List U6) (t:oG) (cl:List (Vb×Nat)) (fd:Vv):Prop where
 name:fd.name=t.name
 qual:fd.qualname=t.qual
 params:fd.params=t.params
 body:fd.body= .stmts t.body
 scope:fd.scope=t.scope
 glob:fd.globals=mainGlobals
 bu:fd.builtins=builtinsNs
 d1:fd.defaults= .none
 d2:fd.kwdefaults= .none
 code:g.CodeRec fd.code t.qual
 clo:CR U cl fd.closure
theorem CR.mono {U ρ':List U6} (p:U <+:ρ') {cl l} (x:CR U cl l):CR ρ' cl l:=λy n e=>aj (x y n e) λa b d=>(aA a b (ai p d))
theorem uO.mono {g g':Vc} {U ρ':List U6} (k:Le g g') (p:U <+:ρ') {t cl fd} (x:uO g U t cl fd):uO g' ρ' t cl fd:=
 {x with code:=x.code.keeps k,clo:=x.clo.mono p}
def OR (P:Va) (g:Vc) (U:List U6):O->U6->Xg->Prop
 | .dead,_,_=>True
 | .fro _,_,_=>True
 | .fn t cl,_,ob=>ob.cls= .type "function"/\∃fd,ob.data= .func fd/\uO g U t cl fd
 | .list xs,_,ob=>∃vs n,ob=bT vs n/\av g U xs vs
 | .ints ns,_,ob=>∃vs n,ob=bT vs n/\Wu vs ns
 | .strs ss,_,ob=>∃vs n,ob=bT vs n/\dk ss vs
 | .dats ds,_,ob=>∃vs n,ob=bT vs n/\cb g ds vs
 | .tup xs,_,ob=>∃vs n,ob=rz vs n/\av g U xs vs
 | .dict es,_,ob=>∃des n,ob=cK des n/\ER g U P es des
 | .cell v,_,ob=>∃x,ob.data= .cell x/\d6 g U v x
 | .frame e,_,ob=>∃m,Uq ob m/\∀x,d6 g U (lk x e) (m x)
 | .range a b c,_,ob=>∃t u v,ob={cls:= .type "range",data:= .fields #[.int a t, .int b u, .int c v]}
 | .rngIt x left step,_,ob=>ob={cls:= .type "range_iterator",data:= .fields #[WM x,WM left,WM step]}
 | .listIt l i,_,ob=>∃b,U[l]?=UV b/\ob.cls= .type "list_iterator"/\ob.data= .fields #[.ref b, .int i 0]
 | .datIt d i,_,ob=>∃b,DR g d (.ref b)/\ob.cls= .type "list_iterator"/\ob.data= .fields #[.ref b, .int i 0]
 | .strIt s i,_,ob=>∃t f,(f="str_iterator"∨f="str_ascii_iterator")/\ob.cls= .type f/\ob.data= .fields #[.str s t, .int i 0]
 | .inst C d UW,_,ob=>∃da,U[d]?=UV da/\ob=({cls:= .ref C,dict:=UV da,data:= .plain,slots:= #[]}:Xg)
 | .inst C d (UV l),_,ob=>∃da,U[d]?=UV da/\∃vs n,ob=({cls:= .ref C,dict:=UV da,data:= .seq vs.toArray n,slots:= #[]}:Xg)/\av g U l vs
 | .set ns,_,ob=>ob.IntSetOf (λk=>ns.contains k) ns.length
theorem Ln {α:Type} {A B b:α->Prop} (h:∃a,A a/\B a) (k:∀a,B a->b a):∃a,A a/\b a:=aj h λa x y=>(aA a x (k a y))
theorem BH {α β:Type} {A B c:α->β->Prop} (h:∃a b,A a b/\B a b) (k:∀a b,B a b->c a b):∃a b,A a b/\c a b:=aG h λa b x y=>(bL a b x (k a b y))
theorem OR.mono {P:Va} {g g':Vc} {U ρ':List U6} (k:Le g g') (p:U <+:ρ') {o a ob} (h:OR P g U o a ob):OR P g' ρ' o a ob:=by
 induction o using O.casesOn with
 |fn=>exact⟨h.1,Ln h.2 λc r=>r.mono k p⟩
 |«list»=>exact BH h λc c r=>r.mono k p
 |«dats»=>exact BH h λc c r=>r.mono k
 |«tup»=>exact BH h λc c r=>r.mono k p
 |«dict»=>exact BH h λc c r=>r.mono k p
 |cell=>exact Ln h λc r=>r.mono k p
 |frame=>exact Ln h λc r x=>(r x).mono k p
 |listIt=>exact aj h λb e r=>⟨b,ai p e,r⟩
 |datIt=>exact aj h λb e r=>⟨b,e.mono k,r⟩
 |inst _ _ d=>induction d using Option.casesOn with
  |none=>exact aj h λb e r=>(aA b (ai p e) r)
  |some=>exact aj h λb e r=>⟨b,ai p e,BH r λc c r=>r.mono k p⟩
 |_=>exact h
def tR (g:Vc) (t:fB) (ob:Xg):Prop:=∃ps,ob={cls:= .none,data:= .fields ps}/\(ps= #[]∨∃a,ps= #[WM t.line,WM t.col, .ref a]/\g.CodeRec (.ref a) t.qual)
theorem tR.mono {g g':Vc} (k:Le g g') {t:fB} {ob:Xg}:tR g t ob->tR g' t ob
 |⟨a,f,r⟩=>⟨a,f,r.imp id λr=>aj r λb u v=>(aA b u (v.keeps k))⟩
structure HR (c:Cx) (fz:Vc) (U:List U6) (H:List O) (h:Vc):Prop where
 fzle:Le fz h
 gle:Le c.g h
 wd:∀p∈c.KK,fz.get? p.1=UV p.2
 len:U.length=H.length
 inj:∀(i j:Nat) (o o':O) (a:U6),H[i]?=UV o->o.live=UX->H[j]?=UV o'->o'.live=UX->U[i]?=UV a->U[j]?=UV a->i=j
 obj:∀(i:Nat) (o:O),H[i]?=UV o->o.live=UX->∃a ob,U[i]?=UV a/\h.get? a=UV ob/\c.g.get? a=UW/\fz.get? a=UW/\OR c.w.params fz U o a ob
 fro:∀(i:Nat) (d:D),H[i]?=UV (.fro d)->∃a,U[i]?=UV a/\DR fz d (.ref a)
 dis:∀(a:U6) (o:Xg),c.g.get? a=UV o->fz.get? a=UW
 tab:∀t∈c.TT,∃ob,h.get? t.P=UV ob/\tR fz t ob/\c.g.get? t.P=UW/\fz.get? t.P=UW
 tdis:∀t∈c.TT,∀(i:Nat) (o:O),H[i]?=UV o->o.live=UX->U[i]?≠UV t.P
theorem HR.at {c:Cx} {fz:Vc} {U:List U6} {H:List O} {h:Vc} (x:HR c fz U H h) {i:Nat} {o:O} {a:U6} (hi:H[i]?=UV o) (hl:o.live=UX) (d:U[i]?=UV a):∃ob,h.get? a=UV ob/\OR c.w.params fz U o a ob:=by refine aG (x.obj i o hi hl) λe ob e1 b=>?_;obtain⟨e2,_,_,e3⟩:=b;obtain rfl:=U0 (d.symm.trans e1);exact(aA ob e2 e3)
theorem HR.froAt {c:Cx} {fz:Vc} {U:List U6} {H:List O} {h:Vc} (x:HR c fz U H h) {i:Nat} {d:D} {a:U6} (hi:H[i]?=UV (.fro d)) (b:U[i]?=UV a):DR fz d (.ref a):=by refine aj (x.fro i d hi) λe e1 e2=>?_;obtain rfl:=U0 (b.symm.trans e1);exact e2
theorem bn {α:Type} {l:List α} {i:Nat} {a:α} (e:l[i]?=UV a):i < l.length:=by
 refine(YL i l.length).elim (λh=>?_) λh=>?_
 ·exact h
 ·rw[Ws h] at e;exact nn e
theorem oH {fz h:Vc} (k:Le fz h):fz.get? h.objs.size=UW:=by
 induction e:fz.get? h.objs.size with
 |none=>rfl
 |some o=>exact absurd (Wc (k _ _ e)) (WT _)
theorem bj {α:Type} {l:List α} {a:α} {n:Nat} (h:n=l.length):(l++[a])[n]?=UV a:=by refine ac h ?_;refine ac (VS (Vr _)) ?_;rw[WU];rfl
theorem uP {α:Type} {l:List α} {a b:α} {i:Nat} (e:(l++[a])[i]?=UV b):l[i]?=UV b∨(i=l.length/\b=a):=by
 refine(YL i l.length).elim (λh=>?_) λh=>?_
 ·exact .inl ((Wl h).symm.trans e)
 ·have c:i=l.length:=Yw (Nat.le_of_lt_succ (by have:=bn e;rwa[U8] at this)) h;exact .inr ⟨c,U0 (e.symm.trans (bj c))⟩
@[elab_as_elim] theorem mq {α:Type} {l:List α} {a:α} {p:Nat->α->Prop} {i:Nat} {b:α} (e:(l++[a])[i]?=UV b) (k:l[i]?=UV b->p i b) (m:p l.length a):p i b:=(uP e).elim k λq=>q.1▸q.2▸m
theorem HR.push {c:Cx} {fz:Vc} {U:List U6} {H:List O} {h:Vc} (x:HR c fz U H h) (ob:Xg) (o:O) (hf:ob.isFreed=UY)
  (C:OR c.w.params fz (U++[h.objs.size]) o h.objs.size ob) (D:o.live=UX:=by rfl):HR c fz (U++[h.objs.size]) (H++[o]) (h.push ob):=
 have k:Le h (h.push ob):=λb o e=>Vw _ e
 have p:U <+:U++[h.objs.size]:=Vn _ _
 have lt:∀{b:U6} {ob:Xg},h.get? b=UV ob->b≠h.objs.size:=λe q=>absurd (Wc e) (q▸WT _)
 have g:∀{i:Nat} {u:O} {a:U6},H[i]?=UV u->u.live=UX->(U++[h.objs.size])[i]?=UV a->U[i]?=UV a/\a≠h.objs.size:=λe l q=>eX (x.obj _ _ e l) λb m e1 e2 f f f=>U0 ((ai p e1).symm.trans q)▸⟨e1,lt e2⟩
 have new:∀{a:U6},(U++[h.objs.size])[H.length]?=UV a->a=h.objs.size:=λq=>U0 (q.symm.trans (bj x.len.symm))
 ⟨x.fzle.trans k,x.gle.trans k,x.wd,(List.length_append.trans (x.len▸rfl)).trans List.length_append.symm,
  λi j G I a e1=>mq e1 (λA B e2=>mq e2 (λv y n s=>x.inj _ _ _ _ a A B v y (g A B n).1 (g v y s).1) λf n s=>absurd (new s) (g A B n).2) λf e2=>mq e2 (λv y n s=>absurd (new n) (g v y s).2) λf f f=>rfl,
  λi u e=>mq e (λr l=>eX (x.obj _ _ r l) λa m e1 e2 e3 E F=>⟨a,m,ai p e1,k _ _ e2,e3,E,F.mono (Le.refl _) p⟩) λf=>⟨_,ob,bj x.len.symm,VV _ hf,oH x.gle,oH x.fzle,C⟩,
  λi d e=>(uP e).elim (λr=>aj (x.fro i d r) λa e1 e2=>(aA a (ai p e1) e2)) λq=>ff ((congrArg O.live q.2).trans D),x.dis,
  λt z=>aj (x.tab t z) λob e1 r=>(aA ob (k _ _ e1) r),
  λt z i u e=>mq e (λr l q=>x.tdis t z _ _ r l (g r l q).1) λf q=>fA (x.tab t z) λf e1 f f f=>lt e1 (new q)⟩
theorem BI {α:Type} {l:List α} {a b c:α} {i j:Nat} (e:(l.set i a)[j]?=UV b) (hi:l[i]?=UV c):(j=i/\b=a)∨(j≠i/\l[j]?=UV b):=
 (Decidable.em (j=i)).imp (λq=>⟨q,U0 ((e.symm.trans (q▸rfl)).trans (acB (bn hi)))⟩) λq=>⟨q,(aaC (aca q)).symm.trans e⟩
@[elab_as_elim] theorem HE {α:Type} {l:List α} {a c:α} {p:Nat->α->Prop} {i j:Nat} {b:α} (e:(l.set i a)[j]?=UV b) (hi:l[i]?=UV c) (m:p i a) (k:j≠i->l[j]?=UV b->p j b):p j b:=(BI e hi).elim (λq=>q.1▸q.2▸m) λq=>k q.1 q.2
theorem HR.chg {c:Cx} {fz fz':Vc} {U:List U6} {H:List O} {h h':Vc} (x:HR c fz U H h) {i:Nat} {o₀ o:O} {a:U6} (hi:H[i]?=UV o₀) (hl:o₀.live=UX) (z:U[i]?=UV a) (E:Le fz fz') (J:Le fz' h')
  (F:∀b ob,b≠a->h.get? b=UV ob->h'.get? b=UV ob) (G:∀b,b≠a->fz.get? b=UW->fz'.get? b=UW)
  (K:o.live=UX->∃ob,h'.get? a=UV ob/\fz'.get? a=UW/\OR c.w.params fz' U o a ob) (hd:∀d,o= .fro d->DR fz' d (.ref a)):HR c fz' U (H.set i o) h':=
 have e3:c.g.get? a=UW:=eX (x.obj i o₀ hi hl) λY f e1 f e3 f f=>U0 (e1.symm.trans z)▸e3
 have live:∀{j:Nat} {v:O},(H.set i o)[j]?=UV v->v.live=UX->∃v,H[j]?=UV v/\v.live=UX:=λe=>HE e hi (λf=>(aA _ hi hl)) λf r l=>(aA _ r l)
 have A:∀{b ob},c.g.get? b=UV ob->b≠a:=λe q=>nn (e3.symm.trans (q▸e))
 have B:∀t∈c.TT,t.P≠a:=λt y q=>x.tdis t y i o₀ hi hl (q▸z)
 ⟨J,λb o e=>F b o (A e) (x.gle b o e),λp L=>E _ _ (x.wd p L),x.len.trans List.length_set.symm,
  λj k Z o2 b M N Q R n s=>aj (live M N) λf g1 S=>aj (live Q R) λf T V=>x.inj j k _ _ b g1 S T V n s,
  λj v e=>HE e hi (λl=>ca (K l) λob n s C=>(l8 a ob z n e3 s C)) λW r l=>eX (x.obj j _ r l) λb u n s C I X=>
   have D:b≠a:=λq=>W (x.inj j i _ _ b r l hi hl n (q▸z))
   (l8 b u n (F b u D s) C (G b D I) (X.mono E (U4 _))),
  λj d e=>(BI e hi).elim (λq=>(aA a (q.1▸z) (hd d q.2.symm))) λq=>aj (x.fro j d q.2) λb n s=>(aA b n (s.mono E)),
  λb o e=>G b (A e) (x.dis b o e),
  λt y=>fA (x.tab t y) λu n s C I=>(oF u (F _ _ (B t y) n) (s.mono E) C (G _ (B t y) I)),
  λt y j v e l q=>aj (live e l) λf r m=>x.tdis t y j _ r m q⟩
theorem HR.fne {c:Cx} {fz:Vc} {U:List U6} {H:List O} {h:Vc} (x:HR c fz U H h) {i:Nat} {o₀:O} {a:U6} (hi:H[i]?=UV o₀) (hl:o₀.live=UX) (e:U[i]?=UV a):fz.get? a=UW:=by refine aG (x.obj i o₀ hi hl) λg b e1 d=>?_;obtain⟨_,_,f,_⟩:=d;exact U0 (e1.symm.trans e)▸f
theorem HR.upd {c:Cx} {fz:Vc} {U:List U6} {H:List O} {h h':Vc} (x:HR c fz U H h) {i:Nat} {o₀ o:O} {a:U6} {ob:Xg} (hi:H[i]?=UV o₀) (hl:o₀.live=UX) (g:U[i]?=UV a)
  (hs:WS a h h') (k:h'.get? a=UV ob) (l:OR c.w.params fz U o a ob) (m:o.live=UX:=by rfl):HR c fz U (H.set i o) h':=
 have j:=x.fne hi hl g
 x.chg hi hl g (Le.refl _) (λb o e=>by refine(hs.2 b λq=>nn (j.symm.trans (q▸e))).symm▸ ?_;exact x.fzle b o e) (λb ob q e=>by refine(hs.2 b q).symm▸ ?_;exact e) (λf f e=>e) (λf=>(cE ob k j l)) λd e=>by subst e;exact ff m
theorem HR.le {c:Cx} {fz:Vc} {U:List U6} {H:List O} {h h':Vc} (x:HR c fz U H h) (k:Le h h'):HR c fz U H h':=
 ⟨x.fzle.trans k,x.gle.trans k,x.wd,x.len,x.inj,λi o e l=>cy (x.obj i o e l) λa b e1 e2 r=>⟨a,b,e1,k _ _ e2,r⟩,x.fro,x.dis,λt d=>aj (x.tab t d) λb e1 r=>⟨b,k _ _ e1,r⟩,x.tdis⟩
theorem HR.kill {c:Cx} {fz:Vc} {U:List U6} {H:List O} {h h':Vc} (x:HR c fz U H h) {i:Nat} {o₀:O} {a:U6} (hi:H[i]?=UV o₀) (hl:o₀.live=UX) (g:U[i]?=UV a)
  (hs:X1 a h h'):HR c fz U (H.set i .dead) h':=
 x.chg hi hl g (Le.refl _) (λb o e=>hs b o (λq=>nn ((x.fne hi hl g).symm.trans (q▸e))) (x.fzle b o e)) (λb j q e=>hs b j q e) (λf f e=>e) (λl=>ff l) λd e=>by cases e
noncomputable def sub (h:Vc) (P:U6->Prop):Vc:=by
 classical exact PySem.W.hideAll h ((V9 h.objs.size).filter λa=> !decide (P a))
theorem dZ {h:Vc} {P:U6->Prop} {a:U6} {o:Xg} (e:h.get? a=UV o) (p:P a):(sub h P).get? a=UV o:=by dsimp only[sub];refine PySem.W.hideAll_get _ e λb=>?_;have:=(List.mem_filter.mp b).2;simp[p] at this
theorem qb {h:Vc} {P:U6->Prop} {a:U6} {o:Xg} (e:(sub h P).get? a=UV o):h.get? a=UV o/\P a:=by
 dsimp only[sub] at e;have b:=PySem.W.of_hideAll _ e;refine⟨b,abq λn=>?_⟩;rw[PySem.W.hideAll_none] at e
 ·exact nn e
 ·refine List.mem_filter.mpr ⟨List.mem_range.mpr (Wc b),?_⟩;simp[n]
theorem fC {h:Vc} {P:U6->Prop} {a:U6} (n:¬P a):(sub h P).get? a=UW:=by
 induction e:(sub h P).get? a with
 |none=>rfl
 |some o=>exact absurd (qb e).2 n
theorem sub_le {h:Vc} {P:U6->Prop}:Le (sub h P) h:=λa a e=>(qb e).1
theorem HR.freeze {c:Cx} {fz:Vc} {U:List U6} {H:List O} {h:Vc} (x:HR c fz U H h) {i:Nat} {o₀:O} {a:U6} {ob:Xg} {d:D} (hi:H[i]?=UV o₀) (hl:o₀.live=UX) (n:U[i]?=UV a)
  (j:h.get? a=UV ob) (hd:∀fz',Le fz fz'->fz'.get? a=UV ob->DR fz' d (.ref a)):∃fz',Le fz fz'/\DR fz' d (.ref a)/\HR c fz' U (H.set i (.fro d)) h:=by
 have k:Le fz (sub h λb=>b=a∨(fz.get? b).isSome=UX):=λb o e=>dZ (x.fzle b o e) (.inr (by refine ac e ?_;rfl))
 have g:=hd _ k (dZ j (.inl rfl))
 refine(cE _ k g (x.chg hi hl n k sub_le (λf f f e=>e) (λb q e=>fC ?_) (λl=>ff l) λr e=>by cases e;exact g))
 rintro(p|m)
 ·exact q p
 ·rw[e] at m;exact ff m
end
end
variable {α β γ δ X:Type} {a f it ia ad da cc:U6} {c:Cx} {b:Bool} {d:D} {i k j lev kt N:Nat} {A A':Vk} {B:α->β->Prop} {E Q:U2->U7->Prop} {P:Va} {g g' fz h fz' h' fz₀:Vc} {U ρ' as ρ₀:List U6} {xs keep ys defs rest:List U2} {v:V} {s:U7} {vs:List V} {w:V6} {u:ZN} {ns ts:List Int} {ds:List D} {es:List (Vb×V)} {o o₀:O} {t:Xh β} {ob ox:Xg} {H H' objs:List O} {Mo:Zx} {dr:Drawn} {pos ap px py p0 p1 p2 p3 pa pb pt pi:XN} {ss NM rs:List Vb} {y z:U2} {Z:Yi} {e value elt iter slice:Vs} {whole:Xh U2} {op:YV} {lo hi:Option Vs} {code:Code} {cl:List (Vb×Nat)} {scope:XO} {ifs:List Vs} {names:List (Vb×Wk)} {ps:List (Vb×Vb)} {J:Vz} {fd:Vv} {body:List VY} {σ ν un:List Nat} {os:d7} {pl:Xh Bool} {od:Option Xg} {des:List Wg} {items:Array U2} {st:VY} {tg bt:String} {mg:Vb->Option U2} {m1 m0:Option Int} {xa xb:Vb} {kvs:List (Vb×U2)} {fs:List Frame} {o0 o1:Nat->O}
section
structure St where
 H:List O
 orc:List Bool
def M (α:Type):Type:=St->Option (α×St×List Prop)
noncomputable def ret (a:α):M α:=λS=>UV (a,S,[])
noncomputable def bnd (m:M α) (k:α->M β):M β:=λS=>match m S with
 |none=>UW
 |some (a,S',p)=>match k a S' with
  |none=>UW
  |some (b,c,q)=>UV (b,c,p++q)
noncomputable def fail :M α:=λa=>UW
noncomputable def dec (b:Bool):M Bool:=λS=>match S.orc with
 |[]=>UW
 |o::r=>UV (o,⟨S.H,r⟩,[b=o])
noncomputable def need (p:Prop):M Unit:=λS=>UV ((),S,[p])
def ao:List Prop->Prop
 |[]=>True
 |p::r=>p/\ao r
theorem af {p q:List Prop}:ao (p++q)↔ao p/\ao q:=by
 induction p with
 |nil=>exact⟨λh=>⟨trivial,h⟩,λh=>h.2⟩
 |cons a p c=>exact(and_congr_right λb=>c).trans and_assoc.symm
abbrev bE:U2->U7->Prop:=λa a=>False
structure GB (gp:Nat->aay->Prop) (gs:Array aay):Prop where
 bare:AllBare gs
 kept:∀i x,gp i x->gs[i]?=UV x
structure SR (c:Cx) (fz:Vc) (U:List U6) (H:List O) (s:U7):Prop where
 hr:HR c fz U H s.heap
 os:s.os=c.os.o
 bare:GB c.os.gp s.gens
 tk:1<=s.toks
theorem iw {t:Xh α} {Q:α->U7->Prop} (h1:1<=s.toks) (h:Vf Mo A t (λv s'=>1<=s'.toks->Q v s') bE s):Vf Mo A t Q bE s:=
 ZF h1 (VF h (λa a x=>x) λa a x=>x.elim)
theorem SR.to (a:SR c fz U H s) {tk:ZN} (b:HR c fz' ρ' H' h')
  (d:s.toks<=tk∨1<=tk):SR c fz' ρ' H' {s with heap:=h',drawn:=dr,toks:=tk}:=
 ⟨b,a.os,a.bare,d.elim (U1 a.tk) id⟩
theorem SR.tz (a:SR c fz U H s) (b:HR c fz' ρ' H' h'):SR c fz' ρ' H' {s with heap:=h',drawn:=dr}:=a.to b (.inl (Vr _))
theorem SR.ta (a:SR c fz U H s) (b:HR c fz' ρ' H' h'):SR c fz' ρ' H' {s with heap:=h',drawn:=dr,toks:=s.toks+k}:=a.to b (.inl (Vm _ _))
theorem SR.tb (a:SR c fz U H s) {l:Nat} (b:HR c fz' ρ' H' h'):SR c fz' ρ' H' {s with heap:=h',drawn:=dr,toks:=s.toks+k+l}:=a.to b (.inl (U1 (Vm _ _) (Vm _ _)))
abbrev bJ (α β:Type):=Vc->List U6->α->β->Prop
def dc (c:Cx) (fz:Vc) (U:List U6) (H:List O) (R:bJ α β) (a:α) (Q:β->U7->Prop):Prop:=
 ∀fz' ρ' b x,Le fz fz'->U <+:ρ'->SR c fz' ρ' H b->R fz' ρ' a x->Q x b
def ae (c:Cx) (A:Vk) (fz:Vc) (U:List U6) (m:M α) (t:Xh β) (R:bJ α β):Prop:=
 ∀S a S' p,m S=UV (a,S',p)->ao p->∀fz' ρ' s Q,Le fz fz'->U <+:ρ'->SR c fz' ρ' S.H s->dc c fz' ρ' S'.H R a Q->Vf (Vg c.prog c.w) A t Q bE s
section
def OK (r:Option (α×St×List Prop)) (K:α->St->List Prop->Prop):Prop:=match r with
 |none=>True
 |some (a,S',p)=>K a S' p
theorem OK.of {r:Option (α×St×List Prop)} {a:α} {S':St} {p:List Prop} {K:α->St->List Prop->Prop} (e:r=UV (a,S',p)) (h:OK r K):K a S' p:=(e▸h:OK (UV (a,S',p)) K)
def rA (c:Cx) (A:Vk) (fz:Vc) (U:List U6) (t:Xh β) (R:bJ α β) (S:St) (a:α) (S':St) (p:List Prop):Prop:=
 ao p->∀fz' ρ' s Q,Le fz fz'->U <+:ρ'->SR c fz' ρ' S.H s->dc c fz' ρ' S'.H R a Q->Vf (Vg c.prog c.w) A t Q bE s
theorem ae.run {m:M α} {R:bJ α β} (h:∀S K,(∀a S' p,rA c A fz U t R S a S' p->K a S' p)->OK (m S) K):ae c A fz U m t R:=λS a S' p e=>OK.of (K:=rA c A fz U t R S) e (h S _ λb b b x=>x)
theorem OK.map {r:Option (α×St×List Prop)} {P:List Prop} {K:α->St->List Prop->Prop} (h:OK r λb S2 p2=>K b S2 (P++p2)):OK (match r with|none=>UW|some (b,a,q)=>UV (b,a,P++q)) K:=by
 induction r with
 |none=>trivial
 |some r=>exact h
theorem OK.bnd {m:M α} {k:α->M β} {S:St} {K:β->St->List Prop->Prop} (h:∀a S1 p1,m S=UV (a,S1,p1)->OK (k a S1) λb S2 p2=>K b S2 (p1++p2)):OK (Mine.Internal.bnd m k S) K:=by
 unfold Mine.Internal.bnd;induction e:m S with
 |none=>trivial
 |some r=>exact OK.map (h r.1 r.2.1 r.2.2 e)
theorem OK.need {P:Prop} {k:Unit->M α} {S:St} {K:α->St->List Prop->Prop} (h:OK (k () S) λb S2 p2=>K b S2 (P::p2)):OK (Mine.Internal.bnd (Mine.Internal.need P) k S) K:=OK.map (P:=[P]) h
theorem OK.dec {k:Bool->M α} {S:St} {K:α->St->List Prop->Prop} (h:∀o r,OK (k o ⟨S.H,r⟩) λa S2 p2=>K a S2 ((b=o)::p2)):OK (Mine.Internal.bnd (Mine.Internal.dec b) k S) K:=by
 obtain⟨H,c⟩:=S;induction c using VE with
 |nil=>trivial
 |cons o r=>exact OK.map (P:=[b=o]) (h o r)
@[elab_as_elim] theorem OK.use {r:Option (α×St×List Prop)} {a:α} {S':St} {p:List Prop} {G:α->St->List Prop->Prop} (e:r=UV (a,S',p)) (h:∀K,(∀a S p,G a S p->K a S p)->OK r K):G a S' p:=OK.of e (h G λb b b x=>x)
theorem OK.got {r:Option (α×St×List Prop)} {K:α->St->List Prop->Prop} (h:∀a S' p,r=UV (a,S',p)->K a S' p):OK r K:=by
 induction r with
 |none=>trivial
 |some r=>exact h _ _ _ rfl
theorem ae.alt {b:St->Bool} {m d:M α} {R:bJ α β} (h1:ae c A fz U m t R) (h0:ae c A fz U d t R):ae c A fz U (λS=>match b S with|true=>m S|false=>d S) t R:=λS=>by
 have h0:=h0 S;refine(?_:∀a e p,(match b S with|true=>m S|false=>d S)=_->_);induction b S with
 |true=>exact(h1 S)
 |false=>exact h0
theorem db {a b:α} {S S':St} {p q:List Prop} (e:UV (a,S,p)=UV (b,S',q)):b=a/\S'=S/\q=p:=by cases e;exact⟨rfl,rfl,rfl⟩
theorem ae.at {m:M α} {R:bJ α β} (h:ae c A fz U m t R) (k:Le fz fz') (p:U <+:ρ'):ae c A fz' ρ' m t R:=
 λS a f q e g b d s Q i j=>h S a f q e g b d s Q (k.trans i) (p.trans j)
theorem ae.mono {m:M α} {R R':bJ α β} (h:ae c A fz U m t R) (i:∀fz' ρ' a x,Le fz fz'->U <+:ρ'->R fz' ρ' a x->R' fz' ρ' a x):ae c A fz U m t R':=
 λS a j q e l fz' ρ' s Q k p x y=>h S a j q e l fz' ρ' s Q k p x λb d n z f g o r=>y b d n z f g o (i _ _ _ _ (k.trans f) (p.trans g) r)
theorem ae.ret {a:α} {x:β} {R:bJ α β} (h:∀fz' ρ',Le fz fz'->U <+:ρ'->R fz' ρ' a x):ae c A fz U (ret a) (pure x) R:=by intro S b j q e _ fz' ρ' s Q k p i y;refine b9 (db e) λd f g=>?_;subst d;subst f;subst g;exact U3 (y fz' ρ' s x (Le.refl _) (U4 _) i (h _ _ k p))
theorem ae.bind {m:M α} {k:α->M γ} {f:β->Xh δ} {R:bJ α β} {R':bJ γ δ} (h1:ae c A fz U m t R)
  (h2:∀fz' ρ' a x,Le fz fz'->U <+:ρ'->R fz' ρ' a x->ae c A fz' ρ' (k a) (f x) R'):ae c A fz U (bnd m k) (t >>= f) R':=ae.run λS K q=>OK.bnd λa j u h=>OK.got λb N v B=>q _ _ _ λC fz' ρ' s Q l n x y=>aN (af.mp C) λg i=>
 UZ (h1 S a j u h g fz' ρ' s _ l n x λd e D z o p E r=>h2 d e a z (l.trans o) (n.trans p) r j b _ v B i d e D Q (Le.refl _) (U4 _) E λF G H w I J L=>y F G H w (o.trans I) (p.trans J) L)
theorem ae.pass {m:M α} {t:Xh Unit} {f:Unit->Xh β} {R:bJ α β} (d:∀s Q,Q () s->Vf (Vg c.prog c.w) A t Q bE s) (h:ae c A fz U m (f ()) R):ae c A fz U m (t >>= f) R:=by intro S a g q e i b ρ' s Q k p x y;exact UZ (d s _ (h S a g q e i b ρ' s Q k p x y))
theorem ae.stand {m:M α} {f:Unit->Xh β} {R:bJ α β} (h:ae c A fz U m (f ()) R):ae c A fz U m (WK pos >>= f) R:=ae.pass (λa a h=>VL h) h
theorem ae.holding {m:M α} {vs:List U2} {R:bJ α β} (h:ae c A fz U m t R):ae c A fz U m (WB vs t) R:=
 λS a d q e f b ρ' s Q k p x y=>Vo (h S a d q e f b ρ' s Q k p x y)
theorem ix {vs:List U2} {t:Xh U2} (h:Vf Mo A t Q E s):Vf Mo A (aaH vs t) Q E s:=
 λb p a=>by rw[Sem.wp_operate];exact h b p a
theorem ae.operate {m:M α} {vs:List U2} {t:Xh U2} {R:bJ α U2} (h:ae c A fz U m t R):ae c A fz U m (aaH vs t) R:=
 λS a d q e f b ρ' s Q k p x y=>ix (h S a d q e f b ρ' s Q k p x y)
theorem ae.fail {R:bJ α β}:ae c A fz U (fail:M α) t R:=λS a b q e=>by cases e
theorem ae.dec {k:Bool->M α} {R:bJ α β} (h:∀o,b=o->ae c A fz U (k o) t R):ae c A fz U (bnd (dec b) k) t R:=ae.run λS K f=>OK.dec λo r=>OK.got λa l m g=>f _ _ _ λe d ρ' s Q i j x y=>h o e.1 _ _ _ _ g e.2 d ρ' s Q i j x y
theorem ae.need {P:Prop} {k:Unit->M α} {R:bJ α β} (h:P->ae c A fz U (k ()) t R):ae c A fz U (bnd (need P) k) t R:=ae.run λS K d=>OK.need (OK.got λa f g e=>d _ _ _ λb=>h b.1 _ _ _ _ e b.2)
end
theorem ae.bfail {m:M α} {t:Xh γ} {R:bJ β γ}:ae c A fz U (bnd m λa=>Mine.Internal.fail) t R:=ae.run λa a a=>OK.bnd λa a a a=>Vd
theorem bA {m:M α} {k:α->M β} {S:St} {b:β} {S':St} {q:List Prop} (e:bnd m k S=UV (b,S',q)):∃a S1 p1 p2,m S=UV (a,S1,p1)/\k a S1=UV (b,S',p2)/\q=p1++p2:=OK.of (K:=λb S' q=>∃a S1 p1 p2,m S=UV (a,S1,p1)/\k a S1=UV (b,S',p2)/\q=p1++p2) e (OK.bnd λa S1 p1 h=>OK.got λb d p2 c=>⟨a,S1,p1,p2,h,c,rfl⟩)
end
variable {S' S1 S2 S3:St} {m:M α} {R:bJ α β}
section
def Gh (c:Cx) (fz:Vc) (U:List U6) (m:M α) (R:Vc->List U6->α->Prop):Prop:=
 ∀S a S' p,m S=UV (a,S',p)->ao p->∀fz' ρ' h,Le fz fz'->U <+:ρ'->HR c fz' ρ' S.H h->∃b,Le fz' b/\HR c b ρ' S'.H h/\R b ρ' a
noncomputable def eA:D->V
 | .none=> .none
 | .bool b=> .bool b
 | .int i=> .int i
 | .str s=> .str s
 |d=> .dat d
theorem jx {x:U2} (h:DR g d x):VR g U (eA d) x:=by
 induction d using Mine.Internal.D.casesOn with
 |none=>exact ac h.i_none .none
 |bool=>exact ac h.i_bool (.bool _)
 |int=>obtain⟨t,rfl⟩:=h.i_int;exact .int _ _
 |str=>obtain⟨t,rfl⟩:=h.i_str;exact .str _ _
 |_=>exact .dat h
noncomputable def jy:List D->Option (List Int)
 |[]=>UV []
 | .int i::r=>match jy r with
  |some l=>UV (i::l)
  |none=>UW
 |_=>UW
noncomputable def zE (ds:List D):D:=match jy ds with
 |some ns=> .ints ns
 |none=> .list ds
theorem oI:∀{ns:List Int} {vs:List U2},jy ds=UV ns->cb g ds vs->Wu vs ns:=by
 induction ds with
 |nil=>intro ns vs h c;refine ac c.i0 (aD (U0 h) ?_);exact .nil
 |cons d r f=>
  intro ns vs h c;induction d using Mine.Internal.D.casesOn with
  |int i=>
   dsimp only[jy] at h;induction e:jy r with
   |none=>rw[e] at h;exact nn h
   |some l=>rw[e] at h;refine c.ec λx q a b=>?_;obtain⟨t,rfl⟩:=a.i_int;exact aD (U0 h) (.cons _ _ (f e b))
  |_=>exact nn h
theorem zF {vs:List U2} {n:Nat} (e:g.get? a=UV (bT vs n)) (h:cb g ds vs):DR g (zE ds) (.ref a):=by
 dsimp only[zE];induction b:jy ds with
 |none=>exact .list e h
 |some ns=>exact .ints e (oI b h)
noncomputable def Lo (i:Nat) (d:D):M D:=λS=>UV (d,⟨S.H.set i (.fro d),S.orc⟩,[])
def lc (i:Nat) (d:D):M D:=λS=>match S.H[i]? with
 |none=>UW
 |some o=>match o.live with
  |true=>Lo i d S
  |false=>UW
mutual
noncomputable def cj (P:Va):Nat->V->M D
 |_, .none=>ret .none
 |_, .bool b=>ret (.bool b)
 |_, .int i=>ret (.int i)
 |_, .str s=>ret (.str s)
 |_, .dat d=>ret d
 |_, .con _=>fail
 |_, .fk _=>fail
 |0, .ref _=>fail
 |n+1, .ref i=>λS=>match S.H[i]? with
  |some (.fro d)=>UV (d,S,[])
  |some (.ints ns)=>lc i (.ints ns) S
  |some (.strs ss)=>lc i (.list (ss.map D.str)) S
  |some (.dats ds)=>lc i (.list ds) S
  |some (.list xs)=>bnd (o5 P n xs) (λds=>lc i (zE ds)) S
  |some (.tup xs)=>bnd (o5 P n xs) (λds=>lc i (.tup ds)) S
  |some (.dict es)=>bnd (rB P n es) (λds=>lc i (.dict P ds)) S
  |_=>UW
noncomputable def o5 (P:Va):Nat->List V->M (List D)
 |_,[]=>ret []
 |0,_=>fail
 |n+1,v::r=>bnd (cj P n v) λd=>bnd (o5 P n r) λds=>ret (d::ds)
noncomputable def rB (P:Va):Nat->List (Vb×V)->M (List (Vb×D))
 |_,[]=>ret []
 |0,_=>fail
 |n+1,(k,v)::r=>bnd (cj P n v) λd=>bnd (rB P n r) λds=>ret ((k,d)::ds)
end
section
def zG (c:Cx) (fz:Vc) (U:List U6) (R:Vc->List U6->α->Prop) (S:St) (a:α) (S':St) (p:List Prop):Prop:=
 ao p->∀fz' ρ' h,Le fz fz'->U <+:ρ'->HR c fz' ρ' S.H h->∃b,Le fz' b/\HR c b ρ' S'.H h/\R b ρ' a
theorem Gh.run {R:Vc->List U6->α->Prop} (h:∀S K,(∀a S' p,zG c fz U R S a S' p->K a S' p)->OK (m S) K):Gh c fz U m R:=λS b b b e=>OK.of (K:=zG c fz U R S) e (h S _ λb b b x=>x)
theorem Gh.ret {a:α} {R:Vc->List U6->α->Prop} (h:∀fz' ρ',Le fz fz'->U <+:ρ'->R fz' ρ' a):Gh c fz U (ret a) R:=Gh.run λb b d=>d _ _ _ λb b b b k q x=>(cE _ (Le.refl _) x (h _ _ k q))
theorem Gh.fail {R:Vc->List U6->α->Prop}:Gh c fz U (fail:M α) R:=λa a a a e=>nomatch e
theorem Gh.bind {k:α->M β} {R:Vc->List U6->α->Prop} {R':Vc->List U6->β->Prop} (h1:Gh c fz U m R) (h2:∀fz' ρ' a,Le fz fz'->U <+:ρ'->R fz' ρ' a->Gh c fz' ρ' (k a) R'):Gh c fz U (bnd m k) R':=
 Gh.run λS K l=>OK.bnd λa f n e1=>OK.got λb o p e2=>l _ _ _ λr fz' ρ' g h q x=>aN (af.mp r) λd e=>ca (h1 S a f n e1 d fz' ρ' g h q x) λi j s t=>
  ca (h2 i ρ' a (h.trans j) q t f b o p e2 e i ρ' g (Le.refl _) (U4 _) s) λu v w y=>(cE u (j.trans v) w y)
theorem ae.ghost {k:α->M β} {t:Xh γ} {R:Vc->List U6->α->Prop} {R':bJ β γ} (h1:Gh c fz U m R) (h2:∀fz' ρ' a,Le fz fz'->U <+:ρ'->R fz' ρ' a->ae c A fz' ρ' (k a) t R'):ae c A fz U (bnd m k) t R':=
 ae.run λS K j=>OK.bnd λa f l e1=>OK.got λb n o e2=>j _ _ _ λp fz' ρ' s Q g q x y=>aN (af.mp p) λd e=>ca (h1 S a f l e1 d fz' ρ' s.heap g q x.hr) λh i u v=>
  h2 h ρ' a (g.trans i) q v f b n o e2 e h ρ' s Q (Le.refl _) (U4 _) (x.tz u) λw B C z D E F r=>y w B C z (i.trans D) E F r
theorem BJ {vs:List U2} (h:dk ss vs):cb g (ss.map D.str) vs:=by
 induction h with
 |nil=>exact .nil
 |cons _ a=>exact .cons (.str _ _) a
def sV (fz:Vc) (U:List U6) (v:V):Vc->List U6->D->Prop:=λfz' a d=>∀x,VR fz U v x->DR fz' d x
def HF (fz:Vc) (U:List U6) (v:List V):Vc->List U6->List D->Prop:=λfz' a d=>∀x,av fz U v x->cb fz' d x
def HG (P:Va) (fz:Vc) (U:List U6) (v:List (Vb×V)):Vc->List U6->List (Vb×D)->Prop:=λfz' a d=>∀x,ER fz U P v x->DE fz' P d x
theorem nA {S n:St} {K:D->St->List Prop->Prop} {ob:O} {p₁:List Prop} (C:∀a S' p,zG c fz U (sV fz U (.ref i)) S a S' p->K a S' p) (h1:S.H[i]?=UV ob) (l:ob.live=UX)
  (E:ao p₁->∀fz' ρ' h,HR c fz' ρ' S.H h->∃m,Le fz' m/\HR c m ρ' n.H h/\∀j a ob',Le m j->OR c.w.params fz' ρ' ob a ob'->j.get? a=UV ob'->DR j d (.ref a)):OK (lc i d n) λb S2 p2=>K b S2 (p₁++p2):=by
 unfold lc
 induction y:n.H[i]? with
 |none=>exact Vd
 |some o=>
  refine(?_:OK (match o.live with|true=>Lo i d n|false=>UW) _);induction A:o.live with
  |false=>exact Vd
  |true=>
   exact C _ _ _ λF fz' ρ' h k q x=>ca (E (af.mp F).1 fz' ρ' h x) λm s r G=>cy (r.obj i _ y A) λa ob' v B e=>aj (x.at h1 l v) λI g1 J=>
    ca (r.freeze y A v B λf L g=>G f a ob' L (U0 (g1.symm.trans B)▸J) g) λj t M u=>(cE j (s.trans t) u (λz N=>N.e_ref λb P=>U0 (v.symm.trans (ai q P))▸M))
theorem uQ {S:St} {K:D->St->List Prop->Prop} {ob:O} (g:∀a S' p,zG c fz U (sV fz U (.ref i)) S a S' p->K a S' p) (h1:S.H[i]?=UV ob) (l:ob.live=UX) {m:M β} {f:β->D} {R:Vc->List U6->Vc->List U6->β->Prop}
  (j:∀fz U,Gh c fz U m (R fz U)) (k:∀fz' ρ' d e ds b a ob',R fz' ρ' d e ds->Le d b->OR c.w.params fz' ρ' ob a ob'->b.get? a=UV ob'->DR b (f ds) (.ref a)):OK (bnd m (λds=>lc i (f ds)) S) K:=
 OK.bnd λds n o q=>nA g h1 l λr fz' ρ' h x=>ca (j fz' ρ' S ds n o q r fz' ρ' h (Le.refl _) (U4 _) x) λs t u v=>(cE s t u (λf a ob y=>k _ _ _ _ _ f a ob v y))
theorem Lp {n:Nat} (i2:∀fz U vs,Gh c fz U (o5 c.w.params n vs) (HF fz U vs)) (v:∀fz U vs,Gh c fz U (rB c.w.params n vs) (HG c.w.params fz U vs)) :Gh c fz U (cj c.w.params (n+1) (.ref i)) (sV fz U (.ref i)):=
 Gh.run λS K l=>by
  dsimp only[cj];induction p:S.H[i]? with
  |none=>exact Vd
  |some y=>
   induction y using O.casesOn with
   |fro C=>exact l _ _ _ λD j ρ' h k q x=>(cE j (Le.refl _) x (λz A=>A.e_ref λb B=>x.froAt p (ai q B)))
   |«ints» ns=>exact nA (p₁:=[]) l p rfl λd j ρ' h x=>(cE j (Le.refl _) x (λf a d d o g=>aG o λvs m e r=> .ints (aD e g) r))
   |«strs» ns=>exact nA (p₁:=[]) l p rfl λd j ρ' h x=>(cE j (Le.refl _) x (λf a d d o g=>aG o λvs m e r=> .list (aD e g) (BJ r)))
   |«dats» ns=>exact nA (p₁:=[]) l p rfl λd j ρ' h x=>(cE j (Le.refl _) x (λf a d s o g=>aG o λvs m e r=> .list (aD e g) (r.mono s)))
   |«list» vs=>exact uQ l p rfl (λfz U=>i2 fz U vs) λd d d d d d d d t s o g=>aG o λu m e r=>zF (aD e g) ((t u r).mono s)
   |«tup» vs=>exact uQ l p rfl (λfz U=>i2 fz U vs) λd d d d d d d d t s o g=>aG o λu m e r=> .tup (aD e g) ((t u r).mono s)
   |«dict» vs=>exact uQ l p rfl (λfz U=>v fz U vs) λd d d d d d d d t s o g=>aG o λu m e r=> .dict (aD e g) ((t u r).mono s)
   |_=>exact Vd
theorem BK (n:Nat) (v:V) (h:∀i,Gh c fz U (cj c.w.params n (.ref i)) (sV fz U (.ref i))):Gh c fz U (cj c.w.params n v) (sV fz U v):=by
 induction v using V.casesOn with
 |ref i=>exact h i
 |none=>cases n<;>exact Gh.ret λa a a a x h=>h.i_none▸ .none
 |bool=>cases n<;>exact Gh.ret λa a a a x h=>h.i_bool▸ .bool _
 |int=>cases n<;>exact Gh.ret λa a a a x h=>h.e_int λa=> .int _ _
 |str=>cases n<;>exact Gh.ret λa a a a x h=>h.e_str λa=> .str _ _
 |dat=>cases n<;>exact Gh.ret λa a k a x h=>h.i_dat.mono k
 |_=>cases n<;>exact Gh.fail
theorem Lq {n:Nat} (i1:∀fz U v,Gh c fz U (cj c.w.params n v) (sV fz U v)) (i2:∀fz U vs,Gh c fz U (o5 c.w.params n vs) (HF fz U vs)) :Gh c fz U (o5 c.w.params (n+1) vs) (HF fz U vs):=by
 induction vs using VE with
 |nil=>exact Gh.ret λe e e e g h=>h.i0▸ .nil
 |cons v r=>exact Gh.bind (m:=cj c.w.params n v) (i1 fz U v) λi j d k l o=>Gh.bind (i2 i j r) λt u ds p y q=>Gh.ret λz A f B g s=>s.ec λx C a b=> .cons (((o _ a).mono p).mono f) ((q _ (b.mono k l)).mono f)
theorem Lu {n:Nat} (i1:∀fz U v,Gh c fz U (cj c.w.params n v) (sV fz U v)) (i2:∀fz U vs,Gh c fz U (rB c.w.params n vs) (HG c.w.params fz U vs)) {vs:List (Vb×V)}:Gh c fz U (rB c.w.params (n+1) vs) (HG c.w.params fz U vs):=by
 induction vs using VE with
 |nil=>exact Gh.ret λf f f f i h=>h.i0▸ .enil
 |cons v r=>exact Gh.bind (m:=cj c.w.params n v.2) (i1 fz U v.2) λj k d l o p=>Gh.bind (i2 j k r) λy z ds q A s=>Gh.ret λB C g D i u=>gO u.ic λt x E e a b=>e▸ .econs (((p _ a).mono q).mono g) ((s _ (b.mono l o)).mono g)
theorem Pb (n:Nat):(∀fz U v,Gh c fz U (cj c.w.params n v) (sV fz U v))/\(∀fz U vs,Gh c fz U (o5 c.w.params n vs) (HF fz U vs))/\∀fz U vs,Gh c fz U (rB c.w.params n vs) (HG c.w.params fz U vs):=by
 induction n with
 |zero=>exact⟨λfz U v=>BK 0 v λa=>Gh.fail,λfz U vs=>VE vs (Gh.ret λa a a a d h=>h.i0▸ .nil) λa a=>Gh.fail,λfz U vs=>VE vs (Gh.ret λa a a a d h=>h.i0▸ .enil) λa a=>Gh.fail⟩
 |succ n b=>exact⟨λfz U v=>BK (n+1) v λi=>Lp b.2.1 b.2.2,λfz U vs=>Lq b.1 b.2.1,λfz U vs=>Lu b.1 b.2.2⟩
theorem qc (n:Nat) (fz:Vc) (U:List U6) (v:V):Gh c fz U (cj c.w.params n v) (λfz' ρ' d=>∀x,VR fz U v x->DR fz' d x):=(Pb n).1 fz U v
end
section
def yh (P:Va) (n:Nat):V->M V
 | .ref j=>match abg n j with
  |true=>bnd (cj P 9 (.ref j)) λd=>ret (.dat d)
  |false=>ret (.ref j)
 |v=>ret v
def uR (P:Va) (n:Nat):List V->M (List V)
 |[]=>ret []
 |v::r=>bnd (yh P n v) λu=>bnd (uR P n r) λa=>ret (u::a)
def HH (P:Va) (n:Nat):List (Vb×V)->M (List (Vb×V))
 |[]=>ret []
 |(x,v)::r=>bnd (yh P n v) λu=>bnd (HH P n r) λa=>ret ((x,u)::a)
def QX (P:Va) (n:Nat):O->M O
 | .list xs=>bnd (uR P n xs) λys=>ret (.list ys)
 | .tup xs=>bnd (uR P n xs) λys=>ret (.tup ys)
 | .dict es=>bnd (HH P n es) λys=>ret (.dict ys)
 | .frame es=>bnd (HH P n es) λys=>ret (.frame ys)
 | .cell (UV v)=>bnd (yh P n v) λu=>ret (.cell (UV u))
 | .inst C d (UV xs)=>bnd (uR P n xs) λys=>ret (.inst C d (UV ys))
 |o=>ret o
def reO (i:Nat) (o:O):M Unit:=λS=>match S.H[i]? with
 |some a=>match a.live,o.live with
  |true,UX=>UV ((),⟨S.H.set i o,S.orc⟩,[])
  |_,_=>UV ((),S,[])
 |none=>UW
def El (P:Va) (n i:Nat):M Unit:=λS=>match S.H[i]? with
 |some o=>match o.live with
  |true=>bnd (QX P n o) (λa=>reO i a) S
  |false=>UV ((),S,[])
 |none=>UW
noncomputable def qd (P:Va) (n:Nat):Nat->M Unit
 |0=>ret ()
 |k+1=>bnd (qd P n k) λa=>El P n k
noncomputable def BL (n:Nat):V->Bool
 | .ref j=>Yh j n
 |_=>UX
noncomputable def uS (n:Nat):List V->Bool
 |[]=>UX
 |v::r=>BL n v&&uS n r
def BM (n:Nat):List (Vb×V)->Bool
 |[]=>UX
 |(_,v)::r=>BL n v&&BM n r
noncomputable def HI (n:Nat):List (Vb×Nat)->Bool
 |[]=>UX
 |(_,v)::r=>Yh v n&&HI n r
def HJ (n:Nat):O->Bool
 | .list xs=>uS n xs
 | .tup xs=>uS n xs
 | .dict es=>BM n es
 | .frame es=>BM n es
 | .cell (UV v)=>BL n v
 | .cell UW=>UX
 | .inst _ d (UV xs)=>Yh d n&&uS n xs
 | .inst _ d UW=>Yh d n
 | .fn _ cl=>HI n cl
 | .listIt l _=>Yh l n
 |_=>UX
noncomputable def rC (n:Nat):List O->Bool
 |[]=>UX
 |o::r=>HJ n o&&rC n r
section
theorem qe (n:Nat) (v:V):Gh c fz U (yh c.w.params n v) (λfz' ρ' u=>∀x,VR fz U v x->VR fz' ρ' u x):=by
 induction v with
 |ref j=>
  unfold yh;dsimp only;induction abg n j with
  |true=>exact Gh.bind (qc 9 fz U _) λi k d l m h=>Gh.ret λf g a e x b=> .dat ((h x b).mono a)
  |false=>exact Gh.ret λf g a e x b=>b.mono a e
 |_=>exact Gh.ret λf g a e x b=>b.mono a e
theorem rE (n:Nat) (vs:List V):∀(fz:Vc) (U:List U6),Gh c fz U (uR c.w.params n vs) (λfz' ρ' e=>∀xs,av fz U vs xs->av fz' ρ' e xs):=by
 induction vs with
 |nil=>exact λfz U=>Gh.ret λd d d d xs h=>h.i0▸ .nil
 |cons v r i=>exact λfz U=>Gh.bind (qe n v) λj k u l m o=>Gh.bind (i j k) λz A e p q s=>Gh.ret λB C f g xs t=>by exact t.ec λx y a b=>(.cons (((o _ a).mono p q).mono f g) ((s _ (b.mono l m)).mono f g))
theorem BN (P:Va) (n:Nat) (vs:List (Vb×V)):∀(fz:Vc) (U:List U6),Gh c fz U (HH c.w.params n vs) (λfz' ρ' j=>(∀xs,ER fz U P vs xs->ER fz' ρ' P j xs)/\∀y w,d6 fz U (lk y vs) w->d6 fz' ρ' (lk y j) w):=by
 induction vs with
 |nil=>exact λfz U=>Gh.ret λd d k q=>⟨λxs h=>h.i0▸ .nil,λy w h=>h.mono k q⟩
 |cons p r C=>
  obtain⟨x,v⟩:=p;exact λfz U=>Gh.bind (qe n v) λD E u l m o=>Gh.bind (C D E) λH I j s A B=>Gh.ret λJ K f g=>⟨λxs F=>by
   refine gO F.ic λt x y e a b=>(ac e ?_)
   exact .cons (((o _ a).mono s A).mono f g) ((B.1 _ (b.mono l m)).mono f g),λy w h=>by
    rw[mo] at h;refine ac (mo ..) ?_;by_cases i:y=x
    ·rw[if_pos i] at h;refine aj (d6.i_some h) λz e G=>(ac e (ac (if_pos i) ?_))
     exact((o _ G).mono s A).mono f g
    ·rw[if_neg i] at h;exact ac (if_neg i) ((B.2 y w (h.mono l m)).mono f g)⟩
theorem Lv (n:Nat) (o:O):Gh c fz U (QX c.w.params n o) (λfz' ρ' E=>∀a ob,OR c.w.params fz U o a ob->OR c.w.params fz' ρ' E a ob):=by
 have same:Gh c fz U (ret o) (λfz' ρ' E=>∀a ob,OR c.w.params fz U o a ob->OR c.w.params fz' ρ' E a ob):=Gh.ret λb b k q a ob h=>h.mono k q;induction o with
 |«list» l=>exact Gh.bind (rE n l fz U) λs t D y p g=>Gh.ret λA B i f a ob j=>aG j λvs m e r=>⟨vs,m,e,(g _ r).mono i f⟩
 |tup l=>exact Gh.bind (rE n l fz U) λs t D y p g=>Gh.ret λA B i f a ob j=>aG j λvs m e r=>⟨vs,m,e,(g _ r).mono i f⟩
 |dict F=>exact Gh.bind (BN c.w.params n F fz U) λs t D y p g=>Gh.ret λA B i f a ob j=>aG j λvs m e r=>⟨vs,m,e,(g.1 _ r).mono i f⟩
 |frame F=>exact Gh.bind (BN c.w.params n F fz U) λs t D y p g=>Gh.ret λA B i f a ob j=>aj j λm e r=>⟨m,e,λx=>(g.2 x _ (r x)).mono i f⟩
 |cell v=>
  induction v with
  |none=>exact same
  |some v=>exact Gh.bind (qe n v) λs t u y p g=>Gh.ret λA B i f a ob j=>aj j λx e r=>⟨x,e,by
    induction x with
    |none=>exact r.elim
    |some z=>exact(g z r).mono i f⟩
 |inst C d l=>
  induction l with
  |none=>exact same
  |some l=>exact Gh.bind (rE n l fz U) λs t D y p g=>Gh.ret λA B i f a ob ⟨G,e,vs,m,H,r⟩=>⟨G,ai (p.trans f) e,vs,m,H,(g _ r).mono i f⟩
 |_=>exact same
theorem HR.reO (x:HR c fz U H h) (hi:H[i]?=UV o₀) (hl:o₀.live=UX) (d:o.live=UX) (e:∀a ob,U[i]?=UV a->h.get? a=UV ob->OR c.w.params fz U o a ob):HR c fz U (H.set i o) h:=by exact cy (x.obj i o₀ hi hl) λa ob e1 e2 b=>(x.upd hi hl e1 ⟨rfl,λb b=>rfl⟩ e2 (e a ob e1 e2) d)
theorem Jn (n i:Nat):Gh c fz U (El c.w.params n i) (λd d d=>True):=by
 refine Gh.run λS K l=>?_;unfold El;induction y:S.H[i]? with
 |none=>exact Vd
 |some o=>
  dsimp only;induction z:o.live with
  |false=>exact l _ _ _ λg e ρ' h k q x=>(cE e (Le.refl _) x trivial)
  |true=>
   refine OK.bnd λm j p A=>?_;have u:∀e ρ' h,Le fz e->U <+:ρ'->HR c e ρ' S.H h->ao p->∃f,Le e f/\HR c f ρ' j.H h/\∀a r,OR c.w.params e ρ' o a r->OR c.w.params f ρ' m a r:=λe ρ' h k q x g=>
    Lv (c:=c) (fz:=e) (U:=ρ') n o S m j p A g e ρ' h (Le.refl _) (U4 _) x
   have v:OK (UV ((),j,[])) λb B C=>K b B (p++C):=l _ _ _ λg e ρ' h k q x=>
    ca (u e ρ' h k q x (af.mp g).1) λf s t d=>(cE f s t trivial)
   unfold reO;induction D:j.H[i]? with
   |none=>exact Vd
   |some E=>
    dsimp only;induction F:E.live with
    |false=>exact v
    |true=>induction G:m.live with
     |false=>exact v
     |true=>
      refine l _ _ _ λg e ρ' h k q x=>(ca (u e ρ' h k q x (af.mp g).1) λf s t I=>?_)
      exact(cE f s (t.reO D F G λa J L M=>aj (x.at y z L) λr N O=>I _ _ (U0 (N.symm.trans M)▸O)) trivial)
theorem uT (n:Nat):∀k (fz:Vc) (U:List U6),Gh c fz U (qd c.w.params n k) (λa a a=>True)
 |0,_,_=>Gh.ret λa a a a=>trivial
 |k+1,fz,U=>Gh.bind (uT n k fz U) λb d a a a a=>Jn n k
theorem gu {l:List α} {n:Nat} {a:α} (e:l[i]?=UV a) (h:i < n):(l.take n)[i]?=UV a:=by refine ac (aaZ) (ac (if_pos h) ?_);exact e
set_option tactic.hygienic true in
theorem fe {l:List α} {n:Nat} {a:α} (e:(l.take n)[i]?=UV a):l[i]?=UV a/\i < n:=by
 simp only[aaZ] at e;split at e
 ·rename_i h;exact⟨e,h⟩
 ·exact nn e
theorem mr {n:Nat} {x:U2} (f:BL n v=UX) (h:VR g U v x):VR g (U.take n) v x:=by
 induction h with
 |none=>exact .none
 |bool=>exact .bool _
 |int=>exact .int _ _
 |str=>exact .str _ _
 |ref e=>exact .ref (gu e (Wd f))
 |con=>exact .con _
 |dat h=>exact .dat h
 |fk=>exact .fk _
theorem rF {n:Nat} {v:List V} {x:List U2} (f:uS n v=UX) (h:av g U v x):av g (U.take n) v x:=by
 induction h with
 |nil=>exact .nil
 |cons a _ b=>refine aN (Bool.and_eq_true_iff.mp f) λc d=>?_;exact .cons (mr c a) (b d)
theorem Lw {n:Nat} {v:List (Vb×V)} {x:List Wg} (f:BM n v=UX) (h:ER g U P v x):ER g (U.take n) P v x:=by
 induction h with
 |nil=>exact .nil
 |cons a _ b=>refine aN (Bool.and_eq_true_iff.mp f) λc d=>?_;exact .cons (mr c a) (b d)
theorem Lx {n:Nat} {y:Vb} {w:Option U2} {v:List (Vb×V)} (f:BM n v=UX) (h:d6 g U (lk y v) w):d6 g (U.take n) (lk y v) w:=by
 induction v with
 |nil=>cases w<;>first|trivial|exact h.elim
 |cons p r c=>
  obtain⟨x,v⟩:=p;refine aN (Bool.and_eq_true_iff.mp f) λd e=>?_;rw[mo] at h;refine ac (mo ..) ?_;by_cases a:y=x
  ·rw[if_pos a] at h;refine aj (d6.i_some h) λz b i=>(ac b (ac (if_pos a) ?_))
   exact mr d i
  ·rw[if_neg a] at h;exact ac (if_neg a) (c e h)
theorem Jo {n:Nat} {x:Vb} {l:List (Vb×Nat)} (f:HI n l=UX) (h:(x,k)∈l):k < n:=by
 induction l with
 |nil=>cases h
 |cons p r b=>
  refine aN (Bool.and_eq_true_iff.mp (show(Yh p.2 n&&HI n r)=UX from f)) λa c=>((List.mem_cons.mp h).elim (λe=>?_) λh=>?_)
  ·rw[<-e] at a;exact Wd a
  ·exact b c h
theorem Ly {n:Nat} (f:HJ n o=UX) (h:OR P g U o a ob):OR P g (U.take n) o a ob:=by
 induction o with
 |«list» c=>obtain⟨vs,m,e,r⟩:=h;exact⟨vs,m,e,rF f r⟩
 |tup c=>obtain⟨vs,m,e,r⟩:=h;exact⟨vs,m,e,rF f r⟩
 |dict s=>obtain⟨vs,m,e,r⟩:=h;exact⟨vs,m,e,Lw f r⟩
 |frame s=>obtain⟨m,e,r⟩:=h;exact⟨m,e,λx=>Lx f (r x)⟩
 |cell v=>
  refine aj h λx e r=>(aA x e ?_)
  induction v with
  |none=>cases x<;>first|trivial|exact r.elim
  |some v=>induction x with
   |none=>exact r.elim
   |some z=>exact mr f r
 |inst C d c=>
  induction c with
  |none=>obtain⟨j,e,r⟩:=h;exact(aA j (gu e (Wd f)) r)
  |some c=>
   refine aj h λj e k=>(aG k λvs m p r=>?_)
   dsimp only[HJ] at f;simp only[VO] at f;exact⟨j,gu e (Wd f.1),vs,m,p,rF f.2 r⟩
 |fn t B=>
  refine aN h λe k=>(aj k λu p r=>?_)
  refine⟨e,u,p,{r with clo:=λx m q=>?_}⟩;exact aj (r.clo x m q) λb y A=>⟨b,y,gu A (Jo f q)⟩
 |listIt l i=>obtain⟨b,e,r⟩:=h;exact⟨b,gu e (Wd f),r⟩
 |_=>exact h
theorem Em {n:Nat} {l:List O} (f:rC n l=UX):∀{i:Nat} {o:O},l[i]?=UV o->HJ n o=UX:=by
 induction l with
 |nil=>intro i o h;exact nn h
 |cons x r a=>
  obtain⟨b,c⟩:=Bool.and_eq_true_iff.mp f;intro i o h;induction i with
  |zero=>refine aD (U0 h) ?_;exact b
  |succ i=>exact a c h
theorem HR.take (x:HR c fz U H h) {n:Nat} (y:n<=H.length) (hf:rC n (H.take n)=UX):HR c fz (U.take n) (H.take n) h:=by
 refine⟨x.fzle,x.gle,x.wd,ac YS (ac YS (ac x.len rfl)),?_,?_,λi d e=>?_,x.dis,x.tab,λt g i o e l q=>?_⟩
 ·intro i j k m a e1 p e2 r b f;exact x.inj i j k m a (fe e1).1 p (fe e2).1 r (fe b).1 (fe f).1
 ·intro i o e l;exact eX (x.obj i o (fe e).1 l) λa s b f u v w=>(l8 a s (gu b (fe e).2) f u v (Ly (Em hf e) w))
 ·exact aj (x.fro i d (fe e).1) λa b f=>(aA a (gu b (fe e).2) f)
 ·exact x.tdis t g i o (fe e).1 l (fe q).1
end
inductive Fl where
 |next|brk|cont
 |ret (v:V)
def FR:bJ Fl Flow:=λfz U f x=>match f,x with
 | .next, .next=>True
 | .brk, .brk=>True
 | .cont, .cont=>True
 | .ret v, .ret y=>VR fz U v y
 |_,_=>False
def HK (P:Va) (n:Nat):Fl->M Fl
 | .ret v=>bnd (yh P n v) λu=>ret (.ret u)
 |f=>ret f
def QY (n:Nat):Fl->Bool
 | .ret v=>BL n v
 |_=>UX
def zH (n:Nat) (f:Fl):M Fl:=λS=>match rC n (S.H.take n),QY n f with
 |true,UX=>UV (f,⟨S.H.take n,S.orc⟩,[])
 |_,_=>UW
def iy (tr:Option Va) (m:M Fl):M Fl:=match tr with
 |none=>m
 |some P=>λS=>bnd m (λf=>bnd (HK P S.H.length f) λf=>bnd (qd P S.H.length S.H.length) λa=>zH S.H.length f) S
section
theorem Lz (n:Nat) (f:Fl):Gh c fz U (HK c.w.params n f) (λb d g=>∀x,FR fz U f x->FR b d g x):=by
 induction f with
 |ret v=>
  refine Gh.bind (qe _ v) λk l u m o h=>Gh.ret λp q i j x e=>?_;induction x with
  |ret z=>exact(h z e).mono i j
  |_=>exact e.elim
 |_=>refine Gh.ret λa a a a x e=>?_;cases x<;>first|exact e.elim|trivial
theorem oJ {tr:Option Va} (htr:∀P,tr=UV P->P=c.w.params) {m:M Fl} {t:Xh Flow} (h:ae c A fz U m t FR):ae c A fz U (iy tr m) t FR:=by
 induction tr with
 |none=>exact h
 |some P=>
  have:=htr P rfl;refine ac this (ae.run λS K F=>OK.bnd λG I Z J=>OK.bnd λo L p1 N=>OK.bnd λa q p2 O=>?_);unfold zH;induction hl:rC S.H.length (q.H.take S.H.length) with
  |false=>exact Vd
  |true=>
  induction r:QY S.H.length o with
  |false=>exact Vd
  |true=>
  refine F _ _ _ λe v ρ' s Q k p z y=>?_;clear F;refine aN (af.mp e) λf e=>(aN (af.mp e) λg e=>?_)
  have i:=(af.mp e).1;clear e;refine h S G I Z J f v ρ' s Q k p z λf2 l B x k2 j d R=>(ca (Lz S.H.length G I o L p1 N g f2 l B.heap (Le.refl _) (U4 _) d.hr) λT k3 V W=>?_)
  refine ca (uT (c:=c) S.H.length S.H.length T l L _ q p2 O i T l B.heap (Le.refl _) (U4 _) V) λf4 X C a=>?_;have b:ρ'.length=S.H.length:=z.hr.len;have Y:l.take S.H.length=ρ':=by obtain⟨t,rfl⟩:=j;exact aD b (ac ab1 rfl)
  have D:=C.take (aD C.len (aD b j.length_le):S.H.length<=q.H.length) hl;rw[Y] at D;refine y f4 ρ' B x (k2.trans (k3.trans X)) (U4 _) (d.tz D) ?_;have E:=W x R;clear W R V C J N O f g i h z d D;induction o with
  |ret u=>
   cases x<;>first|exact E.elim|skip
   exact aD Y (mr (n:=S.H.length) r (VR.mono X (U4 _) E))
  |_=>cases x<;>first|exact E.elim|trivial
end
end
section
abbrev au:bJ V U2:=λfz U v x=>VR fz U v x
abbrev dJ:bJ Unit Unit:=λa a a a=>True
abbrev gP:bJ Bool Bool:=λc c a b=>a=b
abbrev zI:bJ (List V) (List U2):=λfz U v x=>av fz U v x
abbrev lf:bJ (Option V) (Option U2):=λfz U v x=>match v,x with
 |none,UW=>True
 |some v,UV x=>VR fz U v x
 |_,_=>False
abbrev o6:bJ (V×List V) (U2×List U2):=λfz U v x=>VR fz U v.1 x.1/\av fz U v.2 x.2
inductive GV where
 |v (x:U2)
 |f (k:Nat)
def GV.val:GV->U2
 | .v x=>x
 | .f k=>FN k
structure Ec where
 names:List (Vb×Wk)
 cells:List (Vb×Nat)
 fid:Nat
 glob:List (Vb×GV)
 trim:Option Va:=UW
 spS:Nat->Option (VY×M Fl):=λa=>UW
 spE:Nat->Option (Vs×M V):=λa=>UW
structure dU where
 bin:WV->V->V->M V
 iop:WV->V->V->M V
 cmp:YV->V->V->M V
 tru:V->M Bool
 una:UnaryOp->V->M V
 idx:V->V->M V
 sli:V->V->V->M V
 gti:V->V->M V
 sit:V->V->V->M Unit
 ssl:V->V->V->V->M Unit
 att:V->Vb->M V
 sat:V->Vb->V->M Unit
 mth:V->Vb->M (V×List V)
 cal:V->List V->M V
 iter:V->M V
 nxt:Nat->M (Option V)
 unp:V->Nat->M (List V)
structure bP where
 ev:Vs->M V
 tr:Vs->M Bool
 ex:VY->M Fl
 exs:List VY->M Fl
 asg:Vs->V->M Unit
 fl:Vs->Nat->List VY->List VY->M Fl
 wl:Vs->List VY->List VY->M Fl
noncomputable def kd (x:Vb):List (Vb×Wk)->Option Wk
 |[]=>UW
 |(y,k)::r=>match sq x y with
  |true=>UV k
  |false=>kd x r
theorem fK (x:Vb) (l):kd x l=l.lookup x:=by
 induction l with
 |nil=>rfl
 |cons p r a=>
  refine ac Xc ?_;refine(?_:(match sq x p.1 with|true=>UV p.2|false=>kd x r)=_);by_cases h:x=p.1
  ·exact ac (bS.mpr h) (ac (beq_iff_eq.mpr h) rfl)
  ·exact ac (cg.mpr h) (ac (beq_false_of_ne h) a)
def cT (x:Vb):List (Vb×Nat)->Option Nat
 |[]=>UW
 |(y,k)::r=>match sq x y with
  |true=>UV k
  |false=>cT x r
def ms (x:Vb):List (Vb×GV)->Option GV
 |[]=>UW
 |(y,k)::r=>match sq x y with
  |true=>UV k
  |false=>ms x r
noncomputable def toV:U2->V
 | .none=> .none
 | .bool b=> .bool b
 | .int i _=> .int i
 | .str s _=> .str s
 |v=> .con v
theorem yi (v:U2):VR g U (toV v) v:=by cases v<;>first|exact .none|exact .bool _|exact .int _ _|exact .str _ _|exact .con _
def GV.toV:GV->V
 | .v x=>Mine.Internal.toV x
 | .f k=> .fk k
theorem GV.rep (v:GV):VR g U v.toV v.val:=by
 induction v with
 |v x=>exact yi x
 |f k=>exact .fk k
def BO:Const->M V
 | .none=>ret .none
 | .bool b=>ret (.bool b)
 | .int i=>ret (.int i)
 | .str s=>ret (.str s)
 |_=>fail
noncomputable def En (x:Vb):Bool:=x==("__classdict__":Vb)
def orF (o:Option α) (k:α->M β):M β:=match o with
 |some a=>k a
 |none=>fail
noncomputable def qf (n:Nat):M V:=λS=>match S.H[n]? with
 |some (.cell (UV v))=>UV (v,S,[])
 |_=>UW
def Eo (n:Nat) (x:Vb):M V:=λS=>match S.H[n]? with
 |some (.frame l)=>orF (lk x l) ret S
 |_=>UW
def nm (C:Ec) (x:Vb):M V:=match kd x C.names with
 |some .local=>Eo C.fid x
 |some .cell=>orF (cT x C.cells) qf
 |some .free=>match En x with
  |true=>fail
  |false=>orF (cT x C.cells) qf
 |some .globalImplicit=>orF (ms x C.glob) λv=>ret v.toV
 |_=>fail
def rG (n:Nat) (x:Vb) (v:V):M Unit:=λS=>match S.H[n]? with
 |some (.frame l)=>UV ((),⟨S.H.set n (.frame (put x v l)),S.orc⟩,[])
 |_=>UW
noncomputable def o7 (v:V) (n:Nat):M Unit:=λS=>match S.H[n]? with
 |some (.cell _)=>UV ((),⟨S.H.set n (.cell (UV v)),S.orc⟩,[])
 |_=>UW
def jV (C:Ec) (x:Vb) (v:V):M Unit:=match kd x C.names with
 |some .local=>rG C.fid x v
 |some .cell=>orF (cT x C.cells) (o7 v)
 |_=>fail
noncomputable def z0:XN:=⟨0,0,0,0⟩
noncomputable def xz:Vs:= .Name "" z0
def xv (e:Vs) (z:α) (k:Nat->XN->Vs->List Vs->XO->α):α:=
 @Expr.casesOn (λf=>α) e (λa b c=>z) (λa b c=>z) (λa b c d=>z) (λa b c=>z) (λa b c d=>z) (λa b c d=>z) (λa b p=>k 1 p xz [] default) (λa b p=>k 4 p xz a default)
  (λa b s p=>k 5 p a [] s) (λa b s p=>k 6 z0 a [] s) (λa b c s p=>k 7 z0 a [] s) (λa b s p=>k 8 p a [] s) (λa b=>z) (λa p=>k 20 p (a.getD xz) [] default) (λa b=>z)
  (λa b c p=>k 15 p a c default) (λa b c p=>k (match c with|[]=>9|_=>10) p a b default) (λa b c d=>z) (λa b=>z) (λa b p=>k 16 p xz [] default) (λa b p=>k 14 p a [] default)
  (λa b p=>k 11 p a [b] default) (λa p=>k 17 z0 a [] default) (λa p=>k 13 p xz [] default) (λa p=>k 18 z0 xz a default) (λa b p=>k 19 z0 xz a default) (λa b c d=>z)
def sv (s:VY) (z:α) (k:Nat->XN->Vs->Vs->List VY->List VY->Arguments->XO->α):α:=
 @Stmt.casesOn (λm=>α) s (λa b c d e f g h i p=>k 1 p xz xz c [] b g) (λa b c d e f g h i j=>z) (λa b c d e f g h i j l=>k 2 z0 xz xz d [] default default) (λa p=>k 3 p (a.getD xz) xz [] [] default default)
  (λa b=>z) (λa b p=>k 4 p b xz [] [] default default) (λa b c d e f g=>z) (λa b c p=>k 5 p c xz [] [] default default) (λa b c d e=>z) (λa b c d p=>k 6 p a b c d default default) (λa b c d e=>z)
  (λa b c p=>k 7 p a xz b c default default) (λa b c p=>k 8 p a xz b c default default) (λa b c=>z) (λa b c=>z) (λa b c=>z) (λa b c=>z) (λa b c d e=>z) (λa b c d e=>z) (λa b c=>z)
  (λa b=>z) (λa b c d=>z) (λa b=>z) (λa b=>z) (λa p=>k 9 p a xz [] [] default default) (λa=>z) (λa=>z) (λa=>z)
noncomputable def qg (e:Vs):Nat:=xv e 0 λn a a a a=>n
noncomputable def dK (e:Vs):XN:=xv e z0 λa p a a a=>p
def cm (e:Vs):Vs:=xv e xz λb b a b b=>a
noncomputable def kz (e:Vs):List Vs:=xv e [] λa a a l a=>l
noncomputable def QZ (e:Vs):XO:=xv e default λa a a a s=>s
def fV (s:VY):XN:=sv s z0 λa p a a a a a a=>p
def aU (s:VY):Vs:=sv s xz λb b a b b b b b=>a
noncomputable def uU (s:VY):Vs:=sv s xz λb b b a b b b b=>a
noncomputable def cL (s:VY):List VY:=sv s [] λa a a a l a a a=>l
def mu (s:VY):List VY:=sv s [] λa a a a a l a a=>l
noncomputable def LA (s:VY):Arguments:=sv s default λb b b b b b a b=>a
def HL (s:VY):XO:=sv s default λa a a a a a a c=>c
noncomputable def iO (e:Vs):Bool:=Yh 4 (qg e)&&Yh (qg e) 8
noncomputable def eB (e:Vs):Bool:=VA (qg e) 4
noncomputable def qh (ts:List Vs) (e:Vs):Bool:=match ts with
 |[t]=> !(VA (qg e) 19&&(Yh 17 (qg t)&&Yh (qg t) 20))
 |_=>UX
noncomputable def ew (x:Vb):Bool:=x==("__debug__":Vb)
noncomputable def eg (e:Vs):Bool:=VA (qg e) 17
def jW (f:Vs->M V):List Vs->M (List V)
 |[]=>ret []
 |e::r=>match eg e with
  |true=>fail
  |false=>bnd (f e) λv=>bnd (jW f r) λvs=>ret (v::vs)
set_option backward.match.sparseCases true in
noncomputable def tS (f:Vs->M V) (t:V->M Bool) (op:BoolOp):List Vs->M V
 |[]=>fail
 |[x]=>f x
 |x::r=>bnd (f x) λv=>bnd (t v) λb=>bnd (dec b) λd=>match op,d with
  | .And,UY| .Or,UX=>ret v
  |_,_=>tS f t op r
noncomputable def Ep (f:Vs->M Bool) (op:BoolOp):List Vs->M Bool
 |[]=>ret (op== .And)
 |x::r=>bnd (f x) λb=>bnd (dec b) λd=>match op,d with
  | .And,UY=>ret UY
  | .Or,UX=>ret UX
  |_,_=>Ep f op r
def uV (f:Vs->M V):Option Vs->M V
 |none=>ret .none
 |some e=>f e
noncomputable def jz (f:Vs->V->M Unit) (v:V):List Vs->M Unit
 |[]=>ret ()
 |t::r=>match eg t with
  |true=>fail
  |false=>bnd (f t v) λa=>jz f v r
noncomputable def qi (f:Vs->V->M Unit):List Vs->List V->M Unit
 |[],[]=>ret ()
 |t::r,v::vs=>match eg t with
  |true=>fail
  |false=>bnd (f t v) λa=>qi f r vs
 |_,_=>fail
noncomputable def cG (f:VY->M Fl):List VY->M Fl
 |[]=>ret .next
 |s::r=>bnd (f s) λx=>match x with
  | .next=>cG f r
  |y=>ret y
noncomputable def lg:List V->Option (List Int)
 |[]=>UV []
 | .int i::r=>match lg r with
  |some l=>UV (i::l)
  |none=>UW
 |_=>UW
noncomputable def nB:List V->O
 |[]=> .list []
 |v::r=>match lg (v::r) with
  |some l=> .ints l
  |none=> .list (v::r)
def fD (e:Vs):Bool:=match kz e with
 |[]=>VA (qg e) 9&&VA (qg (cm e)) 13
 |_=>UY
noncomputable def fg:List Vs->Bool
 |[]=>UX
 |e::r=>match eg e with
  |true=>UY
  |false=>fg r
def qj (ap pos:XN) (es:List Vs):Bool:=fg es&&Yh es.length 30&&VA ap.endLine pos.line
def mv (C:Ec) (o:dU) (F:bP) (e:Vs):M V:=match e with
 | .Constant k _ _=>BO k
 | .Name x _=>match ew x with
  |true=>fail
  |false=>nm C x
 | .BinOp l op r _=>bnd (F.ev l) λa=>bnd (F.ev r) λb=>o.bin op a b
 | .UnaryOp op x _=>bnd (F.ev x) λa=>o.una op a
 | .BoolOp op es _=>tS F.ev o.tru op es
 | .IfExp t b e _=>bnd (F.tr t) λc=>bnd (dec c) λd=>match d with
  |true=>F.ev b
  |false=>F.ev e
 | .Compare l [op] [r] _=>match X2 op r with
  |true=>fail
  |false=>bnd (F.ev l) λa=>bnd (F.ev r) λb=>o.cmp op a b
 | .Subscript v (.Slice lo hi UW _) _=>bnd (F.ev v) λa=>bnd (uV F.ev lo) λl=>bnd (uV F.ev hi) λh=>o.sli a l h
 | .Subscript _ (.Slice ..) _=>fail
 | .Subscript v i _=>bnd (F.ev v) λa=>bnd (F.ev i) λb=>o.idx a b
 | .List es _=>bnd (jW F.ev es) λvs=>λS=>UV (.ref S.H.length,⟨S.H++[nB vs],S.orc⟩,[vs.length<=U9])
 | .Tuple es _ _=>bnd (jW F.ev es) λvs=>λS=>UV (.ref S.H.length,⟨S.H++[.tup vs],S.orc⟩,[vs.length<=U9])
 | .Dict [] [] _=>λS=>UV (.ref S.H.length,⟨S.H++[.dict []],S.orc⟩,[])
 | .Attribute v x _=>match fD v with
  |true=>fail
  |false=>bnd (F.ev v) λa=>o.att a x
 | .Call (.Attribute v x ap) es [] pos=>match fD v,qj ap pos es with
  |false,UX=>bnd (F.ev v) λa=>bnd (o.mth a x) λj=>bnd (jW F.ev es) λvs=>o.cal j.1 (j.2++vs)
  |_,_=>fail
 | .Call (.Attribute ..) _ _ _=>fail
 | .Call f es [] _=>bnd (F.ev f) λg=>bnd (jW F.ev es) λvs=>o.cal g vs
 |_=>fail
def BP (f:Ec) (o:dU) (F:bP) (e:Vs):M Bool:=match e with
 | .UnaryOp .Not x _=>bnd (F.tr x) λb=>ret (!b)
 | .BoolOp op es _=>Ep F.tr op es
 | .IfExp t b e _=>bnd (F.tr t) λc=>bnd (dec c) λd=>match d with
  |true=>F.tr b
  |false=>F.tr e
 | .Compare l [op] [r] _=>match X2 op r with
  |true=>fail
  |false=>bnd (F.ev l) λa=>bnd (F.ev r) λb=>bnd (o.cmp op a b) λv=>o.tru v
 | .Compare ..=>fail
 |e=>bnd (F.ev e) λv=>o.tru v
def yj (C:Ec) (o:dU) (F:bP) (e:Vs) (v:V):M Unit:=match e with
 | .Name x _=>jV C x v
 | .Tuple es _ _=>match fg es with
  |true=>bnd (o.unp v es.length) λvs=>qi F.asg es vs
  |false=>fail
 | .Subscript c (.Slice lo hi UW _) _=>bnd (F.ev c) λa=>bnd (uV F.ev lo) λl=>bnd (uV F.ev hi) λh=>o.ssl a l h v
 | .Subscript _ (.Slice ..) _=>fail
 | .Subscript c i _=>bnd (F.ev c) λa=>bnd (F.ev i) λb=>o.sit a b v
 | .Attribute c x _=>bnd (F.ev c) λa=>o.sat a x v
 |_=>fail
noncomputable def jA:O->Bool
 | .rngIt ..| .listIt ..| .datIt ..| .strIt ..=>UX
 |_=>UY
def jB (i:Nat):M Unit:=λS=>match S.H[i]? with
 |some o=>match jA o with
  |true=>UV ((),S,[])
  |false=>UW
 |none=>UW
def gQ (C:Ec) (o:dU) (F:bP) (s:VY):M Fl:=match s with
 | .Expr e _=>match iO e with
  |true=>fail
  |false=>bnd (F.ev e) λv=>match v with
   | .none=>ret .next
   |_=>fail
 | .Pass _=>ret .next
 | .Break _=>ret .brk
 | .Continue _=>ret .cont
 | .Return UW _=>ret (.ret .none)
 | .Return (UV e) _=>bnd (F.ev e) λv=>ret (.ret v)
 | .Assign ts e _=>match iO e,qh ts e with
  |false,UX=>bnd (F.ev e) λv=>bnd (jz F.asg v ts) λf=>ret .next
  |_,_=>fail
 | .AugAssign (.Name x _) op e _=>bnd (nm C x) λa=>bnd (F.ev e) λb=>bnd (o.iop op a b) λr=>bnd (jV C x r) λf=>ret .next
 | .AugAssign (.Subscript _ (.Slice ..) _) _ _ _=>fail
 | .AugAssign (.Subscript h i _) op e _=>bnd (F.ev h) λa=>bnd (F.ev i) λb=>bnd (o.gti a b) λg=>bnd (F.ev e) λv=>bnd (o.iop op g v) λr=>bnd (o.sit a b r) λf=>ret .next
 | .If t b e _=>bnd (F.tr t) λc=>bnd (dec c) λd=>match d with
  |true=>F.exs b
  |false=>F.exs e
 | .While t b e _=>F.wl t b e
 | .For t it b e _=>match eB it with
  |true=>fail
  |false=>bnd (F.ev it) λx=>bnd (o.iter x) λi=>match i with
   | .ref n=>F.fl t n b e
   |_=>fail
 |_=>fail
def kA (C:Ec) (o:dU) (F:bP) (t:Vs) (i:Nat) (b e:List VY):M Fl:=
 bnd (o.nxt i) λr=>match r with
  |none=>F.exs e
  |some v=>bnd (jB i) λa=>bnd (F.asg t v) λa=>bnd (iy C.trim (F.exs b)) λf=>match f with
   | .next| .cont=>F.fl t i b e
   | .brk=>ret .next
   | .ret v=>ret (.ret v)
def kB (C:Ec) (a:dU) (F:bP) (t:Vs) (b e:List VY):M Fl:=
 bnd (F.tr t) λc=>bnd (dec c) λd=>match d with
  |false=>F.exs e
  |true=>bnd (iy C.trim (F.exs b)) λf=>match f with
   | .next| .cont=>F.wl t b e
   | .brk=>ret .next
   | .ret v=>ret (.ret v)
noncomputable def jC (s:VY):Nat:=(fV s).line
noncomputable def nC (e:Vs):Nat:=xv e 0 λn p a a a=>match Yh n 12 with
 |true=>p.line*1000000+p.col*1000+p.endCol
 |false=>0
end
end
variable {C:Ec} {F:bP} {G:Ec->bP} {glob:List (Vb×GV)} {spS:Ec->Nat->Option (VY×M Fl)} {spE:Ec->Nat->Option (Vs×M V)}
section
section
set_option backward.match.sparseCases true in
noncomputable def ci (k:Nat) (f:U2) (xs:List U2):Xh U2:=do
 let r <-match <-ZT f,UY with
  | .frame,UX=>aby starredCall f xs []
  | .frame,UY=>if k > 30 then call f xs [] else aby plainCall f xs []
  | .boundFrame,UY=>if k > 30 then call f xs [] else aby callOfAMethodObject f xs []
  | .machine,UY=>call f xs []
  |_,_=>aaH (f::(if UY then xs.reverse else xs)++([]:List (Vb×U2)).map (·.2)) (call f xs [])
 WB [r] point
 pure r
structure aI (c:Cx) (C:Ec) (Z:Yi) (U:List U6):Prop where
 kind:Z.scope.kind= .function
 names:Z.scope.names=C.names
 glob:∀x v,ms x C.glob=UV v->∀h:Vc,(∀p∈c.KK,h.get? p.1=UV p.2)->∃mg,h.Ns Z.globals mg/\(mg x=UV v.val∨(mg x=UW/\∃mb,h.Ns Z.builtins mb/\mb x=UV v.val))
 loc:U[C.fid]?=UV Z.locals
 cells:∀x n,cT x C.cells=UV n->∃a,Z.cells.lookup x=UV a/\U[n]?=UV a
 trim:∀P,C.trim=UV P->P=c.w.params
theorem aI.at (x:aI c C Z U) (p:U <+:ρ'):aI c C Z ρ':=
 ⟨x.kind,x.names,x.glob,ai p x.loc,λy n e=>aj (x.cells y n e) λa b d=>(aA a b (ai p d)),x.trim⟩
structure cp (c:Cx) (A:Vk) (o:dU):Prop where
 bin:∀fz U op a b x y,VR fz U a x->VR fz U b y->ae c A fz U (o.bin op a b) (Xy op x y) au
 iop:∀fz U op a b x y,VR fz U a x->VR fz U b y->ae c A fz U (o.iop op a b) (acb op x y) au
 cmp:∀fz U op a b x y,VR fz U a x->VR fz U b y->ae c A fz U (o.cmp op a b) (WZ op x y) au
 tru:∀fz U a x,VR fz U a x->ae c A fz U (o.tru a) (YW x) gP
 una:∀fz U op a x,VR fz U a x->ae c A fz U (o.una op a) (unaryOp op x) au
 idx:∀fz U value slice a b x y,(∀l h s p,slice≠aae l h s p)->VR fz U a x->VR fz U b y->ae c A fz U (o.idx a b) (WN value slice x y) au
 sli:∀fz U value lo hi p pos a l h x y z,VR fz U a x->VR fz U l y->VR fz U h z->
  ae c A fz U (o.sli a l h) (abb "slice" [y,z, .none] >>= λi=>WK pos >>= λd=>WN value (.Slice lo hi UW p) x i) au
 gti:∀fz U a b x y,VR fz U a x->VR fz U b y->ae c A fz U (o.gti a b) (Yu x y) au
 sit:∀fz U a b v x y z,VR fz U a x->VR fz U b y->VR fz U v z->ae c A fz U (o.sit a b v) (YX x y z) dJ
 ssl:∀fz U pos a l h v x y z u,VR fz U a x->VR fz U l y->VR fz U h z->VR fz U v u->
  ae c A fz U (o.ssl a l h v) (abb "slice" [y,z, .none] >>= λi=>WK pos >>= λd=>WB [u,x,i] (YX x i u) >>= λd=>acC [i,u,x] []) dJ
 att:∀fz U value n a x,VR fz U a x->ae c A fz U (o.att a n) (WB [x] (aaI x n UX) >>= λr=>YY value x r >>= λd=>pure r) au
 sat:∀fz U n a v x z,VR fz U a x->VR fz U v z->ae c A fz U (o.sat a n v) (setAttr x n z) dJ
 mth:∀fz U n a x pl,VR fz U a x->ae c A fz U (o.mth a n) (W0 x n pl) o6
 cal:∀fz U k f vs xf xs,VR fz U f xf->av fz U vs xs->ae c A fz U (o.cal f vs) (ci k xf xs) au
 iter:∀fz U a x,VR fz U a x->ae c A fz U (o.iter a) (aaJ x) au
 nxt:∀fz U i a,U[i]?=UV a->ae c A fz U (o.nxt i) (aaK (.ref a)) lf
 unp:∀fz U a x n,VR fz U a x->ae c A fz U (o.unp a n) (aa3 x n UW) zI
section
variable {o:dU} 
theorem ae.eq {t':Xh β} (e:t=t') (h:ae c A fz U m t' R):ae c A fz U m t R:=e▸h
theorem BQ (k:Const):ae c A fz U (BO k) (constValue Z k) au:=by
 induction k with
 |none=>exact ae.ret λd d d d=> .none
 |bool b=>exact ae.ret λd d d d=> .bool b
 |int i=>intro S a l q e m f ρ' s Q k p x y;refine b9 (db e) λg h j=>?_;subst g;subst h;subst j;exact wpAny_mkInt (y f ρ' _ _ (Le.refl _) (U4 _) (x.ta x.hr) (.int i _))
 |str t=>intro S a l q e m f ρ' s Q k p x y;refine b9 (db e) λg h j=>?_;subst g;subst h;subst j;exact Y0 (y f ρ' _ _ (Le.refl _) (U4 _) (x.ta x.hr) (.str t _))
 |_=>exact ae.fail
theorem gv {l:List (Vb×V)} (x:SR c fz' ρ' H s) (hi:H[i]?=UV (.frame l)) (f:ρ'[i]?=UV a):
  ∃m,s.heap.Ns a m/\∀y,d6 fz' ρ' (lk y l) (m y):=by
 refine aj (x.hr.at hi rfl f) λg h j=>(aj j λm b r=>?_)
 refine via λt e=>(aG b λk n o d=>?_)
 refine aN d λp q=>?_
 refine e ?_;clear e
 exact⟨m,⟨g,k,n,h,o,p,q⟩,r⟩
theorem yk {v:Option V} (x:SR c fz' ρ' H s) (hi:H[i]?=UV (.cell v)) (b:ρ'[i]?=UV a):
  ∃ob z,s.heap.get? a=UV ob/\ob.data= .cell z/\d6 fz' ρ' v z:=let⟨ob,e,z,h1,h2⟩:=x.hr.at hi rfl b;(cY ob z e h1 h2)
theorem ae.orF {o:Option α} {k:α->M β} {t:Xh γ} {R:bJ β γ} (h:∀a,o=UV a->ae c A fz U (k a) t R):ae c A fz U (orF o k) t R:=by
 induction o with
 |none=>exact ae.fail
 |some a=>exact h a rfl
theorem sW {t:Xh U2} {n:Nat} {b:U6} (f:U[n]?=UV b) (g:∀{ob:Xg} {z:U2} {s:U7} {Q:U2->U7->Prop},s.heap.get? b=UV ob->ob.data= .cell (UV z)->Q z s->Vf (Vg c.prog c.w) A t Q bE s):ae c A fz U (qf n) t au:=
 ae.run λS K h=>by
  unfold qf;induction i:S.H[n]? with
  |none=>exact Vd
  |some ob=>induction ob using O.casesOn with
   |cell v=>induction v with
    |none=>exact Vd
    |some v=>exact h _ _ _ λo a ρ' s Q q p d y=>cy (yk d i (ai p f)) λob z j k l=>aj (d6.i_some l) λz e m=>g j (k.trans (aD e rfl)) (y a ρ' s z (Le.refl _) (U4 _) d m)
   |_=>exact Vd
theorem Er {t:Xh U2} {n:Nat} {x:Vb} {b:U6} (e:U[n]?=UV b) (f:∀{m:Vb->Option U2} {z:U2} {s:U7} {Q:U2->U7->Prop},s.heap.Ns b m->m x=UV z->Q z s->Vf (Vg c.prog c.w) A t Q bE s):ae c A fz U (Eo n x) t au:=
 ae.run λS K g=>by
  unfold Eo;induction h:S.H[n]? with
  |none=>exact Vd
  |some i=>induction i using O.casesOn with
   |frame l=>
    refine(?_:OK (orF (lk x l) ret S) K);induction j:lk x l with
    |none=>exact Vd
    |some v=>exact g _ _ _ λu a ρ' s Q B p d y=>aj (gv d h (ai p e)) λm k o=>aj (d6.i_some (aD j (o x))) λz q r=>f k q (y a ρ' s z (Le.refl _) (U4 _) d r)
   |_=>exact Vd
theorem Es (e:aI c C Z U) {x:Vb} (g:Z.kindOf x=UV .globalImplicit) {v} (h1:ms x C.glob=UV v):ae c A fz U (ret v.toV) (abQ Z x) au:=
 ae.run λS K h=>h _ _ _ λl b ρ' s Q m p d y=>aj (e.glob x v h1 s.heap λp i=>d.hr.fzle _ _ (d.hr.wd p i)) λn f r=>
  have a:Q v.val s:=y b ρ' s v.val (Le.refl _) (U4 _) d v.rep
  (loadName_read e.kind g).symm▸r.elim (λr=>loadGlobal_global f r a) λr=>aj r.2 λo j k=>abz f r.1 j k a
theorem uW (a:aI c C Z U) (x:Vb):ae c A fz U (nm C x) (abQ Z x) au:=by
 have f:Z.kindOf x=kd x C.names:=by rw[fK];refine aD a.names ?_;rfl
 unfold nm;induction h:kd x C.names with
 |none=>exact ae.fail
 |some k=>
  have f:=f.trans h;induction k with
  |«local»=>exact Er a.loc λm o g=>WD a.kind f m o g
  |cell=>exact ae.orF λn i=>aj (a.cells x n i) λb d e=>sW e λj l g=>wpAny_loadName_cell a.kind f d (aA _ j l) g
  |free=>
   refine(?_:ae c A fz U (match En x with|true=>Mine.Internal.fail|false=>orF (cT x C.cells) qf) _ _);induction p:En x with
   |true=>exact ae.fail
   |false=>exact ae.orF λn i=>aj (a.cells x n i) λb d e=>sW e λj l g=>wpAny_loadName_free a.kind f d (aA _ j l) g p
  |globalImplicit=>exact ae.orF λv i=>Es a f i
  |_=>exact ae.fail
theorem zJ (b:aI c C Z U) {x:Vb} (h:Z.kindOf x=UV .local) (i:VR fz U v z):ae c A fz U (rG C.fid x v) (acd Z x z) dJ:=
 ae.run λS K j=>by
  unfold rG;induction g:S.H[C.fid]? with
  |none=>exact Vd
  |some k=>induction k using O.casesOn with
   |frame l=>
    exact j _ _ _ λI d ρ' s Q n p e y=>aj (gv e g (ai p b.loc)) λm o q=>wpAny_storeName_local h o (λJ f r=>jg f λt u B D E F G=>
     y d ρ' _ () (Le.refl _) (U4 _) (e.ta (e.hr.upd g rfl (ai p b.loc) r D ⟨_,(cY u B E F G),λw=>by
      rw[uN];by_cases a:w=x
      ·refine ac (if_pos a) ?_;refine ac (if_pos a) ?_;exact i.mono n p
      ·refine ac (if_neg a) ?_;refine ac (if_neg a) ?_;exact q w⟩)) trivial) (ac b.kind rfl)
   |_=>exact Vd
theorem xK (h:aI c C Z U) {x:Vb} (k:Z.kindOf x=UV .cell) (l:VR fz U v z) {n:Nat} (h1:cT x C.cells=UV n):ae c A fz U (o7 v n) (acd Z x z) dJ:=
 ae.run λS K m=>by
  unfold o7;induction i:S.H[n]? with
  |none=>exact Vd
  |some d=>induction d using O.casesOn with
   |cell j=>
    exact m _ _ _ λE e ρ' s Q o p f y=>aj (h.cells x n h1) λb g a=>cy (yk f i (ai p a)) λd F q r G=>wpAny_storeName_cell h.kind k g (aA d q r) λI t u=>
     aj t λw B D=>y e ρ' _ () (Le.refl _) (U4 _) (f.tz (f.hr.upd i rfl (ai p a) u B (aA (UV z) D (l.mono o p)))) trivial
   |_=>exact Vd
theorem gJ (b:aI c C Z U) (x:Vb) (d:VR fz U v z):ae c A fz U (jV C x v) (acd Z x z) dJ:=by
 have a:Z.kindOf x=kd x C.names:=by rw[fK];refine aD b.names ?_;rfl
 unfold jV;induction h:kd x C.names with
 |none=>exact ae.fail
 |some k=>
  have a:=a.trans h;induction k with
  |«local»=>exact zJ b a d
  |cell=>exact ae.orF λn e=>xK b a d e
  |_=>exact ae.fail
structure eh (c:Cx) (A:Vk) (C:Ec) (Z:Yi) (fz:Vc) (U:List U6):Prop where
 s:∀l st m,C.spS l=UV (st,m)->ae c A fz U m (aaU st Z) FR
 e:∀l e m,C.spE l=UV (e,m)->ae c A fz U m (Wq e Z) au
theorem eh.at (x:eh c A C Z fz U) (k:Le fz fz') (p:U <+:ρ'):eh c A C Z fz' ρ':=
 ⟨λl st m e=>(x.s l st m e).at k p,λl st m e=>(x.e l st m e).at k p⟩
structure bM (c:Cx) (A:Vk) (C:Ec) (Z:Yi) (fz:Vc) (U:List U6):Prop where
 eo:aI c C Z U
 sp:eh c A C Z fz U
theorem bM.at (x:bM c A C Z fz U) (k:Le fz fz') (p:U <+:ρ'):bM c A C Z fz' ρ':=⟨x.eo.at p,x.sp.at k p⟩
def kC (c:Cx) (A:Vk) (fz:Vc) (U:List U6) (m:M Fl) (code:Code):Prop:=
 ∀S f S' p,m S=UV (f,S',p)->ao p->∀fz' ρ' s (R:ZU->U7->Prop),Le fz fz'->U <+:ρ'->SR c fz' ρ' S.H s->dc c fz' ρ' S'.H FR f (λx a=>R (.ok x) a)->Xz (Vg c.prog c.w) A code R s
structure bG (c:Cx) (A:Vk) (C:Ec) (Z:Yi) (F:bP):Prop where
 ev:∀fz U,bM c A C Z fz U->∀e,ae c A fz U (F.ev e) (Wq e Z) au
 tr:∀fz U,bM c A C Z fz U->∀e,ae c A fz U (F.tr e) (aa4 e Z (Wq e Z)) gP
 ex:∀fz U,bM c A C Z fz U->∀s,ae c A fz U (F.ex s) (aaU s Z) FR
 exs:∀fz U,bM c A C Z fz U->∀s,ae c A fz U (F.exs s) (aaf s Z) FR
 asg:∀fz U,bM c A C Z fz U->∀e v z,VR fz U v z->ae c A fz U (F.asg e v) (ZG e Z z) dJ
 fl:∀fz U,bM c A C Z fz U->∀t i a b e,U[i]?=UV a->kC c A fz U (F.fl t i b e) (.forLoop t (.ref a) b e Z)
 wl:∀fz U,bM c A C Z fz U->∀t b e,kC c A fz U (F.wl t b e) (.whileLoop t b e Z)
theorem iz {x:Vs} {r:List Vs} (h:eg x=UY):WO (x::r) Z=(UY,Wq x Z)::WO r Z:=by
 induction x using VC with
 |Starred=>exact tf h
 |_=>rfl
theorem sX {x:Vs} {r:List Vs} {ev:Vs->M V} (h:eg x=UY):jW ev (x::r)=bnd (ev x) λv=>bnd (jW ev r) λvs=>ret (v::vs):=by refine(?_:(match eg x with|true=>_|false=>_)=_);exact ac h rfl
theorem uX {x:Vs} {r:List Vs} {ev:Vs->M V} (h:eg x=UX):jW ev (x::r)=fail:=by refine(?_:(match eg x with|true=>_|false=>_)=_);exact ac h rfl
theorem nD (G:bM c A C Z fz U) (i:bG c A C Z F) (pos:XN) (es:List Vs):∀(fz':Vc) (ρ':List U6),Le fz fz'->U <+:ρ'->ae c A fz' ρ' (jW F.ev es) (abc (XU pos (WO es Z))) zI:=by
 induction es with
 |nil=>exact λd d d d=>ae.ret λd d d d=> .nil
 |cons e r j=>
  intro fz' ρ' k p;induction h:eg e with
  |true=>refine ac (uX h) ?_;exact ae.fail
  |false=>
   refine ac (iz h) (ac (sX h) ?_);refine ae.bind (i.ev _ _ (G.at k p) e) λl m a x n o q=>(ae.eq (t':=(WB [x] (abc (XU pos (WO r Z)))) >>= λs=>pure ([x]++s)) rfl ?_)
   exact ae.bind (ae.holding (j l m (k.trans n) (p.trans o))) λw z b y t u v=>(ae.ret λB D f g=> .cons ((q.mono t u).mono f g) (v.mono f g))
set_option backward.match.sparseCases true in
theorem BR (G:bM c A C Z fz U) (h:bG c A C Z F) (q:cp c A o) (pos:XN) (op:BoolOp) (es:List Vs) (fz':Vc) (ρ':List U6) (k:Le fz fz') (p:U <+:ρ'):ae c A fz' ρ' (tS F.ev o.tru op es) (boolOp pos op (evalEach es Z)) au:=by
 induction es generalizing fz' ρ' with
 |nil=>exact ae.fail
 |cons x r s=>
  induction r using VE with
  |nil=>exact h.ev _ _ (G.at k p) x
  |cons y r=>
  show ae c A fz' ρ' (bnd (F.ev x) λv=>bnd (o.tru v) λb=>bnd (dec b) λd=>match op,d with| .And,UY| .Or,UX=>ret v|_,_=>tS F.ev o.tru op (y::r))
   (Wq x Z >>= λv=>WK pos >>= λe=>WB [v] (YW v) >>= λt=>(match op,t with| .And,UY| .Or,UX=>pure v|_,_=>boolOp pos op (evalEach (y::r) Z))) au
  refine ae.bind (h.ev _ _ (G.at k p) x) λu w a z B D i=>ae.stand (ae.bind (ae.holding (q.tru u w a z i)) λj l b t m n E=>?_);have g:b=t:=E;subst g;refine ae.dec λd H=>?_;subst H;have f:=s j l (k.trans (B.trans m)) (p.trans (D.trans n));have done:ae c A j l (ret a) (pure z:Xh U2) au:=ae.ret λK L I J=>(i.mono m n).mono I J;cases op<;>cases b<;>first|exact done|exact f
theorem Et (G:bM c A C Z fz U) (g:bG c A C Z F) (op:BoolOp) (es:List Vs) (fz':Vc) (ρ':List U6) (k:Le fz fz') (p:U <+:ρ'):ae c A fz' ρ' (Ep F.tr op es) (allTrue op es Z) gP:=by
 induction es generalizing fz' ρ' with
 |nil=>exact ae.ret λa a a a=>rfl
 |cons x r h=>refine ac (arm_allTrue_cons ..) (ae.bind (g.tr _ _ (G.at k p) x) λi j b t l m n=>?_);have f:b=t:=n;subst f;refine ae.dec λd o=>?_;subst o;have e:=h i j (k.trans l) (p.trans m);cases op<;>cases b<;>first|exact e|exact ae.ret λa a a a=>rfl
theorem lh (G:bM c A C Z fz U) (b:bG c A C Z F) (e:Option Vs):ae c A fz U (uV F.ev e) (valueOrNone (evalOpt e Z)) au:=by
 induction e with
 |none=>exact ae.ret λa a a a=> .none
 |some e=>exact b.ev _ _ G e
noncomputable def Q0:Vs->Bool
 | .UnaryOp .Not _ _=>UX
 | .BoolOp _ _ _=>UX
 | .IfExp _ _ _ _=>UX
 | .Compare _ _ _ _=>UX
 |_=>UY
theorem uY (h:Q0 e=UY):aa4 e Z whole=(do let v <-whole;WK e.pos;WB [v] (YW v)):=by
 induction e using VC with
 |UnaryOp op x p=>induction op with
  |Not=>exact tf h
  |_=>rfl
 |BoolOp=>exact tf h
 |IfExp=>exact tf h
 |Compare=>exact tf h
 |_=>rfl
theorem BS {l r:Vs} (d:X2 op r=UY):Wq (.Compare l [op] [r] pos) Z=
  (Wq l Z >>= λa=>WB [a] (Wq r Z) >>= λb=>WK pos >>= λc=>aaH [a,b] (WZ op a b)):=by
 rw[eval_Compare1,adp d]
theorem xL {l r:Vs} (d:X2 op r=UY):aa4 (.Compare l [op] [r] pos) Z whole=
  (Wq l Z >>= λa=>WB [a] (Wq r Z) >>= λb=>WK pos >>= λc=>aaH [a,b] (WZ op a b) >>= λx=>WB [x] (YW x)):=by
 rw[isTrue_Compare1,adp d]
theorem LB (G:bM c A C Z fz U) (g:bG c A C Z F) (q:cp c A o) (e:Vs):ae c A fz U (BP C o F e) (aa4 e Z (Wq e Z)) gP:=by
 have plain:Q0 e=UY->ae c A fz U (bnd (F.ev e) λv=>o.tru v) (aa4 e Z (Wq e Z)) gP:=λh=>by exact ac (uY h) (ae.bind (g.ev _ _ G e) λm n a x k p s=>ae.stand (ae.holding (q.tru m n a x s)))
 induction e using VC with
 |UnaryOp op x p=>
  cases op with
  |Not=>rw[arm_isTrue_UnaryOp];refine(?_:ae c A fz U (bnd (F.tr x) λb=>ret (!b)) (aa4 x Z (Wq x Z) >>= λb=>pure (!b)) gP);refine ae.bind (g.tr _ _ G x) λm n a b k p i=>?_;have:a=b:=i;exact ac this (ae.ret λf f f f=>rfl)
  |_=>exact plain rfl
 |BoolOp op vs p=>rw[arm_isTrue_BoolOp];exact Et G g op vs fz U (Le.refl _) (U4 _)
 |IfExp t b B p=>
  rw[arm_isTrue_IfExp];refine ae.bind (g.tr _ _ G t) λm n a x k p i=>?_;have:a=x:=i;subst this;refine ae.dec λd u=>?_;subst u;cases a
  ·exact g.tr _ _ (G.at k p) B
  ·exact g.tr _ _ (G.at k p) b
 |Compare l j w p=>
  cases j with
  |nil=>exact ae.fail
  |cons op j=>
   cases j with
   |cons=>exact ae.fail
   |nil=>
    cases w with
    |nil=>exact ae.fail
    |cons r w=>
     cases w with
     |cons=>exact ae.fail
     |nil=>
      refine(?_:ae c A fz U (match X2 op r with|true=>fail|false=>bnd (F.ev l) λa=>bnd (F.ev r) λb=>bnd (o.cmp op a b) λv=>o.tru v) _ _);cases D:X2 op r with
      |true=>exact ae.fail
      |false=>refine ac (xL D) (ae.bind (g.ev _ _ G l) λm n a x k p s=>ae.bind (ae.holding (g.ev _ _ (G.at k p) r)) λE H b y I J K=>ae.stand (ae.bind (ae.operate (q.cmp E H op a b x y (s.mono I J) K)) λL M d z N O u=>ae.holding (q.tru L M d z u)))
 |_=>exact plain rfl
theorem uZ:∀{ns:List Int} {xs:List U2},lg vs=UV ns->av g U vs xs->Wu xs ns:=by
 induction vs with
 |nil=>intro ns xs h c;refine ac c.i0 (aD (U0 h) ?_);exact .nil
 |cons v r e=>
  intro ns xs h c;induction v with
  |int i=>
   dsimp only[lg] at h;induction d:lg r with
   |none=>rw[d] at h;exact nn h
   |some l=>
    rw[d] at h;refine c.ec λx q a b=>(a.e_int λt=>?_)
    exact aD (U0 h) (.cons _ _ (e d b))
  |_=>exact nn h
theorem u3 {n:Nat} (h:av g U vs xs):(nB vs).live=UX/\OR P g U (nB vs) a (bT xs n):=by
 unfold nB;induction vs using VE with
 |nil=>exact⟨rfl,xs,n,rfl,h⟩
 |cons v r=>
  dsimp only;induction b:lg (v::r) with
  |none=>exact⟨rfl,xs,n,rfl,h⟩
  |some l=>exact⟨rfl,xs,n,rfl,uZ b h⟩
theorem yl (T:Bool) (h:av fz U vs xs):ae c A fz U (λS=>UV (V.ref S.H.length,⟨S.H++[if T then nB vs else .tup vs],S.orc⟩,[vs.length<=U9])) (if T then newList xs else newTuple xs) au:=by
 intro S a m q e l d ρ' s Q k p b y;refine b9 (db e) λf g i=>?_;subst f;subst g;subst i;have j:xs.toArray.size<=U9:=ac VH (ac h.length l.1);induction T with
 |true=>refine V4 (y d _ _ _ (Le.refl _) (Vn _ _) (b.tz (b.hr.push _ (nB vs) rfl (u3 (h.mono k (p.trans (Vn _ _)))).2 (u3 (P:=c.w.params) (a:=0) (n:=0) h).1)) (.ref (bj b.hr.len.symm))) j
 |false=>refine V4 (y d _ _ _ (Le.refl _) (Vn _ _) (b.tz (b.hr.push _ (.tup vs) rfl (bL xs 0 rfl (h.mono k (p.trans (Vn _ _)))))) (.ref (bj b.hr.len.symm))) j
theorem de {f:U2} {c:List (Bool×Xh U2)} {Q:Args->U7->Prop} (d:(c.any λx=>x.1)=UY)
  (h:Vf Mo A (abc c) (λvs s'=>Q ⟨vs,[]⟩ s') E s):Vf Mo A (evalArgs f UX c []) Q E s:=by
 induction c using VE with
 |nil=>unfold evalArgs;refine UZ (VF h (λvs s' e=>?_) λa a x=>x);exact UZ (U3 (Vo (UZ (U3 (UZ (U3 (U3 e)))))))
 |cons x r=>
  obtain⟨b,t⟩:=x;induction b with
  |true=>exact tf d
  |false=>exact Calls.evalArgs_plain h
theorem mw (G:bM c A C Z fz U) (X:bG c A C Z F) (OO:cp c A o) {f:V} {m:U2} {first:List V} {xfirst:List U2} (hf:VR fz U f m) (l:av fz U first xfirst) (pos:XN) (es:List Vs):
  ae c A fz U (bnd (jW F.ev es) λvs=>o.cal f (first++vs)) (Y1 pos m xfirst (XU pos (WO es Z)) []) au:=by
 have E:∀{fz U} {a:List V} {b:List U2} {d e},av fz U a b->av fz U d e->av fz U (a++d) (b++e):=λh1 h2=>by
  induction h1 with
  |nil=>exact h2
  |cons a _ H=>exact .cons a H
 have plain:∀S vs I q,jW F.ev es S=UV (vs,I,q)->(XU pos (WO es Z)).any (·.1)=UY:=λS vs I q e=>by
  clear X;induction es generalizing S vs I q with
  |nil=>rfl
  |cons x r H=>
   induction h:eg x with
   |true=>rw[uX h] at e;exact nn e
   |false=>rw[sX h] at e;refine ac (iz h) (OK.use (G:=λg g g=>(XU pos ((UY,Wq x Z)::WO r Z)).any (·.1)=UY) e λK D=>OK.bnd λv n J e1=>OK.bnd λus Y L e2=>?_);exact D _ _ _ (H n us Y L e2)
 refine ae.run λS K D=>OK.bnd λvs n J h=>OK.got λv Y L h'=>D _ _ _ λhq t ρ' s Q k p sr y=>?_
 clear D
 have u:=plain S vs n J h
 obtain⟨M,N⟩:=af.mp hq
 have go:Vf (Vg c.prog c.w) A (evalArgs m UX (XU pos (WO es Z)) []) (λa i=>Vf (Vg c.prog c.w) A (ci ((XU pos (WO es Z)).length+2*([]:List (Option Vb×Xh U2)).length) m (xfirst++a.pos)) Q bE i/\a.kw=[]) bE s:=by
  have B:Vf (Vg c.prog c.w) A (abc (XU pos (WO es Z))) (λO i=>Vf (Vg c.prog c.w) A (ci ((XU pos (WO es Z)).length+2*([]:List (Option Vb×Xh U2)).length) m (xfirst++O)) Q bE i/\([]:List (Vb×U2))=[]) bE s:=by
   refine nD G X pos es t ρ' k p S vs n J h M t ρ' s _ (Le.refl _) (U4 _) sr λf2 r2 s2 O P R T hr=>⟨?_,rfl⟩
   exact OO.cal f2 r2 _ f (first++vs) m (xfirst++O) (hf.mono (k.trans P) (p.trans R)) (E (l.mono (k.trans P) (p.trans R)) hr) n _ _ L h' N f2 r2 s2 Q (Le.refl _) (U4 _) T
    λf3 r3 s3 z k3 q3 W hz=>y f3 r3 s3 z (P.trans k3) (R.trans q3) W hz
  exact de u B
 dsimp only[Y1]
 refine UZ (Vo (VF go (λa i j=>?_) λg g x=>x))
 obtain⟨j,hk⟩:=j
 obtain⟨ap,ak⟩:=a
 dsimp only at hk j
 refine ac hk (UZ (VL (ac u j)))
end
end
section
section
variable {o:dU} 
theorem jX {x:Vb} (h:ew x=UY):Wq (.Name x pos) Z=(WK pos >>= λa=>abQ Z x):=eval_Name Z x pos h
theorem u4 {l r:Vs} {op:WV} :Wq (.BinOp l op r pos) Z=
  (Wq l Z >>= λa=>WB [a] (Wq r Z) >>= λb=>WK pos >>= λc=>aaH [a,b] (Xy op a b)):=rfl
theorem u5 {v i:Vs} :Wq (.Subscript v i pos) Z=
  (Wq v Z >>= λa=>WB [a] (Wq i Z) >>= λb=>WK pos >>= λc=>WN v i a b):=rfl
theorem qk {p:XN}:Wq (.Slice lo hi UW p) Z=
  (valueOrNone (evalOpt lo Z) >>= λl=>WB [l] (valueOrNone (evalOpt hi Z)) >>= λu=>WB [l,u] (pure .none) >>= λs=>abb "slice" [l,u,s]):=rfl
theorem ae.hpure {vs:List U2} {a:β} {f:β->Xh γ} {R:bJ α γ} (h:ae c A fz U m (f a) R):ae c A fz U m (ZO vs (pure a) >>= f) R:=by intro S b g q e i d ρ' s Q k p x y;exact UZ (Vo (U3 (h S b g q e i d ρ' s Q k p x y)))
theorem ae.unhold {vs:List U2} {f:β->Xh γ} {R:bJ α γ} (h:ae c A fz U m (t >>= f) R):ae c A fz U m (ZO vs t >>= f) R:=by intro S b i q e j a ρ' s Q k p x y l d g;have z:=h S b i q e j a ρ' s Q k p x y l d g;rw[Sem.wp_bind'] at z ⊢;rw[Sem.wp_holding];exact z
theorem jY {f:Vs} {es:List Vs} (hf:∀a b p,f≠ .Attribute a b p):Wq (.Call f es [] pos) Z=
  (Wq f Z >>= λg=>Y1 pos g [] (XU pos (WO es Z)) []):=by
 cases f<;>first|rfl|exact absurd rfl (hf _ _ _)
theorem fu {v:Vs} {x:Vb} (a:fD v=UY):Zt v x Z whole=whole:=by
 induction v using VC with
 |Call f b c p=>induction f using VC with
  |Name=>induction b with
   |nil=>induction c with
    |nil=>exact tf a
    |cons=>rfl
   |cons=>rfl
  |_=>rfl
 |_=>rfl
theorem u6 {v:Vs} {x:Vb} (c:fD v=UY):Wq (.Attribute v x pos) Z=
  (Wq v Z >>= λa=>WK pos.atName >>= λb=>WB [a] (aaI a x UX) >>= λr=>YY v a r >>= λb=>pure r):=by
 rw[arm_eval_Attribute,fu c]
theorem mx {r:List Vs} (h:fg (e::r)=UX):eg e=UY/\fg r=UX:=by
 have h:(match eg e with|true=>UY|false=>fg r)=UX:=h;induction a:eg e with
 |true=>rw[a] at h;exact ff h
 |false=>rw[a] at h;exact⟨rfl,h⟩
theorem BT {es:List Vs} (h:fg es=UX):(XU pos (WO es Z)).all (!·.1)=UX:=by
 induction es with
 |nil=>rfl
 |cons e r a=>
  refine aN (mx h) λb c=>(ac (iz b) ?_)
  exact(ac0).mpr ⟨rfl,a c⟩
theorem jl {v:Vs} {x:Vb} {es:List Vs} (g:fD v=UY) (c:qj ap pos es=UX):Wq (.Call (.Attribute v x ap) es [] pos) Z=
  (Wq v Z >>= λa=>WK ap.atName >>= λb=>WB [a] (W0 a x (do return (<-importBound v Z).getD UX)) >>= λfr=>Y1 pos fr.1 fr.2 (XU pos (WO es Z)) []):=by
 rw[adc];refine ac (fu g) ?_
 dsimp only[qj] at c
 simp only[VO] at c
 refine via λl f=>(aN c λd h=>?_)
 obtain⟨i,j⟩:=d
 refine f ?_;clear f
 have e:aa5 (es.length+([]:List Keyword).length) (XU pos (WO es Z)) (backToKw pos (acp [] Z))=UX:=by dsimp only[aa5];exact ac (BT i) (ac (decide_eq_true (Wd j:es.length < 30)) rfl)
 have k:(ap.endLine==pos.line)=UX:=beq_iff_eq.mpr (VI h)
 dsimp only[methodCall]
 refine ac e ?_
 unfold ade calleeOf
 exact ac k rfl
noncomputable def Ru (e:Vs):Bool:=VA e.ctorIdx (aae .none .none .none default).ctorIdx
theorem rH (h:Ru e=UY) (l u s:Option Vs) (q:XN):e≠ .Slice l u s q:=λa=>by subst a;exact tf h
noncomputable def LC (e:Vs):Bool:=VA e.ctorIdx (Expr.Attribute (.Name "" default) "" default).ctorIdx
theorem BU (h:LC e=UY) (v:Vs) (x:Vb) (q:XN):e≠ .Attribute v x q:=λa=>by subst a;exact tf h
theorem LD (G:bM c A C Z fz U) (j:bG c A C Z F) (B:cp c A o) (e:Vs):ae c A fz U (mv C o F e) (Wq e Z) au:=by
 induction e using VC with
 |Constant k a b=>exact BQ k
 |Name x p=>
  refine(?_:ae c A fz U (match ew x with|true=>fail|false=>nm C x) _ _);induction h:ew x with
  |true=>exact ae.fail
  |false=>refine ac (jX h) ?_;exact ae.stand (uW G.eo x)
 |BinOp l op r p=>exact ac u4 (ae.bind (j.ev _ _ G l) λm n a x k p u=>ae.bind (ae.holding (j.ev _ _ (G.at k p) r)) λH I b y D E L=>ae.stand (ae.operate (B.bin H I op a b x y (u.mono D E) L)))
 |UnaryOp op x p=>rw[arm_eval_UnaryOp];exact ae.bind (j.ev _ _ G x) λm n a z k p u=>ae.stand (ae.holding (B.una m n op a z u))
 |BoolOp op vs p=>rw[arm_eval_BoolOp];exact BR G j B p op vs fz U (Le.refl _) (U4 _)
 |IfExp t b e' p=>
  rw[arm_eval_IfExp];refine ae.bind (j.tr _ _ G t) λm n a x k p O=>?_;have:a=x:=O;subst this;refine ae.dec λd hd=>?_;subst hd;cases a
  ·exact j.ev _ _ (G.at k p) e'
  ·exact j.ev _ _ (G.at k p) b
 |Compare l J P p=>
  induction J with
  |nil=>exact ae.fail
  |cons op J=>
   induction J with
   |cons=>exact ae.fail
   |nil=>
    induction P with
    |nil=>exact ae.fail
    |cons r P=>
     induction P with
     |cons=>exact ae.fail
     |nil=>
      refine(?_:ae c A fz U (match X2 op r with|true=>fail|false=>bnd (F.ev l) λa=>bnd (F.ev r) λb=>o.cmp op a b) _ _);induction R:X2 op r with
      |true=>exact ae.fail
      |false=>exact ac (BS R) (ae.bind (j.ev _ _ G l) λm n a x k p u=>ae.bind (ae.holding (j.ev _ _ (G.at k p) r)) λH I b y D E L=>ae.stand (ae.operate (B.cmp H I op a b x y (u.mono D E) L)))
 |Subscript v i p=>
  have plain:(∀l h s q,i≠ .Slice l h s q)->ae c A fz U (bnd (F.ev v) λa=>bnd (F.ev i) λb=>o.idx a b) (Wq (.Subscript v i p) Z) au:=λN=>by exact ac u5 (ae.bind (j.ev _ _ G v) λm n a x k p u=>ae.bind (ae.holding (j.ev _ _ (G.at k p) i)) λH I b y D E L=>ae.stand (B.idx H I v i a b x y N (u.mono D E) L))
  induction i using VC with
  |Slice lo N st q=>
   induction st with
   |some=>exact ae.fail
   |none=>
    refine ac u5 (ac qk ?_);refine ae.bind (j.ev _ _ G v) λm n a x k2 p2 u=>(ae.unhold ?_)
    rw[bind_assoc];refine ae.bind (lh (G.at k2 p2) j lo) λH I l y D E hl=>?_;rw[bind_assoc];refine ae.bind (ae.holding (lh (G.at (k2.trans D) (p2.trans E)) j N)) λf4 r4 h z k4 p4 hh=>?_;rw[bind_assoc];exact ae.hpure (B.sli f4 r4 v lo N q p a l h x y z ((u.mono D E).mono k4 p4) (hl.mono k4 p4) hh)
  |_=>exact plain (rH rfl)
 |List w p=>rw[arm_eval_List];exact ae.stand (ae.bind (nD G j p w fz U (Le.refl _) (U4 _)) λm n vs xs k q h=>yl UX h)
 |Tuple w a p=>rw[arm_eval_Tuple];exact ae.stand (ae.bind (nD G j p w fz U (Le.refl _) (U4 _)) λm n vs xs k q h=>yl UY h)
 |Dict T vs p=>
  induction T with
  |cons=>exact ae.fail
  |nil=>
   induction vs with
   |cons=>exact ae.fail
   |nil=>rw[eval_Dict_empty];refine ae.stand (ae.run λS K hK=>hK _ _ _ λhq V ρ' s Q k pp W y=>?_);exact V4 (y V _ _ _ (Le.refl _) (Vn _ _) (W.tz (W.hr.push _ (.dict []) rfl (bL ([]) 0 rfl .nil))) (.ref (bj W.hr.len.symm)))
 |Attribute v x p=>
  refine(?_:ae c A fz U (match fD v with|true=>fail|false=>bnd (F.ev v) λa=>o.att a x) _ _);induction X:fD v with
  |true=>exact ae.fail
  |false=>exact ac (u6 X) (ae.bind (j.ev _ _ G v) λm n a z k q u=>ae.stand (B.att m n v x a z u))
 |Call f w T p=>induction T with
  |cons=>cases f<;>exact ae.fail
  |nil=>
   have plain:LC f=UY->ae c A fz U (bnd (F.ev f) λg=>bnd (jW F.ev w) λvs=>o.cal g ([]++vs)) (Wq (.Call f w [] p) Z) au:=λh=>by exact ac (jY (BU h)) (ae.bind (j.ev _ _ G _) λm n g z k r hg=>mw (G.at k r) j B (first:=[]) (xfirst:=[]) hg .nil p w)
   induction f using VC with
   |Attribute v x q=>
    refine(?_:ae c A fz U (match fD v,qj q p w with|false,UX=>bnd (F.ev v) λa=>bnd (o.mth a x) λY=>bnd (jW F.ev w) λvs=>o.cal Y.1 (Y.2++vs)|_,_=>fail) _ _);induction X:fD v with
    |true=>exact ae.fail
    |false=>
     induction R:qj q p w with
     |false=>exact ae.fail
     |true=>exact ac (jl X R) (ae.bind (j.ev _ _ G v) λm n a z k r u=>ae.stand (ae.bind (ae.holding (B.mth m n x a z _ u)) λH I Y y D E M=>mw (G.at (k.trans D) (r.trans E)) j B M.1 M.2 p w))
   |_=>exact plain rfl
 |_=>exact ae.fail
end
end
section
section
variable {o:dU} 
theorem ae.bindName {x:Vb} {R:bJ α Unit} (h:ae c A fz U m (acd Z x z) R):ae c A fz U m (bindName Z x z) R:=
 λS a d q e f b ρ' s Q k p g y=>wpAny_bindName (h S a d q e f b ρ' s Q k p g y)
theorem i7 {vs:List U2} {Q:Unit->U7->Prop} (h:Q () s):Vf Mo A (acC vs keep) Q E s:=
 λb p a=>by rw[Sem.wp_release];exact h
theorem ae.released {t:Xh Unit} {vs:List U2} {R:bJ α Unit} (h:ae c A fz U m t R):ae c A fz U m (t >>= λb=>acC vs keep) R:=
 λS a f q e g d ρ' s Q k p i y=>UZ (VF (h S a f q e g d ρ' s Q k p i y) (λb b z=>i7 z) λb b z=>z)
theorem gw {x:Vs} {r:List Vs} (h:eg x=UY):Zn (x::r) Z=(UY,ZG x Z)::Zn r Z:=by
 induction x using VC with
 |Starred=>exact tf h
 |_=>rfl
theorem rI {es:List Vs} (h:fg es=UX):(Zn es Z).length=es.length/\(Zn es Z).findIdx? (·.1)=UW/\(Zn es Z).map (·.2)=es.map λt=>ZG t Z:=by
 induction es with
 |nil=>exact⟨rfl,rfl,rfl⟩
 |cons e r c=>
  refine aN (mx h) λf g=>(b9 (c g) λa b d=>?_)
  refine ac (gw f) ⟨ac VB (ac VB (ac a rfl)),?_,ac Wa (ac Wa (ac d rfl))⟩;refine ac (List.findIdx?_cons) (ac b ?_);rfl
theorem BV (G:bM c A C Z fz U) (f:bG c A C Z F) (es:List Vs):∀(vs:List V) (xs:List U2) (fz':Vc) (ρ':List U6),Le fz fz'->U <+:ρ'->av fz' ρ' vs xs->
  ae c A fz' ρ' (qi F.asg es vs) (assignInOrder (es.map λt=>ZG t Z) xs) dJ:=by
 induction es with
 |nil=>
  intro vs xs fz' ρ' k p h;induction vs with
  |nil=>refine ac h.i0 ?_;exact ae.ret λa a a a=>trivial
  |cons=>exact ae.fail
 |cons e r g=>
  intro vs xs fz' ρ' k p h;induction vs with
  |nil=>exact ae.fail
  |cons v vs=>
   refine h.ec λx xs i j=>(?_:ae c A fz' ρ' (match eg e with|true=>fail|false=>bnd (F.asg e v) λa=>qi F.asg r vs) (WB xs (ZG e Z x) >>= λa=>assignInOrder (r.map λt=>ZG t Z) xs) dJ)
   induction eg e with
   |true=>exact ae.fail
   |false=>exact ae.bind (ae.holding (f.asg _ _ (G.at k p) e v x i)) λl m a a b d a=>g vs xs l m (k.trans b) (p.trans d) (j.mono b d)
theorem zK (G:bM c A C Z fz U) (g:bG c A C Z F) (es:List Vs):∀(fz':Vc) (ρ':List U6),Le fz fz'->U <+:ρ'->VR fz' ρ' v z->
  ae c A fz' ρ' (jz F.asg v es) (assignAll z ((Zn es Z).map (·.2))) dJ:=by
 induction es with
 |nil=>exact λa a a a a=>ae.ret λa a a a=>trivial
 |cons e r b=>
  intro fz' ρ' k p h;refine(?_:ae c A fz' ρ' (match eg e with|true=>fail|false=>bnd (F.asg e v) λa=>jz F.asg v r) _ _);induction m:eg e with
  |true=>exact ae.fail
  |false=>
   refine ac (gw m) (ac Wa ?_);induction r using VE with
   |nil=>refine ae.eq (t':=ZG e Z z >>= λu=>pure u) (bind_pure _).symm ?_;exact ae.bind (g.asg _ _ (G.at k p) e v z h) λi j a a d f a=>ae.ret λa a a a=>trivial
   |cons x y=>
    have b:=b;have n:jz F.asg v (x::y)=match eg x with|true=>fail|false=>bnd (F.asg x v) λa=>jz F.asg v y:=rfl;induction l:eg x with
    |true=>refine ac n (ac l ?_);exact ae.bfail
    |false=>rw[gw l,Wa] at b ⊢;exact ae.bind (ae.holding (g.asg _ _ (G.at k p) e v z h)) λi j a a d f a=>b i j (k.trans d) (p.trans f) (h.mono d f)
theorem Jp (G:bM c A C Z fz U) (g:bG c A C Z F) (E:cp c A o) (e:Vs) (r:VR fz U v z):ae c A fz U (yj C o F e v) (ZG e Z z) dJ:=by
 induction e using VC with
 |Name x p=>rw[PySem.assign_Name];exact ae.stand (ae.bindName (gJ G.eo x r))
 |Tuple j a p=>
  refine(?_:ae c A fz U (match fg j with|true=>bnd (o.unp v j.length) λvs=>qi F.asg j vs|false=>fail) _ _);induction h:fg j with
  |false=>exact ae.fail
  |true=>refine b9 (rI (Z:=Z) h) λN O P=>?_;rw[arm_assign_Tuple];refine ae.stand ?_;unfold unpack;refine ac N (ac O (ac P ?_));exact ae.bind (ae.holding (E.unp fz U v z j.length r)) λt u vs Q d f H=>BV G g j vs Q t u d f H
 |Subscript k i p=>
  have B:(∀l h s q,i≠ .Slice l h s q)->ae c A fz U (bnd (F.ev k) λa=>bnd (F.ev i) λb=>o.sit a b v) (ZG (.Subscript k i p) Z z) dJ:=λK=>by rw[arm_assign_Subscript];refine ae.bind (ae.holding (g.ev _ _ G k)) λt u a x d f D=>ae.bind (ae.holding (g.ev _ _ (G.at d f) i)) λL M b y m n R=>ae.stand (ae.released (ae.holding (E.sit L M a b v x y z (D.mono m n) R ((r.mono d f).mono m n))))
  induction i using VC with
  |Slice lo K st q=>
   induction st with
   |some=>exact ae.fail
   |none=>
    rw[arm_assign_Subscript];refine ac qk ?_;refine ae.bind (ae.holding (g.ev _ _ G k)) λt u a x d f D=>(ae.unhold ?_)
    rw[bind_assoc];refine ae.bind (lh (G.at d f) g lo) λL M l y m n S=>?_;rw[bind_assoc];refine ae.bind (ae.holding (lh (G.at (d.trans m) (f.trans n)) g K)) λT V h w I J H=>?_;rw[bind_assoc];exact ae.hpure (E.ssl T V p a l h v x y w z ((D.mono m n).mono I J) (S.mono I J) H (((r.mono d f).mono m n).mono I J))
  |_=>exact B (rH rfl)
 |Attribute k x p=>rw[arm_assign_Attribute];exact ae.bind (ae.holding (g.ev _ _ G k)) λt u a w d f D=>ae.stand (ae.released (ae.holding (E.sat t u x a v w z D (r.mono d f))))
 |_=>exact ae.fail
end
end
section
section
variable {o:dU} 
theorem BW (b:Z.scope.kind= .function) (c:iO e=UY):aaU (.Expr e pos) Z=(WK pos >>= λa=>Wq e Z >>= λv=>dropValue e pos v):=by
 refine exec_Expr Z e pos ?_ ?_
 ·dsimp only[Yn];refine ac b ?_;rfl
 ·cases e<;>first|rfl|exact tf c
theorem zL {ts:List Vs} {l:Nat} (a:iO e=UY):swapsWithSole ts e l Z=pure UY:=by
 induction ts using VE with
 |nil=>rfl
 |cons t r=>
  induction r using VE with
  |cons=>rfl
  |nil=>refine(?_:swapsWith e (UV t) l Z=pure UY);cases e<;>first|rfl|exact tf a
theorem xM {ts:List Vs} (h:qh ts e=UX):swappedStores ts e Z=pure UW:=by
 rcases ts with _|⟨t,r⟩
 ·rfl
 ·induction t using VC with
  |Tuple=>induction r with
   |nil=>induction e using VC with
    |Tuple=>exact ff h
    |_=>rfl
   |cons=>rfl
  |List=>induction r with
   |nil=>induction e using VC with
    |Tuple=>exact ff h
    |_=>rfl
   |cons=>rfl
  |_=>rfl
theorem xN {f i:Vs} {d:XN} {op:WV} (hi:∀l h s q,i≠ .Slice l h s q):aaU (.AugAssign (.Subscript f i d) op value pos) Z=
  (WK pos >>= λc=>Wq f Z >>= λa=>WB [a] (Wq i Z) >>= λb=>WB [a,b] (WK d >>= λc=>Yu a b >>= λe=>WB [e] (Wq value Z) >>= λv=>WK pos >>= λc=>aaH [e,v] (acb op e v)) >>= λr=>
   WK d >>= λc=>WB [r,a,b] (YX a b r) >>= λc=>acC [r,a,b] [] >>= λc=>pure abr):=by
 cases i<;>first|rfl|exact absurd rfl (hi _ _ _ _)
theorem ae.stood {f:β->Xh γ} {R:bJ α γ} (h:ae c A fz U m (t >>= f) R):ae c A fz U m ((WK pos >>= λa=>t) >>= f) R:=by rw[bind_assoc];exact ae.stand h
theorem ae.rel {vs:List U2} {f:Unit->Xh β} (h:ae c A fz U m (f ()) R):ae c A fz U m (acC vs keep >>= f) R:=ae.pass (λa a h=>i7 h) h
theorem ke {it:Vs} (h:eB it=UY) (x:U2):abR it Z x=pure x:=by cases it<;>first|rfl|exact tf h
theorem Jq (G:bM c A C Z fz U) (d:bG c A C Z F) (ss:List VY) (fz':Vc) (ρ':List U6) (k:Le fz fz') (p:U <+:ρ'):ae c A fz' ρ' (cG F.ex ss) (aaf ss Z) FR:=by
 induction ss generalizing fz' ρ' with
 |nil=>exact ae.ret λb b b b=>trivial
 |cons s r e=>
  refine ac (execs_cons ..) (ae.bind (d.ex _ _ (G.at k p) s) λf g a x i j h=>?_);induction a with
  |next=>cases x<;>first|exact h.elim|exact e f g (k.trans i) (p.trans j)
  |brk=>cases x<;>first|exact h.elim|exact ae.ret λb b b b=>trivial
  |cont=>cases x<;>first|exact h.elim|exact ae.ret λb b b b=>trivial
  |ret v=>cases x<;>first|exact h.elim|exact ae.ret λn o l m=>VR.mono l m h
theorem u7 {m:M Fl} (h:kC c A fz U m code):ae c A fz U m (runOwn code Z) FR:=by intro S f d q e g a ρ' s Q k p i y;refine wpAny_runOwn (h:=UW) ?_;refine ac (by cases A;rfl:A.mark UW=A) ?_;exact h S f d q e g a ρ' s _ k p i λj l n x o r b t=>y j l n x o r b t
theorem LF (G:bM c A C Z fz U) (g:bG c A C Z F) (K:cp c A o) (s:VY):ae c A fz U (gQ C o F s) (aaU s Z) FR:=by
 induction s using Y9 with
 |Expr e p=>
  refine(?_:ae c A fz U (match iO e with|true=>fail|false=>bnd (F.ev e) λv=>match v with| .none=>ret Fl.next|_=>fail) _ _);induction h:iO e with
  |true=>exact ae.fail
  |false=>
   refine ac (BW G.eo.kind h) (ae.stand (ae.bind (g.ev _ _ G e) λD E a x k j m=>?_));induction m with
   |none=>refine ac (dropValue_plain (by intro a h;cases h)) ?_;exact ae.ret λf f f f=>trivial
   |_=>exact ae.fail
 |Pass p=>rw[exec_Pass];exact ae.stand (ae.ret λf f f f=>trivial)
 |Break p=>rw[arm_exec_Break];exact ae.stand (ae.ret λf f f f=>trivial)
 |Continue p=>rw[arm_exec_Continue];exact ae.stand (ae.ret λf f f f=>trivial)
 |Return e p=>
  induction e with
  |none=>rw[exec_Return_none];exact ae.stand (ae.ret λf f f f=> .none)
  |some e=>rw[exec_Return_some];refine ae.stand (ae.bind (g.ev _ _ G e) λD E a x k j m=>ae.ret λL M H B=>?_);exact VR.mono H B m
 |Assign I e p=>
  refine(?_:ae c A fz U (match iO e,qh I e with|false,UX=>bnd (F.ev e) λv=>bnd (jz F.asg v I) λf=>ret Fl.next|_,_=>fail) _ _);induction h:iO e with
  |true=>exact ae.fail
  |false=>
   induction h':qh I e with
   |false=>exact ae.fail
   |true=>
    rw[exec_Assign_arm];refine ac (zL h) ?_;refine ae.stand (?_:ae c A fz U _ (Wq e Z >>= λv=>swappedStores I e Z >>= λw=>assignStores Z v w ((Zn I Z).map (·.2))) FR);refine ae.bind (g.ev _ _ G e) λD E a x k j m=>(ac (xM h') ?_)
    refine(?_:ae c A D E _ (assignAll x ((Zn I Z).map (·.2)) >>= λf=>pure abr) FR);exact ae.bind (zK (G.at k j) g I D E (Le.refl _) (U4 _) m) λf f f f f f f=>ae.ret λf f f f=>trivial
 |AugAssign t op e p=>
  induction t using VC with
  |Name x q=>rw[exec_AugAssign_Name];refine ae.stand (ae.bind (uW G.eo x) λD E a y k j m=>ae.bind (ae.holding (g.ev _ _ (G.at k j) e)) λL M b z H B R=>ae.stand (ae.bind (ae.operate (K.iop L M op a b y z (m.mono H B) R)) λf4 r4 d w S N O=>ae.stand (ae.bind (ae.bindName (gJ (((G.eo.at j).at B).at N) x O)) λf f f f f f f=>ae.ret λf f f f=>trivial)))
  |Subscript V i q=>
   have P:(∀l h s q,i≠ .Slice l h s q)->ae c A fz U (bnd (F.ev V) λa=>bnd (F.ev i) λb=>bnd (o.gti a b) λJ=>bnd (F.ev e) λv=>bnd (o.iop op J v) λr=>bnd (o.sit a b r) λf=>ret Fl.next) (aaU (.AugAssign (.Subscript V i q) op e p) Z) FR:=λW=>by refine ac (xN W) (ae.stand (ae.bind (g.ev _ _ G V) λD E a x k j m=>ae.bind (ae.holding (g.ev _ _ (G.at k j) i)) λL M b y H B R=>ae.unhold (ae.stood ?_)));rw[bind_assoc];refine ae.bind (K.gti L M a b x y (m.mono H B) R) λf4 r4 J z S N Q=>?_;rw[bind_assoc];refine ae.bind (ae.holding (g.ev _ _ (((G.at k j).at H B).at S N) e)) λf5 r5 v w X Y hv=>ae.stood (ae.bind (ae.operate (K.iop f5 r5 op J v z w (Q.mono X Y) hv)) λf6 r6 d u k6 p6 O=>ae.stand ?_);exact ae.bind (ae.holding (K.sit f6 r6 a b d x y u ((((m.mono H B).mono S N).mono X Y).mono k6 p6) (((R.mono S N).mono X Y).mono k6 p6) O)) λf f f f f f f=>ae.rel (ae.ret λf f f f=>trivial)
   induction i using VC with
   |Slice=>exact ae.fail
   |_=>exact P (rH rfl)
  |_=>exact ae.fail
 |If t b e p=>
  rw[exec_If];refine ae.stand (ae.bind (g.tr _ _ G t) λD E a x k j a0=>?_);have:a=x:=a0;subst this;refine ae.dec λd O=>?_;subst O;cases a
  ·exact g.exs _ _ (G.at k j) e
  ·exact g.exs _ _ (G.at k j) b
 |While t b e p=>rw[exec_While];exact ae.stand (u7 (g.wl _ _ G t b e))
 |For t T b e p=>
  refine(?_:ae c A fz U (match eB T with|true=>fail|false=>bnd (F.ev T) λx=>bnd (o.iter x) λi=>match i with| .ref n=>F.fl t n b e|_=>fail) _ _);induction h:eB T with
  |true=>exact ae.fail
  |false=>
   rw[exec_For];refine ae.stand (ae.bind (g.ev _ _ G T) λD E a x k j m=>?_);rw[ke h];refine ae.stand (ae.bind (ae.holding (K.iter D E a x m)) λL M i y H B W=>?_);induction W with
   |ref hn=>exact u7 (g.fl _ _ ((G.at k j).at H B) t _ _ b e hn)
   |_=>exact ae.fail
 |_=>exact ae.fail
end
end
section
section
variable {o:dU} 
set_option backward.match.sparseCases true in
theorem lj {c:Vs} {n:String} {Q:Unit->U7->Prop} (e:s.heap.get? a=UV ob) (f:ob.cls= .type n)
  (g:(["enumerate","zip","dict_itemiterator","dict_reverseitemiterator","odict_iterator","itertools.zip_longest","itertools.pairwise"]:List String).contains n=UY) (h:Q () s):Vf Mo A (aaQ c (.ref a) z) Q E s:=by
 have d:∀b:U6,Vf Mo A (do
   let o <-load a
   match o.cls,o.data with
   | .type n, .fields vs=>
    if["enumerate","zip","dict_itemiterator","dict_reverseitemiterator","odict_iterator","itertools.zip_longest","itertools.pairwise"].contains n&&vs[0]?==UV (WM b) then
     rule "for.unpacks-the-owned-tuple"
     updateField a 0 .none
   |_,_=>pure ()) Q E s:=λb=>by
  refine UZ (Zo e ?_)
  refine ac f ?_
  induction ob.data using acD with
  |fields vs=>dsimp only;exact ac g (U3 h)
  |_=>exact U3 h
 unfold aaQ
 induction c using VC with
 |Tuple=>cases z<;>first|exact U3 h|exact d _
 |List=>cases z<;>first|exact U3 h|exact d _
 |_=>exact U3 h
theorem BX (h:SR c fz' ρ' H s) {ob:O} (hi:H[i]?=UV ob) (hl:jA ob=UX) (j:ρ'[i]?=UV a):
  ∃x n,s.heap.get? a=UV x/\x.cls= .type n/\(["enumerate","zip","dict_itemiterator","dict_reverseitemiterator","odict_iterator","itertools.zip_longest","itertools.pairwise"]:List String).contains n=UY:=by
 have f:ob.live=UX:=by cases ob<;>first|rfl|cases hl
 refine eX (h.hr.obj i ob hi f) λp x k g e e r=>?_
 obtain rfl:=U0 (j.symm.trans k)
 induction ob with
 |rngIt=>exact⟨x,"range_iterator",g,ac (show x=_ from r) rfl,by decide⟩
 |listIt=>obtain⟨b,_,d,_⟩:=r;exact⟨x,"list_iterator",g,d,by decide⟩
 |datIt=>obtain⟨b,_,d,_⟩:=r;exact⟨x,"list_iterator",g,d,by decide⟩
 |strIt=>
  refine cy r λt l m o e=>(cY x l g o ?_)
  rcases m with rfl|rfl<;>decide
 |_=>cases hl
theorem my {S:St} {u:Unit} {p:List Prop} (g1:jB i S=UV (u,S',p)):∃ob,S.H[i]?=UV ob/\jA ob=UX/\S'=S/\p=[]:=by
 refine OK.use g1 λK a=>?_;unfold jB;induction b:S.H[i]? with
 |none=>exact Vd
 |some ob=>
  dsimp only;induction c:jA ob with
  |false=>exact Vd
  |true=>exact a _ _ _ (oF ob b c rfl rfl)
theorem u8 {d:Bool} {S:St} {p:List Prop} (e:dec b S=UV (d,S',p)) (a:ao p):b=d/\S'.H=S.H:=by
 revert a;refine OK.use e λK f=>?_;obtain⟨H,c⟩:=S;induction c using VE with
 |nil=>exact Vd
 |cons o r=>exact f _ _ _ λa=>⟨a.1,rfl⟩
theorem BY {m:M Fl} {fl f:Fl} {w:Flow} {l:St} {p5:List Prop} {R:ZU->U7->Prop} {g:Vc} {h:List U6} {s4:U7}
  (a:m l=UV (f,S',p5)->dc c g h S'.H FR f (λx s'=>R (.ok x) s')->Xz (Vg c.prog c.w) A code R s4)
  (k:(match(generalizing:=false) fl with| .next| .cont=>m| .brk=>ret Fl.next| .ret v=>ret (Fl.ret v)) l=UV (f,S',p5)) (i:FR g h fl w) (j:SR c g h l.H s4) (y:dc c g h S'.H FR f (λx s'=>R (.ok x) s')) (o:code.quiet=UX):
  Vf (Vg c.prog c.w) A (match w with| .next| .cont=>again code| .brk=>pure (.done .next)| .ret v=>pure (.done (.ret v))) (λn s'=>match n with| .done f=>R (.ok f) s'| .again c'=>c'.quiet=UX/\Xz (Vg c.prog c.w) A c' R s') bE s4:=by
 induction fl with
 |next=>cases w<;>first|exact i.elim|exact U3 ⟨o,a k y⟩
 |cont=>cases w<;>first|exact i.elim|exact U3 ⟨o,a k y⟩
 |brk=>
  cases w<;>first|exact i.elim|skip
  refine b9 (db k) λb d e=>?_;subst b;subst d;subst e;exact U3 (y g h s4 .next (Le.refl _) (U4 _) j trivial)
 |ret u=>
  cases w<;>first|exact i.elim|skip
  refine b9 (db k) λb d e=>?_;subst b;subst d;subst e;exact U3 (y g h s4 (.ret _) (Le.refl _) (U4 _) j i)
theorem LG (G:bM c A C Z fz U) (O:bG c A C Z F) (OO:cp c A o) (t:Vs) (i:Nat) (a:U6) (b e:List VY) (m:U[i]?=UV a):kC c A fz U (kA C o F t i b e) (.forLoop t (.ref a) b e Z):=by
 intro S f u q he;refine OK.use he λK B=>OK.bnd λr S1 p1 h1=>OK.got λf u p2 T=>B _ _ _ λj D ρ' s R k p sr y=>?_;clear B he;obtain⟨I,J⟩:=af.mp j;clear j;refine XZ (ac (Yz (A:=A) (c:=Code.forLoop t (.ref a) b e Z) rfl) ?_);show Vf (Vg c.prog c.w) A ((acE t (.ref a) b e Z).onRaise (λx=>do aaz x Z;X0 x)) _ _ s;refine X3 (VF (E:=bE) ?_ (λd d h=>h) λd d h=>h.elim);unfold acE;refine UZ (VL (UZ (X3 (VF (E:=bE) (OO.nxt D ρ' i a (ai p m) S r S1 p1 h1 I D ρ' s _ (Le.refl _) (U4 _) sr λL M s2 x k2 V l W=>?_) (λd d h=>h) λd d h=>h.elim))));have P:=G.at (k.trans k2) (p.trans V);have m:=ai V (ai p m);have y:dc c L M u.H FR f (λx s'=>R (.ok x) s'):=λX Y s5 w5 k5 q5=>y X Y s5 w5 (k2.trans k5) (V.trans q5);clear h1 I sr;induction r with
 |none=>induction x with
  |some=>exact W.elim
  |none=>exact U3 ⟨rfl,codeAny_block (VF (E:=bE) (O.exs L M P e S1 f u p2 T J L M s2 (λz s3=>R (.ok z) s3) (Le.refl _) (U4 _) l y) (λd d h=>h) λd d h=>h.elim)⟩
 |some v=>induction x with
  |none=>exact W.elim
  |some z=>revert J y;refine OK.use T λK B=>OK.bnd λd S2 q1 g1=>?_;refine fA (my g1) λob hh hl a0 a1=>?_;subst a0;subst a1;clear T g1;refine OK.bnd λd S3 a2 g3=>OK.bnd λfl S4 a3 g5=>OK.got λf u p5 g6=>B _ _ _ λj y=>?_;clear B;refine cy (BX l hh hl m) λxo n e1 e2 e3=>?_;obtain⟨a4,j⟩:=af.mp (af.mp j).2;obtain⟨a5,a6⟩:=af.mp j;clear j hh;refine UZ (lj e1 e2 e3 ?_);refine UZ (O.asg L M P t v z W S2 _ S3 a2 g3 a4 L M s2 _ (Le.refl _) (U4 _) l λf3 r3 s3 d k3 Q a7 d=>?_);refine UZ ((oJ (htr:=G.eo.trim) (O.exs f3 r3 (P.at k3 Q) b)) S3 fl S4 a3 g5 a5 f3 r3 s3 _ (Le.refl _) (U4 _) a7 λf4 r4 s4 w k4 q4 N hw=>?_);exact BY (λg y=>O.fl f4 r4 (P.at (k3.trans k4) (Q.trans q4)) t i a b e (ai (Q.trans q4) m) S4 f u p5 g a6 f4 r4 s4 R (Le.refl _) (U4 _) N y) g6 hw N (λX Y s5 w5 k5 q5=>y X Y s5 w5 (k3.trans (k4.trans k5)) (Q.trans (q4.trans q5))) rfl
theorem LH (G:bM c A C Z fz U) (M:bG c A C Z F) (OO:cp c A o) (t:Vs) (b e:List VY):kC c A fz U (kB C o F t b e) (.whileLoop t b e Z):=by
 intro S f m q he;refine OK.use he λK n=>OK.bnd λi S1 p1 h1=>OK.bnd λd S2 q1 h3=>OK.got λf m q2 N=>n _ _ _ λl r ρ' s R k p sr y=>?_;clear n he;refine aN (af.mp l) λu l=>(aN (af.mp l) λv B=>?_)
 clear l;refine aN (u8 h3 v) λO hH=>?_;subst O;clear h3 v;refine XZ ((Yz (A:=A) (c:=Code.whileLoop t b e Z) rfl).symm▸ ?_);show Vf (Vg c.prog c.w) A ((whileTurn t b e Z).onRaise (λx=>do aaz x Z;X0 x)) _ _ s;refine X3 (VF (E:=bE) ?_ (λa a h=>h) λa a h=>h.elim);unfold whileTurn;refine UZ (M.tr r ρ' (G.at k p) t S i S1 p1 h1 u r ρ' s _ (Le.refl _) (U4 _) sr λD I s2 x k2 J j hx=>?_);obtain rfl:i=x:=hx;have P:=G.at (k.trans k2) (p.trans J);have y:dc c D I m.H FR f (λx s'=>R (.ok x) s'):=λQ T V W X Y=>y Q T V W (k2.trans X) (J.trans Y);simp only[<-hH] at j;clear h1 u sr;induction i with
 |false=>exact UZ (VF (E:=bE) (M.exs D I P e S2 f m q2 N B D I s2 (λz s3=>R (.ok z) s3) (Le.refl _) (U4 _) j y) (λa a h=>U3 h) λa a h=>h)
 |true=>
  revert B y;refine OK.use N λK n=>OK.bnd λfl S4 a0 g5=>OK.got λf m p5 g6=>n _ _ _ λl y=>?_;clear n N;refine aN (af.mp l) λa1 a2=>(UZ ((oJ (htr:=G.eo.trim) (M.exs D I P b)) S2 fl S4 a0 g5 a1 D I s2 _ (Le.refl _) (U4 _) j λf4 r4 s4 w k4 q4 L hw=>?_))
  exact BY (λg y=>M.wl f4 r4 (P.at k4 q4) t b e S4 f m p5 g a2 f4 r4 s4 R (Le.refl _) (U4 _) L y) g6 hw L (λQ T V W X Y=>y Q T V W (k4.trans X) (q4.trans Y)) rfl
end
end
noncomputable def u9 (o:O):M Nat:=λS=>UV (S.H.length,⟨S.H++[o],S.orc⟩,[])
noncomputable def tT (f:Nat):M Unit:=λS=>match S.H[f]? with
 |some (.frame _)=>UV ((),⟨S.H.set f .dead,S.orc⟩,[])
 |_=>UW
noncomputable def vc (a:Nat) (v:V):M Unit:=λS=>match S.H[a]? with
 |some (.list xs)=>UV ((),⟨S.H.set a (.list (xs++[v])),S.orc⟩,[xs.length<=U9])
 |_=>UW
def vd (C:Ec):List (Vb×Wk)->List (Vb×Wk)
 |[]=>[]
 |(n,k)::r=>(match k with
  | .free=>(match kd n C.names with
   |some .cell=>(n, .cell)
   |_=>(n, .free))
  |k=>(n,k))::vd C r
def gy (C:Ec):List (Vb×Wk)->Option (List (Vb×Nat))
 |[]=>UV []
 |(n,k)::r=>match k with
  | .free=>match cT n C.cells,gy C r with
   |some i,UV l=>UV ((n,i)::l)
   |_,_=>UW
  |_=>gy C r
noncomputable def isFn:ScopeKind->Bool
 | .function=>UX
 |_=>UY
noncomputable def HM:Wk->Bool
 | .local=>UX
 |_=>UY
noncomputable def BZ:Wk->Bool
 | .cell=>UX
 |_=>UY
def tU (all:List (Vb×Wk)):List (Vb×Wk)->Bool
 |[]=>UX
 |(n,k)::r=>(!BZ k)&&(match HM k with
  |true=>(match kd n all with
   |some .local=>UX
   |_=>UY)
  |false=>UX)&&tU all r
def ql (scope:XO) (x:Vb):Bool:=isFn scope.kind&&tU scope.names scope.names&&(match kd x scope.names with
 |some .local=>UX
 |_=>UY)
def ve (f:Vs->M Bool):List Vs->M Bool
 |[]=>ret UX
 |e::r=>bnd (f e) λb=>bnd (dec b) λd=>match d with
  |true=>ve f r
  |false=>ret UY
noncomputable def bk:Nat->Option (VY×M Fl):=λa=>UW
noncomputable def br:Nat->Option (Vs×M V):=λa=>UW
noncomputable def eY (o:dU) (C:Ec) (F:bP) (elt:Vs) (ifs:List Vs) (x:Vb) (i a:Nat):Nat->M Unit
 |0=>fail
 |n+1=>bnd (o.nxt i) λr=>match r with
  |none=>ret ()
  |some v=>bnd (jB i) λb=>bnd (jV C x v) λb=>bnd (ve F.tr ifs) λc=>match c with
   |true=>bnd (F.ev elt) λy=>bnd (vc a y) λb=>eY o C F elt ifs x i a n
   |false=>eY o C F elt ifs x i a n
def mz (C:Ec) (scope:XO) (cl:List (Vb×Nat)) (f:Nat):Ec:={names:=vd C scope.names,cells:=cl,fid:=f,glob:=C.glob,spS:=bk,spE:=br}
def ey (C:Ec) (o:dU) (G:Ec->bP) (n:Nat) (elt:Vs) (x:Vb) (iter:Vs) (ifs:List Vs) (scope:XO) (use:V->M Unit):M V:=
 match ql scope x&& !eB iter,gy C scope.names with
 |true,UV cl=>bnd ((G C).ev iter) λxv=>bnd (o.iter xv) λit=>match it with
  | .ref i=>bnd (jB i) λb=>bnd (u9 (.list [])) λa=>bnd (u9 (.frame [])) λf=>
   bnd (eY o (mz C scope cl f) (G (mz C scope cl f)) elt ifs x i a n) λb=>bnd (use (.ref a)) λb=>bnd (tT f) λb=>ret (.ref a)
  |_=>fail
 |_,_=>fail
def nE (C:Ec) (y:Vb) (py:XN) (scope:XO) (pos:XN):Bool:=(match kd y C.names with
 |some .local=>UX
 |_=>UY)&&(py.line==pos.line)&& !(scope.names.any λ(n,k)=>n==y&&(k== .local||k== .cell))
structure Lc where
 elt:Vs
 x:Vb
 px:XN
 iter:Vs
 ifs:List Vs
 scope:XO
 pos:XN
noncomputable def sY:Vs->Option Lc
 | .ListComp elt [⟨.Name x px,iter,ifs,0⟩] scope pos=>UV ⟨elt,x,px,iter,ifs,scope,pos⟩
 |_=>UW
theorem o8 {l:Lc} (h:sY e=UV l):e= .ListComp l.elt [⟨.Name l.x l.px,l.iter,l.ifs,0⟩] l.scope l.pos:=by
 induction e using VC with
 |ListComp b gs a c=>induction gs with
  |nil=>exact nn h
  |cons g r=>
   obtain⟨t,iter,d,n⟩:=g;induction t using VC with
   |Name x f=>induction n with
    |ofNat n=>induction n with
     |zero=>induction r with
      |nil=>refine(U0 h)▸ ?_;rfl
      |cons=>exact nn h
     |succ=>exact nn h
    |negSucc=>exact nn h
   |_=>exact nn h
 |_=>exact nn h
noncomputable def HN:VY->Option (Vs×Vs×XN)
 | .Assign [t] v p=>UV (t,v,p)
 |_=>UW
theorem vf {s:VY} {r:Vs×Vs×XN} (h:HN s=UV r):s= .Assign [r.1] r.2.1 r.2.2:=by
 induction s using Y9 with
 |Assign a v p=>induction a with
  |nil=>exact nn h
  |cons t q=>induction q with
   |nil=>exact aD (U0 h) rfl
   |cons=>exact nn h
 |_=>exact nn h
noncomputable def aE (o:dU):Nat->Ec->bP
 |0,_=>⟨λa=>fail,λa=>fail,λa=>fail,λa=>fail,λa a=>fail,λa a a a=>fail,λa a a=>fail⟩
 |n+1,C=>
  let F:=aE o n C
  {ev:=λe=>match C.spE (nC e) with
    |some (c,m)=>bnd (need (e=c)) λa=>m
    |none=>match sY e with
     |some l=>ey C o (aE o n) n l.elt l.x l.iter l.ifs l.scope λa=>ret ()
     |none=>mv C o F e
   tr:=BP C o F
   ex:=λs=>match C.spS (jC s) with
    |some (d,m)=>bnd (need (s=d)) λa=>m
    |none=>match HN s with
     |some r=>match sY r.2.1 with
      |some l=>match r.1 with
       | .Name y py=>match nE C y py l.scope l.pos with
        |true=>bnd (ey C o (aE o n) n l.elt l.x l.iter l.ifs l.scope λv=>jV C y v) λa=>ret .next
        |false=>bnd (ey C o (aE o n) n l.elt l.x l.iter l.ifs l.scope λa=>ret ()) λv=>bnd (jV C y v) λa=>ret .next
       | .Subscript f i b=>bnd (ey C o (aE o n) n l.elt l.x l.iter l.ifs l.scope λa=>ret ()) λv=>bnd (F.asg (.Subscript f i b) v) λa=>ret .next
       |_=>gQ C o F s
      |none=>gQ C o F s
     |none=>gQ C o F s
   exs:=cG F.ex
   asg:=yj C o F
   fl:=kA C o F
   wl:=kB C o F}
section
section
variable {o:dU} 
theorem sZ (o:SR c fz' ρ' H s) {ob:O} (hi:H[i]?=UV ob) (hl:jA ob=UX) (p:ρ'[i]?=UV a)
  (h:Q (.ref a) s):Vf (Vg c.prog c.w) A (aaJ (.ref a)) Q E s:=by
 have g:ob.live=UX:=by cases ob<;>first|rfl|cases hl
 refine eX (o.hr.obj i ob hi g) λz x q f e e r=>?_
 obtain rfl:=U0 (p.symm.trans q)
 induction ob with
 |rngIt v l st=>exact wpAny_pyIter_rangeiter (x:=v) (left:=l) (step:=st) (by rw[show x=_ from r] at f;exact f) h
 |listIt l n=>obtain⟨b,_,d,j⟩:=r;exact aaV (l:=b) (i:=n) (cE _ f d j) h
 |datIt l n=>obtain⟨b,_,d,j⟩:=r;exact aaV (l:=b) (i:=n) (cE _ f d j) h
 |strIt t n=>
  refine cy r λu B y k m=>?_;rcases y with rfl|rfl
  ·exact wpAny_pyIter_striter_wide (x:=t) (t:=u) (i:=n) (cE _ f k m) h
  ·exact wpAny_pyIter_striter_ascii (x:=t) (t:=u) (i:=n) (cE _ f k m) h
 |_=>cases hl
theorem nF {c:List V}:∀{xs ys:List U2},av g U vs xs->av g U c ys->av g U (vs++c) (xs++ys):=by
 induction vs with
 |nil=>intro xs ys h k;refine ac h.i0 ?_;exact k
 |cons v r d=>intro xs ys h k;exact h.ec λx u a b=>(.cons a (d b k))
theorem av.snoc {x:U2} (h:av g U vs xs) (k:VR g U v x):av g U (vs++[v]) (xs++[x]):=nF h (.cons k .nil)
theorem kD {vs vs':List U2} {n:Nat} {f:Array U2->Array U2} (e:h.get? a=UV (bT vs n)) (hf:f vs.toArray=vs'.toArray):∃m,(h.update a (Xj f)).get? a=UV (bT vs' m):=by have:=IsL.update (n:=n) e f;rw[hf] at this;exact⟨_,this⟩
theorem Jr {a:Nat} {aa:U6} {x:U2} (r:U[a]?=UV aa) (C:VR fz U v x):ae c A fz U (vc a v) (call (.builtin "list.append") [.ref aa,x]) (λ_ _ _ (_:U2)=>True):=by
 intro S u I q e D h ρ' s Q k p i y;dsimp only[vc] at e;induction g:S.H[a]? with
 |none=>rw[g] at e;exact nn e
 |some E=>
  rw[g] at e;induction E with
  |list t=>
   refine b9 (db e) λd j l=>(ac d ?_)
   subst j;subst l;refine eX (i.hr.obj a _ g rfl) λJ w z o b b F=>(aG F λvs n d B=>?_)
   subst d;rw[ai p r] at z;obtain rfl:=U0 z;refine YM abS (T:="list") (aA _ o rfl) abF (abA _ _) (list_append aa vs.toArray n x (ac VH (ac B.length D.1):vs.toArray.size<=U9)) ⟨o,?_⟩;refine bI (kD (f:=λt=>t.push x) (vs':=vs++[x]) o (by simp)) λm G=>?_;exact y h ρ' _ _ (Le.refl _) (U4 _) (i.tz (i.hr.upd g rfl (ai p r) (VQ ..) G (bL (vs++[x]) m rfl (B.snoc (C.mono k p))))) trivial
  |_=>exact nn e
theorem zM {all:List (Vb×Wk)} {l:List (Vb×Wk)} (h:tU all l=UX) (y) (b:y∈l):y.2≠ .cell/\(y.2= .local->all.lookup y.1=UV .local):=by
 induction l with
 |nil=>exact nomatch b
 |cons p r f=>
  obtain⟨n,k⟩:=p;dsimp only[tU] at h;rw[VO,VO] at h;obtain⟨⟨d,a⟩,g⟩:=h;rcases List.mem_cons.mp b with rfl|b
  ·constructor
   ·intro q;have c:k= .cell:=q;rw[c] at d;cases d
   ·intro q;have c:k= .local:=q;subst c;dsimp only[HM] at a;rw[<-fK];induction e:kd n all with
    |none=>rw[e] at a;cases a
    |some i=>rw[e] at a;cases i<;>first|rfl|cases a
  ·exact f g b
theorem qm (D:aI c C Z U) {l:List (Vb×Wk)} (h:gy C l=UV cl) (acc:List (Vb×U6)) (q:∀x a,acc.lookup x=UV a->Z.cells.lookup x=UV a):
  ∃cs,(forIn (m:=Xh) l acc λx r=>match x with|(name,kind)=>if(kind==abG)=UX then do let a <-cellOf Z name;pure (Yc ((name,a)::r)) else pure (Yc r))=pure cs/\
   (∀x a,cs.lookup x=UV a->Z.cells.lookup x=UV a)/\(∀x,(acc.lookup x).isSome=UX->(cs.lookup x).isSome=UX)/\(∀x n,cT x cl=UV n->cT x C.cells=UV n/\(cs.lookup x).isSome=UX):=by
 induction l generalizing cl acc with
 |nil=>obtain rfl:=U0 h;exact⟨acc,rfl,q,λd h=>h,λd d h=>nomatch h⟩
 |cons p r A=>
  obtain⟨n,k⟩:=p;refine ac (Zg ..) ?_;by_cases s:k= .free
  ·subst s;change (match cT n C.cells,gy C r with|some i,UV l=>UV ((n,i)::l)|_,_=>UW)=UV cl at h;induction j:cT n C.cells with
   |none=>rw[j] at h;exact nn h
   |some i=>
    rw[j] at h;induction t:gy C r with
    |none=>rw[t] at h;exact nn h
    |some l=>
     rw[t] at h;obtain rfl:=U0 h;refine aj (D.cells n i j) λa B G=>?_;have u:∀x b,((n,a)::acc).lookup x=UV b->Z.cells.lookup x=UV b:=λx b f=>by
      rw[Xc] at f;induction e:x==n with
      |true=>rw[e] at f;obtain rfl:=U0 f;refine ac (eq_of_beq e) ?_;exact B
      |false=>rw[e] at f;exact q x b f
     refine fA (A t ((n,a)::acc) u) λcs v w o y=>?_;have E:(((n,a)::acc).lookup n).isSome=UX:=by refine ac Xc ?_;rw[beq_self_eq_true];rfl
     refine(oF cs ?_ w (λx e=>o x ?_) (λx m g=>?_))
     ·refine(?_:(cellOf Z n >>= λa=>pure (Yc ((n,a)::acc))) >>= _=_);dsimp only[cellOf];exact ac B v
     ·rw[Xc];induction x==n with
      |true=>rfl
      |false=>exact e
     ·dsimp only[cT] at g;by_cases e:x=n
      ·subst e;rw[bS.mpr rfl] at g;obtain rfl:=U0 g;exact⟨j,o _ E⟩
      ·rw[cg.mpr e] at g;exact y x m g
  ·have z:(k==abG)=UY:=by simpa using s
   have F:gy C r=UV cl:=by dsimp only[gy] at h;cases k<;>first|exact h|exact absurd rfl s
   refine fA (A F acc q) λcs v w o y=>(oF cs ?_ w o y)
   show(if(k==abG)=UX then _ else pure (Yc acc)) >>= _=_;refine ac z ?_;refine ac (if_neg VT) ?_;exact v
theorem Js (a:aI c C Z U) (scope:XO) (l:List (Vb×Wk)):(l.map λ(n,k)=>if(k== .free&&Z.scope.kind== .function&&Z.kindOf n==UV .cell) then(n, .cell) else(n,k))=vd C l:=by
 induction l with
 |nil=>rfl
 |cons p r b=>
  obtain⟨n,k⟩:=p;refine ac Wa (ac b ?_);have d:vd C ((n,k)::r)=(match k with
   | .free=>(match kd n C.names with
    |some .cell=>(n, .cell)
    |_=>(n, .free))
   |k=>(n,k))::vd C r:=rfl
  refine ac d ?_;congr 1;dsimp only;refine ac a.kind (ac (by rw[fK];refine aD a.names ?_;rfl:Z.kindOf n=kd n C.names) ?_);cases k<;>first|rfl|skip
  induction kd n C.names with
  |none=>rfl
  |some e=>cases e<;>rfl
theorem Eu (i:aI c C Z U) (r:Z.builtins=Z.builtins) {cs:List (Vb×U6)} (g:scope.kind= .function)
  (k:∀x a,cs.lookup x=UV a->Z.cells.lookup x=UV a) (l:∀x n,cT x cl=UV n->cT x C.cells=UV n/\(cs.lookup x).isSome=UX)
  (p:U <+:ρ') {f:Nat} {L:U6} (hf:ρ'[f]?=UV L):aI c (mz C scope cl f) (compEnvC scope cs L Z) ρ' where
 kind:=g
 names:=Js i scope scope.names
 glob:=i.glob
 loc:=hf
 cells:=λx n e=>by
  refine aN (l x n e) λm j=>(aj (i.cells x n m) λa o q=>?_)
  induction h:cs.lookup x with
  |none=>rw[h] at j;cases j
  |some b=>have:=k x b h;rw[o] at this;obtain rfl:=U0 this;exact(aA a h (ai p q))
 trim:=λd h=>(nomatch h)
theorem xO (f:Vs->Bool->Xh (ForInStep Bool)) (hf:∀e,f e UY=pure (.yield UY)) (l:List Vs):forIn l UY f=pure UY:=by
 induction l with
 |nil=>rfl
 |cons e r a=>exact ac (Zg ..) (ac (hf e) a)
theorem Jt (G:bM c A C Z fz U) (i:bG c A C Z F) (ifs:List Vs) (fz':Vc) (ρ':List U6) (k:Le fz fz') (p:U <+:ρ'):
  ae c A fz' ρ' (ve F.tr ifs) (forIn ifs UX λc r=>if r=UX then do let j <-aa4 c Z (Wq c Z);pure (Yc j) else pure (Yc r)) gP:=by
 induction ifs generalizing fz' ρ' with
 |nil=>exact ac List.forIn_nil (ae.ret λa a a a=>rfl)
 |cons e r l=>
  refine ac (Zg ..) (ac (if_pos rfl) (ac (bind_assoc ..) ?_));refine ae.bind (i.tr _ _ (G.at k p) e) λg h b t m n o=>?_;have f:b=t:=o;subst f;refine ae.dec λd q=>?_;subst q;refine ac (pure_bind ..) ?_;induction b with
  |true=>exact l g h (k.trans m) (p.trans n)
  |false=>refine(?_:ae c A g h (ret UY) (forIn r UY _) gP);exact ac (xO _ (λe=>rfl) _) (ae.ret λa a a a=>rfl)
end
end
section
section
variable {o:dU} 
theorem OK.new {ob:O} {k:Nat->M β} {S:St} {K:β->St->List Prop->Prop} (h:OK (k S.H.length ⟨S.H++[ob],S.orc⟩) K):OK (Mine.Internal.bnd (u9 ob) k S) K:=by
 refine(?_:OK (match k S.H.length ⟨S.H++[ob],S.orc⟩ with|none=>UW|some (b,a,q)=>UV (b,a,[]++q)) K);induction e:k S.H.length ⟨S.H++[ob],S.orc⟩ with
 |none=>trivial
 |some r=>rw[e] at h;exact h
theorem zN {f:Nat} {S:St} {u:Unit} {p:List Prop} (e:tT f S=UV (u,S',p)):∃loc,S.H[f]?=UV (.frame loc)/\S'=⟨S.H.set f .dead,S.orc⟩/\p=[]:=by
 refine OK.use e λK a=>?_;unfold tT;induction h:S.H[f]? with
 |none=>exact Vd
 |some o=>induction o with
  |frame l=>exact a _ _ _ (cE l h rfl rfl)
  |_=>exact Vd
theorem Ev (OO:cp c A o) (IH:bG c A C Z F) {x:Vb} {a:Nat} {aa:U6}:
  ∀(n:Nat) (fz:Vc) (U:List U6),bM c A C Z fz U->U[i]?=UV ia->U[a]?=UV aa->∀(S S':St) (u:Unit) (q:List Prop),eY o C F elt ifs x i a n S=UV (u,S',q)->ao q->
   ∀s (R:ZU->U7->Prop),SR c fz U S.H s->dc c fz U S'.H dJ () (λb s'=>R (.ok .next) s')->Xz (Vg c.prog c.w) A (.compLoop (.ListComp elt [⟨.Name x px,iter,ifs,0⟩] scope pos) 0 (.ref ia) (.ref aa) Z) R s:=by
 intro n
 induction n with
 |zero=>intro _ _ _ _ _ _ _ _ _ P;exact nn P
 |succ n ih=>
 intro fz U G f g S S' u q P
 refine OK.use P λK e=>OK.bnd λr S1 p1 h1=>OK.got λu S' p2 Y=>e _ _ _ λd s R sr y=>?_
 clear e P
 obtain⟨t,a0⟩:=af.mp d
 clear d
 refine XZ (ac (Yz (A:=A) (c:=Code.compLoop (.ListComp elt [⟨.Name x px,iter,ifs,0⟩] scope pos) 0 (.ref ia) (.ref aa) Z) rfl) ?_)
 show Vf (Vg c.prog c.w) A ((compTurn (.ListComp elt [⟨.Name x px,iter,ifs,0⟩] scope pos) 0 (.ref ia) (.ref aa) Z).onRaise (λx=>do aaz x Z;X0 x)) _ _ s
 refine X3 (VF (E:=bE) ?_ (λb b h=>h) λb b h=>h.elim)
 rw[compTurn_list]
 refine UZ (VL (UZ (OO.nxt fz U i ia f S r S1 p1 h1 t fz U s _ (Le.refl _) (U4 _) sr λf2 r2 s2 w k2 Q j T=>?_)))
 clear h1 t sr
 have G2:=G.at k2 Q
 have f:=ai Q f
 have g:=ai Q g
 have y:dc c f2 r2 S'.H dJ () (λb s'=>R (.ok .next) s'):=λB D I V k l=>y B D I V (k2.trans k) (Q.trans l)
 induction r with
 |none=>induction w with
  |some=>exact T.elim
  |none=>obtain⟨_,rfl,_⟩:=db Y;exact U3 (y f2 r2 s2 () (Le.refl _) (U4 _) j trivial)
 |some v=>induction w with
  |none=>exact T.elim
  |some z=>
   revert a0 y;refine OK.use Y λK e=>OK.bnd λb S2 q1 g1=>?_;refine fA (my g1) λob hh hl a1 a2=>?_;subst a1;subst a2;clear Y g1 hh;refine OK.bnd λb S3 a3 g3=>OK.bnd λok S4 a4 g5=>OK.got λu S' p5 g6=>e _ _ _ λd y=>?_;clear e;obtain⟨J,d⟩:=af.mp (af.mp d).2;obtain⟨L,M⟩:=af.mp d;clear d;refine UZ (U3 ?_);refine UZ (abT ?_);refine gJ G2.eo x T S2 _ S3 a3 g3 J f2 r2 s2 _ (Le.refl _) (U4 _) j λf3 r3 s3 b k3 q3 N b=>?_;have G3:=G2.at k3 q3;refine UZ (Jt G3 IH ifs f3 r3 (Le.refl _) (U4 _) S3 ok S4 a4 g5 L f3 r3 s3 _ (Le.refl _) (U4 _) N λW X s4 w' k4 m O hw=>?_);obtain rfl:ok=w':=hw;have G4:=G3.at k4 m;have m:=q3.trans m;have f:=ai m f;have g:=ai m g;have y:dc c W X S'.H dJ () (λb s'=>R (.ok .next) s'):=λB D I V k l=>y B D I V (k3.trans (k4.trans k)) (m.trans l);clear g3 g5 J L T j N G3 G2 G;induction ok with
   |false=>exact U3 ⟨rfl,ih W X G4 f g S4 S' u p5 g6 M s4 R O y⟩
   |true=>revert M y;refine OK.use g6 λK e=>OK.bnd λyv S5 a5 g7=>OK.bnd λb S6 a6 g9=>OK.got λu S' p7 a7=>e _ _ _ λd y=>?_;clear e g6;obtain⟨a8,d⟩:=af.mp d;obtain⟨a9,ab⟩:=af.mp d;refine UZ (UZ (IH.ev W X G4 elt S4 yv S5 a5 g7 a8 W X s4 _ (Le.refl _) (U4 _) O λB D I V k l ad h5=>?_));refine UZ (Jr (ai l g) h5 S5 _ S6 a6 g9 a9 B D I _ (Le.refl _) (U4 _) ad λf6 r6 s6 w6 k6 p ae b=>?_);have p:=l.trans p;exact U3 (U3 ⟨rfl,ih f6 r6 (G4.at (k.trans k6) p) (ai p f) (ai p g) S6 S' u p7 a7 ab s6 R ae λf7 r7 s7 w7 k7 q7 ag h7=>y f7 r7 s7 w7 (k.trans (k6.trans k7)) (p.trans q7) ag h7⟩)
end
end
section
section
variable {o:dU} 
theorem B3 {ob:O} {S:St} {n:Nat} {p:List Prop} (e:u9 ob S=UV (n,S',p)):n=S.H.length/\S'=⟨S.H++[ob],S.orc⟩/\p=[]:=by obtain⟨rfl,rfl,rfl⟩:=db e;exact⟨rfl,rfl,rfl⟩
theorem HR.newFrame {cls:U2} {m:Vb->Option U2} {loc:List (Vb×V)} (x:HR c fz U H h) (hs:WS h.objs.size (h.push {cls:=cls,data:= .dict #[]}) h')
  (i:h'.Ns h.objs.size m) (j:∀y,d6 fz (U++[h.objs.size]) (lk y loc) (m y)):HR c fz (U++[h.objs.size]) (H++[.frame loc]) h':=by
 have e0:(Heap.push h {cls:=cls,data:= .dict #[]}).Ns h.objs.size (λa=>UW):=Heap.Ns.new h cls
 refine jg e0 λf k l e1 e2 e3 n=>?_
 have b:f={cls:=cls,data:= .dict #[]}:=by have:=VV h (o:={cls:=cls,data:= .dict #[]}) rfl;rw[e1] at this;exact U0 this
 have g:=x.push f (.frame []) (ac b rfl) ⟨λa=>UW,(cY k l e2 e3 n),λy=>trivial⟩
 rw[b] at g
 refine jg i λp d e q r s t=>?_
 have u:(H++[O.frame []])[H.length]?=UV (.frame []):=bj rfl
 have:=g.upd u rfl (bj x.len.symm) hs q (o:= .frame loc) ⟨m,(cY d e r s t),j⟩
 rw[List.set_append_right _ _ (Vr _),WU] at this
 exact this
theorem Ju {k:ScopeKind} (h:isFn k=UX):k= .function:=by cases k<;>first|rfl|cases h
theorem LI {x:U2} (h:(!eB e)=UX):abR e Z x=pure x:=by
 induction e using VC with
 |Set=>cases h
 |_=>rfl
theorem ll (OO:cp c A o) {Gm:Ec->bP} (IH:∀C Z,bG c A C Z (Gm C)) (G:bM c A C Z fz U) {n:Nat} {x:Vb} {a1:XN}
  {use:V->M Unit} {u:Option (U2->Xh Unit)} (h0:u=UW->use=λa=>ret ()) (h1:∀t,u=UV t->∀fz' ρ' v z,Le fz fz'->U <+:ρ'->VR fz' ρ' v z->ae c A fz' ρ' (use v) (t z) dJ):
  ae c A fz U (ey C o Gm n elt x iter ifs scope use) (abs (.ListComp elt [⟨.Name x px,iter,ifs,0⟩] scope pos) scope Z a1 (newList []) UY (Wq iter Z) u) (λfz U v z=>u=UW->VR fz U v z):=by
 refine ae.run λS K hK=>?_
 unfold ey
 induction X:ql scope x&& !eB iter with
 |false=>exact Vd
 |true=>
 induction al:gy C scope.names with
 |none=>exact Vd
 |some cl=>
 refine OK.bnd λxv S1 p1 e1=>OK.bnd λit S2 p2 e2=>?_
 induction it with
 |ref i=>
  refine OK.bnd λa F p3 e3=>(fA (my e3) λam a2 an d g=>?_)
  subst d;subst g;refine OK.new (OK.new (OK.bnd λa S6 p6 e6=>OK.bnd λa S7 p7 e7=>OK.bnd λa S8 p8 e8=>?_));refine ca (zN e8) λao hf d g=>?_;subst d;subst g;refine hK _ _ _ λR fz' ρ' s Q k p sr y=>?_;clear hK e3 e8;refine via λΩ κ=>(aN (af.mp R) λap R=>?_)
  refine aN (af.mp R) λaq R=>(aN (af.mp (af.mp R).2) λar R=>?_)
  refine κ ?_;clear κ;have as:=(af.mp R).1;clear R;unfold ql at X;rw[VO,VO,VO] at X;refine via λΩ κ=>(aN X λau av=>?_)
  obtain⟨⟨aw,ax⟩,aH⟩:=au;refine κ ?_;clear κ;have f:=Ju aw;have j:=zM ax;refine fA (qm G.eo al [] (λa a h=>nomatch h)) λcs f1 f2 a f4=>?_;have Y:abB scope Z=pure cs:=by unfold abB;exact(congrArg (λt=>t >>= λr=>pure r) f1).trans (pure_bind _ _)
  refine wpAny_comprehension_free (E:=bE) rfl (λa=>LI av) Y f (λy hy=>(j y hy).2) ?_;refine(IH C Z).ev fz' ρ' (G.at k p) iter S xv S1 p1 e1 ap fz' ρ' s _ (Le.refl _) (U4 _) sr λa3 r2 s2 w2 k2 l2 ay az=>?_;have G2:=(G.at k p).at k2 l2;refine OO.iter a3 r2 xv w2 az S1 _ F p2 e2 aq a3 r2 s2 _ (Le.refl _) (U4 _) ay λf3 I J w3 k3 l3 N aB=>?_;have G3:=G2.at k3 l3;refine aj (VR.i_ref aB) λia d a4=>(ac d ?_)
  refine V4 (hd:=by size_fits) ?_;have aC:SR c f3 (I++[J.heap.objs.size]) (F.H++[.list []]) {J with heap:=J.heap.push {cls:= .type "list",dict:=UW,data:= .seq ([]:List U2).toArray}}:=
   (N.tz (N.hr.push _ (.list []) rfl (bL ([]) 0 rfl .nil)))
  refine wpAny_newFunctionEnv (λy hy=>(j y hy).1) (λy hy=>nomatch hy) (λh' hn a6=>?_) f;dsimp only at hn a6 ⊢;have aD:=aC.hr.newFrame (m:=λx=>([]:List (Vb×U2)).reverse.lookup x) (loc:=[]) a6 hn (λa=>trivial);generalize hL:(J.heap.push {cls:= .type "list",dict:=UW,data:= .seq ([]:List U2).toArray}).objs.size=L at*;generalize ha:J.heap.objs.size=q at*;have a7:SR c f3 (I++[q]++[L]) (F.H++[.list []]++[.frame []]) {J with heap:=h',toks:=J.toks+([]:List (Vb×U2)).length}:=(N.tz aD)
  have l5:I <+:I++[q]++[L]:=(Vn _ _).trans (Vn _ _);have pv:F.H.length=I.length:=N.hr.len.symm;have a8:(I++[q]++[L])[(F.H++[O.list []]).length]?=UV L:=bj (by simp[pv]);have a9:(I++[q]++[L])[F.H.length]?=UV q:=ai (Vn _ _) (bj pv);have aE:=Eu G3.eo rfl f f2 f4 l5 a8;have G5:bM c A (mz C scope cl (F.H++[O.list []]).length) (compEnvC scope cs L Z) f3 (I++[q]++[L]):=⟨aE,{s:=λa a a h=>(nomatch h),e:=λa a a h=>(nomatch h)}⟩
  have ab:dc c f3 (I++[q]++[L]) S6.H dJ () (λa s'=>compPost (Vg c.prog c.w) A bE u Q (.ref q) L (.ok .next) s'):=by
   intro f6 r6 s6 w6 k6 l6 ad _;have ag:=ai l6 a8;have ah:=ai l6 a9;have T:∀(f7:Vc) (r7:List U6) (s7:U7),r6 <+:r7->SR c f7 r7 S7.H s7->∃m,s7.heap.Ns L m/\∀h',WS L s7.heap h'->SR c f7 r7 (S7.H.set (F.H++[O.list []]).length .dead) {s7 with heap:=h'}:=λf7 r7 s7 l7 B=>by exact aj (gv B hf (ai l7 ag)) λm D a=>(aA m D (λP b=>B.tz (B.hr.kill hf rfl (ai l7 ag) b.extBut)))
   induction hu:u with
   |none=>
    rw[h0 hu] at e7;refine b9 (db e7) λd g aF=>(ac d ?_)
    subst g;subst aF;exact aj (T f6 r6 s6 (U4 _) ad) λm D a0=>(aA m D (λP b=>y f6 r6 _ _ (k2.trans (k3.trans k6)) (l2.trans (l3.trans (l5.trans l6))) (a0 P b) λa=> .ref ah))
   |some t=>
    refine h1 t hu f6 r6 (.ref F.H.length) (.ref q) (k.trans (k2.trans (k3.trans k6))) (p.trans (l2.trans (l3.trans (l5.trans l6)))) (.ref ah) S6 _ S7 p7 e7 as f6 r6 s6 _ (Le.refl _) (U4 _) ad λf7 r7 s7 w7 k7 l7 B a=>(aj (T f7 r7 s7 l7 B) λm D a0=>?_)
    exact(aA m D (λP b=>y f7 r7 _ _ (k2.trans (k3.trans (k6.trans k7))) (l2.trans (l3.trans (l5.trans (l6.trans l7)))) (a0 P b) λh=>by rw[hu] at h;cases h))
  have W:Xz (Vg c.prog c.w) A (.compLoop (.ListComp elt [⟨.Name x px,iter,ifs,0⟩] scope pos) 0 (.ref ia) (.ref q) (compEnvC scope cs L Z)) (compPost (Vg c.prog c.w) A bE u Q (.ref q) L)
    {J with heap:=h',toks:=J.toks+([]:List (Vb×U2)).length}:=
   Ev OO (IH _ _) n f3 _ G5 (ai l5 a4) a9 _ S6 _ p6 e6 ar _ _ a7 ab
  refine codeAny_compStart_list W ?_;have aG:(F.H++[O.list []]++[O.frame []])[i]?=UV am:=by have ak:=bn a2;refine ac (Wl (ac U8 (Vq ak (Vm _ _)))) (ac (Wl ak) ?_);exact a2
  exact sZ a7 aG an (ai l5 a4) W
 |_=>exact Vd
end
end
section
section
variable {o:dU} 
theorem zO {y:Vb} {gs:List Comprehension} {l:Nat} (a:aI c C Z U):
  swapsWithSole [.Name y py] (.ListComp elt gs scope pos) l Z=pure (nE C y py scope pos):=by
 refine(?_:(do return Z.blockKind== .function&&Z.kindOf y==UV .local&&py.line==pos.line&& !(scope.names.any λ(n,k)=>n==y&&(k== .local||k== .cell)):Xh Bool)=_)
 refine ac (by rw[fK];refine aD a.names ?_;rfl:Z.kindOf y=kd y C.names) (ac (by dsimp only[Env.blockKind];refine ac a.kind ?_;rfl:Z.blockKind= .function) ?_)
 dsimp only[nE]
 induction kd y C.names with
 |none=>rfl
 |some k=>cases k<;>rfl
theorem Ew (B:cp c A o) {g:Ec->bP} (D:∀C Z,bG c A C Z (g C)) (G:bM c A C Z fz U) {n:Nat} {x y:Vb} {f:XN}:
  ae c A fz U (match nE C y py scope pos with
   |true=>bnd (ey C o g n elt x iter ifs scope λv=>jV C y v) λa=>ret Fl.next
   |false=>bnd (ey C o g n elt x iter ifs scope λa=>ret ()) λv=>bnd (jV C y v) λa=>ret Fl.next)
   (aaU (.Assign [.Name y py] (.ListComp elt [⟨.Name x px,iter,ifs,0⟩] scope pos) f) Z) FR:=by
 rw[arm_exec_Assign];refine ac (zO G.eo) ?_
 refine ae.stand ?_
 induction nE C y py scope pos with
 |true=>refine(?_:ae c A fz U _ (((abs (.ListComp elt [⟨.Name x px,iter,ifs,0⟩] scope pos) scope Z iter.pos (newList []) UY (Wq iter Z) (UV λv=>ZG (.Name y py) Z v)) >>= λa=>pure ()) >>= λa=>pure abr) FR);rw[bind_assoc];refine ae.bind (ll B D G (λh=>by cases h) λt i E F v z k p h=>?_) λa a a a a a a=>ae.eq (pure_bind _ _) (ae.ret λa a a a=>trivial);obtain rfl:=U0 i;intro S b j q e l d ρ' s Q m r u w;exact abT (gJ (G.eo.at p) y h S b j q e l d ρ' s Q m r u w)
 |false=>
  refine(?_:ae c A fz U _ ((abs (.ListComp elt [⟨.Name x px,iter,ifs,0⟩] scope pos) scope Z iter.pos (newList []) UY (Wq iter Z) UW) >>= λv=>ZG (.Name y py) Z v >>= λa=>pure abr) FR);refine ae.bind (ll B D G (λa=>rfl) λt i=>by cases i) λE F v z k p h=>(ae.bind (R:=dJ) ?_ λa a a a a a a=>ae.ret λa a a a=>trivial)
  intro S b j q e l d ρ' s Q m r u w;exact abT (gJ (G.eo.at p) y (h rfl) S b j q e l d ρ' s Q m r u w)
theorem d5 (q:cp c A o) (n:Nat):∀C Z,bG c A C Z (aE o n C):=by
 induction n with
 |zero=>exact λd d=>⟨λd d d d=>ae.fail,λd d d d=>ae.fail,λd d d d=>ae.fail,λd d d d=>ae.fail,λd d d d d d d=>ae.fail,λd d d d d d d d d=>λS f K p h=>nn h,λd d d d d d=>λS f K p h=>nn h⟩
 |succ n D=>
  intro C Z;have u:=D C Z;refine⟨λj U G e=>?_,λj U G e=>LB G u q e,λj U G s=>?_,λj U G s=>Jq G u s j U (Le.refl _) (U4 _),λj U G e v z h=>Jp G u q e h,λj U G t i a b e h=>LG G u q t i a b e h,λj U G t b e=>LH G u q t b e⟩
  ·show ae c A j U (match C.spE (nC e) with
    |some (L,m)=>bnd (need (e=L)) λd=>m
    |none=>match sY e with
     |some l=>ey C o (aE o n) n l.elt l.x l.iter l.ifs l.scope λd=>ret ()
     |none=>mv C o (aE o n C) e) _ _
   induction h:C.spE (nC e) with
   |none=>
    dsimp only;induction B:sY e with
    |some l=>refine ac (o8 B) ?_;rw[eval_ListComp];exact ae.mono (ll q D G (λd=>rfl) λt E=>nn E) λd d d d d d h=>h rfl
    |none=>exact LD G u q e
   |some r=>exact ae.need λF=>F▸G.sp.e _ _ _ h
  ·show ae c A j U (match C.spS (jC s) with
    |some (M,m)=>bnd (need (s=M)) λd=>m
    |none=>match HN s with
     |some r=>match sY r.2.1 with
      |some l=>match r.1 with
       | .Name y I=>match nE C y I l.scope l.pos with
        |true=>bnd (ey C o (aE o n) n l.elt l.x l.iter l.ifs l.scope λv=>jV C y v) λd=>ret .next
        |false=>bnd (ey C o (aE o n) n l.elt l.x l.iter l.ifs l.scope λd=>ret ()) λv=>bnd (jV C y v) λd=>ret .next
       | .Subscript H i g=>bnd (ey C o (aE o n) n l.elt l.x l.iter l.ifs l.scope λd=>ret ()) λv=>bnd ((aE o n C).asg (.Subscript H i g) v) λd=>ret .next
       |_=>gQ C o (aE o n C) s
      |none=>gQ C o (aE o n C) s
     |none=>gQ C o (aE o n C) s) _ _
   have w:=LF G u q s
   induction h:C.spS (jC s) with
   |none=>
    dsimp only;induction J:HN s with
    |none=>exact w
    |some r=>
     dsimp only;induction B:sY r.2.1 with
     |none=>exact w
     |some l=>
      obtain⟨t,v,p⟩:=r;dsimp only at B;induction t using VC with
      |Name y I=>refine ac (vf J) ?_;dsimp only;exact ac (o8 B) (Ew q D G)
      |Subscript H i g=>refine ac (vf J) ?_;dsimp only;refine ac (o8 B) ?_;rw[arm_exec_Assign];refine ae.stand ?_;show ae c A j U _ ((abs (.ListComp l.elt [⟨.Name l.x l.px,l.iter,l.ifs,0⟩] l.scope l.pos) l.scope Z l.iter.pos (newList []) UY (Wq l.iter Z) UW) >>= λv=>ZG (.Subscript H i g) Z v >>= λd=>pure abr) FR;exact ae.bind (ll q D G (λd=>rfl) λt E=>nn E) λN O v z k p h=>(ae.bind (u.asg N O (G.at k p) _ v z (h rfl)) λd d d d d d d=>ae.ret λd d d d=>trivial)
      |_=>exact w
   |some r=>exact ae.need λF=>F▸G.sp.s _ _ _ h
end
end
section
theorem HR.exts (x:HR c fz U H h) (k:Le h h') (as:List U6) (os:List O) (n:as.length=os.length) (nd:as.Nodup)
  (A:∀a∈as,h.objs.size<=a) (B:∀(i:Nat) (a:U6) (o:O),as[i]?=UV a->os[i]?=UV o->o.live=UX/\∃ob,h'.get? a=UV ob/\OR c.w.params fz (U++as) o a ob):HR c fz (U++as) (H++os) h':=by
 have p:U <+:U++as:=Vn _ _
 have split:∀{i:Nat} {o:O},(H++os)[i]?=UV o->(H[i]?=UV o)∨(H.length<=i/\os[i - H.length]?=UV o):=λ{i o} e=>by
  refine(YL i H.length).elim (λh=>?_) λh=>?_
  ·simp only[Wl h] at e;exact .inl e
  ·simp only[VS h] at e;exact .inr ⟨h,e⟩
 have m:∀{i:Nat},H.length<=i->(U++as)[i]?=as[i - H.length]?:=λ{i} h=>ac (VS ((x.len).symm▸h)) (ac x.len rfl)
 have fresh:∀{a:U6} {o:Xg},h.get? a=UV o->a∉as:=λ{a o} e M=>WT _ (Vq (Wc e) (A a M))
 have s:∀{i:Nat} {u:O} {a:U6},H[i]?=UV u->u.live=UX->(U++as)[i]?=UV a->U[i]?=UV a/\a∉as:=λ{i u a} e l L=>by refine cy (x.obj i u e l) λb v e1 e2 g=>?_;simp only[ai p e1] at L;cases L;exact⟨e1,fresh e2⟩
 refine⟨x.fzle.trans k,x.gle.trans k,x.wd,ac U8 (ac U8 (ac x.len (ac n rfl))),?_,?_,λi d e=>?_,x.dis,λt D=>aj (x.tab t D) λob e1 r=>(aA ob (k _ _ e1) r),λt D i u e l q=>?_⟩
 ·intro i j N P a e1 G e2 I y z;rcases split e1 with E|⟨g1,E⟩<;>rcases split e2 with F|⟨J,F⟩
  ·exact x.inj i j N P a E G F I (s E G y).1 (s F I z).1
  ·simp only[m J] at z;exact absurd (WX z) (s E G y).2
  ·simp only[m g1] at y;exact absurd (WX y) (s F I z).2
  ·simp only[m g1] at y;simp only[m J] at z;have:i - H.length=j - H.length:=(List.getElem?_inj (bn y) nd).mp (y.trans z.symm);exact(Wm g1).symm.trans ((congrArg (· +_) this).trans (Wm J))
 ·intro i u e l;rcases split e with r|⟨g1,r⟩
  ·exact eX (x.obj i u r l) λa v e1 e2 e3 Q R=>(l8 a v (ai p e1) (k _ _ e2) e3 Q (R.mono (Le.refl _) p))
  ·have C:=bn r;simp only[<-n] at C;have K:as[i - H.length]?=UV as[i - H.length]:=VG C;refine aN (B _ _ _ K r) λg S=>(aj S λob e1 e2=>?_)
   have nn:∀{f:Vc},Le f h->f.get? as[i - H.length]=UW:=λ{f} T=>by
    induction e:f.get? as[i - H.length] with
    |none=>rfl
    |some o=>exact absurd (WX K) (fresh (T _ _ e))
   exact(l8 _ ob ((m g1).trans K) e1 (nn x.gle) (nn x.fzle) e2)
 ·rcases split e with r|⟨g1,r⟩
  ·exact aj (x.fro i d r) λa e1 e2=>(aA a (ai p e1) e2)
  ·have C:=bn r;simp only[<-n] at C;have:=(B _ _ _ (VG C) r).1;cases this
 ·refine aj (x.tab t D) λv e1 g=>?_;rcases split e with r|⟨g1,r⟩
  ·exact x.tdis t D i u r l (s r l q).1
  ·simp only[m g1] at q;exact fresh e1 (WX q)
structure FT where
 params:List Vb
 body:List VY
 scope:XO
 cn:List Vb
 trim:Option Va:=UW
noncomputable def jD (names:List (Vb×Wk)):List (Vb×V)->List (Vb×V)->List (Vb×V)
 |[],a=>a
 |(n,v)::r,a=>jD names r (match kd n names with
  |some .local=>put n v a
  |_=>a)
def lm (names:List (Vb×Wk)):List (Vb×V)->List (Vb×V)->List (Vb×V)
 |[],a=>a
 |(n,v)::r,a=>lm names r (match kd n names with
  |some .local=>a
  |_=>put n v a)
noncomputable def gR (n:Nat):List Vb->List (Vb×Nat)
 |[]=>[]
 |x::r=>(x,n)::gR (n+1) r
def kE (T:FT) (binds:List (Vb×V)):M Nat:=λS=>UV (S.H.length,⟨S.H++(.frame (jD T.scope.names binds [])::T.cn.map λn=> .cell (lk n (lm T.scope.names binds []))),S.orc⟩,[])
def be (T:FT) (clo:List (Vb×Nat)) (glob:List (Vb×GV)) (spS:Ec->Nat->Option (VY×M Fl)) (spE:Ec->Nat->Option (Vs×M V)) (L:Nat):Ec:=
 let C:Ec:={names:=T.scope.names,cells:=clo++gR (L+1) T.cn,fid:=L,glob:=glob,trim:=T.trim}
 {C with spS:=spS C,spE:=spE C}
def aR (T:FT) (glob:List (Vb×GV)) (spS:Ec->Nat->Option (VY×M Fl)) (spE:Ec->Nat->Option (Vs×M V)) (G:Ec->bP) (clo:List (Vb×Nat)) (vs:List V):M V:=
 match VA vs.length T.params.length with
 |true=>bnd (kE T (T.params.zip vs)) λL=>bnd ((G (be T clo glob spS spE L)).exs T.body) λf=>match f with
  | .ret v=>ret v
  | .next=>ret .none
  |_=>fail
 |false=>fail
theorem nG (d:Z.scope.names=names) {ps:List Vb} (acc:List (Vb×V)) (m:Vb->Option U2) (a:av fz U vs xs) (h:∀y,d6 fz U (lk y acc) (m y)) (y):
  d6 fz U (lk y (jD names (ps.zip vs) acc)) (bindL Z.kindOf (ps.zip xs) m y):=by
 induction ps generalizing vs xs acc m with
 |nil=>exact h y
 |cons p ps e=>
  induction vs with
  |nil=>exact ac a.i0 (h y)
  |cons v vs=>
  refine a.ec λx xs a b=>(?_:d6 fz U (lk y (jD names (ps.zip vs) _)) (bindL Z.kindOf (ps.zip xs) _ y))
  refine e _ _ b λy=>(((by rw[fK,<-d];rfl:Z.kindOf p=kd p names)).symm▸ ?_)
  induction f:kd p names with
  |none=>exact h y
  |some k=>
   induction k with
   |«local»=>
    dsimp only;rw[uN,if_pos rfl];by_cases c:y=p
    ·refine ac (if_pos c) ?_;refine ac (if_pos c) ?_;exact a
    ·refine ac (if_neg c) ?_;refine ac (if_neg c) ?_;exact h y
   |_=>exact h y
theorem Jv (e:Z.scope.names=names) {ps:List Vb} (acc:List (Vb×V)) (m:Vb->Option U2) (a:av fz U vs xs) (h:∀y,d6 fz U (lk y acc) (m y)) (y):
  d6 fz U (lk y (lm names (ps.zip vs) acc)) (bindC Z.kindOf (ps.zip xs) m y):=by
 induction ps generalizing vs xs acc m with
 |nil=>exact h y
 |cons p ps f=>
  induction vs with
  |nil=>exact ac a.i0 (h y)
  |cons v vs=>
  refine a.ec λx xs a b=>(?_:d6 fz U (lk y (lm names (ps.zip vs) _)) (bindC Z.kindOf (ps.zip xs) _ y))
  refine f _ _ b λy=>?_;refine((by rw[fK,<-e];rfl:Z.kindOf p=kd p names)).symm▸ ?_;have c:d6 fz U (lk y (put p v acc)) (if y=p then UV x else m y):=by
   rw[uN];by_cases d:y=p
   ·refine ac (if_pos d) ?_;refine ac (if_pos d) ?_;exact a
   ·refine ac (if_neg d) ?_;refine ac (if_neg d) ?_;exact h y
  induction g:kd p names with
  |none=>exact c
  |some k=>
   induction k with
   |«local»=>exact h y
   |_=>exact c
theorem B4 {l:List Vb} {n:Nat} {x:Vb}:cT x (gR n l)=UV i->∃j,i=n+j/\l[j]?=UV x:=by
 induction l generalizing n with
 |nil=>exact λh=>nomatch h
 |cons y r b=>
  refine(?_:(match sq x y with|true=>UV n|false=>cT x (gR (n+1) r))=UV i->_);by_cases a:x=y
  ·exact ac (bS.mpr a) λh=>aA 0 (U0 h).symm (congrArg UV a.symm)
  ·exact ac (cg.mpr a) λh=>aj (b h) λj c d=>aA (j+1) (c.trans (VU n 1 j)) d
noncomputable def mA:List (Vb×Wk)->List Vb
 |[]=>[]
 |(n,k)::r=>match k with
  | .cell=>n::mA r
  |_=>mA r
theorem i8 {n:Nat} {acc:List (Vb×U6)}:(∀{j:Nat} {x:Vb},(mA names)[j]?=UV x->(x,n+j)∈XE n names acc)/\(∀y∈acc,y∈XE n names acc):=by
 induction names generalizing n acc with
 |nil=>exact⟨λh=>(nomatch h),λa h=>h⟩
 |cons p r b=>
  obtain⟨nm,k⟩:=p;by_cases c:k= .cell
  ·refine ac c ?_;have b:=@b (n+1) ((nm,n)::acc);have e:XE n ((nm,abH)::r) acc=XE (n+1) r ((nm,n)::acc):=rfl;refine(e).symm▸⟨λ{j x} h=>?_,λy f=>b.2 y (.tail _ f)⟩;induction j with
   |zero=>have:nm=x:=U0 h;subst this;exact b.2 _ (.head _)
   |succ j=>have:=b.1 (j:=j) (x:=x) h;rwa[show n+1+j=n+(j+1) by exact VU _ _ _] at this
  ·have d:(k==abH)=UY:=by simpa using c
   have e:XE n ((nm,k)::r) acc=XE n r acc:=by refine(?_:(if(k==abH)=UX then XE (n+1) r ((nm,n)::acc) else XE n r acc)=_);exact ac d (ac (if_neg VT) rfl)
   have g:mA ((nm,k)::r)=mA r:=by
    induction k with
    |cell=>exact absurd rfl c
    |_=>rfl
   refine ac e (ac g ?_);exact b
def bv (KK:List (U6×Xg)) (h:Vc):Prop:=∀p∈KK,h.get? p.1=UV p.2
structure bz (KK:List (U6×Xg)) (f:U6) (fd:Vv) (T:FT):Prop where
 obj:∃fo,(f,fo)∈KK/\fo.data= .func fd
 body:fd.body= .stmts T.body
 scope:fd.scope=T.scope
 clo:fd.closure=[]
 code:∀h,bv KK h->h.CodeRec fd.code fd.qualname
 bind:∀(s:U7) (xs:List U2),bv KK s.heap->xs.length=T.params.length->Yd s fd ⟨xs,[]⟩ (T.params.zip xs)
 cn:mA T.scope.names=T.cn
 nd:((XE 0 T.scope.names []).map (·.1)).Nodup
 kinds:∀x∈T.params,T.scope.names.lookup x=UV .local∨(T.scope.names.lookup x=UV .cell/\x∈T.cn)
 co:T.scope.isCoroutine=UY
 gen:T.scope.isGenerator=UY
 kind:T.scope.kind= .function
def eC (KK:List (U6×Xg)) (glob:List (Vb×GV)):Prop:=∀x v,ms x glob=UV v->∀h:Vc,bv KK h->∃mg,h.Ns mainGlobals mg/\(mg x=UV v.val∨(mg x=UW/\∃a,h.Ns builtinsNs a/\a x=UV v.val))
structure aP (n:Nat) (A:Vk):Prop where
 depth:A.depth+n < Wt
 units:A.units+10*n+100 < cLine
 handled:A.handled=UW
theorem aP.deeper {n:Nat} (x:aP (n+1) A) (Z:Yi):aP n (A.deeper Z):=
 ⟨by show A.depth+1+n < _;have:=x.depth;lia,by show A.units+3+10*n+100 < _;have:=x.units;lia,x.handled⟩
def eS (c:Cx) (A:Vk) (fz:Vc) (U:List U6) (m:M V) (code:Code):Prop:=
 ∀S v S' p,m S=UV (v,S',p)->ao p->∀fz' ρ' s (R:ZU->U7->Prop),Le fz fz'->U <+:ρ'->SR c fz' ρ' S.H s->dc c fz' ρ' S'.H au v (λx a=>R (.ok (.ret x)) a)->Xz (Vg c.prog c.w) A code R s
structure f9 (Z:Yi) (fd:Vv) (f:U6):Prop where
 glob:Z.globals=fd.globals
 bu:Z.builtins=fd.builtins
 code:Z.code=fd.code
 qual:Z.qual=fd.qualname++".<locals>."
set_option backward.match.sparseCases true in
theorem ml {R:ZU->U7->Prop} {o:Xg} {d:List U2} {binds:List (Vb×U2)}
  (g:A.depth < Wt) (z:s.heap.get? a=UV o) (i:o.data= .func fd) (n:s.heap.NoLimit) (t:s.heap.CodeRec fd.code fd.qualname)
  (j:fd.body= .stmts body) (k:Yd s fd ⟨d,[]⟩ binds) (p:fd.closure=[])
  (l:∀x∈binds,fd.scope.names.lookup x.1=UV .local∨(fd.scope.names.lookup x.1=UV .cell/\((XE (s.heap.objs.size+1) fd.scope.names []).lookup x.1).isSome=UX)) (u:1<=s.toks)
  (h:∀c,InCallC s (ZV fd s.heap.objs.size a).locals (bindL (ZV fd s.heap.objs.size a).kindOf binds λb=>UW) (ZV fd s.heap.objs.size a).cells
    (bindC (ZV fd s.heap.objs.size a).kindOf binds λb=>UW) c->1<=c.toks->
   Vf (Vg J w) (A.deeper (ZV fd s.heap.objs.size a)) (aaf body (ZV fd s.heap.objs.size a)) (λf s'=>R (.ok (.ret (match f with| .ret v=>v|_=> .none))) s')
    (λe s'=>Vf (Vg J w) (A.deeper (ZV fd s.heap.objs.size a)) (leaving (ZV fd s.heap.objs.size a) e) (λb m=>R (.error e) m) (λe' m=>R (.error e') m) s') c)
  (y:fd.scope.isCoroutine=UY) (q:fd.scope.isGenerator=UY) (B:fd.scope.kind= .function):
  Xz (Vg J w) A (.call (.ref a) ⟨d,[]⟩) R s:=by
 refine codeAny_call_function g z i y q j t ((p).symm▸ ?_)
 refine k _ _ _ _ (ZF u (acK B l λZ C s' x r=>?_))
 subst C
 exact⟨n.keeps x.toInCall.keep,codeAny_func (h s' x r)⟩
theorem o9 {T:FT} 
  (F:bz c.KK f fd T) (a5:fd.globals=mainGlobals) (a6:fd.builtins=builtinsNs) (M:eC c.KK glob) (Y:∀h,bv c.KK h->h.NoLimit) (hA:A.depth < Wt) (htr:∀P,T.trim=UV P->P=c.w.params)
  (hG:∀C Z,bG c (A.deeper Z) C Z (G C))
  (a7:∀L Z fz' ρ',Le fz fz'->U <+:ρ'->f9 Z fd f->aI c (be T [] glob spS spE L) Z ρ'->eh c (A.deeper Z) (be T [] glob spS spE L) Z fz' ρ')
  (hx:av fz U vs xs) (N:∀s:U7,bv c.KK s.heap->xs.length=T.params.length->Yd s fd ⟨ys,[]⟩ (T.params.zip xs)):eS c A fz U (aR T glob spS spE G [] vs) (.call (.ref f) ⟨ys,[]⟩):=by
 intro S v S' p e
 refine OK.use e λK hK=>?_
 clear e
 unfold aR
 induction a0:VA vs.length T.params.length with
 |false=>exact Vd
 |true=>
 refine OK.bnd λL S1 p1 e1=>OK.bnd λfl S2 p2 e2=>OK.got λv S' p3 g2=>hK _ _ _ λhp fz' ρ' s R k q D y=>?_
 clear hK
 refine b9 (db e1) λg z B=>?_
 subst g
 subst z
 subst B
 refine aN (af.mp (af.mp hp).2) λa8 ag=>?_
 clear e1 hp
 refine aj F.obj λfo a9 aa=>?_
 have I:bv c.KK s.heap:=λp hp=>D.hr.fzle _ _ (D.hr.wd p hp)
 have O:∀(m:Nat) (x:Vb),x∈T.cn->∃j,T.cn[j]?=UV x/\(XE m T.scope.names []).lookup x=UV (m+j):=λm x hx=>by refine bI (List.mem_iff_getElem?.mp hx) λj J=>(aA j J (abi (act T.scope.names 0 m [] [] rfl▸F.nd) (i8.1 (F.cn▸J))))
 refine ml (binds:=T.params.zip xs) hA (I _ a9) aa (Y _ I) (F.code _ I) F.body (N s I (by exact ac hx.length (ac (VI a0) rfl):xs.length=T.params.length)) F.clo (λy hy=>?_) D.tk (λad ic ah=>?_) (F.scope▸F.co) (F.scope▸F.gen) (F.scope▸F.kind)
 ·refine(F.scope).symm▸ ?_;rcases F.kinds y.1 ((λy hy=>(aaj hy).1:∀y∈T.params.zip xs,y.1∈T.params) y hy) with h|⟨h,h'⟩
  ·exact .inl h
  ·exact aj (O (s.heap.objs.size+1) y.1 h') λj d J=>(.inr ⟨h,(J).symm▸rfl⟩)
 ·generalize l:ZV fd s.heap.objs.size f=Z at*;have hL:Z.locals=s.heap.objs.size:=(l)▸rfl;have hC:Z.cells=XE (s.heap.objs.size+1) T.scope.names []:=aD l (aD F.scope rfl);have t:Z.scope=T.scope:=aD l (aD F.scope rfl);have a1:=hx.mono k q;have r:Z.scope.names=T.scope.names:=by rw[t]
  refine aG ic.done λae tk g Q=>?_;subst g;have a2:=D.hr.exts (k:=Q) (s.heap.objs.size::(V9 T.cn.length).map (s.heap.objs.size+1+·)) (.frame (jD T.scope.names (T.params.zip vs) [])::T.cn.map λn=> .cell (lk n (lm T.scope.names (T.params.zip vs) [])))
   (by simp) (by
    rw[List.nodup_cons];refine⟨λhm=>?_,?_⟩
    ·exact aj (List.mem_map.mp hm) λj d J=>(YN (Vq (Z8 _) (Vm _ _)) J)
    ·exact ab2 _ (λa b ab e=>ab (Nat.add_left_cancel e)) List.nodup_range)
   (λa W=>by
    rcases List.mem_cons.mp W with rfl|hm
    ·exact Vr _
    ·refine aj (List.mem_map.mp hm) λj d g=>?_;subst g;exact U1 (WG _) (Vm _ _))
   (λi a o W X=>by
    induction i with
    |zero=>obtain rfl:=U0 W;obtain rfl:=U0 X;refine jg ic.toInCall.ns λob es ep d1 d2 d3 d4=>?_;rw[hL] at d1;refine⟨rfl,ob,d1,_,(cY es ep d2 d3 d4),λy=>?_⟩;exact(nG r [] (λd=>UW) a1 (λd=>trivial) y).mono (Le.refl _) (Vn _ _)
    |succ i=>
     rw[acu,YH] at W X;induction hi:T.cn[i]? with
     |none=>rw[hi] at X;exact nn X
     |some n=>
      rw[hi] at X;obtain rfl:=U0 X;rw[aaR (bn hi)] at W;obtain rfl:=U0 W;have V:Z.cells.lookup n=UV (s.heap.objs.size+1+i):=by exact(hC).symm▸(abi (act T.scope.names 0 (s.heap.objs.size+1) [] [] rfl▸F.nd) (i8.1 (F.cn▸hi)))
      refine aj (ic.cell n _ V) λob d1 d2=>⟨rfl,ob,d1,_,d2,?_⟩
      exact(Jv r [] (λd=>UW) a1 (λd=>trivial) n).mono (Le.refl _) (Vn _ _))
  have pp:ρ' <+:ρ'++(s.heap.objs.size::(V9 T.cn.length).map (s.heap.objs.size+1+·)):=Vn _ _;have eo:aI c (be T [] glob spS spE S.H.length) Z (ρ'++(s.heap.objs.size::(V9 T.cn.length).map (s.heap.objs.size+1+·))):=
   {kind:=(t).symm▸F.kind
    names:=r
    glob:=λx v hv h hk=>by have e2:Z.builtins=builtinsNs:=(l)▸a6;refine ac ((l)▸a5:Z.globals=mainGlobals) (ac e2 ?_);exact M x v hv h hk
    loc:=by refine(hL).symm▸ ?_;show(_++_)[S.H.length]?=_;refine ac (VS ((D.hr.len).symm▸(Vr _))) ?_;rw[D.hr.len,WU];rfl
    cells:=λx n hn=>by
     refine aj (B4 hn) λj g J=>?_;subst g;refine(aA (s.heap.objs.size+1+j) ?_ ?_)
     ·exact(hC).symm▸(abi (act T.scope.names 0 (s.heap.objs.size+1) [] [] rfl▸F.nd) (i8.1 (F.cn▸J)))
     ·refine ac (VS ((D.hr.len).symm▸(U1 (WG _) (Vm _ _)))) (ac D.hr.len (ac (show S.H.length+1+j - S.H.length=j+1 by exact ac (Yv _ _ _) ((W4 ..).trans (Wi ..))) (ac (acu) (ac (YH) (ac (aaR (bn J)) ?_)))));rfl
    trim:=htr}
  have G1:bM c (A.deeper Z) (be T [] glob spS spE S.H.length) Z fz' (ρ'++(s.heap.objs.size::(V9 T.cn.length).map (s.heap.objs.size+1+·))):=
   ⟨eo,a7 _ _ _ _ k (q.trans pp) ((l)▸⟨rfl,rfl,rfl,rfl⟩) eo⟩
  refine VF (E:=bE) ((hG _ Z).exs fz' _ G1 T.body _ fl S2 p2 e2 a8 fz' _ _ _ (Le.refl _) (U4 _) (D.to a2 (.inr ‹_›)) λf2 r2 s2 w k2 a3 a4 hw=>?_) (λd d h=>h) λd d h=>h.elim;clear a2 e2 eo G1 ic;induction fl with
  |next=>
   cases w<;>first|exact hw.elim|skip
   refine b9 (db g2) λg z B=>?_;subst g;subst z;subst B;exact y f2 r2 s2 .none k2 (pp.trans a3) a4 .none
  |ret u=>
   cases w<;>first|exact hw.elim|skip
   refine b9 (db g2) λg z B=>?_;subst g;subst z;subst B;exact y f2 r2 s2 _ k2 (pp.trans a3) a4 hw
  |_=>exact nn g2
theorem ym {T:FT} 
  (F:bz c.KK f fd T) (d:fd.globals=mainGlobals) (e:fd.builtins=builtinsNs) (a:eC c.KK glob) (b:∀h,bv c.KK h->h.NoLimit) (i:A.depth < Wt) (htr:∀P,T.trim=UV P->P=c.w.params)
  (j:∀C Z,bG c (A.deeper Z) C Z (G C))
  (g:∀L Z fz' ρ',Le fz fz'->U <+:ρ'->f9 Z fd f->aI c (be T [] glob spS spE L) Z ρ'->eh c (A.deeper Z) (be T [] glob spS spE L) Z fz' ρ')
  (k:av fz U vs xs):eS c A fz U (aR T glob spS spE G [] vs) (.call (.ref f) ⟨xs,[]⟩):=
 o9 F d e a b i htr j g k λs h=>F.bind s xs h
def nH (K:List (U6×Xg)) (fd:Vv) (T:FT) (defs:List U2):Prop:=∀(s:U7) (xs:List U2),bv K s.heap->(xs++defs).length=T.params.length->Yd s fd ⟨xs,[]⟩ (T.params.zip (xs++defs))
theorem vg:∀(l:List U2),av g U (l.map toV) l
 |[]=> .nil
 |v::r=> .cons (yi v) (vg r)
end
end
variable {T:FT}
section
section
section
theorem eN {t:Xh U2} (h:Vf Mo A t Q E s):Vf Mo A (t >>= λr=>WB [r] point >>= λa=>pure r) Q E s:=
 UZ (VF h (λr b c=>UZ (Vo (wpAny_point (U3 c)))) λa a x=>x)
theorem LJ {m:M V} (hf:∀fz' ρ' H s,Le fz fz'->U <+:ρ'->SR c fz' ρ' H s->∃o fd,s.heap.get? f=UV o/\o.data= .func fd) (h:eS c A fz U m (.call (.ref f) ⟨xs,[]⟩)):
  ae c A fz U m (ci k (.ref f) xs) au:=by
 intro S v g p e i fz' ρ' s Q a q b y
 refine aG (hf fz' ρ' S.H s a q b) λo fd j l=>?_
 have d:Vf (Vg c.prog c.w) A (call (.ref f) xs []) Q bE s:=Xq (h S v g p e i fz' ρ' s _ a q b y)
 unfold ci ZT
 refine UZ (UZ (Zo j ?_))
 refine(l).symm▸(U3 ?_)
 dsimp only
 split
 ·exact eN d
 ·exact eN (by dsimp only[aby];exact wpAny_keep d)
theorem dL {m:M V} {id:String} (h:ae c A fz U m (call (.builtin id) xs []) au):ae c A fz U m (ci k (.builtin id) xs) au:=by intro S v b p e d a ρ' s Q f q g y;unfold ci ZT;refine UZ (U3 ?_);dsimp only;exact eN (h S v b p e d a ρ' s Q f q g y)
theorem mB {m:M V} {id:String} (h:ae c A fz U m (call (.type id) xs []) au):ae c A fz U m (ci k (.type id) xs) au:=by intro S v b p e d a ρ' s Q f q g y;unfold ci ZT;refine UZ (U3 ?_);dsimp only;exact eN (h S v b p e d a ρ' s Q f q g y)
noncomputable def eE (t:oG):FT:={params:=t.params.args.map (·.arg),body:=t.body,scope:=t.scope,cn:=[]}
structure az (t:oG):Prop where
 bind:∀fd:Vv,fd.params=t.params->fd.defaults= .none->fd.kwdefaults= .none->∀xs:List U2,xs.length=(eE t).params.length->bindArgs fd ⟨xs,[]⟩=pure ((eE t).params.zip xs)
 nc:∀x∈t.scope.names,x.2≠ .cell
 kinds:∀x∈(eE t).params,t.scope.names.lookup x=UV .local
 co:t.scope.isCoroutine=UY
 gen:t.scope.isGenerator=UY
 kind:t.scope.kind= .function
theorem s0 {k:Vb->Option Wk} {b:List (Vb×U2)} (m:Vb->Option U2) (h:∀x∈b,k x.1=UV .local) (y):bindL k b m y=(b.reverse.lookup y).or (m y):=by
 induction b generalizing m with
 |nil=>rfl
 |cons p r c=>
  obtain⟨n,v⟩:=p;refine(?_:(bindL k r (if k n=UV .local then _ else m) y)=_);refine ac (if_pos (h (n,v) (.head _))) (ac (c _ (λx d=>h x (.tail _ d))) (ac List.reverse_cons (ac List.lookup_append (ac Option.or_assoc (congrArg _ ?_)))));refine ac Xc ?_;by_cases a:y=n
  ·exact ac (if_pos a) (ac (beq_iff_eq.mpr a) rfl)
  ·exact ac (if_neg a) (ac (beq_eq_false_iff_ne.mpr a) rfl)
theorem nI {x:Vb} {n:Nat} {l:List (Vb×Nat)}:cT x l=UV n->(x,n)∈l:=by
 induction l with
 |nil=>exact λh=>nomatch h
 |cons p r b=>
  refine(?_:(match sq x p.1 with|true=>UV p.2|false=>cT x r)=UV n->_);by_cases a:x=p.1
  ·exact ac (bS.mpr a) λh=>ac a (U0 h▸ .head _)
  ·exact ac (cg.mpr a) λh=> .tail _ (b h)
def Ex (glob:List (Vb×GV)) (G:Ec->bP) (n:Nat) (vs:List V):M V:=λS=>match S.H[n]? with
 |some (.fn t cl)=>bnd (need (az t)) (λa=>aR (eE t) glob (λa=>bk) (λa=>br) G cl vs) S
 |_=>UW
set_option backward.match.sparseCases true in
theorem Jw {n:Nat} 
  (M:eC c.KK glob) (V:∀h,bv c.KK h->h.NoLimit) (hA:A.depth < Wt) (hG:∀C Z,bG c (A.deeper Z) C Z (G C))
  (hf:U[n]?=UV f) (hx:av fz U vs xs):ae c A fz U (Ex glob G n vs) (ci k (.ref f) xs) au:=by
 refine ae.run λS K hK=>?_
 unfold Ex
 induction hn:S.H[n]? with
 |none=>exact Vd
 |some ob=>induction ob with
 |fn t cl=>
  dsimp only;refine OK.need ?_;unfold aR;induction W:VA vs.length (eE t).params.length with
  |false=>exact Vd
  |true=>
  refine OK.bnd λL S1 p1 R=>OK.bnd λfl S2 p2 T=>OK.got λv S' p3 g2=>hK _ _ _ λX N ρ' s Q kk q O y=>?_;clear hK;refine b9 (db R) λz B D=>?_;subst z;subst B;subst D;have F:az t:=X.1;refine aN (af.mp (af.mp X.2).2) λa4 ab=>?_;clear R X;refine ca (O.hr.at hn rfl (ai q hf)) λob ho a9 θ=>(aj θ λfd hd m=>?_)
  have Y:Xz (Vg c.prog c.w) A (.call (.ref f) ⟨xs,[]⟩) (λr s'=>match r with| .ok (.ret v)=>Q v s'| .ok _=>False| .error e=>bE e s') s:=by
   have a5:xs.length=(eE t).params.length:=ac hx.length (ac (VI W) rfl);have I:∀y∈(eE t).params.zip xs,y.1∈(eE t).params:=λy hy=>(aaj hy).1;refine codeAny_call_def (binds:=(eE t).params.zip xs) hA ho hd (V _ (λp X=>O.hr.fzle _ _ (O.hr.wd p X):bv c.KK s.heap)) (ac m.qual (m.code.keeps O.hr.fzle)) m.body (BindsTo.of_eq (F.bind fd m.params m.d1 m.d2 xs a5)) (ac m.scope F.nc)
    (λy hy=>(m.scope).symm▸(F.kinds y.1 (I y hy))) (λaa a0 P=>?_) (ac m.scope F.co) (ac m.scope F.gen) (ac m.scope F.kind)
   generalize l:callEnv fd s.heap.objs.size f=Z at*;have g:Z.scope=t.scope:=aD l (aD m.scope rfl);have a6:=hx.mono kk q;have j:Z.scope.names=(eE t).scope.names:=(g).symm▸rfl;have J:∀x∈(eE t).params.zip xs,Z.kindOf x.1=UV .local:=λx a7=>by refine(?_:Z.scope.names.lookup x.1=_);refine(g).symm▸ ?_;exact F.kinds _ (I x a7)
   have a1:=O.hr.exts (k:=P) [s.heap.objs.size] [.frame (jD (eE t).scope.names ((eE t).params.zip vs) [])] rfl (by simp) (λa ha=>by
     rw[ZE] at ha;refine(ha).symm▸ ?_;exact Vr _) (λi a o ha ho=>by
     induction i with
     |zero=>
      obtain rfl:=U0 ha;obtain rfl:=U0 ho;refine jg a0 λob es ep d1 d2 d3 d4=>⟨rfl,ob,d1,_,(cY es ep d2 d3 d4),λy=>?_⟩
      have:=(nG j [] (λd=>UW) a6 (λd=>trivial) y (ps:=(eE t).params)).mono (Le.refl _) (Vn ρ' [s.heap.objs.size]);rw[s0 _ J,Option.or_none] at this;exact this
     |succ i=>exact nn ha)
   have pp:ρ' <+:ρ'++[s.heap.objs.size]:=Vn _ _;have eo:aI c (be (eE t) cl glob (λd=>bk) (λd=>br) S.H.length) Z (ρ'++[s.heap.objs.size]):=
    {kind:=(g).symm▸F.kind
     names:=j
     glob:=λx v hv h hk=>by have R:Z.globals=mainGlobals:=(l)▸m.glob;have T:Z.builtins=builtinsNs:=(l)▸m.bu;refine ac R (ac T ?_);exact M x v hv h hk
     loc:=ac (((l)▸rfl:Z.locals=s.heap.objs.size)) (bj O.hr.len.symm)
     cells:=λx n hn=>by
      have hm:(x,n)∈cl:=by exact VW cl▸nI hn
      exact aj (m.clo x n hm) λb R T=>(aA b (ac (((l)▸rfl:Z.cells=fd.closure)) R) (ai pp T))
     trim:=λd h=>(nomatch h)}
   have G1:bM c (A.deeper Z) (be (eE t) cl glob (λd=>bk) (λd=>br) S.H.length) Z N (ρ'++[s.heap.objs.size]):=⟨eo,{s:=λd d d h=>(nomatch h),e:=λd d d h=>(nomatch h)}⟩
   have a8:(eE t).body=t.body:=rfl;refine VF (E:=bE) ((hG _ Z).exs N _ G1 t.body _ fl S2 p2 T a4 N _ _ _ (Le.refl _) (U4 _) (O.ta a1) λf2 r2 s2 w k2 a2 a3 hw=>?_) (λd d h=>h) λd d h=>h.elim;clear a1 T a0 eo G1 j J;induction fl with
   |next=>
    cases w<;>first|exact hw.elim|skip
    refine b9 (db g2) λz B D=>?_;subst z;subst B;subst D;exact y f2 r2 s2 .none k2 (pp.trans a2) a3 .none
   |ret u=>
    cases w<;>first|exact hw.elim|skip
    refine b9 (db g2) λz B D=>?_;subst z;subst B;subst D;exact y f2 r2 s2 _ k2 (pp.trans a2) a3 hw
   |_=>exact nn g2
  have hc:Vf (Vg c.prog c.w) A (call (.ref f) xs []) Q bE s:=Xq Y;unfold ci ZT;refine UZ (UZ (Zo ho ?_));refine(hd).symm▸(U3 ?_);dsimp only;split
  ·exact eN hc
  ·exact eN (by dsimp only[aby];exact wpAny_keep hc)
 |_=>exact Vd
end
end
section
noncomputable def HO:V->Bool
 | .ref _=>UY
 |_=>UX
noncomputable def mC:List V->Bool
 |[]=>UX
 |v::r=>HO v&&mC r
def tV:O->Bool
 | .list xs=>mC xs
 | .tup xs=>mC xs
 | .ints _=>UX
 | .strs _=>UX
 | .dats _=>UX
 |_=>UY
noncomputable def dp:List O->Bool
 |[]=>UX
 |o::r=>tV o&&dp r
theorem Ey {x:U2} (f:HO v=UX) (h:VR g U v x):VR g ρ' v x:=by
 induction h with
 |none=>exact .none
 |bool=>exact .bool _
 |int=>exact .int _ _
 |str=>exact .str _ _
 |ref=>cases f
 |con=>exact .con _
 |dat h=>exact .dat h
 |fk=>exact .fk _
theorem s8 {v:List V}:∀{x:List U2},mC v=UX->av g U v x->av g ρ' v x:=by
 induction v with
 |nil=>intro x _ h;refine ac h.i0 ?_;exact .nil
 |cons u r c=>intro x f h;refine h.ec λy w a b=>?_;dsimp only[mC] at f;simp only[VO] at f;exact .cons (Ey f.1 a) (c f.2 b)
theorem pc (f:tV o=UX) (h:OR P g U o a ob):OR P g ρ' o a ob:=by
 induction o with
 |«list» b=>obtain⟨vs,n,e,r⟩:=h;exact⟨vs,n,e,s8 f r⟩
 |«tup» b=>obtain⟨vs,n,e,r⟩:=h;exact⟨vs,n,e,s8 f r⟩
 |«ints»=>exact h
 |«strs»=>exact h
 |«dats»=>exact h
 |_=>cases f
theorem qo (f:tV o=UX):o.live=UX:=by cases o<;>first|rfl|cases f
theorem du:∀{l:List O},dp l=UX->∀{i:Nat} {o:O},l[i]?=UV o->tV o=UX
 |[],_,_,_,h=>by simp at h
 |x::r,f,i,o,h=>by
  dsimp only[dp] at f;simp only[VO] at f;induction i with
  |zero=>obtain rfl:=U0 h;exact f.1
  |succ i=>exact du f.2 (i:=i) (o:=o) h
noncomputable def iP:List O->List Nat->List O->List O
 |H,n::σ,o::os=>iP (H.set n o) σ os
 |H,_,_=>H
noncomputable def iQ (H:List O):List Nat->Option (List O)
 |[]=>UV []
 |n::σ=>match H[n]?,iQ H σ with
  |some o,UV os=>UV (o::os)
  |_,_=>UW
noncomputable def Ez (n:Nat):List Nat->Bool
 |[]=>UY
 |m::r=>VA n m||Ez n r
noncomputable def qp:List Nat->Bool
 |[]=>UX
 |n::r=> !Ez n r&&qp r
theorem EA {n:Nat} {l:List Nat}:Ez n l=UX↔n∈l:=by
 induction l with
 |nil=>exact⟨λh=>(nomatch h),λh=>(nomatch h)⟩
 |cons m r a=>exact Bool.or_eq_true_iff.trans ((or_congr (iff_of_eq Nat.beq_eq) a).trans List.mem_cons.symm)
theorem zP {l:List Nat} (h:qp l=UX):l.Nodup:=by
 induction l with
 |nil=>exact List.nodup_nil
 |cons n r c=>exact aN (Bool.and_eq_true_iff.mp h) λa b=>List.nodup_cons.mpr ⟨λd=>VT ((congrArg not (EA.mpr d)).symm.trans a),c b⟩
theorem ln (H os:List O):iP H [] os=H:=by cases os<;>rfl
theorem tH (H:List O) (σ:List Nat) (os:List O):(iP H σ os).length=H.length:=by
 induction σ generalizing H os with
 |nil=>exact congrArg _ (ln H os)
 |cons n σ a=>induction os with
  |nil=>rfl
  |cons o os=>exact(a (H.set n o) os).trans List.length_set
theorem vh (H:List O) (σ:List Nat) (os:List O) (i:Nat) (h:i∉σ):(iP H σ os)[i]?=H[i]?:=by
 induction σ generalizing H os with
 |nil=>exact ac (ln H os) rfl
 |cons n σ a=>induction os with
  |nil=>rfl
  |cons o os=>exact(a (H.set n o) os (λb=>h (.tail _ b))).trans (aaC (λq:n=i=>h (q▸ .head _)))
theorem lq {os:List O} (hl:σ.length=os.length) (nd:σ.Nodup) (c:∀n∈σ,n < H.length) (h:(iP H σ os)[i]?=UV o):(i∉σ/\H[i]?=UV o)∨∃k:Nat,σ[k]?=UV i/\os[k]?=UV o:=by
 induction σ generalizing H os with
 |nil=>exact .inl ⟨λh=>(nomatch h),aD (ln H os) h⟩
 |cons n σ d=>induction os with
  |nil=>cases hl
  |cons p os=>
   refine aN (List.nodup_cons.mp nd) λe f=>(Y2 (i=n)).elim (λa=>?_) λa=>?_
   ·subst a;exact .inr (aA 0 rfl (((vh (H.set i p) σ os i e).trans (acB (c i (.head _)))).symm.trans h))
   ·refine(d (H:=H.set n p) (XA hl) f (λm b=>ac List.length_set (c m (.tail _ b))) h).elim (λq=> .inl ⟨λb=>(List.mem_cons.mp b).elim a q.1,(aaC (aca a)).symm.trans q.2⟩) λq=>aj q λk g j=> .inr (aA (k+1) g j)
theorem qr {os:List O} (h:iQ H σ=UV os):os.length=σ.length/\∀{k:Nat} {n:Nat},σ[k]?=UV n->∃o,os[k]?=UV o/\H[n]?=UV o:=by
 induction σ generalizing os with
 |nil=>exact U0 h▸⟨rfl,λh=>(nomatch h)⟩
 |cons n σ b=>
  refine(?_:(match H[n]?,iQ H σ with|some o,UV os=>UV (o::os)|_,_=>UW)=UV os->_) h;induction c:H[n]? with
  |none=>exact λh=>nomatch h
  |some o=>
   induction d:iQ H σ with
   |none=>exact λh=>nomatch h
   |some e=>
    refine λh=>U0 h▸aN (b d) λl f=>⟨congrArg Z7 l,λ{k m} a=>?_⟩
    induction k with
    |zero=>exact aA o rfl (U0 a▸c)
    |succ k=>exact f (k:=k) (n:=m) a
inductive AD (U:List U6):List Nat->List U6->Prop
 |nil:AD U [] []
 |cons {n a σ as}:U[n]?=UV a->AD U σ as->AD U (n::σ) (a::as)
theorem AD.get (x:AD U σ as):as.length=σ.length/\∀{k n:Nat},σ[k]?=UV n->∃a,as[k]?=UV a/\U[n]?=UV a:=by
 induction x with
 |nil=>exact⟨rfl,λh=>nomatch h⟩
 | @cons n a σ as h r c=>
  refine aN c λl f=>⟨congrArg Z7 l,λ{k m} b=>?_⟩
  induction k with
  |zero=>exact aA a rfl (U0 b▸h)
  |succ k=>exact f (k:=k) (n:=m) b
theorem AD.mono (p:U <+:ρ') (x:AD U σ as):AD ρ' σ as:=by
 induction x with
 |nil=>exact .nil
 |cons h r a=>exact .cons (ai p h) a
noncomputable def lr (g h:Vc) (U:List U6) (H:List O) (σ:List Nat):Vc:=
 sub h λa=>(g.get? a).isSome=UX∨∃(i:Nat) (o:O),H[i]?=UV o/\o.live=UX/\U[i]?=UV a/\i∉σ
section
theorem HR.pick (x:HR c fz U H h) (I:AD U σ as) (nd:σ.Nodup) (Q:iQ H σ=UV objs) (hf:dp objs=UX):
  HR {c with g:=lr c.g h U H σ} fz as objs h:=by
 refine aN (I.get) λR S=>(aN (qr Q) λM T=>?_)
 have p:∀{k:Nat} {o:O},objs[k]?=UV o->∃n a,σ[k]?=UV n/\as[k]?=UV a/\U[n]?=UV a/\H[n]?=UV o/\o.live=UX:=λ{k o} e=>by have E:=bn e;rw[M] at E;refine aj (S (k:=k) (VG E)) λa e1 e2=>?_;refine aj (T (k:=k) (VG E)) λr e3 F=>?_;rw[e] at e3;obtain rfl:=U0 e3;exact(l8 _ a (VG E) e1 e2 F (qo (du hf e)))
 have out:∀{k n:Nat} {a:U6} {o:O},σ[k]?=UV n->U[n]?=UV a->H[n]?=UV o->o.live=UX->(lr c.g h U H σ).get? a=UW:=λ{k n a o} e1 e2 e3 F=>by
  refine fC (eX (x.obj n o e3 F) λN z m s A u J=>?_);rw[e2] at m;obtain rfl:=U0 m;rintro(f|⟨i,r,f,B,C,K⟩)
  ·rw[A] at f;cases f
  ·have:=x.inj i n r o a f B e3 F C e2;exact K (ac this (WX e1))
 refine⟨x.fzle,sub_le,x.wd,ac R (ac M rfl),?_,?_,λi d e=>?_,λb o e=>?_,λt G=>?_,λt G i o e l q=>?_⟩
 ·intro i j V W a e1 _ e2 _ m s;refine eX (p e1) λX a1 D v w y L=>(eX (p e2) λY a2 Z P s3 s4 s5=>?_)
  rw[m] at v;obtain rfl:=U0 v;rw[s] at P;obtain rfl:=U0 P;have:=x.inj X Y V W a y L s4 s5 w s3;subst this;exact(List.getElem?_inj (bn D) nd).mp (D.trans Z.symm)
 ·intro i o e l;refine eX (p e) λn a D v w y L=>(eX (x.obj n o y l) λN z m s A u J=>?_)
  rw[w] at m;obtain rfl:=U0 m;exact(l8 a z v s (out D w y l) u (pc (du hf e) J))
 ·have:=du hf e;cases this
 ·obtain⟨e1,f|⟨i,r,f,B,C,K⟩⟩:=qb e
  ·obtain⟨r,f⟩:=Option.isSome_iff_exists.mp f;exact x.dis b r f
  ·refine eX (x.obj i r f B) λN z m s A u J=>?_;obtain rfl:=U0 (C.symm.trans m);exact u
 ·refine fA (x.tab t G) λz m s A u=>(oF z m s (fC ?_) u)
  rintro(f|⟨i,r,f,B,C,K⟩)
  ·rw[A] at f;cases f
  ·exact x.tdis t G i r f B C
 ·refine eX (p e) λn a D v w y L=>?_;rw[v] at q;obtain rfl:=U0 q;exact x.tdis t G n o y l w
theorem HR.back (x:HR c fz U H h) {objs':List O} (E:AD U σ as) (nd:σ.Nodup) (Q:iQ H σ=UV objs) (hf:dp objs=UX)
  (k:Le fz fz') (y:HR {c with g:=lr c.g h U H σ} fz' as objs' h') (B:dp objs'=UX):HR c fz' U (iP H σ objs') h':=by
 refine aN (E.get) λR S=>?_
 obtain⟨l2,N⟩:=qr Q
 have F:σ.length=objs'.length:=by refine aD R ?_;exact y.len
 have G:Le c.g (lr c.g h U H σ):=λb o e=>dZ (x.gle b o e) (.inl (by refine ac e ?_;rfl))
 have r:∀n∈σ,n < H.length:=λn T=>by obtain⟨j,V⟩:=List.mem_iff_getElem?.mp T;exact aj (N V) λo f e=>(bn e)
 have s:∀{i:Nat} {o:O},(iP H σ objs')[i]?=UV o->o.live=UX->∃u,H[i]?=UV u/\u.live=UX:=λ{i o} e l=>by
  rcases lq F nd r e with ⟨_,m⟩|⟨j,v,m⟩
  ·exact(aA o m l)
  ·exact aj (N v) λu e1 e2=>(aA u e2 (qo (du hf e1)))
 refine⟨y.fzle,G.trans y.gle,y.wd,by rw[tH];exact x.len,?_,?_,λi d e=>?_,λb o e=>y.dis b o (G b o e),λt C=>?_,λt C i o e l q=>?_⟩
 ·intro i j o1 o2 a e1 W e2 X p w;refine aj (s e1 W) λI J K=>(aj (s e2 X) λL Y Z=>?_)
  exact x.inj i j I L a J K Y Z p w
 ·intro i o e l;rcases lq F nd r e with ⟨v,m⟩|⟨j,v,m⟩
  ·refine eX (x.obj i o m l) λa z p w A D M=>?_;have P:(lr c.g h U H σ).get? a=UV z:=dZ w (.inr (Hy i o m l p v));exact(l8 a z p (y.gle _ _ P) A (y.dis _ _ P) (M.mono k (U4 _)))
  ·refine eX (y.obj j o m l) λa z p w A D M=>(aj (S v) λa' e1 e2=>?_)
   rw[p] at e1;obtain rfl:=U0 e1;refine(l8 a z e2 w ?_ D (pc (du B m) M));induction e3:c.g.get? a with
   |none=>rfl
   |some u=>rw[G _ _ e3] at A;cases A
 ·rcases lq F nd r e with ⟨v,m⟩|⟨j,v,m⟩
  ·exact aj (x.fro i d m) λa e1 e2=>(aA a e1 (e2.mono k))
  ·have:=du B m;cases this
 ·refine fA (y.tab t C) λz p w f D=>(fA (x.tab t C) λf f f A f=>?_)
  exact(oF z p w A D)
 ·exact aj (s e l) λu J K=>(x.tdis t C i u J K q)
set_option tactic.hygienic true in
theorem HR.forget (x:HR c fz ρ' H h) (p:U <+:ρ') (r:H.take U.length=objs) (hf:dp objs=UX):HR c fz U objs h:=by
 have D:U.length<=H.length:=aD x.len p.length_le;have b:∀{k:Nat} {o:O},objs[k]?=UV o->H[k]?=UV o/\k < U.length:=λ{k o} e=>by
  simp only[<-r,aaZ] at e;split at e
  ·rename_i f;exact⟨e,f⟩
  ·exact nn e
 have g:∀{k:Nat},k < U.length->ρ'[k]?=U[k]?:=λ{k} f=>ai p (VG f)▸(VG f).symm;refine⟨x.fzle,x.gle,x.wd,by refine aD r (ac YS ?_);lia,?_,?_,λi d e=>?_,x.dis,x.tab,λt s i o e l q=>?_⟩
 ·intro i j u v a e1 w e2 y m n;exact x.inj i j u v a (b e1).1 w (b e2).1 y ((g (b e1).2).trans m) ((g (b e2).2).trans n)
 ·intro i o e l;exact eX (x.obj i o (b e).1 l) λa z m n A B C=>(l8 a z ((g (b e).2).symm.trans m) n A B (pc (du hf e) C))
 ·have:=du hf e;cases this
 ·exact x.tdis t s i o (b e).1 l ((g (b e).2).trans q)
end
end
abbrev Sp:=List V->List O->Option (D×List O×List Prop)
structure Wo where
 prog:Vz
 w:V6
 KK:List (U6×Xg)
 TT:List fB
noncomputable def Wo.cx (W:Wo) (g:Vc) (os:d7):Cx:=⟨W.prog,W.w,W.KK,W.TT,g,os⟩
def cI (g:Vc):Prop:=(g.get? sysModules).isSome=UX
def aX (W:Wo) (lev:Nat) (f:U6) (sp:Sp):Prop:=
 ∀g os A fz U s vs xs objs d a ps (R:ZU->U7->Prop),cI g->aP lev A->SR (W.cx g os) fz U objs s->av fz U vs xs->sp vs objs=UV (d,a,ps)->ao ps->
  (∀fz' b x,Le fz fz'->SR (W.cx g os) fz' U a b->DR fz' d x->R (.ok (.ret x)) b)->Xz (Vg W.prog W.w) A (.call (.ref f) ⟨xs,[]⟩) R s
noncomputable def zQ (P:Va):List Bool->List V->Nat->M (List V×List Nat)
 |[],[],_=>ret ([],[])
 |k::ks,v::vs,j=>match k with
  |false=>bnd (cj P 9 v) λd=>bnd (zQ P ks vs j) λr=>ret (eA d::r.1,r.2)
  |true=>match v with
   | .ref n=>bnd (zQ P ks vs (j+1)) λr=>ret (.ref j::r.1,n::r.2)
   |_=>fail
 |_,_,_=>fail
def dY (P:Va) (keep:List Bool) (sp:Sp) (vs:List V):M V:=
 bnd (zQ P keep vs 0) λr=>λS=>match qp r.2,iQ S.H r.2 with
  |true,UV objs=>match dp objs with
   |true=>match sp r.1 objs with
    |some (d,a,ps)=>match dp a with
     |true=>UV (eA d,⟨iP S.H r.2 a,S.orc⟩,ps)
     |false=>UW
    |none=>UW
   |false=>UW
  |_,_=>UW
section
theorem LK (ks:List Bool) (vs:List V) (j:Nat) (fz:Vc) (U:List U6):Gh c fz U (zQ c.w.params ks vs j) (λfz' ρ' r=>∀xs,av fz U vs xs->∃as,AD ρ' r.2 as/\∀pre:List U6,pre.length=j->av fz' (pre++as) r.1 xs):=by
 induction ks generalizing vs j fz U with
 |nil=>induction vs with
  |nil=>exact Gh.ret λe e e e xs h=>h.e0 ⟨[], .nil,λe e=> .nil⟩
  |cons=>exact Gh.fail
 |cons k ks s=>
  induction vs with
  |nil=>exact Gh.fail
  |cons v vs=>
  induction k with
  |false=>refine Gh.bind (qc 9 fz U v) λy z d A B C=>Gh.bind (s vs j y z) λD E r t u l=>Gh.ret λF G g i xs m=>m.ec λx xs a b=>?_;exact aj (l _ (b.mono A B)) λas o p=>(aA as (o.mono i) (λpre f=> .cons (jx (((C _ a).mono t).mono g)) ((p pre f).mono g (U4 _))))
  |true=>
   induction v with
   |ref n=>
    refine Gh.bind (s vs (j+1) fz U) λD E r t u l=>Gh.ret λF G g i xs m=>m.ec λx xs a b=>a.e_ref λq H=>?_;refine aj (l _ b) λas o p=>?_;refine(aA (q::as) (.cons (ai i (ai u H)) (o.mono i)) (λpre f=> .cons (.ref ?_) ?_))
    ·exact ac (VS (Ve f)) (ac f (ac (WU _) rfl))
    ·exact Vi pre [q] as▸(p (pre++[q]) (List.length_append.trans (congrArg (· +1) f))).mono g (U4 _)
   |_=>exact Gh.fail
theorem EB {W:Wo} {sp:Sp} {keep:List Bool} (h:aX W lev f sp) (n:cI g) (hA:aP lev A) (hx:av fz U vs xs):
  eS (W.cx g os) A fz U (dY W.w.params keep sp vs) (.call (.ref f) ⟨xs,[]⟩):=by
 intro S v S' p e hp J ρ' s R k q C y
 refine ez (bA e) λr D p1 p2 e1 b t=>?_
 subst t
 obtain⟨K,L⟩:=af.mp hp
 refine ca (LK (c:=W.cx g os) keep vs 0 fz U S r D p1 e1 K J ρ' s.heap k q C.hr) λf1 k1 M r1=>?_
 refine aj (r1 xs hx) λas E F=>?_
 have F:=F [] rfl
 rw[Zh] at F
 induction N:qp r.2 with
 |false=>rw[N] at b;exact nn b
 |true=>
 rw[N] at b
 induction G:iQ D.H r.2 with
 |none=>rw[G] at b;exact nn b
 |some j=>
 rw[G] at b
 dsimp only at b
 induction I:dp j with
 |false=>rw[I] at b;exact nn b
 |true=>
 rw[I] at b
 dsimp only at b
 induction Q:sp r.1 j with
 |none=>rw[Q] at b;exact nn b
 |some z=>
 obtain⟨d,l,ps⟩:=z
 rw[Q] at b
 dsimp only at b
 induction u:dp l with
 |false=>rw[u] at b;exact nn b
 |true=>
 rw[u] at b
 refine b9 (db b) λt T V=>?_
 subst t
 subst T
 subst V
 have X:=zP N
 have B:cI (lr g s.heap ρ' D.H r.2):=by obtain⟨o,Y⟩:=Option.isSome_iff_exists.mp n;have:=dZ (P:=λa=>(g.get? a).isSome=UX∨∃(i:Nat) (o:O),D.H[i]?=UV o/\o.live=UX/\ρ'[i]?=UV a/\i∉r.2) (M.gle _ _ Y) (.inl (by refine ac Y ?_;rfl));refine(?_:(Option.isSome _)=UX);exact Option.isSome_iff_exists.mpr ⟨_,this⟩
 exact h (lr g s.heap ρ' D.H r.2) os A f1 as s r.1 xs j d l p2 R B hA ⟨M.pick E X G I,C.os,C.bare,(by first|exact C.tk|exact U1 C.tk (Vm _ _)|assumption)⟩ F Q L λf2 s2 x Z m hd=>(y f2 ρ' s2 x (k1.trans Z) (U4 _) ⟨M.back E X G I Z m.hr u,m.os,m.bare,(by first|exact m.tk|exact U1 m.tk (Vm _ _)|assumption)⟩ (jx hd))
theorem Jx {W:Wo} {sp:Sp} {spS:Nat->Ec->Nat->Option (VY×M Fl)} {spE:Nat->Ec->Nat->Option (Vs×M V)} {G:Nat->Ec->bP}
  (F:bz W.KK f fd T) (n:fd.globals=mainGlobals) (o:fd.builtins=builtinsNs) (i:eC W.KK glob) (j:∀h,bv W.KK h->h.NoLimit) (htr:∀P,T.trim=UV P->P=W.w.params) (l:nH W.KK fd T defs)
  (S:∀N g os A C Z,cI g->aP lev A->bG (W.cx g os) A C Z (G N C))
  (p:∀N g os A L Z fz U,cI g->aP lev A->f9 Z fd f->aI (W.cx g os) (be T [] glob (spS N) (spE N) L) Z U->eh (W.cx g os) A (be T [] glob (spS N) (spE N) L) Z fz U)
  (run:∀vs objs d objs' ps,sp vs objs=UV (d,objs',ps)->ao ps->∃N orc S' qs,bnd (aR T glob (spS N) (spE N) (G N) [] (vs++defs.map toV)) (λv=>cj W.w.params 9 v) ⟨objs,orc⟩=UV (d,S',qs)/\ao qs/\S'.H.take objs.length=objs'/\dp objs'=UX):aX W (lev+1) f sp:=by
 intro g os A fz U s vs m objs d objs' ps R a r I X Y t y
 refine yf (run vs objs d objs' ps Y t) λN orc S' qs e hq ht hf=>(ez (bA e) λv J p1 p2 e1 e2 u=>?_)
 subst u
 obtain⟨z,B⟩:=af.mp hq
 have hc:=o9 (c:=W.cx g os) (A:=A) (fz:=fz) (U:=U) (glob:=glob) (spS:=spS N) (spE:=spE N) (G:=G N) (vs:=vs++defs.map toV) (xs:=m++defs) (ys:=m) F n o i j (by have:=r.depth;lia) htr (λC Z=>S N g os _ C Z a (r.deeper Z))
  (λL Z D ρ' k q h1 E=>p N g os _ L Z D ρ' a (r.deeper Z) h1 E) (nF X (vg defs)) (λs h=>l s m h)
 refine hc ⟨objs,orc⟩ v J p1 e1 z fz U s R (Le.refl _) (U4 _) I λK O Q x k1 q1 b hv=>(ca (qc (c:=W.cx g os) 9 K O v J d S' p2 e2 B K O Q.heap (Le.refl _) (U4 _) b.hr) λf2 k2 x2 E=>?_)
 refine y f2 Q x (k1.trans k2) ⟨x2.forget q1 ((I.hr.len).symm▸ht) hf,b.os,b.bare,(by first|exact b.tk|exact U1 b.tk (Vm _ _)|assumption)⟩ (E x hv)
theorem c8 {K:List (U6×Xg)} (F:bz K f fd T):nH K fd T []:=λs a b h=>by rw[VW] at h ⊢;exact F.bind s a b h
end
end
variable {sp:Sp}
section
section
def gS (vs:List V) (k:V->M α):M α:=match vs with
 |[v]=>k v
 |_=>fail
def mD (vs:List V) (k:V->V->M α):M α:=match vs with
 |[v,w]=>k v w
 |_=>fail
def EC (vs:List V) (k:V->V->V->M α):M α:=match vs with
 |[v,w,u]=>k v w u
 |_=>fail
def asI (v:V) (k:Int->M α):M α:=match v with
 | .int i=>k i
 |_=>fail
def asS (v:V) (k:Vb->M α):M α:=match v with
 | .str i=>k i
 |_=>fail
def asR (v:V) (k:Nat->M α):M α:=match v with
 | .ref i=>k i
 |_=>fail
noncomputable def ej (o:O) (p:List Prop):M V:=λS=>UV (.ref S.H.length,⟨S.H++[o],S.orc⟩,p)
noncomputable def getO (f:O->Option β) (i:Nat) (k:β->M α):M α:=λS=>match S.H[i]? with
 |some o=>match f o with
  |some b=>k b S
  |none=>UW
 |none=>UW
def cU (o:Option α) (k:α->M β):M β:=match o with
 |some a=>k a
 |none=>fail
def bX (b:Bool) (m:M α):M α:=match b with
 |true=>m
 |false=>fail
noncomputable def zR (o:Option α) (c:Option β) (f:α->β->Option γ):Option γ:=match o with
 |some a=>match c with
  |some b=>f a b
  |none=>UW
 |none=>UW
theorem mE {o:Option α} {c:Option β} {f:α->β->Option γ} {r:γ} (h:zR o c f=UV r):∃a b,o=UV a/\c=UV b/\f a b=UV r:=by
 induction o with
 |none=>exact nn h
 |some a=>induction c with
  |none=>exact nn h
  |some b=>exact(cY a b rfl rfl h)
theorem rJ {o a:Option α} {r:α} (h:o.or a=UV r):o=UV r∨a=UV r:=by
 induction o with
 |none=>exact .inr h
 |some=>exact .inl h
theorem dQ {Q:α->U7->Prop} {t e:Xh α} (a:b=UY) (h:Vf Mo A e Q E s):Vf Mo A (if b=UX then t else e) Q E s:=ac a h
theorem qt {Q:α->U7->Prop} {t e:Xh α} (a:b=UX) (h:Vf Mo A t Q E s):Vf Mo A (if b=UX then t else e) Q E s:=ac a h
section
variable {x F:U2}
theorem dc.at {a:α} {y:β} {Q:β->U7->Prop} (h:dc c fz U H R a Q) (b:SR c fz U H s) (d:R fz U a y):Q y s:=h _ _ _ _ (Le.refl _) (U4 _) b d
theorem dc.new {tk:ZN} (y:dc c fz U (H++[o]) au (.ref H.length) Q) (a:SR c fz U H s) (hf:ob.isFreed=UY) (b:OR c.w.params fz (U++[s.heap.objs.size]) o s.heap.objs.size ob) (d:o.live=UX) (e:s.toks<=tk):Q (.ref s.heap.objs.size) {s with heap:=s.heap.push ob,toks:=tk}:=
 y _ _ _ _ (Le.refl _) (Vn _ _) (a.to (a.hr.push ob o hf b d) (.inl e)) (.ref (bj a.hr.len.symm))
theorem ae.call1 {k:V->M α} {t:List U2->Xh β} (a:av fz U vs xs) (h:∀v x,VR fz U v x->ae c A fz U (k v) (t [x]) R):ae c A fz U (gS vs k) (t xs) R:=by
 rcases vs with _|⟨v,_|_⟩
 ·exact ae.fail
 ·exact a.e1 (h v)
 ·exact ae.fail
theorem ae.call2 {k:V->V->M α} {t:List U2->Xh β} (a:av fz U vs xs) (h:∀v w x y,VR fz U v x->VR fz U w y->ae c A fz U (k v w) (t [x,y]) R):ae c A fz U (mD vs k) (t xs) R:=by
 rcases vs with _|⟨v,_|⟨w,_|_⟩⟩
 ·exact ae.fail
 ·exact ae.fail
 ·exact a.e2 (h v w)
 ·exact ae.fail
theorem ae.call3 {k:V->V->V->M α} {t:List U2->Xh β} (a:av fz U vs xs) (h:∀v w u x y z,VR fz U v x->VR fz U w y->VR fz U u z->ae c A fz U (k v w u) (t [x,y,z]) R):ae c A fz U (EC vs k) (t xs) R:=by
 rcases vs with _|⟨v,_|⟨w,_|⟨u,_|_⟩⟩⟩
 ·exact ae.fail
 ·exact ae.fail
 ·exact ae.fail
 ·exact a.e3 (h v w u)
 ·exact ae.fail
variable {t:U2->Xh β}
theorem ae.asI {k:Int->M α} (a:VR fz U v x) (h:∀i u,ae c A fz U (k i) (t (.int i u)) R):ae c A fz U (asI v k) (t x) R:=by
 induction v with
 |int i=>exact a.e_int (h i)
 |_=>exact ae.fail
theorem ae.asS {k:Vb->M α} (a:VR fz U v x) (h:∀i u,ae c A fz U (k i) (t (.str i u)) R):ae c A fz U (asS v k) (t x) R:=by
 induction v with
 |str i=>exact a.e_str (h i)
 |_=>exact ae.fail
theorem ae.asR {k:Nat->M α} (b:VR fz U v x) (h:∀i a,U[i]?=UV a->ae c A fz U (k i) (t (.ref a)) R):ae c A fz U (asR v k) (t x) R:=by
 induction v with
 |ref i=>exact b.e_ref (h i)
 |_=>exact ae.fail
theorem OK.seq {m:M γ} {k:γ->M α} {S:St} {K:α->St->List Prop->Prop} (h:OK (m S) λa S1 p1=>OK (k a S1) λb S2 p2=>K b S2 (p1++p2)):OK (Mine.Internal.bnd m k S) K:=OK.bnd λa S1 p1 e=>by rw[e] at h;exact h
theorem OK.opt {o:Option γ} {k:γ->M α} {S:St} {K:α->St->List Prop->Prop} (h:∀a,o=UV a->OK (k a S) K):OK (cU o k S) K:=by
 induction o with
 |none=>trivial
 |some a=>exact h a rfl
theorem ae.opt {o:Option γ} {k:γ->M α} {t:Xh β} (h:∀a,o=UV a->ae c A fz U (k a) t R):ae c A fz U (cU o k) t R:=by
 induction o with
 |none=>exact ae.fail
 |some a=>exact h a rfl
theorem OK.when {S:St} {K:α->St->List Prop->Prop} (h:b=UX->OK (m S) K):OK (bX b m S) K:=by
 induction b with
 |false=>trivial
 |true=>exact h rfl
theorem OK.getO {f:O->Option δ} {k:δ->M α} {S:St} {K:α->St->List Prop->Prop} (h:∀o b,S.H[i]?=UV o->f o=UV b->OK (k b S) K):OK (getO f i k S) K:=by
 unfold Mine.Internal.getO;induction e:S.H[i]? with
 |none=>trivial
 |some o=>
  dsimp only;induction a:f o with
  |none=>trivial
  |some b=>exact h o b e a
end
end
noncomputable def dW (v:V) (p:Prop):M V:=λS=>UV (v,S,[p])
def LL:WV->Int->Int->M V
 | .Add,a,b=>ret (.int (a+b))
 | .Sub,a,b=>ret (.int (a - b))
 | .Mult,a,b=>dW (.int (a*b)) (VJ a b)
 | .FloorDiv,a,b=>dW (.int (a.fdiv b)) (b≠0/\b.natAbs < 1073741824)
 | .Mod,a,b=>dW (.int (a.fmod b)) (b≠0)
 | .Pow,a,b=>dW (.int (a^b.toNat)) (0<=b/\b<=1000000/\a.natAbs < 2^64)
 | .LShift,a,b=>dW (.int (a*2^b.toNat)) (0<=b/\(U5 a:Int)+b<=2^27)
 | .RShift,a,b=>dW (.int (a.fdiv (2^b.toNat))) (0<=b)
 | .BitXor,a,b=>ret (.int (Builtin.bitXor a b))
 |_,_,_=>fail
def LM:WV->Int->Int->M V
 | .Add,a,b=>ret (.int (a+b))
 | .Sub,a,b=>ret (.int (a - b))
 |_,_,_=>fail
def zS:WV->Vb->Vb->M V
 | .Add,a,b=>dW (.str (a++b)) (a.length+b.length<=U9)
 |_,_,_=>fail
def LN:YV->Int->Int->M V
 | .Eq,a,b=>ret (.bool (decide (a=b)))
 | .NotEq,a,b=>ret (.bool (!decide (a=b)))
 | .Lt,a,b=>ret (.bool (decide (a < b)))
 | .LtE,a,b=>ret (.bool (decide (a<=b)))
 | .Gt,a,b=>ret (.bool (decide (b < a)))
 | .GtE,a,b=>ret (.bool (decide (b<=a)))
 |_,_,_=>fail
def LO:YV->Vb->Vb->M V
 | .Eq,a,b=>ret (.bool (sq a b))
 | .NotEq,a,b=>ret (.bool (!sq a b))
 |_,_,_=>fail
section
theorem ae.lift {a:α} {ps:List Prop} (d:m=λS=>UV (a,S,ps))
  (h:∀(s:U7) (Q:β->U7->Prop),ao ps->(∀x tk,(∀fz' ρ',Le fz fz'->U <+:ρ'->R fz' ρ' a x)->Q x {s with toks:=tk})->Vf (Vg c.prog c.w) A t Q bE s):ae c A fz U m t R:=by
 exact ac d (ae.run λS K e=>e _ _ _ λf fz' ρ' s Q k p b y=>iw b.tk (h s _ f λx tk g i=>y.at (b.to b.hr (.inr ‹_›)) (g _ _ k p)))
theorem ED (op:WV) (a b:Int) (t u:ZN):ae c A fz U (LL op a b) (Xy op (.int a t) (.int b u)) au:=by
 induction op with
 |Add=>exact ae.lift rfl λs Q h y=>abI (y _ _ λd d d d=> .int _ _)
 |Sub=>exact ae.lift rfl λs Q h y=>PyProof.Rows.sub_int (y _ _ λd d d d=> .int _ _)
 |Mult=>exact ae.lift rfl λs Q h y=>P.mul_int (y _ _ λd d d d=> .int _ _) h.1
 |FloorDiv=>exact ae.lift rfl λs Q h y=>PyProof.Rows.floordiv_int h.1.1 (y _ _ λd d d d=> .int _ _) (.inl (ace h.1.2))
 |Mod=>exact ae.lift rfl λs Q h y=>PyProof.Rows.mod_int' h.1 (y _ _ λd d d d=> .int _ _)
 |Pow=>exact ae.lift rfl λs Q h y=>PyProof.Rows.pow_int_small h.1.1 h.1.2.1 h.1.2.2 (y _ _ λd d d d=> .int _ _)
 |LShift=>exact ae.lift rfl λs Q h y=>PyProof.Rows.lshift_int h.1.1 h.1.2 (y _ _ λd d d d=> .int _ _)
 |RShift=>exact ae.lift rfl λs Q h y=>PyProof.Rows.rshift_int h.1 (y _ _ λd d d d=> .int _ _)
 |BitXor=>exact ae.lift rfl λs Q h y=>PyProof.Rows.xor_int (y _ _ λd d d d=> .int _ _)
 |_=>exact ae.fail
theorem EE (op:WV) (a b:Int) (t u:ZN):ae c A fz U (LM op a b) (acb op (.int a t) (.int b u)) au:=by
 induction op with
 |Add=>exact ae.lift rfl λs Q h y=>P.iadd_int (y _ _ λd d d d=> .int _ _)
 |Sub=>exact ae.lift rfl λs Q h y=>P.isub_int (y _ _ λd d d d=> .int _ _)
 |_=>exact ae.fail
theorem EF (op:WV) (a b:Vb) (t u:ZN):ae c A fz U (zS op a b) (Xy op (.str a t) (.str b u)) au:=by
 induction op with
 |Add=>exact ae.lift rfl λs Q h y=>PyProof.Rows.add_str (λe f=>y _ _ λd d d d=> .str _ _) h.1
 |_=>exact ae.fail
theorem EG (op:WV) (a b:Vb) (t u:ZN):ae c A fz U (zS op a b) (acb op (.str a t) (.str b u)) au:=by
 induction op with
 |Add=>exact ae.lift rfl λs Q h y=>PyProof.Rows.iadd_str (λe f=>y _ _ λd d d d=> .str _ _) h.1
 |_=>exact ae.fail
theorem gc {c:Bool} (h:b=c):∀fz' ρ',Le fz fz'->U <+:ρ'->VR fz' ρ' (.bool b) (.bool c):=λa a a a=>h▸ .bool _
theorem fh (a b:Int):decide (a=b)=(a==b):=by by_cases h:a=b<;>simp[h]
theorem EH (op:YV) (a b:Int) (t u:ZN):ae c A fz U (LN op a b) (WZ op (.int a t) (.int b u)) au:=by
 induction op with
 |Eq=>exact ae.lift rfl λs Q h y=>PyProof.Rows.eq_int (y _ s.toks (gc (fh a b)))
 |NotEq=>exact ae.lift rfl λs Q h y=>P.ne_int (y _ s.toks (gc (by rw[fh];rfl)))
 |Lt=>exact ae.lift rfl λs Q h y=>PyProof.Rows.lt_int (y _ s.toks (gc rfl))
 |LtE=>exact ae.lift rfl λs Q h y=>PyProof.Rows.le_int (y _ s.toks (gc rfl))
 |Gt=>exact ae.lift rfl λs Q h y=>PyProof.Rows.gt_int (y _ s.toks (gc rfl))
 |GtE=>exact ae.lift rfl λs Q h y=>PyProof.Rows.ge_int (y _ s.toks (gc rfl))
 |_=>exact ae.fail
theorem vj (a b:Vb):sq a b=(a==b):=by
 by_cases h:a=b
 ·subst h;refine ac (bS.mpr rfl) ?_;rw[beq_self_eq_true]
 ·exact ac (cg.mpr h) (ac (beq_eq_false_iff_ne.mpr h) rfl)
theorem EI (op:YV) (a b:Vb) (t u:ZN):ae c A fz U (LO op a b) (WZ op (.str a t) (.str b u)) au:=by
 induction op with
 |Eq=>exact ae.lift rfl λs Q h y=>PyProof.Rows.eq_str (y _ s.toks (gc (vj a b)))
 |NotEq=>exact ae.lift rfl λs Q h y=>PyProof.Rows.ne_str (y _ s.toks (gc (by rw[vj];rfl)))
 |_=>exact ae.fail
end
inductive SV where
 |vs (xs:List V)|ns (xs:List Int)|ss (xs:List Vb)|ds (xs:List D)
noncomputable def SV.len:SV->Nat
 | .vs xs=>xs.length
 | .ns xs=>xs.length
 | .ss xs=>xs.length
 | .ds xs=>xs.length
def cq (g:Vc) (U:List U6):SV->List U2->Prop
 | .vs xs,l=>av g U xs l
 | .ns xs,l=>Wu l xs
 | .ss xs,l=>dk xs l
 | .ds xs,l=>cb g xs l
def eT:Bool->List U2->Nat->Xg
 |true,xs,n=>bT xs n
 |false,xs,n=>rz xs n
noncomputable def gT:D->Option (Bool×SV)
 | .ints ns=>UV (UX, .ns ns)
 | .list ds=>UV (UX, .ds ds)
 | .tup ds=>UV (UY, .ds ds)
 |_=>UW
def tW:O->Option (Bool×SV)
 | .list xs=>UV (UX, .vs xs)
 | .ints xs=>UV (UX, .ns xs)
 | .strs xs=>UV (UX, .ss xs)
 | .dats xs=>UV (UX, .ds xs)
 | .tup xs=>UV (UY, .vs xs)
 | .fro d=>gT d
 |_=>UW
def look (v:V):M (Bool×SV):=match v with
 | .ref i=>getO tW i ret
 | .dat d=>match gT d with
  |some r=>ret r
  |none=>fail
 |_=>fail
noncomputable def dg :List α->Nat->Option α
 |[],_=>UW
 |x::_,0=>UV x
 |_::r,n+1=>dg r n
theorem eF:∀(l:List α) (n:Nat),dg l n=l[n]?
 |[],_=>rfl
 |_::_,0=>rfl
 |_::r,n+1=>eF r n
noncomputable def ay (d:α):List α->Nat->α
 |[],_=>d
 |x::_,0=>x
 |_::r,n+1=>ay d r n
theorem gK {d:α}:∀{l:List α} {n:Nat},n < l.length->l[n]?=UV (ay d l n)
 |[],_,h=>nomatch h
 |_::_,0,_=>rfl
 |_::r,n+1,h=>gK (l:=r) (aak h)
def SV.at:SV->Nat->Option V
 | .vs xs,j=>dg xs j
 | .ns xs,j=>UV (.int (ay 0 xs j))
 | .ss xs,j=>UV (.str (ay Vj xs j))
 | .ds xs,j=>match dg xs j with
  |some d=>UV (eA d)
  |none=>UW
noncomputable def dM (n:Nat):Int->Nat
 | .ofNat j=>j
 | .negSucc j=>n - (j+1)
def aK (n:Nat):Int->Prop
 | .ofNat j=>j < n/\j < 2^62
 | .negSucc j=>j+1<=n/\j < 2^62
section
theorem IA.i0 (h:Wu xs []):xs=[]:=by cases h;rfl
theorem IA.ic {n:Int} (h:Wu xs (n::ns)):∃t r,xs= .int n t::r/\Wu r ns:=by cases h with|cons _ t b=>exact(bL t _ rfl b)
theorem dk.i0 (h:dk [] xs):xs=[]:=by cases h;rfl
theorem dk.ic {n:Vb} {ns:List Vb} (h:dk (n::ns) xs):∃t r,xs= .str n t::r/\dk ns r:=by cases h with|cons b=>exact(bL _ _ rfl b)
theorem vk {xs:List Int}:∀{l:List U2} {j:Nat} {i:Int},Wu l xs->xs[j]?=UV i->∃t,l[j]?=UV (.int i t):=by
 induction xs with
 |nil=>intro l j i _ h;exact nn h
 |cons x r a=>
  intro l j i h e;refine aG (IA.ic h) λt u η b=>(ac η ?_)
  induction j with
  |zero=>obtain rfl:=U0 e;exact⟨t,rfl⟩
  |succ j=>have:=a b e;exact this
theorem EJ {xs:List Vb}:∀{l:List U2} {j:Nat} {i:Vb},dk xs l->xs[j]?=UV i->∃t,l[j]?=UV (.str i t):=by
 induction xs with
 |nil=>intro l j i _ h;exact nn h
 |cons x r a=>
  intro l j i h e;refine aG (dk.ic h) λt u η b=>(ac η ?_)
  induction j with
  |zero=>obtain rfl:=U0 e;exact⟨t,rfl⟩
  |succ j=>have:=a b e;exact this
theorem av.get {xs:List V}:∀{l:List U2} {j:Nat} {v:V},av g U xs l->xs[j]?=UV v->∃x,l[j]?=UV x/\VR g U v x:=by
 induction xs with
 |nil=>intro l j i _ h;exact nn h
 |cons x r c=>
  intro l j i h e;refine h.ec λy u a b=>?_;induction j with
  |zero=>obtain rfl:=U0 e;exact(aA y rfl a)
  |succ j=>have:=c b e;exact this
theorem cb.get {xs:List D}:∀{l:List U2} {j:Nat} {v:D},cb g xs l->xs[j]?=UV v->∃x,l[j]?=UV x/\DR g v x:=by
 induction xs with
 |nil=>intro l j i _ h;exact nn h
 |cons x r c=>
  intro l j i h e;refine h.ec λy u a b=>?_;induction j with
  |zero=>obtain rfl:=U0 e;exact(aA y rfl a)
  |succ j=>have:=c b e;exact this
theorem IntsAre.len {xs:List Int}:∀{l:List U2},Wu l xs->l.length=xs.length:=by
 induction xs with
 |nil=>intro l h;refine ac (IA.i0 h) ?_;rfl
 |cons x r a=>
  intro l h;refine aG (IA.ic h) λt u η b=>(ac η ?_)
  exact congrArg Z7 (a b)
theorem dk.len {xs:List Vb}:∀{l:List U2},dk xs l->l.length=xs.length:=by
 induction xs with
 |nil=>intro l h;refine ac (dk.i0 h) ?_;rfl
 |cons x r a=>
  intro l h;refine aG (dk.ic h) λt u η b=>(ac η ?_)
  exact congrArg Z7 (a b)
theorem cb.len {xs:List D}:∀{l:List U2},cb g xs l->l.length=xs.length:=by
 induction xs with
 |nil=>intro l h;refine ac h.i0 ?_;rfl
 |cons x r c=>intro l h;exact h.ec λt u a b=>(congrArg Z7 (c b))
theorem cq.len:∀{sv:SV} {l:List U2},cq g U sv l->l.length=sv.len
 | .vs _,_,h=>av.length h
 | .ns _,_,h=>IntsAre.len h
 | .ss _,_,h=>dk.len h
 | .ds _,_,h=>cb.len h
theorem cq.at {sv:SV} {l:List U2} (h:cq g U sv l) (e:sv.at j=UV v) (f:j < sv.len):∃x,l[j]?=UV x/\VR g U v x:=by
 induction sv with
 |vs a=>exact av.get h ((eF a j).symm.trans e)
 |ns a=>obtain rfl:=U0 e;obtain⟨t,b⟩:=vk h (gK (d:=0) f);exact⟨_,b, .int _ _⟩
 |ss a=>obtain rfl:=U0 e;obtain⟨t,b⟩:=EJ h (gK (d:=Vj) f);exact⟨_,b, .str _ _⟩
 |ds a=>
  unfold SV.at at e;dsimp only at e;rw[eF] at e;induction c:a[j]? with
  |none=>rw[c] at e;exact nn e
  |some d=>rw[c] at e;obtain rfl:=U0 e;exact aj (cb.get h c) λx e1 e2=>(aA x e1 (jx e2))
theorem iA {r:Bool×SV} {x:U2} (e:gT d=UV r) (h:DR g d x):∃a xs n,x= .ref a/\g.get? a=UV (eT r.1 xs n)/\cq g U r.2 xs:=by
 induction d using D.casesOn with
 |«ints»|«list»|«tup»=>obtain rfl:=U0 e;exact h.inv
 |_=>exact nn e
theorem B5 {sv:SV} (x:∃d,h.get? a=UV d/\∃vs n,d=eT b vs n/\cq g U sv vs):∃xs n,h.get? a=UV (eT b xs n)/\cq g U sv xs:=aj x λc q f=>aG f λvs n e r=>(bL vs n (e▸q) r)
theorem vm {r:Bool×SV} (e:tW o=UV r) (hl:o.live=UX->∃c,h.get? a=UV c/\OR P g U o a c) (hf:∀d,o= .fro d->DR g d (.ref a)) (k:∀b x,g.get? b=UV x->h.get? b=UV x):∃xs n,h.get? a=UV (eT r.1 xs n)/\cq g U r.2 xs:=by
 induction o with
 |«list»|«ints»|«strs»|«dats»|«tup»=>obtain rfl:=U0 e;exact B5 (hl rfl)
 |fro d=>exact gO (iA (U:=U) e (hf d rfl)) λb xs n f i j=>⟨xs,n,aau f▸k _ _ i,j⟩
 |_=>exact nn e
def LP (c:Cx) (fz:Vc) (U:List U6) (H:List O) (r:Bool×SV) (ad:U6):Prop:=∀fz' ρ' s,Le fz fz'->U <+:ρ'->SR c fz' ρ' H s->∃xs n,s.heap.get? ad=UV (eT r.1 xs n)/\cq fz' ρ' r.2 xs
theorem OK.lookR {l:Nat} {S:St} {K:Bool×SV->St->List Prop->Prop} (h:∀r,(∀fz' ρ' s a,SR c fz' ρ' S.H s->ρ'[l]?=UV a->∃xs n,s.heap.get? a=UV (eT r.1 xs n)/\cq fz' ρ' r.2 xs)->K r S []):OK (look (.ref l) S) K:=
 OK.getO λo r h0 f=>h r λfz' ρ' s a b e=>vm f (λg=>b.hr.at h0 g e) (λd i=>b.hr.froAt (aD i h0) e) b.hr.fzle
theorem OK.look {x:U2} {S:St} {K:Bool×SV->St->List Prop->Prop} (g:VR fz U v x) (h:∀r ad,x= .ref ad->LP c fz U S.H r ad->K r S []):OK (look v S) K:=by
 induction v with
 |dat d=>
  refine(?_:OK ((match gT d with|some r=>ret r|none=>fail) S) K);induction m:gT d with
  |none=>exact Vd
  |some r=>exact gO (iA (U:=U) m g.i_dat) λa f f e f f=>h r a e λj ρ' s k q l=>gO (iA (U:=ρ') m (g.i_dat.mono k)) λb o n e1 e2 e3=>⟨o,n,aau (e1.symm.trans e)▸l.hr.fzle _ _ e2,e3⟩
 |ref i=>exact aj g.i_ref λa e p=>OK.lookR λr t=>h r a e λj ρ' s k q l=>t _ _ _ _ l (ai q p)
 |_=>exact Vd
end
def HP (v:V) (i:Int):M V:=bnd (look v) λr=>match r.2.at (dM r.2.len i) with
  |some u=>dW u (aK r.2.len i)
  |none=>fail
def vn (P:Va) (v k:V):M V:=asI k λi=>match v with
 | .str x=>dW (.str (X5 x i)) (abd i=UX/\(Xx x i).isSome=UX)
 |v=>HP v i
def lookI (v:V) (k:List Int->M α):M α:=bnd (look v) λr=>match r with
 |(UX, .ns ns)=>k ns
 |_=>fail
def LQ (c:Cx) (A:Vk) (fz:Vc) (U:List U6) (t:Xh β) (R:bJ α β) (r:Bool×SV) (ad:U6) (S:St) (a:α) (S':St) (p:List Prop):Prop:=
 ao p->∀fz' ρ' s Q,Le fz fz'->U <+:ρ'->SR c fz' ρ' S.H s->dc c fz' ρ' S'.H R a Q->∀xs n,s.heap.get? ad=UV (eT r.1 xs n)->cq fz' ρ' r.2 xs->Vf (Vg c.prog c.w) A t Q bE s
section
theorem B6 (t:Bool) (xs:List U2) (n:Nat):(eT t xs n).cls= .type (if t then "list" else "tuple"):=by cases t<;>rfl
theorem B7 {n:Nat} {i:Int} (h:aK n i):dM n i < n:=by
 induction i with
 |ofNat j=>exact h.1
 |negSucc j=>exact Yx (Vq (Wv j) h.1) (Wv j)
theorem rK {n:Nat} {i:Int} (h:aK n i): -(2^63)<=i/\i < 2^63:=by
 induction i with
 |ofNat j=>exact⟨VM (by decide) (Vp j),Xk (Int.ofNat_lt.mpr h.2) (by decide)⟩
 |negSucc j=>exact⟨by have:=h.2;lia,XF (Yo j) (by decide)⟩
theorem jZ {i:Int} {n:Nat} (h:aK n i):ZQ i n=UV (dM n i):=by
 induction i with
 |ofNat j=>exact seqIndex_of (Vp j) (Int.ofNat_lt.mpr h.1)
 |negSucc j=>exact(seqIndex_neg (Yo j) (by have:=h.1;lia)).trans (congrArg UV (by refine(?_:(Int.subNatNat n (j+1)).toNat=_);refine ac Int.subNatNat_eq_coe ?_;exact Xd n (j+1)))
theorem Jy {t:Bool} {n:Nat} {i:Int} {x:U2} (h:s.heap.get? a=UV (eT t xs n)) (hi:aK xs.length i) (e:xs[dM xs.length i]?=UV x) (d:Q x s):
  Vf (Vg c.prog c.w) A (Yu (.ref a) (.int i u)) Q E s:=by
 have g:=jZ hi
 have f:=rK hi
 have b:=(Wh).trans e
 induction t with
 |false=>exact P.getItem_tuple (n:=n) (items:=xs.toArray) h f.1 f.2 g b d
 |true=>induction i with
  |ofNat j=>exact wpAny_getItem_list (items:=xs.toArray) ⟨_,h,rfl,n,rfl⟩ (Vp j) f.2 b d
  |negSucc j=>exact PySem.W.kde_getNeg ⟨_,h,rfl,n,rfl⟩ (Yo j) f.1 g e d
theorem ae.look {k:Bool×SV->M α} {t:U2->Xh β} {x:U2} (f:VR fz U v x) (h:∀r ad S K,(∀a S' p,LQ c A fz U (t (.ref ad)) R r ad S a S' p->K a S' p)->OK (k r S) K):ae c A fz U (bnd (look v) k) (t x) R:=
 ae.run λS K g=>OK.seq (OK.look (c:=c) f λr ad e i=>h r ad S _ λa S' p j=>g _ _ _ λl b ρ' s Q k q d y=>aG (i _ _ _ k q d) λm n o u=>e▸j l b ρ' s Q k q d y m n o u)
theorem ae.lookI {k:List Int->M α} {t:U2->Xh β} {x:U2} (d:VR fz U v x) (h:∀l ad S K,(∀a S' p,LQ c A fz U (t (.ref ad)) R (UX, .ns l) ad S a S' p->K a S' p)->OK (k l S) K):ae c A fz U (lookI v k) (t x) R:=ae.look d λr ad S K e=>by
 obtain⟨b,sv⟩:=r;induction b with
 |false=>exact Vd
 |true=>induction sv with
  |ns l=>exact h l ad S K e
  |_=>exact Vd
theorem ae.look2 {w:V} {k:Bool×SV->Bool×SV->M α} (t:U2->U2->Xh β) {x:U2} (i:VR fz U v x) (j:VR fz U w y)
  (h:∀r b ad d S K,(∀a S' p,(ao p->∀fz' ρ' s Q,Le fz fz'->U <+:ρ'->SR c fz' ρ' S.H s->dc c fz' ρ' S'.H R a Q->∀xs n ys m,s.heap.get? ad=UV (eT r.1 xs n)->cq fz' ρ' r.2 xs->s.heap.get? d=UV (eT b.1 ys m)->cq fz' ρ' b.2 ys->Vf (Vg c.prog c.w) A (t (.ref ad) (.ref d)) Q bE s)->K a S' p)->OK (k r b S) K):
  ae c A fz U (bnd (Mine.Internal.look v) λr=>bnd (Mine.Internal.look w) λb=>k r b) (t x y) R:=
 ae.run λS K l=>OK.seq (OK.look (c:=c) i λr ad e o=>OK.seq (OK.look (c:=c) j λb d u f=>h r b ad d S _ λa S' p z=>l _ _ _ λB fz' ρ' s Q k q g C=>aG (o _ _ _ k q g) λxs n D E=>aG (f _ _ _ k q g) λys m F G=>by refine ac e (ac u ?_);exact z B fz' ρ' s Q k q g C xs n ys m D E F G))
theorem yn {i:Int} {x:U2} (e:VR fz U v x) (T:U2->Xh U2) (f:∀(s:U7) (Q:U2->U7->Prop) (z:U2) (t:Bool) (ad:U6) (xs:List U2) (n:Nat),s.heap.get? ad=UV (eT t xs n)->
   Vf (Vg c.prog c.w) A (Yu (.ref ad) (.int i u)) (λr s'=>r=z/\Q r s') bE s->Vf (Vg c.prog c.w) A (T (.ref ad)) Q bE s):ae c A fz U (HP v i) (T x) au:=ae.look e λr ad S K g=>by
 induction h:r.2.at (dM r.2.len i) with
 |none=>exact Vd
 |some z=>exact g _ _ _ λb j ρ' s Q k q l y xs n d a=>aj (a.at h (B7 b.1)) λw m o=>f s Q w r.1 ad xs n d (Jy d (ac a.len b.1) (ac a.len m) ⟨rfl,y.at l o⟩)
theorem jE {x:U2} (hs:∀l h s p,slice≠aae l h s p):aa6 slice UY x y=aaH [x,y] (Yu x y):=by
 induction slice using VC with
 |Slice=>exact absurd rfl (hs _ _ _ _)
 |_=>rfl
theorem yo {k:V} {x:U2} (f:VR fz U v x) (m:VR fz U k y) (hs:∀l h s p,slice≠aae l h s p):ae c A fz U (vn P v k) (WN value slice x y) au:=by
 refine(ae.asI m ?_:);intro i u;have d:=yn (A:=A) (c:=c) (u:=u) (i:=i) f (WN value slice · (.int i u)) λs Q z t ad g n j h=>by
  have b:(eT t g n).cls= .type (if t then "list" else "tuple"):=B6 t g n;induction t with
  |true=>exact subscriptTail_builtinR (T:="list") (aA _ j b) F.slot_list_getitem.lookup h (jE hs)
  |false=>exact subscriptTail_builtinR (T:="tuple") (aA _ j b) F.slot_tuple_getitem.lookup h (jE hs)
 induction v with
 |str t=>exact f.e_str λo=>ae.lift rfl λs Q h y=>subscriptTail_builtin_flat (XB _ _ _) F.slot_str_getitem.lookup (SB.getItem h.1.1 h.1.2 ⟨λa e=>(nomatch e),y _ _ λa a a a=> .str _ _⟩) (jE hs)
 |_=>exact d
theorem Jz {k:V} {x:U2} (d:VR fz U v x) (e:VR fz U k y):ae c A fz U (vn P v k) (Yu x y) au:=by
 refine(ae.asI e ?_:);intro i u;have b:=yn (A:=A) (c:=c) (u:=u) (i:=i) d (Yu · (.int i u)) λs Q z t ad f n g h=>VF h (λa a h=>h.2) λa a h=>h;induction v with
 |str t=>exact d.e_str λj=>ae.lift rfl λs Q h y=>SB.getItem h.1.1 h.1.2 (y _ _ λa a a a=> .str _ _)
 |_=>exact b
end
theorem JA {Q:Unit->U7->Prop} {n:Nat} {i:Int} {t:ZN} {v:U2} (c:s.heap.get? a=UV (bT xs n)) (hi:aK xs.length i)
  (f:Q () {s with heap:=s.heap.update a (Xj (·.setIfInBounds (dM xs.length i) v))}):Vf (Vg J w) A (YX (.ref a) (.int i t) v) Q E s:=by
 have g:s.heap.IsList a xs.toArray:=⟨_,c,rfl,n,rfl⟩
 have h:=B7 hi
 have d:xs.toArray[dM xs.length i]?=UV xs[dM xs.length i]:=ac (Wh) (VG h)
 unfold YX
 try with_reducible refine Vo ?_
 first|refine UZ (U3 ?_)|skip
 refine UZ (wpAny_sequenceKey g.typeIs (by decide) ?_)
 refine UZ (YP (name:=WL "__setitem__") g.typeIs F.slot_list_setitem
  (Xn F.slot_list_setitem g.typeIs F.entry_list_setitem ?_ (adq _ _ _)))
 refine(?_:Vf _ _ (WH (.int i t) >>= _) _ _ s)
 have b:YT i=UX:=by
  induction i with
  |ofNat j=>exact fitsIndex_of (Vp j) (rK hi).2
  |negSucc j=>exact fitsIndex_neg (Yo j) (rK hi).1
 refine UZ (abt b ?_)
 clear b
 induction i with
 |ofNat j=>
  refine(?_:Vf _ _ ((seqItemAt a j >>= λr=>pure (r.map (j,·))) >>= _) _ _ s);refine UZ (UZ (wpAny_seqItemAt c rfl (U3 ?_)));refine ac (show xs.toArray[j]?=_ from d) (?_:Vf _ _ (setSeqItemAt a j v >>= _) _ _ s);refine UZ (wpAny_setSeqItemAt (items:=xs.toArray) (n:=n) c rfl ?_)
  first
   |exact UZ (U3 (U3 (aA .none rfl (U3 f))))
   |exact U3 ⟨.none,rfl,U3 f⟩
 |negSucc j=>
  refine(?_:Vf _ _ ((WY (.ref a) >>= λxs=>pure ((ZQ (Zb j) xs.size).bind λi=>xs[i]?.map (i,·))) >>= _) _ _ s);refine UZ (UZ ?_);refine(?_:Vf _ _ (adr (.ref a) >>= _) _ _ s);refine UZ (Y3 c rfl (U3 (U3 ?_)));have e:ZQ (Zb j) xs.toArray.size=UV (dM xs.length (Zb j)):=ac VH (jZ hi);refine ac e ?_;simp only[We,d,abu];refine(?_:Vf _ _ (setSeqItemAt a (dM xs.length (Zb j)) v >>= _) _ _ s);refine UZ (wpAny_setSeqItemAt (items:=xs.toArray) (n:=n) c rfl ?_)
  first
   |exact UZ (U3 (U3 (aA .none rfl (U3 f))))
   |exact U3 (aA .none rfl (U3 f))
noncomputable def setL :List α->Nat->α->List α
 |[],_,_=>[]
 |_::r,0,v=>v::r
 |x::r,n+1,v=>x::setL r n v
def EK (P:Va) (a k v:V):M Unit:=asR a λi=>asI k λj=>λS=>match S.H[i]? with
  |some (.list xs)=>UV ((),⟨S.H.set i (.list (setL xs (dM xs.length j) v)),S.orc⟩,[aK xs.length j])
  |some (.ints xs)=>asI v (λm S=>UV ((),⟨S.H.set i (.ints (setL xs (dM xs.length j) m)),S.orc⟩,[aK xs.length j])) S
  |_=>UW
section
theorem yp:∀(l:List α) (n:Nat) (v:α),setL l n v=l.set n v
 |[],_,_=>rfl
 |_::_,0,_=>rfl
 |_::r,n+1,v=>congrArg (_::·) (yp r n v)
theorem av.setL {x:U2} (c:VR g U v x) :∀{xs:List U2} (n:Nat),av g U vs xs->av g U (Mine.Internal.setL vs n v) (Mine.Internal.setL xs n x):=by
 induction vs with
 |nil=>exact λn h=>h.e0 .nil
 |cons u r d=>exact λn h=>h.ec λy l a b=>WC n (.cons c b) λn=> .cons a (d n b)
theorem B8 {m:Int} {t:ZN} :∀{xs:List U2} (n:Nat),Wu xs ns->Wu (setL xs n (.int m t)) (setL ns n m):=by
 induction ns with
 |nil=>exact λn h=>(IA.i0 h).symm▸ .nil
 |cons u r a=>exact λn h=>aG (IA.ic h) λy l e b=>e.symm▸WC n (.cons m t b) λn=> .cons u y (a n b)
theorem OK.upd {y:β} {a:α} {S:St} {K:α->St->List Prop->Prop} {b:O} {f:List U2->List U2} {p:Prop} (hi:U[i]?=UV ad) (g:∀a S' p,rA c A fz U t R S a S' p->K a S' p) (L:Nat) (h1:S.H[i]?=UV o) (l1:o.live=UX) (l2:b.live=UX)
  (h:∀fz' ρ' ob,Le fz fz'->U <+:ρ'->OR c.w.params fz' ρ' o ad ob->∃vs n,ob=bT vs n/\vs.length=L/\∀m,OR c.w.params fz' ρ' b ad (bT (f vs) m)) (j:∀fz U,R fz U a y)
  (l:∀s Q vs n,s.heap.get? ad=UV (bT vs n)->vs.length=L->p->(∀m h',WS ad s.heap h'->h'.get? ad=UV (bT (f vs) m)->Q y {s with heap:=h'})->Vf (Vg c.prog c.w) A t Q bE s):OK (UV (a,⟨S.H.set i b,S.orc⟩,[p])) K:=
 g _ _ _ λr fz' ρ' s Q k q d u=>aj (d.hr.at h1 l1 (ai q hi)) λob e2 e3=>cy (h _ _ _ k q e3) λvs n e v x=>l s Q vs n (aD e e2) v r.1 λm h' z B=>u.at (d.tz (d.hr.upd h1 l1 (ai q hi) z B (x m) l2)) (j _ _)
theorem yq {vs:List U2} {n L:Nat} {j:Int} {Q:Unit->U7->Prop} (e:s.heap.get? ad=UV (bT vs n)) (a:vs.length=L) (b:aK L j) (h:∀m h',WS ad s.heap h'->h'.get? ad=UV (bT (setL vs (dM L j) z) m)->Q () {s with heap:=h'}):Vf (Vg c.prog c.w) A (YX (.ref ad) (.int j u) z) Q bE s:=by subst a;exact JA e b (bI (kD (f:=λd=>d.setIfInBounds (dM vs.length j) z) (vs':=setL vs (dM vs.length j) z) e (by rw[yp];simp)) λm g=>h m _ (VQ ..) g)
theorem JB {a k:V} {x:U2} (p:VR fz U a x) (r:VR fz U k y) (g:VR fz U v z):ae c A fz U (EK P a k v) (YX x y z) dJ:=by
 unfold EK;refine(ae.asR (t:=λx=>YX x y z) p ?_);intro i ad h;refine(ae.asI (t:=λy=>YX (.ref ad) y z) r ?_:);intro j u;refine ae.run λS K l=>?_;induction o:S.H[i]? with
 |none=>exact Vd
 |some w=>induction w with
  |«list» B=>exact OK.upd h l _ o rfl rfl (λb b b k q f=>aG f λvs n e d=>(cY vs n e d.length (λm=>(bL _ m rfl (av.setL (g.mono k q) _ d))))) (λb b=>trivial) λs Q vs n e=>yq e
  |«ints» B=>induction v with
   |int m=>refine bI g.i_int λt e=>?_;subst e;exact OK.upd h l _ o rfl rfl (λb b b k q f=>aG f λvs n e d=>(cY vs n e (IntsAre.len d) (λm=>(bL _ m rfl (B8 _ d))))) (λb b=>trivial) λs Q vs n e=>yq e
   |_=>exact Vd
  |_=>exact Vd
end
noncomputable def SV.emp:SV->Bool
 | .vs xs=>xs.isEmpty
 | .ns xs=>xs.isEmpty
 | .ss xs=>xs.isEmpty
 | .ds xs=>xs.isEmpty
theorem SV.emp_eq (sv:SV):sv.emp=decide (sv.len=0):=by
 induction sv with
 |_ a=>cases a<;>rfl
def LR (v:V):M Bool:=match v with
 | .none=>ret UY
 | .bool b=>ret b
 | .int i=>ret (!decide (i=0))
 | .str x=>λS=>UV (!decide (x.length=0),S,[x.length < 2^62])
 |v=>bnd (look v) λr=>λS=>UV (!r.2.emp,S,[r.2.len < 2^62])
def LU (v:V):M V:=match v with
 | .str x=>dW (.int x.length) (x.length < 2^62)
 |v=>bnd (look v) λr=>dW (.int r.2.len) (r.2.len < 2^62)
def SV.all:SV->Option (List V)
 | .vs xs=>UV xs
 | .ds xs=>UV (xs.map eA)
 |_=>UW
def iterD (d:D):M V:=match gT d with
 |some (UX,_)=>ej (.datIt d 0) []
 |_=>fail
def zT (v:V):M V:=match v with
 | .str x=>ej (.strIt x 0) []
 | .dat d=>iterD d
 | .ref i=>λS=>match S.H[i]? with
  |some (.range a b c)=>ej (.rngIt a (X4 a b c) c) [YI a b c=UX] S
  |some (.fro d)=>iterD d S
  |some o=>match jA o with
   |true=>UV (.ref i,S,[])
   |false=>match tW o with
    |some (UX,_)=>ej (.listIt i 0) [] S
    |_=>UW
  |none=>UW
 |_=>fail
def cz (x:Vb) (i:Nat):Vb:=⟨#[ay 0 x.cps.toList i]⟩
def SV.nx:SV->Nat->M (Option V)
 | .vs xs,i=>ret (dg xs i)
 | .ds xs,i=>match dg xs i with
  |some d=>ret (UV (eA d))
  |none=>ret UW
 | .ns xs,i=>bnd (dec (decide (i < xs.length))) λb=>match b with
  |true=>ret (UV (.int (ay 0 xs i)))
  |false=>ret UW
 | .ss xs,i=>bnd (dec (decide (i < xs.length))) λb=>match b with
  |true=>ret (UV (.str (ay Vj xs i)))
  |false=>ret UW
noncomputable def fE (it:Nat) (o:O) (r:Option V):M (Option V):=λS=>match r with
 |some v=>UV (UV v,⟨S.H.set it o,S.orc⟩,[])
 |none=>UV (UW,⟨S.H.set it .dead,S.orc⟩,[])
def EL (it:Nat):M (Option V):=λS=>match S.H[it]? with
 |some (.listIt l i)=>bnd (look (.ref l)) (λr=>match r.1 with
  |true=>bnd (r.2.nx i) (fE it (.listIt l (i+1)))
  |false=>fail) S
 |some (.datIt d i)=>match gT d with
  |some (UX,sv)=>bnd (sv.nx i) (fE it (.datIt d (i+1))) S
  |_=>UW
 |some (.strIt x i)=>bnd (dec (decide (i < x.length))) (λb=>match b with
  |true=>fE it (.strIt x (i+1)) (UV (.str (cz x i)))
  |false=>fE it .dead UW) S
 |some (.rngIt x left step)=>bnd (dec (decide (0 < left))) (λb=>match b with
  |true=>fE it (.rngIt (x+step) (left - 1) step) (UV (.int x))
  |false=>fE it .dead UW) S
 |_=>UW
section
theorem xP {sv:SV} (h:xs.length=sv.len):xs.toArray.isEmpty=sv.emp:=by rw[SV.emp_eq];refine aD h ?_;unfold Array.isEmpty;exact ac VH rfl
theorem tX {n:Nat} (h:n < 2^62):(n:Int) < 2^63:=Xk (Int.ofNat_lt.mpr h) (by decide)
theorem JC {x:U2} (e:VR fz U v x):ae c A fz U (LR v) (YW x) gP:=by
 have g:=ae.look (A:=A) (c:=c) (R:=gP) (t:=YW) (k:=λr S=>UV (!r.2.emp,S,[r.2.len < 2^62])) e λr ad S K u=>u _ _ _ λw j ρ' s Q k q l y z n m o=>by
  have d:(z.length:Int) < 2^63:=tX (o.len.symm▸w.1);have f:=y.at (l.tb l.hr:SR c j ρ' S.H {s with toks:=s.toks+1+1}) (congrArg (!·) (xP o.len).symm);obtain⟨b,sv⟩:=r;induction b with
  |true=>exact wpAny_truthy_list ⟨_,m,rfl,n,rfl⟩ d f
  |false=>exact truthy_tuple ⟨_,m,rfl,n,rfl⟩ d f
 induction v with
 |none=>refine ac e.i_none ?_;exact ae.lift rfl λs Q h y=>truthy_none (y _ s.toks λa a a a=>rfl)
 |bool b=>refine ac e.i_bool ?_;exact ae.lift rfl λs Q h y=>wpAny_truthy_bool (y _ s.toks λa a a a=>rfl)
 |int i=>exact e.e_int λt=>ae.lift rfl λs Q h y=>P.truthy_int (y _ s.toks λa a a a=>congrArg (!·) (fh i 0))
 |str s=>exact e.e_str λt=>ae.lift rfl λB Q h y=>P.truthy_str (Int.not_le.mpr (tX h.1)) (y _ _ λa a a a=>by
   refine(?_:(!decide (s.length=0))=((s.length:Int)!=0));by_cases h:s.length=0
   ·refine ac h ?_;rfl
   ·refine ac (decide_eq_false h) ?_;exact(bne_iff_ne.mpr (Int.ofNat_ne_zero.mpr h)).symm)
 |_=>exact g
theorem JD {x:U2} (i:VR fz U v x):ae c A fz U (LU v) (call (.builtin "len") [x] []) au:=by
 have g:=ae.look (A:=A) (c:=c) (R:=au) (t:=λx=>call (.builtin "len") [x] []) (k:=λr=>dW (.int r.2.len) (r.2.len < 2^62)) i λr ad S K p=>p _ _ _ λu w ρ' s Q k q j y f n l m=>by
  have d:(f.length:Int) < 2^63:=tX (m.len.symm▸u.1);have e:Q (.int f.toArray.size (s.toks+1)) {s with toks:=s.toks+1+1}:=y.at (j.tb j.hr) ((congrArg (λn:Nat=>V.int n) m.len)▸ .int _ _);obtain⟨b,sv⟩:=r;induction b with
  |true=>exact Calls.call_len_list (items:=f.toArray) ⟨_,l,rfl,n,rfl⟩ d e
  |false=>exact P.len_tuple (n:=n) (items:=f.toArray) l (Int.not_le.mpr d) e
 induction v with
 |str s=>exact i.e_str λt=>ae.lift rfl λz Q h y=>abJ (Int.not_le.mpr (tX h.1)) (y _ _ λa a a a=> .int _ _)
 |_=>exact g
theorem cq.all {sv:SV} (h:cq g U sv xs) (e:sv.all=UV vs):av g U vs xs:=by
 induction sv with
 |vs l=>obtain rfl:=U0 e;exact h
 |ds l=>
  obtain rfl:=U0 e;have:∀{l:List D} {xs:List U2},cb g l xs->av g U (l.map eA) xs:=λ{l}=>by
   induction l with
   |nil=>exact λh=>h.i0.symm▸ .nil
   |cons d r c=>exact λh=>h.ec λx u a b=> .cons (jx a) (c b)
  exact this h
 |_=>exact nn e
theorem B9 (x:X1 h.objs.size h h'):Le h h':=λb o e=>x b o (aal (Wc e)) e
end
section
theorem OK.iterD {x:U2} {S:St} {K:V->St->List Prop->Prop} (j:∀a S' p,rA c A fz U (aaJ x) au S a S' p->K a S' p) (hd:∀fz' ρ' s,Le fz fz'->U <+:ρ'->SR c fz' ρ' S.H s->DR fz' d x):OK (iterD d S) K:=by
 unfold Mine.Internal.iterD;induction h:gT d with
 |none=>exact Vd
 |some r=>
  obtain⟨b,sv⟩:=r;induction b with
  |false=>exact Vd
  |true=>refine j _ _ _ λo fz' ρ' s Q k q g y=>?_;have i:=hd _ _ _ k q g;refine gO (iA (U:=ρ') h i) λa l n e m f=>?_;subst e;exact abU (items:=l.toArray) ⟨_,g.hr.fzle _ _ m,rfl,n,rfl⟩ (y.new g rfl ⟨a,i,rfl,rfl⟩ rfl (Vr _))
theorem EM {x:U2} (h:VR fz U v x):ae c A fz U (zT v) (aaJ x) au:=by
 refine ae.run λS K j=>?_;induction v with
 |str t=>refine bI h.i_str λB e=>?_;subst e;exact j _ _ _ λp f ρ' s Q k q b y=>wpAny_pyIter_strU (y.new b rfl (cY B (strIterType t) (by unfold strIterType;split<;>simp) rfl rfl) rfl (Vr _))
 |dat d=>exact OK.iterD j λa a a k a a=>h.i_dat.mono k
 |ref i=>
  refine aj h.i_ref λad e l=>?_;subst e;clear h;unfold zT;dsimp only;induction m:S.H[i]? with
  |none=>exact Vd
  |some o=>
   have r:∀{sv:SV},tW o=UV (UX,sv)->OK (UV (V.ref S.H.length,(⟨S.H++[.listIt i 0],S.orc⟩:St),([]:List Prop))) K:=λ{sv} w=>j _ _ _ λp f ρ' s Q k q b y=>
    have g:=ai q l
    aG (vm w (λw=>b.hr.at m w g) (λd C=>b.hr.froAt (aD C m) g) b.hr.fzle) λD n E a=>abU (items:=D.toArray) ⟨_,E,rfl,n,rfl⟩ (y.new b rfl ⟨ad,ai (Vn _ _) g,rfl,rfl⟩ rfl (Vr _))
   have z:jA o=UX->OK (UV (V.ref i,S,([]:List Prop))) K:=λh=>j _ _ _ λp f ρ' s Q k q b y=>sZ b m h (ai q l) (y.at b (.ref (ai q l)));induction o with
   |range I J L=>
    refine j _ _ _ λp f ρ' s Q k q b y=>(aj (b.hr.at m rfl (ai q l)) λM F G=>ky G λt u v e=>?_)
    exact wpAny_pyIter_range (e▸F) p.1 (y.new b rfl rfl rfl (Vr _))
   |fro d=>exact OK.iterD j λa a a k q b=>b.hr.froAt m (ai q l)
   |rngIt|listIt|datIt|strIt=>exact z rfl
   |«list»|«ints»|«strs»|«dats»=>exact r rfl
   |_=>exact Vd
 |_=>exact Vd
def Ur (sv:SV) (i:Nat):Option V->Prop
 |some v=>sv.at i=UV v/\i < sv.len
 |none=>sv.len<=i
theorem OK.nx {sv:SV} {S:St} {K:Option V->St->List Prop->Prop} (h:∀r orc p,(ao p->Ur sv i r)->K r ⟨S.H,orc⟩ p):OK (sv.nx i S) K:=by
 induction sv with
 |vs b=>
  refine h _ _ _ λa=>?_;rw[eF];induction h:b[i]? with
  |none=>exact List.getElem?_eq_none_iff.mp h
  |some v=>exact⟨(eF b i).trans h,bn h⟩
 |ds b=>
  refine(?_:OK ((match dg b i with|some d=>ret (UV (eA d))|none=>ret UW) S) K);induction e:dg b i with
  |none=>exact h _ _ _ λa=>List.getElem?_eq_none_iff.mp ((eF ..).symm.trans e)
  |some v=>
   refine h _ _ _ λa=>⟨?_,bn ((eF ..).symm.trans e)⟩
   refine(?_:(match dg b i with|some d=>UV (eA d)|none=>UW)=_);rw[e]
 |ns b=>exact OK.dec λo r=>match o with
  |true=>h _ _ _ λc=>⟨rfl,of_decide_eq_true c.1⟩
  |false=>h _ _ _ λc=>Nat.not_lt.mp (of_decide_eq_false c.1)
 |ss b=>exact OK.dec λo r=>match o with
  |true=>h _ _ _ λc=>⟨rfl,of_decide_eq_true c.1⟩
  |false=>h _ _ _ λc=>Nat.not_lt.mp (of_decide_eq_false c.1)
theorem vo (C:A.handled=UW) {it:Nat} {sv:SV} {S:St} {K:Option V->St->List Prop->Prop} (z:∀a S' p,rA c A fz U (aaK (.ref ia)) lf S a S' p->K a S' p) (hi:U[it]?=UV ia) (h0:S.H[it]?=UV o₀) (l0:o₀.live=UX) (l1:o.live=UX)
  (h:∀fz' ρ' s,Le fz fz'->U <+:ρ'->SR c fz' ρ' S.H s->∃l xs n,s.heap.IsListIter ia l i/\s.heap.get? l=UV (bT xs n)/\cq fz' ρ' sv xs/\∀ob:Xg,ob.cls= .type "list_iterator"->ob.data= .fields #[.ref l, .int (i+1:Nat) 0]->OR c.w.params fz' ρ' o ia ob):OK (bnd (sv.nx i) (fE it o) S) K:=by
 refine OK.seq (OK.nx λr D p f=>?_)
 induction r with
 |some v=>refine z _ _ _ λj fz' ρ' s Q k q b y=>jg (h _ _ _ k q b) λl xs n d m e B=>?_;have f:=f (af.mp j).1;exact aj (e.at f.1 f.2) λw E F=>(wpAny_pyNext_list_item d ⟨_,m,rfl,n,rfl⟩ (x:=w) ((Wh).trans E) λG g t=>ca g λob g1 I J=>y.at (R:=lf) (y:=UV w) (b.tz (b.hr.upd h0 l0 (ai q hi) t g1 (B ob I J) l1)) F)
 |none=>exact z _ _ _ λj fz' ρ' s Q k q b y=>jg (h _ _ _ k q b) λl xs n d m e B=>(wpAny_pyNext_list_end C d ⟨_,m,rfl,n,rfl⟩ ((Wh).trans (Ws (ac e.len (f (af.mp j).1)))) λG u=>y.at (R:=lf) (y:=UW) (b.tz (b.hr.kill h0 l0 (ai q hi) u)) trivial)
theorem JE (G:A.handled=UW) {it:Nat} (hi:U[it]?=UV ia):ae c A fz U (EL it) (aaK (.ref ia)) lf:=by
 refine ae.run λS K F=>?_;unfold EL;induction j:S.H[it]? with
 |none=>exact Vd
 |some o=>
  induction o with
  |listIt l i=>
   refine OK.seq (OK.lookR (c:=c) λr V=>?_);obtain⟨b,sv⟩:=r;induction b with
   |false=>exact Vd
   |true=>exact vo G F hi j rfl rfl λm ρ' s k q a=>aj (a.hr.at j rfl (ai q hi)) λp h D=>ca D λb w B C=>aG (V _ _ _ _ a w) λN n O P=>⟨b,N,n,(cE p h B C),O,P,λI g1 J=>(cE _ w g1 J)⟩
  |datIt d i=>
   dsimp only;induction W:gT d with
   |none=>exact Vd
   |some r=>
    obtain⟨b,sv⟩:=r;induction b with
    |false=>exact Vd
    |true=>exact vo G F hi j rfl rfl λm ρ' s k q a=>aj (a.hr.at j rfl (ai q hi)) λp h D=>ca D λb w B C=>gO (iA (U:=ρ') W w) λad N n e O P=>⟨b,N,n,(cE p h B C),aau e▸a.hr.fzle _ _ O,P,λI g1 J=>(cE _ w g1 J)⟩
  |strIt x i=>
   refine OK.dec λo r=>?_;induction o with
   |true=>
    refine F _ _ _ λE m ρ' s Q k q a y=>?_;have u:=ai q hi;refine aj (a.hr.at j rfl u) λp h D=>cy D λt T w B C=>?_;have L:x.cps[i]?=UV (ay 0 x.cps.toList i):=Array.getElem?_toList.symm.trans (gK (of_decide_eq_true E.1));have v:∀z,z.IsStrIter ia T x t (i+1)->WS ia s.heap z->Q (UV (.str ⟨#[ay 0 x.cps.toList i]⟩ s.toks)) {s with heap:=z,toks:=s.toks+1}:=λz g f=>ca g λI g1 J X=>
     y.at (R:=lf) (a.ta (a.hr.upd j rfl u f g1 (cY t T w J X))) (.str _ _)
    rcases w with rfl|rfl
    ·exact wpAny_pyNext_wide_item (cE p h B C) L v
    ·exact wpAny_pyNext_ascii_item (cE p h B C) L v
   |false=>
    refine F _ _ _ λE m ρ' s Q k q a y=>?_;have u:=ai q hi;refine aj (a.hr.at j rfl u) λp h D=>cy D λt T w B C=>?_;have L:x.cps[i]?=UW:=Array.getElem?_toList.symm.trans (Ws (Nat.not_lt.mp (of_decide_eq_false E.1)));have v:∀z,X1 ia s.heap z->Q UW {s with heap:=z}:=λz f=>y.at (R:=lf) (y:=UW) (a.tz (a.hr.kill j rfl u f)) trivial;rcases w with rfl|rfl
    ·exact wpAny_pyNext_wide_end G (cE p h B C) L v
    ·exact wpAny_pyNext_ascii_end G (cE p h B C) L v
  |rngIt x left step=>
   refine OK.dec λo r=>?_;induction o with
   |true=>exact F _ _ _ λE m ρ' s Q k q a y=>aj (a.hr.at j rfl (ai q hi)) λp h e=>wpAny_pyNext_range_item (h.trans (congrArg UV e)) (of_decide_eq_true E.1) λz g f=>y.at (R:=lf) (a.ta (a.hr.upd j rfl (ai q hi) f g rfl)) (.int _ _)
   |false=>exact F _ _ _ λE m ρ' s Q k q a y=>aj (a.hr.at j rfl (ai q hi)) λp h e=>wpAny_pyNext_range_end G (h.trans (congrArg UV e)) (Int.not_lt.mp (of_decide_eq_false E.1)) λz f=>y.at (R:=lf) (y:=UW) (a.tz (a.hr.kill j rfl (ai q hi) f)) trivial
  |_=>exact Vd
end
noncomputable def gz (a b:Int):Int:=match decide (b > a) with
 |true=>b
 |false=>a
noncomputable def gA:List Int->Int
 |[]=>0
 |[a]=>a
 |a::r=>match decide (gA r < a) with
  |true=>gA r
  |false=>a
noncomputable def SV.toO:SV->O
 | .vs xs=> .list xs
 | .ns xs=> .ints xs
 | .ss xs=> .strs xs
 | .ds xs=> .dats xs
def LV (vs:List V):M V:=mD vs λv w=>asI v λa=>asI w λb=>ret (.int (gz a b))
def LW (vs:List V):M V:=gS vs λv=>lookI v λns=>dW (.int (gA ns)) (0 < ns.length)
def Ca (vs:List V):M V:=match vs with
 |[_]=>gS vs λv=>asI v λn=>ej (.range 0 n 1) []
 |[_,_]=>mD vs λv w=>asI v λa=>asI w λb=>ej (.range a b 1) []
 |_=>EC vs λv w u=>asI v λa=>asI w λb=>asI u λd=>ej (.range a b d) [d≠0/\d.natAbs < 1000]
def LX (vs:List V):M V:=gS vs λv=>asI v λn=>dW (.str (WL (toString n))) (n.natAbs.log2 < 1920)
def LY (vs:List V):M V:=gS vs λv=>asS v λx=>dW (.int ((Y4 x).getD 0)) (Y4 x=UV ((Y4 x).getD 0)/\x.length<=640)
def HQ (vs:List V):M V:=gS vs λv=>bnd (look v) λr=>ej r.2.toO [r.2.len<=U9]
section
theorem vp (h0:0 < ns.length):gA ns∈ns/\∀a∈ns,gA ns<=a:=by
 induction ns with
 |nil=>exact absurd h0 (WT 0)
 |cons a r e=>induction r using VE with
 |nil=>exact⟨.head _,λb f=>List.mem_singleton.mp f▸YA _⟩
 |cons b r=>
  refine aN (e (Wv _)) λg d=>(?_:(match decide (gA (b::r) < a) with|true=>gA (b::r)|false=>a)∈a::b::r/\∀x∈a::b::r,(match decide (gA (b::r) < a) with|true=>gA (b::r)|false=>a)<=x)
  by_cases h:gA (b::r) < a
  ·refine ac (decide_eq_true h) ⟨.tail _ g,λx c=>?_⟩;rcases List.mem_cons.mp c with rfl|c
   ·exact Ww h
   ·exact d x c
  ·refine ac (decide_eq_false h) ⟨.head _,λx c=>?_⟩;rcases List.mem_cons.mp c with rfl|c
   ·exact YA _
   ·exact VM (Int.not_lt.mp h) (d x c)
theorem EN {l:U6} {vs:List U2} (o:A.handled=UW) (hl:s.heap.IsList l vs.toArray) (hi:Wu vs ns) (d:0 < ns.length)
  (h:∀h' (t:ZN) tk,Le s.heap h'->Q (.int (gA ns) t) {s with heap:=h',toks:=tk}):Vf (Vg c.prog c.w) A (call (.builtin "min") [.ref l]) Q E s:=by
 obtain⟨a,e⟩:=hi.allInts.items
 have b:ns=a.toList.map (·.1):=by refine aD hi.numsOf ?_;rw[<-nums_intItems,<-e]
 have f:0 < a.size:=by have n:=d;simp only[b,Vy,Zi] at n;exact n
 simp only[e] at hl
 refine min_intList o hl f λv h' tk p q=>?_
 obtain⟨t,rfl⟩:=intItems_at p
 obtain⟨r,u⟩:=argBest_lt (numAt a) (a.size - 1)
 have g:∀j,j < a.size->numAt a j∈ns:=λj x=>by refine ac b ?_;rw[numAt_eq,ab3];refine ac (VG (by rw[Vy,Zi];exact x)) ?_;exact List.getElem_mem _
 have y:numAt a (argBest (λi j=>decide (numAt a i < numAt a j)) (a.size - 1))=gA ns:=by
  obtain⟨z,B⟩:=vp d;refine Int.le_antisymm ?_ (B _ (g _ (Vl r (Yx f YC))));obtain⟨j,k⟩:=List.mem_iff_getElem?.mp z;have m:numAt a j=gA ns:=by rw[numAt_eq,ab3,<-b];refine ac k ?_;rfl
  exact aD m (u j (Nat.le_sub_one_of_lt (by have:=bn k;simp only[b,Vy,Zi] at this;exact this:j < a.size)))
 exact ac y (h h' t tk q)
theorem JF (b:A.handled=UW) (d:av fz U vs xs):ae c A fz U (LV vs) (call (.builtin "max") xs []) au:=by
 refine(ae.call2 (t:=λxs=>call (.builtin "max") xs []) d ?_:);intro v w x y e f;refine(ae.asI (t:=λx=>call (.builtin "max") [x,y] []) e ?_:);intro i t;refine(ae.asI (t:=λy=>call (.builtin "max") [.int i t,y] []) f ?_:);intro j u;refine ae.run λS K g=>g _ _ _ λp l ρ' s Q k q a y=>iw a.tk (max_two_ints b λr z m n=>?_);have o:(if j > i then aaD j u else aaD i t)= .int (gz i j) (if j > i then u else t):=by
  unfold gz;by_cases h:j > i
  ·exact ac (if_pos h) (ac (decide_eq_true h) (ac (if_pos h) rfl))
  ·exact ac (if_neg h) (ac (decide_eq_false h) (ac (if_neg h) rfl))
 exact ac o (y.at (a.to (a.hr.le m) (.inr ‹_›)) (.int _ _))
theorem JG (b:A.handled=UW) (d:av fz U vs xs):ae c A fz U (LW vs) (call (.builtin "min") xs []) au:=by refine(ae.call1 (t:=λxs=>call (.builtin "min") xs []) d ?_:);intro v x e;refine(ae.lookI (t:=λx=>call (.builtin "min") [x] []) e ?_:);exact λl ad S K f=>f _ _ _ λg h ρ' s Q k q a y xs n i j=>iw a.tk (EN b ⟨_,i,rfl,n,rfl⟩ j g.1 λp t r m o=>y.at (a.to (a.hr.le m) (.inr ‹_›)) (.int _ _))
theorem Cb (o:av fz U vs xs):ae c A fz U (Ca vs) (call (.type "range") xs []) au:=by
 have B:=ae.call1 (A:=A) (c:=c) (R:=au) (k:=λv=>asI v λn=>ej (.range 0 n 1) []) (t:=λxs=>call (.type "range") xs []) o λv x e=>by refine(ae.asI (t:=λx=>call (.type "range") [x] []) e ?_:);exact λi t=>ae.run λS K f=>f _ _ _ λm g ρ' s Q k q h y=>call_range_1 (y.new h rfl (Hz _ _ _ rfl) rfl (Vm _ 2))
 have C:=ae.call2 (A:=A) (c:=c) (R:=au) (k:=λv w=>asI v λa=>asI w λb=>ej (.range a b 1) []) (t:=λxs=>call (.type "range") xs []) o λv w x y e p=>by refine(ae.asI (t:=λx=>call (.type "range") [x,y] []) e ?_:);intro i t;refine(ae.asI (t:=λy=>call (.type "range") [.int i t,y] []) p ?_:);exact λj u=>ae.run λS K f=>f _ _ _ λm g ρ' s Q k q h y=>call_range_2 (y.new h rfl (Hz _ _ _ rfl) rfl (Vm _ 1))
 have r:=ae.call3 (A:=A) (c:=c) (R:=au) (k:=λv w u=>asI v λa=>asI w λb=>asI u λd=>ej (.range a b d) [d≠0/\d.natAbs < 1000]) (t:=λxs=>call (.type "range") xs []) o λv w u x y z e p D=>by refine(ae.asI (t:=λx=>call (.type "range") [x,y,z] []) e ?_:);intro i t;refine(ae.asI (t:=λy=>call (.type "range") [.int i t,y,z] []) p ?_:);intro j u;refine(ae.asI (t:=λz=>call (.type "range") [.int i t, .int j u,z] []) D ?_:);exact λl v=>ae.run λS K f=>f _ _ _ λm g ρ' s Q k q h y=>call_range_3 m.1.1 (y.new h rfl (Hz _ _ _ rfl) rfl (Vr _)) (.inl (ace (XG m.1.2 (by decide))))
 rcases vs with _|⟨a,_|⟨b,_|_⟩⟩
 ·exact r
 ·exact B
 ·exact C
 ·exact r
theorem JH (b:av fz U vs xs):ae c A fz U (LX vs) (call (.type "str") xs []) au:=by refine(ae.call1 (t:=λxs=>call (.type "str") xs []) b ?_:);intro v x d;refine(ae.asI (t:=λx=>call (.type "str") [x] []) d ?_:);exact λi t=>ae.lift rfl λs Q h y=>P.str_of_int h.1 (y _ _ λa a a a=> .str _ _)
theorem JI (b:av fz U vs xs):ae c A fz U (LY vs) (call (.type "int") xs []) au:=by refine(ae.call1 (t:=λxs=>call (.type "int") xs []) b ?_:);intro v x d;refine(ae.asS (t:=λx=>call (.type "int") [x] []) d ?_:);exact λi t=>ae.lift rfl λs Q h y=>PySem.W.KIN.call_text h.1.1 h.1.2 (y _ _ λa a a a=> .int _ _)
theorem cq.toO {sv:SV} {n:Nat} (h:cq g U sv xs):OR P g U sv.toO a (bT xs n):=by cases sv<;>exact(bL xs n rfl h)
theorem SV.toO_live (sv:SV):sv.toO.live=UX:=by cases sv<;>rfl
theorem cq.mono (k:Le g g') (p:U <+:ρ') {sv:SV} (h:cq g U sv xs):cq g' ρ' sv xs:=by
 induction sv with
 |vs=>exact av.mono k p h
 |ns=>exact h
 |ss=>exact h
 |ds=>exact DX.mono k h
theorem EO (h:av fz U vs xs):ae c A fz U (HQ vs) (call (.type "list") xs []) au:=by
 refine(ae.call1 (t:=λxs=>call (.type "list") xs []) h ?_:);intro v x j;refine(ae.look (t:=λx=>call (.type "list") [x] []) j ?_:);refine λr ad S K l=>l _ _ _ λm e ρ' s Q k q f y xs n p g=>?_;obtain⟨b,sv⟩:=r;refine call_list_seq (hsz:=(g.len.symm▸m.1:xs.length<=_)) (T:=if b then "list" else "tuple") ad (by cases b<;>decide) p (by cases b<;>rfl) (items:=xs.toArray) (n:=n) (by cases b<;>rfl) λB C u w=>?_;refine y e _ _ _ (Le.refl _) (Vn _ _) (f.tz (f.hr.exts u [s.heap.objs.size] [sv.toO] rfl (by simp) (λa d=>Ve (List.mem_singleton.mp d).symm) (λi a o d z=>?_))) (.ref (bj f.hr.len.symm));induction i with
 |zero=>cases d;cases z;exact⟨SV.toO_live _,_,w,cq.toO (g.mono (Le.refl _) (Vn _ _))⟩
 |succ=>exact nn d
end
noncomputable def j0:List (Vb×Nat):=[("strip",12),("rstrip",13),("replace",14),("split",15),("join",16),("isspace",17)]
noncomputable def qu:List (Vb×Nat):=[("append",8),("pop",9),("remove",10),("count",11)]
noncomputable def tY:List (Vb×Nat):=[("bit_length",18)]
def vq (v:V) (n:Vb):M (V×List V):=match v with
 | .str _=>match cT n j0 with
  |some k=>ret (.fk k,[v])
  |none=>fail
 | .int _=>match cT n tY with
  |some k=>ret (.fk k,[v])
  |none=>fail
 |v=>bnd (look v) λr=>match r.1,cT n qu with
  |true,UV k=>ret (.fk k,[v])
  |_,_=>fail
section
theorem qv {x:Vb} {t:ZN} {n:Vb} {Q:U2×List U2->U7->Prop} (h:cT n j0=UV k) (b:Q (FN k,[.str x t]) s):Vf Mo A (W0 (.str x t) n pl) Q E s:=by
 have c:=nI h;simp only[j0,WJ,abV,WR,or_false] at c;rcases c with ⟨rfl,rfl⟩|⟨rfl,rfl⟩|⟨rfl,rfl⟩|⟨rfl,rfl⟩|⟨rfl,rfl⟩|⟨rfl,rfl⟩
 ·have a:Q (.builtin "str.strip",[.str x t]) s:=b
  with_reducible exact GM.of (.str x t) (XB _ _ _) F.slot_str_strip F.type_str_strip abv a
 ·have a:Q (.builtin "str.rstrip",[.str x t]) s:=b
  with_reducible exact GM.of (.str x t) (XB _ _ _) F.slot_str_rstrip F.type_str_rstrip abv a
 ·have a:Q (.builtin "str.replace",[.str x t]) s:=b
  with_reducible exact GM.of (.str x t) (XB _ _ _) F.slot_str_replace F.type_str_replace abv a
 ·have a:Q (.builtin "str.split",[.str x t]) s:=b
  with_reducible exact GM.of (.str x t) (XB _ _ _) F.slot_str_split F.type_str_split abv a
 ·have a:Q (.builtin "str.join",[.str x t]) s:=b
  with_reducible exact GM.of (.str x t) (XB _ _ _) F.slot_str_join F.type_str_join abv a
 ·have a:Q (.builtin "str.isspace",[.str x t]) s:=b
  with_reducible exact GM.of (.str x t) (XB _ _ _) F.slot_str_isspace F.type_str_isspace abv a
theorem JJ {m:Nat} {n:Vb} {Q:U2×List U2->U7->Prop} (i:s.heap.get? a=UV (bT xs m)) (h:cT n qu=UV k) (d:Q (FN k,[.ref a]) s):
  Vf Mo A (W0 (.ref a) n pl) Q E s:=by
 have j:=nI h
 have f:s.TypeIs (.ref a) "list":=(aA _ i rfl)
 have g:∀b,X6 a= .ref b->∃o,s.heap.get? b=UV o/\o.dict=UW:=λb e=>by cases e;exact(aA _ i rfl)
 simp only[qu,WJ,abV,WR,or_false] at j
 rcases j with ⟨rfl,rfl⟩|⟨rfl,rfl⟩|⟨rfl,rfl⟩|⟨rfl,rfl⟩
 ·have c:Q (.builtin "list.append",[.ref a]) s:=d
  with_reducible exact Y5 f Z2 F.slot_list_append F.type_list_append g c
 ·have c:Q (.builtin "list.pop",[.ref a]) s:=d
  with_reducible exact Y5 f Z2 F.slot_list_pop F.type_list_pop g c
 ·have c:Q (.builtin "list.remove",[.ref a]) s:=d
  with_reducible exact Y5 f Z2 F.slot_list_remove F.type_list_remove g c
 ·have c:Q (.builtin "list.count",[.ref a]) s:=d
  with_reducible exact Y5 f Z2 F.slot_list_count F.type_list_count g c
theorem JK {x:U2} {n:Vb} (f:VR fz U v x):ae c A fz U (vq v n) (W0 x n pl) o6:=by
 have g:ae c A fz U (bnd (look v) λr=>match r.1,cT n qu with
  |true,UV k=>ret (.fk k,[v])
  |_,_=>fail) (W0 x n pl) o6:=by
  refine ae.run λS K p=>OK.seq (OK.look (c:=c) f λr ad e u=>?_)
  subst e
  obtain⟨b,sv⟩:=r
  induction b with
  |false=>exact Vd
  |true=>
   dsimp only;induction d:cT n qu with
   |none=>exact Vd
   |some j=>exact p _ _ _ λB w ρ' s Q k q i y=>aG (u _ _ _ k q i) λC m z a=>JJ z d (y.at i ⟨.fk j, .cons (f.mono k q) .nil⟩)
 induction v with
 |str t=>
  refine f.e_str λl=>(?_:ae c A fz U (match cT n j0 with|some k=>ret (V.fk k,[V.str t])|none=>fail:M (V×List V)) _ o6)
  induction d:cT n j0 with
  |none=>exact ae.fail
  |some j=>exact ae.lift rfl λs Q h y=>qv d (y _ s.toks λa a a a=>⟨.fk j, .cons (.str _ _) .nil⟩)
 |int t=>
  refine f.e_int λl=>(?_:ae c A fz U (match cT n tY with|some k=>ret (V.fk k,[V.int t])|none=>fail:M (V×List V)) _ o6)
  induction d:cT n tY with
  |none=>exact ae.fail
  |some j=>have o:=nI d;simp only[tY,WJ,abV,WR,or_false] at o;obtain⟨rfl,rfl⟩:=o;exact ae.lift rfl λs Q h y=>getMethod_int_bit_length (y (.builtin "int.bit_length",[.int t l]) s.toks λa a a a=>⟨.fk 18, .cons (.int _ _) .nil⟩)
 |_=>exact g
end
def EP (P:Va) (a:Nat) (v:V):M V:=match v with
 | .ref _=>λS=>match S.H[a]? with
  |some (.dats _)=>bnd (cj P 9 v) (λd=>ret (V.dat d)) S
  |_=>UV (v,S,[])
 |_=>ret v
noncomputable def LZ (v:V) (o:O):Option (O×Nat):=match o,v with
 | .list xs,v=>UV (.list (xs++[v]),xs.length)
 | .ints xs, .int m=>UV (.ints (xs++[m]),xs.length)
 | .strs xs, .str m=>UV (.strs (xs++[m]),xs.length)
 | .dats xs, .dat d=>UV (.dats (xs++[d]),xs.length)
 |_,_=>UW
def L6 (P:Va) (vs:List V):M V:=mD vs λw v=>asR w λa=>bnd (EP P a v) λv=>getO (LZ v) a λr S=>UV (.none,⟨S.H.set a r.1,S.orc⟩,[r.2<=U9])
noncomputable def HT:O->Option (List Int)
 | .ints xs=>UV xs
 |_=>UW
def L7 (vs:List V):M V:=gS vs λv=>asR v λa=>getO HT a λxs S=>UV (.int (ay 0 xs (xs.length - 1)),⟨S.H.set a (.ints xs.dropLast),S.orc⟩,[0 < xs.length/\xs.length<=U9])
noncomputable def bB:List Int->Int->Int
 |[],_=>0
 |a::r,m=>match decide (a=m) with
  |true=>1+bB r m
  |false=>bB r m
def Cc (vs:List V):M V:=mD vs λv w=>asI w λm=>lookI v λns=>ret (.int (bB ns m))
noncomputable def mF:List V->Option (List Vb)
 |[]=>UV []
 | .str s::r=>match mF r with
  |some l=>UV (s::l)
  |none=>UW
 |_=>UW
noncomputable def qw:List D->Option (List Vb)
 |[]=>UV []
 | .str s::r=>match qw r with
  |some l=>UV (s::l)
  |none=>UW
 |_=>UW
def SV.strs:SV->Option (List Vb)
 | .ss l=>UV l
 | .vs l=>mF l
 | .ds l=>qw l
 |_=>UW
def HU (vs:List V):M V:=mD vs λv w=>asS v λx=>bnd (look w) λr=>match r.1,r.2.strs with
  |true,UV ss=>dW (.str (Wx x ss)) (acM x ss=UX)
  |_,_=>fail
def Cd (vs:List V):M V:=gS vs λv=>asS v λx=>dW (.str (Wf x)) (x.length<=U9)
def yr (vs:List V):M V:=gS vs λv=>asS v λx=>dW (.str (X7 x)) (x.length<=U9)
def Ce (vs:List V):M V:=gS vs λv=>asS v λx=>ret (.bool (abK x))
def HV (vs:List V):M V:=gS vs λv=>asI v λa=>ret (.int (U5 a))
section
theorem JL {vs:List U2} {n:Nat} {x:U2} (b:s.heap.get? a=UV (bT vs n)) (hsz:vs.length<=U9)
  (d:∀m h',WS a s.heap h'->h'.get? a=UV (bT (vs++[x]) m)->Q .none {s with heap:=h'}):Vf (Vg c.prog c.w) A (call (.builtin "list.append") [.ref a,x]) Q E s:=by
 refine YM abS (T:="list") (aA _ b rfl) abF (abA _ _) (list_append a vs.toArray n x ((VH).symm▸hsz)) ⟨b,?_⟩
 refine bI (kD (f:=λe=>e.push x) (vs':=vs++[x]) b (by simp)) λm g=>?_
 exact d m _ (VQ ..) g
theorem Cf {m:Int} {t:ZN} :∀{xs:List U2},Wu xs ns->Wu (xs++[.int m t]) (ns++[m]):=by
 induction ns with
 |nil=>exact λh=>(IA.i0 h).symm▸ .cons _ _ .nil
 |cons n r a=>exact λh=>aG (IA.ic h) λu l e b=>e.symm▸ .cons _ _ (a b)
theorem Cg {m:Vb} {t:ZN} {ns:List Vb}:∀{xs:List U2},dk ns xs->dk (ns++[m]) (xs++[.str m t]):=by
 induction ns with
 |nil=>exact λh=>h.i0.symm▸ .cons .nil
 |cons n r a=>exact λh=>aG h.ic λu l e b=>e.symm▸ .cons (a b)
theorem cb.app {x:List D}:∀{a b:List U2} {y:List D},cb g x a->cb g y b->cb g (x++y) (a++b):=by
 induction x with
 |nil=>intro a b y h k;refine ac h.i0 ?_;exact k
 |cons n r c=>intro a b y h k;exact h.ec λt u q s=>(.cons q (c s k))
theorem Ch {x:U2} (h:DR g d x) {ns:List D} (k:cb g ns xs):cb g (ns++[d]) (xs++[x]):=cb.app k (.cons h .nil)
theorem JM {a:Nat} {x:U2} (f:VR fz U v x):Gh c fz U (EP c.w.params a v) (λn r1 p=>VR n r1 p x):=by
 induction v with
 |ref j=>
  refine Gh.run λS K i=>?_;have l:OK (UV (V.ref j,S,[])) K:=i _ _ _ λm e ρ' h k q g=>(cE e (Le.refl _) g (f.mono k q))
  unfold EP;dsimp only;induction S.H[a]? with
  |none=>exact l
  |some o=>induction o with
   |«dats» ds=>refine OK.bnd λd r s t=>i _ _ _ λm e ρ' h k q g=>?_;exact ca (qc (c:=c) 9 e ρ' (.ref j) S d r s t (af.mp m).1 e ρ' h (Le.refl _) (U4 _) g) λu y z A=>(cE u y z (.dat (A _ (f.mono k q))))
   |_=>exact l
 |_=>exact Gh.ret λb b k q=>f.mono k q
theorem yt {x:U2} {r:O×Nat} (c:VR fz U v x) (e:LZ v o=UV r):o.live=UX/\r.1.live=UX/\∀{ad ob},OR P fz U o ad ob->∃vs n,ob=bT vs n/\vs.length=r.2/\∀m,OR P fz U r.1 ad (bT (vs++[x]) m):=by
 induction o with
 |«list» l=>obtain rfl:=U0 e;exact⟨rfl,rfl,λb=>aG b λvs n e a=>(cY vs n e a.length (λm=>(bL _ m rfl (a.snoc c))))⟩
 |«ints» l=>induction v with
  |int m=>obtain rfl:=U0 e;exact c.e_int λt=>⟨rfl,rfl,λb=>aG b λvs n e a=>(cY vs n e (IntsAre.len a) (λm=>(bL _ m rfl (Cf a))))⟩
  |_=>exact nn e
 |«strs» l=>induction v with
  |str m=>obtain rfl:=U0 e;exact c.e_str λt=>⟨rfl,rfl,λb=>aG b λvs n e a=>(cY vs n e (dk.len a) (λm=>(bL _ m rfl (Cg a))))⟩
  |_=>exact nn e
 |«dats» l=>induction v with
  |dat d=>obtain rfl:=U0 e;exact⟨rfl,rfl,λb=>aG b λvs n e a=>(cY vs n e (cb.len a) (λm=>(bL _ m rfl (Ch c.i_dat a))))⟩
  |_=>exact nn e
 |_=>exact nn e
theorem JN (g:av fz U vs xs):ae c A fz U (L6 c.w.params vs) (call (.builtin "list.append") xs []) au:=by refine(ae.call2 (t:=λxs=>call (.builtin "list.append") xs []) g ?_:);intro w v y x j b;refine(ae.asR (t:=λy=>call (.builtin "list.append") [y,x] []) j ?_:);intro i ad l;exact ae.ghost (JM b) λH I J L m d=>ae.run λS K p=>OK.getO λo r u e=>b9 (yt (P:=c.w.params) d e) λz B a=>OK.upd (f:=λvs=>vs++[x]) (ai m l) p r.2 u z B (λC ρ' M k q D=>(yt (d.mono k q) e).2.2 D) (λa a=> .none) λs Q vs n E F G h=>JL E (ac F G) h
end
section
theorem tJ:∀{xs:List U2},Wu xs ns->Wu xs.dropLast ns.dropLast:=by
 induction ns with
 |nil=>exact λh=>(IA.i0 h).symm▸ .nil
 |cons n r c=>
  intro xs h;refine aG (IA.ic h) λt u e b=>(ac e ?_)
  cases r with
  |nil=>exact(IA.i0 b).symm▸ .nil
  |cons m s=>refine aG (IA.ic b) λv w e a=>?_;subst e;exact .cons n t (c b)
theorem qx (xs:List U2):xs.eraseIdx (xs.length - 1)=xs.dropLast:=List.eraseIdx_length_sub_one
theorem EQ {l:List Int} (e:HT o=UV l):o= .ints l:=by
 induction o with
 |«ints»=>exact congrArg O.ints (U0 e)
 |_=>exact nn e
theorem JO (z:av fz U vs xs):ae c A fz U (L7 vs) (call (.builtin "list.pop") xs []) au:=by refine(ae.call1 (t:=λxs=>call (.builtin "list.pop") xs []) z ?_:);intro v x B;refine(ae.asR (t:=λx=>call (.builtin "list.pop") [x] []) B ?_:);refine λi ad r=>ae.run λS K C=>OK.getO λo l u D=>C _ _ _ λa E ρ' s Q k q b y=>?_;have e:=EQ D;subst e;refine aj (b.hr.at u rfl (ai q r)) λw g G=>aG G λvs n e h=>?_;subst e;have a:=a.1;have j:=IntsAre.len h;refine bI (vk h (gK (d:=0) (Yx a.1 YC))) λt H=>?_;refine YM PySem.F.slot_list_pop (T:="list") (aA _ g rfl) acf (PySem.F.args_list_pop_1 _) (MeetsSeq.list_pop_last ad vs.toArray n _ (by refine ac VH (ac (Wh) (ac j ?_));exact H) (j.symm▸a.2:vs.length<=_)) ⟨g,?_⟩;refine bI (kD (f:=λxs=>xs.eraseIdxIfInBounds (vs.toArray.size - 1)) (vs':=vs.dropLast) g ?_) λm I=>y.at (b.tz (b.hr.upd u rfl (ai q r) (VQ ..) I (bL _ m rfl (tJ h)))) (.int _ _);have p:vs.length - 1 < vs.length:=Yx (ac j a.1) YC;simp only[Yp,VH,acN,p,dif_pos,qx]
noncomputable def L8 (m:Int):U2->Bool
 | .int a _=>a==m
 |_=>UY
theorem zU (m:Int) :∀{xs:List U2},Wu xs ns->((xs.countP (L8 m):Nat):Int)=bB ns m:=by
 induction ns with
 |nil=>exact λh=>(IA.i0 h).symm▸rfl
 |cons n r a=>
  intro xs h;refine aG (IA.ic h) λt u e b=>(ac e ?_)
  refine(congrArg adf (List.countP_cons ..)).trans (?_:_=match decide (n=m) with|true=>1+bB r m|false=>bB r m);refine aD (a b) ?_;rw[fh];refine(?_:((_+if(n==m)=UX then 1 else 0:Nat):Int)=_);cases n==m with
  |true=>exact abj ((u.countP (L8 m):Nat):Int) 1
  |false=>rfl
theorem ES:∀{xs:List U2},Wu xs ns->∀y∈xs,∃a t,y= .int a t:=by
 induction ns with
 |nil=>intro xs h y c;rw[IA.i0 h] at c;exact nomatch c
 |cons n r d=>
  intro xs h y c;refine aG (IA.ic h) λt u η b=>?_;subst η;rcases List.mem_cons.mp c with rfl|c
  ·exact(sU n t rfl)
  ·exact d b y c
theorem Ci (g:av fz U vs xs):ae c A fz U (Cc vs) (call (.builtin "list.count") xs []) au:=by
 refine(ae.call2 (t:=λxs=>call (.builtin "list.count") xs []) g ?_:);intro v w x z h i;refine(ae.asI (t:=λz=>call (.builtin "list.count") [x,z] []) i ?_:);intro m u;refine(ae.lookI (t:=λx=>call (.builtin "list.count") [x, .int m u] []) h ?_:);refine λl ad S K j=>j _ _ _ λr o ρ' s Q k q b y xs n d f=>?_;refine YM PySem.F.slot_list_count (T:="list") (aA _ d rfl) PySem.F.entry_list_count (PySem.F.args_list_count_2 _ _) (MeetsSeq.list_count ad xs.toArray n (.int m u) (L8 m) λy p=>?_) ⟨d,?_⟩
 ·exact p9 (ES f y (List.mem_toArray.mp p)) λa t e=>e▸MeetsSeq.EqGives.int a m t u
 ·exact y.at (b.ta b.hr) (aD (zU m f) (.int _ _))
theorem Cj:∀{ss:List Vb} {xs:List U2},mF vs=UV ss->av g U vs xs->dk ss xs:=by
 induction vs with
 |nil=>intro ss xs h b;obtain rfl:=U0 h;refine(b.i0).symm▸ ?_;exact .nil
 |cons v r d=>
  intro ss xs h q;refine q.ec λx u a b=>?_;induction v with
  |str s=>
   refine a.e_str λt=>?_;dsimp only[mF] at h;induction c:mF r with
   |none=>rw[c] at h;exact nn h
   |some l=>rw[c] at h;obtain rfl:=U0 h;exact .cons (d c b)
  |_=>exact nn h
theorem ET {vs:List D}:∀{ss:List Vb} {xs:List U2},qw vs=UV ss->cb g vs xs->dk ss xs:=by
 induction vs with
 |nil=>intro ss xs h b;obtain rfl:=U0 h;refine(b.i0).symm▸ ?_;exact .nil
 |cons v r e=>
  intro ss xs h q;refine q.ec λx u a b=>?_;induction v using Mine.Internal.D.casesOn with
  |str s=>
   refine bI a.i_str λt c=>(c.symm▸ ?_)
   dsimp only[qw] at h;cases d:qw r with
   |none=>rw[d] at h;exact nn h
   |some l=>rw[d] at h;obtain rfl:=U0 h;exact .cons (e d b)
  |_=>exact nn h
theorem cq.strs {sv:SV} (e:sv.strs=UV ss) (h:cq g U sv xs):dk ss xs:=by
 induction sv with
 |ss l=>obtain rfl:=U0 e;exact h
 |vs l=>exact Cj e h
 |ds l=>exact ET e h
 |_=>exact nn e
theorem s9:∀{ss:List Vb} {xs:List U2},dk ss xs->∃l:List (Vb×ZN),strValues l=xs/\l.map (·.1)=ss
 |_,_, .nil=>⟨[],rfl,rfl⟩
 |_,_, .cons (s:=s) (t:=t) b=>by exact aj (s9 b) λl a c=>(aA ((s,t)::l) ((a)▸rfl) ((c)▸rfl))
theorem EU (f:av fz U vs xs):ae c A fz U (HU vs) (call (.builtin "str.join") xs []) au:=by
 refine(ae.call2 (t:=λxs=>call (.builtin "str.join") xs []) f ?_:);intro v w x z g h;refine(ae.asS (t:=λx=>call (.builtin "str.join") [x,z] []) g ?_:);intro x t;refine(ae.look (t:=λz=>call (.builtin "str.join") [.str x t,z] []) h ?_:);intro r ad S K i;obtain⟨b,sv⟩:=r;induction b with
 |false=>exact Vd
 |true=>
  dsimp only;induction j:sv.strs with
  |none=>exact Vd
  |some ss=>exact i _ _ _ λm o ρ' s Q k q a y xs n p u=>aj (s9 (u.strs j)) λl d e=>iw a.tk (SC.join (D:=ad) (l:=l) (texts:=ss) ⟨_,p,rfl,n,d.symm▸rfl⟩ e m.1 λC E B=>y.at (a.to a.hr (.inr ‹_›)) (.str _ _))
theorem Ck (b:av fz U vs xs):ae c A fz U (Cd vs) (call (.builtin "str.strip") xs []) au:=by refine(ae.call1 (t:=λxs=>call (.builtin "str.strip") xs []) b ?_:);intro v x d;refine(ae.asS (t:=λx=>call (.builtin "str.strip") [x] []) d ?_:);exact λa a=>ae.lift rfl λs Q h y=>call_gives F.slot_str_strip (XB _ _ _) F.entry_str_strip (F.args_str_strip_1 _) (gives_str_strip _ _) (post_val_or_made (λa=>fits_stripped _ _ _ h.1) λe k=>y _ _ λa a a a=> .str _ _)
theorem Cm (b:av fz U vs xs):ae c A fz U (Ce vs) (call (.builtin "str.isspace") xs []) au:=by refine(ae.call1 (t:=λxs=>call (.builtin "str.isspace") xs []) b ?_:);intro v x d;refine(ae.asS (t:=λx=>call (.builtin "str.isspace") [x] []) d ?_:);exact λa a=>ae.lift rfl λs Q h y=>call_gives F.slot_str_isspace (XB _ _ _) F.entry_str_isspace (F.args_str_isspace_1 _) (gives_str_isspace _ _) (y _ s.toks λa a a a=> .bool _)
theorem zV (b:av fz U vs xs):ae c A fz U (yr vs) (call (.builtin "str.rstrip") xs []) au:=by refine(ae.call1 (t:=λxs=>call (.builtin "str.rstrip") xs []) b ?_:);intro v x d;refine(ae.asS (t:=λx=>call (.builtin "str.rstrip") [x] []) d ?_:);exact λa a=>ae.lift rfl λs Q h y=>call_gives F.slot_str_rstrip (XB _ _ _) F.entry_str_rstrip (F.args_str_rstrip_1 _) (gives_str_rstrip _ _) (post_val_or_made (λa=>fits_stripped _ _ _ h.1) λe k=>y _ _ λa a a a=> .str _ _)
theorem EV (b:av fz U vs xs):ae c A fz U (HV vs) (call (.builtin "int.bit_length") xs []) au:=by refine(ae.call1 (t:=λxs=>call (.builtin "int.bit_length") xs []) b ?_:);intro v x d;refine(ae.asI (t:=λx=>call (.builtin "int.bit_length") [x] []) d ?_:);exact λa a=>ae.lift rfl λs Q h y=>call_int_bit_length (y _ _ λa a a a=> .int _ _)
end
noncomputable def EW:V->Option (Option Int)
 | .none=>UV UW
 | .int i=>UV (UV i)
 |_=>UW
noncomputable def jm:List Int->List Int
 |[]=>[]
 |[a]=>[a]
 |_::r=>jm r
noncomputable def zW:Int->Bool
 | .negSucc 0=>UX
 |_=>UY
def L9 (v:V) (lo hi:Option Int):M V:=match lo,hi with
 |some k,UW=>bX (zW k) (lookI v λns=>ej (.ints (jm ns)) [ns.length<=U9])
 |_,_=>fail
def Ma (v l h:V):M V:=cU (EW l) λlo=>cU (EW h) λhi=>match v with
 | .str x=>dW (.str (Wr x lo hi)) (x.length<=U9)
 |v=>L9 v lo hi
def Mb (op:UnaryOp) (v:V):M V:=match op with
 | .USub=>asI v λa=>ret (.int (-a))
 |_=>fail
section
theorem yu {x:U2} {o:Option Int} (e:EW v=UV o) (h:VR g U v x):∃p:Option (Int×ZN),ads p=x/\p.map (·.1)=o:=by
 induction v with
 |none=>exact⟨UW,h.i_none.symm,U0 e⟩
 |int i=>exact bI h.i_int λt q=>⟨UV (i,t),q.symm,U0 e⟩
 |_=>exact nn e
theorem yw {p:Option (Int×ZN)}:acg (ads p) (p.map (·.1)):=by
 induction p with
 |none=>exact .none
 |some q=>exact .int _ _
theorem EY (ns:List Int):jm ns=ns.drop (ns.length - 1):=by
 induction ns with
 |nil=>rfl
 |cons n r a=>cases r with
  |nil=>rfl
  |cons=>exact a
theorem oM {o i:U2} {T id:String} {ops:List U2} (e:s.TypeIs o T)
  (hl:Yq (.type T) "__getitem__"=pure (UV (.builtin id))) (h:Vf (Vg J w) A (Yu o i) Q E s)
  (hs:aa6 slice UY o i=aaH ops (Yu o i)):Vf (Vg J w) A (WN value slice o i) Q E s:=by
 dsimp only[WN]
 refine UZ (ac (getitemInPython_of_ne e.not_modules) ?_)
 refine UZ (Xa e hl ?_)
 have c:Vf (Vg J w) A (aa6 slice UY o i) (λr b=>Vf (Vg J w) A (YY value o r >>= λa=>pure r) Q E b) E s:=by exact ac hs (wpAny_operating (VF h (λr b d=>UZ (Zy (U3 d))) λa a x=>x))
 first
  |exact U3 (UZ c)
  |exact UZ (U3 (UZ c))
  |exact UZ c
theorem JP {k:Int} (h:zW k=UX):k= -1:=by
 induction k with
 |ofNat=>exact ff h
 |negSucc n=>cases n with
  |zero=>rfl
  |succ=>exact ff h
noncomputable abbrev rL (value:Vs) (lo hi:Option Vs) (p pos:XN) (x y z:U2):Xh U2:=abb "slice" [y,z, .none] >>= λi=>WK pos >>= λa=>WN value (.Slice lo hi UW p) x i
theorem JQ {p:XN} {a:V} {x:U2} {f g:Option Int} (py:acg y f) (m:acg z g) (q:VR fz U a x):ae c A fz U (L9 a f g) (rL value lo hi p pos x y z) au:=by
 induction f with
 |none=>exact ae.fail
 |some h=>
  induction g with
  |some=>exact ae.fail
  |none=>
   refine(?_:ae c A fz U (bX (zW h) (lookI a λns=>ej (.ints (jm ns)) [ns.length<=U9])) _ au);induction r:zW h with
   |false=>exact ae.fail
   |true=>rw[JP r] at py;refine ae.lookI (t:=(rL value lo hi p pos · y z)) q λns ad S K u=>u _ _ _ λv w ρ' s Q k C i B j n g1 l=>?_;have d:Le s.heap (s.heap.push {cls:= .type "slice",data:= .fields [y,z, .none].toArray}):=λb o e=>Vw _ e;refine UZ (V4 (hd:=by size_fits) (UZ (VL (oM (ops:=[.ref s.heap.objs.size, .ref ad]) (T:="list") ⟨_,d _ _ g1,rfl⟩ F.slot_list_getitem.lookup (wpAny_getItem_list_slice ⟨_,d _ _ g1,rfl,n,rfl⟩ (Z3 ..) py m .none (by simp) ?_ ((IntsAre.len l).symm▸v.1:j.length<=_)) (by rfl)))));exact dc.new (ob:=bT (slicePick j.toArray (UV (-1)) UW UW).toList 0) B (i.tz (i.hr.le d)) rfl (bL _ 0 rfl ((EY ns).symm▸PySem.W.kmk_from_neg l (by decide))) rfl (Vr _)
theorem JR {p:XN} {t:Vb} {tk:ZN} {pl a:Option (Int×ZN)}:ae c A fz U (dW (.str (Wr t (pl.map (·.1)) (a.map (·.1)))) (t.length<=U9)) (rL value lo hi p pos (.str t tk) (ads pl) (ads a)) au:=
 ae.run λS K f=>f _ _ _ λg h ρ' s Q k m d i=>iw d.tk (UZ (V4 (hd:=by size_fits) (UZ (VL (subscriptTail_ops (ops:=[.ref s.heap.objs.size, .str t tk]) (XB _ _ _) F.slot_str_getitem.lookup (wpAny_getItem_str_slice (l:=pl) (u:=a) (st:=UW) (cE _ (VV _ rfl) rfl rfl) rfl (post_val_or_str ⟨U1 (Txt.slice_le t _ _) g.1,λn q j=>i.at (d.to (d.hr.le λb o e=>Vw _ e) (.inr ‹_›)) (.str _ _)⟩)) (by rfl) (λr=>by cases value<;>rfl))))))
theorem JS {p:XN} {a l h:V} {x:U2} (b:VR fz U a x) (hl:VR fz U l y) (d:VR fz U h z):ae c A fz U (Ma a l h) (rL value lo hi p pos x y z) au:=by
 refine ae.opt λm e=>ae.opt λn f=>?_;refine aj (yu e hl) λo g i=>?_;refine aj (yu f d) λq j k=>(aD g (aD i (aD j (aD k ?_))))
 induction a with
 |str t=>exact b.e_str λr=>JR
 |_=>exact JQ yw yw b
theorem rM {op:UnaryOp} {x:U2} (b:VR fz U v x):ae c A fz U (Mb op v) (unaryOp op x) au:=by
 induction op with
 |USub=>refine(ae.asI (t:=unaryOp .USub) b ?_:);exact λi t=>ae.lift rfl λs Q h y=>P.neg_int (y _ _ λa a a a=> .int _ _)
 |_=>exact ae.fail
end
def SV.ints:SV->Option (List Int)
 | .ns l=>UV l
 | .vs l=>lg l
 | .ds l=>jy l
 |_=>UW
def SV.cat (a b:SV):Option SV:=(zR a.ints b.ints λx y=>UV (.ns (x++y))).or ((zR a.strs b.strs λx y=>UV (.ss (x++y))).or (match a,b with
 | .vs x, .vs y=>UV (.vs (x++y))
 | .ds x, .ds y=>UV (.ds (x++y))
 |_,_=>UW))
noncomputable def jF (k:Int):List Int->Bool
 |[]=>UY
 |a::r=>decide (a=k)||jF k r
def EZ (a b:V):M V:=bnd (look a) λr=>bnd (look b) λc=>bX r.1 (bX c.1 (cU (r.2.cat c.2) λsv=>ej sv.toO [r.2.len+c.2.len<=U9]))
section
theorem cq.ints {sv:SV} {ss:List Int} (e:sv.ints=UV ss) (h:cq g U sv xs):Wu xs ss:=by
 induction sv with
 |ns l=>obtain rfl:=U0 e;exact h
 |vs l=>exact uZ e h
 |ds l=>exact oI e h
 |_=>exact nn e
theorem vt {x:List Int}:∀{a b:List U2} {y:List Int},Wu a x->Wu b y->Wu (a++b) (x++y):=by
 induction x with
 |nil=>exact λh k=>(IA.i0 h).symm▸k
 |cons n r c=>exact λh k=>aG (IA.ic h) λt u e q=>e.symm▸ .cons n t (c q k)
theorem vx {x:List Vb}:∀{a b:List U2} {y:List Vb},dk x a->dk y b->dk (x++y) (a++b):=by
 induction x with
 |nil=>exact λh k=>h.i0.symm▸k
 |cons n r c=>exact λh k=>aG h.ic λt u e q=>e.symm▸ .cons (c q k)
theorem av.app {a b:List U2} {x y:List V} (h:av g U x a) (k:av g U y b):av g U (x++y) (a++b):=nF h k
theorem cq.cat {a b sv:SV} (e:a.cat b=UV sv) (h1:cq g U a xs) (h2:cq g U b ys):cq g U sv (xs++ys):=by
 refine(rJ e).elim (λe=>?_) λe=>?_
 ·exact cy (mE e) λx y e1 e2 e3=>U0 e3▸vt (h1.ints e1) (h2.ints e2)
 refine(rJ e).elim (λe=>?_) λe=>?_
 ·exact cy (mE e) λx y e1 e2 e3=>U0 e3▸vx (h1.strs e1) (h2.strs e2)
 induction a with
 |vs x=>induction b with
  |vs y=>exact aD (U0 e) (av.app h1 h2)
  |_=>exact nn e
 |ds x=>induction b with
  |ds y=>exact aD (U0 e) (cb.app h1 h2)
  |_=>exact nn e
 |_=>exact nn e
theorem E0 {a b:V} {x:U2} (j:VR fz U a x) (l:VR fz U b y):ae c A fz U (EZ a b) (Xy .Add x y) au:=by refine ae.look2 (k:=λr d=>bX r.1 (bX d.1 (cU (r.2.cat d.2) λsv=>ej sv.toO [r.2.len+d.2.len<=U9]))) (Xy .Add) j l ?_;intro r d ad C S K o;refine OK.when λp=>OK.when λt=>OK.opt λsv u=>o _ _ _ λv w ρ' s Q k q z B e n f m g1 g h i=>?_;rw[p] at g1;rw[t] at h;refine P.add_list (items:=e.toArray) (items2:=f.toArray) (n:=n) (n2:=m) g1 h ?_ (ac VH (ac VH (ac g.len (ac i.len v.1))));exact ac (show e.toArray++f.toArray=(e++f).toArray from List.append_toArray ..) (dc.new (ob:=bT (e++f) 0) B z rfl (cq.toO (n:=0) ((cq.cat u g i).mono (Le.refl _) (Vn _ _))) (SV.toO_live _) (Vr _))
end
noncomputable def yx (f:α->α->Bool):List α->List α->Bool
 |[],[]=>UX
 |a::x,b::y=>f a b&&yx f x y
 |_,_=>UY
def eO (x y:List Int):Bool:=yx (λa b=>decide (a=b)) x y
def Us (x y:List Vb):Bool:=yx sq x y
theorem JT {f:α->α->Bool} (hf:∀{a b},f a b=UX↔a=b) {x:List α}:∀{y:List α},yx f x y=UX↔x=y:=by
 induction x with
 |nil=>intro y;cases y with
  |nil=>exact⟨λc=>rfl,λc=>rfl⟩
  |cons=>exact⟨λh=>ff h,λh=>nomatch h⟩
 |cons a x d=>intro y;cases y with
  |nil=>exact⟨λh=>ff h,λh=>nomatch h⟩
  |cons b y=>exact(ac0 (x:=f a b) (y:=yx f x y)).trans ((and_congr hf d).trans List.cons_eq_cons.symm)
theorem JU {x y:List Int}:eO x y=UX↔x=y:=JT decide_eq_true_iff
noncomputable def eP:Bool->List acO->acO
 |true,l=> .list l
 |false,l=> .tuple l
def E1 (f:SV->Option (List α)) (c:List α->List α->Bool) (g:α->acO) (t:Bool) (a b:SV):Option (Bool×Prop):=zR (f a) (f b) λx y=>UV (c x y,VP (eP t (x.map g))=UX/\VP (eP t (y.map g))=UX)
def Mc (t:Bool) (a b:SV):Option (Bool×Prop):=(E1 SV.ints eO .int t a b).or (E1 SV.strs Us .str t a b)
def Md (op:YV) (e:Bool) (p:Prop):M V:=match op with
 | .Eq=>dW (.bool e) p
 | .NotEq=>dW (.bool (!e)) p
 |_=>fail
def E2 (op:YV) (a b:V):M V:=bnd (look a) λr=>bnd (look b) λc=>bX (r.1==c.1) (cU (Mc r.1 r.2 c.2) λe=>Md op e.1 e.2)
section
theorem zX {f:α->α->Bool} {g:α->acO} (c:∀a b,Ys (g a) (g b)=f a b) (x:List α):∀y:List α,XH (x.map g) (y.map g)=yx f x y:=by
 induction x with
 |nil=>intro y;cases y<;>(simp only[YJ,XH]<;>rfl)
 |cons a x d=>intro y;cases y with
  |nil=>simp only[YJ,XH]<;>rfl
  |cons b y=>simp only[YJ,XH,c,d]<;>rfl
theorem qy:∀{xs:List U2},Wu xs ns->ReadsAll h xs (ns.map .int) []:=by
 induction ns with
 |nil=>exact λk=>(IA.i0 k).symm▸ .nil
 |cons n r a=>exact λk=>aG (IA.ic k) λt u e b=>e.symm▸ .cons (as:=[]) (bs:=[]) (.int n t) (a b)
theorem zY {ns:List Vb}:∀{xs:List U2},dk ns xs->ReadsAll h xs (ns.map .str) []:=by
 induction ns with
 |nil=>exact λk=>k.i0.symm▸ .nil
 |cons n r a=>exact λk=>aG k.ic λt u e b=>e.symm▸ .cons (as:=[]) (bs:=[]) (.str n t) (a b)
theorem vy {t:Bool} {vs:List U2} {n:Nat} {ds:List acO} (h1:h.get? a=UV (eT t vs n)) (h2:ReadsAll h vs ds []):∃as,Reads h (.ref a) (eP t ds) as:=by
 induction t with
 |false=>exact⟨_, .tuple h1 rfl rfl h2⟩
 |true=>exact⟨_, .list h1 rfl rfl h2⟩
theorem Me (t:Bool) (x y:List acO):Ys (eP t x) (eP t y)=XH x y:=by cases t<;>(dsimp only[eP];rw[Ys])
structure Q1 (h:Vc) (ad bd:U6) (e:Bool):Prop where
 ok:∃d d' as bs,Reads h (.ref ad) d as/\Reads h (.ref bd) d' bs/\VP d=UX/\VP d'=UX/\Ys d d'=e
theorem yz {f:SV->Option (List α)} {i:List α->List α->Bool} {g:α->acO} {t:Bool} {a b:SV} {e:Bool×Prop} {j:U6} {n m:Nat} (hf:∀{sv l xs},f sv=UV l->cq fz U sv xs->ReadsAll h xs (l.map g) []) (p:∀x y,XH (x.map g) (y.map g)=i x y) (k:E1 f i g t a b=UV e) (o:e.2)
  (h1:h.get? ad=UV (eT t xs n)) (h2:h.get? j=UV (eT t ys m)) (g1:cq fz U a xs) (q:cq fz U b ys):Q1 h ad j e.1:=
 cy (mE k) λx y r s d=>by have d:=U0 d;subst d;exact bI (vy h1 (hf r g1)) λc u=>bI (vy h2 (hf s q)) λc v=>⟨_,_,_,_,u,v,o.1,o.2,(Me ..).trans (p x y)⟩
theorem Cn {t:Bool} {a b:SV} {e:Bool×Prop} {d:U6} {n m:Nat} (k:Mc t a b=UV e) (f:e.2)
  (h1:h.get? ad=UV (eT t xs n)) (h2:h.get? d=UV (eT t ys m)) (g1:cq fz U a xs) (g:cq fz U b ys):Q1 h ad d e.1:=
 (rJ k).elim (λk=>yz (λe k=>qy (k.ints e)) (zX λc c=>by rw[Ys,fh]) k f h1 h2 g1 g) λk=>yz (λe k=>zY (k.strs e)) (zX λc c=>by rw[Ys,vj]) k f h1 h2 g1 g
theorem E3 (D:A.units+64 < cLine) {a b:V} {x:U2} (G:VR fz U a x) (H:VR fz U b y):ae c A fz U (E2 op a b) (WZ op x y) au:=by
 refine ae.look2 (k:=λr f=>bX (r.1==f.1) (cU (Mc r.1 r.2 f.2) λe=>Md op e.1 e.2)) (WZ op) G H ?_;intro r f ad O S K E;refine OK.when λt=>OK.opt λe F=>?_;have t:=eq_of_beq t;induction op with
 |Eq=>exact E _ _ _ λg h ρ' s Q k q i j I n J m g1 l o p=>(Cn F g.1 g1 (ac t o) l p).ok.elim λd u=>BG u λL M N v w z B C=>eq_dataH v w z B D (ac C (j.at i (.bool _)))
 |NotEq=>exact E _ _ _ λg h ρ' s Q k q i j I n J m g1 l o p=>(Cn F g.1 g1 (ac t o) l p).ok.elim λd u=>BG u λL M N v w z B C=>ne_dataH v w z B D (ac C (j.at i (.bool _)))
 |_=>exact Vd
end
noncomputable def rep :Nat->List α->List α
 |0,_=>[]
 |n+1,l=>l++rep n l
def SV.rep (sv:SV) (n:Nat):SV:=match sv.ints with
 |some l=> .ns (Mine.Internal.rep n l)
 |none=>match sv with
  | .vs l=> .vs (Mine.Internal.rep n l)
  | .ss l=> .ss (Mine.Internal.rep n l)
  | .ds l=> .ds (Mine.Internal.rep n l)
  | .ns l=> .ns (Mine.Internal.rep n l)
def vz (v:V) (k:Int):M V:=bnd (look v) λr=>bX r.1 (ej (r.2.rep k.toNat).toO [-(2^63:Int)<=k/\k < 2^63/\r.2.len*k.toNat<=2^24])
section
theorem vA (xs:List U2):∀(n:Nat) (acc:Array U2),List.foldl (λa b=>a++b) acc (V8 n xs.toArray)=acc++(rep n xs).toArray
 |0,acc=>by simp[rep]
 |n+1,acc=>by refine ac adg ?_;rw[Zj,vA xs n];refine ac (show rep (n+1) xs=xs++rep n xs from rfl) ?_;simp
theorem yA:∀n:Nat,rep n ([]:List α)=[]
 |0=>rfl
 |n+1=>ac (show rep (n+1) ([]:List α)=[]++rep n [] from rfl) (ac (yA n) rfl)
theorem JV (xs:List U2) (n:Nat):List.foldl (λb c=>b++c) #[] (V8 (if xs.toArray.isEmpty=UX then 0 else n) xs.toArray)=(rep n xs).toArray:=by
 rw[vA];induction xs using VE with
 |nil=>simp only[yA];simp[rep]
 |cons a r=>simp
theorem JW {l:U6} {x:Int} (hl:s.heap.get? l=UV (bT xs k)) (d: -(2^63:Int)<=x) (e:x < 2^63) (hsz:xs.length*x.toNat<=2^24)
  (h:Q (.ref s.heap.objs.size) {s with heap:=s.heap.push (bT (rep x.toNat xs) 0)}):
  Vf (Vg c.prog c.w) A (Xy .Mult (.ref l) (.int x u)) Q E s/\Vf (Vg c.prog c.w) A (Xy .Mult (.int x u) (.ref l)) Q E s:=by
 have a:xs.toArray.size*x.toNat<=2^24:=ac VH hsz
 have b:∀{g:U2->U7->Prop},Vf (Vg c.prog c.w) A (call (.builtin "list.__mul__") [.ref l, .int x u]) Q g s:=λ{g}=>
  YM F.slot_list_mul (aA _ hl rfl) F.entry_list_mul (F.args_list_mul_2 _ _)
   (AutoListH.list___mul___list_int_3 l xs.toArray k x u (by simp[YT];exact⟨d,e⟩) (by lia) (by simp[Zk,U9];rw[VH] at a;exact a))
   ⟨hl,by rw[JV];exact h⟩
 constructor
 ·exact wpAny_binaryOp_repeat_ref (T:="list") (U:="int") (by decide) (aA _ hl rfl) (λf=>ZW f x u) noFill_list_mul F.fills_int_mul F.slot_int_rmul repeat_list F.slot_int_index.lookup
   (YM F.slot_int_rmul (ZW s x u) F.entry_int_rmul (F.args_int_rmul_2 _ _) (int___rmul___int_list x u l xs.toArray k) ⟨hl,rfl,(aA _ hl rfl),b⟩)
 ·exact lm_binaryOp_repeat_right (T:="list") (U:="int") (by decide) (λf=>ZW f x u) (aA _ hl rfl) F.fills_int_mul noFill_list_mul F.slot_int_mul lm_noRepeat_int repeat_list F.slot_int_index.lookup
   (YM F.slot_int_mul (ZW s x u) F.entry_int_mul (F.args_int_mul_2 _ _) (int___mul___int_list x u l xs.toArray k) ⟨hl,rfl,(aA _ hl rfl),b⟩)
theorem pd (h:Wu xs ns):∀n,Wu (rep n xs) (rep n ns)
 |0=> .nil
 |n+1=>vt h (pd h n)
theorem cq.rep {sv:SV} (h:cq g U sv xs) (n:Nat):cq g U (sv.rep n) (Mine.Internal.rep n xs):=by
 unfold SV.rep;induction b:sv.ints with
 |some l=>exact pd (h.ints b) n
 |none=>
  induction sv with
  |vs l=>
   induction n with
   |zero=>exact av.nil
   |succ n a=>exact av.app h a
  |ds l=>
   induction n with
   |zero=>exact DX.nil
   |succ n a=>exact cb.app h a
  |ss l=>
   induction n with
   |zero=>exact dk.nil
   |succ n a=>exact vx h a
  |ns l=>exact pd h n
theorem vB {x:U2} {k:Int} (t:U2->Xh U2) (e:∀{s:U7} {Q:U2->U7->Prop} {l:U6},Vf (Vg c.prog c.w) A (Xy .Mult (.ref l) (.int k u)) Q bE s/\Vf (Vg c.prog c.w) A (Xy .Mult (.int k u) (.ref l)) Q bE s->Vf (Vg c.prog c.w) A (t (.ref l)) Q bE s) (f:VR fz U v x):ae c A fz U (vz v k) (t x) au:=
 ae.look f λr ad S K g=>OK.when λh=>g _ _ _ λa i ρ' s Q m q j y o n b d=>e (JW (by rw[h] at b;exact b) a.1.1 a.1.2.1 (ac d.len a.1.2.2) (y.new j rfl (cq.toO (n:=0) ((d.rep _).mono (Le.refl _) (Vn _ _))) (SV.toO_live _) (Vr _)))
end
noncomputable def qz:WV->Bool
 | .Mult=>UX
 |_=>UY
noncomputable def HW:WV->Bool
 | .Add=>UX
 |_=>UY
def Mf (op:WV) (a b:V):M V:=match a,b with
 | .int i, .int j=>LL op i j
 | .str x, .str y=>zS op x y
 | .str x, .int n=>match qz op with
  |true=>dW (.str (Yj x n)) (MulOk x n)
  |false=>fail
 | .int k,v=>match qz op with
  |true=>vz v k
  |false=>fail
 |v, .int k=>match qz op with
  |true=>vz v k
  |false=>fail
 |v,w=>match HW op with
  |true=>EZ v w
  |false=>fail
def Mg (op:WV) (a b:V):M V:=match a,b with
 | .int i, .int j=>LM op i j
 | .str x, .str y=>zS op x y
 |_,_=>fail
noncomputable def vC:V->Option Bool
 | .none=>UV UX
 | .bool _=>UV UY
 | .int _=>UV UY
 | .str _=>UV UY
 | .ref _=>UV UY
 | .dat (.ints _)=>UV UY
 | .dat (.tup _)=>UV UY
 | .dat (.list _)=>UV UY
 | .dat (.dict _ _)=>UV UY
 |_=>UW
def Mh:YV->Bool->Bool->M V
 | .Eq,a,b=>ret (.bool (a==b))
 | .NotEq,a,b=>ret (.bool (a !=b))
 |_,_,_=>fail
def zZ:YV->V->M V
 | .Is,v=>match vC v with
  |some b=>ret (.bool b)
  |none=>fail
 | .IsNot,v=>match vC v with
  |some b=>ret (.bool (!b))
  |none=>fail
 |_,_=>fail
def HX:YV->Int->V->M V
 | .In,k,v=>bnd (look v) λr=>bX r.1 (cU r.2.ints λl=>ret (.bool (jF k l)))
 | .NotIn,k,v=>bnd (look v) λr=>bX r.1 (cU r.2.ints λl=>ret (.bool (!jF k l)))
 |_,_,_=>fail
def Mi (op:YV) (a b:V):M V:=match a,b with
 | .int i, .int j=>LN op i j
 | .str x, .str y=>LO op x y
 | .bool x, .bool y=>Mh op x y
 |v, .none=>zZ op v
 | .int k,v=>HX op k v
 |v,w=>E2 op v w
section
theorem yB {op:WV} {a b:V} {x:U2} (d:VR fz U a x) (e:VR fz U b y):ae c A fz U (match HW op with|true=>EZ a b|false=>fail) (Xy op x y) au:=by cases op<;>first|exact ae.fail|exact E0 d e
theorem E4 {op:WV} {a:V} {k:Int} {x:U2} (b:VR fz U a x) (d:VR fz U (.int k) y):ae c A fz U (match qz op with|true=>vz a k|false=>fail) (Xy op x y) au:=by refine d.e_int λt=>?_;cases op<;>first|exact ae.fail|exact vB (Xy .Mult · _) (·.1) b
theorem E5 {op:WV} {b:V} {k:Int} {x:U2} (a:VR fz U (.int k) x) (d:VR fz U b y):ae c A fz U (match qz op with|true=>vz b k|false=>fail) (Xy op x y) au:=by refine a.e_int λt=>?_;cases op<;>first|exact ae.fail|exact vB (Xy .Mult _ ·) (·.2) d
theorem JX {op:WV} {a b:V} {x:U2} (e:VR fz U a x) (f:VR fz U b y):ae c A fz U (Mf op a b) (Xy op x y) au:=by
 induction a with
 |int i=>induction b with
  |int j=>refine e.e_int λt=>?_;refine f.e_int λu=>?_;exact ED _ _ _ _ _
  |_=>exact E5 e f
 |str s=>induction b with
  |str g=>refine e.e_str λt=>?_;refine f.e_str λu=>?_;exact EF _ _ _ _ _
  |int k=>
   refine e.e_str λt=>(f.e_int λu=>?_)
   cases op<;>first|exact ae.fail|exact ae.lift rfl λs Q h y=>SB.mul h.1 λl k=>y _ _ λd d d d=> .str _ _
  |_=>exact yB e f
 |_=>induction b with
  |int k=>exact E4 e f
  |_=>exact yB e f
theorem JY {op:WV} {a b:V} {x:U2} (d:VR fz U a x) (e:VR fz U b y):ae c A fz U (Mg op a b) (acb op x y) au:=by
 induction a with
 |int i=>induction b with
  |int j=>refine d.e_int λt=>?_;refine e.e_int λu=>?_;exact EE _ _ _ _ _
  |_=>exact ae.fail
 |str s=>induction b with
  |str f=>refine d.e_str λt=>?_;refine e.e_str λu=>?_;exact EG _ _ _ _ _
  |_=>exact ae.fail
 |_=>exact ae.fail
theorem yC {x:U2} (h:VR fz U v x) (e:vC v=UV b):(x==Xf)=b:=by
 have f:∀{a},x= .ref a->UV UY=UV b->(x==Xf)=b:=λh e=>h▸U0 e;induction v with
 |none=>refine ac h.i_none ?_;exact U0 e
 |bool=>refine ac h.i_bool ?_;exact U0 e
 |int=>exact h.e_int λc=>U0 e
 |str=>exact h.e_str λc=>U0 e
 |ref=>exact aj h.i_ref λa q c=>f q e
 |dat d=>induction d using Mine.Internal.D.casesOn with
  |«ints»=>exact ky h.i_dat.i_ints λc c c q=>f q.1 e
  |«tup»=>exact ky h.i_dat.i_tup λc c c q=>f q.1 e
  |«list»=>exact ky h.i_dat.i_list λc c c q=>f q.1 e
  |«dict»=>exact ky h.i_dat.i_dict λc c c q=>f q.1 e
  |_=>exact nn e
 |_=>exact nn e
theorem E6 {x:U2} (d:VR fz U v x):ae c A fz U (zZ op v) (WZ op x .none) au:=by
 induction op with
 |Is=>
  unfold zZ;dsimp only;induction h:vC v with
  |none=>exact ae.fail
  |some b=>exact ae.lift rfl λs Q a y=>is_none (y _ s.toks (gc (yC d h).symm))
 |IsNot=>
  unfold zZ;dsimp only;induction h:vC v with
  |none=>exact ae.fail
  |some b=>exact ae.lift rfl λs Q a y=>isNot_none (y _ s.toks (gc (ac (yC d h) rfl)))
 |_=>exact ae.fail
theorem yD (k:Int) (l:List Int):l.any (· ==k)=jF k l:=by
 induction l with
 |nil=>rfl
 |cons a r b=>refine ac aaW ?_;rw[b,<-fh];rfl
theorem mH {k:Int} {t:ZN} {x:U2} (i:VR fz U v x):ae c A fz U (HX op k v) (WZ op (.int k t) x) au:=by
 induction op with
 |In=>exact ae.look (t:=WZ .In (.int k t)) i λr ad S K b=>OK.when λd=>OK.opt λl e=>b _ _ _ λj f ρ' s Q m q g y o n a h=>in_list_ints ⟨_,(by rw[d] at a;exact a),rfl,n,rfl⟩ (h.ints e) (ac (yD k l) (y.at g (.bool _)))
 |NotIn=>exact ae.look (t:=WZ .NotIn (.int k t)) i λr ad S K b=>OK.when λd=>OK.opt λl e=>b _ _ _ λj f ρ' s Q m q g y o n a h=>notin_list_ints ⟨_,(by rw[d] at a;exact a),rfl,n,rfl⟩ (h.ints e) (ac (yD k l) (y.at g (.bool _)))
 |_=>exact ae.fail
theorem E7 {a:Bool}:ae c A fz U (Mh op a b) (WZ op (.bool a) (.bool b)) au:=by
 induction op with
 |Eq=>exact ae.lift rfl λs Q d y=>eq_bool (y _ s.toks (gc rfl))
 |NotEq=>exact ae.lift rfl λs Q d y=>ne_bool (y _ s.toks (gc rfl))
 |_=>exact ae.fail
theorem JZ (g:A.units+64 < cLine) {a b:V} {x:U2} (d:VR fz U a x) (e:VR fz U b y):ae c A fz U (Mi op a b) (WZ op x y) au:=by
 have f:ae c A fz U (E2 op a b) (WZ op x y) au:=E3 g d e;induction b with
 |none=>clear f;obtain rfl:=e.i_none;cases a<;>exact E6 d
 |int j=>induction a with
  |int i=>refine d.e_int λt=>?_;refine e.e_int λu=>?_;exact EH _ _ _ _ _
  |_=>exact f
 |str j=>induction a with
  |str i=>refine d.e_str λt=>?_;refine e.e_str λu=>?_;exact EI _ _ _ _ _
  |int i=>refine d.e_int λt=>?_;exact mH e
  |_=>exact f
 |bool j=>induction a with
  |bool i=>obtain rfl:=d.i_bool;obtain rfl:=e.i_bool;exact E7
  |int i=>refine d.e_int λt=>?_;exact mH e
  |_=>exact f
 |_=>induction a with
  |int i=>refine d.e_int λt=>?_;exact mH e
  |_=>exact f
end
abbrev bC:=List (Nat×(List V->M V))
noncomputable def oN (a:Nat):bC->Option (List V->M V)
 |[]=>UW
 |(b,m)::r=>match VA a b with
  |true=>UV m
  |false=>oN a r
def TB (R:α->β->Prop):List α->List β->Prop
 |[],[]=>True
 |a::x,b::y=>R a b/\TB R x y
 |_,_=>False
theorem TB.get {R:α->β->Prop} {d:α} {c:β} (hd:R d c) {x:List α}:∀{y:List β},TB R x y->∀k,R (x.getD k d) (y.getD k c):=by
 induction x with
 |nil=>intro y h k;cases y with
  |nil=>exact hd
  |cons=>exact h.elim
 |cons a x e=>intro y h k;cases y with
  |nil=>exact h.elim
  |cons b y=>cases k with
   |zero=>exact h.1
   |succ k=>exact e h.2 k
end
variable {Tb:bC}
section
def rN (C:Ec) (t:oG):M Fl:=match gy C t.scope.names with
 |some cl=>bnd (u9 (.fn t cl)) λn=>bnd (jV C t.name (.ref n)) λa=>ret .next
 |none=>fail
section
theorem HR.made (x:HR c fz U H h) {T:fB} (A:T∈c.TT) (g:∀t∈c.TT,t.P=T.P->t=T) {c':U6} {oc:Xg} (u:X1 T.P h h') (w:h.objs.size<=c') (I:h'.get? c'=UV oc)
  (n:h'.CodeRec (.ref c') T.qual) (J:h'.get? T.P=UV {cls:= .none,data:= .fields #[WM T.line,WM T.col, .ref c']}):
  ∃fz',Le fz fz'/\fz'.CodeRec (.ref c') T.qual/\HR c fz' U H h':=by
 refine fA (x.tab T A) λK L Q B C=>?_
 have k:Le fz (sub h' λb=>b=c'∨(fz.get? b).isSome=UX):=λb o e=>dZ ((λb o e=>u b o (λq=>by subst q;rw[C] at e;exact nn e) (x.fzle b o e):∀b o,fz.get? b=UV o->h'.get? b=UV o) b o e) (.inr (by refine ac e ?_;rfl))
 have out:∀{b:U6},b < h.objs.size->fz.get? b=UW->(sub h' λb=>b=c'∨(fz.get? b).isSome=UX).get? b=UW:=λ{b} M e=>fC (by
  rintro(rfl|D)
  ·exact absurd M (Nat.not_lt.mpr w)
  ·rw[e] at D;cases D)
 have f:(sub h' λb=>b=c'∨(fz.get? b).isSome=UX).CodeRec (.ref c') T.qual:=by refine ez n λE s vs t e1 e2 r=>?_;cases e1;exact⟨_,s,vs,t,rfl,dZ e2 (.inl rfl),r⟩
 refine⟨_,k,f,sub_le,λb o e=>u b o (λq=>by subst q;rw[B] at e;exact nn e) (x.gle b o e),λp N=>k _ _ (x.wd p N),x.len,x.inj,λi o e l=>?_,λi d e=>?_,λa o e=>out (Wc (x.gle a o e)) (x.dis a o e),λt F=>?_,x.tdis⟩
 ·exact eX (x.obj i o e l) λa v j m y z O=>(l8 a v j (u a v (λq=>x.tdis T A i o e l (ac j (ac q rfl))) m) y (out (Wc m) z) (O.mono k (U4 _)))
 ·exact aj (x.fro i d e) λa j m=>(aA a j (m.mono k))
 ·by_cases G:t.P=T.P
  ·have:=g t F G;exact ac this ⟨_,J,(aA _ rfl (.inr (aA c' rfl f))),B,out (Wc L:T.P < h.objs.size) C⟩
  ·exact fA (x.tab t F) λv j m y z=>(oF v (u _ _ G j) (m.mono k) y (out (Wc j) z))
end
section
theorem E8 {l:List (Vb×Wk)} (h:gy C l=UV cl) {x:Vb} {n:Nat} (a:(x,n)∈cl):cT x C.cells=UV n:=by
 induction l generalizing cl with
 |nil=>exact nomatch (U0 h▸a:(x,n)∈[])
 |cons p r d=>
  obtain⟨y,k⟩:=p;induction k with
  |free=>
   change (match cT y C.cells,gy C r with|some i,UV l=>UV ((y,i)::l)|_,_=>UW)=UV cl at h;induction b:cT y C.cells with
   |none=>rw[b] at h;exact nn h
   |some i=>
    rw[b] at h;induction c:gy C r with
    |none=>rw[c] at h;exact nn h
    |some l=>
     rw[c] at h;obtain rfl:=U0 h;rcases List.mem_cons.mp a with e|a
     ·cases e;exact b
     ·exact d c a
  |_=>exact d h a
theorem E9 {x:Vb} {n:Nat} {l:List (Vb×Nat)} (h:(x,n)∈l):∃m,cT x l=UV m:=by
 induction l with
 |nil=>exact nomatch h
 |cons p r b=>
  refine(?_:∃m,(match sq x p.1 with|true=>UV p.2|false=>cT x r)=UV m);by_cases a:x=p.1
  ·exact ac (bS.mpr a) ⟨p.2,rfl⟩
  ·exact ac (cg.mpr a) ((List.mem_cons.mp h).elim (λe=>absurd (congrArg Prod.fst e) a) b)
theorem J0 {T:fB} {t:oG} (eo:aI c C Z U) (hT:T∈c.TT) (E:∀t∈c.TT,t.P=T.P->t=T) (o:Z.code= .ref T.c) (hC:∀h,bv c.KK h->PySem.W.CodeHd h T.c T.P)
  (hg:Z.globals=mainGlobals) (hq:qualnameIn Z t.name t.name=t.qual) (h1:T.qual=t.qual) (h2:T.line=pos.line) (h3:T.col=pos.col)
  (hb:∀h,bv c.KK h->∃mg,h.Ns mainGlobals mg/\h.BuiltinsAt mg T.P) (a3:mainGlobals≠T.P) (a4:t.params.defaults=[]) (a5:t.params.kw_defaults=[]) (ha:annTrees t.params UW Z=[]):
  ae c A fz U (rN C t) (aaU (.FunctionDef t.name t.params t.body [] UW [] t.scope UW t.name pos) Z) FR:=by
 dsimp only[rN]
 induction L:gy C t.scope.names with
 |none=>exact ae.fail
 |some cl=>
 intro S f S' p e hp M ρ' s Q k q F y
 refine ez (bA e) λn S1 p1 p2 e1 e2 i=>?_
 subst i
 refine b9 (B3 e1) λi G I=>?_
 subst i
 subst G
 subst I
 refine ez (bA e2) λd S2 p3 p4 e3 e4 i=>?_
 subst i
 refine b9 (db e4) λi G I=>?_
 subst i
 subst G
 subst I
 have a6:=(af.mp (af.mp hp).2).1
 refine fA (qm eo L [] (λd d h=>nomatch h)) λcs f1 f2 d f4=>?_
 have u:abB t.scope Z=pure cs:=by dsimp only[abB];exact(congrArg (λt=>t >>= λr=>pure r) f1).trans (pure_bind _ _)
 have N:CR U cl cs:=λx m hm=>by
  obtain⟨m',a7⟩:=E9 hm;obtain⟨_,hs⟩:=f4 x m' a7;refine aj (eo.cells x m (E8 L hm)) λa ea eb=>?_;induction hh:cs.lookup x with
  |none=>rw[hh] at hs;cases hs
  |some b=>have:=f2 x b hh;rw[ea] at this;obtain rfl:=U0 this;exact(aA a rfl eb)
 have J:bv c.KK s.heap:=λp hp=>F.hr.fzle _ _ (F.hr.wd p hp)
 refine aj (hb _ J) λmg O R=>(fA (F.hr.tab T hT) λao t1 a8 t3 t4=>?_)
 refine aj a8 λps a9 aa=>?_
 subst a9
 refine PySem.W.nestDef_K a4 a5 ha ((hq).symm▸ ?_)
 have V:∀(g:Vc) (B:Vc) (K:Nat) (X:Vv),Le M g->HR c g ρ' S.H B->uO g ρ' t cl X->1<=K->
   Vf (Vg c.prog c.w) A (acd Z t.name (.ref B.objs.size)) (λd ab=>Q .next ab) bE {s with heap:=B.push {cls:= .type "function",data:= .func X},toks:=K}:=λg B K X kk j fi D=>by
  have pp:ρ' <+:ρ'++[B.objs.size]:=Vn _ _
  have Y:=j.push {cls:= .type "function",data:= .func X} (.fn t cl) rfl ⟨rfl,X,rfl,fi.mono (Le.refl _) pp⟩
  refine gJ ((eo.at q).at pp) (fz:=g) t.name (v:= .ref S.H.length) (z:= .ref B.objs.size) (.ref (bj j.len.symm)) _ _ S' p3 e3 a6 g (ρ'++[B.objs.size]) _ _ (Le.refl _) (U4 _) (F.to (Y) (.inr ‹_›)) λad r2 s2 d k2 q2 ag d=>?_
  exact y ad r2 s2 .next (kk.trans k2) (pp.trans q2) ag trivial
 refine iw F.tk ?_
 rcases aa with rfl|⟨c',rfl,l⟩
 ·refine PySem.W.makeFunction_K u hg O o (hC _ J) t1 trivial rfl a3 R λc' ah ai B K hx ak ap l a0 D=>(ez (id l) λd oc d d al am d=>?_)
  cases al;obtain⟨g,a1,a2,j⟩:=F.hr.made hT E hx ak am (ac h1 l) (by refine ac h2 (ac h3 ?_);simpa using a0);exact V g B K _ a1 j ⟨rfl,rfl,rfl,rfl,rfl,rfl,rfl,rfl,rfl,h1▸a2,N.mono q⟩ D
 ·refine PySem.W.makeFunction_hit (cv:= .ref c') u hg O o (hC _ J) t1 trivial (by simp[Zp,WM,h2,h3]) R λah ai B K hk aq D=>?_;exact V M B K _ (Le.refl _) (F.hr.le hk) ⟨rfl,rfl,rfl,rfl,rfl,rfl,rfl,rfl,rfl,h1▸l,N.mono q⟩ D
end
end
section
open PySem.W
open PySem.Builtin PySem.Builtin.ObjectAttr
section
noncomputable def HY (l:Bool):String:=match l with
 |true=>"list.__getattribute__"
 |false=>"object.__getattribute__"
noncomputable def vD (C:U6) (l:Bool):List U2:=match l with
 |true=>[.ref C, .type "list", .type "object"]
 |false=>[.ref C, .type "object"]
structure bV (K:Frag) (C:U6) (l:Bool):Prop where
 cd:∃cd,clsIn K C=UV cd/\cd.hasDict=UX/\cd.mro=vD C l
 ga:findIn K (.ref C) "__getattribute__"=UV (UV (.builtin (HY l)))
 gx:findIn K (.ref C) "__getattr__"=UV UW
 sa:findIn K (.ref C) "__setattr__"=UV (UV (.builtin "object.__setattr__"))
section
theorem iR {name:Vb} {n:Nat}:∀{es:List (Vb×V)} {des:List Wg},ER g U P es des->
  (∀v,lk name es=UV v->∃x,lookIn name (cK des n)=UV (UV x)/\VR g U v x)/\(lk name es=UW->lookIn name (cK des n)=UV UW):=by
 intro es des h
 have i:(∀v,lk name es=UV v->∃e,des.find? (·.key.isStr name)=UV e/\VR g U v e.val)/\(lk name es=UW->des.find? (·.key.isStr name)=UW)/\des.any (·.refKey)=UY:=by
  induction h with
  |nil=>exact⟨λv h=>(nomatch h),λc=>rfl,rfl⟩
  | @cons k t v x r des a b l=>
   refine b9 l λi1 i2 m=>?_;have j:(DictEntry.mk (Wb P k) (.str k t) x).key.isStr name=sq name k:=by
    refine(?_:(k==name)=sq name k);by_cases e:name=k
    ·subst e;exact ac (bS.mpr rfl) (beq_self_eq_true _)
    ·exact ac (cg.mpr e) (beq_eq_false_iff_ne.mpr (aca e))
   refine⟨λu d=>?_,λd=>?_,ac aaW (ac m rfl)⟩
   ·dsimp only[lk] at d;induction f:sq name k with
    |true=>rw[f] at d;obtain rfl:=U0 d;exact(aA _ (ac (Zl) (ac j (ac f rfl))) a)
    |false=>rw[f] at d;refine ac (Zl) (ac j (ac f ?_));exact i1 u d
   ·dsimp only[lk] at d;induction f:sq name k with
    |true=>rw[f] at d;cases d
    |false=>rw[f] at d;refine ac (Zl) (ac j (ac f ?_));exact i2 d
 refine b9 i λo p q=>⟨λv s=>?_,λw=>?_⟩
 ·refine aj (o v s) λe y z=>⟨e.val,?_,z⟩
  unfold lookIn;dsimp only;exact ac y rfl
 ·unfold lookIn;dsimp only;refine ac (p w) ?_;dsimp only;refine ac q ?_;rfl
end
section
variable {K:Frag} {x C:U6} {name:Vb} {expr:Bool} 
theorem qA {l:Bool} {v:U2} (a:bV K C l) (b:findIn K (.ref C) name=UV UW) (hl:∃o,od=UV o/\lookIn name o=UV (UV v)):findObj K C od name=UV (.value v):=by
 refine ca a.cd λc d e f=>?_;obtain⟨o,rfl,hl⟩:=hl;dsimp only[findObj];refine ac d (ac b ?_);simp -iota only[We];have:W.ownOf c (UV o) name=UV (UV v):=by dsimp only[W.ownOf];refine ac (if_pos e) ?_;exact hl
 refine ac this ?_;rfl
theorem xQ {tk:ZN} {v:U2} {R:ZU->U7->Prop} (X:K.In s.heap) (I:InstAt s.heap x ox C od) (b:bV K C UX) (hf:findObj K C od name=UV (.value v)) (h:R (.ok (.ret v)) s):
  Xz (Vg J w) A (.call (.builtin "list.__getattribute__") ⟨[.ref x, .str name tk],[]⟩) R s:=by
 refine ca b.cd λk c l e=>?_
 obtain⟨f,g,d,t,os⟩:=s
 have a:=I.type (M:=Vg J w)
 have i:WA "list.__getattribute__"=UV .slot:=by decide+kernel
 have j:aag "list.__getattribute__"=UV ("list","__getattribute__"):=by decide+kernel
 refine Zz F.slot_list_getattribute.plain F.entry_list_ga (@check_slot (Vg J w) _ _ _ "list.__getattribute__" "list" "__getattribute__" (.ref x) [.str name tk] [] _ i j (a.andThen (looks_mroIn X (by dsimp only[mroIn];refine ac c ?_;rw[We];refine ac e ?_;rfl)):Looks (Vg J w) f (Yr (.ref x) (.type "list")) UX) (acv _ _) ?_)
 unfold Builtin.«object.__getattribute__»
 refine UZ (U3 (UZ (U3 (UZ (a.at (UZ ((looks_find (M:=Vg J w) X I hf).at ?_)))))))
 exact U3 h
theorem vE {l:Bool} {v:U2} (X:K.In s.heap) (I:InstAt s.heap x ox C od) (a:bV K C l) (hf:findObj K C od name=UV (.value v)) (b:handedIn v=UX) (h:Q v {s with toks:=s.toks+1}):
  Vf (Vg J w) A (aaI (.ref x) name expr) Q E s:=by
 induction l with
 |false=>exact get_value X I a.ga hf b h
 |true=>obtain⟨c,g,d,t,os⟩:=s;have e:=looks_findIn (M:=Vg J w) X a.gx;unfold aaI getAttrBy;refine UZ (Y0 (Vo (UZ ((I.type (M:=Vg J w)).at (UZ ((looks_findIn (M:=Vg J w) X a.ga).at ?_))))));refine(?_:Vf _ _ (YK _ _ _ _ _ _) _ _ _);dsimp only[YK];refine UZ (e.at (UZ (Zu (Vo ?_))));dsimp only[ach];refine ac (show(expr&&onTheHeap (aci (HY UX)))=UY from by cases expr<;>rfl) (ac (if_neg (by decide)) ?_);refine(?_:Vf _ _ (ZX (.builtin "list.__getattribute__") _ _) _ _ _);dsimp only[ZX];refine UZ ?_;rw[F.slot_list_getattribute.bind];refine U3 (Xq (xQ (s:=⟨c,g,d,t+1,os⟩) X I a hf ?_));refine(?_:Vf _ _ (handedOut v) _ _ _);exact ac (handedOut_of b) (U3 h)
noncomputable def kF (t:U2):Bool:=t== .type "function"||t== .type "method_descriptor"||t== .type "wrapper_descriptor"
theorem xR {l:Bool} {f tf:U2} {Q:U2×List U2->U7->Prop} (X:K.In s.heap) (I:InstAt s.heap x ox C od) (g:bV K C l)
  (hf:findIn K (.ref C) name=UV (UV f)) (i:typeIn K f=UV tf) (d:kF tf=UX) (hs:shadowIn od name=UV UY) (h:Q (f,[.ref x]) s):
  Vf (Vg J w) A (W0 (.ref x) name pl) Q E s:=by
 unfold W0 aaA
 refine UZ (UZ (I.type.here ((looks_findIn X g.ga).here ?_)))
 dsimp only
 refine ac (by cases l<;>decide+kernel:(acF (HY l)!="object.__getattribute__")=UY) (ac (if_neg (by decide)) ?_)
 refine UZ (UZ (I.type.here ((looks_findIn X g.gx).here ?_)))
 refine UZ (UZ (I.type.here ((looks_findIn X hf).here (UZ ((looks_typeIn X i).here ?_)))))
 refine ac (if_neg (by dsimp only[kF] at d;simp only[abL,beq_iff_eq] at d;rcases d with (rfl|rfl)|rfl<;>decide+kernel)) ?_
 refine UZ (ZY I.at_ ?_)
 have c:=I.dict
 induction e:ox.dict with
 |none=>exact UZ (abC (U3 h))
 |some j=>
  induction od with
  |none=>rw[e] at c;exact c.elim
  |some o=>
   rw[e] at c;refine aj (Option.map_eq_some_iff.mp hs) λr a b=>(UZ (UZ (ZY c ?_)))
   refine(nsLook_of a).symm▸(U3 ?_);exact(b).symm▸(UZ (abC (U3 h)))
end
end
section
section
theorem ER.length:∀{es:List (Vb×V)} {des:List Wg},ER g U P es des->des.length=es.length
 |_,_, .nil=>rfl
 |_,_, .cons _ b=>ac VB (ac VB (ac (ER.length b) rfl))
theorem xS {name:Vb} {t:ZN} {x:U2} (c:VR g U v x) (h:ER g U P es des):
  ER g U P (put name v es) (aaL name.cps.size name.cps.toList (λ|some e=>{e with val:=x}|none=>⟨Wb P name, .str name t,x⟩) des).1:=by
 induction h with
 |nil=>exact .cons c .nil
 | @cons k f u y r des a b d=>
  have i:(Value.str k f).isStrByCps name.cps.size name.cps.toList=sq name k:=by
   refine ac (Value.isStrByCps_eq ..) (?_:(k==name)=sq name k);by_cases e:name=k
   ·exact ac (bS.mpr e) (beq_iff_eq.mpr e.symm)
   ·exact ac (cg.mpr e) (beq_eq_false_iff_ne.mpr (aca e))
  unfold aaL;refine(?_:ER g U P (match sq name k with|true=>(k,v)::r|false=>(k,u)::put name v r) _);dsimp only;refine ac i ?_;induction j:sq name k with
  |true=>refine ac (if_pos rfl) ?_;exact .cons c b
  |false=>refine ac (if_neg (by decide)) ?_;generalize l:aaL name.cps.size name.cps.toList (λ|some e=>{e with val:=x}|none=>⟨Wb P name, .str name t,x⟩) des=z at d ⊢;obtain⟨m,n⟩:=z;exact .cons a d
theorem Fa {name:Vb} {t:ZN} {x:U2} {n:Nat} (c:VR g U v x) (h:ER g U P es des):
  ∃des' n',Zc name (Wb P name) (.str name t) x (cK des n)=cK des' n'/\ER g U P (put name v es) des':=by
 have a:=xS (name:=name) (t:=t) c h
 unfold Zc
 dsimp only
 generalize f:aaL name.cps.size name.cps.toList (λ|some e=>{e with val:=x}|none=>⟨Wb P name, .str name t,x⟩) des=z at a ⊢
 obtain⟨b,d⟩:=z
 induction d with
 |false=>exact⟨b,n,rfl,a⟩
 |true=>exact(bL b (n+1) rfl a)
theorem Co (h:ER g U P es des):des.any (·.refKey)=UY:=by
 induction h with
 |nil=>rfl
 |cons a b c=>refine ac aaW (ac c ?_);rfl
end
section
variable {K:Frag} {x C:U6} {name:Vb}
theorem xT (self:U2) (l:Bool):refuseLoop self "__setattr__" (vD C l)=pure ():=by
 induction l with
 |false=>dsimp only[vD];rw[refuseLoop_ref];exact PySem.F.store_object.passes self
 |true=>dsimp only[vD];rw[refuseLoop_ref];rfl'
theorem Fb {l:Bool} {n:Nat} {v:U2} {Q:Unit->U7->Prop} (X:K.In s.heap) (y:s.heap.get? x=UV ox) (m:ox.cls= .ref C) (N:notCls ox=UX) (hd:ox.dict=UV da) (c:s.heap.get? da=UV (cK des n))
  (B:bV K C l) (hf:findIn K (.ref C) name=UV UW) (O:des.any (·.refKey)=UY)
  (h:∀h' des' n' t,WS da s.heap h'->Zc name (Wb w.params name) (.str name t) v (cK des n)=cK des' n'->h'.get? da=UV (cK des' n')->des'.length<=des.length+1->Q () {s with heap:=h',toks:=s.toks+1+1})
  (hz:des.length<=1000):Vf (Vg J w) A (setAttr (.ref x) name v) Q E s:=by
 have I:Wn s.heap x ox C (UV (cK des n)):=⟨y,m,N,by refine ac hd ?_;exact c⟩
 refine ca B.cd λP o R D=>(set_plain X I B.sa ?_)
 have i:Looks (Vg J w) s.heap (Yr (.ref x) (.type "object")) UX:=I.type.andThen (looks_mroIn X (by dsimp only[mroIn];refine ac o ?_;rw[We];refine ac D ?_;cases l<;>rfl))
 have j:=PySem.F.store_object
 have S:Looks (Vg J w) s.heap (mroOf (.ref C)) P.mro:=(looks_clsIn X o).andThen .now
 obtain⟨T,g,d,t,os⟩:=s
 refine Zz j.slot.plain j.entry (@check_slot (Vg J w) _ _ _ "object.__setattr__" "object" "__setattr__" (.ref x) [.str name t,v] [] _ j.kind j.split i (j.args (.ref x) (.str name t) v) ?_)
 have G:=I.type (M:=Vg J w)
 rw[osa_eq,refuse_eq]
 refine UZ (UZ (G.at (UZ (S.at ?_))))
 refine ac D ?_;rw[xT]
 refine U3 (UZ (G.at (UZ ((looks_findIn (M:=Vg J w) X hf).at (UZ (U3 ?_))))))
 refine(?_:Vf _ _ (storeInOwnDict _ _ _ _ _ _) _ _ _)
 dsimp only[storeInOwnDict]
 obtain⟨Z,U,V,W⟩:=ox
 dsimp only at m hd
 subst m hd
 refine UZ (U3 (UZ (UZ (ZY y (UZ ((looks_clsIn X o).at ?_))))))
 refine ac R (U3 (a:=UV da) (UZ (U3 (UZ ?_))))
 dsimp only[nsSet]
 refine UZ (UZ (acj (U3 (UZ (Y0 (UZ (ZY c ?_)))))))
 dsimp only
 have p:(!des.toArray.any (·.key.isStr name)&&des.toArray.any (·.refKey))=UY:=by
  have:des.toArray.any (·.refKey)=des.any (·.refKey):=by simp
  refine ac this ?_;rw[O,Bool.and_false]
 rw[aRefKeyMayBeTheName_at];refine ac p ?_
 have b:∃des' n',Zc name (Wb w.params name) (.str name (t+1)) v (cK des n)=cK des' n'/\des'.length<=des.length+1:=by
  unfold Zc;dsimp only;have Y:∀(f:Option Wg->Wg) (l:List Wg),(aaL name.cps.size name.cps.toList f l).1.length<=l.length+1:=λf l=>by
   induction l with
   |nil=>simp[aaL]
   |cons e r q=>
    dsimp only[aaL];split
    ·simp
    ·generalize aaL name.cps.size name.cps.toList f r=z at q ⊢;obtain⟨u,H⟩:=z;simp at q ⊢;exact q
  have:=Y (λ|some e=>{e with val:=v}|none=>⟨Wb w.params name, .str name (t+1),v⟩) des;generalize aaL name.cps.size name.cps.toList (λ|some e=>{e with val:=v}|none=>⟨Wb w.params name, .str name (t+1),v⟩) des=z at this ⊢;obtain⟨u,H⟩:=z;induction H with
  |false=>exact(bL u n rfl this)
  |true=>exact(bL u (n+1) rfl this)
 refine aG b λdes' n' b k=>?_
 have L:(T.update da (Zc name (Wb w.params name) (.str name (t+1)) v)).get? da=UV (cK des' n'):=by have:=Xl (Zc name (Wb w.params name) (.str name (t+1)) v) c (by refine ac b ?_;rfl);exact ac this (ac b rfl)
 refine wpAny_updatePart c ?_
 refine UZ (wpAny_lookBehind L (pastItsLine_dict (by refine ac VH (ac VK ?_);lia)) ?_)
 exact U3 (h _ des' n' _ (VQ ..) b L k)
end
end
end
section
open PySem.W (Frag findIn typeIn clsIn lookIn shadowIn handedIn findObj notCls mroIn)
structure aV where
 C:U6
 l:Bool
 attrs:List Vb
 meths:List (Vb×V)
noncomputable def yE (C:U6):List aV->Option aV
 |[]=>UW
 |t::r=>match VA t.C C with
  |true=>UV t
  |false=>yE C r
noncomputable def z5 (x:Vb):List Vb->Bool
 |[]=>UY
 |y::r=>sq x y||z5 x r
theorem yF {x:Vb} {l:List Vb} (h:z5 x l=UX):x∈l:=by
 induction l with
 |nil=>exact ff h
 |cons y r a=>exact((abL _ _).mp h).elim (λh=>bS.mp h▸ .head _) λh=> .tail _ (a h)
structure ClTOK (K:Frag) (t:aV):Prop where
 f:bV K t.C t.l
 attrs:∀n∈t.attrs,findIn K (.ref t.C) n=UV UW
 meths:∀n v,lk n t.meths=UV v->∃f tf,findIn K (.ref t.C) n=UV (UV f)/\typeIn K f=UV tf/\kF tf=UX/\∀g U,VR g U v f
def tZ (K:Frag) (CL:List aV):Prop:=∀t∈CL,ClTOK K t
theorem kG {C:U6} {t:aV} {CL:List aV} (h:yE C CL=UV t):t∈CL/\t.C=C:=by
 induction CL with
 |nil=>exact nn h
 |cons u r b=>
  have h:(match VA u.C C with|true=>UV u|false=>yE C r)=UV t:=h;induction a:VA u.C C with
  |true=>rw[a] at h;obtain rfl:=U0 h;exact⟨.head _,VI a⟩
  |false=>rw[a] at h;exact⟨.tail _ (b h).1,(b h).2⟩
noncomputable def Q3:V->Bool
 | .none=>UX
 | .bool _=>UX
 | .int _=>UX
 | .str _=>UX
 | .ref _=>UX
 |_=>UY
noncomputable def j4:O->Option (U6×Nat×Option (List V))
 | .inst C d xs=>UV (C,d,xs)
 |_=>UW
theorem Fc {r:U6×Nat×Option (List V)} (e:j4 o=UV r):o= .inst r.1 r.2.1 r.2.2:=by
 induction o with
 |inst=>exact aD (U0 e) rfl
 |_=>exact nn e
noncomputable def nJ:O->Option (List (Vb×V))
 | .dict es=>UV es
 |_=>UW
theorem jG {r:List (Vb×V)} (e:nJ o=UV r):o= .dict r:=by
 induction o with
 |dict=>exact congrArg O.dict (U0 e)
 |_=>exact nn e
noncomputable def qB:O->Option (List (Vb×V))
 | .frame l=>UV l
 |_=>UW
theorem mI {r:List (Vb×V)} (e:qB o=UV r):o= .frame r:=by
 induction o with
 |frame=>exact congrArg O.frame (U0 e)
 |_=>exact nn e
noncomputable def Fd (o:O):Option (U6×Nat×List V):=match o with
 | .inst C d (UV xs)=>UV (C,d,xs)
 |_=>UW
theorem yG {r:U6×Nat×List V} (e:Fd o=UV r):o= .inst r.1 r.2.1 (UV r.2.2):=by
 induction o with
 |inst C d a=>induction a with
  |none=>exact nn e
  |some=>exact aD (U0 e) rfl
 |_=>exact nn e
theorem OK.asR {k:Nat->M α} {S:St} {K:α->St->List Prop->Prop} (h:∀i,v= .ref i->OK (k i S) K):OK (asR v k S) K:=by
 induction v with
 |ref i=>exact h i rfl
 |_=>exact Vd
def qC (CL:List aV) (r:U6×Nat×Option (List V)) (k:aV->List (Vb×V)->M α):M α:=cU (yE r.1 CL) λt=>getO nJ r.2.1 λes=>k t es
def Mj (CL:List aV) (v:V) (n:Vb):M V:=asR v λi=>getO j4 i λr=>qC CL r λt es=>bX (z5 n t.attrs) (cU (lk n es) λu=>bX (Q3 u) (ret u))
def Mk (CL:List aV) (v:V) (n:Vb) (u:V):M Unit:=asR v λi=>getO j4 i λr=>qC CL r λt es=>bX (z5 n t.attrs) λS=>UV ((),⟨S.H.set r.2.1 (.dict (put n u es)),S.orc⟩,[es.length<=1000])
def Rv (CL:List aV) (v:V) (n:Vb) (r:U6×Nat×Option (List V)):M (V×List V):=qC CL r λt es=>cU (lk n t.meths) λf=>bX (lk n es).isNone (ret (f,[v]))
def z6 (CL:List aV) (v:V) (n:Vb):M (V×List V):=match v with
 | .ref i=>λS=>match S.H[i]? with
  |some o=>match j4 o with
   |some r=>Rv CL v n r S
   |none=>vq v n S
  |none=>vq v n S
 |_=>vq v n
section
theorem SR.inK (x:SR c fz U H s):Frag.In c.KK s.heap:=λa o e=>by
 have:∀{K:List (U6×Xg)},K.lookup a=UV o->(a,o)∈K:=λ{K}=>by
  induction K with
  |nil=>intro h;exact nn h
  |cons p r f=>
   obtain⟨b,q⟩:=p;intro h;rw[Xc] at h;induction d:a==b with
   |true=>rw[d] at h;obtain rfl:=U0 h;refine ac (beq_iff_eq.mp d) ?_;exact .head _
   |false=>rw[d] at h;exact .tail _ (f h)
 exact x.hr.fzle _ _ (x.hr.wd _ (this e))
theorem ju (x:SR c fz U H s) {d:Nat} (hd:H[d]?=UV (.dict es)) (a:U[d]?=UV da):
  ∃des n,s.heap.get? da=UV (cK des n)/\ER fz U c.w.params es des:=aj (x.hr.at hd rfl a) λg b f=>aG f λdes n e r=>(bL des n (e▸b) r)
theorem J1 {C:U6} {d:Nat} {xs:Option (List V)} (h:OR P g U (.inst C d xs) a ob):∃da,U[d]?=UV da/\ob.cls= .ref C/\notCls ob=UX/\ob.dict=UV da:=by
 induction xs with
 |none=>exact aj h λda g e=>e.symm▸⟨da,g,rfl,rfl,rfl⟩
 |some l=>exact aj h λda g c=>aG c λvs n e b=>e.symm▸(oF da g rfl rfl rfl)
structure Pc (c:Cx) (fz:Vc) (U:List U6) (H:List O) (d:Nat) (a:U6) (t:aV) (es:List (Vb×V)):Prop where
 h:H[d]?=UV (.dict es)
 ok:∀fz' ρ' s,Le fz fz'->U <+:ρ'->SR c fz' ρ' H s->∃ox da des nn,(s.heap.get? a=UV ox/\ox.cls= .ref t.C/\notCls ox=UX/\ox.dict=UV da)/\ρ'[d]?=UV da/\s.heap.get? da=UV (cK des nn)/\ER fz' ρ' c.w.params es des
theorem OK.inst {CL:List aV} {r:U6×Nat×Option (List V)} {S:St} {k:aV->List (Vb×V)->M α} {K:α->St->List Prop->Prop} (hi:U[i]?=UV a) (h1:S.H[i]?=UV o) (h2:j4 o=UV r) (h:∀t es,t∈CL->Pc c fz U S.H r.2.1 a t es->OK (k t es S) K):OK (qC CL r k S) K:=
 OK.opt λt d=>OK.getO λA es j l=>
  have e:=j.trans (congrArg UV (jG l))
  h t es (kG d).1 ⟨e,λm ρ' s k q f=>aj (f.hr.at (h1.trans (congrArg UV (Fc h2))) rfl (ai q hi)) λn e2 p=>fA (J1 p) λu g v w x=>aG (ju f e g) λb nn y z=>⟨n,u,b,nn,⟨e2,(kG d).2▸v,w,x⟩,g,y,z⟩⟩
theorem z7 {x:U2} (h:Q3 v=UX) (r:VR g U v x):handedIn x=UX:=by
 induction v with
 |none=>refine ac r.i_none ?_;rfl
 |bool=>refine ac r.i_bool ?_;rfl
 |int=>exact r.e_int λa=>rfl
 |str=>exact r.e_str λa=>rfl
 |ref=>exact r.e_ref λa a=>rfl
 |_=>exact ff h
theorem J2 {CL:List aV} (h:tZ c.KK CL) {n:Vb} {x:U2} (j:VR fz U v x):
  ae c A fz U (Mj CL v n) (WB [x] (aaI x n UX) >>= λr=>YY value x r >>= λb=>pure r) au:=by
 refine(ae.asR (t:=λx=>WB [x] (aaI x n UX) >>= λr=>YY value x r >>= λb=>pure r) j ?_:)
 refine λi a l=>ae.run λS K m=>OK.getO λo r p w=>OK.inst (c:=c) (fz:=fz) l p w λt M B I=>OK.when λC=>OK.opt λu D=>OK.when λE=>m _ _ _ λN F ρ' s Q k q d y=>?_
 refine yf (I.ok _ _ _ k q d) λO P G nn g R H J=>aj ((iR (n:=nn) J).1 _ D) λz L e=>?_
 have T:=h t B
 exact UZ (Vo (vE d.inK ⟨g.1,g.2.1,g.2.2.1,g.2.2.2.symm▸H⟩ T.f (qA T.f (T.attrs n (yF C)) (aA _ rfl L)) (z7 E e) (UZ (Zy (U3 (y.at (d.ta d.hr) e))))))
theorem J3 {CL:List aV} (p:tZ c.KK CL) {n:Vb} {u:V} {x:U2} (w:VR fz U v x) (B:VR fz U u z):ae c A fz U (Mk CL v n u) (setAttr x n z) dJ:=by
 refine(ae.asR (t:=λx=>setAttr x n z) w ?_:);refine λi a C=>ae.run λS K D=>OK.getO λo r E F=>OK.inst (c:=c) (fz:=fz) C E F λt es G I=>OK.when λH=>D _ _ _ λJ L ρ' s Q k q d y=>?_;refine yf (I.ok _ _ _ k q d) λox da M nn g N O l=>?_;have T:=p t G;exact Fb d.inK g.1 g.2.1 g.2.2.1 g.2.2.2 O T.f (T.attrs n (yF H)) (Co l) (λh' e P W X j Y hl=>aG (Fa (name:=n) (t:=W) (n:=nn) (B.mono k q) l) λb m Z e2=>
  y.at (R:=dJ) ⟨d.hr.upd I.h rfl N X ((j.symm.trans Z:cK e P=cK b m)▸Y) (bL _ _ rfl e2),d.os,d.bare,U1 d.tk (Vm _ 2)⟩ trivial) (l.length.symm▸J.1)
theorem Fe {CL:List aV} (u:tZ c.KK CL) {x:U2} {n:Vb} (j:VR fz U v x):ae c A fz U (z6 CL v n) (W0 x n pl) o6:=by
 have b:=JK (c:=c) (A:=A) (n:=n) (pl:=pl) j;induction v with
 |ref i=>
  refine aj j.i_ref λa e l=>?_;subst e;refine ae.run λS K m=>?_;have b:OK (vq (.ref i) n S) K:=OK.got λr w p e=>m _ _ _ (b S r w p e);unfold z6;dsimp only;induction z:S.H[i]? with
  |none=>exact b
  |some o=>
   dsimp only;induction B:j4 o with
   |none=>exact b
   |some r=>
    refine OK.inst (c:=c) (fz:=fz) l z B λt W D I=>OK.opt λf E=>OK.when λF=>m _ _ _ λX G ρ' s Q k q d y=>?_;refine yf (I.ok _ _ _ k q d) λL Y h nn g Z M N=>?_;have T:=u t D;have J:Wn s.heap a L t.C (UV (cK h nn)):=⟨g.1,g.2.1,g.2.2.1,g.2.2.2.symm▸M⟩
    exact ye (T.meths n f E) λff tf O P R V=>xR d.inK J T.f O P R (by unfold shadowIn;dsimp only;refine ac ((iR (n:=nn) N).2 (Option.isNone_iff_eq_none.mp F)) ?_;rfl) (y.at d ⟨V _ _, .cons (.ref (ai q l)) .nil⟩)
 |_=>exact b
end
end
variable {CL:List aV}
section
open PySem.W
open PySem.Builtin PySem.Builtin.ObjectAttr
section
noncomputable def pe (K:Frag) (C:U6):Bool:=match K.lookup C with
 |some ⟨_,_, .cls a,b⟩=> !a.abstract&& !a.hasDel&&(b.toList[4]?).join==UV (.builtin "list.__new__")&& !a.mro.isEmpty&&a.mro.contains (.ref C)&&a.mro.contains (.type "list")&&
   specialIn K (.ref C) "__call__"==UV (UV (.builtin "type.__call__"))&&instIn K (.ref C) (.type "type")==UV UX
 |_=>UY
structure vF (M:Zx) (h:Vc) (C:U6):Prop where
 obj:∃oc od cd sl,h.get? C=UV ⟨oc,od, .cls cd,sl⟩/\cd.abstract=UY/\cd.hasDel=UY/\cd.mro.isEmpty=UY
 made:Looks M h (ac1 (.ref C)) (UV "list.__new__")
 base:Looks M h (Bind.staticBase (.ref C)) (.ref C)
 self:Looks M h (isSubtype (.ref C) (.ref C)) UX
 top:Looks M h (isSubtype (.ref C) (.type "list")) UX
 call:Looks M h (aaA (.ref C) "__call__") (UV (.builtin "type.__call__"))
 typ:Looks M h (Yr (.ref C) (.type "type")) UX
theorem Cp {K:Frag} {M:Zx} (X:K.In h) {C:U6} (e:pe K C=UX):vF M h C:=by
 revert e;unfold pe;induction f:K.lookup C with
 |none=>exact λe=>tf e.symm
 |some o=>obtain⟨m,n,p,r⟩:=o;induction p using acD with
 |cls b=>
  intro e;simp only[VO,XV,beq_iff_eq] at e;obtain⟨⟨⟨⟨⟨⟨⟨t,u⟩,v⟩,d⟩,w⟩,x⟩,y⟩,z⟩:=e;have g:clsIn K C=UV b:=by dsimp only[clsIn];rw[f]
  have i:Looks M h (mroOf (.ref C)) b.mro:=(looks_clsIn X g).andThen .now;obtain⟨c,l,j⟩:∃c l,b.mro=c::l:=by induction q:b.mro using VE with|nil=>rw[q] at d;cases d|cons c l=>exact(sU c l rfl)
  have a:Looks M h (ac1 (.ref C)) (UV "list.__new__"):=by intro A Q E s k q;dsimp only[ac1];refine UZ (i A _ E s k ?_);refine ac j ?_;rw[Zg];refine UZ (UZ (UZ (UZ (ZY (k _ _ (X _ _ f)) (U3 ?_)))));dsimp only;refine aD (YQ) (ac v ?_);exact U3 (U3 (U3 q))
  refine⟨⟨m,n,b,r,X _ _ f,t,u,d⟩,a,?_,looks_mroIn X ?_,looks_mroIn X ?_,looks_specialIn X y,looks_instIn X z⟩
  ·intro A Q E s k q;dsimp only[Bind.staticBase];refine UZ (i A _ E s k ?_);refine ac j ?_;rw[Zg];exact UZ (UZ (UZ (a A _ E s k (U3 (U3 (U3 q))))))
  ·dsimp only[mroIn];refine ac g ?_;rw[We,if_neg (by refine ac d ?_;decide),w]
  ·dsimp only[mroIn];refine ac g ?_;rw[We,if_neg (by refine ac d ?_;decide),x]
 |_=>exact λe=>tf e.symm
noncomputable abbrev kH (C a:U6):Xg:={cls:= .ref C,dict:=UV a,data:= .seq #[]}
theorem tK:WA "list.__new__"=UV .builtinFn:=by decide+kernel
theorem rO:aag "list.__new__"=UV ("list","__new__"):=by decide+kernel
section
variable {K:Frag} {C:U6} {R:ZU->U7->Prop} {g:Array aay} {d:Drawn} {t:Nat} {os:OsState}
theorem Pd (Y:vF (Vg J w) h C)
  (m:R (.ok (.ret (.ref (h.objs.size+1)))) ⟨(h.push emptyDict).push (kH C h.objs.size),g,d,t,os⟩):
  Xz (Vg J w) A (.call (.builtin "list.__new__") ⟨.ref C::rest,[]⟩) R ⟨h,g,d,t,os⟩:=by
 obtain⟨⟨n,o,q,r,k,z,s,B⟩,a,b,l,i,call,u⟩:=Y
 refine XZ ?_
 show Vf _ A.in1 (do Zq "list.__new__" ⟨.ref C::rest,[]⟩;again (.builtin "list.__new__" ⟨.ref C::rest,[]⟩)) _ _ _
 have j:Looks (Vg J w) h (isType (.ref C)) UX:=(Looks.ld (part:=UW) k).andThen .now
 have c:∀Q:Unit->U7->Prop,Q () ⟨h,g,d,t,os⟩->Vf (Vg J w) A.in1 (Zq "list.__new__" ⟨.ref C::rest,[]⟩) Q (λe v=>R (.error e) v) ⟨h,g,d,t,os⟩:=λQ x=>by
  dsimp only[Zq];refine ac tK (ac rO ?_);refine qt (beq_self_eq_true "__new__") (UZ (j.at ?_));refine dQ rfl (UZ (i.at ?_));refine dQ rfl (UZ (b.at ?_));refine UZ (a.at ?_);refine dQ (bne_self_eq_false _) ?_
  repeat lk
  exact x
 refine UZ (c _ (U3 ⟨plainId_quiet F.plain_list_new _,codeAny_builtin_stack F.entry_list_new rfl λp st=>?_⟩))
 refine ac (Xo F.plain_list_new _) ?_
 have f:=owner_list_new
 dsimp only;refine ac (f) ?_
 have y:((h.push {cls:= .type "dict",data:= .dict #[]}).push {cls:= .ref C,dict:=UV h.objs.size,data:= .seq #[]}).get? C=UV ⟨n,o, .cls q,r⟩:=Vw _ (Vw _ k)
 repeat (first|refine dQ rfl ?_|lk)
 refine dQ s (U3 (U3 ?_))
 refine(?_:R _ _)
 rw[ab4]
 exact m
theorem Ml {init:U2} (Y:vF (Vg J w) h C) (hi:Looks (Vg J w) h (Yq (.ref C) "__init__") (UV init))
  (l:∀self,Looks (Vg J w) h (bindSpecial init self) (init,[self]))
  (m:Xz (Vg J w) (A.under (.builtin "type.__call__" ⟨.ref C::rest,[]⟩)) (.call init ⟨.ref (h.objs.size+1)::rest,[]⟩) (InitBack (h.objs.size+1) R) ⟨(h.push emptyDict).push (kH C h.objs.size),g,d,t,os⟩):
  Xz (Vg J w) A (.call (.ref C) ⟨rest,[]⟩) R ⟨h,g,d,t,os⟩:=by
 have n:=Y
 obtain⟨⟨x,y,p,B,f,D,E,q⟩,i,j,self,s,call,c⟩:=Y
 refine XZ (?_:Vf _ _ (callAny (.ref C) _) _ _ _)
 refine nd_load f (?_:Vf _ _ (ac2 (.ref C) _) _ _ _)
 dsimp only[ac2]
 refine UZ (call.at ?_)
 dsimp only
 rw[tc_bind]
 refine UZ (U3 (UZ (U3 ?_)))
 refine U3 (a:=Fin.again (.call (.builtin "type.__call__") ⟨.ref C::rest,[]⟩)) (And.intro rfl ?_)
 refine codeAny_call_builtin_at (Code.quiet_builtin _ (by decide+kernel)) entry_typeCall (check_slot tc_kind tc_split c (tc_args _ _ _) ?_)
 unfold Builtin.«type.__call__»
 have F:Looks (Vg J w) h (mroOf (.ref C)) p.mro:=((Looks.ld (part:=UW) f).andThen .now).andThen .now
 repeat (first|refine dQ q ?_|refine dQ rfl ?_|with_reducible refine Xq ?_|lk)
 refine Pd n ?_
 have k:∀b o,h.get? b=UV o->((h.push emptyDict).push (kH C h.objs.size)).get? b=UV o:=λb o e=>Vw _ (Vw _ e)
 have u:((h.push emptyDict).push (kH C h.objs.size)).get? (h.objs.size+1)=UV (kH C h.objs.size):=by heap_get
 have G:Looks (Vg J w) ((h.push emptyDict).push (kH C h.objs.size)) (aam (.ref (h.objs.size+1))) (.ref C):=(Looks.ld u).andThen .now
 have H:=self.keeps k
 have i1:=hi.keeps k
 have I:=(l (.ref (h.objs.size+1))).keeps k
 unfold Yr ZP aaA
 repeat (first|with_reducible refine Xq ?_|lk)
 refine codeAny_mono m λr K z=>?_
 rcases r with e|(v|_|_|_)<;>first|exact z|exact z.elim|skip
 obtain⟨rfl,z⟩:=z
 exact U3 (U3 z)
end
end
section
structure dm (K:Frag) (C:U6):Prop where
 f:bV K C UX
 gi:findIn K (.ref C) "__getitem__"=UV (UV (.builtin "list.__getitem__"))
 si:findIn K (.ref C) "__setitem__"=UV (UV (.builtin "list.__setitem__"))
 it:findIn K (.ref C) "__iter__"=UV (UV (.builtin "list.__iter__"))
 ns:(seqItemTypes.all λn=>subIn K (.ref C) (.type n)==UV UY)=UX
structure qD (h:Vc) (x C:U6) (ox:Xg) (od:Option Xg) (items:Array U2) (n:Nat):Prop where
 i:Wn h x ox C od
 d:ox.data= .seq items n
section
variable {K:Frag} {x C:U6} {n:Nat}
theorem nK {M:Zx} (X:K.In h) (I:Wn h x ox C od) (a:bV K C UX):Looks M h (Yr (.ref x) (.type "list")) UX:=by refine ca a.cd λd b e c=>?_;exact I.type.andThen (looks_mroIn X (by unfold mroIn;refine ac b ?_;rw[We];refine ac c ?_;rfl))
theorem z8 {M:Zx} {i owner n:String} {self:U2} {Q:Unit->U7->Prop}
  (d:WA i=UV .method) (hs:aag i=UV (owner,n)) (hi:Looks M s.heap (Yr self (.type owner)) UX) (c:ZZ i ⟨self::rest,[]⟩) (q:Q () s):
  Vf M A (Zq i ⟨self::rest,[]⟩) Q E s:=by
 simp only[Zq,d,hs]
 refine UZ (hi.here ?_)
 simp only[Bool.not_true,Xi,if_false]
 induction a:aav i with
 |none=>exact U3 q
 |some b=>simp only[ZZ,a] at c;refine(?_:Vf M A (aaE i b ⟨self::rest,[]⟩) Q E s);refine ac (c:aaE i b ⟨self::rest,[]⟩=pure ()) ?_;exact U3 q
theorem pf {i n:String} {B:Builtin} (X:K.In s.heap) (I:Wn s.heap x ox C od) (d:bV K C UX)
  (c:WA i=UV .method∨WA i=UV .slot) (hs:aag i=UV ("list",n)) (k:plainId i=UX) (l:abW table i=UV B) (g:ZZ i ⟨.ref x::rest,[]⟩)
  (h:Vf (Vg J w) A.in1 (B ⟨.ref x::rest,[]⟩) (λb s'=>match b with| .done (.ret v)=>Q v s'|_=>False) E s):
  Vf (Vg J w) A (call (.builtin i) (.ref x::rest)) Q E s:=by
 have b:Vf (Vg J w) A.in1 (B ⟨.ref x::rest,[]⟩) (λb s'=>match b with| .done f=>wants Q E (.ok f) s'| .again j=>j.quiet=UX/\Xz (Vg J w) A j (wants Q E) s') (λe s'=>wants Q E (.error e) s') s:=
  VF h (λb s' z=>by rcases b with (_|_|_|_)|_<;>first|exact z|exact z.elim) λa a z=>z
 refine Xq (Zz k l ?_)
 rcases c with c|c
 ·exact z8 c hs (nK X I d) g b
 ·exact check_slot c hs (nK X I d) g b
theorem kg {name:Vb} {i n:String} {B:Builtin} {Q:Option U2->U7->Prop} (X:K.In s.heap) (I:Wn s.heap x ox C od) (c:bV K C UX)
  (hf:findIn K (.ref C) name=UV (UV (.builtin i))) (d:∀self,bindSpecial (.builtin i) self=pure (.builtin i,[self])) (e:WA i=UV .method∨WA i=UV .slot) (hs:aag i=UV ("list",n)) (f:plainId i=UX) (g:abW table i=UV B) (j:ZZ i ⟨.ref x::rest,[]⟩)
  (h:Vf (Vg J w) A.in1 (B ⟨.ref x::rest,[]⟩) (λb s'=>match b with| .done (.ret v)=>Q (UV v) s'|_=>False) E s):
  Vf (Vg J w) A (ZP (.ref x) name rest) Q E s:=by
 unfold ZP aaA
 refine UZ (UZ (I.type.here ((looks_findIn X hf).here ?_)))
 refine Vo (UZ ?_)
 rw[d]
 refine U3 (UZ (VF (pf (Q:=λv=>Q (UV v)) X I c e hs f g j h) (λv s' z=>U3 z) λa a z=>z))
theorem lu {k:U2} {name:Vb} (X:K.In s.heap) (I:Wn s.heap x ox C od) (a:dm K C) (h:Q k s):Vf (Vg J w) A (sequenceKey (.ref x) k name) Q E s:=by unfold sequenceKey;refine UZ (I.type.here (UZ ((anyM_none X a.ns).here ?_)));exact U3 h
theorem yH:WA "list.__getitem__"=UV .method∨WA "list.__getitem__"=UV .slot:=by decide+kernel
theorem vH:aag "list.__getitem__"=UV ("list","__getitem__"):=by decide+kernel
theorem J4:WA "list.__setitem__"=UV .method∨WA "list.__setitem__"=UV .slot:=by decide+kernel
theorem Ff:aag "list.__setitem__"=UV ("list","__setitem__"):=by decide+kernel
theorem J5:WA "list.append"=UV .method∨WA "list.append"=UV .slot:=by decide+kernel
theorem Fg:aag "list.append"=UV ("list","append"):=by decide+kernel
theorem gU {M:Zx} {o:Xg} {xs:Array U2} {m:Nat} {Q:Array U2->U7->Prop} (b:s.heap.get? a=UV o) (hd:o.data= .seq xs m) (h:Q xs s):Vf M A (WY (.ref a)) Q E s:=by dsimp only[WY];exact UZ (Y3 b hd (U3 h))
theorem z9 {v:U2} (X:K.In s.heap) (Y:qD s.heap x C ox od items n) (b:bV K C UX) (hz:items.size<=U9)
  (h:Q .none {s with heap:=s.heap.update x (Xj (·.push v))}):Vf (Vg J w) A (call (.builtin "list.append") [.ref x,v]) Q E s:=by
 refine pf X Y.i b J5 Fg F.slot_list_append.plain F.entry_list_append (F.args_list_append_2 _ _) ?_
 have a:(items.push v).size<=U9+1:=by rw[Array.size_push];lia
 obtain⟨c,g,d,t,os⟩:=s
 wp_walk using (ZH (Y.i.at_) (Y.d) (hz:=hz) (_hz':=a))
 exact h
theorem Aa {k:Int} {t:ZN} {v:U2} (X:K.In s.heap) (Y:qD s.heap x C ox od items n) (b:dm K C) (c:aK items.size k) (e:items[dM items.size k]?=UV v) (h:Q v s):
  Vf (Vg J w) A (Yu (.ref x) (.int k t)) Q E s:=by
 have g:=Y.i.at_
 have l:=Y.d
 dsimp only[Yu]
 try with_reducible refine Vo ?_
 refine UZ (lu X Y.i b ?_)
 refine UZ (kg X Y.i b.f b.gi F.slot_list_getitem.bind yH vH F.slot_list_getitem.plain F.entry_list_getitem (adt _ _) ?_)
 refine(?_:Vf _ _ (WH (.int k t) >>= _) _ _ s)
 have a:YT k=UX:=by
  induction k with
  |ofNat j=>have:=c.2;exact fitsIndex_of (Vp j) (by show((j:Nat):Int) < 2^63;lia)
  |negSucc j=>have:=c.2;exact fitsIndex_neg (Yo j) (by lia)
 refine UZ (abt a ?_)
 clear a
 induction k with
 |ofNat j=>
  refine(?_:Vf _ _ ((seqItemAt x j >>= λr=>pure (r.map (j,·))) >>= _) _ _ s);refine UZ (UZ (wpAny_seqItemAt g l (U3 ?_)));refine ac (show items[j]?=UV v from e) ?_
  first
   |exact UZ (U3 (U3 (U3 h)))
   |exact U3 (U3 h)
 |negSucc j=>
  refine(?_:Vf _ _ ((WY (.ref x) >>= λm=>pure ((ZQ (Zb j) m.size).bind λi=>m[i]?.map (i,·))) >>= _) _ _ s);refine UZ (UZ ?_);refine(?_:Vf _ _ (adr (.ref x) >>= _) _ _ s);refine UZ (Y3 g l (U3 (U3 ?_)));refine(jZ c).symm▸ ?_;dsimp only;simp -iota only[We,e,abu]
  first
   |exact UZ (U3 (U3 (U3 h)))
   |exact U3 (U3 h)
theorem vI {g:U6} {k l vs:U2} {lo hi st:Option Int} (X:K.In s.heap) (Y:qD s.heap x C ox od items n) (o:dm K C)
  (hs:s.heap.IsSliceOf g k l vs) (pl:acg k lo) (q:acg l hi) (ps:acg vs st) (h0:st≠UV 0)
  (h:Q (.ref s.heap.objs.size) {s with heap:=s.heap.push {cls:= .type "list",data:= .seq (slicePick items lo hi st)}})
  (hsz:items.size<=U9):Vf (Vg J w) A (Yu (.ref x) (.ref g)) Q E s:=by
 refine ca (id hs) λos a p b=>?_
 have j:s.TypeIs (.ref g) "slice":=(aA os a p)
 unfold Yu
 try with_reducible refine Vo ?_
 refine UZ (lu X Y.i o ?_)
 refine UZ (kg X Y.i o.f o.gi F.slot_list_getitem.bind yH vH F.slot_list_getitem.plain F.entry_list_getitem (adt _ _) ?_)
 refine(?_:Vf _ _ (WH (.ref g) >>= _) _ _ s)
 refine UZ ?_
 unfold WH
 refine UZ (Xa j slice_no_index ?_)
 dsimp only
 refine U3 (?_:Vf _ _ (aam (.ref g) >>= _) _ _ s)
 refine UZ (aaM j ?_)
 refine dQ rfl ?_
 rw[listSliceParts_eq]
 have e:¬((rawPart st==WM 0)=UX):=by
  induction st with
  |none=>exact VT
  |some c=>
   intro r;have:c=0:=by simpa[rawPart,WM] using r
   exact h0 (by rw[this])
 refine UZ (UZ (W6 a b (x:=vs) rfl (UZ (Y6 ps ?_))))
 refine ac (if_neg e) (UZ (W6 a b (x:=k) rfl (UZ (Y6 pl ?_))))
 refine UZ (W6 a b (x:=l) rfl (UZ (Y6 q (U3 ?_))))
 refine UZ (m:=WY (.ref x)) ?_
 unfold WY
 refine UZ (Y3 (Y.i.at_) (Y.d) (U3 ?_))
 refine UZ (XQ (sliceIndices_raw lo hi st items.size h0) ?_)
 refine UZ (V4 (U3 (U3 h)) (U1 (slicePick_size_le items lo hi st) hsz))
theorem xU {g l:U6} {k:Xg} {o:U2} {lo:Option Int} {a m:Nat} {new:Array U2} {Q:Unit->U7->Prop} (X:K.In s.heap) (Y:qD s.heap x C ox od items n) (p:dm K C)
  (hs:s.heap.IsSliceOf g o .none .none) (pl:acg o lo) (H:aah lo UW UW items.size=((a:Int),(items.size:Int),1)) (q:a<=items.size) (hl:s.heap.get? l=UV k) (r:k.cls= .type "list") (t:k.data= .seq new m) (u:l≠x)
  (h:∀f:Array U2->Array U2,f items=(items.toList.take a).toArray++new->Q () {s with heap:=s.heap.update x (Xj f)})
  (hsz:items.size+new.size<=1000):Vf (Vg J w) A (YX (.ref x) (.ref g) (.ref l)) Q E s:=by
 have B:=Y.i.at_
 have D:=Y.d
 refine ca (id hs) λos b v c=>?_
 have j:s.TypeIs (.ref g) "slice":=(aA os b v)
 unfold YX
 try with_reducible refine Vo ?_
 refine UZ (lu X Y.i p ?_)
 refine UZ (kg X Y.i p.f p.si F.slot_list_setitem.bind J4 Ff F.slot_list_setitem.plain F.entry_list_setitem (adq _ _ _) ?_)
 refine(?_:Vf _ _ (WH (.ref g) >>= _) _ _ s)
 refine UZ ?_
 unfold WH
 refine UZ (Xa j slice_no_index ?_)
 refine U3 (?_:Vf _ _ (aam (.ref g) >>= _) _ _ s)
 refine UZ (aaM j ?_)
 refine dQ rfl ?_
 rw[listSliceParts_eq]
 refine UZ (UZ (W6 b c (x:= .none) rfl (UZ (Y6 .none ?_))))
 refine ac (if_neg (show¬((rawPart UW==WM 0)=UX) from VT)) (UZ (W6 b c (x:=o) rfl (UZ (Y6 pl ?_))))
 refine UZ (W6 b c (x:= .none) rfl (UZ (Y6 .none (U3 ?_))))
 have y:(abe (.ref x) (.ref l))=UY:=by unfold abe;exact beq_eq_false_iff_ne.mpr λe=>u e.symm
 refine dQ y (UZ ?_)
 unfold Builtin.List.listAllItems
 refine UZ (aaM ((aA k hl r):s.TypeIs (.ref l) "list") ?_)
 refine qt rfl (gU hl t ?_)
 refine UZ (gU B D ?_)
 refine UZ (XQ (sliceIndices_raw lo UW UW items.size (by simp)) ?_)
 refine ac H ?_
 dsimp only
 refine qt rfl (UZ (abC ?_))
 have z:Zk (items.size+new.size)=UY:=by unfold Zk;refine ac VK ?_;simp;lia
 refine dQ z ?_
 have G:(items.extract 0 (a:Int).toNat++new++items.extract (max (a:Int) (items.size:Int)).toNat)=(items.toList.take a).toArray++new:=by have I:(max (a:Int) (items.size:Int)).toNat=items.size:=ac (Y7 (Int.ofNat_le.mpr q)) rfl;refine ac (Vx a:(a:Int).toNat=a) (ac I ?_);apply Array.toList_inj.mp;simp
 refine UZ ?_
 unfold Zv
 refine ZH B D ?_ (hz:=by refine(VK).symm▸ ?_;lia) (_hz':=by refine ac G (ac VK ?_);simp;lia)
 refine UZ (wpAny_letGo (U3 (U3 (h _ G))))
end
end
section
theorem qE:Slot "method_descriptor" "__get__" "method_descriptor.__get__":=
 .of (owner:="method_descriptor") (n:="__get__") (by rw[acw];refine ac aaX ?_;rfl') (by decide+kernel) (by decide+kernel) (by decide+kernel)
  (by first|exact .inl (by decide+kernel)|exact .inr (by decide+kernel)) (by rw[isSubtype_type];rfl')
theorem xV:abW table "method_descriptor.__get__"=UV Builtin.«method_descriptor.__get__»:=entryFor_of_tree (by rfl')
theorem Ab (a b c:U2):ZZ "method_descriptor.__get__" ⟨[a,b,c],[]⟩:=by dsimp only[ZZ];rfl'
theorem lw:Slot "wrapper_descriptor" "__get__" "wrapper_descriptor.__get__":=
 .of (owner:="wrapper_descriptor") (n:="__get__") (by rw[acw];refine ac aaX ?_;rfl') (by decide+kernel) (by decide+kernel) (by decide+kernel)
  (by first|exact .inl (by decide+kernel)|exact .inr (by decide+kernel)) (by rw[isSubtype_type];rfl')
theorem xW:abW table "wrapper_descriptor.__get__"=UV Builtin.«wrapper_descriptor.__get__»:=entryFor_of_tree (by rfl')
theorem Ac (a b c:U2):ZZ "wrapper_descriptor.__get__" ⟨[a,b,c],[]⟩:=by dsimp only[ZZ];rfl'
theorem vJ:aam (.builtin "list.pop")=pure (.type "method_descriptor"):=by show builtinType _=_;refine ac abk ?_;rfl'
theorem vK:aam (.builtin "list.__len__")=pure (.type "wrapper_descriptor"):=by show builtinType _=_;refine ac abk ?_;rfl'
theorem tc:aam (.builtin "list.__init__")=pure (.type "wrapper_descriptor"):=by show builtinType _=_;refine ac abk ?_;rfl'
section
variable {K:Frag} {x C:U6} 
theorem J6 (X:K.In s.heap) (I:Wn s.heap x ox C od) (f:bV K C UX) {c:U2} (b:(c== .none)=UY)
  (h:Q (.ref s.heap.objs.size) {s with heap:=s.heap.push {cls:= .type "builtin_function_or_method",data:= .fields #[.builtin "list.pop", .ref x]}}):
  Vf (Vg J w) A (call (.builtin "method_descriptor.__get__") [.builtin "list.pop", .ref x,c]) Q E s:=by
 refine Xn qE (s:=s) (vJ) xV ?_ (Ab _ _ _)
 obtain⟨i,g,d,t,os⟩:=s
 unfold Builtin.«method_descriptor.__get__»
 have j:Manifest.toldItsClass.contains "list.pop"=UY:=by decide+kernel
 have a:∀n,n="list"->Looks (Vg J w) i (Yr (.ref x) (.type n)) UX:=λn e=>e▸(nK (M:=Vg J w) X I f)
 repeat (first|(with_reducible refine Looks.at (a _ (by rfl')) ?_)|rw[b,if_neg VT]|refine dQ j ?_|refine dQ rfl ?_|lk)
 exact(aA _ rfl h)
theorem vM {id:String} (a:id="list.__len__"∨id="list.__init__") (X:K.In s.heap) (I:Wn s.heap x ox C od) (f:bV K C UX) {c:U2} (b:(c== .none)=UY)
  (h:Q (.ref s.heap.objs.size) {s with heap:=s.heap.push {cls:= .type "method-wrapper",data:= .fields #[.builtin id, .ref x]}}):
  Vf (Vg J w) A (call (.builtin "wrapper_descriptor.__get__") [.builtin id, .ref x,c]) Q E s:=by
 refine Xn lw (s:=s) ((by rcases a with rfl|rfl<;>first|exact vK|exact tc:aam (.builtin id)=pure (.type "wrapper_descriptor"))) xW ?_ (Ac _ _ _)
 obtain⟨i,g,d,t,os⟩:=s
 unfold Builtin.«wrapper_descriptor.__get__»
 rcases a with rfl|rfl
 all_goals
  repeat (first|(with_reducible refine Looks.at ((λn e=>e▸(nK (M:=Vg J w) X I f):∀n,n="list"->Looks (Vg J w) i (Yr (.ref x) (.type n)) UX) _ (by rfl')) ?_)|rw[b,if_neg VT]|refine dQ rfl ?_|lk)
  exact(aA _ rfl h)
theorem Mm {m D:U6} {id:String} {b l:List U2} {name:Vb} {tk:ZN} {Q:Fin->U7->Prop}
  (c:s.heap.get? m=UV {cls:= .type "super",dict:=UW,data:= .fields #[.ref D, .ref x, .ref C],slots:= #[]}) (f:Looks (Vg J w) s.heap (opaqueClassAbove (.ref C)) UW)
  (n:Looks (Vg J w) s.heap (mroOf (.ref C)) b) (hl:(b.dropWhile (· != .ref D)).drop 1=l) (X:K.In s.heap)
  (hf:alongIn K name l=UV (UV (.builtin id))) (o:aam (.builtin id)=pure (.type tg)) (p:Yq (.type tg) "__get__"=pure (UV (.builtin bt))) (i:x≠C) (q:(name==("__class__":Vb))=UY)
  (r:Vf (Vg J w) A (call (.builtin bt) [.builtin id, .ref x, .ref C]) (λv s'=>Q (.done (.ret v)) s') E s):
  Vf (Vg J w) A (Builtin.«super.__getattribute__» ⟨[.ref m, .str name tk],[]⟩) Q E s:=by
 obtain⟨h,g,d,t,os⟩:=s
 have j:(X6 x==X6 C)=UY:=by simp[i]
 have e:({cls:= .type "super",dict:=UW,data:= .fields #[.ref D, .ref x, .ref C],slots:= #[]}:Xg).data= .fields #[.ref D, .ref x, .ref C]:=rfl
 have u:(#[.ref D, .ref x, .ref C]:Array U2)[0]?=UV (.ref D):=rfl
 have y:(#[.ref D, .ref x, .ref C]:Array U2)[1]?=UV (.ref x):=rfl
 have B:(#[.ref D, .ref x, .ref C]:Array U2)[2]?=UV (.ref C):=rfl
 have k:∀F,(⟨h,g,d,F,os⟩:U7).TypeIs (.builtin id) tg:=λa=>o
 unfold Builtin.«super.__getattribute__»
 repeat (first
  |(with_reducible refine W6 c e u ?_)|(with_reducible refine W6 c e y ?_)|(with_reducible refine W6 c e B ?_)
  |(with_reducible refine ks_wpAny_notOpaque f ?_)
  |(with_reducible refine Looks.at n ?_;rw[hl])
  |(refine ks_forIn_along X (λa a=>rfl) rfl ?_ hf)
  |(with_reducible refine aaM (k _) ?_)
  |(with_reducible refine XQ p ?_)
  |refine dQ q ?_|rw[j,if_neg VT]|refine dQ rfl ?_
  |(with_reducible refine VF r (λv s' G=>?_) λa a z=>z)
  |wp_step
  |dsimp only)
 exact G
theorem Ad {e D:U6} {id:String} {c l:List U2} {name:Vb} {Q:U2×List U2->U7->Prop}
  (f:s.heap.get? e=UV {cls:= .type "super",dict:=UW,data:= .fields #[.ref D, .ref x, .ref C],slots:= #[]}) (j:Looks (Vg J w) s.heap (opaqueClassAbove (.ref C)) UW)
  (o:Looks (Vg J w) s.heap (mroOf (.ref C)) c) (hl:(c.dropWhile (· != .ref D)).drop 1=l) (X:K.In s.heap)
  (hf:alongIn K name l=UV (UV (.builtin id))) (p:aam (.builtin id)=pure (.type tg)) (q:Yq (.type tg) "__get__"=pure (UV (.builtin bt))) (k:x≠C) (r:(name==("__class__":Vb))=UY)
  (B:∀a,handedIn (.ref a)=UX)
  (u:∀s':U7,s'.heap=s.heap->s'.gens=s.gens->s'.os=s.os->s.toks<=s'.toks->Vf (Vg J w) A.in1 (call (.builtin bt) [.builtin id, .ref x, .ref C]) (λv s'=>(∃a,v= .ref a)/\Q (v,[]) s') (λb b=>False) s'):
  Vf (Vg J w) A (W0 (.ref e) name pl) Q E s:=by
 obtain⟨h,g,d,t,os⟩:=s
 have i:=F.ks_slot_super_ga.lookup
 have m:∀y,(⟨h,g,d,y,os⟩:U7).TypeIs (.ref e) "super":=λb=>(aA _ f rfl)
 dsimp only[W0]
 refine UZ (Xa (m _) i ?_)
 refine(?_:Vf _ _ (if(acF "super.__getattribute__"!="object.__getattribute__")=UX then _ else _) _ _ _)
 refine ac (if_pos (F.ks_canon_super_ga)) ?_
 unfold aaI getAttrBy
 refine UZ (UZ (Y0 (Vo (UZ (aaM (m _) (UZ (XQ i ?_)))))))
 refine(?_:Vf _ _ (YK (.ref e) (.str name t) (.type "super") (.builtin "super.__getattribute__") UX UY) _ _ _)
 unfold YK hookBefore ach ZX
 refine UZ (XQ (show(if onTheHeap (.type "super") then Yq (.type "super") "__getattr__" else pure UW)=pure UW from rfl) ?_)
 refine UZ (Zu (Vo ?_))
 refine(?_:Vf _ _ (bindSpecial (.builtin "super.__getattribute__") (.ref e) >>= _) _ _ _)
 refine UZ (XQ (F.ks_slot_super_ga.bind _) ?_)
 refine VF (Q:=λv s'=>(∃a,v= .ref a)/\Q (v,[]) s') (E:=λb b=>False)
  (Xn F.ks_slot_super_ga (m _) F.ks_entry_super_ga (Mm (s:=⟨h,g,d,t+1,os⟩) f j o hl X hf p q k r (VF (u ⟨h,g,d,t+1,os⟩ rfl rfl rfl (WG _)) (λv s' z=>⟨v,rfl,z⟩) λb b z=>z)) (F.ks_gaArgs_super _ _)) (λv s' n=>?_) λb b z=>z.elim
 obtain⟨⟨a,rfl⟩,n⟩:=n
 exact U3 (U3 n)
theorem Ae {b:U6} {id:String} {B:Builtin} {R:ZU->U7->Prop} (g:s.heap.get? b=UV {cls:= .type bt,dict:=UW,data:= .fields #[.builtin id, .ref x],slots:= #[]})
  (a:bt="builtin_function_or_method"∨bt="method-wrapper") (d:plainId id=UX) (i:abW table id=UV B)
  (j:∀Q:Unit->U7->Prop,Q () s->Vf (Vg J w) A.in1 (Y8 id ⟨[.ref x],[]⟩) Q (λe s'=>R (.error e) s') s)
  (h:Vf (Vg J w) A.in1 (B ⟨[.ref x],[]⟩) (λc s'=>match c with| .done f=>R (.ok f) s'| .again c'=>c'.quiet=UX/\Xz (Vg J w) A c' R s') (λe s'=>R (.error e) s') s):
  Xz (Vg J w) A (.call (.ref b) ⟨[],[]⟩) R s:=by
 refine XZ (?_:Vf _ A.in1 (callAny (.ref b) ⟨[],[]⟩) _ _ _)
 dsimp only[callAny]
 refine UZ (Zo g ?_)
 dsimp only
 refine ac (if_pos (by rcases a with rfl|rfl<;>decide)) ?_
 refine(?_:Vf _ _ (if((Value.type bt)!= .type "method")=UX then _ else _) _ _ _)
 refine ac (if_pos (by rcases a with rfl|rfl<;>decide)) ?_
 refine UZ (j _ (U3 ⟨plainId_quiet d _,ZI i ?_⟩))
 exact ac (Xo d _) h
end
end
section
structure Fh (J:Vz) (K:Frag) (f:U6) (fd:Vv) (D cc:U6):Prop where
 of:∃fo,K.lookup f=UV fo/\fo.data= .func fd
 first:∃ar,(fd.params.posonlyargs++fd.params.args).head?=UV ar/\ar.arg=("self":Vb)
 code:∃cda oc vs file tf,fd.code= .ref cda/\K.lookup cda=UV oc/\oc.data= .fields vs/\vs[2]?=UV (.str file tf)/\((J.main.file:Vb)==file)=UX
 cell:∃oc,K.lookup cc=UV oc/\oc.data= .cell (UV (.ref D))
 cls:∃oD cd,K.lookup D=UV oD/\oD.data= .cls cd
 top:(J.main.scope.names.lookup ("super":Vb)).isSome=UY
 op:nsIn K cStatics "thirdparty.any"=UV UW
 sub:mroIn K D (.ref D)=UV UX
section
variable {K:Frag} {x D:U6} 
theorem Fi {b:Vb} {z m:Vb->Option U2} (h:Fh J K f fd D cc) (X:K.In s.heap)
  (k:Z.scope.kind= .function) (i:Z.kindOf "super"=UV .globalImplicit) (j:Z.kindOf "__class__"=UV .free) (a:Z.kindOf "self"=UV .local) (l:(b==("__class__":Vb))=UY)
  (n:Z.func=UV f) (p:Z.code=fd.code) (q:Z.cells.lookup ("__class__":Vb)=UV cc) (G:s.heap.Ns Z.globals mg) (r:mg "super"=UW) (H:s.heap.Ns Z.builtins z) (u:z "super"=UV (.type "super"))
  (L:s.heap.Ns Z.locals m) (v:m "self"=UV (.ref x)) (I:Wn s.heap x ox D od)
  (M:∀h',h'.get? s.heap.objs.size=UV {cls:= .type "super",dict:=UW,data:= .fields #[.ref D, .ref x, .ref D],slots:= #[]}->(∀y o,s.heap.get? y=UV o->h'.get? y=UV o)->Q (.ref s.heap.objs.size) {s with heap:=h'}):
  _root_.PySem.wpAt (Vg J w) A (.func body Z) (Zt (.Call (.Name "super" p0) [] [] p1) b Z whole) Q E s:=by
 refine aj h.of λfo N O=>(aj h.first λar P a2=>?_)
 refine Uo h.code λR oc vs B tf S T U V W=>(aj h.cell λY e1 e2=>?_)
 refine aG h.cls λoD cd C F=>?_
 obtain⟨hp,g,d,t,os⟩:=s
 refine ks_wpAt_super_base i j l n (X _ _ N) O P (p.trans S) (X _ _ T) U V W h.top (ks_loadName_global k i (abz G r H u ⟨rfl,?_⟩))
 refine wpAny_loadName_free k j q (aA _ (X _ _ e1) e2) ((a2).symm▸ ?_)
 refine WD k a L v (ks_wpAny_isType_cls (X _ _ C) F ⟨rfl,?_⟩)
 refine ks_wpAny_call_super (X _ _ C) F I.at_ I.cls (λc e=>?_) (looks_mroIn X h.sub:Looks (Vg J w) hp (isSubtype (.ref D) (.ref D)) UX) M
 have:=I.no
 dsimp only[notCls] at this
 rw[e] at this
 exact Bool.noConfusion this
theorem vN {b:U6} {id:String} {Q:Keeper->U7->Prop} (c:s.heap.get? b=UV {cls:= .type bt,dict:=UW,data:= .fields #[.builtin id, .ref x],slots:= #[]})
  (a:bt="builtin_function_or_method"∨bt="method-wrapper") (h:Q .machine s):Vf (Vg J w) A (ZT (.ref b)) Q E s:=by
 dsimp only[ZT]
 refine UZ (Zo c ?_)
 dsimp only
 rcases a with rfl|rfl
 ·refine ac (if_pos (by decide)) ?_;exact U3 h
 ·refine ac (if_pos (by decide)) ?_;exact U3 h
theorem pg {name:Vb} {mb m:Vb->Option U2} {id gt:String} {B:Builtin} (SF:Fh J K f fd D cc) (X:K.In s.heap) (CF:bV K D UX)
  (hk:Z.scope.kind= .function) (H:Z.kindOf "super"=UV .globalImplicit) (L:Z.kindOf "__class__"=UV .free) (c:Z.kindOf "self"=UV .local)
  (M:Z.func=UV f) (N:Z.code=fd.code) (O:Z.cells.lookup ("__class__":Vb)=UV cc) (hg:s.heap.Ns Z.globals mg) (P:mg "super"=UW) (hb:s.heap.Ns Z.builtins mb) (R:mb "super"=UV (.type "super"))
  (hm:s.heap.Ns Z.locals m) (S:m "self"=UV (.ref x)) (I:Wn s.heap x ox D od) (T:x≠D)
  (hn:(name==("__class__":Vb))=UY) (hf:alongIn K name [.type "list", .type "object"]=UV (UV (.builtin id))) (ht:aam (.builtin id)=pure (.type tg)) (U:Yq (.type tg) "__get__"=pure (UV (.builtin gt)))
  (n:∀(s':U7) (Q:U2->U7->Prop),K.In s'.heap->Wn s'.heap x ox D od->Q (.ref s'.heap.objs.size) {s' with heap:=s'.heap.push {cls:= .type bt,data:= .fields #[.builtin id, .ref x]}}->
   Vf (Vg J w) A.in1 (call (.builtin gt) [.builtin id, .ref x, .ref D]) Q (λa a=>False) s')
  (p:bt="builtin_function_or_method"∨bt="method-wrapper") (V:plainId id=UX) (he:abW table id=UV B)
  (hc:∀(s':U7) (Q:Unit->U7->Prop) (E:U2->U7->Prop),K.In s'.heap->Wn s'.heap x ox D od->Q () s'->Vf (Vg J w) A.in1 (Y8 id ⟨[.ref x],[]⟩) Q E s')
  (W:Wq (.Call (.Attribute (.Call (.Name "super" p0) [] [] p1) name ap) [] [] pos) Z=(do
    let ov <-Zt (.Call (.Name "super" p0) [] [] p1) name Z (Wq (.Call (.Name "super" p0) [] [] p1) Z)
    WK ap.atName
    let(f,first) <-WB [ov] (W0 ov name pl)
    Y1 pos f first (XU pos (WO [] Z)) []))
  (h:∀s':U7,(∀y o,s.heap.get? y=UV o->s'.heap.get? y=UV o)->s'.gens=s.gens->s'.os=s.os->s.toks<=s'.toks->Vf (Vg J w) A.in1 (B ⟨[.ref x],[]⟩) (λj s'=>match j with| .done (.ret v)=>Q v s'|_=>False) E s'):
  _root_.PySem.wpAt (Vg J w) A (.func body Z) (Wq (.Call (.Attribute (.Call (.Name "super" p0) [] [] p1) name ap) [] [] pos) Z) Q E s:=by
 refine ks_wpAt_MethodCall (pl:=pl) ?_ W
 refine Fi SF X hk H L c hn M N O hg P hb R hm S I λF Y i=>?_
 obtain⟨hp,g,d,t,os⟩:=s
 have q:Wn F x ox D od:=⟨i _ _ I.at_,I.cls,I.no,by have:=I.dict;cases k:ox.dict<;>cases r:od<;>rw[k,r] at this<;>first|trivial|exact this.elim|exact i _ _ this⟩
 have u:K.In F:=X.keeps i
 refine ca CF.cd λcd k1 k2 k3=>?_
 refine Ad (s:=⟨F,g,d,t,os⟩) Y (looks_opaque u SF.op) ((looks_clsIn u k1).andThen .now) (l:=[.type "list", .type "object"]) (by refine(k3).symm▸ ?_;simp[vD]) u hf ht U T hn (λa=>rfl) λb k r e3 e4=>?_
 refine VF (n b (λv s'=>v= .ref b.heap.objs.size/\s'={b with heap:=b.heap.push {cls:= .type bt,data:= .fields #[.builtin id, .ref x]}}) (ac k u) (ac k q) ⟨rfl,rfl⟩) (λv s' hv=>?_) λa a z=>z.elim
 obtain⟨rfl,rfl⟩:=hv
 refine⟨⟨_,rfl⟩,?_⟩
 have C:(b.heap.push {cls:= .type bt,data:= .fields #[.builtin id, .ref x]}).get? b.heap.objs.size=UV {cls:= .type bt,dict:=UW,data:= .fields #[.builtin id, .ref x],slots:= #[]}:=Heap.get?_push_at rfl rfl
 have G:∀y o,F.get? y=UV o->(b.heap.push {cls:= .type bt,data:= .fields #[.builtin id, .ref x]}).get? y=UV o:=λy o e=>Vw _ (ac k e)
 have I2:Wn (b.heap.push {cls:= .type bt,data:= .fields #[.builtin id, .ref x]}) x ox D od:=⟨G _ _ q.at_,q.cls,q.no,by have:=q.dict;cases k:ox.dict<;>cases r:od<;>rw[k,r] at this<;>first|trivial|exact this.elim|exact G _ _ this⟩
 dsimp only[Y1]
 refine UZ (Vo (de rfl (U3 ?_)))
 refine UZ (VL (UZ (vN C p ?_)))
 refine(?_:Vf _ _ (call (.ref b.heap.objs.size) [] [] >>= _) _ _ _)
 refine UZ (Xq (Ae C p V he (λQ hQ=>hc {b with heap:=b.heap.push {cls:= .type bt,data:= .fields #[.builtin id, .ref x]}} Q _ (u.keeps G) I2 hQ) ?_))
 refine VF (h {b with heap:=b.heap.push {cls:= .type bt,data:= .fields #[.builtin id, .ref x]}} (λy o e=>G y o (i y o e)) r e3 e4) (λj s' z=>?_) λa a z=>z
 rcases j with (_|_|_|v)|_<;>first|exact z.elim|skip
 exact UZ (Vo (wpAny_point (U3 z)))
end
end
section
section
variable {x:U6} {n:Nat}
theorem Fj (f:s.heap.get? x=UV ox) (hd:ox.data= .seq items n) (h:Q (.int items.size s.toks) {s with toks:=s.toks+1}):
  Vf (Vg J w) A (Builtin.«list.__len__» ⟨[.ref x],[]⟩) (λa s'=>match a with| .done (.ret v)=>Q v s'|_=>False) E s:=by
 obtain⟨i,g,d,t,os⟩:=s
 obtain⟨j,b,c,e⟩:=ox
 dsimp only at hd
 subst hd
 unfold Builtin.«list.__len__»
 wp_walk
 exact h
theorem Fk {v:U2} (f:s.heap.get? x=UV ox) (hd:ox.data= .seq items n) (b:items[items.size - 1]?=UV v) (hz:items.size<=1000)
  (h:Q v {s with heap:=s.heap.update x (Xj (·.eraseIdxIfInBounds (items.size - 1)))}):
  Vf (Vg J w) A (Builtin.«list.pop» ⟨[.ref x],[]⟩) (λc s'=>match c with| .done (.ret v)=>Q v s'|_=>False) E s:=by
 unfold Builtin.«list.pop»
 have a:0 < items.size:=by
  refine(YL 0 items.size).elim (λh=>?_) λh=>?_
  ·exact h
  ·rw[Array.getElem?_eq_none (by exact U1 h (Wp _ _))] at b;exact nn b
 have e:(items.eraseIdxIfInBounds (items.size - 1)).size<=U9+1:=by
  have:(items.eraseIdxIfInBounds (items.size - 1)).size<=items.size:=by
   unfold Yp;split
   ·rw[Array.size_eraseIdx];exact XI _ _
   ·exact Vr _
  refine(VK).symm▸ ?_;exact U1 (U1 this hz) (by decide)
 have j:items.isEmpty=UY:=by unfold Array.isEmpty;exact decide_eq_false (YN a)
 have k:ZQ (-1) items.size=UV (items.size - 1):=by have:=jZ (i:=Zb 0) (n:=items.size) (show 0+1<=items.size/\0 < 2^62 from⟨a,by decide⟩);refine ac (show(-1:Int)=Zb 0 from rfl) (ac this ?_);rfl
 obtain⟨l,g,d,t,os⟩:=s
 wp_walk
 refine(hd).symm▸(U3 (U3 ?_))
 simp -iota only[j,k,b,We,abu,Xi,if_false]
 refine UZ ?_
 unfold Zv
 refine ZH f hd ?_ (hz:=jf hz rfl) (_hz':=e)
 exact U3 h
theorem Cq (c:s.heap.get? x=UV ox) (hd:ox.data= .seq items n) (hz:items.size<=1000)
  (h:Q .none {s with heap:=s.heap.update x (Xj λa=> #[])}):
  Vf (Vg J w) A (Builtin.«list.__init__» ⟨[.ref x],[]⟩) (λb s'=>match b with| .done (.ret v)=>Q v s'|_=>False) E s:=by
 unfold Builtin.«list.__init__»
 obtain⟨e,g,d,t,os⟩:=s
 refine UZ (gU c hd (UZ ?_))
 unfold Zv
 refine ZH c hd ?_ (hz:=jf hz rfl) (_hz':=by refine(VK).symm▸ ?_;simp)
 exact UZ (wpAny_letGo (U3 h))
end
end
section
section
variable {K:Frag} {x D:U6} 
theorem qF {id:String} {Q:Unit->U7->Prop} (d:WA id=UV .slot) (c:ZZ id ⟨[.ref x],[]⟩) (h:Q () s):Vf (Vg J w) A (Y8 id ⟨[.ref x],[]⟩) Q E s:=by
 unfold Y8;induction a:aav id with
 |none=>exact U3 h
 |some b=>dsimp only;refine ac d ?_;simp only[ZZ,a] at c;refine(?_:Vf _ _ (aaE id b ⟨[.ref x],[]⟩) _ _ _);refine ac (c:aaE id b ⟨[.ref x],[]⟩=pure ()) ?_;exact U3 h
theorem Fm:WA "list.pop"=UV .method:=by decide+kernel
theorem Cr {Q:Unit->U7->Prop} (X:K.In s.heap) (I:Wn s.heap x ox D od) (k:mroIn K D (.type "module")=UV UY) (l:typeIn K (.ref D)=UV (.type "type")) {cd:adu} (f:clsIn K D=UV cd) (h:Q () s):
  Vf (Vg J w) A (Y8 "list.pop" ⟨[.ref x],[]⟩) Q E s:=by
 obtain⟨b,g,d,t,os⟩:=s
 have v:Looks (Vg J w) b (Yr (.ref x) (.type "module")) UY:=I.type.andThen (looks_mroIn X k)
 have y:Looks (Vg J w) b (isType (.ref x)) UY:=by refine(Looks.ld (part:=UW) (I.at_)).andThen ?_;obtain⟨z,m,i,n⟩:=ox;cases i<;>first|exact .now|cases (I.no)
 have B:Looks (Vg J w) b (aam (.ref x)) (.ref D):=I.type
 have C:Looks (Vg J w) b (classData D) cd:=looks_clsIn X f
 have F:Looks (Vg J w) b (aam (.ref D)) (.type "type"):=looks_typeIn X l
 unfold Y8
 have c:∀a:String,(toString a++toString "."++toString (ac3 "list.pop")!="*")=UX:=λa=>by
  rw[bne_iff_ne];intro e;have j:(toString a++toString "."++toString (ac3 "list.pop")).length=("*":String).length:=congrArg String.length e;have o:ac3 "list.pop"="pop":=by rfl'
  simp only[o] at j;have p:("*":String).length=1:=by decide
  have q:(toString ".":String).length=1:=by decide
  have r:(toString "pop":String).length=3:=by decide
  simp only[acG,acG,p,q,r] at j;lia
 refine ac (by rfl':aav "list.pop"=UV ⟨.positional,"list.pop","pop", .self,[⟨"index", .posOnly,UY⟩]⟩) ?_
 dsimp only
 refine ac Fm ?_
 dsimp only
 have u:Manifest.varargsMethods.contains "list.pop"=UY:=by decide+kernel
 repeat (first|refine dQ u ?_|refine dQ rfl ?_|lk)
 refine ac (if_pos (c _)) (U3 (UZ ?_))
 refine(?_:Vf _ _ (Bind.printed "pop" UY _ _) _ _ _)
 unfold Bind.printed
 refine qt rfl (U3 (X3 ?_))
 exact XQ (a:=()) rfl h
end
end
end
section
open PySem.W (Frag findIn typeIn clsIn lookIn shadowIn handedIn findObj notCls mroIn nsIn)
section
def a8 (c:Cx) (A:Vk) (code:Code) (fz:Vc) (U:List U6) (m:M α) (t:Xh β) (R:bJ α β):Prop:=
 ∀S a S' p,m S=UV (a,S',p)->ao p->∀fz' ρ' s Q,Le fz fz'->U <+:ρ'->SR c fz' ρ' S.H s->dc c fz' ρ' S'.H R a Q->_root_.PySem.wpAt (Vg c.prog c.w) A code t Q bE s
section
theorem ae.toAt (h:ae c A fz U m t R):a8 c A code fz U m t R:=λS a d p e f b ρ' s Q k q g y=>_root_.PySem.wpAt_of_wpAny (h S a d p e f b ρ' s Q k q g y)
theorem a8.run (h:∀S K,(∀a S' p,(ao p->∀fz' ρ' s Q,Le fz fz'->U <+:ρ'->SR c fz' ρ' S.H s->dc c fz' ρ' S'.H R a Q->_root_.PySem.wpAt (Vg c.prog c.w) A code t Q bE s)->K a S' p)->OK (m S) K):a8 c A code fz U m t R:=λS a S' p e=>by have:=h S _ λb b b x=>x;rw[e] at this;exact this
theorem a8.ret {a:α} {x:β} (h:∀fz' ρ',Le fz fz'->U <+:ρ'->R fz' ρ' a x):a8 c A code fz U (ret a) (pure x) R:=(ae.ret h).toAt
end
structure te (KK:List (U6×Xg)) (f:U6) (fd:Vv) (T:FT) (cc:U6):Prop where
 obj:∃fo,(f,fo)∈KK/\fo.data= .func fd
 body:fd.body= .stmts T.body
 scope:fd.scope=T.scope
 clo:fd.closure=[(("__class__":Vb),cc)]
 code:∀h,bv KK h->h.CodeRec fd.code fd.qualname
 glob:fd.globals=mainGlobals
 bu:fd.builtins=builtinsNs
 cn:T.cn=[]
 nc:∀x∈T.scope.names,x.2≠ .cell
 kinds:∀x∈T.params,T.scope.names.lookup x=UV .local
 co:T.scope.isCoroutine=UY
 gen:T.scope.isGenerator=UY
 kind:T.scope.kind= .function
 trim:T.trim=UW
structure Fn (Z:Yi) (fd:Vv) (f:U6) (T:FT):Prop where
 func:Z.func=UV f
 code:Z.code=fd.code
 cells:Z.cells=fd.closure
 glob:Z.globals=mainGlobals
 bu:Z.builtins=builtinsNs
 scope:Z.scope=T.scope
def gV (T:FT) (m:Nat->M Fl) (vs:List V):M V:=bnd (kE T (T.params.zip vs)) λL=>bnd (m L) λf=>match f with
  | .ret v=>ret v
  | .next=>ret .none
  |_=>fail
noncomputable def l9 (T:FT) (glob:List (Vb×GV)) (L:Nat):Ec:={names:=T.scope.names,cells:=[],fid:=L,glob:=glob}
set_option backward.match.sparseCases true in
theorem rP {m:Nat->M Fl} 
  (F:te c.KK f fd T cc) (t:eC c.KK glob) (E:∀h,bv c.KK h->h.NoLimit) (hA:A.depth < Wt) (a5:vs.length=T.params.length) (z:∀s:U7,bv c.KK s.heap->Yd s fd ⟨xs,[]⟩ (T.params.zip xs))
  (H:∀L Z fz' ρ',Le fz fz'->U <+:ρ'->Fn Z fd f T->aI c (l9 T glob L) Z ρ'->a8 c (A.deeper Z) (.func T.body Z) fz' ρ' (m L) (aaf T.body Z) FR)
  (hx:av fz U vs xs):eS c A fz U (gV T m vs) (.call (.ref f) ⟨xs,[]⟩):=by
 intro S v S' p e G fz' ρ' s R k q I y
 unfold gV at e
 refine ez (bA e) λL S1 p1 q1 J g1 B=>?_
 subst B
 refine ez (bA g1) λfl S2 p2 q2 V W B=>?_
 subst B
 obtain⟨_,G⟩:=af.mp G
 obtain⟨X,a7⟩:=af.mp G
 unfold kE at J
 rw[F.cn] at J
 cases J
 refine aj F.obj λfo Y a0=>?_
 have l:bv c.KK s.heap:=λp G=>I.hr.fzle _ _ (I.hr.wd p G)
 have r:∀y∈T.params.zip xs,y.1∈T.params:=λy hy=>(aaj hy).1
 refine ks_codeAny_call_defAt (binds:=T.params.zip xs) hA (l _ Y) a0 (E _ l) (F.code _ l) F.body (z s l) (ac F.scope F.nc)
  (λy hy=>(F.scope).symm▸(F.kinds y.1 (r y hy))) (λK a1 C=>?_) (ac F.scope F.co) (ac F.scope F.gen) (ac F.scope F.kind)
 generalize g:callEnv fd s.heap.objs.size f=Z at*
 have d:Z.scope=T.scope:=aD g (aD F.scope rfl)
 have a2:=hx.mono k q
 have j:Z.scope.names=T.scope.names:=ac d rfl
 have N:∀x∈T.params.zip xs,Z.kindOf x.1=UV .local:=λx a3=>by refine(?_:Z.scope.names.lookup x.1=_);refine(d).symm▸ ?_;exact F.kinds _ (r x a3)
 have a4:=I.hr.exts (k:=C) [s.heap.objs.size] [.frame (jD T.scope.names (T.params.zip vs) [])] rfl (by simp) (λa O=>by
   rw[ZE] at O;refine(O).symm▸ ?_;exact Vr _) (λi a o O ho=>by
   induction i with
   |zero=>
    cases O;cases ho;refine jg a1 λob es ep d1 d2 d3 d4=>⟨rfl,ob,d1,_,(cY es ep d2 d3 d4),λy=>?_⟩
    have:=(nG j [] (λb=>UW) a2 (λb=>trivial) y (ps:=T.params)).mono (Le.refl _) (Vn ρ' [s.heap.objs.size]);rw[s0 _ N,Option.or_none] at this;exact this
   |succ i=>cases O)
 have pp:ρ' <+:ρ'++[s.heap.objs.size]:=Vn _ _
 have eo:aI c (l9 T glob S.H.length) Z (ρ'++[s.heap.objs.size]):=
  {kind:=(d).symm▸F.kind
   names:=j
   glob:=λx v hv h hk=>by have J:Z.globals=mainGlobals:=(g)▸F.glob;have V:Z.builtins=builtinsNs:=(g)▸F.bu;refine ac J (ac V ?_);exact t x v hv h hk
   loc:=by refine(((g)▸rfl:Z.locals=s.heap.objs.size)).symm▸ ?_;exact bj I.hr.len.symm
   cells:=λx n hn=>nomatch hn
   trim:=λb h=>(nomatch h)}
 have es:Fn Z fd f T:=by exact(g)▸⟨rfl,rfl,rfl,F.glob,F.bu,(F.scope)▸rfl⟩
 have D:=H S.H.length Z fz' _ k (q.trans pp) es eo _ fl S2 p2 V X fz' _ {s with heap:=K,toks:=s.toks+(T.params.zip xs).length} (λf s'=>R (.ok (.ret (match f with| .ret v=>v|_=> .none))) s') (Le.refl _) (U4 _) (I.ta a4) λf2 r2 s2 w k2 P Q hw=>by
  induction fl with
  |next=>
   cases w<;>first|exact hw.elim|skip
   cases W;exact y f2 r2 s2 .none k2 (pp.trans P) Q .none
  |ret u=>
   cases w<;>first|exact hw.elim|skip
   cases W;exact y f2 r2 s2 _ k2 (pp.trans P) Q hw
  |_=>cases W
 exact _root_.PySem.wpAt_mono D (λb b h=>h) λb b h=>h.elim
inductive SK where
 |len|pop|init
noncomputable def t6:List V->V
 |[]=> .none
 |[a]=>a
 |_::r=>t6 r
noncomputable def Rw (k:SK) (i:Nat) (D:U6) (d:Nat) (xs:List V):M V:=λS=>match k with
 | .len=>UV (.int xs.length,S,[xs.length<=1000])
 | .pop=>UV (t6 xs,⟨S.H.set i (.inst D d (UV xs.dropLast)),S.orc⟩,[0 < xs.length/\xs.length<=1000])
 | .init=>UV (.none,⟨S.H.set i (.inst D d (UV [])),S.orc⟩,[xs.length<=1000])
def Af (k:SK) (D:U6) (C:Ec):M V:=getO qB C.fid λl=>cU (lk ("self":Vb) l) λv=>asR v λi=>getO Fd i λr=>bX (VA r.1 D) (getO nJ r.2.1 λa=>Rw k i D r.2.1 r.2.2)
noncomputable def SK.name:SK->Vb
 | .len=>"__len__"
 | .pop=>"pop"
 | .init=>"__init__"
noncomputable def SK.id:SK->String
 | .len=>"list.__len__"
 | .pop=>"list.pop"
 | .init=>"list.__init__"
theorem av.snocI {v:List V} {u:V} {x:List U2} (h:av g U (v++[u]) x):∃y z,x=y++[z]/\av g U v y/\VR g U u z:=by
 induction v generalizing x with
 |nil=>exact aj h.i1 λz e c=>⟨[],z,e, .nil,c⟩
 |cons a v d=>exact cy h.ic λb r e f i=>cy (d i) λy z j k l=>(cY (b::y) z (e.trans (congrArg (b::·) j)) (.cons f k) l)
theorem Ag (u:V) (v:List V):t6 (v++[u])=u:=by
 induction v with
 |nil=>rfl
 |cons a v c=>induction v with
  |nil=>rfl
  |cons b v=>exact c
theorem av.last {v:List V} {x:List U2} (h:av g U v x) (a:0 < v.length):∃z,x[x.length - 1]?=UV z/\VR g U (t6 v) z/\av g U v.dropLast x.dropLast:=by
 rw[<-Zm (List.ne_nil_of_length_pos a)] at h ⊢;refine cy h.snocI λy z e b c=>(ac e ?_)
 rw[Ag,ac4,ac4];refine ac U8 ?_;exact(cE z (bj rfl) c b)
structure mJ (J:Vz) (K:Frag) (f:U6) (fd:Vv) (D cc:U6):Prop where
 s:Fh J K f fd D cc
 c:bV K D UX
 m:mroIn K D (.type "module")=UV UY
 t:typeIn K (.ref D)=UV (.type "type")
 a:∀k:SK,PySem.W.alongIn K k.name [.type "list", .type "object"]=UV (UV (.builtin k.id))
def kI (KK:List (U6×Xg)):Prop:=∀h,bv KK h->∃mg a,h.Ns mainGlobals mg/\mg "super"=UW/\h.Ns builtinsNs a/\a "super"=UV (.type "super")
section
structure Fo (c:Cx) (D:U6) (Z:Yi) (fz:Vc) (U:List U6) (i d:Nat) (xs:List V) (s:U7) (m:Vb->Option U2) (x da:U6) (es:List Wg) (nn:Nat) (vs:List U2) (n:Nat):Prop where
 hn:s.heap.Ns Z.locals m
 hms:m "self"=UV (.ref x)
 hx:U[i]?=UV x
 g2:s.heap.get? x=UV {cls:= .ref D,dict:=UV da,data:= .seq vs.toArray n,slots:= #[]}
 g5:U[d]?=UV da
 g6:av fz U xs vs
 w1:s.heap.get? da=UV (cK es nn)
 xD:x≠D
theorem Fo.I {D:U6} {d:Nat} {xs:List V} {m:Vb->Option U2} {x:U6} {es:List Wg} {nn:Nat} {vs:List U2} {n:Nat} (X:Fo c D Z fz U i d xs s m x da es nn vs n):Wn s.heap x {cls:= .ref D,dict:=UV da,data:= .seq vs.toArray n,slots:= #[]} D (UV (cK es nn)):=⟨X.g2,rfl,rfl,X.w1⟩
theorem SR.lk (x:SR c fz U H s) {o:Xg} (e:c.KK.lookup a=UV o):fz.get? a=UV o:=by
 have:∀{K:List (U6×Xg)},K.lookup a=UV o->(a,o)∈K:=λ{K}=>by
  induction K with
  |nil=>exact λh=>nn h
  |cons p r d=>
   intro h;rw[Xc] at h;induction b:a==p.1 with
   |true=>rw[b] at h;exact ac (beq_iff_eq.mp b) (aD (U0 h) (.head _))
   |false=>rw[b] at h;exact .tail _ (d h)
 exact x.hr.wd _ (this e)
theorem vO {D:U6} {l des:List (Vb×V)} {d:Nat} {xs:List V} (p:aI c C Z U) (h1:H[C.fid]?=UV (.frame l)) (h2:lk ("self":Vb) l=UV (.ref i)) (j:H[i]?=UV (.inst D d (UV xs))) (q:H[d]?=UV (.dict des)) (r:∃o,c.KK.lookup D=UV o) (b:SR c fz U H s):
  ∃m x da es nn vs n,Fo c D Z fz U i d xs s m x da es nn vs n:=
 aj (gv b h1 p.loc) λm t u=>aj (d6.i_some (aD h2 (u ("self":Vb)))) λz f v=>aj v.i_ref λx e g=>aj (b.hr.at j rfl g) λE w h=>aj h λda k h=>aG h λvs n y A=>aG (ju b q k) λes nn w1 a=>
  ⟨m,x,da,es,nn,vs,n,t,f.trans (congrArg UV e),g,y▸w,k,A,w1,λe=>r.elim λo B=>Mine.Internal.nn ((b.hr.fne j rfl g).symm.trans (ac e (b.lk B)))⟩
theorem rQ {D:U6} {L:Nat} {k:SK} (h:mJ c.prog c.KK f fd D cc) (P:kI c.KK) (F:te c.KK f fd T cc)
  (es:Fn Z fd f T) (Y:aI c (l9 T glob L) Z U) (R:T.scope.names.lookup ("super":Vb)=UV .globalImplicit) (V:T.scope.names.lookup ("__class__":Vb)=UV .free) (g:T.scope.names.lookup ("self":Vb)=UV .local)
  (W:Wq (.Call (.Attribute (.Call (.Name "super" p0) [] [] p1) k.name ap) [] [] pos) Z=(do
    let ov <-Zt (.Call (.Name "super" p0) [] [] p1) k.name Z (Wq (.Call (.Name "super" p0) [] [] p1) Z)
    WK ap.atName
    let(f,first) <-WB [ov] (W0 ov k.name pl)
    Y1 pos f first (XU pos (WO [] Z)) [])):
  a8 c A (.func body Z) fz U (Af k D (l9 T glob L)) (Wq (.Call (.Attribute (.Call (.Name "super" p0) [] [] p1) k.name ap) [] [] pos) Z) au:=by
 refine a8.run λS K hK=>OK.getO λo l h1 g1=>OK.opt λv h2=>OK.asR λi e=>OK.getO λo' r N g3=>OK.when λh4=>OK.getO λa2 a3 h5 g5=>?_
 have hD:∃o,c.KK.lookup D=UV o:=aG h.s.cls λoD cd d1 d2=>⟨oD,d1⟩
 have h4:=VI h4
 have h1:=h1.trans (congrArg UV (mI g1))
 have N:=N.trans (congrArg UV (yG g3))
 have h5:=h5.trans (congrArg UV (jG g5))
 rw[e] at h2
 rw[h4] at N
 have b:∀n',Z.kindOf n'=T.scope.names.lookup n':=λn'=>by show Z.scope.names.lookup n'=_;rw[es.scope]
 have j:∀k:SK,(k.name==("__class__":Vb))=UY:=λk=>by cases k<;>decide
 have u:Z.cells.lookup ("__class__":Vb)=UV cc:=by refine ac es.cells (ac F.clo ?_);simp
 clear g1 g3 g5
 induction k with
 |len=>
  refine hK _ _ _ λw M ρ' s Q kk q d y=>uM (vO (Y.at q) h1 h2 N h5 hD d) λm x da a0 nn vs n X=>(ye (P _ λp w=>d.hr.fzle _ _ (d.hr.wd p w)) λmg mb m1 m2 m3 m4=>?_)
  refine pg (B:=Builtin.«list.__len__») (bt:="method-wrapper") (gt:="wrapper_descriptor.__get__") (tg:="wrapper_descriptor") (id:="list.__len__") h.s d.inK h.c Y.kind ((b _).trans R) ((b _).trans V) ((b _).trans g)
   es.func es.code u (ac es.glob m1) m2 (ac es.bu m3) m4 X.hn X.hms X.I X.xD (j .len) (h.a .len) vK lw.lookup (λJ Q X I C=>vM (.inl rfl) X I h.c rfl C) (.inr rfl) (by decide+kernel) PySem.F.entry_list_len
   (λJ Q E X I C=>qF (by decide+kernel) (PySem.args_list_len _) C) W λJ i1 i2 i3 i4=>Fj (i1 _ _ X.g2) rfl (y.at ⟨d.hr.le i1,i3.trans d.os,i2.symm▸d.bare,U1 d.tk (abl i4)⟩ ?_)
  refine ac VH (ac X.g6.length ?_);exact .int _ _
 |pop=>
  refine hK _ _ _ λw M ρ' s Q kk q d y=>uM (vO (Y.at q) h1 h2 N h5 hD d) λm x da a0 nn vs n X=>(ye (P _ λp w=>d.hr.fzle _ _ (d.hr.wd p w)) λmg mb m1 m2 m3 m4=>?_)
  refine ca (X.g6.last w.1.1) λz z1 z2 z3=>ca h.c.cd λcd k1 k2 k3=>?_;have O:=X.g6.length;refine pg (B:=Builtin.«list.pop») (bt:="builtin_function_or_method") (gt:="method_descriptor.__get__") (tg:="method_descriptor") (id:="list.pop") h.s d.inK h.c Y.kind ((b _).trans R) ((b _).trans V) ((b _).trans g)
   es.func es.code u (ac es.glob m1) m2 (ac es.bu m3) m4 X.hn X.hms X.I X.xD (j .pop) (h.a .pop) vJ qE.lookup (λJ Q X I C=>J6 X I h.c rfl C) (.inl rfl) (by decide+kernel) acf
   (λJ Q E X I C=>Cr X I h.m h.t k1 C) W λJ i1 i2 i3 i4=>?_
  refine Fk (v:=z) (i1 _ _ X.g2) rfl ((Wh).trans z1) (O.symm▸w.1.2:vs.length<=_) ?_;have he:(vs.toArray.eraseIdxIfInBounds (vs.toArray.size - 1))=vs.dropLast.toArray:=by have a1:vs.length - 1 < vs.length:=Yx (ac O w.1.1) YC;simp only[Yp,VH,acN,a1,dif_pos,qx]
  have G:SR c M ρ' S.H J:=⟨d.hr.le i1,i3.trans d.os,i2.symm▸d.bare,U1 d.tk i4⟩
  exact y.at (G.tz (G.hr.upd N rfl X.hx (VQ ..) (Xl _ (i1 _ _ X.g2) rfl) ⟨da,X.g5,vs.dropLast,_,by simp only[Xj,he];rfl,z3⟩)) z2
 |init=>
  refine hK _ _ _ λw M ρ' s Q kk q d y=>uM (vO (Y.at q) h1 h2 N h5 hD d) λm x da a0 nn vs n X=>(ye (P _ λp w=>d.hr.fzle _ _ (d.hr.wd p w)) λmg mb m1 m2 m3 m4=>?_)
  refine pg (B:=Builtin.«list.__init__») (bt:="method-wrapper") (gt:="wrapper_descriptor.__get__") (tg:="wrapper_descriptor") (id:="list.__init__") h.s d.inK h.c Y.kind ((b _).trans R) ((b _).trans V) ((b _).trans g)
   es.func es.code u (ac es.glob m1) m2 (ac es.bu m3) m4 X.hn X.hms X.I X.xD (j .init) (h.a .init) tc lw.lookup (λJ Q X I C=>vM (.inr rfl) X I h.c rfl C) (.inr rfl) (by decide+kernel) PySem.F.entry_list_init
   (λJ Q E X I C=>qF (by decide+kernel) (by unfold ZZ;rfl') C) W λJ i1 i2 i3 i4=>Cq (i1 _ _ X.g2) rfl (X.g6.length.symm▸w.1:vs.length<=_) ?_
  have G:SR c M ρ' S.H J:=⟨d.hr.le i1,i3.trans d.os,i2.symm▸d.bare,U1 d.tk i4⟩
  exact y.at (G.tz (G.hr.upd N rfl X.hx (VQ ..) (Xl _ (i1 _ _ X.g2) rfl) ⟨da,X.g5,[],_,by simp only[Xj];rfl, .nil⟩)) .none
end
end
section
def Fp (m:M V):M Fl:=bnd m λv=>ret (Fl.ret v)
def Mn (m:M V):M Fl:=bnd m λa=>ret Fl.next
def nM (m m2:M Fl):M Fl:=bnd m λf=>match f with
 | .next=>m2
 |y=>ret y
def Q4 (m:M Bool) (m1 m2:M Fl):M Fl:=bnd m λb=>bnd (dec b) λd=>match d with
 |true=>m1
 |false=>m2
section
theorem a8.cons {m m2:M Fl} {rest:List VY} (h1:a8 c A code fz U m (aaU st Z) FR) (h2:∀fz' ρ',Le fz fz'->U <+:ρ'->a8 c A code fz' ρ' m2 (aaf rest Z) FR):
  a8 c A code fz U (nM m m2) (aaf (st::rest) Z) FR:=by
 intro S b J q e u fz' ρ' s Q o p x y
 refine ez (bA e) λa t B C e1 e2 k=>?_
 subst k
 obtain⟨l,n⟩:=af.mp u
 refine ks_wpAt_execs_cons (h1 S a t B e1 l fz' ρ' s _ o p x λd f i z g h j r=>?_)
 induction a with
 |next=>
  cases z<;>first|exact r.elim|skip
  exact h2 d f (o.trans g) (p.trans h) t b _ C e2 n d f i Q (Le.refl _) (U4 _) j λD E F w G H I=>y D E F w (g.trans G) (h.trans H) I
 |brk=>cases z<;>first|exact r.elim|(obtain⟨rfl,rfl,rfl⟩:=db e2;exact y d f i _ g h j r)
 |cont=>cases z<;>first|exact r.elim|(obtain⟨rfl,rfl,rfl⟩:=db e2;exact y d f i _ g h j r)
 |ret v=>cases z<;>first|exact r.elim|(obtain⟨rfl,rfl,rfl⟩:=db e2;exact y d f i _ g h j r)
theorem a8.return {m:M V} (h:a8 c A code fz U m (Wq e Z) au):a8 c A code fz U (Fp m) (aaU (.Return (UV e) pos) Z) FR:=by intro S b D q e n i ρ' s Q o p x y;refine ez (bA e) λa E t F e1 e2 d=>?_;subst d;obtain⟨j,u⟩:=af.mp n;refine b9 (db e2) λd k l=>?_;subst d;subst k;subst l;exact ks_wpAt_Return_some (h S a _ t e1 j i ρ' s _ o p x λf g v z w B C r=>y f g v _ w B C r)
theorem a8.expr {m:M V} (hi:Yn Z=UY) (hs:swapsWith e UW pos.line Z=pure UY) (h:a8 c A code fz U m (Wq e Z) au):a8 c A code fz U (Mn m) (aaU (.Expr e pos) Z) FR:=by intro S b D q e n i ρ' s Q o p x y;refine ez (bA e) λa E t F e1 e2 d=>?_;subst d;obtain⟨j,u⟩:=af.mp n;refine b9 (db e2) λd k l=>?_;subst d;subst k;subst l;exact ks_wpAt_Expr_any (h S a _ t e1 j i ρ' s _ o p x λf g v z w B C r=>y f g v _ w B C trivial) hi hs
theorem a8.if {m:M Bool} {m1 m2:M Fl} {t:Vs} {b1 b2:List VY} (h:a8 c A code fz U m (aa4 t Z (Wq t Z)) gP) (h1:∀fz' ρ',Le fz fz'->U <+:ρ'->a8 c A code fz' ρ' m1 (aaf b1 Z) FR)
  (h2:∀fz' ρ',Le fz fz'->U <+:ρ'->a8 c A code fz' ρ' m2 (aaf b2 Z) FR):a8 c A code fz U (Q4 m m1 m2) (aaU (.If t b1 b2 pos) Z) FR:=by
 intro S b W q e N fz' ρ' s Q o p x y
 refine ez (bA e) λa O P X e1 e2 i=>?_
 subst i
 obtain⟨u,v⟩:=af.mp N
 refine ez (bA e2) λd I k J e3 K i=>?_
 subst i
 obtain⟨B,j⟩:=af.mp v
 obtain⟨R,T⟩:=u8 e3 B
 subst R
 refine ks_wpAt_If (h S a O P e1 u fz' ρ' s _ o p x λf g L z l n C r=>?_)
 have V:a=z:=r
 subst V
 rw[<-T] at C
 induction a with
 |true=>exact h1 f g (o.trans l) (p.trans n) I b _ J K j f g L Q (Le.refl _) (U4 _) C λD E F w G k H=>y D E F w (l.trans G) (n.trans k) H
 |false=>exact h2 f g (o.trans l) (p.trans n) I b _ J K j f g L Q (Le.refl _) (U4 _) C λD E F w G k H=>y D E F w (l.trans G) (n.trans k) H
theorem a8.nil:a8 c A code fz U (Mine.Internal.ret Fl.next) (aaf [] Z) FR:=a8.ret λa a a a=>trivial
end
abbrev mK (k:SK) (p0 p1 ap pos:XN):Vs:= .Call (.Attribute (.Call (.Name "super" p0) [] [] p1) k.name ap) [] [] pos
structure Ah (T:FT):Prop where
 ks:T.scope.names.lookup ("super":Vb)=UV .globalImplicit
 kc:T.scope.names.lookup ("__class__":Vb)=UV .free
 kself:T.scope.names.lookup ("self":Vb)=UV .local
def Ai (T:FT) (k:SK) (p0 p1 ap pos:XN):Prop:=∀Z:Yi,Z.scope=T.scope->∃pl,Wq (mK k p0 p1 ap pos) Z=(do
    let a <-Zt (.Call (.Name "super" p0) [] [] p1) k.name Z (Wq (.Call (.Name "super" p0) [] [] p1) Z)
    WK ap.atName
    let(f,first) <-WB [a] (W0 a k.name pl)
    Y1 pos f first (XU pos (WO [] Z)) [])
section
variable {D:U6} {pos2 pos3:XN} 
def vP (D:U6) (T:FT) (glob:List (Vb×GV)) (L:Nat):M Fl:=nM (Fp (Af .len D (l9 T glob L))) (ret .next)
theorem Aj (m:mJ c.prog c.KK f fd D cc) (i:kI c.KK) (F:te c.KK f fd T cc) (ST:Ah T) (n:Ai T .len p0 p1 ap pos) (o:T.body=[.Return (UV (mK .len p0 p1 ap pos)) pos2])
  (b:eC c.KK glob) (e:∀h,bv c.KK h->h.NoLimit) (p:A.depth < Wt) (g:vs.length=T.params.length) (d:∀s:U7,bv c.KK s.heap->Yd s fd ⟨xs,[]⟩ (T.params.zip xs)) (r:av fz U vs xs):
  eS c A fz U (gV T (vP D T glob) vs) (.call (.ref f) ⟨xs,[]⟩):=by
 refine rP F b e p g d (λL Z t ρ' k q l u=>?_) r
 refine bI (n Z l.scope) λv j=>(ac o ?_)
 exact a8.cons (a8.return (rQ m i F l u ST.ks ST.kc ST.kself j)) λa a a a=>a8.nil
def Mp (D:U6) (T:FT) (glob:List (Vb×GV)) (G:Ec->bP) (t:Vs) (b:List VY) (L:Nat):M Fl:=
 nM (Q4 ((G (l9 T glob L)).tr t) ((G (l9 T glob L)).exs b) (ret .next)) (nM (Fp (Af .pop D (l9 T glob L))) (ret .next))
theorem Cs {t:Vs} {b:List VY} (z:mJ c.prog c.KK f fd D cc) (m:kI c.KK) (F:te c.KK f fd T cc) (ST:Ah T) (B:Ai T .pop p0 p1 ap pos) (E:T.body=[.If t b [] pos3, .Return (UV (mK .pop p0 p1 ap pos)) pos2])
  (d:eC c.KK glob) (i:∀h,bv c.KK h->h.NoLimit) (H:A.depth < Wt) (r:∀C Z,bG c (A.deeper Z) C Z (G C)) (j:vs.length=T.params.length) (g:∀s:U7,bv c.KK s.heap->Yd s fd ⟨xs,[]⟩ (T.params.zip xs)) (I:av fz U vs xs):
  eS c A fz U (gV T (Mp D T glob G t b) vs) (.call (.ref f) ⟨xs,[]⟩):=by
 refine rP F d i H j g (λL Z n ρ' k q u v=>?_) I
 refine bI (B Z u.scope) λJ o=>(ac E ?_)
 have w:bM c (A.deeper Z) (l9 T glob L) Z n ρ':=⟨v,{s:=λa a a h=>(nomatch h),e:=λa a a h=>(nomatch h)}⟩
 exact a8.cons (a8.if ((r _ Z).tr _ _ w t).toAt (λx y p l=>((r _ Z).exs _ _ (w.at p l) b).toAt) λx y p l=>a8.nil) λx y p l=>(a8.cons (a8.return (rQ z m F u (v.at l) ST.ks ST.kc ST.kself o)) λa a a a=>a8.nil)
def t8 (D:U6) (T:FT) (glob:List (Vb×GV)) (G:Ec->bP) (st:VY) (L:Nat):M Fl:=
 nM ((G (l9 T glob L)).ex st) (nM (Mn (Af .init D (l9 T glob L))) (ret .next))
theorem Ak (p:mJ c.prog c.KK f fd D cc) (l:kI c.KK) (F:te c.KK f fd T cc) (ST:Ah T) (r:Ai T .init p0 p1 ap pos) (t:T.body=[st, .Expr (mK .init p0 p1 ap pos) pos2])
  (hi:∀Z:Yi,Z.scope=T.scope->Yn Z=UY) (hs:∀Z:Yi,Z.scope=T.scope->swapsWith (mK .init p0 p1 ap pos) UW pos2.line Z=pure UY)
  (b:eC c.KK glob) (g:∀h,bv c.KK h->h.NoLimit) (u:A.depth < Wt) (v:∀C Z,bG c (A.deeper Z) C Z (G C)) (i:vs.length=T.params.length) (d:∀s:U7,bv c.KK s.heap->Yd s fd ⟨xs,[]⟩ (T.params.zip xs)) (w:av fz U vs xs):
  eS c A fz U (gV T (t8 D T glob G st) vs) (.call (.ref f) ⟨xs,[]⟩):=by
 refine rP F b g u i d (λL Z m ρ' k q j o=>?_) w
 refine bI (r Z j.scope) λz n=>(ac t ?_)
 have x:bM c (A.deeper Z) (l9 T glob L) Z m ρ':=⟨o,{s:=λa a a h=>(nomatch h),e:=λa a a h=>(nomatch h)}⟩
 exact a8.cons ((v _ Z).ex _ _ x st).toAt λB E H y=>(a8.cons (a8.expr (hi Z j.scope) (hs Z j.scope) (rQ p l F j (o.at y) ST.ks ST.kc ST.kself n)) λa a a a=>a8.nil)
end
end
end
section
open PySem.W (CodeHd tabObj)
section
def qG (h:Vc) (a:U6) (items:Array U2):Prop:=∃o n,h.get? a=UV o/\o.data= .seq items n
theorem tM {l:U6} {x:U2} {Q:Option U2->U7->Prop} (a:s.heap.IsListIter it l i)
  (hl:qG s.heap l items) (f:items[i]?=UV x)
  (g:∀h',h'.IsListIter it l (i+1)->WS it s.heap h'->Q (UV x) {s with heap:=h'}):
  Vf (Vg J w) A (aaK (.ref it)) Q E s:=by
 refine ca (id a) λo c h b=>(aG hl λj k d e=>?_)
 unfold aaK
 refine UZ (Zu (YP (name:=WL "__next__") a.typeIs Z0
  (Xn Z0 a.typeIs entry_listiter_next ?_ (args_listiter_next _))))
 refine(?_:Vf _ _ (field (.ref it) 0 >>= _) _ _ s)
 refine UZ (W6 c b (x:= .ref l) rfl ?_)
 refine(?_:Vf _ _ (if(X6 l==Xf)=UX then _ else _) _ _ s)
 refine(if_neg (show¬((X6 l==Xf)=UX) from VT)).symm▸(?_:Vf _ _ (field (.ref it) 1 >>= _) _ _ s)
 refine UZ (W6 c b (x:= .int i 0) rfl ?_)
 refine(?_:Vf _ _ (adr (.ref l) >>= _) _ _ s)
 refine UZ (Y3 d e ?_)
 simp only[Vx,f]
 refine UZ (wpAny_setField c b (by simp) (U3 (aA x rfl (U3 (g _ ?_ (VQ ..))))))
 exact⟨_,Xl _ c (ac5 (aa7 b _)),(Obj.cls_mapFields ..).trans h,by rw[aa7 b];simp[WM]⟩
theorem vQ {l:U6} {Q:Option U2->U7->Prop} (h:A.handled=UW)
  (c:s.heap.IsListIter it l i) (hl:qG s.heap l items) (j:items[i]?=UW)
  (k:∀h',X1 it s.heap h'->Q UW {s with heap:=h'}):Vf (Vg J w) A (aaK (.ref it)) Q E s:=by
 refine ca (id c) λo d n e=>(aG hl λp q f g=>?_)
 unfold aaK
 refine UZ (Zu (YP (name:=WL "__next__") c.typeIs Z0
  (Xn Z0 c.typeIs entry_listiter_next ?_ (args_listiter_next _))))
 refine(?_:Vf _ _ (field (.ref it) 0 >>= _) _ _ s)
 refine UZ (W6 d e (x:= .ref l) rfl ?_)
 refine(?_:Vf _ _ (if(X6 l==Xf)=UX then _ else _) _ _ s)
 refine ac (if_neg (show¬((X6 l==Xf)=UX) from VT)) (?_:Vf _ _ (field (.ref it) 1 >>= _) _ _ s)
 refine UZ (W6 d e (x:= .int i 0) rfl ?_)
 refine(?_:Vf _ _ (adr (.ref l) >>= _) _ _ s)
 refine UZ (Y3 f g ?_)
 simp only[Vx,j]
 refine UZ (abC (UZ (wpAny_setField d e (by simp) ?_)))
 refine(?_:Vf _ _ (newExc (.type "StopIteration") [] >>= _) _ _ _)
 refine UZ ?_
 simp only[newExc,newTuple]
 refine UZ (V4 ?_ (by size_fits))
 refine UZ (m:=aa8 _ _) (XQ (a:=Xf) (by first|rfl|(simp only[aa8];rfl)) ?_)
 refine V4 ?_ (by size_fits)
 dsimp only
 refine UZ (wpAny_handled ?_)
 refine ac (show A.in1.handled=UW from h) (UZ (U3 (wpAny_throw ?_)))
 refine UZ (Zr (T:="StopIteration") (b:=UX) (aA _ (VV _ rfl) rfl) isSubtype_stop ?_)
 exact U3 (k _ (((VQ ..).extBut.push _).push _))
theorem Al (G:A.handled=UW) (I g:U6) (B:g≠I) (items:Array U2) (Ts:Nat->U6) (c:Nat->Array U2)
  (C:∀j,j < items.size->items[j]?=UV (.ref (Ts j))) (q:∀j,j < items.size->Ts j≠I):
  WalksU J w A I (I::g::(V9 items.size).map Ts) [I] items.size (λj v=>j < items.size/\v=c j)
   (λj h=>h.IsListIter I g j/\qG h g items/\∀k,k < items.size->h.IsTuple (Ts k) (c k))
   (λj T h=>(j < items.size/\T=Ts j)/\h.IsListIter I g (j+1)/\qG h g items/\∀k,k < items.size->h.IsTuple (Ts k) (c k)) where
 sub:=λb p=>by simp at p;simp[p]
 frame:=λa a a st D=>⟨st.1.at λo e=>D I (by simp) o e,aG st.2.1 λo n e d=>(bL o n (D g (by simp) o e) d),
  λk f=>(st.2.2 k f).at λo e=>D (Ts k) (ac6 _ (ac6 _ (List.mem_map.mpr (aA k (List.mem_range.mpr f) rfl)))) o e⟩
 item:=λi s Q E y st l=>by refine tM st.1 st.2.1 (x:= .ref (Ts i)) (C i y) λz r m=>?_;have tup:∀k,k < items.size->z.IsTuple (Ts k) (c k):=λk f=>(st.2.2 k f).extBut m.extBut (q k f);exact aG st.2.1 λo n e d=>(l (Ts i) (c i) z s.toks ⟨y,rfl⟩ (tup i y) ⟨⟨y,rfl⟩,r,(bL o n (m.extBut _ _ B e) d),tup⟩ λb o p e=>m.extBut b o (λh=>p (by simp[h])) e)
 go:=λa a a a a s Q a t l=>wpAny_letOwnedTupleGo_listiter t.2.1 (l s.heap t.2 λa a a e=>e)
 apart:=λj T a t u=>by
  refine(List.mem_cons.mp u).elim (λe=>?_) λe=>?_
  ·exact q j t.1.1 (t.1.2▸e)
  ·cases e
 done:=λs Q E st l=>vQ G st.1 st.2.1 (by simp) λz F=>l z s.toks λb o p e=>F b o (λh=>p (by simp[h])) e
 self:=λa a a a st l=>aaV st.1 l
theorem tN {M:Zx} {c P:U6} {ps:Array U2} {qualname:Vb} (R:Z.code= .ref c) (C:CodeHd s.heap c P) (w:s.heap.get? P=UV (tabObj ps)) (S:TriplesOk ps.toList)
  (p:∀cv,Zp pos ps.toList=UV cv->Q cv s)
  (l:Zp pos ps.toList=UW->∀c' h' tk,s.toks<=tk->X1 P s.heap h'->s.heap.objs.size<=c'->h'.CodeRec (.ref c') qualname->h'.get? P=UV (tabObj (ps++ #[WM pos.line,WM pos.col, .ref c']))->Q (.ref c') {s with heap:=h',toks:=tk}):
  Vf M A (genexprCode Z pos qualname scope) Q E s:=by
 refine bI (C.code w S) λo y=>?_
 obtain⟨vs,J,tf,z,tg,T,K,tt,op,U,V,B,W,X,Y,D,f,g,F,a0⟩:=y
 unfold genexprCode codeAt
 refine ac R (ac (if_neg (show¬((X6 c==Xf)=UX) from VT)) ?_)
 refine UZ (acP U V ?_)
 refine ac B (UZ (acP f g ?_))
 induction d:Zp pos ps.toList with
 |some cv=>exact U3 (p cv d)
 |none=>
  refine ac W (ac X (ac Y (ac D ?_)));refine UZ ((λh=>ZF (Vr _) (VF h (λa a x=>x) λa a e a=>e):∀{Q:U2->U7->Prop} {s:U7} {t:Xh U2},Vf M A t (λv L=>s.toks<=L.toks->Q v L) E s->Vf M A t Q E s) (wpAny_newCode λc' P' h' tk N q a1 u m G=>?_));have i:=N _ _ f;refine UZ (wpAny_updateFieldsOfTheText i g ?_);have j:(Z1 (λvs=>if(Zp pos vs.toList).isSome=UX then vs else vs++ #[WM pos.line,WM pos.col, .ref c']) op).data=
    .fields (ps++ #[WM pos.line,WM pos.col, .ref c']):=by
   rw[aa7 g];refine ac d ?_;rfl
  have k:=Xl (h:=h') (λo=>Z1 (λvs=>if(Zp pos vs.toList).isSome=UX then vs else
   vs++ #[WM pos.line,WM pos.col, .ref c']) o) i (ac5 j)
  refine UZ (acP k j ?_);refine ac (by simp:(ps++ #[WM pos.line,WM pos.col,X6 c']).toList=ps.toList++[WM pos.line,WM pos.col, .ref c']) (ac (codeAmong_snoc _ F d) ?_);rw[w] at f;obtain rfl:=U0 f;have n:(h'.update P λo=>Z1 (λvs=>if(Zp pos vs.toList).isSome=UX then vs else vs++ #[WM pos.line,WM pos.col, .ref c']) o).get? P=UV (tabObj (ps++ #[WM pos.line,WM pos.col, .ref c'])):=by refine ac k ?_;congr 1;have:ps=ps:=rfl;cases g;unfold Z1;dsimp only;refine ac d ?_;rfl
  have H:Heap.CodeRec (h'.update P λo=>Z1 (λvs=>if(Zp pos vs.toList).isSome=UX then vs else vs++ #[WM pos.line,WM pos.col, .ref c']) o) (.ref c') qualname:=by refine ez m λc2 o2 I t2 e1 e2 r=>?_;cases e1;exact⟨_,o2,I,t2,rfl,(VQ ..).extBut _ _ (YN (Vq (Wc w) q)) e2,r⟩
  exact U3 (l d c' _ tk G (λb O hb e=>((VQ ..).extBut b O hb (N b O e))) q H n)
end
end
section
open PySem.W (CodeHd tabObj)
open PySem.W (Frag findIn looks_findIn)
section
section
def kJ (h:Vc) (Z:Yi) (x:Vb) (v:U2):Prop:=∃mg,h.Ns Z.globals mg/\(mg x=UV v∨(mg x=UW/\∃a,h.Ns Z.builtins a/\a x=UV v))
theorem iS {M:Zx} {x:Vb} {v:U2} (a:Z.scope.kind= .function) (b:Z.kindOf x=UV .globalImplicit) (c:kJ s.heap Z x v) (h:Q v s):Vf M A (abQ Z x) Q E s:=by
 refine aj c λi g1 r=>?_;have d:Vf M A (loadGlobal Z x) Q E s:=by
  rcases r with r|⟨e,j,f,g⟩
  ·exact loadGlobal_global g1 r h
  ·exact abz g1 e f g h
 unfold abQ;dsimp only;simp -iota only[Env.blockKind,a,b,ScopeKind.isAnnotationScope,ab5,Xi,if_false];exact d
theorem fj {x:Vb} {p:XN} (hd:ew x=UY) (h:Vf (Vg J w) A (abQ Z x) Q E s):Vf (Vg J w) A (Wq (.Name x p) Z) Q E s:=by refine ac (jX hd) ?_;exact UZ (VL h)
theorem Ct {m:Vb->Option U2} {x:Vb} {a:Vb} {t:ZN} (c:Z.scope.kind= .function) (hl:Z.kindOf "len"=UV .globalImplicit) (d:kJ s.heap Z "len" (.builtin "len"))
  (e:Z.kindOf x=UV .local) (hd:ew x=UY) (f:s.heap.Ns Z.locals m) (g:m x=UV (.str a t)) (hz:a.length < 2^62) (h:∀k u,s.toks<=u->Q (.int a.length k) {s with toks:=u}):
  Vf (Vg J w) A (Wq (.Call (.Name "len" p1) [.Name x p2] [] p3) Z) Q E s:=by
 refine ac (jY (λb b b h=>by cases h)) (UZ (fj rfl (iS c hl d ?_)))
 refine YF rfl (de rfl (XJ (fj hd (WD c e f g (ZJ ?_)))))
 exact abJ (by lia) (h _ _ (U1 (Vm _ _) (Vm _ _)))
theorem J7 {m:Vb->Option U2} {a b:Vb} {t:ZN} {p4 p5 r v:XN} (n:Z.scope.kind= .function) (hl:Z.kindOf "len"=UV .globalImplicit) (o:kJ s.heap Z "len" (.builtin "len"))
  (d:Z.kindOf xa=UV .local) (f:ew xa=UY) (g:Z.kindOf xb=UV .local) (h:ew xb=UY) (p:s.heap.Ns Z.locals m) (i:m xa=UV (.str a t)) (j:m xb=UV (.str b u)) (k:a.length < 2^62) (l:b.length < 2^62):
  Vf (Vg J w) A (Wq (.BinOp (.Call (.Name "len" p1) [.Name xa p2] [] p3) .Add (.Call (.Name "len" p4) [.Name xb p5] [] r) v) Z) (λy s'=>(∃t,y= .int ((a.length+b.length:Nat):Int) t)/\Keeps s s') E s:=by
 refine ac u4 (UZ (Ct n hl o d f p i k λz x B=>?_))
 refine UZ (Vo (Ct (s:={s with toks:=x}) n hl o g h p j l λC D F=>?_))
 refine UZ (VL (ix (abI ?_)))
 exact⟨⟨_,by rw[abX]⟩,s.heap,_,rfl,λc c e=>e⟩
theorem Fq {m:Vb->Option U2} {g0:Vb} {a b:Vb} {t:ZN} {o pl:XN} {p4 p5:XN} {t0:ZN} (c:Z.scope.kind= .function) (hl:Z.kindOf g0=UV .globalImplicit) (d:ew g0=UY) (q:kJ s.heap Z g0 (.str Vj t0))
  (e:Z.kindOf xa=UV .local) (f:ew xa=UY) (g:Z.kindOf xb=UV .local) (h:ew xb=UY) (p:s.heap.Ns Z.locals m) (i:m xa=UV (.str a t)) (j:m xb=UV (.str b u)) (l:a.length+b.length<=16777216)
  (n:qj pl o [Expr.Tuple [.Name xa p2, .Name xb p3] k p4]=UX):
  Vf (Vg J w) A (Wq (.Call (.Attribute (.Name g0 p1) "join" pl) [.Tuple [.Name xa p2, .Name xb p3] k p4] [] o) Z) (λy s'=>(∃t,y= .str (Wx Vj [a,b]) t)/\Keeps s s') E s:=by
 refine ac (jl (by rfl) n) (UZ (fj d (iS c hl q ?_)))
 refine UZ (VL (UZ (Vo ?_)))
 refine qv (by rfl:cT ("join":Vb) j0=UV 16) (YF rfl (de rfl (XJ ?_)))
 rw[arm_eval_Tuple]
 refine UZ (VL (UZ (XJ (fj f (WD c e p i (XJ (fj h (WD c g p j (ZJ ?_)))))))))
 refine V4 ?_ (by size_fits)
 refine ZJ ?_
 have r:(s.heap.push {cls:= .type "tuple",data:= .seq #[.str a t, .str b u]}).get? s.heap.objs.size=UV {cls:= .type "tuple",dict:=UW,data:= .seq #[.str a t, .str b u],slots:= #[]}:=VV _ rfl
 refine join_tuple (D:=s.heap.objs.size) (items:= #[.str a t, .str b u]) (ys:=[a,b]) ⟨_,r,rfl,_,rfl⟩ (.cons _ _ (.cons _ _ .nil)) ?_ λx z=>?_
 ·have:(Vj:Vb).length=0:=rfl;simp only[Wa,acH,acq,List.sum_nil,this,acQ,Yk];exact l
 ·exact⟨⟨_,rfl⟩,_,_,rfl,λB C v=>Vw _ v⟩
end
section
variable {K:Frag} {x C:U6} 
theorem J8:WA "list.__iter__"=UV .method∨WA "list.__iter__"=UV .slot:=by decide+kernel
theorem Fs:aag "list.__iter__"=UV ("list","__iter__"):=by decide+kernel
theorem Ft (X:K.In s.heap) (I:Wn s.heap x ox C od) (i:dm K C)
  (l:Q (.ref s.heap.objs.size) {s with heap:=s.heap.push {cls:= .type "list_iterator",data:= .fields #[.ref x, .int 0 0]}}):Vf (Vg J w) A (aaJ (.ref x)) Q E s:=by
 have e:Vf (Vg J w) A (call (.builtin "list.__iter__") [.ref x]) (λit b=>∃c r,b.TypeIs it c/\Yq (.type c) "__next__"=pure (UV r)/\Q it b) E s:=by refine pf X I i.f J8 Fs slot_list_iter.plain entry_list_iter (args_list_iter _) (?_:Vf _ _ (do PySem.ret (<-abb "list_iterator" [.ref x,WM 0])) _ _ s);exact UZ (V4 (U3 (cY ("list_iterator") _ (aA _ (VV _ rfl) rfl) slot_listiter_next.lookup l)))
 unfold aaJ aaA
 refine UZ (UZ (I.type.here ((looks_findIn X i.it).here ?_)))
 refine(?_:Vf _ _ (callSpecialIfBoundUnlessNone? (.ref x) "__iter__" _ >>= _) _ _ _)
 refine UZ ?_
 refine Vo (UZ (UZ (UZ (I.type.here ((looks_findIn X i.it).here ?_)))))
 refine UZ (acj (wpAny_ite ?_))
 have g:∀{k:Option U2->U7->Prop},(∀it b,(∃c r,b.TypeIs it c/\Yq (.type c) "__next__"=pure (UV r)/\Q it b)->k (UV it) b)->
   Vf (Vg J w) A (if(aci "list.__iter__"==Xf)=UX then((do rule "iter.none";raiseError "TypeError" s!"'{← typeNameOf (.ref x)}' object is not iterable":Xh U2) >>= λv=>pure (UV v)) else(call (.builtin "list.__iter__") [.ref x] >>= λv=>pure (UV v))) k E s:=λh=>by
  simp only[builtin_beq_none,Xi,if_false]
  exact UZ (VF e (λv b j=>U3 (h v b j)) λa a j=>j)
 have d:∀it b,(∃c r,b.TypeIs it c/\Yq (.type c) "__next__"=pure (UV r)/\Q it b)->Vf (Vg J w) A (match UV it with
  |some it=>aaA it "__next__" >>= λr=>match r with
   |none=>(do rule "iter.non-iterator";raiseError "TypeError" s!"iter() returned non-iterator of type '{← typeNameOf it}'":Xh U2)
   |some _=>pure it
  |none=>pure .none) Q E b:=λit b m=>cy m λc r n o p=>UZ (Xa n o (U3 p))
 split
 ·exact UZ (U3 (U3 (g λit b h=>d it b h)))
 ·exact wpAny_tryCatch (UZ (U3 (U3 (g λit b h=>d it b h))))
end
end
end
section
open PySem.W (CodeHd tabObj)
theorem xX (n:Nat):passing (λa=>UX) n 0=V9 n:=by unfold passing;exact ac aaF (List.filter_eq_self.mpr λa a=>rfl)
structure Am (c:Cx) (Z:Yi) (T:fB) (pos:XN):Prop where
 code:Z.code= .ref T.c
 mem:T∈c.TT
 uniq:∀t∈c.TT,t.P=T.P->t=T
 hd:∀h,bv c.KK h->CodeHd h T.c T.P
 qual:T.qual=Z.qual++"<genexpr>"
 line:T.line=pos.line
 col:T.col=pos.col
 glob:Z.globals=mainGlobals
 bu:Z.builtins=builtinsNs
 bm:∀h,bv c.KK h->∃mg,h.Ns mainGlobals mg/\h.BuiltinsAt mg T.P
 gp:mainGlobals≠T.P
 lim:∀h,bv c.KK h->h.NoLimit
 kind:Z.scope.kind= .function
structure Fu (scope:XO) (Z:Yi) (xa xb:Vb):Prop where
 co:scope.isCoroutine=UY
 clos:abB scope Z=pure []
 cell:∀y∈scope.names,y.2≠ .cell
 h0:scope.names.lookup (".0":Vb)=UV NameKind.local
 ka:scope.names.lookup xa=UV .local
 kb:scope.names.lookup xb=UV .local
 ab:xa≠xb
 kind:scope.kind= .function
theorem yI {t:Xh α} {Q:α->U7->Prop} (h:Vf Mo A t (λv s'=>s.toks<=s'.toks->Q v s') E s):Vf Mo A t Q E s:=
 ZF (Vr _) (VF h (λa a x=>x) λa a e a=>e)
section
abbrev Rx (c:Cx) (A:Vk) (Z:Yi) (scope:XO) (xa xb:Vb) (elt:Vs) (Q:U2->U7->Prop) (t0:ZN) (u:U6) (code:U2) (x:U6) (d:U7) (I:U6) (r l:List U6) (e:Nat) (p:Nat->Array U2->Prop) (g:Nat->Vc->Prop) (q:Nat->U6->Vc->Prop) (m:Nat->Bool) (F:Nat->U2->Prop):Prop:=
 (X6 u)= .ref I/\(∀A':Vk,A'.handled=UW->WalksU c.prog c.w A' I r l e p g q)/\(∀i h,p i h->∃z B,h= #[z,B])/\g 0 d.heap/\(∀b∈r,b < d.heap.objs.size)/\d.heap.NoLimit/\cStatics∉l/\
     (∀k:Vc,(∀b o,d.heap.get? b=UV o->k.get? b=UV o)->
      QuietGenT c.prog c.w (genEnv scope [] d.heap.objs.size code x Z) xa xb [] elt (V9 d.heap.objs.size) l p m F k)/\
     (∀a f s gs,gs.bare=UX->d.heap.objs.size < a->f.objs.size=a+1->(∀b o,d.heap.get? b=UV o->f.get? b=UV o)->
      WalksS c.prog c.w A.in4 a (a::d.heap.objs.size::V9 d.heap.objs.size) (d.heap.objs.size::l) (GenOnlyQ d.gens.size) (passing m e 0).length
       (λj y=>∃i,(passing m e 0)[j]?=UV i/\F i y) (GenAt c.prog c.w A.in4 a d.gens.size d.heap.objs.size (V9 d.heap.objs.size) l m e F)->
      GenAt c.prog c.w A.in4 a d.gens.size d.heap.objs.size (V9 d.heap.objs.size) l m e F 0 {d with gens:=d.gens.push gs,toks:=s,heap:=f}->
      (λv t=>t0<=t.toks->Q v t) (.ref a) {d with gens:=d.gens.push gs,toks:=s,heap:=f})
def Ry (c:Cx) (A:Vk) (Z:Yi) (E:U2->U7->Prop) (scope:XO) (xa xb:Vb) (elt:Vs) (Q:U2->U7->Prop) (t0:ZN) (f:U6) (code:U2) (s3:U7):Prop:=
 Vf (Vg c.prog c.w) A (builtinsFor Z.globals Z.builtins) (λg b=>∃I h i d j a e k F,Rx c A Z scope xa xb elt Q t0 f code g b I h i d j a e k F) E s3
theorem th {T:fB} {m:Vb->Option U2} {x D:U6} {n:Nat} {Ts:Nat->U6} {fa fb:Nat->Vb} {ta tb:Nat->ZN} {F:Nat->U2->Prop} 
  (G:SR c fz U H s) (hh:A.handled=UW) (a2:A.depth < Wt) (z:Am c Z T pos) (GS:Fu scope Z xa xb)
  (a3:Z.kindOf "self"=UV .local) (hm:s.heap.Ns Z.locals m) (aF:m "self"=UV (.ref x)) (I:Wn s.heap x ox D od) (hd:ox.data= .seq items n) (AF:dm c.KK D)
  (aG:∀j,j < items.size->items[j]?=UV (.ref (Ts j))) (K:∀j,j < items.size->s.heap.IsTuple (Ts j) #[.str (fa j) (ta j), .str (fb j) (tb j)])
  (ad:∀(B:Yi) (A':Vk) E' (j:Nat) (f:U7) l,j < items.size->B.scope=scope->B.globals=mainGlobals->B.builtins=builtinsNs->bv c.KK f.heap->f.heap.Ns B.locals l->l xa=UV (.str (fa j) (ta j))->l xb=UV (.str (fb j) (tb j))->
   Vf (Vg c.prog c.w) A' (Wq elt B) (λy ae=>F j y/\Keeps f ae) E' f)
  (hQ:∀a fp wr g P St s',WalksS c.prog c.w A.in4 a fp wr (GenOnlyQ g) items.size P St->(∀j v,P j v->F j v)->St 0 s'->(∀i s,St i s->s.TypeIs (.ref a) "generator")->(∀b∈fp,b < s'.heap.objs.size)->a∈fp->
   SR c fz U H s->s'.os=s.os->AllBare s'.gens->s.toks<=s'.toks->(∀b o,b≠T.P->s.heap.get? b=UV o->s'.heap.get? b=UV o)->
   (∀L:U7,Moved wr (GenOnlyQ g) s' L->∃fz',Le fz fz'/\SR c fz' U H L)->Q (.ref a) s'):
  Vf (Vg c.prog c.w) A (Wq (.GeneratorExp elt [⟨.Tuple [.Name xa pa, .Name xb pb] kt pt, .Name "self" pi,[],0⟩] scope pos) Z) Q E s:=by
 have M:bv c.KK s.heap:=λp Y=>G.hr.fzle _ _ (G.hr.wd p Y)
 have a4:∀{h':Vc},(∀b o,b≠T.P->s.heap.get? b=UV o->h'.get? b=UV o)->bv c.KK h':=λ{h'} k p Y=>by
  refine fA (G.hr.tab T z.mem) λd d d d q4=>(k _ _ (λe=>?_) (M p Y))
  have:=G.hr.wd p Y;rw[e,q4] at this;cases this
 refine fA (G.hr.tab T z.mem) λaY t1 aH t3 t4=>(aj aH λps aI af=>?_)
 subst aI
 have aV:T.P < s.heap.objs.size:=Wc t1
 refine yI (wpAny_GeneratorExp_walksQT hh GS.co GS.clos GS.cell GS.h0 GS.ka GS.kb GS.ab GS.kind a2 ?_ (λx=>rfl))
 refine fj rfl (WD z.kind a3 hm aF (Ft G.inK I AF ?_))
 have N:∀b o,s.heap.get? b=UV o->(s.heap.push {cls:= .type "list_iterator",data:= .fields #[.ref x, .int 0 0]}).get? b=UV o:=λb o e=>Vw _ e
 have ag:bv c.KK (s.heap.push {cls:= .type "list_iterator",data:= .fields #[.ref x, .int 0 0]}):=λp Y=>N _ _ (M p Y)
 have aJ:(s.heap.push {cls:= .type "list_iterator",data:= .fields #[.ref x, .int 0 0]}).get? s.heap.objs.size=UV {cls:= .type "list_iterator",data:= .fields #[.ref x, .int 0 0]}:=VV _ rfl
 have C:∀{b o},s.heap.get? b=UV o->b≠s.heap.objs.size:=λe q=>WT _ (q▸Wc e)
 have ah:T.P≠s.heap.objs.size:=C t1
 have cont:∀(code:U2) (J:U7),(∀b o,b≠T.P->(s.heap.push {cls:= .type "list_iterator",data:= .fields #[.ref x, .int 0 0]}).get? b=UV o->J.heap.get? b=UV o)->J.gens=s.gens->J.os=s.os->J.drawn=s.drawn->
   (∀hF:Vc,(∀b o,b≠s.heap.objs.size->J.heap.get? b=UV o->hF.get? b=UV o)->∃fz',Le fz fz'/\HR c fz' U H hF)->
   Ry c A Z E scope xa xb elt Q s.toks s.heap.objs.size code J:=λcode J k3 e1 e2 e3 ai=>by
  have a0:∀b o,b≠T.P->s.heap.get? b=UV o->J.heap.get? b=UV o:=λb o u e=>k3 b o u (N b o e)
  have O:=a4 a0
  refine aj (z.bm _ O) λmg aK aL=>(bI aL λbm aM=>?_)
  obtain⟨ob,aN,ak,_,aW,aO,al,a5,a6⟩:=aM
  refine(?_:Vf _ _ (builtinsFor _ _) _ _ _)
  refine wpAny_builtinsFor (ac z.glob aK) aN ak aO al a5 a6 ?_
  have aP:x≠T.P:=λe=>by have:=I.at_;rw[e,t1] at this;obtain rfl:=U0 this;have:=I.cls;cases this
  have am:=a0 _ _ aP I.at_
  have aQ:∀j,j < items.size->Ts j≠T.P:=λj V e=>by refine ca (K j V) λo X hc d=>?_;rw[e,t1] at X;obtain rfl:=U0 X;cases hc
  have an:∀j,j < items.size->J.heap.IsTuple (Ts j) #[.str (fa j) (ta j), .str (fb j) (tb j)]:=λj V=>aj (K j V) λo X r=>(aA o (a0 _ _ (aQ j V) X) r)
  have ao:J.heap.get? s.heap.objs.size=UV {cls:= .type "list_iterator",data:= .fields #[.ref x, .int 0 0]}:=k3 _ _ (aca ah) aJ
  have aR:∀j,j < items.size->Ts j≠s.heap.objs.size:=λj V=>aj (K j V) λo X d=>C X
  have ap:=z.lim _ O
  have aq:cStatics≠s.heap.objs.size:=let⟨_,⟨o,es,ep,X,_⟩,_⟩:=z.lim _ M;C X
  refine⟨_,_,_,_,_,_,_,λd=>UX,F,rfl,λA' a7=>Al a7 s.heap.objs.size x (C I.at_) items Ts (λj=> #[.str (fa j) (ta j), .str (fb j) (tb j)]) aG aR,?_,⟨⟨_,ao,rfl,rfl⟩,⟨_,n,am,hd⟩,an⟩,?_,ap,?_,?_,?_⟩
  ·rintro i aX ⟨_,rfl⟩;exact⟨_,_,rfl⟩
  ·intro b u;rcases List.mem_cons.mp u with rfl|u
   ·exact Wc ao
   ·rcases List.mem_cons.mp u with rfl|u
    ·exact Wc am
    ·refine aj (List.mem_map.mp u) λj V aS=>(aD aS ?_)
     exact aj (an j (List.mem_range.mp V)) λo X d=>(Wc X)
  ·intro h;exact aq (List.mem_singleton.mp h)
  ·intro ar hr;have as:∀f:U7,(∀b∈V9 J.heap.objs.size,b∉[s.heap.objs.size]->∀o,ar.get? b=UV o->f.heap.get? b=UV o)->bv c.KK f.heap:=λf R p Y=>by have h3:=O p Y;exact R _ (List.mem_range.mpr (Wc h3)) (λh=>C (M p Y) (List.mem_singleton.mp h)) _ (hr _ _ h3)
   refine⟨λA' E' i va vb f l a7 hP h1 h2 h3 R=>?_,λA' E' i va vb f l a7 hP d h1 h2 h3 R=>?_⟩
   ·exact U3 ⟨rfl,f.heap,f.toks,rfl,λd d e=>e⟩
   ·obtain⟨V,hv⟩:=hP;have e1:va= .str (fa i) (ta i)/\vb= .str (fb i) (tb i):=by have:=congrArg Array.toList hv;simp at this;exact this
    obtain⟨rfl,rfl⟩:=e1;exact ad _ A' E' i f l V rfl z.glob rfl (as f R) h1 h2 h3
  ·intro a au tk gs av aw ax ay W GA a8;rw[xX,List.length_range] at W;refine hQ a _ _ _ _ _ _ W (λj v hv=>?_) GA (λi s aT=>aT.1.typeIs) (λb u=>?_) (List.mem_cons_self ..) G e2 ?_ a8 (λb o u e=>ay _ _ (a0 b o u e)) λL a1=>?_
   ·refine aj hv λi hi hF=>?_;have:=(List.getElem?_eq_some_iff.mp hi)
    obtain⟨h1,h2⟩:=this;simp at h2;exact ac h2 hF
   ·refine(?_:b < au.objs.size);refine ac ax ?_;rcases List.mem_cons.mp u with rfl|u
    ·exact Z8 _
    ·rcases List.mem_cons.mp u with rfl|u
     ·exact Xv aw
     ·exact XG (List.mem_range.mp u) (Xv aw)
   ·intro y hy;rw[e1] at hy;rcases Array.mem_push.mp hy with hy|rfl
    ·exact G.bare.bare y hy
    ·exact av
   ·obtain⟨f1,k1,x1⟩:=ai L.heap λb o u e=>a1.heap b o (λh=>by
     rcases List.mem_cons.mp h with rfl|h
     ·exact WT _ (Wc e)
     ·exact u (List.mem_singleton.mp h)) (ay b o e)
    refine⟨f1,k1,x1,a1.os.trans (e2.trans G.os),?_,U1 G.tk (U1 a8 a1.toks)⟩;have az:=a1.gens;refine⟨az.bare λy hy=>?_,λi x hi=>?_⟩
    ·rw[e1] at hy;rcases Array.mem_push.mp hy with hy|rfl
     ·exact G.bare.bare y hy
     ·exact av
    ·have h1:=G.bare.kept i x hi;have a9:i < s.gens.size:=(Array.getElem?_eq_some_iff.mp h1).1;have h2:(J.gens.push gs)[i]?=UV x:=by refine ac e1 (ac (acx a9) ?_);exact aD (ab6 a9) h1
     rcases az with q|⟨q,_⟩
     ·refine ac (show L.gens=J.gens.push gs from q) ?_;exact h2
     ·refine ac (q.2 i ((e1).symm▸(aal a9))) ?_;exact h2
 refine⟨(z.lim _ M).push _,tN z.code (z.hd _ ag) (N _ _ t1) ?_ ?_ ?_⟩
 ·rcases af with rfl|⟨c',rfl,_⟩
  ·trivial
  ·trivial
 ·intro cv aZ;refine cont cv _ (λb o d e=>e) rfl rfl rfl λhF R=>(aA fz (Le.refl _) (G.hr.le λb o e=>R b o (C e) (N b o e)))
 ·intro S c' h' tk a8 hx aB aC aU;rcases af with rfl|⟨b0,rfl,_⟩
  ·refine cont (.ref c') _ hx rfl rfl rfl λhF R=>(ez (id aC) λc2 oc vs t q1 q2 q3=>?_)
   cases q1;have aa:s.heap.objs.size < c':=by rw[ab4] at aB;exact aB
   have aE:=G.hr.made z.mem z.uniq (c':=c') (oc:=oc) (λb o u e=>R b o (C e) (hx b o u (N b o e))) (Wy aa) (R _ _ (YN aa) q2) (by
    refine ac z.qual ?_;exact⟨_,oc,vs,t,rfl,R _ _ (YN aa) q2,q3⟩) (by
    refine ac z.line (ac z.col ?_);exact R _ _ ah (aU))
   refine ca aE λf1 k1 d x1=>?_;exact(aA f1 k1 x1)
  ·exfalso;rw[z.line,z.col] at S;simp[Zp,WM] at S
end
section
theorem Cu (a b:U2):ZZ "sum" ⟨[a,b],[]⟩:=by dsimp only[ZZ];rfl'
theorem Cv {x:U2} {zd:ZN} 
  (h:Vf (Vg J w) A.in1 (aaJ x) (λit c=>∃I k l G n P St val,it= .ref I/\WalksS J w A.in1 I k l G n P St/\St 0 c/\(∀b∈k,b < c.heap.objs.size)/\
   (∀i v,P i v->∃t,v= .int (val i) t)/\(∀j,j < n->InLong (val j)/\InLong (preSum val (j+1)))/\
   ∀s' t',Moved l G c s'->Q (.int (preSum val n) t') s') E s):
  Vf (Vg J w) A (call (.builtin "sum") [x, .int 0 zd]) Q E s:=by
 refine call_function_tree F.kind_sum F.plain_sum F.entry_sum (Cu _ _) ?_
 unfold Builtin.«sum»
 dsimp only;simp -iota only[VB,aan]
 refine ac (if_neg (by decide)) (UZ (XQ (show Builtin.Builtins.bindParams "sum" ["start"] 0 ⟨[.int 0 zd],[]⟩=pure [UV (.int 0 zd)] from rfl) ?_))
 refine UZ (VF h (λit c d=>?_) λa a e=>e)
 refine via λz r=>?_
 obtain⟨I,k,l,G,n,P,St,val,u,W,m,p,f,g,y⟩:=d
 refine r (ac u ?_)
 dsimp only
 refine qt rfl (UZ (abC ?_))
 refine UZ (wpAny_mkInt ?_)
 refine UZ (U3 ?_)
 dsimp only
 refine UZ (UZ (UZ (Zr (T:="int") (b:=UY) (ZW _ _ _) _root_.PySem.sub_int_str ?_)))
 refine U3 (UZ (UZ (Zr (T:="int") (b:=UY) (ZW _ _ _) _root_.PySem.sub_int_bytes ?_)))
 refine U3 (UZ (UZ (Zr (T:="int") (b:=UY) (ZW _ _ _) _root_.PySem.sub_int_bytearray ?_)))
 refine U3 (U3 ?_)
 refine UZ (V4 ?_)
 refine U3 ⟨plainId_quiet F.plain_sum_loop _,codeAny_sum_loopS W val f g c.heap.objs.size (λq=>WT _ (p _ q):c.heap.objs.size∉k) n 0 _ c.toks 0 rfl (W2 _)
  (W.frame 0 c _ _ m (by first|exact Vr _|exact WG _|lia) λb a o e=>Vw _ e) (VV _ rfl) λs' t' q=>?_⟩
 exact y s' t' (q.drop_new (by first|exact Vr _|exact WG _|lia))
end
noncomputable def Q5:List V->Option (Vb×Vb)
 |[.str a, .str b]=>UV (a,b)
 |_=>UW
noncomputable def HZ:D->Option (Vb×Vb)
 | .tup [.str a, .str b]=>UV (a,b)
 |_=>UW
theorem Fv {p:Vb×Vb} (h:Q5 vs=UV p):vs=[.str p.1, .str p.2]:=by
 rcases vs with _|⟨a,vs⟩
 ·exact nn h
 induction a with|str a=>?_|_=>exact nn h
 rcases vs with _|⟨b,vs⟩
 ·exact nn h
 induction b with|str b=>?_|_=>exact nn h
 induction vs with
 |nil=>exact aD (U0 h) rfl
 |cons=>exact nn h
theorem Fw {p:Vb×Vb} (h:HZ d=UV p):d= .tup [.str p.1, .str p.2]:=by
 induction d using Mine.Internal.D.casesOn with|tup vs=>?_|_=>exact nn h
 rcases vs with _|⟨a,vs⟩
 ·exact nn h
 induction a using Mine.Internal.D.casesOn with|str a=>?_|_=>exact nn h
 rcases vs with _|⟨b,vs⟩
 ·exact nn h
 induction b using Mine.Internal.D.casesOn with|str b=>?_|_=>exact nn h
 induction vs with
 |nil=>exact aD (U0 h) rfl
 |cons=>exact nn h
def ua (H:List O):V->Option (Vb×Vb)
 | .ref n=>match H[n]? with
  |some (.tup vs)=>Q5 vs
  |some (.fro d)=>HZ d
  |_=>UW
 | .dat d=>HZ d
 |_=>UW
noncomputable def jH (H:List O):List V->Option (List (Vb×Vb))
 |[]=>UV []
 |v::r=>match ua H v,jH H r with
  |some p,UV ps=>UV (p::ps)
  |_,_=>UW
noncomputable def aC:List (Vb×Vb)->Nat
 |[]=>0
 |(a,b)::r=>a.length+b.length+aC r
noncomputable def aT (ps:List (Vb×Vb)):Vb:=Wx Vj (ps.map λp=>Wx Vj [p.1,p.2])
def ly (C:Ec) (S:St):Option (U6×List (Vb×V)×List (Vb×Vb)):=match S.H[C.fid]? with
 |some (.frame l)=>match lk ("self":Vb) l with
  |some (.ref i)=>match S.H[i]? with
   |some (.inst D d (UV xs))=>match S.H[d]?,jH S.H xs with
    |some (.dict es),UV ps=>UV (D,es,ps)
    |_,_=>UW
   |_=>UW
  |_=>UW
 |_=>UW
def Mq (r:Option α) (K:α->Prop):Prop:=match r with
 |none=>True
 |some a=>K a
@[elab_as_elim] theorem Mq.use {r:Option α} {a:α} {G:α->Prop} (e:r=UV a) (h:∀K,(∀a,G a->K a)->Mq r K):G a:=by have:=h G λb x=>x;rw[e] at this;exact this
theorem An {S:St} {r:U6×List (Vb×V)×List (Vb×Vb)} (e:ly C S=UV r):∃l i d xs,S.H[C.fid]?=UV (.frame l)/\lk ("self":Vb) l=UV (.ref i)/\S.H[i]?=UV (.inst r.1 d (UV xs))/\S.H[d]?=UV (.dict r.2.1)/\jH S.H xs=UV r.2.2:=by
 refine Mq.use e λK a=>?_;unfold ly;induction b:S.H[C.fid]? with
 |none=>exact Vd
 |some o=>
 induction o with|frame l=>?_|_=>exact Vd
 dsimp only;induction c:lk ("self":Vb) l with
 |none=>exact Vd
 |some v=>
 induction v with|ref i=>?_|_=>exact Vd
 dsimp only;induction f:S.H[i]? with
 |none=>exact Vd
 |some o=>
 induction o with|inst D d xs=>?_|_=>exact Vd
 induction xs with
 |none=>exact Vd
 |some xs=>
 dsimp only;induction g:S.H[d]? with
 |none=>exact Vd
 |some o=>
 induction o with|dict j=>?_|_=>exact Vd
 induction h:jH S.H xs with
 |none=>exact Vd
 |some k=>exact a _ ⟨l,i,d,xs,b,c,f,g,h⟩
def Ao (D:U6) (C:Ec):M V:=λS=>match ly C S with
 |some (a,es,ps)=>match VA a D,lk ("_initial_size":Vb) es with
  |true,UV (.int i)=>UV (.int (aC ps),S,[i=0/\aC ps < 2^40])
  |_,_=>UW
 |none=>UW
def Ap (D:U6) (C:Ec):M V:=λS=>match ly C S with
 |some (a,_,ps)=>match VA a D with
  |true=>UV (.str (aT ps),S,[aC ps<=16777216/\ps.length<=1000])
  |false=>UW
 |none=>UW
section
theorem Fx (j:SR c fz U H s) {x:U2} {p:Vb×Vb} (e:ua H v=UV p) (k:VR fz U v x):∃T t u,x= .ref T/\s.heap.IsTuple T #[.str p.1 t, .str p.2 u]:=by
 have dat:∀{d x},HZ d=UV p->DR fz d x->∃T t u,x= .ref T/\s.heap.IsTuple T #[.str p.1 t, .str p.2 u]:=λ{d x} e h=>by
  rw[Fw e] at h;refine gO h.i_tup λa vs n f g r=>(ac f ?_)
  refine cy r.ic λb b f i q=>?_;subst f;refine cy q.ic λb b f w y=>?_;subst f;obtain rfl:=y.i0;obtain⟨t,rfl⟩:=i.i_str;obtain⟨u,rfl⟩:=w.i_str;exact⟨_,_,_,rfl,_,j.hr.fzle _ _ g,rfl,_,rfl⟩
 induction v with
 |ref n=>
  refine k.e_ref λa l=>?_;dsimp only[ua] at e;induction i:H[n]? with
  |none=>rw[i] at e;exact nn e
  |some o=>
   rw[i] at e;induction o with
   |tup vs=>
    refine aj (j.hr.at i rfl l) λD z A=>(aG A λB m f r=>?_)
    subst f;rw[Fv e] at r;refine cy r.i2 λb b f g1 C=>?_;subst f;obtain⟨t,rfl⟩:=g1.i_str;obtain⟨u,rfl⟩:=C.i_str;exact⟨_,_,_,rfl,_,z,rfl,_,rfl⟩
   |fro d=>exact dat e (j.hr.froAt i l)
   |_=>exact nn e
 |dat d=>exact dat e k.i_dat
 |_=>exact nn e
theorem Cw (i:SR c fz U H s) :∀{xs:List U2} {ps:List (Vb×Vb)},jH H vs=UV ps->av fz U vs xs->xs.length=ps.length/\
  ∀j,j < ps.length->∃T t u,xs[j]?=UV (.ref T)/\s.heap.IsTuple T #[.str (ps.getD j (Vj,Vj)).1 t, .str (ps.getD j (Vj,Vj)).2 u]:=by
 induction vs with
 |nil=>intro xs ps e h;obtain rfl:=h.i0;obtain rfl:=U0 e;exact⟨rfl,λj h=>absurd h (W7 _)⟩
 |cons v r k=>
  intro xs ps e h;refine h.ec λx xs a b=>?_;dsimp only[jH] at e;induction d:ua H v with
  |none=>simp only[d] at e;exact nn e
  |some p=>
   induction f:jH H r with
   |none=>simp only[d,f] at e;exact nn e
   |some n=>
    simp only[d,f] at e;obtain rfl:=U0 e;obtain⟨i1,i2⟩:=k f b;refine⟨congrArg Z7 i1,λj l=>?_⟩;induction j with
    |zero=>
     refine mn (Fx i d a) λT t u g m=>(ac g ?_)
     exact⟨T,t,u,rfl,m⟩
    |succ j=>exact i2 j (aak l)
end
theorem vR:∀(ps:List (Vb×Vb)) (k:Nat),k<=ps.length->preSum (λj=>(((ps.getD j (Vj,Vj)).1.length+(ps.getD j (Vj,Vj)).2.length:Nat):Int)) k=((aC (ps.take k):Nat):Int):=by
 intro ps k;have d:∀(l:List (Vb×Vb)) (p:Vb×Vb),aC (l++[p])=aC l+(p.1.length+p.2.length):=λl p=>by
  induction l with
  |nil=>simp[aC]
  |cons q r e=>obtain⟨a,b⟩:=q;refine ac Xe ?_;rw[aC,aC];refine ac e ?_;exact(Yv _ _ _).symm
 induction k with
 |zero=>intro _;rfl
 |succ k e=>
  intro f;have c:k < ps.length:=f;rw[preSum,e (Wy c),List.take_succ_eq_append_getElem c,d];have:ps.getD k (Vj,Vj)=ps[k]:=by simp[List.getD,c]
  refine ac this ?_;lia
theorem mM:∀(ps:List (Vb×Vb)) (k:Nat),aC (ps.take k)<=aC ps
 |[],_=>by simp[aC]
 |_::_,0=>by simp[aC]
 |(a,b)::r,k+1=>by have:=mM r k;simp only[adh,aC];exact WF this _
theorem lz:∀(ps:List (Vb×Vb)) (j:Nat),(ps.getD j (Vj,Vj)).1.length+(ps.getD j (Vj,Vj)).2.length<=aC ps
 |[],j=>by simp[aC];rfl
 |(a,b)::r,0=>by simp[aC]
 |(a,b)::r,j+1=>by have:=lz r j;simp only[List.getD_cons_succ,aC];exact U1 this (Wp _ _)
end
section
open PySem.W (CodeHd tabObj findIn)
section
structure Mr (c:Cx) (fz:Vc) (U:List U6) (H:List O) (s:U7) (Z:Yi) (D:U6) (es:List (Vb×V)) (ps:List (Vb×Vb)) (m:Vb->Option U2) (x:U6) (ox:Xg) (des:List Wg) (nn:Nat) (vs:List U2) (n:Nat):Prop where
 ns:s.heap.Ns Z.locals m
 self:m "self"=UV (.ref x)
 i:Wn s.heap x ox D (UV (cK des nn))
 d:ox.data= .seq vs.toArray n
 er:ER fz U c.w.params es des
 len:vs.length=ps.length
 it:∀j,j < ps.length->∃T t u,vs[j]?=UV (.ref T)/\s.heap.IsTuple T #[.str (ps.getD j (Vj,Vj)).1 t, .str (ps.getD j (Vj,Vj)).2 u]
theorem rR {S:St} {D:U6} (h:aI c C Z U) (a:SR c fz U S.H s) (e:ly C S=UV (D,es,ps)):∃m x ox des nn vs n,Mr c fz U S.H s Z D es ps m x ox des nn vs n:=by
 refine QT (An e) λl i d G j k o p q=>(aj (gv a j h.loc) λm r t=>?_)
 refine aj (d6.i_some (aD k (t ("self":Vb)))) λz b u=>(aj u.i_ref λx f v=>?_)
 subst f;refine aj (a.hr.at o rfl v) λI w g=>?_;obtain⟨J,y,vs,n,rfl,A⟩:=g;refine aG (ju a p y) λdes nn w1 B=>(aN (Cw a q A) λE F=>?_)
 exact⟨m,x,_,des,nn,vs,n,r,b,⟨w,rfl,rfl,w1⟩,rfl,B,E,F⟩
theorem lA {x:Vb} {v:GV} {a:Yi} (b:eC c.KK glob) (d:ms x glob=UV v) (h1:a.globals=mainGlobals) (h2:a.builtins=builtinsNs) (e:bv c.KK h):kJ h a x v.val:=by exact aj (b x v d h e) λf g1 g=>(aA f (h1▸g1) (h2▸g))
noncomputable abbrev Rz (p1 p3 q1 q2 a b c d e pa pb pt pi gpos f g:XN) (kt:Nat) (scope:XO):Vs:=
 .Call (.Name "sum" p1) [.GeneratorExp (.BinOp (.Call (.Name "len" q1) [.Name "fws" q2] [] a) .Add (.Call (.Name "len" b) [.Name "part" c] [] d) e) [⟨.Tuple [.Name "fws" pa, .Name "part" pb] kt pt, .Name "self" pi,[],0⟩] scope gpos, .Attribute (.Name "self" f) "_initial_size" g] [] p3
theorem ma {vs:List U2} (h:∀j,j < ps.length->∃T t u,vs[j]?=UV (.ref T)/\s.heap.IsTuple T #[.str (ps.getD j (Vj,Vj)).1 t, .str (ps.getD j (Vj,Vj)).2 u]):
  ∃(Ts:Nat->U6) (ta tb:Nat->ZN),∀j,j < ps.length->vs[j]?=UV (.ref (Ts j))/\s.heap.IsTuple (Ts j) #[.str (ps.getD j (Vj,Vj)).1 (ta j), .str (ps.getD j (Vj,Vj)).2 (tb j)]:=by
 classical
 refine⟨λj=>if a:j < ps.length then(h j a).choose else 0,λj=>if a:j < ps.length then(h j a).choose_spec.choose else 0,λj=>if a:j < ps.length then(h j a).choose_spec.choose_spec.choose else 0,λj a=>?_⟩
 simp only[a,dif_pos]
 exact(h j a).choose_spec.choose_spec.choose_spec
theorem Ms {n:Nat} (h:n < 2^40): -2^63<=(n:Int)/\(n:Int) < 2^63:=⟨VM (by decide) (Vp n),XF (Int.ofNat_lt.mpr h) (by decide)⟩
theorem Fy {D:U6} {T:fB} {q1 q2 q3 q4 q5 q6 q7 gpos s1 s2:XN} (eo:aI c C Z U) (hh:A.handled=UW) (I:A.depth < Wt) (GX:Am c Z T gpos) (GS:Fu scope Z "fws" "part")
  (AF:dm c.KK D) (hi:findIn c.KK (.ref D) "_initial_size"=UV UW) (o:kd ("self":Vb) C.names=UV .local) (O:kd ("sum":Vb) C.names=UV .globalImplicit) (a2:ms ("sum":Vb) C.glob=UV (.v (.builtin "sum")))
  (R:scope.names.lookup ("len":Vb)=UV .globalImplicit) (a3:ms ("len":Vb) C.glob=UV (.f 0)) (u:eC c.KK C.glob):
  ae c A fz U (Ao D C) (Wq (Rz p1 p3 q1 q2 q3 q4 q5 q6 q7 pa pb pt pi gpos s1 s2 kt scope) Z) au:=by
 refine ae.run λS K hK=>?_
 unfold Ao
 induction h1:ly C S with
 |none=>exact Vd
 |some r=>
 obtain⟨D',es,l⟩:=r
 dsimp only
 induction h2:VA D' D with
 |false=>exact Vd
 |true=>
 have:=VI h2
 subst this
 induction h3:lk ("_initial_size":Vb) es with
 |none=>exact Vd
 |some vi=>
 induction vi with
 |int i=>
  refine hK _ _ _ λhp an ρ' s Q k q sr y=>?_;clear hK;refine aN hp.1 λV b=>?_;subst V;have X:=eo.at q;refine uM (rR X sr h1) λm x ox ao nn vs n J=>(ky (ma J.it) λTs ta tb hT=>?_)
  have hk:∀G,Z.kindOf G=kd G C.names:=λG=>by rw[fK];refine aD eo.names ?_;rfl
  refine aj ((iR (n:=nn) J.er).1 _ h3) λzi l1 l2=>?_;refine l2.e_int λap=>?_;refine(?_:Vf _ _ (Wq (.Call (.Name "sum" p1) _ [] p3) Z) _ _ _);refine ac (jY (BU rfl)) (UZ (fj rfl (iS eo.kind ((hk _).trans O) (lA u a2 GX.glob GX.bu (λp hp=>sr.hr.fzle _ _ (sr.hr.wd p hp):bv c.KK s.heap)) ?_)));refine YF rfl (de rfl (XJ ?_));have B:vs.toArray.size=l.length:=ac VH (ac J.len rfl);refine th (T:=T) (m:=m) (x:=x) (items:=vs.toArray) (Ts:=Ts) (fa:=λj=>(l.getD j (Vj,Vj)).1) (fb:=λj=>(l.getD j (Vj,Vj)).2) (ta:=ta) (tb:=tb)
   (F:=λj v=>∃t,v= .int (((l.getD j (Vj,Vj)).1.length+(l.getD j (Vj,Vj)).2.length:Nat):Int) t) sr hh I GX GS ((hk _).trans o) J.ns J.self J.i J.d AF
   (λj L=>by refine ac (Wh) ?_;exact(hT j (aD B L)).1) (λj L=>(hT j (aD B L)).2) (λw A' E' j ag ah L c1 c2 c3 hK hn v1 v2=>?_) λga fp wr g P St M W a4 a5 ai a6 aq ar as a7 av ak h=>?_
  ·have ck:w.scope.kind= .function:=ac c1 GS.kind;have N:∀G,w.kindOf G=scope.names.lookup G:=λG=>by show w.scope.names.lookup G=_;rw[c1]
   have a8:=lz l j;exact J7 ck ((N _).trans R) (lA u a3 c2 c3 hK) ((N _).trans GS.ka) rfl ((N _).trans GS.kb) rfl hn v1 v2 (Vl (U1 (Vm _ _) a8) (XG b (by decide))) (by lia)
  ·
   refine aj (h M (⟨λa a a e=>e, .inl rfl,rfl,rfl,Vr _⟩:Moved wr (GenOnlyQ g) M M)) λf1 k1 Y=>(uM (rR X Y h1) λm1 x1 aw al a9 ax n1 E=>?_)
   refine aj ((iR (n:=a9) E.er).1 _ h3) λay aa ab=>?_;refine bI ab.i_int λa0 ad=>?_;subst ad;refine XJ (ac (u6 (by rfl)) ?_);refine UZ (fj rfl (WD eo.kind ((hk _).trans o) E.ns E.self ?_));refine UZ (VL (UZ (Vo (vE Y.inK E.i AF.f (qA AF.f hi (aA _ rfl aa)) rfl ?_))));refine UZ (Zy (U3 (ZJ ?_)));refine(?_:Vf _ _ (call (.builtin "sum") [.ref ga, .int 0 a0]) _ _ _);have W1:=W.in4_1;have H:St 0 {M with toks:=M.toks+1}:=W1.frame 0 M M.heap _ a5 (WG _) λa a a e=>e;refine Cv (W1.self 0 _ _ _ H ⟨ga,fp,wr,_,_,P,St,λj=>(((l.getD j (Vj,Vj)).1.length+(l.getD j (Vj,Vj)).2.length:Nat):Int),rfl,W1,H,a6,a4,λj L=>?_,λa1 t' z=>?_⟩)
   ·simp only[B] at L;have h2:=mM l (j+1);refine ac (vR l (j+1) L) ?_;unfold InLong;dsimp only;exact⟨Ms (Vl (lz l j) b),Ms (Vl h2 b)⟩
   ·refine ac B (ac (vR l _ (Vr _)) (ac Z4 ?_));exact aj (h a1 ⟨z.heap,z.gens,z.drawn,z.os,U1 (WG _) z.toks⟩) λf2 k2 af=>(y f2 ρ' a1 _ k2 (U4 _) af (.int _ _))
 |_=>exact Vd
noncomputable abbrev RA (g0:Vb) (p1 ap p3 q1 q2 a b c d pa pb pt pi gpos:XN) (e kt:Nat) (scope:XO):Vs:=
 .Call (.Attribute (.Name g0 p1) "join" ap) [.GeneratorExp (.Call (.Attribute (.Name g0 q1) "join" c) [.Tuple [.Name "fws" q2, .Name "part" a] e b] [] d) [⟨.Tuple [.Name "fws" pa, .Name "part" pb] kt pt, .Name "self" pi,[],0⟩] scope gpos] [] p3
theorem tP (ps:List (Vb×Vb)):((ps.map λp=>Wx Vj [p.1,p.2]).map (·.length)).sum<=aC ps:=by
 induction ps with
 |nil=>simp[aC]
 |cons p r c=>
  obtain⟨a,b⟩:=p;simp only[Wa,acq,aC];have:(Wx Vj [a,b]).length<=a.length+b.length:=by have h:=ack Vj [a,b];simp only[Wa,acH,acq,List.sum_nil,(rfl:(Vj:Vb).length=0),acQ,Yk] at h;refine(?_:(Builtin.Str.glued Vj [a,b]).length<=_);rw[acr];exact h
  exact VD this c
theorem Fz {D:U6} {T:fB} {g0:Vb} {t0:ZN} {q1 q2 q3 q4 aq q5 gpos:XN} {kq:Nat} (eo:aI c C Z U) (hh:A.handled=UW) (G:A.depth < Wt) (GX:Am c Z T gpos) (GS:Fu scope Z "fws" "part")
  (AF:dm c.KK D) (H:kd ("self":Vb) C.names=UV .local) (M:ew g0=UY) (a2:kd g0 C.names=UV .globalImplicit) (N:ms g0 C.glob=UV (.v (.str Vj t0)))
  (a3:scope.names.lookup g0=UV .globalImplicit) (f:eC c.KK C.glob)
  (a4:qj ap p3 [Expr.GeneratorExp (.Call (.Attribute (.Name g0 q1) "join" aq) [.Tuple [.Name "fws" q2, .Name "part" q3] kq q4] [] q5) [⟨.Tuple [.Name "fws" pa, .Name "part" pb] kt pt, .Name "self" pi,[],0⟩] scope gpos]=UX) (a5:qj aq q5 [Expr.Tuple [.Name "fws" q2, .Name "part" q3] kq q4]=UX):
  ae c A fz U (Ap D C) (Wq (RA g0 p1 ap p3 q1 q2 q3 q4 aq q5 pa pb pt pi gpos kq kt scope) Z) au:=by
 refine ae.run λS K hK=>?_
 unfold Ap
 induction h1:ly C S with
 |none=>exact Vd
 |some r=>
 obtain⟨D',es,b⟩:=r
 dsimp only
 induction h2:VA D' D with
 |false=>exact Vd
 |true=>
 have:=VI h2
 subst this
 refine hK _ _ _ λhp ak ρ' s Q k q O y=>?_
 clear hK
 refine aN (hp.1) λa1 l=>?_
 have a6:=eo.at q
 refine uM (rR a6 O h1) λm x ox al nn vs n L=>(ky (ma L.it) λTs ta tb hT=>?_)
 have hk:∀z,Z.kindOf z=kd z C.names:=λz=>by rw[fK];refine aD eo.names ?_;rfl
 refine(?_:Vf _ _ (Wq (.Call (.Attribute (.Name g0 p1) "join" ap) _ [] p3) Z) _ _ _)
 refine ac (jl (by rfl) a4) (UZ (fj M (iS eo.kind ((hk _).trans a2) (lA f N GX.glob GX.bu (λp hp=>O.hr.fzle _ _ (O.hr.wd p hp):bv c.KK s.heap)) ?_)))
 refine UZ (VL (UZ (Vo ?_)))
 refine(?_:Vf _ _ (W0 (.str Vj t0) "join" _) _ _ _)
 refine qv (by rfl:cT ("join":Vb) j0=UV 16) (YF rfl (de rfl (XJ ?_)))
 have o:vs.toArray.size=b.length:=ac VH (ac L.len rfl)
 refine th (T:=T) (m:=m) (x:=x) (items:=vs.toArray) (Ts:=Ts) (fa:=λj=>(b.getD j (Vj,Vj)).1) (fb:=λj=>(b.getD j (Vj,Vj)).2) (ta:=ta) (tb:=tb)
  (F:=λj v=>∃t,v= .str (Wx Vj [(b.getD j (Vj,Vj)).1,(b.getD j (Vj,Vj)).2]) t) O hh G GX GS ((hk _).trans H) L.ns L.self L.i L.d AF
  (λj a=>by refine ac (Wh) ?_;exact(hT j (aD o a)).1) (λj a=>(hT j (aD o a)).2) (λh A' E' j ag ah a c1 c2 c3 hK hn v1 v2=>?_) λga fp wr g P St s' W R a7 V a8 a9 am an aa ab ai w=>?_
 ·have ck:h.scope.kind= .function:=ac c1 GS.kind;have I:∀z,h.kindOf z=scope.names.lookup z:=λz=>by show h.scope.names.lookup z=_;rw[c1]
  have ao:=lz b j;exact Fq (p5:=p1) (t0:=t0) ck ((I _).trans a3) M (lA f N c2 c3 hK) ((I _).trans GS.ka) rfl ((I _).trans GS.kb) rfl hn v1 v2 (by lia) a5
 ·refine ZJ (?_:Vf _ _ (call (.builtin "str.join") [.str Vj t0, .ref ga]) _ _ _);have ad:(V9 vs.toArray.size).map (λj=>Wx Vj [(b.getD j (Vj,Vj)).1,(b.getD j (Vj,Vj)).2])=b.map λp=>Wx Vj [p.1,p.2]:=by
   refine ac o ?_;apply abf;intro j;by_cases a:j < b.length
   ·simp[a,List.getD]
   ·exact ac (Ws (by simpa using Z9 a)) (ac (Ws (by simpa using Z9 a)) rfl)
  refine yI (SC.joinGen (W.in4_2) V a7 a8 a9 (λj v hv=>bI (R j v hv) λu e=>(sU _ u e)) (λaf X hm B=>?_) (ac o (ac VK (U1 l (by decide)))));have hl:X.map (·.1)=b.map λp=>Wx Vj [p.1,p.2]:=by
   refine aD ad ?_;apply abf;intro j;have E:X.length=vs.toArray.size:=by simpa[strValues] using B.1
   by_cases a:j < vs.toArray.size
   ·have Y:j < X.length:=E▸a;refine bI (R j _ (B.2 j (.str X[j].1 X[j].2) (by simp[strValues,VG Y]))) λu hv=>?_;injection hv with h1 _;refine ac (YH) (ac (VG Y) (ac (YH) (ac (aaR a) ?_)));simp[h1]
   ·exact ac (Ws (by simpa[E] using Z9 a)) (ac (Ws (by simpa using Z9 a)) rfl)
  refine ac hl ⟨joinOk_of ?_,λt' k' a0=>?_⟩
  ·have:=tP b;have h0:(Vj:Vb).length=0:=rfl;refine ac h0 ?_;rw[acQ,Yk];lia
  ·exact aj (w af hm) λf2 k2 J=>(y f2 ρ' _ _ k2 (U4 _) ⟨J.hr,J.os,J.bare,U1 O.tk (U1 ab a0)⟩ (.str _ _))
end
end
section
open PySem.W (Frag findIn typeIn clsIn looks_findIn)
section
theorem aP.in1 {n:Nat} (x:aP (n+1) A):aP n A.in1:=⟨by show A.depth+n < _;have:=x.depth;exact Wy this,by show A.units+1+10*n+100 < _;have:=x.units;lia,x.handled⟩
theorem aP.in2 {n:Nat} (x:aP (n+1) A):aP n A.in1.in1:=⟨by show A.depth+n < _;have:=x.depth;exact Wy this,by show A.units+1+1+10*n+100 < _;have:=x.units;lia,x.handled⟩
theorem aP.less {n:Nat} (x:aP (n+1) A):aP n A:=⟨by have:=x.depth;exact Wy this,by have:=x.units;lia,x.handled⟩
section
variable {K:Frag} {x C:U6} 
set_option tactic.hygienic true in
theorem mN (X:K.In s.heap) (I:Wn s.heap x ox C od) (hs:findIn K (.ref C) "__len__"=UV (UV (.ref f))) (hf:typeIn K (.ref f)=UV (.type "function"))
  (h:Vf (Vg J w) A (call (.ref f) [.ref x]) (W.LenBack Q) E s):Vf (Vg J w) A (Builtin.«len» ⟨[.ref x],[]⟩) (λb s'=>∃r,b= .done (.ret r)/\Q r s') E s:=by
 unfold Builtin.«len»
 refine UZ (m:=oneArg "len" _) (U3 ?_)
 refine UZ (m:=ZP (.ref x) (WL "__len__")) (W.special_fn X I hs hf (VF h (λr s' d=>?_) λa a y=>y))
 cases r<;>first|exact d.elim|skip
 rename_i n u
 refine aN d λc e=>?_
 obtain⟨h0,g⟩:=c
 refine UZ (Vo (U3 ?_))
 refine UZ (wpAny_letGo ?_)
 refine(?_:Vf _ _ (if n < 0 then _ else _) _ _ _)
 refine ac (if_neg (Int.not_lt.mpr h0)) (?_:Vf _ _ (if n≥2^63 then _ else _) _ _ _)
 exact ac (if_neg (Int.not_le.mpr g)) (UZ (wpAny_mkInt (U3 (aA _ rfl e))))
theorem J9 (X:K.In s.heap) (I:Wn s.heap x ox C od) (hs:findIn K (.ref C) "__len__"=UV (UV (.ref f))) (hf:typeIn K (.ref f)=UV (.type "function"))
  (h:Vf (Vg J w) A.in1 (call (.ref f) [.ref x]) (W.LenBack Q) E s):Vf (Vg J w) A (call (.builtin "len") [.ref x]) Q E s:=
 Calls.call_function_entry kind_len plain_len entry_len (args_len1 _) (mN X I hs hf h)
theorem Cy {Q:Bool->U7->Prop} (X:K.In s.heap) (I:Wn s.heap x ox C od) (c:findIn K (.ref C) "__bool__"=UV UW) (hs:findIn K (.ref C) "__len__"=UV (UV (.ref f))) (hf:typeIn K (.ref f)=UV (.type "function"))
  (h:Vf (Vg J w) A.in1 (call (.ref f) [.ref x]) (W.LenBack λr s'=>match r with| .int n _=>Q (n !=0) s'|_=>False) E s):Vf (Vg J w) A (YW (.ref x)) Q E s:=by
 unfold YW
 refine UZ (m:=ZP (.ref x) (WL "__bool__")) (UZ (UZ (I.type.here ((looks_findIn X c).here (U3 ?_)))))
 refine UZ (UZ (I.type.here ((looks_findIn X hs).here ?_)))
 refine(?_:Vf _ _ (runValue (.builtin "len" ⟨[.ref x],[]⟩) >>= _) _ _ _)
 refine UZ (wpAny_runValue (ZI entry_len ?_))
 refine(Xo plain_len _).symm▸(VF (mN X I hs hf h) (λd s' g=>?_) λa a e=>e)
 obtain⟨r,rfl,b⟩:=g
 cases r<;>first|exact b.elim|exact U3 b
end
end
end
section
open PySem.W (Frag findIn typeIn clsIn looks_findIn specialIn looks_specialIn)
def ki (c:Cx) (A:Vk) (T:bC):Prop:=∀a m,oN a T=UV m->(∃b,(a,b)∈c.KK/\((∃fd,b.data= .func fd)∨((∃d,b.data= .cls d)/\specialIn c.KK (.ref a) "__call__"=UV (UV (.builtin "type.__call__")))))/\
 ∀fz U vs xs,av fz U vs xs->eS c A fz U (m vs) (.call (.ref a) ⟨xs,[]⟩)
structure Aq (K:Frag) (t:aV):Prop extends ClTOK K t where
 fns:∀n f,lk n t.meths=UV (.con (.ref f))->typeIn K (.ref f)=UV (.type "function")
 nob:findIn K (.ref t.C) "__bool__"=UV UW
 acc:t.l=UX->dm K t.C
def eG (K:Frag) (CL:List aV):Prop:=∀t∈CL,Aq K t
theorem eG.ok {K:Frag} (h:eG K CL):tZ K CL:=λt a=>(h t a).toClTOK
def asF (v:V) (k:U6->M α):M α:=match v with
 | .con (.ref f)=>k f
 |_=>fail
theorem OK.asF {k:U6->M α} {S:St} {K:α->St->List Prop->Prop} (h:∀f,v= .con (.ref f)->OK (k f S) K):OK (asF v k S) K:=by
 induction v with
 |con x=>cases x with
  |ref f=>exact h f rfl
  |_=>exact Vd
 |_=>exact Vd
def RB (T:bC) (CL:List aV) (nm:Vb) (v:V) (k:M V->M α) (r:U6×Nat×Option (List V)):M α:=qC CL r λt a=>cU (lk nm t.meths) λf=>asF f λf=>cU (oN f T) λm=>k (m [v])
def vS (T:bC) (CL:List aV) (nm:Vb) (v:V) (k:M V->M α) (a:M α):M α:=match v with
 | .ref i=>λS=>match S.H[i]? with
  |some o=>match j4 o with
   |some r=>RB T CL nm v k r S
   |none=>a S
  |none=>a S
 |_=>a
structure Pe (K:Frag) (nm:Vb) (f:U6) (h:Vc) (a:U6):Prop where
 ok:∃(C:U6) (ox:Xg) (od:Option Xg),Wn h a ox C od/\findIn K (.ref C) nm=UV (UV (.ref f))/\typeIn K (.ref f)=UV (.type "function")/\findIn K (.ref C) "__bool__"=UV UW
section
theorem rS {T:bC} {nm:Vb} {x:U2} {k:M V->M α} {d:M α} (t:U2->Xh β) (E:eG c.KK CL) (F:VR fz U v x) (j:ae c A fz U d (t x) R)
  (h:∀a f m,oN f T=UV m->∀S K,(∀b S' p,(ao p->∀fz' ρ' s Q,Le fz fz'->U <+:ρ'->SR c fz' ρ' S.H s->dc c fz' ρ' S'.H R b Q->Pe c.KK nm f s.heap a->VR fz' ρ' v (.ref a)->Vf (Vg c.prog c.w) A (t (.ref a)) Q bE s)->K b S' p)->OK (k (m [v]) S) K):ae c A fz U (vS T CL nm v k d) (t x) R:=by
 induction v with
 |ref i=>
  refine aj F.i_ref λa e n=>?_;subst e;refine ae.run λS K u=>?_;have j:OK (d S) K:=OK.got λb S' p e=>u _ _ _ (j S b S' p e);unfold vS;dsimp only;induction G:S.H[i]? with
  |none=>exact j
  |some o=>
   dsimp only;induction J:j4 o with
   |none=>exact j
   |some r=>refine OK.inst (c:=c) (fz:=fz) n G J λt Z L I=>OK.opt λg z=>OK.asF λf e=>OK.opt λm N=>h a f m N S K λb S' p O=>u _ _ _ λP fz' ρ' s Q k q B y=>O P fz' ρ' s Q k q B y ?_ (.ref (ai q n));subst e;have TX:=E t L;exact yf (I.ok _ _ _ k q B) λD da l nn g g5 W g7=>(ye (TX.meths nm _ z) λff tf X f2 f3 Y=>⟨_,D,_,(⟨g.1,g.2.1,g.2.2.1,g.2.2.2.symm▸W⟩:Wn s.heap a D t.C (UV (cK l nn))),X.trans (congrArg (λx=>UV (UV x)) (show ff= .ref f from(Y fz U).inv)),TX.fns nm f z,TX.nob⟩)
 |_=>exact j
theorem mO {m:M V} {S:St} {r:V} {p:List Prop} {R:U2->U7->Prop}
  (g:eS c A' fz' ρ' m (.call (.ref f) ⟨[.ref a],[]⟩)) (e:m S=UV (r,S1,p)) (i:ao p) (j:SR c fz' ρ' S.H s)
  (h:∀b r2 d z,Le fz' b->ρ' <+:r2->SR c b r2 S1.H d->VR b r2 r z->R z d):Vf (Vg c.prog c.w) A' (call (.ref f) [.ref a]) R bE s:=
 Xq (g S r S1 p e i fz' ρ' s _ (Le.refl _) (U4 _) j h)
def Mt (T:bC) (CL:List aV) (v:V):M V:=vS T CL "__len__" v (λm=>bnd m λr=>match r with
 | .int n=>dW (.int n) (0<=n/\n < 2^62)
 |_=>fail) (LU v)
def Mu (T:bC) (CL:List aV) (v:V):M V:=vS T CL "__str__" v (λm=>bnd m λr=>match r with
 | .str t=>ret (.str t)
 |_=>fail) (LX [v])
def Mv (T:bC) (CL:List aV) (v:V):M Bool:=vS T CL "__len__" v (λm=>bnd m λr=>match r with
 | .int n=>λS=>UV (!decide (n=0),S,[0<=n/\n < 2^62])
 |_=>fail) (LR v)
theorem H0 {n:Int} (h:n < 2^62):n < 2^63:=XF h (by decide)
theorem FA {T:bC} {x:U2} (o:eG c.KK CL) (p:ki c A.in1 T) (i:VR fz U v x):ae c A fz U (Mt T CL v) (call (.builtin "len") [x] []) au:=by
 refine rS (λx=>call (.builtin "len") [x] []) o i (JD i) λa f m u S K w=>OK.bnd λr J L B=>?_;induction r with
 |int n=>exact w _ _ _ λj d ρ' s Q M q k y e g=>jg e.ok λC N O I D h P=>J9 k.inK I D h (mO ((p f m u).2 d ρ' _ _ (.cons g .nil)) B (af.mp j).1 k λh E R z F G b H=>
   have l:=(af.mp j).2.1
   H.e_int λt=>⟨⟨l.1,H0 l.2⟩,y h E _ _ F G (b.ta b.hr) (.int _ _)⟩)
 |_=>exact Vd
theorem FB {T:bC} {x:U2} (k:eG c.KK CL) (l:ki c A.in1.in1 T) (o:A.units+64 < cLine) (i:VR fz U v x):ae c A fz U (Mu T CL v) (call (.type "str") [x] []) au:=by
 refine rS (λx=>call (.type "str") [x] []) k i (JH (.cons i .nil)) λa f m p S K u=>OK.bnd λr J L w=>?_;induction r with
 |str n=>exact u _ _ _ λB b ρ' s Q M q j y d e=>jg d.ok λC N O I D g P=>W.kso_call (by show A.units+1+1 < _;exact Vl (WF (by decide:2<=64) _) o) j.inK I D (by unfold W.isFn;refine ac g ?_;rfl) (mO ((l f m p).2 b ρ' _ _ (.cons e .nil)) w (af.mp B).1 j λg E R z F G h H=>H.e_str λt=>y g E _ _ F G h (.str _ _))
 |_=>exact Vd
theorem FC {T:bC} {x:U2} (o:eG c.KK CL) (p:ki c A.in1 T) (i:VR fz U v x):ae c A fz U (Mv T CL v) (YW x) gP:=by
 refine rS YW o i (JC i) λa f m u S K w=>OK.bnd λr L M B=>?_;induction r with
 |int n=>exact w _ _ _ λj d ρ' s Q N q k y e g=>jg e.ok λC O P I D h E=>Cy k.inK I E D h (mO ((p f m u).2 d ρ' _ _ (.cons g .nil)) B (af.mp j).1 k λh F R z G H b J=>
   have l:=(af.mp j).2.1
   J.e_int λt=>⟨⟨l.1,H0 l.2⟩,y h F _ _ G H (b.ta b.hr) (congrArg (!·) (fh n 0))⟩)
 |_=>exact Vd
theorem Ka {m:M V} (hf:∃b,(f,b)∈c.KK/\(∃cd,b.data= .cls cd)) (hs:specialIn c.KK (.ref f) "__call__"=UV (UV (.builtin "type.__call__"))) (h:eS c A fz U m (.call (.ref f) ⟨xs,[]⟩)):
  ae c A fz U m (ci k (.ref f) xs) au:=by
 refine aj hf λb g i=>bI i λcd j=>?_
 intro S v l p e n d ρ' s Q o q a y
 unfold ci ZT
 refine UZ (UZ (Zo (a.hr.fzle _ _ (a.hr.wd _ g)) ?_))
 refine ac j (UZ ((looks_specialIn a.inK hs).here ?_))
 exact ac (if_pos (by decide)) (U3 (eN (Xq (h S v l p e n d ρ' s _ o q a y))))
end
def lB (CL:List aV) (v:V):M (Nat×U6×Nat×List V):=asR v λi=>getO Fd i λr=>cU (yE r.1 CL) λt=>bX t.l (getO nJ r.2.1 λa=>ret (i,r))
noncomputable def nN (v:V) (S:St):Bool:=match v with
 | .ref i=>match S.H[i]? with
  |some (.inst _ _ (UV _))=>UX
  |_=>UY
 |_=>UY
structure RC (c:Cx) (CL:List aV) (fz:Vc) (U:List U6) (H:List O) (s:U7) (i:Nat) (C:U6) (d:Nat) (xs:List V) (a da:U6) (od:Option Xg) (vs:List U2) (n:Nat):Prop where
 h:H[i]?=UV (.inst C d (UV xs))
 ha:U[i]?=UV a
 hda:U[d]?=UV da
 ob:s.heap.get? a=UV {cls:= .ref C,dict:=UV da,data:= .seq vs.toArray n,slots:= #[]}
 i:qD s.heap a C {cls:= .ref C,dict:=UV da,data:= .seq vs.toArray n,slots:= #[]} od vs.toArray n
 r:av fz U xs vs
 f:dm c.KK C
section
def Mw (c:Cx) (CL:List aV) (fz:Vc) (U:List U6) (H:List O) (i:Nat) (C:U6) (d:Nat) (xs:List V) (a:U6):Prop:=∀fz' ρ' s,Le fz fz'->U <+:ρ'->SR c fz' ρ' H s->∃da od vs n,RC c CL fz' ρ' H s i C d xs a da od vs n
theorem OK.acc {x:U2} {S:St} {K:Nat×U6×Nat×List V->St->List Prop->Prop} (u:eG c.KK CL) (w:VR fz U v x) (h:∀i C d xs a,x= .ref a->Mw c CL fz U S.H i C d xs a->K (i,C,d,xs) S []):OK (lB CL v S) K:=by
 induction v with
 |ref i=>refine aj w.i_ref λa e y=>OK.getO λo r f z=>OK.opt λt A=>OK.when λB=>OK.getO λN O D E=>h i r.1 r.2.1 r.2.2 a e λF ρ' s k q j=>?_;have e1:=yG z;have e2:=jG E;subst e1;subst e2;have l:=ai q y;refine aN (kG A) λG I=>aj (j.hr.at f rfl l) λP m g=>aj g λJ p L=>aG L λvs n e M=>aG (ju j D p) λb nn w1 Q=>?_;subst e;exact⟨J,UV (cK b nn),vs,n,f,l,p,m,⟨⟨m,rfl,rfl,w1⟩,rfl⟩,M,I▸(u t G).acc B⟩
 |_=>exact Vd
theorem ae.acc {k:Nat×U6×Nat×List V->M α} (t:U2->Xh β) {x:U2} (b:eG c.KK CL) (f:VR fz U v x)
  (h:∀i C d xs ad S K,(∀a S' p,(ao p->∀fz' ρ' s Q,Le fz fz'->U <+:ρ'->SR c fz' ρ' S.H s->dc c fz' ρ' S'.H R a Q->Mw c CL fz U S.H i C d xs ad->Vf (Vg c.prog c.w) A (t (.ref ad)) Q bE s)->K a S' p)->OK (k (i,C,d,xs) S) K):ae c A fz U (bnd (lB CL v) k) (t x) R:=
 ae.run λS K g=>OK.seq (OK.acc (c:=c) b f λi C d xs ad e X=>h i C d xs ad S _ λa S' p j=>g _ _ _ λl fz' ρ' s Q m q n y=>e▸j l fz' ρ' s Q m q n y X)
theorem yJ {C:U6} {vs ws:List U2} {n:Nat} {f:Array U2->Array U2} (b:h.get? a=UV {cls:= .ref C,dict:=UV da,data:= .seq vs.toArray n,slots:= #[]}) (hf:f vs.toArray=ws.toArray):
  ∃m,(h.update a (Xj f)).get? a=UV {cls:= .ref C,dict:=UV da,data:= .seq ws.toArray m,slots:= #[]}:=by
 have:=Xl (Xj f) b rfl
 refine ac this ?_
 unfold Xj
 dsimp only
 exact ac hf ⟨_,rfl⟩
def Mx (CL:List aV) (v u:V):M V:=bnd (lB CL v) λr S=>UV (.none,⟨S.H.set r.1 (.inst r.2.1 r.2.2.1 (UV (r.2.2.2++[u]))),S.orc⟩,[r.2.2.2.length<=1000])
def My (P:Va) (CL:List aV) (vs:List V):M V:=mD vs λv u S=>match nN v S with
 |true=>Mx CL v u S
 |false=>L6 P vs S
theorem nO {n:Nat} (h:n<=1000):n<=U9:=U1 h (by refine ac VK ?_;decide)
theorem FD (e:eG c.KK CL) {u:V} {x:U2} (g:VR fz U v x) (hz:VR fz U u z):ae c A fz U (Mx CL v u) (call (.builtin "list.append") [x,z] []) au:=
 ae.acc (λx=>call (.builtin "list.append") [x,z] []) e g λi C d w a S K j=>j _ _ _ λl o ρ' s Q k q b y X=>qa (X _ _ _ k q b) λp B vs n X=>z9 b.inK X.i X.f.f (nO (X.r.length.symm▸l.1:vs.length<=_)) (bI (yJ (f:=(·.push z)) (ws:=vs++[z]) X.ob (by simp)) λm t=>y.at (b.tz (b.hr.upd X.h rfl X.ha (VQ ..) t ⟨p,X.hda,vs++[z],_,rfl,X.r.snoc (hz.mono k q)⟩)) .none)
theorem FE (b:eG c.KK CL) (a:av fz U vs xs):ae c A fz U (My c.w.params CL vs) (call (.builtin "list.append") xs []) au:=by
 rcases vs with _|⟨v,_|⟨w,_|_⟩⟩
 ·exact ae.fail
 ·exact ae.fail
 ·refine ae.alt ?_ (JN (c:=c) (A:=A) a);exact cy a.i2 λx z e d f=>e▸FD b d f
 ·exact ae.fail
def RD (CL:List aV) (v k:V):M V:=bnd (lB CL v) λr=>match k with
 | .int j=>match dg r.2.2.2 (dM r.2.2.2.length j) with
  |some u=>dW u (aK r.2.2.2.length j)
  |none=>fail
 |_=>fail
def Mz (P:Va) (CL:List aV) (v k:V):M V:=λS=>match nN v S with
 |true=>RD CL v k S
 |false=>vn P v k S
theorem oO {K:Frag} {x C:U6} {i:U2} {id:String} {ops:List U2} (X:K.In s.heap) (I:Wn s.heap x ox C od)
  (hl:findIn K (.ref C) "__getitem__"=UV (UV (.builtin id))) (h:Vf (Vg c.prog c.w) A (Yu (.ref x) i) Q E s)
  (hs:aa6 slice UY (.ref x) i=PySem.operate ops (Yu (.ref x) i)):Vf (Vg c.prog c.w) A (WN value slice (.ref x) i) Q E s:=by
 unfold WN getitemInPython aaA
 refine UZ (UZ (UZ (I.type.here ((looks_findIn X hl).here ?_))))
 have d:Vf (Vg c.prog c.w) A (aa6 slice UY (.ref x) i) (λr b=>Vf (Vg c.prog c.w) A (YY value (.ref x) r >>= λa=>pure r) Q E b) E s:=by exact ac hs (wpAny_operating (VF h (λr b e=>UZ (Zy (U3 e))) λa a x=>x))
 first
  |exact U3 (UZ d)
  |exact UZ (U3 (UZ d))
  |exact UZ d
theorem FF (D:eG c.KK CL) {k:V} {x:U2} (g:VR fz U v x) (m:VR fz U k y) (hs:∀l h s p,slice≠aae l h s p):ae c A fz U (Mz c.w.params CL v k) (WN value slice x y) au:=by
 refine ae.alt (ae.acc (WN value slice · y) D g λi C d o a S K E=>?_) (yo (c:=c) (A:=A) (P:=c.w.params) g m hs (value:=value));induction k with
 |int j=>
  dsimp only;induction t:dg o (dM o.length j) with
  |none=>exact Vd
  |some w=>
   refine E _ _ _ λF G ρ' s Q H q b I X=>qa (X _ _ _ H q b) λL M vs n X=>?_;rw[eF] at t;refine aj (X.r.get t) λz B J=>?_;rw[<-X.r.length] at B;refine bI m.i_int λu e=>(ac e ?_)
   exact oO b.inK X.i.i X.f.gi (Aa b.inK X.i X.f (X.r.length.symm▸F.1:aK vs.length j) ((Wh).trans B) (I.at b J)) (jE hs)
 |_=>exact Vd
end
theorem xY (k n:Nat) (h:k<=n):aah (UV ((k:Nat):Int)) UW UW n=(((k:Nat):Int),((n:Nat):Int),1):=by unfold aah;simp;exact ac (if_neg (Int.not_lt.mpr (Vp _))) (ac (Int.min_eq_left (Int.ofNat_le.mpr h)) (Y7 (Vp _)))
theorem Ar (n:Nat):aah UW UW UW n=(((0:Nat):Int),((n:Nat):Int),1):=by unfold aah;simp
def RE (CL:List aV) (v l h:V):M V:=bnd (lB CL v) λr=>match l,h with
 | .int (.ofNat k), .none=>ej (.list (r.2.2.2.drop k)) [k<=r.2.2.2.length/\r.2.2.2.length<=1000]
 |_,_=>fail
def MA (CL:List aV) (v l h:V):M V:=λS=>match nN v S with
 |true=>RE CL v l h S
 |false=>Ma v l h S
noncomputable def H1:O->Option (List V)
 | .list xs=>UV xs
 |_=>UW
theorem FG {r:List V} (e:H1 o=UV r):o= .list r:=by
 induction o with
 |«list»=>exact congrArg O.list (U0 e)
 |_=>exact nn e
noncomputable def MB (l h:V) (xs ys:List V):Option (List V×Prop):=match l,h with
 | .none, .none=>UV (ys,xs.length+ys.length<=1000)
 | .int (.ofNat k), .none=>UV (xs.take k++ys,k<=xs.length/\xs.length+ys.length<=1000)
 |_,_=>UW
def MC (CL:List aV) (v l h u:V):M Unit:=bnd (lB CL v) λr=>asR u λj=>getO H1 j λys=>cU (MB l h r.2.2.2 ys) λz S=>UV ((),⟨S.H.set r.1 (.inst r.2.1 r.2.2.1 (UV z.1)),S.orc⟩,[z.2])
section
theorem av.drop (k:Nat) (h:av g U vs xs):av g U (vs.drop k) (xs.drop k):=by
 induction k generalizing vs xs with
 |zero=>exact h
 |succ k c=>induction vs with
  |nil=>exact h.e0 .nil
  |cons=>exact h.ec λa a a b=>c b
theorem av.take (k:Nat) (h:av g U vs xs):av g U (vs.take k) (xs.take k):=by
 induction k generalizing vs xs with
 |zero=>exact .nil
 |succ k d=>induction vs with
  |nil=>exact h.e0 .nil
  |cons=>exact h.ec λc c a b=> .cons a (d b)
theorem qH (x:SR c fz' ρ' H s) (k:Le s.heap h):SR c fz' ρ' H {s with heap:=h}:=(x.tz (x.hr.le k))
theorem FH (v:eG c.KK CL) {p:XN} {a l h:V} {x:U2} (j:VR fz U a x) (hl:VR fz U l y) (m:VR fz U h z):ae c A fz U (MA CL a l h) (rL value lo hi p pos x y z) au:=by
 refine ae.alt (ae.acc (rL value lo hi p pos · y z) v j λi C d H ad S K q=>?_) (JS j hl m);induction l with
 |int k=>induction k with
  |negSucc=>exact Vd
  |ofNat k=>induction h with
   |none=>
    refine q _ _ _ λw B ρ' s Q D E F G X=>?_;clear q;refine bI hl.i_int λt e=>(ac e ?_)
    refine ac m.i_none ?_;have g:=qH F (h:=s.heap.push {cls:= .type "slice",data:= .fields [aaD (.ofNat k) t, .none, .none].toArray}) λb o e=>Vw _ e;refine qa (X _ _ _ D E g) λI J vs n X=>?_;have u:k<=vs.length/\vs.length<=1000:=X.r.length.symm▸w.1;refine UZ (V4 (hd:=by size_fits) (UZ (VL (oO g.inK X.i.i X.f.gi (vI (lo:=UV ((k:Nat):Int)) (hi:=UW) (st:=UW) g.inK X.i X.f (Z3 ..) (.int _ _) .none .none (by simp) ?_ (nO u.2)) (ops:=[.ref s.heap.objs.size, .ref ad]) (by rfl)))));exact ac (slicePick_from _ k u.1) (dc.new (ob:=bT (vs.drop k) 0) G g rfl (bL (vs.drop k) 0 rfl ((X.r.drop k).mono (Le.refl _) (Vn _ _))) rfl (Vr _))
   |_=>exact Vd
 |_=>exact Vd
theorem Kb {l h:V} {xs ys:List V} {z:List V×Prop} {u:U2} (e:MB l h xs ys=UV z) (hl:VR fz U l y) (a:VR fz U h u) (hz:z.2):∃lo k,acg y lo/\u= .none/\k<=xs.length/\xs.length+ys.length<=1000/\aah lo UW UW xs.length=((k:Int),(xs.length:Int),1)/\z.1=xs.take k++ys:=by
 induction l with
 |none=>induction h with
  |none=>obtain rfl:=U0 e;exact(QN UW 0 (hl.i_none▸ .none) a.i_none (W2 _) hz (Ar _) rfl)
  |_=>exact nn e
 |int k=>induction k with
  |negSucc=>cases h<;>exact nn e
  |ofNat k=>induction h with
   |none=>obtain rfl:=U0 e;exact(QN (UV k) k (hl.e_int λt=> .int _ _) a.i_none hz.1 hz.2 (xY _ _ hz.1) rfl)
   |_=>exact nn e
 |_=>exact nn e
noncomputable abbrev MD (pos:XN) (u x y z:U2):Xh Unit:=abb "slice" [y,z, .none] >>= λi=>WK pos >>= λa=>ZO [u,x,i] (YX x i u) >>= λa=>acC [i,u,x] []
theorem FJ (N:eG c.KK CL) {a l h:V} {x u:U2} (O:VR fz U a x) (hl:VR fz U l y) (P:VR fz U h z) (E:VR fz U v u):ae c A fz U (MC CL a l h v) (MD pos u x y z) dJ:=by
 refine ae.acc (MD pos u · y z) N O λi C d xs ad S K F=>?_;induction v with
 |ref j=>
  refine aj E.i_ref λG e R=>?_;subst e;clear E;refine OK.getO λo ys w B=>OK.opt λzs T=>F _ _ _ λW Y ρ' s Q Z H I yy X=>?_;clear F;have e:=FG B;subst e;refine QR (Kb T hl P W.1) λlo k hp e p J L e2=>(e.symm▸ ?_)
  have g:=qH I (h:=s.heap.push {cls:= .type "slice",data:= .fields [y, .none, .none].toArray}) λb o e=>Vw _ e;refine qa (X _ _ _ Z H g) λda od vs n X=>?_;have q:=ai H R;refine aj (g.hr.at w rfl q) λob g2 θ=>aG θ λt m e M=>?_;subst e;have D:G≠ad:=λhe=>by have p:=X.h;simp only[<-g.hr.inj j i _ _ G w rfl X.h rfl q (he▸X.ha),w] at p;exact nomatch p
  rw[<-X.r.length] at p J L;refine UZ (V4 (hd:=by size_fits) (UZ (VL (UZ (Vo (xU (lo:=lo) (a:=k) g.inK X.i X.f (Z3 ..) hp L p g2 rfl rfl D (λf hf=>i7 ?_) (show vs.length+t.length<=1000 from M.length.symm▸J)))))));exact bI (yJ (f:=f) (ws:=vs.take k++t) X.ob (by refine ac hf ?_;simp)) λmm hg=>yy.at (I.tz (g.hr.upd X.h rfl X.ha (VQ ..) hg ⟨da,X.hda,vs.take k++t,_,rfl,e2.symm▸av.app (X.r.take k) M⟩)) trivial
 |_=>exact Vd
end
end
section
open PySem.W (Frag findIn typeIn clsIn looks_findIn specialIn looks_specialIn InitBack makesIn makes_of make_core instObj emptyDict bind_fn)
theorem aP.new {n:Nat} {C:U6} (x:aP (n+1) A):aP n (A.under (.builtin "type.__call__" ⟨.ref C::rest,[]⟩)):=
 ⟨by show A.depth+1+n < _;have:=x.depth;lia,by have e:(Code.builtin "type.__call__" ⟨.ref C::rest,[]⟩).cUnits<=9:=Wd (by rfl');refine(?_:A.units+(Code.builtin "type.__call__" ⟨.ref C::rest,[]⟩).cUnits+10*n+100 < _);have:=x.units;lia,x.handled⟩
structure lC (K:Frag) (l:Bool) (C f:U6):Prop where
 mak:(match l with|true=>pe K C|false=>makesIn K C)=UX
 ini:findIn K (.ref C) "__init__"=UV (UV (.ref f))
 fn:typeIn K (.ref f)=UV (.type "function")
noncomputable def ME (l:Bool):Option (List V):=match l with
 |true=>UV []
 |false=>UW
def vT (l:Bool) (C:U6) (a:List V->M V) (vs:List V):M V:=λS=>
 bnd (a (.ref (S.H.length+1)::vs)) (λr=>match r with
  | .none=>ret (.ref (S.H.length+1))
  |_=>fail) ⟨S.H++[.dict []]++[.inst C S.H.length (ME l)],S.orc⟩
section
theorem FK {l:Bool} {C:U6} {O:List V->M V} (N:lC c.KK l C f) (T:av fz U vs xs)
  (W:∀fz U vs xs C rest,av fz U vs xs->eS c (A.under (.builtin "type.__call__" ⟨.ref C::rest,[]⟩)) fz U (O vs) (.call (.ref f) ⟨xs,[]⟩)):
  eS c A fz U (vT l C O vs) (.call (.ref C) ⟨xs,[]⟩):=by
 intro S v S' p e Y i ρ' s R k q B y
 unfold vT at e
 refine ez (bA e) λr Z p1 p2 e1 P j=>?_
 subst j
 obtain⟨D,a0⟩:=af.mp Y
 have k1:Le s.heap (s.heap.push emptyDict):=λb o e=>Vw _ e
 have g:ρ'.length=S.H.length:=B.hr.len
 have n:(ρ'++[s.heap.objs.size])[S.H.length]?=UV s.heap.objs.size:=bj g.symm
 have E:(s.heap.push emptyDict).objs.size=s.heap.objs.size+1:=ab4 ..
 have t:∀m,(s.heap.push emptyDict).get? s.heap.objs.size=UV emptyDict->m.isFreed=UY->(OR c.w.params i (ρ'++[s.heap.objs.size]++[(s.heap.push emptyDict).objs.size]) (.inst C S.H.length (ME l)) (s.heap.push emptyDict).objs.size m)->
   Xz (Vg c.prog c.w) (A.under (.builtin "type.__call__" ⟨.ref C::xs,[]⟩)) (.call (.ref f) ⟨.ref (s.heap.objs.size+1)::xs,[]⟩) (InitBack (s.heap.objs.size+1) R) {s with heap:=(s.heap.push emptyDict).push m}:=λm a F G=>by
  have h2:=(B.hr.push emptyDict (.dict []) rfl (bL ([]) 0 rfl .nil)).push m (.inst C S.H.length (ME l)) F G
  have z:ρ' <+:ρ'++[s.heap.objs.size]++[(s.heap.push emptyDict).objs.size]:=((Vn _ _:ρ' <+:ρ'++[s.heap.objs.size])).trans (Vn _ _)
  have h:(ρ'++[s.heap.objs.size]++[(s.heap.push emptyDict).objs.size])[S.H.length+1]?=UV (s.heap.objs.size+1):=by exact ac (bj (ac U8 (ac g rfl))) (ac E rfl)
  refine W i (ρ'++[s.heap.objs.size]++[(s.heap.push emptyDict).objs.size]) (.ref (S.H.length+1)::vs) _ C xs (.cons (.ref h) ((T.mono k q).mono (Le.refl _) z)) _ r Z p1 e1 D i _ {s with heap:=(s.heap.push emptyDict).push m} _ (Le.refl _) (U4 _) (B.tz h2) λf3 r3 s3 x k3 Q I J=>?_
  induction r with
  |none=>cases J;refine b9 (db P) λj K L=>?_;subst j;subst K;subst L;exact⟨rfl,y f3 r3 s3 _ k3 (z.trans Q) I (.ref (ai Q h))⟩
  |_=>exact nn P
 have X:=B.inK
 obtain⟨hh,gg,dd,tt,oo⟩:=s
 induction l with
 |true=>exact Ml (Cp X N.mak) (looks_findIn X N.ini) (λd=>bind_fn X d N.fn) (t _ (VV _ rfl) rfl ⟨_,ai (Vn _ _) n,[],0,rfl, .nil⟩)
 |false=>exact make_core (makes_of X N.mak) (looks_findIn X N.ini) (λd=>bind_fn X d N.fn) (.inl rfl) (t _ (VV _ rfl) rfl (aA _ (ai (Vn _ _) n) rfl))
end
end
section
open PySem.W (Frag findIn typeIn clsIn findObj lookIn ownOf takesIn looks_findIn looks_find specialIn looks_specialIn handedIn handedOut_of mroIn looks_mroIn fn_get methodObj copiedNames)
section
structure iB (K:Frag) (C f:U6) (nm:Vb):Prop where
 find:findIn K (.ref C) nm=UV (UV (.ref f))
 get:specialIn K (.ref f) "__get__"=UV (UV (.builtin "function.__get__"))
 data:takesIn K (.ref f)=UV UY
 cop:copiedNames.contains nm=UY
 fn:typeIn K (.ref f)=UV (.type "function")
section
variable {K:Frag} {x C:U6} {name:Vb} {expr:Bool} 
theorem Cz {l:Bool} (a:bV K C l) (B:iB K C f name) (hl:∃o,od=UV o/\lookIn name o=UV UW):findObj K C od name=UV (.bind (.builtin "function.__get__") (.ref f)):=by
 refine ca a.cd λb c d e=>?_;obtain⟨o,rfl,hl⟩:=hl;dsimp only[findObj];refine ac c (ac B.find ?_);simp only[We];refine ac B.get ?_;simp only[We];refine ac B.data ?_;simp only[We];have:W.ownOf b (UV o) name=UV UW:=by dsimp only[W.ownOf];exact ac (if_pos d) hl
 refine ac this ?_;simp only[We,B.cop,ab5,Xi,if_false]
theorem CA (X:K.In s.heap) (I:Wn s.heap x ox C od) (a:bV K C UX) (B:iB K C f name) (hl:∃o,od=UV o/\lookIn name o=UV UW)
  (h:Q (.ref s.heap.objs.size) {s with heap:=s.heap.push (methodObj (.ref f) (.ref x)),toks:=s.toks+1}):
  Vf (Vg J w) A (aaI (.ref x) name expr) Q E s:=by
 refine ca a.cd λm c n e=>?_
 obtain⟨i,g,d,t,os⟩:=s
 have b:=I.type (M:=Vg J w)
 have j:=looks_findIn (M:=Vg J w) X a.gx
 have k:=looks_find (M:=Vg J w) X I (Cz a B hl)
 unfold aaI getAttrBy
 refine UZ (Y0 (Vo (UZ (b.at (UZ ((looks_findIn (M:=Vg J w) X a.ga).at ?_))))))
 refine(?_:Vf _ _ (YK _ _ _ _ _ _) _ _ _)
 dsimp only[YK]
 refine UZ (j.at (UZ (Zu (Vo ?_))))
 dsimp only[ach]
 refine ac (show(expr&&onTheHeap (aci (HY UX)))=UY from by cases expr<;>rfl) (ac (if_neg (by decide)) ?_)
 refine(?_:Vf _ _ (ZX (.builtin "list.__getattribute__") _ _) _ _ _)
 dsimp only[ZX]
 refine UZ ?_
 rw[F.slot_list_getattribute.bind]
 have l:aag "list.__getattribute__"=UV ("list","__getattribute__"):=by decide+kernel
 refine U3 (Xq ?_)
 refine Zz F.slot_list_getattribute.plain F.entry_list_ga (@W.check_slot (Vg J w) _ _ _ "list.__getattribute__" "list" "__getattribute__" (.ref x) [.str name t] [] _ (by decide+kernel:WA "list.__getattribute__"=UV .slot) l (b.andThen (looks_mroIn X (by dsimp only[mroIn];refine ac c ?_;rw[We];refine ac e ?_;rfl)):W.Looks (Vg J w) i (Yr (.ref x) (.type "list")) UX) (acv _ _) ?_)
 unfold Builtin.«object.__getattribute__»
 refine UZ (U3 (UZ (U3 (UZ (b.at (UZ (k.at ?_)))))))
 refine UZ (Vo ?_)
 refine Xq (fn_get X B.fn ?_)
 refine U3 (?_:Vf _ _ (handedOut _) _ _ _)
 exact U3 h
end
noncomputable def As:Option Wk->Bool
 |some .local=>UX
 |_=>UY
theorem vU {o:Option Wk} (e:As o=UX):o=UV .local:=by
 induction o with
 |none=>exact ff e
 |some k=>induction k with
  |«local»=>rfl
  |_=>exact ff e
def H2 (T:bC) (CL:List aV) (C:Ec) (nm y:Vb) (r:Nat×U6×Nat×List V):M (V×(List V->M V)):=cU (yE r.2.1 CL) λt=>getO nJ r.2.2.1 λes=>getO qB C.fid λl=>bX (As (kd y C.names)) (cU (lk nm t.meths) λu=>asF u λf=>bX (lk nm es).isNone (cU (lk y l) λb=>cU (oN f T) λm=>ret (b,m)))
structure Pf (c:Cx) (T:bC) (CL:List aV) (C:Ec) (nm y:Vb) (r:Nat×U6×Nat×List V) (H:List O) (z:V×(List V->M V)):Prop where
 ok:∃f es l,iB c.KK r.2.1 f nm/\oN f T=UV z.2/\H[r.2.2.1]?=UV (.dict es)/\lk nm es=UW/\H[C.fid]?=UV (.frame l)/\lk y l=UV z.1/\kd y C.names=UV .local
theorem FL {T:bC} {C:Ec} {nm y:Vb} {r:Nat×U6×Nat×List V} {S:St} {K:V×(List V->M V)->St->List Prop->Prop} (d:∀t∈CL,∀f,lk nm t.meths=UV (.con (.ref f))->iB c.KK t.C f nm) (h:∀z,Pf c T CL C nm y r S.H z->K z S []):OK (H2 T CL C nm y r S) K:=
 OK.opt λt a=>OK.getO λo g i j=>OK.getO λx l k n=>OK.when λp=>OK.opt λu q=>OK.asF λf e=>OK.when λs=>OK.opt λb v=>OK.opt λm w=>h (b,m) ⟨f,g,l,(kG a).2▸d t (kG a).1 f (aD e q),w,i.trans (congrArg UV (jG j)),Option.isNone_iff_eq_none.mp s,k.trans (congrArg UV (mI n)),v,vU p⟩
def H3 (T:bC) (CL:List aV) (C:Ec) (F:bP) (v:Vs) (nm y:Vb):M V:=bnd (F.ev v) λa=>bnd (lB CL a) λr=>bnd (H2 T CL C nm y r) λz=>bnd (look z.1) λq=>bX (!q.1) (cU q.2.all λc=>bnd (need (c.length<=1000)) λb=>z.2 (a::c))
section
variable {C:Ec} 
theorem OK.look' {S:St} {K:Bool×SV->St->List Prop->Prop} (h:∀r,(∀{fz' ρ' s x},SR c fz' ρ' S.H s->VR fz' ρ' v x->∃a xs n,x= .ref a/\s.heap.get? a=UV (eT r.1 xs n)/\cq fz' ρ' r.2 xs)->K r S []):OK (Mine.Internal.look v S) K:=by
 induction v with
 |dat d=>
  refine(?_:OK ((match gT d with|some r=>ret r|none=>fail) S) K);induction b:gT d with
  |none=>exact Vd
  |some r=>exact h r λ{_ ρ' _ _} f g=>gO (iA (U:=ρ') b g.i_dat) λa xs n e e2 e3=>⟨a,xs,n,e,f.hr.fzle _ _ e2,e3⟩
 |ref l=>exact OK.lookR (c:=c) λr i=>h r λf g=>aj g.i_ref λa e j=>aG (i _ _ _ _ f j) λxs n b k=>⟨a,xs,n,e,b,k⟩
 |_=>exact Vd
theorem rU {Q:Bool->U7->Prop} {x:U2} (a:s.TypeIs x "tuple") (h:Q UY s):Vf Mo A (acl x) Q E s:=by dsimp only[acl];refine UZ (Xa a PySem.F.slot_tuple_iter.lookup ?_);exact U3 h
theorem FM {T:bC} (G:bM c A C Z fz U) (IH:bG c A C Z F) (hC:eG c.KK CL) (hT:ki c A T) {v:Vs} {nm y:Vb} {ps:XN} (hv:fD v=UY) (hy:ew y=UY)
  (hB:∀t∈CL,∀f,lk nm t.meths=UV (.con (.ref f))->iB c.KK t.C f nm):
  ae c A fz U (H3 T CL C F v nm y) (Wq (.Call (.Attribute v nm ap) [.Starred (.Name y py) ps] [] pos) Z) au:=by
 rw[adc];refine ac (fu hv) ?_
 refine ae.bind (IH.ev _ _ G v) λf1 r1 a x k1 q1 ha=>ae.stand ?_
 refine ae.run λS K hK=>OK.seq (OK.acc (c:=c) hC ha λi Cl d xs ad e X=>OK.seq (FL hB λz P=>OK.seq (OK.look' (c:=c) λr R=>OK.when λht=>OK.opt λus hu=>OK.need (OK.got λw S' p6 e6=>hK _ _ _ λhp h ρ' s Q kk q p yy=>?_))))
 subst e
 clear hK
 refine aN hp λu V=>?_
 have u:us.length<=1000:=u
 refine qa (X _ _ _ kk q p) λda od vs n X=>(ky P.ok λf es l θ=>yd θ λB g4 h2 g2 h3 D=>?_)
 have h4:=D.2
 refine aG (ju p h2 X.hda) λW nn w1 w2=>?_
 have l1:=(iR (n:=nn) w2).2 g2
 have I:Wn s.heap ad {cls:= .ref Cl,dict:=UV da,data:= .seq vs.toArray n,slots:= #[]} Cl (UV (cK W nn)):=⟨X.ob,rfl,rfl,w1⟩
 dsimp only[methodCall]
 refine UZ (Vo ?_)
 have Y:aa5 ([(acy y py).Starred ps].length+([]:List Keyword).length) (XU pos (WO [(acy y py).Starred ps] Z)) (backToKw pos (acp [] Z))=UY:=rfl
 refine(Y).symm▸ ?_
 dsimp only[calleeOf]
 refine(if_neg VT).symm▸(UZ (CA p.inK I X.f.f B (aA _ rfl l1) ?_))
 refine U3 ?_
 dsimp only
 dsimp only[ade]
 refine UZ (U3 ?_)
 have E:Le s.heap (s.heap.push (methodObj (.ref f) (.ref ad))):=λb o e=>Vw _ e
 have j:SR c h ρ' S.H {s with heap:=s.heap.push (methodObj (.ref f) (.ref ad)),toks:=s.toks+1}:=(p.ta (p.hr.le E))
 refine aj (gv j h3 (ai q (ai q1 G.eo.loc))) λmm hn hm=>(aj (d6.i_some (aD (D.1) (hm y))) λz h5 a0=>?_)
 refine gO (R j a0) λbd ys nb a1 j1 j2=>?_
 subst a1
 rw[(XV r.1▸ht:r.1=UY)] at j1
 have J:=j2.all hu
 dsimp only[Y1]
 refine UZ (Vo ?_)
 dsimp only[evalArgs]
 refine UZ ?_
 refine ac (if_pos rfl) ?_;refine ac (jX hy) ?_
 have a6:Le s.heap {s with heap:=s.heap.push (methodObj (.ref f) (.ref ad)),toks:=s.toks+1}.heap:=E
 refine UZ (UZ (VL (WD G.eo.kind (((by rw[fK];refine aD G.eo.names ?_;rfl:Z.kindOf y=kd y C.names)).trans h4) hn h5 ?_)))
 refine UZ (VL (U3 (UZ (U3 ?_))))
 dsimp only
 refine Vo ?_
 have L:Shared.TypeIs {s with heap:=s.heap.push (methodObj (.ref f) (.ref ad)),toks:=s.toks+1} (.ref bd) "tuple":=(aA _ j1 rfl)
 have a2:backToKw pos (acp [] Z)=[]:=rfl
 refine(a2).symm▸ ?_
 refine UZ (U3 ?_)
 refine UZ (UZ (rU L ?_))
 refine(if_neg VT).symm▸ ?_
 refine Vo (wpAny_collect_seq bd (.inr rfl) j1 rfl rfl (λh' M=>?_) (by refine ac VH ?_;refine ac (J.length) ?_;refine ac VK ?_;lia))
 refine U3 (UZ (VL ?_))
 have N:h'.get? s.heap.objs.size=UV (methodObj (.ref f) (.ref ad)):=M _ _ (VV _ rfl)
 refine aj (Option.map_eq_some_iff.mp B.fn) λfo a7 a8=>?_
 have k:=qH j M
 dsimp only[ZT]
 refine UZ (UZ (Zo N ?_))
 dsimp only
 rw[if_neg (by decide)]
 refine aN (hT f _ g4) λO a3=>?_
 obtain⟨m,a4,a9⟩:=O
 refine(?_:Vf _ _ (load f >>= _) _ _ _)
 refine UZ (Zo (k.hr.fzle _ _ (k.hr.wd (f,m) a4):h'.get? f=UV m) (U3 ?_))
 have a5:Vf (Vg c.prog c.w) A (call (.ref s.heap.objs.size) ys []) Q bE {s with heap:=h',toks:=s.toks+1}:=by refine Xq (ks_codeAny_call_bound N ?_);exact a3 h ρ' (a::us) (.ref ad::ys) (.cons (ha.mono kk q) J) _ w S' p6 e6 V h ρ' _ _ (Le.refl _) (U4 _) k yy
 refine((rfl:((XU pos (WO [(acy y py).Starred ps] Z)).any (·.1)||([]:List (Option Vb×Xh U2)).any (·.1.isNone))=UX)).symm▸ ?_
 cases hd:m.data<;>exact eN (ix a5)
end
end
end
section
section
theorem qI {l b:U6} (x:h.IsList l items) (hs:X1 b h h') (a:l≠b):h'.IsList l items:=
 aj x λo c r=>(aA o (hs l o a c) r)
theorem CB {t:U6} (j:t≠it) (n i:Nat) (s:U7) (Q:List U2->U7->Prop) (e:s.heap.IsListIter it t i) (k:s.heap.IsList t items) (f:i+n<=items.size)
  (l:∀h',h'.IsListIter it t (i+n)->WS it s.heap h'->Q ((items.toList.drop i).take n) {s with heap:=h'}):Vf (Vg J w) A (draw (.ref it) n) Q E s:=by
 induction n generalizing i s Q with
 |zero=>refine(?_:Vf _ _ (pure []) Q E s);exact U3 (l s.heap e (Heap.SameBut.refl ..))
 |succ n o=>have g:i < items.size:=Vl (Vm _ _) f;refine(?_:Vf _ _ (aaK (.ref it) >>= _) Q E s);refine UZ (wpAny_pyNext_list_item e k (x:=items[i]) (by simp[g]) λm b a=>?_);refine UZ (Vo (o (i+1) _ _ b (qI k a.extBut j) (U1 (Ve (VU ..)) f) λh c d=>U3 ?_));have:=l h (VU i 1 n▸c) (a.trans d);rw[(by simp[List.drop_eq_getElem_cons,g]:items.toList.drop i=items[i]::items.toList.drop (i+1)),adh] at this;exact this
theorem pk {t:U6} {Q:List U2->U7->Prop} (n:A.handled=UW) (k:s.heap.IsList t items)
  (p:∀h',X1 s.heap.objs.size s.heap h'->Q items.toList {s with heap:=h'}):Vf (Vg J w) A (aa3 (.ref t) items.size UW) Q E s:=by
 have f:t≠s.heap.objs.size:=by obtain⟨o,l,_⟩:=k;exact aal (Wc l)
 dsimp only[aa3]
 refine UZ ?_
 dsimp only[acl]
 refine UZ (Xa k.typeIs F.slot_list_iter.lookup ?_)
 refine U3 ?_
 simp only[Xi,if_false]
 refine UZ (Vo (abU k ?_))
 have g:(s.heap.push {cls:= .type "list_iterator",data:= .fields #[.ref t, .int 0 0]}).IsList t items:=aj k λo l r=>(aA o (Vw _ l) r)
 refine UZ (Vo (CB f items.size 0 _ _ (cE _ (VV _ rfl) rfl rfl) g (by lia) λh c a=>?_))
 have i:List.take items.size (List.drop 0 items.toList)=items.toList:=by refine ac aaF ?_;exact aai (by simp)
 refine ac i (ac (if_neg (by simp)) ?_)
 refine UZ (Vo (wpAny_pyNext_list_end n c (qI g a.extBut f:h.IsList t items) (by simp) λj d=>?_))
 simp only[Option.isSome_none,Xi,if_false]
 refine U3 (p j λb o m e=>d b o m (a.extBut b o m (Vw _ e)))
end
def SV.allX:SV->Option (List V)
 | .ss xs=>UV (xs.map .str)
 |sv=>sv.all
def MF (v:V) (n:Nat):M (List V):=bnd (look v) λr=>cU r.2.allX λxs=>bX (VA xs.length n) (ret xs)
noncomputable def guess:Nat->Nat->M Nat
 |0,_=>fail
 |n+1,k=>λS=>match S.orc with
  |[]=>UW
  |true::r=>UV (k,⟨S.H,r⟩,[])
  |false::r=>guess n (k+1) ⟨S.H,r⟩
def CC (N:List Vb) (vs:List V):M V:=EC vs λv w u=>asS v λx=>asS w λy=>asI u λk=>bnd (guess 5 0) λj=>cU (dg N j) λa=>ej (.strs [a,Wr x (UV (a.length+y.length:Nat)) UW])
    [(decide (k < -(2^63:Int))||decide (k≥2^63))=UY/\(decide (x.length < y.length)||decide (Xp x < Xp y))=UY/\(y.length==0)=UY/\(Ye x y 0 x.length (limitOf x k)).isEmpty=UY/\
     x.length<=U9/\abm x (Ye x y 0 x.length (limitOf x k)) y.length=[a,Wr x (UV (a.length+y.length:Nat)) UW]]
section
theorem cq.allX {sv:SV} (h:cq g U sv xs) (e:sv.allX=UV vs):av g U vs xs:=by
 induction sv with
 |ss l=>
  obtain rfl:=U0 e;have:∀{l:List Vb} {xs:List U2},dk l xs->av g U (l.map V.str) xs:=λ{l}=>by
   induction l with
   |nil=>exact λh=>h.i0.symm▸ .nil
   |cons d r a=>exact λh=>aG h.ic λt u e b=>e.symm▸ .cons (.str _ _) (a b)
  exact this h
 |_=>exact h.all e
theorem FO (g:A.handled=UW) {x:U2} {n:Nat} (l:VR fz U v x):ae c A fz U (MF v n) (aa3 x n UW) zI:=by
 refine ae.look (t:=(aa3 · n UW)) l λr ad S K o=>OK.opt λvs p=>OK.when λu=>o _ _ _ λC w ρ' s Q k q h y e m i z=>?_;have a:=z.allX p;refine aD (a.length.trans (VI u):e.length=n) ?_;have d:∀f,X1 s.heap.objs.size s.heap f->Q e {s with heap:=f}:=λf B=>y.at (h.tz (h.hr.le (B9 B))) a;obtain⟨b,sv⟩:=r;induction b with
 |true=>exact pk (items:=e.toArray) g ⟨_,i,rfl,m,rfl⟩ d
 |false=>exact unpackItems_tuple (items:=e.toArray) g ⟨_,i,rfl,m,rfl⟩ d
theorem OK.guess {n:Nat}:∀{k:Nat} {S:St} {K:Nat->St->List Prop->Prop},(∀j orc,K j ⟨S.H,orc⟩ [])->OK (Mine.Internal.guess n k S) K:=by
 induction n with
 |zero=>exact λa=>Vd
 |succ n c=>
  intro k S K h;obtain⟨H,orc⟩:=S;induction orc using VE with
  |nil=>exact Vd
  |cons b r=>cases b with
   |true=>exact h k r
   |false=>exact c h
theorem vV (l:List Vb):∀t:ZN,dk l (strsFrom t l):=by
 induction l with
 |nil=>exact λa=> .nil
 |cons x r b=>exact λt=> .cons (b (t+1))
theorem CD {N:List Vb} (b:av fz U vs xs):ae c A fz U (CC N vs) (call (.builtin "str.split") xs []) au:=by refine(ae.call3 (t:=λxs=>call (.builtin "str.split") xs []) b ?_:);intro v w u x y z d e f;refine(ae.asS (t:=λx=>call (.builtin "str.split") [x,y,z] []) d ?_:);intro x t;refine(ae.asS (t:=λy=>call (.builtin "str.split") [.str x t,y,z] []) e ?_:);intro y u;refine(ae.asI (t:=λz=>call (.builtin "str.split") [.str x t, .str y u,z] []) f ?_:);refine λk v=>ae.run λS K g=>OK.seq (OK.guess λj h=>OK.opt λnm D=>g _ _ _ λi l ρ' s Q E q m n=>?_);refine yd i.1 λo p r B C a=>?_;refine YM PySem.F.slot_str_split (XB _ _ _) PySem.F.entry_str_split (PySem.F.args_str_split_3 _ _ _) (meets_str_split_sep_max x y k t u v o p r B C (by refine ac a (ac VK ?_);show(2:Nat)<=16777216;decide)) ?_;exact ac a (n.new m rfl (bL _ 0 rfl (vV _ _)) rfl (Vm _ _))
end
section
def KV (g:Vc) (U:List U6):List (Vb×V)->List (Vb×U2)->Prop
 |[],l=>l=[]
 |(k,v)::r,l=>∃x s,l=(k,x)::s/\VR g U v x/\KV g U r s
theorem KV.nil:KV g U [] []:=rfl
theorem KV.cons {k:Vb} {x:U2} {r:List (Vb×V)} {s:List (Vb×U2)} (a:VR g U v x) (b:KV g U r s):KV g U ((k,v)::r) ((k,x)::s):=(cY x s rfl a b)
def iK (x:Vb):List Vb->Bool
 |[]=>UY
 |y::r=>match sq x y with
  |true=>UX
  |false=>iK x r
def iT:List Vb->Bool
 |[]=>UX
 |x::r=>match iK x r with
  |true=>UY
  |false=>iT r
noncomputable def ge :List (Vb×α)->List Vb
 |[]=>[]
 |(k,_)::r=>k::ge r
theorem mP:∀(es:List (Vb×α)),(ge es).length=es.length
 |[]=>rfl
 |(k,d)::r=>congrArg (· +1) (mP r)
theorem CE {x:Vb} {l:List Vb} (e:iK x l=UY):x∉l:=by
 induction l with
 |nil=>exact nofun
 |cons y r b=>
  have e:(match sq x y with|true=>UX|false=>iK x r)=UY:=e;induction a:sq x y with
  |true=>rw[a] at e;exact tf e
  |false=>rw[a] at e;exact λh=>(List.mem_cons.mp h).elim (cg.mp a) (b e)
theorem mQ {l:List Vb} (e:iT l=UX):l.Nodup:=by
 induction l with
 |nil=>exact .nil
 |cons x r b=>
  have e:(match iK x r with|true=>UY|false=>iT r)=UX:=e;induction a:iK x r with
  |true=>rw[a] at e;exact ff e
  |false=>rw[a] at e;exact List.nodup_cons.mpr ⟨CE a,b e⟩
section
theorem KV.i0 (h:KV g U [] kvs):kvs=[]:=h
theorem KV.ic {k:Vb} {r:List (Vb×V)} (h:KV g U ((k,v)::r) kvs):∃x s,kvs=(k,x)::s/\VR g U v x/\KV g U r s:=h
theorem KV.keys:∀{kvs:List (Vb×U2)},KV g U es kvs->kvs.map (·.1)=ge es:=by
 induction es with
 |nil=>exact λh=>congrArg (YJ _) h
 |cons p r c=>exact λh=>cy h λx s e a b=>e▸congrArg (p.1::·) (c b)
theorem ER.kv:∀{des:List Wg},ER g U w.params es des->∃kvs,KV g U es kvs/\Pairs (WI J w) des kvs/\∀e∈des,∃k,(WI J w).is k e.key=UX/\e.hash=(WI J w).hash k:=by
 induction es with
 |nil=>exact λh=>h.i0.symm▸⟨[], .nil, .nil,λc h=>nomatch h⟩
 |cons p r i=>
  obtain⟨k,v⟩:=p;intro des h;refine gO h.ic λt x q d a b=>(ac d ?_)
  refine ca (i b) λkvs j l m=>(cE _ (.cons a j) (.cons (acR ..) rfl l) (λe f=>?_))
  rcases List.mem_cons.mp f with rfl|f
  ·exact(aA k (acR ..) rfl)
  ·exact m e f
theorem KV.er:∀{kvs:List (Vb×U2)} {des:List Wg},KV g U es kvs->Pairs (WI J w) des kvs->(∀e∈des,∃k,(WI J w).is k e.key=UX/\e.hash=(WI J w).hash k)->ER g U w.params es des:=by
 induction es with
 |nil=>exact λh d c=>by subst h;cases d;exact .nil
 |cons p r o=>
  obtain⟨k,v⟩:=p;intro kvs des h d i;refine cy h.ic λx s f a b=>?_;subst f;cases d with
  | @cons e _ _ _ j l q=>
  refine aj (i e (.head _)) λz u m=>?_;obtain rfl:=(WI J w).inj _ _ _ u j;obtain⟨t,n⟩:=ac7 j;obtain⟨A,B,C⟩:=e;dsimp only at n l m;subst n l m;exact .cons a (o b q λe y=>i e (.tail _ y))
set_option tactic.hygienic true in
theorem KV.put {k:Vb} {x:U2} (l:VR g U v x) :∀{kvs:List (Vb×U2)},(kvs.map (·.1)).Nodup->KV g U es kvs->KV g U (Mine.Internal.put k v es) (stored kvs k x):=by
 induction es with
 |nil=>exact λc h=>h.symm▸ .cons l .nil
 |cons p r d=>
  obtain⟨y,u⟩:=p;intro kvs f h;refine cy h.ic λz s i a b=>?_;subst i;rw[Wa,List.nodup_cons] at f;have d:=d f.2 b;unfold Mine.Internal.put stored;by_cases h:k=y
  ·subst h;refine(bS.mpr rfl).symm▸ ?_;have:((k,z)::s).any (λkv=>decide (kv.1=k))=UX:=by simp
   refine ac (if_pos this) (ac Wa (ac (map_store_of_not_mem s k x f.1) ?_));simp only[if_true];exact .cons l b
  ·refine(cg.mpr h).symm▸ ?_;have m:¬y=k:=λe=>h e.symm;dsimp only[stored] at d;refine ac aaW ?_;rw[decide_eq_false m,Bool.false_or];refine ac Wa ?_;dsimp only;refine(if_neg m).symm▸ ?_;split
   ·rename_i j;rw[if_pos j] at d;exact .cons a d
   ·rename_i j;rw[if_neg j] at d;exact .cons a d
theorem DE.er {es:List (Vb×D)}:∀{des:List Wg},DE g P es des->ER g U P (es.map λp=>(p.1,V.dat p.2)) des:=by
 induction es with
 |nil=>exact λh=>h.inv.symm▸ .nil
 |cons p r d=>
  obtain⟨k,v⟩:=p;intro des h;refine gO h.inv λt x q c a b=>(ac c ?_)
  exact .cons (.dat a) (d b)
theorem rV {n:Nat} (c:h.get? a=UV (cK des n)) (d:ER g U w.params es des) (f:iT (ge es)=UX):∃kvs,KV g U es kvs/\h.DictOf (WI J w) a kvs:=by refine ca (d.kv (J:=J)) λkvs b i j=>?_;refine⟨kvs,b,_,des.toArray,n,c,⟨rfl,rfl,rfl⟩,rfl,λe k=>j e (by simpa using k),by simpa using i,?_⟩;refine ac b.keys ?_;exact mQ f
theorem Kc (p:KV g U es kvs) (hd:h.DictOf (WI J w) a kvs):∃des n,h.get? a=UV (cK des n)/\ER g U w.params es des:=by refine QS hd λo c q r d hd f s b=>?_;obtain⟨j,k,l⟩:=d;obtain⟨cls,dict,m,i⟩:=o;dsimp only at j k l hd;subst j k l hd;exact(bL c.toList q (ac r rfl) (p.er s λe t=>f e (by simpa using t)))
end
def MG (P:Va) (a k v:V):M Unit:=match a,k with
 | .ref i, .str n=>getO nJ i λes=>bX (iT (ge es)) λS=>UV ((),⟨S.H.set i (.dict (put n v es)),S.orc⟩,[es.length<=1000])
 |_,_=>EK P a k v
def H4 (x:Vb):List (Vb×D)->Option D
 |[]=>UW
 |(y,v)::r=>match sq x y with
  |true=>UV v
  |false=>H4 x r
def MH (P:Va):V->V->M V
 | .dat (.dict a es), .str n=>bX (iT (ge es)) (cU (H4 n es) λd=>dW (eA d) (a=P))
 |v,k=>vn P v k
def H5 (P:Va):List V->M V
 |[.dat (.dict a es)]=>bX (iT (ge es)) (ej (.strs (ge es)) [a=P/\es.length<=1000])
 |vs=>HQ vs
section
theorem FP {a k:V} {x:U2} (p:VR fz U a x) (r:VR fz U k y) (u:VR fz U v z):ae c A fz U (MG c.w.params a k v) (YX x y z) dJ:=by
 have b:=JB (c:=c) (A:=A) (P:=c.w.params) p r u;induction a with
 |ref i=>induction k with
  |str n=>
   clear b;refine aj p.i_ref λad e D=>bI r.i_str λt E=>?_;refine ac e ?_;refine ac E (ae.run λS K F=>OK.getO λo G B h=>OK.when λC=>F _ _ _ λH I ρ' s Q L q j M=>?_);have e:=jG h;subst e;have d:=ai q D;refine aG (ju j B d) λN nn g1 O=>aj (rV (J:=c.prog) g1 O C) λl m R=>?_;refine wpAny_setItem_pairs (knd:=WI c.prog c.w) (acR ..) R (λh' T W=>?_) (by
    have:l.length=G.length:=by refine aD (Vy (f:=(·.1))) ?_;rw[m.keys,mP]
    refine ac this ?_;exact nO H.1)
   exact aG (Kc ((m.put ((u.mono L q)) (ac m.keys (mQ C)))) T) λg X Y Z=>M.at (j.ta (j.hr.upd B rfl d W Y (bL g X rfl Z))) trivial
  |_=>exact b
 |_=>exact b
theorem MI {k:Vb} {es:List (Vb×D)}:∀{kvs:List (Vb×U2)},H4 k es=UV d->KV fz U (es.map λp=>(p.1,V.dat p.2)) kvs->∃x,valueAt kvs k=UV x/\DR fz d x:=by
 induction es with
 |nil=>intro kvs h _;exact nn h
 |cons p r i=>
  obtain⟨y,u⟩:=p;intro kvs h j;refine cy (KV.ic j) λz s c a b=>(ac c ?_)
  dsimp only[H4] at h;by_cases f:k=y
  ·subst f;rw[bS.mpr rfl] at h;exact(aA z (by simp[valueAt]) (U0 h▸a.i_dat))
  ·rw[cg.mpr f] at h;refine aj (i h b) λx g l=>(aA x ?_ l)
   unfold valueAt at g ⊢;refine ac (Zl) (ac (decide_eq_false (λe=>f e.symm)) ?_);exact g
theorem ti (es:List (Vb×D)):ge (es.map λp=>(p.1,V.dat p.2))=ge es:=by
 induction es with
 |nil=>rfl
 |cons p r a=>exact congrArg (p.1::·) a
theorem FQ {k:V} {x:U2} (g:VR fz U v x) (i:VR fz U k y) (hs:∀l h s p,slice≠aae l h s p):ae c A fz U (MH c.w.params v k) (WN value slice x y) au:=by
 have b:=yo (c:=c) (A:=A) (P:=c.w.params) g i hs (value:=value);induction v with
 |dat D=>induction D using Mine.Internal.D.casesOn with
  |dict r T=>induction k with
   |str n=>clear b;refine gO g.i_dat.i_dict λa vs m e g1 u=>bI i.i_str λt B=>?_;refine ac e ?_;refine ac B (ae.run λS K C=>OK.when λE=>OK.opt λd G=>C _ _ _ λH I ρ' s Q j q f L=>?_);obtain rfl:r=c.w.params:=H.1;exact aj (rV (J:=c.prog) (h:=s.heap) (f.hr.fzle _ _ (j _ _ g1)) (DE.er (U:=ρ') (u.mono j)) (by rw[ti];exact E)) λM N o=>aj (MI G N) λz O R=>oM o.typeIs PySem.F.slot_dict_getitem.lookup (wpAny_getItem_of (knd:=WI c.prog c.w) (acR ..) o.mapOf O (L.at (f.ta f.hr) (jx R))) (jE hs)
   |_=>exact b
  |_=>exact b
 |_=>exact b
theorem FS {es:List (Vb×D)}:∀{kvs:List (Vb×U2)} {acc:List U2},KV fz U (es.map λp=>(p.1,V.dat p.2)) kvs->acc.length=kvs.length->
  (∀(j:Nat) (v:U2),acc[j]?=UV v->∃k x,kvs[j]?=UV (k,x)/\(WI c.prog c.w).is k v=UX)->dk (ge es) acc:=by
 induction es with
 |nil=>intro kvs acc i g _;obtain rfl:=KV.i0 i;refine ac (List.eq_nil_of_length_eq_zero g) ?_;exact .nil
 |cons p r n=>
  obtain⟨k,d⟩:=p;intro kvs acc i g h;refine cy (KV.ic i) λx s l a b=>?_;subst l;induction acc with
  |nil=>cases g
  |cons v acc=>
   refine aG (h 0 v rfl) λy z o q=>(aN (o4 o) λe f=>?_)
   subst e;subst f;refine bI (ac7 q) λt m=>(m.symm▸ ?_)
   exact .cons (n b (XA g) λj v u=>h (j+1) v u)
theorem CG (H:A.handled=UW) (I:cI c.g) (z:av fz U vs xs):ae c A fz U (H5 c.w.params vs) (call (.type "list") xs []) au:=by
 have d:=EO (c:=c) (A:=A) z;rcases vs with _|⟨v,vs⟩
 ·exact d
 induction v with
 |dat D=>induction D using Mine.Internal.D.casesOn with
  |dict P' B=>induction vs using VE with
   |nil=>
    clear d;refine aj z.i1 λb e l=>gO l.i_dat.i_dict λad L n M g1 N=>?_;refine ac e ?_;refine ac M (ae.run λS K C=>OK.when λO=>C _ _ _ λP r ρ' s Q t q m R=>?_);clear C;obtain⟨T,V⟩:=P.1;subst T;refine aj (rV (J:=c.prog) (h:=s.heap) (m.hr.fzle _ _ (t _ _ g1)) (DE.er (U:=ρ') (N.mono t)) (by rw[ti];exact O)) λk E X=>?_;refine X.dictAt.elim λF u=>?_;refine iw m.tk (W.kdl_call (W.kdl_dict (knd:=WI c.prog c.w) (kvs:=k) (ep:=F) (beq_eq_false_iff_ne.mpr λe=>(Option.isSome_iff_exists.mp I).elim λo x=>nn ((m.hr.dis _ _ (e▸x)).symm.trans (t _ _ g1)):(ad==sysModules)=UY)) H u (ac (by refine aD (Vy (f:=(·.1))) ?_;rw[E.keys,mP,Vy]:k.length=B.length) (nO V)) λh' tk p Y y Z G=>λa0=>?_);have hr:=m.hr.exts y [s.heap.objs.size] [.strs (ge B)] rfl (by simp) (λa l=>Ve (List.mem_singleton.mp l).symm) (λi a o l x=>by
     cases i with
     |zero=>obtain rfl:=U0 l;obtain rfl:=U0 x;exact⟨rfl,_,Z,p.toList,Y,rfl,FS (c:=c) E G.1 λj v hj=>G.2 j v ((YQ).symm.trans hj)⟩
     |succ i=>exact nn l)
    exact R r _ _ _ (Le.refl _) (Vn _ _) (m.to hr (.inr ‹_›)) (.ref (bj m.hr.len.symm))
   |cons=>exact d
  |_=>exact d
 |_=>exact d
end
end
end
section
open PySem.W (Frag)
section
section
variable {o:Xg} {n:Int}
theorem At {a:Source} {Q:Nat->U7->Prop} (h:∀d,Q 0 {s with drawn:=d}):Vf (Vg J w) A (choose a 1) Q E s:=λc p b=>by unfold choose;rw[Sem.wp_choose];refine⟨by decide,?_⟩;rw[Nat.mod_one];exact h _
theorem mR (x:α):aa0 #[x] 0= #[]:=by simp[aa0]
theorem Ut (p n:Nat):min p n+(n - p)=n:=(aao p n).elim (λh=>ac (Xr h) (XW h)) λh=>ac (Yl h) (ac (Xm h) rfl)
theorem xZ (xs:Array α) (p:Nat) (x:α):(acS xs p x).size=xs.size+1:=by unfold acS;simp;exact(VU _ _ _).trans (congrArg (· +1) (Ut _ _))
set_option tactic.hygienic true in
theorem x6 {Q:Option U2->U7->Prop} (u:s.heap.get? a=UV o) (hs:o.IntSetOf (λk=>[n].contains k) 1)
  (h:∀h' d q t,WS a s.heap h'->h'.get? a=UV q->q.IntSetOf (λk=>([]:List Int).contains k) 0->Q (UV (.int n t)) {s with heap:=h',drawn:=d}):Vf (Vg J w) A (setPop a) Q E s:=by
 refine aN (hs J w) λhex H=>(BG H λD R t v y g F r=>?_)
 have c:t.place.size=1/\t.fill<=t.mask:=by simp only[SetTable.fits,VO,beq_iff_eq,decide_eq_true_eq] at r;exact⟨ac r.1 (ac F rfl),r.2⟩
 unfold setPop
 refine UZ (wpAny_setState_of u v r ?_)
 dsimp only
 have I:t.popPlace=UV 0:=by
  unfold SetTable.popPlace;refine ac (if_neg (by simp;intro h;rw[h] at c;simp at c)) ?_;dsimp only;split
  ·rename_i h;rw[c.1] at h;congr 1;exact Xm h
  ·rfl
 refine ac I ?_
 dsimp only
 have z:∃x,D= #[x]:=by obtain⟨l⟩:=D;obtain⟨x,rfl⟩:=List.length_eq_one_iff.mp F;exact⟨x,rfl⟩
 obtain⟨⟨f,x⟩,rfl⟩:=z
 have K:∃t,x= .int n t:=by refine aj ((y (f,x) (by simp)).1) λk L b=>?_;obtain⟨t,rfl⟩:=Value.isInt_shape L;have:=(g k).mpr (aA (f, .int k t) (by simp) (acT ..));simp at this;exact⟨t,ac this rfl⟩
 obtain⟨B,rfl⟩:=K
 have i:(t.popped 0).fits 0=UX:=by
  obtain⟨j,G⟩:∃j,t.place= #[j]:=by have C:=c.1;generalize t.place=M at C ⊢;obtain⟨l⟩:=M;obtain⟨x,rfl⟩:=List.length_eq_one_iff.mp C;exact⟨x,rfl⟩
  unfold SetTable.popped SetTable.drop SetTable.fits SetTable.fill;refine ac G ?_;have m:=c.2;unfold SetTable.fill at m;rw[G] at m;simp only[Wh,List.getElem?_cons_zero,mR,xZ];simp at m ⊢;lia
 have p:∀d,Vf (Vg J w) A (storeSet a (aa0 #[(f,aaD n B)] 0) (t.popped 0) >>= λb=>pure (UV (aaD n B))) Q E {s with drawn:=d}:=λd=>by refine UZ (wpAny_storeSet_of u v (U3 ?_) (by rw[mR];exact W2 _));rw[mR];obtain⟨C,m⟩:=SetOf_store (knd:=acm J w) (es':= #[]) (t':=t.popped 0) (S':=λk=>([]:List Int).contains k) u hex v (λe N=>by simp at N) (λk=>by simp) (by decide) i;exact aj m.objOf λq O P=>(h _ d q B (VQ ..) O P.intSetOf)
 refine UZ ?_
 unfold setsByText
 refine UZ (acj (U3 ?_))
 split
 ·exact UZ (At λd=>p d)
 ·refine UZ ?_
  wp_delta
  exact ac (if_neg (by simp)) (U3 (UZ (U3 (p s.drawn))))
end
def MJ (vs:List V):M V:=match vs with
 |[]=>ej (.set []) []
 |_=>fail
noncomputable def pn:O->Option (List Int)
 | .set ns=>UV ns
 |_=>UW
theorem rW {o:O} {r:List Int} (e:pn o=UV r):o= .set r:=by
 induction o with
 |set=>exact congrArg O.set (U0 e)
 |_=>exact nn e
def FU (C:Ec) (y:Vb):M V:=bX (As (kd y C.names)) (getO qB C.fid λl=>cU (lk y l) λv=>asI v λn=>ej (.set [n]) [])
def lD (v:V) (S:St):Bool:=match v with
 | .ref i=>match S.H[i]? with
  |some o=>(pn o).isSome
  |none=>UY
 |_=>UY
def MK (v:V):M Bool:=asR v λi=>getO pn i λns S=>match ns with
  |[]=>UV (UY,S,[])
  |_::r=>UV (UX,S,[(r.length:Int) < 2^62])
def FV (v:V) (n:Vb):M (V×List V):=bX (sq n "pop") (ret (.fk 19,[v]))
noncomputable def ML:List Int->Option Int
 |[n]=>UV n
 |_=>UW
def H6 (vs:List V):M V:=gS vs λv=>asR v λi=>getO pn i λns=>cU (ML ns) λn S=>UV (.int n,⟨S.H.set i (.set []),S.orc⟩,[])
def H7 (op:YV) (k v:V):M V:=match op with
 | .In=>asI k λa=>asR v λi=>getO pn i λns=>bX ns.isEmpty (ret (.bool UY))
 |_=>fail
section
theorem CH (x:SR c fz U H s) (h:H[i]?=UV (.set ns)) (b:U[i]?=UV a):∃o,s.heap.get? a=UV o/\o.IntSetOf (λk=>ns.contains k) ns.length:=by exact x.hr.at h rfl b
theorem qJ {S:St} {o:O} (h:S.H[i]?=UV o) (e:pn o=UV ns) (hi:U[i]?=UV a) (q:U <+:ρ') (x:SR c fz' ρ' S.H s):∃o,s.heap.get? a=UV o/\o.IntSetOf (λk=>ns.contains k) ns.length:=CH x (h.trans (congrArg UV (rW e))) (ai q hi)
theorem FW (b:av fz U vs xs):ae c A fz U (MJ vs) (call (.type "set") xs []) au:=by
 induction vs using VE with
 |nil=>exact b.e0 (ae.run λS K d=>d _ _ _ λg e ρ' s Q h q f y=>call_set_0 λa=>y.new f rfl (intSetOf_fresh a) rfl (Vr _))
 |cons=>exact ae.fail
theorem x7 {Q:Bool->U7->Prop} {d:U6} {o:Xg} {n:Int} {t:ZN} (g:s.heap.get? d=UV o) (hs:o.IntSetOf (λa=>UY) 0)
  (h:∀h' b,WS d s.heap h'->h'.get? d=UV b->b.IntSetOf (λk=>[n].contains k) 1->Q UX {s with heap:=h',toks:=s.toks+1}):Vf (Vg c.prog c.w) A (setAdd d (.int n t)) Q E s:=by
 unfold setAdd
 refine Vo (UZ ((acm c.prog c.w).pyHash (acT ..) ?_))
 refine wpAny_setAddHashed_of (s:={s with toks:=s.toks+1}) (acT ..) rfl ((hs.kind c.prog c.w).setOf g (by decide)) (by decide) λh' e f=>?_
 refine aj f.objOf λb i j=>?_
 refine h h' b e i ?_
 have:(λk=>[n].contains k)=λl=>(UY||decide (l=n)):=by funext k;simp only[List.contains_cons,List.contains_nil,Bool.or_false,Bool.false_or];rw[<-fh]
 exact ac this j.intSetOf
theorem FX (u:aI c C Z U) {y:Vb} (I:ew y=UY) (J:displayRoad k [.Name y py]= .oneByOne) (L:∀h,bv c.KK h->W.kdsCode c.KK Z.code=UX):ae c A fz U (FU C y) (Wq (.Set [.Name y py] k pos) Z) au:=by
 refine ae.run λS K G=>OK.when λM=>OK.getO λo l N w=>OK.opt λv O=>?_;have e:=mI w;subst e;induction v with
 |int n=>
  refine G _ _ _ λH x ρ' s Q kk q f P=>?_;clear G;rw[arm_eval_Set];refine UZ (VL (UZ (W.kds_main f.inK (L _ λp H=>f.hr.fzle _ _ (f.hr.wd p H)) λb=>?_)));refine ac J (W.kds_core (ts:=[Wq (.Name y py) Z >>= λv=>WK pos >>= λd=>pure v]) (by decide) rfl (show(1:Nat)<=30 by decide) rfl λg=>?_);refine aj (gv (qH f (h:=s.heap.push {cls:= .type "set",dict:=UW,data:= .set #[] 0 (.fresh 0 0 g)}) (λb o e=>Vw _ e)) N (ai q u.loc)) λm R T=>?_;refine aj (d6.i_some (aD O (T y))) λz V X=>?_;refine bI X.i_int λt e=>?_;subst e;refine(?_:Vf _ _ ((Wq (.Name y py) Z >>= λv=>WK pos >>= λd=>pure v) >>= λv=>ZO [v] (evalAll []) >>= λr=>pure (v::r)) _ _ _);refine ac (jX I) ?_;refine UZ (UZ (UZ (VL (WD u.kind (((by rw[fK];refine aD u.names ?_;rfl:Z.kindOf y=kd y C.names)).trans (vU M)) R V ?_))));refine UZ (VL (U3 (UZ (Vo (U3 (U3 ?_))))));refine W.kds_fill_cons (x7 (c:=c) (VV _ rfl) (intSetOf_fresh g) λY o' B D E=>W.kds_fill_nil (by decide) ?_);have F:=f.hr.exts (λb o e=>(B.2 b (aal (Wc e))).trans (Vw _ e):Le s.heap Y) [s.heap.objs.size] [.set [n]] rfl (by simp) (λa j=>Ve (List.mem_singleton.mp j).symm) (λi a o j ho=>by
   cases i with
   |zero=>obtain rfl:=U0 j;obtain rfl:=U0 ho;exact⟨rfl,o',D,E⟩
   |succ i=>exact nn j)
  exact P x _ _ _ (Le.refl _) (Vn _ _) (f.ta F) (.ref (bj f.hr.len.symm))
 |_=>exact Vd
theorem tQ:Yq (.type "set") "__bool__"=pure UW:=by rw[acw];refine ac aaX ?_;rfl'
theorem yK {Q:Bool->U7->Prop} {o:Xg} {S:Int->Bool} {n:Nat} (g:s.heap.get? a=UV o) (hs:o.IntSetOf S n) (p:(n:Int) < 2^63)
  (h:Q ((n:Int)!=0) {s with toks:=s.toks+1+1}):Vf (Vg c.prog c.w) A (YW (.ref a)) Q E s:=by
 refine aN (hs c.prog c.w) λhex q=>(BG q λB C t u v i d x=>?_)
 have j:s.TypeIs (.ref a) "set":=(aA o g hex.1)
 unfold YW
 refine UZ (m:=ZP (.ref a) (WL "__bool__")) (UZ (Xa j tQ (U3 ?_)))
 refine UZ (Xa j PySem.F.slot_set_len.lookup ?_)
 refine(?_:Vf _ _ (runValue (.builtin "len" ⟨[.ref a],[]⟩) >>= _) _ _ _)
 refine UZ (wpAny_runValue (ZI entry_len ?_))
 refine(Xo plain_len _).symm▸(VF (wpAny_len_body_set g hex u x ((d).symm▸p) (Q:=λr k=>match r with| .int n _=>Q (n !=0) k|_=>False) ((d).symm▸h)) (λy k z=>?_) λb b e=>e)
 refine aj z λr f l=>(ac f ?_)
 cases r<;>first|exact l.elim|exact U3 l
theorem FY {x:U2} (l:VR fz U v x):ae c A fz U (MK v) (YW x) gP:=by
 refine(ae.asR (t:=YW) l ?_:);refine λi a g=>ae.run λS K h=>OK.getO λo ns j d=>?_;induction ns using VE with
 |nil=>exact h _ _ _ λk e ρ' s Q n q b y=>aj (qJ j d g q b) λo d f=>yK d f (by decide) (y.at (b.tb b.hr) rfl)
 |cons m r=>exact h _ _ _ λk e ρ' s Q n q b y=>aj (qJ j d g q b) λo d f=>yK d f (by have:=k.1;refine ac VB ?_;lia) (y.at (b.tb b.hr) (by refine(?_:UX=_);refine ac VB ?_;exact(bne_iff_ne.mpr (by lia)).symm))
theorem CI {S:St} (hs:lD v S=UX):∃i ns,v= .ref i/\S.H[i]?=UV (.set ns):=by
 induction v with
 |ref i=>
  have hs:(match S.H[i]? with|some o=>(pn o).isSome|none=>UY)=UX:=hs;induction a:S.H[i]? with
  |none=>rw[a] at hs;exact ff hs
  |some o=>rw[a] at hs;exact bI (Option.isSome_iff_exists.mp hs) λns e=>⟨i,ns,rfl,a.trans (congrArg UV (rW e))⟩
 |_=>exact ff hs
theorem FZ {x:U2} {n:Vb} (j:VR fz U v x) {S:St} {K:V×List V->St->List Prop->Prop} (k:∀a S' p,rA c A fz U (W0 x n pl) o6 S a S' p->K a S' p) (hs:lD v S=UX):OK (FV v n S) K:=by
 refine OK.when λh=>k _ _ _ λt l ρ' s Q u q d y=>?_;refine aG (CI hs) λi ns e m=>?_;subst e;refine j.e_ref λa f=>?_;have e:=bS.mp h;refine ac e ?_;exact aj (CH d m (ai q f)) λo g r=>
  have hex:=(r c.prog c.w).1
  Y5 (T:="set") (aA o g hex.1) PySem.F.plainAttrs_set acz PySem.F.type_set_pop (λb e=>aau e▸(aA o g hex.2.1)) (y.at d ⟨.fk 19, .cons (.ref (ai q f)) .nil⟩)
theorem Kd {l:List Int} {n:Int} (e:ML l=UV n):l=[n]:=by
 rcases l with _|⟨a,_|_⟩
 ·exact nn e
 ·exact congrArg (· ::[]) (U0 e)
 ·exact nn e
theorem F0 (r:av fz U vs xs):ae c A fz U (H6 vs) (call (.builtin "set.pop") xs []) au:=by
 refine(ae.call1 (t:=λxs=>call (.builtin "set.pop") xs []) r ?_:);intro v x u;refine(ae.asR (t:=λx=>call (.builtin "set.pop") [x] []) u ?_:);refine λi a k=>ae.run λS K z=>OK.getO λo ns l b=>OK.opt λn B=>z _ _ _ λD C ρ' s Q E q f y=>?_;have e:=Kd B;subst e;refine aj (qJ l b k q f) λo m p=>(Xn acz (aA o m ((p c.prog c.w).1.1)) PySem.F.entry_set_pop ?_ (PySem.F.args_set_pop_1 _))
 refine(?_:Vf _ _ (setPop a >>= _) _ _ s);exact UZ (x6 m p λG d H t g h j=>U3 (aA _ rfl (y.at (f.tz (f.hr.upd (l.trans (congrArg UV (rW b))) rfl (ai q k) g h j)) (.int _ _))))
theorem CJ {k:V} {x:U2} (f:VR fz U k x) (g:VR fz U v y):ae c A fz U (H7 op k v) (WZ op x y) au:=by
 induction op with
 |In=>refine(ae.asI (t:=(WZ .In · y)) f ?_:);intro n t;refine(ae.asR (t:=WZ .In (.int n t)) g ?_:);exact λi a h=>ae.run λS K j=>OK.getO λo ns l b=>OK.when λm=>j _ _ _ λB p ρ' s Q C q d r=>by have e:=List.isEmpty_iff.mp m;subst e;exact aj (qJ l b h q d) λo u z=>wpAny_inSet_of (knd:=acm c.prog c.w) (acT ..) rfl ((z.kind c.prog c.w).setOf u (by decide)) (r.at (d.ta d.hr) (.bool _))
 |_=>exact ae.fail
end
end
end
section
def Au (F:bP) (v:Vs) (y z:Vb):M V:=bnd (F.ev v) λa=>asS a λx=>dW (.str (abM x y z)) (x.length<=1048576)
section
theorem F1 (G:bM c A C Z fz U) (o:bG c A C Z F) {v:Vs} {y z:Vb} {f g:Nat} (q:fD v=UY) (r:qj ap pos [.Constant (.str y) f p1, .Constant (.str z) g p2]=UX) (i:(y==z)=UY) (hz:z.length<=14):
  ae c A fz U (Au F v y z) (Wq (.Call (.Attribute v "replace" ap) [.Constant (.str y) f p1, .Constant (.str z) g p2] [] pos) Z) au:=by
 refine ac (jl q r) (ae.bind (o.ev _ _ G v) λI J a x L M u=>ae.stand ?_)
 induction a with
 |str x=>
  refine u.e_str λt=>ae.run λS K B=>B _ _ _ λD d ρ' s Q k p e E=>?_;refine UZ (Vo (qv (by decide+kernel:cT "replace" j0=UV 14) ?_));dsimp only;unfold Y1;have j:∀l:List U2->U7->Prop,l [.str y s.toks, .str z (s.toks+1)] {s with toks:=s.toks+1+1}->
    Vf (Vg c.prog c.w) A (abc (XU pos (WO [.Constant (.str y) f p1, .Constant (.str z) g p2] Z))) l bE s:=λl h=>by
   refine(?_:Vf _ _ (abc [(UY,constValue Z (.str y)),(UY,constValue Z (.str z))]) _ _ _)
   unfold abc
   refine UZ (Y0 (UZ (U3 (UZ (Vo ?_)))))
   unfold abc
   exact UZ (Y0 (UZ (U3 (UZ (Vo (U3 (U3 (U3 h))))))))
  refine UZ (Vo (de rfl (j _ ?_)));refine UZ (VL ?_);refine dL (c:=c) (A:=A) (fz:=d) (U:=ρ') (m:=dW (.str (abM x y z)) True) (id:="str.replace") (xs:=[.str x t, .str y s.toks, .str z (s.toks+1)]) (k:=2) ?_ S _ _ _ rfl ⟨trivial,trivial⟩ d ρ' _ Q (Le.refl _) (U4 _) ⟨e.hr,e.os,e.bare,by show 1<=s.toks+1+1;lia⟩ E;exact ae.lift rfl λN Q h H=>SC.replaceW (YN (e.tk)) (Nat.succ_ne_zero _) (aal (Z8 _)) i (D.1:x.length<=1048576) hz λO P=>H _ _ λb b b b=> .str _ _
 |_=>exact ae.fail
end
end
section
open AutoSeq1 (wpAny_loadPart')
theorem x8 (l:U6) (items:Array U2) (n:Nat) (x:U2) (j:Nat) (p:j < items.size) (b:items.size<=U9) (k:Nat):∀i:Nat,i+k=j->Meets (Builtin.«list.remove.loop» ⟨[.ref l,x,WM i],[]⟩)
  (λA R s=>s.heap.get? l=UV {cls:= .type "list",dict:=UW,data:= .seq items n,slots:= #[]}/\(∀m (u:m < items.size),m<=j->adi A.in1 s items[m] x (decide (m=j)))/\R (.ok (.ret .none)) {s with heap:=s.heap.update l (Xj λxs=>xs.eraseIdxIfInBounds j)}):=by
 induction k with
 |zero=>
  intro i f J w A R s ⟨a,e,h⟩;obtain rfl:i=j:=f;obtain⟨q,g,d,r,os⟩:=s
  wp_walk using aaS a
  refine ac (show items[((i:Nat):Int).toNat]?=UV items[i] by simp[p]) (UZ (e i p (Vr _) J w _ _ ?_));refine ac (decide_eq_true rfl) ?_;have o:(items.eraseIdxIfInBounds i).size<=U9+1:=U1 (MeetsSeq.size_erased items _) (abl b)
  wp_walk using (ZH a rfl (hz:=b) (_hz':=o)),aaS a
  simpa using h
 |succ k t=>
  intro i f J w A R s ⟨a,e,h⟩;obtain⟨q,g,d,r,os⟩:=s;have c:i < items.size:=by lia
  wp_walk using aaS a
  refine ac (show items[((i:Nat):Int).toNat]?=UV items[i] by simp[c]) (UZ (e i c (U1 (Vm _ _) (Ve f)) J w _ _ ?_));refine ac (decide_eq_false (show¬i=j by lia)) ?_
  wp_walk
  refine(show((i:Int)+1)=((i+1:Nat):Int) by push_cast;rfl).symm▸ ?_;refine⟨plainId_quiet XR _,ZI abw ?_⟩;exact ac (Xo XR _) (t (i+1) (by lia) J w A R _ ⟨a,e,h⟩)
theorem vW (l:U6) (items:Array U2) (n:Nat) (x:U2) (j:Nat) (c:j < items.size) (a:items.size<=U9):Meets (Builtin.«list.remove» ⟨[.ref l,x],[]⟩)
  (λA R s=>s.heap.get? l=UV {cls:= .type "list",dict:=UW,data:= .seq items n,slots:= #[]}/\(∀m (f:m < items.size),m<=j->adi A.in1 s items[m] x (decide (m=j)))/\R (.ok (.ret .none)) {s with heap:=s.heap.update l (Xj λxs=>xs.eraseIdxIfInBounds j)}):=by
 intro J w A R s ⟨b,e,h⟩
 obtain⟨i,g,d,k,os⟩:=s
 wp_walk using aaS b
 refine⟨plainId_quiet XR _,ZI abw ?_⟩
 exact(Xo XR _).symm▸(x8 l items n x j c a j 0 (Wi _ _) J w A R _ ⟨b,e,h⟩)
def rX (n:Int) (c:List Int):D->Bool
 | .tup [.int m, .ints e]=>decide (m=n)&&eO e c
 |_=>UY
def mS (n:Int) (c:List Int):List D->List D
 |[]=>[]
 |d::r=>match rX n c d with
  |true=>r
  |false=>d::mS n c r
def Av (n:Int) (c:List Int) (ds:List D):Prop:=(∀d∈ds,∃m e,d= .tup [.int m, .ints e])/\(∃d∈ds,rX n c d=UX)/\ds.length<=1000
noncomputable def H8:O->Option (Int×List Int)
 | .tup [.int n, .dat (.ints c)]=>UV (n,c)
 |_=>UW
theorem Aw {r:Int×List Int} (h:H8 o=UV r):o= .tup [.int r.1, .dat (.ints r.2)]:=by
 induction o with
 |tup vs=>
  rcases vs with _|⟨a,vs⟩
  ·exact nn h
  ·induction a with
   |int n=>
    rcases vs with _|⟨b,vs⟩
    ·exact nn h
    ·induction b with
     |dat d=>induction d using Mine.Internal.D.casesOn with
      |«ints» l=>induction vs using VE with
       |nil=>exact aD (U0 h) rfl
       |cons=>exact nn h
      |_=>exact nn h
     |_=>exact nn h
   |_=>exact nn h
 |_=>exact nn h
noncomputable def H9:O->Option (List D)
 | .dats ds=>UV ds
 |_=>UW
theorem F2 {r:List D} (e:H9 o=UV r):o= .dats r:=by
 induction o with
 |«dats»=>exact congrArg O.dats (U0 e)
 |_=>exact nn e
def MM (vs:List V):M V:=mD vs λv w=>asR v λi=>asR w λj=>getO H9 i λds=>getO H8 j λr S=>UV (.none,⟨S.H.set i (.dats (mS r.1 r.2 ds)),S.orc⟩,[Av r.1 r.2 ds])
section
theorem MN (n:Int) (cs:List Int) :(∃d∈ds,rX n cs d=UX)->∃j,j < ds.length/\mS n cs ds=ds.eraseIdx j/\∀m d,ds[m]?=UV d->m<=j->rX n cs d=decide (m=j):=by
 induction ds with
 |nil=>exact λh=>h.elim λd h=>nomatch h.1
 |cons d r f=>
  intro h;refine(?_:∃j,_/\(match rX n cs d with|true=>r|false=>d::mS n cs r)=_/\_);induction c:rX n cs d with
  |true=>refine(cE 0 (Wv _) rfl (λm e a b=>?_));have b:=Nat.le_zero.mp b;subst b;exact aD (U0 a) c
  |false=>
   refine ca (f (h.elim λe a=>(List.mem_cons.mp a.1).elim (λq=>ff (c.symm.trans (aD q a.2))) λq=>(aA e q a.2))) λj g i k=>(cE (j+1) (abD g) (congrArg (d::·) i) (λm e a b=>?_))
   cases m with
   |zero=>exact aD (U0 a) c
   |succ m=>exact(k m e a (XK b)).trans (decide_eq_decide.mpr Nat.succ_inj.symm)
theorem cb.erase:∀{xs:List U2} (j:Nat),cb g ds xs->cb g (ds.eraseIdx j) (xs.eraseIdx j):=by
 induction ds with
 |nil=>exact λj h=>h.i0.symm▸ .nil
 |cons d r c=>exact λj h=>h.ec λx u a b=>WC j b λj=> .cons a (c j b)
theorem cb.at:∀{xs:List U2} {m:Nat} {x:U2},cb g ds xs->xs[m]?=UV x->∃d,ds[m]?=UV d/\DR g d x:=by
 induction ds with
 |nil=>exact λh e=>nn ((congrArg (λl:List U2=>l[_]?) h.i0).symm.trans e)
 |cons d r c=>
  intro xs m x h;exact h.ec λy u a b e=>by
   cases m with
   |zero=>exact(aA d rfl (U0 e▸a))
   |succ m=>exact c b e
theorem oP (n:Int) (e:List Int):VP (.tuple [.int n, .list (e.map .int)])=UX:=by
 have a:=aaa (PySem.W.ke_shaped_ints e);dsimp only[VP];rw[VO];refine⟨?_,decide_eq_true ?_⟩
 ·simp only[Zw,YD,Bool.and_true,Bool.true_and] at a ⊢;exact a
 ·simp only[Z5,Za];exact ac (PySem.W.ke_depthAll e) (by decide)
theorem F3 (x y:List Int):XH (x.map .int) (y.map .int)=eO x y:=zX (λa a=>by rw[Ys,fh]) x y
theorem F4 (m n:Int) (e f:List Int):Ys (.tuple [.int m, .list (e.map .int)]) (.tuple [.int n, .list (f.map .int)])=(decide (m=n)&&eO e f):=by simp only[Ys,XH,F3,Bool.and_true,fh]
theorem qK {n:Nat} {m:Int} {e:List Int} {b:U6} {t:ZN} {vs:List U2} (h1:h.get? a=UV (rz [.int m t, .ref b] n)) (h2:h.get? b=UV (bT vs k)) (c:Wu vs e):∃as,Reads h (.ref a) (.tuple [.int m, .list (e.map .int)]) as:=
 ⟨_, .tuple h1 rfl rfl (.cons (.int _ _) (.cons (.list h2 rfl rfl (qy c)) .nil))⟩
theorem Ke (hu:A.units+100 < cLine) {S:St} {u:U6} {n:Int} {cs:List Int} (hi:ρ'[i]?=UV ia) (v:ρ'[j]?=UV u) (h1:S.H[i]?=UV (.dats ds)) (h2:S.H[j]?=UV (.tup [.int n, .dat (.ints cs)]))
  (N:Av n cs ds) (e:SR c fz' ρ' S.H s) (y:dc c fz' ρ' (S.H.set i (.dats (mS n cs ds))) au .none Q):Vf (Vg c.prog c.w) A (call (.builtin "list.remove") [.ref ia, .ref u] []) Q bE s:=by
 refine b9 N λz B C=>(aj (e.hr.at h1 rfl hi) λob l q=>?_)
 refine aG q λg nn a o=>?_
 subst a
 refine aj (e.hr.at h2 rfl v) λO P q=>(aG q λws mm a h=>?_)
 subst a
 refine ca (MN n cs B) λk D E G=>?_
 have b:g.length=ds.length:=cb.len o
 refine cy h.i2 λI J a g1 K=>?_
 subst a
 obtain⟨t2,rfl⟩:=g1.i_int
 refine gO K.i_dat.i_ints λa3 v3 n3 a R U=>?_
 subst a
 obtain⟨V,W⟩:=qK P (e.hr.fzle _ _ R) U
 clear h g1 K h2 v
 refine YM PySem.F.slot_list_remove (T:="list") (aA _ l rfl) PySem.F.entry_list_remove (PySem.F.args_list_remove_2 _ _) (vW ia g.toArray nn _ k (ac VH (ac b D)) (ac VH (ac b (ac VK (U1 C (by decide)))))) ⟨l,λm p r=>?_,?_⟩
 ·simp only[VH] at p;refine aj (cb.at (x:=g[m]) o (VG p)) λd t L=>?_;refine p9 (z d (WX t)) λX Y a=>?_;subst a;refine aD (G m _ t r) (?_:adi _ _ g[m] _ _);generalize g[m]=um at L ⊢;clear y o l D E G t z B C h1;refine gO L.i_tup λb1 Z n1 a w1 w2=>(ac a ?_)
  refine cy w2.ic λy1 q1 a I w3=>?_;subst a;obtain⟨t1,rfl⟩:=I.i_int;refine cy w3.ic λy2 q2 a J w4=>?_;subst a;obtain rfl:=w4.i0;refine gO J.i_ints λb3 a0 n4 a z3 z4=>?_;subst a;obtain⟨a1,R1⟩:=qK (e.hr.fzle _ _ w1) (e.hr.fzle _ _ z3) z4;have M:=oP X Y;have:=SeqAt.eqAt_reads _ _ A.in1 s _ _ _ _ R1 W (aaa M) (aaa (oP n cs)) (SeqAt.room_of_shaped M (by show A.units+1+64 < _;lia));simp only[F4] at this;exact this
 ·obtain⟨m,p⟩:=kD (f:=λxs=>xs.eraseIdxIfInBounds k) (vs':=g.eraseIdx k) l (by
   simp[Yp];lia)
  exact y fz' ρ' _ _ (Le.refl _) (U4 _) (e.tz (e.hr.upd h1 rfl hi (VQ ..) p (bL _ m rfl ((E).symm▸(cb.erase k o))))) .none
theorem Kf (d:A.units+100 < cLine) (e:av fz U vs xs):ae c A fz U (MM vs) (call (.builtin "list.remove") xs []) au:=by refine(ae.call2 (t:=λxs=>call (.builtin "list.remove") xs []) e ?_:);intro v w x y f g;refine(ae.asR (t:=λx=>call (.builtin "list.remove") [x,y] []) f ?_:);intro i h k;refine(ae.asR (t:=λy=>call (.builtin "list.remove") [.ref h,y] []) g ?_:);exact λj C l=>ae.run λS K m=>OK.getO λo ds n a=>OK.getO λD r p b=>m _ _ _ λu z ρ' s Q E q B y=>Ke d (ai q k) (ai q l) (n.trans (congrArg UV (F2 a))) (p.trans (congrArg UV (Aw b))) u.1 B y
end
end
section
def Ax (T:bC) (CL:List aV) (v:V):M Bool:=λS=>match lD v S with
 |true=>MK v S
 |false=>Mv T CL v S
def F5 (P:Va) (CL:List aV) (v k:V):M V:=λS=>match nN v S with
 |true=>Mz P CL v k S
 |false=>MH P v k S
def RF (op:YV) (a b:V):M V:=λS=>match lD b S with
 |true=>H7 op a b S
 |false=>Mi op a b S
def RG (CL:List aV) (v:V) (n:Vb):M (V×List V):=λS=>match lD v S with
 |true=>FV v n S
 |false=>z6 CL v n S
def Q6:List V->M V:=λa=>fail
def Q7 (P:Va) (T:bC) (CL:List aV) (NM:List Vb):List (List V->M V):=[(gS · (Mt T CL)),LV,LW,Ca,(gS · (Mu T CL)),LY,H5 P,MJ,My P CL,L7,MM,Cc,Cd,yr,Q6,CC NM,HU,Ce,HV,H6]
noncomputable def Q8 (P:Va) (T:bC) (CL:List aV) (NM:List Vb) (k:Nat) (vs:List V):M V:=(Q7 P T CL NM).getD k Q6 vs
def RH (P:Va) (T:bC) (CL:List aV) (NM:List Vb) (clo:Nat->List V->M V) (f:V) (vs:List V):M V:=match f with
 | .fk k=>Q8 P T CL NM k vs
 | .con (.ref a)=>match oN a T with
  |some m=>m vs
  |none=>fail
 | .ref n=>clo n vs
 |_=>fail
def MO (T:bC) (CL:List aV) (op:UnaryOp) (v:V):M V:=match op with
 | .Not=>bnd (Ax T CL v) λb=>ret (.bool (!b))
 |op=>Mb op v
def F6 (P:Va) (T:bC) (CL:List aV) (NM:List Vb) (clo:Nat->List V->M V):dU:=
 {bin:=Mf,iop:=Mg,cmp:=RF,tru:=Ax T CL,una:=MO T CL,idx:=F5 P CL,sli:=MA CL,gti:=vn P,sit:=MG P,ssl:=MC CL,att:=Mj CL,sat:=Mk CL,mth:=RG CL,
  cal:=RH P T CL NM clo,iter:=zT,nxt:=EL,unp:=MF}
def aZ (P:Va) (T:bC) (CL:List aV) (NM:List Vb) (glob:List (Vb×GV)) (N:Nat):Nat->dU
 |0=>F6 P T CL NM λa a=>fail
 |k+1=>F6 P T CL NM (Ex glob (aE (aZ P T CL NM glob N k) N))
section
theorem aP.le {n m:Nat} (x:aP n A) (h:m<=n):aP m A:=⟨by have:=x.depth;lia,by have:=x.units;exact Vl (Vt (WF (aaY 10 h) _) _) this,x.handled⟩
theorem Kg {T:bC} (d:aP (lev+1) A) (h:cI c.g) (e:eG c.KK CL) (f:∀A,aP lev A->ki c A T) {n:Nat} (b:av fz U vs xs):ae c A fz U (Q8 c.w.params T CL NM k vs) (ci n (FN k) xs) au:=
 TB.get (R:=λ(m:List V->M V) F=>∀{vs xs},av fz U vs xs->ae c A fz U (m vs) (ci n F xs) au) (λa=>ae.fail) (x:=Q7 c.w.params T CL NM) (y:=QW)
  ⟨λb=>dL (ae.call1 (t:=λxs=>call (.builtin "len") xs []) b λa a=>FA e (f _ d.in1)),λb=>dL (JF d.handled b),λb=>dL (JG d.handled b),λb=>mB (Cb b),
   λb=>mB (ae.call1 (t:=λxs=>call (.type "str") xs []) b λa a=>FB e (f _ d.in2) (by have:=d.units;lia)),λb=>mB (JI b),λb=>mB (CG d.handled h b),λb=>mB (FW b),λb=>dL (FE e b),λb=>dL (JO b),
   λb=>dL (Kf (by have:=d.units;lia) b),λb=>dL (Ci b),λb=>dL (Ck b),λb=>dL (zV b),λa=>ae.fail,λb=>dL (CD b),λb=>dL (EU b),λb=>dL (Cm b),λb=>dL (EV b),λb=>dL (F0 b),trivial⟩ k b
theorem vX {T:bC} (d:aP (lev+1) A) (e:eG c.KK CL) (f:∀A,aP lev A->ki c A T) {a:V} {x:U2} (b:VR fz U a x):ae c A fz U (Ax T CL a) (YW x) gP:=ae.alt (FY b) (FC e (f _ d.in1) b)
theorem F7 {T:bC} (g:aP (lev+1) A) (h:eG c.KK CL) (i:∀A,aP lev A->ki c A T) {op:UnaryOp} {a:V} {x:U2} (e:VR fz U a x):ae c A fz U (MO T CL op a) (unaryOp op x) au:=by
 induction op with
 |Not=>refine(?_:ae c A fz U (bnd (Ax T CL a) λb=>ret (.bool (!b))) (ZO [x] (YW x >>= λb=>pure (adj (!b)))) au);refine ae.holding (ae.bind (vX g h i e) λf r b y k q j=>?_);exact ac (j:b=y) (ae.ret λd d d d=>VR.bool _)
 |Invert=>exact rM (op:= .Invert) e
 |UAdd=>exact rM (op:= .UAdd) e
 |USub=>exact rM (op:= .USub) e
theorem yL {T:bC} (C:aP (lev+1) A) (Z:cI c.g) (B:eG c.KK CL) (F:∀A,aP lev A->ki c A T) {clo:Nat->List V->M V}
  (D:∀fz U n f k vs xs,U[n]?=UV f->av fz U vs xs->ae c A fz U (clo n vs) (ci k (.ref f) xs) au):cp c A (F6 c.w.params T CL NM clo) where
 bin:=λfz U op a b x y d o=>JX d o
 iop:=λfz U op a b x y d o=>JY d o
 cmp:=λfz U op a b x y d o=>ae.alt (CJ d o) (JZ (by have:=C.units;lia) d o)
 tru:=λfz U a x d=>vX C B F d
 una:=λfz U op a x d=>F7 C B F d
 idx:=λfz U q G a b x y Q d o=>ae.alt (FF B d o Q) (FQ d o Q)
 sli:=λfz U q lo hi p I a l h x y z d J L=>FH B d J L
 gti:=λfz U a b x y d o=>Jz (P:=c.w.params) d o
 sit:=λfz U a b v x y z d o t=>FP d o t
 ssl:=λfz U I a l h v x y z u d J L t=>FJ B d J L t
 att:=λfz U q n a x d=>J2 B.ok d
 sat:=λfz U n a v x z d t=>J3 B.ok d t
 mth:=λfz U n a x pl d=>ae.run λS K R=>by
  refine(?_:OK (match lD a S with|true=>FV a n S|false=>z6 CL a n S) K);induction h:lD a S with
  |true=>exact FZ d R h
  |false=>exact OK.got λr S' p e=>R _ _ _ (Fe B.ok d S r S' p e)
 cal:=λfz U k f vs xf xs hf t=>by
  cases hf with
  |fk j=>exact Kg C Z B F t
  |con v=>
   cases xf with
   |ref a=>
    refine(?_:ae c A fz U (match oN a T with|some m=>m vs|none=>fail) _ _);cases h:oN a T with
    |none=>exact ae.fail
    |some m=>
     refine aN (F A C.less a m h) λN W=>?_;obtain⟨O,X,E⟩:=N;rcases E with ⟨fd,E⟩|⟨E,h4⟩
     ·exact LJ (λa0 ρ' H s k p Y=>(bL O fd (Y.hr.fzle _ _ (Y.hr.wd (a,O) X)) E)) (W fz U vs xs t)
     ·exact Ka (aA O X E) h4 (W fz U vs xs t)
   |_=>exact ae.fail
  |ref h=>exact D fz U _ _ k vs xs h t
  |_=>exact ae.fail
 iter:=λfz U a x d=>EM d
 nxt:=λfz U i a h=>JE C.handled h
 unp:=λfz U a x n d=>FO C.handled d
theorem nP {T:bC} (e:cI c.g) (i:eG c.KK CL) (l:∀A,aP lev A->ki c A T) (b:eC c.KK glob) (d:∀h,bv c.KK h->h.NoLimit):∀k A,aP (lev+1+k) A->cp c A (aZ c.w.params T CL NM glob N k)
 |0,A,h=>yL h e i l λa a a a a a a a a=>ae.fail
 |k+1,A,h=>yL (h.le (Vm _ _)) e i l λp U n f j vs q m o=>
   Jw b d (by have:=h.depth;exact Vl (Vm _ _) this) (λC Z=>d5 (nP e i l b d k _ (aP.deeper (n:=lev+1+k) h Z)) N C Z) m o
end
noncomputable abbrev pw:=Yy
def cM (n:Nat):VY:=(dg pw.main.body n).getD (.Pass ⟨0,0,0,0⟩)
def dN (n k:Nat):VY:=(dg (cL (cM n)) k).getD (.Pass ⟨0,0,0,0⟩)
noncomputable abbrev en (x:Vb) (t:Nat) (v:U2):Vb×ZN×U2:=(x,t,v)
noncomputable def vY (P:Va) (l:List (Vb×ZN×U2)):List Wg:=l.map λp=>⟨Wb P p.1, .str p.1 p.2.1,p.2.2⟩
def dO (P:Va) (l:List (Vb×ZN×U2)) (n:Nat):Xg:={cls:= .type "dict",data:= .dict (vY P l).toArray n}
def jh (t:VY) (nm q:Vb) (clo:List (Vb×U6)) (a:U2) (b:U2) (code:U6) (c:U2):Vv:=
 {name:=nm,qualname:=q,params:=LA t,body:= .stmts (cL t),scope:=HL t,globals:=3,closure:=clo,defaults:=a,kwdefaults:= .none,doc:= .none,pyModule:=b,annotations:=UW,code:= .ref code,closureTuple:=c,builtins:=0}
noncomputable def fO (fd:Vv):Xg:={cls:= .type "function",data:= .func fd}
noncomputable def cO (vs:List U2):Xg:={cls:= .type "code",data:= .fields vs.toArray}
def cX (n q:Vb) (t:Nat) (l k:Int) (r:Nat) (x y:U2) (u e:Nat):Xg:=cO [.str n t, .str q (t+1), .str "/claim/cut.py" (t+2), .int l 0, .int k 0, .int 0 0, .int 0 0, .int 3 0, .ref r, .bool UX, .int 181 0, .ref (r+1), .none,x,y, .ref u, .int e 0, .int l 0, .str "/claim/cut.py" (e+1)]
def cC (n q:Vb) (t:Nat) (l k:Int) (r e:Nat):Xg:=cX n q t l k r (.ref (r+2)) (.ref (r+3)) (r+4) e
def cN (n q:Vb) (t:Nat) (l k:Int) (r e:Nat):Xg:=cX n q t l k r .none .none (r+2) e
noncomputable def tO (vs:List U2):Xg:={cls:= .type "tuple",data:= .seq vs.toArray 0}
abbrev mT:U2:= .str "cpy313.email.header" 279
abbrev jI:U2:= .str "law_jc0042_01" 508
def oQ (t:VY) (n:Vb) (a:U2) (c:U6):Vv:=jh t n n [] .none a c .none
def kK (t:VY) (n q:Vb) (c:U6):Vv:=jh t n q [] .none mT c .none
def i9:Vv:=jh (cM 3) "_grouping_intervals" "_grouping_intervals" [] .none (.str "cpy313.locale" 194) 27 .none
def Ay:Vv:=jh (cM 4) "_strip_padding" "_strip_padding" [] .none (.str "cpy313.locale" 194) 34 .none
def rY:Vv:=jh (cM 6) "compute_powers" "compute_powers" [] (.ref 36) (.str "cpy313._pylong" 217) 42 .none
def vZ:Vv:=jh (cM 7) "_str_to_int_inner" "_str_to_int_inner" [] .none (.str "cpy313._pylong" 217) 49 .none
def Az:Vv:=jh (cM 8) "int_from_string" "int_from_string" [] .none (.str "cpy313._pylong" 217) 56 .none
def rZ:Vv:=jh (cM 9) "_int2digits" "_int2digits" [] .none (.str "cpy313._pylong" 217) 63 .none
def r8:Vv:=jh (cM 10) "_digits2int" "_digits2int" [] .none (.str "cpy313._pylong" 217) 70 .none
def AA:Vv:=kK (dN 14 0) "__init__" "_ValueFormatter.__init__" 84
def AB:Vv:=kK (dN 14 1) "_str" "_ValueFormatter._str" 91
def RI:Vv:=kK (dN 14 2) "__str__" "_ValueFormatter.__str__" 98
def ub:Vv:=kK (dN 14 3) "newline" "_ValueFormatter.newline" 105
def Pg:Vv:=kK (dN 14 4) "add_transition" "_ValueFormatter.add_transition" 112
def Ph:Vv:=kK (dN 14 5) "feed" "_ValueFormatter.feed" 119
def Pj:Vv:=kK (dN 14 6) "_maxlengths" "_ValueFormatter._maxlengths" 126
def Pk:Vv:=kK (dN 14 7) "_ascii_split" "_ValueFormatter._ascii_split" 133
def uc:Vv:=kK (dN 14 8) "_append_chunk" "_ValueFormatter._append_chunk" 140
def nQ:Vv:=jh (dN 15 0) "__init__" "_Accumulator.__init__" [("__class__",152)] (.ref 157) mT 164 (.ref 158)
def ud:Vv:=kK (dN 15 1) "push" "_Accumulator.push" 171
def ue:Vv:=jh (dN 15 2) "pop_from" "_Accumulator.pop_from" [] (.ref 173) mT 179 .none
def nR:Vv:=jh (dN 15 3) "pop" "_Accumulator.pop" [("__class__",152)] .none mT 187 (.ref 181)
def uf:Vv:=kK (dN 15 4) "__len__" "_Accumulator.__len__" 194
def ug:Vv:=kK (dN 15 5) "__str__" "_Accumulator.__str__" 201
def qL:Vv:=jh (dN 15 6) "reset" "_Accumulator.reset" [] (.ref 203) mT 209 .none
def uh:Vv:=kK (dN 15 7) "is_onlyws" "_Accumulator.is_onlyws" 216
def nS:Vv:=jh (dN 15 8) "part_count" "_Accumulator.part_count" [("__class__",152)] .none mT 224 (.ref 218)
def ui:Vv:=jh (cM 17) "parse_keqv_list" "parse_keqv_list" [] .none (.str "cpy313.urllib.request" 489) 238 .none
def uj:Vv:=jh (cM 18) "parse_http_list" "parse_http_list" [] .none (.str "cpy313.urllib.request" 489) 243 .none
def uk:Vv:=oQ (cM 20) "_law_cells" jI 250
def ul:Vv:=oQ (cM 21) "_law_ruler" jI 257
def uo:Vv:=oQ (cM 22) "_law_sizes" jI 264
def qM:Vv:=oQ (cM 23) "_law_numeral" jI 271
def uq:Vv:=oQ (cM 24) "_law_value" jI 276
def qN:Vv:=oQ (cM 25) "_law_letter" jI 283
def ur:Vv:=oQ (cM 26) "_law_read" jI 290
def qO:Vv:=oQ (cM 27) "_law_taken" jI 295
def qP:Vv:=oQ (cM 28) "_law_day" jI 300
def AC:Vv:=oQ (cM 29) "law" jI 305
def po:List (Vb×ZN×U2):=[en "__name__" 1 (.str "builtins" 160),en "__doc__" 2 (.builtin "builtins.__doc__:str#opaque"),en "__package__" 3 (.builtin "builtins.__package__:str#opaque"),en "__loader__" 4 (.builtin "builtins.__loader__:shared#opaque"),en "__spec__" 5 (.builtin "builtins.__spec__#opaque"),en "__build_class__" 6 (.builtin "__build_class__"),en "__import__" 7 (.builtin "__import__"),en "abs" 8 (.builtin "abs"),en "all" 9 (.builtin "all"),en "any" 10 (.builtin "any"),en "ascii" 11 (.builtin "ascii"),en "bin" 12 (.builtin "bin"),en "breakpoint" 13 (.builtin "breakpoint"),en "callable" 14 (.builtin "callable"),en "chr" 15 (.builtin "chr"),en "compile" 16 (.builtin "compile"),en "delattr" 17 (.builtin "delattr"),en "dir" 18 (.builtin "dir"),en "divmod" 19 (.builtin "divmod"),en "eval" 20 (.builtin "eval"),en "exec" 21 (.builtin "exec"),en "format" 22 (.builtin "format"),en "getattr" 23 (.builtin "getattr"),en "globals" 24 (.builtin "globals"),en "hasattr" 25 (.builtin "hasattr"),en "hash" 26 (.builtin "hash"),en "hex" 27 (.builtin "hex"),en "id" 28 (.builtin "id"),en "input" 29 (.builtin "input"),en "isinstance" 30 (.builtin "isinstance"),en "issubclass" 31 (.builtin "issubclass"),en "iter" 32 (.builtin "iter"),en "aiter" 33 (.builtin "aiter"),en "len" 34 (.builtin "len"),en "locals" 35 (.builtin "locals"),en "max" 36 (.builtin "max"),en "min" 37 (.builtin "min"),en "next" 38 (.builtin "next"),en "anext" 39 (.builtin "anext"),en "oct" 40 (.builtin "oct"),en "ord" 41 (.builtin "ord"),en "pow" 42 (.builtin "pow"),en "print" 43 (.builtin "print"),en "repr" 44 (.builtin "repr"),en "round" 45 (.builtin "round"),en "setattr" 46 (.builtin "setattr"),en "sorted" 47 (.builtin "sorted"),en "sum" 48 (.builtin "sum"),en "vars" 49 (.builtin "vars"),en "None" 50 .none,en "Ellipsis" 51 .ellipsis,en "NotImplemented" 52 .notImplemented,en "False" 53 (.bool UY),en "True" 54 (.bool UX),en "bool" 55 (.type "bool"),en "memoryview" 56 (.type "memoryview"),en "bytearray" 57 (.type "bytearray"),en "bytes" 58 (.type "bytes"),en "classmethod" 59 (.type "classmethod"),en "complex" 60 (.type "complex"),en "dict" 61 (.type "dict"),en "enumerate" 62 (.type "enumerate"),en "filter" 63 (.type "filter"),en "float" 64 (.type "float"),en "frozenset" 65 (.type "frozenset"),en "property" 66 (.type "property"),en "int" 67 (.type "int"),en "list" 68 (.type "list"),en "map" 69 (.type "map"),en "object" 70 (.type "object"),en "range" 71 (.type "range"),en "reversed" 72 (.type "reversed"),en "set" 73 (.type "set"),en "slice" 74 (.type "slice"),en "staticmethod" 75 (.type "staticmethod"),en "str" 76 (.type "str"),en "super" 77 (.type "super"),en "tuple" 78 (.type "tuple"),en "type" 79 (.type "type"),en "zip" 80 (.type "zip"),en "__debug__" 81 (.bool UX),en "BaseException" 82 (.type "BaseException"),en "BaseExceptionGroup" 83 (.type "BaseExceptionGroup"),en "Exception" 84 (.type "Exception"),en "GeneratorExit" 85 (.type "GeneratorExit"),en "KeyboardInterrupt" 86 (.type "KeyboardInterrupt"),en "SystemExit" 87 (.type "SystemExit"),en "ArithmeticError" 88 (.type "ArithmeticError"),en "AssertionError" 89 (.type "AssertionError"),en "AttributeError" 90 (.type "AttributeError"),en "BufferError" 91 (.type "BufferError"),en "EOFError" 92 (.type "EOFError"),en "ImportError" 93 (.type "ImportError"),en "LookupError" 94 (.type "LookupError"),en "MemoryError" 95 (.type "MemoryError"),en "NameError" 96 (.type "NameError"),en "OSError" 97 (.type "OSError"),en "ReferenceError" 98 (.type "ReferenceError"),en "RuntimeError" 99 (.type "RuntimeError"),en "StopAsyncIteration" 100 (.type "StopAsyncIteration"),en "StopIteration" 101 (.type "StopIteration"),en "SyntaxError" 102 (.type "SyntaxError"),en "SystemError" 103 (.type "SystemError"),en "TypeError" 104 (.type "TypeError"),en "ValueError" 105 (.type "ValueError"),en "Warning" 106 (.type "Warning"),en "FloatingPointError" 107 (.type "FloatingPointError"),en "OverflowError" 108 (.type "OverflowError"),en "ZeroDivisionError" 109 (.type "ZeroDivisionError"),en "BytesWarning" 110 (.type "BytesWarning"),en "DeprecationWarning" 111 (.type "DeprecationWarning"),en "EncodingWarning" 112 (.type "EncodingWarning"),en "FutureWarning" 113 (.type "FutureWarning"),en "ImportWarning" 114 (.type "ImportWarning"),en "PendingDeprecationWarning" 115 (.type "PendingDeprecationWarning"),en "ResourceWarning" 116 (.type "ResourceWarning"),en "RuntimeWarning" 117 (.type "RuntimeWarning"),en "SyntaxWarning" 118 (.type "SyntaxWarning"),en "UnicodeWarning" 119 (.type "UnicodeWarning"),en "UserWarning" 120 (.type "UserWarning"),en "BlockingIOError" 121 (.type "BlockingIOError"),en "ChildProcessError" 122 (.type "ChildProcessError"),en "ConnectionError" 123 (.type "ConnectionError"),en "FileExistsError" 124 (.type "FileExistsError"),en "FileNotFoundError" 125 (.type "FileNotFoundError"),en "InterruptedError" 126 (.type "InterruptedError"),en "IsADirectoryError" 127 (.type "IsADirectoryError"),en "NotADirectoryError" 128 (.type "NotADirectoryError"),en "PermissionError" 129 (.type "PermissionError"),en "ProcessLookupError" 130 (.type "ProcessLookupError"),en "TimeoutError" 131 (.type "TimeoutError"),en "IndentationError" 132 (.type "IndentationError"),en "_IncompleteInputError" 133 (.type "_IncompleteInputError"),en "IndexError" 134 (.type "IndexError"),en "KeyError" 135 (.type "KeyError"),en "ModuleNotFoundError" 136 (.type "ModuleNotFoundError"),en "NotImplementedError" 137 (.type "NotImplementedError"),en "PythonFinalizationError" 138 (.type "PythonFinalizationError"),en "RecursionError" 139 (.type "RecursionError"),en "UnboundLocalError" 140 (.type "UnboundLocalError"),en "UnicodeError" 141 (.type "UnicodeError"),en "BrokenPipeError" 142 (.type "BrokenPipeError"),en "ConnectionAbortedError" 143 (.type "ConnectionAbortedError"),en "ConnectionRefusedError" 144 (.type "ConnectionRefusedError"),en "ConnectionResetError" 145 (.type "ConnectionResetError"),en "TabError" 146 (.type "TabError"),en "UnicodeDecodeError" 147 (.type "UnicodeDecodeError"),en "UnicodeEncodeError" 148 (.type "UnicodeEncodeError"),en "UnicodeTranslateError" 149 (.type "UnicodeTranslateError"),en "ExceptionGroup" 150 (.type "ExceptionGroup"),en "EnvironmentError" 151 (.type "OSError"),en "IOError" 152 (.type "OSError"),en "open" 153 (.builtin "open"),en "quit" 154 (.builtin "builtins.quit#opaque"),en "exit" 155 (.builtin "builtins.exit#opaque"),en "copyright" 156 (.builtin "builtins.copyright#opaque"),en "credits" 157 (.builtin "builtins.credits#opaque"),en "license" 158 (.builtin "builtins.license#opaque"),en "help" 159 (.builtin "builtins.help#opaque")]
noncomputable def gW:List (Vb×ZN×U2):=[en "__name__" 165 jI,en "__doc__" 166 .none,en "__package__" 167 .none,en "__loader__" 168 (.builtin "__main__.__loader__#opaque"),en "__spec__" 169 .none,en "__annotations__" 170 (.ref 6),en "__builtins__" 171 (.ref 4),en "__file__" 173 (.str "/claim/cut.py" 172),en "__cached__" 174 .none,en "_wall" 193 (.ref 21),en "CHAR_MAX" 197 (.int 127 196),en "_grouping_intervals" 206 (.ref 28),en "_strip_padding" 216 (.ref 35),en "compute_powers" 238 (.ref 43),en "_str_to_int_inner" 249 (.ref 50),en "int_from_string" 256 (.ref 57),en "_int2digits" 267 (.ref 64),en "_digits2int" 278 (.ref 71),en "NL" 282 (.str "\n" 281),en "EMPTYSTRING" 284 (.str "" 283),en "_ValueFormatter" 392 (.ref 144),en "_Accumulator" 488 (.ref 228),en "parse_keqv_list" 501 (.ref 239),en "parse_http_list" 507 (.ref 244),en "_law_cells" 518 (.ref 251),en "_law_ruler" 528 (.ref 258),en "_law_sizes" 537 (.ref 265),en "_law_numeral" 548 (.ref 272),en "_law_value" 554 (.ref 277),en "_law_letter" 570 (.ref 284),en "_law_read" 589 (.ref 291),en "_law_taken" 595 (.ref 296),en "_law_day" 601 (.ref 301),en "law" 607 (.ref 306)]
def Uu:List (Vb×ZN×U2):=[en "__module__" 292 mT,en "__firstlineno__" 296 (.int 111 295),en "__init__" 307 (.ref 85),en "_str" 315 (.ref 92),en "__str__" 322 (.ref 99),en "newline" 330 (.ref 106),en "add_transition" 337 (.ref 113),en "feed" 347 (.ref 120),en "_maxlengths" 354 (.ref 127),en "_ascii_split" 364 (.ref 134),en "_append_chunk" 378 (.ref 141),en "__static_attributes__" 385 (.ref 142),en "__dict__" 387 (.ref 145),en "__weakref__" 389 (.ref 146),en "__doc__" 390 .none]
def Uv:List (Vb×ZN×U2):=[en "__module__" 400 mT,en "__firstlineno__" 404 (.int 177 403),en "__init__" 414 (.ref 165),en "push" 423 (.ref 172),en "pop_from" 433 (.ref 180),en "pop" 441 (.ref 188),en "__len__" 448 (.ref 195),en "__str__" 455 (.ref 202),en "reset" 463 (.ref 210),en "is_onlyws" 470 (.ref 217),en "part_count" 478 (.ref 225),en "__static_attributes__" 480 (.ref 226),en "__dict__" 483 (.ref 229),en "__weakref__" 485 (.ref 230),en "__doc__" 486 .none]
noncomputable def AE:adu:={name:="_ValueFormatter",bases:=[(.type "object")],mro:=[(.ref 144),(.type "object")],ns:=143,qualname:="_ValueFormatter",hasDict:=UX,slotNames:=[],subclasses:=[],abstract:=UY,collection:=UW,hasDel:=UY}
noncomputable def qQ:adu:={name:="_Accumulator",bases:=[(.type "list")],mro:=[(.ref 228),(.type "list"),(.type "object")],ns:=227,qualname:="_Accumulator",hasDict:=UX,slotNames:=[],subclasses:=[],abstract:=UY,collection:=UW,hasDel:=UY}
def aF (P:Va):List (U6×Xg):=[
 (0,dO P po 159),
 (2,{cls:= .none,dict:=UW,data:=(.dict #[] 0),slots:= #[]}),
 (3,dO P gW 34),
 (4,{cls:=(.type "module"),dict:=(UV 0),data:= .plain,slots:= #[]}),
 (36,tO [(.bool UY)]),
 (157,tO [(.int 0 405)]),
 (173,tO [(.int 0 424)]),
 (203,tO [.none]),
 (143,dO P Uu 4),
 (227,dO P Uv 5),
 (144,{cls:=(.type "type"),dict:=UW,data:=(.cls AE),slots:= #[UW,UW,(UV (.str "_ValueFormatter" 285)),(UV (.str "_ValueFormatter" 293)),(UV (.builtin "object.__new__")),(UV (.bool UX))]}),
 (152,{cls:=(.type "cell"),dict:=UW,data:=(.cell (UV (.ref 228))),slots:= #[]}),
 (228,{cls:=(.type "type"),dict:=UW,data:=(.cls qQ),slots:= #[(UV (.ref 149)),UW,(UV (.str "_Accumulator" 393)),(UV (.str "_Accumulator" 401)),(UV (.builtin "list.__new__")),(UV (.bool UX))]}),
 (27,cO [(.str "_grouping_intervals" 198),(.str "_grouping_intervals" 199),(.str "/claim/cut.py" 200),(.int 6 0),(.int 1 0),(.int 0 0),(.int 0 0),(.int 35 0),(.ref 22),(.bool UX),(.int 181 0),(.ref 23), .none,(.ref 24),(.ref 25),(.ref 26),(.int 204 0),(.int 6 0),(.str "/claim/cut.py" 205)]),
 (28,fO i9),
 (34,cC "_strip_padding" "_strip_padding" 207 18 2 29 214),
 (35,fO Ay),
 (42,cC "compute_powers" "compute_powers" 219 29 4 37 236),
 (43,fO rY),
 (49,cC "_str_to_int_inner" "_str_to_int_inner" 239 70 1 44 247),
 (50,fO vZ),
 (56,cC "int_from_string" "int_from_string" 250 80 1 51 254),
 (57,fO Az),
 (63,cC "_int2digits" "_int2digits" 257 83 2 58 265),
 (64,fO rZ),
 (70,cC "_digits2int" "_digits2int" 268 99 2 65 276),
 (71,fO r8),
 (84,cC "__init__" "_ValueFormatter.__init__" 297 113 5 79 305),
 (85,fO AA),
 (91,cC "_str" "_ValueFormatter._str" 308 121 2 86 313),
 (92,fO AB),
 (98,cC "__str__" "_ValueFormatter.__str__" 316 125 1 93 320),
 (99,fO RI),
 (105,cC "newline" "_ValueFormatter.newline" 323 128 1 100 328),
 (106,fO ub),
 (112,cC "add_transition" "_ValueFormatter.add_transition" 331 139 1 107 335),
 (113,fO Pg),
 (119,cC "feed" "_ValueFormatter.feed" 338 142 4 114 345),
 (120,fO Ph),
 (126,cC "_maxlengths" "_ValueFormatter._maxlengths" 348 145 1 121 352),
 (127,fO Pj),
 (133,cC "_ascii_split" "_ValueFormatter._ascii_split" 355 148 4 128 362),
 (134,fO Pk),
 (140,cC "_append_chunk" "_ValueFormatter._append_chunk" 365 151 3 135 376),
 (141,fO uc),
 (164,cC "__init__" "_Accumulator.__init__" 406 179 2 159 412),
 (165,fO nQ),
 (171,cC "push" "_Accumulator.push" 415 183 3 166 421),
 (172,fO ud),
 (179,cC "pop_from" "_Accumulator.pop_from" 425 186 2 174 431),
 (180,fO ue),
 (187,cC "pop" "_Accumulator.pop" 434 191 1 182 439),
 (188,fO nR),
 (194,cC "__len__" "_Accumulator.__len__" 442 196 1 189 446),
 (195,fO uf),
 (201,cC "__str__" "_Accumulator.__str__" 449 199 1 196 453),
 (202,fO ug),
 (209,cC "reset" "_Accumulator.reset" 456 202 2 204 461),
 (210,fO qL),
 (216,cC "is_onlyws" "_Accumulator.is_onlyws" 464 208 1 211 468),
 (217,fO uh),
 (224,cC "part_count" "_Accumulator.part_count" 471 211 1 219 476),
 (225,fO nS),
 (238,cC "parse_keqv_list" "parse_keqv_list" 491 214 1 233 499),
 (239,fO ui),
 (243,cN "parse_http_list" "parse_http_list" 502 222 1 240 505),
 (244,fO uj),
 (250,cC "_law_cells" "_law_cells" 510 250 1 245 516),
 (251,fO uk),
 (257,cC "_law_ruler" "_law_ruler" 519 255 1 252 526),
 (258,fO ul),
 (264,cC "_law_sizes" "_law_sizes" 529 266 1 259 535),
 (265,fO uo),
 (271,cC "_law_numeral" "_law_numeral" 538 273 2 266 546),
 (272,fO qM),
 (276,cN "_law_value" "_law_value" 549 282 2 273 552),
 (277,fO uq),
 (283,cC "_law_letter" "_law_letter" 555 289 4 278 568),
 (284,fO qN),
 (290,cC "_law_read" "_law_read" 571 305 4 285 587),
 (291,fO ur),
 (295,cN "_law_taken" "_law_taken" 590 322 5 292 593),
 (296,fO qO),
 (300,cN "_law_day" "_law_day" 596 341 4 297 599),
 (301,fO qP),
 (305,cN "law" "law" 602 370 1 302 605),
 (306,fO AC)]
noncomputable def RJ:List U6:=[0,2,3,4,36,157,173,203,143,227,144,152,228,27,28,34,35,42,43,49,50,56,57,63,64,70,71,84,85,91,92,98,99,105,106,112,113,119,120,126,127,133,134,140,141,164,165,171,172,179,180,187,188,194,195,201,202,209,210,216,217,224,225,238,239,243,244,250,251,257,258,264,265,271,272,276,277,283,284,290,291,295,296,300,301,305,306]
end
section
open PySem.W
def dF (t:VY):FT:={params:=(LA t).args.map (·.arg),body:=cL t,scope:=HL t,cn:=mA (HL t).names}
theorem cA {K:List (U6×Xg)} {o:Xg} (h:K.lookup a=UV o):(a,o)∈K:=by
 induction K with
 |nil=>exact nn h
 |cons p r c=>
  rw[Xc] at h;induction b:(a==p.1) with
  |true=>rw[b] at h;exact ac (beq_iff_eq.mp b) (aD (U0 h) (.head _))
  |false=>rw[b] at h;exact .tail _ (c h)
def ut:U2->Option Vb
 | .str q _=>UV q
 |_=>UW
theorem r9 {v:U2} {q:Vb} (h:ut v=UV q):∃t,v= .str q t:=by
 induction v using aaT with
 |str s t=>exact⟨t,congrArg (Value.str · t) (U0 h)⟩
 |_=>exact nn h
def mU (o:Xg):Option (Array U2):=match o.data with
 | .fields vs=>UV vs
 |_=>UW
theorem pq {o:Xg} {vs:Array U2}:mU o=UV vs->o.data= .fields vs:=by
 unfold mU;induction o.data using acD with
 |fields a=>exact λh=>congrArg Data.fields (U0 h)
 |_=>exact nn
noncomputable def Ia (o:Xg):Option Vb:=(mU o).bind λvs=>(vs.toList[1]?).bind ut
theorem kL {K:List (U6×Xg)} {c:U6} {q:Vb} (h1:(K.lookup c).bind Ia=UV q) (h:Vc) (a:bv K h):h.CodeRec (.ref c) q:=by
 exact aj (Option.bind_eq_some_iff.mp h1) λo b d=>aj (Option.bind_eq_some_iff.mp d) λvs e f=>aj (Option.bind_eq_some_iff.mp f) λv g i=>bI (r9 i) λt j=>
  ⟨c,o,vs,t,rfl,a (c,o) (cA b),pq e,Array.getElem?_toList.symm.trans (g.trans (congrArg UV j))⟩
def mV (names:List (Vb×Wk)) (cn:List Vb):List Vb->Bool
 |[]=>UX
 |x::r=>(match kd x names with
  |some .local=>UX
  |some .cell=>iK x cn
  |_=>UY)&&mV names cn r
theorem CM {x:Vb} {l:List Vb} (h:iK x l=UX):x∈l:=by
 induction l with
 |nil=>exact ff h
 |cons y r b=>
  have h:(match sq x y with|true=>UX|false=>iK x r)=UX:=h;induction a:sq x y with
  |true=>exact aD (bS.mp a) (.head _)
  |false=>rw[a] at h;exact .tail _ (b h)
theorem pr {cn:List Vb} {ps:List Vb} (h:mV names cn ps=UX):∀x∈ps,names.lookup x=UV .local∨(names.lookup x=UV .cell/\x∈cn):=by
 induction ps with
 |nil=>exact nofun
 |cons y r d=>
  have h:((match kd y names with|some .local=>UX|some .cell=>iK y cn|_=>UY)&&mV names cn r)=UX:=h;rw[VO,fK] at h;intro x b;rcases List.mem_cons.mp b with rfl|b
  ·have a:=h.1;induction c:names.lookup x with
   |none=>rw[c] at a;exact ff a
   |some k=>
    rw[c] at a;induction k with
    |«local»=>exact .inl rfl
    |cell=>exact .inr ⟨rfl,CM a⟩
    |_=>exact ff a
  ·exact d h.2 x b
theorem AG {l:List α} (h:l.length=1):∃a,l=[a]:=List.length_eq_one_iff.mp h
theorem AH {l:List α} (h:l.length=2):∃a b,l=[a,b]:=by
 induction l using VE with
 |nil=>exact nomatch h
 |cons a l=>exact bI (AG (XA h)) λb e=>(sU a b (congrArg (a::·) e))
theorem pv {l:List α} (h:l.length=3):∃a b c,l=[a,b,c]:=by
 induction l using VE with
 |nil=>exact nomatch h
 |cons a l=>exact p9 (AH (XA h)) λb c e=>Hz a b c (congrArg (a::·) e)
theorem MP {l:List α} (h:l.length=4):∃a b c d,l=[a,b,c,d]:=by
 induction l using VE with
 |nil=>exact nomatch h
 |cons a l=>exact ky (pv (XA h)) λb c d e=>Ui a b c d (congrArg (a::·) e)
theorem RK {l:List α} (h:l.length=5):∃a b c d e,l=[a,b,c,d,e]:=by
 induction l using VE with
 |nil=>exact nomatch h
 |cons a l=>exact qa (MP (XA h)) λb c d e q=>Uj a b c d e (congrArg (a::·) q)
abbrev c9 (P:Va) (fd:Vv) (T:FT):Prop:=∀(s:U7) (xs:List U2),bv (aF P) s.heap->xs.length=T.params.length->Yd s fd ⟨xs,[]⟩ (T.params.zip xs)
section
theorem j5 (e:T.params.length=1) (h:∀s a,bv (aF P) s.heap->Yd s fd ⟨[a],[]⟩ (T.params.zip [a])):c9 P fd T:=λs d b c=>bI (AG (c.trans e)) λa q=>ac q (h s a b)
theorem qR (e:T.params.length=2) (h:∀s a b,bv (aF P) s.heap->Yd s fd ⟨[a,b],[]⟩ (T.params.zip [a,b])):c9 P fd T:=λs f c d=>p9 (AH (d.trans e)) λa b q=>ac q (h s a b c)
theorem Q9 (e:T.params.length=3) (h:∀s a b c,bv (aF P) s.heap->Yd s fd ⟨[a,b,c],[]⟩ (T.params.zip [a,b,c])):c9 P fd T:=λs g d f=>ky (pv (f.trans e)) λa b c q=>ac q (h s a b c d)
theorem Ib (e:T.params.length=4) (h:∀s a b c d,bv (aF P) s.heap->Yd s fd ⟨[a,b,c,d],[]⟩ (T.params.zip [a,b,c,d])):c9 P fd T:=λs i f g=>qa (MP (g.trans e)) λa b c d q=>ac q (h s a b c d f)
theorem Ra (e:T.params.length=5) (h:∀s a b c d e,bv (aF P) s.heap->Yd s fd ⟨[a,b,c,d,e],[]⟩ (T.params.zip [a,b,c,d,e])):c9 P fd T:=λs i f g=>QU (RK (g.trans e)) λa b c d e q=>ac q (h s a b c d e f)
theorem bY (c:U6) {q:Vb} (h1:(aF P).lookup f=UV (fO fd)) (h2:fd.body= .stmts T.body) (b:fd.scope=T.scope) (d:fd.closure=[]) (e:fd.code= .ref c) (g:fd.qualname=q) (i:((aF P).lookup c).bind Ia=UV q) (j:c9 P fd T) (k:mA T.scope.names=T.cn)
  (h:(iT ((XE 0 T.scope.names []).map (·.1))&&(mV T.scope.names T.cn T.params&&(!T.scope.isCoroutine&& !T.scope.isGenerator)))=UX) (a:T.scope.kind= .function):bz (aF P) f fd T:=by
 rw[VO,VO,VO,XV,XV] at h
 exact⟨(aA _ (cA h1) rfl),h2,b,d,λh l=>e▸g▸kL i h l,j,k,mQ h.1,pr h.2.1,h.2.2.1,h.2.2.2,a⟩
end
def F8:FT:=dF (cM 4)
theorem RL:c9 P Ay F8:=qR (by rfl') λa a a a=> .of_eq (by rfl')
theorem MQ:bz (aF P) 35 Ay F8:=bY 34 (by rfl') rfl rfl rfl rfl rfl (by rfl') RL rfl (by rfl') (by rfl')
def gB:FT:=dF (cM 6)
theorem RM:c9 P rY gB:=Ib (by rfl') λa a a a a c=>kp_binds (K:=aF P) (λb o e=>c (b,o) (cA e)) λS=>by rfl'
theorem RN:bz (aF P) 43 rY gB:=bY 42 (by rfl') rfl rfl rfl rfl rfl (by rfl') RM rfl (by rfl') (by rfl')
def kj:FT:=dF (cM 7)
theorem RO:c9 P vZ kj:=j5 (by rfl') λa a a=> .of_eq (by rfl')
theorem MR:bz (aF P) 50 vZ kj:=bY 49 (by rfl') rfl rfl rfl rfl rfl (by rfl') RO rfl (by rfl') (by rfl')
def jJ:FT:=dF (cM 8)
theorem RP:c9 P Az jJ:=j5 (by rfl') λa a a=> .of_eq (by rfl')
theorem MS:bz (aF P) 57 Az jJ:=bY 56 (by rfl') rfl rfl rfl rfl rfl (by rfl') RP rfl (by rfl') (by rfl')
def a9:FT:=dF (cM 9)
theorem RQ:c9 P rZ a9:=qR (by rfl') λa a a a=> .of_eq (by rfl')
theorem MT:bz (aF P) 64 rZ a9:=bY 63 (by rfl') rfl rfl rfl rfl rfl (by rfl') RQ rfl (by rfl') (by rfl')
def gX:FT:=dF (cM 10)
theorem RR:c9 P r8 gX:=qR (by rfl') λa a a a=> .of_eq (by rfl')
theorem AI:bz (aF P) 71 r8 gX:=bY 70 (by rfl') rfl rfl rfl rfl rfl (by rfl') RR rfl (by rfl') (by rfl')
def v4:FT:=dF (dN 14 0)
theorem RS:c9 P AA v4:=Ra (by rfl') λa a a a a a a=> .of_eq (by rfl')
theorem RT:bz (aF P) 85 AA v4:=bY 84 (by rfl') rfl rfl rfl rfl rfl (by rfl') RS rfl (by rfl') (by rfl')
def F9:FT:=dF (dN 14 1)
theorem RU:c9 P AB F9:=qR (by rfl') λa a a a=> .of_eq (by rfl')
theorem RV:bz (aF P) 92 AB F9:=bY 91 (by rfl') rfl rfl rfl rfl rfl (by rfl') RU rfl (by rfl') (by rfl')
def nT:FT:=dF (dN 14 3)
theorem Pl:c9 P ub nT:=j5 (by rfl') λa a a=> .of_eq (by rfl')
theorem Pm:bz (aF P) 106 ub nT:=bY 105 (by rfl') rfl rfl rfl rfl rfl (by rfl') Pl rfl (by rfl') (by rfl')
def AJ:FT:=dF (dN 14 8)
theorem Pn:c9 P uc AJ:=Q9 (by rfl') λa a a a a=> .of_eq (by rfl')
theorem Po:bz (aF P) 141 uc AJ:=bY 140 (by rfl') rfl rfl rfl rfl rfl (by rfl') Pn rfl (by rfl') (by rfl')
def eU:FT:=dF (dN 15 0)
theorem Pp:c9 P nQ eU:=qR (by rfl') λa a a c=>kp_binds (K:=aF P) (λb o e=>c (b,o) (cA e)) λS=>by rfl'
def AK:FT:=dF (dN 15 1)
theorem Pq:c9 P ud AK:=Q9 (by rfl') λa a a a a=> .of_eq (by rfl')
theorem Pr:bz (aF P) 172 ud AK:=bY 171 (by rfl') rfl rfl rfl rfl rfl (by rfl') Pq rfl (by rfl') (by rfl')
def AL:FT:=dF (dN 15 2)
theorem Ps:c9 P ue AL:=qR (by rfl') λa a a c=>kp_binds (K:=aF P) (λb o e=>c (b,o) (cA e)) λS=>by rfl'
theorem Pu:bz (aF P) 180 ue AL:=bY 179 (by rfl') rfl rfl rfl rfl rfl (by rfl') Ps rfl (by rfl') (by rfl')
def gf:FT:=dF (dN 15 3)
theorem Pv:c9 P nR gf:=j5 (by rfl') λa a a=> .of_eq (by rfl')
def iL:FT:=dF (dN 15 4)
theorem Pw:c9 P uf iL:=j5 (by rfl') λa a a=> .of_eq (by rfl')
theorem Px:bz (aF P) 195 uf iL:=bY 194 (by rfl') rfl rfl rfl rfl rfl (by rfl') Pw rfl (by rfl') (by rfl')
def iM:FT:=dF (dN 15 5)
theorem Py:c9 P ug iM:=j5 (by rfl') λa a a=> .of_eq (by rfl')
theorem Pz:bz (aF P) 202 ug iM:=bY 201 (by rfl') rfl rfl rfl rfl rfl (by rfl') Py rfl (by rfl') (by rfl')
def lE:FT:=dF (dN 15 6)
theorem PA:c9 P qL lE:=qR (by rfl') λa a a c=>kp_binds (K:=aF P) (λb o e=>c (b,o) (cA e)) λS=>by rfl'
theorem Ic:bz (aF P) 210 qL lE:=bY 209 (by rfl') rfl rfl rfl rfl rfl (by rfl') PA rfl (by rfl') (by rfl')
def AM:FT:=dF (dN 15 7)
theorem PB:c9 P uh AM:=j5 (by rfl') λa a a=> .of_eq (by rfl')
theorem PC:bz (aF P) 217 uh AM:=bY 216 (by rfl') rfl rfl rfl rfl rfl (by rfl') PB rfl (by rfl') (by rfl')
def jo:FT:=dF (dN 15 8)
theorem PD:c9 P nS jo:=j5 (by rfl') λa a a=> .of_eq (by rfl')
def AN:FT:=dF (cM 17)
theorem PE:c9 P ui AN:=j5 (by rfl') λa a a=> .of_eq (by rfl')
theorem Ie:bz (aF P) 239 ui AN:=bY 238 (by rfl') rfl rfl rfl rfl rfl (by rfl') PE rfl (by rfl') (by rfl')
def dv:FT:=dF (cM 18)
theorem PF:c9 P uj dv:=j5 (by rfl') λa a a=> .of_eq (by rfl')
theorem Ig:bz (aF P) 244 uj dv:=bY 243 (by rfl') rfl rfl rfl rfl rfl (by rfl') PF rfl (by rfl') (by rfl')
def fL:FT:=dF (cM 20)
theorem PH:c9 P uk fL:=j5 (by rfl') λa a a=> .of_eq (by rfl')
theorem Ih:bz (aF P) 251 uk fL:=bY 250 (by rfl') rfl rfl rfl rfl rfl (by rfl') PH rfl (by rfl') (by rfl')
def nU:FT:=dF (cM 21)
theorem PI:c9 P ul nU:=j5 (by rfl') λa a a=> .of_eq (by rfl')
theorem Ii:bz (aF P) 258 ul nU:=bY 257 (by rfl') rfl rfl rfl rfl rfl (by rfl') PI rfl (by rfl') (by rfl')
def jp:FT:=dF (cM 22)
theorem PJ:c9 P uo jp:=j5 (by rfl') λa a a=> .of_eq (by rfl')
theorem Ij:bz (aF P) 265 uo jp:=bY 264 (by rfl') rfl rfl rfl rfl rfl (by rfl') PJ rfl (by rfl') (by rfl')
def AO:FT:=dF (cM 23)
theorem PK:c9 P qM AO:=qR (by rfl') λa a a a=> .of_eq (by rfl')
theorem Ik:bz (aF P) 272 qM AO:=bY 271 (by rfl') rfl rfl rfl rfl rfl (by rfl') PK rfl (by rfl') (by rfl')
def dR:FT:=dF (cM 24)
theorem PL:c9 P uq dR:=qR (by rfl') λa a a a=> .of_eq (by rfl')
theorem Il:bz (aF P) 277 uq dR:=bY 276 (by rfl') rfl rfl rfl rfl rfl (by rfl') PL rfl (by rfl') (by rfl')
def dS:FT:=dF (cM 25)
theorem PM:c9 P qN dS:=Ib (by rfl') λa a a a a a=> .of_eq (by rfl')
theorem PN:bz (aF P) 284 qN dS:=bY 283 (by rfl') rfl rfl rfl rfl rfl (by rfl') PM rfl (by rfl') (by rfl')
def uu:FT:=dF (cM 26)
theorem PO:c9 P ur uu:=Ib (by rfl') λa a a a a a=> .of_eq (by rfl')
theorem Im:bz (aF P) 291 ur uu:=bY 290 (by rfl') rfl rfl rfl rfl rfl (by rfl') PO rfl (by rfl') (by rfl')
def gj:FT:=dF (cM 27)
theorem PP:c9 P qO gj:=Ra (by rfl') λa a a a a a a=> .of_eq (by rfl')
theorem PQ:bz (aF P) 296 qO gj:=bY 295 (by rfl') rfl rfl rfl rfl rfl (by rfl') PP rfl (by rfl') (by rfl')
def bp:FT:=dF (cM 28)
theorem PR:c9 P qP bp:=Ib (by rfl') λa a a a a a=> .of_eq (by rfl')
theorem PT:bz (aF P) 301 qP bp:=bY 300 (by rfl') rfl rfl rfl rfl rfl (by rfl') PR rfl (by rfl') (by rfl')
def uv:FT:=dF (cM 29)
theorem PU:c9 P AC uv:=j5 (by rfl') λa a a=> .of_eq (by rfl')
theorem Io:bz (aF P) 306 AC uv:=bY 305 (by rfl') rfl rfl rfl rfl rfl (by rfl') PU rfl (by rfl') (by rfl')
noncomputable def fv:List (Vb×ZN×U2)->Vb->Option U2
 |[],_=>UW
 |(y,_,v)::r,x=>match sq x y with
  |true=>UV v
  |false=>fv r x
theorem x9 (x:Vb):∀l,nsFind (vY P l).toArray x=fv l x:=λl=>by
 unfold nsFind findBy;rw[List.find?_toArray];induction l with
 |nil=>rfl
 |cons p r a=>
  obtain⟨y,t,v⟩:=p;unfold vY;refine ac Wa ?_;refine ac (Zl) ?_;refine(?_:(match(y==x) with|true=>UV _|false=>_).map _=(match sq x y with|true=>UV v|false=>fv r x));by_cases h:x=y
  ·exact ac (bS.mpr h) (ac (beq_iff_eq.mpr h.symm) rfl)
  ·exact ac (cg.mpr h) (ac (beq_eq_false_iff_ne.mpr (aca h)) a)
theorem yM {l:List (Vb×ZN×U2)} {n:Nat} (e:h.get? a=UV (dO P l n)):h.Ns a (fv l):=
 ⟨_,(vY P l).toArray,n,e,rfl,λen c=>by
  refine aj (List.mem_map.mp (show en∈vY P l by simpa using c)) λp b d=>(aD d ?_)
  exact(sU _ _ rfl),λx=>x9 x l⟩
theorem CN (h:Vc) (a:bv (aF P) h):h.Ns mainGlobals (fv gW):=yM (a (3,dO P gW 34) (cA (by rfl')))
theorem Rb (h:Vc) (a:bv (aF P) h):h.Ns builtinsNs (fv po):=yM (a (0,dO P po 159) (cA (by rfl')))
theorem lim (h:Vc) (b:bv (aF P) h):h.NoLimit:=
 ⟨λa=>UW,(QO _ (#[]) 0 (b (2,{cls:= .none,dict:=UW,data:= .dict #[] 0,slots:= #[]}) (cA (by rfl'))) rfl (λa c=>by simp at c) (λa=>rfl)),rfl⟩
theorem pA:kI (aF P):=λh a=>(Hy _ _ (CN h a) (by rfl') (Rb h a) (by rfl'))
noncomputable def gl:List (Vb×GV):=[("len", .f 0),("max", .f 1),("min", .f 2),("range", .f 3),("str", .f 4),("int", .f 5),("list", .f 6),("set", .f 7),("NL", .v (.str "\n" 281)),("EMPTYSTRING", .v (.str "" 283)),
 ("_Accumulator", .v (.ref 228)),("_ValueFormatter", .v (.ref 144)),("_digits2int", .v (.ref 71)),("_int2digits", .v (.ref 64)),("_law_numeral", .v (.ref 272)),("_law_value", .v (.ref 277)),("_strip_padding", .v (.ref 35)),("compute_powers", .v (.ref 43)),
 ("_str_to_int_inner", .v (.ref 50)),("int_from_string", .v (.ref 57)),("parse_keqv_list", .v (.ref 239)),("parse_http_list", .v (.ref 244)),("_law_cells", .v (.ref 251)),("_law_ruler", .v (.ref 258)),("_law_sizes", .v (.ref 265)),("_law_letter", .v (.ref 284)),
 ("_law_read", .v (.ref 291)),("_law_taken", .v (.ref 296)),("_law_day", .v (.ref 301)),("_grouping_intervals", .v (.ref 28)),("CHAR_MAX", .v (.int 127 196)),("sum", .v (.builtin "sum"))]
def AP:List (Vb×GV)->Prop
 |[]=>True
 |(x,v)::r=>(fv gW x=UV v.val∨(fv gW x=UW/\fv po x=UV v.val))/\AP r
theorem Ga {l:List (Vb×GV)}:AP l->∀{x v},ms x l=UV v->fv gW x=UV v.val∨(fv gW x=UW/\fv po x=UV v.val):=by
 induction l with
 |nil=>intro _ x v e;exact nn e
 |cons p r b=>
  intro h x v e;obtain⟨y,u⟩:=p;dsimp only[ms] at e;induction a:sq x y with
  |true=>rw[a] at e;obtain rfl:=U0 e;refine ac (bS.mp a) ?_;exact h.1
  |false=>rw[a] at e;exact b h.2 e
theorem gb {x:Vb} {v:U2} (h1:fv gW x=UW) (h2:fv po x=UV v):fv gW x=UV v∨(fv gW x=UW/\fv po x=UV v):= .inr ⟨h1,h2⟩
theorem PV:AP gl:=
 ⟨gb (by rfl') (by rfl'),gb (by rfl') (by rfl'),gb (by rfl') (by rfl'),gb (by rfl') (by rfl'),gb (by rfl') (by rfl'),gb (by rfl') (by rfl'),gb (by rfl') (by rfl'),gb (by rfl') (by rfl'),
  .inl (by rfl'), .inl (by rfl'), .inl (by rfl'), .inl (by rfl'), .inl (by rfl'), .inl (by rfl'), .inl (by rfl'), .inl (by rfl'), .inl (by rfl'), .inl (by rfl'), .inl (by rfl'), .inl (by rfl'), .inl (by rfl'), .inl (by rfl'),
  .inl (by rfl'), .inl (by rfl'), .inl (by rfl'), .inl (by rfl'), .inl (by rfl'), .inl (by rfl'), .inl (by rfl'), .inl (by rfl'), .inl (by rfl'),gb (by rfl') (by rfl'),trivial⟩
theorem dG:eC (aF P) gl:=λx v e h a=>by
 rcases Ga PV e with q|⟨q,b⟩
 ·exact(aA _ (CN h a) (.inl q))
 ·exact(aA _ (CN h a) (.inr ⟨q,_,Rb h a,b⟩))
theorem PW:bV (aF P) 144 UY:=⟨(cE AE (by rfl') (by rfl') (by rfl')),by rfl',by rfl',by rfl'⟩
theorem AQ:bV (aF P) 228 UX:=⟨(cE qQ (by rfl') (by rfl') (by rfl')),by rfl',by rfl',by rfl'⟩
theorem AR:dm (aF P) 228:=⟨AQ,by rfl',by rfl',by rfl',by rfl'⟩
def lF (K:Frag) (C:U6):List (Vb×V)->Prop
 |[]=>True
 |(n,v)::r=>(∃f tf,findIn K (.ref C) n=UV (UV f)/\typeIn K f=UV tf/\kF tf=UX/\∀g U,VR g U v f)/\(∀f,v= .con (.ref f)->typeIn K (.ref f)=UV (.type "function"))/\lF K C r
theorem v5 {K:Frag} {C:U6} {l:List (Vb×V)}:lF K C l->∀{n v},lk n l=UV v->(∃f tf,findIn K (.ref C) n=UV (UV f)/\typeIn K f=UV tf/\kF tf=UX/\∀g U,VR g U v f)/\(∀f,v= .con (.ref f)->typeIn K (.ref f)=UV (.type "function")):=by
 induction l with
 |nil=>intro _ n v e;exact nn e
 |cons p r b=>
  intro h n v e;obtain⟨y,u⟩:=p;dsimp only[lk] at e;induction a:sq n y with
  |true=>rw[a] at e;obtain rfl:=U0 e;refine ac (bS.mp a) ?_;exact⟨h.1,h.2.1⟩
  |false=>rw[a] at e;exact b h.2.2 e
theorem eH {K:Frag} {C:U6} {n:Vb} {r:List (Vb×V)} (h1:findIn K (.ref C) n=UV (UV (.ref f))) (h2:typeIn K (.ref f)=UV (.type "function")) (h:lF K C r):lF K C ((n, .con (.ref f))::r):=
 ⟨(Hy (.ref f) (.type "function") h1 h2 (by rfl') (λa a=> .con _)),λg e=>by cases e;exact h2,h⟩
theorem Kh {K:Frag} {C:U6} {n:Vb} {tf:U2} {r:List (Vb×V)} (h1:findIn K (.ref C) n=UV (UV (FN k))) (h2:typeIn K (FN k)=UV tf) (b:kF tf=UX) (h:lF K C r):lF K C ((n, .fk k)::r):=
 ⟨(Hy (FN k) tf h1 h2 b (λa a=> .fk k)),λg e=>(nomatch e),h⟩
noncomputable def Gb:aV:={C:=144,l:=UY,attrs:=["_maxlen","_continuation_ws","_continuation_ws_len","_splitchars","_lines","_current_line"],meths:=[("newline", .con (.ref 106)),("_str", .con (.ref 92)),("_append_chunk", .con (.ref 141))]}
noncomputable def Gc:aV:={C:=228,l:=UX,attrs:=["_initial_size"],meths:=[("push", .con (.ref 172)),("pop_from", .con (.ref 180)),("pop", .con (.ref 188)),("__len__", .con (.ref 195)),("__str__", .con (.ref 202)),("reset", .con (.ref 210)),("is_onlyws", .con (.ref 217)),("part_count", .con (.ref 225)),("append", .fk 8)]}
noncomputable def bZ:List aV:=[Gc,Gb]
def Gd (K:Frag) (C:U6):List Vb->Prop
 |[]=>True
 |n::r=>findIn K (.ref C) n=UV UW/\Gd K C r
theorem yN {K:Frag} {C:U6}:∀{l:List Vb},Gd K C l->∀n∈l,findIn K (.ref C) n=UV UW
 |y::r,h,n,a=>by
  rcases List.mem_cons.mp a with rfl|a
  ·exact h.1
  ·exact yN h.2 n a
theorem Rc {K:Frag} {t:aV} (h1:bV K t.C t.l) (h2:Gd K t.C t.attrs) (a:lF K t.C t.meths) (b:findIn K (.ref t.C) "__bool__"=UV UW) (c:t.l=UX->dm K t.C):Aq K t where
 f:=h1
 attrs:=yN h2
 meths:=λn v e=>(v5 a e).1
 fns:=λn f e=>(v5 a e).2 f rfl
 nob:=b
 acc:=c
theorem PX:Aq (aF P) Gb:=Rc PW ⟨by rfl',by rfl',by rfl',by rfl',by rfl',by rfl',trivial⟩
 (eH (by rfl') (by rfl') (eH (by rfl') (by rfl') (eH (by rfl') (by rfl') trivial))) (by rfl') (λh=>nomatch h)
theorem PY:Aq (aF P) Gc:=Rc AQ ⟨by rfl',trivial⟩
 (eH (by rfl') (by rfl') (eH (by rfl') (by rfl') (eH (by rfl') (by rfl') (eH (by rfl') (by rfl') (eH (by rfl') (by rfl') (eH (by rfl') (by rfl') (eH (by rfl') (by rfl') (eH (by rfl') (by rfl')
  (Kh (tf:= .type "method_descriptor") (by rfl') (by rfl') (by rfl') trivial))))))))) (by rfl') (λa=>AR)
theorem qS:eG (aF P) bZ:=λt a=>by
 rcases List.mem_cons.mp a with rfl|a
 ·exact PY
 ·rcases List.mem_cons.mp a with rfl|a
  ·exact PX
  ·cases a
theorem MU:lC (aF P) UY 144 85:=⟨by rfl',by rfl',by rfl'⟩
theorem MV:lC (aF P) UX 228 165:=⟨by rfl',by rfl',by rfl'⟩
theorem Ki:specialIn (aF P) (.ref 144) "__call__"=UV (UV (.builtin "type.__call__")):=by rfl'
theorem Kj:specialIn (aF P) (.ref 228) "__call__"=UV (UV (.builtin "type.__call__")):=by rfl'
theorem MW:iB (aF P) 228 172 "push":=⟨by rfl',by rfl',by rfl',by rfl',by rfl'⟩
end
section
noncomputable def tI (c P line col:Nat) (q:Vb):fB:=⟨c,P,line,col,q⟩
noncomputable def oR:List fB:=[tI 49 45 73 4 "_str_to_int_inner.<locals>.inner",tI 63 59 86 4 "_int2digits.<locals>.inner",tI 70 66 101 4 "_digits2int.<locals>.inner",tI 194 190 197 19 "_Accumulator.__len__.<locals>.<genexpr>",tI 201 197 200 32 "_Accumulator.__str__.<locals>.<genexpr>"]
def Wz (J:Vz) (w:V6):Wo:=⟨J,w,aF w.params,oR⟩
noncomputable def ce:List Vb:=["a","b","c"]
def Gz (P:Va) (T:bC) (k N:Nat):Ec->bP:=aE (aZ P T bZ ce gl N k) N
def gY (c:Cx) (A:Vk):bC->Prop
 |[]=>True
 |(a,m)::r=>((∃b,(a,b)∈c.KK/\((∃fd,b.data= .func fd)∨((∃d,b.data= .cls d)/\ab7 c.KK (.ref a) "__call__"=UV (UV (.builtin "type.__call__")))))/\∀fz U vs xs,av fz U vs xs->eS c A fz U (m vs) (.call (.ref a) ⟨xs,[]⟩))/\gY c A r
theorem gY.x {T:bC} (d:gY c A T):ki c A T:=by
 induction T with
 |nil=>exact λb b h=>nomatch h
 |cons p r e=>
  intro a m;refine(?_:(match VA a p.1 with|true=>UV p.2|false=>oN a r)=UV m->_);induction f:VA a p.1 with
  |true=>exact λh=>U0 h▸ac (VI f) d.1
  |false=>exact e d.2 a m
section
theorem MX {f:Nat} {spS:Nat->Ec->Nat->Option (VY×M Fl)} {spE:Nat->Ec->Nat->Option (Vs×M V)} (F:bz (aF w.params) f fd T) (h1:fd.globals=mainGlobals) (h2:fd.builtins=builtinsNs) (htr:∀P,T.trim=UV P->P=w.params)
  (e:nH (aF w.params) fd T defs) (l:∀g os A,cI g->aP lev A->gY ((Wz J w).cx g os) A Tb)
  (h:∀N g os A L Z fz U,cI g->aP (lev+1+k) A->cp ((Wz J w).cx g os) A (aZ w.params Tb bZ ce gl N k)->f9 Z fd f->aI ((Wz J w).cx g os) (be T [] gl (spS N) (spE N) L) Z U->eh ((Wz J w).cx g os) A (be T [] gl (spS N) (spE N) L) Z fz U)
  (run:∀vs objs d objs' ps,sp vs objs=UV (d,objs',ps)->ao ps->∃N orc S' qs,bnd (aR T gl (spS N) (spE N) (Gz w.params Tb k N) [] (vs++defs.map toV)) (λv=>cj w.params 9 v) ⟨objs,orc⟩=UV (d,S',qs)/\ao qs/\S'.H.take objs.length=objs'/\dp objs'=UX):aX (Wz J w) (lev+1+k+1) f sp:=by
 have j:∀N g os A,cI g->aP (lev+1+k) A->cp ((Wz J w).cx g os) A (aZ w.params Tb bZ ce gl N k):=λN g os A a b=>nP (c:=(Wz J w).cx g os) a qS (λm i=>(l g os m a i).x) dG lim k A b
 exact Jx (W:=Wz J w) (lev:=lev+1+k) (G:=λN=>Gz w.params Tb k N) F h1 h2 dG lim htr e (λN g os A C Z a b=>d5 (j N g os A a b) N C Z) (λN g os A L Z fz U a b n o=>h N g os A L Z fz U a b (j N g os A a b) n o) run
theorem dw {L:Nat} :eh c A (be T [] gl (λa=>bk) (λa=>br) L) Z fz U:=⟨λa a a h=>(nomatch h),λa a a h=>(nomatch h)⟩
end
section
noncomputable def kM:Fl->Option Fl
 | .next=>UW
 | .cont=>UW
 | .brk=>UV .next
 | .ret v=>UV (.ret v)
def nW (C:Ec) (F:bP) (t:Vs) (b e:List VY):M (Option Fl):=bnd (F.tr t) λc=>bnd (dec c) λd=>match d with
 |false=>bnd (F.exs e) λf=>ret (UV f)
 |true=>bnd (iy C.trim (F.exs b)) λf=>ret (kM f)
def gZ (C:Ec) (o:dU) (F:bP) (t:Vs) (i:Nat) (b e:List VY):M (Option Fl):=bnd (o.nxt i) λr=>match r with
 |none=>bnd (F.exs e) λf=>ret (UV f)
 |some v=>bnd (jB i) λa=>bnd (F.asg t v) λa=>bnd (iy C.trim (F.exs b)) λf=>ret (kM f)
theorem aJ {k:α->M β} {S:St} {a:α} {b:β} {p q:List Prop} (h:m S=UV (a,S1,p)) (h2:k a S1=UV (b,S2,q)):bnd m k S=UV (b,S2,p++q):=by dsimp only[bnd];refine ac h ?_;dsimp only;exact ac h2 rfl
theorem iC (a:α) (k:α->M β):bnd (ret a) k=k a:=funext λS=>by refine(?_:(match k a S with|none=>UW|some (b,c,q)=>UV (b,c,[]++q))=_);cases k a S<;>rfl
theorem yO (m:M α):bnd m ret=m:=funext λS=>by
 unfold bnd;induction m S with
 |none=>rfl
 |some r=>exact congrArg (λq=>UV (r.1,r.2.1,q)) (VW _)
theorem bQ (m:M α) (k:α->M β) (l:β->M γ):bnd (bnd m k) l=bnd m λa=>bnd (k a) l:=funext λS=>by
 unfold bnd;induction m S with
 |none=>rfl
 |some r=>
  dsimp only;induction k r.1 r.2.1 with
  |none=>rfl
  |some b=>
   dsimp only;induction l b.1 b.2.1 with
   |none=>rfl
   |some c=>exact congrArg (λq=>UV (c.1,c.2.1,q)) (Vi _ _ _)
theorem sb {k:α->M β} {S:St} {a:α} {b:β} {p:List Prop} (h:m S=UV (a,S1,p)) (h2:k a S1=UV (b,S1,[])):bnd m k S=UV (b,S1,p):=by refine ac (aJ h h2) ?_;rw[VW]
section
variable {o:dU} {t:Vs} {b e:List VY} {S:St} {ps q:List Prop} {f r:Fl} 
def v6 (m:M Fl):Option Fl->M Fl
 |none=>m
 |some f=>ret f
theorem CO (m:M Fl) (f:Fl):(match(generalizing:=false) f with| .next| .cont=>m| .brk=>ret Fl.next| .ret v=>ret (Fl.ret v))=v6 m (kM f):=by cases f<;>rfl
theorem Ip:kB C o F t b e=bnd (nW C F t b e) (v6 (F.wl t b e)):=by
 unfold nW kB;rw[bQ];refine congrArg (bnd (F.tr t)) (funext λc=>?_);rw[bQ];refine congrArg (bnd (dec c)) (funext λd=>?_);induction d with
 |false=>dsimp only;rw[bQ];exact(yO _).symm.trans (congrArg (bnd (F.exs e)) (funext λf=>(iC (UV f) (v6 _)).symm))
 |true=>dsimp only;rw[bQ];exact congrArg (bnd _) (funext λf=>(CO _ f).trans (iC (kM f) _).symm)
theorem Iq (h:nW C F t b e S=UV (UW,S',ps)) (h2:F.wl t b e S'=UV (r,S2,q)):kB C o F t b e S=UV (r,S2,ps++q):=ac Ip (aJ h h2)
theorem MY (h:nW C F t b e S=UV (UV f,S',ps)):kB C o F t b e S=UV (f,S',ps):=ac Ip (sb h rfl)
theorem Ir:kA C o F t i b e=bnd (gZ C o F t i b e) (v6 (F.fl t i b e)):=by
 unfold gZ kA;rw[bQ];refine congrArg (bnd (o.nxt i)) (funext λc=>?_);induction c with
 |none=>dsimp only;rw[bQ];exact(yO _).symm.trans (congrArg (bnd (F.exs e)) (funext λf=>(iC (UV f) (v6 _)).symm))
 |some v=>dsimp only;rw[bQ];refine congrArg (bnd (jB i)) (funext λa=>?_);rw[bQ];refine congrArg (bnd (F.asg t v)) (funext λa=>?_);rw[bQ];exact congrArg (bnd _) (funext λf=>(CO _ f).trans (iC (kM f) _).symm)
theorem qT (h:gZ C o F t i b e S=UV (UW,S',ps)) (h2:F.fl t i b e S'=UV (r,S2,q)):kA C o F t i b e S=UV (r,S2,ps++q):=ac Ir (aJ h h2)
theorem mW (h:gZ C o F t i b e S=UV (UV f,S',ps)):kA C o F t i b e S=UV (f,S',ps):=ac Ir (sb h rfl)
end
def nX (o:dU) (C:Ec) (F:bP) (elt:Vs) (ifs:List Vs) (x:Vb) (i a:Nat):M Bool:=bnd (o.nxt i) λr=>match r with
 |none=>ret UY
 |some v=>bnd (jB i) λb=>bnd (jV C x v) λb=>bnd (ve F.tr ifs) λc=>match c with
  |true=>bnd (F.ev elt) λy=>bnd (vc a y) λb=>ret UX
  |false=>ret UX
section
variable {o:dU} {x:Vb} {a n:Nat} {S:St} {ps q:List Prop}
theorem It:eY o C F elt ifs x i a (n+1)=bnd (nX o C F elt ifs x i a) λg=>match g with|true=>eY o C F elt ifs x i a n|false=>ret ():=by
 unfold nX;rw[bQ];refine(?_:bnd (o.nxt i) _=_);refine congrArg (bnd (o.nxt i)) (funext λc=>?_);induction c with
 |none=>dsimp only;rw[iC]
 |some v=>
  dsimp only;rw[bQ];refine congrArg (bnd (jB i)) (funext λb=>?_);rw[bQ];refine congrArg (bnd (jV C x v)) (funext λb=>?_);rw[bQ];refine congrArg (bnd (ve F.tr ifs)) (funext λg=>?_);induction g with
  |false=>dsimp only;rw[iC]
  |true=>dsimp only;rw[bQ];refine congrArg (bnd (F.ev elt)) (funext λy=>?_);rw[bQ];refine congrArg (bnd (vc a y)) (funext λb=>?_);rw[iC]
theorem AS (h:nX o C F elt ifs x i a S=UV (UX,S',ps)) (h2:eY o C F elt ifs x i a n S'=UV ((),S2,q)):eY o C F elt ifs x i a (n+1) S=UV ((),S2,ps++q):=ac It (aJ h h2)
theorem CP (h:nX o C F elt ifs x i a S=UV (UY,S',ps)):eY o C F elt ifs x i a (n+1) S=UV ((),S',ps):=ac It (sb h rfl)
end
theorem ae.via {m2:M α} {t:Xh β} 
  (h:∀S a S' p,m S=UV (a,S',p)->ao p->∃orc b p2,m2 ⟨S.H,orc⟩=UV (a,⟨S'.H,b⟩,p2)/\ao p2) (h2:ae c A fz U m2 t R):ae c A fz U m t R:=by
 intro S a S' p e g d ρ' s Q k q i y
 exact mn (h S a S' p e g) λorc b p2 e2 f=>(h2 ⟨S.H,orc⟩ a _ p2 e2 f d ρ' s Q k q i y)
def aw (l:List VY) (n:Nat):VY:=(dg l n).getD (.Pass ⟨0,0,0,0⟩)
def Iu:VY->Bool
 | .For _ it _ _ _=> !eB it
 |_=>UY
noncomputable def MZ:VY->Bool
 | .While ..=>UX
 |_=>UY
section
variable {o:dU} {S:St} {f:Fl} {p q:List Prop} {n:Nat}
theorem jK {s:VY} {r:List VY} (h1:F.ex s S=UV (.next,S1,p)) (h2:cG F.ex r S1=UV (f,S2,q)):cG F.ex (s::r) S=UV (f,S2,p++q):=aJ h1 h2
theorem kN {a b:List VY} (h1:cG F.ex a S=UV (.next,S1,p)) (h2:cG F.ex b S1=UV (f,S2,q)):cG F.ex (a++b) S=UV (f,S2,p++q):=by
 induction a generalizing S p with
 |nil=>cases h1;exact h2
 |cons s r e=>
  refine ez (bA h1) λg i j k h d c=>(ac c ?_)
  rw[Vi];induction g with
  |next=>exact aJ h (e d)
  |_=>cases d
theorem Ge {s:VY} (h:Iu s=UX):∃t it b e pos,s= .For t it b e pos/\eB it=UY:=by
 induction s using Y9 with
 |For t it b e pos=>exact⟨t,it,b,e,pos,rfl,XV _▸h⟩
 |_=>exact ff h
theorem Kk {s:VY} (h:MZ s=UX):∃t b e pos,s= .While t b e pos:=by
 induction s using Y9 with
 |While t b e pos=>exact⟨t,b,e,pos,rfl⟩
 |_=>exact ff h
theorem mX {s:VY} (hf:Iu s=UX) (hs:C.spS (jC s)=UW) (h1:bnd ((aE o n C).ev (uU s)) o.iter S=UV (.ref i,S1,p)) (h2:(aE o n C).fl (aU s) i (cL s) (mu s) S1=UV (f,S2,q)):(aE o (n+1) C).ex s S=UV (f,S2,p++q):=by refine Un (Ge hf) λt d b e c h g=>?_;subst h;refine(?_:(match C.spS (jC (.For t d b e c)) with|some (j,m)=>bnd (need (Stmt.For t d b e c=j)) λa=>m|none=>gQ C o (aE o n C) (.For t d b e c)) S=_);refine ac hs (?_:(match eB d with|true=>fail|false=>bnd ((aE o n C).ev d) λx=>bnd (o.iter x) λi=>match i with| .ref k=>(aE o n C).fl t k b e|_=>fail) S=_);refine ac g ?_;dsimp only;rw[<-bQ];exact aJ h1 h2
theorem PZ {s:VY} (hf:MZ s=UX) (hs:C.spS (jC s)=UW) (h2:(aE o n C).wl (aU s) (cL s) (mu s) S=UV (f,S2,q)):(aE o (n+1) C).ex s S=UV (f,S2,q):=by refine qa (Kk hf) λt b e c d=>?_;subst d;refine(?_:(match C.spS (jC (.While t b e c)) with|some (g,m)=>bnd (need (Stmt.While t b e c=g)) λa=>m|none=>gQ C o (aE o n C) (.While t b e c)) S=_);exact ac hs h2
end
theorem CQ {orc:List Bool} {p q:List Prop} {r:Option (Fl×St×List Prop)} (hl:VA vs.length T.params.length=UX)
  (a:(G (be T [] glob spS spE objs.length)).exs T.body ⟨objs++(.frame (jD T.scope.names (T.params.zip vs) [])::T.cn.map λn=> .cell (lk n (lm T.scope.names (T.params.zip vs) []))),orc⟩=r) (h:r=UV (.ret v,S2,p)) (hf:cj P 9 v S2=UV (d,S3,q)):
  bnd (aR T glob spS spE G [] vs) (λv=>cj P 9 v) ⟨objs,orc⟩=UV (d,S3,p++q):=by
 refine aJ ?_ hf
 dsimp only[aR]
 refine ac hl ?_
 have:=aJ (m:=kE T (T.params.zip vs)) (k:=λL=>bnd ((G (be T [] glob spS spE L)).exs T.body) λf=>match f with
  | .ret v=>ret v
  | .next=>ret .none
  |_=>fail) (S:=⟨objs,orc⟩) (p:=[]) (q:=p++[]) rfl (aJ (a.trans h) rfl)
 rw[VW,Zh] at this
 exact this
theorem tj (n:Nat):X4 0 n 1=(n:Int):=by
 dsimp only[X4];refine ac (if_pos (by decide)) ?_;split
 ·simp
 ·lia
theorem ya (n:Nat) (h:n<=1000):YI 0 n 1=UX:=by unfold YI Builtin.Range.rangeFitsLong;rw[tj];simp;lia
end
section
abbrev lG (P:Va) (T:FT) (Tb:bC) (N:Nat) (vs:List V) (objs:List O) (orc:List Bool):Option (D×St×List Prop):=bnd (aR T gl (λa=>bk) (λa=>br) (Gz P Tb 2 N) [] vs) (λv=>cj P 9 v) ⟨objs,orc⟩
noncomputable def bD (k:Nat) (r:Option (D×St×List Prop)):Option (D×List O×List Prop):=match r with
 |some (d,S,p)=>UV (d,S.H.take k,p)
 |none=>UW
theorem dh {r:Option (D×St×List Prop)} {p:List Prop} (h:bD k r=UV (d,objs,p)):∃S',r=UV (d,S',p)/\S'.H.take k=objs:=by
 induction r with
 |none=>exact nn h
 |some r=>obtain⟨a,b,c⟩:=aap (U0 h)|>.imp id aap;exact(aA r.2.1 (aD a (aD c rfl)) b)
noncomputable def gC:V->Vb
 | .str s=>s
 |_=>""
noncomputable def bU:V->Int
 | .int i=>i
 |_=>0
noncomputable def cr:V->List Int
 | .dat (.ints l)=>l
 |_=>[]
def nV (vs:List V) (n:Nat):V:=ay .none vs n
noncomputable def CS (f:List V->List O->X) (pre:X->List V) (ob:X->List O) (res:X->D) (ob':X->List O) (nd:X->Prop):Sp:=λvs objs=>UV (res (f vs objs),ob' (f vs objs),[vs=pre (f vs objs)/\objs=ob (f vs objs)/\nd (f vs objs)])
noncomputable abbrev fW (f:List V->X) (pre:X->List V) (res:X->D) (nd:X->Prop):Sp:=CS (λvs a=>f vs) pre (λa=>[]) res (λa=>[]) nd
theorem CT {W:Wo} {sp':Sp} (h:∀vs objs d objs' ps,sp' vs objs=UV (d,objs',ps)->ao ps->∃sp a,aX W lev f sp/\sp vs objs=UV (d,objs',a)/\ao a):aX W lev f sp':=
 λg os A b U s vs c objs d objs' ps R i j k l e m y=>
  let⟨_,a,h1,h2,h3⟩:=h vs objs d objs' ps e m
  h1 g os A b U s vs c objs d objs' a R i j k l h2 h3 y
theorem dH {W:Wo} {a:Nat} (h:aX W lev f sp) (hl:lev<=a):aX W a f sp:=λg os A e U s vs i c d b j R k l=>h g os A e U s vs i c d b j R k (l.le hl)
section
variable {W:Wo} {f:List V->List O->X} {pre:X->List V} {ob:X->List O} {res:X->D} {ob':X->List O} {nd:X->Prop}
theorem yP {G:List V->List O->D->List O->Prop} (h:∀x,nd x->G (pre x) (ob x) (res x) (ob' x)):∀vs objs d objs' ps,CS f pre ob res ob' nd vs objs=UV (d,objs',ps)->ao ps->G vs objs d objs':=λvs objs d objs' ps e a=>by cases e;obtain⟨⟨b,c,g⟩,_⟩:=a;have:=h _ g;simp only[<-b,<-c] at this;exact this
theorem v7 (h:∀x,nd x->∃sp b,aX W lev a sp/\sp (pre x) (ob x)=UV (res x,ob' x,b)/\ao b):aX W lev a (CS f pre ob res ob' nd):=
 CT (yP (G:=λvs e d c=>∃sp b,aX W lev a sp/\sp vs e=UV (d,c,b)/\ao b) h)
end
section
variable {fa:Nat} {f:List V->List O->X} {pre:X->List V} {ob:X->List O} {res:X->D} {ob':X->List O} {nd:X->Prop} 
theorem dq {spS:Nat->Ec->Nat->Option (VY×M Fl)} {spE:Nat->Ec->Nat->Option (Vs×M V)} (F:bz (aF w.params) fa fd T) (h1:fd.globals=mainGlobals) (h2:fd.builtins=builtinsNs) (htr:∀P,T.trim=UV P->P=w.params)
  (c:nH (aF w.params) fd T defs) (j:∀g os A,cI g->aP lev A->gY ((Wz J w).cx g os) A Tb)
  (i:∀N g os A L Z fz U,cI g->aP (lev+1+k) A->cp ((Wz J w).cx g os) A (aZ w.params Tb bZ ce gl N k)->f9 Z fd fa->aI ((Wz J w).cx g os) (be T [] gl (spS N) (spE N) L) Z U->eh ((Wz J w).cx g os) A (be T [] gl (spS N) (spE N) L) Z fz U)
  (run:∀x,nd x->∃N orc qs,bD (ob x).length (bnd (aR T gl (spS N) (spE N) (Gz w.params Tb k N) [] (pre x++defs.map toV)) (λv=>cj w.params 9 v) ⟨ob x,orc⟩)=UV (res x,ob' x,qs)/\ao qs/\dp (ob' x)=UX):aX (Wz J w) (lev+1+k+1) fa (CS f pre ob res ob' nd):=
 MX F h1 h2 htr c j i (yP (G:=λvs b d a=>∃N orc h qs,bnd (aR T gl (spS N) (spE N) (Gz w.params Tb k N) [] (vs++defs.map toV)) (λv=>cj w.params 9 v) ⟨b,orc⟩=UV (d,h,qs)/\ao qs/\h.H.take b.length=a/\dp a=UX) λx l=>
  let⟨N,orc,qs,e,hq,hf⟩:=run x l;let⟨h,e1,e2⟩:=dh e
  ⟨N,orc,h,qs,e1,hq,e2,hf⟩)
theorem qU {c:List V->X} (F:bz (aF w.params) fa fd T) (h1:fd.globals=mainGlobals) (h2:fd.builtins=builtinsNs) (htr:T.trim=UW) (b:nH (aF w.params) fd T [])
  (run:∀x,nd x->∃orc qs,bD 0 (lG w.params T [] 60 (pre x++[]) [] orc)=UV (res x,[],qs)/\ao qs):aX (Wz J w) 4 fa (fW c pre res nd):=
 dq (lev:=0) (k:=2) (Tb:=[]) (defs:=[]) (spS:=λa a=>bk) (spE:=λa a=>br) F h1 h2 (λP e=>by rw[htr] at e;cases e) b (λa a a a a=>trivial) (λa a a a a a a a a a a a a=>dw) λx d=>aG (run x d) λorc qs e h=>⟨60,orc,qs,e,h,rfl⟩
end
def lH (P:Nat->Prop):Nat->Prop
 |0=>True
 |n+1=>lH P n/\P n
theorem lH.get {P:Nat->Prop} {n:Nat} (h:lH P n) (a:j < n):P j:=by
 induction n with
 |zero=>exact absurd a (W7 _)
 |succ n b=>
  rcases Nat.lt_succ_iff_lt_or_eq.mp a with c|rfl
  ·exact b h.1 c
  ·exact h.2
theorem uw {l:List α} (h:l.length=2):∃a b,l=[a,b]:=by
 rcases l with _|⟨a,_|⟨b,_|_⟩⟩
 ·cases h
 ·cases h
 ·exact(sU a b rfl)
 ·cases h
theorem j6 {l:List α} {n:Nat} (h:l.length=n+1):∃a r,l=a::r/\r.length=n:=by
 induction l using VE with
 |nil=>cases h
 |cons a r=>exact(bL a r rfl (XA h))
theorem Iv {l:List α} (h:l.length=7):∃a b c d e f g,l=[a,b,c,d,e,f,g]:=by
 refine aG (j6 h) λa i j k=>(ac j ?_)
 refine aG (j6 k) λb i j m=>(ac j ?_)
 refine aG (j6 m) λc i j n=>(ac j ?_)
 refine aG (j6 n) λd i j o=>(ac j ?_)
 refine aG (j6 o) λe i j p=>(ac j ?_)
 refine p9 (uw p) λf g j=>(ac j ?_)
 exact⟨a,b,c,d,e,f,g,rfl⟩
end
def fF:List Int->Nat->List Int->List Int
 |[],_,a=>a
 |x::r,k,a=>fF r (k+1) (setL a (k % 4) (ay 0 a (k % 4)+x.fmod (10^9)))
def qV:VY:=aw fL.body 1
def oS:Ec:=be fL [] gl (λa=>bk) (λa=>br) 0
noncomputable def Uw:Option Int->List (Vb×V)
 |none=>[]
 |some j=>[("k", .int j)]
def oT (l cs:List Int) (j:Option Int) (it:O):List O:=[.frame (("script", .dat (.ints l))::("cells", .ref 1)::Uw j), .ints cs, .range 0 l.length 1,it]
theorem AT (P:Va) (l cs:List Int) (j:Option Int) (k left:Int) (n N:Nat) (orc:List Bool):
  gZ oS (aZ P [] bZ ce gl N 2) (aE (aZ P [] bZ ce gl N 2) (n+12) oS) (aU qV) 3 (cL qV) (mu qV) ⟨oT l cs j (.rngIt k left 1),UX::orc⟩=
   UV (UW,⟨oT l (setL cs (dM cs.length (k.fmod 4)) (ay 0 cs (dM cs.length (k.fmod 4))+(ay 0 l (dM l.length k)).fmod (10^9))) (UV k) (.rngIt (k+1) (left - 1) 1),orc⟩,
    [decide (0 < left)=UX,(4:Int)≠0,aK cs.length (k.fmod 4),aK l.length k,(0:Int)<=9/\(9:Int)<=1000000/\(10:Int).natAbs < 2^64,((10:Int)^(9:Int).toNat)≠0,aK cs.length (k.fmod 4)]):=by
 cases j<;>rfl'
theorem CU (P:Va) (l cs:List Int) (j:Option Int) (k left:Int) (n N:Nat) (orc:List Bool):
  gZ oS (aZ P [] bZ ce gl N 2) (aE (aZ P [] bZ ce gl N 2) (n+12) oS) (aU qV) 3 (cL qV) (mu qV) ⟨oT l cs j (.rngIt k left 1),UY::orc⟩=
   UV (UV .next,⟨oT l cs j .dead,orc⟩,[decide (0 < left)=UY]):=by
 cases j<;>rfl'
theorem v8 (l:List α) (n:Nat) (v:α):(setL l n v).length=l.length:=by
 induction l generalizing n with
 |nil=>rfl
 |cons _ r a=>induction n using WC with
  |zero=>rfl
  |succ n=>exact congrArg (· +1) (a n)
theorem pB {d:α} (p:List α) (x:α) (r:List α):ay d (p++x::r) p.length=x:=by
 induction p with
 |nil=>rfl
 |cons _ p a=>exact a
theorem AU (k:Nat):((k:Int).fmod 4)=((k % 4:Nat):Int):=by refine ac (V5 _ (by decide)) ?_;rfl
theorem AV (P:Va) (N:Nat) (r p cs:List Int) (j:Option Int) (n:Nat) (a:cs.length=4) (hl:(p++r).length<=1000) (h:r.length<=n):∃orc b ps,
  (aE (aZ P [] bZ ce gl N 2) (n+13) oS).fl (aU qV) 3 (cL qV) (mu qV) ⟨oT (p++r) cs j (.rngIt p.length r.length 1),orc⟩=UV (.next,⟨oT (p++r) (fF r p.length cs) b .dead,[]⟩,ps)/\ao ps:=by
 induction r generalizing p cs j n with
 |nil=>exact⟨[UY],j,_,mW (CU P (p++[]) cs j p.length ([]:List Int).length n N []),⟨by decide,trivial⟩⟩
 |cons x r d=>
  induction n using WC with
  |zero=>exact absurd h (Zd _)
  |succ n=>
  have f:dM (p++x::r).length (p.length:Int)=p.length:=rfl;obtain⟨orc,b,ps,e,c⟩:=d (p++[x]) (setL cs (p.length % 4) (ay 0 cs (p.length % 4)+x.fmod (10^9))) (UV p.length) n ((v8 ..).trans a) (Vi p [x] r▸hl) (XK h);simp only[Vi,acU,U8,YR] at e;have t:=AT P (p++x::r) cs j p.length (x::r).length (n+1) N orc;rw[(by rw[AU];rfl:dM cs.length ((p.length:Int).fmod 4)=p.length % 4),f,pB] at t;simp only[(by refine(VB).symm▸ ?_;lia:((x::r).length:Int) - 1=(r.length:Int)),(by push_cast;rfl:((p.length:Int)+1)=((p.length+1:Nat):Int))] at t;refine⟨UX::orc,b,_,qT t e,af.mpr ⟨?_,c⟩⟩;have h0:=aa9 p.length (show 4 > 0 by decide);refine⟨decide_eq_true (by refine(VB).symm▸ ?_;lia),by decide,?_,?_,by decide,by decide,?_,trivial⟩
  ·rw[AU];refine ac a ?_;exact⟨h0,XG (aa9 _ (by decide)) (by decide)⟩
  ·rw[U8] at hl ⊢;exact⟨by refine(VB).symm▸ ?_;lia,by simp only[VB] at hl;exact Vl (U1 (Vm _ _) hl) (by decide)⟩
  ·rw[AU];refine ac a ?_;exact⟨h0,XG (aa9 _ (by decide)) (by decide)⟩
theorem AW (r:List Int) (k:Nat) (cs:List Int):(fF r k cs).length=cs.length:=by
 induction r generalizing k cs with
 |nil=>rfl
 |cons x r a=>exact(a _ _).trans (v8 _ _ _)
noncomputable def eZ:List Int:=[7808244,11834,8919,7414]
def qW (f:List Int):D:= .ints [ay 0 f 0,ay 0 f 1,ay 0 f 2,ay 0 f 3]
theorem Gf {f:List Int} (h:f.length=4):qW f= .ints f:=by
 match f,h with
 |[a,b,c,d],_=>rfl
abbrev yQ:Sp:=fW (X:=List Int) (λvs=>cr (nV vs 0)) (λl=>[.dat (.ints l)]) (λl=>qW (fF l 0 eZ)) λl=>l.length<=63
theorem CV (P:Va) (l:List Int) (hl:l.length<=63):∃N orc S' qs,bnd (aR fL gl (λa=>bk) (λa=>br) (Gz P [] 2 N) [] [.dat (.ints l)]) (λv=>cj P 9 v) ⟨[],orc⟩=UV (qW (fF l 0 eZ),S',qs)/\ao qs/\S'.H.take 0=[]:=by
 refine mn (AV P (l.length+15) l [] eZ UW l.length rfl (U1 hl (by decide)) (Vr _)) λorc b d e c=>(ac (Gf (AW _ _ _)) ?_)
 have f:(aE (aZ P [] bZ ce gl (l.length+15) 2) (l.length+14) oS).ex (aw fL.body 1) ⟨[.frame [("script", .dat (.ints l)),("cells", .ref 1)], .ints eZ],orc⟩=UV (.next,⟨oT l (fF l 0 eZ) b .dead,[]⟩,[l.length < 2^62,YI 0 l.length 1=UX]++d):=
  mX (C:=oS) (o:=aZ P [] bZ ce gl (l.length+15) 2) (n:=l.length+13) (i:=3) (s:=aw fL.body 1) (by rfl') (by rfl') (S1:=⟨oT l eZ UW (.rngIt 0 (X4 0 l.length 1) 1),orc⟩) (by rfl') (by rw[tj];exact e)
 refine⟨l.length+15,orc,_,_,CQ (r:=cG (aE (aZ P [] bZ ce gl (l.length+15) 2) (l.length+14) oS).ex ([aw fL.body 0]++[aw fL.body 1,aw fL.body 2]) ⟨[.frame [("script", .dat (.ints l))]],orc⟩) (v:= .ref 1) rfl (by rfl') (kN (by rfl':cG (aE (aZ P [] bZ ce gl (l.length+15) 2) (l.length+14) oS).ex [aw fL.body 0] ⟨[.frame [("script", .dat (.ints l))]],orc⟩=UV (.next,⟨[.frame [("script", .dat (.ints l)),("cells", .ref 1)], .ints eZ],orc⟩,[(4:Nat)<=U9])) (jK f (by cases b<;>rfl':cG (aE (aZ P [] bZ ce gl (l.length+15) 2) (l.length+14) oS).ex [aw fL.body 2] ⟨oT l (fF l 0 eZ) b .dead,[]⟩=UV (.ret (.ref 1),⟨oT l (fF l 0 eZ) b .dead,[]⟩,[])))) rfl,?_,rfl⟩;refine af.mpr ⟨af.mpr ⟨⟨by decide,trivial⟩,af.mpr ⟨af.mpr ⟨⟨Vl hl (by decide),ya _ (U1 hl (by decide)),trivial⟩,c⟩,trivial⟩⟩,trivial⟩
theorem Gg (J:Vz) (w:V6):aX (Wz J w) 4 251 yQ:=
 dq (X:=List Int) (lev:=0) (k:=2) (T:=fL) (Tb:=[]) (defs:=[]) (spS:=λa a=>bk) (spE:=λa a=>br) Ih rfl rfl (λa h=>nomatch h) (c8 Ih) (λa a a a a=>trivial) (λa a a a a a a a a a a a a=>dw) λl c=>
  ez (CV w.params _ c) λN b a d e f a=>⟨N,b,d,congrArg (bD 0) e,f,rfl⟩
noncomputable def cB (c:Int):Int:=1+c.fmod 3
noncomputable def di (c:Int):Int:=1+(c.fdiv 3).fmod 3
noncomputable def cF (c:Int):Int:=(c.fdiv 9).fmod 4
def iU (c:Int):Nat->D
 |0=> .tup [.ints [cB c,di c,0,4], .ints [cB c,di c,di c,di c,di c,di c,di c]]
 |1=> .tup [.ints [cB c,0,9], .ints [cB c,cB c,cB c,cB c,cB c,cB c,cB c]]
 |2=> .tup [.ints [cB c,di c,127,1], .ints [cB c,di c]]
 |_=> .tup [.ints [cB c,di c], .ints [cB c,di c]]
noncomputable def CW:List Prop:=[(3:Int)≠0,(3:Int)≠0/\(3:Nat) < 1073741824,(3:Int)≠0,(9:Int)≠0/\(9:Nat) < 1073741824,(4:Int)≠0]
theorem M0 (P:Va) (c:Int):bD 0 (lG P nU [] 60 [.int c] [] [UX])=UV (iU c 0,[],CW++[decide (cF c=0)=UX,(4:Nat)<=U9,(1:Nat)<=U9,(1:Nat)<=U9,(-2^63:Int)<=6/\(6:Int) < 2^63/\(6:Nat)<=U9,(7:Nat)<=U9,(2:Nat)<=U9]):=by rfl'
theorem M1 (P:Va) (c:Int):bD 0 (lG P nU [] 60 [.int c] [] [UY,UX])=UV (iU c 1,[],CW++[decide (cF c=0)=UY,decide (cF c=1)=UX,(3:Nat)<=U9,(1:Nat)<=U9,(-2^63:Int)<=7/\(7:Int) < 2^63/\(7:Nat)<=U9,(2:Nat)<=U9]):=by rfl'
theorem M2 (P:Va) (c:Int):bD 0 (lG P nU [] 60 [.int c] [] [UY,UY,UX])=UV (iU c 2,[],CW++[decide (cF c=0)=UY,decide (cF c=1)=UY,decide (cF c=2)=UX,(4:Nat)<=U9,(2:Nat)<=U9,(2:Nat)<=U9]):=by rfl'
theorem M3 (P:Va) (c:Int):bD 0 (lG P nU [] 60 [.int c] [] [UY,UY,UY])=UV (iU c 3,[],CW++[decide (cF c=0)=UY,decide (cF c=1)=UY,decide (cF c=2)=UY,(2:Nat)<=U9,(2:Nat)<=U9,(2:Nat)<=U9]):=by rfl'
theorem qX:ao CW:=⟨by decide,by decide,by decide,by decide,by decide,trivial⟩
def fT (c:Int):List Int:=if cF c=0 then[cB c,di c,0,4] else if cF c=1 then[cB c,0,9] else if cF c=2 then[cB c,di c,127,1] else[cB c,di c]
def g8 (c:Int):List Int:=if cF c=0 then[cB c,di c,di c,di c,di c,di c,di c] else if cF c=1 then[cB c,cB c,cB c,cB c,cB c,cB c,cB c] else[cB c,di c]
abbrev v9:Sp:=fW (X:=Int) (λvs=>bU (nV vs 0)) (λc=>[.int c]) (λc=> .tup [.ints (fT c), .ints (g8 c)]) λc=>0<=cF c/\cF c < 4
theorem CX (J:Vz) (w:V6):aX (Wz J w) 4 258 v9:=qU Ii rfl rfl rfl (c8 Ii) λc b=>by
 have a:∀{i j:Int},cF c=i->i≠j->decide (cF c=j)=UY:=λh n=>decide_eq_false λe=>n (h.symm.trans e);rcases(by lia:cF c=0∨cF c=1∨cF c=2∨cF c=3) with h|h|h|h
 ·have r:=M0 w.params c;rw[show iU c 0= .tup [.ints (fT c), .ints (g8 c)] by unfold fT g8;refine ac h ?_;rfl] at r;exact(bL _ _ r (af.mpr ⟨qX,decide_eq_true h,by decide,by decide,by decide,by decide,by decide,by decide,trivial⟩))
 ·have r:=M1 w.params c;rw[show iU c 1= .tup [.ints (fT c), .ints (g8 c)] by unfold fT g8;refine ac h ?_;rfl] at r;exact(bL _ _ r (af.mpr ⟨qX,a h (by decide),decide_eq_true h,by decide,by decide,by decide,by decide,trivial⟩))
 ·have r:=M2 w.params c;rw[show iU c 2= .tup [.ints (fT c), .ints (g8 c)] by unfold fT g8;refine ac h ?_;rfl] at r;exact(bL _ _ r (af.mpr ⟨qX,a h (by decide),a h (by decide),decide_eq_true h,by decide,by decide,by decide,trivial⟩))
 ·have r:=M3 w.params c;rw[show iU c 3= .tup [.ints (fT c), .ints (g8 c)] by unfold fT g8;refine ac h ?_;rfl] at r;exact(bL _ _ r (af.mpr ⟨qX,a h (by decide),a h (by decide),a h (by decide),by decide,by decide,by decide,trivial⟩))
def fc (q:Vb) (s:VY):oG:=⟨"inner",q,LA s,cL s,HL s⟩
theorem Iw {p:α->Bool} {x:Option α} (h:x.any p=UX):∃y,x=UV y/\p y=UX:=by
 induction x with
 |none=>exact tf h.symm
 |some y=>exact aA y rfl h
theorem ux {x:Option α} (h:x.isSome=UX):∃y,x=UV y:=by
 induction x with
 |none=>exact tf h.symm
 |some y=>exact⟨y,rfl⟩
def AX (P:U6):U2->Bool
 | .ref p=>VA p P
 |_=>UY
theorem yR {P:U6} {v:U2} (h:AX P v=UX):v= .ref P:=by
 induction v using aaT with
 |ref p=>exact congrArg X6 (VI h)
 |_=>exact tf h.symm
def AY:U2->Option Int
 | .int q _=>UV q
 |_=>UW
theorem yS {v:U2} {q:Int} (h:AY v=UV q):∃t,v= .int q t:=by
 induction v using aaT with
 |int s t=>exact⟨t,congrArg (aaD · t) (U0 h)⟩
 |_=>exact nn h
def CY:U2->Option Bool
 | .bool q=>UV q
 |_=>UW
theorem Gi {v:U2} {q:Bool} (h:CY v=UV q):v= .bool q:=by
 induction v using aaT with
 |bool s=>exact congrArg adj (U0 h)
 |_=>exact nn h
def Kl (P:U6) (o:Xg) (vs:Array U2):Bool:=decide (o.cls= .type "code")&&((vs.toList[11]?).any (AX P)&&(AX P (vs.getD 11 .none)&&((ut (vs.getD 18 .none)).isSome&&((AY (vs.getD 7 .none)).isSome&&((CY (vs.getD 9 .none)).isSome&&(AY (vs.getD 10 .none)).isSome)))))
noncomputable def se (P:U6) (o:Xg):Bool:=(mU o).any (Kl P o)
theorem tm {K:List (U6×Xg)} {c P:U6} (h1:(K.lookup c).map (se P)=UV UX) (d:c≠P) (h:Vc) (e:bv K h):PySem.W.CodeHd h c P:=by
 refine aj (Option.map_eq_some_iff.mp h1) λo f g=>aj (Iw g) λvs k a=>aN (Bool.and_eq_true_iff.mp a) λl a=>aN (Bool.and_eq_true_iff.mp a) λa2 a=>aN (Bool.and_eq_true_iff.mp a) λm a=>aN (Bool.and_eq_true_iff.mp a) λn a=>aN (Bool.and_eq_true_iff.mp a) λp a=>aN (Bool.and_eq_true_iff.mp a) λr s=>(aj (Iw a2) λv u w=>bI (ux n) λq x=>bI (ux p) λi y=>bI (ux r) λb z=>bI (ux s) λj A=>bI (r9 x) λt B=>bI (yS y) λC D=>bI (yS A) λE F=>?_)
 exact⟨o,vs,q,t,i,C,b,j,E,e (c,o) (cA f),of_decide_eq_true l,pq k,Array.getElem?_toList.symm.trans (u.trans (congrArg UV (yR w))),yR m,B,D,Gi z,F,d⟩
theorem M4 {f:α->Nat} {l:List α} (h:(l.map f).Nodup) {a b:α} (d:a∈l) (g:b∈l) (e:f a=f b):a=b:=by
 induction l with
 |nil=>exact nomatch d
 |cons c l j=>exact aN (List.nodup_cons.mp h) λi k=>(List.mem_cons.mp d).elim (λp=>(List.mem_cons.mp g).elim (λq=>p.trans q.symm) λq=>absurd (List.mem_map.mpr (aA b q (e.symm.trans (congrArg f p)))) i) λp=>(List.mem_cons.mp g).elim (λq=>absurd (List.mem_map.mpr (aA a p (e.trans (congrArg f q)))) i) λq=>j k p q
theorem Rd (c:4≠a) (h:Vc) (b:bv (aF P) h):∃mg,h.Ns mainGlobals mg/\h.BuiltinsAt mg a:=by refine⟨_,CN h b,4,{cls:= .type "module",dict:=UV 0,data:= .plain,slots:= #[]},by rfl',by decide,by decide,c,b (4,_) (cA (by rfl')),rfl,rfl,rfl⟩
section
theorem wa {T:fB} (a:T∈oR) (t) (h:t∈oR) (e:t.P=T.P):t=T:=M4 (f:=fB.P) (by decide) h a e
theorem pC {T:fB} {q:Vb} (i:f9 Z fd f) (n:aI ((Wz J w).cx g os) C Z U) (o:T∈oR) (j:st= .FunctionDef (fc q st).name (fc q st).params (fc q st).body [] UW [] (fc q st).scope UW (fc q st).name (fV st))
  (a:fd.code= .ref T.c) (p:fd.globals=mainGlobals) (r:((aF w.params).lookup T.c).map (se T.P)=UV UX) (k:T.c≠T.P) (s:4≠T.P) (u:mainGlobals≠T.P) (v:fd.qualname++".<locals>."++(fc q st).name=q) (x:kd (fc q st).name C.names=UV .local∨kd (fc q st).name C.names=UV .cell) (h1:T.qual=q) (hl:T.line=(fV st).line) (d:T.col=(fV st).col)
  (l:(fc q st).params.defaults=[]) (m:(fc q st).params.kw_defaults=[]) (y:∀Z,annTrees (fc q st).params UW Z=[]) (e:(fc q st).qual=q):ae ((Wz J w).cx g os) A fz U (rN C (fc q st)) (aaU st Z) FR:=by
 have b:qualnameIn Z (fc q st).name (fc q st).name=(fc q st).qual:=by unfold qualnameIn;exact ac (by rw[fK];refine aD n.names ?_;rfl:Z.kindOf (fc q st).name=kd (fc q st).name C.names) (ac (if_neg (by rcases x with h|h<;>rw[h]<;>decide)) (ac i.qual (ac v (ac e rfl))))
 have:=J0 (c:=(Wz J w).cx g os) (A:=A) (fz:=fz) (U:=U) (Z:=Z) (C:=C) (T:=T) (t:=fc q st) (pos:=fV st) n o (wa o) (i.code.trans a) (tm r k) (i.glob.trans p) b (h1.trans e.symm) hl d (Rd s) u l m (y Z)
 rw[<-j] at this
 exact this
def qY (l:Nat) (q:Vb) (st:VY):Nat->Ec->Nat->Option (VY×M Fl):=λa C n=>match VA n l with
 |true=>UV (st,rN C (fc q st))
 |false=>UW
theorem pD {l L:Nat} {q:Vb} (h:∀C,C={names:=T.scope.names,cells:=[]++gR (L+1) T.cn,fid:=L,glob:=gl,trim:=T.trim}->ae c A fz U (rN C (fc q st)) (aaU st Z) FR):eh c A (be T [] gl (qY l q st N) (λa=>br) L) Z fz U:=
 ⟨λn d m e=>by
  have b:(match VA n l with|true=>UV (st,rN {names:=T.scope.names,cells:=[]++gR (L+1) T.cn,fid:=L,glob:=gl,trim:=T.trim} (fc q st))|false=>UW)=UV (d,m):=e;induction f:VA n l with
  |true=>simp only[f] at b;obtain⟨rfl,rfl⟩:=o4 b;exact h _ rfl
  |false=>(rw[f] at b;cases b),λa a a e=>nomatch e⟩
end
section
abbrev dy (P:Va) (T:FT) (Tb:bC) (N:Nat) (sp:Nat->Ec->Nat->Option (VY×M Fl)) (vs:List V) (objs:List O) (orc:List Bool):Option (D×St×List Prop):=bnd (aR T gl (sp N) (λa=>br) (Gz P Tb 6 N) [] vs) (λv=>cj P 9 v) ⟨objs,orc⟩
def AZ:List (Vb×Wk)->Bool
 |[]=>UX
 |p::r=> !BZ p.2&&AZ r
theorem eV:∀{l:List (Vb×Wk)},AZ l=UX->∀x∈l,x.2≠ .cell
 |p::r,h,x,a=>by
  dsimp only[AZ] at h;rw[VO] at h;rcases List.mem_cons.mp a with rfl|a
  ·intro e;rw[e] at h;cases h.1
  ·exact eV h.2 x a
theorem jv {ps:List Vb} (h:mV names [] ps=UX) (x:Vb) (a:x∈ps):names.lookup x=UV .local:=by
 rcases pr h x a with h|⟨_,h⟩
 ·exact h
 ·cases h
def fw:oG:=fc "_digits2int.<locals>.inner" (aw gX.body 0)
def nY:=qY 101 "_digits2int.<locals>.inner" (aw gX.body 0)
theorem cW:az fw where
 bind:=λe f h i m j=>by
  refine p9 (AH (j.trans (show(eE fw).params.length=2 by rfl'))) λa b c=>(ac c ?_)
  obtain⟨n,o,p,b,q,g,r,d,k,l,s,t,co,u,v⟩:=e;cases f;cases h;cases i;rfl'
 nc:=eV (by rfl')
 kinds:=jv (by rfl')
 co:=by rfl'
 gen:=by rfl'
 kind:=by rfl'
abbrev aW (n:Nat):Prop:=n < 4611686018427387904
theorem RW (P:Va) (a b c w:Int):bD 0 (dy P gX [] 30 nY [.dat (.ints [a,b,c]), .int w] [] [UX,UY,UY,UX,UX,UX])=
  UV (.int ((c*2^(1*w).toNat+b)*2^(1*w).toNat+a),[],
   [aw gX.body 0=aw gX.body 0,aW 3,UX=UX,aW 3,az fw,UY=UY,(0:Int)<=1,VJ 1 w,az fw,UY=UY,(0:Int)<=1,VJ 1 w,az fw,UX=UX,(2:Nat) < 3/\aW 2,
    (0:Int)<=1*w/\(U5 c:Int)+1*w<=2^27,az fw,UX=UX,(1:Nat) < 3/\aW 1,(0:Int)<=1*w/\(U5 (c*2^(1*w).toNat+b):Int)+1*w<=2^27,az fw,UX=UX,(0:Nat) < 3/\aW 0]):=by rfl'
set_option tactic.hygienic true in
theorem sf {x:Int} (h:x.natAbs < 2^k):U5 x<=k:=by
 dsimp only[U5];split
 ·exact W2 _
 ·rename_i a;have:=(abN (by simpa using a:x.natAbs≠0)).mpr h;exact this
noncomputable def ek (w:Int):List Int->Int
 |[]=>0
 |x::r=>ek w r*2^w.toNat+x
abbrev CZ:Sp:=fW (X:=List Int×Int) (λvs=>(cr (nV vs 0),bU (nV vs 1))) (λx=>[.dat (.ints x.1), .int x.2]) (λx=> .int (ek x.2 x.1)) λx=>x.1.length=3/\0<=x.2/\x.2<=100/\(ay 0 x.1 0).natAbs < 2^100/\(ay 0 x.1 1).natAbs < 2^100/\(ay 0 x.1 2).natAbs < 2^100
theorem wb (J:Vz) (w:V6) {L:Nat} (b:f9 Z r8 71) (c:aI ((Wz J w).cx g os) (be gX [] gl (nY N) (λa=>br) L) Z U):
  eh ((Wz J w).cx g os) A (be gX [] gl (nY N) (λa=>br) L) Z fz U:=
 pD λC d=>by exact ac d (pC (T:=tI 70 66 101 4 "_digits2int.<locals>.inner") b {c with} (by simp[oR]) (by rfl') (by rfl') rfl (by rfl') (by decide) (by decide) (by decide) (by rfl') (.inr (by rfl')) rfl (by rfl') (by rfl') (by rfl') (by rfl') (λZ=>by rfl') (by rfl'))
theorem C0 {x y:Int} {w:Nat} (b:x.natAbs < 2^k) (c:y.natAbs < 2^100) (d:100<=k):(x*2^w+y).natAbs < 2^(k+w+1):=by
 have e:(x*2^w).natAbs=x.natAbs*2^w:=by rw[Int.natAbs_mul,Int.natAbs_pow];rfl
 have a:x.natAbs*2^w < 2^k*2^w:=ab8 b (Xs w);have f:(2:Nat)^100<=2^(k+w):=WP (by decide) (U1 d (Vm _ _));have g:(2:Nat)^(k+w+1)=2^(k+w)+2^(k+w):=(aaq ..).trans (Nat.mul_two _);simp only[<-XC] at a;exact Vq (Vl (Int.natAbs_add_le _ _:(x*2^w+y).natAbs<=(x*2^w).natAbs+y.natAbs) (Nat.add_lt_add (Vl (Ve e) a) (Vq c f))) (Ve g.symm)
theorem Km (J:Vz) (w:V6):aX (Wz J w) 8 71 CZ:=
 dq (X:=List Int×Int) (lev:=0) (k:=6) (T:=gX) (Tb:=[]) (defs:=[]) (spS:=nY) (spE:=λd d=>br) AI rfl rfl (λd h=>nomatch h) (c8 AI) (λd d d d d=>trivial) (λd d d d d d d d d d d p q=>wb J w p q) λx j=>by
  obtain⟨L,v⟩:=x;refine yd j λi h0 l r g e=>?_;clear j;dsimp only at i h0 l r g e;refine aG (j6 i) λa u η f=>?_;subst η;obtain⟨b,c,rfl⟩:=uw f;clear i f;have g:b.natAbs < 2^100:=g;have e:c.natAbs < 2^100:=e;have m:(1*v).toNat=v.toNat:=by rw[ZR]
  have s:v.toNat<=100:=Int.toNat_le.mpr l;have t:ek v [a,b,c]=(c*2^(1*v).toNat+b)*2^(1*v).toNat+a:=by refine ac m ?_;simp[ek]
  have y:=sf e;have z:=sf (C0 (w:=v.toNat) e g (Vr _));have n:VJ 1 v:= .of_left (by decide);have o:=RW w.params a b c v;rw[<-t] at o;exact⟨30,_,_,o,⟨rfl,by decide,rfl,by decide,cW,rfl,by decide,n,cW,rfl,by decide,n,cW,rfl,by decide,⟨by lia,by lia⟩,cW,rfl,by decide,⟨by lia,by refine(m).symm▸ ?_;lia⟩,cW,rfl,by decide,trivial⟩,rfl⟩
theorem RX (P:Va) (a b c d e f g h i w:Int):bD 0 (dy P gX [] 40 nY [.dat (.ints [a,b,c,d,e,f,g,h,i]), .int w] [] [UX,UY,UY,UY,UY,UX,UX,UX,UY,UX,UX,UY,UY,UX,UX,UY,UX,UX])=
  UV (.int ((((i*2^(1*w).toNat+h)*2^(1*w).toNat+g)*2^(2*w).toNat+(f*2^(1*w).toNat+e))*2^(4*w).toNat+((d*2^(1*w).toNat+c)*2^(2*w).toNat+(b*2^(1*w).toNat+a))),[],
   [aw gX.body 0=aw gX.body 0,aW 9,UX=UX,aW 9,az fw,UY=UY,(0:Int)<=1,VJ 4 w,az fw,UY=UY,(0:Int)<=1,VJ 2 w,az fw,UY=UY,(0:Int)<=1,VJ 1 w,az fw,UY=UY,(0:Int)<=1,VJ 1 w,az fw,UX=UX,(8:Nat) < 9/\aW 8,(0:Int)<=1*w/\(U5 i:Int)+1*w<=2^27,az fw,UX=UX,(7:Nat) < 9/\aW 7,(0:Int)<=1*w/\(U5 (i*2^(1*w).toNat+h):Int)+1*w<=2^27,az fw,UX=UX,(6:Nat) < 9/\aW 6,(0:Int)<=2*w/\(U5 ((i*2^(1*w).toNat+h)*2^(1*w).toNat+g):Int)+2*w<=2^27,az fw,UY=UY,(0:Int)<=1,VJ 1 w,az fw,UX=UX,(5:Nat) < 9/\aW 5,(0:Int)<=1*w/\(U5 f:Int)+1*w<=2^27,az fw,UX=UX,(4:Nat) < 9/\aW 4,(0:Int)<=4*w/\(U5 (((i*2^(1*w).toNat+h)*2^(1*w).toNat+g)*2^(2*w).toNat+(f*2^(1*w).toNat+e)):Int)+4*w<=2^27,az fw,UY=UY,(0:Int)<=1,VJ 2 w,az fw,UY=UY,(0:Int)<=1,VJ 1 w,az fw,UX=UX,(3:Nat) < 9/\aW 3,(0:Int)<=1*w/\(U5 d:Int)+1*w<=2^27,az fw,UX=UX,(2:Nat) < 9/\aW 2,(0:Int)<=2*w/\(U5 (d*2^(1*w).toNat+c):Int)+2*w<=2^27,az fw,UY=UY,(0:Int)<=1,VJ 1 w,az fw,UX=UX,(1:Nat) < 9/\aW 1,(0:Int)<=1*w/\(U5 b:Int)+1*w<=2^27,az fw,UX=UX,(0:Nat) < 9/\aW 0]):=by rfl'
theorem C1 {x y:Int} {n l:Nat} (b:x.natAbs < 2^k) (c:y.natAbs < 2^j) (h1:k+n<=l) (h2:j<=l):(x*2^n+y).natAbs < 2^(l+1):=by
 have d:(x*2^n).natAbs=x.natAbs*2^n:=by rw[Int.natAbs_mul,Int.natAbs_pow];rfl
 have a:x.natAbs*2^n < 2^k*2^n:=ab8 b (Xs n);simp only[<-XC] at a;have e:(2:Nat)^(k+n)<=2^l:=WP (by decide) h1;have f:(2:Nat)^j<=2^l:=WP (by decide) h2;have g:(2:Nat)^(l+1)=2^l+2^l:=(aaq ..).trans (Nat.mul_two _);exact Vq (Vl (Int.natAbs_add_le _ _:(x*2^n+y).natAbs<=(x*2^n).natAbs+y.natAbs) (Nat.add_lt_add (Vl (Ve d) (Vq a e)) (Vq c f))) (Ve g.symm)
theorem bw {x:Int} {m:Int} (a:x.natAbs < 2^k) (h0:0<=m) (h1:(k:Int)+m<=134217728):0<=m/\(U5 x:Int)+m<=2^27:=by have:=sf a;exact⟨h0,VM (X8 (Int.ofNat_le.mpr this) m) (VM h1 (by decide))⟩
theorem tn {x:Int} {m:Int} (a:x.natAbs < 2^k) (h:0<=m/\m<=400) (b:k<=134217328):0<=m/\(U5 x:Int)+m<=2^27:=bw a h.1 (VM (aaN (Int.ofNat_le.mpr b) h.2) (by decide))
theorem Kn (x:Int) (n m:Nat):x*2^(n+m)=x*2^n*2^m:=by rw[Int.pow_add,aa1]
abbrev C2:Sp:=fW (X:=List Int×Int) (λvs=>(cr (nV vs 0),bU (nV vs 1))) (λx=>[.dat (.ints x.1), .int x.2]) (λx=> .int (ek x.2 x.1)) λx=>x.1.length=9/\0<=x.2/\x.2<=100/\∀y∈x.1,y.natAbs < 2^100
theorem Ko (J:Vz) (v:V6):aX (Wz J v) 8 71 C2:=
 dq (X:=List Int×Int) (lev:=0) (k:=6) (T:=gX) (Tb:=[]) (defs:=[]) (spS:=nY) (spE:=λj j=>br) AI rfl rfl (λj h=>nomatch h) (c8 AI) (λj j j j j=>trivial) (λj j j j j j j j j j j N O=>wb J v N O) λx D=>by
  obtain⟨L,w⟩:=x;refine pZ D λy h0 r m=>?_;clear D;dsimp only at y h0 r m;refine aG (j6 y) λa Z η s=>?_;subst η;refine aG (j6 s) λb L2 η t=>?_;subst η;obtain⟨c,d,e,f,g,h,i,rfl⟩:=Iv t;clear y s t;have P:=m c (.tail _ (.tail _ (.head _)));have E:=m d (.tail _ (.tail _ (.tail _ (.head _))));have Q:=m e (.tail _ (.tail _ (.tail _ (.tail _ (.head _)))));have F:=m f (.tail _ (.tail _ (.tail _ (.tail _ (.tail _ (.head _))))));have R:=m g (.tail _ (.tail _ (.tail _ (.tail _ (.tail _ (.tail _ (.head _)))))));have A:=m h (.tail _ (.tail _ (.tail _ (.tail _ (.tail _ (.tail _ (.tail _ (.head _))))))));have G:=m i (.tail _ (.tail _ (.tail _ (.tail _ (.tail _ (.tail _ (.tail _ (.tail _ (.head _)))))))));obtain⟨n,rfl⟩:∃n:Nat,w=n:=⟨w.toNat,(VN h0).symm⟩
  have w1:(1*(n:Int)).toNat=n:=congrArg XS (ZR _);have H:(2*(n:Int)).toNat=n+n:=congrArg XS (adk (n:Int));have S:(4*(n:Int)).toNat=n+n+(n+n):=congrArg XS ((aa1 2 2 (n:Int)).trans ((adk _).trans (congrArg (λz=>z+z) (adk (n:Int)))));have B:n<=100:=Int.ofNat_le.mp r;have u:(1*(n:Int)).toNat<=100:=U1 (Ve w1) B;have U:(2*(n:Int)).toNat<=200:=U1 (Ve H) (VD B B);have o:0<=1*(n:Int)/\1*(n:Int)<=400:=ac (ZR _) ⟨h0,VM r (by decide)⟩;have p:0<=2*(n:Int)/\2*(n:Int)<=400:=⟨Int.mul_nonneg (by decide) h0,VM (abO r (by decide)) (by decide)⟩
  have q:0<=4*(n:Int)/\4*(n:Int)<=400:=⟨Int.mul_nonneg (by decide) h0,VM (abO r (by decide)) (by decide)⟩
  have I:=C1 (n:=(1*(n:Int)).toNat) (l:=200) G A (WF u _) (by decide);have K:=C1 (n:=(1*(n:Int)).toNat) (l:=301) I R (WF u _) (by decide);have V:=C1 (n:=(1*(n:Int)).toNat) (l:=200) F Q (WF u _) (by decide);have W:=C1 (n:=(2*(n:Int)).toNat) (l:=502) K V (WF U _) (by decide);have Y:=C1 (n:=(1*(n:Int)).toNat) (l:=200) E P (WF u _) (by decide);have C:ek n [a,b,c,d,e,f,g,h,i]=((((i*2^(1*(n:Int)).toNat+h)*2^(1*(n:Int)).toNat+g)*2^(2*(n:Int)).toNat+(f*2^(1*(n:Int)).toNat+e))*2^(4*(n:Int)).toNat+((d*2^(1*(n:Int)).toNat+c)*2^(2*(n:Int)).toNat+(b*2^(1*(n:Int)).toNat+a))):=by refine ac w1 (ac H (ac S ?_));simp only[ek,Vx,Kn];simp only[ZS,Int.zero_mul,aar];simp only[Int.add_assoc]
  have M:=RX v.params a b c d e f g h i n;rw[<-C] at M;exact⟨40,_,_,M,⟨rfl,by decide,rfl,by decide,cW,rfl,by decide,Vh (by decide),cW,rfl,by decide,Vh (by decide),cW,rfl,by decide,Vh (by decide),cW,rfl,by decide,Vh (by decide),cW,rfl,by decide,tn G (by first|exact o|exact p|exact q) (by decide),cW,rfl,by decide,tn I (by first|exact o|exact p|exact q) (by decide),cW,rfl,by decide,tn K (by first|exact o|exact p|exact q) (by decide),cW,rfl,by decide,Vh (by decide),cW,rfl,by decide,tn F (by first|exact o|exact p|exact q) (by decide),cW,rfl,by decide,tn W (by first|exact o|exact p|exact q) (by decide),cW,rfl,by decide,Vh (by decide),cW,rfl,by decide,Vh (by decide),cW,rfl,by decide,tn E (by first|exact o|exact p|exact q) (by decide),cW,rfl,by decide,tn Y (by first|exact o|exact p|exact q) (by decide),cW,rfl,by decide,Vh (by decide),cW,rfl,by decide,tn (m b (.tail _ (.head _))) (by first|exact o|exact p|exact q) (by decide),cW,rfl,by decide,trivial⟩,rfl⟩
end
noncomputable def Gj (k:Nat):M Unit:=λS=>match S.H[S.H.length - 1]? with
 |some (.ints ns)=>UV ((),⟨S.H.set (S.H.length - 1) (.ints (V8 k 0)),S.orc⟩,[ns=V8 k 0])
 |_=>UW
def A3 (F:bP) (st:VY):M Fl:=bnd (F.ex st) λf=>bnd (guess 12 0) λk=>bnd (Gj k) λa=>ret f
section
theorem A4 {n:Nat} {S:St} {p:List Prop} (e:guess n k S=UV (j,S',p)):S'.H=S.H/\p=[]:=OK.use e λK b=>OK.guess λa a=>b _ _ _ ⟨rfl,rfl⟩
theorem Gk {n:Nat}:Gh c fz U (guess n k) (λa a a=>True):=λS j f p e a b ρ' h k q x=>by refine aN (A4 e) λd rfl=>?_;rw[<-d] at x;exact(cE b (Le.refl _) x trivial)
theorem Kp:Gh c fz U (Gj k) (λa a a=>True):=λS j r p e g b ρ' h s q x=>by
 unfold Gj at e;induction d:S.H[S.H.length - 1]? with
 |none=>rw[d] at e;exact nn e
 |some l=>
 rw[d] at e;induction l with
 |«ints» ns=>
  refine b9 (db e) λt m n=>?_;subst m;subst n;have o:ns=V8 k 0:=g.1;refine(cE b (Le.refl _) ?_ trivial);have:S.H.set (S.H.length - 1) (.ints (V8 k 0))=S.H:=by
   refine aD o (abf λi=>?_);refine ac (List.getElem?_set) ?_;by_cases f:S.H.length - 1=i
   ·exact ac (if_pos f) (ac (if_pos (bn d)) (f▸d.symm))
   ·exact ac (if_neg f) rfl
  refine(?_:HR c b ρ' (S.H.set (S.H.length - 1) (.ints (V8 k 0))) h);exact ac this x
 |_=>exact nn e
theorem C3 (G:bM c A C Z fz U) (d:bG c A C Z F) (st:VY):ae c A fz U (A3 F st) (aaU st Z) FR:=by
 refine ae.eq (t':=aaU st Z >>= λx=>pure x) (by simp) ?_;exact ae.bind (d.ex _ _ G st) λm n f x o p b=>ae.ghost Gk λq r k e g a=>ae.ghost Kp λs t a h i a=>ae.ret λu w j l=>by
  induction f with
  |ret v=>cases x<;>first|exact b.elim|exact VR.mono ((e.trans h).trans j) ((g.trans i).trans l) b
  |_=>cases x<;>first|exact b.elim|trivial
end
noncomputable def M5:Vb:="_int2digits.<locals>.inner"
def aM:oG:=fc M5 (aw a9.body 1)
def cD (P:Va):Nat->Ec->Nat->Option (VY×M Fl):=λN C n=>match VA n 84 with
 |true=>UV (aw a9.body 0,A3 (Gz P [] 6 N {C with spS:=bk,spE:=br}) (aw a9.body 0))
 |false=>qY 86 M5 (aw a9.body 1) N C n
theorem aB:az aM where
 bind:=λf h i j n l=>by
  refine ky (pv (l.trans (show(eE aM).params.length=3 by rfl'))) λa b c e=>(ac e ?_)
  obtain⟨o,q,p,b,r,g,s,d,k,m,t,u,co,v,w⟩:=f;cases h;cases i;cases j;rfl'
 nc:=eV (by rfl')
 kinds:=jv (by rfl')
 co:=by rfl'
 gen:=by rfl'
 kind:=by rfl'
noncomputable def ah (x:Int) (s w:Int):Int:=x.fdiv (2^(s*w).toNat)
noncomputable def am (x:Int) (s w:Int):Int:=Builtin.bitXor x (ah x s w*2^(s*w).toNat)
noncomputable def cP (a w:Int):Int:=((U5 a:Int)+w - 1).fdiv w
def fX (a w:Int) (k:Nat):List Prop:=[aw a9.body 0=aw a9.body 0,(1:Nat)<=U9,w≠0/\w.natAbs < 1073741824,(-2^63:Int)<=cP a w/\cP a w < 2^63/\1*(cP a w).toNat<=U9,rep (cP a w).toNat [(0:Int)]=V8 k 0,aw a9.body 1=aw a9.body 1]
theorem RY (P:Va) (a w:Int):bD 0 (dy P a9 [] 40 (cD P) [.int a, .int w] [] [UX,UY])=UV (.ints [],[],fX a w 0++[(!decide (a=0))=UY]):=by rfl'
theorem R0 (P:Va) (a w:Int):bD 0 (dy P a9 [] 40 (cD P) [.int a, .int w] [] [UY,UX,UX,UX])=UV (.ints [a],[],fX a w 1++([(!decide (a=0))=UX,aW 1,az aM,UX=UX,(0:Nat) < 1/\aW 0])):=by rfl'
theorem R3 (P:Va) (a w:Int):bD 0 (dy P a9 [] 40 (cD P) [.int a, .int w] [] [UY,UY,UX,UX,UY,UX,UX])=UV (.ints [(am a 1 w),(ah a 1 w)],[],fX a w 2++([(!decide (a=0))=UX,aW 2,az aM,UY=UY,(0:Int)<=1,VJ 1 w,(0:Int)<=1*w,(0:Int)<=1*w/\(U5 (ah a 1 w):Int)+1*w<=2^27,az aM,UX=UX,(0:Nat) < 2/\aW 0,az aM,UX=UX,(1:Nat) < 2/\aW 1])):=by rfl'
theorem R4 (P:Va) (a w:Int):bD 0 (dy P a9 [] 40 (cD P) [.int a, .int w] [] [UY,UY,UY,UX,UX,UY,UX,UY,UX,UX])=UV (.ints [(am a 1 w),(am (ah a 1 w) 1 w),(ah (ah a 1 w) 1 w)],[],fX a w 3++([(!decide (a=0))=UX,aW 3,az aM,UY=UY,(0:Int)<=1,VJ 1 w,(0:Int)<=1*w,(0:Int)<=1*w/\(U5 (ah a 1 w):Int)+1*w<=2^27,az aM,UX=UX,(0:Nat) < 3/\aW 0,az aM,UY=UY,(0:Int)<=1,VJ 1 w,(0:Int)<=1*w,(0:Int)<=1*w/\(U5 (ah (ah a 1 w) 1 w):Int)+1*w<=2^27,az aM,UX=UX,(1:Nat) < 3/\aW 1,az aM,UX=UX,(2:Nat) < 3/\aW 2])):=by rfl'
theorem R5 (P:Va) (a w:Int):bD 0 (dy P a9 [] 40 (cD P) [.int a, .int w] [] [UY,UY,UY,UY,UX,UX,UY,UY,UX,UX,UY,UX,UX])=UV (.ints [(am (am a 2 w) 1 w),(ah (am a 2 w) 1 w),(am (ah a 2 w) 1 w),(ah (ah a 2 w) 1 w)],[],fX a w 4++([(!decide (a=0))=UX,aW 4,az aM,UY=UY,(0:Int)<=1,VJ 2 w,(0:Int)<=2*w,(0:Int)<=2*w/\(U5 (ah a 2 w):Int)+2*w<=2^27,az aM,UY=UY,(0:Int)<=1,VJ 1 w,(0:Int)<=1*w,(0:Int)<=1*w/\(U5 (ah (am a 2 w) 1 w):Int)+1*w<=2^27,az aM,UX=UX,(0:Nat) < 4/\aW 0,az aM,UX=UX,(1:Nat) < 4/\aW 1,az aM,UY=UY,(0:Int)<=1,VJ 1 w,(0:Int)<=1*w,(0:Int)<=1*w/\(U5 (ah (ah a 2 w) 1 w):Int)+1*w<=2^27,az aM,UX=UX,(2:Nat) < 4/\aW 2,az aM,UX=UX,(3:Nat) < 4/\aW 3])):=by rfl'
theorem R6 (P:Va) (a w:Int):bD 0 (dy P a9 [] 40 (cD P) [.int a, .int w] [] [UY,UY,UY,UY,UY,UX,UX,UY,UY,UX,UX,UY,UX,UY,UX,UX])=UV (.ints [(am (am a 2 w) 1 w),(ah (am a 2 w) 1 w),(am (ah a 2 w) 1 w),(am (ah (ah a 2 w) 1 w) 1 w),(ah (ah (ah a 2 w) 1 w) 1 w)],[],fX a w 5++([(!decide (a=0))=UX,aW 5,az aM,UY=UY,(0:Int)<=1,VJ 2 w,(0:Int)<=2*w,(0:Int)<=2*w/\(U5 (ah a 2 w):Int)+2*w<=2^27,az aM,UY=UY,(0:Int)<=1,VJ 1 w,(0:Int)<=1*w,(0:Int)<=1*w/\(U5 (ah (am a 2 w) 1 w):Int)+1*w<=2^27,az aM,UX=UX,(0:Nat) < 5/\aW 0,az aM,UX=UX,(1:Nat) < 5/\aW 1,az aM,UY=UY,(0:Int)<=1,VJ 1 w,(0:Int)<=1*w,(0:Int)<=1*w/\(U5 (ah (ah a 2 w) 1 w):Int)+1*w<=2^27,az aM,UX=UX,(2:Nat) < 5/\aW 2,az aM,UY=UY,(0:Int)<=1,VJ 1 w,(0:Int)<=1*w,(0:Int)<=1*w/\(U5 (ah (ah (ah a 2 w) 1 w) 1 w):Int)+1*w<=2^27,az aM,UX=UX,(3:Nat) < 5/\aW 3,az aM,UX=UX,(4:Nat) < 5/\aW 4])):=by rfl'
theorem R7 (P:Va) (a w:Int):bD 0 (dy P a9 [] 40 (cD P) [.int a, .int w] [] [UY,UY,UY,UY,UY,UY,UX,UX,UY,UY,UX,UY,UX,UX,UY,UX,UY,UX,UX])=UV (.ints [(am (am a 3 w) 1 w),(am (ah (am a 3 w) 1 w) 1 w),(ah (ah (am a 3 w) 1 w) 1 w),(am (ah a 3 w) 1 w),(am (ah (ah a 3 w) 1 w) 1 w),(ah (ah (ah a 3 w) 1 w) 1 w)],[],fX a w 6++([(!decide (a=0))=UX,aW 6,az aM,UY=UY,(0:Int)<=1,VJ 3 w,(0:Int)<=3*w,(0:Int)<=3*w/\(U5 (ah a 3 w):Int)+3*w<=2^27,az aM,UY=UY,(0:Int)<=1,VJ 1 w,(0:Int)<=1*w,(0:Int)<=1*w/\(U5 (ah (am a 3 w) 1 w):Int)+1*w<=2^27,az aM,UX=UX,(0:Nat) < 6/\aW 0,az aM,UY=UY,(0:Int)<=1,VJ 1 w,(0:Int)<=1*w,(0:Int)<=1*w/\(U5 (ah (ah (am a 3 w) 1 w) 1 w):Int)+1*w<=2^27,az aM,UX=UX,(1:Nat) < 6/\aW 1,az aM,UX=UX,(2:Nat) < 6/\aW 2,az aM,UY=UY,(0:Int)<=1,VJ 1 w,(0:Int)<=1*w,(0:Int)<=1*w/\(U5 (ah (ah a 3 w) 1 w):Int)+1*w<=2^27,az aM,UX=UX,(3:Nat) < 6/\aW 3,az aM,UY=UY,(0:Int)<=1,VJ 1 w,(0:Int)<=1*w,(0:Int)<=1*w/\(U5 (ah (ah (ah a 3 w) 1 w) 1 w):Int)+1*w<=2^27,az aM,UX=UX,(4:Nat) < 6/\aW 4,az aM,UX=UX,(5:Nat) < 6/\aW 5])):=by rfl'
theorem R8 (P:Va) (a w:Int):bD 0 (dy P a9 [] 40 (cD P) [.int a, .int w] [] [UY,UY,UY,UY,UY,UY,UY,UX,UX,UY,UY,UX,UY,UX,UX,UY,UY,UX,UX,UY,UX,UX])=UV (.ints [(am (am a 3 w) 1 w),(am (ah (am a 3 w) 1 w) 1 w),(ah (ah (am a 3 w) 1 w) 1 w),(am (am (ah a 3 w) 2 w) 1 w),(ah (am (ah a 3 w) 2 w) 1 w),(am (ah (ah a 3 w) 2 w) 1 w),(ah (ah (ah a 3 w) 2 w) 1 w)],[],fX a w 7++([(!decide (a=0))=UX,aW 7,az aM,UY=UY,(0:Int)<=1,VJ 3 w,(0:Int)<=3*w,(0:Int)<=3*w/\(U5 (ah a 3 w):Int)+3*w<=2^27,az aM,UY=UY,(0:Int)<=1,VJ 1 w,(0:Int)<=1*w,(0:Int)<=1*w/\(U5 (ah (am a 3 w) 1 w):Int)+1*w<=2^27,az aM,UX=UX,(0:Nat) < 7/\aW 0,az aM,UY=UY,(0:Int)<=1,VJ 1 w,(0:Int)<=1*w,(0:Int)<=1*w/\(U5 (ah (ah (am a 3 w) 1 w) 1 w):Int)+1*w<=2^27,az aM,UX=UX,(1:Nat) < 7/\aW 1,az aM,UX=UX,(2:Nat) < 7/\aW 2,az aM,UY=UY,(0:Int)<=1,VJ 2 w,(0:Int)<=2*w,(0:Int)<=2*w/\(U5 (ah (ah a 3 w) 2 w):Int)+2*w<=2^27,az aM,UY=UY,(0:Int)<=1,VJ 1 w,(0:Int)<=1*w,(0:Int)<=1*w/\(U5 (ah (am (ah a 3 w) 2 w) 1 w):Int)+1*w<=2^27,az aM,UX=UX,(3:Nat) < 7/\aW 3,az aM,UX=UX,(4:Nat) < 7/\aW 4,az aM,UY=UY,(0:Int)<=1,VJ 1 w,(0:Int)<=1*w,(0:Int)<=1*w/\(U5 (ah (ah (ah a 3 w) 2 w) 1 w):Int)+1*w<=2^27,az aM,UX=UX,(5:Nat) < 7/\aW 5,az aM,UX=UX,(6:Nat) < 7/\aW 6])):=by rfl'
theorem R9 (P:Va) (a w:Int):bD 0 (dy P a9 [] 40 (cD P) [.int a, .int w] [] [UY,UY,UY,UY,UY,UY,UY,UY,UX,UX,UY,UY,UY,UX,UX,UY,UX,UX,UY,UY,UX,UX,UY,UX,UX])=UV (.ints [(am (am (am a 4 w) 2 w) 1 w),(ah (am (am a 4 w) 2 w) 1 w),(am (ah (am a 4 w) 2 w) 1 w),(ah (ah (am a 4 w) 2 w) 1 w),(am (am (ah a 4 w) 2 w) 1 w),(ah (am (ah a 4 w) 2 w) 1 w),(am (ah (ah a 4 w) 2 w) 1 w),(ah (ah (ah a 4 w) 2 w) 1 w)],[],fX a w 8++([(!decide (a=0))=UX,aW 8,az aM,UY=UY,(0:Int)<=1,VJ 4 w,(0:Int)<=4*w,(0:Int)<=4*w/\(U5 (ah a 4 w):Int)+4*w<=2^27,az aM,UY=UY,(0:Int)<=1,VJ 2 w,(0:Int)<=2*w,(0:Int)<=2*w/\(U5 (ah (am a 4 w) 2 w):Int)+2*w<=2^27,az aM,UY=UY,(0:Int)<=1,VJ 1 w,(0:Int)<=1*w,(0:Int)<=1*w/\(U5 (ah (am (am a 4 w) 2 w) 1 w):Int)+1*w<=2^27,az aM,UX=UX,(0:Nat) < 8/\aW 0,az aM,UX=UX,(1:Nat) < 8/\aW 1,az aM,UY=UY,(0:Int)<=1,VJ 1 w,(0:Int)<=1*w,(0:Int)<=1*w/\(U5 (ah (ah (am a 4 w) 2 w) 1 w):Int)+1*w<=2^27,az aM,UX=UX,(2:Nat) < 8/\aW 2,az aM,UX=UX,(3:Nat) < 8/\aW 3,az aM,UY=UY,(0:Int)<=1,VJ 2 w,(0:Int)<=2*w,(0:Int)<=2*w/\(U5 (ah (ah a 4 w) 2 w):Int)+2*w<=2^27,az aM,UY=UY,(0:Int)<=1,VJ 1 w,(0:Int)<=1*w,(0:Int)<=1*w/\(U5 (ah (am (ah a 4 w) 2 w) 1 w):Int)+1*w<=2^27,az aM,UX=UX,(4:Nat) < 8/\aW 4,az aM,UX=UX,(5:Nat) < 8/\aW 5,az aM,UY=UY,(0:Int)<=1,VJ 1 w,(0:Int)<=1*w,(0:Int)<=1*w/\(U5 (ah (ah (ah a 4 w) 2 w) 1 w):Int)+1*w<=2^27,az aM,UX=UX,(6:Nat) < 8/\aW 6,az aM,UX=UX,(7:Nat) < 8/\aW 7])):=by rfl'
theorem Sa (P:Va) (a w:Int):bD 0 (dy P a9 [] 40 (cD P) [.int a, .int w] [] [UY,UY,UY,UY,UY,UY,UY,UY,UY,UX,UX,UY,UY,UY,UX,UX,UY,UX,UX,UY,UY,UX,UX,UY,UX,UY,UX,UX])=UV (.ints [(am (am (am a 4 w) 2 w) 1 w),(ah (am (am a 4 w) 2 w) 1 w),(am (ah (am a 4 w) 2 w) 1 w),(ah (ah (am a 4 w) 2 w) 1 w),(am (am (ah a 4 w) 2 w) 1 w),(ah (am (ah a 4 w) 2 w) 1 w),(am (ah (ah a 4 w) 2 w) 1 w),(am (ah (ah (ah a 4 w) 2 w) 1 w) 1 w),(ah (ah (ah (ah a 4 w) 2 w) 1 w) 1 w)],[],fX a w 9++([(!decide (a=0))=UX,aW 9,az aM,UY=UY,(0:Int)<=1,VJ 4 w,(0:Int)<=4*w,(0:Int)<=4*w/\(U5 (ah a 4 w):Int)+4*w<=2^27,az aM,UY=UY,(0:Int)<=1,VJ 2 w,(0:Int)<=2*w,(0:Int)<=2*w/\(U5 (ah (am a 4 w) 2 w):Int)+2*w<=2^27,az aM,UY=UY,(0:Int)<=1,VJ 1 w,(0:Int)<=1*w,(0:Int)<=1*w/\(U5 (ah (am (am a 4 w) 2 w) 1 w):Int)+1*w<=2^27,az aM,UX=UX,(0:Nat) < 9/\aW 0,az aM,UX=UX,(1:Nat) < 9/\aW 1,az aM,UY=UY,(0:Int)<=1,VJ 1 w,(0:Int)<=1*w,(0:Int)<=1*w/\(U5 (ah (ah (am a 4 w) 2 w) 1 w):Int)+1*w<=2^27,az aM,UX=UX,(2:Nat) < 9/\aW 2,az aM,UX=UX,(3:Nat) < 9/\aW 3,az aM,UY=UY,(0:Int)<=1,VJ 2 w,(0:Int)<=2*w,(0:Int)<=2*w/\(U5 (ah (ah a 4 w) 2 w):Int)+2*w<=2^27,az aM,UY=UY,(0:Int)<=1,VJ 1 w,(0:Int)<=1*w,(0:Int)<=1*w/\(U5 (ah (am (ah a 4 w) 2 w) 1 w):Int)+1*w<=2^27,az aM,UX=UX,(4:Nat) < 9/\aW 4,az aM,UX=UX,(5:Nat) < 9/\aW 5,az aM,UY=UY,(0:Int)<=1,VJ 1 w,(0:Int)<=1*w,(0:Int)<=1*w/\(U5 (ah (ah (ah a 4 w) 2 w) 1 w):Int)+1*w<=2^27,az aM,UX=UX,(6:Nat) < 9/\aW 6,az aM,UY=UY,(0:Int)<=1,VJ 1 w,(0:Int)<=1*w,(0:Int)<=1*w/\(U5 (ah (ah (ah (ah a 4 w) 2 w) 1 w) 1 w):Int)+1*w<=2^27,az aM,UX=UX,(7:Nat) < 9/\aW 7,az aM,UX=UX,(8:Nat) < 9/\aW 8])):=by rfl'
noncomputable def ji (x n j:Nat):Nat:=x / 2^(j*n) % 2^n
noncomputable def wc (n:Nat):Nat->Nat->Nat->List Nat
 |0,x,_=>[x]
 |f+1,x,m=>match abg m 1 with
  |true=>[x]
  |false=>wc n f (x % 2^(m / 2*n)) (m / 2)++wc n f (x / 2^(m / 2*n)) (m - m / 2)
theorem M6 {x n s:Nat} (h:j < s):ji (x % 2^(s*n)) n j=ji x n j:=by
 dsimp only[ji];have a:(s - j)*n=n+(s - j - 1)*n:=by
  have:s - j=1+(s - j - 1):=((Wi _ _).trans (Wm (YO h))).symm
  conv=>lhs;rw[this,YE,XD]
 rw[(by rw[<-YE];congr 1;exact(XW (Wy h)).symm:s*n=j*n+(s - j)*n),XC,Nat.mod_mul_right_div_self,a,XC,Nat.mod_mul_right_mod]
theorem Kq {x n s:Nat}:ji (x / 2^(s*n)) n j=ji x n (s+j):=by dsimp only[ji];rw[acV,<-XC,<-YE]
theorem we {n x:Nat} (b:x < 2^(1*n)):[x]=(V9 1).map (ji x n):=by refine congrArg (λa=>[a]) (?_:x=x / 2^(0*n) % 2^n);rw[ZA,Nat.pow_zero,Nat.div_one];exact(Nat.mod_eq_of_lt (XD n▸b)).symm
theorem fM (n:Nat) (f x m:Nat) (h1:1<=m) (h2:m<=2^f) (a:x < 2^(m*n)):wc n f x m=(V9 m).map (ji x n):=by
 induction f generalizing x m with
 |zero=>obtain rfl:m=1:=Yw h2 h1;exact we a
 |succ f c=>
  refine(?_:(match abg m 1 with|true=>[x]|false=>wc n f (x % 2^(m / 2*n)) (m / 2)++wc n f (x / 2^(m / 2*n)) (m - m / 2))=_);induction b:abg m 1 with
  |true=>have:m<=1:=Wd b;obtain rfl:m=1:=Yw this h1;exact we a
  |false=>
   have e:¬m<=1:=λh=>by rw[Nat.ble_eq_true_of_le h] at b;exact tf b
   have i:(2:Nat)^(f+1)=2*2^f:=(aaq ..).trans (aas _ _);dsimp only;refine ac (c _ (m / 2) (Nat.div_pos (Nat.not_le.mp e) (by decide)) (by exact Nat.div_le_of_le_mul (U1 h2 (Ve (aas _ _)))) (aa9 _ (Xs _))) ?_;refine ac (c _ (m - m / 2) (by exact YO (Nat.div_lt_self h1 (by decide))) (by lia) (by rw[Nat.div_lt_iff_lt_mul (Xs _),<-XC,<-YE];exact ac (show m - m / 2+m / 2=m by exact Wm (abY _ _)) a)) ?_;have g:V9 m=V9 (m / 2)++(V9 (m - m / 2)).map (m / 2+·):=by
    conv=>lhs;rw[show m=m / 2+(m - m / 2) from(XW (abY _ _)).symm]
    exact List.range_add ..
   refine ac g ?_;refine ac VZ ?_;refine ac Yg ?_;congr 1
   ·refine W9 λj d=>M6 (List.mem_range.mp d)
   ·refine W9 λj d=>Kq
theorem A5 (a b:Nat):Builtin.bitAnd a b=((a&&& b:Nat):Int):=by refine(?_:ac8 a b=_);dsimp only[ac8];refine ac (decide_eq_true (Vp a)) (ac (decide_eq_true (Vp b)) ?_);simp
theorem Re (a:Nat):(-(-(a:Int) - 1) - 1).toNat=a:=by lia
theorem C4 (a b:Nat):Builtin.bitOr a b=((a|||b:Nat):Int):=by refine(?_:Spec.bitOr a b=_);unfold Spec.bitOr ac8 Spec.bitNot;refine ac (decide_eq_false (by lia)) (ac (decide_eq_false (by lia)) ?_);simp only;refine ac (Re a) (ac (Re b) ?_);lia
theorem Kr (x n:Nat):x&&& (x / 2^n*2^n)=x / 2^n*2^n:=by
 refine adl λi=>?_;rw[Nat.testBit_and,<-Nat.shiftLeft_eq,<-acs,ac9,acW];by_cases h:n<=i
 ·refine ac (show n+(i - n)=i by exact XW h) ?_;simp
 ·refine ac (decide_eq_false h) ?_;simp
theorem M7 (x n:Nat):x|||(x / 2^n*2^n)=x:=by
 refine adl λi=>?_;rw[Nat.testBit_or,<-Nat.shiftLeft_eq,<-acs,ac9,acW];by_cases h:n<=i
 ·refine ac (show n+(i - n)=i by exact XW h) ?_;simp
 ·refine ac (decide_eq_false h) ?_;simp
theorem kO (x s n:Nat):ah x s n=((x / 2^(s*n):Nat):Int):=by dsimp only[ah];refine ac (show((s:Int)*(n:Int)).toNat=s*n by rw[<-abZ];rfl) ?_;refine ac (Wj _ (Ww (Int.pow_pos (by decide)))) ?_;norm_cast
theorem kP (x s n:Nat):am x s n=((x % 2^(s*n):Nat):Int):=by dsimp only[am];rw[kO];refine ac (show((s:Int)*(n:Int)).toNat=s*n by rw[<-abZ];rfl) ?_;refine ac (by norm_cast:((x / 2^(s*n):Nat):Int)*2^(s*n)=((x / 2^(s*n)*2^(s*n):Nat):Int)) (?_:Builtin.bitOr _ _ - Builtin.bitAnd _ _=_);rw[A5,C4,Kr,M7];have:=Nat.div_add_mod x (2^(s*n));rw[aas] at this;exact(congrArg (λz:Nat=>(z:Int) - ((x / 2^(s*n)*2^(s*n):Nat):Int)) (this.symm.trans (Wi _ _))).trans (XM ((x % 2^(s*n):Nat):Int) ((x / 2^(s*n)*2^(s*n):Nat):Int))
def UB (x:Int) (K:Nat):Prop:=0<=x/\x.natAbs < 2^K
theorem bc {x s w:Int} {K:Nat} (h:UB x K) (a:0<=w):UB (ah x s w) K:=by
 obtain⟨n,rfl⟩:∃n:Nat,x=n:=⟨x.toNat,by have:=h.1;lia⟩
 have e:ah n s w=((n / 2^(s*w).toNat:Nat):Int):=by unfold ah;refine ac (Wj _ (Ww (Int.pow_pos (by decide)))) ?_;norm_cast
 exact ac e ⟨Vp _,Vl (abY _ _) h.2⟩
theorem iV {x s w:Int} {K:Nat} (h:UB x K) (a:0<=w):UB (am x s w) K:=by
 obtain⟨n,rfl⟩:∃n:Nat,x=n:=⟨x.toNat,by have:=h.1;lia⟩
 have e:am n s w=((n % 2^(s*w).toNat:Nat):Int):=by have:=kP n 1 (s*w).toNat;rw[XD] at this;refine aD this ?_;unfold am ah;exact ac (by rw[<-abZ,XD];rfl:(((1:Nat):Int)*((s*w).toNat:Int)).toNat=(s*w).toNat) rfl
 exact ac e ⟨Vp _,Vl (Nat.mod_le _ _) h.2⟩
theorem Sb (P:Va) {a w:Int} (e:UB a 1000) (f:0<=w) (g:w<=100) (h1:ao (fX a w 0)) (b:a=0):∃orc S' qs,dy P a9 [] 40 (cD P) [.int a, .int w] [] orc=UV (.ints [],S',qs)/\ao qs/\S'.H.take 0=[]:=by refine aj (dh (RY P a w)) λS' c d=>?_;exact(gI _ S' _ c (af.mpr ⟨h1,⟨by refine(decide_eq_true b).symm▸ ?_;rfl,trivial⟩⟩) d)
theorem Sc (P:Va) {a w:Int} (e:UB a 1000) (f:0<=w) (g:w<=100) (h1:ao (fX a w 1)) (b:a≠0):∃orc S' qs,dy P a9 [] 40 (cD P) [.int a, .int w] [] orc=UV (.ints [a],S',qs)/\ao qs/\S'.H.take 0=[]:=by refine aj (dh (R0 P a w)) λS' c d=>?_;exact⟨_,S',_,c,af.mpr ⟨h1,⟨by refine(decide_eq_false b).symm▸ ?_;rfl,by decide,aB,rfl,by decide,trivial⟩⟩,d⟩
theorem Sd (P:Va) {a w:Int} (b:UB a 1000) (c:0<=w) (g:w<=100) (h1:ao (fX a w 2)) (d:a≠0):∃orc S' qs,dy P a9 [] 40 (cD P) [.int a, .int w] [] orc=UV (.ints [(am a 1 w),(ah a 1 w)],S',qs)/\ao qs/\S'.H.take 0=[]:=by refine aj (dh (R3 P a w)) λS' e f=>?_;exact(gI _ S' _ e (af.mpr ⟨h1,⟨by refine(decide_eq_false d).symm▸ ?_;rfl,by decide,aB,rfl,by decide,Vh (by decide),by lia,bw (bc b c).2 (by lia) (by lia),aB,rfl,by decide,aB,rfl,by decide,trivial⟩⟩) f)
theorem Se (P:Va) {a w:Int} (c:UB a 1000) (b:0<=w) (g:w<=100) (h1:ao (fX a w 3)) (d:a≠0):∃orc S' qs,dy P a9 [] 40 (cD P) [.int a, .int w] [] orc=UV (.ints [(am a 1 w),(am (ah a 1 w) 1 w),(ah (ah a 1 w) 1 w)],S',qs)/\ao qs/\S'.H.take 0=[]:=by refine aj (dh (R4 P a w)) λS' e f=>?_;exact(gI _ S' _ e (af.mpr ⟨h1,⟨by refine(decide_eq_false d).symm▸ ?_;rfl,by decide,aB,rfl,by decide,Vh (by decide),by lia,bw (bc c b).2 (by lia) (by lia),aB,rfl,by decide,aB,rfl,by decide,Vh (by decide),by lia,bw (bc (bc c b) b).2 (by lia) (by lia),aB,rfl,by decide,aB,rfl,by decide,trivial⟩⟩) f)
theorem Sf (P:Va) {a w:Int} (c:UB a 1000) (b:0<=w) (g:w<=100) (h1:ao (fX a w 4)) (d:a≠0):∃orc S' qs,dy P a9 [] 40 (cD P) [.int a, .int w] [] orc=UV (.ints [(am (am a 2 w) 1 w),(ah (am a 2 w) 1 w),(am (ah a 2 w) 1 w),(ah (ah a 2 w) 1 w)],S',qs)/\ao qs/\S'.H.take 0=[]:=by refine aj (dh (R5 P a w)) λS' e f=>?_;exact(gI _ S' _ e (af.mpr ⟨h1,⟨by refine(decide_eq_false d).symm▸ ?_;rfl,by decide,aB,rfl,by decide,Vh (by decide),by lia,bw (bc c b).2 (by lia) (by lia),aB,rfl,by decide,Vh (by decide),by lia,bw (bc (iV c b) b).2 (by lia) (by lia),aB,rfl,by decide,aB,rfl,by decide,aB,rfl,by decide,Vh (by decide),by lia,bw (bc (bc c b) b).2 (by lia) (by lia),aB,rfl,by decide,aB,rfl,by decide,trivial⟩⟩) f)
theorem Sg (P:Va) {a w:Int} (c:UB a 1000) (b:0<=w) (g:w<=100) (h1:ao (fX a w 5)) (d:a≠0):∃orc S' qs,dy P a9 [] 40 (cD P) [.int a, .int w] [] orc=UV (.ints [(am (am a 2 w) 1 w),(ah (am a 2 w) 1 w),(am (ah a 2 w) 1 w),(am (ah (ah a 2 w) 1 w) 1 w),(ah (ah (ah a 2 w) 1 w) 1 w)],S',qs)/\ao qs/\S'.H.take 0=[]:=by refine aj (dh (R6 P a w)) λS' e f=>?_;exact(gI _ S' _ e (af.mpr ⟨h1,⟨by refine(decide_eq_false d).symm▸ ?_;rfl,by decide,aB,rfl,by decide,Vh (by decide),by lia,bw (bc c b).2 (by lia) (by lia),aB,rfl,by decide,Vh (by decide),by lia,bw (bc (iV c b) b).2 (by lia) (by lia),aB,rfl,by decide,aB,rfl,by decide,aB,rfl,by decide,Vh (by decide),by lia,bw (bc (bc c b) b).2 (by lia) (by lia),aB,rfl,by decide,aB,rfl,by decide,Vh (by decide),by lia,bw (bc (bc (bc c b) b) b).2 (by lia) (by lia),aB,rfl,by decide,aB,rfl,by decide,trivial⟩⟩) f)
theorem Sh (P:Va) {a w:Int} (c:UB a 1000) (b:0<=w) (g:w<=100) (h1:ao (fX a w 6)) (d:a≠0):∃orc S' qs,dy P a9 [] 40 (cD P) [.int a, .int w] [] orc=UV (.ints [(am (am a 3 w) 1 w),(am (ah (am a 3 w) 1 w) 1 w),(ah (ah (am a 3 w) 1 w) 1 w),(am (ah a 3 w) 1 w),(am (ah (ah a 3 w) 1 w) 1 w),(ah (ah (ah a 3 w) 1 w) 1 w)],S',qs)/\ao qs/\S'.H.take 0=[]:=by refine aj (dh (R7 P a w)) λS' e f=>?_;exact(gI _ S' _ e (af.mpr ⟨h1,⟨by refine(decide_eq_false d).symm▸ ?_;rfl,by decide,aB,rfl,by decide,Vh (by decide),by lia,bw (bc c b).2 (by lia) (by lia),aB,rfl,by decide,Vh (by decide),by lia,bw (bc (iV c b) b).2 (by lia) (by lia),aB,rfl,by decide,aB,rfl,by decide,Vh (by decide),by lia,bw (bc (bc (iV c b) b) b).2 (by lia) (by lia),aB,rfl,by decide,aB,rfl,by decide,aB,rfl,by decide,Vh (by decide),by lia,bw (bc (bc c b) b).2 (by lia) (by lia),aB,rfl,by decide,aB,rfl,by decide,Vh (by decide),by lia,bw (bc (bc (bc c b) b) b).2 (by lia) (by lia),aB,rfl,by decide,aB,rfl,by decide,trivial⟩⟩) f)
theorem Si (P:Va) {a w:Int} (c:UB a 1000) (b:0<=w) (g:w<=100) (h1:ao (fX a w 7)) (d:a≠0):∃orc S' qs,dy P a9 [] 40 (cD P) [.int a, .int w] [] orc=UV (.ints [(am (am a 3 w) 1 w),(am (ah (am a 3 w) 1 w) 1 w),(ah (ah (am a 3 w) 1 w) 1 w),(am (am (ah a 3 w) 2 w) 1 w),(ah (am (ah a 3 w) 2 w) 1 w),(am (ah (ah a 3 w) 2 w) 1 w),(ah (ah (ah a 3 w) 2 w) 1 w)],S',qs)/\ao qs/\S'.H.take 0=[]:=by refine aj (dh (R8 P a w)) λS' e f=>?_;exact(gI _ S' _ e (af.mpr ⟨h1,⟨by refine(decide_eq_false d).symm▸ ?_;rfl,by decide,aB,rfl,by decide,Vh (by decide),by lia,bw (bc c b).2 (by lia) (by lia),aB,rfl,by decide,Vh (by decide),by lia,bw (bc (iV c b) b).2 (by lia) (by lia),aB,rfl,by decide,aB,rfl,by decide,Vh (by decide),by lia,bw (bc (bc (iV c b) b) b).2 (by lia) (by lia),aB,rfl,by decide,aB,rfl,by decide,aB,rfl,by decide,Vh (by decide),by lia,bw (bc (bc c b) b).2 (by lia) (by lia),aB,rfl,by decide,Vh (by decide),by lia,bw (bc (iV (bc c b) b) b).2 (by lia) (by lia),aB,rfl,by decide,aB,rfl,by decide,aB,rfl,by decide,Vh (by decide),by lia,bw (bc (bc (bc c b) b) b).2 (by lia) (by lia),aB,rfl,by decide,aB,rfl,by decide,trivial⟩⟩) f)
theorem Sj (P:Va) {a w:Int} (c:UB a 1000) (b:0<=w) (g:w<=100) (h1:ao (fX a w 8)) (d:a≠0):∃orc S' qs,dy P a9 [] 40 (cD P) [.int a, .int w] [] orc=UV (.ints [(am (am (am a 4 w) 2 w) 1 w),(ah (am (am a 4 w) 2 w) 1 w),(am (ah (am a 4 w) 2 w) 1 w),(ah (ah (am a 4 w) 2 w) 1 w),(am (am (ah a 4 w) 2 w) 1 w),(ah (am (ah a 4 w) 2 w) 1 w),(am (ah (ah a 4 w) 2 w) 1 w),(ah (ah (ah a 4 w) 2 w) 1 w)],S',qs)/\ao qs/\S'.H.take 0=[]:=by refine aj (dh (R9 P a w)) λS' e f=>?_;exact(gI _ S' _ e (af.mpr ⟨h1,⟨by refine(decide_eq_false d).symm▸ ?_;rfl,by decide,aB,rfl,by decide,Vh (by decide),by lia,bw (bc c b).2 (by lia) (by lia),aB,rfl,by decide,Vh (by decide),by lia,bw (bc (iV c b) b).2 (by lia) (by lia),aB,rfl,by decide,Vh (by decide),by lia,bw (bc (iV (iV c b) b) b).2 (by lia) (by lia),aB,rfl,by decide,aB,rfl,by decide,aB,rfl,by decide,Vh (by decide),by lia,bw (bc (bc (iV c b) b) b).2 (by lia) (by lia),aB,rfl,by decide,aB,rfl,by decide,aB,rfl,by decide,Vh (by decide),by lia,bw (bc (bc c b) b).2 (by lia) (by lia),aB,rfl,by decide,Vh (by decide),by lia,bw (bc (iV (bc c b) b) b).2 (by lia) (by lia),aB,rfl,by decide,aB,rfl,by decide,aB,rfl,by decide,Vh (by decide),by lia,bw (bc (bc (bc c b) b) b).2 (by lia) (by lia),aB,rfl,by decide,aB,rfl,by decide,trivial⟩⟩) f)
theorem Sk (P:Va) {a w:Int} (c:UB a 1000) (b:0<=w) (g:w<=100) (h1:ao (fX a w 9)) (d:a≠0):∃orc S' qs,dy P a9 [] 40 (cD P) [.int a, .int w] [] orc=UV (.ints [(am (am (am a 4 w) 2 w) 1 w),(ah (am (am a 4 w) 2 w) 1 w),(am (ah (am a 4 w) 2 w) 1 w),(ah (ah (am a 4 w) 2 w) 1 w),(am (am (ah a 4 w) 2 w) 1 w),(ah (am (ah a 4 w) 2 w) 1 w),(am (ah (ah a 4 w) 2 w) 1 w),(am (ah (ah (ah a 4 w) 2 w) 1 w) 1 w),(ah (ah (ah (ah a 4 w) 2 w) 1 w) 1 w)],S',qs)/\ao qs/\S'.H.take 0=[]:=by refine aj (dh (Sa P a w)) λS' e f=>?_;exact(gI _ S' _ e (af.mpr ⟨h1,⟨by refine(decide_eq_false d).symm▸ ?_;rfl,by decide,aB,rfl,by decide,Vh (by decide),by lia,bw (bc c b).2 (by lia) (by lia),aB,rfl,by decide,Vh (by decide),by lia,bw (bc (iV c b) b).2 (by lia) (by lia),aB,rfl,by decide,Vh (by decide),by lia,bw (bc (iV (iV c b) b) b).2 (by lia) (by lia),aB,rfl,by decide,aB,rfl,by decide,aB,rfl,by decide,Vh (by decide),by lia,bw (bc (bc (iV c b) b) b).2 (by lia) (by lia),aB,rfl,by decide,aB,rfl,by decide,aB,rfl,by decide,Vh (by decide),by lia,bw (bc (bc c b) b).2 (by lia) (by lia),aB,rfl,by decide,Vh (by decide),by lia,bw (bc (iV (bc c b) b) b).2 (by lia) (by lia),aB,rfl,by decide,aB,rfl,by decide,aB,rfl,by decide,Vh (by decide),by lia,bw (bc (bc (bc c b) b) b).2 (by lia) (by lia),aB,rfl,by decide,aB,rfl,by decide,Vh (by decide),by lia,bw (bc (bc (bc (bc c b) b) b) b).2 (by lia) (by lia),aB,rfl,by decide,aB,rfl,by decide,trivial⟩⟩) f)
section
set_option linter.unusedSimpArgs false
def cV (x n k:Nat):List Int:=((V9 k).map (ji x n)).map λj:Nat=>(j:Int)
theorem mY (x n:Nat):ah x 1 n=((x / 2^(1*n):Nat):Int):=kO x 1 n
theorem mZ (x n:Nat):am x 1 n=((x % 2^(1*n):Nat):Int):=kP x 1 n
theorem m5 (x n:Nat):ah x 2 n=((x / 2^(2*n):Nat):Int):=kO x 2 n
theorem m6 (x n:Nat):am x 2 n=((x % 2^(2*n):Nat):Int):=kP x 2 n
theorem m7 (x n:Nat):ah x 3 n=((x / 2^(3*n):Nat):Int):=kO x 3 n
theorem m8 (x n:Nat):am x 3 n=((x % 2^(3*n):Nat):Int):=kP x 3 n
theorem m9 (x n:Nat):ah x 4 n=((x / 2^(4*n):Nat):Int):=kO x 4 n
theorem na (x n:Nat):am x 4 n=((x % 2^(4*n):Nat):Int):=kP x 4 n
theorem Sl (x n:Nat):([]:List Int)=cV x n 0:=rfl
theorem Sm (x n:Nat) (a:x < 2^(1*n)):([(x:Int)]:List Int)=cV x n 1:=by rw[cV];refine aD (fM n 4 x 1 (by decide) (by decide) a) ?_;rfl
theorem Sn (x n:Nat) (a:x < 2^(2*n)):([(am x 1 n),(ah x 1 n)]:List Int)=cV x n 2:=by rw[cV];refine aD (fM n 4 x 2 (by decide) (by decide) a) ?_;simp only[mY,m5,m7,m9,mZ,m6,m8,na];rfl
theorem So (x n:Nat) (a:x < 2^(3*n)):([(am x 1 n),(am (ah x 1 n) 1 n),(ah (ah x 1 n) 1 n)]:List Int)=cV x n 3:=by rw[cV];refine aD (fM n 4 x 3 (by decide) (by decide) a) ?_;simp only[mY,m5,m7,m9,mZ,m6,m8,na];rfl
theorem Sq (x n:Nat) (a:x < 2^(4*n)):([(am (am x 2 n) 1 n),(ah (am x 2 n) 1 n),(am (ah x 2 n) 1 n),(ah (ah x 2 n) 1 n)]:List Int)=cV x n 4:=by rw[cV];refine aD (fM n 4 x 4 (by decide) (by decide) a) ?_;simp only[mY,m5,m7,m9,mZ,m6,m8,na];rfl
theorem Sr (x n:Nat) (a:x < 2^(5*n)):([(am (am x 2 n) 1 n),(ah (am x 2 n) 1 n),(am (ah x 2 n) 1 n),(am (ah (ah x 2 n) 1 n) 1 n),(ah (ah (ah x 2 n) 1 n) 1 n)]:List Int)=cV x n 5:=by rw[cV];refine aD (fM n 4 x 5 (by decide) (by decide) a) ?_;simp only[mY,m5,m7,m9,mZ,m6,m8,na];rfl
theorem Ss (x n:Nat) (a:x < 2^(6*n)):([(am (am x 3 n) 1 n),(am (ah (am x 3 n) 1 n) 1 n),(ah (ah (am x 3 n) 1 n) 1 n),(am (ah x 3 n) 1 n),(am (ah (ah x 3 n) 1 n) 1 n),(ah (ah (ah x 3 n) 1 n) 1 n)]:List Int)=cV x n 6:=by rw[cV];refine aD (fM n 4 x 6 (by decide) (by decide) a) ?_;simp only[mY,m5,m7,m9,mZ,m6,m8,na];rfl
theorem Su (x n:Nat) (a:x < 2^(7*n)):([(am (am x 3 n) 1 n),(am (ah (am x 3 n) 1 n) 1 n),(ah (ah (am x 3 n) 1 n) 1 n),(am (am (ah x 3 n) 2 n) 1 n),(ah (am (ah x 3 n) 2 n) 1 n),(am (ah (ah x 3 n) 2 n) 1 n),(ah (ah (ah x 3 n) 2 n) 1 n)]:List Int)=cV x n 7:=by rw[cV];refine aD (fM n 4 x 7 (by decide) (by decide) a) ?_;simp only[mY,m5,m7,m9,mZ,m6,m8,na];rfl
theorem Sv (x n:Nat) (a:x < 2^(8*n)):([(am (am (am x 4 n) 2 n) 1 n),(ah (am (am x 4 n) 2 n) 1 n),(am (ah (am x 4 n) 2 n) 1 n),(ah (ah (am x 4 n) 2 n) 1 n),(am (am (ah x 4 n) 2 n) 1 n),(ah (am (ah x 4 n) 2 n) 1 n),(am (ah (ah x 4 n) 2 n) 1 n),(ah (ah (ah x 4 n) 2 n) 1 n)]:List Int)=cV x n 8:=by rw[cV];refine aD (fM n 4 x 8 (by decide) (by decide) a) ?_;simp only[mY,m5,m7,m9,mZ,m6,m8,na];rfl
theorem Sw (x n:Nat) (a:x < 2^(9*n)):([(am (am (am x 4 n) 2 n) 1 n),(ah (am (am x 4 n) 2 n) 1 n),(am (ah (am x 4 n) 2 n) 1 n),(ah (ah (am x 4 n) 2 n) 1 n),(am (am (ah x 4 n) 2 n) 1 n),(ah (am (ah x 4 n) 2 n) 1 n),(am (ah (ah x 4 n) 2 n) 1 n),(am (ah (ah (ah x 4 n) 2 n) 1 n) 1 n),(ah (ah (ah (ah x 4 n) 2 n) 1 n) 1 n)]:List Int)=cV x n 9:=by rw[cV];refine aD (fM n 4 x 9 (by decide) (by decide) a) ?_;simp only[mY,m5,m7,m9,mZ,m6,m8,na];rfl
theorem fm {x n:Nat} (c:0 < n) (h:cP x n=k):x < 2^(k*n):=by
 unfold cP at h;have h0:(0:Int) < n:=Int.ofNat_le.mpr c;rw[Wj _ (Ww h0)] at h;have d:((U5 x:Nat):Int)<=k*n:=by have:=Int.lt_ediv_add_one_mul_self ((U5 x:Int)+n - 1) h0;rw[h] at this;rw[ZS,ZR] at this;lia
 have a:U5 x<=k*n:=by exact_mod_cast d
 unfold U5 at a;by_cases b:x=0
 ·refine ac b ?_;exact Xs _
 ·rw[if_neg (by simpa using b)] at a;exact(abN b).mp ((by simpa using a:x.log2+1<=k*n))
abbrev A6 (k:Nat):Sp:=fW (X:=Int×Int) (λvs=>(bU (nV vs 0),bU (nV vs 1))) (λx=>[.int x.1, .int x.2]) (λx=> .ints (cV x.1.toNat x.2.toNat k)) λx=>0<=x.1/\1<=x.2/\x.2<=100/\x.1.natAbs < 2^1000/\cP x.1 x.2=k/\k < 10
theorem Gl (J:Vz) (w:V6) {L:Nat} (k:aP 7 A) (o:cI g) (f:f9 Z rZ 64) (c:aI ((Wz J w).cx g os) (be a9 [] gl (cD w.params N) (λa=>br) L) Z U) (i:cp ((Wz J w).cx g os) A (aZ w.params [] bZ ce gl N 6)):
  eh ((Wz J w).cx g os) A (be a9 [] gl (cD w.params N) (λa=>br) L) Z fz U:=by
 refine⟨λn st m e=>?_,λa a a e=>nomatch e⟩
 have b:(match VA n 84 with
  |true=>UV (aw a9.body 0,A3 (Gz w.params [] 6 N {names:=a9.scope.names,cells:=[]++gR (L+1) a9.cn,fid:=L,glob:=gl,trim:=a9.trim}) (aw a9.body 0))
  |false=>qY 86 M5 (aw a9.body 1) N {names:=a9.scope.names,cells:=[]++gR (L+1) a9.cn,fid:=L,glob:=gl,trim:=a9.trim} n)=UV (st,m):=e
 induction d:VA n 84 with
 |true=>simp only[d] at b;obtain⟨rfl,rfl⟩:=o4 b;exact C3 (C:={names:=a9.scope.names,cells:=[]++gR (L+1) a9.cn,fid:=L,glob:=gl,trim:=a9.trim}) ⟨{c with},⟨λa a a h=>(nomatch h),λa a a h=>(nomatch h)⟩⟩ (d5 i N _ Z) _
 |false=>simp only[d] at b;exact(pD (T:=a9) (L:=L) (l:=86) (N:=N) (λC j=>by refine ac j ?_;exact pC (T:=tI 63 59 86 4 "_int2digits.<locals>.inner") f {c with} (by simp[oR]) (by rfl') (by rfl') rfl (by rfl') (by decide) (by decide) (by decide) (by rfl') (.inr (by rfl')) rfl (by rfl') (by rfl') (by rfl') (by rfl') (λZ=>by rfl') (by rfl'))).s n st m b
theorem Ks {n:Nat} (a:0 < n):cP (0:Nat) n=0:=by unfold cP U5;refine ac (if_pos (by rfl)) (ac (Wj _ (Vp _)) ?_);exact Int.ediv_eq_zero_of_lt (by lia) (by lia)
theorem oU:∀k:Nat,rep k [(0:Int)]=V8 k 0
 |0=>rfl
 |k+1=>ac adg (aD (oU k) rfl)
theorem C5 (J:Vz) (w:V6) (k:Nat):aX (Wz J w) 8 64 (A6 k):=
 dq (X:=Int×Int) (lev:=0) (k:=6) (T:=a9) (Tb:=[]) (defs:=[]) (spS:=cD w.params) (spE:=λb b=>br) MT rfl rfl (λb h=>nomatch h) (c8 MT) (λb b b b b=>trivial) (λb b b b b b b b y z A B C=>Gl J w z y B C A) λx t=>by
  obtain⟨a,v⟩:=x;refine yd t λp q f u c r=>?_;clear t;dsimp only at p q f u c;obtain⟨x,rfl⟩:∃x:Nat,a=x:=⟨a.toNat,(VN p).symm⟩
  obtain⟨n,rfl⟩:∃n:Nat,v=n:=⟨v.toNat,(VN (VM (by decide) q)).symm⟩
  have g:0 < n:=Int.ofNat_le.mp q;have l:UB x 1000:=⟨p,u⟩
  have h0:(0:Int)<=n:=Vp _;have m:∀j:Nat,cP x n=j->ao (fX x n j):=λj D=>⟨rfl,by decide,⟨by lia,Vl (Int.ofNat_le.mp f) (by decide)⟩,⟨ac c (Vp _),by refine ac c ?_;lia,by refine ac c (ac VK ?_);lia⟩,ac D (oU j),rfl,trivial⟩
  refine(?_:∃N i o,bD 0 (bnd (aR a9 gl (cD w.params N) (λb=>br) (Gz w.params [] 6 N) [] [.int x, .int n]) (λv=>cj w.params 9 v) ⟨[],i⟩)=UV (.ints (cV (x:Int).toNat (n:Int).toNat k),[],o)/\ao o/\dp []=UX);rw[Vx,Vx];have d:k≠0->(x:Int)≠0:=λE e=>by
   obtain rfl:x=0:=by lia
   have:=c.symm.trans (Ks g);lia
  have all:lH (λk=>cP x n=k->(k≠0->(x:Int)≠0)->∃i s o,dy w.params a9 [] 40 (cD w.params) [.int x, .int n] [] i=UV (.ints (cV x n k),s,o)/\ao o/\s.H.take 0=[]) 10:=
   ⟨⟨⟨⟨⟨⟨⟨⟨⟨⟨trivial,λc b=>Sl x n▸Sb w.params l h0 f (m 0 c) (by have:=fm g c;rw[ZA] at this;lia)⟩,
    λc d=>Sm x n (fm g c)▸Sc w.params l h0 f (m 1 c) (d (by decide))⟩,λc d=>Sn x n (fm g c)▸Sd w.params l h0 f (m 2 c) (d (by decide))⟩,
    λc d=>So x n (fm g c)▸Se w.params l h0 f (m 3 c) (d (by decide))⟩,λc d=>Sq x n (fm g c)▸Sf w.params l h0 f (m 4 c) (d (by decide))⟩,
    λc d=>Sr x n (fm g c)▸Sg w.params l h0 f (m 5 c) (d (by decide))⟩,λc d=>Ss x n (fm g c)▸Sh w.params l h0 f (m 6 c) (d (by decide))⟩,
    λc d=>Su x n (fm g c)▸Si w.params l h0 f (m 7 c) (d (by decide))⟩,λc d=>Sv x n (fm g c)▸Sj w.params l h0 f (m 8 c) (d (by decide))⟩,
    λc d=>Sw x n (fm g c)▸Sk w.params l h0 f (m 9 c) (d (by decide))⟩
  obtain⟨i,s,o,F,G,_⟩:=all.get r c d;exact⟨40,i,o,congrArg (bD 0) F,G,rfl⟩
end
def aQ (n:Int) (L:List Int):Nat->Vb
 |0=>WL (toString n)
 |j+1=>Wr (aQ n L j) UW (UV (-(ay 0 L j)))
noncomputable def fG (n:Int) (L:List Int):Nat->List Vb
 |0=>[]
 |j+1=>Wr (aQ n L j) (UV (-(ay 0 L j))) UW::fG n L j
def M8 (n:Int) (L:List Int) (g:Nat):Vb:=Wx "_" (aQ n L g::fG n L g)
def P0 (n:Int) (L:List Int) (j:Nat):List Prop:=[UX=UX,(aQ n L j).length < 2^62,decide (((aQ n L j).length:Int)<=ay 0 L j)=UY,(aQ n L j).length<=U9,(1:Nat)<=U9,j+1<=U9,(aQ n L j).length<=U9]
def Gn (n:Int) (L:List Int):Nat->List Prop
 |0=>[]
 |g+1=>Gn n L g++P0 n L g
noncomputable def Sx (n:Int) (L:List Int) (g:Nat):List Prop:=[(1:Nat)<=U9,g+1<=U9,acM "_" (aQ n L g::fG n L g)=UX]
def Sy (n:Int) (L:List Int) (g:Nat):List Prop:=[UX=UX,(aQ n L g).length < 2^62,decide (((aQ n L g).length:Int)<=ay 0 L g)=UX]
noncomputable def Sz (n:Int):List Prop:=[n.natAbs.log2 < 1920,(0:Nat)<=U9]
noncomputable def SD (g:Nat) (b:Bool):List Bool:=((V9 g).flatMap λa=>[UX,UY])++[b,b]
def M9 (n:Int) (L:List Int) (g:Nat):List Prop:=Sz n++(Gn n L g++((match Yh g L.length with|true=>Sy n L g|false=>[UY=UY])++Sx n L g))
abbrev C6 (P:Va) (n:Int) (L:List Int) (g:Nat):Prop:=bD 0 (lG P AO [] 60 [.int n, .dat (.ints L)] [] (SD g (Yh g L.length)))=UV (.str (M8 n L g),[],M9 n L g)
theorem SG (P:Va) (n a b:Int):lH (C6 P n [a,b]) 3:=⟨⟨⟨trivial,by rfl'⟩,by rfl'⟩,by rfl'⟩
theorem SH (P:Va) (n a b c d e f g:Int):lH (C6 P n [a,b,c,d,e,f,g]) 6:=⟨⟨⟨⟨⟨⟨trivial,by rfl'⟩,by rfl'⟩,by rfl'⟩,by rfl'⟩,by rfl'⟩,by rfl'⟩
structure Ix (n:Int) (L:List Int) (g:Nat):Prop where
 log:n.natAbs.log2 < 1920
 go:∀j,j < g->ay 0 L j < (aQ n L j).length
 stop:g < L.length->((aQ n L g).length:Int)<=ay 0 L g
 le:g<=L.length
 len:∀j,(aQ n L j).length<=1000
 join:acM "_" (aQ n L g::fG n L g)=UX
theorem yT {n:Int} {L:List Int} (hl:∀j,(aQ n L j).length<=1000):∀g,g<=1000->(∀j,j < g->ay 0 L j < (aQ n L j).length)->ao (Gn n L g)
 |0,_,_=>trivial
 |g+1,b,h=>by have a:=hl g;refine af.mpr ⟨yT hl g (Wy b) λj c=>h j (Xv c),⟨rfl,Vl a (by decide),decide_eq_false (by have:=h g (Vr _);exact Int.not_le.mpr this),jf a rfl,by decide,jf b rfl,jf a rfl,trivial⟩⟩
theorem tq {n:Int} {L:List Int} {g:Nat} (h:Ix n L g) (a:g<=1000):ao (M9 n L g):=by
 refine af.mpr ⟨⟨h.log,by decide,trivial⟩,af.mpr ⟨yT h.len g a h.go,af.mpr ⟨?_,⟨by decide,(VK).symm▸(Vl a (by decide)),h.join,trivial⟩⟩⟩⟩;induction b:Yh g L.length with
 |true=>exact⟨rfl,Vl (h.len g) (by decide),decide_eq_true (h.stop (Wd b)),trivial⟩
 |false=>exact⟨rfl,trivial⟩
noncomputable def nf:Int->List Int->Nat
 |_,[]=>0
 |k,s::r=>if k<=s then 0 else nf (k - s) r+1
noncomputable def el (n:Int) (L:List Int):Nat:=nf (WL (toString n)).length L
def bN (n:Int) (L:List Int):Vb:=M8 n L (el n L)
def sg (n:Int) (L:List Int):Prop:=Ix n L (el n L)/\(L.length=2∨L.length=7/\el n L < 6)
abbrev wf:Sp:=fW (X:=Int×List Int) (λvs=>(bU (nV vs 0),cr (nV vs 1))) (λx=>[.int x.1, .dat (.ints x.2)]) (λx=> .str (bN x.1 x.2)) λx=>sg x.1 x.2
theorem yU (J:Vz) (w:V6):aX (Wz J w) 4 272 wf:=qU Ik rfl rfl rfl (c8 Ik) λx k=>by
 obtain⟨n,L⟩:=x;obtain⟨i,j|⟨j,l⟩⟩:=k
 ·refine p9 (uw j) λa b h=>?_;subst h;exact(bL _ _ ((SG w.params n a b).get (XX i.le)) (tq i (U1 i.le (by show 2<=1000;decide))))
 ·refine uM (Iv j) λa b c d e f g h=>?_;subst h;exact(bL _ _ ((SH w.params n a b c d e f g).get l) (tq i (U1 i.le (by show 7<=1000;decide))))
noncomputable def qZ (s:Vb):Nat->Int
 |0=>(s.length:Int) - 1
 |k+1=>qZ s k - 1
noncomputable def wg (s:Vb) (j k:Nat):Vb:=Wr s (UV (j:Int)) (UV (qZ s k+1))
def Iy (s:Vb) (i:Int) (b:Bool):List Prop:=[UX=UX,abd i=UX/\(Xx s i).isSome=UX,sq (X5 s i) " "=b]
noncomputable def Go (s:Vb):Nat->List Prop
 |0=>[]
 |j+1=>Go s j++(Iy s j UX++[UX=UX])
noncomputable def Gp (s:Vb):Nat->List Prop
 |0=>[]
 |k+1=>Gp s k++(Iy s (qZ s k) UX++[UX=UX])
noncomputable def A7 (s:Vb) (i:Int):Nat->List Prop
 |0=>[UY=UY,UY=UY]
 |_+1=>Iy s i UY++[UY=UY]
def C7 (s:Vb) (a j k:Nat):List Prop:=Go s j++(A7 s j (a - j)++([s.length < 2^62]++(Gp s k++(A7 s (qZ s k) (a - j - k)++[s.length<=U9]))))
noncomputable def Na (n:Nat):List Bool:=(V9 n).flatMap λa=>[UX,UX,UX]
noncomputable def Nb:Nat->List Bool
 |0=>[UY,UY]
 |_+1=>[UX,UY,UY]
abbrev wh (P:Va) (s:Vb) (a j k:Nat):Prop:=bD 0 (lG P F8 [] 60 [.str s, .int a] [] (Na j++(Nb (a - j)++(Na k++Nb (a - j - k)))))=UV (.str (wg s j k),[],C7 s a j k)
theorem C8 (P:Va) (s:Vb):lH (λa=>lH (λj=>lH (λk=>wh P s a j k) (a+1 - j)) (a+1)) 5:=by
 repeat' (first|exact trivial|refine And.intro ?_ ?_|rfl')
def lI (s:Vb) (i:Int) (b:Bool):Prop:=abd i=UX/\(Xx s i).isSome=UX/\sq (X5 s i) " "=b
structure iD (s:Vb) (a j k:Nat):Prop where
 le:j+k<=a
 a4:a<=4
 len:s.length<=1000
 lft:∀i,i < j->lI s i UX
 ls:j < a->lI s j UY
 rgt:∀i,i < k->lI s (qZ s i) UX
 rs:j+k < a->lI s (qZ s k) UY
theorem wi {s:Vb} {i:Int} (h:lI s i b):ao (Iy s i b):=⟨rfl,⟨h.1,h.2.1⟩,h.2.2,trivial⟩
theorem yV {s:Vb}:∀{j:Nat},(∀i,i < j->lI s i UX)->ao (Go s j)
 |0,_=>trivial
 |j+1,h=>af.mpr ⟨yV λi a=>h i (Xv a),af.mpr ⟨wi (h j (Vr _)),rfl,trivial⟩⟩
theorem yW {s:Vb}:∀{j:Nat},(∀i,i < j->lI s (qZ s i) UX)->ao (Gp s j)
 |0,_=>trivial
 |j+1,h=>af.mpr ⟨yW λi a=>h i (Xv a),af.mpr ⟨wi (h j (Vr _)),rfl,trivial⟩⟩
theorem wj {s:Vb} {i:Int}:∀{n:Nat},(0 < n->lI s i UY)->ao (A7 s i n)
 |0,_=>⟨rfl,rfl,trivial⟩
 |n+1,h=>af.mpr ⟨wi (h (Wv _)),rfl,trivial⟩
theorem C9 {s:Vb} {a:Nat} (h:iD s a j k):ao (C7 s a j k):=by have c:=h.len;exact af.mpr ⟨yV h.lft,af.mpr ⟨wj λb=>h.ls (Nat.sub_pos_iff_lt.mp b),af.mpr ⟨⟨Vl c (by decide),trivial⟩,af.mpr ⟨yW h.rgt,af.mpr ⟨wj λb=>h.rs (Nat.sub_pos_iff_lt.mp (Nat.sub_sub _ _ _▸b)),jf c rfl,trivial⟩⟩⟩⟩⟩
noncomputable def al (s:Vb):List Nat:=s.cps.toList
noncomputable def lJ:List Nat->Nat
 |[]=>0
 |c::r=>if c=32 then lJ r+1 else 0
noncomputable def mc (s:Vb) (b:Int):Nat:=min b.toNat (lJ (al s))
def me (s:Vb) (b:Int):Nat:=min (b.toNat - mc s b) (lJ (al s).reverse)
def d8 (s:Vb) (b:Int):Vb:=wg s (mc s b) (me s b)
abbrev wk:Sp:=fW (X:=Vb×Int) (λvs=>(gC (nV vs 0),bU (nV vs 1))) (λx=>[.str x.1, .int x.2]) (λx=> .str (d8 x.1 x.2)) λx=>0<=x.2/\iD x.1 x.2.toNat (mc x.1 x.2) (me x.1 x.2)
theorem Da (J:Vz) (w:V6):aX (Wz J w) 4 35 wk:=qU MQ rfl rfl rfl (c8 MQ) λx c=>by obtain⟨s,b⟩:=x;obtain⟨h0,h⟩:=c;have r:=(((C8 w.params s).get (XX h.a4)).get (XX (U1 (Vm _ _) h.le))).get (j:=me s b) (by have a:mc s b+me s b<=b.toNat:=h.le;show me s b < b.toNat+1 - mc s b;exact Ze (XX (U1 (Ve (Wi _ _)) a)));rw[wh,show((b.toNat:Nat):Int)=b from VN h0] at r;exact(bL _ _ r (C9 h))
def Nc:Vs:=match aw gB.body 2 with
 | .Assign _ e _=>e
 |_=> .Name "" ⟨0,0,0,0⟩
def yX:XN×XN×Nat:=match Nc with
 | .Set [.Name _ p] k q=>(p,q,k)
 |_=>(⟨0,0,0,0⟩,⟨0,0,0,0⟩,0)
def uy:Nat->Ec->Nat->Option (Vs×M V):=λa C n=>match VA n 32009012 with
 |true=>UV (.Set [.Name "w" yX.1] yX.2.2 yX.2.1,FU C "w")
 |false=>UW
theorem Gq (J:Vz) (w:V6) {L:Nat} (d:f9 Z rY 43) (f:aI ((Wz J w).cx g os) (be gB [] gl (λa=>bk) (uy N) L) Z U):
  eh ((Wz J w).cx g os) A (be gB [] gl (λa=>bk) (uy N) L) Z fz U:=by
 refine⟨λa a a e=>(nomatch e),λn st m e=>?_⟩
 have b:(match VA n 32009012 with
  |true=>UV (Expr.Set [.Name "w" yX.1] yX.2.2 yX.2.1,FU {names:=gB.scope.names,cells:=[]++gR (L+1) gB.cn,fid:=L,glob:=gl,trim:=gB.trim} "w")
  |false=>UW)=UV (st,m):=e
 induction c:VA n 32009012 with
 |true=>simp only[c] at b;obtain⟨rfl,rfl⟩:=o4 b;exact FX (C:={names:=gB.scope.names,cells:=[]++gR (L+1) gB.cn,fid:=L,glob:=gl,trim:=gB.trim}) {f with} (by decide+kernel) (by rfl') (λh a=>by refine(d.code).symm▸ ?_;rfl')
 |false=>simp only[c] at b;exact nn b
theorem P1:nH (aF P) rY gB [.bool UY]:=λs f g h=>by
 have i:f.length=3:=by have:(f++[adj UY]).length=4:=h.trans (show gB.params.length=4 by rfl');simpa using this
 refine ky (pv i) λa b c d=>(ac d ?_)
 exact W.kp_binds (K:=aF P) (λb o e=>g (b,o) (cA e)) λS=>by rfl'
theorem Nd (P:Va) (w:Int):bD 0 (bnd (aR gB gl (λa=>bk) (uy 60) (Gz P [] 2 60) [] [.int w, .int 5, .int 2048, .bool UY]) (λv=>cj P 9 v) ⟨[],[UX,UY,UX,UX,UY,UX]⟩)=
  UV (.dict P [],[],[Nc=Nc,(0:Int) < 2^62,UX=UX,UY=UY,decide (w<=2048)=UX,UX=UX,UY=UY,UX=UX]):=by rfl'
abbrev Nf (P:Va):Sp:=fW (X:=Int) (λvs=>bU (nV vs 0)) (λw=>[.int w, .int 5, .int 2048]) (λa=> .dict P []) λw=>w<=2048
theorem P2 (J:Vz) (w:V6):aX (Wz J w) 4 43 (Nf w.params):=
 dq (X:=Int) (lev:=0) (k:=2) (T:=gB) (Tb:=[]) (defs:=[.bool UY]) (spS:=λa a=>bk) (spE:=uy) RN rfl rfl (λa h=>nomatch h) P1 (λa a a a a=>trivial) (λa a a a a a a a a a a b c=>Gq J w b c) λv d=>
  ⟨60,_,_,Nd w.params v,⟨rfl,by decide,rfl,rfl,decide_eq_true d,rfl,rfl,rfl,trivial⟩,rfl⟩
theorem bW {keep:List Bool} (b:(aF w.params).lookup f=UV (fO fd)) (h:aX (Wz J w) lev f sp) (c:cI g) (d:aP lev A):
  (∃a,(f,a)∈((Wz J w).cx g os).KK/\((∃fd,a.data= .func fd)∨((∃cd,a.data= .cls cd)/\ab7 ((Wz J w).cx g os).KK (.ref f) "__call__"=UV (UV (.builtin "type.__call__")))))/\∀fz U vs xs,av fz U vs xs->eS ((Wz J w).cx g os) A fz U (dY w.params keep sp vs) (.call (.ref f) ⟨xs,[]⟩):=
 ⟨(aA (fO fd) (cA b) (.inl ⟨fd,rfl⟩)),λfz U vs xs e=>EB (W:=Wz J w) h c d e⟩
noncomputable def Rf:Vb:="_str_to_int_inner.<locals>.inner"
def Ng:oG:=fc Rf (aw kj.body 1)
def uz:=qY 73 Rf (aw kj.body 1)
def Nh (P:Va):bC:=[(43,dY P [UY,UY,UY] (Nf P))]
theorem P3:az Ng where
 bind:=λe f h i m j=>by
  refine p9 (AH (j.trans (show(eE Ng).params.length=2 by rfl'))) λa b c=>(ac c ?_)
  obtain⟨n,o,p,b,q,g,r,d,k,l,s,t,co,u,v⟩:=e;cases f;cases h;cases i;rfl'
 nc:=eV (by rfl')
 kinds:=jv (by rfl')
 co:=by rfl'
 gen:=by rfl'
 kind:=by rfl'
noncomputable def hO (s:Vb):Vb:=Wr s (UV 0) (UV (s.length:Int))
noncomputable def iE (s:Vb):Int:=(Y4 (hO s)).getD 0
theorem Kt (P:Va) (s:Vb):bD 0 (dy P kj (Nh P) 40 uz [.str s] [] [UX])=UV (.int (iE s),[],
  [aw kj.body 1=aw kj.body 1,s.length < 2^62,[V.int s.length, .int 5, .int 2048]=[V.int s.length, .int 5, .int 2048]/\([]:List O)=[]/\(s.length:Int)<=2048,s.length < 2^62,az Ng,decide ((s.length:Int) - 0<=2048)=UX,s.length<=U9,Y4 (hO s)=UV (iE s)/\(hO s).length<=640]):=by rfl'
abbrev Iz:Sp:=fW (X:=Vb) (λvs=>gC (nV vs 0)) (λs=>[.str s]) (λs=> .int (iE s)) λs=>s.length<=600/\Y4 (hO s)=UV (iE s)/\(hO s).length<=640
theorem Gr (J:Vz) (w:V6) {L:Nat} (b:f9 Z vZ 50) (c:aI ((Wz J w).cx g os) (be kj [] gl (uz N) (λa=>br) L) Z U):
  eh ((Wz J w).cx g os) A (be kj [] gl (uz N) (λa=>br) L) Z fz U:=
 pD λC d=>by exact ac d (pC (T:=tI 49 45 73 4 "_str_to_int_inner.<locals>.inner") b {c with} (by simp[oR]) (by rfl') (by rfl') rfl (by rfl') (by decide) (by decide) (by decide) (by rfl') (.inr (by rfl')) rfl (by rfl') (by rfl') (by rfl') (by rfl') (λZ=>by rfl') (by rfl'))
theorem Ni (J:Vz) (w:V6):aX (Wz J w) 12 50 Iz:=
 dq (X:=Vb) (lev:=4) (k:=6) (T:=kj) (Tb:=Nh w.params) (defs:=[]) (spS:=uz) (spE:=λa a=>br) MR rfl rfl (λa h=>nomatch h) (c8 MR) (λa a a c d=>⟨bW (fd:=rY) (by rfl') (P2 J w) c d,trivial⟩) (λa a a a a a a a a a a e f=>Gr J w e f) λs g=>
  b9 g λb i j=>⟨40,_,_,Kt w.params s,⟨rfl,Vl b (by decide),⟨rfl,rfl,Int.ofNat_le.mpr (U1 b (by decide))⟩,Vl b (by decide),P3,decide_eq_true (Int.ofNat_le.mpr (U1 b (by decide))),jf b rfl,⟨i,j⟩,trivial⟩,rfl⟩
def tu:Vs:=aU (aw jJ.body 0)
def Nj:Vs:= .Call (.Attribute (cm (cm tu)) "replace" (dK (cm tu))) [.Constant (.str "_") 0 (dK (ay xz (kz tu) 0)), .Constant (.str "") 0 (dK (ay xz (kz tu) 1))] [] (dK tu)
def IB (P:Va) (Tb:bC):Nat->Ec->Nat->Option (Vs×M V):=λN C n=>match VA n 81008035 with
 |true=>UV (Nj,Au (Gz P Tb 2 N {C with spS:=bk,spE:=br}) (cm (cm tu)) "_" "")
 |false=>UW
def wm (P:Va):bC:=[(50,dY P [UY] Iz)]
noncomputable def cu (s:Vb):Vb:=abM (X7 s) "_" ""
theorem Ku (P:Va) (s:Vb):bD 0 (bnd (aR jJ gl (λa=>bk) (IB P (wm P) 40) (Gz P (wm P) 2 40) [] [.str s]) (λv=>cj P 9 v) ⟨[],[]⟩)=UV (.int (iE (cu s)),[],
  [tu=Nj,s.length<=U9,(X7 s).length<=1048576,[V.str (cu s)]=[V.str (cu s)]/\([]:List O)=[]/\(cu s).length<=600/\Y4 (hO (cu s))=UV (iE (cu s))/\(hO (cu s)).length<=640]):=by rfl'
abbrev IC:Sp:=fW (X:=Vb) (λvs=>gC (nV vs 0)) (λs=>[.str s]) (λs=> .int (iE (cu s))) λs=>s.length<=1000/\(X7 s).length<=1000/\(cu s).length<=600/\Y4 (hO (cu s))=UV (iE (cu s))/\(hO (cu s)).length<=640
theorem Nk (J:Vz) (w:V6):aX (Wz J w) 16 57 IC:=
 dq (X:=Vb) (lev:=12) (k:=2) (T:=jJ) (Tb:=wm w.params) (defs:=[]) (spS:=λa a=>bk) (spE:=IB w.params (wm w.params)) MS rfl rfl (λa h=>nomatch h) (c8 MS) (λa a a c d=>⟨bW (fd:=vZ) (by rfl') (Ni J w) c d,trivial⟩) (λN g os A L Z r U c d i t j=>by
  refine⟨λa a a e=>(nomatch e),λn st m e=>?_⟩;have b:(match VA n 81008035 with
   |true=>UV (Nj,Au (Gz w.params (wm w.params) 2 N {names:=jJ.scope.names,cells:=[]++gR (L+1) jJ.cn,fid:=L,glob:=gl,trim:=jJ.trim}) (cm (cm tu)) "_" "")
   |false=>UW)=UV (st,m):=e
  induction f:VA n 81008035 with
  |true=>simp only[f] at b;obtain⟨rfl,rfl⟩:=o4 b;exact F1 (C:={names:=jJ.scope.names,cells:=[]++gR (L+1) jJ.cn,fid:=L,glob:=gl,trim:=jJ.trim}) ⟨{j with},⟨λa a a h=>(nomatch h),λa a a h=>(nomatch h)⟩⟩ (d5 i N _ Z) (by rfl') (by rfl') (by decide+kernel) (by decide+kernel)
  |false=>simp only[f] at b;cases b) λs l=>
  b9 l λo p q=>⟨40,_,_,Ku w.params s,⟨by rfl',jf o rfl,U1 p (by decide),⟨rfl,rfl,q⟩,trivial⟩,rfl⟩
def kQ (a x:Vb):Prop:=(decide ((1:Int) < -(2^63:Int))||decide ((1:Int)≥2^63))=UY/\(decide (x.length < aba "=")||decide (Xp x < Xp "="))=UY/\(aba "="==0)=UY/\(Ye x "=" 0 x.length (limitOf x 1)).isEmpty=UY/\
 x.length<=U9/\abm x (Ye x "=" 0 x.length (limitOf x 1)) (aba "=")=[a,Wr x (UV (a.length+aba "=":Nat)) UW]
noncomputable def cQ (x:Vb):Vb:=Wr x (UV 2) UW
noncomputable def A8 (x:Vb):Bool->Vb
 |true=>Wr (cQ x) (UV 1) (UV (-1))
 |false=>cQ x
def A9 (s:Vb) (i:Int) (b:Bool):List Prop:=[abd i=UX/\(Xx s i).isSome=UX,sq (X5 s i) "\""=b]
def Ba (a x:Vb) (j:Nat):Bool->List Prop
 |true=>kQ a x::(A9 (cQ x) 0 UX++(A9 (cQ x) (-1) UX++[UX=UX,(cQ x).length<=U9,j<=1000]))
 |false=>kQ a x::(A9 (cQ x) 0 UY++[UY=UY,j<=1000])
def P4 (P:Va) (x y z:Vb) (p q r:Bool):D:= .dict P [("a", .str (A8 x p)),("b", .str (A8 y q)),("c", .str (A8 z r))]
noncomputable def Gs (j:Nat) (q:Bool):List Bool:=V8 j UY++(UX::(match q with|true=>[UX,UX,UX]|false=>[UY,UY]))
theorem Gu (P:Va) (x y z:Vb) (p q r:Bool):bD 0 (lG P AN [] 60 [.dat (.list [.str x, .str y, .str z])] [] (Gs 0 p++(Gs 1 q++Gs 2 r)))=UV (P4 P x y z p q r,[],Ba "a" x 0 p++(Ba "b" y 1 q++Ba "c" z 2 r)):=by cases p<;>cases q<;>cases r<;>rfl'
structure jq (a x:Vb) (q:Bool):Prop where
 sp:kQ a x
 len:(cQ x).length<=1000
 c0:(Xx (cQ x) 0).isSome=UX
 q0:sq (X5 (cQ x) 0) "\""=q
 c1:q=UX->(Xx (cQ x) (-1)).isSome=UX/\sq (X5 (cQ x) (-1)) "\""=UX
theorem sh {a x:Vb} {q:Bool} (h:jq a x q) (b:j<=1000):ao (Ba a x j q):=by
 have f:=h.len;have c:=h.q0;induction q with
 |true=>obtain⟨d,e⟩:=h.c1 rfl;exact⟨h.sp,⟨by decide,h.c0⟩,c,⟨by decide,d⟩,e,rfl,by refine(VK).symm▸ ?_;lia,b,trivial⟩
 |false=>exact⟨h.sp,⟨by decide,h.c0⟩,c,rfl,b,trivial⟩
def jL (x:Vb):Bool:=sq (X5 (cQ x) 0) "\""
def pE (x:Vb):Vb:=A8 x (jL x)
noncomputable def Bb:V->List D
 | .dat (.list l)=>l
 |_=>[]
noncomputable def Bc:D->Vb
 | .str s=>s
 |_=>""
abbrev yY (P:Va):Sp:=fW (X:=Vb×Vb×Vb) (λvs=>(Bc (ay .none (Bb (nV vs 0)) 0),Bc (ay .none (Bb (nV vs 0)) 1),Bc (ay .none (Bb (nV vs 0)) 2))) (λx=>[.dat (.list [.str x.1, .str x.2.1, .str x.2.2])])
 (λx=> .dict P [("a", .str (pE x.1)),("b", .str (pE x.2.1)),("c", .str (pE x.2.2))]) λx=>jq "a" x.1 (jL x.1)/\jq "b" x.2.1 (jL x.2.1)/\jq "c" x.2.2 (jL x.2.2)
theorem Gv (J:Vz) (w:V6):aX (Wz J w) 4 239 (yY w.params):=qU Ie rfl rfl rfl (c8 Ie) λx a=>(bL _ _ (Gu w.params x.1 x.2.1 x.2.2 _ _ _) (af.mpr ⟨sh a.1 (by decide),af.mpr ⟨sh a.2.1 (by decide),sh a.2.2 (by decide)⟩⟩))
section
structure HS where
 e:Bool
 q:Bool
 part:Vb
 xs:List Vb
def hU (c:Vb) (h:HS):HS:=match h.e,h.q with
 |true,q=>⟨UY,q,h.part++c,h.xs⟩
 |false,UX=>match sq c "\\" with
  |true=>⟨UX,UX,h.part,h.xs⟩
  |false=>match sq c "\"" with
   |true=>⟨UY,UY,h.part++c,h.xs⟩
   |false=>⟨UY,UX,h.part++c,h.xs⟩
 |false,UY=>match sq c "," with
  |true=>⟨UY,UY,"",h.xs++[h.part]⟩
  |false=>match sq c "\"" with
   |true=>⟨UY,UX,h.part++c,h.xs⟩
   |false=>⟨UY,UY,h.part++c,h.xs⟩
def Gw (c:Vb) (h:HS):List Bool:=match h.e,h.q with
 |true,_=>[UX]
 |false,UX=>match sq c "\\" with
  |true=>[UY,UX,UX]
  |false=>match sq c "\"" with
   |true=>[UY,UX,UY,UX]
   |false=>[UY,UX,UY,UY]
 |false,UY=>match sq c "," with
  |true=>[UY,UY,UX]
  |false=>match sq c "\"" with
   |true=>[UY,UY,UY,UX]
   |false=>[UY,UY,UY,UY]
def yZ:VY:=aw dv.body 3
def tv:Ec:=be dv [] gl (λa=>bk) (λa=>br) 0
noncomputable def Gx:Option Vb->List (Vb×V)
 |none=>[]
 |some c=>[("cur", .str c)]
noncomputable def fR (s:Vb) (h:HS) (c:Option Vb) (it:O):List O:=[.frame (("s", .str s)::("res", .ref 1)::("part", .str h.part)::("escape", .bool h.e)::("quote", .bool h.q)::Gx c), .list (h.xs.map V.str),it]
abbrev jr (P:Va) (N n:Nat) (S:St):Option (Option Fl×St×List Prop):=gZ tv (aZ P [] bZ ce gl N 2) (aE (aZ P [] bZ ce gl N 2) (n+12) tv) (aU yZ) 2 (cL yZ) (mu yZ) S
section
variable (P:Va) (s part:Vb) (xs:List Vb) (c:Option Vb) (i n N:Nat) (orc:List Bool)
theorem SI (q:Bool):jr P N n ⟨fR s ⟨UX,q,part,xs⟩ c (.strIt s i),UX::UX::orc⟩=UV (UW,⟨fR s ⟨UY,q,part++cz s i,xs⟩ (UV (cz s i)) (.strIt s (i+1)),orc⟩,[decide (i < s.length)=UX,UX=UX,part.length+1<=U9]):=by cases c<;>rfl'
theorem SJ:jr P N n ⟨fR s ⟨UY,UX,part,xs⟩ c (.strIt s i),UX::UY::UX::UX::orc⟩=UV (UW,⟨fR s ⟨UX,UX,part,xs⟩ (UV (cz s i)) (.strIt s (i+1)),orc⟩,[decide (i < s.length)=UX,UY=UY,UX=UX,sq (cz s i) "\\"=UX]):=by cases c<;>rfl'
theorem SL:jr P N n ⟨fR s ⟨UY,UX,part,xs⟩ c (.strIt s i),UX::UY::UX::UY::UX::orc⟩=UV (UW,⟨fR s ⟨UY,UY,part++cz s i,xs⟩ (UV (cz s i)) (.strIt s (i+1)),orc⟩,[decide (i < s.length)=UX,UY=UY,UX=UX,sq (cz s i) "\\"=UY,sq (cz s i) "\""=UX,part.length+1<=U9]):=by cases c<;>rfl'
theorem SM:jr P N n ⟨fR s ⟨UY,UX,part,xs⟩ c (.strIt s i),UX::UY::UX::UY::UY::orc⟩=UV (UW,⟨fR s ⟨UY,UX,part++cz s i,xs⟩ (UV (cz s i)) (.strIt s (i+1)),orc⟩,[decide (i < s.length)=UX,UY=UY,UX=UX,sq (cz s i) "\\"=UY,sq (cz s i) "\""=UY,part.length+1<=U9]):=by cases c<;>rfl'
theorem SN:jr P N n ⟨fR s ⟨UY,UY,part,xs⟩ c (.strIt s i),UX::UY::UY::UX::orc⟩=UV (UW,⟨[.frame (("s", .str s)::("res", .ref 1)::("part", .str "")::("escape", .bool UY)::("quote", .bool UY)::Gx (UV (cz s i))), .list (xs.map V.str++[.str part]), .strIt s (i+1)],orc⟩,[decide (i < s.length)=UX,UY=UY,UY=UY,sq (cz s i) ","=UX,(xs.map V.str).length<=U9]):=by cases c<;>rfl'
theorem SO:jr P N n ⟨fR s ⟨UY,UY,part,xs⟩ c (.strIt s i),UX::UY::UY::UY::UX::orc⟩=UV (UW,⟨fR s ⟨UY,UX,part++cz s i,xs⟩ (UV (cz s i)) (.strIt s (i+1)),orc⟩,[decide (i < s.length)=UX,UY=UY,UY=UY,sq (cz s i) ","=UY,sq (cz s i) "\""=UX,part.length+1<=U9]):=by cases c<;>rfl'
theorem SP:jr P N n ⟨fR s ⟨UY,UY,part,xs⟩ c (.strIt s i),UX::UY::UY::UY::UY::orc⟩=UV (UW,⟨fR s ⟨UY,UY,part++cz s i,xs⟩ (UV (cz s i)) (.strIt s (i+1)),orc⟩,[decide (i < s.length)=UX,UY=UY,UY=UY,sq (cz s i) ","=UY,sq (cz s i) "\""=UY,part.length+1<=U9]):=by cases c<;>rfl'
theorem SQ (h:HS):jr P N n ⟨fR s h c (.strIt s i),UY::orc⟩=UV (UV .next,⟨fR s h c .dead,orc⟩,[decide (i < s.length)=UY]):=by cases c<;>rfl'
end
theorem Gy (P:Va) (s:Vb) (c:Option Vb) (i n N:Nat) (orc:List Bool) (h:HS) (hi:i < s.length) (g:h.part.length<=1000) (j:h.xs.length<=1000):
  ∃nds,jr P N n ⟨fR s h c (.strIt s i),UX::(Gw (cz s i) h++orc)⟩=UV (UW,⟨fR s (hU (cz s i) h) (UV (cz s i)) (.strIt s (i+1)),orc⟩,nds)/\ao nds:=by
 obtain⟨e,q,part,b⟩:=h
 have a:decide (i < s.length)=UX:=decide_eq_true hi
 have d:part.length+1<=U9:=by refine ac VK ?_;dsimp only at g;exact Vl g (by decide)
 induction e with
 |true=>exact⟨_,SI P s part b c i n N orc q,a,rfl,d,trivial⟩
 |false=>
  induction q with
  |true=>
   unfold Gw hU;dsimp only;induction g1:sq (cz s i) "\\" with
   |true=>exact⟨_,SJ P s part b c i n N orc,a,rfl,rfl,g1,trivial⟩
   |false=>
    dsimp only;induction f:sq (cz s i) "\"" with
    |true=>exact⟨_,SL P s part b c i n N orc,a,rfl,rfl,g1,f,d,trivial⟩
    |false=>exact⟨_,SM P s part b c i n N orc,a,rfl,rfl,g1,f,d,trivial⟩
  |false=>
   unfold Gw hU;dsimp only;induction g1:sq (cz s i) "," with
   |true=>have:=SN P s part b c i n N orc;rw[show b.map V.str++[V.str part]=(b++[part]).map V.str by simp] at this;exact⟨_,this,a,rfl,rfl,g1,by rw[Vy];refine ac VK ?_;dsimp only at j;exact U1 j (by decide),trivial⟩
   |false=>
    dsimp only;induction f:sq (cz s i) "\"" with
    |true=>exact⟨_,SO P s part b c i n N orc,a,rfl,rfl,g1,f,d,trivial⟩
    |false=>exact⟨_,SP P s part b c i n N orc,a,rfl,rfl,g1,f,d,trivial⟩
noncomputable def ng (s:Vb):Nat->Nat->HS->HS
 |_,0,h=>h
 |i,r+1,h=>ng s (i+1) r (hU (cz s i) h)
theorem Kv (s:Vb) (i:Nat):(cz s i).length=1:=rfl
theorem ba (a b:Vb):(a++b).length=a.length+b.length:=by refine(?_:(a.cps++b.cps).size=_);refine ac Array.size_append ?_;rfl
theorem Db (c:Vb) (b:c.length=1) (h:HS):(hU c h).part.length<=h.part.length+1/\(hU c h).xs.length<=h.xs.length+1:=by
 obtain⟨e,q,part,xs⟩:=h;dsimp only[hU];have d:(part++c).length<=part.length+1:=Ve ((ba ..).trans (congrArg _ b));have f:(xs++[part]).length<=xs.length+1:=Ve U8;have a:(part++c).length<=part.length+1/\xs.length<=xs.length+1:=⟨d,WG _⟩
 induction e with
 |true=>exact a
 |false=>induction q with
  |true=>induction sq c "\\" with
   |true=>exact⟨WG _,WG _⟩
   |false=>induction sq c "\""<;>exact a
  |false=>induction sq c "," with
   |true=>exact⟨W2 _,f⟩
   |false=>induction sq c "\""<;>exact a
theorem Dc (P:Va) (N:Nat) (s:Vb) (r i:Nat) (h:HS) (c:Option Vb) (n:Nat) (hi:i+r=s.length) (b:r<=n) (d:h.part.length+r<=1000) (f:h.xs.length+r<=1000) (rest:List Bool):∃orc c' ps,
  (aE (aZ P [] bZ ce gl N 2) (n+13) tv).fl (aU yZ) 2 (cL yZ) (mu yZ) ⟨fR s h c (.strIt s i),orc⟩=UV (.next,⟨fR s (ng s i r h) c' .dead,rest⟩,ps)/\ao ps:=by
 induction r generalizing i h c n with
 |zero=>exact⟨UY::rest,c,_,mW (SQ P s c i n N rest h),⟨decide_eq_false (abE (Ve hi.symm)),trivial⟩⟩
 |succ r g=>
  induction n using WC with
  |zero=>exact absurd b (Zd _)
  |succ n=>
  refine aN (Db (cz s i) (Kv s i) h) λj k=>(mn (g (i+1) (hU (cz s i) h) (UV (cz s i)) n ((VU i 1 r).trans hi) (XK b) (U1 (Vt j r) (U1 (Ve (VU ..)) d)) (U1 (Vt k r) (U1 (Ve (VU ..)) f))) λorc c' ps e a=>?_)
  exact aj (Gy P s c i (n+1) N orc h (Vq (aab (Wv _)) (Ve hi)) (U1 (Vm _ _) d) (U1 (Vm _ _) f)) λl t m=>(Lj _ c' _ (qT t e) (af.mpr ⟨m,a⟩))
noncomputable def h0:HS:=⟨UY,UY,"",[]⟩
theorem GC (P:Va) (s e0 e1 b:Vb) (hs:s.length<=900) (g:ng s 0 s.length h0=⟨UY,UY,b,[e0,e1]⟩) (h2:b.length≠0) (hl:e0.length<=900/\e1.length<=900/\b.length<=900):∃N orc S' qs,bnd (aR dv gl (λa=>bk) (λa=>br) (Gz P [] 2 N) [] [.str s]) (λv=>cj P 9 v) ⟨[],orc⟩=UV (.list [.str (Wf e0), .str (Wf e1), .str (Wf b)],S',qs)/\ao qs/\S'.H.take 0=[]:=by
 obtain⟨orc,c,h,e,d⟩:=Dc P (s.length+15) s s.length 0 h0 UW s.length (Wi _ _) (Vr _) (by show 0+_<=_;lia) (by show 0+_<=_;lia) [UX];rw[g] at e;have j:(aE (aZ P [] bZ ce gl (s.length+15) 2) (s.length+14) tv).ex (aw dv.body 3) ⟨[.frame [("s", .str s),("res", .ref 1),("part", .str ""),("escape", .bool UY),("quote", .bool UY)], .list []],orc⟩=UV (.next,⟨fR s ⟨UY,UY,b,[e0,e1]⟩ c .dead,[UX]⟩,[]++h):=
  mX (C:=tv) (o:=aZ P [] bZ ce gl (s.length+15) 2) (n:=s.length+13) (i:=2) (s:=aw dv.body 3) (by rfl') (by rfl') (S1:=⟨fR s h0 UW (.strIt s 0),orc⟩) (by rfl') e
 have k:cG (aE (aZ P [] bZ ce gl (s.length+15) 2) (s.length+14) tv).ex [aw dv.body 4,aw dv.body 5] ⟨fR s ⟨UY,UY,b,[e0,e1]⟩ c .dead,[UX]⟩=UV (.ret (.ref 4),⟨[.frame (("s", .str s)::("res", .ref 1)::("part", .str b)::("escape", .bool UY)::("quote", .bool UY)::Gx c), .list [.str e0, .str e1, .str b], .dead, .dead, .list [.str (Wf e0), .str (Wf e1), .str (Wf b)], .dead],[]⟩,
   [b.length < 2^62,(!decide (b.length=0))=UX,(2:Nat)<=U9,e0.length<=U9,(0:Nat)<=U9,e1.length<=U9,(1:Nat)<=U9,b.length<=U9,(2:Nat)<=U9]):=by cases c<;>rfl'
 obtain⟨l,m,f⟩:=hl;refine⟨s.length+15,orc,_,_,CQ (r:=cG (aE (aZ P [] bZ ce gl (s.length+15) 2) (s.length+14) tv).ex ([aw dv.body 0,aw dv.body 1,aw dv.body 2]++aw dv.body 3::[aw dv.body 4,aw dv.body 5]) ⟨[.frame [("s", .str s)]],orc⟩) (v:= .ref 4) rfl (by rfl') (kN (by rfl':cG (aE (aZ P [] bZ ce gl (s.length+15) 2) (s.length+14) tv).ex [aw dv.body 0,aw dv.body 1,aw dv.body 2] ⟨[.frame [("s", .str s)]],orc⟩=UV (.next,⟨[.frame [("s", .str s),("res", .ref 1),("part", .str ""),("escape", .bool UY),("quote", .bool UY)], .list []],orc⟩,[(0:Nat)<=U9])) (jK j k)) rfl,?_,rfl⟩;refine af.mpr ⟨af.mpr ⟨⟨by decide,trivial⟩,af.mpr ⟨d,⟨Vl f (by decide),(decide_eq_false h2).symm▸rfl,by decide,jf l rfl,by decide,jf m rfl,by decide,jf f rfl,by decide,trivial⟩⟩⟩,trivial⟩
structure wn (s e0 e1 e2:Vb):Prop where
 len:s.length<=900
 run:ng s 0 s.length h0=⟨UY,UY,e2,[e0,e1]⟩
 ne:e2.length≠0
 l:e0.length<=900/\e1.length<=900/\e2.length<=900
def km (s:Vb):HS:=ng s 0 s.length h0
def b8 (s:Vb):Nat->Vb
 |2=>(km s).part
 |j=>ay Vj (km s).xs j
abbrev Dd:Sp:=fW (X:=Vb) (λvs=>gC (nV vs 0)) (λs=>[.str s]) (λs=> .list [.str (Wf (b8 s 0)), .str (Wf (b8 s 1)), .str (Wf (b8 s 2))]) λs=>wn s (b8 s 0) (b8 s 1) (b8 s 2)
theorem Kw (J:Vz) (w:V6):aX (Wz J w) 4 244 Dd:=
 dq (X:=Vb) (lev:=0) (k:=2) (T:=dv) (Tb:=[]) (defs:=[]) (spS:=λa a=>bk) (spE:=λa a=>br) Ig rfl rfl (λa h=>nomatch h) (c8 Ig) (λa a a a a=>trivial) (λa a a a a a a a a a a a a=>dw) λs b=>
  ez (GC w.params s _ _ _ b.len b.run b.ne b.l) λN c a d e f a=>⟨N,c,d,congrArg (bD 0) e,f,rfl⟩
end
noncomputable def nh (f:St->X) (pre:X->List O) (v:X->α) (a:X->List O) (ps:X->List Prop):M α:=λS=>UV (v (f S),⟨a (f S),S.orc⟩,(S.H=pre (f S))::ps (f S))
section
theorem tw {f:St->X} {pre:X->List O} {v:X->α} {b:X->List O} {ps:X->List Prop} {m2:M α} (run:∀x,ao (ps x)->∃o1 d p2,m2 ⟨pre x,o1⟩=UV (v x,⟨b x,d⟩,p2)/\ao p2) (h:ae c A fz U m2 t R):
  ae c A fz U (nh f pre v b ps) t R:=by
 intro S a r p e i j ρ' s Q k q g y
 cases e
 obtain⟨l,m⟩:=i
 refine mn (run _ m) λo1 d p2 n o=>?_
 rw[l] at g
 exact h _ _ _ _ n o _ _ _ _ k q g y
theorem ae.after {g:α->M Unit} (h:ae c A fz U m t R) (w:∀fz U a,Gh c fz U (g a) (λd d d=>True)) (z:∀fz fz' U a x,Le fz fz'->R fz U a x->R fz' U a x):ae c A fz U (bnd m λa=>bnd (g a) λd=>Mine.Internal.ret a) t R:=by
 intro S a N p e B fz' ρ' s Q k q C y;refine ez (bA e) λb n D O e1 e2 f=>?_;subst f;refine ez (bA e2) λu P E T e3 F f=>?_;subst f;cases F;obtain⟨G,H⟩:=af.mp B;refine h S a n D e1 G fz' ρ' s Q k q C λo j r x I J i K=>(ca (w o j a n u _ E e3 (af.mp H).1 o j r.heap (Le.refl _) (U4 _) i.hr) λL v l d=>?_)
 exact y L j r x (I.trans v) J (i.tz l) (z _ _ _ _ _ v K)
end
def eI (S:St) (i:Nat) (x:Vb):V:=match S.H[i]? with
 |some (.frame l)=>(lk x l).getD .none
 |_=> .none
def q8 (v:V):M Unit:=λS=>match v with
 | .ref i=>match S.H[i]? with
  |some (.list vs)=>UV ((),⟨S.H.set i (.strs (vs.map gC)),S.orc⟩,[vs=(vs.map gC).map V.str])
  |_=>UW
 |_=>UW
def q9 (v:V):M Unit:=λS=>match v with
 | .ref i=>match S.H[i]? with
  |some (.list vs)=>UV ((),⟨S.H.set i (.ints (vs.map bU)),S.orc⟩,[vs=(vs.map bU).map V.int])
  |_=>UW
 |_=>UW
theorem av.strs (h:av g U (ss.map V.str) xs):dk ss xs:=by
 induction ss generalizing xs with
 |nil=>exact h.e0 .nil
 |cons s r c=>exact av.ec h λx xs a b=>a.e_str λt=> .cons (c b)
theorem av.ints (h:av g U (ns.map V.int) xs):Wu xs ns:=by
 induction ns generalizing xs with
 |nil=>exact h.e0 .nil
 |cons s r c=>exact av.ec h λx xs a b=>a.e_int λt=> .cons _ _ (c b)
theorem Kx {S:St} {u:Unit} {p:List Prop} {g:List V->O×Prop} (e:(match v with
 | .ref i=>match S.H[i]? with
  |some (.list vs)=>UV ((),(⟨S.H.set i (g vs).1,S.orc⟩:St),[(g vs).2])
  |_=>UW
 |_=>UW)=UV (u,S',p)):∃i vs,S.H[i]?=UV (.list vs)/\S'=⟨S.H.set i (g vs).1,S.orc⟩/\p=[(g vs).2]:=by
 induction v with
 |ref i=>
  dsimp only at e;induction h:S.H[i]? with
  |none=>rw[h] at e;exact nn e
  |some o=>
   rw[h] at e;induction o with
   |list vs=>exact b9 (db e) λa b d=>cY i vs h b d
   |_=>exact nn e
 |_=>exact nn e
section
theorem ID {m:M Unit} {g:List V->O×Prop} (n:∀S,m S=match v with
 | .ref i=>match S.H[i]? with
  |some (.list vs)=>UV ((),(⟨S.H.set i (g vs).1,S.orc⟩:St),[(g vs).2])
  |_=>UW
 |_=>UW) (hl:∀vs,(g vs).1.live=UX) (o:∀vs,(g vs).2->∀P fz U a ob,OR P fz U (.list vs) a ob->OR P fz U (g vs).1 a ob):Gh c fz U m (λb b b=>True):=by
 intro S u B p e r d ρ' h k q x
 rw[n] at e
 refine cy (Kx e) λi vs l f j=>(ac f ?_)
 subst j
 refine(cE d (Le.refl _) (x.reO l rfl (hl vs) λa ob s t=>o vs r.1 _ _ _ _ _ ?_) trivial)
 refine eX (x.obj i _ l rfl) λC w y z b b A=>?_
 obtain rfl:=U0 (s.symm.trans y)
 obtain rfl:=U0 (t.symm.trans z)
 exact A
theorem De (v:V):Gh c fz U (q8 v) (λb b b=>True):=ID (g:=λvs=>(.strs (vs.map gC),vs=(vs.map gC).map V.str)) (λS=>rfl) (λb=>rfl) λvs d P fz U a i h=>by refine aG h λf n e r=>?_;rw[show vs=(vs.map gC).map V.str from d] at r;exact(bL f n e r.strs)
theorem Df (v:V):Gh c fz U (q9 v) (λb b b=>True):=ID (g:=λvs=>(.ints (vs.map bU),vs=(vs.map bU).map V.int)) (λS=>rfl) (λb=>rfl) λvs d P fz U a i h=>by refine aG h λf n e r=>?_;rw[show vs=(vs.map bU).map V.int from d] at r;exact(bL f n e r.ints)
end
theorem y0 {o:dU} {n:Nat} {x:Vb} {S:St} {p1 p2 p3 p4:List Prop} (d:(ql scope x&& !eB iter)=UX) (e:gy C scope.names=UV cl)
  (h1:bnd ((G C).ev iter) o.iter S=UV (.ref i,S1,p1)) (hi:jB i S1=UV ((),S1,p4)) (h2:eY o (mz C scope cl (S1.H.length+1)) (G (mz C scope cl (S1.H.length+1))) elt ifs x i S1.H.length n ⟨S1.H++[.list []]++[.frame []],S1.orc⟩=UV ((),S2,p2)) (g:tT (S1.H.length+1) S2=UV ((),S3,p3)):
  ey C o G n elt x iter ifs scope (λc=>ret ()) S=UV (.ref S1.H.length,S3,p1++(p4++(p2++p3))):=by
 dsimp only[ey]
 refine ac d (ac e ?_)
 refine ez (bA h1) λxv l m r h j f=>(ac f ?_)
 rw[Vi]
 refine aJ h (aJ j (aJ hi ?_))
 refine aJ (p:=[]) (q:=p2++p3) (S1:=⟨S1.H++[.list []],S1.orc⟩) rfl ?_
 refine aJ (p:=[]) (q:=p2++p3) (S1:=⟨S1.H++[.list []]++[.frame []],S1.orc⟩) (a:=S1.H.length+1) (by show UV _=UV _;refine ac U8 ?_;rfl) ?_
 refine aJ h2 (aJ (p:=[]) (q:=p3) rfl ?_)
 have:=aJ g (k:=λc=>ret (V.ref S1.H.length)) (b:= .ref S1.H.length) (q:=[]) rfl
 rwa[VW] at this
theorem GD (xs:List Vb):(xs.map V.str).map gC=xs:=ac Yg (List.map_id' _)
theorem GE (xs:List Int):(xs.map V.int).map bU=xs:=ac Yg (List.map_id' _)
theorem Ky {m:M V} {S:St} {xs:List Vb} {p:List Prop} (h:m S=UV (.ref i,S1,p)) (h1:S1.H[i]?=UV (.list (xs.map V.str))) (b:ao p):∃p2,(bnd m λv=>bnd (q8 v) λa=>ret v) S=UV (.ref i,⟨S1.H.set i (.strs xs),S1.orc⟩,p2)/\ao p2:=by
 have e:q8 (.ref i) S1=UV ((),⟨S1.H.set i (.strs xs),S1.orc⟩,[xs.map V.str=xs.map V.str]):=by refine(?_:(match S1.H[i]? with|some (.list vs)=>_|_=>_)=_);refine ac h1 ?_;dsimp only;rw[GD]
 exact(aA _ (aJ h (aJ (q:=[]) e rfl)) (af.mpr ⟨b,rfl,trivial⟩))
theorem Kz {m:M V} {S:St} {xs:List Int} {p:List Prop} (h:m S=UV (.ref i,S1,p)) (h1:S1.H[i]?=UV (.list (xs.map V.int))) (b:ao p):∃p2,(bnd m λv=>bnd (q9 v) λa=>ret v) S=UV (.ref i,⟨S1.H.set i (.ints xs),S1.orc⟩,p2)/\ao p2:=by
 have e:q9 (.ref i) S1=UV ((),⟨S1.H.set i (.ints xs),S1.orc⟩,[xs.map V.int=xs.map V.int]):=by refine(?_:(match S1.H[i]? with|some (.list vs)=>_|_=>_)=_);refine ac h1 ?_;dsimp only;rw[GE]
 exact(aA _ (aJ h (aJ (q:=[]) e rfl)) (af.mpr ⟨b,rfl,trivial⟩))
noncomputable def lK (l:Nat) (e:Vs) (m:Nat->Ec->M V):Nat->Ec->Nat->Option (Vs×M V):=λN C n=>match VA n l with
 |true=>UV (e,m N C)
 |false=>UW
theorem pF {x y:α} (h:(match b with|true=>UV x|false=>UW)=UV y):x=y:=by
 induction b with
 |true=>exact U0 h
 |false=>exact nn h
abbrev hV (T:FT) (L:Nat):Ec:={names:=T.scope.names,cells:=[]++gR (L+1) T.cn,fid:=L,glob:=gl,trim:=T.trim}
theorem nZ {l L:Nat} {m:Nat->Ec->M V} (h:ae c A fz U (m N (hV T L)) (Wq e Z) au):eh c A (be T [] gl (λa=>bk) (lK l e m N) L) Z fz U:=
 ⟨λa a a e=>(nomatch e),λn d f b=>by cases pF b;exact h⟩
section
def hX (e:Vs):Lc:=(sY e).getD ⟨xz,"",z0,xz,[],default,z0⟩
def jb:Vs:=ay xz (kz (aU (aw (cL (aw dR.body 2)) 0))) 0
noncomputable def pG:XO:=(hX jb).scope
def gD (s:Vb):Nat->Nat->List Vb
 |_,0=>[]
 |i,r+1=>("\\"++cz s i)::gD s (i+1) r
noncomputable def jM (a:Vb) (w:Int) (s:Vb):O:= .frame [("numeral", .str a),("way", .int w),("text", .str s)]
noncomputable def Dg (a:Vb) (w:Int) (s:Vb) (it:O) (xs:List Vb) (c:Option Vb):List O:=[jM a w s,it, .list (xs.map V.str), .frame (match c with|none=>[]|some c=>[("sign", .str c)])]
def Bd:Ec:=mz (hV dR 0) pG [] 3
abbrev IE (P:Va) (N n:Nat) (S:St):Option (Bool×St×List Prop):=nX (aZ P [] bZ ce gl N 2) Bd (aE (aZ P [] bZ ce gl N 2) (n+12) Bd) (hX jb).elt [] "sign" 1 2 S
section
variable (P:Va) (a s:Vb) (w:Int) (xs:List Vb) (c:Option Vb) (i n N:Nat) (orc:List Bool)
theorem P5:IE P N n ⟨Dg a w s (.strIt s i) xs c,UX::orc⟩=UV (UX,⟨[jM a w s, .strIt s (i+1), .list (xs.map V.str++[.str ("\\"++cz s i)]), .frame [("sign", .str (cz s i))]],orc⟩,[decide (i < s.length)=UX,1+1<=16777216,(xs.map V.str).length<=U9]):=by cases c<;>rfl'
theorem P6:IE P N n ⟨Dg a w s (.strIt s i) xs c,UY::orc⟩=UV (UY,⟨Dg a w s .dead xs c,orc⟩,[decide (i < s.length)=UY]):=by cases c<;>rfl'
end
theorem SS (xs:List Vb) (u:Vb):xs.map V.str++[V.str u]=(xs++[u]).map V.str:=ac VZ rfl
theorem GF (P:Va) (N m:Nat) (a s:Vb) (w:Int) (r i:Nat) (xs:List Vb) (c:Option Vb) (k:Nat) (hi:i+r=s.length) (b:r < k) (f:xs.length+r<=1000):∃orc c' ps,
  eY (aZ P [] bZ ce gl N 2) Bd (aE (aZ P [] bZ ce gl N 2) (m+12) Bd) (hX jb).elt [] "sign" 1 2 k ⟨Dg a w s (.strIt s i) xs c,orc⟩=UV ((),⟨Dg a w s .dead (xs++gD s i r) c',[]⟩,ps)/\ao ps:=by
 induction r generalizing i xs c k with
 |zero=>induction k using WC with
  |zero=>exact absurd b (W7 _)
  |succ k=>exact⟨[UY],c,[decide (i < s.length)=UY],ac (VW xs:xs++gD s i 0=xs) (CP (P6 P a s w xs c i m N [])),decide_eq_false (abE (Ve hi.symm)),trivial⟩
 |succ r g=>
  induction k using WC with
  |zero=>exact absurd b (W7 _)
  |succ k=>
  obtain⟨orc,c',ps,e,d⟩:=g (i+1) (xs++["\\"++cz s i]) (UV (cz s i)) k ((VU i 1 r).trans hi) (aak b) (ac U8 (U1 (Ve (VU _ 1 _)) f));have t:=P5 P a s w xs c i m N orc;rw[SS] at t;rw[Vi] at e;exact⟨UX::orc,c',_,AS t e,af.mpr ⟨⟨decide_eq_true (Vq (aab (Wv r)) (Ve hi)),by decide,by rw[Vy];refine ac VK ?_;exact U1 (U1 (Vm _ _) f) (by decide),trivial⟩,d⟩⟩
def iW (P:Va):Nat->Ec->Nat->Option (Vs×M V):=lK 287023053 jb λN C=>nh (X:=Vb×Int×Vb) (λS=>(gC (eI S 0 "numeral"),bU (eI S 0 "way"),gC (eI S 0 "text"))) (λx=>[jM x.1 x.2.1 x.2.2]) (λa=> .ref 2)
 (λx=>[jM x.1 x.2.1 x.2.2, .dead, .strs (gD x.2.2 0 x.2.2.length), .dead]) λx=>[C.fid=0,x.2.2.length<=1000/\x.2.2.length+20<=N]
theorem Dh {w:V6} {N L:Nat} (o:cp ((Wz J w).cx g os) A (aZ w.params [] bZ ce gl N 2)) (p:aI ((Wz J w).cx g os) (be dR [] gl (λb=>bk) (iW w.params N) L) Z U):
  eh ((Wz J w).cx g os) A (be dR [] gl (λb=>bk) (iW w.params N) L) Z fz U:=by
 refine nZ (tw (m2:=bnd ((aE (aZ w.params [] bZ ce gl N 2) N (hV dR L)).ev jb) λv=>bnd (q8 v) λb=>ret v) (λx q=>?_) ((d5 o N (hV dR L) Z).ev fz U ⟨{p with},⟨λb b b h=>(nomatch h),λb b b h=>(nomatch h)⟩⟩ jb|>.after (λb b v=>De v) λb b b b b k h=>h.mono k (U4 _)))
 obtain⟨a,d,s⟩:=x
 refine b9 q λf i b=>?_
 obtain⟨r,l⟩:=i
 have f:L=0:=f
 refine ac f ?_
 dsimp only at r l
 obtain⟨m,rfl⟩:∃m,N=m+13:=⟨N - 13,(Wm (U1 (U1 (by decide) (Wp 20 _)) l)).symm⟩
 obtain⟨c,t,E,e,j⟩:=GF w.params (m+13) m a s d s.length 0 [] UW (m+12) (by lia) (by lia) (by show 0+_<=_;lia)
 have u:bnd ((aE (aZ w.params [] bZ ce gl (m+13) 2) (m+12) (hV dR 0)).ev (hX jb).iter) (aZ w.params [] bZ ce gl (m+13) 2).iter ⟨[jM a d s],c⟩=UV (.ref 1,⟨[jM a d s, .strIt s 0],c⟩,[]):=by rfl'
 have y:=y0 (x:="sign") (ifs:=[]) (scope:=pG) (cl:=[]) (C:=hV dR 0) (G:=aE (aZ w.params [] bZ ce gl (m+13) 2) (m+12)) (n:=m+12) (by rfl') (by rfl') u (p4:=[]) (by rfl') e (S3:=⟨[jM a d s, .dead, .list ((gD s 0 s.length).map V.str), .dead],[]⟩) (p3:=[]) (by cases t<;>rfl')
 refine aj (Ky ((show(aE (aZ w.params [] bZ ce gl (m+13) 2) (m+13) (hV dR 0)).ev jb ⟨[jM a d s],c⟩=ey (hV dR 0) (aZ w.params [] bZ ce gl (m+13) 2) (aE (aZ w.params [] bZ ce gl (m+13) 2) (m+12)) (m+12) (hX jb).elt "sign" (hX jb).iter [] pG (λb=>ret ()) ⟨[jM a d s],c⟩ by rfl').trans y) (xs:=gD s 0 s.length) rfl (af.mpr ⟨trivial,af.mpr ⟨trivial,af.mpr ⟨j,trivial⟩⟩⟩)) λz B D=>?_
 exact⟨c,[],z,B,D⟩
abbrev wo (P:Va) (T:FT) (Tb:bC) (N:Nat) (sp:Nat->Ec->Nat->Option (Vs×M V)) (vs:List V) (objs:List O) (orc:List Bool):Option (D×St×List Prop):=bnd (aR T gl (λa=>bk) (sp N) (Gz P Tb 2 N) [] vs) (λv=>cj P 9 v) ⟨objs,orc⟩
noncomputable def bf (s:Vb) (w:Int):Vb:=Yj " " (w.fmod 3)++s++Yj " " ((w.fdiv 3).fmod 3)
def sk (k:Int):Prop:=(decide (k < -2^63)||decide (k≥2^63))=UY/\(¬k < 1->(k==1||(" ":Vb).length==0)=UY->¬((" ":Vb).length:Int) > (2^63 - 1) / k)/\(¬k < 1->(k==1||(" ":Vb).length==0)=UY->Builtin.Str.tooLong ((" ":Vb).length*k.toNat)=UY)
noncomputable def sm (s:Vb) (w:Int):List Prop:=[(3:Int)≠0,sk (w.fmod 3),(Yj " " (w.fmod 3)).length+s.length<=16777216,(3:Int)≠0/\(3:Nat) < 1073741824,(3:Int)≠0,sk ((w.fdiv 3).fmod 3),(Yj " " (w.fmod 3)++s).length+(Yj " " ((w.fdiv 3).fmod 3)).length<=16777216]
def lL (s:Vb) (w:Int):Bool->Bool->List Prop
 |true,b=>[sq (bf s w) s=UX,(9:Int)≠0/\(9:Nat) < 1073741824,(2:Int)≠0,(!decide ((w.fdiv 9).fmod 2=0))=b,b=b]
 |false,_=>[sq (bf s w) s=UY,UY=UY]
noncomputable def jN (w:Int) (b:Bool):List Prop:=[(18:Int)≠0/\(18:Nat) < 1073741824,(2:Int)≠0,(!decide ((w.fdiv 18).fmod 2=0))=b]
noncomputable def pH (t:Vb):List Prop:=[1+t.length<=16777216,("\""++t:Vb).length+1<=16777216]
noncomputable def jc (t:Vb):Vb:=Wx "" (gD t 0 t.length)
noncomputable def iF (t:Vb):Vb:="\""++t++"\""
def GG (s:Vb) (w:Int) (n:Nat):List Prop:=[jb=jb,[jM s w (bf s w)]=[jM s w (bf s w)],(0:Nat)=0,(bf s w).length<=1000/\(bf s w).length+20<=n+60,acM "" (gD (bf s w) 0 (bf s w).length)=UX]
section
variable (P:Va) (s:Vb) (w:Int) (n:Nat)
theorem P7:bD 0 (wo P dR [] (n+60) (iW P) [.str s, .int w] [] [UX,UX,UX])=UV (.str (bf s w),[],sm s w++lL s w UX UX):=by rfl'
theorem Nl:bD 0 (wo P dR [] (n+60) (iW P) [.str s, .int w] [] [UX,UY,UY,UY])=UV (.str (iF (bf s w)),[],sm s w++(lL s w UX UY++(jN w UY++pH (bf s w)))):=by rfl'
theorem Nm:bD 0 (wo P dR [] (n+60) (iW P) [.str s, .int w] [] [UX,UY,UY,UX])=UV (.str (iF (jc (bf s w))),[],sm s w++(lL s w UX UY++(jN w UX++GG s w n++pH (jc (bf s w))))):=by rfl'
theorem Nn:bD 0 (wo P dR [] (n+60) (iW P) [.str s, .int w] [] [UY,UY,UX])=UV (.str (iF (jc (bf s w))),[],sm s w++(lL s w UY UY++(jN w UX++GG s w n++pH (jc (bf s w))))):=by rfl'
theorem No:bD 0 (wo P dR [] (n+60) (iW P) [.str s, .int w] [] [UY,UY,UY])=UV (.str (iF (bf s w)),[],sm s w++(lL s w UY UY++(jN w UY++pH (bf s w)))):=by rfl'
end
theorem n7 {k:Int} (h0:0<=k) (a:k < 3):sk k:=by
 have:k=0∨k=1∨k=2:=by lia
 rcases this with rfl|rfl|rfl<;>(unfold sk;decide+kernel)
theorem bb (x:Int) {k:Int} (h:0 < k):0<=x.fmod k/\x.fmod k < k:=⟨Int.fmod_nonneg_of_pos _ h,Int.fmod_lt_of_pos _ h⟩
theorem eQ {k:Int} (h0:0<=k) (a:k < 3):(Yj " " k).length=k.toNat:=by
 have:k=0∨k=1∨k=2:=by lia
 rcases this with rfl|rfl|rfl<;>rfl
theorem oV {x:Nat} (h:x < 3):x=0∨x=1∨x=2:=yc (p:=λi=>i=0∨i=1∨i=2) h (.inl rfl) (.inr (.inl rfl)) (.inr (.inr rfl))
theorem jO {a:Int} (h:0<=a/\a < 3):a.toNat<=2:=Nat.le_of_lt_succ ((WW h.1).mpr h.2)
theorem wp (s:Vb) (w:Int):(bf s w).length<=s.length+4:=by have a:=bb w (show(0:Int) < 3 by decide);have b:=bb (w.fdiv 3) (show(0:Int) < 3 by decide);unfold bf;rw[ba,ba,eQ a.1 a.2];refine ac (eQ b.1 b.2) ?_;exact U1 (VD (Vt (jO a) _) (jO b)) (Ve (congrArg (· +2) (Wi 2 _)))
theorem KA {s:Vb} {w:Int} (h:s.length<=200):ao (sm s w):=by
 have a:=bb w (show(0:Int) < 3 by decide);have b:=bb (w.fdiv 3) (show(0:Int) < 3 by decide);refine⟨by decide,n7 a.1 a.2,?_,by decide,by decide,n7 b.1 b.2,?_,trivial⟩
 ·refine ac (eQ a.1 a.2) ?_;exact U1 (VD (jO a) h) (by decide)
 ·rw[ba,eQ a.1 a.2];refine ac (eQ b.1 b.2) ?_;exact U1 (VD (VD (jO a) h) (jO b)) (by decide)
theorem lM (s:Vb) (r i:Nat):(gD s i r).length=r/\((gD s i r).map (·.length)).sum=2*r:=by
 induction r generalizing i with
 |zero=>exact⟨rfl,rfl⟩
 |succ r a=>exact⟨congrArg (· +1) (a (i+1)).1,(congrArg (2+·) (a (i+1)).2).trans (Wi 2 _)⟩
theorem y5 (s:Vb):(jc s).length<=2*s.length:=by have:=ack "" (gD s 0 s.length);rw[(lM s s.length 0).2,(lM s s.length 0).1] at this;rw[<-eq_of_beq (join_plain_closes "" (gD s 0 s.length))] at this;exact this
theorem y6 {t:Vb} (h:t.length<=1000):ao (pH t):=⟨by lia,by rw[ba];show 1+_+1<=_;lia,trivial⟩
def P8 (s:Vb) (w:Int) (k:Nat):Prop:=s.length<=200/\((bf s w=s/\(w.fdiv 9).fmod 2≠0)↔k=0)/\(k≠0->((w.fdiv 18).fmod 2=0↔k=1))
def Be (s:Vb) (w:Int):Nat->Vb
 |0=>bf s w
 |1=>iF (bf s w)
 |_=>iF (jc (bf s w))
abbrev IF (k:Nat):Sp:=fW (X:=Vb×Int) (λvs=>(gC (nV vs 0),bU (nV vs 1))) (λx=>[.str x.1, .int x.2]) (λx=> .str (Be x.1 x.2 k)) λx=>P8 x.1 x.2 k/\k < 3
theorem Np (J:Vz) (w:V6) (k:Nat):aX (Wz J w) 4 277 (IF k):=
 dq (X:=Vb×Int) (lev:=0) (k:=2) (T:=dR) (Tb:=[]) (defs:=[]) (spS:=λa a=>bk) (spE:=iW w.params) Il rfl rfl (λa h=>nomatch h) (c8 Il) (λa a a a a=>trivial) (λa a a a a a a a a a A a B=>Dh A B) λx C=>by
  obtain⟨s,c⟩:=x;obtain⟨⟨n,h0,o⟩,p⟩:=C;dsimp only at n h0 o;have f:=KA (w:=c) n;have g:=wp s c;have r:∀b,(!decide ((c.fdiv 18).fmod 2=0))=b->ao (jN c b):=λb e=>⟨by decide,by decide,e,trivial⟩
  have t:ao (GG s c 260):=⟨rfl,rfl,rfl,⟨by lia,by lia⟩,joinOk_of (by refine ac ((lM _ _ 0).1) (ac ((lM _ _ 0).2) ?_);show _+_*0<=_;lia),trivial⟩
  have i:k=1->ao (jN c UY):=λe=>r _ ((decide_eq_true ((o λh=>absurd (e.symm.trans h) (by decide)).mpr e)).symm▸rfl);have j:k=2->ao (jN c UX):=λe=>r _ ((decide_eq_false λD=>absurd ((o λh=>absurd (e.symm.trans h) (by decide)).mp D) λh=>absurd (e.symm.trans h) (by decide)).symm▸rfl);have l:ao (pH (bf s c)):=y6 (U1 g (U1 (Vt n 4) (by decide)));have m:ao (pH (jc (bf s c))):=y6 (U1 (y5 (bf s c)) (U1 (aaY 2 (U1 g (Vt n 4))) (by decide)));have u:bf s c=s->sq (bf s c) s=UX:=bS.mpr;have v:bf s c=s->k≠0->ao (lL s c UX UY):=λd p=>⟨u d,by decide,by decide,ac (decide_eq_true (Decidable.byContradiction λq=>p (h0.mp ⟨d,q⟩))) rfl,rfl,trivial⟩
  have y:bf s c≠s->ao (lL s c UY UY):=λd=>⟨cg.mpr d,rfl,trivial⟩
  rcases oV p with rfl|rfl|rfl
  ·have z:=h0.mpr rfl;exact(gI _ _ _ (P7 w.params s c 260) (af.mpr ⟨f,u z.1,by decide,by decide,(decide_eq_false z.2).symm▸rfl,rfl,trivial⟩) rfl)
  ·refine(Y2 (bf s c=s)).elim (λd=>?_) λd=>?_
   ·exact(gI _ _ _ (Nl w.params s c 260) (af.mpr ⟨f,af.mpr ⟨v d (by decide),af.mpr ⟨i rfl,l⟩⟩⟩) rfl)
   ·exact(gI _ _ _ (No w.params s c 260) (af.mpr ⟨f,af.mpr ⟨y d,af.mpr ⟨i rfl,l⟩⟩⟩) rfl)
  ·refine(Y2 (bf s c=s)).elim (λd=>?_) λd=>?_
   ·exact(gI _ _ _ (Nm w.params s c 260) (af.mpr ⟨f,af.mpr ⟨v d (by decide),af.mpr ⟨af.mpr ⟨j rfl,t⟩,m⟩⟩⟩) rfl)
   ·exact(gI _ _ _ (Nn w.params s c 260) (af.mpr ⟨f,af.mpr ⟨y d,af.mpr ⟨af.mpr ⟨j rfl,t⟩,m⟩⟩⟩) rfl)
end
open Classical in
def ed (s:Vb) (w:Int):Nat:=if bf s w=s/\(w.fdiv 9).fmod 2≠0 then 0 else if(w.fdiv 18).fmod 2=0 then 1 else 2
def gE (s:Vb) (w:Int):Vb:=Be s w (ed s w)
abbrev Di:Sp:=fW (X:=Vb×Int) (λvs=>(gC (nV vs 0),bU (nV vs 1))) (λx=>[.str x.1, .int x.2]) (λx=> .str (gE x.1 x.2)) λx=>x.1.length<=200
theorem KB (J:Vz) (w:V6):aX (Wz J w) 4 277 Di:=v7 λx d=>by
 obtain⟨s,b⟩:=x;refine⟨IF (ed s b),_,Np J w _,rfl,⟨rfl,rfl,⟨d,?_⟩,?_⟩,trivial⟩
 ·refine(?_:((bf s b=s/\(b.fdiv 9).fmod 2≠0)↔ed s b=0)/\(ed s b≠0->((b.fdiv 18).fmod 2=0↔ed s b=1)));unfold ed;by_cases h0:bf s b=s/\(b.fdiv 9).fmod 2≠0
  ·refine ac (if_pos h0) ?_;exact⟨⟨λa=>rfl,λa=>h0⟩,λh=>absurd rfl h⟩
  ·refine ac (if_neg h0) ?_;by_cases c:(b.fdiv 18).fmod 2=0
   ·refine ac (if_pos c) ?_;exact⟨⟨λh=>absurd h h0,nofun⟩,λa=>⟨λa=>rfl,λa=>c⟩⟩
   ·refine ac (if_neg c) ?_;exact⟨⟨λh=>absurd h h0,nofun⟩,λa=>⟨λh=>absurd h c,nofun⟩⟩
 ·unfold ed;split<;>(try split)<;>decide
noncomputable def wA (w:Int) (x:Nat):Int:=(w.fdiv (36^x)).fmod 3
noncomputable def wB (w:Int) (x:Nat):Int:=((w.fdiv (36^x)).fdiv 3).fmod 3
def wq (A a:Int):Int:=gz (a - A) 0
def lN (A a:Int):Int:=A - a+wq A a
def ni (A B a:Int):Int:=gz (B - wq A a) 0
noncomputable def Bf (A B:Int) (N:Vb) (a:Int):Vb:=Yj " " (lN A a)++N++Yj " " (ni A B a)
def et (s:Vb) (x:Nat):Vb:=pE (Wf (b8 s x))
def wt (P:Va) (T N:Vb) (A B a:Int) (i:Nat):List Prop:=[UX=UX,UX=UX/\UX=UX,P=P,[V.str T,V.int a]=[V.str T,V.int a]/\([]:List O)=[]/\0<=a/\iD T a.toNat (mc T a) (me T a),i<=U9,aK (i+1) (-1),
 sk (lN A a),(Yj " " (lN A a)).length+N.length<=16777216,sk (ni A B a),(Yj " " (lN A a)++N).length+(Yj " " (ni A B a)).length<=16777216,(!sq (d8 T a) (Bf A B N a))=UY]
noncomputable def sn (x:Nat):List Prop:=[(0:Int)<=(x:Int)/\(x:Int)<=1000000/\(36:Int).natAbs < 2^64,(36:Int)^x≠0/\((36:Int)^x).natAbs < 1073741824]
def GH (u:Vb):Prop:=u.length<=1000/\(X7 u).length<=1000/\(cu u).length<=600/\Y4 (hO (cu u))=UV (iE (cu u))/\(hO (cu u)).length<=640
def uA (P:Va) (s:Vb) (c w:Int) (L:List Int) (x:Nat):List Prop:=[UX=UX,aK 3 x,[V.int c,eA (.ints L)]=[V.int c,eA (.ints L)]/\([]:List O)=[]/\sg c L]++(sn x++([(3:Int)≠0]++(sn x++([(3:Int)≠0/\(3:Nat) < 1073741824,(3:Int)≠0,(0:Nat)<=U9,(2:Int)≠0/\(2:Nat) < 1073741824,(4:Nat)<=U9]++
 (wt P (et s x) (bN c L) (wA w x) (wB w x) ((wA w x).fdiv 2) 0++(wt P (et s x) (bN c L) (wA w x) (wB w x) (wA w x) 1++(wt P (et s x) (bN c L) (wA w x) (wB w x) (wA w x+1) 2++(wt P (et s x) (bN c L) (wA w x) (wB w x) 4 3++
 [UY=UY,aK 4 1,[V.str (d8 (et s x) (wA w x))]=[V.str (d8 (et s x) (wA w x))]/\([]:List O)=[]/\GH (d8 (et s x) (wA w x)),x<=U9]))))))))
def SU (P:Va) (s:Vb):List Prop:=[[V.str s]=[V.str s]/\([]:List O)=[]/\wn s (b8 s 0) (b8 s 1) (b8 s 2),[V.dat (.list [.str (Wf (b8 s 0)), .str (Wf (b8 s 1)), .str (Wf (b8 s 2))])]=[V.dat (.list [.str (Wf (b8 s 0)), .str (Wf (b8 s 1)), .str (Wf (b8 s 2))])]/\([]:List O)=[]/\
 jq "a" (Wf (b8 s 0)) (jL (Wf (b8 s 0)))/\jq "b" (Wf (b8 s 1)) (jL (Wf (b8 s 1)))/\jq "c" (Wf (b8 s 2)) (jL (Wf (b8 s 2))),P=P/\(3:Nat)<=1000,(3:Nat)<=U9,UX=UX/\UX=UX,UY=UY,(0:Nat)<=U9,UX=UX]
def IG (P:Va):bC:=[(244,dY P [UY] Dd),(239,dY P [UY] (yY P)),(272,dY P [UY,UY] wf),(35,dY P [UY,UY] wk),(57,dY P [UY] IC)]
noncomputable def Nq:List Bool:=[UX,UX,UY,UX,UY,UX,UY,UX,UY,UY]
def pI (s:Vb) (w:Int) (x:Nat):Int:=iE (cu (d8 (et s x) (wA w x)))
theorem GI (P:Va) (s:Vb) (a b c w:Int) (L:List Int):bD 0 (lG P uu (IG P) 60 [.str s, .dat (.ints [a,b,c]), .dat (.ints L), .int w] [] ([UY]++Nq++Nq++Nq++[UY]))=
  UV (.ints [pI s w 0,pI s w 1,pI s w 2],[],SU P s++(uA P s a w L 0++(uA P s b w L 1++(uA P s c w L 2++[UY=UY])))):=by rfl'
structure re (s:Vb) (w:Int) (L:List Int) (nm:Vb) (c:Int) (x:Nat):Prop where
 elt:jq nm (Wf (b8 s x)) (jL (Wf (b8 s x)))
 num:sg c L
 len:(bN c L).length<=100
 st:∀a:Int,0<=a->a<=4->iD (et s x) a.toNat (mc (et s x) a) (me (et s x) a)/\d8 (et s x) a=Bf (wA w x) (wB w x) (bN c L) a
 ifs:GH (d8 (et s x) (wA w x))
 val:pI s w x=c
theorem su (a b:Int):gz a b=max a b:=by
 unfold gz;by_cases h:b > a
 ·refine ac (decide_eq_true h) ?_;show b=_;lia
 ·refine ac (decide_eq_false h) ?_;show a=_;exact(Zs (Int.not_lt.mp h)).symm
theorem II (w:Int) (x:Nat):0<=wA w x/\wA w x < 3:=bb _ (by decide)
theorem IJ (w:Int) (x:Nat):0<=wB w x/\wB w x < 3:=bb _ (by decide)
theorem Ux {A B a:Int} (c:0<=A/\A < 3) (b:0<=B/\B < 3) (d:0<=a):(0<=A - a+max (a - A) 0/\A - a+max (a - A) 0 < 3)/\0<=max (B - max (a - A) 0) 0/\max (B - max (a - A) 0) 0 < 3:=
 (Int.le_total a A).elim
  (λh=>ac (Y7 (aaO h)) (ac (Int.sub_zero B) (ac (Zs b.1) ⟨⟨W3 (X9 h) (YA 0),ac (ZB _) (ZK (Int.sub_le_self A d) c.2)⟩,b⟩)))
  λh=>ac (Zs (X9 h)) (ac ((congrArg (A - a+·) (Int.neg_sub A a).symm).trans (Int.add_right_neg _)) ⟨⟨YA 0,by decide⟩,Int.le_max_right _ _,Int.max_lt.mpr ⟨ZK (Int.sub_le_self B (X9 h)) b.2,by decide⟩⟩)
theorem y7 {A B a:Int} (b:0<=A/\A < 3) (c:0<=B/\B < 3) (d:0<=a):(0<=lN A a/\lN A a < 3)/\0<=ni A B a/\ni A B a < 3:=by unfold lN ni wq;simp only[su];exact Ux b c d
theorem n8 {T N:Vb} {A B a:Int} (f:0<=A/\A < 3) (g:0<=B/\B < 3) (d:0<=a) (hi:i<=100) (e:N.length<=100) (h:iD T a.toNat (mc T a) (me T a)/\d8 T a=Bf A B N a):ao (wt P T N A B a i):=by
 refine aN (y7 f g d) λb c=>?_;refine⟨rfl,⟨rfl,rfl⟩,rfl,⟨rfl,rfl,d,h.1⟩,by refine ac VK ?_;lia,⟨WE (W2 _),by decide⟩,n7 b.1 b.2,?_,n7 c.1 c.2,?_,ac h.2 (ac (bS.mpr rfl) rfl),trivial⟩
 ·refine ac (eQ b.1 b.2) ?_;exact U1 (VD (jO b) e) (by decide)
 ·rw[ba,eQ b.1 b.2];refine ac (eQ c.1 c.2) ?_;exact U1 (VD (VD (jO b) e) (jO c)) (by decide)
theorem Dj {x:Nat} (a:x < 3):ao (sn x):=yc a ⟨by decide,by decide,trivial⟩ ⟨by decide,by decide,trivial⟩ ⟨by decide,by decide,trivial⟩
theorem pJ {s:Vb} {c w:Int} {L:List Int} {x:Nat} {nm:Vb} (e:x < 3) (h:re s w L nm c x):ao (uA P s c w L x):=by
 have a:=II w x;have b:=IJ w x;have d:0<=(wA w x).fdiv 2/\(wA w x).fdiv 2<=4:=ac (Wj _ (by decide)) ⟨Int.ediv_nonneg a.1 (by decide),VM (Int.ediv_le_self _ a.1) (VM (Ww a.2) (by decide))⟩;have f:ao (sn x):=Dj e;have g:aK 3 x:=⟨e,by lia⟩
 refine af.mpr ⟨⟨rfl,g,⟨rfl,rfl,h.num⟩,trivial⟩,af.mpr ⟨f,af.mpr ⟨⟨by decide,trivial⟩,af.mpr ⟨f,af.mpr ⟨⟨by decide,by decide,by decide,by decide,by decide,trivial⟩,?_⟩⟩⟩⟩⟩;exact af.mpr ⟨n8 a b d.1 (by decide:0<=100) h.len (h.st _ d.1 d.2),af.mpr ⟨n8 a b a.1 (by decide:1<=100) h.len (h.st _ a.1 (by lia)),af.mpr ⟨n8 a b (by lia) (by decide:2<=100) h.len (h.st _ (by lia) (by lia)),
  af.mpr ⟨n8 a b (by decide) (by decide:3<=100) h.len (h.st _ (by decide) (by decide)),rfl,⟨by decide,by decide⟩,⟨rfl,rfl,h.ifs⟩,by refine ac VK ?_;lia,trivial⟩⟩⟩⟩
structure rf (s:Vb) (a b c:Int) (L:List Int) (w:Int):Prop where
 http:wn s (b8 s 0) (b8 s 1) (b8 s 2)
 xa:re s w L "a" a 0
 xb:re s w L "b" b 1
 xc:re s w L "c" c 2
abbrev Dk:Sp:=fW (X:=Vb×(Int×Int×Int)×List Int×Int) (λvs=>(gC (nV vs 0),(ay 0 (cr (nV vs 1)) 0,ay 0 (cr (nV vs 1)) 1,ay 0 (cr (nV vs 1)) 2),cr (nV vs 2),bU (nV vs 3))) (λx=>[.str x.1, .dat (.ints [x.2.1.1,x.2.1.2.1,x.2.1.2.2]), .dat (.ints x.2.2.1), .int x.2.2.2])
 (λx=> .ints [x.2.1.1,x.2.1.2.1,x.2.1.2.2]) λx=>rf x.1 x.2.1.1 x.2.1.2.1 x.2.1.2.2 x.2.2.1 x.2.2.2
theorem KC (J:Vz) (w:V6):aX (Wz J w) 20 291 Dk:=
 dq (X:=Vb×(Int×Int×Int)×List Int×Int) (lev:=16) (k:=2) (T:=uu) (Tb:=IG w.params) (defs:=[]) (spS:=λd d=>bk) (spE:=λd d=>br) Im rfl rfl (λd h=>nomatch h) (c8 Im)
  (λg os A f i=>⟨bW (fd:=uj) (by rfl') (dH (Kw J w) (by decide)) f i,bW (fd:=ui) (by rfl') (dH (Gv J w) (by decide)) f i,bW (fd:=qM) (by rfl') (dH (yU J w) (by decide)) f i,
   bW (fd:=Ay) (by rfl') (dH (Da J w) (by decide)) f i,bW (fd:=Az) (by rfl') (Nk J w) f i,trivial⟩)
  (λd d d d d d d d d d d d d=>dw) λx o=>by
  obtain⟨s,⟨a,b,c⟩,L,j⟩:=x
  obtain⟨h0,l,m,n⟩:=o
  have e:=GI w.params s a b c j L
  rw[show pI s j 0=a from l.val,show pI s j 1=b from m.val,show pI s j 2=c from n.val] at e
  refine⟨60,_,_,e,af.mpr ⟨⟨⟨rfl,rfl,h0⟩,⟨rfl,rfl,l.elt,m.elt,n.elt⟩,⟨rfl,by decide⟩,by decide,⟨rfl,rfl⟩,rfl,by decide,rfl,trivial⟩,af.mpr ⟨pJ (by decide) l,af.mpr ⟨pJ (by decide) m,af.mpr ⟨pJ (by decide) n,rfl,trivial⟩⟩⟩⟩,rfl⟩
end
section
open PySem.W
structure cR (J:Vz):Prop where
 file:((J.main.file:Vb)=="/claim/cut.py")=UX
 top:(J.main.scope.names.lookup ("super":Vb)).isSome=UY
section
theorem P9:te (aF P) 165 nQ eU 152 where
 obj:=(aA (fO nQ) (cA (by rfl')) rfl)
 body:=rfl
 scope:=rfl
 clo:=rfl
 code:=λh a=>kL (K:=aF P) (c:=164) (by rfl') h a
 glob:=rfl
 bu:=rfl
 cn:=rfl
 nc:=eV (by rfl')
 kinds:=jv (by rfl')
 co:=by rfl'
 gen:=by rfl'
 kind:=by rfl'
 trim:=rfl
theorem Qa:te (aF P) 188 nR gf 152 where
 obj:=(aA (fO nR) (cA (by rfl')) rfl)
 body:=rfl
 scope:=rfl
 clo:=rfl
 code:=λh a=>kL (K:=aF P) (c:=187) (by rfl') h a
 glob:=rfl
 bu:=rfl
 cn:=rfl
 nc:=eV (by rfl')
 kinds:=jv (by rfl')
 co:=by rfl'
 gen:=by rfl'
 kind:=by rfl'
 trim:=rfl
theorem Qb:te (aF P) 225 nS jo 152 where
 obj:=(aA (fO nS) (cA (by rfl')) rfl)
 body:=rfl
 scope:=rfl
 clo:=rfl
 code:=λh a=>kL (K:=aF P) (c:=224) (by rfl') h a
 glob:=rfl
 bu:=rfl
 cn:=rfl
 nc:=eV (by rfl')
 kinds:=jv (by rfl')
 co:=by rfl'
 gen:=by rfl'
 kind:=by rfl'
 trim:=rfl
noncomputable def Nr (o:Xg):Option Vb:=(mU o).bind λvs=>(vs[2]?).bind ut
noncomputable def Qc (fd:Vv):Option Vb:=(fd.params.posonlyargs++fd.params.args).head?.map (·.arg)
theorem GJ (e:cR J) {c:U6} (h1:(aF P).lookup f=UV (fO fd)) (h2:Qc fd=UV "self") (g:fd.code= .ref c) (h:((aF P).lookup c).bind Nr=UV "/claim/cut.py"):mJ J (aF P) f fd 228 152 where
 s:={
  of:=(aA _ h1 rfl)
  first:=aj (Option.map_eq_some_iff.mp h2) λi b d=>(aA i b d)
  code:=aj (Option.bind_eq_some_iff.mp h) λo b d=>aj (Option.bind_eq_some_iff.mp d) λvs j l=>aj (Option.bind_eq_some_iff.mp l) λv n p=>bI (r9 p) λt q=>
   ⟨c,o,vs,_,t,g,b,pq j,n.trans (congrArg UV q),e.file⟩
  cell:=aj (Option.map_eq_some_iff.mp (show((aF P).lookup 152).map (·.data)=UV (.cell (UV (.ref 228))) by rfl')) λo b d=>(aA o b d)
  cls:=aj (Option.map_eq_some_iff.mp (show((aF P).lookup 228).map (·.data)=UV (.cls qQ) by rfl')) λo b d=>(bL o qQ b d)
  top:=e.top
  op:=by rfl'
  sub:=by rfl'}
 c:=AQ
 m:=by rfl'
 t:=by rfl'
 a:=λk=>by cases k<;>rfl'
theorem Nt (a:cR J):mJ J (aF P) 165 nQ 228 152:=GJ a (by rfl') (by rfl') rfl (c:=164) (by rfl')
theorem Nu (a:cR J):mJ J (aF P) 188 nR 228 152:=GJ a (by rfl') (by rfl') rfl (c:=187) (by rfl')
theorem Nv (a:cR J):mJ J (aF P) 225 nS 228 152:=GJ a (by rfl') (by rfl') rfl (c:=224) (by rfl')
end
theorem GK (h1:T.scope.names.lookup ("super":Vb)=UV .globalImplicit) (h2:T.scope.names.lookup ("__class__":Vb)=UV .free) (a:T.scope.names.lookup ("self":Vb)=UV .local):Ah T:=⟨h1,h2,a⟩
def uB:Vs:=aU (aw jo.body 0)
def uC:Vs:=aU (aw gf.body 1)
def uD:Vs:=aU (aw eU.body 1)
theorem pK {x:Vb} (b:(ap.endLine==pos.line)=UX):∃pl,Wq (.Call (.Attribute (.Call (.Name "super" p0) [] [] p1) x ap) [] [] pos) Z=(do
    let a <-Zt (.Call (.Name "super" p0) [] [] p1) x Z (Wq (.Call (.Name "super" p0) [] [] p1) Z)
    WK ap.atName
    let(f,first) <-WB [a] (W0 a x pl)
    Y1 pos f first (XU pos (WO [] Z)) []):=by
 refine⟨(do return (<-importBound (.Call (.Name "super" p0) [] [] p1) Z).getD UX),?_⟩
 rw[adc]
 dsimp only[methodCall]
 refine ac (rfl:aa5 (([]:List Vs).length+([]:List Keyword).length) (XU pos (WO [] Z)) (backToKw pos (acp [] Z))=UX) ?_
 unfold ade calleeOf
 exact ac b rfl
def nj (n:Nat) (m:M V) (vs:List V):M V:=match VA vs.length n with
 |true=>m
 |false=>fail
theorem sw {n:Nat} {m:M V} (h:vs.length=n->eS c A fz U m code):eS c A fz U (nj n m vs) code:=by
 dsimp only[nj];induction b:VA vs.length n with
 |true=>exact h (VI b)
 |false=>exact λa a a a e=>nomatch e
def T0 (P:Va) (N:Nat):bC:=[(172,aR AK gl (λa=>bk) (λa=>br) (Gz P [] 0 N) []),(180,aR AL gl (λa=>bk) (λa=>br) (Gz P [] 0 N) []),(195,aR iL gl (λa=>bk) (lK 197015084 (aU (aw iL.body 0)) (λa C=>Ao 228 C) N) (Gz P [] 0 N) []),
 (202,aR iM gl (λa=>bk) (lK 200015086 (aU (aw iM.body 0)) (λa C=>Ap 228 C) N) (Gz P [] 0 N) []),(225,λvs=>nj 1 (gV jo (vP 228 jo gl) vs) vs),(165,λvs=>nj 2 (gV eU (t8 228 eU gl (Gz P [] 0 N) (aw eU.body 0)) vs) vs)]
abbrev gk (c:Cx) (A:Vk) (a:U6) (m:List V->M V):Prop:=(∃b,(a,b)∈c.KK/\((∃fd,b.data= .func fd)∨((∃d,b.data= .cls d)/\ab7 c.KK (.ref a) "__call__"=UV (UV (.builtin "type.__call__")))))/\∀fz U vs xs,av fz U vs xs->eS c A fz U (m vs) (.call (.ref a) ⟨xs,[]⟩)
section
theorem wu {m:List V->M V} (b:(aF w.params).lookup a=UV (fO fd)) (h:∀fz U vs xs,av fz U vs xs->eS ((Wz J w).cx g os) A fz U (m vs) (.call (.ref a) ⟨xs,[]⟩)):gk ((Wz J w).cx g os) A a m:=⟨(aA (fO fd) (cA b) (.inl ⟨fd,rfl⟩)),h⟩
theorem Dl (b:cI g) (d:∀A,aP lev A->gY ((Wz J w).cx g os) A Tb) (e:aP (lev+1+k) A):cp ((Wz J w).cx g os) A (aZ w.params Tb bZ ce gl N k):=nP (c:=(Wz J w).cx g os) b qS (λf a=>(d f a).x) dG lim k A e
theorem nk (a:cI g) (b:∀A,aP lev A->gY ((Wz J w).cx g os) A Tb) (c:aP (lev+1+k+1) A) (C:Ec) (Z:Yi):bG ((Wz J w).cx g os) (A.deeper Z) C Z (Gz w.params Tb k N C):=d5 (Dl a b (c.deeper Z)) N C Z
theorem hZ {spE:Nat->Ec->Nat->Option (Vs×M V)} (F:bz (aF w.params) f fd T) (j:(aF w.params).lookup f=UV (fO fd)) (h1:fd.globals=mainGlobals) (h2:fd.builtins=builtinsNs) (htr:T.trim=UW) (e:∀A,aP lev A->gY ((Wz J w).cx g os) A Tb)
  (c:∀A L Z fz U,aP (lev+1+k) A->cp ((Wz J w).cx g os) A (aZ w.params Tb bZ ce gl N k)->f9 Z fd f->aI ((Wz J w).cx g os) (be T [] gl (λa=>bk) (spE N) L) Z U->eh ((Wz J w).cx g os) A (be T [] gl (λa=>bk) (spE N) L) Z fz U) (i:cI g) (b:aP (lev+1+k+1) A):
  gk ((Wz J w).cx g os) A f (aR T gl (λa=>bk) (spE N) (Gz w.params Tb k N) []):=
 wu j λfz U vs o l=>ym F h1 h2 dG lim (by have:=b.depth;lia) (λP h=>by rw[htr] at h;exact nn h) (λC Z=>nk i e b C Z) (λL Z d ρ' k q m n=>c _ L Z d ρ' (b.deeper Z) (Dl i e (b.deeper Z)) m n) l
theorem Nw (e:cR J) (f:aP 1 A):gk ((Wz J w).cx g os) A 225 λvs=>nj 1 (gV jo (vP 228 jo gl) vs) vs:=
 wu (fd:=nS) (by rfl') λj U vs h b=>sw λd=>Aj (c:=(Wz J w).cx g os) (Nv e) pA Qb (GK (by rfl') (by rfl') (by rfl')) (λZ a=>pK (by rfl')) (show jo.body=[.Return (UV (mK .len (dK (cm (cm (cm uB)))) (dK (cm (cm uB))) (dK (cm uB)) (dK uB))) (fV (aw jo.body 0))] by rfl') dG lim (by have:=f.depth;lia) d (λs i=>PD s h i (b.length.trans d)) b
theorem Dm (f:cR J) (i:cI g) (b:aP 2 A):gk ((Wz J w).cx g os) A 165 λvs=>nj 2 (gV eU (t8 228 eU gl (Gz w.params [] 0 N) (aw eU.body 0)) vs) vs:=
 wu (fd:=nQ) (by rfl') λm U vs j d=>sw λe=>Ak (c:=(Wz J w).cx g os) (Nt f) pA P9 (GK (by rfl') (by rfl') (by rfl')) (λZ a=>pK (by rfl')) (show eU.body=[aw eU.body 0, .Expr (mK .init (dK (cm (cm (cm uD)))) (dK (cm (cm uD))) (dK (cm uD)) (dK uD)) (fV (aw eU.body 1))] by rfl')
  (λZ h=>by dsimp only[Yn];refine ac h ?_;rfl') (λZ h=>by rfl') dG lim (by have:=b.depth;lia) (λC Z=>nk (Tb:=[]) (lev:=0) (k:=0) i (λa a=>trivial) b C Z) e (λs l=>Pp s j l (d.length.trans e)) d
theorem IK {T:fB} (h:T∈oR) (d:f9 Z fd f) (i:aI ((Wz J w).cx g os) C Z U) (a:fd.code= .ref T.c) (j:((aF w.params).lookup T.c).map (se T.P)=UV UX) (e:T.c≠T.P) (k:4≠T.P) (l:mainGlobals≠T.P) (m:T.qual=fd.qualname++".<locals>."++"<genexpr>") (hl:T.line=pos.line) (b:T.col=pos.col) (n:fd.globals=mainGlobals) (o:fd.builtins=builtinsNs):
  Am ((Wz J w).cx g os) Z T pos where
 code:=d.code.trans a
 mem:=h
 uniq:=wa h
 hd:=tm j e
 qual:=ac d.qual m
 line:=hl
 col:=b
 glob:=d.glob.trans n
 bu:=d.bu.trans o
 bm:=Rd k
 gp:=l
 lim:=lim
 kind:=i.kind
theorem Nx (f:cI g) (b:aP 2 A):gk ((Wz J w).cx g os) A 195 (aR iL gl (λa=>bk) (lK 197015084 (aU (aw iL.body 0)) (λa C=>Ao 228 C) N) (Gz w.params [] 0 N) []):=
 hZ (lev:=0) (k:=0) (fd:=uf) Px (by rfl') rfl rfl rfl (λa a=>trivial) (λA L Z d U b i h e=>nZ (by refine Fy (scope:=QZ (ay xz (kz (aU (aw iL.body 0))) 0)) (gpos:=dK (ay xz (kz (aU (aw iL.body 0))) 0)) (c:=(Wz J w).cx g os) (A:=A) (fz:=d) (U:=U) (C:=hV iL L) (Z:=Z) (D:=228) (T:=tI 194 190 197 19 "_Accumulator.__len__.<locals>.<genexpr>") {e with} b.handled (by have:=b.depth;lia) (IK (.tail _ (.tail _ (.tail _ (.head _)))) h e rfl (by rfl') (by decide) (by decide) (by decide) (by rfl') rfl rfl rfl rfl) ⟨by rfl',rfl,eV (by rfl'),by rfl',by rfl',by rfl',by decide,by rfl'⟩ AR (by rfl') (by rfl') (by rfl') (by rfl') (by rfl') (by rfl') dG)) f b
theorem Ny (f:cI g) (b:aP 2 A):gk ((Wz J w).cx g os) A 202 (aR iM gl (λa=>bk) (lK 200015086 (aU (aw iM.body 0)) (λa C=>Ap 228 C) N) (Gz w.params [] 0 N) []):=
 hZ (lev:=0) (k:=0) (fd:=ug) Pz (by rfl') rfl rfl rfl (λa a=>trivial) (λA L Z d U b i h e=>nZ (by refine Fz (scope:=QZ (ay xz (kz (aU (aw iM.body 0))) 0)) (gpos:=dK (ay xz (kz (aU (aw iM.body 0))) 0)) (c:=(Wz J w).cx g os) (A:=A) (fz:=d) (U:=U) (C:=hV iM L) (Z:=Z) (D:=228) (T:=tI 201 197 200 32 "_Accumulator.__str__.<locals>.<genexpr>") (g0:="EMPTYSTRING") {e with} b.handled (by have:=b.depth;lia) (IK (.tail _ (.tail _ (.tail _ (.tail _ (.head _))))) h e rfl (by rfl') (by decide) (by decide) (by decide) (by rfl') rfl rfl rfl rfl) ⟨by rfl',rfl,eV (by rfl'),by rfl',by rfl',by rfl',by decide,by rfl'⟩ AR (by rfl') (by rfl') (by rfl') (t0:=283) (by rfl') (by rfl') dG (by rfl') (by rfl'))) f b
theorem uE (d:cR J) (c:cI g) (b:aP 2 A):gY ((Wz J w).cx g os) A (T0 w.params N):=
 ⟨hZ (spE:=λa a=>br) (lev:=0) (k:=0) (fd:=ud) Pr (by rfl') rfl rfl rfl (λa a=>trivial) (λa a a a a a a a a=>dw) c b,hZ (spE:=λa a=>br) (lev:=0) (k:=0) (fd:=ue) Pu (by rfl') rfl rfl rfl (λa a=>trivial) (λa a a a a a a a a=>dw) c b,Nx c b,Ny c b,Nw d (b.le (by decide)),Dm d c b,trivial⟩
end
noncomputable def GL (m:List V->M V) (vs:List V):M V:=match VA vs.length 1 with
 |true=>m (vs++[.none])
 |false=>m vs
def Dn (P:Va) (N:Nat) (vs:List V):M V:=nj 1 (gV gf (Mp 228 gf gl (Gz P (T0 P N) 0 N) (aU (aw gf.body 0)) (cL (aw gf.body 0))) vs) vs
def T1 (P:Va) (N:Nat):bC:=(188,Dn P N)::(210,GL (aR lE gl (λa=>bk) (λa=>br) (Gz P (T0 P N) 0 N) []))::(217,aR AM gl (λa=>bk) (λa=>br) (Gz P (T0 P N) 0 N) [])::
 (228,vT UX 228 λvs=>nj 2 (gV eU (t8 228 eU gl (Gz P [] 0 N) (aw eU.body 0)) vs) vs)::T0 P N
def rg:Vs:=aU (aw (cL (aw nT.body 1)) 0)
def wv (P:Va):Nat->Ec->Nat->Option (Vs×M V):=lK 131012049 rg λN C=>H3 (T1 P N) bZ C (Gz P (T1 P N) 0 N C) (cm (cm rg)) "push" "end_of_line"
def T2 (P:Va) (N:Nat):bC:=(106,aR nT gl (λa=>bk) (wv P N) (Gz P (T1 P N) 0 N) [])::(85,aR v4 gl (λa=>bk) (λa=>br) (Gz P (T1 P N) 0 N) [])::T1 P N
def T3 (P:Va) (N:Nat):bC:=(141,aR AJ gl (λa=>bk) (λa=>br) (Gz P (T2 P N) 0 N) [])::(92,aR F9 gl (λa=>bk) (λa=>br) (Gz P (T2 P N) 0 N) [])::(144,vT UY 144 (aR v4 gl (λa=>bk) (λa=>br) (Gz P (T1 P N) 0 N) []))::T2 P N
section
theorem Nz (d:bv (aF P) s.heap) (h:(xs++[Xf]).length=lE.params.length):Yd s qL ⟨xs,[]⟩ (lE.params.zip (xs++[.none])):=by
 have f:xs.length=1:=by have:(xs++[Xf]).length=2:=h.trans (show lE.params.length=2 by rfl');simpa using this
 refine bI (AG f) λa c=>(c.symm▸ ?_)
 exact W.kp_binds (K:=aF P) (λb o e=>d (b,o) (cA e)) λS=>by rfl'
theorem NA (l:cR J) (d:cI g) (b:aP 4 A):gk ((Wz J w).cx g os) A 210 (GL (aR lE gl (λa=>bk) (λa=>br) (Gz w.params (T0 w.params N) 0 N) [])):=by
 have f:∀A,aP 2 A->gY ((Wz J w).cx g os) A (T0 w.params N):=λA b=>uE l d b;refine wu (fd:=qL) (by rfl') λp U vs i j=>?_;dsimp only[GL];induction r:VA vs.length 1 with
 |true=>exact o9 (c:=(Wz J w).cx g os) (vs:=vs++[V.none]) (xs:=i++[.none]) Ic rfl rfl dG lim (by have:=b.depth;lia) (λP h=>nomatch h) (λC Z=>nk (lev:=2) (k:=0) d f b C Z) (λL Z e ρ' k q m n=>dw) (nF j (.cons .none .nil)) λs o h=>Nz o h
 |false=>exact ym Ic rfl rfl dG lim (by have:=b.depth;lia) (λP h=>nomatch h) (λC Z=>nk (lev:=2) (k:=0) d f b C Z) (λL Z e ρ' k q m n=>dw) j
theorem NB (d:cR J) (e:cI g) (b:aP 4 A):gk ((Wz J w).cx g os) A 188 (Dn w.params N):=
 wu (fd:=nR) (by rfl') λl U vs i f=>sw λh=>Cs (c:=(Wz J w).cx g os) (Nu d) pA Qa (GK (by rfl') (by rfl') (by rfl')) (λZ a=>pK (by rfl'))
  (show gf.body=[.If (aU (aw gf.body 0)) (cL (aw gf.body 0)) [] (fV (aw gf.body 0)), .Return (UV (mK .pop (dK (cm (cm (cm uC)))) (dK (cm (cm uC))) (dK (cm uC)) (dK uC))) (fV (aw gf.body 1))] by rfl') dG lim (by have:=b.depth;lia) (λC Z=>nk (lev:=2) (k:=0) e (λA b=>uE d e b) b C Z) h (λs j=>Pv s i j (f.length.trans h)) f
theorem NC {l:Bool} {C:U6} {m:List V->M V} {cd:adu} (e:((aF w.params).lookup C).map (·.data)=UV (.cls cd)) (hs:ab7 (aF w.params) (.ref C) "__call__"=UV (UV (.builtin "type.__call__"))) (i:lC (aF w.params) l C f) {n:Nat} (j:aP (n+1) A) (h:∀A,aP n A->gk ((Wz J w).cx g os) A f m):gk ((Wz J w).cx g os) A C (vT l C m):=by exact aj (Option.map_eq_some_iff.mp e) λo k p=>⟨(aA o (cA k) (.inr ⟨⟨cd,p⟩,hs⟩)),λb U vs c a=>FK i a λb U vs c C d a=>(h _ j.new).2 b U vs c a⟩
theorem uF (d:cR J) (c:cI g) (b:aP 4 A):gY ((Wz J w).cx g os) A (T1 w.params N):=
 ⟨NB d c b,NA d c b,hZ (spE:=λa a=>br) (lev:=2) (k:=0) (fd:=uh) PC (by rfl') rfl rfl rfl (λA b=>uE d c b) (λa a a a a a a a a=>dw) c b,
  NC (n:=2) (cd:=qQ) (by rfl') Kj MV (b.le (by decide)) λA b=>Dm d c b,uE d c (b.le (by decide))⟩
theorem ND (i:cR J) (e:cI g) (b:aP 6 A):gk ((Wz J w).cx g os) A 106 (aR nT gl (λa=>bk) (wv w.params N) (Gz w.params (T1 w.params N) 0 N) []):=
 hZ (spE:=wv w.params) (lev:=4) (k:=0) (fd:=ub) Pm (by rfl') rfl rfl rfl (λA b=>uF i e b) (λA L Z m U b j n l=>nZ (by
  refine FM (v:=cm (cm rg)) (nm:="push") (y:="end_of_line") (C:=hV nT L) (T:=T1 w.params N) ⟨{l with},⟨λa a a h=>(nomatch h),λa a a h=>(nomatch h)⟩⟩ (d5 j N _ Z) qS (uF i e (b.le (by decide))).x (by rfl') (by rfl') ?_;rintro t c f d;rcases List.mem_cons.mp c with rfl|c
  ·simp only[show lk "push" Gc.meths=UV (.con (.ref 172)) by rfl'] at d;cases d;exact MW
  ·rcases List.mem_cons.mp c with rfl|c
   ·simp only[show lk "push" Gb.meths=UW by rfl'] at d;exact nn d
   ·cases c)) e b
theorem IL (d:cR J) (c:cI g) (b:aP 6 A):gk ((Wz J w).cx g os) A 85 (aR v4 gl (λa=>bk) (λa=>br) (Gz w.params (T1 w.params N) 0 N) []):=
 hZ (spE:=λa a=>br) (lev:=4) (k:=0) (fd:=AA) RT (by rfl') rfl rfl rfl (λA b=>uF d c b) (λa a a a a a a a a=>dw) c b
theorem Bg (a:cR J) (b:cI g) (c:aP 6 A):gY ((Wz J w).cx g os) A (T2 w.params N):=⟨ND a b c,IL a b c,uF a b (c.le (by decide))⟩
theorem Qd (d:cR J) (c:cI g) (b:aP 8 A):gY ((Wz J w).cx g os) A (T3 w.params N):=
 ⟨hZ (spE:=λa a=>br) (lev:=6) (k:=0) (fd:=uc) Po (by rfl') rfl rfl rfl (λA b=>Bg d c b) (λa a a a a a a a a=>dw) c b,hZ (spE:=λa a=>br) (lev:=6) (k:=0) (fd:=AB) RV (by rfl') rfl rfl rfl (λA b=>Bg d c b) (λa a a a a a a a a=>dw) c b,
  NC (n:=6) (cd:=AE) (by rfl') Ki MU (b.le (by decide)) λA b=>IL d c b,Bg d c (b.le (by decide))⟩
end
end
section
section
def uG (P:Va):bC:=(272,dY P [UY,UY] wf)::(277,dY P [UY,UY] Di)::T3 P 60
def Do (P:Va):FT:={dS with trim:=UV P}
def NE (P:Va):Ec:=be (Do P) [] gl (λa=>bk) (λa=>br) 0
abbrev oL (P:Va):=aZ P (uG P) bZ ce gl 60 2
abbrev mL (P:Va) (n:Nat):=aE (oL P) n (NE P)
def oW:VY:=aw dS.body 2
structure Lt where
 a:Int
 b:Int
 c:Int
 w:Int
 W:Int
 L:List Int
noncomputable def gF:Nat->Vb
 |2=>""
 |_=>","
noncomputable def bx:Nat->Bool
 |2=>UY
 |_=>UX
noncomputable def Lt.n (d:Lt):Nat->Int
 |0=>d.a
 |1=>d.b
 |_=>d.c
noncomputable def nL (x:Nat):Vb:=X5 "abc" x++"="
def vL (d:Lt) (x:Nat):Vb:=gE (bN (d.n x) d.L) ((d.w.fdiv (36^x)).fmod 36)++gF x
noncomputable def eL (d:Lt) (x:Nat):Vb:=" "++nL x++vL d x
noncomputable def bg (d:Lt):Nat->List (Vb×V)
 |0=>[]
 |x+1=>[("x", .int x),("name", .str (nL x)),("value", .str (vL d x))]
noncomputable def pV (p:Vb×Vb):V:= .dat (.tup [.str p.1, .str p.2])
noncomputable def bF (d:Lt) (e:List (Vb×V)) (ps:List (Vb×Vb)) (ls rs:List Vb) (it:O):List O:=
 [.frame (([("counts", .dat (.ints [d.a,d.b,d.c])),("sizes", .dat (.ints d.L)),("way", .int d.w),("width", .int d.W),("page", .ref 2),("rows", .ref 8)]:List (Vb×V))++e),
  .dict [("_maxlen", .int d.W),("_continuation_ws", .str " "),("_continuation_ws_len", .int 1),("_splitchars", .str ","),("_lines", .ref 4),("_current_line", .ref 6)], .inst 144 1 UW,
  .frame [("self", .ref 2),("headerlen", .int 0),("maxlen", .int d.W),("continuation_ws", .str " "),("splitchars", .str ",")], .list (ls.map V.str), .dict [("_initial_size", .int 0)], .inst 228 5 (UV (ps.map pV)), .frame [("self", .ref 6),("initial_size", .int 0)], .list (rs.map V.str), .range 0 3 1,it]
abbrev tL (P:Va) (n:Nat) (S:St):=gZ (NE P) (oL P) (mL P (n+40)) (aU oW) 10 (cL oW) [] S
def sx:Vs:=aU (aw iL.body 0)
def sy:Vs:=aU (aw iM.body 0)
def ww (d:Lt) (x:Nat):List Prop:=[UX=UX,UX=UX/\UX=UX,(2:Nat)<=U9,aK 3 x,[V.int (d.n x),eA (.ints d.L)]=[V.int (d.n x),eA (.ints d.L)]/\([]:List O)=[]/\sg (d.n x) d.L]++(sn x++[(36:Int)≠0,
 [V.str (bN (d.n x) d.L),V.int ((d.w.fdiv (36^x)).fmod 36)]=[V.str (bN (d.n x) d.L),V.int ((d.w.fdiv (36^x)).fmod 36)]/\([]:List O)=[]/\(bN (d.n x) d.L).length<=200,bx x=bx x,(gE (bN (d.n x) d.L) ((d.w.fdiv (36^x)).fmod 36)).length+(gF x).length<=16777216])
def jP (W:Int) (ps:List (Vb×Vb)) (o:Bool):List Prop:=[(2:Nat)<=U9,ps.length - 1<=1000,sx=sx,(0:Int)=0/\aC ps < 2^40,(0:Int)<=(aC ps:Int)/\(aC ps:Int) < 2^62,decide (W < (aC ps:Int))=o]
noncomputable def lO (n:Nat):List Prop:=[UX=UX,n<=1000,(-1:Int)≠0/\(1:Nat) < 1000,UX=UX]
noncomputable def Bh (i n:Nat):List Prop:=[UX=UX,UY=UY,i < n/\i < 2^62,(1:Nat) < 2/\(1:Nat) < 2^62,(2:Nat) < 2^62,UX=UX,UX=UX/\UX=UX,UY=UY,UY=UY]
def wx (i n:Nat) (q:Vb):List Prop:=[UX=UX,UY=UY,i < n/\i < 2^62,(1:Nat) < 2/\(1:Nat) < 2^62,q.length < 2^62,(!decide (q.length=0))=UX,abd (-1)=UX/\(Xx q (-1)).isSome=UX,sq (X5 q (-1)) ","=UX,UX=UX]
def wz (i n:Nat) (ps:List (Vb×Vb)) (a:Nat):List Prop:=[i<=n/\n<=1000,(0:Nat)<=U9,i<=n/\n<=1000,sy=sy,aC ps<=16777216/\ps.length<=1000,a<=U9,UY=UY,n<=1000,(1:Nat)<=1000]
noncomputable def GN (n:Nat):List Prop:=[UY=UY,UY=UY,n<=1000,UY=UY,0 < n/\n<=1000,UY=UY,(2:Nat)<=U9,n - 1<=1000]
noncomputable def gL:List Prop:=[UY=UY]
def ee (rs:List Vb):Vb:=ay Vj rs (rs.length - 1)
def sA (d:Lt) (x:Nat) (rs:List Vb) (o:Bool):List Prop:=[(0:Nat)<=U9,VP (eP UX (rs.map Yt))=UX/\UX=UX,UX=UX,aK rs.length (-1),(ee rs).length+1<=16777216,(ee rs++" ").length+(nL x).length<=16777216,(ee rs++" "++nL x).length+(vL d x).length<=16777216,
 (ee rs++" "++nL x++vL d x).length < 2^62,decide (((ee rs++" "++nL x++vL d x).length:Int)<=d.W)=o,o=o]
def NF (d:Lt) (x:Nat) (rs:List Vb):List Prop:=[aK rs.length (-1),1+(nL x).length<=16777216,(" "++nL x).length+(vL d x).length<=16777216,(ee rs).length+(eL d x).length<=16777216,aK rs.length (-1)]
noncomputable def np (d:Lt) (x:Nat) (rs:List Vb):List Prop:=[1+(nL x).length<=16777216,(" "++nL x).length+(vL d x).length<=16777216,rs.length<=U9]
noncomputable def GO:List Prop:=[(0:Nat)<=U9,UX=UX/\UX=UX,UY=UY,UY=UY]
noncomputable abbrev A1 (x:Nat):Vb×Vb:=(" ",nL x)
noncomputable abbrev B1 (d:Lt) (x:Nat):Vb×Vb:=("",vL d x)
def IM (d:Lt) (x:Nat) (ps:List (Vb×Vb)) (rs:List Vb):List Prop:=ww d x++(jP d.W (ps++[A1 x]) UY++(gL++(jP d.W (ps++[A1 x,B1 d x]) UY++(gL++(gL++(sA d x rs UX++NF d x rs))))))
def IN (d:Lt) (x:Nat) (ps:List (Vb×Vb)) (q:Vb) (a:Nat) (rs:List Vb):List Prop:=ww d x++(jP d.W (ps++[A1 x]) UY++(gL++(jP d.W (ps++[A1 x,B1 d x]) UX++(lO (ps.length+2)++(Bh ps.length (ps.length+2)++(wx (ps.length - 1) (ps.length+2) q++(wz ps.length (ps.length+2) ps a++(gL++(gL++(sA d x rs UY++np d x rs))))))))))
def IP (d:Lt) (x:Nat) (ps:List (Vb×Vb)) (q:Vb) (a:Nat) (rs:List Vb):List Prop:=ww d x++(jP d.W (ps++[A1 x]) UX++(lO (ps.length+1)++(wx (ps.length - 1) (ps.length+1) q++(wz ps.length (ps.length+1) ps a++(gL++(jP d.W [A1 x,B1 d x] UY++(gL++(gL++(sA d x rs UY++np d x rs)))))))))
def IQ (d:Lt) (x:Nat) (ps:List (Vb×Vb)) (q:Vb) (a:Nat) (rs:List Vb):List Prop:=ww d x++(jP d.W (ps++[A1 x]) UX++(lO (ps.length+1)++(wx (ps.length - 1) (ps.length+1) q++(wz ps.length (ps.length+1) ps a++(gL++(jP d.W [A1 x,B1 d x] UX++(lO 2++(Bh 0 2++(GN 2++(gL++(gL++(sA d x rs UY++np d x rs))))))))))))
noncomputable def NG:List Bool:=[UX,UY,UX,UY,UY]
noncomputable def NH:List Bool:=[UX,UY,UX,UX,UX]
noncomputable def Uy:List Bool:=[UX,UX,UX]
noncomputable def NI:List Bool:=[UX,UY,UY]
def NJ (x:Nat):List Bool:=[UX,bx x,UY,UY,UY,UY,UY]++Uy
def IR (x:Nat):List Bool:=[UX,bx x,UY,UY,UX]++[UX]++NG++NH++[UY]++[UY,UY]++NI
def IS (x:Nat):List Bool:=[UX,bx x,UX]++[UX]++NH++[UY]++[UY,UY,UY,UY]++NI
def IT (x:Nat):List Bool:=[UX,bx x,UX]++[UX]++NH++[UY]++[UY,UX]++[UX]++NG++[UY]++[UY]++[UY,UY]++[UY,UY]++NI
section
variable (P:Va) (d:Lt) (N:Nat) (o:List Bool) (p0 q0 p1 q1 p2 q2 l0 l1 r0 r1 r2:Vb)
theorem SW:tL P N ⟨bF d (bg d 0) [] [] [] (.rngIt 0 3 1),[UX,UX,UY,UY,UY,UY,UY,UY,UY]++o⟩=UV (UW,⟨bF d (bg d 1) [A1 0,B1 d 0] [] [eL d 0] (.rngIt 1 2 1),o⟩,ww d 0++(jP d.W [A1 0] UY++(gL++(jP d.W [A1 0,B1 d 0] UY++(gL++(gL++(GO++np d 0 []))))))):=by rfl'
theorem SX:tL P N ⟨bF d (bg d 0) [] [] [] (.rngIt 0 3 1),[UX,UX,UY,UY,UX,UX]++NG++[UY,UY,UY,UY,UY,UY,UY,UY]++o⟩=UV (UW,⟨bF d (bg d 1) [A1 0,B1 d 0] [] [eL d 0] (.rngIt 1 2 1),o⟩,ww d 0++(jP d.W [A1 0] UY++(gL++(jP d.W [A1 0,B1 d 0] UX++(lO 2++(Bh 0 2++(GN 2++(gL++(gL++(GO++np d 0 [])))))))))):=by rfl'
theorem Qe:tL P N ⟨bF d (bg d 1) [(" ",p0),("",q0)] [] [r0] (.rngIt 1 2 1),NJ 1++o⟩=UV (UW,⟨bF d (bg d 2) [(" ",p0),("",q0),A1 1,B1 d 1] [] [r0++eL d 1] (.rngIt 2 1 1),o⟩,IM d 1 [(" ",p0),("",q0)] [r0]):=by rfl'
theorem Qf:tL P N ⟨bF d (bg d 1) [(" ",p0),("",q0)] [] [r0] (.rngIt 1 2 1),IR 1++o⟩=UV (UW,⟨bF d (bg d 2) [A1 1,B1 d 1] [aT [(" ",p0),("",q0)]] [r0,eL d 1] (.rngIt 2 1 1),o⟩,IN d 1 [(" ",p0),("",q0)] q0 0 [r0]):=by rfl'
theorem Qg:tL P N ⟨bF d (bg d 1) [(" ",p0),("",q0)] [] [r0] (.rngIt 1 2 1),IS 1++o⟩=UV (UW,⟨bF d (bg d 2) [A1 1,B1 d 1] [aT [(" ",p0),("",q0)]] [r0,eL d 1] (.rngIt 2 1 1),o⟩,IP d 1 [(" ",p0),("",q0)] q0 0 [r0]):=by rfl'
theorem Qh:tL P N ⟨bF d (bg d 1) [(" ",p0),("",q0)] [] [r0] (.rngIt 1 2 1),IT 1++o⟩=UV (UW,⟨bF d (bg d 2) [A1 1,B1 d 1] [aT [(" ",p0),("",q0)]] [r0,eL d 1] (.rngIt 2 1 1),o⟩,IQ d 1 [(" ",p0),("",q0)] q0 0 [r0]):=by rfl'
theorem NK:tL P N ⟨bF d (bg d 2) [(" ",p0),("",q0),(" ",p1),("",q1)] [] [r0] (.rngIt 2 1 1),NJ 2++o⟩=UV (UW,⟨bF d (bg d 3) [(" ",p0),("",q0),(" ",p1),("",q1),A1 2,B1 d 2] [] [r0++eL d 2] (.rngIt 3 0 1),o⟩,IM d 2 [(" ",p0),("",q0),(" ",p1),("",q1)] [r0]):=by rfl'
theorem NL:tL P N ⟨bF d (bg d 2) [(" ",p0),("",q0),(" ",p1),("",q1)] [] [r0] (.rngIt 2 1 1),IR 2++o⟩=UV (UW,⟨bF d (bg d 3) [A1 2,B1 d 2] [aT [(" ",p0),("",q0),(" ",p1),("",q1)]] [r0,eL d 2] (.rngIt 3 0 1),o⟩,IN d 2 [(" ",p0),("",q0),(" ",p1),("",q1)] q1 0 [r0]):=by rfl'
theorem NN:tL P N ⟨bF d (bg d 2) [(" ",p0),("",q0),(" ",p1),("",q1)] [] [r0] (.rngIt 2 1 1),IS 2++o⟩=UV (UW,⟨bF d (bg d 3) [A1 2,B1 d 2] [aT [(" ",p0),("",q0),(" ",p1),("",q1)]] [r0,eL d 2] (.rngIt 3 0 1),o⟩,IP d 2 [(" ",p0),("",q0),(" ",p1),("",q1)] q1 0 [r0]):=by rfl'
theorem NO:tL P N ⟨bF d (bg d 2) [(" ",p0),("",q0),(" ",p1),("",q1)] [] [r0] (.rngIt 2 1 1),IT 2++o⟩=UV (UW,⟨bF d (bg d 3) [A1 2,B1 d 2] [aT [(" ",p0),("",q0),(" ",p1),("",q1)]] [r0,eL d 2] (.rngIt 3 0 1),o⟩,IQ d 2 [(" ",p0),("",q0),(" ",p1),("",q1)] q1 0 [r0]):=by rfl'
theorem NP:tL P N ⟨bF d (bg d 2) [(" ",p0),("",q0)] [l0] [r0,r1] (.rngIt 2 1 1),NJ 2++o⟩=UV (UW,⟨bF d (bg d 3) [(" ",p0),("",q0),A1 2,B1 d 2] [l0] [r0,r1++eL d 2] (.rngIt 3 0 1),o⟩,IM d 2 [(" ",p0),("",q0)] [r0,r1]):=by rfl'
theorem NQ:tL P N ⟨bF d (bg d 2) [(" ",p0),("",q0)] [l0] [r0,r1] (.rngIt 2 1 1),IR 2++o⟩=UV (UW,⟨bF d (bg d 3) [A1 2,B1 d 2] [l0,aT [(" ",p0),("",q0)]] [r0,r1,eL d 2] (.rngIt 3 0 1),o⟩,IN d 2 [(" ",p0),("",q0)] q0 1 [r0,r1]):=by rfl'
theorem NR:tL P N ⟨bF d (bg d 2) [(" ",p0),("",q0)] [l0] [r0,r1] (.rngIt 2 1 1),IS 2++o⟩=UV (UW,⟨bF d (bg d 3) [A1 2,B1 d 2] [l0,aT [(" ",p0),("",q0)]] [r0,r1,eL d 2] (.rngIt 3 0 1),o⟩,IP d 2 [(" ",p0),("",q0)] q0 1 [r0,r1]):=by rfl'
theorem NS:tL P N ⟨bF d (bg d 2) [(" ",p0),("",q0)] [l0] [r0,r1] (.rngIt 2 1 1),IT 2++o⟩=UV (UW,⟨bF d (bg d 3) [A1 2,B1 d 2] [l0,aT [(" ",p0),("",q0)]] [r0,r1,eL d 2] (.rngIt 3 0 1),o⟩,IQ d 2 [(" ",p0),("",q0)] q0 1 [r0,r1]):=by rfl'
theorem Uz (ps:List (Vb×Vb)) (ls rs:List Vb):tL P N ⟨bF d (bg d 3) ps ls rs (.rngIt 3 0 1),UY::o⟩=UV (UV .next,⟨bF d (bg d 3) ps ls rs .dead,o⟩,gL):=by rfl'
noncomputable def NT:List Prop:=[(0:Nat)<=1000,(1:Nat)<=1000,(1:Nat) < 2^62,(2:Nat)<=1000,(3:Nat)<=1000,(0:Nat)<=U9,(4:Nat)<=1000,(0:Nat)<=1000,(0:Nat)<=1000,(5:Nat)<=1000,(0:Nat)<=U9]
theorem Qi:cG (mL P (N+41)).ex [aw dS.body 0,aw dS.body 1] ⟨(bF d [] [] [] [] .dead).take 1|>.map λe=> .frame [("counts", .dat (.ints [d.a,d.b,d.c])),("sizes", .dat (.ints d.L)),("way", .int d.w),("width", .int d.W)],o⟩=UV (.next,⟨(bF d [] [] [] [] .dead).take 9,o⟩,NT):=by rfl'
theorem SY:bnd ((mL P (N+40)).ev (uU (aw dS.body 2))) (oL P).iter ⟨(bF d [] [] [] [] .dead).take 9,o⟩=UV (.ref 10,⟨bF d [] [] [] [] (.rngIt 0 3 1),o⟩,[UX=UX]):=by rfl'
noncomputable def pL:List Bool:=[UY,UX,UX,UX,UY,UY,UY,UX,UY]
abbrev lP (P:Va) (n:Nat) (S:St):=bnd (bnd (cG (mL P (n+41)).ex [aw dS.body 3,aw dS.body 4,aw dS.body 5]) (λf=>match f with| .ret v=>ret v| .next=>ret .none|_=>fail)) (λv=>cj P 9 v) S
def sB (ps:List (Vb×Vb)) (q:Vb) (ls rs:List Vb):List Prop:=[ps.length<=1000,UY=UY,0 < ps.length/\ps.length<=1000,(2:Nat)<=U9,VP (eP UY (YJ Yt [("":Vb),q]))=UX/\UX=UX,UX=UX,rg=rg,(2:Nat)<=1000,(2:Nat)<=U9,ps.length - 1<=1000,
 sx=sx,(0:Int)=0/\aC ps < 2^40,(0:Int)<=(aC ps:Int)/\(aC ps:Int) < 2^62,decide ((0:Int) < (aC ps:Int))=UX,UX=UX,sx=sx,(0:Int)=0/\aC ps < 2^40,(0:Int)<=(aC ps:Int)/\(aC ps:Int) < 2^62,(!!decide ((aC ps:Int)=0))=UY,sy=sy,aC ps<=16777216/\ps.length<=1000,abK (aT ps)=UY,UY=UY,
 sy=sy,aC ps<=16777216/\ps.length<=1000,ls.length<=U9,UX=UX,(0:Nat)<=U9,ps.length<=1000,(1:Nat)<=1000,acM "\n" (ls++[aT ps])=UX,acM "\n" rs=UX,(!sq (Wx "\n" (ls++[aT ps])) (Wx "\n" rs))=UY]
noncomputable abbrev jd (r:Option (D×St×List Prop)):Option (D×List Prop):=r.map λr=>(r.1,r.2.2)
theorem SZ:jd (lP P N ⟨bF d (bg d 3) [(" ",p0),("",q0),(" ",p1),("",q1),(" ",p2),("",q2)] [] [r0] .dead,pL⟩)=UV (.str (Wx "\n" ([]++[aT [(" ",p0),("",q0),(" ",p1),("",q1),(" ",p2),("",q2)]])),sB [(" ",p0),("",q0),(" ",p1),("",q1),(" ",p2),("",q2)] q2 [] [r0]):=by rfl'
theorem S9:jd (lP P N ⟨bF d (bg d 3) [(" ",p0),("",q0),(" ",p1),("",q1)] [l0] [r0,r1] .dead,pL⟩)=UV (.str (Wx "\n" ([l0]++[aT [(" ",p0),("",q0),(" ",p1),("",q1)]])),sB [(" ",p0),("",q0),(" ",p1),("",q1)] q1 [l0] [r0,r1]):=by rfl'
theorem Ta:jd (lP P N ⟨bF d (bg d 3) [(" ",p0),("",q0)] [l0] [r0,r1] .dead,pL⟩)=UV (.str (Wx "\n" ([l0]++[aT [(" ",p0),("",q0)]])),sB [(" ",p0),("",q0)] q0 [l0] [r0,r1]):=by rfl'
theorem Tc:jd (lP P N ⟨bF d (bg d 3) [(" ",p0),("",q0)] [l0,l1] [r0,r1,r2] .dead,pL⟩)=UV (.str (Wx "\n" ([l0,l1]++[aT [(" ",p0),("",q0)]])),sB [(" ",p0),("",q0)] q0 [l0,l1] [r0,r1,r2]):=by rfl'
end
end
section
theorem aO (a b:Vb):al (a++b)=al a++al b:=by refine(?_:(a.cps++b.cps).toList=_);rw[Array.toList_append];rfl
theorem fN {a b:Vb} (h:al a=al b):a=b:=by cases a;cases b;exact congrArg Str.mk (Array.toList_inj.mp h)
theorem aH (s:Vb):(al s).length=s.length:=Zi
theorem ko {s:Vb} {l:List Nat} {c:Nat} (h:al s=l++[c]):Xx s (-1)=UV c:=by
 unfold Xx ZQ;have a:(if(-1:Int) < 0 then(-1:Int)+((l.length+1:Nat):Int) else -1)=(l.length:Int):=by rw[if_pos (by decide)];lia
 refine((by rw[<-aH,h,U8];rfl:s.length=l.length+1)).symm▸ ?_;dsimp only;rw[a,if_pos (by simp;lia)];refine(?_:s.cps[(l.length:Int).toNat]?=UV c);rw[Vx,<-YQ];refine(?_:(al s)[l.length]?=UV c);rw[h,VS (Vr _),WU];rfl
theorem tA {s:Vb} {l:List Nat} {c:Nat} (h:al s=l++[c]):X5 s (-1)=⟨#[c]⟩:=by unfold X5;refine(ko h).symm▸ ?_;rfl
theorem GP {s:Vb} {c:Nat} (h:c∈al s) (a:V7 c=UY):abK s=UY:=by
 unfold abK;have:s.cps.all V7=UY:=by rw[Array.all_eq_false];obtain⟨i,b,e⟩:=List.mem_iff_getElem.mp h;have d:s.cps[i]=c:=e;exact⟨i,(b:i < s.cps.size),by rw[d,a];decide⟩
 rw[this,Bool.and_false]
theorem gM (a:Vb) (l:List Vb):Wx a l=aac a l:=acr a l
theorem iX:∀l:List Vb,al (aac Vj l)=(l.map al).flatten
 |[]=>rfl
 |[x]=>by simp[aac]
 |x::y::r=>by refine(?_:al (x++Vj++aac Vj (y::r))=_);rw[aO,aO,iX (y::r)];refine(?_:al x++[]++_=_);rw[VW];rfl
theorem kR (ps:List (Vb×Vb)):al (aT ps)=(ps.map λp=>al p.1++al p.2).flatten:=by
 unfold aT;rw[gM,iX,Yg];congr 1;refine W9 λp a=>(?_:al (Wx Vj [p.1,p.2])=_)
 rw[gM,iX];simp
theorem dI (ps:List (Vb×Vb)):(aT ps).length=aC ps:=by
 rw[<-aH,kR];induction ps with
 |nil=>rfl
 |cons p r c=>rw[Wa,Xu,U8,c,U8,aH,aH];obtain⟨a,b⟩:=p;rfl
theorem sC (ps qs:List (Vb×Vb)):aT (ps++qs)=aT ps++aT qs:=fN (by rw[aO,kR,kR,kR,VZ,List.flatten_append])
theorem lQ (ps qs:List (Vb×Vb)):aC (ps++qs)=aC ps+aC qs:=by rw[<-dI,sC,ba,dI,dI]
def dn (s:Vb):Prop:=∀c∈al s,c < 1000
theorem fq {a b:Vb} (d:dn a) (e:dn b):dn (a++b):=λc h=>by rw[aO] at h;exact(List.mem_append.mp h).elim (d c) (e c)
theorem kS {s:Vb} (h:(al s).all (λc=>decide (c < 1000))=UX):dn s:=λc a=>of_decide_eq_true (List.all_eq_true.mp h c a)
theorem GQ:∀{l:List Vb},(∀s∈l,dn s)->dn (aac Vj l):=λ{l} h c a=>by
 rw[iX] at a;refine aj (List.mem_flatten.mp a) λm d a=>(aj (List.mem_map.mp d) λs e b=>?_)
 subst b;exact h s e c a
theorem GR {s:Vb} (h:dn s) (r i:Nat) (u) (d:u∈gD s i r):dn u:=by
 induction r generalizing i with
 |zero=>exact nomatch d
 |succ r e=>
  rcases List.mem_cons.mp d with rfl|d
  ·refine fq (kS (by decide)) λc b=>?_;have b:c=ay 0 (al s) i:=List.mem_singleton.mp b;rw[b];have:∀(l:List Nat) (i:Nat),(∀c∈l,c < 1000)->ay 0 l i < 1000:=λl=>by
    induction l with
    |nil=>intro i _;exact Nat.zero_lt_succ _
    |cons a l e=>intro i h;induction i with
     |zero=>exact h a (.head _)
     |succ i=>exact e i λc b=>h c (.tail _ b)
   exact this _ i h
  ·exact e (i+1) d
theorem sD {s:Vb} (h:dn s) (w:Int):dn (bf s w):=by
 have a:∀k:Int,dn (Yj " " k):=λk c b=>by have:al (Yj " " k)=V8 k.toNat 32:=mul_one_list 32 k;rw[this] at b;refine(List.eq_of_mem_replicate b).symm▸ ?_;decide
 exact fq (fq (a _) h) (a _)
theorem KD {s:Vb} (h:dn s) (w:Int):dn (gE s w):=by
 have q:∀{t:Vb},dn t->dn (iF t):=λa=>fq (fq (kS (by decide)) a) (kS (by decide));refine(?_:dn (Be s w (ed s w)));generalize ed s w=k;induction k using WC with
 |zero=>exact sD h w
 |succ k=>induction k using WC with
  |zero=>exact q (sD h w)
  |succ k=>refine q ?_;unfold jc;rw[show("":Vb)=Vj from rfl,gM];exact GQ (GR (sD h w) _ _)
theorem wC {s:Vb} (h:dn s):PyData.strOk s=UX:=by unfold PyData.strOk;rw[Array.all_eq_true_iff_forall_mem];exact λc a=>decide_eq_true (XG (h c (by unfold al;exact Array.mem_toList_iff.mpr a)) (by decide))
theorem n9 {t:Bool} {r q:Vb} (h1:dn r) (h2:dn q):VP (eP t (YJ Yt [r,q]))=UX:=by unfold VP eP;cases t<;>simp[Zw,YD,Z5,Za,wC h1,wC h2]
theorem Bi {r:Vb} (h1:dn r):VP (eP UX (YJ Yt [r]))=UX:=by unfold VP eP;simp[Zw,YD,Z5,Za,wC h1]
theorem dz (d:Lt) (x:Nat):aT [A1 x,B1 d x]=eL d x:=fN (by rw[kR];unfold eL;rw[aO,aO];simp;rfl)
theorem oa (x:Nat):(nL x).length=2:=by unfold nL;rw[ba];rfl
theorem y8 {s:Vb} {w:Int} (h:s.length<=100):(gE s w).length<=212:=by
 have a:=wp s w;have b:∀t:Vb,(iF t).length=t.length+2:=λt=>by unfold iF;rw[ba,ba];show 1+_+1=_;lia
 refine(?_:(Be s w (ed s w)).length<=212);generalize ed s w=k;rcases k with _|_|k
 ·exact U1 a (U1 (Vt h 4) (by decide))
 ·exact U1 (Ve (b (bf s w))) (U1 (Vt (U1 a (Vt h 4)) 2) (by decide))
 ·exact U1 (Ve (b (jc (bf s w)))) (U1 (Vt (U1 (y5 (bf s w)) (aaY 2 (U1 a (Vt h 4)))) 2) (by decide))
structure eW (d:Lt):Prop where
 low:∀x,x < 3->dn (bN (d.n x) d.L)
 num:∀x,x < 3->sg (d.n x) d.L
 len:∀x,x < 3->(bN (d.n x) d.L).length<=100
variable {d:Lt}
theorem ib (h:eW d) {x:Nat} (a:x < 3):(vL d x).length<=213:=by have b:(gF x).length<=1:=(by decide:∀x < 3,(gF x).length<=1) x a;unfold vL;rw[ba];exact U1 (VD (y8 (w:=(d.w.fdiv (36^x)).fmod 36) (h.len x a)) b) (by decide)
theorem j7 (x:Nat):(eL d x).length=(vL d x).length+3:=by unfold eL;rw[ba,ba,oa];show 1+2+_=_;lia
theorem oe:dn ("":Vb):=λc a=>nomatch a
theorem IU (h:eW d) {x:Nat} (a:x < 3):dn (vL d x):=fq (KD (h.low x a) _) (kS ((by decide:∀x < 3,(al (gF x)).all (λc=>decide (c < 1000))=UX) x a))
theorem IV (h:eW d) {x:Nat} (a:x < 3):dn (eL d x):=fq (fq (kS (by decide)) (kS ((by decide:∀x < 3,(al (nL x)).all (λc=>decide (c < 1000))=UX) x a))) (IU h a)
theorem wD (h:eW d) {x:Nat} (a:x < 3):ao (ww d x):=by
 have b:aK 3 x:=⟨a,XG a (by decide)⟩
 have c:=y8 (w:=(d.w.fdiv (36^x)).fmod 36) (h.len x a);have e:(gF x).length<=1:=(by decide:∀x < 3,(gF x).length<=1) x a;have f:=h.len x a;exact af.mpr ⟨⟨rfl,⟨rfl,rfl⟩,by decide,b,⟨rfl,rfl,h.num x a⟩,trivial⟩,af.mpr ⟨(Dj a:ao (sn x)),by decide,⟨rfl,rfl,by lia⟩,rfl,U1 (VD c e) (by decide),trivial⟩⟩
theorem fY {W:Int} {o:Bool} (h1:ps.length<=1000) (h2:aC ps<=10000) (a:decide (W < (aC ps:Int))=o):ao (jP W ps o):=
 ⟨by decide,U1 (XI _ _) h1,rfl,⟨rfl,by lia⟩,⟨by lia,by lia⟩,a,trivial⟩
theorem dB:ao gL:=⟨rfl,trivial⟩
theorem rh {n:Nat} (h:n<=1000):ao (lO n):=⟨rfl,h,by decide,rfl,trivial⟩
theorem wE {n:Nat} (h:i < n) (a:n<=1000):ao (Bh i n):=⟨rfl,rfl,⟨h,Vq h (U1 a (by decide))⟩,by decide,by decide,rfl,⟨rfl,rfl⟩,rfl,rfl,trivial⟩
theorem Dp {n:Nat} (h:0 < n) (a:n<=1000):ao (GN n):=⟨rfl,rfl,a,rfl,⟨h,a⟩,rfl,by decide,U1 (XI _ _) a,trivial⟩
theorem NU (d:Lt) {x:Nat} (a:x < 2):al (vL d x)=al (gE (bN (d.n x) d.L) ((d.w.fdiv (36^x)).fmod 36))++[44]:=by unfold vL;rw[aO];rw[(by decide:∀x < 2,al (gF x)=[44]) x a]
theorem Dq (h:eW d) {n x:Nat} (hi:i < n) (c:n<=1000) (b:x < 2):ao (wx i n (vL d x)):=by
 have e:=ib h (show x < 3 from XG b (by decide));have a:=NU d b;have f:0 < (vL d x).length:=by rw[<-aH,a,U8];exact Wv _
 exact⟨rfl,rfl,⟨hi,by lia⟩,by decide,by lia,by rw[decide_eq_false (by lia)];rfl,⟨by decide,by rw[ko a];rfl⟩,by rw[tA a];rfl,rfl,trivial⟩
theorem Dr {n b:Nat} (hi:i<=n) (a:n<=1000) (h1:aC ps<=10000) (h2:ps.length<=1000) (c:b<=1000):ao (wz i n ps b):=
 ⟨⟨hi,a⟩,by decide,⟨hi,a⟩,rfl,⟨by lia,h2⟩,by refine(VK).symm▸ ?_;lia,rfl,a,by decide,trivial⟩
theorem Ds (h:eW d) {x:Nat} (b:x < 3) {o:Bool} (h0:0 < rs.length/\rs.length<=100) (hs:VP (eP UX (rs.map Yt))=UX) (c:(ee rs).length<=1000) (f:decide (((ee rs).length+(vL d x).length+3:Int)<=d.W)=o):ao (sA d x rs o):=by
 have g:=ib h b;have a:=oa x;have e:(ee rs++" "++nL x++vL d x).length=(ee rs).length+3+(vL d x).length:=by rw[ba,ba,ba,a];rfl
 have i:(ee rs++" ").length=(ee rs).length+1:=ba _ _;have j:(ee rs++" "++nL x).length=(ee rs).length+3:=by rw[ba,i,a]
 refine⟨by decide,⟨hs,rfl⟩,rfl,⟨h0.1,by decide⟩,by lia,by lia,by lia,ac e (Vl (VD (Vt c 3) g) (by decide)),?_,rfl,trivial⟩;rw[<-f,e];congr 1;apply propext;push_cast;lia
theorem NV (h:eW d) {x:Nat} (a:x < 3) (h0:0 < rs.length) (b:(ee rs).length<=1000):ao (NF d x rs):=by have c:=ib h a;have e:=oa x;have f:=j7 (d:=d) x;have g:(" "++nL x:Vb).length=1+(nL x).length:=ba _ _;exact⟨⟨h0,by decide⟩,by lia,by lia,by lia,⟨h0,by decide⟩,trivial⟩
theorem Dt (h:eW d) {x:Nat} (a:x < 3) (h0:rs.length<=100):ao (np d x rs):=by have b:=ib h a;have c:=oa x;have e:(" "++nL x:Vb).length=1+(nL x).length:=ba _ _;exact⟨by lia,by lia,by refine(VK).symm▸ ?_;lia,trivial⟩
theorem sE (h:eW d) {x e:Nat} (b:0 < x/\x < 3) (c:2<=ps.length/\ps.length<=10) (hl:aC ps<=1000) (f:e<=10) (h0:0 < rs.length/\rs.length<=10) (hs:VP (eP UX (rs.map Yt))=UX) (z:(ee rs).length=aC ps) (A:d.W < (aC ps:Int)+(eL d x).length)
  (P:Va) (N:Nat) {S:List Bool->St} {q:Vb} (B:q=vL d (x - 1)) (h1:∀o,tL P N ⟨H,IR x++o⟩=UV (UW,S o,IN d x ps q e rs)) (h2:∀o,tL P N ⟨H,IS x++o⟩=UV (UW,S o,IP d x ps q e rs)) (C:∀o,tL P N ⟨H,IT x++o⟩=UV (UW,S o,IQ d x ps q e rs)):
  ∃pre nds,(∀o,tL P N ⟨H,pre++o⟩=UV (UW,S o,nds))/\ao nds:=by
 subst B
 have D:=j7 (d:=d) x
 have J:=oa x
 have E:aC (ps++[A1 x])=aC ps+3:=by rw[lQ];show _+(1+(nL x).length+0)=_;lia
 have k:aC [A1 x,B1 d x]=(eL d x).length:=by rw[<-dz,dI]
 have n:aC (ps++[A1 x,B1 d x])=aC ps+(eL d x).length:=by rw[lQ,k]
 have F:(ps++[A1 x]).length=ps.length+1:=U8
 have G:(ps++[A1 x,B1 d x]).length=ps.length+2:=U8
 have l:(eL d x).length<=216:=U1 (Ve D) (Vt (ib h b.2) 3)
 have w1:aC (ps++[A1 x])<=10000:=U1 (Ve E) (U1 (Vt hl 3) (by decide))
 have p:(ps++[A1 x]).length<=1000:=U1 (Ve F) (U1 (WE c.2) (by decide))
 have I:(ps++[A1 x,B1 d x]).length<=1000:=U1 (Ve G) (U1 (Vt c.2 2) (by decide))
 have g:ps.length+2<=1000:=U1 (Vt c.2 2) (by decide)
 have j:ps.length+1<=1000:=abn g
 have r:ps.length<=1000:=abn j
 have s:aC ps<=10000:=U1 hl (by decide)
 have a:ao (sA d x rs UY++np d x rs):=af.mpr ⟨Ds h b.2 ⟨h0.1,U1 h0.2 (by decide)⟩ hs (U1 (Ve z) hl) (decide_eq_false (by lia)),Dt h b.2 (U1 h0.2 (by decide))⟩
 have m:=wD h b.2
 by_cases t:d.W < (aC (ps++[A1 x]):Int)
 ·have i:ao (jP d.W (ps++[A1 x]) UX):=fY p w1 (decide_eq_true t);have u:ao (lO (ps.length+1)):=rh j;have v:ao (wx (ps.length - 1) (ps.length+1) (vL d (x - 1))):=Dq h (XX (XI _ _)) j (acn b.1 b.2);have w:ao (wz ps.length (ps.length+1) ps e):=Dr (WG _) j s r (U1 f (by decide));by_cases y:d.W < (aC [A1 x,B1 d x]:Int)
  ·exact⟨_,_,C,af.mpr ⟨m,af.mpr ⟨i,af.mpr ⟨u,af.mpr ⟨v,af.mpr ⟨w,af.mpr ⟨dB,af.mpr ⟨fY (show 2<=1000 by decide) (U1 (Ve k) (U1 l (by decide))) (decide_eq_true y),af.mpr ⟨rh (by decide),af.mpr ⟨wE (by decide) (by decide),af.mpr ⟨Dp (by decide) (by decide),af.mpr ⟨dB,af.mpr ⟨dB,a⟩⟩⟩⟩⟩⟩⟩⟩⟩⟩⟩⟩⟩
  ·exact⟨_,_,h2,af.mpr ⟨m,af.mpr ⟨i,af.mpr ⟨u,af.mpr ⟨v,af.mpr ⟨w,af.mpr ⟨dB,af.mpr ⟨fY (show 2<=1000 by decide) (U1 (Ve k) (U1 l (by decide))) (decide_eq_false y),af.mpr ⟨dB,af.mpr ⟨dB,a⟩⟩⟩⟩⟩⟩⟩⟩⟩⟩
 ·exact⟨_,_,h1,af.mpr ⟨m,af.mpr ⟨fY p w1 (decide_eq_false t),af.mpr ⟨dB,af.mpr ⟨fY I (U1 (Ve n) (U1 (VD hl l) (by decide)):aC (ps++[A1 x,B1 d x])<=10000) (decide_eq_true (Xk A (ZC (congrArg adf n).symm))),af.mpr ⟨rh g,af.mpr ⟨wE (Xv (Z8 _)) g,af.mpr ⟨Dq h (Xv (XX (XI _ _))) g (acn b.1 b.2),af.mpr ⟨Dr (U1 (WG _) (WG _)) g s r (U1 f (by decide)),af.mpr ⟨dB,af.mpr ⟨dB,a⟩⟩⟩⟩⟩⟩⟩⟩⟩⟩⟩
theorem Bj (h:eW d) {x:Nat} (b:x < 3) (a:ps.length<=10) (hl:aC ps<=1000) (h0:0 < rs.length/\rs.length<=10) (hs:VP (eP UX (rs.map Yt))=UX) (c:(ee rs).length=aC ps) (f:(aC ps:Int)+(eL d x).length<=d.W):ao (IM d x ps rs):=by
 have g:=j7 (d:=d) x;have q:=oa x;have i:aC (ps++[A1 x])=aC ps+3:=by rw[lQ];show _+(1+(nL x).length+0)=_;lia
 have j:aC [A1 x,B1 d x]=(eL d x).length:=by rw[<-dz,dI]
 have e:aC (ps++[A1 x,B1 d x])=aC ps+(eL d x).length:=by rw[lQ,j]
 have k:(ps++[A1 x]).length=ps.length+1:=U8;have l:(ps++[A1 x,B1 d x]).length=ps.length+2:=U8;have m:(eL d x).length<=216:=U1 (Ve g) (Vt (ib h b) 3);have n:aC (ps++[A1 x,B1 d x])<=10000:=U1 (Ve e) (U1 (VD hl m) (by decide));have o:(ps++[A1 x]).length<=1000:=U1 (Ve k) (U1 (WE a) (by decide));have p:(ps++[A1 x,B1 d x]).length<=1000:=U1 (Ve l) (U1 (Vt a 2) (by decide));exact af.mpr ⟨wD h b,af.mpr ⟨fY o (U1 (Ve i) (U1 (Vt hl 3) (by decide)):aC (ps++[A1 x])<=10000) (decide_eq_false (by lia)),af.mpr ⟨dB,af.mpr ⟨fY p n (decide_eq_false (Int.not_lt.mpr (VM (ZC (congrArg adf e)) f))),af.mpr ⟨dB,af.mpr ⟨dB,af.mpr ⟨Ds h b ⟨h0.1,U1 h0.2 (by decide)⟩ hs (U1 (Ve c) hl) (decide_eq_true (by lia)),NV h b h0.1 (U1 (Ve c) hl)⟩⟩⟩⟩⟩⟩⟩
theorem Qj (P:Va) (N:Nat) (h:eW d) (f:10<=d.W):∃pre nds,(∀o,tL P N ⟨bF d (bg d 0) [] [] [] (.rngIt 0 3 1),pre++o⟩=UV (UW,⟨bF d (bg d 1) [A1 0,B1 d 0] [] [eL d 0] (.rngIt 1 2 1),o⟩,nds))/\ao nds:=by
 have g:=ib h (show 0 < 3 by decide);have i:=j7 (d:=d) 0;have j:aC [A1 0]=3:=by decide
 have k:aC [A1 0,B1 d 0]=(eL d 0).length:=by rw[<-dz,dI]
 have a:=wD h (show 0 < 3 by decide);have b:ao (GO++np d 0 []):=af.mpr ⟨⟨by decide,⟨rfl,rfl⟩,rfl,rfl,trivial⟩,Dt h (by decide) (by decide)⟩;have e:ao (jP d.W [A1 0] UY):=fY (show 1<=1000 by decide) (by lia) (decide_eq_false (by lia));by_cases c:d.W < (aC [A1 0,B1 d 0]:Int)
 ·exact⟨_,_,λo=>SX P d N o,af.mpr ⟨a,af.mpr ⟨e,af.mpr ⟨dB,af.mpr ⟨fY (show 2<=1000 by decide) (by lia) (decide_eq_true c),af.mpr ⟨rh (by decide),af.mpr ⟨wE (by decide) (by decide),af.mpr ⟨Dp (by decide) (by decide),af.mpr ⟨dB,af.mpr ⟨dB,b⟩⟩⟩⟩⟩⟩⟩⟩⟩⟩
 ·exact⟨_,_,λo=>SW P d N o,af.mpr ⟨a,af.mpr ⟨e,af.mpr ⟨dB,af.mpr ⟨fY (show 2<=1000 by decide) (by lia) (decide_eq_false c),af.mpr ⟨dB,af.mpr ⟨dB,b⟩⟩⟩⟩⟩⟩⟩
def lR (d:Lt):List Vb:=
 if((eL d 0).length+(eL d 1).length:Int)<=d.W then(if((eL d 0).length+(eL d 1).length+(eL d 2).length:Int)<=d.W then[eL d 0++eL d 1++eL d 2] else[eL d 0++eL d 1,eL d 2])
 else(if((eL d 1).length+(eL d 2).length:Int)<=d.W then[eL d 0,eL d 1++eL d 2] else[eL d 0,eL d 1,eL d 2])
def dj (d:Lt):Vb:=Wx "\n" (lR d)
theorem NW {q:Vb} {ls:List Vb} (c:0 < ps.length/\ps.length<=10) (h0:0 < aC ps/\aC ps<=1000) (d:61∈al (aT ps)) (e:VP (eP UY (YJ Yt [("":Vb),q]))=UX) (a:rs=ls++[aT ps]) (hl:ls.length<=10/\(ls.map (·.length)).sum<=10000):ao (sB ps q ls rs):=by have b:acM "\n" (ls++[aT ps])=UX:=joinOk_of (by rw[VZ,List.sum_append,U8];show _+((aT ps).length+0)+(ls.length+1)*1<=_;rw[dI];exact U1 (VD (VD hl.2 h0.2) (Xw 1 (WE hl.1))) (by decide));refine⟨by lia,rfl,⟨c.1,by lia⟩,by decide,⟨e,rfl⟩,rfl,rfl,by decide,by decide,by lia,rfl,⟨rfl,by lia⟩,⟨by lia,by lia⟩,decide_eq_true (by lia),rfl,rfl,⟨rfl,by lia⟩,⟨by lia,by lia⟩,by rw[decide_eq_false (by lia)];rfl,rfl,⟨by lia,by lia⟩,GP d (by decide+kernel),rfl,rfl,⟨by lia,by lia⟩,by rw[VK];lia,rfl,by decide,by lia,by decide,b,a▸b,?_,trivial⟩;rw[a,bS.mpr rfl];rfl
theorem Qk (d:Lt) {x:Nat} (a:x < 3):61∈al (eL d x):=by unfold eL;rw[aO,aO];refine ada _ (aaw _ ?_);exact(by decide:∀x < 3,61∈al (nL x)) x a
theorem tB {r:Option (D×St×List Prop)} {v:D} {p:List Prop} (h:jd r=UV (v,p)):∃S',r=UV (v,S',p):=by refine aj (Option.map_eq_some_iff.mp h) λd e f=>?_;obtain⟨a,b,c⟩:=d;cases f;exact⟨b,e⟩
theorem gH (P:Va) (N M:Nat) {T:Vb} {S:List Bool->St} (b:∃pre nds,(∀o,tL P N ⟨H,pre++o⟩=UV (UW,S o,nds))/\ao nds)
  (h2:∃orc p S2 nds S',(mL P (N+40)).fl (aU oW) 10 (cL oW) [] (S orc)=UV (.next,S2,p)/\ao p/\lP P M S2=UV (.str T,S',nds)/\ao nds):
  ∃orc p S2 nds S',(mL P (N+41)).fl (aU oW) 10 (cL oW) [] ⟨H,orc⟩=UV (.next,S2,p)/\ao p/\lP P M S2=UV (.str T,S',nds)/\ao nds:=by
 refine aG b λpre nds e c=>(QV h2 λorc p S2 a S' d f g h=>?_)
 exact⟨pre++orc,_,S2,a,S',qT (e orc) d,af.mpr ⟨c,f⟩,g,h⟩
theorem lS (d:Lt) (x y:Nat):aT [A1 x,B1 d x,A1 y,B1 d y]=eL d x++eL d y:=(sC [A1 x,B1 d x] [A1 y,B1 d y]).trans (by rw[dz,dz])
theorem Bk (d:Lt) (x y z:Nat):aT [A1 x,B1 d x,A1 y,B1 d y,A1 z,B1 d z]=eL d x++eL d y++eL d z:=(sC [A1 x,B1 d x,A1 y,B1 d y] [A1 z,B1 d z]).trans (by rw[lS,dz])
theorem oh (P:Va) (h:eW d) {ls:List Vb} {q:Vb} (hf:jd (lP P 18 ⟨bF d (bg d 3) ps ls rs .dead,pL⟩)=UV (.str (Wx "\n" (ls++[aT ps])),sB ps q ls rs)) (c:0 < ps.length/\ps.length<=10) (h0:0 < aC ps/\aC ps<=1000) (f:61∈al (aT ps)) (g:VP (eP UY (YJ Yt [("":Vb),q]))=UX) (hl:ls.length<=10/\(ls.map (·.length)).sum<=10000) (b:rs=ls++[aT ps]) (a:lR d=rs):
  ∃orc p S2 nds S',(mL P 55).fl (aU oW) 10 (cL oW) [] ⟨bF d (bg d 3) ps ls rs (.rngIt 3 0 1),orc⟩=UV (.next,S2,p)/\ao p/\lP P 18 S2=UV (.str (dj d),S',nds)/\ao nds:=by
 rw[<-b,<-a] at hf
 obtain⟨S',e⟩:=tB hf
 rw[a] at e
 exact⟨UY::pL,_,_,_,S',mW (Uz P d 14 pL ps ls rs),dB,by rw[<-a] at e ⊢;exact e,(NW c h0 f g b hl)⟩
theorem GT (P:Va) (h:eW d) (q:10<=d.W):∃orc p S2 nds S',(mL P 58).fl (aU oW) 10 (cL oW) [] ⟨bF d (bg d 0) [] [] [] (.rngIt 0 3 1),orc⟩=UV (.next,S2,p)/\ao p/\lP P 18 S2=UV (.str (dj d),S',nds)/\ao nds:=by
 have u:=ib h (show 0 < 3 by decide);have v:=ib h (show 1 < 3 by decide);have g0:=j7 (d:=d) 0;have g1:=j7 (d:=d) 1;have r:=j7 (d:=d) 2;have g:aC [A1 0,B1 d 0]=(eL d 0).length:=by rw[<-dz,dI]
 have a:aC [A1 1,B1 d 1]=(eL d 1).length:=by rw[<-dz,dI]
 have b:aC [A1 2,B1 d 2]=(eL d 2).length:=by rw[<-dz,dI]
 have i:aC [A1 0,B1 d 0,A1 1,B1 d 1]=(eL d 0).length+(eL d 1).length:=by rw[<-dI,lS,ba]
 have j:aC [A1 1,B1 d 1,A1 2,B1 d 2]=(eL d 1).length+(eL d 2).length:=by rw[<-dI,lS,ba]
 have w:aC [A1 0,B1 d 0,A1 1,B1 d 1,A1 2,B1 d 2]=(eL d 0).length+(eL d 1).length+(eL d 2).length:=by rw[<-dI,Bk,ba,ba]
 have s:(eL d 0).length<=216:=U1 (Ve g0) (Vt u 3);have k:(eL d 1).length<=216:=U1 (Ve g1) (Vt v 3);have t:(eL d 2).length<=216:=U1 (Ve r) (Vt (ib h (show 2 < 3 by decide)) 3);have y:aC [A1 0,B1 d 0]<=1000:=U1 (Ve g) (U1 s (by decide));have z:aC [A1 1,B1 d 1]<=1000:=U1 (Ve a) (U1 k (by decide));have A:0 < aC [A1 2,B1 d 2]/\aC [A1 2,B1 d 2]<=1000:=⟨Vq (Wv _) (Ve (b.trans r).symm),U1 (Ve b) (U1 t (by decide))⟩
 have B:aC [A1 0,B1 d 0,A1 1,B1 d 1]<=1000:=U1 (Ve i) (U1 (VD s k) (by decide));have C:0 < (eL d 2).length:=Vq (Wv _) (Ve r.symm);have D:0 < aC [A1 0,B1 d 0,A1 1,B1 d 1,A1 2,B1 d 2]/\aC [A1 0,B1 d 0,A1 1,B1 d 1,A1 2,B1 d 2]<=1000:=⟨Vq C (U1 (Wp _ _) (Ve w.symm)),U1 (Ve w) (U1 (VD (VD s k) t) (by decide))⟩
 have l:=Qk d (show 2 < 3 by decide);have e:=IV h (show 0 < 3 by decide);have m:=IV h (show 1 < 3 by decide);have n:dn (vL d 2):=IU h (show 2 < 3 by decide);refine gH P 17 18 (S:=λo=>⟨bF d (bg d 1) [A1 0,B1 d 0] [] [eL d 0] (.rngIt 1 2 1),o⟩) (Qj P 17 h q) ?_;by_cases f:((eL d 0).length+(eL d 1).length:Int)<=d.W
 ·refine gH P 16 18 (S:=λo=>⟨bF d (bg d 2) [A1 0,B1 d 0,A1 1,B1 d 1] [] [eL d 0++eL d 1] (.rngIt 2 1 1),o⟩) ⟨_,_,λo=>Qe P d 16 o (nL 0) (vL d 0) (eL d 0),Bj (ps:=[A1 0,B1 d 0]) (rs:=[eL d 0]) h (by decide) (show 2<=10 by decide) y (show 0 < 1/\1<=10 by decide) (Bi e) (show(eL d 0).length=aC [A1 0,B1 d 0] from g.symm) (by show(aC [A1 0,B1 d 0]:Int)+_<=_;refine(g).symm▸ ?_;exact f)⟩ ?_;by_cases c:((eL d 0).length+(eL d 1).length+(eL d 2).length:Int)<=d.W
  ·refine gH P 15 18 (S:=λo=>⟨bF d (bg d 3) [A1 0,B1 d 0,A1 1,B1 d 1,A1 2,B1 d 2] [] [eL d 0++eL d 1++eL d 2] (.rngIt 3 0 1),o⟩) ⟨_,_,λo=>NK P d 15 o (nL 0) (vL d 0) (nL 1) (vL d 1) (eL d 0++eL d 1),Bj (ps:=[A1 0,B1 d 0,A1 1,B1 d 1]) (rs:=[eL d 0++eL d 1]) h (by decide) (show 4<=10 by decide) B (show 0 < 1/\1<=10 by decide) (Bi (fq e m)) (by show(eL d 0++eL d 1).length=aC [A1 0,B1 d 0,A1 1,B1 d 1];rw[i,ba]) (by show(aC [A1 0,B1 d 0,A1 1,B1 d 1]:Int)+_<=_;refine(i).symm▸ ?_;push_cast;exact c)⟩ ?_;exact oh P h (SZ P d 18 (nL 0) (vL d 0) (nL 1) (vL d 1) (nL 2) (vL d 2) (eL d 0++eL d 1++eL d 2)) (show 0 < 6/\6<=10 by decide) D (by rw[show aT _=_ from Bk d 0 1 2,aO];exact aaw _ l) (n9 oe n) (by decide) (ac (show aT _=_ from Bk d 0 1 2) rfl) (by unfold lR;rw[if_pos f,if_pos c])
  ·refine gH P 15 18 (S:=λo=>⟨bF d (bg d 3) [A1 2,B1 d 2] [aT [A1 0,B1 d 0,A1 1,B1 d 1]] [eL d 0++eL d 1,eL d 2] (.rngIt 3 0 1),o⟩) (sE h (x:=2) (by decide) (ps:=[A1 0,B1 d 0,A1 1,B1 d 1]) (show 2<=4/\4<=10 by decide) B (show 0<=10 by decide) (rs:=[eL d 0++eL d 1]) (show 0 < 1/\1<=10 by decide) (Bi (fq e m)) (show(eL d 0++eL d 1).length=aC [A1 0,B1 d 0,A1 1,B1 d 1] by rw[i,ba]) (by refine(i).symm▸ ?_;push_cast;exact Int.not_le.mp c) P 15 rfl (λo=>NL P d 15 o (nL 0) (vL d 0) (nL 1) (vL d 1) (eL d 0++eL d 1)) (λo=>NN P d 15 o (nL 0) (vL d 0) (nL 1) (vL d 1) (eL d 0++eL d 1)) (λo=>NO P d 15 o (nL 0) (vL d 0) (nL 1) (vL d 1) (eL d 0++eL d 1))) ?_;exact oh P h (Ta P d 18 (nL 2) (vL d 2) (aT [A1 0,B1 d 0,A1 1,B1 d 1]) (eL d 0++eL d 1) (eL d 2)) (show 0 < 2/\2<=10 by decide) A (by rw[show aT _=_ from dz d 2];exact l) (n9 oe n) (by rw[lS];show 1<=10/\(eL d 0++eL d 1).length+0<=_;rw[ba];lia) (by rw[show aT [(_,_),(_,_)]=_ from dz d 2,lS];rfl) (by unfold lR;rw[if_pos f,if_neg c])
 ·refine gH P 16 18 (S:=λo=>⟨bF d (bg d 2) [A1 1,B1 d 1] [aT [A1 0,B1 d 0]] [eL d 0,eL d 1] (.rngIt 2 1 1),o⟩) (sE h (x:=1) (by decide) (ps:=[A1 0,B1 d 0]) (show 2<=2/\2<=10 by decide) y (show 0<=10 by decide) (rs:=[eL d 0]) (show 0 < 1/\1<=10 by decide) (Bi e) (show(eL d 0).length=aC [A1 0,B1 d 0] from g.symm) (ac (g) (Int.not_le.mp f)) P 16 rfl (λo=>Qf P d 16 o (nL 0) (vL d 0) (eL d 0)) (λo=>Qg P d 16 o (nL 0) (vL d 0) (eL d 0)) (λo=>Qh P d 16 o (nL 0) (vL d 0) (eL d 0))) ?_;by_cases c:((eL d 1).length+(eL d 2).length:Int)<=d.W
  ·refine gH P 15 18 (S:=λo=>⟨bF d (bg d 3) [A1 1,B1 d 1,A1 2,B1 d 2] [aT [A1 0,B1 d 0]] [eL d 0,eL d 1++eL d 2] (.rngIt 3 0 1),o⟩) ⟨_,_,λo=>NP P d 15 o (nL 1) (vL d 1) (aT [A1 0,B1 d 0]) (eL d 0) (eL d 1),Bj (ps:=[A1 1,B1 d 1]) (rs:=[eL d 0,eL d 1]) h (by decide) (show 2<=10 by decide) z (show 0 < 2/\2<=10 by decide) (n9 e m) (show(eL d 1).length=aC [A1 1,B1 d 1] from a.symm) (by show(aC [A1 1,B1 d 1]:Int)+_<=_;refine(a).symm▸ ?_;exact c)⟩ ?_;exact oh P h (S9 P d 18 (nL 1) (vL d 1) (nL 2) (vL d 2) (aT [A1 0,B1 d 0]) (eL d 0) (eL d 1++eL d 2)) (show 0 < 4/\4<=10 by decide) (⟨Vq C (U1 (Wp _ _) (Ve j.symm)),U1 (Ve j) (U1 (VD k t) (by decide))⟩:0 < aC [A1 1,B1 d 1,A1 2,B1 d 2]/\aC [A1 1,B1 d 1,A1 2,B1 d 2]<=1000) (by rw[show aT _=_ from lS d 1 2,aO];exact aaw _ l) (n9 oe n) (by rw[dz];show 1<=10/\(eL d 0).length+0<=_;lia) (by rw[show aT [(_,_),(_,_),(_,_),(_,_)]=_ from lS d 1 2,dz];rfl) (by unfold lR;rw[if_neg f,if_pos c])
  ·refine gH P 15 18 (S:=λo=>⟨bF d (bg d 3) [A1 2,B1 d 2] [aT [A1 0,B1 d 0],aT [A1 1,B1 d 1]] [eL d 0,eL d 1,eL d 2] (.rngIt 3 0 1),o⟩) (sE h (x:=2) (by decide) (ps:=[A1 1,B1 d 1]) (show 2<=2/\2<=10 by decide) z (show 1<=10 by decide) (rs:=[eL d 0,eL d 1]) (show 0 < 2/\2<=10 by decide) (n9 e m) (show(eL d 1).length=aC [A1 1,B1 d 1] from a.symm) (by refine(a).symm▸ ?_;lia) P 15 rfl (λo=>NQ P d 15 o (nL 1) (vL d 1) (aT [A1 0,B1 d 0]) (eL d 0) (eL d 1)) (λo=>NR P d 15 o (nL 1) (vL d 1) (aT [A1 0,B1 d 0]) (eL d 0) (eL d 1)) (λo=>NS P d 15 o (nL 1) (vL d 1) (aT [A1 0,B1 d 0]) (eL d 0) (eL d 1))) ?_;exact oh P h (Tc P d 18 (nL 2) (vL d 2) (aT [A1 0,B1 d 0]) (aT [A1 1,B1 d 1]) (eL d 0) (eL d 1) (eL d 2)) (show 0 < 2/\2<=10 by decide) A (ac (show aT _=_ from dz d 2) l) (n9 oe n) (by rw[dz,dz];show 2<=10/\(eL d 0).length+((eL d 1).length+0)<=_;exact⟨by decide,U1 (VD (U1 (Ve g0) (Vt u 3)) (U1 (Ve g1) (Vt v 3))) (by decide)⟩) (by rw[show aT [_,_]=_ from dz d 2,dz,dz];rfl) (by unfold lR;rw[if_neg f,if_neg c])
def tC (f:Fl):M V:=match f with
 | .ret v=>ret v
 | .next=>ret .none
 |_=>fail
theorem y9 {orc:List Bool} {f:Fl} {b:St} {z:D} {p3 p4 p2:List Prop} (hl:VA vs.length T.params.length=UX)
  (c:(G (be T [] gl (λa=>bk) spE objs.length)).exs T.body ⟨objs++(.frame (jD T.scope.names (T.params.zip vs) [])::T.cn.map λn=> .cell (lk n (lm T.scope.names (T.params.zip vs) []))),orc⟩=UV (f,b,p3))
  (hf:tC f b=UV (v,S3,p4)) (hz:cj P 9 v S3=UV (z,S',p2)):
  bnd (aR T gl (λa=>bk) spE G [] vs) (λv=>cj P 9 v) ⟨objs,orc⟩=UV (z,S',(p3++p4)++p2):=by
 refine aJ ?_ hz
 unfold aR
 exact(hl).symm▸(aJ (m:=kE T (T.params.zip vs)) (p:=[]) rfl (aJ c hf))
theorem KE (P:Va) (h:eW d) (k:10<=d.W):∃orc qs,bD 0 (bnd (aR (Do P) gl (λg=>bk) (λg=>br) (Gz P (uG P) 2 60) [] [.dat (.ints [d.a,d.b,d.c]), .dat (.ints d.L), .int d.w, .int d.W]) (λv=>cj P 9 v) ⟨[],orc⟩)=UV (.str (dj d),[],qs)/\ao qs:=by
 refine QV (GT P h k) λorc p t u N e x y z=>(ez (bA y) λv O Q A B D j=>?_)
 subst j;refine ez (bA B) λf E F H I J j=>?_;subst j;obtain⟨l,m⟩:=af.mp z;obtain⟨q,r⟩:=af.mp l;have K:(mL P 59).ex (aw dS.body 2) ⟨(bF d [] [] [] [] .dead).take 9,orc⟩=UV (.next,t,[UX=UX]++p):=
  mX (C:=NE P) (o:=oL P) (n:=58) (i:=10) (s:=aw dS.body 2) (by rfl') (by rfl') (S1:=⟨bF d [] [] [] [] (.rngIt 0 3 1),orc⟩) (SY P d 18 orc) e
 have M:=y9 (P:=P) (T:=Do P) (spE:=λg=>br) (G:=Gz P (uG P) 2 60) (vs:=[.dat (.ints [d.a,d.b,d.c]), .dat (.ints d.L), .int d.w, .int d.W]) (objs:=[]) (orc:=orc) rfl ((show _=cG (mL P (18+41)).ex ([aw dS.body 0,aw dS.body 1]++aw dS.body 2::[aw dS.body 3,aw dS.body 4,aw dS.body 5]) ⟨(bF d [] [] [] [] .dead).take 1|>.map λg=> .frame [("counts", .dat (.ints [d.a,d.b,d.c])),("sizes", .dat (.ints d.L)),("way", .int d.w),("width", .int d.W)],orc⟩ by rfl').trans (kN (Qi P d 18 orc) (jK K I))) (show tC f E=_ from J) D;exact⟨orc,((NT++(([UX=UX]++p)++F))++H)++A,by rw[M];rfl,af.mpr ⟨af.mpr ⟨af.mpr ⟨⟨by decide,by decide,by decide,by decide,by decide,by decide,by decide,by decide,by decide,by decide,by decide,trivial⟩,af.mpr ⟨af.mpr ⟨⟨rfl,trivial⟩,x⟩,q⟩⟩,r⟩,m⟩⟩
abbrev wF:Sp:=fW (X:=Lt) (λvs=>⟨ay 0 (cr (nV vs 0)) 0,ay 0 (cr (nV vs 0)) 1,ay 0 (cr (nV vs 0)) 2,bU (nV vs 2),bU (nV vs 3),cr (nV vs 1)⟩) (λd=>[.dat (.ints [d.a,d.b,d.c]), .dat (.ints d.L), .int d.w, .int d.W]) (λd=> .str (dj d)) λd=>eW d/\10<=d.W
theorem nq {K:List (U6×Xg)} (F:bz K f fd T):bz K f fd {T with trim:=UV P}:=⟨F.obj,F.body,F.scope,F.clo,F.code,F.bind,F.cn,F.nd,F.kinds,F.co,F.gen,F.kind⟩
theorem Rg (P:Va):bz (aF P) 284 qN (Do P):=nq PN
theorem Du (j:cR J):aX (Wz J w) 12 284 wF:=
 dq (X:=Lt) (lev:=8) (k:=2) (T:=Do w.params) (Tb:=uG w.params) (defs:=[]) (spS:=λa a=>bk) (spE:=λa a=>br) (Rg w.params) rfl rfl (λa h=>by cases h;rfl) (c8 (Rg w.params))
  (λg os A b c=>⟨bW (fd:=qM) (by rfl') (dH (yU J w) (by decide)) b c,bW (fd:=uq) (by rfl') (dH (KB J w) (by decide)) b c,Qd j b c⟩) (λa a a a a a a a a a a a a=>dw) λd i=>by
  exact aG (KE w.params i.1 i.2) λf l e m=>⟨60,f,l,e,m,rfl⟩
end
section
structure V3 where
 a:Int
 b:Int
 c:Int
noncomputable def V3.l (v:V3):List Int:=[v.a,v.b,v.c]
structure Lr where
 s:Int
 tk:List Int
 c:V3
 w:Int
 t:Vb
def Lr.D (r:Lr):D:= .tup [.int r.s, .ints r.tk, .ints r.c.l, .int r.w, .str r.t]
noncomputable def pM:D->List D
 | .tup l=>l
 |_=>[]
noncomputable def GU:D->Int
 | .int i=>i
 |_=>0
noncomputable def Bl:D->List Int
 | .ints l=>l
 |_=>[]
def v3 (l:List Int):V3:=⟨ay 0 l 0,ay 0 l 1,ay 0 l 2⟩
def GW (d:D):Lr:=⟨GU (ay .none (pM d) 0),Bl (ay .none (pM d) 1),v3 (Bl (ay .none (pM d) 2)),GU (ay .none (pM d) 3),Bc (ay .none (pM d) 4)⟩
def bH (ls:List D) (n:Int):Lr:=GW ((dg ls (dM ls.length n)).getD .none)
theorem NX (r:Lr):GW r.D=r:=by obtain⟨s,d,⟨a,b,c⟩,w,t⟩:=r;rfl
noncomputable def oi (S:St) (i:Nat):List D:=match S.H[i]? with
 |some (.dats l)=>l
 |_=>[]
noncomputable def GY:V->Nat
 | .ref i=>i
 |_=>0
def nt (S:St) (f:Nat):List D:=oi S (GY (eI S f "letters"))
def gq (f:Nat):M V:=λS=>UV (.dat (bH (nt S f) (bU (eI S f "number"))).D,S,[eI S f "letters"= .ref (GY (eI S f "letters"))/\eI S f "number"= .int (bU (eI S f "number"))/\S.H[GY (eI S f "letters")]?=UV (.dats (nt S f))/\aK (nt S f).length (bU (eI S f "number"))/\
 dg (nt S f) (dM (nt S f).length (bU (eI S f "number")))=UV (bH (nt S f) (bU (eI S f "number"))).D])
theorem Ql {S:St} {f:Nat} {x:Vb} (h:eI S f x=v) (b:v≠ .none):∃l,S.H[f]?=UV (.frame l)/\lk x l=UV v:=by
 unfold eI at h;induction a:S.H[f]? with
 |none=>rw[a] at h;exact absurd h.symm b
 |some o=>induction o with
  |frame l=>
   induction c:lk x l with
   |none=>rw[a] at h;dsimp only at h;rw[c] at h;exact absurd h.symm b
   |some u=>rw[a] at h;dsimp only at h;rw[c] at h;exact aA l rfl (h▸c)
  |_=>rw[a] at h;exact absurd h.symm b
theorem IW {o:dU} {n:Nat} {x:Vb} {p:XN} {S:St} (h0:C.spE 0=UW) (hd:ew x=UY) (b:kd x C.names=UV .local) (h:eI S C.fid x=v) (c:v≠ .none):(aE o (n+1) C).ev (.Name x p) S=UV (v,S,[]):=by
 refine aj (Ql h c) λl d e=>(?_:(match C.spE 0 with|some (f,m)=>bnd (need (acy x p=f)) λa=>m|none=>mv C o (aE o n C) (.Name x p)) S=_)
 refine ac h0 (?_:(match ew x with|true=>fail|false=>nm C x) S=_);refine ac hd (?_:nm C x S=_);unfold nm;refine ac b (?_:(match S.H[C.fid]? with|some (.frame l)=>orF (lk x l) ret S|_=>UW)=_);refine ac d (?_:orF (lk x l) ret S=_);refine ac e ?_;rfl
theorem NY {ls:List D} {n:Int} {S:St} (hi:S.H[i]?=UV (.dats ls)) (h:dg ls (dM ls.length n)=UV d):F5 P CL (.ref i) (.int n) S=UV (eA d,S,[aK ls.length n]):=by
 have a:(match(SV.ds ls).at (dM ls.length n) with|some u=>dW u (aK ls.length n)|none=>fail) S=UV (eA d,S,[aK ls.length n]):=by unfold SV.at;dsimp only;refine ac h ?_;rfl
 unfold F5;refine ac (by unfold nN;dsimp only;rw[hi]:nN (.ref i) S=UY) ?_;exact aJ (k:=λr=>match r.2.at (dM r.2.len n) with|some u=>dW u (aK r.2.len n)|none=>fail) (by unfold look getO;dsimp only;refine ac hi ?_;rfl:look (.ref i) S=UV ((UX, .ds ls),S,[])) a
section
theorem GZ {T:bC} (d:∀n,ae c A fz U ((aE (aZ P T CL NM glob N k) n C).ev (.Subscript (.Name "letters" p1) (.Name "number" p2) p3)) (Wq (.Subscript (.Name "letters" p1) (.Name "number" p2) p3) Z) au)
  (h0:C.spE 0=UW) (h1:C.spE (nC (.Subscript (.Name "letters" p1) (.Name "number" p2) p3))=UW) (f:kd "letters" C.names=UV .local) (g:kd "number" C.names=UV .local):ae c A fz U (gq C.fid) (Wq (.Subscript (.Name "letters" p1) (.Name "number" p2) p3) Z) au:=by
 refine ae.via (λS a u p e i=>?_) (d 2)
 cases e
 obtain⟨⟨j,l,o,q,r⟩,_⟩:=i
 have s:(aE (aZ P T CL NM glob N k) 2 C).ev (.Subscript (.Name "letters" p1) (.Name "number" p2) p3) S=UV (.dat (bH (nt S C.fid) (bU (eI S C.fid "number"))).D,S,[]++([]++[aK (nt S C.fid).length (bU (eI S C.fid "number"))])):=by refine(?_:(match C.spE (nC (.Subscript (.Name "letters" p1) (.Name "number" p2) p3)) with|some (t,m)=>bnd (need (Expr.Subscript (.Name "letters" p1) (.Name "number" p2) p3=t)) λb=>m|none=>mv C (aZ P T CL NM glob N k) (aE (aZ P T CL NM glob N k) 1 C) (.Subscript (.Name "letters" p1) (.Name "number" p2) p3)) S=_);refine ac h1 ?_;refine aJ (IW h0 (by decide+kernel) f j (by intro h;cases h)) (aJ (IW h0 (by decide+kernel) g l (by intro h;cases h)) ?_);cases k<;>exact NY (P:=P) (CL:=CL) o r
 exact⟨S.orc,S.orc,_,s,q,trivial⟩
end
def ri (P:Va):bC:=[(71,dY P [UY,UY] CZ),(64,dY P [UY,UY] (A6 3))]
def iY (P:Va):FT:={gj with trim:=UV P}
def ip:VY:=aw gj.body 3
def j8:VY:=aw (cL ip) 1
def rj:List VY:=(cL j8)
def eK:Vs:=cm (ay xz (kz (aU (aw rj 4))) 0)
def IX:Vs:=cm (aU (aw rj 0))
def IY:Vs:=cm (hX eK).iter
noncomputable def Rh (l:Nat) (e:Vs) (f:Nat):Nat->Option (Vs×M V):=λn=>match VA n l with
 |true=>UV (e,gq f)
 |false=>UW
structure KX where
 hs:List D
 h0:List D
 ls:List D
 ts:List Int
 hl:List Int
 nd:List Int
 td:List Int
 sv:List Int
 cv:List Int
 W:Int
 hf:Int
 gd:Int
 n:Int
 sd:Int
 ag:Bool
 rd:Bool
 j:Nat
noncomputable def ie (x:KX):List O:=[.dats x.hs, .dats x.ls, .ints x.ts, .frame [("held", .ref 0),("letters", .ref 1),("width", .int x.W),("half", .int x.hf),("guard", .int x.gd),("again", .bool x.ag),("number", .int x.n),("need", .ref 13),("told", .dat (.ints x.td)),("ready", .bool x.rd)],
 .cell (UV (.ref 2)), .cell (UV (.dat (.ints x.sv))), .cell (UV (.dat (.ints x.cv))), .cell (UV (.int x.sd)), .fro (.ints x.hl), .dats x.h0, .listIt 9 x.j, .range 0 3 1, .dead, .fro (.ints x.nd), .dead]
noncomputable def IZ:V->Bool
 | .bool b=>b
 |_=>UY
noncomputable def uH (S:St) (i:Nat):List Int:=match S.H[i]? with
 |some (.ints l)=>l
 |some (.fro (.ints l))=>l
 |_=>[]
noncomputable def Bm (S:St) (i:Nat):V:=match S.H[i]? with
 |some (.cell (UV v))=>v
 |_=> .none
noncomputable def UA (S:St) (i:Nat):Nat:=match S.H[i]? with
 |some (.listIt _ j)=>j
 |_=>0
def NZ (S:St):KX where
 hs:=oi S 0
 h0:=oi S 9
 ls:=oi S 1
 ts:=uH S 2
 hl:=uH S 8
 nd:=uH S 13
 td:=cr (eI S 3 "told")
 sv:=cr (Bm S 5)
 cv:=cr (Bm S 6)
 W:=bU (eI S 3 "width")
 hf:=bU (eI S 3 "half")
 gd:=bU (eI S 3 "guard")
 n:=bU (eI S 3 "number")
 sd:=bU (Bm S 7)
 ag:=IZ (eI S 3 "again")
 rd:=IZ (eI S 3 "ready")
 j:=UA S 10
noncomputable def cS (ts:List Int):List Int->List Int
 |[]=>[]
 |k::r=>match jF k ts with
  |true=>cS ts r
  |false=>k::cS ts r
def wG (P:Va):Ec:={hV (iY P) 3 with spE:=Rh 333037052 IY 3}
def Bn (P:Va):Ec:=mz (wG P) (hX eK).scope [("taken",4)] 17
def sF (x:KX) (it:O) (ks:List Int) (a:Option Int):List O:=ie x++[it, .list (ks.map V.int), .frame (match a with|none=>[]|some k=>[("k", .int k)])]
abbrev oK (P:Va) (N:Nat):=aZ P (ri P) bZ ce gl N 2
abbrev Bo (P:Va) (N n:Nat) (S:St):Option (Bool×St×List Prop):=nX (oK P N) (Bn P) (aE (oK P N) (n+12) (Bn P)) (hX eK).elt (hX eK).ifs "k" 15 16 S
section
variable (P:Va) (x:KX) (L ks:List Int) (c:Option Int) (i n N:Nat) (orc:List Bool)
theorem UC:Bo P N n ⟨sF x (.datIt (.ints L) i) ks c,UX::UX::orc⟩=UV (UX,⟨ie x++[.datIt (.ints L) (i+1), .list (ks.map V.int++[.int (ay 0 L i)]), .frame [("k", .int (ay 0 L i))]],orc⟩,[decide (i < L.length)=UX,(!jF (ay 0 L i) x.ts)=UX,(ks.map V.int).length<=U9]):=by cases c<;>rfl'
theorem UD:Bo P N n ⟨sF x (.datIt (.ints L) i) ks c,UX::UY::orc⟩=UV (UX,⟨ie x++[.datIt (.ints L) (i+1), .list (ks.map V.int), .frame [("k", .int (ay 0 L i))]],orc⟩,[decide (i < L.length)=UX,(!jF (ay 0 L i) x.ts)=UY]):=by cases c<;>rfl'
theorem UE:Bo P N n ⟨sF x (.datIt (.ints L) i) ks c,UY::orc⟩=UV (UY,⟨sF x .dead ks c,orc⟩,[decide (i < L.length)=UY]):=by cases c<;>rfl'
end
theorem N0 {a:Int} {r:List Int} (h:jF a ts=UX):cS ts (a::r)=cS ts r:=by refine(?_:(match jF a ts with|true=>cS ts r|false=>a::cS ts r)=_);exact ac h rfl
theorem N1 {a:Int} {r:List Int} (h:jF a ts=UY):cS ts (a::r)=a::cS ts r:=by refine(?_:(match jF a ts with|true=>cS ts r|false=>a::cS ts r)=_);exact ac h rfl
theorem Td (xs:List Int) (u:Int):xs.map V.int++[V.int u]=(xs++[u]).map V.int:=ac VZ rfl
theorem N2 (P:Va) (N m:Nat) (x:KX) (r p ks:List Int) (c:Option Int) (k:Nat) (h:r.length < k) (i:ks.length+r.length<=1000) (j:(p++r).length<=1000):∃orc c' ps,
  eY (oK P N) (Bn P) (aE (oK P N) (m+12) (Bn P)) (hX eK).elt (hX eK).ifs "k" 15 16 k ⟨sF x (.datIt (.ints (p++r)) p.length) ks c,orc⟩=UV ((),⟨sF x .dead (ks++cS x.ts r) c',[]⟩,ps)/\ao ps:=by
 induction r generalizing p ks c k with
 |nil=>induction k using WC with
  |zero=>exact absurd h (W7 _)
  |succ k=>exact⟨[UY],c,[decide (p.length < (p++[]).length)=UY],ac (show ks++cS x.ts []=ks from VW ks) (CP (UE P x (p++[]) ks c p.length m N [])),decide_eq_false (abE (Ve (congrArg Xb (VW p)))),trivial⟩
 |cons a r l=>
  induction k using WC with
  |zero=>exact absurd h (W7 _)
  |succ k=>
  have n:ay 0 (p++a::r) p.length=a:=pB p a r;have d:decide (p.length < (p++a::r).length)=UX:=decide_eq_true (ac U8 (aab (Wv _)));have o:(p++[a]).length=p.length+1:=U8;have f:r.length < k:=XK h;induction g:jF a x.ts with
  |true=>obtain⟨orc,c',ps,e,b⟩:=l (p++[a]) ks (UV a) k f (Wy i) (ac (Vi ..) j);rw[Vi,o] at e;have t:=UD P x (p++a::r) ks c p.length m N orc;rw[n] at t;exact(N0 g).symm▸⟨UX::UY::orc,c',_,AS t e,af.mpr ⟨⟨d,ac g rfl,trivial⟩,b⟩⟩
  |false=>obtain⟨orc,c',ps,e,b⟩:=l (p++[a]) (ks++[a]) (UV a) k f (ac U8 (U1 (Ve (VU ..)) i)) (ac (Vi ..) j);rw[Vi,Vi,o] at e;have t:=UC P x (p++a::r) ks c p.length m N orc;rw[n,Td] at t;refine(N1 g).symm▸ ?_;exact⟨UX::UX::orc,c',_,AS t e,af.mpr ⟨⟨d,ac g rfl,by rw[Vy];refine ac VK ?_;exact U1 (U1 (Vm _ _) i) (by decide),trivial⟩,b⟩⟩
def lT (ls:List D) (n:Int):Prop:=aK ls.length n/\dg ls (dM ls.length n)=UV (bH ls n).D
def kT (P:Va):Nat->Ec->Nat->Option (Vs×M V):=λN C n=>match VA n 329021036 with
 |true=>UV (IX,gq C.fid)
 |false=>lK 333025074 eK (λN C=>nh NZ ie (λa=>V.ref 16) (λx=>ie x++[.dead, .ints (cS x.ts (bH x.ls x.n).tk), .dead]) λx=>[C.fid=3,lT x.ls x.n/\(bH x.ls x.n).tk.length<=100/\(bH x.ls x.n).tk.length+30<=N]) N C n
theorem wH {c:Cx} {P:Va} {T:bC} {N:Nat} (b:cp c A (aZ P T bZ ce gl N k)) (d:aI c C Z U) (h0:C.spE 0=UW) (h1:C.spE (nC (.Subscript (.Name "letters" p1) (.Name "number" p2) p3))=UW) (e:kd "letters" C.names=UV .local) (f:kd "number" C.names=UV .local) (hs:∀l,C.spS l=UW) (g:∀l,C.spE l=UW):
  ae c A fz U (gq C.fid) (Wq (.Subscript (.Name "letters" p1) (.Name "number" p2) p3) Z) au:=
 GZ (P:=P) (T:=T) (CL:=bZ) (NM:=ce) (glob:=gl) (N:=N) (k:=k) (λn=>(d5 b n C Z).ev fz U ⟨d,⟨λl a a h=>(by rw[hs] at h;cases h),λl a a h=>(by rw[g] at h;cases h)⟩⟩ _) h0 h1 e f
theorem N3 {c:Cx} {P:Va} {T:bC} {N l:Nat} (i:cp c A (aZ P T bZ ce gl N k)) (b:aI c C Z U) (d:ae c A fz U (gq C.fid) (Wq e Z) au) (hs:∀l,C.spS l=UW):bM c A {C with spE:=Rh l e C.fid} Z fz U:=
 ⟨{b with},⟨λl a a h=>(by rw[hs] at h;cases h),λn f g h=>by cases pF (h:(match VA n l with|true=>UV (e,gq C.fid)|false=>UW)=UV (f,g));exact d⟩⟩
theorem Dv {N L:Nat} (d:cp ((Wz J w).cx g os) A (aZ w.params (ri w.params) bZ ce gl N 2)) (i:aI ((Wz J w).cx g os) (be (iY w.params) [] gl (λb=>bk) (kT w.params N) L) Z U):
  eh ((Wz J w).cx g os) A (be (iY w.params) [] gl (λb=>bk) (kT w.params N) L) Z fz U:=by
 refine⟨λb b b e=>(nomatch e),λn r s h=>?_⟩
 have f:(match VA n 329021036 with
  |true=>UV (IX,gq L)
  |false=>lK 333025074 eK (λN C=>nh NZ ie (λb=>V.ref 16) (λx=>ie x++[.dead, .ints (cS x.ts (bH x.ls x.n).tk), .dead]) λx=>[C.fid=3,lT x.ls x.n/\(bH x.ls x.n).tk.length<=100/\(bH x.ls x.n).tk.length+30<=N]) N (hV (iY w.params) L) n)=UV (r,s):=h
 induction o:VA n 329021036 with
 |true=>simp only[o] at f;obtain⟨rfl,rfl⟩:=o4 f;exact wH (C:=hV (iY w.params) L) d {i with} rfl rfl (by rfl') (by rfl') (λb=>rfl) (λb=>rfl)
 |false=>
  simp only[o] at f;cases pF f;by_cases q:L=3
  ·subst q;refine tw (m2:=bnd ((aE (oK w.params N) N (wG w.params)).ev eK) λv=>bnd (q9 v) λb=>ret v) (λx t=>?_) ((d5 d N (wG w.params) Z).ev fz U (N3 (C:=hV (iY w.params) 3) d {i with} (wH (C:=hV (iY w.params) 3) d {i with} rfl rfl (by rfl') (by rfl') (λb=>rfl) (λb=>rfl):ae ((Wz J w).cx g os) A fz U (gq 3) (Wq IY Z) au) λb=>rfl) eK|>.after (λb b v=>Df v) λb b b b b k h=>h.mono k (U4 _));refine b9 t λb j b=>?_;obtain⟨⟨u,y⟩,z,I⟩:=j;obtain⟨m,rfl⟩:∃m,N=m+13:=⟨N - 13,by lia⟩
   obtain⟨c,B,K,e,l⟩:=N2 w.params (m+13) m x (bH x.ls x.n).tk [] [] UW (m+12) (by lia) (by show 0+_<=_;lia) (by show(bH x.ls x.n).tk.length<=_;exact U1 z (by decide));refine aj (Kz ((show(aE (oK w.params (m+13)) (m+13) (wG w.params)).ev eK ⟨ie x,c⟩=ey (wG w.params) (oK w.params (m+13)) (aE (oK w.params (m+13)) (m+12)) (m+12) (hX eK).elt "k" (hX eK).iter (hX eK).ifs (hX eK).scope (λb=>ret ()) ⟨ie x,c⟩ by rfl').trans (y0 (x:="k") (ifs:=(hX eK).ifs) (scope:=(hX eK).scope) (cl:=[("taken",4)]) (C:=wG w.params) (G:=aE (oK w.params (m+13)) (m+12)) (n:=m+12) (by rfl') (by rfl') (by rfl':bnd ((aE (oK w.params (m+13)) (m+12) (wG w.params)).ev (hX eK).iter) (oK w.params (m+13)).iter ⟨ie x,c⟩=UV (.ref 15,⟨ie x++[.datIt (.ints (bH x.ls x.n).tk) 0],c⟩,[IY=IY,V.ref 1=V.ref 1/\V.int x.n=V.int x.n/\UV (O.dats x.ls)=UV (O.dats x.ls)/\lT x.ls x.n,aK 5 1])) (p4:=[]) (by rfl') e (S3:=⟨ie x++[.dead, .list ((cS x.ts (bH x.ls x.n).tk).map V.int), .dead],[]⟩) (p3:=[]) (by cases B<;>rfl'))) (xs:=cS x.ts (bH x.ls x.n).tk) rfl (af.mpr ⟨⟨rfl,⟨rfl,rfl,rfl,u,y⟩,⟨by decide,by decide⟩,trivial⟩,af.mpr ⟨trivial,af.mpr ⟨l,trivial⟩⟩⟩)) λD E F=>?_;exact⟨c,[],D,E,F⟩
  ·intro S a M p e H;cases e;exact absurd H.2.1 q
structure Hd where
 n:Int
 c:V3
def Hd.D (h:Hd):D:= .tup [.int h.n, .ints h.c.l]
structure EX where
 n:Int
 nd:List Int
 td:List Int
 rd:Bool
 cv:List Int
 sd:Int
noncomputable def fZ (W:Int):Int:=2^(W - 1).toNat
def I0 (W:Int):Int:=ek W [fZ W,fZ W,fZ W]
noncomputable def UF:Option EX->List (Vb×V)
 |none=>[]
 |some e=>[("number", .int e.n),("need", .dat (.ints e.nd)),("told", .dat (.ints e.td)),("ready", .bool e.rd)]
noncomputable def UG:Option EX->Option V
 |none=>UW
 |some e=>UV (.dat (.ints e.cv))
noncomputable def UH:Option EX->Option V
 |none=>UW
 |some e=>UV (.int e.sd)
noncomputable def wI (L:List D) (W:Int) (hs:List D) (ts v:List Int) (ag:Bool) (ex:Option EX) (a:List O):List O:=[.dats hs, .dats L, .ints ts, .frame (([("held", .ref 0),("letters", .ref 1),("width", .int W),("half", .int (fZ W)),("guard", .int (I0 W)),("again", .bool ag)]:List (Vb×V))++UF ex),
 .cell (UV (.ref 2)), .cell (UV (.dat (.ints v))), .cell (UG ex), .cell (UH ex), .fro (.ints [fZ W,fZ W,fZ W])]++a
def fy (P:Va):Ec:=be (iY P) [] gl (λa=>bk) (kT P 60) 3
def Bp (C:Ec) (F:bP) (t:Vs) (i:Nat) (b:List VY) (v:V):M (Option Fl):=bnd (jB i) λa=>bnd (F.asg t v) λa=>bnd (iy C.trim (F.exs b)) λf=>ret (kM f)
theorem tD {o:dU} {t:Vs} {i:Nat} {b e:List VY} {S:St} {r:Option Fl} {p q:List Prop} (h1:o.nxt i S=UV (UV v,S1,p)) (h2:Bp C F t i b v S1=UV (r,S2,q)):gZ C o F t i b e S=UV (r,S2,p++q):=aJ h1 h2
abbrev rT (P:Va) (n:Nat) (v:V) (S:St):=Bp (fy P) (aE (oK P 60) (n+30) (fy P)) (aU j8) 10 rj v S
noncomputable def Dw (v:V3):Nat->List Int
 |0=>[v.a+1,v.b+0,v.c+0]
 |1=>[v.a+0,v.b+1,v.c+0]
 |_=>[v.a+0,v.b+0,v.c+1]
def lU (W:Int) (v c:V3) (i:Nat):Int:=ek W (Dw v i)+I0 W - ek W c.l
def kU (W:Int) (v c:V3) (i:Nat):List Int:=cV (lU W v c i).toNat W.toNat 3
def rk (W:Int) (v c:V3) (i:Nat) (sd:Int):Bool:=decide (ay 0 (kU W v c i) (dM (kU W v c i).length sd)=fZ W)
def oX (W:Int) (v c:V3) (i:Nat):Bool:=decide (fZ W<=gA (kU W v c i))
def N4 (L:List D) (W:Int) (v:V3) (h:Hd) (i:Nat) (rd:Bool):EX:=⟨h.n,Dw v i,kU W v h.c i,rd,h.c.l,(bH L h.n).s⟩
noncomputable def N5 (i:Nat):List Bool:=match i with
 |0=>[UX,UX,UX,UY,UX,UY,UY]
 |1=>[UX,UY,UX,UX,UX,UY,UY]
 |_=>[UX,UY,UX,UY,UX,UX,UY]
noncomputable def iZ (i x:Nat):Bool:=VA i x
noncomputable def UI (sd:Int) (i:Nat):List Prop:=[UX=UX,UX=UX,aK 3 0,decide ((0:Int)=sd)=iZ i 0,(0:Nat)<=U9,UX=UX,aK 3 1,decide ((1:Int)=sd)=iZ i 1,(1:Nat)<=U9,UX=UX,aK 3 2,decide ((2:Int)=sd)=iZ i 2,(2:Nat)<=U9,UY=UY]
def I1 (W:Int) (l:List Int):Prop:=[V.dat (.ints l), .int W]=[V.dat (.ints l), .int W]/\([]:List O)=[]/\l.length=3/\0<=W/\W<=100/\(ay 0 l 0).natAbs < 2^100/\(ay 0 l 1).natAbs < 2^100/\(ay 0 l 2).natAbs < 2^100
def UJ (W a:Int):Prop:=[V.int a, .int W]=[V.int a, .int W]/\([]:List O)=[]/\0<=a/\1<=W/\W<=100/\a.natAbs < 2^1000/\cP a W=3/\3 < 10
def pN (L:List D) (W:Int) (v:V3) (h:Hd) (i:Nat) (b:Bool):List Prop:=[IX=IX,V.ref 1=V.ref 1/\V.int h.n=V.int h.n/\UV (O.dats L)=UV (O.dats L)/\lT L h.n,aK 5 0]++(UI (bH L h.n).s i++[I1 W (Dw v i),I1 W h.c.l,UJ W (lU W v h.c i),aK (kU W v h.c i).length (bH L h.n).s,rk W v h.c i (bH L h.n).s=b])
def Ri (L:List D) (W:Int) (hs h0:List D) (ts:List Int) (v:V3) (ag:Bool) (h:Hd) (i:Nat) (rd:Bool) (j:Nat):KX:=⟨hs,h0,L,ts,[fZ W,fZ W,fZ W],Dw v i,kU W v h.c i,v.l,h.c.l,W,fZ W,I0 W,h.n,(bH L h.n).s,ag,rd,j⟩
def pO (L:List D) (W:Int) (hs h0:List D) (ts:List Int) (v:V3) (ag:Bool) (h:Hd) (i:Nat) (rd b:Bool) (j:Nat):List Prop:=[eK=eK,ie (Ri L W hs h0 ts v ag h i rd j)=ie (Ri L W hs h0 ts v ag h i rd j),(3:Nat)=3,lT L h.n/\(bH L h.n).tk.length<=100/\(bH L h.n).tk.length+30<=60,(0:Nat)<=U9,
 VP (eP UX ((cS ts (bH L h.n).tk).map XY))=UX/\UX=UX,(rd !=eO (cS ts (bH L h.n).tk) [])=UY,rd=b]
def wJ (v c:V3):V3:=⟨gz v.a c.a,gz v.b c.b,gz v.c c.c⟩
def N6 (h:Hd) (hs:List D) (ts:List Int):List Prop:=[(2:Nat)<=U9,Av h.n h.c.l hs,ts.length<=U9,UX=UX,UX=UX,aK 3 0,aK 3 0,(0:Nat)<=U9,UX=UX,aK 3 1,aK 3 1,(1:Nat)<=U9,UX=UX,aK 3 2,aK 3 2,(2:Nat)<=U9,UY=UY]
section
variable (P:Va) (L hs h0:List D) (W:Int) (ts:List Int) (v:V3) (h:Hd) (ex:Option EX) (ag:Bool) (j n:Nat) (o:List Bool)
theorem N7 {i:Nat} (hi:i < 3):rT P n (.dat h.D) ⟨wI L W hs ts v.l ag ex [.dats h0, .listIt 9 j],N5 i++[UY,UY,UY]++o⟩=UV (UW,⟨wI L W hs ts v.l ag (UV (N4 L W v h i (rk W v h.c i (bH L h.n).s))) [.dats h0, .listIt 9 j],o⟩,pN L W v h i UY++pO L W hs h0 ts v ag h i (rk W v h.c i (bH L h.n).s) UY j):=by refine yc hi ?_ ?_ ?_<;>cases ex<;>rfl'
theorem N8 {i:Nat} (hi:i < 3):rT P n (.dat h.D) ⟨wI L W hs ts v.l ag ex [.dats h0, .listIt 9 j],N5 i++[UX,UY,UY]++o⟩=UV (UW,⟨wI L W hs ts v.l ag (UV (N4 L W v h i (oX W v h.c i))) [.dats h0, .listIt 9 j],o⟩,pN L W v h i UX++([0 < (kU W v h.c i).length]++pO L W hs h0 ts v ag h i (oX W v h.c i) UY j)):=by refine yc hi ?_ ?_ ?_<;>cases ex<;>rfl'
theorem N9 {i:Nat} (hi:i < 3):rT P n (.dat h.D) ⟨wI L W hs ts v.l ag ex [.dats h0, .listIt 9 j],N5 i++[UX,UY,UX,UX,UX,UX,UY]++o⟩=UV (UW,⟨wI L W (mS h.n h.c.l hs) (ts++[h.n]) (wJ v h.c).l UX (UV (N4 L W v h i (oX W v h.c i))) [.dats h0, .listIt 9 j],o⟩,pN L W v h i UX++([0 < (kU W v h.c i).length]++(pO L W hs h0 ts v ag h i (oX W v h.c i) UX j++N6 h hs ts))):=by refine yc hi ?_ ?_ ?_<;>cases ex<;>rfl'
end
end
end
variable {Ls:List Lr}
section
noncomputable def dP (n:Nat):List Nat->Nat
 |[]=>0
 |d::r=>dP n r*2^n+d
theorem Te {n v d:Nat} (h:d < 2^n):ji (v*2^n+d) n 0=d:=by unfold ji;simp only[ZA,Nat.pow_zero,Nat.div_one,Wi,Nat.add_mul_mod_self_right,Nat.mod_eq_of_lt h]
theorem Tf {n v d:Nat} (h:d < 2^n):ji (v*2^n+d) n (j+1)=ji v n j:=by unfold ji;simp only[YE,XD,Wi (j*n),XC,<-acV,Wi (v*2^n),Nat.add_mul_div_right _ _ (Xs n),Nat.div_eq_of_lt h,aat]
theorem wK {n:Nat}:∀{ds:List Nat},(∀d∈ds,d < 2^n)->(V9 ds.length).map (ji (dP n ds) n)=ds
 |[],_=>rfl
 |d::r,h=>by refine ac VB ?_;refine ac List.range_succ_eq_map ?_;refine ac Wa ?_;refine ac Yg ?_;have h0:=h d (.head _);refine(?_:ji (dP n r*2^n+d) n 0::_=_);exact ac (Te h0) (congrArg (d::·) ((W9 λj a=>Tf h0).trans (wK (ds:=r) λx b=>h x (.tail _ b))))
theorem wL {n:Nat} {ds:List Nat} (h:∀d∈ds,d < 2^n):cV (dP n ds) n ds.length=ds.map λj:Nat=>(j:Int):=by unfold cV;exact ac (wK h) rfl
theorem wM {n:Nat}:∀{ds:List Nat},(∀d∈ds,d < 2^n)->dP n ds < 2^(ds.length*n)
 |[],_=>Xs _
 |d::r,h=>by simp only[VB,YE,XD,XC];refine(?_:dP n r*2^n+d < _);have a:(dP n r+1)*2^n<=2^(r.length*n)*2^n:=Xw _ (wM (ds:=r) λx b=>h x (.tail _ b));simp only[YE,XD] at a;exact Vq (adv (h d (.head _)) _) a
theorem wN {x n:Nat} (c:0 < n) (h1:x < 2^((k+1)*n)) (h2:2^(k*n)<=x):cP (x:Int) (n:Int)=((k+1:Nat):Int):=by
 have a:x≠0:=λh=>by subst h;exact absurd (Xs (k*n)) (Nat.not_lt.mpr h2)
 have b:U5 (x:Int)=x.log2+1:=by unfold U5;refine ac (if_neg (by simpa using a)) ?_;rfl
 have d:x.log2 < (k+1)*n:=(abN a).mpr h1;have e:k*n<=x.log2:=(Nat.le_log2 a).mpr h2;unfold cP;refine ac b (ac (Wj _ (by lia)) ?_);have h0:(0:Int) < n:=by lia
 refine Int.le_antisymm (Zf (Int.ediv_lt_of_lt_mul h0 ?_)) ((Int.le_ediv_iff_mul_le h0).mpr ?_)
 ·have:((k:Int)+1+1)*n=(((k+1)*n:Nat):Int)+n:=by push_cast;rw[ZS,ZR]
  push_cast;refine ac this ?_;lia
 ·have:((k:Int)+1)*n=((k*n:Nat):Int)+n:=by push_cast;simp only[ZS,ZR]
  push_cast;refine ac this ?_;lia
theorem sG (n:Nat):∀ds:List Nat,ek (n:Int) (ds.map λj:Nat=>(j:Int))=((dP n ds:Nat):Int)
 |[]=>rfl
 |d::r=>by refine(?_:ek (n:Int) (r.map λj:Nat=>(j:Int))*2^n+(d:Int)=((dP n r*2^n+d:Nat):Int));refine ac (sG n r) ?_;push_cast;rfl
theorem Tg (P a b c h x y z:Int):(((0*P+c)*P+b)*P+a)+(((0*P+h)*P+h)*P+h) - (((0*P+z)*P+y)*P+x)=((0*P+(c+h - z))*P+(b+h - y))*P+(a+h - x):=by simp only[ZS,Int.sub_mul,Int.zero_mul,aar];lia
def V3.ok (v:V3):Prop:=(0<=v.a/\v.a<=1000000)/\(0<=v.b/\v.b<=1000000)/\0<=v.c/\v.c<=1000000
noncomputable def bh (v:V3):Nat->V3
 |0=>⟨v.a+1,v.b+0,v.c+0⟩
 |1=>⟨v.a+0,v.b+1,v.c+0⟩
 |_=>⟨v.a+0,v.b+0,v.c+1⟩
theorem Oa (v:V3) (i:Nat):Dw v i=(bh v i).l:=by
 match i with
 |0=>rfl
 |1=>rfl
 |_+2=>rfl
theorem Bq {h:Nat} {x c:Int} (a:N=2*h) (hl:2097152<=h) (n:x<=1000001) (b:0<=c):(x+h - c).toNat < N:=by lia
theorem Ob {v h c:Int}:v+1+h - c=h↔c=v+1:=by lia
theorem Oc {x h c:Int}:h<=x+h - c↔c<=x:=by lia
theorem za {x:Int} (a:0<=x) (b:x<=1000000):0<=x+0/\x+0<=1000001:=ac (ZB x) ⟨a,VM b (by decide)⟩
theorem Dx {x c:Int} {h:Nat} (hl:2097152<=h) (a:0<=x) (b:c<=1000000):1<=x+h - c:=by lia
theorem I3 {v:V3} (h:v.ok) (i:Nat):(0<=(bh v i).a/\(bh v i).a<=1000001)/\(0<=(bh v i).b/\(bh v i).b<=1000001)/\0<=(bh v i).c/\(bh v i).c<=1000001:=by
 refine pZ h λd e f g=>?_;obtain⟨j,k⟩:=d;obtain⟨l,m⟩:=e
 match i with
 |0=>exact⟨⟨aco j,X8 k 1⟩,za l m,za f g⟩
 |1=>exact⟨za j k,⟨aco l,X8 m 1⟩,za f g⟩
 |_+2=>exact⟨za j k,za l m,aco f,X8 g 1⟩
theorem sH {n:Nat} (s:22<=n) {v c:V3} (w:v.ok) (x:c.ok) (i:Nat):∃h:Nat,fZ (n:Int)=(h:Int)/\2097152<=h/\kU (n:Int) v c i=[(bh v i).a+h - c.a,(bh v i).b+h - c.b,(bh v i).c+h - c.c]/\0<=lU (n:Int) v c i/\(lU (n:Int) v c i).natAbs < 2^(3*n)/\cP (lU (n:Int) v c i) (n:Int)=3:=by
 have o:2^n=2*2^(n - 1):=by
  conv=>lhs;rw[show n=(n - 1)+1 from(Wm (U1 (by decide) s)).symm]
  simp only[aaq,aas]
 have f:2097152<=2^(n - 1):=U1 (by decide:2097152<=2^21) (WP (by decide) (by exact adm s));have p:fZ (n:Int)=((2^(n - 1):Nat):Int):=by unfold fZ;rw[show((n:Int) - 1).toNat=n - 1 by exact Xd _ 1];push_cast;rfl
 generalize 2^(n - 1)=h at o f p;refine pZ (I3 w i) λg l q y=>?_;obtain⟨z,A⟩:=g;obtain⟨B,C⟩:=l;refine pZ x λg l D r=>?_;obtain⟨E,F⟩:=g;obtain⟨G,H⟩:=l;have e:lU (n:Int) v c i=ek (n:Int) [(bh v i).a+h - c.a,(bh v i).b+h - c.b,(bh v i).c+h - c.c]:=by unfold lU I0;rw[Oa];refine ac p ?_;exact Tg _ _ _ _ _ _ _ _
 have t:[(bh v i).a+h - c.a,(bh v i).b+h - c.b,(bh v i).c+h - c.c]=[((bh v i).a+h - c.a).toNat,((bh v i).b+h - c.b).toNat,((bh v i).c+h - c.c).toNat].map λj:Nat=>(j:Int):=by simp only[Wa,acH];exact ac (VN (Ww (Dx f z F))) (ac (VN (Ww (Dx f B H))) (ac (VN (Ww (Dx f q r))) rfl))
 have m:∀d∈[((bh v i).a+h - c.a).toNat,((bh v i).b+h - c.b).toNat,((bh v i).c+h - c.c).toNat],d < 2^n:=by
  intro d m;simp only[WJ,Z6,or_false] at m;rcases m with rfl|rfl|rfl
  ·exact Bq o f A E
  ·exact Bq o f C G
  ·exact Bq o f y D
 simp only[t,sG] at e;have u:=wM m;refine(Uh h p f ?_ (by rw[e];exact Vp _) (by rw[e];exact u) ?_)
 ·unfold kU;simp only[e,Vx,Vx,t];exact wL m
 ·rw[e];refine wN (k:=2) (by lia) u ?_;refine(?_:2^(2*n)<=((0*2^n+((bh v i).c+h - c.c).toNat)*2^n+_)*2^n+_);simp only[Nat.two_mul,XC];have I:2^n*2^n<=((0*2^n+((bh v i).c+h - c.c).toNat)*2^n+((bh v i).b+h - c.b).toNat)*2^n:=Xw _ (by exact U1 (Ve (XD _).symm) (U1 (Xw _ (U1 ((Int.le_toNat (Ww (Dx f q r))).mpr (Dx f q r)) (Wp _ _)):1*2^n<=(0*2^n+((bh v i).c+h - c.c).toNat)*2^n) (Vm _ _)));exact U1 I (Vm _ _)
noncomputable def V3.at (v:V3):Nat->Int
 |0=>v.a
 |1=>v.b
 |_=>v.c
noncomputable def sI (v c:V3) (i:Nat):Bool:=decide (c.at i=v.at i+1/\c.a<=(bh v i).a/\c.b<=(bh v i).b/\c.c<=(bh v i).c)
structure PS where
 hs:List Hd
 ts:List Int
 v:V3
 ag:Bool
noncomputable def iG (h:Hd):List Hd->List Hd
 |[]=>[]
 |d::r=>match decide (d.n=h.n)&&eO d.c.l h.c.l with
  |true=>r
  |false=>d::iG h r
theorem zb (h:Hd):∀hs:List Hd,mS h.n h.c.l (hs.map Hd.D)=(iG h hs).map Hd.D
 |[]=>rfl
 |d::r=>by refine(?_:(match decide (d.n=h.n)&&eO d.c.l h.c.l with|true=>r.map Hd.D|false=>d.D::mS h.n h.c.l (r.map Hd.D))=_);refine ac (zb h r) (?_:_=(match decide (d.n=h.n)&&eO d.c.l h.c.l with|true=>r|false=>d::iG h r).map Hd.D);cases decide (d.n=h.n)&&eO d.c.l h.c.l<;>rfl
def wO (L:List D) (h:Hd):Nat:=(bH L h.n).s.toNat
noncomputable def iH (L:List D) (p:PS) (h:Hd):Bool:=sI p.v h.c (wO L h)
def fP (L:List D) (p:PS) (h:Hd):PS:=match iH L p h with
 |true=>⟨iG h p.hs,p.ts++[h.n],wJ p.v h.c,UX⟩
 |false=>p
structure kW (L:List D) (p:PS) (h:Hd):Prop where
 vw:lT L h.n
 s:0<=(bH L h.n).s/\(bH L h.n).s < 3
 tk:(bH L h.n).tk.length<=20
 v:p.v.ok
 c:h.c.ok
 ts:p.ts.length<=100
 hs:p.hs.length<=100
 mem:h∈p.hs
 law:iH L p h=(cS p.ts (bH L h.n).tk).isEmpty
theorem zc (l:List Int):eO l []=l.isEmpty:=by cases l<;>rfl
theorem jQ:∀l:List Int,eO l l=UX
 |[]=>rfl
 |a::r=>by show(decide (a=a)&&eO r r)=UX;refine ac (decide_eq_true rfl) (ac (jQ r) ?_);rfl
theorem iI (l:List Int):VP (eP UX (l.map XY))=UX:=by
 have c:∀l:List Int,YD (l.map XY)=UX:=λl=>by
  induction l with
  |nil=>rfl
  |cons a r b=>simp[YD,Zw,b]
 have d:∀l:List Int,Za (l.map XY)=0:=λl=>by
  induction l with
  |nil=>rfl
  |cons a r b=>simp[Za,Z5,b]
 unfold VP eP;simp[Zw,Z5,c,d]
theorem I4 {n:Nat} {v:V3} (e:n<=100) (h:(0<=v.a/\v.a<=1000001)/\(0<=v.b/\v.b<=1000001)/\0<=v.c/\v.c<=1000001):I1 (n:Int) v.l:=by have b:∀x:Int,0<=x->x<=1000001->x.natAbs < 2^100:=λx h0 d=>Vl (show x.natAbs<=1000001 from Int.ofNat_le.mp (ac (adn h0) d)) (by decide);exact⟨rfl,rfl,rfl,by lia,by lia,b _ h.1.1 h.1.2,b _ h.2.1.1 h.2.1.2,b _ h.2.2.1 h.2.2.2⟩
theorem Th (x y z m:Int):m<=gA [x,y,z]↔m<=x/\m<=y/\m<=z:=by
 refine aN (vp (ns:=[x,y,z]) (Wv _)) λf d=>?_;constructor
 ·intro h;exact⟨VM h (d x (.head _)),VM h (d y (.tail _ (.head _))),VM h (d z (.tail _ (.tail _ (.head _))))⟩
 ·rintro⟨a,b,c⟩;simp only[WJ,Z6,or_false] at f;rcases f with e|e|e<;>rw[e]<;>assumption
theorem Qm {n:Nat} (g:22<=n) {v c:V3} (j:v.ok) (k:c.ok) (hi:i < 3):rk (n:Int) v c i (i:Int)=decide (c.at i=v.at i+1)/\oX (n:Int) v c i=decide (c.a<=(bh v i).a/\c.b<=(bh v i).b/\c.c<=(bh v i).c):=by
 refine fA (sH g j k i) λh e d f d=>?_;constructor
 ·dsimp only[rk];refine ac f ?_;refine ac e ?_;rcases(oV hi) with rfl|rfl|rfl
  ·show decide (v.a+1+h - c.a=h)=decide (c.a=v.a+1);congr 1;apply propext;exact Ob
  ·show decide (v.b+1+h - c.b=h)=decide (c.b=v.b+1);congr 1;apply propext;exact Ob
  ·show decide (v.c+1+h - c.c=h)=decide (c.c=v.c+1);congr 1;apply propext;exact Ob
 ·unfold oX;refine ac f ?_;refine ac e ?_;congr 1;apply propext;simp only[Th];exact and_congr Oc (and_congr Oc Oc)
theorem Dz {L:List D} {n:Nat} (m:22<=n/\n<=100) {p:PS} {h:Hd} (k:kW L p h) (hi:i < 3) (hs:(bH L h.n).s=(i:Int)) (t:rk (n:Int) p.v h.c i (i:Int)=b):ao (pN L (n:Int) p.v h i b):=by
 refine QQ (sH m.1 k.v k.c i) λg g g u w y z=>?_;have j:∀x:Nat,decide ((x:Int)=(i:Int))=iZ i x:=λx=>by
  simp only[iZ];refine(Y2 (x=i)).elim (λl=>?_) λl=>?_
  ·cases l;refine ac (decide_eq_true rfl) ?_;rw[abh]
  ·refine ac (decide_eq_false (by lia)) ?_;induction A:VA i x with
   |true=>exact absurd (VI A).symm l
   |false=>rfl
 have o:∀x:Nat,x < 3->aK 3 (x:Int):=λx l=>⟨l,by lia⟩
 refine af.mpr ⟨⟨rfl,⟨rfl,rfl,rfl,k.vw⟩,⟨by decide,by decide⟩,trivial⟩,af.mpr ⟨?_,?_⟩⟩
 ·exact(hs).symm▸⟨rfl,rfl,o 0 (by decide),j 0,by decide,rfl,o 1 (by decide),j 1,by decide,rfl,o 2 (by decide),j 2,by decide,rfl,trivial⟩
 ·refine⟨Oa p.v i▸I4 m.2 (I3 k.v i),I4 m.2 ?_,⟨rfl,rfl,w,by lia,by lia,Vq y (WP (by decide) (by lia)),z,by decide⟩,by simp only[u,hs];exact(⟨hi,by lia⟩:aK 3 (i:Int)),(hs).symm▸t,trivial⟩;refine pZ k.c λq r e f=>?_;obtain⟨a,b⟩:=q;obtain⟨c,d⟩:=r;exact⟨⟨a,by lia⟩,⟨c,by lia⟩,e,by lia⟩
theorem wP {L hs h0:List D} {n:Nat} {p:PS} {h:Hd} (k:kW L p h) {ag rd:Bool} (h1:rd=iH L p h) (h2:rd=b):ao (pO L (n:Int) hs h0 p.ts p.v ag h i rd b j):=by have:=k.tk;exact⟨rfl,rfl,rfl,⟨k.vw,by lia,by lia⟩,by decide,⟨iI _,rfl⟩,by simp only[h1,k.law,zc];cases (cS p.ts (bH L h.n).tk).isEmpty<;>rfl,h2,trivial⟩
abbrev bK (L:List D) (n:Nat) (p:PS) (ex:Option EX) (a:List O):List O:=wI L (n:Int) (p.hs.map Hd.D) p.ts p.v.l p.ag ex a
theorem Od {L:List D} {p:PS} {h:Hd} (k:kW L p h):ao (N6 h (p.hs.map Hd.D) p.ts):=by
 have b:∀x:Nat,x < 3->aK 3 (x:Int):=λx g=>⟨g,by lia⟩
 have j:=k.hs;have m:=k.ts;refine⟨by decide,⟨λd i=>?_,⟨h.D,List.mem_map.mpr (aA h k.mem rfl),?_⟩,by rw[Vy];lia⟩,by refine ac VK ?_;lia,rfl,rfl,b 0 (by decide),b 0 (by decide),by decide,rfl,b 1 (by decide),b 1 (by decide),by decide,rfl,b 2 (by decide),b 2 (by decide),by decide,rfl,trivial⟩
 ·refine aj (List.mem_map.mp i) λe a f=>(f▸ ?_)
  exact(sU e.n e.c.l rfl)
 ·refine(?_:(decide (h.n=h.n)&&eO h.c.l h.c.l)=UX);simp only[decide_eq_true rfl,jQ];rfl
theorem G0 (P:Va) (m:Nat) {L:List D} {n:Nat} (l:22<=n/\n<=100) {p:PS} {h:Hd} (k:kW L p h) (ex:Option EX) (h0:List D) (j:Nat):
  ∃q pre nds,(∀o,rT P m (.dat h.D) ⟨bK L n p ex [.dats h0, .listIt 9 j],pre++o⟩=UV (UW,⟨bK L n (fP L p h) q [.dats h0, .listIt 9 j],o⟩,nds))/\ao nds:=by
 obtain⟨i,g⟩:∃i:Nat,(bH L h.n).s=(i:Int):=⟨(bH L h.n).s.toNat,(VN k.s.1).symm⟩
 have d:i < 3:=by have:=k.s.2;lia
 refine aN (Qm l.1 k.v k.c d) λw x=>(fA (sH l.1 k.v k.c i) λa a a y a=>?_)
 have r:0 < (kU (n:Int) p.v h.c i).length:=ac y (Wv _)
 have b:iH L p h=(rk (n:Int) p.v h.c i (i:Int)&&oX (n:Int) p.v h.c i):=by unfold iH sI;simp only[(by unfold wO;refine ac g ?_;rfl:wO L h=i),w,x,<-Bool.decide_and]
 induction e:rk (n:Int) p.v h.c i (i:Int) with
 |false=>
  simp only[e,ab5] at b;have st:fP L p h=p:=by unfold fP;rw[b]
  exact ac st ⟨_,_,_,λo=>N7 P L _ h0 n p.ts p.v h ex p.ag j m o d,(af.mpr ⟨Dz l k d g e,wP k (ac g (ac e (ac b rfl))) (ac g (ac e rfl))⟩:ao (pN L (n:Int) p.v h i UY++pO L (n:Int) (p.hs.map Hd.D) h0 p.ts p.v p.ag h i (rk (n:Int) p.v h.c i (bH L h.n).s) UY j))⟩
 |true=>
  simp only[e,Bool.true_and] at b;have u:=Dz l k d g e;induction f:oX (n:Int) p.v h.c i with
  |false=>simp only[f] at b;exact ac (by unfold fP;rw[b]:fP L p h=p) (Lj _ _ _ (λo=>N8 P L _ h0 n p.ts p.v h ex p.ag j m o d) (af.mpr ⟨u,af.mpr ⟨⟨r,trivial⟩,wP k (ac f (ac b rfl)) f⟩⟩:ao (pN L (n:Int) p.v h i UX++([0 < (kU (n:Int) p.v h.c i).length]++pO L (n:Int) (p.hs.map Hd.D) h0 p.ts p.v p.ag h i (oX (n:Int) p.v h.c i) UY j))))
  |true=>simp only[f] at b;refine ac (by unfold fP;rw[b]:fP L p h=⟨iG h p.hs,p.ts++[h.n],wJ p.v h.c,UX⟩) ?_;exact(Lj _ _ _ (λo=>(by have t:=N9 P L (p.hs.map Hd.D) h0 n p.ts p.v h ex p.ag j m o d;simp only[zb] at t;exact t)) (af.mpr ⟨u,af.mpr ⟨⟨r,trivial⟩,af.mpr ⟨wP k (ac f (ac b rfl)) f,Od k⟩⟩⟩:ao (pN L (n:Int) p.v h i UX++([0 < (kU (n:Int) p.v h.c i).length]++(pO L (n:Int) (p.hs.map Hd.D) h0 p.ts p.v p.ag h i (oX (n:Int) p.v h.c i) UX j++N6 h (p.hs.map Hd.D) p.ts)))))
section
section
variable (P:Va) {L:List D} {n:Nat}
theorem Oe (p:PS) (ex:Option EX) (a:List D) (j:Nat) (o:List Bool) (h:dg a j=UV d):(oK P 60).nxt 10 ⟨bK L n p ex [.dats a, .listIt 9 j],o⟩=UV (UV (eA d),⟨bK L n p ex [.dats a, .listIt 9 (j+1)],o⟩,[]):=by
 have b:(SV.ds a).nx j ⟨bK L n p ex [.dats a, .listIt 9 j],o⟩=UV (UV (eA d),⟨bK L n p ex [.dats a, .listIt 9 j],o⟩,[]):=by unfold SV.nx;dsimp only;refine ac h ?_;rfl
 exact(show(oK P 60).nxt 10 ⟨bK L n p ex [.dats a, .listIt 9 j],o⟩=bnd (look (.ref 9)) (λr=>match r.1 with|true=>bnd (r.2.nx j) (fE 10 (.listIt 9 (j+1)))|false=>fail) ⟨bK L n p ex [.dats a, .listIt 9 j],o⟩ by rfl').trans (aJ (by rfl':look (.ref 9) ⟨bK L n p ex [.dats a, .listIt 9 j],o⟩=UV ((UX, .ds a),⟨bK L n p ex [.dats a, .listIt 9 j],o⟩,[])) (aJ b (by rfl':fE 10 (.listIt 9 (j+1)) (UV (eA d)) ⟨bK L n p ex [.dats a, .listIt 9 j],o⟩=UV (UV (eA d),⟨bK L n p ex [.dats a, .listIt 9 (j+1)],o⟩,[]))))
theorem KF (p:PS) (ex:Option EX) (a:List D) (j:Nat) (o:List Bool) (h:dg a j=UW):(oK P 60).nxt 10 ⟨bK L n p ex [.dats a, .listIt 9 j],o⟩=UV (UW,⟨bK L n p ex [.dats a, .dead],o⟩,[]):=by
 have b:(SV.ds a).nx j ⟨bK L n p ex [.dats a, .listIt 9 j],o⟩=UV (UW,⟨bK L n p ex [.dats a, .listIt 9 j],o⟩,[]):=by unfold SV.nx;dsimp only;refine ac h ?_;rfl
 exact(show(oK P 60).nxt 10 ⟨bK L n p ex [.dats a, .listIt 9 j],o⟩=bnd (look (.ref 9)) (λr=>match r.1 with|true=>bnd (r.2.nx j) (fE 10 (.listIt 9 (j+1)))|false=>fail) ⟨bK L n p ex [.dats a, .listIt 9 j],o⟩ by rfl').trans (aJ (by rfl':look (.ref 9) ⟨bK L n p ex [.dats a, .listIt 9 j],o⟩=UV ((UX, .ds a),⟨bK L n p ex [.dats a, .listIt 9 j],o⟩,[])) (aJ b (by rfl':fE 10 (.listIt 9 (j+1)) UW ⟨bK L n p ex [.dats a, .listIt 9 j],o⟩=UV (UW,⟨bK L n p ex [.dats a, .dead],o⟩,[]))))
def kX (L:List D):PS->List Hd->Prop
 |_,[]=>True
 |p,h::r=>kW L p h/\kX L (fP L p h) r
theorem KG (f:α->β) (a:List α) (x:α) (r:List α):dg ((a++x::r).map f) a.length=UV (f x):=by rw[eF,VZ,VS (by rw[Vy];exact Vr _),Vy,WU];rfl
theorem KH (f:α->β) (a:List α):dg (a.map f) a.length=UW:=by rw[eF];exact Ws (by rw[Vy];exact Vr _)
theorem DA (q:22<=n/\n<=100) (r a:List Hd) (p:PS) (ex:Option EX) (k:Nat) (i:kX L p r) (j:r.length<=k):∃c pre nds,
  (∀rest,(aE (oK P 60) (k+31) (fy P)).fl (aU j8) 10 rj [] ⟨bK L n p ex [.dats ((a++r).map Hd.D), .listIt 9 a.length],pre++rest⟩=UV (.next,⟨bK L n (r.foldl (fP L) p) c [.dats ((a++r).map Hd.D), .dead],rest⟩,nds))/\ao nds:=by
 induction r generalizing a p ex k with
 |nil=>have h:=λrest=>KF P (L:=L) (n:=n) p ex ((a++[]).map Hd.D) a.length rest (by rw[VW];exact KH _ a);have t:∀rest,gZ (fy P) (oK P 60) (aE (oK P 60) (k+30) (fy P)) (aU j8) 10 rj [] ⟨bK L n p ex [.dats ((a++[]).map Hd.D), .listIt 9 a.length],rest⟩=UV (UV .next,⟨bK L n p ex [.dats ((a++[]).map Hd.D), .dead],rest⟩,[]++[]):=λrest=>aJ (h rest) (by rfl');exact⟨ex,[],[]++[],λrest=>mW (t rest),trivial⟩
 |cons h r s=>
  induction k using WC with
  |zero=>exact absurd j (Zd _)
  |succ k=>
  refine mn (G0 P (k+1) q i.1 ex ((a++h::r).map Hd.D) (a.length+1)) λf pre nds e g=>(mn (s (a++[h]) (fP L p h) f k i.2 (XK j)) λc b l m d=>?_)
  rw[Vi,U8] at m;exact⟨c,pre++b,_,λrest=>by rw[Vi];exact qT (tD ((λo=>Oe P (L:=L) (n:=n) p ex ((a++h::r).map Hd.D) a.length o (KG Hd.D a h r)) _) (e (b++rest))) (m rest),af.mpr ⟨af.mpr ⟨(show ao [] from trivial),g⟩,d⟩⟩
theorem Qn (p:PS) (ex:Option EX) (k:Nat) (o:List Bool):(aE (oK P 60) (k+10) (fy P)).ex (aw (cL ip) 0) ⟨bK L n p ex [],o⟩=UV (.next,⟨bK L n {p with ag:=UY} ex [],o⟩,[]):=by cases ex<;>rfl'
theorem Ti (p:PS) (ex:Option EX) (k:Nat) (o:List Bool):bnd ((aE (oK P 60) (k+10) (fy P)).ev (uU j8)) (oK P 60).iter ⟨bK L n p ex [],o⟩=UV (.ref 10,⟨bK L n p ex [.dats (p.hs.map Hd.D), .listIt 9 0],o⟩,[(p.hs.map Hd.D).length<=U9]):=by cases ex<;>rfl'
theorem Qo (p:PS) (ex:Option EX) (b:List D) (o:List Bool):(bnd (HK P 9 .next) λf=>bnd (qd P 9 9) λa=>zH 9 f) ⟨bK L n p ex [.dats b, .dead],o⟩=UV (.next,⟨bK L n p ex [],o⟩,[]):=by cases ex<;>rfl'
theorem I5 (p:PS) (ex:Option EX) (k:Nat) (o:List Bool):(aE (oK P 60) (k+10) (fy P)).tr (aU ip) ⟨bK L n p ex [],o⟩=UV (p.ag,⟨bK L n p ex [],o⟩,[]):=by cases ex<;>rfl'
def bq (L:List D) (p:PS):PS:=p.hs.foldl (fP L) {p with ag:=UY}
def ig (L:List D):Nat->PS->Prop
 |0,_=>False
 |f+1,p=>kX L {p with ag:=UY} p.hs/\p.hs.length<=10/\((bq L p).ag=UX->ig L f (bq L p))
noncomputable def dT (L:List D):Nat->PS->PS
 |0,p=>p
 |f+1,p=>match(bq L p).ag with
  |true=>dT L f (bq L p)
  |false=>bq L p
theorem DB (z:22<=n/\n<=100) (f:Nat) (p:PS) (ex:Option EX) (h:ig L f p) (u:p.ag=UX):∃l pre nds,
  (∀rest,(aE (oK P 60) (f+45) (fy P)).wl (aU ip) (cL ip) (mu ip) ⟨bK L n p ex [],pre++rest⟩=UV (.next,⟨bK L n (dT L f p) l [],rest⟩,nds))/\ao nds:=by
 induction f generalizing p ex with
 |zero=>exact h.elim
 |succ f A=>
  refine b9 h λB I E=>(mn (DA P (L:=L) (n:=n) z p.hs [] {p with ag:=UY} ex (f+12) B (by lia)) λc pre nds e v=>?_)
  simp only[Zh] at e;have d:∀o,nW (fy P) (aE (oK P 60) (f+45) (fy P)) (aU ip) (cL ip) (mu ip) ⟨bK L n p ex [],UX::(pre++o)⟩=UV (UW,⟨bK L n (bq L p) c [],o⟩,_):=λo=>by
   have F:(aE (oK P 60) (f+44) (fy P)).ex j8 ⟨bK L n {p with ag:=UY} ex [],pre++o⟩=UV (.next,⟨bK L n (bq L p) c [.dats (p.hs.map Hd.D), .dead],o⟩,[(p.hs.map Hd.D).length<=U9]++nds):=
    mX (C:=fy P) (o:=oK P 60) (n:=f+43) (i:=10) (s:=j8) (by rfl') (by rfl') (Ti P {p with ag:=UY} ex (f+33) (pre++o)) (e o)
   have G:cG (aE (oK P 60) (f+44) (fy P)).ex (cL ip) ⟨bK L n p ex [],pre++o⟩=UV (.next,⟨bK L n (bq L p) c [.dats (p.hs.map Hd.D), .dead],o⟩,[]++(([(p.hs.map Hd.D).length<=U9]++nds)++[])):=
    (show _=cG (aE (oK P 60) (f+44) (fy P)).ex [aw (cL ip) 0,j8] ⟨bK L n p ex [],pre++o⟩ by rfl').trans (jK (Qn P p ex (f+34) (pre++o)) (jK F rfl))
   exact aJ (I5 P p ex (f+35) (UX::(pre++o))) (aJ (m:=dec p.ag) (a:=UX) (p:=[p.ag=UX]) rfl (aJ (q:=[]) (aJ (k:=λf=>bnd (HK P 9 f) λf=>bnd (qd P 9 9) λb=>zH 9 f) G (Qo P (bq L p) c (p.hs.map Hd.D) o):iy (fy P).trim ((aE (oK P 60) (f+45) (fy P)).exs (cL ip)) ⟨bK L n p ex [],pre++o⟩=UV (.next,⟨bK L n (bq L p) c [],o⟩,([]++(([(p.hs.map Hd.D).length<=U9]++nds)++[]))++[])) rfl))
  have g:ao ([]++([p.ag=UX]++((([]++(([(p.hs.map Hd.D).length<=U9]++nds)++[]))++[])++[]))):=
   af.mpr ⟨trivial,af.mpr ⟨⟨u,trivial⟩,af.mpr ⟨af.mpr ⟨af.mpr ⟨trivial,af.mpr ⟨af.mpr ⟨⟨(by rw[Vy];refine ac VK ?_;lia:(p.hs.map Hd.D).length<=U9),trivial⟩,v⟩,trivial⟩⟩,trivial⟩,trivial⟩⟩⟩
  induction r:(bq L p).ag with
  |true=>refine mn (A (bq L p) c (E r) r) λl j y H t=>?_;exact⟨l,UX::(pre++j),_,λrest=>by refine ac (by show(match(bq L p).ag with|true=>dT L f (bq L p)|false=>bq L p)=_;rw[r]:dT L (f+1) p=dT L f (bq L p)) ?_;rw[Xe,Vi];exact Iq (o:=oK P 60) (d (j++rest)) (H rest),af.mpr ⟨g,t⟩⟩
  |false=>
   have w:∀o,nW (fy P) (aE (oK P 60) (f+44) (fy P)) (aU ip) (cL ip) (mu ip) ⟨bK L n (bq L p) c [],UY::o⟩=UV (UV .next,⟨bK L n (bq L p) c [],o⟩,[]++([(bq L p).ag=UY]++([]++[]))):=λo=>
    aJ (I5 P (bq L p) c (f+34) (UY::o)) (aJ (m:=dec (bq L p).ag) (a:=UY) (p:=[(bq L p).ag=UY]) rfl (by rfl'))
   exact⟨c,UX::(pre++[UY]),_,λrest=>by refine ac (by show(match(bq L p).ag with|true=>dT L f (bq L p)|false=>bq L p)=_;rw[r]:dT L (f+1) p=bq L p) ?_;rw[Xe,Vi];exact Iq (o:=oK P 60) (d ([UY]++rest)) (MY (o:=oK P 60) (w rest)),af.mpr ⟨g,show ao ([]++([(bq L p).ag=UY]++([]++[]))) from⟨r,trivial⟩⟩⟩
def zd (L:List D) (W:Int) (hs:List D) (ts v:List Int):List O:=[.dats hs, .dats L, .ints ts]++(.frame (jD (iY P).scope.names ((iY P).params.zip [.ref 0, .ref 1, .ref 2, .dat (.ints v), .int W]) [])::(iY P).cn.map λn=> .cell (lk n (lm (iY P).scope.names ((iY P).params.zip [.ref 0, .ref 1, .ref 2, .dat (.ints v), .int W]) [])))
theorem Of (p:PS) (o:List Bool):cG (aE (oK P 60) 59 (fy P)).ex [aw gj.body 0,aw gj.body 1,aw gj.body 2] ⟨zd P L (n:Int) (p.hs.map Hd.D) p.ts p.v.l,o⟩=UV (.next,⟨bK L n {p with ag:=UX} UW [],o⟩,[0<=(n:Int) - 1/\(n:Int) - 1<=1000000/\(2:Int).natAbs < 2^64,(3:Nat)<=U9,I1 (n:Int) [fZ n,fZ n,fZ n]]):=by rfl'
theorem Og (p:PS) (ex:Option EX) (o:List Bool):cG (aE (oK P 60) 59 (fy P)).ex [aw gj.body 4] ⟨bK L n p ex [],o⟩=UV (.ret (.dat (.ints p.v.l)),⟨bK L n p ex [],o⟩,[]):=by cases ex<;>rfl'
end
structure TX where
 L:List D
 W:Int
 hs:List Hd
 ts:List Int
 v:V3
def wQ (d:D):Hd:=⟨GU (ay .none (pM d) 0),v3 (Bl (ay .none (pM d) 1))⟩
noncomputable def TX.p (x:TX):PS:=⟨x.hs,x.ts,x.v,UX⟩
def TX.r (x:TX):PS:=dT x.L 13 x.p
abbrev ze:Sp:=CS (X:=TX) (λvs objs=>⟨oi ⟨objs,[]⟩ 1,bU (nV vs 4),(oi ⟨objs,[]⟩ 0).map wQ,uH ⟨objs,[]⟩ 2,v3 (cr (nV vs 3))⟩) (λx=>[.ref 0, .ref 1, .ref 2, .dat (.ints x.v.l), .int x.W]) (λx=>[.dats (x.hs.map Hd.D), .dats x.L, .ints x.ts])
 (λx=> .ints x.r.v.l) (λx=>[.dats (x.r.hs.map Hd.D), .dats x.L, .ints x.r.ts]) λx=>∃n:Nat,x.W=(n:Int)/\22<=n/\n<=100/\ig x.L 13 x.p
theorem DC (P:Va) {L:List D} {n:Nat} (f:22<=n/\n<=100) (p:PS) (j:ig L 13 {p with ag:=UX}):∃orc qs,bD 3 (bnd (aR (iY P) gl (λa=>bk) (kT P 60) (Gz P (ri P) 2 60) [] [.ref 0, .ref 1, .ref 2, .dat (.ints p.v.l), .int (n:Int)]) (λv=>cj P 9 v) ⟨[.dats (p.hs.map Hd.D), .dats L, .ints p.ts],orc⟩)=
  UV (.ints (dT L 13 {p with ag:=UX}).v.l,[.dats ((dT L 13 {p with ag:=UX}).hs.map Hd.D), .dats L, .ints (dT L 13 {p with ag:=UX}).ts],qs)/\ao qs:=by
 refine mn (DB P f 13 {p with ag:=UX} UW j rfl) λd b h e i=>?_
 have k:(aE (oK P 60) 59 (fy P)).ex ip ⟨bK L n {p with ag:=UX} UW [],b++[]⟩=UV (.next,⟨bK L n (dT L 13 {p with ag:=UX}) d [],[]⟩,h):=PZ (C:=fy P) (o:=oK P 60) (n:=58) (s:=ip) (by rfl') (by rfl') (e [])
 have g:=kN (Of P p (b++[])) (jK k (Og P (dT L 13 {p with ag:=UX}) d []))
 have m:=y9 (P:=P) (T:=iY P) (spE:=kT P 60) (G:=Gz P (ri P) 2 60) (vs:=[.ref 0, .ref 1, .ref 2, .dat (.ints p.v.l), .int (n:Int)]) (objs:=[.dats (p.hs.map Hd.D), .dats L, .ints p.ts]) (orc:=b++[]) rfl
  ((show _=cG (aE (oK P 60) 59 (fy P)).ex ([aw gj.body 0,aw gj.body 1,aw gj.body 2]++ip::[aw gj.body 4]) ⟨zd P L (n:Int) (p.hs.map Hd.D) p.ts p.v.l,b++[]⟩ by rfl').trans g) (v:= .dat (.ints (dT L 13 {p with ag:=UX}).v.l)) (p4:=[]) rfl (z:= .ints (dT L 13 {p with ag:=UX}).v.l) (p2:=[]) rfl
 have c:(fZ (n:Int)).natAbs < 2^100:=by unfold fZ;refine ac (show((n:Int) - 1).toNat=n - 1 from Xd _ 1) (ac (show(2:Int)^(n - 1)=((2^(n - 1):Nat):Int) by push_cast;rfl) ?_);exact Nat.pow_lt_pow_right (by decide) (Vq (Yx (Vq (by decide) f.1) YC) f.2)
 refine(bL (b++[]) _ (ac m rfl) ?_)
 exact af.mpr ⟨af.mpr ⟨af.mpr ⟨⟨⟨by lia,by lia,by decide⟩,by decide,⟨rfl,rfl,rfl,by lia,by lia,c,c,c⟩,trivial⟩,af.mpr ⟨i,trivial⟩⟩,trivial⟩,trivial⟩
theorem Rj (P:Va):bz (aF P) 296 qO (iY P):=nq PQ
theorem G6 (J:Vz) (w:V6):aX (Wz J w) 12 296 ze:=
 dq (X:=TX) (lev:=8) (k:=2) (T:=iY w.params) (Tb:=ri w.params) (defs:=[]) (spS:=λa a=>bk) (spE:=kT w.params) (Rj w.params) rfl rfl (λa h=>by cases h;rfl) (c8 (Rj w.params))
  (λg os A b c=>⟨bW (fd:=r8) (by rfl') (Km J w) b c,bW (fd:=rZ) (by rfl') (C5 J w 3) b c,trivial⟩) (λN g os A L Z u U b c f y i=>Dv f i) λx j=>by
  obtain⟨L,W,l,m,v⟩:=x
  refine fA j λn o p q r=>(ac (o:W=(n:Int)) ?_)
  exact aG (DC w.params ⟨p,q⟩ ⟨l,m,v,UX⟩ r) λd s e t=>⟨60,d,s,e,t,rfl⟩
end
section
def i5 (P:Va):FT:={bp with trim:=UV P}
def nu:VY:=aw bp.body 5
def Br:List VY:=(cL nu)
def Tj:List VY:=cL (aw (mu (aw Br 1)) 0)
def eD (n:Nat):Vs:=cm (ay xz (kz (aU (aw Tj 1))) n)
noncomputable def Bs (i:Nat) (o:O):M Unit:=λS=>match S.H[i]? with
 |some (.list [])=>UV ((),⟨S.H.set i o,S.orc⟩,[o= .ints []∨o= .dats []])
 |_=>UW
noncomputable def rl (n:Nat) (o:O):List Nat->M Unit
 |[]=>ret ()
 |k::r=>bnd (Bs (n+k) o) λa=>rl n o r
def rm (m:M Fl) (o:O) (ks:List Nat):M Fl:=λS=>bnd m (λf=>bnd (rl S.H.length o ks) λa=>ret f) S
section
theorem G7 (i:Nat) (o:O):Gh c fz U (Bs i o) (λb b b=>True):=by
 intro S u D p e r f ρ' h k q x;unfold Bs at e;induction d:S.H[i]? with
 |none=>rw[d] at e;exact nn e
 |some t=>
 rw[d] at e;induction t with
 |list l=>induction l using VE with
  |nil=>
  refine b9 (db e) λE v w=>?_
  subst v
  subst w
  have y:o.live=UX:=r.1.elim (λh=>h▸rfl) λh=>h▸rfl
  refine(cE f (Le.refl _) (x.reO d rfl y λa F z A=>?_) trivial)
  refine eX (x.obj i _ d rfl) λG B g j b b C=>(aG C λI n s m=>?_)
  have g:=U0 (z.symm.trans g)
  subst g
  have j:=U0 (A.symm.trans j)
  subst j
  have m:=m.i0
  subst m
  exact r.1.elim (λh=>ac h (bL ([]) n s .nil)) λh=>ac h (bL ([]) n s .nil)
  |cons=>exact nn e
 |_=>exact nn e
theorem DD (n:Nat) (o:O) (ks:List Nat) (fz:Vc) (U:List U6):Gh c fz U (rl n o ks) (λa a a=>True):=by
 induction ks generalizing fz U with
 |nil=>exact Gh.ret λa a a a=>trivial
 |cons k r b=>exact Gh.bind (G7 (n+k) o) λd e a a a a=>b d e
theorem G8 {m:M Fl} {t:Xh Flow} {ks:List Nat} (h:ae c A fz U m t FR):ae c A fz U (rm m o ks) t FR:=λS a i p e=>
 ae.after (g:=λb=>rl S.H.length o ks) h (λfz U b=>DD S.H.length o ks fz U) (λfz j U f x k d=>by cases f<;>cases x<;>first|exact d|exact VR.mono k (U4 _) d) S a i p e
end
def uI (P:Va):bC:=[(284,dY P [UY,UY,UY,UY] wF),(291,dY P [UY,UY,UY,UY] Dk),(296,dY P [UX,UX,UX,UY,UY] ze)]
abbrev oD (P:Va) (N:Nat):=aZ P (uI P) bZ ce gl N 2
def sJ (P:Va):Nat->Ec->Nat->Option (VY×M Fl):=λN C n=>match VA n 343 with
 |true=>UV (aw bp.body 1,rm ((aE (oD P N) N C).ex (aw bp.body 1)) (.ints []) [0,1,2])
 |false=>match VA n 344 with
  |true=>UV (aw bp.body 2,rm ((aE (oD P N) N C).ex (aw bp.body 2)) (.ints []) [0,1,2])
  |false=>match VA n 345 with
   |true=>UV (aw bp.body 3,rm ((aE (oD P N) N C).ex (aw bp.body 3)) (.dats []) [0,1,2])
   |false=>match VA n 346 with
    |true=>UV (aw bp.body 4,rm ((aE (oD P N) N C).ex (aw bp.body 4)) (.dats []) [0])
    |false=>UW
def sK:Nat->Ec->Nat->Option (Vs×M V):=λN C n=>match VA n 362031046 with
 |true=>UV (eD 0,gq C.fid)
 |false=>match VA n 362051066 with
  |true=>UV (eD 1,gq C.fid)
  |false=>match VA n 362078093 with
   |true=>UV (eD 3,gq C.fid)
   |false=>UW
theorem zf {b1 b2 a:Bool} {x y z u:α} (h:(match b1 with|true=>UV x|false=>match b2 with|true=>UV y|false=>match a with|true=>UV z|false=>UW)=UV u):u=x∨u=y∨u=z:=by
 induction b1 with
 |true=>exact .inl (U0 h).symm
 |false=>induction b2 with
  |true=>exact .inr (.inl (U0 h).symm)
  |false=>induction a with
   |true=>exact .inr (.inr (U0 h).symm)
   |false=>exact nn h
theorem KI {b1 b2 a b:Bool} {x y z w u:α} (h:(match b1 with|true=>UV x|false=>match b2 with|true=>UV y|false=>match a with|true=>UV z|false=>match b with|true=>UV w|false=>UW)=UV u):u=x∨u=y∨u=z∨u=w:=by
 induction b1 with
 |true=>exact .inl (U0 h).symm
 |false=>exact .inr (zf h)
theorem Oh {L:Nat} (d:cp ((Wz J w).cx g os) A (oD w.params N)) (f:aI ((Wz J w).cx g os) (be (i5 w.params) [] gl (sJ w.params N) (sK N) L) Z U):
  eh ((Wz J w).cx g os) A (be (i5 w.params) [] gl (sJ w.params N) (sK N) L) Z fz U:=by
 have b:∀st:VY,ae ((Wz J w).cx g os) A fz U ((aE (oD w.params N) N (hV (i5 w.params) L)).ex st) (aaU st Z) FR:=λst=>(d5 d N (hV (i5 w.params) L) Z).ex fz U ⟨{f with},⟨λa a a h=>(nomatch h),λa a a h=>(nomatch h)⟩⟩ st
 have c:∀{i j k:XN},ae ((Wz J w).cx g os) A fz U (gq L) (Wq (.Subscript (.Name "letters" i) (.Name "number" j) k) Z) au:=λ{i j k}=>wH (C:=hV (i5 w.params) L) d {f with} rfl rfl (by rfl') (by rfl') (λa=>rfl) (λa=>rfl)
 refine⟨λn st m h=>?_,λn e m h=>?_⟩
 ·rcases KI h with e|e|e|e<;>(cases e;exact G8 (b _))
 ·rcases zf h with e|e|e<;>(cases e;exact c)
structure aY where
 c0:Int
 c1:Int
 c2:Int
 c3:Int
 L:List Int
 s:V3
 W:Int
structure eR where
 Ls:List Lr
 v0:V3
 v1:V3
 v2:V3
 t0:List Int
 t1:List Int
 t2:List Int
 b0:List Int
 b1:List Int
 b2:List Int
 h0:List Hd
 h1:List Hd
 h2:List Hd
structure fS where
 d:Int
 w:Int
 t:Vb
 o:Int
 nc:Option (Int×List Int)
noncomputable def UK:Option (Int×List Int)->List (Vb×V)
 |none=>[]
 |some (n,l)=>[("number", .int n),("counts", .dat (.ints l))]
def UL:Option fS->List (Vb×V)
 |none=>[]
 |some e=>([("deed", .int e.d),("way", .int e.w),("text", .str e.t),("other", .int e.o)]:List (Vb×V))++UK e.nc
noncomputable def UM (m:Option Int):Option V:=match m with
 |none=>UW
 |some i=>UV (.int i)
noncomputable def d9 (a:Int):List Int:=[a.fmod 3,(a.fdiv 6).fmod 6,(a.fdiv 36).fmod 6,(a.fdiv 216).fmod 6,(a.fdiv 1296).fmod 6,(a.fdiv 7776).fmod 6,(a.fdiv 46656).fmod 6,(a.fdiv 279936).fmod 6,(a.fdiv 1679616).fmod 6]
noncomputable def ii (a:Int):List Int:=d9 a++[3,4,5,3,4,5,3,4,5,3,4,5]
def bR (k:aY) (x:eR) (e:Option fS) (m:Option Int) (it:O):List O:=[.frame (([("sizes", .dat (.ints k.L)),("starts", .dat (.ints k.s.l)),("width", .int k.W),("taken", .ref 8),("boxes", .ref 12),("held", .ref 16),("letters", .ref 17)]:List (Vb×V))++UL e),
 .cell (UV (.dat (.ints [k.c0,k.c1,k.c2,k.c3]))), .cell (UV (.ref 4)), .cell (UM m), .list [.dat (.ints x.v0.l), .dat (.ints x.v1.l), .dat (.ints x.v2.l)], .ints x.t0, .ints x.t1, .ints x.t2, .list [.ref 5, .ref 6, .ref 7], .ints x.b0, .ints x.b1, .ints x.b2, .list [.ref 9, .ref 10, .ref 11],
 .dats (x.h0.map Hd.D), .dats (x.h1.map Hd.D), .dats (x.h2.map Hd.D), .list [.ref 13, .ref 14, .ref 15], .dats (x.Ls.map Lr.D), .ints [k.c0.fmod 3], .range 1 9 1, .dead, .list ((d9 k.c0).tail.map V.int), .dead, .ints (d9 k.c0), .ints [3,4,5], .ints [3,4,5,3,4,5,3,4,5,3,4,5], .ints (ii k.c0),it]
def Bt (P:Va):Ec:=be (i5 P) [] gl (sJ P 60) (sK 60) 0
abbrev kY (P:Va) (n:Nat):=aE (oD P 60) n (Bt P)
noncomputable def Bu (k:aY):eR:=⟨[],k.s,k.s,k.s,[],[],[],[],[],[],[],[],[]⟩
def Oi (P:Va) (k:aY):List O:=[]++(.frame (jD (i5 P).scope.names ((i5 P).params.zip [.dat (.ints [k.c0,k.c1,k.c2,k.c3]), .dat (.ints k.L), .dat (.ints k.s.l), .int k.W]) [])::(i5 P).cn.map λn=> .cell (lk n (lm (i5 P).scope.names ((i5 P).params.zip [.dat (.ints [k.c0,k.c1,k.c2,k.c3]), .dat (.ints k.L), .dat (.ints k.s.l), .int k.W]) [])))
abbrev rD (P:Va) (n:Nat) (v:V) (S:St):=Bp (Bt P) (kY P (n+25)) (aU nu) 27 Br v S
def fU (x:eR):Int:=((x.Ls.map Lr.D).length:Int)
noncomputable def wR (k:aY) (x:eR):Int:=k.c1.fdiv (7^(fU x).toNat)
noncomputable def DF (k:aY) (x:eR) (v:V3):Lt:=⟨v.a,v.b,v.c,wR k x,10+k.c3.fmod 40,k.L⟩
def ij (k:aY) (x:eR) (m:Nat) (v:V3) (t:List Int):Lr:=⟨(m:Int),t,v,wR k x,dj (DF k x v)⟩
def wS (x:eR) (r:Lr):Int:=((x.Ls.map Lr.D++[r.D]).length:Int) - 1
def Tk (m:Nat):List Bool:=[UX,iZ 0 m,UX,iZ 1 m,UX,iZ 2 m,UY]
def Tl (m:Nat):List Bool:=[UX, !iZ 0 m,UX, !iZ 1 m,UX, !iZ 2 m,UY]
def I6 (m:Nat):List Bool:=[UX,UX,UX]++Tk m++[UY]++Tl m
def Tm (m:Nat):List Prop:=[UX=UX,UX=UX,aK 3 m,aK 3 0,iZ 0 m=iZ 0 m,(0:Nat)<=U9,UX=UX,aK 3 m,aK 3 1,iZ 1 m=iZ 1 m,(1:Nat)<=U9,UX=UX,aK 3 m,aK 3 2,iZ 2 m=iZ 2 m,(2:Nat)<=U9,UY=UY]
def wT (x:eR) (m i:Nat) (b:List Int):List Prop:=match VA i m with
 |true=>[UX=UX,UY=UY]
 |false=>[UX=UX,UX=UX,aK 3 i,(x.Ls.map Lr.D).length < 2^62,b.length<=U9]
def sL (x:eR):Prop:=(x.Ls.map Lr.D).length < 2^62
def Tn (d:Lt):Prop:=[V.dat (.ints [d.a,d.b,d.c]),V.dat (.ints d.L),V.int d.w,V.int d.W]=[V.dat (.ints [d.a,d.b,d.c]),V.dat (.ints d.L),V.int d.w,V.int d.W]/\([]:List O)=[]/\eW d/\10<=d.W
def DG (k:aY) (x:eR) (m:Nat) (v:V3) (t:List Int):List Prop:=[(3:Int)≠0,UX=UX,sL x,decide (fU x < 4)=UX,UX=UX]++(Tm m++([aK 3 m,aK 4 1,sL x,0<=fU x/\fU x<=1000000/\(7:Int).natAbs < 2^64,(7:Int)^(fU x).toNat≠0/\((7:Int)^(fU x).toNat).natAbs < 1073741824,aK 3 m,aK 4 3,(40:Int)≠0,Tn (DF k x v),UY=UY,UX=UX]++
 (wT x m 0 x.b0++(wT x m 1 x.b1++(wT x m 2 x.b2++[UY=UY,aK 3 m,t.length<=U9,aK 3 m,(5:Nat)<=U9,(x.Ls.map Lr.D).length<=U9,aK 3 m,(x.Ls.map Lr.D++[(ij k x m v t).D]).length < 2^62,t.length<=U9])))))
def DH (k:aY) (x:eR) (r:Lr) (e:Option fS) (m:Option Int) (it:O):List O:=(bR k x e m it).set 17 (.dats (x.Ls.map Lr.D++[r.D]))
def Oj (k:aY) (x:eR) (m:Nat) (v:V3) (nc:Option (Int×List Int)):fS:=⟨(m:Int),wR k x,dj (DF k x v),2,nc⟩
noncomputable def Ok (e:Option fS):Option (Int×List Int):=match e with
 |none=>UW
 |some e=>e.nc
section
variable (P:Va) (k:aY) (x:eR) (e:Option fS) (m:Option Int) (j n:Nat) (o:List Bool)
theorem To:rD P n (.int 0) ⟨bR k x e m (.listIt 26 j),I6 0++o⟩=UV (UW,⟨DH k {x with v0:=bh x.v0 0,b1:=x.b1++[fU x],b2:=x.b2++[fU x],t0:=x.t0++[wS x (ij k x 0 (bh x.v0 0) x.t0)]} (ij k x 0 (bh x.v0 0) x.t0) (UV (Oj k x 0 (bh x.v0 0) (Ok e))) (UV 0) (.listIt 26 j),o⟩,DG k x 0 (bh x.v0 0) x.t0):=by
 match e with
 |none=>rfl'
 |some ⟨_,_,_,_,UW⟩=>rfl'
 |some ⟨_,_,_,_,UV (_,_)⟩=>rfl'
theorem Tp:rD P n (.int 1) ⟨bR k x e m (.listIt 26 j),I6 1++o⟩=UV (UW,⟨DH k {x with v1:=bh x.v1 1,b0:=x.b0++[fU x],b2:=x.b2++[fU x],t1:=x.t1++[wS x (ij k x 1 (bh x.v1 1) x.t1)]} (ij k x 1 (bh x.v1 1) x.t1) (UV (Oj k x 1 (bh x.v1 1) (Ok e))) (UV 1) (.listIt 26 j),o⟩,DG k x 1 (bh x.v1 1) x.t1):=by
 match e with
 |none=>rfl'
 |some ⟨_,_,_,_,UW⟩=>rfl'
 |some ⟨_,_,_,_,UV (_,_)⟩=>rfl'
theorem Tq:rD P n (.int 2) ⟨bR k x e m (.listIt 26 j),I6 2++o⟩=UV (UW,⟨DH k {x with v2:=bh x.v2 2,b0:=x.b0++[fU x],b1:=x.b1++[fU x],t2:=x.t2++[wS x (ij k x 2 (bh x.v2 2) x.t2)]} (ij k x 2 (bh x.v2 2) x.t2) (UV (Oj k x 2 (bh x.v2 2) (Ok e))) (UV 2) (.listIt 26 j),o⟩,DG k x 2 (bh x.v2 2) x.t2):=by
 match e with
 |none=>rfl'
 |some ⟨_,_,_,_,UW⟩=>rfl'
 |some ⟨_,_,_,_,UV (_,_)⟩=>rfl'
end
def DI (x:eR):List Prop:=[(3:Int)≠0,UX=UX,sL x,decide (fU x < 4)=UY,UY=UY,UY=UY,UY=UY]
def wU (m:Nat) (b:List Int):List Prop:=[(3:Int)≠0,UY=UY,UY=UY,UX=UX,aK 3 m,(0:Nat)<=U9,VP (eP UX (b.map XY))=UX/\UX=UX,(!eO b [])=UY,UY=UY]
def gN (b:List Int):Int:=ay 0 b (b.length - 1)
def kZ (x:eR) (b:List Int):Lr:=bH (x.Ls.map Lr.D) (gN b)
def iq (k:aY) (x:eR) (b:List Int) (h:List Hd) (t:List Int) (v:V3):TX:=⟨x.Ls.map Lr.D,k.W,(h.map Hd.D++[Hd.D ⟨gN b,(kZ x b).c⟩]).map wQ,t,v⟩
def I7 (e:Vs) (x:eR) (b:List Int) (i:Nat):List Prop:=[e=e,V.ref 17=V.ref 17/\V.int (gN b)=V.int (gN b)/\UV (O.dats (x.Ls.map Lr.D))=UV (O.dats (x.Ls.map Lr.D))/\lT (x.Ls.map Lr.D) (gN b),aK 5 i]
def Tr (k:aY) (r:Lr):Prop:=[V.str r.t, .dat (.ints [r.c.a,r.c.b,r.c.c]), .dat (.ints k.L), .int r.w]=[V.str r.t, .dat (.ints [r.c.a,r.c.b,r.c.c]), .dat (.ints k.L), .int r.w]/\([]:List O)=[]/\rf r.t r.c.a r.c.b r.c.c k.L r.w
def Tt (X:TX) (hs:List D):Prop:=[V.ref 0, .ref 1, .ref 2, .dat (.ints X.v.l), .int X.W]=[V.ref 0, .ref 1, .ref 2, .dat (.ints X.v.l), .int X.W]/\[O.dats hs, .dats X.L, .ints X.ts]=[O.dats (X.hs.map Hd.D), .dats X.L, .ints X.ts]/\∃n:Nat,X.W=(n:Int)/\22<=n/\n<=100/\ig X.L 13 X.p
def DJ (k:aY) (x:eR) (m:Nat) (b:List Int) (h:List Hd) (t:List Int) (v:V3):List Prop:=[(3:Int)≠0,UY=UY,UY=UY,UX=UX,aK 3 m,(0:Nat)<=U9,VP (eP UX (b.map XY))=UX/\UX=UX,(!eO b [])=UX,UX=UX,aK 3 m,0 < b.length/\b.length<=U9]++(I7 (eD 0) x b 4++(I7 (eD 1) x b 2++(I7 (eD 3) x b 3++
 [Tr k (kZ x b),UY=UY,aK 3 m,(2:Nat)<=U9,(h.map Hd.D).length<=U9,aK 3 m,aK 3 m,aK 3 m,Tt (iq k x b h t v) (h.map Hd.D++[Hd.D ⟨gN b,(kZ x b).c⟩]),aK 3 m,aK 3 m,UY=UY])))
noncomputable def Ol:List Bool:=[UY,UY,UX,UX,UX,UY,UY]
section
variable (P:Va) (k:aY) (x:eR) (e:fS) (m:Option Int) (j n:Nat) (o:List Bool)
theorem Tu:rD P n (.int 0) ⟨bR k x (UV e) m (.listIt 26 j),[UX,UY,UY,UY,UY]++o⟩=UV (UW,⟨bR k x (UV {e with d:=0}) (UV 0) (.listIt 26 j),o⟩,DI x):=by
 match e with
 |⟨_,_,_,_,UW⟩=>rfl'
 |⟨_,_,_,_,UV (_,_)⟩=>rfl'
theorem Tv:rD P n (.int 3) ⟨bR k x (UV e) m (.listIt 26 j),[UY,UY,UX,UY,UY]++o⟩=UV (UW,⟨bR k x (UV {e with d:=3}) (UV 0) (.listIt 26 j),o⟩,wU 0 x.b0):=by
 match e with
 |⟨_,_,_,_,UW⟩=>rfl'
 |⟨_,_,_,_,UV (_,_)⟩=>rfl'
theorem Tw:rD P n (.int 1) ⟨bR k x (UV e) m (.listIt 26 j),[UX,UY,UY,UY,UY]++o⟩=UV (UW,⟨bR k x (UV {e with d:=1}) (UV 1) (.listIt 26 j),o⟩,DI x):=by
 match e with
 |⟨_,_,_,_,UW⟩=>rfl'
 |⟨_,_,_,_,UV (_,_)⟩=>rfl'
theorem Tx:rD P n (.int 4) ⟨bR k x (UV e) m (.listIt 26 j),[UY,UY,UX,UY,UY]++o⟩=UV (UW,⟨bR k x (UV {e with d:=4}) (UV 1) (.listIt 26 j),o⟩,wU 1 x.b1):=by
 match e with
 |⟨_,_,_,_,UW⟩=>rfl'
 |⟨_,_,_,_,UV (_,_)⟩=>rfl'
theorem Tz:rD P n (.int 2) ⟨bR k x (UV e) m (.listIt 26 j),[UX,UY,UY,UY,UY]++o⟩=UV (UW,⟨bR k x (UV {e with d:=2}) (UV 2) (.listIt 26 j),o⟩,DI x):=by
 match e with
 |⟨_,_,_,_,UW⟩=>rfl'
 |⟨_,_,_,_,UV (_,_)⟩=>rfl'
theorem TA:rD P n (.int 5) ⟨bR k x (UV e) m (.listIt 26 j),[UY,UY,UX,UY,UY]++o⟩=UV (UW,⟨bR k x (UV {e with d:=5}) (UV 2) (.listIt 26 j),o⟩,wU 2 x.b2):=by
 match e with
 |⟨_,_,_,_,UW⟩=>rfl'
 |⟨_,_,_,_,UV (_,_)⟩=>rfl'
theorem TC:rD P n (.int 3) ⟨bR k x (UV e) m (.listIt 26 j),Ol++o⟩=UV (UW,⟨bR k {x with b0:=x.b0.dropLast,h0:=(iq k x x.b0 x.h0 x.t0 x.v0).r.hs,t0:=(iq k x x.b0 x.h0 x.t0 x.v0).r.ts,v0:=(iq k x x.b0 x.h0 x.t0 x.v0).r.v} (UV {e with d:=3,nc:=UV (gN x.b0,(kZ x x.b0).c.l)}) (UV 0) (.listIt 26 j),o⟩,DJ k x 0 x.b0 x.h0 x.t0 x.v0):=by
 match e with
 |⟨_,_,_,_,UW⟩=>rfl'
 |⟨_,_,_,_,UV (_,_)⟩=>rfl'
theorem TD:rD P n (.int 4) ⟨bR k x (UV e) m (.listIt 26 j),Ol++o⟩=UV (UW,⟨bR k {x with b1:=x.b1.dropLast,h1:=(iq k x x.b1 x.h1 x.t1 x.v1).r.hs,t1:=(iq k x x.b1 x.h1 x.t1 x.v1).r.ts,v1:=(iq k x x.b1 x.h1 x.t1 x.v1).r.v} (UV {e with d:=4,nc:=UV (gN x.b1,(kZ x x.b1).c.l)}) (UV 1) (.listIt 26 j),o⟩,DJ k x 1 x.b1 x.h1 x.t1 x.v1):=by
 match e with
 |⟨_,_,_,_,UW⟩=>rfl'
 |⟨_,_,_,_,UV (_,_)⟩=>rfl'
theorem TE:rD P n (.int 5) ⟨bR k x (UV e) m (.listIt 26 j),Ol++o⟩=UV (UW,⟨bR k {x with b2:=x.b2.dropLast,h2:=(iq k x x.b2 x.h2 x.t2 x.v2).r.hs,t2:=(iq k x x.b2 x.h2 x.t2 x.v2).r.ts,v2:=(iq k x x.b2 x.h2 x.t2 x.v2).r.v} (UV {e with d:=5,nc:=UV (gN x.b2,(kZ x x.b2).c.l)}) (UV 2) (.listIt 26 j),o⟩,DJ k x 2 x.b2 x.h2 x.t2 x.v2):=by
 match e with
 |⟨_,_,_,_,UW⟩=>rfl'
 |⟨_,_,_,_,UV (_,_)⟩=>rfl'
theorem TF (e:Option fS):(oD P 60).nxt 27 ⟨bR k x e m (.listIt 26 j),UX::o⟩=UV (UV (.int (ay 0 (ii k.c0) j)),⟨bR k x e m (.listIt 26 (j+1)),o⟩,[decide (j < 21)=UX]):=by rfl'
theorem TG (e:Option fS):gZ (Bt P) (oD P 60) (kY P (n+25)) (aU nu) 27 Br [] ⟨bR k x e m (.listIt 26 21),UY::o⟩=UV (UV .next,⟨bR k x e m .dead,o⟩,[decide (21 < 21)=UY]):=by rfl'
noncomputable def nv:Nat->Nat->List Prop
 |_,0=>[]
 |i,c+1=>aK 5 0::(i<=U9)::nv (i+1) c
theorem TH:jd (bnd (bnd (cG (kY P 59).ex [aw bp.body 6]) tC) (λv=>cj P 9 v) ⟨bR k {x with Ls:=[]} (UV e) m .dead,o⟩)=UV (.tup [.list [.ints x.v0.l, .ints x.v1.l, .ints x.v2.l], .ints []],nv 0 0++[(2:Nat)<=U9]):=by
 match e with
 |⟨_,_,_,_,UW⟩=>rfl'
 |⟨_,_,_,_,UV (_,_)⟩=>rfl'
theorem TI (r0:Lr):jd (bnd (bnd (cG (kY P 59).ex [aw bp.body 6]) tC) (λv=>cj P 9 v) ⟨bR k {x with Ls:=[r0]} (UV e) m .dead,o⟩)=UV (.tup [.list [.ints x.v0.l, .ints x.v1.l, .ints x.v2.l], .ints [r0.s]],nv 0 1++[(2:Nat)<=U9]):=by
 match e with
 |⟨_,_,_,_,UW⟩=>rfl'
 |⟨_,_,_,_,UV (_,_)⟩=>rfl'
theorem TJ (r0 r1:Lr):jd (bnd (bnd (cG (kY P 59).ex [aw bp.body 6]) tC) (λv=>cj P 9 v) ⟨bR k {x with Ls:=[r0,r1]} (UV e) m .dead,o⟩)=UV (.tup [.list [.ints x.v0.l, .ints x.v1.l, .ints x.v2.l], .ints [r0.s,r1.s]],nv 0 2++[(2:Nat)<=U9]):=by
 match e with
 |⟨_,_,_,_,UW⟩=>rfl'
 |⟨_,_,_,_,UV (_,_)⟩=>rfl'
theorem TK (r0 r1 r2:Lr):jd (bnd (bnd (cG (kY P 59).ex [aw bp.body 6]) tC) (λv=>cj P 9 v) ⟨bR k {x with Ls:=[r0,r1,r2]} (UV e) m .dead,o⟩)=UV (.tup [.list [.ints x.v0.l, .ints x.v1.l, .ints x.v2.l], .ints [r0.s,r1.s,r2.s]],nv 0 3++[(2:Nat)<=U9]):=by
 match e with
 |⟨_,_,_,_,UW⟩=>rfl'
 |⟨_,_,_,_,UV (_,_)⟩=>rfl'
theorem TL (r0 r1 r2 r3:Lr):jd (bnd (bnd (cG (kY P 59).ex [aw bp.body 6]) tC) (λv=>cj P 9 v) ⟨bR k {x with Ls:=[r0,r1,r2,r3]} (UV e) m .dead,o⟩)=UV (.tup [.list [.ints x.v0.l, .ints x.v1.l, .ints x.v2.l], .ints [r0.s,r1.s,r2.s,r3.s]],nv 0 4++[(2:Nat)<=U9]):=by
 match e with
 |⟨_,_,_,_,UW⟩=>rfl'
 |⟨_,_,_,_,UV (_,_)⟩=>rfl'
noncomputable def Bv (st:VY) (o:O):List Prop:=[st=st,(0:Nat)<=U9,(0:Nat)<=U9,(0:Nat)<=U9,(3:Nat)<=U9,o= .ints []∨o= .dats [],o= .ints []∨o= .dats [],o= .ints []∨o= .dats []]
def uJ:List Prop:=[(3:Nat)<=U9]++(Bv (aw bp.body 1) (.ints [])++(Bv (aw bp.body 2) (.ints [])++(Bv (aw bp.body 3) (.dats [])++[aw bp.body 4=aw bp.body 4,(0:Nat)<=U9,O.dats []= .ints []∨O.dats []= .dats []])))
theorem Qp:cG (kY P 59).ex [aw bp.body 0,aw bp.body 1,aw bp.body 2,aw bp.body 3,aw bp.body 4] ⟨Oi P k,o⟩=UV (.next,⟨(bR k (Bu k) UW UW .dead).take 18,o⟩,uJ):=by rfl'
noncomputable def G9:Nat->Nat->List Prop
 |_,0=>[]
 |i,c+1=>[UX=UX,aK 4 0,(0:Int)<=((i+1:Nat):Int)/\((i+1:Nat):Int)<=1000000/\(6:Int).natAbs < 2^64,(6:Int)^(i+1)≠0/\((6:Int)^(i+1)).natAbs < 1073741824,(6:Int)≠0,i<=U9]++G9 (i+1) c
noncomputable def wV:List Prop:=[aK 4 0,(3:Int)≠0,(1:Nat)<=U9,UX=UX]++(G9 0 8++[UY=UY,(9:Nat)<=U9,(3:Nat)<=U9,(-(2^63):Int)<=4/\(4:Int) < 2^63/\3*(4:Nat)<=2^24,(21:Nat)<=U9])
theorem TM:bnd ((kY P 58).ev (uU nu)) (oD P 60).iter ⟨(bR k (Bu k) UW UW .dead).take 18,[UX,UX,UX,UX,UX,UX,UX,UX,UY]++o⟩=UV (.ref 27,⟨bR k (Bu k) UW UW (.listIt 26 0),o⟩,wV):=by rfl'
end
end
structure Dy where
 Ls:List Lr
 v:Nat->V3
 t:Nat->List Int
 b:Nat->List Int
 h:Nat->List Hd
noncomputable def upd (f:Nat->α) (m:Nat) (a:α):Nat->α:=λi=>match VA i m with
 |true=>a
 |false=>f i
noncomputable def Dy.S (y:Dy):eR:=⟨y.Ls,y.v 0,y.v 1,y.v 2,y.t 0,y.t 1,y.t 2,y.b 0,y.b 1,y.b 2,y.h 0,y.h 1,y.h 2⟩
noncomputable def Dy.way (k:aY) (y:Dy):Int:=k.c1.fdiv (7^y.Ls.length)
def Dy.lt (k:aY) (y:Dy) (m:Nat):Lt:=⟨(bh (y.v m) m).a,(bh (y.v m) m).b,(bh (y.v m) m).c,y.way k,10+k.c3.fmod 40,k.L⟩
def Dy.new (k:aY) (y:Dy) (m:Nat):Lr:=⟨(m:Int),y.t m,bh (y.v m) m,y.way k,dj (y.lt k m)⟩
def ir (k:aY) (y:Dy) (m:Nat):Dy:=⟨y.Ls++[y.new k m],upd y.v m (bh (y.v m) m),upd y.t m (y.t m++[(y.Ls.length:Int)]),λi=>match VA i m with|true=>y.b i|false=>y.b i++[(y.Ls.length:Int)],y.h⟩
def Dy.num (y:Dy) (m:Nat):Int:=gN (y.b m)
def Dy.got (y:Dy) (m:Nat):Lr:=bH (y.Ls.map Lr.D) (y.num m)
noncomputable def Dy.tk (y:Dy) (m:Nat):PS:=⟨y.h m++[⟨y.num m,(y.got m).c⟩],y.t m,y.v m,UX⟩
def Dy.tr (y:Dy) (m:Nat):PS:=dT (y.Ls.map Lr.D) 13 (y.tk m)
def i6 (y:Dy) (m:Nat):Dy:=⟨y.Ls,upd y.v m (y.tr m).v,upd y.t m (y.tr m).ts,upd y.b m (y.b m).dropLast,upd y.h m (y.tr m).hs⟩
noncomputable def dC (k:aY) (y:Dy):Nat->Dy
 |0=>if y.Ls.length < 4 then ir k y 0 else y
 |1=>if y.Ls.length < 4 then ir k y 1 else y
 |2=>if y.Ls.length < 4 then ir k y 2 else y
 |3=>if y.b 0=[] then y else i6 y 0
 |4=>if y.b 1=[] then y else i6 y 1
 |_=>if y.b 2=[] then y else i6 y 2
structure pP (k:aY) (y:Dy) (m:Nat):Prop where
 lt:eW (y.lt k m)
 t:(y.t m).length<=100
 b:∀i,(y.b i).length<=100
structure pQ (k:aY) (y:Dy) (m:Nat):Prop where
 b:(y.b m).length<=100
 h:(y.h m).length<=100
 vw:lT (y.Ls.map Lr.D) (y.num m)
 rd:rf (y.got m).t (y.got m).c.a (y.got m).c.b (y.got m).c.c k.L (y.got m).w
 W:∃n:Nat,k.W=(n:Int)/\22<=n/\n<=100
 tk:ig (y.Ls.map Lr.D) 13 (y.tk m)
def wW (k:aY) (y:Dy):Nat->Prop
 |0=>y.Ls.length < 4->pP k y 0
 |1=>y.Ls.length < 4->pP k y 1
 |2=>y.Ls.length < 4->pP k y 2
 |3=>y.b 0≠[]->pQ k y 0
 |4=>y.b 1≠[]->pQ k y 1
 |_=>y.b 2≠[]->pQ k y 2
theorem oj (y:Dy):fU y.S=(y.Ls.length:Int):=by unfold fU;rw[Vy];rfl
theorem zg (hs:List Hd):(hs.map Hd.D).map wQ=hs:=by refine ac Yg ((W9 λh d=>?_).trans (List.map_id hs));obtain⟨n,⟨a,b,c⟩⟩:=h;rfl
theorem DK (k:aY) (y:Dy):wR k y.S=y.way k:=by unfold wR Dy.way;rw[oj,Vx]
theorem I8 (k:aY) (y:Dy) (m:Nat):DF k y.S (bh (y.v m) m)=y.lt k m:=by unfold DF;rw[DK];rfl
theorem wX (k:aY) (y:Dy) (m:Nat):ij k y.S m (bh (y.v m) m) (y.t m)=y.new k m:=by unfold ij;rw[I8,DK];rfl
theorem wY (y:Dy) (r:Lr):wS y.S r=(y.Ls.length:Int):=by unfold wS;refine ac U8 ?_;rw[Vy];exact XM (y.Ls.length:Int) 1
theorem Om (k:aY) (x:eR) (r:Lr) (e:Option fS) (m:Option Int) (it:O):DH k x r e m it=bR k {x with Ls:=x.Ls++[r]} e m it:=by refine(?_:List.set (bR k x e m it) 17 (.dats (x.Ls.map Lr.D++[r.D]))=_);refine ac (show x.Ls.map Lr.D++[r.D]=(x.Ls++[r]).map Lr.D by refine ac VZ ?_;rfl) ?_;rfl
def rn (P:Va) (n:Nat) (k:aY) (y:Dy) (d:Nat) (e:Option fS) (m:Option Int) (j:Nat) (b:Dy):Prop:=∃c f pre a,(∀o,rD P n (.int (d:Int)) ⟨bR k y.S e m (.listIt 26 j),pre++o⟩=UV (UW,⟨bR k b.S (UV c) f (.listIt 26 j),o⟩,a))/\ao a
theorem Qq {k:aY} {y:Dy} {m:Nat} (c:m < 3) (hl:y.Ls.length < 4) (h:pP k y m) (p:0<=k.c3.fmod 40):ao (DG k y.S m (bh (y.v m) m) (y.t m)):=by
 have a:∀i:Nat,i < 3->aK 3 (i:Int):=λi f=>⟨f,U1 f (by decide)⟩
 have l:∀i:Nat,i < 4->aK 4 (i:Int):=λi f=>⟨f,U1 f (by decide)⟩
 have e:fU y.S=(y.Ls.length:Int):=oj y;have j:(y.S.Ls.map Lr.D).length=y.Ls.length:=Vy ..;have o:=h.t;have q:(7:Int)^y.Ls.length≠0/\((7:Int)^y.Ls.length).natAbs < 1073741824:=by exact(by decide:∀n < 4,(7:Int)^n≠0/\((7:Int)^n).natAbs < 1073741824) _ hl
 have d:sL y.S:=by unfold sL;refine(j).symm▸ ?_;exact U1 hl (by decide)
 have g:∀i,i < 3->ao (wT y.S m i (y.b i)):=λi f=>by
  unfold wT;induction VA i m with
  |true=>exact⟨rfl,rfl,trivial⟩
  |false=>exact⟨rfl,rfl,a i f,(j).symm▸(U1 hl (by decide)),jf (h.b i) rfl,trivial⟩
 refine af.mpr ⟨⟨by decide,rfl,d,decide_eq_true ((e).symm▸(Int.ofNat_le.mpr hl)),rfl,trivial⟩,af.mpr ⟨⟨rfl,rfl,a m c,a 0 (by decide),rfl,by decide,rfl,a m c,a 1 (by decide),rfl,by decide,rfl,a m c,a 2 (by decide),rfl,by decide,rfl,trivial⟩,af.mpr ⟨?_,af.mpr ⟨g 0 (by decide),af.mpr ⟨g 1 (by decide),af.mpr ⟨g 2 (by decide),?_⟩⟩⟩⟩⟩⟩
 ·refine⟨a m c,l 1 (by decide),d,(e).symm▸⟨Vp _,by lia,by decide⟩,by refine ac e ?_;rw[Vx];exact q,a m c,l 3 (by decide),by decide,⟨rfl,rfl,?_⟩,rfl,rfl,trivial⟩;rw[I8];exact⟨h.lt,ZL (bb k.c3 (by decide:(0:Int) < 40)).1⟩
 ·exact⟨rfl,a m c,jf o rfl,a m c,by decide,ac j (ac VK (U1 (Wy hl) (by decide))),a m c,by refine ac U8 (ac j ?_);show y.Ls.length+1 < _;exact Vl hl (by decide),jf o rfl,trivial⟩
theorem Qr {y:Dy} (hl:¬y.Ls.length < 4) (a:y.Ls.length<=100):ao (DI y.S):=by exact⟨by decide,rfl,by unfold sL;refine ac (Vy ..:(y.S.Ls.map Lr.D).length=y.Ls.length) ?_;exact Vl a (by decide),decide_eq_false (by rw[oj];lia),rfl,rfl,rfl,trivial⟩
theorem Qs {m:Nat} (a:m < 3) {b:List Int} (c:b=[]):ao (wU m b):=by exact ac c ⟨by decide,rfl,rfl,rfl,⟨a,U1 a (by decide)⟩,by decide,⟨iI [],rfl⟩,rfl,rfl,trivial⟩
theorem On {b:List Int} (h:b≠[]):(!eO b [])=UX:=by
 rw[zc];induction b using VE with
 |nil=>exact absurd rfl h
 |cons=>rfl
theorem Oo (k:aY) (y:Dy) (m:Nat):(iq k y.S (y.b m) (y.h m) (y.t m) (y.v m)).p=y.tk m:=by refine(?_:(⟨((y.h m).map Hd.D++[Hd.D ⟨gN (y.b m),(kZ y.S (y.b m)).c⟩]).map wQ,y.t m,y.v m,UX⟩:PS)=_);refine ac (show(y.h m).map Hd.D++[Hd.D ⟨gN (y.b m),(kZ y.S (y.b m)).c⟩]=(y.h m++[(⟨gN (y.b m),(kZ y.S (y.b m)).c⟩:Hd)]).map Hd.D by rw[VZ];rfl) ?_;rw[zg];rfl
theorem Ha (k:aY) (y:Dy) (m:Nat):(iq k y.S (y.b m) (y.h m) (y.t m) (y.v m)).r=y.tr m:=by unfold TX.r;rw[Oo];rfl
theorem Qt {k:aY} {y:Dy} {m:Nat} (f:m < 3) (g:y.b m≠[]) (h:pQ k y m):ao (DJ k y.S m (y.b m) (y.h m) (y.t m) (y.v m)):=by
 have a:aK 3 (m:Int):=⟨f,U1 f (by decide)⟩
 have l:=h.h;have d:∀(e:Vs) (i:Nat),i < 5->ao (I7 e y.S (y.b m) i):=λe i j=>⟨rfl,⟨rfl,rfl,rfl,h.vw⟩,⟨j,U1 j (by decide)⟩,trivial⟩
 have o:(y.h m).map Hd.D++[Hd.D ⟨gN (y.b m),(kZ y.S (y.b m)).c⟩]=(y.h m++[(⟨gN (y.b m),(kZ y.S (y.b m)).c⟩:Hd)]).map Hd.D:=by refine ac VZ ?_;rfl
 refine af.mpr ⟨⟨by decide,rfl,rfl,rfl,a,by decide,⟨iI _,rfl⟩,On g,rfl,a,⟨(List.length_pos_iff.mpr g:0 < (y.b m).length),by refine ac VK ?_;exact U1 (h.b) (by decide)⟩,trivial⟩,af.mpr ⟨d _ 4 (by decide),af.mpr ⟨d _ 2 (by decide),af.mpr ⟨d _ 3 (by decide),?_⟩⟩⟩⟩;refine⟨⟨rfl,rfl,h.rd⟩,rfl,a,by decide,by rw[Vy];refine ac VK ?_;exact U1 l (by decide),a,a,a,⟨rfl,?_,?_⟩,a,a,rfl,trivial⟩
 ·refine(?_:[O.dats ((y.h m).map Hd.D++[Hd.D ⟨gN (y.b m),(kZ y.S (y.b m)).c⟩]), .dats (y.Ls.map Lr.D), .ints (y.t m)]=[O.dats ((((y.h m).map Hd.D++[Hd.D ⟨gN (y.b m),(kZ y.S (y.b m)).c⟩]).map wQ).map Hd.D), .dats (y.Ls.map Lr.D), .ints (y.t m)]);refine ac o ?_;rw[zg]
 ·rw[Oo];exact ca h.W λn p q r=>(oF n p q r h.tk)
theorem wZ {n:Nat} {k:aY} {y:Dy} {d m:Nat} {e:Option fS} {e1:fS} {x:eR} (run:∀o,rD P n (.int (d:Int)) ⟨bR k y.S e m0 (.listIt 26 j),I6 m++o⟩=UV (UW,⟨DH k x (ij k y.S m (bh (y.v m) m) (y.t m)) (UV e1) m1 (.listIt 26 j),o⟩,DG k y.S m (bh (y.v m) m) (y.t m)))
  (b:{x with Ls:=x.Ls++[ij k y.S m (bh (y.v m) m) (y.t m)]}=(ir k y m).S) (c:m < 3) (hl:y.Ls.length < 4) (f:pP k y m) (a:0<=k.c3.fmod 40):rn P n k y d e m0 j (ir k y m):=
 ⟨e1,m1,_,_,λo=>by rw[run,Om,b],Qq c hl f a⟩
theorem w8 {n:Nat} {k:aY} {y:Dy} {d m:Nat} {e:Option fS} (h:y.Ls.length < 4->rn P n k y d e m0 j (ir k y m)) (b:e=UW->d < 3/\y.Ls.length < 4) (c:y.Ls.length<=4) {f:fS->fS} {p:List Bool} (run:∀e o,rD P n (.int (d:Int)) ⟨bR k y.S (UV e) m0 (.listIt 26 j),p++o⟩=UV (UW,⟨bR k y.S (UV (f e)) m1 (.listIt 26 j),o⟩,DI y.S)):rn P n k y d e m0 j (if y.Ls.length < 4 then ir k y m else y):=by
 by_cases a:y.Ls.length < 4
 ·refine ac (if_pos a) ?_;exact h a
 ·refine ac (if_neg a) ?_;induction e with
  |none=>exact absurd (b rfl).2 a
  |some e=>exact(Lk _ _ _ _ (run e) (Qr a (U1 c (by decide))))
theorem w9 {n:Nat} {k:aY} {y:Dy} {d m:Nat} {e:Option fS} (c:m < 3) (hd:¬d < 3) (i:y.b m≠[]->pQ k y m) (l:e=UW->d < 3/\y.Ls.length < 4) {f g:fS->fS} {p q:List Bool} (r1:∀e o,rD P n (.int (d:Int)) ⟨bR k y.S (UV e) m0 (.listIt 26 j),p++o⟩=UV (UW,⟨bR k y.S (UV (f e)) m1 (.listIt 26 j),o⟩,wU m (y.b m)))
  {x:eR} (r2:∀e o,rD P n (.int (d:Int)) ⟨bR k y.S (UV e) m0 (.listIt 26 j),q++o⟩=UV (UW,⟨bR k x (UV (g e)) m1 (.listIt 26 j),o⟩,DJ k y.S m (y.b m) (y.h m) (y.t m) (y.v m))) (r:x=(i6 y m).S):rn P n k y d e m0 j (if y.b m=[] then y else i6 y m):=by
 induction e with
 |none=>exact absurd (l rfl).1 hd
 |some e=>
  by_cases a:y.b m=[]
  ·refine(if_pos a).symm▸ ?_;exact(Lk _ _ _ _ (r1 e) (Qs c a))
  ·refine(if_neg a).symm▸ ?_;exact(Lk _ _ _ _ (r▸r2 e) (Qt c a (i a)))
theorem Op (P:Va) (n:Nat) {k:aY} {y:Dy} (c:0<=k.c3.fmod 40) (i:y.Ls.length<=4) {d:Nat} (hd:d < 6) (f:wW k y d) (e:Option fS) (g:e=UW->d < 3/\y.Ls.length < 4) (m:Option Int) (j:Nat):rn P n k y d e m j (dC k y d):=by
 rcases d with _|_|_|_|_|_|d
 ·exact w8 (λa=>wZ (To P k y.S e m j n) (by show eR.mk _ _ _ _ _ _ _ _ _ _ _ _ _=_;rw[wY,oj];refine ac (show ij k y.S 0 _ _=_ from wX k y 0) ?_;rfl) (by decide) a (f a) c) g i λe=>Tu P k y.S e m j n
 ·exact w8 (λa=>wZ (Tp P k y.S e m j n) (by show eR.mk _ _ _ _ _ _ _ _ _ _ _ _ _=_;rw[wY,oj];refine ac (show ij k y.S 1 _ _=_ from wX k y 1) ?_;rfl) (by decide) a (f a) c) g i λe=>Tw P k y.S e m j n
 ·exact w8 (λa=>wZ (Tq P k y.S e m j n) (by show eR.mk _ _ _ _ _ _ _ _ _ _ _ _ _=_;rw[wY,oj];refine ac (show ij k y.S 2 _ _=_ from wX k y 2) ?_;rfl) (by decide) a (f a) c) g i λe=>Tz P k y.S e m j n
 ·exact w9 (by decide) (by decide) f g (λe=>Tv P k y.S e m j n) (λe=>TC P k y.S e m j n) (by refine ac (show iq k y.S y.S.b0 y.S.h0 y.S.t0 y.S.v0=iq k y.S (y.b 0) (y.h 0) (y.t 0) (y.v 0) from rfl) ?_;rw[Ha];rfl)
 ·exact w9 (by decide) (by decide) f g (λe=>Tx P k y.S e m j n) (λe=>TD P k y.S e m j n) (by refine ac (show iq k y.S y.S.b1 y.S.h1 y.S.t1 y.S.v1=iq k y.S (y.b 1) (y.h 1) (y.t 1) (y.v 1) from rfl) ?_;rw[Ha];rfl)
 ·exact w9 (by decide) (by decide) f g (λe=>TA P k y.S e m j n) (λe=>TE P k y.S e m j n) (by refine ac (show iq k y.S y.S.b2 y.S.h2 y.S.t2 y.S.v2=iq k y.S (y.b 2) (y.h 2) (y.t 2) (y.v 2) from rfl) ?_;rw[Ha];rfl)
 ·exact absurd hd (Nat.not_lt.mpr (Wp 6 d))
def lV (k:aY):Dy->List Nat->Prop
 |_,[]=>True
 |y,d::r=>d < 6/\wW k y d/\lV k (dC k y d) r
theorem xd (k:aY) {y:Dy} (h:y.Ls.length<=4) (d:Nat):(dC k y d).Ls.length<=4:=by
 have w:∀m,(if y.Ls.length < 4 then ir k y m else y).Ls.length<=4:=λm=>by
  by_cases a:y.Ls.length < 4
  ·refine ac (if_pos a) ?_;show(y.Ls++[_]).length<=4;refine ac U8 ?_;show y.Ls.length+1<=4;exact a
  ·exact ac (if_neg a) h
 have o:∀m,(if y.b m=[] then y else i6 y m).Ls.length<=4:=λm=>by
  by_cases c:y.b m=[]
  ·exact ac (if_pos c) h
  ·exact ac (if_neg c) h
 match d with
 |0=>exact w 0
 |1=>exact w 1
 |2=>exact w 2
 |3=>exact o 0
 |4=>exact o 1
 |_+5=>exact o 2
theorem KJ (f:α->Int) (a:List α) (x:α) (r:List α):ay 0 ((a++x::r).map f) a.length=f x:=by refine ac VZ ?_;have:=pB (d:=0) (a.map f) (f x) (r.map f);rwa[Vy] at this
theorem Hb (P:Va) {k:aY} (i:0<=k.c3.fmod 40):∀(r a:List Nat) (y:Dy) (e:Option fS) (m:Option Int) (n:Nat),ii k.c0=(a++r).map (λd:Nat=>(d:Int))->lV k y r->y.Ls.length<=4->r.length<=n->(e=UW->∃d q,r=d::q/\d < 3/\y.Ls.length < 4)->
  ∃e' j pre nds,(∀o,(kY P (n+26)).fl (aU nu) 27 Br [] ⟨bR k y.S e m (.listIt 26 a.length),pre++o⟩=UV (.next,⟨bR k (r.foldl (dC k) y).S (UV e') j .dead,o⟩,nds))/\ao nds:=λr=>by
 induction r with
 |nil=>
  intro a y e m n c _ _ _ l;have f:a.length=21:=by have:=congrArg Xb c;simp only[VW,Vy] at this;exact this.symm.trans (show(ii k.c0).length=21 from rfl)|>.symm▸rfl
  induction e with
  |none=>obtain⟨_,_,h,_⟩:=l rfl;cases h
  |some e=>refine(f).symm▸ ?_;exact⟨e,m,[UY],[decide (21 < 21)=UY],λo=>mW (TG P k y.S m n o (UV e)),rfl,trivial⟩
 |cons d r z=>
  intro a y e m n c p s v l;induction n with
  |zero=>exact absurd v (Zd _)
  |succ n=>
   have g:a.length < 21:=by have:=congrArg Xb c;simp only[Vy,U8,VB] at this;have f:(ii k.c0).length=21:=rfl;lia
   obtain⟨A,B,pre,nds,t,C⟩:=Op P (n+1) i s p.1 p.2.1 e (λh=>by obtain⟨H,q,D,E,F⟩:=l h;cases D;exact⟨E,F⟩) m (a.length+1);obtain⟨e',j,b,w,u,G⟩:=z (a++[d]) (dC k y d) (UV A) B n (by rw[Vi];exact c) p.2.2 (xd k s d) (by simpa using v) (λh=>nomatch h);simp only[U8] at u;have x:=λo=>TF P k y.S m a.length o e;simp only[((c).symm▸(KJ _ a d r):ay 0 (ii k.c0) a.length=(d:Int))] at x;exact⟨e',j,UX::(pre++b),_,λo=>by refine ac Xe ?_;rw[Vi];exact qT (tD (x _) (t (b++o))) (u o),af.mpr ⟨af.mpr ⟨(show ao [decide (a.length < 21)=UX] from⟨decide_eq_true g,trivial⟩),C⟩,G⟩⟩
noncomputable def oY (k:aY):Dy:=⟨[],λa=>k.s,λa=>[],λa=>[],λa=>[]⟩
def ik (a:Int):List Nat:=(ii a).map XS
theorem KL (a:Int):ii a=(ik a).map λd:Nat=>(d:Int):=by
 unfold ik;refine ac Yg ((List.map_id (ii a)).symm.trans (W9 λd b=>?_));have:0<=d:=by unfold ii d9 at b;simp only[Xe,Zh,WJ,Z6,or_false] at b;rcases b with rfl|rfl|rfl|rfl|rfl|rfl|rfl|rfl|rfl|rfl|rfl|rfl|rfl|rfl|rfl|rfl|rfl|rfl|rfl|rfl|rfl<;>first|exact(λx=>(bb x (by decide)).1:∀x:Int,0<=x.fmod 3) _|exact(λx=>(bb x (by decide)).1:∀x:Int,0<=x.fmod 6) _|decide
 exact(VN this).symm
def bo (k:aY):Dy:=(ik k.c0).foldl (dC k) (oY k)
noncomputable def je (y:Dy):List Int:=y.Ls.map Lr.s
theorem DL:∀(c i:Nat),i+c<=100->ao (nv i c)
 |0,_,_=>trivial
 |c+1,i,h=>⟨⟨by decide,by decide⟩,jf (U1 (Vm _ _) h) rfl,DL c (i+1) (by lia)⟩
theorem KM (P:Va) (k:aY) (y:Dy) (e:fS) (m:Option Int) (i:y.Ls.length<=4):jd (bnd (bnd (cG (kY P 59).ex [aw bp.body 6]) tC) (λv=>cj P 9 v) ⟨bR k y.S (UV e) m .dead,[]⟩)=UV (.tup [.list [.ints (y.v 0).l, .ints (y.v 1).l, .ints (y.v 2).l], .ints (je y)],nv 0 y.Ls.length++[(2:Nat)<=U9]):=by
 obtain⟨f,v,t,b,h⟩:=y;rcases f with _|⟨a,_|⟨c,_|⟨d,_|⟨g,_|⟨j,f⟩⟩⟩⟩⟩
 ·exact TH P k (Dy.S ⟨[],v,t,b,h⟩) e m []
 ·exact TI P k (Dy.S ⟨[a],v,t,b,h⟩) e m [] a
 ·exact TJ P k (Dy.S ⟨[a,c],v,t,b,h⟩) e m [] a c
 ·exact TK P k (Dy.S ⟨[a,c,d],v,t,b,h⟩) e m [] a c d
 ·exact TL P k (Dy.S ⟨[a,c,d,g],v,t,b,h⟩) e m [] a c d g
 ·exact absurd i (Nat.not_le.mpr (Wp 5 _))
theorem Oq:ao (G9 0 8):=by
 have a:aK 4 0:=⟨by decide,by decide⟩
 refine⟨rfl,a,by decide,by decide,by decide,by decide,rfl,a,by decide,by decide,by decide,by decide,rfl,a,by decide,by decide,by decide,by decide,rfl,a,by decide,by decide,by decide,by decide,rfl,a,by decide,by decide,by decide,by decide,rfl,a,by decide,by decide,by decide,by decide,rfl,a,by decide,by decide,by decide,by decide,rfl,a,by decide,by decide,by decide,by decide,trivial⟩
theorem xe (st:VY) (h:o= .ints []∨o= .dats []):ao (Bv st o):=⟨rfl,by decide,by decide,by decide,by decide,h,h,h,trivial⟩
theorem KN:ao uJ:=af.mpr ⟨⟨by decide,trivial⟩,af.mpr ⟨xe _ (.inl rfl),af.mpr ⟨xe _ (.inl rfl),af.mpr ⟨xe _ (.inr rfl),rfl,by decide, .inr rfl,trivial⟩⟩⟩⟩
theorem Qu:ao wV:=af.mpr ⟨⟨⟨by decide,by decide⟩,by decide,by decide,rfl,trivial⟩,af.mpr ⟨Oq,rfl,by decide,by decide,by decide,by decide,trivial⟩⟩
theorem xg (k:aY):∀(r:List Nat) (y:Dy),y.Ls.length<=4->(r.foldl (dC k) y).Ls.length<=4
 |[],_,h=>h
 |d::r,y,h=>xg k r _ (xd k h d)
theorem KO (P:Va) {k:aY} (z:lV k (oY k) (ik k.c0)):∃orc qs,bD 0 (bnd (aR (i5 P) gl (sJ P 60) (sK 60) (Gz P (uI P) 2 60) [] [.dat (.ints [k.c0,k.c1,k.c2,k.c3]), .dat (.ints k.L), .dat (.ints k.s.l), .int k.W]) (λv=>cj P 9 v) ⟨[],orc⟩)=
  UV (.tup [.list [.ints ((bo k).v 0).l, .ints ((bo k).v 1).l, .ints ((bo k).v 2).l], .ints (je (bo k))],[],qs)/\ao qs:=by
 obtain⟨q,r,b,c,u,A⟩:=Hb P (k:=k) (bb k.c3 (by decide)).1 (ik k.c0) [] (oY k) UW UW 32 (KL k.c0) z (by show 0<=4;decide) (by show 21<=32;decide) (λa=>⟨_,_,rfl,by have:=bb k.c0 (show(0:Int) < 3 by decide);refine(?_:(k.c0.fmod 3).toNat < 3);exact(WW this.1).mpr this.2,by show 0 < 4;decide⟩)
 have B:(bo k).Ls.length<=4:=xg k _ (oY k) (by show 0<=4;decide)
 obtain⟨D,E⟩:=tB (KM P k (bo k) q r B)
 have t:=af.mpr ⟨DL (bo k).Ls.length 0 (by lia),(show ao [(2:Nat)<=U9] from⟨by decide,trivial⟩)⟩
 refine ez (bA E) λv N O w F G H=>(ez (bA F) λf Q x y I J d=>?_)
 subst d
 simp only[H] at t
 obtain⟨e,g⟩:=af.mp t
 have K:(kY P 59).ex nu ⟨(bR k (Bu k) UW UW .dead).take 18,[UX,UX,UX,UX,UX,UX,UX,UX,UY]++(b++[])⟩=UV (.next,⟨bR k (bo k).S (UV q) r .dead,[]⟩,wV++c):=
  mX (C:=Bt P) (o:=oD P 60) (n:=58) (i:=27) (s:=nu) (by rfl') (by rfl') (TM P k (b++[])) (u [])
 have M:bnd (aR (i5 P) gl (sJ P 60) (sK 60) (Gz P (uI P) 2 60) [] [.dat (.ints [k.c0,k.c1,k.c2,k.c3]), .dat (.ints k.L), .dat (.ints k.s.l), .int k.W]) (λv=>cj P 9 v) ⟨[],[UX,UX,UX,UX,UX,UX,UX,UX,UY]++(b++[])⟩=UV (.tup [.list [.ints ((bo k).v 0).l, .ints ((bo k).v 1).l, .ints ((bo k).v 2).l], .ints (je (bo k))],D,((uJ++((wV++c)++x))++y)++w):=by refine aJ ?_ G;unfold aR;exact aJ (m:=kE (i5 P) ((i5 P).params.zip [.dat (.ints [k.c0,k.c1,k.c2,k.c3]), .dat (.ints k.L), .dat (.ints k.s.l), .int k.W])) (p:=[]) rfl (aJ ((show _=cG (kY P 59).ex ([aw bp.body 0,aw bp.body 1,aw bp.body 2,aw bp.body 3,aw bp.body 4]++nu::[aw bp.body 6]) ⟨Oi P k,[UX,UX,UX,UX,UX,UX,UX,UX,UY]++(b++[])⟩ by rfl').trans (kN (Qp P k ([UX,UX,UX,UX,UX,UX,UX,UX,UY]++(b++[]))) (jK K I))) J)
 refine⟨_,((uJ++((wV++c)++x))++y)++w,ac M rfl,?_⟩
 obtain⟨h,j⟩:=af.mp e
 exact af.mpr ⟨af.mpr ⟨af.mpr ⟨KN,af.mpr ⟨af.mpr ⟨Qu,A⟩,h⟩⟩,j⟩,g⟩
abbrev I9:Sp:=fW (X:=aY) (λvs=>⟨ay 0 (cr (nV vs 0)) 0,ay 0 (cr (nV vs 0)) 1,ay 0 (cr (nV vs 0)) 2,ay 0 (cr (nV vs 0)) 3,cr (nV vs 1),v3 (cr (nV vs 2)),bU (nV vs 3)⟩) (λk=>[.dat (.ints [k.c0,k.c1,k.c2,k.c3]), .dat (.ints k.L), .dat (.ints k.s.l), .int k.W])
 (λk=> .tup [.list [.ints ((bo k).v 0).l, .ints ((bo k).v 1).l, .ints ((bo k).v 2).l], .ints (je (bo k))]) λk=>lV k (oY k) (ik k.c0)
theorem Os (P:Va):bz (aF P) 301 qP (i5 P):=nq PT
theorem Ot (f:cR J):aX (Wz J w) 24 301 I9:=
 dq (X:=aY) (lev:=20) (k:=2) (T:=i5 w.params) (Tb:=uI w.params) (defs:=[]) (spS:=sJ w.params) (spE:=sK) (Os w.params) rfl rfl (λa h=>by cases h;rfl) (c8 (Os w.params))
  (λg os A b c=>⟨bW (fd:=qN) (by rfl') (dH (Du f) (by decide)) b c,bW (fd:=ur) (by rfl') (KC J w) b c,bW (fd:=qO) (by rfl') (dH (G6 J w) (by decide)) b c,trivial⟩) (λN g os A L Z o U b c i p j=>Oh i j) λk l=>by
  exact aG (KO w.params l) λd m e n=>⟨60,d,m,e,n,rfl⟩
end
section
open Sem (wp)
section
theorem ae.go (h:ae c A fz U m t R) {S:St} {a:α} {p:List Prop} (e:m S=UV (a,S',p)) (d:ao p) {Q:β->U7->Prop} (g:SR c fz U S.H s)
  (k:∀f r s' x,Le fz f->U <+:r->SR c f r S'.H s'->R f r a x->Q x s'):Vf (Vg c.prog c.w) A t Q E s:=VF (h S a S' p e d fz U s Q (Le.refl _) (U4 _) g k) (λb b h=>h) λb b z=>z.elim
section
variable {R:GenEnd} {Y:Protocol} {n:Nat} {s₀:U7} {c:Code} {K:Flow->Xh Fin} {H:U2->Xh Fin} {gd:Bool->Bool} {lv:List U2->List U2}
noncomputable def UN (Z:Yi) (K:Flow->Xh Fin) (H:U2->Xh Fin) (gd:Bool->Bool) (lv:List U2->List U2):ZU->Xh Fin:=λr=>((match r with| .ok f=>(.pure f:Xh Flow)| .error e=> .raise e).onRaise λ(x:U2)=>do
    if(<-field x 1)==Xf then unsupported "frame.own-activation:exception-without-traceback"
    setFlight x Z.frame).wrap K H gd lv
theorem KP {t it:Vs} {b e:List VY} (hs:eB it=UY)
  (h:Vf (Vg J w) (A.over c fs) (Wq it Z) (λx s'=>Vf (Vg J w) (A.over c fs) (aaJ x) (λi d=>∀p,ado (Vg J w) A R Y n s₀ (.forLoop t i b e Z) ((Vg J w).den (.forLoop t i b e Z)) (.ret (UN Z K H gd lv) UW (gd UY) (lv []) c p []::fs) d) bE s') bE s):
  ado (Vg J w) A R Y n s₀ c ((aaU (.For t it b e pos) Z).wrap K H gd lv) fs s:=by
 rw[exec_For]
 refine seg_at (?_:ado _ A R Y n s₀ c ((Wq it Z >>= λv=>abR it Z v >>= λx=>WK it.pos >>= λa=>WB [x] (aaJ x) >>= λi=>runOwn (.forLoop t i b e Z) Z).wrap K H gd lv) fs s)
 rw[W5,XT]
 refine aaB (VF h (λx s' g=>?_) λa a z=>z.elim)
 rw[ke hs]
 refine(?_:ado _ A R Y n s₀ c ((WK it.pos >>= λa=>WB [x] (aaJ x) >>= λi=>runOwn (.forLoop t i b e Z) Z).wrap K H gd lv) fs s')
 refine seg_at (?_:ado _ A R Y n s₀ c ((WB [x] (aaJ x) >>= λi=>runOwn (.forLoop t i b e Z) Z).wrap K H gd lv) fs s')
 rw[W5,XT]
 refine aaB (Vo (VF g (λi d f=>?_) λa a z=>z.elim))
 exact seg_call f
noncomputable def DM (t:Vs) (i:U2) (b e:List VY) (Z:Yi):Flow->Xh Fin
 | .next| .cont=> .pure (.again (.forLoop t i b e Z))
 | .brk=> .pure (.done .next)
 | .ret v=> .pure (.done (.ret v))
noncomputable def DN (Z:Yi):U2->Xh Fin:=λx=>(do aaz x Z;X0 x:Xh Unit).wrap (λa=> .raise x) .raise id id
theorem yb {t:Vs} {i:U2} {b e:List VY}
  (h:Vf (Vg J w) (A.over (.forLoop t i b e Z) fs) (aaK i) (λr s'=>match r with
   |none=>ado (Vg J w) A R Y n s₀ (.forLoop t i b e Z) (.pure (.again (.block e Z))) fs s'
   |some v=>Vf (Vg J w) (A.over (.forLoop t i b e Z) fs) (aaQ t i v) (λa d=>Vf (Vg J w) (A.over (.forLoop t i b e Z) fs) (ZG t Z v) (λa c=>
     ado (Vg J w) A R Y n s₀ (.forLoop t i b e Z) ((aaf b Z).wrap (DM t i b e Z) (DN Z) id id) fs c) bE d) bE s') bE s):
  ado (Vg J w) A R Y n s₀ (.forLoop t i b e Z) ((Vg J w).den (.forLoop t i b e Z)) fs s:=by
 show ado _ A R Y n s₀ _ ((acE t i b e Z).onRaise (λx=>do aaz x Z;X0 x)) fs s
 unfold acE
 rw[Sem.onRaise_eq_wrap,W5,XT]
 refine aaB (VL ?_)
 rw[W5,XT]
 refine aaB (X3 (VF h (λr s' g=>?_) λa a z=>z.elim))
 induction r with
 |none=>exact g
 |some v=>
  dsimp only;refine(?_:ado _ A R Y n s₀ _ (((aaQ t i v >>= λa=>ZG t Z v >>= λa=>aaf b Z >>= _)).wrap _ _ _ _) fs s');rw[W5,XT];refine aaB (VF g (λa d j=>?_) λa a z=>z.elim);rw[W5,XT];refine aaB (VF j (λa l k=>?_) λa a z=>z.elim);rw[W5,XT];rw[Sem.wrap_congr (aaf b Z) _ _ (K':=DM t i b e Z) (H':=DN Z) (λf=>by cases f<;>rfl)
   (λe=>by first|exact Sem.bind_eq_wrap _ _|(show(do aaz e Z;X0 e:Xh Unit).bind (λa=> .raise e)=_;rw[Sem.bind_eq_wrap];rfl))]
  exact k
theorem xh {t:Vs} {b e:List VY} 
  (h:Vf (Vg J w) (A.over c fs) (aa4 t Z (Wq t Z)) (λd s'=>ado (Vg J w) A R Y n s₀ c ((if d=UX then aaf b Z else aaf e Z).wrap K H gd lv) fs s') bE s):
  ado (Vg J w) A R Y n s₀ c ((aaU (.If t b e pos) Z).wrap K H gd lv) fs s:=by
 rw[exec_If]
 refine seg_at (?_:ado _ A R Y n s₀ c ((aa4 t Z (Wq t Z) >>= λd=>if d=UX then aaf b Z else aaf e Z).wrap K H gd lv) fs s)
 rw[W5,XT]
 exact aaB (VF h (λd s' f=>f) λa a z=>z.elim)
theorem sM {cx:Cx} (i:cx.prog=J) (j:cx.w=w) {K:β->Xh Fin} {H:U2->Xh Fin} {g:bJ α β} {S:St} {a:α} {p:List Prop}
  (l:ae cx (A.over c fs) fz U m t g) (e:m S=UV (a,S',p)) (d:ao p) (o:SR cx fz U S.H s)
  (k:∀fz' ρ' s' x,Le fz fz'->U <+:ρ'->SR cx fz' ρ' S'.H s'->g fz' ρ' a x->ado (Vg J w) A R Y n s₀ c (K x) fs s'):ado (Vg J w) A R Y n s₀ c (t.wrap K H gd lv) fs s:=by
 subst i j
 exact aaB (VF (l S a S' p e d fz U s _ (Le.refl _) (U4 _) o λfz' ρ' s' x q r f u=>k fz' ρ' s' x q r f u) (λb b h=>h) λb b z=>z.elim)
theorem DO {fr:Frame} (h:ado (Vg J w) A R Y n s₀ (.block [] Z) (acX (.ok .next)) fs s):ado (Vg J w) A R Y n s₀ c (.pure (.again (.block [] Z))) fs s:=seg_again rfl (by refine(?_:ado _ A R Y n s₀ _ _ fs s);exact h)
end
end
end
section
section
def eJ:FT:=dF (cM 3)
abbrev DP:VY:=aw eJ.body 1
abbrev tE:Vs:=(aU DP)
abbrev mf:List VY:=(cL DP)
abbrev i1:VY:=aw mf 0
abbrev i2:VY:=aw mf 1
abbrev y1:VY:=aw mf 2
abbrev a2:VY:=aw mf 3
abbrev j1:VY:=aw (cL i2) 0
abbrev w1:VY:=aw (cL i2) 1
abbrev y2:VY:=aw (cL w1) 0
theorem DS:eJ.body=[aw eJ.body 0, .For tE (uU DP) mf [] (fV DP)]:=by rfl'
theorem TN:mf=[.If (aU i1) (cL i1) [] (fV i1), .If (aU i2) [.If (aU j1) (cL j1) [] (fV j1), .While (aU w1) [.Expr (.Yield (UV (cm (aU y2))) (dK (aU y2))) (fV y2)] [] (fV w1)] [] (fV i2), .Expr (.Yield (UV (cm (aU y1))) (dK (aU y1))) (fV y1),a2]:=by rfl'
def zh (P:Va) (N:Nat):dU:=aZ P [] bZ ce gl N 2
def lW:Ec:=be eJ [] gl (λa=>bk) (λa=>br) 2
def mh (P:Va):bP:=aE (zh P 60) 59 lW
noncomputable def gG (L:List Int):V:= .dat (.ints L)
noncomputable def Rk:Option Int->V
 |none=> .none
 |some v=> .int v
def g0 (o0 o1:O) (L:List Int):List O:=[o0,o1, .frame [("grouping",gG L)]]
def g1 (o0 o1:O) (L:List Int):List O:=[o0,o1, .frame [("grouping",gG L),("last_interval", .none)]]
noncomputable def Rm:Option Int->List (Vb×V)
 |none=>[]
 |some x=>[("interval", .int x)]
def gs (o0 o1:O) (L:List Int) (i:Nat) (li:Option Int) (iv:Option Int):List O:=[o0,o1, .frame (("grouping",gG L)::("last_interval",Rk li)::Rm iv), .datIt (.ints L) i]
section
variable (P:Va) (o0 o1:O) (L:List Int) (i:Nat) (li iv:Option Int) (x:Int) (orc:List Bool)
theorem TO:(mh P).ex (aw eJ.body 0) ⟨g0 o0 o1 L,orc⟩=UV (.next,⟨g1 o0 o1 L,orc⟩,[]):=by rfl'
theorem TP:(mh P).ev (uU DP) ⟨g1 o0 o1 L,orc⟩=UV (gG L,⟨g1 o0 o1 L,orc⟩,[]):=by rfl'
theorem Ou:(zh P 60).iter (gG L) ⟨g1 o0 o1 L,orc⟩=UV (.ref 3,⟨gs o0 o1 L 0 UW UW,orc⟩,[]):=by rfl'
theorem TQ:(zh P 60).nxt 3 ⟨gs o0 o1 L i li iv,UX::orc⟩=UV (UV (.int (ay 0 L i)),⟨gs o0 o1 L (i+1) li iv,orc⟩,[decide (i < L.length)=UX]):=by rfl'
theorem TR:(zh P 60).nxt 3 ⟨gs o0 o1 L i li iv,UY::orc⟩=UV (UW,⟨[o0,o1, .frame (("grouping",gG L)::("last_interval",Rk li)::Rm iv), .dead],orc⟩,[decide (i < L.length)=UY]):=by rfl'
theorem TS:(mh P).asg tE (.int x) ⟨gs o0 o1 L i li iv,orc⟩=UV ((),⟨gs o0 o1 L i li (UV x),orc⟩,[]):=by cases iv<;>rfl'
theorem TU:(mh P).tr (aU i1) ⟨gs o0 o1 L i li (UV x),orc⟩=UV (decide (x=127),⟨gs o0 o1 L i li (UV x),orc⟩,[]):=by rfl'
theorem TV:(mh P).tr (aU i2) ⟨gs o0 o1 L i li (UV x),orc⟩=UV (decide (x=0),⟨gs o0 o1 L i li (UV x),orc⟩,[]):=by rfl'
theorem TW (v:Int):(mh P).tr (aU j1) ⟨gs o0 o1 L i (UV v) (UV x),orc⟩=UV (UY,⟨gs o0 o1 L i (UV v) (UV x),orc⟩,[]):=by rfl'
theorem Ov (v:Int):(mh P).tr (aU w1) ⟨gs o0 o1 L i (UV v) (UV x),orc⟩=UV (UX,⟨gs o0 o1 L i (UV v) (UV x),orc⟩,[]):=by rfl'
theorem Ow (v:Int):(mh P).ev (cm (aU y2)) ⟨gs o0 o1 L i (UV v) (UV x),orc⟩=UV (.int v,⟨gs o0 o1 L i (UV v) (UV x),orc⟩,[]):=by rfl'
theorem TY:(mh P).ev (cm (aU y1)) ⟨gs o0 o1 L i li (UV x),orc⟩=UV (.int x,⟨gs o0 o1 L i li (UV x),orc⟩,[]):=by rfl'
theorem TZ:(mh P).ex a2 ⟨gs o0 o1 L i li (UV x),orc⟩=UV (.next,⟨gs o0 o1 L i (UV x) (UV x),orc⟩,[]):=by rfl'
theorem Qv:(mh P).exs (cL i1) ⟨gs o0 o1 L i li (UV x),orc⟩=UV (.ret .none,⟨gs o0 o1 L i li (UV x),orc⟩,[]):=by rfl'
end
end
end
section
open Sem (wp)
section
structure GS where
 i:Nat
 li:Option Int
 x:Int
 rep:Bool
noncomputable def GS.out (σ:GS):Int:=match σ.rep with
 |true=>σ.li.getD 0
 |false=>σ.x
def tF (L:List Int) (i:Nat) (li:Option Int):Option GS:=if i < L.length then(if ay 0 L i=127 then UW else if ay 0 L i=0 then UV ⟨i+1,li,0,UX⟩ else UV ⟨i+1,li,ay 0 L i,UY⟩) else UW
def Rn (L:List Int) (σ:GS):Option GS:=match σ.rep with
 |true=>UV σ
 |false=>tF L σ.i (UV σ.x)
noncomputable def jj (L:List Int):Nat->Option GS
 |0=>tF L 0 UW
 |j+1=>match jj L j with
  |none=>UW
  |some σ=>Rn L σ
def YG (cx:Cx) (fz₀:Vc) (ρ₀:List U6) (L:List Int) (o0 o1:Nat->O) (N:Nat):Protocol:=λk s₀ v d c=>∃σ ρ' fz' e,jj L (N - 1 - k)=UV σ/\v= .int σ.out e/\Le fz₀ fz'/\ρ₀ <+:ρ'/\
 SR cx fz' ρ' (gs (o0 (N - 1 - k)) (o1 (N - 1 - k)) L σ.i σ.li (UV σ.x)) d/\(k≠0->∀a b,Le fz' a->SR cx a ρ' (gs (o0 (N - k)) (o1 (N - k)) L σ.i σ.li (UV σ.x)) b->c (.send .none) b)
def PG (cx:Cx) (fz₀:Vc) (ρ₀:List U6) (L:List Int) (o0 o1:Nat->O) (N:Nat):Nat->U7->U7->Prop:=λn s₀ c=>jj L (N - n)=UW/\∃fz' ρ' a b,Le fz₀ fz'/\ρ₀ <+:ρ'/\SR cx fz' ρ' [o0 (N - n),o1 (N - n),a,b] c
section
variable {L:List Int} 
abbrev cZ (J:Vz) (w:V6) (g:Vc) (os:d7):Cx:=(Wz J w).cx g os
theorem nw (b:cI g) (d:aP 5 A'):cp (cZ J w g os) A' (zh w.params 60):=
 nP (c:=cZ J w g os) (lev:=2) b qS (λA' a=>gY.x (T:=[]) trivial) dG lim 2 A' d
theorem eM (a:cI g) (b:aP 5 A'):bG (cZ J w g os) A' lW Z (mh w.params):=d5 (nw a b) 59 lW Z
theorem k8 (a:aI (cZ J w g os) lW Z U):bM (cZ J w g os) A' lW Z fz U:=⟨a,dw⟩
theorem KQ (p:cI g) (e:Z.scope.isCoroutine=UY) (f:Yn Z=UY) (q:aP 5 (A.over (.whileLoop (aU w1) [.Expr (.Yield (UV (cm (aU y2))) (dK (aU y2))) (fV y2)] [] Z) fs)) (j:splitAtGen fs=UW) (k:fs.any Frame.guarded=UY) (i:Nat) (v:Int):
  ∀n fz U s s₀,n+1<=N->jj L (N - 1 - n)=UV ⟨i,UV v,0,UX⟩->Le fz₀ fz->ρ₀ <+:U->aI (cZ J w g os) lW Z U->SR (cZ J w g os) fz U (gs (o0 (N - 1 - n)) (o1 (N - 1 - n)) L i (UV v) (UV 0)) s->
  ado (Vg J w) A (λn s₀ r l=>r= .ok (.ret .none)/\PG (cZ J w g os) fz₀ ρ₀ L o0 o1 N n s₀ l) (YG (cZ J w g os) fz₀ ρ₀ L o0 o1 N) (n+1) s₀ (.whileLoop (aU w1) [.Expr (.Yield (UV (cm (aU y2))) (dK (aU y2))) (fV y2)] [] Z)
   ((Vg J w).den (.whileLoop (aU w1) [.Expr (.Yield (UV (cm (aU y2))) (dK (aU y2))) (fV y2)] [] Z)) fs s:=by
 intro n
 induction n with
 |zero=>
  intro fz U s s₀ Q t u y d E;refine seg_whileLoop (((eM p q).tr fz U (k8 d) _).go (Ov w.params _ _ L i 0 [] v) trivial E λF G T x B a b H=>?_);have I:UX=x:=H;refine ac I (ac (if_pos rfl) ?_);refine W8 (acY j rfl k (((eM p q).ev F G (k8 (d.at a)) _).go (Ow w.params _ _ L i 0 [] v) trivial b λK C V z D m c M=>?_) e f);intro O R;cases M with
  |int _ P=>exact⟨_,C,K,P,t,rfl,(u.trans B).trans D,(y.trans a).trans m,c,λh=>absurd rfl h⟩
 |succ n W=>
  intro fz U s s₀ Q t u y d E;refine seg_whileLoop (((eM p q).tr fz U (k8 d) _).go (Ov w.params _ _ L i 0 [] v) trivial E λF G T x B a b H=>?_);refine ac (H:UX=x) (ac (if_pos rfl) ?_);refine W8 (acY j rfl k (((eM p q).ev F G (k8 (d.at a)) _).go (Ow w.params _ _ L i 0 [] v) trivial b λK C V z D m c M=>?_) e f);intro O R;cases M with
  |int _ P=>refine⟨_,C,K,P,t,rfl,(u.trans B).trans D,(y.trans a).trans m,c,λh X S Y o=>?_⟩;refine R _ _ (seg_again rfl ?_);rw[(by lia:N - (n+1)=N - 1 - n)] at o;refine W X C S S (by lia) ?_ (((u.trans B).trans D).trans Y) ((y.trans a).trans m) ((d.at a).at m) o;refine ac (show N - 1 - n=N - 1 - (n+1)+1 by exact(Wm (YO (Ze Q))).symm) ?_;dsimp only[jj];refine ac t ?_;rfl
end
end
section
section
variable {L:List Int} 
abbrev YB:List VY:=[.Expr (.Yield (UV (cm (aU y2))) (dK (aU y2))) (fV y2)]
def Bw (J:Vz) (w:V6) (g:Vc) (os:d7) (A:Vk) (Z:Yi) (fz₀:Vc) (ρ₀:List U6) (L:List Int) (o0 o1:Nat->O) (N:Nat) (fr:Frame) (n:Nat):Prop:=
 ∀fz U s s₀ i li iv it,n+1<=N->jj L (N - 1 - n)=tF L i li->(li=UW->ay 0 L i≠0)->Le fz₀ fz->ρ₀ <+:U->aI (cZ J w g os) lW Z U->U[3]?=UV it->SR (cZ J w g os) fz U (gs (o0 (N - 1 - n)) (o1 (N - 1 - n)) L i li iv) s->
  ado (Vg J w) A (λn s₀ r a=>r= .ok (.ret .none)/\PG (cZ J w g os) fz₀ ρ₀ L o0 o1 N n s₀ a) (YG (cZ J w g os) fz₀ ρ₀ L o0 o1 N) (n+1) s₀ (.forLoop tE (.ref it) mf [] Z)
   ((Vg J w).den (.forLoop tE (.ref it) mf [] Z)) [fr] s
set_option tactic.hygienic true in
theorem mj (y:cI g) (T:Z.scope.isCoroutine=UY) (V:Yn Z=UY) {M:ZU->Xh Fin} {l:List U2} {W:Code} (a2:M (.ok .next)=acX (.ok (.ret .none))) (a3:M (.ok (.ret .none))=acX (.ok (.ret .none)))
  (e:∀it,aP 5 (A.over (.forLoop tE (.ref it) mf [] Z) [.ret M UW UY l W p0 []]))
  (a4:∀it k2 l2 p2,aP 5 (A.over (.whileLoop (aU w1) YB [] Z) [.ret k2 UW UY l2 (.forLoop tE (.ref it) mf [] Z) p2 [], .ret M UW UY l W p0 []]))
  (n:Nat) (ih:∀m,n=m+1->Bw J w g os A Z fz₀ ρ₀ L o0 o1 N (.ret M UW UY l W p0 []) m):Bw J w g os A Z fz₀ ρ₀ L o0 o1 N (.ret M UW UY l W p0 []) n:=by
 intro fz U s f i o iv it hn hs a5 k0 q0 eo B sr
 have I:∀{C ρ' s' c' a b},tF L i o=UW->Le fz C->U <+:ρ'->SR (cZ J w g os) C ρ' [o0 (N - 1 - n),o1 (N - 1 - n),a,b] s'->ado (Vg J w) A (λn f r X=>r= .ok (.ret .none)/\PG (cZ J w g os) fz₀ ρ₀ L o0 o1 N n f X) (YG (cZ J w g os) fz₀ ρ₀ L o0 o1 N) (n+1) f c' (acX (.ok (.ret .none))) [] s':=λ{C ρ' s' c' a b} h k q x=>by
  refine seg_end _ ⟨rfl,?_⟩;have e1:N - (n+1)=N - 1 - n:=by lia
  refine⟨by exact ac e1 (ac hs (ac h rfl)),C,ρ',a,b,k0.trans k,q0.trans q,?_⟩;refine ac e1 ?_;exact x
 refine yb ?_
 by_cases S:i < L.length
 ·refine((nw y (e it)).nxt fz U 3 it B).go (TQ w.params _ _ L i o iv []) ⟨decide_eq_true S,trivial⟩ sr λf1 r1 s1 x k1 O D E=>?_;induction x with
  |none=>exact E.elim
  |some z=>
  refine cy (BX D (i:=3) rfl rfl (ai O B)) λxo nm e1 e2 e3=>?_;refine lj e1 e2 e3 ?_;refine((eM y (e it)).asg f1 r1 (k8 (eo.at O)) _ _ z E).go (TS w.params _ _ L (i+1) o iv _ []) trivial D λf2 r2 s2 c k2 q2 a6 c=>(ac TN ?_)
  refine W8 (xh (((eM y (e it)).tr f2 r2 (k8 ((eo.at O).at q2)) _).go (TU w.params _ _ L (i+1) o _ []) trivial a6 λf3 r3 s3 d k3 q3 Y P=>?_));have p:decide (ay 0 L i=127)=d:=P;have Q:=((eo.at O).at q2).at q3;have F:=(k1.trans k2).trans k3;have t:=(O.trans q2).trans q3;clear P;induction d with
  |true=>
   have j:=of_decide_eq_true p;refine ac (if_pos rfl) (sM (cx:=cZ J w g os) rfl rfl ((eM y (e it)).exs f3 r3 (k8 Q) _) (Qv w.params _ _ L (i+1) o _ []) trivial Y λf4 r4 s4 x k4 R G E=>?_);cases x<;>first|exact E.elim|skip
   rename_i v;refine ac (by cases E;rfl:v= .none) ?_;show ado _ _ _ _ _ _ _ (acX (.ok (.ret .none))) _ _;refine seg_leaf (.ok (.ret .none)) (ac a3 ?_);exact I (by unfold tF;exact ac (if_pos S) (ac (if_pos j) rfl)) (F.trans k4) (t.trans R) G
  |false=>
   have j:=of_decide_eq_false p;refine ac (if_neg VT) (abx ?_);refine W8 (xh (((eM y (e it)).tr f3 r3 (k8 Q) _).go (TV w.params _ _ L (i+1) o _ []) trivial Y λf4 r4 s4 d k4 R G P=>?_));have p:decide (ay 0 L i=0)=d:=P;have u:=Q.at R;clear P;induction d with
   |true=>
    have h0:=of_decide_eq_true p;refine ac (if_pos rfl) ?_;induction o with
    |none=>exact absurd h0 (a5 rfl)
    |some v=>
    refine W8 (xh (((eM y (e it)).tr f4 r4 (k8 u) _).go (TW w.params _ _ L (i+1) _ [] v) trivial G λf5 r5 s5 d k5 K H P=>?_));refine ac (show d=UY from P.symm) (ac (if_neg VT) ?_);refine abx (W8 (seg_While λp2=>?_));rw[h0] at H;exact KQ y T V (a4 it _ _ p2) rfl rfl (i+1) v n f5 r5 s5 f hn (hs.trans (by unfold tF;exact ac (if_pos S) (ac (if_neg j) (ac (if_pos h0) rfl)))) (((k0.trans F).trans k4).trans k5) (((q0.trans t).trans R).trans K) (u.at K) H
   |false=>
    refine ac (if_neg VT) (abx ?_);refine W8 (acY rfl rfl rfl (((eM y (e it)).ev f4 r4 (k8 u) _).go (TY w.params _ _ L (i+1) o _ []) trivial G λf5 r5 s5 z k5 K H hz=>?_) T V);intro a9 hk;have a0:jj L (N - 1 - n)=UV ⟨i+1,o,ay 0 L i,UY⟩:=hs.trans (by unfold tF;exact ac (if_pos S) (ac (if_neg j) (ac (if_neg (of_decide_eq_false p)) rfl)));cases hz with
    |int _ tk=>
    refine⟨_,r5,f5,tk,a0,rfl,((k0.trans F).trans k4).trans k5,((q0.trans t).trans R).trans K,H,λh f6 s6 k6 a7=>?_⟩;refine bI (Nat.exists_eq_succ_of_ne_zero h) λm a8=>?_;subst a8;refine hk _ _ (W8 (sM (cx:=cZ J w g os) rfl rfl ((eM y (e it)).ex f6 r5 (k8 (u.at K)) _) (TZ w.params _ _ L (i+1) o _ []) trivial a7 λf7 r7 s7 x k7 q7 a1 E=>?_));cases x<;>first|exact E.elim|skip
    refine abx (seg_again rfl ?_);rw[show N - m.succ=N - 1 - m by exact(by lia:N - (m+1)=N - 1 - m)] at a1;refine ih m rfl f7 r7 s7 s6 (i+1) (UV (ay 0 L i)) _ it (by exact Wy hn) ?_ (λh=>by cases h) ((((k0.trans F).trans k4).trans k5).trans (k6.trans k7)) ((((q0.trans t).trans R).trans K).trans q7) ((u.at K).at q7) (ai q7 (ai K (ai R (ai t B)))) a1;refine ac (show N - 1 - m=N - 1 - (m+1)+1 by exact(Wm (YO (Ze hn))).symm) ?_;show(match jj L (N - 1 - (m+1)) with
     |none=>UW
     |some σ=>Rn L σ)=_
    refine ac a0 ?_;rfl
 ·refine((nw y (e it)).nxt fz U 3 it B).go (TR w.params _ _ L i o iv []) ⟨decide_eq_false S,trivial⟩ sr λf1 r1 s1 x k1 O D E=>?_;induction x with
  |some=>exact E.elim
  |none=>refine DO (fr:= .ret M UW UY l W p0 []) (seg_leaf (.ok .next) ?_);refine ac a2 ?_;exact I (by unfold tF;exact ac (if_neg S) rfl) k1 O D
end
end
section
section
variable {L:List Int} 
theorem lX {n:Nat} (x:aP (n+k) A) (h1:A'.depth<=A.depth+k) (h2:A'.units<=A.units+10*k) (a:A'.handled=A.handled):aP n A':=
 ⟨by have:=x.depth;exact Vl (U1 (Vt h1 _) (Ve ((Yv _ _ _).trans (congrArg _ (Wi _ _))))) this,by have:=x.units;lia,a.trans x.handled⟩
theorem xi (j:cI g) (a:Z.scope.isCoroutine=UY) (b:Yn Z=UY) {i:ZU->Xh Fin} {l:List U2} {k:Code} (c:i (.ok .next)=acX (.ok (.ret .none))) (d:i (.ok (.ret .none))=acX (.ok (.ret .none)))
  (f:∀it,aP 5 (A.over (.forLoop tE (.ref it) mf [] Z) [.ret i UW UY l k p0 []]))
  (h:∀it o l2 p2,aP 5 (A.over (.whileLoop (aU w1) YB [] Z) [.ret o UW UY l2 (.forLoop tE (.ref it) mf [] Z) p2 [], .ret i UW UY l k p0 []])):
  ∀n,Bw J w g os A Z fz₀ ρ₀ L o0 o1 N (.ret i UW UY l k p0 []) n
 |0=>mj j a b c d f h 0 (λm e=>nomatch e)
 |n+1=>mj j a b c d f h (n+1) (λm e=>by cases e;exact xi j a b c d f h n)
theorem DT (d:cI g) (e:Z.scope.isCoroutine=UY) (f:Yn Z=UY) (i:aP 8 A) (n:Nat) (h0:ay 0 L 0≠0) (F:N=n+1) {s₀:U7} (G:Le fz₀ fz) (q0:ρ₀ <+:U) (j:aI (cZ J w g os) lW Z U)
  (H:SR (cZ J w g os) fz U (g0 (o0 0) (o1 0) L) s):
  ado (Vg J w) A (λn s₀ r c=>r= .ok (.ret .none)/\PG (cZ J w g os) fz₀ ρ₀ L o0 o1 N n s₀ c) (YG (cZ J w g os) fz₀ ρ₀ L o0 o1 N) (n+1) s₀ (.func eJ.body Z) ((Vg J w).den (.func eJ.body Z)) [] s:=by
 have b:aP 5 (A.over (.func eJ.body Z) []):=lX (k:=3) i (by show A.depth+0+1<=A.depth+3;lia) (by show A.units+0+3<=A.units+30;lia) rfl
 refine seg_func (ac DS ?_)
 rw[DS] at b
 refine W8 (sM (cx:=cZ J w g os) rfl rfl ((eM d b).ex fz U (k8 j) _) (TO w.params _ _ L []) trivial H λI K W x M l m o=>?_)
 cases x<;>first|exact o.elim|skip
 refine W8 (KP (by rfl') (((eM d b).ev I K (k8 (j.at l)) _).go (TP w.params _ _ L []) trivial m λv y O x B C q o=>?_))
 refine VF ((nw d b).iter v y _ x o _ _ _ _ (Ou w.params _ _ L []) trivial v y O _ (Le.refl _) (U4 _) q λP Q R z S D t T=>?_) (λa a h=>h) λa a z=>z.elim
 cases T with
 |ref u=>
 intro p
 have E:N - 1 - n=0:=F▸WU n
 exact xi d e f (by rfl) (by rfl) (λV=>lX (k:=3) i (by show A.depth+1+0<=A.depth+3;lia) (by show A.units+3+0<=A.units+30;lia) rfl) (λV B X Y=>lX (k:=3) i (by show A.depth+1+0<=A.depth+3;lia) (by show A.units+3+0<=A.units+30;lia) rfl) n P Q R s₀ 0 UW UW _ (by lia) (ac E rfl) (λa=>h0) (((G.trans M).trans B).trans S) (((q0.trans l).trans C).trans D) (((j.at l).at C).at D) u (ac E t)
end
end
section
theorem HR.keepNew (x:HR c fz U H h) (ob:Xg) (hf:ob.isFreed=UY):∃fz',Le fz fz'/\fz'.get? h.objs.size=UV ob/\HR c fz' U H (h.push ob):=by
 have n:Le h (h.push ob):=λb o e=>Vw _ e;have k:Le fz (sub (h.push ob) λb=>b=h.objs.size∨(fz.get? b).isSome=UX):=λb o e=>dZ (n _ _ (x.fzle b o e)) (.inr (by refine ac e ?_;rfl));have r:∀{b o},h.get? b=UV o->b≠h.objs.size:=λe q=>WT _ (q▸Wc e);have f:∀{b o},h.get? b=UV o->fz.get? b=UW->(sub (h.push ob) λb=>b=h.objs.size∨(fz.get? b).isSome=UX).get? b=UW:=λe q=>fC λ
  | .inl w=>r e w
  | .inr v=>by rw[q] at v;cases v
 refine⟨_,k,dZ (VV _ hf:(h.push ob).get? h.objs.size=UV ob) (.inl rfl),sub_le,x.gle.trans n,λp y=>k _ _ (x.wd p y),x.len,x.inj,λi o e l=>?_,λi d e=>?_,λb o e=>f (x.gle _ _ e) (x.dis b o e),λt z=>?_,x.tdis⟩
 ·exact eX (x.obj i o e l) λa g j m s u A=>(l8 a g j (n _ _ m) s (f m u) (A.mono k (U4 _)))
 ·exact aj (x.fro i d e) λa j m=>(aA a j (m.mono k))
 ·exact fA (x.tab t z) λg j m s u=>(oF g (n _ _ j) (m.mono k) s (f j u))
noncomputable def oZ (os:d7) (gn:Nat) (st:aay):d7:=⟨os.o,λi x=>os.gp i x∨(i=gn/\x=st)⟩
section
variable {os':d7} {gn:Nat} {a b:aay}
theorem Bx (x:HR (cZ J w g os) fz U H h):HR (cZ J w g os') fz U H h:=⟨x.fzle,x.gle,x.wd,x.len,x.inj,x.obj,x.fro,x.dis,x.tab,x.tdis⟩
theorem Ja (x:aI (cZ J w g os) C Z U):aI (cZ J w g os') C Z U:=⟨x.kind,x.names,x.glob,x.loc,x.cells,x.trim⟩
theorem xj (x:SR (cZ J w g (oZ os gn a)) fz U H s) (d:b.bare=UX) (e:∀y,¬os.gp gn y):s.gens[gn]?=UV a/\SR (cZ J w g (oZ os gn b)) fz U H (s.setGen gn b):=by
 have c:=x.bare.kept gn a (.inr ⟨rfl,rfl⟩);refine⟨c,Bx x.hr,x.os,⟨λy f=>?_,λi y j=>?_⟩,x.tk⟩
 ·refine(Array.mem_or_eq_of_mem_setIfInBounds f).elim (λh=>?_) λh=>?_
  ·exact x.bare.bare y h
  ·refine ac h ?_;exact d
 ·refine(?_:(s.gens.setIfInBounds gn b)[i]?=UV y);rcases j with h|⟨rfl,rfl⟩
  ·exact(Array.getElem?_setIfInBounds_ne (λq:gn=i=>e y ((q).symm▸h))).symm▸x.bare.kept i y (.inl h)
  ·exact Array.getElem?_setIfInBounds_self_of_lt ((Array.getElem?_eq_some_iff.mp c).1)
theorem zj (x:SR (cZ J w g (oZ os gn a)) fz U H s):SR (cZ J w g os) fz U H s:=⟨Bx x.hr,x.os,⟨x.bare.bare,λi y h=>x.bare.kept i y (.inl h)⟩,x.tk⟩
theorem KR (x:SR c fz U H s) (n:Nat) (a:n<=H.length) (hf:rC n (H.take n)=UX):SR c fz (U.take n) (H.take n) s:=(x.tz (x.hr.take a hf))
theorem Hc {n:Nat} {ga:U6} {gs:aay} {P:Nat->U7->U7->Prop} {Y:Protocol} {Q:Option U2->U7->Prop} (k:A.handled=UW) (hl:s.heap.NoLimit) (e:A.depth < Wt)
  (h:s.heap.IsGen ga gn) (g:s.gens[gn]?=UV gs) (f:gs.Goes (Vg J w) A.in1 (λn s₀ r c=>r= .ok (.ret .none)/\P n s₀ c) Y n (.send .none) (s.setGen gn .running))
  (l:∀v c d,d.bare=UX->Y (n - 1) (s.setGen gn .running) v c (λp i=>match n with
    |0=>False
    |m+1=>d.Goes (Vg J w) A.in1 (λn s₀ r c=>r= .ok (.ret .none)/\P n s₀ c) Y m p i)->Q (UV v) (c.setGen gn d))
  (q:∀c,P n (s.setGen gn .running) c->∀h',Le c.heap h'->Q UW {c.setGen gn .finished with heap:=h'}):Vf (Vg J w) A (aaK (.ref ga)) Q E s:=by
 dsimp only[aaK]
 refine UZ (Zu (YP (name:=WL "__next__") h.typeIs slot_gen_next (Xn slot_gen_next h.typeIs entry_gen_next ?_ (args_gen_next _))))
 refine(?_:Vf _ A.in1 (aaG (.ref ga) (.send .none)) _ _ s)
 dsimp only[aaG]
 refine UZ (Vo (wpAny_genNumber h (UZ (wpAny_genState g ?_))))
 induction gs with
 |running=>exact f.elim
 |finished=>exact f.elim
 |_=>
  refine UZ (wpAny_roomToWake hl e ?_);refine(?_:Vf _ A.in1 (.resume gn (.send .none) [] _) _ _ s);refine wpAny_resumeQ g f (λx c t=>?_) (λv c d j u=>U3 (aA v rfl (U3 (l v c d j u))));obtain⟨rfl,y⟩:=t;refine(?_:Vf _ _ (newExc (.type "StopIteration") [] >>= _) _ _ _);refine UZ (UZ (V4 ?_ (by size_fits)));refine UZ (m:=aa8 _ _) (XQ (a:=Xf) (by first|rfl|(simp only[aa8];rfl)) ?_);refine V4 ?_ (by size_fits);refine UZ (UZ (wpAny_handled ?_))
  first|rw[show A.in1.handled=UW from k]|rw[k]
  refine wpAny_throw (UZ (Zr (T:="StopIteration") (b:=UX) (aA _ (VV _ rfl) rfl) isSubtype_stop ?_));exact U3 (q c y _ λb o j=>Vw _ (Vw _ j))
end
end
section
abbrev kp:VY:=aw jp.body 1
abbrev sN:Vs:=(aU kp)
abbrev ny:List VY:=(cL kp)
def om:Ec:=be jp [] gl (λa=>bk) (λa=>br) 0
def xk (P:Va):bP:=aE (zh P 60) 59 om
noncomputable def UO:Option Int->List (Vb×V)
 |none=>[]
 |some x=>[("size", .int x)]
def cf (L:List Int) (sz:Option Int):O:= .frame (("ruler",gG L)::("sizes", .ref 1)::UO sz)
section
variable (P:Va) (L:List Int) (W:List V) (sz:Option Int) (a b:O) (x:Int) (orc:List Bool)
theorem Qw:(xk P).asg sN (.int x) ⟨[cf L sz, .list W,a,b],orc⟩=UV ((),⟨[cf L (UV x), .list W,a,b],orc⟩,[]):=by cases sz<;>rfl'
theorem T4:(xk P).exs ny ⟨[cf L (UV x), .list W,a,b],UY::orc⟩=UV (.next,⟨[cf L (UV x), .list (W++[.int x]),a,b],orc⟩,[W.length<=16777216,(W++[V.int x]).length < 4611686018427387904,decide (((W++[V.int x]).length:Int)=7)=UY]):=by rfl'
theorem T5:(xk P).exs ny ⟨[cf L (UV x), .list W,a,b],UX::orc⟩=UV (.brk,⟨[cf L (UV x), .list (W++[.int x]),a,b],orc⟩,[W.length<=16777216,(W++[V.int x]).length < 4611686018427387904,decide (((W++[V.int x]).length:Int)=7)=UX]):=by rfl'
end
end
section
def vG (L:List Int) (j:Nat):Int:=match jj L j with
 |some σ=>σ.out
 |none=>0
noncomputable def fH (L:List Int):Nat->List Int
 |0=>[]
 |j+1=>fH L j++[vG L j]
noncomputable def UP (L:List Int):Nat->Option Int
 |0=>UW
 |j+1=>UV (vG L j)
def oA (L:List Int) (j:Nat):O:=cf L (UP L j)
def oB (L:List Int) (j:Nat):O:= .list ((fH L j).map V.int)
theorem xl (L:List Int):∀j,(fH L j).length=j
 |0=>rfl
 |j+1=>by show(fH L j++[vG L j]).length=_;refine ac U8 (ac (xl L j) ?_);rfl
theorem KS (L:List Int) (j:Nat):oB L (j+1)= .list ((fH L j).map V.int++[.int (vG L j)]):=by refine(?_:O.list ((fH L j++[vG L j]).map V.int)=_);refine ac VZ ?_;rfl
section
variable {L:List Int} {gn:Nat} {ga:U6} {m:Nat} {Rr:ZU->U7->Prop}
abbrev RZ (J:Vz) (w:V6) (g:Vc) (os:d7) (gn:Nat) (fz₀:Vc) (ρ₀:List U6) (L:List Int):GenEnd:=λn s₀ r a=>r= .ok (.ret .none)/\PG (cZ J w g (oZ os gn .running)) fz₀ ρ₀ L (oA L) (oB L) 8 n s₀ a
abbrev YZ (J:Vz) (w:V6) (g:Vc) (os:d7) (gn:Nat) (fz₀:Vc) (ρ₀:List U6) (L:List Int):Protocol:=YG (cZ J w g (oZ os gn .running)) fz₀ ρ₀ L (oA L) (oB L) 8
theorem zk (a:cI g) (b:aP 5 A'):bG (cZ J w g os) A' om Z (xk w.params):=d5 (nw a b) 59 om Z
theorem Qx (hg:cI g) (C:aP 9 A) (hn:∀y,¬os.gp gn y) (hG:fz₀.IsGen ga gn) (eo:aI (cZ J w g os) om Z ρ₀) (hm:m<=7) (a0:∀i,i < m->jj L i≠UW) (he:m=7∨jj L m=UW)
  (y:∀fz' ρ' a b s',Le fz₀ fz'->ρ₀ <+:ρ'->SR (cZ J w g os) fz' ρ' [oA L m,oB L m,a,b] s'->Rr (.ok .next) s'):
  ∀n j fz U s r Q,n+1+j=8->1<=n->j<=m->r.bare=UX->Le fz₀ fz->SR (cZ J w g (oZ os gn r)) fz U (oA L j::oB L j::Q) s->
  (∀fz' s',Le fz fz'->SR (cZ J w g (oZ os gn .running)) fz' U (oA L j::oB L j::Q) s'->r.Goes (Vg J w) A.in1 (RZ J w g os gn fz₀ ρ₀ L) (YZ J w g os gn fz₀ ρ₀ L) (n+1) (.send .none) s')->
  Xz (Vg J w) A (.forLoop sN (.ref ga) ny [] Z) Rr s:=by
 intro n
 induction n with
 |zero=>intro j fz U s r Q _ h;exact absurd h (by decide)
 |succ n ih=>
  intro j fz U s r Q hj h1 D hb k0 R a1;refine XZ (ac (Yz (A:=A) (c:=Code.forLoop sN (.ref ga) ny [] Z) rfl) ?_);show Vf (Vg J w) A ((acE sN (.ref ga) ny [] Z).onRaise (λx=>do aaz x Z;X0 x)) _ _ s;refine X3 (VF (E:=bE) ?_ (λd d h=>h) λd d h=>h.elim);dsimp only[acE];have a2:bv (aF w.params) s.heap:=λp hp=>R.hr.fzle _ _ (R.hr.wd p hp);have e7:8 - 1 - (n+1)=j:=aaP (XA (hj.symm.trans ((Wi _ _).trans rfl)):7=j+(n+1));have e8:8 - (n+1)=j+1:=aaP (hj.symm.trans ((Wi _ _).trans (VU j (n+1) 1)):8=j+1+(n+1));have e9:8 - (n+1+1)=j:=aaP (hj.symm.trans (Wi _ _));obtain⟨a3,a4⟩:=xj R (b:= .running) rfl hn;refine UZ (VL (UZ (X3 (Hc C.handled (lim _ a2) (by have:=C.depth;exact Vl (Vm _ _) this) (hG.keeps (k0.trans R.hr.fzle)) a3 (a1 fz _ (Le.refl _) a4) (λv G z H hY=>?_) λG hP h' a5=>?_))))
  ·refine Um hY λσ ρ' fz' tk e a6 I S f k=>(ac a6 ?_)
   rw[show n+1+1 - 1=n+1 from rfl] at e f k;rw[e7] at e f;rw[e8] at k;have t:j < m:=by
    rcases YL j m with h|h
    ·exact h
    ·have:j=m:=Yw D h;rcases he with T|T
     ·lia
     ·rw[this,T] at e;exact nn e
   have hv:σ.out=vG L j:=by dsimp only[vG];rw[e]
   obtain⟨a9,l⟩:=xj f H hn;refine gO (hG.keeps (I.trans l.hr.fzle)) λog nm qn g1 g2 d=>?_;dsimp only;refine UZ (lj g1 g2 (by decide) ?_);have B:aI (cZ J w g (oZ os gn z)) om Z ρ':=Ja (eo.at S);have a7:aP 5 A:=⟨by have:=C.depth;lia,by have:=C.units;lia,C.handled⟩
   have F:=zk (J:=J) (w:=w) (g:=g) (Z:=Z) (os:=oZ os gn z) hg a7;refine UZ (F.asg fz' ρ' ⟨B,dw⟩ sN _ _ (.int σ.out tk) _ _ _ _ (Qw w.params L _ _ _ _ _ []) trivial fz' ρ' _ _ (Le.refl _) (U4 _) l λW X s2 d k2 Y l d=>?_);have u:((fH L j).map V.int).length=j:=by rw[Vy,xl]
   have K:((fH L j).map V.int).length<=16777216:=by refine ac u ?_;lia
   have o:((fH L j).map V.int++[V.int σ.out]).length=j+1:=by refine ac U8 (ac u ?_);rfl
   have M:O.list ((fH L j).map V.int++[.int σ.out])=oB L (j+1):=by refine ac hv ?_;exact(KS L j).symm
   have N:cf L (UV σ.out)=oA L (j+1):=by refine ac hv ?_;rfl
   by_cases T:j+1=7
   ·have a8:j+1=m:=by lia
    refine UZ (F.exs W X ⟨B.at Y,dw⟩ ny _ _ _ _ (T5 w.params L _ _ _ _ []) ⟨K,by refine(o).symm▸ ?_;lia,by refine ac o (ac T ?_);rfl,trivial⟩ W X s2 _ (Le.refl _) (U4 _) l λf3 r3 s3 x k3 q3 q hx=>?_);cases x<;>first|exact hx.elim|skip
    rw[M,N,a8] at q;exact U3 (y f3 r3 _ _ s3 ((I.trans k2).trans k3) ((S.trans Y).trans q3) (zj q))
   ·refine UZ (F.exs W X ⟨B.at Y,dw⟩ ny _ _ _ _ (T4 w.params L _ _ _ _ []) ⟨K,by refine(o).symm▸ ?_;lia,by refine ac o ?_;exact decide_eq_false (by lia),trivial⟩ W X s2 _ (Le.refl _) (U4 _) l λf3 r3 s3 x k3 q3 q hx=>?_);cases x<;>first|exact hx.elim|skip
    rw[M,N] at q;have hr:ρ'=r3:=(Y.trans q3).eq_of_length (by refine ac f.hr.len (ac q.hr.len ?_);rfl);refine U3 ⟨rfl,ih (j+1) f3 r3 s3 z _ (by lia) (by lia) t H ((I.trans k2).trans k3) q λf4 s4 k4 P=>?_⟩;rw[<-hr] at P;exact k (Nat.succ_ne_zero n) f4 s4 ((k2.trans k3).trans k4) P
  ·refine aN hP λe θ=>(ez θ λfz' ρ' a b I S f=>?_)
   rw[e9] at e f;have t:j=m:=by
    rcases YL j m with h|h
    ·exact absurd e (a0 j h)
    ·exact Yw D h
   subst t;have l:=qH (zj (xj f (b:= .finished) rfl hn).2) a5;dsimp only;exact U3 ⟨rfl,codeAny_block (U3 (y fz' ρ' a b _ I S l))⟩
end
end
section
section
theorem Qy (s:U7) (xs:List U2) (c:bv (aF P) s.heap) (h:xs.length=eJ.params.length):Yd s i9 ⟨xs,[]⟩ (eJ.params.zip xs):=by
 refine bI (AG (h.trans (show eJ.params.length=1 by rfl'))) λa b=>(b.symm▸ ?_)
 exact BindsTo.of_eq (by rfl')
theorem Ox:(28,fO i9)∈aF P:=cA (by rfl')
theorem Oy (h:Vc) (a:bv (aF P) h):h.CodeRec i9.code i9.qualname:=kL (K:=aF P) (c:=27) (by rfl') h a
end
section
variable {L:List Int} 
theorem Oz (R:A.depth < Wt) (f:SR (cZ J w g os) fz U H s) {x:U2} (S:VR fz U (gG L) x)
  (T:∀c fz' fa s' gn ga,c.scope.isCoroutine=UY->Yn c=UY->Le fz fz'->fz'.IsGen ga gn->(∀y,¬os.gp gn y)->aI (cZ J w g os) {lW with fid:=H.length} c (U++[fa])->
   SR (cZ J w g (oZ os gn (.fresh (.func eJ.body c)))) fz' (U++[fa]) (H++[.frame [("grouping",gG L)]]) s'->Q (.ref ga) s'):Vf (Vg J w) A (call (.ref 28) [x] []) Q bE s:=by
 have j:bv (aF w.params) s.heap:=λp t=>f.hr.fzle _ _ (f.hr.wd p t)
 refine Xq (codeAny_call_generator (fd:=i9) (body:=eJ.body) R (j _ Ox) rfl (by rfl') (by rfl') rfl (Oy _ j) ?_)
 refine Qy s [x] j (show _=eJ.params.length by rfl') _ _ _ _ (ZF f.tk ?_)
 refine acK (by rfl') (λy u=>?_) λc l I K z=>?_
 ·have B:∀x∈eJ.params,eJ.scope.names.lookup x=UV .local∨(eJ.scope.names.lookup x=UV .cell/\x∈eJ.cn):=pr (by rfl');rcases B y.1 (aaj u).1 with h|⟨_,h⟩
  ·exact .inl h
  ·cases h
 ·refine aG K.done λm M C e=>?_;subst C;have N:c.locals=s.heap.objs.size:=ac l rfl;have d:c.scope.names=eJ.scope.names:=ac l rfl;have D:=f.hr.exts (k:=e) [s.heap.objs.size] [.frame [("grouping",gG L)]] rfl (by simp) (λa q=>by
     rw[ZE] at q;exact(q).symm▸Vr _) (λi a o q V=>by
     induction i with
     |zero=>obtain rfl:=U0 q;obtain rfl:=U0 V;refine jg K.toInCall.ns λW X Y O Z d3 d4=>?_;rw[N] at O;refine⟨rfl,W,O,_,(cY X Y Z d3 d4),λy=>?_⟩;have:=(nG d [] (λb=>UW) (av.cons S .nil) (λb=>trivial) y (ps:=eJ.params)).mono (Le.refl _) (Vn U [s.heap.objs.size]);exact this
     |succ i=>exact nn q)
  refine⟨lim _ (λp t=>e _ _ (j p t)),?_⟩;refine ca (D.keepNew {cls:= .type "generator",data:= .fields #[.int s.gens.size 0, .str i9.name M, .str i9.qualname (M+1)]} rfl) λE k1 g1 F=>?_;have G:∀y,¬os.gp s.gens.size y:=λy u=>by have:=(Array.getElem?_eq_some_iff.mp (f.bare.kept _ _ u)).1;exact WT _ this
  refine T c E s.heap.objs.size _ s.gens.size m.objs.size (ac l (show i9.scope.isCoroutine=UY by rfl')) (ac l rfl) k1 (QO _ _ _ g1 rfl rfl rfl) G ?_ ⟨Bx F,f.os,⟨?_,?_⟩,U1 z (Vm _ 2)⟩
  ·exact{kind:=(l).symm▸(show i9.scope.kind= .function by rfl')
         names:=d
         glob:=λx v hv h B=>by refine ac (ac l rfl:c.globals=mainGlobals) (ac (ac l rfl:c.builtins=builtinsNs) ?_);exact dG x v hv h B
         loc:=(N).symm▸bj f.hr.len.symm
         cells:=λx n hn=>nomatch hn
         trim:=λb h=>nomatch h}
  ·exact f.bare.bare.push rfl
  ·rintro i y (hi|⟨rfl,rfl⟩)
   ·have P:=f.bare.kept i y hi;have r:i < s.gens.size:=(Array.getElem?_eq_some_iff.mp P).1;refine(?_:(s.gens.push _)[i]?=UV y);exact(acx r).symm▸(ab6 r)▸P
   ·refine(?_:(s.gens.push _)[s.gens.size]?=_);exact ac (Array.getElem?_push_size) rfl
end
end
abbrev pR:Vs:=uU kp
theorem Qz (P:Va) (L:List Int) (orc:List Bool):jW (xk P).ev [.Name "ruler" (dK (ay xz (kz pR) 0))] ⟨[oA L 0,oB L 0],orc⟩=UV ([gG L],⟨[oA L 0,oB L 0],orc⟩,[]):=by rfl'
theorem KT:kp= .For sN (.Call (.Name "_grouping_intervals" (dK (cm pR))) [.Name "ruler" (dK (ay xz (kz pR) 0))] [] (dK pR)) ny [] (fV kp):=by rfl'
def mG (L:List Int):Nat:=((V9 7).takeWhile λj=>(jj L j).isSome).length
def on (L:List Int):Prop:=ay 0 L 0≠0/\mG L<=7/\(∀i,i < mG L->jj L i≠UW)/\(mG L=7∨jj L (mG L)=UW)
def He:M Fl:=nh (λS=>cr (eI S 0 "ruler")) (λL=>[oA L 0,oB L 0]) (λa=>Fl.next) (λL=>[oA L (mG L), .ints (fH L (mG L))]) (λL=>[on L])
section
theorem KU (X:cI g) (u:aP 9 A) (R:aI (cZ J w g os) om Z U):ae (cZ J w g os) A fz U He (aaU kp Z) FR:=by
 intro S fl S' p e z B ρ' s Q k q T y;cases e;refine b9 z λl Y d=>(b9 Y λC D a0=>?_)
 refine aN a0 λE t=>?_;dsimp only at l C D E t y;generalize cr (eI S 0 "ruler")=L at*;rw[l] at T;have a1:aP 5 A:=⟨by have:=u.depth;lia,by have:=u.units;lia,u.handled⟩
 have F:=R.at q;have a2:bv (aF w.params) s.heap:=λp z=>T.hr.fzle _ _ (T.hr.wd p z);have a3:∀x,Z.kindOf x=jp.scope.names.lookup x:=λx=>by show Z.scope.names.lookup x=_;refine ac R.names ?_;rfl
 refine ac KT ?_;rw[exec_For];refine UZ (VL ?_);refine ac (jY (λd d d h=>by cases h)) (UZ (UZ (fj rfl (iS (v:= .ref 28) R.kind ((a3 _).trans (by rfl')) ?_ ?_))))
 ·exact aj (R.glob "_grouping_intervals" (.v (.ref 28)) (by rfl') s.heap a2) λmg g1 g2=>(aA mg g1 g2)
 refine Calls.callWith_function (o:=fO i9) (fd:=i9) (de rfl ?_);refine nD (c:=cZ J w g os) ⟨F,dw⟩ (zk X a1) _ _ B ρ' (Le.refl _) (U4 _) _ _ _ _ (Qz w.params L []) trivial B ρ' s _ (Le.refl _) (U4 _) T λf1 G s1 xs k1 q1 j a4=>?_;cases a4 with
 |cons hx H=>
 cases H;have I:bv (aF w.params) s1.heap:=λp z=>j.hr.fzle _ _ (j.hr.wd p z);refine⟨⟨I _ Ox,rfl⟩,Oz (by have:=u.depth;exact Vl (Vm _ _) this) j hx λa9 f2 fa s2 gn ga a5 a6 k2 hG a7 a8 K=>?_⟩;rw[ke (show eB (.Call (.Name "_grouping_intervals" (dK (cm pR))) [.Name "ruler" (dK (ay xz (kz pR) 0))] [] (dK pR))=UY from rfl)];refine UZ (U3 ?_);refine UZ (VL (UZ (Vo (wpAny_pyIter_gen (hG.keeps K.hr.fzle) ?_))));refine wpAny_runOwn (h:=UW) ?_;refine(show A.mark UW=A by cases A;rfl).symm▸ ?_;have hl:G.length=2:=j.hr.len;refine Qx (fz₀:=f2) (ρ₀:=G) (m:=mG L) X u a7 hG (F.at q1) D E t (λV r3 a b W k3 q3 f=>?_) 7 0 f2 (G++[fa]) s2 _ _ rfl (by decide) (W2 _) rfl (Le.refl _) K λV W k3 f=>?_
 ·have e2:r3.take 2=G:=aD hl ((List.prefix_iff_eq_take.mp q3).symm);have hr:HR (cZ J w g os) V r3 ([oA L (mG L),oB L (mG L),a,b].set 1 (.ints (fH L (mG L)))) W.heap:=f.hr.reO (i:=1) (o₀:=oB L (mG L)) rfl rfl rfl λa' ob h1 h2=>by refine eX (f.hr.obj 1 (oB L (mG L)) rfl rfl) λaa ab M O d d r=>?_;rw[h1] at M;cases M;rw[h2] at O;cases O;exact aG r λvs n e r=>(bL vs n e (av.ints r))
  have P:=KR (⟨hr,f.os,f.bare,f.tk⟩:SR (cZ J w g os) V r3 [oA L (mG L), .ints (fH L (mG L)),a,b] W) 2 (show 2<=4 by decide) (by cases mG L<;>rfl);rw[e2] at P;exact y V G W _ ((k1.trans k2).trans k3) q1 P trivial
 ·exact⟨rfl,DT (A:=A.in1) (N:=8) X a5 a6 (lX (k:=1) u (by show A.depth<=A.depth+1;exact WG _) (by show A.units+1<=A.units+10;lia) rfl) 7 C rfl k3 (Vn _ _) (Ja a8) f⟩
end
end
section
def ro:Nat->Ec->Nat->Option (VY×M Fl):=λN C n=>match VA n 268&&VA C.fid 0 with
 |true=>UV (kp,He)
 |false=>UW
theorem DU {L:Nat} (d:cI g) (e:aP 9 A) (f:aI ((Wz J w).cx g os) (be jp [] gl (ro N) (λa=>br) L) Z U):
  eh ((Wz J w).cx g os) A (be jp [] gl (ro N) (λa=>br) L) Z fz U:=by
 refine⟨λn st m h=>?_,λa a a h=>(nomatch h)⟩
 have b:(match VA n 268&&VA L 0 with
  |true=>UV (kp,He)
  |false=>UW)=UV (st,m):=h
 induction c:VA n 268&&VA L 0 with
 |false=>rw[c] at b;exact nn b
 |true=>rw[c] at b;obtain⟨rfl,rfl⟩:=o4 b;have h0:=VI (Bool.and_eq_true_iff.mp c).2;subst h0;exact KU d e {f with}
theorem DV (P:Va) (L:List Int):bD 0 (bnd (aR jp gl (ro 60) (λa=>br) (Gz P [] 2 60) [] [gG L]) (λv=>cj P 9 v) ⟨[],[]⟩)=UV (.ints (fH L (mG L)),[],[0<=16777216,kp=kp,[oA L 0,oB L 0]=[oA L 0,oB L 0],on L]):=by rfl'
abbrev zl:Sp:=fW (X:=List Int) (λvs=>cr (nV vs 0)) (λL=>[.dat (.ints L)]) (λL=> .ints (fH L (mG L))) on
theorem Hf (J:Vz) (w:V6):aX (Wz J w) 10 265 zl:=
 dq (X:=List Int) (lev:=6) (k:=2) (T:=jp) (Tb:=[]) (defs:=[]) (spS:=ro) (spE:=λa a=>br) Ij rfl rfl (λa h=>nomatch h) (c8 Ij) (λa a a a a=>trivial) (λa a a a a a a a b c a a d=>DU b c d) λL e=>
  ⟨60,[],_,DV w.params L,⟨by decide,rfl,rfl,e,trivial⟩,rfl⟩
abbrev DW:Sp:=fW (X:=Int×Int) (λvs=>(bU (nV vs 0),bU (nV vs 1))) (λx=>[.int x.1, .int x.2]) (λx=> .ints (cV x.1.toNat x.2.toNat (cP x.1 x.2).toNat)) λx=>0<=x.1/\1<=x.2/\x.2<=100/\x.1.natAbs < 2^1000/\0<=cP x.1 x.2/\cP x.1 x.2 < 10
theorem KW (J:Vz) (w:V6):aX (Wz J w) 8 64 DW:=v7 λx e=>by obtain⟨a,b⟩:=x;refine yd e λf g h i c d=>?_;dsimp only at c d;exact⟨A6 (cP a b).toNat,_,C5 J w _,rfl,⟨⟨rfl,rfl,f,g,h,i,(VN c).symm,(WW c).mpr d⟩,trivial⟩⟩
def Jb (P:Va):bC:=[(251,dY P [UY] yQ),(258,dY P [UY] v9),(265,dY P [UY] zl),(301,dY P [UY,UY,UY,UY] I9),(71,dY P [UY,UY] C2),(64,dY P [UY,UY] DW)]
def jk (l:List Int) (i:Nat):Int:=ay 0 (fF l 0 eZ) i
def il (l:List Int):Int:=(jk l 3).fdiv 2400
def pS (l:List Int):List Int:=fH (fT (il l)) (mG (fT (il l)))
def dD (l:List Int):Int:=22+((jk l 3).fdiv 40).fmod 60
def cH (l:List Int):V3:=⟨(jk l 2).fmod 90,((jk l 2).fdiv 90).fmod 9000,(jk l 1).fmod 900000⟩
def dE (l:List Int):aY:=⟨jk l 0,jk l 1,jk l 2,jk l 3,pS l,cH l,dD l⟩
def js (y:Dy):List Int:=(y.v 0).l++(y.v 1).l++(y.v 2).l
def ku (l:List Int):Int:=ek (dD l) (js (bo (dE l))) - ek (dD l) (rep 3 (cH l).l)
def fQ (l:List Int):List Int:=cV (ku l).toNat (dD l).toNat (cP (ku l) (dD l)).toNat
def xm (S:List Int):List Int:=rep 3 [bB S 0,bB S 1,bB S 2]
def nz (Z:List Int):List Int:=rep (9 - (Z.length:Int)).toNat [0]
def Jc (l:List Int):List Prop:=[[V.dat (.ints l)]=[V.dat (.ints l)]/\([]:List O)=[]/\l.length<=63,aK 4 3,(2400:Int)≠0/\(2400:Nat) < 1073741824,
 [V.int (il l)]=[V.int (il l)]/\([]:List O)=[]/\0<=cF (il l)/\cF (il l) < 4,[V.dat (.ints (fT (il l)))]=[V.dat (.ints (fT (il l)))]/\([]:List O)=[]/\on (fT (il l)),
 VP (eP UX ((pS l).map XY))=UX/\VP (eP UX ((g8 (il l)).map XY))=UX,(!eO (pS l) (g8 (il l)))=UY,
 aK 4 2,(90:Int)≠0,aK 4 2,(90:Int)≠0/\(90:Nat) < 1073741824,(9000:Int)≠0,aK 4 1,(900000:Int)≠0,(3:Nat)<=U9,aK 4 3,(40:Int)≠0/\(40:Nat) < 1073741824,(60:Int)≠0]
def Jd (l:List Int):List Prop:=[[V.dat (qW (fF l 0 eZ)), .dat (.ints (pS l)), .dat (.ints (cH l).l), .int (dD l)]=[.dat (qW (fF l 0 eZ)), .dat (.ints (pS l)), .dat (.ints (cH l).l), .int (dD l)]/\([]:List O)=[]/\lV (dE l) (oY (dE l)) (ik (dE l).c0),
 UY=UY,aK 3 0,aK 3 1,(6:Nat)<=U9,aK 3 2,(9:Nat)<=U9,[V.dat (.ints (js (bo (dE l)))), .int (dD l)]=[V.dat (.ints (js (bo (dE l)))), .int (dD l)]/\([]:List O)=[]/\(js (bo (dE l))).length=9/\0<=dD l/\dD l<=100/\∀x∈js (bo (dE l)),x.natAbs < 2^100,(-2^63:Int)<=3/\(3:Int) < 2^63/\(9:Nat)<=U9,
 [V.dat (.ints (rep 3 (cH l).l)), .int (dD l)]=[V.dat (.ints (rep 3 (cH l).l)), .int (dD l)]/\([]:List O)=[]/\(rep 3 (cH l).l).length=9/\0<=dD l/\dD l<=100/\∀x∈rep 3 (cH l).l,x.natAbs < 2^100,[V.int (ku l),V.int (dD l)]=[V.int (ku l),V.int (dD l)]/\([]:List O)=[]/\0<=ku l/\1<=dD l/\dD l<=100/\(ku l).natAbs < 2^1000/\0<=cP (ku l) (dD l)/\cP (ku l) (dD l) < 10]
def Je (Z S:List Int):List Prop:=[Z.length<=U9,(1:Nat)<=U9,VP (eP UX ((jm Z).map XY))=UX/\UX=UX,(!eO (jm Z) [0])=UX,(1:Nat)<=U9,Z.length < 2^62,
 (-2^63:Int)<=9 - (Z.length:Int)/\9 - (Z.length:Int) < 2^63/\1*(9 - (Z.length:Int)).toNat<=U9,Z.length+(nz Z).length<=U9,UX=UX,UX=UX,(0:Nat)<=U9,UX=UX,(1:Nat)<=U9,UX=UX,(2:Nat)<=U9,UY=UY,
 (-2^63:Int)<=3/\(3:Int) < 2^63/\(9:Nat)<=U9,VP (eP UX ((Z++nz Z).map XY))=UX/\UX=UX]
theorem KY (P:Va) (l:List Int):bD 0 (bnd (aR uv gl (λa=>bk) (λa=>br) (Gz P (Jb P) 2 60) [] [.dat (.ints l)]) (λv=>cj P 9 v) ⟨[],[UY,UY,UX,UX,UX,UX,UY,UX,UX,UX]⟩)=
 UV (.bool (eO (fQ l++nz (fQ l)) (xm (je (bo (dE l))))),[],Jc l++(Jd l++Je (fQ l) (je (bo (dE l))))):=by rfl'
theorem Ro (c:Int):1+c % 3=1∨1+c % 3=2∨1+c % 3=3:=by lia
theorem OA (c:Int):cB c=1∨cB c=2∨cB c=3:=by unfold cB;refine ac (V5 _ (by decide)) ?_;exact Ro _
theorem OB (c:Int):di c=1∨di c=2∨di c=3:=by unfold di;refine ac (V5 _ (by decide)) ?_;exact Ro _
theorem DY (c:Int):0<=cF c/\cF c < 4:=by unfold cF;refine ac (V5 _ (by decide)) ?_;exact⟨Int.emod_nonneg _ (by decide),Int.emod_lt_of_pos _ (by decide)⟩
noncomputable def OC (L:List Int):Bool:= !decide (ay 0 L 0=0)&&decide (mG L<=7)&&(V9 (mG L)).all (λi=>(jj L i).isSome)&&(decide (mG L=7)||(jj L (mG L)).isNone)
theorem zm {L:List Int} (h:OC L=UX):on L:=by unfold OC at h;simp only[VO,abL,XV,decide_eq_true_eq,decide_eq_false_iff_not,List.all_eq_true,List.mem_range,Option.isNone_iff_eq_none] at h;exact⟨h.1.1.1,h.1.1.2,(λi a e=>by have:=h.1.2 i a;rw[e] at this;cases this),h.2⟩
def By (R E:List Int):Prop:=∃f s:Int,(f=1∨f=2∨f=3)/\(s=1∨s=2∨s=3)/\((R=[f,s,0,4]/\E=[f,s,s,s,s,s,s])∨(R=[f,0,9]/\E=[f,f,f,f,f,f,f])∨(R=[f,s,127,1]/\E=[f,s])∨(R=[f,s]/\E=[f,s]))
theorem xn (c:Int):By (fT c) (g8 c):=by
 refine(cY (cB c) (di c) (OA c) (OB c) ?_);have:=DY c;rcases(by lia:cF c=0∨cF c=1∨cF c=2∨cF c=3) with h|h|h|h<;>(unfold fT g8;rw[h])
 ·exact .inl ⟨rfl,rfl⟩
 ·exact .inr (.inl ⟨rfl,rfl⟩)
 ·exact .inr (.inr (.inl ⟨rfl,rfl⟩))
 ·exact .inr (.inr (.inr ⟨rfl,rfl⟩))
theorem DZ {R E:List Int} (h:By R E):on R/\fH R (mG R)=E:=by obtain⟨f,s,a,b,h⟩:=h;rcases h with ⟨rfl,rfl⟩|⟨rfl,rfl⟩|⟨rfl,rfl⟩|⟨rfl,rfl⟩<;>rcases a with rfl|rfl|rfl<;>first|exact⟨zm (by decide+kernel),by decide+kernel⟩|(rcases b with rfl|rfl|rfl<;>exact⟨zm (by decide+kernel),by decide+kernel⟩)
def iJ (T:List Int):Prop:=∃f s:Int,(f=1∨f=2∨f=3)/\(s=1∨s=2∨s=3)/\(T=[f,s,s,s,s,s,s]∨T=[f,s])
theorem Hg {R E:List Int} (h:By R E):iJ E:=by
 obtain⟨f,s,a,b,h⟩:=h;rcases h with ⟨_,rfl⟩|⟨_,rfl⟩|⟨_,rfl⟩|⟨_,rfl⟩
 ·exact(cY f s a b (.inl rfl))
 ·exact(cY f f a a (.inl rfl))
 ·exact(cY f s a b (.inr rfl))
 ·exact(cY f s a b (.inr rfl))
noncomputable def aL (Ls:List Lr) (i:Int):Lr:=(Ls[i.toNat]?).getD ⟨0,[],⟨0,0,0⟩,0,""⟩
def dX (Ls:List Lr) (T:List Int) (x:Nat):Nat:=(T.filter λj=>decide ((aL Ls j).s=(x:Int))).length
theorem oq:∀{l1 l2:List Int},l1.Nodup->(∀a∈l1,a∈l2)->l1.length<=l2.length
 |[],_,_,_=>W2 _
 |a::r,l2,g,h=>by have d:=h a (.head _);have c:=List.nodup_cons.mp g;have:=oq (l1:=r) (l2:=l2.erase a) c.2 λb f=>(List.mem_erase_of_ne (λe:b=a=>c.1 (aD e f))).mpr (h b (.tail _ f));simp only[List.length_erase_of_mem d] at this;have:=List.length_pos_of_mem d;refine ac VB ?_;exact Nat.add_le_of_le_sub this ‹_›
theorem ot {A B:List Int} {x:Nat} (nd:A.Nodup) (h:∀j∈A,(aL Ls j).s=(x:Int)->j∈B):dX Ls A x<=dX Ls B x:=
 oq (nd.filter _) λa c=>by exact aN (List.mem_filter.mp c) λd b=>(List.mem_filter.mpr ⟨h a d (of_decide_eq_true b),b⟩)
theorem OD {A B:List Int} {x:Nat} {j:Int} (nd:A.Nodup) (h:∀j∈A,(aL Ls j).s=(x:Int)->j∈B) (d:j∈B) (hs:(aL Ls j).s=(x:Int)) (e:j∉A):dX Ls A x < dX Ls B x:=by
 have:=oq (l1:=j::A.filter λj=>decide ((aL Ls j).s=(x:Int))) (l2:=B.filter λj=>decide ((aL Ls j).s=(x:Int)))
  (List.nodup_cons.mpr ⟨λh=>e (List.mem_filter.mp h).1,nd.filter _⟩) λa b=>by
  rcases List.mem_cons.mp b with rfl|b
  ·exact List.mem_filter.mpr ⟨d,decide_eq_true hs⟩
  ·exact aN (List.mem_filter.mp b) λf c=>(List.mem_filter.mpr ⟨h a f (of_decide_eq_true c),c⟩)
 exact this
structure xp (k:aY) (Ls:List Lr) (i:Int):Prop where
 s:0<=(aL Ls i).s/\(aL Ls i).s < 3
 nd:(aL Ls i).tk.Nodup
 lo:∀j∈(aL Ls i).tk,0<=j/\j < i
 own:∀j,0<=j->j < i->(aL Ls j).s=(aL Ls i).s->j∈(aL Ls i).tk
 cl:∀j∈(aL Ls i).tk,∀l∈(aL Ls j).tk,l∈(aL Ls i).tk
 c:∀x,x < 3->(aL Ls i).c.at x=k.s.at x+dX Ls (aL Ls i).tk x+(if x=(aL Ls i).s.toNat then 1 else 0)
 t:(aL Ls i).t=dj ⟨(aL Ls i).c.a,(aL Ls i).c.b,(aL Ls i).c.c,(aL Ls i).w,10+k.c3.fmod 40,k.L⟩
def jR (k:aY) (Ls:List Lr):Prop:=∀i:Int,0<=i->i < Ls.length->xp k Ls i
structure im (Ls:List Lr) (T:List Int):Prop where
 nd:T.Nodup
 lo:∀j∈T,0<=j/\j < Ls.length
 cl:∀j∈T,∀l∈(aL Ls j).tk,l∈T
theorem im.pre {k:aY} {T:List Int} (h:im Ls T) (a:jR k Ls) {i j:Int} (hi:i∈T) (h0:0<=j) (b:j < i) (hs:(aL Ls j).s=(aL Ls i).s):j∈T:=
 h.cl i hi j ((a i (h.lo i hi).1 (h.lo i hi).2).own j h0 b hs)
theorem xp.set {k:aY} {i:Int} (x:xp k Ls i) (h:i<=Ls.length):im Ls (aL Ls i).tk:=⟨x.nd,λj a=>⟨(x.lo j a).1,by have:=(x.lo j a).2;exact Xk this h⟩,x.cl⟩
theorem OE {k:aY} (e:jR k Ls) {A B:List Int} (f:im Ls A) (d:im Ls B) {j:Int} (c:j∈A) {x:Nat} (hs:(aL Ls j).s=(x:Int)) (h:dX Ls A x<=dX Ls B x):j∈B:=by
 refine abq λg=>?_;have:=OD (Ls:=Ls) (A:=B) (B:=A) (x:=x) d.nd (λb i a=>by
  rcases Int.lt_trichotomy b j with h|h|h
  ·exact f.pre e c (d.lo b i).1 h (a.trans hs.symm)
  ·refine ac h ?_;exact c
  ·exact absurd (d.pre e i (f.lo j c).1 h (hs.trans a.symm)) g) c hs g
 exact absurd h (Nat.not_le_of_lt this)
theorem k9 (v:V3) {x:Nat} (hi:i < 3) (a:x < 3):(bh v i).at x=v.at x+(if x=i then 1 else 0):=by rcases oV hi with rfl|rfl|rfl<;>rcases oV a with rfl|rfl|rfl<;>rfl
theorem xq (v c:V3) (hi:i < 3):sI v c i=UX↔c.at i=v.at i+1/\∀x,x < 3->c.at x<=v.at x+(if x=i then 1 else 0):=by
 unfold sI;rw[decide_eq_true_iff];refine⟨λh=>⟨h.1,λx a=>?_⟩,λh=>⟨h.1,?_,?_,?_⟩⟩
 ·refine aD (k9 v hi a) ?_;rcases oV a with rfl|rfl|rfl
  ·exact h.2.1
  ·exact h.2.2.1
  ·exact h.2.2.2
 ·have:=h.2 0 (by decide);rw[<-k9 v hi (by decide)] at this;exact this
 ·have:=h.2 1 (by decide);rw[<-k9 v hi (by decide)] at this;exact this
 ·have:=h.2 2 (by decide);rw[<-k9 v hi (by decide)] at this;exact this
theorem D1 {k:aY} (g:jR k Ls) {i:Int} (h0:0<=i) (hl:i < Ls.length) {T:List Int} (l:im Ls T) (hi:i∉T) {v:V3} (m:∀x,x < 3->v.at x=k.s.at x+dX Ls T x):
  sI v (aL Ls i).c (aL Ls i).s.toNat=UX↔∀j∈(aL Ls i).tk,j∈T:=by
 have x:=g i h0 hl
 have d:(aL Ls i).s.toNat < 3:=by have:=x.s;exact(WW this.1).mpr this.2
 have n:((aL Ls i).s.toNat:Int)=(aL Ls i).s:=VN x.s.1
 rw[xq _ _ d]
 constructor
 ·rintro⟨z,u⟩ j b;have e:=x.lo j b;have o:=(g j e.1 (by lia)).s;have p:(aL Ls j).s.toNat < 3:=(WW o.1).mpr o.2;refine OE g (x.set (Ww hl)) l b (x:=(aL Ls j).s.toNat) (VN o.1).symm ?_;have:=u _ p;simp only[x.c _ p,m _ p] at this;lia
 ·intro h;have f:∀y,dX Ls (aL Ls i).tk y<=dX Ls T y:=λy=>ot x.nd λj b a=>h j b;have w:dX Ls T (aL Ls i).s.toNat<=dX Ls (aL Ls i).tk (aL Ls i).s.toNat:=ot l.nd λj b r=>by
   have e:=l.lo j b;simp only[n] at r;rcases Int.lt_trichotomy j i with q|q|q
   ·exact x.own j e.1 q r
   ·exact absurd (aD q b) hi
   ·exact absurd (l.pre g b h0 q r.symm) hi
  have A:=f (aL Ls i).s.toNat;refine⟨?_,λy t=>?_⟩
  ·refine ac (x.c _ d) (ac (m _ d) (ac (if_pos rfl) ?_));lia
  ·refine ac (x.c _ t) (ac (m _ t) ?_);have:=f y;lia
section
def jS (k:aY):Prop:=∀x,x < 3->0<=k.s.at x/\k.s.at x<=900000
theorem xt {i:Int} (h0:0<=i) (hl:i < Ls.length):Ls[i.toNat]?=UV (aL Ls i):=by have:i.toNat < Ls.length:=(WW h0).mpr hl;unfold aL;refine ac (VG this) ?_;rfl
theorem rp {i:Int} (h0:0<=i) (hl:i < Ls.length):dg (Ls.map Lr.D) (dM (Ls.map Lr.D).length i)=UV (aL Ls i).D/\bH (Ls.map Lr.D) i=aL Ls i:=by
 obtain⟨n,rfl⟩:=VX h0;have h:dg (Ls.map Lr.D) n=UV (aL Ls (n:Int)).D:=by rw[eF,YH];refine ac (show Ls[n]?=UV (aL Ls (n:Int)) from xt h0 hl) ?_;rfl
 refine⟨h,?_⟩;refine(?_:GW ((dg (Ls.map Lr.D) n).getD .none)=_);exact ac h (NX _)
theorem Jf {i:Int} (h0:0<=i) (hl:i < Ls.length) (c:Ls.length<=4):lT (Ls.map Lr.D) i:=by obtain⟨a,b⟩:=rp h0 hl;refine⟨?_,(b).symm▸a⟩;obtain⟨n,rfl⟩:=VX h0;exact⟨by rw[Vy];exact Int.ofNat_lt.mp hl,by lia⟩
theorem Jg {v:V3} (h:∀x,x < 3->0<=v.at x/\v.at x<=1000000):v.ok:=⟨h 0 (by decide),h 1 (by decide),h 2 (by decide)⟩
theorem QA (u v:V3) (x:Nat):(wJ u v).at x=gz (u.at x) (v.at x):=by rcases x with _|_|x<;>rfl
theorem QB {a b:Int} (h:a < b):gz a b=b:=by unfold gz;exact ac (decide_eq_true h) rfl
theorem QC {a b:Int} (h:b<=a):gz a b=a:=by unfold gz;exact ac (decide_eq_false (by lia)) rfl
theorem jw {T:List Int} (nd:T.Nodup) (lo:∀j∈T,0<=j/\j < Ls.length):T.length<=Ls.length:=by
 have:=oq (l1:=T) (l2:=(V9 Ls.length).map λn:Nat=>(n:Int)) nd λa b=>by exact aN (lo a b) λh0 c=>(List.mem_map.mpr (aA a.toNat (List.mem_range.mpr ((WW h0).mpr c)) (VN h0)))
 rwa[Vy,List.length_range] at this
theorem xu (T:List Int) (x:Nat):dX Ls T x<=T.length:=List.length_filter_le _ _
theorem pT (Ls:List Lr) (T:List Int) (i:Int) (x:Nat):dX Ls (T++[i]) x=dX Ls T x+(if(aL Ls i).s=(x:Int) then 1 else 0):=by
 unfold dX;rw[adw];refine ac U8 ?_;by_cases h:(aL Ls i).s=(x:Int)
 ·refine ac (if_pos h) ?_;rw[List.filter_cons_of_pos (by simpa using h)];rfl
 ·refine ac (if_neg h) ?_;rw[acA (by simpa using h)];rfl
theorem zn {k:Int} {l:List Int}:jF k l=UX↔k∈l:=by
 induction l with
 |nil=>exact⟨λh=>(nomatch h),λh=>(nomatch h)⟩
 |cons a r b=>exact Bool.or_eq_true_iff.trans ((or_congr (decide_eq_true_iff.trans eq_comm) b).trans List.mem_cons.symm)
theorem Hh {tk:List Int}:(cS ts tk).isEmpty=UX↔∀j∈tk,j∈ts:=by
 induction tk with
 |nil=>exact⟨λa a h=>(nomatch h),λa=>rfl⟩
 |cons k r c=>
  refine(?_:(match jF k ts with|true=>cS ts r|false=>k::cS ts r).isEmpty=UX↔_);induction h:jF k ts with
  |true=>exact c.trans ⟨λg j b=>by
    rcases List.mem_cons.mp b with rfl|b
    ·exact zn.mp h
    ·exact g j b,λg j b=>g j (.tail _ b)⟩
  |false=>exact⟨λg=>(nomatch g),λg=>by have:=zn.mpr (g k (.head _));rw[h] at this;cases this⟩
theorem Hi {h:Hd} {hs:List Hd} (a:h∈hs) (nd:(hs.map Hd.n).Nodup):hs.Perm (h::iG h hs):=by
 induction hs with
 |nil=>exact nomatch a
 |cons d r b=>
  refine aN (List.nodup_cons.mp nd) λf g=>(?_:(d::r).Perm (h::(match decide (d.n=h.n)&&eO d.c.l h.c.l with|true=>r|false=>d::iG h r)))
  induction e:decide (d.n=h.n)&&eO d.c.l h.c.l with
  |true=>
   have i:h=d:=by
    refine(List.mem_cons.mp a).elim (λq=>?_) λq=>?_
    ·exact q
    ·have:=of_decide_eq_true (Bool.and_eq_true_iff.mp e).1;exact absurd (List.mem_map.mpr (aA h q this.symm)) f
   rw[i]
  |false=>
   have j:h∈r:=by
    refine(List.mem_cons.mp a).elim (λq=>?_) λq=>?_
    ·rw[q,decide_eq_true rfl,jQ] at e;exact tf e
    ·exact q
   exact((b j g).cons d).trans (.swap ..)
structure kx (k:aY) (Ls:List Lr) (p:PS):Prop where
 T:im Ls p.ts
 v:∀x,x < 3->p.v.at x=k.s.at x+dX Ls p.ts x
 h:∀h∈p.hs,0<=h.n/\h.n < Ls.length/\h.c=(aL Ls h.n).c
 nd:(p.ts++p.hs.map Hd.n).Nodup
section
variable {k:aY} {p:PS} {h:Hd}
theorem kx.rdy (x:kx k Ls p) (c:jR k Ls) (a:h∈p.hs):iH (Ls.map Lr.D) p h=UX↔∀j∈(aL Ls h.n).tk,j∈p.ts:=by refine b9 (x.h h a) λh0 b d=>?_;unfold iH wO;refine ac ((rp h0 b).2) (ac d ?_);refine D1 c h0 b x.T (λe=>?_) x.v;exact(List.nodup_append.mp x.nd).2.2 _ e _ (List.mem_map.mpr (aA h a rfl)) rfl
theorem cn {L t n:Nat} {s B:Int} (a:L<=4) (hl:t<=L) (h1:0<=s/\s<=900000) (h2:n<=t) (b:900004<=B):0<=s+n/\s+n<=B:=⟨W3 h1.1 (Vp n),VM (aaN h1.2 (Int.ofNat_le.mpr (U1 h2 (U1 hl a)))) b⟩
theorem Rp {L t n:Nat} {s B:Int} (a:L<=4) (hl:t<=L) (h1:0<=s/\s<=900000) (h2:n<=t) (b:900005<=B):0<=s+n+1/\s+n+1<=B:=⟨W3 (cn a hl h1 h2 (YA _)).1 (by decide),VM (X8 (cn a hl h1 h2 (YA _)).2 1) b⟩
theorem OF (b:jS k) (c:Ls.length<=4) {T:List Int} (d:T.length<=Ls.length) {v:V3} (e:∀x,x < 3->v.at x=k.s.at x+dX Ls T x):v.ok:=Jg λx a=>by have f:=xu (Ls:=Ls) T x;exact ac (e x a) (cn c d (b x a) f (by decide))
theorem QD (f:jS k) (g:jR k Ls) (a:Ls.length<=4) {i:Int} (h0:0<=i) (h1:i < Ls.length):(aL Ls i).c.ok/\(aL Ls i).tk.length<=4:=by
 have x:=g i h0 h1;have b:=jw x.nd (x.set (Ww h1)).lo;refine⟨Jg λy d=>?_,by lia⟩;have h1:=f y d;have e:=xu (Ls:=Ls) (aL Ls i).tk y;refine ac (x.c y d) ?_;split
 ·exact Rp a b h1 e (by decide)
 ·exact ac (ZB _) (cn a b h1 e (by decide))
theorem Hj (l:jS k) (b:jR k Ls) (c:Ls.length<=4) (x:kx k Ls p) (d:h∈p.hs):kW (Ls.map Lr.D) p h:=by
 refine b9 (x.h h d) λh0 a o=>?_;have e:=(rp h0 a).2;have f:=jw x.T.nd x.T.lo;have q:p.hs.length<=Ls.length:=by
  have:=jw (Ls:=Ls) (T:=p.hs.map Hd.n) (List.nodup_append.mp x.nd).2.1 λj r=>by
   refine aj (List.mem_map.mp r) λg m i=>(aD i ?_)
   exact⟨(x.h g m).1,(x.h g m).2.1⟩
  rwa[Vy] at this
 have t:=QD l b c h0 a;refine⟨Jf h0 a c,(e).symm▸((b _ h0 a).s),by refine(e).symm▸ ?_;lia,OF l c f x.v,o▸t.1,by lia,by lia,d,?_⟩;exact(e).symm▸(Bool.eq_iff_iff.mpr ((x.rdy b d).trans Hh.symm))
end
end
section
section
variable {k:aY} {p:PS} {h:Hd}
theorem KZ (u:jR k Ls) (x:kx k Ls p) (d:h∈p.hs) (f:iH (Ls.map Lr.D) p h=UX):
  kx k Ls ⟨iG h p.hs,p.ts++[h.n],wJ p.v h.c,UX⟩/\((p.ts++[h.n])++(iG h p.hs).map Hd.n).Perm (p.ts++p.hs.map Hd.n)/\p.hs.Perm (h::iG h p.hs):=by
 refine b9 (x.h h d) λh0 i I=>?_
 have w:=List.nodup_append.mp x.nd
 have m:=Hi d w.2.1
 have b:((p.ts++[h.n])++(iG h p.hs).map Hd.n).Perm (p.ts++p.hs.map Hd.n):=by rw[Vi];exact((m.map Hd.n).symm).append_left p.ts
 have E:h.n∉p.ts:=λF=>w.2.2 _ F _ (List.mem_map.mpr (aA h d rfl)) rfl
 have z:=u _ h0 i
 have o:sI p.v h.c (aL Ls h.n).s.toNat=UX:=by unfold iH wO at f;rw[(rp h0 i).2] at f;exact f
 refine aN ((xq _ _ (by have:=z.s;exact(WW this.1).mpr this.2:(aL Ls h.n).s.toNat < 3)).mp o) λA G=>⟨⟨⟨?_,?_,?_⟩,λy B=>?_,λg H=>x.h g (m.mem_iff.mpr (.tail _ H)),b.nodup_iff.mpr x.nd⟩,b,m⟩
 ·have:=(List.nodup_append.mp (b.nodup_iff.mpr x.nd)).1;exact this
 ·intro j r;rcases List.mem_append.mp r with q|q
  ·exact x.T.lo j q
  ·refine ac (List.mem_singleton.mp q) ?_;exact⟨h0,i⟩
 ·intro j r l t;rcases List.mem_append.mp r with q|q
  ·exact List.mem_append.mpr (.inl (x.T.cl j q l t))
  ·rw[List.mem_singleton.mp q] at t;exact List.mem_append.mpr (.inl (((x.rdy u d).mp f) l t))
 ·refine(?_:(wJ p.v h.c).at y=k.s.at y+dX Ls (p.ts++[h.n]) y);rw[QA,pT];have C:=x.v y B;by_cases a:(aL Ls h.n).s=(y:Int)
  ·refine ac (if_pos a) ?_;have e:(aL Ls h.n).s.toNat=y:=congrArg XS a;rw[e] at A;refine ac (QB (by lia)) ?_;rw[A,C];lia
  ·refine ac (if_neg a) ?_;have:=G y B;rw[if_neg (λe=>a (by exact e▸(VN (z.s).1).symm))] at this;refine ac (QC (by lia)) (ac C ?_);lia
structure ou (k:aY) (Ls:List Lr) (p0 p:PS) (r:List Hd):Prop where
 inv:kx k Ls p
 sub:∀h∈r,h∈p.hs
 nd:(r.map Hd.n).Nodup
 perm:(p.ts++p.hs.map Hd.n).Perm (p0.ts++p0.hs.map Hd.n)
 mono:∀j∈p0.ts,j∈p.ts
 len:p.hs.length+(if p.ag=UX then 1 else 0)<=p0.hs.length
 no:p.ag=UY->p.ts=p0.ts/\p.hs=p0.hs/\p.v=p0.v/\∀h∈p.hs,h∉r->iH (Ls.map Lr.D) p h=UY
theorem D2 (l:jR k Ls) {p0:PS} {r:List Hd} (x:ou k Ls p0 p (h::r)):ou k Ls p0 (fP (Ls.map Lr.D) p h) r:=by
 have b:=List.nodup_cons.mp x.nd;refine(?_:ou k Ls p0 (match iH (Ls.map Lr.D) p h with|true=>⟨iG h p.hs,p.ts++[h.n],wJ p.v h.c,UX⟩|false=>p) r);induction f:iH (Ls.map Lr.D) p h with
 |true=>
  refine b9 (KZ l x.inv (x.sub h (.head _)) f) λm o i=>⟨m,λg a=>?_,b.2,o.trans x.perm,λj s=>List.mem_append.mpr (.inl (x.mono j s)),?_,λe=>by cases e⟩
  ·rcases List.mem_cons.mp (i.mem_iff.mp (x.sub g (.tail _ a))) with q|q
   ·exact absurd (List.mem_map.mpr (aA g a (congrArg Hd.n q))) b.1
   ·exact q
  ·have:=i.length_eq;simp only[VB] at this;have B:=x.len;refine(?_:(iG h p.hs).length+(if UX=UX then 1 else 0)<=_);refine ac (if_pos rfl) ?_;lia
 |false=>
  refine⟨x.inv,λg a=>x.sub g (.tail _ a),b.2,x.perm,x.mono,x.len,λe=>?_⟩;refine pZ (x.no e) λt u w y=>⟨t,u,w,λg a z=>?_⟩
  by_cases q:g=h
  ·refine ac q ?_;exact f
  ·exact y g a λA=>by
    rcases List.mem_cons.mp A with d|d
    ·exact q d
    ·exact z d
theorem D3 (b:jS k) (a:jR k Ls) (c:Ls.length<=4) {p0:PS} (r:List Hd) {p:PS} (x:ou k Ls p0 p r):kX (Ls.map Lr.D) p r/\ou k Ls p0 (r.foldl (fP (Ls.map Lr.D)) p) []:=by
 induction r generalizing p with
 |nil=>exact⟨trivial,x⟩
 |cons h r d=>exact aN (d (D2 a x)) λe f=>⟨⟨Hj b a c x.inv (x.sub h (.head _)),e⟩,f⟩
theorem K1 (b:jS k) (c:jR k Ls) (d:Ls.length<=4) (x:kx k Ls p):kX (Ls.map Lr.D) {p with ag:=UY} p.hs/\ou k Ls p (bq (Ls.map Lr.D) p) []:=
 D3 b c d p.hs ⟨⟨x.T,x.v,x.h,x.nd⟩,λa h=>h,(List.nodup_append.mp x.nd).2.1, .refl _,λa h=>h,by show p.hs.length+(if UY=UX then 1 else 0)<=_;refine ac (if_neg (by decide)) ?_;exact Vr _,λa=>⟨rfl,rfl,rfl,λh e f=>absurd e f⟩⟩
structure Hk (k:aY) (Ls:List Lr) (p q:PS):Prop where
 inv:kx k Ls q
 perm:(q.ts++q.hs.map Hd.n).Perm (p.ts++p.hs.map Hd.n)
 mono:∀j∈p.ts,j∈q.ts
 no:∀h∈q.hs,iH (Ls.map Lr.D) q h=UY
theorem K2 (i:jS k) (l:jR k Ls) (m:Ls.length<=4) (f:Nat) {p:PS} (x:kx k Ls p) (h:p.hs.length < f) (b:p.hs.length<=10):ig (Ls.map Lr.D) f p/\Hk k Ls p (dT (Ls.map Lr.D) f p):=by
 induction f generalizing p with
 |zero=>exact absurd h (W7 _)
 |succ f n=>
  refine aN (K1 i l m x) λd y=>(?_:(kX (Ls.map Lr.D) {p with ag:=UY} p.hs/\p.hs.length<=10/\((bq (Ls.map Lr.D) p).ag=UX->ig (Ls.map Lr.D) f (bq (Ls.map Lr.D) p)))/\Hk k Ls p (match(bq (Ls.map Lr.D) p).ag with|true=>dT (Ls.map Lr.D) f (bq (Ls.map Lr.D) p)|false=>bq (Ls.map Lr.D) p))
  have o:=y.len;induction g:(bq (Ls.map Lr.D) p).ag with
  |true=>rw[g,if_pos rfl] at o;exact aN (n y.inv (by lia) (by lia)) λq c=>⟨⟨d,b,λa=>q⟩,⟨c.inv,c.perm.trans y.perm,λj r=>c.mono j (y.mono j r),c.no⟩⟩
  |false=>exact⟨⟨d,b,λe=>by cases e⟩,⟨y.inv,y.perm,y.mono,λh s=>(y.no g).2.2.2 h s (by simp)⟩⟩
end
end
section
structure iu (k:aY) (y:Dy):Prop where
 len:y.Ls.length<=4
 L:jR k y.Ls
 own:∀m:Nat,m < 3->∀i:Int,0<=i->i < y.Ls.length->(aL y.Ls i).s=(m:Int)->i∈y.t m
 T:∀m,m < 3->im y.Ls (y.t m)
 V:∀m,m < 3->∀x,x < 3->(y.v m).at x=k.s.at x+dX y.Ls (y.t m) x
 H:∀m,m < 3->∀h∈y.h m,0<=h.n/\h.n < y.Ls.length/\h.c=(aL y.Ls h.n).c
 nr:∀m,m < 3->∀h∈y.h m,¬∀j∈(aL y.Ls h.n).tk,j∈y.t m
 nd:∀m,m < 3->((y.t m++(y.h m).map Hd.n)++y.b m).Nodup
 all:∀m,m < 3->∀i:Int,i∈(y.t m++(y.h m).map Hd.n)++y.b m↔0<=i/\i < y.Ls.length
 bl:∀i,(y.b i).length<=y.Ls.length
theorem OG (k:aY):iu k (oY k) where
 len:=W2 _
 L:=λi h0 c=>absurd c (by show¬i < ((0:Nat):Int);exact Int.not_lt.mpr h0)
 own:=λm b i h0 c=>absurd c (by show¬i < ((0:Nat):Int);exact Int.not_lt.mpr h0)
 T:=λm b=>⟨.nil,λa h=>(nomatch h),λa h=>(nomatch h)⟩
 V:=λm b x e=>(ZB _).symm
 H:=λm b h d=>nomatch d
 nr:=λm b h d=>nomatch d
 nd:=λm b=> .nil
 all:=λm b i=>⟨λh=>(nomatch h),λh=>by have f:i < ((0:Nat):Int):=h.2;exact absurd h.1 (Int.not_le.mpr h.2)⟩
 bl:=λa=>Vr _
theorem rq {f:Nat->α} {m:Nat} {a:α}:upd f m a m=a:=by refine(?_:(match VA m m with|true=>a|false=>f m)=a);rw[abh]
theorem rr {f:Nat->α} {m:Nat} {a:α} (h:i≠m):upd f m a i=f i:=by refine(?_:(match VA i m with|true=>a|false=>f i)=f i);exact ac (show VA i m=UY from Bool.eq_false_iff.mpr λe=>h (VI e)) rfl
section
variable {k:aY} {y:Dy} {r:Lr}
theorem OH {i:Int} (h1:i < Ls.length):aL (Ls++[r]) i=aL Ls i∨i < 0:=by
 by_cases h0:0<=i
 ·refine .inl ?_;unfold aL;exact ac (Wl ((WW h0).mpr h1)) rfl
 ·exact .inr (Int.not_le.mp h0)
theorem ft {i:Int} (h0:0<=i) (h1:i < Ls.length):aL (Ls++[r]) i=aL Ls i:=(OH h1).resolve_right (Int.not_lt.mpr h0)
theorem D4:aL (Ls++[r]) (Ls.length:Int)=r:=by unfold aL;rw[Vx,VS (Vr _),WU];rfl
theorem ow {T:List Int} (a:∀j∈T,0<=j/\j < Ls.length) (x:Nat):dX (Ls++[r]) T x=dX Ls T x:=by unfold dX;congr 1;exact List.filter_congr λj b=>(ac (ft (a j b).1 (a j b).2) rfl)
theorem Hl (n:jR k Ls) (o:xp k (Ls++[r]) Ls.length):jR k (Ls++[r]):=λi h0 g=>by
 simp only[U8,YR] at g;by_cases h:i=Ls.length
 ·refine(h).symm▸ ?_;exact o
 ·have a:i < Ls.length:=Int.lt_iff_le_and_ne.mpr ⟨Zf g,h⟩;have x:=n i h0 a;have e:=ft (r:=r) h0 a;refine⟨(e).symm▸x.s,(e).symm▸x.nd,(e).symm▸x.lo,λj b d f=>?_,?_,λz p=>?_,(e).symm▸x.t⟩
  ·rw[e] at f ⊢;rw[ft b (XF d a)] at f;exact x.own j b d f
  ·refine(e).symm▸ ?_;intro j b l m;rw[ft (x.lo j b).1 (by have:=(x.lo j b).2;exact XF this a)] at m;exact x.cl j b l m
  ·refine ac e ?_;rw[ow (x.set (Ww a)).lo];exact x.c z p
theorem xw {T:List Int} (a:im Ls T):im (Ls++[r]) T:=⟨a.nd,λj b=>⟨(a.lo j b).1,by have:=(a.lo j b).2;refine ac U8 ?_;exact Xk this (Int.ofNat_le.mpr (WG _))⟩,λj b l c=>by rw[ft (a.lo j b).1 (a.lo j b).2] at c;exact a.cl j b l c⟩
theorem D5 (x:iu k y) {m:Nat} (D:m < 3) (M:y.Ls.length < 4):iu k (ir k y m):=by
 have g:=x.T m D;have f:=D4 (Ls:=y.Ls) (r:=y.new k m);have E:∀{i:Nat},i < 3->(y.Ls.length:Int)∉(y.t i++(y.h i).map Hd.n)++y.b i:=λo h=>by exact Int.lt_irrefl _ ((x.all _ o _).mp h).2
 have p:((y.Ls++[y.new k m]).length:Int)=y.Ls.length+1:=by refine ac U8 ?_;rfl
 have R:xp k (y.Ls++[y.new k m]) y.Ls.length:=by
  refine⟨?_,?_,?_,?_,?_,?_,?_⟩
  ·refine ac f ?_;exact⟨Vp m,by show(m:Int) < 3;exact Int.ofNat_le.mpr D⟩
  ·refine ac f ?_;exact g.nd
  ·refine ac f ?_;exact g.lo
  ·intro j h0 G I;rw[f] at I ⊢;rw[ft h0 G] at I;exact x.own m D j h0 G I
  ·refine ac f ?_;intro j u l J;rw[ft (g.lo j u).1 (g.lo j u).2] at J;exact g.cl j u l J
  ·intro z K;refine ac f (?_:(bh (y.v m) m).at z=k.s.at z+dX (y.Ls++[y.new k m]) (y.t m) z+(if z=((m:Nat):Int).toNat then 1 else 0));refine ac (k9 _ D K) ?_;rw[x.V m D z K,ow g.lo,Vx]
  ·refine ac f ?_;rfl
 have S:im (y.Ls++[y.new k m]) (y.t m++[(y.Ls.length:Int)]):=by
  refine⟨List.nodup_append.mpr ⟨g.nd,by simp,λa X b U e=>(λh=>E D (List.mem_append.mpr (.inl (List.mem_append.mpr (.inl h)))):(y.Ls.length:Int)∉y.t m) ?_⟩,λj u=>?_,λj u l J=>?_⟩
  ·rw[ZE] at U;refine aD U (aD e ?_);exact X
  ·refine ac p ?_;rcases List.mem_append.mp u with q|q
   ·exact⟨(g.lo j q).1,XF (g.lo j q).2 (abP _)⟩
   ·refine ac (List.mem_singleton.mp q) ?_;exact⟨Vp _,abP _⟩
  ·rcases List.mem_append.mp u with q|q
   ·exact List.mem_append.mpr (.inl ((xw (r:=y.new k m) g).cl j q l J))
   ·rw[List.mem_singleton.mp q,f] at J;exact List.mem_append.mpr (.inl J)
 have w:∀i,(ir k y m).t i=if i=m then y.t m++[(y.Ls.length:Int)] else y.t i:=λi=>by
  by_cases h:i=m
  ·refine ac (if_pos h) (ac h ?_);exact rq
  ·refine ac (if_neg h) ?_;exact rr h
 have N:∀i,(ir k y m).b i=if i=m then y.b i else y.b i++[(y.Ls.length:Int)]:=λi=>by
  refine(?_:(match VA i m with|true=>y.b i|false=>y.b i++[(y.Ls.length:Int)])=_);by_cases h:i=m
  ·refine ac (if_pos h) ?_;rw[h,abh]
  ·refine ac (if_neg h) ?_;rw[show VA i m=UY from Bool.eq_false_iff.mpr λe=>h (VI e)]
 have F:∀i,(((ir k y m).t i++(y.h i).map Hd.n)++(ir k y m).b i).Perm ((y.Ls.length:Int)::((y.t i++(y.h i).map Hd.n)++y.b i)):=λi=>by
  rw[w,N];by_cases h:i=m
  ·refine ac (if_pos h) ?_;rw[if_pos h,<-h];have G:(y.t i++[(y.Ls.length:Int)]).Perm ((y.Ls.length:Int)::y.t i):=ab9 _ _;exact((G.append_right _).append_right _)
  ·refine ac (if_neg h) ?_;rw[if_neg h,<-Vi];exact ab9 _ _
 refine⟨?_,(Hl x.L R),λi o j h0 G I=>?_,λi o=>?_,λi o z K=>?_,λi o h Q=>?_,λi o h Q O=>?_,λi o=>?_,λi o j=>?_,λi=>?_⟩
 ·refine(?_:(y.Ls++[y.new k m]).length<=4);refine ac U8 (ac YR ?_);exact M
 ·rw[w];have Y:j < y.Ls.length+1:=by refine aD p ?_;exact G
  by_cases u:j=y.Ls.length
  ·have A:(aL (y.Ls++[y.new k m]) j).s=(i:Int):=I;rw[u,f] at A;have d:i=m:=(adx (show(m:Int)=(i:Int) from A)).symm;refine ac (if_pos d) ?_;rw[u];exact List.mem_append.mpr (.inr (by simp))
  ·have A:(aL (y.Ls++[y.new k m]) j).s=(i:Int):=I;rw[ft h0 (by lia)] at A;have:=x.own i o j h0 (by lia) A;by_cases d:i=m
   ·refine ac (if_pos d) ?_;rw[<-d];exact List.mem_append.mpr (.inl this)
   ·refine ac (if_neg d) ?_;exact this
 ·rw[w];by_cases d:i=m
  ·refine ac (if_pos d) ?_;exact S
  ·refine ac (if_neg d) ?_;exact xw (x.T i o)
 ·refine(?_:(upd y.v m (bh (y.v m) m) i).at z=k.s.at z+dX (y.Ls++[y.new k m]) ((ir k y m).t i) z);rw[w];by_cases d:i=m
  ·subst d;refine ac rq ?_;rw[if_pos rfl,k9 _ D K,x.V i D z K,pT,ow g.lo,f];refine(?_:_=k.s.at z+((dX y.Ls (y.t i) z+if((i:Nat):Int)=(z:Int) then 1 else 0:Nat):Int));by_cases C:z=i
   ·refine ac (if_pos C) (ac (if_pos (congrArg adf C.symm)) ?_);lia
   ·refine ac (if_neg C) (ac (if_neg λe=>C (adx e).symm) ?_);lia
  ·refine ac (rr d) ?_;rw[if_neg d,ow (x.T i o).lo];exact x.V i o z K
 ·refine b9 (x.H i o h Q) λP a2 W=>⟨P,?_,?_⟩
  ·refine(?_:h.n < ((y.Ls++[y.new k m]).length:Int));refine ac p ?_;exact Xk a2 (Int.ofNat_le.mpr (WG _))
  ·refine(?_:h.c=(aL (y.Ls++[y.new k m]) h.n).c);refine ac (ft P a2) ?_;exact W
 ·refine b9 (x.H i o h Q) λP a2 W=>(x.nr i o h Q λj u=>?_)
  have B:j∈(ir k y m).t i:=O j (by show j∈(aL (y.Ls++[y.new k m]) h.n).tk;refine ac (ft P a2) ?_;exact u);rw[w] at B;by_cases d:i=m
  ·rw[if_pos d] at B;rcases List.mem_append.mp B with q|q
   ·refine ac d ?_;exact q
   ·have:=((x.L h.n P a2).lo j u).2;rw[List.mem_singleton.mp q] at this;exact absurd (XF this a2) (Int.lt_irrefl _)
  ·rw[if_neg d] at B;exact B
 ·exact(F i).nodup_iff.mpr (List.nodup_cons.mpr ⟨E o,x.nd i o⟩)
 ·refine(?_:_↔0<=j/\j < ((y.Ls++[y.new k m]).length:Int));refine ac p (((F i).mem_iff).trans (List.mem_cons.trans ⟨λh=>?_,λh=>?_⟩))
  ·rcases h with rfl|h
   ·exact⟨Vp _,abP _⟩
   ·exact⟨((x.all i o j).mp h).1,XF ((x.all i o j).mp h).2 (abP _)⟩
  ·by_cases q:j=y.Ls.length
   ·exact .inl q
   ·exact .inr ((x.all i o j).mpr ⟨h.1,Int.lt_iff_le_and_ne.mpr ⟨Zf h.2,q⟩⟩)
 ·refine(?_:_<=(y.Ls++[y.new k m]).length);rw[N,U8];have:=x.bl i;by_cases h:i=m
  ·refine ac (if_pos h) ?_;exact abl this
  ·refine ac (if_neg h) ?_;rw[U8];show(y.b i).length+1<=y.Ls.length+1;exact WE this
end
end
section
def jt (k:aY):Prop:=∀d:Lt,d.L=k.L->(∀x,x < 3->0<=d.n x/\d.n x<=999999)->10<=d.W->eW d/\rf (dj d) d.a d.b d.c d.L d.w
section
variable {k:aY} {y:Dy}
theorem D6 (f:jS k) (g:jR k Ls) (a:Ls.length<=4) {i:Int} (h0:0<=i) (h1:i < Ls.length):∀x,x < 3->0<=(aL Ls i).c.at x/\(aL Ls i).c.at x<=999999:=λy b=>by
 have x:=g i h0 h1;have d:=jw x.nd (x.set (Ww h1)).lo;have h1:=f y b;have e:=xu (Ls:=Ls) (aL Ls i).tk y;refine ac (x.c y b) ?_;split
 ·exact Rp a d h1 e (by decide)
 ·exact ac (ZB _) (cn a d h1 e (by decide))
theorem Hm {b:List Int} (h:b≠[]):b=b.dropLast++[gN b]:=by
 have e:gN b=b.getLast h:=by
  have a:b.length - 1 < b.length:=by have:=List.length_pos_iff.mpr h;exact Yx this YC
  have c:=gK (d:=(0:Int)) a;simp only[VG a] at c;rw[List.getLast_eq_getElem];exact(U0 c).symm
 refine ac e ?_;exact(Zm h).symm
structure UQ (k:aY) (y:Dy) (m:Nat):Prop where
 num:0<=y.num m/\y.num m < y.Ls.length
 got:y.got m=aL y.Ls (y.num m)
 p:kx k y.Ls (y.tk m)
 perm:((y.tk m).ts++(y.tk m).hs.map Hd.n++(y.b m).dropLast).Perm ((y.t m++(y.h m).map Hd.n)++y.b m)
 hs:(y.h m).length<=4
 b:(y.b m).length<=4
theorem Hn (x:iu k y) {m:Nat} (e:m < 3) (l:y.b m≠[]):UQ k y m:=by
 have g:=Hm l;have a:0<=y.num m/\y.num m < y.Ls.length:=(x.all m e _).mp (List.mem_append.mpr (.inr (ac g (List.mem_append.mpr (.inr (List.mem_singleton.mpr rfl))))));have i:y.got m=aL y.Ls (y.num m):=(rp a.1 a.2).2;have d:((y.tk m).ts++(y.tk m).hs.map Hd.n++(y.b m).dropLast).Perm ((y.t m++(y.h m).map Hd.n)++y.b m):=by refine(?_:(y.t m++(y.h m++[(⟨y.num m,(y.got m).c⟩:Hd)]).map Hd.n++(y.b m).dropLast).Perm _);refine ac VZ ?_;rw[<-Vi (y.t m)];refine ac (Vi _ _ (y.b m).dropLast) ?_;refine List.Perm.append_left _ ?_;have:(([(⟨y.num m,(y.got m).c⟩:Hd)].map Hd.n)++(y.b m).dropLast).Perm ((y.b m).dropLast++[gN (y.b m)]):=List.perm_append_comm;simp only[<-g] at this;exact this
 have f:=jw (Ls:=y.Ls) (x.nd m e) λj o=>(x.all m e j).mp o;simp only[U8,U8,Vy] at f;have r:=x.len;refine⟨a,i,⟨x.T m e,x.V m e,λh p=>?_,(List.nodup_append.mp (d.nodup_iff.mpr (x.nd m e))).1⟩,d,by lia,by lia⟩;refine(List.mem_append.mp p).elim (λq=>?_) λq=>?_
 ·exact x.H m e h q
 ·exact ac (List.mem_singleton.mp q) ⟨a.1,a.2,congrArg Lr.c i⟩
theorem zo (a:jS k) (x:iu k y) {m:Nat} (c:m < 3) (d:y.b m≠[]):ig (y.Ls.map Lr.D) 13 (y.tk m)/\Hk k y.Ls (y.tk m) (y.tr m):=by
 have o:=Hn x c d;have e:(y.tk m).hs.length<=5:=by refine(?_:(y.h m++[_]).length<=5);refine ac U8 (ac YR ?_);have:=o.hs;lia
 exact K2 a x.L x.len 13 o.p (by lia) (by lia)
theorem OI (C:jS k) (x:iu k y) {m:Nat} (w:m < 3) (A:y.b m≠[]):iu k (i6 y m):=by
 refine aN (zo C x w A) λc d=>?_;have s:∀{α:Type} (f:Nat->α) (a:α) (i:Nat),upd f m a i=if i=m then a else f i:=λf a i=>by
  by_cases h:i=m
  ·refine ac (if_pos h) (ac h ?_);exact rq
  ·rw[if_neg h];exact rr h
 have p:∀i,(i6 y m).t i=if i=m then(y.tr m).ts else y.t i:=λi=>s _ _ _;have D:∀i,(i6 y m).v i=if i=m then(y.tr m).v else y.v i:=λi=>s _ _ _;have r:∀i,(i6 y m).b i=if i=m then(y.b m).dropLast else y.b i:=λi=>s _ _ _;have u:∀i,(i6 y m).h i=if i=m then(y.tr m).hs else y.h i:=λi=>s _ _ _;have o:∀i,(((i6 y m).t i++((i6 y m).h i).map Hd.n)++(i6 y m).b i).Perm ((y.t i++(y.h i).map Hd.n)++y.b i):=λi=>by
  rw[p,u,r];by_cases h:i=m
  ·refine ac (if_pos h) ?_;rw[if_pos h,if_pos h,h];exact(d.perm.append_right _).trans (Hn x w A).perm
  ·refine ac (if_neg h) ?_;rw[if_neg h,if_neg h]
 refine⟨x.len,x.L,λi l j h0 E F=>?_,λi l=>?_,λi l z B=>?_,λi l h e=>?_,λi l h e g=>?_,λi l=>(o i).nodup_iff.mpr (x.nd i l),λi l j=>((o i).mem_iff).trans (x.all i l j),λi=>?_⟩
 ·rw[p];have:=x.own i l j h0 E F;by_cases h:i=m
  ·rw[if_pos h];exact d.mono j (by rw[h] at this;exact this)
  ·rw[if_neg h];exact this
 ·rw[p];by_cases h:i=m
  ·rw[if_pos h];exact d.inv.T
  ·rw[if_neg h];exact x.T i l
 ·rw[p,D];by_cases h:i=m
  ·refine ac (if_pos h) ?_;rw[if_pos h];exact d.inv.v z B
  ·refine ac (if_neg h) ?_;rw[if_neg h];exact x.V i l z B
 ·rw[u] at e;by_cases q:i=m
  ·rw[if_pos q] at e;exact d.inv.h h e
  ·rw[if_neg q] at e;exact x.H i l h e
 ·rw[u] at e;rw[p] at g;by_cases q:i=m
  ·rw[if_pos q] at e g;have:=(d.inv.rdy x.L e).mpr g;rw[d.no h e] at this;cases this
  ·rw[if_neg q] at e g;exact x.nr i l h e g
 ·rw[r];have:=x.bl i;by_cases q:i=m
  ·refine ac (if_pos q) ?_;rw[adb,<-q];exact U1 (XI _ _) this
  ·rw[if_neg q];exact this
theorem OJ (g:jS k) (h:jt k) (x:iu k y) {m:Nat} (d:m < 3) (a:y.Ls.length < 4):pP k y m:=by
 have e:=D5 x d a;have j:=jw (x.T m d).nd (x.T m d).lo;have l:=e.L y.Ls.length (by lia) (by show(y.Ls.length:Int) < ((y.Ls++[y.new k m]).length:Int);refine ac U8 ?_;show _ < ((y.Ls.length+1:Nat):Int);lia);have b:=D6 g e.L e.len (i:=y.Ls.length) (by lia) (by show(y.Ls.length:Int) < ((y.Ls++[y.new k m]).length:Int);refine ac U8 ?_;show _ < ((y.Ls.length+1:Nat):Int);lia);rw[show aL (ir k y m).Ls y.Ls.length=y.new k m from D4] at b;have f:∀x,x < 3->0<=(y.lt k m).n x/\(y.lt k m).n x<=999999:=λx c=>by
  rcases(oV c) with rfl|rfl|rfl
  ·exact b 0 c
  ·exact b 1 c
  ·exact b 2 c
 refine⟨(h (y.lt k m) rfl f (by have:=(bb k.c3 (by decide:(0:Int) < 40)).1;lia:10<=10+k.c3.fmod 40)).1,by have:=x.len;lia,λi=>by have:=x.bl i;lia⟩
theorem OL (f:jS k) (i:jt k) (j:∃n:Nat,k.W=(n:Int)/\22<=n/\n<=100) (x:iu k y) {m:Nat} (g:m < 3) (h:y.b m≠[]):pQ k y m:=by
 have o:=Hn x g h;have q:=o.hs;have r:=o.b;have l:10<=10+k.c3.fmod 40:=by have:=(bb k.c3 (by decide:(0:Int) < 40)).1;lia
 have e:=D6 f x.L x.len o.num.1 o.num.2;have p:=(x.L _ o.num.1 o.num.2).t;refine⟨by lia,by lia,Jf o.num.1 o.num.2 x.len,?_,j,(zo f x g h).1⟩;refine ac o.got (ac p ?_);refine(i ⟨(aL y.Ls (y.num m)).c.a,(aL y.Ls (y.num m)).c.b,(aL y.Ls (y.num m)).c.c,(aL y.Ls (y.num m)).w,10+k.c3.fmod 40,k.L⟩ rfl (λx d=>?_) l).2;rcases(oV d) with rfl|rfl|rfl
 ·exact e 0 d
 ·exact e 1 d
 ·exact e 2 d
end
end
section
section
variable {k:aY} {y:Dy}
theorem Ho (c:jS k) (e:jt k) (f:∃n:Nat,k.W=(n:Int)/\22<=n/\n<=100) (x:iu k y) {d:Nat} (hd:d < 6):wW k y d/\iu k (dC k y d):=by
 have w:∀m,m < 3->(y.Ls.length < 4->pP k y m)/\iu k (if y.Ls.length < 4 then ir k y m else y):=λm a=>⟨λh=>OJ c e x a h,by
  by_cases h:y.Ls.length < 4
  ·refine ac (if_pos h) ?_;exact D5 x a h
  ·refine ac (if_neg h) ?_;exact x⟩
 have o:∀m,m < 3->(y.b m≠[]->pQ k y m)/\iu k (if y.b m=[] then y else i6 y m):=λm a=>⟨λh=>OL c e f x a h,by
  by_cases h:y.b m=[]
  ·refine ac (if_pos h) ?_;exact x
  ·refine ac (if_neg h) ?_;exact OI c x a h⟩
 rcases(by lia:d=0∨d=1∨d=2∨d=3∨d=4∨d=5) with rfl|rfl|rfl|rfl|rfl|rfl
 ·exact w 0 (by decide)
 ·exact w 1 (by decide)
 ·exact w 2 (by decide)
 ·exact o 0 (by decide)
 ·exact o 1 (by decide)
 ·exact o 2 (by decide)
theorem zp (a:jS k) (b:jt k) (c:∃n:Nat,k.W=(n:Int)/\22<=n/\n<=100) (ds:List Nat) {y:Dy} (h:∀d∈ds,d < 6) (x:iu k y):lV k y ds/\iu k (ds.foldl (dC k) y):=by
 induction ds generalizing y with
 |nil=>exact⟨trivial,x⟩
 |cons d r f=>
  refine aN (Ho a b c x (h d (.head _))) λg i=>(aN (f (λe j=>h e (.tail _ j)) i) λl m=>?_)
  exact⟨⟨h d (.head _),g,l⟩,m⟩
theorem Hp (d m:Nat) (hd:d < 3):((dC k y (d+3)).b m).length=(if m=d then(y.b m).length - 1 else(y.b m).length):=by
 have o:((if y.b d=[] then y else i6 y d).b m).length=(if m=d then(y.b m).length - 1 else(y.b m).length):=by
  by_cases h:y.b d=[]
  ·refine ac (if_pos h) ?_;by_cases q:m=d
   ·refine ac (if_pos q) (ac q (ac h ?_));rfl
   ·exact ac (if_neg q) rfl
  ·refine ac (if_neg h) ?_;by_cases q:m=d
   ·refine ac (if_pos q) (ac q ?_);refine(?_:(upd y.b d (y.b d).dropLast d).length=_);exact ac rq (ac adb rfl)
   ·refine ac (if_neg q) (?_:(upd y.b d (y.b d).dropLast m).length=_);exact ac (rr q) rfl
 rcases(oV hd) with rfl|rfl|rfl<;>exact o
theorem uK (d:Nat):(dC k y (d+3)).Ls=y.Ls:=by
 have o:∀m,(if y.b m=[] then y else i6 y m).Ls=y.Ls:=λm=>by
  by_cases h:y.b m=[]
  ·exact ac (if_pos h) rfl
  ·refine ac (if_neg h) ?_;rfl
 rcases(by lia:d=0∨d=1∨2<=d) with rfl|rfl|h
 ·exact o 0
 ·exact o 1
 ·obtain⟨e,rfl⟩:∃e,d=e+2:=⟨d - 2,(Wm h).symm⟩
  exact o 2
def sO (k:aY) (y:Dy):Dy:=dC k (dC k (dC k y 3) 4) 5
theorem rt (m:Nat) (a:m < 3):((sO k y).b m).length=(y.b m).length - 1:=by refine(?_:((dC k _ (2+3)).b m).length=_);refine ac (Hp 2 m (by decide)) (ac (show(4:Nat)=1+3 from rfl) (ac (Hp 1 m (by decide)) (ac (show(3:Nat)=0+3 from rfl) (ac (Hp 0 m (by decide)) ?_))));rcases(oV a) with rfl|rfl|rfl<;>rfl
theorem D7 (x:iu k y) {m:Nat} (l:m < 3) (p:y.b m=[]):y.h m=[]:=by
 have f:∀n:Nat,∀h∈y.h m,h.n.toNat≠n:=λn=>by
  induction n using Nat.strongRecOn with
  |ind n s=>
   intro h o e;refine b9 (x.H m l h o) λh0 t a=>(x.nr m l h o λj u=>?_)
   have c:=(x.L h.n h0 t).lo j u;have i:=(x.all m l j).mpr ⟨c.1,by lia⟩;simp only[p,VW] at i;rcases List.mem_append.mp i with q|q
   ·exact q
   ·refine aj (List.mem_map.mp q) λg v d=>(ac d ?_)
    exact absurd rfl (s g.n.toNat (e▸(WW (d▸c.1)).mpr (Xk (d▸c.2) (Int.self_le_toNat _))) g v)
 induction e:y.h m with
 |nil=>rfl
 |cons h r=>exact absurd rfl (f h.n.toNat h ((e).symm▸(.head _)))
end
end
section
theorem iN (a m:Int) (r:List Int):bB (a::r) m=(if a=m then 1 else 0)+bB r m:=by
 refine(?_:(match decide (a=m) with|true=>1+bB r m|false=>bB r m)=_);by_cases h:a=m
 ·exact ac (decide_eq_true h) (ac (if_pos h) rfl)
 ·refine ac (decide_eq_false h) (ac (if_neg h) ?_);exact(aar _).symm
theorem Bz (m:Int) (a b:List Int):bB (a++b) m=bB a m+bB b m:=by
 induction a with
 |nil=>exact(aar _).symm
 |cons a r c=>exact(iN ..).trans ((congrArg _ c).trans ((Int.add_assoc ..).symm.trans (congrArg (· +bB b m) (iN ..).symm)))
theorem j9 (m:Int) (a:List Int):0<=bB a m/\bB a m<=a.length:=by
 induction a with
 |nil=>exact⟨YA 0,YA 0⟩
 |cons a r h=>
  refine ac (iN ..) ?_;have b:((a::r).length:Int)=1+r.length:=(abX ..).trans (abj ..);refine ac b ?_;by_cases e:a=m
  ·exact ac (if_pos e) ⟨W3 (by decide) h.1,ady h.2 1⟩
  ·exact ac (if_neg e) ⟨W3 (by decide) h.1,aaN (by decide) h.2⟩
theorem lY (m:Int) {a:List Int} (h:m∈a):1<=bB a m:=by
 induction a with
 |nil=>exact nomatch h
 |cons a r b=>
  refine ac (iN ..) ?_;by_cases e:a=m
  ·exact ac (if_pos e) (ZL (j9 m r).1)
  ·exact ac (if_neg e) (ac (aar _) ((List.mem_cons.mp h).elim (λq=>absurd q.symm e) b))
noncomputable def xx (n:Nat):List Int:=(V9 n).map λi:Nat=>(i:Int)
theorem zq {n:Nat} {j:Int}:j∈xx n↔0<=j/\j < n:=by unfold xx;rw[List.mem_map];exact⟨λa=>aj a λi h e=>by have:=List.mem_range.mp h;exact e▸⟨Vp _,Int.ofNat_lt.mpr this⟩,λh=>(aA j.toNat (List.mem_range.mpr ((WW h.1).mpr h.2)) (VN h.1))⟩
theorem OM (n:Nat):(xx n).Nodup:=ab2 _ (λa b h e=>h (by lia)) List.nodup_range
theorem ON (Ls:List Lr) (x n:Nat) (h:n<=Ls.length):(dX Ls (xx n) x:Int)=bB ((Ls.take n).map Lr.s) x:=by
 induction n with
 |zero=>rfl
 |succ n b=>
  have a:=xt (Ls:=Ls) (i:=(n:Int)) (Vp _) (Int.ofNat_lt.mpr h);rw[Vx] at a;refine ac (show xx (n+1)=xx n++[(n:Int)] from(congrArg (YJ _) List.range_succ).trans VZ) ?_;rw[pT,List.take_add_one,a,VZ,Bz,abX];refine ac (b (abn h)) (congrArg _ ?_);refine(?_:_=(match decide ((aL Ls (n:Int)).s=(x:Int)) with|true=>(1:Int)+0|false=>0));by_cases q:(aL Ls (n:Int)).s=(x:Int)
  ·exact ac (if_pos q) (ac (decide_eq_true q) rfl)
  ·exact ac (if_neg q) (ac (decide_eq_false q) rfl)
theorem K3 {T:List Int} (nd:T.Nodup) (h:∀i:Int,i∈T↔0<=i/\i < Ls.length) (x:Nat):(dX Ls T x:Int)=bB (Ls.map Lr.s) x:=by exact ac (Yw (ot nd λj b a=>zq.mpr ((h j).mp b)) (ot (OM _) λj b a=>(h j).mpr (zq.mp b)):dX Ls T x=dX Ls (xx Ls.length) x) (ac (ON Ls x _ (Vr _)) (ac Z4 rfl))
section
variable {k:aY} {y:Dy}
theorem QE (x:iu k y) {m z:Nat} (a:m < 3) (hz:z < 3) (c:y.b m=[]):(y.v m).at z=k.s.at z+bB (je y) z:=by have h:=x.all m a;simp only[c,(D7 x a c)] at h;refine ac (x.V m a z hz) ?_;rw[K3 (x.T m a).nd (λi=>by have:=h i;simpa using this)];rfl
theorem oy:(sO k y).Ls=y.Ls:=(uK 2).trans ((uK 1).trans (uK 0))
structure T6 (k:aY):Prop where
 ok:lV k (oY k) (ik k.c0)
 v:∀m z,m < 3->z < 3->((bo k).v m).at z=k.s.at z+bB (je (bo k)) z
 len:1<=(bo k).Ls.length/\(bo k).Ls.length<=4
 s:∀s∈je (bo k),0<=s/\s < 3
theorem D8 (d:Nat):y.Ls.length<=(dC k y d).Ls.length:=by
 have w:∀m,y.Ls.length<=(if y.Ls.length < 4 then ir k y m else y).Ls.length:=λm=>by
  by_cases h:y.Ls.length < 4
  ·refine ac (if_pos h) ?_;show _<=(y.Ls++[_]).length;refine ac U8 ?_;lia
  ·refine ac (if_neg h) ?_;exact Vr _
 rcases(by lia:d=0∨d=1∨d=2∨3<=d) with rfl|rfl|rfl|h
 ·exact w 0
 ·exact w 1
 ·exact w 2
 ·obtain⟨e,rfl⟩:∃e,d=e+3:=⟨d - 3,(Wm h).symm⟩
  rw[uK];exact Vr _
theorem Ea (ds:List Nat) {y:Dy}:y.Ls.length<=(ds.foldl (dC k) y).Ls.length:=by
 induction ds generalizing y with
 |nil=>exact Vr _
 |cons d r a=>exact U1 (D8 d) a
theorem Jh (f:Int):∀d∈(d9 f).map XS,d < 6:=λd g=>by
 refine aj (List.mem_map.mp g) λe b c=>(aD c ?_)
 have:e < 6:=by unfold d9 at b;simp only[WJ,WR,or_false] at b;rcases b with h|h|h|h|h|h|h|h|h<;>rw[h]<;>first|exact(λa=>XF (bb a (by decide:(0:Int) < 3)).2 (by decide):∀a:Int,a.fmod 3 < 6) _|exact(λa=>(bb a (by decide:(0:Int) < 6)).2:∀a:Int,a.fmod 6 < 6) _
 lia
theorem QF (j:jS k) (l:jt k) (o:∃n:Nat,k.W=(n:Int)/\22<=n/\n<=100):T6 k:=by
 have t:ik k.c0=(d9 k.c0).map XS++[3,4,5,3,4,5,3,4,5,3,4,5]:=by unfold ik ii;refine ac VZ ?_;rfl
 have f:∀d∈ik k.c0,d < 6:=λd h=>by
  simp only[t] at h;refine(List.mem_append.mp h).elim (λq=>?_) λq=>?_
  ·exact Jh _ d q
  ·have:∀d∈[3,4,5,3,4,5,3,4,5,3,4,5],d < 6:=by decide
   exact this d q
 refine aN (zp j l o _ f (OG k)) λy A=>(aN (zp j l o _ (Jh k.c0) (OG k)) λa u=>?_)
 have v:bo k=sO k (sO k (sO k (sO k (((d9 k.c0).map XS).foldl (dC k) (oY k))))):=by unfold bo;refine ac t (ac WQ ?_);rfl
 have B:∀m,m < 3->(bo k).b m=[]:=λm c=>by refine List.length_eq_zero_iff.mp (ac v (ac (rt m c) (ac (rt m c) (ac (rt m c) (ac (rt m c) ?_)))));exact Xm (m:=4) (U1 (u.bl m) u.len)
 have e:iu k (bo k):=A;refine⟨y,λm z c C=>QE e c C (B m c),⟨?_,e.len⟩,λs D=>?_⟩
 ·refine ac v (ac oy (ac oy (ac oy (ac oy ?_))));have E:1<=(dC k (oY k) (k.c0.fmod 3).toNat).Ls.length:=by have:=bb k.c0 (by decide:(0:Int) < 3);rcases(yc (p:=λi=>i=0∨i=1∨i=2) ((WW this.1).mpr this.2) (.inl rfl) (.inr (.inl rfl)) (.inr (.inr rfl)):(k.c0.fmod 3).toNat=0∨(k.c0.fmod 3).toNat=1∨(k.c0.fmod 3).toNat=2) with h|h|h<;>(exact ac h (Vr 1))
  exact U1 E (Ea _)
 ·refine aj (List.mem_map.mp D) λr F g=>(aD g ?_)
  obtain⟨n,w⟩:=List.mem_iff_getElem?.mp F;have x:n < (bo k).Ls.length:=bn w;have:=xt (Ls:=(bo k).Ls) (i:=(n:Int)) (Vp _) (Int.ofNat_lt.mpr x);simp only[Vx,w] at this;exact ac (U0 this) ((e.L n (Vp _) (Int.ofNat_lt.mpr x)).s)
end
end
theorem zr (w:Int):∀as bs:List Int,as.length=bs.length->ek w (acI (· +·) as bs)=ek w as+ek w bs
 |[],[],_=>rfl
 |[],_::_,h=>nomatch h
 |_::_,[],h=>nomatch h
 |a::r,b::q,h=>by refine(?_:ek w (acI (· +·) r q)*2^w.toNat+(a+b)=(ek w r*2^w.toNat+a)+(ek w q*2^w.toNat+b));refine ac (zr w r q (XA h)) ?_;rw[ZS];lia
theorem zt {n d:Nat} (hd:1<=d):∀r:List Nat,2^(r.length*n)<=dP n (r++[d])
 |[]=>by show 2^(0*n)<=0*2^n+d;rw[ZA,ZA,aat];exact hd
 |a::r=>by refine ac VB ?_;rw[YE,XD,XC];refine(?_:_<=dP n (r++[d])*2^n+a);exact U1 (Xw _ (zt (n:=n) hd r)) (Vm _ _)
theorem pU {n:Nat}:∀(r:List Nat) (m:Nat),dP n (r++V8 m 0)=dP n r
 |[],0=>rfl
 |[],m+1=>by have:=pU (n:=n) [] m;refine(?_:dP n (V8 m 0)*2^n+0=0);refine ac (show dP n (V8 m 0)=0 from this) ?_;rw[ZA]
 |a::r,m=>by show dP n (r++V8 m 0)*2^n+a=dP n r*2^n+a;exact ac (pU r m) rfl
structure OP (n:Nat) (x:Nat) (D9:List Nat) (ds:List Nat):Prop where
 len:ds.length<=9/\7<=ds.length
 dig:cP (x:Int) (n:Int)=(ds.length:Int)
 cut:cV x n ds.length=ds.map λj:Nat=>(j:Int)
 pad:(ds.map λj:Nat=>(j:Int))++rep (9 - ds.length) [0]=D9.map λj:Nat=>(j:Int)
 top:(!eO (jm (ds.map λj:Nat=>(j:Int))) [0])=UX
 lt:x < 2^(9*n)
theorem tG (a:Int):∀r:List Int,jm (r++[a])=[a]
 |[]=>rfl
 |[b]=>rfl
 |b::c::r=>tG a (c::r)
theorem sP {n:Nat} (i:22<=n) {a r:List Nat} {d:Nat} (l:a.length=9) (e:a=(r++[d])++V8 (9 - (r.length+1)) 0) (hd:1<=d) (t:6<=r.length) (c:∀x∈a,x < 2^22):OP n (dP n a) a (r++[d]):=by
 have b:(r++[d]).length=r.length+1:=ac U8 rfl;have o:r.length+1<=9:=by have:=congrArg Xb e;rw[l,U8,b] at this;lia
 have f:dP n a=dP n (r++[d]):=ac e (pU _ _);have k:∀x∈r++[d],x < 2^n:=λx p=>Vq (c x (ac e (List.mem_append.mpr (.inl p)))) (WP (by decide) i);have g:=wM k;rw[b] at g;refine⟨by refine(b).symm▸ ?_;lia,?_,?_,?_,?_,?_⟩
 ·refine ac f (ac b ?_);exact wN (Vl (Wp _ _) i) g (zt hd r)
 ·refine ac f ?_;exact wL k
 ·refine ac b (Eq.trans ?_ (congrArg (YJ λj:Nat=>(j:Int)) e.symm));refine ac (VZ (l₁:=r++[d])) ?_;congr 1;have:∀m:Nat,rep m [(0:Int)]=(V8 m 0).map λj:Nat=>(j:Int):=λm=>by
   induction m with
   |zero=>rfl
   |succ m q=>show[(0:Int)]++rep m [0]=_;refine ac q ?_;rfl
  exact this _
 ·refine ac VZ (?_:(!eO (jm ((r.map λj:Nat=>(j:Int))++[(d:Int)])) [0])=UX);rw[tG];have:eO [(d:Int)] [0]=UY:=Bool.eq_false_iff.mpr λh=>by have s:=JU.mp h;simp only[List.cons.injEq,and_true] at s;lia
  refine ac this ?_;rfl
 ·exact ac f (Vq g (WP (by decide) (Xw _ o)))
theorem Hq {n:Nat} (f:22<=n) (a b c:Nat) (h:1<=a+b+c) (k:a<=4) (l:b<=4) (m:c<=4):∃ds,OP n (dP n [a,b,c,a,b,c,a,b,c]) [a,b,c,a,b,c,a,b,c] ds:=by
 have e:∀x∈[a,b,c,a,b,c,a,b,c],x < 2^22:=λx g=>by
  simp only[WJ,WR,or_false] at g;have:(4:Nat) < 2^22:=by decide
  rcases g with rfl|rfl|rfl|rfl|rfl|rfl|rfl|rfl|rfl<;>lia
 by_cases i:1<=c
 ·exact⟨_,sP f (r:=[a,b,c,a,b,c,a,b]) (d:=c) rfl rfl i (show 6<=8 by decide) e⟩
 ·have:c=0:=by lia
  subst this;by_cases j:1<=b
  ·exact⟨_,sP f (r:=[a,b,0,a,b,0,a]) (d:=b) rfl rfl j (show 6<=7 by decide) e⟩
  ·have:b=0:=by lia
   subst this;exact⟨_,sP f (r:=[a,0,0,a,0,0]) (d:=a) rfl rfl (h) (show 6<=6 by decide) e⟩
theorem Rq (l:List Int):jS (dE l):=λx c=>by
 have a:=bb ((jk l 2).fdiv 90) (by decide:(0:Int) < 9000);have b:=bb (jk l 1) (by decide:(0:Int) < 900000);rcases(oV c) with rfl|rfl|rfl
 ·exact⟨(bb (jk l 2) (by decide:(0:Int) < 90)).1,VM (Ww (bb (jk l 2) (by decide:(0:Int) < 90)).2) (by decide)⟩
 ·exact⟨a.1,by show((jk l 2).fdiv 90).fmod 9000<=900000;exact VM (Ww a.2) (by decide)⟩
 ·exact⟨b.1,by show(jk l 1).fmod 900000<=900000;exact Ww b.2⟩
theorem OQ (l:List Int):∃n:Nat,dD l=(n:Int)/\22<=n/\n<=81:=by have h:=bb ((jk l 3).fdiv 40) (by decide:(0:Int) < 60);exact cE ((dD l).toNat) (VN (W3 (by decide) h.1)).symm ((Int.le_toNat (W3 (by decide) h.1)).mpr (ZL h.1)) (Int.toNat_le.mpr (VM (ady (Zf (b:=59) h.2) 22) (by decide)))
theorem xy (l:List Int):pS l=g8 (il l):=(DZ (xn (il l))).2
structure T7 (l:List Int):Prop where
 all:ao (Jc l++(Jd l++Je (fQ l) (je (bo (dE l)))))
 yes:eO (fQ l++nz (fQ l)) (xm (je (bo (dE l))))=UX
theorem OS {p:Int->Prop} {a b c:Int} (e:p a) (f:p b) (g:p c):∀x∈[a,b,c,a,b,c,a,b,c],p x:=λx d=>by simp only[WJ,Z6,or_false] at d;rcases d with rfl|rfl|rfl|rfl|rfl|rfl|rfl|rfl|rfl<;>assumption
theorem Ji {x:Int} {a n m:Nat} (e:x=a) (c:0<=x/\x<=n) (h:n=m) (b:1<=m/\m<=4):a<=4:=U1 (Int.ofNat_le.mp (e▸c.2)) (h▸b.2)
theorem OT {s x:Int} {a n m:Nat} (k:0<=s/\s<=900000) (e:x=a) (c:0<=x/\x<=n) (h:n=m) (b:1<=m/\m<=4):s+a<=1000000:=VM (aaN k.2 (Int.ofNat_le.mpr (Ji e c h b))) (by decide)
theorem QG (l:List Int) (hl:l.length<=63) (X:jt (dE l)):T7 l:=by
 refine ca (OQ l) λn E F Y=>?_;have D:=QF (Rq l) X (cE n E F (by lia));generalize k:je (bo (dE l))=S;have f:S.length=(bo (dE l)).Ls.length:=(k)▸(Vy ..);have M:=j9 0 S;have N:=j9 1 S;have O:=j9 2 S;have B:=D.len;obtain⟨a,G⟩:=VX M.1;obtain⟨b,H⟩:=VX N.1;obtain⟨c,I⟩:=VX O.1;have J:1<=a+b+c:=by
  obtain⟨s,r,e⟩:∃s r,S=s::r:=match S,(λe=>by rw[e] at f;have:(0:Nat)=_:=f;lia:S≠[]) with
   |s::r,_=>(sU s r rfl)
  have hs:=D.s s (ac k (ac e (.head _)));rcases(by lia:s=0∨s=1∨s=2) with q|q|q
  ·have:=lY 0 (a:=S) (ac e (ac q (.head _)));exact U1 (Int.ofNat_le.mp (G▸this)) (U1 (Vm _ _) (Vm _ _))
  ·have:=lY 1 (a:=S) (ac e (ac q (.head _)));exact U1 (Int.ofNat_le.mp (H▸this)) (U1 (Wp _ _) (Vm _ _))
  ·have:=lY 2 (a:=S) (ac e (ac q (.head _)));exact U1 (Int.ofNat_le.mp (I▸this)) (Wp _ _)
 obtain⟨ds,T⟩:=Hq F a b c J (Ji G M f B) (Ji H N f B) (Ji I O f B);have C:∀m,m < 3->((bo (dE l)).v m).l=[(cH l).a+a,(cH l).b+b,(cH l).c+c]:=λm P=>by have U:=D.v m 0 P (by decide);have V:=D.v m 1 P (by decide);have W:=D.v m 2 P (by decide);rw[k] at U V W;refine(?_:[((bo (dE l)).v m).at 0,((bo (dE l)).v m).at 1,((bo (dE l)).v m).at 2]=_);refine ac U (ac V (ac W ?_));refine(?_:[_+bB S 0,_+bB S 1,_+bB S 2]=_);refine ac G (ac H (ac I ?_));rfl
 have y:js (bo (dE l))=acI (· +·) (rep 3 (cH l).l) ([a,b,c,a,b,c,a,b,c].map λj:Nat=>(j:Int)):=by unfold js;refine ac (C 0 (by decide)) (ac (C 1 (by decide)) (ac (C 2 (by decide)) ?_));rfl
 have g:ku l=((dP n [a,b,c,a,b,c,a,b,c]:Nat):Int):=by unfold ku;refine ac y ?_;rw[zr (dD l) (rep 3 (cH l).l) ([a,b,c,a,b,c,a,b,c].map λj:Nat=>(j:Int)) rfl,E,sG];lia
 have h:fQ l=ds.map λj:Nat=>(j:Int):=by unfold fQ;refine ac g ?_;rw[E,T.dig,Vx,Vx,Vx];exact T.cut
 have d:(fQ l).length=ds.length:=by refine ac h ?_;rw[Vy]
 have K:nz (fQ l)=rep (9 - ds.length) [0]:=by unfold nz;refine(d).symm▸ ?_;have:=T.len;congr 1;exact Xd 9 _
 have u:fQ l++nz (fQ l)=xm S:=by refine ac K (ac h (ac T.pad ?_));unfold xm;refine ac G (ac H (ac I ?_));rfl
 have Q:∀x,x < 3->0<=(cH l).at x/\(cH l).at x<=900000:=(Rq l)
 have Z:=Q 1 (by decide);have k2:=Q 2 (by decide);have i:∀z:Int,0<=z->z<=1000000->z.natAbs < 2^100:=λz h0 h1=>by exact Vl (show z.natAbs<=1000000 from Int.ofNat_le.mp (ac (adn h0) h1)) (by decide)
 have R:=T.lt;have A:dP n [a,b,c,a,b,c,a,b,c] < 2^1000:=Vq R (WP (by decide) (by lia));refine⟨af.mpr ⟨?_,af.mpr ⟨?_,?_⟩⟩,?_⟩
 ·exact⟨⟨rfl,rfl,hl⟩,⟨by decide,by decide⟩,by decide,⟨rfl,rfl,DY _⟩,⟨rfl,rfl,(DZ (xn (il l))).1⟩,⟨iI _,iI _⟩,by rw[xy,jQ];rfl,⟨by decide,by decide⟩,by decide,⟨by decide,by decide⟩,by decide,by decide,⟨by decide,by decide⟩,by decide,by decide,⟨by decide,by decide⟩,by decide,by decide,trivial⟩
 ·have o:0<=(cH l).a/\(cH l).a<=900000:=(Q 0 (by decide))
  have p:0<=(cH l).b/\(cH l).b<=900000:=Z;have t:0<=(cH l).c/\(cH l).c<=900000:=k2;have L:js (bo (dE l))=[(cH l).a+a,(cH l).b+b,(cH l).c+c,(cH l).a+a,(cH l).b+b,(cH l).c+c,(cH l).a+a,(cH l).b+b,(cH l).c+c]:=by unfold js;refine ac (C 0 (by decide)) (ac (C 1 (by decide)) (ac (C 2 (by decide)) ?_));rfl
  refine⟨⟨rfl,rfl,D.ok⟩,rfl,⟨by decide,by decide⟩,⟨by decide,by decide⟩,by decide,⟨by decide,by decide⟩,by decide,⟨rfl,rfl,congrArg Xb L,by lia,by lia,L▸OS (i _ (W3 o.1 (Vp _)) (OT o G M f B)) (i _ (W3 p.1 (Vp _)) (OT p H N f B)) (i _ (W3 t.1 (Vp _)) (OT t I O f B))⟩,by decide,⟨rfl,rfl,rfl,by lia,by lia,OS (i _ o.1 (VM o.2 (by decide))) (i _ p.1 (VM p.2 (by decide))) (i _ t.1 (VM t.2 (by decide)))⟩,⟨rfl,rfl,?_,by lia,by lia,?_,?_,?_⟩,trivial⟩
  ·refine(g).symm▸ ?_;lia
  ·refine(g).symm▸ ?_;exact A
  ·refine ac g (ac E (ac T.dig ?_));lia
  ·refine ac g (ac E (ac T.dig ?_));have:=T.len;lia
 ·have t9:=T.len;have w:=T.top;rw[<-h] at w;have hp:(nz (fQ l)).length<=9:=by have:=congrArg Xb u;rw[U8] at this;have h9:(xm S).length=9:=rfl;lia
  refine(k).symm▸ ?_;refine⟨by refine ac d (ac VK ?_);lia,by decide,⟨iI _,rfl⟩,w,by decide,by refine(d).symm▸ ?_;lia,⟨by refine(d).symm▸ ?_;lia,by refine(d).symm▸ ?_;lia,ac d (ac VK (ac (XD _) (ac (Xd 9 _) (U1 (XI _ _) (by decide)))))⟩,by refine ac d (ac VK ?_);lia,rfl,rfl,by decide,rfl,by decide,rfl,by decide,rfl,by decide,⟨iI _,rfl⟩,trivial⟩
 ·refine ac k (ac u ?_);exact jQ _
abbrev QH:Sp:=fW (X:=List Int) (λvs=>cr (nV vs 0)) (λl=>[.dat (.ints l)]) (λa=> .bool UX) λl=>l.length<=63/\jt (dE l)
theorem OU (f:cR J):aX (Wz J w) 28 306 QH:=
 dq (X:=List Int) (lev:=24) (k:=2) (T:=uv) (Tb:=Jb w.params) (defs:=[]) (spS:=λa a=>bk) (spE:=λa a=>br) Io rfl rfl (λa h=>nomatch h) (c8 Io)
  (λg os A b c=>⟨bW (fd:=uk) (by rfl') (dH (Gg J w) (by decide)) b c,bW (fd:=ul) (by rfl') (dH (CX J w) (by decide)) b c,bW (fd:=uo) (by rfl') (dH (Hf J w) (by decide)) b c,
   bW (fd:=qP) (by rfl') (Ot f) b c,bW (fd:=r8) (by rfl') (dH (Ko J w) (by decide)) b c,bW (fd:=rZ) (by rfl') (dH (KW J w) (by decide)) b c,trivial⟩)
  (λa a a a a a a a a a a a a=>dw) λl d=>by
  have h:=QG l d.1 d.2
  have e:=KY w.params l
  rw[h.yes] at e
  exact⟨60,_,_,e,h.all,rfl⟩
structure LS where
 e:Bool
 q:Bool
 part:List Nat
 xs:List (List Nat)
noncomputable def bO (h:LS) (c:Nat):LS:=match h.e,h.q with
 |true,q=>⟨UY,q,h.part++[c],h.xs⟩
 |false,UX=>if c=92 then⟨UX,UX,h.part,h.xs⟩ else if c=34 then⟨UY,UY,h.part++[c],h.xs⟩ else⟨UY,UX,h.part++[c],h.xs⟩
 |false,UY=>if c=44 then⟨UY,UY,[],h.xs++[h.part]⟩ else if c=34 then⟨UY,UX,h.part++[c],h.xs⟩ else⟨UY,UY,h.part++[c],h.xs⟩
def HS.L (h:HS):LS:=⟨h.e,h.q,al h.part,h.xs.map al⟩
theorem Eb {s:Vb} {c:Nat} (h:(al s)[i]?=UV c):cz s i=⟨#[c]⟩:=by have a:=gK (d:=0) (bn h);rw[h] at a;refine(?_:(⟨#[ay 0 (al s) i]⟩:Vb)=_);exact aD (U0 a) rfl
theorem xA:∀{xs ys:List Vb},xs.map al=ys.map al->xs=ys
 |[],[],_=>rfl
 |[],_::_,h=>nomatch h
 |_::_,[],h=>nomatch h
 |a::r,b::q,h=>ac (fN (Yb h).1) (ac (xA (Yb h).2) rfl)
theorem ru (c d:Nat):sq ⟨#[c]⟩ ⟨#[d]⟩=decide (c=d):=by
 by_cases h:c=d
 ·refine ac h (ac (decide_eq_true rfl) ?_);exact bS.mpr rfl
 ·refine ac (decide_eq_false h) (cg.mpr λe=>h ?_);have:=congrArg al e;exact(Yb this).1
theorem OV (h:HS) (c:Nat):(hU ⟨#[c]⟩ h).L=bO h.L c:=by
 obtain⟨e,q,part,g⟩:=h;have f:sq ⟨#[c]⟩ "\""=decide (c=34):=ru c 34;have d:al (part++⟨#[c]⟩)=al part++[c]:=aO _ _;unfold hU bO HS.L;induction e with
 |true=>dsimp only;rw[d]
 |false=>
  induction q with
  |true=>
   dsimp only;refine ac (ru c 92:sq ⟨#[c]⟩ "\\"=decide (c=92)) (ac f ?_);by_cases a:c=92
   ·exact ac (decide_eq_true a) (ac (if_pos a) rfl)
   ·refine ac (decide_eq_false a) (ac (if_neg a) ?_);by_cases b:c=34
    ·refine ac (decide_eq_true b) (ac (if_pos b) ?_);dsimp only;exact ac d rfl
    ·refine ac (decide_eq_false b) (ac (if_neg b) ?_);dsimp only;exact ac d rfl
  |false=>
   dsimp only;refine ac (ru c 44:sq ⟨#[c]⟩ ","=decide (c=44)) (ac f ?_);by_cases a:c=44
   ·refine ac (decide_eq_true a) (ac (if_pos a) ?_);dsimp only;refine ac VZ ?_;rfl
   ·refine ac (decide_eq_false a) (ac (if_neg a) ?_);by_cases b:c=34
    ·refine ac (decide_eq_true b) (ac (if_pos b) ?_);dsimp only;exact ac d rfl
    ·refine ac (decide_eq_false b) (ac (if_neg b) ?_);dsimp only;exact ac d rfl
theorem QI (s:Vb) (r:List Nat) (i:Nat) (h:HS) (a:∀j,j < r.length->(al s)[i+j]?=r[j]?):(ng s i r.length h).L=r.foldl bO h.L:=by
 induction r generalizing i h with
 |nil=>rfl
 |cons c r b=>refine(?_:(ng s (i+1) r.length (hU (cz s i) h)).L=r.foldl bO (bO h.L c));refine ac (b (i+1) _ (λj d=>ac (VU i 1 j) (a (j+1) (abD d)))) ?_;rw[Eb (show(al s)[i]?=UV c from a 0 (Wv _)),OV]
theorem L_inj {a b:HS} (h:a.L=b.L):a=b:=by
 obtain⟨e,q,p,i⟩:=a;obtain⟨j,k,l,c⟩:=b;have m:=congrArg LS.part h;have n:=congrArg LS.xs h;have d:e=j:=(congrArg LS.e h)
 have f:q=k:=(congrArg LS.q h)
 have g:i=c:=xA n;exact ac d (ac f (ac (fN m:p=l) (ac g rfl)))
theorem K4 (s:Vb) (h:HS):(ng s 0 s.length h).L=(al s).foldl bO h.L:=by
 have:=QI s (al s) 0 h λj a=>by rw[aat]
 rwa[aH] at this
theorem pW:∀(a:List Nat) (p:List Nat) (xs:List (List Nat)),(∀c∈a,c≠44/\c≠34)->a.foldl bO ⟨UY,UY,p,xs⟩=⟨UY,UY,p++a,xs⟩
 |[],p,xs,_=>by rw[VW];rfl
 |c::r,p,xs,h=>by
  refine aN (h c (.head _)) λb e=>(?_:r.foldl bO (if c=44 then _ else if c=34 then _ else⟨UY,UY,p++[c],xs⟩)=_)
  refine ac (if_neg b) ?_;rw[if_neg e,pW r _ _ (λd f=>h d (.tail _ f)),Vi];rfl
theorem zu:∀(a:List Nat) (p:List Nat) (xs:List (List Nat)),(∀c∈a,c≠92/\c≠34)->a.foldl bO ⟨UY,UX,p,xs⟩=⟨UY,UX,p++a,xs⟩
 |[],p,xs,_=>by rw[VW];rfl
 |c::r,p,xs,h=>by
  refine aN (h c (.head _)) λb e=>(?_:r.foldl bO (if c=92 then _ else if c=34 then _ else⟨UY,UX,p++[c],xs⟩)=_)
  refine ac (if_neg b) ?_;rw[if_neg e,zu r _ _ (λd f=>h d (.tail _ f)),Vi];rfl
noncomputable def rv (a:List Nat):List Nat:=(a.map λc=>[92,c]).flatten
theorem xB:∀(a:List Nat) (p:List Nat) (xs:List (List Nat)),(rv a).foldl bO ⟨UY,UX,p,xs⟩=⟨UY,UX,p++a,xs⟩
 |[],p,xs=>by rw[VW];rfl
 |c::r,p,xs=>by refine(?_:(rv r).foldl bO (bO (bO ⟨UY,UX,p,xs⟩ 92) c)=_);have:bO (bO ⟨UY,UX,p,xs⟩ 92) c=⟨UY,UX,p++[c],xs⟩:=rfl;refine ac this ?_;rw[xB r,Vi];rfl
theorem jT (x:Vb) (l u:Option Int):Wr x l u=StrLaws.sliceText x l u:=rfl
theorem sQ {x:Vb} {a b:Nat} (c:a<=b) (d:b<=x.length):al (Wr x (UV (a:Int)) (UV (b:Int)))=((al x).drop a).take (b - a):=by rw[jT];refine ac (StrLaws.sliceText_nat x c d) ?_;exact List.toList_toArray
theorem OW {x:Vb} {s:Nat} (h0:0 < s) (h:s<=x.length):al (Wr x UW (UV (-(s:Int))))=(al x).take (x.length - s):=by rw[jT];refine ac (StrLaws.sliceText_to_neg (by lia) (by lia)) ?_;refine(?_:((al x).drop 0).take _=_);exact ac aaF (ac (show(-(s:Int)+x.length - 0).toNat=x.length - s by exact(congrArg XS ((Int.sub_zero _).trans (abj _ _))).trans (Xd _ _)) rfl)
theorem T8 {n s m:Nat} (h:s<=n) (e:m=n):m - (n - s)<=((m:Int) - (-(s:Int)+n)).toNat:=by subst e;exact ac (Nat.sub_sub_self h) (ac (show(m:Int) - (-(s:Int)+m)=s by lia) (Vr s))
theorem K5 {x:Vb} {s:Nat} (h0:0 < s) (h:s<=x.length):al (Wr x (UV (-(s:Int))) UW)=(al x).drop (x.length - s):=by rw[jT];refine ac (StrLaws.sliceText_from_neg (by lia) (by lia)) ?_;refine(?_:((al x).drop (-(s:Int)+x.length).toNat).take _=_);refine ac (show(-(s:Int)+x.length).toNat=x.length - s from(congrArg XS (abj _ _)).trans (Xd _ _)) (aai ?_);refine ac YU ?_;have:(al x).length=x.length:=aH x;refine(?_:_<=(((al x).length:Int) - _).toNat);exact T8 h this
theorem Ed {x:Vb} {s:Nat} (h:s<=x.length):al (Wr x (UV (s:Int)) UW)=(al x).drop s:=by have a:(al x).length=x.length:=aH x;rw[jT];refine ac (StrLaws.sliceText_from ⟨by lia,by show(s:Int)<=((al x).length:Int);lia⟩) ?_;refine(?_:((al x).drop ((s:Int)).toNat).take _=_);rw[Vx];refine aai ?_;rw[YU];refine(?_:_<=(((al x).length:Int) - _).toNat);exact Ve (Xd _ _).symm
def fI (n:Int):List Nat:=al (WL (toString n))
noncomputable def jn:List (List Nat)->List Nat
 |[]=>[]
 |[a]=>a
 |a::b::r=>a++95::jn (b::r)
theorem Hr (l:List Vb):al (aac "_" l)=jn (l.map al):=by
 induction l with
 |nil=>rfl
 |cons x r a=>induction r using VE with
  |nil=>rfl
  |cons y r=>refine(?_:al (x++"_"++aac "_" (y::r))=_);exact ac (aO ..) (ac (aO ..) (ac a (ac (Vi ..) rfl)))
structure oz (n:Int) (L:List Int) (g:Nat):Prop where
 flat:((aQ n L g::fG n L g).map al).flatten=fI n
 ne:∀s∈(aQ n L g::fG n L g).map al,s≠[]
theorem UR {L s:Nat} {x:Int} (hl:x < L) (e:x=s):((min (L - s) L:Nat):Int)=(L:Int) - x:=by subst e;exact ac (Xr (XI _ _)) (aa2 (Wy (Int.ofNat_lt.mp hl)))
theorem US {L s:Nat} {x:Int} (hs:1<=x) (hl:x < L) (e:x=s) (t:L - (L - s)=0):False:=by subst e;exact absurd (Int.ofNat_le.mp hs) (((Nat.sub_sub_self (Wy (Int.ofNat_lt.mp hl))).symm.trans t)▸by decide)
theorem UT {L s:Nat} {x:Int} (hl:x < L) (e:x=s) (t:min (L - s) L=0):False:=by subst e;exact YN (YO (Int.ofNat_lt.mp hl)) ((Xr (XI _ _)).symm.trans t)
theorem Hs {n:Int} {L:List Int} {g:Nat} (x:oz n L g) (hs:1<=ay 0 L g) (hl:ay 0 L g < (aQ n L g).length):oz n L (g+1)/\((aQ n L (g+1)).length:Int)=(aQ n L g).length - ay 0 L g:=by
 refine bI (VX (show 0<=ay 0 L g by lia)) λs e=>?_;have c:al (aQ n L (g+1))=(al (aQ n L g)).take ((aQ n L g).length - s):=by refine(?_:al (Wr (aQ n L g) UW (UV (-(ay 0 L g))))=_);refine ac e ?_;exact OW (Int.ofNat_le.mp (VM hs (ZC e))) (Wy (Int.ofNat_lt.mp (ZK (ZC e.symm) hl)))
 have d:(fG n L (g+1)).map al=(al (aQ n L g)).drop ((aQ n L g).length - s)::(fG n L g).map al:=by refine(?_:al (Wr (aQ n L g) (UV (-(ay 0 L g))) UW)::(fG n L g).map al=_);refine ac e ?_;exact ac (K5 (Int.ofNat_le.mp (VM hs (ZC e))) (Wy (Int.ofNat_lt.mp (ZK (ZC e.symm) hl)))) rfl
 have a:(al (aQ n L g)).length=(aQ n L g).length:=aH _;refine⟨⟨?_,λt b=>?_⟩,?_⟩
 ·refine ac Wa ?_;rw[c,d,Xu,Xu,<-Vi,List.take_append_drop];have:=x.flat;simp only[Wa,Xu] at this;exact this
 ·simp only[Wa,c,d] at b;rcases List.mem_cons.mp b with rfl|b
  ·intro h0;have:=congrArg Xb h0;simp only[YS,a,aan] at this;exact UT hl e this
  ·rcases List.mem_cons.mp b with rfl|b
   ·intro h0;have:=congrArg Xb h0;simp only[YU,a,aan] at this;exact US hs hl e this
   ·exact x.ne t ((Wa).symm▸(.tail _ b))
 ·rw[<-aH,c,YS];refine ac a ?_;exact UR hl e
structure oC (D ν:List Nat):Prop where
 bare:ν.filter (λc=>decide (c≠95))=D
 in_:∀c∈ν,c=95∨c∈D
 last:∃l c,ν=l++[c]/\c∈D
 head:∃c r,ν=c::r/\c∈D
theorem OX {ps:List (List Nat)} (h:ps≠[]) (h1:∀s∈ps,s≠[]) (h2:∀s∈ps,∀c∈s,c≠95):oC ps.flatten (jn ps):=by
 induction ps with
 |nil=>exact absurd rfl h
 |cons a r e=>
 have f:a≠[]:=h1 a (.head _);induction r using VE with
 |nil=>
  refine ac (show[a].flatten=a from VW a) ⟨List.filter_eq_self.mpr λc d=>decide_eq_true (h2 a (.head _) c d),λc d=> .inr d,⟨a.dropLast,a.getLast f,(Zm f).symm,List.getLast_mem f⟩,?_⟩;induction a using VE with
  |nil=>exact absurd rfl f
  |cons c r=>exact⟨c,r,rfl, .head _⟩
 |cons b r=>
  have e:=e (λh=>nomatch h) (λs g=>h1 s (.tail _ g)) (λs g=>h2 s (.tail _ g));refine ac (Xu:(a::b::r).flatten=a++(b::r).flatten) (?_:oC _ (a++95::jn (b::r)));refine⟨?_,λc d=>?_,?_,?_⟩
  ·rw[adw,List.filter_eq_self.mpr λc d=>decide_eq_true (h2 a (.head _) c d),acA (by simp),e.bare]
  ·refine(List.mem_append.mp d).elim (λq=>?_) λq=>?_
   ·exact .inr (List.mem_append.mpr (.inl q))
   ·refine(List.mem_cons.mp q).elim (λq=>?_) λq=>?_
    ·exact .inl q
    ·exact(e.in_ c q).imp id λh=>List.mem_append.mpr (.inr h)
  ·refine aG e.last λl c i j=>?_;exact⟨a++95::l,c,by refine(i).symm▸ ?_;simp,List.mem_append.mpr (.inr j)⟩
  ·induction a using VE with
   |nil=>exact absurd rfl f
   |cons c q=>exact⟨c,q++95::jn (b::r),rfl,List.mem_append.mpr (.inl (.head _))⟩
theorem K6:∀(k m:Nat),m < 10^(k+1)->1<=(ZD 10 m).length/\(ZD 10 m).length<=k+1:=λk=>by
 induction k with
 |zero=>intro m h;refine ac (aad h) ?_;exact⟨Vr 1,Vr 1⟩
 |succ k c=>
  intro m h;by_cases b:m < 10
  ·refine ac (aad b) ?_;exact⟨Vr 1,WE (W2 _)⟩
  ·have a:m % 10 < 10:=aa9 m (by decide);have t:ZD 10 (m / 10)++ZD 10 (m % 10)=ZD 10 (10*(m / 10)+m % 10):=Nat.toDigits_append_toDigits (by decide) (Nat.div_pos (Nat.not_lt.mp b) (by decide)) a;simp only[Nat.div_add_mod] at t;have:=c (m / 10) (by simp only[aaq] at h;exact Nat.div_lt_of_lt_mul (Vq h (Ve (aas _ _))));refine aD t (ac U8 (ac (aad a) ?_));exact⟨WE (W2 _),WE this.2⟩
structure BA (n:Int):Prop where
 dig:∀c∈fI n,48<=c/\c<=57
 len:1<=(fI n).length/\(fI n).length<=6
 back:Y4 (WL (toString n))=UV n
theorem uL {n:Int} (h0:0<=n) (h1:n<=999999):BA n:=by
 refine bI (VX h0) λm a=>?_;subst a;have e:fI (m:Int)=(ZD 10 m).map Char.toNat:=PySem.W.KIN.signs_num m;refine⟨λc f=>?_,?_,(PySem.W.KIN.num_reads h0 (by lia))⟩
 ·rw[e] at f;refine aj (List.mem_map.mp f) λg b d=>(aD d ?_)
  have:=Nat.isDigit_of_mem_toDigits (by decide) (by decide) b;simp only[Char.isDigit,VO,decide_eq_true_eq] at this;exact⟨this.1,this.2⟩
 ·refine ac e ?_;rw[Vy];exact K6 5 m (by lia)
structure T9 (n:Int) (L:List Int) (j t:Nat):Prop where
 go:∀i,i < t->ay 0 L (j+i) < (aQ n L (j+i)).length
 cut:oz n L (j+t)
 stop:j+t < L.length->((aQ n L (j+t)).length:Int)<=ay 0 L (j+t)
 le:j+t<=L.length
 few:t < (aQ n L j).length
theorem BB {n:Int} {L:List Int} (r:List Int) (j:Nat) (h:L.drop j=r) (u:j<=L.length) (hs:∀s∈r,1<=s) (x:oz n L j):T9 n L j (nf (aQ n L j).length r):=by
 induction r generalizing j with
 |nil=>have k:=congrArg Xb h;simp only[YU,aan] at k;have b:(al (aQ n L j)).length≠0:=λe=>x.ne (al (aQ n L j)) (.head _) (List.length_eq_zero_iff.mp e);simp only[aH] at b;exact⟨λi l=>absurd l (W7 _),x,λo=>by have:j+0 < L.length:=o;lia,u,by show 0 < _;lia⟩
 |cons s r BB=>
  have k:=congrArg Xb h;simp only[YU,VB] at k;have p:j < L.length:=Nat.sub_pos_iff_lt.mp (k▸Wv _);have c:ay 0 L j=s:=by
   have v:=gK (d:=(0:Int)) p;have y:L[j]?=UV s:=by have:(L.drop j)[0]?=UV s:=ac h rfl;rwa[adz,Yk] at this
   simp only[y] at v;exact(U0 v).symm
  have q:=hs s (.head _);have b:(al (aQ n L j)).length≠0:=λe=>x.ne (al (aQ n L j)) (.head _) (List.length_eq_zero_iff.mp e);simp only[aH] at b;by_cases f:((aQ n L j).length:Int)<=s
  ·have e:nf (aQ n L j).length (s::r)=0:=if_pos f;refine ac e ?_;exact⟨λi l=>absurd l (W7 _),x,λa=>by show((aQ n L j).length:Int)<=ay 0 L j;refine ac c ?_;exact f,u,by lia⟩
  ·obtain⟨z,w⟩:=Hs x ((c).symm▸q) ((c).symm▸(Int.not_le.mp f));have e:nf (aQ n L j).length (s::r)=nf (aQ n L (j+1)).length r+1:=by refine(?_:(if((aQ n L j).length:Int)<=s then 0 else nf ((aQ n L j).length - s) r+1)=_);exact ac (if_neg f) (ac w (ac c rfl))
   have g:=BB (j+1) (aD List.drop_drop (ac h rfl)) (by lia) (λt A=>hs t (.tail _ A)) z;refine ac e ?_;have m:∀t:Nat,j+(t+1)=j+1+t:=λt=>VU j t 1;refine⟨λi l=>?_,by rw[m];exact g.cut,by rw[m];exact g.stop,by rw[m];exact g.le,?_⟩
   ·induction i with
    |zero=>rw[Yk];refine ac c ?_;exact Int.not_le.mp f
    |succ i=>rw[m];exact g.go i (by lia)
   ·have:=g.few;simp only[c] at w;lia
theorem Ee:∀ps:List (List Nat),(jn ps).length<=ps.flatten.length+ps.length
 |[]=>Vr _
 |[a]=>by simp[jn]
 |a::b::r=>by refine(?_:(a++95::jn (b::r)).length<=_);refine ac U8 (ac VB (ac Xu (ac U8 (ac (VB (as:=b::r)) ?_))));exact U1 (WF (WE (Ee (b::r))) _) (Ve (Yv a.length (b::r).flatten.length ((b::r).length+1)).symm)
theorem zv (n:Int) (L:List Int):∀j,(aQ n L j).length<=(aQ n L 0).length
 |0=>Vr _
 |j+1=>U1 (Txt.slice_le (aQ n L j) UW (UV (-(ay 0 L j)))) (zv n L j)
theorem xC (n:Int) (L:List Int):∀g,(fG n L g).length=g
 |0=>rfl
 |g+1=>congrArg (· +1) (xC n L g)
structure Ua (n:Int) (L:List Int):Prop where
 x:sg n L
 is:oC (fI n) (al (bN n L))
 len:(bN n L).length<=12
theorem la {n:Int} (h0:0<=n) (h1:n<=999999) {L:List Int} (v:iJ L):Ua n L:=by
 have D:=uL h0 h1;have p:(∀s∈L,1<=s)/\(L.length=2∨L.length=7):=by
  obtain⟨f,s,E,p,h|h⟩:=v<;>subst h
  ·exact⟨λt d=>by simp only[WJ,WR,or_false] at d;rcases d with rfl|rfl|rfl|rfl|rfl|rfl|rfl<;>lia, .inr rfl⟩
  ·exact⟨λt d=>by simp only[WJ,WR,or_false] at d;rcases d with rfl|rfl<;>lia, .inl rfl⟩
 have w:(aQ n L 0).length=(fI n).length:=(aH _).symm;have q:(aQ n L 0).length<=6:=by have:=D.len;exact this.2
 have x:oz n L 0:=by
  refine⟨?_,λt d=>?_⟩
  ·refine(?_:[al (WL (toString n))].flatten=fI n);simp[fI]
  ·have:t=fI n:=List.mem_singleton.mp d;refine ac this ?_;intro e;have:=D.len;rw[e] at this;exact absurd this.1 (by decide)
 have R:=BB L 0 rfl (W2 _) p.1 x;have y:nf (aQ n L 0).length L=el n L:=rfl;rw[y] at R;have o:∀i:Nat,0+i=i:=aat;have b:oz n L (el n L):=by have:=R.cut;rwa[o] at this
 have k:el n L < 6:=by have:=R.few;exact U1 this q
 have r:=congrArg Xb b.flat;have z:((aQ n L (el n L)::fG n L (el n L)).map al).length=el n L+1:=by rw[Vy,VB,xC]
 have A:=Ee ((aQ n L (el n L)::fG n L (el n L)).map al);have g:al (bN n L)=jn ((aQ n L (el n L)::fG n L (el n L)).map al):=by refine(?_:al (Wx "_" (aQ n L (el n L)::fG n L (el n L)))=_);rw[gM];exact Hr _
 have l:(bN n L).length<=12:=by rw[<-aH];refine ac g ?_;have:=D.len;lia
 have m:∀t∈(aQ n L (el n L)::fG n L (el n L)).map al,∀c∈t,c≠95:=λt d c B e=>by have:c∈fI n:=aD b.flat (List.mem_flatten.mpr (aA t d B));have:=D.dig c this;exact absurd (e▸this.2) (by decide)
 refine⟨⟨⟨?_,λj C=>?_,λh=>?_,?_,λj=>by have:=zv n L j;lia,?_⟩,?_⟩,?_,l⟩
 ·refine(Y2 (n.natAbs=0)).elim (λu=>?_) λu=>?_
  ·refine ac u ?_;decide
  ·exact Vq ((abN u).mpr (show n.natAbs < 2^20 by lia)) (by decide)
 ·have:=R.go j C;rwa[o] at this
 ·have:=R.stop;rw[o] at this;exact this h
 ·have:=R.le;rwa[o] at this
 ·refine joinOk_of ?_;have e:((aQ n L (el n L)::fG n L (el n L)).map (·.length)).sum=(fI n).length:=by refine aD b.flat (ac List.length_flatten (ac Yg ?_));exact congrArg List.sum (W9 λs a=>(aH s).symm)
  refine ac e ?_;rw[VB,xC];have:=D.len;refine(?_:_+_*1<=_);lia
 ·refine(p.2).elim (λh=>?_) λh=>?_
  ·exact .inl h
  ·exact .inr ⟨h,k⟩
 ·have:=OX (ps:=(aQ n L (el n L)::fG n L (el n L)).map al) (by simp) b.ne m;rw[b.flat] at this;refine ac g ?_;exact this
theorem lZ {n:Int} (D:BA n) (h:oC (fI n) ν):∀c∈ν,c=95∨(48<=c/\c<=57):=λc a=>(h.in_ c a).imp id (D.dig c)
theorem OY {d:Lt} (e:iJ d.L) (b:∀x,x < 3->0<=d.n x/\d.n x<=999999):eW d:=by refine⟨λx a c h=>?_,λx a=>(la (b x a).1 (b x a).2 e).x,λx a=>U1 (la (b x a).1 (b x a).2 e).len (by decide)⟩;rcases lZ (uL (b x a).1 (b x a).2) (la (b x a).1 (b x a).2 e).is c h with q|q<;>lia
noncomputable def cJ (n:Nat):List Nat:=V8 n 32
noncomputable def aS (A B:Nat) (ν:List Nat):List Nat:=cJ A++ν++cJ B
theorem oE {k:Int} (h0:0<=k) (a:k < 3):al (Yj " " k)=cJ k.toNat:=by rcases(by lia:k=0∨k=1∨k=2) with rfl|rfl|rfl<;>rfl
theorem sR (s:Vb) (w:Int):al (bf s w)=aS (w.fmod 3).toNat ((w.fdiv 3).fmod 3).toNat (al s):=by have a:=bb w (by decide:(0:Int) < 3);have b:=bb (w.fdiv 3) (by decide:(0:Int) < 3);unfold bf aS;rw[aO,aO,oE a.1 a.2,oE b.1 b.2]
theorem zw (s:Vb):∀(r:List Nat) (i:Nat),(∀j,j < r.length->(al s)[i+j]?=r[j]?)->((gD s i r.length).map al).flatten=rv r
 |[],_,_=>rfl
 |c::r,i,h=>by have a:=h 0 (Wv _);simp only[Yk] at a;refine(?_:(al ("\\"++cz s i)::(gD s (i+1) r.length).map al).flatten=[92,c]++rv r);refine ac Xu ?_;rw[aO,Eb a];refine ac (zw s r (i+1) λj b=>by have:=h (j+1) (abD b);refine ac (show i+1+j=i+(j+1) by exact VU _ _ _) ?_;exact this) ?_;rfl
theorem Ht (t:Vb):al (jc t)=rv (al t):=by
 unfold jc;rw[gM];refine(?_:al (aac Vj _)=_);rw[iX];have:=zw t (al t) 0 λj a=>by rw[aat]
 rwa[aH] at this
theorem zx (t:Vb):al (iF t)=34::(al t++[34]):=by unfold iF;rw[aO,aO];rfl
structure xE (v un:List Nat) (A B:Nat) (ν:List Nat):Prop where
 run:∀p xs,v.foldl bO ⟨UY,UY,p,xs⟩=⟨UY,UY,p++un,xs⟩
 un:(un=ν/\A=0/\B=0)∨un=34::(aS A B ν++[34])
theorem Rs {a n b:Nat} (h:a+n+b=n):a=0/\b=0:=by lia
theorem Jj {n:Int} (D:BA n) {s:Vb} (h:oC (fI n) (al s)) (w:Int):xE (al (gE s w)) (match ed s w with|0=>al s|_=>34::(aS (w.fmod 3).toNat ((w.fdiv 3).fmod 3).toNat (al s)++[34])) (w.fmod 3).toNat ((w.fdiv 3).fmod 3).toNat (al s):=by
 have i:=lZ D h;have m:∀c∈aS (w.fmod 3).toNat ((w.fdiv 3).fmod 3).toNat (al s),c≠92/\c≠34:=λc f=>by
  unfold aS cJ at f;refine(List.mem_append.mp f).elim (λq=>?_) λq=>?_
  ·refine(List.mem_append.mp q).elim (λq=>?_) λq=>?_
   ·exact(List.mem_replicate.mp q).2▸(by decide)
   ·have:=i c q;lia
  ·exact(List.mem_replicate.mp q).2▸(by decide)
 have j:∀p b,bO ⟨UY,UY,p,b⟩ 34=⟨UY,UX,p++[34],b⟩:=λa a=>rfl;have l:∀p b,bO ⟨UY,UX,p,b⟩ 34=⟨UY,UY,p++[34],b⟩:=λa a=>rfl;unfold gE
 match g:ed s w with
 |0=>
  have d:bf s w=s:=by
   unfold ed at g;refine(Y2 (bf s w=s/\(w.fdiv 9).fmod 2≠0)).elim (λc=>?_) λc=>?_
   ·exact c.1
   ·rw[if_neg c] at g;split at g<;>cases g
  have e:=congrArg (λt=>(al t).length) d;rw[sR] at e;unfold aS cJ at e;rw[U8,U8,aax,aax] at e;refine⟨λp b=>?_, .inl ⟨rfl,(Rs e).1,(Rs e).2⟩⟩;refine(?_:(al (bf s w)).foldl bO _=_);refine ac d ?_;exact pW _ _ _ λc f=>by have:=i c f;lia
 |1=>refine⟨λp b=>?_, .inr rfl⟩;refine(?_:(al (iF (bf s w))).foldl bO _=_);rw[zx,sR,Zj,j,WQ,zu _ _ _ m,Zj,l];refine ac List.foldl_nil ?_;simp
 |k+2=>refine⟨λp b=>?_, .inr rfl⟩;refine(?_:(al (iF (jc (bf s w)))).foldl bO _=_);rw[zx,Ht,sR,Zj,j,WQ,xB,Zj,l];refine ac List.foldl_nil ?_;simp
def pX (z:List Nat):Prop:=z=[]∨z=[10]
theorem Jk (d:Lt):∃f g,pX f/\pX g/\al (dj d)=al (eL d 0)++(f++(al (eL d 1)++(g++al (eL d 2)))):=by
 have h:∀a b:Vb,al (Wx "\n" [a,b])=al a++([10]++al b):=λa b=>by rw[gM];refine(?_:al (a++"\n"++b)=_);rw[aO,aO,Vi];rfl
 have j:∀a b c:Vb,al (Wx "\n" [a,b,c])=al a++([10]++(al b++([10]++al c))):=λa b c=>by rw[gM];refine(?_:al (a++"\n"++(b++"\n"++c))=_);rw[aO,aO,aO,aO,Vi,Vi];rfl
 unfold dj lR;by_cases i:((eL d 0).length+(eL d 1).length:Int)<=d.W
 ·refine ac (if_pos i) ?_;by_cases e:((eL d 0).length+(eL d 1).length+(eL d 2).length:Int)<=d.W
  ·refine ac (if_pos e) ?_;exact(cY ([]) ([]) (.inl rfl) (.inl rfl) (by rw[(λa=>by rw[gM];rfl:∀a:Vb,al (Wx "\n" [a])=al a),aO,aO,Vi];rfl))
  ·refine ac (if_neg e) ?_;exact(cY ([]) ([10]) (.inl rfl) (.inr rfl) (by rw[h,aO,Vi];rfl))
 ·refine ac (if_neg i) ?_;by_cases e:((eL d 1).length+(eL d 2).length:Int)<=d.W
  ·refine ac (if_pos e) ?_;exact(cY ([10]) ([]) (.inr rfl) (.inl rfl) (by rw[h,aO];rfl))
  ·exact ac (if_neg e) (cY ([10]) ([10]) (.inr rfl) (.inr rfl) (j _ _ _))
noncomputable def io (x:Nat) (un:List Nat):List Nat:=(97+x)::61::un
theorem OZ (d:Lt) {x:Nat} (a:x < 3):al (eL d x)=32::(97+x)::61::(al (gE (bN (d.n x) d.L) ((d.w.fdiv (36^x)).fmod 36))++al (gF x)):=by unfold eL vL;rw[aO,aO,aO];rcases(by lia:x=0∨x=1∨x=2) with rfl|rfl|rfl<;>rfl
theorem BC {d:Lt} {x:Nat} (b:x < 3) {A B:Nat} (V:xE (al (gE (bN (d.n x) d.L) ((d.w.fdiv (36^x)).fmod 36))) un A B ν) (p:List Nat) (xs:List (List Nat)):
  (al (eL d x)).foldl bO ⟨UY,UY,p,xs⟩=(al (gF x)).foldl bO ⟨UY,UY,p++(32::io x un),xs⟩:=by
 refine ac (OZ d b) ?_
 have e:(32::(97+x)::61::(al (gE (bN (d.n x) d.L) ((d.w.fdiv (36^x)).fmod 36))++al (gF x)))=[32,97+x,61]++(al (gE (bN (d.n x) d.L) ((d.w.fdiv (36^x)).fmod 36))++al (gF x)):=rfl
 refine ac e ?_;rw[WQ,pW [32,97+x,61] p xs λc a=>by simp only[WJ,WR,or_false] at a;rcases a with rfl|rfl|rfl<;>lia,WQ,V.run]
 rw[Vi];rfl
theorem Jl {z:List Nat} (h:pX z) (p:List Nat) (xs:List (List Nat)):z.foldl bO ⟨UY,UY,p,xs⟩=⟨UY,UY,p++z,xs⟩:=by
 rcases h with rfl|rfl
 ·rw[VW];rfl
 ·rfl
theorem sS {p:List Nat} {xs:List (List Nat)}:(al (gF 0)).foldl bO ⟨UY,UY,p,xs⟩=⟨UY,UY,[],xs++[p]⟩/\(al (gF 1)).foldl bO ⟨UY,UY,p,xs⟩=⟨UY,UY,[],xs++[p]⟩/\(al (gF 2)).foldl bO ⟨UY,UY,p,xs⟩=⟨UY,UY,p,xs⟩:=⟨rfl,rfl,rfl⟩
theorem K7 {d:Lt} {j k l c f g:List Nat} {p q h i r s:Nat} (t:xE (al (gE (bN (d.n 0) d.L) ((d.w.fdiv (36^0)).fmod 36))) j p q c) (u:xE (al (gE (bN (d.n 1) d.L) ((d.w.fdiv (36^1)).fmod 36))) k h i f) (v:xE (al (gE (bN (d.n 2) d.L) ((d.w.fdiv (36^2)).fmod 36))) l r s g):
  ∃a b,pX a/\pX b/\(km (dj d)).L=⟨UY,UY,b++(32::io 2 l),[32::io 0 j,a++(32::io 1 k)]⟩:=by
 refine cy (Jk d) λa b m o e=>(cY a b m o ?_)
 unfold km
 rw[K4,e];refine ac WQ ?_
 refine(?_:((a++(al (eL d 1)++(b++al (eL d 2))))).foldl bO ((al (eL d 0)).foldl bO ⟨UY,UY,[],[]⟩)=_)
 rw[BC (by decide) t,sS.1,WQ,Jl m,WQ,BC (by decide) u,sS.2.1,WQ,Jl o,BC (by decide) v];refine ac sS.2.2 ?_
 rfl
end
section
open PySem.Spec PySem.Builtin PySem.Builtin.Str
theorem xF {p:Nat->Bool}:∀{z:List Nat} {c:Nat} {r:List Nat},(∀a∈z,p a=UX)->p c=UY->((z++c::r).takeWhile p).length=z.length
 |[],c,r,_,h=>by rw[Zh,List.takeWhile_cons_of_neg (by refine ac h ?_;decide)]
 |a::z,c,r,d,h=>by refine ac Xe ?_;refine ac (List.takeWhile_cons_of_pos (d a (.head _))) ?_;refine ac VB ?_;refine ac (xF (λb e=>d b (.tail _ e)) h) ?_;exact ac VB rfl
theorem sT (x:Vb) (i j:Nat):al (Builtin.Str.strSub x i j)=((al x).take j).drop i:=by refine(?_:(x.cps.extract i j).toList=_);refine ac acZ (?_:List.take (j - i) (List.drop i (al x))=_);exact ac List.drop_take rfl
theorem zy {l r:Bool} {x:Vb} {z b t:List Nat} {c e:Nat} {b1 b2:List Nat} (h:al x=z++(b++t)) (hl:l=UY->z=[]) (i:r=UY->t=[]) (hz:∀a∈z,V7 a=UX) (j:∀a∈t,V7 a=UX) (h1:b=c::b1) (k:V7 c=UY)
  (h2:b=b2++[e]) (m:V7 e=UY):al (Txt.stripBy V7 l r x)=b:=by
 have d:x.length=z.length+(b.length+t.length):=by rw[<-aH,h,U8,U8]
 have f:stripLo V7 l x=z.length:=by
  induction l with
  |false=>refine ac (hl rfl) ?_;rfl
  |true=>refine(?_:((al x).takeWhile V7).length=_);refine ac h (ac h1 (ac Xe ?_));exact xF hz k
 have g:stripHi V7 r x z.length=z.length+b.length:=by
  induction r with
  |false=>refine(?_:x.length=_);refine ac d (ac (i rfl) ?_);rfl
  |true=>refine(?_:x.length - (((al x).drop z.length).reverse.takeWhile V7).length=_);refine ac h (ac List.drop_left (ac h2 (ac Ym (ac Ym (ac acJ (ac acU ?_))))));refine ac (xF (λa n=>j a (List.mem_reverse.mp n)) m) (ac List.length_reverse (ac d (aD h2 ?_)));exact ac (Yv _ _ _).symm (ZM ..)
 rw[PyProof.Rows.stripBy_eq,f,g,sT,h,<-Vi,<-U8,ab1,List.drop_left]
theorem zz:V7 32=UX:=by decide+kernel
theorem K8:V7 10=UX:=by decide+kernel
theorem jU:∀c,c < 128->33<=c->V7 c=UY:=by decide+kernel
theorem O0 {s:Vb} {c:Nat} (h:subAt s ⟨#[c]⟩ i=UX):(al s)[i]?=UV c:=by dsimp only[subAt] at h;have a:=congrArg Array.toList (beq_iff_eq.mp h);rw[acZ] at a;have b:((al s).drop i).take (i+1 - i)=[c]:=a;rw[show i+1 - i=1 by exact W4 ..] at b;have d:(((al s).drop i).take 1)[0]?=UV c:=ac b rfl;rw[List.getElem?_take_of_lt (by decide),adz,Yk] at d;exact d
theorem K9 {s:Vb} {c a:Nat} {r:List Nat} (h:al s=a::c::r) (k:a≠c) (l:c∉r):occurrences s ⟨#[c]⟩ 0 s.length 1=[1]:=by
 have b:=StrLaws.found_one s c;have d:c∈s.cps.toList:=by show c∈al s;refine ac h ?_;exact .tail _ (.head _)
 rw[decide_eq_true d] at b;have g:=StrLaws.occ_length_le s ⟨#[c]⟩ 0 s.length 1;have m:=StrLaws.occ_spec s ⟨#[c]⟩ 0 s.length 1
 match e:occurrences s ⟨#[c]⟩ 0 s.length 1 with
 |[]=>rw[e] at b;cases b
 |i::j::q=>rw[e] at g;exact absurd g (by simp)
 |[i]=>
  have f:=O0 (m i (ac e (.head _))).2;rw[h] at f
  match i with
  |0=>exact absurd (U0 f) k
  |1=>rfl
  |i+2=>have n:r[i]?=UV c:=f;exact absurd (WX n) l
theorem Hu {a x:Vb} {n:Nat} (e:al a=[n]) (h:al x=n::61::un) (g:n≠61) (i:∀c∈un,c≠61) (d:∀c∈al x,c < 256) (hl:x.length<=1000):kQ a x:=by
 have b:occurrences x "=" 0 x.length (limitOf x 1)=[1]:=K9 h g λj=>i 61 j rfl;have f:x.length=un.length+2:=by rw[<-aH];refine ac h ?_;rfl
 have k:Xp x=1:=by dsimp only[Xp];rw[if_pos];rw[Array.all_eq_true'];intro c l;exact decide_eq_true (d c (Array.mem_toList_iff.mpr l))
 refine⟨by decide,?_,by decide,(b).symm▸rfl,jf hl rfl,?_⟩
 ·refine ac k (ac (show aba "="=1 from rfl) (ac (decide_eq_false (by lia)) (ac (decide_eq_false (by decide+kernel)) ?_)));rfl
 ·refine(b).symm▸(?_:[strSub x 0 1,strSub x 2 x.length]=[a,Wr x (UV (a.length+1:Nat)) UW]);have m:strSub x 2 x.length=Wr x (UV (a.length+1:Nat)) UW:=fN (by refine ac (by rw[<-aH];refine ac e ?_;rfl:a.length=1) ?_;rw[sT,Ed (by lia),<-aH,Z4]);exact ac (fN (by rw[sT,h];refine ac e ?_;rfl):strSub x 0 1=a) (ac m rfl)
theorem l4 {s:Vb} {c:Nat} (h:(al s)[i]?=UV c):Xx s (i:Int)=UV c:=by
 have a:ZQ (i:Int) s.length=UV i:=by unfold ZQ;simp;exact ac (if_neg (Int.not_lt.mpr (Vp _))) ⟨⟨Vp _,Int.ofNat_lt.mpr (by rw[<-aH];exact bn h:i < s.length)⟩,rfl⟩
 unfold Xx;refine ac a (?_:s.cps[i]?=UV c);refine aD (YQ) ?_;exact h
theorem xG {s:Vb} {c:Nat} (h:(al s)[i]?=UV c):X5 s (i:Int)=⟨#[c]⟩:=by unfold X5;refine ac (l4 h) ?_;rfl
structure Ub (nm x:Vb) (T:List Nat):Prop where
 elt:jq nm x (jL x)
 val:al (pE x)=T
theorem QJ {nm x:Vb} {A B:Nat} (y:k < 3) (p:al nm=[97+k]) (n:al x=io k un) (g:∀c∈ν,c=95∨(48<=c/\c<=57)) (s:∃c r,ν=c::r/\48<=c/\c<=57) (v:(un=ν/\A=0/\B=0)∨un=34::(aS A B ν++[34])) (hl:x.length<=900):Ub nm x (aS A B ν):=by
 have i:∀c∈aS A B ν,c=32∨c=95∨(48<=c/\c<=57):=λc b=>by
  unfold aS cJ at b;refine(List.mem_append.mp b).elim (λq=>?_) λq=>?_
  ·refine(List.mem_append.mp q).elim (λq=>?_) λq=>?_
   ·exact .inl (List.mem_replicate.mp q).2
   ·exact .inr (g c q)
  ·exact .inl (List.mem_replicate.mp q).2
 have j:∀c∈un,c=34∨c=32∨c=95∨(48<=c/\c<=57):=λc b=>by
  rcases v with ⟨h,_,_⟩|h
  ·rw[h] at b;exact .inr (.inr (g c b))
  ·rw[h] at b;refine(List.mem_cons.mp b).elim (λq=>?_) λq=>?_
   ·exact .inl q
   ·refine(List.mem_append.mp q).elim (λq=>?_) λq=>?_
    ·exact .inr (i c q)
    ·exact .inl (List.mem_singleton.mp q)
 have w:x.length=un.length+2:=by rw[<-aH];refine ac n ?_;rfl
 have f:al (cQ x)=un:=by unfold cQ;refine ac (show(UV (2:Int))=UV ((2:Nat):Int) from rfl) (ac (Ed (by lia)) (ac n ?_));rfl
 have z:(cQ x).length=un.length:=by rw[<-aH,f]
 have l:kQ nm x:=Hu p n (by lia) (λc b=>by have:=j c b;lia) (λc b=>by
  rw[n] at b;unfold io at b;refine(List.mem_cons.mp b).elim (λq=>?_) λq=>?_
  ·exact q▸XG (adv y 97) (by decide)
  ·refine(List.mem_cons.mp q).elim (λq=>?_) λq=>?_
   ·exact q▸(by decide)
   ·exact(j c q).elim (λh=>h▸(by decide)) λh=>h.elim (λh=>h▸(by decide)) λh=>h.elim (λh=>h▸(by decide)) λh=>Vl h.2 (by decide)) (by lia)
 have m:∀c r q,un=c::r->decide (c=34)=q->jL x=q/\(Xx (cQ x) 0).isSome=UX:=λc r q b C=>by
  have h0:(al (cQ x))[0]?=UV c:=by refine ac f (ac b ?_);rfl
  refine⟨?_,by refine ac (show(0:Int)=((0:Nat):Int) from rfl) (ac (l4 h0) ?_);rfl⟩;unfold jL;refine ac (show(0:Int)=((0:Nat):Int) from rfl) (ac (xG h0) (aD C ?_));exact ru c 34
 rcases v with ⟨h,rfl,rfl⟩|h
 ·refine aG s λc r b D=>(aN (m c r UY (h.trans b) (decide_eq_false (by lia))) λo t=>?_)
  refine⟨⟨l,by lia,t,rfl,λe=>by rw[o] at e;cases e⟩,?_⟩;unfold pE;refine ac o (ac (by unfold aS cJ;simp:aS 0 0 ν=ν) (aD h ?_));exact f
 ·refine aN (m 34 _ UX h rfl) λo t=>?_;have d:al (cQ x)=(34::aS A B ν)++[34]:=by refine ac f (ac h ?_);rfl
  refine⟨⟨l,by lia,t,rfl,λa=>⟨ac (ko d) rfl,ac (tA d) (bS.mpr rfl)⟩⟩,?_⟩;unfold pE;refine ac o (?_:al (Wr (cQ x) (UV 1) (UV (-1)))=_);have u:(cQ x).length=(aS A B ν).length+2:=by rw[<-aH,f,h,VB];refine ac U8 ?_;rfl
  have e:Wr (cQ x) (UV 1) (UV (-1))=Wr (cQ x) (UV ((1:Nat):Int)) (UV (((aS A B ν).length+1:Nat):Int)):=by rw[jT,StrLaws.sliceText_neg_hi _ _ (by decide) (by lia)];refine ac (show((-1:Int)+((cQ x).length:Int))=(((aS A B ν).length+1:Nat):Int) by lia) ?_;rfl
  refine ac e (ac (sQ (by lia) (by lia)) (ac f (ac h ?_)));refine(?_:((aS A B ν)++[34]).take ((aS A B ν).length+1 - 1)=_);rw[ZM,ab1]
theorem pY:∀(A:Nat) {c:Nat} {r:List Nat},c≠32->lJ (cJ A++c::r)=A
 |0,c,r,h=>if_neg h
 |A+1,c,r,h=>by refine(?_:(if 32=32 then lJ (cJ A++c::r)+1 else 0)=_);exact ac (if_pos rfl) (ac (pY A h) rfl)
theorem zA (A:Nat):(cJ A).reverse=cJ A:=List.reverse_replicate
theorem O1 {A B:Nat} {c e:Nat} {l r:List Nat} (h1:ν=c::r) (h2:ν=l++[e]) (a:c≠32) (b:e≠32):lJ (aS A B ν)=A/\lJ (aS A B ν).reverse=B:=by
 constructor
 ·unfold aS;rw[Vi,h1];refine ac Xe ?_;exact pY A a
 ·unfold aS;refine ac Ym ?_;rw[Ym,zA,zA,h2,Ym];refine ac acJ ?_;exact pY B b
theorem rx {s:Vb} {c:Nat} (h:(al s)[i]?=UV c) (hl:s.length<=1000):lI s (i:Int) (decide (c=32)):=by
 have a:i < s.length:=by rw[<-aH];exact bn h
 refine⟨?_,ac (l4 h) rfl,ac (xG h) (ru c 32)⟩;unfold abd;simp;lia
theorem ry (s:Vb):∀k:Nat,qZ s k=(s.length:Int) - 1 - k
 |0=>by show(s.length:Int) - 1=_;lia
 |k+1=>by show qZ s k - 1=_;refine ac (ry s k) ?_;lia
theorem zB {A:Nat} (h:i < A):(cJ A)[i]?=UV 32:=by unfold cJ;exact ac (List.getElem?_replicate) (ac (if_pos h) rfl)
abbrev K0 (x B:Nat):Prop:=min x B < x->min x B=B
theorem Uc {t a b:Nat} (h:t=a+b) (hi:i < b):(t:Int) - 1 - i=((a+(b - 1 - i):Nat):Int):=by obtain⟨r,rfl⟩:=abo hi;refine ac h ?_;rw[Nat.sub_sub,Wi 1 i,show i.succ+r - (i+1)=r from W4 ..,show a+(i.succ+r)=a+r+i+1 by rw[<-Yv,VU];rfl];exact(congrArg (· - (i:Int)) (XM ((a+r+i:Nat):Int) 1)).trans (XM ((a+r:Nat):Int) i)
theorem Ud {t a n b:Nat} (h:t=a+n+b) (c:1<=n):(t:Int) - 1 - b=((a+(n - 1):Nat):Int):=by obtain⟨r,rfl⟩:=abo c;refine ac h ?_;rw[W4,show a+(1+r)+b=a+r+b+1 by ac_rfl];exact(congrArg (· - (b:Int)) (XM ((a+r+b:Nat):Int) 1)).trans (XM ((a+r:Nat):Int) b)
theorem Ue {t:Nat} (h:k<=t):(t:Int) - 1 - k+1=((t - k:Nat):Int):=by rw[aa2 h];lia
theorem La {t a n b:Nat} (h:t=a+n+b) (h1:j<=a) (h2:k<=b):a - j+(n+(b - k))=t - k - j:=by obtain⟨c,rfl⟩:=abo h1;obtain⟨d,rfl⟩:=abo h2;refine ac h ?_;rw[W4,W4,show j+c+n+(k+d)=c+(n+d)+j+k by ac_rfl,ZM,ZM]
theorem Lb {t:Vb} {A B:Nat} {c e:Nat} {l r:List Nat} (f:al t=aS A B ν) (h1:ν=c::r) (h2:ν=l++[e]) (w:c≠32) (x:e≠32) (hl:t.length<=1000) {a:Int} (D:0<=a) (E:a<=4):
  iD t a.toNat (mc t a) (me t a)/\al (d8 t a)=aS (A - min a.toNat A) (B - min (a.toNat - min a.toNat A) B) ν:=by
 refine aN (O1 (A:=A) (B:=B) h1 h2 w x) λF G=>?_
 have p:mc t a=min a.toNat A:=by unfold mc;refine ac f ?_;rw[F]
 have y:me t a=min (a.toNat - min a.toNat A) B:=by unfold me;refine ac p ?_;rw[f,G]
 have b:t.length=A+ν.length+B:=by rw[<-aH];refine ac f ?_;unfold aS cJ;simp[Yv]
 have g:1<=ν.length:=by refine ac h1 (ac VB ?_);lia
 have gl:∀i,i < A->(al t)[i]?=UV 32:=λi d=>by refine ac f ?_;unfold aS;rw[Vi];refine ac (Wl (by unfold cJ;simpa using d)) ?_;exact zB d
 have z:∀i,i < ν.length->(al t)[A+i]?=ν[i]?:=λi d=>by refine ac f ?_;unfold aS;rw[Vi,VS (by unfold cJ;simp)];refine ac (Wl (by unfold cJ;simp;lia)) ?_;unfold cJ;simp
 have H:∀i,i < B->(al t)[A+ν.length+i]?=UV 32:=λi d=>by refine ac f ?_;unfold aS;refine ac (VS (by unfold cJ;simp)) (ac (show A+ν.length+i - (cJ A++ν).length=i by unfold cJ;simp) ?_);exact zB d
 refine ac p (ac y ?_)
 have n:min a.toNat A < a.toNat->min a.toNat A=A:=λh=>Yl (Wy (Nat.lt_of_not_le λq=>absurd (Xr q▸h) (WT _)))
 generalize j:min a.toNat A=J at n
 have k:K0 (a.toNat - J) B:=λh=>Yl (Wy (Nat.lt_of_not_le λq=>absurd (Xr q▸h) (WT _)))
 have o:J<=A:=j▸Nat.min_le_right _ _
 have m:=Nat.min_le_right (a.toNat - J) B
 have C:=Nat.min_le_left (a.toNat - J) B
 unfold K0 at k
 generalize s:min (a.toNat - J) B=K at m C k
 have M:0 < t.length:=by lia
 refine⟨⟨Wi K J▸(Nat.le_sub_iff_add_le (j▸Nat.min_le_left _ _:J<=a.toNat)).mp C,Int.toNat_le.mpr E,hl,λi d=>rx (gl i (Vq d o)) hl,λh=>?_,λi d=>?_,λh=>?_⟩,?_⟩
 ·have h0:=z 0 g;simp only[h1,Yk] at h0;have:=rx (c:=c) (i:=J) (ac (n h) h0) hl;rwa[decide_eq_false w] at this
 ·have u:=Vq d m;have:=rx (H (B - 1 - i) (Vl (XI _ _) (Yx (Vq (Nat.zero_lt_of_lt d) m) YC))) hl;rw[ry];refine ac (show(t.length:Int) - 1 - i=((A+ν.length+(B - 1 - i):Nat):Int) from Uc b u) ?_;exact this
 ·have u:K=B:=k (Ze (aD (Wi J K) h));have h0:=z (ν.length - 1) (Yx g YC);have v:ν[ν.length - 1]?=UV e:=by refine ac h2 (ac U8 ?_);exact bj rfl
  simp only[v] at h0;have:=rx h0 hl;simp only[decide_eq_false x] at this;rw[ry,u];refine ac (show(t.length:Int) - 1 - B=((A+(ν.length - 1):Nat):Int) from Ud b g) ?_;exact this
 ·unfold d8 wg;refine ac p ?_;rw[y,j,s,ry,show(t.length:Int) - 1 - K+1=((t.length - K:Nat):Int) from Ue (U1 m (U1 (Wp _ _) (Ve b.symm))),sQ (adm (U1 (VD (U1 o (Vm _ _)) m) (Ve b.symm))) (XI _ _)];refine ac f ?_;have I:cJ B=cJ (B - K)++cJ K:=by unfold cJ;refine ac abp ?_;congr 1;exact(Wm m).symm
  have e:aS A B ν=cJ J++(aS (A - J) (B - K) ν++cJ K):=by unfold aS;refine ac (by unfold cJ;refine ac abp ?_;congr 1;exact(XW o).symm:cJ A=cJ J++cJ (A - J)) (ac I ?_);simp only[Vi]
  have L:(aS (A - J) (B - K) ν).length=t.length - K - J:=by unfold aS cJ;simp;exact La b o m
  exact ac e (ac (List.drop_left' (aax:(cJ J).length=J)) (ac (List.take_left' L) rfl))
theorem Hv {n:Int} (D:BA n) {u:Vb} {B:Nat} (N:oC (fI n) ν) (f:al u=ν++cJ B) (hl:u.length<=500):GH u/\iE (cu u)=n:=by
 have A:=lZ D N;refine aG N.head λc r m o=>(aG N.last λl e p q=>?_)
 have s:=D.dig c o;have v:=D.dig e q;have g:al (X7 u)=ν:=by refine zy (l:=UY) (r:=UX) (z:=[]) (t:=cJ B) (c:=c) (e:=e) (b1:=r) (b2:=l) ((f).symm▸rfl) (λb=>rfl) (λh=>by cases h) (λb h=>nomatch h) (λa d=>?_) m (jU c (by lia) (by lia)) p (jU e (by lia) (by lia));refine ac ((List.mem_replicate.mp d).2) ?_;exact zz
 have i:al (cu u)=fI n:=by
  unfold cu;have w:al (abM (X7 u) "_" "")=(al (X7 u)).filter (· !=95):=(replace_strikes (X7 u) 95)
  refine ac w ?_;refine ac g ?_;refine aD N.bare ?_;exact List.filter_congr λa b=>by by_cases h:a=95<;>simp[h]
 have x:(cu u).length=(fI n).length:=by rw[<-aH,i]
 have C:=D.len;have d:hO (cu u)=cu u:=fN (by unfold hO;refine ac (show(UV (0:Int))=UV ((0:Nat):Int) from rfl) ?_;rw[sQ (W2 _) (Vr _),aaF,Nat.sub_zero,<-aH,Z4]);have j:Y4 (hO (cu u))=UV n:=by refine ac d ?_;refine ac (fN i:cu u=WL (toString n)) ?_;exact D.back
 have k:iE (cu u)=n:=by unfold iE;refine ac j ?_;rfl
 have y:(X7 u).length<=u.length:=by rw[<-aH,<-aH,g,f];refine ac U8 ?_;lia
 exact⟨⟨by lia,by lia,by lia,ac j (ac k rfl),by refine(d).symm▸ ?_;lia⟩,k⟩
def f8 (d:Lt) (x:Nat):List Nat:=match ed (bN (d.n x) d.L) ((d.w.fdiv (36^x)).fmod 36) with
 |0=>al (bN (d.n x) d.L)
 |_=>34::(aS (((d.w.fdiv (36^x)).fmod 36).fmod 3).toNat ((((d.w.fdiv (36^x)).fmod 36).fdiv 3).fmod 3).toNat (al (bN (d.n x) d.L))++[34])
theorem BD (y:Int):(y.fmod 36).fmod 3=y.fmod 3:=by refine ac (V5 _ (by decide)) (ac (V5 _ (by decide)) (ac (V5 _ (by decide)) ?_));exact Int.emod_emod_of_dvd _ ⟨12,rfl⟩
theorem UU (y:Int):y % 36 / 3 % 3=y / 3 % 3:=by have h:y=y % 36+3*(12*(y / 36)):=(Int.emod_add_mul_ediv y 36).symm.trans (congrArg (y % 36+·) (aa1 3 12 (y / 36)));have a:y / 3=y % 36 / 3+3*(4*(y / 36)):=(congrArg (· / 3) h).trans ((Int.add_mul_ediv_left _ _ (by decide)).trans (congrArg (y % 36 / 3+·) (aa1 3 4 (y / 36))));exact ac a (Int.add_mul_emod_self_left _ _ _).symm
theorem BE (y:Int):((y.fmod 36).fdiv 3).fmod 3=(y.fdiv 3).fmod 3:=by refine ac (V5 _ (by decide)) (ac (V5 _ (by decide)) (ac (V5 _ (by decide)) (ac (Wj _ (by decide)) (ac (Wj _ (by decide)) ?_))));exact UU _
theorem Ef {A a:Int} (b:0<=A) (c:0<=a):wq A a=((a.toNat - A.toNat:Nat):Int):=by
 obtain⟨A,rfl⟩:=VX b;obtain⟨a,rfl⟩:=VX c;unfold wq;rw[su];rcases aao a A with h|h
 ·rw[Vx,Vx];refine ac (Xm h) ?_;exact Y7 (aaO (Int.ofNat_le.mpr h))
 ·rw[Vx,Vx];refine ac (aa2 h) ?_;exact Zs (X9 (Int.ofNat_le.mpr h))
theorem Uf {A a:Int} (b:0<=A) (c:0<=a):(lN A a).toNat=A.toNat - min a.toNat A.toNat:=by
 unfold lN;refine ac (Ef b c) ?_;obtain⟨A,rfl⟩:=VX b;obtain⟨a,rfl⟩:=VX c;rcases aao a A with h|h
 ·rw[Vx,Vx,Xm h];refine ac (Xr h) ?_;exact(congrArg XS (ZB _)).trans (Xd _ _)
 ·rw[Vx,Vx];exact ac (Yl h) ((congrArg XS ((congrArg (((A:Int) - a)+·) ((aa2 h).trans (Int.neg_sub _ _).symm)).trans (Int.add_right_neg _))).trans (WU _).symm)
theorem Ug {A B a:Int} (b:0<=A) (d:0<=B) (e:0<=a):(ni A B a).toNat=B.toNat - min (a.toNat - min a.toNat A.toNat) B.toNat:=by
 unfold ni;refine ac (Ef b e) ?_;rw[su];refine ac (show a.toNat - min a.toNat A.toNat=a.toNat - A.toNat by rcases aao a.toNat A.toNat with h|h;exact ac (Xr h) ((WU _).trans (Xm h).symm);rw[Yl h]) ?_;obtain⟨B,rfl⟩:=VX d;generalize a.toNat - A.toNat=c;rcases aao c B with h|h
 ·rw[Vx];exact ac (Xr h) (ac (Zs (X9 (Int.ofNat_le.mpr h))) (Xd _ _))
 ·rw[Vx];exact ac (Yl h) (ac (Y7 (aaO (Int.ofNat_le.mpr h))) (WU _).symm)
theorem xH {d:Lt} {x:Nat} (Q:x < 3) (u:0<=d.n x/\d.n x<=999999) (R:iJ d.L) {z:List Nat} (hz:∀a∈z,V7 a=UX) {s nm:Vb} (y:al nm=[97+x]) (hs:al (b8 s x)=z++io x (f8 d x)):re s d.w d.L nm (d.n x) x:=by
 have N:=la u.1 u.2 R;have D:=uL u.1 u.2;have V:=Jj D N.is ((d.w.fdiv (36^x)).fmod 36);have A:(f8 d x=al (bN (d.n x) d.L)/\(wA d.w x).toNat=0/\(wB d.w x).toNat=0)∨f8 d x=34::(aS (wA d.w x).toNat (wB d.w x).toNat (al (bN (d.n x) d.L))++[34]):=by
  have:=V.un;rw[BD,BE] at this;have e:f8 d x=(match ed (bN (d.n x) d.L) ((d.w.fdiv (36^x)).fmod 36) with|0=>al (bN (d.n x) d.L)|_=>34::(aS ((d.w.fdiv (36^x)).fmod 3).toNat (((d.w.fdiv (36^x)).fdiv 3).fmod 3).toNat (al (bN (d.n x) d.L))++[34])):=by unfold f8;rw[BD,BE]
  exact ac e this
 have k:=lZ D N.is;refine aG N.is.head λc r I B=>?_;refine aG N.is.last λl e J C=>?_;have F:=D.dig c B;have S:=D.dig e C;have j:=II d.w x;have m:=IJ d.w x;have i:∃K f,io x (f8 d x)=K++[f]/\V7 f=UY:=by
  rcases A with ⟨h,_,_⟩|h
  ·exact(bL ((97+x)::61::l) e (by refine ac h (ac J ?_);rfl) (jU e (by lia) (by lia)))
  ·exact(bL ((97+x)::61::34::aS (wA d.w x).toNat (wB d.w x).toNat (al (bN (d.n x) d.L))) 34 (by refine ac h ?_;rfl) (jU 34 (by lia) (by lia)))
 refine aG i λK f G T=>?_;have o:al (Wf (b8 s x))=io x (f8 d x):=zy (l:=UX) (r:=UX) (t:=[]) (by refine ac hs ?_;rw[VW]) (λh=>by cases h) (λh=>by cases h) hz (λb h=>nomatch h) (show io x (f8 d x)=(97+x)::61::f8 d x from rfl) (jU _ (by lia) (by lia)) G T;have U:(f8 d x).length<=100:=by
  have g:=N.len;rw[<-aH] at g;rcases A with ⟨h,_,_⟩|h
  ·refine ac h ?_;lia
  ·refine ac h ?_;unfold aS cJ;simp;exact U1 (VD (jO j) (VD g (WE (jO m)))) (by decide)
 have p:(Wf (b8 s x)).length<=900:=by rw[<-aH];refine ac o ?_;show(f8 d x).length+2<=900;lia
 have E:=QJ Q y o k (bL c r I (by exact F)) A p;have M:al (et s x)=aS (wA d.w x).toNat (wB d.w x).toNat (al (bN (d.n x) d.L)):=E.val;have W:(et s x).length<=400:=by have g:=N.len;rw[<-aH] at g ⊢;refine ac M ?_;unfold aS cJ;simp;exact U1 (VD (jO j) (VD g (jO m))) (by decide)
 have st:∀a:Int,0<=a->a<=4->iD (et s x) a.toNat (mc (et s x) a) (me (et s x) a)/\al (d8 (et s x) a)=aS ((wA d.w x).toNat - min a.toNat (wA d.w x).toNat) ((wB d.w x).toNat - min (a.toNat - min a.toNat (wA d.w x).toNat) (wB d.w x).toNat) (al (bN (d.n x) d.L)):=
  λa h0 v=>Lb M I J (by lia) (by lia) (by lia) h0 v
 have X:=(st (wA d.w x) j.1 (by lia)).2;have q:al (d8 (et s x) (wA d.w x))=al (bN (d.n x) d.L)++cJ (wB d.w x).toNat:=by refine ac X (ac (show(wA d.w x).toNat - min (wA d.w x).toNat (wA d.w x).toNat=0 from ac (Nat.min_self _) (WU _)) (ac (show(wB d.w x).toNat - min 0 (wB d.w x).toNat=(wB d.w x).toNat from congrArg (_ - ·) (Nat.zero_min _)) ?_));rfl
 have H:(d8 (et s x) (wA d.w x)).length<=500:=by have g:=N.len;rw[<-aH] at g ⊢;refine ac q ?_;unfold cJ;simp;exact U1 (VD g (jO m)) (by decide)
 refine aN (Hv D N.is q H) λY Z=>?_;refine⟨E.elt,N.x,U1 N.len (by decide),λa h0 v=>⟨(st a h0 v).1,fN ?_⟩,Y,Z⟩;refine aN (y7 j m h0) λO P=>?_;refine ac ((st a h0 v).2) ?_;unfold Bf;rw[aO,aO,oE O.1 O.2];refine ac (oE P.1 P.2) ?_;refine ac (Uf j.1 h0) ?_;rw[Ug j.1 m.1 h0];rfl
theorem O2 {d:Lt} (i:∀x,x < 3->0<=d.n x/\d.n x<=999999) (p:iJ d.L) (H:10<=d.W):rf (dj d) d.a d.b d.c d.L d.w:=by
 have N:=λx f=>la (i x f).1 (i x f).2 p;have V:=λx f=>Jj ((λx f=>uL (i x f).1 (i x f).2) x f) (N x f).is ((d.w.fdiv (36^x)).fmod 36);refine cy (K7 (d:=d) (V 0 (by decide)) (V 1 (by decide)) (V 2 (by decide))) λm r t u I=>?_;have j:(km (dj d)).L=⟨UY,UY,r++(32::io 2 (f8 d 2)),[32::io 0 (f8 d 0),m++(32::io 1 (f8 d 1))]⟩:=I;have v:al (b8 (dj d) 2)=r++(32::io 2 (f8 d 2)):=congrArg LS.part j;have g:(km (dj d)).xs.map al=[32::io 0 (f8 d 0),m++(32::io 1 (f8 d 1))]:=congrArg LS.xs j;obtain⟨y,A,f⟩:=uw (show(km (dj d)).xs.length=2 by have:=congrArg Xb g;rw[Vy] at this;exact this);rw[f] at g;have h0:al y=32::io 0 (f8 d 0):=(Yb g).1;have B:al A=m++(32::io 1 (f8 d 1)):=(Yb (Yb g).2).1;have C:b8 (dj d) 0=y:=by show ay Vj (km (dj d)).xs 0=y;refine ac f ?_;rfl
 have D:b8 (dj d) 1=A:=by show ay Vj (km (dj d)).xs 1=A;refine ac f ?_;rfl
 have E:∀z,pX z->∀a∈z++[32],V7 a=UX:=λz o a J=>by
  rcases List.mem_append.mp J with q|q
  ·rcases o with rfl|rfl
   ·cases q
   ·refine ac (List.mem_singleton.mp q) ?_;exact K8
  ·refine ac (List.mem_singleton.mp q) ?_;exact zz
 have K:=xH (d:=d) (x:=1) (by decide) (i 1 (by decide)) p (z:=m++[32]) (E m t) (s:=dj d) (nm:="b") rfl (by refine ac D ?_;rw[B,Vi];rfl);have M:=xH (d:=d) (x:=2) (by decide) (i 2 (by decide)) p (z:=r++[32]) (E r u) (s:=dj d) (nm:="c") rfl (by refine ac v ?_;rw[Vi];rfl);have F:∀x,x < 3->(f8 d x).length<=100:=λx f=>by
  have l:=(N x f).len;rw[<-aH] at l;have R:=bb ((d.w.fdiv (36^x)).fmod 36) (by decide:(0:Int) < 3);have a2:=bb (((d.w.fdiv (36^x)).fmod 36).fdiv 3) (by decide:(0:Int) < 3);have O:=bb (d.w.fdiv (36^x)) (by decide:(0:Int) < 3);have P:=bb ((d.w.fdiv (36^x)).fdiv 3) (by decide:(0:Int) < 3);unfold f8;rw[BD,BE];generalize ed _ _=k;induction k using WC with
  |zero=>exact U1 l (by decide)
  |succ k=>refine(?_:(34::(aS _ _ _++[34])).length<=100);unfold aS cJ;simp;exact U1 (VD (jO O) (VD l (WE (jO P)))) (by decide)
 have o:∀z,pX z->z.length<=1:=λz h=>by rcases h with rfl|rfl<;>decide
 have G:∀x,x < 3->(al (eL d x)).length<=216:=λx f=>by rw[aH,j7];have:=ib (OY p i) f;grind
 refine⟨⟨?_,?_,?_,?_⟩,(xH (d:=d) (x:=0) (by decide) (i 0 (by decide)) p (z:=[]++[32]) (E [] (.inl rfl)) (s:=dj d) (nm:="a") rfl (ac C (ac h0 rfl))),K,M⟩
 ·refine cy (Jk d) λy1 y2 g1 Q e=>?_;rw[<-aH];refine ac e ?_;simp only[U8];have:=o y1 g1;have:=o y2 Q;have:=G 0 (by decide);have:=G 1 (by decide);have:=G 2 (by decide);grind
 ·refine L_inj (ac C (ac D ?_));refine(?_:(km (dj d)).L=⟨UY,UY,al (b8 (dj d) 2),[al y,al A]⟩);exact ac j (ac v (ac h0 (ac B rfl)))
 ·rw[<-aH,v];refine ac U8 ?_;show _+(_+1)≠0;grind
 ·have S:=F 0 (by decide);have T:=F 1 (by decide);have U:=F 2 (by decide);have X:=o m t;have Y:=o r u;refine ac C ?_;rw[D,<-aH,<-aH,<-aH,h0,B];refine ac v ?_;unfold io;simp only[U8,VB];grind
theorem O3 {k:aY} (h:iJ k.L):jt k:=λd b c a=>⟨OY (ac b h) c,O2 c (ac b h) a⟩
end
section
theorem Ld (l:List Int):jt (dE l):=O3 (by refine(?_:iJ (pS l));rw[xy];exact Hg (xn _))
end
section
open PySem.W PySem.W.X
def q:Vz:=view pw [29]
noncomputable def loose:List Vb:=["_wall","CHAR_MAX","_grouping_intervals","_strip_padding","compute_powers","_str_to_int_inner","int_from_string","_int2digits","_digits2int","NL","EMPTYSTRING","_ValueFormatter","_Accumulator","parse_keqv_list","parse_http_list","_law_cells","_law_ruler","_law_sizes","_law_numeral","_law_value","_law_letter","_law_read","_law_taken","_law_day"]
noncomputable def Xt (s:U7):Bool:=xlAt q [] s&&recOk [] s
noncomputable def zC:List U6->Vc->List (Option Xg)
 |[],_=>[]
 |a::r,h=>h.get? a::zC r h
noncomputable def O4:List U6:=[45,59,66,190,197]
def O5 (s:U7):List (Option Xg)×List (Option Xg)×Bool×Bool:=(zC RJ s.heap,zC O4 s.heap,(s.heap.get? sysModules).isSome,abg 1 s.toks)
def val (w:V6):List (Option Xg)×List (Option Xg)×Bool×Bool:=((aF w.params).map λp=>UV p.2,O4.map λa=>UV {cls:= .none,data:= .fields #[]},UX,UX)
theorem O6:∀w:V6,(fencedOpening treeTable pw w 4000).map (λs=>(s.heap,s.gens,s.drawn,s.toks))=UV (boot_heap w.params,Array.mk [],boot_drawn,boot_toks):=
 boot_open (by rfl') (by decide+kernel) (λs=>by rfl')
theorem QK:∀(w:V6) (os:OsState),((PySem.W.Fast.tw14082659384304107361 PySem.W.Fast.tw14364793385576792824 Yy w (boot_heap w.params).objs.size ((boot_heap w.params).nsMap mainGlobals "__annotations__") 4000 ⟨boot_heap w.params, #[],boot_drawn,boot_toks,os⟩ (topStub Yy)).bind λa=>
  match staticsOk (importedModules pw.main.body) (boot_heap w.params) a.heap&&namesBound pw a.heap&&gensDone a&&laidKept (boot_heap w.params) a.heap with
   |true=>UV a
   |false=>UW).map (λs=>(PySem.W.Fast.tw4187177175401517315 q loose (importedModules pw.main.body) Xt UX s,O5 s))=UV (openGood q loose,val w):=λw os=>by rfl'
theorem left:LeftO pw q loose Xt O5 val 4000:=λw=>by
 refine aj (Option.map_eq_some_iff.mp (O6 w)) λa e c=>?_;obtain⟨h,gs,d,k,os⟩:=a;obtain⟨rfl,rfl,rfl,rfl⟩:h=boot_heap w.params/\gs=Array.mk []/\d=boot_drawn/\k=boot_toks:=by simpa using c
 unfold openEnds;rw[e];have t:=QK w os;rw[<-PySem.W.Fast.te14082659384304107361,<-PySem.W.Fast.te14364793385576792824,<-PySem.W.Fast.te4187177175401517315] at t;have b:((boot_heap w.params).isNs mainGlobals&&(#[]:Array aay).size==0)=UX:=by rfl'
 show(topFrom treeTable pw w 4000 ⟨boot_heap w.params, #[],boot_drawn,boot_toks,os⟩).map _=_;unfold topFrom;dsimp only;rw[b];exact t
theorem QL:OpenLaw.wellSaid PySem.Challenge.rw_jc0042_01=UX:=by rw[PySem.W.Fast.te9446332074065402090];rfl'
end
section
noncomputable def fJ:List U6:=[45,59,66,190,197]
noncomputable def zD:Xg:={cls:= .none,data:= .fields #[]}
theorem xI:∀t∈oR,t.P∈fJ:=by decide+kernel
def xJ (P:Va) (c:U6):Xg:=((aF P).lookup c).getD zD
noncomputable def Jm:Data->Array U2
 | .fields vs=>vs
 |_=> #[]
theorem Lf (P:Va):∀a∈fJ,∃c ob vs,(c,ob)∈aF P/\ob.cls= .type "code"/\ob.data= .fields vs/\vs[11]?=UV (.ref a):=λa d=>by
 have b:∀c,(aF P).lookup c=UV (xJ P c)->(xJ P c).cls= .type "code"->(xJ P c).data= .fields (Jm (xJ P c).data)->(Jm (xJ P c).data)[11]?=UV (.ref a)->∃c ob vs,(c,ob)∈aF P/\ob.cls= .type "code"/\ob.data= .fields vs/\vs[11]?=UV (.ref a):=λc e f g h=>⟨c,_,_,cA e,f,g,h⟩
 simp only[fJ,WJ,WR,or_false] at d;rcases d with rfl|rfl|rfl|rfl|rfl
 ·exact b 49 (by rfl') (by rfl') (by rfl') (by rfl')
 ·exact b 63 (by rfl') (by rfl') (by rfl') (by rfl')
 ·exact b 70 (by rfl') (by rfl') (by rfl') (by rfl')
 ·exact b 194 (by rfl') (by rfl') (by rfl') (by rfl')
 ·exact b 201 (by rfl') (by rfl') (by rfl') (by rfl')
theorem Eg (P:Va):∀p∈aF P,p.1≠sysModules/\p.1∉fJ:=λp a=>by have:=List.all_eq_true.mp (by rfl':(aF P).all (λp=> !(p.1==sysModules)&& !fJ.contains p.1)=UX) p a;simpa using this
theorem Lg {l:List Int} {vs:List U2} (m:cR J) (D:∀p∈aF w.params,s.heap.get? p.1=UV p.2) (u:∀a∈fJ,s.heap.get? a=UV zD)
  (H:(s.heap.get? sysModules).isSome=UX) (i:1<=s.toks) (I:s.gens= #[]) (E:s.heap.get? a=UV (bT vs 0)) (hi:Wu vs l) (hl:l.length<=63) (K:a≠sysModules):
  Xz (Vg J w) callerA (.call (.ref 306) ⟨[.ref a],[]⟩) (λr s'=>r= .ok (.ret (.bool UX))/\OldK s.heap s'.heap/\s'.os=s.os/\AllBare s'.gens) s:=by
 have j:∀{b o},s.heap.get? b=UV o->b≠sysModules->b∉fJ->(sub s.heap λb=>b≠sysModules/\b∉fJ).get? b=UV o:=λe L v=>dZ e ⟨L,v⟩
 have z:∀a∈fJ,(sub s.heap λb=>b=sysModules).get? a=UW:=λa h=>fC λe=>absurd (e▸h) (by decide)
 have A:a∉fJ:=λh=>by have:=u a h;rw[E] at this;cases this
 have M:DR (sub s.heap λb=>b≠sysModules/\b∉fJ) (.ints l) (.ref a):= .ints (j E K A) hi
 refine OU m (sub s.heap λb=>b=sysModules) ⟨s.os,λd d=>False⟩ callerA (sub s.heap λb=>b≠sysModules/\b∉fJ) [] s [.dat (.ints l)] [.ref a] [] (.bool UX) [] _ _ ?_ ⟨by decide,by decide,rfl⟩ ?_ (.cons (.dat M) .nil) rfl ⟨⟨rfl,rfl,hl,Ld l⟩,trivial⟩ ?_
 ·refine bI (Option.isSome_iff_exists.mp H) λo N=>(?_:(Heap.get? _ _).isSome=UX)
  refine ac (dZ (P:=λb=>b=sysModules) N rfl) ?_;rfl
 ·refine⟨⟨sub_le,(sub_le:Le (sub s.heap λb=>b=sysModules) s.heap),λp m=>j (D p m) (Eg _ p m).1 (Eg _ p m).2,rfl,λd d d d d h=>(nomatch h),λd d h=>(nomatch h),λd d h=>(nomatch h),λb o e=>fC λh=>h.1 (qb e).2,λt i=>⟨zD,u _ (xI t i),(aA (#[]) rfl (.inl rfl)),z _ (xI t i),fC λh=>h.2 (xI t i)⟩,λd d d d h=>(nomatch h)⟩,rfl,⟨λy F=>?_,λd d h=>h.elim⟩,i⟩;rw[I] at F;simp at F
 ·intro O s' x Q n R;cases R;have keep:∀b o,s.heap.get? b=UV o->b∉fJ->s'.heap.get? b=UV o:=λb o e f=>by
   by_cases h:b=sysModules
   ·exact n.hr.gle _ _ (dZ e h)
   ·exact n.hr.fzle _ _ (Q _ _ (j e h f))
  have g:∀a∈fJ,∃k,s'.heap.get? a=UV {cls:= .none,data:= .fields k}:=λa h=>by
   have v:a∈oR.map fB.P:=h;refine aj (List.mem_map.mp v) λt i B=>(aD B ?_)
   refine ca (n.hr.tab t i) λG q C d=>?_;obtain⟨k,rfl,_⟩:=C;exact⟨k,q⟩
  refine⟨rfl,⟨λb o e=>?_,λb o e=>?_⟩,n.os,n.bare.bare⟩
  ·by_cases f:b∈fJ
   ·refine bI (g b f) λk q=>?_;rw[u b f] at e;cases e;refine jg (Lf w.params b f) λc G vs S T U V=>?_;exact .inr (.inl ⟨⟨c,G,vs,D _ S,T,U,V⟩,rfl, #[],k,rfl,by refine ac q (ac Array.empty_append ?_);rfl⟩)
   ·exact .inl (keep b o e f)
  ·by_cases f:b∈fJ
   ·refine bI (g b f) λk q=>?_;exact⟨_,q⟩
   ·exact⟨o,keep b o e f⟩
end
section
open PySem.W PySem.W.X
theorem Lh:cR pw:=⟨by rfl',by rfl'⟩
theorem QM {v:U2} {i:Int} (w:Well P h v (.int i)):∃t,v= .int i t:=by cases w;exact⟨_,rfl⟩
theorem O7 {v:U2} {xs:List WData} (w:Well P h v (.list xs)):∃a vs,v= .ref a/\h.get? a=UV {cls:= .type "list",data:= .seq vs.toArray}/\WellAll P h vs xs:=by cases w with|list a b=>exact(cY _ _ rfl a b)
theorem Eh {vs:List U2} {d:WData} {ds:List WData} (w:WellAll P h vs (d::ds)):∃v r,vs=v::r/\Well P h v d/\WellAll P h r ds:=by cases w with|cons a b=>exact(cY _ _ rfl a b)
theorem Ei {vs:List U2} (w:WellAll P h vs []):vs=[]:=by cases w;rfl
theorem Hw {xs:List WData}:∀{vs:List U2},WShape.hasItems [] xs .int=UX->WellAll P h vs xs->∃l:List Int,Wu vs l/\l.length=xs.length:=by
 induction xs with
 |nil=>intro vs _ w;refine ac (Ei w) ?_;exact⟨[], .nil,rfl⟩
 |cons x r d=>
  intro vs e w;have c:WShape.has [] x .int=UX/\WShape.hasItems [] r .int=UX:=by simpa[WShape.hasItems] using e
  refine cy (Eh w) λv j η a b=>?_;refine ac η ?_;obtain⟨i,rfl⟩:=hasW_int c.1;refine aj (d c.2 b) λl f g=>?_;obtain⟨t,rfl⟩:=QM a;exact(aA (i::l) (.cons i t f) (congrArg Z7 g))
theorem BF:∀(l:List (U6×Xg)) (h:Vc),zC (l.map (·.1)) h=l.map (λp=>UV p.2)->∀p∈l,h.get? p.1=UV p.2
 |[],_,_,_,h=>nomatch h
 |q::r,h,e,p,a=>by
  have b:h.get? q.1::zC (r.map (·.1)) h=UV q.2::r.map (λp=>UV p.2):=e;obtain⟨c,d⟩:=Yb b;rcases List.mem_cons.mp a with rfl|f
  ·exact c
  ·exact BF r h d p f
theorem Li {c:Vb->Option U2} (x:h.Ns a mg) (y:h.Ns a c) (n:Vb):mg n=c n:=by refine jg x λo l m e f b g=>?_;refine jg y λp i j g1 d b k=>?_;rw[e] at g1;cases g1;rw[f] at d;cases d;exact(g n).symm.trans (k n)
theorem Ej (xs:List WData):PySem.Challenge.rw_jc0042_01.row.claim.post [.list xs] (.bool UX) [.list xs]=UX:=by show(WShape.has [] (.bool UX) .bool&&WTm.holds [] (.eq .res (.lit (.bool UX))) _)=UX;refine ac (holdsW_of_value (w_eq_bool (k:=UX) (l:=UX) (by simp only[WTm.value]) (by simp only[WTm.value]))) ?_;simp[WShape.has,WShape.arms]
theorem Hx {R:WRecords} {cl:Vb->Option U6} {xs:List WData} (r:ReadsW R cl h (.ref a) (.list xs) as):a∈as:=by cases r;exact .head _
theorem O8 {R:WRecords} {cl:Vb->Option U6} {v:U2} {vs:List U2} {d:WData} {ds:List WData} (r:ReadsAllW R cl h (v::vs) (d::ds) as):∃a b,as=a++b/\ReadsW R cl h v d a:=by cases r with|cons x _=>exact(bL _ _ rfl x)
theorem cw:PySem.Challenge.rw_jc0042_01.Holds:=by
 refine holds_law QL λm=>?_;refine holds_openX (q:=q) (loose:=loose) (Xt:=Xt) (XP:=XL q []) (Yf:=O5) (Ya:=val) (N:=4000) left (λs e=>xl_of s (Bool.and_eq_true_iff.mp e).1) XL.keeps (by rfl) (by rfl) (by rfl) (λs e=>recFacts_of (Bool.and_eq_true_iff.mp e).2) (by rfl) m (by decide+kernel) ⟨rfl,rfl,rfl,rfl,rfl,by decide+kernel⟩ ?hw ?hc
 case hw=>w_witness2
 case hc=>
  intro w i f mg mb G y V o pm cd a1 dV kV ho hd a2 hD H hg W Y as L n Z I z J;obtain⟨y1,y2⟩:=aap y;obtain⟨y2,K⟩:=aap y2;obtain⟨K,y4⟩:=aap K;obtain⟨M,O⟩:=pre_splitW (r:=PySem.Challenge.rw_jc0042_01.row.toRowW) n;refine cy (hasAllW_cons M) λd r j P Q=>?_;subst j;obtain rfl:=hasAllW_nil Q;refine aj (hasW_list P) λF j R=>?_;subst j;refine cy (Eh z) λv vr η A B=>?_;subst η;obtain rfl:=Ei B;refine cy (O7 A) λa vs η ha S=>?_;subst η;clear A B z;refine aj (Hw R S) λl hi C=>?_;have U:a≠sysModules:=aG (O8 I) λu b e r q=>absurd (J a (ac e (ada _ (Hx r)))) (by refine ac q ?_;decide);have D:l.length<=63:=by
   refine ac C ?_;have h:=condW_of (X:= !decide ((63:Int) < (F.length:Int))&&UX) (t:= .and (.not (.lt (.lit (.int 63)) (.len (.arg 0)))) (.lit (.bool UX))) O (w_and (w_not (w_lt (by simp only[WTm.value]) (w_len_list (xs:=F) (by simp only[WTm.value];rfl)))) (by simp only[WTm.value]));have h2:(F.length:Int)<=63:=by simpa using h
   lia
  have hK:∀p∈aF w.params,f.heap.get? p.1=UV p.2:=λp hp=>L.keeps _ _ (BF _ _ (Eq.trans (congrArg (λx=>zC x i.heap) (by rfl')) y1) p hp);have hT:∀a∈fJ,f.heap.get? a=UV zD:=λa h=>by exact L.keeps _ _ (BF (O4.map λa=>(a,zD)) _ y2 (a,zD) (List.mem_map.mpr (aA a h rfl)))
  have E:V=306:=by have:=Li G.T.g (CN f.heap hK) "law";rw[show mg "law"=UV (.ref V) from H] at this;cases this.trans (show fv gW "law"=UV (.ref 306) by rfl');rfl
  refine ac E ?_;refine enter_call (codeAny_mono (Lg Lh hK hT ?_ ?_ hg ha hi D U) λr s' ξ=>pZ ξ λe h1 h2 h3=>⟨.inl ⟨.bool UX, .bool UX,[],e,λc=>rfl, .bool _,Ej _,λc=>⟨.nil,λc h=>nomatch h⟩⟩,h1,h2,h3⟩)
  ·obtain⟨ob,h⟩:=Option.isSome_iff_exists.mp (show(i.heap.get? sysModules).isSome=UX from K);refine ac (L.keeps _ _ h) ?_;rfl
  ·refine aj L.laid λord a0 k=>?_;exact U1 (Wd y4) (layAllW_grows _ _ _ k).toks
end
end
end Mine.Internal
theorem PySem.Challenge.cw_jc0042_01_holds : PySem.Challenge.rw_jc0042_01.Holds :=
  Mine.Internal.cw
