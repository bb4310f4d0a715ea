import PyProof.Rows.All
import Wide.All
import OpenK.AllK
import Wide.FinOn
import Lean
import PySem.Challenge.RW_uc0055_01
open And renaming intro → Ck
open Array renaming length_toList → aK, getElem?_eq_some_iff → cG, getElem?_toList → fc, getElem?_eq_getElem → ft, getElem?_setIfInBounds_ne → fP, getElem?_push_lt → gx, getElem?_push_size → mA, ext' → nQ, empty_append → ry, toList_setIfInBounds → xk, mk → xl, toList_append → D5, toList_push → Ir
open Bool renaming and_eq_true → ao, or_eq_true_iff → cU, and_eq_true_iff → dX, not_eq_true' → gT, false_eq_true → lF, eq_iff_iff → oJ, and_true → ru, or_eq_true → vJ, coe_iff_coe → Ml, decide_and → Pz, and_false → PQ
open Classical renaming byContradiction → a8
open Eq renaming symm → Py
open ForInStep renaming yield → ie
open Function renaming comp_def → DX
open Int renaming le_trans → aB, le_of_lt → aO, natCast_nonneg → aY, zero_add → br, fmod_nonneg_of_pos → bE, toNat_of_nonneg → bG, add_zero → bI, mul_le_mul_of_nonneg_right → bJ, ofNat_le → bQ, toNat_natCast → bY, mul_nonneg → cb, fmod_lt_of_pos → cf, mul_assoc → ck, one_mul → cz, lt_of_le_of_lt → cP, ne_of_gt → db, le_refl → dj, add_nonneg → dk, add_mul → d7, mul_comm → eh, ediv_nonneg → ek, mul_add → eE, zero_mul → fL, not_lt → gC, lt_of_lt_of_le → gE, emod_lt_of_pos → gF, add_assoc → gN, mul_ediv_add_emod → gS, fmod_eq_emod_of_nonneg → ib, lt_trans → iz, add_comm → iA, natCast_pow → i7, emod_nonneg → i8, ofNat_lt → jz, ediv_lt_of_lt_mul → jL, ediv_le_self → jS, ofNat_inj → j5, pow_mul → ku, pow_add → kv, mul_zero → lu, not_le → ma, fdiv_eq_ediv_of_nonneg → md, neg_mul → mL, add_left_comm → mM, pow_succ → oH, natCast_add → oS, fdiv_fmod_unique → qG, lt_or_le → uq, le_of_eq → ur, emod_eq_of_lt → ut, sub_mul → vH, add_mul_emod_self_right → xr, add_le_add → zH, eq_ofNat_of_zero_le → Ci, ediv_eq_zero_of_lt → DS, add_mul_ediv_right → DT, pow_pos → Ih, neg_neg → Ii, mul_one → Ij, add_left_cancel → Iq, natAbs_eq_zero → K5, max_lt → K6, lt_min → K7, add_sub_cancel → K8, mul_left_comm → Mk, natCast_succ → Pt, natCast_ediv → Pu, natCast_pos → PN, natCast_mul → PO, le_antisymm → PP, mul_le_mul → Sm
open LawfulBEq renaming eq_of_beq → bt
open LawfulMonad renaming pure_bind → Tg
open List renaming getD_eq_getElem?_getD → ac, mem_cons_of_mem → af, length_map → ag, length_append → ai, getElem?_eq_getElem → aj, mem_cons_self → au, mem_of_getElem? → ax, length_cons → ay, replicate → aA, append_assoc → aC, mem_cons → aD, lookup_cons → aH, getElem?_map → aJ, mem_singleton → aT, length_replicate → a9, mem_map → bc, map_map → be, length_nil → bf, map_cons → bg, length_singleton → bv, mem_filter → bw, not_mem_nil → bx, map_append → bz, take_of_length_le → bD, all_eq_true → bF, append_nil → bH, nil_append → bX, range → co, length_drop → cp, cons_append → cq, mem_append → cF, getElem_mem → cH, range' → cQ, map_congr_left → cR, map_inj_left → dE, length_take_le' → dW, lookup → eB, take_add_one → eK, not_mem_of_not_mem_cons → eM, replicate_succ → eP, getElem?_eq_none → fj, mem_of_mem_take → fA, sum_cons → fO, flatMap_append → fW, ne_of_not_mem_cons → fY, length_take → fZ, isEmpty_iff → f5, eq_nil_of_length_eq_zero → gw, foldl_cons → gG, mem_range → gX, mem_of_mem_drop → gZ, getElem?_append_right → g6, take_succ_cons → iH, length_reverse → iJ, filterMap_cons → iK, drop_of_length_le → jq, mem_append_right → jH, length_filter_le → jI, all_cons → jR, range'_append_1 → jZ, getElem?_mapIdx → j4, getElem?_range → kG, take_zero → lA, map_replicate → lB, drop_zero → lC, getElem?_append_left → mh, drop_eq_getElem_cons → mi, flatMap_cons → mz, take_length → mW, take_append → mX, mem_reverse → mY, filter_cons → mZ, of_mem_zip → oG, contains_iff_mem → oR, getElem?_of_mem → pn, drop_drop → po, take → qD, drop → qE, zip_cons_cons → rR, flatten_cons → sI, map_reverse → uv, sum_append → vF, nodup_cons → vG, getElem?_eq_some_iff → zF, map_take → zQ, map_drop → zR, find?_range_eq_some → zS, eq_of_mem_replicate → zT, elem_iff → zU, map_set → Cg, mem_append_left → D1, forall_mem_cons → D2, length_pos_iff → Ib, getElem?_drop → Ip, reverse_cons → KZ, length_range → K1, foldl_append → K2, ext_getElem? → K3, any_eq_false → K4, elem → Mh, any_toArray → Mi, any_eq_true → Mj, take_left' → Po, isPerm_iff → Pp, forIn_cons → Pq, find?_cons → Pr, foldl_nil → PJ, find?_map → PK, drop_left → PM
open List.cons renaming injEq → D3
open Nat renaming le_trans → ae, ne_of_lt → aM, lt_of_lt_of_le → aP, le_of_lt → a5, le_refl → ba, lt_of_le_of_lt → ca, le_of_ble_eq_true → cj, add_le_add_right → cy, pow_le_pow_right → cM, not_lt → c5, lt_succ_of_lt → dJ, zero_add → dR, zero_le → d5, le_add_right → d6, mul_comm → eW, add_assoc → eY, le_of_eq → fJ, add_sub_cancel_left → gm, lt_trans → ix, add_comm → iy, lt_succ_self → jP, le_max_right → jQ, blt → jY, mul_le_mul_right → kt, min_eq_left → kF, mul_le_mul_left → kQ, add_sub_cancel' → kR, succ_pos → lq, sub_zero → lr, sub_add_cancel → l9, le_of_lt_succ → mJ, beq → mK, succ_ne_self → nP, lt_of_succ_lt_succ → oD, le_mul_of_pos_left → oF, le_of_add_left_le → ph, eq_of_beq_eq_true → pi, add_le_add → qz, div → qI, div_mul_le_self → rr, sub_le → rZ, succ_sub_succ → ul, sub_self → um, mod → un, succ_ne_zero → uG, succ_le_succ → uH, lt_add_right → uI, le_succ → vC, le_max_left → xb, le_antisymm → xc, div_add_mod → xd, not_le → zE, lt_irrefl → A3, le_mul_of_pos_right → Cf, pow_succ → DO, lt_or_ge → DP, le_of_add_right_le → DQ, le_add_right_of_le → DR, sub_eq_zero_of_le → D0, sub_le_sub_right → H7, pow_pos → H8, pow_lt_pow_right → H9, mul_add → Ia, lt_succ_of_le → Me, lt_of_succ_lt → Mg, sub_sub_self → Pi, min_le_right → Pj, min_eq_right → Pk, div_eq_of_lt → Pl, mul_le_mul → Sh
open Nat.succ renaming inj → xq
open Ne renaming symm → cC
open Option renaming bind_some → bp, isSome_iff_exists → ew, map_eq_some_iff → je, map_some → jX, none → l8, bind_eq_some_iff → mI, map → mV, bind → oQ
open Option.some renaming inj → dB
open Prod renaming fst → er, snd → lz
open Prod.mk renaming inj → iQ, injEq → jB
open PyProof renaming noPylong_of_log2 → w9
open PyProof.Rows renaming cnt_append → mU, tail_any → vU, lookup_of_mem_nodup → PD, cellsFrom_names → UQ
open PySem renaming wpAny_mono → aa, wpAny_bind → aq, wpAny_pure → aI, wpAny_execs_cons → bn, wpAny_standAt → bM, wpAny_assign_Name → bT, wpAny_storeName_local → cJ, wpAny_assignInOrder_more → c6, wpAny_Call_ofName → em, wpAny_holding → fk, wpAny_execs_nil → fS, wpAny_comprehension_free → f7, codeAny_of_tree → gV, callWith_type → iu, wpAny_of_eq → iM, wpAny_loadName_local → iN, wpAny_Name → iO, wpAny_assignInOrder_none → jf, wpAny_call → js, wpAny_storeName_cell → kT, wpAny_assign_Tuple → mN, wpAny_Expr_any → mO, seg_execs_cons → mQ, wpAny_truthy_bool → nR, wpAny_noted → nS, wpAny_newObj_type → nT, wpAny_Return_some → nU, wpAny_newFunctionEnv → rT, wpAny_loadName_free → sL, wpAny_loadName_cell → sM, wpAny_pyIter_enum → vO, wpAny_Call_method → vP, codeAny_mono → wI, wpAny_BinOp → zI, wpAny_letOwnedTupleGo_enum → Co, wpAny_bindName → Cp, typeIs_str → Ct, call_meets → DB, wpAny_list_append_plain → Il, wpAny_Assign_Subscript → IA, exec_Assign_Name_used → LX, wpAny_letTemporaryGo → Mv, setGen_self → MI, numAt_eq → Nb, wpAny_rule → PU, typeIs_int → PY, strKind_is → Qc, codeAny_call_cells → RE, arm_eval_Attribute → R1, wpAny_askSetting → SM, noFill_list_add → T8, wpAny_loadPart → U0, wpAny_If → U1, intBits_le_iff → Vd, wpAny_onRaise → Vm, slot_gen_next → Vn, eval_ListComp → Vo, compTurn_list → Vp
open PySem.Builtin renaming bitXor → uJ, bitAnd → uK
open PySem.Builtin.Generator renaming genWake → pA
open PySem.Builtin.Int renaming intBits → dm
open PySem.Builtin.Range renaming rangeSize → sJ
open PySem.Builtin.Str renaming occurrences → bW, partsBetween → gW, strSliceIndices → jK, strKind → xt
open PySem.Calls renaming callWith_builtin → o4, Name_function_global → Pn
open PySem.Code renaming compStart → pv, compLoop → zV
open PySem.DictEntry renaming refKey → DY
open PySem.F renaming plainAttrs_str → xj, plainAttrs_list → xn, args_list_add_2 → xo, entry_list_add → zD, slot_list_add → zP, slot_str_getitem → Px, slot_str_split → Sn, slot_int_rmul → SJ
open PySem.Frame renaming where_ → r4
open PySem.Heap renaming get?_push_of_some → ak, lt_size → aQ, get?_push_size → aX, SameBut → du, size_push → lE, get?_update_self → DU, ExtBut → D4
open PySem.Heap.SameBut renaming update → xh
open PySem.NameKind renaming free → cr, cell → gv
open PySem.PyData renaming eqv → de, strOk → ky, keyHash → kP, canLayAll0 → H5, depthAll → KW, eqvAll → Pg
open PySem.SeqAt renaming shaped → eT, canLay_of_shaped → A1
open PySem.Str renaming empty → bC, length → jO, join → Sb
open PySem.Txt renaming join → HN
open PySem.Value renaming none → wX, bool → wY, int → zO, str → KP
open PySem.W renaming boot_heap → gA, dictOf → ir, cellsFrom_some → rW, plainGet_of → zJ, callWith_of → zN, boot_drawn → DE, boot_toks → Im, InstAt → KV, codeRec_of → RD, makeFunction_hit → Tr, makeFunction_K → U9
open PySem.W.Fast renaming te14082659384304107361 → nO, te4187177175401517315 → oy
open PySem PySem.W PySem.Calls PyProof.Rows
set_option Elab.async false
set_option genCtorIdx false
set_option genSizeOf false
set_option bootstrap.genMatcherCode false
set_option maxRecDepth 100000
set_option linter.unusedVariables false
set_option linter.unusedSimpArgs false
set_option linter.defProp false
set_option exponentiation.threshold 20000
set_option maxHeartbeats 4000000
noncomputable section
namespace Mine
open Str (ofString)
section
variable {A' B' C' D' E':Sort _}
theorem Ua {p q:A'→Prop} (h:∃a,p a∧q a) {G:Prop} (k:∀a,p a→q a→G):G:=h.elim fun a h1=>k a h1.1 h1.2
theorem Uc {p q r:A'→B'→Prop} (h:∃a b,p a b∧q a b∧r a b) {G:Prop} (k:∀a b,p a b→q a b→r a b→G):G:=h.elim fun a h1=>h1.elim fun b h2=>k a b h2.1 h2.2.1 h2.2.2
theorem Ud {p q r:Prop} (h:p∧q∧r) {G:Prop} (k:p→q→r→G):G:=k h.1 h.2.1 h.2.2
theorem Ue {p q r s:A'→B'→Prop} (h:∃a b,p a b∧q a b∧r a b∧s a b) {G:Prop} (k:∀a b,p a b→q a b→r a b→s a b→G):G:=h.elim fun a h1=>h1.elim fun b h2=>k a b h2.1 h2.2.1 h2.2.2.1 h2.2.2.2
theorem Uf {p q:A'→B'→Prop} (h:∃a b,p a b∧q a b) {G:Prop} (k:∀a b,p a b→q a b→G):G:=h.elim fun a h1=>h1.elim fun b h2=>k a b h2.1 h2.2
theorem Ug {p q r s t:A'→B'→Prop} (h:∃a b,p a b∧q a b∧r a b∧s a b∧t a b) {G:Prop} (k:∀a b,p a b→q a b→r a b→s a b→t a b→G):G:=h.elim fun a h1=>h1.elim fun b h2=>k a b h2.1 h2.2.1 h2.2.2.1 h2.2.2.2.1 h2.2.2.2.2
theorem Uh {p q:Prop} {r:A'→Prop} (h:p∧q∧∃a,r a) {G:Prop} (k:p→q→∀a,r a→G):G:=h.2.2.elim fun a h1=>k h.1 h.2.1 a h1
theorem Ui {p q r s:A'→B'→C'→Prop} (h:∃a b c,p a b c∧q a b c∧r a b c∧s a b c) {G:Prop} (k:∀a b c,p a b c→q a b c→r a b c→s a b c→G):G:=h.elim fun a h1=>h1.elim fun b h2=>h2.elim fun c h3=>k a b c h3.1 h3.2.1 h3.2.2.1 h3.2.2.2
theorem Uj {p q r s:Prop} (h:p∧q∧r∧s) {G:Prop} (k:p→q→r→s→G):G:=k h.1 h.2.1 h.2.2.1 h.2.2.2
theorem Uk {p q:A'→B'→C'→Prop} (h:∃a b c,p a b c∧q a b c) {G:Prop} (k:∀a b c,p a b c→q a b c→G):G:=h.elim fun a h1=>h1.elim fun b h2=>h2.elim fun c h3=>k a b c h3.1 h3.2
theorem Ul {p q r:A'→Prop} (h:∃a,p a∧q a∧r a) {G:Prop} (k:∀a,p a→q a→r a→G):G:=h.elim fun a h1=>k a h1.1 h1.2.1 h1.2.2
theorem Un {p:A'→Prop} (h:∃a,p a) {G:Prop} (k:∀a,p a→G):G:=h.elim fun a h1=>k a h1
theorem Uo {p q r:A'→B'→C'→Prop} (h:∃a b c,p a b c∧q a b c∧r a b c) {G:Prop} (k:∀a b c,p a b c→q a b c→r a b c→G):G:=h.elim fun a h1=>h1.elim fun b h2=>h2.elim fun c h3=>k a b c h3.1 h3.2.1 h3.2.2
theorem Up {p q r:A'→B'→Prop} {s t:A'→B'→C'→Prop} (h:∃a b,p a b∧q a b∧r a b∧∃c,s a b c∧t a b c) {G:Prop} (k:∀a b,p a b→q a b→r a b→∀c,s a b c→t a b c→G):G:=h.elim fun a h1=>h1.elim fun b h2=>h2.2.2.2.elim fun c h3=>k a b h2.1 h2.2.1 h2.2.2.1 c h3.1 h3.2
theorem Uq {p q r s:A'→Prop} (h:∃a,p a∧q a∧r a∧s a) {G:Prop} (k:∀a,p a→q a→r a→s a→G):G:=h.elim fun a h1=>k a h1.1 h1.2.1 h1.2.2.1 h1.2.2.2
theorem Ur {p q r s t u:A'→B'→Prop} (h:∃a b,p a b∧q a b∧r a b∧s a b∧t a b∧u a b) {G:Prop} (k:∀a b,p a b→q a b→r a b→s a b→t a b→u a b→G):G:=h.elim fun a h1=>h1.elim fun b h2=>k a b h2.1 h2.2.1 h2.2.2.1 h2.2.2.2.1 h2.2.2.2.2.1 h2.2.2.2.2.2
theorem Us {p:A'→B'→Prop} (h:∃a b,p a b) {G:Prop} (k:∀a b,p a b→G):G:=h.elim fun a h1=>h1.elim fun b h2=>k a b h2
theorem Ut {p q r s t:A'→Prop} (h:∃a,p a∧q a∧r a∧s a∧t a) {G:Prop} (k:∀a,p a→q a→r a→s a→t a→G):G:=h.elim fun a h1=>k a h1.1 h1.2.1 h1.2.2.1 h1.2.2.2.1 h1.2.2.2.2
theorem Uu {p q:A'→B'→C'→D'→Prop} (h:∃a b,∃c d,p a b c d∧q a b c d) {G:Prop} (k:∀a b,∀c d,p a b c d→q a b c d→G):G:=h.elim fun a h1=>h1.elim fun b h2=>h2.elim fun c h3=>h3.elim fun d h4=>k a b c d h4.1 h4.2
theorem Uv {p q r s:A'→B'→C'→D'→Prop} (h:∃a b,∃c d,p a b c d∧q a b c d∧r a b c d∧s a b c d) {G:Prop} (k:∀a b,∀c d,p a b c d→q a b c d→r a b c d→s a b c d→G):G:=h.elim fun a h1=>h1.elim fun b h2=>h2.elim fun c h3=>h3.elim fun d h4=>k a b c d h4.1 h4.2.1 h4.2.2.1 h4.2.2.2
theorem Uw {p q:A'→Prop} {r:A'→B'→Prop} (h:∃a,p a∧q a∧∃b,r a b) {G:Prop} (k:∀a,p a→q a→∀b,r a b→G):G:=h.elim fun a h1=>h1.2.2.elim fun b h2=>k a h1.1 h1.2.1 b h2
theorem Uy {p:Prop} {q r s:A'→B'→Prop} (h:p∧∃a b,q a b∧r a b∧s a b) {G:Prop} (k:p→∀a b,q a b→r a b→s a b→G):G:=h.2.elim fun a h1=>h1.elim fun b h2=>k h.1 a b h2.1 h2.2.1 h2.2.2
theorem Uz {p q r s t u:A'→Prop} (h:∃a,p a∧q a∧r a∧s a∧t a∧u a) {G:Prop} (k:∀a,p a→q a→r a→s a→t a→u a→G):G:=h.elim fun a h1=>k a h1.1 h1.2.1 h1.2.2.1 h1.2.2.2.1 h1.2.2.2.2.1 h1.2.2.2.2.2
theorem UA {p q r:A'→B'→C'→D'→Prop} (h:∃a b,∃c d,p a b c d∧q a b c d∧r a b c d) {G:Prop} (k:∀a b,∀c d,p a b c d→q a b c d→r a b c d→G):G:=h.elim fun a h1=>h1.elim fun b h2=>h2.elim fun c h3=>h3.elim fun d h4=>k a b c d h4.1 h4.2.1 h4.2.2
theorem UB {p q r s t u v w y:A'→B'→C'→D'→E'→Prop} (h:∃a b,∃c d e,p a b c d e∧q a b c d e∧r a b c d e∧s a b c d e∧t a b c d e∧u a b c d e∧v a b c d e∧w a b c d e∧y a b c d e) {G:Prop} (k:∀a b,∀c d e,p a b c d e→q a b c d e→r a b c d e→s a b c d e→t a b c d e→u a b c d e→v a b c d e→w a b c d e→y a b c d e→G):G:=h.elim fun a h1=>h1.elim fun b h2=>h2.elim fun c h3=>h3.elim fun d h4=>h4.elim fun e h5=>k a b c d e h5.1 h5.2.1 h5.2.2.1 h5.2.2.2.1 h5.2.2.2.2.1 h5.2.2.2.2.2.1 h5.2.2.2.2.2.2.1 h5.2.2.2.2.2.2.2.1 h5.2.2.2.2.2.2.2.2
theorem UC {p:Prop} {q r:A'→Prop} (h:p∧∃a,q a∧r a) {G:Prop} (k:p→∀a,q a→r a→G):G:=h.2.elim fun a h1=>k h.1 a h1.1 h1.2
theorem UD {p:Prop} {q r:A'→B'→Prop} (h:p∧∃a b,q a b∧r a b) {G:Prop} (k:p→∀a b,q a b→r a b→G):G:=h.2.elim fun a h1=>h1.elim fun b h2=>k h.1 a b h2.1 h2.2
theorem UE {p:Prop} {q r s t:A'→B'→C'→Prop} (h:p∧∃a b c,q a b c∧r a b c∧s a b c∧t a b c) {G:Prop} (k:p→∀a b c,q a b c→r a b c→s a b c→t a b c→G):G:=h.2.elim fun a h1=>h1.elim fun b h2=>h2.elim fun c h3=>k h.1 a b c h3.1 h3.2.1 h3.2.2.1 h3.2.2.2
theorem UF {p q r:Prop} {s t u:A'→B'→Prop} (h:p∧q∧r∧∃a b,s a b∧t a b∧u a b) {G:Prop} (k:p→q→r→∀a b,s a b→t a b→u a b→G):G:=h.2.2.2.elim fun a h1=>h1.elim fun b h2=>k h.1 h.2.1 h.2.2.1 a b h2.1 h2.2.1 h2.2.2
theorem UG {p q:Prop} (h:p∧q) {G:Prop} (k:p→q→G):G:=k h.1 h.2
theorem UH {p q r s t:Prop} (h:p∧q∧r∧s∧t) {G:Prop} (k:p→q→r→s→t→G):G:=k h.1 h.2.1 h.2.2.1 h.2.2.2.1 h.2.2.2.2
theorem UI {p q:Prop} {r s t:A'→B'→Prop} (h:p∧q∧∃a b,r a b∧s a b∧t a b) {G:Prop} (k:p→q→∀a b,r a b→s a b→t a b→G):G:=h.2.2.elim fun a h1=>h1.elim fun b h2=>k h.1 h.2.1 a b h2.1 h2.2.1 h2.2.2
end
theorem Ub {α β:Type _} {o:Option α} {f:α→Option β} {b:β} (h:o.bind f=some b) {G:Prop} (k:∀a,o=some a→f a=some b→G):G:=(mI.mp h).elim fun a e=>k a e.1 e.2
theorem Um {α β:Type _} {o:Option α} {f:α→β} {b:β} (h:o.map f=some b) {G:Prop} (k:∀a,o=some a→f a=b→G):G:=(je.mp h).elim fun a e=>k a e.1 e.2
theorem uy {α:Type _} {p:α→Prop} {a:α} {l:List α} (h:p a) (g:∀x∈l,p x):∀x∈a::l,p x:=D2.mpr ⟨h,g⟩
theorem Jz {α:Type _} {p:α→Prop}:∀x∈([]:List α),p x:=List.forall_mem_nil p
theorem yd {α:Type _} {a b:α} {l:List α} (h:a≠b) (g:a∉l):a∉b::l:=List.not_mem_cons_of_ne_of_not_mem h g
theorem Sx {α:Sort _} {p:α→Prop} {a x y:α} (q:a=x∨a=y) (h1:p x) (h2:p y):p a:=q.elim (fun h=>h▸h1) (fun h=>h▸h2)
theorem U8 {α:Sort _} {p:α→Prop} {a x y z:α} (q:a=x∨a=y∨a=z) (h1:p x) (h2:p y) (h3:p z):p a:=q.elim (fun h=>h▸h1) (fun h=>Sx h h2 h3)
theorem L1 {α:Type _} {l:List α} {n:Nat} (h:l.length=n+1):∃a r,l=a::r∧r.length=n:=by
 cases l with
 |nil=>cases h
 |cons a r=>exact⟨a,r,rfl,xq h⟩
theorem L0 {α:Type _} {l:List α} (h:l.length=0):l=[]:=gw h
theorem L2 {α:Type _} {l:List α} (h:l.length=2):∃a b,l=[a,b]:=(L1 h).elim fun a h=>h.elim fun r h=>(L1 h.2).elim fun b k=>k.elim fun r' k=>⟨a,b,by rw[h.1,k.1,L0 k.2]⟩
theorem L3 {α:Type _} {l:List α} (h:l.length=3):∃a b c,l=[a,b,c]:=(L1 h).elim fun a h=>h.elim fun r h=>(L2 h.2).elim fun b k=>k.elim fun c k=>⟨a,b,c,by rw[h.1,k]⟩
theorem L5 {α:Type _} {l:List α} (h:l.length=5):∃a b c d e,l=[a,b,c,d,e]:=(L1 h).elim fun a h=>h.elim fun r h=>(L1 h.2).elim fun b k=>k.elim fun r' k=>(L3 k.2).elim fun c q=>q.elim fun d q=>q.elim fun e q=>⟨a,b,c,d,e,by rw[h.1,k.1,q]⟩
namespace Ar
set_option genInjectivity false in
inductive Ax where
 |n (i:Nat)
 |z (i:Nat)
 |k (c:Nat)
 |a (x y:Ax)
 |s (x y:Ax)
 |m (x y:Ax)
 |v (x:Ax)
 |u (x:Ax)
 |l (b:Bool) (x y:Ax)
 |t (b:Bool) (x y:Ax)
 |e (b:Bool) (x y:Ax)
 |c (p q:Ax)
 |o (p q:Ax)
 |i (p q:Ax)
 |j (p q:Ax)
 |g (p:Ax)
 |f
noncomputable def b1 (f:Ax→Ax):List Ax→List Ax
 |x::r=>f x::r
 |r=>r
noncomputable def b2 (f:Ax→Ax→Ax):List Ax→List Ax
 |y::x::r=>f x y::r
 |r=>r
noncomputable def at' {α:Type} (d:α):List α→Nat→α
 |[],_=>d
 |x::_,0=>x
 |_::l,i+1=>at' d l i
noncomputable def MY (p q r s:Ax):Ax:=.o (.c p q) (.c r s)
noncomputable def nv:List (List Ax→List Ax):=[id,(.n 0::·),(.n 1::·),(.n 2::·),(.n 3::·),(.n 4::·),(.n 5::·),(.z 0::·),(.z 1::·),(.z 2::·),(.z 3::·),(.z 4::·),(.z 5::·),id,b2 .a,b2 .s,b2 .m,b1 .v,b1 .u,
 b2 (.l true),b2 (.l false),b2 (.t true),b2 (.t false),b2 (.e true),b2 (.e false),b2 .c,b2 .o,b2 .i,b2 .j,b1 .g,(.f::·)]
noncomputable def run:Nat→Nat→List Ax→List (Nat×Ax×Ax)→List Ax×List (Nat×Ax×Ax)
 |0,_,st,ds=>(st,ds)
 |_+1,0,st,ds=>(st,ds)
 |f+1,n+1,st,ds=>
  bif mK (un n 32) 13 then run f (qI (qI n 1024) (Nat.pow 32 (un (qI n 32) 32))) (.k (un (qI n 1024) (Nat.pow 32 (un (qI n 32) 32)))::st) ds
  else bif mK (un n 32) 31 then(match st with
   |y::x::r=>run f (qI n 1024) r (ds++[(un (qI n 32) 32,x,y)])
   |_=>([],[]))
  else run f (qI n 32) (at' id nv (un n 32) st) ds
section
variable (ns:List Nat) (zs:List Int)
noncomputable def aN:Ax→Nat
 |.n i=>at' 0 ns i
 |.k c=>c
 |.a x y=>aN x+aN y
 |.m x y=>aN x*aN y
 |_=>0
noncomputable def aZ:Ax→Int
 |.z i=>at' 0 zs i
 |.k c=>OfNat.ofNat c
 |.a x y=>aZ x+aZ y
 |.s x y=>aZ x-aZ y
 |.m x y=>aZ x*aZ y
 |.v x=>(aN ns x:Int)
 |.u x=>-aZ x
 |_=>0
noncomputable def fV:Ax→Prop
 |.l true x y=>aN ns x≤aN ns y
 |.l false x y=>aZ ns zs x≤aZ ns zs y
 |.t true x y=>aN ns x<aN ns y
 |.t false x y=>aZ ns zs x<aZ ns zs y
 |.e true x y=>aN ns x=aN ns y
 |.e false x y=>aZ ns zs x=aZ ns zs y
 |.c p q=>fV p∧fV q
 |.o p q=>fV p∨fV q
 |.i p q=>fV p→fV q
 |.j p q=>fV p↔fV q
 |.g p=>¬fV p
 |.f=>False
 |_=>True
noncomputable def dN (d:Nat×Ax×Ax):List Nat:=match d.1 with
 |0=>[(aZ ns zs d.2.1).toNat]
 |1=>[(aZ ns zs d.2.1).natAbs]
 |2=>[aN ns d.2.1-aN ns d.2.2]
 |3=>[max (aN ns d.2.1) (aN ns d.2.2)]
 |4=>[min (aN ns d.2.1) (aN ns d.2.2)]
 |5=>[aN ns d.2.1/aN ns d.2.2,aN ns d.2.1%aN ns d.2.2]
 |_=>[]
noncomputable def dZ (d:Nat×Ax×Ax):List Int:=match d.1 with
 |6=>[aZ ns zs d.2.1/aZ ns zs d.2.2,aZ ns zs d.2.1%aZ ns zs d.2.2]
 |7=>[max (aZ ns zs d.2.1) (aZ ns zs d.2.2)]
 |8=>[min (aZ ns zs d.2.1) (aZ ns zs d.2.2)]
 |_=>[]
noncomputable def ML (i:Nat):Int:=if i%2=0 then((at' 0 ns (i/2):Nat):Int)else at' 0 zs (i/2)
noncomputable def AB:Nat→List Int→Int
 |_,[]=>0
 |j,c::l=>c*ML ns zs j+AB (j+1) l
noncomputable def rV (j:Nat) (c:Int×List Int):Int:=c.1+AB ns zs j c.2
end
noncomputable def HG:List Int→List Int→List Int
 |[],l=>l
 |a::l,[]=>a::l
 |a::l,b::m=>(a+b)::HG l m
noncomputable def wG (p q:Int) (x y:Int×List Int):Int×List Int:=(p*x.1+q*y.1,HG (x.2.map (p*·)) (y.2.map (q*·)))
noncomputable def j6:Nat→List Int
 |0=>[1]
 |i+1=>0::j6 i
noncomputable def Jy (p q:Int×List Int):Option (Int×List Int):=bif p.2.isEmpty then some (wG p.1 0 q (0,[]))else bif q.2.isEmpty then some (wG q.1 0 p (0,[]))else none
noncomputable def lN:Ax→Option (Int×List Int)
 |.n i=>some (0,j6 (2*i))
 |.k c=>some ((c:Int),[])
 |.a x y=>(lN x).bind fun p=>(lN y).bind fun q=>some (wG 1 1 p q)
 |.m x y=>(lN x).bind fun p=>(lN y).bind fun q=>Jy p q
 |_=>none
noncomputable def lZ:Ax→Option (Int×List Int)
 |.z i=>some (0,j6 (2*i+1))
 |.k c=>some ((c:Int),[])
 |.a x y=>(lZ x).bind fun p=>(lZ y).bind fun q=>some (wG 1 1 p q)
 |.s x y=>(lZ x).bind fun p=>(lZ y).bind fun q=>some (wG 1 (-1) p q)
 |.m x y=>(lZ x).bind fun p=>(lZ y).bind fun q=>Jy p q
 |.v x=>lN x
 |.u x=>(lZ x).bind fun p=>some (wG (-1) 0 p (0,[]))
 |_=>none
noncomputable def aL (b:Bool) (x:Ax):Option (Int×List Int):=bif b then lN x else lZ x
noncomputable def LS (c:Int×List Int):Int:=c.2.headD 0
noncomputable def P9 (c:Int×List Int):Int×List Int:=(c.1,c.2.tail)
noncomputable def Of (cs:List (Int×List Int)):List (Int×List Int):=
 (cs.filter fun c=>LS c==0).map P9++(cs.filter fun c=>decide (0<LS c)).flatMap fun p=>(cs.filter fun c=>decide (LS c<0)).map fun q=>wG (-LS q) (LS p) (P9 p) (P9 q)
noncomputable def fm:Nat→List (Int×List Int)→Bool
 |0,cs=>cs.any fun c=>decide (c.1<0)&&c.2.isEmpty
 |n+1,cs=>fm n (Of cs)
noncomputable def DZ (b:Bool) (x y:Ax) (d:Int) (k:List (Int×List Int)→Bool) (cs:List (Int×List Int)):Bool:=
 ((aL b x).bind fun p=>(aL b y).map fun q=>k ((wG 1 (-1) q (p.1+d,p.2))::cs))==some true
noncomputable def U5 (k:List (Bool×Ax)→List (Int×List Int)→Bool) (r:List (Bool×Ax)) (cs:List (Int×List Int)) (b:Bool) (f:Ax):Bool:=match f with
 |.l s x y=>bif b then DZ s x y 0 (k r) cs else DZ s y x 1 (k r) cs
 |.t s x y=>bif b then DZ s x y 1 (k r) cs else DZ s y x 0 (k r) cs
 |.e s x y=>bif b then DZ s x y 0 (DZ s y x 0 (k r)) cs else DZ s x y 1 (k r) cs&&DZ s y x 1 (k r) cs
 |.c p q=>bif b then k ((true,p)::(true,q)::r) cs else k ((false,p)::r) cs&&k ((false,q)::r) cs
 |.o p q=>bif b then k ((true,p)::r) cs&&k ((true,q)::r) cs else k ((false,p)::(false,q)::r) cs
 |.i p q=>bif b then k ((false,p)::r) cs&&k ((true,q)::r) cs else k ((true,p)::(false,q)::r) cs
 |.j p q=>bif b then k ((true,p)::(true,q)::r) cs&&k ((false,p)::(false,q)::r) cs else k ((true,p)::(false,q)::r) cs&&k ((false,p)::(true,q)::r) cs
 |.g p=>k ((!b,p)::r) cs
 |.f=>bif b then true else k r cs
 |_=>false
noncomputable def MP:Nat→List (Bool×Ax)→List (Int×List Int)→Bool
 |0=>fun _ _=>false
 |n+1=>fun fs cs=>match fs with
  |[]=>fm 12 ((0,j6 0)::(0,j6 2)::(0,j6 4)::(0,j6 6)::(0,j6 8)::(0,j6 10)::cs)
  |(b,f)::r=>U5 (MP n) r cs b f
noncomputable def dF (i j:Nat) (d:Nat×Ax×Ax):Ax:=match d.1 with
 |0=>MY (.l false (.k 0) d.2.1) (.e false (.v (.n i)) d.2.1) (.t false d.2.1 (.k 0)) (.e true (.n i) (.k 0))
 |1=>MY (.l false (.k 0) d.2.1) (.e false (.v (.n i)) d.2.1) (.t false d.2.1 (.k 0)) (.e false (.v (.n i)) (.u d.2.1))
 |2=>MY (.l true d.2.2 d.2.1) (.e true (.a (.n i) d.2.2) d.2.1) (.t true d.2.1 d.2.2) (.e true (.n i) (.k 0))
 |3=>MY (.l true d.2.1 d.2.2) (.e true (.n i) d.2.2) (.t true d.2.2 d.2.1) (.e true (.n i) d.2.1)
 |4=>MY (.l true d.2.1 d.2.2) (.e true (.n i) d.2.1) (.t true d.2.2 d.2.1) (.e true (.n i) d.2.2)
 |5=>.i (.t true (.k 0) d.2.2) (.c (.e true (.a (.m d.2.2 (.n i)) (.n (i+1))) d.2.1) (.t true (.n (i+1)) d.2.2))
 |6=>.i (.t false (.k 0) d.2.2) (.c (.e false (.a (.m d.2.2 (.z j)) (.z (j+1))) d.2.1) (.c (.l false (.k 0) (.z (j+1))) (.t false (.z (j+1)) d.2.2)))
 |7=>MY (.l false d.2.1 d.2.2) (.e false (.z j) d.2.2) (.t false d.2.2 d.2.1) (.e false (.z j) d.2.1)
 |8=>MY (.l false d.2.1 d.2.2) (.e false (.z j) d.2.1) (.t false d.2.2 d.2.1) (.e false (.z j) d.2.2)
 |_=>.g .f
noncomputable def xm (i j:Nat):Ax→Bool
 |.n k=>jY k i
 |.z k=>jY k j
 |.a x y=>xm i j x&&xm i j y
 |.s x y=>xm i j x&&xm i j y
 |.m x y=>xm i j x&&xm i j y
 |.v x=>xm i j x
 |.u x=>xm i j x
 |.k _=>true
 |_=>false
noncomputable def wN (c:Nat):Nat:=bif jY c 5 then 1 else bif mK c 5 then 2 else 0
noncomputable def wZ (c:Nat):Nat:=bif jY c 6 then 0 else bif mK c 6 then 2 else bif jY c 9 then 1 else 0
noncomputable def yJ:Nat→Nat→List (Nat×Ax×Ax)→Option (List (Bool×Ax))
 |_,_,[]=>some []
 |i,j,d::r=>bif xm i j d.2.1&&xm i j d.2.2 then(yJ (i+wN d.1) (j+wZ d.1) r).map ((true,dF i j d)::·)else none
noncomputable def okN (i j N:Nat):Bool:=match yJ i j (run 200 N [] []).2 with
 |some fs=>MP 200 ((false,(run 200 N [] []).1.headD .f)::fs) []
 |none=>false
noncomputable def ext:List (Nat×Ax×Ax)→List Nat→List Int→List Nat×List Int
 |[],ns,zs=>(ns,zs)
 |d::r,ns,zs=>ext r (ns++dN ns zs d) (zs++dZ ns zs d)
noncomputable def den (N:Nat) (ns:List Nat) (zs:List Int):Prop:=fV (ext (run 200 N [] []).2 ns zs).1 (ext (run 200 N [] []).2 ns zs).2 ((run 200 N [] []).1.headD .f)
section
variable {ns:List Nat} {zs:List Int}
theorem By:∀{j:Nat} {l m:List Int},AB ns zs j (HG l m)=AB ns zs j l+AB ns zs j m
 |j,[],m=>(br _).symm
 |j,a::l,[]=>(bI _).symm
 |j,a::l,b::m=>by
  show(a+b)*_+AB ns zs _ (HG l m)=(a*_+_)+(b*_+_);rw[By,d7];simp only[gN,mM]
theorem wl {p:Int}:∀{j:Nat} {l:List Int},AB ns zs j (l.map (p*·))=p*AB ns zs j l
 |j,[]=>(lu _).symm
 |j,a::l=>by
  show p*a*_+AB ns zs _ (l.map (p*·))=p*(a*_+_);rw[wl,eE,ck]
theorem jw {p q:Int} {j:Nat} {x y:Int×List Int}:rV ns zs j (wG p q x y)=p*rV ns zs j x+q*rV ns zs j y:=by
 show p*x.1+q*y.1+AB ns zs j (HG _ _)=p*(x.1+_)+q*(y.1+_);rw[By,wl,wl,eE,eE];simp only[gN,mM]
theorem pY:∀{i j:Nat},AB ns zs j (j6 i)=ML ns zs (j+i)
 |0,j=>by show 1*_+0=_;rw[cz,bI];rfl
 |i+1,j=>by show 0*_+AB ns zs (j+1) (j6 i)=_;rw[pY,fL,br,eY,iy 1 i]
theorem Lm {i:Nat}:ML ns zs (2*i)=((at' 0 ns i:Nat):Int):=by
 unfold ML;rw[if_pos (Nat.mul_mod_right 2 i),Nat.mul_div_cancel_left i (by decide)]
theorem Qg {i:Nat}:ML ns zs (2*i+1)=at' 0 zs i:=by
 unfold ML;rw[if_neg (by rw[Nat.mul_add_mod];decide),Nat.mul_add_div (by decide)];rfl
noncomputable def aW (ns:List Nat) (zs:List Int) (x:Ax) (b:Bool):Int:=bif b then(aN ns x:Int)else aZ ns zs x
theorem B1 {α β:Type} {x:Option α} {f:α→Option β} {b:β} {P:Prop} (h:x.bind f=some b) (k:∀a,x=some a→f a=some b→P):P:=by
 cases x with
 |none=>cases h
 |some a=>exact k a rfl h
theorem za {α β:Type} {x y:Option α} {f:α→α→Option β} {b:β} {P:Prop} (h:(x.bind fun p=>y.bind fun q=>f p q)=some b) (k:∀p q,x=some p→y=some q→f p q=some b→P):P:=
 B1 h fun p e h=>B1 h fun q e2 h=>k p q e e2 h
theorem Bw {p q r:Int×List Int} {u w:Int} (h:Jy p q=some r) (e1:rV ns zs 0 p=u) (e2:rV ns zs 0 q=w):rV ns zs 0 r=u*w:=by
 have one:∀x:Int×List Int,x.2.isEmpty=true→x.1=rV ns zs 0 x:=fun x q=>by unfold rV;rw[f5.mp q];exact(bI _).symm
 unfold Jy at h;cases a:p.2.isEmpty with
 |true=>rw[a]at h;cases h;rw[jw,fL,bI,one p a,e1,e2]
 |false=>
  rw[a]at h;cases c:q.2.isEmpty with
  |true=>rw[c]at h;cases h;rw[jw,fL,bI,one q c,e1,e2,eh]
  |false=>rw[c]at h;cases h
theorem LG (x:Ax):∀{p:Int×List Int},lN x=some p→rV ns zs 0 p=(aN ns x:Int):=by
 induction x with
 |n i=>intro p h;cases h;show 0+AB ns zs 0 (j6 _)=_;rw[pY,br,dR,Lm];rfl
 |k c=>intro p h;cases h;exact bI _
 |a x y i j=>intro p h;exact za h fun p q e e2 h=>by cases h;rw[jw,i e,j e2,cz,cz];rfl
 |m x y i j=>intro p h;exact za h fun p q e e2 h=>Bw h (i e) (j e2)
 |_=>intro p h;cases h
theorem QO (x:Ax):∀{p:Int×List Int},lZ x=some p→rV ns zs 0 p=aZ ns zs x:=by
 induction x with
 |z i=>intro p h;cases h;show 0+AB ns zs 0 (j6 _)=_;rw[pY,br,dR,Qg];rfl
 |k c=>intro p h;cases h;exact bI _
 |a x y i j=>intro p h;exact za h fun p q e e2 h=>by cases h;rw[jw,i e,j e2,cz,cz];rfl
 |s x y i j=>intro p h;exact za h fun p q e e2 h=>by cases h;rw[jw,i e,j e2,cz,mL,cz];rfl
 |m x y i j=>intro p h;exact za h fun p q e e2 h=>Bw h (i e) (j e2)
 |v x=>exact LG x
 |u x i=>intro p h;exact B1 h fun p e h=>by cases h;rw[jw,i e,fL,bI,mL,cz];rfl
 |_=>intro p h;cases h
theorem Ma {x:Ax} {b:Bool} {p:Int×List Int} (h:aL b x=some p):rV ns zs 0 p=aW ns zs x b:=by
 cases b
 ·exact QO x h
 ·exact LG x h
theorem Hp {j:Nat}:∀{c:Int×List Int},rV ns zs j c=LS c*ML ns zs j+rV ns zs (j+1) (P9 c)
 |(k,[])=>by show k+0=0*_+(k+0);rw[fL,br]
 |(k,a::l)=>by exact mM ..
theorem LV:∀{n j:Nat} {cs:List (Int×List Int)},fm n cs=true→(∀c∈cs,0≤rV ns zs j c)→False
 |0,j,cs=>fun h H=>by
  refine Ua (Mj.mp h) fun c hc q=>?_;rw[ao]at q;have:=H c hc;unfold rV at this;rw[f5.mp q.2]at this;exact absurd this (ma.mpr (by show c.1+0<0;rw[bI];exact of_decide_eq_true q.1))
 |n+1,j,cs=>fun h H=>by
  refine LV (n:=n) (j:=j+1) h fun c hc=>?_;rcases cF.mp hc with hc|hc
  ·obtain⟨p,hp,rfl⟩:=bc.mp hc
   obtain⟨hp,e⟩:=bw.mp hp;have:=H p hp;rwa[Hp,bt e,fL,br]at this
  ·refine Ua (List.mem_flatMap.mp hc) fun p hp hc=>?_
   (refine Ua (bc.mp hc) fun q hq q0=>?_;subst q0);obtain⟨hp,e1⟩:=bw.mp hp;obtain⟨hq,e2⟩:=bw.mp hq;have h1:=H p hp;have h2:=H q hq;rw[Hp]at h1 h2;have e1:=of_decide_eq_true e1;have e2:=of_decide_eq_true e2;rw[jw];have g1:=cb (Int.neg_nonneg_of_nonpos (aO e2)) h1;have g2:=cb (aO e1) h2;have:=dk g1 g2;refine aB this (ur ?_);rw[eE,eE,←ck,←ck,mL,eh (LS q) (LS p),mL,gN,mM (_*rV ns zs (j+1) (P9 p)),←gN,Int.add_left_neg,br]
noncomputable def sV (ns:List Nat) (zs:List Int) (f:Bool×Ax):Prop:=if f.1 then fV ns zs f.2 else¬fV ns zs f.2
theorem nz {b:Bool} {x y:Ax} {d:Int} {k:List (Int×List Int)→Bool} {cs:List (Int×List Int)} (h:DZ b x y d k cs=true) (H:∀c∈cs,0≤rV ns zs 0 c) (hd:aW ns zs x b+d≤aW ns zs y b)
 (K:∀cs,k cs=true→(∀c∈cs,0≤rV ns zs 0 c)→False):False:=by
 refine B1 (bt h) fun p e1 h=>?_;refine Um h fun q e2 h=>?_;refine K _ h fun c hc=>?_;rcases aD.mp hc with rfl|hc
 ·rw[jw,Ma e2,cz,mL,cz,show rV ns zs 0 (p.1+d,p.2)=rV ns zs 0 p+d from Int.add_right_comm ..,Ma e1]
  exact Int.sub_nonneg_of_le hd
 ·exact H c hc
theorem c1 {ns zs f} {r:List (Bool×Ax)} {P:Prop} (H:∀g∈f::r,sV ns zs g) (h:sV ns zs f→(∀g∈r,sV ns zs g)→P):P:=h (H _ (au ..)) fun g q=>H g (af _ q)
theorem c2 {ns zs f} {r:List (Bool×Ax)} (h:sV ns zs f) (H:∀g∈r,sV ns zs g):∀g∈f::r,sV ns zs g:=fun g q=>by
 rcases aD.mp q with rfl|q
 ·exact h
 ·exact H g q
theorem OP {f:Int×List Int} {r:List (Int×List Int)} (h:0≤rV ns zs 0 f) (H:∀g∈r,0≤rV ns zs 0 g):∀g∈f::r,0≤rV ns zs 0 g:=fun g q=>by
 rcases aD.mp q with rfl|q
 ·exact h
 ·exact H g q
theorem g2 {x y:Bool} (h:(x&&y)=true):x=true∧y=true:=ao x y▸h
theorem nn (i:Nat):0≤rV ns zs 0 (0,j6 (2*i)):=by
 show 0≤0+AB ns zs 0 (j6 (2*i));rw[pY,br,dR,Lm];exact aY _
theorem IZ (n:Nat):∀{fs:List (Bool×Ax)} {cs:List (Int×List Int)},MP n fs cs=true→(∀f∈fs,sV ns zs f)→(∀c∈cs,0≤rV ns zs 0 c)→False:=by
 induction n with
 |zero=>intro _ _ h;cases h
 |succ n go=>
  intro fs cs h F H;cases fs with
  |nil=>
   refine LV (j:=0) h (OP (nn 0) (OP (nn 1) (OP (nn 2) (OP (nn 3) (OP (nn 4) (OP (nn 5) H))))))
  |cons f r=>
   obtain⟨b,f⟩:=f;obtain⟨f1,G⟩:sV ns zs (b,f)∧∀g∈r,sV ns zs g:=c1 F .intro;clear F;cases f with
   |l s x y=>
    cases b
    ·refine nz h H ?_ fun cs q=>go q G
     cases s
     ·exact ma.mp f1
     ·exact bQ.mpr (zE.mp f1)
    ·refine nz h H ?_ fun cs q=>go q G
     rw[bI];cases s
     ·exact f1
     ·exact bQ.mpr f1
   |t s x y=>
    cases b
    ·refine nz h H ?_ fun cs q=>go q G
     rw[bI];cases s
     ·exact gC.mp f1
     ·exact bQ.mpr (c5.mp f1)
    ·refine nz h H ?_ fun cs q=>go q G
     cases s
     ·exact f1
     ·exact bQ.mpr f1
   |e s x y=>
    cases b
    ·obtain⟨h1,h2⟩:=g2 h
     have:aW ns zs x s≠aW ns zs y s:=by
      cases s
      ·exact f1
      ·exact fun q=>f1 (j5.mp q)
     rcases Int.lt_or_gt_of_ne this with q|q
     ·exact nz h1 H q fun cs q=>go q G
     ·exact nz h2 H q fun cs q=>go q G
    ·have:aW ns zs x s=aW ns zs y s:=by
      cases s
      ·exact f1
      ·exact j5.mpr f1
     refine nz h H (by rw[bI,this];exact dj _) fun cs q H=>nz q H (by rw[bI,this];exact dj _) fun cs q=>go q G
   |c p q=>
    cases b
    ·obtain⟨h1,h2⟩:=g2 h
     by_cases z:fV ns zs p
     ·exact go h2 (c2 (fun y=>f1 ⟨z,y⟩) G) H
     ·exact go h1 (c2 z G) H
    ·exact go h (c2 f1.1 (c2 f1.2 G)) H
   |o p q=>
    cases b
    ·exact go h (c2 (fun y=>f1 (.inl y)) (c2 (fun y=>f1 (.inr y)) G)) H
    ·obtain⟨h1,h2⟩:=g2 h
     rcases f1 with z|z
     ·exact go h1 (c2 z G) H
     ·exact go h2 (c2 z G) H
   |i p q=>
    cases b
    ·refine go h (c2 (f:=(true,p)) (a8 fun z=>f1 fun y=>(z y).elim) (c2 (fun y=>f1 fun _=>y) G)) H
    ·obtain⟨h1,h2⟩:=g2 h
     by_cases z:fV ns zs p
     ·exact go h2 (c2 (f1 z) G) H
     ·exact go h1 (c2 z G) H
   |j p q=>
    cases b
    ·obtain⟨h1,h2⟩:=g2 h
     by_cases z:fV ns zs p
     ·exact go h1 (c2 (f:=(true,p)) z (c2 (fun y=>f1 ⟨fun _=>y,fun _=>z⟩) G)) H
     ·exact go h2 (c2 z (c2 (f:=(true,q)) (a8 fun y=>f1 ⟨fun x=>(z x).elim,fun x=>(y x).elim⟩) G)) H
    ·obtain⟨h1,h2⟩:=g2 h
     by_cases z:fV ns zs p
     ·exact go h1 (c2 (f:=(true,p)) z (c2 (f:=(true,q)) (f1.mp z) G)) H
     ·exact go h2 (c2 z (c2 (f:=(false,q)) (fun y=>z (f1.mpr y)) G)) H
   |g p=>
    cases b
    ·exact go h (c2 (f:=(true,p)) (a8 f1) G) H
    ·exact go h (c2 (f:=(false,p)) f1 G) H
   |f=>
    cases b
    ·exact go h G H
    ·exact f1
   |_=>cases h
theorem wS {α:Type} {d:α}:∀{l m:List α} {i:Nat},jY i l.length=true→at' d (l++m) i=at' d l i
 |[],_,_=>@fun h=>by cases h
 |_::_,_,0=>@fun _=>rfl
 |_::l,_,i+1=>@fun h=>wS (l:=l) (i:=i) h
theorem AY {m:List Nat} {j:Nat} (x:Ax):xm ns.length j x=true→aN (ns++m) x=aN ns x:=by
 induction x with
 |n i=>exact wS
 |a x y i k=>intro h;have:=g2 h;show _+_=_+_;rw[i this.1,k this.2]
 |m x y i k=>intro h;have:=g2 h;show _*_=_*_;rw[i this.1,k this.2]
 |_=>intro _;rfl
theorem HH {m:List Nat} {w:List Int} (x:Ax):xm ns.length zs.length x=true→aZ (ns++m) (zs++w) x=aZ ns zs x:=by
 induction x with
 |z i=>exact wS
 |a x y i k=>intro h;have:=g2 h;show _+_=_+_;rw[i this.1,k this.2]
 |s x y i k=>intro h;have:=g2 h;show _-_=_-_;rw[i this.1,k this.2]
 |m x y i k=>intro h;have:=g2 h;show _*_=_*_;rw[i this.1,k this.2]
 |v x _=>intro h;show((aN _ x:Nat):Int)=_;rw[AY x h];rfl
 |u x i=>intro h;show-_=-_;rw[i h]
 |_=>intro _;rfl
theorem tN (z:Int):0≤z∧(z.toNat:Int)=z∨z<0∧z.toNat=0:=(uq z 0).elim (fun h=>.inr ⟨h,Int.toNat_eq_zero.mpr (aO h)⟩) fun h=>.inl ⟨h,bG h⟩
theorem tU (z:Int):0≤z∧(z.natAbs:Int)=z∨z<0∧(z.natAbs:Int)=-z:=(uq z 0).elim (fun h=>.inr ⟨h,Int.ofNat_natAbs_of_nonpos (aO h)⟩) fun h=>.inl ⟨h,Int.natAbs_of_nonneg h⟩
theorem tM (x y:Nat):y≤x∧x-y+y=x∨x<y∧x-y=0:=(DP x y).elim (fun h=>.inr ⟨h,D0 (a5 h)⟩) fun h=>.inl ⟨h,l9 h⟩
theorem tX (x y:Nat):x≤y∧max x y=y∨y<x∧max x y=x:=(DP y x).elim (fun h=>.inr ⟨h,Nat.max_eq_left (a5 h)⟩) fun h=>.inl ⟨h,Nat.max_eq_right h⟩
theorem tY (x y:Nat):x≤y∧min x y=x∨y<x∧min x y=y:=(DP y x).elim (fun h=>.inr ⟨h,Pk (a5 h)⟩) fun h=>.inl ⟨h,kF h⟩
theorem tx (x y:Int):x≤y∧max x y=y∨y<x∧max x y=x:=(uq y x).elim (fun h=>.inr ⟨h,Int.max_eq_left (aO h)⟩) fun h=>.inl ⟨h,Int.max_eq_right h⟩
theorem ty (x y:Int):x≤y∧min x y=x∨y<x∧min x y=y:=(uq y x).elim (fun h=>.inr ⟨h,Int.min_eq_right (aO h)⟩) fun h=>.inl ⟨h,Int.min_eq_left h⟩
theorem Ti {p:Nat→Prop} (h0:p 0) (h1:p 1) (h2:p 2) (h3:p 3) (h4:p 4) (h5:p 5) (h6:p 6) (h7:p 7) (h8:p 8) (h9:∀n,p (n+9)):∀n,p n
 |0=>h0
 |1=>h1
 |2=>h2
 |3=>h3
 |4=>h4
 |5=>h5
 |6=>h6
 |7=>h7
 |8=>h8
 |n+9=>h9 n
theorem Rz {N ns:List Nat} {Z zs:List Int} {i j:Nat} {x y:Ax} (c:Nat) (n1:aN N x=aN ns x) (n2:aN N y=aN ns y) (z1:aZ N Z x=aZ ns zs x) (z2:aZ N Z y=aZ ns zs y)
 (hN:∀k a,at' 0 (dN ns zs (c,x,y)) k=a→jY k (dN ns zs (c,x,y)).length=true→at' 0 N (i+k)=a) (hZ:∀k a,at' 0 (dZ ns zs (c,x,y)) k=a→jY k (dZ ns zs (c,x,y)).length=true→at' 0 Z (j+k)=a):fV N Z (dF i j (c,x,y)):=by
 refine Ti (p:=fun c=>(∀k a,at' 0 (dN ns zs (c,x,y)) k=a→jY k (dN ns zs (c,x,y)).length=true→at' 0 N (i+k)=a)→(∀k a,at' 0 (dZ ns zs (c,x,y)) k=a→jY k (dZ ns zs (c,x,y)).length=true→at' 0 Z (j+k)=a)→fV N Z (dF i j (c,x,y))) ?_ ?_ ?_ ?_ ?_ ?_ ?_ ?_ ?_ (fun _ _ _=>id) c hN hZ
 ·intro hN hZ
  show(0≤aZ N Z x∧((at' 0 N (i+0):Nat):Int)=aZ N Z x)∨aZ N Z x<0∧at' 0 N (i+0)=0;rw[z1,hN 0 _ rfl rfl];exact tN _
 ·intro hN hZ
  show(0≤aZ N Z x∧((at' 0 N (i+0):Nat):Int)=aZ N Z x)∨aZ N Z x<0∧((at' 0 N (i+0):Nat):Int)=-aZ N Z x;rw[z1,hN 0 _ rfl rfl];exact tU _
 ·intro hN hZ
  show(aN N y≤aN N x∧at' 0 N (i+0)+aN N y=aN N x)∨aN N x<aN N y∧at' 0 N (i+0)=0;rw[n1,n2,hN 0 _ rfl rfl];exact tM _ _
 ·intro hN hZ
  show(aN N x≤aN N y∧at' 0 N (i+0)=aN N y)∨aN N y<aN N x∧at' 0 N (i+0)=aN N x;rw[n1,n2,hN 0 _ rfl rfl];exact tX _ _
 ·intro hN hZ
  show(aN N x≤aN N y∧at' 0 N (i+0)=aN N x)∨aN N y<aN N x∧at' 0 N (i+0)=aN N y;rw[n1,n2,hN 0 _ rfl rfl];exact tY _ _
 ·intro hN hZ
  show 0<aN N y→aN N y*at' 0 N (i+0)+at' 0 N (i+1)=aN N x∧at' 0 N (i+1)<aN N y;rw[n1,n2,hN 0 _ rfl rfl,hN 1 _ rfl rfl];exact fun h=>⟨xd _ _,Nat.mod_lt _ h⟩
 ·intro hN hZ
  show 0<aZ N Z y→aZ N Z y*at' 0 Z (j+0)+at' 0 Z (j+1)=aZ N Z x∧0≤at' 0 Z (j+1)∧at' 0 Z (j+1)<aZ N Z y;rw[z1,z2,hZ 0 _ rfl rfl,hZ 1 _ rfl rfl];exact fun h=>⟨gS _ _,i8 _ (db h),gF _ h⟩
 ·intro hN hZ
  show(aZ N Z x≤aZ N Z y∧at' 0 Z (j+0)=aZ N Z y)∨aZ N Z y<aZ N Z x∧at' 0 Z (j+0)=aZ N Z x;rw[z1,z2,hZ 0 _ rfl rfl];exact tx _ _
 ·intro hN hZ
  show(aZ N Z x≤aZ N Z y∧at' 0 Z (j+0)=aZ N Z x)∨aZ N Z y<aZ N Z x∧at' 0 Z (j+0)=aZ N Z y;rw[z1,z2,hZ 0 _ rfl rfl];exact ty _ _
theorem Hy {α:Type} {d a:α} {m x:List α}:∀{l:List α} {k:Nat},at' d x k=a→jY k x.length=true→at' d (l++(x++m)) (l.length+k)=a
 |[],k=>fun e h=>by rw[show([]:List α).length+k=k from dR k];exact(wS h).trans e
 |_::l,k=>fun e h=>by rw[show(_::l:List α).length+k=l.length+k+1 from Nat.succ_add ..];exact Hy (l:=l) e h
theorem Ry {m:List Nat} {w:List Int} {d:Nat×Ax×Ax} (h:(xm ns.length zs.length d.2.1&&xm ns.length zs.length d.2.2)=true):fV (ns++(dN ns zs d++m)) (zs++(dZ ns zs d++w)) (dF ns.length zs.length d):=
 Rz d.1 (AY _ (g2 h).1) (AY _ (g2 h).2) (HH _ (g2 h).1) (HH _ (g2 h).2) (fun _ _=>Hy) fun _ _=>Hy
theorem Ow {d:Nat×Ax×Ax}:(dN ns zs d).length=wN d.1:=by
 obtain⟨c,x,y⟩:=d;match c with
 |0|1|2|3|4|5|6|7|8|_+9=>rfl
theorem Ov {d:Nat×Ax×Ax}:(dZ ns zs d).length=wZ d.1:=by
 obtain⟨c,x,y⟩:=d;match c with
 |0|1|2|3|4|5|6|7|8|_+9=>rfl
theorem BK:∀{ds:List (Nat×Ax×Ax)} {ns:List Nat} {zs:List Int},∃m w,ext ds ns zs=(ns++m,zs++w)
 |[],ns,zs=>⟨[],[],by rw[bH,bH];rfl⟩
 |d::r,ns,zs=>by
  refine Us (BK (ds:=r) (ns:=ns++dN ns zs d) (zs:=zs++dZ ns zs d)) fun m w e=>?_;exact⟨_,_,by show ext r _ _=_;rw[e,aC,aC]⟩
theorem yI:∀{ds:List (Nat×Ax×Ax)} {ns:List Nat} {zs:List Int} {fs:List (Bool×Ax)},yJ ns.length zs.length ds=some fs→∀f∈fs,sV (ext ds ns zs).1 (ext ds ns zs).2 f
 |[],ns,zs,fs=>fun h=>by cases h;exact fun _ q=>nomatch q
 |d::r,ns,zs,fs=>fun h=>by
  replace h:(bif xm ns.length zs.length d.2.1&&xm ns.length zs.length d.2.2 then(yJ (ns.length+wN d.1) (zs.length+wZ d.1) r).map ((true,dF ns.length zs.length d)::·)else none)=some fs:=h;cases q:(xm ns.length zs.length d.2.1&&xm ns.length zs.length d.2.2)with
  |false=>rw[q]at h;cases h
  |true=>
   rw[q]at h;(refine Um h fun fs' e q0=>?_;subst q0);rw[←Ow (ns:=ns) (zs:=zs),←Ov (ns:=ns) (zs:=zs),←ai,←ai]at e;have F:=yI (ds:=r) e;refine c2 ?_ F;refine Us (BK (ds:=r) (ns:=ns++dN ns zs d) (zs:=zs++dZ ns zs d)) fun m w e=>?_;show fV (ext r _ _).1 (ext r _ _).2 _;rw[e,aC,aC];exact Ry q
theorem lin (N:Nat) (ns:List Nat) (zs:List Int) (h:okN ns.length zs.length N=true):den N ns zs:=by
 unfold okN at h;cases e:yJ ns.length zs.length (run 200 N [] []).2 with
 |none=>rw[e]at h;cases h
 |some fs=>
  rw[e]at h;exact a8 fun n=>IZ _ h (c2 n (yI e)) fun _ q=>nomatch q
end
end Ar
theorem Vj (N:Nat) (h:Ar.okN 0 0 N=true:=by kernel_rfl):Ar.den N [] []:=Ar.lin _ _ _ h
theorem iG {p:Int} (N:Nat) (h:Ar.okN 0 1 N=true:=by kernel_rfl):Ar.den N [] [p]:=Ar.lin _ _ _ h
theorem ly {p q:Int} (N:Nat) (h:Ar.okN 0 2 N=true:=by kernel_rfl):Ar.den N [] [p,q]:=Ar.lin _ _ _ h
theorem ud {p q r:Int} (N:Nat) (h:Ar.okN 0 3 N=true:=by kernel_rfl):Ar.den N [] [p,q,r]:=Ar.lin _ _ _ h
theorem uE {p q r s:Int} (N:Nat) (h:Ar.okN 0 4 N=true:=by kernel_rfl):Ar.den N [] [p,q,r,s]:=Ar.lin _ _ _ h
theorem SH {p q r s t:Int} (N:Nat) (h:Ar.okN 0 5 N=true:=by kernel_rfl):Ar.den N [] [p,q,r,s,t]:=Ar.lin _ _ _ h
theorem Vi {p q r s t u:Int} (N:Nat) (h:Ar.okN 0 6 N=true:=by kernel_rfl):Ar.den N [] [p,q,r,s,t,u]:=Ar.lin _ _ _ h
theorem fN {a:Nat} (N:Nat) (h:Ar.okN 1 0 N=true:=by kernel_rfl):Ar.den N [a] []:=Ar.lin _ _ _ h
theorem zh {a:Nat} {p:Int} (N:Nat) (h:Ar.okN 1 1 N=true:=by kernel_rfl):Ar.den N [a] [p]:=Ar.lin _ _ _ h
theorem Io {a:Nat} {p q:Int} (N:Nat) (h:Ar.okN 1 2 N=true:=by kernel_rfl):Ar.den N [a] [p,q]:=Ar.lin _ _ _ h
theorem UT {a:Nat} {p q r:Int} (N:Nat) (h:Ar.okN 1 3 N=true:=by kernel_rfl):Ar.den N [a] [p,q,r]:=Ar.lin _ _ _ h
theorem Vh {a:Nat} {p q r s:Int} (N:Nat) (h:Ar.okN 1 4 N=true:=by kernel_rfl):Ar.den N [a] [p,q,r,s]:=Ar.lin _ _ _ h
theorem Vg {a:Nat} {p q r s t:Int} (N:Nat) (h:Ar.okN 1 5 N=true:=by kernel_rfl):Ar.den N [a] [p,q,r,s,t]:=Ar.lin _ _ _ h
theorem dA {a b:Nat} (N:Nat) (h:Ar.okN 2 0 N=true:=by kernel_rfl):Ar.den N [a,b] []:=Ar.lin _ _ _ h
theorem HK {a b:Nat} {p:Int} (N:Nat) (h:Ar.okN 2 1 N=true:=by kernel_rfl):Ar.den N [a,b] [p]:=Ar.lin _ _ _ h
theorem iq {a b c:Nat} (N:Nat) (h:Ar.okN 3 0 N=true:=by kernel_rfl):Ar.den N [a,b,c] []:=Ar.lin _ _ _ h
theorem US {a b c:Nat} {p:Int} (N:Nat) (h:Ar.okN 3 1 N=true:=by kernel_rfl):Ar.den N [a,b,c] [p]:=Ar.lin _ _ _ h
theorem rY {a b c d:Nat} (N:Nat) (h:Ar.okN 4 0 N=true:=by kernel_rfl):Ar.den N [a,b,c,d] []:=Ar.lin _ _ _ h
theorem SG {a b c d e:Nat} (N:Nat) (h:Ar.okN 5 0 N=true:=by kernel_rfl):Ar.den N [a,b,c,d,e] []:=Ar.lin _ _ _ h
noncomputable abbrev g7:Addr:=153
noncomputable abbrev yQ:Addr:=158
noncomputable def fieldNames:List Str:=[ofString "raw",ofString "n",ofString "nt",ofString "norm",ofString "is_simple"]
noncomputable abbrev pw:Program:=PySem.Challenge.pw_uc0055_01
noncomputable def progBody:List Stmt:=PySem.Challenge.pw_uc0055_01.main.body
noncomputable def a7 (i:Nat):Stmt:=progBody.getD i (.Pass ⟨0,0,0,0⟩)
set_option genInjectivity false in
structure Sp where
 b:List Stmt:=[]
 e:Expr:=.Constant .none 0 ⟨0,0,0,0⟩
 sc:Scope:=default
 ar:Arguments:=⟨[],[],none,[],[],none,[]⟩
 p:Pos:=⟨0,0,0,0⟩
 x:Str:=bC
 o:List Stmt:=[]
 t:List Expr:=[]
noncomputable def jM:Stmt→Sp
 |.FunctionDef x a b _ _ _ sc _ _ p=>{b:=b,sc:=sc,ar:=a,p:=p,x:=x}
 |.ClassDef _ _ _ b ..=>{b:=b}
 |.For t e b _ _=>{b:=b,e:=e,t:=[t]}
 |.While e b _ _=>{b:=b,e:=e}
 |.If e b o _=>{b:=b,e:=e,o:=o}
 |.Assign t e _=>{e:=e,t:=t}
 |.Return (some e) _=>{e:=e}
 |.Expr e _=>{e:=e}
 |_=>{}
noncomputable def aG (st:Stmt):List Stmt:=(jM st).b
noncomputable def aF (st:Stmt):Scope:=(jM st).sc
noncomputable def fH (st:Stmt):Arguments:=(jM st).ar
noncomputable def oN (st:Stmt):Pos:=(jM st).p
noncomputable def nw (st:Stmt):Str:=(jM st).x
set_option genInjectivity false in
structure Ep where
 a:List Expr:=[]
 e:Expr:=.Constant .none 0 ⟨0,0,0,0⟩
 g:List Comprehension:=[]
 s:Scope:=default
 x:Str:=bC
 c:Option Const:=none
 k:List (Option Expr):=[]
noncomputable def ju:Expr→Ep
 |.Call f l _ _=>{a:=f::l,e:=f}
 |.ListComp e g s _=>{e:=e,g:=g,s:=s}
 |.Name x _=>{x:=x}
 |.Constant c _ _=>{c:=some c}
 |.Dict k v _=>{k:=k,a:=v}
 |.BinOp l _ r _=>{a:=[l,r]}
 |.UnaryOp _ x _=>{a:=[x,x]}
 |.Compare l _ r _=>{a:=l::r}
 |.Subscript v i _=>{a:=[v,i]}
 |.List l _=>{a:=l}
 |.Tuple l _ _=>{a:=l}
 |.BoolOp _ l _=>{a:=l}
 |.Attribute v _ _=>{a:=[v,v]}
 |_=>{}
noncomputable def BR:Expr:=.Constant .none 0 ⟨0,0,0,0⟩
noncomputable def Qf:Stmt:=.Pass ⟨0,0,0,0⟩
noncomputable def Rt:Expr→Nat
 |.Name ..=>0
 |.Set ..=>1
 |.Call ..=>2
 |.Slice ..=>3
 |.Starred ..=>4
 |.Tuple ..=>5
 |_=>9
noncomputable def gI (i:Nat):Stmt:=(aG (a7 15)).getD i (.Pass ⟨0,0,0,0⟩)
noncomputable def TK:Option Const→Option Int
 |some (.int i)=>some i
 |_=>none
noncomputable def TI:Option Const→Option Str
 |some (.str i)=>some i
 |_=>none
noncomputable def tokTab:List (Str×Int):=
 let nums:List (Str×Int):=progBody.filterMap fun st=>(TK (ju (jM st).e).c).map fun i=>((ju ((jM st).t.getD 0 BR)).x,i);progBody.flatMap fun st=>((ju (jM st).e).k.zip (ju (jM st).e).a).filterMap fun q=>(TI (ju (q.1.getD BR)).c).bind fun k=>(nums.lookup (ju q.2).x).map fun i=>(k,i)
theorem tn_lt {k c:Int} {n:Nat} (h:0≤k∧k<c) (e:c=(n:Int)):k.toNat<n:=by lia
theorem tn_le {k c:Int} {n:Nat} (h:0≤k∧k≤c) (e:c=(n:Int)):k.toNat≤n:=by lia
noncomputable def dy (K:Frag) (f:Addr):FuncData:=match K.lookup f with
 |some ⟨_,_,.func fd,_⟩=>fd
 |_=>default
noncomputable def Ko (K:Frag):Array DictEntry:=match K.lookup yQ with|some ⟨_,_,.dict es _,_⟩=>es|_=>#[]
noncomputable def UM (K:Frag):Nat:=match K.lookup yQ with|some ⟨_,_,.dict _ n,_⟩=>n|_=>0
noncomputable def wm (e:DictEntry):Str:=match e.key with|.str x _=>x|_=>bC
noncomputable def Eh (e:DictEntry):Int:=match e.val with|.int i _=>i|_=>0
noncomputable def PG (e:DictEntry):Bool:=(match e.key with|.str _ _=>true|_=>false)&&(match e.val with|.int _ _=>true|_=>false)
noncomputable def Rw:(o:Option Obj)→{b:Bool//b=true→∃es n,o=some ⟨.type "dict",none,.dict es n,#[]⟩}
 |some ⟨.type "dict",none,.dict es n,⟨[]⟩⟩=>⟨true,fun _=>⟨es,n,rfl⟩⟩
 |_=>⟨false,fun h=>nomatch h⟩
noncomputable def Gi (o:Option Obj):Bool:=(Rw o).1
theorem Gh {o:Option Obj} (h:Gi o=true):∃es n,o=some ⟨.type "dict",none,.dict es n,#[]⟩:=(Rw o).2 h
noncomputable def tu (r:Option CFound) (x:Str):Bool:=match r with
 |some (.val (.str y _))=>decide (y=x)
 |_=>false
noncomputable def fnTab:List (Addr×Stmt):=[(28,a7 2),(35,a7 3),(42,a7 4),(49,a7 5),(56,a7 8),(70,a7 10),(77,a7 11),(84,a7 12),(91,a7 13),(167,a7 68),(174,a7 69),(179,a7 71),(184,a7 72),(191,a7 73),(198,a7 74),(203,a7 75),(210,a7 76),(217,a7 77),(224,a7 78),(229,a7 79),(234,a7 80),(239,a7 81),(108,gI 1),(115,gI 2),(122,gI 3),(129,gI 4),(143,gI 6)]
noncomputable def meths:List Addr:=[108,115,122,129,143]
noncomputable abbrev biFree:List Str:=[ofString "len",ofString "sum",ofString "max",ofString "min",ofString "divmod",ofString "tuple",ofString "range",ofString "reversed",ofString "enumerate"]
noncomputable def nmTab:List (Str×Option (Option Value)):=
 [(ofString "NT_OFFSET",some (some (.int 256 521))),(ofString "ENDMARKER",some (some (.int 0 423))),(ofString "_DIV_LIMIT",some (some (.int 4000 239))),(ofString "EXACT_TOKEN_TYPES",some (some (.ref yQ))),(ofString "Whitespace",some (some (.ref g7)))]++
 biFree.map (fun x=>(x,some none))++(fnTab.take 22).map fun p=>(nw p.2,some (some (.ref p.1)))
noncomputable def fiTab:List (Str×Option (Option Value)):=
 (ofString "__setattr__",some (some (.builtin "object.__setattr__")))::fieldNames.map (fun x=>(x,some none))++[(ofString "__init__",some (some (.ref 108)))]++(fnTab.drop 23).map fun p=>(nw p.2,some (some (.ref p.1)))
set_option genInjectivity false in
structure Facts where
 ns:List (Option (Option Value))
 kp:List Bool
 fn:List (Bool×Arguments×FuncBody×Scope×(Addr×Addr)×List (Str×Addr)×(Value×Value)×Bool)
 fi:List (Option (Option Value))
 pl:List Bool
 tk:List (Option (Option Value))
 bs:List Bool
 dt:List (Str×Int)
 dh:List Int
 qc:(Str×Value)×(Str×Value)
noncomputable def Jp (K:Frag):Facts where
 ns:=nmTab.map fun x=>nsIn K mainGlobals x.1;kp:=(g7::fnTab.map (·.1)).map fun a=>keepIn K (.ref a);fn:=fnTab.map fun p=>let fd:=dy K p.1;(fnIn K p.1,fd.params,fd.body,fd.scope,(fd.globals,fd.builtins),fd.closure,(fd.defaults,fd.kwdefaults),codeIn K fd.code fd.qualname);fi:=fiTab.map fun x=>findIn K (.ref g7) x.1;pl:=(bC::(fnTab.drop 22).map fun p=>nw p.2).map (plainGet K g7);tk:=fieldNames.map (takerIn K g7);bs:=[hasDictIn K g7,readsIn K g7 (.type "type"),makesIn K g7,plainOver K g7,(clsIn K g7).any (·.hasDict),tu (findCls K (.ref g7) (.type "type") (ofString "S")) (ofString " "),
  tu (findCls K (.ref g7) (.type "type") (ofString "T")) (ofString "\t"),codeHdIn K 69 65,codeHdIn K 76 72,noTabs K,Gi (K.lookup yQ),(Ko K).toList.all PG]++meths.map fun a=>isFn K (.ref a);dt:=(Ko K).toList.map fun e=>(wm e,Eh e);dh:=(Ko K).toList.map fun e=>e.hash;qc:=(((dy K 70).qualname,(dy K 70).code),((dy K 77).qualname,(dy K 77).code))
noncomputable def PW (P:Params):Facts where
 ns:=nmTab.map (·.2);kp:=(g7::fnTab.map (·.1)).map fun _=>true;fn:=fnTab.map fun p=>(true,fH p.2,.stmts (aG p.2),aF p.2,(mainGlobals,builtinsNs),[],(.none,.none),true);fi:=fiTab.map (·.2);pl:=(bC::(fnTab.drop 22).map fun p=>nw p.2).map fun _=>true;tk:=fieldNames.map fun _=>some none;bs:=aA 17 true;dt:=tokTab;dh:=tokTab.map fun x=>kP P x.1;qc:=((ofString "_int2digits",.ref 69),(ofString "_digits2int",.ref 76))
noncomputable def KF (P:Params) (K:Frag):Prop:=Jp K=PW P
theorem tc {β:Type} {x:Str} {v:β}:∀{l:List (Str×β)},l.lookup x=some v→(x,v)∈l
 |[],e=>nomatch e
 |(y,u)::l,e=>by
  rw[aH]at e;cases q:x==y with
  |true=>rw[q]at e;rw[bt q,dB e];exact au ..
  |false=>rw[q]at e;exact af _ (tc e)
section
variable {P:Params} {K:Frag} (h:KF P K)
include h
theorem KF.ns {x:Str} {v:Option (Option Value)} (e:nmTab.lookup x=some v):nsIn K mainGlobals x=v:=dE.mp (congrArg Facts.ns h) _ (tc e)
theorem KF.fi {x:Str} {v:Option (Option Value)} (e:fiTab.lookup x=some v):findIn K (.ref g7) x=v:=dE.mp (congrArg Facts.fi h) _ (tc e)
theorem KF.kp {a:Addr} (e:(g7::fnTab.map (·.1)).contains a=true):keepIn K (.ref a)=true:=dE.mp (show(g7::fnTab.map (·.1)).map (fun a=>keepIn K (.ref a))=(g7::fnTab.map (·.1)).map (fun _=>true)from congrArg Facts.kp h) _ (oR.mp e)
theorem KF.pl {x:Str} (e:(bC::(fnTab.drop 22).map fun p=>nw p.2).contains x=true):plainGet K g7 x=true:=dE.mp (show(bC::(fnTab.drop 22).map fun p=>nw p.2).map (plainGet K g7)=(bC::(fnTab.drop 22).map fun p=>nw p.2).map (fun _=>true)from congrArg Facts.pl h) _ (oR.mp e)
theorem KF.bit (i:Nat) {b:Bool} (e:(Jp K).bs[i]?=some b):b=true:=by
 rw[show(Jp K).bs=_ from congrArg Facts.bs h]at e;exact zT (ax e)
theorem KF.tk {x:Str} (e:fieldNames.contains x=true):takerIn K g7 x=some none:=dE.mp (show fieldNames.map (takerIn K g7)=fieldNames.map (fun _=>some none)from congrArg Facts.tk h) _ (oR.mp e)
theorem KF.fn {p:Addr×Stmt} (e:p∈fnTab):(fnIn K p.1,(dy K p.1).params,(dy K p.1).body,(dy K p.1).scope,((dy K p.1).globals,(dy K p.1).builtins),(dy K p.1).closure,((dy K p.1).defaults,(dy K p.1).kwdefaults),codeIn K (dy K p.1).code (dy K p.1).qualname)=
 (true,fH p.2,.stmts (aG p.2),aF p.2,(mainGlobals,builtinsNs),[],(.none,.none),true):=
 dE.mp (show fnTab.map (fun p=>(fnIn K p.1,(dy K p.1).params,(dy K p.1).body,(dy K p.1).scope,((dy K p.1).globals,(dy K p.1).builtins),(dy K p.1).closure,((dy K p.1).defaults,(dy K p.1).kwdefaults),codeIn K (dy K p.1).code (dy K p.1).qualname))=
  fnTab.map (fun p=>(true,fH p.2,FuncBody.stmts (aG p.2),aF p.2,(mainGlobals,builtinsNs),([]:List (Str×Addr)),(wX,wX),true))from congrArg Facts.fn h) _ e
end
noncomputable def Kas:List Addr:=[2,3,15,17,18,20,21,22,24,25,27,28,29,31,32,34,35,36,38,39,41,42,43,45,46,48,49,50,52,53,55,56,57,59,60,62,63,64,66,67,69,70,71,73,74,76,77,78,80,81,83,84,85,87,88,90,91,102,104,105,107,108,109,111,112,114,115,116,118,119,121,122,123,125,126,128,129,130,132,133,135,136,137,139,140,142,143,144,146,147,149,150,151,152,153,154,155,158,161,163,164,166,167,168,170,171,173,174,175,178,179,180,183,184,185,187,188,190,191,192,194,195,197,198,199,202,203,204,206,207,209,210,211,213,214,216,217,218,220,221,223,224,225,228,229,230,233,234,235,238,239]
noncomputable def GO (h:Heap):Frag:=Kas.filterMap fun a=>(h.get? a).map fun o=>(a,o)
theorem q7 {h:Heap} {a:Addr} {o:Obj}:∀{l:List Addr},(l.filterMap fun a=>(h.get? a).map fun o=>(a,o)).lookup a=some o→h.get? a=some o
 |[],e=>nomatch e
 |b::l,e=>by
  rw[iK]at e;cases hb:h.get? b with
  |none=>rw[hb]at e;exact q7 e
  |some x=>
   rw[hb]at e;dsimp only[jX]at e;rw[aH]at e;cases q:a==b with
   |true=>rw[q]at e;rw[bt q,hb];exact e
   |false=>rw[q]at e;exact q7 e
theorem Dk (h:Heap):(GO h).In h:=fun _ _ e=>q7 e
noncomputable def zG (w:World) (h:Heap):Prop:=∃K:Frag,K.In h∧KF w.params K∧∀P∈([72,65]:List Addr),h.get? P=some (tabObj #[])
noncomputable def JM (s:Shared):Facts×List (Option Obj):=(Jp (GO s.heap),([72,65]:List Addr).map s.heap.get?)
noncomputable def JL (w:World):Facts×List (Option Obj):=(PW w.params,([72,65]:List Addr).map fun _=>some (tabObj #[]))
theorem F3 (w:World) (s:Shared) (e:JM s=JL w):zG w s.heap:=
 ⟨_,Dk _,congrArg er e,dE.mp (congrArg lz e)⟩
theorem yt (w:World) (h h':Heap) (x:zG w h) (k:∀b o,h.get? b=some o→h'.get? b=some o):zG w h':=
 let⟨K,a,b,c⟩:=x;⟨K,a.keeps k,b,fun P hP=>k _ _ (c P hP)⟩
theorem JH {p q:Program} {loose:List Str} {Xt:Shared→Bool} {α:Type} {Yf:Shared→α} {Ya:World→α} {N:Nat} {g0:Bool} {QB:Nat} {ann:Option Value}
 (e:opening p=plainProg p.main.scope.names) (hN:Nat.ble 600 N=true) (f:∀s,fenceModules? p s=some s)
 (size:∀P:Params,((gA P).isNs mainGlobals&&(xl ([]:List GenState)).size==0,(gA P).objs.size,(gA P).nsMap mainGlobals "__annotations__")=(true,QB,ann))
 (run:∀(w:World) (os:OsState),(topRun treeTable p w QB ann N ⟨gA w.params,xl [],DE,Im,os⟩ (topStub p)).map (fun s=>
  (staticsOk (importedModules p.main.body) (gA w.params) s.heap&&namesBound p s.heap&&gensDone s&&laidKept (gA w.params) s.heap,openSeen q loose (importedModules p.main.body) Xt g0 s,Yf s))=some (true,openGood q loose,Ya w)):
 LeftO p q loose Xt Yf Ya N g0:=fun w=>by
 obtain⟨⟨h,gs,d,k,os⟩,e1,e2⟩:=je.mp (boot_open e hN f w);obtain⟨rfl,rfl,rfl,rfl⟩:h=gA w.params∧gs=xl []∧d=DE∧k=Im:=by simpa using e2
 obtain⟨z1,z2,z3⟩:_∧_∧_:=by simpa only[jB]using size w.params
 obtain⟨az,r,x⟩:=je.mp (run w os);obtain⟨l1,l2,l3⟩:_∧_∧_:=by simpa only[jB]using x
 have t:topFrom treeTable p w N ⟨gA w.params,xl [],DE,Im,os⟩=some az:=by
  unfold topFrom;dsimp only;rw[z1,z2,z3,r];show(match staticsOk (importedModules p.main.body) (gA w.params) az.heap&&namesBound p az.heap&&gensDone az&&laidKept (gA w.params) az.heap with|true=>_|false=>_)=_;rw[l1]
 unfold openEnds;rw[e1];show(topFrom treeTable p w N _).map _=_;rw[t];exact congrArg some (Prod.ext l2 l3)
noncomputable def hq:Program:={pw with main:={pw.main with body:=pw.main.body.drop 81}}
noncomputable def loose:List Str:=(pw.main.scope.names.map (·.1)).filter (fun x=>x !=ofString "law")
noncomputable def Ea (s:Shared):Bool:=xlAt hq [] s&&recOk (RowW.records PySem.Challenge.rw_uc0055_01.row.toRowW) s
noncomputable abbrev B4 (w:World):Prop:=∀(os:OsState),(topRun treeTable pw w 11 (some (.ref 6)) 3000 ⟨gA w.params,xl [],DE,Im,os⟩ (topStub pw)).map (fun s=>
 (staticsOk (importedModules pw.main.body) (gA w.params) s.heap&&namesBound pw s.heap&&gensDone s&&laidKept (gA w.params) s.heap,openSeen hq loose (importedModules pw.main.body) Ea true s,JM s))=some (true,openGood hq loose,JL w)
set_option maxHeartbeats 0 in
theorem P8 (w:World):B4 (w.withFollow "special-get-raises" false):=fun os=>by
 rw[nO,oy];kernel_rfl
set_option maxHeartbeats 0 in
theorem P7 (w:World):B4 (w.withFollow "special-get-raises" true):=fun os=>by
 rw[nO,oy];kernel_rfl
theorem NM:LeftO pw hq loose Ea JM JL 3000:=
 JH (by kernel_rfl) (by decide) (fun s=>by kernel_rfl) (fun P=>by kernel_rfl) (byRow2 "special-get-raises" P8 P7)
theorem NL:PySem.Challenge.rw_uc0055_01.wellSaid=true:=by
 rw[PySem.W.Fast.te9446332074065402090];kernel_rfl
theorem NK (call:WalkO hq loose (XL hq []) zG PySem.Challenge.rw_uc0055_01.row.toRowW ((defOf hq (ofString "law")).get (by kernel_rfl)).1 ((defOf hq (ofString "law")).get (by kernel_rfl)).2 fun f vs=>PySem.call f vs):PySem.Challenge.rw_uc0055_01.Holds:=
 holds_law NL fun said=>PySem.W.holds_open (q:=hq) (loose:=loose) (Xt:=Ea) (XP:=XL hq []) (Yf:=JM) (Ya:=JL) (YP:=zG) (N:=3000) NM F3 yt
  (fun s e=>xl_of s (dX.mp e).1) XL.keeps (by kernel_rfl) (by kernel_rfl) (by kernel_rfl) (fun s e=>recFacts_of (dX.mp e).2) (by kernel_rfl) said (by kernel_rfl) ⟨rfl,rfl,rfl,rfl,rfl,by decide+kernel⟩ ⟨[.list []],by decide+kernel,by decide+kernel⟩ call
theorem rH {h:Heap} {a b:Addr} {o:Obj} (n:h.get? a=none) (e:h.get? b=some o):b≠a:=fun q=>by rw[q,n]at e;cases e
set_option genCtorIdx true in
inductive D where
 |none
 |bool (b:Bool)
 |int (i:Int)
 |str (s:Str)
 |list (l:List D)
 |tup (l:List D)
 |obj (l:List D)
 |objAt (x d:Addr) (l:List D)
 |dic
 deriving Inhabited
noncomputable def WsAt (h:Heap) (a d:Addr) (vs:List Value):Prop:=
 h.get? a=some (instObj g7 d)∧∃es n,h.get? d=some (ir es n)∧es.map (fun e=>e.val)=vs∧es.map (fun e=>e.key)=vs.mapIdx (fun i _=>KP (fieldNames.getD i bC) ((es.map fun e=>match e.key with|.str _ t=>t|_=>0).getD i 0))
theorem WsAt.at {h h':Heap} {a d:Addr} {vs:List Value} (x:WsAt h a d vs) (ha:∀o,h.get? a=some o→h'.get? a=some o) (hd:∀o,h.get? d=some o→h'.get? d=some o):WsAt h' a d vs:=
 let⟨h1,es,n,h2,r⟩:=x;⟨ha _ h1,es,n,hd _ h2,r⟩
mutual
noncomputable def Rep (P:Addr→Prop) (h:Heap):D→Value→Prop
 |.none,v=>v=.none
 |.bool b,v=>v=.bool b
 |.int i,v=>∃t,v=.int i t
 |.str s,v=>∃t,v=.str s t
 |.list l,v=>∃a vs,v=.ref a∧P a∧h.PlainList a vs∧Reps P h l vs.toList
 |.tup l,v=>∃a vs,v=.ref a∧P a∧h.IsTuple a vs∧Reps P h l vs.toList
 |.obj l,v=>∃a d vs,v=.ref a∧P a∧P d∧WsAt h a d vs∧Reps P h l vs
 |.objAt x d l,v=>∃vs,v=.ref x∧P x∧P d∧WsAt h x d vs∧Reps P h l vs
 |.dic,v=>v=.ref yQ
noncomputable def Reps (P:Addr→Prop) (h:Heap):List D→List Value→Prop
 |[],vs=>vs=[]
 |d::ds,vs=>∃v r,vs=v::r∧Rep P h d v∧Reps P h ds r
end
mutual
theorem Rep.mono {P Q:Addr→Prop} {h h':Heap} (k:∀a o,P a→h.get? a=some o→h'.get? a=some o∧Q a):∀{d:D} {v:Value},Rep P h d v→Rep Q h' d v
 |.none,_,r=>r
 |.bool _,_,r=>r
 |.int _,_,r=>r
 |.str _,_,r=>r
 |.list l,v,r=>by
  (refine Ue r fun a vs q0 ha hl hr=>?_;subst q0);obtain⟨n,e⟩:=id hl;exact⟨a,vs,rfl,(k _ _ ha e).2,hl.at fun o e=>(k _ _ ha e).1,Reps.mono k hr⟩
 |.tup l,v,r=>by
  (refine Ue r fun a vs q0 ha q1 hr=>?_;subst q0;refine Uw q1 fun o e hc n hd=>?_);exact⟨a,vs,rfl,(k _ _ ha e).2,⟨o,(k _ _ ha e).1,hc,n,hd⟩,Reps.mono k hr⟩
 |.obj l,v,r=>by
  obtain⟨a,d,vs,rfl,ha,hd,hw,hr⟩:=r;have h1:=hw.1;refine UD (id hw) fun _ es n h2 _=>?_;exact⟨a,d,vs,rfl,(k _ _ ha h1).2,(k _ _ hd h2).2,hw.at (fun o e=>(k _ _ ha e).1) (fun o e=>(k _ _ hd e).1),Reps.mono k hr⟩
 |.objAt a d l,v,r=>by
  (refine Ut r fun vs q0 ha hd hw hr=>?_;subst q0);have h1:=hw.1;refine UD (id hw) fun _ es n h2 _=>?_;exact⟨vs,rfl,(k _ _ ha h1).2,(k _ _ hd h2).2,hw.at (fun o e=>(k _ _ ha e).1) (fun o e=>(k _ _ hd e).1),Reps.mono k hr⟩
 |.dic,_,r=>r
theorem Reps.mono {P Q:Addr→Prop} {h h':Heap} (k:∀a o,P a→h.get? a=some o→h'.get? a=some o∧Q a):∀{ds:List D} {vs:List Value},Reps P h ds vs→Reps Q h' ds vs
 |[],_,r=>r
 |d::ds,vs,r=>by
  (refine Uc r fun v q q0 hv hq=>?_;subst q0);exact⟨v,q,rfl,Rep.mono k hv,Reps.mono k hq⟩
end
theorem Reps.length {P:Addr→Prop} {h:Heap}:∀{ds:List D} {vs:List Value},Reps P h ds vs→vs.length=ds.length
 |[],_=>fun r=>by rw[show _=[]from r];rfl
 |d::ds,vs=>fun r=>by(refine Uc r fun v q q0 hv hq=>?_;subst q0);simp[Reps.length hq]
theorem Reps.get {P:Addr→Prop} {h:Heap}:∀{ds:List D} {vs:List Value} {i:Nat} {d:D},Reps P h ds vs→ds[i]?=some d→∃v,vs[i]?=some v∧Rep P h d v
 |[],_,i,d=>fun r e=>by simp at e
 |x::ds,vs,i,d=>fun r e=>by
  (refine Uc r fun v q q0 hv hq=>?_;subst q0);cases i with
  |zero=>simp at e;subst e;exact⟨v,rfl,hv⟩
  |succ i=>simp at e;refine Ua (Reps.get hq e) fun u hu hr=>?_;exact⟨u,by simpa using hu,hr⟩
theorem IY {P:Addr→Prop} {h:Heap} {i:Int} {vs:List Value} (r:Reps P h [.int i] vs):∃t,vs=[.int i t]:=by
 (refine Uc r fun v w q0 q1 hw=>?_;subst q0;refine Un q1 fun t q2=>?_;subst q2);rw[show w=[]from hw];exact⟨t,rfl⟩
theorem pN {P:Addr→Prop} {h:Heap} {i j:Int} {vs:List Value} (r:Reps P h [.int i,.int j] vs):∃t u,vs=[.int i t,.int j u]:=by
 (refine Uc r fun v w q0 q1 hw=>?_;subst q0;refine Un q1 fun t q2=>?_;subst q2);obtain⟨u,rfl⟩:=IY hw;exact⟨t,u,rfl⟩
theorem v5 {P:Addr→Prop} {h:Heap} {i j k:Int} {vs:List Value} (r:Reps P h [.int i,.int j,.int k] vs):∃t u x,vs=[.int i t,.int j u,.int k x]:=by
 (refine Uc r fun v w q0 q1 hw=>?_;subst q0;refine Un q1 fun t q2=>?_;subst q2);(refine Us (pN hw) fun u x q0=>?_;subst q0);exact⟨t,u,x,rfl⟩
theorem Reps.append {P:Addr→Prop} {h:Heap}:∀{ds es:List D} {vs us:List Value},Reps P h ds vs→Reps P h es us→Reps P h (ds++es) (vs++us)
 |[],es,vs,us=>fun r q=>by rw[show vs=[]from r];exact q
 |d::ds,es,vs,us=>fun r q=>by(refine Uc r fun v w q0 hv hw=>?_;subst q0);exact⟨v,w++us,rfl,hv,Reps.append hw q⟩
theorem Reps.cons {P:Addr→Prop} {h:Heap} {d:D} {ds:List D} {v:Value} {vs:List Value} (a:Rep P h d v) (b:Reps P h ds vs):Reps P h (d::ds) (v::vs):=⟨v,vs,rfl,a,b⟩
theorem Reps.nil {P:Addr→Prop} {h:Heap}:Reps P h [] []:=rfl
theorem Reps.take {P:Addr→Prop} {h:Heap}:∀(n:Nat) {ds:List D} {vs:List Value},Reps P h ds vs→Reps P h (ds.take n) (vs.take n)
 |0,_,_=>fun _=>rfl
 |n+1,[],vs=>fun r=>by rw[show vs=[]from r];rfl
 |n+1,d::ds,vs=>fun r=>by(refine Uc r fun v q q0 hv hq=>?_;subst q0);exact⟨v,q.take n,rfl,hv,Reps.take n hq⟩
theorem Reps.drop {P:Addr→Prop} {h:Heap}:∀(n:Nat) {ds:List D} {vs:List Value},Reps P h ds vs→Reps P h (ds.drop n) (vs.drop n)
 |0,_,_=>fun r=>r
 |n+1,[],vs=>fun r=>by rw[show vs=[]from r];rfl
 |n+1,d::ds,vs=>fun r=>by(refine Uc r fun v q q0 hv hq=>?_;subst q0);exact Reps.drop n hq
theorem Reps.reverse {P:Addr→Prop} {h:Heap}:∀{ds:List D} {vs:List Value},Reps P h ds vs→Reps P h ds.reverse vs.reverse
 |[],vs=>fun r=>by rw[show vs=[]from r];rfl
 |d::ds,vs=>fun r=>by
  (refine Uc r fun v q q0 hv hq=>?_;subst q0);rw[KZ,KZ];exact Reps.append (Reps.reverse hq) ⟨v,[],rfl,hv,rfl⟩
structure Keep (h h':Heap):Prop where
 get:∀a o,a≠65→a≠72→h.get? a=some o→h'.get? a=some o
theorem Keep.refl {h:Heap}:Keep h h:=⟨fun _ _ _ _ e=>e⟩
theorem Keep.trans {h h' h'':Heap} (x:Keep h h') (y:Keep h' h''):Keep h h'':=⟨fun a o p q e=>y.get a o p q (x.get a o p q e)⟩
theorem Keep.push {h:Heap} (o:Obj):Keep h (h.push o):=⟨fun _ _ _ _ e=>ak _ e⟩
theorem Keep.of {h h':Heap} (k:∀b o,h.get? b=some o→h'.get? b=some o):Keep h h':=⟨fun a o _ _ e=>k a o e⟩
noncomputable def TabAt (h:Heap) (p:Addr) (pos:Pos) (q:Str):Prop:=
 ∃ps,h.get? p=some (tabObj ps)∧(ps=#[]∨∃c,ps=#[rawInt pos.line,rawInt pos.col,.ref c]∧c≠65∧c≠72∧h.CodeRec (.ref c) q)
noncomputable def lc:Stmt:=(aG (a7 10)).getD 1 (.Pass ⟨0,0,0,0⟩)
noncomputable def mf:Stmt:=(aG (a7 11)).getD 0 (.Pass ⟨0,0,0,0⟩)
noncomputable def qA:Str:=ofString "_int2digits.<locals>.inner"
noncomputable def qB:Str:=ofString "_digits2int.<locals>.inner"
set_option genInjectivity false in
structure aU where
 w:World
 G:Heap
 mg:Str→Option Value
 mb:Str→Option Value
 os:OsState
 gens:Array GenState
 K:Frag
 F:KF w.params K
 X:K.In G
 g:G.Ns mainGlobals mg
 b:G.Ns builtinsNs mb
 builtins:∀x:Str,x≠"__name__"→mb x=bootBuiltins x
 nolimit:G.NoLimit
 no65:G.get? 65=none
 no72:G.get? 72=none
 bA:G.BuiltinsAt mg 65
 bB:G.BuiltinsAt mg 72
 cA:CodeHd G 69 65
 cB:CodeHd G 76 72
 size:73≤G.objs.size
noncomputable abbrev MD (C:aU):Model:=model PySem.Challenge.pw_uc0055_01 C.w
noncomputable abbrev bL:Value→Shared→Prop:=fun _ _=>False
structure St (C:aU) (s:Shared):Prop where
 g:∀b o,C.G.get? b=some o→s.heap.get? b=some o
 tA:TabAt s.heap 65 (oN lc) qA
 tB:TabAt s.heap 72 (oN mf) qB
 gens:AllBare s.gens
 gk:∀(g:Nat) x,C.gens[g]?=some x→s.gens[g]?=some x
 os:s.os=C.os
theorem TabAt.at {h h':Heap} {p:Addr} {pos:Pos} {q:Str} (x:TabAt h p pos q) (k:∀b o,h.get? b=some o→h'.get? b=some o):TabAt h' p pos q:=by
 refine Ua x fun ps e r=>?_;refine⟨ps,k _ _ e,r.imp id ?_⟩;rintro⟨c,e1,e2,e3,e4⟩;exact⟨c,e1,e2,e3,e4.keeps k⟩
theorem St.toks {C:aU} {s:Shared} (x:St C s) (t:Nat):St C {s with toks:=t}:=⟨x.g,x.tA,x.tB,x.gens,x.gk,x.os⟩
theorem St.grow {C:aU} {s:Shared} {h':Heap} {t:Nat} (x:St C s) (k:∀b o,s.heap.get? b=some o→h'.get? b=some o):St C {s with heap:=h',toks:=t}:=
 ⟨fun b o e=>k _ _ (x.g b o e),x.tA.at k,x.tB.at k,x.gens,x.gk,x.os⟩
theorem St.lt {C:aU} {s:Shared} (x:St C s):73≤s.heap.objs.size:=by
 refine Ua x.tB fun ps e1 _=>?_;exact aQ e1
structure RA (A:Around) (n:Nat):Prop where
 hd:A.handled=none
 depth:A.depth+n≤900
 units:A.units+20*n≤9000
theorem RA.in1 {A:Around} {n:Nat} (x:RA A (n+1)):RA A.in1 n:=⟨x.hd,by have:=x.depth;show A.depth+n≤900;(exact a5 this),by have:=x.units;show A.units+1+20*n≤9000;exact(dA 0x7288ca06e7c4740b9e10b8544650373e2f085c3a05c2:) this⟩
theorem RA.deeper {A:Around} {n:Nat} {env:Env} (x:RA A (n+1)):RA (A.deeper env) n:=⟨x.hd,by have:=x.depth;show A.depth+1+n≤900;exact(dA 0x1ca708273c6f085c2a708273de10b862:) this,by have:=x.units;show A.units+3+20*n≤9000;exact(dA 0x7288ca06e7c4740b9e30b8544650373e2f085c3a05c2:) this⟩
theorem RA.le {A:Around} {n m:Nat} (x:RA A n) (h:m≤n):RA A m:=⟨x.hd,by have:=x.depth;exact(iq 0x1ce5384139e225384139e325062:) h this,by have:=x.units;exact(iq 0x73944650373e22a05c4a23281b9f11d02e25062:) h this⟩
theorem RA.room {A:Around} {n:Nat} (x:RA A n):A.depth<recursionLimit:=by have:=x.depth;show A.depth<1000;exact(dA 0x72df409c2a708273c62:) this
set_option genCtorIdx true in
inductive Ent where
 |dat (d:D)
 |own (l:List D)
 deriving Inhabited
noncomputable abbrev MM:=List (Str×Ent)
noncomputable def MM.set (M:MM) (x:Str) (e:Ent):MM:=match M with
 |[]=>[(x,e)]
 |p::r=>if p.1==x then(x,e)::r else p::MM.set r x e
noncomputable def Live (P:Addr→Prop) (h:Heap):Prop:=∀a,¬P a→a=65∨a=72∨∃o,h.get? a=some o
theorem Live.keep {P:Addr→Prop} {h h':Heap} (x:Live P h) (k:Keep h h'):Live P h':=fun a n=>by
 by_cases h1:a=65
 ·exact .inl h1
 by_cases h2:a=72
 ·exact .inr (.inl h2)
 rcases x a n with e|e|⟨o,e⟩
 ·exact absurd e h1
 ·exact absurd e h2
 ·exact .inr (.inr ⟨o,k.get a o h1 h2 e⟩)
theorem Live.fresh {C:aU} {P:Addr→Prop} {s:Shared} (F:Live P s.heap) (S:St C s):∀a,s.heap.objs.size≤a→P a:=fun a q=>by
 refine a8 fun n=>?_;have:=S.lt;rcases F a n with e|e|⟨o,e⟩
 ·have e':a=(65:Nat):=e
  exact(dA 0x739cfe041138741092275062:) q this e
 ·have e':a=(72:Nat):=e
  exact(dA 0x739cfe048138741092275062:) q this e
 ·have:=aQ e
  exact absurd q (zE.mpr this)
noncomputable def Pm (ah:Addr→Prop) (μ:List Addr) (a:Addr):Prop:=ah a∧a∉μ
noncomputable def Sd (ah:Addr→Prop) (μ:List Addr) (h:Heap):Ent→Value→Prop
 |.dat d,v=>Rep (Pm ah μ) h d v
 |.own l,v=>∃a vs,v=.ref a∧ah a∧a∈μ∧h.PlainList a vs∧Reps (Pm ah μ) h l vs.toList
structure FI (ah:Addr→Prop) (μ:List Addr) (h:Heap) (env:Env) (m:Str→Option Value) (M:MM):Prop where
 live:Live ah h
 liveμ:∀a∈μ,a≠65∧a≠72∧∃o,h.get? a=some o
 tab:¬ah 65∧¬ah 72
 kind:env.scope.kind=.function
 glob:env.globals=mainGlobals
 bi:env.builtins=builtinsNs
 ns:h.Ns env.locals m
 nL:env.locals∈μ
 loc:∀x e,M.lookup x=some e→env.kindOf x=some .local→∃v,m x=some v∧Sd ah μ h e v
 cell:∀x,env.kindOf x=some .cell∨env.kindOf x=some .free→∃c v,env.cells.lookup x=some c∧c≠65∧c≠72∧h.IsCell c v
 st:∀x c,env.func.isSome=true→env.kindOf x=some .cell→env.cells.lookup x=some c→c∈μ
 inj:∀x y c,env.cells.lookup x=some c→env.cells.lookup y=some c→x=y
 cval:∀x e,M.lookup x=some e→env.kindOf x=some .cell∨env.kindOf x=some .free→∃c v d,env.cells.lookup x=some c∧h.IsCell c (some v)∧e=.dat d∧Rep (Pm ah μ) h d v
 ownInj:∀x y l l' v,M.lookup x=some (.own l)→M.lookup y=some (.own l')→m x=some v→m y=some v→env.kindOf x=some .local→env.kindOf y=some .local→x=y
section
variable {ah:Addr→Prop} {μ:List Addr} {h h':Heap} {env:Env} {m:Str→Option Value} {M:MM}
theorem FI.tabm (F:FI ah μ h env m M):¬Pm ah μ 65∧¬Pm ah μ 72:=⟨fun x=>F.tab.1 x.1,fun x=>F.tab.2 x.1⟩
theorem FI.livem (F:FI ah μ h env m M):Live (Pm ah μ) h:=fun a n=>by
 by_cases h1:ah a
 ·by_cases h2:a∈μ
  ·exact .inr (.inr (F.liveμ a h2).2.2)
  ·exact absurd ⟨h1,h2⟩ n
 ·exact F.live a h1
theorem tr {P:Addr→Prop} (t:¬P 65∧¬P 72) (k:Keep h h'):∀a o,P a→h.get? a=some o→h'.get? a=some o∧P a:=
 fun a o p e=>⟨k.get a o (fun q=>t.1 (q▸p)) (fun q=>t.2 (q▸p)) e,p⟩
theorem FI.keep (F:FI ah μ h env m M) (k:Keep h h'):FI ah μ h' env m M:=by
 have kp:=tr F.tabm k;have nL:=F.liveμ _ F.nL;refine⟨F.live.keep k,fun a q=>?_,F.tab,F.kind,F.glob,F.bi,?_,F.nL,fun x e q r=>?_,fun x r=>?_,F.st,F.inj,fun x e q r=>?_,F.ownInj⟩
 ·refine Uh (F.liveμ a q) fun n1 n2 o e=>?_;exact⟨n1,n2,o,k.get a o n1 n2 e⟩
 ·refine Uk F.ns fun o es ep e z=>?_;exact⟨o,es,ep,k.get _ _ nL.1 nL.2.1 e,z⟩
 ·refine Ua (F.loc x e q r) fun v e1 e2=>?_
  refine⟨v,e1,?_⟩;cases e with
  |dat d=>exact Rep.mono kp e2
  |own l=>
   (refine Ug e2 fun a vs q0 p0 ha hl hr=>?_;subst q0);refine Ud (F.liveμ a ha) fun n1 n2 _=>?_;exact⟨a,vs,rfl,p0,ha,hl.at fun o e=>k.get _ _ n1 n2 e,Reps.mono kp hr⟩
 ·refine Up (F.cell x r) fun c v e1 n1 n2 o e2 e3=>?_;exact⟨c,v,e1,n1,n2,o,k.get _ _ n1 n2 e2,e3⟩
 ·refine Ui (F.cval x e q r) fun c v d e1 e2 e3 e4=>?_
  refine Ue (F.cell x r) fun c' v' f1 n1 n2 _=>?_;rw[e1]at f1;cases f1;refine Ua e2 fun o g1 g2=>?_;exact⟨c,v,d,e1,⟨o,k.get _ _ n1 n2 g1,g2⟩,e3,Rep.mono kp e4⟩
end
noncomputable def eU (P:Addr→Prop) (h:Heap):D→Value→Prop
 |.list l,v=>∃a vs,v=.ref a∧a≠65∧a≠72∧h.PlainList a vs∧Reps P h l vs.toList
 |d,v=>Rep P h d v
theorem Rep.toR {P:Addr→Prop} {h:Heap} (t:¬P 65∧¬P 72) {d:D} {v:Value} (r:Rep P h d v):eU P h d v:=by
 cases d<;>first|exact r|(refine Uc r fun a vs e p r=>?_;exact⟨a,vs,e,fun q=>t.1 (q▸p),fun q=>t.2 (q▸p),r⟩)
theorem up {P:Addr→Prop} {h h':Heap} (t:¬P 65∧¬P 72) (k:Keep h h') {d:D} {v:Value} (r:Rep P h d v):Rep P h' d v:=Rep.mono (tr t k) r
theorem Sr {P:Addr→Prop} {h h':Heap} (t:¬P 65∧¬P 72) (k:Keep h h') {d:List D} {v:List Value} (r:Reps P h d v):Reps P h' d v:=Reps.mono (tr t k) r
theorem Ei {P:Addr→Prop} {h h':Heap} (t:¬P 65∧¬P 72) (k:Keep h h') {d:D} {v:Value} (r:eU P h d v):eU P h' d v:=by
 cases d<;>first|exact up t k r|(refine Ug r fun a vs e n1 n2 hl hr=>?_;exact⟨a,vs,e,n1,n2,hl.at fun o e=>k.get _ _ n1 n2 e,Sr t k hr⟩)
noncomputable def Post (C:aU) (s:Shared) (P:Addr→Prop) (d:D):Value→Shared→Prop:=fun v s'=>St C s'∧Keep s.heap s'.heap∧Rep P s'.heap d v
noncomputable def PostR (C:aU) (s:Shared) (P:Addr→Prop) (d:D):Value→Shared→Prop:=fun v s'=>St C s'∧Keep s.heap s'.heap∧eU P s'.heap d v
noncomputable def TU:Nat:=2^8000
noncomputable abbrev sm (a:Int):Prop:=a.natAbs<TU
noncomputable def j7 (x:Str) (n:Int):Str:=⟨(aA n.toNat x.cps).foldl (·++·) #[]⟩
section
variable {C:aU} {A:Around} {s:Shared} {P:Addr→Prop} {n:Nat}
theorem cO {d:D} {v:Value} {t:Nat} (S:St C s) (r:Rep P s.heap d v):Post C s P d v {s with toks:=t}:=⟨S.toks t,Keep.refl,r⟩
theorem ei {d:D} {v:Value} (S:St C s) (r:Rep P s.heap d v):Post C s P d v s:=⟨S,Keep.refl,r⟩
theorem gO {d:D} {v:Value} {h':Heap} {t:Nat} (S:St C s) (k:∀b o,s.heap.get? b=some o→h'.get? b=some o) (r:Rep P h' d v):Post C s P d v {s with heap:=h',toks:=t}:=
 ⟨S.grow k,.of k,r⟩
theorem pO {h:Heap} {l:List D} {vs:Array Value} (f:∀a,h.objs.size≤a→P a) (r:Reps P h l vs.toList):Rep P (h.push {cls:=.type "list",data:=.seq vs}) (.list l) (.ref h.objs.size):=
 ⟨_,vs,rfl,f _ (ba _),⟨0,aX _ rfl⟩,Reps.mono (fun a o p e=>⟨ak _ e,p⟩) r⟩
theorem sY {h:Heap} {l:List D} {vs:Array Value} (f:∀a,h.objs.size≤a→P a) (r:Reps P h l vs.toList):Rep P (h.push {cls:=.type "tuple",data:=.seq vs}) (.tup l) (.ref h.objs.size):=
 ⟨_,vs,rfl,f _ (ba _),⟨_,aX _ rfl,rfl,0,rfl⟩,Reps.mono (fun a o p e=>⟨ak _ e,p⟩) r⟩
theorem o5 {a:Int} (h:sm a):dm a≤8000:=Vd.mpr h
theorem vc {a:Int} (h:sm a):a.natAbs.log2<9000:=by
 by_cases h0:a.natAbs=0
 ·rw[h0];decide
 ·have:=(Nat.log2_lt h0).mpr (show a.natAbs<2^8000 from h);(exact aP this (by decide))
theorem Nj {a b:Int} (h:sm a) (h':sm b):IntMulOk a b:=by
 have h1:=o5 h;have h2:=o5 h';unfold IntMulOk Builtin.Int.intTooBig;have:¬((dm a:Int)+(dm b:Int)>(bitsLine:Int)):=by
  have:(bitsLine:Int)=134217728:=by decide
  omega
 simp only[decide_eq_false this,PQ,lF,not_false_eq_true]
theorem yp {l r:List D} {v1 v2:Value} (S:St C s) (f:∀a,s.heap.objs.size≤a→P a) (h:l.length+r.length≤1000000)
 (r1:eU P s.heap (.list l) v1) (r2:eU P s.heap (.list r) v2):wpAny (MD C) A (binaryOp .Add v1 v2) (Post C s P (.list (l++r))) bL s:=by
 (refine Ug r1 fun a vs q0 _ _ q1 hr=>?_;subst q0;refine Un q1 fun na ha=>?_);(refine Ug r2 fun b ws q0 _ _ q1 hq=>?_;subst q0;refine Un q1 fun nb hb=>?_);have l1:=hr.length;have l2:=hq.length;refine concat_meets ⟨_,ha,rfl⟩ ⟨_,hb,rfl⟩ T8 seq_list_add zP zD (xo _ _)
  (list_addW a b vs ws na nb none none #[] #[] (by rw[←aK,←aK,l1,l2];show _≤2^24;(exact ae h (by decide)))) ⟨ha,hb,?_⟩;refine gO S (fun _ _ e=>ak _ e) (pO f ?_);rw[D5];exact hr.append hq
theorem jp {α:Type}:∀(n:Nat) (xs acc:Array α),((aA n xs).foldl (fun x1 x2=>x1++x2) acc).toList=acc.toList++(aA n xs.toList).flatten
 |0=>@fun xs acc=>by simp
 |n+1=>@fun xs acc=>by rw[eP,gG,jp n];simp[eP]
theorem xV {h:Heap} {l:List D} {vs:List Value} (r:Reps P h l vs):∀n:Nat,Reps P h (aA n l).flatten (aA n vs).flatten
 |0=>rfl
 |n+1=>by rw[eP,eP,sI,sI];exact r.append (xV r n)
theorem yo {l:List D} {k:Int} {v1 v2:Value} (S:St C s) (f:∀a,s.heap.objs.size≤a→P a) (h:l.length≤1∧0≤k∧k≤1000000)
 (r1:eU P s.heap (.list l) v1) (r2:eU P s.heap (.int k) v2):wpAny (MD C) A (binaryOp .Mult v1 v2) (Post C s P (.list (aA k.toNat l).flatten)) bL s:=by
 (refine Ug r1 fun a vs q0 _ _ q1 hr=>?_;subst q0;refine Un q1 fun na ha=>?_);obtain⟨t,rfl⟩:=r2;have l1:=hr.length;rw[aK]at l1;have hm:vs.size*k.toNat≤1000000:=by
  have h1:vs.size≤1:=by(rw[l1];exact h.1)
  have h2:k.toNat≤1000000:=by(exact Mine.tn_le h.2 (by decide))
  exact ae (Sh h1 h2) (by(exact ba _))
 refine wpAny_binaryOp_repeat_ref (T:="list") (U:="int") (by decide) ⟨_,ha,rfl⟩ (fun s'=>PY s' k t) noFill_list_mul F.fills_int_mul SJ repeat_list F.slot_int_index.lookup
  (DB SJ (PY s k t) F.entry_int_rmul (F.args_int_rmul_2 _ _) (int___rmul___int_list k t a vs na)
   ⟨ha,rfl,⟨_,ha,rfl⟩,DB F.slot_list_mul ⟨_,ha,rfl⟩ F.entry_list_mul (F.args_list_mul_2 _ _)
    (AutoListH.list___mul___list_int_3 a vs na k t (by simp[Builtin.List.listFitsIndex];exact(zh 0xe6ae80000000000000006b91544d0000000000000000d76b55f424023915401d4085c2:) h) (by lia) (by simp[Builtin.List.listTooLong,sizeLine];(exact ae hm (by decide))))
    ⟨ha,?_⟩⟩);refine gO S (fun _ _ e=>ak _ e) (pO f ?_);rw[jp];show Reps P s.heap _ ([]++_);rw[bX];by_cases hv:vs.isEmpty=true
 ·rw[if_pos hv]
  have hl:l=[]:=by
   have:vs.size=0:=by simpa using hv
   exact gw (by(exact Eq.trans (Py l1) this))
  subst hl;have:(aA k.toNat ([]:List D)).flatten=[]:=by simp
  rw[this];rfl
 ·rw[if_neg hv];exact xV hr _
theorem z9 {x y:Str} {v1 v2:Value} (S:St C s) (h:x.length+y.length≤1000000)
 (r1:eU P s.heap (.str x) v1) (r2:eU P s.heap (.str y) v2):wpAny (MD C) A (binaryOp .Add v1 v2) (Post C s P (.str (x++y))) bL s:=by
 obtain⟨t,rfl⟩:=r1;obtain⟨u,rfl⟩:=r2;exact PyProof.Rows.add_str (fun t' tk=>cO S ⟨_,rfl⟩) (by show _≤2^24;(exact ae h (by decide)))
theorem oM (x:Str) (k:Int):(j7 x k).length=k.toNat*x.length:=by
 show(j7 x k).cps.size=_;rw[←aK];show((aA k.toNat x.cps).foldl (fun a b=>a++b) #[]).toList.length=_;rw[jp];show([]++_:List Nat).length=_;rw[bX,List.length_flatten,lB,aK];simp[jO]
theorem xJ {x:Str} {k:Int} (h:k<1):j7 x k=bC:=by
 unfold j7;have:k.toNat=0:=by exact(iG 0x730070ae10b901001c8:) h
 rw[this];rfl
theorem xI {x:Str} {k:Int} (h:¬k<1) (h':(k==1||x.length==0)=true):j7 x k=x:=by
 obtain⟨xs⟩:=x;show Str.mk _=Str.mk _;congr 1;apply nQ;rw[jp];show[]++_=_;rw[bX];rcases cU.mp h' with e|e
 ·have:k=1:=by simpa using e
  subst this;simp
 ·have:xs=#[]:=Array.eq_empty_of_size_eq_zero (by simpa[jO]using e)
  subst this;simp
theorem z8 {x:Str} {k:Int} {v1 v2:Value} (S:St C s) (h:x.length≤1∧0≤k∧k≤1000000)
 (r1:eU P s.heap (.str x) v1) (r2:eU P s.heap (.int k) v2):wpAny (MD C) A (binaryOp .Mult v1 v2) (Post C s P (.str (j7 x k))) bL s:=by
 obtain⟨t,rfl⟩:=r1;obtain⟨u,rfl⟩:=r2;have hm:x.length*k.toNat≤1000000:=ae (Sh h.1 (show k.toNat≤1000000 by(exact Mine.tn_le h.2 (by decide)))) (by exact(Vj 0x14f424023a3e848047042e:));refine PySem.P.mul_str ?_ ?_ ?_ ?_
 ·rw[decide_eq_false (by lia),decide_eq_false (by lia)];rfl
 ·intro h1 _ h3
  have:(2^63-1:Int)/k≥1:=by
   apply Int.le_ediv_of_mul_le (by(exact gC.mp h1));lia
  exact(Io 0xe739faa42175e424eb55f424023915401d4085c2:) h h3 this
 ·intro _ _
  show decide _=false;exact decide_eq_false (by show¬_>2^24;omega)
 ·by_cases h1:k<1
  ·rw[if_pos h1,←xJ (x:=x) h1]
   exact⟨by rw[oM];show _≤2^24;rw[eW];lia,cO S ⟨_,rfl⟩⟩
  ·rw[if_neg h1]
   by_cases h2:(k==1||x.length==0)=true
   ·rw[if_pos h2]
    show Post C s P _ _ s;rw[xI h1 h2];exact ei S ⟨_,rfl⟩
   ·rw[if_neg h2]
    exact⟨by show(j7 x k).length≤2^24;rw[oM,eW];(exact ae hm (by decide)),cO S ⟨_,rfl⟩⟩
theorem eV {α:Type} {c:Prop} [Decidable c] {a b:α} (h:(if c then some a else none)=some b):c∧a=b:=by
 by_cases q:c
 ·rw[if_pos q]at h;exact⟨q,dB h⟩
 ·rw[if_neg q]at h;cases h
theorem dw {α:Type} {c:Prop} [Decidable c] {a:Option α} {b:α} (h:(if c then a else none)=some b):c∧a=some b:=by
 by_cases q:c
 ·rw[if_pos q]at h;exact⟨q,h⟩
 ·rw[if_neg q]at h;cases h
end
noncomputable abbrev OB (op:Operator) (a b:D) (r:Option D):Prop:=∀{C:aU} {A:Around} {s:Shared} {P:Addr→Prop} {d:D} {v1 v2:Value},St C s→(∀a,s.heap.objs.size≤a→P a)→r=some d→eU P s.heap a v1→eU P s.heap b v2→
 wpAny (MD C) A (binaryOp op v1 v2) (Post C s P d) bL s
theorem oP {op:Operator} {a b d:D} {c:Prop} [Decidable c] (h:c→OB op a b (some d)):OB op a b (if c then some d else none):=fun S f e r1 r2=>by
 obtain⟨q,rfl⟩:=eV e;exact h q S f rfl r1 r2
theorem kZ {op:Operator} {a b c:Int} (h:∀{C:aU} {A:Around} {s:Shared} {Q:Value→Shared→Prop} (t u:Tok),(∀t n,Q (.int c t) {s with toks:=n})→wpAny (MD C) A (binaryOp op (.int a t) (.int b u)) Q bL s):OB op (.int a) (.int b) (some (.int c)):=fun S f e r1 r2=>by
 cases e;obtain⟨t,rfl⟩:=r1;obtain⟨u,rfl⟩:=r2;exact h t u fun _ _=>cO S ⟨_,rfl⟩
noncomputable def RX:(op:Operator)→(a b:D)→{r:Option D//OB op a b r}
 |.Add,.int a,.int b=>⟨some (.int (a+b)),kZ fun _ _ h=>PySem.P.add_int (h _ _)⟩
 |.Sub,.int a,.int b=>⟨some (.int (a-b)),kZ fun _ _ h=>PySem.P.sub_int (h _ _)⟩
 |.Mult,.int a,.int b=>⟨if sm a∧sm b then some (.int (a*b))else none,oP fun q=>kZ fun _ _ h=>PySem.P.mul_int (h _ _) (Nj q.1 q.2)⟩
 |.FloorDiv,.int a,.int b=>⟨if b≠0∧sm b then some (.int (a.fdiv b))else none,oP fun q=>kZ fun _ _ h=>floordiv_int q.1 (h _ _) (.inl (w9 (vc q.2)))⟩
 |.Mod,.int a,.int b=>⟨if b≠0 then some (.int (a.fmod b))else none,oP fun q=>kZ fun _ _ h=>mod_int' q (h _ _)⟩
 |.LShift,.int a,.int b=>⟨if sm a∧0≤b∧b≤10000 then some (.int (a*2^b.toNat))else none,oP fun q=>kZ fun _ _ h=>lshift_int q.2.1 (by have:=o5 q.1;lia) (h _ _)⟩
 |.RShift,.int a,.int b=>⟨if 0≤b then some (.int (a.fdiv (2^b.toNat)))else none,oP fun q=>kZ fun _ _ h=>rshift_int q (h _ _)⟩
 |.BitAnd,.int a,.int b=>⟨some (.int (uK a b)),kZ fun _ _ h=>and_int (h _ _)⟩
 |.BitXor,.int a,.int b=>⟨some (.int (uJ a b)),kZ fun _ _ h=>xor_int (h _ _)⟩
 |.Pow,.int a,.int b=>⟨if a=2∧0≤b∧b≤10000 then some (.int (a^b.toNat))else none,oP fun q=>kZ fun _ _ h=>by
  refine pow_int q.2.1 ?_ (h _ _);rw[q.1];have:(dm 2:Int)=2:=by decide
  rw[this];lia⟩
 |.Add,.str x,.str y=>⟨if x.length+y.length≤1000000 then some (.str (x++y))else none,oP fun q=>fun S f e r1 r2=>by cases e;exact z9 S q r1 r2⟩
 |.Mult,.str x,.int n=>⟨if x.length≤1∧0≤n∧n≤1000000 then some (.str (j7 x n))else none,oP fun q=>fun S f e r1 r2=>by cases e;exact z8 S q r1 r2⟩
 |.Add,.list l,.list r=>⟨if l.length+r.length≤1000000 then some (.list (l++r))else none,oP fun q=>fun S f e r1 r2=>by cases e;exact yp S f q r1 r2⟩
 |.Mult,.list l,.int n=>⟨if l.length≤1∧0≤n∧n≤1000000 then some (.list (aA n.toNat l).flatten)else none,oP fun q=>fun S f e r1 r2=>by cases e;exact yo S f q r1 r2⟩
 |_,_,_=>⟨none,fun _ _ e=>nomatch e⟩
noncomputable def eS (op:Operator) (a b:D):Option D:=(RX op a b).1
theorem wQ {C:aU} {A:Around} {s:Shared} {P:Addr→Prop} {op:Operator} {a b d:D} {v1 v2:Value} (S:St C s) (f:∀a,s.heap.objs.size≤a→P a) (h:eS op a b=some d)
 (r1:eU P s.heap a v1) (r2:eU P s.heap b v2):wpAny (MD C) A (binaryOp op v1 v2) (Post C s P d) bL s:=(RX op a b).2 S f h r1 r2
mutual
noncomputable def oV:D→Option PyData
 |.none=>some .none
 |.bool b=>some (.bool b)
 |.int i=>some (.int i)
 |.str s=>some (.str s)
 |.list l=>(toPys l).map .list
 |.tup l=>(toPys l).map .tuple
 |.obj _=>none
 |.objAt _ _ _=>none
 |.dic=>none
noncomputable def toPys:List D→Option (List PyData)
 |[]=>some []
 |d::r=>(oV d).bind fun x=>(toPys r).bind fun xs=>some (x::xs)
end
mutual
theorem lK {P:Addr→Prop} {h:Heap}:∀(d:D) {v:Value} {x:PyData},oV d=some x→Rep P h d v→∃as,Reads h v x as
 |.none=>fun e r=>by cases e;cases r;exact⟨_,.none⟩
 |.bool b=>fun e r=>by cases e;cases r;exact⟨_,.bool b⟩
 |.int i=>fun e r=>by cases e;obtain⟨t,rfl⟩:=r;exact⟨_,.int i t⟩
 |.str s=>fun e r=>by cases e;obtain⟨t,rfl⟩:=r;exact⟨_,.str s t⟩
 |.list l=>fun e r=>by
  (refine Um e fun xs e1 q0=>?_;subst q0);(refine Ue r fun a vs q0 _ q1 hr=>?_;subst q0;refine Un q1 fun n ho=>?_);refine Un (readsAll_of l e1 hr) fun as h'=>?_;exact⟨_,.list ho rfl rfl h'⟩
 |.tup l=>fun e r=>by
  (refine Um e fun xs e1 q0=>?_;subst q0);(refine Ue r fun a vs q0 _ q1 hr=>?_;subst q0;refine Uw q1 fun o ho hc n hd=>?_);refine Un (readsAll_of l e1 hr) fun as h'=>?_;exact⟨_,.tuple ho hc hd h'⟩
 |.obj _=>fun e _=>nomatch e
 |.objAt _ _ _=>fun e _=>nomatch e
 |.dic=>fun e _=>nomatch e
theorem readsAll_of {P:Addr→Prop} {h:Heap}:∀(d:List D) {v:List Value} {x:List PyData},toPys d=some x→Reps P h d v→∃as,ReadsAll h v x as
 |[]=>fun e r=>by cases e;cases(show _=[]from r);exact⟨_,.nil⟩
 |d::r=>fun e q=>by
  (refine Uc q fun u w q0 hu hw=>?_;subst q0);refine Ub e fun x' e1 e=>?_;refine Ub e fun xs' e2 e=>?_;cases e;refine Un (lK d e1 hu) fun as h1=>?_;refine Un (readsAll_of r e2 hw) fun bs h2=>?_;exact⟨_,.cons h1 h2⟩
end
theorem jU {P:Addr→Prop} {h:Heap} {d:D} {v:Value} {x:PyData} (e:oV d=some x) (r:eU P h d v):∃as,Reads h v x as:=by
 cases d with
 |list l=>
  obtain⟨xs,e1,rfl⟩:=je.mp e;(refine Ug r fun a vs q0 _ _ q1 hr=>?_;subst q0;refine Un q1 fun n ho=>?_);obtain⟨as,h'⟩:=readsAll_of l e1 hr;exact⟨_,.list ho rfl rfl h'⟩
 |none=>exact lK (P:=P) (.none) e r
 |bool b=>exact lK (P:=P) (.bool b) e r
 |int i=>exact lK (P:=P) (.int i) e r
 |str i=>exact lK (P:=P) (.str i) e r
 |tup l=>exact lK (P:=P) (.tup l) e r
 |obj l=>cases e
 |objAt x d l=>cases e
 |dic=>cases e
noncomputable def Dt (a b:D):Option Bool:=(oV a).bind fun x=>(oV b).bind fun y=>if eT x=true∧eT y=true then some (de x y)else none
theorem BP {a b:D} {r:Bool} (h:Dt a b=some r):∃x y,oV a=some x∧oV b=some y∧(eT x=true∧eT y=true)∧de x y=r:=by
 refine Ub h fun x e1 h=>?_;refine Ub h fun y e2 h=>?_;exact⟨x,y,e1,e2,eV h⟩
noncomputable def NE (d:D) (l:List D):Option Bool:=(oV d).bind fun x=>(toPys l).bind fun ys=>if eT x=true∧eT (.list ys)=true then some (ys.any fun y=>de y x)else none
theorem JR {d:D} {l:List D} {r:Bool} (h:NE d l=some r):∃x ys,oV d=some x∧toPys l=some ys∧(eT x=true∧eT (.list ys)=true)∧(ys.any fun y=>de y x)=r:=by
 refine Ub h fun x e1 h=>?_;refine Ub h fun y e2 h=>?_;exact⟨x,y,e1,e2,eV h⟩
section
variable {C:aU} {A:Around} {s:Shared} {P:Addr→Prop} {n:Nat}
theorem RA.eqRoom {A:Around} {n:Nat} (x:RA A n):A.units+64<cLine:=by have:=x.units;show A.units+64<9900;exact(dA 0x3964d58373c40138544650373e23a05c2:) this
theorem Ou {P:Params} {K:Frag} (h:KF P K):K.lookup yQ=some ⟨.type "dict",none,.dict (Ko K) (UM K),#[]⟩:=by
 refine Us (Gh (h.bit 10 rfl:Gi (K.lookup yQ)=true)) fun es n e=>?_;unfold Ko UM;rw[e]
theorem BT {P:Params} {K:Frag} (h:KF P K):(Ko K).toList.map (fun e=>(wm e,Eh e))=tokTab:=congrArg Facts.dt h
theorem Ha {P:Params} {K:Frag} (h:KF P K):(Ko K).toList.map (fun e=>e.hash)=(Ko K).toList.map (fun e=>kP P (wm e)):=by
 refine(congrArg Facts.dh h).trans ?_;show tokTab.map (fun x=>kP P x.1)=_;rw[←BT h,be];rfl
theorem G9 {P:Params} {K:Frag} (h:KF P K):(Ko K).toList.all PG=true:=h.bit 11 rfl
theorem EB {v:Value} (h:(match v with|.str _ _=>true|_=>false)=true):∃x t,v=.str x t:=by
 cases v with
 |str x t=>exact⟨x,t,rfl⟩
 |_=>cases h
theorem NC {v:Value} (h:(match v with|.int _ _=>true|_=>false)=true):∃i t,v=.int i t:=by
 cases v with
 |int x t=>exact⟨x,t,rfl⟩
 |_=>cases h
theorem tq {P:Params}:∀{l:List DictEntry},l.map (fun e=>e.hash)=l.map (fun e=>kP P (wm e))→l.all PG=true→KeysLit P l
 |[]=>@fun _ _=>trivial
 |e::r=>@fun h1 h2=>by
  rw[bg,bg]at h1;injection h1 with a b;rw[jR,ao]at h2;refine⟨?_,tq b h2.2⟩;have h3:=h2.1;unfold PG at h3;rw[ao]at h3;obtain⟨x,t,hk⟩:=EB (v:=e.key) h3.1;refine⟨x,t,hk,?_⟩;have:wm e=x:=by unfold wm;rw[hk]
  rw[←this];exact a
theorem yH:∀{l:List DictEntry} {x:Str},l.all PG=true→∃t:Tok,(l.find? (fun e=>e.key.isStr x)).map (·.val)=((l.map (fun e=>(wm e,Eh e))).lookup x).map (fun i=>zO i t)
 |[],_=>fun _=>⟨0,rfl⟩
 |e::r,x=>fun h=>by
  rw[jR,ao]at h;have h3:=h.1;unfold PG at h3;rw[ao]at h3;obtain⟨y,t,hk⟩:=EB (v:=e.key) h3.1;obtain⟨i,u,hv⟩:=NC (v:=e.val) h3.2;have e1:wm e=y:=by unfold wm;rw[hk]
  have e2:Eh e=i:=by unfold Eh;rw[hv]
  have e3:e.key.isStr x=(y==x):=by rw[hk];rfl
  rw[Pr,bg,aH,e1,e2,e3];have e4:(x==y)=(y==x):=by
   by_cases q:x=y
   ·rw[q]
   ·rw[beq_eq_false_iff_ne.mpr q,beq_eq_false_iff_ne.mpr (cC q)]
  rw[e4];cases q:y==x with
  |true=>exact⟨u,congrArg some hv⟩
  |false=>exact yH h.2
theorem wB (S:St C s):∃f:Str→Option Value,s.heap.MapOf (strKind PySem.Challenge.pw_uc0055_01 C.w) yQ f∧∀x,∃t,f x=(tokTab.lookup x).map (fun i=>zO i t):=by
 refine⟨_,mapOf_K (prog:=PySem.Challenge.pw_uc0055_01) (Frag.In.keeps C.X S.g) (Ou C.F) (tq (Ha C.F) (G9 C.F)),fun x=>?_⟩;obtain⟨t,e⟩:=yH (x:=x) (G9 C.F);rw[BT C.F]at e;refine⟨t,e▸?_⟩;show findBy _ _ _=_;unfold findBy;rw[←Array.find?_toList];congr 2;funext d;exact(isStr_of x d.key).symm
theorem qu (a b:Bool):(wY a==wY b)=(a==b):=by cases a<;>cases b<;>decide
noncomputable abbrev OC (op:CmpOp) (a b:D) (r:Option Bool):Prop:=∀{C:aU} {A:Around} {s:Shared} {P:Addr→Prop} {n:Nat} {c:Bool} {v1 v2:Value},St C s→RA A n→r=some c→eU P s.heap a v1→eU P s.heap b v2→
 wpAny (MD C) A (compareOp op v1 v2) (Post C s P (.bool c)) bL s
theorem q6 {op:CmpOp} {a b:Int} {c:Bool} (h:∀{C:aU} {A:Around} {s:Shared} {Q:Value→Shared→Prop} {t u:Tok},Q (.bool c) s→wpAny (MD C) A (compareOp op (.int a t) (.int b u)) Q bL s):OC op (.int a) (.int b) (some c):=fun S hA e r1 r2=>by
 cases e;obtain⟨t,rfl⟩:=r1;obtain⟨u,rfl⟩:=r2;exact h (ei S rfl)
theorem wb {op:CmpOp} {a b:Str} {c:Bool} (h:∀{C:aU} {A:Around} {s:Shared} {Q:Value→Shared→Prop} {t u:Tok},Q (.bool c) s→wpAny (MD C) A (compareOp op (.str a t) (.str b u)) Q bL s):OC op (.str a) (.str b) (some c):=fun S hA e r1 r2=>by
 cases e;obtain⟨t,rfl⟩:=r1;obtain⟨u,rfl⟩:=r2;exact h (ei S rfl)
theorem Br {op:CmpOp} {a b c:Bool} (h:∀{C:aU} {A:Around} {s:Shared} {Q:Value→Shared→Prop},Q (.bool c) s→wpAny (MD C) A (compareOp op (.bool a) (.bool b)) Q bL s):OC op (.bool a) (.bool b) (some c):=fun S hA e r1 r2=>by
 cases e;cases r1;cases r2;exact h (ei S rfl)
theorem Lr {a b:D}:OC .Eq a b (Dt a b):=fun S hA e r1 r2=>by
 (refine Ue (BP e) fun x y e1 e2 q q0=>?_;subst q0);obtain⟨as,ra⟩:=jU e1 r1;obtain⟨bs,rb⟩:=jU e2 r2;exact SeqAt.compareEq_shaped ra rb q.1 q.2 hA.eqRoom (ei S rfl)
theorem Qs {a b:D}:OC .NotEq a b ((Dt a b).map (!·)):=fun S hA e r1 r2=>by
 (refine Um e fun c e' q0=>?_;subst q0);(refine Ue (BP e') fun x y e1 e2 q q0=>?_;subst q0);obtain⟨as,ra⟩:=jU e1 r1;obtain⟨bs,rb⟩:=jU e2 r2;exact SeqAt.compareNe_shaped ra rb q.1 q.2 hA.eqRoom (ei S rfl)
theorem Qt {d:D} {l:List D}:OC .In d (.list l) (NE d l):=fun S hA e r1 r2=>by
 (refine Ue (JR e) fun x ys e1 e2 q q0=>?_;subst q0);obtain⟨as,ra⟩:=jU e1 r1;obtain⟨bs,rb⟩:=jU (x:=.list ys) (by show(toPys _).map _=_;rw[e2];rfl) r2;have h1:=A1 q.1;have h2:=A1 q.2;have h3:=SeqAt.depth_of_shaped q.1;refine SeqAt.in_list_reads rb ra h2 h1 ?_ (ei S rfl);have:=hA.units;have h4:=Pj (KW ys) x.depth;show _<9900;exact(rY 0x39cb26ac1b9e67842e1d11940dcf8928170e82009c228045:) h3 this
theorem Na {x:Str}:OC .In (.str x) .dic (some (tokTab.lookup x).isSome):=fun S hA e r1 r2=>by
 cases e;obtain⟨t,rfl⟩:=r1;refine Ua (wB S) fun f hm hf=>?_;cases r2;refine wpAny_in_of (Qc _ _ _ t) (by decide) hm (cO S ?_);obtain⟨t',e⟩:=hf _;rw[e];cases tokTab.lookup x<;>rfl
theorem Fx {x:Str}:OC .NotIn (.str x) .dic (some (!(tokTab.lookup x).isSome)):=fun S hA e r1 r2=>by
 cases e;obtain⟨t,rfl⟩:=r1;refine Ua (wB S) fun f hm hf=>?_;cases r2;refine wpAny_notIn_of (Qc _ _ _ t) (by decide) hm (cO S ?_);obtain⟨t',e⟩:=hf _;rw[e];cases tokTab.lookup x<;>rfl
noncomputable def RF:(op:CmpOp)→(a b:D)→{r:Option Bool//OC op a b r}
 |.Eq,.int a,.int b=>⟨some (a==b),q6 fun h=>PySem.P.eq_int h⟩
 |.NotEq,.int a,.int b=>⟨some (a !=b),q6 fun h=>PySem.P.ne_int h⟩
 |.Lt,.int a,.int b=>⟨some (decide (a<b)),q6 fun h=>PySem.P.lt_int h⟩
 |.LtE,.int a,.int b=>⟨some (decide (a≤b)),q6 fun h=>PySem.P.le_int h⟩
 |.Gt,.int a,.int b=>⟨some (decide (a>b)),q6 fun h=>PySem.P.gt_int h⟩
 |.GtE,.int a,.int b=>⟨some (decide (a≥b)),q6 fun h=>PySem.P.ge_int h⟩
 |.Eq,.str a,.str b=>⟨some (a==b),wb fun h=>PyProof.Rows.eq_str h⟩
 |.NotEq,.str a,.str b=>⟨some (a !=b),wb fun h=>PyProof.Rows.ne_str h⟩
 |.Eq,.list l,.list r=>⟨Dt (.list l) (.list r),Lr⟩
 |.NotEq,.list l,.list r=>⟨(Dt (.list l) (.list r)).map (!·),Qs⟩
 |.Eq,.tup l,.tup r=>⟨Dt (.tup l) (.tup r),Lr⟩
 |.In,.str x,.dic=>⟨some (tokTab.lookup x).isSome,Na⟩
 |.NotIn,.str x,.dic=>⟨some (!(tokTab.lookup x).isSome),Fx⟩
 |.In,.str y,.str x=>⟨some (!(bW x y 0 x.length 1).isEmpty),wb fun h=>PyProof.Rows.in_str h⟩
 |.NotIn,.str y,.str x=>⟨some (!(!(bW x y 0 x.length 1).isEmpty)),wb fun h=>PyProof.Rows.notIn_str h⟩
 |.In,d,.list l=>⟨NE d l,Qt⟩
 |.Is,.bool a,.bool b=>⟨some (a==b),Br fun h=>wpAny_is_plain rfl (by rw[qu];exact h)⟩
 |.IsNot,.bool a,.bool b=>⟨some (!(a==b)),Br fun h=>wpAny_isNot_plain rfl (by rw[qu];exact h)⟩
 |_,_,_=>⟨none,fun _ _ e=>nomatch e⟩
noncomputable def ia (op:CmpOp) (a b:D):Option Bool:=(RF op a b).1
theorem sC {op:CmpOp} {a b:D} {r:Bool} {v1 v2:Value} (S:St C s) (hA:RA A n) (h:ia op a b=some r)
 (r1:eU P s.heap a v1) (r2:eU P s.heap b v2):wpAny (MD C) A (compareOp op v1 v2) (Post C s P (.bool r)) bL s:=(RF op a b).2 S hA h r1 r2
end
section
variable {C:aU} {A:Around} {s:Shared} {P:Addr→Prop} {n:Nat}
noncomputable def PostB (C:aU) (s:Shared) (b:Bool):Bool→Shared→Prop:=fun c s'=>c=b∧St C s'∧Keep s.heap s'.heap
theorem IE {i:Int} {v:Value} (S:St C s) (r:eU P s.heap (.int i) v):wpAny (MD C) A (truthy v) (PostB C s (i !=0)) bL s:=by
 obtain⟨t,rfl⟩:=r;exact PySem.P.truthy_int ⟨rfl,S,.refl⟩
theorem Em {l:List D} {v:Value} (S:St C s) (q:l.length≤1000000) (r:eU P s.heap (.list l) v):wpAny (MD C) A (truthy v) (PostB C s (!l.isEmpty)) bL s:=by
 (refine Ug r fun a vs q0 _ _ hl hr=>?_;subst q0);have hlen:=hr.length;rw[aK]at hlen;refine wpAny_truthy_list hl.isList (by lia) ⟨?_,S.toks _,.refl⟩;congr 1;have:vs.isEmpty=(vs.size==0):=rfl;rw[this,hlen];cases l<;>simp
noncomputable abbrev OT (a:D) (r:Option Bool):Prop:=∀{C:aU} {A:Around} {s:Shared} {P:Addr→Prop} {c:Bool} {v:Value},St C s→r=some c→eU P s.heap a v→wpAny (MD C) A (truthy v) (PostB C s c) bL s
noncomputable def P6:(a:D)→{r:Option Bool//OT a r}
 |.bool b=>⟨some b,fun S e r=>by cases e;cases r;exact nR ⟨rfl,S,.refl⟩⟩
 |.int i=>⟨some (i !=0),fun S e r=>by cases e;exact IE S r⟩
 |.list l=>⟨if l.length≤1000000 then some (!l.isEmpty)else none,fun S e r=>by obtain⟨q,rfl⟩:=eV e;exact Em S q r⟩
 |_=>⟨none,fun _ e=>nomatch e⟩
noncomputable def ux (a:D):Option Bool:=(P6 a).1
theorem Bd {d:D} {b:Bool} {v:Value} (S:St C s) (h:ux d=some b) (r:eU P s.heap d v):wpAny (MD C) A (truthy v) (PostB C s b) bL s:=(P6 d).2 S h r
noncomputable abbrev OU (op:UnaryOp) (a:D) (r:Option D):Prop:=∀{C:aU} {A:Around} {s:Shared} {P:Addr→Prop} {d:D} {v:Value},St C s→r=some d→eU P s.heap a v→wpAny (MD C) A (unaryOp op v) (Post C s P d) bL s
noncomputable def TY:(op:UnaryOp)→(a:D)→{r:Option D//OU op a r}
 |.USub,.int a=>⟨some (.int (-a)),fun S e r=>by cases e;obtain⟨t,rfl⟩:=r;exact PySem.P.neg_int (cO S ⟨_,rfl⟩)⟩
 |.Invert,.int a=>⟨some (.int (Builtin.bitNot a)),fun S e r=>by cases e;obtain⟨t,rfl⟩:=r;exact invert_int (cO S ⟨_,rfl⟩)⟩
 |_,_=>⟨none,fun _ e=>nomatch e⟩
noncomputable def Su (op:UnaryOp) (a:D):Option D:=(TY op a).1
theorem Mx {op:UnaryOp} {a d:D} {v:Value} (S:St C s) (h:Su op a=some d) (r:eU P s.heap a v):wpAny (MD C) A (unaryOp op v) (Post C s P d) bL s:=(TY op a).2 S h r
theorem lJ {h:Heap} {l:List D} {vs:Array Value} {i:Nat} {d:D} (r:Reps P h l vs.toList) (e:l[i]?=some d):∃v,vs[i]?=some v∧Rep P h d v:=by
 refine Ua (r.get e) fun v h1 h2=>?_;exact⟨v,by rw[←fc];exact h1,h2⟩
theorem nV {slice:Expr} {o i:Value} (h:∀a b c d,slice≠.Slice a b c d):subscripted slice false o i=operate [o,i] (getItem o i):=by
 cases slice<;>first|rfl|(exact absurd rfl (h _ _ _ _))
noncomputable abbrev OM (a b:D) (r:Option D):Prop:=∀{C:aU} {A:Around} {s:Shared} {P:Addr→Prop} {d:D} {value slice:Expr} {v1 v2:Value},St C s→(∀a b c d,slice≠.Slice a b c d)→r=some d→eU P s.heap a v1→eU P s.heap b v2→
 wpAny (MD C) A (subscriptTail value slice v1 v2) (Post C s P d) bL s
theorem Jo {l:List D} {k:Int}:OM (.list l) (.int k) (if 0≤k∧k<1000000 then l[k.toNat]? else none):=fun S hs h r1 r2=>by
 obtain⟨q,h⟩:=dw h;(refine Ug r1 fun x vs q0 _ _ hl hr=>?_;subst q0);obtain⟨t,rfl⟩:=r2;refine Ua (lJ hr h) fun v e1 e2=>?_;exact vU hl.isList.typeIs slot_list_getitem.lookup (wpAny_getItem_list hl.isList q.1 (by(exact gE q.2 (by decide))) e1 (ei S e2)) (nV hs)
theorem MZ {l:List D} {k:Int}:OM (.tup l) (.int k) (if 0≤k∧k<1000000 then l[k.toNat]? else none):=fun S hs h r1 r2=>by
 obtain⟨q,h⟩:=dw h;(refine Ue r1 fun x vs q0 _ hl hr=>?_;subst q0);obtain⟨t,rfl⟩:=r2;refine Ua (lJ hr h) fun v e1 e2=>?_;have hlt:k.toNat<vs.size:=(cG.mp e1).1;exact vU (IsTup.typeIs hl) slot_tuple_getitem.lookup (getItem_tuple hl (by(exact aB (by decide) q.1)) (by lia) (seqIndex_of q.1 (by exact(zh 0x1cbc848b0861001c8:) hlt)) e1 (ei S e2)) (nV hs)
theorem M7 {x:Str} {k:Int}:OM (.str x) (.int k) (if 0≤k∧k<1000000 then x.cps[k.toNat]?.map fun c=>.str ⟨#[c]⟩else none):=fun{C A s P d value slice v1 v2} S hs h r1 r2=>by
 obtain⟨q,h⟩:=dw h;obtain⟨t,rfl⟩:=r1;obtain⟨u,rfl⟩:=r2;(refine Um h fun c e q0=>?_;subst q0);have hlt:k.toNat<x.length:=(cG.mp e).1;refine vU (Ct s x t) Px.lookup (PySem.P.getItem_str ?_ ?_ (cO S ⟨_,rfl⟩)) (nV hs)
 ·rw[decide_eq_false (by lia),decide_eq_false (by omega)];rfl
 ·have:seqIndex? k x.length=some k.toNat:=by
   unfold seqIndex?;have h1:¬k<0:=by(exact gC.mpr q.1)
   simp only[if_neg h1];have h2:(decide (0≤k)&&decide (k<(x.length:Int)))=true:=by rw[decide_eq_true q.1,decide_eq_true (by exact(zh 0x1cbc848b0861001c8:) hlt)];rfl
   rw[if_pos h2]
  rw[this];exact e
theorem M8 {x:Str}:OM .dic (.str x) ((tokTab.lookup x).map .int):=fun S hs h r1 r2=>by
 obtain⟨t,rfl⟩:=r2;cases r1;refine Ua (wB S) fun f hm hf=>?_;(refine Um h fun i e q0=>?_;subst q0);obtain⟨t',e'⟩:=hf x;rw[e]at e';exact vU hm.typeIs slot_dict_getitem.lookup (wpAny_getItem_of (Qc _ _ _ t) hm e' (cO S ⟨_,rfl⟩)) (nV hs)
noncomputable def LK:(a b:D)→{r:Option D//OM a b r}
 |.list _,.int _=>⟨_,Jo⟩
 |.tup _,.int _=>⟨_,MZ⟩
 |.str _,.int _=>⟨_,M7⟩
 |.dic,.str _=>⟨_,M8⟩
 |_,_=>⟨none,fun _ _ h=>nomatch h⟩
noncomputable def ef (a b:D):Option D:=(LK a b).1
theorem AE {l:List D} {k:Int}:ef (.list l) (.int k)=if 0≤k∧k<1000000 then l[k.toNat]? else none:=rfl
theorem C8 {l:List D} {k:Int}:ef (.tup l) (.int k)=if 0≤k∧k<1000000 then l[k.toNat]? else none:=rfl
theorem C9 {x:Str} {k:Int}:ef (.str x) (.int k)=if 0≤k∧k<1000000 then x.cps[k.toNat]?.map fun c=>.str ⟨#[c]⟩else none:=rfl
theorem JP {value slice:Expr} {a b d:D} {v1 v2:Value} (S:St C s) (hs:∀a b c d,slice≠.Slice a b c d) (h:ef a b=some d)
 (r1:eU P s.heap a v1) (r2:eU P s.heap b v2):wpAny (MD C) A (subscriptTail value slice v1 v2) (Post C s P d) bL s:=(LK a b).2 S hs h r1 r2
noncomputable def Fq:Option D→Option (Option Int)
 |none=>some none
 |some (.int i)=>some (some i)
 |some _=>none
theorem uR {h:Heap} {l:List D} {vs:List Value} (r:Reps P h l vs):∀(is:List Nat),Reps P h (is.filterMap (l[·]?)) (is.filterMap (vs[·]?))
 |[]=>rfl
 |i::is=>by
  have ih:=uR r is;rw[iK,iK];cases e:l[i]? with
  |some d=>
   refine Ua (r.get e) fun v e1 e2=>?_;rw[e1];exact⟨v,_,rfl,e2,ih⟩
  |none=>
   have:vs[i]?=none:=by
    have h1:=r.length;rw[List.getElem?_eq_none_iff]at e⊢;(rw[h1];exact e)
   rw[this];exact ih
noncomputable def jv (v:Option Int) (dflt n:Int):Int:=match v with
 |none=>dflt
 |some i=>max 0 (min (if i<0 then i+n else i) n)
theorem qq {v:Option Int} {d n:Int} (hn:0≤n) (h0:0≤d) (h1:d≤n):0≤jv v d n∧jv v d n≤n:=by
 unfold jv;cases v<;>dsimp only<;>(first|(exact⟨h0,h1⟩)|exact(ud 0x39cd552cab00eaa515401c802c0e4812a:) h0 h1)
noncomputable def oA {α:Type} (l:List α) (lo hi:Option Int):List α:=
 (l.drop (jv lo 0 l.length).toNat).take ((jv hi l.length l.length).toNat-(jv lo 0 l.length).toNat)
theorem s0 {α:Type} (l:List α) (a:Nat):∀m:Nat,(co m).filterMap (fun k=>l[a+k]?)=(l.drop a).take m
 |0=>rfl
 |m+1=>by
  rw[List.range_succ,List.filterMap_append,s0 l a m,eK];congr 1;rw[Ip];cases h:l[a+m]?<;>simp[h]
theorem IJ {p q:Nat}:(if(p:Int)<(q:Int)then((q:Int)-(p:Int)+1-1)/1 else 0)=((q-p:Nat):Int):=by
 by_cases h:p<q
 ·rw[if_pos (jz.mpr h),Int.ediv_one,K8,Int.ofNat_sub (a5 h)]
 ·rw[if_neg (fun z=>h (jz.mp z)),D0 (c5.mp h)];rfl
theorem Oz {p q n:Nat} (h:q-p=n) (hq:q≤n):p=0∨n=0:=by
 cases p with
 |zero=>exact .inl rfl
 |succ p=>cases q with
  |zero=>exact .inr (h.symm.trans (Nat.zero_sub _))
  |succ q=>exact absurd (aP (jP q) (ae hq (fJ h.symm))) (c5.mpr (by rw[ul];exact rZ q p))
theorem ni {a b:Int} (h0:0≤a) (h1:0≤b):sliceRange a b 1=(co (b.toNat-a.toNat)).map fun k=>a.toNat+k:=by
 unfold sliceRange;have e:(if(1:Int)>0 then(if a<b then(b-a+1-1)/1 else 0)else(if a>b then(a-b-1-1)/(-1)else 0))=((b.toNat-a.toNat:Nat):Int):=by
  rw[if_pos (by decide)];have:=IJ (p:=a.toNat) (q:=b.toNat);rw[bG h0,bG h1]at this;exact this
 simp only;rw[e,bY];apply cR;intro k hk;have:=gX.mp hk;show(a+1*(k:Int)).toNat=_;exact(zh 0x730f10c95401c1001cf8c8410b901001c8:) h0
theorem x6 {α:Type} (l:List α) (lo hi:Option Int):(sliceRange (jv lo 0 l.length) (jv hi l.length l.length) 1).filterMap (l[·]?)=oA l lo hi:=by
 have h1:=qq (v:=lo) (d:=0) (n:=l.length) (by(exact aY _)) (by(exact aY _)) (by(exact aY _));have h2:=qq (v:=hi) (d:=l.length) (n:=l.length) (by exact(fN 22611982:)) (by(exact aY _)) (by(exact dj _));rw[ni h1.1 h2.1,List.filterMap_map];exact s0 l _ _
noncomputable def s5 (l:List D) (lo hi st:Option Int):List D:=
 (sliceRange (sliceBounds lo hi st l.length).1 (sliceBounds lo hi st l.length).2.1 (sliceBounds lo hi st l.length).2.2).filterMap (l[·]?)
theorem Ak (l:List D) (lo hi:Option Int):s5 l lo hi none=oA l lo hi:=by
 rw[←x6];rfl
noncomputable def t5 (x:Str) (lo hi:Option Int):Str:=⟨(oA x.cps.toList lo hi).toArray⟩
theorem Kq (x:Str) (lo hi:Option Int):(⟨((jK lo hi 1 x.length).filterMap (x.cps[·]?)).toArray⟩:Str)=t5 x lo hi:=by
 unfold t5;rw[←x6];have e:x.cps.toList.length=x.length:=by simp[jO]
 rw[e];congr 2;have:(fun i:Nat=>x.cps[i]?)=fun i:Nat=>x.cps.toList[i]?:=by funext i;rw[fc]
 rw[this];rfl
theorem AQ (x:Str) (lo hi:Option Int) (h:(jK lo hi 1 x.length).length=x.length):t5 x lo hi=x:=by
 have e:x.cps.toList.length=x.length:=by simp[jO]
 have h1:=qq (v:=lo) (d:=0) (n:=(x.length:Int)) (by(exact aY _)) (by lia) (by(exact aY _));have h2:=qq (v:=hi) (d:=(x.length:Int)) (n:=(x.length:Int)) (by(exact aY _)) (by(exact aY _)) (by(exact dj _));have h3:(sliceRange (jv lo 0 x.length) (jv hi x.length x.length) 1).length=x.length:=h;rw[ni h1.1 h2.1,ag,K1]at h3;unfold t5 oA;rw[e];have h4:(jv lo 0 x.length).toNat=0∨x.length=0:=Oz h3 (Int.toNat_le.mpr h2.2);obtain⟨xs⟩:=x;show Str.mk _=Str.mk _;congr 1;apply nQ;rcases h4 with h4|h4
 ·rw[h4]
  show qD _ (qE 0 xs.toList)=xs.toList;rw[lC,bD (by rw[h4]at h3;rw[e];exact fJ h3.symm)]
 ·have:xs.toList=[]:=gw (by rw[e];exact h4)
  show qD _ (qE _ xs.toList)=xs.toList;rw[this];simp
theorem yU {α:Type} (l:List α) (lo hi:Option Int):(oA l lo hi).length≤l.length:=by
 unfold oA;rw[fZ,cp];exact ae (Pj ..) (rZ ..)
end
section
variable {C:aU} {A:Around} {s:Shared} {P:Addr→Prop} {n:Nat}
noncomputable def vY (l:List D) (lo hi:Option Int):Option Int→List D
 |none=>oA l lo hi
 |some k=>s5 l lo hi (some k)
theorem CA (l:List D) (lo hi st:Option Int):vY l lo hi st=s5 l lo hi st:=by
 cases st with
 |none=>exact(Ak _ _ _).symm
 |some _=>rfl
theorem Jj {h:Heap} {d:D} {o:Option Int} {v:Value} (e:Fq (some d)=some o) (r:Rep P h d v):IsPart v o:=by
 cases d<;>first|(cases e;done)|skip
 cases e;obtain⟨t,rfl⟩:=r;exact .int _ _
theorem x7 {v:Value} {o:Option Int} (p:IsPart v o):∃l:Option (Int×Tok),v=partValue l∧l.map (·.1)=o:=by
 cases p with
 |none=>exact⟨none,rfl,rfl⟩
 |int i t=>exact⟨some (i,t),rfl,rfl⟩
end
noncomputable abbrev TQ (a:D) (lo hi st:Option Int) (r:Option D):Prop:=∀{C:aU} {A:Around} {s:Shared} {P:Addr→Prop} {value:Expr} {x1 x2 x3:Option Expr} {p:Pos} {d:D} {v1 vl vu vs:Value},St C s→(∀a,s.heap.objs.size≤a→P a)→
 r=some d→eU P s.heap a v1→IsPart vl lo→IsPart vu hi→IsPart vs st→
 wpAny (MD C) A (subscriptTail value (.Slice x1 x2 x3 p) v1 (.ref s.heap.objs.size)) (Post C s P d) bL {s with heap:=s.heap.push {cls:=.type "slice",data:=.fields #[vl,vu,vs]}}
theorem EM (x1 x2 x3:Option Expr) (p:Pos):∃nv:Value→Value→List Value,∀o i,subscripted (.Slice x1 x2 x3 p) false o i=operate (nv o i) (getItem o i):=by
 cases x3 with
 |none=>exact⟨fun o i=>[i,o],fun o i=>rfl⟩
 |some e=>exact⟨fun o i=>[o,i],fun o i=>rfl⟩
theorem IP {l:List D} {lo hi st:Option Int}:TQ (.list l) lo hi st (if st≠some 0∧l.length≤1000000 then some (.list (vY l lo hi st))else none):=fun{C A s P value x1 x2 x3 p d v1 vl vu vs} S f h r1 pl pu ps=>by
 obtain⟨nv,hops⟩:=EM x1 x2 x3 p;have k1:∀b o,s.heap.get? b=some o→(s.heap.push {cls:=.type "slice",data:=.fields #[vl,vu,vs]}).get? b=some o:=fun _ _ e=>ak _ e;obtain⟨q,rfl⟩:=eV h;(refine Ug r1 fun b its q0 _ _ hl hr=>?_;subst q0);have hlen:=hr.length;rw[aK]at hlen;have hl':=hl.at fun o e=>k1 b o e;refine vU (Heap.IsList.typeIs (s:={s with heap:=_}) hl'.isList) list_getitem_lookup
  (wpAny_getItem_list_slice hl'.isList (Heap.IsSliceOf.new ..) pl pu ps q.1 ?_ (by show _≤2^24;(rw[hlen];exact ae q.2 (by decide)))) (hops _ _);refine⟨S.grow fun b o e=>ak _ (k1 b o e),.of fun b o e=>ak _ (k1 b o e),pO (fun a ha=>f a (by rw[lE]at ha;(exact a5 ha))) ?_⟩;have:=uR (Reps.mono (P:=P) (Q:=P) (fun a o p e=>⟨k1 a o e,p⟩) hr) (sliceRange (sliceBounds lo hi st its.size).1 (sliceBounds lo hi st its.size).2.1 (sliceBounds lo hi st its.size).2.2);rw[hlen]at this;rw[CA];unfold s5 slicePick;rw[hlen];simpa using this
theorem MH {x:Str} {lo hi:Option Int}:TQ (.str x) lo hi none (if x.length≤1000000 then some (.str (t5 x lo hi))else none):=fun{C A s P value x1 x2 x3 p d v1 vl vu vs} S f h r1 pl pu ps=>by
 obtain⟨nv,hops⟩:=EM x1 x2 x3 p;have k1:∀b o,s.heap.get? b=some o→(s.heap.push {cls:=.type "slice",data:=.fields #[vl,vu,vs]}).get? b=some o:=fun _ _ e=>ak _ e;obtain⟨q,rfl⟩:=eV h;obtain⟨t,rfl⟩:=r1;cases ps;(refine Ua (x7 pl) fun l q0 q1=>?_;subst q0;subst q1);(refine Ua (x7 pu) fun u q0 q1=>?_;subst q0;subst q1);refine vU (Ct _ _ t) Px.lookup (wpAny_getItem_str_slice (l:=l) (u:=u) (st:=none) ⟨_,aX _ rfl,rfl,rfl⟩ rfl ?_) (hops _ _);unfold sliceMade;split
 ·rename_i hq
  have hq2:(slicePicked x l u none).length=x.length:=by simpa using(dX.mp hq).2
  rw[AQ x (l.map er) (u.map er) hq2];exact⟨S.grow k1,.of k1,⟨_,rfl⟩⟩
 ·have e:=Kq x (l.map er) (u.map er)
  refine⟨?_,S.grow k1,.of k1,⟨s.toks,?_⟩⟩
  ·show jO (⟨((jK (l.map er) (u.map er) 1 x.length).filterMap (x.cps[·]?)).toArray⟩:Str)≤2^24
   rw[e];have:=yU x.cps.toList (l.map er) (u.map er);have e2:(t5 x (l.map er) (u.map er)).length=(oA x.cps.toList (l.map er) (u.map er)).length:=by simp[t5,jO]
   rw[e2];have e3:x.cps.toList.length=x.length:=by simp[jO]
   omega
  ·rw[←e];rfl
noncomputable def EL:(a:D)→(lo hi st:Option Int)→{r:Option D//TQ a lo hi st r}
 |.list _,_,_,_=>⟨_,IP⟩
 |.str _,_,_,none=>⟨_,MH⟩
 |_,_,_,_=>⟨none,fun _ _ h=>nomatch h⟩
noncomputable def gt (a:D) (lo hi st:Option Int):Option D:=(EL a lo hi st).1
theorem EK {C:aU} {A:Around} {s:Shared} {P:Addr→Prop} {value:Expr} {x1 x2 x3:Option Expr} {p:Pos} {a d:D} {lo hi st:Option Int} {v1 vl vu vs:Value} (S:St C s) (f:∀a,s.heap.objs.size≤a→P a)
 (h:gt a lo hi st=some d) (r1:eU P s.heap a v1) (pl:IsPart vl lo) (pu:IsPart vu hi) (ps:IsPart vs st):
 wpAny (MD C) A (subscriptTail value (.Slice x1 x2 x3 p) v1 (.ref s.heap.objs.size)) (Post C s P d) bL {s with heap:=s.heap.push {cls:=.type "slice",data:=.fields #[vl,vu,vs]}}:=(EL a lo hi st).2 S f h r1 pl pu ps
noncomputable def gu:List D→Option (List Int)
 |[]=>some []
 |.int i::r=>(gu r).map (i::·)
 |_::_=>none
noncomputable def qL:List D→Option (List Str)
 |[]=>some []
 |.str i::r=>(qL r).map (i::·)
 |_::_=>none
theorem o0 (ns:List Int):gu (ns.map .int)=some ns:=by
 induction ns with
 |nil=>rfl
 |cons n r ih=>exact congrArg (mV (n::·)) ih
theorem z6 (ns:List Str):qL (ns.map .str)=some ns:=by
 induction ns with
 |nil=>rfl
 |cons n r ih=>exact congrArg (mV (n::·)) ih
inductive mH (P:Addr→Prop) (h:Heap):List D→List Value→Prop
 |nil:mH P h [] []
 |cons {d ds v vs}:eU P h d v→mH P h ds vs→mH P h (d::ds) (v::vs)
section
variable {C:aU} {A:Around} {s:Shared} {P:Addr→Prop} {n:Nat}
theorem tE {h:Heap}:∀{l:List D} {vs:List Value} {ns:List Int},Reps P h l vs→gu l=some ns→∃xs:List (Int×Tok),vs=xs.map (fun p=>zO p.1 p.2)∧xs.map (·.1)=ns
 |[],vs,ns=>fun r e=>by cases e;exact⟨[],r,rfl⟩
 |d::l,vs,ns=>fun r e=>by
  (refine Uc r fun v q q0 hv hq=>?_;subst q0);cases d<;>first|(cases e;done)|skip
  (refine Um e fun ms e1 q0=>?_;subst q0);obtain⟨t,rfl⟩:=hv;refine Ua (tE hq e1) fun xs e2 e3=>?_;exact⟨(_,t)::xs,by rw[e2];rfl,by rw[←e3];rfl⟩
theorem sP {h:Heap}:∀{l:List D} {vs:List Value} {ns:List Str},Reps P h l vs→qL l=some ns→∃xs:List (Str×Tok),vs=strValues xs∧xs.map (·.1)=ns
 |[],vs,ns=>fun r e=>by cases e;exact⟨[],r,rfl⟩
 |d::l,vs,ns=>fun r e=>by
  (refine Uc r fun v q q0 hv hq=>?_;subst q0);cases d<;>first|(cases e;done)|skip
  (refine Um e fun ms e1 q0=>?_;subst q0);obtain⟨t,rfl⟩:=hv;refine Ua (sP hq e1) fun xs e2 e3=>?_;exact⟨(_,t)::xs,by rw[e2];rfl,by rw[←e3];rfl⟩
theorem tF {h:Heap} {l:List D} {vs:Array Value} {ns:List Int} (r:Reps P h l vs.toList) (e:gu l=some ns):∃xs:Array (Int×Tok),vs=intItems xs∧xs.toList.map (·.1)=ns:=by
 refine Ua (tE r e) fun xs e1 e2=>?_;exact⟨xs.toArray,by apply nQ;rw[e1];simp[intItems],by simpa using e2⟩
theorem CF {h:Heap}:∀(xs:List (Int×Tok)),Reps P h (xs.map fun p=>D.int p.1) (xs.map fun p=>zO p.1 p.2)
 |[]=>rfl
 |p::r=>⟨_,_,rfl,⟨_,rfl⟩,CF r⟩
noncomputable def TL (f:Str):Value:=.builtin f.toString
noncomputable def LE:(d:D)→{r:Option Nat//∀{C:aU} {A:Around} {s:Shared} {P:Addr→Prop} {k:Nat} {v:Value},St C s→r=some k→k≤1000000→eU P s.heap d v→wpAny (MD C) A (call (.builtin "len") [v]) (Post C s P (.int k)) bL s}
 |.list l=>⟨some l.length,fun S h hk r=>by
  cases h;(refine Ug r fun a vs q0 _ _ hl hr=>?_;subst q0);have hlen:=hr.length;rw[aK]at hlen;exact call_len_list hl.isList (by lia) (cO S ⟨_,by rw[hlen]⟩)⟩
 |.tup l=>⟨some l.length,fun S h hk r=>by
  cases h;(refine Ue r fun a vs q0 _ hl hr=>?_;subst q0);have hlen:=hr.length;rw[aK]at hlen;exact len_tuple hl (by omega) (cO S ⟨_,by rw[hlen]⟩)⟩
 |.str x=>⟨some x.length,fun S h hk r=>by
  cases h;obtain⟨t,rfl⟩:=r;exact PyProof.Rows.len_str (by lia) (cO S ⟨_,rfl⟩)⟩
 |_=>⟨none,fun _ h=>nomatch h⟩
noncomputable def QK (d:D):Option Nat:=(LE d).1
theorem Nr {d:D} {k:Nat} {v:Value} (S:St C s) (h:QK d=some k) (hk:k≤1000000) (r:eU P s.heap d v):wpAny (MD C) A (call (.builtin "len") [v]) (Post C s P (.int k)) bL s:=(LE d).2 S h hk r
theorem MA {l:List D} {ns:List Int} {v:Value} (S:St C s) (hA:RA A n) (h:gu l=some ns) (r:eU P s.heap (.list l) v):wpAny (MD C) A (call (.builtin "sum") [v]) (Post C s P (.int ns.sum)) bL s:=by
 (refine Ug r fun a vs q0 _ _ hl hr=>?_;subst q0);(refine Ua (tF hr h) fun xs q0 q1=>?_;subst q0;subst q1);refine sum_intListG hA.hd hl.isList fun h' tk t' hk=>gO S hk ⟨t',?_⟩;rw[preSum_eq,bD (by simp)]
theorem JC {ns:List Int} {m k:Int} (h:ns.max?=some m) (h1:k∈ns) (h2:∀a∈ns,a≤k):k=m:=by
 have h3:=List.max?_mem h;have h4:=(List.max?_le_iff h (x:=m)).mp (dj _) k h1;have h5:=h2 m h3;(exact PP h4 h5)
theorem JA {ns:List Int} {m k:Int} (h:ns.min?=some m) (h1:k∈ns) (h2:∀a∈ns,k≤a):k=m:=by
 have h3:=List.min?_mem h;have h4:=(List.le_min?_iff h (x:=m)).mp (dj _) k h1;have h5:=h2 m h3;(exact PP h5 h4)
theorem No {l:List D} {ns:List Int} {m:Int} {v:Value} (S:St C s) (hA:RA A n) (h:gu l=some ns) (hm:ns.max?=some m) (r:eU P s.heap (.list l) v):
 wpAny (MD C) A (call (.builtin "max") [v]) (Post C s P (.int m)) bL s:=by
 (refine Ug r fun a vs q0 _ _ hl hr=>?_;subst q0);(refine Ua (tF hr h) fun xs q0 q1=>?_;subst q0;subst q1);have hsz:0<xs.size:=by
  cases hx:xs.toList with
  |nil=>rw[hx]at hm;cases hm
  |cons p r=>rw[←aK,hx];simp
 refine max_intList hA.hd hl.isList hsz fun v h' tk hv hk=>?_;obtain⟨t,rfl⟩:=intItems_at hv;obtain⟨h1,h2⟩:=argBest_gt (numAt xs) (xs.size-1);refine gO S hk ⟨t,?_⟩;rw[JC hm (k:=numAt xs (argBest (fun i j=>decide (numAt xs i>numAt xs j)) (xs.size-1))) ?_ ?_]
 ·rw[Nb];exact getD_mem (by rw[ag,aK];exact(dA 0x39cb087420ec203860085c2:) hsz h1)
 ·intro a ha
  (refine Ua (mem_getD ha) fun j hj q0=>?_;subst q0);rw[ag,aK]at hj;rw[←Nb];exact h2 j (by exact(dA 0x1ca105618860085c3:) hj)
theorem Nn {l:List D} {ns:List Int} {m:Int} {v:Value} (S:St C s) (hA:RA A n) (h:gu l=some ns) (hm:ns.min?=some m) (r:eU P s.heap (.list l) v):
 wpAny (MD C) A (call (.builtin "min") [v]) (Post C s P (.int m)) bL s:=by
 (refine Ug r fun a vs q0 _ _ hl hr=>?_;subst q0);(refine Ua (tF hr h) fun xs q0 q1=>?_;subst q0;subst q1);have hsz:0<xs.size:=by
  cases hx:xs.toList with
  |nil=>rw[hx]at hm;cases hm
  |cons p r=>rw[←aK,hx];simp
 refine min_intList hA.hd hl.isList hsz fun v h' tk hv hk=>?_;obtain⟨t,rfl⟩:=intItems_at hv;obtain⟨h1,h2⟩:=argBest_lt (numAt xs) (xs.size-1);refine gO S hk ⟨t,?_⟩;rw[JA hm (k:=numAt xs (argBest (fun i j=>decide (numAt xs i<numAt xs j)) (xs.size-1))) ?_ ?_]
 ·rw[Nb];exact getD_mem (by rw[ag,aK];exact(dA 0x39cb087420ec203860085c2:) hsz h1)
 ·intro a ha
  (refine Ua (mem_getD ha) fun j hj q0=>?_;subst q0);rw[ag,aK]at hj;rw[←Nb];exact h2 j (by exact(dA 0x1ca105618860085c3:) hj)
end
noncomputable abbrev OF (g:Value) (as:List D) (r:Option D):Prop:=∀{C:aU} {A:Around} {s:Shared} {P:Addr→Prop} {n:Nat} {d:D} {vs:List Value},St C s→(∀a,s.heap.objs.size≤a→P a)→RA A n→r=some d→mH P s.heap as vs→wpAny (MD C) A (call g vs) (Post C s P d) bL s
theorem wa {g:Value} {a:D} {r:Option D} (h:∀{C:aU} {A:Around} {s:Shared} {P:Addr→Prop} {n:Nat} {d:D} {v:Value},St C s→RA A n→r=some d→eU P s.heap a v→wpAny (MD C) A (call g [v]) (Post C s P d) bL s):OF g [a] r:=fun S _ hA e r=>by
 cases r with|cons r1 r2=>cases r2;exact h S hA e r1
theorem As {g:Value} {a b:Int} {r:Option D} (h:∀{C:aU} {A:Around} {s:Shared} {P:Addr→Prop} {n:Nat} {d:D} (t u:Tok),St C s→(∀a,s.heap.objs.size≤a→P a)→RA A n→r=some d→wpAny (MD C) A (call g [.int a t,.int b u]) (Post C s P d) bL s):OF g [.int a,.int b] r:=fun S f hA e r=>by
 cases r with|cons r1 r2=>cases r2 with|cons r2 r3=>
  cases r3;obtain⟨t,rfl⟩:=r1;obtain⟨u,rfl⟩:=r2;exact h t u S f hA e
noncomputable def QJ:(as:List D)→{r:Option D//OF (.builtin "len") as r}
 |[d]=>⟨(QK d).bind fun k=>if k≤1000000 then some (.int k)else none,wa fun S _ e r=>by
  refine Ub e fun k e1 e=>?_;obtain⟨q,rfl⟩:=eV e;exact Nr S e1 q r⟩
 |_=>⟨none,fun _ _ _ e=>nomatch e⟩
noncomputable def Qb:(as:List D)→{r:Option D//OF (.builtin "sum") as r}
 |[.list l]=>⟨(gu l).map fun ns=>.int ns.sum,wa fun S hA e r=>by
  (refine Um e fun ns e q0=>?_;subst q0);exact MA S hA ‹_› r⟩
 |_=>⟨none,fun _ _ _ e=>nomatch e⟩
noncomputable def QD:(as:List D)→{r:Option D//OF (.builtin "max") as r}
 |[.int a,.int b]=>⟨some (.int (if b>a then b else a)),As fun t u S f hA e=>by
  cases e;refine max_two_ints hA.hd fun h' tk hk=>gO S hk ?_;split<;>exact⟨_,rfl⟩⟩
 |[.list l]=>⟨(gu l).bind fun ns=>ns.max?.map .int,wa fun S hA h r=>by
  refine Ub h fun ns e h=>?_;(refine Um h fun m e' q0=>?_;subst q0);exact No S hA e e' r⟩
 |_=>⟨none,fun _ _ _ e=>nomatch e⟩
noncomputable def QC:(as:List D)→{r:Option D//OF (.builtin "min") as r}
 |[.int a,.int b]=>⟨some (.int (if b<a then b else a)),As fun t u S f hA e=>by
  cases e;refine min_two_ints hA.hd fun h' tk hk=>gO S hk ?_;split<;>exact⟨_,rfl⟩⟩
 |[.list l]=>⟨(gu l).bind fun ns=>ns.min?.map .int,wa fun S hA h r=>by
  refine Ub h fun ns e h=>?_;(refine Um h fun m e' q0=>?_;subst q0);exact Nn S hA e e' r⟩
 |_=>⟨none,fun _ _ _ e=>nomatch e⟩
noncomputable def UL:(as:List D)→{r:Option D//OF (.builtin "divmod") as r}
 |[.int a,.int b]=>⟨if b≠0∧sm b then some (.tup [.int (a.fdiv b),.int (a.fmod b)])else none,As fun t u S f hA e=>by
  obtain⟨q,rfl⟩:=eV e;refine divmod_int q.1 (gO (t:=_+1+1) S (fun _ _ e=>ak _ e) (sY f ?_)) (.inl (w9 (vc q.2)));exact⟨_,_,rfl,⟨_,rfl⟩,_,_,rfl,⟨_,rfl⟩,rfl⟩⟩
 |_=>⟨none,fun _ _ _ e=>nomatch e⟩
noncomputable def ox (f:Str) (as:List D):Option D:=
 if f=ofString "len" then(QJ as).1
 else if f=ofString "sum" then(Qb as).1
 else if f=ofString "max" then(QD as).1
 else if f=ofString "min" then(QC as).1
 else if f=ofString "divmod" then(UL as).1
 else none
section
variable {C:aU} {A:Around} {s:Shared} {P:Addr→Prop} {n:Nat}
theorem OW {f:Str} {as:List D} {d:D} {vs:List Value} (S:St C s) (fr:∀a,s.heap.objs.size≤a→P a) (hA:RA A n) (h:ox f as=some d) (r:mH P s.heap as vs):
 wpAny (MD C) A (call (TL f) vs) (Post C s P d) bL s:=by
 unfold ox at h;by_cases e:f=ofString "len"
 ·rw[if_pos e]at h;subst e;exact(QJ as).2 S fr hA h r
 rw[if_neg e]at h;clear e;by_cases e:f=ofString "sum"
 ·rw[if_pos e]at h;subst e;exact(Qb as).2 S fr hA h r
 rw[if_neg e]at h;clear e;by_cases e:f=ofString "max"
 ·rw[if_pos e]at h;subst e;exact(QD as).2 S fr hA h r
 rw[if_neg e]at h;clear e;by_cases e:f=ofString "min"
 ·rw[if_pos e]at h;subst e;exact(QC as).2 S fr hA h r
 rw[if_neg e]at h;clear e;by_cases e:f=ofString "divmod"
 ·rw[if_pos e]at h;subst e;exact(UL as).2 S fr hA h r
 rw[if_neg e]at h;cases h
theorem yC {h':Heap} (S:St C s) (lv:∀a,¬P a→a=65∨a=72∨∃o,s.heap.get? a=some o) (hk:∀b o,s.heap.get? b=some o→h'.get? b=some o):∀a,h'.objs.size≤a→P a:=fun a q=>by
 refine a8 fun n=>?_;have key:∃o,h'.get? a=some o:=by
  rcases lv a n with e|e|⟨o,e⟩
  ·refine Ua S.tA fun ps e1 _=>?_;exact⟨_,e▸hk _ _ e1⟩
  ·refine Ua S.tB fun ps e1 _=>?_;exact⟨_,e▸hk _ _ e1⟩
  ·exact⟨o,hk _ _ e⟩
 obtain⟨o,e⟩:=key;exact absurd q (zE.mpr (aQ e))
noncomputable def P5:(as:List D)→{r:Option D//∀{C:aU} {A:Around} {s:Shared} {P:Addr→Prop} {d:D} {vs:List Value},St C s→(∀a,¬P a→a=65∨a=72∨∃o,s.heap.get? a=some o)→r=some d→mH P s.heap as vs→wpAny (MD C) A (call (.type "tuple") vs) (Post C s P d) bL s}
 |[.list l]=>⟨if l.length≤1000000 then some (.tup l)else none,fun S lv h r=>by
  obtain⟨q,rfl⟩:=eV h;cases r with|cons r1 r2=>
   cases r2;(refine Ug r1 fun a its q0 _ _ hl hr=>?_;subst q0);have hlen:=hr.length;rw[aK]at hlen;refine call_tuple_list hl.isList (fun h' hk=>?_) (by show _≤2^24;(rw[hlen];exact ae q (by decide)));exact⟨S.grow fun b o e=>ak _ (hk b o e),.of fun b o e=>ak _ (hk b o e),
    sY (yC S lv hk) (Reps.mono (fun a o p e=>⟨hk a o e,p⟩) hr)⟩⟩
 |_=>⟨none,fun _ _ e=>nomatch e⟩
noncomputable def Ek (as:List D):Option D:=(P5 as).1
theorem My {as:List D} {d:D} {vs:List Value} (S:St C s) (lv:∀a,¬P a→a=65∨a=72∨∃o,s.heap.get? a=some o) (h:Ek as=some d) (r:mH P s.heap as vs):
 wpAny (MD C) A (call (.type "tuple") vs) (Post C s P d) bL s:=(P5 as).2 S lv h r
structure A0 (T:String) (name:Str) (id:String):Prop where
 pa:PlainAttrs T
 slot:Slot T name id
 ty:typeOf (.builtin id)=pure (.type "method_descriptor")
theorem uQ {h:Heap}:∀(xs:List (Str×Tok)),Reps P h ((xs.map (·.1)).map .str) (strValues xs)
 |[]=>rfl
 |p::r=>⟨_,_,rfl,⟨_,rfl⟩,uQ r⟩
end
noncomputable abbrev OS (f:Str) (a:D) (as:List D) (r:Option D):Prop:=∀{C:aU} {A:Around} {P:Addr→Prop} {d:D},r=some d→∃T id,A0 T f id∧∀(s:Shared) (v:Value),eU P s.heap a v→s.TypeIs v T∧(∀x,v≠.ref x)∧
 ∀(vs:List Value),St C s→(∀a,¬P a→a=65∨a=72∨∃o,s.heap.get? a=some o)→mH P s.heap as vs→wpAny (MD C) A (call (.builtin id) ([v]++vs)) (Post C s P d) bL s
theorem Aq {f x:Str} {as:List D} {r:Option D} {id:String} (R:A0 "str" f id)
 (h:∀{C:aU} {A:Around} {P:Addr→Prop} {d:D} {s:Shared} {t:Tok} {vs:List Value},r=some d→St C s→(∀a,¬P a→a=65∨a=72∨∃o,s.heap.get? a=some o)→mH P s.heap as vs→wpAny (MD C) A (call (.builtin id) ([.str x t]++vs)) (Post C s P d) bL s):OS f (.str x) as r:=fun e=>
 ⟨"str",id,R,fun s v rv=>by
  obtain⟨t,rfl⟩:=rv;exact⟨Ct _ _ _,fun x e=>(nomatch e),fun vs S lv r=>h e S lv r⟩⟩
noncomputable def LJ:(d:D)→(as:List D)→{r:Option D//OS (ofString "join") d as r}
 |.str x,[.list l]=>⟨(qL l).bind fun xs=>if JoinOk x xs=true then some (.str (HN x xs))else none,Aq ⟨xj,F.slot_str_join,F.type_str_join⟩ fun h S lv r=>by
  refine Ub h fun xs e h=>?_;obtain⟨q,rfl⟩:=eV h;cases r with|cons r1 r2=>
   cases r2;(refine Ug r1 fun b its q0 _ _ hl hr=>?_;subst q0);refine Ua (sP hr e) fun ys e1 e2=>?_;have:its=(strValues ys).toArray:=by apply nQ;rw[e1]
   rw[this]at hl;exact SC.join hl.isList e2 q fun t' k=>cO S ⟨_,rfl⟩⟩
 |_,_=>⟨none,fun e=>nomatch e⟩
noncomputable def EH:(d:D)→(as:List D)→{r:Option D//OS (ofString "split") d as r}
 |.str x,[.str y]=>⟨if(y.length==0)=false∧x.length≤1000000∧(gW x (bW x y 0 x.length (x.length+1)) y.length).length≤1000000∧
  (decide (x.length<y.length)||decide (xt x<xt y))=false∧(bW x y 0 x.length (x.length+1)).isEmpty=false then
  some (.list ((gW x (bW x y 0 x.length (x.length+1)) y.length).map .str))else none,Aq ⟨xj,Sn,F.type_str_split⟩ fun{C A P d s t vs} h S lv r=>by
  obtain⟨q,rfl⟩:=eV h;cases r with|cons r1 r2=>
   cases r2;obtain⟨u,rfl⟩:=r1;refine DB Sn (Ct _ _ _) F.entry_str_split (F.args_str_split_2 _ _) (meets_str_split_sep x y t u q.2.2.2.1 q.1 q.2.2.2.2 (by show _≤2^24;omega) (by show _≤2^24;lia)) ?_;show wants _ _ _ {s with toks:=_,heap:=s.heap.push {cls:=.type "list",data:=.seq (strsFrom s.toks (gW x (bW x y 0 x.length (x.length+1)) y.length)).toArray}};rw[strsFrom_eq];refine gO (s:=s) S (fun _ _ e=>ak _ e) (pO (yC S lv fun _ _ e=>e) ?_);have:=uQ (P:=P) (h:=s.heap) (numbered s.toks (gW x (bW x y 0 x.length (x.length+1)) y.length));rw[numbered_texts]at this;simpa using this⟩
 |_,_=>⟨none,fun e=>nomatch e⟩
noncomputable def Hc:(d:D)→(as:List D)→{r:Option D//OS (ofString "count") d as r}
 |.str x,[.str y]=>⟨some (.int (Txt.count x y)),Aq ⟨xj,F.slot_str_count,F.type_str_count⟩ fun h S lv r=>by
  cases h;cases r with|cons r1 r2=>
   cases r2;obtain⟨u,rfl⟩:=r1;exact SC.count (cO S ⟨_,rfl⟩)⟩
 |_,_=>⟨none,fun e=>nomatch e⟩
noncomputable def L7:(d:D)→(as:List D)→{r:Option D//OS (ofString "bit_length") d as r}
 |.int a,[]=>⟨some (.int (dm a)),fun h=>⟨"int","int.bit_length",⟨F.plainAttrs_int,F.slot_int_bit_length,F.type_int_bit_length⟩,fun s v rv=>by
  cases h;obtain⟨t,rfl⟩:=rv;refine⟨PY _ _ _,fun x e=>(nomatch e),fun vs S lv r=>?_⟩;cases r;exact call_int_bit_length (cO S ⟨_,rfl⟩)⟩⟩
 |_,_=>⟨none,fun e=>nomatch e⟩
noncomputable def Cy (f:Str) (d:D) (as:List D):Option D:=
 if f=ofString "join" then(LJ d as).1
 else if f=ofString "split" then(EH d as).1
 else if f=ofString "count" then(Hc d as).1
 else if f=ofString "bit_length" then(L7 d as).1
 else none
section
variable {C:aU} {A:Around} {s:Shared} {P:Addr→Prop} {n:Nat}
theorem MG {f:Str} {a:D} {as:List D} {d:D} (h:Cy f a as=some d):∃T id,A0 T f id∧∀(s:Shared) (v:Value),eU P s.heap a v→s.TypeIs v T∧(∀x,v≠.ref x)∧
 ∀(vs:List Value),St C s→(∀a,¬P a→a=65∨a=72∨∃o,s.heap.get? a=some o)→mH P s.heap as vs→wpAny (MD C) A (call (.builtin id) ([v]++vs)) (Post C s P d) bL s:=by
 unfold Cy at h;by_cases e:f=ofString "join"
 ·rw[if_pos e]at h;subst e;exact(LJ a as).2 h
 rw[if_neg e]at h;clear e;by_cases e:f=ofString "split"
 ·rw[if_pos e]at h;subst e;exact(EH a as).2 h
 rw[if_neg e]at h;clear e;by_cases e:f=ofString "count"
 ·rw[if_pos e]at h;subst e;exact(Hc a as).2 h
 rw[if_neg e]at h;clear e;by_cases e:f=ofString "bit_length"
 ·rw[if_pos e]at h;subst e;exact(L7 a as).2 h
 rw[if_neg e]at h;cases h
end
noncomputable abbrev NS:=List (Str×NameKind)
set_option genInjectivity false in
structure Cx where
 call:Str→List D→Option D
 meth:Str→D→List D→Option D
noncomputable def wD:Const→Option D
 |.none=>some .none
 |.bool b=>some (.bool b)
 |.int i=>some (.int i)
 |.str s=>some (.str s)
 |_=>none
noncomputable def gD (x:Str):Option D:=
 if x=ofString "NT_OFFSET" then some (.int 256)else
 if x=ofString "ENDMARKER" then some (.int 0)else
 if x=ofString "_DIV_LIMIT" then some (.int 4000)else
 if x=ofString "EXACT_TOKEN_TYPES" then some .dic else none
noncomputable def rU:Str:=ofString "__debug__"
noncomputable def Ay:Str:=ofString "__classdict__"
noncomputable def mD (sc:NS) (M:MM) (x:Str):Option D:=
 if x=rU∨x=Ay then none else
 match sc.lookup x with
 |some .local=>(match M.lookup x with|some (.dat d)=>some d|_=>none)
 |some .cell=>(match M.lookup x with|some (.dat d)=>some d|_=>none)
 |some .free=>(match M.lookup x with|some (.dat d)=>some d|_=>none)
 |some .globalImplicit=>gD x
 |_=>none
noncomputable def yi:(e:Expr)→{b:Bool//b=true→∃x p,e=.Name x p}
 |.Name x p=>⟨true,fun _=>⟨x,p,rfl⟩⟩
 |_=>⟨false,nofun⟩
noncomputable def jc (sc:NS) (c:Str) (M:MM):Option (List D):=if c=rU then none else
 match sc.lookup c,M.lookup c with
 |some .local,some (.own l)=>some l
 |_,_=>none
noncomputable def Jn (sc:NS) (M:MM) (e:Expr):Option D:=if(yi e).1=true then(jc sc (ju e).x M).map .list else none
noncomputable def ja (f:Expr→Option D) (sc:NS) (M:MM) (e:Expr):Option D:=match Jn sc M e with|some d=>some d|none=>f e
noncomputable def di (f:Expr→Option D):List Expr→Option (List D)
 |[]=>some []
 |e::r=>match f e,di f r with|some d,some ds=>some (d::ds)|_,_=>none
noncomputable def bK:List Expr→Bool
 |[]=>true
 |e::r=>!Nat.beq (Rt e) 4&&bK r
noncomputable def jj (e:Expr):Bool:=mK (Rt e) 2
noncomputable def gK (e:Expr):Bool:=mK (Rt e) 1
noncomputable def dY (sc:NS) (x:Str):Bool:=decide (x≠rU)&&(match sc.lookup x with|some .globalImplicit=>true|_=>false)
noncomputable def biNames:List Str:=[ofString "len",ofString "sum",ofString "max",ofString "min",ofString "divmod"]
noncomputable def tC (x:Str):Bool:=biNames.any fun y=>decide (y=x)
noncomputable def ri:D→Str→Option D
 |.obj l,x=>(fieldNames.zip l).lookup x
 |.objAt _ _ l,x=>(fieldNames.zip l).lookup x
 |_,_=>none
noncomputable def uB (sc:NS) (v:Expr) (x:Str):Option D:=if((yi v).1&&(dY sc (ju v).x&&decide ((ju v).x=ofString "Whitespace")))=true then
 (if x=ofString "S" then some (.str (ofString " "))else if x=ofString "T" then some (.str (ofString "\t"))else none)else none
noncomputable def iZ:D→Option (List D)
 |.list l=>if l.length≤1000000 then some l else none
 |.tup l=>if l.length≤1000000 then some l else none
 |.str x=>if x.length≤1000000 then some (x.cps.toList.map fun c=>.str ⟨#[c]⟩)else none
 |_=>none
noncomputable def j9 (a b:Int):Option (List D):=
 if-1000000≤a∧a≤1000000∧-1000000≤b∧b≤1000000∧b-a≤1000000 then some ((co (b-a).toNat).map fun(k:Nat)=>D.int (a+(k:Int)))else none
noncomputable def cW (sc names:NS):NS:=names.map fun p=>if p.2==.free&&sc.lookup p.1==some .cell then(p.1,.cell)else p
noncomputable def capt (sc:NS) (M:MM):MM:=M.filter fun p=>sc.lookup p.1==some .cell||sc.lookup p.1==some .free
noncomputable def nF (sc:NS) (s:Scope):Bool:=
 (match s.kind with|.function=>true|_=>false)&&s.names.all fun p=>match p.2 with
  |.cell=>false
  |.local=>s.names.lookup p.1==some .local
  |.free=>sc.lookup p.1==some .cell||sc.lookup p.1==some .free
  |.globalImplicit=>true
  |_=>false
noncomputable def nK (f:Expr→Option Bool):List Expr→Option Bool
 |[]=>some true
 |e::r=>match f e with|some true=>nK f r|some false=>some false|none=>none
noncomputable def uD (f:Expr→Option Bool):List Expr→Option Bool
 |[]=>some false
 |e::r=>match f e with|some false=>uD f r|some true=>some true|none=>none
noncomputable def lj (f:Expr→Option D) (a:D):List CmpOp→List Expr→Option Bool
 |[op],[r]=>(f r).bind fun b=>ia op a b
 |op::op'::nv,r::r'::rs=>(f r).bind fun b=>match ia op a b with
  |some true=>lj f b (op'::nv) (r'::rs)
  |some false=>some false
  |none=>none
 |_,_=>none
noncomputable def vw (f:Expr→Option D) (op:BoolOp):List Expr→Option D
 |[]=>none
 |[x]=>f x
 |x::r=>(f x).bind fun d=>match ux d,op with
  |some false,.And=>some d
  |some true,.Or=>some d
  |some _,_=>vw f op r
  |none,_=>none
noncomputable def mB (f:Expr→Option D):Option Expr→Option (Option Int)
 |none=>some none
 |some e=>(f e).bind fun d=>Fq (some d)
noncomputable def fw (f:D→Option (List D)):List D→Option (List D)
 |[]=>some []
 |d::r=>match f d,fw f r with|some x,some xs=>some (x++xs)|_,_=>none
noncomputable def E2:(as:List D)→{r:Option (List D)//∀ds,r=some ds→(∃b,as=[.int b]∧j9 0 b=some ds)∨∃a b,as=[.int a,.int b]∧j9 a b=some ds}
 |[.int b]=>⟨j9 0 b,fun _ h=>.inl ⟨b,rfl,h⟩⟩
 |[.int a,.int b]=>⟨j9 a b,fun _ h=>.inr ⟨a,b,rfl,h⟩⟩
 |_=>⟨none,fun _ h=>nomatch h⟩
noncomputable def iV (as:List D):Option (List D):=(E2 as).1
theorem Ah {as ds:List D} (h:iV as=some ds):(∃b,as=[.int b]∧j9 0 b=some ds)∨∃a b,as=[.int a,.int b]∧j9 a b=some ds:=(E2 as).2 ds h
noncomputable def Qh:(as:List D)→{r:Option (List D)//∀ds,r=some ds→∃l,as=[.list l]∧l.length≤1000000∧l.reverse=ds}
 |[.list l]=>⟨if l.length≤1000000 then some l.reverse else none,fun _ h=>⟨l,rfl,eV h⟩⟩
 |_=>⟨none,fun _ h=>nomatch h⟩
noncomputable def CE (as:List D):Option (List D):=(Qh as).1
theorem EW {as ds:List D} (h:CE as=some ds):∃l,as=[.list l]∧l.length≤1000000∧l.reverse=ds:=(Qh as).2 ds h
noncomputable def we (e:Expr):Bool:=!Nat.beq (Rt e) 3
noncomputable def Rv (f g:Expr→Option D) (X:Cx) (name:Str) (args:List Expr):(a:D)→{r:Option D//∀d,r=some d→(∃l as,a=.obj l∧di f args=some as∧X.meth name a as=some d)∨∃as,di g args=some as∧Cy name a as=some d}
 |.obj l=>⟨(di f args).bind fun as=>X.meth name (.obj l) as,fun _ h=>let⟨as,e1,e2⟩:=mI.mp h;.inl ⟨l,as,rfl,e1,e2⟩⟩
 |a=>⟨(di g args).bind fun as=>Cy name a as,fun _ h=>let⟨as,e1,e2⟩:=mI.mp h;.inr ⟨as,e1,e2⟩⟩
noncomputable def Oq (f g:Expr→Option D) (X:Cx) (name:Str) (args:List Expr) (a:D):Option D:=(Rv f g X name args a).1
noncomputable def SB (c:Option Bool) (a b:Option D):Option D:=c.bind fun c=>if c=true then a else b
section
variable {prog:Program} {w:World} {A:Around} {E:Value→Shared→Prop} {R:Result→Shared→Prop} {s:Shared} {env:Env}
noncomputable def Mz (ifs:List Expr) (env:Env):Sem Bool:=forIn ifs true fun c r=>if r=true then do let ok←isTrue c env (eval c env);pure (ie ok)else pure (ie r)
theorem xz {α:Type} {M:Model} {t:Sem α} {Q:α→Shared→Prop} (h:wpAny M A t Q bL s):wpAny M A t Q E s:=aa h (fun _ _ q=>q) fun _ _ f=>f.elim
noncomputable def HO (prog:Program) (w:World) (A:Around) (env:Env) (L:Code) (target elt:Expr) (ifs:List Expr) (it acc:Value):Prop:=∀(R:Result→Shared→Prop) (s:Shared),
 wpAny (model prog w) A (pyNext it) (fun r az=>match r with
  |none=>R (.ok .next) az
  |some v=>wpAny (model prog w) A (assign target env v) (fun _ aV=>wpAny (model prog w) A (Mz ifs env) (fun ok bq=>
   if ok=true then wpAny (model prog w) A (eval elt env) (fun x eG=>wpAny (model prog w) A (call (.builtin "list.append") [acc,x]) (fun _ jg=>
    codeAny (model prog w) A L R jg) bL eG) bL bq
   else codeAny (model prog w) A L R bq) bL aV) bL az) bL s→codeAny (model prog w) A L R s
theorem P4 {elt target iter:Expr} {ifs:List Expr} {scope:Scope} {pos:Pos} {it acc:Value} (ht:∀v,letOwnedTupleGo target it v=pure ()):
 HO prog w A env (.compLoop (.ListComp elt [⟨target,iter,ifs,0⟩] scope pos) 0 it acc env) target elt ifs it acc:=fun R s h=>by
 refine gV ?_;show wpAny _ A ((compTurn (.ListComp elt [⟨target,iter,ifs,0⟩] scope pos) 0 it acc env).onRaise (fun x=>do noteFrame x env;theTreesLotGoes x)) _ _ s;refine nS (xz ?_);rw[Vp];refine aq (bM (aq (aa h (fun r az bV=>?_) fun _ _ h'=>h')));cases r with
 |none=>exact aI bV
 |some v=>
  refine aq (iM (ht v) ?_);refine aq (aa bV (fun _ aV bR=>aq (aa bR (fun ok bq dM=>?_) fun _ _ h'=>h')) fun _ _ h'=>h');cases ok with
  |false=>exact aI ⟨rfl,dM⟩
  |true=>exact aq (aq (aa dM (fun x eG jF=>aq (aa jF (fun _ jg jk=>aI (aI ⟨rfl,jk⟩)) fun _ _ h'=>h')) fun _ _ h'=>h'))
theorem yX (elt t1 i1 target iter:Expr) (ifs:List Expr) (scope:Scope) (pos:Pos) (it acc:Value) (env:Env):
 compTurn (.ListComp elt [⟨t1,i1,[],0⟩,⟨target,iter,ifs,0⟩] scope pos) 1 it acc env=(do
  standAt iter.pos
  match←pyNext it with
  |none=>pure (.done .next)
  |some v=>
   letOwnedTupleGo target it v
   assign target env v
   let mut ok:=true
   for c in ifs do
    if ok then ok←isTrue c env (eval c env)
   if ok then
    (do let _←call (.builtin "list.append") [acc,←eval elt env])
   again (.compLoop (.ListComp elt [⟨t1,i1,[],0⟩,⟨target,iter,ifs,0⟩] scope pos) 1 it acc env)):=by rfl
theorem Lh {elt t1 i1 t2 i2:Expr} {ifs:List Expr} {scope:Scope} {pos:Pos} {it acc:Value}
 (h:wpAny (model prog w) A (pyNext it) (fun r az=>match r with
  |none=>R (.ok .next) az
  |some v=>wpAny (model prog w) A (assign t1 env v) (fun _ aV=>wpAny (model prog w) A (eval i2 env) (fun x bq=>wpAny (model prog w) A (pyIter x) (fun it2 eG=>
   codeAny (model prog w) A (.compStart (.ListComp elt [⟨t1,i1,[],0⟩,⟨t2,i2,ifs,0⟩] scope pos) 1 it2 acc env) (fun r s'=>match r with
    |.ok _=>codeAny (model prog w) A (.compLoop (.ListComp elt [⟨t1,i1,[],0⟩,⟨t2,i2,ifs,0⟩] scope pos) 0 it acc env) R s'
    |.error _=>False) eG) bL bq) bL aV) bL az) bL s)
 (ht:∀v,letOwnedTupleGo t1 it v=pure ()) (hs:∀x,foldedSetIterable i2 env x=pure x) (hh:A.mark none=A):
 codeAny (model prog w) A (.compLoop (.ListComp elt [⟨t1,i1,[],0⟩,⟨t2,i2,ifs,0⟩] scope pos) 0 it acc env) R s:=by
 refine gV ?_;show wpAny _ A ((compTurn (.ListComp elt [⟨t1,i1,[],0⟩,⟨t2,i2,ifs,0⟩] scope pos) 0 it acc env).onRaise (fun x=>do noteFrame x env;theTreesLotGoes x)) _ _ s;refine nS (xz ?_);show wpAny _ A (standAt i1.pos>>=fun _=>pyNext it>>=fun r=>match r with
  |none=>pure (.done .next)
  |some v=>letOwnedTupleGo t1 it v>>=fun _=>assign t1 env v>>=fun _=>eval i2 env>>=fun x=>standAt i2.pos>>=fun _=>foldedSetIterable i2 env x>>=fun x=>(holding [x] (pyIter x))>>=fun it2=>
   runOwn (.compStart (.ListComp elt [⟨t1,i1,[],0⟩,⟨t2,i2,ifs,0⟩] scope pos) 1 it2 acc env) env>>=fun _=>
   again (.compLoop (.ListComp elt [⟨t1,i1,[],0⟩,⟨t2,i2,ifs,0⟩] scope pos) 0 it acc env)) _ _ s;refine aq (bM (aq (aa h (fun r az bV=>?_) fun _ _ h'=>h')));cases r with
 |none=>exact aI bV
 |some v=>
  refine aq (iM (ht v) ?_);refine aq (aa bV (fun _ aV bR=>?_) fun _ _ h'=>h');refine aq (aa bR (fun x bq dM=>?_) fun _ _ h'=>h');refine aq (bM (aq (iM (hs x) ?_)));refine aq (fk (aa dM (fun it2 eG jF=>?_) fun _ _ h'=>h'));refine aq (wpAny_runOwn ?_);rw[hh];refine wI jF fun r s' hr=>?_;cases r with
  |ok f=>exact aI ⟨rfl,hr⟩
  |error e=>exact hr.elim
theorem P3 {elt t1 i1 target iter:Expr} {ifs:List Expr} {scope:Scope} {pos:Pos} {it acc:Value} (ht:∀v,letOwnedTupleGo target it v=pure ()):
 HO prog w A env (.compLoop (.ListComp elt [⟨t1,i1,[],0⟩,⟨target,iter,ifs,0⟩] scope pos) 1 it acc env) target elt ifs it acc:=fun R s h=>by
 refine gV ?_;show wpAny _ A ((compTurn (.ListComp elt [⟨t1,i1,[],0⟩,⟨target,iter,ifs,0⟩] scope pos) 1 it acc env).onRaise (fun x=>do noteFrame x env;theTreesLotGoes x)) _ _ s;refine nS (xz ?_);rw[yX];refine aq (bM (aq (aa h (fun r az bV=>?_) fun _ _ h'=>h')));cases r with
 |none=>exact aI bV
 |some v=>
  refine aq (iM (ht v) ?_);refine aq (aa bV (fun _ aV bR=>aq (aa bR (fun ok bq dM=>?_) fun _ _ h'=>h')) fun _ _ h'=>h');cases ok with
  |false=>exact aI ⟨rfl,dM⟩
  |true=>exact aq (aq (aa dM (fun x eG jF=>aq (aa jF (fun _ jg jk=>aI (aI ⟨rfl,jk⟩)) fun _ _ h'=>h')) fun _ _ h'=>h'))
theorem qM {e:Expr} {d:Nat} {g:Comprehension} {it acc:Value} (hg:(clausesOf e)[d]?=some g) (ha:g.is_async=0) (hf:(pv e d it acc env).isFrame=false)
 (hu:A.under (.compStart e d it acc env)=A) (hq:∀it,(zV e d it acc env).quiet=true)
 (h0:codeAny (model prog w) A (.compLoop e d it acc env) R s)
 (h:wpAny (model prog w) A (pyIter it) (fun it' s'=>codeAny (model prog w) A (.compLoop e d it' acc env) R s') bL s):
 codeAny (model prog w) A (.compStart e d it acc env) R s:=by
 refine gV ?_;rw[hu];show wpAny _ A (if(pv e d it acc env).isFrame then(compStart e d it acc env).onRaise (leaving env)else(compStart e d it acc env).onRaise (fun x=>do noteFrame x env;standAt theWindowsPlace)) _ _ s;rw[hf];simp only[lF,if_false];refine wpAny_notedAt (xz ?_);unfold compStart;rw[hg];have e0:(some g).elim false (fun x=>x.is_async !=0)=false:=by show(g.is_async !=0)=false;rw[ha];rfl
 simp only[e0,lF,if_false];show wpAny _ A (ask>>=_) _ _ s;refine aq (SM (wpAny_ite ?_));split
 ·first
   |exact aq (aI (aI (Ck (hq _) h0)))
   |exact aI (Ck (hq _) h0)
 ·first
   |exact aq (PU (aq (bM (aq (aa h (fun it' s' h'=>aI (Ck (hq _) h')) fun _ _ x=>x)))))
   |(refine aq (PU ?_);show wpAny _ _ (standAt g.iter.pos>>=_) _ _ s;exact aq (bM (aq (aa h (fun it' s' h'=>aI (Ck (hq _) h')) fun _ _ x=>x))))
theorem Bc {target it:_} {body orelse:List Stmt}
 (h:wpAny (model prog w) A (pyNext it) (fun r az=>match r with
  |none=>wpAny (model prog w) A (execs orelse env) (fun f bq=>R (.ok f) bq) bL az
  |some v=>wpAny (model prog w) A (letOwnedTupleGo target it v) (fun _ Ll=>wpAny (model prog w) A (assign target env v) (fun _ aV=>wpAny (model prog w) A (execs body env) (fun f bq=>match f with
   |.next|.cont=>codeAny (model prog w) A (.forLoop target it body orelse env) R bq
   |.brk=>R (.ok .next) bq
   |.ret v=>R (.ok (.ret v)) bq) bL aV) bL Ll) bL az) bL s):codeAny (model prog w) A (.forLoop target it body orelse env) R s:=by
 refine gV ?_;show wpAny _ A ((forTurn target it body orelse env).onRaise (fun x=>do noteFrame x env;theTreesLotGoes x)) _ _ s;refine nS (xz ?_);unfold forTurn;refine aq (bM (aq (Vm (aa h (fun r az bV=>?_) fun _ _ h'=>h'.elim))));cases r with
 |none=>exact aI ⟨rfl,codeAny_block (xz bV)⟩
 |some v=>
  refine aq (aa bV (fun _ Ll Q0=>?_) fun _ _ h'=>h');refine aq (aa Q0 (fun _ aV bR=>aq (aa bR (fun f bq dM=>?_) fun _ _ h'=>h')) fun _ _ h'=>h');cases f with
  |next=>exact aI ⟨rfl,dM⟩
  |cont=>exact aI ⟨rfl,dM⟩
  |brk=>exact aI dM
  |ret v=>exact aI dM
theorem Lf {test:Expr} {body orelse:List Stmt}
 (h:wpAny (model prog w) A (isTrue test env (eval test env)) (fun b az=>if b=true then wpAny (model prog w) A (execs body env) (fun f bq=>match f with
  |.next|.cont=>codeAny (model prog w) A (.whileLoop test body orelse env) R bq
  |.brk=>R (.ok .next) bq
  |.ret v=>R (.ok (.ret v)) bq) bL az else wpAny (model prog w) A (execs orelse env) (fun f bq=>R (.ok f) bq) bL az) bL s):codeAny (model prog w) A (.whileLoop test body orelse env) R s:=by
 refine gV ?_;show wpAny _ A ((whileTurn test body orelse env).onRaise (fun x=>do noteFrame x env;theTreesLotGoes x)) _ _ s;refine nS (xz ?_);unfold whileTurn;refine aq (aa h (fun b az bV=>?_) fun _ _ h'=>h');cases b with
 |false=>exact aq (aa bV (fun f bq dM=>aI dM) fun _ _ h'=>h')
 |true=>
  refine aq (aa bV (fun f bq dM=>?_) fun _ _ h'=>h');cases f with
  |next=>exact aI ⟨rfl,dM⟩
  |cont=>exact aI ⟨rfl,dM⟩
  |brk=>exact aI dM
  |ret v=>exact aI dM
end
noncomputable abbrev Kf (C:aU):Frag:=C.K
structure CallOK (C:aU) (k:Nat) (fv:Value) (ds:List D) (d:D):Prop where
 run:∀{A:Around} {s:Shared} {P:Addr→Prop} {vs:List Value},RA A k→St C s→Live P s.heap→¬P 65∧¬P 72→Reps P s.heap ds vs→wpAny (MD C) A (call fv vs) (Post C s P d) bL s
structure CxOK (C:aU) (X:Cx) (k:Nat):Prop where
 call:∀{f ds d},X.call f ds=some d→∃fv,nsIn (Kf C) mainGlobals f=some (some fv)∧keepIn (Kf C) fv=true∧CallOK C k fv ds d
 meth:∀{f l ds d},X.meth f (.obj l) ds=some d→∃fn,findIn (Kf C) (.ref g7) f=some (some (.ref fn))∧isFn (Kf C) (.ref fn)=true∧keepIn (Kf C) (.ref fn)=true∧(f∉fieldNames∧(bC==f)=false)∧plainGet (Kf C) g7 f=true∧CallOK C k (.ref fn) (.obj l::ds) d
section
variable {C:aU} {A:Around} {s:Shared} {ah:Addr→Prop} {μ:List Addr} {env:Env} {m:Str→Option Value} {M:MM} {k:Nat}
theorem sx {x:Str} {v:Value} {Q:Value→Shared→Prop} {pos:Pos} (F:FI ah μ s.heap env m M) (S:St C s) (hx:env.kindOf x=some .globalImplicit) (hd:x≠rU)
 (e:nsIn (Kf C) mainGlobals x=some (some v)) (h:Q v s):wpAny (MD C) A (eval (.Name x pos) env) Q bL s:=
 Pn F.kind hx (loadGlobal_global (by rw[F.glob];exact C.g.keeps S.g) (mg_of C.X C.g e) h) (beq_eq_false_iff_ne.mpr hd)
theorem om {x:Str} {v:Value} {Q:Value→Shared→Prop} {pos:Pos} (F:FI ah μ s.heap env m M) (S:St C s) (hx:env.kindOf x=some .globalImplicit) (hd:x≠rU)
 (e:nsIn (Kf C) mainGlobals x=some none) (hv:bootBuiltins x=some v) (hn:x≠"__name__") (h:Q v s):wpAny (MD C) A (eval (.Name x pos) env) Q bL s:=
 Pn F.kind hx (loadGlobal_builtin (by rw[F.glob];exact C.g.keeps S.g) (mg_none_of C.X C.g e) (by rw[F.bi];exact C.b.keeps S.g) ((C.builtins x hn).trans hv) h) (beq_eq_false_iff_ne.mpr hd)
theorem Qu (C:aU):nsIn (Kf C) mainGlobals (ofString "NT_OFFSET")=some (some (.int 256 521)):=C.F.ns (by kernel_rfl)
theorem Qv (C:aU):nsIn (Kf C) mainGlobals (ofString "ENDMARKER")=some (some (.int 0 423)):=C.F.ns (by kernel_rfl)
theorem Qw (C:aU):nsIn (Kf C) mainGlobals (ofString "_DIV_LIMIT")=some (some (.int 4000 239)):=C.F.ns (by kernel_rfl)
theorem Nc (C:aU):nsIn (Kf C) mainGlobals (ofString "EXACT_TOKEN_TYPES")=some (some (.ref 158)):=C.F.ns (by kernel_rfl)
theorem Rf {x:Str} {d:D} (h:gD x=some d):∃v,nsIn (Kf C) mainGlobals x=some (some v)∧∀P h,Rep P h d v:=by
 unfold gD at h;split at h
 ·rename_i e;subst e;cases h;exact⟨_,Qu _,fun _ _=>⟨_,rfl⟩⟩
 split at h
 ·rename_i e;subst e;cases h;exact⟨_,Qv _,fun _ _=>⟨_,rfl⟩⟩
 split at h
 ·rename_i e;subst e;cases h;exact⟨_,Qw _,fun _ _=>⟨_,rfl⟩⟩
 split at h
 ·rename_i e;subst e;cases h;exact⟨_,Nc _,fun _ _=>rfl⟩
 ·cases h
theorem Go {α:Type} {c:Prop} [Decidable c] {a:Option α} {b:α} (h:(if c then none else a)=some b):¬c∧a=some b:=by
 by_cases q:c
 ·rw[if_pos q]at h;cases h
 ·rw[if_neg q]at h;exact⟨q,h⟩
theorem wC {m:Option Ent} {d:D} (h:(match m with|some (.dat d)=>some d|_=>none)=some d):m=some (.dat d):=by
 cases m with
 |none=>cases h
 |some e=>cases e with
  |own l=>cases h
  |dat d=>cases h;rfl
theorem vA {f:Expr→Option Bool} {e:Expr} {r:List Expr}:nK f (e::r)=(match f e with|some true=>nK f r|some false=>some false|none=>none):=rfl
theorem vz {f:Expr→Option Bool} {e:Expr} {r:List Expr}:uD f (e::r)=(match f e with|some false=>uD f r|some true=>some true|none=>none):=rfl
theorem zf {f:Expr→Option Bool} {e:Expr} {r:List Expr} {b:Bool} (h:nK f (e::r)=some b) {G:Prop} (k1:f e=some true→nK f r=some b→G) (k2:f e=some false→b=false→G):G:=by
 replace h:(match f e with|some true=>nK f r|some false=>some false|none=>none)=some b:=h;generalize f e=o at h k1 k2;cases o with
 |none=>cases h
 |some c=>cases c with
  |true=>exact k1 rfl h
  |false=>cases h;exact k2 rfl rfl
theorem HC {f:Expr→Option Bool} {e:Expr} {r:List Expr} {b:Bool} (h:uD f (e::r)=some b) {G:Prop} (k1:f e=some false→uD f r=some b→G) (k2:f e=some true→b=true→G):G:=by
 replace h:(match f e with|some false=>uD f r|some true=>some true|none=>none)=some b:=h;generalize f e=o at h k1 k2;cases o with
 |none=>cases h
 |some c=>cases c with
  |false=>exact k1 rfl h
  |true=>cases h;exact k2 rfl rfl
theorem yk {f:Expr→Option D} {e:Expr} {r:List Expr} {ds:List D} (h:di f (e::r)=some ds):∃d ds',f e=some d∧di f r=some ds'∧ds=d::ds':=by
 replace h:(match f e,di f r with|some d,some ds=>some (d::ds)|_,_=>none)=some ds:=h;generalize f e=a at h⊢;generalize di f r=b at h⊢;cases a with
 |none=>cases h
 |some d=>cases b with
  |none=>cases h
  |some ds'=>cases h;exact⟨d,ds',rfl,rfl,rfl⟩
theorem uV {sc:NS} {x:Str} {l:List D} (h:jc sc x M=some l):x≠rU∧sc.lookup x=some .local∧M.lookup x=some (.own l):=by
 have q:=Go h;have h2:=q.2;refine⟨q.1,?_⟩;generalize sc.lookup x=o at h2⊢;generalize M.lookup x=m at h2⊢;cases o with
 |none=>cases h2
 |some o=>
  cases o<;>first|(cases h2;done)|skip
  cases m with
  |none=>cases h2
  |some m=>cases m with
   |dat _=>cases h2
   |own l=>cases h2;exact⟨rfl,rfl⟩
theorem Js {x:Str} {d:D} {pos:Pos} (h:mD env.scope.names M x=some d) (F:FI ah μ s.heap env m M) (S:St C s):wpAny (MD C) A (eval (.Name x pos) env) (Post C s (Pm ah μ) d) bL s:=by
 unfold mD at h;have hd:=not_or.mp (Go h).1;have h:=(Go h).2;have hd1:(x==("__debug__":Str))=false:=beq_eq_false_iff_ne.mpr hd.1;generalize hk:env.scope.names.lookup x=o at h;cases o with
 |none=>cases h
 |some o=>cases o with
  |«local»=>
   refine Ua (F.loc x _ (wC h) hk) fun v e1 e2=>?_;exact iO (iN F.kind hk F.ns e1 (ei S e2)) hd1
  |cell=>
   refine Ui (F.cval x _ (wC h) (.inl hk)) fun c v d' e1 e2 e3 e4=>?_;cases e3;exact iO (sM F.kind hk e1 e2 (ei S e4)) hd1
  |free=>
   refine Ui (F.cval x _ (wC h) (.inr hk)) fun c v d' e1 e2 e3 e4=>?_;cases e3;exact iO (sL F.kind hk e1 e2 (ei S e4) (beq_eq_false_iff_ne.mpr hd.2)) hd1
  |globalImplicit=>
   refine Ua (Rf (C:=C) h) fun v e1 e2=>?_;exact sx F S hk hd.1 e1 (ei S (e2 _ _))
  |_=>cases h
theorem MW {e:Expr} {d:D} (h:Jn env.scope.names M e=some d) (F:FI ah μ s.heap env m M) (S:St C s):wpAny (MD C) A (eval e env) (PostR C s (Pm ah μ) d) bL s:=by
 obtain⟨hn,h⟩:=dw (show(if _ then _ else none)=some d from h);obtain⟨x,pos,rfl⟩:=(yi e).2 hn;(refine Um h fun l e q=>?_;subst q);refine Ud (uV e) fun hd hk hM=>?_;obtain⟨v,e1,a,vs,rfl,p0,ha,hl,hr⟩:=F.loc x _ hM hk;refine Ud (F.liveμ a ha) fun n1 n2 _=>?_;exact iO (iN F.kind hk F.ns e1 ⟨S,.refl,a,vs,rfl,n1,n2,hl,hr⟩) (beq_eq_false_iff_ne.mpr hd)
theorem Qj {f:Expr→Option D} {e:Expr} {d:D} (h:ja f env.scope.names M e=some d) (F:FI ah μ s.heap env m M) (S:St C s)
 (hf:∀d,f e=some d→wpAny (MD C) A (eval e env) (Post C s (Pm ah μ) d) bL s):wpAny (MD C) A (eval e env) (PostR C s (Pm ah μ) d) bL s:=by
 unfold ja at h;generalize e':Jn env.scope.names M e=o at h;cases o with
 |some d'=>cases h;exact MW e' F S
 |none=>exact aa (hf d h) (fun v s' q=>⟨q.1,q.2.1,q.2.2.toR F.tabm⟩) fun _ _ f=>f.elim
theorem xN:∀{es:List Expr},bK es=true→starEach es env=es.map fun e=>(false,eval e env)
 |[]=>@fun _=>rfl
 |e::r=>@fun h=>by
  cases e<;>first|(cases h;done)|(show(false,_)::starEach r env=_;rw[xN (es:=r) h];rfl)
theorem l7 {es:List Expr} {pos:Pos} (h:bK es=true):backTo pos (starEach es env)=es.map fun e=>(false,eval e env):=by
 rw[xN h];unfold backTo;rw[be];rfl
inductive All2 (R:D→Value→Prop):List D→List Value→Prop
 |nil:All2 R [] []
 |cons {d ds v vs}:R d v→All2 R ds vs→All2 R (d::ds) (v::vs)
theorem All2.reps {P:Addr→Prop} {h:Heap} {ds vs} (a:All2 (Rep P h) ds vs):Reps P h ds vs:=by
 induction a with
 |nil=>exact rfl
 |cons a _ ih=>exact⟨_,_,rfl,a,ih⟩
theorem All2.repRs {P:Addr→Prop} {h:Heap} {ds vs} (a:All2 (eU P h) ds vs):mH P h ds vs:=by
 induction a with
 |nil=>exact .nil
 |cons a _ ih=>exact .cons a ih
theorem wU {R:Heap→D→Value→Prop} (hR:∀{h h' d v},Keep h h'→R h d v→R h' d v) {f:Expr→Option D}
 (hf:∀(e:Expr) (d:D) (s:Shared),f e=some d→FI ah μ s.heap env m M→St C s→wpAny (MD C) A (eval e env) (fun v s'=>St C s'∧Keep s.heap s'.heap∧R s'.heap d v) bL s):
 ∀{es:List Expr} {ds:List D} {s:Shared},di f es=some ds→FI ah μ s.heap env m M→St C s→
  wpAny (MD C) A (spliced (es.map fun e=>(false,eval e env))) (fun vs s'=>St C s'∧Keep s.heap s'.heap∧All2 (R s'.heap) ds vs) bL s
 |[],ds,s,h=>fun F S=>by cases h;exact spliced_nil ⟨S,.refl,.nil⟩
 |e::r,ds,s,h=>fun F S=>by
  ·obtain⟨d,ds',e1,e2,rfl⟩:=yk h
   refine spliced_cons (aa (hf _ _ _ e1 F S) (fun v az bV=>?_) fun _ _ x=>x);refine Ud bV fun bu bN S5=>?_;refine aa (wU (R:=R) hR hf e2 (F.keep bN) bu) (fun vs aV bR=>?_) fun _ _ x=>x;refine Ud bR fun eA d9 S4=>?_;exact⟨eA,bN.trans d9,.cons (hR d9 S5) S4⟩
theorem dQ {fv:Value} {es:List Expr} {pos:Pos} {Q:List Value→Shared→Prop} (hs:bK es=true) (h:wpAny (MD C) A (spliced (es.map fun e=>(false,eval e env))) Q bL s):
 wpAny (MD C) A (evalArgs fv true (backTo pos (starEach es env)) []) (fun a s'=>a.kw=[]∧Q a.pos s') bL s:=by
 rw[l7 hs];cases es with
 |nil=>
  unfold evalArgs;show wpAny (MD C) A (spliced []>>=_) _ _ s;refine aq (aa h (fun vs s' q=>?_) fun _ _ x=>x);refine aq (aI (fk (aq (aI (aq (aI (aI ⟨rfl,?_⟩)))))));exact q
 |cons e r=>exact evalArgs_plain (aa h (fun vs s' q=>⟨rfl,q⟩) fun _ _ x=>x)
end
theorem Post.after {C:aU} {s az s':Shared} {P:Addr→Prop} {d:D} {v:Value} (k:Keep s.heap az.heap) (q:Post C az P d v s'):Post C s P d v s':=⟨q.1,k.trans q.2.1,q.2.2⟩
theorem PostR.after {C:aU} {s az s':Shared} {P:Addr→Prop} {d:D} {v:Value} (k:Keep s.heap az.heap) (q:PostR C az P d v s'):PostR C s P d v s':=⟨q.1,k.trans q.2.1,q.2.2⟩
theorem PostB.after {C:aU} {s az s':Shared} {b c:Bool} (k:Keep s.heap az.heap) (q:PostB C az b c s'):PostB C s b c s':=⟨q.1,q.2.1,k.trans q.2.2⟩
section
variable {C:aU} {A:Around} {s:Shared} {ah:Addr→Prop} {μ:List Addr} {env:Env} {m:Str→Option Value} {M:MM} {k:Nat}
noncomputable def HE (C:aU) (A:Around) (ah:Addr→Prop) (μ:List Addr) (env:Env) (m:Str→Option Value) (M:MM) (f:Expr→Option D):Prop:=
 ∀(e:Expr) (d:D) (s:Shared),f e=some d→FI ah μ s.heap env m M→St C s→wpAny (MD C) A (eval e env) (Post C s (Pm ah μ) d) bL s
noncomputable def HR (C:aU) (A:Around) (ah:Addr→Prop) (μ:List Addr) (env:Env) (m:Str→Option Value) (M:MM) (f:Expr→Option D):Prop:=
 ∀(e:Expr) (d:D) (s:Shared),f e=some d→FI ah μ s.heap env m M→St C s→wpAny (MD C) A (eval e env) (PostR C s (Pm ah μ) d) bL s
noncomputable def HT (C:aU) (A:Around) (ah:Addr→Prop) (μ:List Addr) (env:Env) (m:Str→Option Value) (M:MM) (f:Expr→Option Bool):Prop:=
 ∀(e:Expr) (b:Bool) (s:Shared),f e=some b→FI ah μ s.heap env m M→St C s→wpAny (MD C) A (isTrue e env (eval e env)) (PostB C s b) bL s
theorem HE.rd {f:Expr→Option D} (h:HE C A ah μ env m M f):HR C A ah μ env m M (ja f env.scope.names M):=
 fun e d s q F S=>Qj q F S fun d hd=>h e d s hd F S
theorem Hd {c:Const} {d:D} {t:Nat} {pos:Pos} (S:St C s) (h:wD c=some d):wpAny (MD C) A (eval (.Constant c t pos) env) (Post C s (Pm ah μ) d) bL s:=by
 cases c with
 |none=>cases h;exact wpAny_Constant_none (ei S rfl)
 |bool b=>cases h;exact wpAny_Constant_bool (ei S rfl)
 |int i=>cases h;exact wpAny_Constant_int (cO S ⟨_,rfl⟩)
 |str x=>cases h;exact wpAny_Constant_str (cO S ⟨_,rfl⟩)
 |_=>cases h
theorem OV {f:Expr→Option D} (hf:HR C A ah μ env m M f) {l r:Expr} {op:Operator} {a b d:D} {p:Pos} (F:FI ah μ s.heap env m M) (S:St C s) (ha:f l=some a) (hb:f r=some b) (hd:eS op a b=some d):
 wpAny (MD C) A (eval (.BinOp l op r p) env) (Post C s (Pm ah μ) d) bL s:=by
 refine zI (aa (hf _ _ _ ha F S) (fun uw az cu=>aa (hf _ _ _ hb (F.keep cu.2.1) cu.1) (fun vQ aV dg=>?_) fun _ _ x=>x) fun _ _ x=>x);have k:=cu.2.1.trans dg.2.1;exact aa (wQ dg.1 ((F.livem.keep k).fresh dg.1) hd (Ei F.tabm dg.2.1 cu.2.2) dg.2.2) (fun v bq q=>q.after k) fun _ _ x=>x
theorem PX {f:Expr→Option D} (hf:HE C A ah μ env m M f) {x:Expr} {op:UnaryOp} {a d:D} {p:Pos} (F:FI ah μ s.heap env m M) (S:St C s) (ha:f x=some a) (hd:Su op a=some d):
 wpAny (MD C) A (eval (.UnaryOp op x p) env) (Post C s (Pm ah μ) d) bL s:=
 wpAny_UnaryOp (aa (hf _ _ _ ha F S) (fun uw az cu=>aa (Mx cu.1 hd (cu.2.2.toR F.tabm)) (fun v bq q=>q.after cu.2.1) fun _ _ x=>x) fun _ _ x=>x)
theorem OH {f:Expr→Option D} (hf:HR C A ah μ env m M f) {l r:Expr} {op:CmpOp} {a b:D} {c:Bool} {p:Pos} (hA:RA A k) (F:FI ah μ s.heap env m M) (S:St C s) (hm:behindInMarks op r=false) (ha:f l=some a) (hb:f r=some b) (hd:ia op a b=some c):
 wpAny (MD C) A (eval (.Compare l [op] [r] p) env) (Post C s (Pm ah μ) (.bool c)) bL s:=by
 refine wpAny_Compare1 (aa (hf _ _ _ ha F S) (fun uw az cu=>aa (hf _ _ _ hb (F.keep cu.2.1) cu.1) (fun vQ aV dg=>?_) fun _ _ x=>x) fun _ _ x=>x) hm;have k:=cu.2.1.trans dg.2.1;exact aa (sC dg.1 hA hd (Ei F.tabm dg.2.1 cu.2.2) dg.2.2) (fun v bq q=>q.after k) fun _ _ x=>x
theorem y6 {f:Expr→Option D} (hf:HR C A ah μ env m M f) (hA:RA A k) {p:Pos}:∀{nv:List CmpOp} {rs:List Expr} {a:D} {v:Value} {s:Shared} {b:Bool},lj f a nv rs=some b→FI ah μ s.heap env m M→St C s→eU (Pm ah μ) s.heap a v→
 wpAny (MD C) A (testChain p v nv (evalEach rs env)) (PostB C s b) bL s
 |[],rs,a,v,s,b=>fun h F S r=>by cases h
 |[op],[],a,v,s,b=>fun h F S r=>by cases h
 |[op],[e],a,v,s,b=>fun h F S r=>by
  refine Ub h fun d e1 e2=>?_;refine test_last (aa (hf _ _ _ e1 F S) (fun vQ aV dg=>aa (sC (P:=Pm ah μ) dg.1 hA e2 (Ei F.tabm dg.2.1 r) dg.2.2) (fun zY bq fD=>?_) fun _ _ x=>x) fun _ _ x=>x);rw[show zY=.bool b from fD.2.2];exact nR ⟨rfl,fD.1,dg.2.1.trans fD.2.1⟩
 |[op],e::e'::es,a,v,s,b=>fun h F S r=>by cases h
 |op::op'::nv,[],a,v,s,b=>fun h F S r=>by cases h
 |op::op'::nv,[e],a,v,s,b=>fun h F S r=>by cases h
 |op::op'::nv,e::e'::es,a,v,s,b=>fun h F S r=>by
  refine Ub h fun d e1 e2=>?_;refine test_link (aa (hf _ _ _ e1 F S) (fun vQ aV dg=>?_) fun _ _ x=>x);have gn:=F.keep dg.2.1;generalize c:ia op a d=z at e2;cases z with
  |none=>cases e2
  |some z=>cases z with
  |true=>
   refine aa (sC (P:=Pm ah μ) dg.1 hA c (Ei F.tabm dg.2.1 r) dg.2.2) (fun zY bq fD=>?_) fun _ _ x=>x;rw[show zY=.bool true from fD.2.2];refine nR ?_;exact aa (y6 hf hA e2 (gn.keep fD.2.1) fD.1 (Ei F.tabm fD.2.1 dg.2.2)) (fun c eG CJ=>CJ.after (dg.2.1.trans fD.2.1)) fun _ _ x=>x
  |false=>
   cases e2;refine aa (sC (P:=Pm ah μ) dg.1 hA c (Ei F.tabm dg.2.1 r) dg.2.2) (fun zY bq fD=>?_) fun _ _ x=>x;rw[show zY=.bool false from fD.2.2];refine nR ?_;exact⟨rfl,fD.1,dg.2.1.trans fD.2.1⟩
end
theorem uW (C:aU):∀x∈biFree,nsIn (Kf C) mainGlobals x=some none:=by
 intro x hx;refine C.F.ns ?_;exact dE.mp (show(biFree.map fun x=>nmTab.lookup x)=biFree.map fun _=>some (some none)by kernel_rfl) x hx
theorem BY:∀x∈biNames,bootBuiltins x=some (TL x)∧x≠"__name__":=by
 have h:(biNames.all fun x=>bootBuiltins x==some (TL x)&&x !="__name__")=true:=by decide+kernel
 intro x hx;have:=bF.mp h x hx;rw[ao]at this;exact⟨by simpa using this.1,by simpa using this.2⟩
theorem boot_ty:bootBuiltins (ofString "tuple")=some (.type "tuple")∧bootBuiltins (ofString "range")=some (.type "range")∧bootBuiltins (ofString "reversed")=some (.type "reversed"):=by
 refine⟨?_,?_,?_⟩<;>decide+kernel
theorem y4 (C:aU):∀x∈fieldNames,findIn (Kf C) (.ref g7) x=some none:=by
 intro x hx;refine C.F.fi ?_;exact dE.mp (show(fieldNames.map fun x=>fiTab.lookup x)=fieldNames.map fun _=>some (some none)by kernel_rfl) x hx
theorem vq (C:aU):plainGet (Kf C) g7 bC=true:=C.F.pl (by kernel_rfl)
theorem y5 (C:aU):hasDictIn (Kf C) g7=true:=C.F.bit 0 rfl
theorem Hk (C:aU):nsIn (Kf C) mainGlobals (ofString "Whitespace")=some (some (.ref g7)):=C.F.ns (by kernel_rfl)
theorem Dz (C:aU):readsIn (Kf C) g7 (.type "type")=true:=C.F.bit 1 rfl
theorem Eg {r:Option CFound} {x:Str} (h:tu r x=true):∃t,r=some (.val (.str x t)):=by
 cases r with
 |none=>cases h
 |some c=>cases c with
  |val v=>cases v with
   |str y t=>exact⟨t,by rw[of_decide_eq_true h]⟩
   |_=>cases h
  |_=>cases h
theorem RJ (C:aU):∃t,findCls (Kf C) (.ref g7) (.type "type") (ofString "S")=some (.val (.str (ofString " ") t)):=Eg (C.F.bit 5 rfl)
theorem RI (C:aU):∃t,findCls (Kf C) (.ref g7) (.type "type") (ofString "T")=some (.val (.str (ofString "\t") t)):=Eg (C.F.bit 6 rfl)
section
variable {C:aU} {A:Around} {s:Shared} {ah:Addr→Prop} {μ:List Addr} {env:Env} {m:Str→Option Value} {M:MM} {k:Nat}
theorem BZ {f:Expr→Option D} (hf:HE C A ah μ env m M f) {p:Pos} {op:BoolOp}:∀{vs:List Expr} {d:D} {s:Shared},vw f op vs=some d→FI ah μ s.heap env m M→St C s→
 wpAny (MD C) A (boolOp p op (evalEach vs env)) (Post C s (Pm ah μ) d) bL s
 |[],d,s=>fun h F S=>by cases h
 |[x],d,s=>fun h F S=>by exact hf _ _ _ h F S
 |x::y::r,d,s=>fun h F S=>by
  refine Ub h fun a e1 e2=>?_;show wpAny _ A (eval x env>>=fun v=>standAt p>>=fun _=>holding [v] (truthy v)>>=fun t=>match op,t with
   |.And,false|.Or,true=>pure v
   |_,_=>boolOp p op (evalEach (y::r) env)) _ _ s;refine aq (aa (hf _ _ _ e1 F S) (fun v az cu=>aq (bM (aq (fk ?_)))) fun _ _ x=>x);have dG:=F.keep cu.2.1;cases ht:ux a with
  |none=>rw[ht]at e2;cases e2
  |some t=>
   rw[ht]at e2;refine aa (Bd (P:=Pm ah μ) cu.1 ht (cu.2.2.toR F.tabm)) (fun c aV dg=>?_) fun _ _ x=>x;refine Ud dg fun q0 eA d9=>?_;have imm:a=d→wpAny (MD C) A (pure v) (Post C s (Pm ah μ) d) bL aV:=fun e=>e▸aI ⟨eA,cu.2.1.trans d9,up F.tabm d9 cu.2.2⟩;have fin:vw f op (y::r)=some d→wpAny (MD C) A (boolOp p op (evalEach (y::r) env)) (Post C s (Pm ah μ) d) bL aV:=fun e2=>aa (BZ hf (p:=p) e2 (dG.keep d9) eA) (fun v bq fD=>fD.after (cu.2.1.trans d9)) fun _ _ x=>x;subst q0;cases op<;>cases c<;>first|exact imm (dB e2)|exact fin e2
theorem HD {f:Expr→Option Bool} (hf:HT C A ah μ env m M f) {p:Pos} {w:Sem Value}:∀{vs:List Expr} {b:Bool} {s:Shared},nK f vs=some b→FI ah μ s.heap env m M→St C s→
 wpAny (MD C) A (isTrue (.BoolOp .And vs p) env w) (PostB C s b) bL s
 |[],b,s=>fun h F S=>by cases h;exact isTrue_and_nil ⟨rfl,S,.refl⟩
 |x::r,b,s=>fun h F S=>by
  refine isTrue_and ?_;refine zf h (fun e h=>?_) fun e h=>?_
  ·refine aa (hf _ _ _ e F S) (fun c az cu=>?_) fun _ _ x=>x
   (refine Ud cu fun q0 bu bN=>?_;subst q0);exact aa (HD hf h (F.keep bN) bu) (fun v bq fD=>fD.after bN) fun _ _ x=>x
  ·subst h
   refine aa (hf _ _ _ e F S) (fun c az cu=>?_) fun _ _ x=>x;(refine Ud cu fun q0 bu bN=>?_;subst q0);exact⟨rfl,bu,bN⟩
theorem HB {f:Expr→Option Bool} (hf:HT C A ah μ env m M f) {p:Pos} {w:Sem Value}:∀{vs:List Expr} {b:Bool} {s:Shared},uD f vs=some b→FI ah μ s.heap env m M→St C s→
 wpAny (MD C) A (isTrue (.BoolOp .Or vs p) env w) (PostB C s b) bL s
 |[],b,s=>fun h F S=>by cases h;exact isTrue_or_nil ⟨rfl,S,.refl⟩
 |x::r,b,s=>fun h F S=>by
  refine isTrue_or ?_;refine HC h (fun e h=>?_) fun e h=>?_
  ·refine aa (hf _ _ _ e F S) (fun c az cu=>?_) fun _ _ x=>x
   (refine Ud cu fun q0 bu bN=>?_;subst q0);exact aa (HB hf h (F.keep bN) bu) (fun v bq fD=>fD.after bN) fun _ _ x=>x
  ·subst h
   refine aa (hf _ _ _ e F S) (fun c az cu=>?_) fun _ _ x=>x;(refine Ud cu fun q0 bu bN=>?_;subst q0);exact⟨rfl,bu,bN⟩
theorem jG {f:Expr→Option D} (hf:HE C A ah μ env m M f) {es:List Expr} {ds:List D} (h:di f es=some ds) (F:FI ah μ s.heap env m M) (S:St C s):
 wpAny (MD C) A (spliced (es.map fun e=>(false,eval e env))) (fun vs s'=>St C s'∧Keep s.heap s'.heap∧Reps (Pm ah μ) s'.heap ds vs) bL s:=
 aa (wU (R:=Rep (Pm ah μ)) (fun k r=>up F.tabm k r) hf h F S) (fun vs s' q=>⟨q.1,q.2.1,q.2.2.reps⟩) fun _ _ x=>x
theorem AW {f:Expr→Option D} (hf:HR C A ah μ env m M f) {es:List Expr} {ds:List D} (h:di f es=some ds) (F:FI ah μ s.heap env m M) (S:St C s):
 wpAny (MD C) A (spliced (es.map fun e=>(false,eval e env))) (fun vs s'=>St C s'∧Keep s.heap s'.heap∧mH (Pm ah μ) s'.heap ds vs) bL s:=
 aa (wU (R:=eU (Pm ah μ)) (fun k r=>Ei F.tabm k r) hf h F S) (fun vs s' q=>⟨q.1,q.2.1,q.2.2.repRs⟩) fun _ _ x=>x
theorem kJ {f:Expr→Option D}:∀{es:List Expr} {ds:List D},di f es=some ds→ds.length=es.length
 |[],ds=>fun h=>by cases h;rfl
 |e::r,ds=>fun h=>by
  obtain⟨d,ds',e1,e2,rfl⟩:=yk h;exact congrArg Nat.succ (kJ e2)
theorem JF {f:Expr→Option D} (hf:HE C A ah μ env m M f) {es:List Expr} {ds:List D} {p:Pos} (hs:bK es=true) (hl:es.length≤1000000) (h:di f es=some ds) (F:FI ah μ s.heap env m M) (S:St C s):
 wpAny (MD C) A (eval (.List es p) env) (Post C s (Pm ah μ) (.list ds)) bL s:=by
 refine wpAny_List ?_;rw[l7 hs];refine aa (jG hf h F S) (fun vs s' q=>?_) fun _ _ x=>x;have:=kJ h;have:=q.2.2.length;refine⟨by show _≤2^24;lia,q.1.grow fun _ _ e=>ak _ e,q.2.1.trans (.push _),pO ((F.livem.keep q.2.1).fresh q.1) (by simpa using q.2.2)⟩
theorem Ej {f:Expr→Option D} (hf:HE C A ah μ env m M f) {es:List Expr} {ds:List D} {t:Nat} {p:Pos} (hs:bK es=true) (hl:es.length≤1000000) (h:di f es=some ds) (F:FI ah μ s.heap env m M) (S:St C s):
 wpAny (MD C) A (eval (.Tuple es t p) env) (Post C s (Pm ah μ) (.tup ds)) bL s:=by
 refine wpAny_Tuple ?_;rw[l7 hs];refine aa (jG hf h F S) (fun vs s' q=>?_) fun _ _ x=>x;have:=kJ h;have:=q.2.2.length;refine⟨by show _≤2^24;omega,q.1.grow fun _ _ e=>ak _ e,q.2.1.trans (.push _),sY ((F.livem.keep q.2.1).fresh q.1) (by simpa using q.2.2)⟩
theorem MB {f g:Expr→Option D} (hf:HR C A ah μ env m M f) (hg:HE C A ah μ env m M g) {v i:Expr} {a b d:D} {p:Pos} (hs:∀a b c d,i≠.Slice a b c d) (F:FI ah μ s.heap env m M) (S:St C s) (ha:f v=some a) (hb:g i=some b) (hd:ef a b=some d):
 wpAny (MD C) A (eval (.Subscript v i p) env) (Post C s (Pm ah μ) d) bL s:=by
 refine Subscript_ (aa (hf _ _ _ ha F S) (fun uw az cu=>aa (hg _ _ _ hb (F.keep cu.2.1) cu.1) (fun vQ aV dg=>?_) fun _ _ x=>x) fun _ _ x=>x);have k:=cu.2.1.trans dg.2.1;exact aa (JP dg.1 hs hd (Ei F.tabm dg.2.1 cu.2.2) (dg.2.2.toR F.tabm)) (fun v bq q=>q.after k) fun _ _ x=>x
theorem v9 {g:Expr→Option D} (hg:HE C A ah μ env m M g) {x:Option Expr} {o:Option Int} (F:FI ah μ s.heap env m M) (S:St C s) (h:mB g x=some o):
 wpAny (MD C) A (evalPart x env) (fun v s'=>St C s'∧Keep s.heap s'.heap∧IsPart v o) bL s:=by
 unfold mB at h;split at h
 ·cases h;rw[evalPart_none];exact aI ⟨S,.refl,.none⟩
 ·refine Ub h fun d e1 e2=>?_
  rw[evalPart_some];exact aa (hg _ _ _ e1 F S) (fun v s' q=>⟨q.1,q.2.1,Jj e2 q.2.2⟩) fun _ _ x=>x
theorem Oy {f g:Expr→Option D} (hf:HR C A ah μ env m M f) (hg:HE C A ah μ env m M g) {v:Expr} {x1 x2 x3:Option Expr} {a d:D} {lo hi st:Option Int} {p p':Pos} (F:FI ah μ s.heap env m M) (S:St C s) (ha:f v=some a)
 (h1:mB g x1=some lo) (h2:mB g x2=some hi) (h3:mB g x3=some st) (hd:gt a lo hi st=some d):
 wpAny (MD C) A (eval (.Subscript v (.Slice x1 x2 x3 p') p) env) (Post C s (Pm ah μ) d) bL s:=by
 refine Subscript_ (aa (hf _ _ _ ha F S) (fun uw az cu=>wpAny_Slice (aa (v9 hg (F.keep cu.2.1) cu.1 h1) (fun vQ aV dg=>aa (v9 hg ((F.keep cu.2.1).keep dg.2.1) dg.1 h2) (fun zY bq fD=>
  aa (v9 hg (((F.keep cu.2.1).keep dg.2.1).keep fD.2.1) fD.1 h3) (fun v₄ eG CJ=>?_) fun _ _ x=>x) fun _ _ x=>x) fun _ _ x=>x)) fun _ _ x=>x);have k:=(dg.2.1.trans fD.2.1).trans CJ.2.1;have k':=cu.2.1.trans k;exact aa (EK CJ.1 ((F.livem.keep k').fresh CJ.1) hd (Ei F.tabm k cu.2.2) dg.2.2 fD.2.2 CJ.2.2) (fun v jg q=>⟨q.1,k'.trans q.2.1,q.2.2⟩) fun _ _ x=>x
end
theorem Rep.handed {P:Addr→Prop} {h:Heap} {d:D} {v:Value} (r:Rep P h d v):handedIn v=true:=by
 cases d with
 |none=>cases r;rfl
 |bool b=>cases r;rfl
 |int i=>obtain⟨t,rfl⟩:=r;rfl
 |str x=>obtain⟨t,rfl⟩:=r;rfl
 |list l=>(refine Uf r fun a vs q0 _=>?_;subst q0);rfl
 |tup l=>(refine Uf r fun a vs q0 _=>?_;subst q0);rfl
 |obj l=>(refine Uk r fun a d vs q0 _=>?_;subst q0);rfl
 |objAt x d l=>(refine Ua r fun vs q0 _=>?_;subst q0);rfl
 |dic=>cases r;rfl
theorem Ec {h:Heap} {a dd:Addr} {vs:List Value} {x:Str} {v:Value} (w:WsAt h a dd vs) (hx:(fieldNames.zip vs).lookup x=some v):
 ∃es n,h.get? dd=some (ir es n)∧getL x es=some (some v):=by
 refine Uy w fun _ es n hd h1 h2=>?_;refine⟨es,n,hd,?_⟩;subst h1;have key:∀(fs:List Str) (es:List DictEntry) (k:Nat),(∀i e,es[i]?=some e→∃t,e.key=KP (fieldNames.getD (k+i) bC) t)→(∀i y,fs[i]?=some y→y=fieldNames.getD (k+i) bC)→
  (fs.zip (es.map fun e=>e.val)).lookup x=some v→getL x es=some (some v):=by
  intro fs;induction fs with
  |nil=>intro es k _ _ hl;simp at hl
  |cons y r ih=>
   intro es k hk hf hl;cases es with
   |nil=>simp at hl
   |cons e es=>
    obtain⟨t,ht⟩:=hk 0 e rfl;have hy:=hf 0 y rfl;rw[Nat.add_zero]at ht hy;simp only[bg,rR,aH]at hl;unfold getL;rw[Pr];have hkey:e.key.isStr x=(x==y):=by rw[ht,hy];show(fieldNames.getD k bC==x)=_;exact BEq.comm
    rw[hkey];cases hxy:x==y with
    |true=>simp only[hxy]at hl⊢;cases hl;rfl
    |false=>
     simp only[hxy]at hl⊢;have:=ih es (k+1) (fun i e' h'=>by obtain⟨t,ht⟩:=hk (i+1) e' (by simpa using h');exact⟨t,by rw[ht,show k+(i+1)=k+1+i by exact(dA 0x61e37842e13de10b862:)]⟩)
      (fun i y' h'=>by rw[hf (i+1) y' (by simpa using h'),show k+(i+1)=k+1+i by exact(dA 0x61e37842e13de10b862:)]) hl;unfold getL at this;revert this;cases hfind:List.find? (fun x_1=>x_1.key.isStr x) es with
     |some e'=>exact id
     |none=>
      cases List.any es fun x=>x.refKey<;>exact fun this=>absurd this (by simp)
 refine key fieldNames es 0 (fun i e he=>?_) (fun i y hy=>?_) hx
 ·have:=congrArg (·[i]?) h2
  simp only[aJ,j4,he,jX]at this;rw[dR];exact⟨_,dB this⟩
 ·rw[dR,ac,hy];rfl
section
variable {C:aU} {A:Around} {s:Shared} {ah:Addr→Prop} {μ:List Addr} {env:Env} {m:Str→Option Value} {M:MM} {k:Nat}
theorem nq {P:Addr→Prop} {h:Heap} {x:Str} {d:D}:∀{fs:List Str} {l:List D} {vs:List Value},Reps P h l vs→(fs.zip l).lookup x=some d→∃v,(fs.zip vs).lookup x=some v∧Rep P h d v
 |[],_,_=>fun _ hl=>by simp at hl
 |y::fs,[],_=>fun _ hl=>by simp at hl
 |y::fs,e::l,vs=>fun r hl=>by
  (refine Uc r fun v q q0 hv hq=>?_;subst q0);simp only[rR,aH]at hl⊢;cases hxy:x==y with
  |true=>simp only[hxy]at hl;cases hl;exact⟨v,rfl,hv⟩
  |false=>simp only[hxy]at hl;exact nq hq hl
theorem vK {x:Str} {α:Type} {d:α}:∀{fs:List Str} {l:List α},(fs.zip l).lookup x=some d→x∈fs
 |[],_=>@fun hl=>by simp at hl
 |y::fs,[]=>@fun hl=>by simp at hl
 |y::fs,e::l=>@fun hl=>by
  simp only[rR,aH]at hl;cases hxy:x==y with
  |true=>rw[bt hxy];exact au
  |false=>simp only[hxy]at hl;exact af _ (vK hl)
theorem wp {h:Heap} {a dd:Addr} {vs:List Value} {es:List DictEntry} {n:Nat} (w:WsAt h a dd vs) (hd:h.get? dd=some (ir es n)):KV h a (instObj g7 dd) g7 (some (ir es n)):=
 ⟨w.1,rfl,rfl,hd⟩
theorem GT {P:Addr→Prop} {a d:D} {v:Value} {x:Str} (t:¬P 65∧¬P 72) (S:St C s) (h:ri a x=some d) (r:Rep P s.heap a v):wpAny (MD C) A (getAttr v x true) (Post C s P d) bL s:=by
 cases a with
 |obj l=>
  obtain⟨b,dd,vs,rfl,_,_,w,hr⟩:=r;refine Ua (nq hr h) fun u e1 e2=>?_;refine Uf (Ec w e1) fun es n hd hg=>?_;exact get_value (C.X.keeps S.g) (wp w hd) (zJ (vq _)).1 (findObj_own (y5 _) (y4 _ _ (vK e1)) rfl hg) e2.handed (cO S e2)
 |objAt x dx l=>
  (refine Ut r fun vs q0 _ _ w hr=>?_;subst q0);refine Ua (nq hr h) fun u e1 e2=>?_;refine Uf (Ec w e1) fun es n hd hg=>?_;exact get_value (C.X.keeps S.g) (wp w hd) (zJ (vq _)).1 (findObj_own (y5 _) (y4 _ _ (vK e1)) rfl hg) e2.handed (cO S e2)
 |_=>cases h
theorem sG {o:Expr} {x:Str} {w:Sem Value} (h:jj o=false):attributeBase o x env w=w:=by
 cases o<;>first|rfl|cases h
theorem KK {f:Expr→Option D} (hf:HE C A ah μ env m M f) {v:Expr} {a d:D} {x:Str} {p:Pos} (hc:jj v=false) (F:FI ah μ s.heap env m M) (S:St C s) (ha:f v=some a) (hd:ri a x=some d):
 wpAny (MD C) A (eval (.Attribute v x p) env) (Post C s (Pm ah μ) d) bL s:=by
 rw[R1,sG hc];refine aq (aa (hf _ _ _ ha F S) (fun uw az cu=>?_) fun _ _ x=>x);refine aq (bM (aq (fk (aa (GT F.tabm cu.1 hd cu.2.2) (fun vQ aV dg=>?_) fun _ _ x=>x))));exact aq (Mv (aI (dg.after cu.2.1)))
theorem ol {x:Str} (h:dY env.scope.names x=true):x≠rU∧env.kindOf x=some .globalImplicit:=by
 unfold dY at h;rw[ao]at h;refine⟨of_decide_eq_true h.1,?_⟩;have q:=h.2;show env.scope.names.lookup x=_;generalize env.scope.names.lookup x=o at q⊢;cases o with
 |none=>cases q
 |some o=>cases o with
  |globalImplicit=>rfl
  |_=>cases q
theorem OJ {v:Expr} {d:D} {x:Str} {p:Pos} (F:FI ah μ s.heap env m M) (S:St C s) (h:uB env.scope.names v x=some d):
 wpAny (MD C) A (eval (.Attribute v x p) env) (Post C s (Pm ah μ) d) bL s:=by
 obtain⟨hc,h2⟩:=dw (show(if _ then _ else none)=some d from h);rw[ao]at hc;obtain⟨c,q,rfl⟩:=(yi v).2 hc.1;have hc:=dX.mp hc.2;have hcn:c=ofString "Whitespace":=of_decide_eq_true hc.2;subst hcn;obtain⟨g1,g2⟩:=ol hc.1;rw[R1,sG rfl];refine aq (sx F S g2 g1 (Hk _) ?_);have key:∀(y:Str),(∃t,findCls (Kf C) (.ref g7) (.type "type") x=some (.val (.str y t)))→wpAny (MD C) A (getAttr (.ref g7) x true) (Post C s (Pm ah μ) (.str y)) bL s:=by
  rintro y ⟨t,e⟩;exact cls_value (C.X.keeps S.g) (Dz _) e rfl (cO S ⟨_,rfl⟩)
 have fin:∀(y:Str),(∃t,findCls (Kf C) (.ref g7) (.type "type") x=some (.val (.str y t)))→d=.str y→wpAny (MD C) A (standAt p.atName>>=fun _=>holding [Value.ref g7] (getAttr (.ref g7) x true)>>=fun r=>letTemporaryGo (.Name (ofString "Whitespace") q) (.ref g7) r>>=fun _=>pure r) (Post C s (Pm ah μ) d) bL s:=by
  rintro y e rfl;refine aq (bM (aq (fk (aa (key y e) (fun vQ aV dg=>?_) fun _ _ x=>x))));exact aq (Mv (aI dg))
 by_cases e1:x=ofString "S"
 ·rw[if_pos e1]at h2;cases h2;exact fin _ (e1▸RJ _) rfl
 rw[if_neg e1]at h2;by_cases e2:x=ofString "T"
 ·rw[if_pos e2]at h2;cases h2;exact fin _ (e2▸RI _) rfl
 ·rw[if_neg e2]at h2;cases h2
theorem ez {es:List Expr} {p:Pos} (h:bK es=true):(backTo p (starEach es env)).any (·.1)=false:=by
 rw[l7 h];induction es with
 |nil=>rfl
 |cons e r ih=>simp[List.any_map,DX]
theorem BX {g:Expr→Option D} (hg:HR C A ah μ env m M g) {x:Str} {np p:Pos} {es:List Expr} {as:List D} {d:D} (hA:RA A k) (hs:bK es=true) (hx:dY env.scope.names x=true) (hb:tC x=true) (F:FI ah μ s.heap env m M) (S:St C s)
 (h:di g es=some as) (hd:ox x as=some d):wpAny (MD C) A (eval (.Call (.Name x np) es [] p) env) (Post C s (Pm ah μ) d) bL s:=by
 obtain⟨g1,g2⟩:=ol hx;have hm:x∈biNames:=by
  unfold tC at hb;obtain⟨y,h1,h2⟩:=Mj.mp hb;rw[←of_decide_eq_true h2];exact h1
 have hn:nsIn (Kf C) mainGlobals x=some none:=uW _ x (zU.mp (bF.mp (by decide+kernel:(biNames.all fun x=>Mh x biFree)=true) x hm));refine em (om F S g2 g1 hn (BY x hm).1 (BY x hm).2 ?_);refine o4 (ez hs) (aa (dQ hs (AW hg h F S)) (fun a az q=>?_) fun _ _ x=>x);refine Uj q fun e bu bN r=>?_;rw[e];exact aa (OW bu ((F.livem.keep bN).fresh bu) hA hd r) (fun v bq q=>q.after bN) fun _ _ x=>x
theorem Hs {g:Expr→Option D} (hg:HR C A ah μ env m M g) {np p:Pos} {es:List Expr} {as:List D} {d:D} (hs:bK es=true) (hx:dY env.scope.names (ofString "tuple")=true) (F:FI ah μ s.heap env m M) (S:St C s)
 (h:di g es=some as) (hd:Ek as=some d):wpAny (MD C) A (eval (.Call (.Name (ofString "tuple") np) es [] p) env) (Post C s (Pm ah μ) d) bL s:=by
 obtain⟨g1,g2⟩:=ol hx;refine em (om F S g2 g1 (uW _ _ (by simp)) boot_ty.1 (by decide) ?_);refine iu (ez hs) (aa (dQ hs (AW hg h F S)) (fun a az q=>?_) fun _ _ x=>x);refine Uj q fun e bu bN r=>?_;rw[e];exact aa (My bu (F.livem.keep bN) hd r) (fun v bq q=>q.after bN) fun _ _ x=>x
theorem Ht {g:Expr→Option D} (hg:HE C A ah μ env m M g) {X:Cx} (cx:CxOK C X k) {x:Str} {np p:Pos} {es:List Expr} {as:List D} {d:D} (hA:RA A k) (hs:bK es=true) (hx:dY env.scope.names x=true) (F:FI ah μ s.heap env m M) (S:St C s)
 (h:di g es=some as) (hd:X.call x as=some d):wpAny (MD C) A (eval (.Call (.Name x np) es [] p) env) (Post C s (Pm ah μ) d) bL s:=by
 obtain⟨g1,g2⟩:=ol hx;refine Ul (cx.call hd) fun fv e1 e2 e3=>?_;refine em (sx F S g2 g1 e1 ?_);refine zN (P:=fun h=>(Kf C).In h) (by rw[ez hs];rfl) (keeps_K e2) (aa (dQ hs (jG hg h F S)) (fun a az q=>?_) fun _ _ x=>x);refine Uj q fun e bu bN r=>?_;refine⟨C.X.keeps bu.g,?_⟩;rw[e];exact aa (e3.run hA bu (F.livem.keep bN) F.tabm r) (fun v bq q=>q.after bN) fun _ _ x=>x
theorem Cm {P:Addr→Prop} {h:Heap} {a dd:Addr} {vs:List Value} {x:Str} (w:WsAt h a dd vs) (hx:x∉fieldNames) (he:(bC==x)=false):∃es n,h.get? dd=some (ir es n)∧getL x es=some none:=by
 refine Uy w fun _ es n hd h1 h2=>?_;refine⟨es,n,hd,?_⟩;subst h1;have key:∀e∈es,e.key.isStr x=false∧e.refKey=false:=by
  intro e he';obtain⟨i,hi⟩:=pn he';have:=congrArg (·[i]?) h2;simp only[aJ,j4,hi,jX]at this;have:=dB this;unfold DY;rw[this];refine⟨?_,rfl⟩;show(fieldNames.getD i bC==x)=false;rw[ac];cases hf:fieldNames[i]? with
  |none=>exact he
  |some y=>
   refine beq_eq_false_iff_ne.mpr fun e=>hx ?_;rw[←show y=x from e];exact ax hf
 unfold getL;rw[List.find?_eq_none.mpr fun e he'=>by rw[(key e he').1];decide];have:es.any (·.refKey)=false:=K4.mpr fun e he'=>by rw[(key e he').2];decide
 rw[this];rfl
theorem wu {es:List Expr} {p:Pos} (hs:bK es=true) (hl:es.length≤20):methodCallForm (es.length+([]:List Keyword).length) (backTo p (starEach es env)) (backToKw p (keywordEach [] env))=true:=by
 unfold methodCallForm;rw[l7 hs];show((_&&true)&&_)=true;rw[ru,ao];refine⟨?_,?_⟩
 ·simp[List.all_map,DX]
 ·exact decide_eq_true (by show es.length+0+0<30;(exact ca hl (by decide)))
theorem JB {f g:Expr→Option D} (hf:HR C A ah μ env m M f) (hg:HR C A ah μ env m M g) {o:Expr} {x:Str} {ap p:Pos} {es:List Expr} {a:D} {as:List D} {d:D} (hs:bK es=true) (hl:es.length≤20) (hp:(ap.endLine==p.line)=true) (hc:jj o=false) (F:FI ah μ s.heap env m M) (S:St C s)
 (ha:f o=some a) (h:di g es=some as) (hd:Cy x a as=some d):wpAny (MD C) A (eval (.Call (.Attribute o x ap) es [] p) env) (Post C s (Pm ah μ) d) bL s:=by
 refine Uf (MG (C:=C) (A:=A) (P:=Pm ah μ) hd) fun T id R hR=>?_;refine vP (sG hc) (by have:=wu (env:=env) (p:=p) hs hl;unfold methodCallForm at this;exact this) hp R.pa R.slot R.ty (aa (hf _ _ _ ha F S) (fun uw az cu=>?_) fun _ _ x=>x);refine Ud (hR az uw cu.2.2) fun h1 h2 h3=>?_;refine⟨h1,fun b e=>absurd e (h2 b),?_⟩;refine o4 (ez hs) (aa (dQ hs (AW hg h (F.keep cu.2.1) cu.1)) (fun a' aV q=>?_) fun _ _ x=>x);refine Uj q fun e eA d9 r=>?_;rw[e];refine Ud (hR aV uw (Ei F.tabm d9 cu.2.2)) fun _ _ h4=>?_;exact aa (h4 _ eA (F.livem.keep (cu.2.1.trans d9)) r) (fun v bq q=>q.after (cu.2.1.trans d9)) fun _ _ x=>x
theorem FL {f g:Expr→Option D} (hf:HR C A ah μ env m M f) (hg:HE C A ah μ env m M g) {X:Cx} (cx:CxOK C X k) {o:Expr} {x:Str} {ap p:Pos} {es:List Expr} {l as:List D} {d:D} (hA:RA A k) (hs:bK es=true) (hl:es.length≤20) (hp:(ap.endLine==p.line)=true) (hc:jj o=false) (F:FI ah μ s.heap env m M) (S:St C s)
 (ha:f o=some (.obj l)) (h:di g es=some as) (hd:X.meth x (.obj l) as=some d):wpAny (MD C) A (eval (.Call (.Attribute o x ap) es [] p) env) (Post C s (Pm ah μ) d) bL s:=by
 refine Uz (cx.meth hd) fun fn e1 e2 e3 e4 e5 e6=>?_;rw[arm_eval_Call,sG hc];refine aq (aa (hf _ _ _ ha F S) (fun uw az cu=>?_) fun _ _ x=>x);refine aq (bM ?_);have hpos:methodCallPos true o env ap p=pure p:=by unfold methodCallPos;simp[hp]
 unfold methodCall;rw[wu hs hl];obtain⟨b,dd,vs,rfl,hPb,hPd,w,hr⟩:=cu.2.2;refine Uf (Cm (P:=Pm ah μ) w e4.1 e4.2) fun es' n hdd hgl=>?_;refine aq (fk (method_fn (C.X.keeps cu.1.g) (wp w hdd) (zJ e5).1 (zJ e5).2 e1 (beq_iff_eq.mp e2) (by show(lookIn x (ir es' n)).map _=_;rw[lookIn_dict,hgl];rfl) ?_));refine aq (iM hpos ?_);refine zN (P:=fun h=>(Kf C).In h) (by rw[ez hs];rfl) (keeps_K e3) (aa (dQ hs (jG hg h (F.keep cu.2.1) cu.1)) (fun a aV q=>?_) fun _ _ x=>x);refine Uj q fun e eA d9 r=>?_;refine⟨C.X.keeps eA.g,?_⟩;rw[e];exact aa (e6.run hA eA (F.livem.keep (cu.2.1.trans d9)) F.tabm (Reps.cons (up F.tabm d9 (d:=.obj l) ⟨b,dd,vs,rfl,hPb,hPd,w,hr⟩) r)) (fun v bq q=>q.after (cu.2.1.trans d9)) fun _ _ x=>x
end
noncomputable def iX (o:Obj):Prop:=∀vs q t,o.data=.fields vs→vs[1]?≠some (.str q t)
theorem ql {h:Heap} {a:Addr} {o:Obj} {c:Addr} {q:Str} (e:h.get? a=some o) (n:iX o) (x:h.CodeRec (.ref c) q):c≠a:=by
 rintro rfl;refine Uv x fun c' o' vs t e1 e2 e3 e4=>?_;cases e1;rw[e]at e2;cases e2;exact n vs q t e3 e4
theorem St.but {C:aU} {s:Shared} {a:Addr} {o:Obj} {h':Heap} {t:Nat} (S:St C s) (e:s.heap.get? a=some o) (n:iX o) (hG:C.G.get? a=l8) (n1:a≠65) (n2:a≠72)
 (k:∀b o,b≠a→s.heap.get? b=some o→h'.get? b=some o):St C {s with heap:=h',toks:=t}:=by
 refine⟨fun b o e=>k _ _ (fun q=>by rw[q,hG]at e;cases e) (S.g b o e),?_,?_,S.gens,S.gk,S.os⟩
 ·refine Ua S.tA fun ps e1 r=>?_
  refine⟨ps,k _ _ (cC n1) e1,r.imp id ?_⟩;rintro⟨c,e2,e3,e4,e5⟩;refine⟨c,e2,e3,e4,?_⟩;have:=ql e n e5;refine Uv e5 fun c' o' vs t e1 e6 e7 e8=>?_;cases e1;exact⟨c,o',vs,t,rfl,k _ _ this e6,e7,e8⟩
 ·refine Ua S.tB fun ps e1 r=>?_
  refine⟨ps,k _ _ (cC n2) e1,r.imp id ?_⟩;rintro⟨c,e2,e3,e4,e5⟩;refine⟨c,e2,e3,e4,?_⟩;have:=ql e n e5;refine Uv e5 fun c' o' vs t e1 e6 e7 e8=>?_;cases e1;exact⟨c,o',vs,t,rfl,k _ _ this e6,e7,e8⟩
theorem eu (h:Heap):h.get? h.objs.size=none:=by
 cases e:h.get? h.objs.size with
 |none=>rfl
 |some o=>exact absurd (aQ e) (A3 _)
theorem St.live65 {C:aU} {s:Shared} (S:St C s):s.heap.get? 65≠none:=fun e=>by refine Ua S.tA fun ps e1 _=>?_;rw[e]at e1;cases e1
theorem St.live72 {C:aU} {s:Shared} (S:St C s):s.heap.get? 72≠none:=fun e=>by refine Ua S.tB fun ps e1 _=>?_;rw[e]at e1;cases e1
theorem eO {C:aU} {az:Shared} {h:Heap} {a:Addr} (bu:St C az) (k:Keep h az.heap) (e:az.heap.get? a=none):h.get? a=none:=by
 cases q:h.get? a with
 |none=>rfl
 |some o=>
  have:=k.get a o (fun z=>bu.live65 (z▸e)) (fun z=>bu.live72 (z▸e)) q;rw[e]at this;cases this
theorem Live.none {C:aU} {P:Addr→Prop} {s:Shared} (F:Live P s.heap) (S:St C s) {a:Addr} (e:s.heap.get? a=l8):P a:=by
 refine a8 fun n=>?_;rcases F a n with q|q|⟨o,q⟩
 ·exact S.live65 (q▸e)
 ·exact S.live72 (q▸e)
 ·rw[e]at q;cases q
structure UX (C:aU) (A:Around) (P:Addr→Prop) (dP:Heap) (ds:List D) (it:Value) (s:Shared):Prop where
 ex:∃(I:Addr) (fp:List Addr) (Pv:Nat→Value→Prop) (Si:Nat→Heap→Prop),it=.ref I∧dP.get? I=none∧Walks PySem.Challenge.pw_uc0055_01 C.w A I fp [I] ds.length Pv Si∧Si 0 s.heap∧
  (∀b∈fp,P b∧∃o,s.heap.get? b=some o)∧(∀i d v,ds[i]?=some d→Pv i v→Rep (fun b=>P b∧b≠I) s.heap d v)∧∀i h,Si i h→∃o,h.get? I=some o∧iX o
 len:ds.length≤1000000
noncomputable def PostI (C:aU) (A:Around) (s:Shared) (P:Addr→Prop) (ds:List D):Value→Shared→Prop:=fun it s'=>St C s'∧Keep s.heap s'.heap∧UX C A P s.heap ds it s'
section
variable {C:aU} {A:Around} {s:Shared} {P:Addr→Prop} {k:Nat}
theorem St.push (S:St C s) (o:Obj) {t:Nat}:St C {s with heap:=s.heap.push o,toks:=t}:=S.grow fun _ _ e=>ak _ e
theorem C6 {l:List D} {a:Addr} {vs:Array Value} (hA:RA A k) (S:St C s) (lv:Live P s.heap) (hl:l.length≤1000000) (pa:P a) (h:s.heap.PlainList a vs) (r:Reps P s.heap l vs.toList):
 wpAny (MD C) A (pyIter (.ref a)) (PostI C A s P l) bL s:=by
 have hlt:=aQ (id h).choose_spec;have hlen:=r.length;rw[aK]at hlen;refine wpAny_pyIter_list h.isList ⟨S.push _,.push _,⟨s.heap.objs.size,[s.heap.objs.size,a],fun i v=>vs[i]?=some v,_,rfl,eu _,hlen▸Walks.list hA.hd s.heap.objs.size a (aM hlt) vs,?_,?_,?_,?_⟩,hl⟩
 ·exact⟨⟨_,aX _ rfl,rfl,rfl⟩,h.isList.at fun o e=>ak _ e⟩
 ·exact uy (⟨lv.fresh S _ (ba _),_,aX _ rfl⟩) (uy (⟨pa,_,ak _ (id h).choose_spec⟩) Jz)
 ·intro i d v hd hv
  refine Ua (lJ r hd) fun u e1 e2=>?_;rw[e1]at hv;cases hv;exact Rep.mono (fun a o p e=>⟨ak _ e,p,aM (aQ e)⟩) e2
 ·rintro i h ⟨⟨o,e1,_,e2⟩,_⟩;refine⟨o,e1,fun ws q t e=>?_⟩;rw[e2]at e;cases e;intro e;cases e
theorem JO {d:D} {ds:List D} {v:Value} (hA:RA A k) (S:St C s) (lv:Live P s.heap) (h:iZ d=some ds) (r:Rep P s.heap d v):wpAny (MD C) A (pyIter v) (PostI C A s P ds) bL s:=by
 cases d with
 |list l=>
  obtain⟨q,rfl⟩:=eV h;(refine Ue r fun a vs q0 pa hl hr=>?_;subst q0);exact C6 hA S lv q pa hl hr
 |tup l=>
  obtain⟨q,rfl⟩:=eV h;(refine Ue r fun a vs q0 pa hl hr=>?_;subst q0);have hlt:=aQ (id hl).choose_spec.1;have hlen:=hr.length;rw[aK]at hlen;refine wpAny_pyIter_tuple hl ⟨S.push _,.push _,⟨s.heap.objs.size,[s.heap.objs.size,a],fun i v=>vs[i]?=some v,_,rfl,eu _,hlen▸Walks.tuple hA.hd s.heap.objs.size a (aM hlt) vs,?_,?_,?_,?_⟩,q⟩
  ·exact⟨⟨_,aX _ rfl,rfl,rfl⟩,hl.at fun o e=>ak _ e⟩
  ·exact uy (⟨lv.fresh S _ (ba _),_,aX _ rfl⟩) (uy (⟨pa,_,ak _ (id hl).choose_spec.1⟩) Jz)
  ·intro i d v hd hv
   refine Ua (lJ hr hd) fun u e1 e2=>?_;rw[e1]at hv;cases hv;exact Rep.mono (fun a o p e=>⟨ak _ e,p,aM (aQ e)⟩) e2
  ·rintro i h ⟨⟨o,e1,_,e2⟩,_⟩;refine⟨o,e1,fun ws q t e=>?_⟩;rw[e2]at e;cases e;intro e;cases e
 |str x=>
  obtain⟨q,rfl⟩:=eV h;obtain⟨t,rfl⟩:=r;have hlen:(x.cps.toList.map fun c=>D.str ⟨#[c]⟩).length=x.cps.size:=by simp
  have key:∀(T:String) (Wk:Walks PySem.Challenge.pw_uc0055_01 C.w A s.heap.objs.size [s.heap.objs.size] [s.heap.objs.size] x.cps.size (SignAt x) (fun i h=>h.IsStrIter s.heap.objs.size T x t i)),
   PostI C A s P (x.cps.toList.map fun c=>D.str ⟨#[c]⟩) (.ref s.heap.objs.size) {s with heap:=s.heap.push {cls:=.type T,data:=.fields #[.str x t,.int 0 0]}}:=by
   intro T Wk;refine⟨S.push _,.push _,⟨s.heap.objs.size,[s.heap.objs.size],SignAt x,_,rfl,eu _,hlen▸Wk,⟨_,aX _ rfl,rfl,rfl⟩,?_,?_,?_⟩,by rw[hlen];exact q⟩
   ·exact uy ⟨lv.fresh S _ (ba _),_,aX _ rfl⟩ Jz
   ·intro i d v hd hv
    (refine Uf hv fun c u e1 q0=>?_;subst q0);rw[aJ]at hd;have:x.cps.toList[i]?=some c:=by rw[fc];exact e1
    rw[this]at hd;cases hd;exact⟨u,rfl⟩
   ·rintro i h ⟨o,e1,_,e2⟩;refine⟨o,e1,fun ws q t e=>?_⟩;rw[e2]at e;cases e;intro e;cases e
  cases ha:x.cps.all (·<128)
  ·exact wpAny_pyIter_wide ha (key _ (Walks.strWide hA.hd _ x t))
  ·exact wpAny_pyIter_ascii ha (key _ (Walks.strAscii hA.hd _ x t))
 |_=>cases h
theorem AD {a b:Int} {t u t':Nat} {ds:List D} {r:Addr} (hA:RA A k) (S:St C s) (lv:Live P s.heap) (h:j9 a b=some ds) (hr:IsRange s.heap r a b 1 t u t'):
 wpAny (MD C) A (pyIter (.ref r)) (PostI C A s P ds) bL s:=by
 unfold j9 at h;split at h<;>cases h;rename_i q;have hlen:((co (b-a).toNat).map fun(k:Nat)=>D.int (a+(k:Int))).length=(b-a).toNat:=by simp
 have hsz:sJ a b 1=((b-a).toNat:Int):=by rw[rangeSize_one];split<;>lia
 refine wpAny_pyIter_range hr (small_one (by(exact aB (by decide) q.1)) (by omega) (by lia) (by omega)) ⟨S.push _,.push _,⟨s.heap.objs.size,[s.heap.objs.size],_,_,rfl,eu _,hlen▸Walks.range hA.hd s.heap.objs.size a 1 (b-a).toNat,?_,?_,?_,?_⟩,by rw[hlen];exact(ly 0xe53d09008e16b5ad57d09008e82135f4240239354cfd09008eafa12011c8aa27e848047040074109:) q⟩
 ·have e:(a+((0:Nat):Int)*1)=a:=by simp
  have e2:((((b-a).toNat:Nat):Int)-((0:Nat):Int))=sJ a b 1:=by rw[hsz];simp
  rw[hlen,e,e2];exact aX _ rfl
 ·exact uy ⟨lv.fresh S _ (ba _),_,aX _ rfl⟩ Jz
 ·intro i d v hd hv
  obtain⟨t,rfl⟩:=hv;rw[aJ]at hd;(refine Um hd fun j hj q0=>?_;subst q0);have:j=i:=by
   rw[kG]at hj
   ·exact(dB hj).symm
   ·refine a8 fun hc=>?_
    rw[fj (by simp;exact(Io 0x39590a0947ac31040074128:) hc)]at hj;cases hj
  subst this;exact⟨t,by rw[Ij]⟩
 ·rintro i h e1;refine⟨_,e1,fun ws q t e=>?_⟩;cases e;intro e;cases e
theorem Gb {l:List D} {a:Addr} {vs:Array Value} {I:Addr} (hA:RA A k) (S:St C s) (lv:Live P s.heap) (hl:l.length≤1000000) (pa:P a) (h:s.heap.PlainList a vs) (r:Reps (fun b=>P b∧b≠I) s.heap l vs.toList) (pI:P I) (hI:s.heap.IsRevIter I a ((vs.size:Int)-1)) (hne:a≠I) {dP:Heap} (hn:dP.get? I=none):
 wpAny (MD C) A (pyIter (.ref I)) (fun it s'=>St C s'∧Keep s.heap s'.heap∧UX C A P dP l.reverse it s') bL s:=by
 have hlen:=r.length;rw[aK]at hlen;have hlen':l.reverse.length=vs.size:=by rw[iJ];exact hlen.symm
 refine wpAny_pyIter_revIter hI ⟨S,.refl,⟨I,[I,a],fun i v=>vs[vs.size-1-i]?=some v,_,rfl,hn,by rw[hlen'];exact Walks.listRev hA.hd I a hne vs,?_,?_,?_,?_⟩,by rw[iJ];exact hl⟩
 ·exact⟨d5 _,by simpa using hI,h.isList⟩
 ·exact uy (Ua hI fun o e _=>⟨pI,_,e⟩) (uy (Un h fun n e=>⟨pa,_,e⟩) Jz)
 ·intro i d v hd hv
  have hi:i<l.length:=by
   refine a8 fun hc=>?_;rw[fj (by simp;(exact c5.mp hc))]at hd;cases hd
  rw[List.getElem?_reverse hi]at hd;refine Ua (lJ r hd) fun u e1 e2=>?_;rw[hlen]at hv;rw[e1]at hv;cases hv;exact e2
 ·rintro i h ⟨_,⟨o,e1,_,e2⟩,_⟩;refine⟨o,e1,fun ws q t e=>?_⟩;rw[e2]at e;cases e;intro e;cases e
end
theorem MM.set_lookup (M:MM) (x y:Str) (e:Ent):(M.set x e).lookup y=if y=x then some e else M.lookup y:=by
 induction M with
 |nil=>
  show eB y [(x,e)]=_;by_cases h:y=x
  ·rw[if_pos h,h];simp
  ·rw[if_neg h,aH,beq_eq_false_iff_ne.mpr h]
 |cons p r ih=>
  show eB y (if(p.1==x)=true then(x,e)::r else p::MM.set r x e)=_;by_cases hp:(p.1==x)=true
  ·rw[if_pos hp]
   have hp':=bt hp;by_cases h:y=x
   ·rw[if_pos h,h];simp
   ·rw[if_neg h,aH,beq_eq_false_iff_ne.mpr h]
    obtain⟨p1,p2⟩:=p;rw[aH,beq_eq_false_iff_ne.mpr (show y≠p1 from fun e=>h (e.trans hp'))]
  ·rw[if_neg hp]
   obtain⟨p1,p2⟩:=p;by_cases hy:y=p1
   ·have hne:y≠x:=fun e=>hp (beq_iff_eq.mpr (hy.symm.trans e))
    rw[if_neg hne];simp[aH,hy]
   ·rw[aH,beq_eq_false_iff_ne.mpr hy,aH,beq_eq_false_iff_ne.mpr hy]
    exact ih
theorem gq {α:Type} (f:Str→Bool):∀(M:List (Str×α)) (x:Str),(M.filter fun p=>f p.1).lookup x=if f x=true then M.lookup x else none
 |[]=>@fun x=>by simp
 |(y,e)::r=>@fun x=>by
  rw[mZ];by_cases hy:f y=true
  ·rw[if_pos hy,aH,aH]
   cases hxy:x==y with
   |true=>rw[bt hxy,if_pos hy]
   |false=>exact gq f r x
  ·rw[if_neg hy,gq f r x]
   by_cases hx:f x=true
   ·rw[if_pos hx,if_pos hx,aH,beq_eq_false_iff_ne.mpr (show x≠y from fun e=>hy (e▸hx))]
   ·rw[if_neg hx,if_neg hx]
section
variable {C:aU} {A:Around} {s:Shared} {ah:Addr→Prop} {μ:List Addr} {h h':Heap} {env:Env} {m:Str→Option Value} {M jy:MM} {k:Nat}
theorem Rep.lt {P Q:Addr→Prop} {d:D} {v:Value} (r:Rep P h d v) (k:Keep h h') (t:¬P 65∧¬P 72) (hq:∀a o,P a→h.get? a=some o→Q a):Rep Q h' d v:=
 Rep.mono (fun a o p e=>⟨(tr t k a o p e).1,hq a o p e⟩) r
theorem Reps.lt {P Q:Addr→Prop} {d:List D} {v:List Value} (r:Reps P h d v) (k:Keep h h') (t:¬P 65∧¬P 72) (hq:∀a o,P a→h.get? a=some o→Q a):Reps Q h' d v:=
 Reps.mono (fun a o p e=>⟨(tr t k a o p e).1,hq a o p e⟩) r
theorem FI.mores {as:List Addr} (F:FI ah μ h env m M) (k:Keep h h') (hn:∀a∈as,h.get? a=none∧∃o,h'.get? a=some o) (h65:h.get? 65≠none) (h72:h.get? 72≠none):FI ah (as++μ) h' env m M:=by
 have pq:∀b o,Pm ah μ b→h.get? b=some o→Pm ah (as++μ) b:=fun b o p q=>⟨p.1,fun e=>by
  rcases cF.mp e with e|e
  ·rw[(hn b e).1]at q;cases q
  ·exact p.2 e⟩;have F':=F.keep k;refine⟨F'.live,fun b q=>?_,F.tab,F.kind,F.glob,F.bi,F'.ns,jH _ F.nL,fun x e q r=>?_,F'.cell,fun x c q1 q2 q3=>jH _ (F.st x c q1 q2 q3),F.inj,fun x e q r=>?_,F.ownInj⟩
 ·rcases cF.mp q with q|q
  ·exact⟨fun e=>h65 (e▸(hn b q).1),fun e=>h72 (e▸(hn b q).1),(hn b q).2⟩
  ·exact F'.liveμ b q
 ·refine Ua (F.loc x e q r) fun v e1 e2=>?_
  refine⟨v,e1,?_⟩;cases e with
  |dat d=>exact Rep.lt e2 k F.tabm pq
  |own l=>
   (refine Ug e2 fun b vs q0 p0 hb hl hr=>?_;subst q0);refine Ud (F.liveμ b hb) fun n1 n2 _=>?_;exact⟨b,vs,rfl,p0,jH _ hb,hl.at fun o e=>k.get _ _ n1 n2 e,Reps.lt hr k F.tabm pq⟩
 ·refine Ui (F.cval x e q r) fun c v d e1 e2 e3 e4=>?_
  refine Ui (F'.cval x e q r) fun c' v' d' f1 f2 f3 f4=>?_;rw[e1]at f1;cases f1;refine Ua e2 fun o g1 g2=>?_;refine Ue (F.cell x r) fun _ _ k1 k2 k3 _=>?_;rw[e1]at k1;cases k1;exact⟨c,v,d,e1,⟨o,k.get _ _ k2 k3 g1,g2⟩,e3,Rep.lt e4 k F.tabm pq⟩
theorem FI.more {a:Addr} (F:FI ah μ h env m M) (k:Keep h h') (hn:h.get? a=none) (ha:∃o,h'.get? a=some o) (h65:h.get? 65≠none) (h72:h.get? 72≠none):FI ah (a::μ) h' env m M:=
 F.mores (as:=[a]) k (fun b hb=>by rw[aT]at hb;subst hb;exact⟨hn,ha⟩) h65 h72
theorem FI.weaken (F:FI ah μ h env m M) (hM:∀y e,jy.lookup y=some e→M.lookup y=some e):FI ah μ h env m jy:=
 ⟨F.live,F.liveμ,F.tab,F.kind,F.glob,F.bi,F.ns,F.nL,fun x e q r=>F.loc x e (hM _ _ q) r,F.cell,F.st,F.inj,fun x e q r=>F.cval x e (hM _ _ q) r,fun x y l l' v q1 q2=>F.ownInj x y l l' v (hM _ _ q1) (hM _ _ q2)⟩
theorem FI.drop {a:Addr} (F:FI ah (a::μ) h env m M) (pa:ah a) (hno:∀x l,M.lookup x≠some (.own l)) (hL:env.locals≠a) (hf:env.func=l8) (hc:∀x c,env.cells.lookup x=some c→c≠a) (ha:a∉μ)
 (hs:∀b o,b≠a→h.get? b=some o→h'.get? b=some o):FI ah μ h' env m M:=by
 have pq:∀b o,Pm ah (a::μ) b→h.get? b=some o→h'.get? b=some o∧Pm ah μ b:=fun b o p e=>⟨hs b o (fun q=>p.2 (q▸au ..)) e,p.1,fun q=>p.2 (af _ q)⟩;refine⟨fun b n=>?_,fun b q=>?_,F.tab,F.kind,F.glob,F.bi,?_,?_,fun x e q r=>?_,fun x r=>?_,fun x c q1 _ _=>(by rw[hf]at q1;cases q1),F.inj,fun x e q r=>?_,fun x y l l' v q1=>absurd q1 (hno x l)⟩
 ·rcases F.live b n with e|e|⟨o,e⟩
  ·exact .inl e
  ·exact .inr (.inl e)
  ·exact .inr (.inr ⟨o,hs b o (fun q=>n (q▸pa)) e⟩)
 ·refine Uh (F.liveμ b (af _ q)) fun n1 n2 o e=>?_
  exact⟨n1,n2,o,hs b o (fun q'=>ha (q'▸q)) e⟩
 ·refine Uk F.ns fun o es ep e z=>?_;exact⟨o,es,ep,hs _ _ hL e,z⟩
 ·rcases aD.mp F.nL with e|e
  ·exact absurd e hL
  ·exact e
 ·refine Ua (F.loc x e q r) fun v e1 e2=>?_
  refine⟨v,e1,?_⟩;cases e with
  |dat d=>exact Rep.mono pq e2
  |own l=>exact absurd q (hno x l)
 ·refine Up (F.cell x r) fun c v e1 n1 n2 o e2 e3=>?_
  exact⟨c,v,e1,n1,n2,o,hs _ _ (hc x c e1) e2,e3⟩
 ·(refine Ui (F.cval x e q r) fun c v d e1 q0 e3 e4=>?_;refine Ua q0 fun o g1 g2=>?_)
  exact⟨c,v,d,e1,⟨o,hs _ _ (hc x c e1) g1,g2⟩,e3,Rep.mono pq e4⟩
theorem FI.but {a:Addr} (F:FI ah μ h env m M) (ha:a∈μ) (hL:env.locals≠a) (hno:∀x l,M.lookup x≠some (.own l)) (hc:∀x c,env.cells.lookup x=some c→c≠a)
 (hs:∀b o,b≠a→h.get? b=some o→h'.get? b=some o) (hlv:∃o,h'.get? a=some o):FI ah μ h' env m M:=by
 have pq:∀b o,Pm ah μ b→h.get? b=some o→h'.get? b=some o∧Pm ah μ b:=fun b o p e=>⟨hs b o (fun q=>p.2 (q▸ha)) e,p⟩;refine⟨fun b n=>?_,fun b q=>?_,F.tab,F.kind,F.glob,F.bi,?_,F.nL,fun x e q r=>?_,fun x r=>?_,F.st,F.inj,fun x e q r=>?_,fun x y l l' v q1=>absurd q1 (hno x l)⟩
 ·rcases F.live b n with e|e|⟨o,e⟩
  ·exact .inl e
  ·exact .inr (.inl e)
  ·by_cases hb:b=a
   ·subst hb;exact .inr (.inr hlv)
   ·exact .inr (.inr ⟨o,hs b o hb e⟩)
 ·refine Uh (F.liveμ b q) fun n1 n2 o e=>?_
  refine⟨n1,n2,?_⟩;by_cases hb:b=a
  ·subst hb;exact hlv
  ·exact⟨o,hs b o hb e⟩
 ·refine Uk F.ns fun o es ep e z=>?_;exact⟨o,es,ep,hs _ _ hL e,z⟩
 ·refine Ua (F.loc x e q r) fun v e1 e2=>?_
  refine⟨v,e1,?_⟩;cases e with
  |dat d=>exact Rep.mono pq e2
  |own l=>exact absurd q (hno x l)
 ·refine Up (F.cell x r) fun c v e1 n1 n2 o e2 e3=>?_
  exact⟨c,v,e1,n1,n2,o,hs _ _ (hc x c e1) e2,e3⟩
 ·(refine Ui (F.cval x e q r) fun c v d e1 q0 e3 e4=>?_;refine Ua q0 fun o g1 g2=>?_)
  exact⟨c,v,d,e1,⟨o,hs _ _ (hc x c e1) g1,g2⟩,e3,Rep.mono pq e4⟩
theorem FI.set {x:Str} {v:Value} {d:D} (F:FI ah μ h env m M) (hx:env.kindOf x=some .local) (hn:h'.Ns env.locals (fun y=>if y=x then some v else m y))
 (hs:∀b o,b≠env.locals→h.get? b=some o→h'.get? b=some o) (hv:Rep (Pm ah μ) h d v):FI ah μ h' env (fun y=>if y=x then some v else m y) (M.set x (.dat d)):=by
 have pq:∀b o,Pm ah μ b→h.get? b=some o→h'.get? b=some o∧Pm ah μ b:=fun b o p e=>⟨hs b o (fun q=>p.2 (q▸F.nL)) e,p⟩;refine Uo F.ns fun oL esL epL eL dL _=>?_;have hlv:∃o,h'.get? env.locals=some o:=by refine Uk hn fun o _ _ e _=>?_;exact⟨o,e⟩
 have nl:∀a vs,h.PlainList a vs→a≠env.locals:=fun a vs ⟨n,e⟩ q=>by rw[q,eL]at e;cases e;cases dL
 have nc:∀c v,h.IsCell c v→c≠env.locals:=fun c v ⟨o,e,e'⟩ q=>by rw[q,eL]at e;cases e;rw[dL]at e';cases e'
 refine⟨fun b n=>?_,fun b q=>?_,F.tab,F.kind,F.glob,F.bi,hn,F.nL,fun y e q r=>?_,fun y r=>?_,F.st,F.inj,fun y e q r=>?_,fun y z l l' u q1 q2 q3 q4=>?_⟩
 ·rcases F.live b n with e|e|⟨o,e⟩
  ·exact .inl e
  ·exact .inr (.inl e)
  ·by_cases hb:b=env.locals
   ·subst hb;exact .inr (.inr hlv)
   ·exact .inr (.inr ⟨o,hs b o hb e⟩)
 ·refine Uh (F.liveμ b q) fun n1 n2 o e=>?_
  refine⟨n1,n2,?_⟩;by_cases hb:b=env.locals
  ·subst hb;exact hlv
  ·exact⟨o,hs b o hb e⟩
 ·rw[MM.set_lookup]at q
  by_cases hy:y=x
  ·rw[if_pos hy]at q;cases q
   exact⟨v,if_pos hy,Rep.mono pq hv⟩
  ·rw[if_neg hy]at q
   refine Ua (F.loc y e q r) fun u e1 e2=>?_;refine⟨u,(if_neg hy).trans e1,?_⟩;cases e with
   |dat d=>exact Rep.mono pq e2
   |own l=>
    (refine Ug e2 fun a vs q0 p0 ha hl hr=>?_;subst q0);exact⟨a,vs,rfl,p0,ha,hl.at fun o e=>hs _ _ (nl a vs hl) e,Reps.mono pq hr⟩
 ·refine Ue (F.cell y r) fun c u e1 n1 n2 hcell=>?_
  refine Ua (id hcell) fun o e2 e3=>?_;exact⟨c,u,e1,n1,n2,o,hs _ _ (nc _ _ hcell) e2,e3⟩
 ·rw[MM.set_lookup]at q
  by_cases hy:y=x
  ·subst hy;rw[hx]at r;rcases r with r|r<;>cases r
  ·rw[if_neg hy]at q
   refine Ui (F.cval y e q r) fun c u d' e1 hcell e3 e4=>?_;refine Ua (id hcell) fun o g1 g2=>?_;exact⟨c,u,d',e1,⟨o,hs _ _ (nc _ _ hcell) g1,g2⟩,e3,Rep.mono pq e4⟩
 ·rw[MM.set_lookup]at q1 q2
  by_cases hy:y=x
  ·rw[if_pos hy]at q1;cases q1
  by_cases hz:z=x
  ·rw[if_pos hz]at q2;cases q2
  rw[if_neg hy]at q1;rw[if_neg hz]at q2;exact F.ownInj y z l l' u q1 q2 (by simpa[hy]using q3) (by simpa[hz]using q4)
end
noncomputable def clo (env:Env):NS→List (Str×Addr)→List (Str×Addr)
 |[],cs=>cs
 |(n,k)::r,cs=>if(k==.free)=true then clo env r ((n,(env.cells.lookup n).getD 0)::cs)else clo env r cs
theorem o3 {env:Env}:∀(names:NS) (cs:List (Str×Addr)),(∀p∈names,p.2=.free→∃c,env.cells.lookup p.1=some c)→
 (forIn names cs fun x r=>if(x.2==cr)=true then do let c←cellOf env x.1;pure (ie ((x.1,c)::r))else pure (ie r))=(pure (clo env names cs):Sem (List (Str×Addr)))
 |[]=>@fun cs _=>rfl
 |(n,kd)::r=>@fun cs h=>by
  rw[Pq];by_cases hk:(kd==cr)=true
  ·obtain⟨c,hc⟩:=h (n,kd) (au ..) (bt hk)
   simp only[hk,if_true,clo];have:cellOf env n=pure c:=by unfold cellOf;rw[hc]
   rw[this,Tg,Tg];simp only[hc,Option.getD_some];exact o3 r _ fun p hp=>h p (af _ hp)
  ·simp only[hk,clo]
   rw[if_neg (by simp)];exact o3 r _ fun p hp=>h p (af _ hp)
theorem ip {scope:Scope} {env:Env} (h:∀p∈scope.names,p.2=.free→∃c,env.cells.lookup p.1=some c):closureFor scope env=pure (clo env scope.names []):=by
 have:=o3 scope.names [] h;unfold closureFor;first
  |exact this
  |(rw[bind_pure];exact this)
  |(simp only[bind_pure];exact this)
  |(rw[←this];rfl)
theorem sD {env:Env}:∀(names:NS) (cs:List (Str×Addr)),(∀p∈names,p.2=.free→∃c,env.cells.lookup p.1=some c)→(∀p∈cs,env.cells.lookup p.1=some p.2)→∀p∈clo env names cs,env.cells.lookup p.1=some p.2
 |[]=>@fun cs _ hc=>hc
 |(n,kd)::r=>@fun cs h hc=>by
  rw[clo];split
  ·rename_i hk
   obtain⟨c,e⟩:=h (n,kd) (au ..) (bt hk);refine sD r _ (fun p hp=>h p (af _ hp)) fun p hp=>?_;rcases aD.mp hp with rfl|hp
   ·show env.cells.lookup n=some ((env.cells.lookup n).getD 0);rw[e];rfl
   ·exact hc p hp
  ·exact sD r _ (fun p hp=>h p (af _ hp)) hc
theorem sE {env:Env} {x:Str}:∀(names:NS) (cs:List (Str×Addr)),(x,cr)∈names∨(∃c,(x,c)∈cs)→∃c,(x,c)∈clo env names cs
 |[]=>@fun cs h=>h.elim (fun e=>(nomatch e)) id
 |(n,kd)::r=>@fun cs h=>by
  rw[clo];split
  ·rename_i hk
   refine sE r _ ?_;rcases h with h|⟨c,h⟩
   ·rcases aD.mp h with e|h
    ·cases e;exact .inr ⟨_,au ..⟩
    ·exact .inl h
   ·exact .inr ⟨c,af _ h⟩
  ·rename_i hk
   refine sE r _ ?_;rcases h with h|h
   ·rcases aD.mp h with e|h
    ·cases e;exact absurd rfl hk
    ·exact .inl h
   ·exact .inr h
theorem la {α:Type} {x:Str}:∀{l:List (Str×α)} {c:α},(x,c)∈l→∃c',l.lookup x=some c'
 |[],_=>fun h=>nomatch h
 |(y,b)::r,c=>fun h=>by
  rw[aH];cases hxy:x==y with
  |true=>exact⟨b,rfl⟩
  |false=>
   rcases aD.mp h with e|h
   ·cases e;simp at hxy
   ·exact la h
theorem bk {α:Type} {x:Str}:∀{l:List (Str×α)} {c:α},l.lookup x=some c→(x,c)∈l
 |[],_=>fun h=>by simp at h
 |(y,b)::r,c=>fun h=>by
  rw[aH]at h;cases hxy:x==y with
  |true=>simp only[hxy]at h;cases h;rw[bt hxy];exact au ..
  |false=>simp only[hxy]at h;exact af _ (bk h)
theorem sZ {sc names:NS} {x:Str} (hn:∀p∈names,p.2≠gv) (h:(cW sc names).lookup x=some .cell∨(cW sc names).lookup x=some .free):(x,cr)∈names:=by
 have key:∀kd,(x,kd)∈cW sc names→kd=.cell∨kd=.free→(x,cr)∈names:=by
  intro kd hm hk;refine Ua (bc.mp hm) fun p hp e=>?_;split at e
  ·rename_i q
   rw[ao]at q;cases e;have:p.2=.free:=by simpa using q.1
   rw[←this];exact hp
  ·subst e
   rcases hk with hk|hk
   ·exact absurd hk (hn _ hp)
   ·rw[←hk];exact hp
 rcases h with h|h
 ·exact key _ (bk h) (.inl rfl)
 ·exact key _ (bk h) (.inr rfl)
theorem jh {scope:Scope} {env:Env} (hk:env.scope.kind=.function):(relabel scope env).names=cW env.scope.names scope.names:=by
 unfold relabel cW;show List.map _ _=List.map _ _;refine cR fun p _=>?_;obtain⟨n,kd⟩:=p;show(if(kd==.free&&env.scope.kind==.function&&env.kindOf n==some .cell)=true then(n,gv)else(n,kd))=_;rw[hk];have:(gv=gv):=rfl;simp only[ao,beq_self_eq_true,and_true];rfl
structure jJ (sc:NS) (s:Scope):Prop where
 kind:s.kind=.function
 nocell:∀p∈s.names,p.2≠gv
 loc:∀p∈s.names,p.2=.local→s.names.lookup p.1=some .local
 free:∀p∈s.names,p.2=.free→sc.lookup p.1=some .cell∨sc.lookup p.1=some .free
theorem ov {sc:NS} {s:Scope} (h:nF sc s=true):jJ sc s:=by
 unfold nF at h;rw[ao]at h;have h2:=bF.mp h.2;refine⟨?_,fun p hp e=>?_,fun p hp e=>?_,fun p hp e=>?_⟩
 ·have q:=h.1
  generalize s.kind=o at q⊢;cases o with
  |function=>rfl
  |_=>cases q
 ·have:=h2 p hp;rw[e]at this;cases this
 ·have:=h2 p hp;rw[e]at this;exact bt this
 ·have:=h2 p hp;rw[e]at this
  rcases cU.mp this with q|q
  ·exact .inl (bt q)
  ·exact .inr (bt q)
section
variable {C:aU} {A:Around} {s:Shared} {ah:Addr→Prop} {μ:List Addr} {h h':Heap} {env:Env} {m:Str→Option Value} {M jy:MM} {k:Nat}
noncomputable abbrev da (scope:Scope) (Cc:Addr) (env:Env):Env:=compEnvC scope (clo env scope.names []) Cc env
theorem vj {scope:Scope} (F:FI ah μ h env m M) (hc:jJ env.scope.names scope):∀p∈scope.names,p.2=.free→∃c,env.cells.lookup p.1=some c:=fun p hp e=>by
 refine Uf (F.cell p.1 (hc.free p hp e)) fun c v e1 _=>?_;exact⟨c,e1⟩
theorem wJ {scope:Scope} (F:FI ah μ h env m M) (hc:jJ env.scope.names scope) {x:Str} {c:Addr} (e:(clo env scope.names []).lookup x=some c):env.cells.lookup x=some c:=
 sD scope.names [] (vj F hc) (fun _ q=>nomatch q) _ (bk e)
theorem wK {x:Str}:∀(names:NS) (cs:List (Str×Addr)) {c:Addr},(x,c)∈clo env names cs→(x,cr)∈names∨∃c,(x,c)∈cs
 |[]=>@fun cs c h=>.inr ⟨c,h⟩
 |(n,kd)::r=>@fun cs c h=>by
  unfold clo at h;split at h
  ·rename_i hk
   rcases wK r _ h with e|⟨c',e⟩
   ·exact .inl (af _ e)
   ·rcases aD.mp e with e|e
    ·cases e;rw[bt hk];exact .inl (au ..)
    ·exact .inr ⟨_,e⟩
  ·exact(wK r _ h).imp (af _) id
theorem Hl {scope:Scope} (F:FI ah μ h env m M) (hc:jJ env.scope.names scope) {x:Str} {c:Addr} (e:(clo env scope.names []).lookup x=some c):∃o,h.get? c=some o:=by
 rcases wK scope.names [] (bk e)with q|⟨_,q⟩
 ·refine Ue (F.cell x (hc.free _ q rfl)) fun c' v e1 _ _ e2=>?_
  rw[wJ F hc e]at e1;cases e1;refine Ua e2 fun o e _=>?_;exact⟨o,e⟩
 ·cases q
theorem FI.comp {scope:Scope} (F:FI ah μ h env m M) (hc:jJ env.scope.names scope) (k:Keep h h') {Cc:Addr} {as:List Addr} (hC:∀a∈as,h.get? a=none∧∃o,h'.get? a=some o) (hCa:Cc∈as) (h65:h.get? 65≠none) (h72:h.get? 72≠none) (hns:h'.Ns Cc fun _=>none):
 FI ah (as++μ) h' (da scope Cc env) (fun _=>none) (capt (cW env.scope.names scope.names) M)∧∀x l,(capt (cW env.scope.names scope.names) M).lookup x≠some (.own l):=by
 have dG:=F.mores k hC h65 h72;have hkd:∀x,(da scope Cc env).kindOf x=(cW env.scope.names scope.names).lookup x:=fun x=>by
  show(relabel scope env).names.lookup x=_;rw[jh F.kind]
 have hcap:∀x e,(capt (cW env.scope.names scope.names) M).lookup x=some e→M.lookup x=some e∧((cW env.scope.names scope.names).lookup x=some .cell∨(cW env.scope.names scope.names).lookup x=some .free):=by
  intro x e q;unfold capt at q;rw[gq (fun y=>(cW env.scope.names scope.names).lookup y==some .cell||(cW env.scope.names scope.names).lookup y==some .free)]at q;split at q
  ·rename_i q'
   refine⟨q,?_⟩;rcases cU.mp q' with z|z
   ·exact .inl (bt z)
   ·exact .inr (bt z)
  ·cases q
 have hout:∀x,(cW env.scope.names scope.names).lookup x=some .cell∨(cW env.scope.names scope.names).lookup x=some .free→env.kindOf x=some .cell∨env.kindOf x=some .free:=fun x r=>hc.free _ (sZ hc.nocell r) rfl;have hlook:∀x,(cW env.scope.names scope.names).lookup x=some .cell∨(cW env.scope.names scope.names).lookup x=some .free→∃c,(clo env scope.names []).lookup x=some c∧env.cells.lookup x=some c:=fun x r=>by
  obtain⟨c,hm⟩:=sE (env:=env) scope.names [] (.inl (sZ hc.nocell r));obtain⟨c',e⟩:=la hm;exact⟨c',e,wJ F hc e⟩
 refine⟨⟨dG.live,dG.liveμ,F.tab,hc.kind,F.glob,F.bi,hns,D1 _ hCa,fun x e q r=>?_,fun x r=>?_,fun x c q=>(by cases q),fun x y c q1 q2=>F.inj x y c (wJ F hc q1) (wJ F hc q2),fun x e q r=>?_,fun x y l l' v q1 q2 q3=>(by cases q3)⟩,fun x l q=>?_⟩
 ·obtain⟨_,r'⟩:=hcap x e q
  rw[hkd]at r;rw[r]at r';rcases r' with r'|r'<;>cases r'
 ·rw[hkd]at r
  refine Ua (hlook x r) fun c e1 e2=>?_;refine Ue (dG.cell x (hout x r)) fun c' v f1 f2 f3 f4=>?_;rw[e2]at f1;cases f1;exact⟨c,v,e1,f2,f3,f4⟩
 ·rw[hkd]at r
  refine Ua (hlook x r) fun c e1 e2=>?_;refine Ui (dG.cval x e (hcap x e q).1 (hout x r)) fun c' v d f1 f2 f3 f4=>?_;rw[e2]at f1;cases f1;exact⟨c,v,d,e1,f2,f3,f4⟩
 ·obtain⟨q1,q2⟩:=hcap x _ q
  refine Ui (F.cval x _ q1 (hout x q2)) fun c v d _ _ e _=>?_;cases e
structure CS (C:aU) (μ:List Addr) (Dl:Addr) (env:Env) (dP:Heap):Prop where
 dμ:Dl∈μ
 dL:Dl≠env.locals
 dn:dP.get? Dl=none
 ln:dP.get? env.locals=none
 fn:env.func=l8
 cells:∀x c,env.cells.lookup x=some c→∃o,dP.get? c=some o
 fresh:∀a,dP.get? a=l8→C.G.get? a=l8
theorem CS.cons {Dl a:Addr} {dP:Heap} (x:CS C μ Dl env dP):CS C (a::μ) Dl env dP:=⟨af _ x.dμ,x.dL,x.dn,x.ln,x.fn,x.cells,x.fresh⟩
noncomputable def NoOwn (M:MM):Prop:=∀x l,M.lookup x≠some (.own l)
theorem NoOwn.set {x:Str} {d:D} (n:NoOwn M):NoOwn (M.set x (.dat d)):=fun y l e=>by
 rw[MM.set_lookup]at e;split at e
 ·cases e
 ·exact n y l e
structure CI (C:aU) (ah:Addr→Prop) (μ:List Addr) (Dl:Addr) (env:Env) (M:MM) (bR:Heap) (bl:List Addr) (out:List D) (s:Shared):Prop where
 S:St C s
 F:∃m,FI ah μ s.heap env m M
 acc:∃ys,s.heap.PlainList Dl ys∧Reps (Pm ah μ) s.heap out ys.toList
 k:∀b o,b≠65→b≠72→b∉bl→bR.get? b=some o→s.heap.get? b=some o
variable {Dl:Addr} {bR:Heap} {bl:List Addr} {out:List D} {dP:Heap}
theorem CI.eval {az:Shared} (cs:CS C μ Dl env dP) (x:CI C ah μ Dl env M bR bl out s) (bu:St C az) (bN:Keep s.heap az.heap):CI C ah μ Dl env M bR bl out az:=by
 obtain⟨m,F⟩:=x.F;refine Ua x.acc fun ys h1 h2=>?_;refine Ud (F.liveμ _ cs.dμ) fun n1 n2 _=>?_;exact⟨bu,⟨m,F.keep bN⟩,⟨ys,h1.at fun o e=>bN.get _ _ n1 n2 e,Sr F.tabm bN h2⟩,fun b o q1 q2 q3 e=>bN.get _ _ q1 q2 (x.k b o q1 q2 q3 e)⟩
theorem CI.weaken (x:CI C ah μ Dl env M bR bl out s) (hM:∀y e,jy.lookup y=some e→M.lookup y=some e):CI C ah μ Dl env jy bR bl out s:=by
 obtain⟨m,F⟩:=x.F;exact⟨x.S,⟨m,F.weaken hM⟩,x.acc,x.k⟩
theorem CI.app {d:D} {v:Value} {Q:Value→Shared→Prop} (cs:CS C μ Dl env dP) (no:NoOwn M) (x:CI C ah μ Dl env M bR bl out s) (hbl:Dl∈bl) (r:Rep (Pm ah μ) s.heap d v) (hl:out.length≤1000000)
 (h:∀az,CI C ah μ Dl env M bR bl (out++[d]) az→(∀b o,b≠Dl→s.heap.get? b=some o→az.heap.get? b=some o)→Q .none az):wpAny (MD C) A (call (.builtin "list.append") [.ref Dl,v]) Q bL s:=by
 obtain⟨m,F⟩:=x.F;refine Ua x.acc fun ys h1 h2=>?_;refine Ud (F.liveμ _ cs.dμ) fun n1 n2 _=>?_;have hlen:=h2.length;rw[aK]at hlen;refine Il h1 (fun h' hl' hs=>h _ ?_ fun b o q e=>(hs.2 b q).trans e) (by show _≤2^24;(rw[hlen];exact ae hl (by decide)));obtain⟨n,e⟩:=id h1;have hs':∀b o,b≠Dl→s.heap.get? b=some o→h'.get? b=some o:=fun b o q e=>(hs.2 b q).trans e;refine⟨x.S.but e (fun vs q t z=>by cases z) (cs.fresh _ cs.dn) n1 n2 hs',⟨m,F.but cs.dμ (cC cs.dL) no (fun y c q=>?_) hs' ?_⟩,⟨_,hl',?_⟩,fun b o q1 q2 q3 e=>hs' b o (fun z=>q3 (z▸hbl)) (x.k b o q1 q2 q3 e)⟩
 ·intro z
  obtain⟨o,e⟩:=cs.cells y c q;rw[z,cs.dn]at e;cases e
 ·obtain⟨n,e⟩:=hl';exact⟨_,e⟩
 ·have pq:∀b o,Pm ah μ b→s.heap.get? b=some o→h'.get? b=some o∧Pm ah μ b:=fun b o p e=>⟨hs' b o (fun q=>p.2 (q▸cs.dμ)) e,p⟩
  rw[Ir];exact Reps.append (Reps.mono pq h2) ⟨_,_,rfl,Rep.mono pq r,rfl⟩
theorem CI.step {x:Str} {px:Pos} {I:Addr} {fp:List Addr} {n i:Nat} {Pv:Nat→Value→Prop} {Si:Nat→Heap→Prop} {d:D} {N:Shared→Prop} {Q:Unit→Shared→Prop}
 (cs:CS C μ Dl env dP) (no:NoOwn M) (c:CI C ah μ Dl env M bR bl out s) (W:Walks PySem.Challenge.pw_uc0055_01 C.w A I fp [I] n Pv Si) (hi:i<n) (hS:Si i s.heap) (hno:∀i h,Si i h→∃o,h.get? I=some o∧iX o)
 (hbμ:∀b∈bl,b∈μ) (Ibl:I∈bl) (Lbl:env.locals∈bl) (In:dP.get? I=none) (IL:I≠env.locals) (ID:I≠Dl) (fpL:env.locals∉fp) (hx:env.kindOf x=some .local) (item:∀v,Pv i v→Rep (Pm ah μ) bR d v)
 (h:∀az,CI C ah μ Dl env (M.set x (.dat d)) bR bl out az→Si (i+1) az.heap→Q () az):
 wpAny (MD C) A (pyNext (.ref I)) (fun r az=>match r with
  |none=>N az
  |some v=>wpAny (MD C) A (assign (.Name x px) env v) Q bL az) bL s:=by
 obtain⟨m,F⟩:=c.F;refine Ua c.acc fun ys h1 h2=>?_;have Iμ:=hbμ _ Ibl;refine Ud (F.liveμ _ Iμ) fun n1 n2 _=>?_;refine Ud (F.liveμ _ F.nL) fun l1 l2 _=>?_;refine W.item i s _ _ hi hS fun v h' tk hPv hS' hk=>?_;have hk':∀b o,b≠I→s.heap.get? b=some o→h'.get? b=some o:=fun b o q e=>hk b o (by simpa using q) e;refine Ua (hno i _ hS) fun oI eI nI=>?_;have bu:St C {s with heap:=h',toks:=tk}:=c.S.but eI nI (cs.fresh _ In) n1 n2 hk';have pq:∀b o,Pm ah μ b→s.heap.get? b=some o→h'.get? b=some o∧Pm ah μ b:=fun b o p e=>⟨hk' b o (fun q=>p.2 (q▸Iμ)) e,p⟩;have dG:FI ah μ h' env m M:=F.but Iμ (cC IL) no (fun y c q z=>by obtain⟨o,e⟩:=cs.cells y c q;rw[z,In]at e;cases e) hk' (by refine Ua (hno _ _ hS') fun o e _=>?_;exact⟨o,e⟩);have hv:Rep (Pm ah μ) h' d v:=Rep.mono (fun b o p e=>⟨hk' b o (fun q=>p.2 (q▸Iμ)) (c.k b o (fun q=>F.tabm.1 (q▸p)) (fun q=>F.tabm.2 (q▸p)) (fun q=>p.2 (hbμ _ q)) e),p⟩) (item v hPv);refine bT (cJ hx dG.ns (fun h'' hn hs=>?_) (by rw[F.kind];rfl));have hs':∀b o,b≠env.locals→h'.get? b=some o→h''.get? b=some o:=fun b o q e=>(hs.2 b q).trans e;refine Uo dG.ns fun oL esL epL eL dL _=>?_;refine h _ ⟨bu.but eL (fun vs q t z=>by rw[dL]at z;cases z) (cs.fresh _ cs.ln) l1 l2 hs',⟨_,dG.set hx hn hs' hv⟩,⟨ys,?_,?_⟩,fun b o q1 q2 q3 e=>hs' b o (fun z=>q3 (z▸Lbl)) (hk' b o (fun z=>q3 (z▸Ibl)) (c.k b o q1 q2 q3 e))⟩ ?_
 ·exact(h1.at fun o e=>hk' _ o (cC ID) e).at fun o e=>hs' _ o cs.dL e
 ·exact Reps.mono (fun b o p e=>⟨hs' b o (fun q=>p.2 (q▸F.nL)) e,p⟩) (Reps.mono pq h2)
 ·exact W.frame _ _ _ hS' fun b hb o e=>hs' b o (fun q=>fpL (q▸hb)) e
theorem CI.stop {I:Addr} {fp:List Addr} {n:Nat} {Pv:Nat→Value→Prop} {Si:Nat→Heap→Prop} {N:Shared→Prop} {Q:Value→Shared→Prop}
 (cs:CS C μ Dl env dP) (no:NoOwn M) (c:CI C ah (I::μ) Dl env M bR bl out s) (W:Walks PySem.Challenge.pw_uc0055_01 C.w A I fp [I] n Pv Si) (hS:Si n s.heap) (hno:∀i h,Si i h→∃o,h.get? I=some o∧iX o)
 (Ibl:I∈bl) (In:dP.get? I=none) (IL:I≠env.locals) (ID:I≠Dl) (Iμ:I∉μ) (pI:ah I)
 (h:∀az,CI C ah μ Dl env M bR bl out az→N az):
 wpAny (MD C) A (pyNext (.ref I)) (fun r az=>match r with
  |none=>N az
  |some v=>Q v az) bL s:=by
 obtain⟨m,F⟩:=c.F;refine Ua c.acc fun ys h1 h2=>?_;refine Ud (F.liveμ _ (au ..)) fun n1 n2 _=>?_;refine W.done s _ _ hS fun h' tk hk=>h _ ?_;have hk':∀b o,b≠I→s.heap.get? b=some o→h'.get? b=some o:=fun b o q e=>hk b o (by simpa using q) e;refine Ua (hno _ _ hS) fun oI eI nI=>?_;refine⟨c.S.but eI nI (cs.fresh _ In) n1 n2 hk',⟨m,F.drop pI no (cC IL) cs.fn (fun y c q z=>by obtain⟨o,e⟩:=cs.cells y c q;rw[z,In]at e;cases e) Iμ hk'⟩,⟨ys,h1.at fun o e=>hk' _ o (cC ID) e,?_⟩,fun b o q1 q2 q3 e=>hk' b o (fun z=>q3 (z▸Ibl)) (c.k b o q1 q2 q3 e)⟩;exact Reps.mono (fun b o p e=>⟨hk' b o (fun q=>p.2 (q▸au ..)) e,p.1,fun q=>p.2 (af _ q)⟩) h2
end
section
variable {C:aU} {A:Around} {s:Shared} {ah:Addr→Prop} {μ:List Addr} {env:Env} {m:Str→Option Value} {M:MM} {k:Nat}
structure Turn (C:aU) (A:Around) (ah:Addr→Prop) (μ:List Addr) (dP:Heap) (I D' Cc:Addr) (fp:List Addr) (Pv:Nat→Value→Prop) (Si:Nat→Heap→Prop) (ds:List D) (bR:Heap):Prop where
 W:Walks PySem.Challenge.pw_uc0055_01 C.w A I fp [I] ds.length Pv Si
 no:∀i h,Si i h→∃o,h.get? I=some o∧iX o
 In:dP.get? I=none
 IC:I≠Cc
 ID:I≠D'
 DC:D'≠Cc
 fp:∀b∈fp,b≠65∧b≠72∧b≠Cc∧b≠D'∧ah b
 Iμ:I∉μ
 item:∀i d v,ds[i]?=some d→Pv i v→Rep (Pm ah (I::μ)) bR d v
 len:ds.length≤1000000
theorem Turn.pI {dP:Heap} {I D' Cc:Addr} {fp:List Addr} {Pv:Nat→Value→Prop} {Si:Nat→Heap→Prop} {ds:List D} {bR:Heap} (T:Turn C A ah μ dP I D' Cc fp Pv Si ds bR):ah I:=(T.fp I (T.W.sub _ (by simp))).2.2.2.2
theorem t6 {e:Expr} {scope:Scope} {g:Comprehension} {it:Value} {ds:List D} {aV:Shared} {RR:Value→Addr→Result→Shared→Prop} (hg:(clausesOf e)[0]?=some g) (ha:g.is_async=0) (hc:jJ env.scope.names scope)
 (hf:∀acc env',(pv e 0 it acc env').isFrame=false) (hu:∀acc env',A.under (.compStart e 0 it acc env')=A) (hq:∀it acc env',(zV e 0 it acc env').quiet=true)
 (F:FI ah μ s.heap env m M) (S:St C s) (h:PostI C A s (Pm ah μ) ds it aV)
 (run:∀{I D' Cc:Addr} {fp:List Addr} {Pv:Nat→Value→Prop} {Si:Nat→Heap→Prop} {eG:Shared},Turn C A ah (D'::Cc::μ) s.heap I D' Cc fp Pv Si ds aV.heap→CS C (D'::Cc::μ) D' (da scope Cc env) s.heap→
  NoOwn (capt (cW env.scope.names scope.names) M)→Keep s.heap aV.heap→s.heap.get? Cc=none→
  CI C ah (I::D'::Cc::μ) D' (da scope Cc env) (capt (cW env.scope.names scope.names) M) aV.heap [I,D',Cc] [] eG→Si 0 eG.heap→
  codeAny (MD C) A (.compLoop e 0 (.ref I) (.ref D') (da scope Cc env)) (RR (.ref D') Cc) eG):
 wpAny (MD C) A (newList []) (fun acc bq=>wpAny (MD C) A (newFunctionEnv scope env.globals (clo env scope.names []) [] env.qual none .none (some env)) (fun cenv eG=>
  codeAny (MD C) A (.compStart e 0 it acc {cenv with scope:=relabel scope env}) (RR acc cenv.locals) eG) bL bq) bL aV:=by
 obtain⟨eA,d9,⟨I,fp,Pv,Si,rfl,hIn,W,h0,hfp,hitem,hno⟩,hlen⟩:=h;refine nT (rT hc.nocell (by intro y hy;simp at hy) (fun bV lg ld=>?_) hc.kind);dsimp only at lg ld⊢;generalize hH2:aV.heap.push {cls:=.type "list",dict:=none,data:=.seq ([]:List Value).toArray}=H2 at lg ld⊢;have hC:H2.objs.size=aV.heap.objs.size+1:=by rw[←hH2,lE]
 have hIfp:I∈fp:=W.sub _ (by simp);have hIlt:I<aV.heap.objs.size:=by obtain⟨o,e⟩:=(hfp I hIfp).2;exact aQ e
 have hs2:s.heap.get? aV.heap.objs.size=none:=eO eA d9 (eu _);have hDC:aV.heap.objs.size≠H2.objs.size:=by rw[hC];exact aM (jP _)
 have old:∀b o,aV.heap.get? b=some o→bV.get? b=some o:=fun b o e=>ld.extBut b o (by have:=aQ e;rw[hC];exact aM (dJ this)) (ak _ (hH2▸ak _ e));have hacc:bV.PlainList aV.heap.objs.size #[]:=⟨_,ld.extBut _ _ hDC (ak _ (hH2▸aX _ rfl))⟩;have hSi:Si 0 bV:=W.frame _ _ _ h0 fun b _ o e=>old b o e;have jE:Keep s.heap bV:=d9.trans (.of old);have hCn:s.heap.get? H2.objs.size=none:=eO eA d9 (by
  rw[hC];cases e:aV.heap.get? (aV.heap.objs.size+1)with
  |none=>rfl
  |some o=>exact absurd (aQ e) (c5.mpr (vC _)));have hIC:I≠H2.objs.size:=by rw[hC];exact aM (dJ hIlt)
 have hID:I≠aV.heap.objs.size:=aM hIlt;have hμlt:∀a∈μ,∃o,s.heap.get? a=some o:=fun a q=>(F.liveμ a q).2.2;have FC:=F.comp hc jE (Cc:=H2.objs.size) (as:=[I,aV.heap.objs.size,H2.objs.size]) (uy (Ua (hno _ _ hSi) fun o e _=>⟨hIn,o,e⟩) (uy (Un hacc fun n e=>⟨hs2,_,e⟩) (uy (Uk lg fun o _ _ e _=>⟨hCn,o,e⟩) Jz))) (by simp) S.live65 S.live72 (by simpa using lg);have T:Turn C A ah (aV.heap.objs.size::H2.objs.size::μ) s.heap I aV.heap.objs.size H2.objs.size fp Pv Si ds aV.heap:=by
  refine⟨W,hno,hIn,hIC,hID,hDC,fun b q=>?_,?_,fun i d v e1 e2=>?_,hlen⟩
  ·obtain⟨p,o,eo⟩:=hfp b q
   have l:=aQ eo;refine⟨fun e=>F.tabm.1 (e▸p),fun e=>F.tabm.2 (e▸p),by rw[hC];exact aM (dJ l),aM l,p.1⟩
  ·intro q
   simp only[aD]at q;rcases q with q|q|q
   ·exact hID q
   ·exact hIC q
   ·obtain⟨o,e⟩:=hμlt _ q;rw[hIn]at e;cases e
  ·refine Rep.mono (fun b o p e=>⟨e,p.1.1,fun q=>?_⟩) (hitem i d v e1 e2)
   have lt:=aQ e;simp only[aD]at q;rcases q with q|q|q|q
   ·exact p.2 q
   ·exact aM lt q
   ·rw[hC]at q;exact aM (dJ lt) q
   ·exact p.1.2 q
 have cs:CS C (aV.heap.objs.size::H2.objs.size::μ) aV.heap.objs.size (da scope H2.objs.size env) s.heap:=by
  refine⟨au ..,hDC,hs2,hCn,rfl,fun x c e=>Hl F hc e,fun a q=>?_⟩;cases e:C.G.get? a with
  |none=>rfl
  |some o=>rw[S.g a o e]at q;cases q
 have o9:St C {aV with heap:=bV,toks:=aV.toks+([]:List (Str×Value)).length}:=eA.grow old;have loop:codeAny (MD C) A (.compLoop e 0 (.ref I) (.ref aV.heap.objs.size) (da scope H2.objs.size env)) (RR (.ref aV.heap.objs.size) H2.objs.size) {aV with heap:=bV,toks:=aV.toks+([]:List (Str×Value)).length}:=
  run T cs FC.2 d9 hCn ⟨o9,⟨_,FC.1⟩,⟨_,hacc,rfl⟩,fun b o _ _ _ e=>old b o e⟩ hSi;exact qM hg ha (hf _ _) (hu _ _) (fun _=>hq _ _ _) loop (W.self 0 _ _ _ hSi loop)
theorem ng {f:Expr→Option Bool} (hf:HT C A ah μ env m M f):∀{ifs:List Expr} {r b:Bool} {s:Shared},(if r=true then nK f ifs=some b else b=false)→FI ah μ s.heap env m M→St C s→
 wpAny (MD C) A (forIn ifs r fun c r=>if r=true then do let ok←isTrue c env (eval c env);pure (ie ok)else pure (ie r)) (PostB C s b) bL s
 |[],r,b,s,h,F,S=>by
  rw[List.forIn_nil];refine aI ⟨?_,S,.refl⟩;cases r with
  |true=>rw[if_pos rfl]at h;cases h;rfl
  |false=>rw[if_neg (by decide)]at h;exact h.symm
 |e::es,r,b,s,h,F,S=>by
  rw[Pq];cases r with
  |false=>
   rw[if_neg (by decide)]at h;simp only[lF,if_false,Tg];exact ng hf (by rw[if_neg (by decide)];exact h) F S
  |true=>
   rw[if_pos rfl]at h;simp only[if_true];refine aq ?_;refine zf h (fun q h=>?_) fun q h=>?_
   ·refine aq (aa (hf _ _ _ q F S) (fun c az cu=>aI ?_) fun _ _ x=>x)
    (refine Ud cu fun q0 bu bN=>?_;subst q0);exact aa (ng hf (r:=true) (by rw[if_pos rfl];exact h) (F.keep bN) bu) (fun v bq fD=>fD.after bN) fun _ _ x=>x
   ·subst h
    refine aq (aa (hf _ _ _ q F S) (fun c az cu=>aI ?_) fun _ _ x=>x);(refine Ud cu fun q0 bu bN=>?_;subst q0);exact aa (ng hf (r:=false) (by rw[if_neg (by decide)]) (F.keep bN) bu) (fun v bq fD=>fD.after bN) fun _ _ x=>x
noncomputable def g1 (fE:MM→Expr→Option D) (fT:MM→Expr→Option Bool) (M:MM) (x:Str) (elt:Expr) (ifs:List Expr) (d:D):Option (List D):=
 match nK (fT (M.set x (.dat d))) ifs with
 |some true=>(fE (M.set x (.dat d)) elt).map fun v=>[v]
 |some false=>some []
 |none=>none
theorem ou {α:Type} {ds r:List α} {d:α} {i:Nat} (hd:ds.drop i=d::r):ds[i]?=some d∧i<ds.length∧ds.drop (i+1)=r:=by
 have hi:ds[i]?=some d:=by
  have:=congrArg (·[0]?) hd;rw[Ip]at this;exact this
 refine⟨hi,?_,by rw[←po,hd];rfl⟩;refine a8 fun q=>?_;rw[fj (by(exact c5.mp q))]at hi;cases hi
theorem NT {fE:MM→Expr→Option D} {fT:MM→Expr→Option Bool} {M:MM} {x:Str} {elt:Expr} {ifs:List Expr} {d:D} {l:List D} (h:g1 fE fT M x elt ifs d=some l) {G:Prop}
 (k1:nK (fT (M.set x (.dat d))) ifs=some true→((fE (M.set x (.dat d)) elt).map fun v=>[v])=some l→G) (k2:nK (fT (M.set x (.dat d))) ifs=some false→l=[]→G):G:=by
 unfold g1 at h;generalize nK (fT (M.set x (.dat d))) ifs=o at h k1 k2;cases o with
 |none=>cases h
 |some c=>cases c with
  |true=>exact k1 rfl h
  |false=>cases h;exact k2 rfl rfl
theorem tT {f:D→Option (List D)} {d:D} {r l:List D} (h:fw f (d::r)=some l):∃a b,f d=some a∧fw f r=some b∧l=a++b:=by
 replace h:(match f d,fw f r with|some x,some xs=>some (x++xs)|_,_=>none)=some l:=h;generalize f d=a at h⊢;generalize fw f r=b at h⊢;cases a with
 |none=>cases h
 |some a=>cases b with
  |none=>cases h
  |some b=>cases h;exact⟨_,_,rfl,rfl,rfl⟩
theorem LC {L:Code} {elt:Expr} {ifs:List Expr} {px:Pos} {x:Str} {I D' Cc:Addr} {fp:List Addr} {Pv:Nat→Value→Prop} {Si:Nat→Heap→Prop} {ds:List D} {bR dP:Heap} {R:Result→Shared→Prop}
 {fE:MM→Expr→Option D} {fT:MM→Expr→Option Bool} (ht:HO PySem.Challenge.pw_uc0055_01 C.w A env L (.Name x px) elt ifs (.ref I) (.ref D')) (hLC:env.locals=Cc)
 (T:Turn C A ah μ dP I D' Cc fp Pv Si ds bR) (cs:CS C μ D' env dP) (hbμ:D'∈μ∧Cc∈μ) (no:NoOwn M) (hM:M.lookup x=none) (hx:env.kindOf x=some .local)
 (hE:∀m M',HE C A ah (I::μ) env m M' (fE M')) (hT:∀m M',HT C A ah (I::μ) env m M' (fT M')):
 ∀(r:List D) (i:Nat) (out l:List D) (s:Shared),ds.drop i=r→i≤ds.length→CI C ah (I::μ) D' env M bR [I,D',Cc] out s→Si i s.heap→fw (g1 fE fT M x elt ifs) r=some l→out.length+l.length≤1000000→
  (∀az,CI C ah μ D' env M bR [I,D',Cc] (out++l) az→R (.ok .next) az)→codeAny (MD C) A L R s:=by
 have hMs:∀d y e,M.lookup y=some e→(M.set x (.dat d)).lookup y=some e:=fun d y e q=>by
  rw[MM.set_lookup];by_cases hy:y=x
  ·subst hy;rw[hM]at q;cases q
  ·rw[if_neg hy];exact q
 have fpL:env.locals∉fp:=fun q=>(T.fp _ q).2.2.1 hLC;intro r;induction r with
 |nil=>
  intro i out l s hd hile c hS hl hlen hR;have:ds.length≤i:=by simpa using hd
  cases hl;have hieq:Si ds.length s.heap:=by rw[show ds.length=i by(exact xc this hile)];exact hS
  refine ht _ _ (CI.stop cs no c T.W hieq T.no (by simp) T.In (by rw[hLC];exact T.IC) T.ID T.Iμ T.pI fun az iP=>?_);rw[bH]at hR;exact hR az iP
 |cons d r ih=>
  intro i out l s hd hile c hS hl hlen hR;(refine Uc (tT hl) fun a b ha hb q0=>?_;subst q0);refine Ud (ou hd) fun hi hilt hd'=>?_;refine ht _ _ ?_;refine CI.step (x:=x) (px:=px) (d:=d) cs.cons no c T.W hilt hS T.no (uy (au ..) (uy (af _ hbμ.1) (uy (af _ hbμ.2) Jz))) (by simp) (by rw[hLC];simp) T.In (by rw[hLC];exact T.IC) T.ID fpL hx (fun v q=>T.item i d v hi q) fun az iP tJ=>?_;obtain⟨pW,dG⟩:=iP.F;refine NT ha (fun ht ha=>?_) fun ht ha=>?_
  ·(refine Um ha fun v hv q0=>?_;subst q0)
   refine aa (ng (hT _ _) (r:=true) (by rw[if_pos rfl];exact ht) dG iP.S) (fun c' aV dg=>?_) fun _ _ x=>x;obtain⟨rfl,eA,d9⟩:=dg;rw[if_pos rfl];have Kp:=iP.eval cs.cons eA d9;obtain⟨yj,gn⟩:=Kp.F;have hfr:∀b∈fp,∀o,az.heap.get? b=some o→aV.heap.get? b=some o:=fun b q o e=>d9.get b o (T.fp b q).1 (T.fp b q).2.1 e;refine aa (hE _ _ _ _ _ hv gn eA) (fun zY bq fD=>?_) fun _ _ x=>x;have Ox:=Kp.eval cs.cons fD.1 fD.2.1;simp only[ai,bv]at hlen;refine CI.app cs.cons no.set Ox (by simp) fD.2.2 (by(exact DQ hlen)) fun eG Dw jE=>?_;have Ra:Si (i+1) eG.heap:=by
    have h3:=T.W.frame _ _ _ (T.W.frame _ _ _ tJ hfr) fun b q o e=>fD.2.1.get b o (T.fp b q).1 (T.fp b q).2.1 e;exact T.W.frame _ _ _ h3 fun b q o e=>jE b o (T.fp b q).2.2.2.1 e
   exact ih (i+1) _ b eG hd' hilt (Dw.weaken (hMs d)) Ra hb (by simp only[ai,bv];exact(dA 0x1ca7a12011cf1bc2170a9e8480473de3085c2:) hlen) (by simpa using hR)
  ·subst ha
   refine aa (ng (hT _ _) (r:=true) (by rw[if_pos rfl];exact ht) dG iP.S) (fun c' aV dg=>?_) fun _ _ x=>x;obtain⟨rfl,eA,d9⟩:=dg;rw[if_neg (by decide)];have Kp:=iP.eval cs.cons eA d9;exact ih (i+1) _ b aV hd' hilt (Kp.weaken (hMs d)) (T.W.frame _ _ _ tJ fun b q o e=>d9.get b o (T.fp b q).1 (T.fp b q).2.1 e) hb (by simpa using hlen) (by simpa using hR)
end
section
variable {C:aU} {A:Around} {s:Shared} {ah:Addr→Prop} {μ:List Addr} {env:Env} {m:Str→Option Value} {M:MM} {k:Nat}
theorem EO {x:Str} {d:D} (hM:M.lookup x=none):∀y e,M.lookup y=some e→(M.set x (.dat d)).lookup y=some e:=fun y e q=>by
 rw[MM.set_lookup];by_cases hy:y=x
 ·subst hy;rw[hM]at q;cases q
 ·rw[if_neg hy];exact q
theorem oq {it:Expr} (h:gK it=false) (v:Value):foldedSetIterable it env v=pure v:=by
 cases it<;>first|rfl|cases h
noncomputable def HI (C:aU) (A:Around) (ah:Addr→Prop) (μ:List Addr) (env:Env) (m:Str→Option Value) (M:MM) (f:Expr→Option (List D)):Prop:=
 ∀(e:Expr) (ds:List D) (s:Shared),f e=some ds→FI ah μ s.heap env m M→St C s→wpAny (MD C) A (eval e env) (fun x az=>wpAny (MD C) A (pyIter x) (PostI C A s (Pm ah μ) ds) bL az) bL s
noncomputable def g2 (fE:MM→Expr→Option D) (fI:MM→Expr→Option (List D)) (M:MM) (x y:Str) (elt i2:Expr) (d:D):Option (List D):=
 (fI (M.set x (.dat d)) i2).bind fun ds2=>fw (fun d2=>(fE ((M.set x (.dat d)).set y (.dat d2)) elt).map fun v=>[v]) ds2
noncomputable def Rh (fE:MM→Expr→Option D) (fT:MM→Expr→Option Bool) (fI:MM→Expr→Option (List D)) (M:MM) (x y:Str) (elt:Expr) (ifs:List Expr) (i2:Expr) (d:D):Option (List D):=
 (fI (M.set x (.dat d)) i2).bind fun ds2=>fw (g1 fE fT (M.set x (.dat d)) y elt ifs) ds2
theorem HT.no:HT C A ah μ env m M fun _=>none:=fun _ _ _ h=>nomatch h
theorem QG {elt i1 i2:Expr} {ifs:List Expr} {scope:Scope} {pos px py:Pos} {x y:Str} {I D' Cc:Addr} {fp:List Addr} {Pv:Nat→Value→Prop} {Si:Nat→Heap→Prop} {ds:List D} {bR dP:Heap} {R:Result→Shared→Prop}
 {fE:MM→Expr→Option D} {fT:MM→Expr→Option Bool} {fI:MM→Expr→Option (List D)} (hLC:env.locals=Cc) (hm0:A.mark none=A) (hset:gK i2=false)
 (hf:∀it acc env',(pv (.ListComp elt [⟨.Name x px,i1,[],0⟩,⟨.Name y py,i2,ifs,0⟩] scope pos) 1 it acc env').isFrame=false)
 (hu:∀it acc env',A.under (.compStart (.ListComp elt [⟨.Name x px,i1,[],0⟩,⟨.Name y py,i2,ifs,0⟩] scope pos) 1 it acc env')=A)
 (hq:∀it acc env',(zV (.ListComp elt [⟨.Name x px,i1,[],0⟩,⟨.Name y py,i2,ifs,0⟩] scope pos) 1 it acc env').quiet=true)
 (T:Turn C A ah μ dP I D' Cc fp Pv Si ds bR) (kk:Keep dP bR) (cs:CS C μ D' env dP) (hbμ:D'∈μ∧Cc∈μ) (no:NoOwn M) (hM:M.lookup x=none) (hMy:M.lookup y=none) (hyx:y≠x) (hx:env.kindOf x=some .local) (hy:env.kindOf y=some .local)
 (hE:∀I2 m M',HE C A ah (I2::I::μ) env m M' (fE M')) (hT:∀I2 m M',HT C A ah (I2::I::μ) env m M' (fT M')) (hI:∀m M',HI C A ah (I::μ) env m M' (fI M')):
 ∀(r:List D) (i:Nat) (out l:List D) (s:Shared),ds.drop i=r→i≤ds.length→CI C ah (I::μ) D' env M bR [I,D',Cc] out s→Si i s.heap→fw (Rh fE fT fI M x y elt ifs i2) r=some l→out.length+l.length≤1000000→
  (∀az,CI C ah μ D' env M bR [I,D',Cc] (out++l) az→R (.ok .next) az)→codeAny (MD C) A (.compLoop (.ListComp elt [⟨.Name x px,i1,[],0⟩,⟨.Name y py,i2,ifs,0⟩] scope pos) 0 (.ref I) (.ref D') env) R s:=by
 have fpL:env.locals∉fp:=fun q=>(T.fp _ q).2.2.1 hLC;have hfold:∀v,foldedSetIterable i2 env v=pure v:=oq hset;intro r;induction r with
 |nil=>
  intro i out l s hd hile c hS hl hlen hR;have:ds.length≤i:=by simpa using hd
  cases hl;have hieq:Si ds.length s.heap:=by rw[show ds.length=i by(exact xc this hile)];exact hS
  refine Lh (CI.stop cs no c T.W hieq T.no (by simp) T.In (by rw[hLC];exact T.IC) T.ID T.Iμ T.pI fun az iP=>?_) (fun v=>rfl) hfold hm0;rw[bH]at hR;exact hR az iP
 |cons d r ih=>
  intro i out l s hd hile c hS hl hlen hR;(refine Uc (tT hl) fun a b ha hb q0=>?_;subst q0);refine Ud (ou hd) fun hi hilt hd'=>?_;refine Lh ?_ (fun v=>rfl) hfold hm0;refine CI.step (x:=x) (px:=px) (d:=d) cs.cons no c T.W hilt hS T.no (uy (au ..) (uy (af _ hbμ.1) (uy (af _ hbμ.2) Jz))) (by simp) (by rw[hLC];simp) T.In (by rw[hLC];exact T.IC) T.ID fpL hx (fun v q=>T.item i d v hi q) fun az iP tJ=>?_;obtain⟨pW,dG⟩:=iP.F;refine Ub ha fun ds2 hv hl2=>?_;refine aa (hI _ _ _ _ _ hv dG iP.S) (fun vQ aV dg=>aa dg (fun it2 bq fD=>?_) fun _ _ x=>x) fun _ _ x=>x;obtain⟨gi,fF,⟨I2,fp2,Pv2,Si2,rfl,hIn2,W2,h02,hfp2,hitem2,hno2⟩,hlen2⟩:=fD;refine Ua iP.acc fun ys hl1 hr1=>?_;refine Ud (dG.liveμ _ (af _ hbμ.1)) fun nD1 nD2 _=>?_;have hI2μ:I2∉I::μ:=fun q=>by refine Uh (dG.liveμ _ q) fun _ _ o e=>?_;rw[hIn2]at e;cases e
  have hCμ:Cc∈I::μ:=af _ hbμ.2;have hDμ:D'∈I::μ:=af _ hbμ.1;have hIn0:dP.get? I2=none:=by
   cases q:dP.get? I2 with
   |none=>rfl
   |some o=>
    have n1:I2≠65:=fun z=>iP.S.live65 (z▸hIn2);have n2:I2≠72:=fun z=>iP.S.live72 (z▸hIn2);have:=iP.k I2 o n1 n2 (yd (fun z=>hI2μ (z▸au ..)) (yd (fun z=>hI2μ (z▸hDμ)) (yd (fun z=>hI2μ (z▸hCμ)) bx))) (kk.get _ _ n1 n2 q);rw[hIn2]at this;cases this
  have T2:Turn C A ah (I::μ) dP I2 D' Cc fp2 Pv2 Si2 ds2 bq.heap:=by
   refine⟨W2,hno2,hIn0,fun e=>hI2μ (e▸hCμ),fun e=>hI2μ (e▸hDμ),T.DC,fun b q=>?_,hI2μ,fun i d v e1 e2=>?_,hlen2⟩
   ·obtain⟨p,lt⟩:=hfp2 b q
    exact⟨fun e=>dG.tabm.1 (e▸p),fun e=>dG.tabm.2 (e▸p),fun e=>p.2 (e▸hCμ),fun e=>p.2 (e▸hDμ),p.1⟩
   ·refine Rep.mono (fun b o p e=>⟨e,p.1.1,fun q=>?_⟩) (hitem2 i d v e1 e2)
    rcases aD.mp q with q|q
    ·exact p.2 q
    ·exact p.1.2 q
  have Ox:CI C ah (I2::I::μ) D' env (M.set x (.dat d)) bq.heap [I2,D',Cc] out bq:=by
   refine⟨gi,⟨pW,dG.more fF hIn2 (by refine Ua (hno2 _ _ h02) fun o e _=>?_;exact⟨o,e⟩) iP.S.live65 iP.S.live72⟩,⟨ys,hl1.at fun o e=>fF.get _ _ nD1 nD2 e,?_⟩,fun b o _ _ _ e=>e⟩;exact Reps.lt hr1 fF dG.tabm fun b o p lt=>⟨p.1,fun q=>by
    rcases aD.mp q with rfl|q
    ·rw[hIn2]at lt;cases lt
    ·exact p.2 q⟩
  have hMy':(M.set x (.dat d)).lookup y=none:=by rw[MM.set_lookup,if_neg hyx];exact hMy
  simp only[ai]at hlen;have loop:=LC (L:=.compLoop (.ListComp elt [⟨.Name x px,i1,[],0⟩,⟨.Name y py,i2,ifs,0⟩] scope pos) 1 (.ref I2) (.ref D') env) (ht:=P3 fun _=>rfl) (R:=fun r s'=>match r with
   |.ok _=>codeAny (MD C) A (.compLoop (.ListComp elt [⟨.Name x px,i1,[],0⟩,⟨.Name y py,i2,ifs,0⟩] scope pos) 0 (.ref I) (.ref D') env) R s'
   |.error _=>False) (elt:=elt) (ifs:=ifs) (px:=py) (fE:=fE) (fT:=fT) hLC T2 cs.cons ⟨hDμ,hCμ⟩ no.set hMy' hy (hE I2) (hT I2) ds2 0 out a bq rfl (d5 _) Ox h02 hl2 (by exact(iq 0x729e8480473c62a7a12011cf79062:) hlen) fun eG Dw=>?_
  ·exact qM rfl rfl (hf _ _ _) (hu _ _ _) (fun _=>hq _ _ _) loop (W2.self 0 _ _ _ h02 loop)
  ·have hk:∀b o,b≠65→b≠72→b≠D'→b≠Cc→az.heap.get? b=some o→eG.heap.get? b=some o:=fun b o q1 q2 q3 q4 e=>
    Dw.k b o q1 q2 (yd (rH hIn2 e) (yd q3 (yd q4 bx))) (fF.get b o q1 q2 e);refine ih (i+1) (out++a) b eG hd' hilt ?_ (T.W.frame _ _ _ tJ fun b q o e=>hk b o (T.fp b q).1 (T.fp b q).2.1 (T.fp b q).2.2.2.1 (T.fp b q).2.2.1 e) hb (by simp only[ai];exact(iq 0x1ca7a12011cf23c62a7a12011cf79062:) hlen) (by simpa using hR);refine CI.weaken (M:=M.set x (.dat d)) ?_ (EO hM);refine⟨Dw.S,Dw.F,Dw.acc,fun b o q1 q2 q3 e=>?_⟩;have q4:=eM q3;exact hk b o q1 q2 (fY q4) (fY (eM q4)) (iP.k b o q1 q2 q3 e)
end
section
variable {C:aU} {A:Around} {s:Shared} {ah:Addr→Prop} {μ:List Addr} {env:Env} {m:Str→Option Value} {M:MM} {k:Nat}
theorem yW {scope:Scope} {I D' Cc:Addr} {M':MM} {az aV:Shared} {out:List D} (F:FI ah μ s.heap env m M) (S:St C s) (kk:Keep s.heap aV.heap) (In:s.heap.get? I=none) (cs:CS C (D'::Cc::μ) D' (da scope Cc env) s.heap)
 (c:CI C ah (D'::Cc::μ) D' (da scope Cc env) M' aV.heap [I,D',Cc] out az):
 (∃m,az.heap.Ns Cc m)∧Keep s.heap az.heap∧∀h',du Cc az.heap h'→∀t,Post C s (Pm ah μ) (.list out) (.ref D') {az with heap:=h',toks:=t}:=by
 obtain⟨pW,dG⟩:=c.F;refine Ua c.acc fun ys h1 h2=>?_;have bN:Keep s.heap az.heap:=⟨fun b o n1 n2 e=>c.k b o n1 n2 (yd (rH In e) (yd (rH cs.dn e) (yd (rH cs.ln e) bx))) (kk.get b o n1 n2 e)⟩;refine⟨⟨_,dG.ns⟩,bN,fun h' hs t=>?_⟩;refine Uo dG.ns fun oL esL epL eL dL _=>?_;refine Ud (dG.liveμ _ dG.nL) fun l1 l2 _=>?_;have hs':∀b o,b≠Cc→az.heap.get? b=some o→h'.get? b=some o:=fun b o q e=>(hs.2 b q).trans e;refine⟨c.S.but eL (fun vs q t z=>by rw[dL]at z;cases z) (cs.fresh _ cs.ln) l1 l2 hs',⟨fun b o n1 n2 e=>hs' b o (fun q=>by have:=cs.ln;rw[q]at e;exact absurd (this.symm.trans e) (by simp)) (bN.get b o n1 n2 e)⟩,D',ys,rfl,⟨F.live.none S cs.dn,fun q=>by refine Uh (F.liveμ _ q) fun _ _ o e=>?_;rw[cs.dn]at e;cases e⟩,h1.at fun o e=>hs' _ o cs.dL e,?_⟩;exact Reps.mono (fun b o p e=>⟨hs' b o (fun q=>p.2 (q▸af _ (au ..))) e,p.1,fun q=>p.2 (af _ (af _ q))⟩) h2
theorem lY {sc:NS} {x:Str} (h:sc.lookup x=some .local):(capt sc M).lookup x=none:=by
 unfold capt;rw[gq (fun y=>sc.lookup y==some .cell||sc.lookup y==some .free),h];rfl
theorem iC {sc:NS} {x:Str}:∀{names:NS},names.lookup x=some .local→(cW sc names).lookup x=some .local
 |[]=>@fun h=>by simp at h
 |(n,kd)::r=>@fun h=>by
  show eB x ((if(kd==.free&&sc.lookup n==some .cell)=true then(n,gv)else(n,kd))::cW sc r)=_;rw[aH]at h;cases hx:x==n with
  |true=>
   simp only[hx]at h;cases h;simp[aH,hx]
  |false=>
   simp only[hx]at h;have ih:=iC (sc:=sc) h;split<;>(rw[aH];simp only[hx];exact ih)
theorem Hw {elt it:Expr} {ifs:List Expr} {scope:Scope} {pos px:Pos} {x:Str} {ds l:List D} {aV:Shared} {itv:Value} {fE:MM→Expr→Option D} {fT:MM→Expr→Option Bool} {RR:Value→Addr→Result→Shared→Prop}
 (hA:RA A k) (hc:jJ env.scope.names scope) (hx:scope.names.lookup x=some .local) (F:FI ah μ s.heap env m M) (S:St C s) (h:PostI C A s (Pm ah μ) ds itv aV)
 (hE:∀ν Cc m M',HE C A ah ν (da scope Cc env) m M' (fE M')) (hT:∀ν Cc m M',HT C A ah ν (da scope Cc env) m M' (fT M'))
 (hl:fw (g1 fE fT (capt (cW env.scope.names scope.names) M) x elt ifs) ds=some l) (hlen:l.length≤1000000)
 (hRR:∀D' Cc az,s.heap.get? D'=none→s.heap.get? Cc=none→D'≠Cc→(∃m,az.heap.Ns Cc m)→Keep s.heap az.heap→St C az→(∃ys,az.heap.PlainList D' ys∧Reps (Pm ah (D'::Cc::μ)) az.heap l ys.toList)→
  (∀h',du Cc az.heap h'→∀t,Post C s (Pm ah μ) (.list l) (.ref D') {az with heap:=h',toks:=t})→RR (.ref D') Cc (.ok .next) az):
 wpAny (MD C) A (newList []) (fun acc bq=>wpAny (MD C) A (newFunctionEnv scope env.globals (clo env scope.names []) [] env.qual none .none (some env)) (fun cenv eG=>
  codeAny (MD C) A (.compStart (.ListComp elt [⟨.Name x px,it,ifs,0⟩] scope pos) 0 itv acc {cenv with scope:=relabel scope env}) (RR acc cenv.locals) eG) bL bq) bL aV:=by
 refine t6 rfl rfl hc (fun _ _=>rfl) (fun _ _=>rfl) (fun _ _ _=>rfl) F S h fun{I D' Cc fp Pv Si eG} T cs no kk hCn c hS=>?_;refine LC (Cc:=Cc) (fE:=fE) (fT:=fT) (P4 fun _=>rfl) rfl T cs ⟨by simp,by simp⟩ no (lY (iC hx)) ?_ (fun m M'=>hE _ _ m M') (fun m M'=>hT _ _ m M') ds 0 [] l eG rfl (d5 _) c hS hl (by simpa using hlen) fun az iP=>?_
 ·show(relabel scope env).names.lookup x=_
  rw[jh F.kind];exact iC hx
 ·refine Ud (yW F S kk T.In cs iP) fun e1 e2 e3=>?_
  exact hRR D' Cc az cs.dn hCn T.DC e1 e2 iP.S iP.acc e3
theorem Hv {elt i1 i2:Expr} {ifs:List Expr} {scope:Scope} {pos px py:Pos} {x y:Str} {ds l:List D} {aV:Shared} {itv:Value} {fE:MM→Expr→Option D} {fT:MM→Expr→Option Bool} {fI:MM→Expr→Option (List D)} {RR:Value→Addr→Result→Shared→Prop}
 (hA:RA A k) (hm0:A.mark none=A) (hset:gK i2=false) (hc:jJ env.scope.names scope) (hx:scope.names.lookup x=some .local) (hy:scope.names.lookup y=some .local) (hyx:y≠x) (F:FI ah μ s.heap env m M) (S:St C s) (h:PostI C A s (Pm ah μ) ds itv aV)
 (hE:∀ν Cc m M',HE C A ah ν (da scope Cc env) m M' (fE M')) (hT:∀ν Cc m M',HT C A ah ν (da scope Cc env) m M' (fT M')) (hI:∀ν Cc m M',HI C A ah ν (da scope Cc env) m M' (fI M'))
 (hl:fw (Rh fE fT fI (capt (cW env.scope.names scope.names) M) x y elt ifs i2) ds=some l) (hlen:l.length≤1000000)
 (hRR:∀D' Cc az,s.heap.get? D'=none→s.heap.get? Cc=none→D'≠Cc→(∃m,az.heap.Ns Cc m)→Keep s.heap az.heap→St C az→(∃ys,az.heap.PlainList D' ys∧Reps (Pm ah (D'::Cc::μ)) az.heap l ys.toList)→
  (∀h',du Cc az.heap h'→∀t,Post C s (Pm ah μ) (.list l) (.ref D') {az with heap:=h',toks:=t})→RR (.ref D') Cc (.ok .next) az):
 wpAny (MD C) A (newList []) (fun acc bq=>wpAny (MD C) A (newFunctionEnv scope env.globals (clo env scope.names []) [] env.qual none .none (some env)) (fun cenv eG=>
  codeAny (MD C) A (.compStart (.ListComp elt [⟨.Name x px,i1,[],0⟩,⟨.Name y py,i2,ifs,0⟩] scope pos) 0 itv acc {cenv with scope:=relabel scope env}) (RR acc cenv.locals) eG) bL bq) bL aV:=by
 refine t6 rfl rfl hc (fun _ _=>rfl) (fun _ _=>rfl) (fun _ _ _=>rfl) F S h fun{I D' Cc fp Pv Si eG} T cs no kk hCn c hS=>?_;have hkd:∀z,scope.names.lookup z=some .local→(da scope Cc env).kindOf z=some .local:=fun z hz=>by
  show(relabel scope env).names.lookup z=_;rw[jh F.kind];exact iC hz
 refine QG (Cc:=Cc) (fE:=fE) (fT:=fT) (fI:=fI) rfl hm0 hset (fun _ _ _=>rfl) (fun _ _ _=>rfl) (fun _ _ _=>rfl) T kk cs ⟨by simp,by simp⟩ no (lY (iC hx)) (lY (iC hy)) hyx (hkd _ hx) (hkd _ hy)
  (fun I2 m M'=>hE _ _ m M') (fun I2 m M'=>hT _ _ m M') (fun m M'=>hI _ _ m M') ds 0 [] l eG rfl (d5 _) c hS hl (by simpa using hlen) fun az iP=>?_;refine Ud (yW F S kk T.In cs iP) fun e1 e2 e3=>?_;exact hRR D' Cc az cs.dn hCn T.DC e1 e2 iP.S iP.acc e3
theorem Hg {elt it:Expr} {ifs:List Expr} {scope:Scope} {pos px:Pos} {x:Str} {ds l:List D} {fE:MM→Expr→Option D} {fT:MM→Expr→Option Bool} {fI:Expr→Option (List D)}
 (hA:RA A k) (hc:jJ env.scope.names scope) (hx:scope.names.lookup x=some .local) (hs:gK it=false) (F:FI ah μ s.heap env m M) (S:St C s) (hI:HI C A ah μ env m M fI) (hi:fI it=some ds)
 (hE:∀ν Cc m M',HE C A ah ν (da scope Cc env) m M' (fE M')) (hT:∀ν Cc m M',HT C A ah ν (da scope Cc env) m M' (fT M'))
 (hl:fw (g1 fE fT (capt (cW env.scope.names scope.names) M) x elt ifs) ds=some l) (hlen:l.length≤1000000):
 wpAny (MD C) A (eval (.ListComp elt [⟨.Name x px,it,ifs,0⟩] scope pos) env) (Post C s (Pm ah μ) (.list l)) bL s:=by
 rw[Vo];refine f7 (use:=none) rfl (oq hs) (ip (vj F hc)) hc.kind hc.loc (aa (hI _ _ _ hi F S) (fun xv az bV=>aa bV (fun itv aV bR=>?_) fun _ _ e=>e) fun _ _ e=>e);exact Hw (RR:=fun acc Cc=>compPost (MD C) A bL none (Post C s (Pm ah μ) (.list l)) acc Cc) hA hc hx F S bR hE hT hl hlen fun D' Cc az _ _ _ ⟨m,e1⟩ _ _ _ e2=>⟨m,e1,fun h' hs'=>e2 h' hs' az.toks⟩
theorem yY {elt i1 i2:Expr} {ifs:List Expr} {scope:Scope} {pos px py:Pos} {x y:Str} {ds l:List D} {fE:MM→Expr→Option D} {fT:MM→Expr→Option Bool} {f0:Expr→Option (List D)} {fI:MM→Expr→Option (List D)}
 (hA:RA A k) (hm0:A.mark none=A) (hs:gK i1=false) (hset:gK i2=false) (hc:jJ env.scope.names scope) (hx:scope.names.lookup x=some .local) (hy:scope.names.lookup y=some .local) (hyx:y≠x) (F:FI ah μ s.heap env m M) (S:St C s)
 (h0:HI C A ah μ env m M f0) (hi:f0 i1=some ds) (hE:∀ν Cc m M',HE C A ah ν (da scope Cc env) m M' (fE M')) (hT:∀ν Cc m M',HT C A ah ν (da scope Cc env) m M' (fT M')) (hI:∀ν Cc m M',HI C A ah ν (da scope Cc env) m M' (fI M'))
 (hl:fw (Rh fE fT fI (capt (cW env.scope.names scope.names) M) x y elt ifs i2) ds=some l) (hlen:l.length≤1000000):
 wpAny (MD C) A (eval (.ListComp elt [⟨.Name x px,i1,[],0⟩,⟨.Name y py,i2,ifs,0⟩] scope pos) env) (Post C s (Pm ah μ) (.list l)) bL s:=by
 rw[Vo];refine f7 (use:=none) rfl (oq hs) (ip (vj F hc)) hc.kind hc.loc (aa (h0 _ _ _ hi F S) (fun xv az bV=>aa bV (fun itv aV bR=>?_) fun _ _ e=>e) fun _ _ e=>e);exact Hv (RR:=fun acc Cc=>compPost (MD C) A bL none (Post C s (Pm ah μ) (.list l)) acc Cc) hA hm0 hset hc hx hy hyx F S bR hE hT hI hl hlen fun D' Cc az _ _ _ ⟨m,e1⟩ _ _ _ e2=>⟨m,e1,fun h' hs'=>e2 h' hs' az.toks⟩
theorem PostI.after {az s':Shared} {P:Addr→Prop} {ds:List D} {it:Value} (q:PostI C A az P ds it s') (bu:St C az) (kk:Keep s.heap az.heap):PostI C A s P ds it s':=by
 obtain⟨eA,d9,⟨I,fp,Pv,Si,e3,hIn,r⟩,hlen⟩:=q;exact⟨eA,kk.trans d9,⟨I,fp,Pv,Si,e3,eO bu kk hIn,r⟩,hlen⟩
theorem Gc {f:Expr→Option D} (hf:HE C A ah μ env m M f) (hA:RA A k) {e:Expr} {ds:List D} (h:(f e).bind iZ=some ds) (F:FI ah μ s.heap env m M) (S:St C s):
 wpAny (MD C) A (eval e env) (fun x az=>wpAny (MD C) A (pyIter x) (PostI C A s (Pm ah μ) ds) bL az) bL s:=by
 refine Ub h fun d e1 e2=>?_;refine aa (hf _ _ _ e1 F S) (fun v az q=>?_) fun _ _ x=>x;exact aa (JO hA q.1 (F.livem.keep q.2.1) e2 q.2.2) (fun it aV dg=>dg.after q.1 q.2.1) fun _ _ x=>x
end
section
variable {C:aU} {A:Around} {s:Shared} {ah:Addr→Prop} {μ:List Addr} {env:Env} {m:Str→Option Value} {M:MM} {k:Nat}
theorem RA.mark (x:RA A k):A.mark none=A:=by
 have:=x.hd;obtain⟨a,b,c,d,e⟩:=A;show Around.mark _ _=_;unfold Around.mark;simp only at this⊢;subst this;rfl
theorem E1 {g:Expr→Option D} (hg:HE C A ah μ env m M g) (hA:RA A k) {np p:Pos} {es:List Expr} {as ds:List D} (hs:bK es=true) (hx:dY env.scope.names (ofString "range")=true) (F:FI ah μ s.heap env m M) (S:St C s)
 (hd:iV as=some ds) (h:di g es=some as):
 wpAny (MD C) A (eval (.Call (.Name (ofString "range") np) es [] p) env) (fun x az=>wpAny (MD C) A (pyIter x) (PostI C A s (Pm ah μ) ds) bL az) bL s:=by
 obtain⟨g1,g2⟩:=ol hx;refine em (om F S g2 g1 (uW _ _ (by simp)) boot_ty.2.1 (by decide) ?_);refine iu (ez hs) (aa (dQ hs (jG hg h F S)) (fun a az q=>?_) fun _ _ x=>x);refine Uj q fun e bu bN r=>?_;rw[e];have KY:=F.livem.keep bN;have fin:∀(o:Obj) (a b:Int) (t u v tk:Nat),j9 a b=some ds→IsRange (az.heap.push o) az.heap.objs.size a b 1 t u v→
  wpAny (MD C) A (pyIter (.ref az.heap.objs.size)) (PostI C A s (Pm ah μ) ds) bL {az with heap:=az.heap.push o,toks:=tk}:=by
  intro o a b t u v tk hr hI;have eA:St C {az with heap:=az.heap.push o,toks:=tk}:=bu.push o;exact aa (AD hA eA (KY.keep (.push o)) hr hI) (fun it bq fD=>fD.after eA (bN.trans (.push o))) fun _ _ x=>x
 rcases Ah hd with⟨b,rfl,hd⟩|⟨a,b,rfl,hd⟩
 ·(refine Uc r fun v w hv q0 hw=>?_;refine Un q0 fun t q1=>?_;subst q1)
  rw[show w=[]from hw]at hv;rw[hv];exact call_range_1 (fin _ 0 _ _ _ _ _ hd (IsRange.new ..))
 ·obtain⟨v,w,hv,⟨t,rfl⟩,v2,w2,hw,⟨u,rfl⟩,hw2⟩:=r
  rw[show w2=[]from hw2]at hw;rw[hw]at hv;rw[hv];exact call_range_2 (fin _ _ _ _ _ _ _ hd (IsRange.new ..))
theorem MN {g:Expr→Option D} (hg:HE C A ah μ env m M g) (hA:RA A k) {np p:Pos} {es:List Expr} {as ds:List D} (hs:bK es=true) (hx:dY env.scope.names (ofString "reversed")=true) (F:FI ah μ s.heap env m M) (S:St C s)
 (hd:CE as=some ds) (h:di g es=some as):
 wpAny (MD C) A (eval (.Call (.Name (ofString "reversed") np) es [] p) env) (fun x az=>wpAny (MD C) A (pyIter x) (PostI C A s (Pm ah μ) ds) bL az) bL s:=by
 obtain⟨g1,g2⟩:=ol hx;refine em (om F S g2 g1 (uW _ _ (by simp)) boot_ty.2.2 (by decide) ?_);refine iu (ez hs) (aa (dQ hs (jG hg h F S)) (fun a az q=>?_) fun _ _ x=>x);refine Uj q fun e bu bN r=>?_;rw[e];have KY:=F.livem.keep bN;(refine Ul (EW hd) fun l q0 hl q1=>?_;subst q0;subst q1);(refine Uc r fun v w hv q0 hw=>?_;refine Ue q0 fun b vs q1 pb hpl hr=>?_;subst q1);rw[show w=[]from hw]at hv;rw[hv];have hlt:b<az.heap.objs.size:=by obtain⟨n,e⟩:=id hpl;exact aQ e
 refine call_reversed_list hpl.isList ?_;have eA:St C {az with heap:=az.heap.push (revObj b ((vs.size:Int)-1))}:=bu.push (t:=az.toks) _;refine aa (Gb (dP:=s.heap) hA eA (KY.keep (.push _)) hl pb (hpl.at fun o e=>ak _ e) (Reps.mono (fun a o p e=>⟨ak _ e,p,aM (aQ e)⟩) hr) (KY.none bu (eu _))
  ⟨_,aX _ rfl,rfl,rfl⟩ (aM hlt) (eO bu bN (eu _))) (fun it bq fD=>⟨fD.1,(bN.trans (.push _)).trans fD.2.1,fD.2.2⟩) fun _ _ x=>x
theorem xC {f:Expr→Option D} (hf:HR C A ah μ env m M f) {e:Expr} {b:Bool} (h:(f e).bind ux=some b) (F:FI ah μ s.heap env m M) (S:St C s)
 (he:isTrue e env (eval e env)=(do let v←eval e env;standAt e.pos;holding [v] (truthy v))):wpAny (MD C) A (isTrue e env (eval e env)) (PostB C s b) bL s:=by
 refine Ub h fun d e1 e2=>?_;refine isTrue_plain (aa (hf _ _ _ e1 F S) (fun v az q=>?_) fun _ _ x=>x) he;exact aa (Bd (P:=Pm ah μ) q.1 e2 q.2.2) (fun c aV dg=>dg.after q.2.1) fun _ _ x=>x
theorem AH {l:Expr} {nv:List CmpOp} {rs:List Expr} {p:Pos} {w:Sem Value} {Q:Bool→Shared→Prop} (hm:lastMarks nv rs=false) (h:wpAny (MD C) A (eval l env) (fun a az=>wpAny (MD C) A (testChain p a nv (evalEach rs env)) Q bL az) bL s):
 wpAny (MD C) A (isTrue (.Compare l nv rs p) env w) Q bL s:=by
 show wpAny (MD C) A (do testChain p (←eval l env) nv (markedEach nv rs (evalEach rs env))) Q bL s;rw[markedEach_of_false _ _ _ hm];exact aq h
variable {X:Cx}
set_option genInjectivity false in
structure A4 (X:Cx) where
 E:NS→MM→Expr→Option D
 T:NS→MM→Expr→Option Bool
 I:NS→MM→Expr→Option (List D)
 oE:∀{C:aU} {k:Nat} {A ah μ env m M},CxOK C X k→RA A k→HE C A ah μ env m M (E env.scope.names M)
 oT:∀{C:aU} {k:Nat} {A ah μ env m M},CxOK C X k→RA A k→HT C A ah μ env m M (T env.scope.names M)
 oI:∀{C:aU} {k:Nat} {A ah μ env m M},CxOK C X k→RA A k→HI C A ah μ env m M (I env.scope.names M)
inductive Ic (V:A4 X) (sc:NS) (M:MM) (elt:Expr) (s:Scope):List Comprehension→D→Prop where
 |one {x px it ifs ds l} (hx:s.names.lookup x=some .local) (hs:gK it=false) (e1:V.I sc M it=some ds)
  (e2:fw (g1 (V.E (cW sc s.names)) (V.T (cW sc s.names)) (capt (cW sc s.names) M) x elt ifs) ds=some l) (hl:l.length≤1000000):Ic V sc M elt s [⟨.Name x px,it,ifs,0⟩] (.list l)
 |two {x px it y py it2 ds l} (hx:s.names.lookup x=some .local) (hy:s.names.lookup y=some .local) (hyx:y≠x) (hs:gK it=false) (hs2:gK it2=false) (e1:V.I sc M it=some ds)
  (e2:fw (g2 (V.E (cW sc s.names)) (V.I (cW sc s.names)) (capt (cW sc s.names) M) x y elt it2) ds=some l) (hl:l.length≤1000000):Ic V sc M elt s [⟨.Name x px,it,[],0⟩,⟨.Name y py,it2,[],0⟩] (.list l)
noncomputable def SA (V:A4 X) (sc:NS) (M:MM) (elt:Expr) (s:Scope):(gens:List Comprehension)→{r:Option D//∀d,r=some d→Ic V sc M elt s gens d}
 |[⟨.Name x px,it,ifs,0⟩]=>⟨if((s.names.lookup x==some .local)&&!gK it)=true then(V.I sc M it).bind fun ds=>
    (fw (g1 (V.E (cW sc s.names)) (V.T (cW sc s.names)) (capt (cW sc s.names) M) x elt ifs) ds).bind fun l=>if l.length≤1000000 then some (.list l)else none else none,fun _ h=>by
    obtain⟨q,h⟩:=dw h;rw[ao]at q;refine Ub h fun ds e1 h=>?_;refine Ub h fun l e2 h=>?_;obtain⟨hl,rfl⟩:=eV h;exact .one (bt q.1) (by simpa using q.2) e1 e2 hl⟩
 |[⟨.Name x px,it,[],0⟩,⟨.Name y py,it2,[],0⟩]=>⟨if((s.names.lookup x==some .local)&&(s.names.lookup y==some .local)&&decide (y≠x)&&!gK it&&!gK it2)=true then(V.I sc M it).bind fun ds=>
    (fw (g2 (V.E (cW sc s.names)) (V.I (cW sc s.names)) (capt (cW sc s.names) M) x y elt it2) ds).bind fun l=>if l.length≤1000000 then some (.list l)else none else none,fun _ h=>by
    obtain⟨q,h⟩:=dw h;simp only[ao]at q;refine Ub h fun ds e1 h=>?_;refine Ub h fun l e2 h=>?_;obtain⟨hl,rfl⟩:=eV h;exact .two (bt q.1.1.1.1) (bt q.1.1.1.2) (of_decide_eq_true q.1.1.2) (by simpa using q.1.2) (by simpa using q.2) e1 e2 hl⟩
 |_=>⟨none,fun _ h=>nomatch h⟩
theorem LF (V:A4 X) (cx:CxOK C X k) (hA:RA A k) {scope:Scope} {n:NS} (hn:n=cW env.scope.names scope.names) (K:env.scope.kind=.function):
 (∀ν Cc m' M',HE C A ah ν (da scope Cc env) m' M' (V.E n M'))∧(∀ν Cc m' M',HT C A ah ν (da scope Cc env) m' M' (V.T n M'))∧∀ν Cc m' M',HI C A ah ν (da scope Cc env) m' M' (V.I n M'):=by
 have hnm:∀Cc,n=(da scope Cc env).scope.names:=fun Cc=>hn.trans (jh K).symm;refine⟨fun ν Cc m' M'=>?_,fun ν Cc m' M'=>?_,fun ν Cc m' M'=>?_⟩
 ·rw[hnm Cc];exact V.oE cx hA
 ·rw[hnm Cc];exact V.oT cx hA
 ·rw[hnm Cc];exact V.oI cx hA
noncomputable abbrev OE (X:Cx) (sc:NS) (M:MM) (e:Expr) (r:Option D):Prop:=∀{C:aU} {k:Nat} {A:Around} {ah:Addr→Prop} {μ:List Addr} {env:Env} {m:Str→Option Value} {d:D} {s:Shared},
 CxOK C X k→RA A k→env.scope.names=sc→r=some d→FI ah μ s.heap env m M→St C s→wpAny (MD C) A (eval e env) (Post C s (Pm ah μ) d) bL s
theorem NH (V:A4 X) {sc:NS} {t a b:Expr} {p:Pos}:OE X sc M (.IfExp t a b p) (SB (V.T sc M t) (V.E sc M a) (V.E sc M b)):=fun cx hA hsc h F S=>by
 subst hsc;refine Ub h fun c e1 h=>?_;refine wpAny_IfExp (aa (V.oT cx hA _ _ _ e1 F S) (fun c' az q=>?_) fun _ _ x=>x);obtain⟨rfl,bu,bN⟩:=q;cases c'
 ·exact aa (V.oE cx hA _ _ _ h (F.keep bN) bu) (fun v aV q=>q.after bN) fun _ _ x=>x
 ·exact aa (V.oE cx hA _ _ _ h (F.keep bN) bu) (fun v aV q=>q.after bN) fun _ _ x=>x
theorem QL (V:A4 X) {sc:NS} {elt:Expr} {gens:List Comprehension} {fq:Scope} {p:Pos}:OE X sc M (.ListComp elt gens fq p) (if nF sc fq=true then(SA V sc M elt fq gens).1 else none):=fun cx hA hsc h F S=>by
 subst hsc;obtain⟨hc,h⟩:=dw h;have hc':=ov hc;obtain⟨iE,iT,iI⟩:=LF (ah:=_) V cx hA rfl F.kind;cases(SA V _ _ elt fq gens).2 _ h with
 |one hx hs e1 e2 hl=>exact Hg hA hc' hx hs F S (V.oI cx hA) e1 iE iT e2 hl
 |two hx hy hyx hs hs2 e1 e2 hl=>exact yY (fT:=fun _ _=>none) hA hA.mark hs hs2 hc' hx hy hyx F S (V.oI cx hA) e1 iE (fun _ _ _ _=>HT.no) iI e2 hl
theorem Ts (V:A4 X) {sc:NS} {o:Expr} {name:Str} {ap p:Pos} {args:List Expr} {kws:List Keyword}:OE X sc M (.Call (.Attribute o name ap) args kws p)
 (if(kws.isEmpty&&bK args&&decide (args.length≤20)&&(ap.endLine==p.line)&&!jj o)=true then(ja (V.E sc M) sc M o).bind fun d=>Oq (V.E sc M) (ja (V.E sc M) sc M) X name args d else none):=fun cx hA hsc h F S=>by
 subst hsc;obtain⟨q,bR⟩:=dw h;clear h;simp only[ao]at q;have hk0:=f5.mp q.1.1.1.1;subst hk0;refine Ub bR fun a e1 h=>?_;rcases(Rv _ _ X name args a).2 _ h with⟨l,as,rfl,e2,e3⟩|⟨as,e2,e3⟩
 ·exact FL (V.oE cx hA).rd (V.oE cx hA) cx hA q.1.1.1.2 (of_decide_eq_true q.1.1.2) q.1.2 (by simpa using q.2) F S e1 e2 e3
 ·exact JB (V.oE cx hA).rd (V.oE cx hA).rd q.1.1.1.2 (of_decide_eq_true q.1.1.2) q.1.2 (by simpa using q.2) F S e1 e2 e3
theorem TC (V:A4 X) {sc:NS} {f:Str} {np p:Pos} {args:List Expr} {kws:List Keyword}:OE X sc M (.Call (.Name f np) args kws p)
 (if(kws.isEmpty&&bK args&&dY sc f)=true then
  (if tC f=true then(di (ja (V.E sc M) sc M) args).bind fun as=>ox f as
   else if f=ofString "tuple" then(di (ja (V.E sc M) sc M) args).bind fun as=>Ek as
   else(di (V.E sc M) args).bind fun as=>X.call f as)else none):=fun cx hA hsc h F S=>by
 subst hsc;obtain⟨q,bR⟩:=dw h;clear h;simp only[ao]at q;have hk0:=f5.mp q.1.1;subst hk0;by_cases hb:tC f=true
 ·rw[if_pos hb]at bR
  refine Ub bR fun as e2 h=>?_;exact BX (V.oE cx hA).rd hA q.1.2 q.2 hb F S e2 h
 rw[if_neg hb]at bR;by_cases e:f=ofString "tuple"
 ·rw[if_pos e]at bR
  subst e;refine Ub bR fun as e2 h=>?_;exact Hs (V.oE cx hA).rd q.1.2 q.2 F S e2 h
 ·rw[if_neg e]at bR
  refine Ub bR fun as e2 h=>?_;exact Ht (V.oE cx hA) cx hA q.1.2 q.2 F S e2 h
theorem TM (V:A4 X) {sc:NS} {v:Expr} {name:Str} {p:Pos}:OE X sc M (.Attribute v name p) ((uB sc v name).or (if jj v=true then none else(V.E sc M v).bind fun d=>ri d name)):=fun cx hA hsc h F S=>by
 subst hsc;cases e1:uB _ v name with
 |some d'=>rw[e1]at h;cases h;exact OJ F S e1
 |none=>
  rw[e1]at h;by_cases hc:jj v=true
  ·rw[if_pos hc]at h;cases h
  rw[if_neg hc]at h;refine Ub h fun a e1 h=>?_;exact KK (V.oE cx hA) (by simpa using hc) F S e1 h
theorem S3 (V:A4 X) {sc:NS} {v i:Expr} {p:Pos}:OE X sc M (.Subscript v i p) (if we i=true then(ja (V.E sc M) sc M v).bind fun d=>(V.E sc M i).bind fun k=>ef d k else none):=fun cx hA hsc h F S=>by
 subst hsc;obtain⟨q,h⟩:=dw h;refine Ub h fun a e1 h=>?_;refine Ub h fun b e2 h=>?_;exact MB (V.oE cx hA).rd (V.oE cx hA) (fun a b c d z=>by rw[z]at q;cases q) F S e1 e2 h
noncomputable def T4 (V:A4 X) (sc:NS) (M:MM):(e:Expr)→{r:Option D//OE X sc M e r}
 |.Constant c _ _=>⟨wD c,fun _ _ _ h _ S=>Hd S h⟩
 |.Name x _=>⟨mD sc M x,fun _ _ hsc h F S=>by subst hsc;exact Js h F S⟩
 |.BinOp l op r _=>⟨(ja (V.E sc M) sc M l).bind fun a=>(ja (V.E sc M) sc M r).bind fun b=>eS op a b,fun cx hA hsc h F S=>by
  subst hsc;refine Ub h fun a e1 h=>?_;refine Ub h fun b e2 h=>?_;exact OV (V.oE cx hA).rd F S e1 e2 h⟩
 |.UnaryOp op x _=>⟨(V.E sc M x).bind fun a=>Su op a,fun cx hA hsc h F S=>by
  subst hsc;refine Ub h fun a e1 h=>?_;exact PX (V.oE cx hA) F S e1 h⟩
 |.Compare l [op] [r] _=>⟨if behindInMarks op r=true then none else(ja (V.E sc M) sc M l).bind fun a=>(ja (V.E sc M) sc M r).bind fun b=>(ia op a b).map .bool,fun cx hA hsc h F S=>by
  subst hsc;by_cases hm:behindInMarks op r=true
  ·rw[if_pos hm]at h;cases h
  rw[if_neg hm]at h;refine Ub h fun a e1 h=>?_;refine Ub h fun b e2 h=>?_;(refine Um h fun c e3 q0=>?_;subst q0);exact OH (V.oE cx hA).rd hA F S (by simpa using hm) e1 e2 e3⟩
 |.BoolOp op vs _=>⟨vw (V.E sc M) op vs,fun cx hA hsc h F S=>by subst hsc;rw[arm_eval_BoolOp];exact BZ (V.oE cx hA) h F S⟩
 |.IfExp t a b _=>⟨SB (V.T sc M t) (V.E sc M a) (V.E sc M b),NH V⟩
 |.List es _=>⟨if(bK es&&decide (es.length≤1000000))=true then(di (V.E sc M) es).map .list else none,fun cx hA hsc h F S=>by
  subst hsc;obtain⟨q,h⟩:=dw h;rw[ao]at q;(refine Um h fun ds e1 q0=>?_;subst q0);exact JF (V.oE cx hA) q.1 (of_decide_eq_true q.2) e1 F S⟩
 |.Tuple es _ _=>⟨if(bK es&&decide (es.length≤1000000))=true then(di (V.E sc M) es).map .tup else none,fun cx hA hsc h F S=>by
  subst hsc;obtain⟨q,h⟩:=dw h;rw[ao]at q;(refine Um h fun ds e1 q0=>?_;subst q0);exact Ej (V.oE cx hA) q.1 (of_decide_eq_true q.2) e1 F S⟩
 |.ListComp elt gens s _=>⟨_,QL V⟩
 |.Call (.Attribute o name ap) args kws p=>⟨_,Ts V⟩
 |.Call (.Name f np) args kws p=>⟨_,TC V⟩
 |.Attribute v name _=>⟨_,TM V⟩
 |.Subscript v (.Slice lo hi st _) _=>⟨(ja (V.E sc M) sc M v).bind fun d=>(mB (V.E sc M) lo).bind fun a=>(mB (V.E sc M) hi).bind fun b=>(mB (V.E sc M) st).bind fun c=>gt d a b c,fun cx hA hsc h F S=>by
  subst hsc;refine Ub h fun a e1 h=>?_;refine Ub h fun lo e2 h=>?_;refine Ub h fun hi e3 h=>?_;refine Ub h fun st e4 h=>?_;exact Oy (V.oE cx hA).rd (V.oE cx hA) F S e1 e2 e3 e4 h⟩
 |.Subscript v i _=>⟨_,S3 V⟩
 |_=>⟨none,fun _ _ _ h=>nomatch h⟩
noncomputable def T1 (V:A4 X) (sc:NS) (M:MM):Expr→Option Bool
 |.UnaryOp .Not x _=>(V.T sc M x).map (!·)
 |.BoolOp .And xs _=>nK (V.T sc M) xs
 |.BoolOp .Or xs _=>uD (V.T sc M) xs
 |.Compare l nv rs _=>if lastMarks nv rs=true then none else(ja (V.E sc M) sc M l).bind fun a=>lj (ja (V.E sc M) sc M) a nv rs
 |.IfExp ..=>none
 |e=>(ja (V.E sc M) sc M e).bind ux
theorem ME (V:A4 X) (cx:CxOK C X k) (hA:RA A k):HT C A ah μ env m M (T1 V env.scope.names M):=by
 intro e b s h F S;have hR:=(V.oE (ah:=ah) (μ:=μ) (env:=env) (m:=m) (M:=M) cx hA).rd;have hT:=V.oT (ah:=ah) (μ:=μ) (env:=env) (m:=m) (M:=M) cx hA;have pl:∀e,(ja (V.E env.scope.names M) env.scope.names M e).bind ux=some b→isTrue e env (eval e env)=(do let v←eval e env;standAt e.pos;holding [v] (truthy v))→wpAny (MD C) A (isTrue e env (eval e env)) (PostB C s b) bL s:=
  fun e h he=>xC hR h F S he;cases e with
 |UnaryOp op x p=>
  cases op with
  |Not=>
   (refine Um h fun c e1 q0=>?_;subst q0);exact isTrue_not (aa (hT _ _ _ e1 F S) (fun c' az q=>by obtain⟨rfl,r⟩:=q;exact⟨rfl,r⟩) fun _ _ x=>x)
  |_=>exact pl _ h rfl
 |BoolOp op xs p=>
  cases op with
  |And=>exact HD hT h F S
  |Or=>exact HB hT h F S
 |Compare l nv rs p=>
  by_cases hm:lastMarks nv rs=true
  ·have h':(if lastMarks nv rs=true then none else(ja (V.E env.scope.names M) env.scope.names M l).bind fun a=>lj (ja (V.E env.scope.names M) env.scope.names M) a nv rs)=some b:=h
   rw[if_pos hm]at h';cases h'
  have h':(if lastMarks nv rs=true then none else(ja (V.E env.scope.names M) env.scope.names M l).bind fun a=>lj (ja (V.E env.scope.names M) env.scope.names M) a nv rs)=some b:=h;rw[if_neg hm]at h';refine Ub h' fun a e1 h'=>?_;refine AH (by simpa using hm) (aa (hR _ _ _ e1 F S) (fun v az q=>?_) fun _ _ x=>x);exact aa (y6 hR hA h' (F.keep q.2.1) q.1 q.2.2) (fun c aV dg=>dg.after q.2.1) fun _ _ x=>x
 |IfExp=>cases h
 |_=>exact pl _ h rfl
noncomputable abbrev OI (X:Cx) (sc:NS) (M:MM) (e:Expr) (r:Option (List D)):Prop:=∀{C:aU} {k:Nat} {A:Around} {ah:Addr→Prop} {μ:List Addr} {env:Env} {m:Str→Option Value} {d:List D} {s:Shared},
 CxOK C X k→RA A k→env.scope.names=sc→r=some d→FI ah μ s.heap env m M→St C s→wpAny (MD C) A (eval e env) (fun x az=>wpAny (MD C) A (pyIter x) (PostI C A s (Pm ah μ) d) bL az) bL s
theorem QW (V:A4 X) {sc:NS} {e:Expr}:OI X sc M e ((V.E sc M e).bind iZ):=fun cx hA hsc h F S=>by subst hsc;exact Gc (V.oE cx hA) hA h F S
noncomputable def T3 (V:A4 X) (sc:NS) (M:MM):(e:Expr)→{r:Option (List D)//OI X sc M e r}
 |.Call (.Name f p) args kws q=>⟨if(kws.isEmpty&&bK args&&dY sc f&&decide (f=ofString "range"))=true then(di (V.E sc M) args).bind iV
  else if(kws.isEmpty&&bK args&&dY sc f&&decide (f=ofString "reversed"))=true then(di (V.E sc M) args).bind CE
  else(V.E sc M (.Call (.Name f p) args kws q)).bind iZ,fun cx hA hsc h F S=>by
  by_cases c1:(kws.isEmpty&&bK args&&dY sc f&&decide (f=ofString "range"))=true
  ·rw[if_pos c1]at h
   subst hsc;simp only[ao]at c1;have hk0:=f5.mp c1.1.1.1;have hf:=of_decide_eq_true c1.2;subst hk0;subst hf;refine Ub h fun as e2 h=>?_;exact E1 (V.oE cx hA) hA c1.1.1.2 c1.1.2 F S h e2
  rw[if_neg c1]at h;by_cases c2:(kws.isEmpty&&bK args&&dY sc f&&decide (f=ofString "reversed"))=true
  ·rw[if_pos c2]at h
   subst hsc;simp only[ao]at c2;have hk0:=f5.mp c2.1.1.1;have hf:=of_decide_eq_true c2.2;subst hk0;subst hf;refine Ub h fun as e2 h=>?_;exact MN (V.oE cx hA) hA c2.1.1.2 c2.1.2 F S h e2
  rw[if_neg c2]at h;exact QW V cx hA hsc h F S⟩
 |e=>⟨(V.E sc M e).bind iZ,QW V⟩
noncomputable def yM (X:Cx):Nat→A4 X
 |0=>⟨fun _ _ _=>none,fun _ _ _=>none,fun _ _ _=>none,fun _ _ _ _ _ h=>(nomatch h),fun _ _ _ _ _ h=>(nomatch h),fun _ _ _ _ _ h=>(nomatch h)⟩
 |n+1=>⟨fun sc M e=>(T4 (yM X n) sc M e).1,T1 (yM X n),fun sc M e=>(T3 (yM X n) sc M e).1,
  fun cx hA e _ _ h F S=>(T4 (yM X n) _ _ e).2 cx hA rfl h F S,fun cx hA=>ME (yM X n) cx hA,fun cx hA e _ _ h F S=>(T3 (yM X n) _ _ e).2 cx hA rfl h F S⟩
noncomputable def ev (n:Nat) (X:Cx):NS→MM→Expr→Option D:=(yM X n).E
noncomputable def mT (n:Nat) (X:Cx):NS→MM→Expr→Option Bool:=(yM X n).T
noncomputable def zM (n:Nat) (X:Cx):NS→MM→Expr→Option (List D):=(yM X n).I
noncomputable def SE (C:aU) (X:Cx) (k n:Nat):Prop:=∀{A ah μ env m M},RA A k→HE C A ah μ env m M (ev n X env.scope.names M)
noncomputable def ST (C:aU) (X:Cx) (k n:Nat):Prop:=∀{A ah μ env m M},RA A k→HT C A ah μ env m M (mT n X env.scope.names M)
noncomputable def SI (C:aU) (X:Cx) (k n:Nat):Prop:=∀{A ah μ env m M},RA A k→HI C A ah μ env m M (zM n X env.scope.names M)
theorem fu (cx:CxOK C X k) (n:Nat):SE C X k n∧ST C X k n∧SI C X k n:=⟨fun hA=>(yM X n).oE cx hA,fun hA=>(yM X n).oT cx hA,fun hA=>(yM X n).oI cx hA⟩
end
section
variable {C:aU} {A:Around} {s az aV:Shared} {ah:Addr→Prop} {μ dT:List Addr} {h h':Heap} {env:Env} {m:Str→Option Value} {M fK jy:MM} {k:Nat}
structure XS (C:aU) (ah:Addr→Prop) (μ:List Addr) (env:Env) (s:Shared) (M':MM) (s':Shared):Prop where
 ex:∃m' μ',FI ah μ' s'.heap env m' M'∧(∀a∈μ',a∈μ∨s.heap.get? a=none)∧∀a∈μ',C.G.get? a=none
 S:St C s'
 k:∀b o,b≠65→b≠72→b∉μ→s.heap.get? b=some o→s'.heap.get? b=some o
theorem XS.refl (F:FI ah μ s.heap env m M) (S:St C s) (fr:∀a∈μ,C.G.get? a=none):XS C ah μ env s M s:=⟨⟨m,μ,F,fun _ q=>.inl q,fr⟩,S,fun _ _ _ _ _ e=>e⟩
theorem AK {a:Addr} (bu:St C az) (k:∀b o,b≠65→b≠72→b∉μ→s.heap.get? b=some o→az.heap.get? b=some o) (e:az.heap.get? a=none):a∈μ∨s.heap.get? a=none:=by
 by_cases q:a∈μ
 ·exact .inl q
 ·refine .inr ?_
  cases z:s.heap.get? a with
  |none=>rfl
  |some o=>
   have:=k a o (fun y=>bu.live65 (y▸e)) (fun y=>bu.live72 (y▸e)) q z;rw[e]at this;cases this
theorem XS.trans (bu:St C az) (hμ:∀a∈dT,a∈μ∨s.heap.get? a=none) (k:∀b o,b≠65→b≠72→b∉μ→s.heap.get? b=some o→az.heap.get? b=some o) (x:XS C ah dT env az jy aV):XS C ah μ env s jy aV:=by
 refine Uc x.ex fun m' μ' F h1 h2=>?_;refine⟨⟨m',μ',F,fun a q=>?_,h2⟩,x.S,fun b o n1 n2 n3 e=>x.k b o n1 n2 (fun q=>?_) (k b o n1 n2 n3 e)⟩
 ·rcases h1 a q with q|q
  ·exact hμ a q
  ·exact AK bu k q
 ·rcases hμ b q with q|q
  ·exact n3 q
  ·rw[e]at q;cases q
theorem XS.keep (bu:St C az) (kk:Keep s.heap az.heap) (x:XS C ah μ env az jy aV):XS C ah μ env s jy aV:=
 x.trans bu (fun _ q=>.inl q) fun b o n1 n2 _ e=>kk.get b o n1 n2 e
theorem XS.weaken (x:XS C ah μ env s M az) (hM:∀y e,jy.lookup y=some e→M.lookup y=some e):XS C ah μ env s jy az:=by
 refine Uf x.ex fun m' μ' F r=>?_;exact⟨⟨m',μ',F.weaken hM,r⟩,x.S,x.k⟩
theorem FI.setCell {x:Str} {v:Value} {d:D} {c:Addr} (F:FI ah μ h env m M) (hx:env.kindOf x=some .cell) (hc:env.cells.lookup x=some c) (cμ:c∈μ) (hn:h'.IsCell c (some v))
 (hs:∀b o,b≠c→h.get? b=some o→h'.get? b=some o) (hv:Rep (Pm ah μ) h d v):FI ah μ h' env m (M.set x (.dat d)):=by
 have pq:∀b o,Pm ah μ b→h.get? b=some o→h'.get? b=some o∧Pm ah μ b:=fun b o p e=>⟨hs b o (fun q=>p.2 (q▸cμ)) e,p⟩;have hlv:∃o,h'.get? c=some o:=by refine Ua hn fun o e _=>?_;exact⟨o,e⟩
 refine Up (F.cell x (.inl hx)) fun c' v0 e0 n65 n72 oc ec dc=>?_;rw[hc]at e0;cases e0;have nl:∀a vs,h.PlainList a vs→a≠c:=fun a vs ⟨n,e⟩ q=>by rw[q,ec]at e;cases e;cases dc
 have nL:env.locals≠c:=fun q=>by refine Uo F.ns fun o es ep e e' _=>?_;rw[q,ec]at e;cases e;rw[dc]at e';cases e'
 refine⟨fun b n=>?_,fun b q=>?_,F.tab,F.kind,F.glob,F.bi,?_,F.nL,fun y e q r=>?_,fun y r=>?_,F.st,F.inj,fun y e q r=>?_,fun y z l l' u q1 q2 q3 q4=>?_⟩
 ·rcases F.live b n with e|e|⟨o,e⟩
  ·exact .inl e
  ·exact .inr (.inl e)
  ·by_cases hb:b=c
   ·subst hb;exact .inr (.inr hlv)
   ·exact .inr (.inr ⟨o,hs b o hb e⟩)
 ·refine Uh (F.liveμ b q) fun n1 n2 o e=>?_
  refine⟨n1,n2,?_⟩;by_cases hb:b=c
  ·subst hb;exact hlv
  ·exact⟨o,hs b o hb e⟩
 ·refine Uk F.ns fun o es ep e z=>?_;exact⟨o,es,ep,hs _ _ nL e,z⟩
 ·rw[MM.set_lookup]at q
  by_cases hy:y=x
  ·subst hy;rw[hx]at r;cases r
  ·rw[if_neg hy]at q
   refine Ua (F.loc y e q r) fun u e1 e2=>?_;refine⟨u,e1,?_⟩;cases e with
   |dat d=>exact Rep.mono pq e2
   |own l=>
    (refine Ug e2 fun a vs q0 p0 ha hl hr=>?_;subst q0);exact⟨a,vs,rfl,p0,ha,hl.at fun o e=>hs _ _ (nl a vs hl) e,Reps.mono pq hr⟩
 ·refine Ue (F.cell y r) fun c' u e1 n1 n2 hcell=>?_
  by_cases hy:c'=c
  ·subst hy;exact⟨c',some v,e1,n1,n2,hn⟩
  ·refine Ua hcell fun o e2 e3=>?_
   exact⟨c',u,e1,n1,n2,o,hs _ _ hy e2,e3⟩
 ·rw[MM.set_lookup]at q
  by_cases hy:y=x
  ·rw[if_pos hy]at q;cases q
   subst hy;exact⟨c,v,d,hc,hn,rfl,Rep.mono pq hv⟩
  ·rw[if_neg hy]at q
   refine Ui (F.cval y e q r) fun c' u d' e1 hcell e3 e4=>?_;refine Ua hcell fun o g1 g2=>?_;exact⟨c',u,d',e1,⟨o,hs _ _ (fun z=>hy (F.inj y x c' e1 (z▸hc))) g1,g2⟩,e3,Rep.mono pq e4⟩
 ·rw[MM.set_lookup]at q1 q2
  by_cases hy:y=x
  ·rw[if_pos hy]at q1;cases q1
  by_cases hz:z=x
  ·rw[if_pos hz]at q2;cases q2
  rw[if_neg hy]at q1;rw[if_neg hz]at q2;exact F.ownInj y z l l' u q1 q2 q3 q4
noncomputable def bP (sc:NS) (x:Str):Bool:=sc.lookup x==some .local||sc.lookup x==some .cell
theorem iU {x:Str} {v:Value} {d:D} (fr:∀a∈μ,C.G.get? a=none) (F:FI ah μ s.heap env m M) (S:St C s) (hf:env.func.isSome=true) (hx:bP env.scope.names x=true) (hv:Rep (Pm ah μ) s.heap d v):
 wpAny (MD C) A (storeName env x v) (fun _ s'=>XS C ah μ env s (M.set x (.dat d)) s') bL s:=by
 rcases cU.mp hx with e|e
 ·have hk:env.kindOf x=some .local:=bt e
  refine cJ hk F.ns (fun h' hn hs=>?_) (by rw[F.kind];rfl);have hs':∀b o,b≠env.locals→s.heap.get? b=some o→h'.get? b=some o:=fun b o q e=>(hs.2 b q).trans e;refine Uo F.ns fun oL esL epL eL dL _=>?_;refine Ud (F.liveμ _ F.nL) fun l1 l2 _=>?_;exact⟨⟨_,μ,F.set hk hn hs' hv,fun _ q=>.inl q,fr⟩,S.but eL (fun vs q t z=>by rw[dL]at z;cases z) (fr _ F.nL) l1 l2 hs',fun b o _ _ n3 e=>hs' b o (fun q=>n3 (q▸F.nL)) e⟩
 ·have hk:env.kindOf x=some .cell:=bt e
  refine Ue (F.cell x (.inl hk)) fun c v0 e1 n1 n2 hc=>?_;have cμ:=F.st x c hf hk e1;refine kT F.kind hk e1 hc fun h' hn hs=>?_;have hs':∀b o,b≠c→s.heap.get? b=some o→h'.get? b=some o:=fun b o q e=>(hs.2 b q).trans e;refine Ua hc fun oc ec dc=>?_;refine⟨⟨_,μ,F.setCell hk e1 cμ hn hs' hv,fun _ q=>.inl q,fr⟩,?_,fun b o _ _ n3 e=>hs' b o (fun q=>n3 (q▸cμ)) e⟩;have:=S.but (t:=s.toks) ec (fun vs q t z=>by rw[dc]at z;cases z) (fr _ cμ) n1 n2 hs';exact this
noncomputable def NU:Ent→Ent
 |.own l=>.dat (.list l)
 |e=>e
noncomputable def frz (M:MM):MM:=M.map fun p=>(p.1,NU p.2)
theorem km:∀(M:MM) (x:Str),(frz M).lookup x=(M.lookup x).map NU
 |[]=>@fun x=>rfl
 |(y,e)::r=>@fun x=>by
  show eB x ((y,NU e)::frz r)=_;rw[aH,aH];cases hxy:x==y with
  |true=>rfl
  |false=>exact km r x
open Classical in
theorem FI.frz (F:FI ah μ h env m M):∃μ',(∀a∈μ',a∈μ)∧FI ah μ' h env m (frz M):=by
 let own:Addr→Prop:=fun a=>∃x l,M.lookup x=some (.own l)∧env.kindOf x=some .local∧m x=some (.ref a);let μ':=μ.filter fun a=>decide (¬own a);have sub:∀a∈μ',a∈μ:=fun a q=>(bw.mp q).1;have pq:∀b o,Pm ah μ b→h.get? b=some o→h.get? b=some o∧Pm ah μ' b:=fun b o p e=>⟨e,p.1,fun q=>p.2 (sub b q)⟩;have isl:∀a,own a→∃vs,h.PlainList a vs:=by
  rintro a ⟨x,l,e1,e2,e3⟩;obtain⟨v,f1,b,vs,rfl,_,_,hl,_⟩:=F.loc x _ e1 e2;rw[e3]at f1;cases f1;exact⟨vs,hl⟩
 refine⟨μ',sub,⟨F.live,fun a q=>F.liveμ a (sub a q),F.tab,F.kind,F.glob,F.bi,F.ns,?_,fun x e q r=>?_,F.cell,fun x c q1 q2 q3=>?_,F.inj,fun x e q r=>?_,fun x y l l' v q1=>?_⟩⟩
 ·refine bw.mpr ⟨F.nL,decide_eq_true fun q=>?_⟩
  obtain⟨vs,n,e⟩:=isl _ q;refine Uo F.ns fun o es ep e' e'' _=>?_;rw[e]at e';cases e';cases e''
 ·rw[km]at q
  (refine Um q fun e' q' q0=>?_;subst q0);refine Ua (F.loc x e' q' r) fun v e1 e2=>?_;refine⟨v,e1,?_⟩;cases e' with
  |dat d=>exact Rep.mono pq e2
  |own l=>
   (refine Ug e2 fun a vs q0 p0 ha hl hr=>?_;subst q0);refine⟨a,vs,rfl,⟨p0,fun z=>?_⟩,hl,Reps.mono pq hr⟩;exact of_decide_eq_true (bw.mp z).2 ⟨x,l,q',r,e1⟩
 ·refine bw.mpr ⟨F.st x c q1 q2 q3,decide_eq_true fun q=>?_⟩
  obtain⟨vs,n,e⟩:=isl _ q;refine Up (F.cell x (.inl q2)) fun c' v e1 _ _ o e2 e3=>?_;rw[q3]at e1;cases e1;rw[e]at e2;cases e2;cases e3
 ·rw[km]at q
  (refine Um q fun e' q' q0=>?_;subst q0);refine Ui (F.cval x e' q' r) fun c v d e1 e2 e3 e4=>?_;subst e3;exact⟨c,v,d,e1,e2,rfl,Rep.mono pq e4⟩
 ·rw[km]at q1
  refine Um q1 fun e' q' e=>?_;cases e'<;>cases e
theorem FI.setOwn {x:Str} {a:Addr} {vs:Array Value} {l:List D} (F:FI ah μ h env m M) (hx:env.kindOf x=some .local) (hn:h'.Ns env.locals (fun y=>if y=x then some (.ref a)else m y))
 (hs:∀b o,b≠env.locals→h.get? b=some o→h'.get? b=some o) (pa:ah a) (haμ:a∉μ) (hl:h.PlainList a vs) (hr:Reps (Pm ah (a::μ)) h l vs.toList) (n65:a≠65) (n72:a≠72)
 (hold:∀y e v,M.lookup y=some e→env.kindOf y=some .local→m y=some v→Sd ah (a::μ) h e v) (holdc:∀y e,M.lookup y=some e→env.kindOf y=some .cell∨env.kindOf y=some .free→∃c v d,env.cells.lookup y=some c∧h.IsCell c (some v)∧e=.dat d∧Rep (Pm ah (a::μ)) h d v):
 FI ah (a::μ) h' env (fun y=>if y=x then some (.ref a)else m y) (M.set x (.own l)):=by
 have pq:∀b o,Pm ah (a::μ) b→h.get? b=some o→h'.get? b=some o∧Pm ah (a::μ) b:=fun b o p e=>⟨hs b o (fun q=>p.2 (q▸af _ F.nL)) e,p⟩;refine Uo F.ns fun oL esL epL eL dL _=>?_;have hlv:∃o,h'.get? env.locals=some o:=by refine Uk hn fun o _ _ e _=>?_;exact⟨o,e⟩
 have nl:∀a vs,h.PlainList a vs→a≠env.locals:=fun a vs ⟨n,e⟩ q=>by rw[q,eL]at e;cases e;cases dL
 have nc:∀c v,h.IsCell c v→c≠env.locals:=fun c v ⟨o,e,e'⟩ q=>by rw[q,eL]at e;cases e;rw[dL]at e';cases e'
 have hl':h'.PlainList a vs:=hl.at fun o e=>hs _ _ (nl a vs hl) e;refine⟨fun b n=>?_,fun b q=>?_,F.tab,F.kind,F.glob,F.bi,hn,af _ F.nL,fun y e q r=>?_,fun y r=>?_,fun y c q1 q2 q3=>af _ (F.st y c q1 q2 q3),F.inj,fun y e q r=>?_,fun y z l1 l2 u q1 q2 q3 q4 r1 r2=>?_⟩
 ·rcases F.live b n with e|e|⟨o,e⟩
  ·exact .inl e
  ·exact .inr (.inl e)
  ·by_cases hb:b=env.locals
   ·subst hb;exact .inr (.inr hlv)
   ·exact .inr (.inr ⟨o,hs b o hb e⟩)
 ·rcases aD.mp q with rfl|q
  ·obtain⟨n,e⟩:=hl';exact⟨n65,n72,_,e⟩
  ·refine Uh (F.liveμ b q) fun n1 n2 o e=>?_
   refine⟨n1,n2,?_⟩;by_cases hb:b=env.locals
   ·subst hb;exact hlv
   ·exact⟨o,hs b o hb e⟩
 ·rw[MM.set_lookup]at q
  by_cases hy:y=x
  ·rw[if_pos hy]at q;cases q
   exact⟨.ref a,if_pos hy,a,vs,rfl,pa,au ..,hl',Reps.mono pq hr⟩
  ·rw[if_neg hy]at q
   refine Ua (F.loc y e q r) fun u e1 _=>?_;have e2:=hold y e u q r e1;refine⟨u,(if_neg hy).trans e1,?_⟩;cases e with
   |dat d=>exact Rep.mono pq e2
   |own l=>
    (refine Ug e2 fun b ws q0 p0 ha hlb hrb=>?_;subst q0);exact⟨b,ws,rfl,p0,ha,hlb.at fun o e=>hs _ _ (nl b ws hlb) e,Reps.mono pq hrb⟩
 ·refine Ue (F.cell y r) fun c u e1 n1 n2 hcell=>?_
  refine Ua (id hcell) fun o e2 e3=>?_;exact⟨c,u,e1,n1,n2,o,hs _ _ (nc _ _ hcell) e2,e3⟩
 ·rw[MM.set_lookup]at q
  by_cases hy:y=x
  ·subst hy;rw[hx]at r;rcases r with r|r<;>cases r
  ·rw[if_neg hy]at q
   refine Ui (holdc y e q r) fun c u d' e1 hcell e3 e4=>?_;refine Ua (id hcell) fun o g1 g2=>?_;exact⟨c,u,d',e1,⟨o,hs _ _ (nc _ _ hcell) g1,g2⟩,e3,Rep.mono pq e4⟩
 ·rw[MM.set_lookup]at q1 q2
  have notA:∀w l,M.lookup w=some (.own l)→env.kindOf w=some .local→m w≠some (.ref a):=fun w l e1 e2 e3=>by
   obtain⟨v,f1,b,ws,rfl,_,hb,_⟩:=F.loc w _ e1 e2;rw[e3]at f1;cases f1;exact haμ hb
  by_cases hy:y=x
  ·by_cases hz:z=x
   ·rw[hy,hz]
   ·rw[if_neg hz]at q2
    simp only[hy,if_true]at q3;simp only[hz,if_false]at q4;cases q3;exact absurd q4 (notA z l2 q2 r2)
  ·rw[if_neg hy]at q1
   simp only[hy,if_false]at q3;by_cases hz:z=x
   ·simp only[hz,if_true]at q4
    cases q4;exact absurd q3 (notA y l1 q1 r1)
   ·rw[if_neg hz]at q2
    simp only[hz,if_false]at q4;exact F.ownInj y z l1 l2 u q1 q2 q3 q4 r1 r2
end
section
variable {C:aU} {A:Around} {s az aV:Shared} {ah:Addr→Prop} {μ dT:List Addr} {h h':Heap} {env:Env} {m:Str→Option Value} {M fK jy:MM} {k:Nat}
theorem FI.setList {x:Str} {a:Addr} {vs vs':Array Value} {l l':List D} (F:FI ah μ h env m M) (hM:M.lookup x=some (.own l)) (hx:env.kindOf x=some .local) (hv:m x=some (.ref a)) (aμ:a∈μ) (pa:ah a) (hl:h.PlainList a vs)
 (hl':h'.PlainList a vs') (hs:∀b o,b≠a→h.get? b=some o→h'.get? b=some o) (hr:Reps (Pm ah μ) h l' vs'.toList):FI ah μ h' env m (M.set x (.own l')):=by
 have pq:∀b o,Pm ah μ b→h.get? b=some o→h'.get? b=some o∧Pm ah μ b:=fun b o p e=>⟨hs b o (fun q=>p.2 (q▸aμ)) e,p⟩;have hlv:∃o,h'.get? a=some o:=by obtain⟨n,e⟩:=id hl';exact⟨_,e⟩
 obtain⟨na,ea⟩:=id hl;have nL:env.locals≠a:=fun q=>by refine Uo F.ns fun o es ep e e' _=>?_;rw[q,ea]at e;cases e;cases e'
 have nc:∀c v,h.IsCell c v→c≠a:=fun c v ⟨o,e,e'⟩ q=>by rw[q,ea]at e;cases e;cases e'
 refine⟨fun b n=>?_,fun b q=>?_,F.tab,F.kind,F.glob,F.bi,?_,F.nL,fun y e q r=>?_,fun y r=>?_,F.st,F.inj,fun y e q r=>?_,fun y z l1 l2 u q1 q2 q3 q4 r1 r2=>?_⟩
 ·rcases F.live b n with e|e|⟨o,e⟩
  ·exact .inl e
  ·exact .inr (.inl e)
  ·by_cases hb:b=a
   ·subst hb;exact .inr (.inr hlv)
   ·exact .inr (.inr ⟨o,hs b o hb e⟩)
 ·refine Uh (F.liveμ b q) fun n1 n2 o e=>?_
  refine⟨n1,n2,?_⟩;by_cases hb:b=a
  ·subst hb;exact hlv
  ·exact⟨o,hs b o hb e⟩
 ·refine Uk F.ns fun o es ep e z=>?_;exact⟨o,es,ep,hs _ _ nL e,z⟩
 ·rw[MM.set_lookup]at q
  by_cases hy:y=x
  ·rw[if_pos hy]at q;cases q
   subst hy;exact⟨.ref a,hv,a,vs',rfl,pa,aμ,hl',Reps.mono pq hr⟩
  ·rw[if_neg hy]at q
   refine Ua (F.loc y e q r) fun u e1 e2=>?_;refine⟨u,e1,?_⟩;cases e with
   |dat d=>exact Rep.mono pq e2
   |own l2=>
    (refine Ug e2 fun b ws q0 p0 hb hlb hrb=>?_;subst q0);have:b≠a:=fun z=>hy (F.ownInj y x l2 l _ q hM e1 (z▸hv) r hx);exact⟨b,ws,rfl,p0,hb,hlb.at fun o e=>hs _ _ this e,Reps.mono pq hrb⟩
 ·refine Ue (F.cell y r) fun c u e1 n1 n2 hcell=>?_
  refine Ua (id hcell) fun o e2 e3=>?_;exact⟨c,u,e1,n1,n2,o,hs _ _ (nc _ _ hcell) e2,e3⟩
 ·rw[MM.set_lookup]at q
  by_cases hy:y=x
  ·subst hy;rw[hx]at r;rcases r with r|r<;>cases r
  ·rw[if_neg hy]at q
   refine Ui (F.cval y e q r) fun c u d' e1 hcell e3 e4=>?_;refine Ua (id hcell) fun o g1 g2=>?_;exact⟨c,u,d',e1,⟨o,hs _ _ (nc _ _ hcell) g1,g2⟩,e3,Rep.mono pq e4⟩
 ·rw[MM.set_lookup]at q1 q2
  by_cases hy:y=x
  ·by_cases hz:z=x
   ·rw[hy,hz]
   ·rw[if_neg hz]at q2;subst hy
    exact F.ownInj y z l l2 u hM q2 q3 q4 r1 r2
  ·rw[if_neg hy]at q1
   by_cases hz:z=x
   ·subst hz;exact F.ownInj y z l1 l u q1 hM q3 q4 r1 r2
   ·rw[if_neg hz]at q2;exact F.ownInj y z l1 l2 u q1 q2 q3 q4 r1 r2
theorem XS.ofList {x:Str} {a:Addr} {vs vs':Array Value} {l l':List D} {t:Nat} (fr:∀a∈μ,C.G.get? a=none) (F:FI ah μ s.heap env m M) (S:St C s) (hM:M.lookup x=some (.own l)) (hx:env.kindOf x=some .local) (hv:m x=some (.ref a)) (aμ:a∈μ) (pa:ah a) (hl:s.heap.PlainList a vs)
 (hl':h'.PlainList a vs') (hs:∀b o,b≠a→s.heap.get? b=some o→h'.get? b=some o) (hr:Reps (Pm ah μ) s.heap l' vs'.toList):XS C ah μ env s (M.set x (.own l')) {s with heap:=h',toks:=t}:=by
 obtain⟨n,e⟩:=id hl;refine Ud (F.liveμ _ aμ) fun n1 n2 _=>?_;exact⟨⟨m,μ,F.setList hM hx hv aμ pa hl hl' hs hr,fun _ q=>.inl q,fr⟩,S.but e (fun vs q t z=>by cases z) (fr _ aμ) n1 n2 hs,fun b o _ _ n3 e=>hs b o (fun q=>n3 (q▸aμ)) e⟩
theorem wj (f:Array Value→Array Value) (its:Array Value) (n:Nat):∃n',Obj.mapSeq f ({cls:=.type "list",data:=.seq its n}:Obj)={cls:=.type "list",data:=.seq (f its) n'}:=⟨_,rfl⟩
theorem pP {a:Addr} {vs:Array Value} (f:Array Value→Array Value) (hl:h.PlainList a vs):(h.update a (Obj.mapSeq f)).PlainList a (f vs):=by
 obtain⟨n,e⟩:=hl;obtain⟨n',e'⟩:=wj f vs n;exact⟨n',by rw[DU _ e (by rw[e'];rfl),e']⟩
theorem xR {prog:Program} {w:World} {E:Value→Shared→Prop} {l:Addr} {items:Array Value} {k:Int} {t:Tok} {v:Value} {Q:Unit→Shared→Prop} (hl:s.heap.PlainList l items) (h0:0≤k) (hj:k<items.size) (hz:k<1000000)
 (hQ:∀h',h'.PlainList l (items.setIfInBounds k.toNat v)→du l s.heap h'→Q () {s with heap:=h'}):wpAny (model prog w) A (setItem (.ref l) (.int k t) v) Q E s:=by
 obtain⟨n,ho⟩:=id hl;exact ki_setAt (n:=n) ho h0 (by(exact gE hz (by decide))) hj (hQ _ (pP _ hl) (xh ..))
theorem EV {prog:Program} {w:World} {E:Value→Shared→Prop} {l:Addr} {items:Array Value} {Q:Value→Shared→Prop} (hl:s.heap.PlainList l items) (hz:items.size≤1000000)
 (hQ:∀h',h'.PlainList l items.reverse→du l s.heap h'→Q .none {s with heap:=h'}):wpAny (model prog w) A (call (.builtin "list.reverse") [.ref l]) Q E s:=by
 obtain⟨n,ho⟩:=id hl;exact DB F.slot_list_reverse hl.isList.typeIs F.entry_list_reverse (F.args_list_reverse_1 _) (AutoSeq1.list_reverse_list_0 l items n (by show _≤2^24;(exact ae hz (by decide)))) ⟨ho,hQ _ (pP _ hl) (xh ..)⟩
theorem so {x:Str} {l:List D} (F:FI ah μ s.heap env m M) (hM:M.lookup x=some (.own l)) (hx:env.kindOf x=some .local):
 ∃a vs,m x=some (.ref a)∧ah a∧a∈μ∧s.heap.PlainList a vs∧Reps (Pm ah μ) s.heap l vs.toList:=by
 obtain⟨v,e,a,vs,rfl,r⟩:=F.loc x _ hM hx;exact⟨a,vs,e,r⟩
noncomputable def Ce (C:aU) (s:Shared) (P:Addr→Prop) (l:List D):Value→Shared→Prop:=fun v s'=>St C s'∧Keep s.heap s'.heap∧∃a vs,v=.ref a∧s.heap.get? a=none∧s'.heap.PlainList a vs∧Reps (fun b=>P b∧b≠a) s'.heap l vs.toList
theorem FQ {f:Expr→Option D} (hf:HE C A ah μ env m M f) {es:List Expr} {ds:List D} {p:Pos} (hs:bK es=true) (hl:es.length≤1000000) (h:di f es=some ds) (F:FI ah μ s.heap env m M) (S:St C s):
 wpAny (MD C) A (eval (.List es p) env) (Ce C s (Pm ah μ) ds) bL s:=by
 refine wpAny_List ?_;rw[l7 hs];refine aa (jG hf h F S) (fun vs s' q=>?_) fun _ _ x=>x;have:=kJ h;have:=q.2.2.length;refine⟨by show _≤2^24;lia,q.1.grow fun _ _ e=>ak _ e,q.2.1.trans (.push _),_,_,rfl,eO q.1 q.2.1 (eu _),⟨_,aX _ rfl⟩,?_⟩;exact Reps.mono (fun a o p e=>⟨ak _ e,p,aM (aQ e)⟩) (by simpa using q.2.2)
theorem KN {P:Addr→Prop} {l r:List D} {v1 v2:Value} (S:St C s) (h:l.length+r.length≤1000000) (r1:eU P s.heap (.list l) v1) (r2:eU P s.heap (.list r) v2):wpAny (MD C) A (binaryOp .Add v1 v2) (Ce C s P (l++r)) bL s:=by
 (refine Ug r1 fun a vs q0 _ _ q1 hr=>?_;subst q0;refine Un q1 fun na ha=>?_);(refine Ug r2 fun b ws q0 _ _ q1 hq=>?_;subst q0;refine Un q1 fun nb hb=>?_);have l1:=hr.length;have l2:=hq.length;refine concat_meets ⟨_,ha,rfl⟩ ⟨_,hb,rfl⟩ T8 seq_list_add zP zD (xo _ _)
  (list_addW a b vs ws na nb none none #[] #[] (by rw[←aK,←aK,l1,l2];show _≤2^24;(exact ae h (by decide)))) ⟨ha,hb,?_⟩;refine⟨S.push (t:=s.toks) _,.push _,_,_,rfl,eu _,⟨_,aX _ rfl⟩,?_⟩;rw[D5];exact Reps.mono (fun a o p e=>⟨ak _ e,p,aM (aQ e)⟩) (hr.append hq)
noncomputable def Np:(d:D)→{r:Option (List D)//∀l,r=some l→d=.list l}
 |.list l=>⟨some l,fun _ e=>by cases e;rfl⟩
 |_=>⟨none,fun _ e=>nomatch e⟩
noncomputable def ym (d:D):Option (List D):=(Np d).1
inductive A2 (f:Expr→Option D) (sc:NS) (M:MM):Expr→List D→Prop where
 |list {es p l} (h1:bK es=true) (h2:es.length≤1000000) (e:di f es=some l):A2 f sc M (.List es p) l
 |add {l r p a b} (e1:ja f sc M l=some (.list a)) (e2:ja f sc M r=some (.list b)) (h:a.length+b.length≤1000000):A2 f sc M (.BinOp l .Add r p) (a++b)
noncomputable def MX (f:Expr→Option D) (sc:NS) (M:MM):(e:Expr)→{r:Option (List D)//∀l,r=some l→A2 f sc M e l}
 |.List es _=>⟨if(bK es&&decide (es.length≤1000000))=true then di f es else none,fun _ h=>by
  obtain⟨q,h⟩:=dw h;rw[ao]at q;exact .list q.1 (of_decide_eq_true q.2) h⟩
 |.BinOp l .Add r _=>⟨((ja f sc M l).bind ym).bind fun a=>((ja f sc M r).bind ym).bind fun b=>if a.length+b.length≤1000000 then some (a++b)else none,fun _ h=>by
  refine Ub h fun a ha h=>?_;refine Ub h fun b hb h=>?_;refine Ub ha fun x e1 ha=>?_;refine Ub hb fun y e2 hb=>?_;obtain⟨q,rfl⟩:=eV h;obtain rfl:=(Np x).2 _ ha;obtain rfl:=(Np y).2 _ hb;exact .add e1 e2 q⟩
 |_=>⟨none,fun _ h=>nomatch h⟩
noncomputable def qZ (f:Expr→Option D) (sc:NS) (M:MM) (e:Expr):Option (List D):=(MX f sc M e).1
theorem Jm {f:Expr→Option D} (hf:HE C A ah μ env m M f) {e:Expr} {l:List D} (h:qZ f env.scope.names M e=some l) (F:FI ah μ s.heap env m M) (S:St C s):wpAny (MD C) A (eval e env) (Ce C s (Pm ah μ) l) bL s:=by
 cases(MX f _ M e).2 _ h with
 |list h1 h2 h=>exact FQ hf h1 h2 h F S
 |add e1 e2 hl=>
  refine zI (aa (hf.rd _ _ _ e1 F S) (fun uw az cu=>aa (hf.rd _ _ _ e2 (F.keep cu.2.1) cu.1) (fun vQ aV dg=>?_) fun _ _ x=>x) fun _ _ x=>x);have kk:=cu.2.1.trans dg.2.1;refine aa (KN dg.1 hl (Ei F.tabm dg.2.1 cu.2.2) dg.2.2) (fun v bq q=>?_) fun _ _ x=>x;refine UI q fun gi fF a vs e hn r=>?_;exact⟨gi,kk.trans fF,a,vs,e,eO dg.1 kk hn,r⟩
theorem xM {x:Str} {v:Value} {l:List D} (fr:∀a∈μ,C.G.get? a=none) (F:FI ah μ s.heap env m M) (S:St C s) (hx:env.kindOf x=some .local) (q:Ce C s (Pm ah μ) l v az):
 wpAny (MD C) A (storeName env x v) (fun _ s'=>XS C ah μ env s (M.set x (.own l)) s') bL az:=by
 obtain⟨bu,bN,a,vs,rfl,hn,hl,hr⟩:=q;have dG:=F.keep bN;have ha:∃o,az.heap.get? a=some o:=by obtain⟨n,e⟩:=id hl;exact⟨_,e⟩
 have gn:=F.more bN hn ha S.live65 S.live72;have haμ:a∉μ:=fun q=>by refine Uh (F.liveμ a q) fun _ _ o e=>?_;rw[hn]at e;cases e
 have pa:ah a:=F.live.none S hn;refine Ud (gn.liveμ a (au ..)) fun n65 n72 _=>?_;have frG:∀b,s.heap.get? b=none→C.G.get? b=none:=fun b e=>by
  cases z:C.G.get? b with
  |none=>rfl
  |some o=>rw[S.g b o z]at e;cases e
 refine cJ hx dG.ns (fun h' hns hs=>?_) (by rw[F.kind];rfl);have hs':∀b o,b≠env.locals→az.heap.get? b=some o→h'.get? b=some o:=fun b o q e=>(hs.2 b q).trans e;refine Uo dG.ns fun oL esL epL eL dL _=>?_;refine Ud (F.liveμ _ F.nL) fun l1 l2 _=>?_;refine⟨⟨_,a::μ,dG.setOwn hx hns hs' pa haμ hl (Reps.mono (fun b o p e=>⟨e,p.1.1,fun q=>(aD.mp q).elim (fun q=>p.2 q) fun q=>p.1.2 q⟩) hr) n65 n72 (fun y e v q1 q2 q3=>by
  refine Ua (gn.loc y e q1 q2) fun u e1 e2=>?_;rw[q3]at e1;cases e1;exact e2) (fun y e q1 q2=>gn.cval y e q1 q2),fun b q=>(aD.mp q).elim (fun e=>.inr (e▸hn)) .inl,fun b q=>(aD.mp q).elim (fun e=>e▸frG _ hn) (fr b)⟩,bu.but eL (fun vs q t z=>by rw[dL]at z;cases z) (fr _ F.nL) l1 l2 hs',fun b o n1 n2 n3 e=>hs' b o (fun q=>n3 (q▸F.nL)) (bN.get b o n1 n2 e)⟩
end
set_option genCtorIdx true in
inductive Fl where
 |next
 |brk
 |ret (d:D)
noncomputable def sw (b:MM→Option (Fl×MM)) (x:Str):List D→MM→Option (Fl×MM)
 |[],M=>some (.next,M)
 |d::r,M=>match b (M.set x (.dat d))with
  |some (.next,M')=>sw b x r M'
  |some (.brk,M')=>some (.next,M')
  |some (.ret v,M')=>some (.ret v,M')
  |none=>none
noncomputable def Dh (t:MM→Option Bool) (b:MM→Option (Fl×MM)):Nat→MM→Option (Fl×MM)
 |0,_=>none
 |w+1,M=>match t M with
  |some false=>some (.next,M)
  |some true=>(match b M with
   |some (.next,M')=>Dh t b w M'
   |some (.brk,M')=>some (.next,M')
   |some (.ret v,M')=>some (.ret v,M')
   |none=>none)
  |none=>none
noncomputable def c7 (f:MM→Stmt→Option (Fl×MM)):List Stmt→MM→Option (Fl×MM)
 |[],M=>some (.next,M)
 |s::r,M=>match f M s with
  |some (.next,M')=>c7 f r M'
  |q=>q
noncomputable def Dq (f:MM→Expr→Option D) (M:MM) (e:Expr):Option (D×MM):=match f M e with
 |some d=>some (d,M)
 |none=>(f (frz M) e).map fun d=>(d,frz M)
noncomputable def wT (f:MM→Expr→Option D) (sc:NS) (x:Str) (e:Expr) (M:MM):Option MM:=
 match(if sc.lookup x==some .local then qZ (f M) sc M e else none)with
 |some l=>some (M.set x (.own l))
 |none=>(f M e).map fun d=>M.set x (.dat d)
noncomputable def O3 (f:MM→Expr→Option D) (sc:NS) (x:Str) (e:Expr) (M:MM):Option MM:=
 match wT f sc x e M with
 |some M'=>some M'
 |none=>wT f sc x e (frz M)
noncomputable def s6 (e:Expr):Bool:=!(mK (Rt e) 5&&(ju e).a.all (constantsAlone 8))
section
variable {C:aU} {A:Around} {s az aV:Shared} {ah:Addr→Prop} {μ dT:List Addr} {h h':Heap} {env:Env} {m:Str→Option Value} {M fK jy:MM} {k:Nat}
noncomputable def zj (ah:Addr→Prop) (h:Heap):Fl→Flow→Prop
 |.next,.next=>True
 |.brk,.brk=>True
 |.ret d,.ret v=>Rep ah h d v
 |_,_=>False
noncomputable def XF (C:aU) (ah:Addr→Prop) (μ:List Addr) (env:Env) (s:Shared) (fl:Fl) (M':MM):Flow→Shared→Prop:=fun r s'=>XS C ah μ env s M' s'∧zj ah s'.heap fl r
noncomputable def HX (C:aU) (A:Around) (ah:Addr→Prop) (env:Env) (f:MM→Option (Fl×MM)) (run:Sem Flow):Prop:=
 ∀(M M':MM) (fl:Fl) (m:Str→Option Value) (μ:List Addr) (s:Shared),f M=some (fl,M')→(∀a∈μ,C.G.get? a=none)→FI ah μ s.heap env m M→St C s→wpAny (MD C) A run (XF C ah μ env s fl M') bL s
theorem XS.less (S:St C s) (sub:∀a∈dT,a∈μ) (x:XS C ah dT env s M az):XS C ah μ env s M az:=x.trans S (fun a q=>.inl (sub a q)) fun _ _ _ _ _ e=>e
theorem XF.less {fl:Fl} {r:Flow} (S:St C s) (sub:∀a∈dT,a∈μ) (x:XF C ah dT env s fl M r az):XF C ah μ env s fl M r az:=⟨x.1.less S sub,x.2⟩
theorem XS.on {t:Sem Flow} {fl:Fl} (x:XS C ah μ env s fK az) (f:∀m dT,(∀a∈dT,C.G.get? a=none)→FI ah dT az.heap env m fK→St C az→wpAny (MD C) A t (XF C ah dT env az fl jy) bL az):wpAny (MD C) A t (XF C ah μ env s fl jy) bL az:=by
 refine Uc x.ex fun m' μ' F h1 h2=>?_;exact aa (f m' μ' h2 F x.S) (fun r aV q=>⟨q.1.trans x.S h1 x.k,q.2⟩) fun _ _ x=>x
theorem Bf {f:MM→Stmt→Option (Fl×MM)} {st:Stmt} {r:List Stmt} {M M':MM} {fl:Fl} (h:c7 f (st::r) M=some (fl,M')) {G:Prop}
 (k1:∀fK,f M st=some (.next,fK)→c7 f r fK=some (fl,M')→G) (k2:fl≠.next→f M st=some (fl,M')→G):G:=by
 replace h:(match f M st with|some (.next,fK)=>c7 f r fK|q=>q)=some (fl,M'):=h;generalize f M st=o at h k1 k2;cases o with
 |none=>cases h
 |some q=>cases q with
  |mk a fK=>cases a with
   |next=>exact k1 _ rfl h
   |_=>cases h;exact k2 (fun e=>nomatch e) rfl
theorem JW {b:MM→Option (Fl×MM)} {x:Str} {d:D} {r:List D} {M M':MM} {fl:Fl} (h:sw b x (d::r) M=some (fl,M')) {G:Prop} (k1:∀fK,b (M.set x (.dat d))=some (.next,fK)→sw b x r fK=some (fl,M')→G)
 (k2:b (M.set x (.dat d))=some (.brk,M')→fl=.next→G) (k3:∀v,b (M.set x (.dat d))=some (.ret v,M')→fl=.ret v→G):G:=by
 replace h:(match b (M.set x (.dat d))with|some (.next,M')=>sw b x r M'|some (.brk,M')=>some (.next,M')|some (.ret v,M')=>some (.ret v,M')|none=>none)=some (fl,M'):=h;generalize b (M.set x (.dat d))=o at h k1 k2 k3;cases o with
 |none=>cases h
 |some q=>cases q with
  |mk a fK=>cases a with
   |next=>exact k1 _ rfl h
   |brk=>cases h;exact k2 rfl rfl
   |ret v=>cases h;exact k3 _ rfl rfl
theorem JV {t:MM→Option Bool} {b:MM→Option (Fl×MM)} {w:Nat} {M M':MM} {fl:Fl} (h:Dh t b (w+1) M=some (fl,M')) {G:Prop} (k0:t M=some false→M=M'→fl=.next→G) (k1:∀fK,t M=some true→b M=some (.next,fK)→Dh t b w fK=some (fl,M')→G)
 (k2:t M=some true→b M=some (.brk,M')→fl=.next→G) (k3:∀v,t M=some true→b M=some (.ret v,M')→fl=.ret v→G):G:=by
 replace h:(match t M with|some false=>some (.next,M)|some true=>(match b M with|some (.next,M')=>Dh t b w M'|some (.brk,M')=>some (.next,M')|some (.ret v,M')=>some (.ret v,M')|none=>none)|none=>none)=some (fl,M'):=h;generalize t M=o at h k0 k1 k2 k3;generalize b M=o' at h k1 k2 k3;cases o with
 |none=>cases h
 |some c=>cases c with
  |false=>cases h;exact k0 rfl rfl rfl
  |true=>cases o' with
   |none=>cases h
   |some q=>cases q with
    |mk a fK=>cases a with
     |next=>exact k1 _ rfl rfl h
     |brk=>cases h;exact k2 rfl rfl rfl
     |ret v=>cases h;exact k3 _ rfl rfl rfl
theorem pJ {f:MM→Stmt→Option (Fl×MM)} {st:Stmt} {r:List Stmt} {M M':MM} (h:c7 f (st::r) M=some (.next,M')) {G:Prop}
 (k1:∀fK,f M st=some (.next,fK)→c7 f r fK=some (.next,M')→G):G:=Bf h k1 fun n _=>(n rfl).elim
theorem qN {f:MM→Stmt→Option (Fl×MM)} (hf:∀st,HX C A ah env (fun M=>f M st) (exec st env)):∀ss,HX C A ah env (c7 f ss) (execs ss env)
 |[]=>fun M M' fl m μ s h fr F S=>by
  cases h;exact fS ⟨XS.refl F S fr,trivial⟩
 |st::r=>fun M M' fl m μ s h fr F S=>by
  refine bn ?_;refine Bf h (fun fK e1 h=>?_) fun n e1=>?_
  ·refine aa (hf st _ _ _ _ _ _ e1 fr F S) (fun w az q=>?_) fun _ _ x=>x
   obtain⟨x,y⟩:=q;cases w<;>first|exact y.elim|skip
   exact x.on fun pW dT BG dG bu=>qN hf r _ _ _ _ _ _ h BG dG bu
  ·refine aa (hf st _ _ _ _ _ _ e1 fr F S) (fun w az q=>?_) fun _ _ x=>x
   obtain⟨x,y⟩:=q;cases fl with
   |next=>exact(n rfl).elim
   |brk=>cases w<;>first|exact y.elim|exact⟨x,y⟩
   |ret d=>cases w<;>first|exact y.elim|exact⟨x,y⟩
theorem GX {f:MM→Expr→Option D} (hf:∀μ m M,HE C A ah μ env m M (f M)) {e:Expr} {d:D} (h:Dq f M e=some (d,fK)) (fr:∀a∈μ,C.G.get? a=none) (F:FI ah μ s.heap env m M) (S:St C s):
 ∃dT,(∀a∈dT,a∈μ)∧FI ah dT s.heap env m fK∧wpAny (MD C) A (eval e env) (Post C s (Pm ah dT) d) bL s:=by
 unfold Dq at h;split at h
 ·rename_i e1;cases h
  exact⟨μ,fun _ q=>q,F,hf _ _ _ _ _ _ e1 F S⟩
 ·refine Um h fun d' e1 h=>?_
  cases h;refine Ua F.frz fun dT sub dG=>?_;exact⟨dT,sub,dG,hf _ _ _ _ _ _ e1 dG S⟩
theorem Rep.top {d:D} {v:Value} (r:Rep (Pm ah μ) h d v):Rep ah h d v:=Rep.mono (fun _ _ p e=>⟨e,p.1⟩) r
theorem MO {f:MM→Expr→Option D} (hf:∀μ m M,HE C A ah μ env m M (f M)) {e:Expr} {p:Pos}:HX C A ah env (fun M=>(Dq f M e).map fun q=>(Fl.ret q.1,q.2)) (exec (.Return (some e) p) env):=by
 intro M M' fl m μ s h fr F S;refine Um h fun q e1 e2=>?_;cases e2;refine Ul (GX hf e1 fr F S) fun dT sub dG w=>?_;refine nU (aa w (fun v az cu=>?_) fun _ _ x=>x);exact⟨((XS.refl (dG.keep cu.2.1) cu.1 fun a q=>fr a (sub a q)).keep cu.1 cu.2.1).less S sub,cu.2.2.top⟩
noncomputable def Tu (c:Option Bool) (a b:Option (Fl×MM)):Option (Fl×MM):=c.bind fun c=>if c=true then a else b
theorem QV {t:MM→Option Bool} {b o:MM→Option (Fl×MM)} {te:Expr} {bs os:List Stmt} {p:Pos} (ht:∀μ m M (r:Bool) (s:Shared),t M=some r→FI ah μ s.heap env m M→St C s→wpAny (MD C) A (isTrue te env (eval te env)) (PostB C s r) bL s)
 (hb:HX C A ah env b (execs bs env)) (ho:HX C A ah env o (execs os env)):HX C A ah env (fun M=>Tu (t M) (b M) (o M)) (exec (.If te bs os p) env):=by
 intro M M' fl m μ s h fr F S;refine Ub h fun c e1 h=>?_;refine U1 (aa (ht _ _ _ _ _ e1 F S) (fun c' az q=>?_) fun _ _ x=>x);obtain⟨rfl,bu,bN⟩:=q;cases c'
 ·exact aa (ho _ _ _ _ _ _ h fr (F.keep bN) bu) (fun r aV q=>⟨q.1.keep bu bN,q.2⟩) fun _ _ x=>x
 ·exact aa (hb _ _ _ _ _ _ h fr (F.keep bN) bu) (fun r aV q=>⟨q.1.keep bu bN,q.2⟩) fun _ _ x=>x
theorem Ef {t:MM→Option Bool} {b:MM→Option (Fl×MM)} {te:Expr} {bs:List Stmt} {p:Pos} {w:Nat} (ht:∀μ m M (r:Bool) (s:Shared),t M=some r→FI ah μ s.heap env m M→St C s→wpAny (MD C) A (isTrue te env (eval te env)) (PostB C s r) bL s)
 (hb:HX C A ah env b (execs bs env)):HX C A ah env (Dh t b w) (exec (.While te bs [] p) env):=by
 intro M M' fl m μ s h fr F S;refine wpAny_While ?_;have key:∀w M m μ s,Dh t b w M=some (fl,M')→(∀a∈μ,C.G.get? a=none)→FI ah μ s.heap env m M→St C s→
  codeAny (MD C) A (.whileLoop te bs [] env) (fun r s'=>match r with|.ok f=>XF C ah μ env s fl M' f s'|.error _=>False) s:=by
  intro w;induction w with
  |zero=>intro M m μ s h;cases h
  |succ w ih=>
   intro M m μ s h fr F S;have go:∀{yD:Fl} {fK:MM},t M=some true→b M=some (yD,fK)→(∀r aV,XS C ah μ env s fK aV→zj ah aV.heap yD r→(match r with
    |.next|.cont=>codeAny (MD C) A (.whileLoop te bs [] env) (fun r s'=>match r with|.ok f=>XF C ah μ env s fl M' f s'|.error _=>False) aV
    |.brk=>XF C ah μ env s fl M' .next aV
    |.ret v=>XF C ah μ env s fl M' (.ret v) aV))→codeAny (MD C) A (.whileLoop te bs [] env) (fun r s'=>match r with|.ok f=>XF C ah μ env s fl M' f s'|.error _=>False) s:=fun{yD fK} e1 e2 k=>by
    refine Lf (aa (ht _ _ _ _ _ e1 F S) (fun c az q=>?_) fun _ _ x=>x);(refine Ud q fun q0 bu bN=>?_;subst q0);rw[if_pos rfl];refine aa (hb _ _ _ _ _ _ e2 fr (F.keep bN) bu) (fun r aV q=>?_) fun _ _ x=>x;have z:=k r aV (q.1.keep bu bN) q.2;cases r<;>exact z
   refine JV h (fun e1 e2 e3=>?_) (fun fK e1 e2 h=>?_) (fun e1 e2 e3=>?_) fun v e1 e2 e3=>?_
   ·subst e2 e3
    refine Lf (aa (ht _ _ _ _ _ e1 F S) (fun c az q=>?_) fun _ _ x=>x);(refine Ud q fun q0 bu bN=>?_;subst q0);rw[if_neg (by decide)];exact fS ⟨(XS.refl (F.keep bN) bu fr).keep bu bN,trivial⟩
   ·refine go e1 e2 fun r aV x y=>?_
    cases r with
    |next=>
     refine Uc x.ex fun m' μ' F' h1 h2=>?_;refine wI (ih _ _ _ _ h h2 F' x.S) fun r bq hr=>?_;cases r with
     |ok f=>exact⟨hr.1.trans x.S h1 x.k,hr.2⟩
     |error e=>exact hr
    |_=>exact y.elim
   ·subst e3
    refine go e1 e2 fun r aV x y=>?_;cases r with
    |brk=>exact⟨x,trivial⟩
    |_=>exact y.elim
   ·subst e3
    refine go e1 e2 fun r aV x y=>?_;cases r with
    |ret w=>exact⟨x,y⟩
    |_=>exact y.elim
 refine wI (key w M m μ s h fr F S) fun r s' hr=>?_;cases r with
 |ok f=>exact hr
 |error e=>exact hr.elim
end
section
variable {C:aU} {A:Around} {s az aV:Shared} {ah:Addr→Prop} {μ dT:List Addr} {h h':Heap} {env:Env} {m:Str→Option Value} {M fK jy:MM} {k:Nat}
noncomputable abbrev xp (ah:Addr→Prop) (I:Addr):Addr→Prop:=fun a=>ah a∧a≠I
theorem FI.minus {I:Addr} (F:FI ah μ h env m M) (k:Keep h h') (n:h.get? I=none) (l:∃o,h'.get? I=some o):FI (xp ah I) μ h' env m M:=by
 have F':=F.keep k;have pq:∀b o,Pm ah μ b→h.get? b=some o→h'.get? b=some o∧Pm (xp ah I) μ b:=fun b o p e=>⟨(tr F.tabm k b o p e).1,⟨p.1,fun q=>by rw[q,n]at e;cases e⟩,p.2⟩;refine⟨fun a q=>?_,F'.liveμ,⟨fun q=>F.tab.1 q.1,fun q=>F.tab.2 q.1⟩,F.kind,F.glob,F.bi,F'.ns,F.nL,fun x e q r=>?_,F'.cell,F.st,F.inj,fun x e q r=>?_,F.ownInj⟩
 ·by_cases ha:a=I
  ·subst ha;exact .inr (.inr l)
  ·exact F'.live a fun p=>q ⟨p,ha⟩
 ·refine Ua (F.loc x e q r) fun v e1 e2=>?_
  refine⟨v,e1,?_⟩;cases e with
  |dat d=>exact Rep.mono pq e2
  |own l=>
   (refine Ug e2 fun b vs q0 p0 hb hl hr=>?_;subst q0);refine Uh (F.liveμ b hb) fun n1 n2 o eo=>?_;exact⟨b,vs,rfl,⟨p0,fun z=>by rw[z,n]at eo;cases eo⟩,hb,hl.at fun o e=>k.get _ _ n1 n2 e,Reps.mono pq hr⟩
 ·(refine Ui (F.cval x e q r) fun c v d e1 q0 e3 e4=>?_;refine Ua q0 fun o g1 g2=>?_)
  refine Ue (F.cell x r) fun c' v' f1 n1 n2 _=>?_;rw[e1]at f1;cases f1;exact⟨c,v,d,e1,⟨o,k.get _ _ n1 n2 g1,g2⟩,e3,Rep.mono pq e4⟩
theorem FI.plus {I:Addr} (F:FI (xp ah I) μ h env m M) (tab:¬ah 65∧¬ah 72):FI ah μ h env m M:=by
 have pq:∀b o,Pm (xp ah I) μ b→h.get? b=some o→h.get? b=some o∧Pm ah μ b:=fun b o p e=>⟨e,p.1.1,p.2⟩;refine⟨fun a q=>F.live a fun p=>q p.1,F.liveμ,tab,F.kind,F.glob,F.bi,F.ns,F.nL,fun x e q r=>?_,F.cell,F.st,F.inj,fun x e q r=>?_,F.ownInj⟩
 ·refine Ua (F.loc x e q r) fun v e1 e2=>?_
  refine⟨v,e1,?_⟩;cases e with
  |dat d=>exact Rep.mono pq e2
  |own l=>(refine Ug e2 fun b vs q0 p0 hb hl hr=>?_;subst q0);exact⟨b,vs,rfl,p0.1,hb,hl,Reps.mono pq hr⟩
 ·refine Ui (F.cval x e q r) fun c v d e1 e2 e3 e4=>?_
  exact⟨c,v,d,e1,e2,e3,Rep.mono pq e4⟩
theorem FI.off {I:Addr} (F:FI (xp ah I) μ h env m M) (hI:I∉μ) (hc:∀x c,env.kindOf x=some .cell∨env.kindOf x=some .free→env.cells.lookup x=some c→c≠I)
 (hs:∀b o,b≠I→h.get? b=some o→h'.get? b=some o) (hlv:ah I∨∃o,h'.get? I=some o) (P':Addr→Prop) (hP:P'=xp ah I∧(∃o,h'.get? I=some o)∨P'=ah∧ah I∧(¬ah 65∧¬ah 72)):FI P' μ h' env m M:=by
 have sub:∀b,xp ah I b→P' b:=fun b q=>by rcases hP with⟨rfl,_⟩|⟨rfl,_⟩;exact q;exact q.1
 have pq:∀b o,Pm (xp ah I) μ b→h.get? b=some o→h'.get? b=some o∧Pm P' μ b:=fun b o p e=>⟨hs b o p.1.2 e,sub b p.1,p.2⟩;refine⟨fun a q=>?_,fun a q=>?_,?_,F.kind,F.glob,F.bi,?_,F.nL,fun x e q r=>?_,fun x r=>?_,F.st,F.inj,fun x e q r=>?_,F.ownInj⟩
 ·by_cases ha:a=I
  ·subst ha
   rcases hP with⟨rfl,z⟩|⟨rfl,z,_⟩
   ·exact .inr (.inr z)
   ·exact absurd z q
  ·have:¬xp ah I a:=fun p=>q (sub a p)
   rcases F.live a this with e|e|⟨o,e⟩
   ·exact .inl e
   ·exact .inr (.inl e)
   ·exact .inr (.inr ⟨o,hs a o ha e⟩)
 ·refine Uh (F.liveμ a q) fun n1 n2 o e=>?_
  exact⟨n1,n2,o,hs a o (fun z=>hI (z▸q)) e⟩
 ·rcases hP with⟨rfl,_⟩|⟨rfl,_,z⟩
  ·exact F.tab
  ·exact z
 ·refine Uk F.ns fun o es ep e z=>?_;exact⟨o,es,ep,hs _ _ (fun z=>hI (z▸F.nL)) e,z⟩
 ·refine Ua (F.loc x e q r) fun v e1 e2=>?_
  refine⟨v,e1,?_⟩;cases e with
  |dat d=>exact Rep.mono pq e2
  |own l=>(refine Ug e2 fun b vs q0 p0 hb hl hr=>?_;subst q0);exact⟨b,vs,rfl,sub b p0,hb,hl.at fun o e=>hs _ _ p0.2 e,Reps.mono pq hr⟩
 ·refine Up (F.cell x r) fun c v e1 n1 n2 o e2 e3=>?_
  exact⟨c,v,e1,n1,n2,o,hs _ _ (hc x c r e1) e2,e3⟩
 ·(refine Ui (F.cval x e q r) fun c v d e1 q0 e3 e4=>?_;refine Ua q0 fun o g1 g2=>?_)
  exact⟨c,v,d,e1,⟨o,hs _ _ (hc x c r e1) g1,g2⟩,e3,Rep.mono pq e4⟩
structure LI (C:aU) (ah:Addr→Prop) (μ:List Addr) (I:Addr) (bR:Heap) (env:Env) (M:MM) (s:Shared):Prop where
 ex:∃m μ',FI (xp ah I) μ' s.heap env m M∧(∀a∈μ',a∈μ∨bR.get? a=none)∧∀a∈μ',C.G.get? a=none
 S:St C s
 k:∀b o,b≠65→b≠72→b∉μ→b≠I→bR.get? b=some o→s.heap.get? b=some o
theorem NW {x:Str} {px:Pos} {it:Value} {bs:List Stmt} {b:MM→Option (Fl×MM)} {ds:List D} {I:Addr} {fp:List Addr} {Pv:Nat→Value→Prop} {Si:Nat→Heap→Prop} {bR:Heap} {R:Result→Shared→Prop} {fl:Fl} {M':MM}
 (hf:env.func.isSome=true) (hx:bP env.scope.names x=true) (hb:HX C A (xp ah I) env b (execs bs env)) (W:Walks PySem.Challenge.pw_uc0055_01 C.w A I fp [I] ds.length Pv Si) (tab:¬ah 65∧¬ah 72) (pI:ah I) (hIμ:I∉μ) (hI2:∃o,bR.get? I=some o) (hIG:C.G.get? I=none) (n65:I≠65) (n72:I≠72)
 (hc:∀x c,env.kindOf x=some .cell∨env.kindOf x=some .free→env.cells.lookup x=some c→c≠I)
 (hfp:∀b∈fp,Pm ah μ b∧∃o,bR.get? b=some o) (hitem:∀i d v,ds[i]?=some d→Pv i v→Rep (fun b=>Pm ah μ b∧b≠I) bR d v) (hno:∀i h,Si i h→∃o,h.get? I=some o∧iX o)
 (hR:∀s' r,(∃m μ',FI ah μ' s'.heap env m M'∧(∀a∈μ',a∈μ∨bR.get? a=none)∧∀a∈μ',C.G.get? a=none)→St C s'→(∀b o,b≠65→b≠72→b∉μ→b≠I→bR.get? b=some o→s'.heap.get? b=some o)→zj ah s'.heap fl r→R (.ok r) s'):
 ∀(r:List D) (i:Nat) (M:MM) (s:Shared),ds.drop i=r→i≤ds.length→LI C ah μ I bR env M s→Si i s.heap→sw b x r M=some (fl,M')→codeAny (MD C) A (.forLoop (.Name x px) (.ref I) bs [] env) R s:=by
 intro r;induction r with
 |nil=>
  intro i M s hd hile L hS hg;cases hg;have:ds.length≤i:=by simpa using hd
  have hieq:Si ds.length s.heap:=by rw[show ds.length=i by(exact xc this hile)];exact hS
  refine Uc L.ex fun pW dT F h1 h2=>?_;have hI1:I∉dT:=fun q=>by
   rcases h1 I q with z|z
   ·exact hIμ z
   ·obtain⟨o,e⟩:=hI2;rw[z]at e;cases e
  refine Bc (W.done s _ _ hieq fun h' tk hk=>?_);have hk':∀b o,b≠I→s.heap.get? b=some o→h'.get? b=some o:=fun b o q e=>hk b o (by simpa using q) e;refine Ua (hno _ _ hieq) fun oI eI nI=>?_;refine fS (hR _ _ ⟨pW,dT,F.off hI1 hc hk' (.inl pI) ah (.inr ⟨rfl,pI,tab⟩),h1,h2⟩ (L.S.but eI nI hIG n65 n72 hk') (fun b o q1 q2 q3 q4 e=>hk' b o q4 (L.k b o q1 q2 q3 q4 e)) trivial)
 |cons d r ih=>
  intro i M s hd hile L hS hg;refine Ud (ou hd) fun hi hilt hd'=>?_;refine Uc L.ex fun pW dT F h1 h2=>?_;have hI1:I∉dT:=fun q=>by
   rcases h1 I q with z|z
   ·exact hIμ z
   ·obtain⟨o,e⟩:=hI2;rw[z]at e;cases e
  refine Bc (W.item i s _ _ hilt hS fun v h' tk hPv hS' hk=>?_);have hk':∀b o,b≠I→s.heap.get? b=some o→h'.get? b=some o:=fun b o q e=>hk b o (by simpa using q) e;refine Ua (hno _ _ hS) fun oI eI nI=>?_;refine Ua (hno _ _ hS') fun oI' eI' _=>?_;have bu:St C {s with heap:=h',toks:=tk}:=L.S.but eI nI hIG n65 n72 hk';have dG:FI (xp ah I) dT h' env pW M:=F.off hI1 hc hk' (.inl pI) _ (.inl ⟨rfl,oI',eI'⟩);have notμ:∀b o,b∉μ→bR.get? b=some o→b∉dT:=fun b o n e q=>by
   rcases h1 b q with z|z
   ·exact n z
   ·rw[z]at e;cases e
  have hv:Rep (Pm (xp ah I) dT) h' d v:=Rep.mono (fun b o p e=>⟨hk' b o p.2 (L.k b o (fun z=>tab.1 (z▸p.1.1)) (fun z=>tab.2 (z▸p.1.1)) p.1.2 p.2 e),⟨p.1.1,p.2⟩,notμ b o p.1.2 e⟩) (hitem i d v hi hPv);refine iM (a:=()) rfl ?_;refine bT (aa (iU (s:={s with heap:=h',toks:=tk}) h2 dG bu hf hx hv) (fun _ az xw=>?_) fun _ _ x=>x);have fpk:∀b∈fp,∀o,h'.get? b=some o→az.heap.get? b=some o:=fun b q o e=>by
   obtain⟨p,o2,e2⟩:=hfp b q;exact xw.k b o (fun z=>tab.1 (z▸p.1)) (fun z=>tab.2 (z▸p.1)) (notμ b o2 p.2 e2) e
  have tJ:Si (i+1) az.heap:=W.frame _ _ _ hS' fpk;refine Uc xw.ex fun yj rz gn g1 g2=>?_;have mμ:∀a∈rz,a∈μ∨bR.get? a=none:=fun a q=>by
   have back:h'.get? a=none→a∈μ∨bR.get? a=none:=fun z=>by
    by_cases q1:a∈μ
    ·exact .inl q1
    ·refine .inr ?_
     cases z2:bR.get? a with
     |none=>rfl
     |some o=>
      by_cases q2:a=I
      ·subst q2;rw[eI']at z;cases z
      ·have n1:a≠65:=fun y=>bu.live65 (y▸z)
       have n2:a≠72:=fun y=>bu.live72 (y▸z);have:=hk' a o q2 (L.k a o n1 n2 q1 q2 z2);rw[z]at this;cases this
   rcases g1 a q with z|z
   ·exact h1 a z
   ·exact back z
  have kk:∀b o,b≠65→b≠72→b∉μ→b≠I→bR.get? b=some o→az.heap.get? b=some o:=fun b o q1 q2 q3 q4 e=>xw.k b o q1 q2 (notμ b o q3 e) (hk' b o q4 (L.k b o q1 q2 q3 q4 e));have yc:∀b o,b∉μ→bR.get? b=some o→b∉rz:=fun b o n e q=>by
   rcases mμ b q with z|z
   ·exact n z
   ·rw[z]at e;cases e
  have after:∀{fl' xf f aV},XF C (xp ah I) rz env az fl' xf f aV→LI C ah μ I bR env xf aV∧Si (i+1) aV.heap:=by
   intro fl' xf f aV q;refine Uc q.1.ex fun FJ uL jA u1 u2=>?_;refine⟨⟨⟨FJ,uL,jA,fun a z=>?_,u2⟩,q.1.S,fun b o q1 q2 q3 q4 e=>q.1.k b o q1 q2 (yc b o q3 e) (kk b o q1 q2 q3 q4 e)⟩,W.frame _ _ _ tJ fun b z o e=>?_⟩
   ·rcases u1 a z with y|y
    ·exact mμ a y
    ·by_cases q1:a∈μ
     ·exact .inl q1
     ·refine .inr ?_
      cases z2:bR.get? a with
      |none=>rfl
      |some o=>
       have n1:a≠65:=fun w=>xw.S.live65 (w▸y);have n2:a≠72:=fun w=>xw.S.live72 (w▸y);by_cases q2:a=I
       ·refine Ua (hno _ _ tJ) fun o' e' _=>?_
        subst q2;rw[e']at y;cases y
       ·have:=kk a o n1 n2 q1 q2 z2
        rw[y]at this;cases this
   ·obtain⟨p,o2,e2⟩:=hfp b z
    exact q.1.k b o (fun w=>tab.1 (w▸p.1)) (fun w=>tab.2 (w▸p.1)) (yc b o2 p.2 e2) e
  have fin:∀{fl' xf f aV} (f':Flow),XF C (xp ah I) rz env az fl' xf f aV→xf=M'→zj ah aV.heap fl f'→R (.ok f') aV:=by
   intro fl' xf f aV f' q e hr;subst e;obtain⟨L',_⟩:=after q;refine Uc L'.ex fun FJ uL jA u1 u2=>?_;exact hR _ _ ⟨FJ,uL,jA.plus tab,u1,u2⟩ L'.S L'.k hr
  refine JW hg (fun xf e1 hg=>?_) (fun e1 e3=>?_) fun w e1 e3=>?_
  ·refine aa (hb _ _ _ _ _ _ e1 g2 gn xw.S) (fun f aV q=>?_) fun _ _ x=>x
   have y:=q.2;cases f with
   |next=>
    obtain⟨L',hS''⟩:=after q;exact ih (i+1) xf aV hd' hilt L' hS'' hg
   |_=>exact y.elim
  ·refine aa (hb _ _ _ _ _ _ e1 g2 gn xw.S) (fun f aV q=>?_) fun _ _ x=>x
   have y:=q.2;cases f with
   |brk=>exact fin .next q rfl (e3▸trivial)
   |_=>exact y.elim
  ·refine aa (hb _ _ _ _ _ _ e1 g2 gn xw.S) (fun f aV q=>?_) fun _ _ x=>x
   have y:=q.2;cases f with
   |ret _=>exact fin (.ret _) q rfl (by rw[e3];exact Rep.mono (fun b o p e=>⟨e,p.1⟩) y)
   |_=>exact y.elim
theorem NV {x:Str} {px p:Pos} {it:Expr} {bs:List Stmt} {b:MM→Option (Fl×MM)} {g:MM→Option (List D)} (hf:env.func.isSome=true) (hA:RA A k) (hx:bP env.scope.names x=true) (hs:gK it=false)
 (hI:∀μ m M (ds:List D) (s:Shared),g M=some ds→FI ah μ s.heap env m M→St C s→wpAny (MD C) A (eval it env) (fun x az=>wpAny (MD C) A (pyIter x) (PostI C A s (Pm ah μ) ds) bL az) bL s)
 (hb:∀I,HX C A (xp ah I) env b (execs bs env)):HX C A ah env (fun M=>(g M).bind fun ds=>sw b x ds M) (exec (.For (.Name x px) it bs [] p) env):=by
 intro M M' fl m μ s h fr F S;refine Ub h fun ds e1 h=>?_;refine wpAny_For (aa (hI _ _ _ _ _ e1 F S) (fun xv az cu=>aa cu (fun itv aV dg=>?_) fun _ _ x=>x) fun _ _ x=>x) (oq hs);obtain⟨eA,d9,⟨I,fp,Pv,Si,rfl,hIn,W,h0,hfp,hitem,hno⟩,hlen⟩:=dg;have hIfp:I∈fp:=W.sub _ (by simp);have hIl:=(hfp I hIfp).2;have hIμ:I∉μ:=(hfp I hIfp).1.2;have n65:I≠65:=fun z=>S.live65 (z▸hIn);have n72:I≠72:=fun z=>S.live72 (z▸hIn);have hIG:C.G.get? I=none:=by
  cases z:C.G.get? I with
  |none=>rfl
  |some o=>rw[S.g I o z]at hIn;cases hIn
 have hc:∀x c,env.kindOf x=some .cell∨env.kindOf x=some .free→env.cells.lookup x=some c→c≠I:=fun x c q e z=>by
  refine Up (F.cell x q) fun c' v e1 _ _ o e2 _=>?_;rw[e]at e1;cases e1;rw[z,hIn]at e2;cases e2
 have loop:=NW (R:=fun r s'=>match r with|.ok f=>XF C ah μ env s fl M' f s'|.error _=>False) (px:=px) (it:=.ref I) (fl:=fl) (M':=M') hf hx (hb I) W F.tab (hfp I hIfp).1.1 hIμ hIl hIG n65 n72 hc hfp hitem hno ?_ ds 0 M aV rfl (d5 _)
  ⟨⟨m,μ,F.minus d9 hIn hIl,fun a q=>.inl q,fr⟩,eA,fun _ _ _ _ _ _ e=>e⟩ h0 h
 ·refine wI loop fun r s' hr=>?_
  cases r with
  |ok f=>exact hr
  |error e=>exact hr.elim
 ·intro s' r hex S' kk hr
  refine Uc hex fun m' μ' F' u1 u2=>?_;refine⟨⟨⟨m',μ',F',fun a q=>?_,u2⟩,S',fun b o q1 q2 q3 e=>kk b o q1 q2 q3 (fun z=>by rw[z,hIn]at e;cases e) (d9.get b o q1 q2 e)⟩,hr⟩;rcases u1 a q with z|z
  ·exact .inl z
  ·exact .inr (eO eA d9 z)
end
section
variable {C:aU} {A:Around} {s az aV:Shared} {ah:Addr→Prop} {μ dT:List Addr} {h h':Heap} {env:Env} {m:Str→Option Value} {M fK jy:MM} {k:Nat} {X:Cx}
theorem He (cx:CxOK C X k) {n:Nat} {elt:Expr} {gens:List Comprehension} {scope:Scope} {pos pp:Pos} {d:D} {use:Option (Value→Sem Unit)} {Q:Value→Shared→Prop} (hA:RA A k) (h:ev (n+1) X env.scope.names M (.ListComp elt gens scope pos)=some d) (F:FI ah μ s.heap env m M) (S:St C s)
 (hRR:∀l D' Cc az,d=.list l→s.heap.get? D'=none→s.heap.get? Cc=none→D'≠Cc→(∃m,az.heap.Ns Cc m)→Keep s.heap az.heap→St C az→(∃ys,az.heap.PlainList D' ys∧Reps (Pm ah (D'::Cc::μ)) az.heap l ys.toList)→compPost (MD C) A bL use Q (.ref D') Cc (.ok .next) az):
 wpAny (MD C) A (comprehension (.ListComp elt gens scope pos) scope env pp (newList []) (firstAsync gens) (firstIter gens env) use) Q bL s:=by
 have h':(if nF env.scope.names scope=true then(SA (yM X n) env.scope.names M elt scope gens).1 else none)=some d:=h;obtain⟨hc,h'⟩:=dw h';have hc':=ov hc;refine Ud (LF (ah:=ah) (env:=env) (scope:=scope) (yM X n) cx hA rfl F.kind) fun iE iT iI=>?_;cases(SA (yM X n) _ _ elt scope gens).2 _ h' with
 |one hx hs e1 e2 hl=>
  refine f7 rfl (oq hs) (ip (vj F hc')) hc'.kind hc'.loc (aa ((yM X n).oI cx hA _ _ _ e1 F S) (fun xv az bV=>aa bV (fun itv aV bR=>?_) fun _ _ e=>e) fun _ _ e=>e);exact Hw (RR:=fun acc Cc=>compPost (MD C) A bL use Q acc Cc) hA hc' hx F S bR iE iT e2 hl fun D' Cc az a b c d e f g _=>hRR _ D' Cc az rfl a b c d e f g
 |two hx hy hyx hs hs2 e1 e2 hl=>
  refine f7 rfl (oq hs) (ip (vj F hc')) hc'.kind hc'.loc (aa ((yM X n).oI cx hA _ _ _ e1 F S) (fun xv az bV=>aa bV (fun itv aV bR=>?_) fun _ _ e=>e) fun _ _ e=>e);exact Hv (fT:=fun _ _=>none) (RR:=fun acc Cc=>compPost (MD C) A bL use Q acc Cc) hA hA.mark hs2 hc' hx hy hyx F S bR iE (fun _ _ _ _=>HT.no) iI e2 hl fun D' Cc az a b c d e f g _=>hRR _ D' Cc az rfl a b c d e f g
theorem Mw (cx:CxOK C X k) {n:Nat} {elt:Expr} {gens:List Comprehension} {scope:Scope} {pos pp px:Pos} {x:Str} {d:D} (hA:RA A k) (h:ev (n+1) X env.scope.names M (.ListComp elt gens scope pos)=some d) (fr:∀a∈μ,C.G.get? a=none) (F:FI ah μ s.heap env m M) (S:St C s)
 (hf:env.func.isSome=true) (hx:bP env.scope.names x=true):
 wpAny (MD C) A (comprehension (.ListComp elt gens scope pos) scope env pp (newList []) (firstAsync gens) (firstIter gens env) (some (assign (.Name x px) env))) (fun _ s'=>XS C ah μ env s (M.set x (.dat d)) s') bL s:=by
 refine He cx hA h F S fun l D' Cc az hd hD hC hDC ⟨mC,hn⟩ bN bu ⟨ys,hl,hr⟩=>?_;subst hd;have hlC:∃o,az.heap.get? Cc=some o:=by refine Uk hn fun o _ _ e _=>?_;exact⟨o,e⟩
 have dG:=F.minus bN hC hlC;have pC:ah Cc:=F.live.none S hC;have pD:ah D':=F.live.none S hD;have nμ:∀a,s.heap.get? a=none→a∉μ:=fun a e q=>by refine Uh (F.liveμ a q) fun _ _ o e'=>?_;rw[e]at e';cases e'
 have hv:Rep (Pm (xp ah Cc) μ) az.heap (.list l) (.ref D'):=⟨D',ys,rfl,⟨⟨pD,hDC⟩,nμ _ hD⟩,hl,Reps.mono (fun b o p e=>⟨e,⟨p.1,fun z=>p.2 (z▸af _ (au ..))⟩,fun z=>p.2 (af _ (af _ z))⟩) hr⟩;show wpAny (MD C) A (assign (.Name x px) env (.ref D')) (fun _ s''=>∃m,s''.heap.Ns Cc m∧∀h',du Cc s''.heap h'→XS C ah μ env s (M.set x (.dat (.list l))) {s'' with heap:=h'}) bL az;refine bT (aa (iU fr dG bu hf hx hv) (fun _ aV jr=>?_) fun _ _ x=>x);have n65:Cc≠65:=fun z=>S.live65 (z▸hC);have n72:Cc≠72:=fun z=>S.live72 (z▸hC);have yw:aV.heap.Ns Cc mC:=hn.at' fun o e=>jr.k _ o n65 n72 (nμ _ hC) e;refine⟨mC,yw,fun h' hs=>?_⟩;have hs':∀b o,b≠Cc→aV.heap.get? b=some o→h'.get? b=some o:=fun b o q e=>(hs.2 b q).trans e;refine Uo yw fun oC es ep eC dC _=>?_;refine Uc jr.ex fun m' μ' F' h1 h2=>?_;have hCG:C.G.get? Cc=none:=by
  cases z:C.G.get? Cc with
  |none=>rfl
  |some o=>rw[S.g Cc o z]at hC;cases hC
 have hCμ':Cc∉μ':=fun q=>by
  rcases h1 Cc q with z|z
  ·exact nμ _ hC z
  ·obtain⟨o,e⟩:=hlC;rw[z]at e;cases e
 have hcell:∀y c,env.kindOf y=some .cell∨env.kindOf y=some .free→env.cells.lookup y=some c→c≠Cc:=fun y c q e z=>by
  refine Up (F.cell y q) fun c' v e1 _ _ o e2 _=>?_;rw[e]at e1;cases e1;rw[z,hC]at e2;cases e2
 refine⟨⟨m',μ',F'.off hCμ' hcell hs' (.inl pC) ah (.inr ⟨rfl,pC,F.tab⟩),fun a q=>?_,h2⟩,jr.S.but eC (fun vs q t z=>by rw[dC]at z;cases z) hCG n65 n72 hs',fun b o q1 q2 q3 e=>hs' b o (fun z=>by rw[z,hC]at e;cases e) (jr.k b o q1 q2 q3 (bN.get b o q1 q2 e))⟩;rcases h1 a q with z|z
 ·exact .inl z
 ·exact .inr (eO bu bN z)
theorem IH (e:Expr) (x:Str) (px:Pos) (line:Nat) (env:Env):swapsWith e (some (.Name x px)) line env=pure false∨(∃elt gens scope pos,e=.ListComp elt gens scope pos∧swapsWith e (some (.Name x px)) line env=pure true)∨(∀n X sc M,ev n X sc M e=none):=by
 cases e with
 |ListComp elt gens scope pos=>
  have key:∀b:Bool,swapsWith (.ListComp elt gens scope pos) (some (.Name x px)) line env=pure b→swapsWith (.ListComp elt gens scope pos) (some (.Name x px)) line env=pure false∨swapsWith (.ListComp elt gens scope pos) (some (.Name x px)) line env=pure true:=fun b e=>by cases b<;>simp[e]
  rcases key _ rfl with e|e
  ·exact .inl e
  ·exact .inr (.inl ⟨_,_,_,_,rfl,e⟩)
 |SetComp=>exact .inr (.inr fun n X sc M=>by cases n<;>rfl)
 |DictComp=>exact .inr (.inr fun n X sc M=>by cases n<;>rfl)
 |_=>exact .inl rfl
theorem uZ {x:Str} {px p:Pos} {e:Expr} {Q:Flow→Shared→Prop} (hs:swapsWith e (some (.Name x px)) p.line env=pure false) (h:wpAny (MD C) A (eval e env) (fun v az=>wpAny (MD C) A (storeName env x v) (fun _=>Q .next) bL az) bL s):
 wpAny (MD C) A (exec (.Assign [.Name x px] e p) env) Q bL s:=by
 rw[exec_Assign_Name (hs:=hs)];exact aq (bM (aq (aa h (fun v az bV=>aq (bM (aq (Cp (aa bV (fun _ aV bR=>aI bR) fun _ _ x=>x))))) fun _ _ x=>x)))
theorem Ft {f:Expr→Option D} {sc:NS} {e:Expr} {l:List D} {x:Str} {px:Pos} {line:Nat} (h:qZ f sc M e=some l):swapsWith e (some (.Name x px)) line env=pure false:=by
 cases(MX f sc M e).2 _ h<;>rfl
theorem B3 (cx:CxOK C X k) {n:Nat} {x:Str} {px p:Pos} {e:Expr} (hA:RA A k) (h:wT (ev (n+1) X env.scope.names) env.scope.names x e M=some fK) (fr:∀a∈μ,C.G.get? a=none) (F:FI ah μ s.heap env m M) (S:St C s) (hf:env.func.isSome=true) (hx:bP env.scope.names x=true):
 wpAny (MD C) A (exec (.Assign [.Name x px] e p) env) (XF C ah μ env s .next fK) bL s:=by
 have hE:∀μ m M,HE C A ah μ env m M (ev (n+1) X env.scope.names M):=fun μ m M=>(fu cx (n+1)).1 hA;unfold wT at h;split at h
 ·rename_i l hl
  cases h;split at hl
  ·rename_i hk
   refine uZ (Ft hl) (aa (Jm (hE _ _ _) hl F S) (fun v az q=>?_) fun _ _ x=>x);exact aa (xM fr F S (bt hk) q) (fun _ aV x=>⟨x,trivial⟩) fun _ _ x=>x
  ·cases hl
 ·refine Um h fun d e1 e2=>?_
  subst e2;rcases IH e x px p.line env with hs|⟨elt,gens,scope,pos,rfl,hs⟩|hn
  ·refine uZ hs (aa (hE _ _ _ _ _ _ e1 F S) (fun v az q=>?_) fun _ _ x=>x)
   exact aa (iU fr (F.keep q.2.1) q.1 hf hx q.2.2) (fun _ aV x=>⟨x.keep q.1 q.2.1,trivial⟩) fun _ _ x=>x
  ·rw[LX (hs:=hs)]
   refine aq (bM (aq ?_));show wpAny (MD C) A (do let _←comprehension (.ListComp elt gens scope pos) scope env (firstIterPos gens pos) (newList []) (firstAsync gens) (firstIter gens env) (some (assign (.Name x px) env))) _ bL s;exact aq (aa (Mw cx hA e1 fr F S hf hx) (fun _ aV x=>aI (aI ⟨x,trivial⟩)) fun _ _ x=>x)
  ·rw[hn]at e1;cases e1
theorem O2 (cx:CxOK C X k) {n:Nat} {x:Str} {px p:Pos} {e:Expr} (hA:RA A k) (hf:env.func.isSome=true) (hx:bP env.scope.names x=true):
 HX C A ah env (fun M=>(O3 (ev (n+1) X env.scope.names) env.scope.names x e M).map fun M'=>(Fl.next,M')) (exec (.Assign [.Name x px] e p) env):=by
 intro M M' fl m μ s h fr F S;refine Um h fun fK e1 e2=>?_;cases e2;unfold O3 at e1;split at e1
 ·rename_i e2
  cases e1;exact B3 cx hA e2 fr F S hf hx
 ·refine Ua F.frz fun dT sub dG=>?_
  exact aa (B3 cx hA e1 (fun a q=>fr a (sub a q)) dG S hf hx) (fun _ aV x=>x.less S sub) fun _ _ x=>x
end
section
variable {C:aU} {A:Around} {s az aV:Shared} {ah:Addr→Prop} {μ dT:List Addr} {h h':Heap} {env:Env} {m:Str→Option Value} {M fK jy:MM} {k:Nat} {X:Cx}
theorem rC (e:Expr) (ts:List Expr) (tk:Nat) (tp:Pos) (line:Nat):swapsWithSole [.Tuple ts tk tp] e line env=pure false:=by cases e<;>rfl
theorem uO (e o i:Expr) (tp:Pos) (line:Nat):swapsWith e (some (.Subscript o i tp)) line env=pure false:=by cases e<;>rfl
theorem Ve {f:Expr→Option Str} {a b:Expr} {x y:Str} (ha:f a=some x∨f a=none) (hb:f b=some y∨f b=none) (hl:([a,b].filterMap f).length=2):[a,b].filterMap f=[x,y]:=by
 rcases ha with ha|ha<;>rcases hb with hb|hb<;>simp[iK,ha,hb]at hl⊢
theorem q9 {α:Type _} {c:Prop} [Decidable c] {a b:α} {P:α→Prop} (h:P a) (k:¬c→P b):P (if c then a else b):=by
 by_cases q:c
 ·rw[if_pos q];exact h
 ·rw[if_neg q];exact k q
theorem vV {x y:Str} {px py tp:Pos} {tk:Nat} {e:Expr} (hp:s6 e=true):swappedStores [.Tuple [.Name x px,.Name y py] tk tp] e env=pure none∨swappedStores [.Tuple [.Name x px,.Name y py] tk tp] e env=pure (some [x,y]):=by
 cases e with
 |Tuple vs k2 p2=>
  have hc:vs.all (constantsAlone 8)=false:=by
   replace hp:(!(vs.all (constantsAlone 8)))=true:=hp;rw[gT]at hp;exact hp
  refine q9 (P:=fun t=>t=pure none∨t=pure (some [x,y])) (.inl rfl) fun _=>q9 (P:=fun t=>t=pure none∨t=pure (some [x,y])) (.inl rfl) fun _=>q9 (P:=fun t=>t=pure none∨t=pure (some [x,y])) (.inl rfl) fun hn=>q9 (P:=fun t=>t=pure none∨t=pure (some [x,y])) (.inl rfl) fun _=>?_;rw[hc];refine .inr (congrArg (fun z=>(pure (some z):Sem (Option (List Str)))) (Ve (q9 (P:=fun t=>t=some x∨t=none) (.inl rfl) fun _=>.inr rfl) (q9 (P:=fun t=>t=some y∨t=none) (.inl rfl) fun _=>.inr rfl) (a8 fun q=>hn ?_)));rw[vJ];exact .inl (bne_iff_ne.mpr q)
 |BoolOp|NamedExpr|BinOp|UnaryOp|Lambda|IfExp|Dict|Set|ListComp|SetComp|DictComp|GeneratorExp|Await|Yield|YieldFrom|Compare|Call|FormattedValue|JoinedStr|Constant|Attribute|Subscript|Starred|Name|List|Slice=>exact .inl rfl
theorem ED {x y:Str} {v u:Value} {a b:D} (fr:∀a∈μ,C.G.get? a=none) (F:FI ah μ s.heap env m M) (S:St C s) (hf:env.func.isSome=true) (hx:bP env.scope.names x=true) (hy:bP env.scope.names y=true) (hv:Rep (Pm ah μ) s.heap a v) (hu:Rep (Pm ah μ) s.heap b u) {t1 t2:Value→Sem Unit}
 (h1:∀s (Q:Unit→Shared→Prop),wpAny (MD C) A (storeName env x v) Q bL s→wpAny (MD C) A (t1 v) Q bL s) (h2:∀s (Q:Unit→Shared→Prop),wpAny (MD C) A (storeName env y u) Q bL s→wpAny (MD C) A (t2 u) Q bL s):
 wpAny (MD C) A (t1 v) (fun _ az=>wpAny (MD C) A (t2 u) (fun _ aV=>XS C ah μ env s ((M.set x (.dat a)).set y (.dat b)) aV) bL az) bL s:=by
 refine h1 _ _ ?_;have key:∀az,(∃pW,FI ah μ az.heap env pW (M.set x (.dat a)))→St C az→(∀bb o,bb≠65→bb≠72→bb∉μ→s.heap.get? bb=some o→az.heap.get? bb=some o)→
  wpAny (MD C) A (t2 u) (fun _ aV=>XS C ah μ env s ((M.set x (.dat a)).set y (.dat b)) aV) bL az:=by
  rintro az ⟨pW,dG⟩ bu bN;have Q1:Rep (Pm ah μ) az.heap b u:=Rep.mono (fun c o p e=>⟨bN c o (fun z=>F.tabm.1 (z▸p)) (fun z=>F.tabm.2 (z▸p)) p.2 e,p⟩) hu;exact h2 _ _ (aa (iU fr dG bu hf hy Q1) (fun _ aV x=>x.trans bu (fun _ q=>.inl q) bN) fun _ _ x=>x)
 rcases cU.mp hx with e|e
 ·have hk:env.kindOf x=some .local:=bt e
  refine cJ hk F.ns (fun h' hn hs=>?_) (by rw[F.kind];rfl);have hs':∀b o,b≠env.locals→s.heap.get? b=some o→h'.get? b=some o:=fun b o q e=>(hs.2 b q).trans e;refine Uo F.ns fun oL esL epL eL dL _=>?_;refine Ud (F.liveμ _ F.nL) fun l1 l2 _=>?_;exact key _ ⟨_,F.set hk hn hs' hv⟩ (S.but eL (fun vs q t z=>by rw[dL]at z;cases z) (fr _ F.nL) l1 l2 hs') fun b o _ _ n3 e=>hs' b o (fun q=>n3 (q▸F.nL)) e
 ·have hk:env.kindOf x=some .cell:=bt e
  refine Ue (F.cell x (.inl hk)) fun c v0 e1 n1 n2 hc=>?_;have cμ:=F.st x c hf hk e1;refine kT F.kind hk e1 hc fun h' hn hs=>?_;have hs':∀b o,b≠c→s.heap.get? b=some o→h'.get? b=some o:=fun b o q e=>(hs.2 b q).trans e;refine Ua hc fun oc ec dc=>?_;exact key _ ⟨_,F.setCell hk e1 cμ hn hs' hv⟩ (S.but (t:=s.toks) ec (fun vs q t z=>by rw[dc]at z;cases z) (fr _ cμ) n1 n2 hs') fun b o _ _ n3 e=>hs' b o (fun q=>n3 (q▸cμ)) e
noncomputable def x8 (f:MM→Expr→Option D) (x y:Str) (e:Expr) (M:MM):Option (Fl×MM):=match Dq f M e with
 |some (.tup [a,b],M')=>some (.next,(M'.set x (.dat a)).set y (.dat b))
 |_=>none
theorem EN {x y:Str} (hxy:y≠x) (M:MM) (a b:Ent):∀z e,((M.set x a).set y b).lookup z=some e→((M.set y b).set x a).lookup z=some e:=fun z e=>by
 rw[MM.set_lookup,MM.set_lookup,MM.set_lookup,MM.set_lookup];by_cases h1:z=y
 ·by_cases h2:z=x
  ·exact absurd (h1.symm.trans h2) hxy
  ·simp[h1,hxy]
 ·by_cases h2:z=x
  ·simp[h2,cC hxy]
  ·simp[h1,h2]
theorem Jk {f:MM→Expr→Option D} (hE:∀μ m M,HE C A ah μ env m M (f M)) {x y:Str} {px py tp p:Pos} {tk:Nat} {e:Expr} (hA:RA A k) (hf:env.func.isSome=true) (hx:bP env.scope.names x=true) (hy:bP env.scope.names y=true) (hxy:y≠x) (hp:s6 e=true):
 HX C A ah env (x8 f x y e) (exec (.Assign [.Tuple [.Name x px,.Name y py] tk tp] e p) env):=by
 intro M M' fl m μ s h fr F S;unfold x8 at h;generalize e1:Dq f M e=o at h;rcases o with _|⟨d,fK⟩
 ·cases h
 have hd:∃a b,d=.tup [a,b]:=by
  cases d with
  |tup l=>
   rcases l with _|⟨a,_|⟨b,_|⟨c,l⟩⟩⟩
   ·cases h
   ·cases h
   ·exact⟨a,b,rfl⟩
   ·cases h
  |_=>cases h
 refine Us hd fun a b q=>?_;subst q
 ·cases h
  refine Ul (GX hE e1 fr F S) fun dT sub dG w=>?_;have BG:∀a∈dT,C.G.get? a=none:=fun a q=>fr a (sub a q);have both:∀v az,Post C s (Pm ah dT) (.tup [a,b]) v az→∃t va vb,v=.ref t∧az.heap.IsTuple t #[va,vb]∧Rep (Pm ah dT) az.heap a va∧Rep (Pm ah dT) az.heap b vb:=by
   rintro v az ⟨_,_,t,vs,rfl,_,ht,va,r,e2,ha,vb,r2,e3,hb,e4⟩;have e5:r2=[]:=e4;subst e5;subst e3;have:vs=#[va,vb]:=by apply nQ;rw[e2]
   subst this;exact⟨t,va,vb,rfl,ht,ha,hb⟩
  rcases vV (env:=env) (x:=x) (y:=y) (px:=px) (py:=py) (tp:=tp) (tk:=tk) hp with hw|hw
  ·refine wpAny_Assign_stores (aa w (fun v az q=>?_) fun _ _ x=>x) (rC _ _ _ _ _) hw
   (refine Ui (both v az q) fun t va vb q0 ht ha hb=>?_;subst q0);show wpAny (MD C) A (assign (.Tuple [.Name x px,.Name y py] tk tp) env (.ref t)) _ bL az;refine mN hA.hd ht rfl rfl fun h' hext=>?_;have bN:Keep az.heap h':=⟨fun b o _ _ e=>hext b o (aM (aQ e)) e⟩;have bu:St C {az with heap:=h'}:=q.1.grow (t:=az.toks) fun b o e=>hext b o (aM (aQ e)) e;have gn:=(dG.keep q.2.1).keep bN;show wpAny (MD C) A (assignInOrder [assign (.Name x px) env,assign (.Name y py) env] [va,vb]) _ bL _;refine c6 (aa (ED (t1:=assign (.Name x px) env) (t2:=assign (.Name y py) env) BG gn bu hf hx hy (up dG.tabm bN ha) (up dG.tabm bN hb) (fun s Q h=>bT h) (fun s Q h=>bT h)) (fun _ aV jr=>?_) fun _ _ x=>x);exact c6 (aa jr (fun _ bq xu=>jf ⟨((xu.keep bu bN).keep q.1 q.2.1).less S sub,trivial⟩) fun _ _ x=>x)
  ·rw[PySem.exec_Assign_arm]
   refine aq (bM ?_);rw[rC];refine aq (aI ?_);rw[if_neg (by decide)];refine aq (aa w (fun v az q=>?_) fun _ _ x=>x);(refine Ui (both v az q) fun t va vb q0 ht ha hb=>?_;subst q0);rw[hw];refine aq (aI ?_);show wpAny (MD C) A (do rule "assign.swapped-stores";let items←unpackItems (.ref t) 2 none;assignInOrder ([bindName env y,bindName env x]) items.reverse;pure Flow.next) _ bL az;refine aq (PU (aq (wpAny_unpackItems_tuple (items:=#[va,vb]) hA.hd ht fun h' hext=>aq ?_)));have bN:Keep az.heap h':=⟨fun b o _ _ e=>hext b o (aM (aQ e)) e⟩;have bu:St C {az with heap:=h'}:=q.1.grow (t:=az.toks) fun b o e=>hext b o (aM (aQ e)) e;have gn:=(dG.keep q.2.1).keep bN;show wpAny (MD C) A (assignInOrder [bindName env y,bindName env x] [vb,va]) _ bL _;refine c6 (aa (ED (t1:=bindName env y) (t2:=bindName env x) BG gn bu hf hy hx (up dG.tabm bN hb) (up dG.tabm bN ha) (fun s Q h=>Cp h) (fun s Q h=>Cp h)) (fun _ aV jr=>?_) fun _ _ x=>x);exact c6 (aa jr (fun _ bq xu=>jf (aI ⟨(((xu.keep bu bN).keep q.1 q.2.1).less S sub).weaken (EN hxy _ _ _),trivial⟩)) fun _ _ x=>x)
noncomputable def vT (f:MM→Expr→Option D) (x y z:Str) (e:Expr) (M:MM):Option (Fl×MM):=(f M e).map fun d=>(.next,((M.set x (.dat d)).set y (.dat d)).set z (.dat d))
theorem Eu {f:MM→Expr→Option D} (hE:∀μ m M,HE C A ah μ env m M (f M)) {x y z:Str} {px py pz p:Pos} {e:Expr} (hf:env.func.isSome=true) (hx:bP env.scope.names x=true) (hy:bP env.scope.names y=true) (hz:bP env.scope.names z=true) (hint:∀M d,f M e=some d→∃i,d=.int i):
 HX C A ah env (vT f x y z e) (exec (.Assign [.Name x px,.Name y py,.Name z pz] e p) env):=by
 intro M M' fl m μ s h fr F S;refine Um h fun d e1 e2=>?_;cases e2;obtain⟨i,rfl⟩:=hint _ _ e1;refine wpAny_Assign_three (aa (hE _ _ _ _ _ _ e1 F S) (fun v az q=>?_) fun _ _ x=>x);obtain⟨t,rfl⟩:=q.2.2;refine bT (aa (iU fr (F.keep q.2.1) q.1 hf hx q.2.2) (fun _ aV jr=>?_) fun _ _ x=>x);refine Uc jr.ex fun yj rz gn g1 g2=>?_;refine bT (aa (iU g2 gn jr.S hf hy (d:=.int i) ⟨t,rfl⟩) (fun _ bq xu=>?_) fun _ _ x=>x);refine Uc xu.ex fun FJ uL jA i1 i2=>?_;refine bT (aa (iU i2 jA xu.S hf hz (d:=.int i) ⟨t,rfl⟩) (fun _ eG SL=>?_) fun _ _ x=>x);exact⟨((SL.trans xu.S i1 xu.k).trans jr.S g1 jr.k).keep q.1 q.2.1,trivial⟩
end
section
variable {C:aU} {A:Around} {s az aV:Shared} {ah:Addr→Prop} {μ dT:List Addr} {h h':Heap} {env:Env} {m:Str→Option Value} {M fK jy:MM} {k:Nat} {X:Cx}
theorem pT {c:Str} {l:List D} (h:jc env.scope.names c M=some l):(c==("__debug__":Str))=false∧env.kindOf c=some .local∧M.lookup c=some (.own l):=Ud (uV h) fun a b c=>⟨beq_eq_false_iff_ne.mpr a,b,c⟩
theorem s7 {c:Str} {pc:Pos} {l:List D} {Q:Value→Shared→Prop} (h:jc env.scope.names c M=some l) (F:FI ah μ s.heap env m M) (hq:∀a,m c=some (.ref a)→Q (.ref a) s):wpAny (MD C) A (eval (.Name c pc) env) Q bL s:=by
 refine Ud (pT h) fun h1 h2 h3=>?_;refine Uf (so F h3 h2) fun a vs e _=>?_;exact iO (iN F.kind h2 F.ns e (hq a e)) h1
theorem oa (F:FI ah μ h env m M):interactive env=false:=by unfold interactive;rw[F.kind];rfl
noncomputable def HA (f:MM→Expr→Option D) (sc:NS) (c:Str) (e:Expr) (M:MM):Option (Fl×MM):=(jc sc c M).bind fun l=>(f M e).bind fun d=>if l.length≤1000000 then some (.next,M.set c (.own (l++[d])))else none
theorem Hz {f:MM→Expr→Option D} (hE:∀μ m M,HE C A ah μ env m M (f M)) {c:Str} {pc ap p p':Pos} {e:Expr} (hs:bK [e]=true) (hp:(ap.endLine==p.line)=true):
 HX C A ah env (HA f env.scope.names c e) (exec (.Expr (.Call (.Attribute (.Name c pc) (ofString "append") ap) [e] [] p) p') env):=by
 intro M M' fl m μ s h fr F S;refine Ub h fun l e1 h=>?_;refine Ub h fun d e2 h=>?_;split at h<;>cases h;rename_i hl;refine Ud (pT e1) fun h1 h2 h3=>?_;refine mO ?_ (oa F) rfl;refine vP (T:="list") (id:="list.append") rfl (by have:=wu (env:=env) (p:=p) hs (by simp);unfold methodCallForm at this;exact this) hp xn PySem.F.slot_list_append PySem.F.type_list_append (s7 e1 F fun a ha=>?_);refine Ug (so F h3 h2) fun a' vs ha' pa aμ hpl hr=>?_;rw[ha]at ha';cases ha';refine⟨hpl.isList.typeIs,fun b eb=>by cases eb;obtain⟨n,eo⟩:=id hpl;exact⟨_,eo,rfl⟩,?_⟩;refine o4 (ez hs) (aa (dQ hs (jG (hE μ m M) (ds:=[d]) (by show(match f M e,some []with|some d,some ds=>some (d::ds)|_,_=>none)=_;rw[e2]) F S)) (fun a' az q=>?_) fun _ _ x=>x);refine UF q fun e3 bu bN v r e4 hv e5=>?_;rw[show r=[]from e5]at e4;rw[e3,e4];have dG:=F.keep bN;refine Ud (F.liveμ a aμ) fun n1 n2 _=>?_;have Gw:=hpl.at fun o e=>bN.get _ _ n1 n2 e;have hlen:=hr.length;rw[aK]at hlen;refine Il Gw (fun h' hl' hs'=>?_) (by show _≤2^24;lia);have x:=XS.ofList (t:=az.toks) fr dG bu h3 h2 ha aμ pa Gw hl' (fun b o q e=>(hs'.2 b q).trans e) (l':=l++[d]) (by rw[Ir];exact(Sr F.tabm bN hr).append ⟨v,[],rfl,hv,rfl⟩);exact⟨x.keep bu bN,trivial⟩
noncomputable def IV (sc:NS) (c:Str) (M:MM):Option (Fl×MM):=(jc sc c M).bind fun l=>if l.length≤1000000 then some (.next,M.set c (.own l.reverse))else none
theorem xU {c:Str} {pc ap p p':Pos} (hp:(ap.endLine==p.line)=true):
 HX C A ah env (IV env.scope.names c) (exec (.Expr (.Call (.Attribute (.Name c pc) (ofString "reverse") ap) [] [] p) p') env):=by
 intro M M' fl m μ s h fr F S;refine Ub h fun l e1 h=>?_;split at h<;>cases h;rename_i hl;refine Ud (pT e1) fun h1 h2 h3=>?_;refine mO ?_ (oa F) rfl;refine vP (T:="list") (id:="list.reverse") rfl rfl hp xn PySem.F.slot_list_reverse PySem.F.type_list_reverse (s7 e1 F fun a ha=>?_);refine Ug (so F h3 h2) fun a' vs ha' pa aμ hpl hr=>?_;rw[ha]at ha';cases ha';refine⟨hpl.isList.typeIs,fun b eb=>by cases eb;obtain⟨n,eo⟩:=id hpl;exact⟨_,eo,rfl⟩,?_⟩;refine o4 rfl (aa (dQ (es:=[]) rfl (spliced_nil (Q:=fun vs s'=>vs=[]∧s'=s) ⟨rfl,rfl⟩)) (fun a' az q=>?_) fun _ _ x=>x);refine Ud q fun e3 e4 e5=>?_;subst e5;rw[e3,e4];have hlen:=hr.length;rw[aK]at hlen;refine EV hpl (by(rw[hlen];exact hl)) fun h' hl' hs'=>?_;exact⟨XS.ofList (t:=az.toks) fr F S h3 h2 ha aμ pa hpl hl' (fun b o q e=>(hs'.2 b q).trans e) (by rw[Array.toList_reverse];exact hr.reverse),trivial⟩
noncomputable def Dd:(d:D)→{r:Option Int//∀b,r=some b→d=.int b}
 |.int b=>⟨some b,fun _ h=>congrArg D.int (dB h)⟩
 |_=>⟨none,nofun⟩
noncomputable def Jb (f:MM→Expr→Option D) (sc:NS) (c:Str) (i e:Expr) (M:MM):Option (Fl×MM):=(f M e).bind fun d=>(jc sc c M).bind fun l=>(f M i).bind fun kd=>(Dd kd).1.bind fun k=>if 0≤k∧k<l.length∧k<1000000 then some (.next,M.set c (.own (l.set k.toNat d)))else none
theorem sU {P:Addr→Prop} {d:D} {v:Value} (r:Rep P h d v):∀{l:List D} {vs:List Value} {i:Nat},Reps P h l vs→Reps P h (l.set i d) (vs.set i v)
 |[],vs,i=>fun q=>by rw[show vs=[]from q];exact rfl
 |x::l,vs,i=>fun q=>by
  (refine Uc q fun u w q0 hu hw=>?_;subst q0);cases i with
  |zero=>exact⟨v,w,rfl,r,hw⟩
  |succ i=>exact⟨u,w.set i v,rfl,hu,sU r hw⟩
theorem MT {f:MM→Expr→Option D} (hE:∀μ m M,HE C A ah μ env m M (f M)) {c:Str} {pc tp p:Pos} {i e:Expr}:
 HX C A ah env (Jb f env.scope.names c i e) (exec (.Assign [.Subscript (.Name c pc) i tp] e p) env):=by
 intro M M' fl m μ s h fr F S;refine Ub h fun d e2 h=>?_;refine Ub h fun l e1 h=>?_;refine Ub h fun kd e3 h=>?_;refine Ub h fun kk e4 h=>?_;obtain⟨hb,h⟩:=dw h;cases h;rw[(Dd kd).2 _ e4]at e3;refine Ud (pT e1) fun h1 h2 h3=>?_;refine IA (aa (hE _ _ _ _ _ _ e2 F S) (fun v az cu=>s7 e1 (F.keep cu.2.1) fun a ha=>aa (hE _ _ _ _ _ _ e3 (F.keep cu.2.1) cu.1) (fun iv aV dg=>?_) fun _ _ x=>x) fun _ _ x=>x) (uO _ _ _ _ _);obtain⟨t,rfl⟩:=dg.2.2;have kk':=cu.2.1.trans dg.2.1;have gn:=F.keep kk';refine Ug (so gn h3 h2) fun a' vs ha' pa aμ hpl hr=>?_;rw[ha]at ha';cases ha';have hlen:=hr.length;rw[aK]at hlen;refine xR hpl hb.1 (by exact(HK 0x739790d1810f5abfa12011c8bc848aa00e:) hb hlen) hb.2.2 fun h' hl' hs'=>?_;have x:=XS.ofList (t:=aV.toks) fr gn dg.1 h3 h2 ha aμ pa hpl hl' (fun b o q e=>(hs'.2 b q).trans e) (l':=l.set kk.toNat d) (by rw[xk];exact sU (up F.tabm dg.2.1 cu.2.2) hr);exact⟨x.keep dg.1 kk',trivial⟩
noncomputable def Ru:(o:Option Ent)→{r:Option Int//∀a,r=some a→o=some (.dat (.int a))}
 |some (.dat d)=>⟨(Dd d).1,fun a h=>congrArg (fun d=>some (Ent.dat d)) ((Dd d).2 a h)⟩
 |_=>⟨none,nofun⟩
noncomputable def RZ:(op:Operator)→{g:Option (Int→Int→Int)//∀g',g=some g'→∀(C:aU) (A:Around) (s:Shared) (a b:Int) (t u:Tok) (Q:Value→Shared→Prop),Q (.int (g' a b) s.toks) {s with toks:=s.toks+1}→wpAny (MD C) A (inplaceOp op (.int a t) (.int b u)) Q bL s}
 |.Add=>⟨some (·+·),fun _ h _ _ _ _ _ _ _ _ hq=>by cases h;exact AutoIntOps.iadd_0 hq⟩
 |.Sub=>⟨some (·-·),fun _ h _ _ _ _ _ _ _ _ hq=>by cases h;exact AutoIntOps.isub_0 hq⟩
 |_=>⟨none,nofun⟩
noncomputable def R0 (f:MM→Expr→Option D) (sc:NS) (x:Str) (op:Operator) (e:Expr) (M:MM):Option (Fl×MM):=if(sc.lookup x==some .local)=true then(Ru (M.lookup x)).1.bind fun a=>(RZ op).1.bind fun g=>(f M e).bind fun d=>(Dd d).1.map fun b=>(Fl.next,M.set x (.dat (.int (g a b))))else none
theorem O0 {f:MM→Expr→Option D} (hE:∀μ m M,HE C A ah μ env m M (f M)) {x:Str} {px p:Pos} {op:Operator} {e:Expr} (hf:env.func.isSome=true):
 HX C A ah env (R0 f env.scope.names x op e) (exec (.AugAssign (.Name x px) op e p) env):=by
 intro M M' fl m μ s h fr F S;obtain⟨hk,h⟩:=dw (show(if _ then _ else none)=some (fl,M')from h);have hk:env.kindOf x=some .local:=bt hk;refine Ub h fun a ea h=>?_;refine Ub h fun g eg h=>?_;refine Ub h fun d he h=>?_;(refine Um h fun b eb q=>?_;cases q);have hM:=(Ru _).2 _ ea;have hop:=(RZ op).2 _ eg;rw[(Dd d).2 _ eb]at he;clear ea eg eb h;obtain⟨v,e1,t,rfl⟩:=F.loc x _ hM hk;refine wpAny_AugAssign_Name (iN F.kind hk F.ns e1 (aa (hE _ _ _ _ _ _ he F S) (fun v az cu=>?_) fun _ _ x=>x));obtain⟨u,rfl⟩:=cu.2.2;refine hop _ _ _ _ _ _ _ _ ?_;have bu:St C {az with toks:=az.toks+1}:=cu.1.toks _;have dG:FI ah μ ({az with toks:=az.toks+1}:Shared).heap env m M:=F.keep cu.2.1;exact aa (iU (s:={az with toks:=az.toks+1}) fr dG bu hf (by unfold bP;rw[show env.scope.names.lookup x=some .local from hk];rfl) (d:=.int (g a b)) ⟨_,rfl⟩) (fun _ aV jr=>⟨jr.keep bu cu.2.1,trivial⟩) fun _ _ x=>x
theorem OQ {p:Pos}:HX C A ah env (fun M=>some (Fl.brk,M)) (exec (.Break p) env):=by
 intro M M' fl m μ s h fr F S;cases h;exact wpAny_Break ⟨XS.refl F S fr,trivial⟩
noncomputable def LL:(e:Expr)→{b:Bool//b=true→∃i k p,e=.Constant (.int i) k p}
 |.Constant (.int i) k p=>⟨true,fun _=>⟨i,k,p,rfl⟩⟩
 |_=>⟨false,fun h=>(nomatch h)⟩
noncomputable def tz (e:Expr):Bool:=(LL e).1
theorem Dc {e:Expr} (h:tz e=true):∃i k p,e=.Constant (.int i) k p:=(LL e).2 h
set_option genInjectivity false in
structure UY (X:Cx) where
 S:NS→MM→Stmt→Option (Fl×MM)
 o:∀{C:aU} {k:Nat} {A ah env},CxOK C X k→RA A k→env.func.isSome=true→∀st,HX C A ah env (fun M=>S env.scope.names M st) (exec st env)
noncomputable abbrev OX (X:Cx) (sc:NS) (st:Stmt) (f:MM→Option (Fl×MM)):Prop:=∀{C:aU} {k:Nat} {A:Around} {ah:Addr→Prop} {env:Env},CxOK C X k→RA A k→env.func.isSome=true→env.scope.names=sc→HX C A ah env f (exec st env)
theorem vi {c:Prop} [Decidable c] {f:MM→Option (Fl×MM)} {run:Sem Flow} (h:c→HX C A ah env f run):HX C A ah env (fun M=>if c then f M else none) run:=fun M M' fl m μ s q fr F S=>by
 obtain⟨hc,q⟩:=dw q;exact h hc M M' fl m μ s q fr F S
section
variable (W:UY X) (n:Nat) {sc:NS}
theorem vZ {C:aU} {k:Nat} {A:Around} {ah:Addr→Prop} {env:Env} (cx:CxOK C X k) (hA:RA A k) (hf:env.func.isSome=true) (ss:List Stmt):HX C A ah env (c7 (W.S env.scope.names) ss) (execs ss env):=qN (fun st=>W.o cx hA hf st) ss
noncomputable def T0 (sc:NS):(st:Stmt)→{f:MM→Option (Fl×MM)//OX X sc st f}
 |.Return (some e) _=>⟨fun M=>(Dq (ev (n+1) X sc) M e).map fun q=>(.ret q.1,q.2),fun cx hA hf hsc=>by subst hsc;exact MO fun μ m M=>(fu cx (n+1)).1 hA⟩
 |.If t b o _=>⟨fun M=>Tu (mT (n+1) X sc M t) (c7 (W.S sc) b M) (c7 (W.S sc) o M),fun cx hA hf hsc=>by
  subst hsc;exact QV (t:=fun M=>mT (n+1) X _ M t) (fun μ m M r s h F S=>(fu cx (n+1)).2.1 hA _ r s h F S) (vZ W cx hA hf _) (vZ W cx hA hf _)⟩
 |.For (.Name x _) it b [] _=>⟨fun M=>if(bP sc x&&!gK it)=true then(zM (n+1) X sc M it).bind fun ds=>sw (c7 (W.S sc) b) x ds M else none,fun cx hA hf hsc=>by
  subst hsc;refine vi fun q=>?_;rw[ao]at q;exact NV (g:=fun M=>zM (n+1) X _ M it) hf hA q.1 (by simpa using q.2) (fun μ m M ds s h F S=>(fu cx (n+1)).2.2 hA _ ds s h F S) (fun I=>vZ W cx hA hf _)⟩
 |.While t b [] _=>⟨Dh (fun M=>mT (n+1) X sc M t) (c7 (W.S sc) b) 1000,fun cx hA hf hsc=>by
  subst hsc;exact Ef (t:=fun M=>mT (n+1) X _ M t) (fun μ m M r s h F S=>(fu cx (n+1)).2.1 hA _ r s h F S) (vZ W cx hA hf _)⟩
 |.Assign [.Name x _] e _=>⟨fun M=>if bP sc x=true then(O3 (ev (n+1) X sc) sc x e M).map fun M'=>(.next,M')else none,fun cx hA hf hsc=>by subst hsc;exact vi fun q=>O2 cx hA hf q⟩
 |.Assign [.Tuple [.Name x _,.Name y _] _ _] e _=>⟨fun M=>if(bP sc x&&bP sc y&&decide (y≠x)&&s6 e)=true then x8 (ev (n+1) X sc) x y e M else none,fun cx hA hf hsc=>by
  subst hsc;refine vi fun q=>?_;simp only[ao]at q;exact Jk (fun μ m M=>(fu cx (n+1)).1 hA) hA hf q.1.1.1 q.1.1.2 (of_decide_eq_true q.1.2) q.2⟩
 |.Assign [.Name x _,.Name y _,.Name z _] e _=>⟨fun M=>if(bP sc x&&bP sc y&&bP sc z&&tz e)=true then vT (ev (n+1) X sc) x y z e M else none,fun cx hA hf hsc=>by
  subst hsc;refine vi fun q=>?_;simp only[ao]at q;obtain⟨i,kk,p,rfl⟩:=Dc q.2;exact Eu (fun μ m M=>(fu cx (n+1)).1 hA) hf q.1.1.1 q.1.1.2 q.1.2 fun M d hd=>⟨i,(dB hd).symm⟩⟩
 |.Assign [.Subscript (.Name c _) i _] e _=>⟨Jb (ev (n+1) X sc) sc c i e,fun cx hA hf hsc=>by subst hsc;exact MT fun μ m M=>(fu cx (n+1)).1 hA⟩
 |.AugAssign (.Name x _) op e _=>⟨R0 (ev (n+1) X sc) sc x op e,fun cx hA hf hsc=>by subst hsc;exact O0 (fun μ m M=>(fu cx (n+1)).1 hA) hf⟩
 |.Expr (.Call (.Attribute (.Name c _) f ap) [e] [] p) _=>⟨fun M=>if(decide (f=ofString "append")&&bK [e]&&(ap.endLine==p.line))=true then HA (ev (n+1) X sc) sc c e M else none,fun cx hA hf hsc=>by
  subst hsc;refine vi fun q=>?_;simp only[ao]at q;have e:=of_decide_eq_true q.1.1;subst e;exact Hz (fun μ m M=>(fu cx (n+1)).1 hA) q.1.2 q.2⟩
 |.Expr (.Call (.Attribute (.Name c _) f ap) [] [] p) _=>⟨fun M=>if(decide (f=ofString "reverse")&&(ap.endLine==p.line))=true then IV sc c M else none,fun cx hA hf hsc=>by
  subst hsc;refine vi fun q=>?_;simp only[ao]at q;have e:=of_decide_eq_true q.1;subst e;exact xU q.2⟩
 |.Break _=>⟨fun M=>some (Fl.brk,M),fun _ _ _ _=>OQ⟩
 |_=>⟨fun _=>none,fun _ _ _ _ _ _ _ _ _ _ h=>(nomatch h)⟩
end
noncomputable def SD (X:Cx):Nat→UY X
 |0=>⟨fun _ _ _=>none,fun _ _ _ _ _ _ _ _ _ _ h=>(nomatch h)⟩
 |n+1=>⟨fun sc M st=>(T0 (SD X n) n sc st).1 M,fun cx hA hf st=>(T0 (SD X n) n _ st).2 cx hA hf rfl⟩
noncomputable def ex (n:Nat) (X:Cx):NS→MM→Stmt→Option (Fl×MM):=(SD X n).S
section
variable {n:Nat} {sc:NS}
theorem sy {e p}:ex (n+1) X sc M (.Return (some e) p)=(Dq (ev (n+1) X sc) M e).map fun q=>(.ret q.1,q.2):=rfl
theorem Oi {t b o p}:ex (n+1) X sc M (.If t b o p)=Tu (mT (n+1) X sc M t) (c7 (ex n X sc) b M) (c7 (ex n X sc) o M):=rfl
theorem J6 {x px it b p}:ex (n+1) X sc M (.For (.Name x px) it b [] p)=if(bP sc x&&!gK it)=true then(zM (n+1) X sc M it).bind fun ds=>sw (c7 (ex n X sc) b) x ds M else none:=rfl
theorem sA {x px e p}:ex (n+1) X sc M (.Assign [.Name x px] e p)=if bP sc x=true then(O3 (ev (n+1) X sc) sc x e M).map fun M'=>(.next,M')else none:=rfl
theorem GU {x y px py tk tp e p}:ex (n+1) X sc M (.Assign [.Tuple [.Name x px,.Name y py] tk tp] e p)=if(bP sc x&&bP sc y&&decide (y≠x)&&s6 e)=true then x8 (ev (n+1) X sc) x y e M else none:=rfl
theorem Dp {x y z px py pz e p}:ex (n+1) X sc M (.Assign [.Name x px,.Name y py,.Name z pz] e p)=if(bP sc x&&bP sc y&&bP sc z&&tz e)=true then vT (ev (n+1) X sc) x y z e M else none:=rfl
theorem J5 {c pc i tp e p}:ex (n+1) X sc M (.Assign [.Subscript (.Name c pc) i tp] e p)=Jb (ev (n+1) X sc) sc c i e M:=rfl
theorem J9 {c pc f ap e p p'}:ex (n+1) X sc M (.Expr (.Call (.Attribute (.Name c pc) f ap) [e] [] p) p')=if(decide (f=ofString "append")&&bK [e]&&(ap.endLine==p.line))=true then HA (ev (n+1) X sc) sc c e M else none:=rfl
theorem J4 {c pc f ap p p'}:ex (n+1) X sc M (.Expr (.Call (.Attribute (.Name c pc) f ap) [] [] p) p')=if(decide (f=ofString "reverse")&&(ap.endLine==p.line))=true then IV sc c M else none:=rfl
theorem J7 {p}:ex (n+1) X sc M (.Break p)=some (.brk,M):=rfl
end
theorem lT (cx:CxOK C X k) (n:Nat) {A:Around} {ah:Addr→Prop} {env:Env} (hA:RA A k) (hf:env.func.isSome=true):∀st,HX C A ah env (fun M=>ex n X env.scope.names M st) (exec st env):=(SD X n).o cx hA hf
end
theorem ww {K:Frag} {f:Addr} (h:fnIn K f=true):∃o,K.lookup f=some o∧o.data=.func (dy K f):=by
 unfold fnIn at h;unfold dy;generalize K.lookup f=o at h⊢;cases o with
 |none=>cases h
 |some o=>cases o with
  |mk a b d r=>cases d with
   |func fd=>exact⟨_,rfl,rfl⟩
   |_=>cases h
structure Pw (f:Addr) (bd:List Stmt) (sc:Scope) (names:List Str):Prop where
 fn:∀{P:Params} {K:Frag},KF P K→fnIn K f=true
 body:∀{P:Params} {K:Frag},KF P K→(dy K f).body=.stmts bd
 scope:∀{P:Params} {K:Frag},KF P K→(dy K f).scope=sc
 glob:∀{P:Params} {K:Frag},KF P K→(dy K f).globals=mainGlobals
 bi:∀{P:Params} {K:Frag},KF P K→(dy K f).builtins=builtinsNs
 clo:∀{P:Params} {K:Frag},KF P K→(dy K f).closure=[]
 code:∀{P:Params} {K:Frag},KF P K→codeIn K (dy K f).code (dy K f).qualname=true
 bind:∀{P:Params} {K:Frag},KF P K→∀vs,vs.length=names.length→bindArgs (dy K f) ⟨vs,[]⟩=pure (names.zip vs)
 nodup:names.Nodup
 kinds:∀x∈names,bP sc.names x=true
 nofree:∀p∈sc.names,p.2≠cr
 plain:sc.isCoroutine=false∧sc.isGenerator=false∧sc.kind=.function
 cellsNd:((cellsFrom 0 sc.names []).map (·.1)).Nodup
section
variable {C:aU} {A:Around} {s:Shared} {P:Addr→Prop} {k:Nat}
theorem rK {kd:Str→Option NameKind} {x:Str}:∀{ns:List Str} {vs:List Value} {m0:Str→Option Value},x∉ns→bindL kd (ns.zip vs) m0 x=m0 x
 |[],vs,m0=>fun _=>by cases vs<;>rfl
 |n::ns,[],m0=>fun _=>rfl
 |n::ns,v::vs,m0=>fun h=>by
  rw[aD,not_or]at h;show bindL kd (ns.zip vs) _ x=_;rw[rK h.2];split
  ·exact if_neg h.1
  ·rfl
theorem rM {kd:Str→Option NameKind} {x:Str}:∀{ns:List Str} {vs:List Value} {m0:Str→Option Value},x∉ns→bindC kd (ns.zip vs) m0 x=m0 x
 |[],vs,m0=>fun _=>by cases vs<;>rfl
 |n::ns,[],m0=>fun _=>rfl
 |n::ns,v::vs,m0=>fun h=>by
  rw[aD,not_or]at h;show bindC kd (ns.zip vs) _ x=_;rw[rM h.2];split
  ·rfl
  ·exact if_neg h.1
noncomputable def bU (names:List Str) (ds:List D):MM:=names.zip (ds.map .dat)
theorem kr {kd:Str→Option NameKind} {h:Heap} {x:Str} {e:Ent}:∀{ns:List Str} {ds:List D} {vs:List Value} {m0 m1:Str→Option Value},ns.Nodup→Reps P h ds vs→(bU ns ds).lookup x=some e→
 ∃d v,e=.dat d∧Rep P h d v∧(kd x=some .local→bindL kd (ns.zip vs) m0 x=some v)∧(kd x≠some .local→bindC kd (ns.zip vs) m1 x=some v)
 |[],_,_,_,_=>fun _ _ hl=>by simp[bU]at hl
 |n::ns,[],_,_,_=>fun _ _ hl=>by simp[bU]at hl
 |n::ns,d::ds,vs,m0,m1=>fun hn r hl=>by
  (refine Uc r fun v w q0 hv hw=>?_;subst q0);rw[vG]at hn;have hl':(if(x==n)=true then some (Ent.dat d)else(bU ns ds).lookup x)=some e:=by
   rw[←hl];show _=eB x ((n,Ent.dat d)::bU ns ds);rw[aH];cases x==n<;>rfl
  by_cases hx:x=n
  ·subst hx
   rw[if_pos (by simp)]at hl';cases hl';refine⟨d,v,rfl,hv,fun hk=>?_,fun hk=>?_⟩
   ·show bindL kd (ns.zip w) _ x=_
    rw[rK hn.1,if_pos hk];exact if_pos rfl
   ·show bindC kd (ns.zip w) _ x=_
    rw[rM hn.1,if_neg hk];exact if_pos rfl
  ·rw[if_neg (by simpa using hx)]at hl'
   refine Ue (kr (kd:=kd) (m0:=if kd n=some .local then fun y=>if y=n then some v else m0 y else m0) (m1:=if kd n=some .local then m1 else fun y=>if y=n then some v else m1 y) hn.2 hw hl') fun d' v' e1 e2 e3 e4=>?_;exact⟨d',v',e1,e2,e3,e4⟩
theorem c9 {f:Addr} {body:List Stmt} {scope:Scope} {names:List Str} (O:Pw f body scope names) {X:Cx} (cx:CxOK C X k) {n:Nat} {ds:List D} {d:D} {M':MM} (hlen:ds.length=names.length)
 (hex:c7 (ex n X scope.names) body (bU names ds)=some (.ret d,M')):CallOK C (k+1) (.ref f) ds d:=by
 refine⟨fun{A s P vs} hA S lv t hr=>?_⟩;have hlv:vs.length=names.length:=hr.length.trans hlen;refine Ua (ww (O.fn C.F)) fun o ho hdat=>?_;have nM:=C.X.keeps S.g;have hsc:=O.scope C.F;refine js (RE (fd:=dy (Kf C) f) (body:=body) (binds:=names.zip vs) hA.room (nM _ _ ho) hdat (C.nolimit.keeps S.g) (RD nM (O.code C.F)) (O.body C.F) (O.bind C.F _ hlv) (O.clo C.F) ?_ ?_ (by rw[hsc];exact O.plain.1) (by rw[hsc];exact O.plain.2.1) (by rw[hsc];exact O.plain.2.2))
 ·intro x hx
  have hm:x.1∈names:=(oG hx).1;have:=O.kinds _ hm;rw[hsc];rcases cU.mp this with e|e
  ·exact .inl (bt e)
  ·exact .inr ⟨bt e,rW _ _ _ (.inl (bt e))⟩
 ·intro az x
  have hk:=x.toInCall.keep;(refine Us x.toInCall.same fun bV tk q0=>?_;subst q0);generalize hE:callEnvC (dy (Kf C) f) s.heap.objs.size f=env at x⊢;have esc:env.scope=scope:=by rw[←hE];exact hsc
  have eloc:env.locals=s.heap.objs.size:=by rw[←hE];rfl
  have ecel:env.cells=cellsFrom (s.heap.objs.size+1) scope.names []:=by rw[←hE,←hsc];rfl
  have egl:env.globals=mainGlobals:=by rw[←hE];exact O.glob C.F
  have ebi:env.builtins=builtinsNs:=by rw[←hE];exact O.bi C.F
  have efn:env.func.isSome=true:=by rw[←hE];rfl
  have fresh:∀a,s.heap.objs.size≤a→s.heap.get? a=none:=fun a q=>by
   cases e:s.heap.get? a with
   |none=>rfl
   |some o=>exact absurd (aQ e) (c5.mpr q)
  have hcl:∀y c,env.cells.lookup y=some c→s.heap.objs.size<c:=fun y c e=>by rw[←eloc];exact x.above y c (bk e)
  have bu:St C {s with heap:=bV,toks:=tk}:=S.grow hk;have bN:Keep s.heap bV:=.of hk;let μ:List Addr:=s.heap.objs.size::env.cells.map (·.2);have μf:∀a∈μ,s.heap.get? a=none:=fun a q=>by
   rcases aD.mp q with rfl|q
   ·exact eu _
   ·obtain⟨⟨y,c⟩,hm,rfl⟩:=bc.mp q
    exact fresh _ (a5 (by rw[←eloc];exact x.above y c hm))
  have μG:∀a∈μ,C.G.get? a=none:=fun a q=>by
   cases z:C.G.get? a with
   |none=>rfl
   |some o=>have e:=μf a q;rw[S.g a o z]at e;cases e
  have cellOf:∀y,env.kindOf y=some .cell→∃c,env.cells.lookup y=some c:=fun y e=>by
   have:scope.names.lookup y=some .cell:=by rw[←esc];exact e
   exact ew.mp (by rw[ecel];exact rW _ _ _ (.inl this))
  have nofree:∀y,env.kindOf y≠some .free:=fun y e=>O.nofree (y,.free) (bk (by rw[←esc];exact e)) rfl;have pq:∀a o,P a→s.heap.get? a=some o→bV.get? a=some o∧Pm P μ a:=fun a o p e=>⟨hk a o e,p,fun q=>by rw[μf a q]at e;cases e⟩;have F:FI P μ bV env (bindL env.kindOf (names.zip vs) fun _=>none) (bU names ds):=by
   refine⟨lv.keep bN,fun a q=>?_,t,by rw[esc];exact O.plain.2.2,egl,ebi,x.toInCall.ns,by rw[eloc];exact au ..,fun y e q r=>?_,fun y r=>?_,fun y c _ _ q=>?_,fun y z c q1 q2=>?_,fun y e q r=>?_,fun y z l l' v q=>?_⟩
   ·refine⟨fun z=>S.live65 (z▸μf a q),fun z=>S.live72 (z▸μf a q),?_⟩
    rcases aD.mp q with rfl|q
    ·refine Uk x.toInCall.ns fun o _ _ e _=>?_
     rw[eloc]at e;exact⟨o,e⟩
    ·obtain⟨⟨y,c⟩,hm,rfl⟩:=bc.mp q
     have hnd:(env.cells.map (·.1)).Nodup:=by rw[ecel,UQ scope.names _ 0 [] [] rfl];exact O.cellsNd
     refine Ua (x.cell y c (PD hnd hm)) fun o e _=>?_;exact⟨o,e⟩
   ·(refine Ue (kr (kd:=env.kindOf) (m0:=fun _=>none) (m1:=fun _=>none) O.nodup hr q) fun d v q0 hv h1 _=>?_;subst q0)
    exact⟨v,h1 r,Rep.mono pq hv⟩
   ·rcases r with r|r
    ·obtain⟨c,e⟩:=cellOf y r
     have:=hcl y c e;exact⟨c,_,e,fun z=>S.live65 (z▸fresh c (a5 this)),fun z=>S.live72 (z▸fresh c (a5 this)),x.cell y c e⟩
    ·exact absurd r (nofree y)
   ·exact af _ (bc.mpr ⟨_,bk q,rfl⟩)
   ·exact name_of_addr x.apart (bk q1) (bk q2)
   ·rcases r with r|r
    ·obtain⟨c,e'⟩:=cellOf y r
     (refine Ue (kr (kd:=env.kindOf) (m0:=fun _=>none) (m1:=fun _=>none) O.nodup hr q) fun d v q0 hv _ h2=>?_;subst q0);have hc:=x.cell y c e';rw[h2 (by rw[r];simp)]at hc;exact⟨c,v,d,e',hc,rfl,Rep.mono pq hv⟩
    ·exact absurd r (nofree y)
   ·refine Uf (kr (kd:=env.kindOf) (m0:=fun _=>none) (m1:=fun _=>none) O.nodup hr q) fun d v e _=>?_
    cases e
  have hX:=qN (fun st=>lT cx n (ah:=P) (env:=env) (hA.deeper (env:=env)) efn st) body;rw[esc]at hX;refine aa (hX _ _ _ _ _ {s with heap:=bV,toks:=tk} hex μG F bu) (fun fl aV q=>?_) fun _ _ z=>z.elim;obtain⟨jr,D7⟩:=q;cases fl<;>first|exact D7.elim|skip
  refine⟨jr.S,⟨fun b o n1 n2 e=>jr.k b o n1 n2 (fun q=>by rw[μf b q]at e;cases e) (hk b o e)⟩,D7⟩
end
noncomputable def ej (st:Stmt):List Str:=(fH st).args.map fun a=>a.arg
noncomputable abbrev jo (f:Addr) (st:Stmt):Prop:=Pw f (aG st) (aF st) (ej st)
noncomputable def Qy:List Str→Bool
 |[]=>true
 |x::r=>!r.contains x&&Qy r
theorem yg:∀{l:List Str},Qy l=true→l.Nodup
 |[]=>@fun _=>.nil
 |x::r=>@fun h=>by
  unfold Qy at h;rw[ao]at h;refine vG.mpr ⟨fun q=>?_,yg h.2⟩;have:=h.1;rw[gT]at this;rw[List.contains_eq_mem]at this;simp[q]at this
theorem F2 {sc:NS} {l:List Str} (h:l.all (bP sc)=true):∀x∈l,bP sc x=true:=bF.mp h
theorem CX {l:NS} (h:(l.all fun p=>p.2 !=.free)=true):∀p∈l,p.2≠cr:=fun p hp e=>by
 have:=bF.mp h p hp;rw[e]at this;cases this
theorem ji {α:Type}:∀{l:List α},l.length=1→∃a,l=[a]
 |[a],_=>⟨a,rfl⟩
theorem mR {α:Type} {n:Nat}:∀{l:List α},l.length=n+1→∃a r,l=a::r∧r.length=n
 |a::r,h=>⟨a,r,rfl,xq h⟩
noncomputable def Mm (st:Stmt):Prop:=∀(nm qn:Str) (bd:FuncBody) (sc:Scope) (gl:Addr) (clo:List (Str×Addr)) (doc pm:Value) (an:Option Addr) (cd ct:Value) (bi:Addr) (vs:List Value),vs.length=(ej st).length→
 bindArgs ⟨nm,qn,fH st,bd,sc,gl,clo,.none,.none,doc,pm,an,cd,ct,bi⟩ ⟨vs,[]⟩=pure ((ej st).zip vs)
theorem B0 {f:Addr} {st:Stmt} (m:(f,st)∈fnTab) (b:Mm st) {P:Params} {K:Frag} (h:KF P K) (vs:List Value) (hl:vs.length=(ej st).length):bindArgs (dy K f) ⟨vs,[]⟩=pure ((ej st).zip vs):=by
 have e1:(dy K f).params=fH st:=congrArg (·.2.1) (h.fn m);have e2:(dy K f).defaults=.none:=congrArg (·.2.2.2.2.2.2.1.1) (h.fn m);have e3:(dy K f).kwdefaults=.none:=congrArg (·.2.2.2.2.2.2.1.2) (h.fn m);generalize dy K f=fd at e1 e2 e3;cases fd;dsimp only at e1 e2 e3;subst e1 e2 e3;exact b _ _ _ _ _ _ _ _ _ _ _ _ vs hl
theorem dq {f:Addr} {st:Stmt} (m:(f,st)∈fnTab) (b:Mm st) (nd:Qy (ej st)=true) (kd:(ej st).all (bP (aF st).names)=true) (nf:((aF st).names.all fun p=>p.2 !=.free)=true)
 (pl:(aF st).isCoroutine=false∧(aF st).isGenerator=false∧(aF st).kind=.function) (cn:Qy ((cellsFrom 0 (aF st).names []).map (·.1))=true):jo f st where
 fn h:=congrArg (·.1) (h.fn m);body h:=congrArg (·.2.2.1) (h.fn m);scope h:=congrArg (·.2.2.2.1) (h.fn m);glob h:=congrArg (·.2.2.2.2.1.1) (h.fn m);bi h:=congrArg (·.2.2.2.2.1.2) (h.fn m);clo h:=congrArg (·.2.2.2.2.2.1) (h.fn m);code h:=congrArg (·.2.2.2.2.2.2.2) (h.fn m);bind h:=B0 m b h;nodup:=yg nd;kinds:=F2 kd;nofree:=CX nf;plain:=pl;cellsNd:=yg cn
theorem Ro:jo 49 (a7 5):=dq (ax (i:=3) (by kernel_rfl)) (fun _ _ _ _ _ _ _ _ _ _ _ _ vs h=>by obtain⟨a,rfl⟩:=ji h;kernel_rfl) (by kernel_rfl) (by kernel_rfl) (by kernel_rfl) ⟨by kernel_rfl,by kernel_rfl,by kernel_rfl⟩ (by kernel_rfl)
theorem Rn:jo 56 (a7 8):=dq (ax (i:=4) (by kernel_rfl)) (fun _ _ _ _ _ _ _ _ _ _ _ _ vs h=>by(refine Uf (mR h) fun a v1 q0 h1=>?_;subst q0);(refine Uf (mR h1) fun b v2 q0 h2=>?_;subst q0);obtain⟨c,rfl⟩:=ji h2;kernel_rfl) (by kernel_rfl) (by kernel_rfl) (by kernel_rfl) ⟨by kernel_rfl,by kernel_rfl,by kernel_rfl⟩ (by kernel_rfl)
theorem Rj:jo 84 (a7 12):=dq (ax (i:=7) (by kernel_rfl)) (fun _ _ _ _ _ _ _ _ _ _ _ _ vs h=>by(refine Uf (mR h) fun a v1 q0 h1=>?_;subst q0);obtain⟨b,rfl⟩:=ji h1;kernel_rfl) (by kernel_rfl) (by kernel_rfl) (by kernel_rfl) ⟨by kernel_rfl,by kernel_rfl,by kernel_rfl⟩ (by kernel_rfl)
theorem GR:jo 91 (a7 13):=dq (ax (i:=8) (by kernel_rfl)) (fun _ _ _ _ _ _ _ _ _ _ _ _ vs h=>by(refine Uf (mR h) fun a v1 q0 h1=>?_;subst q0);obtain⟨b,rfl⟩:=ji h1;kernel_rfl) (by kernel_rfl) (by kernel_rfl) (by kernel_rfl) ⟨by kernel_rfl,by kernel_rfl,by kernel_rfl⟩ (by kernel_rfl)
theorem N9:jo 167 (a7 68):=dq (ax (i:=9) (by kernel_rfl)) (fun _ _ _ _ _ _ _ _ _ _ _ _ vs h=>by obtain⟨a,rfl⟩:=ji h;kernel_rfl) (by kernel_rfl) (by kernel_rfl) (by kernel_rfl) ⟨by kernel_rfl,by kernel_rfl,by kernel_rfl⟩ (by kernel_rfl)
theorem N8:jo 174 (a7 69):=dq (ax (i:=10) (by kernel_rfl)) (fun _ _ _ _ _ _ _ _ _ _ _ _ vs h=>by obtain⟨a,rfl⟩:=ji h;kernel_rfl) (by kernel_rfl) (by kernel_rfl) (by kernel_rfl) ⟨by kernel_rfl,by kernel_rfl,by kernel_rfl⟩ (by kernel_rfl)
theorem N7:jo 179 (a7 71):=dq (ax (i:=11) (by kernel_rfl)) (fun _ _ _ _ _ _ _ _ _ _ _ _ vs h=>by obtain⟨a,rfl⟩:=ji h;kernel_rfl) (by kernel_rfl) (by kernel_rfl) (by kernel_rfl) ⟨by kernel_rfl,by kernel_rfl,by kernel_rfl⟩ (by kernel_rfl)
theorem N6:jo 184 (a7 72):=dq (ax (i:=12) (by kernel_rfl)) (fun _ _ _ _ _ _ _ _ _ _ _ _ vs h=>by obtain⟨a,rfl⟩:=ji h;kernel_rfl) (by kernel_rfl) (by kernel_rfl) (by kernel_rfl) ⟨by kernel_rfl,by kernel_rfl,by kernel_rfl⟩ (by kernel_rfl)
theorem N5:jo 191 (a7 73):=dq (ax (i:=13) (by kernel_rfl)) (fun _ _ _ _ _ _ _ _ _ _ _ _ vs h=>by(refine Uf (mR h) fun a v1 q0 h1=>?_;subst q0);obtain⟨b,rfl⟩:=ji h1;kernel_rfl) (by kernel_rfl) (by kernel_rfl) (by kernel_rfl) ⟨by kernel_rfl,by kernel_rfl,by kernel_rfl⟩ (by kernel_rfl)
theorem N4:jo 198 (a7 74):=dq (ax (i:=14) (by kernel_rfl)) (fun _ _ _ _ _ _ _ _ _ _ _ _ vs h=>by(refine Uf (mR h) fun a v1 q0 h1=>?_;subst q0);(refine Uf (mR h1) fun b v2 q0 h2=>?_;subst q0);obtain⟨c,rfl⟩:=ji h2;kernel_rfl) (by kernel_rfl) (by kernel_rfl) (by kernel_rfl) ⟨by kernel_rfl,by kernel_rfl,by kernel_rfl⟩ (by kernel_rfl)
theorem N3:jo 203 (a7 75):=dq (ax (i:=15) (by kernel_rfl)) (fun _ _ _ _ _ _ _ _ _ _ _ _ vs h=>by(refine Uf (mR h) fun a v1 q0 h1=>?_;subst q0);obtain⟨b,rfl⟩:=ji h1;kernel_rfl) (by kernel_rfl) (by kernel_rfl) (by kernel_rfl) ⟨by kernel_rfl,by kernel_rfl,by kernel_rfl⟩ (by kernel_rfl)
theorem N2:jo 210 (a7 76):=dq (ax (i:=16) (by kernel_rfl)) (fun _ _ _ _ _ _ _ _ _ _ _ _ vs h=>by(refine Uf (mR h) fun a v1 q0 h1=>?_;subst q0);obtain⟨b,rfl⟩:=ji h1;kernel_rfl) (by kernel_rfl) (by kernel_rfl) (by kernel_rfl) ⟨by kernel_rfl,by kernel_rfl,by kernel_rfl⟩ (by kernel_rfl)
theorem N1:jo 217 (a7 77):=dq (ax (i:=17) (by kernel_rfl)) (fun _ _ _ _ _ _ _ _ _ _ _ _ vs h=>by(refine Uf (mR h) fun a v1 q0 h1=>?_;subst q0);obtain⟨b,rfl⟩:=ji h1;kernel_rfl) (by kernel_rfl) (by kernel_rfl) (by kernel_rfl) ⟨by kernel_rfl,by kernel_rfl,by kernel_rfl⟩ (by kernel_rfl)
theorem N0:jo 224 (a7 78):=dq (ax (i:=18) (by kernel_rfl)) (fun _ _ _ _ _ _ _ _ _ _ _ _ vs h=>by(refine Uf (mR h) fun a v1 q0 h1=>?_;subst q0);obtain⟨b,rfl⟩:=ji h1;kernel_rfl) (by kernel_rfl) (by kernel_rfl) (by kernel_rfl) ⟨by kernel_rfl,by kernel_rfl,by kernel_rfl⟩ (by kernel_rfl)
theorem NZ:jo 229 (a7 79):=dq (ax (i:=19) (by kernel_rfl)) (fun _ _ _ _ _ _ _ _ _ _ _ _ vs h=>by obtain⟨a,rfl⟩:=ji h;kernel_rfl) (by kernel_rfl) (by kernel_rfl) (by kernel_rfl) ⟨by kernel_rfl,by kernel_rfl,by kernel_rfl⟩ (by kernel_rfl)
theorem NY:jo 234 (a7 80):=dq (ax (i:=20) (by kernel_rfl)) (fun _ _ _ _ _ _ _ _ _ _ _ _ vs h=>by(refine Uf (mR h) fun a v1 q0 h1=>?_;subst q0);obtain⟨b,rfl⟩:=ji h1;kernel_rfl) (by kernel_rfl) (by kernel_rfl) (by kernel_rfl) ⟨by kernel_rfl,by kernel_rfl,by kernel_rfl⟩ (by kernel_rfl)
theorem NX:jo 239 (a7 81):=dq (ax (i:=21) (by kernel_rfl)) (fun _ _ _ _ _ _ _ _ _ _ _ _ vs h=>by obtain⟨a,rfl⟩:=ji h;kernel_rfl) (by kernel_rfl) (by kernel_rfl) (by kernel_rfl) ⟨by kernel_rfl,by kernel_rfl,by kernel_rfl⟩ (by kernel_rfl)
theorem Od:jo 115 (gI 2):=dq (ax (i:=23) (by kernel_rfl)) (fun _ _ _ _ _ _ _ _ _ _ _ _ vs h=>by obtain⟨a,rfl⟩:=ji h;kernel_rfl) (by kernel_rfl) (by kernel_rfl) (by kernel_rfl) ⟨by kernel_rfl,by kernel_rfl,by kernel_rfl⟩ (by kernel_rfl)
theorem Oc:jo 122 (gI 3):=dq (ax (i:=24) (by kernel_rfl)) (fun _ _ _ _ _ _ _ _ _ _ _ _ vs h=>by(refine Uf (mR h) fun a v1 q0 h1=>?_;subst q0);obtain⟨b,rfl⟩:=ji h1;kernel_rfl) (by kernel_rfl) (by kernel_rfl) (by kernel_rfl) ⟨by kernel_rfl,by kernel_rfl,by kernel_rfl⟩ (by kernel_rfl)
theorem Ob:jo 129 (gI 4):=dq (ax (i:=25) (by kernel_rfl)) (fun _ _ _ _ _ _ _ _ _ _ _ _ vs h=>by(refine Uf (mR h) fun a v1 q0 h1=>?_;subst q0);obtain⟨b,rfl⟩:=ji h1;kernel_rfl) (by kernel_rfl) (by kernel_rfl) (by kernel_rfl) ⟨by kernel_rfl,by kernel_rfl,by kernel_rfl⟩ (by kernel_rfl)
theorem Oa:jo 143 (gI 6):=dq (ax (i:=26) (by kernel_rfl)) (fun _ _ _ _ _ _ _ _ _ _ _ _ vs h=>by(refine Uf (mR h) fun a v1 q0 h1=>?_;subst q0);obtain⟨b,rfl⟩:=ji h1;kernel_rfl) (by kernel_rfl) (by kernel_rfl) (by kernel_rfl) ⟨by kernel_rfl,by kernel_rfl,by kernel_rfl⟩ (by kernel_rfl)
section
variable {n:Nat} {X:Cx} {sc:NS} {M:MM}
theorem fg {c k p}:ev (n+1) X sc M (.Constant c k p)=wD c:=rfl
theorem p8 {x p}:ev (n+1) X sc M (.Name x p)=mD sc M x:=rfl
theorem tW {l op r p} (h:behindInMarks op r=false):ev (n+1) X sc M (.Compare l [op] [r] p)=(ja (ev n X sc M) sc M l).bind fun a=>(ja (ev n X sc M) sc M r).bind fun b=>(ia op a b).map .bool:=if_neg (by rw[h];decide)
theorem yL {t a b p}:ev (n+1) X sc M (.IfExp t a b p)=(match mT n X sc M t with|some true=>ev n X sc M a|some false=>ev n X sc M b|none=>none):=by
 show SB (mT n X sc M t) (ev n X sc M a) (ev n X sc M b)=_;unfold SB;cases mT n X sc M t with
 |none=>rfl
 |some r=>cases r<;>rfl
theorem Kc {es p} (h:(bK es&&decide (es.length≤1000000))=true):ev (n+1) X sc M (.List es p)=(di (ev n X sc M) es).map .list:=if_pos h
theorem GY {es k p} (h:(bK es&&decide (es.length≤1000000))=true):ev (n+1) X sc M (.Tuple es k p)=(di (ev n X sc M) es).map .tup:=if_pos h
theorem tZ {elt x px it ifs s p} (h:nF sc s=true) (h2:((s.names.lookup x==some .local)&&!gK it)=true):ev (n+1) X sc M (.ListComp elt [⟨.Name x px,it,ifs,0⟩] s p)=
 (zM n X sc M it).bind fun ds=>(fw (g1 (ev n X (cW sc s.names)) (mT n X (cW sc s.names)) (capt (cW sc s.names) M) x elt ifs) ds).bind fun l=>if l.length≤1000000 then some (.list l)else none:=by
 exact(if_pos h).trans (if_pos h2)
theorem G1 {elt x px it y py it2 s p} (h:nF sc s=true) (h2:((s.names.lookup x==some .local)&&(s.names.lookup y==some .local)&&decide (y≠x)&&!gK it&&!gK it2)=true):ev (n+1) X sc M (.ListComp elt [⟨.Name x px,it,[],0⟩,⟨.Name y py,it2,[],0⟩] s p)=
 (zM n X sc M it).bind fun ds=>(fw (g2 (ev n X (cW sc s.names)) (zM n X (cW sc s.names)) (capt (cW sc s.names) M) x y elt it2) ds).bind fun l=>if l.length≤1000000 then some (.list l)else none:=by
 exact(if_pos h).trans (if_pos h2)
theorem Kb {o name ap args p} (h:(bK args&&decide (args.length≤20)&&(ap.endLine==p.line)&&!jj o)=true):ev (n+1) X sc M (.Call (.Attribute o name ap) args [] p)=
 (ja (ev n X sc M) sc M o).bind fun d=>Oq (ev n X sc M) (ja (ev n X sc M) sc M) X name args d:=
 if_pos (by simpa using h)
theorem Dr {f np args p} (h:(bK args&&dY sc f&&tC f)=true):ev (n+1) X sc M (.Call (.Name f np) args [] p)=(di (ja (ev n X sc M) sc M) args).bind fun as=>ox f as:=by
 rw[ao]at h;exact(if_pos (by simpa using h.1)).trans (if_pos h.2)
theorem AN {np args p} (h:(bK args&&dY sc (ofString "tuple"))=true):ev (n+1) X sc M (.Call (.Name (ofString "tuple") np) args [] p)=(di (ja (ev n X sc M) sc M) args).bind fun as=>Ek as:=
 (if_pos (by simpa using h)).trans ((if_neg (by decide+kernel)).trans (if_pos rfl))
theorem AO {f np args p} (h:(bK args&&dY sc f&&!tC f&&decide (f≠ofString "tuple"))=true):ev (n+1) X sc M (.Call (.Name f np) args [] p)=(di (ev n X sc M) args).bind fun as=>X.call f as:=by
 simp only[ao,gT]at h;exact(if_pos (by simpa using h.1.1)).trans ((if_neg (by rw[h.1.2];decide)).trans (if_neg (of_decide_eq_true h.2)))
theorem Kd {v name p} (h:uB sc v name=none) (h2:jj v=false):ev (n+1) X sc M (.Attribute v name p)=(ev n X sc M v).bind fun d=>ri d name:=by
 show(uB sc v name).or (if jj v=true then none else _)=_;rw[h,h2];rfl
theorem On {v name p d} (h:uB sc v name=some d):ev (n+1) X sc M (.Attribute v name p)=some d:=by
 show(uB sc v name).or _=_;rw[h];rfl
theorem G0 {v lo hi st p q}:ev (n+1) X sc M (.Subscript v (.Slice lo hi st p) q)=(ja (ev n X sc M) sc M v).bind fun d=>(mB (ev n X sc M) lo).bind fun a=>(mB (ev n X sc M) hi).bind fun b=>(mB (ev n X sc M) st).bind fun c=>gt d a b c:=rfl
theorem GZ {v i p} (h:we i=true):ev (n+1) X sc M (.Subscript v i p)=(ja (ev n X sc M) sc M v).bind fun d=>(ev n X sc M i).bind fun k=>ef d k:=by
 cases i with
 |Slice=>cases h
 |_=>rfl
noncomputable def rc (e:Expr):Bool:=(yi e).1
theorem qR {f:Expr→Option D} {e:Expr} (h:rc e=false):ja f sc M e=f e:=by
 show(match(if rc e=true then _ else none)with|some d=>some d|none=>f e)=_;rw[h];rfl
theorem q5 {x p}:Jn sc M (.Name x p)=(jc sc x M).map .list:=rfl
theorem xX {f:Expr→Option D} {x p} (h:jc sc x M=none):ja f sc M (.Name x p)=f (.Name x p):=by
 unfold ja;rw[q5,h];rfl
theorem I4 {f:Expr→Option D} {x p l} (h:jc sc x M=some l):ja f sc M (.Name x p)=some (.list l):=by
 unfold ja;rw[q5,h];rfl
end
section
variable {n:Nat} {X:Cx} {sc:NS} {M:MM}
noncomputable def kj (sc:NS) (x:Str):Bool:=!decide (x=rU∨x=Ay)&&(match sc.lookup x with|some .local=>true|_=>false)
noncomputable def BA (sc:NS) (x:Str):Bool:=!decide (x=rU∨x=Ay)&&(match sc.lookup x with|some .cell=>true|some .free=>true|_=>false)
noncomputable def Kn:Option Ent→Option D
 |some (.dat d)=>some d
 |_=>none
theorem lQ {x:Str} (h:kj sc x=true):mD sc M x=Kn (M.lookup x):=by
 unfold kj at h;unfold mD;rw[ao]at h;rw[if_neg (by simpa using h.1)];have h2:=h.2;revert h2;generalize sc.lookup x=r;cases r with
 |none=>intro h2;cases h2
 |some kd=>cases kd<;>intro h2<;>first|rfl|cases h2
theorem u0 {x:Str} (h:BA sc x=true):mD sc M x=Kn (M.lookup x):=by
 unfold BA at h;unfold mD;rw[ao]at h;rw[if_neg (by simpa using h.1)];have h2:=h.2;revert h2;generalize sc.lookup x=r;cases r with
 |none=>intro h2;cases h2
 |some kd=>cases kd<;>intro h2<;>first|rfl|cases h2
theorem Av {x:Str} {d:D} (h:(dY sc x&&!decide (x=Ay))=true):mD sc M x=gD x:=by
 unfold dY at h;unfold mD;simp only[ao]at h;rw[if_neg (by rw[not_or];exact⟨of_decide_eq_true h.1.1,by simpa using h.2⟩)];have h2:=h.1.2;revert h2;generalize sc.lookup x=r;cases r with
 |none=>intro h2;cases h2
 |some kd=>cases kd<;>intro h2<;>first|rfl|cases h2
noncomputable def T6 (r:Option D):Option Ent→Option D
 |some (.own l)=>some (.list l)
 |_=>r
theorem Bj {r:Option D} {d:D}:T6 r (some (.dat d))=r:=rfl
theorem Bi {f:Expr→Option D} {x p} (h:kj sc x=true):ja f sc M (.Name x p)=T6 (f (.Name x p)) (M.lookup x):=by
 unfold kj at h;rw[ao]at h;have h1:¬(x=rU∨x=Ay):=by simpa using h.1
 rw[not_or]at h1;unfold ja;rw[q5];unfold jc;rw[if_neg h1.1];have h2:=h.2;revert h2;generalize sc.lookup x=r;generalize M.lookup x=b;cases r with
 |none=>intro h2;cases h2
 |some kd=>cases kd<;>intro h2<;>first|(cases h2;done)|(cases b with|none=>rfl|some e=>cases e<;>rfl)
theorem I5 {f:Expr→Option D} {x p} (h:(match sc.lookup x with|some .local=>false|_=>true)=true):ja f sc M (.Name x p)=f (.Name x p):=by
 refine xX ?_;unfold jc;split
 ·rfl
 ·revert h
  generalize sc.lookup x=r;generalize M.lookup x=b;cases r with
  |none=>intro _;rfl
  |some kd=>cases kd<;>intro h<;>first|rfl|cases h
theorem eQ {x:Str} {e:Ent} {M:MM}:eB x ((x,e)::M)=some e:=by simp
theorem ee {x y:Str} {e:Ent} {M:MM} (h:(x==y)=false):eB x ((y,e)::M)=eB x M:=by rw[aH,h]
theorem ic {x:Str} {e:Ent} {M:MM}:(M.set x e).lookup x=some e:=by rw[MM.set_lookup,if_pos rfl]
theorem f8 {x y:Str} {e:Ent} {M:MM} (h:decide (y≠x)=true):(M.set x e).lookup y=M.lookup y:=by rw[MM.set_lookup,if_neg (of_decide_eq_true h)]
theorem Hq {sc:NS} {x:Str} {M:MM} (h:(sc.lookup x==some .cell||sc.lookup x==some .free)=true):(capt sc M).lookup x=M.lookup x:=by
 unfold capt;rw[gq (fun y=>sc.lookup y==some .cell||sc.lookup y==some .free),if_pos h]
theorem FM {f:Expr→Option D}:di f []=some []:=rfl
theorem oh {f:Expr→Option D} {e:Expr} {r:List Expr}:di f (e::r)=(f e).bind fun d=>(di f r).bind fun ds=>some (d::ds):=by
 show(match f e,di f r with|some d,some ds=>some (d::ds)|_,_=>none)=_;cases f e with
 |none=>rfl
 |some d=>cases di f r<;>rfl
theorem kO {f:D→Option (List D)} {d:D} {r:List D}:fw f (d::r)=(f d).bind fun x=>(fw f r).bind fun xs=>some (x++xs):=by
 show(match f d,fw f r with|some x,some xs=>some (x++xs)|_,_=>none)=_;cases f d with
 |none=>rfl
 |some d=>cases fw f r<;>rfl
theorem rh {α:Type} {f:D→Option (List D)} {g h:α→D}:∀{l:List α},(∀a∈l,f (g a)=some [h a])→fw f (l.map g)=some (l.map h)
 |[]=>@fun _=>rfl
 |a::l=>@fun H=>by
  rw[bg,kO,H a (au ..),rh fun b q=>H b (af _ q)];rfl
theorem GN {fE:MM→Expr→Option D} {fT:MM→Expr→Option Bool} {x:Str} {elt:Expr} {d:D}:g1 fE fT M x elt [] d=(fE (M.set x (.dat d)) elt).bind fun v=>some [v]:=by
 show(fE (M.set x (.dat d)) elt).map (fun v=>[v])=_;cases fE (M.set x (.dat d)) elt<;>rfl
noncomputable def Fi:Expr→Bool
 |.Call (.Name _ _) _ _ _=>false
 |_=>true
theorem vn {e} (h:Fi e=true):zM (n+1) X sc M e=(ev n X sc M e).bind iZ:=by
 cases e with
 |Call f a k p=>cases f with
  |Name=>cases h
  |_=>rfl
 |_=>rfl
theorem Ds {np args p} (h:(bK args&&dY sc (ofString "range"))=true):zM (n+1) X sc M (.Call (.Name (ofString "range") np) args [] p)=(di (ev n X sc M) args).bind iV:=by
 exact if_pos (by simpa using h)
theorem fU {l:List D} (h:l.length≤1000000):iZ (.list l)=some l:=if_pos h
theorem ve {l:List D} (h:l.length≤1000000):iZ (.tup l)=some l:=if_pos h
theorem Ke {x p}:mT (n+1) X sc M (.UnaryOp .Not x p)=(mT n X sc M x).map (!·):=rfl
theorem Kg {xs p}:mT (n+1) X sc M (.BoolOp .And xs p)=nK (mT n X sc M) xs:=rfl
theorem Oo {xs p}:mT (n+1) X sc M (.BoolOp .Or xs p)=uD (mT n X sc M) xs:=rfl
theorem BN {l nv rs p} (h:lastMarks nv rs=false):mT (n+1) X sc M (.Compare l nv rs p)=(ja (ev n X sc M) sc M l).bind fun a=>lj (ja (ev n X sc M) sc M) a nv rs:=if_neg (by rw[h];decide)
noncomputable def Fh:Expr→Bool
 |.UnaryOp .Not ..=>false
 |.BoolOp ..=>false
 |.Compare ..=>false
 |.IfExp ..=>false
 |_=>true
theorem rk {e} (h:Fh e=true):mT (n+1) X sc M e=(ja (ev n X sc M) sc M e).bind ux:=by
 cases e with
 |UnaryOp op x p=>cases op with
  |Not=>cases h
  |_=>rfl
 |BoolOp|Compare|IfExp=>cases h
 |_=>rfl
theorem vr {f:Expr→Option D} {a:D} {op:CmpOp} {r:Expr}:lj f a [op] [r]=(f r).bind fun b=>ia op a b:=rfl
theorem DA {f:Expr→Option D} {a:D} {op op':CmpOp} {nv:List CmpOp} {r r':Expr} {rs:List Expr}:lj f a (op::op'::nv) (r::r'::rs)=(f r).bind fun b=>match ia op a b with
 |some true=>lj f b (op'::nv) (r'::rs)
 |some false=>some false
 |none=>none:=rfl
end
noncomputable def S (l:List Nat):Str:=⟨l.toArray⟩
theorem uf (a b:List Nat):S a++S b=S (a++b):=by
 show(⟨a.toArray++b.toArray⟩:Str)=_;simp[S]
theorem i5 (a:List Nat):(S a).length=a.length:=by simp[S,jO]
theorem TO (x:Str):S x.cps.toList=x:=by simp[S]
theorem rO {a b:List Nat} (h:S a=S b):a=b:=by
 have:=congrArg (fun x:Str=>x.cps.toList) h;simpa[S]using this
theorem EX (c:Nat):∀(n:Nat) (acc:Array Nat),((aA n #[c]).foldl (·++·) acc).toList=acc.toList++aA n c
 |0=>@fun acc=>by simp
 |n+1=>@fun acc=>by
  rw[eP,gG,EX c n];simp[eP]
theorem Sc (c:Nat) (n:Int):j7 (S [c]) n=S (aA n.toNat c):=by
 unfold j7;have:=EX c n.toNat #[];show(⟨(aA n.toNat #[c]).foldl (·++·) #[]⟩:Str)=_;rw[←TO ⟨_⟩];exact congrArg S (by simpa using this)
theorem F9 (xs:List (List Nat)):Sb (S []) (xs.map S)=S xs.flatten:=by
 induction xs with
 |nil=>rfl
 |cons x r ih=>
  cases r with
  |nil=>simp[Sb]
  |cons y r=>
   show S x++S []++Sb (S []) ((y::r).map S)=_;rw[ih,uf,uf];simp
theorem NA (xs:List (List Nat)):HN (S []) (xs.map S)=S xs.flatten:=by
 unfold HN;rw[StrLaws.glued_eq_join,F9]
theorem Ga {xs:List (List Nat)} (h:xs.flatten.length≤1000000):JoinOk (S []) (xs.map S)=true:=by
 have key:∀(ys:List (List Nat)) (n:Nat),(ys.map S).foldl (fun a x=>a+x.length+(S []).length) n=n+ys.flatten.length:=by
  intro ys;induction ys with
  |nil=>intro n;simp
  |cons y r ih=>intro n;rw[bg,gG,ih,i5,i5];simp;exact(iq 0x61ef20c4f23c62:)
 unfold JoinOk;rw[List.foldl_toArray,key,gT];unfold Builtin.Str.tooLong;refine decide_eq_false ?_;show¬(0+xs.flatten.length>2^24);lia
theorem Hx {a b:Int}:eS .Add (.int a) (.int b)=some (.int (a+b)):=rfl
theorem dz {a b:Int} (h:sm a∧sm b):eS .Mult (.int a) (.int b)=some (.int (a*b)):=if_pos h
theorem qv {a b:Int} (h:b≠0∧sm b):eS .FloorDiv (.int a) (.int b)=some (.int (a.fdiv b)):=if_pos h
theorem zc {a b:Int} (h:b≠0):eS .Mod (.int a) (.int b)=some (.int (a.fmod b)):=if_pos h
theorem gf {x y:List Nat} (h:x.length+y.length≤1000000):eS .Add (.str (S x)) (.str (S y))=some (.str (S (x++y))):=by
 show(if(S x).length+(S y).length≤1000000 then some (D.str (S x++S y))else none)=_;rw[i5,i5,if_pos h,uf]
theorem zb {c:Nat} {n:Int} (h:0≤n∧n≤1000000):eS .Mult (.str (S [c])) (.int n)=some (.str (S (aA n.toNat c))):=by
 show(if(S [c]).length≤1∧0≤n∧n≤1000000 then some (D.str (j7 (S [c]) n))else none)=_;rw[i5,if_pos ⟨ba _,h⟩,Sc]
theorem l5 {x y:List D} (h:x.length+y.length≤1000000):eS .Add (.list x) (.list y)=some (.list (x++y)):=if_pos h
theorem EI {a:Int} (h:a.natAbs<2^4000):sm a:=ix h (H9 (by decide) (by decide))
theorem cL {a:Int} (h:-1000000000000≤a∧a≤1000000000000):sm a:=by
 refine EI (ca (m:=1000000000000) (by exact(iG 0xe53a3529440010e16abd1a94a20008722a89f46a52880021c2001c8:) h) ?_);exact aP (by decide:1000000000000<2^40) (cM (by decide) (by decide))
theorem IO {xs:List (List Nat)} (h:xs.flatten.length≤1000000):Cy (ofString "join") (.str (S [])) [.list (xs.map fun l=>.str (S l))]=some (.str (S xs.flatten)):=by
 unfold Cy;rw[if_pos rfl];have e:qL (xs.map fun l=>D.str (S l))=some (xs.map S):=by
  have:=z6 (xs.map S);rwa[be]at this
 show(qL (xs.map fun l=>D.str (S l))).bind _=_;rw[e];show(if JoinOk (S []) (xs.map S)=true then some (D.str (HN (S []) (xs.map S)))else none)=_;rw[if_pos (Ga h),NA]
theorem j8 {f:MM→Stmt→Option (Fl×MM)} {s:Stmt} {r:List Stmt} {M M':MM} {d:D} (h:f M s=some (.ret d,M')):c7 f (s::r) M=some (.ret d,M'):=by
 show(match f M s with|some (.next,M')=>c7 f r M'|q=>q)=_;rw[h]
theorem dO {f:MM→Stmt→Option (Fl×MM)} {s:Stmt} {r:List Stmt} {M M':MM} {q:Option (Fl×MM)} (h:f M s=some (.next,M')) (h2:c7 f r M'=q):c7 f (s::r) M=q:=by
 show(match f M s with|some (.next,M')=>c7 f r M'|q=>q)=_;rw[h];exact h2
theorem yK {f:MM→Expr→Option D} {M:MM} {e:Expr} {d:D} (h:f M e=some d):Dq f M e=some (d,M):=by unfold Dq;rw[h]
theorem ot {n X sc M e p d} (h:ev (n+1) X sc M e=some d):ex (n+1) X sc M (.Return (some e) p)=some (.ret d,M):=by
 rw[sy];rw[yK (f:=ev (n+1) X sc) h];rfl
noncomputable def dp (rs:List Int) (t:Int):List Nat:=(rs.map fun r=>aA r.toNat 32++[9]).flatten++aA t.toNat 32
noncomputable def X0:Cx:=⟨fun _ _=>none,fun _ _ _=>none⟩
theorem d8 {C:aU} {k:Nat}:CxOK C X0 k:=⟨fun h=>(nomatch h),fun h=>(nomatch h)⟩
theorem CallOK.le {C:aU} {k k':Nat} {fv:Value} {ds:List D} {d:D} (x:CallOK C k fv ds d) (h:k≤k'):CallOK C k' fv ds d:=⟨fun hA=>x.run (hA.le h)⟩
section
variable {n:Nat} {X:Cx} {sc:NS} {M M':MM}
theorem wx {x px e p d} (hx:bP sc x=true) (hown:(if sc.lookup x==some .local then qZ (ev (n+1) X sc M) sc M e else none)=none) (h:ev (n+1) X sc M e=some d):ex (n+1) X sc M (.Assign [.Name x px] e p)=some (.next,M.set x (.dat d)):=by
 rw[sA];rw[if_pos hx];unfold O3 wT;rw[hown,h];rfl
theorem GW {x px e p l} (hx:(sc.lookup x==some .local)=true) (h:qZ (ev (n+1) X sc M) sc M e=some l):ex (n+1) X sc M (.Assign [.Name x px] e p)=some (.next,M.set x (.own l)):=by
 rw[sA];rw[if_pos (by unfold bP;rw[hx];rfl)];unfold O3 wT;rw[if_pos hx,h];rfl
noncomputable def Au:Expr→Bool
 |.List ..=>false
 |.BinOp _ .Add _ _=>false
 |_=>true
theorem Fu {f:Expr→Option D} {e:Expr} (h:Au e=true):qZ f sc M e=none:=by
 cases e with
 |List=>cases h
 |BinOp l op r p=>cases op with
  |Add=>cases h
  |_=>rfl
 |_=>rfl
theorem lU {x px e p d} (hx:bP sc x=true) (hown:Au e=true) (h:ev (n+1) X sc M e=some d):ex (n+1) X sc M (.Assign [.Name x px] e p)=some (.next,M.set x (.dat d)):=
 wx hx (by rw[Fu hown];split<;>rfl) h
theorem BM {x px e p d} (hx:(sc.lookup x==some .cell)=true) (h:ev (n+1) X sc M e=some d):ex (n+1) X sc M (.Assign [.Name x px] e p)=some (.next,M.set x (.dat d)):=
 wx (by unfold bP;rw[hx,Bool.or_true]) (by rw[bt hx];rfl) h
theorem yb {f:Expr→Option D} {l r:Expr} {p:Pos} {a:Int} (h:ja f sc M l=some (.int a)):qZ f sc M (.BinOp l .Add r p)=none:=by
 show((ja f sc M l).bind ym).bind _=none;rw[h];rfl
theorem ya {f:Expr→Option D} {l r:Expr} {p:Pos} {a:Str} (h:ja f sc M l=some (.str a)):qZ f sc M (.BinOp l .Add r p)=none:=by
 show((ja f sc M l).bind ym).bind _=none;rw[h];rfl
theorem Fw {f:Expr→Option D} {es:List Expr} {p:Pos} (h:(bK es&&decide (es.length≤1000000))=true):qZ f sc M (.List es p)=di f es:=if_pos h
theorem Jl {f:Expr→Option D} {l r:Expr} {p:Pos} {a b:List D} (h1:ja f sc M l=some (.list a)) (h2:ja f sc M r=some (.list b)) (h3:a.length+b.length≤1000000):qZ f sc M (.BinOp l .Add r p)=some (a++b):=by
 show((ja f sc M l).bind ym).bind (fun a=>((ja f sc M r).bind ym).bind fun b=>if a.length+b.length≤1000000 then some (a++b)else none)=_;rw[h1,h2];exact if_pos h3
theorem wy {x px it b p ds} (h:(bP sc x&&!gK it)=true) (h2:zM (n+1) X sc M it=some ds):ex (n+1) X sc M (.For (.Name x px) it b [] p)=sw (c7 (ex n X sc) b) x ds M:=by
 rw[J6];rw[if_pos h,h2];rfl
theorem mG {t b o p r} (h:mT (n+1) X sc M t=some r):ex (n+1) X sc M (.If t b o p)=if r=true then c7 (ex n X sc) b M else c7 (ex n X sc) o M:=by
 rw[Oi,h];cases r<;>rfl
theorem Ol {c pc ap e p p' l d} (h:(bK [e]&&(ap.endLine==p.line))=true) (h1:jc sc c M=some l) (h2:ev (n+1) X sc M e=some d) (h3:l.length≤1000000):ex (n+1) X sc M (.Expr (.Call (.Attribute (.Name c pc) (ofString "append") ap) [e] [] p) p')=some (.next,M.set c (.own (l++[d]))):=by
 rw[J9];rw[ao]at h;rw[if_pos (by rw[h.1,h.2];decide+kernel)];unfold HA;rw[h1,h2];exact if_pos h3
theorem lP {c:Str} {l:List D} (h:kj sc c=true) (h2:M.lookup c=some (.own l)):jc sc c M=some l:=by
 unfold kj at h;rw[ao]at h;have h1:¬(c=rU∨c=Ay):=by simpa using h.1
 rw[not_or]at h1;unfold jc;rw[if_neg h1.1,h2];have h3:=h.2;revert h3;generalize sc.lookup c=r;cases r with
 |none=>intro h2;cases h2
 |some kd=>cases kd<;>intro h2<;>first|rfl|cases h2
theorem AM {e p d} (h:Dq (ev (n+1) X sc) M e=some (d,M')):ex (n+1) X sc M (.Return (some e) p)=some (.ret d,M'):=by
 rw[sy];rw[h];rfl
theorem Ka {f:MM→Expr→Option D} {M:MM} {e:Expr} {d:D} (h0:f M e=none) (h:f (frz M) e=some d):Dq f M e=some (d,frz M):=by unfold Dq;rw[h0,h];rfl
theorem wr {b:MM→Option (Fl×MM)} {x:Str} {M:MM}:sw b x [] M=some (.next,M):=rfl
theorem hU {b:MM→Option (Fl×MM)} {x:Str} {d:D} {r:List D} {M M':MM} (h:b (M.set x (.dat d))=some (.next,M')):sw b x (d::r) M=sw b x r M':=by
 show(match b (M.set x (.dat d))with
  |some (.next,M')=>sw b x r M'
  |some (.brk,M')=>some (.next,M')
  |some (.ret v,M')=>some (.ret v,M')
  |none=>none)=_;rw[h]
end
noncomputable def lW (sz:Int) (rs:List Int) (c:Int):Int:=rs.foldl (fun c r=>(c+r).fdiv sz*sz+sz) c
noncomputable def oB (rs:List Int) (t:Int):List Int:=[1,2,3,4].map fun sz=>lW sz rs 0+t
noncomputable def Has (M L:MM):Prop:=∀x e,L.lookup x=some e→M.lookup x=some e
theorem Has.set {M L:MM} {x:Str} {e:Ent} (h:Has M L):Has (M.set x e) ((x,e)::L):=fun y e' q=>by
 rw[MM.set_lookup];by_cases hy:y=x
 ·subst hy
  rw[eQ]at q;rw[if_pos rfl];exact q
 ·rw[if_neg hy]
  rw[ee (by simpa using hy)]at q;exact h y e' q
theorem Has.self {M:MM}:Has M M:=fun _ _ q=>q
theorem Has.nil {M:MM}:Has M []:=fun _ _ q=>nomatch q
theorem Has.add {M L:MM} {x:Str} {e:Ent} (h:M.lookup x=some e) (H:Has M L):Has M ((x,e)::L):=fun y e' q=>by
 rw[aH]at q;cases z:y==x with
 |true=>rw[z]at q;cases q;rw[bt z];exact h
 |false=>rw[z]at q;exact H y e' q
set_option genInjectivity false in
inductive Rq where
 |b (op:Operator) (x y r:D)
 |c (op:CmpOp) (x y:D) (r:Bool)
 |i (x y r:D)
 |s (x:D) (lo hi st:Option Int) (r:D)
 |f (f:Str) (as:List D) (r:D)
 |g (f:Str) (as:List D) (r:D)
 |m (f:Str) (l as:List D) (r:D)
 |t (f:Str) (x:D) (as:List D) (r:D)
 |e (n:Nat) (L:MM) (e:Expr) (r:D)
 |w (b r:Bool)
 |p (P:Prop)
 |a (as ds:List D)
 |j (d:D) (ds:List D)
 |x (n:Nat) (L:MM) (st:Stmt) (r:Fl×MM)
noncomputable def Rq.d:Rq→D
 |.b _ _ _ r=>r
 |.i _ _ r=>r
 |.s _ _ _ _ r=>r
 |.f _ _ r=>r
 |.g _ _ r=>r
 |.m _ _ _ r=>r
 |.t _ _ _ r=>r
 |.e _ _ _ r=>r
 |_=>.none
noncomputable def Rq.bo:Rq→Bool
 |.c _ _ _ r=>r
 |.w _ r=>r
 |_=>false
noncomputable def Rq.ds:Rq→List D
 |.a _ r=>r
 |.j _ r=>r
 |_=>[]
noncomputable def Rq.fm:Rq→Fl×MM
 |.x _ _ _ r=>r
 |_=>(.next,[])
noncomputable def Rq.L:Rq→MM
 |.e _ L _ _=>L
 |.x _ L _ _=>L
 |_=>[]
noncomputable def Rq.n:Rq→Nat
 |.e k _ _ _=>k
 |_=>0
noncomputable def Rq.k:Rq→Nat
 |.w _ _=>1
 |.x _ _ _ _=>2
 |_=>0
noncomputable abbrev gQ (n:Nat) (X:Cx) (sc:NS) (L:MM) (e:Expr) (r:D):Prop:=∀M,Has M L→ev n X sc M e=some r
noncomputable abbrev uF (n:Nat) (X:Cx) (sc:NS) (L:MM) (e:Expr) (r:Bool):Prop:=∀M,Has M L→mT n X sc M e=some r
noncomputable abbrev ue (n:Nat) (X:Cx) (sc:NS) (L:MM) (e:Expr) (r:List D):Prop:=∀M,Has M L→zM n X sc M e=some r
noncomputable abbrev jx (n:Nat) (X:Cx) (sc:NS) (L:MM) (st:Stmt) (r:Fl×MM):Prop:=∀M,Has M L→∃M',ex n X sc M st=some (r.1,M')∧Has M' r.2
noncomputable abbrev lm (n:Nat) (X:Cx) (sc:NS) (L:MM) (ss:List Stmt) (r:Fl×MM):Prop:=∀M,Has M L→∃M',c7 (ex n X sc) ss M=some (r.1,M')∧Has M' r.2
noncomputable def Rq.ok (X:Cx) (sc:NS):Rq→Prop
 |.b op u v r=>eS op u v=some r
 |.c op u v r=>ia op u v=some r
 |.i u v r=>ef u v=some r
 |.s u lo hi st r=>gt u lo hi st=some r
 |.f h as r=>ox h as=some r
 |.g h as r=>X.call h as=some r
 |.m h l as r=>X.meth h (.obj l) as=some r
 |.t h u as r=>Cy h u as=some r
 |.e k L u r=>∀z,gQ (z+k) X sc L u r
 |.w u r=>u=r
 |.p P=>P
 |.a as ds=>iV as=some ds
 |.j d ds=>iZ d=some ds
 |.x k L st r=>jx k X sc L st r
noncomputable abbrev AllR (X:Cx) (sc:NS) (l:List Rq):Prop:=∀q∈l,q.ok X sc
theorem AllR.nil {X sc}:AllR X sc []:=fun _ q=>nomatch q
theorem AllR.cons {X sc q l} (h:Rq.ok X sc q) (t:AllR X sc l):AllR X sc (q::l):=fun r m=>by
 rcases aD.mp m with rfl|m
 ·exact h
 ·exact t _ m
section
variable {X:Cx} {sc:NS} {l:List Rq}
theorem qb {op x y r} (h:eS op x y=some r) (t:AllR X sc l):AllR X sc (.b op x y r::l):=.cons h t
theorem qc {op x y r} (h:ia op x y=some r) (t:AllR X sc l):AllR X sc (.c op x y r::l):=.cons h t
theorem qi {x y r} (h:ef x y=some r) (t:AllR X sc l):AllR X sc (.i x y r::l):=.cons h t
theorem qs {x lo hi st r} (h:gt x lo hi st=some r) (t:AllR X sc l):AllR X sc (.s x lo hi st r::l):=.cons h t
theorem qf {f as r} (h:ox f as=some r) (t:AllR X sc l):AllR X sc (.f f as r::l):=.cons h t
theorem qg {f as r} (h:X.call f as=some r) (t:AllR X sc l):AllR X sc (.g f as r::l):=.cons h t
theorem qm {f o as r} (h:X.meth f (.obj o) as=some r) (t:AllR X sc l):AllR X sc (.m f o as r::l):=.cons h t
theorem qt {f x as r} (h:Cy f x as=some r) (t:AllR X sc l):AllR X sc (.t f x as r::l):=.cons h t
theorem qe {n L e r} (h:∀k,gQ (k+n) X sc L e r) (t:AllR X sc l):AllR X sc (.e n L e r::l):=.cons h t
theorem qw {b r} (h:b=r) (t:AllR X sc l):AllR X sc (.w b r::l):=.cons h t
theorem qF (t:AllR X sc l):AllR X sc (.w false false::l):=.cons (q:=.w false false) rfl t
theorem qT (t:AllR X sc l):AllR X sc (.w true true::l):=.cons (q:=.w true true) rfl t
theorem qp {P:Prop} (h:P) (t:AllR X sc l):AllR X sc (.p P::l):=.cons h t
theorem qa {as ds} (h:iV as=some ds) (t:AllR X sc l):AllR X sc (.a as ds::l):=.cons h t
theorem qj {d ds} (h:iZ d=some ds) (t:AllR X sc l):AllR X sc (.j d ds::l):=.cons h t
theorem qx {n L st r} (h:jx n X sc L st r) (t:AllR X sc l):AllR X sc (.x n L st r::l):=.cons h t
end
noncomputable abbrev QS:=List Rq×List Rq
set_option genInjectivity false in
structure QT (X:Cx) (sc:NS) {α:Type} (T:α→Prop) where
 q:QS→Option (α×QS)
 ok:∀{s a s'},q s=some (a,s')→AllR X sc s'.2→T a∧AllR X sc s.2
section
variable {X:Cx} {sc:NS} {α β:Type} {T:α→Prop} {U:β→Prop}
noncomputable def QT.no:QT X sc T:=⟨fun _=>none,fun h=>nomatch h⟩
noncomputable def QT.pure (a:α) (h:T a):QT X sc T:=⟨fun s=>some (a,s),fun e H=>by cases e;exact⟨h,H⟩⟩
noncomputable def QT.bind (m:QT X sc T) (f:(a:α)→QT X sc fun b=>T a→U b):QT X sc U:=⟨fun s=>(m.q s).bind fun p=>(f p.1).q p.2,fun h H=>by
 refine Ub h fun p e h=>?_;have u:=(f p.1).ok h H;have t:=m.ok e u.2;exact⟨u.1 t.1,t.2⟩⟩
noncomputable def QT.to (m:QT X sc T) {U:α→Prop} (h:∀a,T a→U a):QT X sc U:=⟨m.q,fun e H=>have t:=m.ok e H;⟨h _ t.1,t.2⟩⟩
noncomputable def QT.if (b:Bool) (m:b=true→QT X sc T):QT X sc T:=⟨fun s=>if h:b=true then(m h).q s else none,fun e H=>by
 split at e
 ·exact(m _).ok e H
 ·cases e⟩
noncomputable def QT.ask (g:Rq→α) (mk:α→Rq) (h:∀a,(mk a).ok X sc→T a):QT X sc T:=⟨fun s=>match s.1 with
 |q::t=>some (g q,(t,mk (g q)::s.2))
 |[]=>none,fun{s a s'} e H=>by
 split at e
 ·cases e
  exact⟨h _ (H _ (au ..)),fun r m=>H r (af _ m)⟩
 ·cases e⟩
noncomputable def QT.see (f:Option Rq→QT X sc T):QT X sc T:=⟨fun s=>(f s.1.head?).q s,fun{s a s'} e H=>(f s.1.head?).ok e H⟩
end
noncomputable def RG:CmpOp→Int→Int→Option Bool
 |.Eq,a,b=>some (a==b)
 |.NotEq,a,b=>some (!(a==b))
 |.Lt,a,b=>some (decide (a<b))
 |.LtE,a,b=>some (decide (a≤b))
 |.Gt,a,b=>some (decide (a>b))
 |.GtE,a,b=>some (decide (a≥b))
 |_,_,_=>none
theorem Ku {op:CmpOp} {a b:Int} {r:Bool} (h:RG op a b=some r):ia op (.int a) (.int b)=some r:=by
 cases op<;>first|exact h|cases h
noncomputable def RH:CmpOp→Bool→Bool→Option Bool
 |.Is,a,b=>some (a==b)
 |.IsNot,a,b=>some (!(a==b))
 |_,_,_=>none
theorem Kv {op:CmpOp} {a b r:Bool} (h:RH op a b=some r):ia op (.bool a) (.bool b)=some r:=by
 cases op<;>first|exact h|cases h
section
variable {X:Cx} {sc:NS}
noncomputable def QT.opt {α:Type} {T:α→Prop} (o:Option α) (h:∀a,o=some a→T a):QT X sc T:=match o,h with
 |some a,h=>.pure a (h a rfl)
 |none,_=>.no
noncomputable def I8 (op:CmpOp):(x y:D)→QT X sc fun r=>ia op x y=some r
 |.int a,.int b=>.opt (RG op a b) fun _=>Ku
 |.bool a,.bool b=>.opt (RH op a b) fun _=>Kv
 |x,y=>.ask Rq.bo (.c op x y) fun _ h=>h
noncomputable def O1 (op:Operator) (x y:D):QT X sc fun r=>eS op x y=some r:=.ask Rq.d (.b op x y) fun _ h=>h
noncomputable def QU:Expr→Bool
 |.Constant (.int i) _ _=>decide (i≠0∧i.natAbs<1000000)
 |_=>false
noncomputable def Tb (DZ:Bool):(op:Operator)→(x y:D)→QT X sc fun r=>eS op x y=some r
 |.Add,.int a,.int b=>.pure (.int (a+b)) rfl
 |.Sub,.int a,.int b=>.pure (.int (a-b)) rfl
 |.FloorDiv,.int a,.int b=>match DZ with
  |true=>.if (decide (b≠0∧b.natAbs<1000000)) fun h=>.pure (.int (a.fdiv b)) (qv ⟨(of_decide_eq_true h).1,EI (aP (of_decide_eq_true h).2 (a5 (aP (by decide:1000000<2^40) (cM (by decide) (by decide)))))⟩)
  |false=>O1 _ _ _
 |.Mod,.int a,.int b=>match DZ with
  |true=>.if (decide (b≠0)) fun h=>.pure (.int (a.fmod b)) (zc (of_decide_eq_true h))
  |false=>O1 _ _ _
 |op,x,y=>O1 op x y
end
section
variable {X:Cx} {sc:NS} {α β:Type} {T:α→Prop}
noncomputable def QT.or (o:Option α) (h:∀a,o=some a→T a) (m:QT X sc T):QT X sc T:=match o,h with
 |some a,h=>.pure a (h a rfl)
 |none,_=>m
noncomputable def QT.map (g:α→β) (m:QT X sc T) {U:β→Prop} (h:∀a,T a→U (g a)):QT X sc U:=⟨fun s=>(m.q s).map fun p=>(g p.1,p.2),fun e H=>by
 refine Um e fun p e1 q=>?_;cases q;have t:=m.ok e1 H;exact⟨h _ t.1,t.2⟩⟩
noncomputable def QH (L:MM) (x:Str):Option D:=Kn (L.lookup x)
noncomputable def Nq (L:MM) (x:Str):Option (List D):=match L.lookup x with
 |some (.own l)=>some l
 |_=>none
theorem AA {L M:MM} {x:Str} {d:D} (h:QH L x=some d) (H:Has M L):M.lookup x=some (.dat d):=by
 unfold QH at h;cases e:L.lookup x with
 |none=>rw[e]at h;cases h
 |some a=>
  rw[e]at h;cases a with
  |own l=>cases h
  |dat d'=>cases h;exact H _ _ e
theorem th {L M:MM} {x:Str} {l:List D} (h:Nq L x=some l) (H:Has M L):M.lookup x=some (.own l):=by
 unfold Nq at h;cases e:L.lookup x with
 |none=>rw[e]at h;cases h
 |some a=>
  rw[e]at h;cases a with
  |dat d'=>cases h
  |own l=>cases h;exact H _ _ e
noncomputable def restr (L N:MM):MM:=N.filterMap fun p=>(L.lookup p.1).map fun e=>(p.1,e)
theorem sS {L:MM} {x:Str} {e:Ent}:∀{N:MM},(restr L N).lookup x=some e→L.lookup x=some e
 |[]=>@fun h=>nomatch h
 |(y,a)::N=>@fun h=>by
  unfold restr at h;rw[iK]at h;cases q:L.lookup y with
  |none=>rw[q]at h;exact sS h
  |some b=>
   rw[q]at h;replace h:eB x ((y,b)::restr L N)=some e:=h;rw[aH]at h;cases z:x==y with
   |true=>rw[z]at h;cases h;rw[bt z];exact q
   |false=>rw[z]at h;exact sS h
theorem Has.restr {M L N:MM} (h:Has M L):Has M (restr L N):=fun _ _ q=>h _ _ (sS q)
noncomputable def QT.ite {α:Type} {T:α→Prop} (b:Bool) (m:b=true→QT X sc T) (k:QT X sc T):QT X sc T:=match b,m with
 |true,m=>m rfl
 |false,_=>k
noncomputable def DH (P:Prop):QT X sc fun _:Unit=>P:=.ask (fun _=>()) (fun _=>.p P) fun _ h=>h
theorem Kh {n:Nat} {M:MM} {np args p} (h:(bK args&&dY sc (ofString "reversed"))=true):zM (n+1) X sc M (.Call (.Name (ofString "reversed") np) args [] p)=(di (ev n X sc M) args).bind CE:=by
 show(if _ then _ else if _ then(di (ev n X sc M) args).bind CE else _)=_;have h1:¬((([]:List Keyword).isEmpty&&bK args&&dY sc (ofString "reversed")&&decide (ofString "reversed"=ofString "range"))=true):=by
  rw[show decide (ofString "reversed"=ofString "range")=false from by decide+kernel];simp
 have:(([]:List Keyword).isEmpty&&bK args&&dY sc (ofString "reversed")&&decide (ofString "reversed"=ofString "reversed"))=true:=by simpa using h
 rw[if_neg h1,if_pos this]
variable {L:MM}
noncomputable abbrev Vl (X:Cx) (sc:NS) (L:MM) (x:Str):=QT X sc fun d=>∀M,Has M L→mD sc M x=some d
noncomputable def nm (L:MM) (x:Str):Vl X sc L x:=.or (if(kj sc x||BA sc x)=true then QH L x else none) (fun d h M H=>by
 obtain⟨q,h⟩:=dw h;rw[(by rcases cU.mp q with q|q;exact lQ q;exact u0 q:mD sc M x=Kn (M.lookup x)),AA h H];rfl)
 (.opt (if(dY sc x&&!decide (x=Ay))=true then gD x else none) fun d h M H=>by
  obtain⟨q,h⟩:=dw h;rw[Av (d:=d) q];exact h)
noncomputable abbrev UU (n:Nat) (X:Cx) (sc:NS) (L:MM) (e:Expr) (d:D):Prop:=∀M,Has M L→ja (ev n X sc M) sc M e=some d
set_option genInjectivity false in
structure Q3 (n:Nat) (X:Cx) (sc:NS) (L:MM) where
 E:(e:Expr)→QT X sc (gQ n X sc L e)
 T:(e:Expr)→QT X sc (uF n X sc L e)
 I:(e:Expr)→QT X sc (ue n X sc L e)
noncomputable def At (sc:NS) (L:MM) (x:Str):Bool:=match sc.lookup x with
 |some .local=>(QH L x).isSome
 |_=>true
theorem MR {f:Expr→Option D} {M:MM} {x:Str} {p:Pos} (h:At sc L x=true) (H:Has M L):ja f sc M (.Name x p)=f (.Name x p):=by
 refine xX ?_;unfold jc;by_cases hx:x=rU
 ·exact if_pos hx
 rw[if_neg hx];unfold At at h;generalize sc.lookup x=a at h⊢;cases a with
 |none=>rfl
 |some a=>cases a with
  |«local»=>
   refine Un (ew.mp h) fun d q=>?_;rw[AA q H]
  |_=>rfl
variable {n:Nat}
noncomputable def rd (V:Q3 n X sc L):(e:Expr)→QT X sc (UU n X sc L e)
 |.Name x p=>.or ((if kj sc x=true then Nq L x else none).map .list) (fun d h M H=>by
  (refine Um h fun l h2 q0=>?_;subst q0);obtain⟨q,h3⟩:=dw h2;exact I4 (lP q (th h3 H))) (.if (At sc L x) fun q=>(V.E (.Name x p)).to fun d h M H=>(MR q H).trans (h M H))
 |e=>.if (!rc e) fun q=>(V.E e).to fun d h M H=>(qR (by simpa using q)).trans (h M H)
noncomputable def qV {F:MM→Expr→Option D} (g:(e:Expr)→QT X sc fun d=>∀M,Has M L→F M e=some d):(es:List Expr)→QT X sc fun ds=>∀M,Has M L→di (F M) es=some ds
 |[]=>.pure [] fun _ _=>rfl
 |e::r=>(g e).bind fun d=>(qV g r).map (d::·) fun ds h hd M H=>by rw[oh,hd M H,h M H];rfl
noncomputable def KL (c:Bool):QT X sc fun r=>c=r:=.ask Rq.bo (.w c) fun _ h=>h
noncomputable def E4 (V:Q3 n X sc L):(e:Option Expr)→QT X sc fun i=>∀M,Has M L→mB (ev n X sc M) e=some i
 |none=>.pure none fun _ _=>rfl
 |some e=>(V.E e).bind fun d=>.opt (Fq (some d)) fun i h hd M H=>by show(ev n X sc M e).bind _=_;rw[hd M H];exact h
theorem rX {o:Option D} {f:D→Option β} {d:D} {r:Option β} (h:o=some d) (k:f d=r):o.bind f=r:=by rw[h];exact k
theorem OR {f:Expr→Option D} {a b:Expr} {x y:Bool} (h1:f a=some (.bool x)) (h2:f b=some (.bool y)):vw f .And [a,b]=some (.bool (x&&y)):=by
 refine rX h1 ?_;cases x with
 |false=>rfl
 |true=>exact h2
theorem G2 {M:MM} {v:Expr} {name:Str} {p:Pos} (h:((uB sc v name).isNone&&!jj v)=true):ev (n+1) X sc M (.Attribute v name p)=(ev n X sc M v).bind fun d=>ri d name:=by
 rw[ao]at h;exact Kd (Option.isNone_iff_eq_none.mp h.1) (by simpa using h.2)
noncomputable def Qm (V:Q3 n X sc L) (f:Str) (args:List Expr):(x:D)→QT X sc fun r=>∀M,Has M L→Oq (ev n X sc M) (ja (ev n X sc M) sc M) X f args x=some r
 |.obj l=>(qV V.E args).bind fun as=>.ask Rq.d (.m f l as) fun r h ha M H=>by show(di _ args).bind _=_;rw[ha M H];exact h
 |.str x=>(qV (rd V) args).bind fun as=>.ask Rq.d (.t f (.str x) as) fun r h ha M H=>by show(di _ args).bind _=_;rw[ha M H];exact h
 |.int x=>(qV (rd V) args).bind fun as=>.ask Rq.d (.t f (.int x) as) fun r h ha M H=>by show(di _ args).bind _=_;rw[ha M H];exact h
 |.list x=>(qV (rd V) args).bind fun as=>.ask Rq.d (.t f (.list x) as) fun r h ha M H=>by show(di _ args).bind _=_;rw[ha M H];exact h
 |_=>.no
noncomputable def Qo:(a b:D)→{f:Expr→Option D}→(x y:Expr)→QT X sc fun r=>∀f:Expr→Option D,f x=some a→f y=some b→vw f .And [x,y]=some r
 |.bool u,.bool w,_,x,y=>.pure (.bool (u&&w)) fun _ h1 h2=>OR h1 h2
 |_,_,_,_,_=>.no
noncomputable def Ql:(as:List D)→QT X sc fun d=>Ek as=some d
 |[.list l]=>(DH (l.length≤1000000)).map (fun _=>D.tup l) fun _ (h:l.length≤1000000)=>show(if l.length≤1000000 then some (D.tup l)else none)=some (D.tup l)from if_pos h
 |_=>.no
noncomputable def SS (V:Q3 n X sc L):(e:Expr)→QT X sc (gQ (n+1) X sc L e)
 |.Constant c _ _=>.opt (wD c) fun d h M _=>h
 |.Name x _=>nm L x
 |.BinOp l op r _=>(rd V l).bind fun a=>(rd V r).bind fun b=>(Tb (QU r) op a b).to fun d h hb ha M H=>rX (ha M H) (rX (hb M H) h)
 |.UnaryOp op x _=>(V.E x).bind fun a=>.opt (Su op a) fun d h ha M H=>rX (ha M H) h
 |.Compare l [op] [r] _=>.if (!behindInMarks op r) fun q=>(rd V l).bind fun a=>(rd V r).bind fun b=>(I8 op a b).map .bool fun c h hb ha M H=>by
  rw[tW (by simpa using q)];exact rX (ha M H) (rX (hb M H) (by rw[h];rfl))
 |.BoolOp .And [x,y] _=>(V.E x).bind fun a=>(V.E y).bind fun b=>(Qo (f:=fun _=>none) a b x y).to fun r h hb ha M H=>h _ (ha M H) (hb M H)
 |.IfExp t a b _=>(V.T t).bind fun c=>(KL c).bind fun r=>match r with
  |true=>(V.E a).to fun d h hw ht M H=>by rw[yL,ht M H,hw];exact h M H
  |false=>(V.E b).to fun d h hw ht M H=>by rw[yL,ht M H,hw];exact h M H
 |.List es _=>.if (bK es&&decide (es.length≤1000000)) fun q=>(qV V.E es).map .list fun ds h M H=>by rw[Kc q,h M H];rfl
 |.Tuple es _ _=>.if (bK es&&decide (es.length≤1000000)) fun q=>(qV V.E es).map .tup fun ds h M H=>by rw[GY q,h M H];rfl
 |.ListComp elt gens s p=>.see fun o=>match o with
  |some q=>.if (Nat.ble q.n (n+1)) fun h=>.ask Rq.d (.e q.n (restr L q.L) (.ListComp elt gens s p)) fun r k M H=>by
   have:=k (n+1-q.n) M H.restr;rwa[l9 (cj h)]at this
  |none=>.no
 |.Call (.Attribute o name ap) args [] p=>.if (bK args&&decide (args.length≤20)&&(ap.endLine==p.line)&&!jj o) fun q=>(rd V o).bind fun d=>(Qm V name args d).to fun r h hd M H=>by rw[Kb q];exact rX (hd M H) (h M H)
 |.Call (.Name f _) args [] _=>match tC f with
  |true=>.if (bK args&&dY sc f&&tC f) fun q=>(qV (rd V) args).bind fun as=>.ask Rq.d (.f f as) fun r h ha M H=>by rw[Dr q,ha M H];exact h
  |false=>.ite (bK args&&dY sc f&&decide (f=ofString "tuple")) (fun q=>(qV (rd V) args).bind fun as=>(Ql as).to fun r h ha M H=>by
   rw[ao]at q;have e:=of_decide_eq_true q.2;subst e;rw[AN q.1,ha M H];exact h)<|.if (bK args&&dY sc f&&!tC f&&decide (f≠ofString "tuple")) fun q=>(qV V.E args).bind fun as=>.ask Rq.d (.g f as) fun r h ha M H=>by rw[AO q,ha M H];exact h
 |.Attribute v name _=>.or (uB sc v name) (fun d h M H=>On h) (.if ((uB sc v name).isNone&&!jj v) fun q=>(V.E v).bind fun d=>.opt (ri d name) fun r h hd M H=>by rw[G2 q];exact rX (hd M H) h)
 |.Subscript v (.Slice lo hi st _) _=>(rd V v).bind fun d=>(E4 V lo).bind fun a=>(E4 V hi).bind fun b=>(E4 V st).bind fun c=>.ask Rq.d (.s d a b c) fun r h hc hb ha hd M H=>by
  rw[G0,hd M H,bp,ha M H,bp,hb M H,bp,hc M H];exact h
 |.Subscript v i _=>.if (we i) fun q=>(rd V v).bind fun d=>(V.E i).bind fun k=>.ask Rq.d (.i d k) fun r h hk hd M H=>by rw[GZ q];exact rX (hd M H) (rX (hk M H) h)
 |_=>.no
noncomputable def Qq {F:MM→Expr→Option Bool} (g:(e:Expr)→QT X sc fun d=>∀M,Has M L→F M e=some d):(es:List Expr)→QT X sc fun r=>∀M,Has M L→nK (F M) es=some r
 |[]=>.pure true fun _ _=>rfl
 |[e]=>(g e).map id fun r h M H=>by show(match F M e with|some true=>some true|some false=>some false|none=>none)=_;rw[h M H];cases r<;>rfl
 |e::r=>(g e).bind fun b=>(KL b).bind fun c=>match c with
  |true=>(Qq g r).to fun d h hw hb M H=>by rw[vA,hb M H,hw];exact h M H
  |false=>.pure false fun hw hb M H=>by rw[vA,hb M H,hw]
noncomputable def Qp {F:MM→Expr→Option Bool} (g:(e:Expr)→QT X sc fun d=>∀M,Has M L→F M e=some d):(es:List Expr)→QT X sc fun r=>∀M,Has M L→uD (F M) es=some r
 |[]=>.pure false fun _ _=>rfl
 |[e]=>(g e).map id fun r h M H=>by show(match F M e with|some false=>some false|some true=>some true|none=>none)=_;rw[h M H];cases r<;>rfl
 |e::r=>(g e).bind fun b=>(KL b).bind fun c=>match c with
  |false=>(Qp g r).to fun d h hw hb M H=>by rw[vz,hb M H,hw];exact h M H
  |true=>.pure true fun hw hb M H=>by rw[vz,hb M H,hw]
noncomputable def SQ (V:Q3 n X sc L):(e:Expr)→QT X sc (uF (n+1) X sc L e)
 |.UnaryOp .Not x _=>(V.T x).map (!·) fun r h M H=>by rw[Ke,h M H];rfl
 |.BoolOp .And xs _=>(Qq V.T xs).to fun r h M H=>by rw[Kg];exact h M H
 |.BoolOp .Or xs _=>(Qp V.T xs).to fun r h M H=>by rw[Oo];exact h M H
 |.Compare l [op] [r] _=>.if (!lastMarks [op] [r]) fun q=>(rd V l).bind fun a=>(rd V r).bind fun b=>(I8 op a b).to fun c h hb ha M H=>by
  rw[BN (by simpa using q),ha M H,bp,vr,hb M H];exact h
 |.Compare l [op,op'] [r,r'] _=>.if (!lastMarks [op,op'] [r,r']) fun q=>(rd V l).bind fun a=>(rd V r).bind fun b=>(I8 op a b).bind fun u=>(rd V r').bind fun c=>(I8 op' b c).map (u&&·) fun w h hc hu hb ha M H=>by
  rw[BN (by simpa using q),ha M H,bp,DA,hb M H,bp,hu];cases u with
  |false=>rfl
  |true=>show lj _ b [op'] [r']=_;rw[vr,hc M H];exact h
 |e=>.if (Fh e) fun q=>(rd V e).bind fun d=>.opt (ux d) fun r h hd M H=>by rw[rk q];exact rX (hd M H) h
noncomputable def Ta:(as:List D)→QT X sc fun ds=>CE as=some ds
 |[.list l]=>(DH (l.length≤1000000)).map (fun _=>l.reverse) fun _ h=>if_pos h
 |_=>.no
noncomputable def SR (V:Q3 n X sc L):(e:Expr)→QT X sc (ue (n+1) X sc L e)
 |.Call (.Name f _) args [] _=>.ite (bK args&&dY sc f&&decide (f=ofString "range")) (fun q=>(qV V.E args).bind fun as=>.ask Rq.ds (.a as) fun r h ha M H=>by
  rw[ao]at q;have e:=of_decide_eq_true q.2;subst e;rw[Ds q.1,ha M H];exact h) (.if (bK args&&dY sc f&&decide (f=ofString "reversed")) fun q=>(qV V.E args).bind fun as=>(Ta as).to fun r h ha M H=>by
  rw[ao]at q;have e:=of_decide_eq_true q.2;subst e;rw[Kh q.1,ha M H];exact h)
 |e=>.if (Fi e) fun q=>(V.E e).bind fun d=>.ask Rq.ds (.j d) fun r h hd M H=>by rw[vn q];exact rX (hd M H) h
end
noncomputable def q3 (X:Cx) (sc:NS) (L:MM):(n:Nat)→Q3 n X sc L
 |0=>⟨fun _=>.no,fun _=>.no,fun _=>.no⟩
 |n+1=>⟨SS (q3 X sc L n),SQ (q3 X sc L n),SR (q3 X sc L n)⟩
section
variable {X:Cx} {sc:NS} {n:Nat}
noncomputable abbrev UV (n:Nat) (X:Cx) (sc:NS):=(L:MM)→(st:Stmt)→QT X sc (jx n X sc L st)
noncomputable def S9:(d:D)→QT X sc fun p:D×D=>d=.tup [p.1,p.2]
 |.tup [a,b]=>.pure (a,b) rfl
 |_=>.no
noncomputable def PA (V:UV n X sc):(L:MM)→(ss:List Stmt)→QT X sc (lm n X sc L ss)
 |L,[]=>.pure (.next,L) fun M H=>⟨M,rfl,H⟩
 |L,st::r=>(V L st).bind fun p=>match p with
  |(.next,L')=>(PA V L' r).to fun q h h1 M H=>by
   refine Ua (h1 M H) fun M1 e1 H1=>?_;refine Ua (h M1 H1) fun M2 e2 H2=>?_;exact⟨M2,dO e1 e2,H2⟩
  |(.brk,L')=>.pure (.brk,L') fun h1 M H=>by
   refine Ua (h1 M H) fun M1 e1 H1=>?_;exact⟨M1,by rw[c7];rw[e1],H1⟩
  |(.ret d,L')=>.pure (.ret d,L') fun h1 M H=>by
   refine Ua (h1 M H) fun M1 e1 H1=>?_;exact⟨M1,by rw[c7];rw[e1],H1⟩
variable {L:MM}
theorem iR {x:Str} {e:Ent} {st:Stmt} (h:∀M,Has M L→ex n X sc M st=some (.next,M.set x e)):jx n X sc L st (.next,(x,e)::L):=fun M H=>⟨_,h M H,H.set⟩
noncomputable def Te (V:Q3 (n+1) X sc L) (x:Str) (px p pb:Pos) (l r:Expr) (hx:(sc.lookup x==some .local)=true):(a:D)→QT X sc fun q=>UU (n+1) X sc L l a→jx (n+1) X sc L (.Assign [.Name x px] (.BinOp l .Add r pb) p) q
 |.list a=>(rd V r).bind fun b=>match b with
  |.list b=>(DH (a.length+b.length≤1000000)).map (fun _=>(.next,(x,.own (a++b))::L)) fun _ h hb ha=>iR (e:=.own (a++b)) fun M H=>GW hx (Jl (ha M H) (hb M H) h)
  |_=>.no
 |.int a=>(V.E (.BinOp l .Add r pb)).map (fun d=>(.next,(x,.dat d)::L)) fun d h ha=>iR fun M H=>wx (by unfold bP;rw[hx];rfl) (by rw[yb (ha M H)];split<;>rfl) (h M H)
 |.str a=>(V.E (.BinOp l .Add r pb)).map (fun d=>(.next,(x,.dat d)::L)) fun d h ha=>iR fun M H=>wx (by unfold bP;rw[hx];rfl) (by rw[ya (ha M H)];split<;>rfl) (h M H)
 |_=>.no
noncomputable def Td (x:Str) (px p:Pos):(e:Expr)→QT X sc (jx (n+1) X sc L (.Assign [.Name x px] e p))
 |.List es pe=>.if ((sc.lookup x==some .local)&&(bK es&&decide (es.length≤1000000))) fun q=>(qV (q3 X sc L (n+1)).E es).map (fun l=>(.next,(x,.own l)::L)) fun l h=>iR fun M H=>by
  rw[ao]at q;exact GW q.1 ((Fw q.2).trans (h M H))
 |.BinOp l .Add r pb=>.if (sc.lookup x==some .local) fun q=>(rd (q3 X sc L (n+1)) l).bind fun a=>Te (q3 X sc L (n+1)) x px p pb l r q a
 |e=>.if (bP sc x&&Au e) fun q=>((q3 X sc L (n+1)).E e).map (fun d=>(.next,(x,.dat d)::L)) fun d h=>iR fun M H=>by
  rw[ao]at q;exact lU q.1 q.2 (h M H)
theorem Oj {M:MM} {c pc ap p p' l} (h:(ap.endLine==p.line)=true) (h1:jc sc c M=some l) (h3:l.length≤1000000):ex (n+1) X sc M (.Expr (.Call (.Attribute (.Name c pc) (ofString "reverse") ap) [] [] p) p')=some (.next,M.set c (.own l.reverse)):=by
 rw[J4];rw[if_pos (by rw[h];decide+kernel)];unfold IV;rw[h1];exact if_pos h3
theorem vm {M:MM} {x px e p a b} (h:(sc.lookup x==some .local)=true) (hM:M.lookup x=some (.dat (.int a))) (he:ev (n+1) X sc M e=some (.int b)):ex (n+1) X sc M (.AugAssign (.Name x px) .Add e p)=some (.next,M.set x (.dat (.int (a+b)))):=by
 refine(if_pos h).trans ?_;rw[hM,he];rfl
theorem rj {M:MM} {x px e p a b} (h:(sc.lookup x==some .local)=true) (hM:M.lookup x=some (.dat (.int a))) (he:ev (n+1) X sc M e=some (.int b)):ex (n+1) X sc M (.AugAssign (.Name x px) .Sub e p)=some (.next,M.set x (.dat (.int (a-b)))):=by
 refine(if_pos h).trans ?_;rw[hM,he];rfl
theorem GV {M:MM} {x y z px py pz e p i} (h:(bP sc x&&bP sc y&&bP sc z&&tz e)=true) (h2:ev (n+1) X sc M e=some (.int i)):ex (n+1) X sc M (.Assign [.Name x px,.Name y py,.Name z pz] e p)=some (.next,((M.set x (.dat (.int i))).set y (.dat (.int i))).set z (.dat (.int i))):=by
 rw[Dp];rw[if_pos h];unfold vT;rw[h2];rfl
theorem Ok {M:MM} {c pc tp p i e l k d} (h1:jc sc c M=some l) (h2:ev (n+1) X sc M e=some d) (h3:ev (n+1) X sc M i=some (.int k)) (hb:0≤k∧k<l.length∧k<1000000):ex (n+1) X sc M (.Assign [.Subscript (.Name c pc) i tp] e p)=some (.next,M.set c (.own (l.set k.toNat d))):=by
 rw[J5];unfold Jb;rw[h2,h1,h3];exact if_pos hb
noncomputable def I7:(d:D)→QT X sc fun i:Int=>d=.int i
 |.int i=>.pure i rfl
 |_=>.no
noncomputable def Tc (x:Str) (px p:Pos) (e:Expr) (a b:Int):(op:Operator)→QT X sc fun r=>(sc.lookup x==some .local)=true→(∀M,Has M L→M.lookup x=some (.dat (.int a)))→gQ (n+1) X sc L e (.int b)→jx (n+1) X sc L (.AugAssign (.Name x px) op e p) r
 |.Add=>.pure (.next,(x,.dat (.int (a+b)))::L) fun q ha hb=>iR fun M H=>vm q (ha M H) (hb M H)
 |.Sub=>.pure (.next,(x,.dat (.int (a-b)))::L) fun q ha hb=>iR fun M H=>rj q (ha M H) (hb M H)
 |_=>.no
noncomputable def Qn (st:Stmt):QT X sc (jx (n+1) X sc L st):=.see fun o=>match o with
 |some q=>.ask Rq.fm (fun r=>.x (n+1) (restr L q.L) st r) fun r h M H=>h M H.restr
 |none=>.no
noncomputable def U6 (B:(L:MM)→(ss:List Stmt)→QT X sc (lm n X sc L ss)) (L:MM):(st:Stmt)→QT X sc (jx (n+1) X sc L st)
 |.Return (some e) p=>((q3 X sc L (n+1)).E e).map (fun d=>(.ret d,L)) fun d h M H=>⟨M,ot (h M H),H⟩
 |.If t b o p=>((q3 X sc L (n+1)).T t).bind fun c=>(KL c).bind fun r=>match r with
  |true=>(B L b).to fun q h hw ht M H=>by
   refine Ua (h M H) fun M1 e1 H1=>?_;exact⟨M1,(mG ((ht M H).trans (congrArg some hw))).trans e1,H1⟩
  |false=>(B L o).to fun q h hw ht M H=>by
   refine Ua (h M H) fun M1 e1 H1=>?_;exact⟨M1,(mG ((ht M H).trans (congrArg some hw))).trans e1,H1⟩
 |.Assign [.Name x px] e p=>.ite (sc.lookup x==some .cell) (fun q=>((q3 X sc L (n+1)).E e).map (fun d=>(Fl.next,(x,Ent.dat d)::L)) fun d h=>iR fun M H=>BM q (h M H)) (Td x px p e)
 |.Assign [.Tuple [.Name x px,.Name y py] tk tp] e p=>.if (bP sc x&&bP sc y&&decide (y≠x)&&s6 e) fun q=>((q3 X sc L (n+1)).E e).bind fun d=>(S9 d).map (fun ab=>(Fl.next,(y,Ent.dat ab.2)::(x,Ent.dat ab.1)::L)) fun ab hd h M H=>by
  subst hd;refine⟨_,?_,H.set.set⟩;rw[GU,if_pos q];unfold x8;rw[yK (h M H)]
 |.Expr (.Call (.Attribute (.Name c pc) f ap) [e] [] p) p'=>.if (kj sc c&&(bK [e]&&(ap.endLine==p.line))&&decide (f=ofString "append")) fun q=>(QT.opt (Nq L c) fun _ h=>h).bind fun l=>((q3 X sc L (n+1)).E e).bind fun d=>
  (DH (l.length≤1000000)).map (fun _=>(Fl.next,(c,Ent.own (l++[d]))::L)) fun _ h hd hl=>iR (e:=.own (l++[d])) fun M H=>by
   rw[ao,ao]at q;have e:=of_decide_eq_true q.2;subst e;exact Ol (p:=p) q.1.2 (lP q.1.1 (th hl H)) (hd M H) h
 |.Assign [.Name x px,.Name y py,.Name z pz] e p=>.if (bP sc x&&bP sc y&&bP sc z&&tz e) fun q=>((q3 X sc L (n+1)).E e).bind fun d=>(I7 d).map (fun i=>(Fl.next,(z,Ent.dat (.int i))::(y,Ent.dat (.int i))::(x,Ent.dat (.int i))::L)) fun i hd h M H=>⟨_,GV q (hd▸h M H),H.set.set.set⟩
 |.Assign [.Subscript (.Name c pc) i tp] e p=>.if (kj sc c) fun q=>((q3 X sc L (n+1)).E e).bind fun d=>(QT.opt (Nq L c) fun _ h=>h).bind fun l=>((q3 X sc L (n+1)).E i).bind fun k=>(I7 k).bind fun k=>
  (DH (0≤k∧k<l.length∧k<1000000)).map (fun _=>(Fl.next,(c,Ent.own (l.set k.toNat d))::L)) fun _ h hk hi hl hd=>iR (e:=.own (l.set k.toNat d)) fun M H=>Ok (lP q (th hl H)) (hd M H) (hk▸hi M H) h
 |.Expr (.Call (.Attribute (.Name c pc) f ap) [] [] p) p'=>.if (kj sc c&&(ap.endLine==p.line)&&decide (f=ofString "reverse")) fun q=>(QT.opt (Nq L c) fun _ h=>h).bind fun l=>
  (DH (l.length≤1000000)).map (fun _=>(Fl.next,(c,Ent.own l.reverse)::L)) fun _ h hl=>iR (e:=.own l.reverse) fun M H=>by
   rw[ao,ao]at q;have e:=of_decide_eq_true q.2;subst e;exact Oj (p:=p) q.1.2 (lP q.1.1 (th hl H)) h
 |.AugAssign (.Name x px) op e p=>.if (sc.lookup x==some .local) fun q=>(QT.opt (QH L x) fun _ h=>h).bind fun a=>(I7 a).bind fun a=>((q3 X sc L (n+1)).E e).bind fun d=>(I7 d).bind fun b=>
  (Tc x px p e a b op).to fun r h hb hd ha hl=>h q (fun M H=>by rw[AA hl H,ha]) (hb▸hd)
 |.Break p=>.pure (.brk,L) fun M H=>⟨M,J7,H⟩
 |st=>Qn st
end
theorem og {f:Expr→Option D} {p:Expr→Bool} (h:∀e,p e=true→f e=none):∀{es:List Expr},es.any p=true→di f es=none
 |[]=>@fun q=>nomatch q
 |e::r=>@fun q=>by
  rw[oh];rw[List.any_cons,vJ]at q;rcases q with q|q
  ·rw[h e q];rfl
  ·rw[og h q];cases f e<;>rfl
theorem o6 {α β γ:Type} {x:Option α} {y:Option β} {f:α→β→Option γ} (h:y=none):(x.bind fun a=>y.bind fun b=>f a b)=none:=by subst h;cases x<;>rfl
noncomputable abbrev Sg (X:Cx) (sc:NS) (L:MM) (e:Expr) (b:Bool):Prop:=b=true→∀{M},Has M L→∀n,ev n X sc M e=none∧qZ (ev n X sc M) sc M e=none
theorem Fz {e:Expr} {b:Bool} (h:Sg X sc L e b) (q:(!rc e&&b)=true) {M:MM} (H:Has M L) (n:Nat):ja (ev n X sc M) sc M e=none:=by
 rw[ao]at q;rw[qR (by simpa using q.1)];exact(h q.2 H n).1
noncomputable def oY (X:Cx) (sc:NS) (L:MM):Nat→(e:Expr)→{b:Bool//Sg X sc L e b}
 |0,_=>⟨false,nofun⟩
 |k+1,e=>match e with
  |.Name x _=>⟨kj sc x&&(Nq L x).isSome,fun h {M} H n=>⟨by
   rw[ao]at h;cases n with
   |zero=>rfl
   |succ n=>
    refine Un (ew.mp h.2) fun l e=>?_;rw[p8,lQ h.1,th e H];rfl,rfl⟩⟩
  |.BinOp l op r _=>⟨(!rc l&&(oY X sc L k l).1)||(!rc r&&(oY X sc L k r).1),fun h {M} H n=>by
   have hl:=Fz (oY X sc L k l).2;have hr:=Fz (oY X sc L k r).2;generalize (oY X sc L k l).1=a at*;generalize (oY X sc L k r).1=b at*;refine⟨?_,?_⟩
   ·cases n with
    |zero=>rfl
    |succ n=>exact(cU.mp h).elim (fun q=>(congrArg (fun z=>oQ z _) (hl q H n):)) fun q=>o6 (hr q H n)
   ·cases op with
    |Add=>exact(cU.mp h).elim (fun q=>(congrArg (fun z=>oQ (oQ z ym) _) (hl q H n):)) fun q=>o6 (congrArg (fun z=>oQ z ym) (hr q H n):)
    |_=>rfl⟩
  |.List es _=>⟨es.any fun e=>(oY X sc L k e).1,fun h {M} H n=>by
   have m:=fun n=>og (f:=ev n X sc M) (fun e q=>((oY X sc L k e).2 q H n).1) h;refine⟨?_,?_⟩
   ·cases n with
    |zero=>rfl
    |succ n=>
     show(if _ then(di (ev n X sc M) es).map D.list else none)=none;rw[m];split<;>rfl
   ·show(if _ then di (ev n X sc M) es else none)=none
    rw[m];split<;>rfl⟩
  |.Tuple es _ _=>⟨es.any fun e=>(oY X sc L k e).1,fun h {M} H n=>⟨by
   cases n with
   |zero=>rfl
   |succ n=>
    show(if _ then(di (ev n X sc M) es).map D.tup else none)=none;rw[og (f:=ev n X sc M) (fun e q=>((oY X sc L k e).2 q H n).1) h];split<;>rfl,rfl⟩⟩
  |.Call (.Name f _) es ks _=>⟨!tC f&&(decide (f≠ofString "tuple")&&es.any fun e=>(oY X sc L k e).1),fun h {M} H n=>⟨by
   rw[ao,ao]at h;cases n with
   |zero=>rfl
   |succ n=>
    show(if(ks.isEmpty&&bK es&&dY sc f)=true then(if tC f=true then _ else if f=ofString "tuple" then _ else(di (ev n X sc M) es).bind fun as=>X.call f as)else none)=none;rw[og (f:=ev n X sc M) (fun e q=>((oY X sc L k e).2 q H n).1) h.2.2];split
    ·rw[if_neg (by simpa using h.1),if_neg (of_decide_eq_true h.2.1)];rfl
    ·rfl,rfl⟩⟩
  |_=>⟨false,nofun⟩
noncomputable abbrev CW (X:Cx) (sc:NS) (L:MM) (k:Nat) (e:Expr):Bool:=(oY X sc L k e).1
theorem Bt {M:MM} (H:Has M L) (k:Nat) (e:Expr) (h:CW X sc L k e=true) (n:Nat):ev n X sc M e=none:=((oY X sc L k e).2 h H n).1
theorem Fv {M:MM} (H:Has M L) {k:Nat} {e:Expr} (h:CW X sc L k e=true):qZ (ev n X sc M) sc M e=none:=((oY X sc L k e).2 h H n).2
theorem BH {M:MM}:frz (frz M)=frz M:=by
 unfold frz;rw[be];refine cR fun p _=>?_;obtain⟨x,e⟩:=p;cases e<;>rfl
theorem Has.frz {M L:MM} (h:Has M L):Has (Mine.frz M) (Mine.frz L):=fun y e' q=>by
 rw[km]at q⊢;cases e:L.lookup y with
 |none=>rw[e]at q;cases q
 |some z=>rw[e]at q;rw[h y z e];exact q
theorem KM {M:MM} (H:Has M L) {k:Nat} {e:Expr} {x:Str} {px p:Pos} (h:CW X sc L k e=true):ex (n+1) X sc M (.Assign [.Name x px] e p)=ex (n+1) X sc (frz M) (.Assign [.Name x px] e p):=by
 rw[sA,sA];have e1:wT (ev (n+1) X sc) sc x e M=none:=by
  have:(if(sc.lookup x==some .local)=true then qZ (ev (n+1) X sc M) sc M e else none)=none:=by rw[Fv H h];split<;>rfl
  unfold wT;rw[this,Bt H k e h];rfl
 unfold O3;rw[e1,BH];cases wT (ev (n+1) X sc) sc x e (frz M)<;>rfl
theorem IW {M:MM} (H:Has M L) {k:Nat} {e:Expr} {p:Pos} (h:CW X sc L k e=true):ex (n+1) X sc M (.Return (some e) p)=ex (n+1) X sc (frz M) (.Return (some e) p):=by
 rw[sy,sy];unfold Dq;rw[Bt H k e h,BH];cases ev (n+1) X sc (frz M) e<;>rfl
noncomputable def U7 (V:(L:MM)→(st:Stmt)→QT X sc (jx (n+1) X sc L st)) (L:MM):(st:Stmt)→QT X sc (jx (n+1) X sc L st)
 |.Assign [.Name x px] e p=>.ite (CW X sc L 9 e) (fun q=>(V (frz L) (.Assign [.Name x px] e p)).to fun r h M H=>by rw[KM H q];exact h _ H.frz) (V L (.Assign [.Name x px] e p))
 |.Return (some e) p=>.ite (CW X sc L 9 e) (fun q=>(V (frz L) (.Return (some e) p)).to fun r h M H=>by rw[IW H q];exact h _ H.frz) (V L (.Return (some e) p))
 |st=>V L st
noncomputable def qX (X:Cx) (sc:NS):(n:Nat)→UV n X sc
 |0=>fun _ _=>.no
 |n+1=>fun L st=>U7 (U6 (PA (qX X sc n))) L st
section
variable {X:Cx} {sc:NS} {n:Nat} {L L':MM} {rs:List Rq}
theorem AllR.rev (h:AllR X sc rs):AllR X sc rs.reverse:=fun q m=>h q (mY.mp m)
theorem fC {ss:List Stmt} {fl:Fl} (h:AllR X sc rs) (e:((PA (qX X sc n) L ss).q (rs,[])).map (fun p=>((p.1.1,restr p.1.2 L'),p.2))=some ((fl,L'),([],rs.reverse))):lm n X sc L ss (fl,L'):=fun M H=>by
 (refine Um e fun q0 e1 e2=>?_;obtain⟨⟨fl',L1⟩,s⟩:=q0);have e5:s=([],rs.reverse):=congrArg lz e2;have e6:fl'=fl:=congrArg (fun p=>p.1.1) e2;have e3:restr L1 L'=L':=congrArg (fun p=>p.1.2) e2;subst e5 e6;refine Ua (((PA (qX X sc n) L ss).ok e1 h.rev).1 M H) fun M' e4 H'=>?_;exact⟨M',e4,e3▸H'.restr (N:=L')⟩
theorem fR {x:Expr} {d:D} (h:AllR X sc rs) (e:((q3 X sc L n).E x).q (rs,[])=some (d,([],rs.reverse))):gQ n X sc L x d:=(((q3 X sc L n).E x).ok e h.rev).1
theorem nk {x:Expr} {d:Bool} (h:AllR X sc rs) (e:((q3 X sc L n).T x).q (rs,[])=some (d,([],rs.reverse))):uF n X sc L x d:=(((q3 X sc L n).T x).ok e h.rev).1
theorem fQ {x:Expr} {d:List D} (h:AllR X sc rs) (e:((q3 X sc L n).I x).q (rs,[])=some (d,([],rs.reverse))):ue n X sc L x d:=(((q3 X sc L n).I x).ok e h.rev).1
end
noncomputable def wO (e:Expr) (k:Nat):Expr:=(ju e).a.getD k BR
noncomputable def vE (st:Stmt):Expr:=(jM st).e
noncomputable def RQ (e:Expr):Expr:=(ju e).e
noncomputable def L4 (e:Expr):Scope:=(ju e).s
noncomputable def PH (sc:NS) (e:Expr):NS:=cW sc (L4 e).names
noncomputable def PI (e:Expr) (i:Nat):Comprehension:=(ju e).g.getD i ⟨BR,BR,[],0⟩
noncomputable def Qx (e:Expr):Str:=(ju e).x
noncomputable def cX (e:Expr) (i:Nat):Str:=Qx (PI e i).target
noncomputable def cI (e:Expr) (i:Nat):Expr:=(PI e i).iter
noncomputable def SF (e:Expr) (ifs:List Expr):Expr:=.ListComp (RQ e) [⟨.Name (cX e 0) (PI e 0).target.pos,cI e 0,ifs,0⟩] (L4 e) e.pos
noncomputable def RO (e:Expr):Expr:=.ListComp (RQ e) [⟨.Name (cX e 0) (PI e 0).target.pos,cI e 0,[],0⟩,⟨.Name (cX e 1) (PI e 1).target.pos,cI e 1,[],0⟩] (L4 e) e.pos
noncomputable def M9 (sc:NS) (e:Expr):Bool:=nF sc (L4 e)&&(((L4 e).names.lookup (cX e 0)==some .local)&&!gK (cI e 0))
noncomputable def PC (sc:NS) (e:Expr):Bool:=nF sc (L4 e)&&(((L4 e).names.lookup (cX e 0)==some .local)&&((L4 e).names.lookup (cX e 1)==some .local)&&decide (cX e 1≠cX e 0)&&!gK (cI e 0)&&!gK (cI e 1))
theorem vx {α β:Type} {o:Option α} {f:α→Option β} {d:α} {r:Option β} (h:o=some d) (k:f d=r):o.bind f=r:=by rw[h];exact k
theorem o1 {α:Type} {f:D→Option (List D)} {g:α→D} {h:α→List D}:∀{l:List α},(∀a∈l,f (g a)=some (h a))→fw f (l.map g)=some (l.flatMap h)
 |[]=>@fun _=>rfl
 |a::l=>@fun hf=>by
  rw[bg,kO,hf a (au ..),bp,o1 fun b q=>hf b (af _ q)];rfl
theorem Has.capt {M L:MM} {sc:NS} (h:Has M L):Has (capt sc M) (capt sc L):=fun x e q=>by
 unfold Mine.capt at q⊢;rw[gq (fun y=>sc.lookup y==some .cell||sc.lookup y==some .free)]at q⊢;split
 ·rename_i z;rw[if_pos z]at q;exact h _ _ q
 ·rename_i z;rw[if_neg z]at q;cases q
section
variable {n:Nat} {X:Cx} {sc:NS} {L:MM} {α β:Type}
noncomputable abbrev Hr (sc:NS) (L:MM) (e:Expr):MM:=capt (PH sc e) L
theorem kq {e:Expr} {l:List α} {g h:α→D} (c:(e,M9 sc e)=(SF e [],true)) (hi:ue n X sc L (cI e 0) (l.map g))
 (he:∀a∈l,gQ n X (PH sc e) ((cX e 0,.dat (g a))::Hr sc L e) (RQ e) (h a)) (hl:l.length≤1000000) {r:List D} (hr:l.map h=r):gQ (n+1) X sc L e (.list r):=fun M H=>by
 subst hr;have c2:=dX.mp (congrArg lz c);rw[show e=SF e []from congrArg er c];refine(tZ c2.1 c2.2).trans (vx (hi M H) ?_);rw[rh (h:=h),bp,if_pos (by rw[ag];exact hl)];intro a ha;rw[GN];exact vx (he a ha _ (H.capt.set)) rfl
theorem Hf {e:Expr} {l:List α} {g:α→D} {l2:α→List β} {g2':β→D} {h:α→β→D} (c:(e,PC sc e)=(RO e,true)) (hi:ue n X sc L (cI e 0) (l.map g))
 (hb:∀a∈l,ue n X (PH sc e) ((cX e 0,.dat (g a))::Hr sc L e) (cI e 1) ((l2 a).map g2'))
 (he:∀a∈l,∀b∈l2 a,gQ n X (PH sc e) ((cX e 1,.dat (g2' b))::(cX e 0,.dat (g a))::Hr sc L e) (RQ e) (h a b))
 {r:List D} (hr:(l.flatMap fun a=>(l2 a).map (h a))=r) (hl:r.length≤1000000):gQ (n+1) X sc L e (.list r):=fun M H=>by
 subst hr;have c2:=dX.mp (congrArg lz c);rw[show e=RO e from congrArg er c];refine(G1 c2.1 c2.2).trans (vx (hi M H) ?_);rw[o1 (h:=fun a=>(l2 a).map (h a)),bp,if_pos hl];intro a ha;refine vx (hb a ha _ (H.capt.set)) ?_;rw[rh (h:=h a)];intro b hb;exact congrArg (mV fun v=>[v]) (he a ha b hb _ (H.capt.set.set))
end
noncomputable def UK (st:Stmt):Expr:=(jM st).t.getD 0 BR
noncomputable def fX (st:Stmt):Str:=Qx (UK st)
noncomputable def uu (st:Stmt):List Stmt:=(jM st).b
noncomputable def Oh (st:Stmt):Stmt:=.For (.Name (fX st) (UK st).pos) (vE st) (uu st) [] st.pos
noncomputable def Sy (sc:NS) (st:Stmt):Bool:=bP sc (fX st)&&!gK (vE st)
theorem BE {b:MM→Option (Fl×MM)} {x:Str} {I:Nat→MM}:∀{r:List D} {i:Nat},(∀k d,r[k]?=some d→∀M,Has M (I (i+k))→∃M',b (M.set x (.dat d))=some (.next,M')∧Has M' (I (i+k+1)))→∀M,Has M (I i)→∃M',sw b x r M=some (.next,M')∧Has M' (I (i+r.length))
 |[],_=>fun _ M hM=>⟨M,wr,hM⟩
 |d::r,i=>fun h M hM=>by
  refine Ua (h 0 d rfl M hM) fun M1 e1 h1=>?_;refine Ua (BE (r:=r) (i:=i+1) (fun k d q M H=>by
   have e:i+1+k=i+(k+1):=by rw[eY,iy 1]
   rw[e]at H⊢;exact h (k+1) d q M H) M1 h1) fun M2 e2 h2=>?_;exact⟨M2,(hU e1).trans e2,by rw[ay,iy r.length,←eY];exact h2⟩
theorem kM {n:Nat} {X:Cx} {sc:NS} {L L':MM} {st:Stmt} {α:Type} {l:List α} {g:α→D} (I:Nat→MM) (c:(st,Sy sc st)=(Oh st,true)) (hL:I 0=L) (hL':I l.length=L') (hi:ue (n+1) X sc L (vE st) (l.map g))
 (hb:∀k a,l[k]?=some a→lm n X sc ((fX st,.dat (g a))::I k) (uu st) (.next,I (k+1))):jx (n+1) X sc L st (.next,L'):=fun M H=>by
 subst hL hL';rw[show st=Oh st from congrArg er c];have:=BE (b:=c7 (ex n X sc) (uu st)) (x:=fX st) (I:=I) (r:=l.map g) (i:=0) (fun k d q M H=>by
  rw[aJ]at q;(refine Um q fun a e q0=>?_;subst q0);rw[dR]at H⊢;exact hb k a e _ H.set) M H;rw[ag,dR]at this;refine Ua this fun M' e h'=>?_;exact⟨M',(wy (congrArg lz c) (hi M H)).trans e,h'⟩
theorem wv {n:Nat} {X:Cx} {sc:NS} {L:MM} {st:Stmt} {α:Type} {l:List α} {g:α→D} (c:(st,Sy sc st)=(Oh st,true)) (hi:ue (n+1) X sc L (vE st) (l.map g))
 (hb:∀a∈l,lm n X sc ((fX st,.dat (g a))::L) (uu st) (.next,L)):jx (n+1) X sc L st (.next,L):=kM (fun _=>L) c rfl rfl hi fun k a h=>hb a (ax h)
section
variable {X:Cx} {sc:NS} {n:Nat} {M:MM} {rs:List Rq} {ss:List Stmt}
theorem i9 {d:D} (h:AllR X sc rs) (e:((PA (qX X sc n) M ss).q (rs,[])).map (fun p=>(p.1.1,p.2))=some (.ret d,([],rs.reverse))):∃M',c7 (ex n X sc) ss M=some (.ret d,M'):=by
 (refine Um e fun q0 e1 e2=>?_;obtain⟨⟨fl',L1⟩,s⟩:=q0);have e5:s=([],rs.reverse):=congrArg lz e2;have e6:fl'=.ret d:=congrArg er e2;subst e5 e6;refine Ua (((PA (qX X sc n) M ss).ok e1 h.rev).1 M .self) fun M' e4 _=>?_;exact⟨M',e4⟩
theorem ye {x p d} (h:M.lookup x=some (.dat d)) (q:kj sc x=true):ev (n+1) X sc M (.Name x p)=some d:=by rw[p8,lQ q,h];rfl
theorem Om {x p d b} (h:M.lookup x=some (.dat d)) (q:kj sc x=true) (hb:ux d=some b):mT (n+2) X sc M (.Name x p)=some b:=by rw[rk rfl,Bi q,h,Bj,ye h q];exact hb
theorem TD {x p d b} (h:M.lookup x=some (.dat d)) (q:BA sc x=true) (q':(match sc.lookup x with|some .local=>false|_=>true)=true) (hb:ux d=some b):mT (n+2) X sc M (.Name x p)=some b:=by rw[rk rfl,I5 q',p8,u0 q,h];exact hb
theorem jd {f:Expr→Option D} {e:Expr} {r:List Expr} {d:D} {ds:List D} (h:f e=some d) (t:di f r=some ds):di f (e::r)=some (d::ds):=by rw[oh,h,t];rfl
theorem Has.one {x:Str} {e:Ent} (h:M.lookup x=some e):Has M [(x,e)]:=.add h .nil
theorem Has.cut {L N:MM} (h:Has M L) (e:Mine.restr L N=N):Has M N:=e▸h.restr
theorem GP {L L':MM} {st:Stmt} {ds:List D} (c:(st,Sy sc st)=(Oh st,true)) (hi:ue (n+1) X sc L (vE st) ds)
 (h:∀M,Has M L→∃M',sw (c7 (ex n X sc) (uu st)) (fX st) ds M=some (.next,M')∧Has M' L'):jx (n+1) X sc L st (.next,L'):=fun M H=>by
 rw[show st=Oh st from congrArg er c];refine Ua (h M H) fun M' e k=>?_;exact⟨M',(wy (congrArg lz c) (hi M H)).trans e,k⟩
noncomputable abbrev SubW (n w:Nat) (X:Cx) (sc:NS) (L:MM) (st:Stmt) (L':MM):Prop:=∀M,Has M L→∃M',Dh (fun M=>mT (n+1) X sc M (vE st)) (c7 (ex n X sc) (uu st)) w M=some (.next,M')∧Has M' L'
theorem Dg {t:MM→Option Bool} {b:MM→Option (Fl×MM)} {w:Nat} {M:MM} (h:t M=some false):Dh t b (w+1) M=some (.next,M):=by
 show(match t M with
  |some false=>some (Fl.next,M)
  |some true=>(match b M with
   |some (.next,M')=>Dh t b w M'
   |some (.brk,M')=>some (.next,M')
   |some (.ret v,M')=>some (.ret v,M')
   |none=>none)
  |none=>none)=_;rw[h]
theorem Df {t:MM→Option Bool} {b:MM→Option (Fl×MM)} {w:Nat} {M M':MM} (h:t M=some true) (h2:b M=some (.next,M')):Dh t b (w+1) M=Dh t b w M':=by
 show(match t M with
  |some false=>some (Fl.next,M)
  |some true=>(match b M with
   |some (.next,M')=>Dh t b w M'
   |some (.brk,M')=>some (.next,M')
   |some (.ret v,M')=>some (.ret v,M')
   |none=>none)
  |none=>none)=_;rw[h];dsimp only;rw[h2]
variable {L L1 L':MM} {st:Stmt} {w:Nat}
theorem SubW.stop (h:uF (n+1) X sc L (vE st) false):SubW n (w+1) X sc L st L:=fun M H=>⟨M,Dg (h M H),H⟩
theorem SubW.turn (h:uF (n+1) X sc L (vE st) true) (b:lm n X sc L (uu st) (.next,L1)) (k:SubW n w X sc L1 st L'):SubW n (w+1) X sc L st L':=fun M H=>by
 refine Ua (b M H) fun M1 e1 h1=>?_;refine Ua (k M1 h1) fun M2 e2 h2=>?_;exact⟨M2,(Df (h M H) e1).trans e2,h2⟩
theorem SubW.loop (c:st=.While (vE st) (uu st) [] st.pos) (h:SubW n 1000 X sc L st L'):jx (n+1) X sc L st (.next,L'):=fun M H=>by
 rw[c];exact h M H
theorem jW {α β:Type} {f:α→List β} {n:Nat}:∀{l:List α},(∀x∈l,(f x).length≤n)→(l.flatMap f).length≤l.length*n
 |[]=>@fun _=>d5 _
 |a::l=>@fun h=>by
  rw[mz,ai,ay,Nat.succ_mul,iy];exact qz (jW fun x q=>h x (af _ q)) (h a (au ..))
noncomputable def cT (e:Expr):Expr:=(PI e 0).ifs.headD BR
theorem TA {fE:MM→Expr→Option D} {fT:MM→Expr→Option Bool} {M:MM} {x:Str} {elt t:Expr} {d:D} {b:Bool} (h:fT (M.set x (.dat d)) t=some b):g1 fE fT M x elt [t] d=if b=true then(fE (M.set x (.dat d)) elt).map fun v=>[v]else some []:=by
 unfold g1;have:nK (fT (M.set x (.dat d))) [t]=some b:=by
  show(match fT (M.set x (.dat d)) t with|some true=>some true|some false=>some false|none=>none)=_;rw[h];cases b<;>rfl
 rw[this];cases b<;>rfl
theorem vk {α:Type} {f:D→Option (List D)} {g h:α→D} {P:α→Bool}:∀{l:List α},(∀a∈l,f (g a)=some (if P a=true then[h a]else[]))→fw f (l.map g)=some ((l.filter P).map h)
 |[]=>@fun _=>rfl
 |a::l=>@fun H=>by
  rw[bg,kO,H a (au ..),vk fun b q=>H b (af _ q),mZ];cases P a<;>rfl
theorem wE {α:Type} {e:Expr} {l:List α} {g h:α→D} {P:α→Bool} (c:(e,M9 sc e)=(SF e [cT e],true)) (hi:ue n X sc L (cI e 0) (l.map g))
 (ht:∀a∈l,uF n X (PH sc e) ((cX e 0,.dat (g a))::Hr sc L e) (cT e) (P a))
 (he:∀a∈l,gQ n X (PH sc e) ((cX e 0,.dat (g a))::Hr sc L e) (RQ e) (h a)) (hl:l.length≤1000000) {r:List D} (hr:(l.filter P).map h=r):gQ (n+1) X sc L e (.list r):=fun M H=>by
 subst hr;have c2:=dX.mp (congrArg lz c);rw[show e=SF e [cT e]from congrArg er c];refine(tZ c2.1 c2.2).trans (vx (hi M H) ?_);rw[vk (P:=P) (h:=h),bp,if_pos (by rw[ag];exact ae (jI ..) hl)];intro a ha;refine(TA (ht a ha _ H.capt.set)).trans ?_;cases P a with
 |false=>rfl
 |true=>exact congrArg (mV fun v=>[v]) (he a ha _ H.capt.set)
theorem GI {b:MM→Option (Fl×MM)} {x:Str} {d v:D} {r:List D} {M M':MM} (h:b (M.set x (.dat d))=some (.ret v,M')):sw b x (d::r) M=some (.ret v,M'):=by
 show(match b (M.set x (.dat d))with
  |some (.next,M')=>sw b x r M'
  |some (.brk,M')=>some (.next,M')
  |some (.ret v,M')=>some (.ret v,M')
  |none=>none)=_;rw[h]
theorem yy {b:MM→Option (Fl×MM)} {x:Str} {L:MM} {α:Type} {g:α→D} {P:α→Bool} {v:D}:∀{l:List α},(∀a∈l,P a=true→∀M,Has M L→∃M',b (M.set x (.dat (g a)))=some (.next,M')∧Has M' L)→
 (∀a∈l,P a=false→∀M,Has M L→∃M',b (M.set x (.dat (g a)))=some (.ret v,M'))→∀M,Has M L→∃M',sw b x (l.map g) M=some (if l.all P=true then .next else .ret v,M')
 |[]=>@fun _ _ M _=>⟨M,rfl⟩
 |a::l=>@fun h1 h2 M hM=>by
  rw[bg,jR];cases q:P a with
  |true=>
   refine Ua (h1 a (au ..) q M hM) fun M1 e1 k1=>?_;obtain⟨M2,e2⟩:=yy (fun a z=>h1 a (af _ z)) (fun a z=>h2 a (af _ z)) M1 k1;exact⟨M2,(hU e1).trans e2⟩
  |false=>
   obtain⟨M1,e1⟩:=h2 a (au ..) q M hM;exact⟨M1,GI e1⟩
theorem GQ {α:Type} {l:List α} {g:α→D} (P:α→Bool) (v:D) (c:(st,Sy sc st)=(Oh st,true)) (hi:ue (n+1) X sc L (vE st) (l.map g))
 (h1:∀a∈l,P a=true→lm n X sc ((fX st,.dat (g a))::L) (uu st) (.next,L)) (h2:∀a∈l,P a=false→lm n X sc ((fX st,.dat (g a))::L) (uu st) (.ret v,[])):jx (n+1) X sc L st (if l.all P then .next else .ret v,[]):=fun M H=>by
 rw[show st=Oh st from congrArg er c];obtain⟨M',e⟩:=yy (b:=c7 (ex n X sc) (uu st)) (x:=fX st) (g:=g) (v:=v) (fun a ha q M H=>h1 a ha q _ H.set) (fun a ha q M H=>by
  refine Ua (h2 a ha q _ H.set) fun M' e _=>?_;exact⟨M',e⟩) M H;exact⟨M',(wy (congrArg lz c) (hi M H)).trans e,fun _ _ q=>nomatch q⟩
end
noncomputable def f9 (l:List Stmt) (i:Nat):Stmt:=l.getD i (.Pass ⟨0,0,0,0⟩)
noncomputable def mE (st:Stmt):List Stmt:=(jM st).b
theorem hV {a b:Int} (h:0<b):a.fdiv b=a/b:=md a (aO h)
theorem Kr {c r sz:Int} (hc:0≤c) (hr:0≤r) (hs:0<sz):0≤(c+r).fdiv sz*sz∧(c+r).fdiv sz*sz≤c+r:=by
 rw[hV hs];exact⟨cb (ek (by(exact dk hc hr)) (by(exact aO hs))) (by(exact aO hs)),Int.ediv_mul_le _ (by(exact db hs))⟩
theorem LZ {sz:Int} (hs:1≤sz∧sz≤4):∀(rs:List Int) (c:Int),(∀r∈rs,0≤r∧r≤100)→0≤c→0≤lW sz rs c∧lW sz rs c≤c+104*rs.length
 |[]=>fun c _ hc=>⟨hc,ur (bI c).symm⟩
 |r::rs=>fun c h hc=>by
  have h0:=h r (au ..);have hst:=Kr hc h0.1 (by(exact hs.1):(0:Int)<sz);have e5:=LZ hs rs ((c+r).fdiv sz*sz+sz) (fun x q=>h x (af _ q)) (by exact(uE 0x1ce55e8481daabd6a4d52076aa40b9154042e:) hs hst);have e6:=e5.2;exact⟨e5.1,by rw[ay];show lW sz rs ((c+r).fdiv sz*sz+sz)≤_;exact(Vg 0xe739cabe327842e10d0272d957c6421a04e7a14cd55e95aaaa03b551904e4d52076aa40b9154042e:) hs h0 hst e6⟩
theorem Dx {sz r:Int} {rs:List Int} {k:Nat} (h:rs[k]?=some r):lW sz (rs.take (k+1)) 0=(lW sz (rs.take k) 0+r).fdiv sz*sz+sz:=by
 unfold lW;rw[eK,h,K2];rfl
noncomputable abbrev TJ:NS:=(aF (a7 76)).names
noncomputable abbrev UR:Stmt:=f9 (aG (a7 76)) 1
noncomputable abbrev cV (rs:List Int) (t:Int):MM:=[(ofString "row",.dat (.list (rs.map .int))),(ofString "tail",.dat (.int t))]
theorem RC (X:Cx) {rs:List Int} {t sz:Int} {l:List D} (h:∀r∈rs,0≤r∧r≤100) (hl:rs.length≤900) (hs:1≤sz∧sz≤4):jx 11 X TJ ((ofString "column",.dat (.int 0))::(ofString "size",.dat (.int sz))::(ofString "columns",.own l)::cV rs t) (f9 (mE UR) 1) (.next,(ofString "column",.dat (.int (lW sz rs 0)))::(ofString "size",.dat (.int sz))::(ofString "columns",.own l)::cV rs t):=by
 refine kM (n:=10) (l:=rs) (g:=D.int) (fun k=>(ofString "column",.dat (.int (lW sz (rs.take k) 0)))::(ofString "size",.dat (.int sz))::(ofString "columns",.own l)::cV rs t) (by kernel_rfl) rfl (by rw[mW]) (fQ (qj (fU (l:=rs.map D.int) (by rw[ag];exact ae hl (by decide))) .nil) (by kernel_rfl)) fun k r hk=>?_;have h0:=h r (ax hk);have hb:=LZ hs (rs.take k) 0 (fun x q=>h x (fA q)) (dj _);have hlk:((rs.take k).length:Int)≤900:=bQ.mpr (ae (dW ..) hl);rw[Dx hk];generalize lW sz (rs.take k) 0=c at hb⊢;have ssz:=cL (a:=sz) ⟨aB (by decide) hs.1,aB hs.2 (by decide)⟩;have q0:0≤c+r:=dk hb.1 h0.1;have qd:eS .FloorDiv (.int (c+r)) (.int sz)=some (.int ((c+r).fdiv sz)):=qv ⟨db hs.1,ssz⟩;have qm:eS .Mult (.int ((c+r).fdiv sz)) (.int sz)=some (.int ((c+r).fdiv sz*sz)):=dz ⟨cL (by
  rw[hV hs.1];have u1:=ek q0 (aO hs.1);have u2:=jS sz q0;have u3:=hb.2;have u4:=h0.2;generalize (c+r)/sz=q at*;generalize ((rs.take k).length:Int)=n at*;clear qd q0 ssz hk hb h0 h hs hl;omega),ssz⟩;exact fC (qb qd (qb qm (qb qd (qb qm .nil)))) (by kernel_rfl)
theorem yZ (X:Cx) (rs:List Int) (t:Int) (h:∀r∈rs,0≤r∧r≤100) (hl:rs.length≤900) (ht:0≤t∧t≤100):
 ∃M',c7 (ex 12 X TJ) (aG (a7 76)) (bU (ej (a7 76)) [.list (rs.map .int),.int t])=some (.ret (.list ((oB rs t).map .int)),M'):=by
 have f:jx 12 X TJ ((ofString "columns",.own [])::cV rs t) UR (.next,(ofString "columns",.own ((oB rs t).map .int))::cV rs t):=by
  refine kM (n:=11) (l:=[(1:Int),2,3,4]) (g:=D.int) (fun k=>(ofString "columns",.own ((([(1:Int),2,3,4].take k).map fun sz=>lW sz rs 0+t).map .int))::cV rs t) (by kernel_rfl) rfl rfl (fQ (qj (ve (l:=[.int 1,.int 2,.int 3,.int 4]) (by decide:4≤1000000)) .nil) (by kernel_rfl)) fun k sz hk=>?_;have hs:1≤sz∧sz≤4:=(by decide:∀x∈[(1:Int),2,3,4],1≤x∧x≤4) sz (ax hk);have hn:((([(1:Int),2,3,4].take k).map fun sz=>lW sz rs 0+t).map D.int).length≤1000000:=by rw[ag,ag];exact ae (dW ..) (by decide)
  rw[eK,hk,bz,bz];exact fC (qx (RC X (t:=t) (l:=(([(1:Int),2,3,4].take k).map fun sz=>lW sz rs 0+t).map D.int) h hl hs) (qp hn .nil)) (by kernel_rfl)
 exact i9 (n:=12) (M:=cV rs t) (qx f .nil) (by kernel_rfl)
theorem wH {C:aU} {k:Nat} (rs:List Int) (t:Int) (h:∀r∈rs,0≤r∧r≤100) (hl:rs.length≤900) (ht:0≤t∧t≤100):
 CallOK C (k+1) (.ref 210) [.list (rs.map .int),.int t] (.list ((oB rs t).map .int)):=by
 obtain⟨M',e⟩:=yZ X0 rs t h hl ht;exact c9 N2 d8 rfl e
theorem Da {C:aU} {k:Nat} (x:Int):CallOK C (k+1) (.ref 167) [.int x] (.bool (decide (x≥256))):=by
 refine c9 (n:=12) (M':=bU (ej (a7 68)) [.int x]) N9 d8 rfl ?_;kernel_rfl
theorem AG {C:aU} {k:Nat} (x:Int):CallOK C (k+1) (.ref 174) [.int x] (.bool (x==0)):=by
 refine c9 (n:=12) (M':=bU (ej (a7 69)) [.int x]) N8 d8 rfl ?_;kernel_rfl
noncomputable def signL:List (List Nat):=[[59],[43],[45],[42],[47],[124],[38],[60],[62],[61],[46],[37],[123],[125],[61,61],[33,61],[60,61],[62,61],[126],[94],[60,60],[62,62],[42,42],[43,61],[45,61],[42,61],[47,61],[37,61],[38,61],[124,61],[94,61],[60,60,61],[62,62,61],[42,42,61],[47,47],[47,47,61],[64],[64,61],[45,62],[46,46,46],[58,61],[33]]
noncomputable def ig (n:Int):List Nat:=signL.getD (n-13).toNat []
noncomputable def xB (st:Stmt):Expr:=(jM st).e
theorem FT (X:Cx) (rs:List Int) (t:Int) (hl:rs.length≤1000) (h:∀r∈rs,0≤r∧r≤100) (ht:0≤t∧t≤100):
 ∃M',c7 (ex 12 X (aF (a7 75)).names) (aG (a7 75)) (bU (ej (a7 75)) [.list (rs.map .int),.int t])=some (.ret (.str (S (dp rs t))),M'):=by
 have hfl:(rs.map fun r=>aA r.toNat 32++[9]).flatten.length≤101*rs.length:=by
  clear hl;induction rs with
  |nil=>simp
  |cons r rs ih=>
   have:=ih fun x q=>h x (af _ q);have h0:=h r (au ..);rw[bg,sI,ai,ai,a9,bv,ay];exact(HK 0xe72917842e18ca273c4f085c4d546413915401d488c6513841001c8:) this h0
 have hrl:(rs.map D.int).length≤1000000:=by rw[ag];exact ae hl (by decide)
 have c1:∀z,gQ (z+6) X (aF (a7 75)).names [(ofString "row",.dat (.list (rs.map .int)))] (wO (wO (vE (f9 (aG (a7 75)) 0)) 0) 1) (.list ((rs.map fun r=>aA r.toNat 32++[9]).map fun l=>.str (S l))):=fun z=>kq (n:=z+5) (l:=rs) (g:=D.int) (h:=fun r=>D.str (S (aA r.toNat 32++[9]))) (by kernel_rfl) (fQ (qj (fU hrl) .nil) (by kernel_rfl))
  (fun r hr=>by
   have h0:=h r hr;exact fR (qb (zb (c:=32) (n:=r) ⟨h0.1,aB h0.2 (by decide)⟩) (qb (gf (x:=aA r.toNat 32) (y:=[9]) (by rw[a9];exact Nat.succ_le_of_lt (ca (Int.toNat_le.mpr h0.2) (by decide)))) .nil)) (by kernel_rfl)) (ae hl (by decide)) (by rw[be];rfl);exact i9 (n:=12) (X:=X) (sc:=(aF (a7 75)).names) (M:=[(ofString "row",.dat (.list (rs.map .int))),(ofString "tail",.dat (.int t))]) (ss:=aG (a7 75)) (d:=.str (S (dp rs t)))
  (qe c1 (qt (IO (by exact(dA 0xe729e8480470e9110ca270e9f409c2:) hl hfl)) (qb (zb (c:=32) (n:=t) ⟨ht.1,aB ht.2 (by decide)⟩) (qb (gf (x:=(rs.map fun r=>aA r.toNat 32++[9]).flatten) (y:=aA t.toNat 32) (by rw[a9];exact(HK 0x739ca7a12011cf20e9110ca270f551904e45500753e813841001c8:) hl ht hfl)) .nil)))) (by kernel_rfl)
theorem C4 {C:aU} {k:Nat} (rs:List Int) (t:Int) (hl:rs.length≤1000) (h:∀r∈rs,0≤r∧r≤100) (ht:0≤t∧t≤100):
 CallOK C (k+1) (.ref 203) [.list (rs.map .int),.int t] (.str (S (dp rs t))):=Un (FT X0 rs t hl h ht) fun M' e=>c9 N3 d8 rfl e
noncomputable def cD (e:Expr):D:=(ev 1 X0 [] [] e).getD .none
noncomputable def Ee:List Nat:=(List.intersperse [32] signL).flatten
theorem Cq (X:Cx) (ns:List Int) (h:∀n∈ns,13≤n∧n≤54) (hl:ns.length≤1000):
 ∃M',c7 (ex 12 X (aF (a7 71)).names) (aG (a7 71)) (bU (ej (a7 71)) [.list (ns.map .int)])=some (.ret (.list (ns.map fun n=>.str (S (ig n)))),M'):=by
 have hrl:(ns.map D.int).length≤1000000:=by rw[ag];exact ae hl (by decide)
 have c1:∀z,gQ (z+6) X (aF (a7 71)).names [(ofString "numbers",.dat (.list (ns.map .int))),(ofString "signs",.dat (.list (signL.map fun l=>.str (S l))))] (vE (f9 (aG (a7 71)) 2)) (.list (ns.map fun n=>.str (S (ig n)))):=fun z=>kq (n:=z+5) (l:=ns) (g:=D.int) (h:=fun n=>D.str (S (ig n))) (by kernel_rfl) (fQ (qj (fU hrl) .nil) (by kernel_rfl))
  (fun n hn=>by
   have h0:=h n hn;have hi:(n-13).toNat<42:=by exact(iG 0xe582a1385aa86c2722a8685c1001d0685c8:) h0
   have:signL[(n-13).toNat]?=some (ig n):=by
    unfold ig;rw[ac,aj (by show _<42;exact hi)];rfl
   have it:ef (.list (signL.map fun l=>.str (S l))) (.int (n-13))=some (.str (S (ig n))):=by
    show(if 0≤n-13∧n-13<1000000 then(signL.map fun l=>D.str (S l))[(n-13).toNat]? else none)=_;rw[if_pos (by exact(iG 0x39abfa12011d0685c8ac1a17200ed5436139154342e:) h0),aJ,this];rfl
   exact fR (qi it .nil) (by kernel_rfl)) (ae hl (by decide)) rfl;exact i9 (n:=12) (X:=X) (sc:=(aF (a7 71)).names) (M:=[(ofString "numbers",.dat (.list (ns.map .int)))]) (ss:=aG (a7 71)) (qb (op:=.Add) (x:=cD (vE (f9 (aG (a7 71)) 0))) (y:=cD (wO (wO (wO (vE (f9 (aG (a7 71)) 1)) 0) 0) 1)) (r:=.str (S Ee)) (by kernel_rfl) (qt (f:=ofString "split") (x:=.str (S Ee)) (as:=[.str (S [32])]) (r:=.list (signL.map fun l=>.str (S l))) (by kernel_rfl) (qe c1 .nil))) (by kernel_rfl)
theorem zX {C:aU} {k:Nat} (ns:List Int) (h:∀n∈ns,13≤n∧n≤54) (hl:ns.length≤1000):
 CallOK C (k+1) (.ref 179) [.list (ns.map .int)] (.list (ns.map fun n=>.str (S (ig n)))):=by
 obtain⟨M',e⟩:=Cq X0 ns h hl;exact c9 N7 d8 rfl e
set_option genCtorIdx true in
inductive T where
 |leaf (p:Nat)
 |node (l r:T) (run:Int)
noncomputable def bj:T→D
 |.leaf p=>.list [.int p]
 |.node l r s=>.list [bj l,bj r,.int s]
noncomputable def DV (M:MM) (x:Str) (l:List D):Prop:=M.lookup x=some (.dat (.list l))∨M.lookup x=some (.own l)
theorem I3 {n:Nat} {X:Cx} {sc:NS} {M:MM} {x:Str} {p:Pos} {l:List D} (h:kj sc x=true) (hM:DV M x l):ja (ev (n+1) X sc M) sc M (.Name x p)=some (.list l):=by
 rw[Bi h];rcases hM with e|e
 ·rw[e,Bj,p8,lQ h,e];rfl
 ·rw[e];rfl
theorem mo {l:List D} {lo hi:Option Int} (h:l.length≤1000000):gt (.list l) lo hi none=some (.list (oA l lo hi)):=by
 show(if(none:Option Int)≠some 0∧l.length≤1000000 then some (D.list (vY l lo hi none))else none)=_;rw[if_pos ⟨by simp,h⟩];rfl
theorem t7 {k n:Nat} {d:Int} (h:k≤n):jv (some (k:Int)) d (n:Int)=k:=by
 unfold jv;dsimp only;rw[if_neg (by exact(fN 1030765122:))];exact(dA 0x733212683120080392090e42:) h
theorem yS {α:Type} {l:List α} {k:Nat} (h:k≤l.length):oA l none (some (k:Int))=l.take k:=by
 unfold oA;rw[t7 h,show jv none 0 (l.length:Int)=0 from rfl];simp
theorem yT {α:Type} {l:List α} {k:Nat} (h:k≤l.length):oA l (some (k:Int)) none=l.drop k:=by
 unfold oA;rw[t7 h,show jv none (l.length:Int) (l.length:Int)=l.length from rfl];exact bD (by simp)
theorem cY {l:List D} {k:Nat} {d:D} (h:l[k]?=some d) (hk:k<1000000):ef (.list l) (.int (k:Int))=some d:=by
 rw[AE];rw[if_pos ⟨by(exact aY _),by exact(fN 0x397f424023a42b7a12011c2:) hk⟩];simpa using h
noncomputable def gy (items:List T) (place:Nat) (run:Int):List T:=match items[place]?,items[place+1]? with
 |some a,some b=>items.take place++[.node a b run]++items.drop (place+2)
 |_,_=>items
noncomputable def fy (c:Int) (k:Nat):Nat:=(c.fmod (4-(k:Int))).toNat
noncomputable def iB (c:Int):Int:=(c.fdiv 12).fmod 4
theorem BI {a b:Int} (h:0<b):0≤a.fmod b∧a.fmod b<b:=by
 rw[ib a (aO h)];exact⟨i8 _ (by(exact db h)),gF _ h⟩
theorem pB (X:Cx) (cs:List Int) (c:Int) (items:List T) (k:Nat) (hk:k<4) (hc:cs[k]?=some c) (hcl:cs.length≤100) (hm:items.length=5-k) (M:MM)
 (h1:M.lookup (ofString "cells")=some (.dat (.list (cs.map .int)))) (h2:DV M (ofString "items") (items.map bj)):
 ∃M',c7 (ex 11 X (aF (a7 72)).names) (mE (f9 (aG (a7 72)) 1)) (M.set (ofString "k") (.dat (.int k)))=some (.next,M')∧M'.lookup (ofString "cells")=some (.dat (.list (cs.map .int)))∧
  DV M' (ofString "items") ((gy items (fy c k) (iB c)).map bj):=by
 have hb:=BI (a:=c) (b:=4-(k:Int)) (by exact(fN 0x72f090881701d6205c2:) hk);have hp:((fy c k:Nat):Int)=c.fmod (4-(k:Int)):=bG hb.1;generalize hpl:fy c k=pl at hp⊢;have hpl1:pl+1<items.length:=by exact(US 0xe739613c217132891357848640b915401d8288601942e:) hm hb hp
 refine Un (⟨_,aj (Mg hpl1)⟩:∃a,items[pl]?=some a) fun a ha=>?_;refine Un (⟨_,aj hpl1⟩:∃a,items[pl+1]?=some a) fun b hb2=>?_;have hst:gy items pl (iB c)=items.take pl++[.node a b (iB c)]++items.drop (pl+2):=by unfold gy;rw[ha,hb2]
 have hcell:ef (.list (cs.map .int)) (.int (k:Int))=some (.int c):=cY (by rw[aJ,hc];rfl) (by(exact aP hk (by decide)));have i1:ef (.list (items.map bj)) (.int (c.fmod (4-(k:Int))))=some (bj a):=by rw[←hp];exact cY (by rw[aJ,ha];rfl) (by exact(HK 0x7396f4240238794487abc242205c8aa00e:) hb hp)
 have i2:ef (.list (items.map bj)) (.int (c.fmod (4-(k:Int))+1))=some (bj b):=by
  rw[←hp,show((pl:Int)+1)=((pl+1:Nat):Int)by exact(fN 0x1993c21709e10ba42:)];exact cY (by rw[aJ,hb2];rfl) (by exact(HK 0x7396f4240239e10b8794487abc242205c8aa00e:) hb hp)
 have hlen:(items.map bj).length=items.length:=ag ..;have hs1:gt (.list (items.map bj)) none (some (c.fmod (4-(k:Int)))) none=some (.list ((items.map bj).take pl)):=by
  rw[mo (by exact(iq 0x39ca7a12011c3c0878288602142e:) hm hlen),←hp,yS (by exact(iq 0x739420b032586f085c2:) hpl1 hlen)]
 have hs2:gt (.list (items.map bj)) (some (c.fmod (4-(k:Int))+2)) none none=some (.list ((items.map bj).drop (pl+2))):=by
  rw[mo (by exact(iq 0x39ca7a12011c3c0878288602142e:) hm hlen),←hp,show((pl:Int)+2)=((pl+2:Nat):Int)by exact(fN 0x1993c41709e20ba42:),yT (by(rw[hlen];exact hpl1))]
 have ht:((items.map bj).take pl).length≤5:=by rw[fZ];exact(US 0xe72850b8b94487abc242205c8aa00e28083:) hb hp
 have hd:((items.map bj).drop (pl+2)).length≤5:=by rw[cp];exact(rY 0x7394285c7c0878308607882e28c602142e:) hm hlen
 have hfin:(gy items pl (iB c)).map bj=(items.map bj).take pl++[D.list [bj a,bj b,.int (iB c)]]++(items.map bj).drop (pl+2):=by
  rw[hst,bz,bz,zQ,zR];rfl
 rw[hfin];have rs:=fun X=>qi (X:=X) (sc:=(aF (a7 72)).names) hcell (qb (zc (a:=c) (b:=4-(k:Int)) (by exact(fN 0xe7b2074242205d6205c2:) hk)) (qi i1 (qi i2 (qi hcell (qs hs1 (qb (l5 (x:=(items.map bj).take pl) (y:=[D.list [bj a,bj b,.int (iB c)]]) (by rw[bv];(exact ca ht (by decide)))) (qs hs2 (qp (show((items.map bj).take pl++[D.list [bj a,bj b,.int (iB c)]]).length+((items.map bj).drop (pl+2)).length≤1000000 by rw[ai,bv];exact(dA 0x39ca7a12011cf1bc2170a850b874285c2:) ht hd) .nil))))))));have fin:lm 11 X (aF (a7 72)).names [(ofString "k",.dat (.int k)),(ofString "cells",.dat (.list (cs.map .int))),(ofString "items",.dat (.list (items.map bj)))] (mE (f9 (aG (a7 72)) 1)) (.next,[(ofString "cells",.dat (.list (cs.map .int))),(ofString "items",.own ((items.map bj).take pl++[D.list [bj a,bj b,.int (iB c)]]++(items.map bj).drop (pl+2)))]):=fC (rs X) (by kernel_rfl);have fin':lm 11 X (aF (a7 72)).names [(ofString "k",.dat (.int k)),(ofString "cells",.dat (.list (cs.map .int))),(ofString "items",.own (items.map bj))] (mE (f9 (aG (a7 72)) 1)) (.next,[(ofString "cells",.dat (.list (cs.map .int))),(ofString "items",.own ((items.map bj).take pl++[D.list [bj a,bj b,.int (iB c)]]++(items.map bj).drop (pl+2)))]):=fC (rs X) (by kernel_rfl);have out:∀{o:Option (Fl×MM)},(∃M',o=some (.next,M')∧Has M' [(ofString "cells",.dat (.list (cs.map .int))),(ofString "items",.own ((items.map bj).take pl++[D.list [bj a,bj b,.int (iB c)]]++(items.map bj).drop (pl+2)))])→∃M',o=some (.next,M')∧M'.lookup (ofString "cells")=some (.dat (.list (cs.map .int)))∧DV M' (ofString "items") ((items.map bj).take pl++[D.list [bj a,bj b,.int (iB c)]]++(items.map bj).drop (pl+2)):=fun h=>h.imp fun M' h=>⟨h.1,h.2 _ _ rfl,.inr (h.2 _ _ rfl)⟩;rcases h2 with h2|h2
 ·exact out (fin _ (Has.set (.add h1 (.add h2 .nil))))
 ·exact out (fin' _ (Has.set (.add h1 (.add h2 .nil))))
noncomputable def leaves5:List T:=[.leaf 0,.leaf 1,.leaf 2,.leaf 3,.leaf 4]
noncomputable def rB (cs:List Int):List T:=gy (gy (gy (gy leaves5 (fy (cs.getD 0 0) 0) (iB (cs.getD 0 0))) (fy (cs.getD 1 0) 1) (iB (cs.getD 1 0))) (fy (cs.getD 2 0) 2) (iB (cs.getD 2 0))) (fy (cs.getD 3 0) 3) (iB (cs.getD 3 0))
theorem ml {items:List T} {k:Nat} {c:Int} (hk:k<4) (hm:items.length=5-k):(gy items (fy c k) (iB c)).length=5-(k+1):=by
 have hb:=BI (a:=c) (b:=4-(k:Int)) (by exact(fN 0x72f090881701d6205c2:) hk);have hp:((fy c k:Nat):Int)=c.fmod (4-(k:Int)):=bG hb.1;generalize fy c k=pl at hp⊢;unfold gy;have h2:pl+1<items.length:=by rw[hm];exact(HK 0xe72c47842e1e5121eaf090881722a8038601142e:) hb hp
 have h1:pl<items.length:=Mg h2;rw[aj h1,aj h2,show 5-(k+1)=5-k-1 from rfl,←hm];clear hm hk hb hp;simp only[ai,fZ,cp,bv];rw[kF (a5 h1)];generalize items.length=n at*;exact(dA 0x7305791e10b8561bc2170860085c3181e20b843:) h2
theorem Eo (X:Cx) (c0 c1 c2 c3 c4:Int) (t:T) (ht:rB [c0,c1,c2,c3,c4]=[t]):
 ∃M',c7 (ex 12 X (aF (a7 72)).names) (aG (a7 72)) (bU (ej (a7 72)) [.list ([c0,c1,c2,c3,c4].map .int)])=some (.ret (bj t),M'):=by
 rw[show bU (ej (a7 72)) [.list ([c0,c1,c2,c3,c4].map .int)]=[(ofString "cells",.dat (.list ([c0,c1,c2,c3,c4].map .int)))]from by kernel_rfl];obtain⟨M,hM⟩:∃M:MM,M=[(ofString "cells",.dat (.list ([c0,c1,c2,c3,c4].map .int)))]:=⟨_,rfl⟩;obtain⟨M0,hM0⟩:∃M0,M0=M.set (ofString "items") (.dat (.list (leaves5.map bj))):=⟨_,rfl⟩;have h1:M0.lookup (ofString "cells")=some (.dat (.list ([c0,c1,c2,c3,c4].map .int))):=by rw[hM0,f8 (by decide+kernel),hM];exact eQ
 have h2:DV M0 (ofString "items") (leaves5.map bj):=.inl (by rw[hM0];exact ic);refine Ul (pB X [c0,c1,c2,c3,c4] c0 leaves5 0 (by(decide)) rfl (by simp) rfl M0 h1 h2) fun M1 a1 a2 a3=>?_;have q1:=ml (items:=leaves5) (k:=0) (c:=c0) (by(decide)) rfl;refine Ul (pB X [c0,c1,c2,c3,c4] c1 _ 1 (by(decide)) rfl (by simp) q1 M1 a2 a3) fun M2 b1 b2 b3=>?_;have q2:=ml (k:=1) (c:=c1) (by(decide)) q1;refine Ul (pB X [c0,c1,c2,c3,c4] c2 _ 2 (by(decide)) rfl (by simp) q2 M2 b2 b3) fun M3 d1 d2 d3=>?_;have q3:=ml (k:=2) (c:=c2) (by(decide)) q2;refine Ul (pB X [c0,c1,c2,c3,c4] c3 _ 3 (by(exact ba _)) rfl (by simp) q3 M3 d2 d3) fun M4 e1 e2 e3=>?_;have e4:DV M4 (ofString "items") [bj t]:=by
  have:(gy (gy (gy (gy leaves5 (fy c0 0) (iB c0)) (fy c1 1) (iB c1)) (fy c2 2) (iB c2)) (fy c3 3) (iB c3))=[t]:=ht;rw[this]at e3;exact e3
 refine⟨M4,?_⟩;rw[←hM];conv=>lhs;arg 2;whnf
 refine dO (M':=M0) ?_ (dO (M':=M4) ?_ (j8 (ot ?_)))
 ·rw[hM0]
  refine lU (by kernel_rfl) (by kernel_rfl) ?_;rw[hM];kernel_rfl
 ·rw[wy (ds:=[.int 0,.int 1,.int 2,.int 3]) (by kernel_rfl) (by rw[hM0,hM];kernel_rfl)]
  exact(hU a1).trans ((hU b1).trans ((hU d1).trans ((hU e1).trans wr)))
 ·rw[GZ (by kernel_rfl),I3 (by kernel_rfl) e4,bp,fg]
  exact cY (l:=[bj t]) (k:=0) rfl (by(decide))
theorem Cu {C:aU} {k:Nat} (c0 c1 c2 c3 c4:Int) (t:T) (ht:rB [c0,c1,c2,c3,c4]=[t]):CallOK C (k+1) (.ref 184) [.list ([c0,c1,c2,c3,c4].map .int)] (bj t):=by
 obtain⟨M',e⟩:=Eo X0 c0 c1 c2 c3 c4 t ht;exact c9 N6 d8 rfl e
open Classical in
noncomputable def pick {α:Type} (R:α→D→Prop) (a:α):Option D:=if h:∃d,R a d then some h.choose else none
theorem sk {α:Type} {R:α→D→Prop} {a:α} {d:D} (fn:∀d d',R a d→R a d'→d=d') (h:R a d):pick R a=some d:=by
 unfold pick;rw[dif_pos ⟨d,h⟩];exact congrArg some (fn _ _ (Exists.choose_spec (⟨d,h⟩:∃d,R a d)) h)
theorem s4 {α:Type} {R:α→D→Prop} {a:α} {d:D} (h:pick R a=some d):R a d:=by
 unfold pick at h;split at h
 ·rename_i q;cases h;exact q.choose_spec
 ·cases h
noncomputable def Cx.of (cs:List (Str×(List D→D→Prop))) (ms:List (Str×(D×List D→D→Prop))):Cx:=
 ⟨fun f as=>(cs.lookup f).bind fun R=>pick R as,fun f d as=>(ms.lookup f).bind fun R=>pick R (d,as)⟩
theorem CxOK.of {C:aU} {k:Nat} {cs:List (Str×(List D→D→Prop))} {ms:List (Str×(D×List D→D→Prop))}
 (h:∀f R,cs.lookup f=some R→∃fv,nsIn (Kf C) mainGlobals f=some (some fv)∧keepIn (Kf C) fv=true∧∀as d,R as d→CallOK C k fv as d)
 (h2:∀f R,ms.lookup f=some R→∃fn,findIn (Kf C) (.ref g7) f=some (some (.ref fn))∧isFn (Kf C) (.ref fn)=true∧keepIn (Kf C) (.ref fn)=true∧(f∉fieldNames∧(bC==f)=false)∧plainGet (Kf C) g7 f=true∧∀l as d,R (.obj l,as) d→CallOK C k (.ref fn) (.obj l::as) d):CxOK C (Cx.of cs ms) k:=by
 refine⟨fun{f ds d} q=>?_,fun{f l ds d} q=>?_⟩
 ·refine Ub q fun R e q=>?_
  refine Ul (h f R e) fun fv h1 h2 h3=>?_;exact⟨fv,h1,h2,h3 _ _ (s4 q)⟩
 ·refine Ub q fun R e q=>?_
  refine Uz (h2 f R e) fun fv h1 h2 h3 h4 h5 h6=>?_;exact⟨fv,h1,h2,h3,h4,h5,h6 _ _ _ (s4 q)⟩
theorem gM {x:Str} {R:List D→D→Prop} {cs:List (Str×(List D→D→Prop))} {ms:List (Str×(D×List D→D→Prop))} {as:List D} {d:D} (fn:∀d d',R as d→R as d'→d=d') (h:R as d):(Cx.of ((x,R)::cs) ms).call x as=some d:=by
 unfold Cx.of;dsimp only;rw[aH,beq_self_eq_true];exact sk fn h
theorem ow {f x:Str} {R:List D→D→Prop} {cs:List (Str×(List D→D→Prop))} {ms:List (Str×(D×List D→D→Prop))} {as:List D} (h:(f==x)=false):(Cx.of ((x,R)::cs) ms).call f as=(Cx.of cs ms).call f as:=by
 unfold Cx.of;dsimp only;rw[aH,h]
theorem tb {x:Str} {R:D×List D→D→Prop} {cs:List (Str×(List D→D→Prop))} {ms:List (Str×(D×List D→D→Prop))} {o:D} {as:List D} {d:D} (fn:∀d d',R (o,as) d→R (o,as) d'→d=d') (h:R (o,as) d):(Cx.of cs ((x,R)::ms)).meth x o as=some d:=by
 unfold Cx.of;dsimp only;rw[aH,beq_self_eq_true];exact sk fn h
theorem C0 {f x:Str} {R:D×List D→D→Prop} {cs:List (Str×(List D→D→Prop))} {ms:List (Str×(D×List D→D→Prop))} {o:D} {as:List D} (h:(f==x)=false):(Cx.of cs ((x,R)::ms)).meth f o as=(Cx.of cs ms).meth f o as:=by
 unfold Cx.of;dsimp only;rw[aH,h]
theorem yn {α:Type} {x f:Str} {a R:α} {l:List (Str×α)} {P:Str→α→Prop} (h1:P x a) (h2:∀f R,l.lookup f=some R→P f R) (h:((x,a)::l).lookup f=some R):P f R:=by
 rw[aH]at h;cases hx:f==x with
 |true=>rw[hx]at h;cases h;rw[bt hx];exact h1
 |false=>rw[hx]at h;exact h2 f R h
theorem mv:∀{a b:List Int},a.map D.int=b.map D.int→a=b
 |[],[]=>@fun _=>rfl
 |[],_::_=>@fun h=>nomatch h
 |_::_,[]=>@fun h=>nomatch h
 |x::a,y::b=>@fun h=>by
  rw[bg,bg]at h;injection h with h1 h2;injection h1 with h1;rw[h1,mv h2]
noncomputable def cm (ws:List (List Nat)):List D:=ws.map fun l=>D.str (S l)
theorem xK:∀{a b:List (List Nat)},cm a=cm b→a=b
 |[],[]=>@fun _=>rfl
 |[],_::_=>@fun h=>nomatch h
 |_::_,[]=>@fun h=>nomatch h
 |x::a,y::b=>@fun h=>by
  unfold cm at h;rw[bg,bg]at h;injection h with h1 h2;injection h1 with h1;rw[rO h1,xK h2]
theorem lG:∀{a b:T},bj a=bj b→a=b
 |.leaf p,.leaf q=>@fun h=>by
  injection h with h;injection h with h _;injection h with h;rw[j5.mp h]
 |.leaf p,.node ..=>@fun h=>by
  injection h with h;injection h with h h2;cases h2
 |.node ..,.leaf p=>@fun h=>by
  injection h with h;injection h with h h2;cases h2
 |.node l r s,.node l' r' s'=>@fun h=>by
  injection h with h;injection h with h1 h;injection h with h2 h;injection h with h3 h;injection h3 with h3;rw[lG h1,lG h2,h3]
noncomputable def T.size:T→Nat
 |.leaf _=>1
 |.node l r _=>l.size+r.size+1
noncomputable def T.depth:T→Nat
 |.leaf _=>0
 |.node l r _=>max l.depth r.depth+1
noncomputable def T.ok (n:Nat):T→Prop
 |.leaf p=>p<n
 |.node l r _=>l.ok n∧r.ok n
noncomputable def aR (ws:List (List Nat)):T→List Nat
 |.leaf p=>ws.getD p []
 |.node l r _=>40::(aR ws l++44::(aR ws r++[41]))
theorem lI {ws:List (List Nat)} (h:∀w∈ws,w.length≤3):∀t:T,(aR ws t).length≤3*t.size
 |.leaf p=>by
  show(ws.getD p []).length≤3;rw[ac];cases e:ws[p]? with
  |none=>simp
  |some w=>exact h w (ax e)
 |.node l r s=>by
  have h1:=lI h l;have h2:=lI h r;show(40::(aR ws l++44::(aR ws r++[41]))).length≤3*(l.size+r.size+1);simp only[ay,ai,bf];exact(rY 0x39ca45e10b9e518c2e7842e7bc2173de10b80e20a9128c2e25223185c2:) h1 h2
noncomputable def u5:Str:=ofString "_law_text"
noncomputable def rP (ws:List (List Nat)) (m:Nat) (as:List D) (d:D):Prop:=∃t:T,t.ok ws.length∧t.size≤100∧t.depth<m∧as=[bj t,.list (cm ws)]∧d=.str (S (aR ws t))
theorem zm {ws m as d d'} (h:rP ws m as d) (h':rP ws m as d'):d=d':=by
 (refine Ut h fun t _ _ _ e q0=>?_;subst q0);(refine Ut h' fun t' _ _ _ e' q0=>?_;subst q0);rw[e]at e';injection e' with e' _;rw[lG e']
theorem gJ {l:List D} (h:l.length≤1000000):ox (ofString "len") [.list l]=some (.int l.length):=by
 unfold ox;rw[if_pos rfl];show(if l.length≤1000000 then some (D.int l.length)else none)=_;rw[if_pos h]
theorem len_str {l:List Nat} (h:l.length≤1000000):ox (ofString "len") [.str (S l)]=some (.int l.length):=by
 unfold ox;rw[if_pos rfl];show(if(S l).length≤1000000 then some (D.int (S l).length)else none)=_;rw[i5,if_pos h]
theorem Ev {C:aU} (ws:List (List Nat)) (hw:∀w∈ws,w.length≤3) (hwl:ws.length≤1000) (k m:Nat) (t:T) (h1:t.ok ws.length) (h2:t.size≤100) (h3:t.depth≤m):
 ∃M',c7 (ex 12 (Cx.of [(u5,rP ws m)] []) (aF (a7 73)).names) (aG (a7 73)) (bU (ej (a7 73)) [bj t,.list (cm ws)])=some (.ret (.str (S (aR ws t))),M'):=by
 generalize hX:Cx.of [(u5,rP ws m)] []=X;have hc:∀t:T,t.ok ws.length→t.size≤100→t.depth<m→X.call (ofString "_law_text") [bj t,.list (cm ws)]=some (.str (S (aR ws t))):=fun t a b c=>by
  rw[←hX];exact gM (x:=u5) (fun _ _=>zm) ⟨t,a,b,c,rfl,rfl⟩
 cases t with
 |leaf p=>
  have hp:p<ws.length:=h1;have hg:ef (.list (cm ws)) (.int p)=some (.str (S (aR ws (.leaf p)))):=by
   refine cY ?_ (by exact(dA 0x7396f42402387610e9f409c2:) hwl hp);unfold cm;rw[aJ,aj hp];show _=some (D.str (S (ws.getD p [])));rw[ac,aj hp];rfl
  exact i9 (qf (gJ (l:=[.int p]) (by decide:1≤1000000)) (qw (b:=(1:Int)==1) (r:=true) rfl (qi (cY (l:=[.int p]) (k:=0) rfl (by decide)) (qi hg .nil)))) (by kernel_rfl)
 |node l r s=>
  have hs:l.size+r.size+1≤100:=h2;have hd:max l.depth r.depth+1≤m:=h3;have c0:=hc l h1.1 (by exact(dA 0x7283209c2a0c8273c2173c62:) hs) (by exact(iq 0x72c21d04f085c520083:) hd);have c1:=hc r h1.2 (by exact(dA 0x7283209c3a0c8273c2173c62:) hs) (by exact(iq 0x72c21d04f085c520064:) hd);have b0:=lI hw l;have b1:=lI hw r;have e:aR ws (.node l r s)=(([40]++aR ws l)++[44]++aR ws r)++[41]:=by
   show 40::(aR ws l++44::(aR ws r++[41]))=_;simp only[cq,bX,aC]
  rw[e];have hl:2+(aR ws l).length+(aR ws r).length+1≤1000000:=by exact(rY 0x739ca7a12011cf085cf2bc820ba9118c2e2d222185c4a0c8273c2173c62:) hs b0 b1
  exact i9 (qf (gJ (l:=[bj l,bj r,.int s]) (by decide:3≤1000000)) (qw (b:=(3:Int)==1) (r:=false) rfl (qi (cY (l:=[bj l,bj r,.int s]) (k:=0) rfl (by decide)) (qg c0 (qb (gf (x:=[40]) (y:=aR ws l) (by show 1+_≤_;exact(iq 0x1ce53d09008e7902175222185c4a0c8273c2173c62:) hs b0)) (qb (gf (x:=[40]++aR ws l) (y:=[44]) (by simp only[ai,ay,bf];exact(iq 0x7394f4240239ef085c073c8f085c075222185c4a0c8273c2173c62:) hs b0))
   (qi (cY (l:=[bj l,bj r,.int s]) (k:=1) rfl (by decide)) (qg c1 (qb (gf (x:=[40]++aR ws l++[44]) (y:=aR ws r) (by simp only[ai,ay,bf];exact(rY 0x1ce729e8480473caf7842e039e47842e03a9118c2e2d222185c4a0c8273c2173c62:) hs b0 b1)) (qb (gf (x:=[40]++aR ws l++[44]++aR ws r) (y:=[41]) (by simp only[ai,ay,bf];exact(rY 0xe7394f4240239ef085c073caf7842e039e47842e03a9118c2e2d222185c4a0c8273c2173c62:) hs b0 b1)) .nil)))))))))) (by kernel_rfl)
noncomputable def LocalIs (x:Str) (a:Addr):Prop:=nmTab.lookup x=some (some (some (.ref a)))∧(g7::fnTab.map (·.1)).contains a=true
theorem text_at:LocalIs u5 191:=⟨by kernel_rfl,by kernel_rfl⟩
noncomputable def cg (C:aU) (k:Nat) (a:Addr) (R:List D→D→Prop):Prop:=∀as d,R as d→CallOK C k (.ref a) as d
noncomputable abbrev pk (C:aU) (k:Nat) (f:Str) (R:List D→D→Prop):Prop:=∃fv,nsIn (Kf C) mainGlobals f=some (some fv)∧keepIn (Kf C) fv=true∧∀as d,R as d→CallOK C k fv as d
theorem LocalIs.at {C:aU} {k:Nat} {x:Str} {a:Addr} {R:List D→D→Prop} (l:LocalIs x a) (h:cg C k a R):pk C k x R:=⟨_,C.F.ns l.1,C.F.kp l.2,h⟩
theorem lh {C:aU} {k:Nat}:∀f R,eB f ([]:List (Str×(List D→D→Prop)))=some R→pk C k f R:=fun f R q=>by cases q
theorem cK {C:aU} {k:Nat} {x:Str} {R:List D→D→Prop} {l:List (Str×(List D→D→Prop))} (h1:pk C k x R) (h2:∀f R,l.lookup f=some R→pk C k f R):∀f R',((x,R)::l).lookup f=some R'→pk C k f R':=
 fun f R' q=>yn (P:=pk C k) h1 h2 q
theorem CxOK.calls {C:aU} {k:Nat} {cs:List (Str×(List D→D→Prop))} (h:∀f R,cs.lookup f=some R→pk C k f R):CxOK C (Cx.of cs []) k:=.of h fun f R q=>by cases q
theorem Cv {C:aU} {k:Nat} (ws:List (List Nat)) (hw:∀w∈ws,w.length≤3) (hwl:ws.length≤1000) (m:Nat):cg C (k+m) 191 (rP ws m):=by
 induction m with
 |zero=>rintro as d ⟨t,h1,h2,h3,_⟩;lia
 |succ m ih=>
  rintro as d ⟨t,h1,h2,h3,rfl,rfl⟩;obtain⟨M',e⟩:=Ev (C:=C) ws hw hwl k m t h1 h2 (by(exact mJ h3));exact c9 (X:=Cx.of [(u5,rP ws m)] []) N5 (.calls (cK (text_at.at ih) lh)) rfl e
noncomputable def iL (r:List Int):D:=.list (r.map .int)
noncomputable def jV (rs:List (List Int)):D:=.list (rs.map iL)
theorem mw {a b:List Int} (h:iL a=iL b):a=b:=mv (by injection h)
theorem C1:∀{a b:List (List Int)},a.map iL=b.map iL→a=b
 |[],[]=>@fun _=>rfl
 |[],_::_=>@fun h=>nomatch h
 |_::_,[]=>@fun h=>nomatch h
 |x::a,y::b=>@fun h=>by
  rw[bg,bg]at h;injection h with h1 h2;rw[mw h1,C1 h2]
noncomputable def c8 (runs:List (List Int)):T→List Int→List (List Int)
 |.leaf p,_=>[runs.getD p []]
 |.node l r s,above=>c8 runs l (above++[s])++(above++[s])::c8 runs r (above++[s])
theorem gp (runs:List (List Int)):∀(t:T) (ab:List Int),(c8 runs t ab).length=t.size
 |.leaf _=>@fun _=>rfl
 |.node l r s=>@fun ab=>by
  show(c8 runs l (ab++[s])++(ab++[s])::c8 runs r (ab++[s])).length=l.size+r.size+1;rw[ai,ay,gp runs l,gp runs r];rfl
noncomputable def u6:Str:=ofString "_law_rows"
noncomputable def rQ (runs:List (List Int)) (m:Nat) (as:List D) (d:D):Prop:=∃(t:T) (ab:List Int),t.ok runs.length∧t.size≤100∧t.depth<m∧ab.length+t.depth≤1000∧as=[bj t,iL ab,jV runs]∧d=jV (c8 runs t ab)
theorem zn {ws m as d d'} (h:rQ ws m as d) (h':rQ ws m as d'):d=d':=by
 (refine Ur h fun t ab _ _ _ _ e q0=>?_;subst q0);(refine Ur h' fun t' ab' _ _ _ _ e' q0=>?_;subst q0);rw[e]at e';injection e' with e' e2;injection e2 with e2 _;rw[lG e',mw e2]
theorem Gd {runs:List (List Int)} {p:Nat} (hp:p<runs.length) (h:runs.length≤1000):ef (jV runs) (.int p)=some (iL (runs.getD p [])):=by
 refine cY ?_ (by exact(dA 0x7396f424023854fa04e1d862:) hp h);rw[aJ,aj hp,ac,aj hp];rfl
theorem ES {C:aU} (ws:List (List Int)) (hwl:ws.length≤1000) (m:Nat) (t:T) (ab:List Int) (h1:t.ok ws.length) (h2:t.size≤100) (h3:t.depth≤m) (h4:ab.length+t.depth≤1000):
 ∃M',c7 (ex 12 (Cx.of [(u6,rQ ws m)] []) (aF (a7 74)).names) (aG (a7 74)) (bU (ej (a7 74)) [bj t,iL ab,jV ws])=some (.ret (jV (c8 ws t ab)),M'):=by
 generalize hX:Cx.of [(u6,rQ ws m)] []=X;have hc:∀(t:T) (ab:List Int),t.ok ws.length→t.size≤100→t.depth<m→ab.length+t.depth≤1000→X.call (ofString "_law_rows") [bj t,iL ab,jV ws]=some (jV (c8 ws t ab)):=fun t ab a b c d=>by
  rw[←hX];exact gM (x:=u6) (fun _ _=>zn) ⟨t,ab,a,b,c,d,rfl,rfl⟩
 rw[show bU (ej (a7 74)) [bj t,iL ab,jV ws]=[(ofString "tree",.dat (bj t)),(ofString "above",.dat (iL ab)),(ofString "runs",.dat (jV ws))]from by kernel_rfl];cases t with
 |leaf p=>exact i9 (n:=12) (qf (gJ (l:=[.int p]) (by(exact(by decide:1≤1000000)))) (qT (qi (x:=bj (.leaf p)) (y:=.int 0) (r:=.int p) rfl (qi (Gd h1 hwl) .nil)))) (by kernel_rfl)
 |node l r s=>
  replace h2:l.size+r.size+1≤100:=h2;replace h3:max l.depth r.depth+1≤m:=h3;replace h4:ab.length+(max l.depth r.depth+1)≤1000:=h4;have e:iL (ab++[s])=.list (ab.map D.int++[.int s]):=congrArg D.list bz;have c0:=hc l (ab++[s]) h1.1 (by exact(dA 0x7283209c2a0c8273c2173c62:) h2) (by exact(iq 0x72c21d04f085c520083:) h3) (by rw[ai,bv];exact(iq 0x1ca7d0273c6f085c2a7d0273de10b8a220083:) h4);have c1:=hc r (ab++[s]) h1.2 (by exact(dA 0x7283209c3a0c8273c2173c62:) h2) (by exact(iq 0x72c21d04f085c520064:) h3) (by rw[ai,bv];exact(iq 0x1ca7d0273c6f085c2a7d0273de10b8a220064:) h4);rw[e]at c0 c1;have b1:=l5 (x:=(c8 ws l (ab++[s])).map iL) (y:=[.list (ab.map D.int++[.int s])]) (by rw[ag,gp,bv];exact(dA 0x1ca7a12011cf085c2a0c8273c2173c62:) h2);have b2:eS .Add (.list ((c8 ws l (ab++[s])).map iL++[.list (ab.map D.int++[.int s])])) (jV (c8 ws r (ab++[s])))=some (jV (c8 ws (.node l r s) ab)):=(l5 (by rw[ai,ag,ag,gp,gp,bv];exact(dA 0x729e8480473c6f085c2a0c8273c2173c62:) h2)).trans (congrArg (fun l=>some (D.list l)) (by
   show _=(c8 ws l (ab++[s])++(ab++[s])::c8 ws r (ab++[s])).map iL;rw[bz,aC,bg,e];rfl));exact i9 (n:=12) (qf (gJ (l:=[bj l,bj r,.int s]) (by(exact(by decide:3≤1000000)))) (qF (qi (x:=bj (.node l r s)) (y:=.int 2) (r:=.int s) rfl (qp (show(ab.map D.int).length+[D.int s].length≤1000000 by rw[ag,bv];exact(dA 0x1ca7a12011cf085c2a7d0273de10b862:) h4) (qi (x:=bj (.node l r s)) (y:=.int 0) (r:=bj l) rfl (qg c0 (qb b1 (qi (x:=bj (.node l r s)) (y:=.int 1) (r:=bj r) rfl (qg c1 (qb b2 .nil)))))))))) (by kernel_rfl)
theorem rows_at:LocalIs u6 198:=⟨by kernel_rfl,by kernel_rfl⟩
theorem CD {C:aU} {k:Nat} (ws:List (List Int)) (hwl:ws.length≤1000) (m:Nat):cg C (k+m) 198 (rQ ws m):=by
 induction m with
 |zero=>rintro as d ⟨t,_,_,_,h3,_⟩;lia
 |succ m ih=>
  rintro as d ⟨t,ab,h1,h2,h3,h4,rfl,rfl⟩;obtain⟨M',e⟩:=ES (C:=C) ws hwl m t ab h1 h2 (by(exact mJ h3)) h4;exact c9 (X:=Cx.of [(u6,rQ ws m)] []) N4 (.calls (cK (rows_at.at ih) lh)) rfl e
noncomputable def ij (ns:List Int):T→List Int
 |.leaf p=>[ns.getD p 0]
 |.node l r _=>7::(ij ns l++12::(ij ns r++[8]))
theorem pK (ns:List Int):∀t:T,(ij ns t).length≤3*t.size
 |.leaf _=>by simp[ij,T.size]
 |.node l r s=>by
  have:=pK ns l;have:=pK ns r;simp only[ij,T.size,ai,ay,bf];lia
noncomputable def CZ:Str:=ofString "_law_row"
noncomputable def zo (ns:List Int) (m:Nat) (as:List D) (d:D):Prop:=∃(t:T),t.ok ns.length∧t.size≤100∧t.depth<m∧as=[bj t,iL ns]∧d=iL (ij ns t)
theorem B6 {ws m as d d'} (h:zo ws m as d) (h':zo ws m as d'):d=d':=by
 (refine Ut h fun t _ _ _ e q0=>?_;subst q0);(refine Ut h' fun t' _ _ _ e' q0=>?_;subst q0);rw[e]at e';injection e' with e' e2;rw[lG e']
theorem su {ns:List Int} {p:Nat} (hp:p<ns.length) (h:ns.length≤1000):ef (iL ns) (.int p)=some (.int (ns.getD p 0)):=by
 refine cY ?_ (by exact(dA 0x7396f424023854fa04e1d862:) hp h);rw[aJ,aj hp,ac,aj hp];rfl
theorem IU {C:aU} (ws:List Int) (hwl:ws.length≤1000) (m:Nat) (t:T) (h1:t.ok ws.length) (h2:t.size≤100) (h3:t.depth≤m):
 ∃M',c7 (ex 12 (Cx.of [(CZ,zo ws m)] []) (aF (a7 77)).names) (aG (a7 77)) (bU (ej (a7 77)) [bj t,iL ws])=some (.ret (iL (ij ws t)),M'):=by
 generalize hX:Cx.of [(CZ,zo ws m)] []=X;have hc:∀(t:T),t.ok ws.length→t.size≤100→t.depth<m→X.call (ofString "_law_row") [bj t,iL ws]=some (iL (ij ws t)):=fun t a b c=>by
  rw[←hX];exact gM (x:=CZ) (fun _ _=>B6) ⟨t,a,b,c,rfl,rfl⟩
 cases t with
 |leaf p=>exact i9 (qf (gJ (l:=[.int p]) (by decide:1≤1000000)) (qw (b:=(1:Int)==1) (r:=true) rfl (qi (cY (l:=[.int p]) (k:=0) rfl (by decide)) (qi (su h1 hwl) .nil)))) (by kernel_rfl)
 |node l r s=>
  have hs:l.size+r.size+1≤100:=h2;have hd:max l.depth r.depth+1≤m:=h3;have c0:=hc l h1.1 (by exact(dA 0x7283209c2a0c8273c2173c62:) hs) (by exact(iq 0x72c21d04f085c520083:) hd);have c1:=hc r h1.2 (by exact(dA 0x7283209c3a0c8273c2173c62:) hs) (by exact(iq 0x72c21d04f085c520064:) hd);have b0:=pK ws l;have b1:=pK ws r;have e:iL (ij ws (.node l r s))=.list ((([.int 7]++(ij ws l).map .int)++[.int 12]++(ij ws r).map .int)++[.int 8]):=by
   show D.list ((7::(ij ws l++12::(ij ws r++[8]))).map .int)=_;simp only[bg,bz,cq,bX,aC,List.map_nil]
  rw[e];have add:∀(x y:List D),x.length+y.length≤1000→eS .Add (.list x) (.list y)=some (.list (x++y)):=fun x y h=>l5 (ae h (by decide));exact i9 (qf (gJ (l:=[bj l,bj r,.int s]) (by decide:3≤1000000)) (qw (b:=(3:Int)==1) (r:=false) rfl (qi (cY (l:=[bj l,bj r,.int s]) (k:=0) rfl (by decide)) (qg c0 (qb (add [.int 7] ((ij ws l).map .int) (by rw[ag];show 1+_≤_;exact(iq 0x7394fa04e7902175222185c4a0c8273c2173c62:) hs b0)) (qb (add ([.int 7]++(ij ws l).map .int) [.int 12] (by simp only[ai,ay,bf,ag];exact(iq 0x1ce53e8139ef085c073c8f085c075222185c4a0c8273c2173c62:) hs b0))
   (qi (cY (l:=[bj l,bj r,.int s]) (k:=1) rfl (by decide)) (qg c1 (qb (add ([.int 7]++(ij ws l).map .int++[.int 12]) ((ij ws r).map .int) (by simp only[ai,ay,bf,ag];exact(rY 0x739ca7d0273caf7842e039e47842e03a9118c2e2d222185c4a0c8273c2173c62:) hs b0 b1)) (qb (add ([.int 7]++(ij ws l).map .int++[.int 12]++(ij ws r).map .int) [.int 8] (by simp only[ai,ay,bf,ag];exact(rY 0x39ce53e8139ef085c073caf7842e039e47842e03a9118c2e2d222185c4a0c8273c2173c62:) hs b0 b1)) .nil)))))))))) (by kernel_rfl)
theorem row_at:LocalIs CZ 217:=⟨by kernel_rfl,by kernel_rfl⟩
theorem EU {C:aU} {k:Nat} (ws:List Int) (hwl:ws.length≤1000) (m:Nat):cg C (k+m) 217 (zo ws m):=by
 induction m with
 |zero=>rintro as d ⟨t,_,_,h3,_⟩;lia
 |succ m ih=>
  rintro as d ⟨t,h1,h2,h3,rfl,rfl⟩;obtain⟨M',e⟩:=IU (C:=C) ws hwl m t h1 h2 (by exact(dA 0x7283159e10b862:) h3);exact c9 (X:=Cx.of [(CZ,zo ws m)] []) N1 (.calls (cK (row_at.at ih) lh)) rfl e
noncomputable def eZ (l:List Nat):Option Int:=tokTab.lookup (S l)
noncomputable def bO (l:List Nat):Nat→Nat
 |0=>0
 |s+1=>if(eZ (l.take (s+1))).isSome then s+1 else bO l s
noncomputable def nu:Nat→List Nat→List Int
 |0,_=>[]
 |_+1,[]=>[]
 |w+1,c::r=>(if bO (c::r) 3=0 then[]else[(eZ ((c::r).take (bO (c::r) 3))).getD 0])++nu w ((c::r).drop (max (bO (c::r) 3) 1))
noncomputable def dH (l:List Nat):List Int:=nu l.length l
theorem xW:∀(w v:Nat) (l:List Nat),l.length≤w→l.length≤v→nu w l=nu v l
 |0,v,[]=>@fun _ _=>by cases v<;>rfl
 |0,v,_::_=>@fun h _=>by simp at h
 |w+1,0,[]=>@fun _ _=>rfl
 |w+1,0,_::_=>@fun _ h=>by simp at h
 |w+1,v+1,[]=>@fun _ _=>rfl
 |w+1,v+1,c::r=>@fun h h'=>by
  have:((c::r).drop (max (bO (c::r) 3) 1)).length≤r.length:=by rw[cp,ay];exact(dA 0x141146023c2170880085c3:)
  rw[ay]at h h';unfold nu;rw[xW w v _ (by exact(iq 0x739419282251e10b86f085c2:) h this) (by exact(iq 0x739419282251e10b86f085c2:) h' this)]
theorem Ag (c:Nat) (r:List Nat):dH (c::r)=(if bO (c::r) 3=0 then[]else[(eZ ((c::r).take (bO (c::r) 3))).getD 0])++dH ((c::r).drop (max (bO (c::r) 3) 1)):=by
 show nu (r.length+1) (c::r)=_;rw[nu];have:((c::r).drop (max (bO (c::r) 3) 1)).length≤r.length:=by rw[cp,ay];exact(dA 0x141146023c2170880085c3:)
 rw[xW r.length _ _ this (ba _)];rfl
theorem uS:dH []=[]:=rfl
theorem uN (l:List Nat):∀s,bO l s≤s
 |0=>ba _
 |s+1=>by rw[bO];split;·exact ba _
          ·exact Nat.le_succ_of_le (uN l s)
theorem z5 {l:List Nat} {s:Nat} (h:(eZ (l.take (s+1))).isSome=true):bO l (s+1)=s+1:=if_pos h
theorem Cw {l:List Nat} {s:Nat} (h:¬(eZ (l.take (s+1))).isSome=true):bO l (s+1)=bO l s:=if_neg h
theorem sN (l:List Nat):∀s,bO l s≠0→(eZ (l.take (bO l s))).isSome=true
 |0=>@fun h=>absurd rfl h
 |s+1=>@fun h=>by
  rw[bO]at h⊢;split at h
  ·rename_i q;rw[if_pos q];exact q
  ·rename_i q;rw[if_neg q];exact sN l s h
theorem nN (l:List Nat):(S l).cps.toList=l:=by simp[S]
theorem nW {l:List Nat} {lo hi:Option Int} (h:l.length≤1000000):gt (.str (S l)) lo hi none=some (.str (S (oA l lo hi))):=by
 show(if(S l).length≤1000000 then some (D.str (t5 (S l) lo hi))else none)=_;rw[i5,if_pos h];unfold t5;rw[nN];rfl
theorem qk {α:Type} {l:List α} {p s:Nat} (h:p≤l.length):oA l (some (p:Int)) (some ((p:Int)+(s:Int)))=(l.drop p).take s:=by
 unfold oA;rw[t7 h];have:(jv (some ((p:Int)+(s:Int))) (l.length:Int) (l.length:Int)).toNat=min (p+s) l.length:=by
  unfold jv;dsimp only;rw[if_neg (by exact(dA 33776108899906:))];omega
 rw[this,bY];rcases Nat.le_total (p+s) l.length with q|q
 ·rw[kF q,gm]
 ·rw[Pk q,bD (by rw[cp];(exact ba _)),bD (by rw[cp];exact(iq 0x1ca10b47906218062:) q)]
theorem Dy {l:List Nat}:ia .NotIn (.str (S l)) .dic=some (!(eZ l).isSome):=rfl
noncomputable def PV (st:Stmt):Expr:=(jM st).e
noncomputable def E3:List Stmt:=mE (f9 (aG (a7 78)) 1)
noncomputable abbrev Qk:NS:=(aF (a7 78)).names
noncomputable abbrev rL (l:List Nat) (p:Int) (acc:List D):MM:=[(ofString "text",.dat (.str (S l))),(ofString "place",.dat (.int p)),(ofString "numbers",.own acc)]
theorem MQ (X:Cx) (l:List Nat) (hl:l.length≤900) (p:Nat) (hp:p≤l.length) (acc:List D):∀(s w:Nat),s<w→SubW 10 w X Qk ((ofString "size",.dat (.int s))::rL l p acc) (f9 E3 1) ((ofString "size",.dat (.int (bO (l.drop p) s)))::rL l p acc):=by
 intro s;induction s with
 |zero=>
  intro w hw;obtain⟨w,rfl⟩:∃v,w=v+1:=⟨w-1,by exact(fN 0x3987842e18ac203860085c2:) hw⟩;exact .stop (nk (qw (b:=decide (((0:Nat):Int)>0)) (r:=false) rfl .nil) (by kernel_rfl))
 |succ s ih=>
  intro w hw;obtain⟨w,rfl⟩:∃v,w=v+1:=⟨w-1,by exact(dA 0x1cc3c21710761bc2170860085c3:) hw⟩;have hsl:gt (.str (S l)) (some (p:Int)) (some ((p:Int)+((s+1:Nat):Int))) none=some (.str (S ((l.drop p).take (s+1)))):=by rw[nW (by(exact ae hl (by decide))),qk hp]
  have ht:uF 11 X Qk ((ofString "size",.dat (.int ((s+1:Nat):Int)))::rL l p acc) (vE (f9 E3 1)) (!(eZ ((l.drop p).take (s+1))).isSome):=nk (qw (b:=decide (((s+1:Nat):Int)>0)) (r:=true) (decide_eq_true (PN.mpr (lq s))) (qs hsl (qc (Dy (l:=(l.drop p).take (s+1))) .nil))) (by kernel_rfl);cases hk:(eZ ((l.drop p).take (s+1))).isSome with
  |true=>
   rw[hk]at ht;rw[z5 hk];exact .stop ht
  |false=>
   rw[hk]at ht;have:=ih w (oD hw);rw[Cw (by rw[hk];decide)];rw[show(ofString "size",Ent.dat (.int (s:Int)))=(ofString "size",Ent.dat (.int (((s+1:Nat):Int)-1)))from congrArg (fun x=>(ofString "size",Ent.dat (.int x))) (by exact(fN 0x198042e93c2170a42:))]at this;exact .turn ht (fC .nil (by kernel_rfl)) this
theorem sF {a b:Int}:ox (ofString "max") [.int a,.int b]=some (.int (if b>a then b else a)):=by
 unfold ox;rw[if_neg (by decide+kernel),if_neg (by decide+kernel),if_pos rfl];rfl
theorem Ge {l:List Nat} {i:Int} (h:eZ l=some i):ef .dic (.str (S l))=some (.int i):=by
 show(tokTab.lookup (S l)).map D.int=_;rw[show tokTab.lookup (S l)=some i from h];rfl
theorem EZ (X:Cx) (l:List Nat) (hl:l.length≤900) (p:Nat) (hp:p<l.length) (acc:List Int) (ha:acc.length≤p):
 lm 11 X Qk (rL l p (acc.map .int)) E3 (.next,rL l ((p+max (bO (l.drop p) 3) 1:Nat):Int) ((acc++(if bO (l.drop p) 3=0 then[]else[(eZ ((l.drop p).take (bO (l.drop p) 3))).getD 0])).map .int)):=by
 have lo:=(MQ X l hl p (a5 hp) (acc.map .int) 3 1000 (by decide)).loop (by kernel_rfl);have hz:=uN (l.drop p) 3;have hkey:=sN (l.drop p) 3;generalize bO (l.drop p) 3=z at lo hz hkey⊢;have e:((p+max z 1:Nat):Int)=(p:Int)+(if(1:Int)>z then 1 else(z:Int)):=by split<;>lia
 rw[e];by_cases q:z=0
 ·rw[if_pos q,bH]
  exact fC (qx lo (qw (b:=decide ((z:Int)>0)) (r:=false) (by rw[q];rfl) (qf (sF (a:=(z:Int)) (b:=1)) .nil))) (by kernel_rfl)
 ·obtain⟨i,hi⟩:=ew.mp (hkey q)
  rw[if_neg q,hi,bz];have hsl:gt (.str (S l)) (some (p:Int)) (some ((p:Int)+(z:Int))) none=some (.str (S ((l.drop p).take z))):=by rw[nW (by exact(fN 0x729e8480470a9c209c2:) hl),qk (by(exact a5 hp))]
  exact fC (qx lo (qw (b:=decide ((z:Int)>0)) (r:=true) (decide_eq_true (by exact(fN 0x72f2101dec01c2:) q)) (qs hsl (qi (Ge hi) (qp (show(acc.map D.int).length≤1000000 by rw[ag];exact(iq 0x739ca7a12011c4a0c9610e9c209c2:) hl hp ha) (qf (sF (a:=(z:Int)) (b:=1)) .nil)))))) (by kernel_rfl)
theorem I0 (X:Cx) (l:List Nat) (hl:l.length≤900):∀(w p:Nat) (acc:List Int),l.length<w+p→acc.length≤p→∃q:Int,SubW 11 (w+1) X Qk (rL l p (acc.map .int)) (f9 (aG (a7 78)) 1) (rL l q ((acc++dH (l.drop p)).map .int)):=by
 have ht:∀(p:Nat) (acc:List D) (b:Bool),decide ((p:Int)<(l.length:Int))=b→uF 12 X Qk (rL l p acc) (vE (f9 (aG (a7 78)) 1)) b:=fun p acc b e=>by
  subst e;exact nk (qf (len_str (l:=l) (ae hl (by decide))) .nil) (by kernel_rfl)
 intro w;induction w with
 |zero=>
  intro p acc hw ha;refine⟨p,?_⟩;rw[jq (by exact(dA 0x39418acf181c2:) hw),uS,bH];exact .stop (ht p _ false (decide_eq_false (by exact(dA 0x1cf5e4290ecf181c2:) hw)))
 |succ w ih=>
  intro p acc hw ha;by_cases hp:p<l.length
  ·obtain⟨q,a1⟩:=ih (p+max (bO (l.drop p) 3) 1) (acc++(if bO (l.drop p) 3=0 then[]else[(eZ ((l.drop p).take (bO (l.drop p) 3))).getD 0])) (by exact(rY 0x72cf79883159e47842e18880085c5:) hw) (by rw[ai];split<;>simp<;>(first|(exact DR ha)|exact(iq 0x728f28de10b85418880085c4:) ha))
   refine⟨q,.turn (ht p _ true (decide_eq_true (jz.mpr hp))) (EZ X l hl p hp acc ha) ?_⟩;rw[aC]at a1;have hd:l.drop p=l[p]::l.drop (p+1):=mi hp;have e:dH (l.drop p)=(if bO (l.drop p) 3=0 then[]else[(eZ ((l.drop p).take (bO (l.drop p) 3))).getD 0])++dH (l.drop (p+max (bO (l.drop p) 3) 1)):=by
    rw[←po];conv=>lhs;rw[hd,Ag,←hd]
   rw[e];exact a1
  ·refine⟨p,?_⟩
   rw[jq (by(exact c5.mp hp)),uS,bH];exact .stop (ht p _ false (decide_eq_false (by exact(dA 0x73d790e42f5862:) hp)))
theorem EY (X:Cx) (l:List Nat) (hl:l.length≤900) (p:Nat):
 ∃M',c7 (ex 12 X (aF (a7 78)).names) (aG (a7 78)) (bU (ej (a7 78)) [.str (S l),.int p])=some (.ret (iL (dH (l.drop p))),M'):=by
 obtain⟨q,e⟩:=I0 X l hl 999 p [] (by exact(dA 0x72cf1fce270a9c209c2:) hl) (d5 _);exact i9 (qx (e.loop (by kernel_rfl)) .nil) (by kernel_rfl)
noncomputable def Lu:Str:=ofString "_law_read"
theorem read_at:LocalIs Lu 224:=⟨by kernel_rfl,by kernel_rfl⟩
noncomputable def zp (as:List D) (d:D):Prop:=∃(l:List Nat) (p:Nat),l.length≤900∧as=[.str (S l),.int p]∧d=iL (dH (l.drop p))
theorem HS {as d d'} (h:zp as d) (h':zp as d'):d=d':=by
 (refine Uc h fun t ab _ e q0=>?_;subst q0);(refine Uc h' fun t' ab' _ e' q0=>?_;subst q0);rw[e]at e';injection e' with e' e2;injection e' with e';injection e2 with e2 _;injection e2 with e2;rw[rO e',j5.mp e2]
theorem CH {C:aU} {k:Nat}:cg C (k+1) 224 zp:=by
 rintro as d ⟨l,p,h,rfl,rfl⟩;obtain⟨M',e⟩:=EY X0 l h p;exact c9 N0 d8 rfl e
noncomputable def lx:Nat→D→Bool
 |_,.int _=>true
 |_,.str s=>ky s
 |n+1,.list l=>l.all (lx n)
 |n+1,.tup l=>l.all (lx n)
 |_,_=>false
mutual
noncomputable def kz:D→PyData
 |.int i=>.int i
 |.str s=>.str s
 |.list l=>.list (pyDs l)
 |.tup l=>.tuple (pyDs l)
 |_=>.none
noncomputable def pyDs:List D→List PyData
 |[]=>[]
 |d::r=>kz d::pyDs r
end
theorem qW {G:D→Prop} {n:Nat} {d:D} (h:lx n d=true) (k1:∀i,G (.int i)) (k2:∀s,ky s=true→G (.str s)) (k3:∀l m,n=m+1→l.all (lx m)=true→G (.list l)) (k4:∀l m,n=m+1→l.all (lx m)=true→G (.tup l)):G d:=by
 cases d with
 |int i=>exact k1 i
 |str s=>exact k2 s (by cases n<;>exact h)
 |list l=>cases n with
  |zero=>cases h
  |succ n=>exact k3 l n rfl h
 |tup l=>cases n with
  |zero=>cases h
  |succ n=>exact k4 l n rfl h
 |_=>cases n<;>cases h
theorem MU {n:Nat} {s:Str} (h:ky s=true):lx n (.str s)=true:=by cases n<;>exact h
theorem Fj {n:Nat} {i:Int}:lx n (.int i)=true:=by cases n<;>rfl
theorem wV {α β:Type} {f:β→α} {p:α→Bool} {l:List β} (h:∀x∈l,p (f x)=true):(l.map f).all p=true:=by rw[List.all_map];exact bF.mpr h
theorem sj {n:Nat} (ih:∀d,lx n d=true→oV d=some (kz d)∧(kz d).canLay0=true∧(kz d).depth≤n):∀l:List D,l.all (lx n)=true→toPys l=some (pyDs l)∧H5 (pyDs l)=true∧KW (pyDs l)≤n
 |[]=>@fun _=>⟨rfl,rfl,d5 _⟩
 |d::r=>@fun h=>by
  rw[jR,ao]at h;refine Ud (ih d h.1) fun a1 a2 a3=>?_;refine Ud (sj ih r h.2) fun b1 b2 b3=>?_;refine⟨?_,?_,?_⟩
  ·show(oV d).bind _=_
   rw[a1];show(toPys r).bind _=_;rw[b1];rfl
  ·show((kz d).canLay0&&H5 (pyDs r))=true
   rw[a2,b2];rfl
  ·exact(iq 0x7394196832506220082:) a3 b3
theorem Bo {n:Nat} (ih:∀n',n=n'+1→∀d,lx n' d=true→oV d=some (kz d)∧(kz d).canLay0=true∧(kz d).depth≤n') {d:D} (h:lx n d=true):oV d=some (kz d)∧(kz d).canLay0=true∧(kz d).depth≤n:=by
 refine qW (G:=fun d=>oV d=some (kz d)∧(kz d).canLay0=true∧(kz d).depth≤n) h (fun i=>⟨rfl,rfl,d5 _⟩) (fun s e=>⟨rfl,e,d5 _⟩) (fun l m e q=>?_) fun l m e q=>?_
 ·refine Ud (sj (ih m e) l q) fun a1 a2 a3=>?_
  exact⟨congrArg (mV PyData.list) a1,a2,e▸uH a3⟩
 ·refine Ud (sj (ih m e) l q) fun a1 a2 a3=>?_
  exact⟨congrArg (mV PyData.tuple) a1,a2,e▸uH a3⟩
theorem x4 (n:Nat) (d:D) (h:lx n d=true):oV d=some (kz d)∧(kz d).canLay0=true∧(kz d).depth≤n:=by
 induction n generalizing d with
 |zero=>exact Bo (fun _ e=>(uG _ e.symm).elim) h
 |succ n ih=>exact Bo (fun n' e=>by cases e;exact ih) h
theorem t4 {n m:Nat} (ih:∀a b,lx n a=true→lx m b=true→(de (kz a) (kz b)=true↔a=b)):∀l r:List D,l.all (lx n)=true→r.all (lx m)=true→(Pg (pyDs l) (pyDs r)=true↔l=r)
 |[],[]=>@fun _ _=>⟨fun _=>rfl,fun _=>rfl⟩
 |[],_::_=>@fun _ _=>⟨nofun,nofun⟩
 |_::_,[]=>@fun _ _=>⟨nofun,nofun⟩
 |a::l,b::r=>@fun h h'=>by
  rw[jR,ao]at h h';have e1:=ih a b h.1 h'.1;have e2:=t4 ih l r h.2 h'.2;show(de (kz a) (kz b)&&Pg (pyDs l) (pyDs r))=true↔_;rw[ao,e1,e2,D3]
theorem jD {p q:Prop} (h1:p→False) (h2:q→False):p↔q:=⟨fun x=>(h1 x).elim,fun x=>(h2 x).elim⟩
theorem yN {n m:Nat} (ih:∀n' m',n=n'+1→∀a b,lx n' a=true→lx m' b=true→(de (kz a) (kz b)=true↔a=b)) {a b:D} (ha:lx n a=true) (hb:lx m b=true):de (kz a) (kz b)=true↔a=b:=by
 refine qW (G:=fun a=>de (kz a) (kz b)=true↔a=b) ha (fun i=>?_) (fun s _=>?_) (fun l n' e q=>?_) fun l n' e q=>?_
 ·refine qW (G:=fun b=>de (kz (.int i)) (kz b)=true↔D.int i=b) hb (fun j=>?_) (fun _ _=>jD nofun nofun) (fun _ _ _ _=>jD nofun nofun) fun _ _ _ _=>jD nofun nofun
  exact⟨fun h=>congrArg D.int (bt h),fun h=>beq_iff_eq.mpr (D.int.inj h)⟩
 ·refine qW (G:=fun b=>de (kz (.str s)) (kz b)=true↔D.str s=b) hb (fun _=>jD nofun nofun) (fun j _=>?_) (fun _ _ _ _=>jD nofun nofun) fun _ _ _ _=>jD nofun nofun
  exact⟨fun h=>congrArg D.str (bt h),fun h=>beq_iff_eq.mpr (D.str.inj h)⟩
 ·refine qW (G:=fun b=>de (kz (.list l)) (kz b)=true↔D.list l=b) hb (fun _=>jD nofun nofun) (fun _ _=>jD nofun nofun) (fun r m' _ q'=>?_) fun _ _ _ _=>jD nofun nofun
  exact(t4 (ih n' m' e) l r q q').trans ⟨fun h=>congrArg D.list h,D.list.inj⟩
 ·refine qW (G:=fun b=>de (kz (.tup l)) (kz b)=true↔D.tup l=b) hb (fun _=>jD nofun nofun) (fun _ _=>jD nofun nofun) (fun _ _ _ _=>jD nofun nofun) fun r m' _ q'=>?_
  exact(t4 (ih n' m' e) l r q q').trans ⟨fun h=>congrArg D.tup h,D.tup.inj⟩
theorem G3 (n m:Nat) (a b:D) (ha:lx n a=true) (hb:lx m b=true):de (kz a) (kz b)=true↔a=b:=by
 induction n generalizing m a b with
 |zero=>exact yN (fun _ _ e=>(uG _ e.symm).elim) ha hb
 |succ n ih=>exact yN (fun n' m' e=>by cases e;exact ih m') ha hb
theorem nZ {d:D} (h:lx 60 d=true):eT (kz d)=true:=by
 refine Ud (x4 60 d h) fun _ a b=>?_;unfold eT;rw[a,decide_eq_true (by(exact ae b (by decide)))];rfl
open Classical in
theorem G4 {a b:D} (ha:lx 60 a=true) (hb:lx 60 b=true):Dt a b=some (decide (a=b)):=by
 unfold Dt;rw[(x4 60 a ha).1,(x4 60 b hb).1];rw[bp,bp];rw[if_pos ⟨nZ ha,nZ hb⟩];congr 1;have:=G3 60 60 a b ha hb;cases h:de (kz a) (kz b)with
 |true=>exact(decide_eq_true (this.mp h)).symm
 |false=>exact(decide_eq_false fun q=>by rw[this.mpr q]at h;cases h).symm
open Classical in
theorem ND {d:D} {l:List D} (hd:lx 60 d=true) (hl:lx 60 (.list l)=true):NE d l=some (decide (d∈l)):=by
 unfold NE;have hl':l.all (lx 59)=true:=by exact hl
 refine Ud (sj (x4 59) l hl') fun e1 e2 _=>?_;rw[(x4 60 d hd).1,e1];rw[bp,bp];have hs:eT (PyData.list (pyDs l))=true:=by have:=nZ hl;exact this
 rw[if_pos ⟨nZ hd,hs⟩];congr 1;have key:∀l:List D,l.all (lx 59)=true→(((pyDs l).any fun y=>de y (kz d))=true↔d∈l):=by
  intro l;induction l with
  |nil=>exact fun _=>⟨nofun,nofun⟩
  |cons a r ih=>
   intro h;rw[jR,ao]at h;show(de (kz a) (kz d)||(pyDs r).any fun y=>de y (kz d))=true↔_;rw[vJ,ih h.2,G3 59 60 a d h.1 hd,aD,eq_comm]
 have:=key l hl';cases h:(pyDs l).any fun y=>de y (kz d)with
 |true=>exact(decide_eq_true (this.mp h)).symm
 |false=>exact(decide_eq_false fun q=>by rw[this.mpr q]at h;cases h).symm
theorem x5 {n:Nat} (l:List Int):lx (n+1) (iL l)=true:=wV (f:=D.int) fun _ _=>Fj
theorem MV {n:Nat} (l:List (List Int)):lx (n+2) (jV l)=true:=wV (f:=iL) fun _ _=>x5 _
theorem sb {n:Nat} {l:List (List Nat)} (h:∀x∈l,ky (S x)=true):lx (n+1) (.list (cm l))=true:=wV (f:=fun x=>D.str (S x)) fun x hx=>MU (h x hx)
theorem sa {l:List Nat} (h:∀c∈l,c<0x110000):ky (S l)=true:=by
 unfold ky S;simpa using h
structure WS where
 raw:List Nat
 n:Int
 nt:Int
 cs:List Int
 b:Int
noncomputable def gU (w:WS):D:=.obj [.str (S w.raw),.int w.n,.int w.nt,.tup [.tup (w.cs.map .int),.int w.b],.bool (decide ((w.cs.length:Int)≤1))]
structure WS.ok (w:WS):Prop where
 len:w.cs.length≤10
 cs:∀c∈w.cs,0≤c∧c≤1000
 b:0≤w.b∧w.b≤1000
 nt:0≤w.nt∧w.nt≤1000
noncomputable def WS.longest (w:WS):Int:=if w.b>(w.cs.length:Int)-1 then w.b else(w.cs.length:Int)-1
noncomputable def aE (a b:Int):List Int:=(co (b-a).toNat).map fun(k:Nat)=>a+(k:Int)
noncomputable def zK (ts:Int) (cs l:List Int) (il:Int):Int:=l.foldl (fun il i=>il+i.fdiv ts*cs.getD i.toNat 0) il
noncomputable def WS.lvl (w:WS) (ts:Int):Int:=w.b+ts*(zK ts w.cs (aE ts w.cs.length) 0+w.nt)
noncomputable def WS.less (w v:WS):Bool:=if w.n≥v.n then false else if w.cs.length≤1∧v.cs.length≤1 then decide (w.nt≤v.nt)else
 (aE 2 ((if v.longest>w.longest then v.longest else w.longest)+1+1)).all fun ts=>decide (w.lvl ts<v.lvl ts)
theorem JG {l:List D} (h:l.length≤1000000):ox (ofString "len") [.tup l]=some (.int l.length):=by
 unfold ox;rw[if_pos rfl];show(if l.length≤1000000 then some (D.int l.length)else none)=_;rw[if_pos h]
theorem C7 {l:List D} {k:Nat} {d:D} (h:l[k]?=some d) (hk:k<1000000):ef (.tup l) (.int (k:Int))=some d:=by
 rw[C8];rw[if_pos ⟨by(exact aY _),by exact(fN 0x397f424023a42b7a12011c2:) hk⟩];simpa using h
theorem nY {a b:Int} (h:-1000≤a∧a≤1000∧-1000≤b∧b≤1000):iV [.int a,.int b]=some ((aE a b).map .int):=by
 show(if-1000000≤a∧a≤1000000∧-1000000≤b∧b≤1000000∧b-a≤1000000 then _ else none)=_;rw[if_pos (by exact(ly 0x39ad6b55f424023a084d7d09008e4d533f424023abe84804722a89fa12011dad6abf409c9aa67f409d5fa04e45513fa04e:) h)];unfold aE;rw[be];rfl
theorem mem_irange {a b i:Int}:i∈aE a b↔a≤i∧i<b:=by
 unfold aE;rw[bc];constructor
 ·rintro⟨k,hk,rfl⟩
  have:=gX.mp hk;exact(Io 0xe6ae97c848abe42422c31040074109:) this
 ·intro h
  exact⟨(i-a).toNat,gX.mpr (by exact(ud 0x1cb0c5aba9354a02003a085040074109:) h),by exact(ud 0x1cca5f212357526a94040074109:) h⟩
noncomputable abbrev ns (i:Nat):NS:=(aF (gI i)).names
theorem FS {w:WS} (hw:w.ok):ox (ofString "len") [.tup (w.cs.map .int)]=some (.int w.cs.length):=by
 have hl:=JG (l:=w.cs.map D.int) (by rw[ag];exact ae hw.len (by decide));rwa[ag]at hl
theorem FP (X:Cx) (w:WS) (hw:w.ok):∃M',c7 (ex 12 X (aF (gI 2)).names) (aG (gI 2)) (bU (ej (gI 2)) [gU w])=some (.ret (.int w.longest),M'):=
 i9 (qf (FS hw) (qf (sF (a:=(w.cs.length:Int)-1) (b:=w.b)) .nil)) (by kernel_rfl)
noncomputable abbrev lL (w:WS) (ts il:Int):MM:=[(ofString "count",.dat (.tup (w.cs.map .int))),(ofString "trailing",.dat (.int w.b)),(ofString "self",.dat (gU w)),(ofString "tabsize",.dat (.int ts)),(ofString "il",.dat (.int il))]
theorem JE (X:Cx) (w:WS) (hw:w.ok) (ts:Int) (hts:1≤ts∧ts≤100) (i:Int) (hi:0≤i∧i<w.cs.length) (il:Int):
 lm 11 X (ns 3) ((fX (f9 (aG (gI 3)) 2),.dat (.int i))::lL w ts il) (uu (f9 (aG (gI 3)) 2)) (.next,lL w ts (il+i.fdiv ts*w.cs.getD i.toNat 0)):=by
 have hcl:=hw.len;have hlt:i.toNat<w.cs.length:=by exact(zh 0x39610f5790915401c1001c8:) hi
 have hit:ef (.tup (w.cs.map .int)) (.int i)=some (.int (w.cs.getD i.toNat 0)):=by
  have:i=(i.toNat:Int):=by(exact(bG hi.1).symm)
  conv=>lhs;rw[this]
  refine C7 ?_ (by exact(zh 0x1ce5bd09008e1d14170b5790915401c1001c8:) hi hcl);rw[aJ,aj hlt,ac,aj hlt];rfl
 have hc:0≤w.cs.getD i.toNat 0∧w.cs.getD i.toNat 0≤1000:=by
  rw[ac,aj hlt];exact hw.cs _ (cH hlt)
 have hd:0≤i.fdiv ts∧i.fdiv ts≤10:=by
  rw[hV (by(exact hts.1))];have:=jS ts hi.1;have:=ek hi.1 (aO hts.1);lia
 exact fC (n:=11) (qb (qv (a:=i) ⟨db hts.1,cL ⟨aB (by decide) hts.1,aB hts.2 (by decide)⟩⟩) (qi hit (qb (dz ⟨cL ⟨aB (by decide) hd.1,aB hd.2 (by decide)⟩,cL ⟨aB (by decide) hc.1,aB hc.2 (by decide)⟩⟩) .nil))) (by kernel_rfl)
theorem Gn {ts:Int} {w:WS} (hw:w.ok) (hts:1≤ts):∀(l:List Int) (il:Int),(∀i∈l,0≤i∧i<w.cs.length)→0≤il→0≤zK ts w.cs l il∧zK ts w.cs l il≤il+10000*l.length
 |[]=>@fun il _ h=>⟨h,by simp[zK]⟩
 |i::l=>@fun il hl h=>by
  have hi:=hl i (au ..);have hcl:=hw.len;have hlt:i.toNat<w.cs.length:=by exact(zh 0x39610f5790915401c1001c8:) hi
  have hc:0≤w.cs.getD i.toNat 0∧w.cs.getD i.toNat 0≤1000:=by
   rw[ac,aj hlt];exact hw.cs _ (cH hlt)
  have hd:0≤i.fdiv ts∧i.fdiv ts≤10:=by
   rw[hV (by(assumption))];have:=jS ts (by exact(zh 0x395401dabc848aa00e:) hi:0≤i);have:=ek (by(exact hi.1):0≤i) (by(exact aO hts):0≤ts);lia
  have hm:0≤i.fdiv ts*w.cs.getD i.toNat 0:=cb hd.1 hc.1;have hm2:i.fdiv ts*w.cs.getD i.toNat 0≤10*1000:=Sm hd.2 hc.2 hc.1 (by(exact aY _));have:=Gn hw hts l (il+i.fdiv ts*w.cs.getD i.toNat 0) (fun x q=>hl x (af _ q)) (by(exact dk h hm));rw[ay];show 0≤zK ts w.cs l (il+i.fdiv ts*w.cs.getD i.toNat 0)∧zK ts w.cs l (il+i.fdiv ts*w.cs.getD i.toNat 0)≤_;exact(UT 0xe73557c64f085c24e20372935481daabe32127101b9e8526a903ab1fa04e505c8:) hm2 this
theorem ci {a b:Int}:(aE a b).length=(b-a).toNat:=by unfold aE;simp
theorem JD (X:Cx) (w:WS) (hw:w.ok) (ts:Int) (hts:1≤ts∧ts≤100):∃M',c7 (ex 12 X (aF (gI 3)).names) (aG (gI 3)) (bU (ej (gI 3)) [gU w,.int ts])=some (.ret (.int (w.lvl ts)),M'):=by
 have hcl:=hw.len;have hnt:=hw.nt;have hin:∀i∈aE ts w.cs.length,0≤i∧i<w.cs.length:=fun i q=>by have:=mem_irange.mp q;exact(Io 0x739abc849aa40ed5e424d528d5464139154042e:) hts this
 have hbd:=Gn hw hts.1 (aE ts w.cs.length) 0 hin (dj _);rw[ci]at hbd;have loop:jx 12 X (ns 3) (lL w ts 0) (f9 (aG (gI 3)) 2) (.next,lL w ts (zK ts w.cs (aE ts w.cs.length) 0)):=kM (n:=11) (l:=aE ts w.cs.length) (g:=D.int) (fun k=>lL w ts (zK ts w.cs ((aE ts w.cs.length).take k) 0)) (by kernel_rfl) rfl (by rw[bD (ba _)])
  (fQ (qf (FS hw) (qa (nY (by exact(zh 0x39cd6b55fa04e90ab214fe813abf409c8aa27f409d4505c2d5464139154042e:) hts hcl)) .nil)) (by kernel_rfl)) fun k i e=>by
   have:=JE X w hw ts hts i (hin i (ax e)) (zK ts w.cs ((aE ts w.cs.length).take k) 0);rw[eK,e];unfold zK at this⊢;rw[K2];exact this
 exact i9 (qx loop (qb (dz ⟨cL (by exact(iG 0x7355e8d4a510004391544fa3529440010ed5464139154042e:) hts),cL (a:=zK ts w.cs (aE ts w.cs.length) 0+w.nt) (by exact(UT 0xe739cd57a3529440010e7a5557a553e8d4a5100043b557c6434e203701caaa80ed57e813935481d4505c2d5464139154042e0800e82242:) hts hcl hnt hbd)⟩) .nil)) (by kernel_rfl)
theorem mj {w v:WS} (h:gU w=gU v):w=v:=by
 obtain⟨r,n,t,c,b⟩:=w;obtain⟨r',n',t',c',b'⟩:=v;unfold gU at h;injection h with h;injection h with h1 h;injection h with h2 h;injection h with h3 h;injection h with h4 h;injection h1 with h1;injection h2 with h2;injection h3 with h3;injection h4 with h4;injection h4 with h4 h5;injection h4 with h4;injection h5 with h5;injection h5 with h5;simp only at h1 h2 h3 h4 h5;rw[rO h1,h2,h3,mv h4,h5]
noncomputable def FG:Str:=ofString "longest_run_of_spaces"
noncomputable def Ju:Str:=ofString "indent_level"
noncomputable def Ux:Str:=ofString "equal"
noncomputable def Bv:Str:=ofString "less"
noncomputable def B9 (p:D×List D) (d:D):Prop:=∃w:WS,w.ok∧p=(gU w,[])∧d=.int w.longest
noncomputable def DL (p:D×List D) (d:D):Prop:=∃(w:WS) (ts:Int),w.ok∧(1≤ts∧ts≤100)∧p=(gU w,[.int ts])∧d=.int (w.lvl ts)
theorem HW {p d d'} (h:B9 p d) (h':B9 p d'):d=d':=by
 (refine Ul h fun w _ e q0=>?_;subst q0);(refine Ul h' fun v _ e' q0=>?_;subst q0);rw[e]at e';rw[mj (iQ e').1]
theorem B8 {p d d'} (h:DL p d) (h':DL p d'):d=d':=by
 (refine Ue h fun w t _ _ e q0=>?_;subst q0);(refine Ue h' fun v t' _ _ e' q0=>?_;subst q0);rw[e]at e';have:=iQ e';have h2:=this.2;injection h2 with h2 _;injection h2 with h2;rw[mj this.1,h2]
structure MethIs (x:Str) (a:Addr):Prop where
 find:fiTab.lookup x=some (some (some (.ref a)))
 fn:∀{P:Params} {K:Frag},KF P K→isFn K (.ref a)=true
 keep:(g7::fnTab.map (·.1)).contains a=true
 name:x∉fieldNames∧(bC==x)=false
 plain:(bC::(fnTab.drop 22).map fun p=>nw p.2).contains x=true
theorem Bu {x:Str} (h:(!fieldNames.contains x&&!(bC==x))=true):x∉fieldNames∧(bC==x)=false:=by
 rw[ao]at h;refine⟨fun q=>?_,by simpa using h.2⟩;have:=h.1;simp[q]at this
theorem long_at:MethIs FG 115:=⟨by kernel_rfl,fun h=>h.bit 13 rfl,by kernel_rfl,Bu (by kernel_rfl),by kernel_rfl⟩
theorem lvl_at:MethIs Ju 122:=⟨by kernel_rfl,fun h=>h.bit 14 rfl,by kernel_rfl,Bu (by kernel_rfl),by kernel_rfl⟩
theorem eq_at:MethIs Ux 129:=⟨by kernel_rfl,fun h=>h.bit 15 rfl,by kernel_rfl,Bu (by kernel_rfl),by kernel_rfl⟩
theorem less_at:MethIs Bv 143:=⟨by kernel_rfl,fun h=>h.bit 16 rfl,by kernel_rfl,Bu (by kernel_rfl),by kernel_rfl⟩
noncomputable abbrev rx (C:aU) (k:Nat) (f:Str) (R:D×List D→D→Prop):Prop:=∃fn,findIn (Kf C) (.ref g7) f=some (some (.ref fn))∧isFn (Kf C) (.ref fn)=true∧keepIn (Kf C) (.ref fn)=true∧(f∉fieldNames∧(bC==f)=false)∧plainGet (Kf C) g7 f=true∧∀l as d,R (.obj l,as) d→CallOK C k (.ref fn) (.obj l::as) d
noncomputable def qC (C:aU) (k:Nat) (a:Addr) (R:D×List D→D→Prop):Prop:=∀l as d,R (.obj l,as) d→CallOK C k (.ref a) (.obj l::as) d
theorem MethIs.at {C:aU} {k:Nat} {x:Str} {a:Addr} {R:D×List D→D→Prop} (l:MethIs x a) (h:qC C k a R):rx C k x R:=⟨_,C.F.fi l.find,l.fn C.F,C.F.kp l.keep,l.name,C.F.pl l.plain,h⟩
theorem Az {C:aU} {k:Nat}:∀f R,eB f ([]:List (Str×(D×List D→D→Prop)))=some R→rx C k f R:=fun f R q=>by cases q
theorem oe {C:aU} {k:Nat} {x:Str} {R:D×List D→D→Prop} {l:List (Str×(D×List D→D→Prop))} (h1:rx C k x R) (h2:∀f R,l.lookup f=some R→rx C k f R):∀f R',((x,R)::l).lookup f=some R'→rx C k f R':=
 fun f R' q=>yn (P:=rx C k) h1 h2 q
theorem C2 {C:aU} {k:Nat}:qC C (k+1) 115 B9:=by
 rintro l as d ⟨w,hw,e,rfl⟩;obtain⟨e1,rfl⟩:=iQ e;obtain⟨M',r⟩:=FP X0 w hw;rw[e1];exact c9 Od d8 rfl r
theorem yl {C:aU} {k:Nat}:qC C (k+1) 122 DL:=by
 rintro l as d ⟨w,ts,hw,ht,e,rfl⟩;obtain⟨e1,rfl⟩:=iQ e;obtain⟨M',r⟩:=JD X0 w hw ts ht;rw[e1];exact c9 Oc d8 rfl r
noncomputable def WS.norm (w:WS):List Int×Int:=(w.cs,w.b)
noncomputable def Sf (p:D×List D) (d:D):Prop:=∃(w v:WS),p=(gU w,[gU v])∧d=.bool (decide (w.cs=v.cs∧w.b=v.b))
theorem Pe {p d d'} (h:Sf p d) (h':Sf p d'):d=d':=by
 (refine Uf h fun w t e q0=>?_;subst q0);(refine Uf h' fun v t' e' q0=>?_;subst q0);rw[e]at e';have:=iQ e';have h2:=this.2;injection h2 with h2 _;rw[mj this.1,mj h2]
theorem Bp (w:WS):lx 60 (.tup [.tup (w.cs.map .int),.int w.b])=true:=by
 show(lx 59 (.tup (w.cs.map .int))&&true)=true;rw[show lx 59 (.tup (w.cs.map .int))=true from wV (f:=D.int) fun _ _=>Fj];rfl
theorem Op (X:Cx) (w v:WS):∃M',c7 (ex 12 X (aF (gI 4)).names) (aG (gI 4)) (bU (ej (gI 4)) [gU w,gU v])=some (.ret (.bool (decide (w.cs=v.cs∧w.b=v.b))),M'):=by
 have e:ia .Eq (.tup [.tup (w.cs.map .int),.int w.b]) (.tup [.tup (v.cs.map .int),.int v.b])=some (decide (w.cs=v.cs∧w.b=v.b)):=by
  show Dt _ _=_;rw[G4 (Bp w) (Bp v)];refine congrArg some (decide_eq_decide.mpr ⟨fun h=>?_,?_⟩)
  ·injection h with h
   injection h with h1 h;injection h with h2 h;injection h1 with h1;injection h2 with h2;exact⟨mv h1,h2⟩
  ·rintro⟨h1,h2⟩
   rw[h1,h2]
 exact i9 (qc e .nil) (by kernel_rfl)
theorem Ki {C:aU} {k:Nat}:qC C (k+1) 129 Sf:=by
 rintro l as d ⟨w,v,e,rfl⟩;obtain⟨e1,rfl⟩:=iQ e;obtain⟨M',r⟩:=Op X0 w v;rw[e1];exact c9 Ob d8 rfl r
noncomputable def Xl:Cx:=Cx.of [] [(FG,B9),(Ju,DL)]
theorem R7 {C:aU} {k:Nat}:CxOK C Xl (k+1):=.of (fun f R q=>by cases q) (oe (long_at.at C2) (oe (lvl_at.at yl) Az))
theorem fz {w:WS} (h:w.ok):Xl.meth (ofString "longest_run_of_spaces") (gU w) []=some (.int w.longest):=tb (x:=FG) (fun _ _=>HW) ⟨w,h,rfl,rfl⟩
theorem wW {w:WS} (h:w.ok) {ts:Int} (ht:1≤ts∧ts≤100):Xl.meth (ofString "indent_level") (gU w) [.int ts]=some (.int (w.lvl ts)):=by
 unfold Xl;rw[C0 (by decide+kernel)];exact tb (x:=Ju) (fun _ _=>B8) ⟨w,ts,h,ht,rfl,rfl⟩
theorem tg {w:WS} (h:w.ok):-1≤w.longest∧w.longest≤1000:=by
 have:=h.len;have:=h.b;unfold WS.longest;split<;>(first|(exact⟨aO this.1,this.2⟩)|lia)
noncomputable def vB (p:D×List D) (d:D):Prop:=∃(w v:WS),w.ok∧v.ok∧w.longest≤90∧v.longest≤90∧p=(gU w,[gU v])∧d=.bool (w.less v)
theorem zu {p d d'} (h:vB p d) (h':vB p d'):d=d':=by
 (refine Ur h fun w t _ _ _ _ e q0=>?_;subst q0);(refine Ur h' fun v t' _ _ _ _ e' q0=>?_;subst q0);rw[e]at e';have:=iQ e';have h2:=this.2;injection h2 with h2 _;rw[mj this.1,mj h2]
theorem FR (w v:WS) (hw:w.ok) (hv:v.ok) (hlw:w.longest≤90) (hlv:v.longest≤90):∃M',c7 (ex 12 Xl (aF (gI 6)).names) (aG (gI 6)) (bU (ej (gI 6)) [gU w,gU v])=some (.ret (.bool (w.less v)),M'):=by
 unfold WS.less;by_cases h1:w.n≥v.n
 ·rw[if_pos h1]
  exact i9 (qw (decide_eq_true h1) .nil) (by kernel_rfl)
 rw[if_neg h1];have w1:=fun(l:List Rq) (t:AllR Xl (ns 6) l)=>qw (decide_eq_false h1) t;by_cases h2:w.cs.length≤1∧v.cs.length≤1
 ·rw[if_pos h2]
  exact i9 (w1 _ (qw (b:=decide ((w.cs.length:Int)≤1)) (r:=true) (decide_eq_true (bQ.mpr h2.1)) (qw (b:=decide ((v.cs.length:Int)≤1)) (r:=true) (decide_eq_true (bQ.mpr h2.2)) .nil))) (by kernel_rfl)
 rw[if_neg h2];have b1:=tg hw;have b2:=tg hv;have bm:=sF (a:=w.longest) (b:=v.longest);generalize hm:(if v.longest>w.longest then v.longest else w.longest)=m at bm⊢;have hmb:-1≤m∧m≤90:=by rw[←hm];split<;>(first|(exact⟨b2.1,hlv⟩)|(exact⟨b1.1,hlw⟩))
 have hin:∀i∈aE 2 (m+1+1),1≤i∧i≤100:=fun i q=>by have:=mem_irange.mp q;exact(ly 0xe73551904e4d5210bb577842e7842e426a9105daa8b42722a89842e:) hmb this
 have st:=GQ (n:=11) (X:=Xl) (sc:=ns 6) (st:=f9 (aG (gI 6)) 3) (L:=[(ofString "n",.dat (.int (m+1))),(ofString "self",.dat (gU w)),(ofString "other",.dat (gU v))]) (l:=aE 2 (m+1+1)) (g:=D.int) (fun ts=>decide (w.lvl ts<v.lvl ts)) (.bool false) (by kernel_rfl)
  (fQ (qa (nY (by exact(iG 0x735ad57e8139e10b9e10b9157842e7842e44fe813abf409c20baa20ba7f409daa8b42722a89842e:) hmb)) .nil) (by kernel_rfl))
  (fun i hi q=>fC (n:=11) (qm (wW hw (hin i hi)) (qm (wW hv (hin i hi)) (qw (b:=decide (w.lvl i≥v.lvl i)) (r:=false) (decide_eq_false (ma.mpr (of_decide_eq_true q))) .nil))) (by kernel_rfl))
  (fun i hi q=>fC (n:=11) (qm (wW hw (hin i hi)) (qm (wW hv (hin i hi)) (qw (b:=decide (w.lvl i≥v.lvl i)) (r:=true) (decide_eq_true (gC.mp (of_decide_eq_false q))) .nil))) (by kernel_rfl));by_cases h3:w.cs.length≤1
 ·have h4:¬(v.cs.length:Int)≤1:=fun q=>h2 ⟨h3,bQ.mp q⟩
  cases hall:(aE 2 (m+1+1)).all fun ts=>decide (w.lvl ts<v.lvl ts)with
  |true=>rw[hall]at st;exact i9 (w1 _ (qw (b:=decide ((w.cs.length:Int)≤1)) (r:=true) (decide_eq_true (bQ.mpr h3)) (qw (b:=decide ((v.cs.length:Int)≤1)) (r:=false) (decide_eq_false h4) (qm (fz hw) (qm (fz hv) (qf bm (qm (fz hw) (qm (fz hv) (qf bm (qx st .nil)))))))))) (by kernel_rfl)
  |false=>rw[hall]at st;exact i9 (w1 _ (qw (b:=decide ((w.cs.length:Int)≤1)) (r:=true) (decide_eq_true (bQ.mpr h3)) (qw (b:=decide ((v.cs.length:Int)≤1)) (r:=false) (decide_eq_false h4) (qm (fz hw) (qm (fz hv) (qf bm (qm (fz hw) (qm (fz hv) (qf bm (qx st .nil)))))))))) (by kernel_rfl)
 ·have h4:¬(w.cs.length:Int)≤1:=fun q=>h3 (bQ.mp q)
  cases hall:(aE 2 (m+1+1)).all fun ts=>decide (w.lvl ts<v.lvl ts)with
  |true=>rw[hall]at st;exact i9 (w1 _ (qw (b:=decide ((w.cs.length:Int)≤1)) (r:=false) (decide_eq_false h4) (qF (qm (fz hw) (qm (fz hv) (qf bm (qm (fz hw) (qm (fz hv) (qf bm (qx st .nil)))))))))) (by kernel_rfl)
  |false=>rw[hall]at st;exact i9 (w1 _ (qw (b:=decide ((w.cs.length:Int)≤1)) (r:=false) (decide_eq_false h4) (qF (qm (fz hw) (qm (fz hv) (qf bm (qm (fz hw) (qm (fz hv) (qf bm (qx st .nil)))))))))) (by kernel_rfl)
theorem vd {C:aU} {k:Nat}:qC C (k+2) 143 vB:=by
 rintro l as d ⟨w,v,hw,hv,a,b,e,rfl⟩;obtain⟨e1,rfl⟩:=iQ e;obtain⟨M',r⟩:=FR w v hw hv a b;rw[e1];exact c9 Oa R7 rfl r
noncomputable def gz (ws:List WS) (i:Nat):WS:=ws.getD i ⟨[],0,0,[],0⟩
noncomputable def kg (ws:List WS) (r:Nat):Nat→Int
 |0=>-1
 |k+1=>if(gz ws k).less (gz ws r)=true then k else kg ws r k
noncomputable def jl (ws:List WS) (r:Nat):Nat→Int
 |0=>9
 |k+1=>if(gz ws (8-k)).less (gz ws r)=true then((8-k:Nat):Int)else jl ws r k
noncomputable def rE (wt:List Int) (a b:Int):Int:=(((aE 0 5).filter fun p=>decide (a<2*p∧2*p<b)).map fun p=>wt.getD p.toNat 0).sum
noncomputable def iW (ws:List WS) (wt:List Int) (r:Nat):Int:=rE wt (kg ws r r) r*rE wt r (jl ws r (8-r))
theorem p6 {α:Type} {f:D→Option (List D)} {g h:α→D} {P:α→Bool}:∀{l:List α},(∀a∈l,f (g a)=some (if P a=true then[h a]else[]))→fw f (l.map g)=some ((l.filter P).map h)
 |[]=>@fun _=>rfl
 |a::l=>@fun H=>by
  rw[bg,kO,H a (au ..),p6 fun b q=>H b (af _ q),mZ];cases P a<;>rfl
theorem o7 {l:List Int}:ox (ofString "sum") [.list (l.map .int)]=some (.int l.sum):=by
 unfold ox;rw[if_neg (by decide+kernel),if_pos rfl];show(gu (l.map D.int)).map _=_;rw[o0];rfl
theorem jN:iV [.int 5]=some ((aE 0 5).map .int):=by kernel_rfl
theorem NR {fE:MM→Expr→Option D} {fT:MM→Expr→Option Bool} {M:MM} {x:Str} {elt t:Expr} {d:D} {b:Bool} (h:fT (M.set x (.dat d)) t=some b):g1 fE fT M x elt [t] d=if b=true then(fE (M.set x (.dat d)) elt).bind fun v=>some [v]else some []:=by
 unfold g1;have:nK (fT (M.set x (.dat d))) [t]=some b:=by
  show(match fT (M.set x (.dat d)) t with|some true=>some true|some false=>some false|none=>none)=_;rw[h];cases b<;>rfl
 rw[this];cases b
 ·rfl
 ·show(fE (M.set x (.dat d)) elt).map (fun v=>[v])=_
  rw[if_pos rfl];cases fE (M.set x (.dat d)) elt<;>rfl
noncomputable def Xp:Cx:=Cx.of [] [(Bv,vB)]
theorem R6 {C:aU} {k:Nat}:CxOK C Xp (k+2):=.of (fun f R q=>by cases q) (oe (less_at.at vd) Az)
structure LeadsOK (ws:List WS):Prop where
 len:ws.length=9
 ok:∀w∈ws,w.ok∧w.longest≤90
theorem LeadsOK.at {ws:List WS} (h:LeadsOK ws) {i:Nat} (hi:i<9):ws[i]?=some (gz ws i)∧(gz ws i).ok∧(gz ws i).longest≤90:=by
 have hl:=h.len;have e:ws[i]?=some (gz ws i):=by
  unfold gz;rw[ac,aj (by(rw[hl];exact hi))];rfl
 exact⟨e,h.ok _ (ax e)⟩
theorem LeadsOK.item {ws:List WS} (h:LeadsOK ws) {i:Nat} (hi:i<9):ef (.list (ws.map gU)) (.int (i:Int))=some (gU (gz ws i)):=cY (by rw[aJ,(h.at hi).1];rfl) (by(exact aP hi (by decide)))
theorem LeadsOK.less {ws:List WS} (h:LeadsOK ws) {i j:Nat} (hi:i<9) (hj:j<9):Xp.meth (ofString "less") (gU (gz ws i)) [gU (gz ws j)]=some (.bool ((gz ws i).less (gz ws j))):=
 tb (x:=Bv) (fun _ _=>zu) ⟨_,_,(h.at hi).2.1,(h.at hj).2.1,(h.at hi).2.2,(h.at hj).2.2,rfl,rfl⟩
noncomputable abbrev pS:NS:=(aF (a7 80)).names
noncomputable def uU:List Stmt:=mE (f9 (aG (a7 80)) 1)
noncomputable abbrev pL (ws:List WS) (wt:List Int) (acc:List D) (r:Nat):MM:=[(ofString "leads",.dat (.list (ws.map gU))),(ofString "weights",.dat (iL wt)),(ofString "products",.own acc),(ofString "row",.dat (.int r))]
theorem QF (ws:List WS) (h:LeadsOK ws) (wt:List Int) (acc:List D) (r:Nat) (hr:r<9):∀(k w:Nat),k≤r→k<w→SubW 10 w Xp pS ((ofString "low",.dat (.int ((k:Int)-1)))::pL ws wt acc r) (f9 uU 1) ((ofString "low",.dat (.int (kg ws r k)))::pL ws wt acc r):=by
 intro k;induction k with
 |zero=>
  intro w hk hw;obtain⟨w,rfl⟩:∃v,w=v+1:=⟨w-1,by exact(fN 0x3987842e18ac203860085c2:) hw⟩;exact .stop (nk (qw (b:=decide ((((0:Nat):Int)-1)≥0)) (r:=false) rfl .nil) (by kernel_rfl))
 |succ k ih=>
  intro w hk hw;obtain⟨w,rfl⟩:∃v,w=v+1:=⟨w-1,by exact(dA 0x1cc3c21710761bc2170860085c3:) hw⟩;rw[show((k+1:Nat):Int)-1=(k:Int)by exact(fN 0x1990a010ba4f085c2:)];have ht:uF 11 Xp pS ((ofString "low",.dat (.int (k:Int)))::pL ws wt acc r) (vE (f9 uU 1)) ((gz ws k).less (gz ws r)==false):=nk (qw (decide_eq_true (aY k)) (qi (h.item (ix hk hr)) (qi (h.item hr) (qm (h.less (ix hk hr) hr) .nil)))) (by kernel_rfl);cases q:(gz ws k).less (gz ws r)with
  |true=>
   rw[q]at ht;rw[show kg ws r (k+1)=(k:Int)from if_pos q];exact .stop ht
  |false=>
   rw[q]at ht;rw[show kg ws r (k+1)=kg ws r k from if_neg (by rw[q];decide)];exact .turn ht (fC .nil (by kernel_rfl)) (ih w (a5 hk) (oD hw))
noncomputable abbrev pH (ws:List WS) (wt:List Int) (acc:List D) (r:Nat) (lo:Int):MM:=(ofString "low",.dat (.int lo))::pL ws wt acc r
theorem NJ (ws:List WS) (h:LeadsOK ws) (wt:List Int) (acc:List D) (r:Nat) (hr:r<9) (lo:Int):∀(k w:Nat),k≤9→k<w→SubW 10 w Xp pS ((ofString "high",.dat (.int ((9-k:Nat):Int)))::pH ws wt acc r lo) (f9 uU 3) ((ofString "high",.dat (.int (jl ws r k)))::pH ws wt acc r lo):=by
 intro k;induction k with
 |zero=>
  intro w hk hw;obtain⟨w,rfl⟩:∃v,w=v+1:=⟨w-1,by exact(fN 0x3987842e18ac203860085c2:) hw⟩;exact .stop (nk (qw (b:=decide (((9-0:Nat):Int)<9)) (r:=false) rfl .nil) (by kernel_rfl))
 |succ k ih=>
  intro w hk hw;obtain⟨w,rfl⟩:∃v,w=v+1:=⟨w-1,by exact(dA 0x1cc3c21710761bc2170860085c3:) hw⟩;have h8:8-k<9:=by exact(fN 0x592170c601202e:)
  rw[show 9-(k+1)=8-k by exact(fN 0x6083180480b8607842e1242e:)];have ht:uF 11 Xp pS ((ofString "high",.dat (.int ((8-k:Nat):Int)))::pH ws wt acc r lo) (vE (f9 uU 3)) ((gz ws (8-k)).less (gz ws r)==false):=nk (qw (decide_eq_true (jz.mpr h8)) (qi (h.item h8) (qi (h.item hr) (qm (h.less h8 hr) .nil)))) (by kernel_rfl);cases q:(gz ws (8-k)).less (gz ws r)with
  |true=>
   rw[q]at ht;rw[show jl ws r (k+1)=((8-k:Nat):Int)from if_pos q];exact .stop ht
  |false=>
   rw[q]at ht;rw[show jl ws r (k+1)=jl ws r k from if_neg (by rw[q];decide)];have e:((9-k:Nat):Int)=((8-k:Nat):Int)+1:=by exact(fN 0x732f085d21c894485cf085c2180490b8601202e:) hk
   have:=ih w (a5 hk) (oD hw);rw[e]at this;exact .turn ht (fC .nil (by kernel_rfl)) this
noncomputable def W3:Nat:=2^3000
noncomputable def vL (wt:List Int):Prop:=wt.length=5∧∀w∈wt,w.natAbs<W3
theorem Ix {wt:List Int} (h:vL wt) {p:Int} (hp:0≤p∧p<5):ef (iL wt) (.int p)=some (.int (wt.getD p.toNat 0)):=by
 have:=su (ns:=wt) (p:=p.toNat) (by have:=h.1;(rw[this];exact Mine.tn_lt hp (by decide))) (by have:=h.1;(rw[this];decide));rwa[show((p.toNat:Nat):Int)=p by exact(iG 0xe651216ae50b915401c1001c8:) hp]at this
theorem ta:∀(l:List Int) (B:Nat),(∀x∈l,x.natAbs≤B)→l.sum.natAbs≤l.length*B
 |[],B=>@fun _=>by simp
 |x::l,B=>@fun h=>by
  have h1:=h x (au ..);have h2:=ta l B fun y q=>h y (af _ q);have h3:=Int.natAbs_add_le x l.sum;rw[fO,ay,Nat.succ_mul];lia
theorem xG {wt:List Int} (h:vL wt) (a b:Int):sm (rE wt a b):=by
 refine EI ?_;unfold rE;have h1:=ta (((aE 0 5).filter fun p=>decide (a<2*p∧2*p<b)).map fun p=>wt.getD p.toNat 0) W3 (fun x hx=>by
  (refine Ua (bc.mp hx) fun p hp q0=>?_;subst q0);have hp':=mem_irange.mp (bw.mp hp).1;have hlt:p.toNat<wt.length:=by have:=h.1;(rw[this];exact Mine.tn_lt hp' (by decide))
  rw[ac,aj hlt];exact a5 (h.2 _ (cH hlt)));rw[ag]at h1;have h2:((aE 0 5).filter fun p=>decide (a<2*p∧2*p<b)).length≤5:=ae (jI ..) (by rw[ci];decide);have h3:=ae h1 (kt W3 h2);refine ca h3 ?_;unfold W3;calc 5*2^3000<2^3*2^3000:=Nat.mul_lt_mul_of_pos_right (by decide) (H8 (by decide))
  _=2^3003:=by rw[←Nat.pow_add]
  _≤2^4000:=cM (by decide) (by decide)
theorem Le {p:Int} (h:p∈aE 0 5):eS .Mult (.int 2) (.int p)=some (.int (2*p)):=have h:=mem_irange.mp h;dz ⟨cL (by decide),cL ⟨aB (by decide) h.1,aO (gE h.2 (by decide))⟩⟩
theorem Ez {wt:List Int} {a b:Int}:ox (ofString "sum") [.list (((aE 0 5).filter fun p=>decide (a<2*p)&&decide (2*p<b)).map fun p=>D.int (wt.getD p.toNat 0))]=some (.int (rE wt a b)):=by
 have:=o7 (l:=((aE 0 5).filter fun p=>decide (a<2*p∧2*p<b)).map fun p=>wt.getD p.toNat 0);rw[be]at this;simp only[Pz]at this⊢;unfold rE;simp only[Pz];exact this
theorem E9 (ws:List WS) (h:LeadsOK ws) (wt:List Int) (hwt:vL wt) (r:Nat) (hr:1≤r∧r≤7) (acc:List D) (hacc:acc.length≤100):
 lm 11 Xp pS [(fX (f9 (aG (a7 80)) 1),.dat (.int r)),(ofString "leads",.dat (.list (ws.map gU))),(ofString "weights",.dat (iL wt)),(ofString "products",.own acc)] (uu (f9 (aG (a7 80)) 1)) (.next,[(ofString "leads",.dat (.list (ws.map gU))),(ofString "weights",.dat (iL wt)),(ofString "products",.own (acc++[.int (iW ws wt r)]))]):=by
 have r9:r<9:=ca hr.2 (by decide);have lo:=QF ws h wt acc r r9 r 1000 (ba _) (ix r9 (by decide));have hi:=NJ ws h wt acc r r9 (kg ws r r) (8-r) 1000 (by exact(fN 0x512170c601202e:)) (by exact(fN 0xb7d0270c601202e:));rw[show((9-(8-r):Nat):Int)=(r:Int)+1 by exact(fN 0x1ccbc217485226a870b8541042e180690b8601202e:) hr]at hi;have hl:(aE 0 5).length≤1000000:=by rw[ci];decide
 have it:∀p∈aE 0 5,ef (iL wt) (.int p)=some (.int (wt.getD p.toNat 0)):=fun p hp=>Ix hwt (mem_irange.mp hp);have c1:∀z,gQ (z+6) Xp pS [(ofString "weights",.dat (iL wt)),(ofString "row",.dat (.int r)),(ofString "low",.dat (.int (kg ws r r)))] (wO (vE (f9 uU 4)) 1) (.list (((aE 0 5).filter fun p=>decide (kg ws r r<2*p)&&decide (2*p<(r:Int))).map fun p=>D.int (wt.getD p.toNat 0))):=fun z=>
  wE (n:=z+5) (l:=aE 0 5) (g:=D.int) (by kernel_rfl) (fQ (qa jN .nil) (by kernel_rfl)) (fun p hp=>nk (qb (Le hp) .nil) (by kernel_rfl)) (fun p hp=>fR (qi (it p hp) .nil) (by kernel_rfl)) hl rfl;have c2:∀z,gQ (z+6) Xp pS [(ofString "weights",.dat (iL wt)),(ofString "row",.dat (.int r)),(ofString "high",.dat (.int (jl ws r (8-r))))] (wO (wO (wO (vE (f9 uU 5)) 1) 1) 1) (.list (((aE 0 5).filter fun p=>decide ((r:Int)<2*p)&&decide (2*p<jl ws r (8-r))).map fun p=>D.int (wt.getD p.toNat 0))):=fun z=>
  wE (n:=z+5) (l:=aE 0 5) (g:=D.int) (by kernel_rfl) (fQ (qa jN .nil) (by kernel_rfl)) (fun p hp=>nk (qb (Le hp) .nil) (by kernel_rfl)) (fun p hp=>fR (qi (it p hp) .nil) (by kernel_rfl)) hl rfl;exact fC (n:=11) (qx (lo.loop (by kernel_rfl)) (qx (hi.loop (by kernel_rfl)) (qe c1 (qf (Ez (wt:=wt) (a:=kg ws r r) (b:=r)) (qe c2 (qf (Ez (wt:=wt) (a:=r) (b:=jl ws r (8-r))) (qb (dz ⟨xG hwt (kg ws r r) r,xG hwt r (jl ws r (8-r))⟩) (qp (show acc.length≤1000000 from ae hacc (by decide)) .nil)))))))) (by kernel_rfl)
theorem E8 (ws:List WS) (h:LeadsOK ws) (wt:List Int) (hwt:vL wt):∃M',c7 (ex 12 Xp (aF (a7 80)).names) (aG (a7 80)) (bU (ej (a7 80)) [.list (ws.map gU),iL wt])=some (.ret (iL ([1,3,5,7].map (iW ws wt))),M'):=by
 have loop:jx 12 Xp pS [(ofString "leads",.dat (.list (ws.map gU))),(ofString "weights",.dat (iL wt)),(ofString "products",.own [])] (f9 (aG (a7 80)) 1) (.next,[(ofString "leads",.dat (.list (ws.map gU))),(ofString "weights",.dat (iL wt)),(ofString "products",.own (([1,3,5,7].map (iW ws wt)).map .int))]):=
  kM (n:=11) (l:=[1,3,5,7]) (g:=fun r:Nat=>D.int r) (fun k=>[(ofString "leads",.dat (.list (ws.map gU))),(ofString "weights",.dat (iL wt)),(ofString "products",.own ((([1,3,5,7].take k).map (iW ws wt)).map .int))]) (by kernel_rfl) rfl rfl (fQ (qj (ve (l:=[.int 1,.int 3,.int 5,.int 7]) (by decide:4≤1000000)) .nil) (by kernel_rfl)) fun k r e=>by
   have hr:1≤r∧r≤7:=(by decide:∀r∈[1,3,5,7],1≤r∧r≤7) r (ax e);rw[eK,e,bz,bz];exact E9 ws h wt hwt r hr _ (by rw[ag,ag];exact ae (dW ..) (by decide:4≤100))
 exact i9 (qx loop .nil) (by kernel_rfl)
noncomputable def Lw:Str:=ofString "_law_products"
theorem prod_at:LocalIs Lw 234:=⟨by kernel_rfl,by kernel_rfl⟩
noncomputable def zq (as:List D) (d:D):Prop:=∃(ws:List WS) (wt:List Int),LeadsOK ws∧vL wt∧as=[.list (ws.map gU),iL wt]∧d=iL ([1,3,5,7].map (iW ws wt))
theorem u7:∀{a b:List WS},a.map gU=b.map gU→a=b
 |[],[]=>@fun _=>rfl
 |[],_::_=>@fun h=>nomatch h
 |_::_,[]=>@fun h=>nomatch h
 |x::a,y::b=>@fun h=>by
  rw[bg,bg]at h;injection h with h1 h2;rw[mj h1,u7 h2]
theorem HU {as d d'} (h:zq as d) (h':zq as d'):d=d':=by
 (refine Ue h fun t ab _ _ e q0=>?_;subst q0);(refine Ue h' fun t' ab' _ _ e' q0=>?_;subst q0);rw[e]at e';injection e' with e' e2;injection e' with e';injection e2 with e2 _;rw[u7 e',mw e2]
theorem CM {C:aU} {k:Nat}:cg C (k+3) 234 zq:=by
 rintro as d ⟨l,p,h,h2,rfl,rfl⟩;obtain⟨M',e⟩:=E8 l h p h2;exact c9 NY R6 rfl e
noncomputable def cZ:List Nat→Int→Bool
 |[],o=>o==0
 |c::r,o=>if c=40 then cZ r (o+1)else if c=41 then(if o-1<0 then false else cZ r (o-1))else cZ r o
noncomputable def rA (l:List Nat):Prop:=l.length≤900∧∀c∈l,c≠34∧c≠92∧c<0x110000
noncomputable def Cs:List Nat:=[40,39,39,44,32,39,39,41]
noncomputable def g9 (l:List Nat):List Nat:=if cZ l 0=true then l else Cs
noncomputable def Ni:Str:=ofString "_check_parenthesis"
theorem chk_at:LocalIs Ni 42:=⟨by kernel_rfl,by kernel_rfl⟩
noncomputable def DN (as:List D) (d:D):Prop:=∃l:List Nat,rA l∧as=[.str (S l)]∧d=.bool (cZ l 0)
theorem KU {as d d'} (h:DN as d) (h':DN as d'):d=d':=by
 (refine Ul h fun t _ e q0=>?_;subst q0);(refine Ul h' fun t' _ e' q0=>?_;subst q0);rw[e]at e';injection e' with e' e2;injection e' with e';rw[rO e']
noncomputable def Xc:Cx:=Cx.of [(Ni,DN)] []
theorem Pb {l:List Nat} (h:rA l):Xc.call (ofString "_check_parenthesis") [.str (S l)]=some (.bool (cZ l 0)):=gM (x:=Ni) (fun _ _=>KU) ⟨l,h,rfl,rfl⟩
noncomputable abbrev vS:NS:=(aF (a7 5)).names
noncomputable abbrev Sq:Stmt:=f9 (aG (a7 5)) 1
theorem Jf {l:List Nat} (hl:rA l) (ls:List (List Nat)) (acc:List D) (hn:acc.length≤900000):
 lm 11 Xc vS [(fX Sq,.dat (.str (S l))),(ofString "email_header_fields",.dat (.list (cm ls))),(ofString "accepted_values",.own acc)] (uu Sq) (.next,[(ofString "email_header_fields",.dat (.list (cm ls))),(ofString "accepted_values",.own (acc++[.str (S (g9 l))]))]):=by
 have hx:=Pb hl;have hp:acc.length≤1000000:=ae hn (by decide);unfold g9;cases hc:cZ l 0 with
 |true=>rw[hc]at hx;exact fC (qg hx (qF (qp hp .nil))) (by kernel_rfl)
 |false=>rw[hc]at hx;exact fC (qg hx (qT (qp hp .nil))) (by kernel_rfl)
theorem Je (ls:List (List Nat)) (h:∀l∈ls,rA l) (hl:ls.length≤1000):∃M',c7 (ex 12 Xc (aF (a7 5)).names) (aG (a7 5)) (bU (ej (a7 5)) [.list (cm ls)])=some (.ret (.list (cm (ls.map g9))),M'):=by
 have loop:jx 12 Xc vS [(ofString "email_header_fields",.dat (.list (cm ls))),(ofString "accepted_values",.own [])] Sq (.next,[(ofString "email_header_fields",.dat (.list (cm ls))),(ofString "accepted_values",.own (cm (ls.map g9)))]):=by
  have lp:=kM (n:=11) (X:=Xc) (sc:=vS) (st:=Sq) (l:=ls) (g:=fun l=>D.str (S l)) (fun k=>[(ofString "email_header_fields",.dat (.list (cm ls))),(ofString "accepted_values",.own (cm ((ls.take k).map g9)))]) (by kernel_rfl) rfl rfl (fQ (qj (fU (l:=cm ls) (by unfold cm;rw[ag];exact ae hl (by decide))) .nil) (by kernel_rfl)) fun k l e=>by
   have:=Jf (h l (ax e)) ls (cm ((ls.take k).map g9)) (by unfold cm;rw[ag,ag];exact ae (dW ..) (ae hl (by decide)));rw[eK,e];unfold cm at this⊢;rw[bz,bz];exact this
  rwa[bD (ba _)]at lp
 exact i9 (qx loop .nil) (by kernel_rfl)
noncomputable def Jt:Str:=ofString "_pre_parse_validation"
theorem pre_at:LocalIs Jt 49:=⟨by kernel_rfl,by kernel_rfl⟩
noncomputable def zt (as:List D) (d:D):Prop:=∃ls:List (List Nat),(∀l∈ls,rA l)∧ls.length≤1000∧as=[.list (cm ls)]∧d=.list (cm (ls.map g9))
theorem B7 {as d d'} (h:zt as d) (h':zt as d'):d=d':=by
 (refine Uq h fun t _ _ e q0=>?_;subst q0);(refine Uq h' fun t' _ _ e' q0=>?_;subst q0);rw[e]at e';injection e' with e' e2;injection e' with e';rw[xK e']
theorem Fb {C:aU} {k:Nat} (hc:cg C k 42 DN):cg C (k+1) 49 zt:=by
 rintro as d ⟨ls,h,h2,rfl,rfl⟩;obtain⟨M',e⟩:=Je ls h h2;exact c9 Ro (.calls (cK (chk_at.at hc) lh)) rfl e
open Classical in
theorem BQ {a b:D} {c:Bool} (ha:lx 60 a=true) (hb:lx 60 b=true) (h:c=true↔a=b):Dt a b=some c:=by
 rw[G4 ha hb];refine congrArg some ?_;rw[←Ml,decide_eq_true_iff];exact h.symm
open Classical in
theorem LN {d:D} {l:List D} {c:Bool} (hd:lx 60 d=true) (hl:lx 60 (.list l)=true) (h:c=true↔d∈l):NE d l=some c:=by
 rw[ND hd hl];refine congrArg some ?_;rw[←Ml,decide_eq_true_iff];exact h.symm
theorem str1_iff {a b:List Nat}:D.list [.str (S a)]=.list [.str (S b)]↔a=b:=
 ⟨fun e=>by injection e with e;injection e with e;injection e with e;exact rO e,fun e=>by rw[e]⟩
theorem int_mem {j:Int} {l:List Int}:D.int j∈l.map D.int↔j∈l:=by
 rw[bc];exact⟨fun⟨a,h,e⟩=>by injection e with e;rw[←e];exact h,fun h=>⟨j,h,rfl⟩⟩
noncomputable def gr (l:List Nat) (p:Nat):List (List Nat):=((aE p l.length).filter fun q=>decide (l.getD q.toNat 0=41)).map fun q=>(l.drop p).take (q.toNat+1-p)
noncomputable def rG (ts:List (List Nat)):List Int:=(aE 0 ts.length).filter fun k=>cZ (ts.getD k.toNat []) 0
noncomputable def DG (ts:List (List Nat)):List Nat:=(ts.find? fun t=>cZ t 0).getD []
noncomputable def jb (l:List Nat) (p:Nat):List (Int×Int):=if l.getD p 0=40 then[(cnt 44 (l.take p),cnt 44 (DG (gr l p)))]else[]
noncomputable def kX (p:Int×Int):D:=.tup [.int p.1,.int p.2]
theorem Ae {ts:List (List Nat)} (h:(ts.find? fun t=>cZ t 0).isSome=true):∃k:Nat,∃r,k<ts.length∧rG ts=(k:Int)::r∧ts[k]?=some (DG ts):=by
 obtain⟨t,ht⟩:=ew.mp h;obtain⟨hc,i,hi,e,hj⟩:=List.find?_eq_some_iff_getElem.mp ht;have hb:DG ts=t:=by unfold DG;rw[ht];rfl
 have hf:(co ts.length).find? (fun k=>cZ (ts.getD k []) 0)=some i:=by
  rw[zS];refine⟨?_,gX.mpr hi,fun j hj'=>?_⟩
  ·rw[ac,aj hi,e];exact hc
  ·have:=hj j hj'
   rw[ac,aj (by(exact ix hj' hi))];exact this
 have hs:rG ts=((co ts.length).filter fun k=>cZ (ts.getD k []) 0).map fun(k:Nat)=>(k:Int):=by
  rw[rG,aE];rw[List.filter_map];have:((ts.length:Int)-0).toNat=ts.length:=by(rfl)
  rw[this];have e1:(fun k:Int=>cZ (ts.getD k.toNat []) 0)∘(fun k:Nat=>(0:Int)+(k:Int))=fun k:Nat=>cZ (ts.getD k []) 0:=by
   funext k;show cZ (ts.getD ((0:Int)+(k:Int)).toNat []) 0=_;rw[show((0:Int)+(k:Int)).toNat=k by exact(fN 0xc0861001cf9080e:)]
  rw[e1];exact cR fun k _=>by exact(fN 878404241422:)
 have hh:=List.head?_filter (p:=fun k=>cZ (ts.getD k []) 0) (l:=co ts.length);rw[hf]at hh;obtain⟨r,hr⟩:∃r,(co ts.length).filter (fun k=>cZ (ts.getD k []) 0)=i::r:=by
  cases q:(co ts.length).filter (fun k=>cZ (ts.getD k []) 0)with
  |nil=>rw[q]at hh;cases hh
  |cons a r=>rw[q]at hh;injection hh with hh;rw[hh];exact⟨r,rfl⟩
 exact⟨i,r.map fun(k:Nat)=>(k:Int),hi,by rw[hs,hr];rfl,by rw[hb,aj hi,e]⟩
theorem Gf {l:List Nat} {k:Nat} (h:k<l.length) (hk:k<1000000):ef (.str (S l)) (.int (k:Int))=some (.str (S [l.getD k 0])):=by
 rw[C9];rw[if_pos ⟨by(exact aY _),by exact(fN 0x397f424023a42b7a12011c2:) hk⟩];have:(S l).cps[(k:Int).toNat]?=some (l.getD k 0):=by
  rw[←fc,nN,bY,ac,aj h];rfl
 rw[this];rfl
theorem my {a b:List Nat}:ia .Eq (.str (S a)) (.str (S b))=some (decide (a=b)):=by
 show some (S a==S b)=_;congr 1;by_cases h:a=b
 ·rw[h];simp
 ·rw[decide_eq_false h]
  exact beq_eq_false_iff_ne.mpr fun q=>h (rO q)
theorem xO {x:List Nat}:Cy (ofString "count") (.str (S x)) [.str (S [44])]=some (.int (cnt 44 x)):=by
 unfold Cy;rw[if_neg (by decide+kernel),if_neg (by decide+kernel),if_pos rfl];show some (D.int (Txt.count (S x) (S [44])))=_;have:=count_cnt (S x) 44;rw[nN]at this;exact congrArg (fun i=>some (D.int i)) this
theorem qS {b:Nat} (h:b≤1000):iV [.int (b:Int)]=some ((aE 0 (b:Int)).map .int):=by
 show j9 0 (b:Int)=_;unfold j9;rw[if_pos (by exact(fN 0x1cd6b5aafa12011d003a42afa12011d2156429fa12011d5f42402380ea81d3f424023a9f409c2:) h)];unfold aE;rw[be];rfl
theorem td {α:Type} (l:List α) (f:Int→D) (g:α→D) (h:∀(k:Nat) a,l[k]?=some a→f (k:Int)=g a):(aE 0 l.length).map f=l.map g:=by
 apply K3;intro i;unfold aE;rw[aJ,aJ,aJ,show((l.length:Int)-0).toNat=l.length by(rfl)];by_cases hi:i<l.length
 ·rw[kG hi,aj hi]
  show some (f (0+(i:Int)))=some (g l[i]);rw[br,h i l[i] (aj hi)]
 ·rw[fj (by simp;(exact c5.mp hi)),fj (by(exact c5.mp hi))];rfl
noncomputable def fe (l:List Nat):Prop:=l.length≤900∧∀c∈l,c≠34∧c≠92∧c≠39∧c<0x110000
theorem CP {l t:List Nat} (h:fe l) (hs:∀c∈t,c∈l) (hl:t.length≤l.length):fe t:=⟨ae hl h.1,fun c q=>h.2 c (hs c q)⟩
theorem CO {l:List Nat} (h:fe l):rA l:=⟨h.1,fun c q=>⟨(h.2 c q).1,(h.2 c q).2.1,(h.2 c q).2.2.2⟩⟩
theorem xD {l:List Nat} (h:fe l) (p:Nat):∀t∈gr l p,fe t:=fun t ht=>by
 (refine Ua (bc.mp ht) fun q _ q0=>?_;subst q0);exact CP h (fun c hc=>gZ (fA hc)) (ae (dW ..) (by rw[cp];exact rZ ..))
theorem Bm {t:List Nat} (h:fe t):∀c∈g9 t,c<0x110000:=fun c hc=>by
 unfold g9 at hc;split at hc
 ·exact(h.2 c hc).2.2.2
 ·unfold Cs at hc;simp at hc;exact(fN 0x72c1100002b85bdef7bc052270b01389c2c040270b01609c2c04e270b01409c2:) hc
theorem Jg {t:List Nat} (h:fe t):g9 t=t↔cZ t 0=true:=by
 unfold g9;constructor
 ·intro e
  split at e
  ·assumption
  ·have:(39:Nat)∈t:=by rw[←e];decide
   exact absurd rfl (h.2 39 this).2.2.1
 ·intro e;rw[if_pos e]
noncomputable def Xt:Cx:=Cx.of [(Jt,zt)] []
theorem O6 {ls:List (List Nat)} (h:∀l∈ls,rA l) (hl:ls.length≤1000):Xt.call (ofString "_pre_parse_validation") [.list (cm ls)]=some (.list (cm (ls.map g9))):=gM (x:=Jt) (fun _ _=>B7) ⟨ls,h,hl,rfl,rfl⟩
noncomputable abbrev tS:NS:=(aF (a7 79)).names
noncomputable def Qa:List Stmt:=mE (f9 (aG (a7 79)) 1)
theorem xL {ts:List (List Nat)} {k:Nat} {t:List Nat} (h:ts[k]?=some t):(cm ts)[k]?=some (.str (S t)):=by
 unfold cm;rw[aJ,h];rfl
theorem Kt {a b:List D}:ia .NotEq (.list a) (.list b)=(Dt (.list a) (.list b)).map (!·):=rfl
theorem pG {ts:List (List Nat)}:(cm ts).length=ts.length:=by unfold cm;rw[ag]
noncomputable abbrev Sv:Stmt:=f9 (aG (a7 79)) 1
noncomputable abbrev SN:List Stmt:=(jM (f9 Qa 0)).b
theorem Fp (l:List Nat) (h:fe l) (p:Nat) (hp:p<l.length) (hs:l.getD p 0=40→((gr l p).find? fun t=>cZ t 0).isSome=true) (acc:List D) (hacc:acc.length≤1000):
 lm 11 Xt tS [(fX Sv,.dat (.int p)),(ofString "text",.dat (.str (S l))),(ofString "parts",.own acc)] (uu Sv) (.next,[(ofString "text",.dat (.str (S l))),(ofString "parts",.own (acc++(jb l p).map kX))]):=by
 have hln:=h.1;have hit:=Gf hp (by exact(dA 0x7396f424023854e104e1d862:) hp hln);by_cases q:l.getD p 0=40
 ·refine Uc (Ae (hs q)) fun k0 r0 hk0 hsame hbal=>?_
  have hts:(gr l p).length≤900:=by
   unfold gr;rw[ag];refine ae (jI ..) ?_;rw[ci];exact(dA 0x394e104e2538413841001d090e42:) hln
  have htp:=xD h p;have d1:∀z,gQ (z+6) Xt tS [(fX Sv,.dat (.int p)),(ofString "text",.dat (.str (S l)))] (vE (f9 SN 0)) (.list (cm (gr l p))):=fun z=>wE (n:=z+5) (l:=aE p l.length) (g:=D.int) (h:=fun j=>D.str (S ((l.drop p).take (j.toNat+1-p)))) (P:=fun j=>decide ([l.getD j.toNat 0]=[41])) (by kernel_rfl)
   (fQ (qf (len_str (l:=l) (ae hln (by decide))) (qa (nY (by exact(dA 0xe735ad57e813a43ac873fa04eafd027485590a7f409d4e104e1d862:) hp hln)) .nil)) (by kernel_rfl))
   (fun j hj=>by
    have hj':=mem_irange.mp hj;have hit2:=Gf (l:=l) (k:=j.toNat) (by exact(HK 0x3961935790d1544841001c8:) hj') (by exact(HK 0x39cb7a12011c4d5e42455121d38413841001c8:) hln hj');rw[show((j.toNat:Nat):Int)=j by exact(HK 0x73289135790d1544841001c8:) hj']at hit2;exact nk (qi hit2 (qc (my (a:=[l.getD j.toNat 0]) (b:=[41])) .nil)) (by kernel_rfl))
   (fun j hj=>by
    have hj':=mem_irange.mp hj;have hsl:gt (.str (S l)) (some (p:Int)) (some (j+1)) none=some (.str (S ((l.drop p).take (j.toNat+1-p)))):=by
     rw[nW (by exact(fN 0x729e8480470a9c209c2:) hln),show(j+1:Int)=(p:Int)+((j.toNat+1-p:Nat):Int)by exact(HK 0x3997c8b213c217235790d1544843009e10b881001c8:) hj',qk (by(exact a5 hp))]
    exact fR (qs hsl .nil) (by kernel_rfl))
   (by rw[ci];exact(dA 0xe53d09008e2538413841001d090e42:) hln)
   (by
    unfold gr cm;rw[be,show(fun j:Int=>decide ([l.getD j.toNat 0]=[41]))=fun j:Int=>decide (l.getD j.toNat 0=41)from funext fun j=>decide_eq_decide.mpr ⟨fun e=>by injection e,fun e=>by rw[e]⟩];rfl);unfold jb;rw[if_pos q];generalize gr l p=ts at*;have hx:=O6 (ls:=ts) (fun t ht=>CO (htp t ht)) (by(exact ae hts (by decide)));have hlts:=gJ (l:=cm ts) (by rw[pG];(exact ae hts (by decide)));rw[pG]at hlts;have hr1:=qS (b:=ts.length) (by(exact ae hts (by decide)));have hm:∀j∈aE 0 (ts.length:Int),∃m:Nat,j=m∧ts[m]?=some (ts.getD j.toNat [])∧m<ts.length:=fun j hj=>by
   have hj':=mem_irange.mp hj;obtain⟨m,rfl⟩:∃m:Nat,j=m:=⟨j.toNat,by exact(zh 0x73321a35790915401c1001c8:) hj'⟩;have hjl:m<ts.length:=by(exact jz.mp hj'.2)
   exact⟨m,rfl,by rw[bY,ac,aj hjl];rfl,hjl⟩
  have hi1:∀{m:Nat} {t:List Nat},ts[m]?=some t→m<ts.length→ef (.list (cm ts)) (.int (m:Int))=some (.str (S t)):=fun e1 hjl=>cY (xL e1) (aP hjl (ae hts (by decide)));have hl6:(aE 0 (ts.length:Int)).length≤1000000:=by rw[ci];exact ae hts (by decide)
  have d2:∀z,gQ (z+6) Xt tS [(ofString "tries",.dat (.list (cm ts))),(ofString "kept",.dat (.list (cm (ts.map g9))))] (vE (f9 SN 2)) (iL (rG ts)):=fun z=>wE (n:=z+5) (l:=aE 0 ts.length) (g:=D.int) (h:=D.int) (P:=fun j=>cZ (ts.getD j.toNat []) 0) (by kernel_rfl) (fQ (qf hlts (qa hr1 .nil)) (by kernel_rfl))
   (fun j hj=>by
    (refine Ul (hm j hj) fun m q0 e1 hjl=>?_;subst q0);generalize ts.getD (m:Int).toNat []=t at e1⊢;have htpl:=htp t (ax e1);have e2:(cm (ts.map g9))[m]?=some (.str (S (g9 t))):=xL (by rw[aJ,e1];rfl);have hsl:gt (.list (cm (ts.map g9))) (some (m:Int)) (some ((m:Int)+1)) none=some (.list [.str (S (g9 t))]):=by
     rw[mo (by rw[pG,ag];exact(fN 0x729e8480470a9c209c2:) hts),show((m:Int)+1:Int)=(m:Int)+((1:Nat):Int)from rfl,qk (by rw[pG,ag];exact a5 hjl)];refine congrArg (fun x=>some (D.list x)) ?_;rw[List.take_one,List.head?_drop,e2];rfl
    have hq:ia .Eq (.list [.str (S (g9 t))]) (.list [.str (S t)])=some (cZ t 0):=by
     show Dt (.list (cm [g9 t])) (.list (cm [t]))=_;refine BQ (sb (l:=[g9 t]) (by intro x hx;rw[aT.mp hx];exact sa (Bm htpl))) (sb (l:=[t]) (by intro x hx;rw[aT.mp hx];exact sa fun c hc=>(htpl.2 c hc).2.2.2)) ?_;rw[←Jg htpl];exact str1_iff.symm
    exact nk (qs hsl (qi (hi1 e1 hjl) (qc hq .nil))) (by kernel_rfl))
   (fun j hj=>fR .nil (by kernel_rfl)) hl6 rfl;have d3:∀z,gQ (z+8) Xt tS [(ofString "tries",.dat (.list (cm ts))),(ofString "same",.dat (iL (rG ts)))] (wO (vE (f9 SN 3)) 1) (.list (cm (ts.map g9))):=fun z=>kq (n:=z+7) (l:=aE 0 ts.length) (g:=D.int) (h:=fun j:Int=>D.str (S (g9 (ts.getD j.toNat [])))) (by kernel_rfl) (fQ (qf hlts (qa hr1 .nil)) (by kernel_rfl))
   (fun j hj=>by
    (refine Ul (hm j hj) fun m q0 e1 hjl=>?_;subst q0);have hmem:cZ (ts.getD (m:Int).toNat []) 0=true↔D.int (m:Int)∈(rG ts).map D.int:=⟨fun e=>int_mem.mpr (bw.mpr ⟨hj,e⟩),fun e=>(bw.mp (int_mem.mp e)).2⟩;generalize ts.getD (m:Int).toNat []=t at e1 hmem⊢;have hin:ia .In (.int (m:Int)) (iL (rG ts))=some (cZ t 0):=LN (by rfl) (x5 _) hmem;unfold g9;cases hc:cZ t 0 with
    |true=>rw[hc]at hin;exact fR (qc hin (qT (qi (hi1 e1 hjl) .nil))) (by kernel_rfl)
    |false=>rw[hc]at hin;exact fR (qc hin (qF .nil)) (by kernel_rfl)) hl6 (by
    unfold cm;rw[be];refine td ts _ _ fun k a e=>?_;show D.str (S (g9 (ts.getD (k:Int).toNat [])))=_;rw[bY,ac,e];rfl);have ne:ia .NotEq (.list (cm (ts.map g9))) (.list (cm (ts.map g9)))=some false:=by
   have hpl:lx 60 (.list (cm (ts.map g9)))=true:=sb fun x hx=>by
    obtain⟨t,ht,rfl⟩:=bc.mp hx;exact sa (Bm (htp t ht))
   rw[Kt,BQ (c:=true) hpl hpl (by simp)];rfl
  have hsl:gt (.str (S l)) none (some (p:Int)) none=some (.str (S (l.take p))):=by rw[nW (by(exact ae hln (by decide))),yS (by exact(dA 30739093602:) hp)]
  have i1:ef (iL (rG ts)) (.int 0)=some (.int k0):=by rw[hsame];rfl
  exact fC (n:=11) (qi hit (qc (my (a:=[l.getD p 0]) (b:=[40])) (qw (b:=decide ([l.getD p 0]=[40])) (r:=true) (decide_eq_true (by rw[q])) (qe d1 (qg hx (qe d2 (qe d3 (qc ne (qF (qs hsl (qt (xO (x:=l.take p)) (qi i1 (qi (hi1 hbal hk0) (qt (xO (x:=DG ts)) (qp (show acc.length≤1000000 from ae hacc (by decide)) .nil))))))))))))))) (by kernel_rfl)
 ·unfold jb
  rw[if_neg q];have e:acc++([]:List (Int×Int)).map kX=acc:=bH acc;rw[e];exact fC (n:=11) (qi hit (qc (my (a:=[l.getD p 0]) (b:=[40])) (qw (b:=decide ([l.getD p 0]=[40])) (r:=false) (decide_eq_false fun e=>q (by injection e)) .nil))) (by kernel_rfl)
noncomputable def mt (l:List Nat):List (Int×Int):=(co l.length).flatMap (jb l)
theorem CR (l:List Nat) (p:Nat):(jb l p).length≤1:=by unfold jb;split<;>simp
noncomputable def im (l:List (Int×Int)):D:=.list (l.map kX)
theorem CQ (l:List Nat) (h:fe l) (hs:∀p,p<l.length→l.getD p 0=40→((gr l p).find? fun t=>cZ t 0).isSome=true):∃M',c7 (ex 12 Xt (aF (a7 79)).names) (aG (a7 79)) (bU (ej (a7 79)) [.str (S l)])=some (.ret (im (mt l)),M'):=by
 have hln:=h.1;have e:(aE 0 (l.length:Int)).map D.int=(co l.length).map fun(p:Nat)=>D.int (p:Int):=by
  unfold aE;rw[be];refine cR fun k _=>?_;show D.int (0+(k:Int))=_;rw[br]
 have loop:jx 12 Xt tS [(ofString "text",.dat (.str (S l))),(ofString "parts",.own [])] Sv (.next,[(ofString "text",.dat (.str (S l))),(ofString "parts",.own ((mt l).map kX))]):=
  kM (n:=11) (l:=co l.length) (g:=fun(p:Nat)=>D.int (p:Int)) (fun k=>[(ofString "text",.dat (.str (S l))),(ofString "parts",.own ((((co l.length).take k).flatMap (jb l)).map kX))]) (by kernel_rfl) rfl (by rw[bD (ba _)];rfl)
  (e▸fQ (qf (len_str (l:=l) (ae hln (by decide))) (qa (qS (ae hln (by decide))) .nil)) (by kernel_rfl)) fun k p hk=>by
   have hp:=gX.mp (ax hk);rw[eK,hk,fW,bz,show(some p).toList.flatMap (jb l)=jb l p from List.flatMap_singleton ..];refine Fp l h p hp (hs p hp) _ ?_;rw[ag];refine ae (jW (n:=1) fun x _=>CR l x) ?_;rw[Nat.mul_one];exact ae (dW ..) (by rw[K1];exact ae hln (by decide))
 exact i9 (qx loop .nil) (by kernel_rfl)
noncomputable def FF:Str:=ofString "_law_parts"
theorem parts_at:LocalIs FF 229:=⟨by kernel_rfl,by kernel_rfl⟩
noncomputable def uh (as:List D) (d:D):Prop:=∃l:List Nat,fe l∧(∀p,p<l.length→l.getD p 0=40→((gr l p).find? fun t=>cZ t 0).isSome=true)∧as=[.str (S l)]∧d=im (mt l)
theorem DK {as d d'} (h:uh as d) (h':uh as d'):d=d':=by
 (refine Uq h fun t _ _ e q0=>?_;subst q0);(refine Uq h' fun t' _ _ e' q0=>?_;subst q0);rw[e]at e';injection e' with e' e2;injection e' with e';rw[rO e']
theorem Al {C:aU} {k:Nat} (hc:cg C k 49 zt):cg C (k+1) 229 uh:=by
 rintro as d ⟨ls,h,h2,rfl,rfl⟩;obtain⟨M',e⟩:=CQ ls h h2;exact c9 NZ (.calls (cK (pre_at.at hc) lh)) rfl e
noncomputable def KT (as:List D) (d:D):Prop:=∃a b n:Int,b≠0∧sm b∧(dm a:Int)-n≤4000∧as=[.int a,.int b,.int n]∧d=.tup [.int (a.fdiv b),.int (a.fmod b)]
noncomputable def Nh:Str:=ofString "_div2n1n"
theorem div_at:LocalIs Nh 56:=⟨by kernel_rfl,by kernel_rfl⟩
theorem KS {as d d'} (h:KT as d) (h':KT as d'):d=d':=by
 obtain⟨a,b,n,_,_,_,e,rfl⟩:=h;obtain⟨a',b',n',_,_,_,e',rfl⟩:=h';rw[e]at e';injection e' with e1 e';injection e' with e2 e';injection e1 with e1;injection e2 with e2;rw[e1,e2]
theorem vX {a:Int}:Cy (ofString "bit_length") (.int a) []=some (.int (dm a)):=by
 unfold Cy;rw[if_neg (by decide+kernel),if_neg (by decide+kernel),if_neg (by decide+kernel),if_pos rfl];rfl
theorem DF {a b:Int} (h:b≠0∧sm b):ox (ofString "divmod") [.int a,.int b]=some (.tup [.int (a.fdiv b),.int (a.fmod b)]):=by
 unfold ox;rw[if_neg (by decide+kernel),if_neg (by decide+kernel),if_neg (by decide+kernel),if_neg (by decide+kernel),if_pos rfl];exact if_pos h
theorem Kk (X:Cx) (a b n:Int) (hb:b≠0∧sm b) (hn:(dm a:Int)-n≤4000):∃M',c7 (ex 12 X (aF (a7 8)).names) (aG (a7 8)) (bU (ej (a7 8)) [.int a,.int b,.int n])=some (.ret (.tup [.int (a.fdiv b),.int (a.fmod b)]),M'):=by
 exact i9 (qt (vX (a:=a)) (qw (decide_eq_true hn) (qf (DF (a:=a) hb) .nil))) (by kernel_rfl)
theorem G8 {C:aU} {k:Nat}:cg C (k+1) 56 KT:=by
 rintro as d ⟨a,b,n,h1,h2,h3,rfl,rfl⟩;obtain⟨M',e⟩:=Kk X0 a b n ⟨h1,h2⟩ h3;exact c9 Rn d8 rfl e
noncomputable def eF (B:Int) (ds:List Int):Int:=ds.foldr (fun d v=>v*B+d) 0
noncomputable def fG (a:Int):Nat:=dm a
theorem bitsN_le {a:Int} {m:Nat}:fG a≤m↔a.natAbs<2^m:=Vd
noncomputable def lV (B:Int):Nat→Int→List Int
 |0,_=>[]
 |m+1,a=>a%B::lV B m (a/B)
noncomputable def gP (a:Int) (n:Nat):Nat:=(fG a+n-1)/n
noncomputable def io (a:Int) (n:Nat):List Int:=lV (2^n) (gP a n) a
theorem ko (B:Int):∀m a,(lV B m a).length=m
 |0=>@fun _=>rfl
 |m+1=>@fun a=>by rw[lV];rw[ay,ko B m]
theorem sB {B:Int} (hB:0<B):∀m a,∀x∈lV B m a,0≤x∧x<B
 |0=>@fun _ x h=>by cases h
 |m+1=>@fun a x h=>by
  rcases aD.mp h with rfl|h
  ·exact⟨i8 _ (by(exact db hB)),gF _ hB⟩
  ·exact sB hB m _ x h
theorem fb (B d:Int) (r:List Int):eF B (d::r)=eF B r*B+d:=rfl
theorem p9 {B:Int} (hB:0<B):∀m a,0≤a→a<B^m→eF B (lV B m a)=a
 |0=>@fun a h h'=>by
  rw[Int.pow_zero]at h';show(0:Int)=a;exact(iG 0x7399401d7085c8aa00e:) h h'
 |m+1=>@fun a h h'=>by
  rw[lV];rw[fb,p9 hB m (a/B) (ek h (by(exact aO hB))) (jL hB (by rwa[←oH]))];have:=gS a B;rw[eh];exact this
theorem wA {B:Int} (hB:0<B):∀(ds:List Int),(∀x∈ds,0≤x∧x<B)→lV B ds.length (eF B ds)=ds
 |[]=>@fun _=>rfl
 |d::r=>@fun h=>by
  have hd:=h d (au ..);rw[ay];rw[lV];rw[fb];have e1:(eF B r*B+d)%B=d:=by
   rw[iA,xr,ut hd.1 hd.2]
  have e2:(eF B r*B+d)/B=eF B r:=by
   rw[iA,DT _ _ (by(exact db hB)),DS hd.1 hd.2,br]
  rw[e1,e2,wA hB r fun x q=>h x (af _ q)]
theorem r5 {B:Int} (hB:0<B):∀(ds:List Int),(∀x∈ds,0≤x∧x<B)→0≤eF B ds∧eF B ds<B^ds.length
 |[]=>@fun _=>⟨dj _,by simp[eF]⟩
 |d::r=>@fun h=>by
  have hd:=h d (au ..);have ih:=r5 hB r fun x q=>h x (af _ q);rw[fb,ay,oH];have h1:=cb ih.1 (aO hB);have h2:(eF B r+1)*B≤B^r.length*B:=bJ (by(exact ih.2)) (by exact(iG 31516485459982:) hB);rw[d7]at h2;exact(uE 0xe739abade8555e8501d55be29085caaa80ed5d28aa00e:) hd h1 h2
theorem ga (n:Nat):(0:Int)<2^n:=Ih (by decide)
theorem dv {a:Int} {m:Nat} (h:0≤a):a.natAbs<2^m↔a<2^m:=by
 have:((2^m:Nat):Int)=(2:Int)^m:=by rw[i7];rfl
 exact(Io 0x39cedd28b08794c855401c2001c8:) h this
theorem yO {a:Int} {n:Nat} (hn:1≤n) (h:0≤a):a<(2^n:Int)^gP a n:=by
 rw[←ku];refine(dv h).mp (bitsN_le.mp ?_);unfold gP;have:=xd (fG a+n-1) n;have:=Nat.mod_lt (fG a+n-1) (by(assumption):0<n);omega
theorem yP {a:Int} {n:Nat} (hn:1≤n) (h:0≤a):eF (2^n) (io a n)=a:=p9 (ga n) _ _ h (yO hn h)
theorem Km (a:Int) (n:Nat):∀x∈io a n,0≤x∧x<2^n:=sB (ga n) _ _
theorem qh (a:Int) (n:Nat):(io a n).length=gP a n:=ko _ _ _
theorem BS {ds:List Int} {n:Nat} (hn:1≤n) (h:∀x∈ds,0≤x∧x<2^n) (hl:∀x,ds.getLast?=some x→0<x):io (eF (2^n) ds) n=ds:=by
 have hb:=r5 (ga n) ds h;have hN:gP (eF (2^n) ds) n=ds.length:=by
  have h1:fG (eF (2^n) ds)≤n*ds.length:=by
   rw[bitsN_le,dv hb.1,ku];exact hb.2
  have h2:ds≠[]→n*(ds.length-1)<fG (eF (2^n) ds):=by
   intro hne;refine a8 fun q=>?_;have q':fG (eF (2^n) ds)≤n*(ds.length-1):=by(exact c5.mp q)
   rw[bitsN_le,dv hb.1,ku]at q';have key:∀(l:List Int),l≠[]→(∀x∈l,0≤x∧x<2^n)→(∀x,l.getLast?=some x→0<x)→((2:Int)^n)^(l.length-1)≤eF (2^n) l:=by
    intro l;induction l with
    |nil=>intro h;exact absurd rfl h
    |cons d r ih=>
     intro _ h hl;have hd:=h d (au ..);rw[fb];cases r with
     |nil=>
      have:=hl d rfl;show((2:Int)^n)^0≤0*2^n+d;rw[Int.pow_zero];exact(ly 0x72af445207042eba00e:) this
     |cons e r=>
      have:=ih (by simp) (fun x q=>h x (af _ q)) (fun x q=>hl x (by rw[List.getLast?_cons_cons];exact q));rw[show(d::e::r).length-1=((e::r).length-1)+1 by simp,oH];have:=bJ this (aO (ga n));exact(uE 0x39cabd0b5556ad5d28aa00e:) hd this
   have:=key ds hne h hl;exact(ly 31782397599016:) q' this
  unfold gP;by_cases hne:ds=[]
  ·subst hne
   have:fG (eF (2^n) [])=0:=by simpa using h1
   rw[this];exact Pl (by exact(fN 0x39610e82085c30042e7880e:) hn)
  ·have h3:=h2 hne
   have h4:0<ds.length:=Ib.mpr hne;have e1:n*ds.length=n*(ds.length-1)+n:=by rw[←Nat.mul_succ,Nat.succ_eq_add_one,l9 h4]
   rw[Nat.div_eq_iff (by exact(fN 0x396101d41042e:) hn)];rw[eW ds.length n];lia
 unfold io;rw[hN];exact wA (ga n) ds h
theorem rf (B:Int):∀(ds:List Int) (x y:Int),ds.foldl (fun v d=>v*B+d) (x+y)=ds.foldl (fun v d=>v*B+d) x+y*B^ds.length
 |[]=>@fun x y=>by simp
 |d::r=>@fun x y=>by
  rw[gG,gG,ay,show(x+y)*B+d=(x*B+d)+y*B by rw[d7];exact(ud 0x65e97a90f53d28:),rf B r,oH,ck,eh B]
theorem xA (B:Int) (ds:List Int):eF B ds.reverse=ds.foldl (fun v d=>v*B+d) 0:=by
 unfold eF;rw[List.foldr_reverse]
theorem wP {a n:Int} (h:sm a∧0≤n∧n≤10000):eS .LShift (.int a) (.int n)=some (.int (a*2^n.toNat)):=if_pos h
noncomputable def Jw:Str:=ofString "_int2digits"
noncomputable def Jx:Str:=ofString "_digits2int"
noncomputable def zy (as:List D) (d:D):Prop:=∃(a:Int) (n:Nat),0≤a∧sm a∧1≤n∧n≤8000∧as=[.int a,.int n]∧d=iL (io a n)
noncomputable def zz (as:List D) (d:D):Prop:=∃(ds:List Int) (n:Nat),(∀x∈ds,0≤x∧x<2^n)∧1≤n∧n*ds.length≤7900∧as=[iL ds,.int n]∧d=.int (eF (2^n) ds)
theorem Cb {as d d'} (h:zy as d) (h':zy as d'):d=d':=by
 (refine Ur h fun a n _ _ _ _ e q0=>?_;subst q0);(refine Ur h' fun a' n' _ _ _ _ e' q0=>?_;subst q0);rw[e]at e';injection e' with e1 e';injection e' with e2 e';injection e1 with e1;injection e2 with e2;rw[e1,j5.mp e2]
theorem Cd {as d d'} (h:zz as d) (h':zz as d'):d=d':=by
 (refine Ug h fun a n _ _ _ e q0=>?_;subst q0);(refine Ug h' fun a' n' _ _ _ e' q0=>?_;subst q0);rw[e]at e';injection e' with e1 e';injection e' with e2 e';injection e2 with e2;rw[mw e1,j5.mp e2]
theorem i2d_at:LocalIs Jw 70:=⟨by kernel_rfl,by kernel_rfl⟩
theorem d2i_at:LocalIs Jx 77:=⟨by kernel_rfl,by kernel_rfl⟩
noncomputable def Xd:Cx:=Cx.of [(Jw,zy),(Jx,zz),(Nh,KT)] []
theorem O8 {a:Int} {n:Nat} (h:0≤a) (h2:sm a) (h3:1≤n) (h4:n≤8000):Xd.call (ofString "_int2digits") [.int a,.int n]=some (iL (io a n)):=gM (x:=Jw) (fun _ _=>Cb) ⟨a,n,h,h2,h3,h4,rfl,rfl⟩
theorem Pa {ds:List Int} {n:Nat} (h:∀x∈ds,0≤x∧x<2^n) (h3:1≤n) (h4:n*ds.length≤7900):Xd.call (ofString "_digits2int") [iL ds,.int n]=some (.int (eF (2^n) ds)):=by
 unfold Xd;rw[ow (by decide+kernel)];exact gM (x:=Jx) (fun _ _=>Cd) ⟨ds,n,h,h3,h4,rfl,rfl⟩
theorem O9 {a b n:Int} (h:b≠0) (h2:sm b) (h3:(fG a:Int)-n≤4000):Xd.call (ofString "_div2n1n") [.int a,.int b,.int n]=some (.tup [.int (a.fdiv b),.int (a.fmod b)]):=by
 unfold Xd;rw[ow (by decide+kernel),ow (by decide+kernel)];exact gM (x:=Nh) (fun _ _=>KS) ⟨a,b,n,h,h2,h3,rfl,rfl⟩
noncomputable abbrev dS:NS:=(aF (a7 12)).names
noncomputable abbrev Rx:Stmt:=f9 (aG (a7 12)) 4
noncomputable abbrev dL (b n r:Int) (acc:List D):MM:=[(ofString "b",.dat (.int b)),(ofString "n",.dat (.int n)),(ofString "r",.dat (.int r)),(ofString "q_digits",.own acc)]
theorem Ji {b r d q m:Int} {n:Nat} {acc:List D} (s:eS .LShift (.int r) (.int n)=some (.int (r*2^n))) (hx:Xd.call (ofString "_div2n1n") [.int (r*2^n+d),.int b,.int n]=some (.tup [.int q,.int m])) (ha:acc.length≤1000000):
 lm 11 Xd dS ((fX Rx,.dat (.int d))::dL b n r acc) (uu Rx) (.next,dL b n m (acc++[.int q])):=fC (qb s (qg hx (qp ha .nil))) (by kernel_rfl)
theorem Qr (b:Int) (n:Nat) (hn:1≤n∧n≤3900) (hb:0<b∧b<2^n) (hbs:sm b):∀(ds:List Int) (r:Int) (acc:List Int),(∀x∈ds,0≤x∧x<2^n)→0≤r∧r<b→acc.length+ds.length≤100000→
 ∃qs r',(∀M,Has M (dL b n r (acc.map .int))→∃M',sw (c7 (ex 11 Xd dS) (uu Rx)) (fX Rx) (ds.map .int) M=some (.next,M')∧Has M' (dL b n r' ((acc++qs).map .int)))∧
  qs.length=ds.length∧(∀q∈qs,0≤q∧q<2^n)∧0≤r'∧r'<b∧ds.foldl (fun v d=>v*2^n+d) r=qs.foldl (fun v d=>v*2^n+d) 0*b+r':=by
 intro ds;induction ds with
 |nil=>
  intro r acc _ hr _;exact⟨[],r,fun M H=>⟨M,rfl,by rw[bH];exact H⟩,rfl,fun _ q=>(nomatch q),hr.1,hr.2,by rw[PJ,PJ,fL,br]⟩
 |cons d ds ih=>
  intro r acc hd hr hl;have hd0:=hd d (au ..);rw[ay]at hl;have hB:=ga n;have hrB:(r+1)*2^n≤b*2^n:=bJ (by(exact hr.2)) (by(exact aY _));rw[d7]at hrB;have hrn:=cb hr.1 (aO hB);have s:eS .LShift (.int r) (.int n)=some (.int (r*2^n)):=by
   rw[wP ⟨by unfold sm at hbs⊢;lia,aY _,by exact(fN 0x3954e2037485aa0f3c1b8541042e:) hn⟩,bY]
  have st:=Ji (b:=b) (d:=d) (q:=(r*2^n+d)/b) (m:=(r*2^n+d)%b) (acc:=acc.map .int) s;generalize ht:r*2^n+d=t at st;have ht0:0≤t:=by exact(uE 0xe7395581d95bd0aaa80ed5d28aa00e:) hd0 hrn ht
  have htb:t<b*2^n:=by exact(SH 0xe73975b32c7a1555be29085cad5d28aa00e:) hd0 hrB ht
  have hfd:t.fdiv b=t/b:=hV hb.1;have hfm:t.fmod b=t%b:=ib t (by(exact aO hb.1));have hq0:0≤t/b:=ek ht0 (by(exact aO hb.1));have hq1:t/b<2^n:=jL hb.1 (by rw[eh];exact htb);have hr0:0≤t%b:=i8 _ (by(exact db hb.1));have hr1:t%b<b:=gF _ hb.1;have hdm:=gS t b;have hbits:(fG t:Int)-(n:Int)≤4000:=by
   have:fG t≤n+n:=by
    rw[bitsN_le,dv ht0,kv];have:=Int.mul_lt_mul_of_pos_right hb.2 hB;(exact iz htb this)
   exact(dA 0x73951f4037424290e8f1087aa0f3c1b8541042e:) hn this
  have hx:=O9 (a:=t) (b:=b) (n:=n) (by(exact db hb.1)) hbs hbits;rw[hfd,hfm]at hx;refine Ur (ih (t%b) (acc++[t/b]) (fun x q=>hd x (af _ q)) ⟨hr0,hr1⟩ (by rw[ai,bv];exact(dA 0x1ca0c35011cf1bc2170a830d40473de10b862:) hl)) fun qs r' e0 e5 e6 e7 e8 e9=>?_;refine⟨t/b::qs,r',fun M H=>?_,by rw[ay,ay,e5],fun q hq=>?_,e7,e8,?_⟩
  ·refine Ua (st hx (by rw[ag];exact(dA 0x729e8480470a830d40473de10b862:) hl) _ H.set) fun M1 a1 k1=>?_
   rw[show acc.map D.int++[.int (t/b)]=(acc++[t/b]).map .int by rw[bz];rfl]at k1;refine Ua (e0 M1 k1) fun M' a2 k2=>?_;rw[aC]at k2;exact⟨M',(hU a1).trans a2,k2⟩
  ·rcases aD.mp hq with rfl|hq
   ·exact⟨hq0,hq1⟩
   ·exact e6 q hq
  ·rw[gG,ht,gG,fL,br]
   have a1:=rf (2^n) ds (t%b) (b*(t/b));have a2:=rf (2^n) qs 0 (t/b);rw[br]at a2;rw[show t%b+b*(t/b)=t by exact(ud 0x732a7a13953d28:) hdm]at a1;rw[a1,a2,e9,e5,d7,eh b (t/b),Int.mul_right_comm (t/b) b];exact(ud 0x65e97a90f53d28:)
theorem Aa {a:Int} {m:Nat} (h:0≤a) (h2:a<2^m) (hm:m≤8000):sm a:=by
 unfold sm TU;exact aP ((dv h).mpr h2) (cM (by decide) hm)
theorem Jh (a b:Int) (ha:0≤a∧a<2^3800) (hb:0<b∧b<2^3800):∃M',c7 (ex 12 Xd (aF (a7 12)).names) (aG (a7 12)) (bU (ej (a7 12)) [.int a,.int b])=some (.ret (.tup [.int (a/b),.int (a%b)]),M'):=by
 have hn0:fG b≤3800:=by rw[bitsN_le,dv (by(exact aO hb.1))];exact hb.2
 have hn1:1≤fG b:=by
  refine a8 fun q=>?_;have:fG b≤0:=by(exact c5.mp q)
  rw[bitsN_le,Nat.pow_zero]at this;exact(ly 0x1ce7ec10b85aba517401c2001c8:) hb this
 have hbn:b<2^fG b:=(dv (by(exact aO hb.1))).mp (bitsN_le.mp (ba _));have hab:fG a≤3800:=by rw[bitsN_le,dv (by(exact ha.1))];exact ha.2
 generalize hn:fG b=n at hn0 hn1 hbn;have hsa:sm a:=Aa ha.1 ha.2 (by(decide));have hsb:sm b:=Aa (by exact(ly 0x1caa00ed5d28ba00e:) hb) hb.2 (by(decide));have hx:=O8 ha.1 hsa hn1 (by(exact ae hn0 (by decide)));have hlen:n*gP a n≤7700:=by
  unfold gP;have:=rr (fG a+n-1) n;rw[eW]at this;exact(iq 0x739ca1e141b89429283b606e1d076c0dc21802173c62:) hab hn0 this
 have hlen2:gP a n≤7700:=ae (oF _ hn1) hlen;refine Ur (Qr b n ⟨hn1,by(exact ae hn0 (by decide))⟩ ⟨hb.1,hbn⟩ hsb (io a n).reverse 0 [] (fun x q=>Km a n x (mY.mp q)) ⟨dj _,hb.1⟩ (by rw[iJ,qh,bf,dR];(exact ae hlen2 (by decide)))) fun qs r' e0 e5 e6 e7 e8 e9=>?_;rw[bX,uv]at e0;rw[iJ,qh]at e5;have hval:a=eF (2^n) qs.reverse*b+r':=by
  rw[xA,←e9];have:=xA (2^n) (io a n).reverse;rw[List.reverse_reverse,yP hn1 ha.1]at this;exact this
 have hdiv:a/b=eF (2^n) qs.reverse∧a%b=r':=by
  generalize eF (2^n) qs.reverse=V at hval;rw[hval];constructor
  ·rw[iA,DT _ _ (by(exact db hb.1)),DS e7 e8,br]
  ·rw[iA,xr,ut e7 e8]
 have hy:=Pa (ds:=qs.reverse) (n:=n) (fun x q=>e6 x (mY.mp q)) hn1 (by rw[iJ,e5];(exact ae hlen (by decide)));rw[hdiv.1,hdiv.2];have hl6:((io a n).map D.int).length≤1000000:=by rw[ag,qh];exact ae hlen2 (by decide)
 have hlp:jx 12 Xd dS ((ofString "a_digits",.dat (iL (io a n)))::dL b n 0 []) Rx (.next,dL b n r' (qs.map .int)):=GP (ds:=((io a n).map D.int).reverse) (by kernel_rfl) (fQ (qp hl6 .nil) (by kernel_rfl)) fun M H=>e0 M (H.cut (by kernel_rfl));have hq6:(qs.map D.int).length≤1000000:=by rw[ag,e5];exact ae hlen2 (by decide)
 rw[show iL qs.reverse=.list (qs.map D.int).reverse by unfold iL;rw[uv]]at hy;subst hn;exact i9 (qt (vX (a:=b)) (qg hx (qx hlp (qp hq6 (qg hy .nil))))) (by kernel_rfl)
noncomputable def Ng:Str:=ofString "_divmod_pos"
noncomputable def Jv:Str:=ofString "int_divmod"
theorem pos_at:LocalIs Ng 84:=⟨by kernel_rfl,by kernel_rfl⟩
theorem idm_at:LocalIs Jv 91:=⟨by kernel_rfl,by kernel_rfl⟩
noncomputable def HV (as:List D) (d:D):Prop:=∃a b:Int,(0≤a∧a<2^3800)∧(0<b∧b<2^3800)∧as=[.int a,.int b]∧d=.tup [.int (a/b),.int (a%b)]
noncomputable def zx (P:Int→Int→Prop) (as:List D) (d:D):Prop:=∃a b:Int,P a b∧as=[.int a,.int b]∧d=.tup [.int (a.fdiv b),.int (a.fmod b)]
theorem KR {as d d'} (h:HV as d) (h':HV as d'):d=d':=by
 (refine Ue h fun a b _ _ e q0=>?_;subst q0);(refine Ue h' fun a' b' _ _ e' q0=>?_;subst q0);rw[e]at e';injection e' with e1 e';injection e' with e2 e';injection e1 with e1;injection e2 with e2;rw[e1,e2]
theorem Ca {P as d d'} (h:zx P as d) (h':zx P as d'):d=d':=by
 (refine Uc h fun a b _ e q0=>?_;subst q0);(refine Uc h' fun a' b' _ e' q0=>?_;subst q0);rw[e]at e';injection e' with e1 e';injection e' with e2 e';injection e1 with e1;injection e2 with e2;rw[e1,e2]
theorem Fd {C:aU} {k:Nat} (h1:cg C (k+1) 70 zy) (h2:cg C (k+1) 77 zz):cg C (k+2) 84 HV:=by
 rintro as d ⟨a,b,ha,hb,rfl,rfl⟩;obtain⟨M',e⟩:=Jh a b ha hb;exact c9 Rj (.calls (cK (i2d_at.at h1) (cK (d2i_at.at h2) (cK (div_at.at G8) lh)))) rfl e
noncomputable def Xm (P:Int→Int→Prop):Cx:=Cx.of [(Ng,HV),(Jv,zx P)] []
theorem O7 {P:Int→Int→Prop} {a b:Int} (ha:0≤a∧a<2^3800) (hb:0<b∧b<2^3800):(Xm P).call (ofString "_divmod_pos") [.int a,.int b]=some (.tup [.int (a/b),.int (a%b)]):=gM (x:=Ng) (fun _ _=>KR) ⟨a,b,ha,hb,rfl,rfl⟩
theorem HL {P:Int→Int→Prop} {a b:Int} (h:P a b):(Xm P).call (ofString "int_divmod") [.int a,.int b]=some (.tup [.int (a.fdiv b),.int (a.fmod b)]):=by
 unfold Xm;rw[ow (by decide+kernel)];exact gM (x:=Jv) (fun _ _=>Ca) ⟨a,b,h,rfl,rfl⟩
theorem wq (P:Int→Int→Prop) (a b:Int) (hb0:b≠0) (h1:b<0→P (-a) (-b)) (h2:0<b→a<0→P (-a-1) b) (h3:0<b→0≤a→a<2^3800∧b<2^3800):
 ∃M',c7 (ex 12 (Xm P) (aF (a7 13)).names) (aG (a7 13)) (bU (ej (a7 13)) [.int a,.int b])=some (.ret (.tup [.int (a.fdiv b),.int (a.fmod b)]),M'):=by
 have hbeq:(b==0)=false:=beq_eq_false_iff_ne.mpr hb0;by_cases hb:b<0
 ·have hx:=HL (h1 hb)
  obtain⟨e1,e2⟩:(-a).fdiv (-b)=a.fdiv b∧(-a).fmod (-b)=-(a.fmod b):=by
   refine Ud ((Int.fdiv_fmod_unique' hb (a:=a) (q:=a.fdiv b) (r:=a.fmod b)).mp ⟨rfl,rfl⟩) fun u1 u2 u3=>?_;refine(qG (by exact(iG 0x3979a00eb81c8:) hb:0< -b)).mpr ⟨?_,by exact(iG 0x3959a00ea81c8:) u3,by exact(ly 31597289332008:) u2⟩;rw[mL];exact(ud 0x3999a9f34cd1953d28:) u1
  rw[e1,e2]at hx;rw[←Ii (a.fmod b)];exact i9 (qw hbeq (qw (decide_eq_true hb) (qg hx .nil))) (by kernel_rfl)
 have hbp:0<b:=by exact(iG 0xe72e803bd70391ec81c8:) hb0 hb
 by_cases ha:a<0
 ·have hx:=HL (h2 hbp ha)
  obtain⟨e1,e2⟩:a.fdiv b=-((-a-1).fdiv b)-1∧a.fmod b=b+(-((-a-1).fmod b)-1):=by
   refine Ud ((qG hbp (a:=-a-1) (q:=(-a-1).fdiv b) (r:=(-a-1).fmod b)).mp ⟨rfl,rfl⟩) fun u1 u2 u3=>?_;refine(qG hbp).mpr ⟨?_,by exact(ly 0x72af8042e9a12075d28:) u3,by exact(ly 0x72e97c02174d09aa00e:) u2⟩;rw[Int.mul_sub,Int.mul_neg,Ij];exact(uE 0x39953e0b9a5f0085d342f30085d353d28:) u1
  rw[e1,e2];exact i9 (qw hbeq (qw (decide_eq_false hb) (qw (decide_eq_true ha) (qg hx .nil)))) (by kernel_rfl)
 ·obtain⟨p1,p2⟩:=h3 hbp (by(exact gC.mp ha))
  have hx:=O7 (P:=P) ⟨by exact(iG 0x395401deb81c8:) ha,p1⟩ ⟨hbp,p2⟩;rw[hV hbp,ib a (by(exact gC.mp hb))];exact i9 (qw hbeq (qw (decide_eq_false hb) (qw (decide_eq_false ha) (qg hx .nil)))) (by kernel_rfl)
noncomputable def P0 (a b:Int):Prop:=(0≤a∧a<2^3800)∧(0<b∧b<2^3800)
noncomputable def P1 (a b:Int):Prop:=(-2^3800<a∧a<2^3800)∧(0<b∧b<2^3800)
noncomputable def P2 (a b:Int):Prop:=(-2^3800<a∧a<2^3800)∧b≠0∧(-2^3800<b∧b<2^3800)
theorem Gp {C:aU} {k:Nat} (h1:cg C (k+1) 70 zy) (h2:cg C (k+1) 77 zz):cg C (k+5) 91 (zx P2):=by
 have hp:=Fd h1 h2;have le:∀{m:Nat},k+2≤m→cg C m 84 HV:=fun h as d r=>(hp as d r).le h;have c0:cg C (k+3) 91 (zx P0):=by
  rintro as d ⟨a,b,⟨ha,hb⟩,rfl,rfl⟩;obtain⟨M',e⟩:=wq (fun _ _=>False) a b (by(exact db hb.1)) (fun h=>by exact(ly 0x739fb81c8d5d28ba00e:) hb h) (fun h=>by(exact gC.mpr ha.1)) fun _ _=>⟨ha.2,hb.2⟩;exact c9 GR (.calls (cK (pos_at.at (le (by(exact ba _)))) (cK (idm_at.at (by rintro as d ⟨_,_,h,_⟩;exact h.elim)) lh))) rfl e
 have c1:cg C (k+4) 91 (zx P1):=by
  rintro as d ⟨a,b,⟨ha,hb⟩,rfl,rfl⟩;obtain⟨M',e⟩:=wq P0 a b (by(exact db hb.1)) (fun h=>by omega) (fun h h'=>⟨⟨by exact(iG 0x3958042e9a00eb81c8:) h',by exact(ly 0x1cba2010ba69d5d09ba668:) ha⟩,hb⟩) fun _ _=>⟨ha.2,hb.2⟩;exact c9 GR (.calls (cK (pos_at.at (le (by exact(fN 0x51e30b84f105c2:)))) (cK (idm_at.at c0) lh))) rfl e
 rintro as d ⟨a,b,⟨ha,hb0,hb⟩,rfl,rfl⟩;obtain⟨M',e⟩:=wq P1 a b hb0 (fun h=>⟨⟨by exact(ly 0x3979a668d5d09ba668:) ha,by exact(ly 0x1cba269d5d09ba668:) ha⟩,by exact(iG 0x3979a00eb81c8:) h,by exact(ly 0x1cba269d5d09ba668:) hb⟩) (fun h h'=>⟨⟨by exact(ly 0x73978042e9a668b81c9d5d09ba668:) ha h',by exact(ly 0x1cba2010ba69d5d09ba668:) ha⟩,h,hb.2⟩) fun _ _=>⟨ha.2,hb.2⟩;exact c9 GR (.calls (cK (pos_at.at (le (by exact(fN 0x51e40b84f105c2:)))) (cK (idm_at.at c1) lh))) rfl e
section
variable {C:aU} {A:Around} {s:Shared} {P:Addr→Prop} {k:Nat}
theorem nE {f:Addr} {body:List Stmt} {scope:Scope} {names:List Str} (O:Pw f body scope names) {ds:List D} {vs:List Value} {R:Result→Shared→Prop} (hA:RA A (k+1)) (S:St C s) (lv:Live P s.heap) (t:¬P 65∧¬P 72) (hr:Reps P s.heap ds vs) (hlen:ds.length=names.length)
 (hrun:∀env bV tk m μ,env=callEnvC (dy (Kf C) f) s.heap.objs.size f→env.scope=scope→env.func.isSome=true→FI P μ bV env m (bU names ds)→St C {s with heap:=bV,toks:=tk}→(∀b o,s.heap.get? b=some o→bV.get? b=some o)→(∀a∈μ,s.heap.get? a=none)→(∀a∈μ,C.G.get? a=none)→RA (A.deeper env) k→
  wpAny (MD C) (A.deeper env) (execs body env) (fun fl s'=>R (.ok (.ret (match fl with|.ret v=>v|_=>.none))) s') bL {s with heap:=bV,toks:=tk}):codeAny (MD C) A (.call (.ref f) ⟨vs,[]⟩) R s:=by
 have hlv:vs.length=names.length:=hr.length.trans hlen;refine Ua (ww (O.fn C.F)) fun o ho hdat=>?_;have nM:=C.X.keeps S.g;have hsc:=O.scope C.F;refine RE (fd:=dy (Kf C) f) (body:=body) (binds:=names.zip vs) hA.room (nM _ _ ho) hdat (C.nolimit.keeps S.g) (RD nM (O.code C.F)) (O.body C.F) (O.bind C.F _ hlv) (O.clo C.F) ?_ ?_ (by rw[hsc];exact O.plain.1) (by rw[hsc];exact O.plain.2.1) (by rw[hsc];exact O.plain.2.2)
 ·intro x hx
  have hm:x.1∈names:=(oG hx).1;have:=O.kinds _ hm;rw[hsc];rcases cU.mp this with e|e
  ·exact .inl (bt e)
  ·exact .inr ⟨bt e,rW _ _ _ (.inl (bt e))⟩
 ·intro az x
  have hk:=x.toInCall.keep;(refine Us x.toInCall.same fun bV tk q0=>?_;subst q0);generalize hE:callEnvC (dy (Kf C) f) s.heap.objs.size f=env at x⊢;have esc:env.scope=scope:=by rw[←hE];exact hsc
  have eloc:env.locals=s.heap.objs.size:=by rw[←hE];rfl
  have ecel:env.cells=cellsFrom (s.heap.objs.size+1) scope.names []:=by rw[←hE,←hsc];rfl
  have egl:env.globals=mainGlobals:=by rw[←hE];exact O.glob C.F
  have ebi:env.builtins=builtinsNs:=by rw[←hE];exact O.bi C.F
  have efn:env.func.isSome=true:=by rw[←hE];rfl
  have fresh:∀a,s.heap.objs.size≤a→s.heap.get? a=none:=fun a q=>by
   cases e:s.heap.get? a with
   |none=>rfl
   |some o=>exact absurd (aQ e) (c5.mpr q)
  have hcl:∀y c,env.cells.lookup y=some c→s.heap.objs.size<c:=fun y c e=>by rw[←eloc];exact x.above y c (bk e)
  have bu:St C {s with heap:=bV,toks:=tk}:=S.grow hk;have bN:Keep s.heap bV:=.of hk;let μ:List Addr:=s.heap.objs.size::env.cells.map (·.2);have μf:∀a∈μ,s.heap.get? a=none:=fun a q=>by
   rcases aD.mp q with rfl|q
   ·exact eu _
   ·obtain⟨⟨y,c⟩,hm,rfl⟩:=bc.mp q
    exact fresh _ (a5 (by rw[←eloc];exact x.above y c hm))
  have μG:∀a∈μ,C.G.get? a=none:=fun a q=>by
   cases z:C.G.get? a with
   |none=>rfl
   |some o=>have e:=μf a q;rw[S.g a o z]at e;cases e
  have cellOf:∀y,env.kindOf y=some .cell→∃c,env.cells.lookup y=some c:=fun y e=>by
   have:scope.names.lookup y=some .cell:=by rw[←esc];exact e
   exact ew.mp (by rw[ecel];exact rW _ _ _ (.inl this))
  have nofree:∀y,env.kindOf y≠some .free:=fun y e=>O.nofree (y,.free) (bk (by rw[←esc];exact e)) rfl;have pq:∀a o,P a→s.heap.get? a=some o→bV.get? a=some o∧Pm P μ a:=fun a o p e=>⟨hk a o e,p,fun q=>by rw[μf a q]at e;cases e⟩;have F:FI P μ bV env (bindL env.kindOf (names.zip vs) fun _=>none) (bU names ds):=by
   refine⟨lv.keep bN,fun a q=>?_,t,by rw[esc];exact O.plain.2.2,egl,ebi,x.toInCall.ns,by rw[eloc];exact au ..,fun y e q r=>?_,fun y r=>?_,fun y c _ _ q=>?_,fun y z c q1 q2=>?_,fun y e q r=>?_,fun y z l l' v q=>?_⟩
   ·refine⟨fun z=>S.live65 (z▸μf a q),fun z=>S.live72 (z▸μf a q),?_⟩
    rcases aD.mp q with rfl|q
    ·refine Uk x.toInCall.ns fun o _ _ e _=>?_
     rw[eloc]at e;exact⟨o,e⟩
    ·obtain⟨⟨y,c⟩,hm,rfl⟩:=bc.mp q
     have hnd:(env.cells.map (·.1)).Nodup:=by rw[ecel,UQ scope.names _ 0 [] [] rfl];exact O.cellsNd
     refine Ua (x.cell y c (PD hnd hm)) fun o e _=>?_;exact⟨o,e⟩
   ·(refine Ue (kr (kd:=env.kindOf) (m0:=fun _=>none) (m1:=fun _=>none) O.nodup hr q) fun d v q0 hv h1 _=>?_;subst q0)
    exact⟨v,h1 r,Rep.mono pq hv⟩
   ·rcases r with r|r
    ·obtain⟨c,e⟩:=cellOf y r
     have:=hcl y c e;exact⟨c,_,e,fun z=>S.live65 (z▸fresh c (a5 this)),fun z=>S.live72 (z▸fresh c (a5 this)),x.cell y c e⟩
    ·exact absurd r (nofree y)
   ·exact af _ (bc.mpr ⟨_,bk q,rfl⟩)
   ·exact name_of_addr x.apart (bk q1) (bk q2)
   ·rcases r with r|r
    ·obtain⟨c,e'⟩:=cellOf y r
     (refine Ue (kr (kd:=env.kindOf) (m0:=fun _=>none) (m1:=fun _=>none) O.nodup hr q) fun d v q0 hv _ h2=>?_;subst q0);have hc:=x.cell y c e';rw[h2 (by rw[r];simp)]at hc;exact⟨c,v,d,e',hc,rfl,Rep.mono pq hv⟩
    ·exact absurd r (nofree y)
   ·refine Uf (kr (kd:=env.kindOf) (m0:=fun _=>none) (m1:=fun _=>none) O.nodup hr q) fun d v e _=>?_
    cases e
  exact aa (hrun env bV tk _ μ hE.symm esc efn F bu hk μf μG hA.deeper) (fun fl aV q=>q) fun _ _ z=>z.elim
theorem oZ {X:Cx} (cx:CxOK C X k) {env:Env} (hA:RA A k) (hf:env.func.isSome=true) (n:Nat) {rest:List Stmt} {Q:Flow→Shared→Prop} {ah:Addr→Prop}:∀(ss:List Stmt) (M M':MM) (m:Str→Option Value) (μ:List Addr) (s:Shared),c7 (ex n X env.scope.names) ss M=some (.next,M')→(∀a∈μ,C.G.get? a=none)→FI ah μ s.heap env m M→St C s→
 (∀s',XS C ah μ env s M' s'→wpAny (MD C) A (execs rest env) Q bL s')→wpAny (MD C) A (execs (ss++rest) env) Q bL s
 |[]=>@fun M M' m μ s h fr F S hq=>by
  cases h;exact hq s (.refl F S fr)
 |st::ss=>@fun M M' m μ s h fr F S hq=>by
  refine bn ?_;refine pJ h fun fK e1 h=>?_;refine aa (lT cx n hA hf st _ _ _ _ _ _ e1 fr F S) (fun w az q=>?_) fun _ _ x=>x;obtain⟨x,y⟩:=q;cases w<;>first|exact y.elim|skip
  refine Uc x.ex fun pW dT dG h1 h2=>?_;exact oZ cx hA hf n ss fK M' pW dT az h h2 dG x.S fun s' x'=>hq s' (x'.trans x.S h1 x.k)
theorem FI.out {ah:Addr→Prop} {μ:List Addr} {h h':Heap} {env:Env} {m:Str→Option Value} {M:MM} {a:Addr} (F:FI ah μ h env m M) (ha:¬ah a) (haμ:a∉μ) (hc:∀v,¬h.IsCell a v) (hk:∀b o,b≠a→h.get? b=some o→h'.get? b=some o) (hl:∃o,h'.get? a=some o):FI ah μ h' env m M:=by
 have pq:∀b o,Pm ah μ b→h.get? b=some o→h'.get? b=some o∧Pm ah μ b:=fun b o p e=>⟨hk b o (fun q=>ha (q▸p.1)) e,p⟩;have nμ:∀b∈μ,b≠a:=fun b q z=>haμ (z▸q);refine⟨fun b n=>?_,fun b q=>?_,F.tab,F.kind,F.glob,F.bi,?_,F.nL,fun x e q r=>?_,fun x r=>?_,F.st,F.inj,fun x e q r=>?_,F.ownInj⟩
 ·rcases F.live b n with e|e|⟨o,e⟩
  ·exact .inl e
  ·exact .inr (.inl e)
  ·by_cases hb:b=a
   ·rw[hb];exact .inr (.inr hl)
   ·exact .inr (.inr ⟨o,hk b o hb e⟩)
 ·refine Uh (F.liveμ b q) fun n1 n2 o e=>?_
  exact⟨n1,n2,o,hk b o (nμ b q) e⟩
 ·refine Uk F.ns fun o es ep e z=>?_
  exact⟨o,es,ep,hk _ _ (nμ _ F.nL) e,z⟩
 ·refine Ua (F.loc x e q r) fun v e1 e2=>?_
  refine⟨v,e1,?_⟩;cases e with
  |dat d=>exact Rep.mono pq e2
  |own l=>
   (refine Ug e2 fun b vs q0 p0 hb hl hr=>?_;subst q0);exact⟨b,vs,rfl,p0,hb,hl.at fun o e=>hk _ o (nμ b hb) e,Reps.mono pq hr⟩
 ·refine Ue (F.cell x r) fun c v e1 n1 n2 e2=>?_
  have hne:c≠a:=fun z=>hc v (z▸e2);refine Ua e2 fun o e3 e4=>?_;exact⟨c,v,e1,n1,n2,o,hk c o hne e3,e4⟩
 ·refine Ui (F.cval x e q r) fun c v d e1 e2 e3 e4=>?_
  have hne:c≠a:=fun z=>hc _ (z▸e2);refine Ua e2 fun o e5 e6=>?_;exact⟨c,v,d,e1,⟨o,hk c o hne e5,e6⟩,e3,Rep.mono pq e4⟩
end
theorem Oe:jo 108 (gI 1):=dq (ax (i:=22) (by kernel_rfl)) (fun _ _ _ _ _ _ _ _ _ _ _ _ vs h=>by(refine Uf (mR h) fun a v1 q0 h1=>?_;subst q0);obtain⟨b,rfl⟩:=ji h1;kernel_rfl) (by kernel_rfl) (by kernel_rfl) (by kernel_rfl) ⟨by kernel_rfl,by kernel_rfl,by kernel_rfl⟩ (by kernel_rfl)
theorem xY {name:Str} {hsh:Int} {key v:Value}:∀{es:List DictEntry},(∀e∈es,e.key.isStr name=false)→putL name hsh key v es=es++[⟨hsh,key,v⟩]
 |[]=>@fun _=>rfl
 |e::es=>@fun h=>by
  show(if e.key.isStr name then _ else e::putL name hsh key v es)=_;rw[h e (au ..),if_neg (by decide),xY fun x q=>h x (af _ q)];rfl
noncomputable def rt (es:List DictEntry):Prop:=∀(i:Nat) (e:DictEntry),es[i]?=some e→∃t,e.key=.str (fieldNames.getD i bC) t
theorem tj {es:List DictEntry} {vs:List Value} (h1:es.map (fun e=>e.val)=vs):es.map (fun e=>e.key)=vs.mapIdx (fun i _=>KP (fieldNames.getD i bC) ((es.map fun e=>match e.key with|.str _ t=>t|_=>0).getD i 0))↔rt es:=by
 subst h1;constructor
 ·intro h2 i e he
  have:=congrArg (·[i]?) h2;simp only[aJ,j4,he,jX]at this;exact⟨_,dB this⟩
 ·intro h
  apply K3;intro i;simp only[aJ,j4];cases e:es[i]? with
  |none=>rfl
  |some en=>
   obtain⟨t,ht⟩:=h i en e;simp only[jX];rw[ht,ac (l:=es.map _),aJ,e];simp[ht]
theorem Do:∀i j:Nat,i<5→j<5→i≠j→(fieldNames.getD i bC==fieldNames.getD j bC)=false:=fun i j hi hj h=>
 (by decide+kernel:∀a b:Fin 5,a≠b→(fieldNames.getD a.1 bC==fieldNames.getD b.1 bC)=false) ⟨i,hi⟩ ⟨j,hj⟩ fun q=>h (Fin.mk.inj q)
theorem AC {es:List DictEntry} (h:rt es) (hl:es.length<5):∀e∈es,e.key.isStr (fieldNames.getD es.length bC)=false∧e.refKey=false:=fun e he=>by
 obtain⟨i,hi⟩:=pn he;obtain⟨t,ht⟩:=h i e hi;have hlt:i<es.length:=(zF.mp hi).1;unfold DY;rw[ht];exact⟨Do i es.length (by(exact ix hlt hl)) hl (by(exact aM hlt)),rfl⟩
theorem C5 {es:List DictEntry} (h:rt es) {hsh:Int} {t:Tok} {v:Value}:rt (es++[⟨hsh,.str (fieldNames.getD es.length bC) t,v⟩]):=fun i e he=>by
 by_cases hi:i<es.length
 ·rw[mh hi]at he;exact h i e he
 ·rw[g6 (by(exact c5.mp hi))]at he
  by_cases h0:i-es.length=0
  ·rw[h0]at he;cases he
   rw[show i=es.length by exact(dA 0x1ce6062c01c4f586218062:) hi h0];exact⟨t,rfl⟩
  ·obtain⟨j,hj⟩:∃j,i-es.length=j+1:=⟨i-es.length-1,by lia⟩
   rw[hj]at he;cases he
theorem z4 (C:aU):∀(i:Nat),i<5→takerIn (Kf C) g7 (fieldNames.getD i bC)=some none:=fun i hi=>C.F.tk (by
 rcases(by lia:i=0∨i=1∨i=2∨i=3∨i=4)with rfl|rfl|rfl|rfl|rfl<;>kernel_rfl)
theorem xQ (C:aU):findIn (Kf C) (.ref g7) "__setattr__"=some (some (.builtin "object.__setattr__")):=C.F.fi (by kernel_rfl)
theorem Ap (C:aU):plainOver (Kf C) g7=true:=C.F.bit 3 rfl
theorem GE (C:aU):(clsIn (Kf C) g7).any (·.hasDict)=true:=C.F.bit 4 rfl
section
variable {C:aU} {A:Around} {s:Shared} {x dx:Addr} {es:List DictEntry} {n:Nat} {v:Value}
theorem CK {Q:Unit→Shared→Prop} (S:St C s) (hx:s.heap.get? x=some (instObj g7 dx)) (hd:s.heap.get? dx=some (ir es n)) (hk:rt es) (hl:es.length<5)
 (hq:∀h' hsh t n' tk,(∀b,b≠dx→h'.get? b=s.heap.get? b)→h'.get? dx=some (ir (es++[⟨hsh,.str (fieldNames.getD es.length bC) t,v⟩]) n')→Q () {s with heap:=h',toks:=tk}):
 wpAny (MD C) A (setAttr (.ref x) (fieldNames.getD es.length bC) v) Q bL s:=by
 have nM:(Kf C).In s.heap:=C.X.keeps S.g;have I:KV s.heap x (instObj g7 dx) g7 (some (ir es n)):=⟨hx,rfl,rfl,hd⟩;generalize hnm:fieldNames.getD es.length bC=name at hq⊢;have hko:=AC hk hl;rw[hnm]at hko;obtain⟨hp,gs,dr,tk0,os0⟩:=s;dsimp only at nM I hx hd hq⊢;refine set_plain nM I (xQ _) ?_;refine osa_open nM I (Ap _) (r:=none) (by rw[←hnm];exact z4 _ _ hl) fun b=>?_;refine Ua (any_some (GE C)) fun cd hc hd'=>?_;dsimp only;refine aq (aI (aq (aq (U0 hx (aq ((looks_clsIn nM hc).here ?_))))));rw[hd'];refine aI (a:=some dx) (aq (aI (aq ?_)));unfold nsSet;refine aq (aq (SM (aI (aq (wpAny_mkText (aq (U0 hd ?_)))))));dsimp only;have c:(!es.toArray.any (·.key.isStr name)&&es.toArray.any (·.refKey))=false:=by
  rw[Mi,Mi,show es.any (·.refKey)=false from K4.mpr fun e he=>by rw[(hko e he).2];decide,PQ]
 rw[aRefKeyMayBeTheName_at,c];refine wpAny_updatePart hd ?_;have hput:∀hsh t,Obj.putName name hsh (.str name t) v (ir es n)=ir (es++[⟨hsh,.str name t,v⟩]) (putN name es n):=fun hsh t=>by
  rw[putName_dict,xY fun e he=>(hko e he).1]
 have D':=DU (Obj.putName name (kP C.w.params name) (.str name (tk0+1)) v) hd (by rw[hput];rfl);rw[hput]at D';refine aq (wpAny_lookBehind D' (pastItsLine_dict (by rw[List.size_toArray,ai,bv,sizeLine_eq];(exact aP hl (by decide)))) ?_);exact aI (hq _ _ _ _ _ (fun b hb=>Heap.get?_update_other _ _ (cC hb)) D')
end
noncomputable def nJ (cs:List Int) (b:Nat):List Int:=(if b≥cs.length then cs++aA (b-cs.length+1) 0 else cs).set b ((if b≥cs.length then cs++aA (b-cs.length+1) 0 else cs).getD b 0+1)
structure Cnt where
 n:Nat
 nt:Nat
 b:Nat
 cs:List Int
noncomputable def df:List Nat→Cnt→Cnt
 |[],q=>q
 |c::r,q=>if c=32 then df r ⟨q.n+1,q.nt,q.b+1,q.cs⟩else if c=9 then df r ⟨q.n+1,q.nt+1,0,nJ q.cs q.b⟩else q
noncomputable def oU (raw:List Nat):WS:=⟨raw,(df raw ⟨0,0,0,[]⟩).n,(df raw ⟨0,0,0,[]⟩).nt,(df raw ⟨0,0,0,[]⟩).cs,(df raw ⟨0,0,0,[]⟩).b⟩
section
variable {n:Nat} {X:Cx} {sc:NS} {M M':MM}
theorem JX {b:MM→Option (Fl×MM)} {x:Str} {d:D} {r:List D} (h:b (M.set x (.dat d))=some (.brk,M')):sw b x (d::r) M=some (.next,M'):=by
 show(match b (M.set x (.dat d))with
  |some (.next,M')=>sw b x r M'
  |some (.brk,M')=>some (.next,M')
  |some (.ret v,M')=>some (.ret v,M')
  |none=>none)=_;rw[h]
end
noncomputable abbrev iS:NS:=(aF (gI 1)).names
noncomputable def MC (l:List Nat):List D:=l.map fun c=>.str ⟨#[c]⟩
theorem t9 {a:D} {n:Int} (h:0≤n∧n≤1000000):eS .Mult (.list [a]) (.int n)=some (.list (aA n.toNat a)):=by
 show(if[a].length≤1∧0≤n∧n≤1000000 then some (D.list (aA n.toNat [a]).flatten)else none)=_;rw[if_pos ⟨by simp,h⟩];congr 2;simp
theorem wz {a b:Nat}:ia .Eq (.str ⟨#[a]⟩) (.str (S [b]))=some (decide (a=b)):=by
 show ia .Eq (.str (S [a])) (.str (S [b]))=_;rw[my];exact congrArg some (decide_eq_decide.mpr ⟨fun e=>by injection e,fun e=>by rw[e]⟩)
theorem y8 {cs:List Int} {b:Nat}:(nJ cs b).length≤max cs.length (b+1):=by
 unfold nJ;rw[List.length_set];split
 ·rw[ai,a9];lia
 ·exact(dA 0x5082201e10b862:)
noncomputable abbrev iE (me:D) (q:Cnt):MM:=[(ofString "S",.dat (.str (S [32]))),(ofString "T",.dat (.str (S [9]))),(ofString "n",.dat (.int q.n)),(ofString "nt",.dat (.int q.nt)),(ofString "b",.dat (.int q.b)),(ofString "count",.own (q.cs.map .int)),(ofString "self",.dat me)]
noncomputable abbrev QY:Stmt:=f9 (aG (gI 1)) 4
theorem QX (me:D) (c:Nat) (q:Cnt) (hl:q.b≤999) (hcl:q.cs.length≤1000):lm 11 X0 iS ((fX QY,.dat (.str ⟨#[c]⟩))::iE me q) (uu QY)
 (if c=32 then(.next,iE me ⟨q.n+1,q.nt,q.b+1,q.cs⟩)else if c=9 then(.next,iE me ⟨q.n+1,q.nt+1,0,nJ q.cs q.b⟩)else(.brk,iE me q)):=by
 by_cases q1:c=32
 ·rw[if_pos q1]
  exact fC (qc (wz (a:=c) (b:=32)) (qw (decide_eq_true q1) .nil)) (by kernel_rfl)
 rw[if_neg q1];have w1:=fun(l:List Rq) (t:AllR X0 iS l)=>qc (wz (a:=c) (b:=32)) (qw (decide_eq_false q1) t);by_cases q2:c=9
 ·rw[if_pos q2]
  have hlen:=gJ (l:=q.cs.map D.int) (by rw[ag];(exact ae hcl (by decide)));rw[ag]at hlen;have w2:=fun(l:List Rq) (t:AllR X0 iS l)=>w1 _ (qc (wz (a:=c) (b:=9)) (qw (decide_eq_true q2) (qf hlen t)));unfold nJ;by_cases hh:q.b≥q.cs.length
  ·rw[if_pos hh]
   have hit:ef (.list ((q.cs++aA (q.b-q.cs.length+1) 0).map .int)) (.int (q.b:Int))=some (.int ((q.cs++aA (q.b-q.cs.length+1) 0).getD q.b 0)):=su (by rw[ai,a9];exact(dA 0x167bc217106218062:)) (by rw[ai,a9];exact(dA 0x7394fa04e7bc217107410e9f389c218062:) hl hh);generalize hv:(q.cs++aA (q.b-q.cs.length+1) 0).getD q.b 0=v at hit⊢;have e:(q.cs++aA (q.b-q.cs.length+1) 0).map D.int=q.cs.map D.int++aA ((q.b:Int)-(q.cs.length:Int)+1).toNat (.int 0):=by
    rw[bz,lB,show((q.b:Int)-(q.cs.length:Int)+1).toNat=q.b-q.cs.length+1 by exact(dA 0xe61e10b8a4a0c4300861001cf085d090a43:) hh]
   have hb1:(q.cs.map D.int).length+(aA ((q.b:Int)-(q.cs.length:Int)+1).toNat (D.int 0)).length≤1000000:=by rw[ag,a9];exact(dA 0x39ca7a12011cf20e821d3e713841001cf085d090e42:) hl hh
   have hb2:0≤(q.b:Int)∧(q.b:Int)<((q.cs.map D.int++aA ((q.b:Int)-(q.cs.length:Int)+1).toNat (D.int 0)).length:Int)∧(q.b:Int)<1000000:=by rw[ai,ag,a9];exact(dA 0x735abfa12011d215e4f20e42ac840753e713841001cf085d090e42:) hl
   have hm:=t9 (a:=.int 0) (n:=(q.b:Int)-(q.cs.length:Int)+1) (by exact(dA 0xe7355f4240239e10ba121c8557842e84872101d410e9f389c2:) hl hh);unfold iE;rw[Cg,e];rw[e]at hit;exact fC (w2 _ (qw (b:=decide ((q.b:Int)≥(q.cs.length:Int))) (r:=true) (decide_eq_true (bQ.mpr hh)) (qf hlen (qb hm (qp hb1 (qi hit (qp hb2 .nil))))))) (by kernel_rfl)
  ·rw[if_neg hh]
   have hlt:q.b<q.cs.length:=zE.mp hh;have hit:ef (.list (q.cs.map .int)) (.int (q.b:Int))=some (.int (q.cs.getD q.b 0)):=su hlt hcl;have hb2:0≤(q.b:Int)∧(q.b:Int)<((q.cs.map D.int).length:Int)∧(q.b:Int)<1000000:=by rw[ag];exact(dA 0x1ce6b57f424023a42bc8721564203bd410e9f389c2:) hl hh
   unfold iE;rw[Cg];exact fC (w2 _ (qw (b:=decide ((q.b:Int)≥(q.cs.length:Int))) (r:=false) (decide_eq_false fun h=>hh (bQ.mp h)) (qi hit (qp hb2 .nil)))) (by kernel_rfl)
 ·rw[if_neg q2]
  exact fC (w1 _ (qc (wz (a:=c) (b:=9)) (qw (decide_eq_false q2) .nil))) (by kernel_rfl)
theorem AI (me:D):∀(l:List Nat) (q:Cnt),q.b+l.length≤1000→q.cs.length≤1000→∀M,Has M (iE me q)→∃M',sw (c7 (ex 11 X0 iS) (uu QY)) (fX QY) (MC l) M=some (.next,M')∧Has M' (iE me (df l q))
 |[]=>@fun q _ _ M h=>⟨M,rfl,h⟩
 |c::l=>@fun q hl hcl M h=>by
  rw[ay]at hl;refine Ua (QX me c q (by exact(dA 0x729f389c2a7d0273de10b862:) hl) hcl _ h.set) fun M1 e1 k1=>?_;show∃M',sw _ _ (D.str ⟨#[c]⟩::MC l) M=_∧_;rw[df];by_cases q1:c=32
  ·rw[if_pos q1]at e1 k1⊢
   refine Ua (AI me l ⟨q.n+1,q.nt,q.b+1,q.cs⟩ (by show q.b+1+_≤_;exact(dA 0x1ca7d0273c6f085c2a7d0273de10b862:) hl) hcl M1 k1) fun M' e2 k2=>?_;exact⟨M',(hU e1).trans e2,k2⟩
  rw[if_neg q1]at e1 k1⊢;by_cases q2:c=9
  ·rw[if_pos q2]at e1 k1⊢
   refine Ua (AI me l ⟨q.n+1,q.nt+1,0,nJ q.cs q.b⟩ (by show 0+_≤_;exact(dA 0x394fa04e78c0ea7d0273de10b862:) hl) (ae y8 (by show max _ _≤_;exact(iq 0x39ca7d027169f409c4a7d0273de10b862201e10b844:) hl hcl)) M1 k1) fun M' e2 k2=>?_;exact⟨M',(hU e1).trans e2,k2⟩
  ·rw[if_neg q2]at e1 k1⊢
   exact⟨M1,JX e1,k1⟩
theorem Gk (x dx:Addr) (raw:List Nat) (hl:raw.length≤900):
 lm 12 X0 iS [(ofString "self",.dat (.objAt x dx [.str (S raw)]))] ((aG (gI 1)).drop 1|>.take 4) (.next,iE (.objAt x dx [.str (S raw)]) (df raw ⟨0,0,0,[]⟩)):=by
 have hit:iZ (.str (S raw))=some (MC raw):=by
  show(if(S raw).length≤1000000 then some ((S raw).cps.toList.map fun c=>D.str ⟨#[c]⟩)else none)=_;rw[i5,if_pos (by(exact ae hl (by decide))),nN];rfl
 have lp:jx 12 X0 iS (iE (.objAt x dx [.str (S raw)]) ⟨0,0,0,[]⟩) QY (.next,iE (.objAt x dx [.str (S raw)]) (df raw ⟨0,0,0,[]⟩)):=GP (by kernel_rfl) (fQ (qj hit .nil) (by kernel_rfl)) fun M H=>AI _ raw ⟨0,0,0,[]⟩ (by show 0+_≤_;exact(fN 0xe53e8139e203a9c209c2:) hl) (d5 _) M H;exact fC (qx lp .nil) (by kernel_rfl)
noncomputable def p7:D→Prop
 |.none=>True
 |.bool _=>True
 |.int _=>True
 |.str _=>True
 |_=>False
noncomputable def GS:Ent→Prop
 |.dat d=>p7 d
 |.own l=>∀d∈l,p7 d
theorem Rep.flat {P Q:Addr→Prop} {h h':Heap} {d:D} {v:Value} (f:p7 d) (r:Rep P h d v):Rep Q h' d v:=by
 cases d<;>first|exact f.elim|exact r
theorem Reps.flat {P Q:Addr→Prop} {h h':Heap}:∀{l:List D} {vs:List Value},(∀d∈l,p7 d)→Reps P h l vs→Reps Q h' l vs
 |[],_=>fun _ r=>r
 |d::l,vs=>fun f r=>by
  (refine Uc r fun v q q0 hv hq=>?_;subst q0);exact⟨v,q,rfl,hv.flat (f d (au ..)),Reps.flat (fun x hx=>f x (af _ hx)) hq⟩
theorem EA {M l:MM} (h:∀p∈l,M.lookup p.1=some p.2∧GS p.2):∀y e,l.lookup y=some e→M.lookup y=some e∧GS e:=fun y e q=>h (y,e) (bk q)
section
variable {P:Addr→Prop} {μ:List Addr} {h:Heap} {env:Env} {m:Str→Option Value} {M jy:MM} {x dx:Addr}
noncomputable abbrev qH (P:Addr→Prop) (x dx:Addr):Addr→Prop:=fun a=>P a∧a≠x∧a≠dx
theorem FI.cut2 (F:FI P μ h env m M) (hx:x∉μ) (hdx:dx∉μ) (ex:∃o,h.get? x=some o) (ed:∃o,h.get? dx=some o) (hM:∀y e,jy.lookup y=some e→M.lookup y=some e∧GS e):FI (qH P x dx) μ h env m jy:=by
 refine⟨fun a n=>?_,F.liveμ,⟨fun q=>F.tab.1 q.1,fun q=>F.tab.2 q.1⟩,F.kind,F.glob,F.bi,F.ns,F.nL,fun y e q r=>?_,F.cell,F.st,F.inj,fun y e q r=>?_,fun y z l l' v q1 q2=>F.ownInj y z l l' v (hM _ _ q1).1 (hM _ _ q2).1⟩
 ·by_cases h1:a=x
  ·rw[h1];exact .inr (.inr ex)
  ·by_cases h2:a=dx
   ·rw[h2];exact .inr (.inr ed)
   ·exact F.live a fun p=>n ⟨p,h1,h2⟩
 ·obtain⟨e1,e2⟩:=hM y e q
  refine Ua (F.loc y e e1 r) fun v f1 f2=>?_;refine⟨v,f1,?_⟩;cases e with
  |dat d=>exact Rep.flat (Q:=Pm (qH P x dx) μ) e2 f2
  |own l=>
   (refine Ug f2 fun a vs q0 p0 ha hl hr=>?_;subst q0);exact⟨a,vs,rfl,⟨p0,fun z=>hx (z▸ha),fun z=>hdx (z▸ha)⟩,ha,hl,Reps.flat e2 hr⟩
 ·obtain⟨e1,e2⟩:=hM y e q
  (refine Ui (F.cval y e e1 r) fun c v d f1 f2 q0 f4=>?_;subst q0);exact⟨c,v,d,f1,f2,rfl,Rep.flat (Q:=Pm (qH P x dx) μ) e2 f4⟩
theorem FI.lift2 {y:Str} {d:D} {v:Value} (F:FI (qH P x dx) μ h env m M) (t:¬P 65∧¬P 72) (hk:env.kindOf y=some .local) (hm:m y=some v) (r:Rep (Pm P μ) h d v):FI P μ h env m (M.set y (.dat d)):=by
 have mono:∀a o,Pm (qH P x dx) μ a→h.get? a=some o→h.get? a=some o∧Pm P μ a:=fun a o p e=>⟨e,p.1.1,p.2⟩;refine⟨fun a n=>F.live a fun p=>n p.1,F.liveμ,t,F.kind,F.glob,F.bi,F.ns,F.nL,fun z e q r'=>?_,F.cell,F.st,F.inj,fun z e q r'=>?_,fun z w l l' u q1 q2=>?_⟩
 ·rw[MM.set_lookup]at q
  split at q
  ·rename_i hz;cases q;rw[hz];exact⟨v,hm,r⟩
  ·refine Ua (F.loc z e q r') fun u f1 f2=>?_
   refine⟨u,f1,?_⟩;cases e with
   |dat d=>exact Rep.mono mono f2
   |own l=>
    (refine Ug f2 fun a vs q0 p0 ha hl hr=>?_;subst q0);exact⟨a,vs,rfl,p0.1,ha,hl,Reps.mono mono hr⟩
 ·rw[MM.set_lookup]at q
  split at q
  ·rename_i hz;rw[hz,hk]at r';rcases r' with r'|r'<;>cases r'
  ·(refine Ui (F.cval z e q r') fun c u d' f1 f2 q0 f4=>?_;subst q0)
   exact⟨c,u,d',f1,f2,rfl,Rep.mono mono f4⟩
 ·rw[MM.set_lookup]at q1 q2
  split at q1
  ·cases q1
  ·split at q2
   ·cases q2
   ·exact F.ownInj z w l l' u q1 q2
end
structure B5 (C:aU) (ah:Addr→Prop) (μ:List Addr) (x dx:Addr):Prop where
 px:¬ah x
 pd:¬ah dx
 dμ:dx∉μ
 d65:dx≠65
 d72:dx≠72
 x65:x≠65
 x72:x≠72
 ne:x≠dx
 g:C.G.get? dx=none
structure w6 (C:aU) (ah:Addr→Prop) (μ:List Addr) (x dx:Addr) (l:List D) (i:Nat) (s:Shared):Prop where
 S:St C s
 inst:s.heap.get? x=some (instObj g7 dx)
 dict:∃es n,s.heap.get? dx=some (ir es n)∧rt es∧es.length=i∧Reps (Pm ah μ) s.heap l (es.map fun e=>e.val)
section
variable {C:aU} {A:Around} {s:Shared} {ah:Addr→Prop} {μ:List Addr} {env:Env} {m:Str→Option Value} {M:MM} {k:Nat} {x dx:Addr} {l:List D} {i:Nat}
theorem nj {f:Expr→Option D} (hE:HE C A ah μ env m M f) (fx:B5 C ah μ x dx) (F:FI ah μ s.heap env m M) (Z:w6 C ah μ x dx l i s) {sn name:Str} {p1 p2 p:Pos} {e:Expr} {d:D} (hm:m sn=some (.ref x)) (hk:env.kindOf sn=some .local) (hsn:(sn==("__debug__":Str))=false) (hi:i<5) (hname:name=fieldNames.getD i bC) (hf:f e=some d)
 (hs:swapsWith e (some (.Attribute (.Name sn p1) name p2)) p.line env=pure false):
 wpAny (MD C) A (exec (.Assign [.Attribute (.Name sn p1) name p2] e p) env) (fun fl s'=>fl=.next∧FI ah μ s'.heap env m M∧w6 C ah μ x dx (l++[d]) (i+1) s'∧∀b o,b≠65→b≠72→b≠dx→s.heap.get? b=some o→s'.heap.get? b=some o) bL s:=by
 refine plainObj_wpAny_Assign_Attribute (aa (hE _ _ _ hf F Z.S) (fun v az q=>?_) fun _ _ x=>x) hs;refine Ud q fun bu bN r=>?_;have dG:=F.keep bN;refine Ue Z.dict fun es n hd hks hlen hr=>?_;have LP:=bN.get _ _ fx.x65 fx.x72 Z.inst;have GD:=bN.get _ _ fx.d65 fx.d72 hd;refine iO (iN dG.kind hk dG.ns hm ?_) hsn;subst hlen;rw[hname];refine CK bu LP GD hks hi fun h' hsh t n' tk hb hdx=>?_;have hk':∀b o,b≠dx→az.heap.get? b=some o→h'.get? b=some o:=fun b o nb e=>(hb b nb).trans e;have mono:∀a o,Pm ah μ a→az.heap.get? a=some o→h'.get? a=some o∧Pm ah μ a:=fun a o p e=>⟨hk' a o (fun z=>fx.pd (z▸p.1)) e,p⟩;refine⟨rfl,dG.out fx.pd fx.dμ (fun w hc=>?_) hk' ⟨_,hdx⟩,⟨bu.but GD (fun vs q t z=>by cases z) fx.g fx.d65 fx.d72 hk',hk' _ _ fx.ne LP,_,n',hdx,C5 hks,by rw[ai,bv],?_⟩,fun b o n1 n2 n3 e=>hk' b o n3 (bN.get b o n1 n2 e)⟩
 ·refine Ua hc fun o e1 e2=>?_
  rw[GD]at e1;cases e1;cases e2
 ·rw[bz]
  exact(Reps.mono mono (Sr F.tabm bN hr)).append ⟨v,[],rfl,Rep.mono mono r,rfl⟩
end
theorem RA.under1 {A:Around} {n:Nat} {c:Code} (x:RA A (n+1)) (h:c.weight=1) (h2:c.cUnits=1):RA (A.under c) n:=
 ⟨x.hd,by have:=x.depth;show A.depth+c.weight+n≤900;exact(iq 0x1ce5384139e478874e104e7bc2171078085c2:) h this,by have:=x.units;show A.units+c.cUnits+20*n≤9000;exact(iq 0x73944650373e24a05cf10e88ca06e7c5e10b8940b878085c2:) h2 this⟩
noncomputable def T9:Str:=ofString "Whitespace"
noncomputable def Se (as:List D) (d:D):Prop:=∃raw:List Nat,raw.length≤900∧as=[.str (S raw)]∧d=gU (oU raw)
theorem Pd {as d d'} (h:Se as d) (h':Se as d'):d=d':=by
 (refine Ul h fun t _ e q0=>?_;subst q0);(refine Ul h' fun t' _ e' q0=>?_;subst q0);rw[e]at e';injection e' with e' _;injection e' with e';rw[rO e']
theorem Eb (C:aU):makesIn (Kf C) g7=true:=C.F.bit 2 rfl
theorem Iy (C:aU):findIn (Kf C) (.ref g7) "__init__"=some (some (.ref 108)):=C.F.fi (by kernel_rfl)
theorem PT (C:aU):typeIn (Kf C) (.ref 108)=some (.type "function"):=bt (show isFn (Kf C) (.ref 108)=true from C.F.bit 12 rfl)
theorem ws_at:LocalIs T9 153:=⟨by kernel_rfl,by kernel_rfl⟩
noncomputable def T5:Stmt:=f9 (aG (gI 1)) 0
noncomputable def QZ:List Stmt:=(aG (gI 1)).drop 1|>.take 4
noncomputable def uz:List Stmt:=(aG (gI 1)).drop 5
theorem JU:aG (gI 1)=T5::(QZ++uz):=by kernel_rfl
theorem Iz {C:aU} {k:Nat}:cg C (k+2) 153 Se:=by
 rintro as d ⟨raw,hraw,rfl,rfl⟩;refine⟨fun{A s P vs} hA Ss lv t hr=>?_⟩;(refine Uc hr fun v rest q0 q1 hrest=>?_;subst q0;refine Un q1 fun tk q2=>?_;subst q2);rw[show rest=[]from hrest];have nM:(Kf C).In s.heap:=C.X.keeps Ss.g;obtain⟨hh,g,dr,tk0,os⟩:=s;have fr0:hh.get? hh.objs.size=none:=eu _;have fr1:hh.get? (hh.objs.size+1)=none:=by
  cases e:hh.get? (hh.objs.size+1)with
  |none=>rfl
  |some o=>exact absurd (aQ e) (c5.mpr (vC _))
 refine js (make_core (makes_of nM (Eb _)) (looks_findIn nM (Iy _)) (fun self=>bind_fn nM self (PT _)) (.inl rfl) ?_);have BD:=hA.under1 (c:=.builtin "type.__call__" ⟨.ref g7::[.str (S raw) tk],[]⟩) (by kernel_rfl) (by kernel_rfl);generalize A.under (.builtin "type.__call__" ⟨.ref g7::[.str (S raw) tk],[]⟩)=TV at BD⊢;generalize hdx:hh.objs.size=dx at fr0 fr1⊢;generalize hx:dx+1=x at fr1⊢;have grow:∀b o,hh.get? b=some o→((hh.push emptyDict).push (instObj g7 dx)).get? b=some o:=fun b o e=>ak _ (ak _ e);have hinst:((hh.push emptyDict).push (instObj g7 dx)).get? x=some (instObj g7 dx):=by
  have:=aX (hh.push emptyDict) (o:=instObj g7 dx) rfl;rwa[lE,hdx,hx]at this
 have hdict:((hh.push emptyDict).push (instObj g7 dx)).get? dx=some (ir [] 0):=by
  have:=aX hh (o:=emptyDict) rfl;rw[hdx]at this;exact ak _ this
 have eA:St C ⟨(hh.push emptyDict).push (instObj g7 dx),g,dr,tk0,os⟩:=Ss.grow (t:=tk0) grow;have LB:Live P ((hh.push emptyDict).push (instObj g7 dx)):=lv.keep (.of grow);have hPd:P dx:=lv.fresh Ss dx (fJ hdx);have hPx:P x:=lv.fresh Ss x (by rw[←hx];show hh.objs.size≤dx+1;exact(dA 0x728f085c316062:) hdx);generalize hh2:(hh.push emptyDict).push (instObj g7 dx)=h2 at grow hinst hdict eA LB⊢;have live65:=Ss.live65;have live72:=Ss.live72;have gdx:C.G.get? dx=none:=by
  cases e:C.G.get? dx with
  |none=>rfl
  |some o=>have:=Ss.g _ _ e;rw[fr0]at this;cases this
 have xne:x≠dx:=by rw[←hx];exact nP _
 refine nE Oe BD eA LB t (ds:=[.objAt x dx [],.str (S raw)]) (vs:=[.ref x,.str (S raw) tk]) ⟨_,_,rfl,⟨[],rfl,hPx,hPd,⟨hinst,[],0,hdict,rfl,rfl⟩,rfl⟩,_,_,rfl,⟨tk,rfl⟩,rfl⟩ rfl fun env bV Lj m μ henv hsc hfn F bu hk μf μG hAd=>?_;have nxμ:x∉μ:=fun q=>by have:=μf _ q;rw[hinst]at this;cases this
 have ndμ:dx∉μ:=fun q=>by have:=μf _ q;rw[hdict]at this;cases this
 have fx:∀μ',dx∉μ'→B5 C (qH P x dx) μ' x dx:=fun μ' q=>⟨fun p=>p.2.1 rfl,fun p=>p.2.2 rfl,q,fun z=>live65 (z▸fr0),fun z=>live72 (z▸fr0),fun z=>live65 (z▸fr1),fun z=>live72 (z▸fr1),xne,gdx⟩;have hks:env.kindOf (ofString "self")=some .local:=by
  show env.scope.names.lookup _=_;rw[hsc];kernel_rfl
 have hpm:bU (ej (gI 1)) [.objAt x dx [],.str (S raw)]=[(ofString "self",.dat (.objAt x dx [])),(ofString "ws",.dat (.str (S raw)))]:=by kernel_rfl
 rw[hpm]at F;refine Ua (F.loc (ofString "self") _ eQ hks) fun vself hm0 hv0=>?_;(refine Ua hv0 fun vs0 q0 _=>?_;subst q0);obtain⟨M0,hM0⟩:∃M0:MM,M0=[(ofString "ws",.dat (.str (S raw)))]:=⟨_,rfl⟩;have w0:M0.lookup (ofString "ws")=some (.dat (.str (S raw))):=by rw[hM0];exact eQ
 have F0:FI (qH P x dx) μ bV env m M0:=F.cut2 nxμ ndμ ⟨_,hk _ _ hinst⟩ ⟨_,hk _ _ hdict⟩ (by
  rw[hM0];refine EA fun p hp=>?_;rw[aT.mp hp];exact⟨(ee (show(ofString "ws"==ofString "self")=false from(by decide+kernel))).trans eQ,trivial⟩);have Z0:w6 C (qH P x dx) μ x dx [] 0 ⟨bV,g,dr,Lj,os⟩:=⟨bu,hk _ _ hinst,[],0,hk _ _ hdict,fun i e q=>by simp at q,rfl,rfl⟩;have hsE:∀{ah:Addr→Prop} {μ m M},HE C (TV.deeper env) ah μ env m M (ev 12 X0 env.scope.names M):=fun{ah μ m M}=>(fu d8 12).1 hAd;rw[JU];have e0:ev 12 X0 env.scope.names M0 (xB T5)=some (.str (S raw)):=by
  rw[hsc];exact fR .nil (by kernel_rfl) _ (Has.one w0)
 refine bn (aa (nj (s:=⟨bV,g,dr,Lj,os⟩) hsE (fx μ ndμ) F0 Z0 (sn:=ofString "self") (name:=ofString "raw") hm0 hks (by decide+kernel) (by(decide)) (by kernel_rfl) e0 (by rfl)) (fun fl aV q=>?_) fun _ _ z=>z);(refine Uj q fun q0 gn HJ d9=>?_;subst q0);rw[bX]at HJ;refine Ue HJ.dict fun es2 n2 hd2 hks2 hl2 hr2=>?_;have mono2:∀a o,Pm (qH P x dx) μ a→aV.heap.get? a=some o→aV.heap.get? a=some o∧Pm P μ a:=fun a o p e=>⟨e,p.1.1,p.2⟩;have jA:FI P μ aV.heap env m (M0.set (ofString "self") (.dat (.objAt x dx [.str (S raw)]))):=gn.lift2 t hks hm0 ⟨es2.map (fun e=>e.val),rfl,⟨hPx,nxμ⟩,⟨hPd,ndμ⟩,⟨HJ.inst,es2,n2,hd2,rfl,(tj rfl).mpr hks2⟩,Reps.mono mono2 hr2⟩;refine Ua (Gk x dx raw hraw (M0.set (ofString "self") (.dat (.objAt x dx [.str (S raw)]))) (Has.one ic)) fun M' hmid gH=>?_;have g0:=gH (ofString "self") (.dat (.objAt x dx [.str (S raw)])) (by kernel_rfl);refine oZ d8 hAd hfn 12 QZ _ M' m μ aV (by rw[hsc];exact hmid) μG jA HJ.S fun bq zi=>?_;refine Uc zi.ex fun m' μ' F' u1 u2=>?_;have nxμ':x∉μ':=fun q=>by
  rcases u1 _ q with z|z
  ·exact nxμ z
  ·rw[HJ.inst]at z;cases z
 have ndμ':dx∉μ':=fun q=>by
  rcases u1 _ q with z|z
  ·exact ndμ z
  ·rw[hd2]at z;cases z
 refine Ua (F'.loc (ofString "self") _ g0 hks) fun vself hm3 hv3=>?_;(refine Ut hv3 fun vs3 q0 _ _ w3 hr3=>?_;subst q0);refine Uy w3 fun hi3 es3 n3 hd3 hv3 hk3=>?_;obtain⟨u,r3,rfl,⟨tk3,rfl⟩,hr3⟩:=hr3;rw[show r3=[]from hr3]at hv3 hk3;generalize hq:df raw ⟨0,0,0,[]⟩=q at gH;obtain⟨M4,hM4⟩:∃M4:MM,M4=[(ofString "count",.own (q.cs.map .int)),(ofString "b",.dat (.int q.b)),(ofString "n",.dat (.int q.n)),(ofString "nt",.dat (.int q.nt))]:=⟨_,rfl⟩;have F4:FI (qH P x dx) μ' bq.heap env m' M4:=F'.cut2 nxμ' ndμ' ⟨_,hi3⟩ ⟨_,hd3⟩ (by
  rw[hM4];refine EA fun p hp=>?_;simp only[aD,bx,or_false]at hp;rcases hp with rfl|rfl|rfl|rfl
  ·exact⟨gH _ (.own (q.cs.map .int)) (by kernel_rfl),fun d hd=>by obtain⟨i,_,rfl⟩:=bc.mp hd;trivial⟩
  ·exact⟨gH _ (.dat (.int q.b)) (by kernel_rfl),trivial⟩
  ·exact⟨gH _ (.dat (.int q.n)) (by kernel_rfl),trivial⟩
  ·exact⟨gH _ (.dat (.int q.nt)) (by kernel_rfl),trivial⟩);have c1:M4.lookup (ofString "count")=some (.own (q.cs.map .int)):=by rw[hM4];exact eQ
 have Z3:w6 C (qH P x dx) μ' x dx [.str (S raw)] 1 bq:=⟨zi.S,hi3,es3,n3,hd3,(tj hv3).mp hk3,by have:=congrArg List.length hv3;rwa[ag]at this,by rw[hv3];exact⟨_,_,rfl,⟨tk3,rfl⟩,rfl⟩⟩;have fx':=fx μ' ndμ';have hlen:q.cs.length≤1000000:=by
  refine Ua (F4.loc _ _ c1 (by show env.scope.names.lookup _=_;rw[hsc];kernel_rfl)) fun v e1 e2=>?_;have:∀(l:List Nat) (q:Cnt),q.b+l.length≤1000→q.cs.length≤1000→(df l q).cs.length≤1000:=by
   intro l;induction l with
   |nil=>intro q _ h;exact h
   |cons c l ih=>
    intro q h1 h2;rw[ay]at h1;rw[df];split
    ·exact ih _ (by show q.b+1+_≤_;exact(dA 0x1ca7d0273c6f085c2a7d0273de10b862:) h1) h2
    ·split
     ·exact ih _ (by show 0+_≤_;exact(dA 0x394fa04e78c0ea7d0273de10b862:) h1) (by have:=y8 (cs:=q.cs) (b:=q.b);show(nJ q.cs q.b).length≤_;exact(rY 0x39ce53e8138b43169f409c4a7d0273de10b862201e10b844:) h1 h2 this)
     ·exact h2
  have:=this raw ⟨0,0,0,[]⟩ (by show 0+_≤_;exact(fN 0xe53e8139e203a9c209c2:) hraw) (by simp);rw[hq]at this;(exact ae this (by decide))
 rw[show uz=[f9 uz 0,f9 uz 1,f9 uz 2,f9 uz 3]from by kernel_rfl];have hl6:(q.cs.map D.int).length≤1000000:=by rw[ag];exact hlen
 have hlc:=gJ hl6;rw[ag]at hlc;have H4:Has M4 [(ofString "count",.own (q.cs.map .int)),(ofString "b",.dat (.int q.b)),(ofString "n",.dat (.int q.n)),(ofString "nt",.dat (.int q.nt))]:=hM4▸Has.self;have e5:ev 12 X0 env.scope.names M4 (xB (f9 uz 0))=some (.int q.n):=by
  rw[hsc];exact fR .nil (by kernel_rfl) _ H4
 have e6:ev 12 X0 env.scope.names M4 (xB (f9 uz 1))=some (.int q.nt):=by
  rw[hsc];exact fR .nil (by kernel_rfl) _ H4
 have e7:ev 12 X0 env.scope.names M4 (xB (f9 uz 2))=some (.tup [.tup (q.cs.map .int),.int q.b]):=by
  rw[hsc];exact fR (qp hl6 .nil) (by kernel_rfl) _ H4
 have e8:ev 12 X0 env.scope.names M4 (xB (f9 uz 3))=some (.bool (decide ((q.cs.length:Int)≤1))):=by
  rw[hsc];exact fR (qf hlc .nil) (by kernel_rfl) _ H4
 refine bn (aa (nj hsE fx' F4 Z3 (sn:=ofString "self") (name:=ofString "n") hm3 hks (by decide+kernel) (by(decide)) (by kernel_rfl) e5 (by rfl)) (fun fl jg S8=>?_) fun _ _ z=>z);(refine Uj S8 fun q0 F5 Z5 k5=>?_;subst q0);refine bn (aa (nj hsE fx' F5 Z5 (sn:=ofString "self") (name:=ofString "nt") hm3 hks (by decide+kernel) (by(decide)) (by kernel_rfl) e6 (by rfl)) (fun fl mP Ai=>?_) fun _ _ z=>z);(refine Uj Ai fun q0 F6 Z6 k6=>?_;subst q0);refine bn (aa (nj hsE fx' F6 Z6 (sn:=ofString "self") (name:=ofString "norm") hm3 hks (by decide+kernel) (by(decide)) (by kernel_rfl) e7 (by rfl)) (fun fl Ex S7=>?_) fun _ _ z=>z);(refine Uj S7 fun q0 F7 Z7 k7=>?_;subst q0);refine bn (aa (nj hsE fx' F7 Z7 (sn:=ofString "self") (name:=ofString "is_simple") hm3 hks (by decide+kernel) (by(exact ba _)) (by kernel_rfl) e8 (by rfl)) (fun fl IG S6=>?_) fun _ _ z=>z);(refine Uj S6 fun q0 F8 Z8 k8=>?_;subst q0);refine fS ⟨rfl,Z8.S,⟨fun b o n1 n2 e=>?_⟩,?_⟩
 ·have nb:b≠dx:=fun z=>by rw[z]at e;have e:hh.get? dx=some o:=e;rw[fr0]at e;cases e
  have nbμ:b∉μ:=fun z=>by have:=μf _ z;rw[show h2.get? b=some o from grow b o e]at this;cases this
  exact k8 b o n1 n2 nb (k7 b o n1 n2 nb (k6 b o n1 n2 nb (k5 b o n1 n2 nb (zi.k b o n1 n2 nbμ (d9 b o n1 n2 nb (hk b o (grow b o e)))))))
 ·refine Ue Z8.dict fun es8 n8 hd8 hks8 hl8 hr8=>?_
  refine⟨x,dx,es8.map (fun e=>e.val),rfl,hPx,hPd,⟨Z8.inst,es8,n8,hd8,rfl,(tj rfl).mpr hks8⟩,?_⟩;have:=Reps.mono (Q:=P) (fun a o (p:Pm (qH P x dx) μ' a) e=>⟨e,p.1.1⟩) hr8;simp only[oU,hq];exact this
noncomputable abbrev tP (st:Stmt) (q:Str) (clos:List (Str×Addr)) (cv ctv doc pm:Value):Obj:=
 {cls:=.type "function",data:=.func (fnX (ofString "inner") q (fH st) (aG st) (aF st) clos .none .none doc pm none cv ctv)}
noncomputable def CodeNear (h:Heap) (cv:Value) (q:Str):Prop:=∃c,cv=.ref c∧c≠65∧c≠72∧h.CodeRec (.ref c) q
theorem CodeNear.keep {h h':Heap} {cv:Value} {q:Str} (x:CodeNear h cv q) (k:∀b o,b≠65→b≠72→h.get? b=some o→h'.get? b=some o):CodeNear h' cv q:=by
 obtain⟨c,rfl,n1,n2,c',o,vs,t,e1,e2,e3⟩:=x;cases e1;exact⟨c,rfl,n1,n2,c,o,vs,t,rfl,k _ _ n1 n2 e2,e3⟩
theorem TabAt.ext {h h':Heap} {p p':Addr} {pos:Pos} {q:Str} (x:TabAt h p pos q) (k:∀b o,b≠p'→h.get? b=some o→h'.get? b=some o) (hp:p≠p') (hp':p'=65∨p'=72):TabAt h' p pos q:=by
 refine Ua x fun ps e r=>?_;refine⟨ps,k _ _ hp e,r.imp id ?_⟩;rintro⟨c,e1,n1,n2,c',o,vs,t,e2,e3,e4⟩;cases e2;exact⟨c,e1,n1,n2,c,o,vs,t,rfl,k _ _ (by rcases hp' with rfl|rfl<;>assumption) e3,e4⟩
theorem nG {C:aU} {a:Addr} (h:C.G.get? a=none):mainGlobals≠a:=fun q=>by
 refine Uk C.g fun o _ _ e _=>?_;rw[q,h]at e;cases e
section
variable {C:aU} {A:Around} {s:Shared} {env:Env} {clos:List (Str×Addr)}
theorem Nl {Q:Value→Shared→Prop} (S:St C s) (hcl:closureFor (aF mf) env=pure clos) (hge:env.globals=mainGlobals) (hcode:env.code=.ref 76)
 (h:∀f cv ctv doc pm h' tk,(∀b o,b≠72→s.heap.get? b=some o→h'.get? b=some o)→St C {s with heap:=h',toks:=tk}→s.heap.get? f=none→h'.get? f=some (tP mf qB clos cv ctv doc pm)→CodeNear h' cv qB→Q (.ref f) {s with heap:=h',toks:=tk}):
 wpAny (MD C) A (makeFunction (ofString "inner") qB (fH mf) (.stmts (aG mf)) (aF mf) env [] [] [] (oN mf) (oN mf).line) Q bL s:=by
 refine Ua S.tB fun ps hP hps=>?_;have hg:s.heap.Ns mainGlobals C.mg:=C.g.keeps S.g;have hC:CodeHd s.heap 76 72:=C.cB.keeps S.g;have hb:s.heap.BuiltinsAt C.mg 72:=by
  refine Ur C.bB fun bm ob b1 b2 b3 b4 b5 b6=>?_;exact⟨bm,ob,b1,b2,b3,b4,S.g _ _ b5,b6⟩
 have lt:(72:Nat)<s.heap.objs.size:=aQ hP;have lto:(65:Nat)<s.heap.objs.size:=by refine Ua S.tA fun _ e _=>?_;exact aQ e
 rcases hps with rfl|⟨c,rfl,n1,n2,hrec⟩
 ·refine U9 hcl hge hg hcode hC hP trivial rfl (nG C.no72) hb fun c' ctv doc h' tk hx hge' hlt hrec ht=>?_
  have kk:∀b o,b≠72→s.heap.get? b=some o→(h'.push (fnMade (ofString "inner") qB (fH mf) (aG mf) (aF mf) clos doc ((C.mg "__name__").getD .none) c' ctv)).get? b=some o:=fun b o nb e=>ak _ (hx b o nb e);have nc1:c'≠65:=cC (aM (aP (by omega) hge'));have nc2:c'≠72:=cC (aM (aP (by omega) hge'));have hrec':(h'.push (fnMade (ofString "inner") qB (fH mf) (aG mf) (aF mf) clos doc ((C.mg "__name__").getD .none) c' ctv)).CodeRec (.ref c') qB:=hrec.keeps fun b o e=>ak _ e;have TB:TabAt (h'.push (fnMade (ofString "inner") qB (fH mf) (aG mf) (aF mf) clos doc ((C.mg "__name__").getD .none) c' ctv)) 72 (oN mf) qB:=⟨_,ak _ ht,.inr ⟨c',by rw[ry],nc1,nc2,hrec'⟩⟩;refine h h'.objs.size (.ref c') ctv doc _ _ tk kk ⟨fun b o e=>kk b o (fun q=>by rw[q,C.no72]at e;cases e) (S.g b o e),(S.tA.ext kk (by decide) (.inr rfl)),TB,S.gens,S.gk,S.os⟩ ?_ (aX _ rfl) ⟨c',rfl,nc1,nc2,hrec'⟩;cases e:s.heap.get? h'.objs.size with
  |none=>rfl
  |some o=>
   have:=hx _ o (cC (aM (aP lt (a5 (ca hge' hlt))))) e;rw[eu]at this;cases this
 ·refine Tr (cv:=.ref c) hcl hge hg hcode hC hP (show TriplesOk [_,_,_]from trivial) (by kernel_rfl) hb fun ctv doc h' tk hk hsz=>?_
  have kk:∀b o,s.heap.get? b=some o→(h'.push (tP mf qB clos (.ref c) ctv doc ((C.mg "__name__").getD .none))).get? b=some o:=fun b o e=>ak _ (hk b o e);refine h h'.objs.size (.ref c) ctv doc _ _ tk (fun b o _ e=>kk b o e) (S.grow kk) ?_ (aX _ rfl) ⟨c,rfl,n1,n2,hrec.keeps kk⟩;cases e:s.heap.get? h'.objs.size with
  |none=>rfl
  |some o=>have:=hk _ o e;rw[eu]at this;cases this
end
section
variable {C:aU} {A:Around} {s:Shared} {env:Env} {clos:List (Str×Addr)}
theorem Nm {Q:Value→Shared→Prop} (S:St C s) (hcl:closureFor (aF lc) env=pure clos) (hge:env.globals=mainGlobals) (hcode:env.code=.ref 69)
 (h:∀f cv ctv doc pm h' tk,(∀b o,b≠65→s.heap.get? b=some o→h'.get? b=some o)→St C {s with heap:=h',toks:=tk}→s.heap.get? f=none→h'.get? f=some (tP lc qA clos cv ctv doc pm)→CodeNear h' cv qA→Q (.ref f) {s with heap:=h',toks:=tk}):
 wpAny (MD C) A (makeFunction (ofString "inner") qA (fH lc) (.stmts (aG lc)) (aF lc) env [] [] [] (oN lc) (oN lc).line) Q bL s:=by
 refine Ua S.tA fun ps hP hps=>?_;have hg:s.heap.Ns mainGlobals C.mg:=C.g.keeps S.g;have hC:CodeHd s.heap 69 65:=C.cA.keeps S.g;have hb:s.heap.BuiltinsAt C.mg 65:=by
  refine Ur C.bA fun bm ob b1 b2 b3 b4 b5 b6=>?_;exact⟨bm,ob,b1,b2,b3,b4,S.g _ _ b5,b6⟩
 have lt:(65:Nat)<s.heap.objs.size:=aQ hP;have lto:(72:Nat)<s.heap.objs.size:=by refine Ua S.tB fun _ e _=>?_;exact aQ e
 rcases hps with rfl|⟨c,rfl,n1,n2,hrec⟩
 ·refine U9 hcl hge hg hcode hC hP trivial rfl (nG C.no65) hb fun c' ctv doc h' tk hx hge' hlt hrec ht=>?_
  have kk:∀b o,b≠65→s.heap.get? b=some o→(h'.push (fnMade (ofString "inner") qA (fH lc) (aG lc) (aF lc) clos doc ((C.mg "__name__").getD .none) c' ctv)).get? b=some o:=fun b o nb e=>ak _ (hx b o nb e);have nc1:c'≠65:=cC (aM (aP (by omega) hge'));have nc2:c'≠72:=cC (aM (aP (by omega) hge'));have hrec':(h'.push (fnMade (ofString "inner") qA (fH lc) (aG lc) (aF lc) clos doc ((C.mg "__name__").getD .none) c' ctv)).CodeRec (.ref c') qA:=hrec.keeps fun b o e=>ak _ e;have TB:TabAt (h'.push (fnMade (ofString "inner") qA (fH lc) (aG lc) (aF lc) clos doc ((C.mg "__name__").getD .none) c' ctv)) 65 (oN lc) qA:=⟨_,ak _ ht,.inr ⟨c',by rw[ry],nc1,nc2,hrec'⟩⟩;refine h h'.objs.size (.ref c') ctv doc _ _ tk kk ⟨fun b o e=>kk b o (fun q=>by rw[q,C.no65]at e;cases e) (S.g b o e),TB,(S.tB.ext kk (by decide) (.inl rfl)),S.gens,S.gk,S.os⟩ ?_ (aX _ rfl) ⟨c',rfl,nc1,nc2,hrec'⟩;cases e:s.heap.get? h'.objs.size with
  |none=>rfl
  |some o=>
   have:=hx _ o (cC (aM (aP lt (a5 (ca hge' hlt))))) e;rw[eu]at this;cases this
 ·refine Tr (cv:=.ref c) hcl hge hg hcode hC hP (show TriplesOk [_,_,_]from trivial) (by kernel_rfl) hb fun ctv doc h' tk hk hsz=>?_
  have kk:∀b o,s.heap.get? b=some o→(h'.push (tP lc qA clos (.ref c) ctv doc ((C.mg "__name__").getD .none))).get? b=some o:=fun b o e=>ak _ (hk b o e);refine h h'.objs.size (.ref c) ctv doc _ _ tk (fun b o _ e=>kk b o e) (S.grow kk) ?_ (aX _ rfl) ⟨c,rfl,n1,n2,hrec.keeps kk⟩;cases e:s.heap.get? h'.objs.size with
  |none=>rfl
  |some o=>have:=hk _ o e;rw[eu]at this;cases this
end
section
variable {ah:Addr→Prop} {μ:List Addr} {h h':Heap} {env:Env} {m:Str→Option Value} {M:MM}
theorem FI.cellOut {x:Str} {v:Value} {c:Addr} (F:FI ah μ h env m M) (hM:M.lookup x=none) (hx:env.kindOf x=some .cell) (hc:env.cells.lookup x=some c) (cμ:c∈μ) (hn:h'.IsCell c (some v)) (hs:∀b o,b≠c→h.get? b=some o→h'.get? b=some o):FI ah μ h' env m M:=by
 have pq:∀b o,Pm ah μ b→h.get? b=some o→h'.get? b=some o∧Pm ah μ b:=fun b o p e=>⟨hs b o (fun q=>p.2 (q▸cμ)) e,p⟩;have hlv:∃o,h'.get? c=some o:=by refine Ua hn fun o e _=>?_;exact⟨o,e⟩
 refine Up (F.cell x (.inl hx)) fun c' v0 e0 n65 n72 oc ec dc=>?_;rw[hc]at e0;cases e0;have nl:∀a vs,h.PlainList a vs→a≠c:=fun a vs ⟨n,e⟩ q=>by rw[q,ec]at e;cases e;cases dc
 have nL:env.locals≠c:=fun q=>by refine Uo F.ns fun o es ep e e' _=>?_;rw[q,ec]at e;cases e;rw[dc]at e';cases e'
 refine⟨fun b n=>?_,fun b q=>?_,F.tab,F.kind,F.glob,F.bi,?_,F.nL,fun y e q r=>?_,fun y r=>?_,F.st,F.inj,fun y e q r=>?_,F.ownInj⟩
 ·rcases F.live b n with e|e|⟨o,e⟩
  ·exact .inl e
  ·exact .inr (.inl e)
  ·by_cases hb:b=c
   ·subst hb;exact .inr (.inr hlv)
   ·exact .inr (.inr ⟨o,hs b o hb e⟩)
 ·refine Uh (F.liveμ b q) fun n1 n2 o e=>?_
  refine⟨n1,n2,?_⟩;by_cases hb:b=c
  ·subst hb;exact hlv
  ·exact⟨o,hs b o hb e⟩
 ·refine Uk F.ns fun o es ep e z=>?_
  exact⟨o,es,ep,hs _ _ nL e,z⟩
 ·refine Ua (F.loc y e q r) fun v e1 e2=>?_
  refine⟨v,e1,?_⟩;cases e with
  |dat d=>exact Rep.mono pq e2
  |own l=>
   (refine Ug e2 fun a vs q0 p0 ha hl hr=>?_;subst q0);exact⟨a,vs,rfl,p0,ha,hl.at fun o e=>hs _ o (nl a vs hl) e,Reps.mono pq hr⟩
 ·refine Ue (F.cell y r) fun c' v' e1 n1 n2 e2=>?_
  by_cases hb:c'=c
  ·exact⟨c',_,e1,n1,n2,hb▸hn⟩
  ·refine Ua e2 fun o e3 e4=>?_
   exact⟨c',v',e1,n1,n2,o,hs c' o hb e3,e4⟩
 ·refine Ui (F.cval y e q r) fun c' v' d e1 e2 e3 e4=>?_
  by_cases hb:c'=c
  ·rw[hb]at e1
   rw[F.inj _ _ _ e1 hc,hM]at q;cases q
  ·refine Ua e2 fun o e5 e6=>?_
   exact⟨c',v',d,e1,⟨o,hs c' o hb e5,e6⟩,e3,Rep.mono pq e4⟩
end
section
variable {C:aU} {A:Around} {s:Shared} {P:Addr→Prop} {μ:List Addr} {env:Env} {m:Str→Option Value} {M:MM} {f c:Addr}
theorem FnAt.keep {h h':Heap} (x:FnAt f h) (k:Keep h h') (n1:f≠65) (n2:f≠72):FnAt f h':=by
 obtain⟨oc,od,fd,sl,e⟩:=x;exact⟨oc,od,fd,sl,k.get _ _ n1 n2 e⟩
theorem jn {g:Expr→Option D} (hg:HE C A P μ env m M g) (F:FI P μ s.heap env m M) (S:St C s) (hk:env.kindOf (ofString "inner")=some .free∨env.kindOf (ofString "inner")=some .cell) (hc:env.cells.lookup (ofString "inner")=some c) (hI:s.heap.IsCell c (some (.ref f)))
 (hf:FnAt f s.heap) (n1:f≠65) (n2:f≠72) {np p:Pos} {es:List Expr} {ds:List D} (hs:bK es=true) (h:di g es=some ds) {Q:Value→Shared→Prop}
 (hcall:∀az vs,St C az→Keep s.heap az.heap→Reps (Pm P μ) az.heap ds vs→wpAny (MD C) A (call (.ref f) vs) Q bL az):wpAny (MD C) A (eval (.Call (.Name (ofString "inner") np) es [] p) env) Q bL s:=by
 refine em ?_;have key:wpAny (MD C) A (callWith p (.ref f) [] (backTo p (starEach es env)) (backToKw p (keywordEach [] env))) Q bL s:=by
  refine zN (P:=FnAt f) (by rw[ez hs];rfl) keeps_F (aa (dQ hs (jG hg h F S)) (fun a az q=>?_) fun _ _ x=>x);refine Uj q fun e bu bN r=>?_;refine⟨Mine.FnAt.keep hf bN n1 n2,?_⟩;rw[e];exact hcall az _ bu bN r
 rcases hk with hk|hk
 ·exact iO (sL F.kind hk hc hI key) (by decide+kernel)
 ·exact iO (sM F.kind hk hc hI key) (by decide+kernel)
end
noncomputable abbrev bS:NS:=(aF mf).names
structure InB (C:aU) (P:Addr→Prop) (f cD cI cN:Addr) (vD:Value) (clos:List (Str×Addr)) (ds:List Int) (n:Nat) (h:Heap):Prop where
 fo:∃cv ctv doc pm,h.get? f=some (tP mf qB clos cv ctv doc pm)∧CodeNear h cv qB
 f6:f≠65∧f≠72
 D:h.IsCell cD (some vD)
 I:h.IsCell cI (some (.ref f))
 N:∃t,h.IsCell cN (some (.int n t))
 ne:(cD≠65∧cD≠72)∧(cI≠65∧cI≠72)∧(cN≠65∧cN≠72)
 lk:clos.lookup (ofString "digits")=some cD∧clos.lookup (ofString "inner")=some cI∧clos.lookup (ofString "n")=some cN
 inj:∀x y c,clos.lookup x=some c→clos.lookup y=some c→x=y
 rep:Rep P h (iL ds) vD
theorem nB {h h':Heap} {c:Addr} {v:Option Value} (x:h.IsCell c v) (k:Keep h h') (n:c≠65∧c≠72):h'.IsCell c v:=by
 refine Ua x fun o e r=>?_;exact⟨o,k.get _ _ n.1 n.2 e,r⟩
theorem InB.keep {C:aU} {P:Addr→Prop} {f cD cI cN:Addr} {vD:Value} {clos:List (Str×Addr)} {ds:List Int} {n:Nat} {h h':Heap} (x:InB C P f cD cI cN vD clos ds n h) (t:¬P 65∧¬P 72) (k:Keep h h'):InB C P f cD cI cN vD clos ds n h':=by
 refine Uu x.fo fun cv ctv doc pm e1 e2=>?_;obtain⟨tn,hn⟩:=x.N;exact⟨⟨cv,ctv,doc,pm,k.get _ _ x.f6.1 x.f6.2 e1,e2.keep k.get⟩,x.f6,nB x.D k x.ne.1,nB x.I k x.ne.2.1,⟨tn,nB hn k x.ne.2.2⟩,x.ne,x.lk,x.inj,Rep.mono (fun a o p e=>tr t k a o p e) x.rep⟩
theorem ua:bS.filter (fun p=>p.2==.free)=[(ofString "digits",.free),(ofString "inner",.free),(ofString "n",.free)]:=by kernel_rfl
theorem OY:bS.all (fun p=>p.2 !=.cell)=true:=by kernel_rfl
theorem zd {x:Str} (h:bS.lookup x=some .free):x=ofString "digits"∨x=ofString "inner"∨x=ofString "n":=by
 have hm:(x,cr)∈bS.filter (fun p=>p.2==.free):=bw.mpr ⟨bk h,rfl⟩;rw[ua]at hm;simp only[aD,bx,or_false,jB,and_true]at hm;exact hm
noncomputable def mq (n:Nat) (ds:List Int) (L R:Nat):Int:=eF (2^n) ((ds.drop L).take (R-L))
theorem m9 (B:Int):∀a b:List Int,eF B (a++b)=eF B b*B^a.length+eF B a
 |[]=>@fun b=>by simp[eF]
 |x::a=>@fun b=>by
  rw[cq,fb,m9 B a b,fb,ay,oH,d7,ck];exact(ud 0x65ef5250f53d28:)
theorem sO {L m R:Nat} (h:L≤m) (g:m≤R):m-L+(R-m)=R-L:=by rw[iy];exact Nat.sub_add_sub_cancel g h
theorem CB {n:Nat} {ds:List Int} {L m R:Nat} (h1:L≤m) (h2:m≤R) (h3:R≤ds.length):mq n ds L R=mq n ds m R*(2^n)^(m-L)+mq n ds L m:=by
 unfold mq;have e:(ds.drop L).take (R-L)=(ds.drop L).take (m-L)++(ds.drop m).take (R-m):=by
  have:=List.take_append_drop (m-L) ((ds.drop L).take (R-L));rw[←this,List.take_take,List.drop_take,po];rw[kF (H7 h2 L),Nat.sub_sub_sub_cancel_right h1,show L+(m-L)=m by(exact kR h1)]
 rw[e,m9,fZ,cp,kF (H7 (ae h2 h3) L)]
theorem IR {n:Nat} {ds:List Int} {L:Nat} (h:L<ds.length):mq n ds L (L+1)=ds.getD L 0:=by
 unfold mq;rw[show L+1-L=1 by exact(fN 0x18085c31804f085c2:),mi h,ac,aj h];show 0*_+ds[L]=ds[L];exact(ly 869170454542:)
theorem Fc {a b:Nat} (h:a≤b):(2:Int)^a≤2^b:=by
 have h1:=cM (n:=2) (by decide) h;have e:∀m:Nat,((2^m:Nat):Int)=(2:Int)^m:=fun m=>by rw[i7];rfl
 rw[←e,←e];exact bQ.mpr h1
theorem MJ {n:Nat} {ds:List Int} (hds:∀x∈ds,0≤x∧x<2^n) {L R:Nat}:0≤mq n ds L R∧mq n ds L R<2^(n*(R-L)):=by
 have h:=r5 (ga n) ((ds.drop L).take (R-L)) fun x q=>hds x (gZ (fA q));refine⟨h.1,gE h.2 ?_⟩;rw[←ku];exact Fc (kQ n (by rw[fZ];exact(dA 21546303586:)))
theorem B2 {a n:Int} (h:0≤n):eS .RShift (.int a) (.int n)=some (.int (a.fdiv (2^n.toNat))):=if_pos h
theorem Q8 {L R J d:Nat} (a:L+R<2*(d+1)) (b:R≤J*2+L):R≤J+d:=(rY 0x1ce51e428e8f14441714768bc217104173c62:) a b
theorem LT {L R L' R' J:Nat} (hj:R-L≤J*2) (c:R'-L'≤R-(L+R)/2):R'-L'≤J:=ae c (Nat.sub_le_of_le_add (Q8 (Nat.lt_mul_div_succ _ (by decide)) (Nat.le_add_of_sub_le hj)))
theorem Q9 {L R m:Nat} (h:(L+R)/2=m):m-L≤R-m:=by
 have e:=rr (L+R) 2;rw[h,Nat.mul_two]at e;exact(iq 0x72862d1e41bc421804418062:) e
theorem LU {L R:Nat} (h:L<R) (hj:R-L≤2^0):R=L+1:=by
 have hj:R-L≤1:=hj;exact(dA 0x1ce61e10b843a042e2586218043:) h hj
theorem Bs {L R:Nat} (h:L+1<R):((L:Int)+1==(R:Int))=false:=beq_eq_false_iff_ne.mpr (by exact(dA 0x39ecc86f085d21586f085c2:) h)
theorem Qd (L R:Nat):eS .RShift (.int ((L:Int)+(R:Int))) (.int 1)=some (.int (((L+R)/2:Nat):Int)):=by
 rw[B2 (by decide)];refine congrArg (fun i=>some (D.int i)) ?_;rw[show((1:Int).toNat)=1 from rfl,Int.pow_one,hV (by decide)];(rfl)
theorem Bx {L R n:Nat} (hLR:L+1<R) (hR:R≤8000) (hn:n≤8000):eS .Mult (.int ((((L+R)/2:Nat):Int)-(L:Int))) (.int n)=some (.int ((((L+R)/2-L)*n:Nat):Int)):=by
 rw[dz ⟨cL (by exact(dA 0x39cd57a3529440010e848522561214893e8d4a5100043a87d006e1d86f085c23004173c62:) hLR hR),cL (by exact(fN 0xe6abd1a94a200087485590a7d1a94a20008750fa00dc2:) hn)⟩];refine congrArg (fun i=>some (D.int i)) ?_;rw[PO];congr 1;exact(dA 0xe6646848522586f085c2180443004173c62:) hLR
theorem OZ (ds:List Int) (hl:ds.length≤8000) (L:Nat) (hL:L<ds.length) (M:MM) (h1:M.lookup (ofString "L")=some (.dat (.int L))) (h2:M.lookup (ofString "R")=some (.dat (.int ((L+1:Nat):Int)))) (h3:M.lookup (ofString "digits")=some (.dat (iL ds))):
 ∃M',c7 (ex 12 X0 bS) (aG mf) M=some (.ret (.int (ds.getD L 0)),M'):=by
 have hit:ef (iL ds) (.int (L:Int))=some (.int (ds.getD L 0)):=by
  refine cY ?_ (by exact(dA 0xe72de8480470ec21d0fa00dc2:) hl hL);rw[aJ,aj hL,ac,aj hL];rfl
 exact(fC (n:=12) (X:=X0) (sc:=bS) (fl:=.ret (.int (ds.getD L 0))) (L':=[]) (qw (b:=((L:Int)+1==((L+1:Nat):Int))) (r:=true) (beq_iff_eq.mpr (by exact(fN 0x1993c21709e10ba42:))) (qi hit .nil)) (by kernel_rfl) M (.add h1 (.add h2 (.add h3 .nil)))).imp fun _ h=>h.1
theorem RY (n L R:Nat) (hLR:L+1<R) (hR:R≤8000) (hn:n≤8000) (M:MM) (h1:M.lookup (ofString "L")=some (.dat (.int L))) (h2:M.lookup (ofString "R")=some (.dat (.int R))) (h3:M.lookup (ofString "n")=some (.dat (.int n))):
 ∃M',c7 (ex 12 X0 bS) ((aG mf).take 3) M=some (.next,M')∧M'.lookup (ofString "mid")=some (.dat (.int (((L+R)/2:Nat):Int)))∧M'.lookup (ofString "shift")=some (.dat (.int ((((L+R)/2-L)*n:Nat):Int)))∧
  M'.lookup (ofString "L")=some (.dat (.int L))∧M'.lookup (ofString "R")=some (.dat (.int R)):=by
 refine Ua (fC (n:=12) (ss:=(aG mf).take 3) (X:=X0) (sc:=bS) (fl:=.next) (L':=[(ofString "mid",.dat (.int (((L+R)/2:Nat):Int))),(ofString "shift",.dat (.int ((((L+R)/2-L)*n:Nat):Int))),(ofString "L",.dat (.int L)),(ofString "R",.dat (.int R))])
  (qw (b:=((L:Int)+1==(R:Int))) (r:=false) (Bs hLR) (qb (Qd L R) (qb (Bx hLR hR hn) .nil))) (by kernel_rfl) M (.add h1 (.add h2 (.add h3 .nil)))) fun M' e H=>?_;exact⟨M',e,H _ _ rfl,H _ _ rfl,H _ _ rfl,H _ _ rfl⟩
structure Ik (st:Stmt) (q:Str) (names:List Str):Prop where
 bind:∀clos cv ctv doc pm vs,vs.length=names.length→bindArgs (fnX (ofString "inner") q (fH st) (aG st) (aF st) clos .none .none doc pm none cv ctv) ⟨vs,[]⟩=pure (names.zip vs)
 nodup:names.Nodup
 kinds:∀x∈names,(aF st).names.lookup x=some .local
 nocell:∀p∈(aF st).names,p.2≠gv
 plain:(aF st).isCoroutine=false∧(aF st).isGenerator=false∧(aF st).kind=.function
theorem u9 {α:Type} {x:Str} {c:α}:∀{l:List (Str×α)},(l.map (·.1)).Nodup→(x,c)∈l→l.lookup x=some c
 |[]=>@fun _ h=>nomatch h
 |(y,b)::r=>@fun hn h=>by
  rw[bg,vG]at hn;rw[aH];rcases aD.mp h with e|h
  ·cases e;rw[beq_self_eq_true]
  ·have:(x==y)=false:=beq_eq_false_iff_ne.mpr fun q=>hn.1 (q▸bc.mpr ⟨_,h,rfl⟩)
   rw[this];exact u9 hn.2 h
theorem pR {P:Addr→Prop} {h:Heap} {x:Str} {e:Ent}:∀{ns:List Str} {ds:List D} {vs:List Value},Reps P h ds vs→(bU ns ds).lookup x=some e→∃d v,e=.dat d∧Rep P h d v∧(x,v)∈ns.zip vs
 |[],_,_,_,hl=>by simp[bU]at hl
 |n::ns,[],_,_,hl=>by simp[bU]at hl
 |n::ns,d::ds,vs,r,hl=>by
  (refine Uc r fun v w q0 hv hw=>?_;subst q0);have hl':eB x ((n,Ent.dat d)::bU ns ds)=some e:=hl;rw[aH]at hl';cases hx:x==n with
  |true=>rw[hx]at hl';cases hl';exact⟨d,v,rfl,hv,by rw[bt hx];exact au ..⟩
  |false=>
   rw[hx]at hl';refine Uc (pR hw hl') fun d' v' e1 e2 e3=>?_;exact⟨d',v',e1,e2,af _ e3⟩
theorem D6 {ns:List Str} {vs:List Value} (h:vs.length=ns.length):(ns.zip vs).map (·.1)=ns:=by
 rw[List.map_fst_zip (by(exact fJ (Py h)))]
section
variable {C:aU} {A:Around} {s:Shared} {P:Addr→Prop} {k:Nat}
theorem vo {st:Stmt} {q:Str} {names:List Str} (O:Ik st q names) {clos:List (Str×Addr)} {cv ctv doc pm:Value} {f:Addr} (ho:s.heap.get? f=some (tP st q clos cv ctv doc pm)) (hcd:s.heap.CodeRec cv q) {ds:List D} {vs:List Value} {R:Result→Shared→Prop} (hA:RA A (k+1)) (S:St C s) (lv:Live P s.heap) (t:¬P 65∧¬P 72) (hr:Reps P s.heap ds vs) (hlen:ds.length=names.length)
 (hfree:∀x,(aF st).names.lookup x=some .free→∃c v,clos.lookup x=some c∧c≠65∧c≠72∧s.heap.IsCell c v) (hinj:∀x y c,clos.lookup x=some c→clos.lookup y=some c→x=y) {Mf:MM}
 (hMf:∀x e,Mf.lookup x=some e→(aF st).names.lookup x=some .free∧∃c v d,clos.lookup x=some c∧s.heap.IsCell c (some v)∧e=.dat d∧Rep P s.heap d v)
 (hrun:∀env bV tk m μ,env.scope=aF st→env.cells=clos→env.func.isSome=true→FI P μ bV env m (bU names ds++Mf)→St C {s with heap:=bV,toks:=tk}→(∀b o,s.heap.get? b=some o→bV.get? b=some o)→(∀a∈μ,s.heap.get? a=none)→(∀a∈μ,C.G.get? a=none)→RA (A.deeper env) k→
  wpAny (MD C) (A.deeper env) (execs (aG st) env) (fun fl s'=>R (.ok (.ret (match fl with|.ret v=>v|_=>.none))) s') bL {s with heap:=bV,toks:=tk}):codeAny (MD C) A (.call (.ref f) ⟨vs,[]⟩) R s:=by
 have hlv:vs.length=names.length:=hr.length.trans hlen;refine codeAny_call_def (fd:=fnX (ofString "inner") q (fH st) (aG st) (aF st) clos .none .none doc pm none cv ctv) (body:=aG st) (binds:=names.zip vs) hA.room ho rfl (C.nolimit.keeps S.g) hcd rfl (.of_eq (O.bind _ _ _ _ _ _ hlv)) O.nocell (fun x hx=>O.kinds _ (oG hx).1) (fun bV hns hk=>?_) O.plain.1 O.plain.2.1 O.plain.2.2;generalize hE:callEnv (fnX (ofString "inner") q (fH st) (aG st) (aF st) clos .none .none doc pm none cv ctv) s.heap.objs.size f=env;have esc:env.scope=aF st:=by rw[←hE];rfl
 have eloc:env.locals=s.heap.objs.size:=by rw[←hE];rfl
 have ecel:env.cells=clos:=by rw[←hE];rfl
 have egl:env.globals=mainGlobals:=by rw[←hE];rfl
 have ebi:env.builtins=builtinsNs:=by rw[←hE];rfl
 have efn:env.func.isSome=true:=by rw[←hE];rfl
 have kd:∀x,env.kindOf x=(aF st).names.lookup x:=fun x=>by show env.scope.names.lookup x=_;rw[esc]
 have nocell:∀x,env.kindOf x≠some .cell:=fun x e=>O.nocell (x,.cell) (bk (by rw[←kd];exact e)) rfl;have bu:St C {s with heap:=bV,toks:=s.toks+(names.zip vs).length}:=S.grow hk;have μf:∀a∈[s.heap.objs.size],s.heap.get? a=none:=fun a q=>by rw[aT.mp q];exact eu _
 have μG:∀a∈[s.heap.objs.size],C.G.get? a=none:=fun a q=>by
  cases z:C.G.get? a with
  |none=>rfl
  |some o=>have e:=μf a q;rw[S.g a o z]at e;cases e
 have pq:∀a o,P a→s.heap.get? a=some o→bV.get? a=some o∧Pm P [s.heap.objs.size] a:=fun a o p e=>⟨hk a o e,p,fun q=>by rw[μf a q]at e;cases e⟩;have hnd:((names.zip vs).reverse.map (·.1)).Nodup:=by rw[uv,D6 hlv];exact List.pairwise_reverse.mpr (O.nodup.imp fun h=>cC h)
 have split:∀x e,(bU names ds++Mf).lookup x=some e→(bU names ds).lookup x=some e∨Mf.lookup x=some e:=fun x e q=>by
  rw[List.lookup_append]at q;cases z:(bU names ds).lookup x with
  |none=>rw[z]at q;exact .inr q
  |some e'=>rw[z]at q;exact .inl q
 have F:FI P [s.heap.objs.size] bV env (fun x=>(names.zip vs).reverse.lookup x) (bU names ds++Mf):=by
  refine⟨lv.keep (.of hk),fun a q=>?_,t,by rw[esc];exact O.plain.2.2,egl,ebi,by rw[eloc];exact hns,by rw[eloc];exact au ..,fun x e q r=>?_,fun x r=>?_,fun x c _ q=>absurd q (nocell x),fun x y c q1 q2=>hinj x y c (ecel▸q1) (ecel▸q2),fun x e q r=>?_,fun y z l l' v q1 q2=>?_⟩
  ·refine⟨fun z=>S.live65 (z▸μf a q),fun z=>S.live72 (z▸μf a q),?_⟩
   rw[aT.mp q];refine Uk hns fun o _ _ e _=>?_;exact⟨o,e⟩
  ·rcases split x e q with q|q
   ·(refine Uc (pR hr q) fun d v q0 hv hm=>?_;subst q0)
    exact⟨v,u9 hnd (mY.mpr hm),Rep.mono pq hv⟩
   ·rw[kd,(hMf x e q).1]at r;cases r
  ·rw[kd]at r
   rcases r with r|r
   ·exact absurd (by rw[kd];exact r) (nocell x)
   ·refine Up (hfree x r) fun c v e1 n1 n2 o e2 e3=>?_
    exact⟨c,v,ecel▸e1,n1,n2,o,hk _ _ e2,e3⟩
  ·rcases split x e q with q|q
   ·(refine Uc (pR hr q) fun d v q0 hv hm=>?_;subst q0)
    have:=O.kinds x (oG hm).1;rw[kd,this]at r;rcases r with r|r<;>cases r
   ·(refine UE (hMf x e q) fun _ c v d e1 q0 e4 e5=>?_;refine Ua q0 fun o e2 e3=>?_)
    exact⟨c,v,d,ecel▸e1,⟨o,hk _ _ e2,e3⟩,e4,Rep.mono pq e5⟩
  ·rcases split y _ q1 with q1|q1
   ·refine Uf (pR hr q1) fun _ _ e _=>?_;cases e
   ·refine UE (hMf y _ q1) fun _ _ _ _ _ _ e _=>?_;cases e
 exact aa (hrun env bV _ _ _ esc ecel efn F bu hk μf μG hA.deeper) (fun fl aV q=>q) fun _ _ z=>z.elim
end
theorem RK:Ik mf qB [ofString "L",ofString "R"] where
 bind:=fun clos cv ctv doc pm vs h=>by
  obtain⟨a,b,rfl⟩:=L2 h;kernel_rfl
 nodup:=yg (by kernel_rfl);kinds:=fun x hx=>by
  simp only[aD,bx,or_false]at hx;rcases hx with rfl|rfl<;>kernel_rfl
 nocell:=fun p hp e=>by
  have:=bF.mp OY p hp;rw[e]at this;cases this
 plain:=⟨by kernel_rfl,by kernel_rfl,by kernel_rfl⟩
theorem KJ:aG mf=(aG mf).take 3++[f9 (aG mf) 3]:=by kernel_rfl
theorem step {C:aU} {P:Addr→Prop} (t:¬P 65∧¬P 72) {f cD cI cN:Addr} {vD:Value} {clos:List (Str×Addr)} {ds:List Int} {n:Nat} (hds:∀x∈ds,0≤x∧x<2^n) (hn:1≤n) (hnl:n*ds.length≤7900) (hdl:ds.length≤7900)
 {j:Nat} {A:Around} {s:Shared} {L R:Nat} {tL tR:Tok} (hA:RA A (j+1)) (S:St C s) (I:InB C P f cD cI cN vD clos ds n s.heap) (lv:Live P s.heap) (hLR:L<R) (hR:R≤ds.length)
 (hrec:R=L+1∨(L+1<R∧∀(A':Around) (s':Shared) (L' R':Nat) (tL' tR':Tok),RA A' j→St C s'→InB C P f cD cI cN vD clos ds n s'.heap→Live P s'.heap→L'<R'→R'≤ds.length→R'-L'≤R-(L+R)/2→wpAny (MD C) A' (call (.ref f) [.int L' tL',.int R' tR']) (Post C s' P (.int (mq n ds L' R'))) bL s')):
 wpAny (MD C) A (call (.ref f) [.int L tL,.int R tR]) (Post C s P (.int (mq n ds L R))) bL s:=by
 obtain⟨cv,ctv,doc,pm,ho,cc,rfl,nc1,nc2,hcd⟩:=I.fo;obtain⟨tn,hN⟩:=I.N;obtain⟨Mf,hMf⟩:∃Mf:MM,Mf=[(ofString "digits",.dat (iL ds)),(ofString "n",.dat (.int n))]:=⟨_,rfl⟩;refine js (vo RK ho hcd hA S lv t (ds:=[.int L,.int R]) (vs:=[.int L tL,.int R tR]) ⟨_,_,rfl,⟨_,rfl⟩,_,_,rfl,⟨_,rfl⟩,rfl⟩ rfl (fun x hx=>?_) I.inj (Mf:=Mf) (fun x e hx=>?_) fun env bV tk m μ esc ecel efn F bu hk μf μG hAd=>?_)
 ·rcases zd hx with rfl|rfl|rfl
  ·exact⟨cD,_,I.lk.1,I.ne.1.1,I.ne.1.2,I.D⟩
  ·exact⟨cI,_,I.lk.2.1,I.ne.2.1.1,I.ne.2.1.2,I.I⟩
  ·exact⟨cN,_,I.lk.2.2,I.ne.2.2.1,I.ne.2.2.2,hN⟩
 ·have hm:=bk hx
  rw[hMf]at hm;simp only[aD,bx,or_false,jB]at hm;rcases hm with⟨rfl,rfl⟩|⟨rfl,rfl⟩
  ·exact⟨by kernel_rfl,cD,vD,_,I.lk.1,I.D,rfl,I.rep⟩
  ·exact⟨by kernel_rfl,cN,_,_,I.lk.2.2,hN,rfl,⟨tn,rfl⟩⟩
 ·obtain⟨M,hM⟩:∃M:MM,M=bU [ofString "L",ofString "R"] [.int L,.int R]++Mf:=⟨_,rfl⟩
  rw[←hM]at F;have hM':M=[(ofString "L",.dat (.int L)),(ofString "R",.dat (.int R)),(ofString "digits",.dat (iL ds)),(ofString "n",.dat (.int n))]:=by rw[hM,hMf];rfl
  have l1:M.lookup (ofString "L")=some (.dat (.int L)):=by rw[hM'];exact eQ
  have l2:M.lookup (ofString "R")=some (.dat (.int R)):=by rw[hM',ee (by decide+kernel)];exact eQ
  have l3:M.lookup (ofString "digits")=some (.dat (iL ds)):=by rw[hM',ee (by decide+kernel),ee (by decide+kernel)];exact eQ
  have l4:M.lookup (ofString "n")=some (.dat (.int n)):=by rw[hM',ee (by decide+kernel),ee (by decide+kernel),ee (by decide+kernel)];exact eQ
  have FN:Live P bV:=lv.keep (.of hk);rcases hrec with rfl|⟨h1,ih⟩
  ·refine Un (OZ ds (by(exact ae hdl (by decide))) L (by(assumption)) M l1 l2 l3) fun Mr e=>?_
   rw[IR (by(assumption))];have:=qN (fun st=>lT (d8 (C:=C) (k:=j)) 12 (ah:=P) (env:=env) hAd efn st) (aG mf);rw[esc]at this;refine aa (this _ _ _ _ _ ⟨bV,s.gens,s.drawn,tk,s.os⟩ e μG F bu) (fun fl aV q=>?_) fun _ _ z=>z.elim;obtain⟨jr,D7⟩:=q;cases fl<;>first|exact D7.elim|skip
   exact⟨jr.S,⟨fun b o n1 n2 e=>jr.k b o n1 n2 (fun q=>by rw[μf b q]at e;cases e) (hk b o e)⟩,D7⟩
  ·refine Ut (RY n L R h1 (by exact(dA 0x73943e80370e821d0f6e0dc2:) hdl hR) (by
    have:n≤n*ds.length:=Cf _ (by exact(iq 0xe72c303ac27842e25062:) hR h1);exact(dA 0x73943e80370e821d0f6e0dc2:) hnl this) M l1 l2 l4) fun M' e g1 g2 g3 g4=>?_;rw[KJ];refine oZ d8 hAd efn 12 _ M M' m μ ⟨bV,s.gens,s.drawn,tk,s.os⟩ (by rw[esc];exact e) μG F bu fun aV kC=>?_;refine Uc kC.ex fun m' μ' F' u1 u2=>?_;have d9:Keep s.heap aV.heap:=⟨fun b o n1 n2 e=>kC.k b o n1 n2 (fun q=>by rw[μf b q]at e;cases e) (hk b o e)⟩;have xg:=I.keep t d9;have hg:HE C (A.deeper env) P μ' env m' M' (ev 12 X0 env.scope.names M'):=(fu d8 12).1 hAd;have hkI:env.kindOf (ofString "inner")=some .free:=by show env.scope.names.lookup _=_;rw[esc];kernel_rfl
   have hcI:env.cells.lookup (ofString "inner")=some cI:=by rw[ecel];exact I.lk.2.1
   have hFn:∀{h':Heap},InB C P f cD cI cN vD clos ds n h'→FnAt f h':=fun I'=>by
    refine Uu I'.fo fun cv ctv doc pm ho _=>?_;exact⟨_,_,_,_,ho⟩
   generalize hmid:(L+R)/2=mid at g1 g2 ih;have hm1:L<mid:=by exact(iq 0x739620b042d86f085c23004173c62:) h1 hmid
   have hm2:mid<R:=by exact(iq 0x7396193042d86f085c23004173c62:) h1 hmid
   rw[show[f9 (aG mf) 3]=[.Return (some (xB (f9 (aG mf) 3))) ⟨105,8,105,55⟩]from by kernel_rfl];refine bn (nU ?_);have fin:∀bq v,St C bq→Keep aV.heap bq.heap→Rep P bq.heap (.int (mq n ds L R)) v→Post C s P (.int (mq n ds L R)) v bq:=fun bq v a b c=>⟨a,d9.trans b,c⟩;have ea1:di (ev 12 X0 env.scope.names M') [.Name (ofString "mid") ⟨105,22,105,25⟩,.Name (ofString "R") ⟨105,27,105,28⟩]=some [.int mid,.int R]:=by
    rw[esc];exact jd (ye g1 (by kernel_rfl)) (jd (ye g4 (by kernel_rfl)) rfl)
   have ea2:di (ev 12 X0 env.scope.names M') [.Name (ofString "L") ⟨105,48,105,49⟩,.Name (ofString "mid") ⟨105,51,105,54⟩]=some [.int L,.int mid]:=by
    rw[esc];exact jd (ye g3 (by kernel_rfl)) (jd (ye g1 (by kernel_rfl)) rfl)
   have es:ev 12 X0 env.scope.names M' (.Name (ofString "shift") ⟨105,33,105,38⟩)=some (.int (((mid-L)*n:Nat):Int)):=by
    rw[esc];exact ye g2 (by kernel_rfl)
   have hseg:mq n ds L R=mq n ds mid R*(2^n)^(mid-L)+mq n ds L mid:=CB (by(exact a5 hm1)) (by(exact a5 hm2)) hR;have hb1:=MJ hds (L:=mid) (R:=R);have hshift:(mid-L)*n≤7900:=ae (kt n (by exact(rY 0x739419ac225062180a4:) hR hm2:mid-L≤ds.length)) (by rw[eW];exact hnl);have hsm:sm (mq n ds mid R):=Aa hb1.1 hb1.2 (ae (kQ n (by exact(iq 0x72832d06218082:) hR:R-mid≤ds.length)) (by(exact ae hnl (by decide))));show wpAny (MD C) (A.deeper env) (eval (.BinOp (.BinOp (.Call (.Name (ofString "inner") ⟨105,16,105,21⟩) [.Name (ofString "mid") ⟨105,22,105,25⟩,.Name (ofString "R") ⟨105,27,105,28⟩] [] ⟨105,16,105,29⟩) .LShift (.Name (ofString "shift") ⟨105,33,105,38⟩) ⟨105,16,105,38⟩) .Add
    (.Call (.Name (ofString "inner") ⟨105,42,105,47⟩) [.Name (ofString "L") ⟨105,48,105,49⟩,.Name (ofString "mid") ⟨105,51,105,54⟩] [] ⟨105,42,105,55⟩) ⟨105,15,105,55⟩) env) _ bL aV;refine zI (zI (jn hg F' kC.S (.inl hkI) hcI xg.I (hFn xg) I.f6.1 I.f6.2 (by rfl) ea1 fun bq vs gi fF r=>?_));(refine Us (pN r) fun t1 t2 q0=>?_;subst q0);have Ig:=xg.keep t fF;refine aa (ih _ bq mid R t1 t2 hAd gi Ig ((lv.keep d9).keep fF) hm2 hR (by(exact ba _))) (fun v eG q=>?_) fun _ _ z=>z;(refine Uh q fun o9 jE tv q0=>?_;subst q0);have pj:=(F'.keep fF).keep jE;refine aa (hg _ _ _ es pj o9) (fun v jg q=>?_) fun _ _ z=>z;(refine Uh q fun kE lb ts q0=>?_;subst q0);refine aa (wQ (P:=P) kE (((((lv.keep d9).keep fF).keep jE).keep lb).fresh kE) (wP ⟨hsm,by(exact aY _),by exact(fN 0xe553880dd2150f6e0dc2:) hshift⟩) ⟨_,rfl⟩ ⟨_,rfl⟩) (fun v mP q=>?_) fun _ _ z=>z;(refine Uh q fun ll mS tw q0=>?_;subst q0);have k36:=((fF.trans jE).trans lb).trans mS;have Ps:=xg.keep t k36;refine jn hg (F'.keep k36) ll (.inl hkI) hcI Ps.I (hFn Ps) I.f6.1 I.f6.2 (by rfl) ea2 fun Ex vs Pc yq r=>?_;(refine Us (pN r) fun t1 t2 q0=>?_;subst q0);have LA:=(((lv.keep d9).keep k36).keep yq);refine aa (ih _ Ex L mid t1 t2 hAd Pc (Ps.keep t yq) LA hm1 (by(exact a5 (aP hm2 hR))) (Q9 hmid)) (fun v IG q=>?_) fun _ _ z=>z;(refine Uh q fun KQ JJ tx q0=>?_;subst q0);refine aa (wQ (P:=P) KQ ((LA.keep JJ).fresh KQ) Hx ⟨_,rfl⟩ ⟨_,rfl⟩) (fun v s₉ q=>?_) fun _ _ z=>z;(refine Uh q fun TN Tt ty q0=>?_;subst q0);refine fin _ _ TN (((k36.trans yq).trans JJ).trans Tt) ⟨ty,?_⟩;rw[hseg];congr 2;rw[bY,←ku,eW]
theorem Gl {C:aU} {P:Addr→Prop} (t:¬P 65∧¬P 72) {f cD cI cN:Addr} {vD:Value} {clos:List (Str×Addr)} {ds:List Int} {n:Nat} (hds:∀x∈ds,0≤x∧x<2^n) (hn:1≤n) (hnl:n*ds.length≤7900):
 ∀(j:Nat) (A:Around) (s:Shared) (L R:Nat) (tL tR:Tok),RA A (j+1)→St C s→InB C P f cD cI cN vD clos ds n s.heap→Live P s.heap→L<R→R≤ds.length→R-L≤2^j→
  wpAny (MD C) A (call (.ref f) [.int L tL,.int R tR]) (Post C s P (.int (mq n ds L R))) bL s:=by
 have hdl:ds.length≤7900:=ae (oF _ hn) hnl;intro j;induction j with
 |zero=>
  intro A s L R tL tR hA S I lv hLR hR hj;have hR1:R=L+1:=LU hLR hj;subst hR1;exact step t hds hn hnl hdl hA S I lv hLR hR (.inl rfl)
 |succ j ih=>
  intro A s L R tL tR hA S I lv hLR hR hj;refine step t hds hn hnl hdl hA S I lv hLR hR ?_;by_cases h1:R=L+1
  ·exact .inl h1
  ·refine .inr ⟨by exact(dA 0xe72c37842e17b0f085c21d862:) hLR h1,fun A' s' L' R' tL' tR' hA' S' I' lv' a b c=>ih A' s' L' R' tL' tR' hA' S' I' lv' a b (LT (ae hj (fJ (DO ..))) c)⟩
theorem Rk:jo 77 (a7 11):=dq (ax (i:=6) (by kernel_rfl)) (fun _ _ _ _ _ _ _ _ _ _ _ _ vs h=>by(refine Uf (mR h) fun a v1 q0 h1=>?_;subst q0);obtain⟨b,rfl⟩:=ji h1;kernel_rfl) (by kernel_rfl) (by kernel_rfl) (by kernel_rfl) ⟨by kernel_rfl,by kernel_rfl,by kernel_rfl⟩ (by kernel_rfl)
theorem Rm:jo 70 (a7 10):=dq (ax (i:=5) (by kernel_rfl)) (fun _ _ _ _ _ _ _ _ _ _ _ _ vs h=>by(refine Uf (mR h) fun a v1 q0 h1=>?_;subst q0);obtain⟨b,rfl⟩:=ji h1;kernel_rfl) (by kernel_rfl) (by kernel_rfl) (by kernel_rfl) ⟨by kernel_rfl,by kernel_rfl,by kernel_rfl⟩ (by kernel_rfl)
theorem NF:mf=.FunctionDef (ofString "inner") (fH mf) (aG mf) [] none [] (aF mf) none (ofString "inner") (oN mf):=by kernel_rfl
theorem NG:lc=.FunctionDef (ofString "inner") (fH lc) (aG lc) [] none [] (aF lc) none (ofString "inner") (oN lc):=by kernel_rfl
theorem nH {env:Env} {sc:Scope} (h:∀p∈sc.names,p.2=.free→∃c,env.cells.lookup p.1=some c) {x:Str} {c:Addr} (e:(clo env sc.names []).lookup x=some c):env.cells.lookup x=some c:=
 sD sc.names [] h (fun _ q=>nomatch q) _ (bk e)
theorem lX {env:Env} {sc:Scope} (h:∀p∈sc.names,p.2=.free→∃c,env.cells.lookup p.1=some c) {x:Str} {c:Addr} (hx:(x,cr)∈sc.names) (e:env.cells.lookup x=some c):(clo env sc.names []).lookup x=some c:=by
 obtain⟨c',hm⟩:=sE (env:=env) sc.names [] (.inl hx);obtain⟨c'',e'⟩:=la hm;have:=nH h e';rw[e]at this;rw[e',this]
theorem IS {n:Nat} {ds:List Int}:mq n ds 0 ds.length=eF (2^n) ds:=by
 unfold mq;rw[lC,lr,mW]
theorem yR {C:aU} {k:Nat}:cg C (k+16) 77 zz:=by
 rintro as d ⟨ds,n,hds,hn,hnl,rfl,rfl⟩;refine⟨fun{A s P vs} hA S lv t hr=>?_⟩;have hdl:ds.length≤7900:=ae (oF _ hn) hnl;refine js (nE Rk (k:=k+15) hA S lv t hr rfl fun env bV tk m μ henv esc efn F bu hk μf μG hAd=>?_);obtain⟨M,hM⟩:∃M:MM,M=bU (ej (a7 11)) [iL ds,.int n]:=⟨_,rfl⟩;rw[←hM]at F;have hM':M=[(ofString "digits",.dat (iL ds)),(ofString "n",.dat (.int n))]:=by rw[hM];kernel_rfl
 have l1:M.lookup (ofString "digits")=some (.dat (iL ds)):=by rw[hM'];exact eQ
 have l2:M.lookup (ofString "n")=some (.dat (.int n)):=by rw[hM',ee (by decide+kernel)];exact eQ
 have kd:∀x,env.kindOf x=(aF (a7 11)).names.lookup x:=fun x=>by show env.scope.names.lookup x=_;rw[esc]
 have kD:env.kindOf (ofString "digits")=some .cell:=by rw[kd];kernel_rfl
 have kN:env.kindOf (ofString "n")=some .cell:=by rw[kd];kernel_rfl
 have kI:env.kindOf (ofString "inner")=some .cell:=by rw[kd];kernel_rfl
 have l3:M.lookup (ofString "inner")=none:=by rw[hM',ee (by decide+kernel),ee (by decide+kernel)];rfl
 rw[show aG (a7 11)=[mf,.Return (some (xB (f9 (aG (a7 11)) 1))) ⟨106,4,106,49⟩]from by kernel_rfl];refine bn ?_;rw[NF];have hfr:∀p∈(aF mf).names,p.2=.free→∃c,env.cells.lookup p.1=some c:=fun p hp e=>by
  have:(aF mf).names.lookup p.1=some .free:=by
   have hm:p∈bS.filter (fun p=>p.2==.free):=bw.mpr ⟨hp,by rw[e];rfl⟩;rw[ua]at hm;simp only[aD,bx,or_false]at hm;rcases hm with rfl|rfl|rfl<;>kernel_rfl
  rcases zd this with e|e|e<;>rw[e]
  ·refine Uf (F.cell _ (.inl kD)) fun c _ h _=>?_;exact⟨c,h⟩
  ·refine Uf (F.cell _ (.inl kI)) fun c _ h _=>?_;exact⟨c,h⟩
  ·refine Uf (F.cell _ (.inl kN)) fun c _ h _=>?_;exact⟨c,h⟩
 refine nestDef_K (by kernel_rfl) (by kernel_rfl) (by rfl) ?_;rw[show qualnameIn env (ofString "inner") (ofString "inner")=qB from by
  unfold qualnameIn;rw[kI,henv];show((dy (Kf C) 77).qualname++_)++_=_;rw[show(dy (Kf C) 77).qualname=_ from congrArg (fun x=>x.qc.2.1) C.F];kernel_rfl];refine Nl (s:=⟨bV,s.gens,s.drawn,tk,s.os⟩) bu (ip hfr) F.glob (by rw[henv];exact congrArg (fun x=>x.qc.2.2) C.F) fun f cv ctv doc pm bR xE rJ eA hfn hf hcn=>?_;dsimp only at rJ eA hfn⊢;have gn:FI P μ bR env m M:=F.keep ⟨fun b o _ n2 e=>rJ b o n2 e⟩;refine Ue (gn.cell _ (.inl kI)) fun cI vI eI nI1 nI2 hcI=>?_;refine kT F.kind kI eI hcI fun dM tG Gu=>?_;have hs:∀b o,b≠cI→bR.get? b=some o→dM.get? b=some o:=fun b o q e=>(Gu.2 b q).trans e;have cμ:=gn.st _ _ efn kI eI;have jA:FI P μ dM env m M:=gn.cellOut l3 kI eI cμ tG hs;refine Ua hcI fun oc ec dc=>?_;have gi:St C ⟨dM,s.gens,s.drawn,xE,s.os⟩:=eA.but (t:=xE) ec (fun vs q t z=>by rw[dc]at z;cases z) (μG _ cμ) nI1 nI2 hs;have nf:f≠cI:=fun q=>by rw[q,ec]at hf;cases hf;cases dc
 have f65:f≠65:=fun q=>bu.live65 (q▸hfn);have f72:f≠72:=fun q=>bu.live72 (q▸hfn);refine Ui (jA.cval _ _ l1 (.inl kD)) fun cD vD dD eD hD e1 rD=>?_;cases e1;refine Ui (jA.cval _ _ l2 (.inl kN)) fun cN vN dN eN hN e1 rN=>?_;cases e1;obtain⟨tN,rfl⟩:=rN;have neD:=jA.cell _ (.inl kD);have neN:=jA.cell _ (.inl kN);refine Ue neD fun c' _ z nD1 nD2 _=>?_;rw[eD]at z;cases z;refine Ue neN fun c' _ z nN1 nN2 _=>?_;rw[eN]at z;cases z;have I:InB C P f cD cI cN vD (clo env (aF mf).names []) ds n dM:=by
  refine⟨⟨cv,ctv,doc,pm,hs _ _ nf hf,?_⟩,⟨f65,f72⟩,hD,tG,⟨tN,hN⟩,⟨⟨nD1,nD2⟩,⟨nI1,nI2⟩,⟨nN1,nN2⟩⟩,⟨lX hfr ?_ eD,lX hfr ?_ eI,lX hfr ?_ eN⟩,fun x y c q1 q2=>jA.inj x y c (nH hfr q1) (nH hfr q2),Rep.mono (fun a o p e=>⟨e,p.1⟩) rD⟩
  ·(refine Uq hcn fun c q0 n1 n2 hrec=>?_;subst q0)
   have nc:=ql ec (fun vs q t z=>by rw[dc]at z;cases z) hrec;refine UA hrec fun c' o vs t e1 e2 e3=>?_;cases e1;exact⟨c,rfl,n1,n2,c,o,vs,t,rfl,hs _ _ nc e2,e3⟩
  ·exact(bw.mp (show(ofString "digits",cr)∈bS.filter (fun p=>p.2==.free)by rw[ua];simp)).1
  ·exact(bw.mp (show(ofString "inner",cr)∈bS.filter (fun p=>p.2==.free)by rw[ua];simp)).1
  ·exact(bw.mp (show(ofString "n",cr)∈bS.filter (fun p=>p.2==.free)by rw[ua];simp)).1
 have kall:∀b o,b≠65→b≠72→s.heap.get? b=some o→dM.get? b=some o:=fun b o _ n2 e=>hs b o (fun q=>by have:=μf _ cμ;rw[←q,e]at this;cases this) (rJ b o n2 (hk b o e));have fF:Keep s.heap dM:=⟨kall⟩;have hg:∀{m' μ'},HE C (A.deeper env) P μ' env m' M (ev 12 X0 env.scope.names M):=fun{m' μ'}=>(fu d8 12).1 hAd;have hT:HT C (A.deeper env) P μ env m M (mT 12 X0 env.scope.names M):=(fu d8 12).2.1 hAd;refine bn (nU ?_);rw[show xB (f9 (aG (a7 11)) 1)=.IfExp (.Name (ofString "digits") ⟨106,36,106,42⟩) (.Call (.Name (ofString "inner") ⟨106,11,106,16⟩) [.Constant (.int 0) 0 ⟨106,17,106,18⟩,.Call (.Name (ofString "len") ⟨106,20,106,23⟩) [.Name (ofString "digits") ⟨106,24,106,30⟩] [] ⟨106,20,106,31⟩] [] ⟨106,11,106,32⟩) (.Constant (.int 0) 0 ⟨106,48,106,49⟩) ⟨106,11,106,49⟩from by kernel_rfl];refine wpAny_IfExp ?_;have et:mT 12 X0 env.scope.names M (.Name (ofString "digits") ⟨106,36,106,42⟩)=some (!(ds.map D.int).isEmpty):=by
  rw[esc];refine TD l1 (by kernel_rfl) (by kernel_rfl) ?_;show(if(ds.map D.int).length≤1000000 then some (!(ds.map D.int).isEmpty)else none)=_;rw[if_pos (by rw[ag];(exact ae hdl (by decide)))]
 refine aa (hT _ _ _ et jA gi) (fun c eG q=>?_) fun _ _ z=>z;obtain⟨rfl,o9,jE⟩:=q;have pj:=jA.keep jE;have uo:=I.keep t jE;by_cases hnil:ds=[]
 ·subst hnil
  refine aa (hg (.Constant (.int 0) 0 ⟨106,48,106,49⟩) (.int 0) _ (by rw[fg];rfl) pj o9) (fun v jg q=>?_) fun _ _ z=>z;(refine Uh q fun kE lb tv q0=>?_;subst q0);exact⟨kE,(fF.trans jE).trans lb,⟨tv,rfl⟩⟩
 ·have hpos:0<ds.length:=Ib.mpr hnil
  have hne:(!(ds.map D.int).isEmpty)=true:=by
   cases ds with
   |nil=>exact absurd rfl hnil
   |cons _ _=>rfl
  rw[hne];have ea:di (ev 12 X0 env.scope.names M) [.Constant (.int 0) 0 ⟨106,17,106,18⟩,.Call (.Name (ofString "len") ⟨106,20,106,23⟩) [.Name (ofString "digits") ⟨106,24,106,30⟩] [] ⟨106,20,106,31⟩]=some [.int (0:Nat),.int ds.length]:=by
   rw[esc];have hl:=gJ (l:=ds.map D.int) (by rw[ag];exact(fN 0xe53d09008e150f6e0dc2:) hdl);rw[ag]at hl;have hl':ox (ofString "len") [iL ds]=some (.int ds.length):=hl;exact jd (d:=.int (0:Nat)) rfl (jd (fR (n:=12) (qf hl' .nil) (by kernel_rfl) M (.add l1 .nil)) rfl)
  have hFn:FnAt f eG.heap:=by
   refine Uu uo.fo fun cv ctv doc pm ho _=>?_;exact⟨_,_,_,_,ho⟩
  refine jn hg pj o9 (.inr kI) eI uo.I hFn f65 f72 (by rfl) ea fun jg vs kE lb r=>?_;(refine Us (pN r) fun t1 t2 q0=>?_;subst q0);refine aa (Gl t hds hn hnl 13 _ jg 0 ds.length t1 t2 (hAd.le (by exact(fN 0x147bc2e13c217342e:))) kE (uo.keep t lb) (((lv.keep fF).keep jE).keep lb) hpos (ba _) (by(exact ae hdl (by decide)))) (fun v mP q=>?_) fun _ _ z=>z;(refine Uh q fun ll mS tv q0=>?_;subst q0);exact⟨ll,((fF.trans jE).trans lb).trans mS,⟨tv,by rw[IS]⟩⟩
theorem Jr (a s:Nat):a&&&(a/2^s*2^s)=a/2^s*2^s:=by
 apply Nat.eq_of_testBit_eq;intro i;rw[Nat.testBit_and,←Nat.shiftLeft_eq,←Nat.shiftRight_eq_div_pow,Nat.testBit_shiftLeft,Nat.testBit_shiftRight];by_cases h:s≤i
 ·have h3:s+(i-s)=i:=by(exact kR h)
  simp[h,h3]
 ·simp[h]
theorem JQ {x:Int} (h:0≤x) (s:Nat):uJ x (x/2^s*2^s)=x%2^s:=by
 obtain⟨a,rfl⟩:∃a:Nat,x=a:=⟨x.toNat,by(exact(bG h).symm)⟩;have e:(2:Int)^s=((2^s:Nat):Int):=by rw[i7];rfl
 have hand:uK (a:Int) ((a/2^s*2^s:Nat):Int)=((a&&&(a/2^s*2^s):Nat):Int):=by
  unfold uK;rw[decide_eq_true (by omega:(0:Int)≤(a:Int)),decide_eq_true (aY _)];rfl
 rw[e,←Pu,←PO,←Int.natCast_emod,bitXor_and,hand,Jr];have:=xd a (2^s);rw[eW]at this;exact(iq 0x1ccc8708c8420b9f21489823c62:) this
theorem AP {B:Int} (hB:0<B) {a b:Nat} {x:Int} (h:0≤x) (h2:x<B^(a+b)):lV B (a+b) x=lV B a (x%B^a)++lV B b (x/B^a):=by
 have hp:0<B^a:=Ih hB;have h0:0≤x%B^a:=i8 _ (by(exact db hp));have h1:x%B^a<B^a:=gF _ hp;have h3:0≤x/B^a:=ek h (by(exact aO hp));have h4:x/B^a<B^b:=jL hp (by rw[kv]at h2;rwa[eh]at h2);have hv:eF B (lV B a (x%B^a)++lV B b (x/B^a))=x:=by
  rw[m9,p9 hB b _ h3 h4,p9 hB a _ h0 h1,ko];have:=gS x (B^a);rw[eh];exact this
 have:=wA hB (lV B a (x%B^a)++lV B b (x/B^a)) fun y hy=>by
  rcases cF.mp hy with hy|hy
  ·exact sB hB _ _ y hy
  ·exact sB hB _ _ y hy
 rw[hv,ai,ko,ko]at this;exact this
noncomputable def LAt (ad:Addr) (xs:List Int) (h:Heap):Prop:=∃vs,h.PlainList ad vs∧Reps (fun _=>False) h (xs.map .int) vs.toList
theorem nr {P Q:Addr→Prop} {h h':Heap} {xs:List Int} {vs:List Value} (r:Reps P h (xs.map .int) vs):Reps Q h' (xs.map .int) vs:=Reps.flat (fun d hd=>by obtain⟨i,_,rfl⟩:=bc.mp hd;trivial) r
theorem LAt.at {ad:Addr} {xs:List Int} {h h':Heap} (x:LAt ad xs h) (k:∀o,h.get? ad=some o→h'.get? ad=some o):LAt ad xs h':=by
 refine Ua x fun vs h1 h2=>?_;exact⟨vs,h1.at k,nr h2⟩
structure KeepA (ad:Addr) (h h':Heap):Prop where
 get:∀a o,a≠65→a≠72→a≠ad→h.get? a=some o→h'.get? a=some o
theorem KeepA.refl {ad:Addr} {h:Heap}:KeepA ad h h:=⟨fun _ _ _ _ _ e=>e⟩
theorem KeepA.trans {ad:Addr} {h h' h'':Heap} (x:KeepA ad h h') (y:KeepA ad h' h''):KeepA ad h h'':=⟨fun a o p q r e=>y.get a o p q r (x.get a o p q r e)⟩
theorem KeepA.of {ad:Addr} {h h':Heap} (x:Keep h h'):KeepA ad h h':=⟨fun a o p q _ e=>x.get a o p q e⟩
theorem FI.outA {ah:Addr→Prop} {μ:List Addr} {h h':Heap} {env:Env} {m:Str→Option Value} {M:MM} {a:Addr} (F:FI ah μ h env m M) (ha:¬ah a) (haμ:a∉μ) (hc:∀v,¬h.IsCell a v) (hk:KeepA a h h') (hl:∃o,h'.get? a=some o):FI ah μ h' env m M:=by
 have pq:∀b o,Pm ah μ b→h.get? b=some o→h'.get? b=some o∧Pm ah μ b:=fun b o p e=>⟨hk.get b o (fun q=>F.tab.1 (q▸p.1)) (fun q=>F.tab.2 (q▸p.1)) (fun q=>ha (q▸p.1)) e,p⟩;have nμ:∀b∈μ,b≠a:=fun b q z=>haμ (z▸q);refine⟨fun b n=>?_,fun b q=>?_,F.tab,F.kind,F.glob,F.bi,?_,F.nL,fun x e q r=>?_,fun x r=>?_,F.st,F.inj,fun x e q r=>?_,F.ownInj⟩
 ·by_cases h1:b=65
  ·exact .inl h1
  ·by_cases h2:b=72
   ·exact .inr (.inl h2)
   ·rcases F.live b n with e|e|⟨o,e⟩
    ·exact .inl e
    ·exact .inr (.inl e)
    ·by_cases hb:b=a
     ·rw[hb];exact .inr (.inr hl)
     ·exact .inr (.inr ⟨o,hk.get b o h1 h2 hb e⟩)
 ·refine Uh (F.liveμ b q) fun n1 n2 o e=>?_
  exact⟨n1,n2,o,hk.get b o n1 n2 (nμ b q) e⟩
 ·refine Uk F.ns fun o es ep e z=>?_
  refine Ud (F.liveμ _ F.nL) fun n1 n2 _=>?_;exact⟨o,es,ep,hk.get _ _ n1 n2 (nμ _ F.nL) e,z⟩
 ·refine Ua (F.loc x e q r) fun v e1 e2=>?_
  refine⟨v,e1,?_⟩;cases e with
  |dat d=>exact Rep.mono pq e2
  |own l=>
   (refine Ug e2 fun b vs q0 p0 hb hl hr=>?_;subst q0);refine Ud (F.liveμ b hb) fun n1 n2 _=>?_;exact⟨b,vs,rfl,p0,hb,hl.at fun o e=>hk.get _ o n1 n2 (nμ b hb) e,Reps.mono pq hr⟩
 ·refine Ue (F.cell x r) fun c v e1 n1 n2 e2=>?_
  have hne:c≠a:=fun z=>hc v (z▸e2);refine Ua e2 fun o e3 e4=>?_;exact⟨c,v,e1,n1,n2,o,hk.get c o n1 n2 hne e3,e4⟩
 ·refine Ui (F.cval x e q r) fun c v d e1 e2 e3 e4=>?_
  refine Ue (F.cell x r) fun c' v' f1 n1 n2 _=>?_;rw[e1]at f1;cases f1;have hne:c≠a:=fun z=>hc _ (z▸e2);refine Ua e2 fun o e5 e6=>?_;exact⟨c,v,d,e1,⟨o,hk.get c o n1 n2 hne e5,e6⟩,e3,Rep.mono pq e4⟩
noncomputable abbrev aS:NS:=(aF lc).names
structure InA (C:aU) (ad f cD cI cN:Addr) (clos:List (Str×Addr)) (n:Nat) (h:Heap):Prop where
 fo:∃cv ctv doc pm,h.get? f=some (tP lc qA clos cv ctv doc pm)∧CodeNear h cv qA
 f6:f≠65∧f≠72
 D:h.IsCell cD (some (.ref ad))
 I:h.IsCell cI (some (.ref f))
 N:∃t,h.IsCell cN (some (.int n t))
 ne:(cD≠65∧cD≠72)∧(cI≠65∧cI≠72)∧(cN≠65∧cN≠72)
 lk:clos.lookup (ofString "a_digits")=some cD∧clos.lookup (ofString "inner")=some cI∧clos.lookup (ofString "n")=some cN
 inj:∀x y c,clos.lookup x=some c→clos.lookup y=some c→x=y
 a6:ad≠65∧ad≠72
 g:C.G.get? ad=none
theorem BW {h:Heap} {c ad:Addr} {v:Option Value} {vs:Array Value} (x:h.IsCell c v) (l:h.PlainList ad vs):c≠ad:=fun q=>by
 refine Ua x fun o e d=>?_;obtain⟨n,e'⟩:=l;rw[q,e']at e;cases e;cases d
theorem pX {vs:Array Value} {n:Nat}:iX {cls:=.type "list",data:=.seq vs n}:=fun _ _ _ z=>by cases z
theorem InA.keep {C:aU} {ad f cD cI cN:Addr} {clos:List (Str×Addr)} {n:Nat} {h h':Heap} (x:InA C ad f cD cI cN clos n h) (l:∃vs,h.PlainList ad vs) (k:KeepA ad h h'):InA C ad f cD cI cN clos n h':=by
 obtain⟨vs,l⟩:=l;obtain⟨cv,ctv,doc,pm,e1,c,rfl,nc1,nc2,hc⟩:=x.fo;obtain⟨tn,hn⟩:=x.N;have kc:∀{c v},h.IsCell c v→c≠65∧c≠72→h'.IsCell c v:=fun{c v} y ny=>by
  have:=BW y l;refine Ua y fun o e d=>?_;exact⟨o,k.get _ _ ny.1 ny.2 this e,d⟩
 have fne:f≠ad:=fun q=>by obtain⟨_,e'⟩:=l;rw[q,e']at e1;have:=congrArg Obj.data (dB e1);cases this
 refine⟨⟨_,ctv,doc,pm,k.get _ _ x.f6.1 x.f6.2 fne e1,c,rfl,nc1,nc2,?_⟩,x.f6,kc x.D x.ne.1,kc x.I x.ne.2.1,⟨tn,kc hn x.ne.2.2⟩,x.ne,x.lk,x.inj,x.a6,x.g⟩;obtain⟨_,el⟩:=id l;have cne:=ql el pX hc;refine UA hc fun c' o vs' t e2 e3 e4=>?_;cases e2;exact⟨c,o,vs',t,rfl,k.get _ _ nc1 nc2 cne e3,e4⟩
theorem uc:aS.filter (fun p=>p.2==.free)=[(ofString "a_digits",.free),(ofString "inner",.free),(ofString "n",.free)]:=by kernel_rfl
theorem O4:aS.all (fun p=>p.2 !=.cell)=true:=by kernel_rfl
theorem zg {x:Str} (h:aS.lookup x=some .free):x=ofString "a_digits"∨x=ofString "inner"∨x=ofString "n":=by
 have hm:(x,cr)∈aS.filter (fun p=>p.2==.free):=bw.mpr ⟨bk h,rfl⟩;rw[uc]at hm;simp only[aD,bx,or_false,jB,and_true]at hm;exact hm
theorem RL:Ik lc qA [ofString "x",ofString "L",ofString "R"] where
 bind:=fun clos cv ctv doc pm vs h=>by
  obtain⟨a,b,c,rfl⟩:=L3 h;kernel_rfl
 nodup:=yg (by kernel_rfl);kinds:=fun x hx=>by
  simp only[aD,bx,or_false]at hx;rcases hx with rfl|rfl|rfl<;>kernel_rfl
 nocell:=fun p hp e=>by
  have:=bF.mp O4 p hp;rw[e]at this;cases this
 plain:=⟨by kernel_rfl,by kernel_rfl,by kernel_rfl⟩
theorem Nf {a b:Int} {B:Nat} (h0:0≤a) (h:a≤b) (hb:b.natAbs<B):a.natAbs<B:=(Io 0x39ce5844b08754a2a80384003902001c9:) h0 h hb
theorem EJ {a b:Int} (h0:0≤a) (h:a≤b) (hb:sm b):sm a:=Nf h0 h hb
theorem SK {x y z:Int} (h8:y+z=x) (h9:0≤y):z≤x:=(ud 0x39caa935401d953d28:) h8 h9
theorem Nk {x X:Int} (hX:0<X) (hx:0≤x):x%X≤x:=SK (gS x X) (cb (aO hX) (ek hx (aO hX)))
theorem KC {a b:Int}:eS .BitXor (.int a) (.int b)=some (.int (uJ a b)):=rfl
theorem R2 (n:Nat) (x:Int) (L R:Nat) (hx:0≤x) (hxs:sm x) (hLR:L+1<R) (hR:R≤8000) (hn:n≤8000) (hsh:((L+R)/2-L)*n≤10000) (M:MM) (h0:M.lookup (ofString "x")=some (.dat (.int x))) (h1:M.lookup (ofString "L")=some (.dat (.int L))) (h2:M.lookup (ofString "R")=some (.dat (.int R))) (h3:M.lookup (ofString "n")=some (.dat (.int n))):
 ∃M',c7 (ex 12 X0 aS) ((aG lc).take 5) M=some (.next,M')∧M'.lookup (ofString "mid")=some (.dat (.int (((L+R)/2:Nat):Int)))∧M'.lookup (ofString "upper")=some (.dat (.int (x/2^(((L+R)/2-L)*n))))∧M'.lookup (ofString "lower")=some (.dat (.int (x%2^(((L+R)/2-L)*n))))∧
  M'.lookup (ofString "L")=some (.dat (.int L))∧M'.lookup (ofString "R")=some (.dat (.int R)):=by
 have hm:=Bx hLR hR hn;generalize hsv:((L+R)/2-L)*n=sh at hsh hm⊢;have hsu:sm (x/2^sh):=EJ (ek hx (aO (ga sh))) (jS _ hx) hxs;have q1:eS .RShift (.int x) (.int (sh:Nat))=some (.int (x/2^sh)):=by rw[B2 (aY _),bY,hV (ga _)]
 have q2:eS .LShift (.int (x/2^sh)) (.int (sh:Nat))=some (.int (x/2^sh*2^sh)):=by rw[wP ⟨hsu,aY _,bQ.mpr hsh⟩,bY]
 have q3:eS .BitXor (.int x) (.int (x/2^sh*2^sh))=some (.int (x%2^sh)):=by rw[KC,JQ hx]
 refine Ua (fC (n:=12) (ss:=(aG lc).take 5) (X:=X0) (sc:=aS) (fl:=.next) (L':=[(ofString "mid",.dat (.int (((L+R)/2:Nat):Int))),(ofString "upper",.dat (.int (x/2^sh))),(ofString "lower",.dat (.int (x%2^sh))),(ofString "L",.dat (.int L)),(ofString "R",.dat (.int R))])
  (qw (b:=((L:Int)+1==(R:Int))) (r:=false) (Bs hLR) (qb (Qd L R) (qb hm (qb q1 (qb q2 (qb q3 .nil)))))) (by kernel_rfl) M (.add h0 (.add h1 (.add h2 (.add h3 .nil))))) fun M' e H=>?_;exact⟨M',e,H _ _ rfl,H _ _ rfl,H _ _ rfl,H _ _ rfl,H _ _ rfl⟩
noncomputable def IB (st:Stmt):Expr:=(jM st).e
theorem KO:aG lc=(aG lc).take 5++[.Expr (IB (f9 (aG lc) 5)) ⟨93,8,93,28⟩,.Expr (IB (f9 (aG lc) 6)) ⟨94,8,94,28⟩]:=by kernel_rfl
noncomputable def H6 (C:aU) (ad:Addr) (xs:List Int) (s:Shared):Value→Shared→Prop:=fun v s'=>v=.none∧St C s'∧KeepA ad s.heap s'.heap∧LAt ad xs s'.heap
noncomputable def lM (xs:List Int) (L R n:Nat) (x:Int):List Int:=xs.take L++lV (2^n) (R-L) x++xs.drop R
theorem E6 {xs:List Int} {L R n:Nat} {x:Int} (h:L≤R) (h2:R≤xs.length):(lM xs L R n x).length=xs.length:=by
 unfold lM;rw[ai,ai,ko,fZ,cp];lia
theorem E5 {xs:List Int} {L m R n:Nat} {x:Int} (h:L≤m) (h1:m≤R) (h2:R≤xs.length) (hx:0≤x) (hx2:x<(2^n)^(R-L)):
 lM (lM xs L m n (x%(2^n)^(m-L))) m R n (x/(2^n)^(m-L))=lM xs L R n x:=by
 have e:=AP (ga n) (a:=m-L) (b:=R-m) hx (by rw[sO h h1];exact hx2);rw[sO h h1]at e;have hl:(xs.take L++lV (2^n) (m-L) (x%(2^n)^(m-L))).length=m:=by
  rw[ai,ko,fZ];exact(rY 0x1ce730379cd4292841d06218043280a2:) h h1 h2
 unfold lM;rw[e,Po hl,List.drop_append,jq (by(rw[hl];exact h1)),hl,po,show m+(R-m)=R by(exact kR h1),bX];simp only[aC]
theorem EG {C:aU} {P:Addr→Prop} (t:¬P 65∧¬P 72) {ad f cD cI cN:Addr} (hPa:¬P ad) {clos:List (Str×Addr)} {n:Nat} (hn:1≤n) (hn2:n≤8000)
 {j:Nat} {A:Around} {s:Shared} {L R:Nat} {x:Int} {tx tL tR:Tok} {xs:List Int} (hA:RA A (j+1)) (S:St C s) (I:InA C ad f cD cI cN clos n s.heap) (lv:Live P s.heap) (hl:LAt ad xs s.heap) (hLR:L<R) (hR:R≤xs.length) (hxl:xs.length≤8000) (hx:0≤x) (hx2:x<(2^n)^(R-L)) (hxs:sm x) (hnl:R=L+1∨n*((L+R)/2-L)≤10000)
 (hrec:R=L+1∨(L+1<R∧∀(A':Around) (s':Shared) (L' R':Nat) (x':Int) (tx' tL' tR':Tok) (xs':List Int),RA A' j→St C s'→InA C ad f cD cI cN clos n s'.heap→Live P s'.heap→LAt ad xs' s'.heap→xs'.length=xs.length→L'<R'→R'≤xs.length→R'-L'≤R-(L+R)/2→L≤L'→R'≤R→0≤x'→x'<(2^n)^(R'-L')→sm x'→
  wpAny (MD C) A' (call (.ref f) [.int x' tx',.int L' tL',.int R' tR']) (H6 C ad (lM xs' L' R' n x') s') bL s')):
 wpAny (MD C) A (call (.ref f) [.int x tx,.int L tL,.int R tR]) (H6 C ad (lM xs L R n x) s) bL s:=by
 obtain⟨cv,ctv,doc,pm,ho,cc,rfl,nc1,nc2,hcd⟩:=I.fo;obtain⟨tn,hN⟩:=I.N;obtain⟨Mf,hMf⟩:∃Mf:MM,Mf=[(ofString "n",.dat (.int n))]:=⟨_,rfl⟩;refine js (vo RL ho hcd hA S lv t (ds:=[.int x,.int L,.int R]) (vs:=[.int x tx,.int L tL,.int R tR]) ⟨_,_,rfl,⟨_,rfl⟩,_,_,rfl,⟨_,rfl⟩,_,_,rfl,⟨_,rfl⟩,rfl⟩ rfl (fun y hy=>?_) I.inj (Mf:=Mf) (fun y e hy=>?_) fun env bV tk m μ esc ecel efn F bu hk μf μG hAd=>?_)
 ·rcases zg hy with rfl|rfl|rfl
  ·exact⟨cD,_,I.lk.1,I.ne.1.1,I.ne.1.2,I.D⟩
  ·exact⟨cI,_,I.lk.2.1,I.ne.2.1.1,I.ne.2.1.2,I.I⟩
  ·exact⟨cN,_,I.lk.2.2,I.ne.2.2.1,I.ne.2.2.2,hN⟩
 ·have hm:=bk hy
  rw[hMf]at hm;simp only[aD,bx,or_false,jB]at hm;obtain⟨rfl,rfl⟩:=hm;exact⟨by kernel_rfl,cN,_,_,I.lk.2.2,hN,rfl,⟨tn,rfl⟩⟩
 ·obtain⟨M,hM⟩:∃M:MM,M=bU [ofString "x",ofString "L",ofString "R"] [.int x,.int L,.int R]++Mf:=⟨_,rfl⟩
  rw[←hM]at F;have hM':M=[(ofString "x",.dat (.int x)),(ofString "L",.dat (.int L)),(ofString "R",.dat (.int R)),(ofString "n",.dat (.int n))]:=by rw[hM,hMf];rfl
  have l0:M.lookup (ofString "x")=some (.dat (.int x)):=by rw[hM'];exact eQ
  have l1:M.lookup (ofString "L")=some (.dat (.int L)):=by rw[hM',ee (by decide+kernel)];exact eQ
  have l2:M.lookup (ofString "R")=some (.dat (.int R)):=by rw[hM',ee (by decide+kernel),ee (by decide+kernel)];exact eQ
  have l4:M.lookup (ofString "n")=some (.dat (.int n)):=by rw[hM',ee (by decide+kernel),ee (by decide+kernel),ee (by decide+kernel)];exact eQ
  have FN:Live P bV:=lv.keep (.of hk);refine Ua (id hl) fun vs0 pl0 rp0=>?_;obtain⟨on0,eo0⟩:=id pl0;have adμ:ad∉μ:=fun q=>by have:=μf _ q;rw[eo0]at this;cases this
  have kd:∀y,env.kindOf y=aS.lookup y:=fun y=>by show env.scope.names.lookup y=_;rw[esc]
  have hni:interactive env=false:=oa F;have BD:KeepA ad s.heap bV:=⟨fun b o _ _ _ e=>hk b o e⟩;have Q5:LAt ad xs bV:=hl.at fun o e=>hk _ o e;have TS:=I.keep ⟨_,pl0⟩ BD;have hgM:∀{μ' m' M'},HE C (A.deeper env) P μ' env m' M' (ev 12 X0 env.scope.names M'):=fun{μ' m' M'}=>(fu d8 12).1 hAd;rcases hrec with rfl|⟨h1,ih⟩
  ·
   rw[show aG lc=.If (PV (f9 (aG lc) 0)) [.Assign [.Subscript (.Name (ofString "a_digits") ⟨87,12,87,20⟩) (.Name (ofString "L") ⟨87,21,87,22⟩) ⟨87,12,87,23⟩] (.Name (ofString "x") ⟨87,26,87,27⟩) ⟨87,12,87,27⟩,.Return none ⟨88,12,88,18⟩] [] ⟨86,8,88,18⟩::(aG lc).drop 1 from by kernel_rfl];have et:mT 12 X0 env.scope.names M (PV (f9 (aG lc) 0))=some true:=by
    rw[esc];refine(nk (n:=12) (d:=((L:Int)+1==((L+1:Nat):Int))) .nil (by kernel_rfl) M (.add l1 (.add l2 .nil))).trans ?_;exact congrArg some (beq_iff_eq.mpr (by(rfl)))
   have hT:HT C (A.deeper env) P μ env m M (mT 12 X0 env.scope.names M):=(fu d8 12).2.1 hAd;refine bn (U1 (aa (hT _ _ _ et F bu) (fun c aV q=>?_) fun _ _ z=>z));obtain⟨rfl,eA,d9⟩:=q;have gn:=F.keep d9;have e1:ev 12 X0 env.scope.names M (.Name (ofString "x") ⟨87,26,87,27⟩)=some (.int x):=by rw[esc];exact ye l0 (by kernel_rfl)
   have e2:ev 12 X0 env.scope.names M (.Name (ofString "L") ⟨87,21,87,22⟩)=some (.int L):=by rw[esc];exact ye l1 (by kernel_rfl)
   have hcD:env.cells.lookup (ofString "a_digits")=some cD:=by rw[ecel];exact I.lk.1
   refine bn (IA (aa (hgM _ _ _ e1 gn eA) (fun v bq q=>?_) fun _ _ z=>z) (uO _ _ _ _ _));(refine Uh q fun gi fF tv q0=>?_;subst q0);have Ig:=TS.keep ⟨_,pl0.at fun o e=>hk _ o e⟩ ((KeepA.of d9).trans (.of fF));refine iO (sL F.kind (by rw[kd];kernel_rfl) hcD Ig.D ?_) (by decide+kernel);refine aa (hgM _ _ _ e2 (gn.keep fF) gi) (fun v eG q=>?_) fun _ _ z=>z;(refine Uh q fun o9 jE tl q0=>?_;subst q0);have k24:=(d9.trans fF).trans jE;refine Ua (Q5.at (h':=eG.heap) fun o e=>k24.get _ _ I.a6.1 I.a6.2 e) fun vs4 pl4 rp4=>?_;have hlen:=rp4.length;rw[aK,ag]at hlen;refine xR pl4 (by(exact aY _)) (by exact(iq 0x1ce5e4490b032506f085c2:) hR hlen) (by exact(dA 0x1ce5fd09008e90e827842e1d0fa00dc2:) hxl hR) fun h' hl' hs'=>?_;obtain⟨on4,eo4⟩:=id pl4;have kE:St C {eG with heap:=h'}:=o9.but (t:=eG.toks) eo4 pX I.g I.a6.1 I.a6.2 fun b o q e=>(hs'.2 b q).trans e;refine bn (wpAny_Return_none ⟨rfl,kE,⟨fun b o n1 n2 n3 e=>(hs'.2 b n3).trans (k24.get b o n1 n2 (hk b o e))⟩,?_⟩);refine⟨_,hl',?_⟩;have e:lM xs L (L+1) n x=xs.set L x:=by
    unfold lM;rw[show L+1-L=1 by exact(fN 0x18085c31804f085c2:)]at hx2⊢;rw[Int.pow_one]at hx2;rw[show lV (2^n) 1 x=[x]from by rw[lV];rw[ut hx hx2];rfl,List.set_eq_take_append_cons_drop,if_pos (by(assumption))];simp
   rw[e,xk,bY,Cg];exact sU (d:=.int x) ⟨tv,rfl⟩ (nr rp4)
  ·
   have hnl':n*((L+R)/2-L)≤10000:=by
    rcases hnl with h|h
    ·exact(iq 0x73944e2037130f085c21d86f085c2:) h1 h
    ·exact h
   refine Uz (R2 n x L R hx hxs h1 (by(exact ae hR hxl)) hn2 (by rw[eW];exact hnl') M l0 l1 l2 l4) fun M' e g1 g2 g3 g4 g5=>?_;rw[KO];refine oZ d8 hAd efn 12 _ M M' m μ ⟨bV,s.gens,s.drawn,tk,s.os⟩ (by rw[esc];exact e) μG F bu fun aV kC=>?_;refine Uc kC.ex fun m' μ' F' u1 u2=>?_;have d9:Keep s.heap aV.heap:=⟨fun b o n1 n2 e=>kC.k b o n1 n2 (fun q=>by rw[μf b q]at e;cases e) (hk b o e)⟩;have xg:=I.keep ⟨_,pl0⟩ (.of d9);have Q4:=hl.at (h':=aV.heap) fun o e=>d9.get _ _ I.a6.1 I.a6.2 e;have adμ':ad∉μ':=fun q=>by
    rcases u1 _ q with z|z
    ·exact adμ z
    ·have:=hk _ _ eo0;rw[show bV.get? ad=none from z]at this;cases this
   have hkI:env.kindOf (ofString "inner")=some .free:=by rw[kd];kernel_rfl
   have hcI:env.cells.lookup (ofString "inner")=some cI:=by rw[ecel];exact I.lk.2.1
   have hFn:∀{h':Heap},InA C ad f cD cI cN clos n h'→FnAt f h':=fun I'=>by
    refine Uu I'.fo fun cv ctv doc pm ho _=>?_;exact⟨_,_,_,_,ho⟩
   have hpow:(2:Int)^(((L+R)/2-L)*n)=(2^n)^((L+R)/2-L):=by rw[←ku,eW]
   rw[hpow]at g2 g3;generalize hmid:(L+R)/2=mid at g1 g2 g3 ih;have hm1:L<mid:=by exact(iq 0x739620b042d86f085c23004173c62:) h1 hmid
   have hm2:mid<R:=by exact(iq 0x7396193042d86f085c23004173c62:) h1 hmid
   have hp:(0:Int)<(2^n)^(mid-L):=Ih (ga n);have hlo0:0≤x%(2^n)^(mid-L):=i8 _ (by(exact db hp));have hlo1:x%(2^n)^(mid-L)<(2^n)^(mid-L):=gF _ hp;have hup0:0≤x/(2^n)^(mid-L):=ek hx (by(exact aY _));have hup1:x/(2^n)^(mid-L)<(2^n)^(R-mid):=jL hp (by rw[eh,←kv,sO (a5 hm1) (a5 hm2)];exact hx2);have hlos:sm (x%(2^n)^(mid-L)):=by
    exact EJ hlo0 (Nk hp hx) hxs
   have hups:sm (x/(2^n)^(mid-L)):=by
    exact EJ hup0 (jS _ hx) hxs
   have ea1:di (ev 12 X0 env.scope.names M') [.Name (ofString "lower") ⟨93,14,93,19⟩,.Name (ofString "L") ⟨93,21,93,22⟩,.Name (ofString "mid") ⟨93,24,93,27⟩]=some [.int (x%(2^n)^(mid-L)),.int L,.int mid]:=by
    rw[esc];exact jd (ye g3 (by kernel_rfl)) (jd (ye g4 (by kernel_rfl)) (jd (ye g1 (by kernel_rfl)) rfl))
   have ea2:di (ev 12 X0 env.scope.names M') [.Name (ofString "upper") ⟨94,14,94,19⟩,.Name (ofString "mid") ⟨94,21,94,24⟩,.Name (ofString "R") ⟨94,26,94,27⟩]=some [.int (x/(2^n)^(mid-L)),.int mid,.int R]:=by
    rw[esc];exact jd (ye g2 (by kernel_rfl)) (jd (ye g1 (by kernel_rfl)) (jd (ye g5 (by kernel_rfl)) rfl))
   rw[show IB (f9 (aG lc) 5)=.Call (.Name (ofString "inner") ⟨93,8,93,13⟩) [.Name (ofString "lower") ⟨93,14,93,19⟩,.Name (ofString "L") ⟨93,21,93,22⟩,.Name (ofString "mid") ⟨93,24,93,27⟩] [] ⟨93,8,93,28⟩from by kernel_rfl,
    show IB (f9 (aG lc) 6)=.Call (.Name (ofString "inner") ⟨94,8,94,13⟩) [.Name (ofString "upper") ⟨94,14,94,19⟩,.Name (ofString "mid") ⟨94,21,94,24⟩,.Name (ofString "R") ⟨94,26,94,27⟩] [] ⟨94,8,94,28⟩from by kernel_rfl];refine bn (mO ?_ hni rfl);refine jn hgM F' kC.S (.inl hkI) hcI xg.I (hFn xg) I.f6.1 I.f6.2 (by rfl) ea1 fun bq vs gi fF r=>?_;obtain⟨t1,t2,t3,rfl⟩:=v5 r;have pl2:∃vs,aV.heap.PlainList ad vs:=⟨vs0,pl0.at fun o e=>d9.get _ _ I.a6.1 I.a6.2 e⟩;have Ig:=xg.keep pl2 (.of fF);have Q2:=Q4.at (h':=bq.heap) fun o e=>fF.get _ _ I.a6.1 I.a6.2 e;refine aa (ih _ bq L mid _ t1 t2 t3 xs hAd gi Ig ((lv.keep d9).keep fF) Q2 rfl hm1 (by(exact a5 (aP hm2 hR))) (by lia) (by(exact ba _)) (by(exact a5 hm2)) hlo0 hlo1 hlos) (fun v eG q=>?_) fun _ _ z=>z;(refine Uj q fun q0 o9 jE GA=>?_;subst q0);have kA:KeepA ad aV.heap eG.heap:=(KeepA.of fF).trans jE;have uo:=xg.keep pl2 kA;obtain⟨vs2,pl2'⟩:=pl2;have pj:FI P μ' eG.heap env m' M':=F'.outA hPa adμ' (fun v hc=>BW hc pl2' rfl) kA (by(refine Ua GA fun vs q0 _=>?_;refine Un q0 fun o e=>?_);exact⟨_,e⟩);have QE:Live P eG.heap:=pj.live;refine bn (mO ?_ hni rfl);refine jn hgM pj o9 (.inl hkI) hcI uo.I (hFn uo) I.f6.1 I.f6.2 (by rfl) ea2 fun jg vs kE lb r=>?_;obtain⟨t1,t2,t3,rfl⟩:=v5 r;refine Ua (id GA) fun vs4 pl4 rp4=>?_;have Ie:=uo.keep ⟨_,pl4⟩ (.of lb);have Gz:=GA.at (h':=jg.heap) fun o e=>lb.get _ _ I.a6.1 I.a6.2 e;refine aa (ih _ jg mid R _ t1 t2 t3 _ hAd kE Ie (QE.keep lb) Gz (E6 (by(exact a5 hm1)) (by(exact a5 (aP hm2 hR)))) (by omega) hR (by(exact ba _)) (by(exact a5 hm1)) (by lia) hup0 hup1 hups) (fun v mP q=>?_) fun _ _ z=>z;(refine Uj q fun q0 ll mS Gy=>?_;subst q0);refine fS ⟨rfl,ll,(((KeepA.of d9).trans kA).trans (.of lb)).trans mS,?_⟩;rwa[E5 (by(exact a5 hm1)) (by(exact a5 hm2)) hR hx hx2]at Gy
theorem Gm {C:aU} {P:Addr→Prop} (t:¬P 65∧¬P 72) {ad f cD cI cN:Addr} (hPa:¬P ad) {clos:List (Str×Addr)} {n:Nat} (hn:1≤n) (hn2:n≤8000):
 ∀(j:Nat) (A:Around) (s:Shared) (L R:Nat) (x:Int) (tx tL tR:Tok) (xs:List Int),RA A (j+1)→St C s→InA C ad f cD cI cN clos n s.heap→Live P s.heap→LAt ad xs s.heap→L<R→R≤xs.length→xs.length≤8000→(R≤L+1∨n*(R-L)≤18000)→R-L≤2^j→0≤x→x<(2^n)^(R-L)→sm x→
  wpAny (MD C) A (call (.ref f) [.int x tx,.int L tL,.int R tR]) (H6 C ad (lM xs L R n x) s) bL s:=by
 intro j;induction j with
 |zero=>
  intro A s L R x tx tL tR xs hA S I lv hl hLR hR hxl hnR hj hx hx2 hxs;have hR1:R=L+1:=LU hLR hj;exact EG t hPa hn hn2 hA S I lv hl hLR hR hxl hx hx2 hxs (.inl hR1) (.inl hR1)
 |succ j ih=>
  intro A s L R x tx tL tR xs hA S I lv hl hLR hR hxl hnR hj hx hx2 hxs;by_cases h1:R=L+1
  ·exact EG t hPa hn hn2 hA S I lv hl hLR hR hxl hx hx2 hxs (.inl h1) (.inl h1)
  ·have hnR':n*(R-L)≤18000:=by
    rcases hnR with h|h
    ·exact(iq 0xe73948ca037128f085c21fb0f085c21d862:) hLR h1 h
    ·exact h
   have hmul:n*((L+R)/2-L)*2≤n*(R-L):=by
    rw[Nat.mul_assoc];exact kQ n (by exact(dA 0x5091105c7180653004173c4318062:))
   refine EG t hPa hn hn2 hA S I lv hl hLR hR hxl hx hx2 hxs (.inr (by exact(dA 0x73944e20370e828882e1d23280dc2:) hnR' hmul)) (.inr ⟨by exact(dA 0xe72c37842e17b0f085c21d862:) hLR h1,fun A' s' L' R' x' tx' tL' tR' xs' hA' S' I' lv' hl' hxl' a b c d1 d2 e1 e2 e3=>?_⟩);refine ih A' s' L' R' x' tx' tL' tR' xs' hA' S' I' lv' hl' a (by(rw[hxl'];exact b)) (by(rw[hxl'];exact hxl)) (.inr (ae (kQ n (by exact(rY 0x739431e85250621806418045:) d1 d2)) hnR')) (LT (ae hj (fJ (DO ..))) c) e1 e2 e3
noncomputable def R3:Stmt:=f9 (aG (a7 10)) 0
theorem K9:aG (a7 10)=[R3]++[lc,.If (.Name (ofString "a") ⟨95,7,95,8⟩) [.Expr (.Call (.Name (ofString "inner") ⟨96,8,96,13⟩) [.Name (ofString "a") ⟨96,14,96,15⟩,.Constant (.int 0) 0 ⟨96,17,96,18⟩,.Call (.Name (ofString "len") ⟨96,20,96,23⟩) [.Name (ofString "a_digits") ⟨96,24,96,32⟩] [] ⟨96,20,96,33⟩] [] ⟨96,8,96,34⟩) ⟨96,8,96,34⟩] [] ⟨95,4,96,34⟩,
 .Return (some (.Name (ofString "a_digits") ⟨97,11,97,19⟩)) ⟨97,4,97,19⟩]:=by kernel_rfl
theorem Cl (a:Int) (n:Nat) (hn:1≤n∧n≤8000) (hb:fG a≤8000) (M:MM) (h1:M.lookup (ofString "a")=some (.dat (.int a))) (h2:M.lookup (ofString "n")=some (.dat (.int n))):
 c7 (ex 12 X0 (aF (a7 10)).names) [R3] M=some (.next,M.set (ofString "a_digits") (.dat (iL (aA (gP a n) 0)))):=by
 have hd:gP a n≤16000:=ae (Nat.div_le_self _ _) (by exact(dA 0x1ce51f400dc4a1f401b87aa1f401b8541042e1802173c43:) hn hb);have e:((fG a:Int)+(n:Int)-1).fdiv n=((gP a n:Nat):Int):=by
  rw[hV (by(exact jz.mpr hn.1))];unfold gP;rw[show(fG a:Int)+(n:Int)-1=((fG a+n-1:Nat):Int)by exact(dA 0x399912010b9f21487aa1f401b8541042e1802173c43:) hn];exact(Pu _ _).symm
 have q1:eS .FloorDiv (.int ((fG a:Int)+(n:Int)-1)) (.int n)=some (.int (gP a n:Nat)):=by
  rw[qv ⟨by exact(fN 0xe7b207485aa1f401b8541042e:) hn,cL (by exact(fN 0x39aaf46a52880021d2156429f46a52880021daa1f401b8541042e:) hn)⟩,e]
 have q2:eS .Mult (.list [.int 0]) (.int (gP a n:Nat))=some (iL (aA (gP a n) 0)):=by
  rw[t9 (by exact(fN 0x7355f424023a42ac840751f400dc2:) hd),bY];unfold iL;rw[lB]
 conv=>lhs;arg 2;arg 1;whnf
 exact dO (BM (by kernel_rfl) (fR (n:=12) (qt (vX (a:=a)) (qb q1 (qb q2 .nil))) (by kernel_rfl) M (.add h1 (.add h2 .nil)))) rfl
theorem yu {C:aU} {k:Nat}:cg C (k+16) 70 zy:=by
 rintro as d ⟨a,n,ha,has,hn,hn2,rfl,rfl⟩;refine⟨fun{A s P vs} hA S lv t hr=>?_⟩;have hab:fG a≤8000:=bitsN_le.mpr has;have hdN:gP a n≤8000:=by
  unfold gP;rw[Nat.div_le_iff_le_mul (by(assumption))];have:fG a≤8000*n:=ae hab (Cf _ hn);exact(dA 0x739429287d006e1d0410b860085cf14447d006e1802173c43:) hn hab
 have hdm:n*gP a n≤16000:=by
  unfold gP;have:=rr (fG a+n-1) n;rw[eW]at this;exact(iq 0x739ca3e801b89429287d006e1d0fa00dc21802173c43:) hn2 hab this
 (refine Us (pN hr) fun t1 t2 q0=>?_;subst q0);obtain⟨uj,GH⟩:∃uj:Addr→Prop,uj=fun b=>s.heap.get? b=none∧b≠65∧b≠72:=⟨_,rfl⟩;have FN:Live uj s.heap:=fun b nb=>by
  by_cases h1:b=65
  ·exact .inl h1
  ·by_cases h2:b=72
   ·exact .inr (.inl h2)
   ·cases e:s.heap.get? b with
    |none=>exact absurd (by rw[GH];exact⟨e,h1,h2⟩) nb
    |some o=>exact .inr (.inr ⟨o,rfl⟩)
 have El:¬uj 65∧¬uj 72:=by rw[GH];exact⟨fun q=>q.2.1 rfl,fun q=>q.2.2 rfl⟩
 refine js (nE Rm (k:=k+15) hA S FN El (ds:=[.int a,.int n]) ⟨_,_,rfl,⟨t1,rfl⟩,_,_,rfl,⟨t2,rfl⟩,rfl⟩ rfl fun env bV tk m μ henv esc efn F bu hk μf μG hAd=>?_);obtain⟨M,hM⟩:∃M:MM,M=bU (ej (a7 10)) [.int a,.int n]:=⟨_,rfl⟩;rw[←hM]at F;have hM':M=[(ofString "a",.dat (.int a)),(ofString "n",.dat (.int n))]:=by rw[hM];kernel_rfl
 have l1:M.lookup (ofString "a")=some (.dat (.int a)):=by rw[hM'];exact eQ
 have l2:M.lookup (ofString "n")=some (.dat (.int n)):=by rw[hM',ee (by decide+kernel)];exact eQ
 have kd:∀x,env.kindOf x=(aF (a7 10)).names.lookup x:=fun x=>by show env.scope.names.lookup x=_;rw[esc]
 have kD:env.kindOf (ofString "a_digits")=some .cell:=by rw[kd];kernel_rfl
 have kN:env.kindOf (ofString "n")=some .cell:=by rw[kd];kernel_rfl
 have kI:env.kindOf (ofString "inner")=some .cell:=by rw[kd];kernel_rfl
 have e0:=Cl a n ⟨hn,hn2⟩ hab M l1 l2;obtain⟨M1,hM1⟩:∃M1,M1=M.set (ofString "a_digits") (.dat (iL (aA (gP a n) 0))):=⟨_,rfl⟩;rw[←hM1]at e0;have j0:M1.lookup (ofString "a_digits")=some (.dat (iL (aA (gP a n) 0))):=by rw[hM1];exact ic
 have j1:M1.lookup (ofString "a")=some (.dat (.int a)):=by rw[hM1,f8 (by decide+kernel)];exact l1
 have j2:M1.lookup (ofString "n")=some (.dat (.int n)):=by rw[hM1,f8 (by decide+kernel)];exact l2
 have j3:M1.lookup (ofString "inner")=none:=by rw[hM1,f8 (by decide+kernel),hM',ee (by decide+kernel),ee (by decide+kernel)];rfl
 rw[K9];refine oZ d8 hAd efn 12 _ M M1 m μ ⟨bV,s.gens,s.drawn,tk,s.os⟩ (by rw[esc];exact e0) μG F bu fun aV kC=>?_;refine Uc kC.ex fun m' μ' F' u1 u2=>?_;have d9:Keep s.heap aV.heap:=⟨fun b o n1 n2 e=>kC.k b o n1 n2 (fun q=>by rw[μf b q]at e;cases e) (hk b o e)⟩;have μf':∀b∈μ',s.heap.get? b=none:=fun b q=>by
  rcases u1 b q with z|z
  ·exact μf b z
  ·cases e:s.heap.get? b with
   |none=>rfl
   |some o=>have:=hk b o e;rw[show bV.get? b=none from z]at this;cases this
 refine Ui (F'.cval _ _ j0 (.inl kD)) fun cD0 vD dD eD0 hD0 e1 rD=>?_;cases e1;(refine Ue rD fun ad vs0 q0 q1 pl0 rp0=>?_;subst q0;refine UG q1 fun pad adμ=>?_);have adf:s.heap.get? ad=none∧ad≠65∧ad≠72:=by rw[GH]at pad;exact pad
 have adG:C.G.get? ad=none:=by
  cases e:C.G.get? ad with
  |none=>rfl
  |some o=>have:=S.g _ _ e;rw[adf.1]at this;cases this
 refine bn ?_;rw[NG];have hfr:∀p∈(aF lc).names,p.2=.free→∃c,env.cells.lookup p.1=some c:=fun p hp e=>by
  have:(aF lc).names.lookup p.1=some .free:=by
   have hm:p∈aS.filter (fun p=>p.2==.free):=bw.mpr ⟨hp,by rw[e];rfl⟩;rw[uc]at hm;simp only[aD,bx,or_false]at hm;rcases hm with rfl|rfl|rfl<;>kernel_rfl
  rcases zg this with e|e|e<;>rw[e]
  ·refine Uf (F'.cell _ (.inl kD)) fun c _ h _=>?_;exact⟨c,h⟩
  ·refine Uf (F'.cell _ (.inl kI)) fun c _ h _=>?_;exact⟨c,h⟩
  ·refine Uf (F'.cell _ (.inl kN)) fun c _ h _=>?_;exact⟨c,h⟩
 refine nestDef_K (by kernel_rfl) (by kernel_rfl) (by rfl) ?_;rw[show qualnameIn env (ofString "inner") (ofString "inner")=qA from by
  unfold qualnameIn;rw[kI,henv];show((dy (Kf C) 70).qualname++_)++_=_;rw[show(dy (Kf C) 70).qualname=_ from congrArg (fun x=>x.qc.1.1) C.F];kernel_rfl];refine Nm kC.S (ip hfr) F'.glob (by rw[henv];exact congrArg (fun x=>x.qc.1.2) C.F) fun f cv ctv doc pm bR xE rJ eA hfn hf hcn=>?_;have gn:FI uj μ' bR env m' M1:=F'.keep ⟨fun b o n1 _ e=>rJ b o n1 e⟩;refine Ue (gn.cell _ (.inl kI)) fun cI vI eI nI1 nI2 hcI=>?_;refine kT F'.kind kI eI hcI fun dM tG Gu=>?_;have hs:∀b o,b≠cI→bR.get? b=some o→dM.get? b=some o:=fun b o q e=>(Gu.2 b q).trans e;have cμ:=gn.st _ _ efn kI eI;have jA:FI uj μ' dM env m' M1:=gn.cellOut j3 kI eI cμ tG hs;refine Ua hcI fun oc ec dc=>?_;have gi:St C ⟨dM,aV.gens,aV.drawn,xE,aV.os⟩:=eA.but (t:=xE) ec (fun vs q t z=>by rw[dc]at z;cases z) (u2 _ cμ) nI1 nI2 hs;have nf:f≠cI:=fun q=>by rw[q,ec]at hf;cases hf;cases dc
 have f65:f≠65:=fun q=>kC.S.live65 (q▸hfn);have f72:f≠72:=fun q=>kC.S.live72 (q▸hfn);have Ff:dM.PlainList ad vs0:=by
  refine pl0.at fun o e=>hs _ o (fun q=>adμ (q▸cμ)) (rJ _ o adf.2.1 e)
 refine Ue (F'.cell _ (.inl kD)) fun c' _ z nD1 nD2 _=>?_;rw[eD0]at z;cases z;have nDI:cD0≠cI:=fun q=>absurd (F'.inj _ _ _ eD0 (q▸eI)) (by decide+kernel);have hD:dM.IsCell cD0 (some (.ref ad)):=by
  refine Ua hD0 fun o e2 e3=>?_;exact⟨o,hs _ _ nDI (rJ _ o nD1 e2),e3⟩
 refine Ui (jA.cval _ _ j2 (.inl kN)) fun cN vN dN eN hN e1 rN=>?_;cases e1;obtain⟨tN,rfl⟩:=rN;refine Ue (jA.cell _ (.inl kN)) fun c' _ z nN1 nN2 _=>?_;rw[eN]at z;cases z;have I:InA C ad f cD0 cI cN (clo env (aF lc).names []) n dM:=by
  refine⟨⟨cv,ctv,doc,pm,hs _ _ nf hf,?_⟩,⟨f65,f72⟩,hD,tG,⟨tN,hN⟩,⟨⟨nD1,nD2⟩,⟨nI1,nI2⟩,⟨nN1,nN2⟩⟩,⟨lX hfr ?_ eD0,lX hfr ?_ eI,lX hfr ?_ eN⟩,fun x y c q1 q2=>jA.inj x y c (nH hfr q1) (nH hfr q2),adf.2,adG⟩
  ·(refine Uq hcn fun c q0 n1 n2 hrec=>?_;subst q0)
   have nc:=ql ec (fun vs q t z=>by rw[dc]at z;cases z) hrec;refine UA hrec fun c' o vs t e1 e2 e3=>?_;cases e1;exact⟨c,rfl,n1,n2,c,o,vs,t,rfl,hs _ _ nc e2,e3⟩
  ·exact(bw.mp (show(ofString "a_digits",cr)∈aS.filter (fun p=>p.2==.free)by rw[uc];simp)).1
  ·exact(bw.mp (show(ofString "inner",cr)∈aS.filter (fun p=>p.2==.free)by rw[uc];simp)).1
  ·exact(bw.mp (show(ofString "n",cr)∈aS.filter (fun p=>p.2==.free)by rw[uc];simp)).1
 have fF:Keep s.heap dM:=⟨fun b o n1 n2 e=>hs b o (fun q=>by have:=μf' _ cμ;rw[←q,e]at this;cases this) (rJ b o n1 (d9.get b o n1 n2 e))⟩;have hg:∀{m' μ' M},HE C (A.deeper env) uj μ' env m' M (ev 12 X0 env.scope.names M):=fun{m' μ' M}=>(fu d8 12).1 hAd;have hT:HT C (A.deeper env) uj μ' env m' M1 (mT 12 X0 env.scope.names M1):=(fu d8 12).2.1 hAd;have hPad:∀{h':Heap},P ad:=fun{h'}=>by
  refine a8 fun q=>?_;rcases lv ad q with e|e|⟨o,e⟩
  ·exact adf.2.1 e
  ·exact adf.2.2 e
  ·rw[adf.1]at e;cases e
 have fin:∀jg:Shared,St C jg→KeepA ad dM jg.heap→LAt ad (io a n) jg.heap→wpAny (MD C) (A.deeper env) (execs [.Return (some (.Name (ofString "a_digits") ⟨97,11,97,19⟩)) ⟨97,4,97,19⟩] env) (fun fl s'=>Post C s P (iL (io a n)) (match fl with|.ret v=>v|_=>.none) s') bL jg:=fun jg kE lb Gz=>by
  have Ie:=I.keep ⟨_,Ff⟩ lb;refine bn (nU (iO (sM F'.kind kD eD0 Ie.D ⟨kE,⟨fun b o n1 n2 e=>lb.get b o n1 n2 (fun q=>by rw[q,adf.1]at e;cases e) (fF.get b o n1 n2 e)⟩,?_⟩) (by decide+kernel)));refine Ua Gz fun vs pl rp=>?_;exact⟨ad,vs,rfl,hPad (h':=jg.heap),pl,nr rp⟩
 have et:mT 12 X0 env.scope.names M1 (.Name (ofString "a") ⟨95,7,95,8⟩)=some (a !=0):=by
  rw[esc];exact Om j1 (by kernel_rfl) rfl
 refine bn (U1 (aa (hT _ _ _ et jA gi) (fun c eG q=>?_) fun _ _ z=>z));obtain⟨rfl,o9,jE⟩:=q;have pj:=jA.keep jE;have uo:=I.keep ⟨_,Ff⟩ (.of jE);have Fe:=Ff.at fun o e=>jE.get _ _ adf.2.1 adf.2.2 e;by_cases h0:a=0
 ·subst h0
  rw[show((0:Int) !=0)=false from rfl];refine fS (fin eG o9 (.of jE) ⟨vs0,Fe,?_⟩);have hz:gP 0 n=0:=by
   unfold gP;have:fG 0=0:=Nat.le_zero.mp (bitsN_le.mpr (by decide));rw[this];exact Pl (by exact(fN 0x39610e82085c30042e7880e:) hn)
  have e:io 0 n=aA (gP 0 n) 0:=by unfold io;rw[hz];rfl
  rw[e];exact nr rp0
 ·rw[show(a !=0)=true from bne_iff_ne.mpr h0]
  have ea:di (ev 12 X0 env.scope.names M1) [.Name (ofString "a") ⟨96,14,96,15⟩,.Constant (.int 0) 0 ⟨96,17,96,18⟩,.Call (.Name (ofString "len") ⟨96,20,96,23⟩) [.Name (ofString "a_digits") ⟨96,24,96,32⟩] [] ⟨96,20,96,33⟩]=some [.int a,.int (0:Nat),.int (gP a n:Nat)]:=by
   rw[esc];have hl:ox (ofString "len") [iL (aA (gP a n) 0)]=some (.int (gP a n:Nat)):=by
    have:=gJ (l:=(aA (gP a n) (0:Int)).map D.int) (by rw[ag,a9];(exact ae hdN (by decide)));rwa[ag,a9]at this
   exact jd (ye j1 (by kernel_rfl)) (jd (d:=.int (0:Nat)) rfl (jd (fR (n:=12) (qf hl .nil) (by kernel_rfl) M1 (.add j0 .nil)) rfl))
  have hFn:FnAt f eG.heap:=by
   refine Uu uo.fo fun cv ctv doc pm ho _=>?_;exact⟨_,_,_,_,ho⟩
  have hpos:0<gP a n:=by
   refine Nat.pos_of_ne_zero fun q=>?_;have:=yP hn ha;rw[show io a n=[]from gw (by rw[qh,q])]at this;exact h0 this.symm
  refine bn (mO ?_ (oa pj) rfl);refine jn hg pj o9 (.inr kI) eI uo.I hFn f65 f72 (by rfl) ea fun jg vs kE lb r=>?_;obtain⟨t1,t2,t3,rfl⟩:=v5 r;have Ie:=uo.keep ⟨_,Fe⟩ (.of lb);have Lq:=Fe.at fun o e=>lb.get _ _ adf.2.1 adf.2.2 e;have Rb:Live (qH uj ad ad) jg.heap:=fun b nb=>by
   by_cases h1:b=ad
   ·rw[h1];obtain⟨o,e⟩:=Lq;exact .inr (.inr ⟨_,e⟩)
   ·exact(pj.keep lb).live b fun p=>nb ⟨p,h1,h1⟩
  refine aa (Gm (P:=qH uj ad ad) ⟨fun q=>El.1 q.1,fun q=>El.2 q.1⟩ (fun q=>q.2.1 rfl) hn hn2 13 _ jg 0 (gP a n) a t1 t2 t3 (aA (gP a n) 0) (hAd.le (by exact(fN 0x147bc2e13c217342e:))) kE Ie Rb ⟨vs0,Lq,nr rp0⟩ hpos (by rw[a9];exact ba _) (by rw[a9];exact hdN) (.inr (by rw[lr];(exact ae hdm (by decide)))) (by(exact ae hdN (by decide))) ha (by rw[lr];exact yO hn ha) has) (fun v mP q=>?_) fun _ _ z=>z;(refine Uj q fun q0 ll mS Gy=>?_;subst q0);refine fS (fin mP ll (((KeepA.of jE).trans (.of lb)).trans mS) ?_);have e:lM (aA (gP a n) 0) 0 (gP a n) n a=io a n:=by
   unfold lM io;rw[lr,lA,bX,jq (by rw[a9];exact ba _),bH]
  rwa[e]at Gy
section
variable {M:Model} {A:Around} {R:GenEnd} {Y:Protocol} {n:Nat} {fq:Shared} {c:Code} {fs:List Frame} {s:Shared} {env:Env}
 {K:Flow→Sem Fin} {H:Value→Sem Fin} {gd:Bool→Bool} {lv:List Value→List Value}
theorem vy {α β γ:Type} (m:Sem α) (f:α→Sem β) (K:β→Sem γ) (H:Value→Sem γ) (gd:Bool→Bool) (lv:List Value→List Value):(m>>=f).wrap K H gd lv=m.wrap (fun a=>(f a).wrap K H gd lv) H gd lv:=by
 rw[Sem.bind_eq_wrap',Sem.wrap_wrap];rfl
theorem fB {α β:Type} {m:Sem α} {f:α→Sem β} {K:β→Sem Fin} (h:wpAny M (A.over c fs) m (fun a s'=>Seg M A R Y n fq c ((f a).wrap K H gd lv) fs s') bL s):Seg M A R Y n fq c ((m>>=f).wrap K H gd lv) fs s:=by
 rw[vy];exact seg_wrap (aa h (fun _ _ q=>q) fun _ _ q=>q.elim)
theorem sR {st:Stmt} {rest:List Stmt} (h:wpAny M (A.over c fs) (exec st env) (fun fl s'=>fl=.next∧Seg M A R Y n fq c ((execs rest env).wrap K H gd lv) fs s') bL s):Seg M A R Y n fq c ((execs (st::rest) env).wrap K H gd lv) fs s:=by
 refine mQ (seg_wrap (aa h (fun fl s' q=>?_) fun _ _ q=>q.elim));obtain⟨rfl,q⟩:=q;exact q
theorem EP {t:Expr} {b o:List Stmt} {pos:Pos} (h:wpAny M (A.over c fs) (isTrue t env (eval t env)) (fun r s'=>if r=true then Seg M A R Y n fq c ((execs b env).wrap K H gd lv) fs s' else Seg M A R Y n fq c ((execs o env).wrap K H gd lv) fs s') bL s):
 Seg M A R Y n fq c ((exec (.If t b o pos) env).wrap K H gd lv) fs s:=by
 rw[exec_If];refine fB (bM (fB (aa h (fun r s' q=>?_) fun _ _ q=>q)));cases r
 ·exact q
 ·exact q
noncomputable abbrev Bq (env:Env) (K:Flow→Sem Fin) (H:Value→Sem Fin) (gd:Bool→Bool) (lv:List Value→List Value):Result→Sem Fin:=
 fun r=>((match r with|.ok f=>(.pure f:Sem Flow)|.error e=>.raise e).onRaise fun(x:Value)=>do
  if(←field x 1)==wX then unsupported "frame.own-activation:exception-without-traceback"
  setFlight x env.frame).wrap K H gd lv
theorem IQ {c':Code} (h:∀p,Seg M A R Y n fq c' (M.den c') (.ret (Bq env K H gd lv) none (gd false) (lv []) c p []::fs) s):Seg M A R Y n fq c ((runOwn c' env).wrap K H gd lv) fs s:=seg_call h
theorem IT {target iter:Expr} {body:List Stmt} {pos:Pos} (hs:∀x,foldedSetIterable iter env x=pure x)
 (h:wpAny M (A.over c fs) (eval iter env) (fun x az=>wpAny M (A.over c fs) (pyIter x) (fun it aV=>∀p,Seg M A R Y n fq (.forLoop target it body [] env) (M.den (.forLoop target it body [] env)) (.ret (Bq env K H gd lv) none (gd false) (lv []) c p []::fs) aV) bL az) bL s):
 Seg M A R Y n fq c ((exec (.For target iter body [] pos) env).wrap K H gd lv) fs s:=by
 rw[exec_For];refine fB (bM (fB (aa h (fun x az bV=>?_) fun _ _ q=>q)));refine fB (iM (hs x) (fB (bM (fB (fk (aa bV (fun it aV bR=>?_) fun _ _ q=>q))))));exact IQ bR
end
section
variable {prog:Program} {w:World} {A:Around} {R:GenEnd} {Y:Protocol} {n:Nat} {fq:Shared} {fs:List Frame} {s:Shared} {env:Env}
noncomputable abbrev Fy (env:Env):Value→Sem Fin:=fun e=>(do noteFrame e env;theTreesLotGoes e:Sem Unit).wrap (fun _=>.raise e) .raise id id
noncomputable abbrev Ri (target:Expr) (it:Value) (body:List Stmt) (env:Env):Flow→Sem Fin:=fun f=>match f with
 |.next|.cont=>.pure (.again (.forLoop target it body [] env))
 |.brk=>.pure (.done .next)
 |.ret v=>.pure (.done (.ret v))
theorem rF {target:Expr} {it:Value} {body:List Stmt}
 (h:wpAny (model prog w) (A.over (.forLoop target it body [] env) fs) (pyNext it) (fun r az=>match r with
  |none=>Seg (model prog w) A R Y n fq (.forLoop target it body [] env) (.pure (.again (.block [] env))) fs az
  |some v=>wpAny (model prog w) (A.over (.forLoop target it body [] env) fs) (letOwnedTupleGo target it v) (fun _ aV=>wpAny (model prog w) (A.over (.forLoop target it body [] env) fs) (assign target env v) (fun _ bq=>
   Seg (model prog w) A R Y n fq (.forLoop target it body [] env) ((execs body env).wrap (Ri target it body env) (Fy env) id id) fs bq) bL aV) bL az) bL s):
 Seg (model prog w) A R Y n fq (.forLoop target it body [] env) ((model prog w).den (.forLoop target it body [] env)) fs s:=by
 show Seg _ A R Y n fq _ ((forTurn target it body [] env).onRaise (fun x=>do noteFrame x env;theTreesLotGoes x)) fs s;rw[Sem.onRaise_eq_wrap];have eH:(fun e=>((do noteFrame e env;theTreesLotGoes e:Sem Unit)).bind fun _=>(.raise e:Sem Fin))=Fy env:=by
  funext e;rw[Sem.bind_eq_wrap]
 rw[eH];unfold forTurn;refine fB (bM (fB (Vm (aa h (fun r az q=>?_) fun _ _ q=>q.elim))));cases r with
 |none=>exact q
 |some v=>
  refine fB (aa q (fun _ aV q=>fB (aa q (fun _ bq q=>?_) fun _ _ q=>q)) fun _ _ q=>q);rw[vy];rw[Sem.wrap_congr (execs body env) _ _ (K':=Ri target it body env) (H':=Fy env) (fun f=>by cases f<;>rfl) (fun e=>rfl)];exact q
theorem Ad {c:Code} {K:Result→Sem Fin} {hd:Option Value} {gdv:Bool} {lv:List Value} {iP:Code} {Tf:Pos} {kp:List Value}
 (h:Seg (model prog w) A R Y n fq iP (K (.ok .next)) fs s):Seg (model prog w) A R Y n fq c (.pure (.again (.block [] env))) (.ret K hd gdv lv iP Tf kp::fs) s:=by
 refine seg_again rfl ?_;show Seg _ A R Y n fq _ (do return Fin.done (←(execs [] env).onRaise (fun x=>do noteFrame x env;theTreesLotGoes x))) _ s;exact seg_leaf (.ok .next) h
end
structure FlatF (env:Env) (m:Str→Option Value) (M:MM) (h:Heap):Prop where
 kind:env.scope.kind=.function
 glob:env.globals=mainGlobals
 bi:env.builtins=builtinsNs
 nocell:∀x,env.kindOf x≠some .cell∧env.kindOf x≠some .free
 cells:env.cells=[]
 ns:h.Ns env.locals m
 flat:∀x e,M.lookup x=some e→∃d,e=.dat d∧p7 d
 loc:∀x d,M.lookup x=some (.dat d)→env.kindOf x=some .local→∃v,m x=some v∧Rep (fun _=>False) h d v
noncomputable abbrev Pf (h:Heap):Addr→Prop:=fun a=>h.get? a=none∧a≠65∧a≠72
theorem sH (h:Heap):Live (Pf h) h:=fun a n=>by
 by_cases h1:a=65
 ·exact .inl h1
 ·by_cases h2:a=72
  ·exact .inr (.inl h2)
  ·cases e:h.get? a with
   |none=>exact absurd ⟨e,h1,h2⟩ n
   |some o=>exact .inr (.inr ⟨o,rfl⟩)
theorem xa (h:Heap):¬Pf h 65∧¬Pf h 72:=⟨fun q=>q.2.1 rfl,fun q=>q.2.2 rfl⟩
section
variable {C:aU} {P:Addr→Prop} {μ:List Addr} {h h':Heap} {env:Env} {m:Str→Option Value} {M:MM}
theorem FlatF.fi (x:FlatF env m M h) (lv:Live P h) (t:¬P 65∧¬P 72) (n1:env.locals≠65) (n2:env.locals≠72):FI P [env.locals] h env m M:=by
 refine⟨lv,fun a q=>?_,t,x.kind,x.glob,x.bi,x.ns,au ..,fun y e q r=>?_,fun y r=>?_,fun y c _ r=>absurd r (x.nocell y).1,fun y z c q1 q2=>?_,fun y e q r=>?_,fun y z l l' v q=>?_⟩
 ·rw[aT.mp q]
  refine Uk x.ns fun o _ _ e _=>?_;exact⟨n1,n2,o,e⟩
 ·(refine Ua (x.flat y e q) fun d q0 fd=>?_;subst q0)
  refine Ua (x.loc y d q r) fun v e1 e2=>?_;exact⟨v,e1,Rep.flat (Q:=Pm P [env.locals]) fd e2⟩
 ·rcases r with r|r
  ·exact absurd r (x.nocell y).1
  ·exact absurd r (x.nocell y).2
 ·rw[x.cells]at q1;cases q1
 ·rcases r with r|r
  ·exact absurd r (x.nocell y).1
  ·exact absurd r (x.nocell y).2
 ·refine Ua (x.flat y _ q) fun d e _=>?_
  cases e
theorem FI.flatF (F:FI P μ h env m M) (nc:∀x,env.kindOf x≠some .cell∧env.kindOf x≠some .free) (hc:env.cells=[]) {jy:MM} (hM:∀x e,jy.lookup x=some e→M.lookup x=some e∧∃d,e=.dat d∧p7 d):FlatF env m jy h:=by
 refine⟨F.kind,F.glob,F.bi,nc,hc,F.ns,fun x e q=>(hM x e q).2,fun x d q r=>?_⟩;refine UC (hM x _ q) fun q1 d' e fd=>?_;cases e;refine Ua (F.loc x _ q1 r) fun v e1 e2=>?_;exact⟨v,e1,Rep.flat fd e2⟩
theorem FlatF.keep (x:FlatF env m M h) (k:∀o,h.get? env.locals=some o→h'.get? env.locals=some o):FlatF env m M h':=by
 refine⟨x.kind,x.glob,x.bi,x.nocell,x.cells,?_,x.flat,fun y d q r=>?_⟩
 ·refine Uk x.ns fun o es ep e z=>?_
  exact⟨o,es,ep,k o e,z⟩
 ·refine Ua (x.loc y d q r) fun v e1 e2=>?_
  refine Ua (x.flat y _ q) fun d' e fd=>?_;cases e;exact⟨v,e1,Rep.flat fd e2⟩
theorem FlatF.set (x:FlatF env m M h) {y:Str} {d:D} {v:Value} (hy:env.kindOf y=some .local) (fd:p7 d) (hn:h'.Ns env.locals (fun z=>if z=y then some v else m z)) (r:Rep (fun _=>False) h' d v):FlatF env (fun z=>if z=y then some v else m z) (M.set y (.dat d)) h':=by
 refine⟨x.kind,x.glob,x.bi,x.nocell,x.cells,hn,fun z e q=>?_,fun z d' q k=>?_⟩
 ·rw[MM.set_lookup]at q
  split at q
  ·cases q;exact⟨d,rfl,fd⟩
  ·exact x.flat z e q
 ·rw[MM.set_lookup]at q
  by_cases hz:z=y
  ·rw[if_pos hz]at q;cases q
   exact⟨v,if_pos hz,r⟩
  ·rw[if_neg hz]at q
   refine Ua (x.loc z d' q k) fun u e1 e2=>?_;refine Ua (x.flat z _ q) fun d'' e fd'=>?_;cases e;exact⟨u,(if_neg hz).trans e1,Rep.flat fd' e2⟩
end
theorem LY {prog:Program} {w:World} {A:Around} (hh:A.handled=none) (it:Addr) (x:Str) (t:Tok):
 Draws prog w A it [it] x.cps.size (fun i v=>∃c u,x.cps[i]?=some c∧v=.str ⟨#[c]⟩ u) (fun i h=>h.IsStrIter it (strIterType x) x t i):=by
 unfold strIterType;cases x.cps.all (·<128)
 ·exact Draws.strWide hh it x t
 ·exact Draws.strAscii hh it x t
noncomputable def NQ:Stmt:=f9 (aG (a7 2)) 2
noncomputable def Re:Expr:=.Tuple [.Name (ofString "pos") ⟨8,8,8,11⟩,.Name (ofString "ch") ⟨8,13,8,15⟩] 0 ⟨8,8,8,15⟩
noncomputable def gBody:List Stmt:=mE NQ
theorem J3:NQ=.For Re (.Call (.Name (ofString "enumerate") ⟨8,19,8,28⟩) [.Name (ofString "addr") ⟨8,29,8,33⟩] [] ⟨8,19,8,34⟩) gBody [] ⟨8,4,15,27⟩:=by kernel_rfl
noncomputable def yE:Expr:=.Tuple [.Name (ofString "pos") ⟨15,19,15,22⟩,.Name (ofString "ch") ⟨15,24,15,26⟩] 0 ⟨15,18,15,27⟩
noncomputable def Ty:List Stmt:=(jM (gBody.getD 0 Qf)).b
noncomputable def UJ:Expr:=(jM ((jM (gBody.getD 0 Qf)).o.getD 0 Qf)).e
noncomputable def Tx:List Stmt:=(jM ((jM (gBody.getD 0 Qf)).o.getD 0 Qf)).b
theorem yB:gBody=[.If (.Name (ofString "escape") ⟨9,11,9,17⟩) Ty [.If UJ Tx [.Expr (.Yield (some yE) ⟨15,12,15,27⟩) ⟨15,12,15,27⟩] ⟨12,8,15,27⟩] ⟨9,8,15,27⟩]:=by kernel_rfl
structure GC (C:aU) (env:Env) (e it:Addr):Prop where
 ne:e≠it
 eL:e≠env.locals
 iL:it≠env.locals
 e6:e≠65∧e≠72
 i6:it≠65∧it≠72
 L6:env.locals≠65∧env.locals≠72
 g:C.G.get? e=none∧C.G.get? it=none∧C.G.get? env.locals=none
structure GJ (env:Env) (l:List Nat) (e it:Addr) (i:Nat) (h:Heap):Prop where
 fr:∃m M,FlatF env m M h∧M.lookup (ofString "escape")=some (.dat (.bool false))
 en:∃old,IsEnum h e it i old
 si:∃t,h.IsStrIter it (strIterType (S l)) (S l) t i
noncomputable def KX (X:Addr→Prop) (h h':Heap):Prop:=∀b o,b≠65→b≠72→¬X b→h.get? b=some o→h'.get? b=some o
theorem KX.refl {X:Addr→Prop} {h:Heap}:KX X h h:=fun _ _ _ _ _ e=>e
theorem KX.trans {X:Addr→Prop} {h h' h'':Heap} (x:KX X h h') (y:KX X h' h''):KX X h h'':=fun b o p q r e=>y b o p q r (x b o p q r e)
theorem KX.of {X:Addr→Prop} {h h':Heap} (k:Keep h h'):KX X h h':=fun b o p q _ e=>k.get b o p q e
theorem St.butX {C:aU} {s:Shared} {h':Heap} {t:Nat} {X:Addr→Prop} (S:St C s) (hX:∀a,X a→C.G.get? a=none∧a≠65∧a≠72∧∀o,s.heap.get? a=some o→iX o) (k:∀b o,¬X b→s.heap.get? b=some o→h'.get? b=some o):St C {s with heap:=h',toks:=t}:=by
 have hc:∀c q,s.heap.CodeRec (.ref c) q→h'.CodeRec (.ref c) q:=fun c q x=>by
  refine Uv x fun c' o vs t e1 e2 e3 e4=>?_;cases e1;refine⟨c,o,vs,t,rfl,k _ _ (fun z=>?_) e2,e3,e4⟩;exact(hX c z).2.2.2 o e2 vs q t e3 e4
 refine⟨fun b o e=>k _ _ (fun q=>by rw[(hX b q).1]at e;cases e) (S.g b o e),?_,?_,S.gens,S.gk,S.os⟩
 ·refine Ua S.tA fun ps e1 r=>?_
  refine⟨ps,k _ _ (fun q=>(hX _ q).2.1 rfl) e1,r.imp id ?_⟩;rintro⟨c,e2,e3,e4,e5⟩;exact⟨c,e2,e3,e4,hc _ _ e5⟩
 ·refine Ua S.tB fun ps e1 r=>?_
  refine⟨ps,k _ _ (fun q=>(hX _ q).2.2.1 rfl) e1,r.imp id ?_⟩;rintro⟨c,e2,e3,e4,e5⟩;exact⟨c,e2,e3,e4,hc _ _ e5⟩
section
variable {C:aU} {A:Around}
theorem RA.over {c:Code} {fs:List Frame} {n:Nat} (x:RA A (n+1)) (hm:(marksOver fs (A.handled,A.handled)).1=none) (hd:frameCount (fs.map r4)+c.weight≤1) (hu:unitsOf (fs.map r4)+c.cUnits≤10):RA (A.over c fs) n:=
 ⟨hm,by have:=x.depth;show A.depth+frameCount (fs.map r4)+c.weight+n≤900;exact(rY 0x1ce5384139e578de225384139ef085c52502173c62:) hd this,by have:=x.units;show A.units+unitsOf (fs.map r4)+c.cUnits+20*n≤9000;exact(rY 0x73944650373e25a05cf1bc44a23281b9f17842e2d02e2514173c62:) hu this⟩
noncomputable def gR (C:aU) (X:Addr→Prop):GenEnd:=fun n fq r s=>n=0∧r=.ok (.ret .none)∧St C s∧KX X fq.heap s.heap
noncomputable def gY (C:aU) (X:Addr→Prop) (env:Env) (l:List Nat):Protocol:=fun m fq v s kap=>∃T tI tS e it,v=.ref T∧s.heap.IsTuple T #[.int (l.length-m-1:Nat) tI,.str (S [l.getD (l.length-m-1) 0]) tS]∧St C s∧KX X fq.heap s.heap∧
 GC C env e it∧X e∧X it∧GJ env l e it (l.length-m) s.heap∧∀s',St C s'→GJ env l e it (l.length-m) s'.heap→kap (.send .none) s'
noncomputable abbrev u8 (env:Env) (e:Addr):Code:=.forLoop Re (.ref e) gBody [] env
noncomputable abbrev y7 (env:Env):Code:=.func (aG (a7 2)) env
theorem NO {env:Env} (hsc:env.scope=aF (a7 2)):env.kindOf (ofString "pos")=some .local∧env.kindOf (ofString "ch")=some .local:=by
 constructor<;>(show env.scope.names.lookup _=_;rw[hsc];kernel_rfl)
theorem GM {X:Addr→Prop} {env:Env} (hsc:env.scope=aF (a7 2)) (hfn:env.func.isSome=true) (hXL:X env.locals) {l:List Nat} (hl:∀c∈l,c≠92) {kf:Result→Sem Fin} {lvv:List Value} {hA:RA A 3}
 (hEnd:∀fq s',St C s'→(∃m M,FlatF env m M s'.heap∧M.lookup (ofString "escape")=some (.dat (.bool false)))→KX X fq.heap s'.heap→Seg (MD C) A (gR C X) (gY C X env l) 0 fq (y7 env) (kf (.ok .next)) [] s'):
 ∀(m:Nat),m≤l.length→∀(s fq:Shared) (e it:Addr) (p:Pos),St C s→GC C env e it→X e→X it→GJ env l e it (l.length-m) s.heap→KX X fq.heap s.heap→
  Seg (MD C) A (gR C X) (gY C X env l) m fq (u8 env e) ((MD C).den (u8 env e)) [.ret kf none false lvv (y7 env) p []] s:=by
 have hcps:(S l).cps.size=l.length:=by simp[S]
 intro m;induction m with
 |zero=>
  intro _ s fq e it p Ss gc xe xi J kk;have hA1:RA (A.over (u8 env e) [.ret kf none false lvv (y7 env) p []]) 2:=hA.over (by
   show(marksOver [.ret kf none false lvv (y7 env) p []] (A.handled,A.handled)).1=none;rw[hA.hd];rfl) (cj (by kernel_rfl)) (cj (by kernel_rfl));obtain⟨old,he⟩:=J.en;obtain⟨t,hs⟩:=J.si;refine rF (wpAny_pyNext_enum_endD (LY (A:=(A.over (u8 env e) [.ret kf none false lvv (y7 env) p []]).in1) hA1.hd it (S l) t) he (by rw[hcps];exact hs) fun h' hx=>?_);refine Ad (hEnd fq _ (Ss.butX (t:=s.toks) (X:=fun a=>a=it) (fun a q=>?_) fun b o q e=>hx b o q e) ?_ (kk.trans fun b o n1 n2 nx e=>hx b o (fun q=>nx (q▸xi)) e))
  ·rw[q]
   refine⟨gc.g.2.1,gc.i6.1,gc.i6.2,fun o eo vs q t z=>?_⟩;refine Ul hs fun o' e1 _ e2=>?_;rw[eo]at e1;cases e1;rw[e2]at z;cases z;simp
  ·refine Uf J.fr fun m M fl g=>?_
   exact⟨m,M,fl.keep fun o e=>hx _ o (cC gc.iL) e,g⟩
 |succ m ih=>
  intro hm s fq e it p Ss gc xe xi J kk;have hA1:RA (A.over (u8 env e) [.ret kf none false lvv (y7 env) p []]) 2:=hA.over (by
   show(marksOver [.ret kf none false lvv (y7 env) p []] (A.handled,A.handled)).1=none;rw[hA.hd];rfl) (cj (by kernel_rfl)) (cj (by kernel_rfl));obtain⟨old,he⟩:=J.en;obtain⟨t,hs⟩:=J.si;refine Uf J.fr fun mm M fl hesc=>?_;have hi1:l.length-(m+1)<l.length:=by exact(dA 0x72c32506f085c2181e10b843:) hm
  have hi2:l.length-m-1=l.length-(m+1):=by(rfl)
  have hi3:l.length-(m+1)+1=l.length-m:=by exact(dA 0x73057842e2506f085c218043181e10b843:) hm
  generalize hAo:A.over (u8 env e) [.ret kf none false lvv (y7 env) p []]=Ao at hA1;have D:=LY (prog:=PySem.Challenge.pw_uc0055_01) (w:=C.w) (A:=Ao.in1) hA1.hd it (S l) t;have helt:e<s.heap.objs.size:=aQ he;have hLlt:env.locals<s.heap.objs.size:=fl.ns.lt;have hilt:it<s.heap.objs.size:=by obtain⟨_,y⟩:=D.live _ _ hs;exact aQ y
  refine Uo fl.ns fun oL esL epL eL dL zL=>?_;refine rF ?_;rw[hAo];refine wpAny_pyNext_enum_itemD D he hs (by rw[hcps];exact hi1) gc.ne (by simpa using gc.ne) fun x bV tk hPx Gx Gv GF Gr yx=>?_;(refine Uf hPx fun c u hc q0=>?_;subst q0);have hcl:l.getD (l.length-(m+1)) 0=c:=by
   have:(S l).cps[l.length-(m+1)]?=some (l.getD (l.length-(m+1)) 0):=by
    rw[←fc,nN,ac,aj hi1];rfl
   rw[this]at hc;exact dB hc
  have hc92:c≠92:=by
   rw[←hcl,ac,aj hi1];exact hl _ (cH hi1)
  refine Co Gx fun bR BC kl=>?_;replace kl:du e bV bR:=kl;have Gs:bR.IsTuple s.heap.objs.size #[.int (l.length-(m+1):Nat) tk,.str ⟨#[c]⟩ u]:=⟨_,(kl.2 _ (Nat.ne_of_gt helt)).trans GF,rfl,_,rfl⟩;have Gq:bR.objs.size=s.heap.objs.size+1:=kl.1.trans Gr;refine mN hA1.hd Gs rfl rfl fun dM nC=>?_;replace nC:D4 bR.objs.size bR dM:=nC;have mu:∀b o,b<s.heap.objs.size→bR.get? b=some o→dM.get? b=some o:=fun b o hb x=>nC b o (by rw[Gq];exact aM (dJ hb)) x;have tG:dM.Ns env.locals mm:=⟨oL,esL,epL,mu _ _ hLlt ((kl.2 _ (cC gc.eL)).trans (yx _ _ (cC gc.eL) (cC gc.iL) eL)),dL,zL⟩;have kp:(env.scope.kind==.class||(env.scope.kind==.module&&env.locals !=env.globals))=false:=by rw[fl.kind];rfl
  obtain⟨kpos,kch⟩:=NO hsc;show wpAny (MD C) Ao (do holding [.str ⟨#[c]⟩ u] (assign (.Name (ofString "pos") ⟨8,8,8,11⟩) env (.int (l.length-(m+1):Nat) tk));do holding [] (assign (.Name (ofString "ch") ⟨8,13,8,15⟩) env (.str ⟨#[c]⟩ u));pure ()) _ _ _;refine aq (fk (bT (cJ kpos tG (fun jF rI kL=>?_) kp)));refine aq (fk (bT (cJ kch rI (fun jk yv kK=>aI ?_) kp)));replace kL:du env.locals dM jF:=kL;replace kK:du env.locals jF jk:=kK;have up:∀b o,b≠e→b≠it→b≠env.locals→s.heap.get? b=some o→jk.get? b=some o:=fun b o n1 n2 n3 x=>
   (kK.2 b n3).trans ((kL.2 b n3).trans (mu b o (aQ x) ((kl.2 b n1).trans (yx b o n1 n2 x))));have kE:∀tk',St C {s with heap:=jk,toks:=tk'}:=fun tk'=>Ss.butX (X:=fun a=>a=e∨a=it∨a=env.locals) (fun a q=>by
   refine U8 (p:=fun a=>C.G.get? a=none∧a≠65∧a≠72∧∀o,s.heap.get? a=some o→iX o) q ?_ ?_ ?_
   ·refine⟨gc.g.1,gc.e6.1,gc.e6.2,fun o eo vs q t z=>?_⟩
    rw[he]at eo;cases eo;cases z;simp
   ·refine⟨gc.g.2.1,gc.i6.1,gc.i6.2,fun o eo vs q t z=>?_⟩
    refine Ul hs fun o' e1 _ e2=>?_;rw[eo]at e1;cases e1;rw[e2]at z;cases z;simp
   ·refine⟨gc.g.2.2,gc.L6.1,gc.L6.2,fun o eo vs q t z=>?_⟩
    rw[eL]at eo;cases eo;rw[dL]at z;cases z) fun b o q e=>by
    rw[not_or,not_or]at q;exact up b o q.1 q.2.1 q.2.2 e
  have nD:FlatF env mm M dM:=fl.keep (h':=dM) fun o e=>by
   rw[eL]at e;cases e;exact mu _ _ hLlt ((kl.2 _ (cC gc.eL)).trans (yx _ _ (cC gc.eL) (cC gc.iL) eL))
  have mF:=(nD.set (d:=.int (l.length-(m+1):Nat)) kpos trivial rI ⟨tk,rfl⟩).set (d:=.str (S [c])) kch trivial yv ⟨u,rfl⟩;obtain⟨M2,hM2⟩:∃M2,M2=(M.set (ofString "pos") (.dat (.int (l.length-(m+1):Nat)))).set (ofString "ch") (.dat (.str (S [c]))):=⟨_,rfl⟩;rw[←hM2]at mF;have c1:M2.lookup (ofString "escape")=some (.dat (.bool false)):=by rw[hM2,f8 (by decide+kernel),f8 (by decide+kernel)];exact hesc
  have c2:M2.lookup (ofString "pos")=some (.dat (.int (l.length-(m+1):Nat))):=by rw[hM2,f8 (by decide+kernel)];exact ic
  have c3:M2.lookup (ofString "ch")=some (.dat (.str (S [c]))):=by rw[hM2];exact ic
  have Q6:jk.IsStrIter it (strIterType (S l)) (S l) t (l.length-m):=by
   have:=D.frame _ _ jk Gv fun b hb o y=>by
    rw[aT]at hb;subst hb;exact(kK.2 _ gc.iL).trans ((kL.2 _ gc.iL).trans (mu _ o hilt ((kl.2 _ (cC gc.ne)).trans y)))
   rw[hi3]at this;exact this
  have Q7:IsEnum jk e it ((l.length-m:Nat):Int) (.str ⟨#[c]⟩ u):=by
   have h1:(((l.length-(m+1):Nat):Int)+1)=((l.length-m:Nat):Int):=by exact(dA 0x1ccc86f085d21606f085c2:) hi3
   rw[h1]at BC;exact(kK.2 _ gc.eL).trans ((kL.2 _ gc.eL).trans (mu _ _ helt BC))
  have DW:=mF.fi (P:=Pf jk) (sH jk) (xa jk) gc.L6.1 gc.L6.2;have hT:∀{ah μ m M},HT C Ao ah μ env m M (mT 12 X0 env.scope.names M):=fun{ah μ m M}=>(fu (d8 (k:=1)) 12).2.1 (hA1.le (by(decide)));have hE:∀{ah μ m M},HE C Ao ah μ env m M (ev 12 X0 env.scope.names M):=fun{ah μ m M}=>(fu (d8 (k:=1)) 12).1 (hA1.le (by(decide)));have e1:mT 12 X0 env.scope.names M2 (.Name (ofString "escape") ⟨9,11,9,17⟩)=some false:=by
   rw[hsc];exact Om c1 (by kernel_rfl) rfl
  have e2:mT 12 X0 env.scope.names M2 UJ=some false:=by
   rw[hsc];refine(nk (n:=12) (d:=decide ([c]=[92])) (qc (my (a:=[c]) (b:=[92])) .nil) (by kernel_rfl) M2 (.add c3 .nil)).trans ?_;refine congrArg some (decide_eq_false fun q=>?_);injection q with q;exact hc92 q
  have e3:ev 12 X0 env.scope.names M2 yE=some (.tup [.int (l.length-(m+1):Nat),.str (S [c])]):=by
   rw[hsc];exact fR (n:=12) .nil (by kernel_rfl) M2 (.add c2 (.add c3 .nil))
  rw[yB];refine mQ (EP ?_);rw[←yB,hAo];dsimp only;refine aa (hT _ _ _ e1 DW (kE _)) (fun r mP q=>?_) fun _ _ z=>z;(refine Ud q fun q0 ll mS=>?_;subst q0);rw[if_neg (by decide)];refine mQ (EP ?_);rw[hAo];refine aa (hT _ _ _ e2 (DW.keep mS) ll) (fun r Ex q=>?_) fun _ _ z=>z;obtain⟨rfl,Pc,yq⟩:=q;rw[if_neg (by decide)];have k57:=mS.trans yq;refine mQ (seg_Expr_Yield rfl rfl rfl ?_ (by rw[hsc];kernel_rfl) (by unfold interactive;rw[fl.kind];rfl));rw[hAo];refine aa (hE _ _ _ e3 (DW.keep k57) Pc) (fun v IG q=>?_) fun _ _ z=>z.elim;obtain⟨KQ,JJ,T,vs,rfl,_,hT8,r8⟩:=q;obtain⟨v1,w1,hvs,⟨t1,rfl⟩,v2,w2,hvs2,⟨t2,rfl⟩,hw⟩:=r8;have hvs':vs=#[.int (l.length-(m+1):Nat) t1,.str (S [c]) t2]:=by
   apply nQ;rw[hvs,hvs2,show w2=[]from hw]
  have k58:=k57.trans JJ;have J8:GJ env l e it (l.length-m) IG.heap:=⟨⟨_,M2,mF.keep fun o e=>k58.get _ _ gc.L6.1 gc.L6.2 e,c1⟩,⟨_,k58.get _ _ gc.e6.1 gc.e6.2 Q7⟩,t,by
   refine Ua Q6 fun o e1 e2=>?_;exact⟨o,k58.get _ _ gc.i6.1 gc.i6.2 e1,e2⟩⟩;have kk8:KX X fq.heap IG.heap:=kk.trans (KX.trans (fun b o n1 n2 nx e=>up b o (fun q=>nx (q▸xe)) (fun q=>nx (q▸xi)) (fun q=>nx (q▸hXL)) e) (.of k58));intro kap hkap;refine⟨T,t1,t2,e,it,rfl,?_,KQ,kk8,gc,xe,xi,J8,fun s' S' J'=>hkap .none s' ?_⟩
  ·rw[hi2,hcl,←hvs'];exact hT8
  ·exact seg_again rfl (ih (by(exact a5 hm)) s' s' e it p S' gc xe xi J' .refl)
end
noncomputable def FlatM (M:MM):Prop:=∀x e,M.lookup x=some e→∃d,e=.dat d∧p7 d
theorem FlatM.set {M:MM} (f:FlatM M) {y:Str} {d:D} (fd:p7 d):FlatM (M.set y (.dat d)):=fun x e q=>by
 rw[MM.set_lookup]at q;split at q
 ·cases q;exact⟨d,rfl,fd⟩
 ·exact f x e q
section
variable {C:aU} {A:Around} {s:Shared} {env:Env} {m:Str→Option Value} {M M':MM}
theorem yF {X:Cx} {k:Nat} (cx:CxOK C X k) (hA:RA A k) (hfn:env.func.isSome=true) (fl:FlatF env m M s.heap) (S:St C s) (nL:env.locals≠65∧env.locals≠72) (gL:C.G.get? env.locals=none) {ss:List Stmt} {r:Fl} (h:c7 (ex 12 X env.scope.names) ss M=some (r,M')) (fM:FlatM M'):
 wpAny (MD C) A (execs ss env) (fun f s'=>zj (Pf s.heap) s'.heap r f∧St C s'∧(∃m',FlatF env m' M' s'.heap)∧∀b o,b≠65→b≠72→b≠env.locals→s.heap.get? b=some o→s'.heap.get? b=some o) bL s:=by
 have F:=fl.fi (P:=Pf s.heap) (sH s.heap) (xa s.heap) nL.1 nL.2;refine aa (qN (fun st=>lT cx 12 (ah:=Pf s.heap) (env:=env) hA hfn st) ss _ _ _ _ _ s h (fun a q=>by rw[aT.mp q];exact gL) F S) (fun f s' q=>?_) fun _ _ z=>z;obtain⟨x,y⟩:=q;refine Uc x.ex fun m' μ' F' _ _=>?_;exact⟨y,x.S,⟨m',F'.flatF fl.nocell fl.cells fun x e q=>⟨q,fM x e q⟩⟩,fun b o n1 n2 n3 e=>x.k b o n1 n2 (fun q=>n3 (aT.mp q)) e⟩
end
noncomputable def g0:Stmt:=f9 (aG (a7 2)) 0
noncomputable def Tz:Stmt:=f9 (aG (a7 2)) 1
noncomputable def g3:Stmt:=f9 (aG (a7 2)) 3
theorem Rg:aG (a7 2)=[g0,Tz,NQ,g3]:=by kernel_rfl
theorem vv:bootBuiltins (ofString "enumerate")=some (.type "enumerate"):=boot_enumerate
section
variable {C:aU} {A:Around}
theorem Dj {X:Addr→Prop} {env:Env} (hsc:env.scope=aF (a7 2)) (hfn:env.func.isSome=true) (hXL:X env.locals) {l:List Nat} (hl:∀c∈l,c≠92) (hlen:l.length≤900) (hA:RA A 4) (nL:env.locals≠65∧env.locals≠72) (gL:C.G.get? env.locals=none)
 (s:Shared) (Ss:St C s) (hX:∀b,s.heap.get? b=none→X b) (J:∃m M,FlatF env m M s.heap∧M.lookup (ofString "addr")=some (.dat (.str (S l)))∧FlatM M):(GenState.fresh (y7 env)).Goes (MD C) A (gR C X) (gY C X env l) l.length (.send .none) s:=by
 refine⟨rfl,seg_func ?_⟩;have hA1:RA (A.over (y7 env) []) 3:=hA.over hA.hd (cj (by kernel_rfl)) (cj (by kernel_rfl));refine Uc J fun m M fl h0 fM=>?_;rw[Rg];obtain⟨M1,hM1⟩:∃M1,M1=M.set (ofString "pos") (.dat (.int 0)):=⟨_,rfl⟩;obtain⟨M2,hM2⟩:∃M2,M2=M1.set (ofString "escape") (.dat (.bool false)):=⟨_,rfl⟩;have e0:c7 (ex 12 X0 env.scope.names) [g0] M=some (.next,M1):=by
  rw[hsc,hM1];conv=>lhs;arg 2;arg 1;whnf
  exact dO (lU (by kernel_rfl) (by kernel_rfl) (by rw[fg];rfl)) rfl
 have e1:c7 (ex 12 X0 env.scope.names) [Tz] M1=some (.next,M2):=by
  rw[hsc,hM2];conv=>lhs;arg 2;arg 1;whnf
  exact dO (lU (by kernel_rfl) (by kernel_rfl) (by rw[fg];rfl)) rfl
 have fM1:FlatM M1:=by rw[hM1];exact fM.set trivial
 have fM2:FlatM M2:=by rw[hM2];exact fM1.set trivial
 have a2:M2.lookup (ofString "addr")=some (.dat (.str (S l))):=by rw[hM2,hM1,f8 (by decide+kernel),f8 (by decide+kernel)];exact h0
 have a3:M2.lookup (ofString "escape")=some (.dat (.bool false)):=by rw[hM2];exact ic
 have stm:∀{st:Stmt} {M M':MM} {m:Str→Option Value} {s:Shared},FlatF env m M s.heap→St C s→FlatM M'→ex 12 X0 env.scope.names M st=some (.next,M')→
  wpAny (MD C) (A.over (y7 env) []) (exec st env) (fun f s'=>f=.next∧St C s'∧(∃m',FlatF env m' M' s'.heap)∧∀b o,b≠65→b≠72→b≠env.locals→s.heap.get? b=some o→s'.heap.get? b=some o) bL s:=fun{st M M' m s} fl S fM h=>by
  have F:=fl.fi (P:=Pf s.heap) (sH s.heap) (xa s.heap) nL.1 nL.2;refine aa (lT (d8 (k:=3)) 12 (ah:=Pf s.heap) (env:=env) hA1 hfn st _ _ _ _ _ s h (fun a q=>by rw[aT.mp q];exact gL) F S) (fun f s' q=>?_) fun _ _ z=>z;obtain⟨x,y⟩:=q;refine Uc x.ex fun m' μ' F' _ _=>?_;refine⟨?_,x.S,⟨m',F'.flatF fl.nocell fl.cells fun x e q=>⟨q,fM x e q⟩⟩,fun b o n1 n2 n3 e=>x.k b o n1 n2 (fun q=>n3 (aT.mp q)) e⟩;cases f<;>first|rfl|exact y.elim
 have x0:ex 12 X0 env.scope.names M g0=some (.next,M1):=by
  refine pJ e0 fun fK q e0=>?_;cases e0;exact q
 have x1:ex 12 X0 env.scope.names M1 Tz=some (.next,M2):=by
  refine pJ e1 fun fK q e1=>?_;cases e1;exact q
 refine sR (aa (stm fl Ss fM1 x0) (fun f az q=>?_) fun _ _ z=>z);(refine Uj q fun q0 bu q1 bN=>?_;subst q0;refine Un q1 fun pW yD=>?_);refine⟨rfl,?_⟩;refine sR (aa (stm yD bu fM2 x1) (fun f aV q=>?_) fun _ _ z=>z);(refine Uj q fun q0 eA q1 d9=>?_;subst q0;refine Un q1 fun yj p5=>?_);refine⟨rfl,?_⟩;have k02:KX X s.heap aV.heap:=fun b o n1 n2 nx e=>d9 b o n1 n2 (fun q=>nx (q▸hXL)) (bN b o n1 n2 (fun q=>nx (q▸hXL)) e);have hX2:∀b,aV.heap.get? b=none→X b:=fun b hb=>by
  refine hX b ?_;cases e:s.heap.get? b with
  |none=>rfl
  |some o=>
   have n1:b≠65:=fun q=>eA.live65 (q▸hb);have n2:b≠72:=fun q=>eA.live72 (q▸hb);have n3:b≠env.locals:=fun q=>by refine Uk p5.ns fun o _ _ e _=>?_;rw[←q,hb]at e;cases e
   have:=d9 b o n1 n2 n3 (bN b o n1 n2 n3 e);rw[hb]at this;cases this
 rw[J3];refine mQ (IT (fun x=>rfl) ?_);have gn:=p5.fi (P:=Pf aV.heap) (sH aV.heap) (xa aV.heap) nL.1 nL.2;have hE:HE C (A.over (y7 env) []) (Pf aV.heap) [env.locals] env yj M2 (ev 12 X0 env.scope.names M2):=(fu (d8 (k:=3)) 12).1 hA1;have ea:di (ev 12 X0 env.scope.names M2) [.Name (ofString "addr") ⟨8,29,8,33⟩]=some [.str (S l)]:=by
  rw[hsc];exact jd (ye a2 (by kernel_rfl)) rfl
 have hgk:env.kindOf (ofString "enumerate")=some .globalImplicit:=by show env.scope.names.lookup _=_;rw[hsc];kernel_rfl
 refine em (om gn eA hgk (by decide+kernel) (uW _ _ (by simp)) vv (by decide+kernel) ?_);refine iu (ez (by rfl)) (aa (dQ (by rfl) (jG hE ea gn eA)) (fun a bq q=>?_) fun _ _ x=>x);refine Uj q fun e gi fF r=>?_;rw[e];(refine Uc r fun v w hv q0 hw=>?_;refine Un q0 fun t q1=>?_;subst q1);rw[show w=[]from hw]at hv;rw[hv];refine call_enumerate_str fun jF he hit hz tH=>?_;refine vO he fun p=>?_;have fresh:∀a,bq.heap.objs.size≤a→bq.heap.get? a=none:=fun a q=>by
  cases e:bq.heap.get? a with
  |none=>rfl
  |some o=>exact absurd (aQ e) (c5.mpr q)
 have f1:=fresh (bq.heap.objs.size+1) (vC _);have f2:=fresh bq.heap.objs.size (ba _);have nD:FlatF env yj M2 bq.heap:=p5.keep fun o e=>fF.get _ _ nL.1 nL.2 e;have hLlt:env.locals<bq.heap.objs.size:=nD.ns.lt;have gnone:∀a,bq.heap.get? a=none→C.G.get? a=none:=fun a q=>by
  cases e:C.G.get? a with
  |none=>rfl
  |some o=>have:=gi.g _ _ e;rw[q]at this;cases this
 have gc:GC C env (bq.heap.objs.size+1) bq.heap.objs.size:=⟨nP _,cC (aM (dJ hLlt)),cC (aM hLlt),⟨fun q=>gi.live65 (q▸f1),fun q=>gi.live72 (q▸f1)⟩,⟨fun q=>gi.live65 (q▸f2),fun q=>gi.live72 (q▸f2)⟩,nL,gnone _ f1,gnone _ f2,gL⟩;have back:∀a,bq.heap.get? a=none→X a:=fun a q=>hX2 a (eO gi fF q);have TR:GJ env l (bq.heap.objs.size+1) bq.heap.objs.size (l.length-l.length) jF:=by
  rw[um];exact⟨⟨yj,M2,nD.keep fun o e=>tH _ o e,a3⟩,⟨_,he⟩,⟨t,hit⟩⟩
 have kk:KX X s.heap jF:=k02.trans ((KX.of fF).trans fun b o _ _ _ e=>tH b o e);refine GM hsc hfn hXL hl (hA:=hA.le (by(decide))) (fun fq s' S' J' k'=>?_) l.length (ba _) _ s _ _ p (gi.grow (t:=bq.toks) tH) gc (back _ f1) (back _ f2) TR kk;show Seg _ _ _ _ 0 fq (y7 env) ((execs [g3] env).wrap _ _ id id) [] s';refine Uf J' fun m₅ Sj mF jk=>?_;have x3:ex 12 X0 env.scope.names Sj g3=some (.next,Sj):=by
  rw[hsc];conv=>lhs;arg 5;whnf
  refine(mG (r:=false) ?_).trans ?_
  ·exact Om jk (by kernel_rfl) rfl
  ·rw[if_neg (by decide)];rfl
 refine sR (aa (stm mF S' mF.flat x3) (fun f mP q=>?_) fun _ _ z=>z);(refine Uj q fun q0 ll _ mS=>?_;subst q0);refine⟨rfl,seg_execs_nil ?_⟩;exact seg_end (.ok (.ret .none)) ⟨rfl,rfl,ll,k'.trans fun b o n1 n2 nx e=>mS b o n1 n2 (fun q=>nx (q▸hXL)) e⟩
end
section
variable {prog:Program} {w:World} {A:Around} {E:Value→Shared→Prop} {s:Shared}
theorem yf {a:Addr} {g n:Nat} {gs:GenState} {R:GenEnd} {Y:Protocol} {Q:Option Value→Shared→Prop} (hh:A.handled=none)
 (hl:s.heap.NoLimit) (hroom:A.depth<recursionLimit) (hg:s.heap.IsGen a g) (hgs:s.gens[g]?=some gs) (hRr:∀n fq r az,R n fq r az→r=.ok (.ret .none))
 (hgo:gs.Goes (model prog w) A.in1 R Y n (.send .none) (s.setGen g .running))
 (hY:∀v az gs',gs'.bare=true→Y (n-1) (s.setGen g .running) v az (fun r' s''=>match n with
  |0=>False
  |m+1=>gs'.Goes (model prog w) A.in1 R Y m r' s'')→Q (some v) (az.setGen g gs'))
 (hP:∀az,R n (s.setGen g .running) (.ok (.ret .none)) az→∀h',(∀b o,az.heap.get? b=some o→h'.get? b=some o)→Q none {az.setGen g .finished with heap:=h'}):
 wpAny (model prog w) A (pyNext (.ref a)) Q E s:=by
 unfold pyNext;refine aq (wpAny_attempt (wpAny_callSpecial?_slot (name:=ofString "__next__") hg.typeIs Vn
  (wpAny_call_entry Vn hg.typeIs entry_gen_next ?_ (args_gen_next _))));show wpAny _ A.in1 (pA (.ref a) (.send .none)) _ _ s;unfold pA;refine aq (fk (wpAny_genNumber hg (aq (wpAny_genState hgs ?_))));cases gs with
 |running=>exact hgo.elim
 |finished=>exact hgo.elim
 |_=>
  refine aq (wpAny_roomToWake hl hroom ?_);show wpAny _ A.in1 (.resume g (.send .none) [] _) _ _ s;refine wpAny_resumeQ hgs hgo (fun x az hx=>?_) (fun v az gs' hb hv=>?_)
  ·have hr:=hRr _ _ _ _ hx
   subst hr;show wpAny _ A.in1 (newExc (.type "StopIteration") []>>=_) _ _ _;refine aq ?_;unfold newExc newTuple;refine aq (nT ?_ (by size_fits));refine aq (m:=firstArgMember _ _) (iM (a:=wX) (by first|rfl|(simp only[firstArgMember];rfl)) ?_);refine nT ?_ (by size_fits);unfold raiseNew;refine aq (aq (wpAny_handled ?_));rw[show A.in1.handled=none from hh];refine wpAny_throw ?_;refine aq (wpAny_isInstance (T:="StopIteration") (b:=true) ⟨_,aX _ rfl,rfl⟩ isSubtype_stop ?_);exact aI (hP az hx _ fun b o hb=>ak _ (ak _ hb))
  ·exact aI ⟨v,rfl,aI (hY v az gs' hb hv)⟩
end
noncomputable def BV:List Nat→Int→Option Int
 |[],o=>some o
 |c::r,o=>if c=40 then BV r (o+1)else if c=41 then(if o-1<0 then none else BV r (o-1))else BV r o
theorem wM:∀(l:List Nat) (o:Int),cZ l o=(match BV l o with|some o'=>o'==0|none=>false)
 |[]=>@fun o=>rfl
 |c::r=>@fun o=>by
  show(if c=40 then cZ r (o+1)else if c=41 then(if o-1<0 then false else cZ r (o-1))else cZ r o)=(match(if c=40 then BV r (o+1)else if c=41 then(if o-1<0 then none else BV r (o-1))else BV r o)with|some o'=>o'==0|none=>false);split
  ·exact wM r _
  ·split
   ·split
    ·rfl
    ·exact wM r _
   ·exact wM r _
noncomputable abbrev cS:NS:=(aF (a7 4)).names
noncomputable def ON:Stmt:=f9 (aG (a7 4)) 2
noncomputable def RN:Expr:=.Tuple [.Name (ofString "pos") ⟨39,8,39,11⟩,.Name (ofString "ch") ⟨39,13,39,15⟩] 0 ⟨39,8,39,15⟩
noncomputable def vt:List Stmt:=mE ON
theorem Kz:ON=.For RN (.Call (.Name (ofString "_iter_escaped_chars") ⟨39,19,39,38⟩) [.Name (ofString "addr") ⟨39,39,39,43⟩] [] ⟨39,19,39,44⟩) vt [] ⟨39,4,45,28⟩:=by kernel_rfl
theorem OK {env:Env} (hsc:env.scope=aF (a7 4)):env.kindOf (ofString "pos")=some .local∧env.kindOf (ofString "ch")=some .local:=by
 constructor<;>(show env.scope.names.lookup _=_;rw[hsc];kernel_rfl)
noncomputable def nh (c:Nat) (o:Int):Fl×Int:=if c=40 then(.next,o+1)else if c=41 then(if o-1<0 then(.ret (.bool false),o-1)else(.next,o-1))else(.next,o)
theorem EF (c:Nat) (r:List Nat) (o:Int):BV (c::r) o=(match(nh c o).1 with|.next=>BV r (nh c o).2|_=>none):=by
 show(if c=40 then _ else if c=41 then _ else _)=_;unfold nh;by_cases q1:c=40
 ·rw[if_pos q1,if_pos q1]
 ·rw[if_neg q1,if_neg q1]
  by_cases q2:c=41
  ·rw[if_pos q2,if_pos q2]
   by_cases q3:o-1<0
   ·rw[if_pos q3,if_pos q3]
   ·rw[if_neg q3,if_neg q3]
  ·rw[if_neg q2,if_neg q2]
theorem EE (c:Nat) (o:Int):(nh c o).1=.next∨(nh c o).1=.ret (.bool false):=by
 unfold nh;by_cases q1:c=40
 ·rw[if_pos q1];exact .inl rfl
 ·rw[if_neg q1]
  by_cases q2:c=41
  ·rw[if_pos q2]
   by_cases q3:o-1<0
   ·rw[if_pos q3];exact .inr rfl
   ·rw[if_neg q3];exact .inl rfl
  ·rw[if_neg q2];exact .inl rfl
theorem DD (c:Nat) (o:Int) (M:MM) (fM:FlatM M) (h1:M.lookup (ofString "ch")=some (.dat (.str (S [c])))) (h2:M.lookup (ofString "opens")=some (.dat (.int o))):
 ∃M',c7 (ex 12 X0 cS) vt M=some ((nh c o).1,M')∧FlatM M'∧M'.lookup (ofString "opens")=some (.dat (.int (nh c o).2)):=by
 have t1:mT 12 X0 cS M (PV (f9 vt 0))=some (decide ([c]=[40])):=by
  exact nk (n:=12) (qc (my (a:=[c]) (b:=[40])) .nil) (by kernel_rfl) M (.add h1 .nil)
 have t2:mT 11 X0 cS M (PV (f9 (match f9 vt 0 with|.If _ _ o _=>o|_=>[]) 0))=some (decide ([c]=[41])):=by
  exact nk (n:=11) (qc (my (a:=[c]) (b:=[41])) .nil) (by kernel_rfl) M (.add h1 .nil)
 unfold nh;by_cases q1:c=40
 ·rw[if_pos q1]
  refine⟨M.set (ofString "opens") (.dat (.int (o+1))),?_,fM.set trivial,ic⟩;conv=>lhs;arg 2;whnf
  refine dO ((mG (r:=true) (t1.trans (by rw[q1];rfl))).trans ?_) rfl;rw[if_pos rfl];exact dO (vm (by kernel_rfl) h2 (by rw[fg];rfl)) rfl
 ·have d1:decide ([c]=[40])=false:=decide_eq_false fun q=>q1 (by injection q)
  rw[if_neg q1];by_cases q2:c=41
  ·rw[if_pos q2]
   obtain⟨M1,hM1⟩:∃M1,M1=M.set (ofString "opens") (.dat (.int (o-1))):=⟨_,rfl⟩;have l2:M1.lookup (ofString "opens")=some (.dat (.int (o-1))):=by rw[hM1];exact ic
   have t3:∀e,e=PV (f9 (match f9 (match f9 vt 0 with|.If _ _ o _=>o|_=>[]) 0 with|.If _ b _ _=>b|_=>[]) 1)→mT 10 X0 cS M1 e=some (decide (o-1<0)):=fun e he=>by
    rw[he];exact nk (n:=10) .nil (by kernel_rfl) M1 (.add l2 .nil)
   by_cases q3:o-1<0
   ·rw[if_pos q3]
    refine⟨M1,?_,by rw[hM1];exact fM.set trivial,l2⟩;conv=>lhs;arg 2;whnf
    refine j8 ((mG (r:=false) (t1.trans (by rw[d1]))).trans ?_);rw[if_neg (by decide)];refine j8 ((mG (r:=true) (t2.trans (by rw[q2];rfl))).trans ?_);rw[if_pos rfl];refine dO (M':=M1) (by rw[hM1];exact rj (by kernel_rfl) h2 (by rw[fg];rfl)) (j8 ((mG (r:=true) ((t3 _ rfl).trans (by rw[decide_eq_true q3]))).trans ?_));rw[if_pos rfl];exact j8 (ot (by rw[fg];rfl))
   ·rw[if_neg q3]
    refine⟨M1,?_,by rw[hM1];exact fM.set trivial,l2⟩;conv=>lhs;arg 2;whnf
    refine dO (M':=M1) ((mG (r:=false) (t1.trans (by rw[d1]))).trans ?_) rfl;rw[if_neg (by decide)];refine dO (M':=M1) ((mG (r:=true) (t2.trans (by rw[q2];rfl))).trans ?_) rfl;rw[if_pos rfl];refine dO (M':=M1) (by rw[hM1];exact rj (by kernel_rfl) h2 (by rw[fg];rfl)) (dO (M':=M1) ((mG (r:=false) ((t3 _ rfl).trans (by rw[decide_eq_false q3]))).trans ?_) rfl);rw[if_neg (by decide)];rfl
  ·have d2:decide ([c]=[41])=false:=decide_eq_false fun q=>q2 (by injection q)
   rw[if_neg q2];refine⟨M,?_,fM,h2⟩;conv=>lhs;arg 2;whnf
   refine dO (M':=M) ((mG (r:=false) (t1.trans (by rw[d1]))).trans ?_) rfl;rw[if_neg (by decide)];refine dO (M':=M) ((mG (r:=false) (t2.trans (by rw[d2]))).trans ?_) rfl;rw[if_neg (by decide)];rfl
noncomputable abbrev withG (C:aU) (g:Array GenState):aU:={C with gens:=g}
theorem St.withG {C:aU} {s:Shared} {g:Array GenState} {s':Shared} (S:St C s) (hh:s'.heap=s.heap) (hos:s'.os=s.os) (hb:AllBare s'.gens) (hg:∀(j:Nat) x,g[j]?=some x→s'.gens[j]?=some x):St (Mine.withG C g) s':=
 ⟨fun b o e=>by rw[hh];exact S.g b o e,by rw[hh];exact S.tA,by rw[hh];exact S.tB,hb,hg,by rw[hos];exact S.os⟩
theorem qy {gens:Array GenState} {g:Nat} {x:GenState} (h:AllBare gens) (hx:x.bare=true):AllBare (gens.setIfInBounds g x):=fun y hy=>by
 rcases Array.mem_or_eq_of_mem_setIfInBounds hy with h'|h'
 ·exact h y h'
 ·rw[h'];exact hx
theorem tK {α:Type} {a:Array α} {x y:α} {j:Nat} (h:(a.push x)[j]?=some y):(j<a.size∧a[j]?=some y)∨(j=a.size∧y=x):=by
 rw[Array.getElem?_push]at h;split at h
 ·rename_i q;cases h;exact .inr ⟨q,rfl⟩
 ·have:=(cG.mp h).1;exact .inl ⟨this,h⟩
theorem C3 {prog:Program} {w:World} {A:Around} {E:Value→Shared→Prop} {s:Shared} {elts:List Expr} {x1:Nat} {pos:Pos} {a T:Addr} {g:Nat} {Q:Unit→Shared→Prop} (hg:s.heap.IsGen a g) (h:Q () s):wpAny (model prog w) A (letOwnedTupleGo (.Tuple elts x1 pos) (.ref a) (.ref T)) Q E s:=by
 (refine Ui hg fun q0 nm qn ho hc hd hs=>?_;obtain⟨oc,od,odt,osl⟩:=q0);dsimp only at hc hd hs;subst hc hd hs;unfold letOwnedTupleGo;refine aq (wpAny_load ho ?_);show wpAny _ A (if(["enumerate","zip","dict_itemiterator","dict_reverseitemiterator","odict_iterator","itertools.zip_longest","itertools.pairwise"].contains "generator"&&_)=true then _ else _) Q E s;rw[if_neg (fun q=>absurd (dX.mp q).1 (by decide))];exact aI h
section
variable {C:aU} {A:Around}
theorem Hn {env eg:Env} (hsc:env.scope=aF (a7 4)) (hfn:env.func.isSome=true) (nL:env.locals≠65∧env.locals≠72) (gL:C.G.get? env.locals=none) {a g:Nat} {gB:Array GenState} (hgs:g=gB.size) (hCg:∀(j:Nat) x,C.gens[j]?=some x→gB[j]?=some x) {X:Addr→Prop} (hXa:¬X a) (hXc:¬X env.locals) (hXg:X eg.locals)
 (hac:a≠env.locals) (a6:a≠65∧a≠72) {l:List Nat} (hA:RA A 6) {hb:Heap} {R:Result→Shared→Prop}:
 ∀(m:Nat),m≤l.length→∀(s:Shared) (gs:GenState) (o:Int) (J:Heap→Prop) (mc:Str→Option Value) (Mc:MM),
  St C s→(∀(j:Nat) x,gB[j]?=some x→s.gens[j]?=some x)→s.gens[g]?=some gs→FlatF env mc Mc s.heap→Mc.lookup (ofString "opens")=some (.dat (.int o))→s.heap.IsGen a g→J s.heap→
  (∀s',St (withG C (gB.push .running)) s'→J s'.heap→gs.Goes (MD C) A.in1 (gR (withG C (gB.push .running)) X) (gY (withG C (gB.push .running)) X eg l) m (.send .none) s')→
  KX (fun b=>X b∨b=env.locals) hb s.heap→
  (∀s',St C s'→KX (fun b=>X b∨b=env.locals) hb s'.heap→(match BV (l.drop (l.length-m)) o with
   |none=>R (.ok (.ret (.bool false))) s'
   |some o'=>(∃m M,FlatF env m M s'.heap∧M.lookup (ofString "opens")=some (.dat (.int o')))→R (.ok .next) s'))→
  codeAny (MD C) A (.forLoop RN (.ref a) vt [] env) R s:=by
 intro m;induction m with
 |zero=>
  intro hm s gs o J mc Mc Ss hgB hgg fl hop hga hJ hready kb hR;have hrun:St (withG C (gB.push .running)) (s.setGen g .running):=Ss.withG rfl rfl (qy Ss.gens rfl) fun j x e=>by
   rcases tK e with⟨h1,h2⟩|⟨h1,h2⟩
   ·have:(s.gens.setIfInBounds g .running)[j]?=s.gens[j]?:=by rw[fP (by exact(iq 0xe73d820ac326062:) hgs h1)]
    exact this.trans (hgB j x h2)
   ·rw[h1,h2,←hgs];exact MI hgg
  refine Bc (yf (n:=0) hA.hd (C.nolimit.keeps Ss.g) hA.room hga hgg (fun _ _ _ _ q=>q.2.1) (hready _ hrun hJ) (fun v az gs' hbare hY=>?_) fun az GG h' hk=>?_)
  ·refine UB hY fun T tI tS e it _ _ bu _ _ _ _ Id kap=>?_
   exact(kap az bu Id).elim
  ·refine Uj GG fun _ _ bu kx=>?_
   have h9:=hR;rw[show l.drop (l.length-0)=[]by rw[lr,List.drop_length]]at h9;have eA:St C {az.setGen g .finished with heap:=h'}:=by
    have Sa:St C (az.setGen g .finished):=St.withG (C:=withG C (gB.push .running)) (g:=C.gens) bu rfl rfl (qy bu.gens rfl) fun j x e=>by
     have h1:=hCg j x e;have hlt:j<gB.size:=(cG.mp h1).1;have:(az.gens.setIfInBounds g .finished)[j]?=az.gens[j]?:=by rw[fP (by exact(iq 0xe73d820ac326062:) hgs hlt)]
     refine this.trans (bu.gk j x ?_);rw[gx hlt];exact(ft hlt).symm.trans h1
    exact Sa.grow (t:=az.toks) hk
   refine fS (h9 _ eA (kb.trans fun b o n1 n2 nx e=>hk b o (kx b o n1 n2 (fun q=>nx (.inl q)) e)) ?_);exact⟨mc,Mc,fl.keep fun o e=>hk _ o (kx _ o nL.1 nL.2 hXc e),hop⟩
 |succ m ih=>
  intro hm s gs o J mc Mc Ss hgB hgg fl hop hga hJ hready kb hR;have hrun:St (withG C (gB.push .running)) (s.setGen g .running):=Ss.withG rfl rfl (qy Ss.gens rfl) fun j x e=>by
   rcases tK e with⟨h1,h2⟩|⟨h1,h2⟩
   ·have:(s.gens.setIfInBounds g .running)[j]?=s.gens[j]?:=by rw[fP (by exact(iq 0xe73d820ac326062:) hgs h1)]
    exact this.trans (hgB j x h2)
   ·rw[h1,h2,←hgs];exact MI hgg
  have hi1:l.length-(m+1)<l.length:=by exact(dA 0x72c32506f085c2181e10b843:) hm
  refine Bc (yf (n:=m+1) hA.hd (C.nolimit.keeps Ss.g) hA.room hga hgg (fun _ _ _ _ q=>q.2.1) (hready _ hrun hJ) (fun v az gs' hbare hY=>?_) fun az GG h' hk=>?_)
  ·(refine UB hY fun T tI tS e it q0 hT bu kx gc xe xi Id kap=>?_;subst q0)
   rw[Nat.add_sub_cancel]at hT Id kap;rw[show l.length-m-1=l.length-(m+1)by(rfl)]at hT;generalize hc:l.getD (l.length-(m+1)) 0=c at hT;have hdrop:l.drop (l.length-(m+1))=c::l.drop (l.length-m):=by
    rw[mi hi1,show l.length-(m+1)+1=l.length-m by exact(dA 0x73057842e2506f085c218043181e10b843:) hm,←hc,ac,aj hi1];rfl
   have g1:az.gens[g]?=some .running:=bu.gk g .running (by rw[hgs];exact mA);have gj:∀(j:Nat) x,gB[j]?=some x→(az.setGen g gs').gens[j]?=some x:=fun j x e=>by
    have hlt:j<gB.size:=(cG.mp e).1;have:(az.gens.setIfInBounds g gs')[j]?=az.gens[j]?:=by rw[fP (by lia)]
    refine this.trans (bu.gk j x ?_);rw[gx hlt];exact(ft hlt).symm.trans e
   have gg:(az.setGen g gs').gens[g]?=some gs':=MI g1;have eA:St (withG C (gB.push gs')) (az.setGen g gs'):=St.withG (C:=withG C (gB.push .running)) bu rfl rfl (qy bu.gens hbare) fun j x e=>by
    rcases tK e with⟨h1,h2⟩|⟨h1,h2⟩
    ·exact gj j x h2
    ·rw[h1,h2,←hgs];exact gg
   have p5:FlatF env mc Mc az.heap:=fl.keep fun o e=>kx _ o nL.1 nL.2 hXc e;have AJ:az.heap.IsGen a g:=by
    refine Uk hga fun oo nm qn e r=>?_;exact⟨oo,nm,qn,kx _ _ a6.1 a6.2 hXa e,r⟩
   refine C3 AJ ?_;generalize hs2:az.setGen g gs'=aV at eA gg gj⊢;have hh2:aV.heap=az.heap:=by rw[←hs2];rfl
   rw[←hh2]at p5 AJ hT Id kx;refine mN hA.hd hT rfl rfl fun dM nC=>?_;replace nC:D4 aV.heap.objs.size aV.heap dM:=nC;have fF:∀b o,aV.heap.get? b=some o→dM.get? b=some o:=fun b o e=>nC b o (aM (aQ e)) e;refine Uo p5.ns fun oL esL epL eL dL zL=>?_;have nD:FlatF env mc Mc dM:=p5.keep fun o e=>fF _ o e;have kp:(env.scope.kind==.class||(env.scope.kind==.module&&env.locals !=env.globals))=false:=by rw[fl.kind];rfl
   obtain⟨kpos,kch⟩:=OK hsc;show wpAny (MD C) A (assignInOrder [assign (.Name (ofString "pos") ⟨39,8,39,11⟩) env,assign (.Name (ofString "ch") ⟨39,13,39,15⟩) env] [.int (l.length-(m+1):Nat) tI,.str (S [c]) tS]) _ _ _;refine c6 (bT (cJ kpos nD.ns (fun jF rI kL=>?_) kp));refine c6 (bT (cJ kch rI (fun jk yv kK=>jf ?_) kp));replace kL:du env.locals dM jF:=kL;replace kK:du env.locals jF jk:=kK;have up:∀b o,b≠env.locals→aV.heap.get? b=some o→jk.get? b=some o:=fun b o n3 x=>(kK.2 b n3).trans ((kL.2 b n3).trans (fF b o x));have kE:∀tk',St (withG C (gB.push gs')) {aV with heap:=jk,toks:=tk'}:=fun tk'=>eA.butX (X:=fun b=>b=env.locals) (fun b q=>by
    rw[q];refine⟨gL,nL.1,nL.2,fun o eo vs q t z=>?_⟩;rw[eL]at eo;cases eo;rw[dL]at z;cases z) fun b o q e=>up b o q e;have mF:=(nD.set (d:=.int (l.length-(m+1):Nat)) kpos trivial rI ⟨tI,rfl⟩).set (d:=.str (S [c])) kch trivial yv ⟨tS,rfl⟩;obtain⟨M2,hM2⟩:∃M2,M2=(Mc.set (ofString "pos") (.dat (.int (l.length-(m+1):Nat)))).set (ofString "ch") (.dat (.str (S [c]))):=⟨_,rfl⟩;rw[←hM2]at mF;have c2:M2.lookup (ofString "opens")=some (.dat (.int o)):=by rw[hM2,f8 (by decide+kernel),f8 (by decide+kernel)];exact hop
   have c3:M2.lookup (ofString "ch")=some (.dat (.str (S [c]))):=by rw[hM2];exact ic
   refine Ul (DD c o M2 mF.flat c3 c2) fun M3 hrun3 fM3 hop3=>?_;have QQ:KX (fun b=>X b∨b=env.locals) hb jk:=kb.trans fun b o n1 n2 nx e=>up b o (fun q=>nx (.inr q)) (kx b o n1 n2 (fun q=>nx (.inl q)) e);have goal:=fun tk':Nat=>yF (C:=withG C (gB.push gs')) (d8 (k:=5)) (hA.le (by(decide))) hfn (s:={aV with heap:=jk,toks:=tk'}) mF (kE tk') nL gL (by rw[hsc];exact hrun3) fM3;refine aa (goal _) (fun f mP q=>?_) fun _ _ z=>z;(refine Uj q fun hf ll q0 mS=>?_;refine Un q0 fun Tm Rr=>?_);have Mb:St C mP:=St.withG (C:=withG C (gB.push gs')) (g:=C.gens) ll rfl rfl ll.gens fun j x e=>ll.gk j x (by
    have h1:=hCg j x e;have hlt:j<gB.size:=(cG.mp h1).1;rw[gx hlt];exact(ft hlt).symm.trans h1);have LH:KX (fun b=>X b∨b=env.locals) hb mP.heap:=QQ.trans fun b o n1 n2 nx e=>mS b o n1 n2 (fun q=>nx (.inr q)) e;have hR':=hR mP Mb LH;rw[hdrop]at hR hR';have hcl:=EF c (l.drop (l.length-m)) o;have hfl:=EE c o;rcases hfl with hfl|hfl
   ·rw[hfl]at hf hcl
    have hcl':BV (c::l.drop (l.length-m)) o=BV (l.drop (l.length-m)) (nh c o).2:=hcl;rw[hcl']at hR;cases f<;>first|exact hf.elim|skip
    refine ih (by(exact a5 hm)) mP gs' (nh c o).2 (fun h=>GJ eg l e it (l.length-m) h) Tm M3 Mb (fun j x e=>ll.gk j x (by
     have hlt:j<gB.size:=(cG.mp e).1;rw[gx hlt];exact(ft hlt).symm.trans e)) (ll.gk g gs' (by rw[hgs];exact mA)) Rr hop3 ?_ ?_ kap LH hR
    ·refine Uk AJ fun oo nm qn e r=>?_
     exact⟨oo,nm,qn,mS _ _ a6.1 a6.2 hac (up _ _ hac e),r⟩
    ·have nx:∀b,X b→b≠env.locals:=fun b x q=>hXc (q▸x)
     obtain⟨⟨m',M',f',g'⟩,⟨old,he⟩,t,oo,e1,r1⟩:=Id;have kk:∀b o,b≠65→b≠72→b≠env.locals→aV.heap.get? b=some o→mP.heap.get? b=some o:=fun b o n1 n2 n3 e=>mS b o n1 n2 n3 (up b o n3 e);exact⟨⟨m',M',f'.keep fun o e=>kk _ o gc.L6.1 gc.L6.2 (nx _ hXg) e,g'⟩,⟨old,kk _ _ gc.e6.1 gc.e6.2 (nx _ xe) he⟩,t,oo,kk _ _ gc.i6.1 gc.i6.2 (nx _ xi) e1,r1⟩
   ·rw[hfl]at hf hcl
    have hcl':BV (c::l.drop (l.length-m)) o=none:=hcl;rw[hcl']at hR';cases f<;>first|exact hf.elim|skip
    have hf':_=wY false:=hf;rw[hf'];exact hR'
  ·exact absurd GG.1 (uG m)
end
theorem Rp:jo 35 (a7 3):=dq (ax (i:=1) (by kernel_rfl)) (fun _ _ _ _ _ _ _ _ _ _ _ _ vs h=>by obtain⟨a,rfl⟩:=ji h;kernel_rfl) (by kernel_rfl) (by kernel_rfl) (by kernel_rfl) ⟨by kernel_rfl,by kernel_rfl,by kernel_rfl⟩ (by kernel_rfl)
theorem fn_42:jo 42 (a7 4):=dq (ax (i:=2) (by kernel_rfl)) (fun _ _ _ _ _ _ _ _ _ _ _ _ vs h=>by obtain⟨a,rfl⟩:=ji h;kernel_rfl) (by kernel_rfl) (by kernel_rfl) (by kernel_rfl) ⟨by kernel_rfl,by kernel_rfl,by kernel_rfl⟩ (by kernel_rfl)
noncomputable def Aw:Str:=ofString "_strip_quoted_realnames"
theorem strip_at:LocalIs Aw 35:=⟨by kernel_rfl,by kernel_rfl⟩
noncomputable def w7 (as:List D) (d:D):Prop:=∃l:List Nat,(∀c∈l,c≠34)∧as=[.str (S l)]∧d=.str (S l)
theorem DJ {as d d'} (h:w7 as d) (h':w7 as d'):d=d':=by
 (refine Ul h fun t _ e q0=>?_;subst q0);(refine Ul h' fun t' _ e' q0=>?_;subst q0);rw[e]at e';injection e' with e' e2
theorem AS {l:List Nat} (h:∀c∈l,c≠34):ia .NotIn (.str (S [34])) (.str (S l))=some true:=by
 show some (!(!(bW (S l) (S [34]) 0 (S l).length 1).isEmpty))=_;have:(!(bW (S l) ⟨#[34]⟩ 0 (S l).length 1).isEmpty)=decide (34∈(S l).cps.toList):=StrLaws.found_one (S l) 34;have h2:(!(bW (S l) (S [34]) 0 (S l).length 1).isEmpty)=decide (34∈(S l).cps.toList):=this;rw[h2,nN,decide_eq_false (fun q=>h 34 q rfl)];rfl
theorem z7 {C:aU} {k:Nat}:cg C (k+1) 35 w7:=by
 rintro as d ⟨l,h,rfl,rfl⟩;exact Un (i9 (n:=12) (X:=X0) (sc:=(aF (a7 3)).names) (M:=bU (ej (a7 3)) [.str (S l)]) (ss:=aG (a7 3)) (d:=.str (S l)) (qc (AS h) (qT .nil)) (by kernel_rfl)) fun M' e=>c9 (n:=12) (M':=M') Rp d8 rfl e
theorem yz:(28,a7 2)∈fnTab:=ax (i:=0) (by kernel_rfl)
theorem Rc (C:aU):fnIn (Kf C) 28=true:=congrArg (·.1) (C.F.fn yz)
theorem J1 (C:aU):(dy (Kf C) 28).body=.stmts (aG (a7 2)):=congrArg (·.2.2.1) (C.F.fn yz)
theorem GK (C:aU):(dy (Kf C) 28).scope=aF (a7 2):=congrArg (·.2.2.2.1) (C.F.fn yz)
theorem JZ (C:aU):(dy (Kf C) 28).globals=mainGlobals:=congrArg (·.2.2.2.2.1.1) (C.F.fn yz)
theorem Rd (C:aU):(dy (Kf C) 28).builtins=builtinsNs:=congrArg (·.2.2.2.2.1.2) (C.F.fn yz)
theorem NN (C:aU):(dy (Kf C) 28).closure=[]:=congrArg (·.2.2.2.2.2.1) (C.F.fn yz)
theorem J0 (C:aU):codeIn (Kf C) (dy (Kf C) 28).code (dy (Kf C) 28).qualname=true:=congrArg (·.2.2.2.2.2.2.2) (C.F.fn yz)
theorem J2 (C:aU) (v:Value):bindArgs (dy (Kf C) 28) ⟨[v],[]⟩=pure [(ofString "addr",v)]:=
 (B0 yz (fun _ _ _ _ _ _ _ _ _ _ _ _ vs h=>by obtain⟨a,rfl⟩:=ji h;kernel_rfl) C.F [v] (by kernel_rfl)).trans (by kernel_rfl)
theorem Di:∀p∈(aF (a7 2)).names,p.2≠gv:=fun p hp e=>by
 have:=bF.mp (show((aF (a7 2)).names.all fun p=>p.2 !=.cell)=true by kernel_rfl) p hp;rw[e]at this;cases this
noncomputable def QA:Str:=ofString "_iter_escaped_chars"
theorem iter_at:LocalIs QA 28:=⟨by kernel_rfl,by kernel_rfl⟩
theorem uY {env:Env} {sc:Scope} (hsc:env.scope=sc) (h:(sc.names.all fun p=>p.2 !=.cell&&p.2 !=.free)=true):∀x,env.kindOf x≠some .cell∧env.kindOf x≠some .free:=fun x=>by
 have key:∀kd,env.kindOf x=some kd→kd≠.cell∧kd≠.free:=fun kd e=>by
  have hm:(x,kd)∈sc.names:=bk (by rw[←hsc];exact e);have:=bF.mp h _ hm;simpa using this
 exact⟨fun e=>(key _ e).1 rfl,fun e=>(key _ e).2 rfl⟩
noncomputable def UP:Stmt:=f9 (aG (a7 4)) 0
noncomputable def UO:Stmt:=f9 (aG (a7 4)) 1
noncomputable def UN:Stmt:=f9 (aG (a7 4)) 3
theorem RM:aG (a7 4)=[UP,UO]++[ON,UN]:=by kernel_rfl
noncomputable def Xk:Cx:=Cx.of [(Aw,w7)] []
theorem GL {C:aU} {A:Around} {s:Shared} {v:Value} {Q:Value→Shared→Prop} (hA:RA A 1) (Ss:St C s)
 (h:∀(eg:Env) (dP:Heap) (o:Obj) (tk:Nat) (mg:Str→Option Value),eg.scope=aF (a7 2)→eg.func.isSome=true→eg.globals=mainGlobals→eg.builtins=builtinsNs→eg.cells=[]→eg.locals=s.heap.objs.size→dP.Ns eg.locals mg→mg (ofString "addr")=some v→(∀b o,s.heap.get? b=some o→dP.get? b=some o)→dP.objs.size=s.heap.objs.size+1→
  (dP.push o).IsGen dP.objs.size s.gens.size→Q (.ref dP.objs.size) {s with heap:=dP.push o,gens:=s.gens.push (.fresh (y7 eg)),toks:=tk}):
 wpAny (MD C) A (call (.ref 28) [v]) Q bL s:=by
 refine Ua (ww (Rc C)) fun o ho hdat=>?_;have nM:=C.X.keeps Ss.g;have hsc:=GK C;refine js (codeAny_call_generator (fd:=dy (Kf C) 28) (body:=aG (a7 2)) hA.room (nM _ _ ho) hdat (by rw[hsc];kernel_rfl) (by rw[hsc];kernel_rfl) (J1 _) (RD nM (J0 _)) ?_);rw[J2];refine aI ?_;refine rT (by rw[hsc];exact Di) (by intro y hy;rw[aT.mp hy,hsc];kernel_rfl) (fun dP hns hsb=>⟨(C.nolimit.keeps Ss.g).fresh _ hsb,?_⟩) (by rw[hsc];kernel_rfl);have hk:∀b o,s.heap.get? b=some o→dP.get? b=some o:=fun b o e=>hsb.extBut b o (aM (aQ e)) (ak _ e);refine h (newEnv (dy (Kf C) 28).scope s.heap.objs.size (dy (Kf C) 28).globals (dy (Kf C) 28).closure ((dy (Kf C) 28).qualname++".<locals>.") (some 28) (dy (Kf C) 28).code none (dy (Kf C) 28).builtins) dP _ _ _ hsc rfl (JZ C) (Rd C) (NN C) rfl hns ?_ hk ?_ ?_
 ·show eB (ofString "addr") [(ofString "addr",v)]=_
  rw[aH,beq_self_eq_true]
 ·rw[hsb.1,lE]
 ·exact⟨_,_,_,aX _ rfl,rfl,rfl,rfl⟩
theorem HM {l:List Nat} (h:∀c∈l,c≠34):Xk.call (ofString "_strip_quoted_realnames") [.str (S l)]=some (.str (S l)):=gM (x:=Aw) (fun _ _=>DJ) ⟨l,h,rfl,rfl⟩
theorem R8 {C:aU} {k:Nat}:CxOK C Xk (k+1):=CxOK.calls fun f R h=>by
 have:=bk h;rw[aT]at this;cases this;exact strip_at.at z7
theorem Kx {l:List Nat} (h:∀c∈l,c≠34) {M:MM} (h1:M.lookup (ofString "addr")=some (.dat (.str (S l)))):c7 (ex 12 Xk cS) [UP,UO] M=some (.next,(M.set (ofString "addr") (.dat (.str (S l)))).set (ofString "opens") (.dat (.int 0))):=by
 conv=>lhs;arg 2;arg 1;whnf
 conv=>lhs;arg 2;arg 2;arg 1;whnf
 refine dO (lU (d:=.str (S l)) (by kernel_rfl) (by kernel_rfl) ?_) (dO (lU (by kernel_rfl) (by kernel_rfl) (by rw[fg];rfl)) rfl);exact fR (n:=12) (qg (HM h) .nil) (by kernel_rfl) M (.add h1 .nil)
theorem Kw {M:MM} {o:Int} (h:M.lookup (ofString "opens")=some (.dat (.int o))):c7 (ex 12 X0 cS) [UN] M=some (.ret (.bool (o==0)),M):=by
 conv=>lhs;arg 2;arg 1;whnf
 refine j8 (ot ?_);exact fR (n:=12) .nil (by kernel_rfl) M (.add h .nil)
theorem AU {C:aU} {k:Nat}:cg C (k+10) 42 DN:=by
 rintro as d ⟨l,hl,rfl,rfl⟩;refine⟨fun{A s P vs} hA Ss lv t hr=>?_⟩;have h34:∀c∈l,c≠34:=fun c q=>(hl.2 c q).1;refine js (nE fn_42 (k:=k+9) hA Ss lv t hr rfl fun env bV tk m μ henv esc efn F bu hk μf μG hAd=>?_);obtain⟨M,hM⟩:∃M:MM,M=bU (ej (a7 4)) [.str (S l)]:=⟨_,rfl⟩;rw[←hM]at F;have hM':M=[(ofString "addr",.dat (.str (S l)))]:=by rw[hM];kernel_rfl
 have l1:M.lookup (ofString "addr")=some (.dat (.str (S l))):=by rw[hM'];exact eQ
 have fM:FlatM M:=fun x e q=>by
  have:=bk q;rw[hM',aT]at this;cases this;exact⟨_,rfl,trivial⟩
 have e0:=Kx h34 l1;obtain⟨M2,hM2⟩:∃M2,M2=(M.set (ofString "addr") (.dat (.str (S l)))).set (ofString "opens") (.dat (.int 0)):=⟨_,rfl⟩;rw[←hM2]at e0;have f2:FlatM M2:=by rw[hM2];exact FlatM.set (d:=.int 0) (FlatM.set (d:=.str (S l)) fM trivial) trivial
 have j1:M2.lookup (ofString "addr")=some (.dat (.str (S l))):=by rw[hM2,f8 (by decide+kernel)];exact ic
 have j2:M2.lookup (ofString "opens")=some (.dat (.int 0)):=by rw[hM2];exact ic
 rw[RM];refine oZ R8 hAd efn 12 _ M M2 m μ ⟨bV,s.gens,s.drawn,tk,s.os⟩ (by rw[esc];exact e0) μG F bu fun aV kC=>?_;refine Uc kC.ex fun m' μ' F' u1 u2=>?_;have eA:=kC.S;have p5:FlatF env m' M2 aV.heap:=F'.flatF (uY esc (by kernel_rfl)) (by rw[henv];show cellsFrom _ (dy (Kf C) 42).scope.names []=[];rw[fn_42.scope C.F];kernel_rfl) fun x e q=>⟨q,f2 x e q⟩;have nL:env.locals≠65∧env.locals≠72:=⟨(F.liveμ _ F.nL).1,(F.liveμ _ F.nL).2.1⟩;have gL:=μG _ F.nL;have nLs:=μf _ F.nL;have d9:Keep s.heap aV.heap:=⟨fun b o n1 n2 e=>kC.k b o n1 n2 (fun q=>by rw[μf b q]at e;cases e) (hk b o e)⟩;refine bn ?_;rw[Kz];refine wpAny_For ?_ (fun _=>rfl);have hE:HE C (A.deeper env) P μ' env m' M2 (ev 12 X0 env.scope.names M2):=(fu (d8 (k:=k+9)) 12).1 hAd;have ea:di (ev 12 X0 env.scope.names M2) [.Name (ofString "addr") ⟨39,39,39,43⟩]=some [.str (S l)]:=by
  rw[esc];exact jd (ye j1 (by kernel_rfl)) rfl
 have hgk:env.kindOf (ofString "_iter_escaped_chars")=some .globalImplicit:=by show env.scope.names.lookup _=_;rw[esc];kernel_rfl
 refine em (sx F' eA hgk (by decide+kernel) (C.F.ns iter_at.1) ?_);refine zN (P:=fun h=>(Kf C).In h) (by rw[ez (by rfl)];rfl) (keeps_K (C.F.kp iter_at.2)) (aa (dQ (by rfl) (jG hE ea F' eA)) (fun a bq q=>?_) fun _ _ x=>x);refine Uj q fun e gi fF r=>?_;refine⟨C.X.keeps gi.g,?_⟩;rw[e];(refine Uc r fun v w hv q0 hw=>?_;refine Un q0 fun t1 q1=>?_;subst q1);rw[show w=[]from hw]at hv;rw[hv];refine GL (hAd.le (by exact(fN 22515340608558:))) gi fun eg dP o Lk mg gsc gfn ggl gbi gcl gloc gns gad LQ LO hgen=>?_;refine wpAny_pyIter_gen hgen ?_;have nD:FlatF env m' M2 bq.heap:=p5.keep fun o e=>fF.get _ _ nL.1 nL.2 e;obtain⟨H0,hH0⟩:∃H0,H0=dP.push o:=⟨_,rfl⟩;have up:∀b o,bq.heap.get? b=some o→H0.get? b=some o:=fun b o e=>by rw[hH0];exact ak _ (LQ b o e)
 have fnone:bq.heap.get? eg.locals=none:=by
  rw[gloc];cases e:bq.heap.get? bq.heap.objs.size with
  |none=>rfl
  |some o=>exact absurd (aQ e) (A3 _)
 have egL:eg.locals≠65∧eg.locals≠72:=⟨fun q=>gi.live65 (q▸fnone),fun q=>gi.live72 (q▸fnone)⟩;have egG:C.G.get? eg.locals=none:=by
  cases e:C.G.get? eg.locals with
  |none=>rfl
  |some o=>have:=gi.g _ _ e;rw[fnone]at this;cases this
 have hLlt:env.locals<bq.heap.objs.size:=nD.ns.lt;have neL:env.locals≠eg.locals:=by rw[gloc];exact aM hLlt
 have ha1:dP.objs.size≠eg.locals:=by rw[gloc,LO];exact nP _
 have ha2:dP.objs.size≠env.locals:=by rw[LO];exact cC (aM (dJ hLlt))
 have live:∀{b},bq.heap.get? b≠none→H0.get? b≠none:=fun{b} q=>by
  cases e:bq.heap.get? b with
  |none=>exact absurd e q
  |some o=>rw[up _ _ e];exact fun z=>nomatch z
 have hgenH:H0.IsGen dP.objs.size bq.gens.size:=by rw[hH0];exact hgen
 have aLive:H0.get? dP.objs.size≠none:=by refine Uk hgenH fun _ _ _ e _=>?_;rw[e];exact fun z=>nomatch z
 have a6:dP.objs.size≠65∧dP.objs.size≠72:=by
  have hn:bq.heap.get? dP.objs.size=none:=by
   cases e:bq.heap.get? dP.objs.size with
   |none=>rfl
   |some o=>exact absurd (aQ (LQ _ _ e)) (A3 _)
  exact⟨fun q=>gi.live65 (q▸hn),fun q=>gi.live72 (q▸hn)⟩
 have Lne:H0.get? env.locals≠none:=by
  refine Uk nD.ns fun oo _ _ e _=>?_;rw[up _ _ e];exact fun z=>nomatch z
 have o9:St C {bq with heap:=H0,toks:=Lk}:=gi.grow up;have hgB:∀(j:Nat) x,bq.gens[j]?=some x→(bq.gens.push (.fresh (y7 eg)))[j]?=some x:=fun j x e=>by
  have hlt:j<bq.gens.size:=(cG.mp e).1;rw[gx hlt];exact(ft hlt).symm.trans e
 have kE:St C {bq with heap:=H0,gens:=bq.gens.push (.fresh (y7 eg)),toks:=Lk}:=o9.withG (g:=C.gens) rfl rfl (fun y hy=>by
  rcases Array.mem_push.mp hy with h|h
  ·exact gi.gens y h
  ·rw[h];rfl) fun j x e=>hgB j x (gi.gk j x e);rw[←hH0];have mF:FlatF env m' M2 H0:=nD.keep fun o e=>up _ o e;refine Hn esc efn nL gL (a:=dP.objs.size) (g:=bq.gens.size) (gB:=bq.gens) (eg:=eg) rfl gi.gk (X:=fun b=>b=eg.locals∨H0.get? b=none) (fun q=>q.elim ha1 aLive) (fun q=>q.elim neL Lne) (.inl rfl) ha2 a6 (l:=l) (hAd.le (by exact(fN 22515340613678:))) (hb:=H0)
  l.length (ba _) _ (.fresh (y7 eg)) 0 (fun h=>h=H0) m' M2 kE hgB mA mF j2 hgenH rfl (fun s' S' J'=>?_) .refl fun s' S' kx=>?_
 ·refine Dj (C:=withG C (bq.gens.push .running)) gsc gfn (.inl rfl) (fun c q=>(hl.2 c q).2.1) hl.1 (hAd.le (show 5≤k+9 by exact(fN 22515340612654:))).in1 egL egG s' S' (fun b q=>.inr (by rw[←J'];exact q)) ?_
  rw[J'];refine⟨mg,[(ofString "addr",.dat (.str (S l)))],⟨by rw[gsc];kernel_rfl,ggl,gbi,uY gsc (by kernel_rfl),gcl,?_,?_,fun x d q r=>?_⟩,eQ,?_⟩
  ·refine Uk gns fun oo es ep e z=>?_
   exact⟨oo,es,ep,by rw[hH0];exact ak _ e,z⟩
  ·intro x e q
   have:=bk q;rw[aT]at this;cases this;exact⟨_,rfl,trivial⟩
  ·have:=bk q
   rw[aT]at this;cases this;exact⟨_,gad,t1,rfl⟩
  ·intro x e q
   have:=bk q;rw[aT]at this;cases this;exact⟨_,rfl,trivial⟩
 ·have kk:Keep s.heap s'.heap:=⟨fun b o n1 n2 e=>by
   have e3:=fF.get b o n1 n2 (d9.get b o n1 n2 e);refine kx b o n1 n2 (fun q=>?_) (up b o e3);rcases q with(q|q)|q
   ·rw[q,fnone]at e3;cases e3
   ·rw[up _ _ e3]at q;cases q
   ·rw[q,nLs]at e;cases e⟩;rw[um,lC];have hc:=wM l 0;cases hcl:BV l 0 with
  |none=>
   rw[hcl]at hc;have hc':cZ l 0=false:=hc;refine⟨S',kk,?_⟩;rw[hc'];rfl
  |some o'=>
   rw[hcl]at hc;have hc':cZ l 0=(o'==0):=hc;rintro⟨mm,MM',fl',ho⟩;refine aa (yF (d8 (k:=k+9)) hAd efn fl' S' nL gL (by rw[esc];exact Kw ho) fl'.flat) (fun f mP q=>?_) fun _ _ z=>z;refine Uj q fun hf ll _ mS=>?_;cases f<;>first|exact hf.elim|skip
   have hf':_=wY (o'==0):=hf;refine⟨ll,⟨fun b o n1 n2 e=>mS b o n1 n2 (fun q=>by rw[q,nLs]at e;cases e) (kk.get b o n1 n2 e)⟩,?_⟩;rw[hc'];exact hf
noncomputable def TP (as:List D) (d:D):Prop:=∃xs:List Int,xs.length≤63∧as=[iL xs]∧d=.bool true
noncomputable def Ch:Prop:=∀{C:aU},cg C 399 239 TP
theorem Gj {h:Heap} {P:Addr→Prop} {vs:List Value} {xs:List Int} (a:IntsAre vs xs):Reps P h (xs.map .int) vs:=by
 induction a with
 |nil=>exact rfl
 |cons _ _ _ ih=>exact⟨_,_,rfl,⟨_,rfl⟩,ih⟩
theorem Fg {P:Params} {h:Heap} {a:Addr} {items:Array Value} {xs:List WData} (hl:h.IsList a items) (hW:Well P h (.ref a) (.list xs)):h.PlainList a items:=by
 cases hW with
 |list e _=>
  refine Uw hl fun o e1 e2 n e3=>?_;rw[e]at e1;cases e1;cases e3;exact⟨_,e⟩
noncomputable abbrev Be:List (Addr×Addr):=[(69,65),(76,72)]
theorem y9 {h:Heap} {mg:Str→Option Value} {P:Addr} (hg:h.Ns mainGlobals mg) (hP:h.get? P=none) (x:∃bm ob,mg (ofString "__builtins__")=some (.ref bm)∧bm≠builtinsNs∧h.get? bm=some ob∧ob.cls=.type "module"∧ob.dict=some builtinsNs∧ob.data=.plain):h.BuiltinsAt mg P:=by
 refine Ur x fun bm ob e1 e2 e3 e4 e5 e6=>?_;refine⟨bm,ob,e1,e2,fun q=>?_,fun q=>?_,e3,e4,e5,e6⟩
 ·refine Uo hg fun o es ep e d _=>?_
  rw[q,e]at e3;cases e3;rw[d]at e6;cases e6
 ·rw[q,hP]at e3;cases e3
theorem Tw (L:Ch) {p:Program} {loose:List Str} {mean:ExcName→Option Value} {w:World} {az:Shared} {mg mb:Str→Option Value} (T:Top p loose mean mg mb az.heap) {K:Frag} (KX:K.In az.heap) (KE:KF w.params K) (hT8:∀P∈([72,65]:List Addr),az.heap.get? P=some (tabObj #[])) {fa a:Addr}
 (hmg:mg (ofString "law")=some (.ref fa)) (hg:az.gens=#[]) {vs:List Value} {xs:List Int} (hl:az.heap.PlainList a vs.toArray) (hI:IntsAre vs xs) (hn:xs.length≤63) {cw:ClaimW} {cl:Str→Option Addr} {mean':ExcName→Option Value} {args:List WData}
 (hr:∀cls,cw.raises args cls=false) (hp:cw.post args (.bool true) args=true) (hu:cw.unshared=false∨cw.unshared=true):
 wpAny (model PySem.Challenge.pw_uc0055_01 w) callerA (call (.ref fa) [.ref a]) (fun v s'=>GoodWG cw cl mean' args az (.ok (.ret v)) s') (fun e s'=>GoodWG cw cl mean' args az (.error e) s') az:=by
 have hfa:fa=239:=by
  have:=mg_of KX T.g (KE.ns (x:=ofString "law") (v:=some (some (.ref 239))) (by kernel_rfl));rw[hmg]at this;cases this;rfl
 subst hfa;have h65:=hT8 65 (by decide);have h72:=hT8 72 (by decide);have hT:TabsAt Be az.heap:=fun q hq=>by
  rw[aD,aT]at hq;rcases hq with rfl|rfl
  ·exact⟨codeHd_of_K (c:=69) (P:=65) KX (KE.bit 7 rfl),h65⟩
  ·exact⟨codeHd_of_K (c:=76) (P:=72) KX (KE.bit 8 rfl),h72⟩
 have T':=ghost_top hT T;have X':=ghost_K hT KX (KE.bit 9 rfl);have cd:=ghost_code hT;have n65:(ghostOf az.heap Be).get? 65=none:=hideAll_none _ (by decide);have n72:(ghostOf az.heap Be).get? 72=none:=hideAll_none _ (by decide);let C:aU:=⟨w,ghostOf az.heap Be,mg,mb,az.os,az.gens,K,KE,X',T'.g,T'.b,T'.builtins,T'.nolimit,n65,n72,y9 T'.g n65 T'.bmain,y9 T'.g n72 T'.bmain,cd.1,cd.2.1,by
  rw[hideAll_size];exact aQ h72⟩;have bu:St C az:=⟨fun b o e=>of_hideAll _ e,⟨#[],h65,.inl rfl⟩,⟨#[],h72,.inl rfl⟩,fun y hy=>by rw[hg]at hy;exact absurd hy (Array.not_mem_empty _),fun g x e=>e,rfl⟩;have hA:RA callerA 399:=⟨rfl,cj (by kernel_rfl),cj (by kernel_rfl)⟩;have na:∀p,az.heap.get? p=some (tabObj #[])→a≠p:=fun p e q=>by
  obtain⟨n,z⟩:=id hl;rw[q,e]at z;cases z
 refine aa ((L (C:=C) _ _ ⟨xs,hn,rfl,rfl⟩).run (P:=fun b=>b≠65∧b≠72) (vs:=[.ref a]) hA bu (fun b q=>?_) ⟨fun q=>q.1 rfl,fun q=>q.2 rfl⟩ ⟨_,_,rfl,⟨a,vs.toArray,rfl,⟨na 65 h65,na 72 h72⟩,hl,by simpa using Gj hI⟩,rfl⟩) (fun v s' q=>?_) fun _ _ z=>z.elim
 ·by_cases e1:b=65
  ·exact .inl e1
  ·by_cases e2:b=72
   ·exact .inr (.inl e2)
   ·exact absurd ⟨e1,e2⟩ q
 (refine Ud q fun S' k' q0=>?_;subst q0);refine⟨.inl ⟨_,.bool true,[],rfl,hr,ReadsW.bool true,hp,fun _=>⟨List.nodup_nil,fun _ q=>nomatch q⟩⟩,?_,S'.os,S'.gens⟩;have grown:∀b o,b=65∨b=72→az.heap.get? b=some o→isCodeTable az.heap b∧o=tabObj #[]∧∃ps,s'.heap.get? b=some (tabObj ps):=fun b o q e=>by
  rcases q with rfl|rfl
  ·rw[h65]at e;cases e
   refine Ua S'.tA fun ps e1 _=>?_;exact⟨((hT (69,65) (by decide)).1.tab h65).isCodeTable,rfl,ps,e1⟩
  ·rw[h72]at e;cases e
   refine Ua S'.tB fun ps e1 _=>?_;exact⟨((hT (76,72) (by decide)).1.tab h72).isCodeTable,rfl,ps,e1⟩
 refine⟨fun b o e=>?_,fun b o e=>?_⟩
 ·by_cases hb:b=65∨b=72
  ·(refine Uh (grown b o hb e) fun ht q0 ps hP=>?_;subst q0)
   exact .inr (.inl ⟨ht,rfl,#[],ps,rfl,by rw[ry];exact hP⟩)
  ·rw[not_or]at hb
   exact .inl (k'.get b o hb.1 hb.2 e)
 ·by_cases hb:b=65∨b=72
  ·refine Uh (grown b o hb e) fun _ _ ps hP=>?_
   exact⟨_,hP⟩
  ·rw[not_or]at hb
   exact⟨o,k'.get b o hb.1 hb.2 e⟩
theorem Rs (L:Ch):PySem.Challenge.rw_uc0055_01.Holds:=by
 apply NK;intro w fq az mg mb G Y fa o pm cd doc dV kV ho hd hcd hD hmg hg args vals as hpre hlay hrd hwl hlo;refine Ul Y fun K KX KE hT8=>?_;refine Ground.open G ?_;intro T B D TE TW;wrow_args hpre hlay hrd hwl hlo;rename IntsAre _ _=>hI;rename Well _ _ _ _=>hW;rename Heap.IsList _ _ _=>hL0;rename¬_<_=>hn;have hL:=Fg hL0 hW;exact Tw L T KX KE hT8 hmg hg hL hI (by exact(fN 0xe503f1385ebc8520fc4e:) hn) (fun _=>by first|rfl|kernel_rfl) (by first|rfl|kernel_rfl) (by first|(left;rfl)|(right;rfl))
theorem Lg {prog:Program} {w:World} {A:Around} {R:Result→Shared→Prop} {s:Shared} {env:Env} {elt target iter:Expr} {scope:Scope} {pos:Pos} {it acc:Value}
 (h:wpAny (model prog w) A (pyNext it) (fun r az=>match r with
  |none=>R (.ok .next) az
  |some v=>wpAny (model prog w) A (letOwnedTupleGo target it v) (fun _ aV=>wpAny (model prog w) A (assign target env v) (fun _ bq=>wpAny (model prog w) A (eval elt env) (fun x eG=>wpAny (model prog w) A (call (.builtin "list.append") [acc,x]) (fun _ jg=>
   codeAny (model prog w) A (.compLoop (.ListComp elt [⟨target,iter,[],0⟩] scope pos) 0 it acc env) R jg) bL eG) bL bq) bL aV) bL az) bL s):
 codeAny (model prog w) A (.compLoop (.ListComp elt [⟨target,iter,[],0⟩] scope pos) 0 it acc env) R s:=by
 refine gV ?_;show wpAny _ A ((compTurn (.ListComp elt [⟨target,iter,[],0⟩] scope pos) 0 it acc env).onRaise (fun x=>do noteFrame x env;theTreesLotGoes x)) _ _ s;refine nS (xz ?_);rw[Vp];refine aq (bM (aq (aa h (fun r az bV=>?_) fun _ _ h'=>h')));cases r with
 |none=>exact aI bV
 |some v=>
  refine aq (aa bV (fun _ aV bR=>?_) fun _ _ h'=>h');refine aq (aa bR (fun _ bq dM=>aq (iM (a:=true) rfl ?_)) fun _ _ h'=>h');exact aq (aq (aa dM (fun x eG jF=>aq (aa jF (fun _ jg jk=>aI (aI ⟨rfl,jk⟩)) fun _ _ h'=>h')) fun _ _ h'=>h'))
section
variable {C:aU} {A:Around} {s:Shared} {ah:Addr→Prop} {μ:List Addr} {h h':Heap} {env:Env} {m:Str→Option Value} {M:MM} {k:Nat}
theorem FI.buts {X:Addr→Prop} (F:FI ah μ h env m M) (ha:∀a,X a→a∈μ) (hL:¬X env.locals) (hno:∀x l,M.lookup x≠some (.own l)) (hc:∀x c,env.cells.lookup x=some c→¬X c)
 (hs:∀b o,¬X b→h.get? b=some o→h'.get? b=some o) (hlv:∀a,X a→∃o,h'.get? a=some o):FI ah μ h' env m M:=by
 have pq:∀b o,Pm ah μ b→h.get? b=some o→h'.get? b=some o∧Pm ah μ b:=fun b o p e=>⟨hs b o (fun q=>p.2 (ha _ q)) e,p⟩;refine⟨fun b n=>?_,fun b q=>?_,F.tab,F.kind,F.glob,F.bi,?_,F.nL,fun x e q r=>?_,fun x r=>?_,F.st,F.inj,fun x e q r=>?_,fun x y l l' v q1=>absurd q1 (hno x l)⟩
 ·rcases F.live b n with e|e|⟨o,e⟩
  ·exact .inl e
  ·exact .inr (.inl e)
  ·by_cases hb:X b
   ·exact .inr (.inr (hlv b hb))
   ·exact .inr (.inr ⟨o,hs b o hb e⟩)
 ·refine Uh (F.liveμ b q) fun n1 n2 o e=>?_
  refine⟨n1,n2,?_⟩;by_cases hb:X b
  ·exact hlv b hb
  ·exact⟨o,hs b o hb e⟩
 ·refine Uk F.ns fun o es ep e z=>?_;exact⟨o,es,ep,hs _ _ hL e,z⟩
 ·refine Ua (F.loc x e q r) fun v e1 e2=>?_
  refine⟨v,e1,?_⟩;cases e with
  |dat d=>exact Rep.mono pq e2
  |own l=>exact absurd q (hno x l)
 ·refine Up (F.cell x r) fun c v e1 n1 n2 o e2 e3=>?_
  exact⟨c,v,e1,n1,n2,o,hs _ _ (hc x c e1) e2,e3⟩
 ·(refine Ui (F.cval x e q r) fun c v d e1 q0 e3 e4=>?_;refine Ua q0 fun o g1 g2=>?_)
  exact⟨c,v,d,e1,⟨o,hs _ _ (hc x c e1) g1,g2⟩,e3,Rep.mono pq e4⟩
noncomputable def IX (f:Nat→Int→Option D):List Int→Nat→Option (List D)
 |[],_=>some []
 |c::r,i=>(f i c).bind fun d=>(IX f r (i+1)).map (d::·)
structure TT (C:aU) (ah:Addr→Prop) (μ:List Addr) (Dl Cc:Addr) (bR:Heap) (bl:List Addr) (out:List D) (s:Shared):Prop where
 S:St C s
 ns:∃m,s.heap.Ns Cc m
 acc:∃ys,s.heap.PlainList Dl ys∧Reps (Pm ah μ) s.heap out ys.toList
 k:∀b o,b≠65→b≠72→b∉bl→bR.get? b=some o→s.heap.get? b=some o
structure EC (dP:Heap) (env:Env) (D' e it lst:Addr):Prop where
 en:dP.get? e=none
 In:dP.get? it=none
 ne:e≠it
 eD:e≠D'
 iD:it≠D'
 eL:e≠env.locals
 iL:it≠env.locals
 l6:lst≠65∧lst≠72
 lD:lst≠D'
 lL:lst≠env.locals
 le:lst≠e
 li:lst≠it
noncomputable abbrev uA (p0 p1 p2:Pos):Expr:=.Tuple [.Name (ofString "k") p1,.Name (ofString "cell") p2] 0 p0
theorem Du {elt iter:Expr} {scope:Scope} {pos p0 p1 p2:Pos} {D' e it lst:Addr} {dP bR:Heap} {R:Result→Shared→Prop} {fE:MM→Expr→Option D} {ns:List Int} {vs:Array Value} (hA:RA A k)
 (ec:EC dP env D' e it lst) (cs:CS C μ D' env dP) (hbμ:e∈μ∧it∈μ∧D'∈μ∧env.locals∈μ) (no:NoOwn M) (hMk:M.lookup (ofString "k")=none) (hMc:M.lookup (ofString "cell")=none)
 (hk:env.kindOf (ofString "k")=some .local) (hc:env.kindOf (ofString "cell")=some .local) (hvs:∀(i:Nat) c,ns[i]?=some c→∃t,vs[i]?=some (.int c t)) (hvl:vs.size=ns.length) (hl2:bR.IsList lst vs) (hnl:ns.length≤1000)
 (hE:∀m M',HE C A ah μ env m M' (fE M')):
 ∀(r:List Int) (i:Nat) (out l:List D) (s:Shared) (old:Value),ns.drop i=r→i≤ns.length→CI C ah μ D' env M bR [e,it,D',env.locals] out s→IsEnum s.heap e it i old→s.heap.IsListIter it lst i→
  IX (fun i c=>fE ((M.set (ofString "k") (.dat (.int i))).set (ofString "cell") (.dat (.int c))) elt) r i=some l→out.length+l.length≤1000000→
  (∀az,TT C ah μ D' env.locals bR [e,it,D',env.locals] (out++l) az→R (.ok .next) az)→codeAny (MD C) A (.compLoop (.ListComp elt [⟨uA p0 p1 p2,iter,[],0⟩] scope pos) 0 (.ref e) (.ref D') env) R s:=by
 have hMs:∀(d1 d2:D) y z,M.lookup y=some z→((M.set (ofString "k") (.dat d1)).set (ofString "cell") (.dat d2)).lookup y=some z:=fun d1 d2 y z q=>by
  rw[MM.set_lookup,MM.set_lookup];by_cases h1:y=ofString "cell"
  ·subst h1;rw[hMc]at q;cases q
  ·rw[if_neg h1]
   by_cases h2:y=ofString "k"
   ·subst h2;rw[hMk]at q;cases q
   ·rw[if_neg h2];exact q
 have lst2:∀{s:Shared} {out:List D},CI C ah μ D' env M bR [e,it,D',env.locals] out s→s.heap.IsList lst vs:=fun{s out} c=>by
  refine Ua hl2 fun o e1 e2=>?_;refine⟨o,c.k _ _ ec.l6.1 ec.l6.2 ?_ e1,e2⟩;exact yd ec.le (yd ec.li (yd ec.lD (yd ec.lL bx)))
 intro r;induction r with
 |nil=>
  intro i out l s old hd hile c he hit hl hlen hR;have hi:ns.length≤i:=by simpa using hd
  cases hl;obtain⟨m,F⟩:=c.F;refine Ua c.acc fun ys h1 h2=>?_;refine Ud (F.liveμ _ hbμ.2.1) fun n1 n2 _=>?_;refine Lg (wpAny_pyNext_enum_end hA.hd he hit (lst2 c) (by rw[Array.getElem?_eq_none];(rw[hvl];exact hi)) fun h' hx=>?_);rw[bH]at hR;have hx':∀b o,b≠it→s.heap.get? b=some o→h'.get? b=some o:=fun b o q e=>hx b o q e;refine hR _ ?_;refine Ul (id hit) fun oI eI cI dI=>?_;refine⟨c.S.but (t:=s.toks) eI (fun vs q t z=>by rw[dI]at z;cases z;simp) (cs.fresh _ ec.In) n1 n2 hx',⟨m,F.ns.at fun o e=>hx' _ o (cC ec.iL) e⟩,⟨ys,h1.at fun o e=>hx' _ o (cC ec.iD) e,?_⟩,fun b o q1 q2 q3 e=>hx' b o (fun z=>q3 (by rw[z];simp)) (c.k b o q1 q2 q3 e)⟩;exact Reps.mono (fun b o p e=>⟨hx' b o (fun q=>p.2 (q▸hbμ.2.1)) e,p⟩) h2
 |cons d r ih=>
  intro i out l s old hd hile c he hit hl hlen hR;refine Ud (ou hd) fun hi hilt hd'=>?_;obtain⟨t0,hv⟩:=hvs i d hi;refine Ub hl fun x0 hx0 hl=>?_;(refine Um hl fun l' hl' q0=>?_;subst q0);obtain⟨m,F⟩:=c.F;refine Ua c.acc fun ys a1 a2=>?_;refine Ud (F.liveμ _ hbμ.2.1) fun n1 n2 _=>?_;refine Ud (F.liveμ _ hbμ.1) fun n3 n4 _=>?_;refine Ud (F.liveμ _ hbμ.2.2.2) fun n5 n6 _=>?_;have helt:e<s.heap.objs.size:=aQ he;have hLlt:env.locals<s.heap.objs.size:=F.ns.lt;have hilt':it<s.heap.objs.size:=by refine Ua (id hit) fun _ y _=>?_;exact aQ y
  refine Uo (id F.ns) fun oL esL epL eL dL zL=>?_;refine Lg (wpAny_pyNext_enum_item he hit (lst2 c) hv ec.ne fun bV Gx Gv GF Gr yx=>?_);refine Co Gx fun vh BC kl=>?_;replace kl:du e bV vh:=kl;have Gs:vh.IsTuple s.heap.objs.size #[.int i s.toks,.int d t0]:=⟨_,(kl.2 _ (Nat.ne_of_gt helt)).trans GF,rfl,_,rfl⟩;have Gq:vh.objs.size=s.heap.objs.size+1:=kl.1.trans Gr;refine mN hA.hd Gs rfl rfl fun dM nC=>?_;replace nC:D4 vh.objs.size vh dM:=nC;have mu:∀b o,b<s.heap.objs.size→vh.get? b=some o→dM.get? b=some o:=fun b o hb x=>nC b o (by rw[Gq];exact aM (dJ hb)) x;have up3:∀b o,b≠e→b≠it→s.heap.get? b=some o→dM.get? b=some o:=fun b o m1 m2 x=>mu b o (aQ x) ((kl.2 b m1).trans (yx b o m1 m2 x));have LR:IsEnum dM e it ((i:Int)+1) (.int d t0):=mu _ _ helt BC;have GB:dM.IsListIter it lst (i+1):=by
   refine Ua Gv fun o e1 r1=>?_;exact⟨o,mu _ _ hilt' ((kl.2 _ (cC ec.ne)).trans e1),r1⟩
  have jA:FI ah μ dM env m M:=F.buts (X:=fun a=>a=e∨a=it) (fun a q=>Sx q hbμ.1 hbμ.2.1) (fun q=>q.elim (cC ec.eL) (cC ec.iL)) no
   (fun x c' q z=>by
    obtain⟨o,e'⟩:=cs.cells x c' q;exact z.elim (fun h=>by rw[h,ec.en]at e';cases e') fun h=>by rw[h,ec.In]at e';cases e')
   (fun b o q e=>by rw[not_or]at q;exact up3 b o q.1 q.2 e) fun a q=>Sx (p:=fun a=>∃o,dM.get? a=some o) q ⟨_,LR⟩ (Ua GB fun o e1 _=>⟨o,e1⟩);have gi:∀t,St C {s with heap:=dM,toks:=t}:=fun t=>c.S.butX (X:=fun a=>a=e∨a=it) (fun a q=>by
   refine Sx (p:=fun a=>C.G.get? a=none∧a≠65∧a≠72∧∀o,s.heap.get? a=some o→iX o) q ?_ ?_
   ·refine⟨cs.fresh _ ec.en,n3,n4,fun o eo vs q t z=>?_⟩
    rw[he]at eo;cases eo;cases z;simp
   ·refine⟨cs.fresh _ ec.In,n1,n2,fun o eo vs q t z=>?_⟩
    refine Ul hit fun o' e1 _ e2=>?_;rw[eo]at e1;cases e1;rw[e2]at z;cases z;simp) fun b o q e=>by rw[not_or]at q;exact up3 b o q.1 q.2 e
  have kp:(env.scope.kind==.class||(env.scope.kind==.module&&env.locals !=env.globals))=false:=by rw[F.kind];rfl
  show wpAny (MD C) A (assignInOrder [assign (.Name (ofString "k") p1) env,assign (.Name (ofString "cell") p2) env] [.int i s.toks,.int d t0]) _ _ _;refine c6 (bT (cJ hk jA.ns (fun jF rI kL=>?_) kp));refine c6 (bT (cJ hc rI (fun jk yv kK=>jf ?_) kp));replace kL:du env.locals dM jF:=kL;replace kK:du env.locals jF jk:=kK;have pj:=jA.set (d:=.int i) hk rI (fun b o q e=>(kL.2 b q).trans e) ⟨_,rfl⟩;have DW:=pj.set (d:=.int d) hc yv (fun b o q e=>(kK.2 b q).trans e) ⟨_,rfl⟩;have up35:∀b o,b≠env.locals→dM.get? b=some o→jk.get? b=some o:=fun b o q e=>(kK.2 b q).trans ((kL.2 b q).trans e);have eL3:dM.get? env.locals=some oL:=up3 _ _ (cC ec.eL) (cC ec.iL) eL;have RB:∀t,CI C ah μ D' env ((M.set (ofString "k") (.dat (.int i))).set (ofString "cell") (.dat (.int d))) bR [e,it,D',env.locals] out {s with heap:=jk,toks:=t}:=fun t=>by
   refine⟨St.but (s:={s with heap:=dM,toks:=s.toks}) (gi _) eL3 (fun vs q t z=>by rw[dL]at z;cases z) (cs.fresh _ cs.ln) n5 n6 up35,⟨_,DW⟩,⟨ys,?_,?_⟩,fun b o q1 q2 q3 e=>?_⟩
   ·exact(a1.at fun o e=>up3 _ o (cC ec.eD) (cC ec.iD) e).at fun o e=>up35 _ o cs.dL e
   ·exact Reps.mono (fun b o p e=>⟨up35 b o (fun q=>p.2 (q▸hbμ.2.2.2)) (up3 b o (fun q=>p.2 (q▸hbμ.1)) (fun q=>p.2 (q▸hbμ.2.1)) e),p⟩) a2
   ·have p1:=eM q3
    exact up35 b o (fY (eM (eM p1))) (up3 b o (fY q3) (fY p1) (c.k b o q1 q2 q3 e))
  refine aa (hE _ _ _ _ _ hx0 DW (RB _).S) (fun v₆ mP Ai=>?_) fun _ _ x=>x;have TH:=(RB _).eval cs Ai.1 Ai.2.1;simp only[ay]at hlen;refine CI.app cs no.set.set TH (by simp) Ai.2.2 (by(exact DQ hlen)) fun Ex TG yq=>?_;refine ih (i+1) (out++[x0]) l' Ex (.int d t0) hd' hilt (TG.weaken (hMs _ _)) ?_ ?_ hl' (by simp only[ai,bv];exact(dA 0x1ca7a12011cf1bc2170a9e8480473de10b862:) hlen) (by simpa using hR)
  ·have:IsEnum dM e it ((i+1:Nat):Int) (.int d t0):=by
    rw[show((i+1:Nat):Int)=(i:Int)+1 by(rfl)];exact LR
   exact yq _ _ ec.eD (Ai.2.1.get _ _ n3 n4 (up35 _ _ ec.eL this))
  ·refine Ua GB fun o e1 r1=>?_
   exact⟨o,yq _ _ ec.iD (Ai.2.1.get _ _ n1 n2 (up35 _ _ ec.iL e1)),r1⟩
end
noncomputable abbrev lS:NS:=(aF (a7 81)).names
noncomputable def cE:Expr:=(jM (f9 (aG (a7 81)) 0)).e
noncomputable def AV:Expr:=(ju cE).e
noncomputable def RP:Expr:=((ju cE).g.map (·.iter)).getD 0 BR
noncomputable def cScope:Scope:=(ju cE).s
noncomputable def Sz:List Int:=[3948,433,7513,2292,6912]
noncomputable def uC:Expr:=(ju RP).a.getD 1 BR
theorem RS:cE=.ListComp AV [⟨uA ⟨311,42,311,49⟩ ⟨311,42,311,43⟩ ⟨311,45,311,49⟩,.Call (.Name (ofString "enumerate") ⟨311,53,311,62⟩) [uC] [] ⟨311,53,311,93⟩,[],0⟩] cScope ⟨311,12,311,94⟩:=by kernel_rfl
theorem vg:∀{l:List D},(∀d∈l,∃i:Int,d=.int i)→∃ns,gu l=some ns
 |[]=>@fun _=>⟨[],rfl⟩
 |d::r=>@fun h=>by
  obtain⟨i,rfl⟩:=h d (au ..);obtain⟨ns,e⟩:=vg fun d hd=>h d (af _ hd);exact⟨i::ns,by rw[gu];rw[e];rfl⟩
theorem KG {l:List D} {ns:List Int} (h:gu l=some ns):ox (ofString "sum") [.list l]=some (.int ns.sum):=by
 unfold ox;rw[if_neg (by decide+kernel),if_pos rfl];show(gu l).map _=_;rw[h];rfl
theorem Ab {xs:List Int} (h:xs.length≤63) (i:Int):∃l ns,gt (iL xs) (some i) none (some 5)=some (.list l)∧gu l=some ns:=by
 refine⟨s5 (xs.map .int) (some i) none (some 5),?_⟩;obtain⟨ns,e⟩:=vg (l:=s5 (xs.map .int) (some i) none (some 5)) fun d hd=>by
  unfold s5 at hd;refine Ua (List.mem_filterMap.mp hd) fun j _ e=>?_;obtain⟨x,_,rfl⟩:=bc.mp (ax e);exact⟨x,rfl⟩
 refine⟨ns,?_,e⟩;show(if(some 5:Option Int)≠some 0∧(xs.map D.int).length≤1000000 then some (D.list (vY (xs.map .int) (some i) none (some 5)))else none)=_;rw[if_pos ⟨by decide,by rw[ag];(exact ae h (by decide))⟩];rfl
noncomputable abbrev rS:NS:=cW lS cScope.names
theorem Kj {xs:List Int} (h:xs.length≤63) {M:MM} (hM:M.lookup (ofString "script")=some (.dat (iL xs))) (i:Nat) (c:Int):
 ∃v:Int,ev 12 X0 rS ((M.set (ofString "k") (.dat (.int i))).set (ofString "cell") (.dat (.int c))) AV=some (.int v):=by
 refine Uf (Ab h (i:Int)) fun l ns e1 e2=>?_;exact⟨c+ns.sum,fR (X:=X0) (sc:=rS) (n:=12) (qs e1 (qf (KG e2) .nil)) (by kernel_rfl) _ (Has.one hM).set.set⟩
theorem Bg {xs:List Int} (h:xs.length≤63) {M:MM} (hM:M.lookup (ofString "script")=some (.dat (iL xs))):∀(r:List Int) (i:Nat),∃cs:List Int,cs.length=r.length∧
 IX (fun i c=>ev 12 X0 rS ((M.set (ofString "k") (.dat (.int i))).set (ofString "cell") (.dat (.int c))) AV) r i=some (cs.map .int)
 |[]=>@fun i=>⟨[],rfl,rfl⟩
 |c::r=>@fun i=>by
  obtain⟨v,e⟩:=Kj h hM i c;refine Ua (Bg h hM r (i+1)) fun cs h1 h2=>?_;refine⟨v::cs,by simp[h1],?_⟩;show(oQ (ev 12 X0 rS ((M.set (ofString "k") (.dat (.int i))).set (ofString "cell") (.dat (.int c))) AV) fun d=>(IX _ r (i+1)).map (d::·))=_;rw[e,bp,h2];rfl
theorem sX {P:Addr→Prop} {h:Heap}:∀{ns:List Int} {vs:List Value},Reps P h (ns.map .int) vs→vs.length=ns.length∧∀(i:Nat) c,ns[i]?=some c→∃t,vs[i]?=some (.int c t)
 |[],vs=>fun r=>by
  rw[show vs=[]from r];exact⟨rfl,fun i c e=>by simp at e⟩
 |n::ns,vs=>fun r=>by
  (refine Uc r fun v w q0 q1 hw=>?_;subst q0;refine Un q1 fun t q2=>?_;subst q2);obtain⟨h1,h2⟩:=sX hw;refine⟨by simp[h1],fun i c e=>?_⟩;cases i with
  |zero=>simp at e;subst e;exact⟨t,rfl⟩
  |succ i=>simpa using h2 i c (by simpa using e)
theorem re {P Q:Addr→Prop} {h h':Heap}:∀{ns:List Int} {vs:List Value},Reps P h (ns.map .int) vs→Reps Q h' (ns.map .int) vs
 |[],vs=>fun r=>r
 |n::ns,vs=>fun r=>by
  (refine Uc r fun v w q0 r1 hw=>?_;subst q0);exact⟨v,w,rfl,r1,re hw⟩
section
variable {C:aU} {A:Around} {s:Shared} {ah:Addr→Prop} {μ:List Addr} {env:Env} {m:Str→Option Value} {M:MM} {k:Nat}
theorem Dm {use:Option (Value→Sem Unit)} {Q:Value→Shared→Prop} {pp:Pos} (hA:RA A (k+1)) (esc:env.scope=aF (a7 81)) (F:FI ah μ s.heap env m M) (Ss:St C s) {xs:List Int} (hx:xs.length≤63) (hM:M.lookup (ofString "script")=some (.dat (iL xs)))
 (hRR:∀(cs:List Int) D' Cc az,cs.length=5→s.heap.get? D'=none→s.heap.get? Cc=none→D'≠Cc→(∃m,az.heap.Ns Cc m)→Keep s.heap az.heap→St C az→(∃ys,az.heap.PlainList D' ys∧Reps (Pm ah (D'::Cc::μ)) az.heap (cs.map .int) ys.toList)→compPost (MD C) A bL use Q (.ref D') Cc (.ok .next) az):
 wpAny (MD C) A (comprehension (.ListComp AV [⟨uA ⟨311,42,311,49⟩ ⟨311,42,311,43⟩ ⟨311,45,311,49⟩,.Call (.Name (ofString "enumerate") ⟨311,53,311,62⟩) [uC] [] ⟨311,53,311,93⟩,[],0⟩] cScope ⟨311,12,311,94⟩) cScope env pp (newList [])
  (firstAsync [⟨uA ⟨311,42,311,49⟩ ⟨311,42,311,43⟩ ⟨311,45,311,49⟩,.Call (.Name (ofString "enumerate") ⟨311,53,311,62⟩) [uC] [] ⟨311,53,311,93⟩,[],0⟩]) (firstIter [⟨uA ⟨311,42,311,49⟩ ⟨311,42,311,43⟩ ⟨311,45,311,49⟩,.Call (.Name (ofString "enumerate") ⟨311,53,311,62⟩) [uC] [] ⟨311,53,311,93⟩,[],0⟩] env) use) Q bL s:=by
 have hc:jJ env.scope.names cScope:=by rw[esc];exact ov (by kernel_rfl)
 refine f7 rfl (fun _=>rfl) (ip (vj F hc)) hc.kind hc.loc ?_;have hE:HE C A ah μ env m M (ev 12 X0 env.scope.names M):=(fu (d8 (k:=k+1)) 12).1 hA;have ea:di (ev 12 X0 env.scope.names M) [uC]=some [iL Sz]:=by
  rw[esc];exact jd (fR (n:=12) .nil (by kernel_rfl) M .nil) rfl
 have hgk:env.kindOf (ofString "enumerate")=some .globalImplicit:=by show env.scope.names.lookup _=_;rw[esc];kernel_rfl
 refine em (om F Ss hgk (by decide+kernel) (uW _ _ (by simp)) vv (by decide+kernel) ?_);refine iu (ez (by rfl)) (aa (dQ (by kernel_rfl) (jG hE ea F Ss)) (fun a bq q=>?_) fun _ _ x=>x);refine Uj q fun e gi fF r=>?_;rw[e];(refine Uc r fun v w hv q0 hw=>?_;refine Ue q0 fun lst vs q1 pl hl hr=>?_;subst q1);rw[show w=[]from hw]at hv;rw[hv];refine call_enumerate_list hl.isList fun jF he hit hz tH=>?_;refine vO he ?_;obtain⟨hvl,hvs⟩:=sX hr;refine nT (rT hc.nocell (by intro y hy;simp at hy) (fun bV lg ld=>?_) hc.kind);dsimp only at lg ld⊢;have eH:∀{b:Addr},bq.heap.objs.size≤b→bq.heap.get? b=none:=fun{b} q=>by
  cases z:bq.heap.get? b with
  |none=>rfl
  |some o=>exact absurd (aQ z) (c5.mpr q)
 obtain⟨e,hee⟩:∃e,e=bq.heap.objs.size+1:=⟨_,rfl⟩;obtain⟨it,hie⟩:∃it,it=bq.heap.objs.size:=⟨_,rfl⟩;rw[←hee,←hie]at he;rw[←hie]at hit;rw[←hee];generalize hH2:jF.push {cls:=.type "list",dict:=none,data:=.seq ([]:List Value).toArray}=H2 at lg ld⊢;have hC:H2.objs.size=bq.heap.objs.size+3:=by rw[←hH2,lE,hz]
 have hsn:bq.heap.objs.size+2=jF.objs.size:=hz.symm;obtain⟨Dl,hDl⟩:∃Dl,Dl=jF.objs.size:=⟨_,rfl⟩;obtain⟨Cc,hCc⟩:∃Cc,Cc=H2.objs.size:=⟨_,rfl⟩;rw[←hDl];rw[←hCc]at lg ld⊢;have ltst:lst<bq.heap.objs.size:=by obtain⟨n,z⟩:=id hl;exact aQ z
 have hDC:Dl≠Cc:=by rw[hDl,hCc,hC,hz];exact aM (jP _)
 have old4:∀b o,jF.get? b=some o→bV.get? b=some o:=fun b o z=>ld.extBut b o (by have:=aQ z;rw[hCc,hC];rw[hz]at this;exact aM (dJ this)) (ak _ (hH2▸ak _ z));have old:∀b o,bq.heap.get? b=some o→bV.get? b=some o:=fun b o z=>old4 b o (tH b o z);have jE:Keep s.heap bV:=fF.trans (.of old);have nb:∀{b:Addr},bq.heap.objs.size≤b→s.heap.get? b=none:=fun{b} q=>eO gi fF (eH q);have en:s.heap.get? e=none:=nb (by rw[hee];exact vC _);have In:s.heap.get? it=none:=nb (by rw[hie];exact ba _);have Dn:s.heap.get? Dl=none:=nb (by rw[hDl,hz];exact d6 _ _);have Cn:s.heap.get? Cc=none:=nb (by rw[hCc,hC];exact d6 _ _);have hacc:bV.PlainList Dl #[]:=⟨_,ld.extBut _ _ hDC (ak _ (hH2▸hDl▸aX _ rfl))⟩;have FC:=F.comp hc jE (Cc:=Cc) (as:=[e,it,Dl,Cc]) (uy ⟨en,_,old4 _ _ he⟩ (uy (Ua hit fun o z _=>⟨In,o,old4 _ _ z⟩) (uy (Un hacc fun n z=>⟨Dn,_,z⟩) (uy (Uk lg fun o _ _ z _=>⟨Cn,o,z⟩) Jz)))) (by simp) Ss.live65 Ss.live72 (by simpa using lg);have cs:CS C (e::it::Dl::Cc::μ) Dl (da cScope Cc env) s.heap:=by
  refine⟨by simp,hDC,Dn,Cn,rfl,fun x c z=>Hl F hc z,fun a q=>?_⟩;cases z:C.G.get? a with
  |none=>rfl
  |some o=>rw[Ss.g a o z]at q;cases q
 have ec:EC s.heap (da cScope Cc env) Dl e it lst:=by
  refine⟨en,In,?_,?_,?_,?_,?_,⟨fun q=>F.tabm.1 (q▸pl),fun q=>F.tabm.2 (q▸pl)⟩,?_,?_,?_,?_⟩
  ·rw[hee,hie];exact nP _
  ·rw[hee,hDl,hz];exact aM (jP _)
  ·rw[hie,hDl,hz];exact aM (by exact(fN 24127780930:))
  ·show e≠Cc
   rw[hee,hCc,hC];exact aM (by exact(fN 0x59e30b84f085c2:))
  ·show it≠Cc
   rw[hie,hCc,hC];exact aM (by exact(fN 24128829506:))
  ·rw[hDl,hz];exact aM (uI 2 ltst)
  ·show lst≠Cc
   rw[hCc,hC];exact aM (uI 3 ltst)
  ·rw[hee];exact aM (uI 1 ltst)
  ·rw[hie];exact aM ltst
 have hsc:(da cScope Cc env).scope.names=rS:=by
  show(relabel cScope env).names=_;rw[jh F.kind,esc]
 have hkd:∀x,(da cScope Cc env).kindOf x=rS.lookup x:=fun x=>by show(da cScope Cc env).scope.names.lookup x=_;rw[hsc]
 obtain⟨M0,hM0⟩:∃M0,M0=capt (cW env.scope.names cScope.names) M:=⟨_,rfl⟩;have hM0s:M0.lookup (ofString "script")=some (.dat (iL xs)):=by
  rw[hM0,esc,Hq (by kernel_rfl)];exact hM
 have hMk:M0.lookup (ofString "k")=none:=by rw[hM0,esc];exact lY (by kernel_rfl)
 have hMc:M0.lookup (ofString "cell")=none:=by rw[hM0,esc];exact lY (by kernel_rfl)
 rw[←hM0]at FC;refine Ua (Bg hx hM0s Sz 0) fun out hol hres=>?_;have kE:St C {bq with heap:=bV,toks:=bq.toks+([]:List (Str×Value)).length}:=gi.grow old;have loop:codeAny (MD C) A (.compLoop (.ListComp AV [⟨uA ⟨311,42,311,49⟩ ⟨311,42,311,43⟩ ⟨311,45,311,49⟩,.Call (.Name (ofString "enumerate") ⟨311,53,311,62⟩) [uC] [] ⟨311,53,311,93⟩,[],0⟩] cScope ⟨311,12,311,94⟩) 0 (.ref e) (.ref Dl) (da cScope Cc env))
  (compPost (MD C) A bL use Q (.ref Dl) Cc) {bq with heap:=bV,toks:=bq.toks+([]:List (Str×Value)).length}:=by
  refine Du (k:=k+1) (fE:=fun M'=>ev 12 X0 rS M') (ns:=Sz) (vs:=vs) (bR:=jF) (M:=M0) (ah:=ah) (μ:=e::it::Dl::Cc::μ) hA ec cs ⟨by simp,by simp,by simp,af _ (af _ (af _ (au ..)))⟩ FC.2 hMk hMc (by rw[hkd];kernel_rfl) (by rw[hkd];kernel_rfl) (fun i c z=>?_) (by rw[←aK];exact hvl) (hl.isList.at fun o z=>tH _ o z) (by decide)
   (fun m M'=>?_) Sz 0 [] (out.map .int) _ _ rfl (d5 _) ⟨kE,⟨_,FC.1⟩,⟨_,hacc,rfl⟩,fun b o _ _ _ z=>old4 b o z⟩ (old4 _ _ he) ?_ hres (by rw[ag,hol];decide) fun mP ce=>?_
  ·obtain⟨t,z⟩:=hvs i c z
   exact⟨t,by rw[←fc];exact z⟩
  ·have:=(fu (C:=C) (d8 (k:=k+1)) 12).1 (ah:=ah) (μ:=e::it::Dl::Cc::μ) (env:=da cScope Cc env) (m:=m) (M:=M') hA
   rw[hsc]at this;exact this
  ·refine Ua hit fun o z r1=>?_
   exact⟨o,old4 _ _ z,r1⟩
  ·obtain⟨ll,⟨mm,ns6⟩,⟨ys,a1,a2⟩,kk⟩:=ce
   have kS:∀b o,b≠65→b≠72→s.heap.get? b=some o→mP.heap.get? b=some o:=fun b o n1 n2 z=>kk b o n1 n2 (yd (rH en z) (yd (rH In z) (yd (rH Dn z) (yd (rH Cn z) bx)))) (tH b o (fF.get b o n1 n2 z));exact hRR out Dl Cc mP (by rw[hol];rfl) Dn Cn hDC ⟨mm,ns6⟩ ⟨kS⟩ ll ⟨ys,a1,re a2⟩
 exact qM rfl rfl rfl rfl (fun _=>rfl) loop (vO (i:=0) (old:=.none) (by exact old4 _ _ he) loop)
end
noncomputable def Lx:Str:=ofString "_law_lead"
noncomputable def Lz:Str:=ofString "_law_columns"
noncomputable def Ly:Str:=ofString "ISNONTERMINAL"
noncomputable def FH:Str:=ofString "ISEOF"
noncomputable def FE:Str:=ofString "_law_words"
noncomputable def Ls:Str:=ofString "_law_tree"
theorem lead_at:LocalIs Lx 203:=⟨by kernel_rfl,by kernel_rfl⟩
theorem cols_at:LocalIs Lz 210:=⟨by kernel_rfl,by kernel_rfl⟩
theorem isnt_at:LocalIs Ly 167:=⟨by kernel_rfl,by kernel_rfl⟩
theorem iseof_at:LocalIs FH 174:=⟨by kernel_rfl,by kernel_rfl⟩
theorem words_at:LocalIs FE 179:=⟨by kernel_rfl,by kernel_rfl⟩
theorem tree_at:LocalIs Ls 184:=⟨by kernel_rfl,by kernel_rfl⟩
noncomputable def kU (rs:List Int):Prop:=rs.length≤900∧∀r∈rs,0≤r∧r≤100
noncomputable def zv (as:List D) (d:D):Prop:=∃(rs:List Int) (t:Int),kU rs∧(0≤t∧t≤100)∧as=[iL rs,.int t]∧d=.str (S (dp rs t))
noncomputable def zC (as:List D) (d:D):Prop:=∃(rs:List Int) (t:Int),kU rs∧(0≤t∧t≤100)∧as=[iL rs,.int t]∧d=iL (oB rs t)
noncomputable def zw (as:List D) (d:D):Prop:=∃x:Int,as=[.int x]∧d=.bool (decide (x≥256))
noncomputable def ui (as:List D) (d:D):Prop:=∃x:Int,as=[.int x]∧d=.bool (x==0)
noncomputable def ug (as:List D) (d:D):Prop:=∃ns:List Int,(∀n∈ns,13≤n∧n≤54)∧ns.length≤1000∧as=[iL ns]∧d=.list (cm (ns.map ig))
noncomputable def zk (as:List D) (d:D):Prop:=∃(c0 c1 c2 c3 c4:Int) (t:T),rB [c0,c1,c2,c3,c4]=[t]∧as=[iL [c0,c1,c2,c3,c4]]∧d=bj t
theorem HY {as d d'} (h:zv as d) (h':zv as d'):d=d':=by
 (refine Ue h fun a b _ _ e q0=>?_;subst q0);(refine Ue h' fun a' b' _ _ e' q0=>?_;subst q0);rw[e]at e';injection e' with e1 e2;injection e2 with e2 e3;injection e2 with e2;rw[mw e1,e2]
theorem H3 {as d d'} (h:zC as d) (h':zC as d'):d=d':=by
 (refine Ue h fun a b _ _ e q0=>?_;subst q0);(refine Ue h' fun a' b' _ _ e' q0=>?_;subst q0);rw[e]at e';injection e' with e1 e2;injection e2 with e2 e3;injection e2 with e2;rw[mw e1,e2]
theorem HZ {as d d'} (h:zw as d) (h':zw as d'):d=d':=by
 obtain⟨a,e,rfl⟩:=h;(refine Ua h' fun a' e' q0=>?_;subst q0);rw[e]at e';injection e' with e1 e2;injection e1 with e1;rw[e1]
theorem DM {as d d'} (h:ui as d) (h':ui as d'):d=d':=by
 obtain⟨a,e,rfl⟩:=h;obtain⟨a',e',rfl⟩:=h';rw[e]at e';injection e' with e1 e2;injection e1 with e1;rw[e1]
theorem DI {as d d'} (h:ug as d) (h':ug as d'):d=d':=by
 (refine Uq h fun a _ _ e q0=>?_;subst q0);(refine Uq h' fun a' _ _ e' q0=>?_;subst q0);rw[e]at e';injection e' with e1 e2;rw[mw e1]
theorem HQ {as d d'} (h:zk as d) (h':zk as d'):d=d':=by
 obtain⟨c0,c1,c2,c3,c4,t,ht,e,rfl⟩:=h;obtain⟨c0',c1',OP,c3',c4',t',ht',e',rfl⟩:=h';rw[e]at e';injection e' with e1 e2;rw[mw e1,ht']at ht;injection ht with ht;rw[ht]
section
variable {C:aU} {k:Nat}
theorem FU:cg C (k+1) 203 zv:=by
 rintro as d ⟨rs,t,h,ht,rfl,rfl⟩;exact C4 rs t (by have:=h.1;(exact ae this (by decide))) h.2 ht
theorem Hh:cg C (k+1) 210 zC:=by
 rintro as d ⟨rs,t,h,ht,rfl,rfl⟩;exact wH rs t h.2 h.1 ht
theorem Gg:cg C (k+1) 167 zw:=by
 rintro as d ⟨x,rfl,rfl⟩;exact Da x
theorem Db:cg C (k+1) 174 ui:=by
 rintro as d ⟨x,rfl,rfl⟩;exact AG x
theorem Cr:cg C (k+1) 179 ug:=by
 rintro as d ⟨ns,h,hl,rfl,rfl⟩;have:=zX (C:=C) (k:=k) ns h hl;unfold cm;rw[be];exact this
theorem Es:cg C (k+1) 184 zk:=by
 rintro as d ⟨c0,c1,c2,c3,c4,t,ht,rfl,rfl⟩;exact Cu c0 c1 c2 c3 c4 t ht
end
noncomputable def QN (ws:List (List Nat)) (runs:List (List Int)) (ns:List Int):List (Str×(List D→D→Prop)):=
 [(Ls,zk),(FE,ug),(u6,rQ runs 10),(Lx,zv),(T9,Se),(Lz,zC),(Lu,zp),(u5,rP ws 10),(CZ,zo ns 10),(Jt,zt),(Jx,zz),(Jw,zy),(Lw,zq),(FF,uh),(Jv,zx P2),(Ly,zw),(FH,ui)]
noncomputable def QM:List (Str×(D×List D→D→Prop)):=[(Ju,DL),(Ux,Sf),(Bv,vB)]
noncomputable def Xw (ws:List (List Nat)) (runs:List (List Int)) (ns:List Int):Cx:=Cx.of (QN ws runs ns) QM
theorem fh {f:Str} {R:List D→D→Prop} {cs:List (Str×(List D→D→Prop))} {ms:List (Str×(D×List D→D→Prop))} {as:List D} {d:D} (h:cs.lookup f=some R) (fn:∀d d',R as d→R as d'→d=d') (r:R as d):(Cx.of cs ms).call f as=some d:=by
 show(cs.lookup f).bind _=_;rw[h];exact sk fn r
theorem wg {f:Str} {R:D×List D→D→Prop} {cs:List (Str×(List D→D→Prop))} {ms:List (Str×(D×List D→D→Prop))} {o:D} {as:List D} {d:D} (h:ms.lookup f=some R) (fn:∀d d',R (o,as) d→R (o,as) d'→d=d') (r:R (o,as) d):(Cx.of cs ms).meth f o as=some d:=by
 show(ms.lookup f).bind _=_;rw[h];exact sk fn r
theorem R5 {C:aU} {ws:List (List Nat)} (hw:∀w∈ws,w.length≤3) (hwl:ws.length≤1000) {runs:List (List Int)} (hrl:runs.length≤1000) {ns:List Int} (hnl:ns.length≤1000):CxOK C (Xw ws runs ns) 398:=by
 have hchk:cg C 396 42 DN:=AU (k:=386);have hpre:cg C 397 49 zt:=Fb hchk;have lift:∀{a:Addr} {R:List D→D→Prop} {m:Nat},m≤398→cg C m a R→cg C 398 a R:=fun h x as d r=>(x as d r).le h;refine .of (cK (tree_at.at (Es (k:=397))) (cK (words_at.at (Cr (k:=397))) (cK (rows_at.at (CD (k:=388) runs hrl 10)) (cK (lead_at.at (FU (k:=397))) (cK (ws_at.at (Iz (k:=396))) (cK (cols_at.at (Hh (k:=397)))
  (cK (read_at.at (CH (k:=397))) (cK (text_at.at (Cv (k:=388) ws hw hwl 10)) (cK (row_at.at (EU (k:=388) ns hnl 10)) (cK (pre_at.at (lift (by decide) hpre)) (cK (d2i_at.at (yR (k:=382))) (cK (i2d_at.at (yu (k:=382)))
  (cK (prod_at.at (CM (k:=395))) (cK (parts_at.at (Al hpre)) (cK (idm_at.at (Gp (k:=393) (yu (k:=378)) (yR (k:=378)))) (cK (isnt_at.at (Gg (k:=397))) (cK (iseof_at.at (Db (k:=397))) lh)))))))))))))))))
  (oe (lvl_at.at (yl (k:=397))) (oe (eq_at.at (Ki (k:=397))) (oe (less_at.at (vd (k:=396))) Az)))
section
variable {ws:List (List Nat)} {runs:List (List Int)} {ns:List Int}
theorem It {c0 c1 c2 c3 c4:Int} {t:T} (h:rB [c0,c1,c2,c3,c4]=[t]):(Xw ws runs ns).call (ofString "_law_tree") [iL [c0,c1,c2,c3,c4]]=some (bj t):=fh (R:=zk) (by kernel_rfl) (fun _ _=>HQ) ⟨_,_,_,_,_,_,h,rfl,rfl⟩
theorem D8 {l:List Int} (h:∀n∈l,13≤n∧n≤54) (hl:l.length≤1000):(Xw ws runs ns).call (ofString "_law_words") [iL l]=some (.list (cm (l.map ig))):=fh (R:=ug) (by kernel_rfl) (fun _ _=>DI) ⟨_,h,hl,rfl,rfl⟩
theorem Iv {t:T} (h:t.ok runs.length) (h2:t.size≤100) (h3:t.depth<10):(Xw ws runs ns).call (ofString "_law_rows") [bj t,.list [],jV runs]=some (jV (c8 runs t [])):=fh (R:=rQ runs 10) (by kernel_rfl) (fun _ _=>zn) ⟨t,[],h,h2,h3,by simp;(exact a5 (aP h3 (by decide))),rfl,rfl⟩
theorem A7 {rs:List Int} {t:Int} (h:kU rs) (ht:0≤t∧t≤100):(Xw ws runs ns).call (ofString "_law_lead") [iL rs,.int t]=some (.str (S (dp rs t))):=fh (R:=zv) (by kernel_rfl) (fun _ _=>HY) ⟨_,_,h,ht,rfl,rfl⟩
theorem Lb {raw:List Nat} (h:raw.length≤900):(Xw ws runs ns).call (ofString "Whitespace") [.str (S raw)]=some (gU (oU raw)):=fh (R:=Se) (by kernel_rfl) (fun _ _=>Pd) ⟨_,h,rfl,rfl⟩
theorem A9 {rs:List Int} {t:Int} (h:kU rs) (ht:0≤t∧t≤100):(Xw ws runs ns).call (ofString "_law_columns") [iL rs,.int t]=some (iL (oB rs t)):=fh (R:=zC) (by kernel_rfl) (fun _ _=>H3) ⟨_,_,h,ht,rfl,rfl⟩
theorem A5 {l:List Nat} {p:Nat} (h:l.length≤900):(Xw ws runs ns).call (ofString "_law_read") [.str (S l),.int p]=some (iL (dH (l.drop p))):=fh (R:=zp) (by kernel_rfl) (fun _ _=>HS) ⟨_,_,h,rfl,rfl⟩
theorem Iu {t:T} (h:t.ok ws.length) (h2:t.size≤100) (h3:t.depth<10):(Xw ws runs ns).call (ofString "_law_text") [bj t,.list (cm ws)]=some (.str (S (aR ws t))):=fh (R:=rP ws 10) (by kernel_rfl) (fun _ _=>zm) ⟨t,h,h2,h3,rfl,rfl⟩
theorem Mo {t:T} (h:t.ok ns.length) (h2:t.size≤100) (h3:t.depth<10):(Xw ws runs ns).call (ofString "_law_row") [bj t,iL ns]=some (iL (ij ns t)):=fh (R:=zo ns 10) (by kernel_rfl) (fun _ _=>B6) ⟨t,h,h2,h3,rfl,rfl⟩
theorem Mp {ls:List (List Nat)} (h:∀l∈ls,rA l) (hl:ls.length≤1000):(Xw ws runs ns).call (ofString "_pre_parse_validation") [.list (cm ls)]=some (.list (cm (ls.map g9))):=fh (R:=zt) (by kernel_rfl) (fun _ _=>B7) ⟨_,h,hl,rfl,rfl⟩
theorem Mt {ds:List Int} {n:Nat} (h:∀x∈ds,0≤x∧x<2^n) (h1:1≤n) (h2:n*ds.length≤7900):(Xw ws runs ns).call (ofString "_digits2int") [iL ds,.int n]=some (.int (eF (2^n) ds)):=fh (R:=zz) (by kernel_rfl) (fun _ _=>Cd) ⟨_,_,h,h1,h2,rfl,rfl⟩
theorem zW {a:Int} {n:Nat} (h:0≤a) (hs:sm a) (h1:1≤n) (h2:n≤8000):(Xw ws runs ns).call (ofString "_int2digits") [.int a,.int n]=some (iL (io a n)):=fh (R:=zy) (by kernel_rfl) (fun _ _=>Cb) ⟨_,_,h,hs,h1,h2,rfl,rfl⟩
theorem Iw {lw:List WS} {wt:List Int} (h:LeadsOK lw) (hw:vL wt):(Xw ws runs ns).call (ofString "_law_products") [.list (lw.map gU),iL wt]=some (iL ([1,3,5,7].map (iW lw wt))):=fh (R:=zq) (by kernel_rfl) (fun _ _=>HU) ⟨_,_,h,hw,rfl,rfl⟩
theorem D9 {l:List Nat} (h:fe l) (h2:∀p,p<l.length→l.getD p 0=40→((gr l p).find? fun t=>cZ t 0).isSome=true):(Xw ws runs ns).call (ofString "_law_parts") [.str (S l)]=some (im (mt l)):=fh (R:=uh) (by kernel_rfl) (fun _ _=>DK) ⟨_,h,h2,rfl,rfl⟩
theorem Ms {a b:Int} (h:P2 a b):(Xw ws runs ns).call (ofString "int_divmod") [.int a,.int b]=some (.tup [.int (a.fdiv b),.int (a.fmod b)]):=fh (R:=zx P2) (by kernel_rfl) (fun _ _=>Ca) ⟨_,_,h,rfl,rfl⟩
theorem A8 {x:Int}:(Xw ws runs ns).call (ofString "ISNONTERMINAL") [.int x]=some (.bool (decide (x≥256))):=fh (R:=zw) (by kernel_rfl) (fun _ _=>HZ) ⟨_,rfl,rfl⟩
theorem xx {x:Int}:(Xw ws runs ns).call (ofString "ISEOF") [.int x]=some (.bool (x==0)):=fh (R:=ui) (by kernel_rfl) (fun _ _=>DM) ⟨_,rfl,rfl⟩
theorem Mq {w:WS} {ts:Int} (h:w.ok) (ht:1≤ts∧ts≤100):(Xw ws runs ns).meth (ofString "indent_level") (gU w) [.int ts]=some (.int (w.lvl ts)):=wg (R:=DL) (by kernel_rfl) (fun _ _=>B8) ⟨_,_,h,ht,rfl,rfl⟩
theorem PS {w v:WS}:(Xw ws runs ns).meth (ofString "equal") (gU w) [gU v]=some (.bool (decide (w.cs=v.cs∧w.b=v.b))):=wg (R:=Sf) (by kernel_rfl) (fun _ _=>Pe) ⟨_,_,rfl,rfl⟩
theorem A6 {w v:WS} (hw:w.ok∧w.longest≤90) (hv:v.ok∧v.longest≤90):(Xw ws runs ns).meth (ofString "less") (gU w) [gU v]=some (.bool (w.less v)):=wg (R:=vB) (by kernel_rfl) (fun _ _=>zu) ⟨_,_,hw.1,hv.1,hw.2,hv.2,rfl,rfl⟩
end
theorem Has.sub {M L L':MM} (h:Has M L) (s:∀x e,L'.lookup x=some e→L.lookup x=some e):Has M L':=fun y e q=>h y e (s y e q)
theorem sQ {b:MM→Stmt→Option (Fl×MM)} {M1:MM} {r:Option (Fl×MM)}:∀{l1 l2:List Stmt} {M:MM},c7 b l1 M=some (.next,M1)→c7 b l2 M1=r→c7 b (l1++l2) M=r
 |[],l2,M=>fun h1 h2=>by
  cases h1;exact h2
 |st::l1,l2,M=>fun h1 h2=>by
  show c7 b (st::(l1++l2)) M=r;refine pJ h1 fun M' e h1=>?_;rw[c7];rw[e];exact sQ h1 h2
noncomputable def Runs (X:Cx) (ss:List Stmt) (M L:MM):Prop:=∃M',c7 (ex 12 X lS) ss M=some (.next,M')∧Has M' L
theorem Runs.nil {X:Cx} {M L:MM} (h:Has M L):Runs X [] M L:=⟨M,rfl,h⟩
noncomputable def kB (c:Int):Int:=13+(c.fdiv 192).fmod 42
noncomputable def ii (c:Int):List Int:=[(c.fdiv 12).fmod 4,(c.fdiv 48).fmod 4,0,0,0]
theorem n9 (c:Int):13≤kB c∧kB c≤54:=by
 have h1:=bE (c.fdiv 192) (b:=42) (by decide);have h2:=cf (c.fdiv 192) (b:=42) (by decide);unfold kB;exact(iG 0xe73550d84e7a1a1755e8685cd0bae1509c8aa00e:) h1 h2
noncomputable abbrev lst (i:Nat):Stmt:=f9 (aG (a7 81)) i
section
variable {ws:List (List Nat)} {runs:List (List Int)} {ns:List Int}
theorem S2 {cs:List Int} {c0 c1 c2 c3 c4:Int} (hcs:cs=[c0,c1,c2,c3,c4]) {t:T} (ht:rB cs=[t]) (tok:t.ok 5) (tsz:t.size≤100) (tdp:t.depth<10) (hns:ns=cs.map kB) (hws:ws=ns.map ig) (hru:runs=cs.map ii) {rows:List (List Int)} (hrows:rows=c8 runs t []) {tt tl:Int} (htt:tt=cs.sum) (htl:tl=tt.fmod 3) (htb:0≤tl∧tl≤2)
 (hro:∀r∈rows,kU r) (hrl:rows.length=9) {hs:List (List Nat)} (hhs:hs=rows.map fun r=>dp r tl) {M:MM} (hM:Has M [(ofString "cells",.dat (iL cs))]):
 Runs (Xw ws runs ns) [lst 1,lst 2,lst 3,lst 4,lst 5,lst 6] M [(ofString "heads",.dat (.list (cm hs))),(ofString "rows",.dat (jV rows)),(ofString "words",.dat (.list (cm ws))),(ofString "numbers",.dat (iL ns)),(ofString "tree",.dat (bj t)),(ofString "total",.dat (.int tt)),(ofString "cells",.dat (iL cs))]:=by
 subst htl;have hcl:cs.length=5:=by rw[hcs];rfl
 have hit:iZ (iL cs)=some (cs.map D.int):=fU (by rw[ag,hcl];decide);have hir:iZ (jV rows)=some (rows.map iL):=fU (by rw[ag,hrl];decide);have s:ox (ofString "sum") [iL cs]=some (.int tt):=htt▸o7;have t1:(Xw ws runs ns).call (ofString "_law_tree") [iL cs]=some (bj t):=by rw[hcs]at ht⊢;exact It ht
 have hw:=D8 (ws:=ws) (runs:=runs) (ns:=ns) (l:=ns) (by intro n q;rw[hns]at q;(refine Ua (bc.mp q) fun c _ q0=>?_;subst q0);exact n9 c) (by rw[hns,ag,hcl];decide);have hr:=Iv (ws:=ws) (ns:=ns) (runs:=runs) (t:=t) (by rw[show runs.length=5 by rw[hru,ag,hcl]];exact tok) tsz tdp;rw[←hws]at hw;rw[←hrows]at hr;have hc:cs.length≤1000000:=by rw[hcl];decide
 have c1:∀k,gQ (k+6) (Xw ws runs ns) lS [(ofString "cells",.dat (iL cs))] (vE (lst 3)) (iL ns):=fun k=>kq (n:=k+5) (l:=cs) (g:=D.int) (h:=fun c=>D.int (kB c)) (by kernel_rfl) (fQ (qj hit .nil) (by kernel_rfl)) (fun c _=>fR .nil (by kernel_rfl)) hc (by rw[hns,be];rfl);have c2:∀k,gQ (k+6) (Xw ws runs ns) lS [(ofString "cells",.dat (iL cs))] (wO (vE (lst 5)) 3) (jV runs):=fun k=>kq (n:=k+5) (l:=cs) (g:=D.int) (h:=fun c=>iL (ii c)) (by kernel_rfl) (fQ (qj hit .nil) (by kernel_rfl)) (fun c _=>fR .nil (by kernel_rfl)) hc (by rw[hru,be];rfl);have c3:∀k,gQ (k+6) (Xw ws runs ns) lS [(ofString "rows",.dat (jV rows)),(ofString "total",.dat (.int tt))] (vE (lst 6)) (.list (cm hs)):=fun k=>kq (n:=k+5) (l:=rows) (g:=iL) (h:=fun r=>D.str (S (dp r (tt.fmod 3)))) (by kernel_rfl) (fQ (qj hir .nil) (by kernel_rfl))
  (fun r h=>fR (qg (A7 (t:=tt.fmod 3) (hro r h) ⟨htb.1,aB htb.2 (by decide)⟩) .nil) (by kernel_rfl)) (by rw[hrl];decide) (by rw[hhs];unfold cm;rw[be];rfl);exact fC (n:=12) (qf s (qg t1 (qe c1 (qg hw (qe c2 (qg hr (qe c3 .nil))))))) (by kernel_rfl) _ hM
end
theorem sg:iV [.int 9]=some ((aE 0 9).map .int):=by kernel_rfl
theorem Bl:iV [.int 4]=some ((aE 0 4).map .int):=by kernel_rfl
theorem oj {l:List (List Nat)} {i:Int} (h0:0≤i) (h:i.toNat<l.length) (hl:l.length≤1000):ef (.list (cm l)) (.int i)=some (.str (S (l.getD i.toNat []))):=by
 have:=cY (l:=cm l) (k:=i.toNat) (d:=.str (S (l.getD i.toNat []))) (by unfold cm;rw[aJ,aj h,ac,aj h];rfl) (by exact(dA 0x7396f424023854fa04e1d862:) h hl);rwa[bG h0]at this
theorem hO {l:List Int} {i:Int} (h0:0≤i) (h:i.toNat<l.length) (hl:l.length≤1000):ef (iL l) (.int i)=some (.int (l.getD i.toNat 0)):=by
 have:=cY (l:=l.map D.int) (k:=i.toNat) (d:=.int (l.getD i.toNat 0)) (by rw[aJ,aj h,ac,aj h];rfl) (by exact(dA 0x7396f424023854fa04e1d862:) h hl);rwa[bG h0]at this
theorem q8 {l:List (List Int)} {i:Int} (h0:0≤i) (h:i.toNat<l.length) (hl:l.length≤1000):ef (jV l) (.int i)=some (iL (l.getD i.toNat [])):=by
 have:=cY (l:=l.map iL) (k:=i.toNat) (d:=iL (l.getD i.toNat [])) (by rw[aJ,aj h,ac,aj h];rfl) (by exact(dA 0x7396f424023854fa04e1d862:) h hl);rwa[bG h0]at this
theorem wo {l:List WS} {i:Int} (h0:0≤i) (h:i.toNat<l.length) (hl:l.length≤1000):ef (.list (l.map gU)) (.int i)=some (gU (gz l i.toNat)):=by
 have:=cY (l:=l.map gU) (k:=i.toNat) (d:=gU (gz l i.toNat)) (by rw[aJ,aj h];unfold gz;rw[ac,aj h];rfl) (by exact(dA 0x7396f424023854fa04e1d862:) h hl);rwa[bG h0]at this
noncomputable def oO (hs ws:List (List Nat)) (k:Int):List Nat:=hs.getD k.toNat []++(if k.fmod 2=0 then ws.getD (k.fdiv 2).toNat []else[44])++[120]
theorem De {k:Int} (h:0≤k∧k<9):0≤k.fdiv 2∧(k.fdiv 2).toNat<5:=by
 rw[md _ (by decide)];exact(iG 0xe6ac50b855481daba42e4550070400724e0105c8:) h
theorem Has.pick {M L L':MM} (h:Has M L) (s:∀p∈L',L.lookup p.1=some p.2):Has M L':=fun y e q=>h y e (s (y,e) (bk q))
theorem Fk {L:MM}:∀p∈([]:MM),L.lookup p.1=some p.2:=fun _ q=>nomatch q
theorem uT {L L':MM} {x:Str} {e:Ent} (h:L.lookup x=some e) (r:∀p∈L',L.lookup p.1=some p.2):∀p∈(x,e)::L',L.lookup p.1=some p.2:=fun p q=>by
 rcases aD.mp q with rfl|q
 ·exact h
 ·exact r p q
section
variable {ws:List (List Nat)} {runs:List (List Int)} {ns:List Int}
theorem yA {l:List (List Nat)} {i n:Nat} (h:∀x∈l,x.length≤n):(l.getD i []).length≤n:=by
 rw[ac];cases e:l[i]? with
 |none=>exact d5 _
 |some x=>exact h x (ax e)
theorem x9 {hs ws:List (List Nat)} {k:Int} (h1:(hs.getD k.toNat []).length≤800) (h2:(ws.getD (k.fdiv 2).toNat []).length≤3):(oO hs ws k).length≤900:=by
 unfold oO;split
 ·rw[ai,ai];exact ae (cy (qz h1 h2) 1) (by decide)
 ·rw[ai,ai];exact ae (cy (cy h1 1) 1) (by decide)
theorem S1 {cs:List Int} {c0 c1 c2 c3 c4:Int} (hcs:cs=[c0,c1,c2,c3,c4]) {t:T} (hwl:ws.length=5) (hw3:∀w∈ws,w.length≤3) {rows:List (List Int)} {tt tl:Int} (htl:tl=tt.fmod 3) (htb:0≤tl∧tl≤2)
 (hro:∀r∈rows,kU r) (hrl:rows.length=9) {hs:List (List Nat)} (hhl:hs.length=9) (hh3:∀h∈hs,h.length≤800) {pg:List (List Nat)} (hpg:pg=(aE 0 9).map (oO hs ws)) {lw:List WS} (hlw:lw=pg.map oU)
 {wk:List (List Int)} (hwk:wk=rows.map fun r=>oB r tl) {wd:List Int} (hwd:wd=[c3.fmod 4,c4.fmod 4]++aA ((tt.fdiv 9).fmod 4).toNat 0) {bh:Int} (hbh:bh=(tt.fdiv 3).fmod 4) (hbb:0≤bh∧bh≤3) (hwdo:kU wd) (hlwd:(dp wd bh).length≤800)
 {al:WS} (hal:al=oU (dp wd bh++[120])) {bs:List Int} (hbs:bs=oB wd bh)
 {M:MM} (hM:Has M [(ofString "heads",.dat (.list (cm hs))),(ofString "rows",.dat (jV rows)),(ofString "words",.dat (.list (cm ws))),(ofString "numbers",.dat (iL ns)),(ofString "tree",.dat (bj t)),(ofString "total",.dat (.int tt)),(ofString "cells",.dat (iL cs))]):
 Runs (Xw ws runs ns) [lst 7,lst 8,lst 9,lst 10,lst 11,lst 12] M [(ofString "beside",.dat (iL bs)),(ofString "alone",.dat (gU al)),(ofString "walked",.dat (jV wk)),(ofString "leads",.dat (.list (lw.map gU))),(ofString "page",.dat (.list (cm pg))),
  (ofString "heads",.dat (.list (cm hs))),(ofString "words",.dat (.list (cm ws))),(ofString "numbers",.dat (iL ns)),(ofString "tree",.dat (bj t)),(ofString "total",.dat (.int tt))]:=by
 have gl:∀(l:List (List Nat)) (i n:Nat),(∀x∈l,x.length≤n)→(l.getD i []).length≤n:=fun l i n h=>by
  rw[ac];cases e:l[i]? with
  |none=>exact d5 _
  |some x=>exact h x (ax e)
 subst htl hbh;have hpl:pg.length=9:=by rw[hpg,ag,ci];rfl
 have pf:=fun(k:Int)=>(gl hs k.toNat 800 hh3:_);have pw:=fun(k:Int)=>(gl ws k.toNat 3 hw3:_);have d1:∀z,gQ (z+8) (Xw ws runs ns) lS [(ofString "heads",.dat (.list (cm hs))),(ofString "words",.dat (.list (cm ws)))] (vE (lst 7)) (.list (cm pg)):=fun z=>kq (n:=z+7) (l:=aE 0 9) (g:=D.int) (h:=fun k=>D.str (S (oO hs ws k))) (by kernel_rfl) (fQ (qa sg .nil) (by kernel_rfl))
  (fun k hk=>by
   have hk:=mem_irange.mp hk;have i1:=oj (l:=hs) (i:=k) hk.1 (by rw[hhl];exact Mine.tn_lt hk (by decide)) (by rw[hhl];decide);have b1:=pf k;by_cases q:k.fmod 2=0
   ·have i2:=oj (l:=ws) (i:=k.fdiv 2) (De hk).1 (by rw[hwl];exact(De hk).2) (by rw[hwl];decide)
    have b2:=pw (k.fdiv 2);unfold oO;rw[if_pos q];exact fR (qi i1 (qw (beq_iff_eq.mpr q) (qi i2 (qb (gf (x:=hs.getD k.toNat []) (y:=ws.getD (k.fdiv 2).toNat []) (ae (qz b1 b2) (by decide))) (qb (gf (x:=hs.getD k.toNat []++ws.getD (k.fdiv 2).toNat []) (y:=[120]) (by rw[ai];exact ae (cy (qz b1 b2) 1) (by decide))) .nil))))) (by kernel_rfl)
   ·unfold oO
    rw[if_neg q];exact fR (qi i1 (qw (beq_eq_false_iff_ne.mpr q) (qb (gf (x:=hs.getD k.toNat []) (y:=[44]) (ae (cy b1 1) (by decide))) (qb (gf (x:=hs.getD k.toNat []++[44]) (y:=[120]) (by rw[ai];exact ae (cy (cy b1 1) 1) (by decide))) .nil)))) (by kernel_rfl))
  (by rw[ci];decide) (by rw[hpg];unfold cm;rw[be];rfl);have hp9:∀l∈pg,l.length≤900:=fun l hl=>by
  rw[hpg]at hl;obtain⟨k,hk,rfl⟩:=bc.mp hl;exact x9 (pf k) (pw (k.fdiv 2))
 have d2:∀z,gQ (z+6) (Xw ws runs ns) lS [(ofString "page",.dat (.list (cm pg)))] (vE (lst 8)) (.list (lw.map gU)):=fun z=>kq (n:=z+5) (l:=pg) (g:=fun l=>D.str (S l)) (h:=fun r=>gU (oU r)) (by kernel_rfl) (fQ (qj (fU (l:=cm pg) (by unfold cm;rw[ag,hpl];decide)) .nil) (by kernel_rfl))
  (fun r hr=>fR (qg (Lb (hp9 r hr)) .nil) (by kernel_rfl)) (by rw[hpl];decide) (by rw[hlw,be];rfl);have d3:∀z,gQ (z+6) (Xw ws runs ns) lS [(ofString "rows",.dat (jV rows)),(ofString "total",.dat (.int tt))] (vE (lst 9)) (jV wk):=fun z=>kq (n:=z+5) (l:=rows) (g:=iL) (h:=fun r=>iL (oB r (tt.fmod 3))) (by kernel_rfl) (fQ (qj (fU (l:=rows.map iL) (by rw[ag,hrl];decide)) .nil) (by kernel_rfl))
  (fun r hr=>fR (qg (A9 (t:=tt.fmod 3) (hro r hr) ⟨htb.1,aB htb.2 (by decide)⟩) .nil) (by kernel_rfl)) (by rw[hrl];decide) (by rw[hwk,be];rfl);have hcl:cs.length=5:=by rw[hcs];rfl
 have i3:ef (iL cs) (.int 3)=some (.int c3):=(hO (by decide) (by rw[hcl];decide) (by rw[hcl];decide)).trans (by rw[hcs];rfl);have i4:ef (iL cs) (.int 4)=some (.int c4):=(hO (by decide) (by rw[hcl];decide) (by rw[hcl];decide)).trans (by rw[hcs];rfl);have f0:=bE (tt.fdiv 9) (b:=4) (by decide);have f4:=cf (tt.fdiv 9) (b:=4) (by decide);have hb:eS .Add (.list [.int (c3.fmod 4),.int (c4.fmod 4)]) (.list (aA ((tt.fdiv 9).fmod 4).toNat (.int 0)))=some (iL wd):=by
  rw[l5 (by rw[a9];show 2+_≤_;lia),hwd];unfold iL;rw[bz,lB];rfl
 have hbh:0≤(tt.fdiv 3).fmod 4∧(tt.fdiv 3).fmod 4≤100:=⟨hbb.1,aB hbb.2 (by decide)⟩;have hx:=Lb (ws:=ws) (runs:=runs) (ns:=ns) (raw:=dp wd ((tt.fdiv 3).fmod 4)++[120]) (by rw[ai];exact cy (ae hlwd (by decide:800≤899)) 1);rw[←hal]at hx;have hc:=A9 (ws:=ws) (runs:=runs) (ns:=ns) hwdo hbh;rw[←hbs]at hc;exact fC (n:=12) (qe d1 (qe d2 (qe d3 (qi i3 (qi i4 (qb (t9 (a:=.int 0) ⟨f0,aB (aO f4) (by decide)⟩) (qb hb (qg (A7 hwdo hbh) (qb (gf (x:=dp wd ((tt.fdiv 3).fmod 4)) (y:=[120]) (ae (cy hlwd 1) (by decide))) (qg hx (qg hc .nil))))))))))) (by kernel_rfl) _ hM
end
theorem Has.other {M L:MM} {x:Str} {e:Ent} (h:Has M L) (hx:L.lookup x=none):Has (M.set x e) L:=fun y e' q=>by
 rw[MM.set_lookup,if_neg (fun z=>by rw[z,hx]at q;cases q)];exact h y e' q
theorem JY {b:MM→Option (Fl×MM)} {x:Str} {L:MM}:∀{l:List D},(∀d∈l,∀M,Has M L→∃M',b (M.set x (.dat d))=some (.next,M')∧Has M' L)→∀M,Has M L→∃M',sw b x l M=some (.next,M')∧Has M' L
 |[]=>@fun _ M hM=>⟨M,wr,hM⟩
 |d::r=>@fun h M hM=>by
  refine Ua (h d (au ..) M hM) fun M1 e1 h1=>?_;refine Ua (JY (fun d' q=>h d' (af _ q)) M1 h1) fun M2 e2 h2=>?_;exact⟨M2,(hU e1).trans e2,h2⟩
theorem BO {a b:List Int}:ia .Eq (iL a) (iL b)=some (decide (a=b)):=
 BQ (x5 _) (x5 _) (by rw[decide_eq_true_iff];exact⟨fun h=>by rw[h],mw⟩)
theorem KI {l:List Int} {m:Int} (h:l.max?=some m):ox (ofString "max") [iL l]=some (.int m):=by
 unfold ox;rw[if_neg (by decide+kernel),if_neg (by decide+kernel),if_pos rfl];show((gu (l.map .int)).bind fun ns=>ns.max?.map D.int)=_;rw[o0,bp,h];rfl
theorem KH {l:List Int} {m:Int} (h:l.min?=some m):ox (ofString "min") [iL l]=some (.int m):=by
 unfold ox;rw[if_neg (by decide+kernel),if_neg (by decide+kernel),if_neg (by decide+kernel),if_pos rfl];show((gu (l.map .int)).bind fun ns=>ns.min?.map D.int)=_;rw[o0,bp,h];rfl
noncomputable def pZ (wk:List (List Int)) (bs:List Int) (k:Int):List Int:=(aE 0 4).map fun j=>(wk.getD k.toNat []).getD j.toNat 0-bs.getD j.toNat 0
structure Cj (hs:List (List Nat)) (lw:List WS) (wk:List (List Int)) (bs:List Int) (al:WS) (k:Int):Prop where
 n:(gz lw k.toNat).n=(hs.getD k.toNat []).length
 eq:decide ((gz lw k.toNat).cs=al.cs∧(gz lw k.toNat).b=al.b)=decide (pZ wk bs k=[0,0,0,0])
 mx:∃m,(pZ wk bs k).max?=some m∧(gz lw k.toNat).less al=decide (m<0)
 mn:∃m,(pZ wk bs k).min?=some m∧al.less (gz lw k.toNat)=decide (m>0)
noncomputable abbrev QR:List Stmt:=mE (lst 13)
section
variable {ws:List (List Nat)} {runs:List (List Int)} {ns:List Int}
theorem S0 {t:T} {tt:Int} {hs:List (List Nat)} (hhl:hs.length=9) (hh3:∀h∈hs,h.length≤800) {pg:List (List Nat)} {lw:List WS} (hlo:LeadsOK lw)
 {wk:List (List Int)} (hwl:wk.length=9) (hw4:∀r∈wk,r.length=4) {al:WS} (hal:al.ok∧al.longest≤90) {bs:List Int} (hbl:bs.length=4) (hg:∀k:Int,0≤k∧k<9→Cj hs lw wk bs al k)
 {M:MM} (hM:Has M [(ofString "beside",.dat (iL bs)),(ofString "alone",.dat (gU al)),(ofString "walked",.dat (jV wk)),(ofString "leads",.dat (.list (lw.map gU))),(ofString "page",.dat (.list (cm pg))),(ofString "heads",.dat (.list (cm hs))),(ofString "words",.dat (.list (cm ws))),(ofString "numbers",.dat (iL ns)),(ofString "tree",.dat (bj t)),(ofString "total",.dat (.int tt))]):
 Runs (Xw ws runs ns) [lst 13] M [(ofString "beside",.dat (iL bs)),(ofString "alone",.dat (gU al)),(ofString "walked",.dat (jV wk)),(ofString "leads",.dat (.list (lw.map gU))),(ofString "page",.dat (.list (cm pg))),(ofString "heads",.dat (.list (cm hs))),(ofString "words",.dat (.list (cm ws))),(ofString "numbers",.dat (iL ns)),(ofString "tree",.dat (bj t)),(ofString "total",.dat (.int tt))]:=by
 refine fC (n:=12) (qx (wv (n:=11) (L:=[(ofString "beside",.dat (iL bs)),(ofString "alone",.dat (gU al)),(ofString "walked",.dat (jV wk)),(ofString "leads",.dat (.list (lw.map gU))),(ofString "page",.dat (.list (cm pg))),(ofString "heads",.dat (.list (cm hs))),(ofString "words",.dat (.list (cm ws))),(ofString "numbers",.dat (iL ns)),(ofString "tree",.dat (bj t)),(ofString "total",.dat (.int tt))]) (st:=lst 13) (l:=aE 0 9) (g:=D.int) (by kernel_rfl) (fQ (qa sg .nil) (by kernel_rfl)) fun k hk=>?_) .nil) (by kernel_rfl) _ hM;have hk':=mem_irange.mp hk;obtain⟨g1,g2,⟨mx,g3,g3'⟩,⟨mn,g4,g4'⟩⟩:=hg k hk';have iw:=wo (l:=lw) (i:=k) hk'.1 (by rw[hlo.len];(exact Mine.tn_lt hk' (by decide))) (by rw[hlo.len];decide);have ih:=oj (l:=hs) (i:=k) hk'.1 (by(rw[hhl];exact Mine.tn_lt hk' (by decide))) (by(rw[hhl];decide));have ik:=q8 (l:=wk) (i:=k) hk'.1 (by(rw[hwl];exact Mine.tn_lt hk' (by decide))) (by(rw[hwl];decide));have hwo:=(hlo.at (i:=k.toNat) (Mine.tn_lt hk' (by decide))).2;have rl:(wk.getD k.toNat []).length=4:=by
  rw[ac,aj (by rw[hwl];exact Mine.tn_lt hk' (by decide))];exact hw4 _ (cH _)
 have hl8:(hs.getD k.toNat []).length≤800:=by
  rw[ac,aj (by rw[hhl];exact Mine.tn_lt hk' (by decide))];exact hh3 _ (cH _)
 have c1:∀z,gQ (z+6) (Xw ws runs ns) lS ((ofString "k",.dat (.int k))::[(ofString "walked",.dat (jV wk)),(ofString "beside",.dat (iL bs))]) (vE (f9 QR 0)) (iL (pZ wk bs k)):=fun z=>kq (n:=z+5) (l:=aE 0 4) (g:=D.int) (h:=fun j=>D.int ((wk.getD k.toNat []).getD j.toNat 0-bs.getD j.toNat 0)) (by kernel_rfl) (fQ (qa Bl .nil) (by kernel_rfl))
  (fun j hj=>by
   have hj':=mem_irange.mp hj;exact fR (qi ik (qi (hO (l:=wk.getD k.toNat []) (i:=j) hj'.1 (by(rw[rl];exact Mine.tn_lt hj' (by decide))) (by(rw[rl];decide))) (qi (hO (l:=bs) (i:=j) hj'.1 (by(rw[hbl];exact Mine.tn_lt hj' (by decide))) (by(rw[hbl];decide))) .nil))) (by kernel_rfl))
  (by rw[ci];decide) (by unfold pZ;rw[be];rfl);have w1:(!(((gz lw k.toNat).n:Int)==((hs.getD k.toNat []).length:Int)))=false:=by rw[g1,beq_self_eq_true];rfl
 have w2:(!(decide ((gz lw k.toNat).cs=al.cs∧(gz lw k.toNat).b=al.b)==decide (pZ wk bs k=[0,0,0,0])))=false:=by rw[g2,beq_self_eq_true];rfl
 have w3:(!((gz lw k.toNat).less al==decide (mx<0)))=false:=by rw[g3',beq_self_eq_true];rfl
 have w4:(!(al.less (gz lw k.toNat)==decide (mn>0)))=false:=by rw[g4',beq_self_eq_true];rfl
 exact fC (n:=11) (qe c1 (qi iw (qi ih (qf (len_str (ae hl8 (by decide))) (qw w1 (qi iw (qm (PS (w:=gz lw k.toNat) (v:=al)) (qc (BO (a:=pZ wk bs k) (b:=[0,0,0,0])) (qw w2 (qi iw (qm (A6 hwo hal) (qf (KI g3) (qw w3 (qi iw (qm (A6 hal hwo) (qf (KH g4) (qw w4 .nil))))))))))))))))) (by kernel_rfl)
end
noncomputable def Bk (ns:List Int) (k:Int):List Int:=if k.fmod 2=0 then[ns.getD (k.fdiv 2).toNat 0]else[12]
theorem Cz {l:List Nat} (h:1≤l.length) (h2:l.length≤1000000):gt (.str (S l)) (some 1) none none=some (.str (S (l.drop 1))):=by
 show(if(S l).length≤1000000 then some (D.str (t5 (S l) (some 1) none))else none)=_;rw[i5,if_pos h2];unfold t5;rw[nN,show(some (1:Int))=some ((1:Nat):Int)from rfl,yT h];rfl
theorem wf {a b:D} (h:a=b) (hp:lx 60 a=true):(Dt a b).map (!·)=some false:=by
 subst h;rw[BQ (c:=true) hp hp (by simp)];rfl
theorem Nd {a b:List (List Int)} (h:a=b):ia .NotEq (jV a) (jV b)=some false:=wf (by rw[h]) (MV _)
theorem FD {a b:List Int} (h:a=b):ia .NotEq (iL a) (iL b)=some false:=wf (by rw[h]) (x5 _)
theorem Jq {a b:List (List Nat)} (h:a=b) (ha:∀x∈a,∀c∈x,c<0x110000):ia .NotEq (.list (cm a)) (.list (cm b))=some false:=wf (by rw[h]) (sb fun x q=>sa (ha x q))
section
variable {ws:List (List Nat)} {runs:List (List Int)} {ns:List Int}
theorem SZ {t:T} (tok:t.ok 5) (tsz:t.size≤100) (tdp:t.depth<10) (hwsl:ws.length=5) (hnl:ns.length=5) {tt:Int} {hs:List (List Nat)} {pg:List (List Nat)} (hpl:pg.length=9) (hp9:∀l∈pg,l.length≤900) {lw:List WS} (hlo:LeadsOK lw)
 {wk:List (List Int)} {al:WS} {bs:List Int} (hn:∀k:Int,0≤k∧k<9→(gz lw k.toNat).n=(hs.getD k.toNat []).length) {rd:List (List Int)} (hrd:rd=(aE 0 9).map (Bk ns))
 (hre:∀k:Int,0≤k∧k<9→dH ((pg.getD k.toNat []).drop (hs.getD k.toNat []).length)=Bk ns k) {tx:List Nat} (htx:tx=aR ws t) (htl:1≤tx.length) (ht9:tx.length≤800) (hrt:dH tx=ij ns t)
 (hc1:cZ tx 0=true) (hc2:cZ (tx.drop 1++[40]) 0=false) (htp:∀c∈tx,c≠34∧c≠92∧c<0x110000)
 {M:MM} (hM:Has M [(ofString "beside",.dat (iL bs)),(ofString "alone",.dat (gU al)),(ofString "walked",.dat (jV wk)),(ofString "leads",.dat (.list (lw.map gU))),(ofString "page",.dat (.list (cm pg))),(ofString "heads",.dat (.list (cm hs))),(ofString "words",.dat (.list (cm ws))),(ofString "numbers",.dat (iL ns)),(ofString "tree",.dat (bj t)),(ofString "total",.dat (.int tt))]):
 Runs (Xw ws runs ns) [lst 14,lst 15,lst 16,lst 17,lst 18] M [(ofString "text",.dat (.str (S tx))),(ofString "read",.dat (jV rd)),(ofString "walked",.dat (jV wk)),(ofString "leads",.dat (.list (lw.map gU))),(ofString "numbers",.dat (iL ns)),(ofString "total",.dat (.int tt))]:=by
 have hrl:(aE 0 9).length≤1000000:=by rw[ci];decide
 have c1:∀z,gQ (z+6) (Xw ws runs ns) lS [(ofString "page",.dat (.list (cm pg))),(ofString "leads",.dat (.list (lw.map gU)))] (vE (lst 14)) (jV rd):=fun z=>kq (n:=z+5) (l:=aE 0 9) (g:=D.int) (h:=fun k=>iL (Bk ns k)) (by kernel_rfl) (fQ (qa sg .nil) (by kernel_rfl))
  (fun k hk=>by
   have hk':=mem_irange.mp hk;have hr:=A5 (ws:=ws) (runs:=runs) (ns:=ns) (l:=pg.getD k.toNat []) (p:=(hs.getD k.toNat []).length) (by
    rw[ac,aj (by(rw[hpl];exact Mine.tn_lt hk' (by decide)))];exact hp9 _ (cH _));rw[hre k hk',←hn k hk']at hr;exact fR (qi (oj (l:=pg) (i:=k) hk'.1 (by(rw[hpl];exact Mine.tn_lt hk' (by decide))) (by(rw[hpl];decide))) (qi (wo (l:=lw) (i:=k) hk'.1 (by rw[hlo.len];(exact Mine.tn_lt hk' (by decide))) (by rw[hlo.len];decide)) (qg hr .nil))) (by kernel_rfl)) hrl (by rw[hrd,be];rfl);have c2:∀z,gQ (z+6) (Xw ws runs ns) lS [(ofString "numbers",.dat (iL ns))] (wO (vE (lst 16)) 1) (jV rd):=fun z=>kq (n:=z+5) (l:=aE 0 9) (g:=D.int) (h:=fun k=>iL (Bk ns k)) (by kernel_rfl) (fQ (qa sg .nil) (by kernel_rfl))
  (fun k hk=>by
   have hk':=mem_irange.mp hk;unfold Bk;by_cases q:k.fmod 2=0
   ·rw[if_pos q]
    exact fR (qw (beq_iff_eq.mpr q) (qi (hO (l:=ns) (i:=k.fdiv 2) (De hk').1 (by rw[hnl];exact(De hk').2) (by(rw[hnl];decide))) .nil)) (by kernel_rfl)
   ·rw[if_neg q]
    exact fR (qw (beq_eq_false_iff_ne.mpr q) .nil) (by kernel_rfl)) hrl (by rw[hrd,be];rfl);have hx:=Iu (ws:=ws) (runs:=runs) (ns:=ns) (t:=t) (by rw[hwsl];exact tok) tsz tdp;rw[←htx]at hx;have hr:(Xw ws runs ns).call (ofString "_law_read") [.str (S tx),.int 0]=some (iL (ij ns t)):=by
  have hr:=A5 (ws:=ws) (runs:=runs) (ns:=ns) (l:=tx) (p:=0) (by(exact ae ht9 (by decide)));rw[lC,hrt]at hr;exact hr
 have hrw:=Mo (ws:=ws) (runs:=runs) (ns:=ns) (t:=t) (by rw[hnl];exact tok) tsz tdp;have hdl:(tx.drop 1++[40]).length≤900:=by rw[ai,cp];show _-1+1≤_;exact(fN 0x729c209cf085c3a640270860085c2:) ht9
 have hp:=Mp (ws:=ws) (runs:=runs) (ns:=ns) (ls:=[tx,tx.drop 1++[40]]) (by
  intro l hl;rcases aD.mp hl with rfl|hl
  ·exact⟨by(exact ae ht9 (by decide)),htp⟩
  ·rw[aT.mp hl]
   refine⟨hdl,fun c hc=>?_⟩;rcases cF.mp hc with q|q
   ·exact htp c (gZ q)
   ·rw[aT.mp q];decide) (by decide:2≤_);rw[show[tx,tx.drop 1++[40]].map g9=[tx,Cs]by
    show[g9 tx,g9 (tx.drop 1++[40])]=_;unfold g9;rw[if_pos hc1,if_neg (by rw[hc2];decide)]]at hp;have ne:ia .NotEq (.list (cm [tx,Cs])) (.list (cm [tx,Cs]))=some false:=Jq rfl (by
  intro x hx c hc;rcases aD.mp hx with rfl|hx
  ·exact(htp c hc).2.2
  ·rw[aT.mp hx]at hc
   exact(by decide:∀c∈Cs,c<0x110000) c hc);exact fC (n:=12) (qe c1 (qg hx (qe c2 (qc (Nd (a:=rd) rfl) (qF (qg hr (qg hrw (qc (FD (a:=ij ns t) rfl) (qF (qs (Cz htl (ae ht9 (by decide))) (qb (gf (y:=[40]) (by rw[ai]at hdl;exact ae hdl (by decide))) (qg hp (qc ne (qF .nil)))))))))))))) (by kernel_rfl) _ hM
end
theorem t8 {w:Nat} (h:w≤10000):eS .Pow (.int 2) (.int (w:Int))=some (.int ((2:Int)^w)):=by
 show(if(2:Int)=2∧0≤(w:Int)∧(w:Int)≤10000 then some (D.int ((2:Int)^(w:Int).toNat))else none)=_;rw[if_pos ⟨rfl,by(exact aY _),by(exact bQ.mpr h)⟩,bY]
theorem jC {a:Int} {m:Nat} (h:a.natAbs<2^m) (hm:m≤8000):sm a:=by
 unfold sm TU;exact aP h (cM (by decide) hm)
theorem yh (w:Nat):((2:Int)^w).natAbs=2^w:=by
 rw[Int.natAbs_pow];rfl
theorem IN {w:Nat} (h:w<8000):sm ((2:Int)^w):=by
 refine jC (m:=8000) ?_ (ba _);rw[yh];exact H9 (by decide) h
theorem IM {ds:List Int} {n:Nat} (h:∀x∈ds,0≤x∧x<2^n) (hl:n*ds.length≤7900):0≤eF (2^n) ds∧sm (eF (2^n) ds):=by
 have b:=r5 (ga n) ds h;refine⟨b.1,jC (m:=n*ds.length) ?_ (by(exact ae hl (by decide)))⟩;rw[dv b.1,ku];exact b.2
theorem Has.reset {M L:MM} {x:Str} {e e':Ent} (h:Has M ((x,e)::L)):Has (M.set x e') ((x,e')::L):=fun y z q=>by
 rw[MM.set_lookup];by_cases hy:y=x
 ·subst hy
  rw[eQ]at q;rw[if_pos rfl];exact q
 ·rw[if_neg hy]
  rw[ee (by simpa using hy)]at q;exact h y z (by rw[ee (by simpa using hy)];exact q)
theorem Runs.app {X:Cx} {l1 l2:List Stmt} {M L L':MM} (h:Runs X l1 M L) (k:∀M1,Has M1 L→Runs X l2 M1 L'):Runs X (l1++l2) M L':=by
 refine Ua h fun M1 e1 h1=>?_;refine Ua (k _ h1) fun M' e2 h2=>?_;exact⟨M',sQ e1 e2,h2⟩
noncomputable def PB (ns cols:List Int) (p:Int):List Int:=[ns.getD p.toNat 0,cols.getD p.toNat 0]
section
variable {ws:List (List Nat)} {runs:List (List Int)} {ns:List Int}
theorem two_mul {p:Int} (h:0≤p∧p<5):eS .Mult (.int 2) (.int p)=some (.int (2*p)):=dz ⟨cL (by decide),cL ⟨aB (by decide) h.1,aO (gE h.2 (by decide))⟩⟩
theorem PZ {p:Int} (h:0≤p∧p<5):0≤2*p∧(2*p).toNat<9:=by exact(iG 0x39ab242e15628105c076ae50b915401c1001d14082e:) h
theorem Ja {cols:List Int} {L:MM}
 (step:∀(p:Int) (acc:List D),0≤p∧p<5→acc.length≤10→lm 11 (Xw ws runs ns) lS ((fX (lst 21),.dat (.int p))::(ofString "put",.own acc)::L) (uu (lst 21)) (.next,(ofString "put",.own ((acc++[.int (ns.getD p.toNat 0)])++[.int (cols.getD p.toNat 0)]))::L)):
 jx 12 (Xw ws runs ns) lS ((ofString "put",.own [])::L) (lst 21) (.next,(ofString "put",.own (((aE 0 5).flatMap (PB ns cols)).map .int))::L):=by
 refine kM (n:=11) (l:=aE 0 5) (g:=D.int) (fun k=>(ofString "put",.own ((((aE 0 5).take k).flatMap (PB ns cols)).map .int))::L) (by kernel_rfl) rfl (by rw[bD (ba _)]) (fQ (qa jN .nil) (by kernel_rfl)) fun k p h=>?_;have hp:=mem_irange.mp (ax h);rw[eK,h,fW,bz];have:=step p ((((aE 0 5).take k).flatMap (PB ns cols)).map .int) hp (by
  rw[ag];refine ae (jW (n:=2) fun _ _=>ba _) ?_;have:((aE 0 5).take k).length≤5:=ae (dW ..) (by rw[ci];decide);exact kt 2 this);rw[aC]at this;exact this
theorem I9 {rd:List (List Int)} {lw:List WS} {sz:Int} {cols:List Int} (hrd:rd=(aE 0 9).map (Bk ns)) (hlo:LeadsOK lw) (hsz:1≤sz∧sz≤3) (hlv:∀p:Int,0≤p∧p<5→(gz lw (2*p).toNat).lvl sz=cols.getD p.toNat 0) {tx:List Nat} {wi:Nat} {wk:List (List Int)} {tt:Int}
 (p:Int) (acc:List D) (hpp:0≤p∧p<5) (ha:acc.length≤10):lm 11 (Xw ws runs ns) lS ((fX (lst 21),.dat (.int p))::(ofString "put",.own acc)::[(ofString "width",.dat (.int (wi:Nat))),(ofString "size",.dat (.int sz)),(ofString "text",.dat (.str (S tx))),(ofString "read",.dat (jV rd)),(ofString "walked",.dat (jV wk)),(ofString "leads",.dat (.list (lw.map gU))),(ofString "numbers",.dat (iL ns)),(ofString "total",.dat (.int tt))]) (uu (lst 21))
  (.next,(ofString "put",.own ((acc++[.int (ns.getD p.toNat 0)])++[.int (cols.getD p.toNat 0)]))::[(ofString "width",.dat (.int (wi:Nat))),(ofString "size",.dat (.int sz)),(ofString "text",.dat (.str (S tx))),(ofString "read",.dat (jV rd)),(ofString "walked",.dat (jV wk)),(ofString "leads",.dat (.list (lw.map gU))),(ofString "numbers",.dat (iL ns)),(ofString "total",.dat (.int tt))]):=by
 have hrl:rd.length=9:=by rw[hrd,ag,ci];rfl
 have h9:=PZ hpp;have i1:ef (jV rd) (.int (2*p))=some (.list [.int (ns.getD p.toNat 0)]):=by
  rw[q8 h9.1 (by rw[hrl];exact h9.2) (by rw[hrl];decide)];have hg:rd.getD (2*p).toNat []=Bk ns (2*p):=by
   rw[ac,hrd,aJ];unfold aE;rw[aJ,kG (show(2*p).toNat<((9:Int)-0).toNat from h9.2)];show Bk ns (0+((2*p).toNat:Int))=_;rw[br,bG h9.1]
  rw[hg];unfold Bk;have h1:(2*p).fmod 2=0:=by rw[ib _ (by decide)];exact Int.mul_emod_right 2 p
  have h2:(2*p).fdiv 2=p:=by rw[md _ (by decide)];exact Int.mul_ediv_cancel_left p (by decide)
  rw[if_pos h1,h2];rfl
 have hx:=Mq (ws:=ws) (runs:=runs) (ns:=ns) (w:=gz lw (2*p).toNat) (ts:=sz) (hlo.at (i:=(2*p).toNat) h9.2).2.1 (by(exact⟨hsz.1,aB hsz.2 (by decide)⟩));rw[hlv p hpp]at hx;have l1:(acc++[D.int (ns.getD p.toNat 0)]).length≤11:=by rw[ai];exact cy ha 1
 exact fC (n:=11) (qb (two_mul hpp) (qi i1 (qb (l5 (x:=acc) (y:=[D.int (ns.getD p.toNat 0)]) (by rw[ai]at l1;exact ae l1 (by decide))) (qb (two_mul hpp) (qi (wo (l:=lw) (i:=2*p) h9.1 (by rw[hlo.len];exact h9.2) (by rw[hlo.len];decide)) (qm hx (qp (show(acc++[D.int (ns.getD p.toNat 0)]).length+[D.int (cols.getD p.toNat 0)].length≤1000000 from ae (cy l1 1) (by decide)) .nil))))))) (by kernel_rfl)
theorem SY {tt:Int} {lw:List WS} (hlo:LeadsOK lw) {wk:List (List Int)} (hwl:wk.length=9) (hw4:∀r∈wk,r.length=4) (hnl:ns.length=5) {rd:List (List Int)} (hrd:rd=(aE 0 9).map (Bk ns)) {tx:List Nat}
 {sz:Int} (hsz:sz=1+(tt.fdiv 5).fmod 3) (hsb:1≤sz∧sz≤3) {wi:Nat} (hwi:(wi:Int)=16+tt.fmod 700) (hwb:16≤wi∧wi≤715) {cols:List Int} (hcl:cols.length=5) (hcb:∀c∈cols,0≤c∧c≤100) (hlv:∀p:Int,0≤p∧p<5→(gz lw (2*p).toNat).lvl sz=cols.getD p.toNat 0)
 (hcw:∀p:Int,0≤p∧p<5→(wk.getD (2*p).toNat []).getD (sz-1).toNat 0=cols.getD p.toNat 0) {pu:List Int} (hpu:pu=(aE 0 5).flatMap (PB ns cols)) (hpb:∀x∈pu,0≤x∧x<2^wi) (hpl:pu.length=10) {due:List Int} (hdu:io (eF (2^wi) pu) (2*wi)=due)
 (hdf:due=(aE 0 5).map fun p=>ns.getD p.toNat 0+cols.getD p.toNat 0*2^wi)
 {M:MM} (hM:Has M [(ofString "text",.dat (.str (S tx))),(ofString "read",.dat (jV rd)),(ofString "walked",.dat (jV wk)),(ofString "leads",.dat (.list (lw.map gU))),(ofString "numbers",.dat (iL ns)),(ofString "total",.dat (.int tt))]):
 Runs (Xw ws runs ns) [lst 19,lst 20,lst 21,lst 22,lst 23,lst 24,lst 25] M [(ofString "due",.dat (iL due)),(ofString "columns",.dat (iL cols)),(ofString "weights",.dat (iL due)),(ofString "width",.dat (.int (wi:Nat))),(ofString "size",.dat (.int sz)),(ofString "text",.dat (.str (S tx))),(ofString "leads",.dat (.list (lw.map gU))),(ofString "numbers",.dat (iL ns)),(ofString "total",.dat (.int tt))]:=by
 have p1:=fC (n:=12) (X:=Xw ws runs ns) (sc:=lS) (ss:=[lst 19]) (fl:=.next) (L':=(ofString "width",.dat (.int (16+tt.fmod 700)))::(ofString "size",.dat (.int (1+(tt.fdiv 5).fmod 3)))::[(ofString "text",.dat (.str (S tx))),(ofString "read",.dat (jV rd)),(ofString "walked",.dat (jV wk)),(ofString "leads",.dat (.list (lw.map gU))),(ofString "numbers",.dat (iL ns)),(ofString "total",.dat (.int tt))]) .nil (by kernel_rfl) _ hM;rw[←hsz,←hwi]at p1;refine Runs.app (l1:=[lst 19]) p1 fun M1 h1=>?_;have pl:=Ja (ws:=ws) (runs:=runs) fun p acc=>I9 (tx:=tx) (wi:=wi) (wk:=wk) (tt:=tt) hrd hlo hsb hlv p acc;rw[←hpu]at pl;refine Runs.app (l1:=[lst 20,lst 21]) (L:=(ofString "put",.own (pu.map .int))::[(ofString "width",.dat (.int (wi:Nat))),(ofString "size",.dat (.int sz)),(ofString "text",.dat (.str (S tx))),(ofString "read",.dat (jV rd)),(ofString "walked",.dat (jV wk)),(ofString "leads",.dat (.list (lw.map gU))),(ofString "numbers",.dat (iL ns)),(ofString "total",.dat (.int tt))]) (fC (n:=12) (qx pl .nil) (by kernel_rfl) _ h1) fun M3 h3=>?_;have hd:=Mt (ws:=ws) (runs:=runs) (ns:=ns) hpb (by(exact ph hwb.1)) (by rw[hpl];exact(fN 0xe50f6e0dd1505c2d52cb138541402e:) hwb);have sv:=IM hpb (by rw[hpl];exact(fN 0xe50f6e0dd1505c2d52cb138541402e:) hwb);have hi:=zW (ws:=ws) (runs:=runs) (ns:=ns) (a:=eF (2^wi) pu) (n:=2*wi) sv.1 sv.2 (by exact(fN 0x394888417042ed52cb138541402e:) hwb) (by exact(fN 0xe50fa00dd11082ed52cb138541402e:) hwb);rw[hdu]at hi;have hm:eS .Mult (.int 2) (.int (wi:Int))=some (.int ((2*wi:Nat):Int)):=by
  rw[dz ⟨cL (by(decide)),cL (by exact(fN 0x1cd57a3529440010e90ab214fa3529440010ed52cb138541402e:) hwb)⟩];congr 2
 refine Runs.app (l1:=[lst 22]) (L:=[(ofString "weights",.dat (iL due)),(ofString "put",.dat (iL pu)),(ofString "width",.dat (.int (wi:Nat))),(ofString "size",.dat (.int sz)),(ofString "text",.dat (.str (S tx))),(ofString "read",.dat (jV rd)),(ofString "walked",.dat (jV wk)),(ofString "leads",.dat (.list (lw.map gU))),(ofString "numbers",.dat (iL ns)),(ofString "total",.dat (.int tt))]) (fC (n:=12) (qg hd (qb hm (qg hi .nil))) (by kernel_rfl) _ h3) fun M4 h4=>?_;have c1:∀z,gQ (z+6) (Xw ws runs ns) lS [(ofString "walked",.dat (jV wk)),(ofString "size",.dat (.int sz))] (vE (lst 23)) (iL cols):=fun z=>kq (n:=z+5) (l:=aE 0 5) (g:=D.int) (h:=fun p=>D.int (cols.getD p.toNat 0)) (by kernel_rfl) (fQ (qa jN .nil) (by kernel_rfl))
  (fun p hp=>by
   have hp':=mem_irange.mp hp;have h9:=PZ hp';have rl:(wk.getD (2*p).toNat []).length=4:=by
    rw[ac,aj (by rw[hwl];exact h9.2)];exact hw4 _ (cH _)
   have i2:=hO (l:=wk.getD (2*p).toNat []) (i:=sz-1) (by exact(iG 0xe56010b90076aa30b9154042e:) hsb) (by exact(zh 0x39cb0878205c2d5461722a8085c1001d0085c8:) hsb rl) (by(rw[rl];decide));rw[hcw p hp']at i2;exact fR (qb (two_mul hp') (qi (q8 (l:=wk) (i:=2*p) h9.1 (by rw[hwl];exact h9.2) (by rw[hwl];decide)) (qi i2 .nil))) (by kernel_rfl)) (by rw[ci];decide) (by
   have:=td cols (fun p=>D.int (cols.getD p.toNat 0)) D.int fun k a e=>by
    show D.int (cols.getD (k:Int).toNat 0)=_;rw[bY,ac,e];rfl
   rwa[hcl]at this);have c2:∀z,gQ (z+6) (Xw ws runs ns) lS [(ofString "numbers",.dat (iL ns)),(ofString "columns",.dat (iL cols)),(ofString "width",.dat (.int (wi:Nat)))] (vE (lst 24)) (iL due):=fun z=>kq (n:=z+5) (l:=aE 0 5) (g:=D.int) (h:=fun p=>D.int (ns.getD p.toNat 0+cols.getD p.toNat 0*2^wi)) (by kernel_rfl) (fQ (qa jN .nil) (by kernel_rfl))
  (fun p hp=>by
   have hp':=mem_irange.mp hp;have hc:0≤cols.getD p.toNat 0∧cols.getD p.toNat 0≤100:=by
    rw[ac,aj (by rw[hcl];exact Mine.tn_lt hp' (by decide))];exact hcb _ (cH _)
   exact fR (qi (hO (l:=ns) (i:=p) hp'.1 (by(rw[hnl];exact Mine.tn_lt hp' (by decide))) (by(rw[hnl];decide))) (qi (hO (l:=cols) (i:=p) hp'.1 (by(rw[hcl];exact Mine.tn_lt hp' (by decide))) (by rw[hcl];decide)) (qb (t8 (ae hwb.2 (by decide))) (qb (dz ⟨cL ⟨aB (by decide) hc.1,aB hc.2 (by decide)⟩,IN (ca hwb.2 (by decide))⟩) .nil)))) (by kernel_rfl))
  (by rw[ci];decide) (by rw[hdf,be];rfl);exact fC (n:=12) (qe c1 (qe c2 (qc (FD (a:=due) rfl) (qF .nil)))) (by kernel_rfl) _ h4
end
section
variable {ws:List (List Nat)} {runs:List (List Int)} {ns:List Int}
theorem SX {tt:Int} {lw:List WS} (hlo:LeadsOK lw) {wi:Nat} {sz:Int} {cols due:List Int} (hwt:vL due) {tx:List Nat} (htx:fe tx) (htr:∀p,p<tx.length→tx.getD p 0=40→((gr tx p).find? fun t=>cZ t 0).isSome=true)
 {pr:List Int} (hpr:pr=[1,3,5,7].map (iW lw due)) {pt:List (Int×Int)} (hpt:pt=mt tx) {sd tn:Int} (hsd:sd=1-2*(tt.fdiv 2).fmod 2) (htn:tn=1-2*(tt.fdiv 4).fmod 2)
 {M:MM} (hM:Has M [(ofString "due",.dat (iL due)),(ofString "columns",.dat (iL cols)),(ofString "weights",.dat (iL due)),(ofString "width",.dat (.int (wi:Nat))),(ofString "size",.dat (.int sz)),(ofString "text",.dat (.str (S tx))),(ofString "leads",.dat (.list (lw.map gU))),(ofString "numbers",.dat (iL ns)),(ofString "total",.dat (.int tt))]):
 Runs (Xw ws runs ns) [lst 26,lst 27,lst 28] M [(ofString "turn",.dat (.int tn)),(ofString "side",.dat (.int sd)),(ofString "parts",.dat (im pt)),(ofString "products",.dat (iL pr)),(ofString "due",.dat (iL due)),(ofString "columns",.dat (iL cols)),(ofString "width",.dat (.int (wi:Nat))),(ofString "numbers",.dat (iL ns))]:=by
 subst hsd htn;have hx:=Iw (ws:=ws) (runs:=runs) (ns:=ns) hlo hwt;rw[←hpr]at hx;have hy:=D9 (ws:=ws) (runs:=runs) (ns:=ns) htx htr;rw[←hpt]at hy;have m:∀y:Int,eS .Mult (.int 2) (.int (y.fmod 2))=some (.int (2*y.fmod 2)):=fun y=>dz ⟨cL (by decide),cL ⟨aB (by decide) (bE y (by decide)),aB (aO (cf y (by decide))) (by decide)⟩⟩;exact fC (n:=12) (qg hx (qg hy (qb (m (tt.fdiv 2)) (qb (m (tt.fdiv 4)) .nil)))) (by kernel_rfl) _ hM
end
theorem xZ {x:Int} (y:Int) (h:x=1-2*y.fmod 2):x=1∨x=-1:=by
 have b1:=bE y (b:=2) (by decide);have b2:=cf y (b:=2) (by decide);lia
theorem G7 {T P W r:Int} (hP:0<P) (hW:P≤W) (h:T*P+r=W) (hr:-P<r∧r<P):1≤T∧((T-1=0∧r=0)↔W=P)∧T≤2*W:=by
 have hT:1≤T:=by
  refine a8 fun q=>?_;have:=bJ (show T≤0 by(exact gC.mp q)) (aO hP);exact(uE 0x739ce7eb1401cad5d0bbae68ca5eb55528:) hW h hr this
 refine⟨hT,⟨fun q=>?_,fun q=>?_⟩,?_⟩
 ·have:T=1:=by exact(ly 0x73210b91ac81c9c81d0085c8:) q
  rw[this,q.2]at h;exact(ly 0x39942729781d14042e:) h
 ·have:T=1:=by
   refine a8 fun z=>?_;have:=bJ (show 2≤T by exact(iG 0x39caa04177b210b9154042e:) hT z) (aO hP);exact(uE 0xe739cfd5115882ecad5abad374cd7953d28:) h hr q this
  rw[this]at h⊢;exact(ud 0x1ce6b2072720740217042eca15953d314042e:) h q
 ·have:=Int.mul_le_mul_of_nonneg_left (show(1:Int)≤P by(assumption)) (show 0≤T by(exact aO hT))
  exact(SH 0x39ce72b14882e65551085ccd5d0bbae68ca5eb55528:) hW h hr this
theorem Ac {x:Int} (h:x=1∨x=-1) (y:Int):x*(x*y)=y:=by rw[←ck,show x*x=1 by rcases h with rfl|rfl<;>rfl,cz]
theorem kH {x:Int} (h:x=1∨x=-1) (y:Int):(x*y).natAbs=y.natAbs:=by rw[Int.natAbs_mul,show x.natAbs=1 by rcases h with rfl|rfl<;>rfl,Nat.one_mul]
theorem Tl {x P:Int} (hP:0<P) (h:x.natAbs<P.natAbs):-P<x∧x<P:=(ly 0x739aba1374cd1618ae80384003902001c9:) hP h
theorem Tk {x P:Int} (h0:0≤x) (h:x<P):x.natAbs<P.natAbs:=by omega
theorem Qz {x:Int} {B:Nat} (h:x.natAbs<B):-(B:Int)<x∧x<B:=(zh 0x73579091744e42b0862001c8:) h
theorem Tj {P W:Int} {B:Nat} (h:0<P) (h2:P≤W) (h3:W.natAbs<B):P.natAbs<B:=(Io 0x39ce5844b08754a2e80384003902001c9:) h h2 h3
theorem Dv {sd tn W P:Int} (h1:sd=1∨sd=-1) (h2:tn=1∨tn=-1) (hP:0<P) (hW:P≤W) {q l:Int} (hq:q=(sd*W).fdiv (tn*P)) (hl:l=(sd*W).fmod (tn*P)):
 q*(tn*P)+l=sd*W∧(0≤tn*l∧tn*l<tn*(tn*P))∧1≤sd*tn*q∧((sd*tn*q-1=0∧l=0)↔W=P)∧q.natAbs≤2*W.natAbs∧l.natAbs<P.natAbs:=by
 have e:q*(tn*P)+l=sd*W:=by
  rw[hq,hl,eh];exact Int.mul_fdiv_add_fmod _ _
 have b:0≤tn*l∧tn*l<P:=by
  rcases h2 with rfl|rfl
  ·rw[hl,cz,cz]
   exact⟨bE _ hP,cf _ hP⟩
  ·have:(sd*W).fmod (-1*P)=-((-(sd*W)).fmod P):=by
    rw[show-1*P=-P by exact(iG 28149795095598:),←Ii (sd*W),Int.neg_fmod_neg,Ii]
   rw[hl,this];have c1:=bE (-(sd*W)) hP;have c2:=cf (-(sd*W)) hP;exact(ly 0x1ce6ae98cd13085d58cd13085c075d28aa00e:) c1 c2
 have tt1:tn*(tn*P)=P:=Ac h2 P;have ss:∀x:Int,sd*(sd*x)=x:=Ac h1;have hl':l.natAbs<P.natAbs:=kH h2 l▸Tk b.1 b.2;have hr:-P<sd*l∧sd*l<P:=Tl hP ((kH h1 l).symm▸hl');have hh:sd*tn*q*P+sd*l=W:=by
  have:sd*(q*(tn*P)+l)=W:=by rw[e,ss]
  rw[eE]at this;rw[←this];congr 1;rw[show q*(tn*P)=tn*q*P by rw[←ck,eh q tn],ck sd,ck sd]
 refine Ud (G7 hP hW hh hr) fun c1 c2 c3=>?_;refine⟨e,by rw[tt1];exact b,c1,?_,?_,?_⟩
 ·rw[←c2]
  rw[←K5 (a:=sd*l),kH h1,K5]
 ·have:(sd*tn*q).natAbs=q.natAbs:=by rw[ck,kH h1,kH h2]
  exact(Io 0x739ca44820b85810eb14882e455010b84003922001c8:) c1 c3 this
 ·exact hl'
noncomputable def WF (pr:List Int) (i j:Int):Int:=((pr.drop i.toNat).take (j+1-i).toNat).sum
noncomputable def PL (due:List Int) (i q:Int):List Int:=(aE i q).map fun p=>due.getD p.toNat 0*due.getD q.toNat 0
noncomputable def PF (due:List Int) (i j:Int):Int:=((aE i (j+2)).flatMap (PL due i)).sum
structure uk (pr due:List Int) (pt:List (Int×Int)) (i j:Int):Prop where
 pos:0<PF due i j
 le:PF due i j≤WF pr i j
 sm:(WF pr i j).natAbs<2^3000
 mem:(i,j+1-i)∈pt↔WF pr i j=PF due i j
theorem rg {l:List Int} {f:Int→List Int}:l.flatMap (fun q=>(f q).map D.int)=(l.flatMap f).map D.int:=by
 rw[List.map_flatMap]
noncomputable def JN:Stmt:=f9 (mE (lst 29)) 0
theorem Fr {a b:Int×Int} (h:kX a=kX b):a=b:=by
 unfold kX at h;injection h with h;injection h with h1 h2;injection h2 with h2 h3;injection h1 with h1;injection h2 with h2;exact Prod.ext h1 h2
theorem in_pairs {pt:List (Int×Int)} {a b:Int}:ia .In (.tup [.int a,.int b]) (im pt)=some (decide ((a,b)∈pt)):=by
 show NE (.tup [.int a,.int b]) (pt.map kX)=_;refine LN rfl ?_ ?_
 ·show(pt.map kX).all (lx 59)=true
  refine bF.mpr fun d hd=>?_;obtain⟨p,_,rfl⟩:=bc.mp hd;rfl
 ·rw[decide_eq_true_iff]
  refine⟨fun h=>bc.mpr ⟨_,h,rfl⟩,fun h=>?_⟩;refine Ua (bc.mp h) fun p hp e=>?_;have:=Fr (a:=p) (b:=(a,b)) e;rw[←this];exact hp
theorem wR {l:List Int}:ox (ofString "sum") [iL l]=some (.int l.sum):=o7
theorem oX {x:Int} (h:x=1∨x=-1):sm x:=by rcases h with rfl|rfl<;>exact cL (by decide)
theorem SU {x y:Int} (h:x=1∨x=-1) (h':y=1∨y=-1):x*y=1∨x*y=-1:=by rcases h with rfl|rfl<;>rcases h' with rfl|rfl<;>decide
theorem JT {a b:Int} (ha:a.natAbs<2^3000) (hb:b.natAbs<2^3000) (h0:b≠0):P2 a b:=by
 have z:(2:Nat)^3000≤2^3800:=cM (by decide) (by decide);have z2:((2:Int)^3800)=((2^3800:Nat):Int):=by rw[i7];rfl
 unfold P2;rw[z2];generalize (2:Nat)^3800=B at z⊢;generalize (2:Nat)^3000=B' at z ha hb;exact⟨Qz (aP ha z),h0,Qz (aP hb z)⟩
theorem v6 {a b:Int} (h:0≤a∧a≤b∧b≤1000):iV [.int a,.int b]=some ((aE a b).map .int):=nY (by exact(ly 0x1cd6b55fa04e4d533fa04eafd02722a89fd0276b55fa04e4d528aa00e:) h)
theorem vf {a b:Int} {n:Nat} (h:b-a≤n):(aE a b).length≤n:=by rw[ci];exact(Io 0x1ca087590a094040074128:) h
theorem Am {X:Cx} {due:List Int} {i j:Int} (hdl:due.length=5) (hdb:∀p:Nat,(due.getD p 0).natAbs<2^1500) (hij:0≤i∧i≤j∧j<4) (k:Nat):
 gQ (k+5) X lS ((ofString "i",.dat (.int i))::(ofString "j",.dat (.int j))::[(ofString "due",.dat (iL due))]) (wO (wO (vE (f9 (mE JN) 1)) 1) 1) (.list (((aE i (j+2)).flatMap (PL due i)).map D.int)):=by
 have hq:=fun q (hq:q∈aE i (j+2))=>mem_irange.mp hq;have it:=fun(q:Int) (h0:0≤q) (h:q<5)=>hO (l:=due) h0 (by rw[hdl];exact Mine.tn_lt ⟨h0,h⟩ (by decide)) (by rw[hdl];decide);exact Hf (n:=k+4) (l:=aE i (j+2)) (g:=D.int) (l2:=fun q=>aE i q) (g2':=D.int) (h:=fun q p=>D.int (due.getD p.toNat 0*due.getD q.toNat 0)) (by kernel_rfl)
  (fQ (qa (v6 (show 0≤i∧i≤j+2∧j+2≤1000 by exact(ly 0x39ad57e8139e20b9357882e4a2a803b5ab902e4d528aa00e:) hij)) .nil) (by kernel_rfl))
  (fun q h=>fQ (qa (v6 (show 0≤i∧i≤q∧q≤1000 by have:=hq q h;exact(ud 0x39cd6abf409caaa915401dabbc41725555235ab902e4d528aa00e:) hij this)) .nil) (by kernel_rfl))
  (fun q h p h2=>by
   have b:=hq q h;have c:=mem_irange.mp h2;exact fR (qi (it p (aB hij.1 c.1) (by exact(uE 0xe7397285cbd5d4baad1abbc41725555235ab902e4d528aa00e:) hij b c)) (qi (it q (aB hij.1 b.1) (by exact(ud 0xe72e50b95abbc41725555235ab902e4d528aa00e:) hij b)) (qb (dz ⟨jC (hdb p.toNat) (by decide),jC (hdb q.toNat) (by decide)⟩) .nil))) (by kernel_rfl))
  (by rw[←rg,show(fun q=>(PL due i q).map D.int)=fun q=>(aE i q).map fun p=>D.int (due.getD p.toNat 0*due.getD q.toNat 0)from funext fun q=>by unfold PL;rw[be];rfl])
  (by rw[ag];exact ae (jW (n:=10) fun q h=>by unfold PL;rw[ag];exact vf (by have:=hq q h;exact(ud 0x73959282e8215abbc41725555235ab902e4d528aa00e:) hij this)) (kt 10 (vf (n:=100000) (by exact(ly 0x39590c35011d043c417275ab902e4d528aa00e:) hij))))
section
variable {ws:List (List Nat)} {runs:List (List Int)} {ns:List Int}
theorem Fs {cols:List Int} {wi:Nat} {pr due:List Int} (hprl:pr.length=4) (hdl:due.length=5) (hdb:∀p:Nat,(due.getD p 0).natAbs<2^1500) {pt:List (Int×Int)} {sd tn:Int} (h1:sd=1∨sd=-1) (h2:tn=1∨tn=-1) {i j:Int} (hij:0≤i∧i≤j∧j<4) (ok:uk pr due pt i j)
 :lm 10 (Xw ws runs ns) lS ((fX JN,.dat (.int j))::(fX (lst 29),.dat (.int i))::[(ofString "turn",.dat (.int tn)),(ofString "side",.dat (.int sd)),(ofString "parts",.dat (im pt)),(ofString "products",.dat (iL pr)),(ofString "due",.dat (iL due)),(ofString "columns",.dat (iL cols)),(ofString "width",.dat (.int (wi:Nat))),(ofString "numbers",.dat (iL ns))]) (uu JN) (.next,(fX (lst 29),.dat (.int i))::[(ofString "turn",.dat (.int tn)),(ofString "side",.dat (.int sd)),(ofString "parts",.dat (im pt)),(ofString "products",.dat (iL pr)),(ofString "due",.dat (iL due)),(ofString "columns",.dat (iL cols)),(ofString "width",.dat (.int (wi:Nat))),(ofString "numbers",.dat (iL ns))]):=by
 obtain⟨M9,PC,ok3,ok4⟩:=ok;have hsum:ox (ofString "sum") [iL ((pr.drop i.toNat).take (j+1-i).toNat)]=some (.int (WF pr i j)):=wR;have hsum2:ox (ofString "sum") [.list (((aE i (j+2)).flatMap (PL due i)).map D.int)]=some (.int (PF due i j)):=o7;generalize WF pr i j=W at PC ok3 ok4 hsum;generalize PF due i j=P at M9 PC ok4 hsum2;have p3:P.natAbs<2^3000:=Tj M9 PC ok3;have d:=Dv h1 h2 M9 PC rfl rfl;have m1:eS .Mult (.int sd) (.int W)=some (.int (sd*W)):=dz ⟨oX h1,jC ok3 (by decide)⟩;have m2:eS .Mult (.int tn) (.int P)=some (.int (tn*P)):=dz ⟨oX h2,jC p3 (by decide)⟩;have hdm:=Ms (ws:=ws) (runs:=runs) (ns:=ns) (JT ((kH h1 W).symm▸ok3) ((kH h2 P).symm▸p3) (show tn*P≠0 from fun e=>absurd (Ac h2 P) (by rw[e,lu];exact Int.ne_of_lt M9)));have q3001:((sd*W).fdiv (tn*P)).natAbs<2^3001:=by rw[DO,eW];exact ca d.2.2.2.2.1 (Nat.mul_lt_mul_of_pos_left ok3 (by decide))
 have l3000:((sd*W).fmod (tn*P)).natAbs<2^3000:=ix d.2.2.2.2.2 p3;have spa:sm (tn*P):=jC ((kH h2 P).symm▸p3) (by decide);generalize (sd*W).fdiv (tn*P)=q at d hdm q3001;generalize (sd*W).fmod (tn*P)=lf at d hdm l3000;generalize sd*W=wh at d hdm m1;generalize tn*P=pa at d hdm m2 spa;have m3:eS .Mult (.int q) (.int pa)=some (.int (q*pa)):=dz ⟨jC q3001 (by decide),spa⟩;have m4:eS .Mult (.int tn) (.int lf)=some (.int (tn*lf)):=dz ⟨oX h2,jC l3000 (by decide)⟩;have m5:eS .Mult (.int tn) (.int pa)=some (.int (tn*pa)):=dz ⟨oX h2,spa⟩;have m6:eS .Mult (.int sd) (.int tn)=some (.int (sd*tn)):=dz ⟨oX h1,oX h2⟩;have m7:eS .Mult (.int (sd*tn)) (.int q)=some (.int (sd*tn*q)):=dz ⟨oX (SU h1 h2),jC q3001 (by decide)⟩;refine UH d fun d1 d2 d3 d4 _=>?_;generalize sd*tn*q=tm at d3 d4 m7;have hsl:gt (iL pr) (some i) (some (j+1)) none=some (iL ((pr.drop i.toNat).take (j+1-i).toNat)):=by
  unfold iL;rw[mo (by rw[ag,hprl];decide)];have:=qk (l:=pr.map D.int) (p:=i.toNat) (s:=(j+1-i).toNat) (by rw[ag];exact(Io 0x1ce5043d6ae40b9354a2a803b040b841001c8:) hprl hij);rw[show((i.toNat:Nat):Int)=i from bG hij.1,show i+((j+1-i).toNat:Int)=j+1 by exact(ly 0xe65e10b92f9091ad5c81726a945500704007410f085c9:) hij]at this;rw[this,←zR,←zQ]
 have hin:ia .In (.tup [.int i,.int (j+1-i)]) (im pt)=some (decide (W=P)):=in_pairs.trans (congrArg some (decide_eq_decide.mpr ok4));have w1:(!(q*pa+lf==wh))=false:=by rw[d1,beq_self_eq_true];rfl
 have w2:(!(decide (0≤tn*lf)&&decide (tn*lf<tn*pa)))=false:=by rw[decide_eq_true d2.1,decide_eq_true d2.2];rfl
 have w3:(!(decide (255+tm≥256)==true))=false:=by rw[decide_eq_true (by exact(iG 0x1cabd07f89c8009d54042e:) d3)];rfl
 have w4:(!(decide (254+tm≥256)==decide (tm>1)))=false:=by
  rw[show decide (254+tm≥256)=decide (tm>1)from decide_eq_decide.mpr (by exact(iG 0x1dba021755e83f84e4004e:)),beq_self_eq_true];rfl
 have w5:(!(((tm-1==0)==true&&(lf==0)==true)==decide (W=P)))=false:=by
  rw[show((tm-1==0)==true&&(lf==0)==true)=decide (W=P)from oJ.mpr (by rw[decide_eq_true_iff,←d4,ao,beq_iff_eq,beq_iff_eq,beq_iff_eq,beq_iff_eq]),beq_self_eq_true];rfl
 exact fC (n:=10)
  (qs hsl (qf hsum (qb m1 (qe (Am hdl hdb hij) (qf hsum2 (qb m2 (qg hdm (qb m3 (qw w1 (qb m4 (qb m5 (qw w2 (qb m6 (qb m7 (qg (A8 (x:=255+tm)) (qw w3 (qg (A8 (x:=254+tm)) (qw w4 (qg (xx (x:=tm-1)) (qg (xx (x:=lf)) (qc hin (qw w5 .nil)))))))))))))))))))))) (by kernel_rfl)
end
theorem I6 {q:Int} (h:0≤q∧q≤1000):iV [.int q]=some ((aE 0 q).map .int):=by
 have:=qS (b:=q.toNat) (by(exact Mine.tn_le h (by decide)));rwa[bG h.1]at this
noncomputable def AL (ns:List Int) (q:Int):List Int:=(aE 0 q).map fun p=>ns.getD p.toNat 0*ns.getD q.toNat 0
noncomputable def AF (ns:List Int):Int:=((aE 0 5).flatMap (AL ns)).sum
noncomputable def BL (ns cols:List Int) (q:Int):List Int:=((aE 0 5).filter fun p=>decide (p≠q)).map fun p=>ns.getD p.toNat 0*cols.getD q.toNat 0
noncomputable def BF (ns cols:List Int):Int:=((aE 0 5).flatMap (BL ns cols)).sum
theorem HF {xs:List Int}:(((aE 0 5).flatMap (AL xs)).map D.int).length≤1000000:=by
 rw[ag];refine ae (jW (n:=10) fun q hq=>?_) (by rw[ci];decide);have:=mem_irange.mp hq;unfold AL;rw[ag,ci];exact(iG 0xe514170b57285c8aa00e0800e801c8:) this
theorem L9 {xs:List Int}:((aE 0 5).flatMap fun q=>(aE 0 q).map fun p=>D.int (xs.getD p.toNat 0*xs.getD q.toNat 0))=((aE 0 5).flatMap (AL xs)).map D.int:=by
 rw[←rg,show(fun q=>(AL xs q).map D.int)=fun q=>(aE 0 q).map fun p=>D.int (xs.getD p.toNat 0*xs.getD q.toNat 0)from funext fun q=>by unfold AL;rw[be];rfl]
theorem T7 {q:Int} (h:q∈aE 0 5):iV [.int q]=some ((aE 0 q).map .int):=I6 (by have:=mem_irange.mp h;exact(iG 0x39aafd02722a803b57285c8aa00e:) this)
theorem PE {xs:List Int} (hl:xs.length=5) {q:Int} (h:q∈aE 0 5):ef (iL xs) (.int q)=some (.int (xs.getD q.toNat 0)):=have h:=mem_irange.mp h;hO h.1 (by rw[hl];exact Mine.tn_lt h (by decide)) (by rw[hl];decide)
theorem LM {q p:Int} (h:q∈aE 0 5) (h2:p∈aE 0 q):p∈aE 0 5:=mem_irange.mpr ⟨(mem_irange.mp h2).1,iz (mem_irange.mp h2).2 (mem_irange.mp h).2⟩
theorem FK {xs:List Int} (hb:∀p:Nat,0≤xs.getD p 0∧xs.getD p 0≤100) (p q:Nat):eS .Mult (.int (xs.getD p 0)) (.int (xs.getD q 0))=some (.int (xs.getD p 0*xs.getD q 0)):=
 have s:=fun p=>cL ⟨aB (by decide) (hb p).1,aB (hb p).2 (by decide)⟩;dz ⟨s p,s q⟩
section
variable {ws:List (List Nat)} {runs:List (List Int)} {ns:List Int}
theorem SW {cols:List Int} {wi:Nat} {pr due:List Int} (hprl:pr.length=4) (hdl:due.length=5) (hdb:∀p:Nat,(due.getD p 0).natAbs<2^1500) {pt:List (Int×Int)} {sd tn:Int} (h1:sd=1∨sd=-1) (h2:tn=1∨tn=-1) (ok:∀i j:Int,0≤i∧i≤j∧j<4→uk pr due pt i j)
 (hnl:ns.length=5) (hnb:∀p:Nat,0≤ns.getD p 0∧ns.getD p 0≤100) {M:MM} (hM:Has M [(ofString "turn",.dat (.int tn)),(ofString "side",.dat (.int sd)),(ofString "parts",.dat (im pt)),(ofString "products",.dat (iL pr)),(ofString "due",.dat (iL due)),(ofString "columns",.dat (iL cols)),(ofString "width",.dat (.int (wi:Nat))),(ofString "numbers",.dat (iL ns))]):
 Runs (Xw ws runs ns) [lst 29,lst 30] M ((ofString "figures",.own [.int (AF ns)])::[(ofString "turn",.dat (.int tn)),(ofString "side",.dat (.int sd)),(ofString "parts",.dat (im pt)),(ofString "products",.dat (iL pr)),(ofString "due",.dat (iL due)),(ofString "columns",.dat (iL cols)),(ofString "width",.dat (.int (wi:Nat))),(ofString "numbers",.dat (iL ns))]):=by
 have hF:jx 12 (Xw ws runs ns) lS [(ofString "turn",.dat (.int tn)),(ofString "side",.dat (.int sd)),(ofString "parts",.dat (im pt)),(ofString "products",.dat (iL pr)),(ofString "due",.dat (iL due)),(ofString "columns",.dat (iL cols)),(ofString "width",.dat (.int (wi:Nat))),(ofString "numbers",.dat (iL ns))] (lst 29) (.next,[(ofString "turn",.dat (.int tn)),(ofString "side",.dat (.int sd)),(ofString "parts",.dat (im pt)),(ofString "products",.dat (iL pr)),(ofString "due",.dat (iL due)),(ofString "columns",.dat (iL cols)),(ofString "width",.dat (.int (wi:Nat))),(ofString "numbers",.dat (iL ns))]):=wv (n:=11) (l:=aE 0 4) (g:=D.int) (by kernel_rfl) (fQ (qa Bl .nil) (by kernel_rfl)) fun i hi=>by
  have hi:=mem_irange.mp hi;exact fC (n:=11) (qx (wv (n:=10) (st:=JN) (L:=(fX (lst 29),.dat (.int i))::[(ofString "turn",.dat (.int tn)),(ofString "side",.dat (.int sd)),(ofString "parts",.dat (im pt)),(ofString "products",.dat (iL pr)),(ofString "due",.dat (iL due)),(ofString "columns",.dat (iL cols)),(ofString "width",.dat (.int (wi:Nat))),(ofString "numbers",.dat (iL ns))]) (l:=aE i 4) (g:=D.int) (by kernel_rfl) (fQ (qa (v6 (show 0≤i∧i≤4∧(4:Int)≤1000 by exact(iG 0x39ad57e81388175481722a803b57205c8aa00e:) hi)) .nil) (by kernel_rfl)) fun j hj=>
   have hj:=mem_irange.mp hj;Fs hprl hdl hdb h1 h2 ⟨hi.1,hj⟩ (ok i j ⟨hi.1,hj⟩)) .nil) (by kernel_rfl)
 have c1:∀z,gQ (z+6) (Xw ws runs ns) lS [(ofString "numbers",.dat (iL ns))] (wO (wO (vE (lst 30)) 0) 1) (.list (((aE 0 5).flatMap (AL ns)).map D.int)):=fun z=>Hf (n:=z+5) (l:=aE 0 5) (g:=D.int) (l2:=fun q=>aE 0 q) (g2':=D.int) (h:=fun q p=>D.int (ns.getD p.toNat 0*ns.getD q.toNat 0)) (by kernel_rfl) (fQ (qa jN .nil) (by kernel_rfl))
  (fun q h=>fQ (qa (T7 h) .nil) (by kernel_rfl)) (fun q h p h2=>fR (qi (PE hnl (LM h h2)) (qi (PE hnl h) (qb (FK hnb p.toNat q.toNat) .nil))) (by kernel_rfl)) L9 HF;exact fC (n:=12) (qx hF (qe c1 (qf (o7 (l:=(aE 0 5).flatMap (AL ns))) .nil))) (by kernel_rfl) _ hM
theorem SV {cols:List Int} {wi:Nat} (hwb:16≤wi∧wi≤715) {pr due:List Int} {pt:List (Int×Int)} {sd tn A B Z:Int} (hcl:cols.length=5) (hcb:∀p:Nat,0≤cols.getD p 0∧cols.getD p 0≤100) (hZ:Z=AF cols) (hs:0≤pr.sum) (hs2:pr.sum.natAbs<2^3000) (hd1:io pr.sum wi=[A,B,Z])
 (hs3:0≤2^(3*wi)-1-pr.sum) (hd2:io (2^(3*wi)-1-pr.sum) wi=[2^wi-1-A,2^wi-1-B,2^wi-1-Z])
 {M:MM} (hM:Has M ((ofString "figures",.own [.int A,.int B])::[(ofString "turn",.dat (.int tn)),(ofString "side",.dat (.int sd)),(ofString "parts",.dat (im pt)),(ofString "products",.dat (iL pr)),(ofString "due",.dat (iL due)),(ofString "columns",.dat (iL cols)),(ofString "width",.dat (.int (wi:Nat))),(ofString "numbers",.dat (iL ns))])):
 ∃M',c7 (ex 12 (Xw ws runs ns) lS) [lst 32,lst 33,lst 34,lst 35] M=some (.ret (.bool true),M'):=by
 have c1:∀z,gQ (z+6) (Xw ws runs ns) lS [(ofString "columns",.dat (iL cols))] (wO (wO (vE (lst 32)) 1) 1) (.list (((aE 0 5).flatMap (AL cols)).map D.int)):=fun z=>Hf (n:=z+5) (l:=aE 0 5) (g:=D.int) (l2:=fun q=>aE 0 q) (g2':=D.int) (h:=fun q p=>D.int (cols.getD p.toNat 0*cols.getD q.toNat 0)) (by kernel_rfl) (fQ (qa jN .nil) (by kernel_rfl))
  (fun q h=>fQ (qa (T7 h) .nil) (by kernel_rfl)) (fun q h p h2=>fR (qi (PE hcl (LM h h2)) (qi (PE hcl h) (qb (FK hcb p.toNat q.toNat) .nil))) (by kernel_rfl)) L9 HF;have hz:ox (ofString "sum") [.list (((aE 0 5).flatMap (AL cols)).map D.int)]=some (.int Z):=hZ▸o7;have w1:1≤wi:=ph hwb.1;have w8:wi≤8000:=ae hwb.2 (by decide);have hi:=zW (ws:=ws) (runs:=runs) (ns:=ns) (a:=pr.sum) (n:=wi) hs (jC hs2 (by decide)) w1 w8;rw[hd1]at hi;have sp:sm (2^(3*wi)-1-pr.sum):=by
  refine jC (m:=3*wi) ?_ (by exact(fN 0xe50fa00dd110c2ed52cb138541402e:) hwb);rw[dv hs3];exact(ly 0x3974c110085c9aa00e:) hs
 have hi2:=zW (ws:=ws) (runs:=runs) (ns:=ns) (a:=2^(3*wi)-1-pr.sum) (n:=wi) hs3 sp w1 w8;rw[hd2]at hi2;have hm:eS .Mult (.int 3) (.int (wi:Int))=some (.int ((3*wi:Nat):Int)):=by
  rw[dz ⟨cL (by(decide)),cL (by exact(fN 0x1cd57a3529440010e90ab214fa3529440010ed52cb138541402e:) hwb)⟩];congr 2
 obtain⟨M3,e3,k3⟩:=fC (n:=12) (X:=Xw ws runs ns) (sc:=lS) (ss:=[lst 32,lst 33,lst 34]) (fl:=.next) (L':=(ofString "lacks",.dat (iL [2^wi-1-A,2^wi-1-B,2^wi-1-Z]))::(ofString "figures",.own [.int A,.int B,.int Z])::[(ofString "width",.dat (.int (wi:Nat)))])
  (qe c1 (qf hz (qp (show[D.int A,.int B].length≤1000000 from(by decide:2≤1000000)) (qf (wR (l:=pr)) (qg hi (qc (FD (a:=[A,B,Z]) rfl) (qF (qb hm (qb (t8 (show 3*wi≤10000 by exact(fN 0xe513880dd110c2ed52cb138541402e:) hwb)) (qf (wR (l:=pr)) (qg hi2 .nil))))))))))) (by kernel_rfl) _ hM;have he:ia .Eq (iL [2^wi-1-A,2^wi-1-B,2^wi-1-Z]) (iL [2^wi-1-A,2^wi-1-B,2^wi-1-Z])=some true:=by
  have:=BO (a:=[2^wi-1-A,2^wi-1-B,2^wi-1-Z]) (b:=[2^wi-1-A,2^wi-1-B,2^wi-1-Z]);rw[decide_eq_true rfl]at this;exact this
 have hit:iZ (iL [A,B,Z])=some [.int A,.int B,.int Z]:=fU (show[D.int A,.int B,.int Z].length≤1000000 from(by decide:3≤1000000));have c4:∀z,gQ (z+6) (Xw ws runs ns) lS ((ofString "figures",.dat (iL [A,B,Z]))::[(ofString "width",.dat (.int (wi:Nat)))]) (wO (vE (lst 35)) 1) (iL [2^wi-1-A,2^wi-1-B,2^wi-1-Z]):=fun z=>kq (n:=z+5) (l:=[A,B,Z]) (g:=D.int) (h:=fun f=>D.int (2^wi-1-f)) (by kernel_rfl) (fQ (qj hit .nil) (by kernel_rfl))
  (fun f _=>fR (qb (t8 (show wi≤10000 by(exact ae hwb.2 (by decide)))) .nil) (by kernel_rfl)) (show[A,B,Z].length≤1000000 from(by decide:3≤1000000)) rfl;refine⟨frz M3,sQ e3 (j8 ?_)⟩;have l2:=k3 (ofString "figures") (.own [.int A,.int B,.int Z]) (by kernel_rfl);conv=>lhs;arg 5;whnf
 refine AM (Ka ((tW (by kernel_rfl)).trans (o6 ((qR (by kernel_rfl)).trans ((tZ (by kernel_rfl) (by kernel_rfl)).trans ?_)))) ?_)
 ·rw[vn (by kernel_rfl),p8,lQ (by kernel_rfl),l2];rfl
 ·exact fR (n:=12) (qe c4 (qc he .nil)) (by kernel_rfl) _ k3.frz
end
noncomputable def Sw:Expr:=(ju (jM (lst 31)).e).a.getD 1 BR
noncomputable def KA:Expr:=(ju Sw).a.getD 1 BR
noncomputable def G5:Expr:=(ju KA).e
noncomputable def Tv:Expr:=((ju KA).g.map (·.iter)).getD 0 BR
noncomputable def NI:Expr:=((ju KA).g.map (·.iter)).getD 1 BR
noncomputable def SO:Expr:=((ju KA).g.flatMap (·.ifs)).getD 0 BR
noncomputable def sc31:Scope:=(ju KA).s
theorem Nw:lst 31=.Expr (.Call (.Attribute (.Name (ofString "figures") ⟨364,4,364,11⟩) (ofString "append") ⟨364,4,364,18⟩) [Sw] [] ⟨364,4,364,96⟩) ⟨364,4,364,96⟩:=by kernel_rfl
theorem MK:Sw=.Call (.Name (ofString "sum") ⟨364,19,364,22⟩) [KA] [] ⟨364,19,364,95⟩:=by kernel_rfl
theorem OO:KA=.ListComp G5 [⟨.Name (ofString "q") ⟨364,52,364,53⟩,Tv,[],0⟩,⟨.Name (ofString "p") ⟨364,70,364,71⟩,NI,[SO],0⟩] sc31 ⟨364,23,364,94⟩:=by kernel_rfl
noncomputable abbrev qU:NS:=cW lS sc31.names
theorem Og {ns cols:List Int} (hnl:ns.length=5) (hcl:cols.length=5) (hnb:∀p:Nat,0≤ns.getD p 0∧ns.getD p 0≤100) (hcb:∀p:Nat,0≤cols.getD p 0∧cols.getD p 0≤100) {M:MM} (l1:M.lookup (ofString "numbers")=some (.dat (iL ns))) (l2:M.lookup (ofString "columns")=some (.dat (iL cols))):
 fw (Rh (fun M'=>ev 12 X0 qU M') (fun M'=>mT 12 X0 qU M') (fun M'=>zM 12 X0 qU M') (capt qU M) (ofString "q") (ofString "p") G5 [SO] NI) ((aE 0 5).map .int)=some (((aE 0 5).flatMap (BL ns cols)).map .int):=by
 rw[←rg];refine o1 fun q hq=>?_;have hq':=mem_irange.mp hq;unfold Rh;have e1:∀M',zM 12 X0 qU M' NI=some ((aE 0 5).map .int):=fun M'=>fQ (X:=X0) (sc:=qU) (L:=[]) (qa jN .nil) (by kernel_rfl) M' fun _ _ q=>nomatch q;dsimp only;rw[e1,bp,p6 (P:=fun p=>decide (p≠q)) (h:=fun p=>D.int (ns.getD p.toNat 0*cols.getD q.toNat 0))]
 ·unfold BL;rw[be];rfl
 ·intro p hp
  have H:=fun(M:MM) (h:Has M [(ofString "numbers",.dat (iL ns)),(ofString "columns",.dat (iL cols))])=>((h.capt (sc:=qU)).set (x:=ofString "q") (e:=.dat (.int q))).set (x:=ofString "p") (e:=.dat (.int p));have H:=H M (Has.self.pick (uT l1 (uT l2 Fk)));have hm:eS .Mult (.int (ns.getD p.toNat 0)) (.int (cols.getD q.toNat 0))=some (.int (ns.getD p.toNat 0*cols.getD q.toNat 0)):=dz ⟨cL ⟨aB (by decide) (hnb _).1,aB (hnb _).2 (by decide)⟩,cL ⟨aB (by decide) (hcb _).1,aB (hcb _).2 (by decide)⟩⟩;rw[NR (b:=decide (p≠q))]
  ·split
   ·exact vx (fR (X:=X0) (sc:=qU) (n:=12) (x:=G5) (d:=.int (ns.getD p.toNat 0*cols.getD q.toNat 0)) (qi (PE hnl hp) (qi (PE hcl hq) (qb hm .nil))) (by kernel_rfl) _ H) rfl
   ·rfl
  ·exact(nk (X:=X0) (sc:=qU) (n:=12) (x:=SO) (d:=!(p==q)) .nil (by kernel_rfl) _ H).trans (congrArg some (oJ.mpr (by rw[gT,beq_eq_false_iff_ne,decide_eq_true_iff])))
section
variable {C:aU} {A:Around} {s:Shared} {ah:Addr→Prop} {env:Env} {k:Nat}
theorem IK {ns cols:List Int} (hnl:ns.length=5) (hcl:cols.length=5) (hnb:∀p:Nat,0≤ns.getD p 0∧ns.getD p 0≤100) (hcb:∀p:Nat,0≤cols.getD p 0∧cols.getD p 0≤100) (hA:RA A (k+1)) (esc:env.scope=aF (a7 81)) {μ:List Addr} {m:Str→Option Value} {M:MM} (F:FI ah μ s.heap env m M) (Ss:St C s)
 (fr:∀a∈μ,C.G.get? a=none) {l:List D} (hl:l.length≤1000) (l0:M.lookup (ofString "figures")=some (.own l)) (l1:M.lookup (ofString "numbers")=some (.dat (iL ns))) (l2:M.lookup (ofString "columns")=some (.dat (iL cols))):
 wpAny (MD C) A (exec (lst 31) env) (XF C ah μ env s .next (M.set (ofString "figures") (.own (l++[.int (BF ns cols)])))) bL s:=by
 rw[Nw];refine Hz (f:=fun M e=>open Classical in if e=Sw∧M.lookup (ofString "numbers")=some (.dat (iL ns))∧M.lookup (ofString "columns")=some (.dat (iL cols))then some (.int (BF ns cols))else none) (ah:=ah) (fun μ m M e d s he F Ss=>?_) rfl rfl M _ _ m μ s ?_ fr F Ss
 ·dsimp only at he
  split at he
  ·rename_i q
   obtain⟨rfl,l1,l2⟩:=q;cases he;have hsc:∀Cc,(da sc31 Cc env).scope.names=qU:=fun Cc=>by
    show(relabel sc31 env).names=_;rw[jh F.kind,esc]
   have hc:jJ env.scope.names sc31:=by rw[esc];exact ov (by kernel_rfl)
   have hcomp:HE C A ah μ env m M (fun e=>open Classical in if e=KA then some (.list (((aE 0 5).flatMap (BL ns cols)).map .int))else none):=fun e d s he F Ss=>by
    dsimp only at he;split at he
    ·rename_i q
     subst q;cases he;rw[OO];have hfl:=Og hnl hcl hnb hcb l1 l2;refine yY (k:=k+1) (ds:=(aE 0 5).map .int) (fE:=fun M'=>ev 12 X0 qU M') (fT:=fun M'=>mT 12 X0 qU M') (fI:=fun M'=>zM 12 X0 qU M') (f0:=zM 12 X0 env.scope.names M) hA ?_ (by kernel_rfl) (by kernel_rfl) hc (by kernel_rfl) (by kernel_rfl) (by decide+kernel) F Ss ((fu (d8 (k:=k+1)) 12).2.2 hA) ?_ (fun ν Cc m M'=>?_) (fun ν Cc m M'=>?_) (fun ν Cc m M'=>?_) (by rw[esc];exact hfl) ?_
     ·exact hA.mark
     ·rw[esc]
      exact fQ (L:=[]) (qa jN .nil) (by kernel_rfl) M fun _ _ q=>nomatch q
     ·have:=(fu (C:=C) (d8 (k:=k+1)) 12).1 (ah:=ah) (μ:=ν) (env:=da sc31 Cc env) (m:=m) (M:=M') hA
      rw[hsc]at this;exact this
     ·have:=(fu (C:=C) (d8 (k:=k+1)) 12).2.1 (ah:=ah) (μ:=ν) (env:=da sc31 Cc env) (m:=m) (M:=M') hA
      rw[hsc]at this;exact this
     ·have:=(fu (C:=C) (d8 (k:=k+1)) 12).2.2 (ah:=ah) (μ:=ν) (env:=da sc31 Cc env) (m:=m) (M:=M') hA
      rw[hsc]at this;exact this
     ·rw[ag]
      refine ae (jW (n:=10) fun q hq=>?_) ?_
      ·unfold BL
       rw[ag];exact ae (jI ..) (by rw[ci];decide)
      ·rw[ci];decide
    ·cases he
   rw[MK];have hR:HR C A ah μ env m M (fun e=>open Classical in if e=KA then some (.list (((aE 0 5).flatMap (BL ns cols)).map .int))else none):=fun e d s he F Ss=>aa (hcomp e d s he F Ss) (fun v s' q=>⟨q.1,q.2.1,q.2.2.toR F.tabm⟩) fun _ _ x=>x;refine BX hR hA (by kernel_rfl) (by rw[esc];kernel_rfl) (by kernel_rfl) F Ss (as:=[.list (((aE 0 5).flatMap (BL ns cols)).map .int)]) ?_ o7;rw[oh,FM,if_pos rfl];rfl
  ·cases he
 ·unfold HA
  rw[lP (by rw[esc];kernel_rfl) l0,bp];dsimp only;rw[if_pos ⟨rfl,l1,l2⟩,bp,if_pos (by(exact ae hl (by decide)))]
end
theorem QP:lst 0=.Assign [.Name (ofString "cells") ⟨311,4,311,9⟩] cE ⟨311,4,311,94⟩:=by kernel_rfl
section
variable {C:aU} {A:Around} {s:Shared} {ah:Addr→Prop} {μ:List Addr} {env:Env} {m:Str→Option Value} {M:MM} {k:Nat}
theorem MF (hA:RA A (k+1)) (esc:env.scope=aF (a7 81)) (hf:env.func.isSome=true) (hsw:swapsWith cE (some (.Name (ofString "cells") ⟨311,4,311,9⟩)) 311 env=pure true) (F:FI ah μ s.heap env m M) (S:St C s) (fr:∀a∈μ,C.G.get? a=none) {xs:List Int} (hxl:xs.length≤63) (hM:M.lookup (ofString "script")=some (.dat (iL xs))):
 wpAny (MD C) A (exec (lst 0) env) (fun fl s'=>fl=.next∧∃cs:List Int,cs.length=5∧XS C ah μ env s (M.set (ofString "cells") (.dat (iL cs))) s') bL s:=by
 rw[QP,LX (hs:=hsw)];refine aq (bM (aq ?_));rw[RS];show wpAny (MD C) A (do let _←comprehension (.ListComp AV [⟨uA ⟨311,42,311,49⟩ ⟨311,42,311,43⟩ ⟨311,45,311,49⟩,.Call (.Name (ofString "enumerate") ⟨311,53,311,62⟩) [uC] [] ⟨311,53,311,93⟩,[],0⟩] cScope ⟨311,12,311,94⟩) cScope env (firstIterPos [⟨uA ⟨311,42,311,49⟩ ⟨311,42,311,43⟩ ⟨311,45,311,49⟩,.Call (.Name (ofString "enumerate") ⟨311,53,311,62⟩) [uC] [] ⟨311,53,311,93⟩,[],0⟩] ⟨311,12,311,94⟩) (newList []) (firstAsync [⟨uA ⟨311,42,311,49⟩ ⟨311,42,311,43⟩ ⟨311,45,311,49⟩,.Call (.Name (ofString "enumerate") ⟨311,53,311,62⟩) [uC] [] ⟨311,53,311,93⟩,[],0⟩]) (firstIter [⟨uA ⟨311,42,311,49⟩ ⟨311,42,311,43⟩ ⟨311,45,311,49⟩,.Call (.Name (ofString "enumerate") ⟨311,53,311,62⟩) [uC] [] ⟨311,53,311,93⟩,[],0⟩] env) (some (assign (.Name (ofString "cells") ⟨311,4,311,9⟩) env))) _ bL s;refine aq (aa (Q:=fun _ s'=>∃cs:List Int,cs.length=5∧XS C ah μ env s (M.set (ofString "cells") (.dat (iL cs))) s') ?_ (fun _ aV x=>aI (aI ⟨rfl,x⟩)) fun _ _ x=>x);refine Dm hA esc F S hxl hM fun cs D' Cc az hcs hD hC hDC ⟨mC,hn⟩ bN bu ⟨ys,hl,hr⟩=>?_;have hx:bP env.scope.names (ofString "cells")=true:=by rw[esc];kernel_rfl
 have hlC:∃o,az.heap.get? Cc=some o:=by refine Uk hn fun o _ _ e _=>?_;exact⟨o,e⟩
 have dG:=F.minus bN hC hlC;have pC:ah Cc:=F.live.none S hC;have pD:ah D':=F.live.none S hD;have nμ:∀a,s.heap.get? a=none→a∉μ:=fun a e q=>by refine Uh (F.liveμ a q) fun _ _ o e'=>?_;rw[e]at e';cases e'
 have hv:Rep (Pm (xp ah Cc) μ) az.heap (.list (cs.map .int)) (.ref D'):=⟨D',ys,rfl,⟨⟨pD,hDC⟩,nμ _ hD⟩,hl,re hr⟩;show wpAny (MD C) A (assign (.Name (ofString "cells") ⟨311,4,311,9⟩) env (.ref D')) (fun _ s''=>∃m,s''.heap.Ns Cc m∧∀h',du Cc s''.heap h'→∃cs:List Int,cs.length=5∧XS C ah μ env s (M.set (ofString "cells") (.dat (iL cs))) {s'' with heap:=h'}) bL az;refine bT (aa (iU fr dG bu hf hx hv) (fun _ aV jr=>?_) fun _ _ x=>x);have n65:Cc≠65:=fun z=>S.live65 (z▸hC);have n72:Cc≠72:=fun z=>S.live72 (z▸hC);have yw:aV.heap.Ns Cc mC:=hn.at' fun o e=>jr.k _ o n65 n72 (nμ _ hC) e;refine⟨mC,yw,fun h' hs=>⟨cs,hcs,?_⟩⟩;have hs':∀b o,b≠Cc→aV.heap.get? b=some o→h'.get? b=some o:=fun b o q e=>(hs.2 b q).trans e;refine Uo yw fun oC es ep eC dC _=>?_;refine Uc jr.ex fun m' μ' F' h1 h2=>?_;have hCG:C.G.get? Cc=none:=by
  cases z:C.G.get? Cc with
  |none=>rfl
  |some o=>rw[S.g Cc o z]at hC;cases hC
 have hCμ':Cc∉μ':=fun q=>by
  rcases h1 Cc q with z|z
  ·exact nμ _ hC z
  ·obtain⟨o,e⟩:=hlC;rw[z]at e;cases e
 have hcell:∀y c,env.kindOf y=some .cell∨env.kindOf y=some .free→env.cells.lookup y=some c→c≠Cc:=fun y c q e z=>by
  refine Up (F.cell y q) fun c' v e1 _ _ o e2 _=>?_;rw[e]at e1;cases e1;rw[z,hC]at e2;cases e2
 refine⟨⟨m',μ',F'.off hCμ' hcell hs' (.inl pC) ah (.inr ⟨rfl,pC,F.tab⟩),fun a q=>?_,h2⟩,jr.S.but eC (fun vs q t z=>by rw[dC]at z;cases z) hCG n65 n72 hs',fun b o q1 q2 q3 e=>hs' b o (fun z=>by rw[z,hC]at e;cases e) (jr.k b o q1 q2 q3 (bN.get b o q1 q2 e))⟩;rcases h1 a q with z|z
 ·exact .inl z
 ·exact .inr (eO bu bN z)
end
set_option genInjectivity false in
structure LD (cs:List Int) where
 c0:Int
 c1:Int
 c2:Int
 c3:Int
 c4:Int
 hcs:cs=[c0,c1,c2,c3,c4]
 t:T
 ht:rB cs=[t]
 tok:t.ok 5
 tsz:t.size≤100
 tdp:t.depth<10
 ns:List Int
 hns:ns=cs.map kB
 ws:List (List Nat)
 hws:ws=ns.map ig
 hw3:∀w∈ws,w.length≤3
 runs:List (List Int)
 hru:runs=cs.map ii
 rows:List (List Int)
 hrows:rows=c8 runs t []
 hro:∀r∈rows,kU r
 hrl:rows.length=9
 tt:Int
 htt:tt=cs.sum
 tl:Int
 htl:tl=tt.fmod 3
 htb:0≤tl∧tl≤2
 hs:List (List Nat)
 hhs:hs=rows.map fun r=>dp r tl
 hh3:∀h∈hs,h.length≤800
 pg:List (List Nat)
 hpg:pg=(aE 0 9).map (oO hs ws)
 lw:List WS
 hlw:lw=pg.map oU
 hlo:LeadsOK lw
 wk:List (List Int)
 hwk:wk=rows.map fun r=>oB r tl
 wd:List Int
 hwd:wd=[c3.fmod 4,c4.fmod 4]++aA ((tt.fdiv 9).fmod 4).toNat 0
 bh:Int
 hbh:bh=(tt.fdiv 3).fmod 4
 hbb:0≤bh∧bh≤3
 hwdo:kU wd
 hlwd:(dp wd bh).length≤800
 al:WS
 hal:al=oU (dp wd bh++[120])
 halo:al.ok∧al.longest≤90
 bs:List Int
 hbs:bs=oB wd bh
 hg:∀k:Int,0≤k∧k<9→Cj hs lw wk bs al k
 hre:∀k:Int,0≤k∧k<9→dH ((pg.getD k.toNat []).drop (hs.getD k.toNat []).length)=Bk ns k
 tx:List Nat
 htx:tx=aR ws t
 htxl:1≤tx.length
 htx9:tx.length≤800
 hrt:dH tx=ij ns t
 hc1:cZ tx 0=true
 hc2:cZ (tx.drop 1++[40]) 0=false
 htp:fe tx
 htr:∀p,p<tx.length→tx.getD p 0=40→((gr tx p).find? fun t=>cZ t 0).isSome=true
 sz:Int
 hsz:sz=1+(tt.fdiv 5).fmod 3
 hsb:1≤sz∧sz≤3
 wi:Nat
 hwi:(wi:Int)=16+tt.fmod 700
 hwb:16≤wi∧wi≤715
 cols:List Int
 hcl:cols.length=5
 hcb:∀c∈cols,0≤c∧c≤100
 hlv:∀p:Int,0≤p∧p<5→(gz lw (2*p).toNat).lvl sz=cols.getD p.toNat 0
 hcw:∀p:Int,0≤p∧p<5→(wk.getD (2*p).toNat []).getD (sz-1).toNat 0=cols.getD p.toNat 0
 pu:List Int
 hpu:pu=(aE 0 5).flatMap (PB ns cols)
 hpb:∀x∈pu,0≤x∧x<2^wi
 due:List Int
 hdu:io (eF (2^wi) pu) (2*wi)=due
 hdf:due=(aE 0 5).map fun p=>ns.getD p.toNat 0+cols.getD p.toNat 0*2^wi
 hwt:vL due
 hdb:∀p:Nat,(due.getD p 0).natAbs<2^1500
 pr:List Int
 hpr:pr=[1,3,5,7].map (iW lw due)
 pt:List (Int×Int)
 hpt:pt=mt tx
 ok:∀i j:Int,0≤i∧i≤j∧j<4→uk pr due pt i j
 hps:0≤pr.sum
 hps2:pr.sum.natAbs<2^3000
 hd1:io pr.sum wi=[AF ns,BF ns cols,AF cols]
 hs3:0≤2^(3*wi)-1-pr.sum
 hd2:io (2^(3*wi)-1-pr.sum) wi=[2^wi-1-AF ns,2^wi-1-BF ns cols,2^wi-1-AF cols]
theorem FV:aG (a7 81)=lst 0::(([lst 1,lst 2,lst 3,lst 4,lst 5,lst 6]++([lst 7,lst 8,lst 9,lst 10,lst 11,lst 12]++([lst 13]++([lst 14,lst 15,lst 16,lst 17,lst 18]++([lst 19,lst 20,lst 21,lst 22,lst 23,lst 24,lst 25]++([lst 26,lst 27,lst 28]++[lst 29,lst 30]))))))++(lst 31::[lst 32,lst 33,lst 34,lst 35])):=by kernel_rfl
theorem FX {cs:List Int} (q:LD cs) {M:MM} (hM:Has M [(ofString "cells",.dat (iL cs))]):
 Runs (Xw q.ws q.runs q.ns) ([lst 1,lst 2,lst 3,lst 4,lst 5,lst 6]++([lst 7,lst 8,lst 9,lst 10,lst 11,lst 12]++([lst 13]++([lst 14,lst 15,lst 16,lst 17,lst 18]++([lst 19,lst 20,lst 21,lst 22,lst 23,lst 24,lst 25]++([lst 26,lst 27,lst 28]++[lst 29,lst 30])))))) M
  [(ofString "figures",.own [.int (AF q.ns)]),(ofString "turn",.dat (.int (1-2*(q.tt.fdiv 4).fmod 2))),(ofString "side",.dat (.int (1-2*(q.tt.fdiv 2).fmod 2))),(ofString "parts",.dat (im q.pt)),(ofString "products",.dat (iL q.pr)),(ofString "due",.dat (iL q.due)),(ofString "columns",.dat (iL q.cols)),(ofString "width",.dat (.int (q.wi:Nat))),(ofString "numbers",.dat (iL q.ns))]:=by
 have hcl5:cs.length=5:=by rw[q.hcs];rfl
 have hnl:q.ns.length=5:=by rw[q.hns,ag,hcl5]
 have hwl:q.ws.length=5:=by rw[q.hws,ag,hnl]
 have hhl:q.hs.length=9:=by rw[q.hhs,ag,q.hrl]
 have hpl:q.pg.length=9:=by rw[q.hpg,ag,ci];rfl
 have hkl:q.wk.length=9:=by rw[q.hwk,ag,q.hrl]
 have hk4:∀r∈q.wk,r.length=4:=fun r hr=>by
  rw[q.hwk]at hr;(refine Ua (bc.mp hr) fun x _ q0=>?_;subst q0);rfl
 have hbl:q.bs.length=4:=by rw[q.hbs];rfl
 have hp9:∀l∈q.pg,l.length≤900:=fun l hl=>by
  rw[q.hpg]at hl;(refine Ua (bc.mp hl) fun k hk q0=>?_;subst q0);exact x9 (yA q.hh3) (yA q.hw3)
 have hpul:q.pu.length=10:=by
  rw[q.hpu];rfl
 have hnb:∀p:Nat,0≤q.ns.getD p 0∧q.ns.getD p 0≤100:=fun p=>by
  rw[ac];cases e:q.ns[p]? with
  |none=>exact(by decide:(0:Int)≤0∧(0:Int)≤100)
  |some x=>
   have hx:=ax e;rw[q.hns]at hx;(refine Ua (bc.mp hx) fun c _ q0=>?_;subst q0);have:=n9 c;show 0≤kB c∧kB c≤100;(exact⟨aB (by decide) this.1,aB this.2 (by decide)⟩)
 have hprl:q.pr.length=4:=by rw[q.hpr];rfl
 have hdl:q.due.length=5:=q.hwt.1;refine(S2 q.hcs q.ht q.tok q.tsz q.tdp q.hns q.hws q.hru q.hrows q.htt q.htl q.htb q.hro q.hrl q.hhs hM).app fun M1 h1=>?_;refine(S1 (runs:=q.runs) q.hcs hwl q.hw3 q.htl q.htb q.hro q.hrl hhl q.hh3 q.hpg q.hlw q.hwk q.hwd q.hbh q.hbb q.hwdo q.hlwd q.hal q.hbs h1).app fun M2 h2=>?_;refine(S0 hhl q.hh3 q.hlo hkl hk4 q.halo hbl q.hg h2).app fun M3 h3=>?_;refine(SZ q.tok q.tsz q.tdp hwl hnl hpl hp9 q.hlo (fun k hk=>(q.hg k hk).n) rfl q.hre q.htx q.htxl q.htx9 q.hrt q.hc1 q.hc2 (fun c hc=>⟨(q.htp.2 c hc).1,(q.htp.2 c hc).2.1,(q.htp.2 c hc).2.2.2⟩) h3).app fun M4 h4=>?_;refine(SY q.hlo hkl hk4 hnl rfl q.hsz q.hsb q.hwi q.hwb q.hcl q.hcb q.hlv q.hcw q.hpu q.hpb hpul q.hdu q.hdf h4).app fun M5 h5=>?_;refine(SX q.hlo q.hwt q.htp q.htr q.hpr q.hpt rfl rfl h5).app fun M6 h6=>?_;exact SW hprl hdl q.hdb (xZ _ rfl) (xZ _ rfl) q.ok hnl hnb h6
theorem FW (H:∀cs:List Int,cs.length=5→Nonempty (LD cs)):Ch:=by
 intro C;rintro as d ⟨xs,hxl,rfl,rfl⟩;refine⟨fun{A s P vs} hA Ss lv t hr=>?_⟩;refine js (nE NX (k:=398) hA Ss lv t hr rfl fun env bV tk m μ henv esc efn F bu hk μf μG hAd=>?_);obtain⟨M,hM⟩:∃M:MM,M=bU (ej (a7 81)) [iL xs]:=⟨_,rfl⟩;rw[←hM]at F;have l0:M.lookup (ofString "script")=some (.dat (iL xs)):=by
  rw[hM,show bU (ej (a7 81)) [iL xs]=[(ofString "script",.dat (iL xs))]from by kernel_rfl];exact eQ
 rw[FV];refine bn ?_;refine aa (MF (k:=397) hAd esc efn ((show∀e:Env,e.scope=aF (a7 81)→swapsWith _ _ _ e=pure true from fun e q=>by cases e;cases q;kernel_rfl) env esc) F bu μG hxl l0) (fun fl aV q=>?_) fun _ _ x=>x;(refine UC q fun q0 cs hcs kC=>?_;subst q0);obtain⟨D⟩:=H cs hcs;have hnl:D.ns.length=5:=by rw[D.hns,ag,hcs]
 have hwl:D.ws.length=5:=by rw[D.hws,ag,hnl]
 have hrl:D.runs.length=5:=by rw[D.hru,ag,hcs]
 have hnb:∀p:Nat,0≤D.ns.getD p 0∧D.ns.getD p 0≤100:=fun p=>by
  rw[ac];cases e:D.ns[p]? with
  |none=>simp
  |some x=>
   have hx:=ax e;rw[D.hns]at hx;(refine Ua (bc.mp hx) fun c _ q0=>?_;subst q0);have:=n9 c;show 0≤kB c∧kB c≤100;exact(iG 0xe6aa3209c8aa00ed5436139154342e:) this
 have hcb:∀p:Nat,0≤D.cols.getD p 0∧D.cols.getD p 0≤100:=fun p=>by
  rw[ac];cases e:D.cols[p]? with
  |none=>simp
  |some x=>exact D.hcb x (ax e)
 have hH:Has (M.set (ofString "cells") (.dat (iL cs))) [(ofString "cells",.dat (iL cs))]:=fun y e z=>by
  have:=bk z;rw[aT]at this;cases this;exact ic
 refine Ua (FX D hH) fun M' r1 h1=>?_;have cx:CxOK C (Xw D.ws D.runs D.ns) 398:=R5 D.hw3 (by(rw[hwl];decide)) (by(rw[hrl];decide)) (by(rw[hnl];decide));refine Uc kC.ex fun yj rz gn u1 u2=>?_;refine oZ cx hAd efn 12 _ _ M' yj rz aV (by rw[esc];exact r1) u2 gn kC.S fun bq zi=>?_;refine Uc zi.ex fun FJ uL jA v1 v2=>?_;refine bn ?_;refine aa (IK (k:=397) hnl D.hcl hnb hcb hAd esc jA zi.S v2 (l:=[.int (AF D.ns)]) (by simp only[ay,bf];(decide)) (h1 _ _ eQ) (h1 (ofString "numbers") (.dat (iL D.ns)) (by kernel_rfl)) (h1 (ofString "columns") (.dat (iL D.cols)) (by kernel_rfl))) (fun fl eG q=>?_) fun _ _ x=>x;obtain⟨O5,hfl⟩:=q;cases fl<;>first|exact hfl.elim|skip
 refine Uc O5.ex fun Tn La pj w1 w2=>?_;have h2:=h1.reset (e':=.own [.int (AF D.ns),.int (BF D.ns D.cols)]);obtain⟨M'',r2⟩:=SV (ws:=D.ws) (runs:=D.runs) (ns:=D.ns) D.hwb D.hcl hcb rfl D.hps D.hps2 D.hd1 D.hs3 D.hd2 h2;refine aa (qN (fun st=>lT cx 12 hAd efn st) _ _ _ _ Tn La eG (by rw[esc];exact r2) w2 pj O5.S) (fun f jg q=>?_) fun _ _ x=>x;obtain⟨R4,hf⟩:=q;cases f<;>first|exact hf.elim|skip
 have sub2:∀a∈rz,s.heap.get? a=none:=fun a q=>by
  rcases u1 a q with z|z
  ·exact μf a z
  ·cases e:s.heap.get? a with
   |none=>rfl
   |some o=>have:=hk a o e;rw[show bV.get? a=none from z]at this;cases this
 have k2:Keep s.heap aV.heap:=⟨fun b o n1 n2 e=>kC.k b o n1 n2 (fun q=>by rw[μf b q]at e;cases e) (hk b o e)⟩;have k3:Keep s.heap bq.heap:=⟨fun b o n1 n2 e=>zi.k b o n1 n2 (fun q=>by rw[sub2 b q]at e;cases e) (k2.get b o n1 n2 e)⟩;have sub3:∀a∈uL,s.heap.get? a=none:=fun a q=>by
  rcases v1 a q with z|z
  ·exact sub2 a z
  ·exact eO kC.S k2 z
 have k4:Keep s.heap eG.heap:=⟨fun b o n1 n2 e=>O5.k b o n1 n2 (fun q=>by rw[sub3 b q]at e;cases e) (k3.get b o n1 n2 e)⟩;have sub4:∀a∈La,s.heap.get? a=none:=fun a q=>by
  rcases w1 a q with z|z
  ·exact sub3 a z
  ·exact eO zi.S k3 z
 have k5:Keep s.heap jg.heap:=⟨fun b o n1 n2 e=>R4.k b o n1 n2 (fun q=>by rw[sub4 b q]at e;cases e) (k4.get b o n1 n2 e)⟩;exact⟨R4.S,k5,hf⟩
noncomputable def dU (k0 k1 k2 k3:Int):List Int:=if k3≠0 then[k0,k1,k2,k3]else if k2≠0 then[k0,k1,k2]else if k1≠0 then[k0,k1]else if k0≠0 then[k0]else[]
noncomputable def kN (rs:List Int) (i:Int):Int:=((rs.filter fun r=>decide (r=i)).length:Nat)
noncomputable def dl (r i:Int):Int:=if r=i then 1 else 0
theorem eJ (r:Int) (rs:List Int) (i:Int):kN (r::rs) i=dl r i+kN rs i:=by
 unfold kN dl;rw[mZ];by_cases h:r=i
 ·rw[if_pos (decide_eq_true h),if_pos h,ay];exact(fN 0x197c8410ba4f085c2:)
 ·rw[if_neg (fun e=>h (of_decide_eq_true e)),if_neg h];exact(br _).symm
theorem rm (r i:Int):0≤dl r i:=by
 unfold dl;by_cases h:r=i
 ·rw[if_pos h];decide
 ·rw[if_neg h];decide
theorem ey (rs:List Int) (i:Int):0≤kN rs i:=by unfold kN;(exact aY _)
noncomputable def g8 (rs:List Int):Prop:=∀r∈rs,r=0∨r=1∨r=2∨r=3
theorem z0:¬(0:Int)≠0:=fun h=>h rfl
theorem n4 {k0 k1 k2 k3:Int} (h:k3≠0):dU k0 k1 k2 k3=[k0,k1,k2,k3]:=if_pos h
theorem n3 {k0 k1 k2:Int} (h:k2≠0):dU k0 k1 k2 0=[k0,k1,k2]:=(if_neg z0).trans (if_pos h)
theorem n2 {k0 k1:Int} (h:k1≠0):dU k0 k1 0 0=[k0,k1]:=(if_neg z0).trans ((if_neg z0).trans (if_pos h))
theorem n1 {k0:Int} (h:k0≠0):dU k0 0 0 0=[k0]:=(if_neg z0).trans ((if_neg z0).trans ((if_neg z0).trans (if_pos h)))
theorem iY {P:Int→Int→Int→Int→List Int→Prop} (c4:∀k0 k1 k2 k3,k3≠0→P k0 k1 k2 k3 [k0,k1,k2,k3]) (c3:∀k0 k1 k2,k2≠0→P k0 k1 k2 0 [k0,k1,k2]) (c2:∀k0 k1,k1≠0→P k0 k1 0 0 [k0,k1]) (c1:∀k0,k0≠0→P k0 0 0 0 [k0]) (c0:P 0 0 0 0 []) (k0 k1 k2 k3:Int):P k0 k1 k2 k3 (dU k0 k1 k2 k3):=by
 by_cases e3:k3=0
 ·subst e3
  by_cases e2:k2=0
  ·subst e2
   by_cases e1:k1=0
   ·subst e1
    by_cases e0:k0=0
    ·subst e0;exact c0
    ·rw[n1 e0];exact c1 _ e0
   ·rw[n2 e1];exact c2 _ _ e1
  ·rw[n3 e2];exact c3 _ _ _ e2
 ·rw[n4 e3];exact c4 _ _ _ _ e3
theorem v8 {k:Int} (h:0≤k):k+1≠0:=db (Int.lt_add_one_of_le h)
theorem kY:(0:Int)+1≠0:=by decide
theorem RW {k0 k1 k2 k3:Int} (h0:0≤k0):nJ (dU k0 k1 k2 k3) 0=dU (k0+1) k1 k2 k3:=
 iY (P:=fun k0 k1 k2 k3 l=>0≤k0→nJ l 0=dU (k0+1) k1 k2 k3) (fun _ _ _ _ e _=>(n4 e).symm) (fun _ _ _ e _=>(n3 e).symm) (fun _ _ e _=>(n2 e).symm) (fun _ _ h=>(n1 (v8 h)).symm) (fun _=>(n1 kY).symm) k0 k1 k2 k3 h0
theorem RV {k0 k1 k2 k3:Int} (h1:0≤k1):nJ (dU k0 k1 k2 k3) 1=dU k0 (k1+1) k2 k3:=
 iY (P:=fun k0 k1 k2 k3 l=>0≤k1→nJ l 1=dU k0 (k1+1) k2 k3) (fun _ _ _ _ e _=>(n4 e).symm) (fun _ _ _ e _=>(n3 e).symm) (fun _ _ _ h=>(n2 (v8 h)).symm) (fun _ _ _=>(n2 kY).symm) (fun _=>(n2 kY).symm) k0 k1 k2 k3 h1
theorem RU {k0 k1 k2 k3:Int} (h2:0≤k2):nJ (dU k0 k1 k2 k3) 2=dU k0 k1 (k2+1) k3:=
 iY (P:=fun k0 k1 k2 k3 l=>0≤k2→nJ l 2=dU k0 k1 (k2+1) k3) (fun _ _ _ _ e _=>(n4 e).symm) (fun _ _ _ _ h=>(n3 (v8 h)).symm) (fun _ _ _ _=>(n3 kY).symm) (fun _ _ _=>(n3 kY).symm) (fun _=>(n3 kY).symm) k0 k1 k2 k3 h2
theorem RT {k0 k1 k2 k3:Int} (h3:0≤k3):nJ (dU k0 k1 k2 k3) 3=dU k0 k1 k2 (k3+1):=
 iY (P:=fun k0 k1 k2 k3 l=>0≤k3→nJ l 3=dU k0 k1 k2 (k3+1)) (fun _ _ _ _ _ h=>(n4 (v8 h)).symm) (fun _ _ _ _ _=>(n4 kY).symm) (fun _ _ _ _=>(n4 kY).symm) (fun _ _ _=>(n4 kY).symm) (fun _=>(n4 kY).symm) k0 k1 k2 k3 h3
theorem iF {a b c d a' b' c' d':Int} (h1:a=a') (h2:b=b') (h3:c=c') (h4:d=d'):dU a b c d=dU a' b' c' d':=by subst h1 h2 h3 h4;rfl
theorem Hu {r k0 k1 k2 k3:Int} (hr:r=0∨r=1∨r=2∨r=3) (h0:0≤k0) (h1:0≤k1) (h2:0≤k2) (h3:0≤k3):nJ (dU k0 k1 k2 k3) r.toNat=dU (k0+dl r 0) (k1+dl r 1) (k2+dl r 2) (k3+dl r 3):=by
 have z:∀k:Int,k=k+0:=fun k=>(bI k).symm;rcases hr with rfl|rfl|rfl|rfl
 ·exact(RW h0).trans (iF rfl (z _) (z _) (z _))
 ·exact(RV h1).trans (iF (z _) rfl (z _) (z _))
 ·exact(RU h2).trans (iF (z _) (z _) rfl (z _))
 ·exact(RT h3).trans (iF (z _) (z _) (z _) rfl)
theorem Os {r:Int} (hr:r=0∨r=1∨r=2∨r=3):(r.toNat:Int)=dl r 1+2*dl r 2+3*dl r 3:=by
 rcases hr with rfl|rfl|rfl|rfl<;>rfl
theorem sK:∀(a:Nat) (l:List Nat) (n nt b:Nat) (cs:List Int),df (aA a 32++l) ⟨n,nt,b,cs⟩=df l ⟨n+a,nt,b+a,cs⟩
 |0=>@fun l n nt b cs=>rfl
 |a+1=>@fun l n nt b cs=>by
  rw[eP,cq];conv=>lhs;rw[df]
  rw[if_pos rfl,sK a l];dsimp only;rw[show n+1+a=n+(a+1)by exact(dA 0x61ef085c313c6f085c2:),show b+1+a=b+(a+1)by exact(dA 0x61ef085c313c6f085c2:)]
theorem Mu (l:List Nat) (q:Cnt):df (9::l) q=df l ⟨q.n+1,q.nt+1,0,nJ q.cs q.b⟩:=by
 conv=>lhs;rw[df]
 rw[if_neg (by decide),if_pos rfl]
noncomputable def II (rs:List Int):Int:=kN rs 1+2*kN rs 2+3*kN rs 3
theorem ti (t:Int) (h:0≤t):∀(rs:List Int),g8 rs→((dp rs t).length:Int)=II rs+rs.length+t
 |[]=>@fun _=>by
  show((aA t.toNat 32).length:Int)=_;rw[a9];show _=(0:Int)+(0:Nat)+t;exact(iG 0x1ccbd0f901c074855401c1001c8:) h
 |r::rs=>@fun hr=>by
  have ih:=ti t h rs fun x q=>hr x (af _ q);have e:dp (r::rs) t=aA r.toNat 32++9::dp rs t:=by unfold dp;simp
  rw[e,ai,a9,ay,ay];unfold II at ih⊢;rw[eJ,eJ,eJ,oS,Os (hr r (au ..)),oS,ih,oS];clear ih;generalize dl r 1=d1;generalize dl r 2=d2;generalize dl r 3=d3;generalize kN rs 1=a1;generalize kN rs 2=a2;generalize kN rs 3=a3;lia
theorem Hj {n n' nt nt' b:Nat} {cs cs':List Int} (h1:n=n') (h2:nt=nt') (h3:cs=cs'):Cnt.mk n nt b cs=Cnt.mk n' nt' b cs':=by subst h1 h2 h3;rfl
noncomputable def wc (rs:List Int) (k0 k1 k2 k3:Int):List Int:=dU (k0+kN rs 0) (k1+kN rs 1) (k2+kN rs 2) (k3+kN rs 3)
theorem Ba {t:Int} {rest:List Nat} (hrest:∀q,df rest q=q):∀(rs:List Int),g8 rs→∀(n nt:Nat) (k0 k1 k2 k3:Int),0≤k0→0≤k1→0≤k2→0≤k3→
 df (dp rs t++rest) ⟨n,nt,0,dU k0 k1 k2 k3⟩=⟨n+(dp rs t).length,nt+rs.length,t.toNat,wc rs k0 k1 k2 k3⟩
 |[]=>@fun _ n nt k0 k1 k2 k3 _ _ _ _=>by
  have e:dp [] t=aA t.toNat 32:=rfl;rw[e,sK,hrest,a9,dR];unfold wc;show _=Cnt.mk _ _ _ (dU (k0+0) (k1+0) (k2+0) (k3+0));simp
 |r::rs=>@fun hr n nt k0 k1 k2 k3 h0 h1 h2 h3=>by
  have ih:=Ba (t:=t) hrest rs fun x q=>hr x (af _ q);have e:dp (r::rs) t=aA r.toNat 32++9::dp rs t:=by unfold dp;simp
  rw[e,aC,sK,cq,Mu];dsimp only;rw[ai,a9,ay,ay,dR];unfold wc;rw[eJ,eJ,eJ,eJ];have pp:∀{k i:Int},0≤k→0≤k+dl r i:=fun h=>dk h (rm _ _);rw[Hu (hr r (au ..)) h0 h1 h2 h3,ih _ _ _ _ _ _ (pp h0) (pp h1) (pp h2) (pp h3)];exact Hj (by rw[eY,eY,iy 1]) (by rw[eY,iy 1]) (iF (gN ..) (gN ..) (gN ..) (gN ..))
noncomputable def sT (k1 k2 k3 ts:Int):Int:=if ts=1 then k1+2*k2+3*k3 else if ts=2 then k2+k3 else if ts=3 then k3 else 0
theorem ze (x:Int):0+1*x=x:=by rw[br,cz]
theorem JS {k0 k1 k2 k3 ts:Int} (hts:ts=1∨ts=2∨ts=3∨ts=4):zK ts (dU k0 k1 k2 k3) (aE ts (dU k0 k1 k2 k3).length) 0=sT k1 k2 k3 ts:=by
 have q1:(1:Int).fdiv 1=1:=rfl;have q2:(2:Int).fdiv 1=2:=rfl;have q3:(3:Int).fdiv 1=3:=rfl;rcases hts with rfl|rfl|rfl|rfl
 ·refine iY (P:=fun k0 k1 k2 k3 l=>zK 1 l (aE 1 l.length) 0=sT k1 k2 k3 1) (fun _ k1 k2 k3 _=>?_) (fun _ k1 k2 _=>?_) (fun _ k1 _=>?_) (fun _ _=>rfl) rfl k0 k1 k2 k3
  ·show 0+(1:Int).fdiv 1*k1+(2:Int).fdiv 1*k2+(3:Int).fdiv 1*k3=k1+2*k2+3*k3
   rw[q1,q2,q3,ze]
  ·show 0+(1:Int).fdiv 1*k1+(2:Int).fdiv 1*k2=k1+2*k2+3*0
   rw[q1,q2,ze,lu,bI]
  ·show 0+(1:Int).fdiv 1*k1=k1+2*0+3*0
   rw[q1,ze,lu,lu,bI,bI]
 ·refine iY (P:=fun k0 k1 k2 k3 l=>zK 2 l (aE 2 l.length) 0=sT k1 k2 k3 2) (fun _ k1 k2 k3 _=>?_) (fun _ k1 k2 _=>?_) (fun _ _ _=>rfl) (fun _ _=>rfl) rfl k0 k1 k2 k3
  ·show 0+(2:Int).fdiv 2*k2+(3:Int).fdiv 2*k3=k2+k3
   rw[show(2:Int).fdiv 2=1 from rfl,show(3:Int).fdiv 2=1 from rfl,ze,cz]
  ·show 0+(2:Int).fdiv 2*k2=k2+0
   rw[show(2:Int).fdiv 2=1 from rfl,ze,bI]
 ·exact iY (P:=fun k0 k1 k2 k3 l=>zK 3 l (aE 3 l.length) 0=sT k1 k2 k3 3) (fun _ _ _ k3 _=>(congrArg (0+·*k3) (show(3:Int).fdiv 3=1 from rfl)).trans (ze k3)) (fun _ _ _ _=>rfl) (fun _ _ _=>rfl) (fun _ _=>rfl) rfl k0 k1 k2 k3
 ·exact iY (P:=fun k0 k1 k2 k3 l=>zK 4 l (aE 4 l.length) 0=sT k1 k2 k3 4) (fun _ _ _ _ _=>rfl) (fun _ _ _ _=>rfl) (fun _ _ _=>rfl) (fun _ _=>rfl) rfl k0 k1 k2 k3
theorem EQ {sz:Int} (hs:sz=1∨sz=2∨sz=3∨sz=4) (d1 d2 d3 a1 a2 a3:Int):sT (d1+a1) (d2+a2) (d3+a3) sz=sT d1 d2 d3 sz+sT a1 a2 a3 sz:=by
 rcases hs with rfl|rfl|rfl|rfl
 ·show(d1+a1)+2*(d2+a2)+3*(d3+a3)=(d1+2*d2+3*d3)+(a1+2*a2+3*a3)
  lia
 ·show(d2+a2)+(d3+a3)=(d2+d3)+(a2+a3)
  lia
 ·rfl
 ·rfl
theorem Qe {sz r:Int} (hs:sz=1∨sz=2∨sz=3∨sz=4) (hr:r=0∨r=1∨r=2∨r=3):sT (dl r 1) (dl r 2) (dl r 3) sz=r/sz:=by
 rcases hs with rfl|rfl|rfl|rfl<;>rcases hr with rfl|rfl|rfl|rfl<;>rfl
theorem Ks {c x s n z:Int}:c+x*z+z+z*(s+n)=c+z*(x+s+(n+1)):=by
 rw[eE,eE,eE,eE,Ij,eh x z];lia
theorem BU {sz:Int} (hs:sz=1∨sz=2∨sz=3∨sz=4):∀(rs:List Int),g8 rs→∀c:Int,c%sz=0→lW sz rs c=c+sz*(sT (kN rs 1) (kN rs 2) (kN rs 3) sz+rs.length)
 |[]=>@fun _ c hc=>by
  show c=c+sz*(sT 0 0 0 sz+0);rw[show sT 0 0 0 sz=0 by rcases hs with rfl|rfl|rfl|rfl<;>rfl];exact(bI c).symm.trans (congrArg (c+·) (lu sz).symm)
 |r::rs=>@fun hr c hc=>by
  have ih:=BU hs rs fun x q=>hr x (af _ q);show lW sz rs ((c+r).fdiv sz*sz+sz)=_;have hp:0<sz:=by exact(iG 0xe5d0076f7bc902e46461723220b919085c8:) hs
  rw[hV hp];have hd:sz∣c:=Int.dvd_of_emod_eq_zero hc;have q:(c+r)/sz*sz=c+r/sz*sz:=by rw[Int.add_ediv_of_dvd_left hd,d7,Int.ediv_mul_cancel hd]
  rw[ih _ (by rw[q];exact Int.emod_eq_zero_of_dvd (Int.dvd_add (Int.dvd_add hd (Int.dvd_mul_left ..)) (Int.dvd_refl _))),q,eJ,eJ,eJ,EQ hs,Qe hs (hr r (au ..)),ay];exact Ks
structure LW (w:WS) (k0 k1 k2 k3 b:Int):Prop where
 h0:0≤k0
 h1:0≤k1
 h2:0≤k2
 h3:0≤k3
 hb:0≤b∧b≤3
 sum:k0+k1+k2+k3≤5
 cs:w.cs=dU k0 k1 k2 k3
 eb:w.b=b
 nt:w.nt=k0+k1+k2+k3
 n:w.n=k1+2*k2+3*k3+(k0+k1+k2+k3)+b
noncomputable def Lv (k0 k1 k2 k3 b ts:Int):Int:=b+ts*(sT k1 k2 k3 ts+(k0+k1+k2+k3))
theorem LW.lvl {w:WS} {k0 k1 k2 k3 b:Int} (h:LW w k0 k1 k2 k3 b) {ts:Int} (hts:ts=1∨ts=2∨ts=3∨ts=4):w.lvl ts=Lv k0 k1 k2 k3 b ts:=by
 unfold WS.lvl Lv;rw[h.cs,JS hts,h.eb,h.nt]
theorem gh {P:Int→Prop} {a:Int} {l:List Int} (h:P a) (g:∀x∈l,P x):∀x∈a::l,P x:=D2.mpr ⟨h,g⟩
theorem ub {P:Int→Prop}:∀x∈[],P x:=fun _ h=>nomatch h
theorem CV {P:Int→Prop} {k0 k1 k2 k3:Int} (b0:P k0) (b1:P k1) (b2:P k2) (b3:P k3):∀c∈dU k0 k1 k2 k3,P c:=
 iY (P:=fun k0 k1 k2 k3 l=>P k0→P k1→P k2→P k3→∀c∈l,P c) (fun _ _ _ _ _ b0 b1 b2 b3=>gh b0 (gh b1 (gh b2 (gh b3 ub)))) (fun _ _ _ _ b0 b1 b2 _=>gh b0 (gh b1 (gh b2 ub))) (fun _ _ _ b0 b1 _ _=>gh b0 (gh b1 ub)) (fun _ _ b0 _ _ _=>gh b0 ub) (fun _ _ _ _=>ub) k0 k1 k2 k3 b0 b1 b2 b3
theorem pU (k0 k1 k2 k3:Int):(dU k0 k1 k2 k3).length≤4∧((dU k0 k1 k2 k3).length<4→k3=0)∧((dU k0 k1 k2 k3).length<3→k2=0)∧((dU k0 k1 k2 k3).length<2→k1=0):=
 have a:∀{n m:Nat} {p:Prop},¬n<m→n<m→p:=fun h q=>(h q).elim;iY (P:=fun k0 k1 k2 k3 l=>l.length≤4∧(l.length<4→k3=0)∧(l.length<3→k2=0)∧(l.length<2→k1=0)) (fun _ _ _ _ _=>⟨(by decide:4≤4),a (by decide:¬4<4),a (by decide:¬4<3),a (by decide:¬4<2)⟩) (fun _ _ _ _=>⟨(by decide:3≤4),fun _=>rfl,a (by decide:¬3<3),a (by decide:¬3<2)⟩) (fun _ _ _=>⟨(by decide:2≤4),fun _=>rfl,fun _=>rfl,a (by decide:¬2<2)⟩) (fun _ _=>⟨(by decide:1≤4),fun _=>rfl,fun _=>rfl,fun _=>rfl⟩) ⟨(by decide:0≤4),fun _=>rfl,fun _=>rfl,fun _=>rfl⟩ k0 k1 k2 k3
theorem tf {w:WS} {m:Int} (hb:w.b≤m) (hl:(w.cs.length:Int)-1≤m):w.longest≤m:=by
 unfold WS.longest;by_cases q:w.b>(w.cs.length:Int)-1
 ·rw[if_pos q];exact hb
 ·rw[if_neg q];exact hl
theorem LW.ok {w:WS} {k0 k1 k2 k3 b:Int} (h:LW w k0 k1 k2 k3 b):w.ok∧w.longest≤90:=by
 obtain⟨h0,h1,h2,h3,hb,hs,e1,e2,e3,e4⟩:=h;have hl:=(pU k0 k1 k2 k3).1;rw[←e1]at hl;refine⟨⟨ae hl (by decide),?_,by exact(ly 0x39cd57e813935481d942755185c8aa00e:) hb e2,by exact(SH 0x1ce739ce6abf409ccab00ecbd6f53d28654a173d6f53d28aac0eaa80eaa40eaa00e:) h0 h1 h2 h3 hs e3⟩,tf (e2▸aB hb.2 (by decide)) (aB (Int.sub_le_self _ (by decide)) (aB (bQ.mpr hl) (by decide)))⟩;rw[e1];exact CV (by exact(uE 0x739ce7355fa04e45500754a173d6f53d28aac0eaa80eaa40eaa00e:) h0 h1 h2 h3 hs) (by exact(uE 0x739ce7355fa04e4d520754a173d6f53d28aac0eaa80eaa40eaa00e:) h0 h1 h2 h3 hs) (by exact(uE 0x739ce7355fa04e55540754a173d6f53d28aac0eaa80eaa40eaa00e:) h0 h1 h2 h3 hs) (by exact(uE 0x739ce7355fa04e5d560754a173d6f53d28aac0eaa80eaa40eaa00e:) h0 h1 h2 h3 hs)
theorem uX (k0 k1 k2 k3:Int):(dU k0 k1 k2 k3).getD 0 0=k0∧(dU k0 k1 k2 k3).getD 1 0=k1∧(dU k0 k1 k2 k3).getD 2 0=k2∧(dU k0 k1 k2 k3).getD 3 0=k3:=
 iY (P:=fun k0 k1 k2 k3 l=>l.getD 0 0=k0∧l.getD 1 0=k1∧l.getD 2 0=k2∧l.getD 3 0=k3) (fun _ _ _ _ _=>⟨rfl,rfl,rfl,rfl⟩) (fun _ _ _ _=>⟨rfl,rfl,rfl,rfl⟩) (fun _ _ _=>⟨rfl,rfl,rfl,rfl⟩) (fun _ _=>⟨rfl,rfl,rfl,rfl⟩) ⟨rfl,rfl,rfl,rfl⟩ k0 k1 k2 k3
theorem CU {a0 a1 a2 a3 b0 b1 b2 b3:Int} (h:dU a0 a1 a2 a3=dU b0 b1 b2 b3):a0=b0∧a1=b1∧a2=b2∧a3=b3:=by
 refine Uj (uX a0 a1 a2 a3) fun x0 x1 x2 x3=>?_;rw[h]at x0 x1 x2 x3;refine Uj (uX b0 b1 b2 b3) fun y0 y1 y2 y3=>?_;exact⟨x0.symm.trans y0,x1.symm.trans y1,x2.symm.trans y2,x3.symm.trans y3⟩
theorem LW.long {w:WS} {k0 k1 k2 k3 b:Int} (h:LW w k0 k1 k2 k3 b):b≤w.longest∧w.longest≤3∧(w.longest<3→k3=0)∧(w.longest<2→k2=0)∧(w.longest<1→k1=0):=by
 refine Uj (pU k0 k1 k2 k3) fun l4 l3 l2 l1=>?_;have hb:=h.hb.2;rw[←h.cs]at l4 l3 l2 l1;have hL:(w.cs.length:Int)-1≤w.longest:=by
  unfold WS.longest;by_cases q:w.b>(w.cs.length:Int)-1
  ·rw[if_pos q];exact aO q
  ·rw[if_neg q];exact dj _
 have hB:b≤w.longest:=by
  rw[←h.eb];unfold WS.longest;by_cases q:w.b>(w.cs.length:Int)-1
  ·rw[if_pos q];exact dj _
  ·rw[if_neg q];exact gC.mp q
 have key:∀{n:Nat},w.longest<(n:Int)→w.cs.length<n+1:=fun{n} z=>jz.mp (Int.lt_add_of_sub_right_lt (cP hL z));exact⟨hB,tf (h.eb▸hb) (Int.sub_le_sub_right (bQ.mpr l4) 1),fun z=>l3 (key z),fun z=>l2 (key z),fun z=>l1 (key z)⟩
theorem L8 {a b c:Int} (h:a+b=c+b):a=c:=Iq ((iA b a).trans (h.trans (iA c b)))
theorem Vf {b c X Y:Int} (hb:0≤b∧b≤3) (gb:0≤c∧c≤3) (h:b+4*(0+X)=c+4*(0+Y)):b=c∧X=Y:=by
 rw[br,br]at h;have h1:=hb.1;have h2:=hb.2;have h3:=gb.1;have h4:=gb.2;have e:X=Y:=(uE 0x1ce739ccad597c5640b92f8a881722a30b935481d5185c8aa00e:) h1 h2 h3 h4 h;subst e;exact⟨L8 h,rfl⟩
theorem TF {b X p q n:Int} (hn:n≠0) (h:b+n*(p+X)=b+n*(q+X)):p=q:=L8 (Int.eq_of_mul_eq_mul_left hn (Iq h))
theorem LW.eq {w v:WS} {k0 k1 k2 k3 b l0 l1 l2 l3 c:Int} (h:LW w k0 k1 k2 k3 b) (g:LW v l0 l1 l2 l3 c):(w.cs=v.cs∧w.b=v.b)↔(Lv k0 k1 k2 k3 b 1=Lv l0 l1 l2 l3 c 1∧Lv k0 k1 k2 k3 b 2=Lv l0 l1 l2 l3 c 2∧Lv k0 k1 k2 k3 b 3=Lv l0 l1 l2 l3 c 3∧Lv k0 k1 k2 k3 b 4=Lv l0 l1 l2 l3 c 4):=by
 rw[h.cs,g.cs,h.eb,g.eb];constructor
 ·intro q
  (refine Uj (CU q.1) fun q0 q1 q2 q3=>?_;rw[q0,q1,q2,q3,q.2]);exact⟨rfl,rfl,rfl,rfl⟩
 ·intro q
  refine Uj q fun q1 q2 q3 q4=>?_;have z:=Vf h.hb g.hb q4;have z':=z.1;subst z';have q1:b+1*((k1+2*k2+3*k3)+(k0+k1+k2+k3))=b+1*((l1+2*l2+3*l3)+(l0+l1+l2+l3)):=q1;have q2:b+2*((k2+k3)+(k0+k1+k2+k3))=b+2*((l2+l3)+(l0+l1+l2+l3)):=q2;have q3:b+3*(k3+(k0+k1+k2+k3))=b+3*(l3+(l0+l1+l2+l3)):=q3;rw[z.2]at q1 q2 q3;have z3:k3=l3:=TF (by decide) q3;have z2:k2=l2:=by have:=TF (by decide) q2;rw[z3]at this;exact L8 this
  have z1:k1=l1:=by have:=TF (by decide) q1;rw[z3,z2]at this;exact L8 (L8 this)
  have z0:k0=l0:=by have:=z.2;rw[z3,z2,z1]at this;exact L8 (L8 (L8 this))
  exact⟨by rw[z0,z1,z2,z3],rfl⟩
theorem AX {p:Int→Bool} {m:Int} (hm:m=0∨m=1∨m=2∨m=3):(aE 2 (m+1+1)).all p=true↔(1≤m→p 2=true)∧(2≤m→p 3=true)∧(3≤m→p 4=true):=by
 have no:∀{a b:Int} {q:Prop},¬a≤b→a≤b→q:=fun h z=>(h z).elim;rcases hm with rfl|rfl|rfl|rfl
 ·exact⟨fun _=>⟨no (by decide),no (by decide),no (by decide)⟩,fun _=>rfl⟩
 ·show(p 2&&true)=true↔_
  rw[ru];exact⟨fun h=>⟨fun _=>h,no (by decide),no (by decide)⟩,fun h=>h.1 (by decide)⟩
 ·show(p 2&&(p 3&&true))=true↔_
  rw[ru,ao];exact⟨fun h=>⟨fun _=>h.1,fun _=>h.2,no (by decide)⟩,fun h=>⟨h.1 (by decide),h.2.1 (by decide)⟩⟩
 ·show(p 2&&(p 3&&(p 4&&true)))=true↔_
  rw[ru,ao,ao];exact⟨fun h=>⟨fun _=>h.1,fun _=>h.2.1,fun _=>h.2.2⟩,fun h=>⟨h.1 (by decide),h.2.1 (by decide),h.2.2 (by decide)⟩⟩
theorem Ld {m:Int} (h:0≤m) (g:m≤3):m=0∨m=1∨m=2∨m=3:=by exact(iG 0x1ce6f7bc8c2e46441723210b91903915185c8aa00e:) h g
theorem Vc {k0 k1 k2 k3 b l0 l1 l2 l3 c:Int} (e3:k3=0∧l3=0) (e2:k2=0∧l2=0) (e1:k1=0∧l1=0) (h0:0≤b) (hb:b<1) (hc:0≤c) (hm:c<1) (h:Lv k0 k1 k2 k3 b 1<Lv l0 l1 l2 l3 c 1):Lv k0 k1 k2 k3 b 2<Lv l0 l1 l2 l3 c 2:=by
 obtain⟨rfl,rfl⟩:=e1;obtain⟨rfl,rfl⟩:=e2;obtain⟨rfl,rfl⟩:=e3;simp[Lv,sT]at h⊢;exact(uE 0x39ce5df15882e4be2a105c8bbd697a917085c9aa00e:) h0 hm h
theorem Vb {k0 k1 k2 k3 b l0 l1 l2 l3 c:Int} (e3:k3=0∧l3=0) (e2:k2=0∧l2=0) (h0:0≤b) (hb:b<2) (hc:0≤c) (hm:c<2) (h:Lv k0 k1 k2 k3 b 2<Lv l0 l1 l2 l3 c 2):Lv k0 k1 k2 k3 b 3<Lv l0 l1 l2 l3 c 3:=by
 obtain⟨rfl,rfl⟩:=e2;obtain⟨rfl,rfl⟩:=e3;simp[Lv,sT]at h⊢;generalize k0+k1=x at*;generalize l0+l1=y at*;exact(uE 0x39ce5df158c2e4be2a185c8bbe2b105c97c5420b917105c9aa00e:) h0 hm h
theorem Va {k0 k1 k2 k3 b l0 l1 l2 l3 c:Int} (e3:k3=0∧l3=0) (h0:0≤b) (hb:b<3) (hc:0≤c) (hm:c<3) (h:Lv k0 k1 k2 k3 b 3<Lv l0 l1 l2 l3 c 3):Lv k0 k1 k2 k3 b 4<Lv l0 l1 l2 l3 c 4:=by
 obtain⟨rfl,rfl⟩:=e3;simp[Lv,sT]at h⊢;generalize k0+k1+k2=x at*;generalize l0+l1+l2=y at*;exact(uE 0x39ce5df15902e4be2a205c8bbe2b185c97c5430b917185c9aa00e:) h0 hm h
theorem QI {k0 k1 k2 k3 b l0 l1 l2 l3 c:Int} (e:k1=0∧k2=0∧k3=0) (f:l1=0∧l2=0∧l3=0) (hb:0≤b∧b≤3) (gb:0≤c∧c≤3) (hn:Lv k0 k1 k2 k3 b 1<Lv l0 l1 l2 l3 c 1):
 k0+k1+k2+k3≤l0+l1+l2+l3↔(Lv k0 k1 k2 k3 b 1<Lv l0 l1 l2 l3 c 1∧Lv k0 k1 k2 k3 b 2<Lv l0 l1 l2 l3 c 2∧Lv k0 k1 k2 k3 b 3<Lv l0 l1 l2 l3 c 3∧Lv k0 k1 k2 k3 b 4<Lv l0 l1 l2 l3 c 4):=by
 rw[e.1,e.2.1,e.2.2]at hn⊢;rw[f.1,f.2.1,f.2.2]at hn⊢;have hn:b+1*(0+(k0+0+0+0))<c+1*(0+(l0+0+0+0)):=hn;show _↔b+1*(0+(k0+0+0+0))<c+1*(0+(l0+0+0+0))∧b+2*(0+(k0+0+0+0))<c+2*(0+(l0+0+0+0))∧b+3*(0+(k0+0+0+0))<c+3*(0+(l0+0+0+0))∧b+4*(0+(k0+0+0+0))<c+4*(0+(l0+0+0+0));rw[br,br,bI,bI,bI,bI,cz,cz]at*;exact⟨fun q=>⟨hn,by lia,by lia,by lia⟩,fun q=>by lia⟩
theorem Sk (k0 k1 k2 k3 b:Int):Lv k0 k1 k2 k3 b 1=k1+2*k2+3*k3+(k0+k1+k2+k3)+b:=by
 show b+1*(k1+2*k2+3*k3+(k0+k1+k2+k3))=_;rw[cz,iA]
theorem LW.less {w v:WS} {k0 k1 k2 k3 b l0 l1 l2 l3 c:Int} (h:LW w k0 k1 k2 k3 b) (g:LW v l0 l1 l2 l3 c):w.less v=true↔(Lv k0 k1 k2 k3 b 1<Lv l0 l1 l2 l3 c 1∧Lv k0 k1 k2 k3 b 2<Lv l0 l1 l2 l3 c 2∧Lv k0 k1 k2 k3 b 3<Lv l0 l1 l2 l3 c 3∧Lv k0 k1 k2 k3 b 4<Lv l0 l1 l2 l3 c 4):=by
 have v2:=h.lvl (.inr (.inl rfl));have v3:=h.lvl (.inr (.inr (.inl rfl)));have v4:=h.lvl (.inr (.inr (.inr rfl)));have u2:=g.lvl (.inr (.inl rfl));have u3:=g.lvl (.inr (.inr (.inl rfl)));have u4:=g.lvl (.inr (.inr (.inr rfl)));have aw:=h.long;have av:=g.long;obtain⟨h0,h1,h2,h3,hb,hs,e1,e2,e3,e4⟩:=h;obtain⟨g0,g1,g2,g3,gb,gs,f1,f2,f3,f4⟩:=g;obtain⟨m,hm⟩:∃m,m=if v.longest>w.longest then v.longest else w.longest:=⟨_,rfl⟩;have am:b≤m∧c≤m∧(m=0∨m=1∨m=2∨m=3)∧(m<3→k3=0∧l3=0)∧(m<2→k2=0∧l2=0)∧(m<1→k1=0∧l1=0):=by
  rw[hm];clear hm v2 v3 v4 u2 u3 u4 e1 e2 e3 e4 f1 f2 f3 f4;have p:=hb.1;generalize v.longest=V at*;generalize w.longest=W at*;split
  ·rename_i q
   exact⟨aB aw.1 (aO q),av.1,Ld (aB p (aB aw.1 (aO q))) av.2.1,fun z=>⟨aw.2.2.1 (iz q z),av.2.2.1 z⟩,fun z=>⟨aw.2.2.2.1 (iz q z),av.2.2.2.1 z⟩,fun z=>⟨aw.2.2.2.2 (iz q z),av.2.2.2.2 z⟩⟩
  ·rename_i q
   have q:=gC.mp q;exact⟨aw.1,aB av.1 q,Ld (aB p aw.1) aw.2.1,fun z=>⟨aw.2.2.1 z,av.2.2.1 (cP q z)⟩,fun z=>⟨aw.2.2.2.1 z,av.2.2.2.1 (cP q z)⟩,fun z=>⟨aw.2.2.2.2 z,av.2.2.2.2 (cP q z)⟩⟩
 have s1:Lv k0 k1 k2 k3 b 1=w.n:=(Sk ..).trans e4.symm;have s2:Lv l0 l1 l2 l3 c 1=v.n:=(Sk ..).trans f4.symm;unfold WS.less;rw[←hm];by_cases hn:w.n≥v.n
 ·rw[if_pos hn,s1,s2]
  constructor
  ·intro q;cases q
  ·intro q;exact(gC.mpr hn q.1).elim
 ·rw[if_neg hn]
  have a1:Lv k0 k1 k2 k3 b 1<Lv l0 l1 l2 l3 c 1:=by rw[s1,s2];exact ma.mp hn
  by_cases hsi:w.cs.length≤1∧v.cs.length≤1
  ·rw[if_pos hsi,decide_eq_true_iff,e3,f3]
   have p1:=pU k0 k1 k2 k3;have p2:=pU l0 l1 l2 l3;rw[←e1]at p1;rw[←f1]at p2;have lt:∀{n m:Nat},n≤1→1<m→n<m:=fun h=>ca h;exact QI ⟨p1.2.2.2 (lt hsi.1 (by decide)),p1.2.2.1 (lt hsi.1 (by decide)),p1.2.1 (lt hsi.1 (by decide))⟩ ⟨p2.2.2.2 (lt hsi.2 (by decide)),p2.2.2.1 (lt hsi.2 (by decide)),p2.2.1 (lt hsi.2 (by decide))⟩ hb gb a1
  ·rw[if_neg hsi,AX am.2.2.1]
   rw[decide_eq_true_iff,decide_eq_true_iff,decide_eq_true_iff,v2,v3,v4,u2,u3,u4];refine⟨fun q=>?_,fun q=>⟨fun _=>q.2.1,fun _=>q.2.2.1,fun _=>q.2.2.2⟩⟩;have a2:Lv k0 k1 k2 k3 b 2<Lv l0 l1 l2 l3 c 2:=by
    by_cases z:1≤m
    ·exact q.1 z
    ·have z:=ma.mp z
     exact Vc (am.2.2.2.1 (iz z (by decide))) (am.2.2.2.2.1 (iz z (by decide))) (am.2.2.2.2.2 z) hb.1 (cP am.1 z) gb.1 (cP am.2.1 z) a1
   have a3:Lv k0 k1 k2 k3 b 3<Lv l0 l1 l2 l3 c 3:=by
    by_cases z:2≤m
    ·exact q.2.1 z
    ·have z:=ma.mp z
     exact Vb (am.2.2.2.1 (iz z (by decide))) (am.2.2.2.2.1 z) hb.1 (cP am.1 z) gb.1 (cP am.2.1 z) a2
   refine⟨a1,a2,a3,?_⟩;by_cases z:3≤m
   ·exact q.2.2 z
   ·have z:=ma.mp z
    exact Va (am.2.2.2.1 z) hb.1 (cP am.1 z) gb.1 (cP am.2.1 z) a3
theorem Ot {r:Int} (hr:r=0∨r=1∨r=2∨r=3):dl r 0+dl r 1+dl r 2+dl r 3=1:=by
 rcases hr with rfl|rfl|rfl|rfl<;>rfl
theorem nA:∀(rs:List Int),g8 rs→kN rs 0+kN rs 1+kN rs 2+kN rs 3=rs.length
 |[]=>@fun _=>rfl
 |r::rs=>@fun hr=>by
  have ih:=nA rs fun x q=>hr x (af _ q);rw[eJ,eJ,eJ,eJ,ay];have d:=Ot (hr r (au ..));generalize dl r 0=d0 at*;generalize dl r 1=d1 at*;generalize dl r 2=d2 at*;generalize dl r 3=d3 at*;rw[Pt,←ih];clear ih;lia
theorem sq {rs:List Int} {t:Int} {sfx:List Nat} (hr:g8 rs) (hl:rs.length≤5) (ht:0≤t∧t≤3) (hs:∀q,df sfx q=q):LW (oU (dp rs t++sfx)) (kN rs 0) (kN rs 1) (kN rs 2) (kN rs 3) t∧(oU (dp rs t++sfx)).n=(dp rs t).length:=by
 have e:=Ba (t:=t) hs rs hr 0 0 0 0 0 0 (by decide) (by decide) (by decide) (by decide);have e':df (dp rs t++sfx) ⟨0,0,0,[]⟩=⟨(dp rs t).length,rs.length,t.toNat,dU (kN rs 0) (kN rs 1) (kN rs 2) (kN rs 3)⟩:=by
  have:dU 0 0 0 0=[]:=rfl;rw[this]at e;rw[e];unfold wc;exact Hj (dR _) (dR _) (iF (br _) (br _) (br _) (br _))
 have hsum:=nA rs hr;have hlen:=ti t ht.1 rs hr;refine⟨⟨ey _ _,ey _ _,ey _ _,ey _ _,ht,by exact(Vh 0xe72a50b9eb7a9e9466427adea7a514285c2:) hl hsum,?_,?_,?_,?_⟩,?_⟩
 ·show(df (dp rs t++sfx) ⟨0,0,0,[]⟩).cs=_
  rw[e']
 ·show((df (dp rs t++sfx) ⟨0,0,0,[]⟩).b:Int)=_
  rw[e'];show((t.toNat:Nat):Int)=t;(exact bG ht.1)
 ·show((df (dp rs t++sfx) ⟨0,0,0,[]⟩).nt:Int)=_
  rw[e',hsum]
 ·show((df (dp rs t++sfx) ⟨0,0,0,[]⟩).n:Int)=_
  rw[e',hsum];unfold II at hlen;exact hlen
 ·show((df (dp rs t++sfx) ⟨0,0,0,[]⟩).n:Int)=_
  rw[e']
noncomputable def oz (rs:List Int) (t ts:Int):Int:=Lv (kN rs 0) (kN rs 1) (kN rs 2) (kN rs 3) t ts
theorem AR {rs:List Int} {t:Int} (hr:g8 rs):oB rs t=[oz rs t 1,oz rs t 2,oz rs t 3,oz rs t 4]:=by
 have hsum:=nA rs hr;have key:∀sz:Int,(sz=1∨sz=2∨sz=3∨sz=4)→lW sz rs 0+t=oz rs t sz:=fun sz h=>by
  rw[BU h rs hr 0 (by rcases h with rfl|rfl|rfl|rfl<;>rfl)];unfold oz Lv;rw[hsum];exact(ly 896387031474190:)
 show[lW 1 rs 0+t,lW 2 rs 0+t,lW 3 rs 0+t,lW 4 rs 0+t]=_;rw[key 1 (by simp),key 2 (by simp),key 3 (by simp),key 4 (by simp)]
theorem r6 {a b:Int}:a-b<0↔a<b:=by exact(ly 0x3b74a2e074128:)
theorem r7 {a b:Int}:0<a-b↔b<a:=by exact(ly 0x3b7426f04a00e:)
theorem Tq {a b c d x:Int}:max (max (max a b) c) d<x↔((a<x∧b<x)∧c<x)∧d<x:=by rw[K6,K6,K6]
theorem Tp {a b c d x:Int}:min (min (min a b) c) d>x↔((a>x∧b>x)∧c>x)∧d>x:=by
 show x<min (min (min a b) c) d↔((x<a∧x<b)∧x<c)∧x<d;rw[K7,K7,K7]
theorem NP {hs:List (List Nat)} {lw:List WS} {wk:List (List Int)} {bs:List Int} {al:WS} {k:Int} {rs wd:List Int} {t u:Int} {sfx sfx':List Nat} (hr:g8 rs) (hl:rs.length≤5) (ht:0≤t∧t≤3) (hs1:∀q,df sfx q=q)
 (hr':g8 wd) (hl':wd.length≤5) (ht':0≤u∧u≤3) (hs':∀q,df sfx' q=q) (e1:gz lw k.toNat=oU (dp rs t++sfx)) (e2:hs.getD k.toNat []=dp rs t) (e3:wk.getD k.toNat []=oB rs t) (e4:bs=oB wd u) (e5:al=oU (dp wd u++sfx')):Cj hs lw wk bs al k:=by
 obtain⟨A,An⟩:=sq hr hl ht hs1;obtain⟨B,Bn⟩:=sq hr' hl' ht' hs';rw[←e1]at A An;rw[←e5]at B Bn;have g:pZ wk bs k=[oz rs t 1-oz wd u 1,oz rs t 2-oz wd u 2,oz rs t 3-oz wd u 3,oz rs t 4-oz wd u 4]:=by
  unfold pZ;rw[e3,e4,AR hr,AR hr'];rfl
 refine⟨by rw[An,e2],?_,⟨_,by rw[g];rfl,?_⟩,⟨_,by rw[g];rfl,?_⟩⟩
 ·rw[decide_eq_decide,A.eq B,g]
  unfold oz;simp only[D3,and_true];lia
 ·have:=A.less B
  rw[oJ,this,decide_eq_true_iff];unfold oz;show _↔max (max (max _ _) _) _<0;rw[Tq,r6,r6,r6,r6,and_assoc,and_assoc]
 ·have:=B.less A
  rw[oJ,this,decide_eq_true_iff];unfold oz;show _↔min (min (min _ _) _) _>0;rw[Tp];show _↔((0<_∧0<_)∧0<_)∧0<_;rw[r7,r7,r7,r7,and_assoc,and_assoc]
noncomputable def T.leaves:T→List Nat
 |.leaf p=>[p]
 |.node l r _=>l.leaves++r.leaves
noncomputable def T.nl:T→Nat
 |.leaf _=>1
 |.node l r _=>l.nl+r.nl
noncomputable def k9:T→Nat→List (Nat×Nat×Nat)
 |.leaf _,_=>[]
 |.node l r _,a=>k9 l a++(a,a+l.nl,a+l.nl+r.nl)::k9 r (a+l.nl)
noncomputable def kW:T→Nat→List (Int×Int)
 |.leaf _,_=>[]
 |.node l r _,a=>((a:Int),((l.nl+r.nl-1:Nat):Int))::(kW l a++kW r (a+l.nl))
noncomputable def xT:T→Prop
 |.leaf _=>True
 |.node l r s=>xT l∧xT r∧(s=0∨s=1∨s=2∨s=3)
noncomputable def yV:T→Nat→Prop
 |.leaf p,a=>p=a
 |.node l r _,a=>yV l a∧yV r (a+l.nl)
noncomputable def Th (a m b:Nat):List (Nat×Nat):=(cQ a (m-a)).flatMap fun p=>(cQ m (b-m)).map fun q=>(p,q)
noncomputable def E7 (N:List (Nat×Nat×Nat)):List (Nat×Nat):=N.flatMap fun x=>Th x.1 x.2.1 x.2.2
noncomputable def Aj (i j:Nat):List (Nat×Nat):=(cQ i (j+2-i)).flatMap fun q=>(cQ i (q-i)).map fun p=>(p,q)
noncomputable def BJ (i j:Nat) (l:List (Nat×Nat)):List (Nat×Nat):=l.filter fun x=>decide (x.1<i)||decide (j+1<x.2)
noncomputable def OL (N:List (Nat×Nat×Nat)) (pt:List (Int×Int)) (i j:Nat):Bool:=
 let W:=E7 ((N.drop i).take (j+1-i));(W.all fun x=>decide (x.1<5)&&decide (x.2<5))&&W.isPerm (Aj i j++BJ i j W)&&((BJ i j W).isEmpty==decide (((i:Int),(j:Int)+1-i)∈pt))
noncomputable def Ho (N:List (Nat×Nat×Nat)) (pt:List (Int×Int)):Bool:=
 ([(0,0),(0,1),(0,2),(0,3),(1,1),(1,2),(1,3),(2,2),(2,3),(3,3)].all fun(x:Nat×Nat)=>OL N pt x.1 x.2)&&decide (N.map (·.2.1)=[1,2,3,4])
structure AZ (t:T):Prop where
 cont:yV t 0
 nl:t.nl=5
 rok:xT t
 chk:Ho (k9 t 0) (kW t 0)=true
 tok:t.ok 5
 size:t.size=9
 depth:t.depth≤4
noncomputable def tB:T→Nat→Bool
 |.leaf p,a=>mK p a&&jY p 5
 |.node l r _,a=>tB l a&&tB r (a+l.nl)
theorem uM:∀{t:T} {a:Nat},tB t a=true→yV t a∧t.ok 5
 |.leaf p,a=>fun h=>⟨pi (Ar.g2 h).1,cj (Ar.g2 h).2⟩
 |.node l r _,a=>fun h=>⟨⟨(uM (Ar.g2 h).1).1,(uM (Ar.g2 h).2).1⟩,(uM (Ar.g2 h).1).2,(uM (Ar.g2 h).2).2⟩
noncomputable def Li:List T→Bool
 |[t]=>tB t 0&&(mK t.nl 5&&(Ho (k9 t 0) (kW t 0)&&(mK t.size 9&&Nat.ble t.depth 4)))
 |_=>false
theorem Et {l:List T} (h:Li l=true) (hr:∀t∈l,xT t):∃t,l=[t]∧AZ t:=by
 cases l with
 |nil=>cases h
 |cons t l=>cases l with
  |cons _ _=>cases h
  |nil=>
   have h1:=Ar.g2 h;have h2:=Ar.g2 h1.2;have h3:=Ar.g2 h2.2;have h4:=Ar.g2 h3.2;exact⟨t,rfl,(uM h1.1).1,pi h2.1,hr t (au ..),h3.1,(uM h1.1).2,pi h4.1,cj h4.2⟩
theorem pM {l:List T} {p:Nat} {r:Int} (h:∀t∈l,xT t) (hr:r=0∨r=1∨r=2∨r=3):∀t∈gy l p r,xT t:=fun t ht=>by
 unfold gy at ht;cases e1:l[p]? with
 |none=>rw[e1]at ht;exact h t ht
 |some a=>cases e2:l[p+1]? with
  |none=>rw[e1,e2]at ht;exact h t ht
  |some b=>
   rw[e1,e2]at ht;rcases cF.mp ht with q|q
   ·rcases cF.mp q with q|q
    ·exact h t (fA q)
    ·rw[aT.mp q];exact⟨h a (ax e1),h b (ax e2),hr⟩
   ·exact h t (gZ q)
theorem rq {n p:Nat} {f:Nat→Bool} (h:(co n).all f=true) (q:p<n):f p=true:=bF.mp h _ (gX.mpr q)
theorem IF {p0 p1 p2 p3:Nat} {r0 r1 r2 r3:Int} (h0:p0<4) (h1:p1<3) (h2:p2<2) (h3:p3<1) (q0:r0=0∨r0=1∨r0=2∨r0=3) (q1:r1=0∨r1=1∨r1=2∨r1=3) (q2:r2=0∨r2=1∨r2=2∨r2=3) (q3:r3=0∨r3=1∨r3=2∨r3=3):
 ∃t,gy (gy (gy (gy leaves5 p0 r0) p1 r1) p2 r2) p3 r3=[t]∧AZ t:=by
 have K:((co 4).all fun p0=>(co 3).all fun p1=>(co 2).all fun p2=>(co 1).all fun p3=>Li (gy (gy (gy (gy leaves5 p0 r0) p1 r1) p2 r2) p3 r3))=true:=by kernel_rfl
 have K0:∀t∈leaves5,xT t:=fun t ht=>by
  cases t with
  |leaf p=>exact trivial
  |node l r s=>exact nomatch bF.mp (show leaves5.all (fun t=>match t with|.leaf _=>true|.node ..=>false)=true from rfl) _ ht
 exact Et (rq (rq (rq (rq K h0) h1) h2) h3) (pM (pM (pM (pM K0 q0) q1) q2) q3)
theorem pQ {c:Int} {k:Nat} (hk:k<4):fy c k<4-k:=by
 unfold fy;have h1:=bE c (b:=4-(k:Int)) (by exact(fN 0x72f090881701d6205c2:) hk);have h2:=cf c (b:=4-(k:Int)) (by exact(fN 0x72f090881701d6205c2:) hk);exact(zh 0x1ce5883bc242205c8b102e10c02205c1001c8:) hk h2
theorem tQ (x:Int):x.fmod 4=0∨x.fmod 4=1∨x.fmod 4=2∨x.fmod 4=3:=by
 have h1:=bE x (b:=4) (by decide);have h2:=cf x (b:=4) (by decide);exact(iG 0x1ce6f7bc8c2e46441723210b91903917205c8aa00e:) h1 h2
theorem Er (c0 c1 c2 c3 c4:Int):∃t,rB [c0,c1,c2,c3,c4]=[t]∧AZ t:=by
 unfold rB;exact IF (pQ (k:=0) (by decide)) (pQ (k:=1) (by decide)) (pQ (k:=2) (by decide)) (pQ (k:=3) (by decide)) (tQ _) (tQ _) (tQ _) (tQ _)
theorem Fm {α:Type} {f:α→Int} {l l':List α} (h:l.Perm l'):(l.map f).sum=(l'.map f).sum:=by
 induction h with
 |nil=>rfl
 |cons x _ ih=>simp only[bg,fO,ih]
 |swap x y l=>simp only[bg,fO];exact(ud 0x65ef5212f7a928:)
 |trans _ _ h1 h2=>rw[h1,h2]
theorem vW {α:Type} {f:α→Int}:∀{l:List α},(∀x∈l,0<f x)→0≤(l.map f).sum∧((l.map f).sum=0↔l=[])
 |[]=>@fun _=>⟨dj _,by simp⟩
 |x::l=>@fun h=>by
  have h1:=h x (au ..);obtain⟨h2,_⟩:=vW (l:=l) fun y q=>h y (af _ q);simp only[bg,fO];refine⟨by exact(ly 0xe72af4a00eaa40eba00e:) h1 h2,⟨fun e=>by omega,fun e=>by cases e⟩⟩
theorem pF {α β:Type} {f:β→Int} {g:α→List β}:∀l:List α,((l.flatMap g).map f).sum=(l.map fun x=>((g x).map f).sum).sum
 |[]=>rfl
 |x::l=>by
  rw[mz,bz,vF,pF l,bg,fO]
theorem pE (c:Int):∀l:List Int,(l.map fun x=>c*x).sum=c*l.sum
 |[]=>by simp
 |x::l=>by simp only[bg,fO,pE c l,eE]
theorem oK (c:Int):∀l:List Int,(l.map fun x=>x*c).sum=l.sum*c
 |[]=>by simp
 |x::l=>by simp only[bg,fO,oK c l,d7]
noncomputable def wF (due:List Int) (p:Nat):Int:=due.getD p 0
noncomputable def ff (due:List Int) (x:Nat×Nat):Int:=wF due x.1*wF due x.2
noncomputable def sW (due:List Int) (a b:Nat):Int:=((cQ a (b-a)).map (wF due)).sum
noncomputable def lO (due:List Int) (x:Nat×Nat×Nat):Int:=sW due x.1 x.2.1*sW due x.2.1 x.2.2
theorem Fa (due:List Int) (x:Nat×Nat×Nat):lO due x=((Th x.1 x.2.1 x.2.2).map (ff due)).sum:=by
 obtain⟨a,m,b⟩:=x;unfold lO Th;rw[pF];unfold sW;rw[←oK,be];congr 1;refine cR fun p _=>?_;show wF due p*_=_;rw[←pE,be,be];rfl
theorem tD (a b:Nat):aE a b=(cQ a (b-a)).map fun(k:Nat)=>(k:Int):=by
 unfold aE;rw[show((b:Int)-a).toNat=b-a by exact(dA 0xc148300c41001d090e42:),List.range'_eq_map_range,be];exact cR fun k _=>by show(a:Int)+k=((a+k:Nat):Int);(rfl)
theorem Md (due:List Int) (i j:Nat):PF due i j=((Aj i j).map (ff due)).sum:=by
 unfold PF Aj;rw[show(j:Int)+2=((j+2:Nat):Int)by(rfl),tD,List.flatMap_map,pF];have:∀l:List Nat,(l.flatMap fun(q:Nat)=>PL due i (q:Int)).sum=(l.map fun(q:Nat)=>(PL due i (q:Int)).sum).sum:=fun l=>by
  induction l with
  |nil=>rfl
  |cons x l ih=>rw[mz,vF,ih,bg,fO]
 rw[this];congr 1;refine cR fun q _=>?_;unfold PL;rw[tD,be,be];rfl
theorem R9 (due:List Int) (N:List (Nat×Nat×Nat)) (i j:Nat):WF (N.map (lO due)) i j=((E7 ((N.drop i).take (j+1-i))).map (ff due)).sum:=by
 unfold WF E7;rw[show((i:Int)).toNat=i by(rfl),show((j:Int)+1-i).toNat=j+1-i by exact(dA 0xc148300de10b841001d090de10ba42:),←zR,←zQ,pF];congr 1;exact cR fun x _=>Fa due x
theorem vR {n:Nat} {f:Nat→Nat→Bool} (h:((co n).all fun b=>(co (b+1)).all fun a=>f a b)=true) {a b:Nat} (h1:a≤b) (h2:b<n):f a b=true:=rq (f:=fun a=>f a b) (rq (f:=fun b=>(co (b+1)).all fun a=>f a b) h h2) (Me h1)
theorem Jc {a b:Nat} (h1:a≤b) (h2:b<4):Aj a b≠[]:=fun e=>by
 have:=vR (n:=4) (f:=fun a b=>!(Aj a b).isEmpty) (by decide) h1 h2;rw[e]at this;cases this
theorem CT {due:List Int} {N:List (Nat×Nat×Nat)} {pt:List (Int×Int)} (hc:Ho N pt=true) (hw:∀p,p<5→0<wF due p) (hb:∀i j:Nat,i≤j→j<4→(WF (N.map (lO due)) i j).natAbs<2^3000) {i j:Int} (hij:0≤i∧i≤j∧j<4):uk (N.map (lO due)) due pt i j:=by
 obtain⟨a,rfl⟩:=Ci hij.1;obtain⟨b,rfl⟩:=Ci (show 0≤j by exact(zh 0x1caa00ed6ae40b915448559080e:) hij);have h1:OL N pt a b=true:=by
  unfold Ho at hc;rw[ao]at hc;have h1:a≤b:=by exact(dA 0x39418b5ab902e90eb21c8559080e:) hij
  have h2:b<4:=by exact(dA 0xe588170f5ab902e90eb21c8559080e:) hij
  have:=bF.mp hc.1 (a,b) (zU.mp (vR (n:=4) (f:=fun a b=>Mh (a,b) [(0,0),(0,1),(0,2),(0,3),(1,1),(1,2),(1,3),(2,2),(2,3),(3,3)]) (by decide) h1 h2));exact this
 unfold OL at h1;dsimp only at h1;generalize hW:E7 ((N.drop a).take (b+1-a))=W at h1;rw[ao,ao]at h1;obtain⟨⟨h2,h3⟩,h4⟩:=h1;have hbd:=bF.mp h2;have hp:=Fm (f:=ff due) (Pp.mp h3);rw[bz,vF,←Md,←hW,←R9]at hp;have hpos:∀x∈W,0<ff due x:=fun x hx=>by
  have:=hbd x hx;rw[ao,decide_eq_true_iff,decide_eq_true_iff]at this;exact Int.mul_pos (hw _ this.1) (hw _ this.2)
 have hex:=vW (f:=ff due) (l:=BJ a b W) fun x hx=>hpos x (bw.mp hx).1;rw[←hW]at hex;refine⟨?_,by lia,hb a b (by exact(dA 0x39418b5ab902e90eb21c8559080e:) hij) (by exact(dA 0xe588170f5ab902e90eb21c8559080e:) hij),?_⟩
 ·rw[Md]
  have hin:∀x∈Aj a b,0<ff due x:=fun x hx=>hpos x ((Pp.mp h3).mem_iff.mpr (D1 _ hx));obtain⟨g1,g2⟩:=vW hin;have:=Jc (a:=a) (b:=b) (by exact(dA 0x39418b5ab902e90eb21c8559080e:) hij) (by exact(dA 0xe588170f5ab902e90eb21c8559080e:) hij);have:((Aj a b).map (ff due)).sum≠0:=fun e=>this (g2.mp e);exact(iG 0x7397401dec81c8aa00e:) g1 this
 ·have h5:=bt h4
  rw[←hW]at h5;have:WF (N.map (lO due)) a b=PF due a b↔BJ a b (E7 ((N.drop a).take (b+1-a)))=[]:=by rw[←hex.2];exact(ud 0x39dc81caca5197a928:) hp
  rw[this,←f5,h5,decide_eq_true_iff]
theorem FO {ws:List WS} {r s:Nat}:∀{k:Nat},s≤k→(∀i,s≤i→i<k→(gz ws i).less (gz ws r)=false)→(s=0∨(gz ws (s-1)).less (gz ws r)=true)→kg ws r k=(s:Int)-1
 |0=>@fun hs h h0=>by
  have:s=0:=by lia
  subst this;rfl
 |k+1=>@fun hs h h0=>by
  by_cases q:s=k+1
  ·subst q
   have h1:(gz ws k).less (gz ws r)=true:=by
    rcases h0 with h0|h0
    ·cases h0
    ·exact h0
   show(if(gz ws k).less (gz ws r)=true then(k:Int)else kg ws r k)=_;rw[if_pos h1];exact(fN 0x198042e93c2170a42:)
  ·show(if(gz ws k).less (gz ws r)=true then(k:Int)else kg ws r k)=_
   rw[if_neg (by rw[h k (by exact(dA 0xe728317b0f085c3151e10b862:) hs q) (by(exact ba _))];decide)];exact FO (by exact(dA 0xe728317b0f085c3151e10b862:) hs q) (fun i a b=>h i a (by(exact dJ b))) h0
theorem BB {ws:List WS} {r e:Nat} (he:e≤9):∀(d i:Nat),e-i=d→i≤e→(∀x,i≤x→x<e→(gz ws x).less (gz ws r)=false)→(e=9∨(gz ws e).less (gz ws r)=true)→jl ws r (9-i)=(e:Int)
 |0=>@fun i hd hi h h0=>by
  have:i=e:=by exact(dA 0xe730315062c01c418043:) hd hi
  subst this;by_cases q:i=9
  ·subst q;rfl
  ·have h1:(gz ws i).less (gz ws r)=true:=by
    rcases h0 with h0|h0
    ·(exact absurd h0 q)
    ·exact h0
   have h8:i≤8:=mJ (Nat.lt_of_le_of_ne he q);rw[show 9-i=(8-i)+1 from Nat.succ_sub h8];show(if(gz ws (8-(8-i))).less (gz ws r)=true then((8-(8-i):Nat):Int)else _)=_;rw[Pi h8,if_pos h1]
 |d+1=>@fun i hd hi h h0=>by
  have hlt:i<e:=Nat.lt_of_sub_eq_succ hd;have h8:i≤8:=mJ (aP hlt he);rw[show 9-i=(8-i)+1 from Nat.succ_sub h8];show(if(gz ws (8-(8-i))).less (gz ws r)=true then((8-(8-i):Nat):Int)else jl ws r (8-i))=_;rw[Pi h8,if_neg (by rw[h i (ba _) hlt];decide),show 8-i=9-(i+1)from(ul 8 i).symm];exact BB he d (i+1) (by exact(iq 0x7302361e10b845181e10b88318083:) hd) (by exact(iq 0x72847842e1e1e10b84518064:) hd) (fun x a b=>h x (by(exact a5 a)) b) h0
noncomputable def pairs6:List (Nat×Nat):=(co 6).flatMap fun m=>(co (m+1)).map fun a=>(a,m)
theorem xH (wt:List Int) {a m:Nat} (h1:a≤m) (h2:m≤5):rE wt ((2*a:Nat)-1:Int) ((2*m:Nat)-1:Int)=sW wt a m:=by
 have K:(pairs6.map fun x=>rE wt ((2*x.1:Nat)-1:Int) ((2*x.2:Nat)-1:Int))=pairs6.map fun x=>sW wt x.1 x.2:=by kernel_rfl
 exact dE.mp K (a,m) (zU.mp (vR (n:=6) (f:=fun a b=>Mh (a,b) pairs6) (by decide+kernel) h1 (Me h2)))
theorem tO {α:Type} {pre mid post:List α} {k:Nat} {d:α} (h:k<mid.length):(pre++mid++post).getD (pre.length+k) d=mid.getD k d:=by
 rw[ac,ac,aC,g6 (by exact(dA 21466178:)),gm,mh h]
theorem jT:∀t:T,t.size+1=2*t.nl
 |.leaf _=>rfl
 |.node l r _=>by
  have:=jT l;have:=jT r;show l.size+r.size+1+1=2*(l.nl+r.nl);lia
theorem s9:∀t:T,1≤t.nl
 |.leaf _=>ba _
 |.node l r _=>DR (s9 l)
theorem se {runs:List (List Int)} (hru:∀p,p<5→(runs.getD p []).length=5):∀(t:T) (ab:List Int),t.ok 5→ab.length+t.depth≤5→∀x∈c8 runs t ab,ab.length≤x.length
 |.leaf p=>@fun ab ht hab x hx=>by
  rw[show c8 runs (.leaf p) ab=[runs.getD p []]from rfl,aT]at hx;rw[hx,hru p ht];exact hab
 |.node l r s=>@fun ab ht hab x hx=>by
  rw[show c8 runs (.node l r s) ab=c8 runs l (ab++[s])++(ab++[s])::c8 runs r (ab++[s])from rfl]at hx;have hdl:l.depth≤max l.depth r.depth:=xb ..;have hdr:r.depth≤max l.depth r.depth:=jQ ..;replace hab:ab.length+(max l.depth r.depth+1)≤5:=hab;have e:(ab++[s]).length=ab.length+1:=by simp
  rcases cF.mp hx with q|q
  ·have:=se hru l (ab++[s]) ht.1 (by exact(rY 0x7394285cf20f0f085c21d0a173de10b8c2200a4:) hab e) x q;exact(iq 0x739420e84161e10b862:) e this
  ·rcases aD.mp q with rfl|q
   ·exact(dA 0x72821e1e10b862:) e
   ·have:=se hru r (ab++[s]) ht.2 (by exact(rY 0x7394285cf20f0f085c21d0a173de10b8c220085:) hab e) x q;exact(iq 0x739420e84161e10b862:) e this
structure HP (lw:List WS) (R:List (List Int)):Prop where
 len:R.length=9
 ge:∀i j,i<9→j<9→(R.getD j []).length≤(R.getD i []).length→(gz lw i).less (gz lw j)=false
 pre:∀i j,i<9→j<9→(∃x xs,R.getD j []=R.getD i []++x::xs)→(gz lw i).less (gz lw j)=true
theorem OA {a ls rs ln rn pl Rl ρ:Nat} (hR:Rl=2*a+(ls+1+rs)+pl) (h9:Rl=9) (zl:ls+1=2*ln) (zr:rs+1=2*rn) (nl1:1≤ln) (hρ:ρ=2*(a+ln)-1) {G:Prop}
 (k:ρ=2*a+ls→ρ<9→ρ+1+rs≤9→ρ+1+rs+pl=9→ρ+1=2*(a+ln)→ρ+1+rs+1=2*(a+ln+rn)→a+ln≤5→a+ln+rn≤5→G):G:=by
 have h1:ρ+1=2*(a+ln):=by rw[hρ];exact l9 (Nat.mul_pos (by decide:0<2) (aP nl1 (Nat.le_add_left ln a)))
 have h2:ρ=2*a+ls:=xq (h1.trans ((Ia 2 a ln).trans (congrArg (2*a+·) zl.symm)));clear hρ;subst h2;have h3:2*a+ls+1+rs+pl=9:=(congrArg (·+pl) (eY (2*a) (ls+1) rs)).trans (hR.symm.trans h9);have h4:=ae (d6 _ pl) (fJ h3);have h5:2*a+ls+1+rs+1=2*(a+ln+rn):=(congrArg (2*a+ls+1+·) zr).trans ((congrArg (·+2*rn) h1).trans (Ia 2 (a+ln) rn).symm);have h6:a+ln+rn≤5:=Nat.le_of_mul_le_mul_left (c:=2) (h5▸uH h4) (by decide);exact k rfl (aP (jP _) (ae (d6 _ rs) h4)) h4 h3 h1 h5 (ae (d6 _ rn) h6) h6
theorem OD {x y z:Nat}:x+(y+(z+1))+0=x+y+1+z:=(eY x y (z+1)).symm.trans (Nat.add_right_comm (x+y) z 1)
theorem Hb {x y:Nat} (h:x+1=y):(x:Int)=(y:Int)-1:=by rw[←h];exact(K8 (x:Int) 1).symm
theorem s3 {lw:List WS} {due:List Int} {runs R:List (List Int)} (H:HP lw R) (hru:∀p,p<5→(runs.getD p []).length=5):∀(t:T) (ab:List Int) (pre post:List (List Int)) (a:Nat),R=pre++c8 runs t ab++post→pre.length=2*a→t.ok 5→ab.length+t.depth≤4→
 (pre=[]∨∃pre' p zs,pre=pre'++[p]∧ab=p++zs)→(post=[]∨∃post' q zs,post=q::post'∧ab=q++zs)→∀x∈k9 t a,iW lw due (2*x.2.1-1)=lO due x
 |.leaf p=>@fun ab pre post a hR hl ht hd h1 h2 x hx=>by cases hx
 |.node l r s=>@fun ab pre post a hR hl ht hd h1 h2 x hx=>by
  have eR:c8 runs (.node l r s) ab=c8 runs l (ab++[s])++(ab++[s])::c8 runs r (ab++[s]):=rfl;have sl:=gp runs l (ab++[s]);have sr:=gp runs r (ab++[s]);have zl:=jT l;have zr:=jT r;have nl1:=s9 l;have nr1:=s9 r;have hdl:l.depth≤max l.depth r.depth:=xb ..;have hdr:r.depth≤max l.depth r.depth:=jQ ..;replace hd:ab.length+(max l.depth r.depth+1)≤4:=hd;have hab:(ab++[s]).length=ab.length+1:=by simp
  have hR9:=H.len;have hRl:R.length=2*a+(l.size+1+r.size)+post.length:=by
   rw[hR,eR];simp only[ai,ay,sl,sr,hl];exact(rY 0x61e57bc8f085c38884173caf7bc21710711082e:)
  replace hx:=cF.mp hx;rw[aD]at hx;rcases hx with hx|rfl|hx
  ·refine s3 H hru l (ab++[s]) pre ((ab++[s])::(c8 runs r (ab++[s])++post)) a ?_ hl ht.1 (by rw[hab];exact(iq 0x72840b9e37842e1508173de10b8a220083:) hd) ?_ (.inr ⟨_,ab++[s],[],rfl,by simp⟩) x hx
   ·rw[hR,eR];simp only[aC,cq]
   ·rcases h1 with h1|⟨pre',p,zs,h1,h1'⟩
    ·exact .inl h1
    ·exact .inr ⟨pre',p,zs++[s],h1,by rw[h1',aC]⟩
  ·obtain⟨ρ,hρ⟩:∃ρ,ρ=2*(a+l.nl)-1:=⟨_,rfl⟩
   refine OA hRl hR9 zl zr nl1 hρ fun hρ1 hρ9 hE9 hE hA1 hA2 hA3 hA4=>?_;have gR:∀{u v w:List (List Int)} {k:Nat},R=u++v++w→k<v.length→R.getD (u.length+k) []=v.getD k []:=fun e h=>e▸tO h;have hlr:(pre++c8 runs l (ab++[s])).length=ρ:=by rw[ai,sl,hl,hρ1]
   have hroot:R.getD ρ []=ab++[s]:=by
    have:=gR (u:=pre++c8 runs l (ab++[s])) (v:=[ab++[s]]) (w:=c8 runs r (ab++[s])++post) (k:=0) (by rw[hR,eR];simp only[aC,cq,bX]) (lq 0);rw[hlr]at this;exact this
   have hrow:∀{u v w:List (List Int)} {n i:Nat},R=u++v++w→u.length=n→n≤i→i<n+v.length→(∀x∈v,(ab++[s]).length≤x.length)→(R.getD ρ []).length≤(R.getD i []).length:=fun{u v w n i} e1 e2 e3 e4 e5=>by
    subst e2;have hk:i-u.length<v.length:=Nat.sub_lt_left_of_lt_add e3 e4;have:=gR e1 hk;rw[kR e3,ac (l:=v),aj hk]at this;rw[this,hroot];exact e5 _ (cH hk)
   have hlow:kg lw ρ ρ=((2*a:Nat):Int)-1:=by
    refine FO (hρ1▸d6 ..) (fun i h3 h4=>H.ge i ρ (ix h4 hρ9) hρ9 (hrow (u:=pre) (v:=c8 runs l (ab++[s])) (w:=(ab++[s])::(c8 runs r (ab++[s])++post)) (by rw[hR,eR];simp only[aC,cq]) hl h3 (by rw[sl,←hρ1];exact h4) (se hru l (ab++[s]) ht.1 (by rw[hab];exact(iq 0x72850b9e37842e1508173de10b8a220083:) hd)))) ?_;rcases h1 with h1|⟨pre',p,zs,h1,h1'⟩
    ·exact .inl (by rw[←hl,h1];rfl)
    ·have hl':pre'.length+1=2*a:=by rw[←hl,h1,ai];rfl
     have h2a:2*a-1=pre'.length:=by rw[←hl'];rfl
     refine .inr (H.pre _ _ (ca (ae (rZ ..) (hρ1▸d6 ..)) hρ9) hρ9 ?_);have e2:=gR (u:=pre') (v:=[p]) (w:=c8 runs (.node l r s) ab++post) (k:=0) (by rw[hR,h1,aC (pre'++[p])]) (lq 0);rw[h2a,show R.getD pre'.length []=p from e2,hroot,h1',aC];cases zs with
     |nil=>exact⟨_,_,rfl⟩
     |cons z zs=>exact⟨_,_,rfl⟩
   have hhigh:jl lw ρ (8-ρ)=((ρ+1+r.size:Nat):Int):=by
    rw[show 8-ρ=9-(ρ+1)from(ul 8 ρ).symm];refine BB hE9 _ _ rfl (d6 ..) (fun i h3 h4=>H.ge i ρ (aP h4 hE9) hρ9 (hrow (u:=pre++c8 runs l (ab++[s])++[ab++[s]]) (v:=c8 runs r (ab++[s])) (w:=post) (by rw[hR,eR];simp only[aC,cq,bX]) (by rw[ai,hlr];rfl) h3 (by rw[sr];exact h4) (se hru r (ab++[s]) ht.2 (by rw[hab];exact(iq 0x72850b9e37842e1508173de10b8a220064:) hd)))) ?_;rcases h2 with h2|⟨post',q,zs,h2,h2'⟩
    ·exact .inl (by rw[h2]at hE;exact hE)
    ·rw[h2]at hE
     refine .inr (H.pre _ _ (Nat.lt_of_lt_of_eq (Nat.lt_add_of_pos_right (lq _)) hE) hρ9 ?_);have e2:=gR (u:=pre++c8 runs (.node l r s) ab) (v:=[q]) (w:=post') (k:=0) (by rw[hR,h2,aC _ [q]];rfl) (lq 0);rw[show(pre++c8 runs (.node l r s) ab).length+0=ρ+1+r.size by rw[eR,ai,ai,ay,sl,sr,hl,hρ1];exact OD]at e2;rw[show R.getD (ρ+1+r.size) []=q from e2,hroot,h2',aC];cases zs with
     |nil=>exact⟨_,_,rfl⟩
     |cons z zs=>exact⟨_,_,rfl⟩
   show iW lw due (2*(a+l.nl)-1)=_;rw[←hρ];unfold iW lO;rw[hlow,hhigh,Hb hA1,Hb hA2,xH due (d6 ..) hA3,xH due (d6 ..) hA4]
  ·refine s3 H hru r (ab++[s]) (pre++c8 runs l (ab++[s])++[ab++[s]]) post (a+l.nl) ?_ ?_ ht.2 (by rw[hab];exact(iq 0x72840b9e37842e1508173de10b8a220064:) hd) (.inr ⟨_,ab++[s],[],rfl,by simp⟩) ?_ x hx
   ·rw[hR,eR];simp only[aC,cq,bX]
   ·simp only[ai,ay,bf,sl,hl];exact(iq 0x3988bc64105cf7842e039e28904176223105cf085c2:) zl
   ·rcases h2 with h2|⟨post',q,zs,h2,h2'⟩
    ·exact .inl h2
    ·exact .inr ⟨post',q,zs++[s],h2,by rw[h2',aC]⟩
theorem JI {a n p s:Nat} (z:s+1=2*n) (h:a+n≤p):2*(p-a)-s=2*(p-(a+n))+1:=by
 refine Un (Nat.exists_eq_add_of_le h) fun d e=>?_;subst e;rw[gm,eY,gm,Ia,←z,eY,gm,iy]
theorem CC {a b c ts:Int} (ha:0≤a) (hb:0≤b) (hc:0≤c) (hts:ts=1∨ts=2∨ts=3∨ts=4):0≤sT a b c ts:=by
 have m:∀{n x:Int},0≤n→0≤x→0≤n*x:=cb;rcases hts with rfl|rfl|rfl|rfl
 ·exact dk (dk ha (m (by decide) hb)) (m (by decide) hc)
 ·exact dk hb hc
 ·exact hc
 ·exact dj _
theorem Sl {k0 k1 k2 k3 a0 a1 a2 a3 t ts:Int} (n1:0≤a1) (n2:0≤a2) (n3:0≤a3) (s:0<a0+a1+a2+a3) (hts:ts=1∨ts=2∨ts=3∨ts=4):Lv k0 k1 k2 k3 t ts<Lv (k0+a0) (k1+a1) (k2+a2) (k3+a3) t ts:=by
 unfold Lv;rw[EQ hts];have h:=CC n1 n2 n3 hts;have hp:0<ts:=by rcases hts with rfl|rfl|rfl|rfl<;>decide
 refine Int.add_lt_add_left (Int.mul_lt_mul_of_pos_left ?_ hp) t;generalize sT a1 a2 a3 ts=x at*;generalize sT k1 k2 k3 ts=y at*;clear hts hp n1 n2 n3;lia
theorem qP {runs:List (List Int)}:∀(t:T) (ab:List Int) (a:Nat),yV t a→∀p,a≤p→p<a+t.nl→(c8 runs t ab).getD (2*(p-a)) []=runs.getD p []
 |.leaf q=>@fun ab a h p h1 h2=>by
  have hq:q=a:=h;simp only[T.nl]at h2;have:p=a:=by lia
  subst this hq;rw[um];rfl
 |.node l r s=>@fun ab a h p h1 h2=>by
  have sl:=gp runs l (ab++[s]);have sr:=gp runs r (ab++[s]);have zl:=jT l;have zr:=jT r;simp only[T.nl]at h2;show(c8 runs l (ab++[s])++(ab++[s])::c8 runs r (ab++[s])).getD _ []=_;by_cases q:p<a+l.nl
  ·rw[ac,mh (by rw[sl];exact(rY 0x1ce72c489841759e510f112882e7842e2506218043:) h1 zl q),←ac]
   exact qP l _ a h.1 p h1 q
  ·have:=qP (runs:=runs) r (ab++[s]) (a+l.nl) h.2 p (by(exact c5.mp q)) (by exact(rY 0x72cf2bc83159ef29062:) h2)
   rw[←this,ac,g6 (by rw[sl];exact(rY 0x39ca44c20b85eb3c6526223105cf085c2180a4:) zl q),sl,show 2*(p-a)-l.size=2*(p-(a+l.nl))+1 from JI zl (c5.mp q),List.getElem?_cons_succ,←ac]
theorem qO {runs:List (List Int)} (h1:∀p,p<5→(runs.getD p []).length=5) (h2:∀p,p<5→g8 (runs.getD p [])):∀(t:T) (ab:List Int),t.ok 5→xT t→g8 ab→ab.length+t.depth≤5→∀x∈c8 runs t ab,g8 x∧x.length≤5
 |.leaf p=>@fun ab ht _ _ _ x hx=>by
  rw[show c8 runs (.leaf p) ab=[runs.getD p []]from rfl,aT]at hx;rw[hx];exact⟨h2 p ht,by rw[h1 p ht];decide⟩
 |.node l r s=>@fun ab ht hk ha hd x hx=>by
  rw[show c8 runs (.node l r s) ab=c8 runs l (ab++[s])++(ab++[s])::c8 runs r (ab++[s])from rfl]at hx;have hdl:l.depth≤max l.depth r.depth:=xb ..;have hdr:r.depth≤max l.depth r.depth:=jQ ..;simp only[T.depth]at hd;have e:(ab++[s]).length=ab.length+1:=by simp
  have hs:g8 (ab++[s]):=fun z hz=>by
   rcases cF.mp hz with q|q
   ·exact ha z q
   ·rw[aT.mp q];exact hk.2.2
  rcases cF.mp hx with q|q
  ·exact qO h1 h2 l _ ht.1 hk.1 hs (by exact(rY 0x7394285cf20f0f085c21d0a173de10b8c2200a4:) hd e) x q
  ·rcases aD.mp q with rfl|q
   ·exact⟨hs,by exact(iq 0x1ce50a17130f085c2250a173de10b862:) hd e⟩
   ·exact qO h1 h2 r _ ht.2 hk.2.1 hs (by exact(rY 0x7394285cf20f0f085c21d0a173de10b8c220085:) hd e) x q
theorem wn (a b:List Int) (i:Int):kN (a++b) i=kN a i+kN b i:=by
 unfold kN;rw[List.filter_append,ai];(rfl)
theorem UW (a b c d t:Int):Lv a b c d t 4=t+4*(a+b+c+d):=congrArg (t+4*·) (br _)
theorem ET {lw:List WS} {R:List (List Int)} {tl:Int} (hl:R.length=9) (hr:∀x∈R,g8 x∧x.length≤5) (hw:∀i,i<9→LW (gz lw i) (kN (R.getD i []) 0) (kN (R.getD i []) 1) (kN (R.getD i []) 2) (kN (R.getD i []) 3) tl):HP lw R:=by
 have hm:∀i,i<9→g8 (R.getD i []):=fun i hi=>by
  rw[ac,aj (by(rw[hl];exact hi))];exact(hr _ (cH _)).1
 refine⟨hl,fun i j hi hj h=>?_,fun i j hi hj ⟨x,xs,e⟩=>?_⟩
 ·have:=(hw i hi).less (hw j hj)
  rw[←Bool.not_eq_true,this];have s1:=nA _ (hm i hi);have s2:=nA _ (hm j hj);rintro⟨_,_,_,q⟩;rw[UW,UW,s1,s2]at q;exact(HK 0x739fbbe321102e43e321902e45062:) h q
 ·have:=(hw i hi).less (hw j hj)
  rw[this,e,wn,wn,wn,wn];have hj':=hm j hj;rw[e]at hj';have s1:=nA (x::xs) fun y hy=>hj' y (jH _ hy);rw[ay]at s1;have s2:0<kN (x::xs) 0+kN (x::xs) 1+kN (x::xs) 2+kN (x::xs) 3:=by rw[s1];exact PN.mpr (lq _)
  have q:=fun{k0 k1 k2 k3 ts:Int}=>Sl (k0:=k0) (k1:=k1) (k2:=k2) (k3:=k3) (t:=tl) (ts:=ts) (ey (x::xs) 1) (ey (x::xs) 2) (ey (x::xs) 3) s2;exact⟨q (.inl rfl),q (.inr (.inl rfl)),q (.inr (.inr (.inl rfl))),q (.inr (.inr (.inr rfl)))⟩
noncomputable def mark (c:Nat):Bool:=c==40||c==41||c==44||c==120
noncomputable def yr:List Nat→Bool
 |[]=>false
 |[a]=>a !=120
 |a::b::r=>!mark a&&!mark b&&r.all fun c=>!mark c
theorem JK:(tokTab.all fun p=>yr p.1.cps.toList)=true:=by decide+kernel
theorem lR {l:List Nat} (h:yr l=false):eZ l=none:=by
 unfold eZ;cases e:tokTab.lookup (S l)with
 |none=>rfl
 |some i=>
  have:=bF.mp JK _ (bk e);dsimp only at this;rw[nN,h]at this;cases this
theorem qQ:∀(w:Nat) (l:List Nat),l.length≤w→nu w l=nu l.length l
 |0,[],_=>rfl
 |w+1,[],_=>rfl
 |w+1,c::r,h=>by
  rw[ay]at h⊢;unfold nu;have hd:((c::r).drop (max (bO (c::r) 3) 1)).length≤r.length:=by
   rw[cp,ay];have:=jQ (bO (c::r) 3) 1;exact(dA 0x141146023c2170880085c3:)
  rw[qQ w _ (by exact(iq 0x739419282251e10b86f085c2:) h hd),qQ r.length _ hd]
theorem mr (c:Nat) (r:List Nat):dH (c::r)=(if bO (c::r) 3=0 then[]else[(eZ ((c::r).take (bO (c::r) 3))).getD 0])++dH ((c::r).drop (max (bO (c::r) 3) 1)):=by
 unfold dH;rw[ay];conv=>lhs;rw[nu]
 have hd:((c::r).drop (max (bO (c::r) 3) 1)).length≤r.length:=by
  rw[cp,ay];have:=jQ (bO (c::r) 3) 1;exact(dA 0x141146023c2170880085c3:)
 rw[qQ r.length _ hd]
theorem SP {l:List Nat} (h:(eZ (l.take 3)).isSome=true):bO l 3=3:=by rw[bO];rw[if_pos h]
theorem U2 {l:List Nat} (h3:eZ (l.take 3)=none) (h:(eZ (l.take 2)).isSome=true):bO l 3=2:=by
 rw[bO];rw[if_neg (by rw[h3];decide)];rw[bO];rw[if_pos h]
theorem U3 {l:List Nat} (h3:eZ (l.take 3)=none) (h2:eZ (l.take 2)=none) (h:(eZ (l.take 1)).isSome=true):bO l 3=1:=by
 rw[bO];rw[if_neg (by rw[h3];decide)];rw[bO];rw[if_neg (by rw[h2];decide)];rw[bO];rw[if_pos h]
theorem U4 {l:List Nat} (h3:eZ (l.take 3)=none) (h2:eZ (l.take 2)=none) (h:eZ (l.take 1)=none):bO l 3=0:=by
 rw[bO];rw[if_neg (by rw[h3];decide)];rw[bO];rw[if_neg (by rw[h2];decide)];rw[bO];rw[if_neg (by rw[h];decide)];rfl
theorem nX {a:Nat} {v:Int} {r:List Nat} (hv:eZ [a]=some v) (h:∀b s,r=b::s→(mark a||mark b)=true):dH (a::r)=v::dH r:=by
 have k3:eZ ((a::r).take 3)=none∨r=[]:=by
  cases r with
  |nil=>exact .inr rfl
  |cons b s=>
   refine .inl (lR ?_);have:=h b s rfl;show yr (a::b::s.take 1)=false;unfold yr;cases ha:mark a<;>cases hb:mark b<;>simp_all
 have k2:eZ ((a::r).take 2)=none∨r=[]:=by
  cases r with
  |nil=>exact .inr rfl
  |cons b s=>
   refine .inl (lR ?_);have:=h b s rfl;show yr (a::b::s.take 0)=false;unfold yr;cases ha:mark a<;>cases hb:mark b<;>simp_all
 rw[mr];rcases k3 with k3|rfl
 ·rcases k2 with k2|rfl
  ·have k1:eZ ((a::r).take 1)=some v:=hv
   rw[U3 k3 k2 (by rw[k1];rfl),if_neg (by decide),k1];rfl
  ·have k1:eZ (([a]:List Nat).take 3)=some v:=hv
   rw[SP (by rw[k1];rfl),if_neg (by decide),k1];rfl
 ·have k1:eZ (([a]:List Nat).take 3)=some v:=hv
  rw[SP (by rw[k1];rfl),if_neg (by decide),k1];rfl
theorem Qi (r:List Nat):dH (120::r)=dH r:=by
 have k3:eZ ((120::r).take 3)=none:=lR (by cases r<;>rfl);have k2:eZ ((120::r).take 2)=none:=lR (by cases r<;>rfl);have k1:eZ ((120::r).take 1)=none:=lR rfl;rw[mr,U4 k3 k2 k1,if_pos rfl];rfl
theorem Ny:eZ [40]=some 7:=by decide+kernel
theorem Nx:eZ [41]=some 8:=by decide+kernel
theorem Nz:eZ [44]=some 12:=by decide+kernel
theorem Lo (r:List Nat):dH (40::r)=7::dH r:=nX Ny fun _ _ _=>rfl
theorem Ln (r:List Nat):dH (41::r)=8::dH r:=nX Nx fun _ _ _=>rfl
theorem E0 (r:List Nat):dH (44::r)=12::dH r:=nX Nz fun _ _ _=>rfl
noncomputable def Lc (p:List Nat×Nat):Bool:=(eZ p.1==some (13+(p.2:Int)))&&(p.1.all fun c=>!mark c&&c !=32&&c !=9&&c !=34&&c !=92&&c !=39&&decide (c<0x110000))&&decide (1≤p.1.length)&&decide (p.1.length≤3)
theorem Ed:(signL.zipIdx.all Lc)=true:=by decide+kernel
theorem Bh {w:List Nat} {v:Int} {c:Nat} {r:List Nat} (hk:eZ w=some v) (hl:1≤w.length∧w.length≤3) (hc:mark c=true):dH (w++c::r)=v::dH (c::r):=by
 match w,hl with
 |[a],_=>exact nX hk fun b s e=>by cases e;rw[hc];simp
 |[a,b],_=>
  have k3:eZ (([a,b]++c::r).take 3)=none:=lR (by
   show yr [a,b,c]=false;unfold yr;simp[hc]);have k2:eZ (([a,b]++c::r).take 2)=some v:=hk;show dH (a::(b::c::r))=_;rw[mr];have e:bO (a::b::c::r) 3=2:=U2 (l:=[a,b]++c::r) k3 (by rw[k2];rfl);rw[e,if_neg (by decide)];have k2':eZ ((a::b::c::r).take 2)=some v:=hk;rw[k2'];rfl
 |[a,b,d],_=>
  have k3:eZ (([a,b,d]++c::r).take 3)=some v:=hk;show dH (a::(b::d::c::r))=_;rw[mr];have e:bO (a::b::d::c::r) 3=3:=SP (l:=[a,b,d]++c::r) (by rw[k3];rfl);rw[e,if_neg (by decide)];have k3':eZ ((a::b::d::c::r).take 3)=some v:=hk;rw[k3'];rfl
structure o8 (w:List Nat) (n:Int):Prop where
 key:eZ w=some n
 len:1≤w.length∧w.length≤3
 all:∀c∈w,mark c=false∧c≠32∧c≠9∧c≠34∧c≠92∧c≠39∧c<0x110000
theorem Bb {n:Int} (h:13≤n∧n≤54):o8 (ig n) n:=by
 have hlen:signL.length=42:=by decide+kernel
 have hi:(n-13).toNat<signL.length:=by rw[hlen];exact(iG 0xe582a1385aa86c2722a8685c1001d0685c8:) h
 have e:ig n=signL[(n-13).toNat]:=by
  unfold ig;rw[ac,aj hi];rfl
 have hm:(signL[(n-13).toNat],(n-13).toNat)∈signL.zipIdx:=List.mem_zipIdx_iff_getElem?.mpr (aj hi);have:=bF.mp Ed _ hm;rw[←e]at this;unfold Lc at this;simp only[ao,decide_eq_true_iff,beq_iff_eq,bF,bne_iff_ne,gT]at this;obtain⟨⟨⟨h1,h2⟩,h3⟩,h4⟩:=this;refine⟨?_,⟨h3,h4⟩,fun c hc=>?_⟩
 ·rw[h1];congr 1;exact(iG 0x39943e42685daa86c2722a8685c1001d0685c8:) h
 ·have:=h2 c hc
  exact⟨this.1.1.1.1.1.1,this.1.1.1.1.1.2,this.1.1.1.1.2,this.1.1.1.2,this.1.1.2,this.1.2,this.2⟩
theorem sf {ws:List (List Nat)} {ns:List Int} (hw:∀p,p<5→o8 (ws.getD p []) (ns.getD p 0)):∀(t:T),t.ok 5→∀(c:Nat) (r:List Nat),mark c=true→dH (aR ws t++c::r)=ij ns t++dH (c::r)
 |.leaf p=>@fun ht c r hc=>by
  show dH (ws.getD p []++c::r)=[ns.getD p 0]++dH (c::r);rw[Bh (hw p ht).key (hw p ht).len hc];rfl
 |.node l r' s=>@fun ht c r hc=>by
  show dH (40::(aR ws l++44::(aR ws r'++[41]))++c::r)=(7::(ij ns l++12::(ij ns r'++[8])))++dH (c::r);simp only[cq,aC,bX];rw[Lo,sf hw l ht.1 44 _ rfl,E0,sf hw r' ht.2 41 _ rfl,Ln]
theorem I1 {ws:List (List Nat)} {ns:List Int} (hw:∀p,p<5→o8 (ws.getD p []) (ns.getD p 0)) {t:T} (ht:t.ok 5) (h:2≤t.nl):dH (aR ws t)=ij ns t:=by
 cases t with
 |leaf p=>simp[T.nl]at h
 |node l r s=>
  show dH (40::(aR ws l++44::(aR ws r++[41])))=7::(ij ns l++12::(ij ns r++[8]));rw[Lo,sf hw l ht.1 44 _ rfl,E0,sf hw r ht.2 41 _ rfl,Ln];rfl
theorem ro:∀(w:List Nat),(∀c∈w,mark c=false)→∀(r:List Nat) (o:Int),cZ (w++r) o=cZ r o
 |[]=>@fun _ r o=>rfl
 |c::w=>@fun h r o=>by
  have hc:=h c (au ..);have h1:c≠40:=fun e=>by rw[e]at hc;cases hc
  have h2:c≠41:=fun e=>by rw[e]at hc;cases hc
  rw[cq];conv=>lhs;rw[cZ]
  rw[if_neg h1,if_neg h2];exact ro w (fun x q=>h x (af _ q)) r o
theorem AT (r:List Nat) (o:Int):cZ (40::r) o=cZ r (o+1):=by conv=>lhs;rw[cZ];rw[if_pos rfl]
theorem Hm {r:List Nat} {o:Int} (h:1≤o):cZ (41::r) o=cZ r (o-1):=by
 conv=>lhs;rw[cZ]
 rw[if_neg (by decide),if_pos rfl,if_neg (by exact(iG 0x73d703a010b9154042e:) h)]
theorem wL (r:List Nat) (o:Int):cZ (44::r) o=cZ r o:=by
 conv=>lhs;rw[cZ]
 rw[if_neg (by decide),if_neg (by decide)]
noncomputable def qJ (ws:List (List Nat)):Prop:=∀p,p<5→∀c∈ws.getD p [],mark c=false
theorem i0 {ws:List (List Nat)} (hw:qJ ws):∀(t:T),t.ok 5→∀(r:List Nat) (o:Int),0≤o→cZ (aR ws t++r) o=cZ r o
 |.leaf p=>@fun ht r o _=>ro _ (hw p ht) r o
 |.node l r' s=>@fun ht r o h=>by
  show cZ (40::(aR ws l++44::(aR ws r'++[41]))++r) o=_;simp only[cq,aC,bX];rw[AT,i0 hw l ht.1 _ _ (by(exact dk h (by decide))),wL,i0 hw r' ht.2 _ _ (by(exact dk h (by decide))),Hm (by exact(iG 0x3957842e4042eaa00e:) h)];congr 1;exact(iG 0x6510085cf085c8:)
theorem qr {ws:List (List Nat)} (hw:qJ ws):∀(t:T),t.ok 5→∀(k:Nat) (o:Int),1≤o→cZ ((aR ws t).take k) o=false
 |.leaf p=>@fun ht k o h=>by
  have:=ro ((ws.getD p []).take k) (fun c q=>hw p ht c (fA q)) [] o;rw[bH]at this;show cZ ((ws.getD p []).take k) o=false;rw[this];show(o==0)=false;rw[beq_eq_false_iff_ne];(exact db h)
 |.node l r s=>@fun ht k o h=>by
  have z:∀o:Int,1≤o→cZ [] o=false:=fun o h=>by show(o==0)=false;rw[beq_eq_false_iff_ne];exact(iG 0x73d9039154042e:) h
  show cZ ((40::(aR ws l++44::(aR ws r++[41]))).take k) o=false;cases k with
  |zero=>exact z o h
  |succ k=>
   rw[iH,AT,mX];by_cases q:k≤(aR ws l).length
   ·rw[show k-(aR ws l).length=0 by exact(dA 0xe600e2506218062:) q,lA,bH]
    exact qr hw l ht.1 k _ (by exact(iG 0x72af085c8085d54042e:) h)
   ·rw[bD (by exact(dA 983618768994:) q),i0 hw l ht.1 _ _ (by exact(iG 0x3957842e401d54042e:) h)]
    obtain⟨j,hj⟩:∃j,k-(aR ws l).length=j+1:=⟨k-(aR ws l).length-1,by exact(dA 0x3987842e293d418860085c418062:) q⟩;rw[hj,iH,wL,mX];by_cases q2:j≤(aR ws r).length
    ·rw[show j-(aR ws r).length=0 by exact(dA 0xe600e2506218062:) q2,lA,bH]
     exact qr hw r ht.2 j _ (by exact(iG 0x72af085c8085d54042e:) h)
    ·rw[bD (by exact(dA 983618768994:) q2),i0 hw r ht.2 _ _ (by exact(iG 0x3957842e401d54042e:) h)]
     obtain⟨i,hi⟩:∃i,j-(aR ws r).length=i+1:=⟨j-(aR ws r).length-1,by exact(dA 0x3987842e293d418860085c418062:) q2⟩;rw[hi,iH,Hm (by lia),List.take_nil];exact z _ (by exact(iG 0x72b0085cf085c8085d54042e:) h)
theorem Ky {ws:List (List Nat)} (hw:qJ ws) {l r:T} {s:Int} (ht:(T.node l r s).ok 5) {k:Nat} (h1:1≤k) (h2:k<(aR ws (.node l r s)).length):cZ ((aR ws (.node l r s)).take k) 0=false:=by
 have z:∀o:Int,1≤o→cZ [] o=false:=fun o h=>by show(o==0)=false;rw[beq_eq_false_iff_ne];exact(iG 0x73d9039154042e:) h
 have hl:(aR ws (.node l r s)).length=(aR ws l).length+(aR ws r).length+3:=by
  show(40::(aR ws l++44::(aR ws r++[41]))).length=_;simp only[ay,ai,bf];(rfl)
 show cZ ((40::(aR ws l++44::(aR ws r++[41]))).take k) 0=false;obtain⟨k,rfl⟩:∃j,k=j+1:=⟨k-1,by exact(fN 0x730f085c3150410b860085c2:) h1⟩;rw[iH,AT,mX];by_cases q:k≤(aR ws l).length
 ·rw[show k-(aR ws l).length=0 by exact(dA 0xe600e2506218062:) q,lA,bH]
  exact qr hw l ht.1 k _ (by(exact dj _))
 ·rw[bD (by exact(dA 983618768994:) q),i0 hw l ht.1 _ _ (by(exact aY _))]
  obtain⟨j,hj⟩:∃j,k-(aR ws l).length=j+1:=⟨k-(aR ws l).length-1,by exact(dA 0x3987842e293d418860085c418062:) q⟩;rw[hj,iH,wL,mX,show j-(aR ws r).length=0 by lia,lA,bH];exact qr hw r ht.2 j _ (by lia)
theorem CY {ws:List (List Nat)} (l r:T) (s:Int):∃u,aR ws (.node l r s)=u++[41]:=⟨40::(aR ws l++44::aR ws r),by show 40::(aR ws l++44::(aR ws r++[41]))=_;simp⟩
theorem yG {ws:List (List Nat)} (hw:qJ ws) {l r:T} {s:Int} (ht:(T.node l r s).ok 5) (pre post:List Nat):((gr (pre++aR ws (.node l r s)++post) pre.length).find? fun t=>cZ t 0)=some (aR ws (.node l r s)):=by
 obtain⟨u,hu⟩:=CY (ws:=ws) l r s;have hc:=i0 hw (.node l r s) ht [] 0 (by decide);have hp:=fun k=>Ky hw ht (k:=k);generalize aR ws (.node l r s)=x at hu hc hp;have hx:x.length=u.length+1:=by rw[hu];simp
 unfold gr;rw[PK,List.find?_filter];unfold aE;rw[PK];have hT:∀k:Nat,k<x.length→qD (((pre.length:Int)+(k:Int)).toNat+1-pre.length) (qE pre.length (pre++x++post))=x.take (k+1):=fun k hk=>by
  rw[show((pre.length:Int)+(k:Int)).toNat+1-pre.length=k+1 by exact(dA 0xc3c21708a300de10b881001cf90a43:),aC,PM,List.take_append_of_le_length (by(assumption))]
 have hG:∀k:Nat,k<x.length→(pre++x++post).getD ((pre.length:Int)+(k:Int)).toNat 0=x.getD k 0:=fun k hk=>by
  rw[show((pre.length:Int)+(k:Int)).toNat=pre.length+k by(rfl),tO hk]
 refine(congrArg _ (congrArg _ (zS (i:=u.length).mpr ⟨?_,?_,?_⟩))).trans ?_
 ·show decide (decide ((pre++x++post).getD ((pre.length:Int)+(u.length:Int)).toNat 0=41)=true∧cZ (qD (((pre.length:Int)+(u.length:Int)).toNat+1-pre.length) (qE pre.length (pre++x++post))) 0=true)=true
  rw[hT _ (by(exact fJ (Py hx))),hG _ (by(exact fJ (Py hx))),←hx,mW,decide_eq_true_iff,decide_eq_true_iff];rw[bH]at hc;refine⟨?_,hc⟩;rw[hu,ac,g6 (ba _),um];rfl
 ·rw[gX]
  simp only[ai];exact(rY 0xe58c3c3c2170c41001d09124f2bc44:) hx
 ·intro j hj
  show(!decide (decide ((pre++x++post).getD ((pre.length:Int)+(j:Int)).toNat 0=41)=true∧cZ (qD (((pre.length:Int)+(j:Int)).toNat+1-pre.length) (qE pre.length (pre++x++post))) 0=true))=true;rw[hT _ (by exact(iq 0x7396112c3261e10b862:) hx hj),hp _ (by exact(fN 22506750673966:)) (by exact(iq 0x739613c21712c3261e10b862:) hx hj)];simp
 ·show some (qD (((pre.length:Int)+(u.length:Int)).toNat+1-pre.length) (qE pre.length (pre++x++post)))=some x
  rw[hT _ (by exact(dA 0x72c21e1e10b862:) hx),←hx,mW]
theorem lH {ws:List (List Nat)} (l r:T) (s:Int):aR ws (.node l r s)=[40]++aR ws l++([44]++aR ws r++[41]):=by
 show 40::(aR ws l++44::(aR ws r++[41]))=_;simp
theorem Fo {l:List Nat} {p:Nat} (h:l.getD p 0≠40):jb l p=[]:=by unfold jb;rw[if_neg h]
theorem n7 {l:List Nat}:∀(n s:Nat),(∀k,k<n→l.getD (s+k) 0≠40)→(cQ s n).flatMap (jb l)=[]
 |0=>@fun s h=>rfl
 |n+1=>@fun s h=>by
  rw[List.range'_succ,mz,Fo (show l.getD s 0≠40 from h 0 (by exact(fN 772055435278:))),n7 n (s+1) fun k hk=>by
   have:=h (k+1) (by(exact Nat.succ_lt_succ hk));rwa[show s+1+k=s+(k+1)by exact(dA 0x61ef085c313c6f085c2:)],bX]
theorem jm {l pre x post:List Nat} (hl:l=pre++x++post) {k:Nat} (h:k<x.length):l.getD (pre.length+k) 0=x.getD k 0:=by rw[hl,tO h]
theorem xy {ws:List (List Nat)} (hw:qJ ws) {p k:Nat} (hp:p<5) (hk:k<(ws.getD p []).length):(ws.getD p []).getD k 0≠40:=fun e=>by
 have hm:(ws.getD p []).getD k 0∈ws.getD p []:=by
  rw[ac (l:=ws.getD p []),aj hk];exact cH hk
 have:=hw p hp _ hm;rw[e]at this;cases this
theorem qK {ws:List (List Nat)} (hw:qJ ws) {l:List Nat}:∀(t:T),t.ok 5→∀(pre post:List Nat),l=pre++aR ws t++post→∀k,k<(aR ws t).length→l.getD (pre.length+k) 0=40→((gr l (pre.length+k)).find? fun t=>cZ t 0).isSome=true
 |.leaf p=>@fun ht pre post hl k hk h=>by
  rw[jm hl hk]at h;exact absurd h (xy hw ht hk)
 |.node a b s=>@fun ht pre post hl k hk h=>by
  have e:=lH (ws:=ws) a b s;have hlen:(aR ws (.node a b s)).length=1+(aR ws a).length+(1+(aR ws b).length+1):=by rw[e];simp only[ai,ay,bf]
  by_cases q0:k=0
  ·subst q0
   rw[Nat.add_zero,hl,yG hw ht pre post];rfl
  ·by_cases q1:k<1+(aR ws a).length
   ·have hl1:l=(pre++[40])++aR ws a++([44]++aR ws b++[41]++post):=by rw[hl,e];simp only[aC]
    have:=qK hw a ht.1 _ _ hl1 (k-1) (by exact(dA 0x7396192cf1842e17b0070860085c2:) q0 q1);have e3:(pre++[40]).length+(k-1)=pre.length+k:=by simp;exact(dA 0x730f10de47842e1fb0070860085c2:) q0
    rw[e3]at this;exact this h
   ·by_cases q2:k=1+(aR ws a).length
    ·have hl1:l=(pre++[40]++aR ws a)++[44]++(aR ws b++[41]++post):=by rw[hl,e];simp only[aC]
     have:=jm hl1 (k:=0) (by simp);have e3:(pre++[40]++aR ws a).length+0=pre.length+k:=by simp only[ai,ay,bf];exact(iq 0x1cc3c44781cf1bde10b80e261e3085c2:) q2
     rw[e3,h]at this;cases this
    ·by_cases q3:k<1+(aR ws a).length+(1+(aR ws b).length)
     ·have hl1:l=(pre++[40]++aR ws a++[44])++aR ws b++([41]++post):=by rw[hl,e];simp only[aC]
      have:=qK hw b ht.2 _ _ hl1 (k-(2+(aR ws a).length)) (by exact(iq 0x739cb10b67bc810b9e3085c2f61e3085c2f59e3085c2181e3105c2:) q1 q2 q3);have e3:(pre++[40]++aR ws a++[44]).length+(k-(2+(aR ws a).length))=pre.length+k:=by simp only[ai,ay,bf];exact(iq 0x1ce61e223caf7842e039e37bc21701c4f61e3085c2f59e3085c2181e3105c2:) q1 q2
      rw[e3]at this;exact this h
     ·have hl1:l=(pre++[40]++aR ws a++[44]++aR ws b)++[41]++post:=by rw[hl,e];simp only[aC]
      have:=jm hl1 (k:=0) (by simp);have e3:(pre++[40]++aR ws a++[44]++aR ws b).length+0=pre.length+k:=by simp only[ai,ay,bf];exact(SG 0x739cc3c46781cf2bde10b80e791ef085c071bd67bca10b9e4085c2c3de10b9e5085cf2042e1d862:) hk hlen q3
      rw[e3,h]at this;cases this
theorem Hi {ws:List (List Nat)} (hw:qJ ws) {p:Nat} (hp:p<5):cnt 44 (ws.getD p [])=0:=cnt_none 44 _ fun h=>by
 have:=hw p hp _ h;cases this
theorem qo {ws:List (List Nat)} (hw:qJ ws):∀(t:T),t.ok 5→cnt 44 (aR ws t)=(t.nl:Int)-1
 |.leaf p=>@fun ht=>by show cnt 44 (ws.getD p [])=_;rw[Hi hw ht];rfl
 |.node a b s=>@fun ht=>by
  rw[lH,mU,mU,mU,mU,qo hw a ht.1,qo hw b ht.2,show cnt 44 [40]=0 from rfl,show cnt 44 [44]=1 from rfl,show cnt 44 [41]=0 from rfl];simp only[T.nl];exact(dA 0xcc021749e313de073e010ba43085cf8042e9080e:)
theorem MS (s a b c d e:Nat):cQ s (a+b+c+d+e)=cQ s a++(cQ (s+a) b++(cQ (s+a+b) c++(cQ (s+a+b+c) d++cQ (s+a+b+c+d) e))):=by
 rw[jZ,jZ,jZ,jZ];congr 1;exact(SG 0x61ef7bcc520c4f33caf23c62:)
theorem qY {ws:List (List Nat)} (hw:qJ ws) {l:List Nat}:∀(t:T),t.ok 5→∀(pre post:List Nat) (a:Nat),l=pre++aR ws t++post→cnt 44 pre=a→(cQ pre.length (aR ws t).length).flatMap (jb l)=kW t a
 |.leaf p=>@fun ht pre post a hl hc=>n7 _ _ fun k hk=>by
  rw[jm hl hk];exact xy hw ht hk
 |.node x y s=>@fun ht pre post a hl hc=>by
  have e:=lH (ws:=ws) x y s;have hlen:(aR ws (.node x y s)).length=1+(aR ws x).length+1+(aR ws y).length+1:=by rw[e];simp only[ai,ay,bf];exact(dA 0xc3c2173c6f085cf1042e7bde10b80e78de10b80e789e10b80e:)
  have hl0:l=pre++[40]++(aR ws x++([44]++aR ws y++[41])++post):=by rw[hl,e];simp only[aC]
  have hl1:l=(pre++[40])++aR ws x++([44]++aR ws y++[41]++post):=by rw[hl,e];simp only[aC]
  have hl2:l=(pre++[40]++aR ws x)++[44]++(aR ws y++[41]++post):=by rw[hl,e];simp only[aC]
  have hl3:l=(pre++[40]++aR ws x++[44])++aR ws y++([41]++post):=by rw[hl,e];simp only[aC]
  have hl4:l=(pre++[40]++aR ws x++[44]++aR ws y)++[41]++post:=by rw[hl,e];simp only[aC]
  have n1:(pre++[40]).length=pre.length+1:=by simp
  have n2:(pre++[40]++aR ws x).length=pre.length+1+(aR ws x).length:=by simp only[ai,ay,bf]
  have n3:(pre++[40]++aR ws x++[44]).length=pre.length+1+(aR ws x).length+1:=by simp only[ai,ay,bf]
  have n4:(pre++[40]++aR ws x++[44]++aR ws y).length=pre.length+1+(aR ws x).length+1+(aR ws y).length:=by simp only[ai,ay,bf]
  have c1:cnt 44 (pre++[40])=a:=by rw[mU,hc,show cnt 44 [40]=0 from rfl];(rfl)
  have c3:cnt 44 (pre++[40]++aR ws x++[44])=((a+x.nl:Nat):Int):=by
   rw[mU,mU,c1,qo hw x ht.1,show cnt 44 [44]=1 from rfl];exact(dA 0x33278c4f085cf8042e90e42:)
  have i1:=qY hw x ht.1 _ _ a hl1 c1;have i3:=qY hw y ht.2 _ _ (a+x.nl) hl3 c3;rw[n1]at i1;rw[n3]at i3;have p0:(cQ pre.length 1).flatMap (jb l)=[((a:Int),((x.nl+y.nl-1:Nat):Int))]:=by
   show jb l pre.length++[]=_;have h40:l.getD pre.length 0=40:=jm hl0 (k:=0) (by simp);rw[bH];unfold jb;rw[if_pos h40,hl,DG,yG hw ht pre post];have:(pre++aR ws (.node x y s)++post).take pre.length=pre:=by rw[aC,Po rfl]
   rw[this,hc];show[((a:Int),cnt 44 (aR ws (.node x y s)))]=_;rw[qo hw _ ht];have:=s9 x;have:=s9 y;simp only[T.nl];congr 2;exact(dA 0x1ccc890085d2788741042e1802173c43:) this
  have p2:(cQ (pre.length+1+(aR ws x).length) 1).flatMap (jb l)=[]:=n7 _ _ fun k hk=>by
   have:=jm hl2 (k:=k) (by simpa using hk);rw[n2]at this;rw[this,show k=0 by exact(fN 0x39803856085c2:) hk];decide
  have p4:(cQ (pre.length+1+(aR ws x).length+1+(aR ws y).length) 1).flatMap (jb l)=[]:=n7 _ _ fun k hk=>by
   have:=jm hl4 (k:=k) (by simpa using hk);rw[n4]at this;rw[this,show k=0 by exact(fN 0x39803856085c2:) hk];decide
  rw[hlen,MS,fW,fW,fW,fW,p0,i1,p2,i3,p4];show _=((a:Int),((x.nl+y.nl-1:Nat):Int))::(kW x a++kW y (a+x.nl));simp
theorem Fn {ws:List (List Nat)} (hw:qJ ws) {t:T} (ht:t.ok 5):mt (aR ws t)=kW t 0:=by
 have:=qY hw t ht [] [] 0 (l:=aR ws t) (by simp) rfl;unfold mt;rw[List.range_eq_range'];exact this
theorem En {ws:List (List Nat)} (hw:qJ ws) {t:T} (ht:t.ok 5) (p:Nat) (hp:p<(aR ws t).length) (h:(aR ws t).getD p 0=40):((gr (aR ws t) p).find? fun t=>cZ t 0).isSome=true:=by
 have:=qK hw t ht [] [] (l:=aR ws t) (by simp) p hp;simp only[bf,dR]at this;exact this h
theorem To (a b c d X:Int):(a+b*X)*(c+d*X)=a*c+(a*d+c*b)*X+(b*d)*(X*X):=by
 rw[d7,eE,eE,d7];have e1:b*X*c=c*b*X:=by rw[eh (b*X) c,ck]
 have e2:b*X*(d*X)=b*d*(X*X):=by
  rw[ck,ck,Mk X d X]
 have e3:a*(d*X)=a*d*X:=by rw[ck]
 rw[e1,e2,e3];exact(uE 0x65eb7bd4943deb53d28:)
theorem TX (n0 n1 n2 n3 n4:Int):AF [n0,n1,n2,n3,n4]=n0*n1+(n0*n2+(n1*n2+(n0*n3+(n1*n3+(n2*n3+(n0*n4+(n1*n4+(n2*n4+(n3*n4+0))))))))):=by kernel_rfl
theorem UZ (n0 n1 n2 n3 n4 k0 k1 k2 k3 k4:Int):BF [n0,n1,n2,n3,n4] [k0,k1,k2,k3,k4]=n1*k0+(n2*k0+(n3*k0+(n4*k0+(n0*k1+(n2*k1+(n3*k1+(n4*k1+(n0*k2+(n1*k2+(n3*k2+(n4*k2+(n0*k3+(n1*k3+(n2*k3+(n4*k3+(n0*k4+(n1*k4+(n2*k4+(n3*k4+0))))))))))))))))))):=by kernel_rfl
theorem Vk (n0 n1 n2 n3 n4:Int):PF [n0,n1,n2,n3,n4] 0 3=n0*n1+(n0*n2+(n1*n2+(n0*n3+(n1*n3+(n2*n3+(n0*n4+(n1*n4+(n2*n4+(n3*n4+0))))))))):=by kernel_rfl
theorem Ph (n0 n1 n2 n3 n4 k0 k1 k2 k3 k4 X:Int):PF [n0+k0*X,n1+k1*X,n2+k2*X,n3+k3*X,n4+k4*X] 0 3=AF [n0,n1,n2,n3,n4]+BF [n0,n1,n2,n3,n4] [k0,k1,k2,k3,k4]*X+AF [k0,k1,k2,k3,k4]*(X*X):=by
 rw[Vk,TX,TX,UZ];simp only[To];simp only[d7];lia
theorem dK {a b m n:Int} (h1:0≤a∧a≤m) (h2:0≤b∧b≤n):0≤a*b∧a*b≤m*n:=
 ⟨cb h1.1 h2.1,Sm h1.2 h2.2 h2.1 (by(exact aB h1.1 h1.2))⟩
structure NB (n:Int):Prop where
 bd:13≤n∧n≤54
structure KB (k:Int):Prop where
 bd:5≤k∧k≤23
theorem eX {x s z:Int} {n:Nat} (h:0≤x∧x≤z) (g:0≤s∧s≤n*z):0≤x+s∧x+s≤((n+1:Nat):Int)*z:=by
 rw[Pt,d7,cz,iA (n*z)];exact⟨dk h.1 g.1,zH h.2 g.2⟩
theorem PR {z:Int}:(0:Int)≤0∧(0:Int)≤(0:Nat)*z:=⟨dj _,ur (fL z).symm⟩
theorem hK {n m:Int} (h:1≤n∧n≤m):0≤n∧n≤m:=⟨aO h.1,h.2⟩
theorem Mn {n0 n1 n2 n3 n4 m:Int} (hm:0≤m) (h0:1≤n0∧n0≤m) (h1:1≤n1∧n1≤m) (h2:1≤n2∧n2≤m) (h3:1≤n3∧n3≤m) (h4:1≤n4∧n4≤m):0<AF [n0,n1,n2,n3,n4]∧AF [n0,n1,n2,n3,n4]≤10*(m*m):=by
 rw[TX];have g:=(eX (dK (hK h0) (hK h2)) (eX (dK (hK h1) (hK h2)) (eX (dK (hK h0) (hK h3)) (eX (dK (hK h1) (hK h3)) (eX (dK (hK h2) (hK h3)) (eX (dK (hK h0) (hK h4)) (eX (dK (hK h1) (hK h4)) (eX (dK (hK h2) (hK h4)) (eX (dK (hK h3) (hK h4)) PR)))))))));exact⟨Int.add_pos_of_pos_of_nonneg (Int.mul_pos h0.1 h1.1) g.1,(eX (dK (hK h0) (hK h1)) g).2⟩
theorem So {n0 n1 n2 n3 n4 k0 k1 k2 k3 k4 m k:Int} (a0:0≤n0∧n0≤m) (a1:0≤n1∧n1≤m) (a2:0≤n2∧n2≤m) (a3:0≤n3∧n3≤m) (a4:0≤n4∧n4≤m) (c0:0≤k0∧k0≤k) (c1:0≤k1∧k1≤k) (c2:0≤k2∧k2≤k) (c3:0≤k3∧k3≤k) (c4:0≤k4∧k4≤k):
 0≤BF [n0,n1,n2,n3,n4] [k0,k1,k2,k3,k4]∧BF [n0,n1,n2,n3,n4] [k0,k1,k2,k3,k4]≤20*(m*k):=by
 rw[UZ];exact(eX (dK a1 c0) (eX (dK a2 c0) (eX (dK a3 c0) (eX (dK a4 c0) (eX (dK a0 c1) (eX (dK a2 c1) (eX (dK a3 c1) (eX (dK a4 c1) (eX (dK a0 c2) (eX (dK a1 c2) (eX (dK a3 c2) (eX (dK a4 c2) (eX (dK a0 c3) (eX (dK a1 c3) (eX (dK a2 c3) (eX (dK a4 c3) (eX (dK a0 c4) (eX (dK a1 c4) (eX (dK a2 c4) (eX (dK a3 c4) PR))))))))))))))))))))
theorem Lp {wi:Nat} (h:16≤wi):(65536:Int)≤2^wi:=by
 have:(2:Nat)^16≤2^wi:=cM (by decide) h;have e:((2^wi:Nat):Int)=(2:Int)^wi:=by rw[i7];rfl
 rw[←e];generalize (2:Nat)^wi=Q at this;have e2:(2:Nat)^16=65536:=by decide
 (exact bQ.mpr this)
theorem m8 {X a b:Int} {r r':List Int} (h:eF X r=eF (X*X) r'):eF X (a::b::r)=eF (X*X) ((a+b*X)::r'):=by
 rw[fb,fb,fb,h];generalize eF (X*X) r'=v;rw[d7,←ck v X X];exact(ud 0x65ef4a90f53d28:)
theorem v7 (wi:Nat):((2:Int)^(2*wi))=2^wi*2^wi:=by rw[Nat.two_mul,kv]
theorem CN (wi:Nat):((2:Int)^(3*wi))=2^wi*2^wi*2^wi:=by rw[show 3*wi=wi+wi+wi by exact(fN 0x61e27885110c2e:),kv,kv]
theorem kn {X n k:Int} (hX:65536≤X) (hn:NB n) (hk:KB k):0<n+k*X∧n+k*X<X*X:=by
 have h1:=hn.bd;have h2:=hk.bd;have h3:0≤k*X:=cb (by(exact aB (by decide) h2.1)) (by(exact aB (by decide) hX));have h4:k*X≤23*X:=bJ h2.2 (by exact(iG 0x1caa00eaa0400008e:) hX);have h5:65536*X≤X*X:=bJ hX (by exact(iG 0x1caa00eaa0400008e:) hX);exact(uE 0x39ce739abadea4ddea481d55c5020000475628b85caaa80ed5436139354b42eaa0400008e:) hX h1 h3 h4 h5
theorem Kl {wi:Nat} (hw:16≤wi) {n0 n1 n2 n3 n4 k0 k1 k2 k3 k4:Int} (a0:NB n0) (a1:NB n1) (a2:NB n2) (a3:NB n3) (a4:NB n4) (c0:KB k0) (c1:KB k1) (c2:KB k2) (c3:KB k3) (c4:KB k4):
 io (eF (2^wi) [n0,k0,n1,k1,n2,k2,n3,k3,n4,k4]) (2*wi)=[n0+k0*2^wi,n1+k1*2^wi,n2+k2*2^wi,n3+k3*2^wi,n4+k4*2^wi]:=by
 have hX:=Lp hw;have e:eF (2^wi) [n0,k0,n1,k1,n2,k2,n3,k3,n4,k4]=eF (2^(2*wi)) [n0+k0*2^wi,n1+k1*2^wi,n2+k2*2^wi,n3+k3*2^wi,n4+k4*2^wi]:=by
  rw[v7];exact m8 (m8 (m8 (m8 (m8 rfl))))
 rw[e];refine BS (by exact(fN 0x72911082e085d41402e:) hw) (fun x hx=>?_) fun x hx=>?_
 ·rw[v7]
  simp only[aD,bx,or_false]at hx;rcases hx with rfl|rfl|rfl|rfl|rfl
  ·have:=kn hX a0 c0;(exact⟨aO this.1,this.2⟩)
  ·have:=kn hX a1 c1;(exact⟨aO this.1,this.2⟩)
  ·have:=kn hX a2 c2;(exact⟨aO this.1,this.2⟩)
  ·have:=kn hX a3 c3;exact(ud 0x1cd5d4f4a2af4a00ed5d4f4a2ef4a00e:) this
  ·have:=kn hX a4 c4;exact(ud 0x1cd5d4f4a2af4a00ed5d4f4a2ef4a00e:) this
 ·have:x=n4+k4*2^wi:=by simpa using hx.symm
  rw[this];exact(kn hX a4 c4).1
theorem vp {wi:Nat} (hw:16≤wi) {A B Z:Int} (hA:0≤A∧A<2^wi) (hB:0≤B∧B<2^wi) (hZ:0<Z∧Z<2^wi) {s:Int} (hs:s=A+B*2^wi+Z*(2^wi*2^wi)):io s wi=[A,B,Z]:=by
 have e:s=eF (2^wi) [A,B,Z]:=by
  rw[fb,fb,fb,hs];show _=((0*2^wi+Z)*2^wi+B)*2^wi+A;generalize (2:Int)^wi=X;rw[fL,br,d7,ck];exact(ud 0x65e87a54f53d28:)
 rw[e];refine BS (by(exact ph hw)) (fun x hx=>?_) fun x hx=>?_
 ·simp only[aD,bx,or_false]at hx
  rcases hx with rfl|rfl|rfl
  ·exact hA
  ·exact hB
  ·exact⟨by(exact aO hZ.1),hZ.2⟩
 ·have:x=Z:=by simpa using hx.symm
  rw[this];exact hZ.1
theorem jt {α β:Type} {f:α→β} {l:List α} {p:Nat} (d:α) (d':β) (h:p<l.length):(l.map f).getD p d'=f (l.getD p d):=by
 rw[ac,ac,aJ,aj h];rfl
theorem getD_mem {α:Type} {l:List α} {p:Nat} {d:α} (h:p<l.length):l.getD p d∈l:=by
 rw[ac,aj h];exact cH h
theorem vM {c:Nat} {r:List Nat} (h1:c≠32) (h2:c≠9) (q:Cnt):df (c::r) q=q:=by
 conv=>lhs;rw[df]
 rw[if_neg h1,if_neg h2]
theorem ER (c:Int):(ii c).length=5:=rfl
theorem Af (c:Int):g8 (ii c):=fun r hr=>by
 unfold ii at hr;simp only[aD,bx,or_false]at hr;rcases hr with rfl|rfl|rfl|rfl|rfl
 ·exact tQ _
 ·exact tQ _
 ·simp
 ·simp
 ·simp
theorem xS {r:List Int} (h:g8 r) (hl:r.length≤5):kU r:=⟨by(exact ae hl (by decide)),fun x hx=>by rcases h x hx with rfl|rfl|rfl|rfl<;>decide⟩
theorem Bz {r:List Int} (h:g8 r) (hl:r.length≤5) {t:Int} (ht:0≤t∧t≤3):(dp r t).length≤800:=by
 have e:=ti t ht.1 r h;have s:=nA r h;have n0:=ey r 0;have n1:=ey r 1;have n2:=ey r 2;have n3:=ey r 3;have ht:=ht.2;unfold II at e;refine bQ.mp ?_;generalize ((dp r t).length:Int)=x at*;generalize kN r 0=a0 at*;generalize kN r 1=a1 at*;generalize kN r 2=a2 at*;generalize kN r 3=a3 at*;have hl:(r.length:Int)≤5:=bQ.mpr hl;generalize (r.length:Int)=n at*;clear h;show x≤800;omega
theorem ka {t a b c:Int} (h0:0≤t) (n1:0≤a) (n2:0≤b) (n3:0≤c):5≤t+1*(a+2*b+3*c+5):=(uE 0x739ce55f17942e7c5630b9f15082e4842e4142eaac0eaa80eaa40eaa00e:) h0 n1 n2 n3
theorem kb {t a b c:Int} (h1:t≤2) (n1:0≤a) (n2:0≤b) (n3:0≤c) (s:a+b+c≤2):t+1*(a+2*b+3*c+5)≤23:=(uE 0x1ce7395b85cf8bca173e2b185cf8a84172421722a20b9eb7a935501d5481d5105c8:) h1 n1 n2 s
theorem kc {t b c:Int} (h0:0≤t) (n2:0≤b) (n3:0≤c):5≤t+2*(b+c+5):=(ud 0xe73957c5e50b9ea4882e4142eaa80eaa40eaa00e:) h0 n2 n3
theorem kd {t b c:Int} (h1:t≤2) (s:b+c≤2):t+2*(b+c+5)≤23:=(ud 0x7395b85cf8bca173d49105c8a882e7a935105c8:) h1 s
theorem ke {t c:Int} (h0:0≤t) (n3:0≤c):5≤t+3*(c+5):=(ly 0x1ce55f17942e48c2e4142eaa40eaa00e:) h0 n3
theorem kf {t c:Int} (h1:t≤2) (s:c≤2):t+3*(c+5)≤23:=(ly 0x7395b85cf8bca172461722a20b935105c8:) h1 s
theorem kh {a b c d:Int} (s:d+a+b+c=5) (hd:3≤d):a+b+c≤2:=(uE 0x7395105cf5bd49aa061764a173d6f53d28:) s hd
theorem ki {a b c:Int} (n1:0≤a) (s:a+b+c≤2):b+c≤2:=(ud 0x39ca882e7a935105cf53d28aa00e:) n1 s
theorem OG (c:Int) {tl sz:Int} (ht:0≤tl∧tl≤2) (hs:sz=1∨sz=2∨sz=3):KB (oz (ii c) tl sz):=by
 have s:=nA _ (Af c);rw[ER]at s;have k0:3≤kN (ii c) 0:=by
  unfold ii;rw[eJ,eJ,eJ,eJ,eJ];show(0:Int)+(0+3)≤_;exact zH (rm _ _) (zH (rm _ _) (dj 3))
 have n1:=ey (ii c) 1;have n2:=ey (ii c) 2;have n3:=ey (ii c) 3;have b:=kh s k0;have b2:=ki n1 b;have b3:kN (ii c) 3≤2:=aB (Int.le_add_of_nonneg_left n2) b2;unfold oz Lv;rw[s];rcases hs with rfl|rfl|rfl
 ·exact⟨ka ht.1 n1 n2 n3,kb ht.2 n1 n2 n3 b⟩
 ·exact⟨kc ht.1 n2 n3,kd ht.2 b2⟩
 ·exact⟨ke ht.1 n3,kf ht.2 b3⟩
theorem xP {ws:List (List Nat)} {ns:List Int} (hw:∀p,p<5→o8 (ws.getD p []) (ns.getD p 0)) {k:Int} (hk:0≤k∧k<9) (q:Cnt):df ((if k.fmod 2=0 then ws.getD (k.fdiv 2).toNat []else[44])++[120]) q=q:=by
 split
 ·have h:=hw _ (De hk).2
  match e:ws.getD (k.fdiv 2).toNat []with
  |[]=>have:=h.len.1;rw[e]at this;exact absurd this (by decide)
  |c::r=>
   have:=h.all c (by rw[e];exact au ..);exact vM this.2.1 this.2.2.1 q
 ·exact vM (by decide) (by decide) q
theorem CG {ws:List (List Nat)} {ns:List Int} (hw:∀p,p<5→o8 (ws.getD p []) (ns.getD p 0)) {k:Int} (hk:0≤k∧k<9):dH ((if k.fmod 2=0 then ws.getD (k.fdiv 2).toNat []else[44])++[120])=Bk ns k:=by
 unfold Bk;split
 ·have h:=hw _ (De hk).2
  rw[Bh h.key h.len rfl,Qi];rfl
 ·show dH (44::[120])=_
  rw[E0,Qi];rfl
theorem G6 {ws:List (List Nat)} (hw:qJ ws) {t:T} (ht:t.ok 5) (h:2≤t.nl):cZ ((aR ws t).drop 1++[40]) 0=false:=by
 cases t with
 |leaf p=>simp[T.nl]at h
 |node l r s=>
  show cZ ((aR ws l++44::(aR ws r++[41]))++[40]) 0=false;simp only[aC,cq,bX];rw[i0 hw l ht.1 _ _ (by decide),wL,i0 hw r ht.2 _ _ (by decide)];rfl
theorem oW {ws:List (List Nat)} {ns:List Int} (hw:∀p,p<5→o8 (ws.getD p []) (ns.getD p 0)):∀(t:T),t.ok 5→∀c∈aR ws t,c≠34∧c≠92∧c≠39∧c<0x110000
 |.leaf p=>@fun ht c hc=>by
  have:=(hw p ht).all c hc;exact⟨this.2.2.2.1,this.2.2.2.2.1,this.2.2.2.2.2.1,this.2.2.2.2.2.2⟩
 |.node l r s=>@fun ht c hc=>by
  rw[lH]at hc;simp only[cF,aD,bx,or_false]at hc;rcases hc with(rfl|hc)|((rfl|hc)|rfl)
  ·decide
  ·exact oW hw l ht.1 c hc
  ·decide
  ·exact oW hw r ht.2 c hc
  ·decide
theorem Ey {l:List Int} {B:Int} (h:∀x∈l,0≤x∧x≤B):0≤l.sum∧l.sum≤l.length*B:=by
 induction l with
 |nil=>simp
 |cons x l ih=>
  have h1:=h x (au ..);have h2:=ih fun y q=>h y (af _ q);rw[fO,ay];have:((l.length+1:Nat):Int)*B=l.length*B+B:=by
   rw[oS,d7];simp
  exact(SH 0xe739aab1ea455ea401d97a56cd556aaa80ed5528aa00e:) h1 h2 this
theorem Jd {due:List Int} {Y:Int} (hY:0≤Y) (hd:∀p,p<5→0≤wF due p∧wF due p≤Y) {x:Nat×Nat×Nat} (h1:x.2.1≤5) (h2:x.2.2≤5):0≤lO due x∧lO due x≤(5*Y)*(5*Y):=by
 have key:∀a b:Nat,b≤5→0≤sW due a b∧sW due a b≤5*Y:=fun a b hb=>by
  unfold sW;have:=Ey (l:=(cQ a (b-a)).map (wF due)) (B:=Y) fun z hz=>by
   (refine Ua (bc.mp hz) fun p hp q0=>?_;subst q0);have:=List.mem_range'_1.mp hp;exact hd p (by exact(iq 0x1ce58a17135679464a1074285c218062:) hb this)
  rw[ag,List.length_range']at this;refine⟨this.1,aB this.2 (bJ ?_ hY)⟩;exact(dA 0xe54a174894285c218062:) hb
 exact dK (key _ _ h1) (key _ _ h2)
theorem s8:∀(t:T) (a:Nat),∀x∈k9 t a,x.2.1≤a+t.nl∧x.2.2≤a+t.nl
 |.leaf _=>@fun a x hx=>by cases hx
 |.node l r s=>@fun a x hx=>by
  simp only[k9,cF,aD]at hx;simp only[T.nl];rcases hx with hx|rfl|hx
  ·have:=s8 l a x hx;exact(SG 0x73547bcc41968f7988316a8f20cb479062:) this
  ·simp only;exact(iq 0x1aa3de4189e478c547bc8313c62:)
  ·have:=s8 r _ x hx;exact(SG 0x73547bca419a8f7948316a8f2bc83351e579062:) this
theorem CL {N:List (Nat×Nat×Nat)} {lw:List WS} {due:List Int} (h:N.map (·.2.1)=[1,2,3,4]) (hp:∀x∈N,iW lw due (2*x.2.1-1)=lO due x):[1,3,5,7].map (iW lw due)=N.map (lO due):=by
 have e:([1,3,5,7]:List Nat)=N.map fun x=>2*x.2.1-1:=by
  rw[show(fun x:Nat×Nat×Nat=>2*x.2.1-1)=(fun m:Nat=>2*m-1)∘(fun x:Nat×Nat×Nat=>x.2.1)from rfl,←be,h];rfl
 rw[e,be];exact cR hp
theorem uP {t:T} (h:t.nl=5):((0:Int),(4:Int))∈kW t 0:=by
 cases t with
 |leaf p=>simp[T.nl]at h
 |node l r s=>
  simp only[T.nl]at h;show((0:Int),(4:Int))∈(((0:Nat):Int),((l.nl+r.nl-1:Nat):Int))::_;rw[h];exact au ..
theorem KD {wi:Nat} (h:wi≤715) {W:Int} (h0:0≤W) (h1:W≤100*((2:Int)^(2*wi)*2^(2*wi))):W.natAbs<2^3000:=by
 have e:((2:Int)^(2*wi)*2^(2*wi))=((2^(4*wi):Nat):Int):=by
  rw[←kv,show 2*wi+2*wi=4*wi by exact(fN 0x188888173e22105d11082e:),i7];rfl
 rw[e]at h1;have h2:(2:Nat)^(4*wi)≤2^2860:=cM (by decide) (by exact(fN 0x39416583744440ba96589c2:) h);have h3:(2:Nat)^3000=2^140*2^2860:=by rw[←Nat.pow_add]
 have h4:0<(2:Nat)^2860:=H8 (by decide);rw[h3];generalize (2:Nat)^2860=Q at h2 h4;generalize (2:Nat)^(4*wi)=q at h1 h2;have h5:(2:Nat)^140=1393796574908163946345982392040522594123776:=by decide
 rw[h5];lia
theorem Ew {ws:List (List Nat)} {t:T} (h:2≤t.nl):1≤(aR ws t).length:=by
 cases t with
 |leaf p=>simp[T.nl]at h
 |node l r s=>rw[lH];simp only[ai,ay,bf];exact(dA 0xa3def085c073c6f085c073c4f085c07042e:)
theorem FY {A B Z X:Int}:X*X*X-1-(A+B*X+Z*(X*X))=(X-1-A)+(X-1-B)*X+(X-1-Z)*(X*X):=by
 rw[vH,vH,vH,vH,cz,cz,←ck X X X];exact(Vi 0x65f05c1a87c150636098042e641eb7a930085c8:)
theorem pV {d:Int} {m n:Nat} (h0:0≤d) (h:d<2^m) (hm:m≤n):d.natAbs<2^n:=aP ((dv h0).mpr h) (cM (by decide) hm)
theorem TZ {p:Int} (h:0≤p):(2*p).toNat=2*p.toNat:=by exact(iG 0x1888c417082003901001d14082e:)
theorem NB.u {n:Int} (h:NB n):1≤n∧n≤54:=⟨aB (by decide) h.bd.1,h.bd.2⟩
theorem KB.u {n:Int} (h:KB n):1≤n∧n≤23:=⟨aB (by decide) h.bd.1,h.bd.2⟩
theorem tV {X F C:Int} (hX:65536≤X) (h:0≤F∧F≤C) (hC:C<65536):0≤F∧F<X:=⟨h.1,cP h.2 (gE hC hX)⟩
theorem NB.lt {n X:Int} (h:NB n) (hX:65536≤X):0≤n∧n<X:=tV hX (hK h.u) (by decide)
theorem KB.lt {n X:Int} (h:KB n) (hX:65536≤X):0≤n∧n<X:=tV hX (hK h.u) (by decide)
theorem oi {X F:Int} (h:0≤F∧F<X):0≤X-1-F∧X-1-F<X:=by exact(ly 0x1cd5d3044021726b0440217240ed5d28aa00e:) h
theorem F1 {X F C:Int} (hX:65536≤X) (h:F≤C) (hC:C<65535):0<X-1-F:=by exact(ud 0xe7397826010b90075c3fffc8e55549aa0400008e:) hX h hC
theorem xF {a b c X:Int} (ha:0≤a) (hb:0≤b) (hc:0≤c) (hX:0≤X):0≤a+b*X+c*(X*X):=dk (dk ha (cb hb hX)) (cb hc (cb hX hX))
theorem Nt (c0 c1 c2 c3 c4:Int):Nonempty (LD [c0,c1,c2,c3,c4]):=by
 refine Ua (Er c0 c1 c2 c3 c4) fun t ht ok=>?_;obtain⟨cs,hcs⟩:∃cs,cs=[c0,c1,c2,c3,c4]:=⟨_,rfl⟩;rw[←hcs]at ht⊢;have hcl:cs.length=5:=by rw[hcs];rfl
 obtain⟨ns,hns⟩:∃ns,ns=cs.map kB:=⟨_,rfl⟩;obtain⟨ws,hws⟩:∃ws,ws=ns.map ig:=⟨_,rfl⟩;obtain⟨runs,hru⟩:∃runs,runs=cs.map ii:=⟨_,rfl⟩;obtain⟨rows,hrows⟩:∃rows,rows=c8 runs t []:=⟨_,rfl⟩;obtain⟨tt,htt⟩:∃tt,tt=cs.sum:=⟨_,rfl⟩;obtain⟨tl,htl⟩:∃tl,tl=tt.fmod 3:=⟨_,rfl⟩;obtain⟨hs,hhs⟩:∃hs,hs=rows.map fun r=>dp r tl:=⟨_,rfl⟩;obtain⟨pg,hpg⟩:∃pg,pg=(aE 0 9).map (oO hs ws):=⟨_,rfl⟩;obtain⟨lw,hlw⟩:∃lw,lw=pg.map oU:=⟨_,rfl⟩;obtain⟨wk,hwk⟩:∃wk,wk=rows.map fun r=>oB r tl:=⟨_,rfl⟩;obtain⟨wd,hwd⟩:∃wd,wd=[c3.fmod 4,c4.fmod 4]++aA ((tt.fdiv 9).fmod 4).toNat 0:=⟨_,rfl⟩;obtain⟨bh,hbh⟩:∃bh,bh=(tt.fdiv 3).fmod 4:=⟨_,rfl⟩;obtain⟨al,hal⟩:∃al,al=oU (dp wd bh++[120]):=⟨_,rfl⟩;obtain⟨bs,hbs⟩:∃bs,bs=oB wd bh:=⟨_,rfl⟩;obtain⟨tx,htx⟩:∃tx,tx=aR ws t:=⟨_,rfl⟩;obtain⟨sz,hsz⟩:∃sz,sz=1+(tt.fdiv 5).fmod 3:=⟨_,rfl⟩;obtain⟨wi,hwi'⟩:∃wi,wi=(16+tt.fmod 700).toNat:=⟨_,rfl⟩;obtain⟨cols,hcols⟩:∃cols,cols=cs.map fun c=>oz (ii c) tl sz:=⟨_,rfl⟩;obtain⟨pu,hpu⟩:∃pu,pu=(aE 0 5).flatMap (PB ns cols):=⟨_,rfl⟩;obtain⟨due,hdf⟩:∃due,due=(aE 0 5).map fun p=>ns.getD p.toNat 0+cols.getD p.toNat 0*2^wi:=⟨_,rfl⟩;obtain⟨pr,hpr⟩:∃pr,pr=[1,3,5,7].map (iW lw due):=⟨_,rfl⟩;obtain⟨pt,hpt⟩:∃pt,pt=mt tx:=⟨_,rfl⟩;have b1:=bE tt (b:=3) (by decide);have b2:=cf tt (b:=3) (by decide);have htb:0≤tl∧tl≤2:=by exact(ly 0x1ce7355105c8aa00eb8c2e4d52076528:) htl b1 b2
 have b3:=bE (tt.fdiv 3) (b:=4) (by decide);have b4:=cf (tt.fdiv 3) (b:=4) (by decide);have hbb:0≤bh∧bh≤3:=by exact(ly 0x1ce7355185c8aa00eb902e4d52076528:) hbh b3 b4
 have b5:=bE (tt.fdiv 5) (b:=3) (by decide);have b6:=cf (tt.fdiv 5) (b:=3) (by decide);have hsb:1≤sz∧sz≤3:=by exact(ly 0x39ce6aa30b9154042eb8c2e4d520765e9085c8:) hsz b5 b6
 have hs3:sz=1∨sz=2∨sz=3:=by exact(iG 0x1cdef230b919105c8c842e46aa30b9154042e:) hsb
 have b7:=bE tt (b:=700) (by decide);have b8:=cf tt (b:=700) (by decide);have hwi:(wi:Int)=16+tt.fmod 700:=by exact(zh 0x39ccbd100ba42aa00ec0c41001cf4402e:) hwi' b7
 have hwb:16≤wi∧wi≤715:=by exact(zh 0x1ce7354b2c4e150500bb2f4402e90af5e09c8aa00e:) b7 b8 hwi
 have b9:=bE (tt.fdiv 9) (b:=4) (by decide);have b10:=cf (tt.fdiv 9) (b:=4) (by decide);have hnl:ns.length=5:=by rw[hns,ag,hcl]
 have hwl:ws.length=5:=by rw[hws,ag,hnl]
 have hword:∀p,p<5→o8 (ws.getD p []) (ns.getD p 0):=fun p hp=>by
  rw[hws,jt 0 [] (by(rw[hnl];exact hp))];refine Bb ?_;rw[hns,jt 0 0 (by exact(dA 0x739610ec50b878285c2:) hcl hp)];exact n9 _
 have hwok:qJ ws:=fun p hp c hc=>((hword p hp).all c hc).1;have hw3:∀w∈ws,w.length≤3:=fun w hw=>by
  rw[hws,hns]at hw;obtain⟨n,hn,rfl⟩:=bc.mp hw;obtain⟨c,_,rfl⟩:=bc.mp hn;exact(Bb (n9 c)).len.2
 have hrunl:runs.length=5:=by rw[hru,ag,hcl]
 have hrg:∀p,p<5→runs.getD p []=ii (cs.getD p 0):=fun p hp=>by rw[hru,jt 0 [] (by exact(dA 0x739610ec50b878285c2:) hcl hp)]
 have hr5:∀p,p<5→(runs.getD p []).length=5:=fun p hp=>by rw[hrg p hp];rfl
 have hr3:∀p,p<5→g8 (runs.getD p []):=fun p hp=>by rw[hrg p hp];exact Af _
 have hd:=ok.depth;have hrr:∀x∈rows,g8 x∧x.length≤5:=by
  rw[hrows];exact qO hr5 hr3 t [] ok.tok ok.rok (fun r hr=>nomatch hr) (by simp only[bf];exact(fN 0x394285cf101d4205c2:) hd)
 have hrl:rows.length=9:=by rw[hrows,gp,ok.size]
 have hhl:hs.length=9:=by rw[hhs,ag,hrl]
 have hhg:∀k,k<9→hs.getD k []=dp (rows.getD k []) tl:=fun k hk=>by rw[hhs,jt [] [] (by(rw[hrl];exact hk))]
 have hkg:∀k,k<9→wk.getD k []=oB (rows.getD k []) tl:=fun k hk=>by rw[hwk,jt [] [] (by exact(dA 0x739610ec90b878485c2:) hrl hk)]
 have hrk:∀k,k<9→g8 (rows.getD k [])∧(rows.getD k []).length≤5:=fun k hk=>hrr _ (getD_mem (by exact(dA 0x739610ec90b878485c2:) hrl hk));have hpl:pg.length=9:=by rw[hpg,ag,ci];rfl
 have hpgk:∀k:Int,0≤k∧k<9→pg.getD k.toNat []=oO hs ws k:=fun k hk=>by
  rw[hpg,jt 0 [] (by rw[ci];(exact Mine.tn_lt hk (by decide)))];congr 1;unfold aE;rw[ac,aJ,kG (by(exact Mine.tn_lt hk (by decide)))];show 0+(k.toNat:Int)=k;exact(iG 0x73287c84076ae90b915401c1001c8:) hk
 have hpgs:∀k:Int,0≤k∧k<9→pg.getD k.toNat []=dp (rows.getD k.toNat []) tl++((if k.fmod 2=0 then ws.getD (k.fdiv 2).toNat []else[44])++[120]):=fun k hk=>by
  rw[hpgk k hk];unfold oO;rw[hhg _ (by(exact Mine.tn_lt hk (by decide))),aC]
 have hwat:∀k:Int,0≤k∧k<9→gz lw k.toNat=oU (dp (rows.getD k.toNat []) tl++((if k.fmod 2=0 then ws.getD (k.fdiv 2).toNat []else[44])++[120])):=fun k hk=>by
  unfold gz;rw[hlw,jt [] _ (by(rw[hpl];exact Mine.tn_lt hk (by decide))),hpgs k hk]
 have hLW:∀i,i<9→LW (gz lw i) (kN (rows.getD i []) 0) (kN (rows.getD i []) 1) (kN (rows.getD i []) 2) (kN (rows.getD i []) 3) tl:=fun i hi=>by
  have:=(sq (hrk i hi).1 (hrk i hi).2 (show 0≤tl∧tl≤3 by exact(iG 0x1cd5461722a803b55105c8aa00e:) htb) (xP hword (k:=(i:Int)) (by exact(fN 0x39aba42e90ab2101d6485c2:) hi))).1;have e:=hwat (i:Int) (by exact(fN 0x39aba42e90ab2101d6485c2:) hi);rw[bY]at e;rw[e];exact this
 have hll:lw.length=9:=by rw[hlw,ag,hpl]
 have hlo:LeadsOK lw:=⟨hll,fun w hw=>by
  obtain⟨i,hi⟩:=pn hw;have hlt:=(zF.mp hi).1;have:w=gz lw i:=by unfold gz;rw[ac,hi];rfl
  rw[this];exact(hLW i (by(rw[←hll];exact hlt))).ok⟩;have hwd3:g8 wd:=fun r hr=>by
  rw[hwd]at hr;rcases cF.mp hr with q|q
  ·simp only[aD,bx,or_false]at q
   rcases q with rfl|rfl<;>exact tQ _
  ·exact .inl (zT q)
 have hwdl:wd.length≤5:=by rw[hwd,ai,a9];simp only[ay,bf];exact(iG 0x72850b9e27842e7842e03ae40b901001c8:) b10
 have hstop:∀q,df [120] q=q:=fun q=>vM (by decide) (by decide) q;have hgap:∀k:Int,0≤k∧k<9→Cj hs lw wk bs al k:=fun k hk=>NP (hrk _ (by exact(iG 0x1cb242e16ae90b915401c1001c8:) hk)).1 (hrk _ (by(exact Mine.tn_lt hk (by decide)))).2 (by exact(iG 0x1cd5461722a803b55105c8aa00e:) htb) (xP hword hk) hwd3 hwdl hbb hstop (hwat k hk) (hhg _ (by exact(iG 0x1cb242e16ae90b915401c1001c8:) hk)) (hkg _ (by exact(iG 0x1cb242e16ae90b915401c1001c8:) hk)) hbs hal;have hlen27:tx.length≤27:=by
  rw[htx];have:=lI hw3 t;rw[ok.size]at this;exact this
 have h2nl:2≤t.nl:=by rw[ok.nl];decide
 have htp:fe tx:=⟨by(exact ae hlen27 (by decide)),by rw[htx];exact oW hword t ok.tok⟩;have hrt:dH tx=ij ns t:=by rw[htx];exact I1 hword ok.tok h2nl
 have hc1:cZ tx 0=true:=by
  have:=i0 hwok t ok.tok [] 0 (by decide);rw[bH]at this;rw[htx,this];rfl
 have hpt':pt=kW t 0:=by rw[hpt,htx];exact Fn hwok ok.tok
 have hcolg:∀p,p<5→cols.getD p 0=oz (ii (cs.getD p 0)) tl sz:=fun p hp=>by rw[hcols,jt 0 0 (by lia)]
 have hrowp:∀p,p<5→rows.getD (2*p) []=ii (cs.getD p 0):=fun p hp=>by
  have:=qP (runs:=runs) t [] 0 ok.cont p (d5 _) (by rw[ok.nl];omega);rw[lr]at this;rw[hrows,this,hrg p hp]
 have hlv:∀p:Int,0≤p∧p<5→(gz lw (2*p).toNat).lvl sz=cols.getD p.toNat 0:=fun p hp=>by
  have e:=TZ hp.1;rw[e,(hLW _ (by exact(iG 0x1cb242e8884176ae50b915401c1001c8:) hp)).lvl (by exact(iG 0x737bde481723230b919105c8c842e46aa30b9154042e:) hsb),hcolg _ (by(exact Mine.tn_lt hp (by decide))),hrowp _ (by(exact Mine.tn_lt hp (by decide)))];rfl
 have hcw:∀p:Int,0≤p∧p<5→(wk.getD (2*p).toNat []).getD (sz-1).toNat 0=cols.getD p.toNat 0:=fun p hp=>by
  have e:=TZ hp.1;rw[e,hkg _ (by exact(iG 0x1cb242e8884176ae50b915401c1001c8:) hp),hrowp _ (by exact(iG 0x1cb142e16ae50b915401c1001c8:) hp),hcolg _ (by exact(iG 0x1cb142e16ae50b915401c1001c8:) hp),AR (Af _)];rcases hs3 with q|q|q<;>rw[q]<;>rfl
 have hkb:∀c,KB (oz (ii c) tl sz):=fun c=>OG c htb hs3;have hnb:∀c,NB (kB c):=fun c=>⟨n9 c⟩;have hcoll:cols.length=5:=by rw[hcols,ag,hcl]
 have hcb:∀c∈cols,0≤c∧c≤100:=fun c hc=>by
  rw[hcols]at hc;(refine Ua (bc.mp hc) fun x _ q0=>?_;subst q0);have:=(hkb x).bd;show 0≤oz (ii x) tl sz∧oz (ii x) tl sz≤100;(exact⟨aB (by decide) this.1,aB this.2 (by decide)⟩)
 have hX:=Lp hwb.1;obtain⟨X,hXe⟩:∃X,X=(2:Int)^wi:=⟨_,rfl⟩;rw[←hXe]at hX;have ens:ns=[kB c0,kB c1,kB c2,kB c3,kB c4]:=by rw[hns,hcs];rfl
 have ecols:cols=[oz (ii c0) tl sz,oz (ii c1) tl sz,oz (ii c2) tl sz,oz (ii c3) tl sz,oz (ii c4) tl sz]:=by rw[hcols,hcs];rfl
 have n0:=hnb c0;have n1:=hnb c1;have n2:=hnb c2;have n3:=hnb c3;have n4:=hnb c4;have k0:=hkb c0;have k1:=hkb c1;have k2:=hkb c2;have k3:=hkb c3;have k4:=hkb c4;generalize kB c0=m0 at ens n0;generalize kB c1=m1 at ens n1;generalize kB c2=m2 at ens n2;generalize kB c3=m3 at ens n3;generalize kB c4=m4 at ens n4;generalize oz (ii c0) tl sz=l0 at ecols k0;generalize oz (ii c1) tl sz=l1 at ecols k1;generalize oz (ii c2) tl sz=l2 at ecols k2;generalize oz (ii c3) tl sz=l3 at ecols k3;generalize oz (ii c4) tl sz=l4 at ecols k4;have epu:pu=[m0,l0,m1,l1,m2,l2,m3,l3,m4,l4]:=by rw[hpu,ens,ecols];rfl
 have edue:due=[m0+l0*X,m1+l1*X,m2+l2*X,m3+l3*X,m4+l4*X]:=by rw[hdf,ens,ecols,←hXe];rfl
 have hpb:∀x∈pu,0≤x∧x<2^wi:=fun x hx=>by
  rw[←hXe];rw[epu]at hx;exact gh (P:=fun x=>0≤x∧x<X) (n0.lt hX) (gh (k0.lt hX) (gh (n1.lt hX) (gh (k1.lt hX) (gh (n2.lt hX) (gh (k2.lt hX) (gh (n3.lt hX) (gh (k3.lt hX) (gh (n4.lt hX) (gh (k4.lt hX) ub))))))))) x hx
 have hdu:io (eF (2^wi) pu) (2*wi)=due:=by
  rw[epu,edue,hXe];exact Kl hwb.1 n0 n1 n2 n3 n4 k0 k1 k2 k3 k4
 have hdl:due.length=5:=by rw[edue];rfl
 have hdbd:∀d∈due,0<d∧d<X*X:=fun d hd=>by
  rw[edue]at hd;exact gh (P:=fun x=>0<x∧x<X*X) (kn hX n0 k0) (gh (kn hX n1 k1) (gh (kn hX n2 k2) (gh (kn hX n3 k3) (gh (kn hX n4 k4) ub)))) d hd
 have hXX:X*X=2^(2*wi):=by rw[v7,←hXe]
 have hwt:vL due:=⟨hdl,fun d hd=>by
  have:=hdbd d hd;rw[hXX]at this;unfold W3;exact pV (by(exact aO this.1)) this.2 (by exact(zh 0x739417703744420bb2f4402e90af5e09c8:) b8 hwi)⟩;have hdb:∀p:Nat,(due.getD p 0).natAbs<2^1500:=fun p=>by
  by_cases hp:p<due.length
  ·have:=hdbd _ (getD_mem (d:=0) hp)
   rw[hXX]at this;exact pV (by(exact aO this.1)) this.2 (by exact(fN 0xe502ee0dd11082ed52cb138541402e:) hwb)
  ·rw[ac,fj (by(exact c5.mp hp))]
   exact H8 (by decide)
 have hwF:∀p,p<5→0<wF due p∧wF due p<X*X:=fun p hp=>hdbd _ (getD_mem (by lia));have hchk:=ok.chk;have hN4:(k9 t 0).map (·.2.1)=[1,2,3,4]:=by
  unfold Ho at hchk;rw[ao]at hchk;exact of_decide_eq_true hchk.2
 have hNl:(k9 t 0).length=4:=by have:=congrArg List.length hN4;simpa using this
 have hRH:HP lw rows:=ET hrl hrr hLW;have hpr':pr=(k9 t 0).map (lO due):=by
  rw[hpr];refine CL hN4 ?_;exact s3 (runs:=runs) hRH hr5 t [] [] [] 0 (by rw[hrows];simp) rfl ok.tok (by simp only[bf];exact(fN 0x394205cf101d4205c2:) hd) (.inl rfl) (.inl rfl)
 have hpbd:∀x∈pr,0≤x∧x≤25*((X*X)*(X*X)):=fun x hx=>by
  rw[hpr']at hx;(refine Ua (bc.mp hx) fun n hn q0=>?_;subst q0);have nb:=s8 t 0 n hn;rw[ok.nl]at nb;have:=Jd (due:=due) (Y:=X*X) (by have:=hwF 0 (by decide);exact(ly 0x1caa40ed5d28ba00e:) this) (fun p hp=>by have:=hwF p hp;exact(ly 0x1cd5528aa00ed5d28ba00e:) this) (x:=n) (by(exact nb.1)) (by(exact nb.2));refine⟨this.1,aB this.2 (ur ?_)⟩;rw[ck,Mk (X*X) 5 (X*X)];exact(iG 0x6628c85d18a0a17142e:)
 have hprl:pr.length=4:=by rw[hpr'];simpa using hNl
 have hWb:∀i j:Nat,i≤j→j<4→0≤WF pr i j∧(WF pr i j).natAbs<2^3000:=fun i j h1 h2=>by
  unfold WF;have hsl:=Ey (l:=(pr.drop (i:Int).toNat).take ((j:Int)+1-i).toNat) (B:=25*((X*X)*(X*X))) fun x hx=>hpbd x (gZ (fA hx));have hlen:((pr.drop (i:Int).toNat).take ((j:Int)+1-i).toNat).length≤4:=ae (dW ..) (by rw[cp,hprl];exact rZ ..);refine⟨hsl.1,KD hwb.2 hsl.1 ?_⟩;rw[←hXX];refine aB hsl.2 ?_;have h0:0≤X*X*(X*X):=cb (cb (by(exact aB (by decide) hX)) (by(exact aB (by decide) hX))) (cb (by(exact aB (by decide) hX)) (by(exact aB (by decide) hX)));have:=bJ (show((((pr.drop (i:Int).toNat).take ((j:Int)+1-i).toNat).length:Nat):Int)≤4 by(exact bQ.mpr hlen)) (show 0≤25*(X*X*(X*X))by exact(iG 0x1cac5190b80eaa00e:) h0);exact(ly 0xe56291904e456314e42e205c8:) this
 have hok:∀i j:Int,0≤i∧i≤j∧j<4→uk pr due pt i j:=fun i j hij=>by
  rw[hpr',hpt'];refine CT hchk (fun p hp=>(hwF p hp).1) (fun i j h1 h2=>?_) hij;rw[←hpr'];exact(hWb i j h1 h2).2
 have hall:pr.sum=PF due 0 3:=by
  have h03:=(hok 0 3 (by decide)).mem.mp (by rw[hpt'];exact uP ok.nl);rw[←h03];unfold WF;show _=((pr.drop 0).take 4).sum;rw[lC,bD (by(exact fJ hprl))]
 have hsum:pr.sum=AF ns+BF ns cols*X+AF cols*(X*X):=by rw[hall,edue,ens,ecols,Ph]
 have zA:=Mn (m:=54) (by decide) n0.u n1.u n2.u n3.u n4.u;have zZ:=Mn (m:=23) (by decide) k0.u k1.u k2.u k3.u k4.u;have zB:=So (m:=54) (k:=23) (hK n0.u) (hK n1.u) (hK n2.u) (hK n3.u) (hK n4.u) (hK k0.u) (hK k1.u) (hK k2.u) (hK k3.u) (hK k4.u);rw[←ens]at zA;rw[←ecols]at zZ;rw[←ens,←ecols]at zB;obtain⟨FA,hFA⟩:∃x,x=AF ns:=⟨_,rfl⟩;obtain⟨FB,hFB⟩:∃x,x=BF ns cols:=⟨_,rfl⟩;obtain⟨FZ,hFZ⟩:∃x,x=AF cols:=⟨_,rfl⟩;rw[←hFA]at zA hsum;rw[←hFB]at zB hsum;rw[←hFZ]at zZ hsum;have hXX0:0≤X*X:=cb (by(exact aB (by decide) hX)) (by(exact aB (by decide) hX));have bA:=tV hX ⟨aO zA.1,zA.2⟩ (by decide);have bB:=tV hX zB (by decide);have bZ:=tV hX ⟨aO zZ.1,zZ.2⟩ (by decide);have hX0:0≤X:=aB (by decide) hX;have hps:0≤pr.sum:=by rw[hsum];exact xF bA.1 bB.1 bZ.1 hX0
 have hps2:pr.sum.natAbs<2^3000:=by
  have:=(hWb 0 3 (by decide) (by decide)).2;rw[hall];have h03:=(hok 0 3 (by decide)).mem.mp (by rw[hpt'];exact uP ok.nl);rw[←h03];exact this
 have hd1:io pr.sum wi=[FA,FB,FZ]:=vp hwb.1 (hXe▸bA) (hXe▸bB) (hXe▸⟨zZ.1,bZ.2⟩) (by rw[←hXe];exact hsum);have hlk:2^(3*wi)-1-pr.sum=(X-1-FA)+(X-1-FB)*X+(X-1-FZ)*(X*X):=by rw[hsum,CN,←hXe,FY]
 have hs3':0≤2^(3*wi)-1-pr.sum:=by
  rw[hlk];exact xF (oi bA).1 (oi bB).1 (oi bZ).1 hX0
 have hd2:io (2^(3*wi)-1-pr.sum) wi=[2^wi-1-FA,2^wi-1-FB,2^wi-1-FZ]:=by
  rw[←hXe];exact vp hwb.1 (hXe▸oi bA) (hXe▸oi bB) (hXe▸⟨F1 hX zZ.2 (by decide),(oi bZ).2⟩) (by rw[←hXe];exact hlk)
 rw[hFA,hFB,hFZ]at hd1 hd2;have hh3:∀h∈hs,h.length≤800:=fun h hh=>by
  rw[hhs]at hh;obtain⟨r,hr,rfl⟩:=bc.mp hh;exact Bz (hrr r hr).1 (hrr r hr).2 (by exact(ly 0x1ce7355185c8aa00eb8c2e4d52076528:) htl b1 b2)
 have halo:al.ok∧al.longest≤90:=by rw[hal];exact(sq hwd3 hwdl hbb hstop).1.ok
 have hre:∀k:Int,0≤k∧k<9→dH ((pg.getD k.toNat []).drop (hs.getD k.toNat []).length)=Bk ns k:=fun k hk=>by
  rw[hpgs k hk,hhg _ (by(exact Mine.tn_lt hk (by decide))),PM];exact CG hword hk
 have htxl:1≤tx.length:=by rw[htx];exact Ew h2nl
 have hc2:cZ (tx.drop 1++[40]) 0=false:=by rw[htx];exact G6 hwok ok.tok h2nl
 have htr:∀p,p<tx.length→tx.getD p 0=40→((gr tx p).find? fun t=>cZ t 0).isSome=true:=by rw[htx];exact fun p hp h=>En hwok ok.tok p hp h
 have tsz:t.size≤100:=by rw[ok.size];decide
 exact⟨{
  c0:=c0
  c1:=c1
  c2:=c2
  c3:=c3
  c4:=c4
  hcs:=hcs
  t:=t
  ht:=ht
  tok:=ok.tok
  tsz:=tsz
  tdp:=by(exact ca hd (by decide))
  ns:=ns
  hns:=hns
  ws:=ws
  hws:=hws
  hw3:=hw3
  runs:=runs
  hru:=hru
  rows:=rows
  hrows:=hrows
  hro:=fun r hr=>xS (hrr r hr).1 (hrr r hr).2
  hrl:=hrl
  tt:=tt
  htt:=htt
  tl:=tl
  htl:=htl
  htb:=htb
  hs:=hs
  hhs:=hhs
  hh3:=hh3
  pg:=pg
  hpg:=hpg
  lw:=lw
  hlw:=hlw
  hlo:=hlo
  wk:=wk
  hwk:=hwk
  wd:=wd
  hwd:=hwd
  bh:=bh
  hbh:=hbh
  hbb:=hbb
  hwdo:=xS hwd3 hwdl
  hlwd:=Bz hwd3 hwdl hbb
  al:=al
  hal:=hal
  halo:=halo
  bs:=bs
  hbs:=hbs
  hg:=hgap
  hre:=hre
  tx:=tx
  htx:=htx
  htxl:=htxl
  htx9:=by(exact ae hlen27 (by decide))
  hrt:=hrt
  hc1:=hc1
  hc2:=hc2
  htp:=htp
  htr:=htr
  sz:=sz
  hsz:=hsz
  hsb:=hsb
  wi:=wi
  hwi:=hwi
  hwb:=hwb
  cols:=cols
  hcl:=hcoll
  hcb:=hcb
  hlv:=hlv
  hcw:=hcw
  pu:=pu
  hpu:=hpu
  hpb:=hpb
  due:=due
  hdu:=hdu
  hdf:=hdf
  hwt:=hwt
  hdb:=hdb
  pr:=pr
  hpr:=hpr
  pt:=pt
  hpt:=hpt
  ok:=hok
  hps:=hps
  hps2:=hps2
  hd1:=hd1
  hs3:=hs3'
  hd2:=hd2}⟩
theorem Nu (cs:List Int) (h:cs.length=5):Nonempty (LD cs):=by
 obtain⟨c0,c1,c2,c3,c4,rfl⟩:=L5 h;exact Nt c0 c1 c2 c3 c4
theorem Nv:Ch:=FW Nu
theorem done:PySem.Challenge.rw_uc0055_01.Holds:=Rs Nv
end Mine
end
theorem PySem.Challenge.cw_uc0055_01_holds : PySem.Challenge.rw_uc0055_01.Holds := by
  exact Mine.done
