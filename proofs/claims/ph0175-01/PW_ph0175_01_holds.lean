import PyProof.Rows.All
import Wide.All
import OpenK.AllK
import Wide.FinOn
import KE.KSortTup
import KE.KLam
import KE.KItemsList
import KE.KxPercentT
import PyProof.Rows.TupMore
import OpenK.KMake
import PyProof.Rows.SetFrom
import PyProof.AttrMissHeap
import PySem.Challenge.RW_ph0175_01
open PySem PySem.W PyProof.Rows
set_option Elab.async false
set_option maxRecDepth 100000
set_option maxHeartbeats 0
set_option bootstrap.genMatcherCode false
open Classical renaming byContradiction → Rg
open PySem renaming wpAny_bind → Rh, wpAny_pure → Rj, sizeLine → Rs, wpAny_mono → RM, Str → RN, Shared → RT, slot_list_getitem → RU, sizeLine_eq → R2, wpAny_callSpecial?_slot → Sa, compareOp → Sv, wpAny_newObj_type → Sz, codeAny_of_tree → SD, bindArgs → SV, codeAny_builtin → SW, wpAny_of_eq → SX, slot_list_append → Ta, foldedSetIterable → Td, Expr → Tk, letOwnedTupleGo → Tp, codeAny → Tt, sysModules → TA, rawInt → TF, Around → TL, typeIs_str → TZ, wpAny_attempt → T3, bootBuiltins → T4, wpAny_noted → T7, Addr → Ud, swappedStores → Ui, plainId_quiet → Uj, codeAny_mono → UB, wpAny_onRaise → UD, strKind_is → UF, pyNext → UP, compEnvC → US, callWith → UT, assignEach → UY, wpAny_newFunctionEnv_cells → Vb, isSubtype_stop → Vi, sliceBounds → Vj, wpAny_call → Vk, wpAny_comprehension_free → Vw, getItem → Vx, Stmt → Vy, wpAny_updateSeq → VD, wpAny_ite_split → VE, Heap → VN, typeLookup → VO, wpAny_ite → VR, wpAny_assign_Name → VX, slot_dict_getitem → VY, relayAll → V7, wpAny_loadName_local → Wc, seqIndex? → We, hashStr → Wm, pyIter → Wn, binaryOp → Wo, wpAny_setEntries_of → Wr, slot_listiter_next → Wy, wpAny_pyIter_list → WM, unsupported → WO, assignInOrder → WS, wpAny_items_cons → W9, wpAny_isInstance → Xa, wpAny_execs_cons → Xb, swapsWith → Xh, isSubtype → Xi, wpAny_pyNext_list_item → Xk, wpAny_nextOf_list_item → Xl, entryFor → Xm, ZipApart → Xn, SetTable → Xo, theTreesLotGoes → Xv, limitOf → Xw, Builtin → Xx, wpAny_pyNext_list_end → XB, exec_Assign_Name_used → XC, assign → XJ, JoinOk → XK, wpAny_newFunctionEnv → XN, wpAny_newTuple → XR, checkBoundCall → XU, wpAny_throw → XV, compTurn → X3, length_partsBetween → X4, scanBound → X7, inplaceOp → X8, clipAt → Yj, IsPair → Yk, wpAny_newList → Yq, wpAny_setField_rec → Yt, closureFor → YB, wpAny_truthy_bool → YK, call_meetsIn → YM, wpAny_pyIter_zip → YZ, entryFor_of_tree → Y0, Sem → Y3, pickOrder → Y9, getMethod → Za, IsZip → Zg, wpAny_field → Zh, importBound → Zj, layNew → Zs, wpAny_items_nil → Zt, wpAny_FormattedValue_plain → ZB, wpAny_runValue → ZD, wpAny_listPart → ZF, recursionLimit → ZG, newFunctionEnv → ZH, NameKind → ZR, wpAny_getItem_list_slice → ZX, swapsWithSole → Z3, wpAny_list_append_plain → Z7, DictEntry → aal, wpAny_pyNext_dict_item → aam, wpAny_getItem_list_neg → aan, wpAny_allTrue_And_cons → aao, wpAny_typeOf → aau, wpAny_pyNext_dict_end → aax, wpAny_nextOf_list_end → aay, wpAny_allTrue_Or_cons → aaz, codeAny_call_function → aaA, setItem → aaK, relabel → aaL, table → aaN, cLine → aaO, again → aaP, Scope → aaQ, wpAny_updateSeq_pair → aaU, codeAny_call_builtin → aaV, wpAny_BinOp → aa8, interactive → aa9, storeSet → aba, FuncData → abb, wpAny_loadName_free → abc, wpAny_loadName_cell → abd, wpAny_Assign_stores → abe, entry_listiter_next → abf, Frame → abs, wpAny_pyIter_tuple → abt, wpAny_getItem_list → abu, wpAny_Constant_str → abv, wpAny_Constant_int → abw, args_listiter_next → abx
open Nat renaming le_refl → Ri, le_trans → Rq, zero_le → RW, lt_of_lt_of_le → Si, sub_self → So, le_succ_of_le → Sq, le_add_right → Sr, succ_pos → SO, lt_irrefl → SQ, ne_of_lt → Te, ne_of_gt → Tq, add_comm → Tr, le_of_lt → TC, add_le_add_right → TE, le_succ → TP, not_lt → T8, succ_le_succ → Ue, le_of_succ_le → Uo, zero_add → Ur, le_of_eq → UK, lt_of_succ_lt → UW, add_lt_add_left → Vc, add_assoc → Vn, add_sub_cancel → Vt, add_right_comm → Vu, lt_succ_of_lt → VH, add_le_add → VJ, le_of_ble_eq_true → VQ, succ_ne_self → VZ, lt_succ_self → V0, le_add_left → Wa, lt_of_le_of_lt → Wl, succ_mul → WT, min_le_left → WW, zero_mul → Yb, sub_zero → Yc, mul_zero → Yd, mul_comm → Ye, lt_trans → Yg, le_total → Yh, min_eq_right → Yv, min_eq_left → YL, mul_le_mul → Y1, le_of_sub_eq_zero → ZK, mul_le_mul_right → ZY, le_sub_of_add_le → ZZ, one_mul → Z5, mul_add → Z6, mul_le_mul_left → Z9, add_le_add_left → aaa, sub_add_cancel → aaq, pos_of_ne_zero → aar, lt_trichotomy → aaD, lt_of_sub_pos → aaE, le_of_lt_succ → aaF, le_antisymm → abi, sub_add_eq → abA
open _root_.List renaming length_map → Rk, mem_cons_of_mem → Rm, mem_cons_self → Rn, length_append → Ro, mem_singleton → Rr, mem_cons → Rt, getElem?_eq_some_iff → Ru, replicate → Ry, mem_map → Rz, map_cons → RD, mem_append → RE, append_nil → RF, not_mem_nil → RG, map_append → RH, size_toArray → RI, getElem?_eq_getElem → RK, getElem?_append_right → RL, map_map → RO, append_assoc → RP, length_cons → RQ, length_eq_zero_iff → RX, mem_append_left → RY, reverse → R3, getElem?_append_left → R8, map_congr_left → R9, set_append_right → Sb, lookup_cons → Sc, mem_of_getElem? → Sf, mem_append_right → Sg, mem_filter → Sk, getElem?_toArray → Sm, map_nil → Su, getElem?_eq_none → Sw, getElem?_map → Sx, all_eq_true → SE, nodup_cons → SG, length_singleton → SI, drop_eq_getElem_cons → SM, reverse_cons → SN, map_singleton → SP, length_filter_le → SR, length_set → SS, getElem?_set_ne → SY, take_of_length_le → Tc, flatten_append → Tf, all_cons → Th, flatMap_cons → Ti, nodup_nil → Tl, length → Tm, getElem?_set_self → Tn, cons_ne_nil → To, contains_iff_mem → Tu, toArray → Tz, cons_append → TD, nil_append → TM, eq_nil_or_concat → TN, nodup_append → TY, mem_map_of_mem → T6, sum_cons → Ub, sum_singleton → Uf, getLast?_concat → Um, map → Uu, map_eq_nil_iff → Ux, filter_cons_of_pos → Uy, filter_cons_of_neg → Uz, getElem_mem → UA, drop_left → UC, sum_append → UM, range → U3, mem_reverse → U4, filter_cons → U5, any_eq_true → U6, length_pos_iff → U9, filter_eq_self → Va, forIn_cons → Vl, filter_map → Vm, pairwise_cons → Vo, filter_filter → Vp, filter_append → Vq, idxOf_append → Vz, flatten_cons → VA, filter_congr → VB, mem_range → VF, drop_zero → VG, length_take → VU, length_drop → VV, drop_length → VW, length_dropLast → V1, forall_mem_cons → V2, dropLast_concat → V3, length_nil → V8, all_map → Wb, count_eq_zero → Wh, take_left → Wi, foldl_append → Ws, append_cancel_right → Wv, any_cons → Wx, mem_flatMap → WD, append_inj' → WE, filter_eq_nil_iff → WI, drop_eq_nil_of_le → WJ, append_eq_nil_iff → WK, any_map → WN, head?_drop → WP, mem_iff_getElem? → WV, mem_of_mem_drop → Xc, map_eq_cons_iff → Xd, tail_drop → Xe, perm_singleton → Xr, length_reverse → Xs, filterMap_cons → Xu, getElem?_take → XH, getElem?_set → XZ, ext_getElem? → X0, prefix_refl → Ym, flatten_nil → Yn, any_toArray → Yo, getLast?_eq_some_getLast → Yr, count_eq_zero_of_not_mem → Ys, lookup → Yx, idxOf_lt_length_of_mem → YF, isPrefixOf_iff_prefix → YO, mem_or_eq_of_mem_set → YU, getElem?_zip_eq_some → YV, count_singleton_self → YW, map_drop → Zd, length_eq_one_iff → Zv, drop_of_length_le → Zw, length_replicate → ZC, set_append_left → ZL, mem_of_mem_take → ZM, length_eraseIdx → ZN, idxOf_le_length → ZO, count_cons_self → ZP, length_flatten → Z0, prefix_append → aac, mem_replicate → aad, getElem_range → aae, getElem_idxOf → aaf, flatMap_assoc → aag, count_reverse → aah, contains_cons → aai, length_range → aas, take_length → aaG, isEmpty_iff → aaH, getLast_mem → aaI, of_mem_zip → aaZ, length_zip → aa0, foldl_cons → aa1, find?_cons → aa2, countP_map → aa3, all_append → aa4, forIn_nil → abj, drop_drop → abk, sum → abm, drop_one → abB
open PySem.Heap renaming get?_push_of_some → Rp, get?_push_size → Rx, lt_size → RV, size_push → Se, get?_update_other → Sh, get?_update_self → Sn, SameBut → SU, get?_none_of_le → S9, ExtBut → Vv, size_update → WF
open PySem.PyData renaming strOk → Rv, canLayAll0 → TW, depthAll → Uk, eqv → Uq, int → XA, canLay0 → YC, tuple → Zb, depth → Zc, list → Zy, str → ZV, eqvAll → aaY
open Bool renaming and_eq_true → RA, false_ne_true → R4, true_and → UQ, not_eq_true' → VC, and_eq_true_iff → V4, or_eq_true → WQ, and_false → Xf, and_true → Ze, and_comm → Zf, false_eq_true → aaj, eq_false_iff → aat, not_eq_true → aaJ, eq_iff_iff → aa7
open Option renaming none → RB, map_eq_some_iff → TG, isSome_iff_exists → TS, bind_some → VM, isSome → Xp, elim_some → XX, elim_none → XY, map → ZW, some → abz
open PySem.Str renaming length_append → RC, ofString → VK, empty → Wp, join → Yp
open PySem.F renaming plainAttrs_list → RJ, type_list_append → R7, plainAttrs_str → Sd, plain_extend_loop → SJ, slot_zip_next → Ts, plainAttrs_dict → Tv, type_str_split → T0, slot_str_split → T2, type_list_pop → T9, slot_list_pop → Ua, slot_tuple_iterator_next → Uh, entry_extend_loop → UZ, type_list_count → Vd, type_dict_items → Ve, slot_list_count → Vf, slot_dict_items → Vg, args_zip_next_1 → Vh, entry_zip_next → Vs, slot_str_getitem → Wj, type_str_join → WG, slot_str_join → WH, args_tuple_iterator_next_1 → Xg, entry_tuple_iterator_next → Xq, slot_list_append → YE, plain_list_iadd → YN, plainAttrs_set → YT, type_dict_get → Y5, slot_set_iter → Y6, slot_dict_get → Y7, type_set_add → Zm, slot_set_add → Zn
open PySem.Obj renaming mapSeq → RZ, data_mapFields → Wk, mapFields → WB, isFreed_of_fields → ZJ, putSet → aav, cls_mapFields → aaC
open PySem.Heap.SameBut renaming update → R5
open PySem.Value renaming str → R6, none → TJ, isStrOf_shape → Us, ref → UR, type → WL, builtin → abg
open _root_.Array renaming getElem?_eq_getElem → Sj, getElem?_eq_some_iff → Uc, length_toList → Ut, getElem?_eq_none → UE, getElem?_toList → UN, size_push → Yw, mem_iff_getElem? → Zq, forIn_toList → Z1, find?_toList → Z2, toList_push → aak
open PySem.Txt renaming split → Sl, join → SF, replace → SH, contains → TB, slice → TH, rsplitMax → Uv, splitMax → UJ, startswith → VI, endswith → Wg, slice_le → X9
open PySem.Around renaming under_plainId → Ss
open PySem.Sem renaming bind_eq_wrap' → Sy, wrap_wrap → Tw, onRaise_eq_wrap → Z8, wrap_congr → aby
open PyProof.Rows renaming slot_tuple_getitem → SA, listItems_at → TR, get?_update_seq → Uw, listUpdate_at → U1, seqObj → U7, slot_list_sort → XS, failedOf → X2, toString_length_le → Yu, seqEpoch_at → Zi, entry_list_sort → Zu, wpAny_release' → ZE, AllBare → aaM, arrOf → abr
open Ne renaming symm → SK
open ForInStep renaming yield → Tj
open PySem.W.KPc renaming short_good → TK, turn → VP, ite_no → V5, after_add → WC, obj_none → WU, Obj → aaT, range_list → abC
open PySem.W renaming findIn → TQ, callWith_of → UV, emptyDict → VS, nsIn → Ww, peek → WA, km_tabs_of → YA, takerIn → YX, instObj → YY, codeHd_of_K → Zk, fencedOpening → Z4, ownOf → aaB
open PySem.Builtin.Str renaming occurrences → TU, strKind → Ul, partsBetween → V9, occurrencesFromRight → WX
open PySem.SetTable renaming grown → TV
open Lean renaming Syntax → TX
open List.cons renaming injEq → Ug, inj → U2
open PySem.SeqAt renaming shaped → Un, canLay_of_shaped → Zl, eqv_refl → aaX
open PySem.W.Looks renaming of_pure → Up, of_peek → UO, ld → Xj
open PySem.NameKind renaming free → UG, cell → YD
open PyProof.Rows.F renaming plain_set_update_loop → UH, entry_set_update_loop → Wt
open Int renaming natCast_nonneg → UI, add_comm → UL, toNat_natCast → UX, natCast_add → Vr, ofNat_lt → VL, sub_eq_add_neg → XO, mul_fmod_right → XQ, ofNat_le → Yi, mul_fdiv_cancel_left → Zp, dvd_of_fmod_eq_zero → Zx, max_eq_right → aa6, min_eq_left → abl
open PySem.Builtin.List renaming listSameRef → UU, listSubscript? → Xy, listLengthHint → Xz, listFitsIndex → XG
open Option.some renaming inj → U0, injEq → Y8
open PySem.MeetsSeq3 renaming plain_eq_loop → U8, entry_eq_loop → Yy
open Nat.succ renaming inj → V6
open Std.Legacy.Range renaming forIn_eq_forIn_range' → Wf
open And renaming intro → Wq
open PySem.pickOrder renaming go → Wu
open PySem.Builtin.Generator renaming sleptOver → WR, genWake → aaR
open PySem.Builtin.SmallTypes renaming nextOf → WY, ownedTupleIsFree → aaw
open PySem.Calls renaming evalArgs_plain → WZ, Name_function_global → YI, call_len_list → ZQ
open PySem.Builtin.Slice renaming slicePlaces → XD, sliceAdjust → XE
open PySem.Code renaming quiet_builtin → XI, builtin → Zz
open PySem.Env renaming blockKind → XM
open PySem.Builtin renaming divisionGoesByPylong → X1
open List.Perm renaming swap → X5, refl → X6, cons_inv → Zr
open StateT renaming run_pure → Yl
open PySem.Heap.IsSliceOf renaming new → Yz
open PySem.W.Fast renaming te14364793385576792824 → YG, te14082659384304107361 → YH, te8326940854005059898 → YQ, te4187177175401517315 → YR, te1435165496053646825 → YS
open PySem.SetTable.below renaming go → YJ
open PySem.IsL renaming update → Y4
open PySem.Manifest renaming signature? → Zo
open PySem.W.WTm renaming holds → ZA
open PySem.StrLaws renaming At → ZI
open PySem.W.WShape renaming has → ZU, hasItems → aap, hasAll → aaW
open PySem.P renaming add_int → aab
open PySem.Builtin.Frozenset renaming updateFrom → aaS
open PySem.W.KatTups renaming cons → aa5
open Prod.mk renaming inj → abh
open PySem.Challenge renaming rw_ph0175_01 → abo, pw_ph0175_01 → abp
open PySem.Heap.IsListIter renaming typeIs → abq
namespace Mine.Internal
set_option compiler.extract_closed false
set_option genInjectivity false
set_option genSizeOf false
set_option genCtorIdx false
set_option maxRecDepth 1000000
def d6(k:Lean.Name)(a:List TX):TX:= .node .none k a.toArray
def pN(a:List TX):TX:=d6 `Lean.Parser.Tactic.tacticSeq [d6 `Lean.Parser.Tactic.tacticSeq1Indented [d6 `null a]]
def iX(s:String):TX:= .atom .none s
def aD:TX:=pN [d6 `Lean.Parser.Tactic.decide [iX "decide",d6 `Lean.Parser.Tactic.optConfig [d6 `null []]]]
def aI:TX:=pN [d6 `Lean.Parser.Tactic.intros [iX "intros",d6 `null []],iX ";",d6 `Lean.Parser.Tactic.tacticRfl [iX "rfl"]]
def aK:TX:=pN [d6 `tacticKernel_rfl [iX "kernel_rfl"]]
def aE:TX:=pN [d6 `Lean.Parser.Tactic.decide [iX "decide",d6 `Lean.Parser.Tactic.optConfig [d6 `null [d6 `Lean.Parser.Tactic.configItem [d6 `Lean.Parser.Tactic.posConfigItem [iX "+", .ident .none "kernel".toRawSubstring `kernel []]]]]]]
noncomputable abbrev pw:Program:=abp
noncomputable abbrev rW:OpenLaw:=abo
noncomputable def sM(i:Nat):Vy:=pw.main.body.getD i default
noncomputable def sC(i:Nat):Vy:=(match sM 7 with| .ClassDef _ _ _ b .. =>b|_=>[]).getD i default
noncomputable def cO(n q:RN)(t L ac kw fl r:Nat)(lam:Bool)(u:Nat):Obj:=
 {cls:= .type "code",data:= .fields (#[.str n t, .str q (t+1), .str "/claim/cut.py" (t+2), .int L 0, .int ac 0, .int 0 0, .int kw 0, .int fl 0, .ref r, .bool true, .int 276 0, .ref (r+1), .none]++
   (match lam with|true=>#[.none, .none, .ref (r+2)]|false=>#[.ref (r+2), .ref (r+3), .ref (r+4)])++#[.int u 0, .int L 0, .str "/claim/cut.py" (u+1)])}
noncomputable def eA(s:Vy)(q:RN)(df kd:Value)(m:RN×Nat)(t L ac kw fl r:Nat)(lam:Bool)(u:Nat):Frag:=
 match s with
 | .FunctionDef n a b _ _ _ sc .. =>(fun ca=>[(ca,cO n q t L ac kw fl r lam u),(ca+1,{cls:= .type "function",data:= .func ⟨n,q,a, .stmts b,sc,3,[],df,kd, .none, .str m.1 m.2,none, .ref ca, .none,0⟩})]) (r+(match lam with|true=>3|false=>5))
 |_=>[]
noncomputable def Av:RN×Nat:=("cpy313.xml.etree.ElementTree",289)
noncomputable def JF:RN×Nat:=("cpy313.pstats",539)
noncomputable def Aw:RN×Nat:=("law_ph0175_01",587)
noncomputable def dE(P:Params)(k:RN)(t:Nat)(v:Value):aal:=⟨PyData.keyHash P k, .str k t,v⟩
noncomputable def dO(l:List aal)(n:Nat):Obj:={cls:= .type "dict",data:= .dict l.toArray n}
noncomputable def tO(l:List Value):Obj:={cls:= .type "tuple",data:= .seq l.toArray}
noncomputable def K0(P:Params):Frag:=[
 eA (sC 0) "C14NWriterTarget.__init__" .none (.ref 60) Av 379 13 2 7 3 61 false 391,
 eA (sC 1) "C14NWriterTarget._iter_namespaces" (.ref 68) .none Av 394 41 3 0 35 69 false 401,
 eA (sC 3) "C14NWriterTarget._qname" (.ref 83) .none Av 416 53 3 0 3 84 false 426,
 eA (sC 4) "C14NWriterTarget.data" .none .none Av 429 80 2 0 3 91 false 434,
 eA (sC 5) "C14NWriterTarget._flush" (.ref 99) .none Av 439 84 2 0 3 100 false 447,
 eA (sC 7) "C14NWriterTarget.start" .none .none Av 459 101 3 0 3 114 false 466,
 eA (sC 8) "C14NWriterTarget._start" (.ref 121) .none Av 469 114 5 0 3 122 true 472,
 eA (sC 9) "C14NWriterTarget.end" .none .none Av 475 159 2 0 3 127 false 480,
 eA (sM 8) "_escape_cdata_c14n" .none .none Av 525 176 1 0 3 155 false 529,
 eA (sM 9) "_escape_attrib_c14n" .none .none Av 532 189 1 0 3 162 false 536,
 eA (sM 11) "func_std_string" .none .none JF 541 207 1 0 3 169 false 546,
 eA (sM 12) "add_func_stats" .none .none JF 549 216 2 0 3 176 false 564,
 eA (sM 13) "add_callers" .none .none JF 567 220 2 0 3 183 false 575,
 eA (sM 14) "count_calls" .none .none JF 578 233 1 0 3 190 false 584,
 eA (sM 16) "_law_function" .none .none Aw 589 239 1 0 3 197 false 599,
 eA (sM 17) "_law_run" .none .none Aw 602 247 3 0 3 204 true 605,
 eA (sM 18) "_law_plain" .none .none Aw 608 265 2 0 3 209 true 611,
 eA (sM 19) "_law_value" .none .none Aw 614 271 1 0 3 214 false 618,
 eA (sM 20) "_law_text" .none .none Aw 621 273 1 0 3 221 false 625,
 eA (sM 21) "_law_read" .none .none Aw 628 275 1 0 3 228 true 631,
 eA (sM 22) "_law_profile" .none .none Aw 634 315 2 0 3 233 true 637,
 eA (sM 23) "_law_firsts" .none .none Aw 640 322 1 0 3 238 true 643,
 eA (sM 24) "_law_due" .none .none Aw 646 324 3 0 3 243 true 649,
 eA (sM 25) "law" .none .none Aw 652 340 1 0 3 248 true 655].flatten++[
 (3,dO [(dE P "__name__" 165 (.str "law_ph0175_01" 587)),(dE P "__doc__" 166 .none),(dE P "__package__" 167 .none),(dE P "__loader__" 168 (.builtin "__main__.__loader__#opaque")),(dE P "__spec__" 169 .none),(dE P "__annotations__" 170 (.ref 6)),(dE P "__builtins__" 171 (.ref 4)),(dE P "__file__" 173 (.str "/claim/cut.py" 172)),(dE P "__cached__" 174 .none),(dE P "_sre" 275 (.ref 12)),(dE P "_wall" 288 (.ref 38)),(dE P "_twin_re_1" 328 (.ref 43)),(dE P "_namespace_map" 350 (.ref 44)),(dE P "_raise_serialization_error" 357 (.ref 51)),(dE P "_looks_like_prefix_name" 359 (.ref 52)),(dE P "C14NWriterTarget" 524 (.ref 150)),(dE P "_escape_cdata_c14n" 531 (.ref 161)),(dE P "_escape_attrib_c14n" 538 (.ref 168)),(dE P "func_std_string" 548 (.ref 175)),(dE P "add_func_stats" 566 (.ref 182)),(dE P "add_callers" 577 (.ref 189)),(dE P "count_calls" 586 (.ref 196)),(dE P "_law_function" 601 (.ref 203)),(dE P "_law_run" 607 (.ref 208)),(dE P "_law_plain" 613 (.ref 213)),(dE P "_law_value" 620 (.ref 220)),(dE P "_law_text" 627 (.ref 227)),(dE P "_law_read" 633 (.ref 232)),(dE P "_law_profile" 639 (.ref 237)),(dE P "_law_firsts" 645 (.ref 242)),(dE P "_law_due" 651 (.ref 247)),(dE P "law" 657 (.ref 252))] 32),
 (149,dO [(dE P "__module__" 367 (.str "cpy313.xml.etree.ElementTree" 289)),(dE P "__firstlineno__" 371 (.int 11 370)),(dE P "__init__" 393 (.ref 67)),(dE P "_iter_namespaces" 403 (.ref 75)),(dE P "_resolve_prefix_name" 415 (.ref 82)),(dE P "_qname" 428 (.ref 90)),(dE P "data" 436 (.ref 97)),(dE P "_flush" 449 (.ref 106)),(dE P "start_ns" 458 (.ref 113)),(dE P "start" 468 (.ref 120)),(dE P "_start" 474 (.ref 126)),(dE P "end" 482 (.ref 133)),(dE P "comment" 490 (.ref 140)),(dE P "pi" 499 (.ref 147)),(dE P "__static_attributes__" 517 (.ref 148)),(dE P "__dict__" 519 (.ref 151)),(dE P "__weakref__" 521 (.ref 152)),(dE P "__doc__" 522 .none)] 4),
 (60,dO [(dE P "with_comments" 372 (.bool false)),(dE P "strip_text" 373 (.bool false)),(dE P "rewrite_prefixes" 374 (.bool false)),(dE P "qname_aware_tags" 375 .none),(dE P "qname_aware_attrs" 376 .none),(dE P "exclude_attrs" 377 .none),(dE P "exclude_tags" 378 .none)] 7),
 (68,tO [.type "reversed"]),
 (83,tO [.none]),
 (99,tO [.ref 98]),
 (121,tO [.none]),
 (52,{cls:= .type "builtin_function_or_method",data:= .fields #[.builtin "re.Pattern.match", .ref 43]}),
 (98,{cls:= .type "builtin_function_or_method",data:= .fields #[.builtin "str.join", .str "" 437]}),
 (150,{cls:= .type "type",data:= .cls ⟨"C14NWriterTarget",[.type "object"],[.ref 150, .type "object"],149,"C14NWriterTarget",true,[],[],false,none,false⟩,slots:=#[none,none,some (.str "C14NWriterTarget" 360),some (.str "C14NWriterTarget" 368),some (.builtin "object.__new__"),some (.bool true)]})]
noncomputable def A0:List Ud:=[66,67,74,75,89,90,96,97,105,106,119,120,125,126,132,133,160,161,167,168,174,175,181,182,188,189,195,196,202,203,207,208,212,213,219,220,226,227,231,232,236,237,241,242,246,247,251,252,3,149,60,68,83,99,121,52,98,150]
noncomputable def q0:Program:={pw with main:={pw.main with body:=[sM 25]}}
noncomputable def iH:List RN:=["_sre","_wall","_twin_re_1","_namespace_map","_raise_serialization_error","_looks_like_prefix_name","C14NWriterTarget","_escape_cdata_c14n","_escape_attrib_c14n","func_std_string","add_func_stats","add_callers","count_calls","_law_function","_law_run","_law_plain","_law_value","_law_text","_law_read","_law_profile","_law_firsts","_law_due"]
theorem eK(P:Params):A0=(K0 P).map (·.1):=by kernel_rfl
noncomputable def fu:Hook:=kmHook K0 A0 eK [123,184]
theorem Gu:(["vars","dir","locals"]:List RN).filter (readsOut rW.row.prog rW.row.prog.main.body)=[]:=by
 rw[Fast.te13343964577679436407];exact WI.mpr (V2.mpr ⟨by decide+kernel,V2.mpr ⟨by decide+kernel,List.forall_mem_singleton.mpr (by decide+kernel)⟩⟩)
theorem Ks:rW.wellSaid=true:=by
 delta OpenLaw.wellSaid OpenRow.wellSaid OpenRow.partSaid looksOpen
 repeat' with_reducible refine look_both ?_ ?_
 all_goals first|(rw[Gu,YQ];decide+kernel)|(rw[YQ];decide+kernel)|(rw[Fast.te17119622794617984870];decide+kernel)|(rw[Fast.te8377067652309620493];decide+kernel)|(rw[Fast.te11788848310118352699];decide+kernel)|(rw[Fast.te8179353310426384613];decide+kernel)|(rw[Fast.te9558739934217749035];decide+kernel)|(rw[Fast.te16286561074155671207];decide+kernel)|(rw[Fast.te12862048085361865435];decide+kernel)|(rw[Fast.te10501279942588096481];decide+kernel)|(rw[Fast.te17868728402115742887];decide+kernel)|kernel_rfl
noncomputable def Kt(s:RT):Bool:=xlAt q0 [] s&&recOk rW.row.toRowW.records s
noncomputable def xE(w:World)(b:Bool):Prop:=(Z4 treeTable pw w 3000).map (fun pO=>(topFrom treeTable pw (w.withFollow "special-get-raises" b) 3000 pO).map fun s=>(openSeen q0 iH (importedModules pw.main.body) Kt true s,fu.obs s))=some (some (openGood q0 iH,fu.val (w.withFollow "special-get-raises" b)))
theorem Gv(w:World):xE w true:=by
 delta xE Z4 topFrom
 rw[YG,YS,YH,YR];kernel_rfl
theorem Gy(w:World):xE w false:=by
 delta xE Z4 topFrom
 rw[YG,YS,YH,YR];kernel_rfl
theorem Gz:LeftO pw q0 iH Kt fu.obs fu.val 3000:=fun w=>by
 obtain⟨pO,a,e⟩:=TG.mp (show xE w (w.params.followText "special-get-raises") by cases w.params.followText "special-get-raises" with|true=>exact Gv w|false=>exact Gy w);unfold openEnds;rw[World.withFollow_self] at e;rw[a];exact e
noncomputable def GB:DefRec:=match sM 25 with
 | .FunctionDef n a b _ _ _ sc _ _ p=>{name:=n,params:=a,body:=b,scope:=sc,pos:=p}
 |_=>{name:="",params:=default,body:=[],scope:=default,pos:=default}
theorem hd(call:WalkO q0 iH (XL q0 []) fu.says rW.row.toRowW GB [] fun f vs=>PySem.call f vs):rW.Holds:=
 holds_law Ks fun rs=>holds_open (q:=q0) (loose:=iH) (Xt:=Kt) (XP:=XL q0 []) (Yf:=fu.obs) (Ya:=fu.val) (YP:=fu.says) (N:=3000) Gz fu.of fu.keeps (fun s e=>xl_of s (V4.mp e).1) XL.keeps
  (by kernel_rfl) (by kernel_rfl) (by kernel_rfl) (fun s e=>recFacts_of (V4.mp e).2) (by kernel_rfl) rs (by decide+kernel) ⟨rfl,rfl,rfl,rfl,rfl,by decide+kernel⟩ ⟨[.list []],by decide+kernel,by decide+kernel⟩ call
noncomputable def Ax(h:VN)(a:Ud):Option Obj:=if a=123∨a=184 then none else h.get? a
noncomputable abbrev Cx:=World×(Ud→Option Obj)×(RN→Option Value)
noncomputable def Good(c:Cx):Prop:=WalkO q0 iH (fun m h=>m=c.2.2∧XL q0 [] m h) (fun v h=>v=c.1∧Ax h=c.2.1∧fu.says v h) rW.row.toRowW GB [] fun f vs=>PySem.call f vs
theorem OF:Nonempty Cx:=⟨(aWorld 0,fun _=>none,fun _=>none)⟩
noncomputable def cx:Cx:=@Classical.epsilon Cx OF fun c=>¬Good c
noncomputable def w:World:=cx.1
noncomputable def br:Ud→Option Obj:=cx.2.1
noncomputable def mg:RN→Option Value:=cx.2.2
noncomputable abbrev prog:Program:=pw
theorem good(h:Good cx):rW.Holds:=hd fun w pO ci mg mb G Y=>(Rg fun n=>@Classical.epsilon_spec Cx (fun c=>¬Good c) ⟨_,n⟩ h:Good (w,Ax ci.heap,mg)) w pO ci mg mb {G with X:=⟨rfl,G.X⟩} ⟨rfl,rfl,Y⟩
inductive CN (p:α→β→Prop):Prop
 |intro a b (h:p a b)
inductive D4 (p:α→β→γ→Prop):Prop
 |intro a b c (h:p a b c)
inductive OG (p:α→β→γ→δ→Prop):Prop
 |intro a b c d (h:p a b c d)
inductive OH (p:α→β→γ→δ→ε→Prop):Prop
 |intro a b c d e (h:p a b c d e)
inductive OI (p:α→β→γ→δ→ε→ζ→η→θ→Prop):Prop
 |intro a b c d e f g i (h:p a b c d e f g i)
structure nf(a b c:Prop):Prop where
 x:a
 y:b
 z:c
structure pQ(a b c d:Prop):Prop where
 x:a
 y:b
 z:c
 u:d
structure GC(a b c d e f:Prop):Prop where
 x:a
 y:b
 z:c
 u:d
 v:e
 w:f
@[elab_as_elim] theorem J {P:α→Prop} (h:a=b) (x:P b):P a:=Eq.mpr (congrArg P h) x
@[elab_as_elim] theorem aQ {a b} {P:α→Prop} (h:b=a) (x:P b):P a:=Eq.mpr (congrArg P h.symm) x
@[elab_as_elim] theorem bn {_:Decidable c} {α} {a b} {P:α→Prop} (h:c→P a) (k:¬c→P b):P (ite c a b):=iteInduction h k
theorem kr{p:Prop}(h:autoParam p aK):p:=h
theorem dc{p:Prop}(h:autoParam p aD):p:=h
def aR:TX:=pN [d6 `Lean.Parser.Tactic.tacticRfl [iX "rfl"]]
theorem CO(k n:Nat):(max 0 (min (k:Int) n)).toNat=min k n:=by
 rcases Yh k n with h|h
 ·rw[abl (Yi.mpr h),YL h,aa6 (UI _)];rfl
 ·rw[Int.min_eq_right (Yi.mpr h),Yv h,aa6 (UI _)];rfl
theorem GD(k n:Nat):(max 0 (min (-(k:Int)+n) n)).toNat=n-k:=by
 rw[UL,←XO,abl (Int.sub_le_self _ (UI _)),Int.max_comm];exact(Int.toNat_sub n k)▸(Int.toNat_eq_max ((n:Int)-k)▸rfl)
theorem cu(a:Int){b:Nat}(hb:0<b):a.fmod b=((a.fmod b).toNat:Int)∧(a.fmod b).toNat<b:=by
 have h:=(Int.toNat_of_nonneg (Int.fmod_nonneg_of_pos a (VL.mpr hb))).symm;exact⟨h,VL.mp (h▸Int.fmod_lt_of_pos a (VL.mpr hb))⟩
theorem CP{a:Int}(h:(a.fmod (3:Nat)).toNat=0):∃k,a=3*k:=by
 have:=(cu a (b:=3) (by decide)).1;exact Zx (this.trans (congrArg _ h))
theorem nine(d:Int):d.fmod 9=0↔(d.fmod (3:Nat)).toNat=0∧((d.fdiv 3).fmod (3:Nat)).toNat=0:=by
 constructor
 ·intro h;obtain⟨k,rfl⟩:=Zx h;rw[show(9:Int)*k=3*(3*k) from Int.mul_assoc 3 3 k];exact⟨congrArg _ (XQ 3 (3*k)),by rw[Zp _ (by decide)];exact congrArg _ (XQ 3 k)⟩
 ·intro⟨h1,h2⟩;obtain⟨k,rfl⟩:=CP h1;rw[Zp _ (by decide)] at h2;obtain⟨j,rfl⟩:=CP h2;exact(Int.mul_assoc 3 3 j)▸XQ 9 j
theorem xF{n k:Nat}(h:k≤n):-(k:Int)=((n-k:Nat):Int)-n:=by
 rw[Int.ofNat_sub h,XO,XO,Int.add_right_comm,Int.add_right_neg,Int.zero_add]
theorem AR{y:Int}{n:Nat}(e:y=n)(h:n<10):(decide (y< -(2^63:Int))||decide (y≥2^63))=false:=by
 subst e;rw[decide_eq_false (Int.not_lt.mpr (Int.le_trans (by decide) (UI n))),decide_eq_false (Int.not_le.mpr (Int.lt_of_lt_of_le (VL.mpr h) (by decide)))];rfl
def D5(k:String):TX:=d6 `group [iX "|",pN [d6 `Lean.Parser.Tactic.exact [iX "exact",d6 `Lean.Parser.Term.app [.ident .none "Nat.le_add_right".toRawSubstring `Nat.le_add_right [],d6 `null [d6 `Lean.Parser.Term.hole [iX "_"],d6 `num [iX k]]]]]]
def aS:TX:=pN [d6 `Lean.Parser.Tactic.first [iX "first",d6 `null [D5 "1",D5 "2",D5 "3"]]]
def aN:TX:=pN [d6 `Lean.Parser.Tactic.exact [iX "exact", .ident .none "Nat.le.refl".toRawSubstring `Nat.le.refl []]]
theorem eI{n k m:Nat}(h:n≤k)(hk:autoParam (k≤m) aD):n≤m:=Rq h hk
theorem Ku{n k m:Nat}(h:n≤k)(hk:autoParam (k<m) aD):n<m:=Wl h hk
theorem gC(h:n≤k)(hk:autoParam (k≤16777216) aD):n≤Rs:=R2▸Rq h hk
theorem Ay(h:n≤k)(hk:autoParam (k<16777216) aD):n<Rs:=R2▸Wl h hk
theorem ap{a b c:Nat}(h:a≤b)(k:b≤c):a≤c:=Rq h k
theorem ba{a b c d:Nat}(h:a≤b)(k:c≤d):a+c≤b+d:=VJ h k
theorem adr{a b c:Nat}(h:a≤b):a+c≤b+c:=TE h c
theorem F0{a b c:Nat}(h:a≤b):c+a≤c+b:=aaa h c
theorem gl{a b c:Nat}(h:a≤b):a≤b+c:=Rq h (Sr b c)
theorem GF{a b c:Nat}(h:a≤c):a≤b+c:=Rq h (Wa c b)
theorem lj{a b c:Nat}(h:a+c≤b):a≤b:=Rq (Sr a c) h
theorem D6{a b c:Nat}(h:c+a≤b):a≤b:=Rq (Wa a c) h
theorem io{a b c d:Nat}(h:a+c+b≤d):a+b+c≤d:=J (Vu ..) ((h))
theorem AS{a b c d:Nat}(h:d≤a+c+b):d≤a+b+c:=J (Vu ..) ((h))
theorem JG{a b c d:Nat}(h:a+(b+c)≤d):a+b+c≤d:=J (Vn ..) ((h))
theorem JH{a b c d:Nat}(h:d≤a+(b+c)):d≤a+b+c:=J (Vn ..) ((h))
theorem OJ{a b c d:Nat}(h:d≤a+b+c):d≤a+(b+c):=aQ (Vn ..) ((h))
theorem vD{a b c:Nat}(h:b+a≤c):a+b≤c:=J (Tr ..) ((h))
theorem JI{a b c:Nat}(h:c≤b+a):c≤a+b:=J (Tr ..) ((h))
theorem bD{a b:Nat}(h:a=b):a≤b:=UK h
theorem lq{a b:Nat}(h:b=a):a≤b:=UK h.symm
theorem si{a b:Nat}(h:a≤b)(k:b≤a):a=b:=abi h k
theorem QP(h:¬a≤b):b+1≤a:=Nat.not_le.mp h
theorem AU{a b:Nat}(h:¬a<b):b≤a:=T8.mp h
theorem len{a b}(h:b+1≤a):¬a≤b:=Nat.not_le.mpr h
theorem JJ{a b:Nat}(h:b≤a):¬a<b:=T8.mpr h
theorem F1{a b:Nat}(h:a<b):a≠b:=Te h
theorem neg{a b:Nat}(h:b<a):a≠b:=Tq h
theorem JK{a b c:Nat}(h:a≤b+c):a-c≤b:=Nat.sub_le_of_le_add h
theorem M8{a b c:Nat}(h:a+c≤b):a≤b-c:=ZZ h
theorem Kv{a b c:Nat}(h:c+a≤b):a≤b-c:=ZZ (J (Tr ..) ((h)))
theorem F2{a b c:Nat}(h:a<b-c):a+c<b:=Nat.add_lt_of_lt_sub h
theorem iI(h:k≤16777216):k≤Rs:=R2▸h
theorem oc{a b:Nat}(h:a≤b):a≤(b:Int):=Yi.mpr h
theorem ol{a b:Nat}(h:a<b):a<(b:Int):=VL.mpr h
theorem co{a b:Nat}(h:a≤(b:Int)):a≤b:=Yi.mp h
theorem lo{a b:Nat}(h:a<(b:Int)):a<b:=VL.mp h
theorem F3{a:Nat}:¬(a:Int)<0:=Int.not_lt.mpr (UI a)
theorem nE{a b c:Nat}(h:a≤b):c*a≤c*b:=Z9 c h
theorem OK{a b c:Nat}(h:a≤b):a*c≤b*c:=ZY c h
theorem JL{a b c:Nat}:a+(b+c)=a+b+c:=(Vn a b c).symm
theorem Kw{a b c:Nat}:a+b+c=a+c+b:=Vu a b c
theorem M9{a b:Nat}:a+b=b+a:=Tr a b
theorem Na{a b:Nat}:a+b-a=b:=Nat.add_sub_cancel_left a b
theorem OL{a b:Nat}:a+b-b=a:=Vt a b
theorem OM(h:a≠0):0<a:=aar h
theorem GG{a b}(h:0=b-a):b≤a:=ZK h.symm
theorem Kx{a b}(h:b-a=0):b≤a:=ZK h
theorem GH{a b c}(h:c+1=b-a):a+1≤b:=aaE (h▸SO c)
theorem Nb{a b c}(h:b-a=c+1):a+1≤b:=aaE (h▸SO c)
theorem GI{a b c}(h:c+1=b-a):c=b-(a+1):=by refine J (abA ..) (aQ (h ..) ?_);rfl
theorem Nc{a b c}(h:b-a=c+1):b-(a+1)=c:=by refine J (abA ..) (J (h ..) ?_);rfl
theorem Nd{a b:Nat}(h:a≤b):b=b-a+a:=(aaq h).symm
theorem JM{a b:Nat}(h:a≤b):b-a+a=b:=aaq h
theorem elt{a b c:Nat}(h:a≤b)(k:b<c):a<c:=Wl h k
theorem JN{a b c:Nat}(h:a<b)(k:b≤c):a<c:=Si h k
theorem CQ{a b:Nat}(h:a<b):a≤b:=TC h
theorem GJ(h:a+1≤b):a<b:=h
theorem Nf(h:a<b):a+1≤b:=h
theorem Ng(h:a≤b):a<b+1:=Nat.lt_succ_of_le h
theorem ON(h:a<b+1):a≤b:=aaF h
theorem all{a b c:Nat}(h:a<b):c+a<c+b:=Vc h c
theorem uo{a b c:Nat}(h:a+c<b):a<b:=Wl (Sr a c) h
theorem OO{a b c d:Nat}(h:a+c+b<d):a+b+c<d:=J (Vu ..) ((h))
theorem OP{a b c d:Nat}(h:d<a+c+b):d<a+b+c:=AS h
theorem GK(h:¬a<b)(k:a<b+1):a=b:=abi (aaF k) (T8.mp h)
theorem Nh(h:a+1≤b):a≤b:=Uo h
theorem jC(h:Runs M Γ p t fs s e s'):s.toks≤s'.toks:=by
 induction h<;>(try simp only[RT.setGen] at*)<;>lia
theorem sj(h:Wakes M Γ p g r s res s'):s.toks≤s'.toks:=by
 unfold Wakes at h;revert h;cases s.gens[g]? with
 |none=>exact fun h=>h.elim
 |some q=>
  cases q with
  |fresh c=>
   cases r with
   |send v=>
    cases v with
    |none=>rintro⟨e,s1,h,_,_,rfl⟩;exact(jC h:)
    |_=>exact fun h=>h.2▸Ri _
   |throw x=>exact fun h=>h.2▸Ri _
  |suspended=>rintro⟨e,s1,h,_,_,rfl⟩;exact(jC h:)
  |_=>exact fun h=>h.2▸Ri _
theorem wp_toks:∀t(Q:α→Pos→RT→Prop) E p s,
  Y3.wp M Γ t Q E p s→Y3.wp M Γ t (fun a p' s'=>s.toks≤s'.toks∧Q a p' s') E p s:=by
 have key:∀t n(Q:α→Pos→RT→Prop) E p s,n≤s.toks→
   Y3.wp M Γ t Q E p s→Y3.wp M Γ t (fun a p' s'=>n≤s'.toks∧Q a p' s') E p s:=by
  intro t
  induction t with
  |pure a=>exact fun n Q E p s hn h=>⟨hn,h⟩
  |raise e=>exact fun n Q E p s hn h=>h
  |unsupported=>exact fun n Q E p s hn h=>h
  |finish=>exact fun n Q E p s hn h=>h
  |rule tag k ih=>exact fun n Q E p s hn h=>ih () n Q E p s hn h
  |«at» p' k ih=>exact fun n Q E p s hn h=>ih () n Q E p' s hn h
  |load a part k ih=>exact fun n Q E p s hn ⟨o,ho,h⟩=>⟨o,ho,ih o n Q E p s hn h⟩
  |update a part f k ih=>exact fun n Q E p s hn h=>⟨h.1,ih () n Q E p _ hn h.2⟩
  |alloc o k ih=>exact fun n Q E p s hn h=>ih _ n Q E p _ hn h
  |loadIfAlive a k ih=>exact fun n Q E p s hn h=>ih _ n Q E p s hn h
  |point l k ih=>exact fun n Q E p s hn h=>ih () n Q E p s hn h
  |register=>exact fun n Q E p s hn h=>h
  |fresh k ih=>exact fun n Q E p s hn h=>ih _ n Q E p _ (Sq hn) h
  |ask k ih=>exact fun n Q E p s hn h=>ih _ n Q E p s hn h
  |choose src m k ih=>exact fun n Q E p s hn h=>⟨h.1,ih _ n Q E p _ hn h.2⟩
  |os q l k ih=>exact fun n Q E p s hn h=>ih _ n Q E p _ hn h
  |call c h g l k ih=>exact fun n Q E p s hn ⟨r,s1,hr,h⟩=>⟨r,s1,hr,ih r n Q E p s1 (Rq hn (jC hr)) h⟩
  |handled own k ih=>exact fun n Q E p s hn h=>ih _ n Q E p s hn h
  |newGen c k ih=>exact fun n Q E p s hn h=>ih _ n Q E p _ hn h
  |genState g k ih=>exact fun n Q E p s hn ⟨st,hs,h⟩=>⟨st,hs,ih _ n Q E p s hn h⟩
  |resume g r l k ih=>exact fun n Q E p s hn ⟨res,s1,hw,h⟩=>⟨res,s1,hw,ih res n Q E p s1 (Rq hn (sj hw)) h⟩
  |yield=>exact fun n Q E p s hn h=>h
  |stack k ih=>exact fun n Q E p s hn h=>ih _ n Q E p s hn h
  |fork=>exact fun n Q E p s hn h=>h
  |thread k ih=>exact fun n Q E p s hn h=>ih _ n Q E p s hn h
  |await=>exact fun n Q E p s hn h=>h
 exact fun t Q E p s h=>key t s.toks Q E p s (Ri _) h
theorem wpAny_toks{Q:α→RT→Prop}{E}{s}
  (h:wpAny M A t (fun a s'=>s.toks≤s'.toks→Q a s') E s):wpAny M A t Q E s:=fun Γ p F4=>
 Y3.wp_mono M Γ t (fun _ _ _ h'=>h'.2 h'.1) (fun _ _ _ h'=>h') p s (wp_toks t _ _ p s (h Γ p F4))
section
variable{α β:Type}{A:TL}{E:Value→RT→Prop}{s:RT}{Q:β→RT→Prop}{a:Ud}{o:Obj}{vs:Array Value}{i n:Nat}{x v:Value}{T U:String}{b:Bool}
theorem bP{a}{f:α→Y3 β}(h:wpAny (model prog w) A (f a) Q E s):wpAny (model prog w) A (pure a>>=f) Q E s:=Rh (Rj h)
theorem bE{a}{f:α→Y3 β}(e:t=pure a)(h:wpAny (model prog w) A (f a) Q E s):wpAny (model prog w) A (t>>=f) Q E s:=Rh (SX e h)
theorem bF(ho:s.heap.get? a=some o)(hd:o.data= .fields vs)(hx:vs[i]?=some x)(h:wpAny (model prog w) A (f x) Q E s):wpAny (model prog w) A (field (.ref a) i>>=f) Q E s:=Rh (Zh ho hd hx h)
theorem bA{f}(h:wpAny (model prog w) A (f ()) Q E s):wpAny (model prog w) A (standAt pos>>=f) Q E s:=Rh (wpAny_standAt h)
theorem bR{f}(h:wpAny (model prog w) A (f ()) Q E s):wpAny (model prog w) A (rule tag>>=f) Q E s:=Rh (wpAny_rule h)
theorem bS(ho:s.heap.get? a=some o)(hd:o.data= .seq items n)(h:wpAny (model prog w) A (f (some items)) Q E s):wpAny (model prog w) A (seqItems? (.ref a)>>=f) Q E s:=Rh (wpAny_seqItems ho hd h)
theorem bT(ht:s.TypeIs v T)(h:wpAny (model prog w) A (f (.type T)) Q E s):wpAny (model prog w) A (typeOf v>>=f) Q E s:=Rh (aau ht h)
theorem bL(ho:s.heap.get? a=some o)(h:wpAny (model prog w) A (f o) Q E s):wpAny (model prog w) A (load a>>=f) Q E s:=Rh (wpAny_load ho h)
theorem bI(ht:s.TypeIs v T)(e:Xi (.type T) (.type U)=pure b)(h:wpAny (model prog w) A (f b) Q E s):wpAny (model prog w) A (isInstance v (.type U)>>=f) Q E s:=Rh (Xa ht e h)
theorem bG(h:wpAny (model prog w) A (f ⟨prog,w.params⟩) Q E s):wpAny (model prog w) A (ask>>=f) Q E s:=Rh (wpAny_askSetting h)
theorem bY(ht:s.TypeIs v T)(e:VO (.type T) name=pure r)(h:wpAny (model prog w) A (f r) Q E s):wpAny (model prog w) A (specialOf v name>>=f) Q E s:=Rh (wpAny_specialOf ht e h)
theorem bH(h:wpAny (model prog w) A (f A.handled) Q E s):wpAny (model prog w) A (handled>>=f) Q E s:=Rh (wpAny_handled h)
theorem bO{f}(h:wpAny (model prog w) A (f ()) Q E s):wpAny (model prog w) A (letGo JO keep>>=f) Q E s:=Rh (wpAny_letGo h)
theorem bV(ho:s.heap.get? a=some o)(hd:o.data= .fields vs)(h:wpAny (model prog w) A (f vs) Q E s):wpAny (model prog w) A (fieldsOf (.ref a)>>=f) Q E s:=Rh (wpAny_fieldsOf ho hd h)
theorem bU(ho:s.heap.get? a=some o)(hd:o.data= .fields vs)(hi:i<vs.size)(h:wpAny (model prog w) A (f ()) Q E {s with heap:=s.heap.update a (WB fun l=>l.setIfInBounds i x)}):wpAny (model prog w) A (setField (.ref a) i x>>=f) Q E s:=Rh (wpAny_setField ho hd hi h)
theorem bW(ho:s.heap.get? a=some {cls:=cls,data:= .fields vs})(hi:i<vs.size)(h:∀h',h'.get? a=some {cls:=cls,data:= .fields (vs.setIfInBounds i x)}→SU a s.heap h'→wpAny (model prog w) A (f ()) Q E {s with heap:=h'}):wpAny (model prog w) A (setField (.ref a) i x>>=f) Q E s:=Rh (Yt ho hi h)
theorem bZ(ho:s.heap.get? a=some o)(hd:o.data= .set es ep t)(hf:t.fits es.size=true)(h:wpAny (model prog w) A (f (es,ep,t)) Q E s):wpAny (model prog w) A (setState a>>=f) Q E s:=Rh (wpAny_setState_of ho hd hf h)
theorem bN{dict}{f}(h:wpAny (model prog w) A (f (.ref s.heap.objs.size)) Q E {s with heap:=s.heap.push {cls:= .type T,dict:=dict,data:=data}})(hz:sizeOk data):wpAny (model prog w) A (newObj (.type T) data dict>>=f) Q E s:=Rh (Sz h hz)
end
set_option genCtorIdx false
set_option genInjectivity false
set_option genSizeOf false
inductive V where
 |none:V
 |bool (b:Bool):V
 |int (i:Int):V
 |str (x:RN):V
 |lit (x:RN):V
 |tup (l:List V):V
 |lst (l:List V):V
 |bx (l:List (RN×V)):V
 |ref (i:Nat):V
 |st (v:Value):V
 |bm (f:String) (self:V):V
 |pm (f:Ud) (self:V):V
 |vw (T:String) (x:V):V
 |dst (l:List RN):V
 |raw (P:Obj→Value→Prop) (x:V):V
structure Wd where
 φ:List Ud
 I:Ud→Option Obj
 C:Tok→Option RN
noncomputable def sq(c:String)(vs:List Value)(n:Nat):Obj:={cls:= .type c,data:= .seq vs.toArray n}
noncomputable def dq(es:List aal)(n:Nat):Obj:={cls:= .type "dict",data:= .dict es.toArray n}
noncomputable def bq(id:String)(u:Value):Obj:={cls:= .type "builtin_function_or_method",data:= .fields #[.builtin id,u]}
noncomputable def wq(T:String)(u:Value):Obj:={cls:= .type T,data:= .fields #[u]}
noncomputable def mq(f:Ud)(u:Value):Obj:={cls:= .type "method",data:= .fields #[.ref f,u]}
noncomputable def D7(es:Array (Int×Value))(t:Xo)(l:List RN):Prop:=
 (∃ps:List (RN×Tok),es.toList=ps.map (fun p=>(Wm w p.1,R6 p.1 p.2))∧(ps.map (·.1)).Perm l)∧t.fits es.size=true∧t.led=(!w.params.followText "set-order")∧t.plain=false
noncomputable def tq(es:Array (Int×Value))(ep:Nat)(t:Xo):Obj:={cls:= .type "set",dict:=none,data:= .set es ep t,slots:=#[]}
mutual
noncomputable def Rel(W:Wd):V→Value→Prop
 | .none,v=>v= .none
 | .bool b,v=>v= .bool b
 | .int i,v=>∃t,v= .int i t
 | .str x,v=>∃t,v= .str x t∧x.length≤Rs
 | .lit x,v=>∃t,nf (v= .str x t) (W.C t=some x) (x.length≤Rs)
 | .tup l,v=>D4 fun a vs n=>pQ (v= .ref a) (W.I a=some (sq "tuple" vs n)) (ak W l vs) (l.length≤Rs)
 | .lst l,v=>D4 fun a vs n=>pQ (v= .ref a) (W.I a=some (sq "list" vs n)) (ak W l vs) (l.length≤Rs)
 | .bx l,v=>D4 fun a es n=>GC (v= .ref a) (W.I a=some (dq es n)) (d7 W l es) (l.map (·.1)).Nodup (l.length≤Rs) ((a==TA)=false)
 | .ref i,v=>∃a,v= .ref a∧W.φ[i]?=some a
 | .st u,v=>v=u
 | .bm f x,v=>CN fun a u=>nf (v= .ref a) (W.I a=some (bq f u)) (Rel W x u)
 | .pm f x,v=>CN fun a u=>nf (v= .ref a) (W.I a=some (mq f u)) (Rel W x u)
 | .vw T x,v=>CN fun a u=>nf (v= .ref a) (W.I a=some (wq T u)) (Rel W x u)
 | .dst l,v=>OG fun a es ep t=>pQ (v= .ref a) (W.I a=some (tq es ep t)) (D7 es t l) (∀x∈l,x.length≤Rs)
 | .raw P x,v=>D4 fun a o u=>pQ (v= .ref a) (W.I a=some o) (P o u) (Rel W x u)
noncomputable def ak(W:Wd):List V→List Value→Prop
 |[],vs=>vs=[]
 |x::l,vs=>CN fun v r=>nf (vs=v::r) (Rel W x v) (ak W l r)
noncomputable def d7(W:Wd):List (RN×V)→List aal→Prop
 |[],es=>es=[]
 |(k,x)::l,es=>D4 fun t v r=>nf (es=⟨Wm w k, .str k t,v⟩::r) (Rel W x v) (d7 W l r)
end
noncomputable def Wd.le(W W':Wd):Prop:=W.φ<+:W'.φ∧(∀a o,W.I a=some o→W'.I a=some o)∧∀t x,W.C t=some x→W'.C t=some x
theorem Wd.le_refl(W:Wd):W.le W:=⟨Ym _,fun _ _ h=>h,fun _ _ h=>h⟩
theorem Wd.le_trans{W W' nF:Wd}(a:W.le W')(b:W'.le nF):W.le nF:=⟨a.1.trans b.1,fun _ _ h=>b.2.1 _ _ (a.2.1 _ _ h),fun _ _ h=>b.2.2 _ _ (a.2.2 _ _ h)⟩
theorem Wd.eO{W W':Wd}(h:W.le W'){i:Nat}{a}(e:W.φ[i]?=some a):W'.φ[i]?=some a:=by
 obtain⟨t,ht⟩:=h.1;exact aQ ht (J (R8 ((Ru.mp e).1)) ((e)))
mutual
theorem Rel.mono(h:W.le W'):∀{x}{v},Rel W x v→Rel W' x v
 | .none,_=>fun r=>r
 | .bool _,_=>fun r=>r
 | .int _,_=>fun r=>r
 | .str _,_=>fun r=>r
 | .lit _,_=>by rintro⟨t,e,c,z⟩;exact⟨t,e,h.2.2 _ _ c,z⟩
 | .tup _,_=>by rintro⟨a,vs,n,e,i,r,z⟩;exact⟨a,vs,n,e,h.2.1 _ _ i,ak.mono h r,z⟩
 | .lst _,_=>by rintro⟨a,vs,n,e,i,r,z⟩;exact⟨a,vs,n,e,h.2.1 _ _ i,ak.mono h r,z⟩
 | .bx _,_=>by rintro⟨a,es,n,e,i,r,d,d2,d3⟩;exact⟨a,es,n,e,h.2.1 _ _ i,d7.mono h r,d,d2,d3⟩
 | .ref _,_=>by rintro⟨a,e,i⟩;exact⟨a,e,Wd.eO h i⟩
 | .st _,_=>fun r=>r
 | .bm _ _,_=>by rintro⟨a,u,e,i,r⟩;exact⟨a,u,e,h.2.1 _ _ i,Rel.mono h r⟩
 | .pm _ _,_=>by rintro⟨a,u,e,i,r⟩;exact⟨a,u,e,h.2.1 _ _ i,Rel.mono h r⟩
 | .vw _ _,_=>by rintro⟨a,u,e,i,r⟩;exact⟨a,u,e,h.2.1 _ _ i,Rel.mono h r⟩
 | .dst _,_=>by rintro⟨a,es,ep,t,e,i,r,z⟩;exact⟨a,es,ep,t,e,h.2.1 _ _ i,r,z⟩
 | .raw _ _,_=>by rintro⟨a,o,u,e,i,p,r⟩;exact⟨a,o,u,e,h.2.1 _ _ i,p,Rel.mono h r⟩
theorem ak.mono(h:W.le W'):∀{l}{vs},ak W l vs→ak W' l vs
 |[],_=>fun r=>r
 |_::_,_=>by rintro⟨v,r,e,a,b⟩;exact⟨v,r,e,Rel.mono h a,ak.mono h b⟩
theorem d7.mono(h:W.le W'):∀{l}{es},d7 W l es→d7 W' l es
 |[],_=>fun r=>r
 |_::_,_=>by rintro⟨t,v,r,e,a,b⟩;exact⟨t,v,r,e,Rel.mono h a,d7.mono h b⟩
end
inductive AO where
 |list (l:List V)
 |dict (l:List (RN×V))
 |sset (l:List RN)
 |inst (C:Ud) (d:Nat)
 |ns (l:List (RN×V))
 |tab (a:Ud) (p:Pos) (q:RN)
noncomputable abbrev AH:=List (Option AO)
noncomputable abbrev Loc:=List (RN×V)
section
noncomputable def jD(W:Wd)(a:Ud):Prop:=a∉W.φ∧W.I a=none
noncomputable def Ni(W:Wd)(l:List (RN×V))(m:RN→Option Value):Prop:=∀x,(l.lookup x=none→m x=none)∧∀y,l.lookup x=some y→∃v,m x=some v∧Rel W y v
noncomputable def OA(W:Wd)(h:VN)(a:Ud):AO→Prop
 | .list l=>CN fun vs n=>nf (h.get? a=some (sq "list" vs n)) (ak W l vs) (l.length≤Rs)
 | .dict l=>CN fun es n=>pQ (h.get? a=some (dq es n)) (d7 W l es) (l.map (·.1)).Nodup (l.length≤Rs)
 | .sset l=>∃n,h.SetOf (strKind prog w) a (fun x=>decide (x∈l)) n∧n≤l.length
 | .inst C d=>∃da,W.φ[d]?=some da∧h.get? a=some {cls:= .ref C,dict:=some da,data:= .plain}
 | .ns l=>∃m,h.Ns1 a m∧Ni W l m
 | .tab Ky p q=>a=Ky∧∃ps,h.get? a=some {cls:= .none,data:= .fields ps}∧(ps=#[]∨∃c oc vs t,ps=#[TF p.line,TF p.col, .ref c]∧W.I c=some oc∧oc.data= .fields vs∧vs[1]?=some (.str q t))
structure ao(W:Wd)(H:AH)(s:RT):Prop where
 cr:∀a o,W.I a=some o→s.heap.get? a=some o
 gr:∀a o,br a=some o→W.I a=some o
 nodup:W.φ.Nodup
 len:W.φ.length=H.length
 lt:∀a∈W.φ,s.heap.get? a≠none
 live:∀(i:Nat) ob,H[i]?=some (some ob)→∃a,nf (W.φ[i]?=some a) (W.I a=none) (OA W s.heap a ob)
 bare:aaM s.gens
 tk:0<s.toks
 col:∀t x,W.C t=some x→0<t∧t<s.toks
end
structure Gr(X:Ud→Prop)(W:Wd)(s:RT) W'(s':RT):Prop where
 le:W.le W'
 cI:∀a∈W'.φ,a∈W.φ∨s.heap.get? a=none∨X a
 gt:∀a o,W'.I a=some o→W.I a=some o∨a∈W.φ∨s.heap.get? a=none∨X a
 heap:∀a o,s.heap.get? a=some o→a∉W.φ→¬X a→s'.heap.get? a=some o
 there:∀a,s.heap.get? a≠none→¬X a→s'.heap.get? a≠none
 os:s'.os=s.os
 gens:∀(i:Nat) y,s.gens[i]?=some y→s'.gens[i]?=some y
noncomputable abbrev ct:Ud→Prop:=fun _=>False
theorem Gr.refl X W s:Gr X W s W s:=
 ⟨W.le_refl,fun _ h=> .inl h,fun _ _ h=> .inl h,fun _ _ h _ _=>h,fun _ h _=>h,rfl,fun _ _ h=>h⟩
theorem Gr.back{s s'}(a:Gr X W s W' s'){x}(h:s'.heap.get? x=none):s.heap.get? x=none∨X x:=by
 by_cases hx:X x
 ·exact .inr hx
 ·cases e:s.heap.get? x with
  |none=>exact .inl rfl
  |some o=>exact absurd h (a.there x (e▸nofun) hx)
theorem Gr.trans{s s' dM}(a:Gr X W s W' s')(b:Gr X W' s' nF dM):Gr X W s nF dM:=by
 refine⟨Wd.le_trans a.le b.le,fun x h=> ?_,fun x o h=> ?_,fun x o h hn hx=> ?_,fun x h hx=>b.there x (a.there x h hx) hx,b.os.trans a.os,fun i y h=>b.gens i y (a.gens i y h)⟩
 ·rcases b.cI x h with h|h|h
  ·exact a.cI x h
  ·exact .inr (a.back h)
  ·exact .inr (.inr h)
 ·rcases b.gt x o h with h|h|h|h
  ·exact a.gt x o h
  ·rcases a.cI x h with h|h
   ·exact .inr (.inl h)
   ·exact .inr (.inr h)
  ·exact .inr (.inr (a.back h))
  ·exact .inr (.inr (.inr h))
 ·refine b.heap x o (a.heap x o h hn hx) (fun m=> ?_) hx;rcases a.cI x m with m|m|m
  ·exact hn m
  ·cases h.symm.trans m
  ·exact hx m
theorem Gr.weaken{W W'}{s s'}(a:Gr X W s W' s')(h:∀x,X x→Y x):Gr Y W s W' s':=
 ⟨a.le,fun x m=>(a.cI x m).imp_right fun q=>q.imp_right (h x),fun x o e=>(a.gt x o e).imp_right fun q=>q.imp_right fun q=>q.imp_right (h x),fun x o e hn hy=>a.heap x o e hn fun q=>hy (h x q),fun x e hy=>a.there x e fun q=>hy (h x q),a.os,a.gens⟩
theorem Gr.of{W W'}{s s'}(a:Gr ct W s W' s'):Gr Y W s W' s':=a.weaken fun _ h=>h.elim
theorem Gr.base{X Z}{W W' nF}{s s' dM}(a:Gr Z W s W' s')(b:Gr X W' s' nF dM)(h:∀x,X x→s.heap.get? x≠none→Z x):Gr Z W s nF dM:=by
 have hx:∀x,X x→s.heap.get? x=none∨Z x:=fun x q=>by
  cases e:s.heap.get? x with
  |none=>exact .inl rfl
  |some o=>exact .inr (h x q (e▸nofun))
 refine⟨Wd.le_trans a.le b.le,fun x h=> ?_,fun x o h=> ?_,fun x o e hn hz=> ?_,fun x e hz=>b.there x (a.there x e hz) fun q=>hz (h x q e),b.os.trans a.os,fun i y g=>b.gens i y (a.gens i y g)⟩
 ·rcases b.cI x h with h|h|h
  ·exact a.cI x h
  ·exact .inr (a.back h)
  ·exact .inr (hx x h)
 ·rcases b.gt x o h with h|h|h|h
  ·exact a.gt x o h
  ·rcases a.cI x h with h|h
   ·exact .inr (.inl h)
   ·exact .inr (.inr h)
  ·exact .inr (.inr (a.back h))
  ·exact .inr (.inr (hx x h))
 ·refine b.heap x o (a.heap x o e hn hz) (fun m=> ?_) fun q=>hz (h x q (e▸nofun));rcases a.cI x m with m|m|m
  ·exact hn m
  ·cases e.symm.trans m
  ·exact hz m
structure aC(A:TL) n:Prop where
 handled:A.handled=none
 depth:A.depth+n<ZG
 units:A.units+12*n<aaO
theorem aC.deeper(R:aC A (n+1)) env:aC (A.deeper env) n:=
 ⟨R.1,by exact OO R.2,by have:=R.3;show A.units+3+12*n<_;lia⟩
theorem aC.in1(R:aC A (n+1)):aC A.in1 n:=
 ⟨R.1,by exact GJ (CQ R.2),by exact elt (JG (F0 (vD (F0 dc)))) R.3⟩
theorem aC.lt(R:aC A n):A.depth<ZG:=uo R.2
theorem aC.ult(R:aC A n):A.units<aaO:=uo R.3
structure Fx where
 names:List (RN×ZR)
 code:Value
 top:Bool:=true
 qual:Option RN:=none
structure aA(F:Fx)(env:Env):Prop where
 names:env.scope.names=F.names
 kind:env.scope.kind= .function
 globals:env.globals=mainGlobals
 builtins:env.builtins=builtinsNs
 code:env.code=F.code
 co:env.scope.isCoroutine=false
 top:F.top=true→∀n c,env.kindOf n=some .cell→env.cells.lookup n=some c→env.locals<c
 qual:∀q,F.qual=some q→env.qual=q
noncomputable def own(env:Env)(a:Ud):Prop:=a=env.locals∨(env.locals<a∧∃n,env.kindOf n=some .cell∧env.cells.lookup n=some a)
structure cR W(ρ:Loc)(env:Env)(h:VN):Prop where
 m:∃m,h.Ns env.locals m∧∀n x,ρ.lookup n=some x→env.kindOf n=some .local→∃v,m n=some v∧Rel W x v
 kind:∀n x,ρ.lookup n=some x→env.kindOf n=some .local∨env.kindOf n=some .cell∨env.kindOf n=some .free
 cell:∀n x,ρ.lookup n=some x→env.kindOf n≠some .local→CN fun c v=>nf (env.cells.lookup n=some c) (h.IsCell c (some v)) (Rel W x v)
 cells:∀n,env.kindOf n=some .cell→∃c v,env.cells.lookup n=some c∧h.IsCell c v
 sep:jD W env.locals
 dD:∀n c,env.cells.lookup n=some c→c∉W.φ∧W.I c=none∧c≠env.locals∧h.get? c≠none
 inj:∀n n' c,env.cells.lookup n=some c→env.cells.lookup n'=some c→n=n'
noncomputable def aY:Value→RT→Prop:=fun _ _=>False
section
noncomputable abbrev Kz(n:Nat)(F:Fx)(e:Tk)(ρ:Loc)(H:AH)(x:V)(H':AH):Prop:=∀A s W env,aC A n→ao W H s→aA F env→cR W ρ env s.heap→
    ∀Q,(∀v s' W',Gr ct W s W' s'→ao W' H' s'→Rel W' x v→Q v s')→
     wpAny (model prog w) A (eval e env) Q aY s
@[irreducible] noncomputable def ET (n:Nat) (F:Fx) (e:Tk) (ρ:Loc) (H:AH) (x:V) (H':AH):Prop:=Kz n F e ρ H x H'
theorem ET.mk{n F e ρ H x H'}(h:Kz n F e ρ H x H'):ET n F e ρ H x H':=by delta ET;exact h
theorem ET.run{n F e ρ H x H'}(h:ET n F e ρ H x H'):Kz n F e ρ H x H':=by delta ET at h;exact h
noncomputable abbrev D8(n:Nat)(F:Fx)(pos:Pos)(es:List Tk)(ρ:Loc)(H:AH)(xs:List V)(H':AH):Prop:=∀A s W env,aC A n→ao W H s→aA F env→cR W ρ env s.heap→
    ∀Q,(∀vs s' W',Gr ct W s W' s'→ao W' H' s'→ak W' xs vs→Q vs s')→
     wpAny (model prog w) A (spliced (backTo pos (starEach es env))) Q aY s
@[irreducible] noncomputable def ab (n:Nat) (F:Fx) (pos:Pos) (es:List Tk) (ρ:Loc) (H:AH) (xs:List V) (H':AH):Prop:=D8 n F pos es ρ H xs H'
theorem ab.mk{n F pos es ρ H xs H'}(h:D8 n F pos es ρ H xs H'):ab n F pos es ρ H xs H':=by delta ab;exact h
theorem ab.run{n F pos es ρ H xs H'}(h:ab n F pos es ρ H xs H'):D8 n F pos es ρ H xs H':=by delta ab at h;exact h
noncomputable abbrev KA(n:Nat)(F:Fx)(e:Tk)(ρ:Loc)(H:AH)(b:Bool)(H':AH):Prop:=∀A s W env,aC A n→ao W H s→aA F env→cR W ρ env s.heap→
    ∀Q,(∀s' W',Gr ct W s W' s'→ao W' H' s'→Q b s')→
     wpAny (model prog w) A (isTrue e env (eval e env)) Q aY s
@[irreducible] noncomputable def TT (n:Nat) (F:Fx) (e:Tk) (ρ:Loc) (H:AH) (b:Bool) (H':AH):Prop:=KA n F e ρ H b H'
theorem TT.mk{n F e ρ H b H'}(h:KA n F e ρ H b H'):TT n F e ρ H b H':=by delta TT;exact h
theorem TT.run{n F e ρ H b H'}(h:TT n F e ρ H b H'):KA n F e ρ H b H':=by delta TT at h;exact h
inductive Fl where
 |next|ret (x:V)
noncomputable def Fl.rel(W:Wd):Fl→Flow→Prop
 | .next,f=>f= .next
 | .ret x,f=>∃v,f= .ret v∧Rel W x v
noncomputable abbrev KC(n:Nat)(F:Fx)(st:Vy)(ρ:Loc)(H:AH)(f:Fl)(ρ':Loc)(H':AH):Prop:=∀A s W env,aC A n→ao W H s→aA F env→cR W ρ env s.heap→
    ∀Q,(∀g s' W',Gr (own env) W s W' s'→ao W' H' s'→cR W' ρ' env s'.heap→f.rel W' g→Q g s')→
     wpAny (model prog w) A (exec st env) Q aY s
@[irreducible] noncomputable def XT (n:Nat) (F:Fx) (st:Vy) (ρ:Loc) (H:AH) (f:Fl) (ρ':Loc) (H':AH):Prop:=KC n F st ρ H f ρ' H'
theorem XT.mk{n F st ρ H f ρ' H'}(h:KC n F st ρ H f ρ' H'):XT n F st ρ H f ρ' H':=by delta XT;exact h
theorem XT.run{n F st ρ H f ρ' H'}(h:XT n F st ρ H f ρ' H'):KC n F st ρ H f ρ' H':=by delta XT at h;exact h
noncomputable abbrev D9(n:Nat)(F:Fx)(gu:List Vy)(ρ:Loc)(H:AH)(f:Fl)(ρ':Loc)(H':AH):Prop:=∀A s W env,aC A n→ao W H s→aA F env→cR W ρ env s.heap→
    ∀Q,(∀g s' W',Gr (own env) W s W' s'→ao W' H' s'→cR W' ρ' env s'.heap→f.rel W' g→Q g s')→
     wpAny (model prog w) A (execs gu env) Q aY s
@[irreducible] noncomputable def ag (n:Nat) (F:Fx) (gu:List Vy) (ρ:Loc) (H:AH) (f:Fl) (ρ':Loc) (H':AH):Prop:=D9 n F gu ρ H f ρ' H'
theorem ag.mk{n F gu ρ H f ρ' H'}(h:D9 n F gu ρ H f ρ' H'):ag n F gu ρ H f ρ' H':=by delta ag;exact h
theorem ag.run{n F gu ρ H f ρ' H'}(h:ag n F gu ρ H f ρ' H'):D9 n F gu ρ H f ρ' H':=by delta ag at h;exact h
noncomputable abbrev KD(n:Nat)(f:V)(xs:List V)(ks:List (RN×V))(H:AH)(x:V)(H':AH):Prop:=∀A s W fv vs kv,aC A n→ao W H s→Rel W f fv→ak W xs vs→
    kv.map (·.1)=ks.map (·.1)→ak W (ks.map (·.2)) (kv.map (·.2))→
    ∀Q,(∀v s' W',Gr ct W s W' s'→ao W' H' s'→Rel W' x v→Q v s')→
     wpAny (model prog w) A (call fv vs kv) Q aY s
@[irreducible] noncomputable def CT (n:Nat) (f:V) (xs:List V) (ks:List (RN×V)) (H:AH) (x:V) (H':AH):Prop:=KD n f xs ks H x H'
theorem CT.mk{n f xs ks H x H'}(h:KD n f xs ks H x H'):CT n f xs ks H x H':=by delta CT;exact h
theorem CT.run{n f xs ks H x H'}(h:CT n f xs ks H x H'):KD n f xs ks H x H':=by delta CT at h;exact h
end
section
variable{n:Nat}{F:Fx}
theorem ao.fresh(S:ao W H s){a}(h:s.heap.get? a=none):jD W a:=
 ⟨fun m=>S.lt a m h,by
  cases e:W.I a with
  |none=>rfl
  |some o=>replace h:=(S.cr a o e)▸h;cases h⟩
theorem af(h:VN):h.get? h.objs.size=none:=by
 cases e:h.get? h.objs.size with
 |none=>rfl
 |some o=>exact absurd (RV e) (SQ _)
theorem am{s s'}(G:Gr X W s W' s'){a}(hl:s.heap.get? a≠none)(h:jD W a)(hx:¬X a):jD W' a:=by
 refine⟨fun m=> ?_, ?_⟩
 ·rcases G.cI a m with m|m|m
  ·exact h.1 m
  ·exact hl m
  ·exact hx m
 ·cases e:W'.I a with
  |none=>rfl
  |some o=>
   rcases G.gt a o e with q|q|q|q
   ·cases h.2.symm.trans q
   ·exact(h.1 q).elim
   ·exact(hl q).elim
   ·exact(hx q).elim
theorem ch{h:VN}{a}{m}(x:h.Ns a m):h.get? a≠none:=by obtain⟨o,es,ep,ho,r⟩:=x;exact ho▸nofun
theorem nG{h h':VN}{a}{m}(x:h.Ns a m)(k:∀o,h.get? a=some o→h'.get? a=some o):h'.Ns a m:=
 let⟨o,es,ep,ho,r⟩:=x;⟨o,es,ep,k o ho,r⟩
theorem eJ{h h':VN}{a}{v}(x:h.IsCell a v)(k:∀o,h.get? a=some o→h'.get? a=some o):h'.IsCell a v:=
 let⟨o,ho,r⟩:=x;⟨o,k o ho,r⟩
theorem cR.step{s s'}{ρ}{env}(f:cR W ρ env s.heap)(G:Gr ct W s W' s'):cR W' ρ env s'.heap:=by
 obtain⟨m,hn,hm⟩:=f.m;refine⟨⟨m,nG hn fun o e=>G.heap _ o e f.sep.1 id,fun n x e k=>let⟨v,a,b⟩:=hm n x e k;⟨v,a,b.mono G.le⟩⟩,f.kind,fun n x e k=> ?_,fun n k=> ?_,am G (ch hn) f.sep id,fun n c e=> ?_,f.inj⟩
 ·obtain⟨c,v,e1,e2,e3⟩:=f.cell n x e k;exact⟨c,v,e1,eJ e2 fun o e=>G.heap _ o e (f.dD n c e1).1 id,e3.mono G.le⟩
 ·obtain⟨c,v,e1,e2⟩:=f.cells n k;exact⟨c,v,e1,eJ e2 fun o e=>G.heap _ o e (f.dD n c e1).1 id⟩
 ·obtain⟨a,b,c',d⟩:=f.dD n c e;exact⟨(am G d ⟨a,b⟩ id).1,(am G d ⟨a,b⟩ id).2,c',G.there c d id⟩
theorem cR.sub{ρ ρ'}{env}(f:cR W ρ env h)(k:∀n x,ρ'.lookup n=some x→ρ.lookup n=some x):cR W ρ' env h:=
 let⟨m,hn,hm⟩:=f.m
 ⟨⟨m,hn,fun n x e q=>hm n x (k n x e) q⟩,fun n x e=>f.kind n x (k n x e),fun n x e q=>f.cell n x (k n x e) q,f.cells,f.sep,f.dD,f.inj⟩
theorem ao.tok(S:ao W H s) t(ht:autoParam (s.toks≤t) aS):ao W H {s with toks:=t}:=
 ⟨S.cr,S.gr,S.nodup,S.len,S.lt,S.live,S.bare,Si S.tk ht,fun u x h=>⟨(S.col u x h).1,Si (S.col u x h).2 ht⟩⟩
theorem Gr.tok{s s'}(G:Gr X W s W' s') t:Gr X W s W' {s' with toks:=t}:=⟨G.le,G.cI,G.gt,G.heap,G.there,G.os,G.gens⟩
theorem Gr.dF W s t:Gr X W s W {s with toks:=t}:=(Gr.refl X W s).tok t
theorem Wd.fw{W W':Wd}(h:W.le W'){a}{o}(e:W.I a=some o):W'.I a=some o:=h.2.1 _ _ e
theorem pR{a}{ob}(r:OA W h a ob)(k:∀o,h.get? a=some o→h'.get? a=some o):OA W h' a ob:=by
 cases ob with
 |list=>obtain⟨vs,n,e,r,z⟩:=r;exact⟨vs,n,k _ e,r,z⟩
 |dict=>obtain⟨vs,n,e,r,z,z2⟩:=r;exact⟨vs,n,k _ e,r,z,z2⟩
 |sset=>obtain⟨n,⟨o,es,ep,t,e,r⟩,q⟩:=r;exact⟨n,⟨o,es,ep,t,k _ e,r⟩,q⟩
 |inst=>exact⟨r.choose,r.choose_spec.1,k _ r.choose_spec.2⟩
 |ns=>obtain⟨m,e,r⟩:=r;exact⟨m,e.at k,r⟩
 |tab=>obtain⟨e0,vs,e,r⟩:=r;exact⟨e0,vs,k _ e,r⟩
theorem eY(l:W.le W'){h}{a}{ob}(r:OA W h a ob):OA W' h a ob:=by
 cases ob with
 |list=>obtain⟨vs,n,e,r,z⟩:=r;exact⟨vs,n,e,r.mono l,z⟩
 |dict=>obtain⟨vs,n,e,r,d,d2⟩:=r;exact⟨vs,n,e,r.mono l,d,d2⟩
 |sset=>exact r
 |inst=>exact⟨r.choose,Wd.eO l r.choose_spec.1,r.choose_spec.2⟩
 |ns=>
  obtain⟨m,e,r⟩:=r;refine⟨m,e,fun x=>⟨(r x).1,fun y hy=> ?_⟩⟩;obtain⟨v,a,b⟩:=(r x).2 y hy;exact⟨v,a,b.mono l⟩
 |tab=>
  obtain⟨e0,vs,e,r⟩:=r;refine⟨e0,vs,e,r.imp_right fun h=> ?_⟩;refine Rg fun kG=> ?_;obtain⟨c,oc,us,t,h1,h2,h3⟩:=h;exact kG (⟨c,oc,us,t,h1,l.2.1 _ _ h2,h3⟩)
theorem ao.same(S:ao W H s)(k:∀a o,s.heap.get? a=some o→(a∈W.φ∨W.I a≠none)→s'.heap.get? a=some o)
  (g:aaM s'.gens) (ht:autoParam (s.toks≤s'.toks) aN):ao W H s':=by
 refine⟨fun a o e=>k a o (S.cr a o e) (.inr (e▸nofun)),S.gr,S.nodup,S.len,fun a m h=> ?_,
  fun i ob e=>let⟨a,p,q,r⟩:=S.live i ob e;⟨a,p,q,pR r fun o h=>k a o h (.inl (Sf p))⟩,g,Si S.tk ht,fun u x h=>⟨(S.col u x h).1,Si (S.col u x h).2 ht⟩⟩
 cases e:s.heap.get? a with
 |none=>exact S.lt a m e
 |some o=>cases(k a o e (.inl m))▸h
theorem bt{h h':VN}(k:∀a o,h.get? a=some o→h'.get? a=some o):∀a,h.get? a≠none→h'.get? a≠none:=fun a e=>by
 cases q:h.get? a with
 |none=>exact(e q).elim
 |some o=>exact(k a o q)▸nofun
noncomputable def Wd.put(W:Wd)(a:Ud)(o:Obj):Wd:=⟨W.φ,fun x=>if x=a then some o else W.I x,W.C⟩
theorem Wd.al(W:Wd) a o:(W.put a o).I a=some o:=by simp[Wd.put]
theorem Wd.lx{W:Wd}{a}{o}(h:W.I a=none):W.le (W.put a o):=
 ⟨Ym _,fun x p e=>by
  by_cases hx:x=a
  ·subst hx;cases h.symm.trans e
  ·simpa [Wd.put,hx] using e,fun _ _ h=>h⟩
theorem ao.put(S:ao W H s)(ho:o.isFreed=false):
  ao (W.put s.heap.objs.size o) H {s with heap:=s.heap.push o}∧Gr ct W s (W.put s.heap.objs.size o) {s with heap:=s.heap.push o}:=by
 have fr:=S.fresh (af s.heap);have kk:∀a o',s.heap.get? a=some o'→(s.heap.push o).get? a=some o':=fun _ _ e=>Rp _ e;have l:W.le (W.put s.heap.objs.size o):=Wd.lx fr.2;refine⟨⟨fun a p e=> ?_,fun a p e=>Wd.fw l (S.gr a p e),S.nodup,S.len,fun a m=>bt kk a (S.lt a m),fun i ob e=> ?_,S.bare,S.tk,S.col⟩,⟨l,fun a m=> .inl m,fun a p e=> ?_,fun a p e _ _=>kk _ _ e,fun a h _=>bt kk a h,rfl,fun _ _ h=>h⟩⟩
 ·by_cases hx:a=s.heap.objs.size
  ·subst hx;replace e:=(Wd.al ..)▸e;cases e;exact Rx _ ho
  ·exact Rp _ (S.cr a p (by simpa [Wd.put,hx] using e))
 ·obtain⟨a,p,q,r⟩:=S.live i ob e;refine⟨a,p, ?_,eY l (pR r fun o h=>Rp _ h)⟩;have:a≠s.heap.objs.size:=fun h=>by subst h;exact fr.1 (Sf p)
  simpa [Wd.put,this] using q
 ·by_cases hx:a=s.heap.objs.size
  ·exact .inr (.inr (.inl (hx▸af _)))
  ·exact .inl (by simpa [Wd.put,hx] using e)
noncomputable def Wd.new(W:Wd)(a:Ud):Wd:=⟨W.φ++[a],W.I,W.C⟩
theorem Wd.ly(W:Wd) a:W.le (W.new a):=⟨aac _ _,fun _ _ h=>h,fun _ _ h=>h⟩
theorem ao.new{ob}(S:ao W H s)(k:∀a o,s.heap.get? a=some o→s'.heap.get? a=some o)(hs:s'.heap.get? s.heap.objs.size≠none)
  (g:s'.gens=s.gens) (os:s'.os=s.os) (ht:s.toks≤s'.toks) (h:OA (W.new s.heap.objs.size) s'.heap s.heap.objs.size ob):
  ao (W.new s.heap.objs.size) (H++[some ob]) s'∧Gr ct W s (W.new s.heap.objs.size) s':=by
 have fr:=S.fresh (af s.heap);have l:=W.ly s.heap.objs.size;refine⟨⟨fun a p e=>k _ _ (S.cr a p e),S.gr, ?_, ?_,fun a m=> ?_,fun i o e=> ?_,by refine J g ?_;exact S.bare,Si S.tk ht,fun u x h=>⟨(S.col u x h).1,Si (S.col u x h).2 ht⟩⟩,⟨l,fun a m=> ?_,fun a p e=> .inl e,fun a p e _ _=>k _ _ e,fun a h _=>bt k a h,os,by exact g▸fun _ _ h=>h⟩⟩
 ·exact TY.mpr ⟨S.nodup,SG.mpr ⟨nofun,Tl⟩,fun x hx y hy e=>by
   simp at hy;subst hy;subst e;exact fr.1 hx⟩
 ·simp[Wd.new,S.len]
 ·rcases RE.mp m with m|m
  ·exact bt k a (S.lt a m)
  ·simp at m;subst m;exact hs
 ·by_cases hi:i<H.length
  ·rw[R8 hi] at e;obtain⟨a,p,q,r⟩:=S.live i o e;exact⟨a,Wd.eO l p,q,eY l (pR r fun o h=>k _ _ h)⟩
  ·have GL:i=H.length:=by
    have:=(Ru.mp e).1;simp at this;exact GK hi this
   subst GL;simp at e;subst e;exact⟨s.heap.objs.size,by refine aQ S.len ?_;simp[Wd.new],fr.2,h⟩
 ·rcases RE.mp m with m|m
  ·exact .inl m
  ·simp at m;exact .inr (.inl (m▸af _))
theorem cj{α:Type}{l:List α}{i j}{x y}(h:(l.set i x)[j]?=some y):(i=j∧y=x)∨(i≠j∧l[j]?=some y):=by
 by_cases e:i=j
 ·subst e;have hl:=(Ru.mp h).1;rw[SS] at hl;rw[Tn hl] at h;exact .inl ⟨rfl,(U0 h).symm⟩
 ·rw[SY e] at h;exact .inr ⟨e,h⟩
theorem lA{α:Type}{l:List α}(h:l.Nodup){i j} hi(hj:j<l.length)(e:l[i]=l[j]):i=j:=by
 have p:=List.pairwise_iff_getElem.mp h;rcases aaD i j with q|q|q
 ·exact absurd e (p i j hi hj q)
 ·exact q
 ·exact absurd e.symm (p j i hj hi q)
theorem ao.set{i}{a}{ob}(S:ao W H s)(hi:W.φ[i]?=some a)(hI:W.I a=none)
  (k:∀b o,b≠a→s.heap.get? b=some o→s'.heap.get? b=some o) (hs:s'.heap.get? a≠none) (g:s'.gens=s.gens) (os:s'.os=s.os) (ht:s.toks≤s'.toks) (h:OA W s'.heap a ob):
  ao W (H.set i (some ob)) s'∧Gr ct W s W s':=by
 have th:∀b,s.heap.get? b≠none→s'.heap.get? b≠none:=fun b e=>by
  by_cases hb:b=a
  ·cases hb;exact hs
  ·cases q:s.heap.get? b with
   |none=>exact(e q).elim
   |some o=>exact(k b o hb q)▸nofun
 refine⟨⟨fun b p e=>k _ _ (fun q=>by cases q;cases hI.symm.trans e) (S.cr b p e),S.gr,S.nodup,by refine J SS ?_;exact S.len,fun b m=>th b (S.lt b m),fun j o e=> ?_,by refine J g ?_;exact S.bare,Si S.tk ht,fun u x h=>⟨(S.col u x h).1,Si (S.col u x h).2 ht⟩⟩,
  ⟨W.le_refl,fun _ m=> .inl m,fun _ _ e=> .inl e,fun b o e hn _=>k _ _ (fun q=>hn (by subst q;exact Sf hi)) e,fun b h _=>th b h,os,by exact g▸fun _ _ h=>h⟩⟩
 rcases cj e with⟨h1,h2⟩|⟨GN,h2⟩
 ·subst h1;cases h2;exact⟨a,hi,hI,h⟩
 ·obtain⟨b,p,q,r⟩:=S.live j o h2;have KE:b≠a:=fun z=>by
   subst z;have h1:=Ru.mp hi;have h2:=Ru.mp p;exact GN (lA S.nodup h1.1 h2.1 (h1.2.trans h2.2.symm))
  exact⟨b,p,q,pR r fun o h=>k _ _ KE h⟩
end
section
noncomputable abbrev KG(n:Nat)(t:Value→Value→Y3 Value)(x y:V)(H:AH)(z:V)(H':AH):Prop:=∀A s W(a b:Value),aC A n→ao W H s→Rel W x a→Rel W y b→
    ∀Q,(∀v s' W',Gr ct W s W' s'→ao W' H' s'→Rel W' z v→Q v s')→wpAny (model prog w) A (t a b) Q aY s
@[irreducible] noncomputable def OT (n:Nat) (t:Value→Value→Y3 Value) (x y:V) (H:AH) (z:V) (H':AH):Prop:=KG n t x y H z H'
theorem OT.mk{n t x y H z H'}(h:KG n t x y H z H'):OT n t x y H z H':=by delta OT;exact h
theorem OT.run{n t x y H z H'}(h:OT n t x y H z H'):KG n t x y H z H':=by delta OT at h;exact h
noncomputable abbrev Ea(n:Nat)(t:Value→Y3 Value)(x:V)(H:AH)(z:V)(H':AH):Prop:=∀A s W a,aC A n→ao W H s→Rel W x a→
    ∀Q,(∀v s' W',Gr ct W s W' s'→ao W' H' s'→Rel W' z v→Q v s')→wpAny (model prog w) A (t a) Q aY s
@[irreducible] noncomputable def j4 (n:Nat) (t:Value→Y3 Value) (x:V) (H:AH) (z:V) (H':AH):Prop:=Ea n t x H z H'
theorem j4.mk{n t x H z H'}(h:Ea n t x H z H'):j4 n t x H z H':=by delta j4;exact h
theorem j4.run{n t x H z H'}(h:j4 n t x H z H'):Ea n t x H z H':=by delta j4 at h;exact h
noncomputable abbrev KH(n:Nat)(x:V)(H:AH)(b:Bool):Prop:=∀A s W a,aC A n→ao W H s→Rel W x a→
    ∀Q,(∀s' W',Gr ct W s W' s'→ao W' H s'→Q b s')→wpAny (model prog w) A (truthy a) Q aY s
@[irreducible] noncomputable def OB (n:Nat) (x:V) (H:AH) (b:Bool):Prop:=KH n x H b
theorem OB.mk{n x H b}(h:KH n x H b):OB n x H b:=by delta OB;exact h
theorem OB.run{n x H b}(h:OB n x H b):KH n x H b:=by delta OB at h;exact h
structure JP:Prop where
 g:∀h:VN,(∀a o,br a=some o→h.get? a=some o)→h.Ns mainGlobals mg
 b:∀h:VN,(∀a o,br a=some o→h.get? a=some o)→∃mb,h.Ns builtinsNs mb∧∀x:RN,x≠"__name__"→mb x=T4 x
 nolimit:∀h:VN,(∀a o,br a=some o→h.get? a=some o)→h.NoLimit
 nodigits:∀h:VN,(∀a o,br a=some o→h.get? a=some o)→∃mc,h.Ns cStatics mc∧mc "sys.int_max_str_digits"=none
end
section
variable{n:Nat}{F:Fx}{ρ:Loc}{H H1 H2 H3:AH}
theorem ao.ground(S:ao W H s):∀a o,br a=some o→s.heap.get? a=some o:=fun a o e=>S.cr a o (S.gr a o e)
theorem ET.int{i k pos}:ET n F (.Constant (.int i) k pos) ρ H (.int i) H:= .mk fun _ s W _ _ S _ _ _ q=>abw (q _ _ _ (Gr.dF W s _) (S.tok _) ⟨_,rfl⟩)
theorem ET.str{x k pos}(hz:autoParam (x.length≤Rs) aE):ET n F (.Constant (.str x) k pos) ρ H (.str x) H:= .mk fun _ s W _ _ S _ _ _ q=>abv (q _ _ _ (Gr.dF W s _) (S.tok _) ⟨_,rfl,hz⟩)
theorem ET.lit{x k pos}(hz:autoParam (x.length≤Rs) aE):ET n F (.Constant (.str x) k pos) ρ H (.lit x) H:= .mk fun _ s W _ _ S _ _ _ q=>by
 let W':Wd:=⟨W.φ,W.I,fun t=>if t=s.toks then some x else W.C t⟩;have hn:W.C s.toks=none:=by
  cases e:W.C s.toks with
  |none=>rfl
  |some y=>exact absurd (S.col _ _ e).2 (SQ _)
 have l:W.le W':=⟨Ym _,fun _ _ h=>h,fun t y h=>by
  by_cases e:t=s.toks
  ·subst e;cases hn.symm.trans h
  ·simpa [W',e] using h⟩
 refine abv (q _ {s with toks:=s.toks+1} W' ⟨l,fun _ h=> .inl h,fun _ _ h=> .inl h,fun _ _ h _ _=>h,fun _ h _=>h,rfl,fun _ _ h=>h⟩ ?_ ⟨_,rfl,by simp[W'],hz⟩);refine⟨S.cr,S.gr,S.nodup,S.len,S.lt,fun i ob e=>let⟨a,p,q,r⟩:=S.live i ob e;⟨a,p,q,eY l r⟩,S.bare,SO _,fun t y h=> ?_⟩;by_cases e:t=s.toks
 ·subst e;exact⟨S.tk,V0 _⟩
 ·exact⟨(S.col t y (by simpa [W',e] using h)).1,VH (S.col t y (by simpa [W',e] using h)).2⟩
theorem ET.CR(h:ET n F e ρ H (.lit x) H1):ET n F e ρ H (.str x) H1:= .mk fun A s W env R S E f Q q=>
 h.run A s W env R S E f Q fun v s' W' G' S' r=>q v s' W' G' S' (let⟨t,e,_,z⟩:=r;⟨t,e,z⟩)
theorem ET.bool{b k pos}:ET n F (.Constant (.bool b) k pos) ρ H (.bool b) H:= .mk fun _ s W _ _ S _ _ _ q=>wpAny_Constant_bool (q _ _ _ (Gr.refl _ W s) S rfl)
theorem ET.none{k pos}:ET n F (.Constant .none k pos) ρ H .none H:= .mk fun _ s W _ _ S _ _ _ q=>wpAny_Constant_none (q _ _ _ (Gr.refl _ W s) S rfl)
theorem ET.name{v}(h:autoParam (ρ.lookup x=some v) aR)(hd:autoParam ((x=="__debug__")=false) aD)(GO:autoParam ((x=="__classdict__")=false) aD):ET n F (.Name x pos) ρ H v H:=by
 refine .mk fun A s W env R S E f Q q=>(wpAny_Name ?_ hd);by_cases k:env.kindOf x=some .local
 ·obtain⟨m,hn,hm⟩:=f.m;obtain⟨u,e,r⟩:=hm x v h k;exact Wc E.kind k hn e (q _ _ _ (Gr.refl _ W s) S r)
 ·obtain⟨c,u,e,hc,r⟩:=f.cell x v h k;rcases(f.kind x v h).resolve_left k with k|k
  ·exact abd E.kind k e hc (q _ _ _ (Gr.refl _ W s) S r)
  ·exact abc E.kind k e hc (q _ _ _ (Gr.refl _ W s) S r) GO
theorem bf(E:aA F env) x:env.kindOf x=F.names.lookup x:=by
 delta Env.kindOf;rw[E.names]
theorem ET.glob(G:JP){x}{pos}{v}(hv:mg x=some v)(hk:autoParam (F.names.lookup x=some .globalImplicit) aK)
  (hd:autoParam ((x=="__debug__")=false) aD):ET n F (.Name x pos) ρ H (.st v) H:=by
 refine .mk fun A s W env R S E f Q q=>(YI E.kind (by rw[bf E];exact hk) (Calls.loadGlobal_global (E.globals▸G.g _ S.ground) hv (q _ _ _ (Gr.refl _ W s) S rfl)) hd)
theorem ET.builtin(G:JP){x}{pos}{v}(hm:mg x=RB)(hv:T4 x=some v)(hk:autoParam (F.names.lookup x=some .globalImplicit) aK)
  (hd:autoParam ((x=="__debug__")=false) aD) (hx:autoParam (x≠"__name__") aD):ET n F (.Name x pos) ρ H (.st v) H:=by
 refine .mk fun A s W env R S E f Q q=> ?_;obtain⟨mb,hb,OQ⟩:=G.b _ S.ground;exact YI E.kind (by rw[bf E];exact hk) (Calls.loadGlobal_builtin (E.globals▸G.g _ S.ground) hm (E.builtins▸hb) ((OQ x hx)▸hv) (q _ _ _ (Gr.refl _ W s) S rfl)) hd
theorem ET.binop{x y z}(hl:ET n F l ρ H x H1)(hr:ET n F r ρ H1 y H2)(ho:OT n (Wo op) x y H2 z H3):
  ET n F (.BinOp l op r pos) ρ H z H3:=by
 refine .mk fun A s W env R S E f Q q=>(aa8 (hl.run A s W env R S E f _ fun a s1 W1 G1 S1 r1=>hr.run A s1 W1 env R S1 E (f.step G1) _ fun b s2 W2 G2 S2 r2=> ?_));exact ho.run A s2 W2 a b R S2 (r1.mono G2.le) r2 _ fun v s3 W3 G3 S3 r3=>q v s3 W3 ((G1.trans G2).trans G3) S3 r3
theorem ET.cmp{x y z}(hl:ET n F l ρ H x H1)(hr:ET n F r ρ H1 y H2)(ho:OT n (Sv op) x y H2 z H3)
  (hm:autoParam (behindInMarks op r=false) aK):ET n F (.Compare l [op] [r] pos) ρ H z H3:=by
 refine .mk fun A s W env R S E f Q q=>(wpAny_Compare1 (hl.run A s W env R S E f _ fun a s1 W1 G1 S1 r1=>hr.run A s1 W1 env R S1 E (f.step G1) _ fun b s2 W2 G2 S2 r2=> ?_) hm);exact ho.run A s2 W2 a b R S2 (r1.mono G2.le) r2 _ fun v s3 W3 G3 S3 r3=>q v s3 W3 ((G1.trans G2).trans G3) S3 r3
theorem ET.de{c}{x}(ht:TT n F t ρ H c H1)(h1:c=true→ET n F a ρ H1 x H2)(h2:c=false→ET n F b ρ H1 x H2):
  ET n F (.IfExp t a b pos) ρ H x H2:=by
 refine .mk fun A s W env R S E f Q q=>(wpAny_IfExp (ht.run A s W env R S E f _ fun s1 W1 G1 S1=> ?_));cases c with
 |true=>exact(h1 rfl).run A s1 W1 env R S1 E (f.step G1) _ fun v s2 W2 G2 S2 r2=>q v s2 W2 (G1.trans G2) S2 r2
 |false=>exact(h2 rfl).run A s1 W1 env R S1 E (f.step G1) _ fun v s2 W2 G2 S2 r2=>q v s2 W2 (G1.trans G2) S2 r2
theorem ET.unary{e}{pos}{x z}(he:ET n F e ρ H x H1)(ho:j4 n (unaryOp op) x H1 z H2):ET n F (.UnaryOp op e pos) ρ H z H2:=by
 refine .mk fun A s W env R S E f Q q=>(wpAny_UnaryOp (he.run A s W env R S E f _ fun a s1 W1 G1 S1 r1=> ?_));exact ho.run A s1 W1 a R S1 r1 _ fun v s3 W3 G3 S3 r3=>q v s3 W3 (G1.trans G3) S3 r3
noncomputable def isStar(e:Tk):Bool:=by
 cases e with
 |Starred=>exact true
 |_=>exact false
theorem cK(h:isStar e=false) env:starEach (e::es) env=(false,eval e env)::starEach es env:=by
 cases e<;>first|rfl|cases h
theorem ab.nil:ab n F pos [] ρ H [] H:= .mk fun _ s W _ _ S _ _ _ q=>Zt (q _ _ _ (Gr.refl _ W s) S rfl)
theorem ab.cons{e}{es}{x}{xs}(h:ET n F e ρ H x H1)(hr:ab n F pos es ρ H1 xs H2)
  (fQ:autoParam (isStar e=false) aI):ab n F pos (e::es) ρ H (x::xs) H2:=by
 refine .mk fun A s W env R S E f Q q=>(W9 (h.run A s W env R S E f _ fun a s1 W1 G1 S1 r1=>hr.run A s1 W1 env R S1 E (f.step G1) _ fun vs s2 W2 G2 S2 r2=> ?_) (cK fQ env));exact q _ s2 W2 (G1.trans G2) S2 ⟨a,vs,rfl,r1.mono G2.le,r2⟩
theorem ak.length:∀{l}{vs},ak W l vs→vs.length=l.length:=by
 intro rv
 induction rv with
 |nil=>
  intro _ h;cases h;rfl
 |cons _ _ ih=>
  rintro _ ⟨v,r,e,_,h⟩;subst e;simp[ih h]
theorem fR c vs k:(sq c vs k).isFreed=false:=rfl
theorem ET.tuple{pos}{xs}(h:ab n F pos es ρ H xs H1)(hz:autoParam (xs.length≤Rs) aD):ET n F (.Tuple es k pos) ρ H (.tup xs) H1:=by
 refine .mk fun A s W env R S E f Q q=>(wpAny_Tuple (h.run A s W env R S E f _ fun vs s1 W1 G1 S1 r1=>⟨by exact r1.length▸hz, ?_⟩));obtain⟨S2,G2⟩:=S1.put (fR "tuple" vs 0);exact q _ _ _ (G1.trans G2) S2 ⟨_,vs,0,rfl,Wd.al ..,r1.mono G2.le,hz⟩
theorem ET.list{pos}{xs}(h:ab n F pos es ρ H xs H1)(hz:autoParam (xs.length≤Rs) aD):ET n F (.List es pos) ρ H (.lst xs) H1:=by
 refine .mk fun A s W env R S E f Q q=>(wpAny_List (h.run A s W env R S E f _ fun vs s1 W1 G1 S1 r1=>⟨by exact r1.length▸hz, ?_⟩));obtain⟨S2,G2⟩:=S1.put (fR "list" vs 0);exact q _ _ _ (G1.trans G2) S2 ⟨_,vs,0,rfl,Wd.al ..,r1.mono G2.le,hz⟩
theorem ET.ed{pos}{xs}(h:ab n F pos es ρ H xs H1)(hz:autoParam (xs.length≤Rs) aD):
  ET n F (.List es pos) ρ H (.ref H1.length) (H1++[some (.list xs)]):=by
 refine .mk fun A s W env R S E f Q q=>(wpAny_List (h.run A s W env R S E f _ fun vs s1 W1 G1 S1 r1=>⟨by refine J r1.length ?_;exact hz, ?_⟩));obtain⟨S2,G2⟩:=S1.new (s':={s1 with heap:=s1.heap.push (sq "list" vs 0)}) (ob:= .list xs) (fun _ _ e=>Rp _ e) (J (Rx _ rfl) nofun) rfl rfl (Ri _) ⟨vs,0,Rx _ rfl,r1.mono (Wd.ly ..),hz⟩;exact q _ _ _ (G1.trans G2) S2 ⟨_,rfl,by refine aQ S1.len ?_;simp[Wd.new]⟩
theorem TT.value(h:ET n F e ρ H x H1)(hb:OB n x H1 b)
  (he:autoParam (∀env whole,isTrue e env whole=(do let v ←whole;standAt e.pos;holding [v] (truthy v))) aI):TT n F e ρ H b H1:=by
 refine .mk fun A s W env R S E f Q q=>(wpAny_isTrue_value (h.run A s W env R S E f _ fun a s1 W1 G1 S1 r1=> ?_) (he env _));exact hb.run A s1 W1 a R S1 r1 _ fun s2 W2 G2 S2=>q s2 W2 (G1.trans G2) S2
theorem TT.cmp{x y}{b}(hl:ET n F l ρ H x H1)(hr:ET n F r ρ H1 y H2)(ho:OT n (Sv op) x y H2 (.bool b) H3)
  (hm:autoParam (behindInMarks op r=false) aK):TT n F (.Compare l [op] [r] pos) ρ H b H3:=by
 refine .mk fun A s W env R S E f Q q=>(wpAny_isTrue_Compare1 (hl.run A s W env R S E f _ fun a s1 W1 G1 S1 r1=>hr.run A s1 W1 env R S1 E (f.step G1) _ fun b s2 W2 G2 S2 r2=> ?_) hm);refine ho.run A s2 W2 a b R S2 (r1.mono G2.le) r2 _ fun v s3 W3 G3 S3 r3=> ?_;cases r3;exact YK (q s3 W3 ((G1.trans G2).trans G3) S3)
theorem TT.not{b}(h:TT n F e ρ H b H1):TT n F (.UnaryOp .Not e pos) ρ H (!b) H1:=by
 exact .mk fun A s W env R S E f Q q=>(wpAny_isTrue_Not (h.run A s W env R S E f _ fun s1 W1 G1 S1=>q s1 W1 G1 S1))
noncomputable abbrev xG(n:Nat)(F:Fx)(op:BoolOp)(es:List Tk)(ρ:Loc)(H:AH)(b:Bool)(H':AH):Prop:=∀A s W env,aC A n→ao W H s→aA F env→cR W ρ env s.heap→
    ∀Q,(∀s' W',Gr ct W s W' s'→ao W' H' s'→Q b s')→wpAny (model prog w) A (allTrue op es env) Q aY s
@[irreducible] noncomputable def aL (n:Nat) (F:Fx) (op:BoolOp) (es:List Tk) (ρ:Loc) (H:AH) (b:Bool) (H':AH):Prop:=xG n F op es ρ H b H'
theorem aL.mk{n F op es ρ H b H'}(h:xG n F op es ρ H b H'):aL n F op es ρ H b H':=by delta aL;exact h
theorem aL.run{n F op es ρ H b H'}(h:aL n F op es ρ H b H'):xG n F op es ρ H b H':=by delta aL at h;exact h
theorem aL.and_nil:aL n F .And [] ρ H true H:= .mk fun _ s W _ _ S _ _ _ q=>wpAny_allTrue_And_nil (q s W (Gr.refl ..) S)
theorem aL.or_nil:aL n F .Or [] ρ H false H:= .mk fun _ s W _ _ S _ _ _ q=>wpAny_allTrue_Or_nil (q s W (Gr.refl ..) S)
theorem aL.and_false(h:TT n F e ρ H false H1):aL n F .And (e::es) ρ H false H1:= .mk fun A s W env R S E f _ q=>
 aao (h.run A s W env R S E f _ fun s1 W1 G1 S1=>q s1 W1 G1 S1)
theorem aL.and_true(h:TT n F e ρ H true H1)(hr:aL n F .And es ρ H1 b H2):aL n F .And (e::es) ρ H b H2:= .mk fun A s W env R S E f _ q=>
 aao (h.run A s W env R S E f _ fun s1 W1 G1 S1=>hr.run A s1 W1 env R S1 E (f.step G1) _ fun s2 W2 G2 S2=>q s2 W2 (G1.trans G2) S2)
theorem aL.or_true(h:TT n F e ρ H true H1):aL n F .Or (e::es) ρ H true H1:= .mk fun A s W env R S E f _ q=>
 aaz (h.run A s W env R S E f _ fun s1 W1 G1 S1=>q s1 W1 G1 S1)
theorem aL.or_false(h:TT n F e ρ H false H1)(hr:aL n F .Or es ρ H1 b H2):aL n F .Or (e::es) ρ H b H2:= .mk fun A s W env R S E f _ q=>
 aaz (h.run A s W env R S E f _ fun s1 W1 G1 S1=>hr.run A s1 W1 env R S1 E (f.step G1) _ fun s2 W2 G2 S2=>q s2 W2 (G1.trans G2) S2)
theorem TT.bo{b}(h:aL n F op es ρ H b H1):TT n F (.BoolOp op es pos) ρ H b H1:= .mk fun A s W env R S E f _ q=>
 wpAny_isTrue_BoolOp (h.run A s W env R S E f _ q)
theorem ag.nil:ag n F [] ρ H .next ρ H:= .mk fun _ s W _ _ S _ f _ q=>wpAny_execs_nil (q _ _ _ (Gr.refl _ W s) S f rfl)
end
section
variable{n:Nat}{F:Fx}{ρ an cV:Loc}{H H1 H2 H3:AH}{g:Fl}
theorem ag.cons{st}{rest}(h:XT n F st ρ H .next an H1)(hr:ag n F rest an H1 g cV H2):ag n F (st::rest) ρ H g cV H2:=by
 refine .mk fun A s W env R S E f Q q=>(Xb (h.run A s W env R S E f _ fun fl s1 W1 G1 S1 f1 r1=> ?_));cases r1;exact hr.run A s1 W1 env R S1 E f1 _ fun fl s2 W2 G2 S2 f2 r2=>q fl s2 W2 (G1.trans G2) S2 f2 r2
theorem ag.ret{st}{rest}{x}(h:XT n F st ρ H (.ret x) an H1):ag n F (st::rest) ρ H (.ret x) an H1:=by
 refine .mk fun A s W env R S E f Q q=>(Xb (h.run A s W env R S E f _ fun fl s1 W1 G1 S1 f1 r1=> ?_));have GP:=r1;obtain⟨v,e,_⟩:=GP;subst e;exact q _ s1 W1 G1 S1 f1 r1
theorem ag.sub(h:ag n F gu ρ H g an H1)(k:∀n x,ρ'.lookup n=some x→an.lookup n=some x):ag n F gu ρ H g ρ' H1:=by
 exact .mk fun A s W env R S E f Q q=>(h.run A s W env R S E f _ fun fl s1 W1 G1 S1 f1 r1=>q fl s1 W1 G1 S1 (f1.sub k) r1)
theorem XT.sub{st}{ρ'}(h:XT n F st ρ H g an H1)(k:∀n x,ρ'.lookup n=some x→an.lookup n=some x):XT n F st ρ H g ρ' H1:=by
 exact .mk fun A s W env R S E f Q q=>(h.run A s W env R S E f _ fun fl s1 W1 G1 S1 f1 r1=>q fl s1 W1 G1 S1 (f1.sub k) r1)
theorem XT.ite{c}(ht:TT n F t ρ H c H1)(h1:c=true→ag n F a ρ H1 g an H2)(h2:c=false→ag n F b ρ H1 g an H2):
  XT n F (.If t a b pos) ρ H g an H2:=by
 refine .mk fun A s W env R S E f Q q=>(wpAny_If (ht.run A s W env R S E f _ fun s1 W1 G1 S1=> ?_));cases c with
 |true=>exact(h1 rfl).run A s1 W1 env R S1 E (f.step G1) _ fun v s2 W2 G2 S2 f2 r2=>q v s2 W2 (G1.of.trans G2) S2 f2 r2
 |false=>exact(h2 rfl).run A s1 W1 env R S1 E (f.step G1) _ fun v s2 W2 G2 S2 f2 r2=>q v s2 W2 (G1.of.trans G2) S2 f2 r2
theorem XT.ret{x}(h:ET n F e ρ H x H1):XT n F (.Return (some e) pos) ρ H (.ret x) ρ H1:=by
 exact .mk fun A s W env R S E f Q q=>(wpAny_Return_some (h.run A s W env R S E f _ fun v s1 W1 G1 S1 r1=>q _ s1 W1 G1.of S1 (f.step G1) ⟨v,rfl,r1⟩))
theorem XT.GQ:XT n F (.Return none pos) ρ H (.ret .none) ρ H:=by
 exact .mk fun A s W env R S E f Q q=>(wpAny_Return_none (q _ s W (Gr.refl ..) S f ⟨_,rfl,rfl⟩))
noncomputable abbrev KI(F:Fx)(x:RN):Prop:=∀A s W H ρ env y v,ao W H s→aA F env→cR W ρ env s.heap→Rel W y v→
    ∀Q,(∀s',Gr (own env) W s W s'→ao W H s'→cR W ((x,y)::ρ) env s'.heap→Q () s')→wpAny (model prog w) A (storeName env x v) Q aY s
@[irreducible] noncomputable def ST (F:Fx) (x:RN):Prop:=KI F x
theorem ST.mk{F x}(h:KI F x):ST F x:=by delta ST;exact h
theorem ST.run{F x}(h:ST F x):KI F x:=by delta ST at h;exact h
end
section
variable{n:Nat}{F:Fx}{ρ an cV:Loc}{H H1 H2 H3:AH}{g:Fl}
theorem lookup_cons{y}{ρ:Loc}:((x,y)::ρ).lookup n'=if n'=x then some y else ρ.lookup n':=by
 refine J Sc ?_;by_cases h:n'=x
 ·subst h;simp
 ·rw[(show(n'==x)=false by simpa using h),if_neg h]
theorem dN{a}(hs:SU a h h')(ha:h'.get? a≠none):∀b,h.get? b≠none→h'.get? b≠none:=fun b e=>by
 by_cases hb:b=a
 ·subst hb;exact ha
 ·exact(hs.2 b hb)▸e
theorem xH{a}{env}(hs:SU a s.heap s'.heap)(ha:s'.heap.get? a≠none)(ho:own env a)(os:s'.os=s.os)(gs:autoParam (s'.gens=s.gens) aI):Gr (own env) W s W s':=
 ⟨W.le_refl,fun _ h=> .inl h,fun _ _ h=> .inl h,fun b o e _ hx=>(hs.2 b fun q=>hx (by subst q;exact ho)).trans e,fun a h _=>dN hs ha a h,os,by exact gs▸fun _ _ h=>h⟩
theorem uq{a}(S:ao W H s)(hs:SU a s.heap s'.heap)(ha:jD W a)(g:s'.gens=s.gens)(ht:s.toks≤s'.toks):ao W H s':=
 S.same (fun b o e q=>(hs.2 b fun z=>by subst z;exact q.elim ha.1 fun q=>q ha.2).trans e) (g▸S.bare) ht
theorem ST.local(hk:autoParam (F.names.lookup x=some .local) aK):ST F x:=by
 refine .mk fun A s W H ρ env y v S E f r Q q=> ?_;have hl:env.kindOf x=some .local:=by rw[bf E];exact hk
 obtain⟨m,hn,hm⟩:=f.m;refine wpAny_storeName_local hl hn (fun h' Nj hs=> ?_) (E.kind▸rfl);refine q _ (xH hs (ch Nj) (.inl rfl) rfl) (uq S hs f.sep rfl (TP _)) (⟨⟨_,Nj,fun n' x' e k=> ?_⟩,fun n' x' e=> ?_,fun n' x' e k=> ?_,fun n' k=> ?_,f.sep,fun n' c e=> ?_,f.inj⟩)
 ·rw[lookup_cons] at e;by_cases h:n'=x
  ·subst h;replace e:=(if_pos rfl)▸e;cases e;exact⟨v,by simp,r⟩
  ·rw[if_neg h] at e;obtain⟨u,a,b⟩:=hm n' x' e k;exact⟨u,by simp[h,a],b⟩
 ·rw[lookup_cons] at e;by_cases h:n'=x
  ·cases h;exact .inl hl
  ·rw[if_neg h] at e;exact f.kind n' x' e
 ·rw[lookup_cons] at e;by_cases h:n'=x
  ·subst h;exact absurd hl k
  ·rw[if_neg h] at e;obtain⟨c,u,a,b,d⟩:=f.cell n' x' e k;exact⟨c,u,a,b.sameBut hs (f.dD n' c a).2.2.1,d⟩
 ·obtain⟨c,u,a,b⟩:=f.cells n' k;exact⟨c,u,a,b.sameBut hs (f.dD n' c a).2.2.1⟩
 ·obtain⟨a,b,c',d⟩:=f.dD n' c e;exact⟨a,b,c',by exact J (hs.2 c c') d⟩
theorem ST.cell(hk:autoParam (F.names.lookup x=some .cell) aK)(ht:autoParam (F.top=true) aI):ST F x:=by
 refine .mk fun A s W H ρ env y v S E f r Q q=> ?_;have hl:env.kindOf x=some .cell:=by rw[bf E];exact hk
 obtain⟨c,v0,hc,hv⟩:=f.cells x hl;obtain⟨h1,h2,h3,h4⟩:=f.dD x c hc;refine wpAny_storeName_cell E.kind hl hc hv fun h' pS hs=> ?_;have JQ:h'.get? c≠none:=by obtain⟨o,ho,_⟩:=pS;exact ho▸nofun
 refine q _ (xH hs JQ (.inr ⟨E.top ht x c hl hc,x,hl,hc⟩) rfl) (uq S hs ⟨h1,h2⟩ rfl (Ri _)) ?_;obtain⟨m,hn,hm⟩:=f.m;have other:∀n' c',n'≠x→env.cells.lookup n'=some c'→c'≠c:=fun n' c' aV e z=>by cases z;exact aV (f.inj n' x _ e hc)
 refine⟨⟨m,hn.sameBut hs (SK h3),fun n' x' e k=> ?_⟩,fun n' x' e=> ?_,fun n' x' e k=> ?_,fun n' k=> ?_,f.sep,fun n' c' e=> ?_,f.inj⟩
 ·rw[lookup_cons] at e;by_cases h:n'=x
  ·subst h;cases hl.symm.trans k
  ·rw[if_neg h] at e;exact hm n' x' e k
 ·replace e:=lookup_cons▸e;by_cases h:n'=x
  ·cases h;exact .inr (.inl hl)
  ·rw[if_neg h] at e;exact f.kind n' x' e
 ·rw[lookup_cons] at e;by_cases h:n'=x
  ·subst h;replace e:=(if_pos rfl)▸e;cases e;exact⟨c,v,hc,pS,r⟩
  ·rw[if_neg h] at e;obtain⟨c',u,a,b,d⟩:=f.cell n' x' e k;exact⟨c',u,a,b.sameBut hs (other n' c' h a),d⟩
 ·by_cases h:n'=x
  ·cases h;exact⟨c,_,hc,pS⟩
  ·obtain⟨c',u,a,b⟩:=f.cells n' k;exact⟨c',u,a,b.sameBut hs (other n' c' h a)⟩
 ·obtain⟨a,b,OR,d⟩:=f.dD n' c' e;refine⟨a,b,OR, ?_⟩;by_cases h:c'=c
  ·cases h;exact JQ
  ·exact(hs.2 c' h)▸d
noncomputable abbrev KJ(n:Nat)(F:Fx)(t:Tk)(x:V)(ρ:Loc)(H:AH)(ρ':Loc)(H':AH):Prop:=∀A s W env v,aC A n→ao W H s→aA F env→cR W ρ env s.heap→Rel W x v→
    ∀Q,(∀s' W',Gr (own env) W s W' s'→ao W' H' s'→cR W' ρ' env s'.heap→Q () s')→wpAny (model prog w) A (XJ t env v) Q aY s
@[irreducible] noncomputable def AT (n:Nat) (F:Fx) (t:Tk) (x:V) (ρ:Loc) (H:AH) (ρ':Loc) (H':AH):Prop:=KJ n F t x ρ H ρ' H'
theorem AT.mk{n F t x ρ H ρ' H'}(h:KJ n F t x ρ H ρ' H'):AT n F t x ρ H ρ' H':=by delta AT;exact h
theorem AT.run{n F t x ρ H ρ' H'}(h:AT n F t x ρ H ρ' H'):KJ n F t x ρ H ρ' H':=by delta AT at h;exact h
theorem AT.name(h:ST F x):AT n F (.Name x pos) y ρ H ((x,y)::ρ) H:=by
 exact .mk fun A s W env v R S E f r Q q=>(VX (h.run A s W H ρ env y v S E f r _ fun s' G S' f'=>q s' W G S' f'))
theorem AT.loc(hk:autoParam (F.names.lookup x=some .local) aK):AT n F (.Name x pos) y ρ H ((x,y)::ρ) H:=AT.name (ST.local hk)
noncomputable abbrev Eb(n:Nat)(F:Fx)(ts:List Tk)(xs:List V)(ρ:Loc)(H:AH)(ρ':Loc)(H':AH):Prop:=∀A s W env vs,aC A n→ao W H s→aA F env→cR W ρ env s.heap→ak W xs vs→
    ∀Q,(∀s' W',Gr (own env) W s W' s'→ao W' H' s'→cR W' ρ' env s'.heap→Q () s')→wpAny (model prog w) A (WS ((UY ts env).map (·.2)) vs) Q aY s
@[irreducible] noncomputable def aX (n:Nat) (F:Fx) (ts:List Tk) (xs:List V) (ρ:Loc) (H:AH) (ρ':Loc) (H':AH):Prop:=Eb n F ts xs ρ H ρ' H'
theorem aX.mk{n F ts xs ρ H ρ' H'}(h:Eb n F ts xs ρ H ρ' H'):aX n F ts xs ρ H ρ' H':=by delta aX;exact h
theorem aX.run{n F ts xs ρ H ρ' H'}(h:aX n F ts xs ρ H ρ' H'):Eb n F ts xs ρ H ρ' H':=by delta aX at h;exact h
theorem aX.nil:aX n F [] [] ρ H ρ H:=by
 refine .mk fun A s W env vs R S E f r Q q=> ?_;cases r;exact Rj (q s W (Gr.refl ..) S f)
theorem aX.cons{x}{xs}(h:AT n F t x ρ H an H1)(hr:aX n F ts xs an H1 cV H2)
  (he:autoParam (∀env,UY (t::ts) env=(false,XJ t env)::UY ts env) aI):aX n F (t::ts) (x::xs) ρ H cV H2:=by
 refine .mk fun A s W env vs R S E f r Q q=> ?_;obtain⟨v,us,e,r1,r2⟩:=r;subst e;refine J (he env) (Rh (wpAny_holding (h.run A s W env v R S E f r1 _ fun s1 W1 G1 S1 f1=> ?_)));exact hr.run A s1 W1 env us R S1 E f1 (r2.mono G1.le) _ fun s2 W2 G2 S2 f2=>q s2 W2 (G1.trans G2) S2 f2
theorem fS(S:ao W H s){a}{vs}{k}(h:W.I a=some (sq "tuple" vs k)):s.heap.IsTuple a vs.toArray:=⟨_,S.cr _ _ h,rfl,k,rfl⟩
theorem aB(S:ao W H s){a}{vs}{k}(h:W.I a=some (sq "list" vs k)):s.heap.IsList a vs.toArray:=⟨_,S.cr _ _ h,rfl,k,rfl⟩
theorem sk{h'}{t}(hx:Vv s.heap.objs.size s.heap h'):Gr X W s W {s with heap:=h',toks:=t}:=by
 have k:=fun a o e=>hx a o (Te (RV e)) e;exact⟨W.le_refl,fun _ h=> .inl h,fun _ _ h=> .inl h,fun b o e _ _=>k b o e,fun a h _=>bt k a h,rfl,fun _ _ h=>h⟩
theorem ot(S:ao W H s)(hx:Vv s.heap.objs.size s.heap h')(ht:autoParam (s.toks≤t) aN):ao W H {s with heap:=h',toks:=t}:=
 S.same (fun a o e _=>hx a o (Te (RV e)) e) S.bare ht
theorem AT.tuple{xs}(h:aX n F ts xs ρ H an H1)(hn:autoParam (∀env,(UY ts env).length=xs.length) aI)
  (xI:autoParam (∀env,(UY ts env).findIdx? (·.1)=none) aI):AT n F (.Tuple ts k pos) (.tup xs) ρ H an H1:=by
 refine .mk fun A s W env v R S E f r Q q=> ?_;obtain⟨a,vs,m,e,i,r,_⟩:=r;subst e;refine wpAny_assign_Tuple R.handled (fS S i) (J (hn ..) (J (RI ..) (J (r.length ..) rfl))) (xI env) fun h' hx=> ?_;have G:=sk (X:=ct) (W:=W) (t:=s.toks) hx;exact h.run A _ W env vs R (ot S hx) E (f.step G) (r) _ fun s2 W2 G2 S2 f2=>q s2 W2 (G.of.trans G2) S2 f2
theorem AT.lB{xs}(h:aX n F ts xs ρ H an H1)(hn:autoParam (∀env,(UY ts env).length=xs.length) aI)
  (xI:autoParam (∀env,(UY ts env).findIdx? (·.1)=none) aI):AT n F (.Tuple ts k pos) (.lst xs) ρ H an H1:=by
 refine .mk fun A s W env v R S E f r Q q=> ?_;obtain⟨a,vs,m,e,i,r,_⟩:=r;subst e;refine J (arm_assign_Tuple ..) (bA ?_)
 delta unpack
 refine J (xI env) (J (hn env) ?_);refine Rh (wpAny_holding ?_);have:=kun_itemsOf (prog:=prog) (w:=w) (E:=aY) (Q:=fun items s'=>wpAny (model prog w) A (WS ((UY ts env).map (·.2)) items) Q aY s') R.handled (aB S i) fun h' hx=> ?_
 ·exact r.length▸RI▸this
 ·have G:=sk (X:=ct) (W:=W) (t:=s.toks) hx;exact h.run A _ W env vs R (ot S hx) E (f.step G) (r) _ fun s2 W2 G2 S2 f2=>q s2 W2 (G.of.trans G2) S2 f2
noncomputable abbrev Ec(n:Nat)(F:Fx)(ts:List Tk)(x:V)(ρ:Loc)(H:AH)(ρ':Loc)(H':AH):Prop:=∀A s W env v,aC A n→ao W H s→aA F env→cR W ρ env s.heap→Rel W x v→
    ∀Q,(∀s' W',Gr (own env) W s W' s'→ao W' H' s'→cR W' ρ' env s'.heap→Q () s')→wpAny (model prog w) A (assignAll v ((UY ts env).map (·.2))) Q aY s
@[irreducible] noncomputable def bw (n:Nat) (F:Fx) (ts:List Tk) (x:V) (ρ:Loc) (H:AH) (ρ':Loc) (H':AH):Prop:=Ec n F ts x ρ H ρ' H'
theorem bw.mk{n F ts x ρ H ρ' H'}(h:Ec n F ts x ρ H ρ' H'):bw n F ts x ρ H ρ' H':=by delta bw;exact h
theorem bw.run{n F ts x ρ H ρ' H'}(h:bw n F ts x ρ H ρ' H'):Ec n F ts x ρ H ρ' H':=by delta bw at h;exact h
theorem bw.one(h:AT n F t x ρ H an H1)(he:autoParam (∀env,UY [t] env=[(false,XJ t env)]) aI):bw n F [t] x ρ H an H1:=by
 exact .mk fun A s W env v R S E f r Q q=>((he env)▸h.run A s W env v R S E f r Q q)
theorem bw.two{x}(h:AT n F t x ρ H an H1)(h':AT n F t' x an H1 cV H2)(he:autoParam (∀env,UY [t,t'] env=[(false,XJ t env),(false,XJ t' env)]) aI):
  bw n F [t,t'] x ρ H cV H2:=by
 refine .mk fun A s W env v R S E f r Q q=>(J (he env) ?_);refine Rh (wpAny_holding (h.run A s W env v R S E f r _ fun s1 W1 G1 S1 f1=> ?_));exact h'.run A s1 W1 env v R S1 E f1 (r.mono G1.le) _ fun s2 W2 G2 S2 f2=>q s2 W2 (G1.trans G2) S2 f2
theorem XT.assign{e}{pos}{x}(he:ET n F e ρ H x H1)(h:bw n F ts x ρ H1 an H2)
  (hs:autoParam (∀env,Z3 ts e pos.line env=pure false) aI) (hw:autoParam (∀env,aA F env→Ui ts e env=pure none) aI):
  XT n F (.Assign ts e pos) ρ H .next an H2:=by
 refine .mk fun A s W env R S E f Q q=>(abe (he.run A s W env R S E f _ fun v s1 W1 G1 S1 r1=> ?_) (hs env) (hw env E));exact h.run A s1 W1 env v R S1 E (f.step G1) r1 _ fun s2 W2 G2 S2 f2=>q _ s2 W2 (G1.of.trans G2) S2 f2 rfl
noncomputable def KL(F:Fx):List RN→Prop
 |[]=>True
 |x::r=>ST F x∧KL F r
theorem bindAll A:∀xs ys s W H ρ env vs,KL F xs→xs.length=ys.length→ao W H s→aA F env→cR W ρ env s.heap→ak W ys vs→
  ∀Q,(∀s',Gr (own env) W s W s'→ao W H s'→cR W ((xs.zip ys).reverse++ρ) env s'.heap→Q () s')→wpAny (model prog w) A (WS (xs.map fun n=>bindName env n) vs) Q aY s:=by
 intro xs
 induction xs with
 |nil=>
  intro ys s W H ρ env vs _ hl S E f r Q q;cases ys with
  |nil=>cases r;exact Rj (q s (Gr.refl ..) S f)
  |cons _ _=>cases hl
 |cons x xs ih=>
  intro ys s W H ρ env vs b hl S E f r Q q;cases ys with
  |nil=>cases hl
  |cons y ys=>
   obtain⟨v,us,e,r1,r2⟩:=r;subst e;refine Rh (wpAny_holding (wpAny_bindName (b.1.run A s W H ρ env y v S E f r1 _ fun s1 G1 S1 f1=> ?_)));refine ih ys s1 W H _ env us b.2 (V6 hl) S1 E f1 r2 Q fun s2 G2 S2 f2=>q s2 (G1.trans G2) S2 ?_;simpa using f2
theorem ak.append:∀{l l'}{vs KN},ak W l vs→ak W l' KN→ak W (l++l') (vs++KN):=by
 intro rv
 induction rv with
 |nil=>
  intro _ _ _ h h';cases h;exact h'
 |cons _ _ ih=>
  rintro _ _ _ ⟨v,r,e,a,h⟩ h';subst e;exact⟨v,_,rfl,a,ih h h'⟩
theorem ak.reverse:∀{l}{vs},ak W l vs→ak W l.reverse vs.reverse:=by
 intro rv
 induction rv with
 |nil=>
  intro _ h;cases h;rfl
 |cons x l ih=>
  rintro _ ⟨v,r,e,a,h⟩;subst e;exact J SN (J SN ((ak.append (ih h) ⟨v,[],rfl,a,rfl⟩)))
theorem XT.fU{e}{pos}{ys}{xs}(he:ET n F e ρ H (.tup ys) H1)(hb:KL F xs.reverse)(hl:xs.length=ys.length)
  (hs:∀env,Z3 ts e pos.line env=pure false) (hw:∀env,aA F env→Ui ts e env=pure (some xs)):
  XT n F (.Assign ts e pos) ρ H .next ((xs.reverse.zip ys.reverse).reverse++ρ) H1:=by
 refine .mk fun A s W env R S E f Q q=>(J (exec_Assign_arm ..) (J (hs env) ?_));refine bA (bP ?_);refine Rh (he.run A s W env R S E f _ fun v s1 W1 G1 S1 r1=> ?_);refine J (hw env E) (bP ?_);show wpAny _ _ (do
   rule "assign.swapped-stores"
   let items ←unpackItems v xs.length none
   WS (xs.reverse.map fun n=>bindName env n) items.reverse
   pure Flow.next) Q aY s1
 obtain⟨a,vs,m,e',i,r,_⟩:=r1;subst e';refine bR (Rh ?_);have:=wpAny_unpackItems_tuple (prog:=prog) (w:=w) (E:=aY) (Q:=fun items s'=>wpAny (model prog w) A (WS (xs.reverse.map fun n=>bindName env n) items.reverse>>=fun _=>pure Flow.next) Q aY s') R.handled (fS S1 i) fun h' hx=> ?_
 ·exact hl.symm▸r.length▸RI▸this
 ·have G:=sk (X:=ct) (W:=W1) (t:=s1.toks) hx;refine Rh (bindAll A xs.reverse ys.reverse _ W1 H1 ρ env vs.reverse hb (by simpa using hl) (ot S1 hx) E ((f.step G1).step G) r.reverse _ fun s2 G2 S2 f2=>Rj ?_);exact q _ s2 W1 ((G1.of.trans G.of).trans G2) S2 f2 rfl
end
mutual
noncomputable def V.data:V→Option PyData
 | .none=>some .none
 | .bool b=>some (.bool b)
 | .int i=>some (.int i)
 | .str x=>some (.str x)
 | .lit x=>some (.str x)
 | .tup l=>(eg l).map .tuple
 | .lst l=>(eg l).map .list
 | .bx _=>none
 | .ref _=>none
 | .st _=>none
 | .bm _ _=>none
 | .pm _ _=>none
 | .vw _ _=>none
 | .dst _=>none
 | .raw _ _=>none
noncomputable def eg:List V→Option (List PyData)
 |[]=>some []
 |x::l=>x.data.bind fun d=>(eg l).map fun ds=>d::ds
end
theorem eP x l:eg (x::l)=x.data.bind fun d=>(eg l).map fun ds=>d::ds:=rfl
noncomputable def gE(H:AH):V→Option PyData
 | .ref i=>match H[i]? with
  |some (some (.list l))=>(eg l).map .list
  |_=>none
 |x=>x.data
mutual
theorem gF(k:∀a o,W.I a=some o→h.get? a=some o):∀{x}{v}{d},Rel W x v→x.data=some d→∃as,Reads h v d as
 | .none,_,_,r,e=>by cases r;cases e;exact⟨_, .none⟩
 | .bool b,_,_,r,e=>by cases r;cases e;exact⟨_, .bool b⟩
 | .int i,_,_,r,e=>by obtain⟨t,rfl⟩:=r;cases e;exact⟨_, .int i t⟩
 | .str x,_,_,r,e=>by obtain⟨t,rfl,_⟩:=r;cases e;exact⟨_, .str x t⟩
 | .lit x,_,_,r,e=>by obtain⟨t,rfl,_⟩:=r;cases e;exact⟨_, .str x t⟩
 | .tup l,_,d,r,e=>by
  obtain⟨a,vs,n,rfl,i,r,_⟩:=r;obtain⟨ds,e',rfl⟩:=TG.mp (e);obtain⟨as,q⟩:=g9 k r e';exact⟨_, .tuple (k _ _ i) rfl rfl q⟩
 | .lst l,_,d,r,e=>by
  obtain⟨a,vs,n,rfl,i,r,_⟩:=r;obtain⟨ds,e',rfl⟩:=TG.mp (e);obtain⟨as,q⟩:=g9 k r e';exact⟨_, .list (k _ _ i) rfl rfl q⟩
 | .bx _,_,_,_,e=>by cases e
 | .ref _,_,_,_,e=>by cases e
 | .st _,_,_,_,e=>by cases e
 | .bm _ _,_,_,_,e=>by cases e
 | .pm _ _,_,_,_,e=>by cases e
 | .vw _ _,_,_,_,e=>by cases e
 | .dst _,_,_,_,e=>by cases e
 | .raw _ _,_,_,_,e=>by cases e
theorem g9(k:∀a o,W.I a=some o→h.get? a=some o):∀{l}{vs}{ds},ak W l vs→eg l=some ds→∃as,ReadsAll h vs ds as
 |[],_,_,r,e=>by cases r;cases e;exact⟨_, .nil⟩
 |x::l,_,ds,⟨v,us,e1,r1,r2⟩,e=>by
  subst e1;rw[eP,Option.bind_eq_some_iff] at e;obtain⟨d,h1,e⟩:=e;obtain⟨Nk,h2,rfl⟩:=TG.mp e;obtain⟨as,q⟩:=gF k r1 h1;obtain⟨bs,q'⟩:=g9 k r2 h2;exact⟨_, .cons q q'⟩
end
section
variable{n:Nat}{F:Fx}{ρ an cV:Loc}{H H1 H2 H3:AH}{g:Fl}
theorem hJ(S:ao W H s){x}{v}{d}(r:Rel W x v)(e:gE H x=some d):∃as,Reads s.heap v d as:=by
 cases x with
 |ref i=>
  cases hl:H[i]? with
  |none=>have e:(match H[i]? with|some (some (.list l))=>(eg l).map .list|_=>none)=some d:=e;replace e:=hl▸e;cases e
  |some o=>
   have e:(match H[i]? with|some (some (.list l))=>(eg l).map .list|_=>none)=some d:=e;replace e:=hl▸e;cases o with
   |none=>cases e
   |some ob=>
    cases ob with
    |list l=>
     obtain⟨a,rfl,p⟩:=r;obtain⟨a',p',_,vs,m,ho,r,_⟩:=S.live i _ hl;cases p▸p';obtain⟨ds,e',rfl⟩:=TG.mp e;obtain⟨as,q⟩:=g9 S.cr r e';exact⟨_, .list ho rfl rfl q⟩
    |_=>cases e
 |_=>exact gF S.cr r e
theorem OT.aZ{x y}{b}
  (h:∀A s W(a c:Value),aC A n→ao W H s→Rel W x a→Rel W y c→∀Q,(∀tk,Q (.bool b) {s with toks:=tk})→wpAny (model prog w) A (t a c) Q aY s):
  OT n t x y H (.bool b) H:= .mk fun A s W a c R S ra rc Q q=>wpAny_toks (h A s W a c R S ra rc _ fun tk ht=>q _ _ W (Gr.dF W s tk) (S.tok tk ht) rfl)
theorem OT.dH{x y}{i}
  (h:∀A s W(a c:Value),aC A n→ao W H s→Rel W x a→Rel W y c→∀Q,(∀tk u,Q (.int i u) {s with toks:=tk})→wpAny (model prog w) A (t a c) Q aY s):
  OT n t x y H (.int i) H:= .mk fun A s W a c R S ra rc Q q=>wpAny_toks (h A s W a c R S ra rc _ fun tk u ht=>q _ _ W (Gr.dF W s tk) (S.tok tk ht) ⟨u,rfl⟩)
theorem OT.add_int:OT n (Wo .Add) (.int a) (.int b) H (.int (a+b)) H:=OT.dH fun A s W x y R S ra rb Q q=>by
 obtain⟨t,rfl⟩:=ra;obtain⟨u,rfl⟩:=rb;exact aab (q _ _)
theorem OT.floordiv_int{a b}(hb:b≠0)(hp:X1 a b=false):OT n (Wo .FloorDiv) (.int a) (.int b) H (.int (a.fdiv b)) H:=OT.dH fun A s W x y R S ra rb Q q=>by
 obtain⟨t,rfl⟩:=ra;obtain⟨u,rfl⟩:=rb;exact PyProof.Rows.floordiv_int hb (q _ _) (Or.inl hp)
theorem OT.mod_int{a b}(hb:b≠0):OT n (Wo .Mod) (.int a) (.int b) H (.int (a.fmod b)) H:=OT.dH fun A s W x y R S ra rb Q q=>by
 obtain⟨t,rfl⟩:=ra;obtain⟨u,rfl⟩:=rb;exact PyProof.Rows.mod_int' hb (q _ _)
theorem OT.lt_int:OT n (Sv .Lt) (.int a) (.int b) H (.bool (decide (a<b))) H:=OT.aZ fun A s W x y R S ra rb Q q=>by
 obtain⟨t,rfl⟩:=ra;obtain⟨u,rfl⟩:=rb;exact PySem.P.lt_int (q _)
theorem OT.gt_int:OT n (Sv .Gt) (.int a) (.int b) H (.bool (decide (a>b))) H:=OT.aZ fun A s W x y R S ra rb Q q=>by
 obtain⟨t,rfl⟩:=ra;obtain⟨u,rfl⟩:=rb;exact PySem.P.gt_int (q _)
theorem OT.eq_int:OT n (Sv .Eq) (.int a) (.int b) H (.bool (a==b)) H:=OT.aZ fun A s W x y R S ra rb Q q=>by
 obtain⟨t,rfl⟩:=ra;obtain⟨u,rfl⟩:=rb;exact PySem.P.eq_int (q _)
theorem OT.is_none(h:∀W v,Rel W x v→(v== .none)=b):OT n (Sv .Is) x .none H (.bool b) H:=OT.aZ fun A s W a c R S ra rc Q q=>by
 cases rc;exact PySem.is_none ((h W a ra)▸q s.toks)
theorem OT.isNot_none(h:∀W v,Rel W x v→(v== .none)=b):OT n (Sv .IsNot) x .none H (.bool (!b)) H:=OT.aZ fun A s W a c R S ra rc Q q=>by
 cases rc;exact PySem.isNot_none ((h W a ra)▸q s.toks)
theorem OT.eq{a b}(ha:gE H x=some a)(hb:gE H y=some b)(ca:Un a=true)(cb:Un b=true):OT (n+8) (Sv .Eq) x y H (.bool (Uq a b)) H:=
 OT.aZ fun A s W u v R S ru rv Q q=>by
  obtain⟨as,p⟩:=hJ S ru ha;obtain⟨bs,p'⟩:=hJ S rv hb;exact SeqAt.compareEq_shaped p p' ca cb (by have:=R.units;lia) (q s.toks)
theorem OT.ne{a b}(ha:gE H x=some a)(hb:gE H y=some b)(ca:Un a=true)(cb:Un b=true):OT (n+8) (Sv .NotEq) x y H (.bool (!Uq a b)) H:=
 OT.aZ fun A s W u v R S ru rv Q q=>by
  obtain⟨as,p⟩:=hJ S ru ha;obtain⟨bs,p'⟩:=hJ S rv hb;exact SeqAt.compareNe_shaped p p' ca cb (by have:=R.units;lia) (q s.toks)
theorem OT.ou{x y}{z}(hz:z.length≤Rs)
  (h:∀A s W(a c:Value),aC A n→ao W H s→Rel W x a→Rel W y c→∀Q,(∀tk u,Q (.str z u) {s with toks:=tk})→wpAny (model prog w) A (t a c) Q aY s):
  OT n t x y H (.str z) H:= .mk fun A s W a c R S ra rc Q q=>wpAny_toks (h A s W a c R S ra rc _ fun tk u ht=>q _ _ W (Gr.dF W s tk) (S.tok tk ht) ⟨u,rfl,hz⟩)
theorem OT.add_str(hz:x.length+y.length≤Rs):OT n (Wo .Add) (.str x) (.str y) H (.str (x++y)) H:=OT.ou (J (RC ..) hz) fun A s W a c R S ra rb Q q=>by
 obtain⟨t,rfl,_⟩:=ra;obtain⟨u,rfl,_⟩:=rb;exact SB.add (fun t' k=>q _ _) hz
theorem OT.in_str{x y}:OT n (Sv .In) (.str y) (.str x) H (.bool (TB x y)) H:=OT.aZ fun A s W a c R S ra rb Q q=>by
 obtain⟨t,rfl,_⟩:=ra;obtain⟨u,rfl,_⟩:=rb;exact SB.contains (q s.toks)
theorem OT.eq_str:OT n (Sv .Eq) (.str x) (.str y) H (.bool (x==y)) H:=OT.aZ fun A s W a c R S ra rb Q q=>by
 obtain⟨t,rfl,_⟩:=ra;obtain⟨u,rfl,_⟩:=rb;exact SeqAt.RcAt.str_str x t y u prog w aY Q (q s.toks)
noncomputable def GR(y:RN):List V→Option Bool
 |[]=>some false
 | .str x::l=>(GR y l).map (x==y||·)
 |_=>none
end
section
variable{n:Nat}{F:Fx}{ρ an cV:Loc}{H H1 H2 H3:AH}{g:Fl}
theorem OB.none:OB n .none H false:= .mk fun A s W a R S r Q q=>by cases r;exact fun _ _ _=>q s W (Gr.refl ..) S
theorem OB.bool:OB n (.bool b) H b:= .mk fun A s W a R S r Q q=>by cases r;exact YK (q s W (Gr.refl ..) S)
theorem OB.int:OB n (.int i) H (i !=0):= .mk fun A s W a R S r Q q=>by obtain⟨t,rfl⟩:=r;exact P.truthy_int (q s W (Gr.refl ..) S)
theorem OB.str:OB n (.str x) H (x.length !=0):= .mk fun A s W a R S r Q q=>by
 obtain⟨t,rfl,hz⟩:=r;have e:((x.length:Int) !=0)=(x.length !=0):=by cases h:x.length<;>simp;lia
 have hb:Rs<2^62:=dc;exact P.truthy_str (by lia) (e▸q _ W (Gr.dF W s _) (S.tok _))
theorem OB.lst:OB n (.lst l) H (!l.isEmpty):= .mk fun A s W a R S r Q q=>by
 obtain⟨a,vs,m,rfl,i,r,hz⟩:=r;have hb:Rs<2^62:=dc;refine wpAny_truthy_list (aB S i) (by refine J RI (J r.length ?_);lia) ?_;have e:(!vs.toArray.isEmpty)= !l.isEmpty:=by
  have:=r.length;cases vs<;>cases l<;>simp_all
 exact e▸q _ W (Gr.dF W s _) (S.tok _)
theorem OB.ai(hi:H[i]?=some (some (.list l))):OB n (.ref i) H (!l.isEmpty):= .mk fun A s W a R S r Q q=>by
 obtain⟨a,rfl,p⟩:=r;obtain⟨a',p',_,vs,m,ho,r,hz⟩:=S.live i _ hi;replace p':=p▸p';cases p';have hb:Rs<2^62:=dc;refine wpAny_truthy_list ⟨_,ho,rfl,m,rfl⟩ (by refine J RI (J r.length ?_);lia) ?_;have e:(!vs.toArray.isEmpty)= !l.isEmpty:=by
  have:=r.length;cases vs<;>cases l<;>simp_all
 exact e▸q _ W (Gr.dF W s _) (S.tok _)
theorem j4.neg:j4 n (unaryOp .USub) (.int i) H (.int (-i)) H:= .mk fun A s W a R S r Q q=>by
 obtain⟨t,rfl⟩:=r;exact P.neg_int (q _ _ W (Gr.dF W s _) (S.tok _) ⟨_,rfl⟩)
end
section
variable{n:Nat}{F:Fx}{ρ an cV:Loc}{H H1 H2 H3 H4 H5:AH}{g:Fl}
noncomputable abbrev KO(H:AH)(x:V)(T:String):Prop:=∀s W v,ao W H s→Rel W x v→s.TypeIs v T
@[irreducible] noncomputable def Ty (H:AH) (x:V) (T:String):Prop:=KO H x T
theorem Ty.mk{H x T}(h:KO H x T):Ty H x T:=by delta Ty;exact h
theorem Ty.run{H x T}(h:Ty H x T):KO H x T:=by delta Ty at h;exact h
theorem Ty.str:Ty H (.str x) "str":= .mk fun _ _ _ _ r=>by obtain⟨t,rfl,_⟩:=r;exact TZ _ _ _
theorem Ty.lst:Ty H (.lst l) "list":= .mk fun _ _ _ S r=>by obtain⟨a,vs,m,rfl,i,_⟩:=r;exact(aB S i).typeIs
theorem Ty.tup:Ty H (.tup l) "tuple":= .mk fun _ _ _ S r=>by obtain⟨a,vs,m,rfl,i,_⟩:=r;exact(fS S i).typeIs
theorem Ty.bx:Ty H (.bx l) "dict":= .mk fun _ _ _ S r=>by obtain⟨a,vs,m,rfl,i,_⟩:=r;exact⟨_,S.cr _ _ i,rfl⟩
theorem Ty.ai(hi:H[i]?=some (some (.list l))):Ty H (.ref i) "list":= .mk fun _ _ _ S r=>by
 obtain⟨a,rfl,p⟩:=r;obtain⟨a',p',_,vs,m,ho,r,hz⟩:=S.live i _ hi;replace p':=p▸p';cases p';exact⟨_,ho,rfl⟩
theorem Ty.iY(hi:H[i]?=some (some (.dict l))):Ty H (.ref i) "dict":= .mk fun _ _ _ S r=>by
 obtain⟨a,rfl,p⟩:=r;obtain⟨a',p',_,vs,m,ho,r,hz⟩:=S.live i _ hi;replace p':=p▸p';cases p';exact⟨_,ho,rfl⟩
theorem ur{o i}{T id}{Q}{E}(hT:s.TypeIs o T)
  (hl:VO (.type T) "__getitem__"=pure (some (.builtin id))) (h:wpAny (model prog w) A (Vx o i) Q E s):wpAny (model prog w) A (subscriptTail value slice o i) Q E s:=by
 refine Rh (J (getitemInPython_of_ne hT.not_modules) ?_);refine bY hT hl ?_;have fin:∀ops,wpAny (model prog w) A (operate ops (Vx o i)) (fun r gv=>wpAny (model prog w) A (letTemporaryGo value o r>>=fun _=>pure r) Q E gv) E s:=
  fun ops=>wpAny_operating (RM h (fun r gv ng=>Rh (wpAny_letTemporaryGo (Rj ng))) fun _ _ x=>x)
 refine Rj (Rh ?_);cases slice with
 |Slice _ _ c _=>cases c<;>exact fin _
 |_=>exact fin _
theorem ET.sub{x y z}{T id}(hv:ET n F value ρ H x H1)(hs:ET n F slice ρ H1 y H2)(hT:Ty H2 x T)
  (hl:VO (.type T) "__getitem__"=pure (some (.builtin id))) (ho:OT n Vx x y H2 z H3):ET n F (.Subscript value slice pos) ρ H z H3:=by
 refine .mk fun A s W env R S E f Q q=>(Subscript_ (hv.run A s W env R S E f _ fun a s1 W1 G1 S1 r1=>hs.run A s1 W1 env R S1 E (f.step G1) _ fun b s2 W2 G2 S2 r2=> ?_));exact ur (hT.run s2 W2 a S2 (r1.mono G2.le)) hl (ho.run A s2 W2 a b R S2 (r1.mono G2.le) r2 _ fun v s3 W3 G3 S3 r3=>q v s3 W3 ((G1.trans G2).trans G3) S3 r3)
noncomputable abbrev KP(n:Nat)(F:Fx)(e:Option Tk)(ρ:Loc)(H:AH)(k:Option Int):Prop:=∀A s W env,aC A n→ao W H s→aA F env→cR W ρ env s.heap→
    ∀Q,(∀v s' W',Gr ct W s W' s'→ao W' H s'→IsPart v k→Q v s')→wpAny (model prog w) A (evalPart e env) Q aY s
@[irreducible] noncomputable def PT (n:Nat) (F:Fx) (e:Option Tk) (ρ:Loc) (H:AH) (k:Option Int):Prop:=KP n F e ρ H k
theorem PT.mk{n F e ρ H k}(h:KP n F e ρ H k):PT n F e ρ H k:=by delta PT;exact h
theorem PT.run{n F e ρ H k}(h:PT n F e ρ H k):KP n F e ρ H k:=by delta PT at h;exact h
theorem PT.none:PT n F RB ρ H RB:= .mk fun _ s W _ _ S _ _ _ q=>Rj (q _ s W (Gr.refl ..) S .none)
theorem PT.some(h:ET n F e ρ H (.int i) H):PT n F (abz e) ρ H (abz i):= .mk fun A s W env R S E f Q q=>
 h.run A s W env R S E f _ fun v s1 W1 G1 S1 r1=>by obtain⟨t,rfl⟩:=r1;exact q _ s1 W1 G1 S1 (.int i t)
noncomputable abbrev KQ(n:Nat)(x:V)(lo hi st:Option Int)(H:AH)(z:V)(H':AH):Prop:=∀A s W o a(vl vu vs:Value),aC A n→ao W H s→Rel W x o→s.heap.IsSliceOf a vl vu vs→IsPart vl lo→IsPart vu hi→IsPart vs st→
    ∀Q,(∀v s' W',Gr ct W s W' s'→ao W' H' s'→Rel W' z v→Q v s')→wpAny (model prog w) A (Vx o (.ref a)) Q aY s
@[irreducible] noncomputable def GT (n:Nat) (x:V) (lo hi st:Option Int) (H:AH) (z:V) (H':AH):Prop:=KQ n x lo hi st H z H'
theorem GT.mk{n x lo hi st H z H'}(h:KQ n x lo hi st H z H'):GT n x lo hi st H z H':=by delta GT;exact h
theorem GT.run{n x lo hi st H z H'}(h:GT n x lo hi st H z H'):KQ n x lo hi st H z H':=by delta GT at h;exact h
theorem ao.cn(S:ao W H s) o:ao W H {s with heap:=s.heap.push o}:=S.same (fun _ _ e _=>Rp _ e) S.bare
theorem Gr.cn W s o:Gr X W s W {s with heap:=s.heap.push o}:=
 ⟨W.le_refl,fun _ h=> .inl h,fun _ _ h=> .inl h,fun _ _ e _ _=>Rp _ e,fun a h _=>bt (fun _ _ e=>Rp _ e) a h,rfl,fun _ _ h=>h⟩
theorem ET.slice{lo hi st}{p pos}{x z}{k1 k2 k3}{T id}(hv:ET n F value ρ H x H1)(h1:PT n F lo ρ H1 k1)(h2:PT n F hi ρ H1 k2)(h3:PT n F st ρ H1 k3)
  (hT:Ty H1 x T) (hl:VO (.type T) "__getitem__"=pure (some (.builtin id))) (ho:GT n x k1 k2 k3 H1 z H2):
  ET n F (.Subscript value (.Slice lo hi st p) pos) ρ H z H2:=by
 refine .mk fun A s W env R S E f Q q=>(Subscript_ (hv.run A s W env R S E f _ fun a s1 W1 G1 S1 r1=> ?_));have f1:=f.step G1;refine wpAny_Slice (h1.run A s1 W1 env R S1 E f1 _ fun v2 s2 W2 G2 S2 p2=>h2.run A s2 W2 env R S2 E (f1.step G2) _ fun v3 s3 W3 G3 S3 p3=>h3.run A s3 W3 env R S3 E ((f1.step G2).step G3) _ fun v4 s4 W4 G4 S4 p4=> ?_);have G:=(G2.trans G3).trans G4;have r:=r1.mono G.le;have S5:=S4.cn {cls:= .type "slice",data:= .fields #[v2,v3,v4]};refine ur (hT.run _ W4 a S5 r) hl (ho.run A _ W4 a _ v2 v3 v4 R S5 r (Yz ..) p2 p3 p4 _ fun v s6 W6 G6 S6 r6=>q v s6 W6 (((G1.trans G).trans (Gr.cn W4 s4 {cls:= .type "slice",data:= .fields #[v2,v3,v4]})).trans G6) S6 r6)
theorem ak.get:∀{l}{vs}{i:Nat}{x},ak W l vs→l[i]?=some x→∃v,vs[i]?=some v∧Rel W x v
 |_::_,_,0,_,⟨v,_,e,r,_⟩,h=>by subst e;cases h;exact⟨v,rfl,r⟩
 |_::_,_,i+1,_,⟨v,_,e,_,r⟩,h=>by subst e;exact ak.get (i:=i) r h
theorem ak.drop:∀{l}{vs} k,ak W l vs→ak W (l.drop k) (vs.drop k)
 |_,_,0,r=>r
 |[],_,_+1,r=>by cases r;rfl
 |_::_,_,k+1,⟨v,_,e,_,r⟩=>by subst e;exact ak.drop k r
theorem ak.take:∀{l}{vs} k,ak W l vs→ak W (l.take k) (vs.take k)
 |_,_,0,_=>rfl
 |[],_,_+1,r=>by cases r;rfl
 |_::_,_,k+1,⟨v,us,e,a,r⟩=>by subst e;exact⟨v,us.take k,rfl,a,ak.take k r⟩
theorem seqIndex_nonneg{m i:Nat}(h:k=(i:Int))(hi:i<m):We k m=some i:=by
 subst h;unfold We;simp only[F3,if_false];simp;exact hi
theorem OT.a9{k}{i:Nat}{x}(hk:k=(i:Int))(hx:l[i]?=some x):OT n Vx (.lst l) (.int k) H x H:=by
 refine .mk fun A s W a b R S ra rb Q q=> ?_;obtain⟨a,vs,m,rfl,im,r,hz⟩:=ra;obtain⟨t,rfl⟩:=rb;obtain⟨v,hv,rv⟩:=r.get hx;have hl:=(Ru.mp hx).1;have hb:Rs<2^62:=dc;exact abu (aB S im) (by lia) (by lia) (by subst hk;simpa using hv) (q v s W (Gr.refl ..) S rv)
theorem OT.eB{k}{i:Nat}{x}(hk:k=(i:Int)-l.length)(hx:l[i]?=some x):OT n Vx (.lst l) (.int k) H x H:=by
 refine .mk fun A s W a b R S ra rb Q q=> ?_;obtain⟨a,vs,m,rfl,im,r,hz⟩:=ra;obtain⟨t,rfl⟩:=rb;obtain⟨v,hv,rv⟩:=r.get hx;have hl:=(Ru.mp hx).1;have hb:Rs<2^62:=dc;have hlen:=r.length;refine aan (aB S im) (by lia) (by simp;lia) (by lia) ?_ (q v s W (Gr.refl ..) S rv);have e:(k+vs.toArray.size).toNat=i:=by simp;lia
 refine J e ?_;simpa using hv
theorem OT.pT{k}{i:Nat}{x}(hj:H[j]?=some (some (.list l)))(hk:k=(i:Int))(hx:l[i]?=some x):OT n Vx (.ref j) (.int k) H x H:=by
 refine .mk fun A s W a b R S ra rb Q q=> ?_;obtain⟨a,rfl,p⟩:=ra;obtain⟨a',p',_,vs,m,ho,r,hz⟩:=S.live j _ hj;replace p':=p▸p';cases p';obtain⟨t,rfl⟩:=rb;obtain⟨v,hv,rv⟩:=r.get hx;have hl:=(Ru.mp hx).1;have hb:Rs<2^62:=dc;exact abu ⟨_,ho,rfl,m,rfl⟩ (by lia) (by lia) (by subst hk;simpa using hv) (q v s W (Gr.refl ..) S rv)
theorem OT.dg{k}{i:Nat}{x}(hj:H[j]?=some (some (.list l)))(hk:k=(i:Int)-l.length)(hx:l[i]?=some x):OT n Vx (.ref j) (.int k) H x H:=by
 refine .mk fun A s W a b R S ra rb Q q=> ?_;refine Rg fun kG=> ?_;obtain⟨a,rfl,p⟩:=ra;obtain⟨a',p',_,vs,m,ho,r,hz⟩:=S.live j _ hj;replace p':=p▸p';cases p';obtain⟨t,rfl⟩:=rb;obtain⟨v,hv,rv⟩:=r.get hx;refine kG ?_;have hl:=(Ru.mp hx).1;have hb:Rs<2^62:=dc;have hlen:=r.length;refine aan ⟨_,ho,rfl,m,rfl⟩ (by lia) (by simp;lia) (by lia) ?_ (q v s W (Gr.refl ..) S rv);have e:(k+vs.toArray.size).toNat=i:=by simp;lia
 refine J e ?_;simpa using hv
theorem OT.item_tup{k}{i}{x}(hk:We k l.length=some i)(hx:l[i]?=some x)(h0:autoParam (-(2^63)≤k) aD)(h1:autoParam (k<2^63) aD):OT n Vx (.tup l) (.int k) H x H:=by
 refine .mk fun A s W a b R S ra rb Q q=> ?_;obtain⟨a,vs,m,rfl,im,r,hz⟩:=ra;obtain⟨t,rfl⟩:=rb;obtain⟨v,hv,rv⟩:=r.get hx;exact P.getItem_tuple (S.cr _ _ im) h0 h1 (by refine J RI (J r.length ?_);exact hk) (by simpa using hv) (q v s W (Gr.refl ..) S rv)
theorem OT.item_str{k}{c}(hc:(We k x.length).bind (x.cps[·]?)=some c)(hr:(decide (k< -(2^63:Int))||decide (k≥2^63))=false):OT n Vx (.str x) (.int k) H (.str ⟨#[c]⟩) H:=by
 refine .mk fun A s W a b R S ra rb Q q=> ?_;obtain⟨t,rfl,_⟩:=ra;obtain⟨u,rfl⟩:=rb;exact P.getItem_str hr hc (q _ _ W (Gr.dF W s _) (S.tok _) ⟨_,rfl,by show 1≤Rs;decide⟩)
noncomputable def cut(lo hi:Option Int)(l:List V):List V:=(l.drop (lo.elim 0 (Yj l.length))).take (hi.elim l.length (Yj l.length)-lo.elim 0 (Yj l.length))
theorem lC l(k:Nat):cut RB (some k) l=l.take k:=by
 unfold cut Yj;rw[XY,XX,VG,Yc,if_neg F3,CO,List.take_eq_take_iff,Nat.min_assoc,Nat.min_self]
theorem gG l(k:Nat):cut (some k) RB l=l.drop k:=by
 unfold cut Yj;rw[XY,XX,if_neg F3,CO];rcases Yh k l.length with h|h
 ·rw[YL h,Tc (VV▸Ri _)]
 ·rw[Yv h,Zw h,Zw (Ri _),List.take_nil]
theorem GT.lst{lo hi}:GT n (.lst l) lo hi none H (.lst (cut lo hi l)) H:=by
 refine .mk fun A s W o a vl vu vs R S r hs pl pu ps Q q=> ?_;obtain⟨a,us,m,rfl,im,r,hz⟩:=r;have hlen:=r.length;refine ZX (aB S im) hs pl pu ps dc ?_ (ap (bD hlen) hz);refine J (slicePick_plain ..) ?_;simp only[RI,hlen];obtain⟨S2,G2⟩:=S.put (fR "list" ((us.drop (lo.elim 0 (Yj l.length))).take (hi.elim l.length (Yj l.length)-lo.elim 0 (Yj l.length))) 0);refine q _ _ _ G2 S2 ⟨_,_,0,rfl,Wd.al ..,((r.drop _).take _).mono G2.le, ?_⟩;exact Rq (List.length_take_le' ..) (VV▸Rq (Nat.sub_le ..) hz)
end
section
variable{n:Nat}{F:Fx}{ρ an cV:Loc}{H H1 H2 H3 H4 H5:AH}{g:Fl}
noncomputable def bX(W:Wd):List (RN×V)→List (RN×Value)→Prop
 |[],bs=>bs=[]
 |(k,x)::l,bs=>∃v r,bs=(k,v)::r∧Rel W x v∧bX W l r
theorem bX.mono(h:W.le W'):∀{l}{bs},bX W l bs→bX W' l bs
 |[],_,r=>r
 |(_,_)::_,_,⟨v,r,e,a,b⟩=>⟨v,r,e,a.mono h,bX.mono h b⟩
theorem bX.names:∀{l}{bs},bX W l bs→bs.map (·.1)=l.map (·.1)
 |[],_,r=>by cases r;rfl
 |(_,_)::_,_,⟨v,r,e,_,b⟩=>by subst e;simp[bX.names b]
theorem bX.get:∀{bs},bX W l bs→l.lookup k=some x→∃v,bs.lookup k=some v∧Rel W x v:=by
 induction l with
 |nil=>intro _ _ h;cases h
 |cons p l ih=>
  obtain⟨k',y⟩:=p;rintro _ ⟨v,r,e,a,b⟩ h;subst e;rw[lookup_cons] at h;by_cases hk:k=k'
  ·subst hk;replace h:=(if_pos rfl)▸h;cases h;exact⟨v,List.lookup_cons_self,a⟩
  ·rw[if_neg hk] at h;exact J Sc (J (beq_eq_false_iff_ne.mpr hk) ((ih b h)))
theorem ow kind bs:∀m k v,(bs.map (·.1)).Nodup→bs.lookup k=some v→kind k=some .local→bindL kind bs m k=some v:=by
 induction bs with
 |nil=>intro _ _ _ _ h;cases h
 |cons p r ih=>
  obtain⟨k',v'⟩:=p;intro m k v hn h hk;rw[RD,SG] at hn;show bindL kind r _ k=_;rw[Sc] at h;by_cases e:k=k'
  ·subst e;rw[beq_self_eq_true] at h;cases h;refine J (if_pos hk) ?_;have:∀r m,k∉r.map (·.1)→m k=some v'→bindL kind r m k=some v':=by
    intro r
    induction r with
    |nil=>intro m _ h;exact h
    |cons p r ih=>
     intro m hn h;obtain⟨a,b⟩:=p;rw[RD,Rt,not_or] at hn;refine ih _ hn.2 (bn (fun _=> ?_) fun _=> ?_)
     ·simp[hn.1,h]
     ·exact h
   exact this r _ hn.1 (by simp)
  ·rw[beq_eq_false_iff_ne.mpr e] at h;exact ih _ k v hn.2 h hk
theorem iZ kind:∀bs m k v,(bs.map (·.1)).Nodup→bs.lookup k=some v→kind k≠some .local→bindC kind bs m k=some v
 |[],_,_,_,_,h,_=>by cases h
 |(k',v')::r,m,k,v,hn,h,hk=>by
  rw[RD,SG] at hn;unfold bindC;rw[Sc] at h;by_cases e:k=k'
  ·subst e;simp at h;subst h;refine J (if_neg hk) ?_;have:∀r m,k∉r.map (·.1)→m k=some v'→bindC kind r m k=some v':=by
    intro r
    induction r with
    |nil=>intro m _ h;exact h
    |cons p r ih=>
     intro m hn h;obtain⟨a,b⟩:=p;rw[RD,Rt,not_or] at hn;refine ih _ hn.2 (bn (fun _=> ?_) fun _=> ?_)
     ·exact h
     ·simp[hn.1,h]
   exact this r _ hn.1 (by simp)
  ·rw[(show(k==k')=false by simpa using e)] at h;exact iZ kind r _ k v hn.2 h hk
noncomputable def Binds(fd:abb)(xs:List V)(ks:List (RN×V))(bs:List (RN×V)):Prop:=
 ∀h W vs kv,(∀a o,br a=some o→h.get? a=some o)→ak W xs vs→bX W ks kv→∃b,Looks (model prog w) h (SV fd ⟨vs,kv⟩) b∧bX W bs b
structure Fn a fd:Prop where
 at_:∃o,br a=some o∧o.data= .func fd
 code:∀h:VN,(∀a o,br a=some o→h.get? a=some o)→h.CodeRec fd.code fd.qualname
 F5:fd.closure=[]
 co:fd.scope.isCoroutine=false
 gen:fd.scope.isGenerator=false
 kind:fd.scope.kind= .function
 glob:fd.globals=mainGlobals
 F6:fd.builtins=builtinsNs
noncomputable def Fl.out:Fl→V
 | .next=> .none
 | .ret x=>x
theorem oy:∀{ks}{kv},kv.map (·.1)=ks.map (·.1)→ak W (ks.map (·.2)) (kv.map (·.2))→bX W ks kv
 |[],[],_,_=>rfl
 |[],_::_,h,_=>by cases h
 |_::_,[],h,_=>by cases h
 |(k,x)::ks,(k',v)::kv,h,r=>by
  simp only[RD,Ug] at h;obtain⟨u,us,e,r1,r2⟩:=r;simp only[RD,Ug] at e;obtain⟨e1,e2⟩:=e;subst e1 e2;obtain⟨h1,h2⟩:=h;subst h1;exact⟨_,_,rfl,r1,oy h2 r2⟩
theorem bc:∀names k acc x,(names.lookup x=some .cell∨(acc.lookup x).isSome=true)→((cellsFrom k names acc).lookup x).isSome=true
 |[],_,acc,x,h=>by
  rcases h with h|h
  ·cases h
  ·exact h
 |(y,kd)::r,k,acc,x,h=>by
  unfold cellsFrom;refine bn (fun _=> ?_) fun _=> ?_
  ·refine bc r _ _ x ?_;by_cases e:x=y
   ·subst e;exact .inr (by simp)
   ·have e':(x==y)=false:=by simpa using e
    rw[Sc,e'] at h;exact J Sc (J e' ((h)))
  ·rename_i hk;refine bc r _ _ x ?_;rcases h with h|h
   ·by_cases e:x=y
    ·subst e;simp at h;subst h;exact absurd rfl hk
    ·rw[Sc,(show(x==y)=false by simpa using e)] at h;exact .inl h
   ·exact .inr h
theorem hO{fd}{a}{bs}{b}(S:ao W H s)(hn:(bs.map (·.1)).Nodup)(r:bX W bs b)
  (hk:∀x∈bs.map (·.1),fd.scope.names.lookup x=some .local∨fd.scope.names.lookup x=some .cell)
  (x:InCallC s (callEnvC fd s.heap.objs.size a).locals (bindL (callEnvC fd s.heap.objs.size a).kindOf b fun _=>none) (callEnvC fd s.heap.objs.size a).cells (bindC (callEnvC fd s.heap.objs.size a).kindOf b fun _=>none) s') (ht:s.toks≤s'.toks):
  cR W bs (callEnvC fd s.heap.objs.size a) s'.heap∧ao W H s'∧Gr ct W s W s':=by
 have Nl:=r.names▸hn;have keep:=x.toInCall.keep;obtain⟨h',tk,e⟩:=x.toInCall.same;have S':ao W H s':=by subst e;exact S.same (fun c o hc _=>keep c o hc) S.bare ht
 have G':Gr ct W s W s':=by subst e;exact⟨W.le_refl,fun _ h=> .inl h,fun _ _ h=> .inl h,fun c o hc _ _=>keep c o hc,fun a h _=>bt keep a h,rfl,fun _ _ h=>h⟩
 have big:=fun c hc=>S.fresh (by
  cases q:s.heap.get? c with
  |none=>rfl
  |some o=>exact absurd (RV q) (T8.mpr hc))
 have GS:∀y,(callEnvC fd s.heap.objs.size a).kindOf y=fd.scope.names.lookup y:=fun _=>rfl;refine⟨⟨⟨_,x.toInCall.ns,fun y z hy hl=> ?_⟩,fun y z hy=> ?_,fun y z hy hl=> ?_,fun y hl=> ?_,(S.fresh (af s.heap)),fun y c hc=> ?_,fun y y' c h1 h2=> ?_⟩,S',G'⟩
 ·obtain⟨v,h1,h2⟩:=r.get hy;exact⟨v,ow _ b _ y v Nl h1 hl,h2⟩
 ·refine J (GS ..) ?_;rcases hk y (Rz.mpr ⟨(y,z),mem_of_lookup hy,rfl⟩) with q|q
  ·exact .inl q
  ·exact .inr (.inl q)
 ·obtain⟨v,h1,h2⟩:=r.get hy;rcases hk y (Rz.mpr ⟨(y,z),mem_of_lookup hy,rfl⟩) with q|q
  ·exact absurd q hl
  ·obtain⟨c,hc⟩:=TS.mp (bc fd.scope.names (s.heap.objs.size+1) [] y (.inl q));have:=x.cell y c hc;rw[iZ _ b _ y v Nl h1 hl] at this;exact⟨c,v,hc,this,h2⟩
 ·obtain⟨c,hc⟩:=TS.mp (bc fd.scope.names (s.heap.objs.size+1) [] y (.inl hl));exact⟨c,_,hc,x.cell y c hc⟩
 ·have cg:=x.above y c (mem_of_lookup hc);have:=big c (TC cg);refine⟨this.1,this.2,fun q=> ?_, ?_⟩
  ·exact absurd q (Tq cg)
  ·obtain⟨o,ho,_⟩:=x.cell y c hc;exact ho▸nofun
 ·exact name_of_addr x.apart (mem_of_lookup h1) (mem_of_lookup h2)
noncomputable abbrev KR(n:Nat)(f:V)(xs:List V)(ks:List (RN×V))(H:AH)(x:V)(H':AH):Prop:=∀A s W fv vs kv,aC A n→ao W H s→Rel W f fv→ak W xs vs→
    kv.map (·.1)=ks.map (·.1)→ak W (ks.map (·.2)) (kv.map (·.2))→
    ∀Q:Value→RT→Prop,(∀v s' W',Gr ct W s W' s'→ao W' H' s'→Rel W' x v→Q v s')→
     Tt (model prog w) A (.call fv ⟨vs,kv⟩) (fun r s'=>match r with| .ok (.ret v)=>Q v s'| .ok _=>False| .error e=>aY e s') s
@[irreducible] noncomputable def CC (n:Nat) (f:V) (xs:List V) (ks:List (RN×V)) (H:AH) (x:V) (H':AH):Prop:=KR n f xs ks H x H'
theorem CC.mk{n f xs ks H x H'}(h:KR n f xs ks H x H'):CC n f xs ks H x H':=by delta CC;exact h
theorem CC.run{n f xs ks H x H'}(h:CC n f xs ks H x H'):KR n f xs ks H x H':=by delta CC at h;exact h
theorem CC.def(K:Fn a fd)(lim:∀h:VN,(∀a o,br a=some o→h.get? a=some o)→h.NoLimit)
  (hb:fd.body= .stmts body) (hB:Binds fd xs ks bs) (hn:(bs.map (·.1)).Nodup) (hk:∀x∈bs.map (·.1),fd.scope.names.lookup x=some .local∨fd.scope.names.lookup x=some .cell)
  (h:ag n ⟨fd.scope.names,fd.code,true,some (fd.qualname++".<locals>.")⟩ body bs H g an H1):CC (n+1) (.st (.ref a)) xs ks H g.out H1:=by
 refine .mk fun A s W fv vs kv R S rf rx c8 sm Q q=> ?_;cases rf;refine Rg fun kG=> ?_;obtain⟨o,ho,hd⟩:=K.at_;obtain⟨b,hL,CS⟩:=hB s.heap W vs kv S.ground rx (oy c8 sm);refine kG (aaA R.lt (S.ground _ _ ho) hd K.co K.gen hb (K.code _ S.ground) (hL.here ?_));refine J K.F5 (wpAny_toks (Vb K.kind (fun y hy=> ?_) fun env he s' x ht=> ?_))
 ·rcases hk _ (CS.names▸Rz.mpr ⟨y,hy,rfl⟩) with q|q
  ·exact .inl q
  ·exact .inr ⟨q,bc _ _ _ _ (.inl q)⟩
 ·have vE:env=callEnvC fd s.heap.objs.size a:=he;subst vE;obtain⟨f,S',G'⟩:=hO S hn CS hk x ht;refine⟨lim _ S'.ground,codeAny_func ?_⟩;refine RM (h.run (A.deeper _) s' W _ (R.deeper _) S' (⟨rfl,K.kind,K.glob,K.F6,rfl,K.co,(fun _ y c _ hc=>x.above y c (mem_of_lookup hc)),(fun q h=>by cases h;rfl)⟩) f (fun fl s2=>Q (match fl with| .ret v=>v|_=> .none) s2) fun fl s2 W2 G2 S2 f2 r2=> ?_) (fun fl s2 h2=> ?_) fun _ _ e=>e.elim
  ·have G3:Gr ct W s W2 s2:=by
    refine G'.base G2 fun x o h=> ?_;rcases o with o|⟨_,y,hy,o⟩
    ·rw[o] at h;exact absurd (af _) h
    ·have cg:=‹InCallC s _ _ _ _ s'›.above y x (mem_of_lookup o);cases q:s.heap.get? x with
     |none=>exact absurd q h
     |some o=>exact absurd (RV q) (T8.mpr (TC cg))
   cases g with
   |next=>cases r2;exact q _ s2 W2 G3 S2 rfl
   |ret z=>obtain⟨v,e,r⟩:=r2;subst e;exact q _ s2 W2 G3 S2 r
  ·cases fl<;>exact h2
theorem CT.GU{xs}{ks}(h:CC n f xs ks H x H1):CT n f xs ks H x H1:= .mk fun A s W fv vs kv R S rf rx c8 sm Q q=>
 Vk (h.run A s W fv vs kv R S rf rx c8 sm Q q)
theorem CT.def(K:Fn a fd)(lim:∀h:VN,(∀a o,br a=some o→h.get? a=some o)→h.NoLimit)
  (hb:fd.body= .stmts body) (hB:Binds fd xs ks bs) (hn:(bs.map (·.1)).Nodup) (hk:∀x∈bs.map (·.1),fd.scope.names.lookup x=some .local∨fd.scope.names.lookup x=some .cell)
  (h:ag n ⟨fd.scope.names,fd.code,true,some (fd.qualname++".<locals>.")⟩ body bs H g an H1):CT (n+1) (.st (.ref a)) xs ks H g.out H1:= .GU (CC.def K lim hb hB hn hk h)
end
section
variable{n:Nat}{F:Fx}{ρ an cV:Loc}{H H1 H2 H3 H4 H5:AH}{g:Fl}
noncomputable def Kp(v:Value)(h:VN):Prop:=∃k,(k=Keeper.frame∨k=Keeper.machine∨k=Keeper.boundFrame)∧Looks (model prog w) h (keeperOf v) k
noncomputable abbrev Ed(f:V):Prop:=∀s W H v,ao W H s→Rel W f v→Kp v s.heap
@[irreducible] noncomputable def aM (f:V):Prop:=Ed f
theorem aM.mk{f}(h:Ed f):aM f:=by delta aM;exact h
theorem aM.run{f}(h:aM f):Ed f:=by delta aM at h;exact h
theorem aM.builtin{id}:aM (.st (.builtin id)):= .mk fun _ _ _ _ _ r=>by cases r;exact⟨.machine, .inr (.inl rfl),Up rfl⟩
theorem aM.type:aM (.st (.type T)):= .mk fun _ _ _ _ _ r=>by cases r;exact⟨.machine, .inr (.inl rfl),Up rfl⟩
theorem aM.def(K:Fn a fd):aM (.st (.ref a)):= .mk fun s W H v S r=>by
 cases r;obtain⟨o,ho,hd⟩:=K.at_;refine⟨.frame, .inl rfl,(Xj (S.ground _ _ ho)).andThen ?_⟩;exact hd▸ .now
theorem aM.bm{id}{x}:aM (.bm id x):= .mk fun s W H v S r=>by
 obtain⟨a,u,rfl,i,_⟩:=r;refine⟨.machine, .inr (.inl rfl),(Xj (S.cr _ _ i)).andThen ?_⟩;exact Up rfl
theorem aM.pm(K:Fn f fd):aM (.pm f x):= .mk fun s W H v S r=>by
 obtain⟨a,u,rfl,i,_⟩:=r;obtain⟨o,ho,hd⟩:=K.at_;refine⟨.boundFrame, .inr (.inr rfl),(Xj (S.cr _ _ i)).andThen ?_⟩;exact(Xj (S.ground _ _ ho)).andThen (hd▸ .now)
theorem cw{W}{env}{f}{pos}{es}{xs}(h:ab n F pos es ρ H xs H1)(R:aC A n)(S:ao W H s)(E:aA F env)(fr:cR W ρ env s.heap)
  (hp:(backTo pos (starEach es env)).any (·.1)=false) {Q}
  (q:∀vs s' W',Gr ct W s W' s'→ao W' H1 s'→ak W' xs vs→Q ⟨vs,[]⟩ s'):wpAny (model prog w) A (evalArgs f true (backTo pos (starEach es env)) []) Q aY s:=by
 have h':=h.run A s W env R S E fr (fun vs s'=>Q ⟨vs,[]⟩ s') q;generalize backTo pos (starEach es env)=l at h' hp;cases l with
 |nil=>
  refine Rh (RM h' (fun vs s1 h1=> ?_) fun _ _ e=>e.elim);refine bP (wpAny_holding ?_);exact bP (bP (Rj h1))
 |cons p l=>
  obtain⟨b,x⟩:=p;have hb:b=false:=by simp at hp;exact hp.1
  subst hb;exact WZ h'
theorem ET.call{pos}{f z}{xs}(hf:ET n F func ρ H f H1)(ha:ab n F pos args ρ H1 xs H2)(hk:aM f)(hc:CT n f xs [] H2 z H3)
  (he:autoParam (∀env,eval (.Call func args [] pos) env=(do UT pos (←eval func env) [] (backTo pos (starEach args env)) (backToKw pos (keywordEach [] env)))) aI)
  (hp:autoParam (∀env,(backTo pos (starEach args env)).any (·.1)=false) aI):ET n F (.Call func args [] pos) ρ H z H3:=by
 refine .mk fun A s W env R S E fr Q q=>(J (he env) ?_);refine Rh (hf.run A s W env R S E fr _ fun fv s1 W1 G1 S1 r1=> ?_);show wpAny _ _ (UT pos fv [] (backTo pos (starEach args env)) []) Q aY s1;refine UV (P:=Kp fv) (by simp[hp env]) (fun _ h=>h) (cw ha R S1 E (fr.step G1) (hp env) fun vs s2 W2 G2 S2 r2=>⟨hk.run s2 W2 _ fv S2 (r1.mono G2.le), ?_⟩);exact hc.run A s2 W2 fv vs [] R S2 (r1.mono G2.le) r2 rfl rfl Q fun v s3 W3 G3 S3 r3=>q v s3 W3 ((G1.trans G2).trans G3) S3 r3
noncomputable abbrev KS(n:Nat)(x:V)(name:RN)(H:AH)(f:V)(first:List V)(H':AH):Prop:=∀A s W v pl,aC A n→ao W H s→Rel W x v→
    ∀Q,(∀fv fs s' W',Gr ct W s W' s'→ao W' H' s'→Rel W' f fv→ak W' first fs→Q (fv,fs) s')→wpAny (model prog w) A (Za v name pl) Q aY s
@[irreducible] noncomputable def GM (n:Nat) (x:V) (name:RN) (H:AH) (f:V) (first:List V) (H':AH):Prop:=KS n x name H f first H'
theorem GM.mk{n x name H f first H'}(h:KS n x name H f first H'):GM n x name H f first H':=by delta GM;exact h
theorem GM.run{n x name H f first H'}(h:GM n x name H f first H'):KS n x name H f first H':=by delta GM at h;exact h
theorem ET.aT{name}{args}{apos pos}{x f z}{first xs}(ho:ET n F o ρ H x H1)(hg:GM n x name H1 f first H2)(ha:ab n F pos args ρ H2 xs H3)
  (hk:aM f) (hc:CT n f (first++xs) [] H3 z H4)
  (pl:Env→Y3 Bool:=fun env=>(do return (←Zj o env).getD true))
  (he:autoParam (∀env,eval (.Call (.Attribute o name apos) args [] pos) env=(do
   let ov ←eval o env
   standAt apos.atName
   let(f,first) ←holding [ov] (Za ov name (pl env))
   UT pos f first (backTo pos (starEach args env)) [])) aI)
  (hp:autoParam (∀env,(backTo pos (starEach args env)).any (·.1)=false) aI):ET n F (.Call (.Attribute o name apos) args [] pos) ρ H z H4:=by
 refine .mk fun A s W env R S E fr Q q=>(MethodCall_ (ho.run A s W env R S E fr _ fun ov s1 W1 G1 S1 r1=>hg.run A s1 W1 ov _ R S1 r1 _ fun fv fs s2 W2 G2 S2 r2 r3=> ?_) (he env));refine UV (P:=Kp fv) (by simp[hp env]) (fun _ h=>h) (cw ha R S2 E ((fr.step G1).step G2) (hp env) fun vs s3 W3 G3 S3 r4=>⟨hk.run s3 W3 _ fv S3 (r2.mono G3.le), ?_⟩);exact hc.run A s3 W3 fv (fs++vs) [] R S3 (r2.mono G3.le) ((r3.mono G3.le).append r4) rfl rfl Q fun v s4 W4 G4 S4 r5=>q v s4 W4 (((G1.trans G2).trans G3).trans G4) S4 r5
theorem lD{s}{a}{id}{u}{vs}{B}{Sp}{Q E}(ho:s.heap.get? a=some (bq id u))(entry:Xm aaN id=some B)(plain:plainId id=true)
  (KU:∀Q',Q' () s→wpAny (model prog w) A.in1 (XU id ⟨u::vs,[]⟩) Q' E s) (gm:Meets (B ⟨u::vs,[]⟩) Sp) (h:Sp A (wants Q E) s):wpAny (model prog w) A (call (.ref a) vs) Q E s:=by
 refine Vk (SD ?_);refine bL ho (Rh (KU _ (Rj ⟨Uj plain _,SW entry ?_⟩)));rw[Ss plain];exact gm prog w A (wants Q E) s h
end
theorem lE{Q:α→RT→Prop}{E}{s}(h:wpAny (model prog w) A t Q aY s):wpAny (model prog w) A t Q E s:=RM h (fun _ _ h=>h) fun _ _ e=>e.elim
theorem dh{Q:α→RT→Prop}{E}{s}(h:∀Q' E',(∀a s',Q a s'→Q' a s')→(∀e s',E e s'→E' e s')→wpAny M A t Q' E' s):wpAny M A t Q E s:=h Q E (fun _ _ h=>h) fun _ _ h=>h
section
variable{n:Nat}{F:Fx}{ρ an cV hU:Loc}{H H1 H2 H3 H4 H5:AH}{g:Fl}
theorem cR.di{W W'}{s s'}{ρ}{env}(f:cR W ρ env s.heap)(G:Gr X W s W' s')(hl:¬X env.locals)(hc:∀n c,env.cells.lookup n=some c→¬X c):cR W' ρ env s'.heap:=by
 obtain⟨m,hn,hm⟩:=f.m;refine⟨⟨m,nG hn fun o e=>G.heap _ o e f.sep.1 hl,fun n x e k=>let⟨v,a,b⟩:=hm n x e k;⟨v,a,b.mono G.le⟩⟩,f.kind,fun n x e k=> ?_,fun n k=> ?_,am G (ch hn) f.sep hl,fun n c e=> ?_,f.inj⟩
 ·obtain⟨c,v,e1,e2,e3⟩:=f.cell n x e k;exact⟨c,v,e1,eJ e2 fun o e=>G.heap _ o e (f.dD n c e1).1 (hc n c e1),e3.mono G.le⟩
 ·obtain⟨c,v,e1,e2⟩:=f.cells n k;exact⟨c,v,e1,eJ e2 fun o e=>G.heap _ o e (f.dD n c e1).1 (hc n c e1)⟩
 ·obtain⟨a,b,c',d⟩:=f.dD n c e;exact⟨(am G d ⟨a,b⟩ (hc n c e)).1,(am G d ⟨a,b⟩ (hc n c e)).2,c',G.there c d (hc n c e)⟩
noncomputable abbrev PP:=(AH→Prop)×(Tk→Prop)
noncomputable def isTup(e:Tk):Bool:=by
 cases e with
 |Tuple=>exact true
 |_=>exact false
noncomputable def dT(n:Nat)(P:PP)(X:Ud→Prop)(it:Value)(Y:Ud→Prop):List V→Wd→RT→Prop
 |[],W,s=>∀A s1 W1 H1,aC A n→Gr X W s W1 s1→ao W1 H1 s1→P.1 H1→
   wpAny (model prog w) A (UP it) (fun r s2=>r=none∧Gr Y W1 s1 W1 s2∧ao W1 H1 s2) aY s1
 |x::xs,W,s=>∀A s1 W1 H1,aC A n→Gr X W s W1 s1→ao W1 H1 s1→P.1 H1→
   wpAny (model prog w) A (UP it) (fun r s2=>∃v,r=some v∧∀target,P.2 target→wpAny (model prog w) A (Tp target it v)
    (fun _ s3=>∃W3,Gr Y W1 s1 W3 s3∧ao W3 H1 s3∧Rel W3 x v∧dT n P X it Y xs W3 s3) aY s2) aY s1
theorem dT.step{it}{xs}{W W'}{s s'}(f:dT n P X it Y xs W s)(G:Gr X W s W' s'):dT n P X it Y xs W' s':=by
 cases xs with
 |nil=>exact fun A s1 W1 H1 R G1 S1 p=>f A s1 W1 H1 R (G.trans G1) S1 p
 |cons x xs=>exact fun A s1 W1 H1 R G1 S1 p=>f A s1 W1 H1 R (G.trans G1) S1 p
noncomputable abbrev KV(n:Nat)(F:Fx)(P:PP)(target:Tk)(body orelse:List Vy)(xs:List V)(ρ:Loc)(H:AH)(f:Fl)(ρ':Loc)(H':AH):Prop:=∀A s W env it Y,aC A n→ao W H s→aA F env→cR W ρ env s.heap→
    (¬Y env.locals)→(∀n c,env.cells.lookup n=some c→¬Y c)→dT n P (own env) it Y xs W s→
    ∀Q:Flow→RT→Prop,(∀g s' W',Gr (fun a=>own env a∨Y a) W s W' s'→ao W' H' s'→cR W' ρ' env s'.heap→f.rel W' g→Q g s')→
     Tt (model prog w) A (.forLoop target it body orelse env) (fun r s'=>∃g,r= .ok g∧Q g s') s
@[irreducible] noncomputable def XF (n:Nat) (F:Fx) (P:PP) (target:Tk) (body orelse:List Vy) (xs:List V) (ρ:Loc) (H:AH) (f:Fl) (ρ':Loc) (H':AH):Prop:=KV n F P target body orelse xs ρ H f ρ' H'
theorem XF.mk{n F P target body orelse xs ρ H f ρ' H'}(h:KV n F P target body orelse xs ρ H f ρ' H'):XF n F P target body orelse xs ρ H f ρ' H':=by delta XF;exact h
theorem XF.run{n F P target body orelse xs ρ H f ρ' H'}(h:XF n F P target body orelse xs ρ H f ρ' H'):KV n F P target body orelse xs ρ H f ρ' H':=by delta XF at h;exact h
theorem XF.nil{body orelse}(hp:P.1 H)(h:ag n F orelse ρ H g an H1):XF n F P target body orelse [] ρ H g an H1:=by
 refine .mk fun A s W env it Y R S E fr hl hc fd Q q=>(SD ?_);refine T7 (dh fun Q' E' qq _=> ?_);refine bA (Rh (UD (RM (fd A s W H R (Gr.refl ..) S hp) (fun r s1 h1=> ?_) fun _ _ e=>e.elim)));obtain⟨rfl,G1,S1⟩:=h1;refine Rj (qq _ _ ⟨rfl,codeAny_block (lE (h.run A s1 W env R S1 E (fr.di G1 hl hc) _ fun fl s2 W2 G2 S2 f2 r2=>⟨fl,rfl,q fl s2 W2 ?_ S2 f2 r2⟩))⟩);exact(G1.weaken fun x h=> .inr h).trans (G2.weaken fun x h=> .inl h)
theorem XF.cons{x}{xs}(hp:P.1 H)(hT:P.2 target)(ht:AT n F target x ρ H an H1)(hb:ag n F body an H1 .next cV H2)
  (h:XF n F P target body orelse xs cV H2 g hU H3):XF n F P target body orelse (x::xs) ρ H g hU H3:=by
 refine .mk fun A s W env it Y R S E fr hl hc fd Q q=>(SD ?_);refine T7 (dh fun Q' E' qq _=> ?_);refine bA (Rh (UD (RM (fd A s W H R (Gr.refl ..) S hp) (fun r s1 h1=> ?_) fun _ _ e=>e.elim)));obtain⟨v,rfl,h1⟩:=h1;refine Rh (RM (h1 target hT) (fun _ s2 h2=> ?_) fun _ _ e=>e.elim);refine Rg fun kG=> ?_;obtain⟨W2,G2,S2,r2,xB⟩:=h2;refine kG (Rh (lE (ht.run A s2 W2 env v R S2 E (fr.di G2 hl hc) r2 _ fun s3 W3 G3 S3 f3=> ?_)));refine Rh (lE (hb.run A s3 W3 env R S3 E f3 _ fun fl s4 W4 G4 S4 f4 r4=> ?_));cases r4;refine Rj (qq _ _ ⟨rfl,h.run A s4 W4 env it Y R S4 E f4 hl hc (xB.step (G3.trans G4)) Q fun fl s5 W5 G5 S5 f5 r5=>q fl s5 W5 ?_ S5 f5 r5⟩);exact((G2.weaken fun x h=> .inr h).trans ((G3.trans G4).weaken fun x h=> .inl h)).trans G5
theorem XF.sub(h:XF n F P target body orelse xs ρ' H g an H1)(k:∀n x,ρ'.lookup n=some x→ρ.lookup n=some x):
  XF n F P target body orelse xs ρ H g an H1:= .mk fun A s W env it Y R S E fr hl hc fd Q q=>h.run A s W env it Y R S E (fr.sub k) hl hc fd Q q
noncomputable def dj(X:Ud→Prop)(it:Value)(W:Wd)(s:RT):Prop:=
 ∀A s1 W1 H1,Gr X W s W1 s1→ao W1 H1 s1→∀Q,Q it s1→wpAny (model prog w) A (Wn it) Q aY s1
theorem dj.step{s s'}(f:dj X it W s)(G:Gr X W s W' s'):dj X it W' s':=
 fun A s1 W1 H1 G1 S1=>f A s1 W1 H1 (G.trans G1) S1
structure Src n P it(Y:Ud→Prop) xs(pO:RT) W(s:RT):Prop where
 new:∀a,Y a→pO.heap.get? a=none∧s.heap.get? a≠none
 feed:∀X,(∀a,X a→¬Y a)→dT n P X it Y xs W s
 self:∀X,(∀a,X a→¬Y a)→dj X it W s
noncomputable abbrev KW(n:Nat)(x:V)(H:AH)(xs:List V)(P:PP):Prop:=∀A s W v,aC A n→ao W H s→Rel W x v→
    ∀Q,(∀it Y s' W',Gr ct W s W' s'→ao W' H s'→Src n P it Y xs s W' s'→Q it s')→wpAny (model prog w) A (Wn v) Q aY s
@[irreducible] noncomputable def VT (n:Nat) (x:V) (H:AH) (xs:List V) (P:PP):Prop:=KW n x H xs P
theorem VT.mk{n x H xs P}(h:KW n x H xs P):VT n x H xs P:=by delta VT;exact h
theorem VT.run{n x H xs P}(h:VT n x H xs P):KW n x H xs P:=by delta VT at h;exact h
noncomputable abbrev KX(n:Nat)(F:Fx)(e:Tk)(ρ:Loc)(H:AH)(xs:List V)(P:PP)(H':AH):Prop:=∀A s W env,aC A n→ao W H s→aA F env→cR W ρ env s.heap→
    ∀Q,(∀it Y s' W',Gr ct W s W' s'→ao W' H' s'→Src n P it Y xs s W' s'→Q it s')→
     wpAny (model prog w) A (eval e env) (fun x s1=>wpAny (model prog w) A (Wn x) Q aY s1) aY s
@[irreducible] noncomputable def IT (n:Nat) (F:Fx) (e:Tk) (ρ:Loc) (H:AH) (xs:List V) (P:PP) (H':AH):Prop:=KX n F e ρ H xs P H'
theorem IT.mk{n F e ρ H xs P H'}(h:KX n F e ρ H xs P H'):IT n F e ρ H xs P H':=by delta IT;exact h
theorem IT.run{n F e ρ H xs P H'}(h:IT n F e ρ H xs P H'):KX n F e ρ H xs P H':=by delta IT at h;exact h
theorem IT.val{e}{x}{xs}(h:ET n F e ρ H x H1)(hv:VT n x H1 xs P):IT n F e ρ H xs P H1:=by
 refine .mk fun A s W env R S E fr Q q=>(h.run A s W env R S E fr _ fun v s1 W1 G1 S1 r1=>hv.run A s1 W1 v R S1 r1 Q fun it Y s2 W2 G2 S2 c=>q it Y s2 W2 (G1.trans G2) S2 ⟨fun a y=>⟨?_,(c.new a y).2⟩,c.feed,c.self⟩);exact(G1.back (c.new a y).1).resolve_right id
theorem cR.cG(f:cR W ρ env h):∀a,own env a→h.get? a≠none:=fun a o=>by
 rcases o with rfl|⟨_,x,_,hc⟩
 ·obtain⟨m,hn,_⟩:=f.m;exact ch hn
 ·exact(f.dD x a hc).2.2.2
theorem XT.for{target iter}{body orelse}{pos}{xs}(hi:IT n F iter ρ H xs P H1)(h:XF n F P target body orelse xs ρ H1 g an H2)
  (hs:autoParam (∀env x,Td iter env x=pure x) aI):XT n F (.For target iter body orelse pos) ρ H g an H2:=by
 refine .mk fun A s W env R S E fr Q q=>(wpAny_For ?_ (hs env));refine RM (hi.run A s W env R S E fr (fun it s'=>Tt (model prog w) A (.forLoop target it body orelse env) (fun r s'=>∃g,r= .ok g∧Q g s') s')
  fun it Y s1 W1 G1 S1 c=> ?_) (fun x s1 h1=>RM h1 (fun it s2 h2=>UB h2 fun r s' h3=> ?_) fun _ _ e=>e) fun _ _ e=>e
 ·obtain⟨m,hn,_⟩:=fr.m;have hY:=fun a y=>(c.new a y).1;refine h.run A s1 W1 env it Y R S1 E (fr.step G1) (fun q=>ch hn (hY _ q)) (fun x c hc q=>(fr.dD x c hc).2.2.2 (hY _ q)) (c.feed _ fun a o y=>fr.cG a o (hY a y)) Q fun g s2 W2 G2 S2 f2 r2=>q g s2 W2 ?_ S2 f2 r2;exact(G1.of).base G2 fun x h hx=>h.elim id fun y=>absurd (hY x y) hx
 ·obtain⟨g,rfl,h3⟩:=h3;exact h3
theorem iz{s}{I l}{i}{v}{target}{Q}(hit:s.heap.IsListIter I l i)(h:Q () s):wpAny (model prog w) A (Tp target (.ref I) v) Q aY s:=by
 obtain⟨o,ho,hc,hd⟩:=hit;have key:wpAny (model prog w) A (Tp (.Tuple [] 0 ⟨0,0,0,0⟩) (.ref I) v) Q aY s:=by
  cases v with
  |ref a=>
   exact bL ho (J hc (J hd ((Rj h))))
  |_=>exact Rj h
 cases target with
 |Tuple=>exact key
 |List=>exact key
 |_=>exact Rj h
theorem dT.lst{X}{it l}{vs}{m}(hX:¬X it):∀xs i W s,W.I l=some (sq "list" vs m)→ak W xs (vs.drop i)→s.heap.IsListIter it l i→it∉W.φ→W.I it=none→
  dT n P X (.ref it) (fun a=>a=it) xs W s:=by
 intro rv
 induction rv with
 |nil=>
  intro i W s hI hr hit fh hi;intro A s1 W1 H1 R G S hp;have dk:s1.heap.IsListIter it l i:=by obtain⟨o,ho,r⟩:=hit;exact⟨o,G.heap _ _ ho fh hX,r⟩
  have e:vs.drop i=[]:=hr;refine XB R.handled dk (aB S (Wd.fw G.le hI)) ((Sm)▸Sw (by simpa using e)) fun h' hx=>⟨rfl, ?_⟩;have th:s.heap.get? it≠none:=by obtain⟨o,ho,r⟩:=hit;exact ho▸nofun
  have k:=fun a o e h=>hx a o h e;have fr:=am G th ⟨fh,hi⟩ hX;refine⟨⟨W1.le_refl,fun _ h=> .inl h,fun _ _ h=> .inl h,fun b o e _ hb=>k b o e hb,fun a h ha=> ?_,rfl,fun _ _ h=>h⟩,S.same (fun a o e h=>k a o e fun q=>by cases q;exact h.elim fr.1 fun h=>h fr.2) S.bare⟩;cases q:s1.heap.get? a with
  |none=>exact absurd q h
  |some o=>exact(k a o q ha)▸nofun
 |cons x xs ih=>
  intro i W s hI hr hit fh hi;intro A s1 W1 H1 R G S hp;refine Rg fun kG=> ?_;obtain⟨v,us,e,r1,r2⟩:=hr;refine kG ?_;have dk:s1.heap.IsListIter it l i:=by obtain⟨o,ho,r⟩:=hit;exact⟨o,G.heap _ _ ho fh hX,r⟩
  have hv:vs[i]?=some v:=by refine aQ WP (J e ?_);rfl
  have hd:vs.drop (i+1)=us:=by refine aQ Xe (J e ?_);rfl
  have th:s.heap.get? it≠none:=by obtain⟨o,ho,r⟩:=hit;exact ho▸nofun
  have fr:=am G th ⟨fh,hi⟩ hX;refine Xk dk (aB S (Wd.fw G.le hI)) (by refine J Sm ?_;exact hv) fun h' fV hs=>⟨v,rfl,fun target _=>iz fV ⟨W1, ?_, ?_,r1.mono G.le, ?_⟩⟩
  ·refine⟨W1.le_refl,fun _ h=> .inl h,fun _ _ h=> .inl h,fun b o e _ hb=>(hs.2 b hb).trans e,fun a h _=>dN hs (by obtain⟨o,ho,r⟩:=fV;exact ho▸nofun) a h,rfl,fun _ _ h=>h⟩
  ·exact S.same (fun a o e h=>(hs.2 a fun q=>by cases q;exact h.elim fr.1 fun h=>h fr.2).trans e) S.bare
  ·exact ih (i+1) W1 _ (Wd.fw G.le hI) (hd▸r2.mono G.le) fV fr.1 fr.2
theorem dT.ref{it l}{k:Nat}{ys}(hX:¬X it):∀xs i W s,W.φ[k]?=some l→xs=ys.drop i→s.heap.IsListIter it l i→it∉W.φ→W.I it=none→
  dT n (fun H=>H[k]?=some (some (.list ys)),fun _=>True) X (.ref it) (fun a=>a=it) xs W s:=by
 intro rv
 induction rv with
 |nil=>
  intro i W s hl hr hit fh hi;intro A s1 W1 H1 R G S hp;have dk:s1.heap.IsListIter it l i:=by obtain⟨o,ho,r⟩:=hit;exact⟨o,G.heap _ _ ho fh hX,r⟩
  refine Rg fun kG=> ?_;obtain⟨l',nH,_,vs,m,hL,hv,_⟩:=S.live k _ hp;refine kG ?_;have:=Wd.eO G.le hl;cases nH.symm.trans this;have hlen:ys.length≤i:=by simpa using hr.symm
  refine XB R.handled dk ⟨_,hL,rfl,m,rfl⟩ (by refine J Sm ?_;exact Sw (hv.length▸hlen)) fun h' hx=>⟨rfl, ?_⟩;have th:s.heap.get? it≠none:=by obtain⟨o,ho,r⟩:=hit;exact ho▸nofun
  have k:=fun a o e h=>hx a o h e;have fr:=am G th ⟨fh,hi⟩ hX;refine⟨⟨W1.le_refl,fun _ h=> .inl h,fun _ _ h=> .inl h,fun b o e _ hb=>k b o e hb,fun a h ha=> ?_,rfl,fun _ _ h=>h⟩,S.same (fun a o e h=>k a o e fun q=>by cases q;exact h.elim fr.1 fun h=>h fr.2) S.bare⟩;cases q:s1.heap.get? a with
  |none=>exact absurd q h
  |some o=>exact(k a o q ha)▸nofun
 |cons x xs ih=>
  intro i W s hl hr hit fh hi;intro A s1 W1 H1 R G S hp;have dk:s1.heap.IsListIter it l i:=by obtain⟨o,ho,r⟩:=hit;exact⟨o,G.heap _ _ ho fh hX,r⟩
  refine Rg fun kG=> ?_;obtain⟨l',nH,_,vs,m,hL,hv,_⟩:=S.live k _ hp;refine kG ?_;have:=Wd.eO G.le hl;cases nH.symm.trans this;have hy:ys[i]?=some x:=by refine aQ WP (aQ hr ?_);rfl
  refine Rg fun kG=> ?_;obtain⟨v,KY,r1⟩:=hv.get hy;refine kG ?_;have th:s.heap.get? it≠none:=by obtain⟨o,ho,r⟩:=hit;exact ho▸nofun
  have fr:=am G th ⟨fh,hi⟩ hX;refine Xk dk ⟨_,hL,rfl,m,rfl⟩ (by refine J Sm ?_;exact KY) fun h' fV hs=>⟨v,rfl,fun target _=>iz fV ⟨W1, ?_, ?_,r1, ?_⟩⟩
  ·refine⟨W1.le_refl,fun _ h=> .inl h,fun _ _ h=> .inl h,fun b o e _ hb=>(hs.2 b hb).trans e,fun a h _=>dN hs (by obtain⟨o,ho,r⟩:=fV;exact ho▸nofun) a h,rfl,fun _ _ h=>h⟩
  ·exact S.same (fun a o e h=>(hs.2 a fun q=>by cases q;exact h.elim fr.1 fun h=>h fr.2).trans e) S.bare
  ·exact ih (i+1) W1 _ nH (by refine aQ Xe (aQ hr ?_);rfl) fV fr.1 fr.2
theorem dj.list{s:RT}(hX:¬X it)(hit:s.heap.IsListIter it l i)(fh:it∉W.φ):dj X (.ref it) W s:=fun A s1 W1 H1 G S Q q=>by
 have dk:s1.heap.IsListIter it l i:=by obtain⟨o,ho,r⟩:=hit;exact⟨o,G.heap _ _ ho fh hX,r⟩
 exact wpAny_pyIter_listiter dk q
theorem VT.lst:VT n (.lst xs) H xs (fun _=>True,fun _=>True):=by
 refine .mk fun A s W v R S r Q q=> ?_;obtain⟨a,vs,m,rfl,hI,r,_⟩:=r;refine WM (aB S hI) (q _ (fun a=>a=s.heap.objs.size) _ W (Gr.cn W s _) (S.cn _) ?_);have fr:=S.fresh (af s.heap);have hit:(s.heap.push {cls:= .type "list_iterator",data:= .fields #[.ref a, .int 0 0]}).IsListIter s.heap.objs.size a 0:=⟨_,Rx _ rfl,rfl,rfl⟩;refine⟨fun b e=> ?_,fun X hX=>dT.lst (fun x=>hX _ x rfl) xs 0 W _ hI r hit fr.1 fr.2,fun X hX=>dj.list (fun x=>hX _ x rfl) hit fr.1⟩;subst e;exact⟨af _,fun e=>by obtain⟨o,ho,_⟩:=hit;exact absurd (ho.symm.trans e) nofun⟩
theorem VT.ref(hk:H[k]?=some (some (.list xs))):VT n (.ref k) H xs (fun H=>H[k]?=some (some (.list xs)),fun _=>True):=by
 refine .mk fun A s W v R S r Q q=> ?_;obtain⟨a,rfl,p⟩:=r;obtain⟨a',p',_,vs,m,ho,r,hz⟩:=S.live k _ hk;cases p▸p';refine WM ⟨_,ho,rfl,m,rfl⟩ (q _ (fun a=>a=s.heap.objs.size) _ W (Gr.cn W s _) (S.cn _) ?_);have fr:=S.fresh (af s.heap);have hit:(s.heap.push {cls:= .type "list_iterator",data:= .fields #[.ref a, .int 0 0]}).IsListIter s.heap.objs.size a 0:=⟨_,Rx _ rfl,rfl,rfl⟩;refine⟨fun b e=> ?_,fun X hX=>dT.ref (fun x=>hX _ x rfl) xs 0 W _ p rfl hit fr.1 fr.2,fun X hX=>dj.list (fun x=>hX _ x rfl) hit fr.1⟩;subst e;exact⟨af _,fun e=>by obtain⟨o,ho,_⟩:=hit;exact absurd (ho.symm.trans e) nofun⟩
end
section
variable{n:Nat}{F F':Fx}{ρ an cV hU dI:Loc}{H H1 H2 H3 H4 H5:AH}{g:Fl}
structure Acc W(s:RT) D acc:Prop where
 obj:∃vs m,s.heap.get? D=some (sq "list" vs m)∧ak W acc vs
 sep:jD W D
theorem Acc.step{W W'}{s s'}{D}{acc}(a:Acc W s D acc)(G:Gr X W s W' s')(hX:¬X D):Acc W' s' D acc:=by
 obtain⟨vs,m,ho,r⟩:=a.obj;exact⟨⟨vs,m,G.heap _ _ ho a.sep.1 hX,r.mono G.le⟩,am G (ho▸nofun) a.sep hX⟩
noncomputable abbrev KZ(n:Nat)(F:Fx)(e:Tk)(d:Nat)(P:PP)(xs:List V)(ρ:Loc)(acc:List V)(H:AH)(cW:List V)(H':AH):Prop:=∀A s W env it D Y,aC A n→ao W H s→aA F env→cR W ρ env s.heap→
    (¬Y env.locals)→(∀n c,env.cells.lookup n=some c→¬Y c)→¬Y D→D≠env.locals→(∀n c,env.cells.lookup n=some c→c≠D)→Acc W s D acc→
    dT n P (fun a=>own env a∨a=D) it Y xs W s→
    ∀Q:RT→Prop,(∀s' W',Gr (fun a=>(own env a∨a=D)∨Y a) W s W' s'→ao W' H' s'→cR W' ρ env s'.heap→Acc W' s' D cW→Q s')→
     Tt (model prog w) A (.compLoop e d it (.ref D) env) (fun r s'=>∃f,r= .ok f∧Q s') s
@[irreducible] noncomputable def CF (n:Nat) (F:Fx) (e:Tk) (d:Nat) (P:PP) (xs:List V) (ρ:Loc) (acc:List V) (H:AH) (cW:List V) (H':AH):Prop:=KZ n F e d P xs ρ acc H cW H'
theorem CF.mk{n F e d P xs ρ acc H cW H'}(h:KZ n F e d P xs ρ acc H cW H'):CF n F e d P xs ρ acc H cW H':=by delta CF;exact h
theorem CF.run{n F e d P xs ρ acc H cW H'}(h:CF n F e d P xs ρ acc H cW H'):KZ n F e d P xs ρ acc H cW H':=by delta CF at h;exact h
noncomputable abbrev Ee(n:Nat)(F:Fx)(ifs:List Tk)(ρ:Loc)(H:AH)(b:Bool)(H':AH):Prop:=∀A s W env,aC A n→ao W H s→aA F env→cR W ρ env s.heap→
    ∀Q,(∀s' W',Gr ct W s W' s'→ao W' H' s'→Q b s')→
     wpAny (model prog w) A (forIn ifs true fun c r=>if r=true then do let ok ←isTrue c env (eval c env);pure (Tj ok) else pure (Tj r)) Q aY s
@[irreducible] noncomputable def eL (n:Nat) (F:Fx) (ifs:List Tk) (ρ:Loc) (H:AH) (b:Bool) (H':AH):Prop:=Ee n F ifs ρ H b H'
theorem eL.mk{n F ifs ρ H b H'}(h:Ee n F ifs ρ H b H'):eL n F ifs ρ H b H':=by delta eL;exact h
theorem eL.run{n F ifs ρ H b H'}(h:eL n F ifs ρ H b H'):Ee n F ifs ρ H b H':=by delta eL at h;exact h
theorem eL.nil:eL n F [] ρ H true H:= .mk fun _ s W _ _ S _ _ _ q=>wpAny_tests_nil (q s W (Gr.refl ..) S)
theorem eL.one(h:TT n F c ρ H b H1):eL n F [c] ρ H b H1:= .mk fun A s W env R S E f Q q=>wpAny_tests_one (h.run A s W env R S E f Q q)
theorem kL{a}(hl:a≠env.locals)(hc:∀n c,env.cells.lookup n=some c→c≠a):¬own env a:=fun h=>by
 rcases h with h|⟨_,x,_,h⟩
 ·exact hl h
 ·exact hc x a h rfl
theorem sr{s}{W}{D}{acc}{x}{v}(S:ao W H s)(a:Acc W s D acc)(r:Rel W x v)(hz:acc.length≤Rs){Q}
  (q:∀s',Gr (fun b=>b=D) W s W s'→ao W H s'→Acc W s' D (acc++[x])→Q .none s'):wpAny (model prog w) A (call (.builtin "list.append") [.ref D,v]) Q aY s:=by
 obtain⟨vs,m,ho,rl⟩:=a.obj;refine Z7 ⟨m,ho⟩ (fun h' hp hs=> ?_) (J RI (J rl.length ((hz))));obtain⟨m',hp⟩:=hp;refine q _ ⟨W.le_refl,fun _ h=> .inl h,fun _ _ h=> .inl h,fun b o e _ hb=>(hs.2 b hb).trans e,fun b h _=>dN hs (hp▸nofun) b h,rfl,fun _ _ h=>h⟩
  (S.same (fun b o e h=>(hs.2 b fun q=>by cases q;exact h.elim a.sep.1 fun h=>h a.sep.2).trans e) S.bare) ⟨⟨vs++[v],m', ?_,rl.append ⟨v,[],rfl,r,rfl⟩⟩,a.sep⟩
 rw[(show(vs.toArray.push v)=(vs++[v]).toArray by simp)] at hp;exact hp
theorem CF.nil{elt}{gens}{scope}{pos}{d}{P}{acc}(hp:P.1 H) p(K:Value→Value→Value→Env→Y3 Fin)
  (heq:∀it a env,X3 (.ListComp elt gens scope pos) d it a env=(standAt p>>=fun _=>UP it>>=fun r=>match r with
   |none=>pure (.done .next)
   |some v=>K it a v env)):
  CF n F (.ListComp elt gens scope pos) d P [] ρ acc H acc H:=by
 refine .mk fun A s W env it D Y R S E fr hl hc hD rX rY ac fd Q q=>(SD ?_);refine T7 (dh fun Q' E' qq _=> ?_);refine J (heq ..) (bA (Rh (RM (fd A s W H R (Gr.refl ..) S hp) (fun r s1 h1=> ?_) fun _ _ e=>e.elim)));obtain⟨rfl,G1,S1⟩:=h1;exact Rj (qq _ _ ⟨_,rfl,q s1 W (G1.weaken fun x h=> .inr h) S1 (fr.di G1 hl hc) (ac.step G1 hD)⟩)
theorem CF.skip{elt target}{ifs}{gens}{scope}{pos}{d}{P}{x}{xs acc cW}(hp:P.1 H)(hT:P.2 target)(ht:AT n F target x ρ H an H1)
  (hi:eL n F ifs an H1 false H2) (hs:∀n x,ρ.lookup n=some x→an.lookup n=some x) (h:CF n F (.ListComp elt gens scope pos) d P xs ρ acc H2 cW H3) p
  (heq:∀it a env,X3 (.ListComp elt gens scope pos) d it a env=(standAt p>>=fun _=>UP it>>=fun r=>match r with
   |none=>pure (.done .next)
   |some v=>Tp target it v>>=fun _=>XJ target env v>>=fun _=>
     (forIn ifs true fun c r=>if r=true then do let ok ←isTrue c env (eval c env);pure (Tj ok) else pure (Tj r))>>=fun ok=>
     if ok=true then((do let _ ←call (.builtin "list.append") [a,←eval elt env])>>=fun _=>aaP (.compLoop (.ListComp elt gens scope pos) d it a env)) else aaP (.compLoop (.ListComp elt gens scope pos) d it a env))):
  CF n F (.ListComp elt gens scope pos) d P (x::xs) ρ acc H cW H3:=by
 refine .mk fun A s W env it D Y R S E fr hl hc hD rX rY ac fd Q q=>(SD ?_);refine T7 (dh fun Q' E' qq _=> ?_);refine J (heq ..) (bA (Rh (RM (fd A s W H R (Gr.refl ..) S hp) (fun r s1 h1=> ?_) fun _ _ e=>e.elim)));obtain⟨v,rfl,h1⟩:=h1;refine Rh (RM (h1 target hT) (fun _ s2 h2=> ?_) fun _ _ e=>e.elim);refine Rg fun kG=> ?_;obtain⟨W2,G2,S2,r2,xB⟩:=h2;refine kG (Rh (lE (ht.run A s2 W2 env v R S2 E (fr.di G2 hl hc) r2 _ fun s3 W3 G3 S3 f3=> ?_)));refine Rh (lE (hi.run A s3 W3 env R S3 E f3 _ fun s4 W4 G4 S4=> ?_));have ut:Gr (fun a=>own env a∨a=D) W2 s2 W4 s4:=(G3.trans G4.of).weaken fun x h=> .inl h;refine Rj (qq _ _ ⟨rfl,h.run A s4 W4 env it D Y R S4 E ((f3.step G4).sub hs) hl hc hD rX rY (((ac.step G2 hD).step G3 (kL rX rY)).step G4 id) (xB.step ut) Q fun s5 W5 G5 S5 f5 a5=>q s5 W5 ?_ S5 f5 a5⟩);exact((G2.weaken fun x h=> .inr h).trans (ut.weaken fun x h=> .inl h)).trans G5
theorem CF.cons{elt target}{ifs}{gens}{scope}{pos}{d}{P}{x y}{xs acc cW}(hp:P.1 H)(hT:P.2 target)(ht:AT n F target x ρ H an H1)
  (hi:eL n F ifs an H1 true H2) (he:ET n F elt an H2 y H3) (hs:∀n x,ρ.lookup n=some x→an.lookup n=some x) (hz:acc.length≤Rs) (h:CF n F (.ListComp elt gens scope pos) d P xs ρ (acc++[y]) H3 cW H4) p
  (heq:∀it a env,X3 (.ListComp elt gens scope pos) d it a env=(standAt p>>=fun _=>UP it>>=fun r=>match r with
   |none=>pure (.done .next)
   |some v=>Tp target it v>>=fun _=>XJ target env v>>=fun _=>
     (forIn ifs true fun c r=>if r=true then do let ok ←isTrue c env (eval c env);pure (Tj ok) else pure (Tj r))>>=fun ok=>
     if ok=true then((do let _ ←call (.builtin "list.append") [a,←eval elt env])>>=fun _=>aaP (.compLoop (.ListComp elt gens scope pos) d it a env)) else aaP (.compLoop (.ListComp elt gens scope pos) d it a env))):
  CF n F (.ListComp elt gens scope pos) d P (x::xs) ρ acc H cW H4:=by
 refine .mk fun A s W env it D Y R S E fr hl hc hD rX rY ac fd Q q=>(SD ?_);refine T7 (dh fun Q' E' qq _=> ?_);refine J (heq ..) (bA (Rh (RM (fd A s W H R (Gr.refl ..) S hp) (fun r s1 h1=> ?_) fun _ _ e=>e.elim)));obtain⟨v,rfl,h1⟩:=h1;refine Rh (RM (h1 target hT) (fun _ s2 h2=> ?_) fun _ _ e=>e.elim);refine Rg fun kG=> ?_;obtain⟨W2,G2,S2,r2,xB⟩:=h2;refine kG (Rh (lE (ht.run A s2 W2 env v R S2 E (fr.di G2 hl hc) r2 _ fun s3 W3 G3 S3 f3=> ?_)));refine Rh (lE (hi.run A s3 W3 env R S3 E f3 _ fun s4 W4 G4 S4=> ?_));have f4:=f3.step G4;refine Rh (Rh (lE (he.run A s4 W4 env R S4 E f4 _ fun u s5 W5 G5 S5 r5=> ?_)));refine Rh (lE (sr S5 ((((ac.step G2 hD).step G3 (kL rX rY)).step G4 id).step G5 id) r5 hz fun s6 G6 S6 a6=>Rj (Rj (qq _ _ ⟨rfl, ?_⟩))));have GV:Gr (fun a=>own env a∨a=D) W2 s2 W5 s6:=(((G3.trans G4.of).trans G5.of).weaken fun x h=> .inl h).trans (G6.weaken fun x h=> .inr h);refine h.run A s6 W5 env it D Y R S6 E (((f4.step G5).di G6 (fun h=>rX h.symm) fun x c hx=>rY x c hx).sub hs) hl hc hD rX rY a6 (xB.step GV) Q fun s7 W7 G7 S7 f7 a7=>q s7 W7 ?_ S7 f7 a7;exact((G2.weaken fun x h=> .inr h).trans (GV.weaken fun x h=> .inl h)).trans G7
theorem fW{elt}{gens}{scope}{pos}{d}{it acc}{env}{R}{g}(hg:gens[d]?=some g)(vF:g.is_async=0)
  (h0:Tt (model prog w) A (.compLoop (.ListComp elt gens scope pos) d it acc env) R s)
  (h:wpAny (model prog w) A (Wn it) (fun Ef s'=>Tt (model prog w) A (.compLoop (.ListComp elt gens scope pos) d Ef acc env) R s') aY s):
  Tt (model prog w) A (.compStart (.ListComp elt gens scope pos) d it acc env) R s:=by
 refine SD (wpAny_notedAt ?_)
 delta compStart
 have hc:((clausesOf (.ListComp elt gens scope pos))[d]?).elim false (·.is_async !=0)=false:=by
  refine J hg ?_;show(g.is_async !=0)=false;exact J vF rfl
 refine J hc (bG (VR ?_));refine bn (fun _=> ?_) fun _=> ?_
 ·first
   |exact bP (Rj (Wq rfl h0))
   |exact Rj (Wq rfl h0)
 ·refine J hg ?_
  first
   |exact bR (bA (Rh (RM h (fun Ef s' h'=>Rj (Wq rfl h')) fun _ _ x=>x.elim)))
   |(exact bR (bA (Rh (RM h (fun Ef s' h'=>Rj (Wq rfl h')) fun _ _ x=>x.elim))))
end
section
variable{n:Nat}{F F':Fx}{ρ an cV hU dI:Loc}{H H1 H2 H3 H4 H5:AH}{g:Fl}
theorem ao.adopt(S:ao W H s)(h:jD W D)(ho:s.heap.get? D=some o):
  ao (W.put D o) H s∧Gr (fun b=>b=D) W s (W.put D o) s∧W.le (W.put D o):=by
 have l:W.le (W.put D o):=Wd.lx h.2;refine⟨⟨fun a p e=> ?_,fun a p e=>Wd.fw l (S.gr a p e),S.nodup,S.len,S.lt,fun i ob e=> ?_,S.bare,S.tk,S.col⟩,⟨l,fun a m=> .inl m,fun a p e=> ?_,fun a p e _ _=>e,fun a h _=>h,rfl,fun _ _ h=>h⟩,l⟩
 ·by_cases hx:a=D
  ·subst hx;replace e:=(Wd.al ..)▸e;cases e;exact ho
  ·exact S.cr a p (by simpa [Wd.put,hx] using e)
 ·obtain⟨a,p,q,r⟩:=S.live i ob e;refine⟨a,p, ?_,eY l r⟩;have:a≠D:=fun z=>by subst z;exact h.1 (Sf p)
  simpa [Wd.put,this] using q
 ·by_cases hx:a=D
  ·exact .inr (.inr (.inr hx))
  ·exact .inl (by simpa [Wd.put,hx] using e)
theorem lk{α:Type}(x y:RN) v(r:List (RN×α)):Yx x ((y,v)::r)=if x=y then some v else r.lookup x:=by
 refine J Sc ?_;by_cases h:x=y
 ·subst h;simp
 ·rw[(show(x==y)=false by simpa using h),if_neg h]
noncomputable def dU(F:Fx)(names:List (RN×ZR)):List (RN×ZR):=names.map fun(n,k)=>if(k== .free&&F.names.lookup n==some .cell) then(n, .cell) else(n,k)
theorem nh{env}(E:aA F env):(aaL scope env).names=dU F scope.names:=by
 unfold aaL dU;refine J E.kind ?_;simp only[(bf E),Bool.and_assoc,beq_self_eq_true,UQ]
theorem ss:∀(names:List (RN×ZR)) acc,(∀x∈names,x.2= .free→∃c,env.cells.lookup x.1=some c)→(∀x c,acc.lookup x=some c→env.cells.lookup x=some c)→
  ∃cl,(forIn names acc fun x r=>if(x.2== .free)=true then do let a ←cellOf env x.1;pure (Tj ((x.1,a)::r)) else pure (Tj r):Y3 (List (RN×Ud)))=pure cl∧
   (∀x c,cl.lookup x=some c→env.cells.lookup x=some c)∧(∀x,(acc.lookup x).isSome=true∨(x, .free)∈names→(cl.lookup x).isSome=true):=by
 intro rv
 induction rv with
 |nil=>
  intro acc _ ha;exact⟨acc,rfl,ha,fun x h=>h.resolve_right (by simp)⟩
 |cons pq r ih=>
  intro acc h ha;refine J (Vl ..) ?_;by_cases hk:(pq.2== .free)=true
  ·obtain⟨c,hc⟩:=h (pq.1,pq.2) Rn (of_decide_eq_true hk);have xJ:cellOf env pq.1=pure c:=by delta cellOf;rw[hc]
   simp only[hk,if_true,xJ,pure_bind];have CU:∀x c',((pq.1,c)::acc).lookup x=some c'→env.cells.lookup x=some c':=fun x c' e=>by
    rw[lk] at e;by_cases hx:x=pq.1
    ·subst hx;replace e:=(if_pos rfl)▸e;cases e;exact hc
    ·rw[if_neg hx] at e;exact ha x c' e
   obtain⟨cl,e,h1,h2⟩:=ih ((pq.1,c)::acc) (fun x hx=>h x (Rm _ hx)) CU;refine⟨cl,e,h1,fun x hx=>h2 x ?_⟩;rcases hx with hx|hx
   ·by_cases e':x=pq.1
    ·cases e';exact .inl (by refine J (lk ..) (J (if_pos rfl) ?_);rfl)
    ·exact .inl (J (lk ..) (J (if_neg e') ((hx))))
   ·rcases Rt.mp hx with hx|hx
    ·cases hx;exact .inl (by refine J (lk ..) (J (if_pos rfl) ?_);rfl)
    ·exact .inr hx
  ·simp only[hk,aaj,if_false,pure_bind];obtain⟨cl,e,h1,h2⟩:=ih acc (fun x hx=>h x (Rm _ hx)) ha;refine⟨cl,e,h1,fun x hx=>h2 x ?_⟩;rcases hx with hx|hx
   ·exact .inl hx
   ·rcases Rt.mp hx with hx|hx
    ·cases hx;exact absurd rfl hk
    ·exact .inr hx
structure ar(F:Fx)(scope:aaQ)(ρ dI:Loc):Prop where
 kind:scope.kind= .function
 co:scope.isCoroutine=false
 lF:∀x∈scope.names,x.2≠ .cell
 names:∀x∈scope.names,x.2= .local→scope.names.lookup x.1=some .local
 free:∀x∈scope.names,x.2= .free→F.names.lookup x.1=some .cell∨((ρ.lookup x.1).isSome=true∧F.names.lookup x.1≠some .local)
 sub:∀x v,dI.lookup x=some v→ρ.lookup x=some v
 bound:∀x v,dI.lookup x=some v→scope.names.lookup x=some .free∧F.names.lookup x≠some .local
theorem j5:∀{names}{k},names.lookup x=some k→
  (dU F names).lookup x=some (if(k== .free&&F.names.lookup x==some .cell) then .cell else k):=by
 intro rv
 induction rv with
 |nil=>
  intro _ h;cases h
 |cons pq r ih=>
  obtain⟨y,k'⟩:=pq;intro k h;rw[lk] at h;show Yx x ((if(k'== .free&&F.names.lookup y==some .cell)=true then(y, .cell) else(y,k'))::dU F r)=_;by_cases e:x=y
  ·subst e;replace h:=(if_pos rfl)▸h;cases h;by_cases hc:(k'==UG&&F.names.lookup x==some YD)=true
   ·rw[if_pos hc,if_pos hc,lk,if_pos rfl]
   ·rw[if_neg hc,if_neg hc,lk,if_pos rfl]
  ·replace h:=(if_neg e)▸h;have:∀z,z.1=y→(z::dU F r).lookup x=(dU F r).lookup x:=fun z hz=>by
    obtain⟨z1,z2⟩:=z;cases hz;rw[lk,if_neg e]
   exact(this _ (by refine bn (fun _=> ?_) (fun _=> ?_)<;>rfl)).trans (ih h)
theorem fy:∀{names},(∀y∈names,y.2≠ .cell)→(dU F names).lookup x=some .cell→(x,UG)∈names∧F.names.lookup x=some .cell:=by
 intro rv
 induction rv with
 |nil=>
  intro _ h;cases h
 |cons pq r ih=>
  obtain⟨y,k⟩:=pq;intro hn h;change Yx x ((if(k== .free&&F.names.lookup y==some .cell)=true then(y,YD) else(y,k))::dU F r)=_ at h;by_cases hc:(k==UG&&F.names.lookup y==some YD)=true
  ·rw[if_pos hc,lk] at h;by_cases e:x=y
   ·subst e;simp only[RA,beq_iff_eq] at hc;exact⟨by exact hc.1▸Rn,hc.2⟩
   ·rw[if_neg e] at h;have:=ih (fun y hy=>hn y (Rm _ hy)) h;exact⟨Rm _ this.1,this.2⟩
  ·rw[if_neg hc,lk] at h;by_cases e:x=y
   ·subst e;replace h:=(if_pos rfl)▸h;cases h;exact absurd rfl (hn _ Rn)
   ·rw[if_neg e] at h;have:=ih (fun y hy=>hn y (Rm _ hy)) h;exact⟨Rm _ this.1,this.2⟩
theorem fA{C}{h'}(S:ao W H s)(E:aA F env)(fr:cR W ρ env s.heap)(K:ar F scope ρ dI)
  (gn:∀x c,cl.lookup x=some c→env.cells.lookup x=some c) (oz:∀x,(x,UG)∈scope.names→(cl.lookup x).isSome=true) (hC:s.heap.get? C=none) (AV:h'.Ns C fun _=>none)
  (k:∀a o,s.heap.get? a=some o→h'.get? a=some o):
  aA ⟨dU F scope.names,F.code,false,RB⟩ (US scope cl C env)∧cR W dI (US scope cl C env) h':=by
 have EK:aA ⟨dU F scope.names,F.code,false,RB⟩ (US scope cl C env):=⟨nh E,K.kind,E.globals,E.builtins,E.code,K.co,(fun h=>by cases h),(fun _ h=>by cases h)⟩;have GS:=bf EK;refine⟨EK,⟨⟨_,AV,fun x v e hk=> ?_⟩,fun x v e=> ?_,fun x v e hk=> ?_,fun x hk=> ?_,(S.fresh hC),fun x c hc=> ?_,fun x x' c h1 h2=>fr.inj x x' c (gn _ _ h1) (gn _ _ h2)⟩⟩
 ·rw[GS,j5 (K.bound x v e).1] at hk;exfalso;revert hk;refine bn (fun _=> ?_) (fun _=> ?_)<;>exact nofun
 ·refine J (GS ..) (J (j5 (K.bound x v e).1) ?_);refine bn (fun _=> ?_) fun _=> ?_
  ·exact .inr (.inl rfl)
  ·exact .inr (.inr rfl)
 ·obtain⟨c,u,e1,e2,e3⟩:=fr.cell x v (K.sub x v e) (by rw[bf E];exact(K.bound x v e).2);obtain⟨c',pS⟩:=TS.mp (oz x ((show∀{x}{k}{l:List (RN×ZR)},l.lookup x=some k→(x,k)∈l from fun h=>mem_of_lookup h) (K.bound x v e).1));cases e1.symm.trans (gn x c' pS);exact⟨_,u,pS,eJ e2 (k _),e3⟩
 ·rw[GS] at hk;obtain⟨c',pS⟩:=TS.mp (oz x (fy K.lF hk).1);obtain⟨c,u,e1,e2⟩:=fr.cells x (by rw[bf E];exact(fy K.lF hk).2);cases e1.symm.trans (gn x c' pS);exact⟨_,u,pS,eJ e2 (k _)⟩
 ·obtain⟨a,b,c',d⟩:=fr.dD x c (gn x c hc);exact⟨a,b,fun z=>d (z▸hC),bt k c d⟩
theorem dP(E:aA F env){W}{h}(fr:cR W ρ env h)(K:ar F scope ρ dI):
  ∃cl,YB scope env=pure cl∧(∀x c,cl.lookup x=some c→env.cells.lookup x=some c)∧(∀x,(x,UG)∈scope.names→(cl.lookup x).isSome=true):=by
 obtain⟨cl,e,h1,h2⟩:=ss scope.names [] (fun x hx hf=>by
  rcases K.free x hx hf with q|⟨q1,q2⟩
  ·obtain⟨c,u,e1,_⟩:=fr.cells x.1 (by rw[bf E];exact q);exact⟨c,e1⟩
  ·obtain⟨v,hv⟩:=TS.mp q1;obtain⟨c,u,e1,_⟩:=fr.cell x.1 v hv (by rw[bf E];exact q2);exact⟨c,e1⟩) (by intro x c h;cases h)
 refine⟨cl, ?_,h1,fun x hx=>h2 x (.inr hx)⟩;have eq:YB scope env=(forIn scope.names [] fun x r=>if(x.2== .free)=true then do let a ←cellOf env x.1;pure (Tj ((x.1,a)::r)) else pure (Tj r):Y3 (List (RN×Ud))):=by
  rw[YB];rw[bind_pure]
 rw[eq,e]
theorem nI{elt target iter}{ifs}{rest}{scope}{cl}{P}{xs acc}{pos}{A}{s0 s2}{W0 W2}{env}{it}{Y}(R:aC A n)
  (pU:Gr ct W0 s0 W2 s2) (S:ao W2 H s2) (E:aA F env) (CW:cR W0 ρ env s0.heap) (K:ar F scope ρ dI) (gn:∀x c,cl.lookup x=some c→env.cells.lookup x=some c)
  (oz:∀x,(x,UG)∈scope.names→(cl.lookup x).isSome=true) (c:Src n P it Y xs s0 W2 s2) (hz:acc.length≤Rs)
  (h:CF n ⟨dU F scope.names,F.code,false,RB⟩ (.ListComp elt (⟨target,iter,ifs,0⟩::rest) scope pos) 0 P xs dI [] H acc H1) {RR:Value→Ud→Result→RT→Prop}
  (GW:∀D C f s' W' m,Gr ct W0 s0 W' s'→ao W' H1 s'→Rel W' (.lst acc) (.ref D)→s0.heap.get? C=none→C∉W'.φ→W'.I C=none→s'.heap.Ns C m→RR (.ref D) C (.ok f) s'):
  wpAny (model prog w) A (newList []) (fun acc gv=>wpAny (model prog w) A (ZH scope env.globals cl [] env.qual none .none (some env)) (fun cenv fj=>
   Tt (model prog w) A (.compStart (.ListComp elt (⟨target,iter,ifs,0⟩::rest) scope pos) 0 it acc {cenv with scope:=aaL scope env}) (RR acc cenv.locals) fj) aY gv) aY s2:=by
 have fr:=CW.step pU;refine Sz (XN K.lF (by intro y hy;simp at hy) (fun cJ gH lG=> ?_) K.kind);have hC:(s2.heap.push (sq "list" [] 0)).objs.size=s2.heap.objs.size+1:=Se ..;have old:=fun b o e=>lG.extBut b o (Te (RV e)) (Rp _ e);have gI:=fun b o e=>old b o (Rp _ e);have pW:s2.heap.get? (s2.heap.push (sq "list" [] 0)).objs.size=none:=by
  cases e:s2.heap.get? (s2.heap.push (sq "list" [] 0)).objs.size with
  |none=>rfl
  |some o=>have:=RV e;rw[hC] at this;exact absurd (UW this) (SQ _)
 have S4:=S.same (s':={s2 with heap:=cJ}) (fun b o e _=>gI b o e) S.bare;have ut:Gr ct W2 s2 W2 {s2 with heap:=cJ}:=⟨W2.le_refl,fun _ h=> .inl h,fun _ _ h=> .inl h,fun b o e _ _=>gI b o e,fun a h _=>bt gI a h,rfl,fun _ _ h=>h⟩;have xK:=fun a y=>(c.new a y).2;have CX:s2.heap.objs.size≠(s2.heap.push (sq "list" [] 0)).objs.size:=J hC (((VZ _).symm));have hX:∀a,(own (US scope cl (s2.heap.push (sq "list" [] 0)).objs.size env) a∨a=s2.heap.objs.size)→s2.heap.get? a=none:=fun a o=>by
  rcases o with(o|⟨cg,x,_,hx⟩)|o
  ·exact o▸pW
  ·cases q:s2.heap.get? a with
   |none=>rfl
   |some o=>
    have h2:=cg;rw[hC] at h2;exact absurd (Yg (UW h2) (RV q)) (SQ _)
  ·exact o▸af _
 have lp:Tt (model prog w) A (.compLoop (.ListComp elt (⟨target,iter,ifs,0⟩::rest) scope pos) 0 it (.ref s2.heap.objs.size) (US scope cl (s2.heap.push (sq "list" [] 0)).objs.size env))
   (RR (.ref s2.heap.objs.size) (s2.heap.push (sq "list" [] 0)).objs.size) {s2 with heap:=cJ}:=by
  refine UB (h.run A {s2 with heap:=cJ} W2 (US scope cl (s2.heap.push (sq "list" [] 0)).objs.size env) it s2.heap.objs.size Y R S4 (fA S E fr K gn oz pW gH gI).1 (fA S E fr K gn oz pW gH gI).2 (fun y=>xK _ y pW) (fun x c' hx y=> ?_) (fun y=>xK _ y (af _)) CX (fun x c hx e=>(fun x c hx=>(fr.dD x c (gn x c hx)).2.2.2) x c hx (e▸af _)) (⟨⟨[],0,(old _ _ (Rx _ rfl)),rfl⟩,(S.fresh (af s2.heap))⟩)
   ((fun X hx=>(c.feed X hx).step (ut.of)) _ fun a o y=>xK a y (hX a o)) (fun s'=>∀f,RR (.ref s2.heap.objs.size) (s2.heap.push (sq "list" [] 0)).objs.size (.ok f) s') fun s' W' G' S' f' a' f=> ?_) fun r s' hr=>by obtain⟨f,rfl,hr⟩:=hr;exact hr f
  ·exact(CW.dD x _ (gn x _ hx)).2.2.2 (c.new _ y).1
  ·obtain⟨vs,m,ho,rl⟩:=a'.obj;obtain⟨S5,G5,l5⟩:=S'.adopt a'.sep ho;obtain⟨mm,hm,_⟩:=f'.m;have h0:∀a,((own (US scope cl (s2.heap.push (sq "list" [] 0)).objs.size env) a∨a=s2.heap.objs.size)∨Y a)→s0.heap.get? a=none:=fun a o=>by
    rcases o with o|o
    ·exact(pU.back (hX a o)).resolve_right id
    ·exact(c.new a o).1
   have CY:=f'.sep;refine GW _ _ f s' _ mm ?_ S5 ⟨_,vs,m,rfl,Wd.al ..,rl.mono l5,hz⟩ ((pU.back pW).resolve_right id) CY.1 ?_ hm
   ·refine((pU.trans ut).base G' fun a o e=>absurd (h0 a o) e).base G5 fun a o e=> ?_;subst o;exact absurd ((pU.back (af s2.heap)).resolve_right id) e
   ·show(if(s2.heap.push (sq "list" [] 0)).objs.size=s2.heap.objs.size then _ else W'.I _)=none;exact(if_neg (SK CX))▸CY.2
 exact fW rfl rfl lp (dj.step (c.self (fun _=>False) fun _ h=>h.elim) ut A _ W2 H (Gr.refl ..) S4 _ lp)
theorem Gr.same{h'}{C}(hs:SU C s.heap h')(hX:X C):Gr X W s W {s with heap:=h'}:=
 ⟨W.le_refl,fun _ h=> .inl h,fun _ _ h=> .inl h,fun b o e _ hb=>(hs.2 b fun q=>hb (by subst q;exact hX)).trans e,fun a h hx=>by
  refine J (hs.2 a fun q=>hx (by subst q;exact hX)) ?_;exact h,rfl,fun _ _ h=>h⟩
theorem ET.cL{elt target iter}{ifs}{rest}{scope}{P}{xs acc}{pos}(K:ar F scope ρ dI)(hi:IT n F iter ρ H xs P H1)
  (h:CF n ⟨dU F scope.names,F.code,false,RB⟩ (.ListComp elt (⟨target,iter,ifs,0⟩::rest) scope pos) 0 P xs dI [] H1 acc H2) (hz:acc.length≤Rs)
  (hs:autoParam (∀env x,Td iter env x=pure x) aI):
  ET n F (.ListComp elt (⟨target,iter,ifs,0⟩::rest) scope pos) ρ H (.lst acc) H2:=by
 refine .mk fun A s W env R S E fr Q q=> ?_;obtain⟨cl,i3,gn,oz⟩:=dP E fr K;refine Vw rfl (hs env) i3 K.kind K.names (hi.run A s W env R S E fr _ fun it Y s2 W2 G2 S2 c=> ?_);refine nI R G2 S2 E fr K gn oz c hz h fun D C f s' W' m G' S' r' hC h1 h2 hm=>⟨m,hm,fun h' uu=> ?_⟩;refine q _ _ W' (G'.base (Gr.same uu rfl) fun x e hx=>by subst e;exact absurd hC hx) (S'.same (fun a o e hh=>(uu.2 a fun z=>by subst z;exact hh.elim h1 fun hh=>hh h2).trans e) S'.bare) r'
theorem XT.cL{elt target iter}{ifs}{rest}{scope}{P}{xs acc}{pos iJ py}{y}(K:ar F scope ρ dI)(hi:IT n F iter ρ H xs P H1)
  (h:CF n ⟨dU F scope.names,F.code,false,RB⟩ (.ListComp elt (⟨target,iter,ifs,0⟩::rest) scope pos) 0 P xs dI [] H1 acc H2) (hz:acc.length≤Rs) (fQ:ST F y)
  (hsw:∀env,aA F env→Xh (.ListComp elt (⟨target,iter,ifs,0⟩::rest) scope pos) (some (.Name y py)) iJ.line env=pure true)
  (hs:autoParam (∀env x,Td iter env x=pure x) aI):
  XT n F (.Assign [.Name y py] (.ListComp elt (⟨target,iter,ifs,0⟩::rest) scope pos) iJ) ρ H .next ((y, .lst acc)::ρ) H2:=by
 refine .mk fun A s W env R S E fr Q q=>(Rg fun kG=> ?_);obtain⟨cl,i3,gn,oz⟩:=dP E fr K;refine kG (J (XC _ _ _ _ (hsw env E)) ?_);refine bA (Rh ?_);refine Rh (RM (Vw rfl (hs env) i3 K.kind K.names (hi.run A s W env R S E fr _ fun it Y s2 W2 G2 S2 c=> ?_)) (fun _ s' hq=>Rj (Rj hq)) fun _ _ e=>e);refine nI R G2 S2 E fr K gn oz c hz h fun D C f s' W' m G' S' r' hC h1 h2 hm=>(VX (fQ.run A s' W' H2 ρ env (.lst acc) _ S' E (fr.step G') r' _ fun dM CZ C0 GX=> ?_));have C1:=fun o=>fr.cG C o hC;obtain⟨mm,AW⟩:∃m,dM.heap.Ns C m:=⟨m,nG hm fun o e=>CZ.heap _ o e h1 C1⟩;refine⟨mm,AW,fun h' uu=> ?_⟩;have G5:Gr (fun a=>a=C) W' dM W' {dM with heap:=h'}:=Gr.same uu rfl;refine q _ _ W' (((G'.of).trans CZ).base G5 fun x e hx=>by cases e;exact absurd hC hx) (C0.same (fun a o e hh=>(uu.2 a fun z=>by cases z;exact hh.elim h1 fun hh=>hh h2).trans e) C0.bare) ?_ rfl;refine GX.di G5 (fun e=> ?_) fun x c hx e=> ?_
 ·exact C1 (.inl e.symm)
 ·cases e;exact(fr.dD x _ hx).2.2.2 hC
end
noncomputable def V.eqv(x y:V):Bool:=match x.data,y.data with
 |some a,some b=>Uq a b
 |_,_=>false
noncomputable def V.ok(x:V):Bool:=match x.data with
 |some a=>Un a
 |Option.none=>false
section
variable{n:Nat}{F:Fx}{ρ an cV:Loc}{H H1 H2 H3 H4 H5:AH}{g:Fl}
noncomputable abbrev xL(H:AH)(x:V):Prop:=∀s W v,ao W H s→Rel W x v→∀a,v= .ref a→∃o,s.heap.get? a=some o∧o.dict=none
@[irreducible] noncomputable def aJ (H:AH) (x:V):Prop:=xL H x
theorem aJ.mk{H x}(h:xL H x):aJ H x:=by delta aJ;exact h
theorem aJ.run{H x}(h:aJ H x):xL H x:=by delta aJ at h;exact h
theorem aJ.str:aJ H (.str x):= .mk fun _ _ _ _ r a e=>by obtain⟨t,rfl,_⟩:=r;cases e
theorem aJ.lst:aJ H (.lst l):= .mk fun _ _ _ S r a e=>by obtain⟨b,vs,m,rfl,i,_⟩:=r;cases e;exact⟨_,S.cr _ _ i,rfl⟩
theorem aJ.bx:aJ H (.bx l):= .mk fun _ _ _ S r a e=>by obtain⟨b,vs,m,rfl,i,_⟩:=r;cases e;exact⟨_,S.cr _ _ i,rfl⟩
theorem aJ.ai(hi:H[i]?=some (some (.list l))):aJ H (.ref i):= .mk fun _ _ _ S r a e=>by
 refine Rg fun kG=> ?_;obtain⟨b,rfl,p⟩:=r;cases e;obtain⟨a',p',_,vs,m,ho,_⟩:=S.live i _ hi;refine kG ?_;replace p':=p▸p';cases p';exact⟨_,ho,rfl⟩
theorem aJ.iY(hi:H[i]?=some (some (.dict l))):aJ H (.ref i):= .mk fun _ _ _ S r a e=>by
 refine Rg fun kG=> ?_;obtain⟨b,rfl,p⟩:=r;cases e;obtain⟨a',p',_,vs,m,ho,_⟩:=S.live i _ hi;refine kG ?_;replace p':=p▸p';cases p';exact⟨_,ho,rfl⟩
theorem Ty.lH(hi:H[i]?=some (some (.sset l))):Ty H (.ref i) "set":= .mk fun _ _ _ S r=>by
 obtain⟨a,rfl,p⟩:=r;obtain⟨a',p',_,m,ho,_⟩:=S.live i _ hi;replace p':=p▸p';cases p';exact ho.typeIs
theorem aJ.lH(hi:H[i]?=some (some (.sset l))):aJ H (.ref i):= .mk fun _ _ _ S r a e=>by
 refine Rg fun kG=> ?_;obtain⟨b,rfl,p⟩:=r;cases e;obtain⟨a',p',_,m,ho,_⟩:=S.live i _ hi;refine kG ?_;replace p':=p▸p';cases p';exact ho.noDict _ rfl
theorem GM.of{id}(hT:Ty H x T)(hb:aJ H x)(pa:PlainAttrs T)(slot:Slot T name id)(uv:typeOf (.builtin id)=pure (.type "method_descriptor")):
  GM n x name H (.st (.builtin id)) [x] H:= .mk fun A s W v pl R S r Q q=>
 getMethod_builtin (hT.run s W v S r) pa slot uv (hb.run s W v S r) (q _ _ s W (Gr.refl ..) S rfl ⟨v,[],rfl,r,rfl⟩)
theorem CT.ou{xs}{z}(hz:z.length≤Rs)
  (h:∀A s W vs,aC A n→ao W H s→ak W xs vs→∀Q,(∀u tk,Q (.str z u) {s with toks:=tk})→wpAny (model prog w) A (call f vs) Q aY s):
  CT n (.st f) xs [] H (.str z) H:= .mk fun A s W fv vs kv R S rf rx c8 _ Q q=>by
 cases rf;have:kv=[]:=by simpa using c8
 subst this;exact wpAny_toks (h A s W vs R S rx _ fun u tk ht=>q _ _ W (Gr.dF W s tk) (S.tok tk ht) ⟨u,rfl,hz⟩)
theorem CT.dH{xs}{i}
  (h:∀A s W vs,aC A n→ao W H s→ak W xs vs→∀Q,(∀u tk,Q (.int i u) {s with toks:=tk})→wpAny (model prog w) A (call f vs) Q aY s):
  CT n (.st f) xs [] H (.int i) H:= .mk fun A s W fv vs kv R S rf rx c8 _ Q q=>by
 cases rf;have:kv=[]:=by simpa using c8
 subst this;exact wpAny_toks (h A s W vs R S rx _ fun u tk ht=>q _ _ W (Gr.dF W s tk) (S.tok tk ht) ⟨u,rfl⟩)
theorem CT.aZ{xs}{b}
  (h:∀A s W vs,aC A n→ao W H s→ak W xs vs→∀Q,(∀tk,Q (.bool b) {s with toks:=tk})→wpAny (model prog w) A (call f vs) Q aY s):
  CT n (.st f) xs [] H (.bool b) H:= .mk fun A s W fv vs kv R S rf rx c8 _ Q q=>by
 cases rf;have:kv=[]:=by simpa using c8
 subst this;exact wpAny_toks (h A s W vs R S rx _ fun tk ht=>q _ _ W (Gr.dF W s tk) (S.tok tk ht) rfl)
theorem ak.one(r:ak W [x] vs):∃v,vs=[v]∧Rel W x v:=by
 obtain⟨v,us,e,r,e2⟩:=r;cases e2;exact⟨v,e,r⟩
theorem ak.two(r:ak W [x,y] vs):CN fun v u=>nf (vs=[v,u]) (Rel W x v) (Rel W y u):=by
 refine Rg fun kG=> ?_;obtain⟨v,us,e,r,r2⟩:=r;obtain⟨u,e2,r3⟩:=ak.one r2;exact kG (⟨v,u,by rw[e,e2],r,r3⟩)
theorem ak.three(r:ak W [x,y,z] vs):D4 fun v u t=>pQ (vs=[v,u,t]) (Rel W x v) (Rel W y u) (Rel W z t):=by
 refine Rg fun kG=> ?_;obtain⟨v,us,e,r,r2⟩:=r;obtain⟨u,t,e2,r3,r4⟩:=ak.two r2;exact kG (⟨v,u,t,by rw[e,e2],r,r3,r4⟩)
theorem CT.startswith:CT n (.st (.builtin "str.startswith")) [.str x, .str y] [] H (.bool (VI x y)) H:=CT.aZ fun A s W vs R S r Q q=>by
 obtain⟨v,u,rfl,⟨t,rfl,_⟩,⟨t',rfl,_⟩⟩:=r.two;exact SC.startswith (q s.toks)
theorem CT.endswith:CT n (.st (.builtin "str.endswith")) [.str x, .str y] [] H (.bool (Wg x y)) H:=CT.aZ fun A s W vs R S r Q q=>by
 obtain⟨v,u,rfl,⟨t,rfl,_⟩,⟨t',rfl,_⟩⟩:=r.two;exact SC.endswith (q s.toks)
theorem CT.vG(ho:TU x y 0 x.length 1=i::rest):CT n (.st (.builtin "str.index")) [.str x, .str y] [] H (.int i) H:=CT.dH fun A s W vs R S r Q q=>by
 obtain⟨v,u,rfl,⟨t,rfl,_⟩,⟨t',rfl,_⟩⟩:=r.two;exact SC.index ho (q _ _)
theorem CT.replace{x y z}(JR:(y==z)=false)(hx:x.length≤1048576)(hz:z.length≤14)(hr:(SH x y z).length≤Rs):
  CT n (.st (.builtin "str.replace")) [.str x, .lit y, .lit z] [] H (.str (SH x y z)) H:=CT.ou hr fun A s W vs R S r Q q=>by
 obtain⟨v,u,t,rfl,⟨t1,rfl,_⟩,⟨t2,rfl,c2,_⟩,⟨t3,rfl,c3,_⟩⟩:=r.three;refine SC.replaceW (Tq (S.col _ _ c2).1) (Tq (S.col _ _ c3).1) (fun e=> ?_) JR hx hz q;subst e;cases c2.symm.trans c3;simp at JR
theorem CT.uw:CT n (.st (.builtin "len")) [.lst l] [] H (.int l.length) H:=CT.dH fun A s W vs R S r Q q=>by
 obtain⟨v,rfl,⟨a,us,m,rfl,i,ru,hz⟩⟩:=r.one;have hb:Rs<2^62:=dc;have:=q (s.toks+1) (s.toks+1+1);rw[←ru.length] at this;exact ZQ (aB S i) (by refine J RI (J ru.length ?_);lia) this
theorem CT.ux(hk:H[k]?=some (some (.list l))):CT n (.st (.builtin "len")) [.ref k] [] H (.int l.length) H:=CT.dH fun A s W vs R S r Q q=>by
 obtain⟨v,rfl,⟨a,rfl,p⟩⟩:=r.one;obtain⟨a',p',_,us,m,ho,r,hz⟩:=S.live k _ hk;replace p':=p▸p';cases p';have hb:Rs<2^62:=dc;have:=q (s.toks+1) (s.toks+1+1);rw[←r.length] at this;exact ZQ ⟨_,ho,rfl,m,rfl⟩ (by refine J RI (J r.length ?_);lia) this
theorem CT.len_str:CT n (.st (.builtin "len")) [.str x] [] H (.int x.length) H:=CT.dH fun A s W vs R S r Q q=>by
 obtain⟨v,rfl,⟨t,rfl,hz⟩⟩:=r.one;have hb:Rs<2^62:=dc;exact call_len_gives (TZ s x t) F.slot_str_len F.entry_str_len (F.args_str_len_1 _) (gives_str_len x t) F3 (by lia) (q _ _)
theorem CT.append{x}(hk:H[k]?=some (some (.list l)))(hz:l.length<Rs):CT n (.st (.builtin "list.append")) [.ref k,x] [] H .none (H.set k (some (.list (l++[x])))):= .mk fun A s W fv vs kv R S rf rx c8 _ Q q=>by
 cases rf;have:kv=[]:=by simpa using c8
 subst this;refine Rg fun kG=> ?_;obtain⟨v,u,rfl,⟨a,rfl,p⟩,ru⟩:=rx.two;obtain⟨a',p',hI,us,m,ho,r,_⟩:=S.live k _ hk;refine kG ?_;replace p':=p▸p';cases p';refine Z7 ⟨m,ho⟩ (fun h' hp hs=> ?_) (J RI (J r.length ((TC hz))));obtain⟨m',hp⟩:=hp;have e:(us.toArray.push u)=(us++[u]).toArray:=by simp
 rw[e] at hp;obtain⟨S',G'⟩:=S.set (s':={s with heap:=h'}) (ob:= .list (l++[x])) p hI (fun b o hb e=>(hs.2 b hb).trans e) (hp▸nofun) rfl rfl (Ri _)
  ⟨us++[u],m',hp,r.append ⟨u,[],rfl,ru,rfl⟩,by exact J Ro hz⟩
 exact q _ _ W G' S' rfl
theorem ak.strs:∀{ps}{vs},ak W (ps.map V.str) vs→∃l,vs=strValues l∧l.map (·.1)=ps:=by
 intro rv
 induction rv with
 |nil=>
  intro _ h;cases h;exact⟨[],rfl,rfl⟩
 |cons p ps ih=>
  rintro _ ⟨v,us,e,⟨t,ev,_⟩,h⟩;obtain⟨l,e1,e2⟩:=ih h;subst e e1 ev;exact⟨(p,t)::l,rfl,by simp[e2]⟩
theorem ak.strsFrom:∀{ps} tk,(∀p∈ps,p.length≤Rs)→ak W (ps.map V.str) (PySem.strsFrom tk ps):=by
 intro rv
 induction rv with
 |nil=>
  intro _ _;exact rfl
 |cons p ps ih=>
  intro tk h;exact⟨_,_,rfl,⟨tk,rfl,h p Rn⟩,ih (tk+1) fun q hq=>h q (Rm _ hq)⟩
theorem dm(S:ao W H s){ps:List RN}{vs}{tk}(ht:s.toks≤tk)(r:ak W (ps.map V.str) vs)(hz:ps.length≤Rs){Q:Value→RT→Prop}
  (q:∀v s' W',Gr ct W s W' s'→ao W' H s'→Rel W' (.lst (ps.map V.str)) v→Q v s'):Q (.ref s.heap.objs.size) {s with toks:=tk,heap:=s.heap.push (sq "list" vs 0)}:=by
 obtain⟨S2,G2⟩:=(S.tok tk ht).put (fR "list" vs 0);exact q _ _ _ ((Gr.dF W s tk).trans G2) S2 ⟨_,vs,0,rfl,Wd.al ..,r.mono G2.le,by exact J (Rk ..) hz⟩
theorem CT.split(hy:(y.length==0)=false)(hz:(Sl x y).length≤Rs)(hp:∀p∈Sl x y,p.length≤Rs):CT n (.st (.builtin "str.split")) [.str x, .str y] [] H (.lst ((Sl x y).map V.str)) H:= .mk fun A s W fv vs kv R S rf rx c8 _ Q q=>by
 cases rf;have:kv=[]:=by simpa using c8
 subst this;obtain⟨v,u,rfl,⟨t,rfl,hx⟩,⟨t',rfl,_⟩⟩:=rx.two;cases h1:(decide (x.length<y.length)||decide (Ul x<Ul y))
 ·cases hf:(TU x y 0 x.length (x.length+1)).isEmpty
  ·have e:Sl x y=V9 x (TU x y 0 x.length (x.length+1)) y.length:=(if_neg (ne_true_of_eq_false h1)).trans (if_neg (ne_true_of_eq_false hf));rw[e] at hz hp q;exact call_meets F.slot_str_split (TZ _ _ _) F.entry_str_split (F.args_str_split_2 _ _) (meets_str_split_sep x y t t' h1 hy hf hx hz) (dm S (Sr _ _) (ak.strsFrom _ hp) hz q)
  ·have e:Sl x y=[x]:=(if_neg (ne_true_of_eq_false h1)).trans (if_pos hf);rw[e] at hz hp q;exact call_meets F.slot_str_split (TZ _ _ _) F.entry_str_split (F.args_str_split_2 _ _) (meets_str_split_not_found x y t t' h1 hy hf) (dm (ps:=[x]) S (Ri _) ⟨_,_,rfl,⟨t,rfl,hx⟩,rfl⟩ hz q)
 ·have e:Sl x y=[x]:=if_pos h1;rw[e] at hz hp q;exact call_meets F.slot_str_split (TZ _ _ _) F.entry_str_split (F.args_str_split_2 _ _) (meets_str_split_cannot_occur x y t t' h1) (dm (ps:=[x]) S (Ri _) ⟨_,_,rfl,⟨t,rfl,hx⟩,rfl⟩ hz q)
theorem CT.vH(hy:(y.length==0)=false)(hz:(UJ x y k).length≤Rs)(hp:∀p∈UJ x y k,p.length≤Rs)(hk:autoParam ((decide (k< -(2^63:Int))||decide (k≥2^63))=false) aD):
  CT n (.st (.builtin "str.split")) [.str x, .str y, .int k] [] H (.lst ((UJ x y k).map V.str)) H:= .mk fun A s W fv vs kv R S rf rx c8 _ Q q=>by
 cases rf;have:kv=[]:=by simpa using c8
 subst this;obtain⟨v,u,t2,rfl,⟨t,rfl,hx⟩,⟨t',rfl,_⟩,⟨Eg,rfl⟩⟩:=rx.three;cases h1:(decide (x.length<y.length)||decide (Ul x<Ul y))
 ·cases hf:(TU x y 0 x.length (Xw x k)).isEmpty
  ·have e:UJ x y k=V9 x (TU x y 0 x.length (Xw x k)) y.length:=(if_neg (ne_true_of_eq_false h1)).trans (if_neg (ne_true_of_eq_false hf));rw[e] at hz hp q;exact call_meets F.slot_str_split (TZ _ _ _) F.entry_str_split (F.args_str_split_3 _ _ _) (meets_str_split_sep_max x y k t t' Eg hk h1 hy hf hx hz) (dm S (Sr _ _) (ak.strsFrom _ hp) hz q)
  ·have e:UJ x y k=[x]:=(if_neg (ne_true_of_eq_false h1)).trans (if_pos hf);rw[e] at hz hp q;exact call_meets F.slot_str_split (TZ _ _ _) F.entry_str_split (F.args_str_split_3 _ _ _) (meets_str_split_max_not_found x y k t t' Eg hk h1 hy hf) (dm (ps:=[x]) S (Ri _) ⟨_,_,rfl,⟨t,rfl,hx⟩,rfl⟩ hz q)
 ·rw[(show UJ x y k=[x] from if_pos h1)] at hz hp q;exact call_meets F.slot_str_split (TZ _ _ _) F.entry_str_split (F.args_str_split_3 _ _ _) (meets_str_split_max_cannot_occur x y k t t' Eg hk h1) (dm (ps:=[x]) S (Ri _) ⟨_,_,rfl,⟨t,rfl,hx⟩,rfl⟩ hz q)
theorem CT.su(hy:(y.length==0)=false)(hz:(Uv x y k).length≤Rs)(hp:∀p∈Uv x y k,p.length≤Rs)(hk:autoParam ((decide (k< -(2^63:Int))||decide (k≥2^63))=false) aD):
  CT n (.st (.builtin "str.rsplit")) [.str x, .str y, .int k] [] H (.lst ((Uv x y k).map V.str)) H:= .mk fun A s W fv vs kv R S rf rx c8 _ Q q=>by
 cases rf;have:kv=[]:=by simpa using c8
 subst this;obtain⟨v,u,t2,rfl,⟨t,rfl,hx⟩,⟨t',rfl,_⟩,⟨Eg,rfl⟩⟩:=rx.three;cases h1:(decide (x.length<y.length)||decide (Ul x<Ul y))
 ·cases hf:(WX x y (Xw x k)).isEmpty
  ·have e:Uv x y k=V9 x (WX x y (Xw x k)) y.length:=(if_neg (ne_true_of_eq_false h1)).trans (if_neg (ne_true_of_eq_false hf));rw[e] at hz hp q;exact call_meets F.slot_str_rsplit (TZ _ _ _) F.entry_str_rsplit (F.args_str_rsplit_3 _ _ _) (meets_str_rsplit_sep_max x y k t t' Eg hk h1 hy hf hx hz) (dm S (Sr _ _) (ak.strsFrom _ hp) hz q)
  ·have e:Uv x y k=[x]:=(if_neg (ne_true_of_eq_false h1)).trans (if_pos hf);rw[e] at hz hp q;exact call_meets F.slot_str_rsplit (TZ _ _ _) F.entry_str_rsplit (F.args_str_rsplit_3 _ _ _) (meets_str_rsplit_max_not_found x y k t t' Eg hk h1 hy hf) (dm (ps:=[x]) S (Ri _) ⟨_,_,rfl,⟨t,rfl,hx⟩,rfl⟩ hz q)
 ·rw[(show Uv x y k=[x] from if_pos h1)] at hz hp q;exact call_meets F.slot_str_rsplit (TZ _ _ _) F.entry_str_rsplit (F.args_str_rsplit_3 _ _ _) (meets_str_rsplit_max_cannot_occur x y k t t' Eg hk h1) (dm (ps:=[x]) S (Ri _) ⟨_,_,rfl,⟨t,rfl,hx⟩,rfl⟩ hz q)
theorem CT.join(m8:XK x ps=true)(hz:(SF x ps).length≤Rs):CT n (.st (.builtin "str.join")) [.str x, .lst (ps.map V.str)] [] H (.str (SF x ps)) H:=CT.ou hz fun A s W vs R S r Q q=>by
 obtain⟨v,u,rfl,⟨t,rfl,_⟩,⟨a,us,m,rfl,hI,ru,_⟩⟩:=r.two;obtain⟨l,rfl,e2⟩:=ru.strs;exact SC.join (aB S hI) e2 m8 q
theorem ak.snoc:∀{l}{us},ak W (l++[x]) us→∃v1 v2,us=v1++[v2]∧ak W l v1∧Rel W x v2:=by
 intro rv
 induction rv with
 |nil=>
  intro _ r;exact let⟨v,e,r⟩:=ak.one r;⟨[],v,e,rfl,r⟩
 |cons _ _ ih=>
  rintro _ ⟨v,_,e,r0,r'⟩;exact let⟨v1,v2,e',a1,a2⟩:=ih r';⟨v::v1,v2,by refine J e (J e' ?_);rfl,⟨v,v1,rfl,r0,a1⟩,a2⟩
theorem AX vs(v:Value):(vs++[v]).toArray.eraseIdxIfInBounds ((vs++[v]).toArray.size-1)=vs.toArray:=by
 apply Array.ext';simp;rw[List.eraseIdx_append_of_length_le (Ri _)];simp
theorem CT.pop{x}(hk:H[k]?=some (some (.list (l++[x])))):CT n (.st (.builtin "list.pop")) [.ref k] [] H x (H.set k (some (.list l))):= .mk fun A s W fv vs kv R S rf rx c8 _ Q q=>by
 cases rf;have:kv=[]:=by simpa using c8
 subst this;refine Rg fun kG=> ?_;obtain⟨v,rfl,⟨a,rfl,p⟩⟩:=rx.one;obtain⟨a',p',hI,us,m,ho,r,hz⟩:=S.live k _ hk;replace p':=p▸p';cases p';obtain⟨Eh,F7,rfl,r1,r2⟩:=ak.snoc r;refine kG ?_;have hlen:(Eh++[F7]).length=l.length+1:=by refine J Ro (J r1.length ?_);rfl
 refine call_meets F.slot_list_pop ⟨_,ho,rfl⟩ F.entry_list_pop (F.args_list_pop_1 _) (MeetsSeq.list_pop_last a (Eh++[F7]).toArray m F7 (by simp) (by refine J RI (J hlen ?_);rw[Ro] at hz;exact hz)) ⟨ho, ?_⟩;obtain⟨m',hp⟩:∃m',(s.heap.update a (RZ fun xs=>xs.eraseIdxIfInBounds ((Eh++[F7]).toArray.size-1))).get? a=some (sq "list" Eh m'):=by
  have:=Y4 ho (fun xs=>xs.eraseIdxIfInBounds ((Eh++[F7]).toArray.size-1));rw[AX] at this;exact⟨_,this⟩
 obtain⟨S',G'⟩:=S.set (s':={s with heap:=s.heap.update a (RZ fun xs=>xs.eraseIdxIfInBounds ((Eh++[F7]).toArray.size-1))}) (ob:= .list l) p hI (fun b o hb e=>(Sh _ _ (SK hb)).trans e)
  (J hp nofun) rfl rfl (Ri _) ⟨Eh,m',hp,r1,by rw[Ro] at hz;exact Uo hz⟩
 exact q _ _ W G' S' r2
theorem sw(x y:Value):(match Zo "list.append" with
  |some sig=>Bind.checkArgs "list.append" {sig with full:=s!"{Bind.lastOf "list"}.{Bind.lastOf "list.append"}"} ⟨[x,y],[]⟩
  |none=>pure ())=pure ():=rfl
theorem C2:builtinKind "list.append"=some .method:=rfl
theorem Az:Manifest.varargsMethods.contains "list.append"=false:=by decide+kernel
theorem kB:Xi (.type "list") (.type "module")=pure false:=rfl
theorem oA{s}{a}{y}{vs}{m}{Q}{E}(ho:s.heap.get? a=some (sq "list" vs m))(hq:Q () s):wpAny (model prog w) A (XU "list.append" ⟨[.ref a,y],[]⟩) Q E s:=by
 delta XU
 have hc:=sw (.ref a) y;cases hs:Zo "list.append" with
 |none=>exact Rj hq
 |some sig=>
  rw[hs] at hc;refine bI ⟨_,ho,rfl⟩ kB (Rh (bL ho (Rj ?_)));exact bT ⟨_,ho,rfl⟩ (SX hc hq)
theorem CT.fB{x}(hk:H[k]?=some (some (.list l)))(hz:l.length<Rs):CT n (.bm "list.append" (.ref k)) [x] [] H .none (H.set k (some (.list (l++[x])))):= .mk fun A s W fv vs kv R S rf rx c8 _ Q q=>by
 have:kv=[]:=by simpa using c8
 subst this;refine Rg fun kG=> ?_;obtain⟨b,self,rfl,hb,⟨a,rfl,p⟩⟩:=rf;obtain⟨u,rfl,ru⟩:=rx.one;obtain⟨a',p',hI,us,m,ho,r,_⟩:=S.live k _ hk;refine kG ?_;replace p':=p▸p';cases p';refine lD (S.cr _ _ hb) entry_list_append Ta.plain (fun Q' hq=>oA ho hq) (list_append a us.toArray m u (by refine J RI (J r.length ?_);exact TC hz)) ⟨ho, ?_⟩;have hp:(s.heap.update a (RZ fun K2=>K2.push u)).get? a=some (sq "list" (us++[u]) (m+1)):=by
  have:=Y4 ho (fun xs=>xs.push u);simp only[(show(us.toArray.push u)=(us++[u]).toArray by simp)] at this;rw[if_neg (by simp)] at this;exact this
 obtain⟨S',G'⟩:=S.set (s':={s with heap:=s.heap.update a (RZ fun K2=>K2.push u)}) (ob:= .list (l++[x])) p hI (fun b o hb e=>(Sh _ _ (SK hb)).trans e) (hp▸nofun) rfl rfl (Ri _)
  ⟨us++[u],m+1,hp,r.append ⟨u,[],rfl,ru,rfl⟩,by exact J Ro hz⟩
 exact q _ _ W G' S' rfl
theorem sy x t v:XU "str.join" ⟨[.str x t,v],[]⟩=pure ():=rfl
theorem CT.AY(hk:H[k]?=some (some (.list (ps.map V.str))))(m8:XK x ps=true)(hz:(SF x ps).length≤Rs):CT n (.bm "str.join" (.str x)) [.ref k] [] H (.str (SF x ps)) H:= .mk fun A s W fv vs kv R S rf rx c8 _ Q q=>by
 have:kv=[]:=by simpa using c8
 subst this;refine Rg fun kG=> ?_;obtain⟨b,self,rfl,hb,⟨t,rfl,_⟩⟩:=rf;obtain⟨v,rfl,⟨a,rfl,p⟩⟩:=rx.one;obtain⟨a',p',_,us,m,ho,ru,_⟩:=S.live k _ hk;refine kG ?_;replace p':=p▸p';cases p';obtain⟨l,rfl,e2⟩:=ru.strs;refine wpAny_toks ?_
 delta XK at m8
 rw[VC] at m8;subst e2;exact lD (S.cr _ _ hb) F.entry_str_join F.slot_str_join.plain (fun Q' hq=>SX (sy _ _ _) hq) (meets_str_join_list x t a l m8)
  ⟨⟨_,ho,rfl,m,rfl⟩,post_join l ⟨joinFit_length m8,fun t' tk ht=>q _ _ W (Gr.dF W s tk) (S.tok tk ht) ⟨t',rfl,hz⟩⟩⟩
end
section
variable{n:Nat}{F:Fx}{ρ an cV:Loc}{H H1 H2 H3 H4 H5:AH}{g:Fl}
theorem V.dQ{x:V}(h:x.ok=true):∃d,x.data=some d∧Un d=true:=by
 delta V.ok at h
 cases e:x.data with
 |none=>replace h:=e▸h;cases h
 |some d=>replace h:=e▸h;exact⟨d,rfl,h⟩
open Classical in
noncomputable def AA(h:VN)(dx:PyData)(y:Value):Bool:=if q:∃d,∃as,Reads h y d as then Uq (choose q) dx else false
theorem xM{dx d}{y}{as}(r:Reads h y d as):AA h dx y=Uq d dx:=by
 delta AA
 have q:∃d,∃as,Reads h y d as:=⟨d,as,r⟩;refine J (dif_pos q) ?_;obtain⟨GY,r'⟩:=Classical.choose_spec q;rw[((PySem.Reads.unique r' d as r).1)]
theorem fX{dx}(k:∀a o,W.I a=some o→h.get? a=some o){x}(hx:x.data=some dx):∀{l}{vs},ak W l vs→l.all V.ok=true→
  vs.countP (AA h dx)=l.countP (fun y=>V.eqv y x)∧vs.any (AA h dx)=l.any (fun y=>V.eqv y x):=by
 intro rv
 induction rv with
 |nil=>
  intro _ r _;cases r;exact⟨rfl,rfl⟩
 |cons y l ih=>
  rintro _ ⟨v,us,e,r1,r2⟩ ha;subst e;simp only[Th,RA] at ha;refine Rg fun kG=> ?_;obtain⟨d,hd,_⟩:=V.dQ ha.1;obtain⟨as,q⟩:=gF k r1 hd;refine kG ?_;have e1:AA h dx v=V.eqv y x:=by refine J (xM q) ?_;delta V.eqv;rw[hd,hx]
  simp only[List.countP_cons,Wx,e1,(ih r2 ha.2).1,(ih r2 ha.2).2,and_self]
theorem i4{s}{W}{x}{dx}{v}(S:ao W H s)(hu:A.units+64<aaO)(rx:Rel W x v)(hx:x.data=some dx)(sx:Un dx=true):
  ∀{l}{vs},ak W l vs→l.all V.ok=true→∀y,y∈vs→SeqAt.EqAt A s y v (AA s.heap dx y):=by
 intro rv
 induction rv with
 |nil=>
  intro _ r _ y hy;cases r;cases hy
 |cons z l ih=>
  rintro _ ⟨u,us,e,r1,r2⟩ ha y hy;subst e;simp only[Th,RA] at ha;rcases Rt.mp hy with h|h
  ·subst h;obtain⟨d,hd,sd⟩:=V.dQ ha.1;obtain⟨as,q⟩:=gF S.cr r1 hd;obtain⟨bs,q'⟩:=gF S.cr rx hx;exact(xM q)▸SeqAt.eqAt_reads d dx A s y v as bs q q' (Zl sd) (Zl sx) (SeqAt.room_of_shaped sd hu)
  ·exact ih r2 ha.2 y h
theorem CT.count(hl:l.all V.ok=true)(hx:x.ok=true):CT (n+8) (.st (.builtin "list.count")) [.lst l,x] [] H (.int (l.countP fun y=>V.eqv y x)) H:=CT.dH fun A s W vs R S r Q q=>by
 obtain⟨v,u,rfl,⟨a,us,m,rfl,hI,ru,_⟩,rx⟩:=r.two;obtain⟨dx,hd,sd⟩:=V.dQ hx;have hu:A.in1.units+64<aaO:=by have:=R.units;lia
 refine call_meets F.slot_list_count ⟨_,S.cr _ _ hI,rfl⟩ F.entry_list_count (F.args_list_count_2 _ _) (SeqAt.list_countAt a us.toArray m none #[] u (AA s.heap dx)) ⟨S.cr _ _ hI,fun y hy=>i4 S hu rx hd sd ru hl y (by simpa using hy), ?_⟩;exact((fX S.cr hd ru hl).1)▸q _ _
theorem OT.xN{x}(hl:l.all V.ok=true)(hx:x.ok=true):OT (n+8) (Sv .In) x (.lst l) H (.bool (l.any fun y=>V.eqv y x)) H:=OT.aZ fun A s W a c R S ra rc Q q=>by
 obtain⟨b,us,m,rfl,hI,ru,_⟩:=rc;obtain⟨dx,hd,sd⟩:=V.dQ hx;have hu:A.in1.units+64<aaO:=by have:=R.units;lia
 exact SeqAt.in_listAt (AA s.heap dx) (aB S hI) (fun y hy=>i4 S hu ra hd sd ru hl y (by simpa using hy)) (J Yo (J ((fX S.cr hd ru hl).2) ((q s.toks))))
theorem OT.jE{x}(hl:l.all V.ok=true)(hx:x.ok=true):OT (n+8) (Sv .NotIn) x (.lst l) H (.bool (!(l.any fun y=>V.eqv y x))) H:=OT.aZ fun A s W a c R S ra rc Q q=>by
 obtain⟨b,us,m,rfl,hI,ru,_⟩:=rc;obtain⟨dx,hd,sd⟩:=V.dQ hx;have hu:A.in1.units+64<aaO:=by have:=R.units;lia
 exact SeqAt.notIn_listAt (AA s.heap dx) (aB S hI) (fun y hy=>i4 S hu ra hd sd ru hl y (by simpa using hy)) (J Yo (J ((fX S.cr hd ru hl).2) ((q s.toks))))
theorem OT.vI{x}(hl:l.all V.ok=true)(hx:x.ok=true):OT (n+8) (Sv .NotIn) x (.tup l) H (.bool (!(l.any fun y=>V.eqv y x))) H:=OT.aZ fun A s W a c R S ra rc Q q=>by
 obtain⟨b,us,m,rfl,hI,ru,_⟩:=rc;obtain⟨dx,hd,sd⟩:=V.dQ hx;have hu:A.in1.units+64<aaO:=by have:=R.units;lia
 exact SeqAt.notIn_tupleAt (AA s.heap dx) (fS S hI) (fun y hy=>i4 S hu ra hd sd ru hl y (by simpa using hy)) (J Yo (J ((fX S.cr hd ru hl).2) ((q s.toks))))
theorem CT.isinstance{b:Bool}(hT:Ty H x Tx)(fY:Xi (.type Tx) (.type T)=pure true)(uv:typeOf (.type T)=pure (.type "type")):
  CT n (.st (.builtin "isinstance")) [x, .st (.type T)] [] H (.bool true) H:=CT.aZ fun A s W vs R S r Q q=>by
 obtain⟨v,u,rfl,rv,ru⟩:=r.two;cases ru;exact call_isinstance_yes (hT.run s W v S rv) uv fY (q s.toks)
end
noncomputable def ip(l:List (RN×V))(k:RN)(x:V):List (RN×V):=if l.any (fun p=>p.1=k) then l.map (fun p=>if p.1=k then(p.1,x) else p) else l++[(k,x)]
section
variable{n:Nat}{F:Fx}{ρ an cV:Loc}{H H1 H2 H3 H4 H5:AH}{g:Fl}
theorem xO:∀{l}{es},d7 W l es→∃bd,bX W l bd∧Pairs (strKind prog w) es bd∧(∀e∈es,∃k,(strKind prog w).is k e.key=true∧e.hash=(strKind prog w).hash k):=by
 intro rv
 induction rv with
 |nil=>
  intro _ h;cases h;exact⟨[],rfl, .nil,fun _ h=>by cases h⟩
 |cons pq l ih=>
  rintro _ ⟨t,v,r,e,a,b⟩;subst e;refine Rg fun kG=> ?_;obtain⟨bd,h1,h2,h3⟩:=ih b;refine kG ?_;refine⟨(pq.1,v)::bd,⟨v,bd,rfl,a,h1⟩, .cons (UF prog w pq.1 t) rfl h2,fun e he=> ?_⟩;rcases Rt.mp he with q|q
  ·subst q;exact⟨pq.1,UF prog w pq.1 t,rfl⟩
  ·exact h3 e q
theorem sz:∀{l}{es}{bd},bX W l bd→Pairs (strKind prog w) es bd→(∀e∈es,∃k,(strKind prog w).is k e.key=true∧e.hash=(strKind prog w).hash k)→d7 W l es:=by
 intro rv
 induction rv with
 |nil=>
  intro _ _ h p _;cases h;cases p;rfl
 |cons pq l ih=>
  obtain⟨k,x⟩:=pq;rintro _ _ ⟨v,r,e,a,b⟩ p hk;subst e;cases p with
  |cons h1 h2 h3=>
   rename_i e es;obtain⟨k',q1,q2⟩:=hk e Rn;have:=(strKind prog w).inj _ _ _ h1 q1;subst this;obtain⟨t,ht⟩:=Us h1;refine⟨t,v,es, ?_,a,ih b h3 fun e he=>hk e (Rm _ he)⟩;obtain⟨hh,kk,vv⟩:=e;simp only at q2 ht h2;subst q2 ht h2;rfl
theorem dictOf{h:VN}{a}{es}{m}{l}(ho:h.get? a=some (dq es m))(r:d7 W l es)(nd:(l.map (·.1)).Nodup):
  ∃bd,h.DictAt (strKind prog w) a bd m∧bX W l bd:=by
 obtain⟨bd,h1,h2,h3⟩:=xO r;exact⟨bd,⟨_,es.toArray,ho,⟨rfl,rfl,rfl⟩,rfl,fun e he=>h3 e (by simpa using he),by simpa using h2,by exact h1.names▸nd⟩,h1⟩
theorem lI{h:VN}{a}{bd}{l}(hd:h.DictOf (strKind prog w) a bd)(r:bX W l bd):∃es m,h.get? a=some (dq es m)∧d7 W l es∧(l.map (·.1)).Nodup:=by
 refine Rg fun kG=> ?_;obtain⟨o,es,ep,ho,hx,hd,hk,hp,hn⟩:=hd;refine kG (⟨es.toList,ep, ?_,sz r hp fun e he=>hk e (by simpa using he),by exact r.names▸hn⟩);obtain⟨c,d,dt,sl⟩:=o;obtain⟨h1,h2,h3⟩:=hx;simp only at h1 h2 h3 hd;subst h1 h2 h3 hd;exact ho
theorem bX.valueAt:∀{bd},bX W l bd→(l.lookup k=none→valueAt bd k=none)∧∀x,l.lookup k=some x→∃v,valueAt bd k=some v∧Rel W x v:=by
 induction l with
 |nil=>intro bd h;cases h;exact⟨fun _=>rfl,fun _ h=>by cases h⟩
 |cons p l ih=>
  obtain⟨k',x⟩:=p;rintro bd ⟨v,r,e,a,b⟩;subst e;have ih:=ih b;refine J lookup_cons ?_;unfold PySem.valueAt at ih⊢;refine J aa2 ?_;by_cases h:k=k'
  ·subst h;refine J (if_pos rfl) (J (decide_eq_true rfl) ?_);exact⟨nofun,fun y hy=>by cases hy;exact⟨v,rfl,a⟩⟩
  ·exact J (if_neg h) (J (decide_eq_false fun e=>h e.symm) ((ih)))
theorem bX.length:∀{l}{bd},bX W l bd→bd.length=l.length
 |[],_,h=>by cases h;rfl
 |(_,_)::_,_,⟨_,_,e,_,b⟩=>by subst e;simp[bX.length b]
theorem bX.append:∀{l l'}{bd GZ},bX W l bd→bX W l' GZ→bX W (l++l') (bd++GZ):=by
 intro rv
 induction rv with
 |nil=>
  intro _ _ _ h h';cases h;exact h'
 |cons pq _ ih=>
  obtain⟨_,_⟩:=pq;rintro _ _ _ ⟨v,r,e,a,b⟩ h';subst e;exact⟨v,_,rfl,a,ih b h'⟩
theorem bX.putAll{x}{v}(r:Rel W x v):∀{l}{bd},bX W l bd→bX W (l.map fun p=>if p.1=k then(p.1,x) else p) (bd.map fun kv=>if kv.1=k then(kv.1,v) else kv):=by
 intro rv
 induction rv with
 |nil=>
  intro _ h;cases h;rfl
 |cons pq l ih=>
  rintro _ ⟨u,us,e,a,b⟩;subst e;refine J RD (J RD ?_);by_cases h:pq.1=k
  ·simp only[h];exact⟨v,_,rfl,r,ih b⟩
  ·simp only[h];exact⟨u,_,rfl,a,ih b⟩
theorem bX.any:∀{l}{bd},bX W l bd→bd.any (fun kv=>kv.1=k)=l.any (fun p=>p.1=k)
 |[],_,h=>by cases h;rfl
 |(_,_)::_,_,⟨_,_,e,_,b⟩=>by subst e;simp[bX.any b]
theorem bX.put{x}{v}(r:Rel W x v){l}{bd}(h:bX W l bd):bX W (ip l k x) (stored bd k v):=by
 unfold ip stored;refine J h.any ?_;split
 ·exact bX.putAll r h
 ·exact h.append ⟨v,[],rfl,r,rfl⟩
theorem i5:∀{l:List (RN×V)},(l.lookup k).isSome=l.any (fun p=>p.1=k):=by
 intro rv
 induction rv with
 |nil=>
  exact rfl
 |cons pq l ih=>
  refine J lookup_cons (J Wx ?_);by_cases h:k=pq.1
  ·subst h;simp
  ·simp only[if_neg h,(show decide (pq.1=k)=false by simpa using fun e=>h e.symm)];exact ih
noncomputable abbrev sA(H:AH)(x:V)(l:List (RN×V)):Prop:=∀s W v,ao W H s→Rel W x v→∃a es m,v= .ref a∧s.heap.get? a=some (dq es m)∧d7 W l es∧(l.map (·.1)).Nodup∧l.length≤Rs∧(a==TA)=false
@[irreducible] noncomputable def aW (H:AH) (x:V) (l:List (RN×V)):Prop:=sA H x l
theorem aW.mk{H x l}(h:sA H x l):aW H x l:=by delta aW;exact h
theorem aW.run{H x l}(h:aW H x l):sA H x l:=by delta aW at h;exact h
theorem aW.bx:aW H (.bx l) l:= .mk fun s W v S r=>by
 obtain⟨a,es,m,rfl,hI,r,nd,hz,hs⟩:=r;exact⟨a,es,m,rfl,S.cr _ _ hI,r,nd,hz,hs⟩
theorem oB(hm:∃o,br TA=some o)(S:ao W H s){a}(h:W.I a=none):(a==TA)=false:=by
 obtain⟨o,ho⟩:=hm;have:=S.gr _ _ ho;cases e:a==TA with
 |false=>rfl
 |true=>
  have:=of_decide_eq_true e;subst this;cases h.symm.trans this
theorem aW.ref(hm:∃o,br TA=some o)(hk:H[k]?=some (some (.dict l))):aW H (.ref k) l:= .mk fun s W v S r=>by
 refine Rg fun kG=> ?_;obtain⟨a,rfl,p⟩:=r;obtain⟨a',p',hI,es,m,ho,r,nd,hz⟩:=S.live k _ hk;refine kG ?_;cases p▸p';exact⟨a,es,m,rfl,ho,r,nd,hz,oB hm S hI⟩
theorem Rel.isKey(r:Rel W (.str k) v):(strKind prog w).is k v=true:=by obtain⟨t,rfl,_⟩:=r;exact UF prog w k t
theorem OT.in_dict(h:aW H x l):OT n (Sv .In) (.str k) x H (.bool (l.lookup k).isSome) H:=OT.aZ fun A s W a c R S ra rc Q q=>by
 refine Rg fun kG=> ?_;obtain⟨d,es,m,rfl,ho,r,nd,hz,hs⟩:=h.run s W c S rc;obtain⟨bd,hd,hr⟩:=dictOf ho r nd;refine kG (wpAny_in_of (Rel.isKey ra) hs hd.dictOf.mapOf ?_);have e:(valueAt bd k).isSome=(l.lookup k).isSome:=by
  cases e:l.lookup k with
  |none=>exact congrArg _ (hr.valueAt.1 e)
  |some y=>obtain⟨v,hv,_⟩:=hr.valueAt.2 y e;exact hv▸rfl
 exact e▸q _
theorem OT.item_dict{l}{k}(h:aW H x l)(hy:l.lookup k=some y):OT n Vx x (.str k) H y H:= .mk fun A s W a c R S ra rc Q q=>by
 refine Rg fun kG=> ?_;obtain⟨d,es,m,rfl,ho,r,nd,hz,hs⟩:=h.run s W a S ra;obtain⟨bd,hd,hr⟩:=dictOf ho r nd;obtain⟨v,hv,rv⟩:=(hr.valueAt).2 y hy;exact kG (wpAny_getItem_of (Rel.isKey rc) hd.dictOf.mapOf hv (q v _ W (Gr.dF W s _) (S.tok _) rv))
theorem CT.get_none(h:aW H x l)(hk:l.lookup k=none):CT n (.st (.builtin "dict.get")) [x, .str k] [] H .none H:= .mk fun A s W fv vs kv R S rf rx c8 _ Q q=>by
 cases rf;have:kv=[]:=by simpa using c8
 subst this;refine Rg fun kG=> ?_;obtain⟨a,c,rfl,ra,rc⟩:=rx.two;obtain⟨d,es,m,rfl,ho,r,nd,hz,hs⟩:=h.run s W a S ra;obtain⟨bd,hd,hr⟩:=dictOf ho r nd;refine kG (YM F.slot_dict_get ⟨_,ho,rfl⟩ F.entry_dict_get (F.args_dict_get_2 _ _) (meets_dict_get (strKind prog w) d (Rel.isKey rc) hs) ⟨_,hd.dictOf.mapOf, ?_⟩);exact J ((hr.valueAt).1 hk) ((q _ _ W (Gr.dF W s _) (S.tok _) rfl))
theorem CT.pX{l}{k}(h:aW H x l):CT n (.st (.builtin "dict.get")) [x, .str k,y] [] H ((l.lookup k).getD y) H:= .mk fun A s W fv vs kv R S rf rx c8 _ Q q=>by
 cases rf;have:kv=[]:=by simpa using c8
 subst this;refine Rg fun kG=> ?_;obtain⟨a,c,u,rfl,ra,rc,ru⟩:=rx.three;obtain⟨d,es,m,rfl,ho,r,nd,hz,hs⟩:=h.run s W a S ra;obtain⟨bd,hd,hr⟩:=dictOf ho r nd;refine kG (YM F.slot_dict_get ⟨_,ho,rfl⟩ F.entry_dict_get (F.args_dict_get_3 _ _ _) (meets_dict_get_default (strKind prog w) d (Rel.isKey rc) hs u) ⟨_,hd.dictOf.mapOf, ?_⟩);cases e:l.lookup k with
 |none=>exact J ((hr.valueAt).1 e) ((q _ _ W (Gr.dF W s _) (S.tok _) (e▸ru)))
 |some z=>obtain⟨v,hv,rv⟩:=(hr.valueAt).2 z e;exact J hv ((q _ _ W (Gr.dF W s _) (S.tok _) (e▸rv)))
theorem CT.len_dict(h:aW H x l):CT n (.st (.builtin "len")) [x] [] H (.int l.length) H:=CT.dH fun A s W vs R S r Q q=>by
 refine Rg fun kG=> ?_;obtain⟨v,rfl,rv⟩:=r.one;obtain⟨d,es,m,rfl,ho,r,nd,hz,hs⟩:=h.run s W v S rv;obtain⟨bd,hd,hr⟩:=dictOf ho r nd;refine kG ?_;have hb:Rs<2^62:=dc;have:=q (s.toks+1) (s.toks+1+1);rw[←hr.length] at this;exact call_len_dict hs hd.dictOf (by refine J hr.length ?_;lia) this
theorem OB.dict(h:aW H x l):OB n x H (!l.isEmpty):= .mk fun A s W a R S r Q q=>by
 refine Rg fun kG=> ?_;obtain⟨d,es,m,rfl,ho,r,nd,hz,hs⟩:=h.run s W a S r;obtain⟨bd,hd,hr⟩:=dictOf ho r nd;refine kG ?_;have hb:Rs<2^62:=dc;refine wpAny_truthy_dict hs hd.dictOf (by refine J hr.length ?_;lia) ?_;have e:(!bd.isEmpty)= !l.isEmpty:=by
  have:=hr.length;cases bd<;>cases l<;>simp_all
 exact e▸q _ W (Gr.dF W s _) (S.tok _)
theorem CT.view(h:aW H x l):CT n (.st (.builtin "dict.items")) [x] [] H (.vw "dict_items" x) H:= .mk fun A s W fv vs kv R S rf rx c8 _ Q q=>by
 cases rf;have:kv=[]:=by simpa using c8
 subst this;refine Rg fun kG=> ?_;obtain⟨a,rfl,ra⟩:=rx.one;obtain⟨d,es,m,rfl,ho,r,nd,hz,hs⟩:=h.run s W a S ra;obtain⟨bd,hd,hr⟩:=dictOf ho r nd;refine kG (YM F.slot_dict_items ⟨_,ho,rfl⟩ F.entry_dict_items (F.args_dict_items_1 _) (meets_dict_items (strKind prog w) d hs) ⟨⟨bd,hd.dictOf⟩, ?_⟩);obtain⟨S2,G2⟩:=S.put (o:=wq "dict_items" (.ref d)) rfl;exact q _ _ _ G2 S2 ⟨_,_,rfl,Wd.al ..,ra.mono G2.le⟩
theorem CT.values(h:aW H x l):CT n (.st (.builtin "dict.values")) [x] [] H (.vw "dict_values" x) H:= .mk fun A s W fv vs kv R S rf rx c8 _ Q q=>by
 cases rf;have:kv=[]:=by simpa using c8
 subst this;refine Rg fun kG=> ?_;obtain⟨a,rfl,ra⟩:=rx.one;obtain⟨d,es,m,rfl,ho,r,nd,hz,hs⟩:=h.run s W a S ra;obtain⟨bd,hd,hr⟩:=dictOf ho r nd;refine kG (YM F.slot_dict_values ⟨_,ho,rfl⟩ F.entry_dict_values (F.args_dict_values_1 _) (meets_dict_values (strKind prog w) d hs) ⟨⟨bd,hd.dictOf⟩, ?_⟩);obtain⟨S2,G2⟩:=S.put (o:=wq "dict_values" (.ref d)) rfl;exact q _ _ _ G2 S2 ⟨_,_,rfl,Wd.al ..,ra.mono G2.le⟩
theorem ET.uy(hm:∃o,br TA=some o){pos}:ET n F (.Dict [] [] pos) ρ H (.bx []) H:= .mk fun A s W env R S E f Q q=>by
 refine J (eval_Dict_empty ..) (bA (Sz ?_));exact q _ _ _ (S.put (o:=dq [] 0) rfl).2 (S.put rfl).1 ⟨_,[],0,rfl,Wd.al ..,rfl,Tl,RW _,oB hm S (S.fresh (af s.heap)).2⟩
theorem ET.xP:ET n F (.Dict [] [] pos) ρ H (.ref H.length) (H++[some (.dict [])]):= .mk fun A s W env R S E f Q q=>by
 refine J (eval_Dict_empty ..) (bA (Sz ?_));obtain⟨S2,G2⟩:=S.new (s':={s with heap:=s.heap.push (dq [] 0)}) (ob:= .dict []) (fun _ _ e=>Rp _ e) (fun e=>absurd ((Rx s.heap rfl).symm.trans e) nofun) rfl rfl (Ri _)
  ⟨[],0,Rx _ rfl,rfl,Tl,RW _⟩
 exact q _ _ _ G2 S2 ⟨_,rfl,by refine aQ S.len ?_;simp[Wd.new]⟩
end
section
variable{n:Nat}{F:Fx}{ρ an cV hU:Loc}{H H1 H2 H3 H4 H5:AH}{g:Fl}
structure pY(K:Frag) C:Prop where
 uz:∀h,(∀a o,br a=some o→h.get? a=some o)→K.In h
 vF:TQ K (.ref C) "__getattribute__"=some (some (.builtin "object.__getattribute__"))
 hk:TQ K (.ref C) "__getattr__"=some none
 hs:TQ K (.ref C) "__setattr__"=some (some (.builtin "object.__setattr__"))
 hp:plainOver K C=true
 hd:hasDictIn K C=true
structure K3(W:Wd)(s:RT)(x:Value)(i d C:Nat) l(a da:Ud)(ox od:Obj) m:Prop where
 f1:x= .ref a
 f2:W.φ[i]?=some a
 f3:W.φ[d]?=some da
 f4:W.I da=none
 f5:ox.dict=some da
 f6:s.heap.get? a=some ox
 f7:InstAt s.heap a ox C (some od)
 f8:s.heap.Ns1 da m
 f9:s.heap.get? da=some od
 QQ:Ni W l m
 QR:∀name,lookIn name od=some (m name)
theorem i6{i C d}{l}(S:ao W H s)(hi:H[i]?=some (some (.inst C d)))(hd:H[d]?=some (some (.ns l)))(r:Rel W (.ref i) x):
  OH fun a da ox od m=>K3 W s x i d C l a da ox od m:=by
 refine Rg fun kG=> ?_;obtain⟨a,rfl,p⟩:=r;obtain⟨a',p',_,da,pd,ho⟩:=S.live i _ hi;refine kG ?_;cases p▸p';refine Rg fun kG=> ?_;obtain⟨QS,K4,hI,m,hn,hm⟩:=S.live d _ hd;refine kG ?_;replace K4:=pd▸K4;cases K4;refine Rg fun kG=> ?_;obtain⟨od,es,ep,Ei,K5,hk,hu,hf⟩:=id hn;refine kG (⟨a,da,_,od,m,rfl,p,pd,hI,rfl,ho,⟨ho,rfl,rfl,Ei⟩,hn,Ei,hm,fun name=> ?_⟩);have K6:es.toList.any (·.refKey)=false:=by
  rw[List.any_eq_false];intro e he;obtain⟨n,t,h⟩:=hk e (by simpa using he);simp[aal.refKey,h]
 have C3:=hf name;unfold nsFind findBy at C3;replace C3:=Z2.symm▸C3;simp only[lookIn,K5];cases e:es.toList.find? (·.key.isStr name) with
 |none=>replace C3:=e▸C3;rw[K6];exact C3▸rfl
 |some en=>rw[e] at C3;exact C3▸rfl
noncomputable def V.hand(y:V):Bool:=by
 cases y with
 |st u=>exact handedIn u
 |_=>exact true
theorem lJ{y}{v}(hy:V.hand y=true)(r:Rel W y v):handedIn v=true:=by
 cases y with
 |none=>cases r;rfl
 |bool b=>cases r;rfl
 |int i=>obtain⟨t,rfl⟩:=r;rfl
 |str x=>obtain⟨t,rfl,_⟩:=r;rfl
 |lit x=>obtain⟨t,rfl,_⟩:=r;rfl
 |tup l=>obtain⟨a,_,_,rfl,_⟩:=r;rfl
 |lst l=>obtain⟨a,_,_,rfl,_⟩:=r;rfl
 |bx l=>obtain⟨a,_,_,rfl,_⟩:=r;rfl
 |ref i=>obtain⟨a,rfl,_⟩:=r;rfl
 |st u=>have e:=r;exact e▸hy
 |bm f x=>obtain⟨a,_,rfl,_⟩:=r;rfl
 |pm f x=>obtain⟨a,_,rfl,_⟩:=r;rfl
 |vw T x=>obtain⟨a,_,rfl,_⟩:=r;rfl
 |dst l=>obtain⟨a,_,_,_,rfl,_⟩:=r;rfl
 |raw P x=>obtain⟨a,_,_,rfl,_⟩:=r;rfl
noncomputable abbrev GA(n:Nat)(x:V)(name:RN)(H:AH)(y:V)(H':AH):Prop:=j4 n (fun v=>getAttr v name true) x H y H'
theorem GA.own{K}{i C d:Nat}{l}{name}{y}{attr}(c:pY K C)(hi:H[i]?=some (some (.inst C d)))(hd:H[d]?=some (some (.ns l)))(hl:l.lookup name=some y)
  (ha:TQ K (.ref C) name=some attr) (hn:noGet K attr=true) (hy:autoParam (V.hand y=true) aR):GA n (.ref i) name H y H:=by
 refine .mk fun A s W a R S r Q q=> ?_;obtain⟨a',da,ox,od,m,rfl,p,pd,hI,Ej,hx,I,AV,Ei,hm,kM⟩:=i6 S hi hd r;obtain⟨v,hv,rv⟩:=(hm name).2 y hl;exact get_value (c.uz _ S.ground) I c.vF (findObj_own c.hd ha hn (J (kM ..) (J (hv ..) rfl))) (lJ hy rv) (q v _ W (Gr.dF W s _) (S.tok _) rv)
theorem GM.fn{K}{i C d:Nat}{l}{name}{f}(c:pY K C)(hi:H[i]?=some (some (.inst C d)))(hd:H[d]?=some (some (.ns l)))(hl:l.lookup name=none)
  (hf:TQ K (.ref C) name=some (some (.ref f))) (ht:typeIn K (.ref f)=some (.type "function")):GM n (.ref i) name H (.st (.ref f)) [.ref i] H:=by
 refine .mk fun A s W v pl R S r Q q=> ?_;obtain⟨a',da,ox,od,m,rfl,p,pd,hI,Ej,hx,I,AV,Ei,hm,kM⟩:=i6 S hi hd r;refine method_fn (c.uz _ S.ground) I c.vF c.hk hf ht ?_ (q _ _ s W (Gr.refl ..) S rfl ⟨_,[],rfl,r,rfl⟩);show(lookIn name od).map (·.isSome)=some false;refine J (kM ..) (J ((hm name).1 hl) ?_);rfl
theorem ET.attr{name}{pos}{x y}(ho:ET n F o ρ H x H1)(hg:GA n x name H1 y H2)
  (he:autoParam (∀env,eval (.Attribute o name pos) env=(do
    let o' ←eval o env
    standAt pos.atName
    let r ←holding [o'] (getAttr o' name true)
    letTemporaryGo o o' r
    pure r)) aI):ET n F (.Attribute o name pos) ρ H y H2:=by
 refine .mk fun A s W env R S E fr Q q=>(Attribute_any_ (ho.run A s W env R S E fr _ fun v s1 W1 G1 S1 r1=> ?_) (he env));exact j4.run hg A s1 W1 v R S1 r1 _ fun u s2 W2 G2 S2 r2=>q u s2 W2 (G1.trans G2) S2 r2
theorem Ek{K}{A}{s}{a' C da}{ox}{od}{m}{name}{tk}{v}{ns}{R}(X:K.In s.heap)(I:InstAt s.heap a' ox C od)(Ej:ox.dict=some da)
  (hp:plainOver K C=true) (ht:YX K C name=some none) (hh:hasDictIn K C=true) (AV:s.heap.Ns1 da m) (wi:Within (fun x=>if x=name then some v else m x) ns) (hz:ns.length≤1000)
  (h:∀h',h'.Ns1 da (fun x=>if x=name then some v else m x)→SU da s.heap h'→R (.ok (.ret .none)) {s with heap:=h',toks:=s.toks+1}):
  Tt (model prog w) A (.call (.builtin "object.__setattr__") ⟨[.ref a', .str name tk,v],[]⟩) R s:=by
 refine osa_open X I hp ht fun b=>(Rg fun kG=> ?_);obtain⟨cd,hc,C4⟩:=any_some hh;obtain⟨hx,gn,hn,-⟩:=I;obtain⟨oc,QT,QU,QV⟩:=ox;refine kG ?_;subst gn Ej;refine bP (Rh (Rh (wpAny_loadPart hx (Rh ((looks_clsIn X hc).here ?_)))));refine J C4 (Rj (bP (Rh ?_)));refine wpAny_nsSet1 AV fun h' xQ vJ=>(Rg fun kG=> ?_);obtain⟨o',es',C5,AZ,hd2,hle⟩:=xQ.count wi;refine kG (Rh (wpAny_lookBehind AZ (by refine J hd2 ?_;exact pastItsLine_dict (R2▸ap hle (ap hz dc))) ?_));exact Rj (h _ xQ vJ)
theorem pZ{K}{i C d:Nat}{l}{name}{y}{A}{s}{W}{x v}(c:pY K C)(hi:H[i]?=some (some (.inst C d)))(hd:H[d]?=some (some (.ns l)))
  (ht:YX K C name=some none) (hz:l.length≤100) (S:ao W H s) (r:Rel W (.ref i) x) (rv:Rel W y v) {Q}
  (q:∀s',Gr ct W s W s'→ao W (H.set d (some (.ns ((name,y)::l)))) s'→Q () s'):wpAny (model prog w) A (setAttr x name v) Q aY s:=by
 obtain⟨a',da,ox,od,m,rfl,p,pd,hI,Ej,hx,I,AV,Ei,hm,kM⟩:=i6 S hi hd r;have wi:Within (fun x=>if x=name then some v else m x) (((name,y)::l).map (·.1)):=by
  intro z vK;by_cases e:z=name
  ·cases e;simp
  ·simp only[if_neg e] at vK;by_cases q:l.lookup z=none
   ·exact absurd ((hm z).1 q) vK
   ·obtain⟨y',OS⟩:=Option.ne_none_iff_exists'.mp q;exact Rm _ (Rz.mpr ⟨(z,y'),mem_of_lookup OS,rfl⟩)
 refine set_plain (c.uz _ S.ground) I c.hs (Ek (c.uz _ S.ground) I Ej c.hp ht c.hd AV wi (by simp;exact eI hz) fun h' xQ vJ=> ?_);have key:OA W h' da (.ns ((name,y)::l)):=by
  refine⟨_,xQ,fun z=>⟨fun e=> ?_,fun y' e=> ?_⟩⟩
  ·replace e:=lookup_cons▸e;by_cases vK:z=name
   ·replace e:=(if_pos vK)▸e;cases e
   ·rw[if_neg vK] at e;exact(if_neg vK)▸(hm z).1 e
  ·rw[lookup_cons] at e;by_cases vK:z=name
   ·replace e:=(if_pos vK)▸e;cases e;exact⟨v,by simp[vK],rv⟩
   ·rw[if_neg vK] at e;exact(if_neg vK)▸(hm z).2 y' e
 obtain⟨S',G'⟩:=S.set (s':={s with heap:=h',toks:=s.toks+1+1}) pd hI (fun b o hb e=>(vJ.2 b hb).trans e) (ch xQ.ns) rfl rfl (gl (gl (Ri _))) key;exact q _ G' S'
theorem AT.attr{K}{i C d:Nat}{l}{o}{name}{pos}{y}(c:pY K C)(ho:ET n F o ρ H (.ref i) H)(hi:H[i]?=some (some (.inst C d)))(hd:H[d]?=some (some (.ns l)))
  (ht:YX K C name=some none) (hz:l.length≤100):AT n F (.Attribute o name pos) y ρ H ρ (H.set d (some (.ns ((name,y)::l)))):=by
 refine .mk fun A s W env v R S E fr r Q q=> ?_;show wpAny _ _ (do
  let ov ←holding [v] (eval o env)
  standAt pos.atName
  holding [v,ov] (setAttr ov name v)
  release [v,ov] []) Q aY s
 refine Rh (wpAny_holding (ho.run A s W env R S E fr _ fun ov s1 W1 G1 S1 r1=>bA (Rh (wpAny_holding ?_))));exact pZ c hi hd ht hz S1 r1 (r.mono G1.le) fun s2 G2 S2=>ZE (q s2 W1 (G1.trans G2).of S2 ((fr.step G1).step G2))
end
section
variable{A:TL}{E:Value→RT→Prop}{s:RT}
theorem sB(h:j≤Rs):XG j=true:=by
 have hb:Rs<2^62:=dc;exact fitsIndex_of (UI j) (by lia)
theorem El{k}{v}{Q}(ho:s.heap.get? l=some (sq "list" vs m))(hj:j<vs.length)(G9:XG k=true)(hk:(j:Int)=k)
  (hQ:∀h' m',h'.get? l=some (sq "list" (vs.set j v) m')→SU l s.heap h'→Q () {s with heap:=h'}):wpAny (model prog w) A (aaK (.ref l) (.int k t) v) Q E s:=by
 have hl:s.heap.IsList l vs.toArray:=⟨_,ho,rfl,m,rfl⟩
 delta aaK
 try with_reducible refine wpAny_holding ?_
 first|refine bP ?_|skip
 refine Rh (wpAny_sequenceKey hl.typeIs dc ?_);refine Rh (Sa hl.typeIs slot_list_setitem
  (wpAny_call_entry slot_list_setitem hl.typeIs entry_list_setitem ?_ (args_list_setitem _ _ _)))
 show wpAny _ _ (Xy (.int k t)>>=_) _ _ s;refine Rh (wpAny_listSubscript_int G9 ?_);clear G9;subst hk;refine Rh (Rh (wpAny_seqItemAt ho rfl (Rj ?_)));refine J (show vs.toArray[j]?=some vs[j] by exact(Sm).trans (RK hj)) ?_;have ni:∃m',(s.heap.update l (RZ (·.setIfInBounds j v))).get? l=some (sq "list" (vs.set j v) m'):=by
  have:=Y4 ho (·.setIfInBounds j v);simp only[(show vs.toArray.setIfInBounds j v=(vs.set j v).toArray by simp)] at this;exact⟨_,this⟩
 obtain⟨m',ni⟩:=ni;refine Rh (wpAny_setSeqItemAt ho rfl ?_)
 first
  |exact bP (Rj ⟨.none,rfl,Rj (hQ _ m' ni (R5 ..))⟩)
  |exact Rj ⟨.none,rfl,Rj (hQ _ m' ni (R5 ..))⟩
end
section
variable{n:Nat}{F:Fx}{ρ an cV hU:Loc}{H H1 H2 H3 H4 H5 H6:AH}{g:Fl}
theorem XT.expr{x}(h:ET n F e ρ H x H1)(hs:autoParam (∀env,Xh e none pos.line env=pure false) aI):
  XT n F (.Expr e pos) ρ H .next ρ H1:= .mk fun A s W env R S E fr Q q=>
 wpAny_Expr_any (h.run A s W env R S E fr _ fun _ s1 W1 G1 S1 _=>q _ s1 W1 G1.of S1 (fr.step G1) rfl) (by unfold aa9;exact E.kind▸rfl) (hs env)
theorem sD(o i:Tk) pos env v:PySem.assign (.Subscript o i pos) env v=(do
  let ov ←holding [v] (eval o env)
  let iv ←holding [v,ov] (eval i env)
  standAt pos
  holding [v,ov,iv] (aaK ov iv v)
  release (match i with| .Slice _ _ none _=>[iv,v,ov]|_=>[v,ov,iv]) []):=rfl
noncomputable abbrev K7(n:Nat)(x i y:V)(H:AH)(H':AH):Prop:=∀A s W(a b c:Value),aC A n→ao W H s→Rel W x a→Rel W i b→Rel W y c→
    ∀Q,(∀s' W',Gr ct W s W' s'→ao W' H' s'→Q () s')→wpAny (model prog w) A (aaK a b c) Q aY s
@[irreducible] noncomputable def IS (n:Nat) (x i y:V) (H:AH) (H':AH):Prop:=K7 n x i y H H'
theorem IS.mk{n x i y H H'}(h:K7 n x i y H H'):IS n x i y H H':=by delta IS;exact h
theorem IS.run{n x i y H H'}(h:IS n x i y H H'):K7 n x i y H H':=by delta IS at h;exact h
theorem IS.list{l:List V}{y}(hk:H[k]?=some (some (.list l)))(hj:j<l.length):IS n (.ref k) (.int j) y H (H.set k (some (.list (l.set j y)))):=by
 refine .mk fun A s W a b c R S ra rb rc Q q=> ?_;obtain⟨a',rfl,p⟩:=ra;obtain⟨t,rfl⟩:=rb;obtain⟨a2,p',hI,us,m,ho,r,hz⟩:=S.live k _ hk;cases p▸p';refine El ho (r.length▸hj) (sB (ap (CQ hj) hz)) rfl fun h' m' AZ hs=> ?_;have rs:∀{l}{us} j,ak W l us→ak W (l.set j y) (us.set j c):=by
  intro l
  induction l with
  |nil=>intro us j r;cases r;rfl
  |cons x l ih=>
   intro us j ⟨v,vs,e,r1,r2⟩;subst e;cases j with
   |zero=>exact⟨c,vs,rfl,rc,r2⟩
   |succ j=>exact⟨v,_,rfl,r1,ih j r2⟩
 obtain⟨S',G'⟩:=S.set (s':={s with heap:=h'}) (ob:= .list (l.set j y)) p hI (fun b o hb e=>(hs.2 b hb).trans e) (J AZ nofun) rfl rfl (Ri _) ⟨_,m',AZ,rs j r,by exact J SS hz⟩;exact q _ W G' S'
theorem IS.dict{key}{y}(hk:H[k]?=some (some (.dict l)))(hz:l.length<Rs):IS n (.ref k) (.str key) y H (H.set k (some (.dict (ip l key y)))):=by
 refine .mk fun A s W a b c R S ra rb rc Q q=> ?_;obtain⟨a',rfl,p⟩:=ra;obtain⟨a2,p',hI,es,m,ho,r,nd,_⟩:=S.live k _ hk;cases p▸p';obtain⟨bd,hd,hr⟩:=dictOf ho r nd;refine wpAny_setItem_pairs (Rel.isKey rb) hd.dictOf (fun h' C4 hs=> ?_) (hr.length▸TC hz);refine Rg fun kG=> ?_;obtain⟨es',m',AZ,r',K8⟩:=lI C4 (hr.put rc);have hlen:(ip l key y).length≤l.length+1:=by delta ip;refine bn (fun _=> ?_) (fun _=> ?_)<;>simp
 obtain⟨S',G'⟩:=S.set (s':={s with heap:=h',toks:=s.toks+1}) (ob:= .dict (ip l key y)) p hI (fun b o hb e=>(hs.2 b hb).trans e) (AZ▸nofun) rfl rfl (TP _) ⟨es',m',AZ,r',K8,by exact ap hlen hz⟩;exact kG (q _ W G' S')
theorem AT.sub{x j y}(ho:ET n F o ρ H x H1)(hi:ET n F i ρ H1 j H2)(hs:IS n x j y H2 H3):AT n F (.Subscript o i pos) y ρ H ρ H3:=by
 refine .mk fun A s W env v R S E fr r Q q=>(J (sD ..) ?_);refine Rh (wpAny_holding (ho.run A s W env R S E fr _ fun ov s1 W1 G1 S1 r1=>Rh (wpAny_holding (hi.run A s1 W1 env R S1 E (fr.step G1) _ fun iv s2 W2 G2 S2 r2=>bA (Rh (wpAny_holding ?_))))));refine hs.run A s2 W2 ov iv v R S2 (r1.mono G2.le) r2 ((r.mono G1.le).mono G2.le) _ fun s3 W3 G3 S3=>ZE ?_;have G:=(G1.trans G2).trans G3;exact q s3 W3 G.of S3 (fr.step G)
theorem Em.add_int:OT n (X8 .Add) (.int a) (.int b) H (.int (a+b)) H:=OT.dH fun A s W x y R S ra rb Q q=>by
 obtain⟨t,rfl⟩:=ra;obtain⟨u,rfl⟩:=rb;exact wpAny_iadd_int (q _ _)
theorem XT.aug{op}{value}{a b c}(hl:ρ.lookup x=some a)(hv:ET n F value ρ H b H1)(ho:OT n (X8 op) a b H1 c H2)(fQ:ST F x)(GO:autoParam ((x=="__classdict__")=false) aD):
  XT n F (.AugAssign (.Name x OU) op value pos) ρ H .next ((x,c)::ρ) H2:=by
 refine .mk fun A s W env R S E fr Q q=>(wpAny_AugAssign_Name ?_);have fin:∀u,Rel W a u→wpAny (model prog w) A (eval value env) (fun v fZ=>wpAny (model prog w) A (X8 op u v) (fun r gv=>wpAny (model prog w) A (storeName env x r) (fun _=>Q .next) aY gv) aY fZ) aY s:=fun u ru=>
  hv.run A s W env R S E fr _ fun v s1 W1 G1 S1 r1=>ho.run A s1 W1 u v R S1 (ru.mono G1.le) r1 _ fun z s2 W2 G2 S2 r2=>fQ.run A s2 W2 H2 ρ env c z S2 E ((fr.step G1).step G2) r2 _ fun s3 G3 S3 f3=>
   q _ s3 W2 (((G1.trans G2).of).trans G3) S3 f3 rfl
 by_cases k:env.kindOf x=some .local
 ·obtain⟨m,hn,hm⟩:=fr.m;obtain⟨u,e,r⟩:=hm x a hl k;exact Wc E.kind k hn e (fin u r)
 ·obtain⟨c',u,e,hc,r⟩:=fr.cell x a hl k;rcases(fr.kind x a hl).resolve_left k with k|k
  ·exact abd E.kind k e hc (fin u r)
  ·exact abc E.kind k e hc (fin u r) GO
theorem XT.sE{op}{value}{x j a b c}(ho:ET n F o ρ H x H1)(hi:ET n F i ρ H1 j H2)(hg:OT n Vx x j H2 a H3)(hv:ET n F value ρ H3 b H4)(K9:OT n (X8 op) a b H4 c H5)
  (hs:IS n x j c H5 H6) (ha:autoParam (∀ov iv new,augStore i ov iv new=(do holding [new,ov,iv] (aaK ov iv new);release [new,ov,iv] [];pure .next)) aI):
  XT n F (.AugAssign (.Subscript o i iJ) op value pos) ρ H .next ρ H6:=by
 refine .mk fun A s W env R S E fr Q q=> ?_;refine wpAny_AugAssign_SubscriptAny (ho.run A s W env R S E fr _ fun ov s1 W1 G1 S1 r1=>hi.run A s1 W1 env R S1 E (fr.step G1) _ fun iv s2 W2 G2 S2 r2=>hg.run A s2 W2 ov iv R S2 (r1.mono G2.le) r2 _ fun old s3 W3 G3 S3 r3=>
  hv.run A s3 W3 env R S3 E (((fr.step G1).step G2).step G3) _ fun v s4 W4 G4 S4 r4=>K9.run A s4 W4 old v R S4 (r3.mono G4.le) r4 _ fun z s5 W5 G5 S5 r5=> ?_) ha
 have Nn:=Wd.le_trans (Wd.le_trans G3.le G4.le) G5.le;refine hs.run A s5 W5 ov iv z R S5 ((r1.mono G2.le).mono Nn) (r2.mono Nn) r5 _ fun s6 W6 G6 S6=> ?_;have G:=((((G1.trans G2).trans G3).trans G4).trans G5).trans G6;exact q _ s6 W6 G.of S6 (fr.step G) rfl
theorem XT.uA{K}{i C d:Nat}{l}{o}{name}{La pos}{op}{value}{a b c}(cf:pY K C)(ho:ET n F o ρ H (.ref i) H)(vF:GA n (.ref i) name H a H)(hv:ET n F value ρ H b H)
  (K9:OT n (X8 op) a b H c H) (hi:H[i]?=some (some (.inst C d))) (hd:H[d]?=some (some (.ns l))) (ht:YX K C name=some none) (hz:l.length≤100):
  XT n F (.AugAssign (.Attribute o name La) op value pos) ρ H .next ρ (H.set d (some (.ns ((name,c)::l)))):=by
 refine .mk fun A s W env R S E fr Q q=>(wpAny_AugAssign_AttributeAny (ho.run A s W env R S E fr _ fun ov s1 W1 G1 S1 r1=>j4.run vF A s1 W1 ov R S1 r1 _ fun old s2 W2 G2 S2 r2=>hv.run A s2 W2 env R S2 E ((fr.step G1).step G2) _ fun v s3 W3 G3 S3 r3=>K9.run A s3 W3 old v R S3 (r2.mono G3.le) r3 _ fun z s4 W4 G4 S4 r4=> ?_));refine pZ cf hi hd ht hz S4 (((r1.mono G2.le).mono G3.le).mono G4.le) r4 fun s5 G5 S5=> ?_;have G:=(((G1.trans G2).trans G3).trans G4).trans G5;exact q _ s5 W4 G.of S5 (fr.step G) rfl
theorem XT.try{x}(h:ag n F body ρ H (.ret x) an H1):XT n F (.Try body (h₀::hs) [] [] pos) ρ H (.ret x) an H1:=by
 refine .mk fun A s W env R S E fr Q q=>(wpAny_Try_except (RM (h.run A s W env R S E fr (fun f s1=>(∃v,f= .ret v)∧Q f s1) fun f s1 W1 G1 S1 f1 r1=>⟨let⟨v,e,_⟩:=r1;⟨v,e⟩,q f s1 W1 G1 S1 f1 r1⟩) (fun f s1 h1=> ?_) fun _ _ e=>e.elim));obtain⟨⟨v,rfl⟩,h1⟩:=h1;exact h1
noncomputable abbrev Lb(n:Nat)(F:Fx)(test:Tk)(body orelse:List Vy)(ρ:Loc)(H:AH)(f:Fl)(ρ':Loc)(H':AH):Prop:=∀A s W env,aC A n→ao W H s→aA F env→cR W ρ env s.heap→
    ∀Q:Flow→RT→Prop,(∀g s' W',Gr (own env) W s W' s'→ao W' H' s'→cR W' ρ' env s'.heap→f.rel W' g→Q g s')→
     Tt (model prog w) A (.whileLoop test body orelse env) (fun r s'=>∃g,r= .ok g∧Q g s') s
@[irreducible] noncomputable def XW (n:Nat) (F:Fx) (test:Tk) (body orelse:List Vy) (ρ:Loc) (H:AH) (f:Fl) (ρ':Loc) (H':AH):Prop:=Lb n F test body orelse ρ H f ρ' H'
theorem XW.mk{n F test body orelse ρ H f ρ' H'}(h:Lb n F test body orelse ρ H f ρ' H'):XW n F test body orelse ρ H f ρ' H':=by delta XW;exact h
theorem XW.run{n F test body orelse ρ H f ρ' H'}(h:XW n F test body orelse ρ H f ρ' H'):Lb n F test body orelse ρ H f ρ' H':=by delta XW at h;exact h
theorem XW.done{body orelse}(ht:TT n F test ρ H false H1)(h:ag n F orelse ρ H1 g an H2):XW n F test body orelse ρ H g an H2:=by
 refine .mk fun A s W env R S E fr Q q=>(SD ?_);refine T7 (dh fun Q' E' qq _=> ?_);refine Rh (lE (ht.run A s W env R S E fr _ fun s1 W1 G1 S1=> ?_));refine Rh (lE (h.run A s1 W1 env R S1 E (fr.step G1) _ fun f s2 W2 G2 S2 f2 r2=>Rj (qq _ _ ⟨f,rfl,q f s2 W2 (G1.of.trans G2) S2 f2 r2⟩)))
theorem XW.turn(ht:TT n F test ρ H true H1)(hb:ag n F body ρ H1 .next an H2)(h:XW n F test body orelse an H2 g cV H3):XW n F test body orelse ρ H g cV H3:=by
 refine .mk fun A s W env R S E fr Q q=>(SD ?_);refine T7 (dh fun Q' E' qq _=> ?_);refine Rh (lE (ht.run A s W env R S E fr _ fun s1 W1 G1 S1=> ?_));refine Rh (lE (hb.run A s1 W1 env R S1 E (fr.step G1) _ fun f s2 W2 G2 S2 f2 r2=> ?_));cases r2;exact Rj (qq _ _ ⟨rfl,h.run A s2 W2 env R S2 E f2 Q fun g s3 W3 G3 S3 f3 r3=>q g s3 W3 ((G1.of.trans G2).trans G3) S3 f3 r3⟩)
theorem XT.while(h:XW n F test body orelse ρ H g an H1):XT n F (.While test body orelse pos) ρ H g an H1:= .mk fun A s W env R S E fr Q q=>
 wpAny_While (UB (h.run A s W env R S E fr Q q) fun r s' hr=>by obtain⟨g,rfl,hr⟩:=hr;exact hr)
theorem XW.sub(h:XW n F test body orelse ρ' H g an H1)(k:∀n x,ρ'.lookup n=some x→ρ.lookup n=some x):XW n F test body orelse ρ H g an H1:=
 .mk fun A s W env R S E fr Q q=>h.run A s W env R S E (fr.sub k) Q q
theorem ae:∀n x,([]:Loc).lookup n=some x→ρ.lookup n=some x:=fun _ _ h=>by cases h
theorem aa{ρ':Loc}(h:ρ.lookup k=some v)(r:∀n x,ρ'.lookup n=some x→ρ.lookup n=some x):∀n x,((k,v)::ρ').lookup n=some x→ρ.lookup n=some x:=fun n x e=>by
 rw[lookup_cons] at e;by_cases hn:n=k
 ·subst hn;replace e:=(if_pos rfl)▸e;cases e;exact h
 ·rw[if_neg hn] at e;exact r n x e
end
section
variable{n:Nat}{F:Fx}{ρ an cV hU:Loc}{H H1 H2 H3 H4 H5 H6:AH}{g:Fl}
theorem j6(p:IsPart v k):∃q,v=partValue q∧k=q.map (·.1):=by
 cases p with
 |none=>exact⟨RB,rfl,rfl⟩
 |int i t=>exact⟨some (i,t),rfl,rfl⟩
theorem GT.str{lo hi}:GT n (.str x) lo hi none H (.str (TH x lo hi)) H:=by
 refine .mk fun A s W o a vl vu vs R S r hs pl pu ps Q q=>(Rg fun kG=> ?_);obtain⟨t,rfl,hz⟩:=r;obtain⟨ql,rfl,rfl⟩:=j6 pl;obtain⟨qu,rfl,rfl⟩:=j6 pu;refine kG ?_;cases ps;refine wpAny_toks (wpAny_getItem_str_slice (st:=RB) hs rfl (post_val_or_str ⟨Rq (X9 x _ _) hz,fun t' k ht=> ?_⟩));exact q _ _ W (Gr.dF W s k) (S.tok k ht) ⟨t',rfl,Rq (X9 x _ _) hz⟩
theorem ET.qb{x}(h:ET n F value ρ H (.str x) H1):ET n F (.FormattedValue value (-1) RB pos) ρ H (.str x) H1:=by
 refine .mk fun A s W env R S E fr Q q=>(ZB (h.run A s W env R S E fr _ fun v s1 W1 G1 S1 r1=> ?_));obtain⟨t,rfl,hz⟩:=r1;refine wpAny_formatField_str (q _ s1 W1 G1 S1 ⟨t,rfl,hz⟩) (q _ _ W1 (G1.tok _) (S1.tok _) ⟨_,rfl,hz⟩) hz
theorem ET.Lc{i}(h:ET n F value ρ H (.int i) H1)(hd:i.natAbs.log2<1920)(hz:(VK (toString i)).length≤Rs):ET n F (.FormattedValue value (-1) RB pos) ρ H (.str (toString i)) H1:=by
 refine .mk fun A s W env R S E fr Q q=>(ZB (h.run A s W env R S E fr _ fun v s1 W1 G1 S1 r1=> ?_));obtain⟨t,rfl⟩:=r1;exact wpAny_formatField_int hd (q _ _ W1 (G1.tok _) (S1.tok _) ⟨_,rfl,hz⟩)
noncomputable abbrev Ld(n:Nat)(F:Fx)(ts:List Tk)(ρ:Loc)(H:AH)(acc out:RN)(H':AH):Prop:=∀A s W env,aC A n→ao W H s→aA F env→cR W ρ env s.heap→
    ∀Q,(∀s' W',Gr ct W s W' s'→ao W' H' s'→Q out s')→Joins (model prog w) A aY (evalEach ts env) acc Q s
@[irreducible] noncomputable def FP (n:Nat) (F:Fx) (ts:List Tk) (ρ:Loc) (H:AH) (acc out:RN) (H':AH):Prop:=Ld n F ts ρ H acc out H'
theorem FP.mk{n F ts ρ H acc out H'}(h:Ld n F ts ρ H acc out H'):FP n F ts ρ H acc out H':=by delta FP;exact h
theorem FP.run{n F ts ρ H acc out H'}(h:FP n F ts ρ H acc out H'):Ld n F ts ρ H acc out H':=by delta FP at h;exact h
theorem FP.nil:FP n F [] ρ H acc acc H:= .mk fun _ s W _ _ S _ _ _ q=>q s W (Gr.refl ..) S
theorem FP.cons{acc x out}(h:ET n F e ρ H (.str x) H1)(hr:FP n F ts ρ H1 (acc++x) out H2)(hz:(acc++x).length≤Rs)
  (he:autoParam (∀env,evalEach (e::ts) env=eval e env::evalEach ts env) aI):FP n F (e::ts) ρ H acc out H2:=by
 refine .mk fun A s W env R S E fr Q q=>(J (he env) ?_);refine h.run A s W env R S E fr _ fun v s1 W1 G1 S1 r1=> ?_;obtain⟨t,rfl,_⟩:=r1;exact⟨x,t,rfl,hz,hr.run A s1 W1 env R S1 E (fr.step G1) Q fun s2 W2 G2 S2=>q s2 W2 (G1.trans G2) S2⟩
theorem ET.A1{out}(h:FP n F (Le::Lf::rest) ρ H Wp out H1)(hz:out.length≤Rs):ET n F (.JoinedStr (Le::Lf::rest) pos) ρ H (.str out) H1:=by
 exact .mk fun A s W env R S E fr Q q=>(wpAny_JoinedStr (h.run A s W env R S E fr _ fun s1 W1 G1 S1=>⟨hz,q _ _ W1 (G1.tok _) (S1.tok _) ⟨_,rfl,hz⟩⟩))
theorem GA.aT{K}{i C d:Nat}{l}{name}{f}(c:pY K C)(hi:H[i]?=some (some (.inst C d)))(hd:H[d]?=some (some (.ns l)))(hl:l.lookup name=none)
  (hf:∀od,lookIn name od=some none→findObj K C (some od) name=some (.bind (.builtin "function.__get__") (.ref f))) (ht:typeIn K (.ref f)=some (.type "function")):GA n (.ref i) name H (.pm f (.ref i)) H:=by
 refine .mk fun A s W a R S r Q q=> ?_;obtain⟨a',da,ox,od,m,rfl,p,pd,hI,Ej,hx,I,AV,Ei,hm,kM⟩:=i6 S hi hd r;refine get_bind (c.uz _ S.ground) I c.vF (hf od (J (kM ..) (J ((hm name).1 hl) rfl))) c.hk (Vk (fn_get (c.uz _ S.ground) ht ?_));refine Rj ?_;obtain⟨S2,G2⟩:=(S.tok (s.toks+1)).put (o:=mq f (.ref a')) rfl;exact q _ _ _ ((Gr.dF W s _).trans G2) S2 ⟨_,_,rfl,Wd.al ..,r.mono G2.le⟩
theorem CT.pm{xs}(h:CC n (.st (.ref f)) (self::xs) [] H x H1):CT n (.pm f self) xs [] H x H1:= .mk fun A s W fv vs kv R S rf rx c8 _ Q q=>by
 have:kv=[]:=by simpa using c8
 subst this;obtain⟨a,u,rfl,hI,ru⟩:=rf;exact Vk (method_call (S.cr _ _ hI) (h.run A s W (.ref f) (u::vs) [] R S rfl ⟨u,vs,rfl,ru,rx⟩ rfl rfl Q q))
end
section
variable{n:Nat}{F:Fx}{ρ an cV hU:Loc}{H H1 H2 H3 H4 H5 H6:AH}{g:Fl}
noncomputable def uB:Nat→List V→List V
 |_,[]=>[]
 |i,x::xs=> .tup [.int i,x]::uB (i+1) xs
theorem ao.but{Y}(S:ao W H s)(k:∀b o,¬Y b→s.heap.get? b=some o→s'.heap.get? b=some o)(hY:∀b,Y b→jD W b)(hg:s'.gens=s.gens)(sF:s'.os=s.os)(ht:s.toks≤s'.toks):
  ao W H s'∧Gr Y W s W s':=
 ⟨S.same (fun b o e h=>k b o (fun y=>h.elim (hY b y).1 fun h=>h (hY b y).2) e) (hg▸S.bare) ht,
  ⟨W.le_refl,fun _ h=> .inl h,fun _ _ h=> .inl h,fun b o e _ hb=>k b o hb e,fun b h hb=>by
   cases q:s.heap.get? b with
   |none=>exact absurd q h
   |some o=>refine J (k b o hb q) ?_;exact nofun,sF,by exact hg▸fun _ _ h=>h⟩⟩
theorem ao.xR{Y}{a}{o}(S:ao W H s)(k:∀b o,¬Y b→s.heap.get? b=some o→s'.heap.get? b=some o)(hY:∀b,Y b→jD W b)(hg:s'.gens=s.gens)(sF:s'.os=s.os)
  (ht:s.toks≤s'.toks) (ha:s.heap.get? a=none) (ho:s'.heap.get? a=some o):ao (W.put a o) H s'∧Gr Y W s (W.put a o) s'∧W.le (W.put a o):=by
 obtain⟨S2,G2,l⟩:=(S.but k hY hg sF ht).1.adopt (S.fresh ha) ho;exact⟨S2,(S.but k hY hg sF ht).2.base G2 fun x e h=>by cases e;exact absurd ha h,l⟩
theorem dT.enum{vs}{m}(JS:¬X e)(JT:¬X it)(aV:e≠it):∀xs i old W s,W.I l=some (sq "list" vs m)→ak W xs (vs.drop i)→
  IsEnum s.heap e it i old→s.heap.IsListIter it l i→(jD W e)→(jD W it)→dT n (fun _=>True,fun t=>isTup t=true) X (.ref e) (fun a=>a=e∨a=it) (uB i xs) W s:=by
 intro rv
 induction rv with
 |nil=>
  intro i old W s hI hr he hit fe fi;intro A s1 W1 H1 R G S hp;have dk:s1.heap.IsListIter it l i:=by obtain⟨o,ho,r⟩:=hit;exact⟨o,G.heap _ _ ho fi.1 JT,r⟩
  have Ha:s.heap.get? it≠none:=by obtain⟨o,ho,r⟩:=hit;exact ho▸nofun
  refine wpAny_pyNext_enum_end R.handled (G.heap _ _ he fe.1 JS) dk (aB S (Wd.fw G.le hI)) ((Sm)▸Sw (by simpa using(show vs.drop i=[] from hr))) fun h' hx=>⟨rfl, ?_⟩;have:=S.but (s':={s1 with heap:=h'}) (Y:=fun a=>a=e∨a=it) (fun b o hb e=>hx b o (fun q=>hb (.inr q)) e) (fun b y=>by rcases y with rfl|rfl;exact(am G (he▸nofun) fe JS);exact(am G Ha fi JT)) rfl rfl (Ri _);exact⟨this.2,this.1⟩
 |cons x xs ih=>
  intro i old W s hI hr he hit fe fi;intro A s1 W1 H1 R G S hp;obtain⟨v,us,ev,r1,r2⟩:=hr;have No:IsEnum s1.heap e it i old:=G.heap _ _ he fe.1 JS;have dk:s1.heap.IsListIter it l i:=by obtain⟨o,ho,r⟩:=hit;exact⟨o,G.heap _ _ ho fi.1 JT,r⟩
  have Ha:s.heap.get? it≠none:=by obtain⟨o,ho,r⟩:=hit;exact ho▸nofun
  have Np:=am G Ha fi JT;have Nq:=am G (he▸nofun) fe JS;have hv:vs[i]?=some v:=by refine aQ WP (J ev ?_);rfl
  have hd:vs.drop (i+1)=us:=by refine aQ Xe (J ev ?_);rfl
  refine wpAny_pyNext_enum_item No dk (aB S (Wd.fw G.le hI)) ((Sm)▸hv) aV fun h' Lg fV xS hsz hk=>⟨_,rfl,fun target ht=> ?_⟩;cases target with
  |Tuple elts k pos=>
   refine wpAny_letOwnedTupleGo_enum Lg fun En Eo hs=> ?_;have Hb:s1.heap.objs.size≠e:=fun q=>by
    have:=RV No;rw[←q] at this;exact SQ _ this
   have vJ:SU e h' En:=hs;obtain⟨S2,G2,l2⟩:=S.xR (s':={s1 with heap:=En,toks:=s1.toks+1}) (Y:=fun a=>a=e∨a=it)
    (fun b o hb e'=>(vJ.2 b fun q=>hb (.inl q)).trans (hk b o (fun q=>hb (.inl q)) (fun q=>hb (.inr q)) e')) (fun b y=>by rcases y with rfl|rfl;exact Nq;exact Np) rfl rfl (TP _) (af _) ((vJ.2 _ Hb).trans xS)
   refine⟨_,G2,S2,⟨_,_,0,rfl,Wd.al ..,⟨_,_,rfl,⟨_,rfl⟩,_,_,rfl,(r1.mono G.le).mono l2,rfl⟩,by simp;decide⟩, ?_⟩;have xT:En.IsListIter it l (i+1):=by obtain⟨o,ho,r⟩:=fV;exact⟨o,(vJ.2 _ (SK aV)).trans ho,r⟩
   have Nr:∀b,(jD W1 b)→b≠s1.heap.objs.size→(jD (W1.put s1.heap.objs.size (sq "tuple" [.int i s1.toks,v] 0)) b):=fun b hb hn=>⟨hb.1,by simpa [Wd.put,hn] using hb.2⟩;have Lh:s1.heap.objs.size≠it:=fun q=>by
    obtain⟨o,ho,_⟩:=dk;have:=RV ho;rw[←q] at this;exact SQ _ this
   exact ih (i+1) v _ {s1 with heap:=En,toks:=s1.toks+1} (Wd.fw l2 (Wd.fw G.le hI)) (hd▸(r2.mono G.le).mono l2) (Eo) xT (Nr e Nq (SK Hb)) (Nr it Np (SK Lh))
  |_=>cases ht
noncomputable abbrev Li(n:Nat)(f:V)(xs:List V)(H:AH)(ys:List V)(P:PP)(H':AH):Prop:=∀A s W fv vs,aC A n→ao W H s→Rel W f fv→ak W xs vs→
    ∀Q,(∀it Y s' W',Gr ct W s W' s'→ao W' H' s'→Src n P it Y ys s W' s'→Q it s')→
     wpAny (model prog w) A (call fv vs []) (fun x s1=>wpAny (model prog w) A (Wn x) Q aY s1) aY s
@[irreducible] noncomputable def CI (n:Nat) (f:V) (xs:List V) (H:AH) (ys:List V) (P:PP) (H':AH):Prop:=Li n f xs H ys P H'
theorem CI.mk{n f xs H ys P H'}(h:Li n f xs H ys P H'):CI n f xs H ys P H':=by delta CI;exact h
theorem CI.run{n f xs H ys P H'}(h:CI n f xs H ys P H'):Li n f xs H ys P H':=by delta CI at h;exact h
theorem Src.back{s0 s1 s2}{W0 W1 W2}(c:Src n P it Y ys s1 W2 s2)(G:Gr ct W0 s0 W1 s1):Src n P it Y ys s0 W2 s2:=
 ⟨fun a y=>⟨(G.back (c.new a y).1).resolve_right id,(c.new a y).2⟩,c.feed,c.self⟩
theorem IT.call{pos}{f}{xs ys}{P}(hf:ET n F func ρ H f H1)(ha:ab n F pos args ρ H1 xs H2)(hk:aM f)(hc:CI n f xs H2 ys P H3)
  (he:autoParam (∀env,eval (.Call func args [] pos) env=(do UT pos (←eval func env) [] (backTo pos (starEach args env)) (backToKw pos (keywordEach [] env)))) aI)
  (hp:autoParam (∀env,(backTo pos (starEach args env)).any (·.1)=false) aI):IT n F (.Call func args [] pos) ρ H ys P H3:=by
 refine .mk fun A s W env R S E fr Q q=>(J (he env) ?_);refine Rh (hf.run A s W env R S E fr _ fun fv s1 W1 G1 S1 r1=> ?_);show wpAny _ _ (UT pos fv [] (backTo pos (starEach args env)) []) _ aY s1;refine UV (P:=Kp fv) (by simp[hp env]) (fun _ h=>h) (cw ha R S1 E (fr.step G1) (hp env) fun vs s2 W2 G2 S2 r2=>⟨hk.run s2 W2 _ fv S2 (r1.mono G2.le), ?_⟩);exact hc.run A s2 W2 fv vs R S2 (r1.mono G2.le) r2 Q fun it Y s3 W3 G3 S3 c=>q it Y s3 W3 ((G1.trans G2).trans G3) S3 (c.back (G1.trans G2))
theorem dj.enum(hX:¬X e)(he:IsEnum s.heap e it i old)(fh:e∉W.φ):dj X (.ref e) W s:=fun A s1 W1 H1 G S Q q=>
 wpAny_pyIter_enum (G.heap _ _ he fh hX) q
theorem CI.enum:CI n (.st (.type "enumerate")) [.lst xs] H (uB 0 xs) (fun _=>True,fun t=>isTup t=true) H:=by
 refine .mk fun A s W fv vs R S rf rx Q q=> ?_;cases rf;obtain⟨v,rfl,⟨a,us,m,rfl,hI,ru,_⟩⟩:=rx.one;refine call_enumerate_list (aB S hI) fun h' he hit hsz hk=> ?_;have n0:s.heap.get? s.heap.objs.size=none:=af _;have n1:s.heap.get? (s.heap.objs.size+1)=none:=by
  cases e:s.heap.get? (s.heap.objs.size+1) with
  |none=>rfl
  |some o=>exact absurd (RV e) (T8.mpr (TP _))
 have f1:=S.fresh n1;have t0:h'.get? s.heap.objs.size≠none:=by obtain⟨o,ho,_⟩:=hit;exact ho▸nofun
 refine wpAny_pyIter_enum he (q _ (fun a=>a=s.heap.objs.size+1∨a=s.heap.objs.size) _ W (⟨W.le_refl,fun _ h=> .inl h,fun _ _ h=> .inl h,fun b o e _ _=>hk b o e,fun b h _=>bt hk b h,rfl,fun _ _ h=>h⟩) (S.same (fun b o e _=>hk b o e) S.bare) ⟨fun b y=> ?_,fun X hX=> ?_,fun X hX=> ?_⟩)
 ·rcases y with rfl|rfl
  ·exact⟨n1,by exact(he)▸nofun⟩
  ·exact⟨n0,t0⟩
 ·exact dT.enum (fun x=>hX _ x (.inl rfl)) (fun x=>hX _ x (.inr rfl)) (VZ _) xs 0 .none W {s with heap:=h'} hI ru he hit f1 (S.fresh n0)
 ·exact dj.enum (fun x=>hX _ x (.inl rfl)) he f1.1
noncomputable def cy(l:List (RN×V)):List V:=l.map fun p=> .tup [.str p.1,p.2]
theorem bX.at:∀{bd}{i:Nat},bX W l bd→bd[i]?=some (k,v)→∃x,l[i]?=some (k,x)∧Rel W x v:=by
 induction l with
 |nil=>intro _ _ r h;cases r;cases h
 |cons p l ih=>
  rintro _ i ⟨u,us,e,a,b⟩ h;subst e;cases i with
  |zero=>cases h;exact⟨_,rfl,a⟩
  |succ i=>exact ih b h
theorem eC{s}{I}{o}{vs}{v}{target}{Q}(ho:s.heap.get? I=some o){T}(hc:o.cls= .type T)(hd:o.data= .fields vs)
  (hT:(["enumerate","zip","dict_itemiterator","dict_reverseitemiterator","odict_iterator","itertools.zip_longest","itertools.pairwise"].contains T)=false) (h:Q () s):wpAny (model prog w) A (Tp target (.ref I) v) Q aY s:=by
 have key:wpAny (model prog w) A (Tp (.Tuple [] 0 ⟨0,0,0,0⟩) (.ref I) v) Q aY s:=by
  cases v with
  |ref a=>
   refine bL ho (J hc (J hd ?_));show wpAny _ A (if _ then _ else _) Q aY s;exact hT▸Rj h
  |_=>exact Rj h
 cases target with
 |Tuple=>exact key
 |List=>exact key
 |_=>exact Rj h
theorem dT.values{es}{m}{l}(hX:¬X it):∀(k i:Nat) W s,k=l.length-i→i≤l.length→W.I d=some (dq es m)→d7 W l es→(l.map (·.1)).Nodup→
  s.heap.IsValIter it d i l.length m→it∉W.φ→W.I it=none→dT n (fun _=>True,fun _=>True) X (.ref it) (fun a=>a=it) ((l.drop i).map (·.2)) W s:=by
 intro rv
 induction rv with
 |zero=>
  intro i W s hk hle hI hr nd hit fh hi;have:=si hle (GG hk);subst this;refine J VW fun A s1 W1 H1 R G S hp=> ?_;have dk:s1.heap.IsValIter it d l.length l.length m:=by obtain⟨o,ho,r⟩:=hit;exact⟨o,G.heap _ _ ho fh hX,r⟩
  refine Rg fun kG=> ?_;obtain⟨bd,hd,j7⟩:=dictOf (S.cr _ _ (Wd.fw G.le hI)) (hr.mono G.le) nd;refine kG ?_;have hlen:=j7.length;have fr:=am G (by obtain⟨o,ho,r⟩:=hit;exact J ho nofun) ⟨fh,hi⟩ hX;refine wpAny_pyNext_values_end R.handled (J hlen ((dk))) hd (Sw (bD hlen)) fun h' hx=>⟨rfl, ?_⟩;have:=S.but (s':={s1 with heap:=h'}) (fun b o hb e=>hx b o hb e) (fun b y=>by cases y;exact fr) rfl rfl (Ri _);exact⟨this.2,this.1⟩
 |succ k ih=>
  intro i W s hk hle hI hr nd hit fh hi;have cg:=GH hk;have e1:=SM cg;refine J e1 (J RD ?_);intro A s1 W1 H1 R G S hp;have dk:s1.heap.IsValIter it d i l.length m:=by obtain⟨o,ho,r⟩:=hit;exact⟨o,G.heap _ _ ho fh hX,r⟩
  refine Rg fun kG=> ?_;obtain⟨bd,hd,j7⟩:=dictOf (S.cr _ _ (Wd.fw G.le hI)) (hr.mono G.le) nd;have hlen:=j7.length;have fr:=am G (by obtain⟨o,ho,r⟩:=hit;exact J ho nofun) ⟨fh,hi⟩ hX;have xU:=ap cg (lq hlen);obtain⟨key,v,hx⟩:∃key v,bd[i]?=some (key,v):=⟨bd[i].1,bd[i].2,RK xU⟩;obtain⟨x,AB,rx⟩:=j7.at hx;refine kG ?_;have Ep:l[i]=(key,x):=by rw[RK cg] at AB;exact U0 AB
  refine wpAny_pyNext_values_item (J hlen ((dk))) hd hx fun h' fV hs=>⟨v,rfl,fun target _=> ?_⟩;refine Rg fun kG=> ?_;obtain⟨o2,sG,sH,hd2⟩:=id fV;refine kG (eC sG sH hd2 dc ?_);have:=S.but (s':={s1 with heap:=h'}) (fun b o hb e=>(hs.2 b hb).trans e) (fun b y=>by cases y;exact fr) rfl rfl (Ri _);exact J Ep ((⟨W1,this.2,this.1,rx,ih (i+1) W1 _ (GI hk) cg (Wd.fw G.le hI) (hr.mono G.le) nd (hlen▸fV) fr.1 fr.2⟩))
theorem dT.keys{es}{m}{l}(hX:¬X it)(vL:∀p∈l,p.1.length≤Rs):∀(k i:Nat) W s,k=l.length-i→i≤l.length→W.I d=some (dq es m)→d7 W l es→(l.map (·.1)).Nodup→
  s.heap.IsKeyIter it d i l.length m→it∉W.φ→W.I it=none→dT n (fun _=>True,fun _=>True) X (.ref it) (fun a=>a=it) ((l.drop i).map fun p=>V.str p.1) W s:=by
 intro rv
 induction rv with
 |zero=>
  intro i W s hk hle hI hr nd hit fh hi;have:=si hle (GG hk);subst this;refine J VW fun A s1 W1 H1 R G S hp=> ?_;have dk:s1.heap.IsKeyIter it d l.length l.length m:=by obtain⟨o,ho,r⟩:=hit;exact⟨o,G.heap _ _ ho fh hX,r⟩
  refine Rg fun kG=> ?_;obtain⟨bd,hd,j7⟩:=dictOf (S.cr _ _ (Wd.fw G.le hI)) (hr.mono G.le) nd;refine kG ?_;have hlen:=j7.length;have fr:=am G (by obtain⟨o,ho,r⟩:=hit;exact J ho nofun) ⟨fh,hi⟩ hX;refine aax R.handled (J hlen ((dk))) hd (Sw (bD hlen)) fun h' hx=>⟨rfl, ?_⟩;have:=S.but (s':={s1 with heap:=h'}) (fun b o hb e=>hx b o hb e) (fun b y=>by cases y;exact fr) rfl rfl (Ri _);exact⟨this.2,this.1⟩
 |succ k ih=>
  intro i W s hk hle hI hr nd hit fh hi;have cg:=GH hk;have e1:=SM cg;refine J e1 (J RD ?_);intro A s1 W1 H1 R G S hp;have dk:s1.heap.IsKeyIter it d i l.length m:=by obtain⟨o,ho,r⟩:=hit;exact⟨o,G.heap _ _ ho fh hX,r⟩
  refine Rg fun kG=> ?_;obtain⟨bd,hd,j7⟩:=dictOf (S.cr _ _ (Wd.fw G.le hI)) (hr.mono G.le) nd;have hlen:=j7.length;have fr:=am G (by obtain⟨o,ho,r⟩:=hit;exact J ho nofun) ⟨fh,hi⟩ hX;have xU:=ap cg (lq hlen);obtain⟨key,v,hx⟩:∃key v,bd[i]?=some (key,v):=⟨bd[i].1,bd[i].2,RK xU⟩;obtain⟨x,AB,rx⟩:=j7.at hx;refine kG ?_;have Ep:l[i]=(key,x):=by rw[RK cg] at AB;exact U0 AB
  have Lj:key.length≤Rs:=by have:=vL l[i] (UA cg);have:=Ep▸this;exact this
  refine aam (J hlen ((dk))) hd hx fun kv h' nj fV hs=>⟨kv,rfl,fun target _=> ?_⟩;refine Rg fun kG=> ?_;obtain⟨t,rfl⟩:=Us nj;obtain⟨o2,sG,sH,hd2⟩:=id fV;refine kG (eC sG sH hd2 dc ?_);have:=S.but (s':={s1 with heap:=h'}) (fun b o hb e=>(hs.2 b hb).trans e) (fun b y=>by cases y;exact fr) rfl rfl (Ri _);exact J Ep ((⟨W1,this.2,this.1,⟨t,rfl,Lj⟩,ih (i+1) W1 _ (GI hk) cg (Wd.fw G.le hI) (hr.mono G.le) nd (hlen▸fV) fr.1 fr.2⟩))
theorem dT.items{es}{m}{l}(hX:¬X it)(vL:∀p∈l,p.1.length≤Rs):∀(k i:Nat)(ok ov:Value) W s,k=l.length-i→i≤l.length→W.I d=some (dq es m)→d7 W l es→(l.map (·.1)).Nodup→
  IsItemIter s.heap it d i l.length m ok ov→it∉W.φ→W.I it=none→dT n (fun _=>True,fun t=>isTup t=true) X (.ref it) (fun a=>a=it) (cy (l.drop i)) W s:=by
 intro rv
 induction rv with
 |zero=>
  intro i ok ov W s hk hle hI hr nd hit fh hi;have:=si hle (GG hk);subst this;refine J VW fun A s1 W1 H1 R G S hp=> ?_;obtain⟨bd,hd,j7⟩:=dictOf (S.cr _ _ (Wd.fw G.le hI)) (hr.mono G.le) nd;have hlen:=j7.length;have fr:=am G (hit▸nofun) ⟨fh,hi⟩ hX;refine wpAny_pyNext_items_end R.handled (J hlen ((G.heap _ _ hit fh hX))) hd (Sw (bD hlen)) fun h' hx=>⟨rfl, ?_⟩;have:=S.but (s':={s1 with heap:=h'}) (fun b o hb e=>hx b o hb e) (fun b y=>by cases y;exact fr) rfl rfl (Ri _);exact⟨this.2,this.1⟩
 |succ k ih=>
  intro i ok ov W s hk hle hI hr nd hit fh hi;have cg:=GH hk;refine J (SM cg) fun A s1 W1 H1 R G S hp=> ?_;have dk:=G.heap _ _ hit fh hX;refine Rg fun kG=> ?_;obtain⟨bd,hd,j7⟩:=dictOf (S.cr _ _ (Wd.fw G.le hI)) (hr.mono G.le) nd;have hlen:=j7.length;have fr:=am G (hit▸nofun) ⟨fh,hi⟩ hX;have xU:=ap cg (lq hlen);obtain⟨key,v,hx⟩:∃key v,bd[i]?=some (key,v):=⟨bd[i].1,bd[i].2,RK xU⟩;obtain⟨x,AB,rx⟩:=j7.at hx;refine kG ?_;have Ep:l[i]=(key,x):=by rw[RK cg] at AB;exact U0 AB
  have Lj:key.length≤Rs:=by have:=vL l[i] (UA cg);have:=Ep▸this;exact this
  refine wpAny_pyNext_items_item (hlen▸dk) hd hx fun kv h' nj fV xS hsz A2=>⟨_,rfl,fun target ht=> ?_⟩;obtain⟨t,rfl⟩:=Us nj;cases target with
  |Tuple elts kk pos=>
   refine wpAny_letOwnedTupleGo_items fV fun En xT hs=> ?_;have Hb:s1.heap.objs.size≠it:=fun q=>by
    have:=RV dk;rw[←q] at this;exact SQ _ this
   have vJ:=hs;obtain⟨S2,G2,l2⟩:=S.xR (s':={s1 with heap:=En})
    (fun b o hb e'=>(vJ.2 b hb).trans (A2 b o hb e')) (fun b y=>by cases y;exact fr) rfl rfl (Ri _) (af _) ((vJ.2 _ Hb).trans xS)
   refine J Ep (⟨_,G2,S2,⟨_,_,0,rfl,Wd.al ..,⟨_,_,rfl,⟨t,rfl,Lj⟩,_,_,rfl,rx.mono l2,rfl⟩,by simp;decide⟩, ?_⟩);exact ih (i+1) (.str key t) v _ {s1 with heap:=En} (GI hk) cg (Wd.fw l2 (Wd.fw G.le hI)) ((hr.mono G.le).mono l2) nd (hlen▸xT) fr.1 (by simpa [Wd.put,SK Hb] using fr.2)
  |_=>cases ht
theorem VT.values:VT n (.vw "dict_values" (.bx l)) H (l.map (·.2)) (fun _=>True,fun _=>True):=by
 refine .mk fun A s W v R S r Q q=> ?_;obtain⟨a,u,rfl,hv,⟨d,es,m,rfl,hI,hr,nd,hz,hs⟩⟩:=r;obtain⟨bd,hd,j7⟩:=dictOf (S.cr _ _ hI) hr nd;refine wpAny_pyIter_values ⟨_,S.cr _ _ hv,rfl,rfl⟩ hd (q _ (fun a=>a=s.heap.objs.size) _ W (Gr.cn W s _) (S.cn _) ?_);have fr:=S.fresh (af s.heap);have hit:(s.heap.push {cls:= .type "dict_valueiterator",data:= .fields #[.ref d, .int 0 0, .int bd.length 0, .int m 0]}).IsValIter s.heap.objs.size d 0 l.length m:=by
  exact aQ j7.length ((⟨_,Rx _ rfl,rfl,rfl⟩))
 refine⟨fun b e=> ?_,fun X hX=>dT.values (fun x=>hX _ x rfl) _ 0 W _ rfl (RW _) hI hr nd hit fr.1 fr.2,fun X hX A s1 W1 H1 G S1 Q q=> ?_⟩
 ·subst e;exact⟨af _,fun e=>by obtain⟨o,ho,_⟩:=hit;exact absurd (ho.symm.trans e) nofun⟩
 ·have dk:s1.heap.IsValIter s.heap.objs.size d 0 l.length m:=by obtain⟨o,ho,r⟩:=hit;exact⟨o,G.heap _ _ ho fr.1 (fun x=>hX _ x rfl),r⟩
  exact wpAny_pyIter_valiter dk q
theorem VT.keys(vL:∀p∈l,p.1.length≤Rs):VT n (.bx l) H (l.map fun p=>V.str p.1) (fun _=>True,fun _=>True):=by
 refine .mk fun A s W v R S r Q q=> ?_;obtain⟨d,es,m,rfl,hI,hr,nd,hz,hs⟩:=r;obtain⟨bd,hd,j7⟩:=dictOf (S.cr _ _ hI) hr nd;refine wpAny_pyIter_dict hs hd (q _ (fun a=>a=s.heap.objs.size) _ W (Gr.cn W s _) (S.cn _) ?_);have fr:=S.fresh (af s.heap);have hit:(s.heap.push {cls:= .type "dict_keyiterator",data:= .fields #[.ref d, .int 0 0, .int bd.length 0, .int m 0]}).IsKeyIter s.heap.objs.size d 0 l.length m:=by
  exact aQ j7.length ((⟨_,Rx _ rfl,rfl,rfl⟩))
 refine⟨fun b e=> ?_,fun X hX=>dT.keys (fun x=>hX _ x rfl) vL _ 0 W _ rfl (RW _) hI hr nd hit fr.1 fr.2,fun X hX A s1 W1 H1 G S1 Q q=> ?_⟩
 ·subst e;exact⟨af _,fun e=>by obtain⟨o,ho,_⟩:=hit;exact absurd (ho.symm.trans e) nofun⟩
 ·have dk:s1.heap.IsKeyIter s.heap.objs.size d 0 l.length m:=by obtain⟨o,ho,r⟩:=hit;exact⟨o,G.heap _ _ ho fr.1 (fun x=>hX _ x rfl),r⟩
  exact wpAny_pyIter_keyiter dk q
theorem iq:Xm aaN "dict_itemiterator.__iter__"=some Builtin.«dict_keyiterator.__iter__»:=
 entryFor_alias (id':="dict_keyiterator.__iter__") kr rfl (by decide+kernel) kr
theorem kC{s}{it d}{i m ep}{ok ov}{Q}(hit:IsItemIter s.heap it d i m ep ok ov)(h:Q (.ref it) s):wpAny (model prog w) A (Wn (.ref it)) Q aY s:=by
 have hT:s.TypeIs (.ref it) "dict_itemiterator":=⟨_,hit,rfl⟩;refine wpAny_pyIter_slot hT F.slot_dict_itemiterator_iter (wpAny_call_entry F.slot_dict_itemiterator_iter hT iq ?_ (F.args_dict_itemiterator_iter_1 _));exact Rj ⟨_,rfl,"dict_itemiterator",_,hT,F.slot_dict_itemiterator_next.lookup,h⟩
theorem VT.items(vL:∀p∈l,p.1.length≤Rs):VT n (.vw "dict_items" (.bx l)) H (cy l) (fun _=>True,fun t=>isTup t=true):=by
 refine .mk fun A s W v R S r Q q=> ?_;obtain⟨a,u,rfl,hv,⟨d,es,m,rfl,hI,hr,nd,hz,hs⟩⟩:=r;obtain⟨bd,hd,j7⟩:=dictOf (S.cr _ _ hI) hr nd;refine wpAny_pyIter_items ⟨_,S.cr _ _ hv,rfl,rfl⟩ hd (q _ (fun a=>a=s.heap.objs.size) _ W (Gr.cn W s _) (S.cn _) ?_);have fr:=S.fresh (af s.heap);have hit:IsItemIter (s.heap.push {cls:= .type "dict_itemiterator",data:= .fields #[.none, .bool false, .ref d, .int 0 0, .int bd.length 0, .int m 0, .none, .none]}) s.heap.objs.size d 0 l.length m .none .none:=by
  exact aQ j7.length ((Rx _ rfl))
 refine⟨fun b e=> ?_,fun X hX=>dT.items (fun x=>hX _ x rfl) vL _ 0 .none .none W _ rfl (RW _) hI hr nd hit fr.1 fr.2,fun X hX A s1 W1 H1 G S1 Q q=> ?_⟩
 ·subst e;exact⟨af _,fun e=>absurd (hit.symm.trans e) nofun⟩
 ·exact kC (G.heap _ _ hit fr.1 (fun x=>hX _ x rfl)) q
end
section
variable{n:Nat}{F:Fx}{ρ an cV hU ρ':Loc}{H H1 H2 H3 H4 H5 H6:AH}{g:Fl}
theorem ak.ints:∀{ns}{vs},ak W (ns.map V.int) vs→∃l:List (Int×Tok),vs=(l.map fun p=>Value.int p.1 p.2)∧l.map (·.1)=ns:=by
 intro rv
 induction rv with
 |nil=>
  intro _ h;cases h;exact⟨[],rfl,rfl⟩
 |cons i ns ih=>
  rintro _ ⟨v,us,e,⟨t,ev⟩,h⟩;obtain⟨l,e1,e2⟩:=ih h;subst e e1 ev;exact⟨(i,t)::l,rfl,by simp[e2]⟩
theorem CT.sum{ns:List Int}:CT n (.st (.builtin "sum")) [.lst (ns.map V.int)] [] H (.int ns.sum) H:= .mk fun A s W fv vs kv R S rf rx c8 _ Q q=>by
 cases rf;have:kv=[]:=by simpa using c8
 subst this;obtain⟨v,rfl,⟨a,us,m,rfl,hI,ru,_⟩⟩:=rx.one;obtain⟨l,e1,e2⟩:=ru.ints;have hl:s.heap.IsList a (intItems l.toArray):=by
  have:=aB S hI;rw[e1] at this;simpa [intItems] using this
 refine wpAny_toks (sum_intListG R.handled hl fun h' tk t' hk ht=> ?_);have e:preSum (numAt l.toArray) l.toArray.size=ns.sum:=by
  refine J (preSum_eq ..) (J (Tc (by simp)) ?_);rw[e2]
 refine J e (q _ _ W ⟨W.le_refl,fun _ h=> .inl h,fun _ _ h=> .inl h,fun b o e _ _=>hk b o e,fun b h _=>bt hk b h,rfl,fun _ _ h=>h⟩ (S.same (fun b o e _=>hk b o e) S.bare ht) ⟨t',rfl⟩)
theorem ao.freeze(S:ao W H s)(hk:W.φ[k]?=some a)(hI:W.I a=none)(ho:s.heap.get? a=some o):
  ao (W.put a o) (H.set k none) s∧Gr ct W s (W.put a o) s∧W.le (W.put a o):=by
 have l:W.le (W.put a o):=Wd.lx hI;refine⟨⟨fun b p e=> ?_,fun b p e=>Wd.fw l (S.gr b p e),S.nodup,by refine J SS ?_;exact S.len,S.lt,fun i ob e=> ?_,S.bare,S.tk,S.col⟩,⟨l,fun a m=> .inl m,fun b p e=> ?_,fun a p e _ _=>e,fun a h _=>h,rfl,fun _ _ h=>h⟩,l⟩
 ·by_cases hx:b=a
  ·subst hx;replace e:=(Wd.al ..)▸e;cases e;exact ho
  ·exact S.cr b p (by simpa [Wd.put,hx] using e)
 ·have Nt:i≠k:=fun q=>by
   subst q;by_cases cg:i<H.length
   ·replace e:=(Tn cg)▸e;cases e
   ·rw[Sw (by rw[SS];exact AU cg)] at e;cases e
  rw[SY (SK Nt)] at e;obtain⟨b,p,q,r⟩:=S.live i ob e;refine⟨b,p, ?_,eY l r⟩;have:b≠a:=fun z=>by
   subst z;have h1:=Ru.mp hk;have h2:=Ru.mp p;exact Nt (lA S.nodup h2.1 h1.1 (h2.2.trans h1.2.symm))
  simpa [Wd.put,this] using q
 ·by_cases hx:b=a
  ·exact .inr (.inl (by subst hx;exact Sf hk))
  ·exact .inl (by simpa [Wd.put,hx] using e)
noncomputable def AO.frozen:AO→Option V
 | .list l=>some (.lst l)
 | .dict l=>some (.bx l)
 | .sset _=>none
 | .inst _ _=>none
 | .ns _=>none
 | .tab _ _ _=>none
theorem ao.lK(hm:∃o,br TA=some o)(S:ao W H s)(hk:H[k]?=some (some ob))(hx:ob.frozen=some x):
  ∃W',ao W' (H.set k none) s∧Gr ct W s W' s∧W.le W'∧∀v,Rel W (.ref k) v→Rel W' x v:=by
 obtain⟨a,p,hI,r⟩:=S.live k _ hk;cases ob with
 |list l=>
  cases hx;refine Rg fun kG=> ?_;obtain⟨vs,m,ho,r,hz⟩:=r;obtain⟨S',G',l'⟩:=S.freeze p hI ho;exact kG (⟨_,S',G',l',fun v ⟨b,e,pb⟩=>by replace pb:=p▸pb;cases pb;exact⟨a,vs,m,e,Wd.al ..,r.mono l',hz⟩⟩)
 |dict l=>
  cases hx;obtain⟨es,m,ho,r,nd,hz⟩:=r;obtain⟨S',G',l'⟩:=S.freeze p hI ho;exact⟨_,S',G',l',fun v ⟨b,e,pb⟩=>by replace pb:=p▸pb;cases pb;exact⟨a,es,m,e,Wd.al ..,r.mono l',nd,hz,oB hm S hI⟩⟩
 |_=>cases hx
theorem ag.freeze(hm:∃o,br TA=some o)(hk:H[k]?=some (some ob))(hx:ob.frozen=some x)
  (lL:∀y z,ρ'.lookup y=some z→ρ.lookup y=some z∨(z=x∧ρ.lookup y=some (.ref k))) (h:ag n F gu ρ' (H.set k none) g an H1):ag n F gu ρ H g an H1:=by
 refine .mk fun A s W env R S E fr Q q=> ?_;obtain⟨W',S',G',l',hr⟩:=S.lK hm hk hx;have JU:=fr.step G';refine h.run A s W' env R S' E ?_ Q fun f s2 W2 G2 S2 f2 r2=>q f s2 W2 (G'.of.trans G2) S2 f2 r2;obtain⟨m,hn,F8⟩:=fr.m;refine⟨⟨m,hn,fun y z e hl=> ?_⟩,fun y z e=> ?_,fun y z e hl=> ?_,JU.cells,JU.sep,JU.dD,JU.inj⟩
 ·rcases lL y z e with q|⟨rfl,q⟩
  ·obtain⟨v,h1,h2⟩:=F8 y z q hl;exact⟨v,h1,h2.mono l'⟩
  ·obtain⟨v,h1,h2⟩:=F8 y _ q hl;exact⟨v,h1,hr v h2⟩
 ·refine Rg fun kG=> ?_;rcases lL y z e with q|⟨rfl,q⟩<;>refine kG ?_
  ·exact fr.kind y z q
  ·exact fr.kind y _ q
 ·rcases lL y z e with q|⟨rfl,q⟩
  ·obtain⟨c,v,h1,h2,h3⟩:=fr.cell y z q hl;exact⟨c,v,h1,h2,h3.mono l'⟩
  ·obtain⟨c,v,h1,h2,h3⟩:=fr.cell y _ q hl;exact⟨c,v,h1,h2,hr v h3⟩
theorem CT.freeze{x f}{xs}{ks}(hm:∃o,br TA=some o)(h:CT n f xs ks H (.ref k) H1)(hk:H1[k]?=some (some ob))(hx:ob.frozen=some x):CT n f xs ks H x (H1.set k none):=
 .mk fun A s W fv vs kv R S rf rx c8 sm Q q=>h.run A s W fv vs kv R S rf rx c8 sm Q fun v s1 W1 G1 S1 r1=>by
  obtain⟨W',S',G',l',hr⟩:=S1.lK hm hk hx;exact q v s1 W' (G1.trans G') S' (hr v r1)
mutual
noncomputable def V.dG(k:Nat):V→Bool
 | .tup l=>bJ k l
 | .lst l=>bJ k l
 | .bx l=>d8 k l
 | .ref i=>decide (i<k)
 | .bm _ x=>x.dG k
 | .pm _ x=>x.dG k
 | .vw _ x=>x.dG k
 | .raw _ x=>x.dG k
 | .none=>true
 | .bool _=>true
 | .int _=>true
 | .str _=>true
 | .lit _=>true
 | .st _=>true
 | .dst _=>true
noncomputable def bJ(k:Nat):List V→Bool
 |[]=>true
 |x::l=>x.dG k&&bJ k l
noncomputable def d8(k:Nat):List (RN×V)→Bool
 |[]=>true
 |(_,x)::l=>x.dG k&&d8 k l
end
noncomputable def AO.dG(k:Nat):AO→Bool
 | .list l=>bJ k l
 | .dict l=>d8 k l
 | .ns l=>d8 k l
 | .inst _ d=>decide (d<k)
 | .sset _=>true
 | .tab _ _ _=>true
noncomputable def Wd.cut(W:Wd)(k:Nat):Wd:=⟨W.φ.take k,W.I,W.C⟩
mutual
theorem Rel.cut{k}:∀{x}{v},x.dG k=true→Rel W x v→Rel (W.cut k) x v
 | .none,_=>fun _ r=>r
 | .bool _,_=>fun _ r=>r
 | .int _,_=>fun _ r=>r
 | .str _,_=>fun _ r=>r
 | .lit _,_=>fun _ r=>r
 | .tup _,_=>by rintro h ⟨a,vs,n,e,i,r,z⟩;exact⟨a,vs,n,e,i,ak.cut h r,z⟩
 | .lst _,_=>by rintro h ⟨a,vs,n,e,i,r,z⟩;exact⟨a,vs,n,e,i,ak.cut h r,z⟩
 | .bx _,_=>by rintro h ⟨a,vs,n,e,i,r,z,z2,z3⟩;exact⟨a,vs,n,e,i,d7.cut h r,z,z2,z3⟩
 | .ref i,_=>by
   rintro h ⟨a,e,p⟩;refine⟨a,e, ?_⟩;exact J XH (J (if_pos (of_decide_eq_true h)) ((p)))
 | .st _,_=>fun _ r=>r
 | .bm _ _,_=>by rintro h ⟨a,u,e,i,r⟩;exact⟨a,u,e,i,Rel.cut h r⟩
 | .pm _ _,_=>by rintro h ⟨a,u,e,i,r⟩;exact⟨a,u,e,i,Rel.cut h r⟩
 | .vw _ _,_=>by rintro h ⟨a,u,e,i,r⟩;exact⟨a,u,e,i,Rel.cut h r⟩
 | .dst _,_=>fun _ r=>r
 | .raw _ _,_=>by rintro h ⟨a,o,u,e,i,p,r⟩;exact⟨a,o,u,e,i,p,Rel.cut h r⟩
theorem ak.cut{k}:∀{l}{vs},bJ k l=true→ak W l vs→ak (W.cut k) l vs
 |[],_=>fun _ r=>r
 |_::_,_=>by
  rintro h ⟨v,r,e,a,b⟩;have h:=(RA _ _).mp h;exact⟨v,r,e,Rel.cut h.1 a,ak.cut h.2 b⟩
theorem d7.cut{k}:∀{l}{es},d8 k l=true→d7 W l es→d7 (W.cut k) l es
 |[],_=>fun _ r=>r
 |(_,_)::_,_=>by
  rintro h ⟨t,v,r,e,a,b⟩;have h:=(RA _ _).mp h;exact⟨t,v,r,e,Rel.cut h.1 a,d7.cut h.2 b⟩
end
theorem oC{l}:d8 k l=true→l.lookup x=some y→y.dG k=true:=by
 induction l with
 |nil=>intro _ h;cases h
 |cons p l ih=>
  intro h e;have h:=(RA _ _).mp h;replace e:=lookup_cons▸e;by_cases q:x=p.1
  ·replace e:=(if_pos q)▸e;cases e;exact h.1
  ·replace e:=(if_neg q)▸e;exact ih h.2 e
theorem Er{k}{h}{a}{ob}(b:ob.dG k=true)(r:OA W h a ob):OA (W.cut k) h a ob:=by
 cases ob with
 |list=>obtain⟨vs,n,e,r,z⟩:=r;exact⟨vs,n,e,ak.cut b r,z⟩
 |dict=>obtain⟨vs,n,e,r,d,d2⟩:=r;exact⟨vs,n,e,d7.cut b r,d,d2⟩
 |sset=>exact r
 |inst _ d=>
  obtain⟨da,e,r⟩:=r;refine⟨da, ?_,r⟩;exact J XH (J (if_pos (of_decide_eq_true b)) ((e)))
 |ns=>
  obtain⟨m,e,r⟩:=r;refine⟨m,e,fun x=>⟨(r x).1,fun y hy=> ?_⟩⟩;obtain⟨v,c,d⟩:=(r x).2 y hy;exact⟨v,c,Rel.cut (oC b hy) d⟩
 |tab=>exact r
theorem CT.drop{xs}{ks}{T}(h:CT n f xs ks H x (H1++T))(hl:H.length≤H1.length)(hx:x.dG H1.length=true)(hb:∀ob,some ob∈H1→ob.dG H1.length=true):CT n f xs ks H x H1:=
 .mk fun A s W fv vs kv R S rf rx c8 sm Q q=>h.run A s W fv vs kv R S rf rx c8 sm Q fun v s1 W1 G1 S1 r1=>by
  have hlen:(W1.φ.take H1.length).length=H1.length:=by
   refine J VU (J S1.len (J Ro ?_));lia
  have qc:W.φ<+:W1.φ.take H1.length:=by
   obtain⟨t,ht⟩:=G1.le.1;exact aQ ht (J List.take_append (J (Tc (S.len▸hl)) ((⟨_,rfl⟩))))
  refine q v s1 (W1.cut H1.length) ⟨⟨qc,G1.le.2.1,G1.le.2.2⟩,fun a m=>G1.cI a (ZM m),G1.gt,G1.heap,G1.there,G1.os,G1.gens⟩ ⟨S1.cr,S1.gr,S1.nodup.sublist (List.take_sublist ..),hlen,fun a m=>S1.lt a (ZM m),fun i ob e=> ?_,S1.bare,S1.tk,S1.col⟩ (Rel.cut hx r1);have hi:=(Ru.mp e).1;obtain⟨a,p,hI,r⟩:=S1.live i ob ((R8 hi)▸e);exact⟨a,by refine J XH (J (if_pos hi) ?_);exact p,hI,Er (hb ob (Sf e)) r⟩
end
noncomputable def V.nk(k:Nat)(x:V):Bool:=match x.data with
 |some d=>d.canLay0&&decide (d.depth≤k)
 |Option.none=>false
theorem V.nJ{x:V}(h:x.nk k=true)(hk:k≤64):x.ok=true:=by
 delta V.nk at h;delta V.ok
 cases e:x.data with
 |none=>cases e▸h
 |some d=>
  replace h:=e▸h;simp only[RA,decide_eq_true_eq] at h;simp only[Un,RA,decide_eq_true_eq];exact⟨h.1,Rq h.2 hk⟩
theorem lM:∀{l},l.all (V.nk k)=true→∃ds,eg l=some ds∧TW ds=true∧Uk ds≤k∧ds.length=l.length:=by
 intro rv
 induction rv with
 |nil=>
  intro _;exact⟨[],rfl,rfl,RW _,rfl⟩
 |cons x l ih=>
  intro h;simp only[Th,RA] at h;refine Rg fun kG=> ?_;obtain⟨ds,h1,h2,h3,h4⟩:=ih h.2;refine kG ?_;have hx:=h.1;unfold V.nk at hx;cases e:x.data with
  |none=>cases e▸hx
  |some d=>
   replace hx:=e▸hx;simp only[RA] at hx;exact⟨d::ds,by refine J (eP ..) (J (e ..) (J (h1 ..) ?_));rfl,by simp[TW,hx.1,h2],by simp only[Uk];lia,by simp[h4]⟩
theorem V.kN{l}(h:l.all (V.nk k)=true):(V.lst l).nk (k+1)=true:=by
 obtain⟨ds,h1,h2,h3,_⟩:=lM h;have e:(V.lst l).data=some (.list ds):=by show(eg l).map _=_;exact congrArg _ h1
 delta V.nk
 refine J e ?_;show(TW ds&&decide (Uk ds+1≤k+1))=true;exact J (h2 ..) (J (UQ ..) (J (decide_eq_true_eq ..) ((ba h3 (Ri _)))))
theorem V.kO{l}(h:l.all (V.nk k)=true):(V.tup l).nk (k+1)=true:=by
 obtain⟨ds,h1,h2,h3,_⟩:=lM h;have e:(V.tup l).data=some (.tuple ds):=by show(eg l).map _=_;exact congrArg _ h1
 delta V.nk
 refine J e ?_;show(TW ds&&decide (Uk ds+1≤k+1))=true;exact J (h2 ..) (J (UQ ..) (J (decide_eq_true_eq ..) ((ba h3 (Ri _)))))
theorem V.ga(h:Rv x=true) k:(V.str x).nk k=true:=(RA _ _).mpr ⟨h,decide_eq_true (RW k)⟩
theorem V.A3(h:Rv x=true) k:(V.lit x).nk k=true:=(RA _ _).mpr ⟨h,decide_eq_true (RW k)⟩
theorem V.uC i k:(V.int i).nk k=true:=(RA _ _).mpr ⟨rfl,decide_eq_true (RW k)⟩
theorem V.xV k:V.none.nk k=true:=(RA _ _).mpr ⟨rfl,decide_eq_true (RW k)⟩
theorem A4 ds:Uq (.list ds) (.list [])=ds.isEmpty:=by cases ds<;>rfl
section
variable{n:Nat}{F:Fx}{ρ an cV hU ρ':Loc}{H H1 H2 H3 H4 H5 H6:AH}{g:Fl}
theorem OT.ne_nil(h:l.all (V.nk k)=true)(hk:autoParam (k<64) aD):OT (n+8) (Sv .NotEq) (.lst l) (.lst []) H (.bool (!l.isEmpty)) H:=by
 obtain⟨ds,h1,h2,h3,h4⟩:=lM h;have e:(!l.isEmpty)= !Uq (.list ds) (.list []):=by refine J (A4 ..) ?_;cases ds<;>cases l<;>simp_all
 refine J e (OT.ne (by show(eg l).map Zy=_;exact h1▸rfl) rfl ?_ dc);show(TW ds&&decide (Uk ds+1≤64))=true;exact J (h2 ..) (J (UQ ..) (J (decide_eq_true_eq ..) ((ap (ba h3 (Ri _)) hk))))
theorem OT.kP(hz:l.length+l'.length≤Rs):OT n (Wo .Add) (.lst l) (.lst l') H (.lst (l++l')) H:=by
 refine .mk fun A s W a b R S ra rb Q q=> ?_;obtain⟨a,us,m,rfl,hI,ru,_⟩:=ra;obtain⟨b,vs,m',rfl,Lk,rv,_⟩:=rb;refine P.add_list (S.cr _ _ hI) (S.cr _ _ Lk) ?_ (J RI (J RI (J ru.length (J rv.length ((hz))))));refine J (show us.toArray++vs.toArray=(us++vs).toArray from by simp) ?_;obtain⟨S2,G2⟩:=S.put (fR "list" (us++vs) 0);exact q _ _ _ G2 S2 ⟨_,_,0,rfl,Wd.al ..,(ru.append rv).mono G2.le,by exact J Ro hz⟩
theorem OT.Es(hx:x.ok=true)(hy:y.ok=true)(hd:∀d,x.data=some d→gE H x=some d)(C4:∀d,y.data=some d→gE H y=some d):OT (n+8) (Sv .Eq) x y H (.bool (V.eqv x y)) H:=by
 refine Rg fun kG=> ?_;obtain⟨dx,e1,s1⟩:=V.dQ hx;obtain⟨dy,e2,s2⟩:=V.dQ hy;refine kG ?_;have e:V.eqv x y=Uq dx dy:=by delta V.eqv;rw[e1,e2]
 exact e▸OT.eq (hd _ e1) (C4 _ e2) s1 s2
end
noncomputable def Go(M:Model)(A:TL)(Φ:End→RT→Prop)(c:Code)(t:Y3 Fin)(fs:List abs)(s:RT):Prop:=
 ∀Γ p,Γ.code=c→Γ.Woken A→∃e s',Runs M Γ p t fs s e s'∧Φ e s'
section
variable{M:Model}{A:TL}{Φ:End→RT→Prop}{c:Code}{fs:List abs}{s:RT}
theorem cH{K}{H}{gd}{lv}
  (h:wpAny M (A.over c fs) m (fun a s'=>Go M A Φ c (K a) fs s') (fun x s'=>Go M A Φ c (H x) fs s') s):Go M A Φ c (m.wrap K H gd lv) fs s:=fun Γ p hc hw=>by
 subst hc;exact runs_wrap_of_wp K H gd lv m (h (Γ.over fs) p (hw.over fs)) (fun a p' s' k=>k Γ p' rfl hw) fun x p' s' k=>k Γ p' rfl hw
theorem eD{K}
  (h:wpAny M (A.over c fs) m (fun a s'=>Go M A Φ c (K a) fs s') (fun x s'=>Go M A Φ c (.raise x) fs s') s):Go M A Φ c (m>>=K) fs s:=by
 have:=cH (gd:=id) (lv:=id) h;rwa [←Sy] at this
theorem nK{k}(h:Go M A Φ c (k ()) fs s):Go M A Φ c (.at p' k) fs s:=eD (wpAny_standAt h)
theorem xW{k}(h:Go M A Φ c (k ()) fs s):Go M A Φ c (.point l k) fs s:=
 cH (H:= .raise) (gd:=id) (lv:=fun _=>l) (wpAny_point h)
theorem uD{k}(hc:∀p,Go M A Φ c' (M.den c') (.ret k h g l c p []::fs) s):Go M A Φ c (.call c' h g l k) fs s:=fun Γ p e hw=>by
 subst e;obtain⟨e,s',a,b⟩:=hc p (Γ.goto c') p rfl (hw.goto c');exact⟨e,s',runs_call_seg a,b⟩
theorem uE{c₁}{A5} r(hk:Go M A Φ c₁ (k r) fs s):Go M A Φ c (leafOf r) (.ret k h g l c₁ A5 kp::fs) s:=fun Γ p e hw=>by
 obtain⟨e,s',a,b⟩:=hk (Γ.goto c₁) A5 rfl (hw.goto c₁);exact⟨e,s',Runs.pop r a,b⟩
theorem i7(hq:c'.quiet=true)(hc:Go M A Φ c' (M.den c') fs s):Go M A Φ c (.pure (.again c')) fs s:=fun Γ p e hw=>by
 obtain⟨e,s',a,b⟩:=hc (Γ.goto c') p rfl (hw.goto c');exact⟨e,s',Runs.head (fun _ _ x=> .again hq x) a,b⟩
theorem Et r(h:Φ (.ret r) s):Go M A Φ c (leafOf r) [] s:=fun _ _ _ _=>⟨.ret r,s,Runs.leaf r,h⟩
theorem xX(uF:splitAtGen fs=none)(h:∀p,Φ (.susp v g l k c p fs) s):Go M A Φ c (.yield v g l k) fs s:=fun Γ p e _=>by
 subst e;exact⟨_,s,Runs.yield' fs uF,h p⟩
noncomputable def Goes(M:Model)(A:TL)(Φ:End→RT→Prop)(gs:GenState)(s:RT):Prop:=
 match gs with
 | .fresh c=>Go M A Φ c (M.den c) [] s
 | .suspended k _ c _ fs _=>Go M A Φ c (k (.send .none)) fs s
 |_=>False
theorem vM{g}{gs}{l}{α}{k}{Q:α→RT→Prop}(hg:s.gens[g]?=some gs)(h:Goes M A Φ gs (s.setGen g .running))
  (hq:∀e s1,Φ e s1→e.quiet=true∧wpAny M A (k e.result) Q E (s1.setGen g e.genState)):wpAny M A (.resume g (.send .none) l k) Q E s:=by
 intro Γ p F4;refine J (Y3.wp_resume ..) ?_;have hB:=fun c=>F4.wake c p;cases gs with
 |fresh c=>
  refine Rg fun kG=> ?_;obtain⟨e,s1,a,b⟩:=h (Γ.wake c p) p rfl (hB c);exact kG (⟨_,_,by delta Wakes;exact hg▸⟨e,s1,a,(hq e s1 b).1,rfl,rfl⟩,(hq e s1 b).2 Γ p F4⟩)
 |suspended OV OW c₀ Ll Nu cl=>
  obtain⟨e,s1,a,b⟩:=h (Γ.wake c₀ p) Ll rfl (hB c₀);exact⟨_,_,by delta Wakes;exact hg▸⟨e,s1,a,(hq e s1 b).1,rfl,rfl⟩,(hq e s1 b).2 Γ p F4⟩
 |running=>exact h.elim
 |finished=>exact h.elim
end
section
variable{A:TL}{Φ:End→RT→Prop}{s:RT}
theorem nL{a}{g}{gs}{Q}(hh:A.handled=none)(hl:s.heap.NoLimit)(c7:A.depth<ZG)(hg:s.heap.IsGen a g)(Eu:s.gens[g]?=some gs)
  (A6:Goes (model prog w) A.in1 Φ gs (s.setGen g .running))
  (hq:∀e s1,Φ e s1→e.quiet=true∧match e with
   | .ret r=>r= .ok (.ret .none)∧∀h',(∀b o,s1.heap.get? b=some o→h'.get? b=some o)→Q none {s1.setGen g .finished with heap:=h'}
   | .susp v _ _ _ _ _ _=>Q (some v) (s1.setGen g e.genState)):
  wpAny (model prog w) A (UP (.ref a)) Q E s:=by
 refine Rh (T3 (Sa hg.typeIs slot_gen_next
  (wpAny_call_entry slot_gen_next hg.typeIs entry_gen_next ?_ (args_gen_next _))))
 show wpAny _ _ (aaR (.ref a) (.send .none)) _ _ s;refine Rh (wpAny_holding (wpAny_genNumber hg (Rh (wpAny_genState Eu ?_))));cases gs with
 |running=>exact A6.elim
 |finished=>exact A6.elim
 |_=>
  refine Rh (wpAny_roomToWake hl c7 ?_);refine vM Eu A6 fun e s1 he=>⟨(hq e s1 he).1, ?_⟩;have h2:=(hq e s1 he).2;cases e with
  |ret x=>
   obtain⟨rfl,hp⟩:=h2;show wpAny _ _ (newExc (.type "StopIteration") []>>=_) _ _ _;refine Rh (bN ?_ (by size_fits));refine Rh (SX (a:=TJ) rfl ?_);refine Sz ?_ (by size_fits);refine Rh (Rh (wpAny_handled ?_));refine J (hh) ?_;refine XV ?_;exact bI ⟨_,Rx _ rfl,rfl⟩ Vi (Rj (hp _ fun b o hb=>Rp _ (Rp _ hb)))
  |susp v g0 l0 k0 c0 p0 QW=>exact Rj ⟨v,rfl,Rj h2⟩
end
section
variable{n:Nat}{F:Fx}{ρ an cV hU:Loc}{H H1 H2 H3 H4 H5:AH}{g:Fl}
structure nM(Z:Nat→Prop) X W s W'(s':RT):Prop where
 step:Gr X W s W' {s' with gens:=s.gens}
 gens:∀i y,¬Z i→s.gens[i]?=some y→s'.gens[i]?=some y
theorem Gr.uG{s s'}(a:Gr X W s W' s') G:Gr X W {s with gens:=G} W' {s' with gens:=G}:=
 ⟨a.le,a.cI,a.gt,a.heap,a.there,a.os,fun _ _ h=>h⟩
theorem nM.of{X}{W W'}{s s'}(a:Gr X W s W' s'):nM Z X W s W' s':=⟨a.uG _,fun i y _ h=>a.gens i y h⟩
theorem nM.trans{s s' dM}(a:nM Z X W s W' s')(b:nM Z X W' s' nF dM):nM Z X W s nF dM:=
 ⟨a.step.trans (b.step.uG s.gens),fun i y z h=>b.gens i y z (a.gens i y z h)⟩
theorem nM.weaken{W W'}{s s'}(a:nM Z X W s W' s')(h:∀x,X x→Y x):nM Z Y W s W' s':=⟨a.step.weaken h,a.gens⟩
theorem Gr.Hc{X Y}{Z}{W W' nF}{s s' dM}(a:Gr Y W s W' s')(b:nM Z X W' s' nF dM)(h:∀x,X x→s.heap.get? x≠none→Y x)
  (hz:∀i,Z i→s.gens[i]?=none):Gr Y W s nF dM:=by
 have c:=(a.uG s.gens).base (b.step.uG s.gens) h;refine⟨c.le,c.cI,c.gt,c.heap,c.there,c.os,fun i y e=>b.gens i y (fun z=> ?_) (a.gens i y e)⟩;cases(hz i z)▸e
theorem cR.xY{W W'}{s s'}{ρ}{env}(f:cR W ρ env s.heap)(G:nM Z X W s W' s')(hl:¬X env.locals)(hc:∀n c,env.cells.lookup n=some c→¬X c):cR W' ρ env s'.heap:=
 f.di (s':={s' with gens:=s.gens}) G.step hl hc
noncomputable def gp(A:TL)(P:PP)(Z:Nat→Prop)(X:Ud→Prop)(it:Value)(Y:Ud→Prop):List V→Wd→RT→Prop
 |[],W,s=>∀s1 W1 H1,Gr X W s W1 s1→ao W1 H1 s1→P.1 H1→(∀a,X a→s1.heap.get? a≠none)→
   wpAny (model prog w) A (UP it) (fun r s2=>r=none∧∃W2,nM Z Y W1 s1 W2 s2∧ao W2 H1 s2) aY s1
 |x::xs,W,s=>∀s1 W1 H1,Gr X W s W1 s1→ao W1 H1 s1→P.1 H1→(∀a,X a→s1.heap.get? a≠none)→
   wpAny (model prog w) A (UP it) (fun r s2=>∃v,r=some v∧∀target,P.2 target→wpAny (model prog w) A (Tp target it v)
    (fun _ s3=>∃W3,nM Z Y W1 s1 W3 s3∧ao W3 H1 s3∧Rel W3 x v∧gp A P Z X it Y xs W3 s3) aY s2) aY s1
theorem gp.step{it}{xs}{W W'}{s s'}(f:gp A P Z X it Y xs W s)(G:Gr X W s W' s'):gp A P Z X it Y xs W' s':=by
 cases xs with
 |nil=>exact fun s1 W1 H1 G1 S1 p x=>f s1 W1 H1 (G.trans G1) S1 p x
 |cons x xs=>exact fun s1 W1 H1 G1 S1 p x=>f s1 W1 H1 (G.trans G1) S1 p x
noncomputable abbrev Ev(n:Nat)(F:Fx)(P:PP)(target:Tk)(body orelse:List Vy)(xs:List V)(ρ:Loc)(H:AH)(f:Fl)(ρ':Loc)(H':AH):Prop:=∀A s W env it Z Y,aC A n→ao W H s→aA F env→cR W ρ env s.heap→
    (¬Y env.locals)→(∀n c,env.cells.lookup n=some c→¬Y c)→gp A P Z (own env) it Y xs W s→
    ∀Q:Flow→RT→Prop,(∀g s' W',nM Z (fun a=>own env a∨Y a) W s W' s'→ao W' H' s'→cR W' ρ' env s'.heap→f.rel W' g→Q g s')→
     Tt (model prog w) A (.forLoop target it body orelse env) (fun r s'=>∃g,r= .ok g∧Q g s') s
@[irreducible] noncomputable def i8 (n:Nat) (F:Fx) (P:PP) (target:Tk) (body orelse:List Vy) (xs:List V) (ρ:Loc) (H:AH) (f:Fl) (ρ':Loc) (H':AH):Prop:=Ev n F P target body orelse xs ρ H f ρ' H'
theorem i8.mk{n F P target body orelse xs ρ H f ρ' H'}(h:Ev n F P target body orelse xs ρ H f ρ' H'):i8 n F P target body orelse xs ρ H f ρ' H':=by delta i8;exact h
theorem i8.run{n F P target body orelse xs ρ H f ρ' H'}(h:i8 n F P target body orelse xs ρ H f ρ' H'):Ev n F P target body orelse xs ρ H f ρ' H':=by delta i8 at h;exact h
theorem i8.nil{body orelse}(hp:P.1 H)(h:ag n F orelse ρ H g an H1):i8 n F P target body orelse [] ρ H g an H1:=by
 refine .mk fun A s W env it Z Y R S E fr hl hc fd Q q=>(SD ?_);refine T7 (dh fun Q' E' qq _=> ?_);refine bA (Rh (UD (RM (fd s W H (Gr.refl ..) S hp fr.cG) (fun r s1 h1=> ?_) fun _ _ e=>e.elim)));obtain⟨rfl,W1,G1,S1⟩:=h1;refine Rj (qq _ _ ⟨rfl,codeAny_block (lE (h.run A s1 W1 env R S1 E (fr.xY G1 hl hc) _ fun fl s2 W2 G2 S2 f2 r2=>⟨fl,rfl,q fl s2 W2 ?_ S2 f2 r2⟩))⟩);exact(G1.weaken fun x h=> .inr h).trans ((nM.of G2).weaken fun x h=> .inl h)
theorem i8.cons{x}{xs}(hp:P.1 H)(hT:P.2 target)(ht:AT n F target x ρ H an H1)(hb:ag n F body an H1 .next cV H2)
  (h:i8 n F P target body orelse xs cV H2 g hU H3):i8 n F P target body orelse (x::xs) ρ H g hU H3:=by
 refine .mk fun A s W env it Z Y R S E fr hl hc fd Q q=>(SD ?_);refine T7 (dh fun Q' E' qq _=> ?_);refine bA (Rh (UD (RM (fd s W H (Gr.refl ..) S hp fr.cG) (fun r s1 h1=> ?_) fun _ _ e=>e.elim)));obtain⟨v,rfl,h1⟩:=h1;refine Rh (RM (h1 target hT) (fun _ s2 h2=> ?_) fun _ _ e=>e.elim);refine Rg fun kG=> ?_;obtain⟨W2,G2,S2,r2,xB⟩:=h2;refine kG (Rh (lE (ht.run A s2 W2 env v R S2 E (fr.xY G2 hl hc) r2 _ fun s3 W3 G3 S3 f3=> ?_)));refine Rh (lE (hb.run A s3 W3 env R S3 E f3 _ fun fl s4 W4 G4 S4 f4 r4=> ?_));cases r4;refine Rj (qq _ _ ⟨rfl,h.run A s4 W4 env it Z Y R S4 E f4 hl hc (xB.step (G3.trans G4)) Q fun fl s5 W5 G5 S5 f5 r5=>q fl s5 W5 ?_ S5 f5 r5⟩);exact((G2.weaken fun x h=> .inr h).trans ((nM.of (G3.trans G4)).weaken fun x h=> .inl h)).trans G5
theorem i8.xZ{x y}{xs}(hp:P.1 H)(hT:P.2 target)(ht:AT n F target x ρ H an H1)(hb:ag n F body an H1 (.ret y) cV H2):
  i8 n F P target body orelse (x::xs) ρ H (.ret y) cV H2:=by
 refine .mk fun A s W env it Z Y R S E fr hl hc fd Q q=>(SD ?_);show wpAny _ A ((forTurn target it body orelse env).onRaise (fun x=>do noteFrame x env;Xv x)) _ _ s;refine T7 (dh fun Q' E' qq _=> ?_);refine bA (Rh (UD (RM (fd s W H (Gr.refl ..) S hp fr.cG) (fun r s1 h1=> ?_) fun _ _ e=>e.elim)));obtain⟨v,rfl,h1⟩:=h1;refine Rh (RM (h1 target hT) (fun _ s2 h2=> ?_) fun _ _ e=>e.elim);refine Rg fun kG=> ?_;obtain⟨W2,G2,S2,r2,xB⟩:=h2;refine kG (Rh (lE (ht.run A s2 W2 env v R S2 E (fr.xY G2 hl hc) r2 _ fun s3 W3 G3 S3 f3=> ?_)));refine Rh (RM (hb.run A s3 W3 env R S3 E f3 (fun fl s4=>∃v,fl= .ret v∧∃W4,Gr (own env) W3 s3 W4 s4∧ao W4 H2 s4∧cR W4 cV env s4.heap∧Rel W4 y v) fun fl s4 W4 G4 S4 f4 r4=>let⟨v,e,r⟩:=r4;⟨v,e,W4,G4,S4,f4,r⟩) (fun fl s4 h4=> ?_) fun _ _ e=>e.elim);refine Rg fun kG=> ?_;obtain⟨u,rfl,W4,G4,S4,f4,r4⟩:=h4;refine kG (Rj (qq _ _ ⟨_,rfl,q _ s4 W4 ?_ S4 f4 ⟨u,rfl,r4⟩⟩));exact(G2.weaken fun x h=> .inr h).trans ((nM.of (G3.trans G4)).weaken fun x h=> .inl h)
noncomputable abbrev Ew(n:Nat)(F:Fx)(e:Tk)(ρ:Loc)(H:AH)(xs:List V)(P:PP)(H':AH):Prop:=∀A s W env,aC A n→ao W H s→aA F env→cR W ρ env s.heap→
    ∀Q,(∀it s' W',Gr ct W s W' s'→ao W' H' s'→
      (∀X,(∀a,X a→s.heap.get? a≠none)→gp A P (fun i=>s.gens[i]?=none) X it (fun a=>s.heap.get? a=none) xs W' s')→Q it s')→
     wpAny (model prog w) A (eval e env) (fun x s1=>wpAny (model prog w) A (Wn x) Q aY s1) aY s
@[irreducible] noncomputable def x2 (n:Nat) (F:Fx) (e:Tk) (ρ:Loc) (H:AH) (xs:List V) (P:PP) (H':AH):Prop:=Ew n F e ρ H xs P H'
theorem x2.mk{n F e ρ H xs P H'}(h:Ew n F e ρ H xs P H'):x2 n F e ρ H xs P H':=by delta x2;exact h
theorem x2.run{n F e ρ H xs P H'}(h:x2 n F e ρ H xs P H'):Ew n F e ρ H xs P H':=by delta x2 at h;exact h
theorem Nv.for{target iter}{body orelse}{pos}{xs}(hi:x2 n F iter ρ H xs P H1)(h:i8 n F P target body orelse xs ρ H1 g an H2)
  (hs:autoParam (∀env x,Td iter env x=pure x) aI):XT n F (.For target iter body orelse pos) ρ H g an H2:=by
 refine .mk fun A s W env R S E fr Q q=>(wpAny_For ?_ (hs env));refine RM (hi.run A s W env R S E fr (fun it s'=>Tt (model prog w) A (.forLoop target it body orelse env) (fun r s'=>∃g,r= .ok g∧Q g s') s')
  fun it s1 W1 G1 S1 c=> ?_) (fun x s1 h1=>RM h1 (fun it s2 h2=>UB h2 fun r s' h3=> ?_) fun _ _ e=>e) fun _ _ e=>e
 ·obtain⟨m,hn,_⟩:=fr.m;refine h.run A s1 W1 env it _ _ R S1 E (fr.step G1) (ch hn) (fun x c hc=>(fr.dD x c hc).2.2.2) (c (own env) fun a o=>fr.cG a o) Q fun g s2 W2 G2 S2 f2 r2=>q g s2 W2 ?_ S2 f2 r2;exact(G1.of).Hc G2 (fun x h hx=>h.elim id fun y=>absurd y hx) fun i h=>h
 ·obtain⟨g,rfl,h3⟩:=h3;exact h3
end
section
variable{M:Model}{A:TL}{Φ:End→RT→Prop}{c:Code}{fs:List abs}{s:RT}{env:Env}
 {K:Flow→Y3 Fin} {H:Value→Y3 Fin} {gd:Bool→Bool} {lv:List Value→List Value}
noncomputable abbrev x4(env:Env)(K:Flow→Y3 Fin)(H:Value→Y3 Fin)(gd:Bool→Bool)(lv:List Value→List Value):Result→Y3 Fin:=
 fun r=>((match r with| .ok f=>(.pure f:Y3 Flow)| .error e=> .raise e).onRaise fun x=>do
    if(←field x 1)==TJ then WO "frame.own-activation:exception-without-traceback"
    setFlight x env.frame).wrap K H gd lv
theorem vN(h:∀p,Go M A Φ c' (M.den c') (.ret (x4 env K H gd lv) none (gd false) (lv []) c p []::fs) s):
  Go M A Φ c ((runOwn c' env).wrap K H gd lv) fs s:=uD h
theorem Ey{target iter}{body orelse}{pos}(hs:∀x,Td iter env x=pure x)
  (h:wpAny M (A.over c fs) (eval iter env) (fun x ci=>wpAny M (A.over c fs) (Wn x) (fun it fZ=>
   ∀p,Go M A Φ (.forLoop target it body orelse env) (M.den (.forLoop target it body orelse env)) (.ret (x4 env K H gd lv) none (gd false) (lv []) c p []::fs) fZ) aY ci) aY s):
  Go M A Φ c ((exec (.For target iter body orelse pos) env).wrap K H gd lv) fs s:=by
 refine nK (J (Sy ..) (J (Tw ..) ?_));refine cH (RM h (fun x ci cJ=> ?_) fun _ _ e=>e.elim);refine J (hs x) (nK ?_);exact J (Sy ..) (J (Tw ..) ((cH (wpAny_holding (RM cJ (fun it fZ oD=>vN oD) fun _ _ e=>e.elim)))))
end
section
variable{A:TL}{Φ:End→RT→Prop}{fs:List abs}{s:RT}{env:Env}
noncomputable abbrev He(env:Env):Value→Y3 Fin:=fun e=>(do noteFrame e env;Xv e:Y3 Unit).bind fun _=> .raise e
theorem lN
  (h:wpAny (model prog w) (A.over (.forLoop target it body orelse env) fs) (UP it) (fun r s'=>match r with
    |none=>Go (model prog w) A Φ (.block orelse env) ((model prog w).den (.block orelse env)) fs s'
    |some v=>wpAny (model prog w) (A.over (.forLoop target it body orelse env) fs) (Tp target it v) (fun _ s1=>
      wpAny (model prog w) (A.over (.forLoop target it body orelse env) fs) (XJ target env v) (fun _ s2=>
       Go (model prog w) A Φ (.forLoop target it body orelse env) ((execs body env).wrap (fun f=>match f with
        | .next| .cont=> .pure (.again (.forLoop target it body orelse env))
        | .brk=> .pure (.done .next)
        | .ret v=> .pure (.done (.ret v))) (He env) id id) fs s2) aY s1) aY s') aY s):
  Go (model prog w) A Φ (.forLoop target it body orelse env) ((model prog w).den (.forLoop target it body orelse env)) fs s:=by
 show Go _ A Φ _ ((forTurn target it body orelse env).onRaise (fun x=>do noteFrame x env;Xv x)) fs s;refine J (Z8 ..) (nK ?_);refine J (Sy ..) (J (Tw ..) ?_);refine cH (UD (RM h (fun r s' h'=> ?_) fun _ _ e=>e.elim));cases r with
 |none=>
  exact i7 rfl h'
 |some v=>
  show Go _ A Φ _ ((Tp target it v>>=fun _=>XJ target env v>>=fun _=>execs body env>>=fun f=>_).wrap _ _ _ _) fs s';refine J (Sy ..) (J (Tw ..) ?_);refine cH (RM h' (fun _ s1 h1=> ?_) fun _ _ e=>e.elim);refine J (Sy ..) (J (Tw ..) ?_);refine cH (RM h1 (fun _ s2 h2=> ?_) fun _ _ e=>e.elim);refine J (Sy ..) (J (Tw ..) ?_);rw[aby (execs body env) _ _ (K':=fun f=>match f with
        | .next| .cont=> .pure (.again (.forLoop target it body orelse env))
        | .brk=> .pure (.done .next)
        | .ret v=> .pure (.done (.ret v))) (fun f=>by cases f<;>rfl) (fun e=>by rfl)]
  exact h2
theorem vO{c₁}{A5}{K}{H}{gd}{lv}{h}{g}{l kp}{f}
  (hk:Go (model prog w) A Φ c₁ (K f) fs s):Go (model prog w) A Φ c (.pure (.done f)) (.ret (x4 env K H gd lv) h g l c₁ A5 kp::fs) s:=
 uE (.ok f) (hk)
theorem oE(h:Go (model prog w) A Φ (.block [] env) (.pure (.done .next)) fs s):
  Go (model prog w) A Φ (.block [] env) ((model prog w).den (.block [] env)) fs s:=h
theorem Hf{K}{H}{gd}{lv}{test}{body orelse}{pos}
  (h:wpAny (model prog w) (A.over c fs) (isTrue test env (eval test env)) (fun b s'=>
    if b=true then Go (model prog w) A Φ c ((execs body env).wrap K H gd lv) fs s' else Go (model prog w) A Φ c ((execs orelse env).wrap K H gd lv) fs s') aY s):
  Go (model prog w) A Φ c ((exec (.If test body orelse pos) env).wrap K H gd lv) fs s:=by
 refine nK (J (Sy ..) (J (Tw ..) ?_));refine cH (RM h (fun b s1 h1=> ?_) fun _ _ e=>e.elim);cases b with
 |true=>exact h1
 |false=>exact h1
theorem i9{K}{H}{gd}{lv}(h:Go (model prog w) A Φ c (K .next) fs s):Go (model prog w) A Φ c ((execs [] env).wrap K H gd lv) fs s:=h
theorem fm{K}{H}{gd}{lv}{st}{rest}
  (h:Go (model prog w) A Φ c ((exec st env).wrap (fun f=>match f with| .next=>(execs rest env).wrap K H gd lv|f=>K f) H gd lv) fs s):
  Go (model prog w) A Φ c ((execs (st::rest) env).wrap K H gd lv) fs s:=J (execs_cons_wrap ..) ((h))
theorem A7
  (h:Go (model prog w) A Φ (.func body env) ((execs body env).wrap (fun f=> .pure (.done (.ret (match f with| .ret v=>v|_=> .none))))
   (fun e=>(leaving env e).wrap (fun _=> .raise e) .raise id id) id id) fs s):
  Go (model prog w) A Φ (.func body env) ((model prog w).den (.func body env)) fs s:=by
 refine xW (J (Z8 ..) (J (Sy ..) (J (Tw ..) ?_)));rw[aby (execs body env) _ _ (K':=fun f=> .pure (.done (.ret (match f with| .ret v=>v|_=> .none))))
  (fun f=>by cases f<;>rfl)
  (fun e=>by refine J (Y3.bind_eq_wrap ..) (J (Tw ..) ?_);rfl)]
 exact h
end
section
variable{A:TL}{Φ:End→RT→Prop}{fs:List abs}{s:RT}{env:Env}{c:Code}
 {K:Flow→Y3 Fin} {H:Value→Y3 Fin} {gd:Bool→Bool} {lv:List Value→List Value}
noncomputable abbrev OX(value:Tk)(x5 pos:Pos)(K:Flow→Y3 Fin)(H:Value→Y3 Fin)(gd:Bool→Bool)(lv:List Value→List Value):Result→Y3 Fin:=
 fun r=>(((match r with| .ok f=>(.pure f:Y3 Flow)| .error e=> .raise e).bind fun f=>match f with| .ret v=>(pure v:Y3 Value)|_=>WO "internal:call-without-return-value"):Y3 Value).wrap
  (fun v=>(dropValue (.YieldFrom value x5) pos v).wrap K H gd lv) (fun e=>(Y3.raise e:Y3 Flow).wrap K H gd lv) gd lv
theorem oF(hi:aa9 env=false)
  (h:wpAny (model prog w) (A.over c fs) (eval value env) (fun v ci=>∃T,ci.TypeIs v T∧(T=="coroutine")=false∧wpAny (model prog w) (A.over c fs) (Wn v) (fun it fZ=>
   ∀p,Go (model prog w) A Φ (.builtin "proto.yield_from" ⟨[it, .bool false, .none],[]⟩) ((model prog w).den (.builtin "proto.yield_from" ⟨[it, .bool false, .none],[]⟩))
    (.ret (OX value x5 pos K H gd lv) none (gd false) (lv []) c p []::fs) fZ) aY ci) aY s):
  Go (model prog w) A Φ c ((exec (.Expr (.YieldFrom value x5) pos) env).wrap K H gd lv) fs s:=by
 refine J (exec_Expr env _ _ hi rfl) ?_;show Go _ A Φ c (.at pos fun _=>((eval value env>>=fun v=>(standAt x5>>=fun _=>yieldFrom env v))>>=fun x=>dropValue (.YieldFrom value x5) pos x).wrap K H gd lv) fs s;refine nK (J (Sy ..) (J (Sy ..) (J (Tw ..) (J (Tw ..) ?_))));refine cH (RM h (fun v ci cJ=> ?_) fun _ _ e=>e.elim);refine Rg fun kG=> ?_;obtain⟨T,hT,aV,cJ⟩:=cJ;refine kG (nK ?_)
 delta yieldFrom
 refine J (Sy ..) (J (Tw ..) ?_);refine cH (aau hT ?_);have e:(WL T==WL "coroutine")=false:=by simpa using aV
 refine J e ?_;show Go _ A Φ c (Y3.wrap _ _ _ _ (holding [v] (Wn v)>>=fun it=>runValue (.builtin "proto.yield_from" ⟨[it, .bool false, .none],[]⟩))) fs ci;refine J (Sy ..) (J (Tw ..) ?_);refine cH (wpAny_holding (RM cJ (fun it fZ oD=> ?_) fun _ _ e=>e.elim));exact uD oD
end
section
variable{A:TL}{Φ:End→RT→Prop}{fs:List abs}{s:RT}
noncomputable abbrev sI(it:Value):Code:= .builtin "proto.yield_from" ⟨[it, .bool false, .none],[]⟩
theorem x6:Xm aaN "proto.yield_from"=some Builtin.«proto.yield_from»:=Y0 rfl
theorem ja:VO (.type "list_iterator") "close"=pure none:=rfl
theorem qd{id}{args}{b}(hb:Xm aaN id=some b):(model prog w).den (.builtin id args)=b args:=by
 show(match Xm aaN id with|some b=>b args|none=>WO ((withoutEnding? id "#data").getD id))=_;rw[hb]
theorem x7 it:(model prog w).den (sI it)=Builtin.«proto.yield_from» ⟨[it, .bool false, .none],[]⟩:=qd x6
noncomputable def Nw it:{p:Y3 Value×(Except Value Value→Y3 PySem.Fin)//Builtin.«proto.yield_from» ⟨[it, .bool false, .none],[]⟩=p.1.attempt>>=p.2}:=⟨(_,_),rfl⟩
theorem lO{it}{b}{o}{Q}{E}(ho:s.heap.get? it=some o)(hc:o.cls= .type "list_iterator")(h:Q () s):
  wpAny (model prog w) B (WR (.ref it) b) Q E s:=by
 exact bL ho (hc▸Rj h)
theorem sJ(hit:s.heap.IsListIter it l i)(hl:s.heap.IsList l items)(hx:items[i]?=some x)(uF:splitAtGen fs=none)
  (h:∀h',h'.IsListIter it l (i+1)→SU it s.heap h'→∀k p,(∀JV dM j,dM.heap.IsListIter it l j→Go (model prog w) A JV (sI (.ref it)) ((model prog w).den (sI (.ref it))) fs dM→Go (model prog w) A JV (sI (.ref it)) (k (.send .none)) fs dM)→
   Φ (.susp x false [] k (sI (.ref it)) p fs) {s with heap:=h'}):
  Go (model prog w) A Φ (sI (.ref it)) ((model prog w).den (sI (.ref it))) fs s:=by
 refine J (x7 ..) (J ((Nw _).2) (J (Sy ..) ?_));refine cH (T3 (bR (Rh (Sa hit.typeIs Wy
  (wpAny_call_entry Wy hit.typeIs abf ?_ (abx _))))))
 refine Rg fun kG=> ?_;obtain⟨o,ho,hc,hd⟩:=id hit;obtain⟨ol,Ez,_,nl,A8⟩:=hl;refine kG (bF ho hd (x:= .ref l) rfl ?_);refine J (if_neg (R4)) ?_;refine bF ho hd (x:= .int i 0) rfl ?_;refine bS Ez A8 ?_;simp only[UX,hx];refine bU ho hd (Ri _) (Rj ⟨x,rfl,Rj ?_⟩);generalize hh:s.heap.update it (WB fun x=>x.setIfInBounds 1 (TF (↑i+1)))=h1;have lP:h1.IsListIter it l (i+1):=by
  subst hh;exact⟨_,Sn _ ho (ZJ (Wk hd _)),(aaC ..).trans hc,by rw[Wk hd];rfl⟩
 have uu:SU it s.heap h1:=by subst hh;exact R5 ..
 refine eD (aau (abq lP) ?_);refine eD (SX ja ?_);refine eD (Rj ?_);obtain⟨o1,x8,Lm,JW⟩:=id lP;refine eD (lO x8 Lm ?_);refine xX uF fun p=>h h1 lP uu _ p fun JV dM j hj hs=>(Rg fun kG=> ?_);obtain⟨o2,sG,sH,hd2⟩:=id hj;refine kG ?_;show Go _ A JV _ (WR (.ref it) false>>=fun _=>_) fs dM;refine eD (lO sG sH ?_);exact i7 (XI _ (by decide+kernel)) hs
end
section
variable{A:TL}{Φ:End→RT→Prop}{fs:List abs}{s:RT}
theorem vP(hH:(A.over (sI (.ref it)) fs).handled=none)(hit:s.heap.IsListIter it l i)(hl:s.heap.IsList l items)(hx:items[i]?=none)
  (h:∀h',Vv it s.heap h'→Go (model prog w) A Φ (sI (.ref it)) (.pure (.done (.ret .none))) fs {s with heap:=h'}):
  Go (model prog w) A Φ (sI (.ref it)) ((model prog w).den (sI (.ref it))) fs s:=by
 refine J (x7 ..) (J ((Nw _).2) (J (Sy ..) ?_));refine cH (T3 (bR (Rh (Sa hit.typeIs Wy
  (wpAny_call_entry Wy hit.typeIs abf ?_ (abx _))))))
 refine Rg fun kG=> ?_;obtain⟨o,ho,hc,hd⟩:=id hit;obtain⟨ol,Ez,_,nl,A8⟩:=hl;refine kG (bF ho hd (x:= .ref l) rfl ?_);refine J (if_neg (R4)) ?_;refine bF ho hd (x:= .int i 0) rfl ?_;refine bS Ez A8 ?_;simp only[UX,hx];refine bR (bU ho hd (SO _) ?_);refine Rh (bN ?_ (by size_fits));refine Rh (SX (a:=TJ) rfl ?_);refine Sz ?_ (by size_fits);refine bH ?_;refine J (hH) ?_;refine XV (eD ?_);refine Rh (bT ⟨_,Rx _ rfl,rfl⟩ ?_);refine bE Vi (bE rfl (Rj ?_));refine Rj (eD (wpAny_rule ?_));refine eD (Zh (x:=TJ) (Rx _ rfl) rfl rfl ?_);exact h _ fun b o' hb e=>(Rp _ (Rp _ ((Sh _ _ (SK hb)).trans e)))
end
section
variable{n:Nat}{F:Fx}{ρ:Loc}{H H1 H2 H3 H4:AH}
noncomputable abbrev Ln(n:Nat)(f:V)(xs:List V)(H:AH)(ys:List V)(P:PP)(H':AH):Prop:=∀A s W fv vs,aC A n→ao W H s→Rel W f fv→ak W xs vs→
    ∀Q,(∀it s' W',Gr ct W s W' s'→ao W' H' s'→
      (∀X,(∀a,X a→s.heap.get? a≠none)→gp A P (fun i=>s.gens[i]?=none) X it (fun a=>s.heap.get? a=none) ys W' s')→Q it s')→
     wpAny (model prog w) A (call fv vs []) (fun x s1=>wpAny (model prog w) A (Wn x) Q aY s1) aY s
@[irreducible] noncomputable def CG (n:Nat) (f:V) (xs:List V) (H:AH) (ys:List V) (P:PP) (H':AH):Prop:=Ln n f xs H ys P H'
theorem CG.mk{n f xs H ys P H'}(h:Ln n f xs H ys P H'):CG n f xs H ys P H':=by delta CG;exact h
theorem CG.run{n f xs H ys P H'}(h:CG n f xs H ys P H'):Ln n f xs H ys P H':=by delta CG at h;exact h
theorem gp.mono{Z Z'}{X Y Y'}{it}(hz:∀i,Z i→Z' i)(hy:∀a,Y a→Y' a):∀{xs}{W}{s},gp A P Z X it Y xs W s→gp A P Z' X it Y' xs W s:=by
 intro rv
 induction rv with
 |nil=>
  intro _ _ f;exact fun s1 W1 H1 G1 S1 p hx=>RM (f s1 W1 H1 G1 S1 p hx) (fun _ _ ⟨e,W2,G2,S2⟩=>⟨e,W2,⟨G2.step.weaken hy,fun i y z=>G2.gens i y fun q=>z (hz i q)⟩,S2⟩) fun _ _ e=>e
 |cons x xs ih=>
  intro _ _ f;exact fun s1 W1 H1 G1 S1 p hx=>RM (f s1 W1 H1 G1 S1 p hx) (fun _ _ ⟨v,e,h⟩=>⟨v,e,fun t ht=>RM (h t ht)
   (fun _ _ ⟨W3,G3,S3,r3,f3⟩=>⟨W3,⟨G3.step.weaken hy,fun i y z=>G3.gens i y fun q=>z (hz i q)⟩,S3,r3,ih f3⟩) fun _ _ e=>e⟩) fun _ _ e=>e
theorem x2.aT{apos pos}{x f}{first xs ys}{P}(ho:ET n F o ρ H x H1)(hg:GM n x name H1 f first H2)(ha:ab n F pos args ρ H2 xs H3)
  (hk:aM f) (hc:CG n f (first++xs) H3 ys P H4)
  (pl:Env→Y3 Bool:=fun env=>(do return (←Zj o env).getD true))
  (he:autoParam (∀env,eval (.Call (.Attribute o name apos) args [] pos) env=(do
   let ov ←eval o env
   standAt apos.atName
   let(f,first) ←holding [ov] (Za ov name (pl env))
   UT pos f first (backTo pos (starEach args env)) [])) aI)
  (hp:autoParam (∀env,(backTo pos (starEach args env)).any (·.1)=false) aI):x2 n F (.Call (.Attribute o name apos) args [] pos) ρ H ys P H4:=by
 refine .mk fun A s W env R S E fr Q q=>(MethodCall_ (ho.run A s W env R S E fr _ fun ov s1 W1 G1 S1 r1=>hg.run A s1 W1 ov _ R S1 r1 _ fun fv fs s2 W2 G2 S2 r2 r3=> ?_) (he env));refine UV (P:=Kp fv) (by simp[hp env]) (fun _ h=>h) (cw ha R S2 E ((fr.step G1).step G2) (hp env) fun vs s3 W3 G3 S3 r4=>⟨hk.run s3 W3 _ fv S3 (r2.mono G3.le), ?_⟩);have G:=(G1.trans G2).trans G3;refine hc.run A s3 W3 fv (fs++vs) R S3 (r2.mono G3.le) ((r3.mono G3.le).append r4) Q fun it s4 W4 G4 S4 c=>q it s4 W4 (G.trans G4) S4 fun X hX=>(gp.mono (fun i z=> ?_) (fun a y=>(G.back y).resolve_right id) (c X fun a x=>G.there a (hX a x) id));cases e:s.gens[i]? with
 |none=>rfl
 |some y=>cases(G.gens i y e)▸z
end
section
variable{n:Nat}{H:AH}
theorem jF{s:RT}{g i}{x}(h:i≠g):(s.setGen g x).gens[i]?=s.gens[i]?:=by
 show(s.gens.setIfInBounds g x)[i]?=_;rw[Array.getElem?_setIfInBounds_ne (SK h)]
theorem setGen_self{s:RT}{g}{x y}(h:s.gens[g]?=some y):(s.setGen g x).gens[g]?=some x:=by
 refine J Array.getElem?_setIfInBounds_self ?_;simp[(Uc.mp h).1]
theorem j8{s:RT}{g}{x}(h:aaM s.gens)(hx:x.bare=true):aaM (s.setGen g x).gens:=by
 intro y hy;obtain⟨i,hi⟩:=Zq.mp hy;by_cases e:i=g
 ·subst e;cases q:s.gens[i]? with
  |none=>
   have:(s.setGen i x).gens[i]?=none:=by
    show(s.gens.setIfInBounds i x)[i]?=_;simpa using q
   cases this▸hi
  |some z=>replace hi:=(setGen_self q)▸hi;cases hi;exact hx
 ·rw[jF e] at hi;exact h y (Zq.mpr ⟨i,hi⟩)
theorem ao.setGen(S:ao W H s) g{x}(hx:x.bare=true):ao W H (s.setGen g x):=
 S.same (fun _ _ e _=>e) (j8 S.bare hx)
theorem Gr.Hg{W W'}{s s'}{g}{a b}(G:Gr X W (s.setGen g a) W' s')(hz:Z g):nM Z X W s W' (s'.setGen g b):=
 ⟨⟨G.le,G.cI,G.gt,G.heap,G.there,G.os,fun _ _ h=>h⟩,fun i y h e=>by
  have hi:i≠g:=fun q=>h (q▸hz);refine J (jF hi) ?_;exact G.gens i y (((jF hi)).trans (e))⟩
noncomputable def Ends(A:TL)(P:PP)(X Y:Ud→Prop)(g:Nat):List V→Wd→AH→RT→End→RT→Prop
 |[],W1,H1,s1,e,s2=>e= .ret (.ok (.ret .none))∧∃W2,Gr Y W1 s1 W2 s2∧ao W2 H1 s2
 |x::xs,W1,H1,s1,e,s2=>OI fun v g0 l k c p fs W2=>GC (e= .susp v g0 l k c p fs) (e.quiet=true) (Gr Y W1 s1 W2 s2) (ao W2 H1 s2) (Rel W2 x v)
   (∀s3 W3 H3,Gr X W2 (s2.setGen g e.genState) W3 s3→ao W3 H3 s3→P.1 H3→(∀a,X a→s3.heap.get? a≠none)→
    Go (model prog w) A.in1 (Ends A P X Y g xs W3 H3 (s3.setGen g .running)) c (k (.send .none)) fs (s3.setGen g .running))
theorem x9{X Y Y'}{Z}{a}{g}(R:aC A n)(lim:∀h:VN,(∀a o,br a=some o→h.get? a=some o)→h.NoLimit)(Lo:¬X a)(Nx:¬Y a)(Ny:∀x,Y x→Y' x)(hz:Z g)(hP:∀t,P.2 t):
  ∀xs W s gs,s.heap.IsGen a g→(jD W a)→s.gens[g]?=some gs→
   (∀s1 W1 H1,Gr X W s W1 s1→ao W1 H1 s1→P.1 H1→(∀a,X a→s1.heap.get? a≠none)→Goes (model prog w) A.in1 (Ends A P X Y g xs W1 H1 (s1.setGen g .running)) gs (s1.setGen g .running))→
   gp A P Z X (.ref a) Y' xs W s:=by
 intro rv
 induction rv with
 |nil=>
  intro W s gs hg fr Eu A6;intro s1 W1 H1 G S hp hx;have Hh:s1.heap.IsGen a g:=by obtain⟨o,nm,qn,ho,r⟩:=hg;exact⟨o,nm,qn,G.heap _ _ ho fr.1 Lo,r⟩
  refine nL R.handled (lim _ S.ground) R.lt Hh (G.gens _ _ Eu) (A6 s1 W1 H1 G S hp hx) fun e s2 he=> ?_;obtain⟨rfl,W2,G2,S2⟩:=he;refine⟨rfl,rfl,fun h' hh=>⟨rfl,W2, ?_, ?_⟩⟩
  ·have G3:nM Z Y W1 s1 W2 (s2.setGen g .finished):=G2.Hg hz;refine nM.weaken ⟨⟨G3.step.le,G3.step.cI,G3.step.gt,fun b o e hn hb=>hh b o (G3.step.heap b o e hn hb),fun b h hb=>bt hh b (G3.step.there b h hb),G3.step.os,fun _ _ h=>h⟩,G3.gens⟩ Ny
  ·exact(S2.setGen g (x:= .finished) rfl).same (fun b o e _=>hh b o e) (j8 S2.bare rfl)
 |cons x xs ih=>
  intro W s gs hg fr Eu A6;intro s1 W1 H1 G S hp hx;have Hh:s1.heap.IsGen a g:=by obtain⟨o,nm,qn,ho,r⟩:=hg;exact⟨o,nm,qn,G.heap _ _ ho fr.1 Lo,r⟩
  have th:s.heap.get? a≠none:=by obtain⟨o,nm,qn,ho,r⟩:=hg;exact J ho ((nofun))
  have Ha:s1.heap.get? a≠none:=by obtain⟨o,nm,qn,ho,r⟩:=Hh;exact J ho ((nofun))
  have C6:=am G th fr Lo;refine nL R.handled (lim _ S.ground) R.lt Hh (G.gens _ _ Eu) (A6 s1 W1 H1 G S hp hx) fun e s2 he=> ?_;obtain⟨v,g0,l,k,c,p,fs,W2,rfl,hq,G2,S2,r2,Hi⟩:=he;refine⟨hq,v,rfl,fun target _=> ?_⟩;refine Rg fun kG=> ?_;obtain⟨o,nm,qn,ho,hc,hd,Lp⟩:=id Hh;refine kG ?_;have sG:=G2.heap _ _ ho C6.1 Nx;refine eC sG hc hd dc ⟨W2,(G2.Hg hz).weaken Ny,S2.setGen g (End.bare_of_quiet hq),r2, ?_⟩;exact ih W2 _ _ ⟨o,nm,qn,sG,hc,hd,Lp⟩ (am G2 Ha C6 Nx) (setGen_self (G2.gens _ _ (setGen_self (G.gens _ _ Eu)))) fun s3 W3 H3 G3 S3 p3 x3=>Hi s3 W3 H3 G3 S3 p3 x3
noncomputable abbrev vQ(k:Nat)(L:List (Nat×List V)):PP:=(fun H=>H[k]?=some (some (.list (L.map fun p=>V.ref p.1)))∧∀p∈L,H[p.1]?=some (some (.list p.2)),fun _=>True)
structure qe(Y:Ud→Prop)(k:Nat) W(s:RT) env jB i:Prop where
 Hj:cR W [] env s.heap
 yl:Y env.locals
 yr:Y jB
 it:∃ka,W.φ[k]?=some ka∧s.heap.IsRevIter jB ka i
 fr:jD W jB
 ne:jB≠env.locals
 nc:∀n c,env.cells.lookup n≠some c
theorem qe.gr{X Y}{k}{W W'}{s s'}{env}{jB}{i}(o:qe Y k W s env jB i)(G:Gr X W s W' s')(hl:¬X env.locals)(hr:¬X jB):qe Y k W' s' env jB i:=by
 obtain⟨ka,h1,h2⟩:=o.it;have th:s.heap.get? jB≠none:=by obtain⟨ob,ho,_⟩:=h2;exact ho▸nofun
 exact⟨o.Hj.di G hl fun n c e=>absurd e (o.nc n c),o.yl,o.yr,⟨ka,Wd.eO G.le h1,h2.at fun ob e=>G.heap _ _ e o.fr.1 hr⟩,am G th o.fr hr,o.ne,o.nc⟩
structure Lit(Y:Ud→Prop)(W:Wd)(s:RT)(env:Env)(jB lit:Ud)(q j:Nat):Prop where
 yl:Y lit
 it:∃la,W.φ[q]?=some la∧s.heap.IsListIter lit la j
 fr:jD W lit
 n1:lit≠jB
 n2:lit≠env.locals
theorem Lit.gr{X Y}{W W'}{s s'}{env}{jB lit}{q j}(o:Lit Y W s env jB lit q j)(G:Gr X W s W' s')(hr:¬X lit):Lit Y W' s' env jB lit q j:=by
 obtain⟨la,h1,h2⟩:=o.it;have th:s.heap.get? lit≠none:=by obtain⟨ob,ho,_⟩:=h2;exact ho▸nofun
 obtain⟨ob,ho,r⟩:=h2;exact⟨o.yl,⟨la,Wd.eO G.le h1,ob,G.heap _ _ ho o.fr.1 hr,r⟩,am G th o.fr hr,o.n1,o.n2⟩
structure F9(P:PP) Y W1 H1 s1 W s:Prop where
 gr:Gr Y W1 s1 W s
 EA:ao W H1 s
 p:P.1 H1
 new:∀x,s.heap.get? x=none→Y x
theorem F9.step{X Y}{W1 W W'}{H1}{s1 s s'}(c:F9 P Y W1 H1 s1 W s)(G:Gr X W s W' s')(S:ao W' H1 s')(h:∀x,X x→Y x):F9 P Y W1 H1 s1 W' s':=
 ⟨c.gr.trans (G.weaken h),S,c.p,fun x e=>(G.back e).elim (c.new x) (h x)⟩
theorem Lq{k q}{L}{l}{X Y}{g}{env}{jB lit}{i}{ys}{Ga}(EB:∀a,X a→¬Y a)(hm:(q,l)∈L)
  (uF:splitAtGen Ga=none) (OY:Ga.any abs.guarded=false) (hh:(A.in1.over (sI (.ref lit)) Ga).handled=none)
  (hk:∀W1 H1 s1 W s,F9 (vQ k L) Y W1 H1 s1 W s→qe Y k W s env jB i→Go (model prog w) A.in1 (Ends A (vQ k L) X Y g ys W1 H1 s1) (sI (.ref lit)) (.pure (.done (.ret .none))) Ga s):
  ∀xs j W1 H1 s1 W s,l.drop j=xs→F9 (vQ k L) Y W1 H1 s1 W s→qe Y k W s env jB i→Lit Y W s env jB lit q j→
   Go (model prog w) A.in1 (Ends A (vQ k L) X Y g (xs++ys) W1 H1 s1) (sI (.ref lit)) ((model prog w).den (sI (.ref lit))) Ga s:=by
 intro rv
 induction rv with
 |nil=>
  intro j W1 H1 s1 W s hd c o t;obtain⟨la,h1,h2⟩:=t.it;obtain⟨Nz,nH,_,vs,m,hL,hv,_⟩:=c.EA.live q _ (c.p.2 _ hm);rw[h1] at nH;cases nH;have hlen:l.length≤j:=by simpa using hd
  refine vP hh h2 ⟨_,hL,rfl,m,rfl⟩ (by refine J Sm ?_;exact Sw (hv.length▸hlen)) fun h' hx=> ?_;obtain⟨S2,G2⟩:=c.EA.but (s':={s with heap:=h'}) (fun b ob hb e=>hx b ob hb e) (fun b y=>by cases y;exact t.fr) rfl rfl (Ri _);exact hk W1 H1 s1 W _ (c.step G2 S2 fun x e=>by cases e;exact t.yl) (o.gr G2 (fun e=>t.n2 e.symm) fun e=>t.n1 e.symm)
 |cons x xs ih=>
  intro j W1 H1 s1 W s hd c o t;obtain⟨la,h1,h2⟩:=t.it;obtain⟨Nz,nH,_,vs,m,hL,hv,_⟩:=c.EA.live q _ (c.p.2 _ hm);rw[h1] at nH;cases nH;have AB:l[j]?=some x:=by refine aQ WP (J hd ?_);rfl
  refine Rg fun kG=> ?_;obtain⟨v,OZ,rv⟩:=hv.get AB;refine kG (sJ h2 ⟨_,hL,rfl,m,rfl⟩ ((Sm)▸OZ) uF fun h' lP hs kk p A6=> ?_);obtain⟨S2,G2⟩:=c.EA.but (s':={s with heap:=h'}) (fun b ob hb e=>(hs.2 b hb).trans e) (fun b y=>by cases y;exact t.fr) rfl rfl (Ri _);have O0:∀x,x=lit→Y x:=fun x e=>by cases e;exact t.yl
  have c2:=c.step G2 S2 O0;refine⟨v,false,[],kk,_,p,Ga,W,rfl,by simp[End.quiet,OY],c2.gr,S2,rv,fun s3 W3 H3 G3 S3 p3 x3=> ?_⟩;have Lr:Gr X W {s with heap:=h'} W3 {s3 with gens:=s.gens}:=⟨G3.le,G3.cI,G3.gt,G3.heap,G3.there,G3.os,fun _ _ h=>h⟩;have t3:=(show Lit Y W {s with heap:=h'} env jB lit q (j+1) from⟨t.yl,⟨la,h1,lP⟩,t.fr,t.n1,t.n2⟩).gr Lr fun e=>EB _ e t.yl;have o3:=(o.gr G2 (fun e=>t.n2 e.symm) fun e=>t.n1 e.symm).gr Lr (fun e=>EB _ e o.yl) fun e=>EB _ e o.yr;obtain⟨O1,O2,Ls⟩:=t3.it;have JX:O1=la:=by have:=Wd.eO G3.le h1;rw[O2] at this;exact U0 this
  cases JX;refine A6 _ (s3.setGen g .running) (j+1) Ls (ih (j+1) W3 H3 _ W3 (s3.setGen g .running) ?_ ⟨Gr.refl ..,S3.setGen g rfl,p3,fun x e=> ?_⟩ ⟨o3.Hj,o3.yl,o3.yr,o3.it,o3.fr,o3.ne,o3.nc⟩ ⟨t3.yl,t3.it,t3.fr,t3.n1,t3.n2⟩)
  ·refine aQ Xe (J hd ?_);rfl
  ·rcases Lr.back (e) with q|q
   ·exact c2.new x q
   ·exact absurd e (x3 x q)
noncomputable abbrev sK(p0:Pos):Tk:= .Name "namespaces" p0
noncomputable abbrev sL(p1 p2 p3 p4 p5:Pos):List Vy:=[.If (.Name "namespaces" p1) [.Expr (.YieldFrom (.Name "namespaces" p2) p3) p4] [] p5]
theorem aC.fl{K}{l l'}{g}{p}(R:aC A (n+4))(h1:cf.weight≤1)(h2:cf.cUnits≤3):
  aC (A.in1.over (.forLoop t it b [] env) [.ret K none g l cf p l']) n:=by
 refine⟨R.1, ?_, ?_⟩
 ·have:=R.2;show A.depth+frameCount [(cf,p)]+0+n<_;refine J (frameCount_cons ..) ?_;show A.depth+(cf.weight+0)+0+n<_;lia
 ·have:=R.3;show A.units+1+unitsOf [(cf,p)]+0+12*n<_;refine J (unitsOf_cons ..) ?_;show A.units+1+(cf.cUnits+0)+0+12*n<_;lia
theorem EC{X Y}{g}{env}{jB}{cf}{K1}{Hx}{p0 p1 p2 p3 p4 p5 pf}(R:aC A (n+4))(EB:∀a,X a→¬Y a)(E:aA F env)
  (hF:F.names.lookup ("namespaces":RN)=some .local) (h1:cf.weight≤1) (h2:cf.cUnits≤3)
  (ED:∀Φ s,Φ (.ret (.ok (.ret .none))) s→Go (model prog w) A.in1 Φ cf (K1 .next) [] s):
  ∀i,i≤L.length→∀W1 H1 s1 W s,F9 (vQ k L) Y W1 H1 s1 W s→qe Y k W s env jB (i-1)→
   Go (model prog w) A.in1 (Ends A (vQ k L) X Y g (((L.take i).reverse.map (·.2)).flatten) W1 H1 s1) (.forLoop (sK p0) (.ref jB) (sL p1 p2 p3 p4 p5) [] env)
    ((model prog w).den (.forLoop (sK p0) (.ref jB) (sL p1 p2 p3 p4 p5) [] env)) [.ret (x4 env K1 Hx id id) none (id false) (id []) cf pf []] s:=by
 intro rv
 induction rv with
 |zero=>
  intro _ W1 H1 s1 W s c o;obtain⟨ka,e1,e2⟩:=o.it;refine lN (wpAny_pyNext_rev_end R.handled e2 fun h' hx=>oE (vO (ED _ _ ?_)));obtain⟨S2,G2⟩:=c.EA.but (s':={s with heap:=h'}) (fun b ob hb e=>hx b ob hb e) (fun b y=>by subst y;exact o.fr) rfl rfl (Ri _);exact⟨rfl,W,c.gr.trans (G2.weaken fun x e=>by cases e;exact o.yr),S2⟩
 |succ i ih=>
  intro hi W1 H1 s1 W s c o;refine Rg fun kG=> ?_;obtain⟨ka,e1,e2⟩:=o.it;obtain⟨O3,A9,_,vs,m,hL,hv,_⟩:=c.EA.live k _ c.p.1;refine kG ?_;replace A9:=e1▸A9;cases A9;have cg:=hi;refine Rg fun kG=> ?_;obtain⟨⟨q,l⟩,Ba⟩:∃x,L[i]=x:=⟨_,rfl⟩;refine kG ?_;have hm:=Ba▸UA cg;have Lu:(((L.take (i+1)).reverse.map (·.2)).flatten)=l++(((L.take i).reverse.map (·.2)).flatten):=by
   refine J (List.take_succ_eq_append_getElem cg) (J List.reverse_append (J Ba ?_));rfl
  refine Rg fun kG=> ?_;obtain⟨v,KY,rv⟩:=hv.get (x:= .ref q) (by refine J Sx (J (RK cg) (J Ba ?_));rfl);refine kG (J Lu ?_);have O4:s.heap.IsRevIter jB ka i:=by
   exact(show(((i+1:Nat):Int)-1)=i by lia)▸e2
  have R':=fun p=>aC.fl (t:=sK p0) (it:= .ref jB) (b:=sL p1 p2 p3 p4 p5) (env:=env) (K:=x4 env K1 Hx id id) (l:=id []) (l':=[]) (g:=id false) (p:=p) R h1 h2;have ih:=ih (TC cg);refine lN (wpAny_pyNext_rev_item O4 ⟨_,hL,rfl,m,rfl⟩ ((Sm)▸KY) fun h' lP hs=> ?_);obtain⟨S2,G2⟩:=c.EA.but (s':={s with heap:=h'}) (fun b ob hb e=>(hs.2 b hb).trans e) (fun b y=>by cases y;exact o.fr) rfl rfl (Ri _);have c2:=c.step G2 S2 fun x e=>by cases e;exact o.yr
  have o2:qe Y k W {s with heap:=h'} env jB (i-1):=⟨o.Hj.di G2 (fun e=>o.ne e.symm) fun n c e=>absurd e (o.nc n c),o.yl,o.yr,⟨ka,e1,lP⟩,o.fr,o.ne,o.nc⟩;obtain⟨ob,ho,gn,O5⟩:=id lP;refine eC ho gn O5 dc (VX ((ST.local hF).run _ {s with heap:=h'} W H1 [] env (.ref q) v S2 E o2.Hj rv _ fun s3 G3 S3 f3=> ?_));have sN:∀x,own env x→x=env.locals:=fun x h=>h.elim id fun⟨_,y,_,e⟩=>absurd e (o.nc y x);have o3:qe Y k W s3 env jB (i-1):=⟨f3.sub ae,o.yl,o.yr,⟨ka,e1,lP.at fun ob e=>G3.heap _ _ e o.fr.1 (fun e=>o.ne (sN _ e))⟩,o.fr,o.ne,o.nc⟩;refine fm (Hf ?_);refine(TT.value ET.name (OB.ai (c.p.2 _ hm))).run _ s3 W env (R' _) S3 E f3 _ fun s4 W4 G4 S4=> ?_;have c4:=(c2.step G3 S3 fun x e=>by exact(sN x e)▸o.yl).step G4 S4 fun _ e=>e.elim;have o4:=o3.gr G4 id id;cases l with
  |nil=>
   exact J (if_neg R4) ((i9 (i9 (i7 rfl (ih W1 H1 s1 W4 s4 c4 o4)))))
  |cons x0 l0=>
   refine J (if_pos rfl) (fm (oF (by delta aa9;exact E.kind▸rfl) ?_));refine(ET.name rfl).run _ s4 W4 env (R' _) S4 E (f3.step G4) _ fun u s5 W5 G5 S5 r5=> ?_;have c5:=c4.step G5 S5 fun _ e=>e.elim;have o5:=o4.gr G5 id id;have T5:=(Ty.ai (c.p.2 _ hm)).run s5 W5 u S5 r5;refine Rg fun kG=> ?_;obtain⟨la,rfl,JX⟩:=r5;obtain⟨Nz,nH,_,us,m5,O6,QX,_⟩:=S5.live q _ (c.p.2 _ hm);refine kG ?_;replace nH:=JX▸nH;cases nH;refine⟨"list",T5,rfl,WM ⟨_,O6,rfl,m5,rfl⟩ fun p=> ?_⟩;have G6:Gr ct W5 s5 W5 _:=Gr.cn W5 s5 {cls:= .type "list_iterator",data:= .fields #[.ref la, .int 0 0]};have t6:Lit Y W5 {s5 with heap:=s5.heap.push {cls:= .type "list_iterator",data:= .fields #[.ref la, .int 0 0]}} env jB s5.heap.objs.size q 0:=by
    refine⟨c5.new _ (af _),⟨la,JX,(⟨_,Rx _ rfl,rfl,rfl⟩)⟩,(S5.fresh (af s5.heap)),fun e=> ?_,fun e=> ?_⟩
    ·obtain⟨kb,_,QY,Hk,_⟩:=o5.it;rw[←e] at Hk;exact absurd Hk (by rw[af];exact nofun)
    ·obtain⟨mm,hn,_⟩:=o5.Hj.m;exact ch hn (e▸af _)
   refine Lq EB hm rfl rfl ?_ (fun Lv O7 Lw W' s' c' o'=> ?_) (x0::l0) 0 W1 H1 s1 W5 _ rfl (c5.step G6 (S5.cn {cls:= .type "list_iterator",data:= .fields #[.ref la, .int 0 0]}) fun _ e=>e.elim) (o5.gr G6 id id) t6
   ·exact R.handled
   ·exact uE (.ok (.ret .none)) (i7 rfl (ih Lv O7 Lw W' s' c' o'))
end
section
variable{n:Nat}{F:Fx}{ρ an cV hU:Loc}{H H1 H2 H3 H4 H5:AH}{g:Fl}
theorem CT.EE:CT n (.st (.type "set")) [] [] H (.ref H.length) (H++[some (.sset [])]):= .mk fun A s W fv vs kv R S rf rx c8 _ Q q=>by
 cases rf;cases rx;have:kv=[]:=by simpa using c8
 subst this;refine call_set_0 fun led=> ?_;obtain⟨S2,G2⟩:=S.new (s':={s with heap:=s.heap.push {cls:= .type "set",dict:=none,data:= .set #[] 0 (.fresh 0 0 led)}}) (ob:= .sset []) (fun _ _ e=>Rp _ e) (by rw[Rx _ rfl];exact nofun) rfl rfl (Ri _)
  ⟨0,by
   simpa using((setObjOf_fresh led).setOf (Rx _ rfl) dc),Ri _⟩
 exact q _ _ _ G2 S2 ⟨_,rfl,by refine aQ S.len ?_;simp[Wd.new]⟩
theorem OT.EF{x}(hk:H[k]?=some (some (.sset l))):OT n (Sv .In) (.str x) (.ref k) H (.bool (decide (x∈l))) H:=OT.aZ fun A s W a c R S ra rc Q q=>by
 obtain⟨t,rfl,_⟩:=ra;obtain⟨b,rfl,p⟩:=rc;obtain⟨b',p',_,m,hS,hm⟩:=S.live k _ hk;cases p▸p';exact wpAny_inSet_of (UF prog w x t) rfl hS (q _)
theorem OT.vR{x}(hk:H[k]?=some (some (.sset l))):OT n (Sv .NotIn) (.str x) (.ref k) H (.bool (!decide (x∈l))) H:=OT.aZ fun A s W a c R S ra rc Q q=>by
 obtain⟨t,rfl,_⟩:=ra;obtain⟨b,rfl,p⟩:=rc;obtain⟨b',p',_,m,hS,hm⟩:=S.live k _ hk;cases p▸p';exact wpAny_notInSet_of (UF prog w x t) rfl hS (q _)
theorem CT.setAdd{x}(hk:H[k]?=some (some (.sset l)))(hz:l.length+1<X7):CT n (.st (.builtin "set.add")) [.ref k, .str x] [] H .none (H.set k (some (.sset (l++[x])))):= .mk fun A s W fv vs kv R S rf rx c8 _ Q q=>by
 cases rf;obtain⟨v,u,rfl,⟨b,rfl,p⟩,⟨t,rfl,_⟩⟩:=rx.two;have:kv=[]:=by simpa using c8
 subst this;refine Rg fun kG=> ?_;obtain⟨b',p',hI,m,hS,hm⟩:=S.live k _ hk;refine kG ?_;replace p':=p▸p';cases p';refine call_set_add (UF prog w x t) rfl hS (elt (adr hm) hz) fun h' hs Gb=> ?_;have JQ:h'.get? b≠none:=by obtain⟨o,_,_,_,ho,_⟩:=Gb;exact ho▸nofun
 obtain⟨S2,G2⟩:=S.set (s':={s with heap:=h',toks:=s.toks+1}) (ob:= .sset (l++[x])) p hI (fun c o hc e=>(hs.2 c hc).trans e) JQ rfl rfl (TP _)
  ⟨_,by
   have e:(fun y=>decide (y∈l++[x]))=(fun k'=>decide (k'∈l)||decide (k'=x)):=by
    funext y;simp
   refine J e ?_;exact Gb,by refine bn (fun _=> ?_) (fun _=> ?_)<;>simp<;>lia⟩
 exact q _ _ _ G2 S2 rfl
end
section
variable{A:TL}{s:RT}
theorem ya{α:Type}{f:Nat→Bool}:∀(l:List α) i,(∀k,i≤k→k<i+l.length→f k=true)→(l.zipIdx i).filterMap (fun p=>if f p.2 then none else some p.1)=[]:=by
 intro rv
 induction rv with
 |nil=>
  intro _ _;exact rfl
 |cons x l ih=>
  intro i h;refine J List.zipIdx_cons (J Xu ?_);simp only[(h i (Ri _) (by simp)),if_true];exact ih (i+1) fun k h1 h2=>h k (lj h1) (ap h2 (io (Ri _)))
theorem Bb(h:arr=#[]):some ({cls:= .type "list",dict:=none,data:= .seq arr k,slots:=#[]}:Obj)=some (sq "list" [] k):=by subst h;rfl
theorem Bc{vs}{m}{Q}(ho:s.heap.get? l=some (sq "list" vs m))(hs:s.heap.IsSliceOf sl .none .none .none)(hz:vs.length≤Rs)
  (hQ:∀h' m',h'.get? l=some (sq "list" [] m')→SU l s.heap h'→Q () {s with heap:=h'}):wpAny (model prog w) A (delItem (.ref l) (.ref sl)) Q aY s:=by
 have hl:s.heap.IsList l vs.toArray:=⟨_,ho,rfl,m,rfl⟩;obtain⟨os,sF,xC,C7⟩:=id hs;have JY:s.TypeIs (.ref sl) "slice":=⟨os,sF,xC⟩;refine wpAny_delItem_slot hl.typeIs dc F.slot_list_delitem (wpAny_call_entry F.slot_list_delitem hl.typeIs F.entry_list_delitem ?_ (F.args_list_delitem_2 _ _));show wpAny _ _ (Xy (.ref sl)>>=_) _ _ s;refine Rh (bY JY slice_no_index ?_);refine Rj (bT JY ?_);refine J (if_neg dc) (J (listSliceParts_eq ..) ?_);refine Rh (Rh (Zh sF C7 (x:=TJ) rfl (Rh (ZF .none ?_))));refine J (if_neg dc) (bF sF C7 (x:=TJ) rfl (Rh (ZF .none ?_)));refine bF sF C7 (x:=TJ) rfl (Rh (ZF .none (Rj ?_)));refine Rh (bS ho rfl (Rj ?_));refine bE (sliceIndices_raw none none none vs.toArray.size nofun) (bR ?_);refine Rh (VD ho rfl ?_ (_hz':= ?_))
 ·refine bO (Rj ⟨_,rfl, ?_⟩);refine hQ _ _ ((Y4 ho _).trans (Bb (congrArg Tz (ya _ 0 ?_)))) (R5 ..);intro k h1 h2;simp at h2;show(if 1>0 then decide (0≤k)&&decide (k<(vs.length:Int))&&(((k:Int)-0)%1==0) else _)=true;refine J (if_pos dc) ?_;simp[(ol h2)]
 ·refine J RI ?_;refine Rq (List.length_filterMap_le _ _) ?_;simp;exact ap hz dc
end
section
variable{n:Nat}{F:Fx}{ρ an cV hU:Loc}{H H1 H2 H3 H4 H5:AH}{g:Fl}
theorem XT.EG(ho:ET n F o ρ H (.ref k) H)(hk:H[k]?=some (some (.list l))):
  XT n F (.Delete [.Subscript o (.Slice none none none p1) p2] pos) ρ H .next ρ (H.set k (some (.list []))):=by
 refine .mk fun A s W env R S E fr Q q=>(wpAny_Delete (wpAny_deleteEach_cons ?_));show wpAny _ A (do
  let ov ←eval o env
  let iv ←holding [ov] (eval (.Slice none none none p1) env)
  standAt p2
  holding [ov,iv] (delItem ov iv)
  release [ov,iv] []) _ aY s
 refine Rh (ho.run A s W env R S E fr _ fun ov s1 W1 G1 S1 r1=> ?_);refine Rh (wpAny_holding (wpAny_Slice (Rj (Rj (Rj ?_)))));have S2:=S1.cn {cls:= .type "slice",data:= .fields #[.none, .none, .none]};refine bA (Rh (wpAny_holding ?_));refine Rg fun kG=> ?_;obtain⟨a,rfl,p⟩:=r1;obtain⟨a',p',hI,vs,m,hL,hv,hz⟩:=S2.live k _ hk;refine kG ?_;replace p':=p▸p';cases p';refine Bc hL (Yz ..) (hv.length▸hz) fun h' m' hp hs=>(ZE (wpAny_deleteEach_nil ?_));obtain⟨S3,G3⟩:=S2.set (s':={s1 with heap:=h'}) (ob:= .list []) p hI (fun b o hb e=>(hs.2 b hb).trans e) (hp▸nofun) rfl rfl (Ri _) ⟨[],m',hp,rfl,RW _⟩;have G:=(G1.trans (Gr.cn W1 s1 {cls:= .type "slice",data:= .fields #[.none, .none, .none]})).trans G3;exact q _ _ W1 G.of S3 (fr.step G) rfl
theorem GM.own{K}{i C d:Nat}{l}{name}{y}(c:pY K C)(hi:H[i]?=some (some (.inst C d)))(hd:H[d]?=some (some (.ns l)))(hl:l.lookup name=some y)
  (ha:TQ K (.ref C) name=some none) (hn:noGet K none=true) (hy:autoParam (V.hand y=true) aR):GM n (.ref i) name H y [] H:=by
 refine .mk fun A s W v pl R S r Q q=> ?_;obtain⟨a',da,ox,od,m,e,p,pd,hI,Ej,hx,I,AV,Ei,hm,kM⟩:=i6 S hi hd r;obtain⟨u,hv,rv⟩:=(hm name).2 y hl;subst e;exact method_usual (c.uz _ S.ground) I c.vF c.hk ha rfl (get_value (c.uz _ S.ground) I c.vF (findObj_own c.hd ha hn (J (kM ..) (J (hv ..) rfl))) (lJ hy rv) (q u [] _ W (Gr.dF W s _) (S.tok _) rv rfl))
theorem ET.O8{u}(h:ET n F e ρ H (.st (.ref a)) H1)(ha:br a=some (bq f u))(hx:∀W,Rel W x u):ET n F e ρ H (.bm f x) H1:= .mk fun A s W env R S E fr Q q=>
 h.run A s W env R S E fr Q fun v s1 W1 G1 S1 r1=>q v s1 W1 G1 S1 (by cases r1;exact⟨a,u,rfl,S1.gr _ _ ha,hx W1⟩)
theorem ao.lQ{l l'}(S:ao W H s)(hd:H[d]?=some (some (.ns l)))(he:∀x,l'.lookup x=l.lookup x):ao W (H.set d (some (.ns l'))) s:=by
 refine⟨S.cr,S.gr,S.nodup,by refine J SS ?_;exact S.len,S.lt,fun i ob e=> ?_,S.bare,S.tk,S.col⟩;rcases cj e with⟨h1,h2⟩|⟨_,h2⟩
 ·cases h2;subst h1;obtain⟨a,p,hI,m,hn,hm⟩:=S.live _ _ hd;exact⟨a,p,hI,m,hn,fun x=>by exact(he x)▸hm x⟩
 ·exact S.live i ob h2
theorem XT.lQ{st}{d}{l l'}(hd:H1[d]?=some (some (.ns l)))(he:∀x,l'.lookup x=l.lookup x)(h:XT n F st ρ H g an H1):XT n F st ρ H g an (H1.set d (some (.ns l'))):= .mk fun A s W env R S E fr Q q=>
 h.run A s W env R S E fr Q fun f s1 W1 G1 S1 f1 r1=>q f s1 W1 G1 (S1.lQ hd he) f1 r1
end
mutual
theorem V.cz(h:k≤k'):∀{x:V},x.dG k=true→x.dG k'=true
 | .tup l,e=>eZ h e
 | .lst l,e=>eZ h e
 | .bx l,e=>dW h e
 | .ref i,e=>decide_eq_true (Si (of_decide_eq_true e) h)
 | .bm _ x,e=>V.cz h (x:=x) e
 | .pm _ x,e=>V.cz h (x:=x) e
 | .vw _ x,e=>V.cz h (x:=x) e
 | .raw _ x,e=>V.cz h (x:=x) e
 | .none,_=>rfl
 | .bool _,_=>rfl
 | .int _,_=>rfl
 | .str _,_=>rfl
 | .lit _,_=>rfl
 | .st _,_=>rfl
 | .dst _,_=>rfl
theorem eZ(h:k≤k'):∀{l},bJ k l=true→bJ k' l=true
 |[],_=>rfl
 |x::l,e=>by
  have e:=(RA _ _).mp e;exact(RA _ _).mpr ⟨V.cz h e.1,eZ h e.2⟩
theorem dW(h:k≤k'):∀{l},d8 k l=true→d8 k' l=true
 |[],_=>rfl
 |(_,x)::l,e=>by
  have e:=(RA _ _).mp e;exact(RA _ _).mpr ⟨V.cz h e.1,dW h e.2⟩
end
theorem AO.cz(h:k≤k'):∀{x:AO},x.dG k=true→x.dG k'=true
 | .list _,e=>eZ h e
 | .dict _,e=>dW h e
 | .ns _,e=>dW h e
 | .inst _ d,e=>decide_eq_true (Si (of_decide_eq_true e) h)
 | .sset _,_=>rfl
 | .tab _ _ _,_=>rfl
theorem cA:bJ k l=true↔∀x∈l,x.dG k=true:=by
 induction l with
 |nil=>exact⟨fun _ _ h=>absurd h RG,fun _=>rfl⟩
 |cons x l ih=>rw[V2,←ih];exact V4
theorem sO:d8 k l=true↔∀p∈l,p.2.dG k=true:=by
 induction l with
 |nil=>exact⟨fun _ _ h=>absurd h RG,fun _=>rfl⟩
 |cons x l ih=>rw[V2,←ih];exact V4
section
variable{n:Nat}{F:Fx}{ρ an cV hU:Loc}{H H1 H2 H3 H4 H5:AH}{g:Fl}
theorem ao.kill(S:ao W H s) i:ao W (H.set i none) s:=by
 refine⟨S.cr,S.gr,S.nodup,by refine J SS ?_;exact S.len,S.lt,fun j ob e=> ?_,S.bare,S.tk,S.col⟩;rcases cj e with⟨_,h2⟩|⟨_,h2⟩
 ·cases h2
 ·exact S.live j ob h2
theorem ag.kill i(h:ag n F gu ρ (H.set i none) g an H1):ag n F gu ρ H g an H1:= .mk fun A s W env R S E fr Q q=>h.run A s W env R (S.kill i) E fr Q q
theorem Em.sub_int:OT n (X8 .Sub) (.int a) (.int b) H (.int (a-b)) H:=OT.dH fun A s W x y R S ra rb Q q=>by
 obtain⟨t,rfl⟩:=ra;obtain⟨u,rfl⟩:=rb;exact AutoIntOps.isub_0 (q _ _)
end
theorem sP t es h x:(Zs t es h x).2.1.led=t.led∧((Zs t es h x).2.1.plain=t.plain∨(Zs t es h x).2.1.plain=false):=by
 unfold Zs;rcases t.freeSlot h with _|⟨slot,d⟩
 ·exact⟨rfl, .inr rfl⟩
 ·dsimp only;unfold Xo.orStandIn;refine bn (fun _=> ?_) fun _=> ?_
  ·exact⟨rfl, .inl rfl⟩
  ·exact⟨rfl, .inr rfl⟩
theorem oG t es n:(V7 t es n).2.1.led=t.led∧((V7 t es n).2.1.plain=t.plain∨(V7 t es n).2.1.plain=false):=by
 unfold V7;cases e:t.relaid (es.map (·.1)) n with
 |none=>exact⟨rfl, .inr rfl⟩
 |some p=>
  obtain⟨t',order⟩:=p;dsimp only;have hl:t'.led=t.led∧t'.plain=t.plain:=by
   unfold Xo.relaid Xo.laid at e;cases hc:Xo.layClean (Xo.sizeAbove n-1) (es.map (·.1)) with
   |none=>replace e:=hc▸e;cases e
   |some o=>replace e:=hc▸e;cases e;exact⟨rfl,rfl⟩
  refine bn (fun _=> ?_) fun _=> ?_
  ·exact⟨hl.1, .inl hl.2⟩
  ·exact⟨rfl, .inr rfl⟩
theorem oH led h x:∃j,Zs (.fresh 0 0 led) #[] h x=(#[(h,x)],{Xo.fresh 0 0 led with place:=#[j]},false,false):=by
 refine⟨(Xo.probeStart (.fresh 0 0 led) h).j, ?_⟩;rfl
noncomputable def gw(ps:List (RN×Tok)):List (Int×Value):=ps.map fun p=>(Wm w p.1,R6 p.1 p.2)
theorem sQ ps:ElemsOf (strKind prog w) (gw ps):=fun e he=>by
 obtain⟨p,_,rfl⟩:=Rz.mp he;exact⟨⟨p.1,UF prog w p.1 p.2,rfl⟩,rfl⟩
theorem nN(h:es.Perm (gw ps)):∃qf,es=gw qf∧qf.Perm ps:=by
 have:∀{es es'},es.Perm es'→∀ps,es'=gw ps→∃qf,es=gw qf∧qf.Perm ps:=by
  intro es es' p
  induction p with
  |nil=>intro ps e;exact⟨ps,e, .refl _⟩
  |cons x p ih=>
   intro ps e;cases ps with
   |nil=>cases e
   |cons q ps=>
    simp only[gw,RD,Ug] at e;obtain⟨qf,h1,h2⟩:=ih ps e.2;exact⟨q::qf,by simp[gw,h1,e.1],h2.cons q⟩
  |swap x y l=>
   intro ps e
   match ps,e with
   |q::r::ps,e=>
    simp only[gw,RD,Ug] at e;exact⟨r::q::ps,by simp[gw,e.1,e.2.1,e.2.2], .swap q r ps⟩
  |trans p q Lx Ly=>
   intro ps e;obtain⟨Lz,h1,h2⟩:=Ly ps e;obtain⟨LA,h3,h4⟩:=Lx Lz h1;exact⟨LA,h3,h4.trans h2⟩
 exact this h ps rfl
section
variable{A:TL}{E:Value→RT→Prop}{s:RT}
noncomputable def qg(t:Xo):Prop:=(t.fill+1)*5<t.mask*3
theorem yb{h:VN}{a}{es es'}{ep}{t t'}(ho:h.get? a=some (tq es ep t)):(h.update a (aav es' t')).get? a=some (tq es' (ep+1) t'):=by
 have:=Sn (aav es' t') ho rfl;rw[putSet_of es' t' rfl] at this;exact this
theorem EH(ho:s.heap.get? a=some (tq es ep t))(he:es.toList=gw ps)(hf:t.fits es.size=true)(hn:k∉ps.map (·.1))
  (c7:ps.length+1<1000)
  (h:∀h' es' C5 t' qf,SU a s.heap h'→h'.get? a=some (tq es' C5 t')→es'.toList=gw qf→qf.Perm (ps++[(k,tk)])→t'.fits es'.size=true→t'.led=t.led→t'.plain=false→
   (∀led,t= .fresh 0 0 led→es=#[]→qg t')→Q true {s with heap:=h'}):
  wpAny (model prog w) A (setAddHashed a (.str k tk) (Wm w k)) Q E s:=by
 have hsz:es.size=ps.length:=by refine aQ Ut (J he ?_);simp[gw]
 have JZ:=he▸sQ ps;refine wpAny_holding (bZ ho rfl hf ?_);dsimp only;refine J (byScan_of rfl (elt (bD hsz) (JN (uo c7) dc)) JZ) (Rh (bR ?_));refine Rh (wpAny_setScan_of (UF prog w k tk) ho rfl hf JZ ?_);have xD:List.findIdx? (fun e=>(strKind prog w).is k e.2) es.toList=none:=by
  rw[List.findIdx?_eq_none_iff,he];intro e hm;obtain⟨p,hp,rfl⟩:=Rz.mp hm;cases hq:(strKind prog w).is k (R6 p.1 p.2) with
  |false=>rfl
  |true=>exact absurd ((strKind prog w).inj _ _ _ (UF prog w p.1 p.2) hq) (fun q=>hn (Rz.mpr ⟨p,hp,q⟩))
 refine J xD ?_;have NA:∀b{ci}{Q'},Q' () ci→wpAny (model prog w) A (match b with|true=>rule "set.scan.the-table-gave-way"|false=>pure ()) Q' E ci:=
  fun b ci Q' hq=>by cases b<;>first|exact Rj hq|exact wpAny_rule hq
 have j9:=layNew_perm t es (Wm w k) (.str k tk);have yc:=layNew_fits t es (Wm w k) (.str k tk);have yd:=sP t es (Wm w k) (.str k tk);have ye:∀led,t= .fresh 0 0 led→es=#[]→(qg (Zs t es (Wm w k) (.str k tk)).2.1∧(Zs t es (Wm w k) (.str k tk)).2.1.tooFull=false):=by
  intro led e1 e2;subst e1 e2;obtain⟨j,hj⟩:=oH led (Wm w k) (.str k tk);exact J hj (⟨by show(1+0+1)*5<7*3;decide,rfl⟩)
 generalize hL:Zs t es (Wm w k) (.str k tk)=L at j9 yc yd ye⊢;obtain⟨iK,t1,qh,O9⟩:=L;rw[aak,he] at j9;refine Rg fun kG=> ?_;obtain⟨Pa,Bd,EI⟩:=nN (show iK.toList.Perm (gw (ps++[(k,tk)])) by simpa [gw] using j9);refine kG ?_;have Hl:iK.size=ps.length+1:=by refine aQ Ut (J Bd ?_);simp[gw,EI.length_eq]
 refine Rh (NA _ ?_);have fin:∀t2,t2.fits iK.size=true→t2.led=t.led→t2.plain=false→(∀led,t= .fresh 0 0 led→es=#[]→qg t2∧t2.tooFull=false)→
   wpAny (model prog w) A (do
    aba a iK t2
    if(!qh&&t2.tooFull)=true then do
      (match(V7 t2 iK (TV iK.size)).2.2 with|true=>rule "set.scan.the-table-gave-way"|false=>pure ())
      aba a (V7 t2 iK (TV iK.size)).1 (V7 t2 iK (TV iK.size)).2.1
      pure (some true)
     else pure (some true)) (fun r s'=>r=some true∧Q true s') E s:=by
  intro t2 Pb d5 J0 NB;refine Rh (wpAny_storeSet_of ho rfl ?_ (J Hl (J R2 ((AU (len (ap c7 dc)))))));have x8:=yb (es':=iK) (t':=t2) ho;have Hm:=R5 s.heap a (aav iK t2);refine bn (fun _=> ?_) fun _=> ?_
  ·rename_i hc;have hp:=relayAll_perm t2 iK (TV iK.size);have Hn:=relayAll_fits t2 iK (TV iK.size);have LC:=oG t2 iK (TV iK.size);generalize QZ:V7 t2 iK (TV iK.size)=Rl at hp Hn LC⊢;rw[Bd] at hp;refine Rg fun kG=> ?_;obtain⟨Lz,Ho,Hp⟩:=nN hp;refine kG ?_;have LD:Rl.1.size=iK.size:=by refine aQ Ut (J Ho (aQ Ut (J Bd ?_)));simp[gw,Hp.length_eq]
   refine Rh (NA _ ?_);refine Rh (wpAny_storeSet_of x8 rfl ?_ (J LD (J Hl (J R2 ((AU (len (ap c7 dc))))))));refine Rj ⟨rfl,h _ Rl.1 _ Rl.2.1 Lz (Hm.trans (R5 _ a _)) (yb x8) Ho (Hp.trans EI) Hn (LC.1.trans d5) ?_ ?_⟩
   ·rcases LC.2 with q|q
    ·rw[q,J0]
    ·exact q
   ·intro led e1 e2;rw[((NB led e1 e2).2)] at hc;simp at hc
  ·exact Rj ⟨rfl,h _ iK _ t2 Pa Hm x8 Bd EI Pb d5 J0 fun led e1 e2=>(NB led e1 e2).1⟩
 refine bn (fun _=> ?_) fun _=> ?_
 ·refine Rh ?_;refine J (hashByValue_scannable 8 rfl) (Rj ?_);show wpAny _ _ (do
    aba a iK ({t1 with plain:=false}:Xo)
    if(!qh&&({t1 with plain:=false}:Xo).tooFull)=true then do
      (match(V7 ({t1 with plain:=false}:Xo) iK (TV iK.size)).2.2 with|true=>rule "set.scan.the-table-gave-way"|false=>pure ())
      aba a (V7 ({t1 with plain:=false}:Xo) iK (TV iK.size)).1 (V7 ({t1 with plain:=false}:Xo) iK (TV iK.size)).2.1
      pure (some true)
     else pure (some true)) _ _ _
  refine RM (fin _ (Xo.fits_plain_off yc) yd.1 rfl ye) (fun r s' hq=> ?_) fun _ _ e=>e;obtain⟨rfl,hq⟩:=hq;exact Rj hq
 ·rename_i qi;refine bP (RM (fin _ yc yd.1 (by simpa using qi) ye) (fun r s' hq=> ?_) fun _ _ e=>e);obtain⟨rfl,hq⟩:=hq;exact Rj hq
end
section
variable{A:TL}{s:RT}
theorem sub_dict_set:Xi (.type "dict") (.type "set")=pure false:=rfl
theorem sub_dict_frozenset:Xi (.type "dict") (.type "frozenset")=pure false:=rfl
theorem yf:∀{l}{es},d7 W l es→es.length=l.length:=by
 intro rv
 induction rv with
 |nil=>
  intro _ r;cases r;rfl
 |cons pq _ ih=>
  obtain⟨_,_⟩:=pq;rintro _ ⟨t,v,r,e,_,b⟩;subst e;simp[ih b]
theorem Be{f:Nat→β→Y3 (ForInStep β)}:forIn [:0] b f=pure b:=by
 exact J (Wf ..) rfl
theorem Bf{f:Nat→β→Y3 (ForInStep β)}:forIn [:1] b f=(f 0 b>>=fun r=>match r with| .done b=>pure b| .yield b=>pure b):=by
 refine J (Wf ..) ?_;refine J (Vl ..) ?_;rfl
structure LG(s s':RT) a(D:Ud→Prop):Prop where
 keep:∀b o,b≠a→¬D b→s.heap.get? b=some o→s'.heap.get? b=some o
 gens:s'.gens=s.gens
 os:s'.os=s.os
 toks:s.toks≤s'.toks
theorem oI(h:qg t){n}(hn:n≤1):t.roomFor n=none:=by
 unfold Xo.roomFor;rw[if_neg];exact len (ap (ba (OK (ba (Ri _) hn)) (Ri _)) h)
theorem uH{a d it}{bd}{i m}{R}(hh:A.handled=none)(hit:s.heap.IsKeyIter it d i bd.length m)(hd:s.heap.DictAt (strKind prog w) d bd m)(hx:bd[i]?=none)
  (h:∀h',Vv it s.heap h'→R (.ok (.ret .none)) {s with heap:=h'}):Tt (model prog w) A (.builtin "set.update.loop" ⟨[.ref a, .ref it],[]⟩) R s:=by
 refine SW F.entry_set_update_loop (J (Ss F.plain_set_update_loop _) ?_);refine Rh (aax hh hit hd hx fun h' LH=> ?_);exact Rj (h h' LH)
theorem yg{a d it}{bd}{i m}{k}{v}{R}(hit:s.heap.IsKeyIter it d i bd.length m)(hd:s.heap.DictAt (strKind prog w) d bd m)(hx:bd[i]?=some (k,v))
  (h:∀tk h',h'.IsKeyIter it d (i+1) bd.length m→SU it s.heap h'→wpAny (model prog w) A.in1 (setAddHashed a (.str k tk) (Wm w k)) (fun _ s'=>Tt (model prog w) A (.builtin "set.update.loop" ⟨[.ref a, .ref it],[]⟩) R s') (fun e s'=>R (.error e) s') {s with heap:=h',toks:=s.toks+1}):
  Tt (model prog w) A (.builtin "set.update.loop" ⟨[.ref a, .ref it],[]⟩) R s:=by
 refine SW F.entry_set_update_loop (J (Ss F.plain_set_update_loop _) ?_);refine Rh (aam hit hd hx fun key h' nj lP hs=> ?_);obtain⟨tk,rfl⟩:=Us nj;refine Rh (wpAny_holding ?_);refine wpAny_holding (Rh ((strKind prog w).pyHash nj ?_));refine RM (h tk h' lP hs) (fun b s' hb=> ?_) fun _ _ e=>e;exact Rj ⟨XI _ (by decide+kernel),hb⟩
theorem ir{es}{ep m}{t}{ps}{LI}{l}{W}{Q}(hh:A.handled=none)
  (ho:s.heap.get? a=some (tq es ep t)) (he:es.toList=gw ps) (hf:t.fits es.size=true) (hp:t.plain=false) (hr:qg t) (jb:ps.length≤10)
  (hd:s.heap.get? d=some (dq LI m)) (sR:(d==TA)=false) (rd:d7 W l LI) (nd:(l.map (·.1)).Nodup) (hl:l.length≤1) (hn:∀p∈l,p.1∉ps.map (·.1)) (J1:a≠d)
  (h:∀s' es' C5 t' qf,LG s s' a (fun b=>s.heap.get? b=none)→s'.heap.get? a=some (tq es' C5 t')→es'.toList=gw qf→(qf.map (·.1)).Perm (ps.map (·.1)++l.map (·.1))→t'.fits es'.size=true→t'.led=t.led→t'.plain=false→Q () s'):
  wpAny (model prog w) A (setDisplayStar a (.ref d)) Q aY s:=by
 have hT:s.TypeIs (.ref d) "dict":=⟨_,hd,rfl⟩;refine Rh (Xa hT sub_dict_set ?_);refine J (if_neg R4) (Rh (Xa hT sub_dict_frozenset ?_));refine bG ?_;cases Q0:Params.followText _ "set-display-star-reads-storage" with
 |true=>
  refine Rg fun kG=> ?_;obtain⟨bd,NC,yh⟩:=dictOf hd rd nd;refine kG ?_;refine Rh (wpAny_pyIter_dict sR NC ?_);have Bg:s.heap.objs.size≠a:=fun q=>by cases(af ..)▸(q ..).symm▸ho
  generalize Bh:s.heap.push {cls:= .type "dict_keyiterator",data:= .fields #[.ref d, .int 0 0, .int bd.length 0, .int m 0]}=h1;have k1:∀b o,s.heap.get? b=some o→h1.get? b=some o:=fun b o e=>by subst Bh;exact Rp _ e
  have hit:h1.IsKeyIter s.heap.objs.size d 0 bd.length m:=by subst Bh;exact⟨_,Rx _ rfl,rfl,rfl⟩
  have JW:h1.DictAt (strKind prog w) d bd m:=by obtain⟨o,LJ,e1,r⟩:=NC;exact⟨o,LJ,k1 _ _ e1,r⟩
  clear Bh;refine Rh (ZD ?_);cases l with
  |nil=>
   refine uH hh hit JW (Sw (yh.length▸Ri _)) fun h' hx=>(Rj (h _ es ep t ps ⟨fun b o hb hD e=>hx b o (fun q=>hD (by subst q;exact af _)) (k1 b o e),rfl,rfl,Ri _⟩ (hx a _ (SK Bg) (k1 _ _ ho)) he (by simp) hf rfl hp))
  |cons q l=>
   have sS:l=[]:=by cases l with|nil=>rfl|cons _ _=>simp at hl
   subst sS;refine Rg fun kG=> ?_;obtain⟨v,r,rfl,rv,rr⟩:=yh;refine kG ?_;cases rr;have hk:=hn (q.1,q.2) Rn;refine yg hit JW rfl fun tk h2 fV yi=>(EH (s:={s with heap:=h2,toks:=s.toks+1}) ((yi.2 a (SK Bg)).trans (k1 _ _ ho)) he hf hk (F2 (elt jb dc)) fun h3 es' C5 t' qf vS Hq Eo Hr Hs Ht yj _=> ?_);have xT:h3.IsKeyIter s.heap.objs.size d 1 1 m:=by obtain⟨o,e1,e2⟩:=fV;exact⟨o,(vS.2 _ Bg).trans e1,e2⟩
   have Pd:h3.DictAt (strKind prog w) d [(q.1,v)] m:=by obtain⟨o,e3,e1,e2⟩:=JW;exact⟨o,e3,(vS.2 d (SK J1)).trans ((yi.2 d (SK (fun q=>by cases(af ..)▸(q ..).symm▸hd))).trans e1),e2⟩
   refine uH hh xT Pd rfl fun h' hx=> ?_;refine Rj (h _ es' C5 t' qf ⟨fun b o hb hD e=>hx b o (fun q=>hD (by subst q;exact af _)) ((vS.2 b hb).trans ((yi.2 b fun q=>hD (by subst q;exact af _)).trans (k1 b o e))),rfl,rfl,TP _⟩
    (hx a _ (SK Bg) Hq) Eo (by simpa using(Hr.map (·.1))) Hs Ht yj)
 |false=>
  refine bT hT (J (if_pos dc) ?_);refine bR (J sR ?_);refine Rh (wpAny_dictEpoch hd rfl (Rh (wpAny_dictEntries hd rfl ?_)));refine Rh (bZ ho rfl hf ?_);refine J (oI hr ((RI▸yf rd)▸hl)) ?_;refine Rj ?_;cases l with
  |nil=>
   cases rd;exact J Be ((bP (Rj (h s es ep t ps ⟨fun b o _ _ e=>e,rfl,rfl,Ri _⟩ ho he (by simp) hf rfl hp))))
  |cons q l=>
   have sS:l=[]:=by cases l with|nil=>rfl|cons _ _=>simp at hl
   subst sS;obtain⟨tk,v,r,rfl,rv,rr⟩:=rd;cases rr;have hk:=hn (q.1,q.2) Rn;refine J Bf (Rh (Rh (Rh (wpAny_dictEntries hd rfl ?_))));refine Rh (wpAny_holding (Rh (EH ho he hf hk (F2 (elt jb dc)) fun h3 es' C5 t' qf vS Hq Eo Hr Hs Ht yj _=> ?_)));refine Rj (Rh (wpAny_dictEpoch ((vS.2 d (SK J1)).trans hd) rfl ?_));rw[bne_self_eq_false];refine Rj (Rj (Rj ?_));exact h _ es' C5 t' qf ⟨fun b o hb _ e=>(vS.2 b hb).trans e,rfl,rfl,Ri _⟩ Hq Eo (by simpa using(Hr.map (·.1))) Hs Ht yj
end
section
variable{n:Nat}{F:Fx}{ρ an cV hU:Loc}{H H1 H2 H3 H4 H5:AH}{g:Fl}
theorem ET.Bi{pos iJ}{x}{l}{c}{oc}{vs}(h1:ET n F e1 ρ H (.str x) H)(h2:ET n F e2 ρ H (.bx l) H)(hl:l.length≤1)(hx:∀p∈l,p.1≠x)
  (hz:∀y∈x::l.map (·.1),y.length≤Rs) (fQ:isStar e1=false) (hc:F.code= .ref c) (EJ:br c=some oc) (LK:oc.data= .fields vs):ET n F (.Set [e1, .Starred e2 iJ] 0 pos) ρ H (.dst (x::l.map (·.1))) H:=by
 refine .mk fun A s W env R S E f Q q=>(J (arm_eval_Set ..) ?_);have he:starEach [e1, .Starred e2 iJ] env=[(false,eval e1 env),(true,eval e2 env)]:=by rw[cK fQ];rfl
 refine J he (bA (Rh ?_));unfold inMainModule;refine J E.code (J hc ?_);refine J (if_neg (R4)) ?_;refine bV (S.ground _ _ EJ) LK ?_;have mid:∀(b:Bool) Q',(∀b,Q' b s)→wpAny (model prog w) A (match vs.getD 18 .none with
    |Value.str file tok=>do
     let vT ←ask
     pure (!vT.program.modules.any fun x=>match x with|(_,_,m)=>m.file==file)
    |x=>pure false) Q' aY s:=fun b Q' hq=>by
  cases vs.getD 18 .none<;>first|exact Rj (hq _)|exact bG (Rj (hq _))
 refine mid true _ fun b=> ?_;show wpAny (model prog w) A (setDisplay .oneByOne b [(false,do let v ←eval e1 env;standAt pos;pure v),(true,do let v ←eval e2 env;standAt pos;pure v)]) Q aY s;unfold setDisplay;refine J (if_neg dc) (Rh ?_);refine Rh (Rh (wpAny_askSetting (Rj ?_)));refine Rh (wpAny_alloc (Rj ?_));show wpAny (model prog w) A (holding [UR s.heap.objs.size] _>>=_) Q aY {s with heap:=s.heap.push (tq #[] 0 (.fresh 0 0 (!w.params.followText "set-order")))};have fr:=S.fresh (af s.heap);generalize ha:s.heap.objs.size=a at fr⊢;have hn:=ha▸af _;have S1:=S.cn (tq #[] 0 (.fresh 0 0 (!w.params.followText "set-order")));have G1:=Gr.cn (X:=ct) W s (tq #[] 0 (.fresh 0 0 (!w.params.followText "set-order")));have x8:(s.heap.push (tq #[] 0 (.fresh 0 0 (!w.params.followText "set-order")))).get? a=some (tq #[] 0 (.fresh 0 0 (!w.params.followText "set-order"))):=ha▸Rx _ rfl;have x8:({s with heap:=s.heap.push (tq #[] 0 (.fresh 0 0 (!w.params.followText "set-order")))}:RT).heap.get? a=some (tq #[] 0 (.fresh 0 0 (!w.params.followText "set-order"))):=x8;generalize ({s with heap:=s.heap.push (tq #[] 0 (.fresh 0 0 (!w.params.followText "set-order")))}:RT)=s1 at S1 G1 x8⊢;have nl:env.locals≠a:=fun e=>by obtain⟨m,hm,_⟩:=f.m;exact ch hm (e▸hn)
 refine Rh (wpAny_holding ?_);refine J (show(if [(false,(do let v ←eval e1 env;standAt pos;pure v:Y3 Value)),(true,(do let v ←eval e2 env;standAt pos;pure v:Y3 Value))].length>30 then 0 else([(false,(do let v ←eval e1 env;standAt pos;pure v:Y3 Value)),(true,(do let v ←eval e2 env;standAt pos;pure v:Y3 Value))].findIdx? (·.1)).getD [(false,(do let v ←eval e1 env;standAt pos;pure v:Y3 Value)),(true,(do let v ←eval e2 env;standAt pos;pure v:Y3 Value))].length)=1 from rfl) (Rh ?_);refine wpAny_evalAll_cons (Rh (h1.run A s1 W env R S1 E (f.step G1) _ fun v s2 W2 G2 S2 r2=>bA (Rj (wpAny_evalAll_nil ?_))));obtain⟨tk,rfl,_⟩:=r2;have ND:=am G2 (x8▸nofun) fr id;have NE:=G1.trans G2;refine Rh (wpAny_holding ?_);refine Rh (J (Vl ..) ?_);refine Rh (Rh ?_);refine wpAny_holding (Rh ((strKind prog w).pyHash (UF prog w x tk) ?_));refine EH (ps:=[]) (G2.heap _ _ x8 fr.1 id) rfl rfl (by simp) dc fun h3 LL Pe t3 LA vS Hq Eo Hr Hs Ht yj LM=> ?_;obtain⟨S3,G3⟩:=S2.but (s':={s2 with heap:=h3,toks:=s2.toks+1}) (fun b o hb e=>(vS.2 b hb).trans e) (fun b y=>by cases y;exact ND) rfl rfl (TP _);have Bj:=NE.base G3 fun y e h=>by cases e;exact absurd hn h
 have NF:=ND;have Hu:=(f.step NE).di G3 nl (fun m c e q=>(f.dD m c e).2.2.2 (q▸hn));have EL:({s2 with heap:=h3,toks:=s2.toks+1}:RT).heap.get? a=some (tq LL Pe t3):=Hq;generalize ({s2 with heap:=h3,toks:=s2.toks+1}:RT)=s3 at S3 G3 Bj Hu EL⊢;refine Rj ?_;dsimp only;refine J abj (Rj ?_);refine J (if_neg dc) (Rj ?_);refine J (Vl ..) (Rh (Rh (Rh (Rh (h2.run A s3 W2 env R S3 E Hu _ fun v s4 W4 G4 S4 r4=>bA (Rj ?_))))));refine J (if_pos rfl) ?_;obtain⟨d,LI,m,rfl,hI,rd,nd,Q3,sR⟩:=r4;have J2:=am G4 (EL▸nofun) NF id;have J1:a≠d:=fun e=>by subst e;cases J2.2.symm.trans hI
 have jb:(LA.map (·.1)).Perm [x]:=by have:=Hr.map (·.1);exact this
 refine Rh (wpAny_holding (ir R.handled (G4.heap _ _ EL NF.1 id) Eo Hs yj (LM _ rfl rfl) (by have:=jb.length_eq;simp at this;exact ap (bD this) dc) (S4.cr _ _ hI) sR rd nd hl (fun p hp hm=>hx p hp (by simpa using(jb.mem_iff.mp hm))) J1 fun s5 Pf Pg t5 Ph Gw Hk Pj Pk Pl Pm LN=> ?_));refine Rj ?_;dsimp only;refine J abj (Rj (Rj (Rj ?_)));obtain⟨S5,G5⟩:=S4.but (Y:=fun b=>b=a∨s4.heap.get? b=RB) (fun b o hb e=>Gw.keep b o (fun q=>hb (.inl q)) (fun q=>hb (.inr q)) e) (fun b y=>by
  rcases y with rfl|y
  ·exact J2
  ·exact S4.fresh y) Gw.gens Gw.os Gw.toks
 have Pn:=(Bj.trans G4).base G5 fun y e h=>by
  rcases e with rfl|e
  ·exact absurd hn h
  ·exact absurd e ((Bj.trans G4).there y h id)
 refine q _ s5 _ (Pn.base (S5.adopt J2 Hk).2.1 fun y e h=>by cases e;exact absurd hn h) (S5.adopt J2 Hk).1 ⟨a,Pf,Pg,t5,rfl,Wd.al ..,⟨⟨Ph,Pj, ?_⟩,Pl,Pm.trans Ht,LN⟩,hz⟩;exact Pk.trans (jb.append (X6 _))
end
theorem bz:Slot "set_iterator" "__next__" "set_iterator.__next__":=
 .of (owner:="set_iterator") (n:="__next__") rfl rfl rfl rfl
  dc rfl
theorem eQ:Xm aaN "set_iterator.__next__"=some Builtin.«set_iterator.__next__»:=Y0 rfl
theorem vU:Manifest.owners.lookup (String.ofList ['r','o','t','a','r','e','t','i','_','t','e','s'].reverse)=some Manifest.sig_set_iterator:=rfl
theorem fo a:argsOk "set_iterator.__next__" ⟨[a],[]⟩:=by
 delta argsOk;rw[signature?_of (n:=['_','_','t','x','e','n','_','_']) rfl vU];kernel_rfl
theorem kD:Xm aaN "set.__iter__"=some Builtin.«frozenset.__iter__»:=entryFor_alias (id':="frozenset.__iter__") rfl rfl (by decide+kernel) rfl
noncomputable def jc(f:Value)(i:Nat)(a:Ud)(n ep:Nat):Obj:={cls:= .type "set_iterator",data:= .fields #[f,TF i, .ref a,TF n,TF ep]}
section
variable{A:TL}{s:RT}
theorem qj{src}{n}{Q}(hn:0<n)(h:∀i d,i<n→Q i {s with drawn:=d}):wpAny (model prog w) A (choose src n) Q E s:=by
 intro Γ p F4;exact⟨Tq hn,h _ _ (Nat.mod_lt _ hn)⟩
noncomputable abbrev jd(places:List Nat):List Value:=places.map fun(q:Nat)=>TF q
theorem yk{f}{i n ep}(hit:s.heap.get? it=some (jc f i a n ep)) v:(s.heap.update it (WB fun x=>x.setIfInBounds 1 v)).get? it=some {cls:= .type "set_iterator",data:= .fields #[f,v, .ref a,TF n,TF ep]}:=
 Sn _ hit rfl
theorem lR{it a T}{i n ep k p}{es}{t}{places}{h0}{x}{Q}(hit:s.heap.get? it=some (jc (.ref T) i a n ep))(ha:s.heap.get? a=some (tq es ep t))(hf:t.fits es.size=true)(hn:n=es.size)
  (hT:s.heap.get? T=some (sq "tuple" (jd places) k)) (hp:places[i]?=some p) (hx:es[p]?=some (h0,x))
  (hQ:∀h',h'.get? it=some (jc (.ref T) (i+1) a n ep)→SU it s.heap h'→Q (some x) {s with heap:=h'}):wpAny (model prog w) A (UP (.ref it)) Q aY s:=by
 have uv:s.TypeIs (.ref it) "set_iterator":=⟨_,hit,rfl⟩;refine Rh (T3 (Sa uv bz
  (wpAny_call_entry bz uv eQ ?_ (fo _))))
 refine bE rfl (bV hit rfl ?_);refine Rh (Wr ha rfl hf ?_);rw[if_neg (by rw[hn];simp)];refine bS hT rfl ?_;dsimp only;refine J (show(jd places).toArray[(i:Int).toNat]?=some (TF p) by simp[hp]) ?_;refine Rh ?_;refine bZ ha rfl hf ?_;dsimp only;refine J (if_neg (by simp)) (bP ?_);refine J (show es[(p:Int).toNat]?=some (h0,x) by exact hx) (Rj (bU hit rfl (by simp) (Rj ⟨x,rfl,Rj (hQ _ ?_ (R5 ..))⟩)));exact yk hit _
theorem Bk{f u v}{i n ep}(hit:s.heap.get? it=some (jc f i a n ep)):((s.heap.update it (WB fun x=>x.setIfInBounds 0 u)).update it (WB fun x=>x.setIfInBounds 1 v)).get? it=some {cls:= .type "set_iterator",data:= .fields #[u,v, .ref a,TF n,TF ep]}:=by
 exact Sn _ (Sn _ hit rfl) rfl
theorem no{it a T}{i n ep k}{es}{t}{places}{Q}(hh:A.handled=none)(hit:s.heap.get? it=some (jc (.ref T) i a n ep))(ha:s.heap.get? a=some (tq es ep t))(hf:t.fits es.size=true)(hn:n=es.size)
  (hT:s.heap.get? T=some (sq "tuple" (jd places) k)) (hp:places[i]?=none)
  (hQ:∀h',Vv it s.heap h'→Q none {s with heap:=h'}):wpAny (model prog w) A (UP (.ref it)) Q aY s:=by
 have uv:s.TypeIs (.ref it) "set_iterator":=⟨_,hit,rfl⟩;refine Rh (T3 (Sa uv bz
  (wpAny_call_entry bz uv eQ ?_ (fo _))))
 refine bE rfl (bV hit rfl ?_);refine Rh (Wr ha rfl hf ?_);rw[if_neg (by rw[hn];simp)];refine bS hT rfl ?_;dsimp only;refine J (show(jd places).toArray[(i:Int).toNat]?=none by simpa using hp) ?_;refine bU hit rfl (SO _) (bU (Sn _ hit rfl) rfl (by simp) ?_);refine Rh ?_;simp only[newTuple];refine bN ?_ (by size_fits);refine Rh (SX (a:=TJ) rfl ?_);refine Sz ?_ (by size_fits);refine bH ?_
 first|rw[show A.in1.handled=none from hh]|rw[hh]
 refine bP (XV ?_);refine bI ⟨_,Rx _ rfl,rfl⟩ Vi (Rj (hQ _ fun b o hb e=> ?_));exact Rp _ (Rp _ ((Sh _ _ (SK hb)).trans ((Sh _ _ (SK hb)).trans e)))
theorem kQ{i n ep slot:Nat}{es}{t}{r}{Q}(hh:A.handled=none)(hit:s.heap.get? it=some (jc (TF slot) i a n ep))(ha:s.heap.get? a=some (tq es ep t))(hf:t.fits es.size=true)(hn:n=es.size)
  (hr:∀(Q':Option (Value×Nat)→RT→Prop) E',Q' r s→wpAny (model prog w) A.in1 (setNext a slot i ep) Q' E' s)
  (hQ:match r with
   |some (x,next)=>∀h',h'.get? it=some (jc (TF next) (i+1) a n ep)→SU it s.heap h'→Q (some x) {s with heap:=h'}
   |none=>∀h',Vv it s.heap h'→Q none {s with heap:=h'}):wpAny (model prog w) A (UP (.ref it)) Q aY s:=by
 have uv:s.TypeIs (.ref it) "set_iterator":=⟨_,hit,rfl⟩;refine Rh (T3 (Sa uv bz
  (wpAny_call_entry bz uv eQ ?_ (fo _))))
 refine bE rfl (bV hit rfl ?_);dsimp only[TF];refine Rh (Wr ha rfl hf ?_);rw[if_neg (by rw[hn];simp)];refine Rh (J (UX ..) ?_);refine hr _ _ ?_;cases r with
 |some p=>
  refine bU hit rfl (SO _) (bU (Sn _ hit rfl) rfl (by simp) ?_);exact Rj ⟨p.1,rfl,Rj (hQ _ (Bk hit) (SU.trans (R5 ..) (R5 ..)))⟩
 |none=>
  refine bU hit rfl (by simp) (Rh ?_);refine bN ?_ (by size_fits);refine Rh (SX (a:=TJ) rfl ?_);refine Sz ?_ (by size_fits);refine bH ?_
  first|rw[show A.in1.handled=none from hh]|rw[hh]
  refine bP (XV ?_);refine bI ⟨_,Rx _ rfl,rfl⟩ Vi (Rj (hQ _ fun b o hb e=> ?_));exact Rp _ (Rp _ ((Sh _ _ (SK hb)).trans e))
end
theorem iL{α:Type}:∀{l:List α}{i} h,(l[i]::l.eraseIdx i).Perm l
 |[],_,h=>by cases h
 |x::l,0,_=> .refl _
 |x::l,i+1,h=>by
  exact(X5 ..).trans ((iL (Nat.le_of_succ_le_succ h)).cons x)
theorem vV{next:Nat→Nat}{fuel k left}{out:Array α}:Wu next (fuel+1) k left out=Option.rec (motive:=fun _=>Array α) out (fun x=>Wu next fuel (k+1) (left.eraseIdx (next k%left.length)) (out.push x)) left[next k%left.length]?:=kr
theorem vW{next:Nat→Nat}{fuel k left}{out:Array α}{x}(h:left[next k%left.length]?=some x):Wu next (fuel+1) k left out=Wu next fuel (k+1) (left.eraseIdx (next k%left.length)) (out.push x):=by
 rw[vV,h]
theorem qk next:∀(fuel k:Nat) left(out:Array α),left.length≤fuel→(Wu next fuel k left out).toList.Perm (out.toList++left):=by
 intro rv
 induction rv with
 |zero=>
  intro k left out h;have:=RX.mp (Nat.le_zero.mp h);subst this;exact(RF _).symm▸ .refl _
 |succ fuel ih=>
  intro k left out h;cases left with
  |nil=>exact(RF _).symm▸ .refl _
  |cons a l=>
   have hi:next k%(a::l).length<(a::l).length:=Nat.mod_lt _ (SO _)
   refine J (vW (RK hi)) ((ih (k+1) _ _ ?_).trans ?_)
   ·refine J ZN (J (if_pos hi) ?_);simp at h⊢;exact h
   ·exact J (aak ..) (J (RP ..) (((X6 _).append (iL hi))))
theorem lS next(xs:Array α):(Y9 next xs).toList.Perm xs.toList:=by
 simpa [Y9] using(qk next xs.size 0 xs.toList #[] (Ri _))
section
variable{A:TL}{s:RT}
theorem lT:∀n xs s{Q:List α→RT→Prop},xs.length=n→(∀ys d,ys.Perm xs→Q ys {s with drawn:=d})→wpAny (model prog w) A (drawOrder n xs) Q E s:=by
 intro n
 induction n with
 |zero=>
  intro xs s Q hl h;cases RX.mp hl;exact Rj (h [] s.drawn (.refl _))
 |succ n ih=>
  intro xs s Q hl h;cases xs with
  |nil=>cases hl
  |cons x xs=>
   refine Rh (qj (SO _) fun i d hi=> ?_);refine J (RK hi) (Rh (ih ((x::xs).eraseIdx i) _ (by refine J ZN (J (if_pos hi) ?_);exact V6 hl) fun ys d' hp=> ?_));exact Rj (h _ d' ((hp.cons _).trans (iL hi)))
noncomputable def gJ(A:TL)(it D:Ud):List Value→VN→Prop
 |[],h0=>∀s,(∀b o,b≠D→h0.get? b=some o→s.heap.get? b=some o)→∀Q,(∀h',Vv it s.heap h'→Q none {s with heap:=h'})→wpAny (model prog w) A (UP (.ref it)) Q aY s
 |y::ys,h0=>∀s,(∀b o,b≠D→h0.get? b=some o→s.heap.get? b=some o)→∀Q,(∀h',SU it s.heap h'→gJ A it D ys h'→Q (some y) {s with heap:=h'})→
   wpAny (model prog w) A (UP (.ref it)) Q aY s
theorem gJ.keep(f:gJ A it D ys h)(k:∀b o,b≠D→h.get? b=some o→h'.get? b=some o):gJ A it D ys h':=by
 cases ys with
 |nil=>exact fun s k'=>f s fun b o hb e=>k' b o hb (k b o hb e)
 |cons y ys=>exact fun s k'=>f s fun b o hb e=>k' b o hb (k b o hb e)
theorem sT{it a T D}{n ep k}{es}{t}{places}(hh:A.handled=none)(hf:t.fits es.size=true)(hn:n=es.size)(h1:it≠D)(h2:a≠D)(h3:T≠D)(h4:a≠it)(h5:T≠it)(qi:∀p∈places,p<es.size):
  ∀(m i:Nat) h,m=places.length-i→i≤places.length→h.get? it=some (jc (.ref T) i a n ep)→h.get? a=some (tq es ep t)→h.get? T=some (sq "tuple" (jd places) k)→
   gJ A it D ((places.drop i).map fun p=>(es[p]?.map (·.2)).getD .none) h:=by
 intro rv
 induction rv with
 |zero=>
  intro i h hm hi e1 e2 e3;have:=si hi (GG hm);subst this;exact J VW fun s k' Q q=>(no hh (k' _ _ h1 e1) (k' _ _ h2 e2) hf hn (k' _ _ h3 e3) (Sw (Ri _)) q)
 |succ m ih=>
  intro i h hm hi e1 e2 e3;have cg:=GH hm;refine J (SM cg) (J RD ?_);intro s k' Q q;have hp:=qi _ (UA cg);have hx:es[places[i]]?=some (es[places[i]].1,es[places[i]].2):=by rw[Sj hp]
  refine lR (k' _ _ h1 e1) (k' _ _ h2 e2) hf hn (k' _ _ h3 e3) (RK cg) hx fun h' A9 hs=> ?_;exact(show(es[places[i]]?.map (·.2)).getD .none=es[places[i]].2 by exact J hx rfl)▸(q h' hs (ih (i+1) h' (GI hm) cg A9 ((hs.2 a h4).trans (k' _ _ h2 e2)) ((hs.2 T h5).trans (k' _ _ h3 e3))))
theorem cS{Q}(h:Q (w.params.followText "set-order") s):wpAny (model prog w) A setsByText Q E s:=by
 exact bG (Rj h)
theorem Bl{it a D}{n ep}{es po:Array (Int×Value)}{t}(hh:A.handled=none)(hf:t.fits es.size=true)(hn:n=es.size)(h1:it≠D)(h2:a≠D)(h4:a≠it)
  (st:∀i s Q E,s.heap.get? a=some (tq es ep t)→Q (po[i]?.map fun e=>(e.2,0)) s→wpAny (model prog w) A.in1 (setNext a 0 i ep) Q E s):
  ∀(m i:Nat) h,m=po.toList.length-i→i≤po.toList.length→h.get? it=some (jc (TF (0:Nat)) i a n ep)→h.get? a=some (tq es ep t)→gJ A it D ((po.toList.drop i).map (·.2)) h:=by
 intro m
 induction m with
 |zero=>
  intro i h hm hi e1 e2;cases si hi (GG hm);refine J VW fun s k' Q q=>(kQ (r:=none) hh (k' _ _ h1 e1) (k' _ _ h2 e2) hf hn (fun Q' E' hq=>st _ s Q' E' (k' _ _ h2 e2) ?_) q);exact J (UE (UK po.length_toList.symm)) ((hq))
 |succ m ih=>
  intro i h hm hi e1 e2;have cg:=GH hm;refine J (SM cg) (J RD ?_);intro s k' Q q;refine kQ (r:=some (po.toList[i].2,0)) hh (k' _ _ h1 e1) (k' _ _ h2 e2) hf hn (fun Q' E' hq=>st i s Q' E' (k' _ _ h2 e2) ?_) fun h' A9 hs=>q h' hs (ih (i+1) h' (GI hm) cg A9 ((hs.2 a h4).trans (k' _ _ h2 e2)));exact aQ UN (J (RK cg) ((hq)))
theorem vX{it a D}{n ep}{es}{t}(hh:A.handled=none)(hf:t.fits es.size=true)(hn:n=es.size)(h1:it≠D)(h2:a≠D)(h4:a≠it)(hb:w.params.followText "set-order"=true):
  ∀(m i:Nat) h,m=(Y9 (w.params.setOrder a ep) es).toList.length-i→i≤(Y9 (w.params.setOrder a ep) es).toList.length→h.get? it=some (jc (TF (0:Nat)) i a n ep)→h.get? a=some (tq es ep t)→
   gJ A it D (((Y9 (w.params.setOrder a ep) es).toList.drop i).map (·.2)) h:=
 Bl hh hf hn h1 h2 h4 fun i s Q E ha hq=>by
  refine bZ ha rfl hf (Rh (cS ?_));refine J hb (J (if_pos rfl) (J (if_neg (by simp)) ?_));refine Rh (bZ ha rfl hf (Rh (cS ?_)));exact J hb (J (if_pos rfl) ((bG (Rj (Rj hq)))))
end
section
variable{A:TL}{s:RT}
theorem qm{slot given ep r:Nat}{j}{es}{t}{E}{Q}(ha:s.heap.get? a=some (tq es ep t))(hf:t.fits es.size=true)(h1:es.size=1)(hb:w.params.followText "set-order"=false)(hl:t.led=true)(hp:t.place=#[j])
  (h:Q (if j<slot then none else(es[0]?.map fun e=>(e.2,j+1))) s):wpAny (model prog w) A (setNext a slot given ep) Q E s:=by
 refine bZ ha rfl hf (Rh (cS ?_));refine J hb (J (if_neg R4) ?_);refine VE (fun nO=>absurd nO (show¬((!t.plain&&decide (es.size>1))=true) from by refine J h1 ?_;simp)) (fun _=> ?_);refine bE (show(if(!t.led&& !es.isEmpty)=true then WO "set:maker-not-led" else pure ())=pure () from by refine J hl ?_;rfl) ?_;have LO:Xo.below #[j] slot=if j<slot then 1 else 0:=by
  show YJ #[j] slot 1 0 1=_
  delta YJ
  by_cases hj:j<slot
  ·rfl
  ·rfl
 refine Rj (J hp (J LO ?_));by_cases hj:j<slot
 ·rw[if_pos hj] at h⊢;have:es[1]?=none:=by rw[Array.getElem?_eq_none_iff];exact bD h1
  exact this▸h
 ·rw[if_neg hj] at h⊢;rw[(Sj (lq h1))] at h⊢;exact h
theorem ym{it a D}{n ep j}{es}{t}(hh:A.handled=none)(hf:t.fits es.size=true)(hn:n=es.size)(h1:it≠D)(h2:a≠D)(h4:a≠it)(hb:w.params.followText "set-order"=false)(hl:t.led=true)(Bh:es.size=1)(hp:t.place=#[j])
  {h} (e1:h.get? it=some (jc (TF (0:Nat)) 0 a n ep)) (e2:h.get? a=some (tq es ep t)):gJ A it D (es.toList.map (·.2)) h:=by
 obtain⟨x,hx⟩:=Array.size_eq_one_iff.mp Bh;subst hx;intro s k' Q q;refine kQ (r:=some (x.2,j+1)) hh (k' _ _ h1 e1) (k' _ _ h2 e2) hf hn (fun Q' E' hq=>qm (r:=0) (k' _ _ h2 e2) hf rfl hb hl hp ?_) fun h' A9 hs=>q h' hs ?_
 ·exact J (if_neg (JJ (RW _))) ((hq))
 ·intro s2 k2 Q2 q2;refine kQ (r:=none) hh (k2 _ _ h1 A9) (k2 _ _ h2 ((hs.2 a h4).trans (k' _ _ h2 e2))) hf hn (fun Q' E' hq=>qm (r:=0) (k2 _ _ h2 ((hs.2 a h4).trans (k' _ _ h2 e2))) hf rfl hb hl hp ?_) q2;exact J (if_pos (GJ (Ri _))) ((hq))
theorem map_range{es:Array (Int×Value)}:(U3 es.size).map (fun p=>(es[p]?.map (·.2)).getD .none)=es.toList.map (·.2):=by
 apply List.ext_getElem
 ·simp
 ·intro i h1 h2;simp[(by simpa using h1)]
theorem sU{ep}{es}{t}{l}{Q}(hh:A.handled=none)(ha:s.heap.get? a=some (tq es ep t))(X:D7 es t l)(sS:l≠[])(d5:l.length≤2)(hD:s.heap.get? D≠none)(Gc:a≠D)
  (h:∀it h' d ys,(∀b o,s.heap.get? b=some o→h'.get? b=some o)→s.heap.get? it=none→it≠D→ys.Perm (es.toList.map (·.2))→gJ A it D ys h'→Q (.ref it) {s with heap:=h',drawn:=d}):
  wpAny (model prog w) A (Wn (.ref a)) Q aY s:=by
 refine Rg fun kG=> ?_;obtain⟨⟨ps,jb,sV⟩,hf,yd,qi⟩:=X;refine kG ?_;have hsz:es.size=l.length:=by rw[←Ut,jb,Rk,←sV.length_eq,Rk]
 have hT:s.TypeIs (.ref a) "set":=⟨_,ha,rfl⟩;refine wpAny_pyIter_slot hT Y6 (wpAny_call_entry Y6 hT kD ?_ (PySem.F.args_set_iter_1 _));refine Rh (SX rfl ?_);refine Rh (Rh (Wr ha rfl hf (Rj ?_)));refine Rh (Rh (wpAny_setState_of ha rfl hf ?_));refine Rh (cS (Rj ?_));have EM:∀it,s.heap.get? it=none→a≠it:=fun it e q=>by subst q;cases ha.symm.trans e
 have yn:∀it,s.heap.get? it=none→it≠D:=fun it e q=>by cases q;exact hD e
 have fin:∀s1 f d h1,s1={s with heap:=h1,drawn:=d}→(∀b o,s.heap.get? b=some o→h1.get? b=some o)→s.heap.get? h1.objs.size=none→
   (∃ys,ys.Perm (es.toList.map (·.2))∧gJ A h1.objs.size D ys (h1.push (jc f 0 a es.size ep)))→
   wpAny (model prog w) A.in1 (do
    let x ←setEpoch a
    let r ←newFields "set_iterator" [f,TF 0, .ref a,TF es.size,TF x]
    ret r) (fun fin s'=>∃v,fin= .done (.ret v)∧∃T r,s'.TypeIs v T∧VO (.type T) (VK "__next__")=pure (some r)∧Q v s') aY s1:=by
  rintro s1 f d h1 rfl k hn ⟨ys,hy,LP⟩;refine Rh (wpAny_setEpoch_of (k _ _ ha) rfl hf ?_);refine bN (Rj ⟨_,rfl,"set_iterator",_,⟨_,Rx _ rfl,rfl⟩,bz.lookup, ?_⟩) (by size_fits);exact h _ _ d ys (fun b o e=>Rp _ (k b o e)) hn (yn _ hn) hy LP
 cases hb:w.params.followText "set-order" with
 |true=>
  refine bP ?_;have hn:=af s.heap;refine fin s _ s.drawn s.heap rfl (fun _ _ e=>e) hn ⟨_,(lS (w.params.setOrder a ep) es).map _, ?_⟩;exact(vX hh hf rfl (yn _ hn) Gc (EM _ hn) hb _ 0 (s.heap.push (jc (TF 0) 0 a es.size ep)) rfl (RW _) (Rx _ rfl) (Rp _ ha))
 |false=>
  by_cases h1:es.size=1
  ·refine VE (fun nO=>absurd nO (show¬((!t.plain&&decide (es.size>1))=true) from by refine J h1 ?_;simp)) (fun _=>bP ?_);have hn:=af s.heap;have hp:∃j,t.place=#[j]:=by
    rw[Xo.fits,RA,beq_iff_eq] at hf
    match hh:t.place,(show t.place.size=1 by exact J hf.1 (J h1 rfl)) with
    |⟨[j]⟩,_=>exact⟨j,rfl⟩
   obtain⟨j,hj⟩:=hp;exact fin s _ s.drawn s.heap rfl (fun _ _ e=>e) hn ⟨_, .refl _,ym hh hf rfl (yn _ hn) Gc (EM _ hn) hb (by refine J yd (J hb ?_);rfl) h1 hj (Rx _ rfl) (Rp _ ha)⟩
  ·have h2:es.size>1:=by
    have:l.length≠0:=fun q=>sS (RX.mp q);lia
   refine VE (fun _=> ?_) (fun nO=>absurd (show((!t.plain&&decide (es.size>1))=true) from by refine J qi ?_;simpa using h2) nO);refine Rh (lT _ _ _ (by simp) fun places d hp=> ?_);refine bN ?_ (by show(Uu (fun(i:Nat)=>TF i) places).toArray.size≤Rs;rw[RI,Rk,hp.length_eq,aas,R2];exact ap (bD hsz) (ap d5 dc));have k1:∀b o,s.heap.get? b=some o→(s.heap.push (sq "tuple" (jd places) 0)).get? b=some o:=fun b o e=>Rp _ e;have hn:s.heap.get? (s.heap.push (sq "tuple" (jd places) 0)).objs.size=none:=by
    refine J (Se ..) ?_;cases e:s.heap.get? (s.heap.objs.size+1) with
    |none=>rfl
    |some o=>exact absurd (RV e) (T8.mpr (TP _))
   refine fin _ (.ref s.heap.objs.size) d (s.heap.push (sq "tuple" (jd places) 0)) rfl k1 hn ⟨places.map fun p=>(es[p]?.map (·.2)).getD .none, ?_, ?_⟩
   ·exact map_range▸hp.map _
   ·have:=sT hh hf rfl (yn _ hn) Gc (yn _ (af s.heap)) (EM _ hn) (J (Se ..) ((F1 (Ri _))))
     (fun p hm=>by simpa using((hp.mem_iff).mp hm)) _ 0 ((s.heap.push (sq "tuple" (jd places) 0)).push (jc (.ref s.heap.objs.size) 0 a es.size ep)) rfl (RW _) (Rx _ rfl)
     (Rp _ (k1 _ _ ha)) (Rp _ (Rx _ rfl))
    exact this
end
section
variable{A:TL}{s:RT}
theorem yo(hT:s.TypeIs (.ref r) "set")(h:Q false s):wpAny (model prog w) A (Xz (.ref r)) Q E s:=by
 refine bY hT PySem.F.slot_set_len.lookup ?_;generalize NG:"set.__len__"=Po
 wp_delta
 refine J (show splitId Po=some ("set","__len__") from by subst NG;decide+kernel) ?_;subst NG;refine bI (b:=true) hT rfl (VE (fun nO=>absurd nO dc) (fun _=> ?_));refine VE (fun _=> ?_) (fun nO=>absurd rfl nO);exact bT hT (Rj h)
theorem yp{R}(aV:it≠D):∀ys s acc c,gJ A.in1 it D ys s.heap→s.heap.get? D=some (sq "list" acc c)→acc.length+ys.length≤Rs→
  (∀h' c',(∀b o,b≠D→b≠it→s.heap.get? b=some o→h'.get? b=some o)→h'.get? D=some (sq "list" (acc++ys) c')→R (.ok (.ret res)) {s with heap:=h'})→
   Tt (model prog w) A (.builtin "list.extend.loop" ⟨[.ref D, .ref it,res],[]⟩) R s:=by
 intro rv
 induction rv with
 |nil=>
  intro s acc c f hD hz h;refine SW UZ (J (Ss SJ _) ?_);refine Rh (RM (f s (fun _ _ _ e=>e) _ fun h' hx=> ?_) (fun _ _ z=>z) fun _ _ e=>e.elim);refine Rj (h h' c (fun b o _ hb e=>hx b o hb e) ?_);exact J (RF ..) ((hx D _ (SK aV) hD))
 |cons y ys ih=>
  intro s acc c f hD hz h;refine SW UZ (J (Ss SJ _) ?_);refine Rh (RM (f s (fun _ _ _ e=>e) _ fun h' hs f'=> ?_) (fun _ _ z=>z) fun _ _ e=>e.elim);have sW:=(hs.2 D (SK aV)).trans hD;refine Rh (U1 sW rfl ?_ (lj hz) (by refine J (Yw ..) (J (RI ..) ?_);exact ba (lj hz) (Ri _)));obtain⟨c2,sH⟩:∃c2,(h'.update D (RZ (·.push y))).get? D=some (sq "list" (acc++[y]) c2):=by
   have:=Uw sW (·.push y);rw[(show acc.toArray.push y=(acc++[y]).toArray by simp)] at this;exact⟨_,this⟩
  have keep:∀b o,b≠D→h'.get? b=some o→(h'.update D (RZ (·.push y))).get? b=some o:=fun b o hb e=>(Sh _ _ (SK hb)).trans e;refine Rj ⟨Uj SJ _,ih {s with heap:=h'.update D (RZ (·.push y))} (acc++[y]) c2 (f'.keep keep) sH (by simp at hz⊢;exact io hz) fun h2 c3 k2 e2=> ?_⟩;refine h h2 c3 (fun b o hb C8 e=>k2 b o hb C8 (keep b o hb ((hs.2 b C8).trans e))) ?_;rw[RP] at e2;exact e2
theorem qp{es}{t}{l}{R}(hh:A.handled=none)(ha:s.heap.get? a=some (tq es ep t))(X:D7 es t l)(sS:l≠[])(d5:l.length≤2)
  (h:∀h' d ys,(∀b o,s.heap.get? b=some o→h'.get? b=some o)→ys.Perm (es.toList.map (·.2))→R ys {s with heap:=h',drawn:=d}):wpAny (model prog w) A (collect (.ref a)) R aY s:=by
 refine Rh (ZD (SW entry_proto_collect' ?_));refine J (Ss PySem.F.plain_proto_collect _) (bN ?_ (by size_fits));refine Rj ⟨Uj YN _,SW entry_list_iadd' ?_⟩;refine J (Ss YN _) ?_;have Gc:a≠s.heap.objs.size:=fun q=>by cases(af ..)▸(q ..)▸ha
 have ho:(s.heap.push (sq "list" [] 0)).get? s.heap.objs.size=some (sq "list" [] 0):=Rx _ rfl;have k1:∀b o,s.heap.get? b=some o→(s.heap.push (sq "list" [] 0)).get? b=some o:=fun b o e=>Rp _ e;refine bT (⟨_,k1 _ _ ha,rfl⟩) ?_;simp only[(show UU (.ref s.heap.objs.size) (.ref a)=false by simp[UU,SK Gc])];refine Rh (sU hh (k1 _ _ ha) X sS d5 (by refine J (ho) ?_;exact nofun) Gc fun it h' d ys k2 hn aV hp LP=> ?_);have sG:=k2 _ _ ho;refine Rh (wpAny_holding (yo ⟨_,k2 _ _ (k1 _ _ ha),rfl⟩ ?_));have hlen:ys.length≤2:=by
  refine J (hp.length_eq ..) (J (Rk ..) ?_);obtain⟨⟨ps,jb,sV⟩,_⟩:=X;refine J (jb ..) (J (Rk ..) ?_);have:=sV.length_eq;rw[Rk] at this;exact ap (bD this) d5
 have fin:∀h3 c,(∀b o,b≠s.heap.objs.size→h'.get? b=some o→h3.get? b=some o)→h3.get? s.heap.objs.size=some (sq "list" [] c)→
   Tt (model prog w) A (.builtin "list.extend.loop" ⟨[.ref s.heap.objs.size, .ref it, .ref s.heap.objs.size],[]⟩) (fun r s'=>match r with
    | .ok (.ret v)=>wpAny (model prog w) A (match v with
      | .ref a=>do
       match(←load a).data with
        | .seq xs _=>pure xs.toList
        |_=>WO "internal:collect"
      |_=>WO "internal:collect") R aY s'
    | .ok _=>False| .error e=>aY e s') {s with heap:=h3,drawn:=d}:=by
  intro h3 c k3 hc;refine yp aV ys {s with heap:=h3,drawn:=d} [] c (LP.keep k3) hc (by simp;exact eI hlen) fun h4 c' k4 e4=>(bL e4 (Rj (h h4 d ys (fun b o e=> ?_) hp)));have hb:b≠s.heap.objs.size:=fun q=>by replace e:=(af ..)▸(q ..)▸e;cases e
  have C8:b≠it:=fun q=>by rw[q] at e;have:=k1 _ _ e;have:=(hn)▸this;cases this
  exact k4 b o hb C8 (k3 b o hb (k2 b o (k1 b o e)))
 refine VE (fun _=> ?_) (fun _=>Rj ⟨Uj SJ _,fin h' 0 (fun _ _ _ e=>e) sG⟩);refine bR (Rh ?_);refine Rh (VD sG rfl ?_);have qr:=Sn (RZ (·.push TJ)) sG rfl;exact VD qr rfl (Rj ⟨Uj SJ _,fin _ _ (fun b o hb e=>(Sh _ _ (SK hb)).trans ((Sh _ _ (SK hb)).trans e)) (Sn (RZ (·.pop)) qr rfl)⟩)
end
noncomputable def AD(x y:RN):Bool:=decide (x.cps.toList<y.cps.toList)
noncomputable def ke:List RN→List RN→Bool
 |[],ys=> !ys.isEmpty
 |_::_,[]=>false
 |x::xs,y::ys=>if x=y then ke xs ys else AD x y
theorem lU:ke (x::xs) (y::ys)=if x=y then ke xs ys else AD x y:=rfl
section
variable{A:TL}{s:RT}
theorem Bm{xs ys:List (RN×Tok)}{m k}{R}(ha:s.heap.get? a=some (sq "list" (xs.map fun p=>R6 p.1 p.2) m))(hb:s.heap.get? b=some (sq "list" (ys.map fun p=>R6 p.1 p.2) k)):
  ∀(j i:Nat),xs.length-i=j→i≤xs.length→i≤ys.length→R (.ok (.ret (.bool (ke ((xs.drop i).map (·.1)) ((ys.drop i).map (·.1)))))) s→
   Tt (model prog w) A (.builtin "list.__eq__.loop" ⟨[.ref a, .ref b,TF i,TF 0],[]⟩) R s:=by
 intro j
 induction j with
 |zero=>
  intro i hj hi Pp h;refine SW Yy (J (Ss U8 _) ?_);have e:=WJ (Kx hj);replace h:=e▸h;refine Rh (TR ha rfl (Rh (TR hb rfl ?_)));have h1:(Uu (fun p:RN×Tok=>R6 p.1 p.2) xs).toArray[(i:Int).toNat]?=none:=by simp;exact Kx hj
  refine J h1 (Rh (TR ha rfl (Rh (TR hb rfl (Rj ?_)))));show R (.ok (.ret (.bool (decide ((Uu (fun p:RN×Tok=>R6 p.1 p.2) xs).toArray.size<(Uu (fun p:RN×Tok=>R6 p.1 p.2) ys).toArray.size))))) s;have e2:decide ((Uu (fun p:RN×Tok=>R6 p.1 p.2) xs).toArray.size<(Uu (fun p:RN×Tok=>R6 p.1 p.2) ys).toArray.size)=ke [] ((ys.drop i).map (·.1)):=by
   show _= !List.isEmpty _;cases hd:ys.drop i with
   |nil=>have:=List.drop_eq_nil_iff.mp hd;simp;exact ap this hi
   |cons p q=>have:=congrArg Tm hd;simp at this⊢;exact elt (Kx hj) (GJ (Nb this))
  exact e2▸h
 |succ j ih=>
  intro i hj hi Pp h;refine SW Yy (J (Ss U8 _) ?_);have cg:i<xs.length:=Nb hj;have h1:(Uu (fun p:RN×Tok=>R6 p.1 p.2) xs).toArray[(i:Int).toNat]?=some (.str xs[i].1 xs[i].2):=by simp[cg]
  rw[(SM cg)] at h;refine Rh (TR ha rfl (Rh (TR hb rfl ?_)));refine J h1 ?_;by_cases hy:i<ys.length
  ·have h2:(Uu (fun p:RN×Tok=>R6 p.1 p.2) ys).toArray[(i:Int).toNat]?=some (.str ys[i].1 ys[i].2):=by simp[hy]
   rw[(SM hy)] at h;refine J h2 (Rh (eqBool_str ?_));rw[RD,RD,lU] at h;by_cases he:xs[i].1=ys[i].1
   ·rw[if_pos he] at h;refine J (if_pos (beq_iff_eq.mpr he)) ?_;refine bP (Rj ⟨Uj U8 _, ?_⟩);exact(show(i+1)=((i+1:Nat):Int) from rfl)▸ih (i+1) (Nc hj) cg hy h
   ·rw[if_neg he] at h;rw[if_neg (by simp[he])];refine Rh (TR ha rfl (Rh (TR hb rfl ?_)));refine J h1 (J h2 ?_);refine Rh (lt_str ?_);exact Rj h
  ·have h2:(Uu (fun p:RN×Tok=>R6 p.1 p.2) ys).toArray[(i:Int).toNat]?=none:=by simp;exact AU hy
   refine J h2 (Rh (TR ha rfl (Rh (TR hb rfl (Rj ?_)))));rw[(WJ (AU hy))] at h;show R (.ok (.ret (.bool (decide ((Uu (fun p:RN×Tok=>R6 p.1 p.2) xs).toArray.size<(Uu (fun p:RN×Tok=>R6 p.1 p.2) ys).toArray.size))))) s;have e2:decide ((Uu (fun p:RN×Tok=>R6 p.1 p.2) xs).toArray.size<(Uu (fun p:RN×Tok=>R6 p.1 p.2) ys).toArray.size)=false:=by
    simp only[RI,Rk,decide_eq_false_iff_not];exact JJ (ap (AU hy) (CQ cg))
   exact e2▸h
theorem oJ{xs ys:List (RN×Tok)}{m k}{Q E}(ha:s.heap.get? a=some (sq "list" (xs.map fun p=>R6 p.1 p.2) m))(hb:s.heap.get? b=some (sq "list" (ys.map fun p=>R6 p.1 p.2) k))
  (h:Q (.bool (ke (xs.map (·.1)) (ys.map (·.1)))) s):wpAny (model prog w) A (call (.builtin "list.__lt__") [.ref a, .ref b]) Q E s:=by
 refine Vk (aaV F.slot_list_lt.plain F.entry_list_lt (F.slot_list_lt.check _ _ _ _ _ _ _ _ ⟨_,ha,rfl⟩ (F.args_list_lt_2 _ _) ?_));show wpAny (model prog w) A.in1 (do
  let(a',[b']) ←slotArgs "__lt__" 1 ⟨[.ref a, .ref b],[]⟩|unsupported "internal:list.compare"
  if !(←isInstance b' (.type "list")) then return ←ret .notImplemented
  aaP (.builtin "list.__eq__.loop" ⟨[a',b',TF 0,TF 0],[]⟩)) _ _ s
 refine Rh (Rj ?_);refine bI (b:=true) ⟨_,hb,rfl⟩ rfl (J (if_neg dc) ?_);refine Rj ⟨Uj U8 _, ?_⟩;exact Bm ha hb _ 0 rfl (RW _) (RW _) h
theorem yq{xs ys:List (RN×Tok)}{m k}{Q}{E}(hu:A.units<aaO)(ha:s.heap.get? a=some (sq "list" (xs.map fun p=>R6 p.1 p.2) m))(hb:s.heap.get? b=some (sq "list" (ys.map fun p=>R6 p.1 p.2) k))
  (h:Q (ke (xs.map (·.1)) (ys.map (·.1))) s):wpAny (model prog w) A (keyLt' oneType' (.ref a) (.ref b)) Q E s:=by
 refine J (keyLt'_oneType ..) (J (oneLt'_eq ..) ?_);refine Rh (wpAny_cRoomFor hu ?_);refine Rh (wpAny_callSpecialIfBound?_slot ⟨_,ha,rfl⟩ F.slot_list_lt (oJ ha hb ?_));exact YK h
end
noncomputable def bj{α:Type}(c:Bool)(x y:α):List α:=if c then [y,x] else [x,y]
theorem Pq:kas_sort 2= .ask 1 0 fun c=> .ret (if c=true then#[1,0] else#[0,1]):=by
 show KasT.ask 1 0 _=_;congr 1;funext c;cases c<;>kernel_rfl
theorem gK{α:Type}{l:List α}(h:l.length≤2):l=[]∨(∃a,l=[a])∨∃a b,l=[a,b]:=by
 cases l with
 |nil=>exact .inl rfl
 |cons a l=>cases l with
  |nil=>exact .inr (.inl ⟨a,rfl⟩)
  |cons b l=>cases l with
   |nil=>exact .inr (.inr ⟨a,b,rfl⟩)
   |cons c l=>exact absurd h (by simp)
theorem Hv{α β:Type}{l:List α}{m:List β}(h:m.length=l.length)(h1:1≤l.length)(h2:l.length≤2):(∃a x,l=[a]∧m=[x])∨∃a b x y,l=[a,b]∧m=[x,y]:=by
 rcases gK h2 with rfl|⟨a,rfl⟩|⟨a,b,rfl⟩
 ·cases h1
 ·obtain⟨x,rfl⟩:=Zv.mp h;exact .inl ⟨a,x,rfl,rfl⟩
 ·rcases gK (UK h) with rfl|⟨x,rfl⟩|⟨x,y,rfl⟩
  ·cases h
  ·cases h
  ·exact .inr ⟨a,b,x,y,rfl,rfl⟩
theorem EN{α:Type}{l:List α}(h:2=l.length):∃a b,l=[a,b]:=by
 rcases gK (UK h.symm) with rfl|⟨x,rfl⟩|h
 ·cases h
 ·cases h
 ·exact h
section
variable{A:TL}{s:RT}
theorem Hw{k0 k1 v0 v1}{Q:SortSt→RT→Prop}{E}
  (h:wpAny (model prog w) A (keyLt' κ k1 k0) (fun c s'=>∀yt,(abr yt).map (·.2)=(bj c v0 v1).toArray→X2 yt=none→Q yt s') (fun _ _=>False) s):
  wpAny (model prog w) A ((sortRuns').run (SortSt.mk' κ ((Tz [k0,k1]).zip (Tz [v0,v1])) #[] 7 none)) (fun r s'=>Q r.2 s') E s:=by
 refine kat_run (G:=fun p s'=>∀yt,abr yt=p.map (kas_item ((Tz [k0,k1]).zip (Tz [v0,v1])))→X2 yt=none→Q yt s') rfl (Ri 2) (by show 2<64;decide) (fun p yt s' _ h1 h2 g=>g yt h1 h2) (J Pq ?_);refine RM h (fun c s' hc=> ?_) fun _ _ x=>x;intro yt h1 h2;refine hc yt ?_ h2;refine J (kat_snds (ks:=[k0,k1]) (vs:=[v0,v1]) rfl h1) ?_;cases c<;>rfl
theorem Hy{keys}{c ck}{R:List Value→Prop}{P}{E}(hlen:keys.length=items.length)(h1:1≤items.length)(h2:items.length≤2)
  (hD:s.heap.get? D=some (sq "list" [] c)) (hk:s.heap.get? kS=some (sq "list" keys ck)) (aV:kS≠D)
  (Bn:items.length=1→R items)
  (EO:∀k0 k1 v0 v1,keys=[k0,k1]→items=[v0,v1]→wpAny (model prog w) A (keyKind' keys.toArray) (fun κ s'=>wpAny (model prog w) A (keyLt' κ k1 k0) (fun b dM=>dM=s∧R (bj b v0 v1)) (fun _ _=>False) s') (fun _ _=>False) s)
  (h:∀h' out n m,(∀b o,b≠D→b≠kS→s.heap.get? b=some o→h'.get? b=some o)→h'.get? D=some (sq "list" out n)→h'.get? kS=some (sq "list" [] m)→R out→out.length=items.length→P (.done (.ret .none)) {s with heap:=h'}):
  wpAny (model prog w) A (ksk_end D false items.toArray c (.ref kS) keys.toArray) P E s:=by
 have tail:∀st out,(abr st).map (·.2)=out.toArray→X2 st=none→R out→out.length=items.length→wpAny (model prog w) A (ksk_tail D false c (.ref kS) st) P E s:=by
  intro st out ho hf hr hl
  delta ksk_tail
  refine J ho (J hf ?_);refine Rh (U1 hk rfl ?_ (ap (bD hlen) (ap h2 dc)) (RW _));have s1:=R5 s.heap kS (RZ fun _=>(#[]:Array Value));have vY:=(s1.2 D (SK aV)).trans hD;refine bO (Rh (Zi vY rfl ?_));have s2:=R5 (s.heap.update kS (RZ fun _=>(#[]:Array Value))) D (RZ fun _=>out.toArray);obtain⟨c2,sH⟩:∃c2,((s.heap.update kS (RZ fun _=>(#[]:Array Value))).update D (RZ fun _=>out.toArray)).get? D=some (sq "list" out c2):=⟨_,Uw vY fun _=>out.toArray⟩;obtain⟨c1,Lm⟩:∃c1,(s.heap.update kS (RZ fun _=>(#[]:Array Value))).get? kS=some (sq "list" [] c1):=⟨_,Uw hk fun _=>#[]⟩;refine Rh (U1 vY rfl ?_ (RW _) (J RI (J R2 ((ap (bD hl) (ap h2 dc))))));rw[bne_self_eq_false];exact Rj (h _ out c2 c1 (fun b o hb sX e=>(s2.2 b hb).trans ((s1.2 b sX).trans e)) sH ((s2.2 kS aV).trans Lm) hr hl)
 delta ksk_end
 dsimp only;simp only[aaj,if_false];rcases Hv hlen h1 h2 with⟨v0,k0,e,e'⟩|⟨v0,v1,k0,k1,e,e'⟩<;>subst e e'
 ·have hs:=V0 1;refine J (if_pos hs) (J (if_pos hs) ?_);refine bP (J (Yl ..) ?_);exact bP (tail _ [v0] (by show Array.map (·.2) ((Tz [k0]).zip (Tz [v0]))=_;simp) rfl (Bn rfl) rfl)
 ·have hs:=SQ 2;refine J (if_neg hs) (J (if_neg hs) ?_);refine Rh (RM (EO k0 k1 v0 v1 rfl rfl) (fun κ s' LQ=> ?_) fun _ _ x=>x.elim);refine Rh (RM (Hw (Q:=fun st dM=>dM=s∧∃b,(abr st).map (·.2)=(bj b v0 v1).toArray∧X2 st=none∧R (bj b v0 v1)) (RM LQ (fun b dM hb st h3 h4=>⟨hb.1,b,h3,h4,hb.2⟩) fun _ _ x=>x)) (fun r dM hr=> ?_) fun _ _ x=>x);obtain⟨⟨⟩,st⟩:=r;obtain⟨rfl,b,h3,h4,h5⟩:=hr;exact tail st _ h3 h4 h5 (by cases b<;>rfl)
end
section
variable{n:Nat}{F:Fx}{ρ an cV hU:Loc}{H H1 H2 H3 H4 H5:AH}{g:Fl}
theorem ao.Hz{s s'}{i}{a}{ob}(S:ao W H s)(hi:W.φ[i]?=some a)(fh:W'.φ=W.φ)(hC:W'.C=W.C)(l:W.le W')(hI:W'.I a=none)
  (yu:∀b o,W'.I b=some o→W.I b=some o∨s.heap.get? b=none) (HA:∀b o,W'.I b=some o→s'.heap.get? b=some o)
  (k:∀b o,b≠a→s.heap.get? b=some o→s'.heap.get? b=some o) (hs:s'.heap.get? a≠none) (g:s'.gens=s.gens) (os:s'.os=s.os) (ht:s.toks≤s'.toks) (h:OA W' s'.heap a ob):
  ao W' (H.set i (some ob)) s'∧Gr ct W s W' s':=by
 have th:∀b,s.heap.get? b≠none→s'.heap.get? b≠none:=fun b e=>by
  by_cases hb:b=a
  ·cases hb;exact hs
  ·cases q:s.heap.get? b with
   |none=>exact(e q).elim
   |some o=>exact(k b o hb q)▸nofun
 refine⟨⟨HA,fun b o e=>l.2.1 _ _ (S.gr b o e),by refine J fh ?_;exact S.nodup,by refine J SS (J fh ?_);exact S.len,fun b m=>th b (S.lt b (by rw[fh] at m;exact m)),fun j o e=> ?_,by rw[g];exact S.bare,Si S.tk ht,fun u x h=>by rw[hC] at h;exact⟨(S.col u x h).1,Si (S.col u x h).2 ht⟩⟩,
  ⟨l,fun b m=> .inl (by rw[fh] at m;exact m),fun b o e=>(yu b o e).imp_right fun q=> .inr (.inl q),fun b o e hn _=>k _ _ (fun q=>hn (by subst q;exact Sf hi)) e,fun b h _=>th b h,os,by exact g▸fun _ _ h=>h⟩⟩
 rcases cj e with⟨h1,h2⟩|⟨GN,h2⟩
 ·subst h1;cases h2;exact⟨a,by refine J fh ?_;exact hi,hI,h⟩
 ·obtain⟨b,p,q,r⟩:=S.live j o h2;have KE:b≠a:=fun z=>by
   subst z;have h1:=Ru.mp hi;have h3:=Ru.mp p;exact GN (lA S.nodup h1.1 h3.1 (h1.2.trans h3.2.symm))
  refine⟨b,by exact fh▸p, ?_,eY l (pR r fun o h=>k _ _ KE h)⟩;cases e2:W'.I b with
  |none=>rfl
  |some o2=>
   rcases yu b o2 e2 with q2|q2
   ·cases q.symm.trans q2
   ·exact absurd q2 (S.lt b (Sf p))
noncomputable abbrev LR(q:RN)(o:Obj)(_:Value):Prop:=∃vs t,o.data= .fields vs∧vs[1]?=some (.str q t)
noncomputable abbrev LS(q:RN)(params:Arguments)(body:Tk)(scope:aaQ)(o:Obj)(u:Value):Prop:=∃pm yv,o={cls:= .type "function",data:= .func (kla_fn "<lambda>" q params body scope [] pm u yv)}
noncomputable abbrev V.lam(q:RN)(params:Arguments)(body:Tk)(scope:aaQ):V:= .raw (LS q params body scope) (.raw (LR q) .none)
theorem uI:codeAmong p [TF p.line,TF p.col,c]=some c:=by
 simp[codeAmong,TF]
theorem ET.EP{scope}{pos}{q0}{c P}{i:Nat}(B:JP)(hF:F.code= .ref c)(hq:F.qual=some q0)(LU:∀env,defaultsOf params env=([],[]))(gn:∀env,YB scope env=pure [])
  (hb:∀h:VN,(∀a o,br a=some o→h.get? a=some o)→h.BuiltinsAt mg P) (C:∀h,(∀a o,br a=some o→h.get? a=some o)→CodeHd h c P) (hP:mainGlobals≠P) (hH:H[i]?=some (some (.tab P pos (q0++"<lambda>")))):
  ET n F (.Lambda params body scope pos) ρ H (V.lam (q0++"<lambda>") params body scope) H:= .mk fun A s W env R S E f Q q=>by
 refine kla_eval (LU env) (J (E.qual _ hq) ?_);refine Rg fun kG=> ?_;obtain⟨a,ha,EQ,rfl,ps,jb,yw⟩:=S.live _ _ hH;refine kG ?_;have ht:H.set i (some (.tab a pos (q0++"<lambda>")))=H:=by
  refine X0 fun j=>(J XZ ?_);refine bn (fun _=> ?_) fun _=> ?_
  ·rename_i e;subst e;refine J hH ?_;simp[(Ru.mp hH).1]
  ·rfl
 refine Rg fun kG=> ?_;rcases yw with rfl|⟨c',oc,vs,t,rfl,pS,hd,hv⟩<;>refine kG ?_
 ·refine wpAny_toks (kla_makeFunction (gn env) E.globals (B.g _ S.ground) (E.code.trans hF) (C _ S.ground) jb trivial rfl hP (hb _ S.ground) fun c' yv h' tk hx Gd cg ER NH lV=> ?_);refine Rg fun kG=> ?_;obtain⟨c2,oc,vs,t,e2,EJ,hd,hv⟩:=ER;refine kG ?_;cases e2;have LV:c'≠a:=fun e=>by subst e;exact absurd (RV jb) (T8.mpr Gd)
  have AE:=S9 Gd;obtain⟨S1,G1⟩:=S.Hz (s':={s with heap:=h',toks:=tk}) (W':=W.put c' oc) (ob:= .tab a pos (q0++"<lambda>")) ha rfl rfl (Wd.lx (S.fresh AE).2) (by simp[Wd.put,SK LV,EQ]) (fun b o e=>by
    by_cases hb:b=c'
    ·exact .inr (hb▸AE)
    ·exact .inl (by simpa [Wd.put,hb] using e)) (fun b o e=>by
    by_cases hb:b=c'
    ·cases hb;replace e:=(Wd.al ..)▸e;cases e;exact EJ
    ·have e:W.I b=some o:=by simpa [Wd.put,hb] using e
     exact hx b o (fun z=>by cases z;cases EQ.symm.trans e) (S.cr b o e)) (fun b o hb e=>hx b o hb e) (NH▸nofun) rfl rfl lV
    ⟨rfl,_,NH, .inr ⟨c',oc,vs,t,rfl,Wd.al ..,hd,hv⟩⟩
  rw[ht] at S1;obtain⟨S2,G2⟩:=S1.put (o:=kla_obj "<lambda>" (q0++"<lambda>") params body scope [] ((mg "__name__").getD .none) c' yv) rfl;refine q _ _ _ (G1.trans G2) S2 ⟨_,_, .ref c',rfl,Wd.al ..,⟨_,_,rfl⟩,c',oc,TJ,rfl,G2.le.2.1 _ _ (Wd.al ..),⟨vs,t,hd,hv⟩,rfl⟩
 ·refine wpAny_toks (kla_makeFunctionHit (gn env) E.globals (B.g _ S.ground) (E.code.trans hF) (C _ S.ground) jb trivial uI (hb _ S.ground) fun yv h' tk hk hsz lV=> ?_);obtain⟨S1,G1⟩:=S.but (s':={s with heap:=h',toks:=tk}) (Y:=ct) (fun b o _ e=>hk b o e) (fun _ y=>y.elim) rfl rfl lV;obtain⟨S2,G2⟩:=S1.put (o:={cls:= .type "function",data:= .func (kla_fn "<lambda>" (q0++"<lambda>") params body scope [] ((mg "__name__").getD .none) (.ref c') yv)}) rfl;refine q _ _ _ (G1.trans G2) S2 ⟨_,_, .ref c',rfl,Wd.al ..,⟨_,_,rfl⟩,c',oc,TJ,rfl,G2.le.2.1 _ _ pS,⟨vs,t,hd,hv⟩,rfl⟩
theorem CT.lam{q}{xs}{ks bs}{x}(lim:∀h:VN,(∀a o,br a=some o→h.get? a=some o)→h.NoLimit)
  (hB:∀pm u yv,Binds (kla_fn "<lambda>" q params body scope [] pm u yv) xs ks bs) (hn:(bs.map (·.1)).Nodup) (hk:∀x∈bs.map (·.1),scope.names.lookup x=some .local∨scope.names.lookup x=some .cell)
  (nQ:scope.kind= .function) (C9:scope.isCoroutine=false) (yx:scope.isGenerator=false)
  (h:∀u,ET n ⟨scope.names,u,true,some (q++".<locals>.")⟩ body bs H x H1):CT (n+1) (V.lam q params body scope) xs ks H x H1:= .mk fun A s W fv vs kv R S rf rx c8 sm Q k=>by
 refine Rg fun kG=> ?_;obtain⟨a,o,u,rfl,hI,⟨pm,yv,rfl⟩,c',oc,u',rfl,pS,⟨us,t,hd,hv⟩,_⟩:=rf;refine kG (Vk ?_);obtain⟨b,hL,CS⟩:=hB pm (.ref c') yv s.heap W vs kv S.ground rx (oy c8 sm);refine kla_callFunE R.lt (S.cr _ _ hI) rfl C9 yx rfl ⟨c',oc,us,t,rfl,S.cr _ _ pS,hd,hv⟩ (hL.here ?_);refine wpAny_toks (Vb nQ (fun y hy=> ?_) fun env he s' x ht=> ?_)
 ·rcases hk _ (CS.names▸Rz.mpr ⟨y,hy,rfl⟩) with q|q
  ·exact .inl q
  ·exact .inr ⟨q,bc _ _ _ _ (.inl q)⟩
 ·have vE:env=callEnvC (kla_fn "<lambda>" q params body scope [] pm (.ref c') yv) s.heap.objs.size a:=he;subst vE;obtain⟨f,S',G'⟩:=hO S hn CS hk x ht;refine⟨lim _ S'.ground,kla_codeExpr ?_⟩;refine RM ((h (.ref c')).run (A.deeper _) s' W _ (R.deeper _) S' (⟨rfl,nQ,rfl,rfl,rfl,C9,(fun _ y c _ hc=>x.above y c (mem_of_lookup hc)),(fun q h=>by cases h;rfl)⟩) f Q fun v s2 W2 G2 S2 r2=> ?_) (fun v s2 h2=>h2) fun _ _ e=>e.elim;refine k v s2 W2 (G'.base G2 fun x h _=>h) S2 r2
end
noncomputable def je(key:RN→List RN):List RN→List RN
 |[x,y]=>bj (ke (key y) (key x)) x y
 |l=>l
section
variable{n:Nat}{F:Fx}{ρ an cV hU:Loc}{H H1 H2 H3 H4 H5:AH}{g:Fl}
theorem ES{W}{kf}{f}{key}{xs}{ys}{D kS}{c}{P}(R:aC A n)(S:ao W H s)(rf:Rel W kf f)
  (rx:ak W (xs.map V.str) ys) (h1:1≤xs.length) (h2:xs.length≤2) (hD:s.heap.get? D=some (sq "list" [] c)) (hk:s.heap.get? kS=some (sq "list" [] 0)) (aV:kS≠D) (fD:jD W D) (fk:jD W kS)
  (nj:∀x∈xs,CT n kf [.str x] [] H (.lst ((key x).map V.str)) H)
  (h:∀s' W' out m,Gr (fun b=>b=D∨b=kS) W s W' s'→ao W' H s'→s'.heap.get? D=some (sq "list" out m)→ak W' ((je key xs).map V.str) out→jD W' D→P (.done (.ret .none)) s'):
  wpAny (model prog w) A (ksk_rest D f false ys.toArray c (.ref kS)) P aY s:=by
 have hlen:ys.length=xs.length:=by have:=rx.length;rwa [Rk] at this
 refine bR ?_
 first
  |refine J (List.forIn_toArray ..) ?_
  |(rw[←Z1];rw[List.toList_toArray])
  |rw[←Z1]
 refine Rh (ksk_fold (fun i s'=>D4 fun W' ks m=>pQ (Gr (fun b=>b=D∨b=kS) W s W' s') (ao W' H s') (s'.heap.get? D=some (sq "list" [] c)) (pQ (s'.heap.get? kS=some (sq "list" ks m)) (jD W' D) (jD W' kS)
   (ak W' ((xs.take i).map fun x=>V.lst ((key x).map V.str)) ks))) ys 0 s ⟨W,[],0,Gr.refl ..,S,hD,hk,fD,fk,by refine J List.take_zero ?_;rfl⟩ ?step ?done)
 case step=>
  rintro j v s' hv ⟨W',ks,m,G',S',sW,A2,HB,J3,rk⟩;simp only[Ur] at rk⊢;have hj:=hlen▸(Ru.mp hv).1;refine Rg fun kG=> ?_;obtain⟨v',J4,rv⟩:=rx.get (i:=j) (x:= .str xs[j]) (by simp[hj]);refine kG ?_;replace J4:=hv▸J4;cases J4;refine Rh (T3 (RM ((nj xs[j] (UA hj)).run A s' W' f [v] [] R S' (rf.mono G'.le) ⟨v,[],rfl,rv.mono G'.le,rfl⟩ rfl rfl (fun r dM=>∃nF,Gr ct W' s' nF dM∧ao nF H dM∧Rel nF (.lst ((key xs[j]).map V.str)) r) fun r dM nF G2 S2 r2=>⟨nF,G2,S2,r2⟩) (fun r dM hr=> ?_) fun _ _ e=>e.elim));refine Rg fun kG=> ?_;obtain⟨nF,G2,S2,r2⟩:=hr;refine kG ?_;have pK:=G2.heap _ _ A2 J3.1 id;have LW:=am G2 (A2▸nofun) J3 id;have s1:=R5 dM.heap kS (RZ (·.push r));obtain⟨c2,sH⟩:∃c2,(dM.heap.update kS (RZ (·.push r))).get? kS=some (sq "list" (ks++[r]) c2):=by
   have:=Uw pK (·.push r);have:=((show ks.toArray.push r=(ks++[r]).toArray by simp))▸this;exact⟨_,this⟩
  have NI:ks.length≤2:=by have:=rk.length;rw[Rk,VU] at this;lia
  refine Rh (U1 pK rfl ?_ (ap NI dc) (Rq (UK (Yw ..)) (J RI (J R2 ((ba (ap NI dc) (Ri _)))))));refine Rj ⟨rfl,nF,ks++[r],c2,(G'.trans G2.of).trans ((S2.but (s':={dM with heap:=dM.heap.update kS (RZ (·.push r))}) (fun b o hb e=>(s1.2 b hb).trans e) (fun b y=>by cases y;exact LW) rfl rfl (Ri _)).2.weaken fun b e=> .inr e),(S2.but (s':={dM with heap:=dM.heap.update kS (RZ (·.push r))}) (fun b o hb e=>(s1.2 b hb).trans e) (fun b y=>by cases y;exact LW) rfl rfl (Ri _)).1,(s1.2 D (SK aV)).trans (G2.heap _ _ sW HB.1 id),sH,(am G2 (sW▸nofun) HB id),LW, ?_⟩;exact J List.take_add_one (J (RK hj) (J RH ((ak.append (rk.mono G2.le) ⟨r,[],rfl,r2,rfl⟩))))
 case done=>
  rintro s' ⟨W',ks,m,G',S',sW,A2,HB,J3,rk⟩;replace rk:=(aaG ..)▸(hlen ..)▸(Ur ..)▸rk;refine Rh (TR A2 rfl ?_);have NJ:=rx.mono G'.le;refine Hy (R:=fun out=>ak W' ((je key xs).map V.str) out) (by have:=rk.length;rw[Rk] at this;exact si (ap (bD this) (lq hlen)) (ap (bD hlen) (lq this))) (ap h1 (lq hlen)) (ap (bD hlen) h2) sW A2 aV (fun h3=> ?_) (fun k0 k1 v0 v1 ek ev=> ?_) fun h' out n1 n2 keep LX NK hr hl=> ?_
  ·have:je key xs=xs:=by
    obtain⟨x,hx⟩:=Zv.mp (hlen.symm.trans h3);exact hx▸rfl
   exact J this ((NJ))
  ·subst ek ev;obtain⟨x,y,rfl⟩:=EN hlen
   ·obtain⟨_,_,e,r0,r1⟩:=rk.two;cases e;obtain⟨_,_,e,q0,q1⟩:=NJ.two;cases e;refine Rg fun kG=> ?_;obtain⟨a0,LY,n0,rfl,i0,z0,_⟩:=r0;obtain⟨a1,Db,n1,rfl,i1,z1,_⟩:=r1;obtain⟨l0,rfl,e0⟩:=z0.strs;obtain⟨l1,rfl,e1⟩:=z1.strs;refine kG (kas_kind (T:= .type "list") (Ri _) (fun v hv=> ?_) dc dc ?_)
    ·rcases Rt.mp hv with rfl|hv
     ·exact(Xj (S'.cr _ _ i0)).andThen .now
     ·exact(Rr.mp hv)▸(Xj (S'.cr _ _ i1)).andThen .now
    ·refine yq R.ult (S'.cr _ _ i1) (S'.cr _ _ i0) ⟨rfl, ?_⟩;refine J e0 (J e1 ?_);show ak W' ((bj (ke (key y) (key x)) x y).map V.str) _;cases ke (key y) (key x)
     ·exact⟨_,_,rfl,q0,_,_,rfl,q1,rfl⟩
     ·exact⟨_,_,rfl,q1,_,_,rfl,q0,rfl⟩
  ·obtain⟨S3,G3⟩:=S'.but (s':={s' with heap:=h'}) (Y:=fun b=>b=D∨b=kS) (fun b o hb e=>keep b o (fun z=>hb (.inl z)) (fun z=>hb (.inr z)) e) (fun b y=>y.elim (fun e=>e▸HB) (fun e=>e▸J3)) rfl rfl (Ri _);exact h _ W' out n1 (G'.trans G3) S3 LX hr HB
theorem lW{l l'}(hp:l'.Perm l)(h2:l.length≤2)(ht:∀x y,l=[x,y]→ke (key y) (key x)= !ke (key x) (key y)):je key l'=je key l:=by
 rcases gK h2 with rfl|⟨x,rfl⟩|⟨x,y,rfl⟩
 ·rw[hp.eq_nil]
 ·rw[Xr.mp hp]
 ·obtain⟨a,b,rfl⟩:=EN hp.length_eq.symm
  ·have ha:a=x∨a=y:=by have:=hp.mem_iff (a:=a);simp at this;exact this
   rcases ha with rfl|rfl
   ·rw[(Xr.mp (Zr hp))]
   ·have:=Xr.mp (Zr (hp.trans (X5 ..)));cases this;show bj (ke (key x) (key a)) a x=bj (ke (key a) (key x)) x a;refine J (ht x a rfl) ?_;cases ke (key x) (key a)<;>rfl
theorem oK{α β:Type}{f}{ys:List β}{ps}(h:ys.Perm (ps.map f)):∃qs:List α,ys=qs.map f∧qs.Perm ps:=by
 generalize hz:ps.map f=zs at h
 induction h generalizing ps with
 |nil=>exact⟨[],rfl,by rw[Ux.mp hz]⟩
 |cons x h ih=>
  obtain⟨a,l,rfl,rfl,e⟩:=Xd.mp hz;obtain⟨qs,e1,e2⟩:=ih e;exact⟨a::qs,by rw[RD,e1],e2.cons a⟩
 |swap x y l=>
  obtain⟨a,l1,rfl,rfl,e⟩:=Xd.mp hz;obtain⟨b,l2,rfl,rfl,e5⟩:=Xd.mp e;exact⟨b::a::l2,by rw[RD,RD,e5],X5 ..⟩
 |trans h1 h2 Lx Ly=>
  obtain⟨qs,e1,e2⟩:=Ly hz;obtain⟨rs,e3,e4⟩:=Lx e1.symm;exact⟨rs,e3,e4.trans e2⟩
theorem vZ:∀{qs:List (RN×Tok)},(∀p∈qs,p.1.length≤Rs)→ak W ((qs.map (·.1)).map V.str) (qs.map fun p=>R6 p.1 p.2):=by
 intro rv
 induction rv with
 |nil=>
  intro _;exact rfl
 |cons p qs ih=>
  intro h;exact⟨_,_,rfl,⟨p.2,rfl,h p Rn⟩,ih fun q hq=>h q (Rm _ hq)⟩
theorem CT.v5{key}{l}(sS:l≠[])(d5:l.length≤2)(ht:∀x y,l=[x,y]→ke (key y) (key x)= !ke (key x) (key y))(Pr:∀W v,Rel W kf v→∃q,v= .ref q)
  (nj:∀x∈l,CT n kf [.str x] [] H (.lst ((key x).map V.str)) H):CT (n+2) (.st (.builtin "sorted")) [.dst l] [("key",kf)] H (.lst ((je key l).map V.str)) H:= .mk fun A s W fv vs kv R S rf rx c8 sm Q k=>by
 cases rf;obtain⟨v,rfl,rv⟩:=rx.one;obtain⟨a,es,ep,t,rfl,hI,X,hz⟩:=rv;obtain⟨fk,e2,NL⟩:=ak.one sm;obtain⟨qa,rfl⟩:=Pr _ _ NL;obtain⟨⟨kn,Q4⟩,rfl,e3⟩:=List.map_eq_singleton_iff.mp e2;have e4:kn="key":=by simpa using c8
 subst e4;subst e3;refine call_function_entry_kw kind_sorted plain_sorted entry_sorted (ksk_s1 _ _) (Rh (Rj ?_));refine Rh (qp R.handled (S.cr _ _ hI) X sS d5 fun h' d ys keep hp=> ?_);obtain⟨ps,jb,sV⟩:=X.1;have Lu:ys.Perm (ps.map fun p=>R6 p.1 p.2):=by
  rw[jb,RO] at hp;exact hp
 obtain⟨qs,rfl,hq⟩:∃qs:List (RN×Tok),ys=qs.map (fun p=>R6 p.1 p.2)∧qs.Perm ps:=by
  obtain⟨qs,Ps,HC⟩:=oK Lu;exact⟨qs,Ps,HC⟩
 have j9:=(hq.map (·.1)).trans sV;have Ba:qs.length=l.length:=by have:=j9.length_eq;rwa [Rk] at this
 obtain⟨S1,G1⟩:=S.but (s':={s with heap:=h',drawn:=d}) (Y:=ct) (fun b o _ e=>keep b o e) (fun _ y=>y.elim) rfl rfl (Ri _);generalize ({s with heap:=h',drawn:=d}:RT)=s1 at S1 G1⊢;refine Rh (Yq ?_ (J (Rk ..) (J (Ba ..) (J (R2 ..) ((eI d5))))));have fD:=S1.fresh (af s1.heap);generalize HD:s1.heap.objs.size=D at fD⊢;have AF:=HD▸af _;have hD:(s1.heap.push (sq "list" (qs.map fun p=>R6 p.1 p.2) 0)).get? D=some (sq "list" (qs.map fun p=>R6 p.1 p.2) 0):=HD▸Rx _ rfl;refine Rh (wpAny_holding (wpAny_call_entry_kw XS ⟨_,hD,rfl⟩ Zu ?body (ksk_l1 _ _)));refine J (ksk_t1 ..) (Rh (TR hD rfl ?_));refine Rh (U1 hD rfl ?_ (by refine J (RI ..) (J (Rk ..) (J (Ba ..) (J (R2 ..) ?_)));exact eI d5) (RW _));have u1:=R5 (s1.heap.push (sq "list" (qs.map fun p=>R6 p.1 p.2) 0)) D (RZ fun _=>(#[]:Array Value));obtain⟨e1,vY⟩:∃e1,((s1.heap.push (sq "list" (qs.map fun p=>R6 p.1 p.2) 0)).update D (RZ fun _=>(#[]:Array Value))).get? D=some (sq "list" [] e1):=⟨_,Uw hD fun _=>#[]⟩;obtain⟨S3,G3⟩:=(S1.cn (sq "list" (qs.map fun p=>R6 p.1 p.2) 0)).but (s':={s1 with heap:=(s1.heap.push (sq "list" (qs.map fun p=>R6 p.1 p.2) 0)).update D (RZ fun _=>(#[]:Array Value))}) (fun b o hb e=>(u1.2 b hb).trans e) (fun b y=>by cases y;exact fD) rfl rfl (Ri _);have vY:({s1 with heap:=(s1.heap.push (sq "list" (qs.map fun p=>R6 p.1 p.2) 0)).update D (RZ fun _=>(#[]:Array Value))}:RT).heap.get? D=some (sq "list" [] e1):=vY;have Bj:Gr (fun b=>s1.heap.get? b=RB) W s1 W {s1 with heap:=(s1.heap.push (sq "list" (qs.map fun p=>R6 p.1 p.2) 0)).update D (RZ fun _=>(#[]:Array Value))}:=(Gr.cn W s1 (sq "list" (qs.map fun p=>R6 p.1 p.2) 0)).of.trans (G3.weaken fun b e=>by cases e;exact AF);show wpAny (model prog w) A.in1.in1 _ _ aY {s1 with heap:=(s1.heap.push (sq "list" (qs.map fun p=>R6 p.1 p.2) 0)).update D (RZ fun _=>(#[]:Array Value))};generalize ({s1 with heap:=(s1.heap.push (sq "list" (qs.map fun p=>R6 p.1 p.2) 0)).update D (RZ fun _=>(#[]:Array Value))}:RT)=s3 at S3 Bj vY⊢;refine Rh (Zi vY rfl ?_);refine Rh (XR ?_ (J (Rk ..) (J (Ba ..) (J (R2 ..) ((eI d5))))));refine Rh (Yq ?_ (RW _));refine wpAny_holding ?_;have aV:(s3.heap.push (U7 "tuple" (qs.map fun p=>R6 p.1 p.2).toArray 0)).objs.size≠D:=fun e=>by
  have:=af (s3.heap.push (U7 "tuple" (qs.map fun p=>R6 p.1 p.2).toArray 0));cases(Rp _ vY)▸e▸this
 have yh:s1.heap.get? (s3.heap.push (U7 "tuple" (qs.map fun p=>R6 p.1 p.2).toArray 0)).objs.size=RB:=by
  generalize hz:(s3.heap.push (U7 "tuple" (qs.map fun p=>R6 p.1 p.2).toArray 0)).objs.size=z;cases e:s1.heap.get? z with
  |none=>rfl
  |some o=>
   cases e3:s3.heap.get? z with
   |none=>exact absurd e3 (Bj.there z (e▸nofun) (fun q=>by cases e.symm.trans q))
   |some o3=>
    have:=af (s3.heap.push (U7 "tuple" (qs.map fun p=>R6 p.1 p.2).toArray 0));have:=(Rp _ e3)▸hz▸this;cases this
 refine ES R.in1.in1 ((S3.cn (U7 "tuple" (qs.map fun p=>R6 p.1 p.2).toArray 0)).cn (U7 "list" #[] 0)) ((NL.mono G1.le)) ((fun W'=>vZ (fun p hp=>hz _ (j9.mem_iff.mp (T6 hp)))) W) (by refine J (Rk ..) (J (Ba ..) ?_);exact(U9.mpr sS)) (by refine J (Rk ..) (J (Ba ..) ?_);exact d5) (Rp _ (Rp _ vY)) (Rx _ rfl) aV fD ((S3.cn (U7 "tuple" (qs.map fun p=>R6 p.1 p.2).toArray 0)).fresh (af _)) (fun x hx=>nj x (j9.mem_iff.mp hx)) fun s5 W5 out m G5 S5 Pt r5 f5=> ?_;replace r5:=(lW j9 d5 ht)▸r5;obtain⟨S6,G6,l6⟩:=S5.adopt f5 Pt;refine⟨_,rfl,Rj ⟨_,rfl,k _ _ _ (G1.trans ((Gr.refl ct W s1).base (((Bj.trans ((Gr.cn W s3 (U7 "tuple" (qs.map fun p=>R6 p.1 p.2).toArray 0)).trans (Gr.cn (X:=fun b=>s1.heap.get? b=RB) W _ (U7 "list" #[] 0)))).trans (G5.weaken fun b e=>by rcases e with rfl|rfl;exact AF;exact yh)).trans (G6.weaken fun b e=>by cases e;exact AF)) fun b e h=>absurd e h)) S6 ⟨D,out,m,rfl,Wd.al ..,r5.mono l6, ?_⟩⟩⟩;refine J (Rk ..) ?_;have:(je key l).length=l.length:=by
  refine aQ (lW (X6 l) d5 ht) ?_;rcases gK d5 with rfl|⟨x,rfl⟩|⟨x,y,rfl⟩
  ·rfl
  ·rfl
  ·show(bj _ _ _).length=2;cases ke (key y) (key x)<;>rfl
 exact J this (J R2 ((eI d5)))
end
section
variable{n:Nat}{F:Fx}{ρ an cV hU dI:Loc}{H H1 H2 H3 H4 H5:AH}{g:Fl}
theorem ao.sY(S:ao W H s)(h:jD W D)(ho:s.heap.get? D≠none)(o:OA (W.new D) s.heap D ob):
  ao (W.new D) (H++[some ob]) s∧Gr (fun b=>b=D) W s (W.new D) s∧W.le (W.new D):=by
 have l:=W.ly D;refine⟨⟨S.cr,S.gr, ?_, ?_,fun a m=> ?_,fun i Pu e=> ?_,S.bare,S.tk,S.col⟩,⟨l,fun a m=> ?_,fun a p e=> .inl e,fun a p e _ _=>e,fun a h _=>h,rfl,fun _ _ h=>h⟩,l⟩
 ·exact TY.mpr ⟨S.nodup,SG.mpr ⟨nofun,Tl⟩,fun x hx y hy e=>by
   simp at hy;subst hy;subst e;exact h.1 hx⟩
 ·simp[Wd.new,S.len]
 ·rcases RE.mp m with m|m
  ·exact S.lt a m
  ·simp at m;subst m;exact ho
 ·by_cases hi:i<H.length
  ·rw[R8 hi] at e;obtain⟨a,p,q,r⟩:=S.live i Pu e;exact⟨a,Wd.eO l p,q,eY l r⟩
  ·have GL:i=H.length:=by
    have:=(Ru.mp e).1;simp at this;exact GK hi this
   subst GL;simp at e;subst e;exact⟨D,by refine aQ S.len ?_;simp[Wd.new],h.2,o⟩
 ·rcases RE.mp m with m|m
  ·exact .inl m
  ·simp at m;exact .inr (.inr m)
theorem sZ{elt target iter}{ifs}{rest}{scope}{cl}{P}{xs acc}{pos}{A}{s0 s2}{W0 W2}{env}{it}{Y}(R:aC A n)
  (pU:Gr ct W0 s0 W2 s2) (S:ao W2 H s2) (E:aA F env) (CW:cR W0 ρ env s0.heap) (K:ar F scope ρ dI) (gn:∀x c,cl.lookup x=some c→env.cells.lookup x=some c)
  (oz:∀x,(x,UG)∈scope.names→(cl.lookup x).isSome=true) (c:Src n P it Y xs s0 W2 s2) (hz:acc.length≤Rs)
  (h:CF n ⟨dU F scope.names,F.code,false,RB⟩ (.ListComp elt (⟨target,iter,ifs,0⟩::rest) scope pos) 0 P xs dI [] H acc H1) {RR:Value→Ud→Result→RT→Prop}
  (GW:∀D C f s' W' m,Gr ct W0 s0 W' s'→ao W' (H1++[some (.list acc)]) s'→Rel W' (.ref H1.length) (.ref D)→s0.heap.get? C=none→C∉W'.φ→W'.I C=none→s'.heap.Ns C m→RR (.ref D) C (.ok f) s'):
  wpAny (model prog w) A (newList []) (fun acc gv=>wpAny (model prog w) A (ZH scope env.globals cl [] env.qual none .none (some env)) (fun cenv fj=>
   Tt (model prog w) A (.compStart (.ListComp elt (⟨target,iter,ifs,0⟩::rest) scope pos) 0 it acc {cenv with scope:=aaL scope env}) (RR acc cenv.locals) fj) aY gv) aY s2:=by
 have fr:=CW.step pU;refine Sz (XN K.lF (by intro y hy;simp at hy) (fun cJ gH lG=> ?_) K.kind);have hC:(s2.heap.push (sq "list" [] 0)).objs.size=s2.heap.objs.size+1:=Se ..;have old:=fun b o e=>lG.extBut b o (Te (RV e)) (Rp _ e);have gI:=fun b o e=>old b o (Rp _ e);have pW:s2.heap.get? (s2.heap.push (sq "list" [] 0)).objs.size=none:=by
  cases e:s2.heap.get? (s2.heap.push (sq "list" [] 0)).objs.size with
  |none=>rfl
  |some o=>have:=RV e;rw[hC] at this;exact absurd (UW this) (SQ _)
 have S4:=S.same (s':={s2 with heap:=cJ}) (fun b o e _=>gI b o e) S.bare;have ut:Gr ct W2 s2 W2 {s2 with heap:=cJ}:=⟨W2.le_refl,fun _ h=> .inl h,fun _ _ h=> .inl h,fun b o e _ _=>gI b o e,fun a h _=>bt gI a h,rfl,fun _ _ h=>h⟩;have xK:=fun a y=>(c.new a y).2;have CX:s2.heap.objs.size≠(s2.heap.push (sq "list" [] 0)).objs.size:=J hC (((VZ _).symm));have hX:∀a,(own (US scope cl (s2.heap.push (sq "list" [] 0)).objs.size env) a∨a=s2.heap.objs.size)→s2.heap.get? a=none:=fun a o=>by
  rcases o with(o|⟨cg,x,_,hx⟩)|o
  ·exact o▸pW
  ·cases q:s2.heap.get? a with
   |none=>rfl
   |some o=>
    have h2:=cg;rw[hC] at h2;exact absurd (Yg (UW h2) (RV q)) (SQ _)
  ·exact o▸af _
 have lp:Tt (model prog w) A (.compLoop (.ListComp elt (⟨target,iter,ifs,0⟩::rest) scope pos) 0 it (.ref s2.heap.objs.size) (US scope cl (s2.heap.push (sq "list" [] 0)).objs.size env))
   (RR (.ref s2.heap.objs.size) (s2.heap.push (sq "list" [] 0)).objs.size) {s2 with heap:=cJ}:=by
  refine UB (h.run A {s2 with heap:=cJ} W2 (US scope cl (s2.heap.push (sq "list" [] 0)).objs.size env) it s2.heap.objs.size Y R S4 (fA S E fr K gn oz pW gH gI).1 (fA S E fr K gn oz pW gH gI).2 (fun y=>xK _ y pW) (fun x c' hx y=> ?_) (fun y=>xK _ y (af _)) CX (fun x c hx e=>(fun x c hx=>(fr.dD x c (gn x c hx)).2.2.2) x c hx (e▸af _)) (⟨⟨[],0,(old _ _ (Rx _ rfl)),rfl⟩,(S.fresh (af s2.heap))⟩)
   ((fun X hx=>(c.feed X hx).step (ut.of)) _ fun a o y=>xK a y (hX a o)) (fun s'=>∀f,RR (.ref s2.heap.objs.size) (s2.heap.push (sq "list" [] 0)).objs.size (.ok f) s') fun s' W' G' S' f' a' f=> ?_) fun r s' hr=>by obtain⟨f,rfl,hr⟩:=hr;exact hr f
  ·exact(CW.dD x _ (gn x _ hx)).2.2.2 (c.new _ y).1
  ·obtain⟨vs,m,ho,rl⟩:=a'.obj;obtain⟨mm,hm,_⟩:=f'.m;have h0:∀a,((own (US scope cl (s2.heap.push (sq "list" [] 0)).objs.size env) a∨a=s2.heap.objs.size)∨Y a)→s0.heap.get? a=none:=fun a o=>by
    rcases o with o|o
    ·exact(pU.back (hX a o)).resolve_right id
    ·exact(c.new a o).1
   have CY:=f'.sep;refine GW _ _ f s' _ mm ?_ (S'.sY (ob:= .list acc) a'.sep (ho▸nofun) ⟨vs,m,ho,rl.mono (W'.ly _),hz⟩).1 ⟨_,rfl,by refine aQ S'.len ?_;simp[Wd.new]⟩ ((pU.back pW).resolve_right id) (fun hm=>(RE.mp hm).elim CY.1 fun hm=>CX (Rr.mp hm).symm) CY.2 hm;refine((pU.trans ut).base G' fun a o e=>absurd (h0 a o) e).base (S'.sY (ob:= .list acc) a'.sep (ho▸nofun) ⟨vs,m,ho,rl.mono (W'.ly _),hz⟩).2.1 fun a o e=> ?_;subst o;exact absurd ((pU.back (af s2.heap)).resolve_right id) e
 exact fW rfl rfl lp (dj.step (c.self (fun _=>False) fun _ h=>h.elim) ut A _ W2 H (Gr.refl ..) S4 _ lp)
theorem XT.v6{elt target iter}{ifs}{rest}{scope}{P}{xs acc}{pos iJ py}{y}(K:ar F scope ρ dI)(hi:IT n F iter ρ H xs P H1)
  (h:CF n ⟨dU F scope.names,F.code,false,RB⟩ (.ListComp elt (⟨target,iter,ifs,0⟩::rest) scope pos) 0 P xs dI [] H1 acc H2) (hz:acc.length≤Rs) (fQ:ST F y)
  (hsw:∀env,aA F env→Xh (.ListComp elt (⟨target,iter,ifs,0⟩::rest) scope pos) (some (.Name y py)) iJ.line env=pure true)
  (hs:autoParam (∀env x,Td iter env x=pure x) aI):
  XT n F (.Assign [.Name y py] (.ListComp elt (⟨target,iter,ifs,0⟩::rest) scope pos) iJ) ρ H .next ((y, .ref H2.length)::ρ) (H2++[some (.list acc)]):=by
 refine .mk fun A s W env R S E fr Q q=>(Rg fun kG=> ?_);obtain⟨cl,i3,gn,oz⟩:=dP E fr K;refine kG (J (XC _ _ _ _ (hsw env E)) ?_);refine bA (Rh ?_);refine Rh (RM (Vw rfl (hs env) i3 K.kind K.names (hi.run A s W env R S E fr _ fun it Y s2 W2 G2 S2 c=> ?_)) (fun _ s' hq=>Rj (Rj hq)) fun _ _ e=>e);refine sZ R G2 S2 E fr K gn oz c hz h fun D C f s' W' m G' S' r' hC h1 h2 hm=>(VX (fQ.run A s' W' (H2++[some (.list acc)]) ρ env (.ref H2.length) _ S' E (fr.step G') r' _ fun dM CZ C0 GX=> ?_));have C1:=fun o=>fr.cG C o hC;obtain⟨mm,AW⟩:∃m,dM.heap.Ns C m:=⟨m,nG hm fun o e=>CZ.heap _ o e h1 C1⟩;refine⟨mm,AW,fun h' uu=> ?_⟩;have G5:Gr (fun a=>a=C) W' dM W' {dM with heap:=h'}:=Gr.same uu rfl;refine q _ _ W' (((G'.of).trans CZ).base G5 fun x e hx=>by cases e;exact absurd hC hx) (C0.same (fun a o e hh=>(uu.2 a fun z=>by cases z;exact hh.elim h1 fun hh=>hh h2).trans e) C0.bare) ?_ rfl;refine GX.di G5 (fun e=> ?_) fun x c hx e=> ?_
 ·exact C1 (.inl e.symm)
 ·cases e;exact(fr.dD x _ hx).2.2.2 hC
structure yy n F pos yz ρ H(ks:List (RN×V)) H':Prop where
 run:∀A s W env,aC A n→ao W H s→aA F env→cR W ρ env s.heap→
    ∀Q,(∀vs s' W',Gr ct W s W' s'→ao W' H' s'→ak W' (ks.map (·.2)) vs→Q vs s')→
     wpAny (model prog w) A (evalAll ((backToKw pos (keywordEach yz env)).map (·.2))) Q aY s
 names:∀env,(backToKw pos (keywordEach yz env)).filterMap (·.1)=ks.map (·.1)
 all:∀env,(backToKw pos (keywordEach yz env)).all (·.1.isSome)=true
 Dc:∀env,(backToKw pos (keywordEach yz env)).any (·.1.isNone)=false
theorem yy.nil:yy n F pos [] ρ H [] H:=⟨fun A s W env R S E f Q q=>kws_nil (q [] s W (Gr.refl ..) S rfl),fun _=>rfl,fun _=>rfl,fun _=>rfl⟩
theorem yy.cons{name}{e}{yz}{x}{ks}(h:ET n F e ρ H x H1)(r:yy n F pos yz ρ H1 ks H2):yy n F pos (⟨some name,e,kp⟩::yz) ρ H ((name,x)::ks) H2:=
 ⟨fun A s W env R S E f Q q=>kws_cons (h.run A s W env R S E f _ fun v s1 W1 G1 S1 r1=>r.run A s1 W1 env R S1 E (f.step G1) _ fun vs s2 W2 G2 S2 r2=>q _ s2 W2 (G1.trans G2) S2 ⟨v,vs,rfl,r1.mono G2.le,r2⟩),
  fun env=>congrArg (name::·) (r.names env),fun env=>by
  refine J (r.all env) ?_;rfl,fun env=>by
  refine J (r.Dc env) ?_;rfl⟩
theorem ET.Dd{pos}{f z}{xs}{ks}(hf:ET n F func ρ H f H1)(ha:ab n F pos (e::args) ρ H1 xs H2)(HE:yy n F pos yz ρ H2 ks H3)(hk:aM f)(hc:CT n f xs ks H3 z H4)
  (he:autoParam (∀env,eval (.Call func (e::args) yz pos) env=(do UT pos (←eval func env) [] (backTo pos (starEach (e::args) env)) (backToKw pos (keywordEach yz env)))) aI)
  (hp:autoParam (∀env,(backTo pos (starEach (e::args) env)).any (·.1)=false) aI)
  (hx:autoParam (∀env,((backTo pos (starEach (e::args) env)).head?.map (·.1))=some false) aI):ET n F (.Call func (e::args) yz pos) ρ H z H4:=by
 refine .mk fun A s W env R S E fr Q q=>(J (he env) ?_);refine Rh (hf.run A s W env R S E fr _ fun fv s1 W1 G1 S1 r1=> ?_);refine UV (P:=Kp fv) (by refine J (hp env) (J (HE.Dc env) ?_);rfl) (fun _ h=>h) ?_;obtain⟨x,rest,ex⟩:∃x rest,backTo pos (starEach (e::args) env)=(false,x)::rest:=by
  have h:=hx env;cases q:backTo pos (starEach (e::args) env) with
  |nil=>rw[q] at h;cases h
  |cons y r=>rw[q] at h;cases y;cases h;exact⟨_,r,rfl⟩
 have CU:=ha.run A s1 W1 env R S1 E (fr.step G1);rw[ex] at CU⊢;refine evalArgs_kwB (HE.all env) (CU _ fun vs s2 W2 G2 S2 r2=>HE.run A s2 W2 env R S2 E ((fr.step G1).step G2) _ fun bd s3 W3 G3 S3 r3=>⟨hk.run s3 W3 _ fv S3 ((r1.mono G2.le).mono G3.le), ?_⟩);have hlen:bd.length=ks.length:=by have:=r3.length;rwa [Rk] at this
 refine hc.run A s3 W3 fv ([]++vs) _ R S3 ((r1.mono G2.le).mono G3.le) (r2.mono G3.le) ?_ ?_ Q fun v s4 W4 G4 S4 r4=>q v s4 W4 (((G1.trans G2).trans G3).trans G4) S4 r4
 ·refine J (HE.names env) ?_;exact List.map_fst_zip (J (Rk ..) (J (hlen ..) ((Ri _))))
 ·refine J (HE.names env) ?_;rw[show(List.zip (ks.map (·.1)) bd).map (·.2)=bd from List.map_snd_zip (by rw[Rk,hlen];exact Ri _)];exact r3
end
noncomputable def ah(p:RN×RN):V:= .tup [.str p.1, .str p.2]
noncomputable def oL(p q:RN×RN):Bool:=if p.1=q.1 then(if p.2=q.2 then false else AD p.2 q.2) else AD p.1 q.1
noncomputable def b6:List (RN×RN)→List (RN×RN)
 |[x,y]=>bj (oL y x) x y
 |l=>l
section
variable{n:Nat}{F:Fx}{ρ an cV hU:Loc}{H H1 H2 H3 H4 H5:AH}{g:Fl}
theorem yA{D}{items}{c}{R:List Value→Prop}{P}{E}(hD:s.heap.get? D=some (sq "list" items c))(h2:items.length≤2)
  (Bn:items.length≤1→R items)
  (EO:∀v0 v1 h',items=[v0,v1]→(∀b o,b≠D→s.heap.get? b=some o→h'.get? b=some o)→wpAny (model prog w) A (keyKind' (Tz [v0,v1])) (fun κ s'=>wpAny (model prog w) A (keyLt' κ v1 v0) (fun b dM=>dM={s with heap:=h'}∧R (bj b v0 v1)) (fun _ _=>False) s') (fun _ _=>False) {s with heap:=h'})
  (h:∀h' out m,(∀b o,b≠D→s.heap.get? b=some o→h'.get? b=some o)→h'.get? D=some (sq "list" out m)→R out→out.length=items.length→P (.done (.ret .none)) {s with heap:=h'}):
  wpAny (model prog w) A (Builtin.«list.sort» ⟨[.ref D],[]⟩) P E s:=by
 refine J (list_sort_plain ..) (Rh (TR hD rfl ?_));refine Rh (U1 hD rfl ?_ (eI h2) (RW _));obtain⟨e1,vY⟩:∃e1,(s.heap.update D (RZ fun _=>(#[]:Array Value))).get? D=some (sq "list" [] e1):=⟨_,Uw hD fun _=>#[]⟩;refine Rh (Zi vY rfl ?_);refine Rh (XR ?_ (R2▸eI h2));refine Rh (Yq ?_ (RW _));refine wpAny_holding ?_;show wpAny (model prog w) A _ P E {s with heap:=((s.heap.update D (RZ fun _=>(#[]:Array Value))).push (U7 "tuple" items.toArray 0)).push (U7 "list" #[] 0)};have J5:(((s.heap.update D (RZ fun _=>(#[]:Array Value))).push (U7 "tuple" items.toArray 0)).push (U7 "list" #[] 0)).get? D=some (sq "list" [] e1):=Rp _ (Rp _ vY);have keep:∀b o,b≠D→s.heap.get? b=some o→(((s.heap.update D (RZ fun _=>(#[]:Array Value))).push (U7 "tuple" items.toArray 0)).push (U7 "list" #[] 0)).get? b=some o:=fun b o hb e=>Rp _ (Rp _ (((R5 s.heap D (RZ fun _=>(#[]:Array Value))).2 b hb).trans e));generalize ((s.heap.update D (RZ fun _=>(#[]:Array Value))).push (U7 "tuple" items.toArray 0)).push (U7 "list" #[] 0)=h1 at J5 keep⊢;have tail:∀st out,(abr st).map (·.2)=out.toArray→X2 st=none→R out→out.length=items.length→wpAny (model prog w) A (do
   let sorted:=(abr st).map (·.2);let touched:=(←seqEpoch D) !=e1
   Builtin.List.listUpdate (.ref D) fun _=>sorted
   if let some e:=X2 st then rule "list.sort.comparison-raised";throw e
   if touched then rule "list.sort.modified";raiseError "ValueError" "list modified during sort"
   ret .none) P E {s with heap:=h1}:=by
  intro st out ho hf hr hl;refine J ho (J hf ?_);obtain⟨c2,sH⟩:∃c2,(h1.update D (RZ fun _=>out.toArray)).get? D=some (sq "list" out c2):=⟨_,Uw J5 fun _=>out.toArray⟩;refine Rh (Zi J5 rfl ?_);refine Rh (U1 J5 rfl ?_ (RW _) (J RI (J R2 ((ap (bD hl) (ap h2 dc))))));rw[bne_self_eq_false];exact Rj (h _ out c2 (fun b o hb e=>((R5 h1 D (RZ fun _=>out.toArray)).2 b hb).trans (keep b o hb e)) sH hr hl)
 rcases gK h2 with e|⟨v0,e⟩|⟨v0,v1,e⟩<;>subst e
 ·have hs:(Tz ([]:List Value)).size<2:=dc;refine J (if_pos hs) (J (if_pos hs) ?_);refine bP (Rh ?_);exact J (Yl ..) ((Rj (tail _ [] (by simp) rfl (Bn (RW _)) rfl)))
 ·have hs:=V0 1;refine J (if_pos hs) (J (if_pos hs) ?_);refine bP (Rh ?_);exact J (Yl ..) (Rj (tail _ [v0] (by show Array.map (·.2) ((Tz [v0]).zip (Tz [v0]))=_;simp) rfl (Bn (SO _)) rfl))
 ·have hs:=SQ 2;refine J (if_neg hs) (J (if_neg hs) ?_);refine Rh (RM (EO v0 v1 _ rfl keep) (fun κ s' LQ=> ?_) fun _ _ x=>x.elim);refine Rh (RM (Hw (Q:=fun st dM=>dM={s with heap:=h1}∧∃b,(abr st).map (·.2)=(bj b v0 v1).toArray∧X2 st=none∧R (bj b v0 v1)) (RM LQ (fun b dM hb st h3 h4=>⟨hb.1,b,h3,h4,hb.2⟩) fun _ _ x=>x)) (fun r dM hr=> ?_) fun _ _ x=>x);obtain⟨⟨⟩,st⟩:=r;obtain⟨rfl,b,h3,h4,h5⟩:=hr;exact tail st _ h3 h4 h5 (by cases b<;>rfl)
theorem yB{W}{p q}{v0 v1}{R:Bool→Prop}(hI:∀a o,W.I a=some o→s.heap.get? a=some o)(r0:Rel W (ah p) v0)(r1:Rel W (ah q) v1)(hr:R (oL q p)):
  wpAny (model prog w) A (keyKind' (Tz [v0,v1])) (fun κ s'=>wpAny (model prog w) A (keyLt' κ v1 v0) (fun b dM=>dM=s∧R b) (fun _ _=>False) s') (fun _ _=>False) s:=by
 refine Rg fun kG=> ?_;obtain⟨a0,LY,n0,rfl,i0,z0,_⟩:=r0;obtain⟨a1,Db,n1,rfl,i1,z1,_⟩:=r1;obtain⟨_,_,rfl,⟨t0,rfl,_⟩,⟨Q5,rfl,_⟩⟩:=z0.two;obtain⟨_,_,rfl,⟨t1,rfl,_⟩,⟨Q6,rfl,_⟩⟩:=z1.two;refine kG (kat_kind (T:= .type "str") (aa5 (hI _ _ i0) rfl rfl rfl (aa5 (hI _ _ i1) rfl rfl rfl KatTups.nil)) (SO 1) (fun v hv=> ?_) dc ?_)
 ·rcases Rt.mp hv with rfl|hv
  ·exact Up rfl
  ·exact(Rr.mp hv)▸Up rfl
 ·refine kat_lt (hI _ _ i1) rfl (hI _ _ i0) rfl ?_;refine kat_cons (eqBool_str ?_)
  delta oL at hr
  by_cases h1:q.1=p.1
  ·rw[if_pos h1] at hr;refine J (show(q.1==p.1)=true by simp[h1]) ?_;refine kat_yes (kat_cons (eqBool_str ?_));by_cases h2:q.2=p.2
   ·rw[if_pos h2] at hr;exact J (show(q.2==p.2)=true by simp[h2]) ((kat_yes (kat_nil ⟨rfl,hr⟩)))
   ·rw[if_neg h2] at hr;refine J (show(q.2==p.2)=false by simp[h2]) (kat_no ?_);exact kat_one _ _ (lt_str ⟨rfl,hr⟩)
  ·rw[if_neg h1] at hr;refine J (show(q.1==p.1)=false by simp[h1]) (kat_no ?_);exact oneLt_str ⟨rfl,hr⟩
theorem jG:(b6 l).length=l.length:=by
 match l with
 |[]=>rfl
 |[_]=>rfl
 |[x,y]=>show(bj _ _ _).length=2;cases oL y x<;>rfl
 |_::_::_::_=>rfl
theorem lX{s}{W}{D}{items}{ps}{c}{P}{E}(hD:s.heap.get? D=some (sq "list" items c))(h2:ps.length≤2)
  (hI:∀a o,W.I a=some o→s.heap.get? a=some o) (Pw:W.I D=none) (r:ak W (ps.map ah) items)
  (h:∀h' out m,(∀b o,b≠D→s.heap.get? b=some o→h'.get? b=some o)→h'.get? D=some (sq "list" out m)→ak W ((b6 ps).map ah) out→P (.done (.ret .none)) {s with heap:=h'}):
  wpAny (model prog w) A (Builtin.«list.sort» ⟨[.ref D],[]⟩) P E s:=by
 have hl:=r.length;replace hl:=(Rk ..)▸hl;refine yA hD (ap (bD hl) h2) (fun h1=> ?_) (fun v0 v1 h' e keep=> ?_) fun h' out m keep sW hr _=>h h' out m keep sW hr
 ·have:b6 ps=ps:=by
   rcases gK (Rq (UK hl.symm) (Sq h1)) with e|⟨x,e⟩|⟨x,y,e⟩
   ·exact J e rfl
   ·exact J e rfl
   ·rw[hl,e] at h1;exact absurd h1 (Nat.not_succ_le_self 1)
  exact J this ((r))
 ·subst e;obtain⟨p,q,rfl⟩:=EN hl
  ·obtain⟨_,_,e,r0,r1⟩:=r.two;cases e;refine yB (fun a o e=>keep a o (fun z=>by cases z;cases Pw.symm.trans e) (hI a o e)) r0 r1 ?_;show ak W ((bj (oL q p) p q).map ah) _;cases oL q p
   ·exact⟨_,_,rfl,r0,_,_,rfl,r1,rfl⟩
   ·exact⟨_,_,rfl,r1,_,_,rfl,r0,rfl⟩
theorem CT.yC(hk:H[k]?=some (some (.list (ps.map ah))))(h2:ps.length≤2):CT n (.st (.builtin "list.sort")) [.ref k] [] H .none (H.set k (some (.list ((b6 ps).map ah)))):= .mk fun A s W fv vs kv R S rf rx c8 _ Q q=>by
 cases rf;have:kv=[]:=by simpa using c8
 subst this;obtain⟨v,rfl,a,rfl,ha⟩:=rx.one;obtain⟨a',CU,hI,us,m,ho,r,_⟩:=S.live _ _ hk;replace CU:=ha▸CU;cases CU;refine wpAny_call_entry XS ⟨_,ho,rfl⟩ Zu (lX ho h2 S.cr hI r fun h' out m' keep sW hr=> ?_) (args_list_sort _);obtain⟨S2,G2⟩:=S.set (s':={s with heap:=h'}) (ob:= .list ((b6 ps).map ah)) ha hI keep (J sW nofun) rfl rfl (Ri _) ⟨out,m',sW,hr,by refine J (Rk ..) (J (jG ..) (J (R2 ..) ?_));exact eI h2⟩;exact⟨_,rfl,q _ _ W G2 S2 rfl⟩
theorem jf{W}{v}{ps}(R:aC A (n+1))(S:ao W H s)(h2:ps.length≤2)
  (hc:∀A' R,A'.handled=none→(∀h' us W' tk,(∀b o,s.heap.get? b=some o→h'.get? b=some o)→W.le W'→s.toks≤tk→ao W' H {s with heap:=h',toks:=tk}→Gr ct W s W' {s with heap:=h',toks:=tk}→ak W' (ps.map ah) us→R us {s with heap:=h',toks:=tk})→wpAny (model prog w) A' (collect v) R aY s)
  {Q} (q:∀v s' W',Gr ct W s W' s'→ao W' H s'→Rel W' (.lst ((b6 ps).map ah)) v→Q v s'):wpAny (model prog w) A (call (.builtin "sorted") [v]) Q aY s:=by
 refine Calls.call_function_entry kind_sorted plain_sorted entry_sorted (args_sorted1 _) (Rh (Rj ?_));refine Rh (hc _ _ R.handled fun h' us W' tk keep l lV S1 G1 r=> ?_);generalize ({s with heap:=h',toks:=tk}:RT)=s1 at S1 G1⊢;have hl:=r.length;rw[Rk] at hl;refine Rh (Yq ?_ (J hl (J R2 ((ap h2 dc)))));have S2:=S1.cn (sq "list" us 0);have fD:=S1.fresh (af s1.heap);generalize HD:s1.heap.objs.size=D at fD⊢;have AF:=HD▸af _;have hD:(s1.heap.push (sq "list" us 0)).get? D=some (sq "list" us 0):=HD▸Rx _ rfl;refine Rh (wpAny_holding (wpAny_call_entry XS ⟨_,hD,rfl⟩ Zu (lX hD h2 S2.cr fD.2 r fun h3 out m' HF LX LM=> ?_) (args_list_sort _)));obtain⟨S3,G3⟩:=S2.but (s':={s1 with heap:=h3}) (fun b o hb e=>HF b o hb e) (fun b y=>by cases y;exact fD) rfl rfl (Ri _);obtain⟨S4,G4,l4⟩:=S3.adopt fD LX;refine⟨_,rfl,Rj ⟨_,rfl,q _ _ _ (G1.trans (((Gr.cn W' s1 (sq "list" us 0)).base G3 fun b e h=>by subst e;exact absurd AF h).base G4 fun b e h=>by subst e;exact absurd AF h)) S4 ⟨D,out,m',rfl,Wd.al ..,LM.mono l4, ?_⟩⟩⟩;exact J (Rk ..) (J (jG ..) (J (R2 ..) ((ap h2 dc))))
theorem CT.qt(h2:ps.length≤2):CT (n+1) (.st (.builtin "sorted")) [.lst (ps.map ah)] [] H (.lst ((b6 ps).map ah)) H:= .mk fun A s W fv vs kv R S rf rx c8 _ Q q=>by
 cases rf;have:kv=[]:=by simpa using c8
 subst this;obtain⟨v,rfl,a,us,m,rfl,hI,r,hz⟩:=rx.one;refine jf R S h2 (fun A' R' hh hR=> ?_) q;refine collect_list ⟨_,S.cr _ _ hI,rfl,m,rfl⟩ ?_ (r.length▸hz);have keep:∀b o,s.heap.get? b=some o→((s.heap.push (U7 "list" #[] 0)).update s.heap.objs.size (RZ (·++us.toArray))).get? b=some o:=fun b o e=>((R5 (s.heap.push (U7 "list" #[] 0)) s.heap.objs.size (RZ (·++us.toArray))).2 b (Te (RV e))).trans (Rp _ e);obtain⟨S3,G3⟩:=S.but (s':={s with heap:=(s.heap.push (U7 "list" #[] 0)).update s.heap.objs.size (RZ (·++us.toArray))}) (Y:=ct) (fun b o _ e=>keep b o e) (fun _ y=>y.elim) rfl rfl (Ri _);exact hR _ us W s.toks keep W.le_refl (Ri _) S3 G3 r
end
section
variable{n:Nat}{F:Fx}{ρ an cV hU:Loc}{H H1 H2 H3 H4 H5:AH}{g:Fl}
theorem lY l:∀{W} bd(as:List Ud)(lo:Ud),ao W H s→as.length=bd.length→bX W l bd→(∀p∈l,p.1.length≤Rs)→as.Pairwise (·<·)→(∀a∈as,jD W a)→
  (∀(j:Nat) kv a,bd[j]?=some kv→as[j]?=some a→∃t m,s.heap.get? a=some (sq "tuple" [.str kv.1 t,kv.2] m))→
  ∃W',ao W' H s∧Gr (fun b=>b∈as) W s W' s∧ak W' (cy l) (as.map UR):=by
 induction l with
 |nil=>
  intro W bd as lo S hl r _ _ _ _;cases r;cases RX.mp hl;exact⟨W,S,Gr.refl ..,rfl⟩
 |cons p l ih=>
  intro W bd as lo S hl r hz hp hf ht;obtain⟨v,bd,rfl,rv,rn⟩:=r;cases as with
  |nil=>cases hl
  |cons a as=>
   obtain⟨t,m,ho⟩:=ht 0 (p.1,v) a rfl rfl;obtain⟨S1,G1,l1⟩:=S.adopt (hf a Rn) ho;have aV:∀b∈as,b≠a:=fun b hb e=>by subst e;exact absurd ((Vo.mp hp).1 b hb) (SQ _)
   obtain⟨W',S2,G2,r2⟩:=ih bd as lo S1 (V6 hl) (rn.mono l1) (fun p hp=>hz p (Rm _ hp)) (Vo.mp hp).2 (fun b hb=>⟨(hf b (Rm _ hb)).1,by
    show(if b=a then _ else W.I b)=none;exact J (if_neg (aV b hb)) ((hf b (Rm _ hb)).2)⟩) (fun j kv b h1 h2=>ht (j+1) kv b h1 h2)
   refine⟨W',S2,(G1.weaken fun b e=>by cases e;exact Rn).trans (G2.weaken fun b e=>Rm _ e), .ref a,as.map UR,rfl,⟨a,_,m,rfl,G2.le.2.1 _ _ (Wd.al ..),⟨_,_,rfl,⟨t,rfl,hz (p.1,p.2) Rn⟩,_,_,rfl,(rv.mono l1).mono G2.le,rfl⟩,by refine J R2 ?_;simp⟩,r2⟩
theorem np{s}{W}{r}{x}{l}{R}(hh:A.handled=none)(S:ao W H s)(hv:Rel W (.vw "dict_items" x) (.ref r))(hx:aW H x l)(vL:∀p∈l,p.1.length≤Rs)
  (h:∀h' us W' tk,(∀b o,s.heap.get? b=some o→h'.get? b=some o)→s.toks≤tk→ao W' H {s with heap:=h',toks:=tk}→Gr ct W s W' {s with heap:=h',toks:=tk}→ak W' (cy l) us→R us {s with heap:=h',toks:=tk}):wpAny (model prog w) A (collect (.ref r)) R aY s:=by
 obtain⟨a,u,e,hI,ru⟩:=hv;cases e;refine Rg fun kG=> ?_;obtain⟨d,es,m,rfl,ho,hr,nd,hz,hs⟩:=hx.run s W u S ru;obtain⟨bd,hd,j7⟩:=dictOf ho hr nd;refine kG (wpAny_toks (kdx_collect hh ⟨_,S.cr _ _ hI,rfl,rfl⟩ hd (j7.length▸hz) fun h' tk as keep hl hG lV=> ?_));obtain⟨S1,G1⟩:=S.but (s':={s with heap:=h',toks:=tk}) (Y:=ct) (fun b o _ e=>keep b o e) (fun _ y=>y.elim) rfl rfl lV;have ye:=fun b hb=>S9 (TC (hG.above b hb));have LZ:∀j(kv:RN×Value) a,bd[j]?=some kv→as[j]?=some a→∃t m,h'.get? a=some (sq "tuple" [.str kv.1 t,kv.2] m):=fun j kv b h1 h2=>by
  obtain⟨key,k,x',e1,e2,e3⟩:=hG.pairs j b h2;cases h1.symm.trans e1;obtain⟨t,rfl⟩:=Us e2;exact⟨t,0,e3⟩
 obtain⟨W',S2,G2,r2⟩:=lY l bd as 0 S1 hl (j7.mono G1.le) vL hG.rise (fun b hb=>⟨(S.fresh (ye b hb)).1,(S.fresh (ye b hb)).2⟩) LZ;exact h h' _ W' tk keep lV S2 (G1.base G2 fun b e h=>absurd (ye b e) h) r2
theorem CT.s9(hx:aW H x (ps.map fun p=>(p.1,V.str p.2)))(h2:ps.length≤2)(vL:∀p∈ps,p.1.length≤Rs):CT (n+1) (.st (.builtin "sorted")) [.vw "dict_items" x] [] H (.lst ((b6 ps).map ah)) H:= .mk fun A s W fv vs kv R S rf rx c8 _ Q q=>by
 cases rf;have:kv=[]:=by simpa using c8
 subst this;obtain⟨v,rfl,rv⟩:=rx.one;obtain⟨a,u,rfl,hI,ru⟩:=id rv;refine jf R S h2 (fun A' R' hh hR=>np hh S rv hx (fun p hp=> ?_) fun h' us W' tk keep lV S1 G1 r=>hR h' us W' tk keep G1.le lV S1 G1 ?_) q
 ·obtain⟨p',Px,rfl⟩:=Rz.mp hp;exact vL p' Px
 ·have e:cy (ps.map fun p=>(p.1,V.str p.2))=ps.map ah:=by
   delta cy;exact RO
  exact e▸r
end
section
variable{n:Nat}{F F':Fx}{ρ an cV hU dI:Loc}{H H1 H2 H3 H4 H5:AH}{g:Fl}
structure ta W(s:RT) D acc:Prop where
 obj:∃es m,s.heap.get? D=some (dq es m)∧d7 W acc es
 nd:(acc.map (·.1)).Nodup
 sep:jD W D
theorem ta.step{W W'}{s s'}{D}{acc}(a:ta W s D acc)(G:Gr X W s W' s')(hX:¬X D):ta W' s' D acc:=by
 obtain⟨vs,m,ho,r⟩:=a.obj;exact⟨⟨vs,m,G.heap _ _ ho a.sep.1 hX,r.mono G.le⟩,a.nd,am G (ho▸nofun) a.sep hX⟩
theorem Bo{s}{W}{D}{acc}{k}{x}{kv v}(S:ao W H s)(a:ta W s D acc)(rk:Rel W (.str k) kv)(r:Rel W x v)(hz:acc.length≤Rs){Q}
  (q:∀s',Gr (fun b=>b=D) W s W s'→ao W H s'→ta W s' D (ip acc k x)→Q () s'):wpAny (model prog w) A (dictSet D kv v) Q aY s:=by
 refine Rg fun kG=> ?_;obtain⟨es,m,ho,rl⟩:=a.obj;obtain⟨bd,hd,hr⟩:=dictOf ho rl a.nd;refine kG (wpAny_dictSet_pairs (Rel.isKey rk) hd.dictOf (fun h' C4 hs=> ?_) (hr.length▸hz));refine Rg fun kG=> ?_;obtain⟨es',m',AZ,r',K8⟩:=lI C4 (hr.put r);obtain⟨S',G'⟩:=S.but (s':={s with heap:=h',toks:=s.toks+1}) (fun b o hb e=>(hs.2 b hb).trans e) (fun b y=>by cases y;exact a.sep) rfl rfl (TP _);exact kG (q _ G' S' ⟨⟨es',m',AZ,r'⟩,K8,a.sep⟩)
noncomputable abbrev EU(n:Nat)(F:Fx)(e:Tk)(d:Nat)(P:PP)(xs:List V)(ρ:Loc)(acc:List (RN×V))(H:AH)(cW:List (RN×V))(H':AH):Prop:=∀A s W env it D Y,aC A n→ao W H s→aA F env→cR W ρ env s.heap→
    (¬Y env.locals)→(∀n c,env.cells.lookup n=some c→¬Y c)→¬Y D→D≠env.locals→(∀n c,env.cells.lookup n=some c→c≠D)→ta W s D acc→
    dT n P (fun a=>own env a∨a=D) it Y xs W s→
    ∀Q:RT→Prop,(∀s' W',Gr (fun a=>(own env a∨a=D)∨Y a) W s W' s'→ao W' H' s'→cR W' ρ env s'.heap→ta W' s' D cW→Q s')→
     Tt (model prog w) A (.compLoop e d it (.ref D) env) (fun r s'=>∃f,r= .ok f∧Q s') s
@[irreducible] noncomputable def rZ (n:Nat) (F:Fx) (e:Tk) (d:Nat) (P:PP) (xs:List V) (ρ:Loc) (acc:List (RN×V)) (H:AH) (cW:List (RN×V)) (H':AH):Prop:=EU n F e d P xs ρ acc H cW H'
theorem rZ.mk{n F e d P xs ρ acc H cW H'}(h:EU n F e d P xs ρ acc H cW H'):rZ n F e d P xs ρ acc H cW H':=by delta rZ;exact h
theorem rZ.run{n F e d P xs ρ acc H cW H'}(h:rZ n F e d P xs ρ acc H cW H'):EU n F e d P xs ρ acc H cW H':=by delta rZ at h;exact h
theorem rZ.nil{P}{acc}(hp:P.1 H) p(K:Value→Value→Value→Env→Y3 Fin)
  (heq:∀it a env,X3 (.DictComp kx vx gens scope pos) d it a env=(standAt p>>=fun _=>UP it>>=fun r=>match r with
   |none=>pure (.done .next)
   |some v=>K it a v env)):
  rZ n F (.DictComp kx vx gens scope pos) d P [] ρ acc H acc H:=by
 refine .mk fun A s W env it D Y R S E fr hl hc hD rX rY ac fd Q q=>(SD ?_);refine T7 (dh fun Q' E' qq _=> ?_);refine J (heq ..) (bA (Rh (RM (fd A s W H R (Gr.refl ..) S hp) (fun r s1 h1=> ?_) fun _ _ e=>e.elim)));obtain⟨rfl,G1,S1⟩:=h1;exact Rj (qq _ _ ⟨_,rfl,q s1 W (G1.weaken fun x h=> .inr h) S1 (fr.di G1 hl hc) (ac.step G1 hD)⟩)
theorem rZ.cons{kx vx target}{ifs}{gens}{scope}{pos}{d}{P}{x y}{k}{xs}{acc cW}(hp:P.1 H)(hT:P.2 target)(ht:AT n F target x ρ H an H1)
  (hi:eL n F ifs an H1 true H2) (hk:ET n F kx an H2 (.str k) H3) (he:ET n F vx an H3 y H4) (hs:∀n x,ρ.lookup n=some x→an.lookup n=some x) (hz:acc.length≤Rs) (h:rZ n F (.DictComp kx vx gens scope pos) d P xs ρ (ip acc k y) H4 cW H5) p
  (heq:∀it D env,X3 (.DictComp kx vx gens scope pos) d it (.ref D) env=(standAt p>>=fun _=>UP it>>=fun r=>match r with
   |none=>pure (.done .next)
   |some v=>Tp target it v>>=fun _=>XJ target env v>>=fun _=>
     (forIn ifs true fun c r=>if r=true then do let ok ←isTrue c env (eval c env);pure (Tj ok) else pure (Tj r))>>=fun ok=>
     if ok=true then((do
      let kv ←eval kx env
      let vv ←holding [kv] (eval vx env)
      standAt {kx.pos with endLine:=vx.pos.endLine,endCol:=vx.pos.endCol}
      holding [kv,vv] (dictSet D kv vv))>>=fun _=>aaP (.compLoop (.DictComp kx vx gens scope pos) d it (.ref D) env)) else aaP (.compLoop (.DictComp kx vx gens scope pos) d it (.ref D) env))):
  rZ n F (.DictComp kx vx gens scope pos) d P (x::xs) ρ acc H cW H5:=by
 refine .mk fun A s W env it D Y R S E fr hl hc hD rX rY ac fd Q q=>(SD ?_);refine T7 (dh fun Q' E' qq _=> ?_);refine J (heq ..) (bA (Rh (RM (fd A s W H R (Gr.refl ..) S hp) (fun r s1 h1=> ?_) fun _ _ e=>e.elim)));obtain⟨v,rfl,h1⟩:=h1;refine Rh (RM (h1 target hT) (fun _ s2 h2=> ?_) fun _ _ e=>e.elim);refine Rg fun kG=> ?_;obtain⟨W2,G2,S2,r2,xB⟩:=h2;refine kG (Rh (lE (ht.run A s2 W2 env v R S2 E (fr.di G2 hl hc) r2 _ fun s3 W3 G3 S3 f3=> ?_)));refine Rh (lE (hi.run A s3 W3 env R S3 E f3 _ fun s4 W4 G4 S4=> ?_));have f4:=f3.step G4;refine Rh (Rh (lE (hk.run A s4 W4 env R S4 E f4 _ fun u s5 W5 G5 S5 r5=> ?_)));refine Rh (wpAny_holding (lE (he.run A s5 W5 env R S5 E (f4.step G5) _ fun u6 s6 W6 G6 S6 r6=> ?_)));refine bA (wpAny_holding (lE (Bo S6 (((((ac.step G2 hD).step G3 (kL rX rY)).step G4 id).step G5 id).step G6 id) (r5.mono G6.le) r6 hz fun s7 G7 S7 a7=>Rj (qq _ _ ⟨rfl, ?_⟩))));have NM:Gr (fun a=>own env a∨a=D) W2 s2 W6 s7:=((((G3.trans G4.of).trans G5.of).trans G6.of).weaken fun x h=> .inl h).trans (G7.weaken fun x h=> .inr h);refine h.run A s7 W6 env it D Y R S7 E ((((f4.step G5).step G6).di G7 (fun h=>rX h.symm) fun x c hx=>rY x c hx).sub hs) hl hc hD rX rY a7 (xB.step NM) Q fun s8 W8 G8 S8 f8 a8=>q s8 W8 ?_ S8 f8 a8;exact((G2.weaken fun x h=> .inr h).trans (NM.weaken fun x h=> .inl h)).trans G8
theorem nq{kx vx}{gens}{scope}{pos}{d}{it acc}{env}{R}{g}(hg:gens[d]?=some g)(vF:g.is_async=0)
  (h0:Tt (model prog w) A (.compLoop (.DictComp kx vx gens scope pos) d it acc env) R s)
  (h:wpAny (model prog w) A (Wn it) (fun Ef s'=>Tt (model prog w) A (.compLoop (.DictComp kx vx gens scope pos) d Ef acc env) R s') aY s):
  Tt (model prog w) A (.compStart (.DictComp kx vx gens scope pos) d it acc env) R s:=by
 refine SD (wpAny_notedAt ?_)
 delta compStart
 have hc:((clausesOf (.DictComp kx vx gens scope pos))[d]?).elim false (·.is_async !=0)=false:=by
  refine J hg ?_;show(g.is_async !=0)=false;exact J vF rfl
 refine J hc (bG (VR ?_));refine bn (fun _=> ?_) fun _=> ?_
 ·first
   |exact bP (Rj (Wq rfl h0))
   |exact Rj (Wq rfl h0)
 ·refine J hg ?_
  first
   |exact bR (bA (Rh (RM h (fun Ef s' h'=>Rj (Wq rfl h')) fun _ _ x=>x.elim)))
   |(exact bR (bA (Rh (RM h (fun Ef s' h'=>Rj (Wq rfl h')) fun _ _ x=>x.elim))))
theorem tc{scope}{cl}{P}{xs}{acc}{pos}{A}{s0 s2}{W0 W2}{env}{it}{Y}(R:aC A n)(EV:∃o,br TA=some o)
  (pU:Gr ct W0 s0 W2 s2) (S:ao W2 H s2) (E:aA F env) (CW:cR W0 ρ env s0.heap) (K:ar F scope ρ dI) (gn:∀x c,cl.lookup x=some c→env.cells.lookup x=some c)
  (oz:∀x,(x,UG)∈scope.names→(cl.lookup x).isSome=true) (c:Src n P it Y xs s0 W2 s2) (hz:acc.length≤Rs)
  (h:rZ n ⟨dU F scope.names,F.code,false,RB⟩ (.DictComp kx vx (⟨target,iter,ifs,0⟩::rest) scope pos) 0 P xs dI [] H acc H1) {RR:Value→Ud→Result→RT→Prop}
  (GW:∀D C f s' W' m,Gr ct W0 s0 W' s'→ao W' H1 s'→Rel W' (.bx acc) (.ref D)→s0.heap.get? C=none→C∉W'.φ→W'.I C=none→s'.heap.Ns C m→RR (.ref D) C (.ok f) s'):
  wpAny (model prog w) A newDict (fun acc gv=>wpAny (model prog w) A (ZH scope env.globals cl [] env.qual none .none (some env)) (fun cenv fj=>
   Tt (model prog w) A (.compStart (.DictComp kx vx (⟨target,iter,ifs,0⟩::rest) scope pos) 0 it acc {cenv with scope:=aaL scope env}) (RR acc cenv.locals) fj) aY gv) aY s2:=by
 have fr:=CW.step pU;refine Sz (XN K.lF (by intro y hy;simp at hy) (fun cJ gH lG=> ?_) K.kind);have hC:(s2.heap.push (dq [] 0)).objs.size=s2.heap.objs.size+1:=Se ..;have old:=fun b o e=>lG.extBut b o (Te (RV e)) (Rp _ e);have gI:=fun b o e=>old b o (Rp _ e);have pW:s2.heap.get? (s2.heap.push (dq [] 0)).objs.size=none:=by
  cases e:s2.heap.get? (s2.heap.push (dq [] 0)).objs.size with
  |none=>rfl
  |some o=>have:=RV e;rw[hC] at this;exact absurd (UW this) (SQ _)
 have S4:=S.same (s':={s2 with heap:=cJ}) (fun b o e _=>gI b o e) S.bare;have ut:Gr ct W2 s2 W2 {s2 with heap:=cJ}:=⟨W2.le_refl,fun _ h=> .inl h,fun _ _ h=> .inl h,fun b o e _ _=>gI b o e,fun a h _=>bt gI a h,rfl,fun _ _ h=>h⟩;have xK:=fun a y=>(c.new a y).2;have CX:s2.heap.objs.size≠(s2.heap.push (dq [] 0)).objs.size:=J hC (((VZ _).symm));have hX:∀a,(own (US scope cl (s2.heap.push (dq [] 0)).objs.size env) a∨a=s2.heap.objs.size)→s2.heap.get? a=none:=fun a o=>by
  rcases o with(o|⟨cg,x,_,hx⟩)|o
  ·exact o▸pW
  ·cases q:s2.heap.get? a with
   |none=>rfl
   |some o=>
    have h2:=cg;rw[hC] at h2;exact absurd (Yg (UW h2) (RV q)) (SQ _)
  ·exact o▸af _
 have lp:Tt (model prog w) A (.compLoop (.DictComp kx vx (⟨target,iter,ifs,0⟩::rest) scope pos) 0 it (.ref s2.heap.objs.size) (US scope cl (s2.heap.push (dq [] 0)).objs.size env))
   (RR (.ref s2.heap.objs.size) (s2.heap.push (dq [] 0)).objs.size) {s2 with heap:=cJ}:=by
  refine UB (h.run A {s2 with heap:=cJ} W2 (US scope cl (s2.heap.push (dq [] 0)).objs.size env) it s2.heap.objs.size Y R S4 (fA S E fr K gn oz pW gH gI).1 (fA S E fr K gn oz pW gH gI).2 (fun y=>xK _ y pW) (fun x c' hx y=> ?_) (fun y=>xK _ y (af _)) CX (fun x c hx e=>(fun x c hx=>(fr.dD x c (gn x c hx)).2.2.2) x c hx (e▸af _)) (⟨⟨[],0,(old _ _ (Rx _ rfl)),rfl⟩,Tl,(S.fresh (af s2.heap))⟩)
   ((fun X hx=>(c.feed X hx).step (ut.of)) _ fun a o y=>xK a y (hX a o)) (fun s'=>∀f,RR (.ref s2.heap.objs.size) (s2.heap.push (dq [] 0)).objs.size (.ok f) s') fun s' W' G' S' f' a' f=> ?_) fun r s' hr=>by obtain⟨f,rfl,hr⟩:=hr;exact hr f
  ·exact(CW.dD x _ (gn x _ hx)).2.2.2 (c.new _ y).1
  ·obtain⟨vs,m,ho,rl⟩:=a'.obj;have sR:(s2.heap.objs.size==TA)=false:=by
    obtain⟨o,hm⟩:=EV;rw[beq_eq_false_iff_ne];exact SK (Te (RV (S.ground _ _ hm)))
   obtain⟨S5,G5,l5⟩:=S'.adopt a'.sep ho;obtain⟨mm,hm,_⟩:=f'.m;have h0:∀a,((own (US scope cl (s2.heap.push (dq [] 0)).objs.size env) a∨a=s2.heap.objs.size)∨Y a)→s0.heap.get? a=none:=fun a o=>by
    rcases o with o|o
    ·exact(pU.back (hX a o)).resolve_right id
    ·exact(c.new a o).1
   have CY:=f'.sep;refine GW _ _ f s' _ mm ?_ S5 ⟨_,vs,m,rfl,Wd.al ..,rl.mono l5,a'.nd,hz,sR⟩ ((pU.back pW).resolve_right id) CY.1 ?_ hm
   ·refine((pU.trans ut).base G' fun a o e=>absurd (h0 a o) e).base G5 fun a o e=> ?_;subst o;exact absurd ((pU.back (af s2.heap)).resolve_right id) e
   ·show(if(s2.heap.push (dq [] 0)).objs.size=s2.heap.objs.size then _ else W'.I _)=none;exact(if_neg (SK CX))▸CY.2
 exact nq rfl rfl lp (dj.step (c.self (fun _=>False) fun _ h=>h.elim) ut A _ W2 H (Gr.refl ..) S4 _ lp)
theorem XT.yD{kx vx target iter}{ifs}{rest}{scope}{P}{xs}{acc}{pos iJ py}{y}(EV:∃o,br TA=some o)(K:ar F scope ρ dI)(hi:IT n F iter ρ H xs P H1)
  (h:rZ n ⟨dU F scope.names,F.code,false,RB⟩ (.DictComp kx vx (⟨target,iter,ifs,0⟩::rest) scope pos) 0 P xs dI [] H1 acc H2) (hz:acc.length≤Rs) (fQ:ST F y)
  (hsw:∀env,aA F env→Xh (.DictComp kx vx (⟨target,iter,ifs,0⟩::rest) scope pos) (some (.Name y py)) iJ.line env=pure true)
  (hs:autoParam (∀env x,Td iter env x=pure x) aI):
  XT n F (.Assign [.Name y py] (.DictComp kx vx (⟨target,iter,ifs,0⟩::rest) scope pos) iJ) ρ H .next ((y, .bx acc)::ρ) H2:=by
 refine .mk fun A s W env R S E fr Q q=>(Rg fun kG=> ?_);obtain⟨cl,i3,gn,oz⟩:=dP E fr K;refine kG (J (XC _ _ _ _ (hsw env E)) ?_);refine bA (Rh ?_);refine Rh (RM (Vw rfl (hs env) i3 K.kind K.names (hi.run A s W env R S E fr _ fun it Y s2 W2 G2 S2 c=> ?_)) (fun _ s' hq=>Rj (Rj hq)) fun _ _ e=>e);refine tc R EV G2 S2 E fr K gn oz c hz h fun D C f s' W' m G' S' r' hC h1 h2 hm=>(VX (fQ.run A s' W' H2 ρ env (.bx acc) _ S' E (fr.step G') r' _ fun dM CZ C0 GX=> ?_));have C1:=fun o=>fr.cG C o hC;obtain⟨mm,AW⟩:∃m,dM.heap.Ns C m:=⟨m,nG hm fun o e=>CZ.heap _ o e h1 C1⟩;refine⟨mm,AW,fun h' uu=> ?_⟩;have G5:Gr (fun a=>a=C) W' dM W' {dM with heap:=h'}:=Gr.same uu rfl;refine q _ _ W' (((G'.of).trans CZ).base G5 fun x e hx=>by cases e;exact absurd hC hx) (C0.same (fun a o e hh=>(uu.2 a fun z=>by cases z;exact hh.elim h1 fun hh=>hh h2).trans e) C0.bare) ?_ rfl;refine GX.di G5 (fun e=> ?_) fun x c hx e=> ?_
 ·exact C1 (.inl e.symm)
 ·cases e;exact(fr.dD x _ hx).2.2.2 hC
end
set_option maxHeartbeats 1000000
open Builtin Builtin.Str
abbrev LB:=List Value×Writer×List Nat
structure HG M A E s(f:Nat→LB→Y3 (ForInStep LB)):Prop where
 lit:∀x c rest p w' Q',(c::rest).span (· !=37)=([c],rest)→¬tooLong w'.total=true→(∀o,aaT o ⟨#[c]⟩→Q' (.yield (p,w'.add ⟨#[c]⟩ o,rest)) s)→wpAny M A (f x (p,w',c::rest)) Q' E s
 str:∀x y t p w' rest Q',¬tooLong w'.total=true→(∀o,aaT o y→Q' (.yield (p,w'.add ⟨y.cps.toList.toArray⟩ o,rest)) s)→wpAny M A (f x (.str y t::p,w',37::115::rest)) Q' E s
 fin:∀x p w' Q',¬tooLong w'.total=true→Q' (.done (p,w',[])) s→wpAny M A (f x (p,w',[])) Q' E s
def Bp(M:Model)(A:TL)(E:Value→RT→Prop)(s:RT)(f:Nat→LB→Y3 (ForInStep LB))(n:Int)(S:RN):Prop:=
 ∀x t p w' rest Q',¬tooLong w'.total=true→(∀z o k,z=S→aaT o z→Q' (.yield (p,w'.add z o,rest)) {s with toks:=k})→wpAny M A (f x (.int n t::p,w',37::100::rest)) Q' E s
section
variable{M:Model}{A:TL}{E:Value→RT→Prop}{s:RT}{f:Nat→LB→Y3 (ForInStep LB)}{Q:LB→RT→Prop}{a c S:RN}{n:Int}{t1 t2 t3:Tok}{w0:Writer}
theorem EW(T:∀k,HG M A E {s with toks:=k} f)(I:Bp M A E s f n S)(g:KPc.Good w0 Wp 0)(ha:a.length≤100)(hc:c.length≤100)(hS:S.length≤10)
  (h:∀w' k,KPc.Good w' (a++":"++S++"("++c++")") 300→Q ([],w',[]) {s with toks:=k}):wpAny M A (forIn [0,1,2,3,4,5,6,7,8] ([.str a t1, .int n t2, .str c t3],w0,[37,115,58,37,100,40,37,115,41]) f) Q E s:=by
 refine VP ((T s.toks).str _ _ _ _ _ _ _ (TK g dc) fun o ho=> ?_);refine KPc.after_str0 g ha ho fun w1 g1=>(VP ((T s.toks).lit _ _ _ _ _ _ rfl (TK g1 dc) fun o ho=> ?_));refine WC g1 rfl ho fun w2 g2=>(VP (I _ _ _ _ _ _ (TK g2 dc) fun z o k hz ho=> ?_));refine WC g2 hz ho fun w3 g3=> ?_;have g3:=KPc.good_mono g3 (aaa hS _);refine VP ((T k).lit _ _ _ _ _ _ rfl (TK g3 dc) fun o ho=> ?_);refine WC g3 rfl ho fun w4 g4=>(VP ((T k).str _ _ _ _ _ _ _ (TK g4 dc) fun o ho=> ?_));refine KPc.after_str g4 hc ho fun w5 g5=>(VP ((T k).lit _ _ _ _ _ _ rfl (TK g5 dc) fun o ho=> ?_));exact WC g5 rfl ho fun w6 g6=>(VP ((T k).fin _ _ _ _ (TK g6 dc) (h _ k (KPc.good_mono g6 dc))))
end
theorem De:aaT (if b=true then some (R6 y t) else none) y:=by
 cases b
 ·exact WU rfl
 ·exact KPc.obj_some rfl
theorem EX(a c:RN) n(hn:n=-1∨(0≤n∧n<10^10))(ha:a.length≤100)(hc:c.length≤100) b(t t1 t2 t3:Tok):Meets («str.__mod__» ⟨[.str ⟨#[37,115,58,37,100,40,37,115,41]⟩ t, .ref b],[]⟩) (fun _ R s=>IsTup s.heap b #[.str a t1, .int n t2, .str c t3]∧∀t' k,R (.ok (.ret (.str (a++":"++VK (toString n)++"("++c++")") t'))) {s with toks:=k}):=by
 apply KPt.meets_tup;intro P w A s Q E H0 h;refine Rg fun kG=> ?_;obtain⟨HH,Bq,HI,Py,HJ⟩:=H0;refine kG ?_;refine J (KPt.entry_is_r ..) ?_;refine Rh (Xa ⟨HH,Bq,HI⟩ KPt.sub_tt ?_);refine Rh (KPt.asStr_ref Bq HJ ?_);refine Rh (KPt.fills_ref ⟨HH,Bq,HI⟩ ?_);intro _;refine Rh (wpAny_seqItems Bq HJ ?_);refine Rh (Rj ?_);refine Rh ?_;refine J (abC ..) ?_;refine KPc.start fun w0 g0=> ?_;have hlen:(VK (toString n)).length≤10:=by
  rcases hn with rfl|⟨h0,h9⟩
  ·decide+kernel
  ·exact Yu h0 dc h9
 refine EW (fun k=>⟨?_, ?_, ?_⟩) ?_ g0 ha hc hlen ?_
 ·intro x c rest p w' Q' hs ht h;refine VR (V5 ht ?_);exact J hs ((Rj (h _ (WU (if_neg (show¬(1==9)=true by decide))))))
 ·intro x y t p w' rest Q' ht h;refine VR (V5 ht ?_);refine Rh (wpAny_holding ?_);refine Rh (SX (KPc.strOf_str _ _) ?_);refine Rh (SX rfl ?_);exact Rj (Rj (h _ De))
 ·intro x p w' Q' ht h;refine VR (V5 ht ?_);exact Rj h
 ·intro x t p w' rest Q' ht h;refine VR (V5 ht ?_);refine Rh (wpAny_holding ?_);have hd:n.natAbs.log2<1920:=by
   refine Rg fun kG=> ?_;rcases hn with rfl|⟨h0,h9⟩<;>refine kG ?_
   ·decide+kernel
   ·exact shown (by omega) (by omega) (Int.le_refl _)
  refine Rh (SX rfl ?_);refine Rh (wpAny_mkInt ?_);refine Rh (call_gives F.slot_int_repr (typeIs_int _ _ _) F.entry_int_repr (F.args_int_repr_1 _) (gives_int_repr _ _ (KPt.hd2 hd)) ⟨int_text_fits (KPt.hd2 hd), ?_⟩);refine Rh (SX rfl ?_);refine Rj (Rj ?_);refine h _ _ _ ?_ (WU (ite_self _));rcases hn with rfl|⟨h0,h9⟩
  ·decide+kernel
  ·rw[KPc.int_text _ rfl (Or.inl rfl) rfl h0,Int.natAbs_of_nonneg h0]
 ·intro w' k g;exact KPc.finish_ok g dc rfl h
theorem EY z(hz:z.length≤1000000)(t u:Tok):Meets («str.__mod__» ⟨[.str ⟨#[123,37,115,125]⟩ t, .str z u],[]⟩) (fun _ R s=>∀t' k,R (.ok (.ret (.str ("{"++z++"}") t'))) {s with toks:=k}):=by
 refine KPc.meets_of fun P w A s Q E h=> ?_;refine J (KPc.entry_is_s ..) ?_;refine Rh (SX (a:=false) rfl ?_);refine Rh (SX rfl ?_);refine Rh (KPc.wp_fills_str fun b=> ?_);refine Rh (Rj ?_);refine Rh ?_;refine J (abC ..) ?_;refine KPc.start fun w0 g0=>(VP (VR (V5 (TK g0 dc) (Rj ?_))));refine KPc.after_add0 g0 rfl (WU (if_neg dc)) fun w1 g1=> ?_;refine VP (VR (V5 (TK g1 dc) ?_));refine Rh (wpAny_holding (Rh (SX (KPc.strOf_str _ _) (Rh (SX rfl (Rj (Rj ?_)))))));refine KPc.after_str g1 hz De fun w2 g2=>(VP (VR (V5 (TK g2 dc) (Rj ?_))));refine WC g2 rfl (WU (if_neg dc)) fun w3 g3=> ?_;refine VP (VR (V5 (TK g3 dc) (Rj ?_)));exact KPc.finish_ok g3 dc rfl h
section
variable{n:Nat}{F:Fx}{ρ:Loc}{H H1 H2:AH}
noncomputable def iA(i:Int):RN:=if i=-1 then "-1" else VK (toString i)
theorem OT.EX{i}(hi:i=-1∨(0≤i∧i<1000))(ha:a.length≤100)(hc:c.length≤100):OT n (Wo .Mod) (.str "%s:%d(%s)") (.tup [.str a, .int i, .str c]) H (.str (a++":"++iA i++"("++c++")")) H:= .mk fun A s W x y R S rx ry Q q=>by
 refine Rg fun kG=> ?_;obtain⟨t,rfl,_⟩:=rx;obtain⟨b,us,m,rfl,hI,r,_⟩:=ry;obtain⟨_,_,_,rfl,⟨t1,rfl,_⟩,⟨t2,rfl⟩,⟨t3,rfl,_⟩⟩:=r.three;refine kG ?_;have hlen:(a++":"++iA i++"("++c++")").length≤Rs:=by
  have h1:(iA i).length≤10:=by
   delta iA
   refine bn (fun _=> ?_) fun _=> ?_
   ·decide
   ·rcases hi with rfl|⟨h0,h9⟩
    ·exact absurd rfl ‹_›
    ·exact Yu h0 dc (by lia)
  simp only[RC];have e2:"(".length=1:=rfl;have e3:")".length=1:=rfl;exact R2▸ap (ba (ba (ba (ba (ba ha (bD rfl)) h1) (bD e2)) hc) (bD e3)) dc
 have e:iA i=VK (toString i):=by
  delta iA
  refine bn (fun _=> ?_) fun _=> ?_
  ·rename_i h;refine h.symm▸ ?_;decide+kernel
  ·rfl
 rw[e] at q hlen;exact wpAny_toks (KPt.bin_left dc (TZ s _ t) (⟨_,S.cr _ _ hI,rfl⟩) F.fills_str_mod KPt.fills_tuple F.slot_str_mod (call_meets F.slot_str_mod (TZ s _ t) F.entry_str_mod (F.args_str_mod_2 _ _) (Internal.EX a c i (hi.imp_right fun h=>⟨h.1,Int.lt_trans h.2 dc⟩) ha hc b t t1 t2 t3) ⟨(⟨_,S.cr _ _ hI,rfl,m,rfl⟩),fun t' k=>⟨(fun e=>nomatch e),fun hk=>q _ _ W (Gr.dF W s k) (S.tok k hk) ⟨t',rfl,hlen⟩⟩⟩))
theorem OT.EY(hz:z.length≤1000):OT n (Wo .Mod) (.str "{%s}") (.str z) H (.str ("{"++z++"}")) H:= .mk fun A s W x y R S rx ry Q q=>by
 obtain⟨t,rfl,_⟩:=rx;obtain⟨u,rfl,_⟩:=ry;have hs:=R2;have hlen:("{"++z++"}").length≤Rs:=by
  refine J (RC ..) (J (RC ..) ?_);have:("{":RN).length=1:=rfl;have:("}":RN).length=1:=rfl;lia
 exact wpAny_toks (binaryOp_meets (TZ s _ t) (TZ s z u) F.fills_str_mod F.slot_str_mod F.entry_str_mod (F.args_str_mod_2 _ _) (Internal.EY z (eI hz) t u) (fun t' k=>⟨(fun e=>nomatch e),fun hk=>q _ _ W (Gr.dF W s k) (S.tok k hk) ⟨t',rfl,hlen⟩⟩))
end
theorem v7(b n:Nat)(hb:b≤n):XE none (some b) 1 n=(0,(b:Int)):=by
 delta XE
 lia
theorem v8(b:Nat):XD 0 b 1=b:=by
 exact(places_from 0 b (RW _))
theorem Br(xs:Array Value) b:((U3 b).filterMap fun(k:Nat)=>xs[(0+(k:Int)*1).toNat]?).toArray=(xs.toList.take b).toArray:=by
 have e:(fun(k:Nat)=>xs[(0+(k:Int)*1).toNat]?)=fun k=>xs[0+k]?:=by
  funext k;rw[(show(0+(k:Int)*1).toNat=0+k by lia)]
 refine J e ?_;have:=pick_run xs 0 b;rw[List.filterMap_map] at this;refine J this ?_;rfl
section
variable{A:TL}{E:Value→RT→Prop}{s:RT}
theorem kE{b n:Nat}{u}{Q}(hs:s.heap.IsSliceOf sl .none (.int b u) .none)(hb:b≤n)(h:Q (0,1,b) s):
  wpAny (model prog w) A (Builtin.Slice.sliceApplied (.ref sl) (pure n)) Q E s:=by
 obtain⟨os,sF,xC,C7⟩:=id hs;refine Rh (Rh (Zh sF C7 (x:= .none) rfl (bF sF C7 (x:= .int b u) rfl (bF sF C7 (x:= .none) rfl (Rj ?_)))));refine Rh (slicePart_none ?_);refine J (if_neg dc) (Rh (slicePart_none (Rh (slicePart_int (bP ?_)))));refine J (v7 b n hb) ?_;show wpAny _ _ (pure (0,1,XD 0 b 1)) _ _ s;exact J (v8 b) ((Rj h))
theorem jH{items}{b:Nat}{u}{Q}(ht:IsTup s.heap t items)(hs:s.heap.IsSliceOf sl .none (.int b u) .none)(hb:b<items.size)
  (h:Q (.ref s.heap.objs.size) {s with heap:=s.heap.push {cls:= .type "tuple",data:= .seq (items.toList.take b).toArray}})
  (hsz:items.size≤Rs):wpAny (model prog w) A (Vx (.ref t) (.ref sl)) Q E s:=by
 have uJ:sizeOk (.seq (items.toList.take b).toArray):=by
  show(items.toList.take b).toArray.size≤Rs;refine J RI (J VU (J Ut ?_));lia
 obtain⟨os,sF,xC,C7⟩:=id hs
 delta Vx
 try with_reducible refine wpAny_holding ?_
 first|refine bP ?_|skip
 refine Rh (wpAny_sequenceKey ht.typeIs dc ?_);refine Rh (Sa ht.typeIs SA
  (wpAny_call_entry SA ht.typeIs entry_tuple_getitem ?_ (args_tuple_getitem _ _)))
 show wpAny _ _ (Builtin.Tuple.tupleItemsOf (.ref t)>>=_) _ _ s;refine Rh (tupleItemsOf_ ht ?_);refine bT (⟨os,sF,xC⟩) (J (if_pos dc) ?_);refine Rh (kE hs (TC hb) ?_);have xD:¬(((0:Int)==0&&(1:Int)==1&&b==items.size)=true):=by
  have:(b==items.size)=false:=by rw[beq_eq_false_iff_ne];exact F1 hb
  refine J this ?_;decide
 show wpAny _ _ (if(0==0&&1==1&&b==items.size)=true then _ else _) _ _ s;refine J (if_neg xD) (J (Br items b) ?_)
 first
  |exact Rh (Sz (Rj ⟨_,rfl,Rj h⟩) uJ)
  |exact Rh (Sz (bP (Rj ⟨_,rfl,Rj h⟩)) uJ)
  |exact Rh (Rh (Sz (Rj (Rj ⟨_,rfl,Rj h⟩)) uJ))
  |exact Rh (Rh (Sz (Rj ⟨_,rfl,Rj h⟩) uJ))
end
section
variable{n:Nat}{F:Fx}{ρ:Loc}{H H1 H2:AH}
theorem GT.Df{b:Nat}(hb:b<l.length):GT n (.tup l) none (some b) none H (.tup (l.take b)) H:=by
 refine .mk fun A s W o a vl vu vs R S r hs pl pu ps Q q=> ?_;obtain⟨a',us,m,rfl,im,r,hz⟩:=r;have hlen:=r.length;cases pl;cases ps;cases pu;refine jH ⟨_,S.cr _ _ im,rfl,m,rfl⟩ hs (by refine J RI (J hlen ?_);exact hb) ?_ (J RI (J hlen ((hz))));obtain⟨S2,G2⟩:=S.put (o:=sq "tuple" (us.take b) 0) rfl;exact q _ _ _ G2 S2 ⟨_,_,0,rfl,Wd.al ..,(r.take b).mono G2.le,by refine J VU ?_;lia⟩
end
section
variable{n:Nat}{F:Fx}{ρ:Loc}{H H1 H2:AH}
noncomputable def Wd.nr(W:Wd)(a b:Ud):Wd:=⟨W.φ++[a,b],W.I,W.C⟩
theorem Wd.Bs(W:Wd)(a b:Ud):W.le (W.nr a b):=⟨aac _ _,fun _ _ h=>h,fun _ _ h=>h⟩
theorem ao.EZ(S:ao W H s)(ha:jD W a)(hb:jD W b)(nO:a≠b)(pa:s.heap.get? a≠none)(pb:s.heap.get? b≠none)
  (xa:OA (W.nr a b) s.heap a oa) (xb:OA (W.nr a b) s.heap b ob):
  ao (W.nr a b) (H++[some oa,some ob]) s∧Gr (fun x=>x=a∨x=b) W s (W.nr a b) s:=by
 have l:=W.Bs a b;refine⟨⟨S.cr,S.gr, ?_, ?_,fun x m=> ?_,fun i o e=> ?_,S.bare,S.tk,S.col⟩,⟨l,fun x m=> ?_,fun x p e=> .inl e,fun x p e _ _=>e,fun x h _=>h,rfl,fun _ _ h=>h⟩⟩
 ·refine TY.mpr ⟨S.nodup,by simp[nO],fun x hx y hy e=> ?_⟩;subst e;rcases Rt.mp hy with rfl|hy
  ·exact ha.1 hx
  ·rw[Rr.mp hy] at hx;exact hb.1 hx
 ·simp[Wd.nr,S.len]
 ·rcases RE.mp m with m|m
  ·exact S.lt x m
  ·rcases Rt.mp m with rfl|m
   ·exact pa
   ·exact(Rr.mp m)▸pb
 ·by_cases hi:i<H.length
  ·replace e:=(R8 hi)▸e;obtain⟨x,p,q,r⟩:=S.live i o e;exact⟨x,Wd.eO l p,q,eY l r⟩
  ·replace e:=(RL (Nat.le_of_not_lt hi))▸e;have hlen:=S.len
   match hj:i-H.length with
   |0=>
    rw[hj] at e;simp at e;subst e;refine⟨a, ?_,ha.2,xa⟩;refine J (RL (ap (bD hlen) (AU hi))) (J (show i-W.φ.length=0 by lia) ?_);rfl
   |1=>
    rw[hj] at e;simp at e;subst e;refine⟨b, ?_,hb.2,xb⟩;refine J (RL (ap (bD hlen) (AU hi))) (J (show i-W.φ.length=1 by lia) ?_);rfl
   |k+2=>rw[hj] at e;simp at e
 ·rcases RE.mp m with m|m
  ·exact .inl m
  ·rcases Rt.mp m with rfl|m
   ·exact .inr (.inr (.inl rfl))
   ·exact .inr (.inr (.inr (Rr.mp m)))
theorem yE(R:aC A (n+1)):aC (A.under (.builtin "type.__call__" ⟨.ref C::rest,kw⟩)) n:=by
 have h2:(Zz "type.__call__" ⟨.ref C::rest,kw⟩).weight≤1:=by
  exact bD rfl
 have h3:(Zz "type.__call__" ⟨.ref C::rest,kw⟩).cUnits≤12:=by
  exact ap (bD (show(Zz "type.__call__" ⟨.ref C::rest,kw⟩).cUnits=1 from rfl)) dc
 refine⟨rfl.trans R.1, ?_, ?_⟩
 ·exact elt (io (F0 h2)) R.2
 ·exact elt (io (JG (F0 (F0 h3)))) R.3
theorem CT.make{K}{C fI}{xs}{ks}(hK:∀h,(∀a o,br a=some o→h.get? a=some o)→K.In h)(hm:makesIn K C=true)(hi:TQ K (.ref C) "__init__"=some (some (.ref fI)))(hf:typeIn K (.ref fI)=some (.type "function"))
  (h:CC n (.st (.ref fI)) (.ref H.length::xs) ks (H++[some (.inst C (H.length+1)),some (.ns [])]) .none H1):CT (n+1) (.st (.ref C)) xs ks H (.ref H.length) H1:= .mk fun A s W fv vs kv R S rf rx c8 sm Q q=>by
 cases rf;refine Vk ?_;have X:=hK s.heap S.ground;obtain⟨hh,g,d,t,os⟩:=s;refine make_core (makes_of X hm) (looks_findIn X hi) (fun self=>bind_fn X self hf) (.inl rfl) ?_;have S1:=S.cn VS;have hs:(hh.push VS).objs.size=hh.objs.size+1:=Se ..;have fx:=S1.fresh (af (hh.push VS));have hx:((hh.push VS).push (YY C hh.objs.size)).get? (hh.objs.size+1)=some (YY C hh.objs.size):=hs▸Rx _ rfl;have hd:((hh.push VS).push (YY C hh.objs.size)).get? hh.objs.size=some VS:=Rp _ (Rx _ rfl);rw[hs] at fx;obtain⟨S3,G3⟩:=ao.EZ (s:=⟨(hh.push VS).push (YY C hh.objs.size),g,d,t,os⟩) (oa:= .inst C (H.length+1)) (ob:= .ns []) (ao.cn S1 (YY C hh.objs.size)) fx (S.fresh (af hh)) (VZ _) (J hx nofun) (hd▸nofun)
  ⟨hh.objs.size,by refine aQ S.len ?_;simp[Wd.nr],hx⟩ ⟨fun _=>none,VN.Ns1.of_empty ⟨_,_,_,hd,rfl,(by intro e he;simp at he),fun _=>rfl⟩,fun x=>⟨fun _=>rfl,fun y hy=>by cases hy⟩⟩
 have Dg:Rel (W.nr (hh.objs.size+1) hh.objs.size) (.ref H.length) (.ref (hh.objs.size+1)):=⟨_,rfl,by refine aQ S.len ?_;simp[Wd.nr]⟩;have Bj:=((Gr.cn W ⟨hh,g,d,t,os⟩ VS).trans (Gr.cn (X:=ct) W ⟨hh.push VS,g,d,t,os⟩ (YY C hh.objs.size))).base G3 fun x e h=>by
  rcases e with rfl|rfl
  ·exact absurd (S9 (TP _)) h
  ·exact absurd (af hh) h
 refine UB (h.run (A.under (.builtin "type.__call__" ⟨.ref C::vs,kv⟩)) _ _ (.ref fI) (.ref (hh.objs.size+1)::vs) kv (yE R) S3 rfl ⟨_,_,rfl,Dg,rx.mono G3.le⟩ c8 (sm.mono G3.le) (fun v s'=>v= .none∧∃W',Gr ct (W.nr (hh.objs.size+1) hh.objs.size) ⟨(hh.push VS).push (YY C hh.objs.size),g,d,t,os⟩ W' s'∧ao W' H1 s') (fun v s' W' G' S' r'=>⟨r',W',G',S'⟩)) fun r s' z=> ?_;rcases r with e|(v|_|_|_)<;>first|exact z.elim|skip
 obtain⟨rfl,W',G',S'⟩:=z;exact⟨rfl,q _ s' W' (Bj.trans G') S' (Dg.mono G'.le)⟩
end
set_option maxHeartbeats 3200000
section
variable{A:TL}{E:Value→RT→Prop}{s:RT}
theorem Bt(hh:A.handled=none)(hS:s.heap.SetOf (strKind prog w) S (fun _=>false) 0)(hI:s.heap.IsListIter I l 0)(hl:s.heap.get? l=some (sq "list" [.str x t] m))(L0:S≠I)(Pz:S≠l)(PA:I≠l)
  (h:∀h' tk,(∀b o,b≠S→b≠I→s.heap.get? b=some o→h'.get? b=some o)→s.toks≤tk→h'.SetOf (strKind prog w) S (fun k=>decide (k∈[x])) 1→R (.ok (.ret .none)) {s with heap:=h',toks:=tk}):
  Tt (model prog w) A (.builtin "set.update.loop" ⟨[.ref S, .ref I],[]⟩) R s:=by
 refine SW Wt ?_;refine J (Ss UH _) ?_;refine Rh (Xk hI ⟨_,hl,rfl,m,rfl⟩ rfl fun h1 Dh Bh=> ?_);have PB:h1.SetOf (strKind prog w) S (fun _=>false) 0:=by
  obtain⟨o,es,ep,tb,ho,r⟩:=hS;exact⟨o,es,ep,tb,(Bh.2 S L0).trans ho,r⟩
 have m9:=(Bh.2 l (SK PA)).trans hl;refine Rh (wpAny_holding ?_)
 delta setAdd
 refine wpAny_holding (Rh ((strKind prog w).pyHash (UF prog w x t) ?_));refine wpAny_setAddHashed_of (s:={s with heap:=h1,toks:=s.toks+1}) (UF prog w x t) rfl PB dc fun h2 yi PC=> ?_;have L1:h2.SetOf (strKind prog w) S (fun k=>decide (k∈[x])) 1:=PyProof.Rows.SetOf_congr PC (fun k=>by simp) rfl;refine Rj ⟨Uj UH _,SW Wt ?_⟩;refine J (Ss UH _) ?_;have AG:h2.IsListIter I l 1:=by
  obtain⟨o,ho,r⟩:=Dh;exact⟨o,(yi.2 I (SK L0)).trans ho,r⟩
 refine Rh (XB hh AG ⟨_,(yi.2 l (SK Pz)).trans m9,rfl,m,rfl⟩ rfl fun h3 hx=> ?_);refine Rj (h h3 _ (fun b o hb C8 e=>hx b o C8 ((yi.2 b hb).trans ((Bh.2 b C8).trans e))) (TP _) ?_);obtain⟨o,es,ep,tb,ho,r⟩:=L1;exact⟨o,es,ep,tb,hx S o L0 ho,r⟩
noncomputable def Bu(led:Bool):Obj:={cls:= .type "set",data:= .set #[] 0 (.fresh 0 0 led)}
noncomputable def L2(s:RT)(x:RN)(r:Value)(s':RT):Prop:=r= .none∧∃h' tk,s'={s with heap:=h',toks:=tk}∧s.toks≤tk∧h'.SetOf (strKind prog w) s.heap.objs.size (fun k=>decide (k∈[x])) 1∧∀b o,b<s.heap.objs.size→s.heap.get? b=some o→h'.get? b=some o
theorem oM{l:Ud}{x:RN}{t:Tok}{m:Nat}{Q:Value→RT→Prop}
  (hh:A.handled=none) (hl:s.heap.get? l=some (Internal.sq "list" [.str x t] m))
  (h:∀(h':VN)(tk:Nat),h'.SetOf (strKind prog w) s.heap.objs.size (fun k=>decide (k∈[x])) 1→s.toks≤tk→
   (∀b o,b<s.heap.objs.size→s.heap.get? b=some o→h'.get? b=some o)→Q (.ref s.heap.objs.size) {s with heap:=h',toks:=tk}):
  wpAny (model prog w) A (call (.type "set") [.ref l]) Q E s:=by
 obtain⟨c,tl,PE⟩:=F.called_set.mro;have NN:=F.called_set.made;have fY:=F.called_set.sub;refine Vk (SD ?_);show wpAny _ _ (callAny (.type "set") _) _ _ _;refine Rj ⟨XI _ (by decide+kernel),SW F.entry_type_call ?_⟩;rw[TL.under_plain (weight_type_call_type "set" [.ref l] []) rfl];have h1:=F.called_set.notType;have h2:=F.called_set.canCreate;have Q7:=F.typeCall_set_1 (.ref l)
 repeat (any_goals (first|assumption|wp_step))
 refine UB (code_set_new_1 (.ref l) (E:=E) (Q₁:=fun obj ci=>∃led:Bool,obj= .ref s.heap.objs.size∧ci={s with heap:=s.heap.push (Bu led)}) fun led=>⟨led,rfl,rfl⟩) fun r ci hr=> ?_;cases r with
 |error e=>exact hr
 |ok fl=>
  cases fl with
  |ret obj=>
   obtain⟨led,rfl,rfl⟩:=hr;have hS:(s.heap.push (Bu led)).get? s.heap.objs.size=some (Bu led):=Rx _ rfl;have hT:RT.TypeIs {s with heap:=s.heap.push (Bu led)} (.ref s.heap.objs.size) "set":=⟨_,hS,rfl⟩;have Q8:=F.called_set.init.lookup;have C8:=F.called_set.init.bind (.ref s.heap.objs.size)
   repeat (any_goals (first|assumption|wp_step))
   refine UB (aaV (R:=wants (L2 s x) E) F.called_set.init.plain F.entry_set_init (check_set_init_1 hT ?_)) fun L3 fZ yF=> ?_
   ·have HK:(s.heap.push (Bu led)).get? l=some {cls:= .type "list",dict:=none,data:= .seq (Tz [.str x t]) m,slots:=#[]}:=Rp _ hl;have PF:=F.sub_list_set;have PG:=F.sub_list_frozenset;have aV:(WL "list"==WL "dict")=false:=dc;have m9:(s.heap.push (Bu led)).IsList l (Tz [.str x t]):=⟨_,HK,rfl,m,rfl⟩;unfold Builtin.«set.__init__» noKeywords aaS;generalize PH:Wn=PI
    wp_walk
    subst PH;refine WM m9 ?_;refine Rh (ZD ?_);have NO:=RV hl;have J6:A.in1.in1.in1.handled=none:=by rw[hh]
    have hsz:(s.heap.push (Bu led)).objs.size=s.heap.objs.size+1:=Se ..;refine Internal.Bt (l:=l) (x:=x) (t:=t) (m:=m) J6 ?E0 ⟨_,Rx _ rfl,rfl,rfl⟩ (Rp _ HK) (by refine J hsz ?_;exact Te (V0 _)) (Tq NO) (by rw[hsz];exact Tq (VH NO)) ?hR
    case E0=>
     have Bv:((s.heap.push (Bu led)).push {cls:= .type "list_iterator",data:= .fields #[.ref l, .int 0 0]}).get? s.heap.objs.size
       =some (Bu led):=Rp _ hS
     exact(PyProof.Rows.setObjOf_fresh (knd:=strKind prog w) led).setOf Bv (by delta X7;decide)
    case hR=>
     intro h' L4 hk lV Gb;show wpAny _ _ _ _ _ _;refine Rj ?_;show wpAny _ _ (ret TJ) _ _ _;refine Rj ⟨rfl,h',L4,rfl,lV,Gb,fun b o hb e=> ?_⟩;exact hk b o (Te hb) (by rw[hsz];exact Te (VH hb)) (Rp _ (Rp _ e))
   ·cases L3 with
    |error e=>exact yF
    |ok HL=>
     cases HL with
     |ret r=>
      obtain⟨rfl,h',tk,rfl,lV,Gb,A2⟩:=yF
      repeat (any_goals (first|assumption|wp_step))
      exact h _ _ Gb lV A2
     |_=>exact yF.elim
  |_=>exact hr.elim
end
section
variable{n:Nat}{F:Fx}{ρ:Loc}{H H1 H2:AH}
theorem CT.E1{x:RN}:CT n (.st (.type "set")) [.lst [.str x]] [] H (.ref H.length) (H++[some (.sset [x])]):= .mk fun A s W fv vs kv R S rf rx c8 _ Q q=>by
 cases rf;have:kv=[]:=by simpa using c8
 subst this;obtain⟨v,rfl,a,us,m,rfl,hI,r,_⟩:=rx.one;obtain⟨_,rfl,t,rfl,_⟩:=r.one;refine oM R.handled (S.cr _ _ hI) fun h' tk hS lV hk=> ?_;obtain⟨S2,G2⟩:=S.new (s':={s with heap:=h',toks:=tk}) (ob:= .sset [x]) (fun b o e=>hk b o (RV e) e) (by obtain⟨o,_,_,_,ho,_⟩:=hS;show h'.get? _≠none;rw[ho];exact nofun) rfl rfl lV ⟨1,hS,Ri _⟩;exact q _ _ _ G2 S2 ⟨_,rfl,by rw[←S.len];simp[Wd.new]⟩
end
section
variable{n:Nat}{F:Fx}{ρ:Loc}{H H1 H2:AH}
theorem ET.Di(hm:∃o,br TA=some o){k v}{pos}{x}{y}(hk:ET n F k ρ H (.str x) H1)(hv:ET n F v ρ H1 y H2):ET n F (.Dict [some k] [v] pos) ρ H (.bx [(x,y)]) H2:=by
 refine .mk fun A s W env R S E f Q q=>(wpAny_Dict_pairs (knd:=strKind prog w) (pairs:=[(eval k env,do let x ←eval v env;standAt pos;pure x)]) rfl (To _ _) (SO _) ?_);have S1:=S.cn (dq [] 0);have G1:=Gr.cn (X:=ct) W s (dq [] 0);have fD:=S.fresh (af s.heap);have AF:=af s.heap;have hD:(s.heap.push (dq [] 0)).get? s.heap.objs.size=some (dq [] 0):=Rx _ rfl;generalize s.heap.objs.size=D at fD AF hD⊢;show wpAny (model prog w) A (evalPairs _) _ aY {s with heap:=s.heap.push (dq [] 0)};have hD:({s with heap:=s.heap.push (dq [] 0)}:RT).heap.get? D=some (dq [] 0):=hD;generalize ({s with heap:=s.heap.push (dq [] 0)}:RT)=s1 at S1 G1 hD⊢;refine evalPairs_cons (hk.run A s1 W env R S1 E (f.step G1) _ fun kv s2 W2 G2 S2 r2=>Rh (hv.run A s2 W2 env R S2 E ((f.step G1).step G2) _ fun vv s3 W3 G3 S3 r3=>bA (Rj (evalPairs_nil ?_))));have f3:=am (G2.trans G3) (hD▸nofun) fD id;refine⟨[(x,vv)],⟨Rel.isKey (r2.mono G3.le),rfl,trivial⟩, ?_,fun h' hd hs=> ?_⟩
 ·obtain⟨bd,PJ,L5⟩:=dictOf (W:=W3) (l:=[]) (G3.heap _ _ (G2.heap _ _ hD fD.1 id) (am G2 (hD▸nofun) fD id).1 id) rfl Tl;cases L5;exact PJ.dictOf
 ·refine Rg fun kG=> ?_;obtain⟨es,m,ho,rd,nd⟩:=lI (l:=[(x,y)]) hd ⟨vv,[],rfl,r3,rfl⟩;obtain⟨S4,G4⟩:=S3.but (s':={s3 with heap:=h',toks:=s3.toks+1}) (fun b o hb e=>(hs.2 b hb).trans e) (fun b y=>by cases y;exact f3) rfl rfl (TP _);obtain⟨S5,G5,l5⟩:=S4.adopt f3 ho;exact kG (q _ _ _ (((((G1.trans G2).trans G3).base G4 fun b e h=>by subst e;exact absurd AF h).base G5 fun b e h=>by subst e;exact absurd AF h)) S5 ⟨D,es,m,rfl,Wd.al ..,rd.mono l5,nd,by refine J R2 ?_;simp,oB hm S4 f3.2⟩)
end
noncomputable abbrev KK:Frag:=K0 w.params
noncomputable def fdOf(a:Ud):abb:=match(KK).lookup a with
 |some o=>(match o.data with| .func fd=>fd|_=>default)
 |none=>default
noncomputable def bodyOf(a:Ud):List Vy:=match(fdOf a).body with
 | .stmts b=>b
 |_=>[]
noncomputable def ay(a:Ud):Fx:=⟨(fdOf a).scope.names,(fdOf a).code,true,some ((fdOf a).qualname++".<locals>.")⟩
noncomputable def HM(a:Ud):Obj:=((KK).lookup a).getD default
structure Base:Prop where
 uz:∀a o,(KK).lookup a=some o→br a=some o
 r8:JP
 mods:∃o,br TA=some o
 bm:∀h:VN,(∀a o,br a=some o→h.get? a=some o)→h.BuiltinsAt mg 123
theorem Base.In(B:Base) h(k:∀a o,br a=some o→h.get? a=some o):(KK).In h:=fun a o e=>k a o (B.uz a o e)
noncomputable def NP(fd:abb):Bool:=codeIn (KK) fd.code fd.qualname&&(fd.closure.isEmpty&&(!fd.scope.isCoroutine&&(!fd.scope.isGenerator&&(decide (fd.scope.kind= .function)&&(decide (fd.globals=mainGlobals)&&decide (fd.builtins=builtinsNs))))))
theorem Base.lZ(B:Base) a(ho:(KK).lookup a=some (HM a))(hd:(HM a).data= .func (fdOf a))(h:autoParam (NP (fdOf a)=true) aK):Fn a (fdOf a):=by
 simp only[NP,RA,aaH,VC,decide_eq_true_eq] at h;exact⟨⟨_,B.uz a _ ho,hd⟩,fun _ k=>codeRec_of (B.In _ k) h.1,h.2.1,h.2.2.1,h.2.2.2.1,h.2.2.2.2.1,h.2.2.2.2.2.1,h.2.2.2.2.2.2⟩
section
variable{fd:abb}
theorem Binds.b1(B:Base){a}{x}(e:∀S v,WA (KK) S (SV fd ⟨[v],[]⟩)=some [(a,v)]):Binds fd [x] [] [(a,x)]:=fun h W vs kv k r rn=>by
 cases rn;obtain⟨v,rfl,rv⟩:=r.one;exact⟨_,UO (B.In h k) (e _ v),v,[],rfl,rv,rfl⟩
theorem Binds.b2(B:Base){a b}{x y}(e:∀S(v u:Value),WA (KK) S (SV fd ⟨[v,u],[]⟩)=some [(a,v),(b,u)]):Binds fd [x,y] [] [(a,x),(b,y)]:=fun h W vs kv k r rn=>by
 cases rn;obtain⟨v,u,rfl,rv,ru⟩:=r.two;exact⟨_,UO (B.In h k) (e _ v u),v,_,rfl,rv,u,_,rfl,ru,rfl⟩
theorem Binds.b3(B:Base){a b c}{x y z}(e:∀S(v u t:Value),WA (KK) S (SV fd ⟨[v,u,t],[]⟩)=some [(a,v),(b,u),(c,t)]):Binds fd [x,y,z] [] [(a,x),(b,y),(c,z)]:=fun h W vs kv k r rn=>by
 cases rn;obtain⟨v,u,t,rfl,rv,ru,rt⟩:=r.three;exact⟨_,UO (B.In h k) (e _ v u t),v,_,rfl,rv,u,_,rfl,ru,t,_,rfl,rt,rfl⟩
end
theorem CT.fn{g}{an}{a}{xs}{ks bs}(B:Base)(F:Fn a (fdOf a))
  (hB:Binds (fdOf a) xs ks bs) (hn:(bs.map (·.1)).Nodup) (hk:((bs.map (·.1)).all fun x=>((fdOf a).scope.names.lookup x==some .local||(fdOf a).scope.names.lookup x==some .cell))=true)
  (h:ag n (ay a) (bodyOf a) bs H g an H1) (hb:autoParam ((fdOf a).body= .stmts (bodyOf a)) aK):CT (n+1) (.st (.ref a)) xs ks H g.out H1:=
 CT.def F B.r8.nolimit hb hB hn (fun x hx=>by simpa using(SE.mp hk x hx)) h
theorem L6(B:Base):Fn 67 (fdOf 67):=B.lZ 67 rfl rfl
theorem L7:(fdOf 67).body= .stmts (bodyOf 67):=rfl
theorem E2(B:Base):Fn 90 (fdOf 90):=B.lZ 90 rfl rfl
theorem L8:(fdOf 90).body= .stmts (bodyOf 90):=rfl
theorem L9 S(v u:Value):WA (KK) S (SV (fdOf 90) ⟨[v,u],[]⟩)=some [(("self":RN),v),("qname",u),("uri", .none)]:=rfl
theorem HN(B:Base):Fn 97 (fdOf 97):=B.lZ 97 rfl rfl
theorem Ma S(v u:Value):WA (KK) S (SV (fdOf 97) ⟨[v,u],[]⟩)=some [(("self":RN),v),("data",u)]:=rfl
theorem Dj(B:Base):Fn 106 (fdOf 106):=B.lZ 106 rfl rfl
theorem HO S v:WA (KK) S (SV (fdOf 106) ⟨[v],[]⟩)=some [(("self":RN),v),("_join_text", .ref 98)]:=rfl
theorem yG(B:Base):Fn 120 (fdOf 120):=B.lZ 120 rfl rfl
theorem Dk S(v u t:Value):WA (KK) S (SV (fdOf 120) ⟨[v,u,t],[]⟩)=some [(("self":RN),v),("tag",u),("attrs",t)]:=rfl
theorem Dl(B:Base):Fn 126 (fdOf 126):=B.lZ 126 rfl rfl
theorem HP S(v u t q:Value):WA (KK) S (SV (fdOf 126) ⟨[v,u,t,q],[]⟩)=some [(("self":RN),v),("tag",u),("attrs",t),("new_namespaces",q),("qname_text", .none)]:=rfl
theorem uK(B:Base):Fn 133 (fdOf 133):=B.lZ 133 rfl rfl
theorem Dm S(v u:Value):WA (KK) S (SV (fdOf 133) ⟨[v,u],[]⟩)=some [(("self":RN),v),("tag",u)]:=rfl
theorem Dn(B:Base):Fn 161 (fdOf 161):=B.lZ 161 rfl rfl
theorem HQ S v:WA (KK) S (SV (fdOf 161) ⟨[v],[]⟩)=some [(("text":RN),v)]:=rfl
theorem Dp(B:Base):Fn 168 (fdOf 168):=B.lZ 168 rfl rfl
theorem HR S v:WA (KK) S (SV (fdOf 168) ⟨[v],[]⟩)=some [(("text":RN),v)]:=rfl
theorem yH(B:Base):Fn 175 (fdOf 175):=B.lZ 175 rfl rfl
theorem HS S v:WA (KK) S (SV (fdOf 175) ⟨[v],[]⟩)=some [(("func_name":RN),v)]:=rfl
theorem Dq(B:Base):Fn 182 (fdOf 182):=B.lZ 182 rfl rfl
theorem HT S(v u:Value):WA (KK) S (SV (fdOf 182) ⟨[v,u],[]⟩)=some [(("target":RN),v),("source",u)]:=rfl
theorem Dr(B:Base):Fn 189 (fdOf 189):=B.lZ 189 rfl rfl
theorem HU S(v u:Value):WA (KK) S (SV (fdOf 189) ⟨[v,u],[]⟩)=some [(("target":RN),v),("source",u)]:=rfl
theorem Ds(B:Base):Fn 196 (fdOf 196):=B.lZ 196 rfl rfl
theorem HV S v:WA (KK) S (SV (fdOf 196) ⟨[v],[]⟩)=some [(("callers":RN),v)]:=rfl
theorem Dt(B:Base):Fn 203 (fdOf 203):=B.lZ 203 rfl rfl
theorem HW S v:WA (KK) S (SV (fdOf 203) ⟨[v],[]⟩)=some [(("d":RN),v)]:=rfl
theorem Du(B:Base):Fn 208 (fdOf 208):=B.lZ 208 rfl rfl
theorem HX S(v u t:Value):WA (KK) S (SV (fdOf 208) ⟨[v,u,t],[]⟩)=some [(("deeds":RN),v),("functions",u),("target",t)]:=rfl
theorem uL(B:Base):Fn 213 (fdOf 213):=B.lZ 213 rfl rfl
theorem Dv S(v u:Value):WA (KK) S (SV (fdOf 213) ⟨[v,u],[]⟩)=some [(("text":RN),v),("references",u)]:=rfl
theorem Dw(B:Base):Fn 220 (fdOf 220):=B.lZ 220 rfl rfl
theorem HY S v:WA (KK) S (SV (fdOf 220) ⟨[v],[]⟩)=some [(("text":RN),v)]:=rfl
theorem Dx(B:Base):Fn 227 (fdOf 227):=B.lZ 227 rfl rfl
theorem HZ S v:WA (KK) S (SV (fdOf 227) ⟨[v],[]⟩)=some [(("text":RN),v)]:=rfl
theorem Dy(B:Base):Fn 232 (fdOf 232):=B.lZ 232 rfl rfl
theorem H7 S v:WA (KK) S (SV (fdOf 232) ⟨[v],[]⟩)=some [(("text":RN),v)]:=rfl
theorem Dz(B:Base):Fn 237 (fdOf 237):=B.lZ 237 rfl rfl
theorem H8 S(v u:Value):WA (KK) S (SV (fdOf 237) ⟨[v,u],[]⟩)=some [(("rows":RN),v),("plain",u)]:=rfl
theorem yI(B:Base):Fn 242 (fdOf 242):=B.lZ 242 rfl rfl
theorem H9 S v:WA (KK) S (SV (fdOf 242) ⟨[v],[]⟩)=some [(("row":RN),v)]:=rfl
theorem DA(B:Base):Fn 247 (fdOf 247):=B.lZ 247 rfl rfl
theorem Ia S(v u t:Value):WA (KK) S (SV (fdOf 247) ⟨[v,u,t],[]⟩)=some [(("calls":RN),v),("ticks",u),("plain",t)]:=rfl
theorem Ib(B:Base):Fn 252 (fdOf 252):=B.lZ 252 rfl rfl
theorem Ic:(fdOf 252).body= .stmts (bodyOf 252):=rfl
theorem Ie S v:WA (KK) S (SV (fdOf 252) ⟨[v],[]⟩)=some [(("script":RN),v)]:=rfl
theorem iu:Ww (KK) mainGlobals "C14NWriterTarget"=some (some (.ref 150)):=rfl
theorem gx:Ww (KK) mainGlobals "_escape_cdata_c14n"=some (some (.ref 161)):=rfl
theorem gb:Ww (KK) mainGlobals "_escape_attrib_c14n"=some (some (.ref 168)):=rfl
theorem eR:Ww (KK) mainGlobals "func_std_string"=some (some (.ref 175)):=rfl
theorem jg:Ww (KK) mainGlobals "add_func_stats"=some (some (.ref 182)):=rfl
theorem l7:Ww (KK) mainGlobals "add_callers"=some (some (.ref 189)):=rfl
theorem l8:Ww (KK) mainGlobals "count_calls"=some (some (.ref 196)):=rfl
theorem jI:Ww (KK) mainGlobals "_law_function"=some (some (.ref 203)):=rfl
theorem qv:Ww (KK) mainGlobals "_law_run"=some (some (.ref 208)):=rfl
theorem iB:Ww (KK) mainGlobals "_law_plain"=some (some (.ref 213)):=rfl
theorem nt:Ww (KK) mainGlobals "_law_value"=some (some (.ref 220)):=rfl
theorem oN:Ww (KK) mainGlobals "_law_text"=some (some (.ref 227)):=rfl
theorem oO:Ww (KK) mainGlobals "_law_read"=some (some (.ref 232)):=rfl
theorem kF:Ww (KK) mainGlobals "_law_profile"=some (some (.ref 237)):=rfl
theorem gL:Ww (KK) mainGlobals "_law_firsts"=some (some (.ref 242)):=rfl
theorem qw:Ww (KK) mainGlobals "_law_due"=some (some (.ref 247)):=rfl
theorem jJ:Ww (KK) mainGlobals "len"=some none:=rfl
theorem yJ:Ww (KK) mainGlobals "sum"=some none:=rfl
theorem jK:Ww (KK) mainGlobals "sorted"=some none:=rfl
theorem jh:Ww (KK) mainGlobals "enumerate"=some none:=rfl
theorem yK:Ww (KK) mainGlobals "zip"=some none:=rfl
theorem uM:Ww (KK) mainGlobals "list"=some none:=rfl
theorem ma:Ww (KK) mainGlobals "tuple"=some none:=rfl
theorem yL:Ww (KK) mainGlobals "set"=some none:=rfl
theorem iC:Ww (KK) mainGlobals "isinstance"=some none:=rfl
section
variable{n:Nat}{F:Fx}{ρ:Loc}{H:AH}
theorem nR(B:Base){h:VN}(k:∀a o,br a=some o→h.get? a=some o){x}{v}(e:Ww (KK) mainGlobals x=some (some v)):mg x=some v:=by
 obtain⟨o,es,ep,ho,hd,hk,hm⟩:=B.r8.g h k;refine aQ (hm x) ?_
 delta Ww at e
 cases hK:(KK).lookup mainGlobals with
 |none=>rw[hK] at e;cases e
 |some ob=>
  rw[hK] at e;cases ho.symm.trans (B.In h k _ _ hK);obtain⟨cl,dd,dt,sl⟩:=o;cases hd
  delta nsFind findBy
  refine aQ Z2 ?_;have e:(match es.toList.find? (·.key.isStr x) with|some e=>some (some e.val)|none=>if es.toList.any (·.refKey) then none else some none)=some (some v):=e;cases he:es.toList.find? (·.key.isStr x) with
  |some en=>rw[he] at e;cases e;rfl
  |none=>rw[he] at e;revert e;refine bn (fun _ e=> ?_) (fun _ e=> ?_)<;>cases e
theorem v9(B:Base){h:VN}(k:∀a o,br a=some o→h.get? a=some o){x}(e:Ww (KK) mainGlobals x=some none):mg x=none:=ns_none_of (B.In h k) (B.r8.g h k) e
theorem ET.globK(B:Base){x}{pos}{v}(e:Ww (KK) mainGlobals x=some (some v))(hk:autoParam (F.names.lookup x=some .globalImplicit) aK)(hd:autoParam ((x=="__debug__")=false) aE):ET n F (.Name x pos) ρ H (.st v) H:=
 .mk fun A s W env R S E f Q q=>(ET.glob B.r8 (nR B S.ground e) hk hd).run A s W env R S E f Q q
theorem ET.az(B:Base){x}{pos}{v}(e:Ww (KK) mainGlobals x=some RB)(hv:T4 x=some v)(hk:autoParam (F.names.lookup x=some .globalImplicit) aK)(hd:autoParam ((x=="__debug__")=false) aE)(hx:autoParam (x≠"__name__") aE):ET n F (.Name x pos) ρ H (.st v) H:=
 .mk fun A s W env R S E f Q q=>(ET.builtin B.r8 (v9 B S.ground e) hv hk hd hx).run A s W env R S E f Q q
noncomputable def av(l:List Vy)(i:Nat):Vy:=l.getD i default
noncomputable def gM(x:Vy):Tk:=by
 cases x with
 |For t=>exact t
 |While t=>exact t
 |If t=>exact t
 |Return o=>exact o.getD default
 |Assign _ e=>exact e
 |Expr e=>exact e
 |_=>exact default
noncomputable def uN(x:Vy):List Vy:=by
 cases x with
 |For _ _ b _ _=>exact b
 |While _ b _ _=>exact b
 |If _ a _ _=>exact a
 |_=>exact default
noncomputable def DB(x:Vy):List Vy:=by
 cases x with
 |If _ _ b _=>exact b
 |_=>exact default
noncomputable def Ig(x:Tk):List Tk:=by
 cases x with
 |Call _ as _ _=>exact as
 |Tuple as _ _=>exact as
 |List as _=>exact as
 |BoolOp _ es _=>exact es
 |ListComp _ gs _ _=>exact gs.map (·.iter)
 |GeneratorExp _ gs _ _=>exact gs.map (·.iter)
 |DictComp _ _ gs _ _=>exact gs.map (·.iter)
 |_=>exact []
noncomputable def nu(x:Tk):Tk:=by
 cases x with
 |Call f _ _ _=>exact f
 |Compare l _ _ _=>exact l
 |Subscript v _ _=>exact v
 |BinOp l _ _ _=>exact l
 |IfExp t _ _ _=>exact t
 |Lambda _ b _ _=>exact b
 |GeneratorExp e _ _ _=>exact e
 |_=>exact default
noncomputable def wa(x:Tk):Tk:=by
 cases x with
 |Subscript _ s=>exact s
 |BinOp _ _ r=>exact r
 |GeneratorExp _ gs=>exact((gs.map (·.target)).getD 0 default)
 |_=>exact default
noncomputable def oP(x:Tk):aaQ:=by
 cases x with
 |ListComp _ _ s _=>exact s
 |DictComp _ _ _ s _=>exact s
 |GeneratorExp _ _ s _=>exact s
 |Lambda _ _ s _=>exact s
 |_=>exact default
noncomputable abbrev jL(s:Vy):Tk:=gM s
noncomputable abbrev NQ(s:Vy):Tk:=gM s
noncomputable abbrev E3(s:Vy):Tk:=gM s
noncomputable abbrev gc(s:Vy):List Vy:=uN s
noncomputable def DD(F:Fx)(e:Tk):Fx:=⟨dU F (oP e).names,F.code,false,RB⟩
noncomputable def cM(i:Nat)(e:Tk):Tk:=(Ig e).getD i default
noncomputable abbrev E4(e:Tk):Tk:=nu e
noncomputable abbrev Mb(e:Tk):Tk:=nu e
theorem jM:T4 "len"=some (.builtin "len"):=rfl
theorem yM:T4 "sum"=some (.builtin "sum"):=rfl
theorem jN:T4 "sorted"=some (.builtin "sorted"):=rfl
theorem iD:T4 "isinstance"=some (.builtin "isinstance"):=rfl
theorem ji:T4 "enumerate"=some (.type "enumerate"):=rfl
theorem yN:T4 "zip"=some (.type "zip"):=rfl
theorem uO:T4 "list"=some (.type "list"):=rfl
theorem md:T4 "tuple"=some (.type "tuple"):=rfl
theorem yO:T4 "set"=some (.type "set"):=rfl
theorem ET.dJ{value}{lo hi}{p pos}{l}{k1 k2}(hv:ET n F value ρ H (.lst l) H1)(h1:PT n F lo ρ H1 k1)(h2:PT n F hi ρ H1 k2):
  ET n F (.Subscript value (.Slice lo hi RB p) pos) ρ H (.lst (cut k1 k2 l)) H1:=ET.slice hv h1 h2 PT.none Ty.lst RU.lookup GT.lst
theorem ET.iM{value}{lo hi}{p pos}{x}{k1 k2}(hv:ET n F value ρ H (.str x) H1)(h1:PT n F lo ρ H1 k1)(h2:PT n F hi ρ H1 k2):
  ET n F (.Subscript value (.Slice lo hi RB p) pos) ρ H (.str (TH x k1 k2)) H1:=ET.slice hv h1 h2 PT.none Ty.str Wj.lookup GT.str
noncomputable def uP(F:Fx)(scope:aaQ)(kr kc:List RN):Bool:=
 (scope.kind== .function)&& !scope.isCoroutine&&(scope.names.all fun x=>x.2 != .cell&&(x.2 != .local||scope.names.lookup x.1==some .local)&&(x.2 != .free||(F.names.lookup x.1==some .cell)||(kr.contains x.1&&F.names.lookup x.1 !=some .local)))
  &&(kc.all fun x=>scope.names.lookup x==some .free&&F.names.lookup x !=some .local)
theorem jO:∀{ρ:Loc},(ρ.map (·.1)).contains x=true→(ρ.lookup x).isSome=true:=by
 intro rv
 induction rv with
 |nil=>
  intro h;cases h
 |cons pq r ih=>
  intro h;refine J lookup_cons ?_;by_cases e:x=pq.1
  ·exact congrArg _ (if_pos e)
  ·refine J (if_neg e) ?_;refine ih ?_;rw[RD,aai] at h;rw[(show(x==pq.1)=false by simpa using e),Bool.false_or] at h;exact h
theorem ar.of(h:uP F scope (ρ.map (·.1)) (dI.map (·.1))=true)(hs:∀n x,dI.lookup n=some x→ρ.lookup n=some x):ar F scope ρ dI:=by
 delta uP at h
 simp only[RA,SE,WQ,bne_iff_ne,beq_iff_eq,VC] at h;obtain⟨⟨⟨h1,h2⟩,h3⟩,h4⟩:=h;refine⟨h1,h2,fun x hx=>(h3 x hx).1.1,fun x hx e=>((h3 x hx).1.2).resolve_left fun q=>q e,fun x hx e=> ?_,hs,fun x v e=> ?_⟩
 ·rcases(h3 x hx).2 with(q|q)|q
  ·exact absurd e q
  ·exact .inl q
  ·exact .inr ⟨jO q.1,q.2⟩
 ·exact h4 x (Rz.mpr ⟨(x,v),mem_of_lookup e,rfl⟩)
end
section
variable{n:Nat}{H:AH}{Fr:Fx}
open PySem.Builtin PySem.Builtin.Str in
theorem gN(x y z:RN):(SH x y z).length≤x.length+(x.length+1)*z.length:=by
 unfold SH;refine bn (fun _=> ?_) fun _=> ?_
 ·exact Sr _ _
 ·have hy:(glued y (partsBetween x (occurrences x y 0 x.length (x.length+1)) y.length)).length=x.length:=by rw[StrLaws.glued_between_self]
  rw[size_glued,X4,Vt] at hy;refine J (size_glued ..) (J (X4 ..) (J (Vt ..) ?_));exact ba (lj (bD hy)) (ZY _ (StrLaws.occ_length_le x y 0 x.length (x.length+1)))
noncomputable def au(x y z:RN):RN:=if TB x y=true then SH x y z else x
theorem bg{a b c}(hx:x.length≤a)(hz:z.length≤b)(h:a+(a+1)*b≤c):(au x y z).length≤c:=by
 have h1:=gN x y z;have h2:(x.length+1)*z.length≤(a+1)*b:=Y1 (Ue hx) hz;unfold au;exact bn (fun _=>Rq h1 (Rq (VJ hx h2) h)) fun _=>Rq hx (Rq (Sr ..) h)
theorem dR{a b}(hx:x.length≤a)(hz:z.length≤b)(h:a+(a+1)*b≤Rs):(SH x y z).length≤Rs:=by
 exact ap (ap (gN x y z) (ba hx (Y1 (Ue hx) hz))) h
theorem cP{p1 p2 p3 p4 p5 p6 p7 p8 p9 PK PL}{k1 k2 k3}{x y z}(fQ:ST Fr ("text":RN))(JR:(y==z)=false)(hx:x.length≤1048576)(hy:y.length≤Rs)(hz:z.length≤14)(hr:(SH x y z).length≤Rs)
  (he:autoParam (∀env,eval (.Call (.Attribute (.Name "text" p5) "replace" p6) [.Constant (.str y) k2 p7, .Constant (.str z) k3 p8] [] p9) env=(do
   let ov ←eval (.Name "text" p5) env
   standAt p6.atName
   let(f,first) ←holding [ov] (Za ov "replace" (do return (←Zj (.Name "text" p5) env).getD true))
   UT p9 f first (backTo p9 (starEach [.Constant (.str y) k2 p7, .Constant (.str z) k3 p8] env)) [])) aI):
  XT n Fr (.If (.Compare (.Constant (.str y) k1 p1) [.In] [.Name "text" p2] p3) [.Assign [.Name "text" p4] (.Call (.Attribute (.Name "text" p5) "replace" p6) [.Constant (.str y) k2 p7, .Constant (.str z) k3 p8] [] p9) PK] [] PL)
   [("text", .str x)] H .next [("text", .str (au x y z))] H:=by
 refine XT.ite (TT.cmp (ET.str hy) ET.name OT.in_str) (fun hc=> ?_) fun hc=> ?_
 ·refine ag.sub (ag.cons (XT.assign (ET.aT ET.name
   (GM.of Ty.str aJ.str F.plainAttrs_str F.slot_str_replace F.type_str_replace) (ab.cons (ET.lit hy) (ab.cons (ET.lit (Rq hz dc)) ab.nil)) aM.builtin (CT.replace JR hx hz hr) (he:=he)) (bw.one (AT.name fQ))) ag.nil) ?_
  have:au x y z=SH x y z:=by unfold au;rw[if_pos hc]
  exact this▸aa rfl ae
 ·refine ag.sub ag.nil ?_;have:au x y z=x:=by unfold au;exact J hc rfl
  exact J this ((aa rfl ae))
noncomputable def dX(x:RN):RN:=au (au (au (au x "&" "&amp;") "<" "&lt;") ">" "&gt;") "\r" "&#xD;"
theorem Ih(B:Base){x}(h:x.length≤100):CT (n+1) (.st (.ref 161)) [.str x] [] H (.str (dX x)) H:=by
 have l1:(au x "&" "&amp;").length≤605:=bg h (b:=5) dc dc;have l2:(au (au x "&" "&amp;") "<" "&lt;").length≤3029:=bg l1 (b:=4) dc dc;have l3:(au (au (au x "&" "&amp;") "<" "&lt;") ">" "&gt;").length≤15149:=bg l2 (b:=4) dc dc;refine CT.fn (g:= .ret (.str (dX x))) (an:=[("text", .str (dX x))]) B (Dn B) (Binds.b1 B (HQ)) (show [("text":RN)].Nodup by decide) rfl (ag.ret (XT.try ?_));refine ag.cons (cP (ST.local rfl) rfl (eI h) dc dc (dR h (b:=5) dc dc)) (ag.cons (cP (ST.local rfl) rfl (eI l1) dc dc (dR l1 (b:=4) dc dc)) ?_);refine ag.cons (cP (ST.local rfl) rfl (ap l2 dc) dc dc (dR l2 (b:=4) dc dc)) (ag.cons (cP (ST.local rfl) rfl (ap l3 dc) dc dc (dR l3 (b:=5) dc dc)) ?_);exact ag.ret (XT.ret ET.name)
noncomputable def d9(x:RN):RN:=au (au (au (au (au (au x "&" "&amp;") "<" "&lt;") "\"" "&quot;") "\t" "&#x9;") "\n" "&#xA;") "\r" "&#xD;"
theorem Ii(B:Base){x}(h:x.length≤40):CT (n+1) (.st (.ref 168)) [.str x] [] H (.str (d9 x)) H:=by
 have l1:(au x "&" "&amp;").length≤245:=bg h (b:=5) dc dc;have l2:(au (au x "&" "&amp;") "<" "&lt;").length≤1229:=bg l1 (b:=4) dc dc;have l3:(au (au (au x "&" "&amp;") "<" "&lt;") "\"" "&quot;").length≤8609:=bg l2 (b:=6) dc dc;have l4:(au (au (au (au x "&" "&amp;") "<" "&lt;") "\"" "&quot;") "\t" "&#x9;").length≤51659:=bg l3 (b:=5) dc dc;have l5:(au (au (au (au (au x "&" "&amp;") "<" "&lt;") "\"" "&quot;") "\t" "&#x9;") "\n" "&#xA;").length≤309959:=bg l4 (b:=5) dc dc;refine CT.fn (g:= .ret (.str (d9 x))) (an:=[("text", .str (d9 x))]) B (Dp B) (Binds.b1 B (HR)) (show [("text":RN)].Nodup by decide) rfl (ag.ret (XT.try ?_));refine ag.cons (cP (ST.local rfl) rfl (eI h) dc dc (dR h (b:=5) dc dc)) (ag.cons (cP (ST.local rfl) rfl (eI l1) dc dc (dR l1 (b:=4) dc dc)) ?_);refine ag.cons (cP (ST.local rfl) rfl (ap l2 dc) dc dc (dR l2 (b:=6) dc dc)) (ag.cons (cP (ST.local rfl) rfl (ap l3 dc) dc dc (dR l3 (b:=5) dc dc)) ?_);refine ag.cons (cP (ST.local rfl) rfl (ap l4 dc) dc dc (dR l4 (b:=5) dc dc)) (ag.cons (cP (ST.local rfl) rfl (ap l5 dc) dc dc (dR l5 (b:=5) dc dc)) ?_);exact ag.ret (XT.ret ET.name)
end
section
variable{n:Nat}{H:AH}{F:Fx}{ρ:Loc}
theorem count_loop:∀(ns:List Int) k(gD:Loc),XF n (ay 196) (fun _=>True,fun _=>True) (jL (av (bodyOf 196) 1)) (gc (av (bodyOf 196) 1)) [] (ns.map V.int) (("nc", .int k)::gD) H .next [("nc", .int (k+ns.sum))] H:=by
 intro rv
 induction rv with
 |nil=>
  intro k gD;exact XF.nil trivial (ag.sub ag.nil (by simpa using aa rfl ae))
 |cons i ns ih=>
  intro k gD;exact J (Ub ..) (aQ (Int.add_assoc ..) ((XF.cons trivial trivial (AT.name (ST.local rfl)) (ag.cons (XT.aug rfl ET.name Em.add_int (ST.local rfl)) ag.nil) (ih (k+i) (("calls", .int i)::("nc", .int k)::gD)))))
theorem jP(B:Base){l}{ns:List Int}(hl:l.map (·.2)=ns.map V.int):CT (n+1) (.st (.ref 196)) [.bx l] [] H (.int ns.sum) H:=by
 refine CT.fn (g:= .ret (.int ns.sum)) (an:=[("nc", .int ns.sum)]) B (Ds B) (Binds.b1 B (HV)) (show [("callers":RN)].Nodup by decide) rfl (ag.cons (XT.assign ET.int (bw.one (AT.name (ST.local rfl)))) ?_);refine ag.cons (an:=[("nc", .int ns.sum)]) (H1:=H) (XT.for (xs:=ns.map V.int) (P:=(fun _=>True,fun _=>True)) (IT.val (ET.aT ET.name
  (GM.of Ty.bx aJ.bx Tv PySem.F.slot_dict_values PySem.F.type_dict_values) ab.nil aM.builtin (CT.values aW.bx)) ?_) ?_) ?_
 ·exact hl▸VT.values
 ·have:=count_loop (n:=n) (H:=H) ns 0 [("callers", .bx l)];rw[Int.zero_add] at this;exact this
 ·exact ag.ret (XT.ret ET.name)
end
section
variable{n:Nat}{H:AH}{F:Fx}{ρ:Loc}
noncomputable def aF(pre:List V):List V→List V
 |[]=>[]
 |x::xs=>if(pre.any fun y=>V.eqv y x)=true then aF (pre++[x]) xs else x::aF (pre++[x]) xs
theorem cT:aF pre (x::xs)=if(pre.any fun y=>V.eqv y x)=true then aF (pre++[x]) xs else x::aF (pre++[x]) xs:=rfl
theorem td:∀(xs pre:List V),(aF pre xs).length≤xs.length:=by
 intro rv
 induction rv with
 |nil=>
  intro _;exact Ri _
 |cons x xs ih=>
  intro pre;rw[cT];have:=ih (pre++[x]);refine bn (fun _=> ?_) (fun _=> ?_)<;>simp<;>lia
theorem Bw(h:l=pre++xs):cut RB (some pre.length) l=pre:=by
 rw[h,lC,Wi]
theorem qx(m8:l.all V.ok=true)(hz:l.length≤Rs):∀(xs pre acc:List V),l=pre++xs→acc.length+xs.length≤Rs→
  CF (n+8) (DD (ay 242) (gM (av (bodyOf 242) 0))) (gM (av (bodyOf 242) 0)) 0 (fun _=>True,fun t=>isTup t=true) (uB pre.length xs) [("row", .lst l)] acc H (acc++aF pre xs) H:=by
 intro rv
 induction rv with
 |nil=>
  intro pre acc hl hz;exact J (show aF pre []=[] from rfl) (J (RF ..) ((CF.nil trivial _ _ (fun _ _ _=>rfl))))
 |cons x xs ih=>
  intro pre acc hl AI;have hx:x.ok=true:=by rw[hl,aa4,RA] at m8;have:=m8.2;rw[Th,RA] at this;exact this.1
  have hp:pre.all V.ok=true:=by rw[hl,aa4,RA] at m8;exact m8.1
  have d5:l=(pre++[x])++xs:=by refine J hl ?_;simp
  have hc:=Bw hl;have hs:∀m z,([("row",V.lst l)]:Loc).lookup m=some z→(("thing",x)::("k",V.int pre.length)::[("row",V.lst l)]:Loc).lookup m=some z:=aa rfl ae;have ih:=ih (pre++[x]);replace ih:=SI▸Ro▸ih;by_cases hb:(pre.any fun y=>V.eqv y x)=true
  ·have e:aF pre (x::xs)=aF (pre++[x]) xs:=by rw[cT,if_pos hb]
   refine J e (CF.skip trivial rfl (AT.tuple (aX.cons (AT.name (ST.local rfl)) (aX.cons (AT.name (ST.local rfl)) aX.nil))) (eL.one (TT.cmp ET.name (ET.dJ ET.name PT.none (PT.some ET.name)) ?_)) hs (ih acc d5 (CQ AI)) _ (fun _ _ _=>rfl));refine J hc ?_;have:=OT.jE (n:=n) (H:=H) hp hx;rw[hb] at this;exact this
  ·have e2:acc++x::aF (pre++[x]) xs=(acc++[x])++aF (pre++[x]) xs:=by simp
   refine J (show aF pre (x::xs)=x::aF (pre++[x]) xs by rw[cT,if_neg hb]) (J e2 ?_);refine CF.cons trivial rfl (AT.tuple (aX.cons (AT.name (ST.local rfl)) (aX.cons (AT.name (ST.local rfl)) aX.nil))) (eL.one (TT.cmp ET.name (ET.dJ ET.name PT.none (PT.some ET.name)) ?_)) ET.name hs (lj AI) (ih (acc++[x]) d5 (by simp at AI⊢;exact io AI)) _ (fun _ _ _=>rfl);refine J hc ?_;have:=OT.jE (n:=n) (H:=H) hp hx;rw[(show(pre.any fun y=>V.eqv y x)=false by simpa using hb)] at this;exact this
theorem kg(B:Base){l}(m8:l.all V.ok=true)(hz:l.length≤Rs):CT (n+8+1) (.st (.ref 242)) [.lst l] [] H (.lst (aF [] l)) H:=by
 refine CT.fn (g:= .ret (.lst (aF [] l))) (an:=[("row", .lst l)]) B (yI B) (Binds.b1 B (H9)) (show [("row":RN)].Nodup by decide) rfl (ag.ret (XT.ret (ET.cL ?_ (IT.call (ET.az B (jh) ji) (ab.cons ET.name ab.nil) aM.type CI.enum) (qx m8 hz l [] [] rfl (by simpa using hz)) ?_)))
 ·exact ar.of rfl (aa rfl ae)
 ·have:=td l [];simp;exact ap this hz
end
section
variable{n:Nat}{H:AH}{F:Fx}{ρ:Loc}
noncomputable def dp(rs:List (RN×RN)):List V:=rs.map fun r=> .tup [.lit r.1, .lit r.2]
noncomputable def cm(x:RN)(rs:List (RN×RN)):List V:=(rs.filter fun r=>TB x r.2).map fun r=> .lit r.2
noncomputable def fC(x:RN)(rs:List (RN×RN)):RN:=rs.foldl (fun x r=>SH x r.1 r.2) x
noncomputable abbrev pE:Tk:=E4 (E3 (av (bodyOf 213) 0))
theorem te:∀rs acc,acc.length+rs.length≤Rs→
  CF n (DD (ay 213) (pE)) (pE) 0 (fun _=>True,fun _=>True) (dp rs) [("text", .str x)] acc H (acc++cm x rs) H:=by
 intro rv
 induction rv with
 |nil=>
  intro acc _;exact J (show cm x []=[] from rfl) (J (RF ..) ((CF.nil trivial _ _ (fun _ _ _=>rfl))))
 |cons r rs ih=>
  intro acc hz;have hs:∀m z,([("text",V.str x)]:Loc).lookup m=some z→(("sign",V.lit r.2)::("spelled",V.lit r.1)::[("text",V.str x)]:Loc).lookup m=some z:=aa rfl ae;by_cases hb:TB x r.2=true
  ·have ho:OT n (Sv .In) (.str r.2) (.str x) H (.bool true) H:=hb▸OT.in_str;have e:acc++cm x (r::rs)=(acc++[.lit r.2])++cm x rs:=by simp[cm,hb]
   refine J e ?_;have ih:=ih (acc++[V.lit r.2]) (by simp at hz⊢;exact io hz);refine CF.cons trivial trivial (AT.tuple (aX.cons AT.loc (aX.cons AT.loc aX.nil))) (eL.one (TT.cmp (ET.CR ET.name) ET.name ho)) ET.name hs (lj hz) ih _ (fun _ _ _=>rfl)
  ·have ho:OT n (Sv .In) (.str r.2) (.str x) H (.bool false) H:=by
    exact(by simpa using hb)▸OT.in_str
   have e:cm x (r::rs)=cm x rs:=by simp[cm,hb]
   refine J e ?_;have ih:=ih acc (CQ hz);refine CF.skip trivial trivial (AT.tuple (aX.cons AT.loc (aX.cons AT.loc aX.nil))) (eL.one (TT.cmp (ET.CR ET.name) ET.name ho)) hs ih _ (fun _ _ _=>rfl)
theorem wb x rs:(cm x rs).length≤rs.length:=by
 unfold cm;exact J (Rk ..) ((SR ..))
theorem wd x rs:(!(cm x rs).isEmpty)=rs.any fun r=>TB x r.2:=by
 induction rs with
 |nil=>rfl
 |cons r rs ih=>
  unfold cm at ih⊢;by_cases h:TB x r.2=true
  ·simp[h]
  ·simp only[U5,h,Wx];exact ih
noncomputable def me(r:RN×RN):Bool:= !(r.1==r.2)&&decide (r.1.length≤14)&&decide (r.2.length≤1)&&Rv r.2
theorem tf:∀rs x k(gD:Loc),rs.all me=true→x.length≤k→k*2^rs.length+2^rs.length≤1048576→
  XF n (ay 213) (fun _=>True,fun _=>True) (jL (av (bodyOf 213) 1)) (gc (av (bodyOf 213) 1)) [] (dp rs) (("text", .str x)::gD) H .next [("text", .str (fC x rs))] H:=by
 intro rv
 induction rv with
 |nil=>
  intro x k gD _ _ _;exact XF.nil trivial (ag.sub ag.nil (aa rfl ae))
 |cons r rs ih=>
  intro x k gD h hk hz;replace h:=(RA ..)▸(Th ..)▸h;have hr:=h.1;unfold me at hr;simp only[RA,VC,decide_eq_true_eq] at hr;have hp:1≤2^rs.length:=Nat.one_le_two_pow;replace hz:=(show 2^(r::rs).length=2*2^rs.length by rw[RQ,Nat.pow_succ,Ye])▸hz;have Ge:k≤1048576:=by
   exact ap (gl (D6 (show k*1≤k*(2*2^rs.length) from Z9 _ (by lia)))) hz
  have hl:(SH x r.1 r.2).length≤2*k+1:=by
   have h1:=gN x r.1 r.2;have h2:(x.length+1)*r.2.length≤(k+1)*1:=Y1 (ba hk (Ri _)) hr.1.2;lia
  have AI:(2*k+1)*2^rs.length+2^rs.length≤1048576:=by
   have:(2*k+1)*2^rs.length+2^rs.length=k*(2*2^rs.length)+2*2^rs.length:=by
    refine J (Nat.add_mul ..) (J (Z5 ..) (J (Nat.mul_assoc ..) (J (Nat.mul_left_comm ..) ?_)));lia
   lia
  exact XF.cons trivial trivial (AT.tuple (aX.cons (AT.name (ST.local rfl)) (aX.cons (AT.name (ST.local rfl)) aX.nil)))
   (ag.cons (XT.assign (ET.aT ET.name
    (GM.of Ty.str aJ.str Sd PySem.F.slot_str_replace PySem.F.type_str_replace) (ab.cons ET.name (ab.cons ET.name ab.nil)) aM.builtin (CT.replace hr.1.1.1 (ap hk Ge) (by lia) (ap hl (iI (ap (ba (nE Ge) (Ri _)) dc))))) (bw.one (AT.name (ST.cell rfl)))) ag.nil) (ih (SH x r.1 r.2) (2*k+1) (("sign", .lit r.2)::("spelled", .lit r.1)::("text", .str x)::gD) h.2 hl AI)
theorem yP:∀{rs},rs.all me=true→(cm x rs).all (V.nk 0)=true:=by
 intro rv
 induction rv with
 |nil=>
  intro _;exact rfl
 |cons r rs ih=>
  intro h;replace h:=(RA ..)▸(Th ..)▸h;have ih:=ih h.2;have hr:=h.1;unfold me at hr;rw[RA] at hr;unfold cm at ih⊢;by_cases hb:TB x r.2=true
  ·simp only[U5,hb,if_true,RD,Th,RA];exact⟨V.A3 hr.2 0,ih⟩
  ·simp only[U5,hb];exact ih
noncomputable def dr(x:RN)(r:RN×RN)(rs:List (RN×RN)):RN:=if(rs.any fun r=>TB x r.2)=true then "" else fC x (rs++[r])
theorem jQ x l:cut (some 1) RB (x::l)=l:=gG (x::l) 1
theorem uQ x l:cut RB (some 1) (x::l)=[x]:=lC (x::l) 1
theorem mf(B:Base){x}{r}{rs}(h:(r::rs).all me=true)(hl:rs.length≤5)(hx:x.length≤10000):
  CT (n+8+1) (.st (.ref 213)) [.str x, .lst (dp (r::rs))] [] H (.str (dr x r rs)) H:=by
 have hr:rs.all me=true:=by rw[Th,RA] at h;exact h.2
 have L5:me r=true:=by rw[Th,RA] at h;exact h.1
 have NR:∀b,(rs.any fun r=>TB x r.2)=b→TT (n+8) (ay 213) (E3 (av (bodyOf 213) 0)) [("text", .str x),("references", .lst (dp (r::rs)))] H b H:=by
  intro b hb;have ho:=OT.ne_nil (n:=n) (H:=H) (yP (x:=x) hr);replace ho:=(hb ..)▸(wd ..)▸ho;refine TT.cmp (ET.cL (ar.of rfl (aa rfl ae)) ?_ (te rs [] (by simp;exact gC hl)) ?_) (ET.list ab.nil) ho
  ·refine IT.val ?_ VT.lst;exact(show dp rs=cut (some 1) RB (dp (r::rs)) from(jQ _ _).symm)▸ET.dJ ET.name (PT.some ET.int) PT.none
  ·have:=wb x rs;simp;exact ap this (ap hl dc)
 cases hb:rs.any fun r=>TB x r.2 with
 |true=>
  have e:dr x r rs="":=by unfold dr;rw[if_pos hb]
  refine J e (CT.fn (g:= .ret (.str "")) (an:=[("text", .str x),("references", .lst (dp (r::rs)))]) B (uL B) (Binds.b2 B (Dv)) (show [("text":RN),"references"].Nodup by decide) rfl ?_);refine ag.ret (XT.ite (NR true hb) (fun _=>ag.ret (XT.ret ET.str)) (fun h=>by cases h))
 |false=>
  have e:dr x r rs=fC x (rs++[r]):=by unfold dr;exact J hb rfl
  refine J e (CT.fn (g:= .ret (.str (fC x (rs++[r])))) (an:=[("text", .str (fC x (rs++[r])))]) B (uL B) (Binds.b2 B (Dv)) (show [("text":RN),"references"].Nodup by decide) rfl ?_);refine ag.cons (XT.ite (NR false hb) (fun h=>by cases h) (fun _=>ag.nil)) (ag.cons (XT.for (xs:=dp (rs++[r])) (P:=(fun _=>True,fun _=>True)) (H1:=H) ?_ ?_) (ag.ret (XT.ret ET.name)))
  ·refine IT.val ?_ VT.lst;rw[show dp (rs++[r])=cut (some 1) RB (dp (r::rs))++cut RB (some 1) (dp (r::rs)) from by
    refine J (show dp (r::rs)= .tup [.lit r.1, .lit r.2]::dp rs from rfl) (J (jQ ..) (J (uQ ..) ?_));simp[dp]]
   refine ET.binop (ET.dJ ET.name (PT.some ET.int) PT.none) (ET.dJ ET.name PT.none (PT.some ET.int)) (OT.kP ?_);refine J (show dp (r::rs)= .tup [.lit r.1, .lit r.2]::dp rs from rfl) (J (jQ ..) (J (uQ ..) (J ((show(dp rs).length=rs.length by simp[dp]) ..) ?_)));simp;exact iI (ap (ba hl (Ri _)) dc)
  ·exact tf (rs++[r]) x 10000 [("references", .lst (dp (r::rs)))] (by simp[hr,L5]) hx (by
    have:2^(rs++[r]).length≤2^6:=Nat.pow_le_pow_right dc (by simp;exact hl);lia)
noncomputable def DE:List (RN×RN):=[("&lt;","<"),("&quot;","\""),("&#x9;","\t"),("&#xA;","\n"),("&#xD;","\r")]
noncomputable def DF:List (RN×RN):=[("&lt;","<"),("&gt;",">"),("&#xD;","\r")]
noncomputable def cC(x:RN):RN:=dr x ("&amp;","&") DE
noncomputable def eE(x:RN):RN:=dr x ("&amp;","&") DF
theorem tg(B:Base){x}(hx:x.length≤10000):CT (n+8+1+1) (.st (.ref 220)) [.str x] [] H (.str (cC x)) H:=by
 refine CT.fn (g:= .ret (.str (cC x))) (an:=[("text", .str x)]) B (Dw B) (Binds.b1 B (HY)) (show [("text":RN)].Nodup by decide) rfl (ag.ret (XT.ret (ET.call (ET.globK B (iB)) (ab.cons ET.name (ab.cons (ET.list ?_ dc) ab.nil)) (aM.def (uL B)) (mf B (by decide+kernel) dc hx))));exact ab.cons (ET.tuple (ab.cons ET.lit (ab.cons ET.lit ab.nil))) (ab.cons (ET.tuple (ab.cons ET.lit (ab.cons ET.lit ab.nil))) (ab.cons (ET.tuple (ab.cons ET.lit (ab.cons ET.lit ab.nil))) (ab.cons (ET.tuple (ab.cons ET.lit (ab.cons ET.lit ab.nil)))
  (ab.cons (ET.tuple (ab.cons ET.lit (ab.cons ET.lit ab.nil))) (ab.cons (ET.tuple (ab.cons ET.lit (ab.cons ET.lit ab.nil))) ab.nil)))))
theorem we(B:Base){x}(hx:x.length≤10000):CT (n+8+1+1) (.st (.ref 227)) [.str x] [] H (.str (eE x)) H:=by
 refine CT.fn (g:= .ret (.str (eE x))) (an:=[("text", .str x)]) B (Dx B) (Binds.b1 B (HZ)) (show [("text":RN)].Nodup by decide) rfl (ag.ret (XT.ret (ET.call (ET.globK B (iB)) (ab.cons ET.name (ab.cons (ET.list ?_ dc) ab.nil)) (aM.def (uL B)) (mf B (by decide+kernel) dc hx))));exact ab.cons (ET.tuple (ab.cons ET.lit (ab.cons ET.lit ab.nil))) (ab.cons (ET.tuple (ab.cons ET.lit (ab.cons ET.lit ab.nil))) (ab.cons (ET.tuple (ab.cons ET.lit (ab.cons ET.lit ab.nil))) (ab.cons (ET.tuple (ab.cons ET.lit (ab.cons ET.lit ab.nil))) ab.nil)))
end
section
variable{n:Nat}{H:AH}{F:Fx}{ρ:Loc}
noncomputable def bK(rs rd:Bool)(ig:Int):List (RN×V):=
 [("_write", .bm "list.append" (.ref 1)),("_data", .ref 4),("_with_comments", .bool false),("_strip_text", .bool false),("_exclude_attrs", .none),("_exclude_tags", .ref 5),("_rewrite_prefixes", .bool true),
  ("_qname_aware_tags", .none),("_find_qname_aware_attrs", .none),("_declared_ns_stack", .ref 7),("_ns_stack", .ref 8),("_prefix_map", .ref 9),("_preserve_space", .ref 10),("_pending_start", .none),
  ("_root_seen", .bool rs),("_root_done", .bool rd),("_ignored_depth", .int ig)]
structure Tg where
 told:List RN
 data:List RN
 ex:RN
 us:List RN
 lv:List (Option (List RN))
 rs:Bool
 rd:Bool
 ig:Int
 k:Nat
noncomputable def jj(i:Nat):RN:=VK (toString (i:Int))
noncomputable def bB(us:List RN)(u:RN):RN:="n"++jj (us.idxOf u)
noncomputable def iV(p:RN×RN):V:= .tup [.str p.1, .str p.2]
noncomputable def bk(us:List RN)(u:RN):RN×RN:=(u,bB us u)
noncomputable def kH:RN:="http://www.w3.org/XML/1998/namespace"
noncomputable def jl:RN×RN:=(kH,"xml")
noncomputable def iW(us:List RN):List (RN×V):=us.map fun u=>(u, .str (bB us u))
noncomputable def ft(us:List RN)(lv:List (Option (List RN))):AH:=lv.map (ZW fun l=>AO.list (l.map fun u=>iV (bk us u)))
noncomputable def live(lv:List (Option (List RN))):List (List RN):=lv.filterMap id
noncomputable def fq(us:List RN):Nat→List (Option (List RN))→List (Nat×List V)
 |_,[]=>[]
 |b,none::lv=>fq us (b+1) lv
 |b,some l::lv=>(b,l.map fun u=>iV (bk us u))::fq us (b+1) lv
noncomputable def iw(us:List RN)(b:Nat)(lv:List (Option (List RN))):List (Nat×List V):=(6,[iV jl])::fq us b lv
noncomputable def tj:Pos:=⟨135,71,135,96⟩
noncomputable def qy:RN:="C14NWriterTarget._start.<locals>.<lambda>"
@[reducible] noncomputable def Tg.h (t:Tg) (rest aG:AH):AH:=
 some (.tab 123 tj qy)::some (.list (t.told.map V.str))::some (.inst 150 3)::some (.ns (bK t.rs t.rd t.ig))::some (.list (t.data.map V.str))::some (.sset [t.ex])::some (.list [iV jl])::
 some (.list ((iw t.us (11+rest.length) t.lv).map fun p=> .ref p.1))::some (.list (Ry t.k (.lst [])))::some (.dict (iW t.us))::some (.list (Ry t.k (.bool false)))::
 (rest++(ft t.us t.lv++aG))
theorem du(B:Base):pY (KK) 150:=⟨B.In,kr,kr,kr,kr,kr⟩
theorem b8:TQ (KK) (.ref 150) "_ignored_depth"=some RB:=rfl
theorem jm:TQ (KK) (.ref 150) "_data"=some RB:=rfl
theorem kR:TQ (KK) (.ref 150) "_declared_ns_stack"=some RB:=rfl
theorem tn:TQ (KK) (.ref 150) "_ns_stack"=some RB:=rfl
theorem qz:TQ (KK) (.ref 150) "_prefix_map"=some RB:=rfl
theorem uR:TQ (KK) (.ref 150) "_preserve_space"=some RB:=rfl
theorem tp:TQ (KK) (.ref 150) "_rewrite_prefixes"=some RB:=rfl
theorem mh:TQ (KK) (.ref 150) "_write"=some RB:=rfl
theorem yQ:TQ (KK) (.ref 150) "_strip_text"=some RB:=rfl
theorem tr:TQ (KK) (.ref 150) "_exclude_attrs"=some RB:=rfl
theorem fF:TQ (KK) (.ref 150) "_exclude_tags"=some RB:=rfl
theorem yR:TQ (KK) (.ref 150) "_qname_aware_tags"=some RB:=rfl
theorem wf:TQ (KK) (.ref 150) "_find_qname_aware_attrs"=some RB:=rfl
theorem tt:TQ (KK) (.ref 150) "_pending_start"=some RB:=rfl
theorem uS:TQ (KK) (.ref 150) "_root_seen"=some RB:=rfl
theorem Bx:TQ (KK) (.ref 150) "_iter_namespaces"=some (some (.ref 75)):=rfl
theorem qA:TQ (KK) (.ref 150) "_qname"=some (some (.ref 90)):=rfl
theorem yS:TQ (KK) (.ref 150) "_flush"=some (some (.ref 106)):=rfl
theorem wg:TQ (KK) (.ref 150) "_start"=some (some (.ref 126)):=rfl
theorem yT:TQ (KK) (.ref 150) "start"=some (some (.ref 120)):=rfl
theorem yU:TQ (KK) (.ref 150) "end"=some (some (.ref 133)):=rfl
theorem By:TQ (KK) (.ref 150) "data"=some (some (.ref 97)):=rfl
theorem noGet_none K:noGet K RB=true:=rfl
theorem GA.t(B:Base){t:Tg}{rest aG}{name}{y}(hl:(bK t.rs t.rd t.ig).lookup name=some y)(ha:TQ (KK) (.ref 150) name=some RB)(hy:autoParam (V.hand y=true) aR):
  GA n (.ref 2) name (t.h rest aG) y (t.h rest aG):=GA.own (du B) rfl rfl hl ha (noGet_none _) hy
theorem GA.tX(B:Base){H}{rs rd}{ig}{name}{y}(h1:H[2]?=some (some (.inst 150 3)))(h2:H[3]?=some (some (.ns (bK rs rd ig))))(hl:(bK rs rd ig).lookup name=some y)(ha:TQ (KK) (.ref 150) name=some RB)
  (hy:autoParam (V.hand y=true) aR):GA n (.ref 2) name H y H:=GA.own (du B) h1 h2 hl ha (noGet_none _) hy
theorem GM.t(B:Base){t:Tg}{rest aG}{name}{f}(hl:(bK t.rs t.rd t.ig).lookup name=none)(ha:TQ (KK) (.ref 150) name=some (some (.ref f)))(ht:typeIn (KK) (.ref f)=some (.type "function")):
  GM n (.ref 2) name (t.h rest aG) (.st (.ref f)) [.ref 2] (t.h rest aG):=GM.fn (du B) rfl rfl hl ha ht
theorem GM.tX(B:Base){H}{rs rd}{ig}{name}{f}(h1:H[2]?=some (some (.inst 150 3)))(h2:H[3]?=some (some (.ns (bK rs rd ig))))(hl:(bK rs rd ig).lookup name=none)(ha:TQ (KK) (.ref 150) name=some (some (.ref f)))(ht:typeIn (KK) (.ref f)=some (.type "function")):
  GM n (.ref 2) name H (.st (.ref f)) [.ref 2] H:=GM.fn (du B) h1 h2 hl ha ht
theorem wh(B:Base){t:Tg}{rest aG}{x}(hz:t.data.length<Rs):
  CT (n+1) (.st (.ref 97)) [.ref 2, .str x] [] (t.h rest aG) .none ((if t.ig=0 then {t with data:=t.data++[x]} else t).h rest aG):=by
 refine CT.fn (g:= .next) (an:=[("self", .ref 2),("data", .str x)]) B (HN B) (Binds.b2 B (Ma)) (show [("self":RN),"data"].Nodup by decide) rfl ?_;by_cases h0:t.ig=0
 ·rw[if_pos h0];refine ag.cons (XT.ite (TT.not (TT.value (ET.attr ET.name (GA.t B (by refine J h0 ?_;rfl) (b8))) OB.int)) (fun _=>ag.cons (XT.expr (ET.aT (ET.attr ET.name (GA.t B rfl (jm)))
   (GM.of (Ty.ai rfl) (aJ.ai rfl) RJ YE R7) (ab.cons ET.name ab.nil) aM.builtin (CT.append rfl (J (Rk ..) hz)))) ?_) (fun h=>by cases h)) ag.nil
  exact J (show(t.h rest aG).set 4 (some (.list (t.data.map V.str++[.str x])))=({t with data:=t.data++[x]}:Tg).h rest aG by simp[Tg.h]) ((ag.nil))
 ·rw[if_neg h0];have hb:OB n (.int t.ig) (t.h rest aG) true:=by
   have:=OB.int (n:=n) (i:=t.ig) (H:=t.h rest aG);rwa [show(t.ig !=0)=true from by simpa using h0] at this
  exact ag.cons (XT.ite (TT.not (TT.value (ET.attr ET.name (GA.t B rfl (b8))) hb)) (fun h=>by cases h) (fun _=>ag.nil)) ag.nil
end
section
variable{n:Nat}{H:AH}{F:Fx}{ρ:Loc}
structure Mc a fd:Prop where
 at_:∃o,br a=some o∧o.data= .func fd
 code:∀h:VN,(∀a o,br a=some o→h.get? a=some o)→h.CodeRec fd.code fd.qualname
 F5:fd.closure=[]
 co:fd.scope.isCoroutine=false
 gen:fd.scope.isGenerator=true
 kind:fd.scope.kind= .function
 glob:fd.globals=mainGlobals
 F6:fd.builtins=builtinsNs
theorem Base.PM(B:Base){a}{fd}{o}(ho:(KK).lookup a=some o)(hd:o.data= .func fd)(hc:codeIn (KK) fd.code fd.qualname=true)
  (F5:fd.closure=[]) (co:fd.scope.isCoroutine=false) (gen:fd.scope.isGenerator=true) (kind:fd.scope.kind= .function) (glob:fd.globals=mainGlobals) (F6:fd.builtins=builtinsNs):Mc a fd:=
 ⟨⟨o,B.uz a o ho,hd⟩,fun h k=>codeRec_of (B.In h k) hc,F5,co,gen,kind,glob,F6⟩
theorem Ij(B:Base):Mc 75 (fdOf 75):=B.PM rfl rfl rfl rfl rfl rfl rfl rfl rfl
theorem Md:(fdOf 75).body= .stmts (bodyOf 75):=rfl
theorem Me S(v u:Value):WA (KK) S (SV (fdOf 75) ⟨[v,u],[]⟩)=some [(("self":RN),v),("ns_stack",u),("_reversed", .type "reversed")]:=rfl
theorem aM.gen(K:Mc a fd):aM (.st (.ref a)):= .mk fun s W H v S r=>by
 cases r;obtain⟨o,ho,hd⟩:=K.at_;refine⟨.frame, .inl rfl,(Xj (S.ground _ _ ho)).andThen ?_⟩;exact hd▸ .now
theorem aC.PN(R:aC A (n+4)):aC (A.in1.over (.func b env) []) n:=by
 refine⟨R.1, ?_, ?_⟩
 ·have:=R.2;show A.depth+0+1+n<_;lia
 ·have:=R.3;show A.units+1+0+3+12*n<_;lia
theorem wj{X Y}{g}{env}{x}{p0 p1 p2 p3 p4 p5 q1 q2 q3 q4}(R:aC A (n+4))(EB:∀a,X a→¬Y a)(E:aA F env)
  (hF:F.names.lookup ("namespaces":RN)=some .local)
  (he:∀env,eval (.Call (.Name "_reversed" q1) [.Name "ns_stack" q2] [] q3) env=(do UT q3 (←eval (.Name "_reversed" q1) env) [] (backTo q3 (starEach [.Name "ns_stack" q2] env)) (backToKw q3 (keywordEach [] env))))
  (hp:∀env,(backTo q3 (starEach [Tk.Name "ns_stack" q2] env)).any (·.1)=false)
  {W1} {H1} {s1} (S:ao W1 H1 s1) (hP:(vQ k L).1 H1) (fr:cR W1 [("self",x),("ns_stack", .ref k),("_reversed", .st (.type "reversed"))] env s1.heap)
  (yu:∀x,s1.heap.get? x=none→Y x) (yl:Y env.locals) (nc:∀n c,env.cells.lookup n≠some c):
  Go (model prog w) A.in1 (Ends A (vQ k L) X Y g ((L.reverse.map (·.2)).flatten) W1 H1 s1) (.func [.For (sK p0) (.Call (.Name "_reversed" q1) [.Name "ns_stack" q2] [] q3) (sL p1 p2 p3 p4 p5) [] q4] env)
   ((model prog w).den (.func [.For (sK p0) (.Call (.Name "_reversed" q1) [.Name "ns_stack" q2] [] q3) (sL p1 p2 p3 p4 p5) [] q4] env)) [] s1:=by
 refine A7 (fm (Ey (fun _=>rfl) ?_));have R0:=aC.PN (b:=[.For (sK p0) (.Call (.Name "_reversed" q1) [.Name "ns_stack" q2] [] q3) (sL p1 p2 p3 p4 p5) [] q4]) (env:=env) R;refine J (he env) (Rh ((ET.name rfl).run _ s1 W1 env R0 S E fr _ fun fv s2 W2 G2 S2 r2=> ?_));cases r2;refine UV (P:=Kp (.type "reversed")) rfl (fun _ h=>h) (cw (ab.cons ET.name ab.nil) R0 S2 E (fr.step G2) (hp env) fun vs s3 W3 G3 S3 r3=>⟨aM.type.run s3 W3 _ _ S3 rfl, ?_⟩);refine Rg fun kG=> ?_;obtain⟨v,rfl,⟨ka,rfl,NT⟩⟩:=r3.one;obtain⟨O3,nH,_,us,m,hL,hv,_⟩:=S3.live k _ hP.1;refine kG ?_;replace nH:=NT▸nH;cases nH;refine call_reversed_list ⟨_,hL,rfl,m,rfl⟩ ?_;have G4:Gr ct W3 s3 W3 _:=Gr.cn W3 s3 (revObj ka (us.toArray.size-1));have hit:(s3.heap.push (revObj ka (us.toArray.size-1))).IsRevIter s3.heap.objs.size ka (us.toArray.size-1):=⟨_,Rx _ rfl,rfl,rfl⟩;refine wpAny_pyIter_revIter hit fun p=> ?_;have NU:=(G2.trans G3).trans G4;have Ik:=fr.step (G2.trans G3);have:=EC (g:=g) (cf:= .func [.For (sK p0) (.Call (.Name "_reversed" q1) [.Name "ns_stack" q2] [] q3) (sL p1 p2 p3 p4 p5) [] q4] env)
  (K1:=fun f=>match f with| .next=>(execs [] env).wrap (fun f=> .pure (.done (.ret (match f with| .ret v=>v|_=> .none)))) (fun e=>(leaving env e).wrap (fun _=> .raise e) .raise id id) id id|f=> .pure (.done (.ret (match f with| .ret v=>v|_=> .none))))
  (Hx:=fun e=>(leaving env e).wrap (fun _=> .raise e) .raise id id) (p0:=p0) (p1:=p1) (p2:=p2) (p3:=p3) (p4:=p4) (p5:=p5) (pf:=p) R EB E hF (Ri _) (Ri _)
  (fun Φ s h=>Et (.ok (.ret .none)) h) L.length (Ri _) W1 H1 s1 W3 {s3 with heap:=s3.heap.push (revObj ka (us.toArray.size-1))} ⟨NU.of,(S3.cn (revObj ka (us.toArray.size-1))),hP,fun x e=>(NU.back e).elim (yu x) fun h=>h.elim⟩
  ⟨(Ik.step G4).sub ae,yl, ?_,⟨ka,NT,by exact(show(us.toArray.size:Int)-1=L.length-1 by exact J (RI ..) (J (hv.length ..) (J (Rk ..) rfl)))▸hit⟩,(S3.fresh (af s3.heap)),fun e=> ?_,nc⟩
 ·have:=aaG▸this;exact this
 ·exact((G2.trans G3).back (af s3.heap)).elim (yu _) fun h=>h.elim
 ·obtain⟨mm,hn,_⟩:=Ik.m;exact ch hn (e▸af _)
theorem tu{gens:Array GenState}{x}{i:Nat}{y}(h:gens[i]?=some y):(gens.push x)[i]?=some y:=by
 exact J Array.getElem?_push (J (if_neg (Te (Uc.mp h).1)) ((h)))
theorem wm(B:Base){k}{L}{x}(hP:(vQ k L).1 H):CG (n+4) (.st (.ref 75)) [x, .ref k] H ((L.reverse.map (·.2)).flatten) (vQ k L) H:=by
 refine .mk fun A s W fv vs R S rf rx Q q=> ?_;cases rf;have K:=Ij B;obtain⟨o,ho,hd⟩:=K.at_;obtain⟨v,u,rfl,rv,ru⟩:=rx.two;have yh:∀y∈[("self":RN),"ns_stack","_reversed"],(fdOf 75).scope.names.lookup y=some .local:=by
  intro y hy;simpa using(SE.mp (show([("self":RN),"ns_stack","_reversed"].all fun y=>(fdOf 75).scope.names.lookup y==some .local)=true from rfl) y hy)
 refine Vk (codeAny_call_generator R.lt (S.ground _ _ ho) hd K.co K.gen (Md) (K.code _ S.ground) ((UO (B.In _ S.ground) (Me _ v u)).here ?_));refine J K.F5 (wpAny_toks (Vb K.kind (fun y hy=> ?_) fun env he s' X ht=> ?_))
 ·refine .inl (yh y.1 ?_);simp at hy⊢;rcases hy with rfl|rfl|rfl<;>simp
 ·have vE:env=callEnvC (fdOf 75) s.heap.objs.size 75:=he;subst vE;obtain⟨f,S',G'⟩:=hO (bs:=[("self",x),("ns_stack", .ref k),("_reversed", .st (.type "reversed"))]) S (show [("self":RN),"ns_stack","_reversed"].Nodup by decide) (⟨v,_,rfl,rv,u,_,rfl,ru,_,_,rfl,rfl,rfl⟩) (fun y hy=> .inl (yh y hy)) X ht;refine⟨B.r8.nolimit _ S'.ground, ?_⟩;have PO:s.gens[s'.gens.size]?=none:=by
   cases e:s.gens[s'.gens.size]? with
   |none=>rfl
   |some y=>have:=G'.gens _ _ e;cases(UE (Ri _))▸this
  generalize vS:({s' with gens:=s'.gens.push (.fresh (.func (bodyOf 75) (callEnvC (fdOf 75) s.heap.objs.size 75))),toks:=s'.toks+1+1,heap:=s'.heap.push {cls:= .type "generator",data:= .fields #[.int s'.gens.size 0, .str (fdOf 75).name s'.toks, .str (fdOf 75).qualname (s'.toks+1)]}}:RT)=s3;have J6:s3.heap=s'.heap.push {cls:= .type "generator",data:= .fields #[.int s'.gens.size 0, .str (fdOf 75).name s'.toks, .str (fdOf 75).qualname (s'.toks+1)]}:=by rw[←vS]
  have Mf:s3.gens=s'.gens.push (.fresh (.func (bodyOf 75) (callEnvC (fdOf 75) s.heap.objs.size 75))):=by rw[←vS]
  have keep:∀b o,s'.heap.get? b=some o→s3.heap.get? b=some o:=fun b o e=>by exact J6▸Rp _ e
  have G3:Gr ct W s' W s3:=⟨W.le_refl,fun _ h=> .inl h,fun _ _ h=> .inl h,fun b o e _ _=>keep b o e,fun b h _=>bt keep b h,(by exact aQ vS rfl),fun i y e=>by exact Mf▸tu e⟩;have yx:s3.heap.IsGen s'.heap.objs.size s'.gens.size:=⟨_,_,_,by exact J6▸Rx _ rfl,rfl,rfl,rfl⟩;refine wpAny_pyIter_gen yx (q _ s3 W (G'.trans G3) (S'.same (fun b o e _=>keep b o e) (Mf▸S'.bare.push rfl) (by exact aQ vS ((gl (gl (Ri _)))))) fun X' Mg=> ?_);refine x9 (Y:=fun a=>s.heap.get? a=none∧a≠s'.heap.objs.size) R B.r8.nolimit (fun h=>Mg _ h ((G'.back (af s'.heap)).resolve_right id)) (fun h=>h.2 rfl) (fun _ h=>h.1) PO (fun _=>trivial) _ W s3 (.fresh (.func (bodyOf 75) (callEnvC (fdOf 75) s.heap.objs.size 75))) yx (S'.fresh (af s'.heap)) ?_ ?_
  ·refine J Mf ?_;simp
  ·intro s1 W1 H1 G S1 p1 x1;have nc:∀y c,(callEnvC (fdOf 75) s.heap.objs.size 75).cells.lookup y≠some c:=by
    intro y c e;cases e
   have f1:=(f.step G3).di G ((show(callEnvC (fdOf 75) s.heap.objs.size 75).locals=s.heap.objs.size from rfl)▸(fun h=>Mg _ h (af _))) fun y c e=>absurd e (nc y c);refine wj (F:=⟨(fdOf 75).scope.names,(fdOf 75).code,true,RB⟩) R (fun a h y=>Mg a h y.1) ⟨rfl,K.kind,K.glob,K.F6,rfl,K.co,(fun _ y c _ hc=>absurd hc (nc y c)),(fun _ h=>by cases h)⟩ rfl (by intro _;rfl) (by intro _;rfl) (S1.setGen s'.gens.size rfl) p1 f1 (fun b e=> ?_) ⟨af _, ?_⟩ nc
   ·rcases G.back e with h|h
    ·exact⟨(G'.back ((G3.back h).resolve_right id)).resolve_right id,fun q=>by subst q;obtain⟨_,_,_,ho,_⟩:=yx;cases ho.symm.trans h⟩
    ·exact absurd e (x1 b h)
   ·intro e;obtain⟨mm,hn,_⟩:=f.m;have:s'.heap.get? s.heap.objs.size≠none:=ch hn;rw[show s.heap.objs.size=s'.heap.objs.size from e,af] at this;exact this rfl
end
section
variable{n:Nat}{H:AH}{F:Fx}{ρ:Loc}
theorem i8.sub{g}(h:i8 n F P target body orelse xs ρ' H g an H1)(k:∀n x,ρ'.lookup n=some x→ρ.lookup n=some x):
  i8 n F P target body orelse xs ρ H g an H1:= .mk fun A s W env it Z Y R S E fr hl hc fd Q q=>h.run A s W env it Z Y R S E (fr.sub k) hl hc fd Q q
theorem i8.post{ρ' an}{H1}{g}(h:i8 n F P target body orelse xs ρ H g an H1)(k:∀n x,ρ'.lookup n=some x→an.lookup n=some x):
  i8 n F P target body orelse xs ρ H g ρ' H1:= .mk fun A s W env it Z Y R S E fr hl hc fd Q q=>h.run A s W env it Z Y R S E fr hl hc fd Q fun g s' W' G' S' f' r'=>q g s' W' G' S' (f'.sub k) r'
noncomputable abbrev wn:Vy:=av (bodyOf 90) 2
noncomputable def r9(p:Nat)(uri tag:RN):Loc:=[("prefixes_seen", .ref p),("tag", .str tag),("uri", .str uri),("self", .ref 2)]
noncomputable def mi(p tag uri:RN):V:= .tup [.str (p++":"++tag), .str tag, .str uri]
theorem fG(p tag:RN):(p++":"++tag).length=p.length+1+tag.length:=by
 refine J (RC ..) (J (RC ..) ?_);rfl
theorem yV{k}{p tag}(h1:ET n F e1 ρ H (.str p) H)(h2:ET n F e2 ρ H (.str tag) H)(hz:p.length≤1000)(AI:tag.length≤1000):
  ET n F (.JoinedStr [.FormattedValue e1 (-1) RB p1, .Constant (.str ":") k p2, .FormattedValue e2 (-1) RB p3] p4) ρ H (.str (p++":"++tag)) H:=by
 have hl:=fG p tag;have e0:Wp++p=p:=by cases p;show(⟨#[]++_⟩:RN)=_;rw[Array.empty_append]
 refine ET.A1 (FP.cons (ET.qb h1) (FP.cons ET.str (FP.cons (ET.qb h2) (by refine J e0 ?_;exact FP.nil) (by refine J e0 ?_;exact ap (bD hl) (iI (ap (ba (ba hz (Ri _)) AI) dc)))) ?_) (J e0 (gC hz))) (ap (bD hl) (iI (ap (ba (ba hz (Ri _)) AI) dc)));exact J (e0 ..) (J (RC ..) ((iI (ap (ba hz (Ri _)) dc))))
theorem dY{α:Type}{l}{x:α}:(l++[x])[l.length]?=some x:=by simp
theorem qB{α:Type}{l}{x y:α}:(l++[x]).set l.length y=l++[y]:=by simp
theorem Bz(hP:∀seen,P.1 (H++[some (.sset seen)]))(J7:∀t,P.2 t):∀(items:List (RN×RN)) seen,(∀p∈items,p.1≠uri)→seen.length+items.length+1<X7→
  i8 n (ay 90) P (jL (wn)) (gc (wn)) [] (items.map iV) (r9 H.length uri tag) (H++[some (.sset seen)]) .next (r9 H.length uri tag) (H++[some (.sset (seen++items.map (·.2)))]):=by
 intro rv
 induction rv with
 |nil=>
  intro seen _ _;exact J (Su ..) (J (Su ..) (J (RF ..) ((i8.nil (hP _) ag.nil))))
 |cons pq items ih=>
  obtain⟨u,p⟩:=pq;intro seen aV hz;refine J (show seen++((u,p)::items).map (·.2)=(seen++[p])++items.map (·.2) by simp) (i8.cons (hP _) (J7 _) (AT.tuple (aX.cons (AT.name (ST.local rfl)) (aX.cons (AT.name (ST.local rfl)) aX.nil))) ?_ (i8.sub (ih (seen++[p]) (fun q hq=>aV q (Rm _ hq)) (by simp at hz⊢;exact elt (adr (io (Ri _))) hz)) (show∀m z,(r9 H.length uri tag).lookup m=some z→(("prefix",V.str p)::("u",V.str u)::r9 H.length uri tag:Loc).lookup m=some z from aa rfl (aa rfl (aa rfl (aa rfl ae))))));have ho:=OT.eq_str (n:=n) (x:=u) (y:=uri) (H:=H++[some (.sset seen)]);rw[show(u==uri)=false from by simpa using(aV (u,p) Rn)] at ho;refine ag.cons (XT.ite (TT.bo (aL.and_false (TT.cmp ET.name ET.name ho))) (fun h=>by cases h) (fun _=>ag.nil)) ?_;refine ag.cons (XT.expr (ET.aT ET.name (GM.of (Ty.lH dY) (aJ.lH dY) YT Zn Zm)
   (ab.cons ET.name ab.nil) aM.builtin (CT.setAdd dY (by lia)))) ?_
  exact J qB ((ag.nil))
theorem E5{uri tag pf}(hP:∀seen,P.1 (H++[some (.sset seen)]))(J7:∀t,P.2 t)(Mh:pf.length≤1000)(Mi:pf.length≠0)(E6:tag.length≤1000):∀pre post seen,(∀p∈pre,p.1≠uri)→pf∉seen++pre.map (·.2)→seen.length+pre.length+1<X7→
  i8 n (ay 90) P (jL (wn)) (gc (wn)) [] ((pre++(uri,pf)::post).map iV) (r9 H.length uri tag) (H++[some (.sset seen)]) (.ret (mi pf tag uri)) (r9 H.length uri tag) (H++[some (.sset (seen++pre.map (·.2)))]):=by
 intro rv
 induction rv with
 |nil=>
  intro post seen _ hn hz;rw[Su,RF] at hn⊢;refine i8.post (i8.xZ (hP _) (J7 _) (AT.tuple (aX.cons (AT.name (ST.local rfl)) (aX.cons (AT.name (ST.local rfl)) aX.nil))) ?_) (show∀m z,(r9 H.length uri tag).lookup m=some z→(("prefix",V.str pf)::("u",V.str uri)::r9 H.length uri tag:Loc).lookup m=some z from aa rfl (aa rfl (aa rfl (aa rfl ae))));have ho:=OT.eq_str (n:=n) (x:=uri) (y:=uri) (H:=H++[some (.sset seen)]);rw[show(uri==uri)=true from by simp] at ho;have sG:=OT.vR (n:=n) (x:=pf) (H:=H++[some (.sset seen)]) dY;rw[show decide (pf∈seen)=false from by simpa using hn] at sG;have hb:=OB.str (n:=n) (x:=pf) (H:=H++[some (.sset seen)]);rw[show(pf.length !=0)=true from by simpa using Mi] at hb;refine ag.ret (XT.ite (TT.bo (aL.and_true (TT.cmp ET.name ET.name ho) (aL.and_true (TT.cmp ET.name ET.name sG) aL.and_nil))) (fun _=>ag.ret (XT.ret ?_)) (fun h=>by cases h));refine ET.tuple (ab.cons (ET.de (TT.value ET.name hb) (fun _=>yV ET.name ET.name Mh E6) (fun h=>by cases h)) (ab.cons ET.name (ab.cons ET.name ab.nil))) (show 3≤Rs by decide)
 |cons pq pre ih=>
  obtain⟨u,p⟩:=pq;intro post seen aV hn hz;refine J (show seen++((u,p)::pre).map (·.2)=(seen++[p])++pre.map (·.2) by simp) (i8.cons (hP _) (J7 _) (AT.tuple (aX.cons (AT.name (ST.local rfl)) (aX.cons (AT.name (ST.local rfl)) aX.nil))) ?_ (i8.sub (ih post (seen++[p]) (fun q hq=>aV q (Rm _ hq)) (by simpa using hn) (by simp at hz⊢;exact elt (adr (io (Ri _))) hz)) (show∀m z,(r9 H.length uri tag).lookup m=some z→(("prefix",V.str p)::("u",V.str u)::r9 H.length uri tag:Loc).lookup m=some z from aa rfl (aa rfl (aa rfl (aa rfl ae))))));have ho:=OT.eq_str (n:=n) (x:=u) (y:=uri) (H:=H++[some (.sset seen)]);rw[show(u==uri)=false from by simpa using(aV (u,p) Rn)] at ho;refine ag.cons (XT.ite (TT.bo (aL.and_false (TT.cmp ET.name ET.name ho))) (fun h=>by cases h) (fun _=>ag.nil)) ?_;refine ag.cons (XT.expr (ET.aT ET.name (GM.of (Ty.lH dY) (aJ.lH dY) YT Zn Zm)
   (ab.cons ET.name ab.nil) aM.builtin (CT.setAdd dY (by lia)))) ?_
  exact J qB ((ag.nil))
end
theorem BA us post(lv:List (Option (List RN))):∀pre,∀p∈fq us pre.length lv,(pre++(ft us lv++post))[p.1]?=some (some (.list p.2)):=by
 induction lv with
 |nil=>intro _ _ h;cases h
 |cons o lv ih=>
  have ih:=fun pre x p h=>ih (pre++[x]) p (Ro▸h);intro pre p h;cases o with
  |none=>
   have:=ih pre none p h;rw[RP] at this;exact this
  |some l=>
   rcases Rt.mp h with rfl|h
   ·exact(RL (Ri _)).trans (J (So ..) rfl)
   ·have:=ih pre (some (AO.list (l.map fun u=>iV (bk us u)))) p h;rw[RP] at this;exact this
theorem iN us:∀(lv:List (Option (List RN))) b,((fq us b lv).reverse.map (·.2)).flatten=(((live lv).reverse.flatten).map (bk us)).map iV
 |[],_=>rfl
 |none::lv,b=>by
  exact(iN us lv (b+1))
 |some l::lv,b=>by
  refine J SN (J RH (J Tf (J (iN us lv (b+1)) ?_)));simp[live,Function.comp_def]
theorem wo us(lv:List (Option (List RN))) b:((iw us b lv).reverse.map (·.2)).flatten=(((live lv).reverse.flatten).map (bk us)++[jl]).map iV:=by
 rw[iw,SN,RH,Tf,iN];simp
theorem gR us(l1 l2:List (Option (List RN))):∀b,fq us b (l1++l2)=fq us b l1++fq us (b+l1.length) l2:=by
 induction l1 with
 |nil=>exact fun _=>rfl
 |cons o l1 ih=>
  intro b;have e:b+1+l1.length=b+(o::l1).length:=RQ▸Kw;cases o with
  |none=>exact e▸ih (b+1)
  |some l=>exact e▸congrArg (List.cons _) (ih (b+1))
theorem jR us:∀(ds:List (Option (List RN))) b,(∀d∈ds,d=none)→fq us b ds=[]
 |[],_,_=>rfl
 |none::ds,b,h=>jR us ds (b+1) fun d hd=>h d (Rm _ hd)
 |some l::ds,b,h=>by cases(h (some l) Rn)
theorem oQ(us kI:List RN):∀(lv:List (Option (List RN))) b,(fq us b lv).map (fun p=>V.ref p.1)=(fq kI b lv).map (fun p=>V.ref p.1)
 |[],_=>rfl
 |none::lv,b=>oQ us kI lv (b+1)
 |some l::lv,b=>by show _::_=_::_;rw[oQ us kI lv (b+1)]
theorem fH us:∀(lv:List (Option (List RN))) b,(fq us b lv).length=(live lv).length
 |[],_=>rfl
 |none::lv,b=>fH us lv (b+1)
 |some l::lv,b=>by show _+1=_+1;exact(fH us lv (b+1))▸rfl
noncomputable def ei(f:List RN→Option (List RN)):List (Option (List RN))→List (Option (List RN))
 |[]=>[]
 |none::r=>none::ei f r
 |some l::r=>if r.any Xp then some l::ei f r else f l::r
theorem tv:ei f (some l::r)=if r.any Xp then some l::ei f r else f l::r:=rfl
theorem eS f l(ds:List (Option (List RN)))(hd:∀d∈ds,d=none):∀(ls:List (Option (List RN))),ei f (ls++some l::ds)=ls++f l::ds
 |[]=>by
  show(if ds.any Xp then _ else _)=_;rw[if_neg];·rfl
  intro h;obtain⟨d,h1,h2⟩:=U6.mp h;cases(hd d h1)▸h2
 |none::ls=>by exact congrArg _ (eS f l ds hd ls)
 |some x::ls=>by
  show(if(ls++some l::ds).any Xp then some x::ei f (ls++some l::ds) else _)=_;refine J (if_pos (by simp)) (J (eS f l ds hd ls) ?_);rfl
theorem b7(a b:List (Option (List RN))):live (a++b)=live a++live b:=List.filterMap_append ..
theorem hV:∀{ds},(∀d∈ds,d=none)→live ds=[]
 |[],_=>rfl
 |none::ds,h=>hV (ds:=ds) fun d hd=>h d (Rm _ hd)
 |some l::ds,h=>by cases(h (some l) Rn)
theorem oR:live lv≠[]→∃ls l ds,lv=ls++some l::ds∧∀d∈ds,d=none:=by
 induction lv with
 |nil=>exact fun h=>absurd rfl h
 |cons o r ih=>
  intro h;by_cases hr:live r=[]
  ·cases o with
   |none=>exact absurd hr h
   |some l=>
    refine⟨[],l,r,rfl,fun d hd=> ?_⟩;cases d with
    |none=>rfl
    |some x=>
     have:x∈live r:=List.mem_filterMap.mpr ⟨_,hd,rfl⟩;cases hr▸this
  ·obtain⟨ls,l,ds,e,hd⟩:=ih hr;exact⟨o::ls,l,ds,congrArg (List.cons o) e,hd⟩
noncomputable def Tg.qn(t:Tg)(u:RN):Tg:=if u∈(live t.lv).flatten then t else {t with us:=if u∈t.us then t.us else t.us++[u],lv:=ei (fun l=>some (l++[u])) t.lv}
structure Tg.ok(t:Tg):Prop where
 mem:∀u∈(live t.lv).flatten,u∈t.us
 len:t.us.length≤100
 nd:t.us.Nodup
 AJ:kH∉t.us
theorem jo{u v:RN}(h:u∈us):(us++[v]).idxOf u=us.idxOf u:=by rw[Vz,if_pos h]
theorem oT(h:u∈us):bk (us++[v]) u=bk us u:=by unfold bk bB;rw[jo h]
theorem yW(h:v∉us):iW (us++[v])=iW us++[(v, .str ("n"++jj us.length))]:=by
 unfold iW;refine J RH ?_;congr 1
 ·exact R9 fun u hu=>by unfold bB;rw[jo hu]
 ·simp[bB,Vz,h]
theorem tw:∀(us:List RN) v,(us.map fun u=>(u,V.str (bB LY u))).lookup v=if v∈us then some (.str (bB LY v)) else none:=by
 intro rv
 induction rv with
 |nil=>
  intro v;exact rfl
 |cons u us ih=>
  intro v;refine J RD (J lookup_cons (J (ih v) ?_));by_cases h:v=u
  ·subst h;simp
  ·simp[h]
theorem iO:∀{lv},(∀u∈(live lv).flatten,u∈us)→ft (us++[v]) lv=ft us lv
 |[],_=>rfl
 |none::lv,h=>by show none::ft (us++[v]) lv=none::ft us lv;rw[iO (lv:=lv) h]
 |some l::lv,h=>by
  show some (AO.list _)::ft _ lv=some (AO.list _)::ft _ lv;refine J (iO (fun u hu=>h u (J VA ((Sg _ hu))))) ?_;congr 3;refine R9 fun u hu=> ?_;rw[oT ((fun u hu=>h u (by show u∈(l::live lv).flatten;simp[hu])) u hu)]
noncomputable def Il(s:RN):Nat:=s.cps.toList.foldl (fun a c=>a*10+(c-48)) 0
theorem qC:∀i<120,Il (jj i)=i:=by decide+kernel
theorem yX i(hi:i<120) j(hj:j<120)(e:jj i=jj j):i=j:=(qC i hi).symm.trans ((congrArg Il e).trans (qC j hj))
theorem qD:∀i<120,(jj i).length≤3:=by decide+kernel
theorem kT(hl:us.length≤100)(hu:u∈us)(hv:v∈us)(e:bB us u=bB us v):u=v:=by
 have h1:=YF hu;have h2:=YF hv;unfold bB at e;have e':jj (us.idxOf u)=jj (us.idxOf v):=by
  have:=congrArg (fun x:RN=>x.cps.toList.tail) e;have k:∀x:RN,("n"++x).cps.toList.tail=x.cps.toList:=fun x=>by
   exact congrArg _ Array.toList_append
  simp only[k] at this;generalize jj (us.idxOf u)=a at*;generalize jj (us.idxOf v)=b at*;cases a;cases b;simp at this;rw[this]
 refine aQ (aaf h1) (aQ (aaf h2) ?_);simp[(yX _ (ap h1 (ap hl dc)) _ (ap h2 (ap hl dc)) e')]
theorem dw(hl:us.length≤100):(bB us u).length≤4∧(bB us u).length≠0:=by
 have:=qD (us.idxOf u) (elt ZO (elt hl dc));refine J (RC ..) ?_;have:("n":RN).length=1:=rfl;lia
noncomputable def Mj(s:Vy):Tk:=by
 cases s with
 |For _ i=>exact i
 |_=>exact default
section
variable{n:Nat}{H:AH}{F:Fx}{ρ:Loc}
structure QN(q uri tag:RN):Prop where
 Im:(TH q none (some 1)=="{")=true
 cut:Uv (TH q (some 1) none) "}" 1=[uri,tag]
 ql:q.length≤1000
 ul:uri.length≤1000
 tl:tag.length≤1000
 nx:uri≠kH
theorem Binds.PQ(B:Base){fd}{a b c}{x y z}{d}(e:∀S(v u:Value),WA (KK) S (SV fd ⟨[v,u],[]⟩)=some [(a,v),(b,u),(c,d)])(hz:∀W,Rel W z d):Binds fd [x,y] [] [(a,x),(b,y),(c,z)]:=fun h W vs kv k r rn=>by
 cases rn;obtain⟨v,u,rfl,rv,ru⟩:=r.two;exact⟨_,UO (B.In h k) (e _ v u),v,_,rfl,rv,u,_,rfl,ru,d,_,rfl,hz W,rfl⟩
theorem Tg.kh(t:Tg)(rest aG:AH) x:t.h rest aG++[x]=t.h rest (aG++[x]):=by simp
theorem Tg.Mk(t:Tg)(rest aG:AH):∀p∈iw t.us (11+rest.length) t.lv,(t.h rest aG)[p.1]?=some (some (.list p.2)):=by
 intro p hp;rw[iw,Rt] at hp;rcases hp with rfl|hp
 ·rfl
 ·exact(BA t.us aG t.lv ((t.h rest aG).take 11++rest) p ((show((t.h rest aG).take 11++rest).length=11+rest.length by exact Ro)▸hp))
theorem Tg.PR(t:Tg)(rest aG:AH):(vQ 7 (iw t.us (11+rest.length) t.lv)).1 (t.h rest aG):=⟨rfl,t.Mk rest aG⟩
theorem ty(B:Base){q uri tag}(hq:QN q uri tag){H}:
  XT n (ay 90) (av (bodyOf 90) 0) [("self", .ref 2),("qname", .str q),("uri", .none)] H .next [("tag", .str tag),("uri", .str uri),("self", .ref 2)] H:=by
 refine XT.ite (c:=true) (TT.cmp ET.name ET.none (OT.is_none (fun _ _ r=>by cases r;rfl))) (fun _=> ?_) (fun h=>by cases h);have hb:=OT.eq_str (n:=n) (x:=TH q none (some 1)) (y:="{") (H:=H);rw[hq.Im] at hb;refine ag.sub (ag.cons (XT.assign (ET.de (TT.cmp (ET.iM ET.name PT.none (PT.some ET.int)) ET.str hb) (fun _=> ?_) (fun h=>by cases h)) (bw.one (AT.lB (aX.cons (AT.name (ST.local rfl)) (aX.cons (AT.name (ST.local rfl)) aX.nil))))) ag.nil) (aa rfl (aa rfl (aa rfl ae)));have hc:=CT.su (n:=n) (H:=H) rfl (by refine J hq.cut ?_;simp;decide) (by refine J hq.cut ?_;intro p hp;simp at hp;rcases hp with rfl|rfl;exact gC hq.ul;exact ap hq.tl dc);rw[hq.cut] at hc;exact ET.aT (ET.iM ET.name (PT.some ET.int) PT.none)
  (GM.of Ty.str aJ.str Sd PySem.F.slot_str_rsplit PySem.F.type_str_rsplit) (ab.cons ET.str (ab.cons ET.int ab.nil)) aM.builtin hc
theorem Tg.E7{t:Tg}(ok:t.ok) u:u∈(t.qn u).us:=by
 delta Tg.qn
 refine bn (fun _=> ?_) fun _=> ?_
 ·rename_i h;exact ok.mem u h
 ·refine bn (fun _=> ?_) fun _=> ?_
  ·assumption
  ·simp
theorem Tg.nS{t:Tg}{ls ds}{l}(ki:t.lv=ls++some l::ds)(rest aG:AH):
  t.h rest aG=((t.h rest aG).take 11++(rest++ft t.us ls))++(some (AO.list (l.map fun u=>iV (bk t.us u)))::(ft t.us ds++aG))∧((t.h rest aG).take 11++(rest++ft t.us ls)).length=11+rest.length+ls.length:=by
 constructor
 ·refine J (show t.h rest aG=(t.h rest aG).take 11++(rest++(ft t.us t.lv++aG)) from rfl) (J ki ?_);simp[ft]
 ·refine J Ro (J Ro ?_);show 11+(rest.length+(ft t.us ls).length)=_;simp[ft];exact JL
theorem Tg.kU{t:Tg}{ls ds}{l}(ki:t.lv=ls++some l::ds)(rest aG:AH):(t.h rest aG)[11+rest.length+ls.length]?=some (some (.list (l.map fun u=>iV (bk t.us u)))):=by
 obtain⟨e,hl⟩:=t.nS ki rest aG;refine J (e ..) (J (RL (bD hl)) (J (hl ..) (J (So ..) ?_)));rfl
theorem jp{ls ds}{l}(hd:∀d∈ds,d=none) b:fq us b (ls++some l::ds)=fq us b ls++[(b+ls.length,l.map fun u=>iV (bk us u))]:=by
 rw[gR];show _++(_::fq us _ ds)=_;rw[jR us ds _ hd]
theorem jq{ls ds}{l}(hd:∀d∈ds,d=none):live (ls++some l::ds)=live ls++[l]:=by
 rw[b7];show _++(l::live ds)=_;rw[hV hd]
theorem Tg.yY{t:Tg}{ls ds}{l}(ki:t.lv=ls++some l::ds)(hd:∀d∈ds,d=none)(rest aG:AH) u:
  (t.h rest aG).set (11+rest.length+ls.length) (some (.list ((l.map fun u=>iV (bk t.us u))++[iV (bk t.us u)])))=({t with lv:=ls++some (l++[u])::ds}:Tg).h rest aG:=by
 obtain⟨e,hl⟩:=t.nS ki rest aG;refine J ((show(t.h rest aG).set (11+rest.length+ls.length) (some (.list ((l.map fun u=>iV (bk t.us u))++[iV (bk t.us u)])))=(((t.h rest aG).take 11++(rest++ft t.us ls))++(some (AO.list (l.map fun u=>iV (bk t.us u)))::(ft t.us ds++aG))).set (11+rest.length+ls.length) (some (.list ((l.map fun u=>iV (bk t.us u))++[iV (bk t.us u)]))) by exact aQ e rfl) ..) (J (Sb _ _ (bD hl)) (J (hl ..) (J (So ..) ?_)));have h2:(iw t.us (11+rest.length) (ls++some (l++[u])::ds)).map (fun p=>V.ref p.1)=(iw t.us (11+rest.length) t.lv).map (fun p=>V.ref p.1):=by
  refine J ki ?_;delta iw;rw[jp hd,jp hd];simp
 show _=[some (AO.tab 123 tj qy),some (AO.list (t.told.map V.str)),some (.inst 150 3),some (.ns (bK t.rs t.rd t.ig)),some (.list (t.data.map V.str)),some (.sset [t.ex]),some (.list [iV jl]),
  some (.list ((iw t.us (11+rest.length) (ls++some (l++[u])::ds)).map fun p=> .ref p.1)),some (.list (Ry t.k (.lst []))),some (.dict (iW t.us)),some (.list (Ry t.k (.bool false)))]++
  (rest++(ft t.us (ls++some (l++[u])::ds)++aG))
 refine J h2 ?_;simp[ft]
theorem mj(B:Base){t:Tg}(ok:t.ok){rest aG:AH}{q uri tag:RN}(hq:QN q uri tag)(aV:live t.lv≠[])(hlen:(live t.lv).flatten.length≤200)(c7:t.us.length<100):
  ∃seen,CC (n+4+1) (.st (.ref 90)) [.ref 2, .str q] [] (t.h rest aG) (mi (bB (t.qn uri).us uri) tag uri) ((t.qn uri).h rest (aG++[some (.sset seen)])):=by
 have uu:X7=4096:=rfl;have hP:∀seen,(vQ 7 (iw t.us (11+rest.length) t.lv)).1 (t.h rest aG++[some (.sset seen)]):=fun seen=>by exact J (t.kh ..) ((t.PR rest _))
 have head:∀{g:Fl}{H1:AH}{an:Loc},ag (n+4) (ay 90) ((bodyOf 90).drop 1) [("tag", .str tag),("uri", .str uri),("self", .ref 2)] (t.h rest aG) g an H1→
   CC (n+4+1) (.st (.ref 90)) [.ref 2, .str q] [] (t.h rest aG) g.out H1:=fun h=>
  CC.def (E2 B) B.r8.nolimit (L8) (Binds.PQ B (L9) (z:= .none) fun _=>rfl) (show [("self":RN),"qname","uri"].Nodup by decide)
   (fun x hx=>by
    have:([("self":RN),"qname","uri"].all fun x=>(fdOf 90).scope.names.lookup x==some .local)=true:=kr;have:=SE.mp this x hx;left;simpa using this)
   (ag.cons (ty B hq) h)
 have DG:∀{g:Fl}{H1:AH}{an:Loc},ag (n+4) (ay 90) ((bodyOf 90).drop 2) (r9 (t.h rest aG).length uri tag) (t.h rest aG++[some (.sset [])]) g an H1→
   CC (n+4+1) (.st (.ref 90)) [.ref 2, .str q] [] (t.h rest aG) g.out H1:=fun h=>
  head (ag.cons (XT.assign (ET.call (ET.az B (yL) yO) ab.nil aM.type CT.EE) (bw.one (AT.name (ST.local rfl)))) h)
 have iter:∀{x:AH},x=[some (AO.sset [])]→x2 (n+4) (ay 90) (Mj (wn)) (r9 (t.h rest aG).length uri tag) (t.h rest aG++x) ((((live t.lv).reverse.flatten).map (bk t.us)++[jl]).map iV) (vQ 7 (iw t.us (11+rest.length) t.lv)) (t.h rest aG++x):=fun hx=>by
  subst hx;exact aQ (wo t.us t.lv (11+rest.length)) ((x2.aT ET.name (GM.tX B rfl rfl rfl (Bx) rfl) (ab.cons (ET.attr ET.name (GA.tX B rfl rfl rfl (kR))) ab.nil) (aM.gen (Ij B)) (wm B (hP _))))
 have yZ:∀u,u∈(live t.lv).reverse.flatten↔u∈(live t.lv).flatten:=fun u=>by simp[List.mem_flatten]
 have DH:(live t.lv).reverse.flatten.length=(live t.lv).flatten.length:=by simp[Z0,List.sum_reverse]
 by_cases hu:uri∈(live t.lv).flatten
 ·have Ml:t.qn uri=t:=by delta Tg.qn;rw[if_pos hu]
  obtain⟨as,bs,nO,BB⟩:=List.eq_append_cons_of_mem ((yZ uri).mpr hu);have qi:=dw (u:=uri) ok.len;refine⟨(as.map (bk t.us)).map (·.2), ?_⟩;refine J (Ml ..) (aQ (t.kh ..) ?_);refine DG (an:=r9 (t.h rest aG).length uri tag) (ag.ret (Nv.for (iter rfl) ?_));have hit:=E5 (n:=n+4) (uri:=uri) hP (fun _=>trivial) (by lia) qi.2 hq.tl (as.map (bk t.us)) (bs.map (bk t.us)++[jl]) [] (fun p hp=>by
   obtain⟨u,Gf,rfl⟩:=Rz.mp hp;intro e;rw[←e] at BB;exact BB Gf) (fun h=>by
   rw[TM,RO] at h;obtain⟨u,Gf,e⟩:=Rz.mp h;have:=kT ok.len (ok.mem u ((yZ u).mp (by refine J nO ?_;simp[Gf]))) (ok.mem uri hu) e;rw[←this] at BB;exact BB Gf) (by
   have:as.length≤(live t.lv).flatten.length:=by refine aQ DH (J nO ?_);simp
   simp;exact F2 (elt this (elt hlen dc)))
  have e:(((live t.lv).reverse.flatten).map (bk t.us)++[jl]).map iV=((as.map (bk t.us))++(uri,bB t.us uri)::(bs.map (bk t.us)++[jl])).map iV:=by
   refine J nO ?_;simp[bk]
  refine J e ?_;exact hit
 ·have PS:∀p∈((live t.lv).reverse.flatten).map (bk t.us)++[jl],p.1≠uri:=fun p hp=>by
   rcases RE.mp hp with hp|hp
   ·obtain⟨u,Gf,rfl⟩:=Rz.mp hp;intro e;exact hu ((yZ uri).mp (aQ e ((Gf))))
   ·simp at hp;subst hp;exact fun e=>hq.nx e.symm
  obtain⟨ls,l,ds,ki,hd⟩:=oR aV;generalize PU:([]:List RN)++(((live t.lv).reverse.flatten).map (bk t.us)++[jl]).map (·.2)=seen;refine⟨seen, ?_⟩;have DI:=Bz (n:=n+4) (tag:=tag) hP (fun _=>trivial) (((live t.lv).reverse.flatten).map (bk t.us)++[jl]) [] PS (by refine J (Ro ..) (J (Rk ..) (J (DH ..) ?_));show 0+((live t.lv).flatten.length+1)+1<X7;lia);rw[PU] at DI;have wt:=Nv.for (iter rfl) DI (pos:=(wn).pos);rw[t.kh rest aG (some (AO.sset seen))] at wt;have BC:∀kI,(iw kI (11+rest.length) t.lv).map (fun p=>V.ref p.1)=(.ref 6::(fq kI (11+rest.length) ls).map (fun p=>V.ref p.1))++[.ref (11+rest.length+ls.length)]:=fun kI=>by
   refine J ki ?_;delta iw;rw[jp hd];simp
  have top:∀kI,OT (n+4) Vx (.ref 7) (.int (-1)) (({t with us:=kI}:Tg).h rest (aG++[some (.sset seen)])) (.ref (11+rest.length+ls.length)) (({t with us:=kI}:Tg).h rest (aG++[some (.sset seen)])):=fun kI=>by
   refine OT.dg (i:=(live ls).length+1) rfl (by rw[BC,Ro,RQ,Rk,fH,SI];push_cast;lia) ?_;rw[BC,RL (by rw[RQ,Rk,fH];exact Ri _),RQ,Rk,fH,So];rfl
  have J8:=dw (us:=(t.qn uri).us) (u:=uri) (by
   delta Tg.qn;refine J (if_neg hu) ?_;dsimp only;refine bn (fun _=> ?_) fun _=> ?_
   ·exact TC c7
   ·exact J Ro (J SI ((c7))))
  have Mm:l.length<Rs:=by
   have:l.length≤(live t.lv).flatten.length:=by refine J ki (J (jq hd) ?_);simp
   exact elt this (elt hlen dc)
  have tail:∀kI,kI=(t.qn uri).us→(bB kI uri).length≤4→
    ag (n+4) (ay 90) ((uN (av (bodyOf 90) 3)).drop 1) (("prefix",V.str (bB kI uri))::r9 (t.h rest aG).length uri tag) (({t with us:=kI}:Tg).h rest (aG++[some (.sset seen)])) (.ret (mi (bB kI uri) tag uri))
     (("prefix",V.str (bB kI uri))::r9 (t.h rest aG).length uri tag) ((t.qn uri).h rest (aG++[some (.sset seen)])):=fun kI sa qi=>by
   have e:=({t with us:=kI}:Tg).yY ki hd rest (aG++[some (.sset seen)]) uri;have eq:({{t with us:=kI} with lv:=ls++some (l++[uri])::ds}:Tg)=t.qn uri:=by
    subst sa;delta Tg.qn;rw[if_neg hu,(show ei (fun l=>some (l++[uri])) t.lv=ls++some (l++[uri])::ds by rw[ki,eS _ _ _ hd])]
   rw[eq] at e;refine ag.cons (XT.expr (ET.aT
    (ET.sub (ET.attr ET.name (GA.tX B rfl rfl rfl (kR))) (ET.unary ET.int j4.neg) (Ty.ai rfl) RU.lookup (top kI))
    (GM.of (Ty.ai (({t with us:=kI}:Tg).kU ki rest _)) (aJ.ai (({t with us:=kI}:Tg).kU ki rest _)) RJ YE R7)
    (ab.cons (ET.tuple (ab.cons ET.name (ab.cons ET.name ab.nil)) (show 2≤Rs by decide)) ab.nil) aM.builtin (CT.append (({t with us:=kI}:Tg).kU ki rest _) (J (Rk ..) Mm)))) ?_
   exact J e ((ag.ret (XT.ret (ET.tuple (ab.cons (yV ET.name ET.name (by lia) hq.tl) (ab.cons ET.name (ab.cons ET.name ab.nil))) (show 3≤Rs by decide)))))
  refine DG (g:= .ret (mi (bB (t.qn uri).us uri) tag uri)) (an:=("prefix",V.str (bB (t.qn uri).us uri))::r9 (t.h rest aG).length uri tag) (ag.cons wt (ag.ret (XT.ite (TT.value (ET.attr ET.name (GA.t B rfl (tp))) OB.bool) (fun _=> ?_) (fun h=>by cases h))));have qE:=OT.in_dict (n:=n+4) (k:=uri) (aW.ref (k:=9) (H:=t.h rest (aG++[some (.sset seen)])) B.mods rfl);have kM:(iW t.us).lookup uri=if uri∈t.us then some (.str (bB t.us uri)) else none:=tw t.us uri
  by_cases hm:uri∈t.us
  ·have sa:t.us=(t.qn uri).us:=by delta Tg.qn;refine J (if_neg hu) ?_;dsimp only;rw[if_pos hm]
   rw[←sa] at J8⊢;replace kM:=(if_pos hm)▸kM;replace qE:=kM▸qE;refine ag.cons (XT.ite (c:=true) (TT.cmp ET.name (ET.attr ET.name (GA.t B rfl (qz))) qE) (fun _=>ag.cons (XT.assign (ET.sub (ET.attr ET.name (GA.t B rfl (qz))) ET.name (Ty.iY rfl) VY.lookup (OT.item_dict (aW.ref B.mods rfl) kM)) (bw.one (AT.name (ST.local rfl)))) ag.nil) (fun h=>by cases h)) ?_;exact tail t.us sa J8.1
  ·have sa:t.us++[uri]=(t.qn uri).us:=by delta Tg.qn;refine J (if_neg hu) ?_;dsimp only;rw[if_neg hm]
   rw[←sa] at J8⊢;rw[if_neg hm] at kM;rw[kM] at qE;have Mh:bB (t.us++[uri]) uri=Wp++"n"++jj t.us.length:=by
    have e0:Wp++("n":RN)="n":=rfl
    delta bB;refine J Vz (J (if_neg hm) (J e0 ?_));simp
   have e8:(t.h rest (aG++[some (.sset seen)])).set 9 (some (.dict (ip (iW t.us) uri (.str (bB (t.us++[uri]) uri)))))=({t with us:=t.us++[uri]}:Tg).h rest (aG++[some (.sset seen)]):=by
    have ep:ip (iW t.us) uri (.str (bB (t.us++[uri]) uri))=iW (t.us++[uri]):=by
     delta ip
     rw[if_neg (by rw[←i5,kM];exact R4),yW hm]
     delta bB;refine J Vz (J (if_neg hm) ?_);simp
    refine J ep ?_;have h2:(iw (t.us++[uri]) (11+rest.length) t.lv).map (fun p=>V.ref p.1)=(iw t.us (11+rest.length) t.lv).map (fun p=>V.ref p.1):=by
     delta iw;rw[RD,RD,oQ _ t.us]
    show _=[some (AO.tab 123 tj qy),some (AO.list (t.told.map V.str)),some (.inst 150 3),some (.ns (bK t.rs t.rd t.ig)),some (.list (t.data.map V.str)),some (.sset [t.ex]),some (.list [iV jl]),
     some (.list ((iw (t.us++[uri]) (11+rest.length) t.lv).map fun p=> .ref p.1)),some (.list (Ry t.k (.lst []))),some (.dict (iW (t.us++[uri]))),some (.list (Ry t.k (.bool false)))]++
     (rest++(ft (t.us++[uri]) t.lv++(aG++[some (.sset seen)])))
    exact(iO ok.mem).symm▸h2.symm▸rfl
   refine ag.cons (XT.ite (TT.cmp ET.name (ET.attr ET.name (GA.t B rfl (qz))) qE) (fun h=>by cases h) (fun _=>ag.cons (XT.assign ?_ (bw.two (AT.name (ST.local rfl)) (AT.sub (ET.attr ET.name (GA.t B rfl (qz))) ET.name (IS.dict rfl (by refine J (show(iW t.us).length=t.us.length from by simp[iW]) ?_;exact ap c7 dc))))) (by refine J e8 ?_;exact ag.nil))) ?_
   ·refine Mh.symm▸ ?_;have hn:=qD t.us.length (ap c7 dc);have e1:(Wp++("n":RN)).length=1:=rfl;have PV:(Int.natAbs (t.us.length:Int)).log2<1920:=by
     by_cases h0:t.us.length=0
     ·refine J h0 ?_;decide
     ·exact ap ((Nat.log2_lt h0).mpr (show t.us.length<2^7 from ap c7 dc)) dc
    have hc:=CT.len_dict (n:=n+4) (aW.ref (k:=9) (H:=t.h rest (aG++[some (.sset seen)])) B.mods rfl);rw[show(iW t.us).length=t.us.length from by simp[iW]] at hc;refine ET.A1 (FP.cons ET.str (FP.cons (x:=jj t.us.length) (ET.Lc (ET.call (ET.az B (jJ) jM) (ab.cons (ET.attr ET.name (GA.t B rfl (qz))) ab.nil) aM.builtin hc) PV (gC hn)) FP.nil ?_) ?_) ?_
    ·rw[RC,e1];exact iI (ap (ba (Ri _) hn) dc)
    ·refine J e1 ?_;decide
    ·rw[RC,e1];exact iI (ap (ba (Ri _) hn) dc)
   ·exact tail (t.us++[uri]) sa J8.1
end
section
variable{n:Nat}{H:AH}{F:Fx}{ρ:Loc}
theorem Binds.PW(B:Base){fd}{a c}{x z}{d}(e:∀S v,WA (KK) S (SV fd ⟨[v],[]⟩)=some [(a,v),(c,d)])(hz:∀W,Rel W z d):Binds fd [x] [] [(a,x),(c,z)]:=fun h W vs kv k r rn=>by
 cases rn;obtain⟨v,rfl,rv⟩:=r.one;exact⟨_,UO (B.In h k) (e _ v),v,_,rfl,rv,d,_,rfl,hz W,rfl⟩
theorem OB.ml(h:b=c):OB n (.bool b) H c:=by subst h;exact OB.bool
theorem Mn:∃t,(KK).lookup 98=some (bq "str.join" (.str "" t)):=⟨_,rfl⟩
noncomputable def Tg.flush(t:Tg):Tg:={t with data:=[],told:=if(SF "" t.data).length≠0∧t.rs=true then t.told++[dX (SF "" t.data)] else t.told}
theorem tz(B:Base){t:Tg}{rest aG}(hj:XK "" t.data=true)(hl:(SF "" t.data).length≤100)(cg:t.told.length<Rs):
  CT (n+1+1) (.st (.ref 106)) [.ref 2] [] (t.h rest aG) .none (t.flush.h rest aG):=by
 obtain⟨tk,PX⟩:=Mn;let j:=SF "" t.data;refine CT.fn (g:= .next) (an:=[("data", .str j),("self", .ref 2)]) (bs:=[("self", .ref 2),("_join_text", .st (.ref 98))]) B (Dj B) (Binds.PW B (HO) fun _=>rfl) dc rfl (ag.cons (XT.assign (x:= .str j) (ET.call (f:= .bm "str.join" (.str "")) (ET.O8 ET.name (B.uz _ _ PX) fun W=>⟨tk,rfl,RW _⟩) (ab.cons (ET.attr ET.name (GA.t B rfl (jm))) ab.nil) aM.bm (CT.AY rfl hj (gC hl))) (bw.one (AT.name (ST.local rfl)))) ?_);refine ag.cons (XT.EG (ET.attr ET.name (GA.t B rfl (jm))) rfl) (J (show(t.h rest aG).set 4 (some (.list []))=({t with data:=[]}:Tg).h rest aG from rfl) ?_);refine ag.cons (XT.ite (TT.bo (aL.and_false (TT.value (ET.attr ET.name (GA.t B rfl (yQ))) OB.bool))) (fun h=>by cases h) (fun _=>ag.nil)) (ag.cons (XT.ite (c:=false) (TT.cmp (ET.attr ET.name (GA.t B rfl (tt))) ET.none (OT.isNot_none (b:=true) (fun _ _ r=>by cases r;rfl))) (fun h=>by cases h) (fun _=>ag.nil)) ?_);have fY:∀m z,([("data",V.str j),("self",V.ref 2)]:Loc).lookup m=some z→([("data",V.str j),("self", .ref 2),("_join_text", .st (.ref 98))]:Loc).lookup m=some z:=aa rfl (aa rfl ae);have hb:=OB.str (n:=n+1) (x:=j) (H:=({t with data:=[]}:Tg).h rest aG);by_cases h0:j.length=0
 ·rw[show(j.length !=0)=false from by simpa using h0] at hb;have ef:t.flush=({t with data:=[]}:Tg):=by delta Tg.flush;rw[if_neg (fun h=>h.1 h0)]
  exact J ef ((ag.sub (ag.cons (XT.ite (TT.bo (aL.and_false (TT.value ET.name hb))) (fun h=>by cases h) (fun _=>ag.nil)) ag.nil) fY))
 ·rw[show(j.length !=0)=true from by simpa using h0] at hb;by_cases DJ:t.rs=true
  case neg=>
   have DJ:t.rs=false:=by simpa using DJ
   have ef:t.flush=({t with data:=[]}:Tg):=by delta Tg.flush;rw[if_neg (fun h=>by cases DJ.symm.trans h.2)]
   refine J ef (ag.sub (ag.cons (XT.ite (TT.bo (aL.and_true (TT.value ET.name hb) (aL.and_false (TT.value (ET.attr ET.name (GA.t B (y:= .bool t.rs) rfl (uS))) (OB.ml DJ))))) (fun h=>by cases h) (fun _=>ag.nil)) ag.nil) fY)
  case pos=>
   have ef:t.flush=({t with data:=[],told:=t.told++[dX j]}:Tg):=by delta Tg.flush;rw[if_pos ⟨h0,DJ⟩]
   refine J ef ?_;have e0:(({t with data:=[]}:Tg).h rest aG).set 1 (some (.list (t.told.map V.str++[.str (dX j)])))=({t with data:=[],told:=t.told++[dX j]}:Tg).h rest aG:=by simp[Tg.h]
   refine aQ e0 ?_;refine ag.sub (ag.cons (XT.ite (TT.bo (aL.and_true (TT.value ET.name hb) (aL.and_true (TT.value (ET.attr ET.name (GA.t B (y:= .bool t.rs) rfl (uS))) (OB.ml DJ)) aL.and_nil))) (fun _=>ag.cons (XT.expr (ET.aT ET.name
    (GM.own (du B) rfl rfl rfl (mh) (noGet_none _)) (ab.cons (ET.call (ET.globK B (gx)) (ab.cons ET.name ab.nil) (aM.def (Dn B)) (Ih B hl)) ab.nil) aM.bm (CT.fB rfl (J (Rk ..) cg)))) ag.nil) (fun h=>by cases h)) ag.nil) fY
end
theorem mn{l1 l2:List (RN×V)}(h:l1.lookup k=none) x:(l1++(k,v)::l2).lookup x=((k,v)::(l1++(k,u)::l2)).lookup x:=by
 by_cases e:x=k
 ·subst e;refine J lookup_cons (J (if_pos rfl) ?_)
  induction l1 with
  |nil=>exact(lookup_cons).trans (if_pos rfl)
  |cons p l1 ih=>
   replace h:=lookup_cons▸h;have hk:x≠p.1:=fun e=>by replace h:=(if_pos e)▸h;cases h
   rw[if_neg hk] at h;exact(lookup_cons.trans (if_neg hk)).trans (ih h)
 ·refine J lookup_cons (J (if_neg e) ?_)
  induction l1 with
  |nil=>exact(lookup_cons.trans (if_neg e)).trans (lookup_cons.trans (if_neg e)).symm
  |cons p l1 ih=>
   replace h:=lookup_cons▸h;have hk:k≠p.1:=fun e=>by replace h:=(if_pos e)▸h;cases h
   rw[if_neg hk] at h;refine lookup_cons.trans (Eq.trans ?_ lookup_cons.symm);by_cases e':x=p.1
   ·rw[if_pos e',if_pos e']
   ·exact J (if_neg e') (J (if_neg e') ((ih h)))
theorem nT{ig NV} x:(bK rs rd NV).lookup x=((("_ignored_depth":RN),V.int NV)::bK rs rd ig).lookup x:=mn (l1:=(bK rs rd 0).take 16) rfl x
theorem wu{rs rd NW}{ig} x:(bK rs NW ig).lookup x=((("_root_done":RN),V.bool NW)::bK rs rd ig).lookup x:=mn (l1:=(bK rs rd 0).take 15) rfl x
theorem wv{rs NX rd}{ig} x:(bK NX rd ig).lookup x=((("_root_seen":RN),V.bool NX)::bK rs rd ig).lookup x:=mn (l1:=(bK rs rd 0).take 14) rfl x
theorem mo:YX (KK) 150 "_ignored_depth"=some none:=rfl
theorem BD:YX (KK) 150 "_root_done"=some none:=rfl
theorem BE:YX (KK) 150 "_root_seen"=some none:=rfl
structure Tg.fit(t:Tg):Prop where
 join:XK "" t.data=true
 len:(SF "" t.data).length≤100
 told:t.told.length≤1000
 flat:(live t.lv).flatten.length≤200
noncomputable def Tg.fl(t:Tg):Tg:=if t.data=[] then t else t.flush
noncomputable def fJ(p tag:RN):RN:="</"++(p++":"++tag)++">"
noncomputable def Tg.ix(t:Tg)(uri tag:RN):Tg:=
 if t.ig=0 then {t.fl with told:=t.fl.told++[fJ (bB t.us uri) tag],lv:=ei (fun _=>none) t.lv,rd:=(live t.lv).length==1,k:=(live t.lv).length} else {t with ig:=t.ig-1}
theorem Tg.dG{t:Tg}{rest}(hr:∀ob,some ob∈rest→ob.dG 11=true∨ob.dG (11+rest.length)=true):∀ob,some ob∈t.h rest []→ob.dG (t.h rest []).length=true:=by
 have hlen:(t.h rest []).length=11+rest.length+t.lv.length:=by
  show(Tm _+1+1+1+1+1+1+1+1+1+1+1)=_;simp[ft];exact si (JH (JI (Ri _))) (JG (vD (Ri _)))
 have PY:∀(lv:List (Option (List RN))) b,∀p∈fq t.us b lv,p.1<b+lv.length:=by
  intro lv
  induction lv with
  |nil=>intro b p h;cases h
  |cons o lv ih=>
   intro b p h;cases o with
   |none=>have:=ih (b+1) p h;simp;exact ap this (io (Ri _))
   |some l=>
    rcases Rt.mp h with rfl|h
    ·simp
    ·have:=ih (b+1) p h;simp;exact ap this (io (Ri _))
 intro ob h;refine J hlen ?_;have hs:∀(l:List RN),bJ (11+rest.length+t.lv.length) (l.map V.str)=true:=fun l=>cA.mpr fun x hx=>by obtain⟨y,_,rfl⟩:=Rz.mp hx;rfl
 simp only[Rt,Y8,RF,RE] at h;rcases h with rfl|rfl|rfl|rfl|rfl|rfl|rfl|rfl|rfl|rfl|rfl|h|h
 ·rfl
 ·exact hs _
 ·exact decide_eq_true (gl (gl dc))
 ·exact dW (gl (gl (Ri _))) rfl
 ·exact hs _
 ·rfl
 ·rfl
 ·refine cA.mpr fun x hx=> ?_;obtain⟨p,hp,rfl⟩:=Rz.mp hx;refine decide_eq_true ?_;rcases Rt.mp hp with rfl|hp
  ·exact gl (gl dc)
  ·exact PY _ _ p hp
 ·refine cA.mpr fun x hx=> ?_;rw[aad] at hx;exact congrArg _ hx.2
 ·refine sO.mpr fun x hx=> ?_;obtain⟨u,_,rfl⟩:=Rz.mp hx;rfl
 ·refine cA.mpr fun x hx=> ?_;rw[aad] at hx;exact hx.2▸rfl
 ·rcases hr ob h with h|h
  ·exact AO.cz (gl (gl (Ri _))) h
  ·exact AO.cz (gl (Ri _)) h
 ·obtain⟨o,ho,e⟩:=Rz.mp h;cases o with
  |none=>cases e
  |some l=>
   cases e;refine cA.mpr fun x hx=> ?_;obtain⟨u,_,rfl⟩:=Rz.mp hx;rfl
section
variable{n:Nat}{H:AH}{F:Fx}{ρ:Loc}
noncomputable def hx(told:List V)(rs rd:Bool)(ig:Int)(data:List V)(ex:RN)(decl Io:List V)(pm:List (RN×V))(ps:List V)(tail:AH):AH:=
 some (.tab 123 tj qy)::some (.list told)::some (.inst 150 3)::some (.ns (bK rs rd ig))::some (.list data)::some (.sset [ex])::some (.list [iV jl])::some (.list decl)::some (.list Io)::some (.dict pm)::some (.list ps)::tail
theorem eM{α:Type} k(x:α):Ry (k+1) x=Ry k x++[x]:=List.replicate_succ'
theorem ww(hp:p.length≤4)(ht:tag.length≤1000):(fJ p tag).length≤1010:=by
 refine J (RC ..) (J (RC ..) (J (fG ..) ?_));have:("</":RN).length=2:=rfl;have:(">":RN).length=1:=rfl;lia
theorem y0(B:Base){t:Tg}(ok:t.ok){rest}{q uri tag}(hq:QN q uri tag)(hm:uri∈(live t.lv).flatten)(hlen:(live t.lv).flatten.length≤200)(c7:t.us.length<100)(mr:t.told.length<Rs)(wx:t.k=(live t.lv).length+1):
  ∃seen,ag (n+4+1) (ay 133) ((bodyOf 133).drop 2) [("self", .ref 2),("tag", .str q)] (t.h rest []) .next [("self", .ref 2),("tag", .str q)]
   (({t with told:=t.told++[fJ (bB t.us uri) tag],lv:=ei (fun _=>none) t.lv,rd:=(live t.lv).length==1,k:=(live t.lv).length}:Tg).h rest []++[some (.sset seen)]):=by
 have hs:=R2;have aV:live t.lv≠[]:=fun e=>by rw[e] at hm;simp at hm
 refine Rg fun kG=> ?_;obtain⟨ls,l,ds,ki,hd⟩:=oR aV;have Ml:t.qn uri=t:=by unfold Tg.qn;rw[if_pos hm]
 obtain⟨seen,hc⟩:=mj B ok hq aV hlen c7;refine kG ?_;rw[Ml,TM] at hc;have qi:=(dw (u:=uri) (TC c7)).1;refine⟨seen, ?_⟩;have uF:ET (n+4+1) (ay 133) (cM 0 (gM (av (bodyOf 133) 2))) [("self", .ref 2),("tag", .str q)] (t.h rest []) (.str (fJ (bB t.us uri) tag)) (t.h rest [some (.sset seen)]):=by
  have he:Wp++"</"="</":=rfl;have h1:("</":RN).length=2:=rfl;have h2:=fG (bB t.us uri) tag;have h3:=ww qi hq.tl;have h4:=hq.tl;refine ET.A1 (FP.cons ET.str (FP.cons (ET.qb (ET.sub (ET.aT ET.name (GM.t B rfl (qA) rfl) (ab.cons ET.name ab.nil) (aM.def (E2 B)) (CT.GU hc))
   ET.int Ty.tup SA.lookup (OT.item_tup (i:=0) rfl rfl))) (FP.cons ET.str FP.nil ?_) ?_) ?_) ?_
  ·exact J he ((Rq h3 dc))
  ·refine J (he ..) (J (RC ..) ?_);lia
  ·refine J he ?_;decide
  ·exact Rq h3 dc
 refine ag.cons (XT.expr (ET.aT ET.name (GM.own (du B) rfl rfl rfl (mh) (noGet_none _)) (ab.cons uF ab.nil) aM.bm
  (CT.fB rfl (J (Rk ..) mr)))) ?_
 refine J (show(t.h rest [some (.sset seen)]).set 1 (some (.list (t.told.map V.str++[.str (fJ (bB t.us uri) tag)])))=({t with told:=t.told++[fJ (bB t.us uri) tag]}:Tg).h rest [some (.sset seen)] by simp[Tg.h]) ?_;refine ag.cons (XT.expr (ET.aT (ET.attr ET.name (GA.t B rfl (uR))) (GM.of (Ty.ai rfl) (aJ.ai rfl) RJ Ua T9) ab.nil aM.builtin (CT.pop ((show∀(h:AH),h[10]?=some (some (.list (Ry t.k (.bool false))))→h[10]?=some (some (.list (Ry (live t.lv).length (.bool false)++[.bool false]))) from fun h e=>by exact J (e ..) (J (wx ..) (J (eM ..) rfl))) _ rfl)))) ?_;let T1:AH:=rest++(ft t.us t.lv++[some (.sset seen)]);let cD:=(t.told++[fJ (bB t.us uri) tag]).map V.str;let DK:=(iw t.us (11+rest.length) t.lv).map fun p=>V.ref p.1;let k:=(live t.lv).length;let Ip:List V:=Ry t.k (.lst []);have Iq:((((Ry k (V.bool false)).length:Nat):Int)==1)=(k==1):=by
  refine J ZC ?_;by_cases h1:k=1
  ·exact J h1 rfl
  ·have h3:((k:Int)==1)=false:=by rw[beq_eq_false_iff_ne];exact(by lia)
   have h4:(k==1)=false:=by rw[beq_eq_false_iff_ne];exact h1
   rw[h3,h4]
 have ho:=OT.eq_int (n:=n+4+1) (a:=((Ry k (V.bool false)).length:Nat)) (b:=1) (H:=hx cD t.rs t.rd t.ig (t.data.map V.str) t.ex DK Ip (iW t.us) (Ry k (.bool false)) T1);rw[Iq] at ho;refine ag.cons (XT.lQ (d:=3) rfl wu (XT.assign (ET.cmp (ET.call (ET.az B (jJ) jM) (ab.cons (ET.attr ET.name (GA.tX B rfl rfl rfl (uR))) ab.nil) aM.builtin (CT.ux rfl)) ET.int ho)
  (bw.one (AT.attr (du B) (ET.name rfl) rfl rfl (BD) (show 17≤100 by decide))))) ?_
 have Ir:DK=(.ref 6::(fq t.us (11+rest.length) ls).map (fun p=>V.ref p.1))++[.ref (11+rest.length+ls.length)]:=by
  show(iw t.us (11+rest.length) t.lv).map _=_;refine J ki ?_;unfold iw;rw[jp hd];simp
 have Mo:Ip=Ry k (.lst [])++[.lst []]:=by
  show Ry t.k _=_;exact J wx ((eM ..))
 refine J Ir (J Mo ?_);refine ag.cons (XT.expr (ET.aT (ET.attr ET.name (GA.tX B rfl rfl rfl (kR))) (GM.of (Ty.ai rfl) (aJ.ai rfl) RJ Ua T9) ab.nil aM.builtin (CT.pop rfl))) (ag.cons (XT.expr (ET.aT (ET.attr ET.name (GA.tX B rfl rfl rfl (tn))) (GM.of (Ty.ai rfl) (aJ.ai rfl) RJ Ua T9) ab.nil aM.builtin (CT.pop rfl))) ?_);refine ag.kill (11+rest.length+ls.length) ?_;have Mp:List.set (hx cD t.rs (k==1) t.ig (t.data.map V.str) t.ex (.ref 6::(fq t.us (11+rest.length) ls).map (fun p=>V.ref p.1)) (Ry k (.lst [])) (iW t.us) (Ry k (.bool false)) T1) (11+rest.length+ls.length) none=
   ({t with told:=t.told++[fJ (bB t.us uri) tag],lv:=ei (fun _=>none) t.lv,rd:=(live t.lv).length==1,k:=(live t.lv).length}:Tg).h rest []++[some (.sset seen)]:=by
  have d5:live (ls++none::ds)=live ls:=by
   refine J (b7 ..) ?_;show live ls++live ds=_;rw[hV hd,RF]
  have hL:(iw t.us (11+rest.length) (ls++none::ds)).map (fun p=>V.ref p.1)= .ref 6::(fq t.us (11+rest.length) ls).map (fun p=>V.ref p.1):=by
   unfold iw;refine J (gR ..) ?_;show _::Uu _ (_++fq t.us _ ds)=_;rw[jR t.us ds _ hd,RF]
  rw[(show ei (fun _=>none) t.lv=ls++none::ds by rw[ki,eS _ _ _ hd])];show _=hx cD t.rs (k==1) t.ig (t.data.map V.str) t.ex ((iw t.us (11+rest.length) (ls++none::ds)).map (fun p=>V.ref p.1)) (Ry k (.lst [])) (iW t.us) (Ry k (.bool false)) ((rest++(ft t.us (ls++none::ds)++[]))++[some (.sset seen)]);refine hL.symm▸ ?_;have hT:T1=(rest++ft t.us ls)++(some (AO.list (l.map fun u=>iV (bk t.us u)))::(ft t.us ds++[some (.sset seen)])):=by
   show rest++(ft t.us t.lv++_)=_;refine J ki ?_;simp[ft]
  have JY:T1.set (rest.length+ls.length) none=(rest++(ft t.us (ls++none::ds)++[]))++[some (.sset seen)]:=by
   rw[hT,Sb _ _ (by simp[ft])];simp[ft]
  refine aQ JY ?_;refine J (show 11+rest.length+ls.length=(rest.length+ls.length)+11 from by exact si (JG (vD (Ri _))) (JH (vD (Ri _)))) ?_;rfl
 exact Mp▸(ag.nil)
theorem Tg.fa(t:Tg):t.fl.us=t.us:=by unfold Tg.fl;refine bn (fun _=> ?_) (fun _=> ?_)<;>rfl
theorem Tg.iE(t:Tg):t.fl.lv=t.lv:=by unfold Tg.fl;refine bn (fun _=> ?_) (fun _=> ?_)<;>rfl
theorem Tg.DL{t:Tg}(ok:t.ok):t.fl.ok:=⟨by refine t.fa.symm▸t.iE.symm▸ ?_;exact ok.mem,by refine t.fa.symm▸ ?_;exact ok.len,by refine t.fa.symm▸ ?_;exact ok.nd,by exact t.fa.symm▸ok.AJ⟩
theorem Tg.kW(t:Tg):t.fl.told.length≤t.told.length+1:=by
 unfold Tg.fl Tg.flush;refine bn (fun _=> ?_) fun _=> ?_
 ·exact gl (Ri _)
 ·refine bn (fun _=> ?_) (fun _=> ?_)<;>simp
theorem Tg.DM(t:Tg):t.fl.ig=t.ig:=by unfold Tg.fl;refine bn (fun _=> ?_) (fun _=> ?_)<;>rfl
theorem Tg.It(t:Tg):t.fl.rs=t.rs:=by unfold Tg.fl;refine bn (fun _=> ?_) (fun _=> ?_)<;>rfl
theorem Tg.DO(t:Tg):t.fl.ex=t.ex:=by unfold Tg.fl;refine bn (fun _=> ?_) (fun _=> ?_)<;>rfl
theorem Tg.BF(t:Tg):t.fl.k=t.k:=by unfold Tg.fl;refine bn (fun _=> ?_) (fun _=> ?_)<;>rfl
theorem Tg.uT(t:Tg):t.fl.data=[]:=by
 unfold Tg.fl;refine bn (fun _=> ?_) fun _=> ?_
 ·assumption
 ·rfl
theorem qF(B:Base){t:Tg}(fit:t.fit){rest aG}{m}{a}{i}{ρ}{p1 p2 p3 p4 p5 p6 p7}(lL:ρ.lookup ("self":RN)=some (.ref 2))
  (e:av (bodyOf a) i= .If (.Attribute (.Name "self" p1) "_data" p2) [.Expr (.Call (.Attribute (.Name "self" p3) "_flush" p4) [] [] p5) p6] [] p7)
  (he:∀env,eval (.Call (.Attribute (.Name "self" p3) "_flush" p4) [] [] p5) env=(do
   let ov ←eval (.Name "self" p3) env
   standAt p4.atName
   let(f,first) ←holding [ov] (Za ov "_flush" (do return (←Zj (.Name "self" p3) env).getD true))
   UT p5 f first (backTo p5 (starEach [] env)) [])):
  XT (m+1+1) (ay a) (av (bodyOf a) i) ρ (t.h rest aG) .next ρ (t.fl.h rest aG):=by
 refine J e ?_;have hb:=OB.ai (n:=m+1+1) (i:=4) (H:=t.h rest aG) rfl;by_cases h0:t.data=[]
 ·have ef:t.fl=t:=by unfold Tg.fl;rw[if_pos h0]
  refine J ef ?_;have sX:OB (m+1+1) (.ref 4) (t.h rest aG) false:=by
   have e:(!(t.data.map V.str).isEmpty)=false:=by refine J h0 ?_;rfl
   exact e▸hb
  exact XT.ite (TT.value (ET.attr (ET.name lL) (GA.t B rfl (jm))) sX) (fun h=>by cases h) (fun _=>ag.nil)
 ·have ef:t.fl=t.flush:=by unfold Tg.fl;rw[if_neg h0]
  refine J ef ?_;have sX:OB (m+1+1) (.ref 4) (t.h rest aG) true:=by
   refine((show(!(t.data.map V.str).isEmpty)=true by cases hh:t.data with|nil=>exact absurd hh h0|cons _ _=>rfl))▸ ?_;exact hb
  refine XT.ite (TT.value (ET.attr (ET.name lL) (GA.t B rfl (jm))) sX) (fun _=>ag.cons (XT.expr (ET.aT (ET.name lL) (GM.t B rfl (yS) rfl) ab.nil (aM.def (Dj B))
   (tz B fit.join fit.len (Ay fit.told)) (he:=he))) ag.nil) (fun h=>by cases h)
theorem qG(B:Base){t:Tg}(ok:t.ok)(fit:t.fit){rest}(hr:∀ob,some ob∈rest→ob.dG 11=true∨ob.dG (11+rest.length)=true){q uri tag}(hq:QN q uri tag)(hm:t.ig=0→uri∈(live t.lv).flatten)(c7:t.us.length<100)(wx:t.k=(live t.lv).length+1):
  CT (n+4+1+1) (.st (.ref 133)) [.ref 2, .str q] [] (t.h rest []) .none ((t.ix uri tag).h rest []):=by
 by_cases h0:t.ig=0
 ·obtain⟨seen,hc⟩:=y0 B (Tg.DL ok) hq (by refine J t.iE ?_;exact hm h0) (by refine J t.iE ?_;exact fit.flat) (by refine J t.fa ?_;exact c7) (by have:=t.kW;exact elt this (F2 (elt fit.told dc))) (by exact J t.BF (J t.iE ((wx))));have ee:t.ix uri tag={t.fl with told:=t.fl.told++[fJ (bB t.fl.us uri) tag],lv:=ei (fun _=>none) t.fl.lv,rd:=(live t.fl.lv).length==1,k:=(live t.fl.lv).length}:=by
   unfold Tg.ix;rw[if_pos h0,t.iE,t.fa]
  rw[←ee] at hc;have hb:OB (n+4+1) (.int t.ig) (t.h rest []) false:=by
   have:=OB.int (n:=n+4+1) (i:=t.ig) (H:=t.h rest []);rwa [show(t.ig !=0)=false from by simpa using h0] at this
  refine CT.drop (T:=[some (.sset seen)]) ?_ ?_ rfl (Tg.dG hr)
  ·refine CT.fn (g:= .next) (an:=[("self", .ref 2),("tag", .str q)]) B (uK B) (Binds.b2 B (Dm)) (show [("self":RN),"tag"].Nodup by decide) rfl ?_;refine ag.cons (XT.ite (TT.value (ET.attr ET.name (GA.t B rfl (b8))) hb) (fun h=>by cases h) (fun _=>ag.nil)) (ag.cons (qF B fit (i:=1) rfl rfl (by intro _;rfl)) hc)
  ·have h2:((t.ix uri tag).lv).length=t.lv.length:=by
    refine J ee (J t.iE ?_);have:∀lv,(ei (fun _=>none) lv).length=lv.length:=by
     intro lv
     induction lv with
     |nil=>rfl
     |cons o lv ih=>
      cases o with
      |none=>exact congrArg Nat.succ ih
      |some l=>rw[tv];refine bn (fun _=> ?_) (fun _=> ?_)<;>simp[ih]
    exact this _
   show(Tm _+1+1+1+1+1+1+1+1+1+1+1)≤(Tm _+1+1+1+1+1+1+1+1+1+1+1);simp[ft,h2]
 ·have ee:t.ix uri tag={t with ig:=t.ig-1}:=by unfold Tg.ix;rw[if_neg h0]
  refine J ee ?_;have hb:OB (n+4+1) (.int t.ig) (t.h rest []) true:=by
   have:=OB.int (n:=n+4+1) (i:=t.ig) (H:=t.h rest []);rwa [show(t.ig !=0)=true from by simpa using h0] at this
  refine CT.fn (g:= .ret .none) (an:=[("self", .ref 2),("tag", .str q)]) B (uK B) (Binds.b2 B (Dm)) (show [("self":RN),"tag"].Nodup by decide) rfl ?_;refine ag.ret (XT.ite (TT.value (ET.attr ET.name (GA.t B rfl (b8))) hb) (fun _=> ?_) (fun h=>by cases h));refine ag.cons ?_ (ag.ret XT.GQ);exact XT.lQ (d:=3) rfl nT (XT.uA (du B) ET.name (GA.t B rfl (b8)) ET.int Em.sub_int rfl rfl (mo) (show 17≤100 by decide))
end
section
variable{n:Nat}{H:AH}{F:Fx}{ρ:Loc}
noncomputable def kS(x:RN):List RN:=UJ x "}" 1
noncomputable def Mq(i:Nat):Tk:=gM (av (bodyOf 126) i)
noncomputable abbrev E8(e:Tk):Tk:=cM 0 e
noncomputable def kwAt(i:Nat)(e:Tk):Tk:=by
 cases e with
 |Call _ _ ks=>exact(ks.getD i ⟨none,default,default⟩).value
 |_=>exact default
noncomputable abbrev Iu(e:Tk):Tk:=nu e
noncomputable def Iv(e:Tk):Arguments:=by
 cases e with
 |Lambda a=>exact a
 |_=>exact default
noncomputable abbrev Iw(e:Tk):aaQ:=oP e
noncomputable def qH:Tk:=kwAt 0 (E8 (Mq 6))
theorem Ix:((fdOf 126).qualname++".<locals>.")++"<lambda>"=qy:=rfl
theorem oU:∃c,(ay 126).code= .ref c∧codeHdIn (KK) c 123=true∧∃oc vs,(KK).lookup c=some oc∧oc.data= .fields vs:=⟨_,rfl,kr,_,_,rfl,rfl⟩
theorem E9:qH= .Lambda (Iv (qH)) (Iu (qH)) (Iw (qH)) tj:=rfl
noncomputable abbrev Iy:V:=V.lam qy (Iv (qH)) (Iu (qH)) (Iw (qH))
theorem y1(B:Base){t:Tg}{rest aG}:ET n (ay 126) (qH) ρ (t.h rest aG) (Iy) (t.h rest aG):=by
 obtain⟨c,hc,hd,_⟩:=oU;refine J E9 ?_;exact(ET.EP (i:=0) B.r8 hc rfl (by intro _;rfl) (by intro _;rfl) B.bm (fun h k=>Zk (B.In h k) hd) dc rfl)
theorem y2(B:Base){x}(hz:(kS x).length≤Rs)(hp:∀p∈kS x,p.length≤Rs):CT (n+1) (Iy) [.str x] [] H (.lst ((kS x).map V.str)) H:=by
 refine CT.lam B.r8.nolimit (fun pm u yv=>Binds.b1 B (fun S v=>by kernel_rfl)) (show [("n":RN)].Nodup by decide) (by
  intro y hy;simp at hy;subst hy;exact .inl rfl) rfl rfl rfl fun u=> ?_
 refine ET.aT ET.name (GM.of Ty.str aJ.str Sd T2 T0) (ab.cons ET.str (ab.cons ET.int ab.nil)) aM.builtin (CT.vH dc hz hp)
end
theorem Tg.nU{t:Tg} u(aV:live t.lv≠[]):(live (t.qn u).lv).flatten=(if u∈(live t.lv).flatten then(live t.lv).flatten else(live t.lv).flatten++[u])∧live (t.qn u).lv≠[]∧(t.qn u).lv.length=t.lv.length:=by
 unfold Tg.qn;split
 ·exact⟨rfl,aV,rfl⟩
 ·obtain⟨ls,l,ds,ki,hd⟩:=oR aV;dsimp only;rw[ki,eS _ _ _ hd,jq hd,jq hd];refine⟨by simp,by simp,by simp⟩
theorem Tg.qI{t:Tg}(ok:t.ok) u:(t.qn u).us=if u∈t.us then t.us else t.us++[u]:=by
 unfold Tg.qn;refine bn (fun _=> ?_) fun _=> ?_
 ·rename_i h;rw[if_pos (ok.mem u h)]
 ·rfl
theorem Tg.y3{t:Tg}(ok:t.ok) u(aV:live t.lv≠[])(hx:u≠kH)(hr:t.us.length<100):(t.qn u).ok:=by
 refine⟨fun v hv=> ?_, ?_, ?_, ?_⟩
 ·rw[(t.nU u aV).1] at hv;rw[t.qI ok];split at hv
  ·have:=ok.mem v hv;split
   ·exact this
   ·simp[this]
  ·rcases RE.mp hv with hv|hv
   ·have:=ok.mem v hv;refine bn (fun _=> ?_) fun _=> ?_
    ·exact this
    ·simp[this]
   ·refine J (Rr.mp hv) ?_;split
    ·assumption
    ·simp
 ·rw[t.qI ok];refine bn (fun _=> ?_) fun _=> ?_
  ·exact ok.len
  ·simp;exact AU (len hr)
 ·rw[t.qI ok];refine bn (fun _=> ?_) fun _=> ?_
  ·exact ok.nd
  ·rename_i h;exact TY.mpr ⟨ok.nd,by simp,fun a ha b hb e=>by rw[Rr] at hb;subst hb;subst e;exact h ha⟩
 ·rw[t.qI ok];refine bn (fun _=> ?_) fun _=> ?_
  ·exact ok.AJ
  ·intro h;rcases RE.mp h with h|h
   ·exact ok.AJ h
   ·rw[Rr] at h;exact hx h.symm
theorem Tg.tB{t:Tg}(ok:t.ok) u(aV:live t.lv≠[]):(t.qn u).us.length≤t.us.length+1∧(live (t.qn u).lv).flatten.length≤(live t.lv).flatten.length+1:=by
 rw[t.qI ok,(t.nU u aV).1];constructor<;>refine bn (fun _=> ?_) (fun _=> ?_)<;>simp
structure Nm where
 q:RN
 uri:RN
 tag:RN
noncomputable def Nm.ok(m:Nm):Prop:=QN m.q m.uri m.tag
noncomputable def db:List Nm→List Nm
 |[x,y]=>bj (ke (kS y.q) (kS x.q)) x y
 |l=>l
theorem y4 N:(db N).map (·.q)=je kS (N.map (·.q)):=by
 match N with
 |[]=>rfl
 |[_]=>rfl
 |[x,y]=>
  show(bj _ _ _).map _=bj (ke (kS y.q) (kS x.q)) x.q y.q;cases ke (kS y.q) (kS x.q)<;>rfl
 |_::_::_::_=>rfl
noncomputable def Tg.oV(t:Tg)(N:List Nm):Tg:=N.foldl (fun t m=>t.qn m.uri) t
noncomputable def eU(t:Tg):List Nm→List (RN×V)
 |[]=>[]
 |m::N=>(m.q,mi (bB (t.qn m.uri).us m.uri) m.tag m.uri)::eU (t.qn m.uri) N
theorem y5{k}{x}(h:k∉l.map (·.1)):ip l k x=l++[(k,x)]:=by
 unfold ip;rw[if_neg];intro hh;obtain⟨p,hp,e⟩:=U6.mp hh;exact h (Rz.mpr ⟨p,hp,by exact of_decide_eq_true e⟩)
section
variable{n:Nat}{H:AH}{F:Fx}{ρ:Loc}
theorem tD(B:Base){rest}:∀N t aG acc,t.ok→(∀m∈N,m.ok)→live t.lv≠[]→(live t.lv).flatten.length+N.length≤200→t.us.length+N.length≤100→(acc.map (·.1)++N.map (·.q)).Nodup→acc.length+N.length≤10→
  ∃jr,rZ (n+4+1) (DD (ay 126) (Mq 6)) (Mq 6) 0 (fun _=>True,fun _=>True) (N.map fun m=>V.str m.q) [("parse_qname", .pm 90 (.ref 2))] acc (t.h rest aG) (acc++eU t N) ((t.oV N).h rest (aG++jr)):=by
 intro rv
 induction rv with
 |nil=>
  intro t aG acc _ _ _ _ _ _ _;exact⟨[],by
   refine J (RF ..) (J (show eU t []=[] from rfl) (J (RF ..) ?_));exact rZ.nil trivial _ _ (fun _ _ _=>rfl)⟩
 |cons m N ih=>
  intro t aG acc ok hN aV h1 h2 hd hz;simp only[RQ] at h1 h2;obtain⟨seen,hc⟩:=mj B ok (hN m Rn) aV (lj h1) (uo h2);have l1:=t.tB ok m.uri aV;obtain⟨jr,ih⟩:=ih (t.qn m.uri) (aG++[some (.sset seen)]) (acc++[(m.q,mi (bB (t.qn m.uri).us m.uri) m.tag m.uri)]) (t.y3 ok m.uri aV (hN m Rn).nx (uo h2)) (fun x hx=>hN x (Rm _ hx)) (t.nU m.uri aV).2.1 (by lia) (by lia)
   (by simpa using hd) (by simp at hz⊢;exact io hz)
  refine⟨some (.sset seen)::jr, ?_⟩;refine J (show acc++eU t (m::N)=(acc++[(m.q,mi (bB (t.qn m.uri).us m.uri) m.tag m.uri)])++eU (t.qn m.uri) N from(RP acc [_] _).symm) (J (show aG++some (AO.sset seen)::jr=(aG++[some (AO.sset seen)])++jr by simp) ?_);exact rZ.cons trivial trivial (AT.name (ST.local rfl)) eL.nil ET.name (ET.call ET.name (ab.cons ET.name ab.nil) (aM.pm (E2 B)) (CT.pm hc)) (aa rfl ae) (R2▸ap (lj hz) dc) (by exact J (y5 (fun h=>(TY.mp hd).2.2 _ h _ Rn rfl)) ih) _ (fun _ _ _=>rfl)
end
structure NS(N:List Nm):Prop where
 ok:∀m∈N,m.ok
 kl:∀m∈N,(kS m.q).length≤3
 kp:∀m∈N,∀p∈kS m.q,p.length≤1000
 NY:∀x y,N.map (·.q)=[x,y]→ke (kS y) (kS x)= !ke (kS x) (kS y)
 nd:(N.map (·.q)).Nodup
 l1:N≠[]
 l2:N.length≤2
theorem dK N:(db N).Perm N:=by
 match N with
 |[]=>exact .refl _
 |[_]=>exact .refl _
 |[x,y]=>
  show(bj _ _ _).Perm _;cases ke (kS y.q) (kS x.q)
  ·exact .refl _
  ·exact .swap ..
 |_::_::_::_=>exact .refl _
section
variable{n:Nat}{H:AH}{F:Fx}{ρ:Loc}
theorem BG{y}{line}(E:aA F env)(h1:F.names.lookup y=some .local)(h2:(py.line==pos.line)=true)(h3:(scope.names.any fun(n,k)=>n==y&&(k== .local||k== .cell))=false):
  Xh (.DictComp kx vx gens scope pos) (some (.Name y py)) line env=pure true:=by
 have hb:env.blockKind= .function:=by unfold XM;exact J E.kind rfl
 show(pure (env.blockKind== .function&&env.kindOf y==some .local&&py.line==pos.line&& !(scope.names.any fun(n,k)=>n==y&&(k== .local||k== .cell))):Y3 Bool)=pure true;refine J hb (J ((bf E y).trans h1) (J h2 (J h3 ?_)));rfl
theorem kX{elt}{gens}{scope}{pos py}{y}{line}(E:aA F env)(h1:F.names.lookup y=some .local)(h2:(py.line==pos.line)=true)(h3:(scope.names.any fun(n,k)=>n==y&&(k== .local||k== .cell))=false):
  Xh (.ListComp elt gens scope pos) (some (.Name y py)) line env=pure true:=by
 have hb:env.blockKind= .function:=by unfold XM;exact J E.kind rfl
 show(pure (env.blockKind== .function&&env.kindOf y==some .local&&py.line==pos.line&& !(scope.names.any fun(n,k)=>n==y&&(k== .local||k== .cell))):Y3 Bool)=pure true;refine J hb (J ((bf E y).trans h1) (J h2 (J h3 ?_)));rfl
noncomputable abbrev Gg(nn:Nat)(tag:RN)(eX:List (RN×V))(qs:List RN):Loc:=
 [("parse_qname", .pm 90 (.ref 2)),("qattrs", .none),("resolved_names", .bx []),("qnames", .dst qs),("self", .ref 2),("tag", .str tag),("attrs", .bx eX),("new_namespaces", .ref nn),("qname_text", .none)]
theorem tE(B:Base){t}{rest aG}{N}{nn}{tag}{eX}(hN:NS N)(ok:t.ok)(aV:live t.lv≠[])(h1:(live t.lv).flatten.length≤198)(h2:t.us.length≤98):
  ∃jr,XT (n+4+1) (ay 126) (av (bodyOf 126) 6) (Gg nn tag eX (N.map (·.q))) (t.h rest aG) .next (("parsed_qnames", .bx (eU t (db N)))::Gg nn tag eX (N.map (·.q))) ((t.oV (db N)).h rest (aG++jr)):=by
 have hp:=dK N;have hl:=hp.length_eq;have d5:=hN.l2;obtain⟨jr,hc⟩:=tD B (db N) t aG [] ok (fun m hm=>hN.ok m (hp.mem_iff.mp hm)) aV (by lia) (by lia) (by exact(hp.map (·.q)).nodup_iff.mpr hN.nd) (by simp;exact ap (bD hl) (ap d5 dc));refine⟨jr, ?_⟩;refine XT.yD B.mods (ar.of (dI:=[("parse_qname", .pm 90 (.ref 2))]) rfl (aa rfl ae)) (IT.val (ET.Dd (ET.az B (jK) jN) (ab.cons ET.name ab.nil) (yy.cons (y1 B) yy.nil) aM.builtin
  (CT.v5 (by simpa using hN.l1) (by simpa using d5) (fun x y e=>hN.NY x y e) (fun W v r=>by obtain⟨a,o,u,e,_⟩:=r;exact⟨a,e⟩) (fun x hx=> ?_))) VT.lst) ?_ ?_ (ST.local rfl) (fun env E=>BG E rfl rfl rfl)
 ·obtain⟨m,hm,rfl⟩:=Rz.mp hx;exact y2 B (by exact gC (hN.kl m hm)) (fun p hp=>by exact gC (hN.kp m hm p hp))
 ·have e:(je kS (N.map (·.q))).map V.str=(db N).map fun m=>V.str m.q:=by refine aQ (y4 ..) (J (RO ..) ?_);rfl
  exact e▸hc
 ·have:(eU t (db N)).length=(db N).length:=by
   have:∀N t,(eU t N).length=N.length:=by
    intro N
    induction N with
    |nil=>intro t;rfl
    |cons m N ih=>intro t;exact congrArg Nat.succ (ih _)
   exact this _ _
  exact this▸ap (bD hl) (ap d5 dc)
end
noncomputable def NZ:Vy:=av (uN (av (bodyOf 126) 7)) 0
noncomputable def AK(us:List RN)(u:RN):RN×RN:=("xmlns:"++bB us u,u)
section
variable{n:Nat}{H:AH}{F:Fx}{ρ:Loc}
theorem wy(sa:us.length≤100){nn:Nat}{L}(hH:H[nn]?=some (some (.list L))):∀(l:List RN) acc,(∀u∈l,u.length≤1000)→acc.length+l.length≤100→
  CF n (DD (ay 126) (gM (NZ))) (gM (NZ)) 0 (fun H=>H[nn]?=some (some (.list L)),fun _=>True) (l.map fun u=>iV (bk us u)) [] acc H (acc++(l.map (AK us)).map ah) H:=by
 intro rv
 induction rv with
 |nil=>
  intro acc _ _;rw[Su,Su,Su,RF];exact CF.nil hH _ _ (fun _ _ _=>rfl)
 |cons u l ih=>
  intro acc hz hl;refine J (show acc++((u::l).map (AK us)).map ah=(acc++[ah (AK us u)])++(l.map (AK us)).map ah by simp) ?_;have hb:=OB.str (n:=n) (x:=bB us u) (H:=H);rw[show((bB us u).length !=0)=true from by simpa using(dw sa).2] at hb;refine CF.cons hH trivial (AT.tuple (aX.cons (AT.name (ST.local rfl)) (aX.cons (AT.name (ST.local rfl)) aX.nil))) eL.nil (ET.tuple (ab.cons (ET.de (TT.value ET.name hb) (fun _=>ET.binop ET.str ET.name (OT.add_str (iI (ap (ba (bD rfl) (dw sa).1) dc)))) (fun h=>by cases h)) (ab.cons ET.name ab.nil)) (show 2≤Rs by refine J R2 ?_;decide)) ae (ap (lj hl) dc) (ih (acc++[ah (AK us u)]) (fun v hv=>hz v (Rm _ hv)) (by simp at hl⊢;exact io hl)) _ (fun _ _ _=>rfl)
theorem BH:typeOf (.builtin "list.sort")=(pure (.type "method_descriptor"):Y3 Value):=rfl
noncomputable def DP(us:List RN)(l:List RN):List (RN×RN):=b6 (l.map (AK us))
theorem wz(B:Base){t:Tg}(sa:t.us.length≤100){rest aG}{nn}{l}{gD}(h2:l.length≤2)(hz:∀u∈l,u.length≤1000)(hH:(t.h rest aG)[nn]?=some (some (.list (l.map fun u=>iV (bk t.us u)))))(lL:gD.lookup ("new_namespaces":RN)=some (.ref nn)):
  XT n (ay 126) (av (bodyOf 126) 7) gD (t.h rest aG) .next (("attr_list", .ref (t.h rest aG).length)::gD) (t.h rest (aG++[some (.list ((DP t.us l).map ah))])):=by
 have hb:=OB.ai (n:=n) hH;by_cases h0:l=[]
 ·subst h0;refine XT.ite (c:=false) (TT.value (ET.name lL) hb) (fun h=>by cases h) (fun _=> ?_);have e:t.h rest (aG++[some (.list ((DP t.us []).map ah))])=t.h rest aG++[some (.list [])]:=by refine J (t.kh ..) ?_;rfl
  exact J e ((ag.cons (XT.assign (ET.ed ab.nil) (bw.one (AT.name (ST.local rfl)))) ag.nil))
 ·have sX:OB n (.ref nn) (t.h rest aG) true:=by
   exact(show(!(l.map fun u=>iV (bk t.us u)).isEmpty)=true by cases l with|nil=>exact absurd rfl h0|cons _ _=>rfl)▸hb
  refine XT.ite (TT.value (ET.name lL) sX) (fun _=> ?_) (fun h=>by cases h);refine ag.cons (XT.v6 (ar.of rfl ae) (IT.val (ET.name lL) (VT.ref hH)) (wy sa hH l [] hz (by simp;exact eI h2)) (by simp;exact ap h2 dc) (ST.local rfl) (fun env E=>kX E rfl rfl rfl)) ?_;have hk:(t.h rest aG++[some (AO.list ((l.map (AK t.us)).map ah))])[(t.h rest aG).length]?=some (some (.list ((l.map (AK t.us)).map ah))):=by simp
  have e:(t.h rest aG++[some (AO.list ((l.map (AK t.us)).map ah))]).set (t.h rest aG).length (some (.list ((b6 (l.map (AK t.us))).map ah)))=t.h rest (aG++[some (.list ((DP t.us l).map ah))]):=by
   refine J (Sb _ _ (Ri _)) (J (So ..) (aQ (t.kh ..) ?_));rfl
  refine aQ e ?_;exact ag.cons (XT.expr (ET.aT ET.name (GM.of (Ty.ai hk) (aJ.ai hk) RJ XS BH) ab.nil aM.builtin (CT.yC hk (J (Rk ..) h2)))) ag.nil
end
noncomputable def gy(ps:List (RN×RN)):List (RN×V):=ps.map fun p=>(p.1,V.str p.2)
noncomputable abbrev Iz(K nn:Nat)(PD:List (RN×V))(tag:RN)(eX:List (RN×V))(qs:List RN):Loc:=("attr_list", .ref K)::("parsed_qnames", .bx PD)::Gg nn tag eX qs
section
variable{n:Nat}{H:AH}{F:Fx}{ρ:Loc}
theorem tF(B:Base){t:Tg}{rest aG}{nn}{tag}{ps A}{qs}{PD}{pt:RN×RN→RN×RN×RN}(h1:ps.length≤1)(hA:A.length≤10)
  (hl:∀p∈ps,p.1.length≤1000∧p.2.length≤1000∧PD.lookup p.1=some (mi (pt p).1 (pt p).2.1 (pt p).2.2)∧(pt p).2.2.length≠0):
  XT (n+1) (ay 126) (av (bodyOf 126) 8) (Iz (t.h rest aG).length nn PD tag (gy ps) qs) (t.h rest (aG++[some (.list (A.map ah))])) .next (Iz (t.h rest aG).length nn PD tag (gy ps) qs)
   (t.h rest (aG++[some (.list ((A++ps.map fun p=>((pt p).1++":"++(pt p).2.1,p.2)).map ah))])):=by
 have hs:=R2;have hb:=OB.dict (n:=n+1) (H:=t.h rest (aG++[some (.list (A.map ah))])) (aW.bx (l:=gy ps))
 match ps,h1 with
 |[],_=>
  exact J (Su ..) (J (RF ..) ((XT.ite (c:=false) (TT.value (ET.name rfl) hb) (fun h=>by cases h) (fun _=>ag.nil))))
 |[p],_=>
  refine Rg fun kG=> ?_;obtain⟨z1,z2,kM,hu⟩:=hl p Rn;refine kG ?_;refine XT.ite (c:=true) (TT.value (ET.name rfl) hb) (fun _=>ag.cons (XT.for (IT.val (ET.call (ET.az B (jK) jN)
   (ab.cons (ET.aT (ET.name rfl) (GM.of Ty.bx aJ.bx Tv Vg Ve) ab.nil aM.builtin (CT.view aW.bx)) ab.nil) aM.builtin
   (CT.s9 aW.bx (SO _) (by intro q hq;rw[Rr] at hq;cases hq;exact eI z1))) VT.lst) ?_) ag.nil) (fun h=>by cases h)
  let K:=(t.h rest aG).length;have IA:(t.h rest (aG++[some (.list (A.map ah))]))[K]?=some (some (.list (A.map ah))):=by refine aQ (t.kh ..) ?_;simp[K]
  have jS:(t.h rest (aG++[some (.list (A.map ah))])).set K (some (.list (A.map ah++[ah ((pt p).1++":"++(pt p).2.1,p.2)])))=t.h rest (aG++[some (.list ((A++[((pt p).1++":"++(pt p).2.1,p.2)]).map ah))]):=by
   refine aQ (t.kh ..) (aQ (t.kh ..) (J (Sb _ _ (Ri _)) (J (So ..) ?_)));simp
  have N0:=OB.str (n:=n+1) (x:=(pt p).2.2) (H:=t.h rest (aG++[some (.list (A.map ah))]));rw[show((pt p).2.2.length !=0)=true from by simpa using hu] at N0;refine XF.cons (cV:=("uri",V.str (pt p).2.2)::("attr_name", .str (pt p).2.1)::("attr_qname", .str ((pt p).1++":"++(pt p).2.1))::("v", .str p.2)::("k", .str p.1)::Iz K nn PD tag (gy [p]) qs)
   trivial trivial (AT.tuple (aX.cons (AT.name (ST.local rfl)) (aX.cons (AT.name (ST.local rfl)) aX.nil))) ?_ (XF.nil trivial (ag.sub ag.nil (aa rfl (aa rfl (aa rfl (aa rfl (aa rfl (aa rfl (aa rfl (aa rfl (aa rfl (aa rfl (aa rfl ae)))))))))))))
  refine ag.cons (XT.ite (TT.bo (aL.and_false (TT.cmp (ET.name rfl) ET.none (OT.isNot_none (b:=true) (fun _ _ r=>by cases r;rfl))))) (fun h=>by cases h) (fun _=>ag.nil)) (ag.cons (XT.assign (ET.sub (ET.name rfl) (ET.name rfl) Ty.bx VY.lookup (OT.item_dict aW.bx kM)) (bw.one (AT.tuple (aX.cons (AT.name (ST.local rfl)) (aX.cons (AT.name (ST.local rfl)) (aX.cons (AT.name (ST.local rfl)) aX.nil)))))) ?_);refine aQ jS ?_;exact ag.cons (XT.expr (ET.aT (ET.name rfl) (GM.of (Ty.ai IA) (aJ.ai IA) RJ Ta R7)
   (ab.cons (ET.tuple (ab.cons (ET.de (TT.value (ET.name rfl) N0) (fun _=>ET.name rfl) (fun h=>by cases h)) (ab.cons (ET.name rfl) ab.nil)) (show 2≤Rs by refine J hs ?_;decide)) ab.nil) aM.builtin (CT.append IA (by refine J (Rk ..) (J (hs ..) ?_);exact Ku hA)))) ag.nil
 |_::_::_,h1=>simp at h1
end
theorem qJ(h:x.length≤40):(d9 x).length≤1859760:=by
 have l4:(au (au (au (au x "&" "&amp;") "<" "&lt;") "\"" "&quot;") "\t" "&#x9;").length≤51659:=bg (show(au (au (au x "&" "&amp;") "<" "&lt;") "\"" "&quot;").length≤8609 from bg (show(au (au x "&" "&amp;") "<" "&lt;").length≤1229 from bg (show(au x "&" "&amp;").length≤245 from bg h (b:=5) dc dc) (b:=4) dc dc) (b:=6) dc dc) (b:=5) dc dc;exact bg (show(au (au (au (au (au x "&" "&amp;") "<" "&lt;") "\"" "&quot;") "\t" "&#x9;") "\n" "&#xA;").length≤309959 from bg l4 (b:=5) dc dc) (b:=5) dc dc
noncomputable def fK(p:RN×RN):RN:=" "++p.1++"=\""++d9 p.2++"\""
theorem y6(h1:p.1.length≤2000)(h2:p.2.length≤40):(fK p).length≤1900000:=by
 delta fK
 simp only[RC];exact ap (ba (ba (ba (ba (bD rfl) h1) (bD rfl)) (qJ h2)) (bD rfl)) dc
noncomputable def fE:Tk:=cM 0 (cM 0 (gM (av (uN (av (bodyOf 126) 13)) 0)))
section
variable{n:Nat}{H:AH}{F:Fx}{ρ:Loc}
theorem wA(B:Base){K:Nat}{L}(hH:H[K]?=some (some (.list L))):∀(A:List (RN×RN)) acc,(∀p∈A,p.1.length≤2000∧p.2.length≤40)→acc.length+A.length≤100→
  CF (n+1) (DD (ay 126) (fE)) (fE) 0 (fun H=>H[K]?=some (some (.list L)),fun _=>True) (A.map ah) [] acc H (acc++(A.map fK).map V.str) H:=by
 intro rv
 induction rv with
 |nil=>
  intro acc _ _;rw[Su,Su,Su,RF];exact CF.nil hH _ _ (fun _ _ _=>rfl)
 |cons p A ih=>
  intro acc hz hl;have hs:=R2;have ih:=ih (acc++[.str (fK p)]) (fun v hv=>hz v (Rm _ hv)) (by simp at hl⊢;exact io hl);refine J (show acc++((p::A).map fK).map V.str=(acc++[.str (fK p)])++(A.map fK).map V.str by simp) ?_;obtain⟨z1,z2⟩:=hz p Rn;have z3:=qJ z2;have e1:(" ":RN).length=1:=rfl;have e2:("=\"":RN).length=2:=rfl;have e3:("\"":RN).length=1:=rfl;refine CF.cons hH trivial (AT.tuple (aX.cons (AT.name (ST.local rfl)) (aX.cons (AT.name (ST.local rfl)) aX.nil))) eL.nil (ET.A1 (FP.cons ET.str (FP.cons (ET.qb ET.name) (FP.cons ET.str (FP.cons (ET.qb (ET.call (ET.globK B (gb)) (ab.cons ET.name ab.nil) (aM.def (Dp B)) (Ii B z2))) (FP.cons ET.str FP.nil ?_) ?_) ?_) ?_) ?_) ?_) ae (ap (lj hl) dc) ih _ (fun _ _ _=>rfl)
  all_goals (refine((show Wp++" "=" " from rfl)).symm▸ ?_;(try simp only[RC]);lia)
end
noncomputable def cX(us:List RN)(m:Nm)(A:List (RN×RN)):List RN:=
 ["<"++(bB us m.uri++":"++m.tag)]++(if A=[] then [] else [SF "" (A.map fK)])++[(">":RN)]
noncomputable def spS:RN:="{http://www.w3.org/XML/1998/namespace}space"
theorem IB j:(hx told rs rd ig data ex decl Io pm ps T)[11+j]?=T[j]?:=J (Tr ..) rfl
theorem Tg.qK(t:Tg)(rest aG:AH):(t.h rest aG).length=11+(rest++(ft t.us t.lv++aG)).length:=by
 show(rest++(ft t.us t.lv++aG)).length+11=_;exact M9
section
variable{n:Nat}{H:AH}{F:Fx}{ρ:Loc}
theorem tG(B:Base){t:Tg}{rest aG}{nn}{m}{ps A}{qs}{PD}(hA:A.length≤3)(hz:∀p∈A,p.1.length≤2000∧p.2.length≤40)(sa:t.us.length≤100)(Q9:m.tag.length≤1000)
  (kM:PD.lookup m.q=some (mi (bB t.us m.uri) m.tag m.uri)) (oW:(gy ps).lookup spS=none) (hk:1≤t.k) (pK:t.k≤1000) (mr:t.told.length≤2000):
  ag (n+2) (ay 126) ((bodyOf 126).drop 9) (Iz (t.h rest aG).length nn PD m.q (gy ps) qs) (t.h rest (aG++[some (.list (A.map ah))])) .next []
   (({t with told:=t.told++cX t.us m A,rs:=true,k:=t.k+1}:Tg).h rest (aG++[some (.list (A.map ah))])):=by
 have hs:=R2;let tm:AH:=aG++[some (.list (A.map ah))];let K:=(t.h rest aG).length;obtain⟨k,Iq⟩:∃k,t.k=k+1:=⟨t.k-1,by exact Nd hk⟩;have qi:=(dw (u:=m.uri) sa).1;refine ag.cons (XT.assign (ET.aT ET.name (GM.of Ty.bx aJ.bx Tv Y7 Y5) (ab.cons ET.str ab.nil) aM.builtin (CT.get_none aW.bx oW)) (bw.one (AT.name (ST.local rfl)))) ?_;have pL:(t.h rest tm)[10]?=some (some (.list (Ry k (.bool false)++[.bool false]))):=by
  show some (some (AO.list (Ry t.k (.bool false))))=_;rw[Iq,eM]
 refine ag.cons (XT.expr (ET.aT (xs:=[.bool false]) (ET.attr ET.name (GA.t B rfl (uR))) (GM.of (Ty.ai pL) (aJ.ai pL) RJ Ta R7)
  (ab.cons (ET.de (TT.value ET.name OB.none) (fun h=>by cases h) (fun _=>ET.sub (ET.attr ET.name (GA.t B rfl (uR))) (ET.unary ET.int j4.neg) (Ty.ai pL) RU.lookup (OT.dg (i:=k) pL (by simp;lia) (by simp)))) ab.nil) aM.builtin (CT.append pL (by simp;exact elt (lq Iq) (elt pK dc))))) ?_
 have PZ:(t.h rest tm).set 10 (some (.list (Ry k (.bool false)++[.bool false]++[.bool false])))=hx (t.told.map V.str) t.rs t.rd t.ig (t.data.map V.str) t.ex ((iw t.us (11+rest.length) t.lv).map fun p=>V.ref p.1) (Ry t.k (.lst [])) (iW t.us) (Ry (t.k+1) (.bool false)) (rest++(ft t.us t.lv++tm)):=by
  refine aQ (eM ..) (aQ (Iq ..) (aQ (eM ..) ?_));rfl
 refine J PZ ?_;let T:AH:=rest++(ft t.us t.lv++tm);let decl:=(iw t.us (11+rest.length) t.lv).map fun p=>V.ref p.1;have Mr:∀told rs(Io ps:List V),(hx told rs t.rd t.ig (t.data.map V.str) t.ex decl Io (iW t.us) ps T)[K]?=some (some (.list (A.map ah))):=fun told rs Io ps=>by
  show(hx _ _ _ _ _ _ _ _ _ _ _)[(t.h rest aG).length]?=_;refine J (t.qK ..) (J (IB ..) ?_);show(rest++(ft t.us t.lv++(aG++[_])))[_]?=_;rw[show rest++(ft t.us t.lv++(aG++[some (AO.list (A.map ah))]))=(rest++(ft t.us t.lv++aG))++[some (AO.list (A.map ah))] by simp];exact dY
 refine ag.cons (XT.assign (ET.attr ET.name (GA.tX B rfl rfl rfl (mh))) (bw.one (AT.name (ST.local rfl)))) ?_;have cg:("<":RN).length=1:=rfl;have gn:=fG (bB t.us m.uri) m.tag;refine ag.cons (XT.expr (ET.call ET.name (ab.cons (ET.binop ET.str (ET.sub (ET.sub ET.name ET.name Ty.bx VY.lookup (OT.item_dict aW.bx kM)) ET.int Ty.tup SA.lookup (OT.item_tup (i:=0) rfl rfl)) (OT.add_str (by lia))) ab.nil) aM.bm
  (CT.fB rfl (J (Rk ..) (Ay mr))))) ?_
 let cD:List RN:=t.told++["<"++(bB t.us m.uri++":"++m.tag)];let gq:List RN:=cD++(if A=[] then [] else [SF "" (A.map fK)]);have iK:(hx (t.told.map V.str) t.rs t.rd t.ig (t.data.map V.str) t.ex decl (Ry t.k (.lst [])) (iW t.us) (Ry (t.k+1) (.bool false)) T).set 1 (some (.list (t.told.map V.str++[V.str ("<"++(bB t.us m.uri++":"++m.tag))])))=hx (cD.map V.str) t.rs t.rd t.ig (t.data.map V.str) t.ex decl (Ry t.k (.lst [])) (iW t.us) (Ry (t.k+1) (.bool false)) T:=by exact aQ (show t.told.map V.str++[V.str ("<"++(bB t.us m.uri++":"++m.tag))]=cD.map V.str by simp[cD]) rfl
 refine J iK ?_;have hb:=OB.ai (n:=n+2) (Mr (cD.map V.str) t.rs (Ry t.k (.lst [])) (Ry (t.k+1) (.bool false)));let J9:Loc:=("write", .bm "list.append" (.ref 1))::("space_behaviour", .none)::Iz K nn PD m.q (gy ps) qs;refine ag.cons (an:=J9) (H1:=hx (gq.map V.str) t.rs t.rd t.ig (t.data.map V.str) t.ex decl (Ry t.k (.lst [])) (iW t.us) (Ry (t.k+1) (.bool false)) T) ?_ ?_
 ·by_cases h0:A=[]
  ·refine J (show gq=cD by simp[gq,h0]) ?_;have sX:OB (n+2) (.ref K) (hx (cD.map V.str) t.rs t.rd t.ig (t.data.map V.str) t.ex decl (Ry t.k (.lst [])) (iW t.us) (Ry (t.k+1) (.bool false)) T) false:=by
    have:=hb;rw[(show(!(A.map ah).isEmpty)=false by exact J h0 rfl)] at this;exact this
   exact XT.ite (TT.value ET.name sX) (fun h=>by cases h) (fun _=>ag.nil)
  ·have sX:OB (n+2) (.ref K) (hx (cD.map V.str) t.rs t.rd t.ig (t.data.map V.str) t.ex decl (Ry t.k (.lst [])) (iW t.us) (Ry (t.k+1) (.bool false)) T) true:=by
    have e:(!(A.map ah).isEmpty)=true:=by cases A with|nil=>exact absurd rfl h0|cons _ _=>rfl
    exact e▸hb
   have BI:((A.map fK).map (·.length)).sum+(A.map fK).length*("":RN).length≤16777216:=by
    have hq:∀(A:List (RN×RN)),(∀p∈A,p.1.length≤2000∧p.2.length≤40)→((A.map fK).map (·.length)).sum≤A.length*1900000:=by
     intro A
     induction A with
     |nil=>intro _;decide
     |cons p A ih=>
      intro h;have h1:=ih fun q hq=>h q (Rm _ hq);have h2:=y6 (h p (by simp)).1 (h p (by simp)).2;simp only[RD,Ub,RQ];lia
    have:=hq A hz;refine J (show("":RN).length=0 from rfl) ?_;lia
   have LJ:(hx (cD.map V.str) t.rs t.rd t.ig (t.data.map V.str) t.ex decl (Ry t.k (.lst [])) (iW t.us) (Ry (t.k+1) (.bool false)) T).set 1 (some (.list (cD.map V.str++[V.str (SF "" (A.map fK))])))=hx (gq.map V.str) t.rs t.rd t.ig (t.data.map V.str) t.ex decl (Ry t.k (.lst [])) (iW t.us) (Ry (t.k+1) (.bool false)) T:=by
    rw[(show gq=cD++[SF "" (A.map fK)] by simp[gq,h0]),show(cD++[SF "" (A.map fK)]).map V.str=cD.map V.str++[V.str (SF "" (A.map fK))] from RH];rfl
   refine aQ LJ ?_;refine XT.ite (TT.value ET.name sX) (fun _=>ag.cons (XT.expr (ET.call ET.name (ab.cons (ET.aT ET.str
    (GM.of Ty.str aJ.str Sd WH WG) (ab.cons (ET.cL (ar.of rfl ae) (IT.val ET.name (VT.ref (Mr (cD.map V.str) t.rs (Ry t.k (.lst [])) (Ry (t.k+1) (.bool false))))) (wA B (Mr (cD.map V.str) t.rs (Ry t.k (.lst [])) (Ry (t.k+1) (.bool false))) A [] hz (by simp;exact eI hA)) (by simp;exact gC hA)) ab.nil) aM.builtin (CT.join (joinOk_of BI) (joinOk_length (joinOk_of BI)))) ab.nil) aM.bm
    (CT.fB rfl (by simp[cD];exact F2 (elt mr dc))))) ag.nil) (fun h=>by cases h)
 let qL:List RN:=gq++[(">":RN)];have d5:gq.length≤t.told.length+2:=by
  refine J Ro ?_;have:cD.length=t.told.length+1:=by simp[cD]
  refine bn (fun _=> ?_) (fun _=> ?_)<;>simp<;>lia
 refine ag.cons (XT.expr (ET.call ET.name (ab.cons ET.str ab.nil) aM.bm (CT.fB rfl (by refine J (Rk ..) ?_;exact elt d5 (F2 (elt mr dc)))))) ?_;have LL:(hx (gq.map V.str) t.rs t.rd t.ig (t.data.map V.str) t.ex decl (Ry t.k (.lst [])) (iW t.us) (Ry (t.k+1) (.bool false)) T).set 1 (some (.list (gq.map V.str++[V.str ">"])))=hx (qL.map V.str) t.rs t.rd t.ig (t.data.map V.str) t.ex decl (Ry t.k (.lst [])) (iW t.us) (Ry (t.k+1) (.bool false)) T:=by
  exact J (show qL.map V.str=gq.map V.str++[V.str ">"] from RH) rfl
 refine J LL (ag.cons (XT.ite (c:=false) (TT.cmp ET.name ET.none (OT.isNot_none (b:=true) (fun _ _ r=>by cases r;rfl))) (fun h=>by cases h) (fun _=>ag.nil)) ?_);refine ag.cons (XT.lQ (d:=3) rfl wv (XT.assign ET.bool (bw.one (AT.attr (du B) (ET.name rfl) rfl rfl (BE) (show 17≤100 by decide))))) (ag.cons (XT.expr (ET.aT (ET.attr ET.name (GA.tX B rfl rfl rfl (tn))) (GM.of (Ty.ai rfl) (aJ.ai rfl) RJ Ta R7) (ab.cons (ET.list ab.nil) ab.nil) aM.builtin (CT.append rfl (by refine J ZC ?_;exact Ay pK)))) ?_);have ni:(hx (qL.map V.str) true t.rd t.ig (t.data.map V.str) t.ex decl (Ry t.k (.lst [])) (iW t.us) (Ry (t.k+1) (.bool false)) T).set 8 (some (.list (Ry t.k (.lst [])++[.lst []])))=({t with told:=t.told++cX t.us m A,rs:=true,k:=t.k+1}:Tg).h rest (aG++[some (.list (A.map ah))]):=by
  refine J ((show qL=t.told++cX t.us m A by simp only[qL,gq,cD,cX,RP]) ..) (aQ (eM ..) ?_);rfl
 exact J ni ((ag.sub ag.nil ae))
end
noncomputable def news(Fl:List RN):List Nm→List RN
 |[]=>[]
 |m::N=>if m.uri∈Fl then news Fl N else m.uri::news (Fl++[m.uri]) N
theorem fL{A:List RN}:news A (m::N)=if m.uri∈A then news A N else m.uri::news (A++[m.uri]) N:=rfl
theorem jt N:∀Fl,(news Fl N).length≤N.length:=by
 induction N with
 |nil=>intro _;exact Ri _
 |cons m N ih=>
  intro Fl;rw[fL];refine bn (fun _=> ?_) fun _=> ?_
  ·exact Sq (ih _)
  ·exact Ue (ih _)
theorem news_mem N:∀Fl,∀u∈news Fl N,∃m∈N,m.uri=u:=by
 induction N with
 |nil=>intro _ u h;cases h
 |cons m N ih=>
  intro Fl u h;rw[fL] at h;revert h;refine bn (fun _ h=> ?_) fun _ h=> ?_
  ·obtain⟨x,h1,h2⟩:=ih _ u h;exact⟨x,by simp[h1],h2⟩
  ·rcases Rt.mp h with rfl|h
   ·exact⟨m,by simp,rfl⟩
   ·obtain⟨x,h1,h2⟩:=ih _ u h;exact⟨x,by simp[h1],h2⟩
theorem Tg.oX(ls:List (Option (List RN))):∀N(t:Tg) l,t.lv=ls++[some l]→(t.oV N).lv=ls++[some (l++news (live t.lv).flatten N)]:=by
 intro rv
 induction rv with
 |nil=>
  intro t l h;exact J (show news _ []=[] from rfl) (J (RF ..) ((h)))
 |cons m N ih=>
  intro t l h;show((t.qn m.uri).oV N).lv=_;rw[fL];refine bn (fun _=> ?_) fun _=> ?_
  ·rename_i hm;have e:t.qn m.uri=t:=by unfold Tg.qn;rw[if_pos hm]
   exact J e ((ih t l h))
  ·rename_i hm;have e:(t.qn m.uri).lv=ls++[some (l++[m.uri])]:=by
    unfold Tg.qn;refine J (if_neg hm) ?_;dsimp only;exact J h ((eS _ l [] (fun _ h=>by cases h) ls))
   have aV:live t.lv≠[]:=by refine J (h ..) (J (b7 ..) ?_);simp[live]
   have e2:=(t.nU m.uri aV).1;rw[if_neg hm] at e2;rw[ih (t.qn m.uri) (l++[m.uri]) e,e2];simp
theorem Tg.tH:∀N(t:Tg),∃r,(t.oV N).us=t.us++r∧r.length≤N.length:=by
 intro rv
 induction rv with
 |nil=>
  intro t;exact⟨[],by rw[RF];rfl,Ri _⟩
 |cons m N ih=>
  intro t;obtain⟨r,e,hl⟩:=ih (t.qn m.uri);have h:∃r',(t.qn m.uri).us=t.us++r'∧r'.length≤1:=by
   unfold Tg.qn;refine bn (fun _=> ?_) fun _=> ?_
   ·exact⟨[],by simp,by simp⟩
   ·dsimp only;refine bn (fun _=> ?_) fun _=> ?_
    ·exact⟨[],by simp,by simp⟩
    ·exact⟨[m.uri],rfl,by simp⟩
  obtain⟨r',e',nH⟩:=h;exact⟨r'++r,by show((t.qn m.uri).oV N).us=_;rw[e,e',RP],by simp;exact vD (ba hl nH)⟩
theorem kY{u}(h:u∈us):bB (us++r) u=bB us u:=by unfold bB;rw[Vz,if_pos h]
theorem Tg.BJ{t:Tg}{N}{u}(h:u∈t.us):bB (t.oV N).us u=bB t.us u:=by
 obtain⟨r,e,_⟩:=Tg.tH N t;rw[e,kY h]
theorem Tg.Fa:∀N(t:Tg),t.ok→live t.lv≠[]→(∀m∈N,m.uri≠kH)→t.us.length+N.length≤100→(t.oV N).ok:=by
 intro rv
 induction rv with
 |nil=>
  intro t ok _ _ _;exact ok
 |cons m N ih=>
  intro t ok aV hx hl;exact ih (t.qn m.uri) (t.y3 ok m.uri aV (hx m Rn) (uo hl)) (t.nU m.uri aV).2.1 (fun x h=>hx x (Rm _ h)) (ap (AS (ba ((t.tB ok m.uri aV).1) (Ri _))) hl)
theorem Tg.BK(t:Tg) u:(t.qn u).told=t.told∧(t.qn u).data=t.data∧(t.qn u).ex=t.ex∧(t.qn u).rs=t.rs∧(t.qn u).rd=t.rd∧(t.qn u).ig=t.ig∧(t.qn u).k=t.k:=by
 unfold Tg.qn;refine bn (fun _=> ?_) (fun _=> ?_)<;>exact⟨rfl,rfl,rfl,rfl,rfl,rfl,rfl⟩
theorem Tg.qM:∀N(t:Tg),(t.oV N).told=t.told∧(t.oV N).data=t.data∧(t.oV N).ex=t.ex∧(t.oV N).rs=t.rs∧(t.oV N).rd=t.rd∧(t.oV N).ig=t.ig∧(t.oV N).k=t.k:=by
 intro rv
 induction rv with
 |nil=>
  intro t;exact⟨rfl,rfl,rfl,rfl,rfl,rfl,rfl⟩
 |cons m N ih=>
  intro t;refine Rg fun kG=> ?_;obtain⟨a,b,c,d,e,f,g⟩:=ih (t.qn m.uri);obtain⟨a',b',c',d',e',f',g'⟩:=t.BK m.uri;exact kG (⟨a.trans a',b.trans b',c.trans c',d.trans d',e.trans e',f.trans f',g.trans g'⟩)
theorem wB:∀N t m,t.ok→live t.lv≠[]→(∀m∈N,m.uri≠kH)→t.us.length+N.length≤100→(N.map (·.q)).Nodup→m∈N→(eU t N).lookup m.q=some (mi (bB (t.oV N).us m.uri) m.tag m.uri):=by
 intro N
 induction N with
 |nil=>intro t m _ _ _ _ _ hm;cases hm
 |cons x N ih=>
  intro t m ok aV hx hl hd hm;rw[RD,SG] at hd;show((x.q,_)::eU (t.qn x.uri) N).lookup m.q=some (mi (bB ((t.qn x.uri).oV N).us m.uri) m.tag m.uri);refine J lookup_cons ?_;rcases Rt.mp hm with rfl|hm
  ·rw[if_pos rfl,Tg.BJ (t.E7 ok m.uri)]
  ·exact(if_neg (show m.q≠x.q from fun e=>hd.1 (e▸Rz.mpr ⟨m,hm,rfl⟩)))▸ih (t.qn x.uri) m (t.y3 ok x.uri aV (hx x Rn) (uo hl)) (t.nU x.uri aV).2.1 (fun y h=>hx y (Rm _ h)) (ap (AS (ba ((t.tB ok x.uri aV).1) (Ri _))) hl) hd.2 hm
section
variable{n:Nat}{H:AH}{F:Fx}{ρ:Loc}
theorem Binds.P0(B:Base){fd}{a b c d e}{x y z u o}{dv}(h:∀S(v1 v2 v3 v4:Value),WA (KK) S (SV fd ⟨[v1,v2,v3,v4],[]⟩)=some [(a,v1),(b,v2),(c,v3),(d,v4),(e,dv)])(hz:∀W,Rel W o dv):Binds fd [x,y,z,u] [] [(a,x),(b,y),(c,z),(d,u),(e,o)]:=fun hp W vs kv k r rn=>by
 cases rn;obtain⟨v1,r1,rfl,q1,r⟩:=r;obtain⟨v2,v3,v4,rfl,q2,q3,q4⟩:=r.three;exact⟨_,UO (B.In hp k) (h _ v1 v2 v3 v4),v1,_,rfl,q1,v2,_,rfl,q2,v3,_,rfl,q3,v4,_,rfl,q4,dv,_,rfl,hz W,rfl⟩
end
theorem y7 od(h:lookIn ("_qname":RN) od=some none):findObj (KK) 150 (some od) "_qname"=some (.bind (.builtin "function.__get__") (.ref 90)):=by
 obtain⟨cd,GO⟩:∃cd,clsIn (KK) 150=some cd:=⟨_,rfl⟩;have h6:aaB cd (some od) "_qname"=some none:=by delta aaB;refine bn (fun _=> ?_) (fun _=> ?_)<;>first|exact h|rfl
 delta findObj
 refine J GO ?_;rw[VM,qA,VM];dsimp only;rw[show specialIn (KK) (.ref 90) "__get__"=some (some (.builtin "function.__get__")) from rfl,VM];dsimp only;rw[show takesIn (KK) (.ref 90)=some false from rfl,VM];dsimp only;rw[h6,VM];exact if_neg fun q=>R4 ((RA ..).mp q).1
noncomputable def IC(us:List RN):List (Nm×RN)→RN×RN×RN
 |a::_=>(bB us a.1.uri,a.1.tag,a.1.uri)
 |[]=>("","","")
theorem BL{eX}(h1:eX.length≤1){a}(ha:a∈eX):IC us eX=(bB us a.1.uri,a.1.tag,a.1.uri):=by
 match eX,h1,ha with
 |[b],_,ha=>exact(Rr.mp ha)▸rfl
 |_::_::_,h,_=>simp at h
theorem wC(h:p∈b6 L):p∈L:=by
 match L with
 |[]=>exact h
 |[_]=>exact h
 |[x,y]=>
  have h:p∈bj (oL y x) x y:=h
  delta bj at h
  revert h;refine bn (fun _ h=> ?_) fun _ h=> ?_
  ·simp at h⊢;exact h.symm
  ·exact h
 |_::_::_::_=>exact h
noncomputable def Tg.DQ(t:Tg)(m0:Nm)(eX:List (Nm×RN)):Tg:=
 let tq:=t.oV (db (m0::eX.map (·.1)))
 {tq with told:=t.told++cX tq.us m0 (DP tq.us (news (live t.lv).flatten (db (m0::eX.map (·.1))))++eX.map fun a=>(bB tq.us a.1.uri++":"++a.1.tag,a.2)),rs:=true,k:=t.k+1}
structure Op m0(eX:List (Nm×RN)):Prop where
 ns:NS (m0::eX.map (·.1))
 P1:∀m∈m0::eX.map (·.1),m.uri.length≤40
 Ms:∀a∈eX,a.2.length≤40∧a.1.uri.length≠0
 sp:∀a∈eX,a.1.q≠spS
 l1:eX.length≤1
section
variable{n:Nat}{H:AH}{F:Fx}{ρ:Loc}
theorem qN(B:Base){t:Tg}{rest}{ls}{m0}{eX}(O:Op m0 eX)(ok:t.ok)(ki:t.lv=ls++[some []])(h1:(live t.lv).flatten.length≤198)(h2:t.us.length≤98)(hk:1≤t.k)(pK:t.k≤1000)(mr:t.told.length≤2000):
  ∃jr,CT (n+4+1+1) (.st (.ref 126)) [.ref 2, .str m0.q, .bx (gy (eX.map fun a=>(a.1.q,a.2))), .ref (11+rest.length+ls.length)] [] (t.h rest []) .none ((t.DQ m0 eX).h rest jr):=by
 have aV:live t.lv≠[]:=by refine J (ki ..) (J (b7 ..) ?_);simp[live]
 let N:List Nm:=m0::eX.map (·.1);have hN:NS N:=O.ns;have hp:=dK N;let tq:=t.oV (db N);let ps:List (RN×RN):=eX.map fun a=>(a.1.q,a.2);have hlen:=hp.length_eq▸hN.l2;refine Rg fun kG=> ?_;obtain⟨r,sa,hr⟩:=Tg.tH (db N) t;refine kG ?_;have Ka:tq.us.length≤100:=by refine J sa (J Ro ?_);lia
 let l:=news (live t.lv).flatten (db N);have P4:tq.lv=ls++[some l]:=by
  exact(TM ..)▸(Tg.oX ls (db N) t [] ki)
 have BC:l.length≤2:=Rq (jt _ _) hlen;have ID:∀u∈l,u.length≤40:=fun u hu=>by
  obtain⟨m,hm,rfl⟩:=news_mem _ _ u hu;exact O.P1 m (hp.mem_iff.mp hm)
 refine Rg fun kG=> ?_;obtain⟨c,hc,hd,oc,vs,EJ,LK⟩:=oU;obtain⟨BM,h6⟩:=tE B hN ok aV h1 h2;refine kG ?_;have HC:N.map (·.q)=m0.q::(gy ps).map (·.1):=by simp[N,gy,ps]
 have AL:=fun m hm=>wB (db N) t m ok aV (fun m hm=>(hN.ok m (hp.mem_iff.mp hm)).nx) (ap (ba h2 hlen) dc) ((hp.map (·.q)).nodup_iff.mpr hN.nd) (hp.mem_iff.mpr hm);let A0:=DP tq.us l;have N1:A0.length=l.length:=by show(b6 _).length=_;rw[jG,Rk]
 let pt:RN×RN→RN×RN×RN:=fun _=>IC tq.us eX;have N2:∀a∈eX,∀p,pt p=(bB tq.us a.1.uri,a.1.tag,a.1.uri):=fun a ha p=>BL O.l1 ha;have P5:ps.map (fun p=>((pt p).1++":"++(pt p).2.1,p.2))=eX.map fun a=>(bB tq.us a.1.uri++":"++a.1.tag,a.2):=by
  exact RO.trans (R9 fun a ha=>by show((pt (a.1.q,a.2)).1++":"++(pt (a.1.q,a.2)).2.1,a.2)=_;exact J (N2 a ha (a.1.q,a.2)) rfl)
 let A:=A0++eX.map fun a=>(bB tq.us a.1.uri++":"++a.1.tag,a.2);refine Rg fun kG=> ?_;obtain⟨r1,r2,r3,r4,r5,r6,r7⟩:=Tg.qM (db N) t;refine kG ?_;have h7:=wz (n:=n+4+1) B Ka (gD:=("parsed_qnames", .bx (eU t (db N)))::Gg (11+rest.length+ls.length) m0.q (gy ps) (N.map (·.q))) BC (fun u hu=>Rq (ID u hu) dc) (Tg.kU P4 rest BM) rfl;have h8:=tF (n:=n+4) B (t:=tq) (rest:=rest) (aG:=BM) (nn:=11+rest.length+ls.length) (tag:=m0.q) (ps:=ps) (qs:=N.map (·.q)) (pt:=pt) (J (Rk ..) O.l1) (ap (bD N1) (ap BC dc)) (fun p sV=>by
  obtain⟨a,ha,rfl⟩:=Rz.mp sV;have y8:a.1∈N:=Rm _ (Rz.mpr ⟨a,ha,rfl⟩);exact J (N2 a ha (a.1.q,a.2)) ((⟨(hN.ok a.1 y8).ql,Rq (O.Ms a ha).1 dc,AL a.1 y8,(O.Ms a ha).2⟩)))
 rw[P5] at h8;have h9:=tG (n:=n+3) B (rest:=rest) (aG:=BM) (nn:=11+rest.length+ls.length) (ps:=ps) (A:=A) (qs:=N.map (·.q)) (by refine J (Ro ..) (J (Rk ..) (J (N1 ..) ?_));have:=O.l1;exact ap (ba BC this) dc) (fun p sV=> ?_) Ka (hN.ok m0 (Rn ..)).tl (AL m0 (Rn ..)) ?_ (J r7 hk) (by exact J r7 pK) (r1▸mr)
 ·refine⟨BM++[some (.list (A.map ah))],CT.fn (g:= .next) (an:=[]) (bs:=[("self", .ref 2),("tag", .str m0.q),("attrs", .bx (gy ps)),("new_namespaces", .ref (11+rest.length+ls.length)),("qname_text", .none)]) B (Dl B) (Binds.P0 B (HP) (fun _=>rfl)) (show [("self":RN),"tag","attrs","new_namespaces","qname_text"].Nodup by decide) rfl ?_⟩;refine ag.cons (XT.ite (TT.bo (aL.and_false (TT.cmp (ET.attr (ET.name rfl) (GA.t B rfl (tr))) ET.none (OT.isNot_none (b:=true) (fun _ _ r=>by cases r;rfl))))) (fun h=>by cases h) (fun _=>ag.nil)) ?_;refine ag.cons (XT.assign (ET.Bi (ET.name rfl) (ET.name rfl) (J (Rk ..) (J (Rk ..) ((O.l1)))) (fun p hp e=>(SG.mp (HC▸hN.nd)).1 (e▸Rz.mpr ⟨p,hp,rfl⟩)) (fun y hy=>by
   replace hy:=HC.symm▸hy;obtain⟨m,hm,rfl⟩:=Rz.mp hy;exact gC ((hN.ok m hm).ql)) rfl hc (B.uz _ _ EJ) LK) (bw.one (AT.name (ST.local rfl)))) ?_
  refine aQ HC (ag.cons (XT.assign (ET.uy B.mods) (bw.one (AT.name (ST.local rfl)))) ?_);refine ag.cons (XT.ite (c:=false) (TT.cmp (ET.name rfl) ET.none (OT.isNot_none (b:=true) (fun _ _ r=>by cases r;rfl))) (fun h=>by cases h) (fun _=>ag.nil)) (ag.cons (XT.ite (TT.bo (aL.and_false (TT.cmp (ET.attr (ET.name rfl) (GA.t B rfl (wf))) ET.none (OT.isNot_none (b:=true) (fun _ _ r=>by cases r;rfl))))) (fun h=>by cases h) (fun _=>ag.cons (XT.assign ET.none (bw.one (AT.name (ST.local rfl)))) ag.nil)) ?_);refine ag.cons (XT.assign (ET.attr (ET.name rfl) (GA.aT (du B) rfl rfl rfl (y7) rfl)) (bw.one (AT.name (ST.cell rfl)))) (ag.cons h6 ?_);refine J (TM ..) (ag.cons h7 (ag.cons h8 ?_));have he:t.DQ m0 eX={tq with told:=tq.told++cX tq.us m0 A,rs:=true,k:=tq.k+1}:=by
   show({tq with told:=t.told++cX tq.us m0 A,rs:=true,k:=t.k+1}:Tg)=_;rw[show tq.told=t.told from r1,show tq.k=t.k from r7]
  exact he▸h9
 ·rcases RE.mp sV with sV|sV
  ·obtain⟨u,hu,rfl⟩:=Rz.mp (wC sV);refine⟨?_,(ID u hu)⟩;refine J (RC ..) ?_;exact ap (ba (bD rfl) ((dw Ka).1)) dc
  ·obtain⟨a,ha,rfl⟩:=Rz.mp sV;refine⟨?_,(O.Ms a ha).1⟩;exact J (fG ..) ((ap (ba (ba ((dw Ka).1) (Ri _)) ((hN.ok a.1 (Rm _ (Rz.mpr ⟨a,ha,rfl⟩))).tl)) dc))
 ·have:∀L,(∀p∈L,p.1≠spS)→(gy L).lookup spS=none:=by
   intro L
   induction L with
   |nil=>intro _;rfl
   |cons p L ih=>
    intro h;exact J lookup_cons (J (if_neg (fun e=>h p Rn e.symm)) ((ih fun q hq=>h q (Rm _ hq))))
  refine this ps fun p sV=> ?_;obtain⟨a,ha,rfl⟩:=Rz.mp sV;exact O.sp a ha
end
noncomputable def Tg.startT(t:Tg)(m0:Nm)(eX:List (Nm×RN)):Tg:=
 if t.ig≠0∨m0.q=t.ex then {t with ig:=t.ig+1} else({t.fl with lv:=t.lv++[some []]}:Tg).DQ m0 eX
theorem Tg.Fb{t:Tg}{m0}{eX}{ls}(h:t.lv=ls++[some []]):(t.DQ m0 eX).lv.length=ls.length+1:=by
 refine J (Tg.oX ls _ t [] h) ?_;simp
section
variable{n:Nat}{H:AH}{F:Fx}{ρ:Loc}
theorem tI(B:Base){t:Tg}{rest}(hr:∀ob,some ob∈rest→ob.dG 11=true∨ob.dG (11+rest.length)=true){m0}{eX}(O:Op m0 eX)(ok:t.ok)(fit:t.fit)(h1:(live t.lv).flatten.length≤198)(h2:t.us.length≤98)(wx:t.k=(live t.lv).length+1)(pK:t.k≤1000):
  CT (n+4+1+1+1) (.st (.ref 120)) [.ref 2, .str m0.q, .bx (gy (eX.map fun a=>(a.1.q,a.2)))] [] (t.h rest []) .none ((t.startT m0 eX).h rest []):=by
 let bs:Loc:=[("self", .ref 2),("tag", .str m0.q),("attrs", .bx (gy (eX.map fun a=>(a.1.q,a.2))))];have Mt:OT (n+4+1+1) (Sv .IsNot) (.ref 5) .none (t.h rest []) (.bool true) (t.h rest []):=OT.isNot_none (b:=false) (fun _ _ r=>by obtain⟨a,rfl,_⟩:=r;rfl);have qE:=OT.EF (n:=n+4+1+1) (k:=5) (x:=m0.q) (H:=t.h rest []) rfl;by_cases hX:t.ig≠0∨m0.q=t.ex
 ·have ee:t.startT m0 eX={t with ig:=t.ig+1}:=by unfold Tg.startT;rw[if_pos hX]
  refine J ee ?_;refine CT.fn (g:= .ret .none) (an:=bs) (bs:=bs) B (yG B) (Binds.b3 B (Dk)) (show [("self":RN),"tag","attrs"].Nodup by decide) rfl ?_;have DR:ag (n+4+1+1) (ay 120) (uN (av (bodyOf 120) 0)) bs (t.h rest []) (.ret .none) bs (({t with ig:=t.ig+1}:Tg).h rest []):=by
   refine ag.cons ?_ (ag.ret XT.GQ);exact XT.lQ (d:=3) rfl nT (XT.uA (du B) ET.name (GA.t B rfl (b8)) ET.int Em.add_int rfl rfl (mo) (show 17≤100 by decide))
  refine ag.ret ?_;by_cases h0:t.ig=0
  ·have hb:OB (n+4+1+1) (.int t.ig) (t.h rest []) false:=by
    have:=OB.int (n:=n+4+1+1) (i:=t.ig) (H:=t.h rest []);rwa [show(t.ig !=0)=false from by simpa using h0] at this
   rw[show decide (m0.q∈[t.ex])=true from by simp[(hX.resolve_left fun h=>h h0)]] at qE;exact XT.ite (TT.bo (aL.and_true (TT.cmp (ET.attr ET.name (GA.t B rfl (fF))) ET.none Mt) (aL.and_true (TT.bo (aL.or_false (TT.value (ET.attr ET.name (GA.t B rfl (b8))) hb) (aL.or_true (TT.cmp ET.name (ET.attr ET.name (GA.t B rfl (fF))) qE)))) aL.and_nil))) (fun _=>DR) (fun h=>by cases h)
  ·have hb:OB (n+4+1+1) (.int t.ig) (t.h rest []) true:=by
    have:=OB.int (n:=n+4+1+1) (i:=t.ig) (H:=t.h rest []);rwa [show(t.ig !=0)=true from by simpa using h0] at this
   exact XT.ite (TT.bo (aL.and_true (TT.cmp (ET.attr ET.name (GA.t B rfl (fF))) ET.none Mt) (aL.and_true (TT.bo (aL.or_true (TT.value (ET.attr ET.name (GA.t B rfl (b8))) hb))) aL.and_nil))) (fun _=>DR) (fun h=>by cases h)
 ·have ee:t.startT m0 eX=({t.fl with lv:=t.lv++[some []]}:Tg).DQ m0 eX:=by unfold Tg.startT;rw[if_neg hX]
  refine J ee ?_;have h0:=Rg fun h=>hX (.inl h);have hq:m0.q≠t.ex:=fun h=>hX (.inr h);have hb:OB (n+4+1+1) (.int t.ig) (t.h rest []) false:=by
   have:=OB.int (n:=n+4+1+1) (i:=t.ig) (H:=t.h rest []);rwa [show(t.ig !=0)=false from by simpa using h0] at this
  replace qE:=(show decide (m0.q∈[t.ex])=false from by simp[hq])▸qE;let t1:Tg:={t.fl with lv:=t.lv++[some []]};have N4:(live t1.lv).flatten=(live t.lv).flatten:=by refine J (show live t1.lv=live t.lv++[[]] by exact J (b7 ..) rfl) ?_;simp
  have Mu:=Tg.DL ok;obtain⟨jr,hc⟩:=qN B O (show t1.ok from⟨fun u hu=>by rw[N4] at hu;exact t.fa▸ok.mem u hu,Mu.len,Mu.nd,Mu.AJ⟩) rfl (N4▸h1) (J t.fa h2) (by exact J t.BF ((D6 (lq wx)))) (J t.BF pK) (ap t.kW (ap (ba fit.told (Ri _)) dc));rw[(show∀t x,t.h rest x=t.h rest []++x from fun t x=>by simp) (t1.DQ m0 eX) jr] at hc;have hlen:∀t:Tg,(t.h rest []).length=11+rest.length+t.lv.length:=fun t=>by refine J (t.qK ..) ?_;simp[ft];exact JL
  refine CT.drop (T:=jr) ?_ ?_ rfl (Tg.dG hr)
  ·refine CT.fn (g:= .next) (an:=("new_namespaces", .ref (11+rest.length+t.lv.length))::bs) (bs:=bs) B (yG B) (Binds.b3 B (Dk)) (show [("self":RN),"tag","attrs"].Nodup by decide) rfl ?_;refine ag.cons (XT.ite (TT.bo (aL.and_true (TT.cmp (ET.attr ET.name (GA.t B rfl (fF))) ET.none Mt) (aL.and_false (TT.bo (aL.or_false (TT.value (ET.attr ET.name (GA.t B rfl (b8))) hb) (aL.or_false (TT.cmp ET.name (ET.attr ET.name (GA.t B rfl (fF))) qE) aL.or_nil)))))) (fun h=>by cases h) (fun _=>ag.nil)) (ag.cons (qF B fit (i:=1) rfl rfl (by intro _;rfl)) ?_);refine ag.cons (XT.assign (ET.ed ab.nil) (bw.one (AT.name (ST.local rfl)))) ?_;refine J (show(t.fl.h rest []).length=11+rest.length+t.lv.length by exact J (hlen ..) (J (t.iE ..) rfl)) ?_;have h7:(t.fl.h rest []++[some (AO.list [])])[7]?=some (some (.list ((iw t.fl.us (11+rest.length) t.fl.lv).map fun p=>V.ref p.1))):=rfl;have A8:((iw t.fl.us (11+rest.length) t.fl.lv).map fun p=>V.ref p.1).length≤2000:=by
    exact J (Rk ..) (J (RQ ..) (J (fH ..) (J (t.iE ..) ((ap (lq wx) (ap pK dc))))))
   refine ag.cons (XT.expr (ET.aT (ET.attr ET.name (GA.tX B rfl rfl rfl (kR))) (GM.of (Ty.ai h7) (aJ.ai h7) RJ Ta R7) (ab.cons ET.name ab.nil) aM.builtin (CT.append h7 (Ay A8)))) ?_;have e7:(t.fl.h rest []++[some (AO.list [])]).set 7 (some (.list (((iw t.fl.us (11+rest.length) t.fl.lv).map fun p=>V.ref p.1)++[.ref (11+rest.length+t.lv.length)])))=t1.h rest []:=by
    have hL:(iw t.fl.us (11+rest.length) (t.lv++[some []])).map (fun p=>V.ref p.1)=((iw t.fl.us (11+rest.length) t.fl.lv).map fun p=>V.ref p.1)++[.ref (11+rest.length+t.lv.length)]:=by
     refine J t.iE ?_;unfold iw;refine J (gR ..) ?_;simp only[RD,RH];rfl
    show _=hx (t.fl.told.map V.str) t.fl.rs t.fl.rd t.fl.ig (t.fl.data.map V.str) t.fl.ex ((iw t.fl.us (11+rest.length) (t.lv++[some []])).map (fun p=>V.ref p.1)) (Ry t.fl.k (.lst [])) (iW t.fl.us) (Ry t.fl.k (.bool false)) (rest++(ft t.fl.us (t.lv++[some []])++[]));refine J hL ?_;show hx _ _ _ _ _ _ _ _ _ _ ((rest++(ft t.fl.us t.fl.lv++[]))++[some (AO.list [])])=_;refine J t.iE ?_;simp[ft]
   refine J e7 (ag.cons (XT.ite (TT.bo (aL.and_false (TT.cmp (ET.attr ET.name (GA.t B rfl (yR))) ET.none (OT.isNot_none (b:=true) (fun _ _ r=>by cases r;rfl))))) (fun h=>by cases h) (fun _=>ag.nil)) ?_);exact ag.cons (XT.expr (ET.aT ET.name (GM.t B rfl (wg) rfl) (ab.cons ET.name (ab.cons ET.name (ab.cons ET.name ab.nil))) (aM.def (Dl B)) hc)) ag.nil
  ·refine J (hlen ..) (J (hlen ..) (J (Tg.Fb rfl) ?_));lia
end
noncomputable abbrev Fc(i:Nat)(e:Tk):Tk:=cM i e
noncomputable def Fd(file:RN)(line:Int)(name:RN):RN:=
 if(file=="~"&&line==0)=true then(if(VI name "<"&&Wg name ">")=true then "{"++TH name (some 1) (some (-1))++"}" else name) else file++":"++iA line++"("++name++")"
section
variable{n:Nat}{H:AH}{F:Fx}{ρ:Loc}
theorem qO(B:Base){file name}{line}(hi:line=-1∨(0≤line∧line<1000))(hf:file.length≤100)(m8:Rv file=true)(hn:name.length≤100):
  CT (n+8+1) (.st (.ref 175)) [.tup [.str file, .int line, .str name]] [] H (.str (Fd file line name)) H:=by
 let bs:Loc:=[("func_name", .tup [.str file, .int line, .str name])];have ht:OT (n+8) (Sv .Eq) (.tup [.str file, .int line]) (.tup [.str "~", .int 0]) H (.bool (file=="~"&&line==0)) H:=by
  have:=OT.eq (n:=n) (H:=H) (x:= .tup [.str file, .int line]) (y:= .tup [.str "~", .int 0]) rfl rfl (by simp[Un,YC,Zc,TW,Uk,m8]) (by decide+kernel);rw[show Uq (.tuple [.str file, .int line]) (.tuple [.str "~", .int 0])=(file=="~"&&line==0) from by
   show(file=="~"&&(line==0&&true))=_;rw[Ze]] at this
  exact this
 have hT:TT (n+8) (ay 175) (E3 (av (bodyOf 175) 0)) bs H (file=="~"&&line==0) H:=
  TT.cmp (ET.slice (ET.name rfl) PT.none (PT.some ET.int) PT.none Ty.tup SA.lookup (GT.Df (by show 2<3;decide))) (ET.tuple (ab.cons ET.str (ab.cons ET.int ab.nil))) ht
 refine CT.fn (g:= .ret (.str (Fd file line name))) (an:=[]) (bs:=bs) B (yH B) (Binds.b1 B (HS)) (show [("func_name":RN)].Nodup by decide) rfl ?_;by_cases h1:(file=="~"&&line==0)=true
 ·rw[h1] at hT;refine ag.ret (XT.ite hT (fun _=> ?_) (fun h=>by cases h));refine ag.cons (XT.assign (ET.sub (ET.name rfl) ET.int Ty.tup SA.lookup (OT.item_tup (i:=2) rfl rfl)) (bw.one (AT.name (ST.local rfl)))) ?_;let cV:Loc:=("name", .str name)::bs;have hA:ET (n+8) (ay 175) (Fc 0 (E3 (av (uN (av (bodyOf 175) 0)) 1))) cV H (.bool (VI name "<")) H:=
   ET.aT (ET.name rfl) (GM.of Ty.str aJ.str Sd PySem.F.slot_str_startswith PySem.F.type_str_startswith) (ab.cons ET.str ab.nil) aM.builtin CT.startswith
  have hB:ET (n+8) (ay 175) (Fc 1 (E3 (av (uN (av (bodyOf 175) 0)) 1))) cV H (.bool (Wg name ">")) H:=
   ET.aT (ET.name rfl) (GM.of Ty.str aJ.str Sd PySem.F.slot_str_endswith PySem.F.type_str_endswith) (ab.cons ET.str ab.nil) aM.builtin CT.endswith
  have fY:∀m z,([]:Loc).lookup m=some z→cV.lookup m=some z:=ae;refine J (show Fd file line name=if(VI name "<"&&Wg name ">")=true then "{"++TH name (some 1) (some (-1))++"}" else name from if_pos h1) ?_;by_cases ha:VI name "<"=true
  ·by_cases hb:Wg name ">"=true
   ·rw[if_pos (by rw[ha,hb];rfl)];refine ag.ret (XT.sub (XT.ite (TT.bo (aL.and_true (TT.value hA (OB.ml ha)) (aL.and_true (TT.value hB (OB.ml hb)) aL.and_nil))) (fun _=>ag.ret (XT.ret ?_)) (fun h=>by cases h)) fY);exact ET.binop ET.str (ET.iM (ET.name rfl) (PT.some ET.int) (PT.some (ET.unary ET.int j4.neg))) (OT.EY (Rq (X9 name _ _) (eI hn)))
   ·have hb:Wg name ">"=false:=by simpa using hb
    rw[if_neg (by rw[ha,hb];exact R4)];exact ag.ret (XT.sub (XT.ite (TT.bo (aL.and_true (TT.value hA (OB.ml ha)) (aL.and_false (TT.value hB (OB.ml hb))))) (fun h=>by cases h) (fun _=>ag.ret (XT.ret (ET.name rfl)))) fY)
  ·have ha:VI name "<"=false:=by simpa using ha
   exact J (if_neg (ha▸R4)) ((ag.ret (XT.sub (XT.ite (TT.bo (aL.and_false (TT.value hA (OB.ml ha)))) (fun h=>by cases h) (fun _=>ag.ret (XT.ret (ET.name rfl)))) fY)))
 ·rw[(show(file=="~"&&line==0)=false by simpa using h1)] at hT;exact J (show Fd file line name=file++":"++iA line++"("++name++")" from if_neg h1) ((ag.ret (XT.sub (XT.ite hT (fun h=>by cases h) (fun _=>ag.ret (XT.ret (ET.binop ET.str (ET.name rfl) (OT.EX hi hf hn))))) ae)))
end
theorem iF(hb:env.blockKind=qP.blockKind)(hk:∀x,env.kindOf x=qP.kindOf x) ts e:Ui ts e env=Ui ts e qP:=by
 delta Ui
 rw[hb,show env.kindOf=qP.kindOf from funext hk]
noncomputable def IE(F:Fx):Env:=newEnv {(default:aaQ) with names:=F.names,kind:= .function} 0 mainGlobals [] "" none F.code none builtinsNs
theorem cY(E:aA F env)(h:Ui ts e (IE F)=pure (some xs)):Ui ts e env=pure (some xs):=by
 refine aQ h (iF ?_ (fun x=>(bf E x).trans rfl) ts e);unfold XM;exact J E.kind rfl
noncomputable def nv:Nat→RN|0=>"f"|1=>"g"|2=>"&lt;"|_=>"\""
noncomputable def kj(s:RN):Nat→RN|0=>"<<"++s++">>"|1=>s|2=>"<"++s|_=>s++">"
noncomputable def ms:Nat→RN|0=>"~"|1=>"a\t\r"|_=>"~&"
noncomputable def mu:Nat→Int|0=>0|1=>7|_=>-1
noncomputable def wD:Nat→RN|0=>":0("|1=>":7("|_=>":-1("
structure LF where
 file:RN
 line:Int
 name:RN
 text:RN
noncomputable def iP(d:Int):LF:=
 let sg:=nv ((d.fdiv 36).fmod 4).toNat;let kd:=((d.fdiv 9).fmod 4).toNat;let nm:=kj sg kd;let fi:=ms (d.fmod 3).toNat;let li:=((d.fdiv 3).fmod 3).toNat
 ⟨fi,mu li,nm,if d.fmod 9=0 then(if kd=0 then "{<"++sg++">}" else nm) else fi++wD li++nm++")"⟩
noncomputable def LF.v(f:LF):V:= .tup [.tup [.str f.file, .int f.line, .str f.name], .str f.text]
theorem uU a{b}(hb:b=36∨b=9∨b=3):X1 a b=false:=by
 rcases hb with rfl|rfl|rfl<;>rfl
theorem IF{α:Type}{f:Nat→α}{i}(h:i<4):[f 0,f 1,f 2,f 3][i]?=some (f i):=by
 rcases i with _|_|_|_|i
 iterate 4 rfl
 exact absurd h (T8.mpr (Wa 4 i))
theorem Fe{α:Type}{f:Nat→α}{i}(h:i<3):[f 0,f 1,f 2][i]?=some (f i):=by
 rcases i with _|_|_|i
 iterate 3 rfl
 exact absurd h (T8.mpr (Wa 3 i))
theorem mv i:(nv i).length≤4:=by rcases i with _|_|_|i<;>exact VQ rfl
theorem jT(i k:Nat):(kj (nv i) k).length≤8:=by
 have h:=mv i
 match k with
 |0=>exact J (RC ..) (J (RC ..) ((ap (ba (ba (bD rfl) h) (bD rfl)) dc)))
 |1=>exact eI h
 |2=>exact J (RC ..) ((ap (ba (bD rfl) h) dc))
 |_+3=>exact J (RC ..) ((ap (ba h (bD rfl)) dc))
theorem jU i:(ms i).length≤3:=by rcases i with _|_|i<;>exact VQ rfl
theorem qQ i:(wD i).length≤4:=by rcases i with _|_|i<;>exact VQ rfl
section
variable{n:Nat}{H:AH}{F:Fx}{ρ:Loc}
theorem wE(B:Base) d:CT (n+1) (.st (.ref 203)) [.int d] [] H ((iP d).v) H:=by
 have hs:=R2;let sg:=nv ((d.fdiv 36).fmod 4).toNat;let kd:=((d.fdiv 9).fmod 4).toNat;let nm:=kj sg kd;let fi:=ms (d.fmod 3).toNat;let li:=((d.fdiv 3).fmod 3).toNat;refine Rg fun kG=> ?_;obtain⟨P6,P7⟩:=cu (d.fdiv 36) (b:=4) dc;obtain⟨e9,l9⟩:=cu (d.fdiv 9) (b:=4) dc;obtain⟨e3,l3⟩:=cu (d.fdiv 3) (b:=3) dc;refine kG ?_;let bs:Loc:=[("d", .int d)];refine CT.fn (g:= .ret ((iP d).v)) (an:=[]) B (Dt B) (Binds.b1 B (HW)) (show [("d":RN)].Nodup by decide) rfl ?_;have Ra:=mv ((d.fdiv 36).fmod 4).toNat;have N5:nm.length≤8:=jT _ _;have BN:fi.length≤3:=jU _;have Mv:(wD li).length≤4:=qQ _;refine ag.cons (XT.fU (xs:=["sign","kind"]) (ET.tuple (ab.cons (ET.sub (ET.list (ab.cons ET.str (ab.cons ET.str (ab.cons ET.str (ab.cons ET.str ab.nil))))) (ET.binop (ET.binop ET.name ET.int (OT.floordiv_int dc (uU d (.inl rfl)))) ET.int (OT.mod_int dc)) Ty.lst RU.lookup (OT.a9 P6 (IF (f:=fun i=>V.str (nv i)) P7)))
  (ab.cons (ET.binop (ET.binop ET.name ET.int (OT.floordiv_int dc (uU d (.inr (.inl rfl))))) ET.int (OT.mod_int dc)) ab.nil)) (show 2≤Rs by decide)) ⟨ST.local rfl,ST.local rfl,trivial⟩ rfl (fun _=>rfl) (fun env E=>cY E rfl)) ?_
 have o1:("<<":RN).length=2:=rfl;have o2:(">>":RN).length=2:=rfl;have o3:("<":RN).length=1:=rfl;have o4:(">":RN).length=1:=rfl;have o5:")".length=1:=rfl;have o6:("{<":RN).length=2:=rfl;have o7:(">}":RN).length=2:=rfl;let an:Loc:=("sign", .str sg)::("kind", .int ((d.fdiv 9).fmod 4))::bs;show ag n (ay 203) ((bodyOf 203).drop 1) an H _ _ _;refine ag.cons (XT.assign (ET.sub (ET.list (ab.cons (ET.binop (ET.binop ET.str ET.name (OT.add_str (by lia))) ET.str (OT.add_str (by refine J (RC ..) ?_;lia))) (ab.cons ET.name (ab.cons (ET.binop ET.str ET.name (OT.add_str (by lia))) (ab.cons (ET.binop ET.name ET.str (OT.add_str (by lia))) ab.nil)))) (show 4≤Rs by decide))
  ET.name Ty.lst RU.lookup (OT.a9 e9 (IF (f:=fun i=>V.str (kj sg i)) l9))) (bw.one (AT.name (ST.local rfl)))) ?_
 refine ag.cons (XT.fU (xs:=["file","line"]) (ET.tuple (ab.cons (ET.sub (ET.list (ab.cons ET.str (ab.cons ET.str (ab.cons ET.str ab.nil)))) (ET.binop ET.name ET.int (OT.mod_int dc)) Ty.lst RU.lookup (OT.a9 (cu d (b:=3) dc).1 (Fe (f:=fun i=>V.str (ms i)) (cu d (b:=3) dc).2)))
  (ab.cons (ET.sub (ET.list (ab.cons ET.int (ab.cons ET.int (ab.cons (ET.unary ET.int j4.neg) ab.nil)))) (ET.binop (ET.binop ET.name ET.int (OT.floordiv_int dc (uU d (.inr (.inr rfl))))) ET.int (OT.mod_int dc)) Ty.lst RU.lookup (OT.a9 e3 (Fe (f:=fun i=>V.int (mu i)) l3))) ab.nil)) (show 2≤Rs by decide)) ⟨ST.local rfl,ST.local rfl,trivial⟩ rfl (fun _=>rfl) (fun env E=>cY E rfl)) ?_
 let tx:RN:=fi++wD li++nm++")";let hU:Loc:=("file", .str fi)::("line", .int (mu li))::("name", .str nm)::an;show ag n (ay 203) ((bodyOf 203).drop 3) hU H _ _ _;refine ag.cons (XT.assign (x:= .str tx) (ET.binop (ET.binop (ET.binop ET.name (ET.sub (ET.list (ab.cons ET.str (ab.cons ET.str (ab.cons ET.str ab.nil)))) (ET.binop (ET.binop ET.name ET.int (OT.floordiv_int dc (uU d (.inr (.inr rfl))))) ET.int (OT.mod_int dc)) Ty.lst RU.lookup (OT.a9 e3 (Fe (f:=fun i=>V.str (wD i)) l3))) (OT.add_str (iI (ap (ba BN Mv) dc)))) ET.name (OT.add_str (by refine J (RC ..) ?_;exact iI (ap (ba (ba BN Mv) N5) dc)))) ET.str (OT.add_str (by refine J (RC ..) (J (RC ..) ?_);exact iI (ap (ba (ba (ba BN Mv) N5) (bD o5)) dc)))) (bw.one (AT.name (ST.local rfl)))) ?_;have N6:(d.fdiv 9).fmod 4=kd:=e9;have h9:=OT.eq_int (n:=n) (a:=d.fmod 9) (b:=0) (H:=H);have hk:=OT.eq_int (n:=n) (a:=(d.fdiv 9).fmod 4) (b:=0) (H:=H);refine ag.cons (an:=("text", .str (iP d).text)::hU) ?_ (ag.ret (XT.sub (XT.ret (ET.tuple (ab.cons (ET.tuple (ab.cons ET.name (ab.cons ET.name (ab.cons ET.name ab.nil))) (show 3≤Rs by decide)) (ab.cons ET.name ab.nil)) (show 2≤Rs by decide))) ae));by_cases c9:d.fmod 9=0
 ·rw[show(d.fmod 9==0)=true from by simp[c9]] at h9;refine XT.ite (TT.cmp (ET.binop ET.name ET.int (OT.mod_int dc)) ET.int h9) (fun _=> ?_) (fun h=>by cases h);refine ag.sub (ag.cons (XT.assign (x:= .str (iP d).text) ?_ (bw.one (AT.name (ST.local rfl)))) ag.nil) (fun m z h=> ?_)
  ·by_cases ck:kd=0
   ·have et:(iP d).text="{<"++sg++">}":=by exact(if_pos c9).trans (if_pos ck)
    refine J et ?_;rw[show((d.fdiv 9).fmod 4==0)=true from by rw[N6];refine J ck ?_;rfl] at hk;exact ET.de (TT.cmp ET.name ET.int hk) (fun _=>ET.binop (ET.binop ET.str ET.name (OT.add_str (by lia))) ET.str (OT.add_str (by refine J (RC ..) ?_;lia))) (fun h=>by cases h)
   ·have et:(iP d).text=nm:=by exact(if_pos c9).trans (if_neg ck)
    refine J et ?_;rw[show((d.fdiv 9).fmod 4==0)=false from by rw[N6,beq_eq_false_iff_ne];intro h;exact ck (by lia)] at hk;exact ET.de (TT.cmp ET.name ET.int hk) (fun h=>by cases h) (fun _=>ET.name rfl)
  ·rw[lookup_cons] at h⊢;refine bn (fun _=> ?_) fun _=> ?_
   ·rename_i e;rw[if_pos e] at h;exact h
   ·rename_i e;rw[if_neg e] at h;rw[lookup_cons,if_neg e];exact h
 ·refine J (show(iP d).text=tx by exact if_neg c9) ?_;rw[show(d.fmod 9==0)=false from by rw[beq_eq_false_iff_ne];exact c9] at h9;exact XT.ite (TT.cmp (ET.binop ET.name ET.int (OT.mod_int dc)) ET.int h9) (fun h=>by cases h) (fun _=>ag.nil)
end
theorem Mw S(v u a b:Value):WA (KK) S (SV (fdOf 67) ⟨[v,u],[("rewrite_prefixes",a),("exclude_tags",b)]⟩)=some [(("self":RN),v),("write",u),("with_comments", .bool false),("strip_text", .bool false),("rewrite_prefixes",a),("qname_aware_tags", .none),("qname_aware_attrs", .none),("exclude_attrs", .none),("exclude_tags",b)]:=rfl
noncomputable def hI(l:List (RN×V))(x:AH):AH:=some (.tab 123 tj qy)::some (.list [])::some (.inst 150 3)::some (.ns l)::x
theorem tJ:∀{l:List (RN×V)},(l.map (·.1)).Nodup→∀x,l.reverse.lookup x=l.lookup x:=by
 intro rv
 induction rv with
 |nil=>
  intro _ _;exact rfl
 |cons pq l ih=>
  obtain⟨k,v⟩:=pq;intro h x;rw[RD,SG] at h;refine J SN (J List.lookup_append (J (ih h.2 x) ?_));simp only[lookup_cons];by_cases e:x=k
  ·have:l.lookup x=none:=by
    cases hh:l.lookup x with
    |none=>rfl
    |some v=>exact absurd (Rz.mpr ⟨_,mem_of_lookup hh,e⟩) h.1
   rw[this,if_pos e,if_pos e];rfl
  ·refine J (if_neg e) (J (if_neg e) ?_);cases l.lookup x<;>rfl
noncomputable def Tg.t0(ex:RN):Tg:={told:=[],data:=[],ex:=ex,us:=[],lv:=[],rs:=false,rd:=false,ig:=0,k:=1}
section
variable{n:Nat}{H:AH}{F:Fx}{ρ:Loc}
theorem Binds.P8(B:Base){x y a b}:Binds (fdOf 67) [x,y] [("rewrite_prefixes",a),("exclude_tags",b)]
  [("self",x),("write",y),("with_comments", .bool false),("strip_text", .bool false),("rewrite_prefixes",a),("qname_aware_tags", .none),("qname_aware_attrs", .none),("exclude_attrs", .none),("exclude_tags",b)]:=fun h W vs kv k r rn=>by
 obtain⟨v,u,rfl,rv,ru⟩:=r.two;obtain⟨p,_,rfl,rp,q,_,rfl,rq,e⟩:=rn;cases e;exact⟨_,UO (B.In h k) (Mw _ v u p q),v,_,rfl,rv,u,_,rfl,ru,_,_,rfl,rfl,_,_,rfl,rfl,p,_,rfl,rp,_,_,rfl,rfl,_,_,rfl,rfl,_,_,rfl,rfl,q,_,rfl,rq,rfl⟩
theorem wF(B:Base){ex:RN}:CC (n+1) (.st (.ref 67)) [.ref 2, .bm "list.append" (.ref 1)] [("rewrite_prefixes", .bool true),("exclude_tags", .lst [.str ex])] (hI [] []) .none ((Tg.t0 ex).h [] []):=by
 let bs:Loc:=[("self", .ref 2),("write", .bm "list.append" (.ref 1)),("with_comments", .bool false),("strip_text", .bool false),("rewrite_prefixes", .bool true),("qname_aware_tags", .none),("qname_aware_attrs", .none),("exclude_attrs", .none),("exclude_tags", .lst [.str ex])];refine CC.def (g:= .next) (an:=bs) (L6 B) B.r8.nolimit (L7) (Binds.P8 B) (show [("self":RN),"write","with_comments","strip_text","rewrite_prefixes",("qname_aware_tags":RN),("qname_aware_attrs":RN),("exclude_attrs":RN),("exclude_tags":RN)].Nodup by decide)
  (by
   intro x hx;simpa using(SE.mp (show([("self":RN),("write":RN),("with_comments":RN),("strip_text":RN),("rewrite_prefixes":RN),("qname_aware_tags":RN),("qname_aware_attrs":RN),("exclude_attrs":RN),("exclude_tags":RN)].all fun x=>((fdOf 67).scope.names.lookup x==some .local||(fdOf 67).scope.names.lookup x==some .cell))=true from rfl) x hx)) ?_
 refine ag.cons (XT.assign ET.name (bw.one (AT.attr (du B) (ET.name rfl) rfl rfl rfl dc))) ?_;refine ag.cons (XT.assign (ET.ed ab.nil) (bw.one (AT.attr (du B) (ET.name rfl) rfl rfl rfl dc))) ?_;refine ag.cons (XT.assign ET.name (bw.one (AT.attr (du B) (ET.name rfl) rfl rfl rfl dc))) ?_;refine ag.cons (XT.assign ET.name (bw.one (AT.attr (du B) (ET.name rfl) rfl rfl rfl dc))) ?_;refine ag.cons (XT.assign (ET.de (TT.value ET.name OB.none) (fun h=>by cases h) (fun _=>ET.none)) (bw.one (AT.attr (du B) (ET.name rfl) rfl rfl rfl dc))) ?_;refine ag.cons (XT.assign (ET.de (c:=true) (TT.value ET.name OB.lst) (fun _=>ET.call (ET.az B (yL) yO) (ab.cons ET.name ab.nil) aM.type CT.E1) (fun h=>by cases h)) (bw.one (AT.attr (du B) (ET.name rfl) rfl rfl rfl dc))) ?_;refine ag.cons (XT.assign ET.name (bw.one (AT.attr (du B) (ET.name rfl) rfl rfl rfl dc))) ?_;refine ag.cons (XT.ite (TT.value ET.name OB.none) (fun h=>by cases h) (fun _=>ag.cons (XT.assign ET.none (bw.one (AT.attr (du B) (ET.name rfl) rfl rfl rfl dc))) ag.nil)) ?_;refine ag.cons (XT.ite (TT.value ET.name OB.none) (fun h=>by cases h) (fun _=>ag.cons (XT.assign ET.none (bw.one (AT.attr (du B) (ET.name rfl) rfl rfl rfl dc))) ag.nil)) ?_;refine ag.cons (XT.assign (ET.ed (ab.cons (ET.ed (ab.cons (ET.tuple (ab.cons ET.str (ab.cons ET.str ab.nil))) ab.nil) (show 1≤Rs by decide)) ab.nil) (show 1≤Rs by decide)) (bw.one (AT.attr (du B) (ET.name rfl) rfl rfl rfl dc))) ?_;refine ag.cons (XT.assign (x:= .ref 8) (ET.ed ab.nil) (bw.one (AT.attr (du B) (ET.name rfl) rfl rfl rfl (show 10≤100 by decide)))) ?_;refine ag.cons (XT.ite (c:=false) (TT.not (TT.value (x:= .bool true) ET.name OB.bool)) (fun h=>by cases h) (fun _=>ag.nil)) ?_;refine ag.cons (XT.expr (ET.aT (ET.attr ET.name (GA.own (du B) rfl rfl rfl (tn) (noGet_none _))) (GM.of (Ty.ai rfl) (aJ.ai rfl) RJ Ta R7) (ab.cons (ET.list ab.nil) ab.nil) aM.builtin (CT.append rfl dc))) ?_;refine ag.cons (H1:=(hI [(("_prefix_map":RN), .ref 9),(("_ns_stack":RN), .ref 8),(("_declared_ns_stack":RN), .ref 7),(("_find_qname_aware_attrs":RN), .none),(("_qname_aware_tags":RN), .none),(("_rewrite_prefixes":RN), .bool true),(("_exclude_tags":RN), .ref 5),(("_exclude_attrs":RN), .none),(("_strip_text":RN), .bool false),(("_with_comments":RN), .bool false),(("_data":RN), .ref 4),(("_write":RN), .bm "list.append" (.ref 1))] [some (.list []),some (.sset [ex]),some (.list [iV jl]),some (.list [.ref 6]),some (.list [.lst []]),some (.dict [])])) (XT.assign ET.xP (bw.one (AT.attr (du B) (ET.name rfl) (d:=3) rfl rfl rfl dc))) ?_;refine ag.cons (XT.assign (ET.ed (ab.cons ET.bool ab.nil)) (bw.one (AT.attr (du B) (ET.name rfl) rfl rfl rfl dc))) ?_;refine ag.cons (XT.assign ET.none (bw.one (AT.attr (du B) (ET.name rfl) rfl rfl rfl (show 13≤100 by decide)))) ?_;refine ag.cons (XT.assign ET.bool (bw.one (AT.attr (du B) (ET.name rfl) rfl rfl rfl (show 14≤100 by decide)))) ?_;refine ag.cons (XT.assign ET.bool (bw.one (AT.attr (du B) (ET.name rfl) rfl rfl rfl (show 15≤100 by decide)))) ?_;refine ag.cons ?_ ag.nil;exact XT.lQ (d:=3) rfl (fun x=>(tJ (l:=bK false false 0) dc x).symm) (XT.assign ET.int (bw.one (AT.attr (l:=[(("_root_done":RN), .bool false),(("_root_seen":RN), .bool false),(("_pending_start":RN), .none),(("_preserve_space":RN), .ref 10),(("_prefix_map":RN), .ref 9),(("_ns_stack":RN), .ref 8),(("_declared_ns_stack":RN), .ref 7),(("_find_qname_aware_attrs":RN), .none),(("_qname_aware_tags":RN), .none),(("_rewrite_prefixes":RN), .bool true),(("_exclude_tags":RN), .ref 5),(("_exclude_attrs":RN), .none),(("_strip_text":RN), .bool false),(("_with_comments":RN), .bool false),(("_data":RN), .ref 4),(("_write":RN), .bm "list.append" (.ref 1))]) (du B) ET.name (d:=3) rfl rfl rfl dc)))
end
noncomputable def LF.nm(f:LF):RN:=Fd f.file f.line f.name
structure LF.good(f:LF):Prop where
 hi:f.line=-1∨(0≤f.line∧f.line<1000)
 hf:f.file.length≤3
 m8:Rv f.file=true
 hn:f.name.length≤8
 nl:f.nm.length≤20
 tl:f.text.length≤20
theorem y9 i:Rv (ms i)=true:=by rcases i with _|_|i<;>kernel_rfl
theorem za i:mu i=-1∨(0≤mu i∧mu i<1000):=by
 rcases i with _|_|i
 ·exact .inr ⟨dc,dc⟩
 ·exact .inr ⟨dc,dc⟩
 ·exact .inl rfl
theorem wG(hi:i=-1∨(0≤i∧i<1000)):(iA i).length≤3:=by
 unfold iA;refine bn (fun _=> ?_) fun _=> ?_
 ·decide
 ·rcases hi with rfl|⟨h0,h9⟩
  ·exact absurd rfl ‹_›
  ·exact Yu h0 dc (by lia)
theorem BO{line}(hi:line=-1∨(0≤line∧line<1000))(hf:file.length≤3)(hn:name.length≤8):(Fd file line name).length≤20:=by
 have e2:"(".length=1:=rfl;have e3:")".length=1:=rfl;have e4:("{":RN).length=1:=rfl;have e5:("}":RN).length=1:=rfl;have h2:=X9 name (some 1) (some (-1));unfold Fd;refine bn (fun _=> ?_) fun _=> ?_
 ·refine bn (fun _=> ?_) fun _=> ?_
  ·refine J (RC ..) (J (RC ..) ?_);lia
  ·exact eI hn
 ·simp only[RC];exact ap (ba (ba (ba (ba (ba hf (bD rfl)) (wG hi)) (bD e2)) hn) (bD e3)) dc
theorem nV d:(iP d).good:=by
 have h1:(iP d).name.length≤8:=jT _ _;have h2:(iP d).file.length≤3:=jU _;have h3:=za ((d.fdiv 3).fmod 3).toNat;refine⟨h3,h2,y9 _,h1,BO h3 h2 h1, ?_⟩;have h6:(kj (nv ((d.fdiv 36).fmod 4).toNat) ((d.fdiv 9).fmod 4).toNat).length≤8:=jT _ _;have e1:"{<".length=2:=rfl;have e2:">}".length=2:=rfl;have e3:")".length=1:=rfl;show(if d.fmod 9=0 then _ else _:RN).length≤20;refine bn (fun _=> ?_) fun _=> ?_
 ·refine bn (fun _=> ?_) fun _=> ?_
  ·exact J (RC ..) (J (RC ..) ((ap (ba (ba (bD e1) (mv ((d.fdiv 36).fmod 4).toNat)) (bD e2)) dc)))
  ·exact eI h6
 ·simp only[RC];exact ap (ba (ba (ba (jU (d.fmod 3).toNat) (qQ ((d.fdiv 3).fmod 3).toNat)) h6) (bD e3)) dc
section
variable{n:Nat}{H:AH}{F:Fx}{ρ:Loc}
noncomputable def N7:Tk:=gM (av (bodyOf 208) 0)
theorem tK(B:Base):∀(fs:List LF) acc,(∀f∈fs,f.good)→acc.length+fs.length≤100→
  CF (n+8+1) (DD (ay 208) (N7)) (N7) 0 (fun _=>True,fun _=>True) (fs.map LF.v) [] acc H (acc++fs.map fun f=>V.str f.nm) H:=by
 intro rv
 induction rv with
 |nil=>
  intro acc _ _;rw[Su,Su,RF];exact CF.nil trivial _ _ (fun _ _ _=>rfl)
 |cons f fs ih=>
  intro acc hg hl;obtain⟨g1,g2,g3,g4,_,_⟩:=hg f Rn;have ih:=ih (acc++[.str f.nm]) (fun g h=>hg g (Rm _ h)) (by simp at hl⊢;exact io hl);exact(show acc++(f::fs).map (fun f=>V.str f.nm)=(acc++[.str f.nm])++fs.map fun f=>V.str f.nm by simp)▸CF.cons trivial trivial (AT.tuple (aX.cons (AT.name (ST.local rfl)) (aX.cons (AT.name (ST.local rfl)) aX.nil))) eL.nil (ET.call (ET.globK B (eR)) (ab.cons ET.name ab.nil) (aM.def (yH B)) (qO B g1 (eI g2) g3 (eI g4))) ae (ap (lj hl) dc) ih _ (fun _ _ _=>rfl)
end
noncomputable def rB:List Vy:=gc (av (bodyOf 208) 2)
noncomputable def IG:Tk:=cM 0 (gM (av (uN (av (rB) 1)) 3))
noncomputable def IH:Tk:=cM 0 (gM (av (DB (av (DB (av (rB) 1)) 0)) 1))
noncomputable def DS(fs:List LF):V:= .lst (fs.map LF.v)
noncomputable def aH(fs:List LF)(way:List Nat):List RN:=way.map fun k=>(fs[k]?.map LF.text).getD ""
section
variable{n:Nat}{H:AH}{F:Fx}{ρ:Loc}
theorem wH{L}{j:Nat}(hH:H[j]?=some (some (.list L))):∀way acc,(∀k∈way,k<fs.length)→acc.length+way.length≤100→
  CF n (DD (ay 208) (IG)) (IG) 0 (fun H=>H[j]?=some (some (.list L)),fun _=>True) (way.map fun(k:Nat)=>V.int k) [("functions",DS fs)] acc H (acc++(aH fs way).map V.str) H:=by
 intro way
 induction way with
 |nil=>
  intro acc _ _;rw[show(aH fs []).map V.str=[] from rfl,RF];exact CF.nil hH _ _ (fun _ _ _=>rfl)
 |cons k way ih=>
  intro acc hg hl;have hk:=hg k Rn;have ih:=ih (acc++[.str fs[k].text]) (fun g h=>hg g (Rm _ h)) (by simp at hl⊢;exact io hl);exact J (show acc++(aH fs (k::way)).map V.str=(acc++[.str fs[k].text])++(aH fs way).map V.str by simp[aH,hk]) (CF.cons hH trivial (AT.name (ST.local rfl)) eL.nil (ET.sub (ET.sub ET.name ET.name Ty.lst RU.lookup (OT.a9 (x:=fs[k].v) rfl (by simp[hk]))) ET.int Ty.tup SA.lookup (OT.item_tup (i:=1) rfl rfl)) (aa rfl ae) (ap (lj hl) dc) ih _ (fun _ _ _=>rfl))
theorem wI{L}{j:Nat}(hH:H[j]?=some (some (.list L))):∀way acc,(∀k∈way,k<fs.length)→acc.length+way.length≤100→
  CF n (DD (ay 208) (IH)) (IH) 0 (fun H=>H[j]?=some (some (.list L)),fun _=>True) (way.map fun(k:Nat)=>V.int k) [("functions",DS fs)] acc H (acc++(aH fs way).map V.str) H:=by
 intro way
 induction way with
 |nil=>
  intro acc _ _;rw[show(aH fs []).map V.str=[] from rfl,RF];exact CF.nil hH _ _ (fun _ _ _=>rfl)
 |cons k way ih=>
  intro acc hg hl;have hk:=hg k Rn;have ih:=ih (acc++[.str fs[k].text]) (fun g h=>hg g (Rm _ h)) (by simp at hl⊢;exact io hl);exact J (show acc++(aH fs (k::way)).map V.str=(acc++[.str fs[k].text])++(aH fs way).map V.str by simp[aH,hk]) (CF.cons hH trivial (AT.name (ST.local rfl)) eL.nil (ET.sub (ET.sub ET.name ET.name Ty.lst RU.lookup (OT.a9 (x:=fs[k].v) rfl (by simp[hk]))) ET.int Ty.tup SA.lookup (OT.item_tup (i:=1) rfl rfl)) (aa rfl ae) (ap (lj hl) dc) ih _ (fun _ _ _=>rfl))
end
noncomputable def bM(calls ticks:List (List RN))(way:List Nat):AH:=[some (.list (calls.map fun l=> .lst (l.map V.str))),some (.list (ticks.map fun l=> .lst (l.map V.str))),some (.list (way.map fun(k:Nat)=>V.int k))]
theorem hZ:∀ob,some ob∈bM calls ticks way→ob.dG 11=true∨ob.dG (11+(bM calls ticks way).length)=true:=by
 intro ob h;have hl:∀(L:List (List RN)),bJ 11 (L.map fun l=>V.lst (l.map V.str))=true:=fun L=>cA.mpr fun x hx=>by
  obtain⟨l,_,rfl⟩:=Rz.mp hx;exact cA.mpr fun y hy=>by obtain⟨z,_,rfl⟩:=Rz.mp hy;rfl
 simp only[bM,Rt,Y8,RG,or_false] at h;rcases h with rfl|rfl|rfl
 ·exact .inl (hl _)
 ·exact .inl (hl _)
 ·exact .inl (cA.mpr fun x hx=>by obtain⟨k,_,rfl⟩:=Rz.mp hx;rfl)
structure RS where
 t:Tg
 calls:List (List RN)
 ticks:List (List RN)
 way:List Nat
@[reducible] noncomputable def RS.h (r:RS):AH:=r.t.h (bM r.calls r.ticks r.way) []
noncomputable def mw:RN:="&lt;<>\r\"\t\n"
noncomputable def BP(i:Nat):RN:=⟨#[mw.cps.getD i 0]⟩
theorem BQ:∀i<10,(We ((i:Nat):Int) mw.length).bind (mw.cps[·]?)=some (mw.cps.getD i 0):=by decide+kernel
noncomputable def RS.tick(fs:List LF)(x:Int)(r:RS):RS:=
 {r with t:=if r.t.ig=0 then {r.t with data:=r.t.data++[BP ((x.fdiv 5).fmod 10).toNat]} else r.t,ticks:=r.ticks++[aH fs r.way]}
noncomputable abbrev AM(fs:List LF)(bl:V):Loc:=[("calls", .ref 11),("ticks", .ref 12),("way", .ref 13),("names", .lst (fs.map fun f=> .str f.nm)),("deeds",bl),("functions",DS fs),("target", .ref 2)]
noncomputable abbrev zb(fs:List LF)(bl:V)(x:Int):Loc:=("k", .int ((x.fdiv 5).fmod 4))::("x", .int x)::AM fs bl
noncomputable def P9:List Vy:=DB (av (DB (av (rB) 1)) 0)
section
variable{n:Nat}{H:AH}{F:Fx}{ρ:Loc}
theorem nW(B:Base){fs}{bl}{x}{r:RS}(hd:r.t.data.length≤1000)(ht:r.ticks.length≤1000)(hw:r.way.length≤100)(hk:∀k∈r.way,k<fs.length):
  ag (n+1) (ay 208) (P9) (zb fs bl x) r.h .next (zb fs bl x) (r.tick fs x).h:=by
 let t1:Tg:=if r.t.ig=0 then {r.t with data:=r.t.data++[BP ((x.fdiv 5).fmod 10).toNat]} else r.t
 have hr:(decide ((x.fdiv 5).fmod 10< -(2^63:Int))||decide ((x.fdiv 5).fmod 10≥2^63))=false:=AR (cu (x.fdiv 5) (b:=10) dc).1 (cu (x.fdiv 5) (b:=10) dc).2;have hc:(We ((x.fdiv 5).fmod 10) mw.length).bind (mw.cps[·]?)=some (mw.cps.getD ((x.fdiv 5).fmod 10).toNat 0):=by
  exact(cu (x.fdiv 5) (b:=10) dc).1▸(BQ _ (cu (x.fdiv 5) (b:=10) dc).2)
 refine ag.cons (H1:=t1.h (bM r.calls r.ticks r.way) []) (XT.expr (ET.aT ET.name (GM.t B rfl (By) rfl)
  (ab.cons (ET.sub (ET.str) (ET.binop (ET.binop ET.name ET.int (OT.floordiv_int dc rfl)) ET.int (OT.mod_int dc)) Ty.str Wj.lookup (OT.item_str hc hr)) ab.nil) (aM.def (HN B)) (wh B (Ay hd)))) ?_
 have Mx:(t1.h (bM r.calls r.ticks r.way) [])[12]?=some (some (.list (r.ticks.map fun l=> .lst (l.map V.str)))):=rfl;have tL:(t1.h (bM r.calls r.ticks r.way) [])[13]?=some (some (.list (r.way.map fun(k:Nat)=>V.int k))):=rfl;have ni:(t1.h (bM r.calls r.ticks r.way) []).set 12 (some (.list ((r.ticks.map fun l=>V.lst (l.map V.str))++[.lst ((aH fs r.way).map V.str)])))=(r.tick fs x).h:=by
  exact(show(r.ticks++[aH fs r.way]).map (fun l=>V.lst (l.map V.str))=(r.ticks.map fun l=>V.lst (l.map V.str))++[.lst ((aH fs r.way).map V.str)] from RH)▸rfl
 refine aQ ni ?_;exact ag.cons (XT.expr (ET.aT ET.name (GM.of (Ty.ai Mx) (aJ.ai Mx) RJ Ta R7)
  (ab.cons (ET.cL (ar.of rfl (aa rfl ae)) (IT.val ET.name (VT.ref tL)) (wI tL r.way [] hk (by simp;exact hw)) (by unfold aH;simp;exact gC hw)) ab.nil) aM.builtin (CT.append Mx (J (Rk ..) (Ay ht))))) ag.nil
end
noncomputable def cN(name:RN):RN:="{"++name++"}c"
section
variable{n:Nat}{H:AH}{F:Fx}{ρ:Loc}{f:LF}
theorem wJ(B:Base){fs}{bl}{x}{t:Tg}{calls ticks}{ws}{k}(hf:fs[k]?=some f)(hz:f.nm.length≤20)(hq:QN (cN f.nm) f.nm "c")(ok:t.ok)(fit:t.fit)(hm:t.ig=0→f.nm∈(live t.lv).flatten)(c7:t.us.length<100)(wx:t.k=(live t.lv).length+1):
  ag (n+4+1+1) (ay 208) (uN (av (DB (av (rB) 1)) 0)) (zb fs bl x) (t.h (bM calls ticks (ws++[k])) []) .next (zb fs bl x) ((t.ix f.nm "c").h (bM calls ticks ws) []):=by
 have e1:"{".length=1:=rfl;have e2:"}c".length=2:=rfl;have tL:(t.h (bM calls ticks (ws++[k])) [])[13]?=some (some (.list ((ws.map fun(k:Nat)=>V.int k)++[.int k]))):=by
  show some (some (AO.list ((ws++[k]).map _)))=_;exact J RH rfl
 have hx:(fs.map fun f=>V.str f.nm)[k]?=some (.str f.nm):=by refine J Sx (J hf ?_);rfl
 have hp:=CT.pop (n:=n+4+1+1) tL;rw[(show(t.h (bM calls ticks (ws++[k])) []).set 13 (some (.list (ws.map fun(k:Nat)=>V.int k)))=t.h (bM calls ticks ws) [] from rfl)] at hp;exact ag.cons (XT.expr (ET.aT ET.name (GM.t B rfl (yU) rfl)
  (ab.cons (ET.binop (ET.binop ET.str (ET.sub ET.name (ET.aT ET.name (GM.of (Ty.ai tL) (aJ.ai tL) RJ Ua T9) ab.nil aM.builtin hp) Ty.lst RU.lookup (OT.a9 rfl hx)) (OT.add_str (iI (ap (ba (bD e1) hz) dc)))) ET.str (OT.add_str (J (RC ..) (iI (ap (ba (ba (bD e1) hz) (bD e2)) dc))))) ab.nil) (aM.def (uK B))
  (qG B ok fit hZ hq hm c7 wx))) ag.nil
theorem wK(B:Base){fs}{bl}{t:Tg}{calls ticks}{ws}{k}(hf:fs[k]?=some f)(hz:f.nm.length≤20)(hq:QN (cN f.nm) f.nm "c")(ok:t.ok)(fit:t.fit)(hm:t.ig=0→f.nm∈(live t.lv).flatten)(c7:t.us.length<100)(wx:t.k=(live t.lv).length+1):
  ag (n+4+1+1) (ay 208) (gc (av (bodyOf 208) 3)) (AM fs bl) (t.h (bM calls ticks (ws++[k])) []) .next (AM fs bl) ((t.ix f.nm "c").h (bM calls ticks ws) []):=by
 have e1:"{".length=1:=rfl;have e2:"}c".length=2:=rfl;have tL:(t.h (bM calls ticks (ws++[k])) [])[13]?=some (some (.list ((ws.map fun(k:Nat)=>V.int k)++[.int k]))):=by
  show some (some (AO.list ((ws++[k]).map _)))=_;exact J RH rfl
 have hx:(fs.map fun f=>V.str f.nm)[k]?=some (.str f.nm):=by refine J Sx (J hf ?_);rfl
 have hp:=CT.pop (n:=n+4+1+1) tL;rw[(show(t.h (bM calls ticks (ws++[k])) []).set 13 (some (.list (ws.map fun(k:Nat)=>V.int k)))=t.h (bM calls ticks ws) [] from rfl)] at hp;exact ag.cons (XT.expr (ET.aT ET.name (GM.t B rfl (yU) rfl)
  (ab.cons (ET.binop (ET.binop ET.str (ET.sub ET.name (ET.aT ET.name (GM.of (Ty.ai tL) (aJ.ai tL) RJ Ua T9) ab.nil aM.builtin hp) Ty.lst RU.lookup (OT.a9 rfl hx)) (OT.add_str (iI (ap (ba (bD e1) hz) dc)))) ET.str (OT.add_str (J (RC ..) (iI (ap (ba (ba (bD e1) hz) (bD e2)) dc))))) ab.nil) (aM.def (uK B))
  (qG B ok fit hZ hq hm c7 wx))) ag.nil
end
noncomputable def AN(caller name:RN):RN:="{"++caller++"\n"++name++"}by"
noncomputable def aU(fs:List LF)(k:Nat):RN:=(fs[k]?.map LF.nm).getD ""
noncomputable def qR(name:RN):Nm:=⟨cN name,name,"c"⟩
noncomputable def fb(fs:List LF)(way:List Nat)(name:RN):List (Nm×RN):=match way.getLast? with
 |some j=>[(⟨AN (aU fs j) name,aU fs j++"\n"++name,"by"⟩,aU fs j)]
 |none=>[]
noncomputable def RS.start(fs:List LF)(k:Nat)(r:RS):RS:=
 {r with t:=r.t.startT (qR (aU fs k)) (fb fs r.way (aU fs k)),way:=r.way++[k],calls:=r.calls++[aH fs (r.way++[k])]}
theorem wL:∀(way:List Nat),eg (way.map fun(k:Nat)=>V.int k)=some (way.map fun(k:Nat)=>XA k)∧TW (way.map fun(k:Nat)=>XA k)=true∧Uk (way.map fun(k:Nat)=>XA k)≤1:=by
 intro rv
 induction rv with
 |nil=>
  exact⟨rfl,rfl,RW _⟩
 |cons k way ih=>
  refine⟨?_, ?_, ?_⟩
  ·refine J (RD ..) (J (eP ..) (J (ih.1 ..) ?_));rfl
  ·simp[TW,YC,ih.2.1]
  ·simp only[RD,Uk,Zc];lia
section
variable{n:Nat}{H:AH}{F:Fx}{ρ:Loc}
theorem OT.jV{way:List Nat}(tL:H[13]?=some (some (.list (way.map fun(k:Nat)=>V.int k)))):OT (n+8) (Sv .NotEq) (.ref 13) (.lst []) H (.bool (!way.isEmpty)) H:=by
 obtain⟨h1,h2,h3⟩:=wL way;have hd:gE H (.ref 13)=some (.list (way.map fun(k:Nat)=>XA k)):=by
  delta gE
  simp only[tL,h1];rfl
 have e:Uq (.list (way.map fun(k:Nat)=>XA k)) (.list [])=way.isEmpty:=by
  cases way<;>rfl
 exact e▸(OT.ne (n:=n) (y:= .lst []) hd rfl (by simp[Un,YC,Zc,h2];exact eI h3) rfl)
end
noncomputable def Qa:List Vy:=uN (av (rB) 1)
section
variable{n:Nat}{H:AH}{F:Fx}{ρ:Loc}
theorem ju(h:fs[k]?=some f):aU fs k=f.nm:=by delta aU;exact h▸rfl
theorem tM(B:Base){fs}{bl}{x:Int}{r:RS}{k:Nat}{f}(ek:(x.fdiv 5).fmod 4=k)(hf:fs[k]?=some f)(N8:∀j∈r.way,j<fs.length)(hg:∀f∈fs,f.nm.length≤20)
  (O:Op (qR f.nm) (fb fs r.way f.nm)) (ok:r.t.ok) (fit:r.t.fit) (h1:(live r.t.lv).flatten.length≤198) (h2:r.t.us.length≤98) (wx:r.t.k=(live r.t.lv).length+1) (pK:r.t.k≤1000) (hw:r.way.length≤90) (hc:r.calls.length≤1000):
  ag (n+8) (ay 208) (Qa) (zb fs bl x) r.h .next (zb fs bl x) (r.start fs k).h:=by
 have e1:"{".length=1:=rfl;have e2:"}c".length=2:=rfl;have e3:"\n".length=1:=rfl;have e4:"}by".length=3:=rfl;have DT:=hg f (Sf hf);have hx:(fs.map fun f=>V.str f.nm)[k]?=some (.str f.nm):=by refine J Sx (J hf ?_);rfl
 have tL:r.h[13]?=some (some (.list (r.way.map fun(k:Nat)=>V.int k))):=rfl;have aV:=OT.jV (n:=n) tL;let sv:V:= .bx (gy ((fb fs r.way f.nm).map fun a=>(a.1.q,a.2)));let an:Loc:=("step",sv)::zb fs bl x;have fY:∀m z,(zb fs bl x).lookup m=some z→an.lookup m=some z:=fun m z h=>by
  refine J lookup_cons (bn (fun _=> ?_) fun _=> ?_)
  ·rename_i e;subst e;cases h
  ·exact h
 refine ag.sub ?_ fY;refine ag.cons (H1:=r.h) (XT.assign (x:=sv) ?_ (bw.one (AT.name (ST.local rfl)))) ?_
 ·rcases TN r.way with Gh|⟨ws,j,nX⟩
  ·have ea:sv= .bx []:=by show V.bx (gy ((fb fs r.way f.nm).map _))=_;exact Gh▸rfl
   refine J ea ?_;rw[Gh] at aV;exact ET.de (TT.cmp ET.name (ET.list ab.nil) aV) (fun h=>by cases h) (fun _=>ET.uy B.mods)
  ·have nX:r.way=ws++[j]:=by refine J nX ?_;simp
   obtain⟨g,zc⟩:∃g,fs[j]?=some g:=⟨_,RK (N8 j (by refine J nX ?_;simp))⟩;have Kb:=hg g (Sf zc);have ea:sv= .bx [(AN g.nm f.nm, .str g.nm)]:=by
    show V.bx (gy ((fb fs r.way f.nm).map _))=_;refine J nX ?_
    delta fb
    refine J Um ?_;simp only[ju zc];rfl
   have N9:(fs.map fun f=>V.str f.nm)[j]?=some (.str g.nm):=by refine J Sx (J zc ?_);rfl
   have BR:r.h[13]?=some (some (.list ((ws.map fun(k:Nat)=>V.int k)++[.int j]))):=by refine J tL (J nX (J RH ?_));rfl
   have My:OT (n+8) (Sv .NotEq) (.ref 13) (.lst []) r.h (.bool true) r.h:=by
    have:(!r.way.isEmpty)=true:=by refine J nX ?_;simp
    exact this▸aV
   refine J ea (ET.de (TT.cmp ET.name (ET.list ab.nil) My) (fun _=>ET.Di B.mods ?_ (ET.sub ET.name (ET.sub ET.name (ET.unary ET.int j4.neg) (Ty.ai BR) RU.lookup (OT.dg (i:=ws.length) BR (by simp;lia) (by simp))) Ty.lst RU.lookup (OT.a9 rfl N9))) (fun h=>by cases h));exact ET.binop (ET.binop (ET.binop (ET.binop ET.str (ET.sub ET.name (ET.sub ET.name (ET.unary ET.int j4.neg) (Ty.ai BR) RU.lookup (OT.dg (i:=ws.length) BR (by simp;lia) (by simp))) Ty.lst RU.lookup (OT.a9 rfl N9)) (OT.add_str (iI (ap (ba (bD e1) Kb) dc)))) ET.str (OT.add_str (J (RC ..) ((iI (ap (ba (ba (bD e1) Kb) (bD e3)) dc))))))
    (ET.sub ET.name ET.name Ty.lst RU.lookup (OT.a9 ek hx)) (OT.add_str (by simp only[RC];exact iI (ap (ba (ba (ba (bD e1) Kb) (bD e3)) DT) dc)))) ET.str (OT.add_str (by simp only[RC];exact iI (ap (ba (ba (ba (ba (bD e1) Kb) (bD e3)) DT) (bD e4)) dc)))
 ·let t1:Tg:=r.t.startT (qR f.nm) (fb fs r.way f.nm);refine ag.cons (XT.expr (ET.aT ET.name (GM.t B rfl (yT) rfl)
   (ab.cons (ET.binop (ET.binop ET.str (ET.sub ET.name ET.name Ty.lst RU.lookup (OT.a9 ek hx)) (OT.add_str (iI (ap (ba (bD e1) DT) dc)))) ET.str (OT.add_str (J (RC ..) (iI (ap (ba (ba (bD e1) DT) (bD e2)) dc))))) (ab.cons ET.name ab.nil)) (aM.def (yG B))
   (tI B hZ O ok fit h1 h2 wx pK))) ?_
  have Ff:(t1.h (bM r.calls r.ticks r.way) [])[13]?=some (some (.list (r.way.map fun(k:Nat)=>V.int k))):=rfl;have II:(t1.h (bM r.calls r.ticks r.way) []).set 13 (some (.list ((r.way.map fun(k:Nat)=>V.int k)++[.int ((x.fdiv 5).fmod 4)])))=t1.h (bM r.calls r.ticks (r.way++[k])) []:=by
   have:(r.way++[k]).map (fun(k:Nat)=>V.int k)=(r.way.map fun(k:Nat)=>V.int k)++[.int ((x.fdiv 5).fmod 4)]:=by refine J RH (J ek ?_);rfl
   exact this▸rfl
  refine ag.cons (an:=an) (H1:=t1.h (bM r.calls r.ticks (r.way++[k])) []) ?_ ?_
  ·refine aQ II ?_;exact XT.expr (ET.aT ET.name (GM.of (Ty.ai Ff) (aJ.ai Ff) RJ Ta R7) (ab.cons ET.name ab.nil) aM.builtin (CT.append Ff (J (Rk ..) ((Ay hw)))))
  ·have Mz:(t1.h (bM r.calls r.ticks (r.way++[k])) [])[11]?=some (some (.list (r.calls.map fun l=> .lst (l.map V.str)))):=rfl;have IJ:(t1.h (bM r.calls r.ticks (r.way++[k])) [])[13]?=some (some (.list ((r.way++[k]).map fun(k:Nat)=>V.int k))):=rfl;have Qb:=wH (n:=n+8) IJ (r.way++[k]) [] (fun j hj=>by
    rcases RE.mp hj with hj|hj
    ·exact N8 j hj
    ·exact J (Rr.mp hj) (((Ru.mp hf).1))) (by simp;exact eI hw)
   have ni:(t1.h (bM r.calls r.ticks (r.way++[k])) []).set 11 (some (.list ((r.calls.map fun l=>V.lst (l.map V.str))++[.lst ((aH fs (r.way++[k])).map V.str)])))=(r.start fs k).h:=by
    show _=(r.t.startT (qR (aU fs k)) (fb fs r.way (aU fs k))).h (bM (r.calls++[aH fs (r.way++[k])]) r.ticks (r.way++[k])) [];exact J (ju hf) ((show(r.calls++[aH fs (r.way++[k])]).map (fun l=>V.lst (l.map V.str))=(r.calls.map fun l=>V.lst (l.map V.str))++[.lst ((aH fs (r.way++[k])).map V.str)] from RH)▸rfl)
   refine aQ ni ?_;exact ag.cons (XT.expr (ET.aT ET.name (GM.of (Ty.ai Mz) (aJ.ai Mz) RJ Ta R7)
    (ab.cons (ET.cL (ar.of rfl (aa rfl ae)) (IT.val ET.name (VT.ref IJ)) Qb (by delta aH;simp;exact iI (ap (ba hw (Ri _)) dc))) ab.nil) aM.builtin (CT.append Mz (J (Rk ..) (Ay hc))))) ag.nil
end
noncomputable def RS.fin(fs:List LF)(r:RS):RS:={r with t:=r.t.ix (aU fs (r.way.getLast?.getD 0)) "c",way:=r.way.dropLast}
noncomputable def RS.step(fs:List LF)(x:Int)(r:RS):RS:=
 if x.fmod 5<2 then r.start fs ((x.fdiv 5).fmod 4).toNat else if x.fmod 5=2∧1<r.way.length then r.fin fs else r.tick fs x
structure IK(fs:List LF)(r:RS):Prop where
 fl:fs.length=4
 nl:∀f∈fs,f.nm.length≤20
 wk:∀j∈r.way,j<fs.length
 wl:r.way.length≤90
 cl:r.calls.length≤1000
 tl:r.ticks.length≤1000
 dl:r.t.data.length≤1000
 ok:r.t.ok
 fit:r.t.fit
 flat:(live r.t.lv).flatten.length≤198
 us:r.t.us.length≤98
 k0:r.t.k=(live r.t.lv).length+1
 k2:r.t.k≤1000
 op:∀k,k<4→Op (qR (aU fs k)) (fb fs r.way (aU fs k))
 qn:∀j∈r.way,QN (cN (aU fs j)) (aU fs j) "c"
 mem:∀ws j,r.way=ws++[j]→r.t.ig=0→aU fs j∈(live r.t.lv).flatten
section
variable{n:Nat}{H:AH}{F:Fx}{ρ:Loc}
theorem wM(B:Base){fs}{bl}{x}{r}(C:IK fs r):ag (n+8) (ay 208) (rB) (("x", .int x)::AM fs bl) r.h .next (AM fs bl) (r.step fs x).h:=by
 let k:=((x.fdiv 5).fmod 4).toNat;have Oa:=(cu (x.fdiv 5) (b:=4) dc).2;obtain⟨f,hf⟩:∃f,fs[k]?=some f:=⟨_,RK (C.fl▸Oa)⟩;refine ag.cons (an:=zb fs bl x) (XT.assign (ET.binop (ET.binop ET.name ET.int (OT.floordiv_int dc rfl)) ET.int (OT.mod_int dc)) (bw.one (AT.name (ST.local rfl)))) ?_;have cg:=OT.lt_int (n:=n+8) (a:=x.fmod 5) (b:=2) (H:=r.h);refine ag.cons (an:=zb fs bl x) ?_ (ag.sub ag.nil (fun m z h=>by
  refine J lookup_cons (J lookup_cons ?_);refine bn (fun _=> ?_) fun _=> ?_
  ·rename_i e;subst e;cases h
  ·refine bn (fun _=> ?_) fun _=> ?_
   ·rename_i e;subst e;cases h
   ·exact h))
 by_cases c2:x.fmod 5<2
 ·refine J (show r.step fs x=r.start fs k from if_pos c2) ?_;rw[show decide (x.fmod 5<2)=true from by simp[c2]] at cg;have op:=C.op k Oa;rw[(ju hf)] at op;exact XT.ite (TT.cmp (ET.binop ET.name ET.int (OT.mod_int dc)) ET.int cg) (fun _=>tM B (cu (x.fdiv 5) (b:=4) dc).1 hf C.wk C.nl op C.ok C.fit C.flat C.us C.k0 C.k2 C.wl C.cl) (fun h=>by cases h)
 ·replace cg:=(show decide (x.fmod 5<2)=false from by simp[c2])▸cg;refine XT.ite (TT.cmp (ET.binop ET.name ET.int (OT.mod_int dc)) ET.int cg) (fun h=>by cases h) (fun _=>ag.cons ?_ ag.nil);have heq:=OT.eq_int (n:=n+8) (a:=x.fmod 5) (b:=2) (H:=r.h);have Kc:=OT.gt_int (n:=n+8) (a:=((r.way.map fun(k:Nat)=>V.int k).length:Nat)) (b:=1) (H:=r.h);have hlen:ET (n+8) (ay 208) (E4 (Fc 1 (E3 (av (DB (av (rB) 1)) 0)))) (zb fs bl x) r.h (.int ((r.way.map fun(k:Nat)=>V.int k).length:Nat)) r.h:=
   ET.call (ET.az B (jJ) jM) (ab.cons ET.name ab.nil) aM.builtin (CT.ux rfl)
  by_cases c3:x.fmod 5=2
  ·rw[show(x.fmod 5==2)=true from by simp[c3]] at heq;by_cases c1:1<r.way.length
   ·have es:r.step fs x=r.fin fs:=by delta RS.step;rw[if_neg c2,if_pos ⟨c3,c1⟩]
    refine J es ?_;rw[show decide ((((r.way.map fun(k:Nat)=>V.int k).length:Nat):Int)>1)=true from by simp;exact ol c1] at Kc;refine XT.ite (TT.bo (aL.and_true (TT.cmp (ET.binop ET.name ET.int (OT.mod_int dc)) ET.int heq) (aL.and_true (TT.cmp hlen ET.int Kc) aL.and_nil))) (fun _=> ?_) (fun h=>by cases h);rcases TN r.way with Gh|⟨ws,j,nX⟩
    ·rw[Gh] at c1;simp at c1
    ·have nX:r.way=ws++[j]:=by refine J nX ?_;simp
     have IL:j∈r.way:=by refine J nX ?_;simp
     obtain⟨g,zc⟩:∃g,fs[j]?=some g:=⟨_,RK (C.wk j IL)⟩;have IM:=ju zc;have q:=C.qn j IL;have m:=C.mem ws j nX;rw[IM] at q m;have ef:r.fin fs={r with t:=r.t.ix g.nm "c",way:=ws}:=by
      delta RS.fin
      refine J nX (J Um (J V3 ?_));show({r with t:=r.t.ix (aU fs j) "c",way:=ws}:RS)=_;rw[IM]
     refine J ef ?_;have:=wJ (n:=n+2) B (bl:=bl) (x:=x) (calls:=r.calls) (ticks:=r.ticks) (ws:=ws) zc (C.nl g (Sf zc)) q C.ok C.fit m (by have:=C.us;exact Ku this) C.k0;rw[←nX] at this;exact this
   ·have es:r.step fs x=r.tick fs x:=by delta RS.step;rw[if_neg c2,if_neg (fun h=>c1 h.2)]
    refine J es ?_;rw[show decide ((((r.way.map fun(k:Nat)=>V.int k).length:Nat):Int)>1)=false from by simp;lia] at Kc;exact XT.ite (TT.bo (aL.and_true (TT.cmp (ET.binop ET.name ET.int (OT.mod_int dc)) ET.int heq) (aL.and_false (TT.cmp hlen ET.int Kc)))) (fun h=>by cases h) (fun _=>nW B C.dl C.tl (eI C.wl) C.wk)
  ·have es:r.step fs x=r.tick fs x:=by delta RS.step;rw[if_neg c2,if_neg (fun h=>c3 h.1)]
   refine J es ?_;replace heq:=(show(x.fmod 5==2)=false from by rw[beq_eq_false_iff_ne];exact c3)▸heq;exact XT.ite (TT.bo (aL.and_false (TT.cmp (ET.binop ET.name ET.int (OT.mod_int dc)) ET.int heq))) (fun h=>by cases h) (fun _=>nW B C.dl C.tl (eI C.wl) C.wk)
end
noncomputable def my(fs:List LF):Nat→RS→Prop
 |0,r=>r.way=[]
 |m+1,r=>r.way≠[]∧IK fs r∧my fs m (r.fin fs)
noncomputable def RS.down(fs:List LF):Nat→RS→RS
 |0,r=>r
 |m+1,r=>RS.down fs m (r.fin fs)
noncomputable def RS.run(fs:List LF):List Int→RS→RS
 |[],r=>RS.down fs r.way.length r
 |x::xs,r=>RS.run fs xs (r.step fs x)
noncomputable def nY(fs:List LF):List Int→RS→Prop
 |[],r=>my fs r.way.length r
 |x::xs,r=>IK fs r∧nY fs xs (r.step fs x)
section
variable{n:Nat}{H:AH}{F:Fx}{ρ:Loc}
theorem wN(B:Base){fs}{bl}:∀m r,my fs m r→
  XW (n+8) (ay 208) (NQ (av (bodyOf 208) 3)) (gc (av (bodyOf 208) 3)) [] (AM fs bl) r.h .next (AM fs bl) (r.down fs m).h:=by
 intro rv
 induction rv with
 |zero=>
  intro r h;have aV:=OT.jV (n:=n) (H:=r.h) rfl;rw[show(!r.way.isEmpty)=false from by rw[h];rfl] at aV;exact XW.done (TT.cmp ET.name (ET.list ab.nil) aV) ag.nil
 |succ m ih=>
  intro r h;obtain⟨h0,C,h'⟩:=h;have aV:=OT.jV (n:=n) (H:=r.h) rfl;rw[show(!r.way.isEmpty)=true from by simp[h0]] at aV;rcases TN r.way with Gh|⟨ws,j,nX⟩
  ·exact absurd Gh h0
  ·have nX:r.way=ws++[j]:=by refine J nX ?_;simp
   have IL:j∈r.way:=by refine J nX ?_;simp
   obtain⟨g,zc⟩:∃g,fs[j]?=some g:=⟨_,RK (C.wk j IL)⟩;have IM:=ju zc;have q:=C.qn j IL;have mm:=C.mem ws j nX;rw[IM] at q mm;have ef:r.fin fs={r with t:=r.t.ix g.nm "c",way:=ws}:=by
    delta RS.fin
    refine J nX (J Um (J V3 ?_));show({r with t:=r.t.ix (aU fs j) "c",way:=ws}:RS)=_;rw[IM]
   have:=wK (n:=n+2) B (bl:=bl) (calls:=r.calls) (ticks:=r.ticks) (ws:=ws) zc (C.nl g (Sf zc)) q C.ok C.fit mm (by have:=C.us;exact Ku this) C.k0;rw[←nX] at this;refine XW.turn (TT.cmp ET.name (ET.list ab.nil) aV) ?_ (ih (r.fin fs) h');exact ef▸this
theorem tN(B:Base){fs}{bl}:∀xs r,nY fs xs r→
  ∃r',my fs r'.way.length r'∧r.run fs xs=r'.down fs r'.way.length∧XF (n+8) (ay 208) (fun _=>True,fun _=>True) (jL (av (bodyOf 208) 2)) (rB) [] (xs.map V.int) (AM fs bl) r.h .next (AM fs bl) r'.h:=by
 intro rv
 induction rv with
 |nil=>
  intro r h;exact⟨r,h,rfl,XF.nil trivial ag.nil⟩
 |cons x xs ih=>
  intro r h;refine Rg fun kG=> ?_;obtain⟨r',d,e,ih⟩:=ih (r.step fs x) h.2;refine kG ?_;exact⟨r',d,e,XF.cons trivial trivial (AT.name (ST.local rfl)) (wM B h.1) ih⟩
theorem zd(B:Base){fs}{xs}{ex}(hg:∀f∈fs,f.good)(hl:fs.length≤10)(h:nY fs xs ⟨Tg.t0 ex,[],[],[]⟩):
  CT (n+8+1+1) (.st (.ref 208)) [.lst (xs.map V.int),DS fs, .ref 2] [] ((Tg.t0 ex).h [] []) (.tup [.ref 11, .ref 12]) (RS.run fs xs ⟨Tg.t0 ex,[],[],[]⟩).h:=by
 refine Rg fun kG=> ?_;obtain⟨r',d,e,wt⟩:=tN B xs _ h;refine kG (J e ?_);let bs:Loc:=[("deeds", .lst (xs.map V.int)),("functions",DS fs),("target", .ref 2)];refine CT.fn (g:= .ret (.tup [.ref 11, .ref 12])) (an:=AM fs (.lst (xs.map V.int))) (bs:=bs) B (Du B) (Binds.b3 B (HX)) (show [("deeds":RN),"functions","target"].Nodup by decide) rfl ?_;refine ag.cons (XT.cL (ar.of rfl ae) (IT.val ET.name VT.lst) (tK B fs [] hg (by simp;exact eI hl)) (by simp;exact gC hl) (ST.local rfl) (fun env E=>kX E rfl rfl rfl)) ?_;refine ag.cons (XT.fU (xs:=["calls","ticks","way"]) (ET.tuple (ab.cons (ET.ed ab.nil) (ab.cons (ET.ed ab.nil) (ab.cons (ET.ed ab.nil) ab.nil))) (show 3≤Rs by decide)) ⟨ST.local rfl,ST.local rfl,ST.local rfl,trivial⟩ rfl (fun _=>rfl) (fun env E=>cY E rfl)) ?_;refine ag.cons (XT.for (IT.val ET.name VT.lst) wt) (ag.cons (XT.while (wN B r'.way.length r' d)) (ag.ret (XT.ret (ET.tuple (ab.cons ET.name (ab.cons ET.name ab.nil)) dc))))
end
section
variable{n:Nat}{F:Fx}{ρ dI an:Loc}{H H1 H2:AH}
theorem AT.nm(h:autoParam (F.names.lookup x=some .local) aK):AT n F (.Name x pos) y ρ H ((x,y)::ρ) H:=AT.name (ST.local h)
theorem bw.nm(h:autoParam (F.names.lookup x=some .local) aK):bw n F [.Name x pos] y ρ H ((x,y)::ρ) H:=bw.one (AT.nm h)
theorem AT.two{k}{u v}(h:autoParam (F.names.lookup x=some .local) aK)(h':autoParam (F.names.lookup y=some .local) aK):
  AT n F (.Tuple [.Name x p1, .Name y p2] k p) (.tup [u,v]) ρ H ((y,v)::(x,u)::ρ) H:=AT.tuple (aX.cons (AT.nm h) (aX.cons (AT.nm h') aX.nil))
theorem CF.IN{α:Type}{elt target iter}{ifs}{scope}{pos}{P}{vx y}{b}(hp:P.1 H)(hT:P.2 target):∀(xs:List α) acc,
  (∀x∈xs,∃an,AT n F target (vx x) ρ H an H∧eL n F ifs an H (b x) H∧(b x=true→ET n F elt an H (y x) H)∧∀m z,ρ.lookup m=some z→an.lookup m=some z)→acc.length+xs.length≤Rs→
  CF n F (.ListComp elt [⟨target,iter,ifs,0⟩] scope pos) 0 P (xs.map vx) ρ acc H (acc++(xs.filter b).map y) H:=by
 intro rv
 induction rv with
 |nil=>
  intro acc _ _;rw[List.filter_nil,Su,Su,RF];exact CF.nil hp _ _ (fun _ _ _=>rfl)
 |cons x xs ih=>
  intro acc h hz;refine Rg fun kG=> ?_;obtain⟨an,ht,hi,he,hs⟩:=h x Rn;refine kG ?_;have ih:=fun acc hz=>ih acc (fun x hx=>h x (Rm _ hx)) hz;cases hb:b x with
  |true=>
   refine J (Uy hb) (J (RD ..) (J (RD ..) (J (List.append_cons ..) ?_)));exact CF.cons hp hT ht (hb▸hi) (he hb) hs (lj hz) (ih _ (by simp;exact io hz)) _ (fun _ _ _=>rfl)
  |false=>
   rw[Uz (by simp[hb]),RD];exact CF.skip hp hT ht (hb▸hi) hs (ih _ (CQ hz)) _ (fun _ _ _=>rfl)
theorem ET.lc{α:Type}{elt target iter}{ifs}{scope}{pos}{P}(xs:List α){vx} b y(K:ar F scope ρ dI)(hi:IT n F iter ρ H (xs.map vx) P H1)(hp:P.1 H1)(hT:P.2 target)(hz:xs.length≤Rs)
  (h:∀x∈xs,∃an,AT n ⟨dU F scope.names,F.code,false,RB⟩ target (vx x) dI H1 an H1∧eL n ⟨dU F scope.names,F.code,false,RB⟩ ifs an H1 (b x) H1∧(b x=true→ET n ⟨dU F scope.names,F.code,false,RB⟩ elt an H1 (y x) H1)∧∀m z,dI.lookup m=some z→an.lookup m=some z)
  (hs:autoParam (∀env x,Td iter env x=pure x) aI):
  ET n F (.ListComp elt [⟨target,iter,ifs,0⟩] scope pos) ρ H (.lst ((xs.filter b).map y)) H1:=by
 exact ET.cL K hi (CF.IN hp hT xs [] h (by simpa using hz)) (J (Rk ..) (Rq (SR ..) hz)) hs
end
section
variable{n:Nat}{H H1:AH}
noncomputable def nZ(is:List Nat)(H:AH):AH:=is.foldl (fun H i=>H.set i none) H
theorem wO:∀is(H T:AH),(∀i∈is,H.length≤i)→∃T',nZ is (H++T)=H++T':=by
 intro rv
 induction rv with
 |nil=>
  intro _ T _;exact⟨T,rfl⟩
 |cons i is ih=>
  intro H T h;obtain⟨T',e'⟩:=ih H (T.set (i-H.length) none) fun j hj=>h j (Rm _ hj);exact⟨T',by refine aQ e' (aQ (Sb _ _ (h i Rn)) ?_);rfl⟩
theorem BS(hm:∃o,br TA=some o){s}:∀is rows W H vs,ao W H s→is.Nodup→is.length=rows.length→(∀p∈is.zip rows,H[p.1]?=some (some (.list p.2)))→
  ak W (is.map V.ref) vs→∃W',ao W' (nZ is H) s∧Gr ct W s W' s∧ak W' (rows.map V.lst) vs:=by
 intro is
 induction is with
 |nil=>
  intro rows W H vs S _ hl _ r;cases rows with
  |nil=>exact⟨W,S,Gr.refl ..,r⟩
  |cons _ _=>cases hl
 |cons i is ih=>
  intro rows W H vs S nd hl hh rl;cases rows with
  |nil=>cases hl
  |cons r rows=>
   refine Rg fun kG=> ?_;obtain⟨v,t,e,rv,rt⟩:=rl;obtain⟨W1,S1,G1,l1,hr⟩:=S.lK hm (hh (i,r) Rn) rfl;refine kG ?_;obtain⟨W2,S2,G2,r2⟩:=ih rows W1 _ t S1 (SG.mp nd).2 (V6 hl) (fun p hp=>by
    refine J (SY (show i≠p.1 from fun q=>(SG.mp nd).1 (J q (((aaZ hp).1))))) ?_;exact hh p (Rm _ hp)) (ak.mono l1 rt)
   exact⟨W2,S2,G1.trans G2,v,t,e,(hr v rv).mono G2.le,r2⟩
theorem CT.rows(hm:∃o,br TA=some o){f}{xs}{ks}{T}{K}{is}{rows}(h:CT n f xs ks H (.ref K) (H++T))(hK:(H++T)[K]?=some (some (.list (is.map V.ref))))(IA:H.length≤K)
  (nd:(K::is).Nodup) (hi:∀i∈is,H.length≤i) (hl:is.length=rows.length) (hh:∀p∈is.zip rows,(H++T)[p.1]?=some (some (.list p.2))) (hx:(V.lst (rows.map V.lst)).dG H.length=true) (hb:∀ob,some ob∈H→ob.dG H.length=true):
  CT n f xs ks H (.lst (rows.map V.lst)) H:=by
 have Kd:=SG.mp nd;obtain⟨T',eT⟩:=wO (is++[K]) H T fun i GL=>(RE.mp GL).elim (hi i) fun q=>by exact(Rr.mp q)▸IA
 have eT:(nZ is (H++T)).set K none=H++T':=by refine aQ eT ?_;delta nZ;exact J Ws rfl
 refine CT.drop (T:=T') ?_ (Ri _) hx hb;refine .mk fun A s W fv vs kv R S rf rx c8 sm Q q=>h.run A s W fv vs kv R S rf rx c8 sm Q fun v s1 W1 G1 S1 r1=> ?_;obtain⟨a,p,hI,us,m,ho,ru,hz⟩:=S1.live _ _ hK;obtain⟨W2,S2,G2,r2⟩:=BS hm is rows W1 _ us S1 Kd.2 hl hh ru;have p2:=Wd.eO G2.le p;have AG:W2.I a=none:=by
  cases e:W2.I a with
  |none=>rfl
  |some o=>
   have hk:∀is H,K∉is→(nZ is H)[K]?=H[K]?:=fun is=>by
    induction is with
    |nil=>exact fun _ _=>rfl
    |cons i is ih=>
     intro H hn;show(nZ is (H.set i none))[K]?=_;rw[ih _ fun q=>hn (Rm _ q),SY fun(q:i=K)=>hn (q▸Rn)]
   obtain⟨a',p',Lk,_⟩:=S2.live K _ ((hk is _ Kd.1).trans hK);replace p':=p2▸p';cases p';cases Lk.symm.trans e
 obtain⟨S3,G3,l3⟩:=S2.freeze p2 AG ho;replace S3:=eT▸S3;obtain⟨b,e,pb⟩:=r1;cases p.symm.trans pb;refine q v s1 _ ((G1.trans G2).trans G3) S3 ⟨a,us,m,e,Wd.al ..,ak.mono l3 r2, ?_⟩;refine J (Rk ..) (aQ (hl ..) ?_);exact(Rk ..)▸hz
end
structure At where
 p:RN
 l:RN
 v:RN
structure Rw where
 nm:RN
 new:Nat
 own:Nat
 whole:Nat
 caller:RN
 first:Nat
noncomputable def Rw.l(r:Rw):List V:=[.str r.nm, .int r.new, .int r.own, .int r.whole, .str r.caller, .int r.first]
structure Rd where
 rows:List Rw
 way:List (Nat×RN×Nat)
 aj:List (RN×RN)
 b9:List (RN×RN)
noncomputable def jW(b:Nat)(x:Nat×RN×Nat):V:= .tup [.ref (b+2+x.1), .str x.2.1, .int x.2.2]
noncomputable def km(b k:Nat):List V:=(U3 k).map fun i=> .ref (b+2+i)
@[reducible] noncomputable def Rd.h (H0:AH) (r:Rd):AH:=H0++(some (.list (km H0.length r.rows.length))::some (.list (r.way.map (jW H0.length)))::r.rows.map fun x=>some (.list x.l))
noncomputable def cZ(l:List (RN×RN)):V:= .lst (l.map ah)
theorem Rd.qK H0(r:Rd):(r.h H0).length=H0.length+2+r.rows.length:=by
 simp;exact si (AS (Ri _)) (io (Ri _))
theorem Rd.h0 H0(r:Rd):(r.h H0)[H0.length]?=some (some (.list (km H0.length r.rows.length))):=by
 refine J (RL (Ri _)) (J (So ..) ?_);rfl
theorem Rd.h1 H0(r:Rd):(r.h H0)[H0.length+1]?=some (some (.list (r.way.map (jW H0.length)))):=by
 refine J (RL (gl (Ri _))) (J (show H0.length+1-H0.length=1 by exact Na) ?_);rfl
theorem Rd.h2 H0(r:Rd){i}{x}(h:r.rows[i]?=some x):(r.h H0)[H0.length+2+i]?=some (some (.list x.l)):=by
 refine J (RL (gl (gl (Ri _)))) (J (show H0.length+2+i-H0.length=i+2 by exact si (JK (io (JI (Ri _)))) (vD (Kv (JH (Ri _))))) ?_);simp[h]
theorem Rd.MA H0(r:Rd) way:(r.h H0).set (H0.length+1) (some (.list (way.map (jW H0.length))))=({r with way:=way}:Rd).h H0:=by
 refine J (Sb _ _ (gl (Ri _))) (J (show H0.length+1-H0.length=1 by exact Na) ?_);rfl
theorem Rd.IP H0(r:Rd) i x:(r.h H0).set (H0.length+2+i) (some (.list x.l))=({r with rows:=r.rows.set i x}:Rd).h H0:=by
 refine J (Sb _ _ (gl (gl (Ri _)))) (J (show H0.length+2+i-H0.length=i+2 by exact si (JK (io (JI (Ri _)))) (vD (Kv (JH (Ri _))))) ?_);simp
noncomputable def upd(l:List Rw)(i:Nat)(f:Rw→Rw):List Rw:=match l[i]? with
 |some x=>l.set i (f x)
 |none=>l
noncomputable def Rd.whole(k:Nat)(r:Rd):List (Nat×RN×Nat)→Rd
 |[]=>r
 |x::xs=>({r with rows:=upd r.rows x.1 fun y=>{y with whole:=y.whole+k}}:Rd).whole k xs
noncomputable def Rd.spend(k:Nat)(r:Rd):Rd:=({r with rows:=match r.way.getLast? with|some x=>upd r.rows x.1 fun y=>{y with own:=y.own+k}|none=>r.rows}:Rd).whole k r.way
theorem ia l i f:(upd l i f).length=l.length:=by unfold upd;cases l[i]?<;>simp
theorem dz(E:aA F env)(h:Ui ts e (IE F)=pure none):Ui ts e env=pure none:=by
 refine aQ h (iF ?_ (fun x=>(bf E x).trans rfl) ts e);unfold XM;exact J E.kind rfl
noncomputable def ze:List Vy:=gc (av (bodyOf 232) 1)
noncomputable abbrev oY(b:Nat)(f e:List (RN×RN)):Loc:=[("ever",cZ e),("force",cZ f),("way", .ref (b+1)),("rows", .ref b)]
section
variable{n:Nat}{H:AH}{ρ:Loc}
theorem ET.uV{kk}{x}{c}{H1}(h:ET n F e ρ H (.str x) H1)(hc:x.cps[0]?=some c):ET n F (.Subscript e (.Constant (.int 0) kk k) p) ρ H (.str ⟨#[c]⟩) H1:=by
 refine ET.sub h ET.int Ty.str Wj.lookup (OT.item_str ?_ dc);exact(seqIndex_nonneg rfl ((Uc.mp hc).1))▸hc
theorem tP{k:Nat}{f e}:∀ws(r:Rd) L,r.way=L→(∀x∈ws,x.1<r.rows.length)→∀ρ,(∀m z,((("spent",V.int k)::oY H0.length f e:Loc)).lookup m=some z→ρ.lookup m=some z)→
  XF n (ay 232) (fun H=>H[H0.length+1]?=some (some (.list (L.map (jW H0.length)))),fun _=>True) (jL (av (uN (av (ze) 1)) 2)) (gc (av (uN (av (ze) 1)) 2)) [] (ws.map (jW H0.length)) ρ (r.h H0) .next (oY H0.length f e) ((r.whole k ws).h H0):=by
 intro rv
 induction rv with
 |nil=>
  intro r L hL _ ρ lL;exact XF.nil (hL▸Rd.h1 H0 r) (ag.sub ag.nil (aa (lL _ _ rfl) (aa (lL _ _ rfl) (aa (lL _ _ rfl) (aa (lL _ _ rfl) ae)))))
 |cons x ws ih=>
  intro r L hL h ρ lL;obtain⟨y,hy⟩:∃y,r.rows[x.1]?=some y:=⟨_,RK (h x Rn)⟩;have eu:upd r.rows x.1 (fun y=>{y with whole:=y.whole+k})=r.rows.set x.1 {y with whole:=y.whole+k}:=by unfold upd;rw[hy]
  have ih:=ih {r with rows:=upd r.rows x.1 fun y=>{y with whole:=y.whole+k}} L hL (fun z hz=>by exact J (ia ..) ((h z (Rm _ hz))))
   (("mark", .int x.2.2)::("due", .str x.2.1)::("row", .ref (H0.length+2+x.1))::ρ) (aa (lL _ _ rfl) (aa (lL _ _ rfl) (aa (lL _ _ rfl) (aa (lL _ _ rfl) (aa (lL _ _ rfl) ae)))))
  have hs:=Rd.IP H0 r x.1 {y with whole:=y.whole+k};rw[←eu] at hs;refine XF.cons (hL▸Rd.h1 H0 r) trivial (AT.tuple (aX.cons AT.nm (aX.cons AT.nm (aX.cons AT.nm aX.nil)))) (ag.cons ?_ ag.nil) ih;refine XT.sE ET.name ET.int (OT.pT (Rd.h2 H0 r hy) rfl rfl) (ET.name (lL _ _ rfl)) Em.add_int ?_;exact hs▸(IS.list (Rd.h2 H0 r hy) (show 3<6 by decide))
end
section
variable{n:Nat}{H:AH}{ρ:Loc}
theorem OT.ne_str:OT n (Sv .NotEq) (.str x) (.str y) H (.bool (!(x==y))) H:=OT.aZ fun A s W a c R S ra rb Q q=>by
 obtain⟨t,rfl,_⟩:=ra;obtain⟨u,rfl,_⟩:=rb;exact SeqAt.RcNeAt.str_str x t y u prog w aY Q (q s.toks)
theorem OT.ne_bool:OT n (Sv .NotEq) (.bool x) (.bool y) H (.bool (!(x==y))) H:=OT.aZ fun A s W a c R S ra rb Q q=>by
 cases ra;cases rb;exact SeqAt.RcNeAt.bool_bool x y prog w aY Q (q s.toks)
noncomputable def Rd.tick(rest:RN)(r:Rd):Rd:=if rest="" then r else r.spend (eE rest).length
theorem tQ(B:Base){H0}{r:Rd}{rest:RN}{f e}(hz:rest.length≤10000)(hl:rest≠""→r.way≠[])(hw:∀x∈r.way,x.1<r.rows.length):
  XT (n+8+1+1) (ay 232) (av (ze) 1) (("rest", .str rest)::oY H0.length f e) (r.h H0) .next (oY H0.length f e) ((r.tick rest).h H0):=by
 let gD:Loc:=("rest", .str rest)::oY H0.length f e;have h1:gD.lookup ("rest":RN)=some (.str rest):=rfl;have h2:gD.lookup ("way":RN)=some (.ref (H0.length+1)):=rfl;by_cases h0:rest=""
 ·refine J ((show r.tick rest=r from if_pos h0)) ?_;refine XT.ite (c:=false) (TT.cmp (ET.name h1) ET.str ?_) (fun h=>by cases h) (fun _=>ag.sub ag.nil (aa rfl (aa rfl (aa rfl (aa rfl ae)))));exact(show(!(rest==""))=false by refine J h0 ?_;decide)▸(OT.ne_str (n:=n+8+1+1) (H:=r.h H0) (x:=rest) (y:=""))
 ·refine J (show r.tick rest=r.spend (eE rest).length from if_neg h0) ?_;obtain⟨ws,x,hx⟩:∃ws x,r.way=ws++[x]:=by
   rcases TN r.way with h|⟨ws,x,h⟩
   ·exact absurd h (hl h0)
   ·exact⟨ws,x,by refine J h ?_;simp⟩
  obtain⟨y,hy⟩:∃y,r.rows[x.1]?=some y:=⟨_,RK (hw x (by refine J hx ?_;simp))⟩;let k:=(eE rest).length;let r1:Rd:={r with rows:=upd r.rows x.1 fun y=>{y with own:=y.own+k}};have eu:upd r.rows x.1 (fun y=>{y with own:=y.own+k})=r.rows.set x.1 {y with own:=y.own+k}:=by delta upd;rw[hy]
  have es:r.spend k=r1.whole k r.way:=by
   delta Rd.spend
   rw[show r.way.getLast?=some x by rw[hx];simp]
  refine J es ?_;have aV:=OT.ne_str (n:=n+8+1+1) (H:=r.h H0) (x:=rest) (y:="");rw[show(!(rest==""))=true by simp[h0]] at aV;let an:Loc:=("spent", .int k)::("inner", .ref (H0.length+2+x.1))::gD;refine XT.ite (TT.cmp (ET.name h1) ET.str aV) (fun _=> ?_) (fun h=>by cases h);refine ag.cons (an:=an) (XT.fU (xs:=["spent","inner"]) (ET.tuple (ab.cons (ET.call (ET.az B (jJ) jM) (ab.cons (ET.call (ET.globK B (oN)) (ab.cons (ET.name h1) ab.nil) (aM.def (Dx B)) (we B hz)) ab.nil) aM.builtin CT.len_str)
   (ab.cons (ET.sub (ET.sub (ET.name h2) (ET.unary ET.int j4.neg) (Ty.ai (Rd.h1 H0 r)) RU.lookup (OT.dg (i:=ws.length) (x:=jW H0.length x) (Rd.h1 H0 r) (by refine J hx ?_;simp;lia) (by refine J hx ?_;simp))) ET.int Ty.tup SA.lookup (OT.item_tup (i:=0) rfl rfl)) ab.nil)) (show 2≤Rs by decide))
   ⟨ST.local rfl,ST.local rfl,trivial⟩ rfl (fun _=>rfl) (fun env E=>cY E rfl)) ?_
  refine ag.cons (H1:=r1.h H0) (XT.sE ET.name ET.int (OT.pT (Rd.h2 H0 r hy) rfl rfl) ET.name Em.add_int ?_) ?_
  ·exact(show(r.h H0).set (H0.length+2+x.1) (some (.list ({y with own:=y.own+k}:Rw).l))=r1.h H0 by exact J (Rd.IP ..) (aQ (eu ..) rfl))▸(IS.list (Rd.h2 H0 r hy) (show 2<6 by decide))
  ·exact ag.cons (XT.for (IT.val (ET.name h2) (VT.ref (Rd.h1 H0 r1))) (tP r.way r1 r.way rfl (fun z hz=>by refine J (ia ..) (hw z hz)) an (aa rfl (aa rfl (aa rfl (aa rfl (aa rfl ae))))))) ag.nil
noncomputable def Rd.close(r:Rd):Rd:={r with way:=r.way.dropLast,aj:=r.aj.take ((r.way.getLast?.map (·.2.2)).getD 0)}
theorem tR(B:Base){H0}{r:Rd}{p tag rest}{ws}{i k}(hw:r.way=ws++[(i,tag,k)])(h0:p.cps[0]?=some 47)(hs:Sl (TH p (some 1) none) ">"=[tag,rest])(hz:tag.length≤10000∧rest.length≤10000):
  XT (n+8+1+1) (ay 232) (av (ze) 0) (("piece", .str p)::oY H0.length r.aj r.b9) (r.h H0) .next (("rest", .str rest)::oY H0.length r.close.aj r.close.b9) (r.close.h H0):=by
 have yi:=R2;have ec:r.close={r with way:=ws,aj:=r.aj.take k}:=by delta Rd.close;refine J hw ?_;simp
 refine J ec (XT.ite (TT.cmp (ET.uV ET.name h0) ET.str OT.eq_str) (fun _=> ?_) (fun h=>by cases h));have oW:=CT.split (n:=n+8+1+1) (H:=r.h H0) (y:=">") dc (by refine J hs ?_;show 2≤_;decide) (by refine J hs ?_;intro q hq;simp at hq;lia);rw[hs] at oW;refine ag.cons (XT.assign (ET.aT (ET.iM ET.name (PT.some ET.int) PT.none) (GM.of Ty.str aJ.str Sd T2 T0) (ab.cons ET.str ab.nil) aM.builtin oW)
  (bw.one (AT.lB (aX.cons (AT.name (ST.cell rfl)) (aX.cons AT.nm aX.nil))))) ?_
 have h1:(r.h H0)[H0.length+1]?=some (some (.list (ws.map (jW H0.length)++[jW H0.length (i,tag,k)]))):=by refine J (Rd.h1 ..) (J (hw ..) ?_);simp
 refine ag.cons (XT.assign (ET.aT ET.name (GM.of (Ty.ai h1) (aJ.ai h1) RJ Ua T9) ab.nil aM.builtin (CT.pop h1))
  (bw.one (AT.tuple (aX.cons AT.nm (aX.cons AT.nm (aX.cons AT.nm aX.nil)))))) ?_
 refine J (Rd.MA ..) ?_;have hf:cZ (r.aj.take k)= .lst (cut none (some k) (r.aj.map ah)):=by refine J (lC ..) ?_;simp[cZ]
 refine ag.cons (H1:=({r with way:=ws}:Rd).h H0) (XT.assign (x:=cZ (r.aj.take k)) ?_ bw.nm) ?_
 ·exact hf▸ET.dJ ET.name PT.none (PT.some ET.name)
 have aV:=OT.ne_str (n:=n+8+1+1) (H:=({r with way:=ws}:Rd).h H0) (x:=tag) (y:=tag);rw[show(!(tag==tag))=false by simp] at aV;exact ag.cons (XT.ite (TT.cmp ET.name ET.name aV) (fun h=>by cases h) (fun _=>ag.nil)) (ag.sub ag.nil (aa rfl (aa rfl (aa rfl (aa rfl (aa rfl ae))))))
end
noncomputable def At.key(a:At):RN:=" "++a.p++":"++a.l++"="
structure At.ok(a:At):Prop where
 c0:a.key.cps[0]?=some 32
 sp:Sl (TH a.key (some 1) (some (-1))) ":"=[a.p,a.l]
 lp:a.p.length≤100
 ll:a.l.length≤100
 lv:a.v.length≤1000
noncomputable def eV(as:List At)(T:List RN):List RN:=as.flatMap (fun a=>[a.key,a.v])++T
noncomputable def cc(f:List (RN×RN))(q:RN×RN→Bool):List RN:=(f.filter q).map (·.2)
structure Hd where
 aj:List (RN×RN)
 caller:RN
 pair:RN
noncomputable def Hd.at(h:Hd)(a:At):Hd:=if a.p="xmlns" then {h with aj:=h.aj++[(a.l,cC a.v)]} else {h with caller:=cC a.v,pair:=((cc h.aj fun x=>x.1==a.p).getLast?).getD ""}
noncomputable def zf:Hd→List At→Prop
 |_,[]=>True
 |h,a::as=>a.ok∧(a.p="xmlns"∨(a.l="by"∧cc h.aj (fun x=>x.1==a.p)≠[]))∧zf (h.at a) as
theorem kZ{α:Type}{l:List α}(h:l≠[]) d:l[l.length-1]?=some (l.getLast?.getD d):=by
 refine J List.getLast?_eq_getElem? ?_;exact J (RK (Nat.sub_lt (U9.mpr h) Nat.one_pos)) rfl
noncomputable def MB:Vy:=av (DB (av (ze) 0)) 2
noncomputable abbrev Gi(b:Nat)(ps:List RN)(h:Hd)(tag:RN)(k:Nat)(e:List (RN×RN)):Loc:=[("parts", .lst (ps.map V.str)),("force",cZ h.aj),("caller", .str h.caller),("pair", .str h.pair),("tag", .str tag),("mark", .int k),
 ("ever",cZ e),("way", .ref (b+1)),("rows", .ref b)]
section
variable{n:Nat}{H:AH}{ρ:Loc}
theorem wP(B:Base){b k}{tag}{e}{T}{t}{T'}{c}(hT:T=t::T')(ht:t.cps[0]?=some c)(hc:c≠32):∀as h,zf h as→h.aj.length+as.length≤1000→
  (eV as T).length≤10000→XW (n+8+1+1) (ay 232) (NQ (MB)) (gc (MB)) [] (Gi b (eV as T) h tag k e) H .next (Gi b T (as.foldl Hd.at h) tag k e) H:=by
 intro rv
 induction rv with
 |nil=>
  intro h _ _ _;refine J (show eV [] T=T from rfl) (XW.done (TT.cmp (ET.uV (ET.sub ET.name ET.int Ty.lst RU.lookup (OT.a9 rfl (by refine J hT ?_;rfl))) ht) ET.str ?_) ag.nil);have:=OT.eq_str (n:=n+8+1+1) (H:=H) (x:=⟨#[c]⟩) (y:=" ");rw[show((⟨#[c]⟩:RN)==" ")=false by
   apply aat.mpr;intro q;have:(⟨#[c]⟩:RN)=⟨#[32]⟩:=eq_of_beq q;injection this with q
   exact hc (by simpa using q)] at this
  exact this
 |cons a as ih=>
  intro h m8 hl hz;have yi:=R2;obtain⟨ok,hk,MC⟩:=m8;refine J (show eV (a::as) T=a.key::a.v::eV as T from rfl) ?_;let gD:=Gi b (a.key::a.v::eV as T) h tag k e;let an:Loc:=("local", .str a.l)::("prefix", .str a.p)::gD;have oW:=CT.split (n:=n+8+1+1) (H:=H) (y:=":") dc (by refine J ok.sp ?_;show 2≤_;decide) (by
   have:=ok.lp;have:=ok.ll;refine J ok.sp ?_;intro q hq;simp at hq;rcases hq with rfl|rfl<;>lia)
  rw[ok.sp] at oW;have IQ:∀p1 p2 p3 kk,ET (n+8+1+1) (ay 232) (.Subscript (.Name "parts" p1) (.Constant (.int 0) kk p2) p3) gD H (.str a.key) H:=fun _ _ _ _=>ET.sub ET.name ET.int Ty.lst RU.lookup (OT.a9 rfl rfl);have MD:∀ρ',ρ'.lookup ("parts":RN)=some (.lst ((a.key::a.v::eV as T).map V.str))→∀p1 p2 p3 kk,ET (n+8+1+1) (ay 232) (.Subscript (.Name "parts" p1) (.Constant (.int 1) kk p2) p3) ρ' H (.str a.v) H:=fun ρ' hp _ _ _ _=>
   ET.sub (ET.name hp) ET.int Ty.lst RU.lookup (OT.a9 rfl rfl)
  have IR:∀ρ',ρ'.lookup ("parts":RN)=some (.lst ((a.key::a.v::eV as T).map V.str))→∀p0 p1 p2 p3 p4 kk,ET (n+8+1+1) (ay 232) (.Call (.Name "_law_value" p0) [.Subscript (.Name "parts" p1) (.Constant (.int 1) kk p2) p3] [] p4) ρ' H (.str (cC a.v)) H:=fun ρ' hp _ _ _ _ _ _=>
   ET.call (ET.globK B (nt)) (ab.cons (MD ρ' hp _ _ _ _) ab.nil) (aM.def (Dw B)) (tg B (eI ok.lv))
  refine XW.turn (TT.cmp (ET.uV (IQ _ _ _ _) ok.c0) ET.str OT.eq_str) ?_ (ih (h.at a) MC (by delta Hd.at;refine bn (fun _=> ?_) (fun _=> ?_)<;>simp at hl⊢<;>lia) (by simp[eV] at hz⊢;exact eI hz))
  ·refine ag.cons (an:=an) (XT.assign (ET.aT (ET.iM (IQ _ _ _ _) (PT.some ET.int) (PT.some (ET.unary ET.int j4.neg))) (GM.of Ty.str aJ.str Sd T2 T0) (ab.cons ET.str ab.nil) aM.builtin oW)
    (bw.one (AT.lB (aX.cons (AT.name (ST.cell rfl)) (aX.cons AT.nm aX.nil))))) ?_
   let cV:Loc:=Gi b (a.key::a.v::eV as T) (h.at a) tag k e;have fin:ag (n+8+1+1) (ay 232) ((gc (MB)).drop 2) cV H .next (Gi b (eV as T) (h.at a) tag k e) H:=by
    refine ag.cons (XT.assign ?_ bw.nm) (ag.sub ag.nil (aa rfl (aa rfl (aa rfl (aa rfl (aa rfl (aa rfl (aa rfl (aa rfl (aa rfl ae))))))))));exact(show V.lst ((eV as T).map V.str)= .lst (cut (some ((2:Nat):Int)) none ((a.key::a.v::eV as T).map V.str)) by exact J (gG ..) rfl)▸ET.dJ ET.name (PT.some ET.int) PT.none
   refine ag.cons ?_ fin;have Ke:=OT.eq_str (n:=n+8+1+1) (H:=H) (x:=a.p) (y:="xmlns");by_cases hp:a.p="xmlns"
   ·rw[show(a.p=="xmlns")=true by simp[hp]] at Ke;refine XT.ite (TT.cmp ET.name ET.str Ke) (fun _=> ?_) (fun h=>by cases h);have eh:h.at a={h with aj:=h.aj++[(a.l,cC a.v)]}:=if_pos hp;have ef:cZ (h.at a).aj= .lst (h.aj.map ah++[ah (a.l,cC a.v)]):=by refine J eh ?_;simp[cZ]
    refine ag.cons (XT.assign ?_ bw.nm) (ag.sub ag.nil (aa rfl (aa rfl (aa (by refine J (show(h.at a).caller=h.caller by exact J eh rfl) ?_;rfl) (aa (by exact J (show(h.at a).pair=h.pair by rw[eh]) rfl) (aa rfl (aa rfl (aa rfl (aa rfl (aa rfl ae))))))))));exact J ef (ET.binop ET.name (ET.list (ab.cons (ET.tuple (ab.cons ET.name (ab.cons (IR _ rfl _ _ _ _ _ _) ab.nil)) (show 2≤Rs by decide)) ab.nil) (show 1≤Rs by decide)) (OT.kP (by simp at hl⊢;exact iI (ap (ba (lj hl) (D6 (D6 hl))) dc))))
   ·rw[show(a.p=="xmlns")=false by simp[hp]] at Ke;obtain⟨Qc,yh⟩:=hk.resolve_left hp;refine XT.ite (TT.cmp ET.name ET.str Ke) (fun h=>by cases h) (fun _=>ag.cons ?_ ag.nil);have hb:=OT.eq_str (n:=n+8+1+1) (H:=H) (x:=a.l) (y:="by");rw[show(a.l=="by")=true by simp[Qc]] at hb;refine XT.ite (TT.cmp ET.name ET.str hb) (fun _=> ?_) (fun h=>by cases h);let kn:=cc h.aj fun x=>x.1==a.p;have eh:h.at a={h with caller:=cC a.v,pair:=kn.getLast?.getD ""}:=if_neg hp;refine ag.cons (XT.assign (ET.tuple (ab.cons (IR _ rfl _ _ _ _ _ _) (ab.cons (ET.sub (ET.lc (dI:=[("prefix", .str a.p)]) h.aj (fun x=>x.1==a.p) (fun x=> .str x.2) (ar.of rfl (aa rfl ae)) (IT.val ET.name VT.lst) trivial trivial (ap (lj hl) dc) fun x _=> ?_)
     (ET.unary ET.int j4.neg) Ty.lst RU.lookup (OT.eB (i:=kn.length-1) ?_ ?_)) ab.nil)) (show 2≤Rs by decide)) (bw.one (AT.tuple (aX.cons AT.nm (aX.cons (AT.name (ST.cell rfl)) aX.nil)))) (fun _=>rfl) (fun env E=>dz E rfl))
     (ag.sub ag.nil (aa rfl (aa (by exact J (show(h.at a).aj=h.aj by rw[eh]) rfl) (aa (by exact J (show(h.at a).caller=cC a.v by rw[eh]) rfl) (aa (by exact J (show(h.at a).pair=kn.getLast?.getD "" by rw[eh]) rfl) (aa rfl (aa rfl (aa rfl (aa rfl (aa rfl ae))))))))))
    ·exact⟨_,AT.two,eL.one (TT.cmp ET.name ET.name OT.eq_str),fun _=>ET.name rfl,aa rfl ae⟩
    ·have:=U9.mpr yh;refine J (show((h.aj.filter fun x=>x.1==a.p).map fun x=>V.str x.2).length=kn.length by simp[kn,cc]) ?_;lia
    ·refine J (show((h.aj.filter fun x=>x.1==a.p).map fun x=>V.str x.2)=kn.map V.str by simp[kn,cc]) (J Sx (J (kZ yh "") ?_));rfl
end
theorem zg(h:x.ok=true):V.eqv x x=true:=by
 obtain⟨d,e,h⟩:=V.dQ h
 delta V.eqv;exact e▸aaX d ((RA _ _).mp h).1
theorem n5(h:Rv p.1=true∧Rv p.2=true):(ah p).nk 1=true:=V.kO (by simp[V.ga h.1 0,V.ga h.2 0])
theorem jX(h:∀p∈l,Rv p.1=true∧Rv p.2=true):(cZ l).ok=true:=
 V.nJ (V.kN (by rw[Wb,SE];exact fun p hp=>n5 (h p hp))) dc
structure ME(p tag:RN) as rest:Prop where
 c0:∃c,p.cps[0]?=some c∧c≠47
 idx:∃i js,TU p " " 0 p.length 1=i::js∧TH p none (some i)=tag∧Sl (TH p (some i) none) "\""=eV as (Sl (">"++rest) "\"")
 tl:∃t T' c,Sl (">"++rest) "\""=t::T'∧t.cps[0]?=some c∧c≠32
 jn:SF "\"" (Sl (">"++rest) "\"")=">"++rest
 jk:XK "\"" (Sl (">"++rest) "\"")=true
 sp:Sl (">"++rest) ">"=[("":RN),rest]
 lz:(eV as (Sl (">"++rest) "\"")).length≤10000∧∀q∈eV as (Sl (">"++rest) "\""),q.length≤10000
 lt:tag.length≤1000
 lr:rest.length≤10000
noncomputable def Rd.hd(r:Rd)(as:List At):Hd:=as.foldl Hd.at ⟨r.aj,"",""⟩
noncomputable def Rd.nm(r:Rd)(tag:RN)(as:List At):RN:=((cc (r.hd as).aj fun x=>x.1++":c"==tag).getLast?).getD ""
noncomputable def Rd.fresh(r:Rd)(as:List At):List (RN×RN):=(r.hd as).aj.drop r.aj.length
noncomputable def Rd.row(r:Rd)(tag:RN)(as:List At):Rw:=⟨r.nm tag as,((r.fresh as).map (·.2)).count (r.nm tag as),0,0,(r.hd as).caller,((r.fresh as).map (·.2)).count (r.hd as).pair⟩
noncomputable def Rd.open(r:Rd)(tag:RN)(as:List At):Rd:={rows:=r.rows++[r.row tag as],way:=r.way++[(r.rows.length,tag,r.aj.length)],aj:=(r.hd as).aj,b9:=r.b9++r.fresh as}
structure Kf(r:Rd) tag as:Prop where
 ok:zf ⟨r.aj,"",""⟩ as
 nm:cc (r.hd as).aj (fun x=>x.1++":c"==tag)≠[]
 Qd:b6 (r.fresh as)=r.fresh as
 l2:(r.fresh as).length≤2
 pr:(r.hd as).pair=if(r.hd as).caller="" then("":RN) else(r.hd as).caller++"\n"++r.nm tag as
 two:∀v∈(r.fresh as).map (·.2),v=r.nm tag as∨v=(r.hd as).pair
 one:∀x∈r.fresh as,∀y∈r.b9++r.fresh as,(x.1==y.1)=(x.2==y.2)
 str:∀p∈(r.hd as).aj++r.b9,Rv p.1=true∧Rv p.2=true
 sn:Rv (r.nm tag as)=true∧Rv (r.hd as).pair=true
 lf:r.aj.length+as.length≤1000
 le:r.b9.length≤1000
 lh:(r.hd as).aj.length≤1000
 ls:∀p∈(r.hd as).aj,p.1.length≤1000
 lc:(r.hd as).caller.length≤1000
 ln:(r.nm tag as).length≤1000
 lr:r.rows.length≤1000
 lw:r.way.length≤1000
theorem Rd.push H0(r:Rd) x tag k(f e:List (RN×RN)):
  (((r.h H0++[some (AO.list x.l)]).set H0.length (some (.list (km H0.length r.rows.length++[V.ref (H0.length+2+r.rows.length)])))).set (H0.length+1) (some (.list (r.way.map (jW H0.length)++[jW H0.length (r.rows.length,tag,k)]))))=
   ({rows:=r.rows++[x],way:=r.way++[(r.rows.length,tag,k)],aj:=f,b9:=e}:Rd).h H0:=by
 simp[km,List.range_succ]
section
variable{n:Nat}{H:AH}{ρ:Loc}
theorem OT.ne_self(hx:x.ok=true)(hd:∀d,x.data=some d→gE H x=some d):OT (n+8) (Sv .NotEq) x x H (.bool false) H:=by
 obtain⟨d,e,s⟩:=V.dQ hx;have:=OT.ne (n:=n) (hd d e) (hd d e) s s;rw[aaX d ((RA _ _).mp s).1] at this;exact this
noncomputable def Ob:Tk:=E4 (E3 (av (DB (av (ze) 0)) 9))
theorem zh{F}(h1:F.names.lookup ("old":RN)=some .local)(ho:gD.lookup ("one":RN)=some (ah one))(xD:gD.lookup ("old":RN)=none):∀(ys:List (RN×RN)),(∀y∈ys,(one.1==y.1)=(one.2==y.2))→
  CF n F (Ob) 1 (fun _=>True,fun _=>True) (ys.map ah) gD [] H [] H:=by
 intro rv
 induction rv with
 |nil=>
  intro _;exact CF.nil trivial _ _ (fun _ _ _=>rfl)
 |cons y ys ih=>
  intro h;have it:∀x nm i z(p1 p2 p3:Pos) kk,(hd:(nm==("__debug__":RN))=false)→(hc:(nm=="__classdict__")=false)→(("old",ah y)::gD:Loc).lookup nm=some (ah x)→i<2→[V.str x.1, .str x.2][i]?=some z→
    ET n F (.Subscript (.Name nm p1) (.Constant (.int (i:Nat)) kk p2) p3) (("old",ah y)::gD) H z H:=fun x nm i z _ _ _ _ hd hc hl hi hz=>
   ET.sub (ET.name hl hd hc) ET.int Ty.tup SA.lookup (OT.item_tup (seqIndex_nonneg rfl hi) hz (by lia) (by lia))
  have m9:(("old",ah y)::gD:Loc).lookup ("one":RN)=some (ah one):=J lookup_cons (J (if_neg dc) ((ho)));have aV:=OT.ne_bool (n:=n) (H:=H) (x:=one.1==y.1) (y:=one.2==y.2);rw[show(!((one.1==y.1)==(one.2==y.2)))=false by rw[(h y Rn)];simp] at aV;refine CF.skip trivial trivial (AT.nm h1) (eL.one (TT.cmp (ET.cmp (it one "one" 0 (.str one.1) _ _ _ _ dc dc m9 dc rfl) (it y "old" 0 (.str y.1) _ _ _ _ dc dc rfl dc rfl) OT.eq_str) (ET.cmp (it one "one" 1 (.str one.2) _ _ _ _ dc dc m9 dc rfl) (it y "old" 1 (.str y.2) _ _ _ _ dc dc rfl dc rfl) OT.eq_str) aV)) ?_ (ih fun z hz=>h z (Rm _ hz)) _ (fun _ _ _=>rfl);intro m z e;exact J lookup_cons (J (if_neg (fun q=>by subst q;cases xD.symm.trans e)) ((e)))
end
noncomputable abbrev Rb(i:Nat)(e:Tk):Tk:=cM i e
section
variable{n:Nat}{F:Fx}{H H1 H2 H3 H4:AH}{ρ an:Loc}
theorem CF.IU{elt target qS}{gens}{scope}{pos}{d}{P P2}{x}{xs ys acc BU cW}{g2}(hp:P.1 H)(hg:gens[d+1]?=some g2)(vF:g2.is_async=0)(hT:P.2 target)
  (ht:AT n F target x ρ H an H1)
  (hi:IT n F qS an H1 ys P2 H2) (qE:CF n F (.ListComp elt gens scope pos) (d+1) P2 ys an acc H2 BU H3)
  (hs:∀n x,ρ.lookup n=some x→an.lookup n=some x) (h:CF n F (.ListComp elt gens scope pos) d P xs ρ BU H3 cW H4) p
  (hf:∀env x,Td qS env x=pure x)
  (heq:∀it a env,X3 (.ListComp elt gens scope pos) d it a env=(standAt p>>=fun _=>UP it>>=fun r=>match r with
   |none=>pure (.done .next)
   |some v=>Tp target it v>>=fun _=>XJ target env v>>=fun _=>
     eval qS env>>=fun x=>standAt qS.pos>>=fun _=>Td qS env x>>=fun x=>holding [x] (Wn x)>>=fun Fg=>
      runOwn (.compStart (.ListComp elt gens scope pos) (d+1) Fg a env) env>>=fun _=>aaP (.compLoop (.ListComp elt gens scope pos) d it a env))):
  CF n F (.ListComp elt gens scope pos) d P (x::xs) ρ acc H cW H4:=by
 refine .mk fun A s W env it D Y R S E fr hl hc hD rX rY ac fd Q q=>(SD ?_);show wpAny _ A ((X3 (.ListComp elt gens scope pos) d it (.ref D) env).onRaise (fun x=>do noteFrame x env;Xv x)) _ _ s;refine T7 (dh fun Q' E' qq _=> ?_);refine J (heq ..) (bA (Rh (RM (fd A s W H R (Gr.refl ..) S hp) (fun r s1 h1=> ?_) fun _ _ e=>e.elim)));obtain⟨v,rfl,h1⟩:=h1;refine Rh (RM (h1 target hT) (fun _ s2 h2=> ?_) fun _ _ e=>e.elim);refine Rg fun kG=> ?_;obtain⟨W2,G2,S2,r2,xB⟩:=h2;refine kG (Rh (lE (ht.run A s2 W2 env v R S2 E (fr.di G2 hl hc) r2 _ fun s3 W3 G3 S3 f3=> ?_)));have a3:=(ac.step G2 hD).step G3 (kL rX rY);obtain⟨m,hn,_⟩:=f3.m;have dn:s3.heap.get? D≠none:=by obtain⟨vs,m,ho,_⟩:=a3.obj;exact ho▸nofun
 refine Rh (RM (hi.run A s3 W3 env R S3 E f3 (fun Fg s5=>Tt (model prog w) A (.compStart (.ListComp elt gens scope pos) (d+1) Fg (.ref D) env) (fun r s'=>∃f,r= .ok f∧∃W',Gr (fun a=>own env a∨a=D) W3 s3 W' s'∧ao W' H3 s'∧cR W' an env s'.heap∧Acc W' s' D BU) s5) ?_) (fun u s4 h4=> ?_) fun _ _ e=>e.elim)
 ·intro Fg Y2 s5 W5 G5 S5 c;have hY:=fun a y=>(c.new a y).1;have k1:∀s' W',Gr (fun a=>(own env a∨a=D)∨Y2 a) W5 s5 W' s'→Gr (fun a=>own env a∨a=D) W3 s3 W' s':=fun s' W' G=>
   (G5.of).base G fun x h hx=>h.elim id fun y=>absurd (hY x y) hx
  have lp:Tt (model prog w) A (.compLoop (.ListComp elt gens scope pos) (d+1) Fg (.ref D) env) (fun r s'=>∃f,r= .ok f∧∃W',Gr (fun a=>own env a∨a=D) W3 s3 W' s'∧ao W' H3 s'∧cR W' an env s'.heap∧Acc W' s' D BU) s5:=
   qE.run A s5 W5 env Fg D Y2 R S5 E (f3.step G5) (fun q=>ch hn (hY _ q)) (fun x c hc q=>(f3.dD x c hc).2.2.2 (hY _ q)) (fun q=>dn (hY _ q)) rX rY (a3.step G5 id) (c.feed _ fun a o y=>by
    rcases o with o|o
    ·exact f3.cG a o (hY a y)
    ·subst o;exact dn (hY a y)) _ fun s' W' G' S' f' a'=>⟨W',k1 _ _ G',S',f',a'⟩
  exact fW hg vF lp (c.self (fun _=>False) (fun _ h=>h.elim) A s5 W5 H2 (Gr.refl ..) S5 _ lp)
 ·refine bA (bE (hf env u) (Rh (wpAny_holding (RM h4 (fun Fg s5 h5=> ?_) fun _ _ e=>e.elim))));refine Rh (wpAny_runOwn (UB h5 fun r s6 h6=> ?_));refine Rg fun kG=> ?_;obtain⟨f,rfl,W6,G6,S6,f6,a6⟩:=h6;refine kG (Rj (qq _ _ ⟨rfl, ?_⟩));have GV:=(G3.weaken fun x h=> .inl h).trans G6;refine h.run A s6 W6 env it D Y R S6 E (f6.sub hs) hl hc hD rX rY a6 (xB.step GV) Q fun s7 W7 G7 S7 f7 a7=>q s7 W7 ?_ S7 f7 a7;exact((G2.weaken fun x h=> .inr h).trans (GV.weaken fun x h=> .inl h)).trans G7
theorem zi{F}{E}(h1:F.names.lookup ("old":RN)=some .local)(h2:F.names.lookup ("one":RN)=some .local):∀(xs:List (RN×RN)),(∀x∈xs,∀y∈E,(x.1==y.1)=(x.2==y.2))→
  CF n F (Ob) 0 (fun _=>True,fun _=>True) (xs.map ah) [("ever",cZ E)] [] H [] H:=by
 intro rv
 induction rv with
 |nil=>
  intro _;exact CF.nil trivial _ _ (fun _ _ _=>rfl)
 |cons x xs ih=>
  intro h;exact CF.IU trivial rfl rfl trivial (AT.nm h2) (IT.val ET.name VT.lst) (zh h1 rfl rfl E (h x Rn)) (aa rfl ae) (ih fun z hz=>h z (Rm _ hz)) _ (fun _ _=>rfl) (fun _ _ _=>rfl)
theorem wQ{α β:Type}{l:List α}{b}{f:α→β}(h:∀x∈l,b x=false):(l.filter b).map f=[]:=by
 rw[WI.mpr fun x hx=>by rw[h x hx];exact R4];rfl
theorem mz(l:List RN) x:(l.map V.str).countP (fun y=>V.eqv y (.str x))=l.count x:=by
 exact aa3
theorem ET.Qe{F}{dI}{α:Type}{elt target iter}{ifs}{scope}{pos}{P}(xs:List α){vx}(b:α→Bool)(hb:∀x∈xs,b x=false)(K:ar F scope ρ dI)(hi:IT n F iter ρ H (xs.map vx) P H1)(hp:P.1 H1)(hT:P.2 target)(hz:xs.length≤Rs)
  (h:∀x∈xs,∃an,AT n ⟨dU F scope.names,F.code,false,RB⟩ target (vx x) dI H1 an H1∧eL n ⟨dU F scope.names,F.code,false,RB⟩ ifs an H1 (b x) H1∧∀m z,dI.lookup m=some z→an.lookup m=some z)
  (hs:autoParam (∀env x,Td iter env x=pure x) aI):
  ET n F (.ListComp elt [⟨target,iter,ifs,0⟩] scope pos) ρ H (.lst []) H1:=by
 have:=ET.lc (elt:=elt) (pos:=pos) xs b (fun _=> .none) K hi hp hT hz (fun x hx=>let⟨an,h1,h2,h3⟩:=h x hx;⟨an,h1,h2,(fun q=>by replace q:=(hb x hx)▸q;cases q),h3⟩) hs;rw[wQ hb] at this;exact this
theorem wR(B:Base){H0}{r}{p tag rest}{as}(P:ME p tag as rest)(R:Kf r tag as):
  XT (n+8+1+1) (ay 232) (av (ze) 0) (("piece", .str p)::oY H0.length r.aj r.b9) (r.h H0) .next (("rest", .str rest)::oY H0.length (r.open tag as).aj (r.open tag as).b9) ((r.open tag as).h H0):=by
 refine Rg fun kG=> ?_;obtain⟨c,hc,MF⟩:=P.c0;obtain⟨i,js,hi,E6,tS⟩:=P.idx;obtain⟨t,T',c',hT,ht,MG⟩:=P.tl;refine kG ?_;let T:=Sl (">"++rest) "\"";let h1:=r.hd as;let b:=H0.length;let nm:=r.nm tag as;let fr:=r.fresh as;let new:=fr.map (·.2);have aV:=OT.eq_str (n:=n+8+1+1) (H:=r.h H0) (x:=⟨#[c]⟩) (y:="/");rw[show((⟨#[c]⟩:RN)=="/")=false by
  apply aat.mpr;intro q;injection (show(⟨#[c]⟩:RN)=⟨#[47]⟩ from eq_of_beq q) with q
  exact MF (by simpa using q)] at aV
 refine XT.ite (TT.cmp (ET.uV ET.name hc) ET.str aV) (fun h=>by cases h) (fun _=> ?_);refine ag.cons
  (XT.assign (ET.tuple (ab.cons (ET.aT ET.name (GM.of Ty.str aJ.str Sd PySem.F.slot_str_index PySem.F.type_str_index) (ab.cons ET.str ab.nil) aM.builtin (CT.vG hi))
   (ab.cons (ET.call (ET.az B (jJ) jM) (ab.cons ET.name ab.nil) aM.builtin (by have:=CT.uw (n:=n+8+1+1) (H:=r.h H0) (l:=r.aj.map ah);rw[Rk] at this;exact this)) (ab.cons ET.str (ab.cons ET.str ab.nil)))) (show 4≤Rs by decide))
   (bw.one (AT.tuple (aX.cons AT.nm (aX.cons AT.nm (aX.cons AT.nm (aX.cons (AT.name (ST.cell rfl)) aX.nil))))))) ?_
 have oW:=CT.split (n:=n+8+1+1) (H:=r.h H0) (y:="\"") dc (by refine J tS ?_;have:=P.lz.1;exact gC this) (by refine J tS ?_;intro q hq;have:=P.lz.2 q hq;exact gC this);replace oW:=tS▸oW;refine ag.cons
  (XT.assign (x:= .tup [.str tag, .lst ((eV as T).map V.str)]) (ET.tuple (ab.cons (aQ E6 (ET.iM ET.name PT.none (PT.some ET.name))) (ab.cons (ET.aT (ET.iM ET.name (PT.some ET.name) PT.none) (GM.of Ty.str aJ.str Sd T2 T0) (ab.cons ET.str ab.nil) aM.builtin oW) ab.nil)) (show 2≤Rs by decide))
   (bw.one (AT.tuple (aX.cons (AT.name (ST.cell rfl)) (aX.cons AT.nm aX.nil)))) (fun _=>rfl) (fun env E=>dz E rfl)) ?_
 refine ag.cons (XT.while (XW.sub (wP B hT ht MG as ⟨r.aj,"",""⟩ R.ok R.lf P.lz.1) (aa rfl (aa rfl (aa rfl (aa rfl (aa rfl (aa rfl (aa rfl (aa rfl (aa rfl ae))))))))))) ?_;have Rc:T.length≤10000:=by
  have:(as.flatMap (fun a=>[a.key,a.v])++T).length≤10000:=P.lz.1;rw[Ro] at this;exact D6 this
 have Oc:=P.lr;let gD:Loc:=Gi b T h1 tag r.aj.length r.b9;have IV:=CT.split (n:=n+8+1+1) (H:=r.h H0) (y:=">") dc (by refine J P.sp ?_;show 2≤_;decide) (by refine J P.sp ?_;intro q hq;simp at hq;rcases hq with rfl|rfl<;>first|exact RW _|exact gC Oc);rw[P.sp] at IV;have sb:=CT.join (n:=n+8+1+1) (H:=r.h H0) P.jk (J P.jn ((ap (bD (by exact J (RC ..) rfl)) (iI (ap (ba (Ri _) Oc) dc)))));rw[P.jn] at sb;refine ag.cons (XT.assign (ET.aT (ET.aT ET.str (GM.of Ty.str aJ.str Sd WH WG) (ab.cons ET.name ab.nil) aM.builtin sb)
  (GM.of Ty.str aJ.str Sd T2 T0) (ab.cons ET.str ab.nil) aM.builtin IV) (bw.one (AT.lB (aX.cons AT.nm (aX.cons AT.nm aX.nil))))) ?_
 let kn:=cc h1.aj fun x=>x.1++":c"==tag;have yh:=U9.mpr R.nm;have Od:((h1.aj.filter fun x=>x.1++":c"==tag).map fun x=>V.str x.2)=kn.map V.str:=by simp[kn,cc]
 refine ag.cons (XT.assign (x:= .str nm) (ET.sub (ET.lc (dI:=[("tag", .str tag)]) h1.aj (fun x=>x.1++":c"==tag) (fun x=> .str x.2) (ar.of rfl (aa rfl ae)) (IT.val ET.name VT.lst) trivial trivial (gC R.lh) fun x hx=> ?_)
  (ET.unary ET.int j4.neg) Ty.lst RU.lookup (OT.eB (i:=kn.length-1) (by rw[Od,Rk];lia) (by refine J Od (J Sx (J (kZ R.nm "") ?_));rfl))) (bw.one (AT.name (ST.cell rfl)))) ?_
 ·exact⟨_,AT.two,eL.one (TT.cmp (ET.binop ET.name ET.str (OT.add_str (iI (ap (ba (R.ls x hx) (bD rfl)) dc)))) ET.name OT.eq_str),fun _=>ET.name rfl,aa rfl ae⟩
 have ef:cZ fr= .lst (cut (some r.aj.length) none (h1.aj.map ah)):=by refine J (gG ..) (aQ (Zd ..) ?_);rfl
 refine ag.cons (XT.assign (x:=cZ fr) (by refine J ef ?_;exact ET.dJ ET.name (PT.some ET.name) PT.none) bw.nm) ?_;have d5:=R.l2;have en:((fr.filter fun _=>true).map fun x=>V.str x.2)=new.map V.str:=by
  refine J (Va.mpr fun _ _=>rfl) (J RO ?_);rfl
 let cV:Loc:=("ever",cZ (r.b9++fr))::("new", .lst (new.map V.str))::("fresh",cZ fr)::("name", .str nm)::("rest", .str rest)::("front", .str "")::gD;refine ag.cons (an:=cV) (H1:=r.h H0) (XT.assign (ET.tuple (ab.cons ?_ (ab.cons (by
   show ET _ _ _ _ _ (.lst ((r.b9++fr).map ah)) _;exact J RH (ET.binop ET.name ET.name (OT.kP (by simp;exact iI (ap (ba R.le d5) dc))))) ab.nil)) (show 2≤Rs by decide))
   (bw.one (AT.tuple (aX.cons AT.nm (aX.cons (AT.name (ST.cell rfl)) aX.nil)))) (fun _=>rfl) (fun env E=>dz E rfl)) ?_
 ·exact aQ en ((ET.lc fr (fun _=>true) (fun x=> .str x.2) (ar.of rfl ae) (IT.val ET.name VT.lst) trivial trivial (gC d5) fun x _=>⟨_,AT.two,eL.nil,fun _=>ET.name rfl,ae⟩))
 have sf:∀p∈fr,Rv p.1=true∧Rv p.2=true:=fun p hp=>R.str p (RY _ (Xc hp));have DU:=CT.qt (n:=n+8+1) (H:=r.h H0) (ps:=fr) d5;rw[show b6 fr=fr from R.Qd] at DU;refine ag.cons (XT.ite (TT.bo (aL.or_false (TT.cmp ET.name ET.str OT.ne_str) (aL.or_false (TT.cmp ET.name (ET.call (ET.az B (jK) jN) (ab.cons ET.name ab.nil) aM.builtin DU) (OT.ne_self (jX sf) fun d e=>e))
  (aL.or_false (H1:=r.h H0) (TT.cmp (y:= .str h1.pair) (H2:=r.h H0) ET.name ?_ ?_) aL.or_nil)))) (fun h=>by cases h) (fun _=>ag.nil)) ?_
 ·have zj:=OT.ne_str (n:=n+8+1+1) (H:=r.h H0) (x:=h1.caller) (y:="");refine J (R.pr) ?_;have Fh:=R.lc;have h4:"\n".length=1:=rfl;by_cases zk:h1.caller=""
  ·refine J (if_pos zk) ?_;rw[show(!(h1.caller==""))=false by rw[zk];decide] at zj;exact ET.de (TT.cmp ET.name ET.str zj) (fun h=>by cases h) (fun _=>ET.str)
  ·refine J (if_neg zk) ?_;rw[show(!(h1.caller==""))=true by simp[zk]] at zj;exact ET.de (TT.cmp ET.name ET.str zj) (fun _=>ET.binop (ET.binop ET.name ET.str (OT.add_str (iI (ap (ba Fh (bD h4)) dc)))) ET.name (OT.add_str (by exact J (RC ..) (iI (ap (ba (ba Fh (bD h4)) R.ln) dc))))) (fun h=>by cases h)
 ·exact(show(!(h1.pair==h1.pair))=false by simp)▸(OT.ne_str (n:=n+8+1+1) (H:=r.h H0) (x:=h1.pair) (y:=h1.pair))
 have Oe:Rv nm=true:=R.sn.1;have Of:Rv h1.pair=true:=R.sn.2;have so:∀{x},Rv x=true→(V.str x).ok=true:=fun h=>V.nJ (V.ga h 0) dc;have Og:∀v∈new,Rv v=true:=fun v hv=>by
  obtain⟨p,hp,rfl⟩:=Rz.mp hv;exact(sf p hp).2
 let bb:RN→Bool:=fun v=> !([V.str nm, .str h1.pair].any fun y=>V.eqv y (.str v));have Qf:∀v∈new,bb v=false:=fun v hv=>by
  show(!(List.any _ _))=false;simp only[Wx,List.any_nil,(show∀a,V.eqv (.str a) (.str v)=(a==v) from fun _=>rfl),Bool.or_false];rcases R.two v hv with h|h
  ·rw[show(nm==v)=true by rw[h];exact beq_self_eq_true _];rfl
  ·rw[show(h1.pair==v)=true by rw[h];exact beq_self_eq_true _,Bool.or_true];rfl
 refine ag.cons (XT.ite (c:=false) (TT.cmp (ET.Qe (dI:=[("name", .str nm),("pair", .str h1.pair)]) new bb Qf (ar.of rfl (aa rfl (aa rfl ae))) (IT.val ET.name VT.lst) trivial trivial (gC (J (Rk ..) ((d5))))
  fun x hx=>⟨_,AT.nm,eL.one (TT.cmp ET.name (ET.tuple (ab.cons ET.name (ab.cons ET.name ab.nil)) (show 2≤Rs by decide)) (OT.vI (by simp[so Oe,so Of]) (so (Og x hx)))),aa rfl (aa rfl ae)⟩) (ET.list ab.nil) (OT.ne_nil (k:=0) rfl)) (fun h=>by cases h) (fun _=>ag.nil)) ?_
 refine ag.cons (XT.ite (c:=false) (TT.cmp (ET.cL (ar.of rfl (aa rfl ae)) (IT.val ET.name VT.lst) (zi rfl rfl fr R.one) (RW _)) (ET.list ab.nil) (OT.ne_nil (k:=0) rfl)) (fun h=>by cases h) (fun _=>ag.nil)) ?_;let x:=r.row tag as;let H1:AH:=r.h H0++[some (.list x.l)];have AE:=fun z hz=>by
  exact(mz ..)▸(CT.count (n:=n+1+1) (H:=r.h H0) (l:=new.map V.str) (x:= .str z) (by rw[Wb,SE];exact fun v hv=>so (Og v hv)) (so hz))
 have AP:=Rd.qK H0 r;refine ag.cons (XT.assign (ET.ed (xs:=x.l) (ab.cons ET.name (ab.cons (ET.aT ET.name (GM.of Ty.lst aJ.lst RJ Vf Vd) (ab.cons ET.name ab.nil) aM.builtin (AE nm Oe)) (ab.cons ET.int (ab.cons ET.int (ab.cons ET.name
  (ab.cons (ET.aT ET.name (GM.of Ty.lst aJ.lst RJ Vf Vd) (ab.cons ET.name ab.nil) aM.builtin (AE _ Of)) ab.nil)))))) (show 6≤Rs by decide)) bw.nm) ?_
 have g0:H1[b]?=some (some (.list (km b r.rows.length))):=by rw[R8 (AP▸GJ (gl (F0 dc)))];exact Rd.h0 H0 r
 let H2:AH:=H1.set b (some (.list (km b r.rows.length++[.ref (r.h H0).length])));have g1:H2[b+1]?=some (some (.list (r.way.map (jW b)))):=by
  rw[SY (F1 (Ri _)),R8 (AP▸gl (Ri _))];exact Rd.h1 H0 r
 refine ag.cons (H1:=H2) (XT.expr (ET.aT ET.name (GM.of (Ty.ai g0) (aJ.ai g0) RJ Ta R7) (ab.cons ET.name ab.nil) aM.builtin (CT.append g0 (by simp[km];exact Ay R.lr)))) ?_;have hp:=Rd.push H0 r x tag r.aj.length h1.aj (r.b9++fr);rw[←AP] at hp;have e1:H2.set (b+1) (some (.list (r.way.map (jW b)++[.tup [.ref (r.h H0).length, .str tag, .int r.aj.length]])))=(r.open tag as).h H0:=by
  refine J (hp.symm) ?_;show _=H2.set (b+1) (some (.list (r.way.map (jW b)++[.tup [.ref (b+2+r.rows.length), .str tag, .int r.aj.length]])));rw[AP]
 refine ag.cons (H1:=(r.open tag as).h H0) (XT.expr (ET.aT ET.name (GM.of (Ty.ai g1) (aJ.ai g1) RJ Ta R7)
  (ab.cons (ET.tuple (ab.cons ET.name (ab.cons ET.name (ab.cons ET.name ab.nil))) (show 3≤Rs by decide)) ab.nil) aM.builtin (by exact aQ e1 (CT.append g1 (by simp;exact Ay R.lw))))) ?_
 exact ag.sub ag.nil (aa rfl (aa rfl (aa rfl (aa rfl (aa rfl ae)))))
end
inductive Pc where
 |op (tag:RN) (as:List At) (rest:RN)
 |cl (tag rest:RN)
noncomputable def Rd.turn(r:Rd):Pc→Rd
 | .op tag as _=>r.open tag as
 | .cl _ _=>r.close
noncomputable def Pc.rest:Pc→RN
 | .op _ _ r=>r
 | .cl _ r=>r
noncomputable def Rd.step(r:Rd)(c:Pc):Rd:=(r.turn c).tick c.rest
noncomputable def zl(r:Rd)(p:RN):Pc→Prop
 | .op tag as rest=>ME p tag as rest∧Kf r tag as
 | .cl tag rest=>(∃ws i k,r.way=ws++[(i,tag,k)])∧p.cps[0]?=some 47∧Sl (TH p (some 1) none) ">"=[tag,rest]∧tag.length≤10000∧rest.length≤10000
noncomputable def mA:Rd→List (RN×Pc)→Prop
 |r,[]=>r.way=[]
 |r,(p,c)::ps=>zl r p c∧(c.rest≠""→(r.turn c).way≠[])∧(∀x∈(r.turn c).way,x.1<(r.turn c).rows.length)∧c.rest.length≤10000∧mA (r.step c) ps
theorem qT k:∀ws(r:Rd),(r.whole k ws).aj=r.aj∧(r.whole k ws).b9=r.b9∧(r.whole k ws).way=r.way∧(r.whole k ws).rows.length=r.rows.length:=by
 intro rv
 induction rv with
 |nil=>
  intro _;exact⟨rfl,rfl,rfl,rfl⟩
 |cons x ws ih=>
  intro r;refine Rg fun kG=> ?_;obtain⟨a,b,c,d⟩:=ih {r with rows:=upd r.rows x.1 fun y=>{y with whole:=y.whole+k}};exact kG (⟨a,b,c,d.trans (ia ..)⟩)
theorem mB(r:Rd) s:(r.tick s).aj=r.aj∧(r.tick s).b9=r.b9∧(r.tick s).way=r.way∧(r.tick s).rows.length=r.rows.length:=by
 delta Rd.tick
 refine bn (fun _=> ?_) fun _=> ?_
 ·exact⟨rfl,rfl,rfl,rfl⟩
 ·refine Rg fun kG=> ?_;obtain⟨a,b,c,d⟩:=qT (eE s).length r.way {r with rows:=match r.way.getLast? with|some x=>upd r.rows x.1 fun y=>{y with own:=y.own+(eE s).length}|none=>r.rows}<;>refine kG ?_;refine⟨a,b,c,d.trans ?_⟩;cases r.way.getLast? with
  |some x=>exact ia ..
  |none=>rfl
section
variable{n:Nat}{H:AH}{ρ:Loc}
theorem tT(B:Base){H0}{r}{p}{c}(h:zl r p c)(h1:c.rest≠""→(r.turn c).way≠[])(h2:∀x∈(r.turn c).way,x.1<(r.turn c).rows.length)(hz:c.rest.length≤10000):
  ag (n+8+1+1) (ay 232) (ze) (("piece", .str p)::oY H0.length r.aj r.b9) (r.h H0) .next (oY H0.length (r.step c).aj (r.step c).b9) ((r.step c).h H0):=by
 have k:=mB (r.turn c) c.rest;have hd:XT (n+8+1+1) (ay 232) (av (ze) 0) (("piece", .str p)::oY H0.length r.aj r.b9) (r.h H0) .next (("rest", .str c.rest)::oY H0.length (r.turn c).aj (r.turn c).b9) ((r.turn c).h H0):=by
  cases c with
  |op tag as rest=>exact wR B h.1 h.2
  |cl tag rest=>
   refine Rg fun kG=> ?_;obtain⟨⟨ws,i,k,hw⟩,h0,hs,hz⟩:=h;exact kG (tR B hw h0 hs hz)
 refine ag.cons hd (ag.cons ?_ ag.nil);exact J k.1 (J k.2.1 ((tQ B hz h1 h2)))
theorem wS(B:Base){H0}:∀ps r,mA r ps→∃r',r'.way=[]∧r'=(ps.map (·.2)).foldl Rd.step r∧
  XF (n+8+1+1) (ay 232) (fun _=>True,fun _=>True) (jL (av (bodyOf 232) 1)) (ze) [] (ps.map fun p=>V.str p.1) (oY H0.length r.aj r.b9) (r.h H0) .next (oY H0.length r'.aj r'.b9) (r'.h H0):=by
 intro rv
 induction rv with
 |nil=>
  intro r h;exact⟨r,h,rfl,XF.nil trivial ag.nil⟩
 |cons pq ps ih=>
  rintro r ⟨h,h1,h2,hz,hr⟩;obtain⟨r',e1,e2,ih⟩:=ih (r.step pq.2) hr;exact⟨r',e1,e2,XF.cons trivial trivial AT.nm (tT B h h1 h2 hz) ih⟩
theorem qU m:∀(l:List Rw),bJ m ((l.map Rw.l).map V.lst)=true
 |[]=>rfl
 |x::l=>by
  exact(qU m l)
theorem wT(B:Base){H0}{text}{ps}{hd}(oW:Sl text "<"=hd::ps.map (·.1))(hz:ps.length≤1000)(hl:∀q∈Sl text "<",q.length≤10000)(hr:mA ⟨[],[],[],[]⟩ ps)(hb:∀ob,some ob∈H0→ob.dG H0.length=true):
  CT (n+8+1+1+1) (.st (.ref 232)) [.str text] [] H0 (.lst (((ps.map (·.2)).foldl Rd.step ⟨[],[],[],[]⟩).rows.map fun x=> .lst x.l)) H0:=by
 refine Rg fun kG=> ?_;obtain⟨r',e1,e2,wt⟩:=wS B ps ⟨[],[],[],[]⟩ hr;refine kG (aQ e2 ?_);let r0:Rd:=⟨[],[],[],[]⟩;let b:=H0.length;have xC:=CT.split (n:=n+8+1+1) (H:=r0.h H0) (y:="<") dc (by refine J (oW ..) (J (RQ ..) (J (Rk ..) ?_));exact iI (ap (ba hz (Ri _)) dc)) (fun q hq=>by have:=hl q hq;exact gC this);rw[oW] at xC;have mC:CT (n+8+1+1+1) (.st (.ref 232)) [.str text] [] H0 (.ref b) (r'.h H0):=by
  refine CT.fn (g:= .ret (.ref b)) (an:=oY b r'.aj r'.b9) B (Dy B) (Binds.b1 B (H7)) (show [("text":RN)].Nodup by decide) rfl (ag.cons (an:=("text", .str text)::oY b [] []) (H1:=r0.h H0) (XT.sub (XT.assign (ET.tuple (ab.cons (ET.ed ab.nil) (ab.cons ?_ (ab.cons (ET.list ab.nil) (ab.cons (ET.list ab.nil) ab.nil)))) (show 4≤Rs by decide)) (bw.one (AT.tuple (aX.cons AT.nm (aX.cons AT.nm (aX.cons AT.nm (aX.cons (AT.name (ST.cell rfl)) aX.nil))))))) (aa rfl (aa rfl (aa rfl (aa rfl (aa rfl ae)))))) ?_)
  ·have:=ET.ed (n:=n+8+1+1) (F:=ay 232) (ρ:=[("text", .str text)]) (H:=H0++[some (.list [])]) (pos:=(cM 1 (gM (av (bodyOf 232) 0))).pos) ab.nil;rw[RP,Ro] at this;exact this
  have ec:(ps.map fun p=>V.str p.1)=cut (some ((1:Nat):Int)) none ((hd::ps.map (·.1)).map V.str):=by rw[gG,RD,abB,List.tail_cons,RO];rfl
  let L:List V:=ps.map fun p=>V.str p.1;refine ag.cons (XT.for (IT.val (by
   exact J (show L=_ from ec) (ET.dJ (ET.aT ET.name (GM.of Ty.str aJ.str Sd T2 T0) (ab.cons ET.str ab.nil) aM.builtin xC) (PT.some ET.int) PT.none)) VT.lst) (show XF (n+8+1+1) (ay 232) (fun _=>True,fun _=>True) (jL (av (bodyOf 232) 1)) (ze) [] L (("text", .str text)::oY b [] []) (r0.h H0) .next (oY b r'.aj r'.b9) (r'.h H0) from XF.sub wt (aa rfl (aa rfl (aa rfl (aa rfl ae)))))) ?_
  have hw:(r'.h H0)[b+1]?=some (some (.list [])):=by refine J (Rd.h1 ..) (J (e1 ..) ?_);rfl
  exact ag.ret (XT.ret (ET.de (TT.cmp ET.name (ET.list ab.nil) (OT.eq (by delta gE;simp only[hw];rfl) rfl dc dc)) (fun _=>ET.name rfl) (fun h=>by cases h)))
 have MH:∀p∈((U3 r'.rows.length).map fun i=>b+2+i).zip (r'.rows.map Rw.l),(r'.h H0)[p.1]?=some (some (.list p.2)):=fun p hp=>by
  obtain⟨k,hk⟩:=WV.mp hp;rw[YV] at hk;obtain⟨h1,h2⟩:=hk;rw[Sx] at h1 h2;obtain⟨i,hi,e⟩:=TG.mp h1;obtain⟨x,hx,e'⟩:=TG.mp h2;have:i=k:=by have:=Ru.mp hi;obtain⟨h,q⟩:=this;rw[aae] at q;exact q.symm
  cases this;exact aQ e (aQ e' ((Rd.h2 H0 r' hx)))
 have hT:H0++(r'.h H0).drop b=r'.h H0:=by rw[UC]
 have Kd:(b::(U3 r'.rows.length).map fun i=>b+2+i).Nodup:=by
  refine SG.mpr ⟨fun h=>by obtain⟨j,_,e⟩:=Rz.mp h;lia, ?_⟩;exact List.Pairwise.map _ (fun x y h e=>h (by simpa using e)) List.nodup_range
 have:=CT.rows B.mods (hT▸mC)
  (by refine J (hT ..) (J (Rd.h0 ..) ?_);simp only[km,b,RO];rfl) (Ri _) Kd (fun i hi=>by obtain⟨j,_,rfl⟩:=Rz.mp hi;exact gl (gl (Ri _))) (by simp) (J hT MH) (qU _ _) hb
 exact RO▸this
end
section
variable{A:TL}{E:Value→RT→Prop}{s:RT}
noncomputable abbrev wU(h:VN)(z TI TO a:Ud)(f:Bool):Prop:=h.get? z=some {cls:= .type "zip",dict:=none,data:= .fields #[TF a, .bool f, .bool false, .ref TI, .ref TO],slots:=#[]}
theorem n6(hz:wU s.heap z TI TO a f)(ha:s.heap.get? a=some o)(h:∀h',wU h' z TI TO a true→(∀c o,c≠z→s.heap.get? c=some o→h'.get? c=some o)→h'.objs.size=s.heap.objs.size→Q false {s with heap:=h'}):
  wpAny (model prog w) A (aaw (.ref z)) Q E s:=by
 refine bF hz rfl (x:=TF a) rfl ?_;show wpAny _ _ (loadIfAlive ((a:Int).toNat)>>=_) _ _ _;refine J (UX ..) (Rh (kdx_alive ha ?_));refine bF hz rfl (x:= .bool f) rfl ?_;cases f with
 |true=>
  exact(if_neg (R4))▸Rj (h s.heap hz (fun _ _ _ e=>e) rfl)
 |false=>
  exact J (if_pos (rfl)) ((bW hz (by simp) fun cJ uW DV=>(Rj (h cJ uW (fun c o hc e=>DV.extBut _ _ hc e) DV.1))))
theorem oZ{z TI TO a i1 i2 l1 l2 k:Ud}{f}{o}{xs ys}{x y}{Q}(d1:i1≠z)(d2:i2≠z)(Kg:i1≠i2)(e1:l1≠z)(e2:l2≠z)(e3:l2≠i1)
  (hz:wU s.heap z TI TO a f) (ha:s.heap.get? a=some o) (MI:Yk s.heap TI (.ref i1) (.ref i2)) (h1:s.heap.IsListIter i1 l1 k) (h2:s.heap.IsListIter i2 l2 k) (m9:s.heap.IsList l1 xs) (d5:s.heap.IsList l2 ys) (hx:xs[k]?=some x) (hy:ys[k]?=some y)
  (hQ:∀h',wU h' z TI TO a true→h'.IsListIter i1 l1 (k+1)→h'.IsListIter i2 l2 (k+1)→h'.get? s.heap.objs.size=some {cls:= .type "tuple",data:= .seq #[x,y]}→h'.objs.size=s.heap.objs.size+1→(∀c o,c≠z→c≠i1→c≠i2→s.heap.get? c=some o→h'.get? c=some o)→Q (some (.ref s.heap.objs.size)) {s with heap:=h'}):
  wpAny (model prog w) A (UP (.ref z)) Q E s:=by
 have hT:s.TypeIs (.ref z) "zip":=⟨_,hz,rfl⟩;refine Rh (T3 (Sa hT Ts (wpAny_call_entry Ts hT Vs ?_ (Vh _))));refine dh fun Q' E' q q'=>(bF hz rfl (x:= .bool false) rfl ?_);refine bF hz rfl (x:= .ref TI) rfl (bS MI rfl ?_);refine Rh (n6 hz ha fun cJ uW k₁ ci=> ?_);refine Rh (Rh (Rh (wpAny_holding ?_)));refine Rh (Xl (h1.at fun o e=>k₁ _ o d1 e) (m9.at fun o e=>k₁ _ o e1 e) hx fun oD g1 s2=>Rj (Rj ?_));refine Rh (Rh (wpAny_holding ?_));refine Rh (Xl ((h2.at fun o e=>k₁ _ o d2 e).extBut s2.extBut Kg.symm) ((d5.at fun o e=>k₁ _ o e2 e).extBut s2.extBut e3) hy fun ng g2 s3=>Rj (Rj (Rj ?_)));have hsz:ng.objs.size=s.heap.objs.size:=by rw[s3.1,s2.1,ci]
 refine Rh (XR (Rj (q _ _ ⟨_,rfl,Rj ?_⟩)) (hsz:=by show 2≤Rs;refine J R2 ?_;decide));refine J hsz ?_;have up:∀c o,c≠i1→c≠i2→cJ.get? c=some o→(ng.push {cls:= .type "tuple",data:= .seq #[x,y]}).get? c=some o:=fun c o c1 c2 e=>Rp _ (s3.extBut _ _ c2 (s2.extBut _ _ c1 e));refine hQ _ (up _ _ d1.symm d2.symm uW) ((g1.extBut s3.extBut Kg).at fun o e=>Rp _ e) (g2.at fun o e=>Rp _ e) ?_ (J (Se ..) (J (hsz ..) rfl)) fun c o c1 c2 c3 e=>up c o c2 c3 (k₁ c o c1 e);exact hsz▸Rx _ rfl
theorem qV{z TI TO a i1 i2 l1 l2 k:Ud}{f}{o}{xs ys}{Q}(hh:A.handled=none)(d1:i1≠z)(d2:i2≠z)(Kg:i1≠i2)(e1:l1≠z)(e2:l2≠z)(e3:l2≠i1)
  (hz:wU s.heap z TI TO a f) (ha:s.heap.get? a=some o) (MI:Yk s.heap TI (.ref i1) (.ref i2)) (h1:s.heap.IsListIter i1 l1 k) (h2:s.heap.IsListIter i2 l2 k) (m9:s.heap.IsList l1 xs) (d5:s.heap.IsList l2 ys) (ED:xs[k]?=none∨ys[k]?=none)
  (hQ:∀h',(∀c o,c≠z→c≠i1→c≠i2→s.heap.get? c=some o→h'.get? c=some o)→Q none {s with heap:=h'}):
  wpAny (model prog w) A (UP (.ref z)) Q E s:=by
 have hT:s.TypeIs (.ref z) "zip":=⟨_,hz,rfl⟩;refine Rh (T3 (Sa hT Ts (wpAny_call_entry Ts hT Vs ?_ (Vh _))));refine dh fun Q' E' q q'=>(bF hz rfl (x:= .bool false) rfl ?_);refine bF hz rfl (x:= .ref TI) rfl (bS MI rfl ?_);refine Rh (n6 hz ha fun cJ uW k₁ ci=> ?_);have Oh:=h1.at fun o e=>k₁ _ o d1 e;have IW:=m9.at fun o e=>k₁ _ o e1 e;refine Rh (Rh (Rh (wpAny_holding ?_)));cases hx:xs[k]? with
 |none=>
  refine Rh (aay hh Oh IW hx fun oD e s2 he=>q' _ _ ?_);obtain⟨oe,Gj,zj⟩:=he;exact bI ⟨oe,Gj,zj⟩ Vi (Rj (hQ oD fun c o c1 c2 _ e=>s2 _ _ c2 (k₁ c o c1 e)))
 |some x=>
  have hy:ys[k]?=none:=by rcases ED with h|h;cases hx.symm.trans h;exact h
  refine Rh (Xl Oh IW hx fun oD g1 s2=>Rj (Rj ?_));refine Rh (Rh (wpAny_holding ?_));refine Rh (aay hh ((h2.at fun o e=>k₁ _ o d2 e).extBut s2.extBut Kg.symm) ((d5.at fun o e=>k₁ _ o e2 e).extBut s2.extBut e3) hy fun ng e s3 he=>q' _ _ ?_);obtain⟨oe,Gj,zj⟩:=he;exact bI ⟨oe,Gj,zj⟩ Vi (Rj (hQ ng fun c o c1 c2 c3 e=>s3 _ _ c3 (s2.extBut _ _ c2 (k₁ c o c1 e))))
end
section
variable{A:TL}{E:Value→RT→Prop}{s:RT}
structure ZS h(z TI TO i1 i2 l1 l2 S k:Ud)(xs ys:Array Value):Prop where
 z:(Zg h z TI TO .none∧k=0)∨∃a f o,wU h z TI TO a f∧h.get? a=some o∧a≠z∧a≠i1∧a≠i2∧a≠S
 ti:Yk h TI (.ref i1) (.ref i2)
 to:∃p q,Yk h TO p q
 h1:h.IsListIter i1 l1 k
 h2:h.IsListIter i2 l2 k
 l1:h.IsList l1 xs
 l2:h.IsList l2 ys
theorem ZS.next{z TI TO i1 i2 l1 l2 S k}{xs ys}{x y}{Q}(D:Xn z TI TO i1 i2 l1 l2)(f:ZS s.heap z TI TO i1 i2 l1 l2 S k xs ys){oS}(hD:s.heap.get? S=some oS)(hx:xs[k]?=some x)(hy:ys[k]?=some y)
  (hQ:∀h',ZS h' z TI TO i1 i2 l1 l2 S (k+1) xs ys→h'.get? s.heap.objs.size=some {cls:= .type "tuple",data:= .seq #[x,y]}→h'.objs.size=s.heap.objs.size+1→(∀c o,c≠z→c≠TO→c≠i1→c≠i2→s.heap.get? c=some o→h'.get? c=some o)→Q (some (.ref s.heap.objs.size)) {s with heap:=h'}):
  wpAny (model prog w) A (UP (.ref z)) Q E s:=by
 obtain⟨p,q,pM⟩:=f.to;have lt:∀{c o},s.heap.get? c=some o→s.heap.objs.size≠c:=fun e=>Tq (RV e);have Qg:s.heap.objs.size≠i1:=by obtain⟨_,e,_⟩:=f.h1;exact lt e
 have Qh:s.heap.objs.size≠i2:=by obtain⟨_,e,_⟩:=f.h2;exact lt e
 refine Rg fun kG=> ?_;rcases f.z with⟨hz,_⟩|⟨a,b,o,hz,ha,n1,n2,n3,n4⟩<;>refine kG ?_
 ·exact wpAny_pyNext_zip_item D hz f.ti pM f.h1 f.h2 f.l1 f.l2 hx hy fun h' a1 a2 a3 a4 a5 a6 hk=>
   hQ h' ⟨.inr ⟨_,false,_,a1,a5,(by rcases f.z with⟨h,_⟩|⟨_,_,_,h,_⟩<;>exact lt h),Qg,Qh,lt hD⟩,hk _ _ D.TIz D.TITO D.TIi1 D.TIi2 f.ti,⟨_,_,a2⟩,a3,a4,f.l1.at fun o e=>hk _ o D.l1z D.l1TO D.l1i1 D.l1i2 e,f.l2.at fun o e=>hk _ o D.l2z D.l2TO D.l2i1 D.l2i2 e⟩ a5 a6 hk
 ·exact oZ D.i1z D.i2z D.i12 D.l1z D.l2z D.l2i1 hz ha f.ti f.h1 f.h2 f.l1 f.l2 hx hy fun h' a1 a3 a4 a5 a6 hk=>
   hQ h' ⟨.inr ⟨a,true,o,a1,hk _ _ n1 n2 n3 ha,n1,n2,n3,n4⟩,hk _ _ D.TIz D.TIi1 D.TIi2 f.ti,⟨_,_,hk _ _ D.TOz D.TOi1 D.TOi2 pM⟩,a3,a4,f.l1.at fun o e=>hk _ o D.l1z D.l1i1 D.l1i2 e,f.l2.at fun o e=>hk _ o D.l2z D.l2i1 D.l2i2 e⟩ a5 a6 fun c o c1 _ c3 c4 e=>hk c o c1 c3 c4 e
theorem ZS.end{z TI TO i1 i2 l1 l2 S k}{xs ys}{Q}(hh:A.handled=none)(D:Xn z TI TO i1 i2 l1 l2)(f:ZS s.heap z TI TO i1 i2 l1 l2 S k xs ys)(he:xs[k]?=none∨ys[k]?=none)
  (hQ:∀h',(∀c o,c≠z→c≠TO→c≠i1→c≠i2→s.heap.get? c=some o→h'.get? c=some o)→Q none {s with heap:=h'}):wpAny (model prog w) A (UP (.ref z)) Q E s:=by
 obtain⟨p,q,pM⟩:=f.to;refine Rg fun kG=> ?_;rcases f.z with⟨hz,_⟩|⟨a,b,o,hz,ha,n1,n2,n3,n4⟩<;>refine kG ?_
 ·exact wpAny_pyNext_zip_end hh D hz f.ti pM f.h1 f.h2 f.l1 f.l2 he hQ
 ·exact qV hh D.i1z D.i2z D.i12 D.l1z D.l2z D.l2i1 hz ha f.ti f.h1 f.h2 f.l1 f.l2 he fun h' hk=>hQ h' fun c o c1 _ c3 c4 e=>hk c o c1 c3 c4 e
theorem ZS.at{z TI TO i1 i2 l1 l2 S k}{xs ys}(f:ZS h z TI TO i1 i2 l1 l2 S k xs ys)(hS:S≠z∧S≠TI∧S≠TO∧S≠i1∧S≠i2∧S≠l1∧S≠l2)(hk:∀c o,c≠S→h.get? c=some o→h'.get? c=some o):ZS h' z TI TO i1 i2 l1 l2 S k xs ys:=by
 obtain⟨p,q,pM⟩:=f.to;refine⟨?_,hk _ _ hS.2.1.symm f.ti,⟨p,q,hk _ _ hS.2.2.1.symm pM⟩,f.h1.at fun o e=>hk _ o hS.2.2.2.1.symm e,f.h2.at fun o e=>hk _ o hS.2.2.2.2.1.symm e,f.l1.at fun o e=>hk _ o hS.2.2.2.2.2.1.symm e,f.l2.at fun o e=>hk _ o hS.2.2.2.2.2.2.symm e⟩;refine Rg fun kG=> ?_;rcases f.z with⟨hz,h0⟩|⟨a,b,o,hz,h1,n⟩<;>refine kG ?_
 ·exact .inl ⟨hk _ _ hS.1.symm hz,h0⟩
 ·exact .inr ⟨a,b,o,hk _ _ hS.1.symm hz,hk _ _ n.2.2.2 h1,n⟩
noncomputable def IX(h:VN)(lo:Ud)(k:Nat)(xs ys:Array Value)(as:List Ud):Prop:=as.Pairwise (·<·)∧∀j a,as[j]?=some a→lo≤a∧∃x y,xs[k+j]?=some x∧ys[k+j]?=some y∧h.get? a=some {cls:= .type "tuple",data:= .seq #[x,y]}
theorem BV{R}(hh:A.handled=none)(D:Xn z TI TO i1 i2 l1 l2)(hS:S≠z∧S≠TI∧S≠TO∧S≠i1∧S≠i2∧S≠l1∧S≠l2):∀(m k:Nat) s acc c,
  k+m=min xs.size ys.size→ZS s.heap z TI TO i1 i2 l1 l2 S k xs ys→s.heap.get? S=some (sq "list" acc c)→acc.length+m≤Rs→
  (∀h' as c',as.length=m→IX h' s.heap.objs.size k xs ys as→(∀b o,b≠z→b≠TO→b≠i1→b≠i2→b≠S→s.heap.get? b=some o→h'.get? b=some o)→h'.get? S=some (sq "list" (acc++as.map UR) c')→R (.ok (.ret res)) {s with heap:=h'})→
   Tt (model prog w) A (.builtin "list.extend.loop" ⟨[.ref S, .ref z,res],[]⟩) R s:=by
 intro rv
 induction rv with
 |zero=>
  intro k s acc c hm f hD _ h;refine SW UZ (J (Ss SJ _) ?_);have he:xs[k]?=none∨ys[k]?=none:=by
   rcases Yh xs.size ys.size with q|q
   ·exact .inl (UE (by lia))
   ·exact .inr (UE (by lia))
  refine Rh (f.end hh D he fun h' hk=>Rj (h h' [] c rfl ⟨.nil,fun j a e=>by simp at e⟩ (fun b o b1 b2 b3 b4 _ e=>hk b o b1 b2 b3 b4 e) ?_));exact J (Su ..) (J (RF ..) ((hk _ _ hS.1 hS.2.2.1 hS.2.2.2.1 hS.2.2.2.2.1 hD)))
 |succ m ih=>
  intro k s acc c hm f hD hz h;refine SW UZ (J (Ss SJ _) ?_);have Oi:k<xs.size:=by have:=WW xs.size ys.size;lia
  have Oj:k<ys.size:=by have:=Nat.min_le_right xs.size ys.size;lia
  refine Rh (f.next D hD (Sj Oi) (Sj Oj) fun h' f' ht hsz hk=> ?_);have sW:=hk _ _ hS.1 hS.2.2.1 hS.2.2.2.1 hS.2.2.2.2.1 hD;refine Rh (U1 sW rfl ?_ (RI▸lj hz) (J (Yw ..) (J (RI ..) ((ba (lj hz) (Ri _))))));let h2:=h'.update S (RZ (·.push (.ref s.heap.objs.size)));obtain⟨c2,sH⟩:∃c2,h2.get? S=some (sq "list" (acc++[.ref s.heap.objs.size]) c2):=by
   have:=Uw sW (·.push (.ref s.heap.objs.size));rw[(show acc.toArray.push (UR s.heap.objs.size)=(acc++[UR s.heap.objs.size]).toArray by simp)] at this;exact⟨_,this⟩
  have keep:∀b o,b≠S→h'.get? b=some o→h2.get? b=some o:=fun b o hb e=>(Sh _ _ (SK hb)).trans e;refine Rj ⟨Uj SJ _,ih (k+1) {s with heap:=h2} (acc++[.ref s.heap.objs.size]) c2 (si (io (bD hm)) (AS (lq hm))) (f'.at hS keep) sH (by simp;exact io hz) fun h3 as c3 el g k3 e3=> ?_⟩;have up:=fun b o b1 b2 b3 b4 b5 e=>k3 b o b1 b2 b3 b4 b5 (keep b o b5 e);have lt:∀{c o},s.heap.get? c=some o→s.heap.objs.size≠c:=fun e=>Tq (RV e);have g1:=fun j a e=>by have:=(g.2 j a e).1;rw[show({s with heap:=h2}:RT).heap.objs.size=_ from(hsz▸WF ..)] at this;exact this
  refine h h3 (s.heap.objs.size::as) c3 (J RQ (J el rfl)) ⟨Vo.mpr ⟨fun a ha=> ?_,g.1⟩,fun j a e=> ?_⟩ (fun b o b1 b2 b3 b4 b5 e=>up b o b1 b2 b3 b4 b5 (hk b o b1 b2 b3 b4 e)) (by rw[RP] at e3;exact e3)
  ·obtain⟨j,hj⟩:=WV.mp ha;exact Nat.lt_of_succ_le (g1 j a hj)
  ·cases j with
   |zero=>
    cases e;obtain⟨p,q,pM⟩:=f.to;refine⟨Ri _,_,_,Sj Oi,Sj Oj,up _ _ ?_ (lt pM) ?_ ?_ (Tq (RV hD)) ht⟩
    ·rcases f.z with⟨h,_⟩|⟨_,_,_,h,_⟩<;>exact lt h
    ·obtain⟨_,e,_⟩:=f.h1;exact lt e
    ·obtain⟨_,e,_⟩:=f.h2;exact lt e
   |succ j=>
    refine Rg fun kG=> ?_;obtain⟨_,x,y,e1,e2,e3⟩:=g.2 j a e;exact kG (⟨Uo (g1 j a e),x,y,by refine aQ e1 ?_;congr 1;lia,by refine aQ e2 ?_;congr 1;lia,e3⟩)
theorem zm(hT:s.TypeIs (.ref z) "zip")(h:Q true s):wpAny (model prog w) A (Xz (.ref z)) Q E s:=by
 refine bY hT rfl ?_;exact bY hT rfl (Rj h)
end
section
variable{A:TL}{E:Value→RT→Prop}{s:RT}
theorem nw(hh:A.handled=none)(D:Xn z TI TO i1 i2 l1 l2)(f:ZS s.heap z TI TO i1 i2 l1 l2 s.heap.objs.size 0 xs ys)(Qi:Zg s.heap z TI TO .none)(hz:min xs.size ys.size≤Rs)
  (hQ:∀h' as c',as.length=min xs.size ys.size→IX h' (s.heap.objs.size+1) 0 xs ys as→(∀b o,b≠z→b≠TO→b≠i1→b≠i2→s.heap.get? b=some o→h'.get? b=some o)→h'.get? s.heap.objs.size=some (sq "list" (as.map UR) c')→Q (.ref s.heap.objs.size) {s with heap:=h'}):
  wpAny (model prog w) A (call (.type "list") [.ref z]) Q E s:=by
 let S:=s.heap.objs.size;have lt:∀{c o},s.heap.get? c=some o→S≠c:=fun e=>Tq (RV e);have E0:S≠z∧S≠TI∧S≠TO∧S≠i1∧S≠i2∧S≠l1∧S≠l2:=by
  obtain⟨p,q,pM⟩:=f.to;refine⟨?_,lt f.ti,lt pM, ?_, ?_, ?_, ?_⟩
  ·rcases f.z with⟨h,_⟩|⟨_,_,_,h,_⟩<;>exact lt h
  ·obtain⟨_,e,_⟩:=f.h1;exact lt e
  ·obtain⟨_,e,_⟩:=f.h2;exact lt e
  ·obtain⟨_,e,_⟩:=f.l1;exact lt e
  ·obtain⟨_,e,_⟩:=f.l2;exact lt e
 refine callType_codes (Q₁:=fun obj ci=>obj= .ref s.heap.objs.size∧ci={s with heap:=s.heap.push {cls:= .type "list",data:= .seq #[]}}) F.called_list (F.typeCall_list_1 _) F.entry_list_init
  (code_list_new _ ⟨rfl,rfl⟩) fun obj ci cJ=> ?_
 obtain⟨rfl,rfl⟩:=cJ;have hS:(s.heap.push {cls:= .type "list",data:= .seq #[]}).get? S=some (sq "list" [] 0):=Rx _ rfl;refine⟨⟨_,hS,rfl⟩,F.args_list_init_2 _ _, ?_⟩;refine Rh (bS hS rfl (Rj ?_));show wpAny _ A.in1.in1 (updateSeq S (fun _=>#[])>>=fun _=>letGo (#[]:Array Value).toList.reverse>>=fun _=>Builtin.List.listExtendWith (.ref S) (.ref z) .none) _ _ _;refine Rh (VD hS rfl ?_);have qr:=Sn (RZ (fun _=>(#[]:Array Value))) hS rfl;refine bO ?_;let h1:=(s.heap.push {cls:= .type "list",data:= .seq #[]}).update S (RZ (fun _=>(#[]:Array Value)));have k1:∀b o,b≠S→s.heap.get? b=some o→h1.get? b=some o:=fun b o hb e=>(Sh _ _ (SK hb)).trans (Rp _ e);have f1:=f.at E0 k1;have Ok:({s with heap:=h1}:RT).TypeIs (.ref z) "zip":=by rcases f1.z with⟨h,_⟩|⟨_,_,_,h,_⟩<;>exact⟨_,h,rfl⟩
 refine bT Ok ?_;simp only[(show UU (.ref S) (.ref z)=false by simp[UU,E0.1])];refine Rh (YZ (k1 _ _ E0.1.symm Qi) ?_);refine Rh (wpAny_holding (zm Ok ?_));refine bR (Rh ?_);refine Rh (VD qr rfl ?_);have DW:=Sn (RZ (·.push TJ)) qr rfl;refine VD DW rfl ?_;let h2:=(h1.update S (RZ (·.push TJ))).update S (RZ (·.pop));have k2:∀b o,b≠S→h1.get? b=some o→h2.get? b=some o:=fun b o hb e=>(Sh _ _ (SK hb)).trans ((Sh _ _ (SK hb)).trans e);have yi:h2.objs.size=s.heap.objs.size+1:=by
  refine J (WF ..) (J (WF ..) ?_);rw[WF,Se]
 refine Rj ⟨Uj SJ _,BV (show A.in1.handled=none from hh) D E0 (min xs.size ys.size) 0 {s with heap:=h2} [] _ (Ur _) (f1.at E0 k2) (Sn (RZ (·.pop)) DW rfl) (by simpa using hz) fun h3 as c' el g k3 e3=>⟨rfl, ?_⟩⟩;rw[show({s with heap:=h2}:RT).heap.objs.size=_ from yi] at g;exact hQ h3 as c' el g (fun b o b1 b2 b3 b4 e=>k3 b o b1 b2 b3 b4 (lt e).symm (k2 b o (lt e).symm (k1 b o (lt e).symm e))) e3
end
noncomputable def o0:List V→List V→List V
 |x::xs,y::ys=> .tup [x,y]::o0 xs ys
 |_,_=>[]
theorem qW xs:∀ys,(o0 xs ys).length=min xs.length ys.length:=by
 induction xs with
 |nil=>intro ys;exact(Nat.zero_min _).symm
 |cons x xs ih=>
  intro ys;cases ys with
  |nil=>rfl
  |cons y ys=>
   show(o0 xs ys).length+1=_;rw[ih,RQ,RQ,Nat.succ_min_succ]
section
variable{n:Nat}{F:Fx}{ρ:Loc}{H H1 H2 H3:AH}
theorem zn:∀(xs ys:List V)(us vs:List Value)(as:List Ud) W,ao W H s→ak W xs us→ak W ys vs→as.length=(o0 xs ys).length→as.Pairwise (·<·)→(∀a∈as,jD W a)→
  (∀(j:Nat) a,as[j]?=some a→∃u v,us[j]?=some u∧vs[j]?=some v∧s.heap.get? a=some (sq "tuple" [u,v] 0))→
  ∃W',ao W' H s∧Gr (fun b=>b∈as) W s W' s∧ak W' (o0 xs ys) (as.map UR):=by
 intro xs
 induction xs with
 |nil=>
  intro ys us vs as W S _ _ hl _ _ _;have:=RX.mp hl;subst this;exact⟨W,S,Gr.refl ..,rfl⟩
 |cons x xs ih=>
  intro ys us vs as W S r1 r2 hl hp hf ht;cases ys with
  |nil=>
   have:=RX.mp hl;subst this;exact⟨W,S,Gr.refl ..,rfl⟩
  |cons y ys=>
   obtain⟨u,us,rfl,ru,r1⟩:=r1;obtain⟨v,vs,rfl,rv,r2⟩:=r2;cases as with
   |nil=>cases hl
   |cons a as=>
    obtain⟨u',v',e1,e2,ho⟩:=ht 0 a rfl;cases e1;cases e2;obtain⟨S1,G1,l1⟩:=S.adopt (hf a Rn) ho;have aV:∀b∈as,b≠a:=fun b hb e=>by subst e;exact absurd ((Vo.mp hp).1 b hb) (SQ _)
    obtain⟨W',S2,G2,r3⟩:=ih ys us vs as _ S1 (ak.mono l1 r1) (ak.mono l1 r2) (V6 hl) (Vo.mp hp).2 (fun b hb=>⟨(hf b (Rm _ hb)).1,by
     show(if b=a then _ else W.I b)=none;exact J (if_neg (aV b hb)) ((hf b (Rm _ hb)).2)⟩) (fun j b e=>ht (j+1) b e)
    exact⟨W',S2,(G1.weaken fun b e=>by cases e;simp).trans (G2.weaken fun b e=>Rm _ e), .ref a,as.map UR,rfl,⟨a,_,0,rfl,G2.le.2.1 _ _ (Wd.al ..),⟨_,_,rfl,(ru.mono l1).mono G2.le,_,_,rfl,(rv.mono l1).mono G2.le,rfl⟩,by refine J R2 ?_;simp⟩,r3⟩
theorem BW{W1}{env}{Q}{fz}{args}{p1}{xs ys}(hz:ET n F fz ρ H (.st (.type "zip")) H)(ha:ab n F p1 args ρ H [.lst xs, .lst ys] H)(R:aC A n)(S1:ao W1 H s1)(E:aA F env)(C6:cR W1 ρ env s1.heap)
  (vE:∀env,eval (.Call fz args [] p1) env=(do UT p1 (←eval fz env) [] (backTo p1 (starEach args env)) [])) (hp:∀env,(backTo p1 (starEach args env)).any (·.1)=false)
  (q:∀(us vs:List Value)(z TI TO i1 i2 l1 l2:Ud) h' s2 W2,Gr ct W1 s1 W2 s2→ao W2 H s2→ak W2 xs us→ak W2 ys vs→us.length≤Rs→
   Xn z TI TO i1 i2 l1 l2→Zg h' z TI TO .none→ZS h' z TI TO i1 i2 l1 l2 h'.objs.size 0 us.toArray vs.toArray→(∀b o,s2.heap.get? b=some o→h'.get? b=some o)→s2.heap.objs.size≤h'.objs.size→(∀b,b=z∨b=TO∨b=i1∨b=i2→s2.heap.get? b=RB)→Q (.ref z) {s2 with heap:=h'}):
  wpAny (model prog w) A (eval (.Call fz args [] p1) env) Q aY s1:=by
 refine J (vE env) (Rh (hz.run A s1 W1 env R S1 E C6 _ fun fv Lw Lv IY MJ GP=> ?_));cases GP;refine UV (by simp[hp env]) (fun _ h=>h) (cw ha R MJ E (C6.step IY) (hp env) fun ws s2 W2 G2 S2 r2=>⟨⟨.machine, .inr (.inl rfl),Up rfl⟩, ?_⟩);obtain⟨v1,v2,rfl,⟨l1,us,m1,rfl,Dh,ru,IZ⟩,⟨l2,vs,m2,rfl,AG,rv,_⟩⟩:=r2.two;have m9:=aB S2 Dh;have d5:=aB S2 AG;have a1:l1<s2.heap.objs.size:=by obtain⟨_,e,_⟩:=m9;exact RV e
 have a2:l2<s2.heap.objs.size:=by obtain⟨_,e,_⟩:=d5;exact RV e
 refine call_zip_2 m9 d5 fun h' f1 f2 f3 f4 f5 hsz hk=> ?_;exact q us vs _ _ _ _ _ l1 l2 h' s2 W2 (IY.trans G2) S2 ru rv (ru.length▸IZ) (zipApart_new a1 a2) f1 ⟨.inl ⟨f1,rfl⟩,f2,⟨_,_,f3⟩,f4,f5,m9.at fun o e=>hk _ o e,d5.at fun o e=>hk _ o e⟩ hk (lj (lq hsz))
  fun b hb=>(fun b hb=>S9 hb) b (by rcases hb with rfl|rfl|rfl|rfl<;>lia)
theorem ET.BX{p1 p2}{xs ys}(hl:ET n F fl ρ H (.st (.type "list")) H)(hz:ET n F fz ρ H (.st (.type "zip")) H)(ha:ab n F p1 args ρ H [.lst xs, .lst ys] H)
  (he:autoParam (∀env,eval (.Call fl [.Call fz args [] p1] [] p2) env=(do UT p2 (←eval fl env) [] (backTo p2 (starEach [.Call fz args [] p1] env)) [])) aI)
  (vE:autoParam (∀env,eval (.Call fz args [] p1) env=(do UT p1 (←eval fz env) [] (backTo p1 (starEach args env)) [])) aI)
  (hp:autoParam (∀env,(backTo p1 (starEach args env)).any (·.1)=false) aI):ET n F (.Call fl [.Call fz args [] p1] [] p2) ρ H (.lst (o0 xs ys)) H:=by
 refine .mk fun A s W env R S E fr Q q=>(J (he env) ?_);refine Rh (hl.run A s W env R S E fr _ fun fv s1 W1 G1 S1 r1=> ?_);cases r1;refine UV rfl (fun _ h=>h) (WZ (W9 (BW hz ha R S1 E (fr.step G1) vE hp fun us vs z TI TO i1 i2 l1 l2 h' s2 W2 G2 S2 ru rv IZ D fz fs hk hle hn=>Zt ⟨⟨.machine, .inr (.inl rfl),Up rfl⟩, ?_⟩) (cK rfl env)));refine nw R.handled D fs fz (Rq (WW ..) IZ) fun h3 as c' el g k3 e3=> ?_;have keep:∀b o,s2.heap.get? b=some o→h3.get? b=some o:=fun b o e=>by
  have nb:∀c,s2.heap.get? c=RB→b≠c:=fun c q r=>by cases q▸r▸e
  exact k3 b o (nb _ (hn _ (.inl rfl))) (nb _ (hn _ (.inr (.inl rfl)))) (nb _ (hn _ (.inr (.inr (.inl rfl))))) (nb _ (hn _ (.inr (.inr (.inr rfl))))) (hk b o e)
 obtain⟨S3,G3⟩:=S2.but (s':={s2 with heap:=h3}) (Y:=ct) (fun b o _ e=>keep b o e) (fun _ y=>y.elim) rfl rfl (Ri _);have fresh:∀b,h'.objs.size≤b→b∉W2.φ∧W2.I b=RB:=fun b hb=>S2.fresh (S9 (Rq hle hb));have pr:∀j a,as[j]?=some a→∃u v,us[j]?=some u∧vs[j]?=some v∧h3.get? a=some (sq "tuple" [u,v] 0):=fun j a e=>by
  refine Rg fun kG=> ?_;obtain⟨_,x,y,e1,e2,e3⟩:=g.2 j a e;refine kG ?_;rw[Ur,Sm] at e1 e2;exact⟨x,y,e1,e2,e3⟩
 have lo:∀a∈as,h'.objs.size+1≤a:=fun a ha=>by obtain⟨j,e⟩:=WV.mp ha;exact(g.2 j a e).1
 obtain⟨W4,S4,G4,r4⟩:=zn xs ys us vs as W2 S3 ru rv (J el (J (show min us.toArray.size vs.toArray.size=(o0 xs ys).length by rw[qW,RI,RI,ru.length,rv.length]) rfl)) g.1 (fun a ha=>fresh a (Uo (lo a ha))) pr;have f4:h'.objs.size∉W4.φ∧W4.I h'.objs.size=RB:=by
  have nn:h3.get? h'.objs.size≠RB:=e3▸nofun;have na:h'.objs.size∉as:=fun m=>absurd (lo _ m) (len (Ri _));have f0:=fresh _ (Ri _);refine⟨fun m=> ?_, ?_⟩
  ·rcases G4.cI _ m with q|q|q
   ·exact f0.1 q
   ·exact nn q
   ·exact na q
  ·cases e:W4.I h'.objs.size with
   |none=>rfl
   |some o=>
    rcases G4.gt _ o e with q|q|q|q
    ·cases f0.2.symm.trans q
    ·exact absurd q f0.1
    ·exact absurd q nn
    ·exact absurd q na
 obtain⟨S5,G5,l5⟩:=S4.adopt f4 e3;refine q _ _ _ ?_ S5 ⟨_,_,c',rfl,Wd.al ..,ak.mono l5 r4,by refine J (qW ..) ?_;exact Rq (WW ..) (ru.length▸IZ)⟩;have dead:∀b,h'.objs.size≤b→s2.heap.get? b=RB:=fun b hb=>S9 (Rq hle hb);exact(G1.trans G2).trans ((G3.base G4 fun x hx h=>absurd (dead x (Uo (lo x hx))) h).base G5 fun x hx h=>by subst hx;exact absurd (dead _ (Ri _)) h)
end
theorem n7:∀l:List RN,eg (l.map V.str)=some (l.map ZV)
 |[]=>rfl
 |x::l=>by refine J (RD ..) (J (eP ..) (J (n7 l) ?_));rfl
theorem mD:∀l:List (RN×RN),eg (l.map ah)=some (l.map fun p=>Zb [.str p.1, .str p.2])
 |[]=>rfl
 |x::l=>by refine J (RD ..) (J (eP ..) (J (mD l) ?_));rfl
theorem iQ{α:Type}[BEq α] f(h:∀a b,Uq (f a) (f b)=(a==b)):∀l m:List α,aaY (l.map f) (m.map f)=(l==m)
 |[],[]=>rfl
 |[],_::_=>rfl
 |_::_,[]=>rfl
 |a::l,b::m=>by
  show(Uq (f a) (f b)&&aaY (l.map f) (m.map f))=((a::l)==(b::m));refine J (h ..) (J (iQ f h l m) ?_);rfl
theorem zo(l m:List RN):V.eqv (.lst (l.map V.str)) (.lst (m.map V.str))=(l==m):=by
 have e (l:List RN):(V.lst (l.map V.str)).data=some (.list (l.map ZV)):=congrArg (ZW Zy) (n7 l);unfold V.eqv;exact J (e ..) (J (e ..) ((iQ ZV (fun _ _=>rfl) l m)))
theorem mE(p q:RN×RN):V.eqv (ah p) (ah q)=(p==q):=by
 show(p.1==q.1&&(p.2==q.2&&true))=(p.1==q.1&&p.2==q.2);rw[Ze]
theorem wW(l m:List (RN×RN)):V.eqv (.lst (l.map ah)) (.lst (m.map ah))=(l==m):=by
 have e (l:List (RN×RN)):(V.lst (l.map ah)).data=some (.list (l.map fun p=>Zb [.str p.1, .str p.2])):=congrArg (ZW Zy) (mD l);unfold V.eqv;exact J (e ..) (J (e ..) ((iQ (fun p:RN×RN=>Zb [.str p.1, .str p.2]) (fun p q=>mE p q) l m)))
noncomputable def wV(w:List RN):V:= .lst (w.map V.str)
noncomputable def bQ(w:List RN):RN:=w.getLast?.getD ""
noncomputable def ej(w:List RN):RN:=bQ w.dropLast
noncomputable def steps(w:List RN):List (RN×RN):=w.zip w.tail
structure o8 w:Prop where
 ne:w≠[]
 len:w.length≤100
 ok:∀x∈w,Rv x=true
theorem so(h:Rv x=true):(V.str x).ok=true:=V.nJ (V.ga h 0) dc
theorem gT{l:List RN}(h:∀x∈l,Rv x=true):(l.map V.str).all V.ok=true:=by rw[Wb,SE];exact fun x hx=>so (h x hx)
theorem uX{l:List RN}(h:∀x∈l,Rv x=true):(V.lst (l.map V.str)).ok=true:=V.nJ (V.kN (by rw[Wb,SE];exact fun x hx=>V.ga (h x hx) 0)) dc
theorem o9(h:Rv p.1=true∧Rv p.2=true):(ah p).ok=true:=V.nJ (n5 h) dc
theorem n8{l:List (RN×RN)}(h:∀p∈l,Rv p.1=true∧Rv p.2=true):(l.map ah).all V.ok=true:=by rw[Wb,SE];exact fun x hx=>o9 (h x hx)
theorem qX{w}(h:∀x∈w,Rv x=true):∀p∈steps w,Rv p.1=true∧Rv p.2=true:=fun p hp=>by
 have:=aaZ hp;exact⟨h _ this.1,h _ (List.mem_of_mem_tail this.2)⟩
theorem n9:∀w v:List RN,o0 (w.map V.str) (v.map V.str)=(w.zip v).map ah
 |[],_=>rfl
 |_::_,[]=>rfl
 |a::w,b::v=>by show V.tup _::o0 (w.map V.str) (v.map V.str)=_;exact(n9 w v)▸rfl
theorem uY l(k:Nat)(hk:k≠0):cut (some (-k)) none l=l.drop (l.length-k):=by
 unfold cut Yj;rw[XY,XX,if_pos (Int.neg_neg_of_pos (VL.mpr (aar hk))),GD,Tc (by rw[VV];exact Ri _)]
section
variable{n:Nat}{F:Fx}{ρ:Loc}{H:AH}
theorem ET.last{kk}{x}(h:ET n F e ρ H (wV x) H)(hx:x≠[]):ET n F (.Subscript e (.UnaryOp .USub (.Constant (.int 1) kk p1) p2) p3) ρ H (.str (bQ x)) H:=by
 refine ET.sub h (ET.unary ET.int j4.neg) Ty.lst RU.lookup (OT.eB ?_ (by refine J Sx (J (kZ hx "") ?_);rfl));refine J (Rk ..) (xF (k:=1) (U9.mpr hx))
theorem ET.prev{kk}{x}(h:ET n F e ρ H (wV x) H)(hx:1<x.length):ET n F (.Subscript e (.UnaryOp .USub (.Constant (.int 2) kk p1) p2) p3) ρ H (.str (ej x)) H:=by
 refine ET.sub h (ET.unary ET.int j4.neg) Ty.lst RU.lookup (OT.eB (i:=x.length-2) ?_ ?_)
 ·exact J (Rk ..) (xF (k:=2) hx)
 ·have h1:x.dropLast≠[]:=fun q=>by have:=congrArg Tm q;simp at this;omega
  have:=kZ h1 "";rw[V1,List.getElem?_dropLast,if_pos (GJ (bD (JM (M8 (Nf hx)))))] at this;refine J Sx (J (show x.length-2=x.length-1-1 by exact rfl) (J this ?_));rfl
theorem OT.BY{l m:List RN}(hl:∀x∈l,Rv x=true)(hm:∀x∈m,Rv x=true):OT (n+8) (Sv .Eq) (.lst (l.map V.str)) (.lst (m.map V.str)) H (.bool (l==m)) H:=by
 exact aQ (zo ..) ((OT.Es (uX hl) (uX hm) (fun _ e=>e) (fun _ e=>e)))
theorem OT.zp{l m:List (RN×RN)}(hl:∀p∈l,Rv p.1=true∧Rv p.2=true)(hm:∀p∈m,Rv p.1=true∧Rv p.2=true):OT (n+8) (Sv .Eq) (.lst (l.map ah)) (.lst (m.map ah)) H (.bool (l==m)) H:=by
 exact aQ (wW ..) ((OT.Es (jX hl) (jX hm) (fun _ e=>e) (fun _ e=>e)))
theorem CT.wX{l:List RN}{x}(hl:∀x∈l,Rv x=true)(hx:Rv x=true):CT (n+8) (.st (.builtin "list.count")) [.lst (l.map V.str), .str x] [] H (.int (l.count x:Nat)) H:=by
 exact aQ (mz ..) ((CT.count (gT hl) (so hx)))
theorem CT.tU{l:List (RN×RN)}{x}(hl:∀p∈l,Rv p.1=true∧Rv p.2=true)(hx:Rv x.1=true∧Rv x.2=true):CT (n+8) (.st (.builtin "list.count")) [.lst (l.map ah),ah x] [] H (.int (l.count x:Nat)) H:=by
 exact(show l.count x=(l.map ah).countP fun y=>V.eqv y (ah x) by exact J aa3 ((congrFun (congrArg List.countP (funext fun p=>(mE p x).symm)) l)))▸CT.count (n8 hl) (o9 hx)
theorem any_beq{α:Type}[BEq α][LawfulBEq α](l:List α) x:(l.any fun y=>y==x)=l.contains x:=by
 induction l with
 |nil=>rfl
 |cons a l ih=>rw[Wx,aai,ih,show(a==x)=(x==a) from BEq.comm]
theorem OT.BZ{l:List RN}{x}(hl:∀x∈l,Rv x=true)(hx:Rv x=true):OT (n+8) (Sv .In) (.str x) (.lst (l.map V.str)) H (.bool (l.contains x)) H:=by
 rw[←any_beq,show(l.any fun y=>y==x)=(l.map V.str).any fun y=>V.eqv y (.str x) by rw[WN];rfl];exact OT.xN (gT hl) (so hx)
theorem OT.zq{l:List (RN×RN)}{x}(hl:∀p∈l,Rv p.1=true∧Rv p.2=true)(hx:Rv x.1=true∧Rv x.2=true):OT (n+8) (Sv .In) (ah x) (.lst (l.map ah)) H (.bool (l.contains x)) H:=by
 rw[←any_beq,show(l.any fun y=>y==x)=(l.map ah).any fun y=>V.eqv y (ah x) by rw[WN];exact congrFun (congrArg List.any rfl) _|>.trans (by congr 1;funext p;exact(mE p x).symm)];exact OT.xN (n8 hl) (o9 hx)
theorem ET.len{xs}{k}{H1}(B:Base)(h:ET n F e ρ H (.lst xs) H1)(hk:xs.length=k){pl}(hn:autoParam (F.names.lookup ("len":RN)=some .globalImplicit) aK)(he:autoParam (isStar e=false) aI)
  (hp:autoParam (∀env,(backTo p (starEach [e] env)).any (·.1)=false) aI):ET n F (.Call (.Name "len" pl) [e] [] p) ρ H (.int k) H1:=by
 subst hk;exact ET.call (ET.az B (jJ) jM hn) (ab.cons h ab.nil he) aM.builtin CT.uw (hp:=hp)
end
noncomputable def aw(pre:List RN):List RN→List RN
 |[]=>[]
 |x::xs=>if pre.contains x then aw (pre++[x]) xs else x::aw (pre++[x]) xs
theorem ge:aw pre (x::xs)=if pre.contains x then aw (pre++[x]) xs else x::aw (pre++[x]) xs:=rfl
theorem mF:∀(l pre:List RN),aF (pre.map V.str) (l.map V.str)=(aw pre l).map V.str:=by
 intro rv
 induction rv with
 |nil=>
  intro _;exact rfl
 |cons x l ih=>
  intro pre;have ih:=ih (pre++[x]);rw[RH,SP] at ih;have e:((pre.map V.str).any fun y=>V.eqv y (.str x))=pre.contains x:=by refine J (WN ..) (aQ (any_beq ..) ?_);rfl
  rw[RD,cT,ge,e,ih];split<;>rfl
noncomputable def zr(w:List RN):V:= .tup [wV w, .lst ((steps w).map ah)]
structure DC where
 caller:RN
 n:Nat
 once:Nat
 own:Nat
 whole:Nat
noncomputable def gf(c m:RN)(w:List RN):Bool:=w.drop (w.length-2)==[c,m]
noncomputable def mG(p:RN×RN)(l:List (RN×RN)):Bool:=(((l.count p:Nat):Int)==1)
noncomputable def mH(bC spent:List (List RN))(m c:RN):DC:=⟨c,(bC.filter (gf c m)).length,((bC.filter (gf c m)).filter fun w=>mG (c,m) (steps w)).length,
 (spent.filter fun w=>(steps w).drop ((steps w).length-1)==[(c,m)]).length,(spent.filter fun w=>(steps w).contains (c,m)).length⟩
noncomputable def four(a b c d:Nat):V:= .tup [.int a, .int b, .int c, .int d]
noncomputable def se(plain:Bool)(d:DC):V:= .tup [.str d.caller,if plain then .int d.n else four d.n d.once d.own d.whole]
noncomputable def dB:List Vy:=gc (av (bodyOf 247) 1)
noncomputable def cB:List Vy:=gc (av (dB) 1)
noncomputable abbrev I0(b c:Nat)(bC spent:List (List RN))(calls:V)(m:RN)(plain:Bool):Loc:=[("callers", .ref c),("mine", .lst (bC.map wV)),("name", .str m),("spent", .lst (spent.map zr)),("plain", .bool plain),("due", .ref b),("calls",calls)]
theorem fM{H:AH}{c}{x}(h:H[c]?=some x):H.set c x=H:=by
 refine X0 fun j=>(J XZ ?_);refine bn (fun _=> ?_) fun _=> ?_
 ·rename_i e;subst e;refine J h ?_;simp[(Ru.mp h).1]
 ·rfl
theorem set_set{H:AH}{c}{x y}:(H.set c x).set c y=H.set c y:=List.set_set ..
noncomputable abbrev Qj(e:Tk):Tk:=nu e
section
variable{n:Nat}{F:Fx}{ρ dI:Loc}{H H1:AH}
theorem XT.lc{α:Type}{elt target iter}{ifs}{scope}{pos iJ py}{nm}{P}(xs:List α){vx} b y(K:ar F scope ρ dI)(hi:IT n F iter ρ H (xs.map vx) P H1)(hp:P.1 H1)(hT:P.2 target)(hz:xs.length≤Rs)
  (h:∀x∈xs,∃an,AT n ⟨dU F scope.names,F.code,false,RB⟩ target (vx x) dI H1 an H1∧eL n ⟨dU F scope.names,F.code,false,RB⟩ ifs an H1 (b x) H1∧(b x=true→ET n ⟨dU F scope.names,F.code,false,RB⟩ elt an H1 (y x) H1)∧∀m z,dI.lookup m=some z→an.lookup m=some z)
  (fQ:autoParam (F.names.lookup nm=some .local) aK)
  (hsw:∀env,aA F env→Xh (.ListComp elt [⟨target,iter,ifs,0⟩] scope pos) (some (.Name nm py)) iJ.line env=pure true)
  (hs:autoParam (∀env x,Td iter env x=pure x) aI):
  XT n F (.Assign [.Name nm py] (.ListComp elt [⟨target,iter,ifs,0⟩] scope pos) iJ) ρ H .next ((nm, .lst ((xs.filter b).map y))::ρ) H1:=by
 exact XT.cL K hi (CF.IN hp hT xs [] h (by simpa using hz)) (J (Rk ..) (Rq (SR ..) hz)) (ST.local fQ) hsw hs
theorem ET.I1(B:Base){e1 e2}{p1 p2 p3 p4 p5}{kk}{x}(h1:ET n F e1 ρ H (wV x) H)(h2:ET n F e2 ρ H (wV x) H)(hl:autoParam (F.names.lookup ("list":RN)=some .globalImplicit) aK)(hz:autoParam (F.names.lookup ("zip":RN)=some .globalImplicit) aK)
  (s1:autoParam (isStar e1=false) aI) {pl pz}
  (hp:autoParam (∀env,(backTo p1 (starEach [e1, .Subscript e2 (.Slice (some (.Constant (.int 1) kk p3)) RB RB p4) p5] env)).any (·.1)=false) aI):
  ET n F (.Call (.Name "list" pl) [.Call (.Name "zip" pz) [e1, .Subscript e2 (.Slice (some (.Constant (.int 1) kk p3)) RB RB p4) p5] [] p1] [] p2) ρ H (.lst ((steps x).map ah)) H:=by
 exact(n9 ..)▸(show cut (some 1) RB (x.map V.str)=x.tail.map V.str by exact J (show 1=((1:Nat):Int) from rfl) (J (gG ..) (J (abB ..) (J (List.map_tail ..) rfl))))▸(ET.BX (p2:=p2) (ET.az (pos:=pl) B (uM) uO hl) (ET.az (pos:=pz) B (yK) yN hz) (ab.cons h1 (ab.cons (ET.dJ h2 (PT.some (ET.int)) PT.none) ab.nil) s1) (hp:=hp))
theorem qY(B:Base){b c}{bC spent}{calls}{m cl}{plain}{acc}(hm:∀x∈bC,o8 x)(hs:∀x∈spent,o8 x)(lm:bC.length≤1000)(ls:spent.length≤1000)(om:Rv m=true)(oc:Rv cl=true)(hc:H[c]?=some (some (.list acc)))(hz:acc.length<1000):
  ag (n+8+1) (ay 247) (cB) (("caller", .str cl)::I0 b c bC spent calls m plain) H .next (I0 b c bC spent calls m plain) (H.set c (some (.list (acc++[se plain (mH bC spent m cl)])))):=by
 let gD:Loc:=("caller", .str cl)::I0 b c bC spent calls m plain;let an:Loc:=("step",ah (cl,m))::gD;have h2:∀x∈[cl,m],Rv x=true:=fun x hx=>by simp at hx;rcases hx with rfl|rfl<;>assumption
 refine ag.cons (an:=an) (XT.assign (ET.tuple (ab.cons ET.name (ab.cons ET.name ab.nil)) (show 2≤Rs by decide)) (bw.one (AT.name (ST.cell rfl))) (fun _=>rfl) (fun env E=>dz E rfl)) ?_;let MK:=(bC.filter (gf cl m)).map fun w=>V.lst ((steps w).map ah);refine ag.cons (XT.lc (hsw:=fun _ E=>kX E kr kr kr) (dI:=[("caller", .str cl),("name", .str m)]) bC (gf cl m) (fun w=>V.lst ((steps w).map ah)) (ar.of rfl (aa rfl (aa rfl ae))) (IT.val ET.name VT.lst) trivial trivial (gC lm)
  fun x hx=>⟨_,AT.nm,eL.one (TT.cmp (ET.dJ ET.name (PT.some (ET.unary ET.int j4.neg)) PT.none) (ET.list (ab.cons ET.name (ab.cons ET.name ab.nil)) (show 2≤Rs by decide)) ?_),fun _=>ET.I1 B ET.name ET.name,aa rfl (aa rfl ae)⟩) ?_
 ·have:=OT.BY (n:=n+1) (H:=H) (l:=x.drop (x.length-2)) (fun y hy=>(hm x hx).ok y (Xc hy)) h2;rw[Zd] at this;exact J (show(-2:Int)=-(2:Int) from rfl) (J (uY _ _ dc) (J (Rk ..) ((this))))
 let cf:=bC.filter (gf cl m);let cV:Loc:=("came", .lst MK)::an;have op:Rv (cl,m).1=true∧Rv (cl,m).2=true:=⟨oc,om⟩;have Fi:=fun x hx=>qX (hs x hx).ok;let d:=mH bC spent m cl;refine ag.cons (XT.assign (x:= .int d.once) (ET.len B (ET.lc (dI:=[("step",ah (cl,m))]) cf (fun w=>mG (cl,m) (steps w)) (fun w=>V.lst ((steps w).map ah))
   (ar.of rfl (aa rfl ae)) (IT.val ET.name VT.lst) trivial trivial (gC (Rq (SR ..) lm)) fun x hx=>⟨_,AT.nm,eL.one (TT.cmp (ET.aT ET.name (GM.of Ty.lst aJ.lst RJ Vf Vd) (ab.cons ET.name ab.nil) aM.builtin (CT.tU (qX (hm x ((fun x hx=>(Sk.mp hx).1) x hx)).ok) op)) ET.int OT.eq_int),fun _=>ET.name rfl,aa rfl ae⟩)
   (J (Rk ..) rfl)) bw.nm) ?_
 let hU:Loc:=("once", .int d.once)::cV;refine ag.cons (XT.assign (x:= .int d.own) (ET.len B (ET.lc (dI:=[("step",ah (cl,m))]) spent (vx:=zr) (fun w=>(steps w).drop ((steps w).length-1)==[(cl,m)]) (fun w=>V.lst ((steps w).map ah))
   (ar.of rfl (aa rfl ae)) (IT.val ET.name VT.lst) trivial trivial (gC ls) fun x hx=>⟨_,AT.two,eL.one (TT.cmp (ET.dJ ET.name (PT.some (ET.unary ET.int j4.neg)) PT.none) (ET.list (ab.cons ET.name ab.nil) (show 1≤Rs by decide)) ?_),fun _=>ET.name rfl,aa rfl ae⟩)
   (J (Rk ..) rfl)) bw.nm) ?_
 ·have:=OT.zp (n:=n+1) (H:=H) (l:=(steps x).drop ((steps x).length-1)) (fun y hy=>Fi x hx y (Xc hy)) (fun y hy=>by exact(Rr.mp hy)▸op);rw[Zd] at this;exact J (show(-1:Int)=-(1:Int) from rfl) (J (uY _ _ dc) (J (Rk ..) ((this))))
 let Gk:Loc:=("own", .int d.own)::hU;refine ag.cons (an:=("whole", .int d.whole)::Gk) (XT.assign (ET.len B (ET.lc (dI:=[("step",ah (cl,m))]) spent (vx:=zr) (fun w=>(steps w).contains (cl,m)) (fun w=>V.lst ((steps w).map ah))
   (ar.of rfl (aa rfl ae)) (IT.val ET.name VT.lst) trivial trivial (gC ls) fun x hx=>⟨_,AT.two,eL.one (TT.cmp ET.name ET.name (OT.zq (Fi x hx) op)),fun _=>ET.name rfl,aa rfl ae⟩)
   (J (Rk ..) rfl)) bw.nm) ?_
 let Fj:Loc:=("whole", .int d.whole)::Gk;have Fh:∀{p1 pl p2},ET (n+8+1) (ay 247) (.Call (.Name "len" pl) [.Name "came" p1] [] p2) Fj H (.int d.n) H:=ET.len B ET.name (by exact J (Rk ..) rfl);refine ag.cons (XT.expr (ET.aT (xs:=[se plain d]) ET.name (GM.of (Ty.ai hc) (aJ.ai hc) RJ Ta R7) (ab.cons (ET.tuple (ab.cons ET.name (ab.cons (ET.de (TT.value ET.name OB.bool) (fun h=> ?_) (fun h=> ?_)) ab.nil)) (show 2≤Rs by decide)) ab.nil) aM.builtin (CT.append hc (ap hz dc)))) ?_
 ·subst h;exact Fh
 ·subst h;exact ET.tuple (ab.cons Fh (ab.cons ET.name (ab.cons ET.name (ab.cons ET.name ab.nil)))) (show 4≤Rs by decide)
 exact ag.sub ag.nil (aa rfl (aa rfl (aa rfl (aa rfl (aa rfl (aa rfl (aa rfl ae)))))))
theorem qZ(B:Base){b c}{bC spent}{calls}{m}{plain}(hm:∀x∈bC,o8 x)(hs:∀x∈spent,o8 x)(lm:bC.length≤1000)(ls:spent.length≤1000)(om:Rv m=true):∀(cs:List RN) acc H,(∀x∈cs,Rv x=true)→H[c]?=some (some (.list acc))→acc.length+cs.length≤1000→
  XF (n+8+1) (ay 247) (fun _=>True,fun _=>True) (jL (av (dB) 1)) (cB) [] (cs.map V.str) (I0 b c bC spent calls m plain) H .next (I0 b c bC spent calls m plain) (H.set c (some (.list (acc++cs.map fun x=>se plain (mH bC spent m x))))):=by
 intro cs
 induction cs with
 |nil=>
  intro acc H _ hc _;rw[Su,Su,RF,fM hc];exact XF.nil trivial ag.nil
 |cons x cs ih=>
  intro acc H ho hc hz;have:=ih (acc++[se plain (mH bC spent m x)]) (H.set c (some (.list (acc++[se plain (mH bC spent m x)])))) (fun y hy=>ho y (Rm _ hy)) (Tn (Ru.mp hc).1) (J Ro (J SI ((io hz))));rw[set_set,RP] at this;exact XF.cons trivial trivial (AT.name (ST.cell rfl)) (qY B hm hs lm ls om (ho x Rn) hc (uo hz)) this
end
structure DN where
 name:RN
 once:Nat
 n:Nat
 own:Nat
 whole:Nat
 cs:List DC
 wc:Nat
noncomputable def er(w:List RN):Bool:=decide ((w.length:Int)>1)
noncomputable def mI(calls spent:List (List RN))(m:RN):DN:=
 let bC:=calls.filter fun w=>bQ w==m
 ⟨m,(bC.filter fun w=>((w.count m:Nat):Int)==1).length,bC.length,(spent.filter fun w=>bQ w==m).length,(spent.filter fun w=>w.contains m).length,(aw [] ((bC.filter er).map ej)).map (mH bC spent m),(bC.filter er).length⟩
noncomputable def sh(plain:Bool)(d:DN):V:= .tup [.str d.name,four d.once d.n d.own d.whole, .lst (d.cs.map (se plain)),if plain then .int d.wc else .none]
noncomputable abbrev Gl(b:Nat)(spent:List (List RN))(calls:List (List RN))(plain:Bool):Loc:=[("spent", .lst (spent.map zr)),("plain", .bool plain),("due", .ref b),("calls", .lst (calls.map wV))]
theorem ko:∀(l pre:List RN) x,x∈aw pre l→x∈l:=by
 intro rv
 induction rv with
 |nil=>
  intro _ _ h;cases h
 |cons y l ih=>
  intro pre x h;rw[ge] at h;revert h;refine bn (fun _ h=> ?_) fun _ h=> ?_
  ·exact Rm _ (ih _ x h)
  ·rcases Rt.mp h with rfl|h
   ·exact Rn
   ·exact Rm _ (ih _ x h)
theorem kq:∀(l pre:List RN),(aw pre l).length≤l.length:=by
 intro rv
 induction rv with
 |nil=>
  intro _;exact Ri _
 |cons y l ih=>
  intro pre;rw[ge];have:=ih (pre++[y]);refine bn (fun _=> ?_) (fun _=> ?_)<;>simp<;>lia
theorem ib{w}(h:w≠[]):bQ w∈w:=by
 unfold bQ;exact(Yr h)▸aaI h
theorem wY{w}(h:1<w.length):ej w∈w:=(List.dropLast_sublist w).subset (ib fun q=>by have:=congrArg Tm q;simp at this;omega)
section
variable{n:Nat}{F:Fx}{ρ dI:Loc}{H H1:AH}
theorem wZ(B:Base){b}{calls spent}{m}{plain}{acc}(hm:∀x∈calls,o8 x)(hs:∀x∈spent,o8 x)(lm:calls.length≤1000)(ls:spent.length≤1000)(om:Rv m=true)(hb:H[b]?=some (some (.list acc)))(hz:acc.length<1000):
  ag (n+8+1+1) (ay 247) (dB) (("name", .str m)::Gl b spent calls plain) H .next (Gl b spent calls plain) (H.set b (some (.list (acc++[sh plain (mI calls spent m)])))++[none]):=by
 let bC:=calls.filter fun w=>bQ w==m;let d:=mI calls spent m;let gD:Loc:=("name", .str m)::Gl b spent calls plain;let c:=H.length;have F8:∀x∈bC,o8 x:=fun x hx=>hm x (Sk.mp hx).1;have Gm:bC.length≤1000:=Rq (SR ..) lm;let an:Loc:=("mine", .lst (bC.map wV))::("callers", .ref c)::gD;refine ag.cons (an:=an) (XT.fU (xs:=["mine","callers"]) (ET.tuple (ab.cons (ET.lc (dI:=[("name", .str m)]) calls (fun w=>bQ w==m) wV (ar.of rfl (aa rfl ae)) (IT.val ET.name VT.lst) trivial trivial (gC lm)
  fun x hx=>⟨_,AT.nm,eL.one (TT.cmp (ET.last ET.name (hm x hx).ne) ET.name OT.eq_str),fun _=>ET.name rfl,aa rfl ae⟩) (ab.cons (ET.ed ab.nil) ab.nil)) (show 2≤Rs by decide)) ⟨ST.local rfl,ST.local rfl,trivial⟩ rfl (fun _=>rfl) (fun env E=>cY E rfl)) ?_
 have zk:(H++[some (.list [])])[c]?=some (some (AO.list [])):=by refine J (RL (Ri _)) (J (So ..) ?_);rfl
 let H1:AH:=H++[some (.list [])];let cs:=aw [] ((bC.filter er).map ej);have zu:∀x∈bC.filter er,1<x.length:=fun x hx=>by have:=(Sk.mp hx).2;have:=of_decide_eq_true this;lia
 have C9:∀x∈(bC.filter er).map ej,Rv x=true:=fun x hx=>by
  obtain⟨y,hy,rfl⟩:=Rz.mp hx;exact(F8 y (Sk.mp hy).1).ok _ (wY (zu y hy))
 have uF:=kg (n:=n+1) (H:=H1) B (gT C9) (by refine J (Rk ..) (J (Rk ..) ?_);exact ap (SR er bC) (ap Gm dc));have BN:=mF ((bC.filter er).map ej) [];rw[Su] at BN;rw[BN] at uF;let L:=cs.map fun x=>se plain (mH bC spent m x);refine ag.cons (XT.for (IT.val (ET.call (ET.globK B (gL)) (ab.cons (ET.lc bC er (fun w=>V.str (ej w)) (ar.of rfl ae) (IT.val ET.name VT.lst) trivial trivial (gC Gm) fun x hx=> ?_) ab.nil) (aM.def (yI B)) (by rw[RO] at uF;exact uF)) VT.lst)
  (XF.sub (qZ (n:=n+1) B (b:=b) (calls:= .lst (calls.map wV)) (plain:=plain) F8 hs Gm ls om cs [] H1 (fun x hx=>C9 x (ko _ _ x hx)) zk (by simpa using(Rq (kq _ _) (by exact J (Rk ..) ((Rq (SR ..) Gm)))))) (aa rfl (aa rfl (aa rfl (aa rfl (aa rfl (aa rfl (aa rfl ae))))))))) ?_
 ·refine⟨_,AT.nm,eL.one (TT.cmp (ET.len B ET.name rfl) ET.int ?_),fun LH=>ET.prev ET.name (zu x (Sk.mpr ⟨hx,LH⟩)),ae⟩;exact J (Rk ..) ((OT.gt_int))
 let cV:Loc:=[("callers", .lst L),("mine", .lst (bC.map wV)),("name", .str m),("spent", .lst (spent.map zr)),("plain", .bool plain),("due", .ref b),("calls", .lst (calls.map wV))];have AE:(H1.set c (some (.list L))).set c none=H++[none]:=by refine J set_set (J (Sb _ _ (Ri _)) (J (So ..) ?_));rfl
 refine ag.freeze (ρ':=cV) (x:= .lst L) B.mods (Tn (Ru.mp zk).1) rfl (fun y z e=> ?_) ?_
 ·by_cases hy:y="callers"
  ·subst hy;cases e;exact .inr ⟨rfl,rfl⟩
  ·refine .inl ?_;rw[lookup_cons,if_neg hy] at e;exact J lookup_cons (J (if_neg hy) ((e)))
 refine J AE ?_;let H2:AH:=H++[none];let hU:Loc:=("once", .int d.once)::cV;refine ag.cons (an:=hU) (XT.assign (ET.len B (ET.lc (dI:=[("name", .str m)]) bC (fun w=>((w.count m:Nat):Int)==1) wV (ar.of rfl (aa rfl ae)) (IT.val ET.name VT.lst) trivial trivial (gC Gm) fun x hx=>⟨_,AT.nm,eL.one (TT.cmp (ET.aT ET.name (GM.of Ty.lst aJ.lst RJ Vf Vd) (ab.cons ET.name ab.nil) aM.builtin (CT.wX (F8 x hx).ok om)) ET.int OT.eq_int),fun _=>ET.name rfl,aa rfl ae⟩)
  (J (Rk ..) rfl)) bw.nm) ?_
 let Gk:Loc:=("own", .int d.own)::hU;refine ag.cons (an:=Gk) (XT.assign (ET.len B (ET.lc (dI:=[("name", .str m)]) spent (vx:=zr) (fun w=>bQ w==m) wV (ar.of rfl (aa rfl ae)) (IT.val ET.name VT.lst) trivial trivial (gC ls) fun x hx=>⟨_,AT.two,eL.one (TT.cmp (ET.last ET.name (hs x hx).ne) ET.name OT.eq_str),fun _=>ET.name rfl,aa rfl ae⟩)
  (J (Rk ..) rfl)) bw.nm) ?_
 let Fj:Loc:=("whole", .int d.whole)::Gk;refine ag.cons (an:=Fj) (H1:=H2) (XT.assign (ET.len B (ET.lc (dI:=[("name", .str m)]) spent (vx:=zr) (fun w=>w.contains m) wV (ar.of rfl (aa rfl ae)) (IT.val ET.name VT.lst) trivial trivial (gC ls) fun x hx=>⟨_,AT.two,eL.one (TT.cmp ET.name ET.name (OT.BZ (hs x hx).ok om)),fun _=>ET.name rfl,aa rfl ae⟩)
  (J (Rk ..) rfl)) bw.nm) ?_
 have sX:H2[b]?=some (some (.list acc)):=(R8 (Ru.mp hb).1).trans (hb);refine ag.cons (XT.expr (ET.aT (xs:=[sh plain d]) ET.name (GM.of (Ty.ai sX) (aJ.ai sX) RJ Ta R7) (ab.cons (ET.tuple (ab.cons ET.name (ab.cons (ET.tuple (ab.cons ET.name (ab.cons (ET.len B ET.name (Rk ..)) (ab.cons ET.name (ab.cons ET.name ab.nil)))) (show 4≤Rs by decide))
  (ab.cons ((show V.lst L= .lst (d.cs.map (se plain)) by exact J RO rfl)▸ET.name rfl) (ab.cons (ET.de (show TT (n+8+1+1) (ay 247) (Qj (cM 3 (cM 0 (gM (av (dB) 5))))) Fj H2 plain H2 from TT.value ET.name OB.bool) (fun h=> ?_) (fun h=> ?_)) ab.nil)))) (show 4≤Rs by decide)) ab.nil) aM.builtin (CT.append sX (ap hz dc)))) ?_
 ·subst h;refine ET.len B (ET.lc bC er wV (ar.of rfl ae) (IT.val ET.name VT.lst) trivial trivial (gC Gm) fun x hx=>⟨_,AT.nm,eL.one (TT.cmp (ET.len B ET.name rfl) ET.int ?_),fun _=>ET.name rfl,ae⟩) (by refine J (Rk ..) ?_;rfl);exact J (Rk ..) ((OT.gt_int))
 ·subst h;exact ET.none
 exact(ZL _ _ (Ru.mp hb).1)▸ag.sub ag.nil (aa rfl (aa rfl (aa rfl (aa rfl ae))))
theorem w7(B:Base){b}{calls spent}{plain}(hm:∀x∈calls,o8 x)(hs:∀x∈spent,o8 x)(lm:calls.length≤1000)(ls:spent.length≤1000):∀(ns:List RN) acc H,(∀x∈ns,Rv x=true)→H[b]?=some (some (.list acc))→acc.length+ns.length≤1000→
  XF (n+8+1+1) (ay 247) (fun _=>True,fun _=>True) (jL (av (bodyOf 247) 1)) (dB) [] (ns.map V.str) (Gl b spent calls plain) H .next (Gl b spent calls plain) (H.set b (some (.list (acc++ns.map fun x=>sh plain (mI calls spent x))))++Ry ns.length none):=by
 intro ns
 induction ns with
 |nil=>
  intro acc H _ hc _;rw[Su,Su,RF,fM hc,show Ry (Tm ([]:List RN)) none=[] from rfl,RF];exact XF.nil trivial ag.nil
 |cons x ns ih=>
  intro acc H ho hb hz;have cg:=(Ru.mp hb).1;have:=ih (acc++[sh plain (mI calls spent x)]) (H.set b (some (.list (acc++[sh plain (mI calls spent x)])))++[none]) (fun y hy=>ho y (Rm _ hy)) (by rw[R8 (by rw[SS];exact cg),Tn cg]) (J Ro (J SI ((io hz))));rw[ZL _ _ (by rw[SS];exact cg),set_set,RP,RP,show [none]++Ry ns.length none=Ry (x::ns).length none from rfl] at this;exact XF.cons trivial trivial (AT.name (ST.cell rfl)) (wZ B hm hs lm ls (ho x Rn) hb (uo hz)) this
theorem uZ k plain:∀l:List DC,bJ k (l.map (se plain))=true
 |[]=>rfl
 |x::l=>by
  show((se plain x).dG k&&bJ k (l.map (se plain)))=true;refine J (uZ k plain l) ?_;cases plain<;>rfl
theorem B0 k plain:∀l:List DN,bJ k (l.map (sh plain))=true:=by
 intro rv
 induction rv with
 |nil=>
  exact rfl
 |cons x l ih=>
  show((true&&((four x.once x.n x.own x.whole).dG k&&(bJ k (x.cs.map (se plain))&&((if plain then V.int x.wc else .none:V).dG k&&true))))&&bJ k (l.map (sh plain)))=true;refine J (ih ..) (J (uZ ..) ?_);cases plain<;>rfl
noncomputable def mJ(calls spent:List (List RN)):List DN:=(aw [] (calls.map bQ)).map (mI calls spent)
theorem zv(B:Base){H0}{calls ticks}{plain}(hm:∀x∈calls,o8 x)(hs:∀x∈ticks,o8 x)(lm:calls.length≤1000)(ls:ticks.length≤1000)(AQ:∀ob,some ob∈H0→ob.dG H0.length=true):
  CT (n+8+1+1+1) (.st (.ref 247)) [.lst (calls.map wV), .lst (ticks.map wV), .bool plain] [] H0 (.lst ((mJ calls ticks).map (sh plain))) H0:=by
 let b:=H0.length;let ns:=aw [] (calls.map bQ);let H1:AH:=H0++[some (.list [])];have hb:H1[b]?=some (some (.list [])):=by refine J (RL (Ri _)) (J (So ..) ?_);rfl
 have xD:∀x∈calls.map bQ,Rv x=true:=fun x hx=>by
  obtain⟨y,hy,rfl⟩:=Rz.mp hx;exact(hm y hy).ok _ (ib (hm y hy).ne)
 have uF:=kg (n:=n+1) (H:=H1) B (gT xD) (J (Rk ..) (J (Rk ..) ((gC lm))));have BN:=mF (calls.map bQ) [];rw[Su] at BN;rw[BN] at uF;have Gn:=w7 (n:=n) B (plain:=plain) hm hs lm ls ns [] H1 (fun x hx=>xD x (ko _ _ x hx)) hb (by simpa using(Rq (kq _ _) (J (Rk ..) ((lm)))));rw[TM] at Gn;let L:=ns.map fun x=>sh plain (mI calls ticks x);have hH:H1.set b (some (.list L))++Ry ns.length none=H0++(some (.list L)::Ry ns.length none):=by
  refine J (Sb _ _ (Ri _)) (J (So ..) (J (RP ..) ?_));rfl
 rw[hH] at Gn;have mC:CT (n+8+1+1+1) (.st (.ref 247)) [.lst (calls.map wV), .lst (ticks.map wV), .bool plain] [] H0 (.ref b) (H0++(some (.list L)::Ry ns.length none)):=by
  refine CT.fn (g:= .ret (.ref b)) (an:=Gl b ticks calls plain) B (DA B) (Binds.b3 B (Ia)) (show [("calls":RN),"ticks","plain"].Nodup by decide) rfl ?_;let gD:Loc:=[("calls", .lst (calls.map wV)),("ticks", .lst (ticks.map wV)),("plain", .bool plain)];refine ag.cons (XT.fU (ys:=[.ref b, .lst (ticks.map zr)]) (xs:=["due","spent"]) (ET.tuple (ab.cons (ET.ed ab.nil) (ab.cons (H2:=H1) ?_ ab.nil)) (show 2≤Rs by decide)) ⟨ST.local rfl,ST.local rfl,trivial⟩ rfl (fun _=>rfl) (fun env E=>cY E rfl)) ?_
  ·exact J (show(ticks.map zr)=(ticks.filter fun _=>true).map zr by exact J (Va.mpr fun _ _=>rfl) rfl) ((ET.lc ticks (fun _=>true) zr (ar.of rfl ae) (IT.val ET.name VT.lst) trivial trivial (gC ls) fun x hx=>⟨_,AT.nm,eL.nil,fun _=>ET.tuple (ab.cons ET.name (ab.cons (ET.I1 B ET.name ET.name) ab.nil)) (show 2≤Rs by decide),ae⟩))
  refine ag.cons (XT.for (IT.val (ET.call (ET.globK B (gL)) (ab.cons ?_ ab.nil) (aM.def (yI B)) uF) VT.lst)
   (XF.sub Gn (aa rfl (aa rfl (aa rfl (aa rfl ae)))))) (ag.ret (XT.ret ET.name))
  rw[RO,show(calls.map (V.str∘bQ))=(calls.filter fun _=>true).map fun w=>V.str (bQ w) by rw[Va.mpr fun _ _=>rfl];rfl];exact ET.lc calls (fun _=>true) (fun w=>V.str (bQ w)) (ar.of rfl ae) (IT.val ET.name VT.lst) trivial trivial (gC lm) fun x hx=>⟨_,AT.nm,eL.nil,fun _=>ET.last ET.name (hm x hx).ne,ae⟩
 have hf:=CT.freeze B.mods mC (by refine J (RL (Ri _)) (J (So ..) ?_);rfl) rfl;rw[Sb _ _ (Ri _),(show V.lst L= .lst ((mJ calls ticks).map (sh plain)) by exact J RO rfl)] at hf;exact CT.drop hf (Ri _) (B0 _ plain _) AQ
end
section
variable{A:TL}{E:Value→RT→Prop}{s:RT}
theorem cE{h h':VN}{it t}{i}(x:h.IsTupleIter it t i)(k:∀o,h.get? it=some o→h'.get? it=some o):h'.IsTupleIter it t i:=let⟨o,ho,r⟩:=x;⟨o,k o ho,r⟩
theorem gg{h h':VN}{t}{xs}(x:h.IsTuple t xs)(k:∀o,h.get? t=some o→h'.get? t=some o):h'.IsTuple t xs:=let⟨o,ho,r⟩:=x;⟨o,k o ho,r⟩
theorem mK(hit:s.heap.IsTupleIter it t i)(ht:s.heap.IsTuple t xs)(hx:xs[i]?=some x)
  (hQ:∀h',h'.IsTupleIter it t (i+1)→SU it s.heap h'→Q x {s with heap:=h'}):wpAny (model prog w) A (WY (.ref it)) Q E s:=by
 refine Rg fun kG=> ?_;obtain⟨o,ho,hc,hd⟩:=id hit;obtain⟨ol,Ez,_,nl,A8⟩:=ht;refine kG (Rh (Sa hit.typeIs Uh (wpAny_call_entry Uh hit.typeIs Xq ?_ (Xg _))));refine dh fun Q' E' q1 q2=>(bF ho hd (x:= .ref t) rfl ?_);refine J (if_neg (R4)) ?_;refine bF ho hd (x:= .int i 0) rfl ?_;refine bS Ez A8 ?_;simp only[UX,hx];refine bU ho hd (Ri _) (Rj (q1 _ _ ⟨x,rfl,Rj (hQ _ ?_ (R5 ..))⟩));exact⟨_,Sn _ ho (ZJ (Wk hd _)),(aaC ..).trans hc,by rw[Wk hd];rfl⟩
theorem mL(hh:A.handled=none)(hit:s.heap.IsTupleIter it t i)(ht:s.heap.IsTuple t xs)(hx:xs[i]?=none)
  (hE:∀h' e,Vv it s.heap h'→(∃o,h'.get? e=some o∧o.cls= .type "StopIteration")→E (.ref e) {s with heap:=h'}):wpAny (model prog w) A (WY (.ref it)) Q E s:=by
 refine Rg fun kG=> ?_;obtain⟨o,ho,hc,hd⟩:=id hit;obtain⟨ol,Ez,_,nl,A8⟩:=ht;refine kG (Rh (Sa hit.typeIs Uh (wpAny_call_entry Uh hit.typeIs Xq ?_ (Xg _))));refine dh fun Q' E' q1 q2=>(bF ho hd (x:= .ref t) rfl ?_);refine J (if_neg (R4)) ?_;refine bF ho hd (x:= .int i 0) rfl ?_;refine bS Ez A8 ?_;simp only[UX,hx];refine bR (bU ho hd (SO _) ?_);refine Rh (bN ?_ (by size_fits));refine Rh (SX (a:=TJ) rfl ?_);refine Sz ?_ (by size_fits);refine bH ?_;exact(hh)▸bP (XV (q2 _ _ (hE _ _ (((R5 ..).extBut.push _).push _) ⟨_,Rx _ rfl,rfl⟩)))
structure ZT h(z TI TO i1 i2 l1 l2 k:Ud)(xs ys:Array Value):Prop where
 z:Zg h z TI TO .none
 ti:Yk h TI (.ref i1) (.ref i2)
 to:∃p q,Yk h TO p q
 h1:h.IsTupleIter i1 l1 k
 h2:h.IsTupleIter i2 l2 k
 l1:h.IsTuple l1 xs
 l2:h.IsTuple l2 ys
theorem ZT.next{z TI TO i1 i2 l1 l2 k}{xs ys}{x y}{Q}(D:Xn z TI TO i1 i2 l1 l2)(f:ZT s.heap z TI TO i1 i2 l1 l2 k xs ys)(hx:xs[k]?=some x)(hy:ys[k]?=some y)
  (hQ:∀h',Zg h' z TI TO (TF s.heap.objs.size)→Yk h' TO x y→h'.IsTupleIter i1 l1 (k+1)→h'.IsTupleIter i2 l2 (k+1)→Yk h' s.heap.objs.size x y→(∀c o,c≠z→c≠TO→c≠i1→c≠i2→s.heap.get? c=some o→h'.get? c=some o)→Q (some (.ref s.heap.objs.size)) {s with heap:=h'}):
  wpAny (model prog w) A (UP (.ref z)) Q E s:=by
 obtain⟨p,q,pM⟩:=f.to;have hT:s.TypeIs (.ref z) "zip":=⟨_,f.z,rfl⟩;refine Rh (T3 (Sa hT Ts (wpAny_call_entry Ts hT Vs ?_ (Vh _))));refine dh fun Q' E' q1 q2=>(bF f.z rfl (x:= .bool false) rfl ?_);refine bF f.z rfl (x:= .ref TI) rfl (bS f.ti rfl ?_);refine Rh (bF f.z rfl (x:= .none) rfl (Rj ?_));refine bR (bF f.z rfl (x:= .ref TO) rfl ?_);refine bW f.z (SO _) fun cJ tV ci=> ?_;replace tV:Zg cJ z TI TO .ellipsis:=tV;refine Rh (Rh (Rh (UD ?_)));have k1:∀c o,c≠z→s.heap.get? c=some o→cJ.get? c=some o:=fun c o hc e=>ci.extBut _ _ hc e;refine Rh (mK (cE f.h1 fun o e=>k1 _ o D.i1z e) (gg f.l1 fun o e=>k1 _ o D.l1z e) hx fun oD g1 fZ=>Rj ?_);have t2:=fZ.extBut _ _ D.TOi1 (k1 _ _ D.TOz pM);refine bS t2 rfl (Rh (aaU t2 fun ng t3 gv=> ?_));replace t3:Yk ng TO x q:=t3;refine bO (Rj ?_);refine Rh (Rh (UD ?_));have k3:=fun c o c1 c2 c3 e=>gv.extBut _ _ c2 (fZ.extBut _ _ c3 (k1 c o c1 e));refine Rh (mK (cE f.h2 fun o e=>k3 _ o D.i2z D.TOi2.symm D.i12.symm e) (gg f.l2 fun o e=>k3 _ o D.l2z D.l2TO D.l2i1 e) hy fun Qk g2 fj=>Rj ?_);have t4:=fj.extBut _ _ D.TOi2 t3;refine bS t4 rfl (Rh (aaU t4 fun zw t5 zx=> ?_));replace t5:Yk zw TO x y:=t5;refine bO (Rj (Rj ?_));refine bS t5 rfl (Rh (XR ?_));have hsz:zw.objs.size=s.heap.objs.size:=by rw[zx.1,fj.1,gv.1,fZ.1,ci.1]
 have k5:=fun c o c1 c2 c3 c4 e=>zx.extBut _ _ c2 (fj.extBut _ _ c4 (k3 c o c1 c2 c3 e));have z5:=zx.extBut _ _ D.TOz.symm (fj.extBut _ _ D.i2z.symm (gv.extBut _ _ D.TOz.symm (fZ.extBut _ _ D.i1z.symm tV)));have Ql:=cE g2 fun o e=>zx.extBut _ _ D.TOi2.symm e;refine Rh (bW (Rp _ z5) (SO _) fun ML z7 I2=> ?_);replace z7:Zg ML z TI TO (TF zw.objs.size):=z7;refine Yt z7 (by simp) fun Fk z8 I3=> ?_;replace z8:Zg Fk z TI TO (TF zw.objs.size):=z8;have up:∀c o,c≠z→zw.get? c=some o→Fk.get? c=some o:=fun c o c1 e=>I3.extBut _ _ c1 (I2.extBut _ _ c1 (Rp _ e));have Ol:=Tq (RV z5);have t8:=I3.extBut _ _ Ol (I2.extBut _ _ Ol (Rx _ rfl));rw[hsz] at z8 t8;refine Rj (q1 _ _ ⟨_,rfl,Rj ?_⟩);exact J hsz ((hQ Fk z8 (up _ _ D.TOz t5) (cE (cE g1 fun o e=>zx.extBut _ _ D.TOi1.symm (fj.extBut _ _ D.i12 (gv.extBut _ _ D.TOi1.symm e))) fun o e=>up _ o D.i1z e) (cE Ql fun o e=>up _ o D.i2z e) t8 fun c o c1 c2 c3 c4 e=>up c o c1 (k5 c o c1 c2 c3 c4 e)))
theorem ZT.end{z TI TO i1 i2 l1 l2 k}{xs ys}{Q}(hh:A.handled=none)(D:Xn z TI TO i1 i2 l1 l2)(f:ZT s.heap z TI TO i1 i2 l1 l2 k xs ys)(hx:xs[k]?=none)
  (hQ:∀h',(∀c o,c≠z→c≠TO→c≠i1→c≠i2→s.heap.get? c=some o→h'.get? c=some o)→Q none {s with heap:=h'}):wpAny (model prog w) A (UP (.ref z)) Q E s:=by
 have hT:s.TypeIs (.ref z) "zip":=⟨_,f.z,rfl⟩;refine Rh (T3 (Sa hT Ts (wpAny_call_entry Ts hT Vs ?_ (Vh _))));refine dh fun Q' E' q1 q2=>(bF f.z rfl (x:= .bool false) rfl ?_);refine bF f.z rfl (x:= .ref TI) rfl (bS f.ti rfl ?_);refine Rh (bF f.z rfl (x:= .none) rfl (Rj ?_));refine bR (bF f.z rfl (x:= .ref TO) rfl ?_);refine bW f.z (SO _) fun cJ tV ci=> ?_;replace tV:Zg cJ z TI TO .ellipsis:=tV;refine Rh (Rh (Rh (UD ?_)));have k1:∀c o,c≠z→s.heap.get? c=some o→cJ.get? c=some o:=fun c o hc e=>ci.extBut _ _ hc e;refine Rh (mL hh (cE f.h1 fun o e=>k1 _ o D.i1z e) (gg f.l1 fun o e=>k1 _ o D.l1z e) hx fun oD e fZ he=> ?_);obtain⟨oe,Gj,zj⟩:=he;have z2:=fZ _ _ D.i1z.symm tV;have ez:e≠z:=fun x=>by cases x;cases z2.symm.trans Gj;simp at zj
 refine Yt z2 (SO _) fun ng _ gv=>q2 _ _ (bI ⟨oe,gv.extBut _ _ ez Gj,zj⟩ Vi ?_);exact Rj (hQ ng fun c o c1 _ c3 _ x=>gv.extBut _ _ c1 (fZ _ _ c3 (k1 c o c1 x)))
end
noncomputable def Kh(h:VN)(l1 l2:Ud):VN:=
 ((((h.push {cls:= .type "tuple_iterator",data:= .fields #[.ref l1, .int 0 0]}).push {cls:= .type "tuple_iterator",data:= .fields #[.ref l2, .int 0 0]}).push {cls:= .type "tuple",data:= .seq #[.ref h.objs.size, .ref (h.objs.size+1)]}).push {cls:= .type "tuple",data:= .seq #[.none, .none]}).push
  {cls:= .type "zip",data:= .fields #[.none, .bool false, .bool false, .ref (h.objs.size+2), .ref (h.objs.size+3)]}
theorem zy(l1 l2:Ud)(xs ys:Array Value):
  Meets (Builtin.«zip.__new__» ⟨[.type "zip", .ref l1, .ref l2],[]⟩) (fun _ R s=>s.heap.IsTuple l1 xs∧s.heap.IsTuple l2 ys∧R (.ok (.ret (.ref (s.heap.objs.size+4)))) {s with heap:=Kh s.heap l1 l2}):=
 .of_wp fun prog w A R s h=>by
  obtain⟨hp,g,d,tk,os⟩:=s;obtain⟨m9,d5,h⟩:=h;have fY:=sub_zip
  wp_walk using abt m9,abt (show VN.IsTuple (RT.heap ⟨hp.push {cls:= .type "tuple_iterator",data:= .fields #[.ref l1, .int 0 0]},g,d,tk,os⟩) l2 ys from VN.IsTuple.push d5 _)
  refine⟨_,rfl, ?_⟩;simp only[Se] at h⊢;exact h
section
variable{A:TL}{E:Value→RT→Prop}{s:RT}
theorem B1{xs ys}{Q}(m9:s.heap.IsTuple l1 xs)(d5:s.heap.IsTuple l2 ys)
  (h:∀h',ZT h' (s.heap.objs.size+4) (s.heap.objs.size+2) (s.heap.objs.size+3) s.heap.objs.size (s.heap.objs.size+1) l1 l2 0 xs ys→h'.objs.size=s.heap.objs.size+5→(∀c o,s.heap.get? c=some o→h'.get? c=some o)→Q (.ref (s.heap.objs.size+4)) {s with heap:=h'}):
  wpAny (model prog w) A (call (.type "zip") [.ref l1, .ref l2]) Q E s:=by
 refine callType_new F.called_zip dc (F.typeCall_zip_2 _ _) (F.newCall_zip_2 _ _) (fun obj=>F.args_object_init_3 obj _ _) F.entry_zip_new (zy l1 l2 xs ys) ⟨m9,d5, ?_⟩;have at_:∀(h:VN) o n,o.isFreed=false→h.objs.size=n→(h.push o).get? n=some o:=fun h o n hf e=>by subst e;exact Rx _ hf
 have up:∀(h:VN)(o o':Obj) n,h.get? n=some o'→(h.push o).get? n=some o':=fun h o o' n e=>Rp _ e;have g4:(Kh s.heap l1 l2).get? (s.heap.objs.size+4)=some _:=at_ _ _ _ rfl (J (Se ..) (J (Se ..) (J (Se ..) (J (Se ..) rfl))));have k:∀c o,s.heap.get? c=some o→(Kh s.heap l1 l2).get? c=some o:=fun c o e=>up _ _ _ _ (up _ _ _ _ (up _ _ _ _ (up _ _ _ _ (up _ _ _ _ e))));exact⟨⟨_,g4,rfl⟩,h _ ⟨g4,(up _ _ _ _ (up _ _ _ _ (at_ _ _ _ rfl (J (Se ..) (J (Se ..) rfl))))),⟨_,_,(up _ _ _ _ (at_ _ _ _ rfl (J (Se ..) (J (Se ..) (J (Se ..) rfl)))))⟩,⟨_,(up _ _ _ _ (up _ _ _ _ (up _ _ _ _ (up _ _ _ _ (at_ _ _ _ rfl rfl))))),rfl,rfl⟩,⟨_,(up _ _ _ _ (up _ _ _ _ (up _ _ _ _ (at_ _ _ _ rfl (J (Se ..) rfl))))),rfl,rfl⟩,gg m9 fun o e=>k _ o e,gg d5 fun o e=>k _ o e⟩ (by delta Kh;simp only[Se]) k⟩
theorem WalksT.zt(hh:A.handled=none)(z TI TO i1 i2 l1 l2:Ud)(D:Xn z TI TO i1 i2 l1 l2)(xs ys:Array Value)(Gp:xs.size=ys.size):
  WalksT prog w A z [z,TI,TO,i1,i2,l1,l2] [z,TO,i1,i2] xs.size (fun i vals=>∃x y,xs[i]?=some x∧ys[i]?=some y∧vals=#[x,y]) (fun i h=>ZT h z TI TO i1 i2 l1 l2 i xs ys)
   (fun i T h=>(∀h',Zg h' z TI TO .none→(∀c o,c≠z→h.get? c=some o→h'.get? c=some o)→ZT h' z TI TO i1 i2 l1 l2 (i+1) xs ys)∧Zg h z TI TO (TF T)∧T≠z∧T≠TO∧T≠i1∧T≠i2) where
 sub:=fun c hc=>by simp at hc⊢;rcases hc with rfl|rfl|rfl|rfl<;>simp
 frame:=fun i h h' f hk=>by
  refine Rg fun kG=> ?_;obtain⟨p,q,pM⟩:=f.to;exact kG (⟨hk z Rn _ f.z,hk TI (by simp) _ f.ti,⟨p,q,hk TO (by simp) _ pM⟩,cE f.h1 fun o e=>hk i1 (by simp) o e,cE f.h2 fun o e=>hk i2 (by simp) o e,gg f.l1 fun o e=>hk l1 (by simp) o e,gg f.l2 fun o e=>hk l2 (by simp) o e⟩)
 item:=fun i s Q E hi f hQ=>by
  obtain⟨p,q,pM⟩:=f.to;have lt:∀{c o},s.heap.get? c=some o→s.heap.objs.size≠c:=fun e=>Tq (RV e);refine f.next D (Sj hi) (Sj (ap hi (bD Gp))) fun h' a1 a2 a3 a4 a5 hk=> ?_;exact hQ s.heap.objs.size #[xs[i],ys[i]] h' s.toks ⟨_,_,Sj hi,Sj (ap hi (bD Gp)),rfl⟩ (Ri _) ⟨_,a5,rfl,_,rfl⟩
   ⟨fun h2 z2 k2=>⟨z2,k2 _ _ D.TIz (hk _ _ D.TIz D.TITO D.TIi1 D.TIi2 f.ti),⟨_,_,k2 _ _ D.TOz a2⟩,cE a3 fun o e=>k2 _ o D.i1z e,cE a4 fun o e=>k2 _ o D.i2z e,gg f.l1 fun o e=>k2 _ o D.l1z (hk _ o D.l1z D.l1TO D.l1i1 D.l1i2 e),gg f.l2 fun o e=>k2 _ o D.l2z (hk _ o D.l2z D.l2TO D.l2i1 D.l2i2 e)⟩,
    a1,lt f.z,lt pM,(by obtain⟨_,e,_⟩:=f.h1;exact lt e),(by obtain⟨_,e,_⟩:=f.h2;exact lt e)⟩
   fun c o hc e=>hk c o (fun x=>hc (by simp[x])) (fun x=>hc (by simp[x])) (fun x=>hc (by simp[x])) (fun x=>hc (by simp[x])) e
 go:=fun elts k pos i T s Q E hm hQ=>by
  exact wpAny_letOwnedTupleGo_zip hm.2.1 fun h' vK vJ=>hQ h' (hm.1 h' vK fun c o hc e=>vJ.extBut _ _ hc e) fun c o hc e=>vJ.extBut _ _ (fun x=>hc (by simp[x])) e
 apart:=fun i T h hm hT=>by
  simp at hT;rcases hT with rfl|rfl|rfl|rfl
  ·exact hm.2.2.1 rfl
  ·exact hm.2.2.2.1 rfl
  ·exact hm.2.2.2.2.1 rfl
  ·exact hm.2.2.2.2.2 rfl
 done:=fun s Q E f hQ=>f.end hh D (UE (Ri _)) fun h' hk=>hQ h' s.toks fun c o hc e=>hk c o (fun x=>hc (by simp[x])) (fun x=>hc (by simp[x])) (fun x=>hc (by simp[x])) (fun x=>hc (by simp[x])) e
 self:=fun i s Q E f hQ=>YZ f.z hQ
end
section
variable{n:Nat}{F:Fx}{ρ:Loc}{H:AH}
theorem w8:∀(l:List Int) vs,vs.length=l.length→(∀(j:Nat) v,vs[j]?=some v→∃x t,l[j]?=some x∧v= .int x t)→ak W (l.map V.int) vs:=by
 intro l
 induction l with
 |nil=>intro vs h _;exact RX.mp h
 |cons x l ih=>
  intro vs h k;cases vs with
  |nil=>cases h
  |cons v vs=>
   obtain⟨y,t,e,rfl⟩:=k 0 v rfl;cases e;exact⟨_,vs,rfl,⟨t,rfl⟩,ih vs (V6 h) fun j v e=>k (j+1) v e⟩
theorem ku m:passing (fun _=>true) m 0=U3 m:=by delta passing;rw[VG,Va.mpr fun _ _=>rfl]
theorem u0:∀{l:List Int}{vs},ak W (l.map V.int) vs→∀(j:Nat) v,vs[j]?=some v→∃x t,l[j]?=some x∧v= .int x t:=by
 intro rv
 induction rv with
 |nil=>
  intro _ r j v e;cases r;cases e
 |cons x l ih=>
  rintro _ ⟨u,us,e0,⟨t,e1⟩,r⟩ j v e;subst e0 e1;cases j with
  |zero=>cases e;exact⟨x,t,rfl,rfl⟩
  |succ j=>exact ih r j v e
theorem B2{env}{xa xb}{pa pb pe}{s}{m:RN→Option Value}{a b}{t u}(hk:env.scope.kind= .function)(ha:env.kindOf xa=some .local)(hb:env.kindOf xb=some .local)(hn:s.heap.Ns env.locals m)(h1:m xa=some (.int a t))(h2:m xb=some (.int b u))
  (d1:(xa=="__debug__")=false) (d2:(xb=="__debug__")=false):
  wpAny (model prog M) A' (eval (.BinOp (.Name xa pa) .Add (.Name xb pb) pe) env) (fun y s'=>(∃v,y= .int (a+b) v)∧Keeps s s') E' s:=
 aa8 (wpAny_Name (Wc hk ha hn h1 (wpAny_Name (Wc hk hb hn h2 (aab ⟨⟨_,rfl⟩,_,_,rfl,fun _ _ e=>e⟩)) d2)) d1)
noncomputable def gO(g tk:Nat)(q:RN):Obj:={cls:= .type "generator",data:= .fields #[.int g 0, .str "<genexpr>" (tk+1), .str (q++"<genexpr>") (tk+1+1)]}
theorem I4{t}{Q}{E}(h:∀Q':α→RT→Prop,(∀a s',Q a s'→Q' a s')→wpAny (model prog w) A t Q' E s):wpAny (model prog w) A t Q E s:=h Q fun _ _ h=>h
theorem B3(B:Base){elt fz}{args}{xa xb}{pl p1 p2 pa pb pc pd pe pt pos}{kt}{scope}{cl}{as bs:List Int}{q0}{c P}{i:Nat}(hl:as.length=bs.length)(ID:as.length≤Rs)(JZ:elt= .BinOp (.Name xa pc) .Add (.Name xb pd) pe)
  (xS:F.names.lookup ("tuple":RN)=some .globalImplicit) (hz:ET n F fz ρ H (.st (.type "zip")) H) (ha:ab n F p1 args ρ H [.tup (as.map V.int), .tup (bs.map V.int)] H)
  (hF:F.code= .ref c) (hq:F.qual=some q0) (C:∀h,(∀a o,br a=some o→h.get? a=some o)→CodeHd h c P) (hH:H[i]?=some (some (.tab P pos (q0++"<genexpr>"))))
  (C9:scope.isCoroutine=false) (i3:∀env,YB scope env=pure cl) (xJ:∀y∈scope.names,y.2≠ .cell) (h0:scope.names.lookup (".0":RN)=some ZR.local) (Om:scope.names.lookup xa=some .local) (Oo:scope.names.lookup xb=some .local) (nO:xa≠xb) (nQ:scope.kind= .function)
  (d1:(xa=="__debug__")=false) (d2:(xb=="__debug__")=false)
  (he:autoParam (∀env,eval (.Call (.Name "tuple" pl) [.GeneratorExp elt [⟨.Tuple [.Name xa pa, .Name xb pb] kt pt, .Call fz args [] p1,[],0⟩] scope pos] [] p2) env=(do UT p2 (←eval (.Name "tuple" pl) env) [] (backTo p2 (starEach [.GeneratorExp elt [⟨.Tuple [.Name xa pa, .Name xb pb] kt pt, .Call fz args [] p1,[],0⟩] scope pos] env)) [])) aI)
  (vE:autoParam (∀env,eval (.Call fz args [] p1) env=(do UT p1 (←eval fz env) [] (backTo p1 (starEach args env)) [])) aI)
  (hp:autoParam (∀env,(backTo p1 (starEach args env)).any (·.1)=false) aI)
  (hs:autoParam (∀env x,genFold (.Call fz args [] p1) env x=pure x) aI):
  ET n F (.Call (.Name "tuple" pl) [.GeneratorExp elt [⟨.Tuple [.Name xa pa, .Name xb pb] kt pt, .Call fz args [] p1,[],0⟩] scope pos] [] p2) ρ H (.tup ((as.zip bs).map fun p=>V.int (p.1+p.2))) H:=by
 refine .mk fun A s W env R S E fr Q q=>(J (he env) ?_);refine Rh ((ET.az B (ma) md xS).run A s W env R S E fr _ fun fv s1 W1 G1 S1 r1=> ?_);cases r1;have C6:=fr.step G1;refine UV rfl (fun _ h=>h) (WZ (W9 ?_ (cK (e:= .GeneratorExp elt [⟨.Tuple [.Name xa pa, .Name xb pb] kt pt, .Call fz args [] p1,[],0⟩] scope pos) rfl env)));refine wpAny_GeneratorExp_make C9 (i3 env) xJ h0 nQ R.lt ?_ (hs env);refine I4 fun Q1 q1=> ?_;refine J (vE env) (Rh (hz.run A s1 W1 env R S1 E C6 _ fun fv Lw Lv IY MJ GP=> ?_));cases GP;refine UV (by simp[hp env]) (fun _ h=>h) (cw ha R MJ E (C6.step IY) (hp env) fun ws s2 W2 G2 S2 r2=>⟨⟨.machine, .inr (.inl rfl),Up rfl⟩, ?_⟩);obtain⟨v1,v2,rfl,⟨l1,us,m1,rfl,Dh,ru,IZ⟩,⟨l2,vs,m2,rfl,AG,rv,AI⟩⟩:=r2.two;have m9:s2.heap.IsTuple l1 us.toArray:=⟨_,S2.cr _ _ Dh,rfl,m1,rfl⟩;have d5:s2.heap.IsTuple l2 vs.toArray:=⟨_,S2.cr _ _ AG,rfl,m2,rfl⟩;refine B1 m9 d5 fun h' Gq hsz hk=>q1 _ _ (YZ Gq.z ?_);have a1:l1<s2.heap.objs.size:=by obtain⟨_,e,_⟩:=m9;exact RV e
 have a2:l2<s2.heap.objs.size:=by obtain⟨_,e,_⟩:=d5;exact RV e
 obtain⟨S3,G3⟩:=S2.but (s':={s2 with heap:=h'}) (Y:=ct) (fun b o _ e=>hk b o e) (fun _ y=>y.elim) rfl rfl (Ri _);refine⟨B.r8.nolimit _ S3.ground, ?_⟩;refine Rg fun kG=> ?_;obtain⟨aP,fh,EQ,rfl,ps,jb,yw⟩:=S3.live _ _ hH;refine kG ?_;have fin:∀cv h3 tk W3,s2.toks≤tk→(∀b o,b≠aP→h'.get? b=some o→h3.get? b=some o)→h'.objs.size≤h3.objs.size→ao W3 H {s2 with heap:=h3,toks:=tk}→Gr ct W2 {s2 with heap:=h'} W3 {s2 with heap:=h3,toks:=tk}→
   wpAny (model prog w) A (builtinsFor env.globals env.builtins) (fun bi fj=>∀q8,q8.Ns fj.heap.objs.size (fun y=>if y=".0" then some (.ref (s2.heap.objs.size+4)) else none)→SU fj.heap.objs.size (fj.heap.push {cls:= .type "frame",data:= .dict #[]}) q8→
      wpAny (model prog w) A (spliced (backTo p2 (starEach [] env))) (fun vs fZ=>Kp (.type "tuple") fZ.heap∧wpAny (model prog w) A (call (.type "tuple") (UR q8.objs.size::vs)) Q aY fZ) aY {fj with gens:=fj.gens.push (.fresh (.compStart (.GeneratorExp elt [⟨.Tuple [.Name xa pa, .Name xb pb] kt pt, .Call fz args [] p1,[],0⟩] scope pos) 0 (.ref (s2.heap.objs.size+4)) .none (genEnv scope cl fj.heap.objs.size cv bi env))),toks:=fj.toks+1+1+1,heap:=q8.push (gO fj.gens.size fj.toks env.qual)}) aY {s2 with heap:=h3,toks:=tk}:=by
  intro cv h3 tk W3 lV NK I5 S4 G4;have N3:h3.NoLimit:=B.r8.nolimit _ S4.ground;refine Rg fun kG=> ?_;obtain⟨bm,ob,Qm,aV,_,_,Qn,MM,I6,I7⟩:=B.bm h3 S4.ground;refine kG (wpAny_builtinsFor (E.globals▸B.r8.g _ S4.ground) Qm aV Qn MM I6 I7 ?_);have Oq:us.length=as.length:=by rw[ru.length,Rk]
  have Qo:aP<s2.heap.objs.size:=by
   cases e:s2.heap.get? aP with
   |none=>exact absurd e (S2.lt _ (Sf fh))
   |some o=>exact RV e
  have dead:∀b,s2.heap.objs.size≤b→s2.heap.get? b=none:=fun b hb=>S9 hb;have ne1:l1≠aP:=fun e=>by replace Dh:=e▸Dh;cases EQ.symm.trans Dh
  have ne2:l2≠aP:=fun e=>by replace AG:=e▸AG;cases EQ.symm.trans AG
  let wr:=[s2.heap.objs.size+4,s2.heap.objs.size+3,s2.heap.objs.size,s2.heap.objs.size+1];have MN:∀b∈wr,s2.heap.objs.size≤b:=fun b hb=>by simp[wr] at hb;lia
  have Wz:=fun(A':TL) (hA:A'.handled=none)=>(WalksT.zt hA (s2.heap.objs.size+4) (s2.heap.objs.size+2) (s2.heap.objs.size+3) s2.heap.objs.size (s2.heap.objs.size+1) l1 l2 (zipApart_new a1 a2) us.toArray vs.toArray (by rw[RI,RI,Oq,(show vs.length=bs.length by rw[rv.length,Rk]),hl])).toU;intro q8 I8 DX;let pz:Nat→Bool:=fun _=>true;let F':Nat→Value→Prop:=fun i y=>∃a b t,as[i]?=some a∧bs[i]?=some b∧y= .int (a+b) t;let fp:=[s2.heap.objs.size+4,s2.heap.objs.size+2,s2.heap.objs.size+3,s2.heap.objs.size,s2.heap.objs.size+1,l1,l2];let qP:=genEnv scope cl h3.objs.size cv builtinsNs env;let gs:GenState:= .fresh (.compStart (.GeneratorExp elt [⟨.Tuple [.Name xa pa, .Name xb pb] kt pt, .Call fz args [] p1,[],0⟩] scope pos) 0 (.ref (s2.heap.objs.size+4)) .none qP);let a:=q8.objs.size;let Qp:=tk+1+1+1;let h5:=q8.push (gO s2.gens.size tk env.qual);have MO:=lq (show q8.objs.size=h3.objs.size+1 by exact J (DX.1 ..) (J (Se ..) rfl));have I9:∀b o,h3.get? b=some o→h5.get? b=some o:=fun b o e=>Rp _ (DX.extBut b o (Te (RV e)) (Rp _ e));have hA:∀b∈fp,b≠aP:=fun b hb=>by
   have aV:∀x,s2.heap.objs.size≤x→x≠aP:=fun x hx e=>absurd Qo (e▸T8.mpr hx);refine Rg fun kG=> ?_;rcases Rt.mp hb with rfl|hb<;>refine kG ?_
   ·exact aV _ (Sr ..)
   rcases Rt.mp hb with rfl|hb
   ·exact aV _ (Sr ..)
   rcases Rt.mp hb with rfl|hb
   ·exact aV _ (Sr ..)
   rcases Rt.mp hb with rfl|hb
   ·exact aV _ (Ri ..)
   rcases Rt.mp hb with rfl|hb
   ·exact aV _ (Sr ..)
   rcases Rt.mp hb with rfl|hb
   ·exact ne1
   exact(Rr.mp hb)▸ne2
  have hB:∀b∈fp,b<h3.objs.size:=fun b hb=>by
   have cg:∀x,x<s2.heap.objs.size+5→x<h3.objs.size:=fun x hx=>Si hx (hsz▸I5);rcases Rt.mp hb with rfl|hb
   ·exact cg _ (Vc dc _)
   rcases Rt.mp hb with rfl|hb
   ·exact cg _ (Vc dc _)
   rcases Rt.mp hb with rfl|hb
   ·exact cg _ (Vc dc _)
   rcases Rt.mp hb with rfl|hb
   ·exact cg _ (Nat.lt_add_of_pos_right dc)
   rcases Rt.mp hb with rfl|hb
   ·exact cg _ (Vc dc _)
   rcases Rt.mp hb with rfl|hb
   ·exact cg _ (Si a1 (Sr ..))
   exact(Rr.mp hb)▸cg _ (Si a2 (Sr ..))
  have hC:cStatics∉wr:=fun hm=>by
   obtain⟨_,hn,_⟩:=B.r8.nolimit _ S2.ground;exact absurd hn.lt (T8.mpr (MN _ hm))
  have Ot:=hB;have Ja:=let⟨_,hn,_⟩:=N3;hn.lt;have Qq:QuietGenTD prog w qP xa xb [] elt (U3 h3.objs.size) wr (fun i vals=>∃x y,us.toArray[i]?=some x∧vs.toArray[i]?=some y∧vals=#[x,y]) pz F' h5 (A.depth+1) (A.units+8):=⟨fun _ _ _ _ _ _ _ _ _ _ _ _ _ _ _=>Rj ⟨rfl,_,_,rfl,fun _ _ e=>e⟩,by
   intro A' E' i va vb sx mx _ _ _ Qr _ hn m1 m2 _;refine Rg fun kG=> ?_;obtain⟨x,y,e1,e2,e3⟩:=Qr;obtain⟨rfl,rfl⟩:va=x∧vb=y:=by simpa using congrArg Array.toList e3
   refine kG ?_;rw[Sm] at e1 e2;refine Rg fun kG=> ?_;obtain⟨a,t,ea,rfl⟩:=u0 ru i _ e1;obtain⟨b,u,eb,rfl⟩:=u0 rv i _ e2;refine kG ?_;subst JZ;exact RM (B2 nQ Om Oo hn m1 m2 d1 d2) (fun y s' ⟨⟨t,e⟩,k⟩=>⟨⟨a,b,t,ea,eb,e⟩,k⟩) fun _ _ e=>e⟩
  have Qs:a∉U3 h3.objs.size:=fun hm=>by have:=VF.mp hm;lia
  have AL:GenAt prog w A.in4 a s2.gens.size h3.objs.size (U3 h3.objs.size) wr pz us.toArray.size F' 0 {s2 with gens:=s2.gens.push gs,toks:=Qp,heap:=h5}:=
   GenAt.freshTD (A:=A.in4) (cenv:=qP) R.handled (fun A' hA=>(Wz A' hA).mono_fp fun b hb=>VF.mpr (Ot b hb)) (fun i vals hv=>by obtain⟨x,y,_,_,e⟩:=hv;exact⟨x,y,e⟩) nO pz F' Om Oo (by simp[qP,genEnv,nQ]) C9
    (fun hm=>SQ _ (VF.mp hm)) Qq ⟨_,_,_,Rx _ rfl,rfl,rfl,rfl⟩ (Array.getElem?_push_size ..) ((Wz A R.handled).frame _ _ _ ((Wz A R.handled).frame 0 h' h3 Gq fun b hb o e=>NK b o (hA b hb) e) fun b _ o e=>I9 b o e) (I8.push _) (N3.keeps I9)
  refine Zt ⟨⟨.machine, .inr (.inl rfl),Up rfl⟩, ?_⟩;have qi:(passing (fun _=>true) us.toArray.size 0).length=as.length:=by rw[ku,aas,RI,Oq]
  refine call_tuple_gen (hsz:=qi▸ID) (WalksS.genexpQ (prog:=prog) (w:=w) (A:=A.in4) R.handled a s2.gens.size h3.objs.size (U3 h3.objs.size) wr pz us.toArray.size F' (Tq MO) Qs (fun b hb=>VF.mpr (Ot b ((Wz A R.handled).sub b hb))) R.lt (VF.mpr Ja) (Te Ja) hC).in4_3 (fun i s' st=>st.1.typeIs) AL (fun b hb=> ?_) Rn fun s' acc hm B4=> ?_
  ·refine J (Se ..) ?_;rcases Rt.mp hb with rfl|hb
   ·exact V0 _
   ·rcases Rt.mp hb with rfl|hb
    ·exact VH MO
    ·exact VH (Yg (VF.mp hb) MO)
  ·let s3:RT:={s2 with heap:=h3,toks:=tk};have MP:∀b∈h3.objs.size::wr,s2.heap.objs.size≤b:=fun b hb=>by
    rcases Rt.mp hb with rfl|hb
    ·exact ap (lj (lq hsz)) I5
    ·exact MN b hb
   have Jb:∀b,b∈W3.φ∨W3.I b≠none→b∉h3.objs.size::wr:=fun b hb hm=>by
    have Qt:h3.get? b≠none:=by
     rcases hb with hb|hb
     ·exact S4.lt b hb
     ·cases e:W3.I b with
      |none=>exact absurd e hb
      |some o=>exact J (S4.cr b o e) ((nofun))
    rcases Rt.mp hm with rfl|AW
    ·exact Qt (S9 (Ri _))
    ·have h2:=S2.fresh (dead b (MN b AW));have Ou:h'.get? b≠none:=by
      obtain⟨p,q,pM⟩:=Gq.to;simp[wr] at AW;rcases AW with rfl|rfl|rfl|rfl
      ·exact Gq.z▸nofun
      ·exact pM▸nofun
      ·obtain⟨o,e,_⟩:=Gq.h1;exact e▸nofun
      ·obtain⟨o,e,_⟩:=Gq.h2;exact e▸nofun
     rcases hb with hb|hb
     ·rcases G4.cI b hb with q|q|q
      ·exact h2.1 q
      ·exact Ou q
      ·exact q
     ·cases e:W3.I b with
      |none=>exact hb e
      |some o=>
       rcases G4.gt b o e with q|q|q|q
       ·cases h2.2.symm.trans q
       ·exact h2.1 q
       ·exact Ou q
       ·exact q
   have S5:=S4.same (fun b o e hb=>hm.heap b o (Jb b hb) (I9 b o e)) ((S2.bare.push rfl).movedS hm) (Rq (Sr _ 3) hm.toks);have G5:Gr (fun b=>b∈h3.objs.size::wr) W3 s3 W3 s':=by
    refine⟨W3.le_refl,fun _ h=> .inl h,fun _ _ h=> .inl h,fun b o e _ hb=>hm.heap b o hb (I9 b o e),fun b h hb=> ?_,hm.os,fun i y e=> ?_⟩
    ·cases e:h3.get? b with
     |none=>exact absurd e h
     |some o=>exact(hm.heap b o hb (I9 b o e))▸nofun
    ·have e5:(s2.gens.push gs)[i]?=some y:=by
      have hi:=(Uc.mp e).1;exact(Array.getElem?_push_lt hi)▸(Sj hi).symm.trans e
     have hi:=Te (Uc.mp e).1;rcases hm.gens with q|⟨q,_⟩
     ·exact J q ((e5))
     ·exact(q.2 i hi).trans (e5)
   refine q _ _ _ ?_ (S5.put rfl).1 ⟨_,acc.toList,0,rfl, ?_, ?_, ?_⟩
   ·exact(((G1.trans IY).trans G2).trans ((G3.trans G4).base G5 fun x hx h=>absurd (dead x (MP x hx)) h)).trans (S5.put rfl).2
   ·refine J (Wd.al ..) ?_;rfl
   ·have:=w8 (W:=W3.put s'.heap.objs.size {cls:= .type "tuple",data:= .seq acc}) ((as.zip bs).map fun p=>p.1+p.2) acc.toList (by simp[(show acc.size=as.length by exact J B4.1 (J qi rfl)),hl]) fun j v e=> ?_
    ·exact RO▸this
    ·obtain⟨i,e1,a,b,t,ea,eb,rfl⟩:=B4.2 j v (by simpa using e);rw[ku] at e1;have GN:i=j:=by obtain⟨h,q⟩:=Ru.mp e1;rw[aae] at q;exact q.symm
     subst GN;exact⟨a+b,t,by refine J Sx (J (show(as.zip bs)[i]?=some (a,b) from YV.mpr ⟨ea,eb⟩) ?_);rfl,rfl⟩
   ·exact J (Rk ..) (J (aa0 ..) ((Rq (WW ..) ID)))
 refine Rg fun kG=> ?_;rcases yw with rfl|⟨c',oc,KN,t',rfl,pS,C4,J4⟩<;>refine kG ?_
 ·refine wpAny_toks (wpAny_genexprCodeX (E.code.trans hF) ((C _ S3.ground).code jb trivial) ((C _ S3.ground).tab jb) rfl fun c' h3 tk hx Gd cg _ ER Jc _ lV=> ?_);refine Rg fun kG=> ?_;obtain⟨c2,oc,ws,t,e2,EJ,hd,hv⟩:=ER;refine kG ?_;cases e2;rw[(E.qual _ hq)] at hv;have LV:c'≠aP:=fun e=>by cases e;exact absurd (RV jb) (T8.mpr Gd)
  have AE:=S9 Gd;obtain⟨S4,G4⟩:=S3.Hz (s':={s2 with heap:=h3,toks:=tk}) (W':=W2.put c' oc) (ob:= .tab aP pos (q0++"<genexpr>")) fh rfl rfl (Wd.lx (S3.fresh AE).2) (by simp[Wd.put,SK LV,EQ]) (fun b o e=>by
    by_cases hb:b=c'
    ·exact .inr (hb▸AE)
    ·exact .inl (by simpa [Wd.put,hb] using e)) (fun b o e=>by
    by_cases hb:b=c'
    ·cases hb;replace e:=(Wd.al ..)▸e;cases e;exact EJ
    ·have e:W2.I b=some o:=by simpa [Wd.put,hb] using e
     exact hx b o (fun z=>by cases z;cases EQ.symm.trans e) (S3.cr b o e)) (fun b o hb e=>hx b o hb e) (Jc.2▸nofun) rfl rfl lV
    ⟨rfl,_,Jc.2, .inr ⟨c',oc,ws,t,rfl,Wd.al ..,hd,hv⟩⟩
  rw[fM hH] at S4;exact fin _ h3 tk _ lV (fun b o hb e=>hx b o hb e) (Rq Gd (TC cg)) S4 G4
 ·refine wpAny_genexprCode_hit (E.code.trans hF) ((C _ S3.ground).code jb trivial) uI ?_;exact fin _ h' s2.toks W2 (Ri _) (fun b o _ e=>e) (Ri _) S3 (Gr.refl ..)
end
inductive CV where
 |n (k:Int)
 |f (l:List Int)
noncomputable def CV.v:CV→V
 | .n k=> .int k
 | .f l=> .tup (l.map V.int)
noncomputable def CV.add:CV→CV→CV
 | .n a, .n b=> .n (b+a)
 | .f as, .f bs=> .f ((as.zip bs).map fun p=>p.1+p.2)
 |c,_=>c
noncomputable def CV.zz:CV→CV→Bool
 | .n _, .n _=>true
 | .f as, .f bs=>as.length==bs.length&&decide (as.length≤10)
 |_,_=>false
noncomputable def vals{α:Type}(v:α→V)(l:List (RN×α)):List (RN×V):=l.map fun p=>(p.1,v p.2)
noncomputable abbrev dZ(l:List (RN×CV)):List (RN×V):=vals CV.v l
noncomputable def c6{α:Type}(l:List (RN×α))(k:RN)(x:α):List (RN×α):=if l.any (fun p=>p.1=k) then l.map (fun p=>if p.1=k then(p.1,x) else p) else l++[(k,x)]
theorem mM v(l:List (RN×α)):(vals v l).length=l.length:=Rk ..
theorem q9 v l k(x:α):vals v (c6 l k x)=ip (vals v l) k (v x):=by
 unfold vals c6 ip;refine J WN ?_;show _=if(l.any fun p=>decide (p.1=k))=true then _ else _
 split
 ·refine J RO (J RO ?_);refine R9 fun p _=> ?_;show(((if p.1=k then(p.1,x) else p):RN×α).1,v ((if p.1=k then(p.1,x) else p):RN×α).2)=if p.1=k then(p.1,v x) else(p.1,v p.2)
  split<;>rfl
 ·exact RH
theorem gU v(l:List (RN×α)) k:(vals v l).lookup k=(l.lookup k).map v:=by
 induction l with
 |nil=>rfl
 |cons p l ih=>
  refine J lookup_cons (J ih (J Sc ?_));by_cases h:k=p.1
  ·subst h;simp
  ·rw[(show(k==p.1)=false by simpa using h),if_neg h]
theorem u2 l k x:dZ (c6 l k x)=ip (dZ l) k x.v:=q9 ..
theorem iR l k:(dZ l).lookup k=(l.lookup k).map CV.v:=gU ..
theorem re{k}{x:α}(h:k∉l.map (·.1)):c6 l k x=l++[(k,x)]:=by
 delta c6
 rw[if_neg];intro q;obtain⟨p,hp,e⟩:=U6.mp q;exact h (Rz.mpr ⟨p,hp,by exact of_decide_eq_true e⟩)
noncomputable def gV(l:List (RN×CV)):List (RN×CV)→List (RN×CV)
 |[]=>l
 |p::m=>gV (c6 l p.1 (match l.lookup p.1 with|some o=>p.2.add o|none=>p.2)) m
section
variable{n:Nat}{F:Fx}{ρ:Loc}{H:AH}
theorem CT.mN{T}(aV:(WL "int"==WL T)=false)(fY:Xi (.type "int") (.type T)=pure false)(uv:typeOf (.type T)=pure (.type "type")):
  CT n (.st (.builtin "isinstance")) [.int i, .st (.type T)] [] H (.bool false) H:=CT.aZ fun A s W vs R S r Q q=>by
 obtain⟨v,u,rfl,rv,ru⟩:=r.two;cases ru;obtain⟨t,rfl⟩:=rv;exact call_isinstance (isinstance_false_int aV uv fY) (q (s.toks+1))
end
noncomputable def d4(a:List (RN×CV))(l:List (RN×CV)):List (RN×CV):=l.foldl (fun a p=>c6 a p.1 p.2) a
noncomputable def mix(m:List (RN×CV))(p:RN×CV):CV:=match m.lookup p.1 with|some o=>p.2.add o|none=>p.2
theorem fN l k(x:α):(c6 l k x).length≤l.length+1:=by delta c6;refine bn (fun _=> ?_) (fun _=> ?_)<;>simp
theorem tW l p m:gV l (p::m)=gV (c6 l p.1 (mix l p)) m:=rfl
theorem og p l:cy (dZ (p::l))= .tup [.str p.1,p.2.v]::cy (dZ l):=rfl
noncomputable def Qu(m l:List (RN×CV)):Prop:=(l.map (·.1)).Nodup∧∀p∈l,∀o,m.lookup p.1=some o→p.2.zz o=true
noncomputable abbrev ny(b:Nat)(t s:V):Loc:=[("new_callers", .ref b),("target",t),("source",s)]
noncomputable def eF:Tk:=gM (av (uN (av (uN (av (gc (av (bodyOf 189) 2)) 0)) 0)) 0)
noncomputable abbrev gP:Pos:=⟨227,42,227,92⟩
noncomputable def gQ:RN:="add_callers.<locals>.<genexpr>"
theorem Jd:((fdOf 189).qualname++".<locals>.")++"<genexpr>"=gQ:=rfl
noncomputable abbrev gS(e:Tk):aaQ:=oP (cM 0 e)
noncomputable def zA(e:Tk)(k:Nat):Pos:=
 let g:=cM 0 e
 ([nu e,nu (nu g),wa (nu g),nu g,cM 0 (wa g),cM 1 (wa g),wa g,nu (cM 0 g),cM 0 g,e].map (·.pos)).getD k default
noncomputable def gA(e:Tk):List Tk:=Ig (cM 0 (cM 0 e))
noncomputable def tupK(e:Tk):Nat:=by
 cases e with
 |Tuple _ k=>exact k
 |_=>exact 0
noncomputable def gk(e:Tk):Nat:=tupK (wa (cM 0 e))
theorem Fm:eF= .Call (.Name "tuple" (zA (eF) 0)) [.GeneratorExp (.BinOp (.Name "i" (zA (eF) 1)) .Add (.Name "j" (zA (eF) 2)) (zA (eF) 3)) [⟨.Tuple [.Name "i" (zA (eF) 4), .Name "j" (zA (eF) 5)] (gk (eF)) (zA (eF) 6), .Call (.Name "zip" (zA (eF) 7)) (gA (eF)) [] (zA (eF) 8),[],0⟩] (gS (eF)) gP] [] (zA (eF) 9):=rfl
noncomputable abbrev MQ(e:Tk):Tk:=wa e
noncomputable abbrev nP(e:Tk):Pos:=e.pos
theorem Je:gA (eF)=[.Name "caller" (nP ((gA (eF)).getD 0 default)), .Subscript (.Name "new_callers" (nP (Mb ((gA (eF)).getD 1 default)))) (.Name "func" (nP (MQ ((gA (eF)).getD 1 default)))) (nP ((gA (eF)).getD 1 default))]:=rfl
theorem u3:∃c,(ay 189).code= .ref c∧codeHdIn (KK) c 184=true:=⟨_,rfl,kr⟩
theorem Fo:∀y∈(gS (eF)).names,y.2≠ .cell:=fun y hy=>by
 have:=SE.mp (show((gS (eF)).names.all fun y=>y.2 != .cell)=true from rfl) y hy;intro e;rw[e] at this;exact absurd this dc
section
variable{n:Nat}{F:Fx}{ρ:Loc}{H:AH}
theorem w9:∀(l acc:List (RN×CV)) H,H[b]?=some (some (AO.dict (dZ acc)))→acc.length+l.length<1000→
  XF n (ay 189) (fun _=>True,fun t=>isTup t=true) (jL (av (bodyOf 189) 1)) (gc (av (bodyOf 189) 1)) [] (cy (dZ l)) (ny b t s) H .next (ny b t s) (H.set b (some (AO.dict (dZ (d4 acc l))))):=by
 intro l
 induction l with
 |nil=>intro acc H hb _;exact J (show d4 acc []=acc from rfl) (J (fM hb) ((XF.nil trivial ag.nil)))
 |cons p l ih=>
  intro acc H hb hz;have:=ih (c6 acc p.1 p.2) (H.set b (some (AO.dict (dZ (c6 acc p.1 p.2))))) (Tn (Ru.mp hb).1) (elt (AS (adr (fN acc p.1 p.2))) hz);rw[set_set] at this;refine J (og ..) ?_;rw[u2] at this;exact XF.cons trivial rfl AT.two (ag.cons (XT.assign ET.name (bw.one (AT.sub ET.name ET.name (IS.dict hb (by refine J (mM ..) (JN (uo hz) dc)))))) (ag.sub ag.nil (aa rfl (aa rfl (aa rfl ae))))) this
theorem B5(B:Base){i:Nat}(hi:H[i]?=some (some (.tab 184 gP gQ))){as bs:List Int}{b}{acc}{k}(hb:H[b]?=some (some (AO.dict (dZ acc))))(hk:acc.lookup k=some (.f bs))(hl:as.length=bs.length)(hz:as.length≤10){t s}:
  ET (n+8) (ay 189) (eF) (("caller", .tup (as.map V.int))::("func", .str k)::ny b t s) H (.tup ((as.zip bs).map fun p=>V.int (p.1+p.2))) H:=by
 refine Rg fun kG=> ?_;obtain⟨c,hc,hd⟩:=u3;refine kG ?_;have kM:(dZ acc).lookup k=some (.tup (bs.map V.int)):=by refine J (iR ..) (J (hk ..) ?_);rfl
 have ha:ab (n+8) (ay 189) (zA (eF) 8) (gA (eF)) (("caller", .tup (as.map V.int))::("func", .str k)::ny b t s) H [.tup (as.map V.int), .tup (bs.map V.int)] H:=by
  exact Je▸ab.cons ET.name (ab.cons (ET.sub ET.name ET.name (Ty.iY hb) VY.lookup (OT.item_dict (aW.ref B.mods hb) kM)) ab.nil)
 exact J Fm ((B3 B hl (gC hz) rfl rfl (ET.az B (yK) yN rfl) ha hc rfl (fun h k=>Zk (B.In h k) hd) (Jd▸hi) rfl (fun _=>rfl) (Fo) rfl rfl rfl dc rfl rfl rfl))
theorem zB(B:Base){i b:Nat}{t s}{m}{p}(hi:H[i]?=some (some (.tab 184 gP gQ)))(hb:H[b]?=some (some (AO.dict (dZ m))))(hz:m.length<1000)(hf:∀o,m.lookup p.1=some o→p.2.zz o=true):
  ag (n+8) (ay 189) (gc (av (bodyOf 189) 2)) (("caller",p.2.v)::("func", .str p.1)::ny b t s) H .next (ny b t s) (H.set b (some (AO.dict (dZ (c6 m p.1 (mix m p)))))):=by
 have qE:=OT.in_dict (n:=n+8) (k:=p.1) (aW.ref B.mods hb);replace qE:=(iR ..)▸qE;have jS:=IS.dict (n:=n+8) (key:=p.1) (y:=(mix m p).v) hb (J (mM ..) ((ap hz dc)));rw[←u2] at jS;refine ag.cons (an:=("caller",p.2.v)::("func", .str p.1)::ny b t s) (XT.ite (TT.cmp ET.name ET.name qE) (fun h=> ?_) (fun h=> ?_)) (ag.sub ag.nil (aa rfl (aa rfl (aa rfl ae))))
 ·replace h:=Option.isSome_map▸h;obtain⟨o,ho⟩:=TS.mp h;have hl:=hf o ho;have hm:mix m p=p.2.add o:=by delta mix;rw[ho]
  rw[hm] at jS⊢;obtain⟨k,c⟩:=p;cases c with
  |n x=>
   cases o with
   |f l=>cases hl
   |n y=>
    refine ag.cons (XT.ite (TT.value (ET.call (ET.az B (iC) iD) (ab.cons ET.name (ab.cons (ET.az B (ma) md) ab.nil)) aM.builtin (CT.mN dc rfl rfl)) OB.bool) (fun h=>by cases h) fun _=>ag.cons ?_ ag.nil) ag.nil;exact XT.sE ET.name ET.name (OT.item_dict (aW.ref B.mods hb) (by refine J (iR ..) (J (ho ..) ?_);rfl)) ET.name Em.add_int jS
  |f as=>
   cases o with
   |n y=>cases hl
   |f bs=>
    rw[CV.zz,RA,beq_iff_eq,decide_eq_true_eq] at hl;refine ag.cons (XT.ite (TT.value (ET.call (ET.az B (iC) iD) (ab.cons ET.name (ab.cons (ET.az B (ma) md) ab.nil)) aM.builtin (CT.isinstance (b:=true) Ty.tup rfl rfl)) OB.bool) (fun _=>ag.cons ?_ ag.nil) (fun h=>by cases h)) ag.nil;rw[show(CV.f as).add (CV.f bs)=CV.f ((as.zip bs).map fun p=>p.1+p.2) from rfl] at jS⊢;rw[show(CV.f ((as.zip bs).map fun p=>p.1+p.2)).v= .tup ((as.zip bs).map fun p=>V.int (p.1+p.2)) by show V.tup (Uu _ (Uu _ _))=_;rw[RO];rfl] at jS;exact XT.assign (B5 B hi hb ho hl.1 hl.2) (bw.one (AT.sub ET.name ET.name jS))
 ·have hm:mix m p=p.2:=by delta mix;rw[(show m.lookup p.1=none by cases e:m.lookup p.1 with|none=>rfl|some o=>cases e▸h)]
  rw[hm] at jS⊢;exact ag.cons (XT.assign ET.name (bw.one (AT.sub ET.name ET.name jS))) ag.nil
noncomputable def Jf:List (RN×CV)→List (RN×CV)→Prop
 |_,[]=>True
 |m,p::l=>(∀o,m.lookup p.1=some o→p.2.zz o=true)∧Jf (c6 m p.1 (mix m p)) l
theorem zC(B:Base){i b}{t s}(MR:i≠b):∀(l m:List (RN×CV)) H,H[i]?=some (some (.tab 184 gP gQ))→H[b]?=some (some (AO.dict (dZ m)))→m.length+l.length<1000→Jf m l→
  XF (n+8) (ay 189) (fun _=>True,fun t=>isTup t=true) (jL (av (bodyOf 189) 2)) (gc (av (bodyOf 189) 2)) [] (cy (dZ l)) (ny b t s) H .next (ny b t s) (H.set b (some (AO.dict (dZ (gV m l))))):=by
 intro l
 induction l with
 |nil=>intro m H _ hb _ _;exact J (show gV m []=m from rfl) (J (fM hb) ((XF.nil trivial ag.nil)))
 |cons p l ih=>
  intro m H hi hb hz hg;have:=ih (c6 m p.1 (mix m p)) (H.set b (some (AO.dict (dZ (c6 m p.1 (mix m p)))))) (J (SY (SK MR)) hi) (Tn (Ru.mp hb).1) (elt (AS (adr (fN m p.1 (mix m p)))) hz) hg.2;rw[set_set,←tW] at this;exact J (og ..) ((XF.cons trivial rfl AT.two (zB B hi hb (uo hz) hg.1) this))
theorem u4 k l:(V.bx (dZ l)).dG k=true:=by
 show d8 k _=true
 induction l with
 |nil=>rfl
 |cons p l ih=>
  show(p.2.v.dG k&&d8 k (dZ l))=true;refine J (ih ..) (J (Ze ..) ?_);cases p.2 with
  |n x=>rfl
  |f as=>
   induction as with
   |nil=>rfl
   |cons a as ih=>show(true&&bJ k _)=true;exact J (UQ ..) ((ih))
theorem xc:∀(l a:List (RN×CV)),(d4 a l).length≤a.length+l.length:=by
 intro l
 induction l with
 |nil=>intro a;exact Ri _
 |cons p l ih=>intro a;have:=ih (c6 a p.1 p.2);have:=fN a p.1 p.2;refine J RQ ?_;show(d4 (c6 a p.1 p.2) l).length≤_;lia
theorem jY(B:Base){i:Nat}{H0}{l1 l2}(hi:H0[i]?=some (some (.tab 184 gP gQ)))(hz:l1.length+l2.length<1000)(Ge:∀p∈dZ l1,p.1.length≤Rs)(pK:∀p∈dZ l2,p.1.length≤Rs)(hg:Jf (d4 [] l1) l2)(AQ:∀ob,some ob∈H0→ob.dG H0.length=true):
  CT (n+8+1) (.st (.ref 189)) [.bx (dZ l1), .bx (dZ l2)] [] H0 (.bx (dZ (gV (d4 [] l1) l2))) H0:=by
 let b:=H0.length;have hj:=xc l1 [];rw[V8,Ur] at hj;have Fp:=(Ru.mp hi).1;let H1:AH:=H0++[some (AO.dict [])];have hb:H1[b]?=some (some (AO.dict (dZ []))):=by refine J (RL (Ri _)) (J (So ..) ?_);rfl
 have e1:∀x,H1.set b x=H0++[x]:=fun x=>by refine J (Sb _ _ (Ri _)) (J (So ..) ?_);rfl
 have c1:=w9 (n:=n+8) (t:= .bx (dZ l1)) (s:= .bx (dZ l2)) l1 [] H1 hb (by simp;exact uo hz);rw[e1] at c1;have c2:=zC (n:=n) B (b:=b) (t:= .bx (dZ l1)) (s:= .bx (dZ l2)) (Te Fp) l2 (d4 [] l1) (H0++[some (AO.dict (dZ (d4 [] l1)))]) (J (R8 Fp) hi) (by refine J (RL (Ri _)) (J (So ..) ?_);rfl) (elt (adr hj) hz) hg;rw[Sb _ _ (Ri _),So] at c2;have mC:CT (n+8+1) (.st (.ref 189)) [.bx (dZ l1), .bx (dZ l2)] [] H0 (.ref b) (H0++[some (AO.dict (dZ (gV (d4 [] l1) l2)))]):=by
  refine CT.fn (g:= .ret (.ref b)) (an:=ny b (.bx (dZ l1)) (.bx (dZ l2))) B (Dr B) (Binds.b2 B (HU)) (show [("target":RN),"source"].Nodup by decide) rfl (ag.cons (XT.assign ET.xP bw.nm) ?_);exact ag.cons (XT.for (IT.val (ET.aT ET.name (GM.of Ty.bx aJ.bx Tv Vg Ve) ab.nil aM.builtin (CT.view aW.bx)) (VT.items Ge)) c1) (ag.cons (XT.for (IT.val (ET.aT ET.name (GM.of Ty.bx aJ.bx Tv Vg Ve) ab.nil aM.builtin (CT.view aW.bx)) (VT.items pK)) c2) (ag.ret (XT.ret ET.name)))
 have hf:=CT.freeze B.mods mC (by refine J (RL (Ri _)) (J (So ..) ?_);rfl) rfl;rw[Sb _ _ (Ri _)] at hf;exact CT.drop hf (Ri _) (u4 _ _) AQ
end
section
variable{n:Nat}{F:Fx}{ρ:Loc}{H:AH}
theorem CT.listItems(hx:aW H x l)(vL:∀p∈l,p.1.length≤Rs):CT n (.st (.type "list")) [.vw "dict_items" x] [] H (.lst (cy l)) H:= .mk fun A s W fv vs kv R S rf rx c8 _ Q q=>by
 cases rf;have:kv=[]:=by simpa using c8
 subst this;refine Rg fun kG=> ?_;obtain⟨v,rfl,a,u,rfl,hI,ru⟩:=rx.one;obtain⟨d,es,m,rfl,ho,hr,nd,hz,hs⟩:=hx.run s W u S ru;obtain⟨bd,hd,j7⟩:=dictOf ho hr nd;refine kG (wpAny_toks (kdx_call R.handled ⟨_,S.cr _ _ hI,rfl,rfl⟩ hd (by refine J j7.length ?_;exact hz) fun h' tk acc c as keep hS hl hG B4 lV=> ?_));obtain⟨S1,G1⟩:=S.but (s':={s with heap:=h',toks:=tk}) (Y:=ct) (fun b o _ e=>keep b o e) (fun _ y=>y.elim) rfl rfl lV;have ye:=fun b hb=>S9 (TC (hG.above b hb));have LZ:∀j(kv:RN×Value) a,bd[j]?=some kv→as[j]?=some a→∃t m,h'.get? a=some (sq "tuple" [.str kv.1 t,kv.2] m):=fun j kv b h1 h2=>by
  obtain⟨key,k,x',e1,e2,e3⟩:=hG.pairs j b h2;cases h1.symm.trans e1;obtain⟨t,rfl⟩:=Us e2;exact⟨t,0,e3⟩
 obtain⟨W',S2,G2,r2⟩:=lY l bd as 0 S1 hl (j7.mono G1.le) vL hG.rise (fun b hb=>⟨(S.fresh (ye b hb)).1,(S.fresh (ye b hb)).2⟩) LZ;have e3:h'.get? s.heap.objs.size=some (sq "list" (as.map UR) c):=by
  refine J hS ?_;show _=some (⟨_,_, .seq (as.map UR).toArray c,_⟩:Obj);rw[←B4,Array.toArray_toList]
 have nn:h'.get? s.heap.objs.size≠RB:=e3▸nofun;have na:s.heap.objs.size∉as:=fun m=>absurd (hG.above _ m) (SQ _);have f0:=S.fresh (af s.heap);have f4:s.heap.objs.size∉W'.φ∧W'.I s.heap.objs.size=RB:=by
  refine⟨fun m=> ?_, ?_⟩
  ·rcases G2.cI _ m with q|q|q
   ·exact f0.1 q
   ·exact nn q
   ·exact na q
  ·cases e:W'.I s.heap.objs.size with
   |none=>rfl
   |some o=>
    rcases G2.gt _ o e with q|q|q|q
    ·cases f0.2.symm.trans q
    ·exact absurd q f0.1
    ·exact absurd q nn
    ·exact absurd q na
 obtain⟨S5,G5,l5⟩:=S2.adopt f4 e3;refine q _ _ _ ?_ S5 ⟨_,_,c,rfl,Wd.al ..,ak.mono l5 r2,by rw[cy,Rk];exact hz⟩;exact(G1.base G2 fun b e h=>absurd (ye b e) h).base G5 fun x hx h=>by subst hx;exact absurd (af _) h
end
structure S5 where
 a:Int
 b:Int
 c:Int
 d:Int
 cs:List (RN×CV)
noncomputable def S5.v(s:S5):V:= .tup [.int s.a, .int s.b, .int s.c, .int s.d, .bx (dZ s.cs)]
noncomputable def S5.add(t s:S5):S5:=⟨s.a+t.a,s.b+t.b,s.c+t.c,s.d+t.d,gV (d4 [] t.cs) s.cs⟩
noncomputable def Rw.four(r:Rw):List Int:=[1,r.first,r.own,r.whole*r.first]
noncomputable def Rw.cs(plain:Bool)(r:Rw):List (RN×CV):=if r.caller=="" then [] else [(r.caller,if plain then .n 1 else .f r.four)]
noncomputable def Rw.s5(plain:Bool)(r:Rw):S5:=⟨r.new,1,r.own,r.whole*r.new,r.cs plain⟩
noncomputable def ky:S5:=⟨0,0,0,0,[]⟩
noncomputable abbrev Tab:=List (RN×S5)
noncomputable def tabS(plain:Bool)(t:Tab)(r:Rw):Tab:=c6 t r.nm (((t.lookup r.nm).getD ky).add (r.s5 plain))
noncomputable abbrev gW(t:Tab):List (RN×V):=vals S5.v t
noncomputable def CV.kind(plain:Bool):CV→Bool
 | .n _=>plain
 | .f l=> !plain&&l.length==4
theorem CV.xd{plain}{a b:CV}(ha:a.kind plain=true)(hb:b.kind plain=true):a.zz b=true:=by
 cases a with
 |n x=>
  cases b with
  |n y=>rfl
  |f m=>have hb:=hb;cases(show plain=true from ha)▸hb
 |f l=>
  have ha:=(RA _ _).mp (ha);cases b with
  |n y=>have h:=ha.1;cases(show plain=true from hb)▸h
  |f m=>
   show(l.length==m.length&&decide (l.length≤10))=true;refine J (beq_iff_eq.mp ha.2) (J (beq_iff_eq.mp ((RA _ _).mp (hb)).2) ?_);rfl
theorem CV.zD{plain}{a b:CV}(ha:a.kind plain=true)(hb:b.kind plain=true):(a.add b).kind plain=true:=by
 cases a with
 |n x=>
  cases b with
  |n y=>exact ha
  |f m=>exact ha
 |f l=>
  cases b with
  |n y=>exact ha
  |f m=>
   have ha:=(RA _ _).mp (ha);refine(RA _ _).mpr ⟨ha.1,beq_iff_eq.mpr ?_⟩;refine J (Rk ..) (J (aa0 ..) (J (beq_iff_eq.mp ha.2) (J (beq_iff_eq.mp ((RA _ _).mp (hb)).2) ?_)));rfl
theorem Rw.kind(plain:Bool)(r:Rw):(if plain then CV.n 1 else .f r.four).kind plain=true:=by cases plain<;>rfl
structure oh plain k(s:S5):Prop where
 len:s.cs.length≤k
 fit:∀p∈s.cs,p.2.kind plain=true∧p.1.length≤1000
 nd:(s.cs.map (·.1)).Nodup
noncomputable def tY(r:Rw):Prop:=r.caller.length≤1000∧r.nm.length≤1000∧r.new≤1000∧r.first≤1000∧r.whole≤10000
theorem iS:∀(l a:List (RN×CV)),((a++l).map (·.1)).Nodup→d4 a l=a++l:=by
 intro l
 induction l with
 |nil=>intro a _;exact J (RF ..) rfl
 |cons p l ih=>
  intro a h;have hp:=fun m=>by
   rw[RH,RD] at h;exact(TY.mp h).2.2 _ m _ Rn rfl
  show d4 (c6 a p.1 p.2) l=_;rw[re hp,ih _ (by rw[RP];exact h),RP];rfl
theorem mem_lookup{α:Type}{k}{x}:∀{l:List (RN×α)},l.lookup k=some x→(k,x)∈l:=by
 intro l
 induction l with
 |nil=>intro h;cases h
 |cons p l ih=>
  intro h;rw[Sc] at h;by_cases e:k=p.1
  ·subst e;rw[beq_self_eq_true] at h;cases h;exact Rn
  ·rw[show(k==p.1)=false from beq_eq_false_iff_ne.mpr e] at h;exact Rm _ (ih h)
theorem rg(h:p∈c6 l k x):p∈l∨p=(k,x):=by
 delta c6 at h
 split at h
 ·obtain⟨q,hq,e⟩:=Rz.mp h;revert e;refine bn (fun _ e=> ?_) fun _ e=> ?_
  ·rename_i hk;exact aQ e (J hk ((.inr rfl)))
  ·exact aQ e ((.inl hq))
 ·rcases RE.mp h with h|h
  ·exact .inl h
  ·exact .inr (Rr.mp h)
theorem mO{x:α}(h:(l.map (·.1)).Nodup):((c6 l k x).map (·.1)).Nodup:=by
 delta c6
 refine bn (fun _=> ?_) fun _=> ?_
 ·exact J RO (J (show((fun x=>x.1)∘fun p:RN×α=>if p.1=k then(p.1,x) else p)=fun p=>p.1 from funext fun p=>by show(if p.1=k then(p.1,x) else p:RN×α).1=_;refine bn (fun _=> ?_) (fun _=> ?_)<;>rfl) ((h)))
 ·rename_i hn;refine J RH (TY.mpr ⟨h,(by simp),fun a ha b hb e=> ?_⟩);rw[Rr.mp hb] at e;obtain⟨p,hp,rfl⟩:=Rz.mp ha;exact hn (U6.mpr ⟨p,hp,by exact decide_eq_true e⟩)
theorem oh.go{plain}{k}{t}(h:oh plain k t)(r:Rw):Jf (d4 [] t.cs) (r.cs plain):=by
 refine J (iS _ _ (by exact h.nd)) (J (TM ..) ?_)
 delta Rw.cs
 refine bn (fun _=> ?_) fun _=> ?_
 ·trivial
 ·refine⟨fun o ho=> ?_,trivial⟩;exact CV.xd (r.kind plain) (h.fit _ (mem_lookup ho)).1
theorem oh.add{plain}{k}{t}(h:oh plain k t){r}(hr:tY r):oh plain (k+1) (t.add (r.s5 plain)):=by
 have e:(t.add (r.s5 plain)).cs=gV t.cs (r.cs plain):=by
  show gV (d4 [] t.cs) (r.cs plain)=_;rw[iS _ _ (by exact h.nd),TM]
 by_cases hc:(r.caller=="")=true
 ·have:r.cs plain=[]:=by delta Rw.cs;rw[if_pos hc]
  rw[this] at e;exact⟨by refine J e ?_;exact Sq h.len,by refine J e ?_;exact h.fit,by exact J e h.nd⟩
 ·have:r.cs plain=[(r.caller,if plain then .n 1 else .f r.four)]:=by delta Rw.cs;rw[if_neg hc]
  rw[this] at e;have e:(t.add (r.s5 plain)).cs=c6 t.cs r.caller (mix t.cs (r.caller,if plain then .n 1 else .f r.four)):=e;refine⟨by refine J e ?_;have:=fN t.cs r.caller (mix t.cs (r.caller,if plain then .n 1 else .f r.four));have:=h.len;lia, ?_,by exact J e (mO h.nd)⟩;refine J e fun p hp=> ?_;rcases rg hp with hp|rfl
  ·exact h.fit p hp
  ·refine⟨?_,hr.1⟩
   delta mix
   cases ho:t.cs.lookup r.caller with
   |none=>exact r.kind plain
   |some o=>exact CV.zD (r.kind plain) (h.fit _ (mem_lookup ho)).1
theorem u5{plain}{k}:oh plain k ky:=⟨RW _,fun _ h=>absurd h RG,Tl⟩
theorem oh.mono{plain}{k k'}{t}(h:oh plain k t)(hk:k≤k'):oh plain k' t:=⟨Rq h.len hk,h.fit,h.nd⟩
theorem oh.keys{plain}{k}{t}(h:oh plain k t):∀p∈dZ t.cs,p.1.length≤Rs:=fun p hp=>by
 obtain⟨q,hq,rfl⟩:=Rz.mp hp;exact gC ((h.fit q hq).2)
theorem u7{plain}{t}{r}{k}(h:∀p∈t,oh plain k p.2∧p.1.length≤1000)(hr:tY r):∀p∈tabS plain t r,oh plain (k+1) p.2∧p.1.length≤1000:=fun p hp=>by
 rcases rg hp with hp|rfl
 ·exact⟨(h p hp).1.mono (TP _),(h p hp).2⟩
 ·refine⟨oh.add ?_ hr,hr.2.1⟩;cases e:t.lookup r.nm with
  |none=>exact u5
  |some s=>exact(h _ (mem_lookup e)).1
section
variable{n:Nat}{F:Fx}{ρ:Loc}{H:AH}
theorem OT.mul_int(hm:IntMulOk a b):OT n (Wo .Mult) (.int a) (.int b) H (.int (a*b)) H:=OT.dH fun A s W x y R S ra rb Q q=>by
 obtain⟨t,rfl⟩:=ra;obtain⟨u,rfl⟩:=rb;exact PySem.P.mul_int (q _ _) hm
theorem tZ(B:Base){i:Nat}{t s:S5}(hi:H[i]?=some (some (.tab 184 gP gQ)))(hz:t.cs.length+s.cs.length<1000)(Ge:∀p∈dZ t.cs,p.1.length≤Rs)(pK:∀p∈dZ s.cs,p.1.length≤Rs)(hg:Jf (d4 [] t.cs) s.cs)(AQ:∀ob,some ob∈H→ob.dG H.length=true):
  CT (n+8+1+1) (.st (.ref 182)) [t.v,s.v] [] H (t.add s).v H:=by
 let Gg:Loc:=[("callers", .bx (dZ s.cs)),("ct", .int s.d),("tt", .int s.c),("nc", .int s.b),("cc", .int s.a),("target",t.v),("source",s.v)];let Qv:Loc:=("t_callers", .bx (dZ t.cs))::("t_ct", .int t.d)::("t_tt", .int t.c)::("t_nc", .int t.b)::("t_cc", .int t.a)::Gg;refine CT.fn (g:= .ret (t.add s).v) (an:=Qv) B (Dq B) (Binds.b2 B (HT)) (show [("target":RN),"source"].Nodup by decide) rfl (ag.cons (XT.assign ET.name (bw.one (AT.tuple (aX.cons AT.nm (aX.cons AT.nm (aX.cons AT.nm (aX.cons AT.nm (aX.cons AT.nm aX.nil)))))))) ?_);refine ag.cons (XT.assign ET.name (bw.one (AT.tuple (aX.cons AT.nm (aX.cons AT.nm (aX.cons AT.nm (aX.cons AT.nm (aX.cons AT.nm aX.nil)))))))) ?_;exact ag.ret (XT.ret (ET.tuple (ab.cons (ET.binop ET.name ET.name OT.add_int) (ab.cons (ET.binop ET.name ET.name OT.add_int) (ab.cons (ET.binop ET.name ET.name OT.add_int) (ab.cons (ET.binop ET.name ET.name OT.add_int)
  (ab.cons (ET.call (ET.globK B (l7)) (ab.cons ET.name (ab.cons ET.name ab.nil)) (aM.def (Dr B)) (jY B hi hz Ge pK hg AQ)) ab.nil))))) (show 5≤Rs by decide)))
end
noncomputable abbrev Jg(b:Nat)(rows:V)(plain:Bool):Loc:=[("table", .ref b),("rows",rows),("plain", .bool plain)]
theorem Fq k(s:S5):s.v.dG k=true:=by
 show(true&&(true&&(true&&(true&&((V.bx (dZ s.cs)).dG k&&true)))))=true;exact J (u4 ..) rfl
theorem u8 k:∀t,(AO.dict (gW t)).dG k=true
 |[]=>rfl
 |p::t=>by show(p.2.v.dG k&&d8 k (gW t))=true;exact J (Fq ..) (J (UQ ..) ((u8 k t)))
theorem u9{a b:Nat}(h:b≤1000):IntMulOk a b:=IntMulOk.of_right (by
 delta Builtin.Int.intBits
 refine bn (fun _=> ?_) fun _=> ?_
 ·decide
 ·exact ap (show(b:Int).natAbs.log2<11 from(Nat.log2_lt (by lia)).mpr (by omega)) dc)
section
variable{n:Nat}{F:Fx}{ρ:Loc}{H:AH}
theorem zE(B:Base){i b k:Nat}{rows}{plain}{t}{r}(hi:H[i]?=some (some (.tab 184 gP gQ)))(hb:H[b]?=some (some (AO.dict (gW t))))(hr:tY r)(hk:k<900)(hl:t.length≤k)(ht:∀p∈t,oh plain k p.2∧p.1.length≤1000)(AQ:∀ob,some ob∈H→ob.dG H.length=true):
  ag (n+8+1+1) (ay 237) (gc (av (bodyOf 237) 1)) (("first", .int r.first)::("caller", .str r.caller)::("whole", .int r.whole)::("own", .int r.own)::("new", .int r.new)::("name", .str r.nm)::Jg b rows plain) H .next (Jg b rows plain) (H.set b (some (AO.dict (gW (tabS plain t r))))):=by
 let gD:Loc:=("first", .int r.first)::("caller", .str r.caller)::("whole", .int r.whole)::("own", .int r.own)::("new", .int r.new)::("name", .str r.nm)::Jg b rows plain;let an:Loc:=("four", .tup (r.four.map V.int))::gD;let cV:Loc:=("callers", .bx (dZ (r.cs plain)))::an;refine ag.cons (an:=an) (XT.assign (ET.tuple (ab.cons ET.int (ab.cons ET.name (ab.cons ET.name (ab.cons (ET.binop ET.name ET.name (OT.mul_int (u9 hr.2.2.2.1))) ab.nil)))) (show 4≤Rs by decide)) bw.nm) (ag.cons (an:=cV) (H1:=H) (XT.assign (ET.de (TT.cmp ET.name ET.str OT.eq_str) (fun h=> ?_) (fun h=> ?_)) bw.nm) ?_)
 ·exact J (show r.cs plain=[] by delta Rw.cs;exact J (if_pos h) rfl) ((ET.uy B.mods))
 ·rw[show r.cs plain=[(r.caller,if plain then .n 1 else .f r.four)] by delta Rw.cs;rw[if_neg (by rw[h];decide)]];refine ET.Di B.mods ET.name (ET.de (TT.value ET.name OB.bool) (fun h=> ?_) (fun h=> ?_))
  ·subst h;exact ET.int
  ·subst h;exact ET.name rfl
 ·have h5:oh plain k ((t.lookup r.nm).getD ky):=by
   cases e:t.lookup r.nm with
   |none=>exact u5
   |some s=>exact(ht _ (mem_lookup e)).1
  have xC:(r.cs plain).length≤1:=by delta Rw.cs;refine bn (fun _=> ?_) (fun _=> ?_)<;>simp
  have pK:∀p∈dZ (r.s5 plain).cs,p.1.length≤Rs:=fun p hp=>by
   obtain⟨q,hq,rfl⟩:=Rz.mp hp;have hq:q∈r.cs plain:=hq
   delta Rw.cs at hq
   split at hq
   ·exact absurd hq RG
   ·exact J (Rr.mp hq) (gC hr.1)
  have Bv:=CT.pX (n:=n+8+1+1) (y:=ky.v) (k:=r.nm) (aW.ref B.mods hb);rw[gU,Option.getD_map] at Bv;have jS:=IS.dict (n:=n+8+1+1) (key:=r.nm) (y:=(((t.lookup r.nm).getD ky).add (r.s5 plain)).v) hb (J (mM ..) ((elt hl (JN hk dc))));rw[←q9] at jS;refine ag.cons (XT.assign (ET.call (ET.globK B (jg)) (ab.cons (ET.aT ET.name (GM.of (Ty.iY hb) (aJ.iY hb) Tv Y7 Y5)
   (ab.cons ET.name (ab.cons (ET.tuple (ab.cons ET.int (ab.cons ET.int (ab.cons ET.int (ab.cons ET.int (ab.cons (ET.uy B.mods) ab.nil))))) dc) ab.nil)) aM.builtin Bv)
   (ab.cons (ET.tuple (ab.cons ET.name (ab.cons ET.int (ab.cons ET.name (ab.cons (ET.binop ET.name ET.name (OT.mul_int (u9 hr.2.2.1))) (ab.cons ET.name ab.nil))))) (show 5≤Rs by decide)) ab.nil)) (aM.def (Dq B)) (tZ B hi (by have:=h5.len;show _+(r.cs plain).length<_;lia) h5.keys pK (h5.go r) AQ)) (bw.one (AT.sub ET.name ET.name jS))) (ag.sub ag.nil ?_)
  exact aa rfl (aa rfl (aa rfl ae))
theorem zF(B:Base){i b}{R}{plain}(MR:i≠b):∀(rows:List Rw) t k H,H[i]?=some (some (.tab 184 gP gQ))→H[b]?=some (some (AO.dict (gW t)))→(∀r∈rows,tY r)→k+rows.length≤900→t.length≤k→(∀p∈t,oh plain k p.2∧p.1.length≤1000)→(∀ob,some ob∈H→ob.dG H.length=true)→
  XF (n+8+1+1) (ay 237) (fun _=>True,fun _=>True) (jL (av (bodyOf 237) 1)) (gc (av (bodyOf 237) 1)) [] (rows.map fun x=> .lst x.l) (Jg b R plain) H .next (Jg b R plain) (H.set b (some (AO.dict (gW (rows.foldl (tabS plain) t))))):=by
 intro rows
 induction rows with
 |nil=>intro t k H _ hb _ _ _ _ _;exact J List.foldl_nil (J (fM hb) ((XF.nil trivial ag.nil)))
 |cons r rows ih=>
  intro t k H hi hb hr hk hl ht h0;have:=ih (tabS plain t r) (k+1) (H.set b (some (AO.dict (gW (tabS plain t r))))) (J (SY (SK MR)) hi) (Tn (Ru.mp hb).1) (fun x hx=>hr x (Rm _ hx)) (io hk) (ap (fN t r.nm (((t.lookup r.nm).getD ky).add (r.s5 plain))) (ba hl (Ri _))) (u7 ht (hr r Rn)) (fun ob ho=>by
   refine J SS ?_;rcases YU ho with q|q
   ·exact h0 ob q
   ·cases q;exact u8 _ _)
  rw[set_set] at this;exact XF.cons trivial trivial (AT.lB (aX.cons AT.nm (aX.cons AT.nm (aX.cons AT.nm (aX.cons AT.nm (aX.cons AT.nm (aX.cons AT.nm aX.nil))))))) (zE B hi hb (hr r Rn) (uo hk) hl ht h0) this
end
noncomputable def CV.num:CV→Int
 | .n k=>k
 | .f _=>0
noncomputable def pV(plain:Bool)(p:RN×S5):V:= .tup [.str p.1, .tup [.int p.2.a, .int p.2.b, .int p.2.c, .int p.2.d], .lst (cy (dZ p.2.cs)),if plain then .int (p.2.cs.map fun q=>q.2.num).sum else .none]
theorem B6{plain}{k}{s}(h:oh plain k s)(hp:plain=true):(dZ s.cs).map (·.2)=(s.cs.map fun q=>q.2.num).map V.int:=by
 rw[show(dZ s.cs).map (·.2)=s.cs.map fun q=>q.2.v by rw[dZ,vals,RO];rfl,RO];refine R9 fun p hq=> ?_;have:=(h.fit p hq).1;subst hp;obtain⟨k,c⟩:=p;cases c with
 |n x=>rfl
 |f l=>exact absurd this (R4)
theorem tabs_ok{plain}:∀(rows:List Rw) t k,(∀p∈t,oh plain k p.2∧p.1.length≤1000)→(t.map (·.1)).Nodup→(∀r∈rows,tY r)→(∀p∈rows.foldl (tabS plain) t,oh plain (k+rows.length) p.2∧p.1.length≤1000)∧((rows.foldl (tabS plain) t).map (·.1)).Nodup∧(rows.foldl (tabS plain) t).length≤t.length+rows.length:=by
 intro rows
 induction rows with
 |nil=>intro t k h nd _;exact⟨h,nd,Ri _⟩
 |cons r rows ih=>
  intro t k h nd hr;obtain⟨a,b,c⟩:=ih (tabS plain t r) (k+1) (u7 h (hr r Rn)) (mO nd) fun x hx=>hr x (Rm _ hx);exact RQ▸⟨by refine J (show k+(rows.length+1)=k+1+rows.length by lia) ?_;exact a,b,by refine J aa1 ?_;exact ap c (AS (ba (fN t r.nm (((t.lookup r.nm).getD ky).add (r.s5 plain))) (Ri _)))⟩
theorem rh{α:Type}:∀{l:List (RN×α)},(l.map (·.1)).Nodup→∀p∈l,l.lookup p.1=some p.2:=by
 intro l
 induction l with
 |nil=>intro _ p h;cases h
 |cons q l ih=>
  intro nd p hp;rw[RD,SG] at nd;refine J Sc ?_;rcases Rt.mp hp with rfl|hp
  ·rw[beq_self_eq_true]
  ·exact(show(p.1==q.1)=false from beq_eq_false_iff_ne.mpr fun e=>nd.1 (e▸T6 hp))▸ih nd.2 p hp
theorem k6:∀{l},(∀x∈l,x.dG k=true)→(V.lst l).dG k=true
 |[],_=>rfl
 |x::l,h=>by show(x.dG k&&bJ k l)=true;exact J (h x Rn) (J (UQ ..) ((k6 fun y hy=>h y (Rm _ hy))))
theorem Fs k plain p:(pV plain p).dG k=true:=by
 have h:(V.lst (cy (dZ p.2.cs))).dG k=true:=k6 fun x hx=>by
  obtain⟨q,hq,rfl⟩:=Rz.mp hx;obtain⟨c,hc,rfl⟩:=Rz.mp hq;cases c.2 with
  |n x=>rfl
  |f l=>
   have:(V.lst (l.map V.int)).dG k=true:=k6 fun x hx=>by obtain⟨i,_,rfl⟩:=Rz.mp hx;rfl
   show(true&&(bJ k (l.map V.int)&&true))=true;exact J (show bJ k (l.map V.int)=true from this) rfl
 show(true&&(true&&((V.lst (cy (dZ p.2.cs))).dG k&&(_&&true))))=true;refine J h ?_;cases plain<;>rfl
noncomputable def mP(plain:Bool)(rows:List Rw):Tab:=rows.foldl (tabS plain) []
section
variable{n:Nat}{F:Fx}{ρ:Loc}{H:AH}
theorem xe(B:Base){i:Nat}{rows}{plain}{H0}(hi:H0[i]?=some (some (.tab 184 gP gQ)))(hr:∀r∈rows,tY r)(hz:rows.length≤900)(AQ:∀ob,some ob∈H0→ob.dG H0.length=true):
  CT (n+8+1+1+1) (.st (.ref 237)) [.lst (rows.map fun x:Rw=>V.lst x.l), .bool plain] [] H0 (.lst ((mP plain rows).map (pV plain))) H0:=by
 let b:=H0.length;let T:=mP plain rows;have Fp:=(Ru.mp hi).1;let H1:AH:=H0++[some (AO.dict [])];obtain⟨ok,nd,hl⟩:=tabs_ok rows [] 0 (fun _ h=>absurd h RG) Tl hr;have Gn:=zF (n:=n) B (R:= .lst (rows.map fun x:Rw=>V.lst x.l)) (plain:=plain) (Te Fp) rows [] 0 H1 (J (R8 Fp) hi) (by refine J (RL (Ri _)) (J (So ..) ?_);rfl) hr (vD hz) (Ri _) (fun _ h=>absurd h RG) (fun ob ho=>by
  refine J Ro ?_;rcases RE.mp ho with q|q
  ·exact AO.cz (gl (Ri _)) (AQ ob q)
  ·cases Rr.mp q;rfl)
 rw[show H1.set b (some (AO.dict (gW (rows.foldl (tabS plain) []))))=H0++[some (AO.dict (gW T))] by refine J (Sb _ _ (Ri _)) (J (So ..) ?_);rfl] at Gn;have mC:CT (n+8+1+1+1) (.st (.ref 237)) [.lst (rows.map fun x:Rw=>V.lst x.l), .bool plain] [] H0 (.lst (T.map (pV plain))) (H0++[none]):=by
  refine CT.fn (g:= .ret (.lst (T.map (pV plain)))) (an:=[("table", .bx (gW T)),("rows", .lst (rows.map fun x:Rw=>V.lst x.l)),("plain", .bool plain)]) B (Dz B) (Binds.b2 B (H8)) (show [("rows":RN),"plain"].Nodup by decide) rfl (ag.cons (XT.assign ET.xP (bw.one (AT.name (ST.cell rfl)))) ?_);refine ag.cons (XT.for (IT.val ET.name VT.lst) Gn) (ag.freeze (ρ':=[("table", .bx (gW T)),("rows", .lst (rows.map fun x:Rw=>V.lst x.l)),("plain", .bool plain)]) B.mods (by refine J (RL (Ri _)) (J (So ..) ?_);rfl) rfl (fun y z e=> ?_) ?_)
  ·by_cases hy:y="table"
   ·subst hy;cases e;exact .inr ⟨rfl,rfl⟩
   ·refine .inl ?_;rw[lookup_cons,if_neg hy] at e;exact J lookup_cons (J (if_neg hy) ((e)))
  rw[show(H0++[some (AO.dict (gW T))]).set b none=H0++[none] by refine J (Sb _ _ (Ri _)) (J (So ..) ?_);rfl];refine ag.ret (XT.ret ?_);refine J (show T.map (pV plain)=(T.filter fun _=>true).map (pV plain) by exact J (Va.mpr fun _ _=>rfl) rfl) ?_;refine ET.lc (P:=(fun _=>True,fun _=>True)) (dI:=[("table", .bx (gW T)),("plain", .bool plain)]) T (vx:=fun p=> .str p.1) (fun _=>true) (pV plain) (ar.of rfl (aa rfl (aa rfl ae))) (IT.val ET.name ?_) trivial trivial (by have:=hl;exact ap this (vD (adr (ap hz dc)))) fun p hp=>⟨_,AT.nm,eL.nil,fun _=> ?_,aa rfl (aa rfl ae)⟩
  ·rw[show(T.map fun p=>V.str p.1)=(gW T).map fun p=>V.str p.1 by rw[gW,vals,RO];rfl];refine VT.keys fun p hp=> ?_;obtain⟨q,hq,rfl⟩:=Rz.mp hp;exact gC ((ok q hq).2)
  ·have kM:(gW T).lookup p.1=some p.2.v:=by have:=rh nd p hp;refine J (gU ..) (J (this) ?_);rfl
   have fY:∀{F}{ρ}{H}{e1 e2}{pos},ET (n+8+1+1) F e1 ρ H (.bx (gW T)) H→ET (n+8+1+1) F e2 ρ H (.str p.1) H→ET (n+8+1+1) F (.Subscript e1 e2 pos) ρ H p.2.v H:=fun h1 h2=>ET.sub h1 h2 Ty.bx VY.lookup (OT.item_dict aW.bx kM);have h4:∀{F}{ρ}{H}{e1}{k}{p1 pos},ET (n+8+1+1) F e1 ρ H p.2.v H→ET (n+8+1+1) F (.Subscript e1 (.Constant (.int 4) k p1) pos) ρ H (.bx (dZ p.2.cs)) H:=fun h1=>ET.sub h1 ET.int Ty.tup SA.lookup (OT.item_tup (show We 4 5=some 4 by decide) rfl);have m8:=(ok p hp).1;refine ET.tuple (ab.cons ET.name (ab.cons (ET.slice (fY ET.name ET.name) PT.none (PT.some ET.int) PT.none Ty.tup SA.lookup (GT.Df (show 4<5 by decide)))
    (ab.cons (ET.call (ET.az B (uM) uO) (ab.cons (ET.aT (h4 (fY ET.name ET.name)) (GM.of Ty.bx aJ.bx Tv Vg Ve) ab.nil aM.builtin (CT.view aW.bx)) ab.nil) aM.type (CT.listItems aW.bx m8.keys))
    (ab.cons (ET.de (TT.value ET.name OB.bool) (fun h=> ?_) (fun h=> ?_)) ab.nil)))) (show 4≤Rs by decide)
   ·exact J h ((ET.call (ET.globK B (l8)) (ab.cons (h4 (fY ET.name ET.name)) ab.nil) (aM.def (Ds B)) (jP B (B6 m8 h))))
   ·exact J h ((ET.none))
 exact CT.drop mC (Ri _) (k6 fun x hx=>by obtain⟨p,_,rfl⟩:=Rz.mp hx;exact Fs _ _ _) AQ
end
structure Tb P(s:RT)(W:Wd)(env:Env):Prop where
 at_:s.heap.get? P=some (tabObj #[])
 φ:P∉W.φ
 I:W.I P=none
 loc:env.locals≠P
 MS:∀n c,env.cells.lookup n=some c→c≠P
section
noncomputable abbrev zG(P:Ud)(n:Nat)(F:Fx)(gu:List Vy)(ρ:Loc)(H:AH)(f:Fl)(H':AH):Prop:=∀A s W env,aC A n→ao W H s→aA F env→cR W ρ env s.heap→Tb P s W env→
    ∀Q,(∀g s' W',Gr (fun a=>own env a∨a=P) W s W' s'→ao W' H' s'→f.rel W' g→Q g s')→
     wpAny (model prog w) A (execs gu env) Q aY s
@[irreducible] noncomputable def gh (P:Ud) (n:Nat) (F:Fx) (gu:List Vy) (ρ:Loc) (H:AH) (f:Fl) (H':AH):Prop:=zG P n F gu ρ H f H'
theorem gh.mk{P n F gu ρ H f H'}(h:zG P n F gu ρ H f H'):gh P n F gu ρ H f H':=by delta gh;exact h
theorem gh.run{P n F gu ρ H f H'}(h:gh P n F gu ρ H f H'):zG P n F gu ρ H f H':=by delta gh at h;exact h
noncomputable abbrev Ft(W:Wd)(H:AH)(s:RT):Prop:=ao W H {s with toks:=s.toks+1}
noncomputable abbrev t7(P:Ud)(n:Nat)(F:Fx)(gu:List Vy)(ρ:Loc)(H:AH)(f:Fl)(H':AH):Prop:=∀A s W env,aC A n→Ft W H s→aA F env→cR W ρ env s.heap→Tb P s W env→
    ∀Q,(∀g s' W',Gr (fun a=>own env a∨a=P) W s W' s'→ao W' H' s'→f.rel W' g→Q g s')→
     wpAny (model prog w) A (execs gu env) Q aY s
@[irreducible] noncomputable def gX (P:Ud) (n:Nat) (F:Fx) (gu:List Vy) (ρ:Loc) (H:AH) (f:Fl) (H':AH):Prop:=t7 P n F gu ρ H f H'
theorem gX.mk{P n F gu ρ H f H'}(h:t7 P n F gu ρ H f H'):gX P n F gu ρ H f H':=by delta gX;exact h
theorem gX.run{P n F gu ρ H f H'}(h:gX P n F gu ρ H f H'):t7 P n F gu ρ H f H':=by delta gX at h;exact h
end
section
variable{n:Nat}{F:Fx}{ρ an:Loc}{H H1 H2:AH}{g:Fl}{P:Ud}
theorem Tb.own(t:Tb P s W env):¬own env P:=fun h=>by
 rcases h with h|⟨_,m,_,h⟩
 ·exact t.loc h.symm
 ·exact t.MS m P h rfl
theorem Tb.step{W W'}{env}(t:Tb P s W env)(G:Gr (Internal.own env) W s W' s'):Tb P s' W' env:=by
 have xD:=t.own;have hn:s.heap.get? P≠none:=t.at_▸nofun;refine⟨G.heap _ _ t.at_ t.φ xD,fun h=> ?_, ?_,t.loc,t.MS⟩
 ·rcases G.cI _ h with q|q|q
  ·exact t.φ q
  ·exact hn q
  ·exact xD q
 ·cases e:W'.I P with
  |none=>rfl
  |some o=>
   rcases G.gt _ o e with q|q|q|q
   ·cases t.I.symm.trans q
   ·exact absurd q t.φ
   ·exact absurd q hn
   ·exact absurd q xD
theorem gh.cons{st}{rest}(h:XT n F st ρ H .next an H1)(hr:gh P n F rest an H1 g H2):gh P n F (st::rest) ρ H g H2:=by
 refine .mk fun A s W env R S E f T Q q=>(Xb (h.run A s W env R S E f _ fun fl s1 W1 G1 S1 f1 r1=> ?_));cases r1;exact hr.run A s1 W1 env R S1 E f1 (T.step G1) _ fun fl s2 W2 G2 S2 r2=>q fl s2 W2 ((G1.weaken fun _=> .inl).trans G2) S2 r2
theorem gh.adopt(h:ag n F gu ρ (H++[some (.tab P p u)]) g an H1):gh P n F gu ρ H g H1:=by
 refine .mk fun A s W env R S E f T Q q=> ?_;obtain⟨S1,G1,l⟩:=S.sY (ob:= .tab P p u) ⟨T.φ,T.I⟩ (T.at_▸nofun) ⟨rfl,#[],T.at_, .inl rfl⟩;refine h.run A s _ env R S1 E (f.di G1 T.loc T.MS) Q fun fl s2 W2 G2 S2 f2 r2=>q fl s2 W2 ((G1.weaken fun _=> .inr).trans (G2.weaken fun _=> .inl)) S2 r2
theorem gX.first{ts cs}{i}{k}{cp lp bp pos}{op}{r}{xs}{y z}{rest}{H3}(hc:ab n F lp cs ρ H xs H)(hz:(V.int i::xs).length≤Rs)(hr:ET n F r ρ H y H)(ho:OT n (Wo op) (.lst (.int i::xs)) y H z H)(h:bw n F ts z ρ H an H1)
  (Jh:gh P n F rest an H1 g H3) (hs:autoParam (∀env,Z3 ts (.BinOp (.List (.Constant (.int i) k cp::cs) lp) op r bp) pos.line env=pure false) aI) (hw:autoParam (∀env,aA F env→Ui ts (.BinOp (.List (.Constant (.int i) k cp::cs) lp) op r bp) env=pure none) aI):
  gX P n F (.Assign ts (.BinOp (.List (.Constant (.int i) k cp::cs) lp) op r bp) pos::rest) ρ H g H3:=by
 refine .mk fun A s W env R S0 E f T Q q=> ?_;have G0:Gr ct W s W {s with toks:=s.toks+1}:=Gr.dF W s _;refine Xb (abe (aa8 (wpAny_List (W9 (abw ?_) (cK rfl env)))) (hs env) (hw env E));refine hc.run A {s with toks:=s.toks+1} W env R S0 E f _ fun vs s1 W1 G1 S1 r1=>⟨by refine J RQ (J r1.length ?_);exact hz, ?_⟩;refine Rg fun kG=> ?_;obtain⟨S2,G2⟩:=S1.put (fR "list" (.int i s.toks::vs) 0);refine kG (hr.run A _ _ env R S2 E (((f.step G0).step G1).step G2) _ fun b s3 W3 G3 S3 r3=>(ho.run A s3 W3 _ b R S3 (⟨_,_,0,rfl,G3.le.2.1 _ _ (Wd.al ..),⟨_,_,rfl,⟨_,rfl⟩,(r1.mono G2.le).mono G3.le⟩,hz⟩) r3 _ fun v s4 W4 G4 S4 r4=> ?_));have G:=((((G0.trans G1).trans G2).trans G3).trans G4);refine h.run A s4 W4 env v R S4 E (f.step G) r4 _ fun s5 W5 G5 S5 f5=> ?_;have Gx:=(G.of).trans G5;exact Jh.run A s5 W5 env R S5 E f5 (T.step Gx) _ fun fl s6 W6 G6 S6 r6=>q fl s6 W6 ((Gx.weaken fun _=> .inl).trans G6) S6 r6
theorem CC.MT(K:Fn a fd)(lim:∀h:VN,(∀a o,br a=some o→h.get? a=some o)→h.NoLimit)
  (hb:fd.body= .stmts body) (hB:Binds fd xs [] bs) (hn:(bs.map (·.1)).Nodup) (hk:∀x∈bs.map (·.1),fd.scope.names.lookup x=some .local∨fd.scope.names.lookup x=some .cell)
  (h:gX P n ⟨fd.scope.names,fd.code,true,some (fd.qualname++".<locals>.")⟩ body bs H g H1) {A} {s} {W} {vs} (R:aC A (n+1)) (S:Ft W H s) (rx:ak W xs vs) (h1:s.heap.get? P=some (tabObj #[])) (h2:P∉W.φ) (h3:W.I P=none)
  {Q} (q:∀v s' W',Gr (fun a=>a=P) W s W' s'→ao W' H1 s'→Rel W' g.out v→Q v s'):wpAny (model prog w) A (call (.ref a) vs) Q aY s:=by
 refine Vk (Rg fun kG=> ?_);obtain⟨o,ho,hd⟩:=K.at_;obtain⟨b,hL,CS⟩:=hB s.heap W vs [] S.ground rx rfl;refine kG (aaA R.lt (S.ground _ _ ho) hd K.co K.gen hb (K.code _ S.ground) (hL.here ?_));refine J K.F5 (wpAny_toks (Vb K.kind (fun y hy=> ?_) fun env he s' x ht=> ?_))
 ·rcases hk _ (CS.names▸Rz.mpr ⟨y,hy,rfl⟩) with q|q
  ·exact .inl q
  ·exact .inr ⟨q,bc _ _ _ _ (.inl q)⟩
 ·have vE:env=callEnvC fd s.heap.objs.size a:=he;subst vE;obtain⟨f,S',G1⟩:=hO S hn CS hk (show InCallC {s with toks:=s.toks+1} (callEnvC fd s.heap.objs.size a).locals _ (callEnvC fd s.heap.objs.size a).cells _ {s' with toks:=s'.toks+1} from⟨⟨let⟨h,_,e⟩:=x.toInCall.same;⟨h,s'.toks+1,by rw[e]⟩,x.toInCall.ns,x.toInCall.keep,x.toInCall.fresh⟩,x.cell,x.apart,x.above⟩) (Ue ht);have G':Gr ct W s W s':=⟨G1.le,G1.cI,G1.gt,G1.heap,G1.there,G1.os,G1.gens⟩;refine⟨lim _ S'.ground,codeAny_func ?_⟩;have cg:=RV h1;have above:=fun n c hc=>x.above n c (mem_of_lookup hc);refine RM (h.run (A.deeper _) s' W _ (R.deeper _) S' (⟨rfl,K.kind,K.glob,K.F6,rfl,K.co,(fun _ y c _ hc=>x.above y c (mem_of_lookup hc)),(fun q h=>by cases h;rfl)⟩) f (⟨G'.heap _ _ h1 h2 id,h2,h3,fun e=>Tq cg e,fun n c hc e=>Nat.lt_asymm cg (e▸above n c hc)⟩) (fun fl s2=>Q (match fl with| .ret v=>v|_=> .none) s2) fun fl s2 W2 G2 S2 r2=> ?_) (fun fl s2 h2=> ?_) fun _ _ e=>e.elim
  ·have G3:Gr (fun a=>a=P) W s W2 s2:=by
    refine Gr.base G'.of G2 fun y o h=> ?_;rcases o with(o|⟨_,m,_,o⟩)|o
    ·rw[o] at h;exact absurd (af _) h
    ·have cg:=above m y o;cases q:s.heap.get? y with
     |none=>exact absurd q h
     |some o=>exact absurd (RV q) (T8.mpr (TC cg))
    ·exact o
   cases g with
   |next=>cases r2;exact q _ s2 W2 G3 S2 rfl
   |ret z=>obtain⟨v,e,r⟩:=r2;subst e;exact q _ s2 W2 G3 S2 r
  ·cases fl<;>exact h2
end
theorem zH:VO (.type "method_descriptor") "__get__"=pure (some (.builtin "method_descriptor.__get__")):=rfl
theorem Fu:VO (.type "method_descriptor") "__set__"=pure none:=rfl
theorem Fv:VO (.type "method_descriptor") "__delete__"=pure none:=rfl
theorem ri:Slot "method_descriptor" "__get__" "method_descriptor.__get__":=
 .of (owner:="method_descriptor") (n:="__get__") zH rfl rfl rfl
  dc rfl
theorem pg:Xm aaN "method_descriptor.__get__"=some Builtin.«method_descriptor.__get__»:=Y0 rfl
theorem rj(a b c:Value):argsOk "method_descriptor.__get__" ⟨[a,b,c],[]⟩:=kr
theorem sub_list_list:Xi (.type "list") (.type "list")=pure true:=rfl
theorem t9{s}{a}{P}(hT:s.TypeIs (.ref a) "list")(h:P (.done (.ret (.ref s.heap.objs.size))) {s with heap:=s.heap.push (bq "list.append" (.ref a))}):
  wpAny M A (Builtin.«method_descriptor.__get__» ⟨[.builtin "list.append", .ref a, .type "list"],[]⟩) P E s:=by
 refine Rh (SX (a:=(.builtin "list.append",some (.ref a),some (.type "list"))) rfl ?_);dsimp only
 repeat (any_goals (first|assumption|wp_step))
 refine J (show(".".intercalate ("list.append".cutAt '.').dropLast)="list" from rfl) ?_;refine SX sub_list_list ?_
 repeat (any_goals (first|assumption|wp_step))
theorem ph a xs k sl u:
  Meets (Builtin.«object.__getattribute__» ⟨[.ref a, .str "append" u],[]⟩) (fun A R s=>s.heap.get? a=some {cls:= .type "list",dict:=none,data:= .seq xs k,slots:=sl}∧R (.ok (.ret (.ref s.heap.objs.size))) {s with heap:=s.heap.push (bq "list.append" (.ref a))}):=
 Meets.of_wp fun prog w A R s hs=>by
  obtain⟨hx,hs⟩:=hs;have hT:s.TypeIs (.ref a) "list":=⟨_,hx,rfl⟩;have f1:=PySem.slot_list_append.lookup;have f2:=zH;have f3:=Fu;have f4:=Fv;have f5:=type_list_append
  repeat (any_goals (first|assumption|((with_reducible show wpAny _ _ (call (abg "method_descriptor.__get__") _ _) _ _ _);refine wpAny_call_entry ri type_list_append pg (t9 ⟨_,hx,rfl⟩ ⟨_,rfl, ?_⟩) (rj _ _ _))|wp_step))
  exact⟨_,rfl,hs⟩
theorem jZ{s}{a}{xs}{k}{sl}{Q}(hx:s.heap.get? a=some {cls:= .type "list",dict:=none,data:= .seq xs k,slots:=sl})
  (h:Q (.ref s.heap.objs.size) {s with heap:=s.heap.push (bq "list.append" (.ref a)),toks:=s.toks+1}):wpAny (model prog w) A (getAttr (.ref a) "append" true) Q E s:=by
 obtain⟨hp,g,d,tk,os⟩:=s;have hT:∀L4,(⟨hp,g,d,L4,os⟩:RT).TypeIs (.ref a) "list":=fun _=>⟨_,hx,rfl⟩;have f3:=F.slot_list_getattribute.lookup;have f4:=F.slot_list_getattribute.bind (.ref a)
 repeat (any_goals (first|assumption|exact hT _|((with_reducible show wpAny _ _ (call (abg "list.__getattribute__") _ _) _ _ _);refine call_meets F.slot_list_getattribute (hT _) am_entry_list_getattribute (F.args_list_getattribute_2 _ _) (ph a xs k sl _) ⟨hx, ?_⟩)|wp_step))
 show wpAny _ _ (handedOut (.ref hp.objs.size)) _ _ _
 repeat (any_goals (first|assumption|wp_step))
section
variable{n:Nat}{F:Fx}{ρ:Loc}{H:AH}
theorem GA.app(hj:H[j]?=some (some (.list l))):GA n (.ref j) "append" H (.bm "list.append" (.ref j)) H:=by
 refine .mk ?_;intro A s W a R S r Q q;have r':=r;obtain⟨a',rfl,p⟩:=r';obtain⟨b,p',_,vs,m,ho,_⟩:=S.live _ _ hj;cases p▸p';refine jZ ho ?_;obtain⟨S2,G2⟩:=(S.tok (s.toks+1)).put (o:=bq "list.append" (.ref a')) rfl;exact q _ _ _ ((Gr.dF W s _).trans G2) S2 ⟨_,_,rfl,Wd.al ..,r.mono G2.le⟩
noncomputable def rm{α:Type}(lo hi st:Option Int)(l:List α):List α:=(sliceRange (Vj lo hi st l.length).1 (Vj lo hi st l.length).2.1 (Vj lo hi st l.length).2.2).filterMap (l[·]?)
theorem ak.pick(r:ak W l us):∀is:List Nat,ak W (is.filterMap (l[·]?)) (is.filterMap (us[·]?)):=by
 intro is
 induction is with
 |nil=>rfl
 |cons i is ih=>
  refine J Xu (J Xu ?_);cases e:l[i]? with
  |none=>
   rw[Sw (r.length▸List.getElem?_eq_none_iff.mp e)];exact ih
  |some x=>
   obtain⟨v,e2,rv⟩:=r.get e;exact J e2 ((⟨v,_,rfl,rv,ih⟩))
theorem GT.B7{lo hi st}(h0:st≠some 0):GT n (.lst l) lo hi st H (.lst (rm lo hi st l)) H:=by
 refine .mk fun A s W o a vl vu vs R S r hs pl pu ps Q q=> ?_;obtain⟨a,us,m,rfl,im,r,hz⟩:=r;have hlen:=r.length;refine ZX (aB S im) hs pl pu ps h0 ?_ (ap (bD hlen) hz);have hsz:=slicePick_size_le us.toArray lo hi st;unfold slicePick at hsz⊢;simp only[RI,hlen,Sm] at hsz⊢;obtain⟨S2,G2⟩:=S.put (fR "list" ((sliceRange (Vj lo hi st l.length).1 (Vj lo hi st l.length).2.1 (Vj lo hi st l.length).2.2).filterMap (us[·]?)) 0);have rp:=r.pick (sliceRange (Vj lo hi st l.length).1 (Vj lo hi st l.length).2.1 (Vj lo hi st l.length).2.2);refine q _ _ _ G2 S2 ⟨_,_,0,rfl,Wd.al ..,rp.mono G2.le, ?_⟩;exact Rq (UK rp.length.symm) (ap hsz hz)
theorem xf(f:α→β)(lo hi st:Option Int) l:rm lo hi st (l.map f)=(rm lo hi st l).map f:=by
 delta rm
 refine J (Rk ..) (J (List.map_filterMap ..) ?_);congr 1;funext i;rw[Sx]
theorem aM.cls(B:Base){f}(h:keepIn (KK) f=true):aM (.st f):= .mk fun s W H v S r=>by
 cases r;exact keeps_K h s.heap (B.In s.heap S.ground)
end
noncomputable def d0:List Int:=[0,5,3,10,5,23,2,2,8,2,15,5,3,2,28,2,5,13]
noncomputable def fc(xs:List Int):List Int:=d0++xs.take 10
noncomputable def Fw:List (Nat×Int):=[(0,4),(1,36),(2,90),(3,143)]
noncomputable def B8(xs:List Int)(p:Nat×Int):LF:=iP (p.2+(rm (some p.1) none (some 4) xs).sum)
noncomputable def mQ(xs:List Int):List LF:=Fw.map (B8 xs)
noncomputable def f3(xs:List Int):LF:=B8 xs (3,143)
noncomputable def B9(xs:List Int):RN:="{"++(f3 xs).nm++"}c"
noncomputable def endOf(xs:List Int):RS:=RS.run (mQ xs) (fc xs) ⟨Tg.t0 (B9 xs),[],[],[]⟩
noncomputable def textOf(xs:List Int):RN:=SF "" (endOf xs).t.told
noncomputable def iG(xs:List Int)(l:List (List RN)):List (List RN):=l.filter fun w=> !w.contains (f3 xs).text
noncomputable def ic(xs:List Int):Bool:=xs.sum.fmod 2==1
structure ro xs:Prop where
 run:nY (mQ xs) (fc xs) ⟨Tg.t0 (B9 xs),[],[],[]⟩
 way:∀x∈(endOf xs).calls++(endOf xs).ticks,o8 x
 len:(endOf xs).calls.length≤1000∧(endOf xs).ticks.length≤1000
 Ji:XK "" (endOf xs).t.told=true
 size:(textOf xs).length≤1000000
 read:∃(hd:RN)(ps:List (RN×Pc)),Sl (textOf xs) "<"=hd::ps.map (·.1)∧ps.length≤800∧(∀q∈Sl (textOf xs) "<",q.length≤10000)∧mA ⟨[],[],[],[]⟩ ps∧
  (∀r∈((ps.map (·.2)).foldl Rd.step ⟨[],[],[],[]⟩).rows,tY r)∧((ps.map (·.2)).foldl Rd.step ⟨[],[],[],[]⟩).rows.length≤900∧
  (mP (ic xs) ((ps.map (·.2)).foldl Rd.step ⟨[],[],[],[]⟩).rows).map (pV (ic xs))=(mJ (iG xs (endOf xs).calls) (iG xs (endOf xs).ticks)).map (sh (ic xs))
 ok:(V.lst ((mJ (iG xs (endOf xs).calls) (iG xs (endOf xs).ticks)).map (sh (ic xs)))).ok=true
section
variable{n:Nat}{F:Fx}{ρ:Loc}{H:AH}
noncomputable abbrev Ki:AO:= .tab 123 tj qy
noncomputable abbrev Fj(xs:List Int):Loc:=[("ticks", .ref 12),("calls", .ref 11),("target", .ref 2),("out", .str (f3 xs).text),("told", .ref 1),("functions",DS (mQ xs)),("deeds", .lst ((fc xs).map V.int)),("script", .lst (xs.map V.int))]
theorem xg(B:Base){xs}(O:ro xs)(hz:xs.length≤1000){g}{H'}(hr:gh 184 (n+8+1+1+1) (ay 252) ((bodyOf 252).drop 5) (Fj xs) (endOf xs).h g H'):
  gX 184 (n+8+1+1+1) (ay 252) (bodyOf 252) [("script", .lst (xs.map V.int))] [some Ki] g H':=by
 have hs:=R2;have tS:cut none (some 10) (xs.map V.int)=(xs.take 10).map V.int:=by
  show((xs.map V.int).drop 0).take (Yj (xs.map V.int).length ((10:Nat):Int)-0)=_;rw[VG,clipAt_nat,Yc,Rk,List.map_take];rcases Yh 10 xs.length with h|h
  ·rw[YL h]
  ·rw[Yv h,Tc (by simp),Tc (by simpa using h)]
 have Jj:=OT.kP (n:=n+8+1+1+1) (H:=[some Ki]) (l:=d0.map V.int) (l':=cut none (some 10) (xs.map V.int)) (by refine J tS ?_;simp[d0];lia);rw[tS,show d0.map V.int++(xs.take 10).map V.int=(fc xs).map V.int by rw[fc,RH]] at Jj;refine gX.first ?_ dc (tS▸ET.dJ (ET.name rfl) PT.none (PT.some ET.int)) Jj bw.nm ?_
 ·repeat (first|exact ab.nil|refine ab.cons ET.int ?_)
 let cV:Loc:=[("functions",DS (mQ xs)),("deeds", .lst ((fc xs).map V.int)),("script", .lst (xs.map V.int))];refine gh.cons (an:=cV) (by
  refine aQ (show V.lst ((Fw.filter fun _=>true).map fun p=>(B8 xs p).v)=DS (mQ xs) by rfl) ?_;exact XT.lc (hsw:=fun _ E=>kX E kr kr kr) (dI:=[("script", .lst (xs.map V.int))]) Fw (vx:=fun p=> .tup [.int p.1, .int p.2]) (fun _=>true) (fun p=>(B8 xs p).v) (ar.of rfl (aa rfl ae))
   (IT.call (ET.az B (jh) ji) (ab.cons (ET.list (ab.cons ET.int (ab.cons ET.int (ab.cons ET.int (ab.cons ET.int ab.nil))))) ab.nil) aM.type CI.enum) trivial rfl dc fun p hp=>⟨_,AT.two,eL.nil,fun _=>
    ET.call (ET.globK B (jI)) (ab.cons (ET.binop (ET.name rfl) (ET.call (ET.az B (yJ) yM) (ab.cons (by exact aQ (xf ..) (ET.slice (ET.name rfl) (PT.some (ET.name rfl)) PT.none (PT.some ET.int) Ty.lst RU.lookup (GT.B7 dc))) ab.nil) aM.builtin CT.sum) OT.add_int) ab.nil) (aM.def (Dt B)) (wE B _),aa rfl ae⟩) ?_
 have hg:(f3 xs).good:=nV _;let hU:Loc:=("out", .str (f3 xs).text)::("told", .ref 1)::cV;refine gh.cons (XT.assign (ET.tuple (ab.cons (ET.ed ab.nil) (ab.cons (ET.sub (ET.sub (ET.name rfl) ET.int Ty.lst RU.lookup (OT.a9 rfl rfl)) ET.int Ty.tup SA.lookup (OT.item_tup (show We 1 2=some 1 by decide) rfl)) ab.nil)) (show 2≤Rs by decide))
  (bw.one (AT.tuple (aX.cons AT.nm (aX.cons (AT.name (ST.cell rfl)) aX.nil)))) (fun _=>rfl) (fun env E=>dz E rfl)) ?_
 let Gk:Loc:=("target", .ref 2)::hU;have hex:∀{H},ET (n+8+1+1+1) (ay 252) (cM 0 (kwAt 1 (gM (av (bodyOf 252) 3)))) hU H (.str (B9 xs)) H:=fun {H}=>
  ET.binop (ET.binop ET.str (ET.call (ET.globK B (eR)) (ab.cons (ET.sub (ET.sub (ET.name rfl) ET.int Ty.lst RU.lookup (OT.a9 rfl rfl)) ET.int Ty.tup SA.lookup (OT.item_tup (show We 0 2=some 0 by decide) rfl)) ab.nil) (aM.def (yH B)) (qO B hg.hi (Rq hg.hf dc) hg.m8 (Rq hg.hn dc)))
   (OT.add_str (by exact iI (ap (ba (Ri _) hg.nl) dc)))) ET.str (OT.add_str (by rw[RC];exact iI (ap (ba (ba (Ri _) hg.nl) (Ri _)) dc)))
 refine gh.cons (XT.assign (ET.Dd (ET.globK B (iu)) (ab.cons (ET.attr (ET.name rfl) (GA.app rfl)) ab.nil)
  (yy.cons ET.bool (yy.cons (ET.list (ab.cons hex ab.nil) (show 1≤Rs by decide)) yy.nil)) (aM.cls B rfl) (CT.make (fun h k=>B.In h k) rfl rfl rfl (wF B))) bw.nm) ?_
 exact gh.cons (XT.assign (ET.call (ET.globK B (qv)) (ab.cons (ET.name rfl) (ab.cons (ET.name rfl) (ab.cons (ET.name rfl) ab.nil))) (aM.def (Du B)) (zd B (fun f hf=>by obtain⟨p,_,rfl⟩:=Rz.mp hf;exact nV _) (by show 4≤10;decide) O.run)) (bw.one AT.two)) hr
end
section
variable{n:Nat}{F:Fx}{ρ:Loc}{H:AH}
theorem OT.mR{l:List RN}{x}(hl:∀x∈l,Rv x=true)(hx:Rv x=true):OT (n+8) (Sv .NotIn) (.str x) (.lst (l.map V.str)) H (.bool (!l.contains x)) H:=by
 rw[←any_beq,show(l.any fun y=>y==x)=(l.map V.str).any fun y=>V.eqv y (.str x) by rw[WN];rfl];exact OT.jE (gT hl) (so hx)
noncomputable abbrev Fz(ρ ρ':Loc)(k:Nat)(x:V):Prop:=∀y z,ρ'.lookup y=some z→ρ.lookup y=some z∨(z=x∧ρ.lookup y=some (.ref k))
theorem ua:Fz ρ [] k x:=fun _ _ e=>by cases e
theorem cU{x b}{a}(e:ρ.lookup a=some b)(h:Fz ρ ρ' k x):Fz ρ ((a,b)::ρ') k x:=fun y z q=>by
 replace q:=lookup_cons▸q;revert q;refine bn (fun _ q=> ?_) fun _ q=> ?_
 ·rename_i hy;subst hy;cases q;exact .inl e
 ·exact h y z q
theorem pi{k}{x}{a}(e:ρ.lookup a=some (.ref k))(h:Fz ρ ρ' k x):Fz ρ ((a,x)::ρ') k x:=fun y z q=>by
 replace q:=lookup_cons▸q;revert q;refine bn (fun _ q=> ?_) fun _ q=> ?_
 ·rename_i hy;subst hy;cases q;exact .inr ⟨rfl,e⟩
 ·exact h y z q
noncomputable abbrev Kj:AO:= .tab 184 gP gQ
noncomputable def Hx(xs:List Int):AH:=((((endOf xs).h++[some Kj]).set 11 none).set 12 none).set 1 none
theorem ub xs:∀ob,some ob∈Hx xs→ob.dG (Hx xs).length=true:=by
 intro ob h;have el:(Hx xs).length=(endOf xs).h.length+1:=by refine J SS (J SS (J SS (J Ro ?_)));rfl
 refine J el ?_;have mem:∀{l:AH}{k},some ob∈l.set k none→some ob∈l:=fun q=>by
  rcases YU q with q|q
  ·exact q
  ·cases q
 rcases RE.mp (mem (mem (mem h))) with q|q
 ·exact AO.cz (TP _) ((Tg.dG hZ) ob q)
 ·cases Rr.mp q;rfl
theorem uc xs:(Hx xs)[(endOf xs).h.length]?=some (some Kj):=by
 have hl:13≤(endOf xs).h.length:=by
  refine J (Tg.qK (endOf xs).t (bM (endOf xs).calls (endOf xs).ticks (endOf xs).way) []) (J Ro ?_);show 13≤11+(3+_);exact OJ (gl dc)
 delta Hx
 rw[SY (F1 (ap dc hl)),SY (F1 hl),SY (F1 (ap dc hl)),RL (Ri _),So];rfl
theorem zI(B:Base){xs}(O:ro xs)(Fi:Rv (f3 xs).text=true):gh 184 (n+8+1+1+1) (ay 252) ((bodyOf 252).drop 5) (Fj xs) (endOf xs).h (.ret (.bool true)) (Hx xs):=by
 let C:=(endOf xs).calls;let T:=(endOf xs).ticks;let told:=(endOf xs).t.told;let Qw:Loc:=[("ticks", .ref 12),("calls", .lst (C.map wV)),("out", .str (f3 xs).text),("told", .ref 1),("script", .lst (xs.map V.int))];let Qx:Loc:=[("ticks", .lst (T.map wV)),("calls", .lst (C.map wV)),("out", .str (f3 xs).text),("told", .ref 1),("script", .lst (xs.map V.int))];let Ov:Loc:=[("ticks", .lst (T.map wV)),("calls", .lst (C.map wV)),("out", .str (f3 xs).text),("told", .lst (told.map V.str)),("script", .lst (xs.map V.int))];let kept:=iG xs C;let left:=iG xs T;let J9:Loc:=("kept", .lst (kept.map wV))::("left", .lst (left.map wV))::Ov;let MU:Loc:=("plain", .bool (ic xs))::J9;refine Rg fun kG=> ?_;obtain⟨hd,ps,oW,Qy,hq,Jk,Qz,QA,heq⟩:=O.read;refine kG ?_;let rows:=((ps.map (·.2)).foldl Rd.step ⟨[],[],[],[]⟩).rows;have hC:=fun x hx=>O.way x (RY _ hx);have hT:=fun x hx=>O.way x (Sg _ hx);have hk:∀{l},(∀x∈l,o8 x)→∀x∈iG xs l,o8 x:=fun h x hx=>h x (Sk.mp hx).1;have lk:∀{l},l.length≤1000→(iG xs l).length≤1000:=fun h=>Rq (SR ..) h;refine gh.adopt (p:=gP) (u:=gQ) (an:=MU) (ag.freeze (ρ':=Qw) B.mods rfl rfl (cU rfl (pi rfl (cU rfl (cU rfl (cU rfl ua))))) ?_);refine ag.freeze (ρ':=Qx) B.mods rfl rfl (pi rfl (cU rfl (cU rfl (cU rfl (cU rfl ua))))) (ag.freeze (ρ':=Ov) B.mods rfl rfl (cU rfl (cU rfl (cU rfl (pi rfl (cU rfl ua))))) ?_);refine ag.cons (an:=J9) (XT.fU (xs:=["kept","left"]) (ET.tuple (ab.cons (ET.lc (dI:=[("out", .str (f3 xs).text)]) C (fun w=> !w.contains (f3 xs).text) wV (ar.of rfl (aa rfl ae)) (IT.val ET.name VT.lst) trivial trivial (Rq O.len.1 dc)
   fun x hx=>⟨_,AT.nm,eL.one (TT.cmp ET.name ET.name (OT.mR (hC x hx).ok Fi)),fun _=>ET.name rfl,aa rfl ae⟩)
  (ab.cons (ET.lc (dI:=[("out", .str (f3 xs).text)]) T (fun w=> !w.contains (f3 xs).text) wV (ar.of rfl (aa rfl ae)) (IT.val ET.name VT.lst) trivial trivial (Rq O.len.2 dc)
   fun x hx=>⟨_,AT.nm,eL.one (TT.cmp ET.name ET.name (OT.mR (hT x hx).ok Fi)),fun _=>ET.name rfl,aa rfl ae⟩) ab.nil)) (show 2≤Rs by decide)) ⟨ST.local rfl,ST.local rfl,trivial⟩ rfl (fun _=>rfl) (fun env E=>cY E rfl)) ?_
 refine ag.cons (XT.assign (ET.cmp (ET.binop (ET.call (ET.az B (yJ) yM) (ab.cons ET.name ab.nil) aM.builtin CT.sum) ET.int (OT.mod_int dc)) ET.int OT.eq_int) bw.nm) (ag.ret (XT.ret ?_));have hp:=xe (n:=n) B (plain:=ic xs) (uc xs) Qz QA (ub xs);rw[heq] at hp;have Jl:=OT.Es (n:=n+3) (H:=Hx xs) O.ok O.ok (fun _ e=>e) (fun _ e=>e);rw[zg O.ok] at Jl;exact ET.cmp (ET.call (ET.globK B (kF)) (ab.cons (ET.call (ET.globK B (oO)) (ab.cons (ET.aT ET.str (GM.of Ty.str aJ.str Sd WH WG) (ab.cons ET.name ab.nil) aM.builtin (CT.join O.Ji (gC O.size))) ab.nil) (aM.def (Dy B)) (wT B oW (eI Qy) hq Jk (ub xs))) (ab.cons ET.name ab.nil)) (aM.def (Dz B)) hp)
  (ET.call (ET.globK B (qw)) (ab.cons ET.name (ab.cons ET.name (ab.cons ET.name ab.nil))) (aM.def (DA B)) (zv B (hk hC) (hk hT) (lk O.len.1) (lk O.len.2) (ub xs))) Jl
end
theorem mS{a}(h1:a≠123)(h2:a≠184):Ax h a=h.get? a:=by
 unfold Ax;rw[if_neg];rintro(e|e)
 ·exact h1 e
 ·exact h2 e
theorem rz(e:Ax h a=some o):h.get? a=some o:=by
 unfold Ax at e;revert e;refine bn (fun _ e=> ?_) fun _ e=> ?_
 ·cases e
 ·exact e
theorem vc{h h':VN}{a}{m}(hn:h.Ns a m)(k:∀b o,Ax h b=some o→h'.get? b=some o)(h1:a≠123)(h2:a≠184):h'.Ns a m:=nG hn fun o e=>k _ _ ((mS h1 h2)▸e)
theorem zJ P:((K0 P).lookup 123).isNone=true∧((K0 P).lookup 184).isNone=true:=⟨kr,kr⟩
theorem Fy:Ww KK mainGlobals "law"=some (some (.ref 252)):=rfl
theorem Ca(G:Ground q0 iH rW.row.toRowW.records (fun m h=>m=mg∧XL q0 [] m h) w pO mg mb h)(Y:fu.says w h)(I:Ax h=br):Base:=by
 refine⟨fun a o e=> ?_,⟨fun h' k=>vc G.T.g (I▸k) dc dc,fun h' k=>⟨mb,vc G.T.b (I▸k) dc dc,G.T.builtins⟩,fun h' k=> ?_,fun h' k=> ?_⟩, ?_,fun h' k=> ?_⟩
 all_goals rw[←I] at*
 ·have h1:a≠123:=fun q=>by subst q;have:=(zJ w.params).1;cases(e)▸this
  have h2:a≠184:=fun q=>by subst q;have:=(zJ w.params).2;cases(e)▸this
  exact(mS h1 h2)▸(km_in_of Y) _ _ e
 ·obtain⟨mc,hn,r⟩:=G.T.nolimit;exact⟨mc,vc hn k dc dc,r⟩
 ·obtain⟨mc,hn,r⟩:=G.T.nodigits;exact⟨mc,vc hn k dc dc,r⟩
 ·obtain⟨mm,hn,_⟩:=(G.T.seer rfl).mods;obtain⟨o,es,ep,ho,_⟩:=hn;exact⟨o,by exact J (mS dc dc) ho⟩
 ·obtain⟨bm,ob,e1,e2,e3,e4,e5,e6⟩:=G.T.bmain;have n1:bm≠123:=fun q=>by subst q;rw[(YA Y 123 dc)] at e3;cases e3;cases e4
  have n2:bm≠184:=fun q=>by subst q;replace e3:=((YA Y 184 dc))▸e3;cases e3;cases e4
  have n3:bm≠mainGlobals:=fun q=>by
   subst q;obtain⟨o,es,ep,ho,hd,_⟩:=G.T.g;cases ho.symm.trans e3;cases hd.symm.trans e6
  exact⟨bm,ob,e1,e2,n3,n1,k _ _ ((mS n1 n2)▸e3),e4,e5,e6⟩
theorem Cb:∀{args},aaW R args [.list .int]=true→∃ds,args=[.list ds]∧aap R ds .int=true:=by
 intro args h;cases args with
 |nil=>cases h
 |cons d r=>
  have h:(ZU R d (.list .int)&&aaW R r [])=true:=h;rw[RA] at h;cases r with
  |cons e r=>exact absurd h.2 R4
  |nil=>
   have h:=h.1;cases d with
   |list ds=>exact⟨ds,rfl,(WQ _ _).mp h|>.elim (fun h=>h) fun h=>absurd h R4⟩
   |_=>exact absurd h R4
theorem ints_of:∀{ds}{vs},aap R ds .int=true→WellAll P h vs ds→∃xs:List Int,ds.length=xs.length∧ak W (xs.map V.int) vs:=by
 intro ds
 induction ds with
 |nil=>intro vs _ hw;cases hw;exact⟨[],rfl,rfl⟩
 |cons d ds ih=>
  intro vs hi hw;have hi:=hi;replace hi:=(RA ..)▸hi;cases hw with
  |cons hw hr=>
   obtain⟨xs,e,r⟩:=ih hi.2 hr;cases hw with
   |int i t=>exact⟨i::xs,congrArg (·+1) e,_,_,rfl,⟨t,rfl⟩,r⟩
   |_=>exact absurd hi.1 R4
theorem Cc(h:rW.row.toRowW.pre.holds rW.row.toRowW.records {args:=[.list ds]}=true):ds.length≤63:=by
 have e:rW.row.toRowW.pre.holds rW.row.toRowW.records {args:=[.list ds]}= !(decide (63<(ds.length:Int))):=by
  show ZA _ (.and (.not (.lt (.lit (.int 63)) (.len (.arg 0)))) (.lit (.bool true))) _=_;simp[ZA,WTm.value];refine J (show less? (WData.int 63) (WData.int ds.length)=some (decide (63<(ds.length:Int))) from rfl) ?_;cases decide (63<(ds.length:Int))<;>rfl
 rw[e] at h;simp at h;lia
theorem zK(B:Base)(Y:fu.says w ci.heap)(I:Ax ci.heap=br)(hg:ci.gens=#[]){xs}{vs}(hv:ak ⟨[123],br,fun _=>none⟩ [.lst (xs.map V.int)] vs)(hl:xs.length≤63)(O:ro xs)(Fi:Rv (f3 xs).text=true)
  {Q E} (q:∀s',OldK ci.heap s'.heap→s'.os=ci.os→aaM s'.gens→Q (.bool true) s'):wpAny (model pw w) callerA (call (.ref 252) vs) Q E ci:=by
 have hk:=km_in_of Y;have t1:=YA Y 123 dc;have t2:=YA Y 184 dc;have S:Ft ⟨[123],br,fun _=>none⟩ [some Ki] ci:=by
  refine⟨fun a o e=> ?_,fun _ _ e=>e,dc,rfl,fun a m=> ?_,fun i ob e=> ?_, ?_,SO _,fun _ _ e=>by cases e⟩
  ·rw[←I] at e;exact rz e
  ·exact J (Rr.mp m) ((t1▸nofun))
  ·match i,e with
   |0,e=>cases e;exact⟨123,rfl,(show br 123=none by exact I▸if_pos (.inl rfl)),rfl,#[],t1, .inl rfl⟩
   |i+1,e=>cases e
  ·exact hg▸fun i hi=>absurd hi (by simp)
 refine RM (CC.MT (Ib B) B.r8.nolimit Ic (Binds.b1 B Ie) (by simp) (fun x hx=> ?_) (xg B O (eI hl) (zI (n:=0) B O Fi)) (⟨rfl,dc,dc⟩) S hv t2 (fun q=>absurd (Rr.mp q) dc) (show br 184=none by refine aQ I ?_;exact if_pos (Or.inr rfl)) fun v s' W' G' S' r=> ?_) (fun _ _ h=>h) fun _ _ e=>e.elim
 ·have:([("script":RN)].all fun x=>((fdOf 252).scope.names.lookup x==some .local||(fdOf 252).scope.names.lookup x==some .cell))=true:=rfl;have:=SE.mp this x hx;simpa using this
 ·cases r;refine q s' ⟨fun b o e=> ?_,fun b o e=> ?_⟩ G'.os S'.bare
  ·by_cases h1:b=123
   ·subst h1;obtain⟨c,hc,hd,_⟩:=oU;rw[t1] at e;cases e;obtain⟨a,ha,_,Jm⟩:=S'.live 0 Ki rfl;obtain⟨rfl,ps,jb,_⟩:=Jm;exact .inr (.inl ⟨((Zk hk hd).tab t1).isCodeTable,rfl,#[],ps,rfl,by simpa using jb⟩)
   ·by_cases h2:b=184
    ·subst h2;obtain⟨c,hc,hd⟩:=u3;rw[t2] at e;cases e;obtain⟨a,ha,_,Jm⟩:=S'.live _ Kj (uc xs);obtain⟨rfl,ps,jb,_⟩:=Jm;exact .inr (.inl ⟨((Zk hk hd).tab t2).isCodeTable,rfl,#[],ps,rfl,by simpa using jb⟩)
    ·exact .inl (G'.heap b o e (by simpa using h1) h2)
  ·by_cases h2:b=184
   ·subst h2;refine Rg fun kG=> ?_;obtain⟨a,ha,_,Jm⟩:=S'.live _ Kj (uc xs);obtain⟨rfl,ps,jb,_⟩:=Jm;exact kG (⟨_,jb⟩)
   ·cases e2:s'.heap.get? b with
    |none=>exact absurd e2 ((G'.there b (e▸nofun)) h2)
    |some o'=>exact⟨o',rfl⟩
theorem xh(h:∀xs,xs.length≤63→ro xs∧Rv (f3 xs).text=true):rW.Holds:=good fun v pO ci m mb G Y a o pm cd doc dV kV ha hd Re Rf hm hg args vals as qc QB MV Jn sR=>by
 obtain⟨rfl,I,Y⟩:=Y;change Ax ci.heap=br at I;obtain rfl:=G.X.1;have B:=Ca G Y I;have ha:a=252:=by
  have e:=nR B (fun a o e=>rz (I▸e)) Fy;cases e.symm.trans hm;rfl
 subst ha;have qc:=qc;replace qc:=(RA ..)▸qc;obtain⟨ds,rfl,hi⟩:=Cb qc.1;have hl:=Cc qc.2;cases Jn with
 |cons hw hn=>
  cases hn;cases hw with
  |list Ow MW=>
   rename_i la us;have nn:∀b,b=123∨b=184→la≠b:=fun b hb q=>by
    subst q;have:=YA Y la (by rcases hb with rfl|rfl<;>decide);cases this.symm.trans Ow
   refine Rg fun kG=> ?_;obtain⟨xs,el,rx⟩:=ints_of hi MW;refine kG ?_;have hs:=R2;refine zK B Y I hg ⟨_,[],rfl,⟨la,us,0,rfl, ?_,rx,by refine J (Rk ..) ?_;lia⟩,rfl⟩ (by lia) (h xs (by lia)).1 (h xs (by lia)).2 fun s' h1 h2 h3=>⟨.inl ⟨.bool true, .bool true,[],rfl,fun _=>rfl, .bool true, ?_,fun _=>⟨Tl,fun _ hm=>absurd hm RG⟩⟩,h1,h2,h3⟩
   ·exact I▸(mS (nn _ (.inl rfl)) (nn _ (.inr rfl))).trans Ow
   ·show(ZU rW.row.toRowW.records (.bool true) .bool&&ZA _ (.eq .res (.lit (.bool true))) _)=true;simp[ZU,WShape.arms,ZA,WTm.value,same]
open PySem PySem.W PyProof.Rows PySem.StrLaws PySem.Builtin PySem.Builtin.Str
noncomputable abbrev sl(x:RN):List Nat:=x.cps.toList
noncomputable abbrev ls(l:List Nat):RN:=⟨l.toArray⟩
theorem Jo l:sl (ls l)=l:=rfl
theorem DY x:ls (sl x)=x:=RN.ext' rfl
theorem dA(h:sl x=sl y):x=y:=by rw[←DY x,←DY y,h]
theorem aO(x y:RN):sl (x++y)=sl x++sl y:=by show(x.cps++y.cps).toList=_;simp
theorem aq x:(sl x).length=x.length:=rfl
noncomputable def ud(s t:List Nat):Nat→List Nat→List Nat
 |_,[]=>[]
 |0,x::xs=>if s.isPrefixOf (x::xs) then t++ud s t (s.length-1) xs else x::ud s t 0 xs
 |k+1,_::xs=>ud s t k xs
noncomputable abbrev rep(s t l:List Nat):List Nat:=ud s t 0 l
theorem xi(s t:List Nat):∀k l,ud s t k l=ud s t 0 (l.drop k):=by
 intro k
 induction k with
 |zero=>intro l;rfl
 |succ k ih=>intro l;cases l with
  |nil=>rfl
  |cons x l=>exact ih l
theorem pj(hs:s≠[]):rep s t (s++l)=t++rep s t l:=by
 cases s with
 |nil=>exact absurd rfl hs
 |cons c s=>
  show(if(c::s).isPrefixOf (c::(s++l)) then t++ud _ t ((c::s).length-1) (s++l) else _)=_;rw[if_pos (by rw[YO];exact⟨l,rfl⟩),xi,RQ,Vt,UC]
theorem gY{s t l}{x}(h:¬s<+:x::l):rep s t (x::l)=x::rep s t l:=by
 show(if _ then _ else _)=_;rw[if_neg];rwa [YO]
theorem ue:ZI x y x.length k↔k+y.length≤x.length∧sl y<+:(sl x).drop k:=by
 refine and_congr_right fun h=> ?_;rw[subAt_eq,beq_iff_eq];constructor
 ·intro e;show y.cps.toList<+:_;exact e▸List.take_prefix _ _
 ·rintro⟨r,e⟩;rw[←e,←aq,Wi]
theorem rA:∀(m a:Nat),a+m≤x.length→(∀k,a≤k→k<a+m→¬ZI x y x.length k)→rep (sl y) t ((sl x).drop a)=((sl x).drop a).take m++rep (sl y) t ((sl x).drop (a+m)):=by
 intro m
 induction m with
 |zero=>intro a _ _;rfl
 |succ m ih=>
  intro a hz h;have hl:a<(sl x).length:=J (aq ..) ((uo hz));rw[SM hl,List.take_succ_cons,gY,ih (a+1) (io hz) (fun k h1 h2=>h k (lj h1) (ap h2 (io (Ri _)))),show a+1+m=a+(m+1) by exact Kw]
  ·rfl
  ·intro hp;rw[←SM hl] at hp;refine h a (Ri _) (Ng (gl (Ri _))) (ue.mpr ⟨?_,hp⟩);have:=hp.length_le;rw[VV,aq,aq] at this;lia
theorem pk x(a c:Nat):sl (strSub x a c)=((sl x).drop a).take (c-a):=strSub_toList x a c
theorem zL(x y z:RN)(hy:y.length≠0):∀eV(a f:Nat),ChainG x y x.length a eV f→(∀k,f≤k→¬ZI x y x.length k)→a≤x.length→sl (Yp z (partsFrom x y.length a eV))=rep (sl y) (sl z) ((sl x).drop a):=by
 intro rv
 induction rv with
 |nil=>
  intro a f h hn ha;subst h;rw[(rA (x.length-f) f (vD (bD (JM ha))) (fun k h1 _=>hn k h1)),show(sl x).drop (f+(x.length-f))=[] from WJ (by rw[aq];lia)];show sl (strSub x f x.length)=_++[];rw[pk,RF]
 |cons c r ih=>
  intro a f h hn ha;refine Rg fun kG=> ?_;have hb:=(ue.mp h.2.1).1;have ih:=ih (c+y.length) f h.2.2.2 hn hb;obtain⟨p,q,e⟩:=partsFrom_ne x y.length (c+y.length) r;refine kG ?_;show sl (Yp z (strSub x a c::partsFrom x y.length (c+y.length) r))=_;rw[e] at ih⊢;show sl (strSub x a c++z++Yp z (p::q))=_;rw[aO,aO,ih,pk,(rA (c-a) a (by lia) (fun k k1 k2=>h.2.2.1 k k1 (ap k2 (vD (bD (JM h.1)))))),show a+(c-a)=c by exact si (vD (bD (JM h.1))) (JI (bD (Nd h.1))),RP];congr 1;obtain⟨l,el⟩:=(ue.mp h.2.1).2;refine aQ el (J (pj (by intro q;have:=aq y;rw[q] at this;exact hy this.symm)) ?_);rw[(show(sl x).drop (c+y.length)=l by rw[←abk,←el,←aq,UC])]
theorem be(x y z:RN)(hy:y.length≠0):sl (SH x y z)=rep (sl y) (sl z) (sl x):=by
 obtain⟨f,h,hn⟩:=occ_tight x y (Nf (OM hy));have:=zL x y z hy _ 0 f h hn (RW _);refine aQ this ?_
 delta SH
 refine bn (fun _=> ?_) fun _=> ?_
 ·rename_i hc;have:(occurrences x y 0 x.length (x.length+1))=[]:=by
   rcases WQ _ _▸hc with q|q
   ·simpa using q
   ·rw[RA,beq_iff_eq] at q;exact absurd q.1 hy
  refine J this ?_;show _=sl (strSub x 0 x.length);rw[sub_whole]
 ·rw[glued_eq_join,partsBetween_eq]
theorem gi x c:TB x ⟨#[c]⟩=decide (c∈sl x):=found_one x c
theorem Cd:∀l,rep [c] t l=l.flatMap fun d=>if d=c then t else [d]:=by
 intro l
 induction l with
 |nil=>rfl
 |cons d l ih=>
  refine J Ti ?_;by_cases h:d=c
  ·subst h;exact J (if_pos rfl) (aQ ih ((pj (To _ _))))
  ·rw[if_neg h,←ih,gY];·rfl
   ·rintro⟨r,e⟩;cases e;exact h rfl
noncomputable def word(v:List Nat):List Nat:=38::v++[59]
theorem nz(h:v≠v')(h1:59∉v)(h2:59∉v')(h3:38∉v'):rep (word v) t (word v'++l)=word v'++rep (word v) t l:=by
 have pass:∀(a b:List Nat),38∉a→rep (word v) t (a++b)=a++rep (word v) t b:=by
  intro a
  induction a with
  |nil=>intro b _;rfl
  |cons c a ih=>
   intro b hc;rw[Rt,not_or] at hc;rw[TD,gY,ih b hc.2,TD];rintro⟨r,e⟩
   delta word at e
   exact hc.1 (U2 e).1
 show rep (word v) t (38::(v'++[59]++l))=38::(v'++[59]++_);rw[gY,pass _ _ (by simp[h3])];rintro⟨r,e⟩
 delta word at e
 rw[TD,TD] at e;have e:=(U2 e).2;rw[RP,RP] at e;exact h (by
  have key:∀(a b p q:List Nat),59∉a→59∉b→a++([59]++p)=b++([59]++q)→a=b:=by
   intro a
   induction a with
   |nil=>intro b p q _ hb e;cases b with
    |nil=>rfl
    |cons d b=>simp at e;exact absurd e.1 (by intro q;exact hb (by simp[←q]))
   |cons c a ih=>intro b p q ha hb e;cases b with
    |nil=>simp at e;exact absurd e.1 (by intro q;exact ha (by simp[q]))
    |cons d b=>
     rw[Rt,not_or] at ha hb;simp only[TD,Ug] at e;rw[e.1,ih b p q ha.2 hb.2 e.2]
  exact key v v' r l h1 h2 e)
theorem nA{c}(h:c≠38):rep (word v) t (c::l)=c::rep (word v) t l:=gY (by
 rintro⟨r,e⟩
 delta word at e
 exact h (U2 e).1.symm)
noncomputable def fT(T:List (Nat×List Nat))(c:Nat):List Nat:=match T.lookup c with
 |some v=>word v
 |none=>[c]
structure Jp(T:List (Nat×List Nat)):Prop where
 good:∀p∈T,59∉p.2∧38∉p.2
 QC:(T.map (·.1)).Nodup
 QD:(T.map (·.2)).Nodup
theorem rC(h:word v=word v'):v=v':=by
 delta word at h
 exact Wv (U2 h).2
theorem rD v:2≤(word v).length:=by simp[word]
theorem zM(hv:59∉v){f}:∀l:List Nat,(∀c∈l,(∃d,f c=[d]∧d≠38)∨∃v',f c=word v'∧59∉v'∧38∉v')→rep (word v) t (l.flatMap f)=l.flatMap fun c=>if f c=word v then t else f c:=by
 intro l
 induction l with
 |nil=>intro _;rfl
 |cons c l ih=>
  intro h;have ih:=ih fun d hd=>h d (Rm _ hd);refine J Ti (J Ti ?_);rcases h c Rn with⟨d,e,hd⟩|⟨v',e,h1,h2⟩
  ·rw[if_neg (by rw[e];intro q;have:=rD v;rw[←q] at this;simp at this),e,←ih];exact nA hd
  ·by_cases MX:v'=v
   ·subst MX;exact J (if_pos e) (J e (aQ ih ((pj (by simp[word])))))
   ·exact J (if_neg (e▸fun q=>MX (rC q))) (J e (aQ ih ((nz (fun q=>MX q.symm) hv h1 h2))))
theorem dS{c0}{v}(ok:Jp ((c0,v)::T))(QE:38∈((c0,v)::T).map (·.1))(l:List Nat):rep (word v) [c0] (l.flatMap (fT ((c0,v)::T)))=l.flatMap (fT T):=by
 have zN:∀(T:List (Nat×List Nat)) c u,T.lookup c=some u→(c,u)∈T:=by
  intro T
  induction T with
  |nil=>intro _ _ h;cases h
  |cons p T ih=>
   intro c u h;rw[Sc] at h;split at h
   ·rename_i e;cases h;exact(beq_iff_eq.mp e)▸Rn
   ·exact Rm _ (ih _ _ h)
 have Jq:∀(T:List (Nat×List Nat)) c,T.lookup c=none→c∉T.map (·.1):=by
  intro T
  induction T with
  |nil=>intro _ _ h;cases h
  |cons p T ih=>
   intro c h;rw[Sc] at h;split at h
   ·cases h
   ·rename_i e;rw[RD,Rt,not_or];exact⟨fun q=>by subst q;simp at e,ih _ h⟩
 rw[zM (ok.good _ Rn).1]
 ·congr 1;funext c
  delta fT
  by_cases hc:c=c0
  ·subst hc;have h0:T.lookup c=none:=by
    cases e:T.lookup c with
    |none=>rfl
    |some u=>
     have nd:=ok.QC;rw[RD,SG] at nd;exact absurd (T6 (zN _ _ _ e)) nd.1
   refine J (Sc ..) (J (beq_self_eq_true ..) (J (h0 ..) ?_));simp
  ·refine J Sc (J (beq_eq_false_iff_ne.mpr hc) ?_);cases e:T.lookup c with
   |none=>
    rw[if_neg];intro q;have:=rD v;rw[←q] at this;simp at this
   |some u=>
    rw[if_neg];intro q;have nd:=ok.QD;rw[RD,SG] at nd;exact nd.1 ((rC q)▸T6 (zN _ _ _ e))
 ·intro c _
  delta fT
  cases e:Yx c ((c0,v)::T) with
  |none=>exact .inl ⟨c,rfl,fun q=>by subst q;exact Jq _ _ e QE⟩
  |some u=>have:=ok.good _ (zN _ _ _ e);exact .inr ⟨u,rfl,this⟩
theorem zO(l:List Nat):l.flatMap (fT [])=l:=by
 induction l with
 |nil=>rfl
 |cons c l ih=>refine J Ti (J ih ?_);rfl
theorem rE(x z:RN) c:sl (au x ⟨#[c]⟩ z)=(sl x).flatMap fun d=>if d=c then sl z else [d]:=by
 delta au
 refine J (gi ..) (bn (fun _=> ?_) fun _=> ?_)
 ·rw[be _ ⟨#[c]⟩ _ (show 1≠0 by decide),Cd]
 ·rename_i h;have h:c∉sl x:=by simpa using h
  generalize sl x=l at h
  induction l with
  |nil=>rfl
  |cons d l ih=>
   rw[Rt,not_or] at h;refine J Ti (J (if_neg (fun q=>h.1 q.symm)) (aQ (ih h.2) ?_));rfl
noncomputable def tA:List (Nat×List Nat):=[(60,[108,116]),(34,[113,117,111,116]),(9,[35,120,57]),(10,[35,120,65]),(13,[35,120,68]),(38,[97,109,112])]
noncomputable def tC:List (Nat×List Nat):=[(60,[108,116]),(62,[103,116]),(13,[35,120,68]),(38,[97,109,112])]
theorem k7 x:sl (d9 x)=(sl x).flatMap (fT tA):=by
 delta d9
 rw[show("&":RN)=⟨#[38]⟩ from rfl,show("<":RN)=⟨#[60]⟩ from rfl,show("\"":RN)=⟨#[34]⟩ from rfl,show("\t":RN)=⟨#[9]⟩ from rfl,show("\n":RN)=⟨#[10]⟩ from rfl,show("\r":RN)=⟨#[13]⟩ from rfl];simp only[rE,aag];congr 1;funext c;by_cases h1:c=38
 ·subst h1;decide+kernel
 by_cases h2:c=60
 ·subst h2;decide+kernel
 by_cases h3:c=34
 ·subst h3;decide+kernel
 by_cases h4:c=9
 ·subst h4;decide+kernel
 by_cases h5:c=10
 ·subst h5;decide+kernel
 by_cases h6:c=13
 ·subst h6;decide+kernel
 have n:∀{a b:Nat},¬a=b→(a==b)=false:=fun h=>beq_eq_false_iff_ne.mpr h;simp[h1,h2,h3,h4,h5,h6,fT,tA,Sc,n h1,n h2,n h3,n h4,n h5,n h6]
theorem jv x:sl (dX x)=(sl x).flatMap (fT tC):=by
 delta dX
 refine J (show("&":RN)=⟨#[38]⟩ from rfl) (J (show("<":RN)=⟨#[60]⟩ from rfl) (J (show(">":RN)=⟨#[62]⟩ from rfl) (J (show("\r":RN)=⟨#[13]⟩ from rfl) ?_)));simp only[rE,aag];congr 1;funext c;by_cases h1:c=38
 ·subst h1;decide+kernel
 by_cases h2:c=60
 ·subst h2;decide+kernel
 by_cases h3:c=62
 ·subst h3;decide+kernel
 by_cases h4:c=13
 ·subst h4;decide+kernel
 have n:∀{a b:Nat},¬a=b→(a==b)=false:=fun h=>beq_eq_false_iff_ne.mpr h;simp[h1,h2,h3,h4,fT,tC,Sc,n h1,n h2,n h3,n h4]
theorem ie{d}(hd:d∈T.map (·.1))(hw:∀p∈T,d∉word p.2):∀l:List Nat,d∉l.flatMap (fT T):=by
 have hl:∀T c,(∀p∈T,d∉word p.2)→d∈fT T c→d=c∧c∉T.map (·.1):=by
  intro T
  induction T with
  |nil=>intro c _ h;exact⟨Rr.mp h,RG⟩
  |cons p T ih=>
   intro c hw h
   delta fT at h
   rw[Sc] at h;cases e:c==p.1 with
   |true=>rw[e] at h;exact absurd h (hw p Rn)
   |false=>
    rw[e] at h;obtain⟨a,b⟩:=ih c (fun q hq=>hw q (Rm _ hq)) h;refine⟨a,fun m=> ?_⟩;rw[RD,Rt] at m;rcases m with m|m
    ·exact absurd m (beq_eq_false_iff_ne.mp e)
    ·exact b m
 intro l hm;obtain⟨c,_,hc⟩:=WD.mp hm;exact(hl T c hw hc).2 ((hl T c hw hc).1▸hd)
theorem mT(h:∀r∈rs,TB y r.2=false):dr y ("&amp;","&") rs=fC y (rs++[(("&amp;":RN),("&":RN))]):=by
 delta dr
 rw[if_neg];intro q;obtain⟨r,hr,e⟩:=U6.mp q;replace e:=(h r hr)▸e;cases e
theorem oi x:cC (d9 x)=x:=by
 have fr:∀d∈[60,34,9,10,13],d∉sl (d9 x):=fun d hd=>by
  refine J (k7 ..) ?_;simp only[Rt,RG,or_false] at hd;rcases hd with rfl|rfl|rfl|rfl|rfl<;>exact ie dc dc _
 delta cC
 rw[mT]
 ·apply dA;show sl (SH (SH (SH (SH (SH (SH (d9 x) "&lt;" "<") "&quot;" "\"") "&#x9;" "\t") "&#xA;" "\n") "&#xD;" "\r") "&amp;" "&")=_;rw[be _ _ _ dc,be _ _ _ dc,be _ _ _ dc,be _ _ _ dc,be _ _ _ dc,be _ _ _ dc,k7];show rep (word [97,109,112]) [38] (rep (word [35,120,68]) [13] (rep (word [35,120,65]) [10] (rep (word [35,120,57]) [9] (rep (word [113,117,111,116]) [34] (rep (word [108,116]) [60] _)))))=_
  delta tA
  rw[dS ⟨dc,dc,dc⟩ dc,dS ⟨dc,dc,dc⟩ dc,dS ⟨dc,dc,dc⟩ dc,dS ⟨dc,dc,dc⟩ dc,dS ⟨dc,dc,dc⟩ dc,dS ⟨dc,dc,dc⟩ dc,zO]
 ·intro r hr;have key:∀d∈[60,34,9,10,13],TB (d9 x) ⟨#[d]⟩=false:=fun d hd=>by exact J (gi ..) ((decide_eq_false (fr d hd)))
  simp only[DE,Rt,RG,or_false] at hr;rcases hr with rfl|rfl|rfl|rfl|rfl
  ·exact key 60 dc
  ·exact key 34 dc
  ·exact key 9 dc
  ·exact key 10 dc
  ·exact key 13 dc
theorem rF x:eE (dX x)=x:=by
 have fr:∀d∈[60,62,13],d∉sl (dX x):=fun d hd=>by
  refine J (jv ..) ?_;simp only[Rt,RG,or_false] at hd;rcases hd with rfl|rfl|rfl<;>exact ie dc dc _
 delta eE
 rw[mT]
 ·apply dA;show sl (SH (SH (SH (SH (dX x) "&lt;" "<") "&gt;" ">") "&#xD;" "\r") "&amp;" "&")=_;rw[be _ _ _ dc,be _ _ _ dc,be _ _ _ dc,be _ _ _ dc,jv];show rep (word [97,109,112]) [38] (rep (word [35,120,68]) [13] (rep (word [103,116]) [62] (rep (word [108,116]) [60] _)))=_
  delta tC
  rw[dS ⟨dc,dc,dc⟩ dc,dS ⟨dc,dc,dc⟩ dc,dS ⟨dc,dc,dc⟩ dc,dS ⟨dc,dc,dc⟩ dc,zO]
 ·intro r hr;have key:∀d∈[60,62,13],TB (dX x) ⟨#[d]⟩=false:=fun d hd=>by exact J (gi ..) ((decide_eq_false (fr d hd)))
  simp only[DF,Rt,RG,or_false] at hr;rcases hr with rfl|rfl|rfl
  ·exact key 60 dc
  ·exact key 62 dc
  ·exact key 13 dc
noncomputable def jn(c:Nat):List (List Nat)→List Nat
 |[]=>[]
 |[x]=>x
 |x::y::r=>x++c::jn c (y::r)
theorem pp c:∀ps,sl (Yp ⟨#[c]⟩ ps)=jn c (ps.map sl)
 |[]=>rfl
 |[x]=>rfl
 |x::y::r=>by
  refine J (aO ..) (J (aO ..) (J (pp c (y::r)) (J (RP ..) ?_)));rfl
theorem vd c x{r}(h:r≠[]):jn c (x::r)=x++c::jn c r:=by
 cases r with
 |nil=>exact absurd rfl h
 |cons y r=>rfl
theorem pv:∀{x y a b:List Nat},c∉x→c∉y→x++c::a=y++c::b→x=y∧a=b:=by
 intro x
 induction x with
 |nil=>intro y a b _ hy e;cases y with
  |nil=>exact⟨rfl,by simpa using e⟩
  |cons d y=>simp at e;exact absurd e.1 (by intro q;exact hy (by simp[q]))
 |cons d x ih=>intro y a b hx hy e;cases y with
  |nil=>simp at e;exact absurd e.1 (by intro q;exact hx (by simp[q]))
  |cons d' y=>
   rw[Rt,not_or] at hx hy;simp only[TD,Ug] at e;exact⟨by rw[e.1,(ih hx.2 hy.2 e.2).1],(ih hx.2 hy.2 e.2).2⟩
theorem FA:∀{p q},p≠[]→q≠[]→(∀x∈p,c∉x)→(∀x∈q,c∉x)→jn c p=jn c q→p=q:=by
 intro p
 induction p with
 |nil=>intro q h;exact absurd rfl h
 |cons x p ih=>
  intro q _ hq hp Kk e;cases q with
  |nil=>exact absurd rfl hq
  |cons y q=>
   have hx:=hp x Rn;have hy:=Kk y Rn;cases p with
   |nil=>
    cases q with
    |nil=>have e:x=y:=e;rw[e]
    |cons z q=>
     have e:x=y++c::jn c (z::q):=e;rw[e] at hx;simp at hx
   |cons w p=>
    cases q with
    |nil=>
     have e:x++c::jn c (w::p)=y:=e;rw[←e] at hy;simp at hy
    |cons z q=>
     rw[(pv hx hy (e)).1,ih (To _ _) (To _ _) (fun a ha=>hp a (Rm _ ha)) (fun a ha=>Kk a (Rm _ ha)) (pv hx hy (e)).2]
theorem cQ(h:sl x=jn c (ps.map sl))(hn:ps≠[])(hf:∀p∈ps,c∉sl p):Sl x ⟨#[c]⟩=ps:=by
 have aV:Sl x ⟨#[c]⟩≠[]:=by
  delta Sl
  refine bn (fun _=> ?_) fun _=> ?_
  ·simp
  ·refine bn (fun _=> ?_) fun _=> ?_
   ·simp
   ·refine J (partsBetween_eq ..) ?_;obtain⟨p,r,e⟩:=partsFrom_ne x (⟨#[c]⟩:RN).length 0 (occurrences x ⟨#[c]⟩ 0 x.length (x.length+1));refine J e ?_;simp
 have key:∀{a b:List RN},a.map sl=b.map sl→a=b:=by
  intro a
  induction a with
  |nil=>intro b e;cases b with
   |nil=>rfl
   |cons _ _=>cases e
  |cons x a ih=>intro b e;cases b with
   |nil=>cases e
   |cons y b=>simp only[RD,Ug] at e;rw[dA e.1,ih e.2]
 exact key (FA (by simpa using aV) (by simpa using hn) (fun a ha=>by obtain⟨p,hp,rfl⟩:=Rz.mp ha;exact split_free x c p hp) (fun a ha=>by obtain⟨p,hp,rfl⟩:=Rz.mp ha;exact hf p hp) (by rw[←pp,(join_split x ⟨#[c]⟩),h]))
theorem dC:∀ps,sl (SF "" ps)=(ps.map sl).flatten:=by
 intro ps;show sl (glued "" ps)=_;refine J (glued_eq_join ..) ?_
 induction ps with
 |nil=>rfl
 |cons x r ih=>
  cases r with
  |nil=>show sl x=sl x++[];simp
  |cons y r=>
   show sl (x++""++Yp "" (y::r))=sl x++_;rw[aO,aO,ih];show sl x++[]++_=_;rw[RF]
theorem Jr u n:strSliceIndices none u 1 n=strSliceIndices (some ((0:Nat):Int)) u 1 n:=by
 delta strSliceIndices
 rfl
theorem Js l n:strSliceIndices l none 1 n=strSliceIndices l (some n) 1 n:=by
 simp only[strSliceIndices];simp[F3]
theorem Ce l n:strSliceIndices l (some (-1)) 1 (n+1)=strSliceIndices l (some n) 1 (n+1):=by
 simp only[strSliceIndices];have h1:¬((n:Int)<0):=F3;simp only[show((-1:Int)<0)=True from by decide,if_true,h1,if_false,(show max 0 (min (-1+((n+1:Nat):Int)) ((n+1:Nat):Int))=n by lia),(show max 0 (min (n:Int) ((n+1:Nat):Int))=n by lia),show((1:Int)>0)=True from by simp]
theorem j1{l u}{a b:Nat}(e:strSliceIndices l u 1 x.length=strSliceIndices (some a) (some b) 1 x.length)(nO:a≤b)(hb:b≤x.length):sl (TH x l u)=((sl x).drop a).take (b-a):=by
 delta TH
 refine J e (bn (fun _=> ?_) fun _=> ?_)
 ·rename_i h;replace h:=(strSliceIndices_plain nO hb)▸h;simp at h;have:a=0:=by lia
  subst this;rw[VG,Tc (by exact lq h)]
 ·exact sliced_plain x nO hb
theorem iT{a:Nat}(h:a≤x.length):sl (TH x (some a) none)=(sl x).drop a:=by
 rw[j1 (Js _ _) h (Ri _),Tc (by rw[VV,aq];exact Ri _)]
theorem rG{b:Nat}(h:b≤x.length):sl (TH x none (some b))=(sl x).take b:=by
 rw[j1 (Jr _ _) (RW _) h,VG,Yc]
theorem zP{c d}(h:sl x=c::m++[d]):sl (TH x (some 1) (some (-1)))=m:=by
 have hl:x.length=m.length+1+1:=by refine aQ (aq ..) (J (h ..) ?_);simp
 refine J (j1 (hl▸Ce _ _) (GF (Ri _)) (lj (lq hl))) (J h ?_);simp
theorem xj(x y:RN):∀(l:List Nat),(forIn l ((#[]:Array Nat),x.length) (occRBody x y 1)).run.fst.toList=((l.find? fun k=>decide (x.length-k+y.length≤x.length)&&subAt x y (x.length-k)).map fun k=>x.length-k).toList:=by
 have stop:∀(l:List Nat)(a f:Nat),(forIn l ((#[a]:Array Nat),f) (occRBody x y 1)).run.fst.toList=[a]:=by
  intro l
  induction l with
  |nil=>intro a f;rfl
  |cons k l ih=>
   intro a f;refine J (Vl ..) ?_
   delta occRBody
   exact J (if_neg (by simp)) ((ih a f))
 intro l
 induction l with
 |nil=>rfl
 |cons k l ih=>
  refine J (Vl ..) (J (aa2 ..) ?_)
  delta occRBody
  by_cases h:(x.length-k+y.length≤x.length)∧subAt x y (x.length-k)=true
  ·rw[if_pos ⟨⟨by simp,h.1⟩,h.2⟩,show(decide (x.length-k+y.length≤x.length)&&subAt x y (x.length-k))=true by rw[h.2];simp[h.1]];exact stop l _ _
  ·rw[if_neg (fun q=>h ⟨q.1.2,q.2⟩),show(decide (x.length-k+y.length≤x.length)&&subAt x y (x.length-k))=false by
    by_cases q:x.length-k+y.length≤x.length
    ·have:subAt x y (x.length-k)=false:=by cases e:subAt x y (x.length-k) with
      |true=>exact absurd ⟨q,e⟩ h
      |false=>rfl
     rw[this,Xf]
    ·simp[q]]
   exact ih
theorem rH{c}(h:sl x=sl u++c::sl t)(ht:c∉sl t):Uv x ⟨#[c]⟩ 1=[u,t]:=by
 have hn:x.length=u.length+1+t.length:=by rw[←aq,h,Ro,RQ,aq,aq];exact Vu u.length t.length 1
 have ho:occurrencesFromRight x ⟨#[c]⟩ 1=[u.length]:=by
  refine J (occR_eq ..) (J (xj ..) ?_);have AL:∀k,(decide (x.length-k+(⟨#[c]⟩:RN).length≤x.length)&&subAt x ⟨#[c]⟩ (x.length-k))=true↔(sl x)[x.length-k]?=some c:=fun k=>by
   exact J (RA ..) (J (decide_eq_true_eq ..) ((subAt_one x c (x.length-k))))
  have:(List.range' 0 (x.length+1)).find? (fun k=>decide (x.length-k+(⟨#[c]⟩:RN).length≤x.length)&&subAt x ⟨#[c]⟩ (x.length-k))=some (t.length+1):=by
   rw[List.find?_range'_eq_some];refine⟨?_, ?_,fun j _ hj=> ?_⟩
   ·rw[AL,h,hn,RL (by rw[aq];lia),aq,show u.length+1+t.length-(t.length+1)-u.length=0 by exact si (JK (GF (JK (io (Ri _))))) (RW _)];rfl
   ·simp;exact JN (OP (Ng (GF (Ri _)))) (lq hn)
   ·rw[VC,←aaJ,AL,h];intro e;by_cases j0:j=0
    ·subst j0;rw[Sw (by rw[←h,aq];exact bD rfl)] at e;cases e
    ·rw[RL (by exact M8 (ap (ba (gl (Ri _)) (ON hj)) (lq hn))),aq,hn,show u.length+1+t.length-j-u.length=(t.length-j)+1 by lia,List.getElem?_cons_succ] at e;exact ht (Sf e)
  refine J this ?_;show [x.length-(t.length+1)].reverse=_;refine J hn (J (show u.length+1+t.length-(t.length+1)=u.length by exact Nc OL) ?_);rfl
 delta Uv
 have hk:¬(decide (x.length<(⟨#[c]⟩:RN).length)||decide (strKind x<strKind ⟨#[c]⟩))=true:=by
  refine J (WQ ..) (J (decide_eq_true_eq ..) (J (decide_eq_true_eq ..) ?_));rintro(q|q)
  ·have:(⟨#[c]⟩:RN).length=1:=rfl;lia
  ·exact kind_free x c q (by show c∈sl x;refine J h ?_;simp)
 refine J (if_neg hk) (J (show limitOf x 1=1 from rfl) (J ho ?_));refine J (partsBetween_eq ..) ?_;show [strSub x 0 u.length,strSub x (u.length+1) x.length]=_;congr 1
 ·apply dA;rw[pk,h,VG,Yc,←aq u,Wi]
 ·congr 1;apply dA;rw[pk,h,←abk,←aq u,UC,Tc (by exact Kv (lq hn))];rfl
theorem ve:∀{a b:List Nat},a≠b→decide (b<a)= !decide (a<b)
 |[],[],h=>absurd rfl h
 |[],_::_,_=>by refine J (lt_nil_cons ..) (J (lt_cons_nil ..) ?_);rfl
 |_::_,[],_=>by refine J (lt_nil_cons ..) (J (lt_cons_nil ..) ?_);rfl
 |x::a,y::b,h=>by
  refine J (lt_cons_cons ..) (J (lt_cons_cons ..) ?_);by_cases e:x=y
  ·subst e;simp[(ve fun q=>h (congrArg _ q))]
  ·rcases Nat.lt_or_gt_of_ne e with q|q
   ·have q2:=JJ (CQ q);have q3:=beq_eq_false_iff_ne.mpr fun z=>e z.symm;simp[q,q2,q3]
   ·have q2:=JJ (CQ q);have q3:=beq_eq_false_iff_ne.mpr e;simp[q,q2,q3]
theorem vf(h:x≠y):AD y x= !AD x y:=ve fun q=>h (dA q)
theorem vg:∀{a b},a≠b→ke b a= !ke a b
 |[],[],h=>absurd rfl h
 |[],_::_,_=>rfl
 |_::_,[],_=>rfl
 |x::a,y::b,h=>by
  rw[lU,lU];by_cases e:x=y
  ·subst e;exact J (if_pos rfl) (J (if_pos rfl) ((vg fun q=>h (congrArg _ q))))
  ·exact J (if_neg (fun q=>e q.symm)) (J (if_neg e) ((vf e)))
theorem FC x:(kS x).length≤2:=by
 unfold kS UJ;refine bn (fun _=> ?_) fun _=> ?_
 ·simp
 ·refine bn (fun _=> ?_) fun _=> ?_
  ·simp
  ·refine J (X4 ..) ?_;have:=occ_length_le x "}" 0 x.length (limitOf x 1);exact adr this
theorem vh x:Yp "}" (kS x)=x:=by
 unfold kS UJ;refine bn (fun _=> ?_) fun _=> ?_
 ·rfl
 ·refine bn (fun _=> ?_) fun _=> ?_
  ·rfl
  ·obtain⟨f,h⟩:=occ_chain x "}" (limitOf x 1);rw[partsBetween_eq,join_partsFrom x "}" _ 0 f h,sub_whole]
theorem FD(h:x≠y):kS x≠kS y:=fun q=>h (aQ (vh x) (aQ (vh y) (J q rfl)))
theorem DZ(h:sl q=123::(sl u++125::sl t))(ht:125∉sl t)(hu:u.length≤100)(MY:t.length≤100)(hx:u≠kH):QN q u t:=by
 have hl:q.length=u.length+t.length+2:=by rw[←aq q,h,RQ,Ro,RQ,aq,aq];exact rfl
 refine⟨?_, ?_,by exact ap (bD hl) (ap (ba (ba hu MY) (Ri _)) dc),by exact eI hu,by exact eI MY,hx⟩
 ·have:TH q none (some 1)="{":=dA (by refine J (show 1=((1:Nat):Int) from rfl) (J (rG (ap (GF dc) (lq hl))) (J h ?_));rfl);exact this▸beq_self_eq_true _
 ·refine rH ?_ ht;refine J (show 1=((1:Nat):Int) from rfl) (J (iT (ap (GF dc) (lq hl))) (J h ?_));rfl
structure eG(x:RN):Prop where
 ne:x≠""
 len:x.length≤19
 ok:Rv x=true
 Gs:10∉sl x
 nx:x≠kH
noncomputable def MZ(x:RN):Bool:=x.length !=0&&decide (x.length≤19)&&Rv x&&decide (10∉sl x)&&x !=kH
theorem Jt(h:MZ x=true):eG x:=by
 simp only[MZ,RA,bne_iff_ne,decide_eq_true_eq] at h;exact⟨fun q=>h.1.1.1.1 (congrArg _ q),h.1.1.1.2,h.1.1.2,h.1.2,h.2⟩
noncomputable def Cf(sg kd fi li:Nat):LF:=⟨ms fi,mu li,kj (nv sg) kd,if fi=0∧li=0 then(if kd=0 then "{<"++nv sg++">}" else kj (nv sg) kd) else ms fi++wD li++kj (nv sg) kd++")"⟩
theorem Cg:∀sg<4,∀kd<4,∀fi<3,∀li<3,((Cf sg kd fi li).nm==(Cf sg kd fi li).text&&MZ (Cf sg kd fi li).text)=true:=by decide+kernel
theorem Ch d:∃sg kd fi li,sg<4∧kd<4∧fi<3∧li<3∧iP d=Cf sg kd fi li:=by
 refine⟨_,_,_,_,(cu (d.fdiv 36) (b:=4) dc).2,(cu (d.fdiv 9) dc).2,(cu d (b:=3) dc).2,(cu (d.fdiv 3) (b:=3) dc).2, ?_⟩;show LF.mk _ _ _ (if d.fmod 9=0 then _ else _)=LF.mk _ _ _ (if _ then _ else _);by_cases h:d.fmod 9=0
 ·refine J (if_pos h) (J (if_pos ((nine d).mp h)) ?_);rfl
 ·refine J (if_neg h) (J (if_neg (fun q=>h ((nine d).mpr q))) ?_);rfl
theorem px d:(iP d).nm=(iP d).text∧eG (iP d).text:=by
 refine Rg fun kG=> ?_;obtain⟨sg,kd,fi,li,h1,h2,h3,h4,e⟩:=Ch d;refine kG ?_;have:=Cg sg h1 kd h2 fi h3 li h4;rw[RA,beq_iff_eq] at this;exact e▸⟨this.1,Jt this.2⟩
noncomputable abbrev kJ(c N:RN):RN:=c++"\n"++N
theorem vi N:sl (cN N)=123::(sl N++125::sl "c"):=by
 delta cN;refine J (aO ..) (J (aO ..) ?_);show [123]++sl N++125::sl "c"=_;simp
theorem zQ(c N:RN):sl (AN c N)=123::(sl (kJ c N)++125::sl "by"):=by
 unfold AN kJ;simp only[aO];rfl
theorem Ci(c N:RN):10∈sl (kJ c N):=by simp only[aO];show 10∈sl c++[10]++sl N;simp
theorem uf(hc:eG c)(hN:eG N):(kJ c N).length≤39:=by
 have:=hc.len;have:=hN.len;have e:("\n":RN).length=1:=rfl
 delta kJ;refine J (RC ..) (J (RC ..) ?_);lia
theorem rI(h:eG x):x≠kJ c N:=fun q=>h.Gs (q▸Ci c N)
theorem FE{c N c' N'}(hc:eG c)(pS:eG c')(h:kJ c N=kJ c' N'):c=c'∧N=N':=by
 have h:=congrArg sl h;simp only[aO,RP] at h;exact⟨dA (pv hc.Gs pS.Gs (h)).1,dA (pv hc.Gs pS.Gs (h)).2⟩
theorem zR(c N:RN):kJ c N≠kH:=fun q=>by have:=Ci c N;rw[q] at this;exact absurd this dc
theorem FF(h:eG N):QN (cN N) N "c":=DZ (vi N) dc (Rq h.len dc) dc h.nx
theorem Ju(hc:eG c)(hN:eG N):QN (AN c N) (kJ c N) "by":=DZ (zQ c N) dc (Rq (uf hc hN) dc) dc (zR c N)
theorem D0(ok:∀m∈L,m.ok)(nd:(L.map (·.q)).Nodup)(l1:L≠[])(l2:L.length≤2):NS L where
 ok:=ok
 kl m _:=Rq (FC m.q) dc
 kp m hm p hp:=by
  exact ap (partMax_short hp) ((ok m hm).ql)
 NY x y e:=by
  rw[e] at nd;exact vg (FD fun q=>by subst q;simp at nd)
 nd:=nd
 l1:=l1
 l2:=l2
theorem Cj(h:eG N):Op (qR N) []:=
 ⟨D0 (fun m hm=>by refine J (Rr.mp hm) ?_;exact FF h) (by simp) (To _ _) (SO _),fun m hm=>by refine J (Rr.mp hm) ?_;exact Rq h.len dc,fun _ h=>absurd h RG,fun _ h=>absurd h RG,by simp⟩
theorem Jv(hc:eG c)(hN:eG N):Op (qR N) [(⟨AN c N,kJ c N,"by"⟩,c)]:=by
 have pL:10∈sl (AN c N):=J (zQ ..) ((Rm _ (RY _ (Ci c N))));have aV:cN N≠AN c N:=fun q=>by
  rw[←q,vi] at pL;simp only[Rt,RE] at pL;rcases pL with e|e|e|e
  ·cases e
  ·exact hN.Gs e
  ·cases e
  ·exact absurd e dc
 refine⟨D0 (fun m hm=> ?_) (by simpa [qR] using aV) (To _ _) (Ri _),fun m hm=> ?_,fun a ha=> ?_,fun a ha=> ?_,by simp⟩
 ·rcases Rt.mp hm with rfl|hm
  ·exact FF hN
  ·exact J (Rr.mp hm) ((Ju hc hN))
 ·rcases Rt.mp hm with rfl|hm
  ·exact Rq hN.len dc
  ·exact(Rr.mp hm)▸Rq (uf hc hN) dc
 ·refine J (Rr.mp ha) ?_;refine⟨Rq hc.len dc, ?_⟩;intro q;have:=Ci c N;replace q:=(aq ..).symm▸q;have:=(RX.mp q)▸this;cases this
 ·refine J (Rr.mp ha) fun q=> ?_;rw[(show AN c N=spS from q)] at pL;exact absurd pL dc
noncomputable def atS(a:At):List Nat:=sl a.key++34::(sl a.v++[34])
structure FG(a:At):Prop where
 p:34∉sl a.p∧58∉sl a.p
 l:34∉sl a.l∧58∉sl a.l
 v:34∉sl a.v
 lp:a.p.length≤100
 ll:a.l.length≤100
 lv:a.v.length≤1000
theorem gj(a:At):sl a.key=32::(sl a.p++58::sl a.l)++[61]:=by
 delta At.key;simp only[aO];show [32]++sl a.p++[58]++sl a.l++[61]=_;simp
theorem FG.ok(h:FG a):a.ok:=by
 refine⟨?_, ?_,h.lp,h.ll,h.lv⟩
 ·refine aQ UN ?_;show(sl a.key)[0]?=_;exact J (gj ..) rfl
 ·exact cQ (c:=58) (zP (gj a)) (To _ _) fun q hq=>by
   rcases Rt.mp hq with rfl|hq
   ·exact h.p.2
   ·exact(Rr.mp hq)▸h.l.2
theorem Ck as{T}(hT:T≠[]):jn 34 ((eV as T).map sl)=as.flatMap atS++jn 34 (T.map sl):=by
 induction as with
 |nil=>rfl
 |cons a as ih=>
  have aV:(eV as T).map sl≠[]:=by
   intro q;exact hT (WK.mp (Ux.mp q)).2
  refine J (vd _ _ (To _ _)) (J (vd _ _ aV) (J ih (J Ti ?_)))
  delta atS;simp
theorem zS x c:Sl x ⟨#[c]⟩≠[]:=fun q=>by have:=split_pos x ⟨#[c]⟩;rw[q] at this;exact absurd this dc
theorem zT(h:sl p=u++32::v)(hu:32∉u):∃js,occurrences p " " 0 p.length 1=u.length::js:=by
 have AL:(sl p)[u.length]?=some 32:=by refine J (h ..) (J (RL (Ri _)) (J (So ..) ?_));rfl
 rcases occ_head p " " 1 (Ri _) with⟨_,hn⟩|⟨i,r,e,hi,hn⟩
 ·exact absurd ((subAt_one p 32 u.length).mpr AL) (hn u.length)
 ·have hi:=(subAt_one p 32 i).mp hi;have:i=u.length:=by
   rcases aaD i u.length with q|q|q
   ·have hi:(sl p)[i]?=some 32:=hi;rw[h,R8 q] at hi;exact absurd (Sf hi) hu
   ·exact q
   ·exact absurd ((subAt_one p 32 u.length).mpr AL) (hn _ q)
  rw[this] at e;exact⟨r,e⟩
theorem FH(hp:sl p=sl tag++(as.flatMap atS++62::sl rest))(h0:∃c u,sl tag=c::u∧c≠47)(Ls:32∉sl tag)(ha:as≠[])(hg:∀a∈as,FG a)(hl:as.length≤10)(hr:62∉sl rest)(lt:tag.length≤1000)(lr:rest.length≤9000):ME p tag as rest:=by
 have hT:=zS (">"++rest) 34;have hlen:(">"++rest).length=rest.length+1:=J (RC ..) ((Tr 1 _));have hs:sl (">"++rest)=62::sl rest:=J (aO ..) rfl;have sb:jn 34 ((Sl (">"++rest) ⟨#[34]⟩).map sl)=62::sl rest:=by rw[←pp,join_split,hs]
 have Jw:∀q∈Sl (">"++rest) ⟨#[34]⟩,q.length≤9001:=fun q hq=>by have:=part_short hq;exact ap this (ap (bD hlen) (adr lr))
 have Lp:(Sl (">"++rest) ⟨#[34]⟩).length≤9003:=by have:=split_le (">"++rest) ⟨#[34]⟩;exact ap this (adr (ap (bD hlen) (adr lr)))
 have qi:tag.length≤p.length:=aQ (aq p) (J (hp ..) (J (Ro ..) (J (aq ..) ((gl (Ri _))))));obtain⟨c,u,hc,QF⟩:=h0;obtain⟨a,GY,rfl⟩:∃a GY,as=a::GY:=by cases as with
  |nil=>exact absurd rfl ha
  |cons a as=>exact⟨a,as,rfl⟩
 have J0:sl p=sl tag++32::(sl a.p++58::sl a.l++[61]++34::(sl a.v++[34])++GY.flatMap atS++62::sl rest):=by
  refine J hp (J Ti ?_);delta atS;refine J (gj ..) ?_;rfl
 obtain⟨js,M0⟩:=zT J0 Ls;refine⟨⟨c, ?_,QF⟩,⟨tag.length,js,by rw[M0,aq], ?_, ?_⟩, ?_, ?_, ?_, ?_,⟨?_, ?_⟩,lt,Rq lr dc⟩
 ·refine aQ UN ?_;show(sl p)[0]?=_;refine J hp (J hc ?_);rfl
 ·apply dA;rw[rG qi,hp,←aq,Wi]
 ·refine cQ (c:=34) ?_ ?_ fun q hq=> ?_
  ·refine J (iT qi) (J (hp ..) (aQ (aq ..) (J (UC ..) ?_)));show _=jn 34 ((eV (a::GY) (Sl (">"++rest) ⟨#[34]⟩)).map sl);rw[Ck _ hT,sb]
  ·intro q;exact hT (WK.mp q).2
  ·rcases RE.mp hq with hq|hq
   ·obtain⟨b,hb,hq⟩:=WD.mp hq;have g:=hg b hb;rcases Rt.mp hq with rfl|hq
    ·refine J (gj ..) ?_;simp only[RE,Rt,not_or];exact⟨⟨dc,g.p.1,dc,g.l.1⟩,dc⟩
    ·exact(Rr.mp hq)▸g.v
   ·exact split_free _ 34 q hq
 ·cases hS:Sl (">"++rest) ⟨#[34]⟩ with
  |nil=>exact absurd hS hT
  |cons t T'=>
   refine⟨t,T',62,hS, ?_,dc⟩;replace sb:=hS▸sb;refine aQ UN ?_;show(sl t)[0]?=_;cases T' with
   |nil=>have sb:sl t=_:=sb;exact sb▸rfl
   |cons z Z=>
    have sb:sl t++34::jn 34 ((z::Z).map sl)=62::sl rest:=sb;cases fQ:sl t with
    |nil=>rw[fQ] at sb;simp at sb
    |cons d D=>rw[fQ] at sb;simp at sb;exact sb.1▸rfl
 ·show glued "\"" _=_;exact J (glued_eq_join ..) ((join_split _ _))
 ·have:=split_weight (">"++rest) "\"" dc
  delta XK
  refine J (joinTotal ..) (J ((show("\"":RN).length=1 from rfl) ..) (J (Nat.mul_one ..) ?_));have:tooLong (((Sl (">"++rest) "\"").map (·.length)).sum+(Sl (">"++rest) "\"").length)=false:=by
   delta tooLong;exact R2▸decide_eq_false (by lia)
  exact this▸rfl
 ·refine cQ (c:=62) ?_ (To _ _) fun q hq=> ?_
  ·exact hs▸rfl
  ·rcases Rt.mp hq with rfl|hq
   ·decide
   ·exact(Rr.mp hq)▸hr
 ·have:∀l:List At,(l.flatMap fun a=>[a.key,a.v]).length=2*l.length:=by
   intro l
   induction l with
   |nil=>rfl
   |cons x l ih=>refine J Ti (J Ro (J ih ?_));simp;exact M9
  refine J (Ro ..) (J (this ..) ?_);exact ap (ba (nE hl) Lp) dc
 ·intro q hq;rcases RE.mp hq with hq|hq
  ·obtain⟨b,hb,hq⟩:=WD.mp hq;have g:=hg b hb;rcases Rt.mp hq with rfl|hq
   ·have h1:=g.lp;have h2:=g.ll;refine aQ (aq ..) (J (gj ..) ?_);simp only[Ro,RQ,V8,aq];lia
   ·exact(Rr.mp hq)▸Rq g.lv dc
  ·exact Rq (Jw q hq) dc
theorem FI(hp:sl p=47::(sl tag++62::sl rest))(ht:62∉sl tag)(hr:62∉sl rest):p.cps[0]?=some 47∧Sl (TH p (some 1) none) ">"=[tag,rest]:=by
 have hl:1≤p.length:=by refine aQ (aq ..) (J (hp ..) ?_);simp
 refine⟨by refine aQ UN ?_;show(sl p)[0]?=_;refine J hp ?_;rfl, ?_⟩;refine cQ (c:=62) ?_ (To _ _) fun q hq=> ?_
 ·refine J (show 1=(1:Int) from rfl) (J (iT hl) (J hp ?_));rfl
 ·rcases Rt.mp hq with rfl|hq
  ·exact ht
  ·exact(Rr.mp hq)▸hr
noncomputable def kz(c:Option RN)(N:RN):List (Nm×RN):=match c with
 |some c=>[(⟨AN c N,kJ c N,"by"⟩,c)]
 |none=>[]
noncomputable def gz(c:Option RN)(N:RN):List Nm:=qR N::(kz c N).map (·.1)
noncomputable def bh:List RN→List (List RN)
 |[]=>[]
 |N::L=>bh L++[news (bh L).flatten (db (gz L.head? N))]
noncomputable def bu:List RN→List (RN×RN)
 |N::c::r=>(c,N)::bu (c::r)
 |_=>[]
theorem ii:∀L,(bh L).length=L.length
 |[]=>rfl
 |N::L=>by refine J Ro (J (ii L) ?_);rfl
theorem mU:∀N Fl u,u∈news Fl N↔u∉Fl∧∃m∈N,m.uri=u:=by
 intro N
 induction N with
 |nil=>intro Fl u;exact⟨nofun,fun⟨_,_,h,_⟩=>nomatch h⟩
 |cons m N ih=>
  intro Fl u;rw[fL];refine bn (fun _=> ?_) fun _=> ?_
  ·rename_i h;rw[ih];constructor
   ·rintro⟨a,n,hn,e⟩;exact⟨a,n,Rm _ hn,e⟩
   ·rintro⟨a,n,hn,e⟩;rcases Rt.mp hn with rfl|hn
    ·exact absurd (e▸h) a
    ·exact⟨a,n,hn,e⟩
  ·rename_i h;rw[Rt,ih];constructor
   ·rintro(rfl|⟨a,n,hn,e⟩)
    ·exact⟨h,m,Rn,rfl⟩
    ·exact⟨fun q=>a (RY _ q),n,Rm _ hn,e⟩
   ·rintro⟨a,n,hn,e⟩;rcases Rt.mp hn with rfl|hn
    ·exact .inl e.symm
    ·by_cases q:u=m.uri
     ·exact .inl q
     ·exact .inr ⟨fun z=>(RE.mp z).elim a fun z=>q (Rr.mp z),n,hn,e⟩
theorem mV:∀N Fl,(news Fl N).Nodup:=by
 intro N
 induction N with
 |nil=>intro Fl;exact Tl
 |cons m N ih=>
  intro Fl;rw[fL];refine bn (fun _=> ?_) fun _=> ?_
  ·exact ih _
  ·exact SG.mpr ⟨fun q=>((mU N _ _).mp q).1 (by simp),ih _⟩
theorem rJ:(∃m∈db (gz c N),m.uri=u)↔u=N∨∃b,c=some b∧u=kJ b N:=by
 rw[(show(∃m∈db (gz c N),m.uri=u)↔∃m∈gz c N,m.uri=u from⟨fun⟨m,hm,e⟩=>⟨m,(dK _).mem_iff.mp hm,e⟩,fun⟨m,hm,e⟩=>⟨m,(dK _).mem_iff.mpr hm,e⟩⟩)];cases c with
 |none=>
  constructor
  ·rintro⟨m,hm,e⟩;rw[Rr.mp hm] at e;exact .inl e.symm
  ·rintro(rfl|⟨b,e,_⟩)
   ·exact⟨_,Rr.mpr rfl,rfl⟩
   ·cases e
 |some c=>
  constructor
  ·rintro⟨m,hm,e⟩;rcases Rt.mp hm with rfl|hm
   ·exact .inl e.symm
   ·rw[Rr.mp hm] at e;exact .inr ⟨c,rfl,e.symm⟩
  ·rintro(rfl|⟨b,e,rfl⟩)
   ·exact⟨_,Rn,rfl⟩
   ·cases e;exact⟨_,Rm _ (Rr.mpr rfl),rfl⟩
theorem jw:∀L u,u∈(bh L).flatten↔u∈L∨∃s∈bu L,u=kJ s.1 s.2:=by
 intro L
 induction L with
 |nil=>exact fun u=>⟨fun h=>absurd h RG,fun h=>h.elim (fun h=>absurd h RG) fun h=>absurd h.choose_spec.1 RG⟩
 |cons N L ih=>
  intro u;show u∈(bh L++[_]).flatten↔_;rw[Tf,RE,show [news (bh L).flatten (db (gz L.head? N))].flatten=news (bh L).flatten (db (gz L.head? N)) by simp,mU,rJ];have fQ:∀u,(∃s∈bu (N::L),u=kJ s.1 s.2)↔(∃b,L.head?=some b∧u=kJ b N)∨∃s∈bu L,u=kJ s.1 s.2:=by
   intro u;cases L with
   |nil=>exact⟨fun h=>absurd h.choose_spec.1 RG,fun h=>h.elim (fun h=>by cases h.choose_spec.1) fun h=>absurd h.choose_spec.1 RG⟩
   |cons c r=>
    constructor
    ·rintro⟨s,hs,e⟩;rcases Rt.mp hs with rfl|hs
     ·exact .inl ⟨c,rfl,e⟩
     ·exact .inr ⟨s,hs,e⟩
    ·rintro(⟨b,e,q⟩|⟨s,hs,e⟩)
     ·cases e;exact⟨_,Rn,q⟩
     ·exact⟨s,Rm _ hs,e⟩
  rw[fQ,Rt];by_cases h:u∈(bh L).flatten
  ·constructor
   ·intro _;rcases(ih u).mp h with q|q
    ·exact .inl (.inr q)
    ·exact .inr (.inr q)
   ·intro _;exact .inl h
  ·have hn:=fun q=>h ((ih u).mpr q);constructor
   ·rintro(q|⟨_,rfl|q⟩)
    ·exact absurd q h
    ·exact .inl (.inl rfl)
    ·exact .inr (.inl q)
   ·rintro((rfl|q)|(q|q))
    ·exact .inr ⟨h, .inl rfl⟩
    ·exact absurd (.inl q) hn
    ·exact .inr ⟨h, .inr q⟩
    ·exact absurd (.inr q) hn
theorem ij:∀L,(bh L).flatten.length≤2*L.length
 |[]=>Ri _
 |N::L=>by
  have h2:(db (gz L.head? N)).length≤2:=by refine J ((dK _).length_eq) ?_;cases L.head?<;>simp[gz,kz]
  refine J Tf (J Ro (J RQ ?_));simp only[VA,Yn,RF];exact ba (ij L) (ap (jt (db (gz L.head? N)) (bh L).flatten) h2)
structure gB(fs:List LF):Prop where
 len:fs.length=4
 nm:∀f∈fs,f.nm=f.text∧eG f.text
theorem Cm xs:gB (mQ xs):=⟨rfl,fun f hf=>by obtain⟨p,_,rfl⟩:=Rz.mp hf;exact px _⟩
theorem gB.at(F:gB fs){k}(h:k<4):∃f∈fs,aU fs k=f.text∧(fs[k]?.map LF.text).getD ""=f.text:=by
 have hk:=F.len▸h;refine⟨fs[k],UA hk, ?_, ?_⟩
 ·delta aU;exact J (RK hk) (((F.nm _ (UA hk)).1))
 ·exact J (RK hk) rfl
theorem gB.ug(F:gB fs){k}(h:k<4):eG (aU fs k):=by
 obtain⟨f,hf,e,_⟩:=F.at h;exact e▸(F.nm f hf).2
theorem gZ(F:gB fs){way}(h:∀j∈way,j<4):aH fs way=way.map (aU fs):=
 R9 fun j hj=>by obtain⟨f,_,e1,e2⟩:=F.at (h j hj);rw[e1,e2]
theorem FJ(h:cN a=cN b):a=b:=by
 have h:sl (cN a)=sl (cN b):=by rw[h]
 rw[vi,vi] at h;refine dA (Wv (bs:=125::sl "c") ?_);exact(U2 h).2
noncomputable abbrev newD(L:List RN)(N:RN):List RN:=news (bh L).flatten (db (gz L.head? N))
noncomputable abbrev uh(us:List RN)(L:List RN)(N:RN):List (RN×RN):=DP us (newD L N)++(kz L.head? N).map fun a=>(bB us a.1.uri++":"++a.1.tag,a.2)
structure Ox(t t':Tg) L N:Prop where
 us:∃e,t'.us=t.us++e∧e.length≤2
 told:t'.told=t.fl.told++cX t'.us (qR N) (uh t'.us L N)
 data:t'.data=[]
 ex:t'.ex=t.ex
 ig:t'.ig=t.ig
 rs:t'.rs=true
 k:t'.k=t.k+1
 lvl:live t'.lv=bh (N::L)
 ok:t'.ok
theorem mW c N:(db (gz c N)).length≤2:=by refine J ((dK _).length_eq) ?_;cases c<;>simp[gz,kz]
theorem FK{L}{N}(hl:live t.lv=bh L)(ok:t.ok)(hu:t.us.length≤98)(hx:∀m∈gz L.head? N,m.uri≠kH):Ox t (({t.fl with lv:=t.lv++[some []]}:Tg).DQ (qR N) (kz L.head? N)) L N:=by
 let t1:Tg:={t.fl with lv:=t.lv++[some []]};have ki:live t1.lv=bh L++[[]]:=by refine J (b7 ..) (J (hl ..) ?_);rfl
 have DT:(live t1.lv).flatten=(bh L).flatten:=by refine J ki (J Tf ?_);simp
 have Db:=t.fa;have hn:=mW L.head? N;refine Rg fun kG=> ?_;obtain⟨e,he,d5⟩:=Tg.tH (db (gz L.head? N)) t1;obtain⟨q1,q2,q3,q4,q5,q6,q7⟩:=Tg.qM (db (gz L.head? N)) t1;refine kG ?_;have qo:=Tg.Fa (db (gz L.head? N)) t1 (⟨fun u hu=>by refine J Db ?_;rw[DT,←(show(live t.lv).flatten=(bh L).flatten by rw[hl])] at hu;exact ok.mem u hu,by rw[Db];exact ok.len,by refine J Db ?_;exact ok.nd,by exact Db▸ok.AJ⟩) (by refine J ki ?_;simp) (fun m hm=>hx m ((dK _).mem_iff.mp hm)) (Db▸Rq (VJ hu hn) dc);refine⟨⟨e,he.trans (Db▸rfl),Rq d5 hn⟩, ?_,q2.trans t.uT,q3.trans t.DO,q6.trans t.DM,rfl,congrArg (·+1) t.BF, ?_,⟨qo.mem,qo.len,qo.nd,qo.AJ⟩⟩
 ·show _++cX _ _ (DP _ (news (live t1.lv).flatten _)++_)=_;exact J DT rfl
 ·refine J ((Tg.oX t.lv (db (gz L.head? N)) t1 [] rfl) ..) (J (DT ..) (J (b7 ..) (J (hl ..) ?_)));rfl
structure Kl(t t':Tg)(L:List RN) N:Prop where
 us:t'.us=t.us
 told:t'.told=t.fl.told++[fJ (bB t.us N) "c"]
 data:t'.data=[]
 ex:t'.ex=t.ex
 ig:t'.ig=t.ig
 rs:t'.rs=t.rs
 k:t'.k=L.length+1
 lvl:live t'.lv=bh L
 ok:t'.ok
theorem Cn{L}{N}(hl:live t.lv=bh (N::L))(ok:t.ok)(h0:t.ig=0):Kl t (t.ix N "c") L N:=by
 have aV:live t.lv≠[]:=by refine J hl ?_;exact fun q=>by have:=congrArg Tm q;have:=(ii ..)▸this;cases this
 obtain⟨ls,l,ds,e,hd⟩:=oR aV;have h1:live t.lv=live ls++[l]:=by rw[e,jq hd]
 have h2:live (ei (fun _=>none) t.lv)=live ls:=by
  rw[e,eS _ l ds hd,b7,show live (none::ds)=live ds from rfl,hV hd,RF]
 have h3:live ls=bh L:=by
  have:bh L++[newD L N]=live ls++[l]:=by refine aQ h1 (J hl ?_);rfl
  exact(WE this rfl).1.symm
 refine J (show t.ix N "c"={t.fl with told:=t.fl.told++[fJ (bB t.us N) "c"],lv:=ei (fun _=>none) t.lv,rd:=(live t.lv).length==1,k:=(live t.lv).length} from if_pos h0) (⟨t.fa,rfl,t.uT,t.DO,t.DM,t.It, ?_,h2.trans h3,⟨fun u hu=> ?_,by refine J t.fa ?_;exact ok.len,by refine J t.fa ?_;exact ok.nd,by exact J t.fa ok.AJ⟩⟩)
 ·show(live t.lv).length=_;refine J (hl ..) (J (ii ..) ?_);rfl
 ·refine J t.fa ?_;refine ok.mem u ?_;rw[h2] at hu;rw[h1,Tf];exact RY _ hu
structure Inv fs(c e:Nat)(r:RS)(L Ex:List RN):Prop where
 wk:∀j∈r.way,j<4
 path:r.way.map (aU fs)=L.reverse++Ex
 lo:aU fs 3∉L
 eo:Ex=[]∨∃E,Ex=aU fs 3::E
 ig:r.t.ig=Ex.length
 Co:r.t.ex=cN (aU fs 3)
 lvl:live r.t.lv=bh L
 tok:r.t.ok
 k:r.t.k=L.length+1
 us:r.t.us.length≤2*c
 dat:r.t.data.length≤c
 d1:∀d∈r.t.data,d.length=1
 told:r.t.told.length≤4*c+2*e
 cl:r.calls.length≤c
 tl:r.ticks.length≤c
 wl:r.way.length≤c
 nm:∀N∈L,eG N
section
variable{fs:List LF}{c e:Nat}{r:RS}{L Ex:List RN}
theorem Inv.len(I:Inv fs c e r L Ex):L.length+Ex.length=r.way.length:=by
 have:=congrArg Tm I.path;rw[Rk,Ro,Xs] at this;exact this.symm
theorem Inv.last(I:Inv fs c e r L Ex){ws}{j}(h:r.way=ws++[j])(hE:Ex=[]):∃L',L=aU fs j::L'∧ws.map (aU fs)=L'.reverse:=by
 have hp:=I.path;replace hp:=(RH ..)▸(RF ..)▸(hE ..)▸(h ..)▸hp;cases L with
 |nil=>exact absurd hp (by simp)
 |cons N L'=>
  rw[SN] at hp;exact⟨L',by rw[show aU fs j=N by simpa using(WE hp rfl).2],(WE hp rfl).1⟩
theorem Inv.atts(I:Inv fs c e r L Ex)(hE:Ex=[]) N:fb fs r.way N=kz L.head? N:=by
 rcases TN r.way with h|⟨ws,j,h⟩
 ·have hl:=I.len;rw[h,hE] at hl
  delta fb;refine J h (J (RX.mp hl) ?_);rfl
 ·have h:r.way=ws++[j]:=by refine J h ?_;simp
  obtain⟨L',e1,_⟩:=I.last h hE
  delta fb;refine J h (J e1 (J Um ?_));rfl
theorem Cp(h:∀d∈l,d.length≤1000)(hl:l.length≤1000):XK "" l=true:=by
 delta XK
 refine J (joinTotal ..) ?_;have:=sumLen_le l h;have:tooLong ((l.map (·.length)).sum+0)=false:=by
  delta tooLong;exact J R2 ((decide_eq_false (by lia)))
 exact this▸rfl
theorem j2:∀{l},(∀d∈l,d.length=1)→(SF "" l).length=l.length:=fun {l} h=>by
 refine aQ (aq ..) (J (dC ..) ?_)
 induction l with
 |nil=>rfl
 |cons d l ih=>
  rw[RD,VA,Ro,ih fun x hx=>h x (Rm _ hx),aq,h d Rn,RQ,Tr]
theorem Inv.Km(I:Inv fs c e r L Ex)(F:gB fs)(hc:c≤28)(he:e≤28):IK fs r:=by
 have hL:=I.len;have wl:=I.wl;have us:=I.us;have dat:=I.dat;have told:=I.told;have cl:=I.cl;have tl:=I.tl;have hf:(live r.t.lv).flatten.length≤60:=J I.lvl ((Rq (ij L) (by lia)));have vj:r.t.data.length≤1000:=ap dat (ap hc dc);refine⟨F.len,fun f hf=> ?_,fun j hj=>by refine J F.len ?_;exact I.wk j hj,by exact ap wl (ap hc dc),by exact ap cl (ap hc dc),by exact ap tl (ap hc dc),vj,I.tok,⟨Cp (fun d hd=>by refine J (I.d1 d hd) ?_;decide) vj,by refine J (j2 I.d1) ?_;exact ap dat (ap hc dc),by exact ap told (ap (ba (nE hc) (nE he)) dc),by exact eI hf⟩,by exact eI hf,by exact ap us (ap (nE hc) dc),by refine J (I.lvl ..) (J (ii ..) ?_);exact I.k,by refine J I.k ?_;lia,fun k hk=> ?_,fun j hj=>FF (F.ug (I.wk j hj)),fun ws j hw hi=> ?_⟩
 ·exact(F.nm f hf).1▸Rq (F.nm f hf).2.len dc
 ·delta fb
  cases hg:r.way.getLast? with
  |none=>exact Cj (F.ug hk)
  |some j=>exact Jv (F.ug (I.wk j (List.mem_of_getLast? hg))) (F.ug hk)
 ·have hE:Ex=[]:=by
   have:=I.ig;rw[hi] at this;exact RX.mp (by lia)
  obtain⟨L',e1,_⟩:=I.last hw hE;rw[I.lvl,jw,e1];exact .inl Rn
theorem Cq(hN:eG N):∀m∈gz L.head? N,m.uri≠kH:=fun m hm=>by
 rcases Rt.mp hm with rfl|hm
 ·exact hN.nx
 ·cases L with
  |nil=>exact absurd hm RG
  |cons b L=>exact(Rr.mp hm)▸zR _ _
theorem Inv.op(I:Inv fs c e r L []){k}(F:gB fs)(hk:k<4)(hn:aU fs k≠aU fs 3)(hc:c≤40):Ox r.t (r.start fs k).t L (aU fs k):=by
 have:=FK I.lvl I.tok (ap I.us (ap (nE hc) dc)) (Cq (F.ug hk));rw[←I.atts rfl] at this;have e:(r.start fs k).t=({r.t.fl with lv:=r.t.lv++[some []]}:Tg).DQ (qR (aU fs k)) (fb fs r.way (aU fs k)):=by
  refine if_neg ?_;rintro(q|q)
  ·exact q I.ig
  ·rw[I.Co] at q;exact hn (FJ q)
 exact e▸this
theorem g7(h:∀j∈r.way,j<4)(hk:k<4):∀j∈r.way++[k],j<4:=fun j hj=>(RE.mp hj).elim (h j) fun q=>by exact(Rr.mp q)▸hk
theorem Inv.vk(I:Inv fs c e r L []){k}(F:gB fs)(hk:k<4)(hn:aU fs k≠aU fs 3)(hc:c≤40):Inv fs (c+1) e (r.start fs k) (aU fs k::L) []:=by
 have O:=I.op F hk hn hc;have hw:(r.start fs k).way=r.way++[k]:=rfl;obtain⟨e1,he,hl⟩:=O.us;have ht:(cX (r.start fs k).t.us (qR (aU fs k)) (uh (r.start fs k).t.us L (aU fs k))).length≤3:=by delta cX;refine bn (fun _=> ?_) (fun _=> ?_)<;>simp
 refine⟨g7 I.wk hk, ?_,fun q=> ?_, .inl rfl,O.ig.trans I.ig,O.ex.trans I.Co,O.lvl,O.ok, ?_, ?_, ?_, ?_, ?_, ?_,Sq I.tl, ?_, ?_⟩
 ·refine J hw (J RH (J I.path ?_));simp
 ·rcases Rt.mp q with q|q
  ·exact hn q.symm
  ·exact I.lo q
 ·refine J O.k (J I.k ?_);rfl
 ·refine J he (J Ro ?_);exact ba I.us hl
 ·exact O.data▸RW _
 ·exact O.data▸fun _ h=>absurd h RG
 ·refine J O.told (J Ro ?_);have:=I.told;have:=r.t.kW;lia
 ·exact J Ro ((TE I.cl 1))
 ·exact J hw (J Ro ((TE I.wl 1)))
 ·intro N hN;rcases Rt.mp hN with rfl|hN
  ·exact F.ug hk
  ·exact I.nm N hN
theorem Inv.zU(I:Inv fs c e r L Ex){k}(hk:k<4)(hn:Ex≠[]∨aU fs k=aU fs 3):Inv fs (c+1) e (r.start fs k) L (Ex++[aU fs k])∧(r.start fs k).t={r.t with ig:=r.t.ig+1}:=by
 have hw:(r.start fs k).way=r.way++[k]:=rfl;have e1:(r.start fs k).t={r.t with ig:=r.t.ig+1}:=by
  refine if_pos ?_;rcases hn with q|q
  ·exact .inl fun z=>q (RX.mp (by have:=I.ig;lia))
  ·exact .inr (by refine J I.Co (aQ q ?_);rfl)
 refine⟨?_,e1⟩;refine⟨g7 I.wk hk, ?_,I.lo, .inr ?_, ?_, ?_, ?_, ?_, ?_, ?_, ?_, ?_, ?_, ?_,Sq I.tl, ?_,I.nm⟩
 ·refine J hw (J RH (J I.path ?_));simp
 ·rcases I.eo with h|⟨E,h⟩
  ·rcases hn with q|q
   ·exact absurd h q
   ·exact⟨[],by refine J h (J q ?_);rfl⟩
  ·exact⟨E++[aU fs k],by refine J h ?_;rfl⟩
 ·refine J e1 (J Ro (J I.ig ?_));rfl
 ·exact e1▸I.Co
 ·exact e1▸I.lvl
 ·exact e1▸⟨I.tok.mem,I.tok.len,I.tok.nd,I.tok.AJ⟩
 ·exact e1▸I.k
 ·exact e1▸Rq I.us (nE (gl (Ri _)))
 ·exact e1▸Sq I.dat
 ·exact e1▸I.d1
 ·exact e1▸Rq I.told (ba (nE (gl (Ri _))) (Ri _))
 ·exact J Ro ((TE I.cl 1))
 ·exact J hw (J Ro ((TE I.wl 1)))
theorem Inv.tick(I:Inv fs c e r L Ex) x:Inv fs (c+1) e (r.tick fs x) L Ex:=by
 have dat:=I.dat;have e1:((r.tick fs x).ticks).length=r.ticks.length+1:=by show(r.ticks++[_]).length=_;simp
 by_cases h:r.t.ig=0
 ·have et:(r.tick fs x).t={r.t with data:=r.t.data++[BP ((x.fdiv 5).fmod 10).toNat]}:=if_pos h;refine⟨I.wk,I.path,I.lo,I.eo, ?_, ?_, ?_, ?_, ?_, ?_, ?_, ?_, ?_,Sq I.cl,by rw[e1];exact Ue I.tl,Sq I.wl,I.nm⟩<;>refine J et ?_
  ·exact I.ig
  ·exact I.Co
  ·exact I.lvl
  ·exact⟨I.tok.mem,I.tok.len,I.tok.nd,I.tok.AJ⟩
  ·exact I.k
  ·exact Rq I.us (nE (gl (Ri _)))
  ·exact J Ro ((Ue dat))
  ·intro d hd;rcases RE.mp hd with hd|hd
   ·exact I.d1 d hd
   ·exact congrArg _ (Rr.mp hd)
  ·exact Rq I.told (ba (nE (gl (Ri _))) (Ri _))
 ·have et:(r.tick fs x).t=r.t:=if_neg h;refine⟨I.wk,I.path,I.lo,I.eo, ?_, ?_, ?_, ?_, ?_, ?_, ?_, ?_, ?_,Sq I.cl,by rw[e1];exact Ue I.tl,Sq I.wl,I.nm⟩<;>refine J et ?_
  ·exact I.ig
  ·exact I.Co
  ·exact I.lvl
  ·exact I.tok
  ·exact I.k
  ·exact Rq I.us (nE (gl (Ri _)))
  ·exact Sq dat
  ·exact I.d1
  ·exact Rq I.told (ba (nE (gl (Ri _))) (Ri _))
theorem RS.rK(h:r.way≠[]):∃ws j,r.way=ws++[j]∧r.way.dropLast=ws∧r.way.getLast?.getD 0=j:=by
 rcases TN r.way with q|⟨ws,j,q⟩
 ·exact absurd q h
 ·have q:r.way=ws++[j]:=by refine J q ?_;simp
  exact⟨ws,j,q,by refine J q ?_;simp,by refine J q ?_;simp⟩
theorem Inv.FL(I:Inv fs c e r L Ex){X}{N}(hE:Ex=X++[N]):Inv fs c (e+1) (r.fin fs) L X∧(r.fin fs).t={r.t with ig:=r.t.ig-1}:=by
 have hl:=I.len;have ig:=I.ig;have aV:r.way≠[]:=fun q=>by rw[q,hE] at hl;simp at hl
 obtain⟨ws,j,e1,e2,e3⟩:=RS.rK aV;have hw:(r.fin fs).way=ws:=e2;have et:(r.fin fs).t={r.t with ig:=r.t.ig-1}:=by
  refine if_neg fun q=> ?_;rw[ig,hE] at q;simp at q;lia
 refine⟨?_,et⟩;refine⟨by exact hw▸(fun i hi=>I.wk i (e1▸RY _ hi)), ?_,I.lo, ?_, ?_, ?_, ?_, ?_, ?_, ?_, ?_, ?_, ?_,I.cl,I.tl, ?_,I.nm⟩
 ·have:=I.path;rw[e1,hE,RH,←RP] at this;exact hw▸(WE this rfl).1
 ·cases X with
  |nil=>exact .inl rfl
  |cons a X=>
   rcases I.eo with h|⟨E,h⟩
   ·rw[h] at hE;simp at hE
   ·rw[h] at hE;simp at hE;exact .inr ⟨X,by rw[hE.1]⟩
 ·refine J et ?_;show r.t.ig-1=_;refine J ig (J hE (J Ro ?_));simp
 ·exact et▸I.Co
 ·exact et▸I.lvl
 ·exact et▸⟨I.tok.mem,I.tok.len,I.tok.nd,I.tok.AJ⟩
 ·exact et▸I.k
 ·exact et▸I.us
 ·exact et▸I.dat
 ·exact et▸I.d1
 ·exact et▸Rq I.told (ba (Ri _) (nE (gl (Ri _))))
 ·refine J hw ?_;have:=I.wl;rw[e1,Ro] at this;exact Uo this
theorem Inv.Jx(I:Inv fs c e r L [])(aV:r.way≠[]):∃N L',L=N::L'∧Kl r.t (r.fin fs).t L' N∧Inv fs c (e+1) (r.fin fs) L' []:=by
 refine Rg fun kG=> ?_;obtain⟨ws,j,e1,e2,e3⟩:=RS.rK aV;obtain⟨L',hL,hp⟩:=I.last e1 rfl;refine kG ?_;have hw:(r.fin fs).way=ws:=e2;have C:Kl r.t (r.fin fs).t L' (aU fs j):=by
  show Kl r.t (r.t.ix (aU fs (r.way.getLast?.getD 0)) "c") L' (aU fs j);exact J e3 ((Cn (hL▸I.lvl) I.tok I.ig))
 refine⟨_,L',hL,C, ?_⟩;refine⟨by refine J hw ?_;exact fun i hi=>I.wk i (e1▸RY _ hi),by refine J hw (J hp ?_);simp,fun q=>I.lo (hL▸Rm _ q), .inl rfl,C.ig.trans I.ig,C.ex.trans I.Co,C.lvl,C.ok,C.k,by refine J C.us ?_;exact I.us,by refine J C.data ?_;exact RW _,by refine J C.data ?_;exact fun _ h=>absurd h RG, ?_,I.cl,I.tl, ?_,fun N hN=>I.nm N (hL▸Rm _ hN)⟩
 ·refine J C.told (J Ro ?_);have:=I.told;have:=r.t.kW;simp;lia
 ·refine J hw ?_;have:=I.wl;rw[e1,Ro] at this;exact Uo this
end
theorem oj:Rv x=true↔∀c∈sl x,c<0x110000:=by
 delta Rv
 rw[←Array.all_toList,SE];exact⟨fun h c hc=>by simpa using h c hc,fun h c hc=>by simpa using h c hc⟩
theorem on(h1:Rv x=true)(h2:Rv y=true):Rv (x++y)=true:=by
 rw[oj] at*;exact J (aO ..) ((fun c hc=>(RE.mp hc).elim (h1 c) (h2 c)))
theorem zV(hc:eG c)(hN:eG N):Rv (kJ c N)=true:=on (on hc.ok (by decide+kernel)) hN.ok
theorem Cr:∀i<120,((sl (jj i)).all fun c=>decide (48≤c)&&decide (c≤57))=true:=by decide+kernel
theorem pA(hl:us.length≤100) u:∃d,sl (bB us u)=110::d∧∀c∈d,48≤c∧c≤57:=by
 refine⟨sl (jj (us.idxOf u)),by refine J (aO ..) ?_;rfl,fun c hc=> ?_⟩;simpa using(SE.mp (Cr (us.idxOf u) (by have:=ZO (a:=u) (l:=us);exact elt this (elt hl dc))) c hc)
theorem zW(hl:us.length≤100) u{d}(h:d<48∨(57<d∧d≠110)):d∉sl (bB us u):=by
 obtain⟨e,q,h1⟩:=pA hl u;rw[q,Rt,not_or];refine⟨by lia,fun m=> ?_⟩;have:=h1 d m;lia
theorem FM(hl:us.length≤100) u:Rv (bB us u)=true:=by
 obtain⟨e,q,h1⟩:=pA hl u;rw[oj,q];intro c hc;rcases Rt.mp hc with rfl|hc
 ·decide
 ·have:=h1 c hc;lia
theorem xk(hl:us.length≤100) u:bB us u≠"xmlns":=fun q=>by
 obtain⟨e,q2,_⟩:=pA hl u;rw[q] at q2;exact absurd (U2 q2).1 dc
noncomputable abbrev pP(us:List RN)(u:RN):RN×RN:=(bB us u,u)
theorem ce:∀l,(b6 l).Perm l
 |[]=> .refl _
 |[_]=> .refl _
 |[x,y]=>by
  show(bj (oL y x) x y).Perm _
  delta bj;refine bn (fun _=> ?_) fun _=> ?_
  ·exact .swap x y []
  ·exact .refl _
 |_::_::_::_=> .refl _
theorem zX f(hf:∀p q,oL (f p) (f q)=oL p q):∀l,b6 (l.map f)=(b6 l).map f
 |[]=>rfl
 |[_]=>rfl
 |[x,y]=>by
  show bj (oL (f y) (f x)) (f x) (f y)=(bj (oL y x) x y).map f;refine J (hf ..) ?_;delta bj;split<;>rfl
 |_::_::_::_=>rfl
theorem Cs(z x y:RN):AD (z++x) (z++y)=AD x y:=by
 have:∀z x y:List Nat,(z++x<z++y)↔x<y:=by
  intro z x y
  induction z with
  |nil=>exact Iff.rfl
  |cons c z ih=>rw[TD,TD,List.cons_lt_cons_iff,ih];simp
 exact decide_eq_decide.mpr (by
  show sl (z++x)<sl (z++y)↔_;exact J (aO ..) (J (aO ..) ((this _ _ _))))
theorem Ct{z x y:RN}(h:z++x=z++y):x=y:=by
 have h:sl (z++x)=sl (z++y):=by rw[h]
 rw[aO,aO] at h;exact dA (List.append_cancel_left h)
theorem zY{z x y:RN}(h:x++z=y++z):x=y:=by
 have h:sl (x++z)=sl (y++z):=by rw[h]
 rw[aO,aO] at h;exact dA (Wv h)
theorem FN(us l:List RN):DP us l=(b6 (l.map (pP us))).map fun p=>(("xmlns:"++p.1:RN),p.2):=by
 rw[←zX,RO]
 ·rfl
 ·intro p q
  delta oL
  refine J (Cs ..) ?_;by_cases h:p.1=q.1
  ·rw[if_pos h,if_pos (congrArg _ h)]
  ·rw[if_neg h,if_neg fun z=>h (Ct z)]
structure nB(us:List RN) L:Prop where
 len:us.length≤100
 mem:∀u∈(bh L).flatten,u∈us
 nm:∀N∈L,eG N
theorem cF N L:(bh (N::L)).flatten=(bh L).flatten++newD L N:=by
 show(bh L++[newD L N]).flatten=_;rw[Tf,List.flatten_singleton]
theorem nB.tail{N}(K:nB us (N::L)):nB us L:=⟨K.len,fun u hu=>K.mem u (J (cF ..) (RY _ hu)),fun M hM=>K.nm M (Rm _ hM)⟩
noncomputable def jx(us:List RN):List RN→List (RN×RN)
 |[]=>[]
 |N::L=>jx us L++b6 ((newD L N).map (pP us))
theorem pB us:∀L p,p∈jx us L↔∃u∈(bh L).flatten,p=pP us u:=by
 intro L
 induction L with
 |nil=>intro p;exact⟨fun h=>absurd h RG,fun⟨u,h,_⟩=>absurd h RG⟩
 |cons N L ih=>
  intro p;show p∈jx us L++_↔_;rw[RE,ih,(ce _).mem_iff,cF];constructor
  ·rintro(⟨u,h,e⟩|h)
   ·exact⟨u,RY _ h,e⟩
   ·obtain⟨u,h,e⟩:=Rz.mp h;exact⟨u,Sg _ h,e.symm⟩
  ·rintro⟨u,h,e⟩;rcases RE.mp h with h|h
   ·exact .inl ⟨u,h,e⟩
   ·exact .inr (Rz.mpr ⟨u,h,e.symm⟩)
theorem pC us:∀L,(jx us L).length=(bh L).flatten.length
 |[]=>rfl
 |N::L=>by
  show(jx us L++_).length=_;rw[Ro,pC us L,(ce _).length_eq,Rk,cF,Ro]
theorem pD:∀{L},(∀u∈(bh L).flatten,u∈us)→jx (us++e) L=jx us L
 |[],_=>rfl
 |N::L,h=>by
  rw[cF] at h;show jx (us++e) L++_=jx us L++_;rw[pD fun u hu=>h u (RY _ hu),R9 fun u hu=>by
   show(bB (us++e) u,u)=(bB us u,u);rw[kY (h u (Sg _ hu))]]
theorem ui(h1:∃p∈f,q p=true)(h2:∀p∈f,q p=true→p.2=u):cc f q≠[]∧(cc f q).getLast?.getD ""=u:=by
 have aV:cc f q≠[]:=by
  obtain⟨p,hp,hq⟩:=h1;intro e;have:=Sk.mpr ⟨hp,hq⟩;cases(Ux.mp e)▸this
 refine⟨aV, ?_⟩;refine J (Yr aV) (J Option.getD_some ?_);obtain⟨p,hp,e⟩:=Rz.mp (aaI aV);exact e▸h2 p (Sk.mp hp).1 (Sk.mp hp).2
theorem nB.known(K:nB us L){u}(hu:u∈(bh L).flatten){q}(hq:∀p,q p=true↔p.1=bB us u):cc (jx us L) q≠[]∧(cc (jx us L) q).getLast?.getD ""=u:=by
 refine ui ⟨pP us u,(pB us L _).mpr ⟨u,hu,rfl⟩,(hq _).mpr rfl⟩ fun p hp h=> ?_;obtain⟨v,hv,rfl⟩:=(pB us L p).mp hp;exact kT K.len (K.mem v hv) (K.mem u hu) ((hq _).mp h)
noncomputable def nC(us L:List RN)(N:RN):List At:=(b6 ((newD L N).map (pP us))).map (fun p=>⟨"xmlns",p.1,d9 p.2⟩)++(kz L.head? N).map fun a=>⟨bB us a.1.uri,"by",d9 a.2⟩
noncomputable def Kn(L:List RN)(N:RN):RN:=match L.head? with
 |some c=>kJ c N
 |none=>""
noncomputable def dL(us:List RN)(N:RN):RN:=bB us N++":c"
theorem zZ:∀l(h:Hd),(l.map fun p=>(⟨"xmlns",p.1,d9 p.2⟩:At)).foldl Hd.at h={h with aj:=h.aj++l}:=by
 intro l
 induction l with
 |nil=>intro h;show h={h with aj:=h.aj++[]};rw[RF]
 |cons p l ih=>
  intro h;refine J (RD ..) (J (aa1 ..) (J (ih ..) ?_));have:h.at ⟨"xmlns",p.1,d9 p.2⟩={h with aj:=h.aj++[p]}:=by
   delta Hd.at;refine J (if_pos rfl) ?_;rw[oi]
  refine J this (J (RP ..) ?_);rfl
theorem g8:u∈newD L N↔u∉(bh L).flatten∧(u=N∨∃b,L.head?=some b∧u=kJ b N):=by
 rw[mU,rJ]
theorem k8{N u}(h:u=N∨∃b,L.head?=some b∧u=kJ b N):u∈(bh (N::L)).flatten:=by
 refine J (cF ..) ?_;by_cases q:u∈(bh L).flatten
 ·exact RY _ q
 ·exact Sg _ (g8.mpr ⟨q,h⟩)
section
variable{us L:List RN}{N:RN}{r:Rd}
theorem rL(K:nB us (N::L))(hf:r.aj=jx us L):r.hd (nC us L N)=⟨jx us (N::L),L.head?.getD "",Kn L N⟩:=by
 unfold Rd.hd nC;refine J (Ws ..) (J (zZ ..) (J (hf ..) ?_));cases L with
 |nil=>rfl
 |cons c L=>
  show Hd.at _ _=_
  delta Hd.at
  refine J (if_neg (xk K.len _)) (J (oi ..) ?_);exact congrArg _ ((K.known (k8 (.inr ⟨c,rfl,rfl⟩)) fun p=>by rw[beq_iff_eq]).2)
theorem D1(K:nB us (N::L))(hf:r.aj=jx us L):cc (r.hd (nC us L N)).aj (fun x=>x.1++":c"==dL us N)≠[]∧r.nm (dL us N) (nC us L N)=N:=by
 have k:=K.known (k8 (.inl rfl)) (q:=fun x=>x.1++":c"==dL us N) fun p=>by
  rw[beq_iff_eq];exact⟨zY,fun h=>by refine J h ?_;rfl⟩
 delta Rd.nm
 exact(rL K hf)▸k
theorem jy(K:nB us (N::L))(hf:r.aj=jx us L):r.fresh (nC us L N)=b6 ((newD L N).map (pP us)):=by
 delta Rd.fresh
 refine J (rL K hf) (J hf ?_);show(jx us L++_).drop _=_;rw[UC]
theorem xl(K:nB us (N::L)):b6 (b6 ((newD L N).map (pP us)))=b6 ((newD L N).map (pP us)):=by
 have nd:(newD L N).Nodup:=mV _ _;have hm:=fun u hu=>K.mem u (J (cF ..) ((Sg _ hu)));have hl:(newD L N).length≤2:=Rq (jt _ _) (mW _ _);revert nd hm hl;generalize newD L N=l;intro nd hm hl;rcases gK hl with rfl|⟨x,rfl⟩|⟨x,y,rfl⟩
 ·rfl
 ·rfl
 ·
  have Gp:bB us x≠bB us y:=fun q=>by
   rw[(kT K.len (hm x Rn) (hm y (by simp)) q)] at nd;simp at nd
  have h1:oL (pP us y) (pP us x)=AD (bB us y) (bB us x):=if_neg fun q=>Gp q.symm;show b6 (bj (oL (pP us y) (pP us x)) (pP us x) (pP us y))=bj (oL (pP us y) (pP us x)) (pP us x) (pP us y)
  delta bj
  refine bn (fun _=> ?_) fun _=> ?_
  ·rename_i h;show bj (oL (pP us x) (pP us y)) (pP us y) (pP us x)=_;replace h:=(vf Gp)▸h1▸h;refine J (show oL (pP us x) (pP us y)=AD (bB us x) (bB us y) from if_neg Gp) ?_;delta bj;rw[if_neg];intro q;rw[q] at h;cases h
  ·rename_i h;show bj (oL (pP us y) (pP us x)) _ _=_
   delta bj;rw[if_neg h]
end
theorem Ko{α β γ:Type}(f:α→β→γ){a a'}{b b'}(h1:a=a')(h2:b=b'):f a b=f a' b':=by rw[h1,h2]
structure j3 where
 nm:RN
 new:Nat
 caller:RN
 first:Nat
noncomputable def Rw.cq(r:Rw):j3:=⟨r.nm,r.new,r.caller,r.first⟩
noncomputable def ax:List RN→j3
 |[]=>⟨"",0,"",0⟩
 |[N]=>⟨N,1,"",0⟩
 |N::c::L=>⟨N,if N∈c::L then 0 else 1,c,if(c,N)∈bu (c::L) then 0 else 1⟩
theorem mX:∀{L}{s},s∈bu L→s.1∈L∧s.2∈L:=by
 intro L
 induction L with
 |nil=>intro s h;cases h
 |cons N L ih=>
  intro s h;cases L with
  |nil=>cases h
  |cons c L=>
   rcases Rt.mp h with rfl|h
   ·exact⟨Rm _ Rn,Rn⟩
   ·exact⟨Rm _ (ih h).1,Rm _ (ih h).2⟩
theorem rM{l:List RN}(h:l.Nodup) x:l.count x=if x∈l then 1 else 0:=by
 refine bn (fun _=> ?_) fun _=> ?_
 ·rename_i q;exact List.Nodup.count h|>.trans (if_pos q)
 ·rename_i q;exact Ys q
section
variable{us L:List RN}{N:RN}{r:Rd}
theorem kA(K:nB us (N::L))(hf:r.aj=jx us L) x:((r.fresh (nC us L N)).map (·.2)).count x=if x∈newD L N then 1 else 0:=by
 rw[jy K hf,←rM (mV _ _),((ce _).map (·.2)).count_eq,RO,show((·.2)∘pP us:RN→RN)=_root_.id from rfl,List.map_id]
theorem k9(K:nB us (N::L)):N∈newD L N↔N∉L:=by
 rw[g8,jw];constructor
 ·rintro⟨h,_⟩ q;exact h (.inl q)
 ·intro h;refine⟨?_, .inl rfl⟩;rintro(q|⟨s,_,e⟩)
  ·exact h q
  ·exact rI (K.nm N Rn) e
theorem oo(K:nB us (N::c::L)):kJ c N∈newD (c::L) N↔(c,N)∉bu (c::L):=by
 rw[g8,jw];constructor
 ·rintro⟨h,_⟩ q;exact h (.inr ⟨_,q,rfl⟩)
 ·intro h;refine⟨?_, .inr ⟨c,rfl,rfl⟩⟩;rintro(q|⟨s,hs,e⟩)
  ·exact rI (K.tail.nm _ q) rfl
  ·obtain⟨e1,e2⟩:=FE (K.nm c (Rm _ Rn)) (K.tail.nm _ (mX hs).1) e;exact h ((Prod.ext e1.symm e2.symm:s=(c,N))▸hs)
theorem Cu(K:nB us (N::L))(hf:r.aj=jx us L):(r.row (dL us N) (nC us L N)).cq=ax (N::L):=by
 unfold Rw.cq Rd.row;dsimp only;rw[((D1 K hf).2),rL K hf,kA K hf,kA K hf];dsimp only;cases L with
 |nil=>
  rw[if_pos ((k9 K).mpr RG),if_neg]
  ·rfl
  ·intro q;rcases(g8.mp q).2 with q|⟨b,q,_⟩
   ·exact(K.nm N Rn).ne q.symm
   ·cases q
 |cons c L=>
  refine Ko (fun a b=>j3.mk N a c b) ?_ ?_
  ·by_cases h:N∈c::L
   ·rw[if_pos h,if_neg fun q=>(k9 K).mp q h]
   ·rw[if_neg h,if_pos ((k9 K).mpr h)]
  ·refine J (show Kn (c::L) N=kJ c N from rfl) ?_;by_cases h:(c,N)∈bu (c::L)
   ·rw[if_pos h,if_neg fun q=>(oo K).mp q h]
   ·rw[if_neg h,if_pos ((oo K).mpr h)]
theorem mY:(newD L N).length≤2:=Rq (jt _ _) (mW _ _)
theorem vm:(nC us L N).length≤3:=by
 delta nC
 have:=mY (L:=L) (N:=N);rw[Ro,Rk,Rk,(ce _).length_eq,Rk];cases L<;>simp[kz]<;>lia
theorem z4(K:nB us (N::L)):nC us L N≠[]:=fun q=>by
 obtain⟨q1,q2⟩:=WK.mp q;cases L with
 |nil=>
  have:=(ce ((newD [] N).map (pP us))).mem_iff.mpr (T6 ((k9 K).mpr RG));cases(Ux.mp q1)▸this
 |cons c L=>cases q2
noncomputable def xm(us:List RN)(l:List (RN×RN)):Prop:=∀p∈l,p.2∈us∧p.1=bB us p.2∧Rv p.2=true
theorem vn(K:nB us L){u}(h:u∈(bh L).flatten):Rv u=true∧u.length≤39:=by
 rcases(jw L u).mp h with h|⟨s,hs,rfl⟩
 ·have:=K.nm u h;exact⟨this.ok,Rq this.len dc⟩
 ·have h1:=K.nm _ (mX hs).1;have h2:=K.nm _ (mX hs).2;exact⟨zV h1 h2,uf h1 h2⟩
theorem pF(K:nB us L):xm us (jx us L):=fun p hp=>by
 obtain⟨u,hu,rfl⟩:=(pB us L p).mp hp;exact⟨K.mem u hu,rfl,(vn K hu).1⟩
theorem FO(K:nB us (N::L))(hf:r.aj=jx us L)(he:xm us r.b9)(hl:L.length≤100)(Lg:r.b9.length≤1000)(hr:r.rows.length≤1000)(hw:r.way.length≤1000)(hg:∀a∈nC us L N,FG a):Kf r (dL us N) (nC us L N):=by
 have hN:=K.nm N Rn;have e1:=D1 K hf;have e2:=rL K hf;have e3:=jy K hf;have hx:xm us (b6 ((newD L N).map (pP us))):=fun p hp=>pF K p (Sg _ hp);have Jy:(L.head?.getD "").length≤1000∧Rv (Kn L N)=true:=by
  cases L with
  |nil=>exact⟨dc,by show Rv ""=true;decide+kernel⟩
  |cons c L=>
   have hc:=K.nm c (Rm _ Rn);exact⟨Rq hc.len dc,zV hc hN⟩
 refine⟨?_,e1.1,by exact e3▸xl K, ?_, ?_, ?_, ?_, ?_, ?_, ?_,Lg, ?_, ?_, ?_, ?_,hr,hw⟩
 ·have hx:∀(l:List (RN×RN)) h B,(∀a∈l.map (fun p=>(⟨"xmlns",p.1,d9 p.2⟩:At)),FG a)→zf ((l.map fun p=>(⟨"xmlns",p.1,d9 p.2⟩:At)).foldl Hd.at h) B→zf h ((l.map fun p=>(⟨"xmlns",p.1,d9 p.2⟩:At))++B):=by
   intro l
   induction l with
   |nil=>intro h B _ q;exact q
   |cons p l ih=>
    intro h B g q;exact⟨(g _ Rn).ok, .inl rfl,ih _ B (fun a ha=>g a (Rm _ ha)) q⟩
  refine hx _ _ _ (fun a ha=>hg a (RY _ ha)) ?_;cases L with
  |nil=>trivial
  |cons c L=>
   refine⟨(hg _ (Sg _ (Rr.mpr rfl))).ok, .inr ⟨rfl, ?_⟩,trivial⟩;exact J (zZ ..) (J (hf ..) (((K.known (k8 (.inr ⟨c,rfl,rfl⟩)) fun p=>by rw[beq_iff_eq]).1)))
 ·exact J (e3 ..) (J ((ce _).length_eq) (J (Rk ..) ((mY))))
 ·refine J e2 (J e1.2 ?_);cases L with
  |nil=>rfl
  |cons c L=>
   show kJ c N=if c="" then _ else kJ c N
   rw[if_neg (K.nm c (Rm _ Rn)).ne]
 ·intro v hv;replace hv:=e3▸hv;obtain⟨p,hp,e⟩:=Rz.mp hv;obtain⟨u,hu,e'⟩:=Rz.mp ((ce _).mem_iff.mp hp);have:u=v:=by rw[←e,←e']
  subst this;refine J e1.2 (J e2 ?_);rcases(g8.mp hu).2 with q|⟨b,q1,q2⟩
  ·exact .inl q
  ·refine .inr ?_
   delta Kn;exact q1▸q2
 ·intro x h1 y h2;rw[e3] at h1 h2;have a:=hx x h1;have b:y.2∈us∧y.1=bB us y.2:=(RE.mp h2).elim (fun q=>⟨(he y q).1,(he y q).2.1⟩) fun q=>⟨(hx y q).1,(hx y q).2.1⟩;refine J a.2.1 (J b.2 ?_);by_cases h:x.2=y.2
  ·rw[h,beq_self_eq_true,beq_self_eq_true]
  ·rw[beq_eq_false_iff_ne.mpr h,beq_eq_false_iff_ne.mpr fun q=>h (kT K.len a.1 b.1 q)]
 ·intro p hp;rw[e2] at hp;have a:xm us [p]:=fun q hq=>by
   exact(Rr.mp hq)▸(RE.mp hp).elim (pF K p) (he p)
  have a:=a p (Rr.mpr rfl);exact⟨by refine J a.2.1 ?_;exact FM K.len _,a.2.2⟩
 ·exact J e1.2 (J e2 ((⟨hN.ok,Jy.2⟩)))
 ·refine J (hf ..) (J (pC ..) ?_);have:=ij L;have:=vm (us:=us) (L:=L) (N:=N);lia
 ·exact e2▸Rq (show(jx us (N::L)).length≤202 by exact J (pC ..) ((Rq (ij _) (RQ▸ap (nE (ba hl (Ri _))) dc)))) dc
 ·intro p hp;rw[e2] at hp;exact J ((pF K p hp).2.1) ((Rq (dw K.len).1 dc))
 ·exact e2▸Jy.1
 ·exact J e1.2 ((Rq hN.len dc))
theorem z6(h:∀p∈T,p.2.length≤4) c:(fT T c).length≤6:=by
 delta fT
 cases e:T.lookup c with
 |none=>exact VQ rfl
 |some v=>
  have:∃d,(d,v)∈T:=by
   clear h
   induction T with
   |nil=>cases e
   |cons p T ih=>
    rw[Sc] at e;split at e
    ·cases e;exact⟨p.1,Rn⟩
    ·obtain⟨d,hd⟩:=ih e;exact⟨d,Rm _ hd⟩
  obtain⟨d,hd⟩:=this;exact J Ro (J RQ ((TE (TE (h _ hd) 1) 1)))
theorem mZ{f:Nat→List Nat}(h:∀c,(f c).length≤6):∀l:List Nat,(l.flatMap f).length≤6*l.length
 |[]=>Ri _
 |c::l=>by refine J Ti (J Ro (J RQ ?_));have:=mZ h l;have:=h c;lia
theorem uj x:(d9 x).length≤6*x.length:=by
 exact aQ (aq ..) (J (k7 ..) (aQ (aq x) ((mZ (z6 dc) _))))
theorem uk x:(dX x).length≤6*x.length:=by
 exact aQ (aq ..) (J (jv ..) (aQ (aq x) ((mZ (z6 dc) _))))
theorem vo x{d}(h:d=34∨d=60):d∉sl (d9 x):=by
 refine J (k7 ..) ?_;rcases h with rfl|rfl
 ·exact ie dc dc _
 ·exact ie dc dc _
theorem vp x{d}(h:d=60∨d=62):d∉sl (dX x):=by
 refine J (jv ..) ?_;rcases h with rfl|rfl
 ·exact ie dc dc _
 ·exact ie dc dc _
theorem z9(hp:∀d,d=34∨d=58∨d=60→d∉sl p)(hl:∀d,d=34∨d=58∨d=60→d∉sl l)(lp:p.length≤5)(ll:l.length≤5)(lu:u.length≤39):FG ⟨p,l,d9 u⟩∧60∉atS ⟨p,l,d9 u⟩∧(atS ⟨p,l,d9 u⟩).length≤260:=by
 have hs:=uj u;refine⟨⟨⟨hp _ (.inl rfl),hp _ (.inr (.inl rfl))⟩,⟨hl _ (.inl rfl),hl _ (.inr (.inl rfl))⟩,vo u (.inl rfl),by exact eI lp,by exact eI ll,by exact ap hs (ap (nE lu) dc)⟩, ?_, ?_⟩
 ·delta atS
  rw[gj];simp only[RE,Rt,not_or];exact⟨⟨⟨dc,hp _ (.inr (.inr rfl)),dc,hl _ (.inr (.inr rfl))⟩,dc⟩,dc,vo u (.inr rfl),dc⟩
 ·delta atS
  rw[gj];simp only[Ro,RQ,V8,aq];lia
theorem Aa(K:nB us (N::L)):∀a∈nC us L N,FG a∧60∉atS a∧(atS a).length≤260:=by
 intro a ha;have pn:∀u,∀d,d=34∨d=58∨d=60→d∉sl (bB us u):=fun u d hd=>zW K.len u (by lia);have pl:∀u,(bB us u).length≤5:=fun u=>Rq (dw K.len).1 dc;rcases RE.mp ha with ha|ha
 ·obtain⟨p,hp,rfl⟩:=Rz.mp ha;obtain⟨u,hu,rfl⟩:=Rz.mp ((ce _).mem_iff.mp hp);refine z9 (fun d hd=> ?_) (pn u) dc (pl u) (vn K (by refine J (cF ..) ?_;exact Sg _ hu)).2;rcases hd with rfl|rfl|rfl<;>decide+kernel
 ·cases L with
  |nil=>cases ha
  |cons c L=>
   refine J (Rr.mp ha) (z9 (pn _) (fun d hd=> ?_) (pl _) dc (Rq (K.nm c (Rm _ Rn)).len dc));rcases hd with rfl|rfl|rfl<;>decide+kernel
theorem vq p:sl (fK p)=32::(sl p.1++61::34::(sl (d9 p.2)++[34])):=by
 delta fK
 simp only[aO];show [32]++sl p.1++[61,34]++sl (d9 p.2)++[34]=_;simp
theorem vr:((uh us L N).map fK).map sl=(nC us L N).map atS:=by
 unfold uh nC;rw[FN,RH,RH,RH,RO,RO,RO,RO,RO,RO];refine Ko (·++·) ?_ ?_
 ·refine R9 fun p _=> ?_;show sl (fK _)=atS _;refine J (vq ..) ?_
  delta atS
  refine J (gj ..) (J (aO ..) ?_);show 32::([120,109,108,110,115,58]++sl p.1++_)=32::([120,109,108,110,115]++58::sl p.1)++_++_;simp
 ·refine R9 fun a ha=> ?_;have h:a.1.tag="by":=by
   cases L with
   |nil=>cases ha
   |cons c L=>rw[Rr.mp ha]
  simp only[Function.comp];refine J (vq ..) (J (h ..) ?_)
  delta atS
  rw[gj];refine J (aO ..) (J (aO ..) (J (show sl ":"=[58] from rfl) ?_));simp only[RP,TD,TM]
theorem Cv(K:nB us (N::L)):((cX us (qR N) (uh us L N)).map sl).flatten=60::(sl (dL us N)++((nC us L N).flatMap atS++[62])):=by
 have hA:uh us L N≠[]:=fun q=>by
  have h:=vr (us:=us) (L:=L) (N:=N);rw[q] at h;exact z4 K (Ux.mp h.symm)
 delta cX
 rw[if_neg hA,RH,RH,Tf,Tf];simp only[RD,Su,VA,Yn,RF];rw[dC,vr,List.flatMap_def]
 delta dL
 rw[aO,aO,aO,aO,show sl "<"=[60] from rfl,show sl ">"=[62] from rfl,show sl ":"=[58] from rfl,show sl ":c"=[58,99] from rfl,show sl (qR N).tag=[99] from rfl,show(qR N).uri=N from rfl];simp only[RP,TD,TM]
theorem Ab:sl (fJ (bB us N) "c")=60::47::(sl (dL us N)++[62]):=by
 unfold fJ dL;simp only[aO];show [60,47]++(sl (bB us N)++[58]++[99])++[62]=60::47::(sl (bB us N)++[58,99]++[62]);simp
end
noncomputable abbrev Jz:Rd:=⟨[],[],[],[]⟩
noncomputable def Pc.put:Pc→RN→Pc
 | .op t as _,r=> .op t as r
 | .cl t _,r=> .cl t r
theorem Ac(r:Rd) c s:r.turn (c.put s)=r.turn c:=by cases c<;>rfl
theorem m3(c:Pc) s:(c.put s).rest=s:=by cases c<;>rfl
noncomputable def jz:Rd→List (RN×Pc)→Rd→Prop
 |r,[],r'=>r=r'
 |r,q::ps,r'=>(zl r q.1 q.2∧(q.2.rest≠""→(r.turn q.2).way≠[])∧(∀x∈(r.turn q.2).way,x.1<(r.turn q.2).rows.length)∧q.2.rest.length≤10000)∧jz (r.step q.2) ps r'
theorem jz.snoc{q:RN×Pc}:∀{ps}{r r'},jz r ps r'→(zl r' q.1 q.2∧(q.2.rest≠""→(r'.turn q.2).way≠[])∧(∀x∈(r'.turn q.2).way,x.1<(r'.turn q.2).rows.length)∧q.2.rest.length≤10000)→jz r (ps++[q]) (r'.step q.2):=by
 intro ps
 induction ps with
 |nil=>intro r r' h g;cases(h);exact⟨g,rfl⟩
 |cons p ps ih=>intro r r' h g;exact⟨h.1,ih h.2 g⟩
theorem jz.done:∀{ps}{r r'},jz r ps r'→r'.way=[]→mA r ps∧(ps.map (·.2)).foldl Rd.step r=r':=by
 intro ps
 induction ps with
 |nil=>intro r r' h g;cases(h);exact⟨g,rfl⟩
 |cons p ps ih=>intro r r' h g;exact⟨⟨h.1.1,h.1.2.1,h.1.2.2.1,h.1.2.2.2,(ih h.2 g).1⟩,(ih h.2 g).2⟩
structure M1 R0 pre(c:Pc):Prop where
 fits:∀p rest,sl p=pre++sl rest→62∉sl rest→rest.length≤9000→zl R0 p (c.put rest)
 len:pre.length≤1000
 QG:60∉pre
noncomputable def M2(t:Tg)(R:Rd):Prop:=(t.told=[]∧R=Jz∧t.data=[])∨∃ps R0 pre c,t.rs=true∧jz Jz ps R0∧M1 R0 pre c∧R=R0.turn c∧
 sl (SF "" t.told)=(ps.flatMap fun q=>60::sl q.1)++60::pre∧(∀q∈ps,60∉sl q.1∧q.1.length≤2000)∧ps.length+1≤t.told.length
theorem fO(h:x.length=0):dX x="":=dA (by refine J (jv ..) (J (RX.mp ((aq x).trans h)) ?_);rfl)
theorem Cw(h:x.length≠0):dX x≠"":=fun q=>h (by
 have:=rF x;rw[q] at this;refine aQ this ?_;decide+kernel)
theorem join_snoc(l l':List RN):sl (SF "" (l++l'))=sl (SF "" l)++sl (SF "" l'):=by
 rw[dC,dC,dC,RH,Tf]
theorem Tg.D2{t:Tg}(hr:t.rs=true∨t.data=[]):sl (SF "" t.fl.told)=sl (SF "" t.told)++sl (dX (SF "" t.data)):=by
 delta Tg.fl
 by_cases h:t.data=[]
 ·exact J (if_pos h) (J h (J (fO rfl) (((RF _).symm))))
 ·refine J (if_neg h) ?_
  delta Tg.flush
  dsimp only;refine bn (fun _=> ?_) fun _=> ?_
  ·refine J (join_snoc ..) (J (dC [dX _]) ?_);rfl
  ·rename_i h2;have:(SF "" t.data).length=0:=by
    by_cases q:(SF "" t.data).length=0
    ·exact q
    ·exact absurd ⟨q,(hr.resolve_right h)⟩ h2
   exact J (fO this) (((RF _).symm))
theorem Tg.D3(t:Tg):t.told.length≤t.fl.told.length:=by
 unfold Tg.fl Tg.flush;refine bn (fun _=> ?_) fun _=> ?_
 ·exact Ri _
 ·refine bn (fun _=> ?_) fun _=> ?_
  ·exact J Ro ((Sr _ _))
  ·exact Ri _
theorem M2.flush(T:M2 t R)(hd:∀d∈t.data,d.length=1)(hl:t.data.length≤100)(hw:t.data≠[]→R.way≠[])(hi:∀x∈R.way,x.1<R.rows.length):
  ∃ps,jz Jz ps (R.tick (dX (SF "" t.data)))∧sl (SF "" t.fl.told)=ps.flatMap (fun q=>60::sl q.1)∧(∀q∈ps,60∉sl q.1∧q.1.length≤2000)∧ps.length≤t.told.length:=by
 refine Rg fun kG=> ?_;rcases T with⟨h1,h2,h3⟩|⟨ps,R0,pre,c,hr,hg,hc,hR,ht,hq,hn⟩<;>refine kG ?_
 ·refine⟨[], ?_, ?_,fun _ h=>absurd h RG,RW _⟩
  ·refine J h3 (J (fO rfl) (J h2 ?_));rfl
  ·refine J (Tg.D2 (.inr h3)) (J h1 (J h3 (J (fO rfl) ?_)));rfl
 ·have hx:=uk (SF "" t.data);replace hx:=(j2 hd)▸hx;let rest:=dX (SF "" t.data);let p:RN:=ls (pre++sl rest);have hp:sl p=pre++sl rest:=Jo _;have QH:60∉sl p∧p.length≤2000:=by
   refine⟨fun q=> ?_, ?_⟩
   ·exact(RE.mp q).elim hc.QG (vp _ (.inl rfl))
   ·refine aQ (aq ..) (J (hp ..) (J (Ro ..) (J (aq ..) ?_)));have:=hc.len;lia
  have e:(R0.turn (c.put rest))=R:=by rw[Ac,hR]
  have:=hg.snoc (q:=(p,c.put rest)) ⟨hc.fits p rest hp (vp _ (.inr rfl)) (ap hx (ap (nE hl) dc)),by
   intro h;refine J e (hw fun q=>h ?_);refine J (m3 ..) ?_;exact fO (q▸rfl),by
   exact e▸hi,by
   exact J (m3 ..) (ap hx (ap (nE hl) dc))⟩
  have es:R0.step (c.put rest)=R.tick rest:=by
   show(R0.turn (c.put rest)).tick (c.put rest).rest=_;rw[e,m3]
  refine⟨ps++[(p,c.put rest)],es▸this, ?_,fun q Kk=> ?_, ?_⟩
  ·refine J (Tg.D2 (.inl hr)) (J (ht ..) (J (List.flatMap_append ..) (J (List.flatMap_singleton ..) ?_)));refine J (hp ..) (J (RP ..) ?_);rfl
  ·rcases RE.mp Kk with h|h
   ·exact hq q h
   ·exact(Rr.mp h)▸QH
  ·exact J Ro ((hn))
noncomputable def iy(g:j3→Nat)(l:List Rw):Nat:=(l.map fun x=>g x.cq*x.own).sum
noncomputable def fP(g:j3→Nat)(l:List Rw):Nat:=(l.map fun x=>g x.cq*x.whole).sum
theorem lb{α:Type}(F:Rw→α){f}(h:∀x,F (f x)=F x) l i:(upd l i f).map F=l.map F:=by
 delta upd
 cases e:l[i]? with
 |none=>rfl
 |some x=>
  refine J (List.map_set ..) (J (h ..) ?_);apply X0;intro j;refine J XZ (bn (fun _=> ?_) fun _=> ?_)
  ·rename_i q;subst q;refine bn (fun _=> ?_) fun _=> ?_
   ·refine J Sx (J e ?_);rfl
   ·rename_i q2;rw[Rk] at q2;have:=(Ru.mp e).1;lia
  ·rfl
theorem vt F{f}{d:Nat}:∀{l}{i}{x},l[i]?=some x→F (f x)=F x+d→((upd l i f).map F).sum=(l.map F).sum+d:=by
 intro l
 induction l with
 |nil=>intro i x h;cases h
 |cons y l ih=>
  intro i x h hd;cases i with
  |zero=>
   cases h;exact si (AS (ba (bD hd) (Ri _))) (io (ba (lq hd) (Ri _)))
  |succ i=>
   have e:upd (y::l) (i+1) f=y::upd l i f:=by
    delta upd
    refine J (show(y::l)[i+1]?=l[i]? from rfl) (J h ?_);rfl
   refine J e ?_;show F y+((upd l i f).map F).sum=F y+(l.map F).sum+d;exact(ih h hd)▸JL
noncomputable def xn(g:j3→Nat):List RN→Nat
 |[]=>0
 |N::L=>g (ax (N::L))
noncomputable def ey(g:j3→Nat):List RN→Nat
 |[]=>0
 |N::L=>g (ax (N::L))+ey g L
noncomputable def ff(us:List RN)(S:List j3):List RN→List (Nat×RN×Nat)→Prop
 |[],W=>W=[]
 |N::L,W=>∃W' i,W=W'++[(i,dL us N,(jx us L).length)]∧S[i]?=some (ax (N::L))∧ff us S L W'
theorem ff.idx:∀{L}{W},ff us S L W→∀x∈W,x.1<S.length:=by
 intro L
 induction L with
 |nil=>intro W h x hx;cases(h)▸hx
 |cons N L ih=>
  intro W h x hx;obtain⟨W',i,rfl,hi,hw⟩:=h;rcases RE.mp hx with hx|hx
  ·exact ih hw x hx
  ·exact J (Rr.mp hx) (((Ru.mp hi).1))
theorem ff.more{S S'}:∀{L}{W},(∀u∈(bh L).flatten,u∈us)→ff us S L W→ff (us++e) (S++S') L W:=by
 intro L
 induction L with
 |nil=>intro W _ h;exact h
 |cons N L ih=>
  intro W hm h;obtain⟨W',i,rfl,hi,hw⟩:=h;have h2:=fun u hu=>hm u (J (cF ..) ((RY _ hu)));refine⟨W',i, ?_, ?_,ih h2 hw⟩
  ·refine J (pD h2) ?_;delta dL;rw[kY (hm N (k8 (.inl rfl)))]
  ·exact(R8 (Ru.mp hi).1).trans (hi)
theorem ff.len:∀{L}{W},ff us S L W→W.length=L.length:=by
 intro L
 induction L with
 |nil=>intro W h;exact J (h) rfl
 |cons N L ih=>intro W h;obtain⟨W',i,rfl,_,hw⟩:=h;refine J Ro (J (ih hw) ?_);rfl
theorem ff.path g:∀{L}{W},ff us S L W→(W.map fun x=>(S[x.1]?.map g).getD 0).sum=ey g L:=by
 intro L
 induction L with
 |nil=>intro W h;exact J (h) rfl
 |cons N L ih=>
  intro W h;obtain⟨W',i,rfl,hi,hw⟩:=h;rw[RH,UM,ih hw,SP,Uf];exact J hi ((Tr _ _))
theorem xo g k:∀W(r:Rd),(∀x∈W,x.1<r.rows.length)→
  (r.whole k W).rows.map Rw.cq=r.rows.map Rw.cq∧iy g (r.whole k W).rows=iy g r.rows∧fP g (r.whole k W).rows=fP g r.rows+k*(W.map fun x=>((r.rows.map Rw.cq)[x.1]?.map g).getD 0).sum:=by
 intro W
 induction W with
 |nil=>intro r _;exact⟨rfl,rfl,(Yd k).symm▸rfl⟩
 |cons x W ih=>
  intro r h;let r1:Rd:={r with rows:=upd r.rows x.1 fun y=>{y with whole:=y.whole+k}};obtain⟨a,b,c⟩:=ih r1 (fun y hy=>by exact(show r1.rows.length=r.rows.length from ia ..)▸h y (Rm _ hy));have e1:r1.rows.map Rw.cq=r.rows.map Rw.cq:=lb Rw.cq (f:=fun y=>{y with whole:=y.whole+k}) (fun _=>rfl) _ _;have hx:=h x Rn;have hg:=RK hx;refine⟨a.trans e1,b.trans (congrArg abm (lb (fun x:Rw=>g x.cq*x.own) (f:=fun y=>{y with whole:=y.whole+k}) (fun _=>rfl) r.rows x.1)), ?_⟩;show fP g (r1.whole k W).rows=_;rw[c,e1,(show fP g r1.rows=fP g r.rows+g r.rows[x.1].cq*k from vt (fun x:Rw=>g x.cq*x.whole) hg (Z6 _ _ _)),RD,Ub,Sx,hg,Z6];show _+g r.rows[x.1].cq*k+_=_+(k*g r.rows[x.1].cq+_);rw[Ye k (g _),Vn]
theorem Ad{r:Rd}(W:ff us (r.rows.map Rw.cq) L r.way) x g:
  (r.tick (dX x)).rows.map Rw.cq=r.rows.map Rw.cq∧iy g (r.tick (dX x)).rows=iy g r.rows+x.length*xn g L∧fP g (r.tick (dX x)).rows=fP g r.rows+x.length*ey g L:=by
 by_cases h0:x.length=0
 ·exact J (fO h0) (J (h0 ..) (J (Yb ..) (J (Yb ..) ((⟨rfl,rfl,rfl⟩)))))
 ·have e:r.tick (dX x)=r.spend x.length:=by
   delta Rd.tick;rw[if_neg (Cw h0),rF]
  refine J e ?_;have M3:=fun y hy=>by have:=W.idx y hy;exact(Rk ..)▸this
  cases L with
  |nil=>
   delta Rd.spend
   exact W▸⟨rfl,(Yd x.length).symm▸rfl,(Yd x.length).symm▸rfl⟩
  |cons N L=>
   refine Rg fun kG=> ?_;obtain⟨W',i,hw,hi,hW⟩:=W;refine kG ?_;let r1:Rd:={r with rows:=upd r.rows i fun y=>{y with own:=y.own+x.length}};have e1:r.spend x.length=r1.whole x.length r.way:=by
    delta Rd.spend
    rw[show r.way.getLast?=some (i,dL us N,(jx us L).length) by rw[hw];simp]
   have Fp:i<r.rows.length:=by have:=(Ru.mp hi).1;exact(Rk ..)▸this
   have hg:=RK Fp;have fQ:r.rows[i].cq=ax (N::L):=by
    rw[Sx,hg] at hi;exact U0 hi
   have s1:r1.rows.map Rw.cq=r.rows.map Rw.cq:=lb Rw.cq (f:=fun y=>{y with own:=y.own+x.length}) (fun _=>rfl) _ _;obtain⟨a,b,c⟩:=xo g x.length r.way r1 (fun y hy=>by exact J (ia ..) ((M3 y hy)));refine J e1 (⟨a.trans s1, ?_, ?_⟩)
   ·refine J (b ..) (J ((show iy g r1.rows=iy g r.rows+g r.rows[i].cq*x.length from vt (fun x:Rw=>g x.cq*x.own) hg (Z6 _ _ _)) ..) (J (fQ ..) (J (Ye ..) ?_)));rfl
   ·rw[c,(show fP g r1.rows=fP g r.rows from congrArg abm (lb (fun x:Rw=>g x.cq*x.whole) (f:=fun y=>{y with own:=y.own+x.length}) (fun _=>rfl) r.rows i)),s1,ff.path g (L:=N::L) ⟨W',i,hw,hi,hW⟩]
noncomputable abbrev fg(fs:List LF)(l:List (List RN)):List (List RN):=l.filter fun w=> !w.contains (aU fs 3)
structure rN fs(r:RS) L(cs tk:List (List RN)) R:Prop where
 told:M2 r.t R
 aj:R.aj=jx r.t.us L
 b9:xm r.t.us R.b9
 JA:R.b9.length≤2*cs.length
 way:ff r.t.us (R.rows.map Rw.cq) L R.way
 cq:R.rows.map Rw.cq=cs.map ax
 own:∀g,iy g R.rows+r.t.data.length*xn g L=(tk.map (xn g)).sum
 M4:∀g,fP g R.rows+r.t.data.length*ey g L=(tk.map (ey g)).sum
 dl:r.t.data≠[]→L≠[]
 calls:fg fs r.calls=cs.map R3
 ticks:fg fs r.ticks=tk.map R3
 FQ:∀w∈cs++tk,w≠[]∧∀N∈w,eG N
theorem jV(h:ff us S L W)(hl:L≠[]):W≠[]:=fun q=>hl (RX.mp (by refine aQ h.len (J q ?_);rfl))
structure M5(r:RS) L(cs tk:List (List RN))(R:Rd) ps R1:Prop where
 f0:jz Jz ps R1
 f1:sl (SF "" r.t.fl.told)=ps.flatMap (fun q=>60::sl q.1)
 f2:(∀q∈ps,60∉sl q.1∧q.1.length≤2000)
 f3:ps.length≤r.t.told.length
 f4:R1.aj=jx r.t.us L
 f5:R1.b9=R.b9
 f6:R1.way=R.way
 f7:R1.rows.map Rw.cq=cs.map ax
 f8:(∀g,iy g R1.rows=(tk.map (xn g)).sum)
 f9:(∀g,fP g R1.rows=(tk.map (ey g)).sum)
section
variable{fs:List LF}{c e:Nat}{r:RS}{L Ex:List RN}{cs tk:List (List RN)}{R:Rd}
theorem rN.Oy(S:rN fs r L cs tk R):cs.length≤r.calls.length:=by
 have:=congrArg Tm S.calls;rw[Rk] at this;exact this▸SR _ _
theorem rN.flush(S:rN fs r L cs tk R)(I:Inv fs c e r L Ex)(hc:c≤100):∃ps R1,M5 r L cs tk R ps R1:=by
 refine Rg fun kG=> ?_;obtain⟨ps,h1,h2,h3,h4⟩:=S.told.flush I.d1 (Rq I.dat hc) (fun h=>jV S.way (S.dl h)) (fun x hx=>by have:=S.way.idx x hx;rw[Rk] at this;exact this);obtain⟨k1,k2,k3,_⟩:=mB R (dX (SF "" r.t.data));refine kG ?_;have ts:=fun g=>Ad S.way (SF "" r.t.data) g;replace ts:=(j2 I.d1)▸ts;exact⟨ps,_,h1,h2,h3,h4,k1.trans S.aj,k2,k3,(ts fun _=>0).1.trans S.cq,fun g=>by refine J ((ts g).2.1) ?_;exact S.own g,fun g=>by refine J ((ts g).2.2) ?_;exact S.M4 g⟩
theorem Ae(h:us.length≤100) N:(∃c u,sl (dL us N)=c::u∧c≠47)∧32∉sl (dL us N)∧62∉sl (dL us N)∧60∉sl (dL us N)∧(dL us N).length≤6:=by
 have e:sl (dL us N)=sl (bB us N)++[58,99]:=aO _ _;obtain⟨d,hd,_⟩:=pA h N;have hm:∀x,(x=32∨x=60∨x=62)→x∉sl (dL us N):=fun x hx q=>by
  rw[e] at q;rcases RE.mp q with q|q
  ·exact zW h N (by lia) q
  ·simp at q;lia
 refine⟨⟨110,d++[58,99],by refine J e (J hd ?_);rfl,dc⟩,hm _ (.inl rfl),hm _ (.inr (.inr rfl)),hm _ (.inr (.inl rfl)), ?_⟩;exact aQ (aq ..) (J (e ..) (J (Ro ..) (J (aq ..) ((TE (dw h).1 2)))))
theorem m4{f:At→List Nat}:∀{l:List At},(∀a∈l,(f a).length≤B)→(l.flatMap f).length≤l.length*B
 |[],_=>RW _
 |a::l,h=>by
  rw[Ti,Ro,RQ,WT,Tr];exact VJ (m4 fun b hb=>h b (Rm _ hb)) (h a Rn)
theorem FR(K:nB us (N::L))(hr:Kf R1 (dL us N) (nC us L N)):M1 R1 (sl (dL us N)++((nC us L N).flatMap atS++[62])) (.op (dL us N) (nC us L N) ""):=by
 refine Rg fun kG=> ?_;obtain⟨t1,t2,t3,t4,t5⟩:=Ae K.len N;refine kG ?_;have ha:=Aa K;have hl:=vm (us:=us) (L:=L) (N:=N);refine⟨fun p rest hp hn hz=>⟨FH ?_ t1 t2 (z4 K) (fun a h=>(ha a h).1) (Rq hl dc) hn (Rq t5 dc) hz,hr⟩, ?_, ?_⟩
 ·refine J (hp ..) (J (RP ..) (J (RP ..) ?_));rfl
 ·have:=m4 fun a h=>(ha a h).2.2;rw[Ro,Ro,aq,SI];lia
 ·intro q;rcases RE.mp q with q|q
  ·exact t4 q
  rcases RE.mp q with q|q
  ·obtain⟨a,h1,h2⟩:=WD.mp q;exact(ha a h1).2.1 h2
  ·exact nomatch q
theorem FS{W}{i k}(h:us.length≤100)(hw:R1.way=W++[(i,dL us N,k)]):M1 R1 (47::(sl (dL us N)++[62])) (.cl (dL us N) ""):=by
 obtain⟨t1,t2,t3,t4,t5⟩:=Ae h N;refine⟨fun p rest hp hn hz=> ?_, ?_, ?_⟩
 ·have:=FI (by refine J hp ?_;simp) t3 hn;exact⟨⟨W,i,k,hw⟩,this.1,this.2,Rq t5 dc,Rq hz dc⟩
 ·exact J (RQ ..) (J (Ro ..) (J (aq ..) (J (SI ..) ((ap (ba (ba t5 (Ri _)) (Ri _)) dc)))))
 ·intro q;rcases Rt.mp q with q|q
  ·cases q
  rcases RE.mp q with q|q
  ·exact t4 q
  ·exact nomatch q
theorem Inv.Oz(I:Inv fs c e r L Ex):nB r.t.us L:=⟨I.tok.len,fun u hu=>I.tok.mem u (I.lvl▸hu),I.nm⟩
theorem Af g l x(h:x.own=0):iy g (l++[x])=iy g l:=by
 delta iy;rw[RH,UM,SP,Uf,h];rfl
theorem Ag g l x(h:x.whole=0):fP g (l++[x])=fP g l:=by
 delta fP;rw[RH,UM,SP,Uf,h];rfl
theorem pG{l:List RN}(h:z∉l):(!l.contains z)=true:=by
 rw[show l.contains z=false from by rw[←aaJ,Tu];exact h];rfl
theorem rO{l:List RN}(h:z∈l):(!l.contains z)=false:=by
 exact congrArg _ (Tu.mpr h)
theorem vy{w}(h:aU fs 3∉w):fg fs (l++[w])=fg fs l++[w]:=by
 show List.filter _ _=_;refine J (Vq ..) (J (Uy (p:=fun w:List RN=> !w.contains (aU fs 3)) (pG h)) ?_);rfl
theorem rP{w}(h:aU fs 3∈w):fg fs (l++[w])=fg fs l:=by
 show List.filter _ _=_;exact J (Vq ..) (J (Uz ((rO h)▸R4)) ((RF _)))
theorem Inv.Ah(I:Inv fs c e r L Ex)(h:Ex≠[]):aU fs 3∈L.reverse++Ex:=by
 rcases I.eo with q|⟨E,q⟩
 ·exact absurd q h
 ·refine J q ?_;simp
theorem rN.op(S:rN fs r L cs tk R)(I:Inv fs c e r L [])(F:gB fs){k}(hk:k<4)(hn:aU fs k≠aU fs 3)(hc:c≤40):∃R',rN fs (r.start fs k) (aU fs k::L) (cs++[aU fs k::L]) tk R':=by
 refine Rg fun kG=> ?_;obtain⟨ps,R1,h1,h2,h3,h4,h5,h6,h7,h8,h9,pL⟩:=S.flush I (eI hc);have O:=I.op F hk hn hc;have I':=I.vk F hk hn hc;have K':=I'.Oz;obtain⟨x,hx,_⟩:=O.us;refine kG ?_;generalize hN:aU fs k=N at*;generalize hr:r.start fs k=r' at*;have y8:=I.Oz.mem;have hf:R1.aj=jx r'.t.us L:=by rw[h5,hx,pD y8]
 have AP:R1.rows.length=cs.length:=by have:=congrArg Tm h8;rw[Rk,Rk] at this;exact this
 have xC:=S.Oy;have gn:=I.cl;have BC:L.length≤100:=by have:=I.len;have:=I.wl;lia
 have OC:xm r'.t.us R1.b9:=fun p hp=>by
  rw[h6] at hp;obtain⟨a,b,d⟩:=S.b9 p hp;exact⟨by refine J hx ?_;exact RY _ a,by refine J hx (J (kY a) ?_);exact b,d⟩
 refine⟨R1.open (dL r'.t.us N) (nC r'.t.us L N), ?_⟩;have fQ:(R1.rows++[R1.row (dL r'.t.us N) (nC r'.t.us L N)]).map Rw.cq=cs.map ax++[ax (N::L)]:=by rw[RH,h8,SP,(Cu K' hf)]
 have FT:r'.calls=r.calls++[(N::L).reverse]:=by
  refine aQ hr ?_;show r.calls++[aH fs (r.way++[k])]=_;have:=I'.path;rw[←hr] at this;rw[gZ F (g7 I.wk hk),show(r.way++[k]).map (aU fs)=_ from this,RF]
 refine⟨.inr ⟨ps,R1,_,_,O.rs,h1,FR K' (FO K' hf OC BC (by refine J h6 ?_;have:=S.JA;lia) (ap (bD AP) (ap xC (ap gn (ap hc dc)))) (by refine J h7 (J S.way.len ?_);exact eI BC) fun a h=>(Aa K' a h).1),rfl, ?_,h3, ?_⟩, ?_, ?_, ?_, ?_, ?_, ?_, ?_, ?_, ?_, ?_, ?_⟩
 ·rw[O.told,join_snoc,h2,dC,Cv K']
 ·refine J O.told (J Ro ?_);have:=r.t.D3;have:1≤(cX r'.t.us (qR N) (uh r'.t.us L N)).length:=by delta cX;refine bn (fun _=> ?_) (fun _=> ?_)<;>simp
  lia
 ·show(R1.hd _).aj=_;rw[rL K' hf]
 ·intro p hp;rcases RE.mp hp with hp|hp
  ·exact OC p hp
  ·rw[jy K' hf] at hp;exact pF K' p (Sg _ hp)
 ·show(R1.b9++R1.fresh _).length≤_;rw[Ro,h6,jy K' hf,(ce _).length_eq,Rk,Ro];have:=S.JA;have:=mY (L:=L) (N:=N);refine J SI ?_;lia
 ·refine⟨R1.way,R1.rows.length,by refine aQ hf ?_;rfl, ?_, ?_⟩
  ·show((R1.rows++[_]).map Rw.cq)[_]?=_;rw[fQ,RL (by rw[Rk,AP];exact Ri _),Rk,AP,So];rfl
  ·refine J fQ (J hx (J h7 ?_));have:=S.way;rw[S.cq] at this;exact this.more y8
 ·refine J fQ (J RH ?_);rfl
 ·intro g;refine J (Af g _ _ rfl) (J (O.data ..) (J (h9 ..) ?_));simp
 ·intro g;refine J (Ag g _ _ rfl) (J (O.data ..) (J (pL ..) ?_));simp
 ·exact fun _=>by simp
 ·refine J FT ?_;refine(vy (by rw[U4];exact I'.lo)).trans ?_;refine J S.calls (J RH ?_);rfl
 ·exact J (show r'.ticks=r.ticks by exact aQ hr rfl) ((S.ticks))
 ·intro w hw;rw[RP] at hw;rcases RE.mp hw with hw|hw
  ·exact S.FQ w (RY _ hw)
  ·rcases RE.mp hw with hw|hw
   ·exact J (Rr.mp hw) ((⟨by simp,I'.nm⟩))
   ·exact S.FQ w (Sg _ hw)
theorem rN.cl(S:rN fs r L cs tk R)(I:Inv fs c e r L [])(aV:r.way≠[])(hc:c≤40):∃L' R',Inv fs c (e+1) (r.fin fs) L' []∧rN fs (r.fin fs) L' cs tk R':=by
 refine Rg fun kG=> ?_;obtain⟨ps,R1,h1,h2,h3,h4,h5,h6,h7,h8,h9,pL⟩:=S.flush I (eI hc);obtain⟨N,L',hL,C,I'⟩:=I.Jx aV;refine kG ?_;subst hL;refine Rg fun kG=> ?_;obtain⟨W,i,hw,hi,QI⟩:=S.way;refine kG ?_;have OD:=h7.trans hw;have e1:R1.close={R1 with way:=W,aj:=jx r.t.us L'}:=by
  delta Rd.close
  refine J OD (J h5 (J V3 (J Um ?_)));show Rd.mk _ _ ((jx r.t.us L'++_).take (jx r.t.us L').length) _=_;rw[Wi]
 refine⟨L',R1.close,I', ?_⟩;have DJ:r.t.rs=true:=by
  rcases S.told with⟨_,q,_⟩|⟨_,_,_,_,q,_⟩
  ·rw[q] at hw;exact absurd hw (by simp)
  ·exact q
 refine⟨.inr ⟨ps,R1,_,_,C.rs.trans DJ,h1,FS I.tok.len OD,rfl, ?_,h3, ?_⟩, ?_, ?_, ?_, ?_, ?_, ?_, ?_, ?_,S.calls,S.ticks,S.FQ⟩
 ·rw[C.told,join_snoc,h2,dC];simp only[RD,Su,VA,Yn,RF];rw[Ab]
 ·refine J C.told (J Ro ?_);exact J SI ((ba (ap h4 r.t.D3) (Ri _)))
 ·rw[e1,C.us]
 ·refine J e1 (J C.us ?_);exact J h6 ((S.b9))
 ·exact J e1 (J h6 ((S.JA)))
 ·refine J e1 (J C.us ?_);exact J h8 (aQ S.cq ((QI)))
 ·exact J e1 ((h8))
 ·intro g;refine J e1 (J C.data ?_);refine J (h9 ..) ?_;simp
 ·intro g;refine J e1 (J C.data ?_);refine J (pL ..) ?_;simp
 ·exact C.data▸fun h=>absurd rfl h
theorem rN.FU(S:rN fs r L cs tk R)(I:Inv fs c e r L [])(F:gB fs)(aV:r.way≠[]) x:rN fs (r.tick fs x) L cs (tk++[L]) R:=by
 have hL:L≠[]:=fun q=>aV (RX.mp (by refine aQ I.len (J q ?_);rfl));have et:(r.tick fs x).t={r.t with data:=r.t.data++[BP ((x.fdiv 5).fmod 10).toNat]}:=if_pos I.ig;have JB:(r.tick fs x).t.data.length=r.t.data.length+1:=J et ((Ro));have lV:(r.tick fs x).ticks=r.ticks++[L.reverse]:=by
  show r.ticks++[aH fs r.way]=_;rw[gZ F I.wk,I.path,RF]
 refine⟨?_,by refine J et ?_;exact S.aj,by refine J et ?_;exact S.b9,S.JA,by exact et▸S.way,S.cq,fun g=> ?_,fun g=> ?_,fun _=>hL,S.calls, ?_, ?_⟩
 ·rcases S.told with⟨_,q,_⟩|h
  ·exact absurd (congrArg _ q) (jV S.way hL)
  ·exact J et ((.inr h))
 ·rw[JB,RH,UM,←S.own g,SP,Uf,WT,Vn]
 ·rw[JB,RH,UM,←S.M4 g,SP,Uf,WT,Vn]
 ·refine J lV ?_;refine(vy (by rw[U4];exact I.lo)).trans ?_;refine J S.ticks (J RH ?_);rfl
 ·intro w hw;rw[←RP] at hw;rcases RE.mp hw with hw|hw
  ·exact S.FQ w hw
  ·exact(Rr.mp hw)▸⟨hL,I.nm⟩
theorem rN.same(S:rN fs r L cs tk R){r'}{i}(ht:r'.t={r.t with ig:=i})(hc:fg fs r'.calls=fg fs r.calls)(hk:fg fs r'.ticks=fg fs r.ticks):rN fs r' L cs tk R:=by
 refine⟨by refine J ht ?_;exact S.told,by refine J ht ?_;exact S.aj,by refine J ht ?_;exact S.b9,S.JA,by refine J ht ?_;exact S.way,S.cq,fun g=>by refine J ht ?_;exact S.own g,fun g=>by refine J ht ?_;exact S.M4 g,by exact ht▸S.dl,hc.trans S.calls,hk.trans S.ticks,S.FQ⟩
end
structure um fs(c e:Nat) r(L Ex:List RN)(cs tk:List (List RN)) R:Prop where
 inv:Inv fs c e r L Ex
 sim:rN fs r L cs tk R
 Cy:∀x∈r.calls++r.ticks,o8 x
noncomputable abbrev GoodR(fs:List LF)(c e:Nat)(r:RS):Prop:=∃L Ex cs tk R,um fs c e r L Ex cs tk R
theorem Inv.mono(I:Inv fs c (e+1) r L Ex):Inv fs (c+1) e r L Ex:=
 ⟨I.wk,I.path,I.lo,I.eo,I.ig,I.Co,I.lvl,I.tok,I.k,Rq I.us (nE (gl (Ri _))),Sq I.dat,I.d1,Rq I.told (Nh (Nh (lq Kw))),Sq I.cl,Sq I.tl,Sq I.wl,I.nm⟩
theorem Ai(F:gB fs){way}(h:∀j∈way,j<4)(hn:way≠[])(hl:way.length≤100):o8 (aH fs way):=by
 refine J (gZ F h) (⟨fun q=>hn (Ux.mp q),by refine J (Rk ..) ?_;exact hl,fun x hx=> ?_⟩);obtain⟨j,hj,rfl⟩:=Rz.mp hx;exact(F.ug (h j hj)).ok
section
variable{fs:List LF}{c e:Nat}{r:RS}{L Ex:List RN}{cs tk:List (List RN)}{R:Rd}
theorem um.start(G:um fs c e r L Ex cs tk R)(F:gB fs){k}(hk:k<4)(hc:c≤40):GoodR fs (c+1) e (r.start fs k):=by
 have I:=G.inv;have hw:∀x∈(r.start fs k).calls++(r.start fs k).ticks,o8 x:=fun x hx=>by
  have hx:x∈(r.calls++[aH fs (r.way++[k])])++r.ticks:=hx;rw[RP,RE,RE,Rr] at hx;rcases hx with h|h|h
  ·exact G.Cy x (RY _ h)
  ·refine J h ?_;refine Ai F (g7 I.wk hk) (by simp) ?_;exact J Ro (SI▸adr (ap I.wl (ap hc dc)))
  ·exact G.Cy x (Sg _ h)
 by_cases h:Ex≠[]∨aU fs k=aU fs 3
 ·obtain⟨I',et⟩:=I.zU hk h;refine⟨L,_,cs,tk,R,I',G.sim.same et ?_ rfl,hw⟩;refine rP ?_;rw[gZ F (g7 I.wk hk),show(r.way++[k]).map (aU fs)=_ from I'.path];exact I'.Ah (by simp)
 ·rw[not_or,Classical.not_not] at h;obtain⟨h1,h2⟩:=h;subst h1;obtain⟨R',S'⟩:=G.sim.op I F hk h2 hc;exact⟨_,_,_,_,R',I.vk F hk h2 hc,S',hw⟩
theorem um.tick(G:um fs c e r L Ex cs tk R)(F:gB fs)(hn:r.way≠[])(hc:c≤40) x:GoodR fs (c+1) e (r.tick fs x):=by
 have I:=G.inv;have hw:∀y∈(r.tick fs x).calls++(r.tick fs x).ticks,o8 y:=fun y hy=>by
  have hy:y∈r.calls++(r.ticks++[aH fs r.way]):=hy;rw[←RP,RE,Rr] at hy;rcases hy with h|h
  ·exact G.Cy y h
  ·exact J h (Ai F I.wk hn (by exact ap I.wl (ap hc dc)))
 by_cases h:Ex=[]
 ·subst h;exact⟨L,[],cs,_,R,I.tick x,G.sim.FU I F hn x,hw⟩
 ·refine⟨L,Ex,cs,tk,R,I.tick x,G.sim.same (i:=r.t.ig) ?_ rfl ?_,hw⟩
  ·refine if_neg fun q=>h (RX.mp ?_);have:=I.ig;lia
  ·refine rP ?_;exact J (gZ F I.wk) (J I.path ((I.Ah h)))
theorem um.fin(G:um fs c e r L Ex cs tk R)(hn:r.way≠[])(hc:c≤40):GoodR fs c (e+1) (r.fin fs):=by
 have I:=G.inv;rcases TN Ex with h|⟨X,N,h⟩
 ·subst h;obtain⟨L',R',I',S'⟩:=G.sim.cl I hn hc;exact⟨L',[],cs,tk,R',I',S',G.Cy⟩
 ·obtain⟨I',et⟩:=I.FL (X:=X) (N:=N) (by refine J h ?_;simp);exact⟨L,X,cs,tk,R,I',G.sim.same et rfl rfl,G.Cy⟩
end
theorem GoodR.Km(G:GoodR fs c e r)(F:gB fs)(hc:c≤28)(he:e≤28):IK fs r:=by
 obtain⟨_,_,_,_,_,G⟩:=G;exact G.inv.Km F hc he
theorem xp(F:gB fs){c}(hc:c≤28):∀(m e:Nat) r,r.way.length=m→e+m≤28→GoodR fs c e r→my fs m r∧∃e',e'≤28∧GoodR fs c e' (r.down fs m)∧(r.down fs m).way=[]:=by
 intro m
 induction m with
 |zero=>intro e r h he G;exact⟨RX.mp h,e,by exact he,G,RX.mp h⟩
 |succ m ih=>
  intro e r h he G;have hn:r.way≠[]:=fun q=>by cases q▸h
  have hw:(r.fin fs).way.length=m:=by refine J V1 (J h ?_);rfl
  have G':GoodR fs c (e+1) (r.fin fs):=by obtain⟨_,_,_,_,_,G⟩:=G;exact G.fin hn (eI hc)
  exact⟨⟨hn,G.Km F hc (lj he),(ih (e+1) (r.fin fs) hw (io he) G').1⟩,(ih (e+1) (r.fin fs) hw (io he) G').2⟩
theorem JC(x:Int):(x.fmod 4).toNat<4:=(cu x (b:=4) dc).2
theorem xq(F:gB fs){c}{r}(hc:c≤28)(G:GoodR fs c 0 r) x(hn:r.way≠[]∨x=0):GoodR fs (c+1) 0 (r.step fs x)∧(r.step fs x).way≠[]:=by
 refine Rg fun kG=> ?_;obtain⟨L,Ex,cs,tk,R,G⟩:=G;refine kG ?_;unfold RS.step;refine bn (fun _=> ?_) fun _=> ?_
 ·exact⟨G.start F (JC _) (eI hc),by show r.way++[_]≠[];simp⟩
 ·rename_i h0;have hn:=hn.resolve_right fun q=>h0 (by refine J q ?_;decide);refine bn (fun _=> ?_) fun _=> ?_
  ·obtain⟨_,_,_,_,_,G'⟩:=G.fin hn (eI hc);refine⟨⟨_,_,_,_,_,G'.inv.mono,G'.sim,G'.Cy⟩, ?_⟩;show r.way.dropLast≠[];intro q;have:=congrArg Tm q;rw[V1,V8] at this;omega
  ·exact⟨G.tick F hn (eI hc) x,hn⟩
theorem Aj(F:gB fs):∀ds c r,ds.length+c≤28→GoodR fs c 0 r→(r.way≠[]∨∃Nk,ds=0::Nk)→nY fs ds r∧∃c e',c≤28∧e'≤28∧GoodR fs c e' (r.run fs ds)∧(r.run fs ds).way=[]:=by
 intro ds
 induction ds with
 |nil=>
  intro c r hc G hn;have hw:r.way.length≤28:=by
   obtain⟨_,_,_,_,_,G⟩:=G;have:=G.inv.wl;simp at hc;exact ap this hc
  refine Rg fun kG=> ?_;obtain⟨a,e',he,g,w⟩:=xp F (by simpa using hc) r.way.length 0 r rfl (vD hw) G;exact kG (⟨a,c,e',by simpa using hc,he,g,w⟩)
 |cons x ds ih=>
  intro c r hc G hn;obtain⟨G',w'⟩:=xq F (D6 hc) G x (hn.imp (fun h=>h) fun⟨_,h⟩=>(U2 h).1);exact⟨⟨G.Km F (D6 hc) dc,(ih (c+1) (r.step fs x) (io hc) G' (.inl w')).1⟩,(ih (c+1) (r.step fs x) (io hc) G' (.inl w')).2⟩
theorem un{ex}(he:ex=cN (aU fs 3)):GoodR fs 0 0 ⟨Tg.t0 ex,[],[],[]⟩:=by
 refine⟨[],[],[],[],Jz,⟨fun _ h=>absurd h RG,rfl,RG, .inl rfl,rfl,he,rfl,⟨fun _ h=>absurd h RG,RW _,Tl,RG⟩,rfl,Ri _,Ri _,fun _ h=>absurd h RG,Ri _,Ri _,Ri _,Ri _,fun _ h=>absurd h RG⟩,
  ⟨.inl ⟨rfl,rfl,rfl⟩,rfl,fun _ h=>absurd h RG,Ri _,rfl,rfl,fun _=>rfl,fun _=>rfl,fun h=>absurd rfl h,rfl,rfl,fun _ h=>absurd h RG⟩,fun _ h=>absurd h RG⟩
theorem Cz xs:nY (mQ xs) (fc xs) ⟨Tg.t0 (B9 xs),[],[],[]⟩∧∃c e',c≤28∧e'≤28∧GoodR (mQ xs) c e' (endOf xs)∧(endOf xs).way=[]:=by
 refine Aj (Cm xs) (fc xs) 0 _ ?_ (un rfl) (.inr ⟨_,rfl⟩);refine J Ro (J VU ?_);have:d0.length=18:=rfl;lia
theorem snoc_ind{α:Type}{P:List α→Prop}(h0:P [])(h1:∀l a,P l→P (l++[a])) l:P l:=by
 refine aQ (List.reverse_reverse l) ?_
 induction l.reverse with
 |nil=>exact h0
 |cons a l ih=>exact J SN ((h1 _ _ ih))
theorem rQ x:∀(l pre:List RN),aw pre (l++[x])=aw pre l++(if x∈pre++l then [] else [x]):=by
 intro l
 induction l with
 |nil=>
  intro pre;show(if pre.contains x then aw _ [] else x::aw _ [])=[]++_;rw[RF,TM];by_cases h:x∈pre
  ·refine J (if_pos (Tu.mpr h)) (J (if_pos h) ?_);rfl
  ·refine J (if_neg (fun q=>h (Tu.mp q))) (J (if_neg h) ?_);rfl
 |cons y l ih=>
  intro pre;show(if pre.contains y then aw (pre++[y]) (l++[x]) else y::aw (pre++[y]) (l++[x]))=(if pre.contains y then aw (pre++[y]) l else y::aw (pre++[y]) l)++_;refine J (ih ..) (J (show pre++[y]++l=pre++y::l by simp) ?_);split
  ·rfl
  ·rfl
theorem eH x l:aw [] (l++[x])=aw [] l++(if x∈l then [] else [x]):=rQ x l []
theorem bv l x:x∈aw [] l↔x∈l:=by
 induction l using snoc_ind with
 |h0=>exact Iff.rfl
 |h1 l a ih=>
  rw[eH,RE,RE,ih];by_cases h:a∈l
  ·exact J (if_pos h) ((⟨fun q=>q.elim .inl fun q=>absurd q RG,fun q=>q.elim .inl fun q=> .inl (Rr.mp q▸h)⟩))
  ·rw[if_neg h]
theorem jA l:(aw [] l).Nodup:=by
 induction l using snoc_ind with
 |h0=>exact Tl
 |h1 l a ih=>
  refine J (eH ..) ?_;by_cases h:a∈l
  ·exact J (if_pos h) (J (RF ..) ((ih)))
  ·rw[if_neg h,TY];refine⟨ih,SG.mpr ⟨RG,Tl⟩,fun x hx y hy q=>h ?_⟩;rw[Rr.mp hy] at q;exact q▸(bv l x).mp hx
noncomputable def pH{α β:Type}(key:α→RN)(pI:List α→β)(l:List α):List (RN×β):=(aw [] (l.map key)).map fun k=>(k,pI (l.filter fun a=>key a==k))
theorem rR key(pI:List α→β) l:(pH key pI l).map (·.1)=aw [] (l.map key):=by
 delta pH;exact RO.trans (List.map_id _)
theorem Ak{β:Type}(f:RN→β) k:∀l:List RN,(l.map fun x=>(x,f x)).lookup k=if k∈l then some (f k) else none:=by
 intro l
 induction l with
 |nil=>rfl
 |cons x l ih=>
  refine J RD (J Sc (J ih ?_));by_cases h:k=x
  ·subst h;simp
  ·refine J (beq_eq_false_iff_ne.mpr h) ?_;by_cases q:k∈l
   ·rw[if_pos q,if_pos (Rm _ q)]
   ·rw[if_neg q,if_neg fun z=>(Rt.mp z).elim h q]
section
variable{α β:Type}{key:α→RN}{f:α→Option β→β}{pI:List α→β}
theorem iU(H:∀l a,pI (l++[a])=f a (if l.isEmpty then none else some (pI l))) l:l.foldl (fun t a=>c6 t (key a) (f a (t.lookup (key a)))) []=pH key pI l:=by
 induction l using snoc_ind with
 |h0=>rfl
 |h1 l a ih=>
  refine J Ws (J ih ?_);show c6 (pH key pI l) (key a) (f a ((pH key pI l).lookup (key a)))=_;have Al:∀k,(l++[a]).filter (fun b=>key b==k)=l.filter (fun b=>key b==k)++if key a=k then [a] else []:=fun k=>by
   refine J (Vq ..) (Ko (·++·) rfl ?_);by_cases h:key a=k
   ·refine J (if_pos h) (J (Uy (by simpa using h)) ?_);rfl
   ·refine J (if_neg h) (J (Uz (by simpa using h)) ?_);rfl
  have hm:key a∈l.map key↔l.filter (fun b=>key b==key a)≠[]:=by
   constructor
   ·intro h q;obtain⟨b,hb,e⟩:=Rz.mp h;have:b∈l.filter (fun b=>key b==key a):=Sk.mpr ⟨hb,by simpa using e⟩;cases q▸this
   ·intro h;obtain⟨b,hb⟩:=List.exists_mem_of_ne_nil _ h;exact Rz.mpr ⟨b,(Sk.mp hb).1,by simpa using(Sk.mp hb).2⟩
  have hl:(pH key pI l).lookup (key a)=if key a∈l.map key then some (pI (l.filter fun b=>key b==key a)) else none:=by
   delta pH
   rw[Ak (fun k=>pI (l.filter fun b=>key b==k))];by_cases h:key a∈l.map key
   ·rw[if_pos h,if_pos ((bv _ _).mpr h)]
   ·rw[if_neg h,if_neg fun q=>h ((bv _ _).mp q)]
  have hk:=rR key pI l;refine J hl ?_;unfold pH at hk⊢;refine J (RH ..) (J (SP ..) (J (eH ..) ?_));by_cases h:key a∈l.map key
  ·have aV:=hm.mp h;refine J (if_pos h) (J (if_pos h) (J (RF ..) ?_))
   delta c6
   rw[if_pos]
   ·refine J RO ?_;refine R9 fun k _=> ?_;show(if k=key a then(k,_) else(k,_))=(k,_);refine J (Al ..) ?_;by_cases q:k=key a
    ·subst q;rw[if_pos rfl,if_pos rfl,H,if_neg]
     ·rw[aaH];exact aV
    ·rw[if_neg q,if_neg (fun z=>q z.symm),RF]
   ·rw[U6];exact⟨_,Rz.mpr ⟨key a,(bv _ _).mpr h,rfl⟩,by simp⟩
  ·have he:=Rg fun q=>h (hm.mpr q);rw[if_neg h,if_neg h,re (by rw[hk];exact fun q=>h ((bv _ _).mp q)),RH];refine Ko (·++·) (R9 fun k hk=> ?_) ?_
   ·have:key a≠k:=fun q=>h (q▸(bv _ _).mp hk);rw[Al,if_neg this,RF]
   ·rw[SP,Al,if_pos rfl,he,H];rfl
end
noncomputable def eW(v:Rw→Nat)(l:List Rw):Nat:=(l.map v).sum
theorem eN v l r:eW v (l++[r])=eW v l+v r:=by delta eW;rw[RH,UM,SP,Uf]
noncomputable def nD(plain:Bool)(l:List Rw):CV:=if plain then .n l.length else .f [l.length,(eW Rw.first l:Nat),(eW Rw.own l:Nat),(eW (fun r=>r.whole*r.first) l:Nat)]
noncomputable def m6(r:Rw):Bool:= !(r.caller=="")
noncomputable def kK(plain:Bool)(l:List Rw):S5:=⟨(eW Rw.new l:Nat),l.length,(eW Rw.own l:Nat),(eW (fun r=>r.whole*r.new) l:Nat),pH Rw.caller (nD plain) (l.filter m6)⟩
noncomputable abbrev QJ(plain:Bool)(r:Rw):CV:=if plain then .n 1 else .f r.four
noncomputable def JD(v:CV):Option CV→CV
 |some o=>v.add o
 |none=>v
theorem xr plain l(a:Rw):nD plain (l++[a])=JD (QJ plain a) (if l.isEmpty then none else some (nD plain l)):=by
 cases plain with
 |true=>
  cases l with
  |nil=>rfl
  |cons b l=>
   show CV.n _=CV.n _;exact J Ro rfl
 |false=>
  have h:nD false (l++[a])=(CV.f a.four).add (nD false l):=by
   show CV.f _=CV.f _;refine J (Ro ..) (J (eN ..) (J (eN ..) (J (eN ..) ?_)));refine congrArg CV.f ?_;show _=[1+(l.length:Int),a.first+_,a.own+_,a.whole*a.first+_];simp only[Vr,Ug,and_true];refine⟨UL _ _,UL _ _,UL _ _,UL _ _⟩
  cases l with
  |nil=>
   refine J h ?_;rfl
  |cons b l=>exact h
theorem Am{f:α→Option β→β}{pI}(H:∀l a,pI (l++[a])=f a (if l.isEmpty then none else some (pI l))) l a:pH key pI (l++[a])=c6 (pH key pI l) (key a) (f a ((pH key pI l).lookup (key a))):=by
 rw[←iU H,←iU H,Ws];rfl
theorem xt plain l a:kK plain (l++[a])=(kK plain l).add (a.s5 plain):=by
 have hc:pH Rw.caller (nD plain) ((l++[a]).filter m6)=gV (d4 [] (kK plain l).cs) (a.cs plain):=by
  refine J ((show d4 [] (kK plain l).cs=(kK plain l).cs from iS _ [] (J (rR ..) ((jA _)))) ..) (J (Vq ..) ?_)
  delta Rw.cs
  by_cases h:a.caller=""
  ·rw[if_pos (by rw[h];rfl),Uz (by delta m6;refine J h ?_;decide)];exact J (RF ..) rfl
  ·rw[if_neg (by rw[beq_iff_eq];exact h),Uy (congrArg _ (beq_eq_false_iff_ne.mpr h))];show pH _ _ (_++[a])=c6 (kK plain l).cs a.caller _;rw[Am (xr plain)];show c6 _ _ (JD _ ((kK plain l).cs.lookup a.caller))=_;cases(kK plain l).cs.lookup a.caller<;>rfl
 unfold kK S5.add at*;rw[hc,eN,eN,eN,Ro];refine congr (congr (congr (congr (congrArg S5.mk ?_) ?_) ?_) ?_) rfl
 ·exact(Vr _ _).trans (UL _ _)
 ·exact(Vr _ _).trans (UL _ _)
 ·exact(Vr _ _).trans (UL _ _)
 ·exact(Vr _ _).trans (UL _ _)
theorem xu plain rows:mP plain rows=pH Rw.nm (kK plain) rows:=
 iU (key:=Rw.nm) (f:=fun r o=>(o.getD ky).add (r.s5 plain)) (fun l a=>by
  refine J (xt ..) ?_;cases l with
  |nil=>rfl
  |cons b l=>rfl) rows
theorem FV x f:∀ks:List RN,(ks.map fun k=>f k+if x=k then 1 else 0).sum=(ks.map f).sum+ks.count x:=by
 intro ks
 induction ks with
 |nil=>rfl
 |cons k ks ih=>
  rw[RD,Ub,ih,RD,Ub,List.count_cons];by_cases h:x=k
  ·subst h;refine J (if_pos rfl) (J (if_pos (beq_self_eq_true _)) ?_);lia
  ·rw[if_neg h,if_neg (by rw[beq_iff_eq];exact fun q=>h q.symm)];exact JL
theorem xv{α:Type} key(l:List α):((aw [] (l.map key)).map fun k=>(l.filter fun a=>key a==k).length).sum=l.length:=by
 induction l using snoc_ind with
 |h0=>rfl
 |h1 l a ih=>
  have Al:∀k,((l++[a]).filter (fun b=>key b==k)).length=(l.filter (fun b=>key b==k)).length+if key a=k then 1 else 0:=fun k=>by
   refine J (Vq ..) (J (Ro ..) ?_);by_cases h:key a=k
   ·refine J (if_pos h) (J (Uy (by simpa using h)) ?_);rfl
   ·refine J (if_neg h) (J (Uz (by simpa using h)) ?_);rfl
  rw[R9 fun k _=>Al k,FV,Ro,RH,SP,eH];by_cases h:key a∈l.map key
  ·rw[if_pos h,RF,ih,rM (jA _),if_pos ((bv _ _).mpr h)];rfl
  ·rw[if_neg h,RH,UM,ih,SP,Uf,(WI.mpr fun b hb q=>h (Rz.mpr ⟨b,hb,by simpa using q⟩)),List.count_append,Ys fun q=>h ((bv _ _).mp q)];exact J YW rfl
theorem oq N L:bQ (N::L).reverse=N:=by delta bQ;refine J SN (J Um ?_);rfl
theorem xw(N c:RN) L:ej (N::c::L).reverse=c:=by delta ej;rw[SN,V3,oq]
theorem m7(a N:RN):∀v,steps (v++[a]++[N])=steps (v++[a])++[(a,N)]
 |[]=>rfl
 |[x]=>rfl
 |x::y::v=>by
  show(x,y)::steps (y::v++[a]++[N])=(x,y)::(steps (y::v++[a])++_);rw[m7 a N (y::v)]
theorem ik:∀w,steps w.reverse=(bu w).reverse
 |[]=>rfl
 |[_]=>rfl
 |N::c::L=>by
  rw[show bu (N::c::L)=(c,N)::bu (c::L) from rfl,SN (as:=bu (c::L)),←ik (c::L),SN,SN,m7]
theorem vz{α:Type}{v}{p:α→Bool}:∀{l:List α},(∀w∈l,v w=if p w then 1 else 0)→(l.map v).sum=(l.filter p).length:=by
 intro l
 induction l with
 |nil=>intro _;rfl
 |cons a l ih=>
  intro h;rw[RD,Ub,h a Rn,ih fun w hw=>h w (Rm _ hw),U5];split
  ·rw[RQ,Tr]
  ·rw[Ur]
theorem il{l:List (List RN)}{p q}(h:∀w∈l,p w.reverse=q w):(l.map R3).filter p=(l.filter q).map R3:=by
 exact Vm.trans (congrArg _ (VB fun w hw=>h w hw))
theorem xx g r l:iy g (r::l)=g r.cq*r.own+iy g l:=rfl
theorem xy g r l:fP g (r::l)=g r.cq*r.whole+fP g l:=rfl
theorem or v r l:eW v (r::l)=v r+eW v l:=rfl
theorem CA(q:j3→Bool) l:eW Rw.own (l.filter fun r=>q r.cq)=iy (fun s=>if q s then 1 else 0) l:=by
 induction l with
 |nil=>rfl
 |cons r l ih=>
  refine J (xx ..) (aQ (ih ..) (J (U5 ..) ?_));split
  ·rw[Z5,or]
  ·rw[Yb,Ur]
theorem CB(q:j3→Bool)(v:j3→Nat) l:eW (fun r=>r.whole*v r.cq) (l.filter fun r=>q r.cq)=fP (fun s=>if q s then v s else 0) l:=by
 induction l with
 |nil=>rfl
 |cons r l ih=>
  refine J (xy ..) (aQ (ih ..) (J (U5 ..) ?_));split
  ·rw[Ye,or]
  ·rw[Yb,Ur]
theorem CD m:∀w,ey (fun s=>if s.nm==m then s.new else 0) w=if m∈w then 1 else 0:=by
 intro w
 induction w with
 |nil=>rfl
 |cons N L ih=>
  have e:(fun s:j3=>if s.nm==m then s.new else 0) (ax (N::L))=if N=m then(if N∈L then 0 else 1) else 0:=by
   cases L with
   |nil=>
    show(if N==m then 1 else 0)=_;by_cases h:N=m
    ·rw[if_pos (by simpa using h),if_pos h,if_neg RG]
    ·rw[if_neg (by simpa using h),if_neg h]
   |cons c L=>
    show(if N==m then(if N∈c::L then 0 else 1) else 0)=_;by_cases h:N=m
    ·rw[if_pos (by simpa using h),if_pos h]
    ·rw[if_neg (by simpa using h),if_neg h]
  show _+ey _ L=_;refine J e (J ih ?_);by_cases h:N=m
  ·subst h;refine J (if_pos rfl) (J (if_pos Rn) ?_);by_cases q:N∈L
   ·rw[if_pos q,if_pos q]
   ·rw[if_neg q,if_neg q]
  ·refine J (if_neg h) (J (Ur ..) ?_);by_cases q:m∈L
   ·rw[if_pos q,if_pos (Rm _ q)]
   ·rw[if_neg q,if_neg fun z=>(Rt.mp z).elim (fun z=>h z.symm) q]
theorem xz(c m:RN)(hc:c≠""):∀w,ey (fun s=>if s.nm==m&&s.caller==c then s.first else 0) w=if(c,m)∈bu w then 1 else 0:=by
 intro w
 induction w with
 |nil=>rfl
 |cons N L ih=>
  cases L with
  |nil=>
   refine J (if_neg (RG)) ?_;show(if N==m&&""==c then 0 else 0)+0=0;refine bn (fun _=> ?_) (fun _=> ?_)<;>rfl
  |cons b L=>
   show(if N==m&&b==c then(if(b,N)∈bu (b::L) then 0 else 1) else 0)+ey _ (b::L)=if(c,m)∈(b,N)::bu (b::L) then 1 else 0
   refine J ih ?_;by_cases h:N=m∧b=c
   ·obtain⟨rfl,rfl⟩:=h;refine J (if_pos (by simp)) (J (if_pos (Rn)) ?_);by_cases q:(b,N)∈bu (b::L)
    ·rw[if_pos q,if_pos q]
    ·rw[if_neg q,if_neg q]
   ·refine J (if_neg (by simpa using h)) (J (Ur ..) ?_);by_cases q:(c,m)∈bu (b::L)
    ·rw[if_pos q,if_pos (Rm _ q)]
    ·rw[if_neg q,if_neg fun z=>(Rt.mp z).elim (fun z=>h ⟨(abh z).2.symm,(abh z).1.symm⟩) q]
theorem lg b:(((1+b:Nat):Int)==1)=true↔b=0:=by rw[beq_iff_eq];lia
theorem pJ{w}(h:w≠[]):bQ w.reverse=(ax w).nm:=by
 match w,h with
 |[N],_=>rfl
 |N::c::L,_=>exact oq N (c::L)
theorem vA{w}(h:w≠[])(hn:∀N∈w,eG N):er w.reverse= !((ax w).caller=="")∧(er w.reverse=true→ej w.reverse=(ax w).caller):=by
 match w,h with
 |[N],_=>exact⟨rfl,fun q=>by cases q⟩
 |N::c::L,_=>
  refine⟨?_,fun _=>xw N c L⟩;show decide ((((N::c::L).reverse.length:Nat):Int)>1)= !(c=="");refine J (beq_eq_false_iff_ne.mpr ((hn c (Rm _ Rn)).ne)) (J Xs ?_);exact decide_eq_true (by simp only[RQ];lia)
theorem CE{w}{m}(h:w≠[])(hm:(ax w).nm=m):(ax w).new=if(((w.reverse.count m:Nat):Int)==1) then 1 else 0:=by
 subst hm;refine J aah ?_
 match w,h with
 |[N],_=>
  exact J YW rfl
 |N::c::L,_=>
  show(if N∈c::L then 0 else 1)=if((((N::c::L).count N:Nat):Int)==1) then 1 else 0
  refine J (ZP ..) (J (Tr ..) ?_);by_cases q:N∈c::L
  ·rw[if_pos q,if_neg];rw[lg];exact fun z=>Wh.mp z q
  ·rw[if_neg q,if_pos ((lg _).mpr (Wh.mpr q))]
theorem M6(N c:RN) L:(N::c::L).reverse=L.reverse++[c,N]:=by simp
theorem CH(a b c m:RN):([a,b]==[c,m])=(b==m&&a==c):=by
 rw[aa7];simp[and_comm]
theorem CJ{w}{c m:RN}(h:w≠[])(hc:c≠""):gf c m w.reverse=((ax w).nm==m&&(ax w).caller==c):=by
 match w,h with
 |[N],_=>
  show([N]==[c,m])=(N==m&&""==c);exact J (beq_eq_false_iff_ne.mpr fun q=>hc q.symm) (J (Xf ..) ((beq_eq_false_iff_ne.mpr (by simp))))
 |N::b::L,_=>
  show((N::b::L).reverse.drop ((N::b::L).reverse.length-2)==[c,m])=(N==m&&b==c);rw[M6,Ro,show L.reverse.length+[b,N].length-2=L.reverse.length from rfl,UC,CH]
theorem An{w}{c m}(hm:(ax w).nm=m)(hc:(ax w).caller=c)(h:c≠""):(ax w).first=if mG (c,m) (steps w.reverse) then 1 else 0:=by
 match w with
 |[]=>exact absurd hc (fun q=>h q.symm)
 |[N]=>exact absurd hc (fun q=>h q.symm)
 |N::b::L=>
  subst hm;subst hc
  delta mG
  refine J (ik ..) (J (aah ..) ?_);show(if(b,N)∈bu (b::L) then 0 else 1)=if(((((b,N)::bu (b::L)).count (b,N):Nat):Int)==1) then 1 else 0
  refine J (ZP ..) (J (Tr ..) ?_);by_cases q:(b,N)∈bu (b::L)
  ·rw[if_pos q,if_neg];rw[lg];exact fun z=>Wh.mp z q
  ·rw[if_neg q,if_pos ((lg _).mpr (Wh.mpr q))]
theorem Ao{w}{c m:RN}(h:w≠[])(hc:c≠""):((steps w.reverse).drop ((steps w.reverse).length-1)==[(c,m)])=((ax w).nm==m&&(ax w).caller==c):=by
 match w,h with
 |[N],_=>
  refine J (beq_eq_false_iff_ne.mpr fun q=>hc q.symm) (J (Xf ..) ?_);rfl
 |N::b::L,_=>
  rw[ik,show bu (N::b::L)=(b,N)::bu (b::L) from rfl,SN,Ro,SI,Vt,UC];show([(b,N)]==[(c,m)])=(N==m&&b==c);rw[aa7];simp[and_comm]
section
variable{rows:List Rw}{cs tk:List (List RN)}
theorem rS(fQ:rows.map Rw.cq=cs.map ax)(q:j3→Bool)(v:j3→Nat):eW (fun r=>v r.cq) (rows.filter fun r=>q r.cq)=((cs.filter fun w=>q (ax w)).map fun w=>v (ax w)).sum:=by
 have h1:(rows.filter fun r=>q r.cq).map (fun r=>v r.cq)=((rows.map Rw.cq).filter q).map v:=by refine J Vm (J RO ?_);rfl
 have h2:((cs.filter fun w=>q (ax w)).map fun w=>v (ax w))=((cs.map ax).filter q).map v:=by refine J Vm (J RO ?_);rfl
 delta eW
 rw[h1,h2,fQ]
theorem rT(fQ:rows.map Rw.cq=cs.map ax){α:Type}(q:j3→Bool)(v:j3→α):(rows.filter fun r=>q r.cq).map (fun r=>v r.cq)=((cs.filter fun w=>q (ax w)).map fun w=>v (ax w)):=by
 have h1:(rows.filter fun r=>q r.cq).map (fun r=>v r.cq)=((rows.map Rw.cq).filter q).map v:=by refine J Vm (J RO ?_);rfl
 have h2:((cs.filter fun w=>q (ax w)).map fun w=>v (ax w))=((cs.map ax).filter q).map v:=by refine J Vm (J RO ?_);rfl
 rw[h1,h2,fQ]
theorem rU(fQ:rows.map Rw.cq=cs.map ax)(q:j3→Bool):(rows.filter fun r=>q r.cq).length=(cs.filter fun w=>q (ax w)).length:=by
 have:=congrArg Tm (rT fQ q fun s=>s);rwa [Rk,Rk] at this
theorem Ap(sN:∀g,iy g rows=(tk.map (xn g)).sum)(aV:∀w∈tk,w≠[])(q:j3→Bool){p}(hp:∀w∈tk,p w.reverse=q (ax w)):eW Rw.own (rows.filter fun r=>q r.cq)=((tk.map R3).filter p).length:=by
 refine J (CA ..) (J (sN ..) (J (il hp) (J (Rk ..) ?_)));refine vz fun w hw=> ?_;cases w with
 |nil=>exact absurd rfl (aV _ hw)
 |cons N L=>rfl
theorem Aq(CK:∀g,fP g rows=(tk.map (ey g)).sum)(q:j3→Bool)(v:j3→Nat){p:List RN→Bool}(hp:∀w∈tk,ey (fun s=>if q s then v s else 0) w=if p w.reverse then 1 else 0):eW (fun r=>r.whole*v r.cq) (rows.filter fun r=>q r.cq)=((tk.map R3).filter p).length:=by
 exact J (CB ..) (J (CK ..) (J (Vm ..) (J (Rk ..) ((vz fun w hw=>hp w hw)))))
theorem Ar(fQ:rows.map Rw.cq=cs.map ax)(sN:∀g,iy g rows=(tk.map (xn g)).sum)(CK:∀g,fP g rows=(tk.map (ey g)).sum)(aV:∀w∈cs++tk,w≠[]∧∀N∈w,eG N) plain:
  (mP plain rows).map (pV plain)=(mJ (cs.map R3) (tk.map R3)).map (sh plain):=by
 have zk:=fun w hw=>(aV w (RY _ hw)).1;have Kq:=fun w hw=>(aV w (Sg _ hw)).1;have FW:rows.map Rw.nm=(cs.map R3).map bQ:=by
  rw[RO,show rows.map Rw.nm=(rows.map Rw.cq).map j3.nm by rw[RO];rfl,fQ,RO];exact R9 fun w hw=>(pJ (zk w hw)).symm
 refine J (xu ..) ?_;unfold pH mJ;refine J FW ?_;generalize aw [] ((cs.map R3).map bQ)=ks;refine J RO (J RO ?_);refine R9 fun m _=> ?_;show pV plain (m,kK plain (rows.filter fun r=>r.nm==m))=sh plain (mI (cs.map R3) (tk.map R3) m);let l:=cs.filter fun w=>(ax w).nm==m;have hl:∀w∈l,w∈cs∧(ax w).nm=m:=fun w hw=>by simpa [l] using hw
 have sS:=fun w hw=>zk w (hl w hw).1;have JB:=fun w hw=>(aV w (RY _ (hl w hw).1)).2;have a1:eW Rw.new (rows.filter fun r=>r.nm==m)=((l.map R3).filter fun w=>((w.count m:Nat):Int)==1).length:=by
  exact J (il (fun _ _=>rfl)) (J (Rk ..) (((rS fQ (fun s=>s.nm==m) j3.new).trans (vz fun w hw=>CE (sS w hw) (hl w hw).2))))
 have a4:eW (fun r=>r.whole*r.new) (rows.filter fun r=>r.nm==m)=((tk.map R3).filter fun w=>w.contains m).length:=Aq CK (fun s=>s.nm==m) j3.new fun w _=>by
  refine J (CD ..) ?_;by_cases h:m∈w
  ·rw[if_pos h,if_pos (Tu.mpr (U4.mpr h))]
  ·rw[if_neg h,if_neg fun q=>h (U4.mp (Tu.mp q))]
 let l2:=l.filter fun w=> !((ax w).caller=="");have d5:∀w∈l2,w∈l∧((ax w).caller=="")=false:=fun w hw=>by
  have:=Sk.mp hw;exact⟨this.1,by simpa using this.2⟩
 have QK:∀(q:j3→Bool),(rows.filter fun r=>r.nm==m).filter (fun r=>q r.cq)=rows.filter fun r=>(r.cq.nm==m&&q r.cq):=fun q=>by
  exact Vp.trans (VB fun r _=>Zf _ _)
 have QL:(cs.filter fun w=>((ax w).nm==m&& !((ax w).caller=="")))=l2:=by
  show _=(cs.filter _).filter _;exact J Vp ((VB fun w _=>Zf _ _))
 have b0:((rows.filter fun r=>r.nm==m).filter m6).map Rw.caller=((l.map R3).filter er).map ej:=by
  refine J (il fun w hw=>(vA (sS w hw) (JB w hw)).1) (J RO (J (QK fun s=> !(s.caller=="")) ?_));refine(rT fQ (fun s=>s.nm==m&& !(s.caller=="")) j3.caller).trans (J QL ?_);refine R9 fun w hw=> ?_;have h:=d5 w hw;have k:=vA (sS w h.1) (JB w h.1);exact(k.2 (by refine J k.1 (J h.2 ?_);rfl)).symm
 have b1:((rows.filter fun r=>r.nm==m).filter m6).length=((l.map R3).filter er).length:=by
  have:=congrArg Tm b0;rwa [Rk,Rk] at this
 have xC:∀c∈aw [] (((l.map R3).filter er).map ej),c≠"":=fun c hc q=>by
  rw[←b0] at hc;obtain⟨r,hr,e⟩:=Rz.mp ((bv _ _).mp hc);have:=(Sk.mp hr).2;unfold m6 at this;rw[e,q] at this;exact absurd this dc
 have key:∀c:RN,c≠""→(.tup [.str c,(nD plain (((rows.filter fun r=>r.nm==m).filter m6).filter fun r=>r.caller==c)).v]:V)=se plain (mH (l.map R3) (tk.map R3) m c):=fun c hc=>by
  have hg:((rows.filter fun r=>r.nm==m).filter m6).filter (fun r=>r.caller==c)=rows.filter fun r=>(r.cq.nm==m&&r.cq.caller==c):=by
   refine J Vp (J Vp ?_);refine VB fun r _=> ?_;show((r.caller==c&& !(r.caller==""))&&r.nm==m)=(r.nm==m&&r.caller==c);by_cases h:r.caller=c
   ·refine J (h ..) (J (beq_self_eq_true ..) (J (beq_eq_false_iff_ne.mpr hc) (J (Zf ..) ?_)));rfl
   ·refine J (beq_eq_false_iff_ne.mpr h) (J (Xf ..) ?_);rfl
  let lc:=cs.filter fun w=>((ax w).nm==m&&(ax w).caller==c);have Fh:(l.map R3).filter (gf c m)=lc.map R3:=by
   refine J (il fun w hw=>CJ (sS w hw) hc) (congrArg _ ?_);refine J Vp (VB fun w _=> ?_);cases(ax w).nm==m<;>simp
  have c2:eW Rw.first (rows.filter fun r=>(r.cq.nm==m&&r.cq.caller==c))=((lc.map R3).filter fun w=>mG (c,m) (steps w)).length:=by
   refine J (il (fun _ _=>rfl)) (J (Rk ..) ?_);refine(rS fQ (fun s=>s.nm==m&&s.caller==c) j3.first).trans (vz fun w hw=> ?_);have:=(Sk.mp hw).2;rw[RA,beq_iff_eq,beq_iff_eq] at this;exact An this.1 this.2 hc
  have c4:eW (fun r=>r.whole*r.first) (rows.filter fun r=>(r.cq.nm==m&&r.cq.caller==c))=((tk.map R3).filter fun w=>(steps w).contains (c,m)).length:=Aq CK (fun s=>s.nm==m&&s.caller==c) j3.first fun w _=>by
   rw[xz c m hc,ik];by_cases h:(c,m)∈bu w
   ·rw[if_pos h,if_pos (Tu.mpr (U4.mpr h))]
   ·rw[if_neg h,if_neg fun q=>h (U4.mp (Tu.mp q))]
  refine J hg ?_;unfold se mH nD;dsimp only;rw[Fh,(show(rows.filter fun r=>(r.cq.nm==m&&r.cq.caller==c)).length=(lc.map R3).length by exact J (Rk ..) ((rU fQ (fun s=>s.nm==m&&s.caller==c)))),c2,(show eW Rw.own (rows.filter fun r=>(r.cq.nm==m&&r.cq.caller==c))=((tk.map R3).filter fun w=>(steps w).drop ((steps w).length-1)==[(c,m)]).length from Ap sN Kq (fun s=>s.nm==m&&s.caller==c) fun w hw=>Ao (Kq w hw) hc),c4];cases plain<;>rfl
 unfold pV sh mI kK;dsimp only;rw[(show(cs.map R3).filter (fun w=>bQ w==m)=l.map R3 from il fun w hw=>by rw[pJ (zk w hw)]),a1,(show(rows.filter fun r=>r.nm==m).length=(l.map R3).length by exact J (Rk ..) ((rU fQ (fun s=>s.nm==m)))),(show eW Rw.own (rows.filter fun r=>r.nm==m)=((tk.map R3).filter fun w=>bQ w==m).length from Ap sN Kq (fun s=>s.nm==m) fun w hw=>by rw[pJ (Kq w hw)]),a4];have FX:cy (dZ (pH Rw.caller (nD plain) ((rows.filter fun r=>r.nm==m).filter m6)))=((aw [] (((l.map R3).filter er).map ej)).map (mH (l.map R3) (tk.map R3) m)).map (se plain):=by
  unfold pH dZ vals cy;exact J b0 (J RO (J RO (J RO ((R9 fun c hc=>key c (xC c hc))))))
 refine J FX ?_;cases plain with
 |false=>rfl
 |true=>
  have BI:((pH Rw.caller (nD true) ((rows.filter fun r=>r.nm==m).filter m6)).map fun q=>q.2.num).sum=((((l.map R3).filter er).length:Nat):Int):=by
   refine b1▸(xv Rw.caller ((rows.filter fun r=>r.nm==m).filter m6))▸(J RO ?_);generalize aw [] _=ks
   induction ks with
   |nil=>rfl
   |cons k ks ih=>
    rw[RD,Ub,ih,RD,Ub];exact(Vr _ _).symm
  exact BI▸rfl
end
theorem vB{α:Type}{k}{f}{l:List α}(h:∀x∈l,(f x).nk k=true):(l.map f).all (V.nk k)=true:=by
 rw[Wb,SE];exact h
theorem rV(a b c d k:Nat):(four a b c d).nk (k+1)=true:=V.kO rfl
theorem FY{K T}(h:∀x∈K,o8 x) plain:(V.lst ((mJ K T).map (sh plain))).ok=true:=by
 refine V.nJ (V.kN (k:=4) (vB fun d hd=> ?_)) dc;obtain⟨m,hm,rfl⟩:=Rz.mp hd;obtain⟨w,hw,rfl⟩:=Rz.mp ((bv _ _).mp hm);refine V.kO ?_;have h1:(V.lst ((mI K T (bQ w)).cs.map (se plain))).nk 3=true:=by
  refine V.kN (vB fun d hd=> ?_);obtain⟨c,hc,rfl⟩:=Rz.mp hd;obtain⟨v,hv,rfl⟩:=Rz.mp ((bv _ _).mp hc);have OE:=Sk.mp hv;have zu:1<v.length:=by
   have:=of_decide_eq_true OE.2;exact co this
  have hp:Rv (ej v)=true:=(h v ((Sk.mp OE.1).1)).ok _ (List.dropLast_subset _ (ib fun q=>by
   have:=congrArg Tm q;rw[V1,V8] at this;omega))
  refine V.kO ?_;rw[Th,Th,show(mH _ T (bQ w) (ej v)).caller=ej v from rfl,V.ga hp,UQ];cases plain
  ·exact J (rV ..) rfl
  ·exact J (V.uC ..) rfl
 rw[Th,Th,Th,Th,show(mI K T (bQ w)).name=bQ w from rfl,V.ga ((fun w hw=>(h w hw).ok _ (ib (h w hw).ne)) w hw),rV,h1];cases plain
 ·exact J (V.xV ..) rfl
 ·exact J (V.uC ..) rfl
theorem CL:∀(l:List (RN×Pc)) x,jn 60 (x::l.map fun q=>sl q.1)=x++l.flatMap fun q=>60::sl q.1:=by
 intro l
 induction l with
 |nil=>intro x;exact(RF x).symm
 |cons q l ih=>
  intro x;show x++60::jn 60 (sl q.1::l.map fun q=>sl q.1)=x++(60::sl q.1++_);exact J (ih ..) rfl
theorem xA w:ey (fun _=>1) w=w.length:=by
 induction w with
 |nil=>rfl
 |cons N L ih=>show 1+ey _ L=L.length+1;rw[ih,Tr]
theorem CM{f:Rw→Nat}:∀{l:List Rw}{r},r∈l→f r≤(l.map f).sum:=by
 intro l
 induction l with
 |nil=>intro r h;cases h
 |cons a l ih=>
  intro r h;refine J RD (J Ub ?_);rcases Rt.mp h with rfl|h
  ·exact Sr _ _
  ·exact Rq (ih h) (Wa _ _)
theorem As{f}:∀{l:List (List RN)},(∀w∈l,f w≤B)→(l.map f).sum≤l.length*B
 |[],_=>RW _
 |a::l,h=>by
  rw[RD,Ub,RQ,WT,Tr];exact VJ (As fun w hw=>h w (Rm _ hw)) (h a Rn)
theorem Au{w}(h:w≠[])(hn:∀N∈w,eG N):(ax w).caller.length≤19∧(ax w).nm.length≤19∧(ax w).new≤1∧(ax w).first≤1:=by
 match w,h with
 |[N],_=>exact⟨RW _,(hn N Rn).len,Ri _,RW _⟩
 |N::c::L,_=>
  refine⟨(hn c (Rm _ Rn)).len,(hn N Rn).len, ?_, ?_⟩
  ·show(if _ then 0 else 1)≤1;refine bn (fun _=> ?_) (fun _=> ?_)<;>decide
  ·show(if _ then 0 else 1)≤1;refine bn (fun _=> ?_) (fun _=> ?_)<;>decide
theorem vC:∀{l:List (RN×Pc)},(∀q∈l,q.1.length≤B)→(l.flatMap fun q=>60::sl q.1).length≤l.length*(B+1)
 |[],_=>RW _
 |q::l,h=>by
  rw[Ti,Ro,RQ,RQ,WT,Tr,aq];exact VJ (vC fun w hw=>h w (Rm _ hw)) (Ue (h q Rn))
theorem JE xs:(f3 xs).text=aU (mQ xs) 3:=(px _).1.symm
theorem FZ xs:ro xs:=by
 obtain⟨M7,c,e,hc,he,⟨L,Ex,cs,tk,R,G⟩,hw⟩:=Cz xs;have I:=G.inv;have S:=G.sim;have hlen:=I.len;replace hlen:=hw▸hlen;have hL:=RX.mp (Nat.eq_zero_of_add_eq_zero_right hlen);subst hL;obtain⟨ps,R1,h1,h2,h3,h4,_,_,h7,h8,h9,pL⟩:=S.flush I (eI hc);replace h2:=(show(endOf xs).t.fl=(endOf xs).t from if_pos (Rg fun q=>S.dl q rfl))▸h2;obtain⟨d1,d2⟩:=h1.done (h7▸S.way);have cl:=I.cl;have tl:=I.tl;have jb:ps.length≤168:=ap h4 (ap I.told (ap (ba (nE hc) (nE he)) dc));have hsz:(textOf xs).length≤340000:=by
  refine aQ (aq ..) (J (h2) ?_);have:=vC fun q hq=>(h3 q hq).2;lia
 have oW:Sl (textOf xs) "<"=("":RN)::ps.map (·.1):=by
  refine cQ (c:=60) ?_ (To _ _) fun q hq=> ?_
  ·exact J (h2) (J RD (J RO (((CL ps []).symm))))
  ·rcases Rt.mp hq with rfl|hq
   ·exact RG
   ·obtain⟨p,hp,rfl⟩:=Rz.mp hq;exact(h3 p hp).1
 have hk:∀l,iG xs l=fg (mQ xs) l:=fun l=>by delta iG;rw[JE]
 have MY:tk.length≤28:=by
  have:=congrArg Tm S.ticks;rw[Rk] at this;exact this▸Rq (SR _ _) (Rq tl hc)
 have QM:∀w∈tk,ey (fun _=>1) w≤100:=fun w hw=>by
  refine J (xA ..) (aQ (Xs ..) ?_);exact(G.Cy _ (Sg _ (Sk.mp (show w.reverse∈fg (mQ xs) (endOf xs).ticks by exact J S.ticks ((T6 hw)))).1)).len
 have AP:R1.rows.length=cs.length:=by have:=congrArg Tm h8;rwa [Rk,Rk] at this
 refine⟨M7,G.Cy,⟨by exact ap cl (ap hc dc),by exact ap tl (ap hc dc)⟩, ?_,by exact eI hsz,⟨"",ps,oW,by exact eI jb,fun q hq=> ?_,d1,fun r hr=> ?_, ?_, ?_⟩, ?_⟩
 ·delta XK
  refine J (joinTotal ..) (J (show "".length=0 from rfl) (J (Yd ..) ?_));have e1:((endOf xs).t.told.map (·.length)).sum=(textOf xs).length:=by
   exact aQ (aq ..) (J (dC _) (J (Z0 ..) (J (RO ..) ((congrArg abm (R9 fun x _=>(aq x).symm))))))
  refine J e1 ?_;have:tooLong ((textOf xs).length+0)=false:=by
   delta tooLong;exact R2▸decide_eq_false (len (ba (ap hsz dc) (Ri _)))
  exact this▸rfl
 ·replace hq:=oW▸hq;rcases Rt.mp hq with rfl|hq
  ·exact RW _
  ·obtain⟨p,hp,rfl⟩:=Rz.mp hq;exact Rq (h3 p hp).2 dc
 ·rw[show(ps.map (·.2)).foldl Rd.step ⟨[],[],[],[]⟩=R1 from d2] at hr;obtain⟨w,hw,ew⟩:=Rz.mp (h8▸T6 hr);have hc:=S.FQ w (RY _ hw);obtain⟨s1,s2,s3,s4⟩:=Au hc.1 hc.2;rw[ew] at s1 s2 s3 s4;have QO:r.whole≤fP (fun _=>1) R1.rows:=by
   refine Rq (UK (Z5 _).symm) (CM (f:=fun x:Rw=>1*x.whole) hr)
  rw[pL] at QO;have:=As QM;exact⟨Rq s1 dc,Rq s2 dc,Rq s3 dc,Rq s4 dc,by lia⟩
 ·exact J (d2) (J AP ((ap S.Oy (ap cl (ap hc dc)))))
 ·rw[show(ps.map (·.2)).foldl Rd.step ⟨[],[],[],[]⟩=R1 from d2,hk,hk,show fg _ _=_ from S.calls,show fg _ _=_ from S.ticks];exact Ar h8 h9 pL S.FQ _
 ·exact J (hk ..) ((FY (fun x hx=>G.Cy x (RY _ (Sk.mp hx).1)) _))
theorem Kr:rW.Holds:=xh fun xs _=>⟨FZ xs,(px _).2.ok⟩
end Mine.Internal
theorem PySem.Challenge.cw_ph0175_01_holds : PySem.Challenge.rw_ph0175_01.Holds :=
  Mine.Internal.Kr
