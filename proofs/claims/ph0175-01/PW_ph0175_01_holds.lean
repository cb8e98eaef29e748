import PyProof.Rows.All
import Wide.All
import OpenK.AllK
import Wide.FinOn
import KE.KSortTup
import KE.KLam
import KE.KItemsList
import KE.KxPercentT
import PyProof.Rows.TupMore
import OpenK.KMake
import PyProof.Rows.SetFrom
import PyProof.AttrMissHeap
import PySem.Challenge.RW_ph0175_01
open PySem PySem.W PyProof.Rows
set_option Elab.async false
set_option maxRecDepth 100000
set_option maxHeartbeats 0
set_option bootstrap.genMatcherCode false
open Classical renaming byContradiction → QK
open PySem renaming wpAny_bind → QL, wpAny_pure → QO, sizeLine → QW, wpAny_mono → Ri, Str → Rj, Shared → Ro, slot_list_getitem → Rp, sizeLine_eq → Rv, wpAny_callSpecial?_slot → RE, compareOp → RZ, wpAny_newObj_type → R5, codeAny_of_tree → R7, bindArgs → Sn, codeAny_builtin → So, wpAny_of_eq → Sq, slot_list_append → St, foldedSetIterable → Sv, Expr → SD, letOwnedTupleGo → SI, codeAny → SM, sysModules → SR, rawInt → SX, Around → Ta, typeIs_str → To, wpAny_attempt → Tr, bootBuiltins → Ts, wpAny_noted → Tv, Addr → TD, swappedStores → TJ, plainId_quiet → TK, codeAny_mono → T6, wpAny_onRaise → T8, strKind_is → Ua, pyNext → Uk, compEnvC → Un, callWith → Uo, assignEach → Ut, wpAny_newFunctionEnv_cells → UG, isSubtype_stop → UN, sliceBounds → UO, wpAny_call → UP, wpAny_comprehension_free → U1, getItem → U2, Stmt → U3, wpAny_updateSeq → U8, wpAny_ite_split → U9, Heap → Vi, typeLookup → Vj, wpAny_ite → Vm, wpAny_assign_Name → Vr, slot_dict_getitem → Vs, relayAll → VA, wpAny_loadName_local → VF, seqIndex? → VG, hashStr → VO, pyIter → VP, binaryOp → VQ, wpAny_setEntries_of → VU, slot_listiter_next → V1, wpAny_pyIter_list → We, unsupported → Wg, assignInOrder → Wk, wpAny_items_cons → Ws, wpAny_isInstance → Wt, wpAny_execs_cons → Wu, swapsWith → WB, isSubtype → WC, wpAny_pyNext_list_item → WE, wpAny_nextOf_list_item → WF, entryFor → WG, ZipApart → WH, SetTable → WI, theTreesLotGoes → WO, limitOf → WP, Builtin → WQ, wpAny_pyNext_list_end → WU, exec_Assign_Name_used → WV, assign → Xa, JoinOk → Xb, wpAny_newFunctionEnv → Xd, wpAny_newTuple → Xg, checkBoundCall → Xi, wpAny_throw → Xj, compTurn → Xq, length_partsBetween → Xr, scanBound → Xv, inplaceOp → Xw, clipAt → XG, IsPair → XH, wpAny_newList → XO, wpAny_setField_rec → XS, closureFor → X2, wpAny_truthy_bool → X9, call_meetsIn → Yc, wpAny_pyIter_zip → Ym, entryFor_of_tree → Yn, Sem → Yp, pickOrder → Yv, getMethod → Yw, IsZip → YC, wpAny_field → YD, importBound → YF, layNew → YO, wpAny_items_nil → YQ, wpAny_FormattedValue_plain → YZ, wpAny_runValue → Y1, wpAny_listPart → Y4, recursionLimit → Y5, newFunctionEnv → Y6, NameKind → Zh, wpAny_getItem_list_slice → Zl, swapsWithSole → Zr, wpAny_list_append_plain → Zu, DictEntry → ZI, wpAny_pyNext_dict_item → ZJ, wpAny_getItem_list_neg → ZK, wpAny_allTrue_And_cons → ZL, wpAny_typeOf → ZR, wpAny_pyNext_dict_end → ZW, wpAny_nextOf_list_end → ZX, wpAny_allTrue_Or_cons → ZY, codeAny_call_function → ZZ, setItem → Z9, relabel → aaa, table → aac, cLine → aad, again → aae, Scope → aaf, wpAny_updateSeq_pair → aaj, codeAny_call_builtin → aak, wpAny_BinOp → aax, interactive → aay, storeSet → aaz, FuncData → aaA, wpAny_loadName_free → aaB, wpAny_loadName_cell → aaC, wpAny_Assign_stores → aaD, entry_listiter_next → aaE, Frame → aaR, wpAny_pyIter_tuple → aaS, wpAny_getItem_list → aaT, wpAny_Constant_str → aaU, wpAny_Constant_int → aaV, args_listiter_next → aaW
open Nat renaming le_refl → QM, le_trans → QU, zero_le → Rr, lt_of_lt_of_le → RM, sub_self → RU, le_succ_of_le → RV, le_add_right → RW, succ_pos → Sh, lt_irrefl → Sj, ne_of_lt → Sw, ne_of_gt → SJ, add_comm → SK, le_of_lt → SU, add_le_add_right → SW, le_succ → Te, not_lt → Tw, succ_le_succ → TE, le_of_succ_le → TQ, zero_add → TU, le_of_eq → Uf, lt_of_succ_lt → Ur, add_lt_add_left → UH, add_assoc → US, add_sub_cancel → UY, add_right_comm → UZ, lt_succ_of_lt → Vc, add_le_add → Ve, le_of_ble_eq_true → Vl, succ_ne_self → Vt, lt_succ_self → Vu, le_add_left → VD, lt_of_le_of_lt → VN, succ_mul → Wl, min_le_left → Wo, zero_mul → Xy, sub_zero → Xz, mul_zero → XA, mul_comm → XB, lt_trans → XC, le_total → XD, min_eq_right → XV, min_eq_left → Yb, mul_le_mul → Yo, le_of_sub_eq_zero → Y9, mul_le_mul_right → Zm, le_sub_of_add_le → Zn, one_mul → Zs, mul_add → Zt, mul_le_mul_left → Zw, add_le_add_left → Zx, sub_add_cancel → ZN, pos_of_ne_zero → ZO, lt_trichotomy → Z2, lt_of_sub_pos → Z3, le_of_lt_succ → Z4, le_antisymm → aaH, sub_add_eq → aaZ
open _root_.List renaming length_map → QP, mem_cons_of_mem → QQ, mem_cons_self → QR, length_append → QS, mem_singleton → QV, mem_cons → QX, getElem?_eq_some_iff → QY, replicate → Q3, mem_map → Q4, map_cons → Q8, mem_append → Q9, append_nil → Ra, not_mem_nil → Rb, map_append → Rc, size_toArray → Re, getElem?_eq_getElem → Rg, getElem?_append_right → Rh, map_map → Rk, append_assoc → Rm, length_cons → Rn, length_eq_zero_iff → Rs, mem_append_left → Rt, reverse → Rx, getElem?_append_left → RC, map_congr_left → RD, set_append_right → RF, lookup_cons → RG, mem_of_getElem? → RJ, mem_append_right → RK, mem_filter → RO, getElem?_toArray → RQ, map_nil → RY, getElem?_eq_none → R2, getElem?_map → R3, all_eq_true → R8, nodup_cons → Sa, length_singleton → Sc, drop_eq_getElem_cons → Sf, reverse_cons → Sg, map_singleton → Si, length_filter_le → Sk, length_set → Sl, getElem?_set_ne → Sr, take_of_length_le → Su, flatten_append → Sx, all_cons → Sy, flatMap_cons → Sz, nodup_nil → SE, length → SF, getElem?_set_self → SG, cons_ne_nil → SH, contains_iff_mem → SN, toArray → SQ, cons_append → SV, nil_append → Tc, eq_nil_or_concat → Td, nodup_append → Tn, mem_map_of_mem → Tu, sum_cons → TB, sum_singleton → TF, getLast?_concat → TN, map → TX, map_eq_nil_iff → T0, filter_cons_of_pos → T2, filter_cons_of_neg → T3, getElem_mem → T4, drop_left → T7, sum_append → Uh, range → Uy, mem_reverse → Uz, filter_cons → UA, any_eq_true → UB, length_pos_iff → UE, filter_eq_self → UF, forIn_cons → UQ, filter_map → UR, pairwise_cons → UT, filter_filter → UU, filter_append → UV, idxOf_append → U4, flatten_cons → U5, filter_congr → U6, mem_range → Va, drop_zero → Vb, length_take → Vo, length_drop → Vp, drop_length → Vq, length_dropLast → Vv, dropLast_concat → Vw, length_nil → VB, all_map → VE, count_eq_zero → VJ, take_left → VK, foldl_append → VV, append_cancel_right → VY, any_cons → V0, mem_flatMap → V5, append_inj' → V6, drop_eq_nil_of_le → Wa, append_eq_nil_iff → Wb, any_map → Wf, head?_drop → Wh, mem_iff_getElem? → Wn, mem_of_mem_drop → Wv, map_eq_cons_iff → Ww, tail_drop → Wx, perm_singleton → WL, length_reverse → WM, filterMap_cons → WN, getElem?_take → WZ, getElem?_set → Xm, ext_getElem? → Xn, prefix_refl → XJ, flatten_nil → XK, any_toArray → XM, getLast?_eq_some_getLast → XQ, count_eq_zero_of_not_mem → XR, lookup → XY, idxOf_lt_length_of_mem → X6, isPrefixOf_iff_prefix → Ye, mem_or_eq_of_mem_set → Yh, getElem?_zip_eq_some → Yi, count_singleton_self → Yj, map_drop → Yz, length_eq_one_iff → YS, filter_eq_nil_iff → YT, drop_of_length_le → YU, length_replicate → Y0, set_append_left → Za, mem_of_mem_take → Zb, length_eraseIdx → Zc, idxOf_le_length → Zd, forall_mem_cons → Ze, count_cons_self → Zf, length_flatten → Zo, prefix_append → Zz, mem_replicate → ZA, getElem_range → ZB, getElem_idxOf → ZC, flatMap_assoc → ZD, count_reverse → ZE, contains_cons → ZF, length_range → ZP, take_length → Z5, isEmpty_iff → Z6, getLast_mem → Z7, of_mem_zip → aao, length_zip → aap, foldl_cons → aaq, find?_cons → aar, countP_map → aas, all_append → aat, forIn_nil → aaI, drop_drop → aaJ, sum → aaL, drop_one → aa0
open PySem.Heap renaming get?_push_of_some → QT, get?_push_size → Q0, lt_size → Rq, size_push → RI, get?_update_other → RL, get?_update_self → RT, SameBut → Sm, get?_none_of_le → Ss, ExtBut → U0, size_update → V7
open PySem.PyData renaming strOk → QZ, canLayAll0 → Tl, depthAll → TL, eqv → TS, int → WT, canLay0 → X3, tuple → Yx, depth → Yy, list → YW, str → Zj, eqvAll → aan
open Bool renaming and_eq_true → Q5, false_ne_true → Ry, true_and → Ul, not_eq_true' → U7, and_eq_true_iff → Vx, or_eq_true → Wi, and_false → Wy, and_true → YA, and_comm → YB, false_eq_true → ZG, eq_false_iff → ZQ, not_eq_true → Z8, eq_iff_iff → aaw
open Option renaming none → Q6, isSome_iff_exists → Ti, map_eq_some_iff → Tt, bind_some → Vh, isSome → WJ, elim_some → Xk, elim_none → Xl, map → Zk, some → aaY
open PySem.Str renaming length_append → Q7, ofString → Vf, empty → VR, join → XN
open PySem.F renaming plainAttrs_list → Rf, type_list_append → RB, plainAttrs_str → RH, plain_extend_loop → Sd, slot_zip_next → SL, plainAttrs_dict → SO, type_str_split → Tp, slot_str_split → Tq, type_list_pop → Tz, slot_list_pop → TA, slot_tuple_iterator_next → TH, entry_extend_loop → Uu, type_list_count → UI, type_dict_items → UJ, slot_list_count → UK, slot_dict_items → UL, args_zip_next_1 → UM, entry_zip_next → UX, slot_str_getitem → VL, type_str_join → V8, slot_str_join → V9, args_tuple_iterator_next_1 → WA, entry_tuple_iterator_next → WK, slot_list_append → X5, plain_list_iadd → Yd, plainAttrs_set → Yg, type_dict_get → Yr, slot_set_iter → Ys, slot_dict_get → Yt, type_set_add → YI, slot_set_add → YJ
open PySem.Obj renaming mapSeq → Ru, data_mapFields → VM, mapFields → V3, isFreed_of_fields → Y8, putSet → ZU, cls_mapFields → Z1
open PySem.Heap.SameBut renaming update → Rz
open PySem.Value renaming str → RA, none → SZ, isStrOf_shape → TV, ref → Um, type → Wc, builtin → aaF
open _root_.Array renaming getElem?_eq_getElem → RN, getElem?_eq_some_iff → TC, length_toList → TW, getElem?_eq_none → T9, getElem?_toList → Ui, size_push → XX, mem_iff_getElem? → YM, forIn_toList → Zp, find?_toList → Zq, toList_push → ZH
open PySem.Txt renaming split → RP, join → R9, replace → Sb, contains → SS, slice → SY, rsplitMax → TY, splitMax → Ue, startswith → Vd, endswith → VI, slice_le → Xx
open PySem.Around renaming under_plainId → RX
open PySem.Sem renaming bind_eq_wrap' → R4, wrap_wrap → SP, onRaise_eq_wrap → Zv, wrap_congr → aaX
open PyProof.Rows renaming slot_tuple_getitem → R6, listItems_at → Th, get?_update_seq → TZ, listUpdate_at → Uw, seqObj → UC, slot_list_sort → Xh, failedOf → Xp, toString_length_le → XU, seqEpoch_at → YE, entry_list_sort → YR, wpAny_release' → Y3, AllBare → aab, arrOf → aaQ
open Ne renaming symm → Se
open ForInStep renaming yield → SA
open PySem.W.KPc renaming short_good → S9, turn → Vk, ite_no → Vy, after_add → V4, obj_none → Wm, Obj → aai, range_list → aa1
open PySem.W renaming findIn → Tf, callWith_of → Uq, emptyDict → Vn, nsIn → VZ, peek → V2, km_tabs_of → X1, takerIn → Yk, instObj → Yl, codeHd_of_K → YG, ownOf → Z0
open PySem.Builtin.Str renaming occurrences → Tj, strKind → TM, partsBetween → VC, occurrencesFromRight → Wp
open PySem.SetTable renaming grown → Tk
open Lean renaming Syntax → Tm
open List.cons renaming injEq → TG, inj → Ux
open PySem.SeqAt renaming shaped → TP, canLay_of_shaped → YH, eqv_refl → aam
open PySem.W.Looks renaming of_pure → TR, of_peek → Uj, ld → WD
open PySem.NameKind renaming free → Ub, cell → X4
open PyProof.Rows.F renaming plain_set_update_loop → Uc, entry_set_update_loop → VW
open Int renaming natCast_nonneg → Ud, add_comm → Ug, toNat_natCast → Us, natCast_add → UW, ofNat_lt → Vg, sub_eq_add_neg → Xe, mul_fmod_right → Xf, ofNat_le → XE, mul_fdiv_cancel_left → YL, dvd_of_fmod_eq_zero → YV, max_eq_right → aav, min_eq_left → aaK
open PySem.Builtin.List renaming listSameRef → Up, listSubscript? → WR, listLengthHint → WS, listFitsIndex → WY
open Option.some renaming inj → Uv, injEq → Yu
open PySem.MeetsSeq3 renaming plain_eq_loop → UD, entry_eq_loop → XZ
open Nat.succ renaming inj → Vz
open Std.Legacy.Range renaming forIn_eq_forIn_range' → VH
open And renaming intro → VS
open PySem.pickOrder renaming go → VX
open PySem.Builtin.Generator renaming sleptOver → Wj, genWake → aag
open PySem.Builtin.SmallTypes renaming nextOf → Wq, ownedTupleIsFree → ZV
open PySem.Calls renaming evalArgs_plain → Wr, Name_function_global → X7, call_len_list → Zg
open PySem.Builtin.Slice renaming slicePlaces → WW, sliceAdjust → WX
open PySem.Code renaming quiet_builtin → W9, builtin → YX
open PySem.Env renaming blockKind → Xc
open PySem.Builtin renaming divisionGoesByPylong → Xo
open List.Perm renaming swap → Xs, refl → Xu, cons_inv → YN
open StateT renaming run_pure → XI
open PySem.Heap.IsSliceOf renaming new → X0
open PySem.SetTable.below renaming go → X8
open PySem.IsL renaming update → Yq
open PySem.Manifest renaming signature? → YK
open PySem.W.WTm renaming holds → YY
open PySem.StrLaws renaming At → Y7
open PySem.W.WShape renaming has → Zi, hasItems → ZM, hasAll → aal
open PySem.P renaming add_int → Zy
open PySem.Builtin.Frozenset renaming updateFrom → aah
open PySem.W.KatTups renaming cons → aau
open Prod.mk renaming inj → aaG
open PySem.Challenge renaming rw_ph0175_01 → aaN, pw_ph0175_01 → aaO
open PySem.Heap.IsListIter renaming typeIs → aaP
namespace Mine.Internal
set_option compiler.extract_closed false
set_option genInjectivity false
set_option genSizeOf false
set_option genCtorIdx false
set_option maxRecDepth 1000000
def d5(k:Lean.Name)(a:List Tm):Tm:= .node .none k a.toArray
def pK(a:List Tm):Tm:=d5 `Lean.Parser.Tactic.tacticSeq [d5 `Lean.Parser.Tactic.tacticSeq1Indented [d5 `null a]]
def iU(s:String):Tm:= .atom .none s
def aD:Tm:=pK [d5 `Lean.Parser.Tactic.decide [iU "decide",d5 `Lean.Parser.Tactic.optConfig [d5 `null []]]]
def aI:Tm:=pK [d5 `Lean.Parser.Tactic.intros [iU "intros",d5 `null []],iU ";",d5 `Lean.Parser.Tactic.tacticRfl [iU "rfl"]]
def aK:Tm:=pK [d5 `tacticKernel_rfl [iU "kernel_rfl"]]
def aE:Tm:=pK [d5 `Lean.Parser.Tactic.decide [iU "decide",d5 `Lean.Parser.Tactic.optConfig [d5 `null [d5 `Lean.Parser.Tactic.configItem [d5 `Lean.Parser.Tactic.posConfigItem [iU "+", .ident .none "kernel".toRawSubstring `kernel []]]]]]]
noncomputable abbrev pw:Program:=aaO
noncomputable abbrev r8:OpenLaw:=aaN
noncomputable def sM(i:Nat):U3:=pw.main.body.getD i default
noncomputable def sC(i:Nat):U3:=(match sM 7 with| .ClassDef _ _ _ b .. =>b|_=>[]).getD i default
noncomputable def cO(n q:Rj)(t L ac kw fl r:Nat)(lam:Bool)(u:Nat):Obj:=
 {cls:= .type "code",data:= .fields (#[.str n t, .str q (t+1), .str "/claim/cut.py" (t+2), .int L 0, .int ac 0, .int 0 0, .int kw 0, .int fl 0, .ref r, .bool true, .int 276 0, .ref (r+1), .none]++
   (match lam with|true=>#[.none, .none, .ref (r+2)]|false=>#[.ref (r+2), .ref (r+3), .ref (r+4)])++#[.int u 0, .int L 0, .str "/claim/cut.py" (u+1)])}
noncomputable def er(s:U3)(q:Rj)(df kd:Value)(m:Rj×Nat)(t L ac kw fl r:Nat)(lam:Bool)(u:Nat):Frag:=
 match s with
 | .FunctionDef n a b _ _ _ sc .. =>(fun ca=>[(ca,cO n q t L ac kw fl r lam u),(ca+1,{cls:= .type "function",data:= .func ⟨n,q,a, .stmts b,sc,3,[],df,kd, .none, .str m.1 m.2,none, .ref ca, .none,0⟩})]) (r+(match lam with|true=>3|false=>5))
 |_=>[]
noncomputable def Ap:Rj×Nat:=("cpy313.xml.etree.ElementTree",289)
noncomputable def Jp:Rj×Nat:=("cpy313.pstats",539)
noncomputable def Aq:Rj×Nat:=("law_ph0175_01",587)
noncomputable def dE(P:Params)(k:Rj)(t:Nat)(v:Value):ZI:=⟨PyData.keyHash P k, .str k t,v⟩
noncomputable def dO(l:List ZI)(n:Nat):Obj:={cls:= .type "dict",data:= .dict l.toArray n}
noncomputable def tO(l:List Value):Obj:={cls:= .type "tuple",data:= .seq l.toArray}
noncomputable def K0(P:Params):Frag:=[
 er (sC 0) "C14NWriterTarget.__init__" .none (.ref 60) Ap 379 13 2 7 3 61 false 391,
 er (sC 1) "C14NWriterTarget._iter_namespaces" (.ref 68) .none Ap 394 41 3 0 35 69 false 401,
 er (sC 3) "C14NWriterTarget._qname" (.ref 83) .none Ap 416 53 3 0 3 84 false 426,
 er (sC 4) "C14NWriterTarget.data" .none .none Ap 429 80 2 0 3 91 false 434,
 er (sC 5) "C14NWriterTarget._flush" (.ref 99) .none Ap 439 84 2 0 3 100 false 447,
 er (sC 7) "C14NWriterTarget.start" .none .none Ap 459 101 3 0 3 114 false 466,
 er (sC 8) "C14NWriterTarget._start" (.ref 121) .none Ap 469 114 5 0 3 122 true 472,
 er (sC 9) "C14NWriterTarget.end" .none .none Ap 475 159 2 0 3 127 false 480,
 er (sM 8) "_escape_cdata_c14n" .none .none Ap 525 176 1 0 3 155 false 529,
 er (sM 9) "_escape_attrib_c14n" .none .none Ap 532 189 1 0 3 162 false 536,
 er (sM 11) "func_std_string" .none .none Jp 541 207 1 0 3 169 false 546,
 er (sM 12) "add_func_stats" .none .none Jp 549 216 2 0 3 176 false 564,
 er (sM 13) "add_callers" .none .none Jp 567 220 2 0 3 183 false 575,
 er (sM 14) "count_calls" .none .none Jp 578 233 1 0 3 190 false 584,
 er (sM 16) "_law_function" .none .none Aq 589 239 1 0 3 197 false 599,
 er (sM 17) "_law_run" .none .none Aq 602 247 3 0 3 204 true 605,
 er (sM 18) "_law_plain" .none .none Aq 608 265 2 0 3 209 true 611,
 er (sM 19) "_law_value" .none .none Aq 614 271 1 0 3 214 false 618,
 er (sM 20) "_law_text" .none .none Aq 621 273 1 0 3 221 false 625,
 er (sM 21) "_law_read" .none .none Aq 628 275 1 0 3 228 true 631,
 er (sM 22) "_law_profile" .none .none Aq 634 315 2 0 3 233 true 637,
 er (sM 23) "_law_firsts" .none .none Aq 640 322 1 0 3 238 true 643,
 er (sM 24) "_law_due" .none .none Aq 646 324 3 0 3 243 true 649,
 er (sM 25) "law" .none .none Aq 652 340 1 0 3 248 true 655].flatten++[
 (3,dO [(dE P "__name__" 165 (.str "law_ph0175_01" 587)),(dE P "__doc__" 166 .none),(dE P "__package__" 167 .none),(dE P "__loader__" 168 (.builtin "__main__.__loader__#opaque")),(dE P "__spec__" 169 .none),(dE P "__annotations__" 170 (.ref 6)),(dE P "__builtins__" 171 (.ref 4)),(dE P "__file__" 173 (.str "/claim/cut.py" 172)),(dE P "__cached__" 174 .none),(dE P "_sre" 275 (.ref 12)),(dE P "_wall" 288 (.ref 38)),(dE P "_twin_re_1" 328 (.ref 43)),(dE P "_namespace_map" 350 (.ref 44)),(dE P "_raise_serialization_error" 357 (.ref 51)),(dE P "_looks_like_prefix_name" 359 (.ref 52)),(dE P "C14NWriterTarget" 524 (.ref 150)),(dE P "_escape_cdata_c14n" 531 (.ref 161)),(dE P "_escape_attrib_c14n" 538 (.ref 168)),(dE P "func_std_string" 548 (.ref 175)),(dE P "add_func_stats" 566 (.ref 182)),(dE P "add_callers" 577 (.ref 189)),(dE P "count_calls" 586 (.ref 196)),(dE P "_law_function" 601 (.ref 203)),(dE P "_law_run" 607 (.ref 208)),(dE P "_law_plain" 613 (.ref 213)),(dE P "_law_value" 620 (.ref 220)),(dE P "_law_text" 627 (.ref 227)),(dE P "_law_read" 633 (.ref 232)),(dE P "_law_profile" 639 (.ref 237)),(dE P "_law_firsts" 645 (.ref 242)),(dE P "_law_due" 651 (.ref 247)),(dE P "law" 657 (.ref 252))] 32),
 (149,dO [(dE P "__module__" 367 (.str "cpy313.xml.etree.ElementTree" 289)),(dE P "__firstlineno__" 371 (.int 11 370)),(dE P "__init__" 393 (.ref 67)),(dE P "_iter_namespaces" 403 (.ref 75)),(dE P "_resolve_prefix_name" 415 (.ref 82)),(dE P "_qname" 428 (.ref 90)),(dE P "data" 436 (.ref 97)),(dE P "_flush" 449 (.ref 106)),(dE P "start_ns" 458 (.ref 113)),(dE P "start" 468 (.ref 120)),(dE P "_start" 474 (.ref 126)),(dE P "end" 482 (.ref 133)),(dE P "comment" 490 (.ref 140)),(dE P "pi" 499 (.ref 147)),(dE P "__static_attributes__" 517 (.ref 148)),(dE P "__dict__" 519 (.ref 151)),(dE P "__weakref__" 521 (.ref 152)),(dE P "__doc__" 522 .none)] 4),
 (60,dO [(dE P "with_comments" 372 (.bool false)),(dE P "strip_text" 373 (.bool false)),(dE P "rewrite_prefixes" 374 (.bool false)),(dE P "qname_aware_tags" 375 .none),(dE P "qname_aware_attrs" 376 .none),(dE P "exclude_attrs" 377 .none),(dE P "exclude_tags" 378 .none)] 7),
 (68,tO [.type "reversed"]),
 (83,tO [.none]),
 (99,tO [.ref 98]),
 (121,tO [.none]),
 (52,{cls:= .type "builtin_function_or_method",data:= .fields #[.builtin "re.Pattern.match", .ref 43]}),
 (98,{cls:= .type "builtin_function_or_method",data:= .fields #[.builtin "str.join", .str "" 437]}),
 (150,{cls:= .type "type",data:= .cls ⟨"C14NWriterTarget",[.type "object"],[.ref 150, .type "object"],149,"C14NWriterTarget",true,[],[],false,none,false⟩,slots:=#[none,none,some (.str "C14NWriterTarget" 360),some (.str "C14NWriterTarget" 368),some (.builtin "object.__new__"),some (.bool true)]})]
noncomputable def A0:List TD:=[66,67,74,75,89,90,96,97,105,106,119,120,125,126,132,133,160,161,167,168,174,175,181,182,188,189,195,196,202,203,207,208,212,213,219,220,226,227,231,232,236,237,241,242,246,247,251,252,3,149,60,68,83,99,121,52,98,150]
noncomputable def q0:Program:={pw with main:={pw.main with body:=[sM 25]}}
noncomputable def k9:List Rj:=["_sre","_wall","_twin_re_1","_namespace_map","_raise_serialization_error","_looks_like_prefix_name","C14NWriterTarget","_escape_cdata_c14n","_escape_attrib_c14n","func_std_string","add_func_stats","add_callers","count_calls","_law_function","_law_run","_law_plain","_law_value","_law_text","_law_read","_law_profile","_law_firsts","_law_due"]
theorem eK(P:Params):A0=(K0 P).map (·.1):=by kernel_rfl
noncomputable def gB:Hook:=kmHook K0 A0 eK [123,184]
theorem Kb:r8.wellSaid=true:=by decide+kernel
theorem Gi:LeftO pw q0 k9 (fun s=>xlAt q0 [] s&&recOk r8.row.toRowW.records s) gB.obs gB.val 3000:=LeftO.of_split "special-get-raises" fun w=>by kernel_rfl
noncomputable def Gj:DefRec:=match sM 25 with
 | .FunctionDef n a b _ _ _ sc _ _ p=>{name:=n,params:=a,body:=b,scope:=sc,pos:=p}
 |_=>{name:="",params:=default,body:=[],scope:=default,pos:=default}
theorem hd(call:WalkO q0 k9 (XL q0 []) gB.says r8.row.toRowW Gj [] fun f vs=>PySem.call f vs):r8.Holds:=
 holds_law Kb fun rs=>holds_open (q:=q0) (loose:=k9) (Xt:=fun s=>xlAt q0 [] s&&recOk r8.row.toRowW.records s) (XP:=XL q0 []) (Yf:=gB.obs) (Ya:=gB.val) (YP:=gB.says) (N:=3000) Gi gB.of gB.keeps (fun s e=>xl_of s (Vx.mp e).1) XL.keeps
  (by kernel_rfl) (by kernel_rfl) (by kernel_rfl) (fun s e=>recFacts_of (Vx.mp e).2) (by kernel_rfl) rs (by decide+kernel) ⟨rfl,rfl,rfl,rfl,rfl,by decide+kernel⟩ ⟨[.list []],by decide+kernel,by decide+kernel⟩ call
noncomputable def Ar(h:Vi)(a:TD):Option Obj:=if a=123∨a=184 then none else h.get? a
noncomputable abbrev Cx:=World×(TD→Option Obj)×(Rj→Option Value)
noncomputable def Good(c:Cx):Prop:=WalkO q0 k9 (fun m h=>m=c.2.2∧XL q0 [] m h) (fun v h=>v=c.1∧Ar h=c.2.1∧gB.says v h) r8.row.toRowW Gj [] fun f vs=>PySem.call f vs
theorem Oc:Nonempty Cx:=⟨(aWorld 0,fun _=>none,fun _=>none)⟩
noncomputable def cx:Cx:=@Classical.epsilon Cx Oc fun c=>¬Good c
noncomputable def w:World:=cx.1
noncomputable def bo:TD→Option Obj:=cx.2.1
noncomputable def mg:Rj→Option Value:=cx.2.2
noncomputable abbrev prog:Program:=pw
theorem good(h:Good cx):r8.Holds:=hd fun w xz ch mg mb G Y=>(QK fun n=>@Classical.epsilon_spec Cx (fun c=>¬Good c) ⟨_,n⟩ h:Good (w,Ar ch.heap,mg)) w xz ch mg mb {G with X:=⟨rfl,G.X⟩} ⟨rfl,rfl,Y⟩
inductive CD (p:α→β→Prop):Prop
 |intro a b (h:p a b)
inductive DW (p:α→β→γ→Prop):Prop
 |intro a b c (h:p a b c)
inductive Od (p:α→β→γ→δ→Prop):Prop
 |intro a b c d (h:p a b c d)
inductive Oe (p:α→β→γ→δ→ε→Prop):Prop
 |intro a b c d e (h:p a b c d e)
inductive Of (p:α→β→γ→δ→ε→ζ→η→θ→Prop):Prop
 |intro a b c d e f g i (h:p a b c d e f g i)
structure m7(a b c:Prop):Prop where
 x:a
 y:b
 z:c
structure pL(a b c d:Prop):Prop where
 x:a
 y:b
 z:c
 u:d
structure Gk(a b c d e f:Prop):Prop where
 x:a
 y:b
 z:c
 u:d
 v:e
 w:f
@[elab_as_elim] theorem J {P:α→Prop} (h:a=b) (x:P b):P a:=Eq.mpr (congrArg P h) x
@[elab_as_elim] theorem aO {a b} {P:α→Prop} (h:b=a) (x:P b):P a:=Eq.mpr (congrArg P h.symm) x
@[elab_as_elim] theorem bl {_:Decidable c} {α} {a b} {P:α→Prop} (h:c→P a) (k:¬c→P b):P (ite c a b):=iteInduction h k
theorem kr{p:Prop}(h:autoParam p aK):p:=h
theorem dc{p:Prop}(h:autoParam p aD):p:=h
def aR:Tm:=pK [d5 `Lean.Parser.Tactic.tacticRfl [iU "rfl"]]
theorem CE(k n:Nat):(max 0 (min (k:Int) n)).toNat=min k n:=by
 rcases XD k n with h|h
 ·rw[aaK (XE.mpr h),Yb h,aav (Ud _)];rfl
 ·rw[Int.min_eq_right (XE.mpr h),XV h,aav (Ud _)];rfl
theorem Gl(k n:Nat):(max 0 (min (-(k:Int)+n) n)).toNat=n-k:=by
 rw[Ug,←Xe,aaK (Int.sub_le_self _ (Ud _)),Int.max_comm];exact(Int.toNat_sub n k)▸(Int.toNat_eq_max ((n:Int)-k)▸rfl)
theorem ct(a:Int){b:Nat}(hb:0<b):a.fmod b=((a.fmod b).toNat:Int)∧(a.fmod b).toNat<b:=by
 have h:=(Int.toNat_of_nonneg (Int.fmod_nonneg_of_pos a (Vg.mpr hb))).symm;exact⟨h,Vg.mp (h▸Int.fmod_lt_of_pos a (Vg.mpr hb))⟩
theorem CH{a:Int}(h:(a.fmod (3:Nat)).toNat=0):∃k,a=3*k:=by
 have:=(ct a (b:=3) (by decide)).1;exact YV (this.trans (congrArg _ h))
theorem nine(d:Int):d.fmod 9=0↔(d.fmod (3:Nat)).toNat=0∧((d.fdiv 3).fmod (3:Nat)).toNat=0:=by
 constructor
 ·intro h;obtain⟨k,rfl⟩:=YV h;rw[show(9:Int)*k=3*(3*k) from Int.mul_assoc 3 3 k];exact⟨congrArg _ (Xf 3 (3*k)),by rw[YL _ (by decide)];exact congrArg _ (Xf 3 k)⟩
 ·intro⟨h1,h2⟩;obtain⟨k,rfl⟩:=CH h1;rw[YL _ (by decide)] at h2;obtain⟨j,rfl⟩:=CH h2;exact(Int.mul_assoc 3 3 j)▸Xf 9 j
theorem xA{n k:Nat}(h:k≤n):-(k:Int)=((n-k:Nat):Int)-n:=by
 rw[Int.ofNat_sub h,Xe,Xe,Int.add_right_comm,Int.add_right_neg,Int.zero_add]
theorem AL{y:Int}{n:Nat}(e:y=n)(h:n<10):(decide (y< -(2^63:Int))||decide (y≥2^63))=false:=by
 subst e;rw[decide_eq_false (Int.not_lt.mpr (Int.le_trans (by decide) (Ud n))),decide_eq_false (Int.not_le.mpr (Int.lt_of_lt_of_le (Vg.mpr h) (by decide)))];rfl
def DX(k:String):Tm:=d5 `group [iU "|",pK [d5 `Lean.Parser.Tactic.exact [iU "exact",d5 `Lean.Parser.Term.app [.ident .none "Nat.le_add_right".toRawSubstring `Nat.le_add_right [],d5 `null [d5 `Lean.Parser.Term.hole [iU "_"],d5 `num [iU k]]]]]]
def aS:Tm:=pK [d5 `Lean.Parser.Tactic.first [iU "first",d5 `null [DX "1",DX "2",DX "3"]]]
def aN:Tm:=pK [d5 `Lean.Parser.Tactic.exact [iU "exact", .ident .none "Nat.le.refl".toRawSubstring `Nat.le.refl []]]
theorem eG{n k m:Nat}(h:n≤k)(hk:autoParam (k≤m) aD):n≤m:=QU h hk
theorem Kc{n k m:Nat}(h:n≤k)(hk:autoParam (k<m) aD):n<m:=VN h hk
theorem gy(h:n≤k)(hk:autoParam (k≤16777216) aD):n≤QW:=Rv▸QU h hk
theorem As(h:n≤k)(hk:autoParam (k<16777216) aD):n<QW:=Rv▸VN h hk
theorem ao{a b c:Nat}(h:a≤b)(k:b≤c):a≤c:=QU h k
theorem a9{a b c d:Nat}(h:a≤b)(k:c≤d):a+c≤b+d:=Ve h k
theorem adr{a b c:Nat}(h:a≤b):a+c≤b+c:=SW h c
theorem FR{a b c:Nat}(h:a≤b):c+a≤c+b:=Zx h c
theorem gh{a b c:Nat}(h:a≤b):a≤b+c:=QU h (RW b c)
theorem Gm{a b c:Nat}(h:a≤c):a≤b+c:=QU h (VD c b)
theorem lb{a b c:Nat}(h:a+c≤b):a≤b:=QU (RW a c) h
theorem DY{a b c:Nat}(h:c+a≤b):a≤b:=QU (VD a c) h
theorem ik{a b c d:Nat}(h:a+c+b≤d):a+b+c≤d:=J (UZ ..) ((h))
theorem AM{a b c d:Nat}(h:d≤a+c+b):d≤a+b+c:=J (UZ ..) ((h))
theorem Jq{a b c d:Nat}(h:a+(b+c)≤d):a+b+c≤d:=J (US ..) ((h))
theorem Jr{a b c d:Nat}(h:d≤a+(b+c)):d≤a+b+c:=J (US ..) ((h))
theorem Og{a b c d:Nat}(h:d≤a+b+c):d≤a+(b+c):=aO (US ..) ((h))
theorem vy{a b c:Nat}(h:b+a≤c):a+b≤c:=J (SK ..) ((h))
theorem Js{a b c:Nat}(h:c≤b+a):c≤a+b:=J (SK ..) ((h))
theorem bC{a b:Nat}(h:a=b):a≤b:=Uf h
theorem lg{a b:Nat}(h:b=a):a≤b:=Uf h.symm
theorem r9{a b:Nat}(h:a≤b)(k:b≤a):a=b:=aaH h k
theorem Qm(h:¬a≤b):b+1≤a:=Nat.not_le.mp h
theorem AN{a b:Nat}(h:¬a<b):b≤a:=Tw.mp h
theorem len{a b}(h:b+1≤a):¬a≤b:=Nat.not_le.mpr h
theorem Jt{a b:Nat}(h:b≤a):¬a<b:=Tw.mpr h
theorem FS{a b:Nat}(h:a<b):a≠b:=Sw h
theorem neg{a b:Nat}(h:b<a):a≠b:=SJ h
theorem Ju{a b c:Nat}(h:a≤b+c):a-c≤b:=Nat.sub_le_of_le_add h
theorem ML{a b c:Nat}(h:a+c≤b):a≤b-c:=Zn h
theorem Kd{a b c:Nat}(h:c+a≤b):a≤b-c:=Zn (J (SK ..) ((h)))
theorem FT{a b c:Nat}(h:a<b-c):a+c<b:=Nat.add_lt_of_lt_sub h
theorem iF(h:k≤16777216):k≤QW:=Rv▸h
theorem oc{a b:Nat}(h:a≤b):a≤(b:Int):=XE.mpr h
theorem ol{a b:Nat}(h:a<b):a<(b:Int):=Vg.mpr h
theorem co{a b:Nat}(h:a≤(b:Int)):a≤b:=XE.mp h
theorem lo{a b:Nat}(h:a<(b:Int)):a<b:=Vg.mp h
theorem FU{a:Nat}:¬(a:Int)<0:=Int.not_lt.mpr (Ud a)
theorem nB{a b c:Nat}(h:a≤b):c*a≤c*b:=Zw c h
theorem Oh{a b c:Nat}(h:a≤b):a*c≤b*c:=Zm c h
theorem Jv{a b c:Nat}:a+(b+c)=a+b+c:=(US a b c).symm
theorem Ke{a b c:Nat}:a+b+c=a+c+b:=UZ a b c
theorem MM{a b:Nat}:a+b=b+a:=SK a b
theorem MN{a b:Nat}:a+b-a=b:=Nat.add_sub_cancel_left a b
theorem Oi{a b:Nat}:a+b-b=a:=UY a b
theorem Oj(h:a≠0):0<a:=ZO h
theorem Gn{a b}(h:0=b-a):b≤a:=Y9 h.symm
theorem Kf{a b}(h:b-a=0):b≤a:=Y9 h
theorem Gp{a b c}(h:c+1=b-a):a+1≤b:=Z3 (h▸Sh c)
theorem MO{a b c}(h:b-a=c+1):a+1≤b:=Z3 (h▸Sh c)
theorem Gq{a b c}(h:c+1=b-a):c=b-(a+1):=by refine J (aaZ ..) (aO (h ..) ?_);rfl
theorem MP{a b c}(h:b-a=c+1):b-(a+1)=c:=by refine J (aaZ ..) (J (h ..) ?_);rfl
theorem MQ{a b:Nat}(h:a≤b):b=b-a+a:=(ZN h).symm
theorem Jw{a b:Nat}(h:a≤b):b-a+a=b:=ZN h
theorem elt{a b c:Nat}(h:a≤b)(k:b<c):a<c:=VN h k
theorem Jx{a b c:Nat}(h:a<b)(k:b≤c):a<c:=RM h k
theorem CJ{a b:Nat}(h:a<b):a≤b:=SU h
theorem Gs(h:a+1≤b):a<b:=h
theorem MR(h:a<b):a+1≤b:=h
theorem MS(h:a≤b):a<b+1:=Nat.lt_succ_of_le h
theorem Ok(h:a<b+1):a≤b:=Z4 h
theorem all{a b c:Nat}(h:a<b):c+a<c+b:=UH h c
theorem ui{a b c:Nat}(h:a+c<b):a<b:=VN (RW a c) h
theorem Ol{a b c d:Nat}(h:a+c+b<d):a+b+c<d:=J (UZ ..) ((h))
theorem Om{a b c d:Nat}(h:d<a+c+b):d<a+b+c:=AM h
theorem Gu(h:¬a<b)(k:a<b+1):a=b:=aaH (Z4 k) (Tw.mp h)
theorem MT(h:a+1≤b):a≤b:=TQ h
theorem jy(h:Runs M Γ p t fs s e s'):s.toks≤s'.toks:=by
 induction h<;>(try simp only[Ro.setGen] at*)<;>lia
theorem sa(h:Wakes M Γ p g r s res s'):s.toks≤s'.toks:=by
 unfold Wakes at h;revert h;cases s.gens[g]? with
 |none=>exact fun h=>h.elim
 |some q=>
  cases q with
  |fresh c=>
   cases r with
   |send v=>
    cases v with
    |none=>rintro⟨e,s1,h,_,_,rfl⟩;exact(jy h:)
    |_=>exact fun h=>h.2▸QM _
   |throw x=>exact fun h=>h.2▸QM _
  |suspended=>rintro⟨e,s1,h,_,_,rfl⟩;exact(jy h:)
  |_=>exact fun h=>h.2▸QM _
theorem wp_toks:∀t(Q:α→Pos→Ro→Prop) E p s,
  Yp.wp M Γ t Q E p s→Yp.wp M Γ t (fun a p' s'=>s.toks≤s'.toks∧Q a p' s') E p s:=by
 have key:∀t n(Q:α→Pos→Ro→Prop) E p s,n≤s.toks→
   Yp.wp M Γ t Q E p s→Yp.wp M Γ t (fun a p' s'=>n≤s'.toks∧Q a p' s') E p s:=by
  intro t
  induction t with
  |pure a=>exact fun n Q E p s hn h=>⟨hn,h⟩
  |raise e=>exact fun n Q E p s hn h=>h
  |unsupported=>exact fun n Q E p s hn h=>h
  |finish=>exact fun n Q E p s hn h=>h
  |rule tag k ih=>exact fun n Q E p s hn h=>ih () n Q E p s hn h
  |«at» p' k ih=>exact fun n Q E p s hn h=>ih () n Q E p' s hn h
  |load a part k ih=>exact fun n Q E p s hn ⟨o,ho,h⟩=>⟨o,ho,ih o n Q E p s hn h⟩
  |update a part f k ih=>exact fun n Q E p s hn h=>⟨h.1,ih () n Q E p _ hn h.2⟩
  |alloc o k ih=>exact fun n Q E p s hn h=>ih _ n Q E p _ hn h
  |loadIfAlive a k ih=>exact fun n Q E p s hn h=>ih _ n Q E p s hn h
  |point l k ih=>exact fun n Q E p s hn h=>ih () n Q E p s hn h
  |register=>exact fun n Q E p s hn h=>h
  |fresh k ih=>exact fun n Q E p s hn h=>ih _ n Q E p _ (RV hn) h
  |ask k ih=>exact fun n Q E p s hn h=>ih _ n Q E p s hn h
  |choose src m k ih=>exact fun n Q E p s hn h=>⟨h.1,ih _ n Q E p _ hn h.2⟩
  |os q l k ih=>exact fun n Q E p s hn h=>ih _ n Q E p _ hn h
  |call c h g l k ih=>exact fun n Q E p s hn ⟨r,s1,hr,h⟩=>⟨r,s1,hr,ih r n Q E p s1 (QU hn (jy hr)) h⟩
  |handled own k ih=>exact fun n Q E p s hn h=>ih _ n Q E p s hn h
  |newGen c k ih=>exact fun n Q E p s hn h=>ih _ n Q E p _ hn h
  |genState g k ih=>exact fun n Q E p s hn ⟨st,hs,h⟩=>⟨st,hs,ih _ n Q E p s hn h⟩
  |resume g r l k ih=>exact fun n Q E p s hn ⟨res,s1,hw,h⟩=>⟨res,s1,hw,ih res n Q E p s1 (QU hn (sa hw)) h⟩
  |yield=>exact fun n Q E p s hn h=>h
  |stack k ih=>exact fun n Q E p s hn h=>ih _ n Q E p s hn h
  |fork=>exact fun n Q E p s hn h=>h
  |thread k ih=>exact fun n Q E p s hn h=>ih _ n Q E p s hn h
  |await=>exact fun n Q E p s hn h=>h
 exact fun t Q E p s h=>key t s.toks Q E p s (QM _) h
theorem wpAny_toks{Q:α→Ro→Prop}{E}{s}
  (h:wpAny M A t (fun a s'=>s.toks≤s'.toks→Q a s') E s):wpAny M A t Q E s:=fun Γ p FV=>
 Yp.wp_mono M Γ t (fun _ _ _ h'=>h'.2 h'.1) (fun _ _ _ h'=>h') p s (wp_toks t _ _ p s (h Γ p FV))
section
variable{α β:Type}{A:Ta}{E:Value→Ro→Prop}{s:Ro}{Q:β→Ro→Prop}{a:TD}{o:Obj}{vs:Array Value}{i n:Nat}{x v:Value}{T U:String}{b:Bool}
theorem bP{a}{f:α→Yp β}(h:wpAny (model prog w) A (f a) Q E s):wpAny (model prog w) A (pure a>>=f) Q E s:=QL (QO h)
theorem bE{a}{f:α→Yp β}(e:t=pure a)(h:wpAny (model prog w) A (f a) Q E s):wpAny (model prog w) A (t>>=f) Q E s:=QL (Sq e h)
theorem bF(ho:s.heap.get? a=some o)(hd:o.data= .fields vs)(hx:vs[i]?=some x)(h:wpAny (model prog w) A (f x) Q E s):wpAny (model prog w) A (field (.ref a) i>>=f) Q E s:=QL (YD ho hd hx h)
theorem bA{f}(h:wpAny (model prog w) A (f ()) Q E s):wpAny (model prog w) A (standAt pos>>=f) Q E s:=QL (wpAny_standAt h)
theorem bR{f}(h:wpAny (model prog w) A (f ()) Q E s):wpAny (model prog w) A (rule tag>>=f) Q E s:=QL (wpAny_rule h)
theorem bS(ho:s.heap.get? a=some o)(hd:o.data= .seq items n)(h:wpAny (model prog w) A (f (some items)) Q E s):wpAny (model prog w) A (seqItems? (.ref a)>>=f) Q E s:=QL (wpAny_seqItems ho hd h)
theorem bT(ht:s.TypeIs v T)(h:wpAny (model prog w) A (f (.type T)) Q E s):wpAny (model prog w) A (typeOf v>>=f) Q E s:=QL (ZR ht h)
theorem bL(ho:s.heap.get? a=some o)(h:wpAny (model prog w) A (f o) Q E s):wpAny (model prog w) A (load a>>=f) Q E s:=QL (wpAny_load ho h)
theorem bI(ht:s.TypeIs v T)(e:WC (.type T) (.type U)=pure b)(h:wpAny (model prog w) A (f b) Q E s):wpAny (model prog w) A (isInstance v (.type U)>>=f) Q E s:=QL (Wt ht e h)
theorem bG(h:wpAny (model prog w) A (f ⟨prog,w.params⟩) Q E s):wpAny (model prog w) A (ask>>=f) Q E s:=QL (wpAny_askSetting h)
theorem bY(ht:s.TypeIs v T)(e:Vj (.type T) name=pure r)(h:wpAny (model prog w) A (f r) Q E s):wpAny (model prog w) A (specialOf v name>>=f) Q E s:=QL (wpAny_specialOf ht e h)
theorem bH(h:wpAny (model prog w) A (f A.handled) Q E s):wpAny (model prog w) A (handled>>=f) Q E s:=QL (wpAny_handled h)
theorem bO{f}(h:wpAny (model prog w) A (f ()) Q E s):wpAny (model prog w) A (letGo Jy keep>>=f) Q E s:=QL (wpAny_letGo h)
theorem bV(ho:s.heap.get? a=some o)(hd:o.data= .fields vs)(h:wpAny (model prog w) A (f vs) Q E s):wpAny (model prog w) A (fieldsOf (.ref a)>>=f) Q E s:=QL (wpAny_fieldsOf ho hd h)
theorem bU(ho:s.heap.get? a=some o)(hd:o.data= .fields vs)(hi:i<vs.size)(h:wpAny (model prog w) A (f ()) Q E {s with heap:=s.heap.update a (V3 fun l=>l.setIfInBounds i x)}):wpAny (model prog w) A (setField (.ref a) i x>>=f) Q E s:=QL (wpAny_setField ho hd hi h)
theorem bW(ho:s.heap.get? a=some {cls:=cls,data:= .fields vs})(hi:i<vs.size)(h:∀h',h'.get? a=some {cls:=cls,data:= .fields (vs.setIfInBounds i x)}→Sm a s.heap h'→wpAny (model prog w) A (f ()) Q E {s with heap:=h'}):wpAny (model prog w) A (setField (.ref a) i x>>=f) Q E s:=QL (XS ho hi h)
theorem bZ(ho:s.heap.get? a=some o)(hd:o.data= .set es ep t)(hf:t.fits es.size=true)(h:wpAny (model prog w) A (f (es,ep,t)) Q E s):wpAny (model prog w) A (setState a>>=f) Q E s:=QL (wpAny_setState_of ho hd hf h)
theorem bN{dict}{f}(h:wpAny (model prog w) A (f (.ref s.heap.objs.size)) Q E {s with heap:=s.heap.push {cls:= .type T,dict:=dict,data:=data}})(hz:sizeOk data):wpAny (model prog w) A (newObj (.type T) data dict>>=f) Q E s:=QL (R5 h hz)
end
inductive V where
 |none:V
 |bool (b:Bool):V
 |int (i:Int):V
 |str (x:Rj):V
 |lit (x:Rj):V
 |tup (l:List V):V
 |lst (l:List V):V
 |bw (l:List (Rj×V)):V
 |ref (i:Nat):V
 |st (v:Value):V
 |bm (f:String) (self:V):V
 |pm (f:TD) (self:V):V
 |vw (T:String) (x:V):V
 |dst (l:List Rj):V
 |raw (P:Obj→Value→Prop) (x:V):V
structure Wd where
 φ:List TD
 I:TD→Option Obj
 C:Tok→Option Rj
noncomputable def sq(c:String)(vs:List Value)(n:Nat):Obj:={cls:= .type c,data:= .seq vs.toArray n}
noncomputable def dq(es:List ZI)(n:Nat):Obj:={cls:= .type "dict",data:= .dict es.toArray n}
noncomputable def bq(id:String)(u:Value):Obj:={cls:= .type "builtin_function_or_method",data:= .fields #[.builtin id,u]}
noncomputable def wq(T:String)(u:Value):Obj:={cls:= .type T,data:= .fields #[u]}
noncomputable def mq(f:TD)(u:Value):Obj:={cls:= .type "method",data:= .fields #[.ref f,u]}
noncomputable def DZ(es:Array (Int×Value))(t:WI)(l:List Rj):Prop:=
 (∃ps:List (Rj×Tok),es.toList=ps.map (fun p=>(VO w p.1,RA p.1 p.2))∧(ps.map (·.1)).Perm l)∧t.fits es.size=true∧t.led=(!w.params.followText "set-order")∧t.plain=false
noncomputable def tq(es:Array (Int×Value))(ep:Nat)(t:WI):Obj:={cls:= .type "set",dict:=none,data:= .set es ep t,slots:=#[]}
mutual
noncomputable def Rel(W:Wd):V→Value→Prop
 | .none,v=>v= .none
 | .bool b,v=>v= .bool b
 | .int i,v=>∃t,v= .int i t
 | .str x,v=>∃t,v= .str x t∧x.length≤QW
 | .lit x,v=>∃t,m7 (v= .str x t) (W.C t=some x) (x.length≤QW)
 | .tup l,v=>DW fun a vs n=>pL (v= .ref a) (W.I a=some (sq "tuple" vs n)) (aj W l vs) (l.length≤QW)
 | .lst l,v=>DW fun a vs n=>pL (v= .ref a) (W.I a=some (sq "list" vs n)) (aj W l vs) (l.length≤QW)
 | .bw l,v=>DW fun a es n=>Gk (v= .ref a) (W.I a=some (dq es n)) (d6 W l es) (l.map (·.1)).Nodup (l.length≤QW) ((a==SR)=false)
 | .ref i,v=>∃a,v= .ref a∧W.φ[i]?=some a
 | .st u,v=>v=u
 | .bm f x,v=>CD fun a u=>m7 (v= .ref a) (W.I a=some (bq f u)) (Rel W x u)
 | .pm f x,v=>CD fun a u=>m7 (v= .ref a) (W.I a=some (mq f u)) (Rel W x u)
 | .vw T x,v=>CD fun a u=>m7 (v= .ref a) (W.I a=some (wq T u)) (Rel W x u)
 | .dst l,v=>Od fun a es ep t=>pL (v= .ref a) (W.I a=some (tq es ep t)) (DZ es t l) (∀x∈l,x.length≤QW)
 | .raw P x,v=>DW fun a o u=>pL (v= .ref a) (W.I a=some o) (P o u) (Rel W x u)
noncomputable def aj(W:Wd):List V→List Value→Prop
 |[],vs=>vs=[]
 |x::l,vs=>CD fun v r=>m7 (vs=v::r) (Rel W x v) (aj W l r)
noncomputable def d6(W:Wd):List (Rj×V)→List ZI→Prop
 |[],es=>es=[]
 |(k,x)::l,es=>DW fun t v r=>m7 (es=⟨VO w k, .str k t,v⟩::r) (Rel W x v) (d6 W l r)
end
noncomputable def Wd.le(W W':Wd):Prop:=W.φ<+:W'.φ∧(∀a o,W.I a=some o→W'.I a=some o)∧∀t x,W.C t=some x→W'.C t=some x
theorem Wd.le_refl(W:Wd):W.le W:=⟨XJ _,fun _ _ h=>h,fun _ _ h=>h⟩
theorem Wd.le_trans{W W' nC:Wd}(a:W.le W')(b:W'.le nC):W.le nC:=⟨a.1.trans b.1,fun _ _ h=>b.2.1 _ _ (a.2.1 _ _ h),fun _ _ h=>b.2.2 _ _ (a.2.2 _ _ h)⟩
theorem Wd.eM{W W':Wd}(h:W.le W'){i:Nat}{a}(e:W.φ[i]?=some a):W'.φ[i]?=some a:=by
 obtain⟨t,ht⟩:=h.1;exact aO ht (J (RC ((QY.mp e).1)) ((e)))
mutual
theorem Rel.mono(h:W.le W'):∀{x}{v},Rel W x v→Rel W' x v
 | .none,_=>fun r=>r
 | .bool _,_=>fun r=>r
 | .int _,_=>fun r=>r
 | .str _,_=>fun r=>r
 | .lit _,_=>by rintro⟨t,e,c,z⟩;exact⟨t,e,h.2.2 _ _ c,z⟩
 | .tup _,_=>by rintro⟨a,vs,n,e,i,r,z⟩;exact⟨a,vs,n,e,h.2.1 _ _ i,aj.mono h r,z⟩
 | .lst _,_=>by rintro⟨a,vs,n,e,i,r,z⟩;exact⟨a,vs,n,e,h.2.1 _ _ i,aj.mono h r,z⟩
 | .bw _,_=>by rintro⟨a,es,n,e,i,r,d,d2,d3⟩;exact⟨a,es,n,e,h.2.1 _ _ i,d6.mono h r,d,d2,d3⟩
 | .ref _,_=>by rintro⟨a,e,i⟩;exact⟨a,e,Wd.eM h i⟩
 | .st _,_=>fun r=>r
 | .bm _ _,_=>by rintro⟨a,u,e,i,r⟩;exact⟨a,u,e,h.2.1 _ _ i,Rel.mono h r⟩
 | .pm _ _,_=>by rintro⟨a,u,e,i,r⟩;exact⟨a,u,e,h.2.1 _ _ i,Rel.mono h r⟩
 | .vw _ _,_=>by rintro⟨a,u,e,i,r⟩;exact⟨a,u,e,h.2.1 _ _ i,Rel.mono h r⟩
 | .dst _,_=>by rintro⟨a,es,ep,t,e,i,r,z⟩;exact⟨a,es,ep,t,e,h.2.1 _ _ i,r,z⟩
 | .raw _ _,_=>by rintro⟨a,o,u,e,i,p,r⟩;exact⟨a,o,u,e,h.2.1 _ _ i,p,Rel.mono h r⟩
theorem aj.mono(h:W.le W'):∀{l}{vs},aj W l vs→aj W' l vs
 |[],_=>fun r=>r
 |_::_,_=>by rintro⟨v,r,e,a,b⟩;exact⟨v,r,e,Rel.mono h a,aj.mono h b⟩
theorem d6.mono(h:W.le W'):∀{l}{es},d6 W l es→d6 W' l es
 |[],_=>fun r=>r
 |_::_,_=>by rintro⟨t,v,r,e,a,b⟩;exact⟨t,v,r,e,Rel.mono h a,d6.mono h b⟩
end
inductive AO where
 |list (l:List V)
 |dict (l:List (Rj×V))
 |sset (l:List Rj)
 |inst (C:TD) (d:Nat)
 |ns (l:List (Rj×V))
 |tab (a:TD) (p:Pos) (q:Rj)
noncomputable abbrev AH:=List (Option AO)
noncomputable abbrev Loc:=List (Rj×V)
section
noncomputable def jz(W:Wd)(a:TD):Prop:=a∉W.φ∧W.I a=none
noncomputable def MU(W:Wd)(l:List (Rj×V))(m:Rj→Option Value):Prop:=∀x,(l.lookup x=none→m x=none)∧∀y,l.lookup x=some y→∃v,m x=some v∧Rel W y v
noncomputable def OA(W:Wd)(h:Vi)(a:TD):AO→Prop
 | .list l=>CD fun vs n=>m7 (h.get? a=some (sq "list" vs n)) (aj W l vs) (l.length≤QW)
 | .dict l=>CD fun es n=>pL (h.get? a=some (dq es n)) (d6 W l es) (l.map (·.1)).Nodup (l.length≤QW)
 | .sset l=>∃n,h.SetOf (strKind prog w) a (fun x=>decide (x∈l)) n∧n≤l.length
 | .inst C d=>∃da,W.φ[d]?=some da∧h.get? a=some {cls:= .ref C,dict:=some da,data:= .plain}
 | .ns l=>∃m,h.Ns1 a m∧MU W l m
 | .tab Kg p q=>a=Kg∧∃ps,h.get? a=some {cls:= .none,data:= .fields ps}∧(ps=#[]∨∃c oc vs t,ps=#[SX p.line,SX p.col, .ref c]∧W.I c=some oc∧oc.data= .fields vs∧vs[1]?=some (.str q t))
structure an(W:Wd)(H:AH)(s:Ro):Prop where
 cq:∀a o,W.I a=some o→s.heap.get? a=some o
 gr:∀a o,bo a=some o→W.I a=some o
 nodup:W.φ.Nodup
 len:W.φ.length=H.length
 lt:∀a∈W.φ,s.heap.get? a≠none
 live:∀(i:Nat) ob,H[i]?=some (some ob)→∃a,m7 (W.φ[i]?=some a) (W.I a=none) (OA W s.heap a ob)
 bare:aab s.gens
 tk:0<s.toks
 col:∀t x,W.C t=some x→0<t∧t<s.toks
end
structure Gr(X:TD→Prop)(W:Wd)(s:Ro) W'(s':Ro):Prop where
 le:W.le W'
 cH:∀a∈W'.φ,a∈W.φ∨s.heap.get? a=none∨X a
 gn:∀a o,W'.I a=some o→W.I a=some o∨a∈W.φ∨s.heap.get? a=none∨X a
 heap:∀a o,s.heap.get? a=some o→a∉W.φ→¬X a→s'.heap.get? a=some o
 there:∀a,s.heap.get? a≠none→¬X a→s'.heap.get? a≠none
 os:s'.os=s.os
 gens:∀(i:Nat) y,s.gens[i]?=some y→s'.gens[i]?=some y
noncomputable abbrev cr:TD→Prop:=fun _=>False
theorem Gr.refl X W s:Gr X W s W s:=
 ⟨W.le_refl,fun _ h=> .inl h,fun _ _ h=> .inl h,fun _ _ h _ _=>h,fun _ h _=>h,rfl,fun _ _ h=>h⟩
theorem Gr.back{s s'}(a:Gr X W s W' s'){x}(h:s'.heap.get? x=none):s.heap.get? x=none∨X x:=by
 by_cases hx:X x
 ·exact .inr hx
 ·cases e:s.heap.get? x with
  |none=>exact .inl rfl
  |some o=>exact absurd h (a.there x (e▸nofun) hx)
theorem Gr.trans{s s' dL}(a:Gr X W s W' s')(b:Gr X W' s' nC dL):Gr X W s nC dL:=by
 refine⟨Wd.le_trans a.le b.le,fun x h=> ?_,fun x o h=> ?_,fun x o h hn hx=> ?_,fun x h hx=>b.there x (a.there x h hx) hx,b.os.trans a.os,fun i y h=>b.gens i y (a.gens i y h)⟩
 ·rcases b.cH x h with h|h|h
  ·exact a.cH x h
  ·exact .inr (a.back h)
  ·exact .inr (.inr h)
 ·rcases b.gn x o h with h|h|h|h
  ·exact a.gn x o h
  ·rcases a.cH x h with h|h
   ·exact .inr (.inl h)
   ·exact .inr (.inr h)
  ·exact .inr (.inr (a.back h))
  ·exact .inr (.inr (.inr h))
 ·refine b.heap x o (a.heap x o h hn hx) (fun m=> ?_) hx;rcases a.cH x m with m|m|m
  ·exact hn m
  ·cases h.symm.trans m
  ·exact hx m
theorem Gr.weaken{W W'}{s s'}(a:Gr X W s W' s')(h:∀x,X x→Y x):Gr Y W s W' s':=
 ⟨a.le,fun x m=>(a.cH x m).imp_right fun q=>q.imp_right (h x),fun x o e=>(a.gn x o e).imp_right fun q=>q.imp_right fun q=>q.imp_right (h x),fun x o e hn hy=>a.heap x o e hn fun q=>hy (h x q),fun x e hy=>a.there x e fun q=>hy (h x q),a.os,a.gens⟩
theorem Gr.of{W W'}{s s'}(a:Gr cr W s W' s'):Gr Y W s W' s':=a.weaken fun _ h=>h.elim
theorem Gr.base{X Z}{W W' nC}{s s' dL}(a:Gr Z W s W' s')(b:Gr X W' s' nC dL)(h:∀x,X x→s.heap.get? x≠none→Z x):Gr Z W s nC dL:=by
 have hx:∀x,X x→s.heap.get? x=none∨Z x:=fun x q=>by
  cases e:s.heap.get? x with
  |none=>exact .inl rfl
  |some o=>exact .inr (h x q (e▸nofun))
 refine⟨Wd.le_trans a.le b.le,fun x h=> ?_,fun x o h=> ?_,fun x o e hn hz=> ?_,fun x e hz=>b.there x (a.there x e hz) fun q=>hz (h x q e),b.os.trans a.os,fun i y g=>b.gens i y (a.gens i y g)⟩
 ·rcases b.cH x h with h|h|h
  ·exact a.cH x h
  ·exact .inr (a.back h)
  ·exact .inr (hx x h)
 ·rcases b.gn x o h with h|h|h|h
  ·exact a.gn x o h
  ·rcases a.cH x h with h|h
   ·exact .inr (.inl h)
   ·exact .inr (.inr h)
  ·exact .inr (.inr (a.back h))
  ·exact .inr (.inr (hx x h))
 ·refine b.heap x o (a.heap x o e hn hz) (fun m=> ?_) fun q=>hz (h x q (e▸nofun));rcases a.cH x m with m|m|m
  ·exact hn m
  ·cases e.symm.trans m
  ·exact hz m
structure aB(A:Ta) n:Prop where
 handled:A.handled=none
 depth:A.depth+n<Y5
 units:A.units+12*n<aad
theorem aB.deeper(R:aB A (n+1)) env:aB (A.deeper env) n:=
 ⟨R.1,by exact Ol R.2,by have:=R.3;show A.units+3+12*n<_;lia⟩
theorem aB.in1(R:aB A (n+1)):aB A.in1 n:=
 ⟨R.1,by exact Gs (CJ R.2),by exact elt (Jq (FR (vy (FR dc)))) R.3⟩
theorem aB.lt(R:aB A n):A.depth<Y5:=ui R.2
theorem aB.ult(R:aB A n):A.units<aad:=ui R.3
structure Fx where
 names:List (Rj×Zh)
 code:Value
 top:Bool:=true
 qual:Option Rj:=none
structure az(F:Fx)(env:Env):Prop where
 names:env.scope.names=F.names
 kind:env.scope.kind= .function
 globals:env.globals=mainGlobals
 builtins:env.builtins=builtinsNs
 code:env.code=F.code
 co:env.scope.isCoroutine=false
 top:F.top=true→∀n c,env.kindOf n=some .cell→env.cells.lookup n=some c→env.locals<c
 qual:∀q,F.qual=some q→env.qual=q
noncomputable def own(env:Env)(a:TD):Prop:=a=env.locals∨(env.locals<a∧∃n,env.kindOf n=some .cell∧env.cells.lookup n=some a)
structure cQ W(ρ:Loc)(env:Env)(h:Vi):Prop where
 m:∃m,h.Ns env.locals m∧∀n x,ρ.lookup n=some x→env.kindOf n=some .local→∃v,m n=some v∧Rel W x v
 kind:∀n x,ρ.lookup n=some x→env.kindOf n=some .local∨env.kindOf n=some .cell∨env.kindOf n=some .free
 cell:∀n x,ρ.lookup n=some x→env.kindOf n≠some .local→CD fun c v=>m7 (env.cells.lookup n=some c) (h.IsCell c (some v)) (Rel W x v)
 cells:∀n,env.kindOf n=some .cell→∃c v,env.cells.lookup n=some c∧h.IsCell c v
 sep:jz W env.locals
 dC:∀n c,env.cells.lookup n=some c→c∉W.φ∧W.I c=none∧c≠env.locals∧h.get? c≠none
 inj:∀n n' c,env.cells.lookup n=some c→env.cells.lookup n'=some c→n=n'
noncomputable def aX:Value→Ro→Prop:=fun _ _=>False
section
noncomputable abbrev Kh(n:Nat)(F:Fx)(e:SD)(ρ:Loc)(H:AH)(x:V)(H':AH):Prop:=∀A s W env,aB A n→an W H s→az F env→cQ W ρ env s.heap→
    ∀Q,(∀v s' W',Gr cr W s W' s'→an W' H' s'→Rel W' x v→Q v s')→
     wpAny (model prog w) A (eval e env) Q aX s
@[irreducible] noncomputable def ET (n:Nat) (F:Fx) (e:SD) (ρ:Loc) (H:AH) (x:V) (H':AH):Prop:=Kh n F e ρ H x H'
theorem ET.mk{n F e ρ H x H'}(h:Kh n F e ρ H x H'):ET n F e ρ H x H':=by delta ET;exact h
theorem ET.run{n F e ρ H x H'}(h:ET n F e ρ H x H'):Kh n F e ρ H x H':=by delta ET at h;exact h
noncomputable abbrev D0(n:Nat)(F:Fx)(pos:Pos)(es:List SD)(ρ:Loc)(H:AH)(xs:List V)(H':AH):Prop:=∀A s W env,aB A n→an W H s→az F env→cQ W ρ env s.heap→
    ∀Q,(∀vs s' W',Gr cr W s W' s'→an W' H' s'→aj W' xs vs→Q vs s')→
     wpAny (model prog w) A (spliced (backTo pos (starEach es env))) Q aX s
@[irreducible] noncomputable def ab (n:Nat) (F:Fx) (pos:Pos) (es:List SD) (ρ:Loc) (H:AH) (xs:List V) (H':AH):Prop:=D0 n F pos es ρ H xs H'
theorem ab.mk{n F pos es ρ H xs H'}(h:D0 n F pos es ρ H xs H'):ab n F pos es ρ H xs H':=by delta ab;exact h
theorem ab.run{n F pos es ρ H xs H'}(h:ab n F pos es ρ H xs H'):D0 n F pos es ρ H xs H':=by delta ab at h;exact h
noncomputable abbrev Ki(n:Nat)(F:Fx)(e:SD)(ρ:Loc)(H:AH)(b:Bool)(H':AH):Prop:=∀A s W env,aB A n→an W H s→az F env→cQ W ρ env s.heap→
    ∀Q,(∀s' W',Gr cr W s W' s'→an W' H' s'→Q b s')→
     wpAny (model prog w) A (isTrue e env (eval e env)) Q aX s
@[irreducible] noncomputable def TT (n:Nat) (F:Fx) (e:SD) (ρ:Loc) (H:AH) (b:Bool) (H':AH):Prop:=Ki n F e ρ H b H'
theorem TT.mk{n F e ρ H b H'}(h:Ki n F e ρ H b H'):TT n F e ρ H b H':=by delta TT;exact h
theorem TT.run{n F e ρ H b H'}(h:TT n F e ρ H b H'):Ki n F e ρ H b H':=by delta TT at h;exact h
inductive Fl where
 |next|ret (x:V)
noncomputable def Fl.rel(W:Wd):Fl→Flow→Prop
 | .next,f=>f= .next
 | .ret x,f=>∃v,f= .ret v∧Rel W x v
noncomputable abbrev Kj(n:Nat)(F:Fx)(st:U3)(ρ:Loc)(H:AH)(f:Fl)(ρ':Loc)(H':AH):Prop:=∀A s W env,aB A n→an W H s→az F env→cQ W ρ env s.heap→
    ∀Q,(∀g s' W',Gr (own env) W s W' s'→an W' H' s'→cQ W' ρ' env s'.heap→f.rel W' g→Q g s')→
     wpAny (model prog w) A (exec st env) Q aX s
@[irreducible] noncomputable def XT (n:Nat) (F:Fx) (st:U3) (ρ:Loc) (H:AH) (f:Fl) (ρ':Loc) (H':AH):Prop:=Kj n F st ρ H f ρ' H'
theorem XT.mk{n F st ρ H f ρ' H'}(h:Kj n F st ρ H f ρ' H'):XT n F st ρ H f ρ' H':=by delta XT;exact h
theorem XT.run{n F st ρ H f ρ' H'}(h:XT n F st ρ H f ρ' H'):Kj n F st ρ H f ρ' H':=by delta XT at h;exact h
noncomputable abbrev D1(n:Nat)(F:Fx)(gp:List U3)(ρ:Loc)(H:AH)(f:Fl)(ρ':Loc)(H':AH):Prop:=∀A s W env,aB A n→an W H s→az F env→cQ W ρ env s.heap→
    ∀Q,(∀g s' W',Gr (own env) W s W' s'→an W' H' s'→cQ W' ρ' env s'.heap→f.rel W' g→Q g s')→
     wpAny (model prog w) A (execs gp env) Q aX s
@[irreducible] noncomputable def af (n:Nat) (F:Fx) (gp:List U3) (ρ:Loc) (H:AH) (f:Fl) (ρ':Loc) (H':AH):Prop:=D1 n F gp ρ H f ρ' H'
theorem af.mk{n F gp ρ H f ρ' H'}(h:D1 n F gp ρ H f ρ' H'):af n F gp ρ H f ρ' H':=by delta af;exact h
theorem af.run{n F gp ρ H f ρ' H'}(h:af n F gp ρ H f ρ' H'):D1 n F gp ρ H f ρ' H':=by delta af at h;exact h
noncomputable abbrev Kk(n:Nat)(f:V)(xs:List V)(ks:List (Rj×V))(H:AH)(x:V)(H':AH):Prop:=∀A s W fv vs kv,aB A n→an W H s→Rel W f fv→aj W xs vs→
    kv.map (·.1)=ks.map (·.1)→aj W (ks.map (·.2)) (kv.map (·.2))→
    ∀Q,(∀v s' W',Gr cr W s W' s'→an W' H' s'→Rel W' x v→Q v s')→
     wpAny (model prog w) A (call fv vs kv) Q aX s
@[irreducible] noncomputable def CT (n:Nat) (f:V) (xs:List V) (ks:List (Rj×V)) (H:AH) (x:V) (H':AH):Prop:=Kk n f xs ks H x H'
theorem CT.mk{n f xs ks H x H'}(h:Kk n f xs ks H x H'):CT n f xs ks H x H':=by delta CT;exact h
theorem CT.run{n f xs ks H x H'}(h:CT n f xs ks H x H'):Kk n f xs ks H x H':=by delta CT at h;exact h
end
section
variable{n:Nat}{F:Fx}
theorem an.fresh(S:an W H s){a}(h:s.heap.get? a=none):jz W a:=
 ⟨fun m=>S.lt a m h,by
  cases e:W.I a with
  |none=>rfl
  |some o=>replace h:=(S.cq a o e)▸h;cases h⟩
theorem ae(h:Vi):h.get? h.objs.size=none:=by
 cases e:h.get? h.objs.size with
 |none=>rfl
 |some o=>exact absurd (Rq e) (Sj _)
theorem al{s s'}(G:Gr X W s W' s'){a}(hl:s.heap.get? a≠none)(h:jz W a)(hx:¬X a):jz W' a:=by
 refine⟨fun m=> ?_, ?_⟩
 ·rcases G.cH a m with m|m|m
  ·exact h.1 m
  ·exact hl m
  ·exact hx m
 ·cases e:W'.I a with
  |none=>rfl
  |some o=>
   rcases G.gn a o e with q|q|q|q
   ·cases h.2.symm.trans q
   ·exact(h.1 q).elim
   ·exact(hl q).elim
   ·exact(hx q).elim
theorem cg{h:Vi}{a}{m}(x:h.Ns a m):h.get? a≠none:=by obtain⟨o,es,ep,ho,r⟩:=x;exact ho▸nofun
theorem nD{h h':Vi}{a}{m}(x:h.Ns a m)(k:∀o,h.get? a=some o→h'.get? a=some o):h'.Ns a m:=
 let⟨o,es,ep,ho,r⟩:=x;⟨o,es,ep,k o ho,r⟩
theorem eH{h h':Vi}{a}{v}(x:h.IsCell a v)(k:∀o,h.get? a=some o→h'.get? a=some o):h'.IsCell a v:=
 let⟨o,ho,r⟩:=x;⟨o,k o ho,r⟩
theorem cQ.step{s s'}{ρ}{env}(f:cQ W ρ env s.heap)(G:Gr cr W s W' s'):cQ W' ρ env s'.heap:=by
 obtain⟨m,hn,hm⟩:=f.m;refine⟨⟨m,nD hn fun o e=>G.heap _ o e f.sep.1 id,fun n x e k=>let⟨v,a,b⟩:=hm n x e k;⟨v,a,b.mono G.le⟩⟩,f.kind,fun n x e k=> ?_,fun n k=> ?_,al G (cg hn) f.sep id,fun n c e=> ?_,f.inj⟩
 ·obtain⟨c,v,e1,e2,e3⟩:=f.cell n x e k;exact⟨c,v,e1,eH e2 fun o e=>G.heap _ o e (f.dC n c e1).1 id,e3.mono G.le⟩
 ·obtain⟨c,v,e1,e2⟩:=f.cells n k;exact⟨c,v,e1,eH e2 fun o e=>G.heap _ o e (f.dC n c e1).1 id⟩
 ·obtain⟨a,b,c',d⟩:=f.dC n c e;exact⟨(al G d ⟨a,b⟩ id).1,(al G d ⟨a,b⟩ id).2,c',G.there c d id⟩
theorem cQ.sub{ρ ρ'}{env}(f:cQ W ρ env h)(k:∀n x,ρ'.lookup n=some x→ρ.lookup n=some x):cQ W ρ' env h:=
 let⟨m,hn,hm⟩:=f.m
 ⟨⟨m,hn,fun n x e q=>hm n x (k n x e) q⟩,fun n x e=>f.kind n x (k n x e),fun n x e q=>f.cell n x (k n x e) q,f.cells,f.sep,f.dC,f.inj⟩
theorem an.tok(S:an W H s) t(ht:autoParam (s.toks≤t) aS):an W H {s with toks:=t}:=
 ⟨S.cq,S.gr,S.nodup,S.len,S.lt,S.live,S.bare,RM S.tk ht,fun u x h=>⟨(S.col u x h).1,RM (S.col u x h).2 ht⟩⟩
theorem Gr.tok{s s'}(G:Gr X W s W' s') t:Gr X W s W' {s' with toks:=t}:=⟨G.le,G.cH,G.gn,G.heap,G.there,G.os,G.gens⟩
theorem Gr.dD W s t:Gr X W s W {s with toks:=t}:=(Gr.refl X W s).tok t
theorem Wd.fq{W W':Wd}(h:W.le W'){a}{o}(e:W.I a=some o):W'.I a=some o:=h.2.1 _ _ e
theorem pM{a}{ob}(r:OA W h a ob)(k:∀o,h.get? a=some o→h'.get? a=some o):OA W h' a ob:=by
 cases ob with
 |list=>obtain⟨vs,n,e,r,z⟩:=r;exact⟨vs,n,k _ e,r,z⟩
 |dict=>obtain⟨vs,n,e,r,z,z2⟩:=r;exact⟨vs,n,k _ e,r,z,z2⟩
 |sset=>obtain⟨n,⟨o,es,ep,t,e,r⟩,q⟩:=r;exact⟨n,⟨o,es,ep,t,k _ e,r⟩,q⟩
 |inst=>exact⟨r.choose,r.choose_spec.1,k _ r.choose_spec.2⟩
 |ns=>obtain⟨m,e,r⟩:=r;exact⟨m,e.at k,r⟩
 |tab=>obtain⟨e0,vs,e,r⟩:=r;exact⟨e0,vs,k _ e,r⟩
theorem eW(l:W.le W'){h}{a}{ob}(r:OA W h a ob):OA W' h a ob:=by
 cases ob with
 |list=>obtain⟨vs,n,e,r,z⟩:=r;exact⟨vs,n,e,r.mono l,z⟩
 |dict=>obtain⟨vs,n,e,r,d,d2⟩:=r;exact⟨vs,n,e,r.mono l,d,d2⟩
 |sset=>exact r
 |inst=>exact⟨r.choose,Wd.eM l r.choose_spec.1,r.choose_spec.2⟩
 |ns=>
  obtain⟨m,e,r⟩:=r;refine⟨m,e,fun x=>⟨(r x).1,fun y hy=> ?_⟩⟩;obtain⟨v,a,b⟩:=(r x).2 y hy;exact⟨v,a,b.mono l⟩
 |tab=>
  obtain⟨e0,vs,e,r⟩:=r;refine⟨e0,vs,e,r.imp_right fun h=> ?_⟩;refine QK fun kG=> ?_;obtain⟨c,oc,us,t,h1,h2,h3⟩:=h;exact kG (⟨c,oc,us,t,h1,l.2.1 _ _ h2,h3⟩)
theorem an.same(S:an W H s)(k:∀a o,s.heap.get? a=some o→(a∈W.φ∨W.I a≠none)→s'.heap.get? a=some o)
  (g:aab s'.gens) (ht:autoParam (s.toks≤s'.toks) aN):an W H s':=by
 refine⟨fun a o e=>k a o (S.cq a o e) (.inr (e▸nofun)),S.gr,S.nodup,S.len,fun a m h=> ?_,
  fun i ob e=>let⟨a,p,q,r⟩:=S.live i ob e;⟨a,p,q,pM r fun o h=>k a o h (.inl (RJ p))⟩,g,RM S.tk ht,fun u x h=>⟨(S.col u x h).1,RM (S.col u x h).2 ht⟩⟩
 cases e:s.heap.get? a with
 |none=>exact S.lt a m e
 |some o=>cases(k a o e (.inl m))▸h
theorem br{h h':Vi}(k:∀a o,h.get? a=some o→h'.get? a=some o):∀a,h.get? a≠none→h'.get? a≠none:=fun a e=>by
 cases q:h.get? a with
 |none=>exact(e q).elim
 |some o=>exact(k a o q)▸nofun
noncomputable def Wd.put(W:Wd)(a:TD)(o:Obj):Wd:=⟨W.φ,fun x=>if x=a then some o else W.I x,W.C⟩
theorem Wd.ak(W:Wd) a o:(W.put a o).I a=some o:=by simp[Wd.put]
theorem Wd.lj{W:Wd}{a}{o}(h:W.I a=none):W.le (W.put a o):=
 ⟨XJ _,fun x p e=>by
  by_cases hx:x=a
  ·subst hx;cases h.symm.trans e
  ·simpa [Wd.put,hx] using e,fun _ _ h=>h⟩
theorem an.put(S:an W H s)(ho:o.isFreed=false):
  an (W.put s.heap.objs.size o) H {s with heap:=s.heap.push o}∧Gr cr W s (W.put s.heap.objs.size o) {s with heap:=s.heap.push o}:=by
 have fr:=S.fresh (ae s.heap);have kk:∀a o',s.heap.get? a=some o'→(s.heap.push o).get? a=some o':=fun _ _ e=>QT _ e;have l:W.le (W.put s.heap.objs.size o):=Wd.lj fr.2;refine⟨⟨fun a p e=> ?_,fun a p e=>Wd.fq l (S.gr a p e),S.nodup,S.len,fun a m=>br kk a (S.lt a m),fun i ob e=> ?_,S.bare,S.tk,S.col⟩,⟨l,fun a m=> .inl m,fun a p e=> ?_,fun a p e _ _=>kk _ _ e,fun a h _=>br kk a h,rfl,fun _ _ h=>h⟩⟩
 ·by_cases hx:a=s.heap.objs.size
  ·subst hx;replace e:=(Wd.ak ..)▸e;cases e;exact Q0 _ ho
  ·exact QT _ (S.cq a p (by simpa [Wd.put,hx] using e))
 ·obtain⟨a,p,q,r⟩:=S.live i ob e;refine⟨a,p, ?_,eW l (pM r fun o h=>QT _ h)⟩;have:a≠s.heap.objs.size:=fun h=>by subst h;exact fr.1 (RJ p)
  simpa [Wd.put,this] using q
 ·by_cases hx:a=s.heap.objs.size
  ·exact .inr (.inr (.inl (hx▸ae _)))
  ·exact .inl (by simpa [Wd.put,hx] using e)
noncomputable def Wd.new(W:Wd)(a:TD):Wd:=⟨W.φ++[a],W.I,W.C⟩
theorem Wd.lq(W:Wd) a:W.le (W.new a):=⟨Zz _ _,fun _ _ h=>h,fun _ _ h=>h⟩
theorem an.new{ob}(S:an W H s)(k:∀a o,s.heap.get? a=some o→s'.heap.get? a=some o)(hs:s'.heap.get? s.heap.objs.size≠none)
  (g:s'.gens=s.gens) (os:s'.os=s.os) (ht:s.toks≤s'.toks) (h:OA (W.new s.heap.objs.size) s'.heap s.heap.objs.size ob):
  an (W.new s.heap.objs.size) (H++[some ob]) s'∧Gr cr W s (W.new s.heap.objs.size) s':=by
 have fr:=S.fresh (ae s.heap);have l:=W.lq s.heap.objs.size;refine⟨⟨fun a p e=>k _ _ (S.cq a p e),S.gr, ?_, ?_,fun a m=> ?_,fun i o e=> ?_,by refine J g ?_;exact S.bare,RM S.tk ht,fun u x h=>⟨(S.col u x h).1,RM (S.col u x h).2 ht⟩⟩,⟨l,fun a m=> ?_,fun a p e=> .inl e,fun a p e _ _=>k _ _ e,fun a h _=>br k a h,os,by exact g▸fun _ _ h=>h⟩⟩
 ·exact Tn.mpr ⟨S.nodup,Sa.mpr ⟨nofun,SE⟩,fun x hx y hy e=>by
   simp at hy;subst hy;subst e;exact fr.1 hx⟩
 ·simp[Wd.new,S.len]
 ·rcases Q9.mp m with m|m
  ·exact br k a (S.lt a m)
  ·simp at m;subst m;exact hs
 ·by_cases hi:i<H.length
  ·rw[RC hi] at e;obtain⟨a,p,q,r⟩:=S.live i o e;exact⟨a,Wd.eM l p,q,eW l (pM r fun o h=>k _ _ h)⟩
  ·have Gv:i=H.length:=by
    have:=(QY.mp e).1;simp at this;exact Gu hi this
   subst Gv;simp at e;subst e;exact⟨s.heap.objs.size,by refine aO S.len ?_;simp[Wd.new],fr.2,h⟩
 ·rcases Q9.mp m with m|m
  ·exact .inl m
  ·simp at m;exact .inr (.inl (m▸ae _))
theorem ci{α:Type}{l:List α}{i j}{x y}(h:(l.set i x)[j]?=some y):(i=j∧y=x)∨(i≠j∧l[j]?=some y):=by
 by_cases e:i=j
 ·subst e;have hl:=(QY.mp h).1;rw[Sl] at hl;rw[SG hl] at h;exact .inl ⟨rfl,(Uv h).symm⟩
 ·rw[Sr e] at h;exact .inr ⟨e,h⟩
theorem lx{α:Type}{l:List α}(h:l.Nodup){i j} hi(hj:j<l.length)(e:l[i]=l[j]):i=j:=by
 have p:=List.pairwise_iff_getElem.mp h;rcases Z2 i j with q|q|q
 ·exact absurd e (p i j hi hj q)
 ·exact q
 ·exact absurd e.symm (p j i hj hi q)
theorem an.set{i}{a}{ob}(S:an W H s)(hi:W.φ[i]?=some a)(hI:W.I a=none)
  (k:∀b o,b≠a→s.heap.get? b=some o→s'.heap.get? b=some o) (hs:s'.heap.get? a≠none) (g:s'.gens=s.gens) (os:s'.os=s.os) (ht:s.toks≤s'.toks) (h:OA W s'.heap a ob):
  an W (H.set i (some ob)) s'∧Gr cr W s W s':=by
 have th:∀b,s.heap.get? b≠none→s'.heap.get? b≠none:=fun b e=>by
  by_cases hb:b=a
  ·cases hb;exact hs
  ·cases q:s.heap.get? b with
   |none=>exact(e q).elim
   |some o=>exact(k b o hb q)▸nofun
 refine⟨⟨fun b p e=>k _ _ (fun q=>by cases q;cases hI.symm.trans e) (S.cq b p e),S.gr,S.nodup,by refine J Sl ?_;exact S.len,fun b m=>th b (S.lt b m),fun j o e=> ?_,by refine J g ?_;exact S.bare,RM S.tk ht,fun u x h=>⟨(S.col u x h).1,RM (S.col u x h).2 ht⟩⟩,
  ⟨W.le_refl,fun _ m=> .inl m,fun _ _ e=> .inl e,fun b o e hn _=>k _ _ (fun q=>hn (by subst q;exact RJ hi)) e,fun b h _=>th b h,os,by exact g▸fun _ _ h=>h⟩⟩
 rcases ci e with⟨h1,h2⟩|⟨Gy,h2⟩
 ·subst h1;cases h2;exact⟨a,hi,hI,h⟩
 ·obtain⟨b,p,q,r⟩:=S.live j o h2;have Kl:b≠a:=fun z=>by
   subst z;have h1:=QY.mp hi;have h2:=QY.mp p;exact Gy (lx S.nodup h1.1 h2.1 (h1.2.trans h2.2.symm))
  exact⟨b,p,q,pM r fun o h=>k _ _ Kl h⟩
end
section
noncomputable abbrev Km(n:Nat)(t:Value→Value→Yp Value)(x y:V)(H:AH)(z:V)(H':AH):Prop:=∀A s W(a b:Value),aB A n→an W H s→Rel W x a→Rel W y b→
    ∀Q,(∀v s' W',Gr cr W s W' s'→an W' H' s'→Rel W' z v→Q v s')→wpAny (model prog w) A (t a b) Q aX s
@[irreducible] noncomputable def OT (n:Nat) (t:Value→Value→Yp Value) (x y:V) (H:AH) (z:V) (H':AH):Prop:=Km n t x y H z H'
theorem OT.mk{n t x y H z H'}(h:Km n t x y H z H'):OT n t x y H z H':=by delta OT;exact h
theorem OT.run{n t x y H z H'}(h:OT n t x y H z H'):Km n t x y H z H':=by delta OT at h;exact h
noncomputable abbrev D2(n:Nat)(t:Value→Yp Value)(x:V)(H:AH)(z:V)(H':AH):Prop:=∀A s W a,aB A n→an W H s→Rel W x a→
    ∀Q,(∀v s' W',Gr cr W s W' s'→an W' H' s'→Rel W' z v→Q v s')→wpAny (model prog w) A (t a) Q aX s
@[irreducible] noncomputable def j1 (n:Nat) (t:Value→Yp Value) (x:V) (H:AH) (z:V) (H':AH):Prop:=D2 n t x H z H'
theorem j1.mk{n t x H z H'}(h:D2 n t x H z H'):j1 n t x H z H':=by delta j1;exact h
theorem j1.run{n t x H z H'}(h:j1 n t x H z H'):D2 n t x H z H':=by delta j1 at h;exact h
noncomputable abbrev Kn(n:Nat)(x:V)(H:AH)(b:Bool):Prop:=∀A s W a,aB A n→an W H s→Rel W x a→
    ∀Q,(∀s' W',Gr cr W s W' s'→an W' H s'→Q b s')→wpAny (model prog w) A (truthy a) Q aX s
@[irreducible] noncomputable def OB (n:Nat) (x:V) (H:AH) (b:Bool):Prop:=Kn n x H b
theorem OB.mk{n x H b}(h:Kn n x H b):OB n x H b:=by delta OB;exact h
theorem OB.run{n x H b}(h:OB n x H b):Kn n x H b:=by delta OB at h;exact h
structure Jz:Prop where
 g:∀h:Vi,(∀a o,bo a=some o→h.get? a=some o)→h.Ns mainGlobals mg
 b:∀h:Vi,(∀a o,bo a=some o→h.get? a=some o)→∃mb,h.Ns builtinsNs mb∧∀x:Rj,x≠"__name__"→mb x=Ts x
 nolimit:∀h:Vi,(∀a o,bo a=some o→h.get? a=some o)→h.NoLimit
 nodigits:∀h:Vi,(∀a o,bo a=some o→h.get? a=some o)→∃mc,h.Ns cStatics mc∧mc "sys.int_max_str_digits"=none
end
section
variable{n:Nat}{F:Fx}{ρ:Loc}{H H1 H2 H3:AH}
theorem an.ground(S:an W H s):∀a o,bo a=some o→s.heap.get? a=some o:=fun a o e=>S.cq a o (S.gr a o e)
theorem ET.int{i k pos}:ET n F (.Constant (.int i) k pos) ρ H (.int i) H:= .mk fun _ s W _ _ S _ _ _ q=>aaV (q _ _ _ (Gr.dD W s _) (S.tok _) ⟨_,rfl⟩)
theorem ET.str{x k pos}(hz:autoParam (x.length≤QW) aE):ET n F (.Constant (.str x) k pos) ρ H (.str x) H:= .mk fun _ s W _ _ S _ _ _ q=>aaU (q _ _ _ (Gr.dD W s _) (S.tok _) ⟨_,rfl,hz⟩)
theorem ET.lit{x k pos}(hz:autoParam (x.length≤QW) aE):ET n F (.Constant (.str x) k pos) ρ H (.lit x) H:= .mk fun _ s W _ _ S _ _ _ q=>by
 let W':Wd:=⟨W.φ,W.I,fun t=>if t=s.toks then some x else W.C t⟩;have hn:W.C s.toks=none:=by
  cases e:W.C s.toks with
  |none=>rfl
  |some y=>exact absurd (S.col _ _ e).2 (Sj _)
 have l:W.le W':=⟨XJ _,fun _ _ h=>h,fun t y h=>by
  by_cases e:t=s.toks
  ·subst e;cases hn.symm.trans h
  ·simpa [W',e] using h⟩
 refine aaU (q _ {s with toks:=s.toks+1} W' ⟨l,fun _ h=> .inl h,fun _ _ h=> .inl h,fun _ _ h _ _=>h,fun _ h _=>h,rfl,fun _ _ h=>h⟩ ?_ ⟨_,rfl,by simp[W'],hz⟩);refine⟨S.cq,S.gr,S.nodup,S.len,S.lt,fun i ob e=>let⟨a,p,q,r⟩:=S.live i ob e;⟨a,p,q,eW l r⟩,S.bare,Sh _,fun t y h=> ?_⟩;by_cases e:t=s.toks
 ·subst e;exact⟨S.tk,Vu _⟩
 ·exact⟨(S.col t y (by simpa [W',e] using h)).1,Vc (S.col t y (by simpa [W',e] using h)).2⟩
theorem ET.CK(h:ET n F e ρ H (.lit x) H1):ET n F e ρ H (.str x) H1:= .mk fun A s W env R S E f Q q=>
 h.run A s W env R S E f Q fun v s' W' G' S' r=>q v s' W' G' S' (let⟨t,e,_,z⟩:=r;⟨t,e,z⟩)
theorem ET.bool{b k pos}:ET n F (.Constant (.bool b) k pos) ρ H (.bool b) H:= .mk fun _ s W _ _ S _ _ _ q=>wpAny_Constant_bool (q _ _ _ (Gr.refl _ W s) S rfl)
theorem ET.none{k pos}:ET n F (.Constant .none k pos) ρ H .none H:= .mk fun _ s W _ _ S _ _ _ q=>wpAny_Constant_none (q _ _ _ (Gr.refl _ W s) S rfl)
theorem ET.name{v}(h:autoParam (ρ.lookup x=some v) aR)(hd:autoParam ((x=="__debug__")=false) aD)(Gz:autoParam ((x=="__classdict__")=false) aD):ET n F (.Name x pos) ρ H v H:=by
 refine .mk fun A s W env R S E f Q q=>(wpAny_Name ?_ hd);by_cases k:env.kindOf x=some .local
 ·obtain⟨m,hn,hm⟩:=f.m;obtain⟨u,e,r⟩:=hm x v h k;exact VF E.kind k hn e (q _ _ _ (Gr.refl _ W s) S r)
 ·obtain⟨c,u,e,hc,r⟩:=f.cell x v h k;rcases(f.kind x v h).resolve_left k with k|k
  ·exact aaC E.kind k e hc (q _ _ _ (Gr.refl _ W s) S r)
  ·exact aaB E.kind k e hc (q _ _ _ (Gr.refl _ W s) S r) Gz
theorem be(E:az F env) x:env.kindOf x=F.names.lookup x:=by
 delta Env.kindOf;rw[E.names]
theorem ET.glob(G:Jz){x}{pos}{v}(hv:mg x=some v)(hk:autoParam (F.names.lookup x=some .globalImplicit) aK)
  (hd:autoParam ((x=="__debug__")=false) aD):ET n F (.Name x pos) ρ H (.st v) H:=by
 refine .mk fun A s W env R S E f Q q=>(X7 E.kind (by rw[be E];exact hk) (Calls.loadGlobal_global (E.globals▸G.g _ S.ground) hv (q _ _ _ (Gr.refl _ W s) S rfl)) hd)
theorem ET.builtin(G:Jz){x}{pos}{v}(hm:mg x=Q6)(hv:Ts x=some v)(hk:autoParam (F.names.lookup x=some .globalImplicit) aK)
  (hd:autoParam ((x=="__debug__")=false) aD) (hx:autoParam (x≠"__name__") aD):ET n F (.Name x pos) ρ H (.st v) H:=by
 refine .mk fun A s W env R S E f Q q=> ?_;obtain⟨mb,hb,On⟩:=G.b _ S.ground;exact X7 E.kind (by rw[be E];exact hk) (Calls.loadGlobal_builtin (E.globals▸G.g _ S.ground) hm (E.builtins▸hb) ((On x hx)▸hv) (q _ _ _ (Gr.refl _ W s) S rfl)) hd
theorem ET.binop{x y z}(hl:ET n F l ρ H x H1)(hr:ET n F r ρ H1 y H2)(ho:OT n (VQ op) x y H2 z H3):
  ET n F (.BinOp l op r pos) ρ H z H3:=by
 refine .mk fun A s W env R S E f Q q=>(aax (hl.run A s W env R S E f _ fun a s1 W1 G1 S1 r1=>hr.run A s1 W1 env R S1 E (f.step G1) _ fun b s2 W2 G2 S2 r2=> ?_));exact ho.run A s2 W2 a b R S2 (r1.mono G2.le) r2 _ fun v s3 W3 G3 S3 r3=>q v s3 W3 ((G1.trans G2).trans G3) S3 r3
theorem ET.cmp{x y z}(hl:ET n F l ρ H x H1)(hr:ET n F r ρ H1 y H2)(ho:OT n (RZ op) x y H2 z H3)
  (hm:autoParam (behindInMarks op r=false) aK):ET n F (.Compare l [op] [r] pos) ρ H z H3:=by
 refine .mk fun A s W env R S E f Q q=>(wpAny_Compare1 (hl.run A s W env R S E f _ fun a s1 W1 G1 S1 r1=>hr.run A s1 W1 env R S1 E (f.step G1) _ fun b s2 W2 G2 S2 r2=> ?_) hm);exact ho.run A s2 W2 a b R S2 (r1.mono G2.le) r2 _ fun v s3 W3 G3 S3 r3=>q v s3 W3 ((G1.trans G2).trans G3) S3 r3
theorem ET.db{c}{x}(ht:TT n F t ρ H c H1)(h1:c=true→ET n F a ρ H1 x H2)(h2:c=false→ET n F b ρ H1 x H2):
  ET n F (.IfExp t a b pos) ρ H x H2:=by
 refine .mk fun A s W env R S E f Q q=>(wpAny_IfExp (ht.run A s W env R S E f _ fun s1 W1 G1 S1=> ?_));cases c with
 |true=>exact(h1 rfl).run A s1 W1 env R S1 E (f.step G1) _ fun v s2 W2 G2 S2 r2=>q v s2 W2 (G1.trans G2) S2 r2
 |false=>exact(h2 rfl).run A s1 W1 env R S1 E (f.step G1) _ fun v s2 W2 G2 S2 r2=>q v s2 W2 (G1.trans G2) S2 r2
theorem ET.unary{e}{pos}{x z}(he:ET n F e ρ H x H1)(ho:j1 n (unaryOp op) x H1 z H2):ET n F (.UnaryOp op e pos) ρ H z H2:=by
 refine .mk fun A s W env R S E f Q q=>(wpAny_UnaryOp (he.run A s W env R S E f _ fun a s1 W1 G1 S1 r1=> ?_));exact ho.run A s1 W1 a R S1 r1 _ fun v s3 W3 G3 S3 r3=>q v s3 W3 (G1.trans G3) S3 r3
noncomputable def isStar(e:SD):Bool:=by
 cases e with
 |Starred=>exact true
 |_=>exact false
theorem cJ(h:isStar e=false) env:starEach (e::es) env=(false,eval e env)::starEach es env:=by
 cases e<;>first|rfl|cases h
theorem ab.nil:ab n F pos [] ρ H [] H:= .mk fun _ s W _ _ S _ _ _ q=>YQ (q _ _ _ (Gr.refl _ W s) S rfl)
theorem ab.cons{e}{es}{x}{xs}(h:ET n F e ρ H x H1)(hr:ab n F pos es ρ H1 xs H2)
  (fN:autoParam (isStar e=false) aI):ab n F pos (e::es) ρ H (x::xs) H2:=by
 refine .mk fun A s W env R S E f Q q=>(Ws (h.run A s W env R S E f _ fun a s1 W1 G1 S1 r1=>hr.run A s1 W1 env R S1 E (f.step G1) _ fun vs s2 W2 G2 S2 r2=> ?_) (cJ fN env));exact q _ s2 W2 (G1.trans G2) S2 ⟨a,vs,rfl,r1.mono G2.le,r2⟩
theorem aj.length:∀{l}{vs},aj W l vs→vs.length=l.length:=by
 intro rv
 induction rv with
 |nil=>
  intro _ h;cases h;rfl
 |cons _ _ ih=>
  rintro _ ⟨v,r,e,_,h⟩;subst e;simp[ih h]
theorem fO c vs k:(sq c vs k).isFreed=false:=rfl
theorem ET.tuple{pos}{xs}(h:ab n F pos es ρ H xs H1)(hz:autoParam (xs.length≤QW) aD):ET n F (.Tuple es k pos) ρ H (.tup xs) H1:=by
 refine .mk fun A s W env R S E f Q q=>(wpAny_Tuple (h.run A s W env R S E f _ fun vs s1 W1 G1 S1 r1=>⟨by exact r1.length▸hz, ?_⟩));obtain⟨S2,G2⟩:=S1.put (fO "tuple" vs 0);exact q _ _ _ (G1.trans G2) S2 ⟨_,vs,0,rfl,Wd.ak ..,r1.mono G2.le,hz⟩
theorem ET.list{pos}{xs}(h:ab n F pos es ρ H xs H1)(hz:autoParam (xs.length≤QW) aD):ET n F (.List es pos) ρ H (.lst xs) H1:=by
 refine .mk fun A s W env R S E f Q q=>(wpAny_List (h.run A s W env R S E f _ fun vs s1 W1 G1 S1 r1=>⟨by exact r1.length▸hz, ?_⟩));obtain⟨S2,G2⟩:=S1.put (fO "list" vs 0);exact q _ _ _ (G1.trans G2) S2 ⟨_,vs,0,rfl,Wd.ak ..,r1.mono G2.le,hz⟩
theorem ET.d9{pos}{xs}(h:ab n F pos es ρ H xs H1)(hz:autoParam (xs.length≤QW) aD):
  ET n F (.List es pos) ρ H (.ref H1.length) (H1++[some (.list xs)]):=by
 refine .mk fun A s W env R S E f Q q=>(wpAny_List (h.run A s W env R S E f _ fun vs s1 W1 G1 S1 r1=>⟨by refine J r1.length ?_;exact hz, ?_⟩));obtain⟨S2,G2⟩:=S1.new (s':={s1 with heap:=s1.heap.push (sq "list" vs 0)}) (ob:= .list xs) (fun _ _ e=>QT _ e) (J (Q0 _ rfl) nofun) rfl rfl (QM _) ⟨vs,0,Q0 _ rfl,r1.mono (Wd.lq ..),hz⟩;exact q _ _ _ (G1.trans G2) S2 ⟨_,rfl,by refine aO S1.len ?_;simp[Wd.new]⟩
theorem TT.value(h:ET n F e ρ H x H1)(hb:OB n x H1 b)
  (he:autoParam (∀env whole,isTrue e env whole=(do let v ←whole;standAt e.pos;holding [v] (truthy v))) aI):TT n F e ρ H b H1:=by
 refine .mk fun A s W env R S E f Q q=>(wpAny_isTrue_value (h.run A s W env R S E f _ fun a s1 W1 G1 S1 r1=> ?_) (he env _));exact hb.run A s1 W1 a R S1 r1 _ fun s2 W2 G2 S2=>q s2 W2 (G1.trans G2) S2
theorem TT.cmp{x y}{b}(hl:ET n F l ρ H x H1)(hr:ET n F r ρ H1 y H2)(ho:OT n (RZ op) x y H2 (.bool b) H3)
  (hm:autoParam (behindInMarks op r=false) aK):TT n F (.Compare l [op] [r] pos) ρ H b H3:=by
 refine .mk fun A s W env R S E f Q q=>(wpAny_isTrue_Compare1 (hl.run A s W env R S E f _ fun a s1 W1 G1 S1 r1=>hr.run A s1 W1 env R S1 E (f.step G1) _ fun b s2 W2 G2 S2 r2=> ?_) hm);refine ho.run A s2 W2 a b R S2 (r1.mono G2.le) r2 _ fun v s3 W3 G3 S3 r3=> ?_;cases r3;exact X9 (q s3 W3 ((G1.trans G2).trans G3) S3)
theorem TT.not{b}(h:TT n F e ρ H b H1):TT n F (.UnaryOp .Not e pos) ρ H (!b) H1:=by
 exact .mk fun A s W env R S E f Q q=>(wpAny_isTrue_Not (h.run A s W env R S E f _ fun s1 W1 G1 S1=>q s1 W1 G1 S1))
noncomputable abbrev xB(n:Nat)(F:Fx)(op:BoolOp)(es:List SD)(ρ:Loc)(H:AH)(b:Bool)(H':AH):Prop:=∀A s W env,aB A n→an W H s→az F env→cQ W ρ env s.heap→
    ∀Q,(∀s' W',Gr cr W s W' s'→an W' H' s'→Q b s')→wpAny (model prog w) A (allTrue op es env) Q aX s
@[irreducible] noncomputable def aJ (n:Nat) (F:Fx) (op:BoolOp) (es:List SD) (ρ:Loc) (H:AH) (b:Bool) (H':AH):Prop:=xB n F op es ρ H b H'
theorem aJ.mk{n F op es ρ H b H'}(h:xB n F op es ρ H b H'):aJ n F op es ρ H b H':=by delta aJ;exact h
theorem aJ.run{n F op es ρ H b H'}(h:aJ n F op es ρ H b H'):xB n F op es ρ H b H':=by delta aJ at h;exact h
theorem aJ.and_nil:aJ n F .And [] ρ H true H:= .mk fun _ s W _ _ S _ _ _ q=>wpAny_allTrue_And_nil (q s W (Gr.refl ..) S)
theorem aJ.or_nil:aJ n F .Or [] ρ H false H:= .mk fun _ s W _ _ S _ _ _ q=>wpAny_allTrue_Or_nil (q s W (Gr.refl ..) S)
theorem aJ.and_false(h:TT n F e ρ H false H1):aJ n F .And (e::es) ρ H false H1:= .mk fun A s W env R S E f _ q=>
 ZL (h.run A s W env R S E f _ fun s1 W1 G1 S1=>q s1 W1 G1 S1)
theorem aJ.and_true(h:TT n F e ρ H true H1)(hr:aJ n F .And es ρ H1 b H2):aJ n F .And (e::es) ρ H b H2:= .mk fun A s W env R S E f _ q=>
 ZL (h.run A s W env R S E f _ fun s1 W1 G1 S1=>hr.run A s1 W1 env R S1 E (f.step G1) _ fun s2 W2 G2 S2=>q s2 W2 (G1.trans G2) S2)
theorem aJ.or_true(h:TT n F e ρ H true H1):aJ n F .Or (e::es) ρ H true H1:= .mk fun A s W env R S E f _ q=>
 ZY (h.run A s W env R S E f _ fun s1 W1 G1 S1=>q s1 W1 G1 S1)
theorem aJ.or_false(h:TT n F e ρ H false H1)(hr:aJ n F .Or es ρ H1 b H2):aJ n F .Or (e::es) ρ H b H2:= .mk fun A s W env R S E f _ q=>
 ZY (h.run A s W env R S E f _ fun s1 W1 G1 S1=>hr.run A s1 W1 env R S1 E (f.step G1) _ fun s2 W2 G2 S2=>q s2 W2 (G1.trans G2) S2)
theorem TT.bn{b}(h:aJ n F op es ρ H b H1):TT n F (.BoolOp op es pos) ρ H b H1:= .mk fun A s W env R S E f _ q=>
 wpAny_isTrue_BoolOp (h.run A s W env R S E f _ q)
theorem af.nil:af n F [] ρ H .next ρ H:= .mk fun _ s W _ _ S _ f _ q=>wpAny_execs_nil (q _ _ _ (Gr.refl _ W s) S f rfl)
end
section
variable{n:Nat}{F:Fx}{ρ am cU:Loc}{H H1 H2 H3:AH}{g:Fl}
theorem af.cons{st}{rest}(h:XT n F st ρ H .next am H1)(hr:af n F rest am H1 g cU H2):af n F (st::rest) ρ H g cU H2:=by
 refine .mk fun A s W env R S E f Q q=>(Wu (h.run A s W env R S E f _ fun fl s1 W1 G1 S1 f1 r1=> ?_));cases r1;exact hr.run A s1 W1 env R S1 E f1 _ fun fl s2 W2 G2 S2 f2 r2=>q fl s2 W2 (G1.trans G2) S2 f2 r2
theorem af.ret{st}{rest}{x}(h:XT n F st ρ H (.ret x) am H1):af n F (st::rest) ρ H (.ret x) am H1:=by
 refine .mk fun A s W env R S E f Q q=>(Wu (h.run A s W env R S E f _ fun fl s1 W1 G1 S1 f1 r1=> ?_));have GB:=r1;obtain⟨v,e,_⟩:=GB;subst e;exact q _ s1 W1 G1 S1 f1 r1
theorem af.sub(h:af n F gp ρ H g am H1)(k:∀n x,ρ'.lookup n=some x→am.lookup n=some x):af n F gp ρ H g ρ' H1:=by
 exact .mk fun A s W env R S E f Q q=>(h.run A s W env R S E f _ fun fl s1 W1 G1 S1 f1 r1=>q fl s1 W1 G1 S1 (f1.sub k) r1)
theorem XT.sub{st}{ρ'}(h:XT n F st ρ H g am H1)(k:∀n x,ρ'.lookup n=some x→am.lookup n=some x):XT n F st ρ H g ρ' H1:=by
 exact .mk fun A s W env R S E f Q q=>(h.run A s W env R S E f _ fun fl s1 W1 G1 S1 f1 r1=>q fl s1 W1 G1 S1 (f1.sub k) r1)
theorem XT.ite{c}(ht:TT n F t ρ H c H1)(h1:c=true→af n F a ρ H1 g am H2)(h2:c=false→af n F b ρ H1 g am H2):
  XT n F (.If t a b pos) ρ H g am H2:=by
 refine .mk fun A s W env R S E f Q q=>(wpAny_If (ht.run A s W env R S E f _ fun s1 W1 G1 S1=> ?_));cases c with
 |true=>exact(h1 rfl).run A s1 W1 env R S1 E (f.step G1) _ fun v s2 W2 G2 S2 f2 r2=>q v s2 W2 (G1.of.trans G2) S2 f2 r2
 |false=>exact(h2 rfl).run A s1 W1 env R S1 E (f.step G1) _ fun v s2 W2 G2 S2 f2 r2=>q v s2 W2 (G1.of.trans G2) S2 f2 r2
theorem XT.ret{x}(h:ET n F e ρ H x H1):XT n F (.Return (some e) pos) ρ H (.ret x) ρ H1:=by
 exact .mk fun A s W env R S E f Q q=>(wpAny_Return_some (h.run A s W env R S E f _ fun v s1 W1 G1 S1 r1=>q _ s1 W1 G1.of S1 (f.step G1) ⟨v,rfl,r1⟩))
theorem XT.GC:XT n F (.Return none pos) ρ H (.ret .none) ρ H:=by
 exact .mk fun A s W env R S E f Q q=>(wpAny_Return_none (q _ s W (Gr.refl ..) S f ⟨_,rfl,rfl⟩))
noncomputable abbrev Ko(F:Fx)(x:Rj):Prop:=∀A s W H ρ env y v,an W H s→az F env→cQ W ρ env s.heap→Rel W y v→
    ∀Q,(∀s',Gr (own env) W s W s'→an W H s'→cQ W ((x,y)::ρ) env s'.heap→Q () s')→wpAny (model prog w) A (storeName env x v) Q aX s
@[irreducible] noncomputable def ST (F:Fx) (x:Rj):Prop:=Ko F x
theorem ST.mk{F x}(h:Ko F x):ST F x:=by delta ST;exact h
theorem ST.run{F x}(h:ST F x):Ko F x:=by delta ST at h;exact h
end
section
variable{n:Nat}{F:Fx}{ρ am cU:Loc}{H H1 H2 H3:AH}{g:Fl}
theorem lookup_cons{y}{ρ:Loc}:((x,y)::ρ).lookup n'=if n'=x then some y else ρ.lookup n':=by
 refine J RG ?_;by_cases h:n'=x
 ·subst h;simp
 ·rw[(show(n'==x)=false by simpa using h),if_neg h]
theorem dM{a}(hs:Sm a h h')(ha:h'.get? a≠none):∀b,h.get? b≠none→h'.get? b≠none:=fun b e=>by
 by_cases hb:b=a
 ·subst hb;exact ha
 ·exact(hs.2 b hb)▸e
theorem xC{a}{env}(hs:Sm a s.heap s'.heap)(ha:s'.heap.get? a≠none)(ho:own env a)(os:s'.os=s.os)(gs:autoParam (s'.gens=s.gens) aI):Gr (own env) W s W s':=
 ⟨W.le_refl,fun _ h=> .inl h,fun _ _ h=> .inl h,fun b o e _ hx=>(hs.2 b fun q=>hx (by subst q;exact ho)).trans e,fun a h _=>dM hs ha a h,os,by exact gs▸fun _ _ h=>h⟩
theorem uj{a}(S:an W H s)(hs:Sm a s.heap s'.heap)(ha:jz W a)(g:s'.gens=s.gens)(ht:s.toks≤s'.toks):an W H s':=
 S.same (fun b o e q=>(hs.2 b fun z=>by subst z;exact q.elim ha.1 fun q=>q ha.2).trans e) (g▸S.bare) ht
theorem ST.local(hk:autoParam (F.names.lookup x=some .local) aK):ST F x:=by
 refine .mk fun A s W H ρ env y v S E f r Q q=> ?_;have hl:env.kindOf x=some .local:=by rw[be E];exact hk
 obtain⟨m,hn,hm⟩:=f.m;refine wpAny_storeName_local hl hn (fun h' MV hs=> ?_) (E.kind▸rfl);refine q _ (xC hs (cg MV) (.inl rfl) rfl) (uj S hs f.sep rfl (Te _)) (⟨⟨_,MV,fun n' x' e k=> ?_⟩,fun n' x' e=> ?_,fun n' x' e k=> ?_,fun n' k=> ?_,f.sep,fun n' c e=> ?_,f.inj⟩)
 ·rw[lookup_cons] at e;by_cases h:n'=x
  ·subst h;replace e:=(if_pos rfl)▸e;cases e;exact⟨v,by simp,r⟩
  ·rw[if_neg h] at e;obtain⟨u,a,b⟩:=hm n' x' e k;exact⟨u,by simp[h,a],b⟩
 ·rw[lookup_cons] at e;by_cases h:n'=x
  ·cases h;exact .inl hl
  ·rw[if_neg h] at e;exact f.kind n' x' e
 ·rw[lookup_cons] at e;by_cases h:n'=x
  ·subst h;exact absurd hl k
  ·rw[if_neg h] at e;obtain⟨c,u,a,b,d⟩:=f.cell n' x' e k;exact⟨c,u,a,b.sameBut hs (f.dC n' c a).2.2.1,d⟩
 ·obtain⟨c,u,a,b⟩:=f.cells n' k;exact⟨c,u,a,b.sameBut hs (f.dC n' c a).2.2.1⟩
 ·obtain⟨a,b,c',d⟩:=f.dC n' c e;exact⟨a,b,c',by exact J (hs.2 c c') d⟩
theorem ST.cell(hk:autoParam (F.names.lookup x=some .cell) aK)(ht:autoParam (F.top=true) aI):ST F x:=by
 refine .mk fun A s W H ρ env y v S E f r Q q=> ?_;have hl:env.kindOf x=some .cell:=by rw[be E];exact hk
 obtain⟨c,v0,hc,hv⟩:=f.cells x hl;obtain⟨h1,h2,h3,h4⟩:=f.dC x c hc;refine wpAny_storeName_cell E.kind hl hc hv fun h' pN hs=> ?_;have JA:h'.get? c≠none:=by obtain⟨o,ho,_⟩:=pN;exact ho▸nofun
 refine q _ (xC hs JA (.inr ⟨E.top ht x c hl hc,x,hl,hc⟩) rfl) (uj S hs ⟨h1,h2⟩ rfl (QM _)) ?_;obtain⟨m,hn,hm⟩:=f.m;have other:∀n' c',n'≠x→env.cells.lookup n'=some c'→c'≠c:=fun n' c' aU e z=>by cases z;exact aU (f.inj n' x _ e hc)
 refine⟨⟨m,hn.sameBut hs (Se h3),fun n' x' e k=> ?_⟩,fun n' x' e=> ?_,fun n' x' e k=> ?_,fun n' k=> ?_,f.sep,fun n' c' e=> ?_,f.inj⟩
 ·rw[lookup_cons] at e;by_cases h:n'=x
  ·subst h;cases hl.symm.trans k
  ·rw[if_neg h] at e;exact hm n' x' e k
 ·replace e:=lookup_cons▸e;by_cases h:n'=x
  ·cases h;exact .inr (.inl hl)
  ·rw[if_neg h] at e;exact f.kind n' x' e
 ·rw[lookup_cons] at e;by_cases h:n'=x
  ·subst h;replace e:=(if_pos rfl)▸e;cases e;exact⟨c,v,hc,pN,r⟩
  ·rw[if_neg h] at e;obtain⟨c',u,a,b,d⟩:=f.cell n' x' e k;exact⟨c',u,a,b.sameBut hs (other n' c' h a),d⟩
 ·by_cases h:n'=x
  ·cases h;exact⟨c,_,hc,pN⟩
  ·obtain⟨c',u,a,b⟩:=f.cells n' k;exact⟨c',u,a,b.sameBut hs (other n' c' h a)⟩
 ·obtain⟨a,b,Oo,d⟩:=f.dC n' c' e;refine⟨a,b,Oo, ?_⟩;by_cases h:c'=c
  ·cases h;exact JA
  ·exact(hs.2 c' h)▸d
noncomputable abbrev Kq(n:Nat)(F:Fx)(t:SD)(x:V)(ρ:Loc)(H:AH)(ρ':Loc)(H':AH):Prop:=∀A s W env v,aB A n→an W H s→az F env→cQ W ρ env s.heap→Rel W x v→
    ∀Q,(∀s' W',Gr (own env) W s W' s'→an W' H' s'→cQ W' ρ' env s'.heap→Q () s')→wpAny (model prog w) A (Xa t env v) Q aX s
@[irreducible] noncomputable def AT (n:Nat) (F:Fx) (t:SD) (x:V) (ρ:Loc) (H:AH) (ρ':Loc) (H':AH):Prop:=Kq n F t x ρ H ρ' H'
theorem AT.mk{n F t x ρ H ρ' H'}(h:Kq n F t x ρ H ρ' H'):AT n F t x ρ H ρ' H':=by delta AT;exact h
theorem AT.run{n F t x ρ H ρ' H'}(h:AT n F t x ρ H ρ' H'):Kq n F t x ρ H ρ' H':=by delta AT at h;exact h
theorem AT.name(h:ST F x):AT n F (.Name x pos) y ρ H ((x,y)::ρ) H:=by
 exact .mk fun A s W env v R S E f r Q q=>(Vr (h.run A s W H ρ env y v S E f r _ fun s' G S' f'=>q s' W G S' f'))
theorem AT.loc(hk:autoParam (F.names.lookup x=some .local) aK):AT n F (.Name x pos) y ρ H ((x,y)::ρ) H:=AT.name (ST.local hk)
noncomputable abbrev D3(n:Nat)(F:Fx)(ts:List SD)(xs:List V)(ρ:Loc)(H:AH)(ρ':Loc)(H':AH):Prop:=∀A s W env vs,aB A n→an W H s→az F env→cQ W ρ env s.heap→aj W xs vs→
    ∀Q,(∀s' W',Gr (own env) W s W' s'→an W' H' s'→cQ W' ρ' env s'.heap→Q () s')→wpAny (model prog w) A (Wk ((Ut ts env).map (·.2)) vs) Q aX s
@[irreducible] noncomputable def aW (n:Nat) (F:Fx) (ts:List SD) (xs:List V) (ρ:Loc) (H:AH) (ρ':Loc) (H':AH):Prop:=D3 n F ts xs ρ H ρ' H'
theorem aW.mk{n F ts xs ρ H ρ' H'}(h:D3 n F ts xs ρ H ρ' H'):aW n F ts xs ρ H ρ' H':=by delta aW;exact h
theorem aW.run{n F ts xs ρ H ρ' H'}(h:aW n F ts xs ρ H ρ' H'):D3 n F ts xs ρ H ρ' H':=by delta aW at h;exact h
theorem aW.nil:aW n F [] [] ρ H ρ H:=by
 refine .mk fun A s W env vs R S E f r Q q=> ?_;cases r;exact QO (q s W (Gr.refl ..) S f)
theorem aW.cons{x}{xs}(h:AT n F t x ρ H am H1)(hr:aW n F ts xs am H1 cU H2)
  (he:autoParam (∀env,Ut (t::ts) env=(false,Xa t env)::Ut ts env) aI):aW n F (t::ts) (x::xs) ρ H cU H2:=by
 refine .mk fun A s W env vs R S E f r Q q=> ?_;obtain⟨v,us,e,r1,r2⟩:=r;subst e;refine J (he env) (QL (wpAny_holding (h.run A s W env v R S E f r1 _ fun s1 W1 G1 S1 f1=> ?_)));exact hr.run A s1 W1 env us R S1 E f1 (r2.mono G1.le) _ fun s2 W2 G2 S2 f2=>q s2 W2 (G1.trans G2) S2 f2
theorem fP(S:an W H s){a}{vs}{k}(h:W.I a=some (sq "tuple" vs k)):s.heap.IsTuple a vs.toArray:=⟨_,S.cq _ _ h,rfl,k,rfl⟩
theorem aA(S:an W H s){a}{vs}{k}(h:W.I a=some (sq "list" vs k)):s.heap.IsList a vs.toArray:=⟨_,S.cq _ _ h,rfl,k,rfl⟩
theorem sb{h'}{t}(hx:U0 s.heap.objs.size s.heap h'):Gr X W s W {s with heap:=h',toks:=t}:=by
 have k:=fun a o e=>hx a o (Sw (Rq e)) e;exact⟨W.le_refl,fun _ h=> .inl h,fun _ _ h=> .inl h,fun b o e _ _=>k b o e,fun a h _=>br k a h,rfl,fun _ _ h=>h⟩
theorem oo(S:an W H s)(hx:U0 s.heap.objs.size s.heap h')(ht:autoParam (s.toks≤t) aN):an W H {s with heap:=h',toks:=t}:=
 S.same (fun a o e _=>hx a o (Sw (Rq e)) e) S.bare ht
theorem AT.tuple{xs}(h:aW n F ts xs ρ H am H1)(hn:autoParam (∀env,(Ut ts env).length=xs.length) aI)
  (xD:autoParam (∀env,(Ut ts env).findIdx? (·.1)=none) aI):AT n F (.Tuple ts k pos) (.tup xs) ρ H am H1:=by
 refine .mk fun A s W env v R S E f r Q q=> ?_;obtain⟨a,vs,m,e,i,r,_⟩:=r;subst e;refine wpAny_assign_Tuple R.handled (fP S i) (J (hn ..) (J (Re ..) (J (r.length ..) rfl))) (xD env) fun h' hx=> ?_;have G:=sb (X:=cr) (W:=W) (t:=s.toks) hx;exact h.run A _ W env vs R (oo S hx) E (f.step G) (r) _ fun s2 W2 G2 S2 f2=>q s2 W2 (G.of.trans G2) S2 f2
theorem AT.ly{xs}(h:aW n F ts xs ρ H am H1)(hn:autoParam (∀env,(Ut ts env).length=xs.length) aI)
  (xD:autoParam (∀env,(Ut ts env).findIdx? (·.1)=none) aI):AT n F (.Tuple ts k pos) (.lst xs) ρ H am H1:=by
 refine .mk fun A s W env v R S E f r Q q=> ?_;obtain⟨a,vs,m,e,i,r,_⟩:=r;subst e;refine J (arm_assign_Tuple ..) (bA ?_)
 delta unpack
 refine J (xD env) (J (hn env) ?_);refine QL (wpAny_holding ?_);have:=kun_itemsOf (prog:=prog) (w:=w) (E:=aX) (Q:=fun items s'=>wpAny (model prog w) A (Wk ((Ut ts env).map (·.2)) items) Q aX s') R.handled (aA S i) fun h' hx=> ?_
 ·exact r.length▸Re▸this
 ·have G:=sb (X:=cr) (W:=W) (t:=s.toks) hx;exact h.run A _ W env vs R (oo S hx) E (f.step G) (r) _ fun s2 W2 G2 S2 f2=>q s2 W2 (G.of.trans G2) S2 f2
noncomputable abbrev D4(n:Nat)(F:Fx)(ts:List SD)(x:V)(ρ:Loc)(H:AH)(ρ':Loc)(H':AH):Prop:=∀A s W env v,aB A n→an W H s→az F env→cQ W ρ env s.heap→Rel W x v→
    ∀Q,(∀s' W',Gr (own env) W s W' s'→an W' H' s'→cQ W' ρ' env s'.heap→Q () s')→wpAny (model prog w) A (assignAll v ((Ut ts env).map (·.2))) Q aX s
@[irreducible] noncomputable def bv (n:Nat) (F:Fx) (ts:List SD) (x:V) (ρ:Loc) (H:AH) (ρ':Loc) (H':AH):Prop:=D4 n F ts x ρ H ρ' H'
theorem bv.mk{n F ts x ρ H ρ' H'}(h:D4 n F ts x ρ H ρ' H'):bv n F ts x ρ H ρ' H':=by delta bv;exact h
theorem bv.run{n F ts x ρ H ρ' H'}(h:bv n F ts x ρ H ρ' H'):D4 n F ts x ρ H ρ' H':=by delta bv at h;exact h
theorem bv.one(h:AT n F t x ρ H am H1)(he:autoParam (∀env,Ut [t] env=[(false,Xa t env)]) aI):bv n F [t] x ρ H am H1:=by
 exact .mk fun A s W env v R S E f r Q q=>((he env)▸h.run A s W env v R S E f r Q q)
theorem bv.two{x}(h:AT n F t x ρ H am H1)(h':AT n F t' x am H1 cU H2)(he:autoParam (∀env,Ut [t,t'] env=[(false,Xa t env),(false,Xa t' env)]) aI):
  bv n F [t,t'] x ρ H cU H2:=by
 refine .mk fun A s W env v R S E f r Q q=>(J (he env) ?_);refine QL (wpAny_holding (h.run A s W env v R S E f r _ fun s1 W1 G1 S1 f1=> ?_));exact h'.run A s1 W1 env v R S1 E f1 (r.mono G1.le) _ fun s2 W2 G2 S2 f2=>q s2 W2 (G1.trans G2) S2 f2
theorem XT.assign{e}{pos}{x}(he:ET n F e ρ H x H1)(h:bv n F ts x ρ H1 am H2)
  (hs:autoParam (∀env,Zr ts e pos.line env=pure false) aI) (hw:autoParam (∀env,az F env→TJ ts e env=pure none) aI):
  XT n F (.Assign ts e pos) ρ H .next am H2:=by
 refine .mk fun A s W env R S E f Q q=>(aaD (he.run A s W env R S E f _ fun v s1 W1 G1 S1 r1=> ?_) (hs env) (hw env E));exact h.run A s1 W1 env v R S1 E (f.step G1) r1 _ fun s2 W2 G2 S2 f2=>q _ s2 W2 (G1.of.trans G2) S2 f2 rfl
noncomputable def Kr(F:Fx):List Rj→Prop
 |[]=>True
 |x::r=>ST F x∧Kr F r
theorem bindAll A:∀xs ys s W H ρ env vs,Kr F xs→xs.length=ys.length→an W H s→az F env→cQ W ρ env s.heap→aj W ys vs→
  ∀Q,(∀s',Gr (own env) W s W s'→an W H s'→cQ W ((xs.zip ys).reverse++ρ) env s'.heap→Q () s')→wpAny (model prog w) A (Wk (xs.map fun n=>bindName env n) vs) Q aX s:=by
 intro xs
 induction xs with
 |nil=>
  intro ys s W H ρ env vs _ hl S E f r Q q;cases ys with
  |nil=>cases r;exact QO (q s (Gr.refl ..) S f)
  |cons _ _=>cases hl
 |cons x xs ih=>
  intro ys s W H ρ env vs b hl S E f r Q q;cases ys with
  |nil=>cases hl
  |cons y ys=>
   obtain⟨v,us,e,r1,r2⟩:=r;subst e;refine QL (wpAny_holding (wpAny_bindName (b.1.run A s W H ρ env y v S E f r1 _ fun s1 G1 S1 f1=> ?_)));refine ih ys s1 W H _ env us b.2 (Vz hl) S1 E f1 r2 Q fun s2 G2 S2 f2=>q s2 (G1.trans G2) S2 ?_;simpa using f2
theorem aj.append:∀{l l'}{vs Ks},aj W l vs→aj W l' Ks→aj W (l++l') (vs++Ks):=by
 intro rv
 induction rv with
 |nil=>
  intro _ _ _ h h';cases h;exact h'
 |cons _ _ ih=>
  rintro _ _ _ ⟨v,r,e,a,h⟩ h';subst e;exact⟨v,_,rfl,a,ih h h'⟩
theorem aj.reverse:∀{l}{vs},aj W l vs→aj W l.reverse vs.reverse:=by
 intro rv
 induction rv with
 |nil=>
  intro _ h;cases h;rfl
 |cons x l ih=>
  rintro _ ⟨v,r,e,a,h⟩;subst e;exact J Sg (J Sg ((aj.append (ih h) ⟨v,[],rfl,a,rfl⟩)))
theorem XT.fQ{e}{pos}{ys}{xs}(he:ET n F e ρ H (.tup ys) H1)(hb:Kr F xs.reverse)(hl:xs.length=ys.length)
  (hs:∀env,Zr ts e pos.line env=pure false) (hw:∀env,az F env→TJ ts e env=pure (some xs)):
  XT n F (.Assign ts e pos) ρ H .next ((xs.reverse.zip ys.reverse).reverse++ρ) H1:=by
 refine .mk fun A s W env R S E f Q q=>(J (exec_Assign_arm ..) (J (hs env) ?_));refine bA (bP ?_);refine QL (he.run A s W env R S E f _ fun v s1 W1 G1 S1 r1=> ?_);refine J (hw env E) (bP ?_);show wpAny _ _ (do
   rule "assign.swapped-stores"
   let items ←unpackItems v xs.length none
   Wk (xs.reverse.map fun n=>bindName env n) items.reverse
   pure Flow.next) Q aX s1
 obtain⟨a,vs,m,e',i,r,_⟩:=r1;subst e';refine bR (QL ?_);have:=wpAny_unpackItems_tuple (prog:=prog) (w:=w) (E:=aX) (Q:=fun items s'=>wpAny (model prog w) A (Wk (xs.reverse.map fun n=>bindName env n) items.reverse>>=fun _=>pure Flow.next) Q aX s') R.handled (fP S1 i) fun h' hx=> ?_
 ·exact hl.symm▸r.length▸Re▸this
 ·have G:=sb (X:=cr) (W:=W1) (t:=s1.toks) hx;refine QL (bindAll A xs.reverse ys.reverse _ W1 H1 ρ env vs.reverse hb (by simpa using hl) (oo S1 hx) E ((f.step G1).step G) r.reverse _ fun s2 G2 S2 f2=>QO ?_);exact q _ s2 W1 ((G1.of.trans G.of).trans G2) S2 f2 rfl
end
mutual
noncomputable def V.data:V→Option PyData
 | .none=>some .none
 | .bool b=>some (.bool b)
 | .int i=>some (.int i)
 | .str x=>some (.str x)
 | .lit x=>some (.str x)
 | .tup l=>(ed l).map .tuple
 | .lst l=>(ed l).map .list
 | .bw _=>none
 | .ref _=>none
 | .st _=>none
 | .bm _ _=>none
 | .pm _ _=>none
 | .vw _ _=>none
 | .dst _=>none
 | .raw _ _=>none
noncomputable def ed:List V→Option (List PyData)
 |[]=>some []
 |x::l=>x.data.bind fun d=>(ed l).map fun ds=>d::ds
end
theorem eN x l:ed (x::l)=x.data.bind fun d=>(ed l).map fun ds=>d::ds:=rfl
noncomputable def gC(H:AH):V→Option PyData
 | .ref i=>match H[i]? with
  |some (some (.list l))=>(ed l).map .list
  |_=>none
 |x=>x.data
mutual
theorem gD(k:∀a o,W.I a=some o→h.get? a=some o):∀{x}{v}{d},Rel W x v→x.data=some d→∃as,Reads h v d as
 | .none,_,_,r,e=>by cases r;cases e;exact⟨_, .none⟩
 | .bool b,_,_,r,e=>by cases r;cases e;exact⟨_, .bool b⟩
 | .int i,_,_,r,e=>by obtain⟨t,rfl⟩:=r;cases e;exact⟨_, .int i t⟩
 | .str x,_,_,r,e=>by obtain⟨t,rfl,_⟩:=r;cases e;exact⟨_, .str x t⟩
 | .lit x,_,_,r,e=>by obtain⟨t,rfl,_⟩:=r;cases e;exact⟨_, .str x t⟩
 | .tup l,_,d,r,e=>by
  obtain⟨a,vs,n,rfl,i,r,_⟩:=r;obtain⟨ds,e',rfl⟩:=Tt.mp (e);obtain⟨as,q⟩:=g7 k r e';exact⟨_, .tuple (k _ _ i) rfl rfl q⟩
 | .lst l,_,d,r,e=>by
  obtain⟨a,vs,n,rfl,i,r,_⟩:=r;obtain⟨ds,e',rfl⟩:=Tt.mp (e);obtain⟨as,q⟩:=g7 k r e';exact⟨_, .list (k _ _ i) rfl rfl q⟩
 | .bw _,_,_,_,e=>by cases e
 | .ref _,_,_,_,e=>by cases e
 | .st _,_,_,_,e=>by cases e
 | .bm _ _,_,_,_,e=>by cases e
 | .pm _ _,_,_,_,e=>by cases e
 | .vw _ _,_,_,_,e=>by cases e
 | .dst _,_,_,_,e=>by cases e
 | .raw _ _,_,_,_,e=>by cases e
theorem g7(k:∀a o,W.I a=some o→h.get? a=some o):∀{l}{vs}{ds},aj W l vs→ed l=some ds→∃as,ReadsAll h vs ds as
 |[],_,_,r,e=>by cases r;cases e;exact⟨_, .nil⟩
 |x::l,_,ds,⟨v,us,e1,r1,r2⟩,e=>by
  subst e1;rw[eN,Option.bind_eq_some_iff] at e;obtain⟨d,h1,e⟩:=e;obtain⟨MW,h2,rfl⟩:=Tt.mp e;obtain⟨as,q⟩:=gD k r1 h1;obtain⟨bs,q'⟩:=g7 k r2 h2;exact⟨_, .cons q q'⟩
end
section
variable{n:Nat}{F:Fx}{ρ am cU:Loc}{H H1 H2 H3:AH}{g:Fl}
theorem g8(S:an W H s){x}{v}{d}(r:Rel W x v)(e:gC H x=some d):∃as,Reads s.heap v d as:=by
 cases x with
 |ref i=>
  cases hl:H[i]? with
  |none=>have e:(match H[i]? with|some (some (.list l))=>(ed l).map .list|_=>none)=some d:=e;replace e:=hl▸e;cases e
  |some o=>
   have e:(match H[i]? with|some (some (.list l))=>(ed l).map .list|_=>none)=some d:=e;replace e:=hl▸e;cases o with
   |none=>cases e
   |some ob=>
    cases ob with
    |list l=>
     obtain⟨a,rfl,p⟩:=r;obtain⟨a',p',_,vs,m,ho,r,_⟩:=S.live i _ hl;cases p▸p';obtain⟨ds,e',rfl⟩:=Tt.mp e;obtain⟨as,q⟩:=g7 S.cq r e';exact⟨_, .list ho rfl rfl q⟩
    |_=>cases e
 |_=>exact gD S.cq r e
theorem OT.aY{x y}{b}
  (h:∀A s W(a c:Value),aB A n→an W H s→Rel W x a→Rel W y c→∀Q,(∀tk,Q (.bool b) {s with toks:=tk})→wpAny (model prog w) A (t a c) Q aX s):
  OT n t x y H (.bool b) H:= .mk fun A s W a c R S ra rc Q q=>wpAny_toks (h A s W a c R S ra rc _ fun tk ht=>q _ _ W (Gr.dD W s tk) (S.tok tk ht) rfl)
theorem OT.dG{x y}{i}
  (h:∀A s W(a c:Value),aB A n→an W H s→Rel W x a→Rel W y c→∀Q,(∀tk u,Q (.int i u) {s with toks:=tk})→wpAny (model prog w) A (t a c) Q aX s):
  OT n t x y H (.int i) H:= .mk fun A s W a c R S ra rc Q q=>wpAny_toks (h A s W a c R S ra rc _ fun tk u ht=>q _ _ W (Gr.dD W s tk) (S.tok tk ht) ⟨u,rfl⟩)
theorem OT.add_int:OT n (VQ .Add) (.int a) (.int b) H (.int (a+b)) H:=OT.dG fun A s W x y R S ra rb Q q=>by
 obtain⟨t,rfl⟩:=ra;obtain⟨u,rfl⟩:=rb;exact Zy (q _ _)
theorem OT.floordiv_int{a b}(hb:b≠0)(hp:Xo a b=false):OT n (VQ .FloorDiv) (.int a) (.int b) H (.int (a.fdiv b)) H:=OT.dG fun A s W x y R S ra rb Q q=>by
 obtain⟨t,rfl⟩:=ra;obtain⟨u,rfl⟩:=rb;exact PyProof.Rows.floordiv_int hb (q _ _) (Or.inl hp)
theorem OT.mod_int{a b}(hb:b≠0):OT n (VQ .Mod) (.int a) (.int b) H (.int (a.fmod b)) H:=OT.dG fun A s W x y R S ra rb Q q=>by
 obtain⟨t,rfl⟩:=ra;obtain⟨u,rfl⟩:=rb;exact PyProof.Rows.mod_int' hb (q _ _)
theorem OT.lt_int:OT n (RZ .Lt) (.int a) (.int b) H (.bool (decide (a<b))) H:=OT.aY fun A s W x y R S ra rb Q q=>by
 obtain⟨t,rfl⟩:=ra;obtain⟨u,rfl⟩:=rb;exact PySem.P.lt_int (q _)
theorem OT.gt_int:OT n (RZ .Gt) (.int a) (.int b) H (.bool (decide (a>b))) H:=OT.aY fun A s W x y R S ra rb Q q=>by
 obtain⟨t,rfl⟩:=ra;obtain⟨u,rfl⟩:=rb;exact PySem.P.gt_int (q _)
theorem OT.eq_int:OT n (RZ .Eq) (.int a) (.int b) H (.bool (a==b)) H:=OT.aY fun A s W x y R S ra rb Q q=>by
 obtain⟨t,rfl⟩:=ra;obtain⟨u,rfl⟩:=rb;exact PySem.P.eq_int (q _)
theorem OT.is_none(h:∀W v,Rel W x v→(v== .none)=b):OT n (RZ .Is) x .none H (.bool b) H:=OT.aY fun A s W a c R S ra rc Q q=>by
 cases rc;exact PySem.is_none ((h W a ra)▸q s.toks)
theorem OT.isNot_none(h:∀W v,Rel W x v→(v== .none)=b):OT n (RZ .IsNot) x .none H (.bool (!b)) H:=OT.aY fun A s W a c R S ra rc Q q=>by
 cases rc;exact PySem.isNot_none ((h W a ra)▸q s.toks)
theorem OT.eq{a b}(ha:gC H x=some a)(hb:gC H y=some b)(ca:TP a=true)(cb:TP b=true):OT (n+8) (RZ .Eq) x y H (.bool (TS a b)) H:=
 OT.aY fun A s W u v R S ru rv Q q=>by
  obtain⟨as,p⟩:=g8 S ru ha;obtain⟨bs,p'⟩:=g8 S rv hb;exact SeqAt.compareEq_shaped p p' ca cb (by have:=R.units;lia) (q s.toks)
theorem OT.ne{a b}(ha:gC H x=some a)(hb:gC H y=some b)(ca:TP a=true)(cb:TP b=true):OT (n+8) (RZ .NotEq) x y H (.bool (!TS a b)) H:=
 OT.aY fun A s W u v R S ru rv Q q=>by
  obtain⟨as,p⟩:=g8 S ru ha;obtain⟨bs,p'⟩:=g8 S rv hb;exact SeqAt.compareNe_shaped p p' ca cb (by have:=R.units;lia) (q s.toks)
theorem OT.oq{x y}{z}(hz:z.length≤QW)
  (h:∀A s W(a c:Value),aB A n→an W H s→Rel W x a→Rel W y c→∀Q,(∀tk u,Q (.str z u) {s with toks:=tk})→wpAny (model prog w) A (t a c) Q aX s):
  OT n t x y H (.str z) H:= .mk fun A s W a c R S ra rc Q q=>wpAny_toks (h A s W a c R S ra rc _ fun tk u ht=>q _ _ W (Gr.dD W s tk) (S.tok tk ht) ⟨u,rfl,hz⟩)
theorem OT.add_str(hz:x.length+y.length≤QW):OT n (VQ .Add) (.str x) (.str y) H (.str (x++y)) H:=OT.oq (J (Q7 ..) hz) fun A s W a c R S ra rb Q q=>by
 obtain⟨t,rfl,_⟩:=ra;obtain⟨u,rfl,_⟩:=rb;exact SB.add (fun t' k=>q _ _) hz
theorem OT.in_str{x y}:OT n (RZ .In) (.str y) (.str x) H (.bool (SS x y)) H:=OT.aY fun A s W a c R S ra rb Q q=>by
 obtain⟨t,rfl,_⟩:=ra;obtain⟨u,rfl,_⟩:=rb;exact SB.contains (q s.toks)
theorem OT.eq_str:OT n (RZ .Eq) (.str x) (.str y) H (.bool (x==y)) H:=OT.aY fun A s W a c R S ra rb Q q=>by
 obtain⟨t,rfl,_⟩:=ra;obtain⟨u,rfl,_⟩:=rb;exact SeqAt.RcAt.str_str x t y u prog w aX Q (q s.toks)
noncomputable def GD(y:Rj):List V→Option Bool
 |[]=>some false
 | .str x::l=>(GD y l).map (x==y||·)
 |_=>none
end
section
variable{n:Nat}{F:Fx}{ρ am cU:Loc}{H H1 H2 H3:AH}{g:Fl}
theorem OB.none:OB n .none H false:= .mk fun A s W a R S r Q q=>by cases r;exact fun _ _ _=>q s W (Gr.refl ..) S
theorem OB.bool:OB n (.bool b) H b:= .mk fun A s W a R S r Q q=>by cases r;exact X9 (q s W (Gr.refl ..) S)
theorem OB.int:OB n (.int i) H (i !=0):= .mk fun A s W a R S r Q q=>by obtain⟨t,rfl⟩:=r;exact P.truthy_int (q s W (Gr.refl ..) S)
theorem OB.str:OB n (.str x) H (x.length !=0):= .mk fun A s W a R S r Q q=>by
 obtain⟨t,rfl,hz⟩:=r;have e:((x.length:Int) !=0)=(x.length !=0):=by cases h:x.length<;>simp;lia
 have hb:QW<2^62:=dc;exact P.truthy_str (by lia) (e▸q _ W (Gr.dD W s _) (S.tok _))
theorem OB.lst:OB n (.lst l) H (!l.isEmpty):= .mk fun A s W a R S r Q q=>by
 obtain⟨a,vs,m,rfl,i,r,hz⟩:=r;have hb:QW<2^62:=dc;refine wpAny_truthy_list (aA S i) (by refine J Re (J r.length ?_);lia) ?_;have e:(!vs.toArray.isEmpty)= !l.isEmpty:=by
  have:=r.length;cases vs<;>cases l<;>simp_all
 exact e▸q _ W (Gr.dD W s _) (S.tok _)
theorem OB.ah(hi:H[i]?=some (some (.list l))):OB n (.ref i) H (!l.isEmpty):= .mk fun A s W a R S r Q q=>by
 obtain⟨a,rfl,p⟩:=r;obtain⟨a',p',_,vs,m,ho,r,hz⟩:=S.live i _ hi;replace p':=p▸p';cases p';have hb:QW<2^62:=dc;refine wpAny_truthy_list ⟨_,ho,rfl,m,rfl⟩ (by refine J Re (J r.length ?_);lia) ?_;have e:(!vs.toArray.isEmpty)= !l.isEmpty:=by
  have:=r.length;cases vs<;>cases l<;>simp_all
 exact e▸q _ W (Gr.dD W s _) (S.tok _)
theorem j1.neg:j1 n (unaryOp .USub) (.int i) H (.int (-i)) H:= .mk fun A s W a R S r Q q=>by
 obtain⟨t,rfl⟩:=r;exact P.neg_int (q _ _ W (Gr.dD W s _) (S.tok _) ⟨_,rfl⟩)
end
section
variable{n:Nat}{F:Fx}{ρ am cU:Loc}{H H1 H2 H3 H4 H5:AH}{g:Fl}
noncomputable abbrev Kt(H:AH)(x:V)(T:String):Prop:=∀s W v,an W H s→Rel W x v→s.TypeIs v T
@[irreducible] noncomputable def Ty (H:AH) (x:V) (T:String):Prop:=Kt H x T
theorem Ty.mk{H x T}(h:Kt H x T):Ty H x T:=by delta Ty;exact h
theorem Ty.run{H x T}(h:Ty H x T):Kt H x T:=by delta Ty at h;exact h
theorem Ty.str:Ty H (.str x) "str":= .mk fun _ _ _ _ r=>by obtain⟨t,rfl,_⟩:=r;exact To _ _ _
theorem Ty.lst:Ty H (.lst l) "list":= .mk fun _ _ _ S r=>by obtain⟨a,vs,m,rfl,i,_⟩:=r;exact(aA S i).typeIs
theorem Ty.tup:Ty H (.tup l) "tuple":= .mk fun _ _ _ S r=>by obtain⟨a,vs,m,rfl,i,_⟩:=r;exact(fP S i).typeIs
theorem Ty.bw:Ty H (.bw l) "dict":= .mk fun _ _ _ S r=>by obtain⟨a,vs,m,rfl,i,_⟩:=r;exact⟨_,S.cq _ _ i,rfl⟩
theorem Ty.ah(hi:H[i]?=some (some (.list l))):Ty H (.ref i) "list":= .mk fun _ _ _ S r=>by
 obtain⟨a,rfl,p⟩:=r;obtain⟨a',p',_,vs,m,ho,r,hz⟩:=S.live i _ hi;replace p':=p▸p';cases p';exact⟨_,ho,rfl⟩
theorem Ty.iV(hi:H[i]?=some (some (.dict l))):Ty H (.ref i) "dict":= .mk fun _ _ _ S r=>by
 obtain⟨a,rfl,p⟩:=r;obtain⟨a',p',_,vs,m,ho,r,hz⟩:=S.live i _ hi;replace p':=p▸p';cases p';exact⟨_,ho,rfl⟩
theorem uk{o i}{T id}{Q}{E}(hT:s.TypeIs o T)
  (hl:Vj (.type T) "__getitem__"=pure (some (.builtin id))) (h:wpAny (model prog w) A (U2 o i) Q E s):wpAny (model prog w) A (subscriptTail value slice o i) Q E s:=by
 refine QL (J (getitemInPython_of_ne hT.not_modules) ?_);refine bY hT hl ?_;have fin:∀ops,wpAny (model prog w) A (operate ops (U2 o i)) (fun r gq=>wpAny (model prog w) A (letTemporaryGo value o r>>=fun _=>pure r) Q E gq) E s:=
  fun ops=>wpAny_operating (Ri h (fun r gq m8=>QL (wpAny_letTemporaryGo (QO m8))) fun _ _ x=>x)
 refine QO (QL ?_);cases slice with
 |Slice _ _ c _=>cases c<;>exact fin _
 |_=>exact fin _
theorem ET.sub{x y z}{T id}(hv:ET n F value ρ H x H1)(hs:ET n F slice ρ H1 y H2)(hT:Ty H2 x T)
  (hl:Vj (.type T) "__getitem__"=pure (some (.builtin id))) (ho:OT n U2 x y H2 z H3):ET n F (.Subscript value slice pos) ρ H z H3:=by
 refine .mk fun A s W env R S E f Q q=>(Subscript_ (hv.run A s W env R S E f _ fun a s1 W1 G1 S1 r1=>hs.run A s1 W1 env R S1 E (f.step G1) _ fun b s2 W2 G2 S2 r2=> ?_));exact uk (hT.run s2 W2 a S2 (r1.mono G2.le)) hl (ho.run A s2 W2 a b R S2 (r1.mono G2.le) r2 _ fun v s3 W3 G3 S3 r3=>q v s3 W3 ((G1.trans G2).trans G3) S3 r3)
noncomputable abbrev Ku(n:Nat)(F:Fx)(e:Option SD)(ρ:Loc)(H:AH)(k:Option Int):Prop:=∀A s W env,aB A n→an W H s→az F env→cQ W ρ env s.heap→
    ∀Q,(∀v s' W',Gr cr W s W' s'→an W' H s'→IsPart v k→Q v s')→wpAny (model prog w) A (evalPart e env) Q aX s
@[irreducible] noncomputable def PT (n:Nat) (F:Fx) (e:Option SD) (ρ:Loc) (H:AH) (k:Option Int):Prop:=Ku n F e ρ H k
theorem PT.mk{n F e ρ H k}(h:Ku n F e ρ H k):PT n F e ρ H k:=by delta PT;exact h
theorem PT.run{n F e ρ H k}(h:PT n F e ρ H k):Ku n F e ρ H k:=by delta PT at h;exact h
theorem PT.none:PT n F Q6 ρ H Q6:= .mk fun _ s W _ _ S _ _ _ q=>QO (q _ s W (Gr.refl ..) S .none)
theorem PT.some(h:ET n F e ρ H (.int i) H):PT n F (aaY e) ρ H (aaY i):= .mk fun A s W env R S E f Q q=>
 h.run A s W env R S E f _ fun v s1 W1 G1 S1 r1=>by obtain⟨t,rfl⟩:=r1;exact q _ s1 W1 G1 S1 (.int i t)
noncomputable abbrev Kv(n:Nat)(x:V)(lo hi st:Option Int)(H:AH)(z:V)(H':AH):Prop:=∀A s W o a(vl vu vs:Value),aB A n→an W H s→Rel W x o→s.heap.IsSliceOf a vl vu vs→IsPart vl lo→IsPart vu hi→IsPart vs st→
    ∀Q,(∀v s' W',Gr cr W s W' s'→an W' H' s'→Rel W' z v→Q v s')→wpAny (model prog w) A (U2 o (.ref a)) Q aX s
@[irreducible] noncomputable def GT (n:Nat) (x:V) (lo hi st:Option Int) (H:AH) (z:V) (H':AH):Prop:=Kv n x lo hi st H z H'
theorem GT.mk{n x lo hi st H z H'}(h:Kv n x lo hi st H z H'):GT n x lo hi st H z H':=by delta GT;exact h
theorem GT.run{n x lo hi st H z H'}(h:GT n x lo hi st H z H'):Kv n x lo hi st H z H':=by delta GT at h;exact h
theorem an.cm(S:an W H s) o:an W H {s with heap:=s.heap.push o}:=S.same (fun _ _ e _=>QT _ e) S.bare
theorem Gr.cm W s o:Gr X W s W {s with heap:=s.heap.push o}:=
 ⟨W.le_refl,fun _ h=> .inl h,fun _ _ h=> .inl h,fun _ _ e _ _=>QT _ e,fun a h _=>br (fun _ _ e=>QT _ e) a h,rfl,fun _ _ h=>h⟩
theorem ET.slice{lo hi st}{p pos}{x z}{k1 k2 k3}{T id}(hv:ET n F value ρ H x H1)(h1:PT n F lo ρ H1 k1)(h2:PT n F hi ρ H1 k2)(h3:PT n F st ρ H1 k3)
  (hT:Ty H1 x T) (hl:Vj (.type T) "__getitem__"=pure (some (.builtin id))) (ho:GT n x k1 k2 k3 H1 z H2):
  ET n F (.Subscript value (.Slice lo hi st p) pos) ρ H z H2:=by
 refine .mk fun A s W env R S E f Q q=>(Subscript_ (hv.run A s W env R S E f _ fun a s1 W1 G1 S1 r1=> ?_));have f1:=f.step G1;refine wpAny_Slice (h1.run A s1 W1 env R S1 E f1 _ fun v2 s2 W2 G2 S2 p2=>h2.run A s2 W2 env R S2 E (f1.step G2) _ fun v3 s3 W3 G3 S3 p3=>h3.run A s3 W3 env R S3 E ((f1.step G2).step G3) _ fun v4 s4 W4 G4 S4 p4=> ?_);have G:=(G2.trans G3).trans G4;have r:=r1.mono G.le;have S5:=S4.cm {cls:= .type "slice",data:= .fields #[v2,v3,v4]};refine uk (hT.run _ W4 a S5 r) hl (ho.run A _ W4 a _ v2 v3 v4 R S5 r (X0 ..) p2 p3 p4 _ fun v s6 W6 G6 S6 r6=>q v s6 W6 (((G1.trans G).trans (Gr.cm W4 s4 {cls:= .type "slice",data:= .fields #[v2,v3,v4]})).trans G6) S6 r6)
theorem aj.get:∀{l}{vs}{i:Nat}{x},aj W l vs→l[i]?=some x→∃v,vs[i]?=some v∧Rel W x v
 |_::_,_,0,_,⟨v,_,e,r,_⟩,h=>by subst e;cases h;exact⟨v,rfl,r⟩
 |_::_,_,i+1,_,⟨v,_,e,_,r⟩,h=>by subst e;exact aj.get (i:=i) r h
theorem aj.drop:∀{l}{vs} k,aj W l vs→aj W (l.drop k) (vs.drop k)
 |_,_,0,r=>r
 |[],_,_+1,r=>by cases r;rfl
 |_::_,_,k+1,⟨v,_,e,_,r⟩=>by subst e;exact aj.drop k r
theorem aj.take:∀{l}{vs} k,aj W l vs→aj W (l.take k) (vs.take k)
 |_,_,0,_=>rfl
 |[],_,_+1,r=>by cases r;rfl
 |_::_,_,k+1,⟨v,us,e,a,r⟩=>by subst e;exact⟨v,us.take k,rfl,a,aj.take k r⟩
theorem seqIndex_nonneg{m i:Nat}(h:k=(i:Int))(hi:i<m):VG k m=some i:=by
 subst h;unfold VG;simp only[FU,if_false];simp;exact hi
theorem OT.aZ{k}{i:Nat}{x}(hk:k=(i:Int))(hx:l[i]?=some x):OT n U2 (.lst l) (.int k) H x H:=by
 refine .mk fun A s W a b R S ra rb Q q=> ?_;obtain⟨a,vs,m,rfl,im,r,hz⟩:=ra;obtain⟨t,rfl⟩:=rb;obtain⟨v,hv,rv⟩:=r.get hx;have hl:=(QY.mp hx).1;have hb:QW<2^62:=dc;exact aaT (aA S im) (by lia) (by lia) (by subst hk;simpa using hv) (q v s W (Gr.refl ..) S rv)
theorem OT.ey{k}{i:Nat}{x}(hk:k=(i:Int)-l.length)(hx:l[i]?=some x):OT n U2 (.lst l) (.int k) H x H:=by
 refine .mk fun A s W a b R S ra rb Q q=> ?_;obtain⟨a,vs,m,rfl,im,r,hz⟩:=ra;obtain⟨t,rfl⟩:=rb;obtain⟨v,hv,rv⟩:=r.get hx;have hl:=(QY.mp hx).1;have hb:QW<2^62:=dc;have hlen:=r.length;refine ZK (aA S im) (by lia) (by simp;lia) (by lia) ?_ (q v s W (Gr.refl ..) S rv);have e:(k+vs.toArray.size).toNat=i:=by simp;lia
 refine J e ?_;simpa using hv
theorem OT.pO{k}{i:Nat}{x}(hj:H[j]?=some (some (.list l)))(hk:k=(i:Int))(hx:l[i]?=some x):OT n U2 (.ref j) (.int k) H x H:=by
 refine .mk fun A s W a b R S ra rb Q q=> ?_;obtain⟨a,rfl,p⟩:=ra;obtain⟨a',p',_,vs,m,ho,r,hz⟩:=S.live j _ hj;replace p':=p▸p';cases p';obtain⟨t,rfl⟩:=rb;obtain⟨v,hv,rv⟩:=r.get hx;have hl:=(QY.mp hx).1;have hb:QW<2^62:=dc;exact aaT ⟨_,ho,rfl,m,rfl⟩ (by lia) (by lia) (by subst hk;simpa using hv) (q v s W (Gr.refl ..) S rv)
theorem OT.de{k}{i:Nat}{x}(hj:H[j]?=some (some (.list l)))(hk:k=(i:Int)-l.length)(hx:l[i]?=some x):OT n U2 (.ref j) (.int k) H x H:=by
 refine .mk fun A s W a b R S ra rb Q q=> ?_;refine QK fun kG=> ?_;obtain⟨a,rfl,p⟩:=ra;obtain⟨a',p',_,vs,m,ho,r,hz⟩:=S.live j _ hj;replace p':=p▸p';cases p';obtain⟨t,rfl⟩:=rb;obtain⟨v,hv,rv⟩:=r.get hx;refine kG ?_;have hl:=(QY.mp hx).1;have hb:QW<2^62:=dc;have hlen:=r.length;refine ZK ⟨_,ho,rfl,m,rfl⟩ (by lia) (by simp;lia) (by lia) ?_ (q v s W (Gr.refl ..) S rv);have e:(k+vs.toArray.size).toNat=i:=by simp;lia
 refine J e ?_;simpa using hv
theorem OT.item_tup{k}{i}{x}(hk:VG k l.length=some i)(hx:l[i]?=some x)(h0:autoParam (-(2^63)≤k) aD)(h1:autoParam (k<2^63) aD):OT n U2 (.tup l) (.int k) H x H:=by
 refine .mk fun A s W a b R S ra rb Q q=> ?_;obtain⟨a,vs,m,rfl,im,r,hz⟩:=ra;obtain⟨t,rfl⟩:=rb;obtain⟨v,hv,rv⟩:=r.get hx;exact P.getItem_tuple (S.cq _ _ im) h0 h1 (by refine J Re (J r.length ?_);exact hk) (by simpa using hv) (q v s W (Gr.refl ..) S rv)
theorem OT.item_str{k}{c}(hc:(VG k x.length).bind (x.cps[·]?)=some c)(hr:(decide (k< -(2^63:Int))||decide (k≥2^63))=false):OT n U2 (.str x) (.int k) H (.str ⟨#[c]⟩) H:=by
 refine .mk fun A s W a b R S ra rb Q q=> ?_;obtain⟨t,rfl,_⟩:=ra;obtain⟨u,rfl⟩:=rb;exact P.getItem_str hr hc (q _ _ W (Gr.dD W s _) (S.tok _) ⟨_,rfl,by show 1≤QW;decide⟩)
noncomputable def cut(lo hi:Option Int)(l:List V):List V:=(l.drop (lo.elim 0 (XG l.length))).take (hi.elim l.length (XG l.length)-lo.elim 0 (XG l.length))
theorem lA l(k:Nat):cut Q6 (some k) l=l.take k:=by
 unfold cut XG;rw[Xl,Xk,Vb,Xz,if_neg FU,CE,List.take_eq_take_iff,Nat.min_assoc,Nat.min_self]
theorem gE l(k:Nat):cut (some k) Q6 l=l.drop k:=by
 unfold cut XG;rw[Xl,Xk,if_neg FU,CE];rcases XD k l.length with h|h
 ·rw[Yb h,Su (Vp▸QM _)]
 ·rw[XV h,YU h,YU (QM _),List.take_nil]
theorem GT.lst{lo hi}:GT n (.lst l) lo hi none H (.lst (cut lo hi l)) H:=by
 refine .mk fun A s W o a vl vu vs R S r hs pl pu ps Q q=> ?_;obtain⟨a,us,m,rfl,im,r,hz⟩:=r;have hlen:=r.length;refine Zl (aA S im) hs pl pu ps dc ?_ (ao (bC hlen) hz);refine J (slicePick_plain ..) ?_;simp only[Re,hlen];obtain⟨S2,G2⟩:=S.put (fO "list" ((us.drop (lo.elim 0 (XG l.length))).take (hi.elim l.length (XG l.length)-lo.elim 0 (XG l.length))) 0);refine q _ _ _ G2 S2 ⟨_,_,0,rfl,Wd.ak ..,((r.drop _).take _).mono G2.le, ?_⟩;exact QU (List.length_take_le' ..) (Vp▸QU (Nat.sub_le ..) hz)
end
section
variable{n:Nat}{F:Fx}{ρ am cU:Loc}{H H1 H2 H3 H4 H5:AH}{g:Fl}
noncomputable def bQ(W:Wd):List (Rj×V)→List (Rj×Value)→Prop
 |[],bs=>bs=[]
 |(k,x)::l,bs=>∃v r,bs=(k,v)::r∧Rel W x v∧bQ W l r
theorem bQ.mono(h:W.le W'):∀{l}{bs},bQ W l bs→bQ W' l bs
 |[],_,r=>r
 |(_,_)::_,_,⟨v,r,e,a,b⟩=>⟨v,r,e,a.mono h,bQ.mono h b⟩
theorem bQ.names:∀{l}{bs},bQ W l bs→bs.map (·.1)=l.map (·.1)
 |[],_,r=>by cases r;rfl
 |(_,_)::_,_,⟨v,r,e,_,b⟩=>by subst e;simp[bQ.names b]
theorem bQ.get:∀{bs},bQ W l bs→l.lookup k=some x→∃v,bs.lookup k=some v∧Rel W x v:=by
 induction l with
 |nil=>intro _ _ h;cases h
 |cons p l ih=>
  obtain⟨k',y⟩:=p;rintro _ ⟨v,r,e,a,b⟩ h;subst e;rw[lookup_cons] at h;by_cases hk:k=k'
  ·subst hk;replace h:=(if_pos rfl)▸h;cases h;exact⟨v,List.lookup_cons_self,a⟩
  ·rw[if_neg hk] at h;exact J RG (J (beq_eq_false_iff_ne.mpr hk) ((ih b h)))
theorem or kind bs:∀m k v,(bs.map (·.1)).Nodup→bs.lookup k=some v→kind k=some .local→bindL kind bs m k=some v:=by
 induction bs with
 |nil=>intro _ _ _ _ h;cases h
 |cons p r ih=>
  obtain⟨k',v'⟩:=p;intro m k v hn h hk;rw[Q8,Sa] at hn;show bindL kind r _ k=_;rw[RG] at h;by_cases e:k=k'
  ·subst e;rw[beq_self_eq_true] at h;cases h;refine J (if_pos hk) ?_;have:∀r m,k∉r.map (·.1)→m k=some v'→bindL kind r m k=some v':=by
    intro r
    induction r with
    |nil=>intro m _ h;exact h
    |cons p r ih=>
     intro m hn h;obtain⟨a,b⟩:=p;rw[Q8,QX,not_or] at hn;refine ih _ hn.2 (bl (fun _=> ?_) fun _=> ?_)
     ·simp[hn.1,h]
     ·exact h
   exact this r _ hn.1 (by simp)
  ·rw[beq_eq_false_iff_ne.mpr e] at h;exact ih _ k v hn.2 h hk
theorem iW kind:∀bs m k v,(bs.map (·.1)).Nodup→bs.lookup k=some v→kind k≠some .local→bindC kind bs m k=some v
 |[],_,_,_,_,h,_=>by cases h
 |(k',v')::r,m,k,v,hn,h,hk=>by
  rw[Q8,Sa] at hn;unfold bindC;rw[RG] at h;by_cases e:k=k'
  ·subst e;simp at h;subst h;refine J (if_neg hk) ?_;have:∀r m,k∉r.map (·.1)→m k=some v'→bindC kind r m k=some v':=by
    intro r
    induction r with
    |nil=>intro m _ h;exact h
    |cons p r ih=>
     intro m hn h;obtain⟨a,b⟩:=p;rw[Q8,QX,not_or] at hn;refine ih _ hn.2 (bl (fun _=> ?_) fun _=> ?_)
     ·exact h
     ·simp[hn.1,h]
   exact this r _ hn.1 (by simp)
  ·rw[(show(k==k')=false by simpa using e)] at h;exact iW kind r _ k v hn.2 h hk
noncomputable def Binds(fd:aaA)(xs:List V)(ks:List (Rj×V))(bs:List (Rj×V)):Prop:=
 ∀h W vs kv,(∀a o,bo a=some o→h.get? a=some o)→aj W xs vs→bQ W ks kv→∃b,Looks (model prog w) h (Sn fd ⟨vs,kv⟩) b∧bQ W bs b
structure Fn a fd:Prop where
 at_:∃o,bo a=some o∧o.data= .func fd
 code:∀h:Vi,(∀a o,bo a=some o→h.get? a=some o)→h.CodeRec fd.code fd.qualname
 FW:fd.closure=[]
 co:fd.scope.isCoroutine=false
 gen:fd.scope.isGenerator=false
 kind:fd.scope.kind= .function
 glob:fd.globals=mainGlobals
 FX:fd.builtins=builtinsNs
noncomputable def Fl.out:Fl→V
 | .next=> .none
 | .ret x=>x
theorem ot:∀{ks}{kv},kv.map (·.1)=ks.map (·.1)→aj W (ks.map (·.2)) (kv.map (·.2))→bQ W ks kv
 |[],[],_,_=>rfl
 |[],_::_,h,_=>by cases h
 |_::_,[],h,_=>by cases h
 |(k,x)::ks,(k',v)::kv,h,r=>by
  simp only[Q8,TG] at h;obtain⟨u,us,e,r1,r2⟩:=r;simp only[Q8,TG] at e;obtain⟨e1,e2⟩:=e;subst e1 e2;obtain⟨h1,h2⟩:=h;subst h1;exact⟨_,_,rfl,r1,ot h2 r2⟩
theorem ba:∀names k acc x,(names.lookup x=some .cell∨(acc.lookup x).isSome=true)→((cellsFrom k names acc).lookup x).isSome=true
 |[],_,acc,x,h=>by
  rcases h with h|h
  ·cases h
  ·exact h
 |(y,kd)::r,k,acc,x,h=>by
  unfold cellsFrom;refine bl (fun _=> ?_) fun _=> ?_
  ·refine ba r _ _ x ?_;by_cases e:x=y
   ·subst e;exact .inr (by simp)
   ·have e':(x==y)=false:=by simpa using e
    rw[RG,e'] at h;exact J RG (J e' ((h)))
  ·rename_i hk;refine ba r _ _ x ?_;rcases h with h|h
   ·by_cases e:x=y
    ·subst e;simp at h;subst h;exact absurd rfl hk
    ·rw[RG,(show(x==y)=false by simpa using e)] at h;exact .inl h
   ·exact .inr h
theorem g9{fd}{a}{bs}{b}(S:an W H s)(hn:(bs.map (·.1)).Nodup)(r:bQ W bs b)
  (hk:∀x∈bs.map (·.1),fd.scope.names.lookup x=some .local∨fd.scope.names.lookup x=some .cell)
  (x:InCallC s (callEnvC fd s.heap.objs.size a).locals (bindL (callEnvC fd s.heap.objs.size a).kindOf b fun _=>none) (callEnvC fd s.heap.objs.size a).cells (bindC (callEnvC fd s.heap.objs.size a).kindOf b fun _=>none) s') (ht:s.toks≤s'.toks):
  cQ W bs (callEnvC fd s.heap.objs.size a) s'.heap∧an W H s'∧Gr cr W s W s':=by
 have MX:=r.names▸hn;have keep:=x.toInCall.keep;obtain⟨h',tk,e⟩:=x.toInCall.same;have S':an W H s':=by subst e;exact S.same (fun c o hc _=>keep c o hc) S.bare ht
 have G':Gr cr W s W s':=by subst e;exact⟨W.le_refl,fun _ h=> .inl h,fun _ _ h=> .inl h,fun c o hc _ _=>keep c o hc,fun a h _=>br keep a h,rfl,fun _ _ h=>h⟩
 have big:=fun c hc=>S.fresh (by
  cases q:s.heap.get? c with
  |none=>rfl
  |some o=>exact absurd (Rq q) (Tw.mpr hc))
 have GE:∀y,(callEnvC fd s.heap.objs.size a).kindOf y=fd.scope.names.lookup y:=fun _=>rfl;refine⟨⟨⟨_,x.toInCall.ns,fun y z hy hl=> ?_⟩,fun y z hy=> ?_,fun y z hy hl=> ?_,fun y hl=> ?_,(S.fresh (ae s.heap)),fun y c hc=> ?_,fun y y' c h1 h2=> ?_⟩,S',G'⟩
 ·obtain⟨v,h1,h2⟩:=r.get hy;exact⟨v,or _ b _ y v MX h1 hl,h2⟩
 ·refine J (GE ..) ?_;rcases hk y (Q4.mpr ⟨(y,z),mem_of_lookup hy,rfl⟩) with q|q
  ·exact .inl q
  ·exact .inr (.inl q)
 ·obtain⟨v,h1,h2⟩:=r.get hy;rcases hk y (Q4.mpr ⟨(y,z),mem_of_lookup hy,rfl⟩) with q|q
  ·exact absurd q hl
  ·obtain⟨c,hc⟩:=Ti.mp (ba fd.scope.names (s.heap.objs.size+1) [] y (.inl q));have:=x.cell y c hc;rw[iW _ b _ y v MX h1 hl] at this;exact⟨c,v,hc,this,h2⟩
 ·obtain⟨c,hc⟩:=Ti.mp (ba fd.scope.names (s.heap.objs.size+1) [] y (.inl hl));exact⟨c,_,hc,x.cell y c hc⟩
 ·have ce:=x.above y c (mem_of_lookup hc);have:=big c (SU ce);refine⟨this.1,this.2,fun q=> ?_, ?_⟩
  ·exact absurd q (SJ ce)
  ·obtain⟨o,ho,_⟩:=x.cell y c hc;exact ho▸nofun
 ·exact name_of_addr x.apart (mem_of_lookup h1) (mem_of_lookup h2)
noncomputable abbrev Kw(n:Nat)(f:V)(xs:List V)(ks:List (Rj×V))(H:AH)(x:V)(H':AH):Prop:=∀A s W fv vs kv,aB A n→an W H s→Rel W f fv→aj W xs vs→
    kv.map (·.1)=ks.map (·.1)→aj W (ks.map (·.2)) (kv.map (·.2))→
    ∀Q:Value→Ro→Prop,(∀v s' W',Gr cr W s W' s'→an W' H' s'→Rel W' x v→Q v s')→
     SM (model prog w) A (.call fv ⟨vs,kv⟩) (fun r s'=>match r with| .ok (.ret v)=>Q v s'| .ok _=>False| .error e=>aX e s') s
@[irreducible] noncomputable def CC (n:Nat) (f:V) (xs:List V) (ks:List (Rj×V)) (H:AH) (x:V) (H':AH):Prop:=Kw n f xs ks H x H'
theorem CC.mk{n f xs ks H x H'}(h:Kw n f xs ks H x H'):CC n f xs ks H x H':=by delta CC;exact h
theorem CC.run{n f xs ks H x H'}(h:CC n f xs ks H x H'):Kw n f xs ks H x H':=by delta CC at h;exact h
theorem CC.def(K:Fn a fd)(lim:∀h:Vi,(∀a o,bo a=some o→h.get? a=some o)→h.NoLimit)
  (hb:fd.body= .stmts body) (hB:Binds fd xs ks bs) (hn:(bs.map (·.1)).Nodup) (hk:∀x∈bs.map (·.1),fd.scope.names.lookup x=some .local∨fd.scope.names.lookup x=some .cell)
  (h:af n ⟨fd.scope.names,fd.code,true,some (fd.qualname++".<locals>.")⟩ body bs H g am H1):CC (n+1) (.st (.ref a)) xs ks H g.out H1:=by
 refine .mk fun A s W fv vs kv R S rf rx c7 se Q q=> ?_;cases rf;refine QK fun kG=> ?_;obtain⟨o,ho,hd⟩:=K.at_;obtain⟨b,hL,CL⟩:=hB s.heap W vs kv S.ground rx (ot c7 se);refine kG (ZZ R.lt (S.ground _ _ ho) hd K.co K.gen hb (K.code _ S.ground) (hL.here ?_));refine J K.FW (wpAny_toks (UG K.kind (fun y hy=> ?_) fun env he s' x ht=> ?_))
 ·rcases hk _ (CL.names▸Q4.mpr ⟨y,hy,rfl⟩) with q|q
  ·exact .inl q
  ·exact .inr ⟨q,ba _ _ _ _ (.inl q)⟩
 ·have vz:env=callEnvC fd s.heap.objs.size a:=he;subst vz;obtain⟨f,S',G'⟩:=g9 S hn CL hk x ht;refine⟨lim _ S'.ground,codeAny_func ?_⟩;refine Ri (h.run (A.deeper _) s' W _ (R.deeper _) S' (⟨rfl,K.kind,K.glob,K.FX,rfl,K.co,(fun _ y c _ hc=>x.above y c (mem_of_lookup hc)),(fun q h=>by cases h;rfl)⟩) f (fun fl s2=>Q (match fl with| .ret v=>v|_=> .none) s2) fun fl s2 W2 G2 S2 f2 r2=> ?_) (fun fl s2 h2=> ?_) fun _ _ e=>e.elim
  ·have G3:Gr cr W s W2 s2:=by
    refine G'.base G2 fun x o h=> ?_;rcases o with o|⟨_,y,hy,o⟩
    ·rw[o] at h;exact absurd (ae _) h
    ·have ce:=‹InCallC s _ _ _ _ s'›.above y x (mem_of_lookup o);cases q:s.heap.get? x with
     |none=>exact absurd q h
     |some o=>exact absurd (Rq q) (Tw.mpr (SU ce))
   cases g with
   |next=>cases r2;exact q _ s2 W2 G3 S2 rfl
   |ret z=>obtain⟨v,e,r⟩:=r2;subst e;exact q _ s2 W2 G3 S2 r
  ·cases fl<;>exact h2
theorem CT.GF{xs}{ks}(h:CC n f xs ks H x H1):CT n f xs ks H x H1:= .mk fun A s W fv vs kv R S rf rx c7 se Q q=>
 UP (h.run A s W fv vs kv R S rf rx c7 se Q q)
theorem CT.def(K:Fn a fd)(lim:∀h:Vi,(∀a o,bo a=some o→h.get? a=some o)→h.NoLimit)
  (hb:fd.body= .stmts body) (hB:Binds fd xs ks bs) (hn:(bs.map (·.1)).Nodup) (hk:∀x∈bs.map (·.1),fd.scope.names.lookup x=some .local∨fd.scope.names.lookup x=some .cell)
  (h:af n ⟨fd.scope.names,fd.code,true,some (fd.qualname++".<locals>.")⟩ body bs H g am H1):CT (n+1) (.st (.ref a)) xs ks H g.out H1:= .GF (CC.def K lim hb hB hn hk h)
end
section
variable{n:Nat}{F:Fx}{ρ am cU:Loc}{H H1 H2 H3 H4 H5:AH}{g:Fl}
noncomputable def Kp(v:Value)(h:Vi):Prop:=∃k,(k=Keeper.frame∨k=Keeper.machine∨k=Keeper.boundFrame)∧Looks (model prog w) h (keeperOf v) k
noncomputable abbrev D5(f:V):Prop:=∀s W H v,an W H s→Rel W f v→Kp v s.heap
@[irreducible] noncomputable def aL (f:V):Prop:=D5 f
theorem aL.mk{f}(h:D5 f):aL f:=by delta aL;exact h
theorem aL.run{f}(h:aL f):D5 f:=by delta aL at h;exact h
theorem aL.builtin{id}:aL (.st (.builtin id)):= .mk fun _ _ _ _ _ r=>by cases r;exact⟨.machine, .inr (.inl rfl),TR rfl⟩
theorem aL.type:aL (.st (.type T)):= .mk fun _ _ _ _ _ r=>by cases r;exact⟨.machine, .inr (.inl rfl),TR rfl⟩
theorem aL.def(K:Fn a fd):aL (.st (.ref a)):= .mk fun s W H v S r=>by
 cases r;obtain⟨o,ho,hd⟩:=K.at_;refine⟨.frame, .inl rfl,(WD (S.ground _ _ ho)).andThen ?_⟩;exact hd▸ .now
theorem aL.bm{id}{x}:aL (.bm id x):= .mk fun s W H v S r=>by
 obtain⟨a,u,rfl,i,_⟩:=r;refine⟨.machine, .inr (.inl rfl),(WD (S.cq _ _ i)).andThen ?_⟩;exact TR rfl
theorem aL.pm(K:Fn f fd):aL (.pm f x):= .mk fun s W H v S r=>by
 obtain⟨a,u,rfl,i,_⟩:=r;obtain⟨o,ho,hd⟩:=K.at_;refine⟨.boundFrame, .inr (.inr rfl),(WD (S.cq _ _ i)).andThen ?_⟩;exact(WD (S.ground _ _ ho)).andThen (hd▸ .now)
theorem cu{W}{env}{f}{pos}{es}{xs}(h:ab n F pos es ρ H xs H1)(R:aB A n)(S:an W H s)(E:az F env)(fr:cQ W ρ env s.heap)
  (hp:(backTo pos (starEach es env)).any (·.1)=false) {Q}
  (q:∀vs s' W',Gr cr W s W' s'→an W' H1 s'→aj W' xs vs→Q ⟨vs,[]⟩ s'):wpAny (model prog w) A (evalArgs f true (backTo pos (starEach es env)) []) Q aX s:=by
 have h':=h.run A s W env R S E fr (fun vs s'=>Q ⟨vs,[]⟩ s') q;generalize backTo pos (starEach es env)=l at h' hp;cases l with
 |nil=>
  refine QL (Ri h' (fun vs s1 h1=> ?_) fun _ _ e=>e.elim);refine bP (wpAny_holding ?_);exact bP (bP (QO h1))
 |cons p l=>
  obtain⟨b,x⟩:=p;have hb:b=false:=by simp at hp;exact hp.1
  subst hb;exact Wr h'
theorem ET.call{pos}{f z}{xs}(hf:ET n F func ρ H f H1)(ha:ab n F pos args ρ H1 xs H2)(hk:aL f)(hc:CT n f xs [] H2 z H3)
  (he:autoParam (∀env,eval (.Call func args [] pos) env=(do Uo pos (←eval func env) [] (backTo pos (starEach args env)) (backToKw pos (keywordEach [] env)))) aI)
  (hp:autoParam (∀env,(backTo pos (starEach args env)).any (·.1)=false) aI):ET n F (.Call func args [] pos) ρ H z H3:=by
 refine .mk fun A s W env R S E fr Q q=>(J (he env) ?_);refine QL (hf.run A s W env R S E fr _ fun fv s1 W1 G1 S1 r1=> ?_);show wpAny _ _ (Uo pos fv [] (backTo pos (starEach args env)) []) Q aX s1;refine Uq (P:=Kp fv) (by simp[hp env]) (fun _ h=>h) (cu ha R S1 E (fr.step G1) (hp env) fun vs s2 W2 G2 S2 r2=>⟨hk.run s2 W2 _ fv S2 (r1.mono G2.le), ?_⟩);exact hc.run A s2 W2 fv vs [] R S2 (r1.mono G2.le) r2 rfl rfl Q fun v s3 W3 G3 S3 r3=>q v s3 W3 ((G1.trans G2).trans G3) S3 r3
noncomputable abbrev Kx(n:Nat)(x:V)(name:Rj)(H:AH)(f:V)(first:List V)(H':AH):Prop:=∀A s W v pl,aB A n→an W H s→Rel W x v→
    ∀Q,(∀fv fs s' W',Gr cr W s W' s'→an W' H' s'→Rel W' f fv→aj W' first fs→Q (fv,fs) s')→wpAny (model prog w) A (Yw v name pl) Q aX s
@[irreducible] noncomputable def GM (n:Nat) (x:V) (name:Rj) (H:AH) (f:V) (first:List V) (H':AH):Prop:=Kx n x name H f first H'
theorem GM.mk{n x name H f first H'}(h:Kx n x name H f first H'):GM n x name H f first H':=by delta GM;exact h
theorem GM.run{n x name H f first H'}(h:GM n x name H f first H'):Kx n x name H f first H':=by delta GM at h;exact h
theorem ET.aQ{name}{args}{apos pos}{x f z}{first xs}(ho:ET n F o ρ H x H1)(hg:GM n x name H1 f first H2)(ha:ab n F pos args ρ H2 xs H3)
  (hk:aL f) (hc:CT n f (first++xs) [] H3 z H4)
  (pl:Env→Yp Bool:=fun env=>(do return (←YF o env).getD true))
  (he:autoParam (∀env,eval (.Call (.Attribute o name apos) args [] pos) env=(do
   let ov ←eval o env
   standAt apos.atName
   let(f,first) ←holding [ov] (Yw ov name (pl env))
   Uo pos f first (backTo pos (starEach args env)) [])) aI)
  (hp:autoParam (∀env,(backTo pos (starEach args env)).any (·.1)=false) aI):ET n F (.Call (.Attribute o name apos) args [] pos) ρ H z H4:=by
 refine .mk fun A s W env R S E fr Q q=>(MethodCall_ (ho.run A s W env R S E fr _ fun ov s1 W1 G1 S1 r1=>hg.run A s1 W1 ov _ R S1 r1 _ fun fv fs s2 W2 G2 S2 r2 r3=> ?_) (he env));refine Uq (P:=Kp fv) (by simp[hp env]) (fun _ h=>h) (cu ha R S2 E ((fr.step G1).step G2) (hp env) fun vs s3 W3 G3 S3 r4=>⟨hk.run s3 W3 _ fv S3 (r2.mono G3.le), ?_⟩);exact hc.run A s3 W3 fv (fs++vs) [] R S3 (r2.mono G3.le) ((r3.mono G3.le).append r4) rfl rfl Q fun v s4 W4 G4 S4 r5=>q v s4 W4 (((G1.trans G2).trans G3).trans G4) S4 r5
theorem lB{s}{a}{id}{u}{vs}{B}{Sp}{Q E}(ho:s.heap.get? a=some (bq id u))(entry:WG aac id=some B)(plain:plainId id=true)
  (Ky:∀Q',Q' () s→wpAny (model prog w) A.in1 (Xi id ⟨u::vs,[]⟩) Q' E s) (gm:Meets (B ⟨u::vs,[]⟩) Sp) (h:Sp A (wants Q E) s):wpAny (model prog w) A (call (.ref a) vs) Q E s:=by
 refine UP (R7 ?_);refine bL ho (QL (Ky _ (QO ⟨TK plain _,So entry ?_⟩)));rw[RX plain];exact gm prog w A (wants Q E) s h
end
theorem lC{Q:α→Ro→Prop}{E}{s}(h:wpAny (model prog w) A t Q aX s):wpAny (model prog w) A t Q E s:=Ri h (fun _ _ h=>h) fun _ _ e=>e.elim
theorem dg{Q:α→Ro→Prop}{E}{s}(h:∀Q' E',(∀a s',Q a s'→Q' a s')→(∀e s',E e s'→E' e s')→wpAny M A t Q' E' s):wpAny M A t Q E s:=h Q E (fun _ _ h=>h) fun _ _ h=>h
section
variable{n:Nat}{F:Fx}{ρ am cU hJ:Loc}{H H1 H2 H3 H4 H5:AH}{g:Fl}
theorem cQ.dh{W W'}{s s'}{ρ}{env}(f:cQ W ρ env s.heap)(G:Gr X W s W' s')(hl:¬X env.locals)(hc:∀n c,env.cells.lookup n=some c→¬X c):cQ W' ρ env s'.heap:=by
 obtain⟨m,hn,hm⟩:=f.m;refine⟨⟨m,nD hn fun o e=>G.heap _ o e f.sep.1 hl,fun n x e k=>let⟨v,a,b⟩:=hm n x e k;⟨v,a,b.mono G.le⟩⟩,f.kind,fun n x e k=> ?_,fun n k=> ?_,al G (cg hn) f.sep hl,fun n c e=> ?_,f.inj⟩
 ·obtain⟨c,v,e1,e2,e3⟩:=f.cell n x e k;exact⟨c,v,e1,eH e2 fun o e=>G.heap _ o e (f.dC n c e1).1 (hc n c e1),e3.mono G.le⟩
 ·obtain⟨c,v,e1,e2⟩:=f.cells n k;exact⟨c,v,e1,eH e2 fun o e=>G.heap _ o e (f.dC n c e1).1 (hc n c e1)⟩
 ·obtain⟨a,b,c',d⟩:=f.dC n c e;exact⟨(al G d ⟨a,b⟩ (hc n c e)).1,(al G d ⟨a,b⟩ (hc n c e)).2,c',G.there c d (hc n c e)⟩
noncomputable abbrev PP:=(AH→Prop)×(SD→Prop)
noncomputable def isTup(e:SD):Bool:=by
 cases e with
 |Tuple=>exact true
 |_=>exact false
noncomputable def dS(n:Nat)(P:PP)(X:TD→Prop)(it:Value)(Y:TD→Prop):List V→Wd→Ro→Prop
 |[],W,s=>∀A s1 W1 H1,aB A n→Gr X W s W1 s1→an W1 H1 s1→P.1 H1→
   wpAny (model prog w) A (Uk it) (fun r s2=>r=none∧Gr Y W1 s1 W1 s2∧an W1 H1 s2) aX s1
 |x::xs,W,s=>∀A s1 W1 H1,aB A n→Gr X W s W1 s1→an W1 H1 s1→P.1 H1→
   wpAny (model prog w) A (Uk it) (fun r s2=>∃v,r=some v∧∀target,P.2 target→wpAny (model prog w) A (SI target it v)
    (fun _ s3=>∃W3,Gr Y W1 s1 W3 s3∧an W3 H1 s3∧Rel W3 x v∧dS n P X it Y xs W3 s3) aX s2) aX s1
theorem dS.step{it}{xs}{W W'}{s s'}(f:dS n P X it Y xs W s)(G:Gr X W s W' s'):dS n P X it Y xs W' s':=by
 cases xs with
 |nil=>exact fun A s1 W1 H1 R G1 S1 p=>f A s1 W1 H1 R (G.trans G1) S1 p
 |cons x xs=>exact fun A s1 W1 H1 R G1 S1 p=>f A s1 W1 H1 R (G.trans G1) S1 p
noncomputable abbrev Kz(n:Nat)(F:Fx)(P:PP)(target:SD)(body orelse:List U3)(xs:List V)(ρ:Loc)(H:AH)(f:Fl)(ρ':Loc)(H':AH):Prop:=∀A s W env it Y,aB A n→an W H s→az F env→cQ W ρ env s.heap→
    (¬Y env.locals)→(∀n c,env.cells.lookup n=some c→¬Y c)→dS n P (own env) it Y xs W s→
    ∀Q:Flow→Ro→Prop,(∀g s' W',Gr (fun a=>own env a∨Y a) W s W' s'→an W' H' s'→cQ W' ρ' env s'.heap→f.rel W' g→Q g s')→
     SM (model prog w) A (.forLoop target it body orelse env) (fun r s'=>∃g,r= .ok g∧Q g s') s
@[irreducible] noncomputable def XF (n:Nat) (F:Fx) (P:PP) (target:SD) (body orelse:List U3) (xs:List V) (ρ:Loc) (H:AH) (f:Fl) (ρ':Loc) (H':AH):Prop:=Kz n F P target body orelse xs ρ H f ρ' H'
theorem XF.mk{n F P target body orelse xs ρ H f ρ' H'}(h:Kz n F P target body orelse xs ρ H f ρ' H'):XF n F P target body orelse xs ρ H f ρ' H':=by delta XF;exact h
theorem XF.run{n F P target body orelse xs ρ H f ρ' H'}(h:XF n F P target body orelse xs ρ H f ρ' H'):Kz n F P target body orelse xs ρ H f ρ' H':=by delta XF at h;exact h
theorem XF.nil{body orelse}(hp:P.1 H)(h:af n F orelse ρ H g am H1):XF n F P target body orelse [] ρ H g am H1:=by
 refine .mk fun A s W env it Y R S E fr hl hc fd Q q=>(R7 ?_);refine Tv (dg fun Q' E' qq _=> ?_);refine bA (QL (T8 (Ri (fd A s W H R (Gr.refl ..) S hp) (fun r s1 h1=> ?_) fun _ _ e=>e.elim)));obtain⟨rfl,G1,S1⟩:=h1;refine QO (qq _ _ ⟨rfl,codeAny_block (lC (h.run A s1 W env R S1 E (fr.dh G1 hl hc) _ fun fl s2 W2 G2 S2 f2 r2=>⟨fl,rfl,q fl s2 W2 ?_ S2 f2 r2⟩))⟩);exact(G1.weaken fun x h=> .inr h).trans (G2.weaken fun x h=> .inl h)
theorem XF.cons{x}{xs}(hp:P.1 H)(hT:P.2 target)(ht:AT n F target x ρ H am H1)(hb:af n F body am H1 .next cU H2)
  (h:XF n F P target body orelse xs cU H2 g hJ H3):XF n F P target body orelse (x::xs) ρ H g hJ H3:=by
 refine .mk fun A s W env it Y R S E fr hl hc fd Q q=>(R7 ?_);refine Tv (dg fun Q' E' qq _=> ?_);refine bA (QL (T8 (Ri (fd A s W H R (Gr.refl ..) S hp) (fun r s1 h1=> ?_) fun _ _ e=>e.elim)));obtain⟨v,rfl,h1⟩:=h1;refine QL (Ri (h1 target hT) (fun _ s2 h2=> ?_) fun _ _ e=>e.elim);refine QK fun kG=> ?_;obtain⟨W2,G2,S2,r2,xw⟩:=h2;refine kG (QL (lC (ht.run A s2 W2 env v R S2 E (fr.dh G2 hl hc) r2 _ fun s3 W3 G3 S3 f3=> ?_)));refine QL (lC (hb.run A s3 W3 env R S3 E f3 _ fun fl s4 W4 G4 S4 f4 r4=> ?_));cases r4;refine QO (qq _ _ ⟨rfl,h.run A s4 W4 env it Y R S4 E f4 hl hc (xw.step (G3.trans G4)) Q fun fl s5 W5 G5 S5 f5 r5=>q fl s5 W5 ?_ S5 f5 r5⟩);exact((G2.weaken fun x h=> .inr h).trans ((G3.trans G4).weaken fun x h=> .inl h)).trans G5
theorem XF.sub(h:XF n F P target body orelse xs ρ' H g am H1)(k:∀n x,ρ'.lookup n=some x→ρ.lookup n=some x):
  XF n F P target body orelse xs ρ H g am H1:= .mk fun A s W env it Y R S E fr hl hc fd Q q=>h.run A s W env it Y R S E (fr.sub k) hl hc fd Q q
noncomputable def di(X:TD→Prop)(it:Value)(W:Wd)(s:Ro):Prop:=
 ∀A s1 W1 H1,Gr X W s W1 s1→an W1 H1 s1→∀Q,Q it s1→wpAny (model prog w) A (VP it) Q aX s1
theorem di.step{s s'}(f:di X it W s)(G:Gr X W s W' s'):di X it W' s':=
 fun A s1 W1 H1 G1 S1=>f A s1 W1 H1 (G.trans G1) S1
structure Src n P it(Y:TD→Prop) xs(xz:Ro) W(s:Ro):Prop where
 new:∀a,Y a→xz.heap.get? a=none∧s.heap.get? a≠none
 feed:∀X,(∀a,X a→¬Y a)→dS n P X it Y xs W s
 self:∀X,(∀a,X a→¬Y a)→di X it W s
noncomputable abbrev KA(n:Nat)(x:V)(H:AH)(xs:List V)(P:PP):Prop:=∀A s W v,aB A n→an W H s→Rel W x v→
    ∀Q,(∀it Y s' W',Gr cr W s W' s'→an W' H s'→Src n P it Y xs s W' s'→Q it s')→wpAny (model prog w) A (VP v) Q aX s
@[irreducible] noncomputable def VT (n:Nat) (x:V) (H:AH) (xs:List V) (P:PP):Prop:=KA n x H xs P
theorem VT.mk{n x H xs P}(h:KA n x H xs P):VT n x H xs P:=by delta VT;exact h
theorem VT.run{n x H xs P}(h:VT n x H xs P):KA n x H xs P:=by delta VT at h;exact h
noncomputable abbrev KB(n:Nat)(F:Fx)(e:SD)(ρ:Loc)(H:AH)(xs:List V)(P:PP)(H':AH):Prop:=∀A s W env,aB A n→an W H s→az F env→cQ W ρ env s.heap→
    ∀Q,(∀it Y s' W',Gr cr W s W' s'→an W' H' s'→Src n P it Y xs s W' s'→Q it s')→
     wpAny (model prog w) A (eval e env) (fun x s1=>wpAny (model prog w) A (VP x) Q aX s1) aX s
@[irreducible] noncomputable def IT (n:Nat) (F:Fx) (e:SD) (ρ:Loc) (H:AH) (xs:List V) (P:PP) (H':AH):Prop:=KB n F e ρ H xs P H'
theorem IT.mk{n F e ρ H xs P H'}(h:KB n F e ρ H xs P H'):IT n F e ρ H xs P H':=by delta IT;exact h
theorem IT.run{n F e ρ H xs P H'}(h:IT n F e ρ H xs P H'):KB n F e ρ H xs P H':=by delta IT at h;exact h
theorem IT.val{e}{x}{xs}(h:ET n F e ρ H x H1)(hv:VT n x H1 xs P):IT n F e ρ H xs P H1:=by
 refine .mk fun A s W env R S E fr Q q=>(h.run A s W env R S E fr _ fun v s1 W1 G1 S1 r1=>hv.run A s1 W1 v R S1 r1 Q fun it Y s2 W2 G2 S2 c=>q it Y s2 W2 (G1.trans G2) S2 ⟨fun a y=>⟨?_,(c.new a y).2⟩,c.feed,c.self⟩);exact(G1.back (c.new a y).1).resolve_right id
theorem cQ.cF(f:cQ W ρ env h):∀a,own env a→h.get? a≠none:=fun a o=>by
 rcases o with rfl|⟨_,x,_,hc⟩
 ·obtain⟨m,hn,_⟩:=f.m;exact cg hn
 ·exact(f.dC x a hc).2.2.2
theorem XT.for{target iter}{body orelse}{pos}{xs}(hi:IT n F iter ρ H xs P H1)(h:XF n F P target body orelse xs ρ H1 g am H2)
  (hs:autoParam (∀env x,Sv iter env x=pure x) aI):XT n F (.For target iter body orelse pos) ρ H g am H2:=by
 refine .mk fun A s W env R S E fr Q q=>(wpAny_For ?_ (hs env));refine Ri (hi.run A s W env R S E fr (fun it s'=>SM (model prog w) A (.forLoop target it body orelse env) (fun r s'=>∃g,r= .ok g∧Q g s') s')
  fun it Y s1 W1 G1 S1 c=> ?_) (fun x s1 h1=>Ri h1 (fun it s2 h2=>T6 h2 fun r s' h3=> ?_) fun _ _ e=>e) fun _ _ e=>e
 ·obtain⟨m,hn,_⟩:=fr.m;have hY:=fun a y=>(c.new a y).1;refine h.run A s1 W1 env it Y R S1 E (fr.step G1) (fun q=>cg hn (hY _ q)) (fun x c hc q=>(fr.dC x c hc).2.2.2 (hY _ q)) (c.feed _ fun a o y=>fr.cF a o (hY a y)) Q fun g s2 W2 G2 S2 f2 r2=>q g s2 W2 ?_ S2 f2 r2;exact(G1.of).base G2 fun x h hx=>h.elim id fun y=>absurd (hY x y) hx
 ·obtain⟨g,rfl,h3⟩:=h3;exact h3
theorem ix{s}{I l}{i}{v}{target}{Q}(hit:s.heap.IsListIter I l i)(h:Q () s):wpAny (model prog w) A (SI target (.ref I) v) Q aX s:=by
 obtain⟨o,ho,hc,hd⟩:=hit;have key:wpAny (model prog w) A (SI (.Tuple [] 0 ⟨0,0,0,0⟩) (.ref I) v) Q aX s:=by
  cases v with
  |ref a=>
   exact bL ho (J hc (J hd ((QO h))))
  |_=>exact QO h
 cases target with
 |Tuple=>exact key
 |List=>exact key
 |_=>exact QO h
theorem dS.lst{X}{it l}{vs}{m}(hX:¬X it):∀xs i W s,W.I l=some (sq "list" vs m)→aj W xs (vs.drop i)→s.heap.IsListIter it l i→it∉W.φ→W.I it=none→
  dS n P X (.ref it) (fun a=>a=it) xs W s:=by
 intro rv
 induction rv with
 |nil=>
  intro i W s hI hr hit ff hi;intro A s1 W1 H1 R G S hp;have dj:s1.heap.IsListIter it l i:=by obtain⟨o,ho,r⟩:=hit;exact⟨o,G.heap _ _ ho ff hX,r⟩
  have e:vs.drop i=[]:=hr;refine WU R.handled dj (aA S (Wd.fq G.le hI)) ((RQ)▸R2 (by simpa using e)) fun h' hx=>⟨rfl, ?_⟩;have th:s.heap.get? it≠none:=by obtain⟨o,ho,r⟩:=hit;exact ho▸nofun
  have k:=fun a o e h=>hx a o h e;have fr:=al G th ⟨ff,hi⟩ hX;refine⟨⟨W1.le_refl,fun _ h=> .inl h,fun _ _ h=> .inl h,fun b o e _ hb=>k b o e hb,fun a h ha=> ?_,rfl,fun _ _ h=>h⟩,S.same (fun a o e h=>k a o e fun q=>by cases q;exact h.elim fr.1 fun h=>h fr.2) S.bare⟩;cases q:s1.heap.get? a with
  |none=>exact absurd q h
  |some o=>exact(k a o q ha)▸nofun
 |cons x xs ih=>
  intro i W s hI hr hit ff hi;intro A s1 W1 H1 R G S hp;refine QK fun kG=> ?_;obtain⟨v,us,e,r1,r2⟩:=hr;refine kG ?_;have dj:s1.heap.IsListIter it l i:=by obtain⟨o,ho,r⟩:=hit;exact⟨o,G.heap _ _ ho ff hX,r⟩
  have hv:vs[i]?=some v:=by refine aO Wh (J e ?_);rfl
  have hd:vs.drop (i+1)=us:=by refine aO Wx (J e ?_);rfl
  have th:s.heap.get? it≠none:=by obtain⟨o,ho,r⟩:=hit;exact ho▸nofun
  have fr:=al G th ⟨ff,hi⟩ hX;refine WE dj (aA S (Wd.fq G.le hI)) (by refine J RQ ?_;exact hv) fun h' fR hs=>⟨v,rfl,fun target _=>ix fR ⟨W1, ?_, ?_,r1.mono G.le, ?_⟩⟩
  ·refine⟨W1.le_refl,fun _ h=> .inl h,fun _ _ h=> .inl h,fun b o e _ hb=>(hs.2 b hb).trans e,fun a h _=>dM hs (by obtain⟨o,ho,r⟩:=fR;exact ho▸nofun) a h,rfl,fun _ _ h=>h⟩
  ·exact S.same (fun a o e h=>(hs.2 a fun q=>by cases q;exact h.elim fr.1 fun h=>h fr.2).trans e) S.bare
  ·exact ih (i+1) W1 _ (Wd.fq G.le hI) (hd▸r2.mono G.le) fR fr.1 fr.2
theorem dS.ref{it l}{k:Nat}{ys}(hX:¬X it):∀xs i W s,W.φ[k]?=some l→xs=ys.drop i→s.heap.IsListIter it l i→it∉W.φ→W.I it=none→
  dS n (fun H=>H[k]?=some (some (.list ys)),fun _=>True) X (.ref it) (fun a=>a=it) xs W s:=by
 intro rv
 induction rv with
 |nil=>
  intro i W s hl hr hit ff hi;intro A s1 W1 H1 R G S hp;have dj:s1.heap.IsListIter it l i:=by obtain⟨o,ho,r⟩:=hit;exact⟨o,G.heap _ _ ho ff hX,r⟩
  refine QK fun kG=> ?_;obtain⟨l',nE,_,vs,m,hL,hv,_⟩:=S.live k _ hp;refine kG ?_;have:=Wd.eM G.le hl;cases nE.symm.trans this;have hlen:ys.length≤i:=by simpa using hr.symm
  refine WU R.handled dj ⟨_,hL,rfl,m,rfl⟩ (by refine J RQ ?_;exact R2 (hv.length▸hlen)) fun h' hx=>⟨rfl, ?_⟩;have th:s.heap.get? it≠none:=by obtain⟨o,ho,r⟩:=hit;exact ho▸nofun
  have k:=fun a o e h=>hx a o h e;have fr:=al G th ⟨ff,hi⟩ hX;refine⟨⟨W1.le_refl,fun _ h=> .inl h,fun _ _ h=> .inl h,fun b o e _ hb=>k b o e hb,fun a h ha=> ?_,rfl,fun _ _ h=>h⟩,S.same (fun a o e h=>k a o e fun q=>by cases q;exact h.elim fr.1 fun h=>h fr.2) S.bare⟩;cases q:s1.heap.get? a with
  |none=>exact absurd q h
  |some o=>exact(k a o q ha)▸nofun
 |cons x xs ih=>
  intro i W s hl hr hit ff hi;intro A s1 W1 H1 R G S hp;have dj:s1.heap.IsListIter it l i:=by obtain⟨o,ho,r⟩:=hit;exact⟨o,G.heap _ _ ho ff hX,r⟩
  refine QK fun kG=> ?_;obtain⟨l',nE,_,vs,m,hL,hv,_⟩:=S.live k _ hp;refine kG ?_;have:=Wd.eM G.le hl;cases nE.symm.trans this;have hy:ys[i]?=some x:=by refine aO Wh (aO hr ?_);rfl
  refine QK fun kG=> ?_;obtain⟨v,KC,r1⟩:=hv.get hy;refine kG ?_;have th:s.heap.get? it≠none:=by obtain⟨o,ho,r⟩:=hit;exact ho▸nofun
  have fr:=al G th ⟨ff,hi⟩ hX;refine WE dj ⟨_,hL,rfl,m,rfl⟩ (by refine J RQ ?_;exact KC) fun h' fR hs=>⟨v,rfl,fun target _=>ix fR ⟨W1, ?_, ?_,r1, ?_⟩⟩
  ·refine⟨W1.le_refl,fun _ h=> .inl h,fun _ _ h=> .inl h,fun b o e _ hb=>(hs.2 b hb).trans e,fun a h _=>dM hs (by obtain⟨o,ho,r⟩:=fR;exact ho▸nofun) a h,rfl,fun _ _ h=>h⟩
  ·exact S.same (fun a o e h=>(hs.2 a fun q=>by cases q;exact h.elim fr.1 fun h=>h fr.2).trans e) S.bare
  ·exact ih (i+1) W1 _ nE (by refine aO Wx (aO hr ?_);rfl) fR fr.1 fr.2
theorem di.list{s:Ro}(hX:¬X it)(hit:s.heap.IsListIter it l i)(ff:it∉W.φ):di X (.ref it) W s:=fun A s1 W1 H1 G S Q q=>by
 have dj:s1.heap.IsListIter it l i:=by obtain⟨o,ho,r⟩:=hit;exact⟨o,G.heap _ _ ho ff hX,r⟩
 exact wpAny_pyIter_listiter dj q
theorem VT.lst:VT n (.lst xs) H xs (fun _=>True,fun _=>True):=by
 refine .mk fun A s W v R S r Q q=> ?_;obtain⟨a,vs,m,rfl,hI,r,_⟩:=r;refine We (aA S hI) (q _ (fun a=>a=s.heap.objs.size) _ W (Gr.cm W s _) (S.cm _) ?_);have fr:=S.fresh (ae s.heap);have hit:(s.heap.push {cls:= .type "list_iterator",data:= .fields #[.ref a, .int 0 0]}).IsListIter s.heap.objs.size a 0:=⟨_,Q0 _ rfl,rfl,rfl⟩;refine⟨fun b e=> ?_,fun X hX=>dS.lst (fun x=>hX _ x rfl) xs 0 W _ hI r hit fr.1 fr.2,fun X hX=>di.list (fun x=>hX _ x rfl) hit fr.1⟩;subst e;exact⟨ae _,fun e=>by obtain⟨o,ho,_⟩:=hit;exact absurd (ho.symm.trans e) nofun⟩
theorem VT.ref(hk:H[k]?=some (some (.list xs))):VT n (.ref k) H xs (fun H=>H[k]?=some (some (.list xs)),fun _=>True):=by
 refine .mk fun A s W v R S r Q q=> ?_;obtain⟨a,rfl,p⟩:=r;obtain⟨a',p',_,vs,m,ho,r,hz⟩:=S.live k _ hk;cases p▸p';refine We ⟨_,ho,rfl,m,rfl⟩ (q _ (fun a=>a=s.heap.objs.size) _ W (Gr.cm W s _) (S.cm _) ?_);have fr:=S.fresh (ae s.heap);have hit:(s.heap.push {cls:= .type "list_iterator",data:= .fields #[.ref a, .int 0 0]}).IsListIter s.heap.objs.size a 0:=⟨_,Q0 _ rfl,rfl,rfl⟩;refine⟨fun b e=> ?_,fun X hX=>dS.ref (fun x=>hX _ x rfl) xs 0 W _ p rfl hit fr.1 fr.2,fun X hX=>di.list (fun x=>hX _ x rfl) hit fr.1⟩;subst e;exact⟨ae _,fun e=>by obtain⟨o,ho,_⟩:=hit;exact absurd (ho.symm.trans e) nofun⟩
end
section
variable{n:Nat}{F F':Fx}{ρ am cU hJ dH:Loc}{H H1 H2 H3 H4 H5:AH}{g:Fl}
structure Acc W(s:Ro) D acc:Prop where
 obj:∃vs m,s.heap.get? D=some (sq "list" vs m)∧aj W acc vs
 sep:jz W D
theorem Acc.step{W W'}{s s'}{D}{acc}(a:Acc W s D acc)(G:Gr X W s W' s')(hX:¬X D):Acc W' s' D acc:=by
 obtain⟨vs,m,ho,r⟩:=a.obj;exact⟨⟨vs,m,G.heap _ _ ho a.sep.1 hX,r.mono G.le⟩,al G (ho▸nofun) a.sep hX⟩
noncomputable abbrev KD(n:Nat)(F:Fx)(e:SD)(d:Nat)(P:PP)(xs:List V)(ρ:Loc)(acc:List V)(H:AH)(cV:List V)(H':AH):Prop:=∀A s W env it D Y,aB A n→an W H s→az F env→cQ W ρ env s.heap→
    (¬Y env.locals)→(∀n c,env.cells.lookup n=some c→¬Y c)→¬Y D→D≠env.locals→(∀n c,env.cells.lookup n=some c→c≠D)→Acc W s D acc→
    dS n P (fun a=>own env a∨a=D) it Y xs W s→
    ∀Q:Ro→Prop,(∀s' W',Gr (fun a=>(own env a∨a=D)∨Y a) W s W' s'→an W' H' s'→cQ W' ρ env s'.heap→Acc W' s' D cV→Q s')→
     SM (model prog w) A (.compLoop e d it (.ref D) env) (fun r s'=>∃f,r= .ok f∧Q s') s
@[irreducible] noncomputable def CF (n:Nat) (F:Fx) (e:SD) (d:Nat) (P:PP) (xs:List V) (ρ:Loc) (acc:List V) (H:AH) (cV:List V) (H':AH):Prop:=KD n F e d P xs ρ acc H cV H'
theorem CF.mk{n F e d P xs ρ acc H cV H'}(h:KD n F e d P xs ρ acc H cV H'):CF n F e d P xs ρ acc H cV H':=by delta CF;exact h
theorem CF.run{n F e d P xs ρ acc H cV H'}(h:CF n F e d P xs ρ acc H cV H'):KD n F e d P xs ρ acc H cV H':=by delta CF at h;exact h
noncomputable abbrev D6(n:Nat)(F:Fx)(ifs:List SD)(ρ:Loc)(H:AH)(b:Bool)(H':AH):Prop:=∀A s W env,aB A n→an W H s→az F env→cQ W ρ env s.heap→
    ∀Q,(∀s' W',Gr cr W s W' s'→an W' H' s'→Q b s')→
     wpAny (model prog w) A (forIn ifs true fun c r=>if r=true then do let ok ←isTrue c env (eval c env);pure (SA ok) else pure (SA r)) Q aX s
@[irreducible] noncomputable def eI (n:Nat) (F:Fx) (ifs:List SD) (ρ:Loc) (H:AH) (b:Bool) (H':AH):Prop:=D6 n F ifs ρ H b H'
theorem eI.mk{n F ifs ρ H b H'}(h:D6 n F ifs ρ H b H'):eI n F ifs ρ H b H':=by delta eI;exact h
theorem eI.run{n F ifs ρ H b H'}(h:eI n F ifs ρ H b H'):D6 n F ifs ρ H b H':=by delta eI at h;exact h
theorem eI.nil:eI n F [] ρ H true H:= .mk fun _ s W _ _ S _ _ _ q=>wpAny_tests_nil (q s W (Gr.refl ..) S)
theorem eI.one(h:TT n F c ρ H b H1):eI n F [c] ρ H b H1:= .mk fun A s W env R S E f Q q=>wpAny_tests_one (h.run A s W env R S E f Q q)
theorem kI{a}(hl:a≠env.locals)(hc:∀n c,env.cells.lookup n=some c→c≠a):¬own env a:=fun h=>by
 rcases h with h|⟨_,x,_,h⟩
 ·exact hl h
 ·exact hc x a h rfl
theorem sh{s}{W}{D}{acc}{x}{v}(S:an W H s)(a:Acc W s D acc)(r:Rel W x v)(hz:acc.length≤QW){Q}
  (q:∀s',Gr (fun b=>b=D) W s W s'→an W H s'→Acc W s' D (acc++[x])→Q .none s'):wpAny (model prog w) A (call (.builtin "list.append") [.ref D,v]) Q aX s:=by
 obtain⟨vs,m,ho,rl⟩:=a.obj;refine Zu ⟨m,ho⟩ (fun h' hp hs=> ?_) (J Re (J rl.length ((hz))));obtain⟨m',hp⟩:=hp;refine q _ ⟨W.le_refl,fun _ h=> .inl h,fun _ _ h=> .inl h,fun b o e _ hb=>(hs.2 b hb).trans e,fun b h _=>dM hs (hp▸nofun) b h,rfl,fun _ _ h=>h⟩
  (S.same (fun b o e h=>(hs.2 b fun q=>by cases q;exact h.elim a.sep.1 fun h=>h a.sep.2).trans e) S.bare) ⟨⟨vs++[v],m', ?_,rl.append ⟨v,[],rfl,r,rfl⟩⟩,a.sep⟩
 rw[(show(vs.toArray.push v)=(vs++[v]).toArray by simp)] at hp;exact hp
theorem CF.nil{elt}{gens}{scope}{pos}{d}{P}{acc}(hp:P.1 H) p(K:Value→Value→Value→Env→Yp Fin)
  (heq:∀it a env,Xq (.ListComp elt gens scope pos) d it a env=(standAt p>>=fun _=>Uk it>>=fun r=>match r with
   |none=>pure (.done .next)
   |some v=>K it a v env)):
  CF n F (.ListComp elt gens scope pos) d P [] ρ acc H acc H:=by
 refine .mk fun A s W env it D Y R S E fr hl hc hD rR rS ac fd Q q=>(R7 ?_);refine Tv (dg fun Q' E' qq _=> ?_);refine J (heq ..) (bA (QL (Ri (fd A s W H R (Gr.refl ..) S hp) (fun r s1 h1=> ?_) fun _ _ e=>e.elim)));obtain⟨rfl,G1,S1⟩:=h1;exact QO (qq _ _ ⟨_,rfl,q s1 W (G1.weaken fun x h=> .inr h) S1 (fr.dh G1 hl hc) (ac.step G1 hD)⟩)
theorem CF.skip{elt target}{ifs}{gens}{scope}{pos}{d}{P}{x}{xs acc cV}(hp:P.1 H)(hT:P.2 target)(ht:AT n F target x ρ H am H1)
  (hi:eI n F ifs am H1 false H2) (hs:∀n x,ρ.lookup n=some x→am.lookup n=some x) (h:CF n F (.ListComp elt gens scope pos) d P xs ρ acc H2 cV H3) p
  (heq:∀it a env,Xq (.ListComp elt gens scope pos) d it a env=(standAt p>>=fun _=>Uk it>>=fun r=>match r with
   |none=>pure (.done .next)
   |some v=>SI target it v>>=fun _=>Xa target env v>>=fun _=>
     (forIn ifs true fun c r=>if r=true then do let ok ←isTrue c env (eval c env);pure (SA ok) else pure (SA r))>>=fun ok=>
     if ok=true then((do let _ ←call (.builtin "list.append") [a,←eval elt env])>>=fun _=>aae (.compLoop (.ListComp elt gens scope pos) d it a env)) else aae (.compLoop (.ListComp elt gens scope pos) d it a env))):
  CF n F (.ListComp elt gens scope pos) d P (x::xs) ρ acc H cV H3:=by
 refine .mk fun A s W env it D Y R S E fr hl hc hD rR rS ac fd Q q=>(R7 ?_);refine Tv (dg fun Q' E' qq _=> ?_);refine J (heq ..) (bA (QL (Ri (fd A s W H R (Gr.refl ..) S hp) (fun r s1 h1=> ?_) fun _ _ e=>e.elim)));obtain⟨v,rfl,h1⟩:=h1;refine QL (Ri (h1 target hT) (fun _ s2 h2=> ?_) fun _ _ e=>e.elim);refine QK fun kG=> ?_;obtain⟨W2,G2,S2,r2,xw⟩:=h2;refine kG (QL (lC (ht.run A s2 W2 env v R S2 E (fr.dh G2 hl hc) r2 _ fun s3 W3 G3 S3 f3=> ?_)));refine QL (lC (hi.run A s3 W3 env R S3 E f3 _ fun s4 W4 G4 S4=> ?_));have um:Gr (fun a=>own env a∨a=D) W2 s2 W4 s4:=(G3.trans G4.of).weaken fun x h=> .inl h;refine QO (qq _ _ ⟨rfl,h.run A s4 W4 env it D Y R S4 E ((f3.step G4).sub hs) hl hc hD rR rS (((ac.step G2 hD).step G3 (kI rR rS)).step G4 id) (xw.step um) Q fun s5 W5 G5 S5 f5 a5=>q s5 W5 ?_ S5 f5 a5⟩);exact((G2.weaken fun x h=> .inr h).trans (um.weaken fun x h=> .inl h)).trans G5
theorem CF.cons{elt target}{ifs}{gens}{scope}{pos}{d}{P}{x y}{xs acc cV}(hp:P.1 H)(hT:P.2 target)(ht:AT n F target x ρ H am H1)
  (hi:eI n F ifs am H1 true H2) (he:ET n F elt am H2 y H3) (hs:∀n x,ρ.lookup n=some x→am.lookup n=some x) (hz:acc.length≤QW) (h:CF n F (.ListComp elt gens scope pos) d P xs ρ (acc++[y]) H3 cV H4) p
  (heq:∀it a env,Xq (.ListComp elt gens scope pos) d it a env=(standAt p>>=fun _=>Uk it>>=fun r=>match r with
   |none=>pure (.done .next)
   |some v=>SI target it v>>=fun _=>Xa target env v>>=fun _=>
     (forIn ifs true fun c r=>if r=true then do let ok ←isTrue c env (eval c env);pure (SA ok) else pure (SA r))>>=fun ok=>
     if ok=true then((do let _ ←call (.builtin "list.append") [a,←eval elt env])>>=fun _=>aae (.compLoop (.ListComp elt gens scope pos) d it a env)) else aae (.compLoop (.ListComp elt gens scope pos) d it a env))):
  CF n F (.ListComp elt gens scope pos) d P (x::xs) ρ acc H cV H4:=by
 refine .mk fun A s W env it D Y R S E fr hl hc hD rR rS ac fd Q q=>(R7 ?_);refine Tv (dg fun Q' E' qq _=> ?_);refine J (heq ..) (bA (QL (Ri (fd A s W H R (Gr.refl ..) S hp) (fun r s1 h1=> ?_) fun _ _ e=>e.elim)));obtain⟨v,rfl,h1⟩:=h1;refine QL (Ri (h1 target hT) (fun _ s2 h2=> ?_) fun _ _ e=>e.elim);refine QK fun kG=> ?_;obtain⟨W2,G2,S2,r2,xw⟩:=h2;refine kG (QL (lC (ht.run A s2 W2 env v R S2 E (fr.dh G2 hl hc) r2 _ fun s3 W3 G3 S3 f3=> ?_)));refine QL (lC (hi.run A s3 W3 env R S3 E f3 _ fun s4 W4 G4 S4=> ?_));have f4:=f3.step G4;refine QL (QL (lC (he.run A s4 W4 env R S4 E f4 _ fun u s5 W5 G5 S5 r5=> ?_)));refine QL (lC (sh S5 ((((ac.step G2 hD).step G3 (kI rR rS)).step G4 id).step G5 id) r5 hz fun s6 G6 S6 a6=>QO (QO (qq _ _ ⟨rfl, ?_⟩))));have GG:Gr (fun a=>own env a∨a=D) W2 s2 W5 s6:=(((G3.trans G4.of).trans G5.of).weaken fun x h=> .inl h).trans (G6.weaken fun x h=> .inr h);refine h.run A s6 W5 env it D Y R S6 E (((f4.step G5).dh G6 (fun h=>rR h.symm) fun x c hx=>rS x c hx).sub hs) hl hc hD rR rS a6 (xw.step GG) Q fun s7 W7 G7 S7 f7 a7=>q s7 W7 ?_ S7 f7 a7;exact((G2.weaken fun x h=> .inr h).trans (GG.weaken fun x h=> .inl h)).trans G7
theorem fS{elt}{gens}{scope}{pos}{d}{it acc}{env}{R}{g}(hg:gens[d]?=some g)(vA:g.is_async=0)
  (h0:SM (model prog w) A (.compLoop (.ListComp elt gens scope pos) d it acc env) R s)
  (h:wpAny (model prog w) A (VP it) (fun D7 s'=>SM (model prog w) A (.compLoop (.ListComp elt gens scope pos) d D7 acc env) R s') aX s):
  SM (model prog w) A (.compStart (.ListComp elt gens scope pos) d it acc env) R s:=by
 refine R7 (wpAny_notedAt ?_)
 delta compStart
 have hc:((clausesOf (.ListComp elt gens scope pos))[d]?).elim false (·.is_async !=0)=false:=by
  refine J hg ?_;show(g.is_async !=0)=false;exact J vA rfl
 refine J hc (bG (Vm ?_));refine bl (fun _=> ?_) fun _=> ?_
 ·first
   |exact bP (QO (VS rfl h0))
   |exact QO (VS rfl h0)
 ·refine J hg ?_
  first
   |exact bR (bA (QL (Ri h (fun D7 s' h'=>QO (VS rfl h')) fun _ _ x=>x.elim)))
   |(exact bR (bA (QL (Ri h (fun D7 s' h'=>QO (VS rfl h')) fun _ _ x=>x.elim))))
end
section
variable{n:Nat}{F F':Fx}{ρ am cU hJ dH:Loc}{H H1 H2 H3 H4 H5:AH}{g:Fl}
theorem an.adopt(S:an W H s)(h:jz W D)(ho:s.heap.get? D=some o):
  an (W.put D o) H s∧Gr (fun b=>b=D) W s (W.put D o) s∧W.le (W.put D o):=by
 have l:W.le (W.put D o):=Wd.lj h.2;refine⟨⟨fun a p e=> ?_,fun a p e=>Wd.fq l (S.gr a p e),S.nodup,S.len,S.lt,fun i ob e=> ?_,S.bare,S.tk,S.col⟩,⟨l,fun a m=> .inl m,fun a p e=> ?_,fun a p e _ _=>e,fun a h _=>h,rfl,fun _ _ h=>h⟩,l⟩
 ·by_cases hx:a=D
  ·subst hx;replace e:=(Wd.ak ..)▸e;cases e;exact ho
  ·exact S.cq a p (by simpa [Wd.put,hx] using e)
 ·obtain⟨a,p,q,r⟩:=S.live i ob e;refine⟨a,p, ?_,eW l r⟩;have:a≠D:=fun z=>by subst z;exact h.1 (RJ p)
  simpa [Wd.put,this] using q
 ·by_cases hx:a=D
  ·exact .inr (.inr (.inr hx))
  ·exact .inl (by simpa [Wd.put,hx] using e)
theorem lk{α:Type}(x y:Rj) v(r:List (Rj×α)):XY x ((y,v)::r)=if x=y then some v else r.lookup x:=by
 refine J RG ?_;by_cases h:x=y
 ·subst h;simp
 ·rw[(show(x==y)=false by simpa using h),if_neg h]
noncomputable def dT(F:Fx)(names:List (Rj×Zh)):List (Rj×Zh):=names.map fun(n,k)=>if(k== .free&&F.names.lookup n==some .cell) then(n, .cell) else(n,k)
theorem m9{env}(E:az F env):(aaa scope env).names=dT F scope.names:=by
 unfold aaa dT;refine J E.kind ?_;simp only[(be E),Bool.and_assoc,beq_self_eq_true,Ul]
theorem si:∀(names:List (Rj×Zh)) acc,(∀x∈names,x.2= .free→∃c,env.cells.lookup x.1=some c)→(∀x c,acc.lookup x=some c→env.cells.lookup x=some c)→
  ∃cl,(forIn names acc fun x r=>if(x.2== .free)=true then do let a ←cellOf env x.1;pure (SA ((x.1,a)::r)) else pure (SA r):Yp (List (Rj×TD)))=pure cl∧
   (∀x c,cl.lookup x=some c→env.cells.lookup x=some c)∧(∀x,(acc.lookup x).isSome=true∨(x, .free)∈names→(cl.lookup x).isSome=true):=by
 intro rv
 induction rv with
 |nil=>
  intro acc _ ha;exact⟨acc,rfl,ha,fun x h=>h.resolve_right (by simp)⟩
 |cons pq r ih=>
  intro acc h ha;refine J (UQ ..) ?_;by_cases hk:(pq.2== .free)=true
  ·obtain⟨c,hc⟩:=h (pq.1,pq.2) QR (of_decide_eq_true hk);have xE:cellOf env pq.1=pure c:=by delta cellOf;rw[hc]
   simp only[hk,if_true,xE,pure_bind];have CM:∀x c',((pq.1,c)::acc).lookup x=some c'→env.cells.lookup x=some c':=fun x c' e=>by
    rw[lk] at e;by_cases hx:x=pq.1
    ·subst hx;replace e:=(if_pos rfl)▸e;cases e;exact hc
    ·rw[if_neg hx] at e;exact ha x c' e
   obtain⟨cl,e,h1,h2⟩:=ih ((pq.1,c)::acc) (fun x hx=>h x (QQ _ hx)) CM;refine⟨cl,e,h1,fun x hx=>h2 x ?_⟩;rcases hx with hx|hx
   ·by_cases e':x=pq.1
    ·cases e';exact .inl (by refine J (lk ..) (J (if_pos rfl) ?_);rfl)
    ·exact .inl (J (lk ..) (J (if_neg e') ((hx))))
   ·rcases QX.mp hx with hx|hx
    ·cases hx;exact .inl (by refine J (lk ..) (J (if_pos rfl) ?_);rfl)
    ·exact .inr hx
  ·simp only[hk,ZG,if_false,pure_bind];obtain⟨cl,e,h1,h2⟩:=ih acc (fun x hx=>h x (QQ _ hx)) ha;refine⟨cl,e,h1,fun x hx=>h2 x ?_⟩;rcases hx with hx|hx
   ·exact .inl hx
   ·rcases QX.mp hx with hx|hx
    ·cases hx;exact absurd rfl hk
    ·exact .inr hx
structure aq(F:Fx)(scope:aaf)(ρ dH:Loc):Prop where
 kind:scope.kind= .function
 co:scope.isCoroutine=false
 lD:∀x∈scope.names,x.2≠ .cell
 names:∀x∈scope.names,x.2= .local→scope.names.lookup x.1=some .local
 free:∀x∈scope.names,x.2= .free→F.names.lookup x.1=some .cell∨((ρ.lookup x.1).isSome=true∧F.names.lookup x.1≠some .local)
 sub:∀x v,dH.lookup x=some v→ρ.lookup x=some v
 bound:∀x v,dH.lookup x=some v→scope.names.lookup x=some .free∧F.names.lookup x≠some .local
theorem j2:∀{names}{k},names.lookup x=some k→
  (dT F names).lookup x=some (if(k== .free&&F.names.lookup x==some .cell) then .cell else k):=by
 intro rv
 induction rv with
 |nil=>
  intro _ h;cases h
 |cons pq r ih=>
  obtain⟨y,k'⟩:=pq;intro k h;rw[lk] at h;show XY x ((if(k'== .free&&F.names.lookup y==some .cell)=true then(y, .cell) else(y,k'))::dT F r)=_;by_cases e:x=y
  ·subst e;replace h:=(if_pos rfl)▸h;cases h;by_cases hc:(k'==Ub&&F.names.lookup x==some X4)=true
   ·rw[if_pos hc,if_pos hc,lk,if_pos rfl]
   ·rw[if_neg hc,if_neg hc,lk,if_pos rfl]
  ·replace h:=(if_neg e)▸h;have:∀z,z.1=y→(z::dT F r).lookup x=(dT F r).lookup x:=fun z hz=>by
    obtain⟨z1,z2⟩:=z;cases hz;rw[lk,if_neg e]
   exact(this _ (by refine bl (fun _=> ?_) (fun _=> ?_)<;>rfl)).trans (ih h)
theorem ft:∀{names},(∀y∈names,y.2≠ .cell)→(dT F names).lookup x=some .cell→(x,Ub)∈names∧F.names.lookup x=some .cell:=by
 intro rv
 induction rv with
 |nil=>
  intro _ h;cases h
 |cons pq r ih=>
  obtain⟨y,k⟩:=pq;intro hn h;change XY x ((if(k== .free&&F.names.lookup y==some .cell)=true then(y,X4) else(y,k))::dT F r)=_ at h;by_cases hc:(k==Ub&&F.names.lookup y==some X4)=true
  ·rw[if_pos hc,lk] at h;by_cases e:x=y
   ·subst e;simp only[Q5,beq_iff_eq] at hc;exact⟨by exact hc.1▸QR,hc.2⟩
   ·rw[if_neg e] at h;have:=ih (fun y hy=>hn y (QQ _ hy)) h;exact⟨QQ _ this.1,this.2⟩
  ·rw[if_neg hc,lk] at h;by_cases e:x=y
   ·subst e;replace h:=(if_pos rfl)▸h;cases h;exact absurd rfl (hn _ QR)
   ·rw[if_neg e] at h;have:=ih (fun y hy=>hn y (QQ _ hy)) h;exact⟨QQ _ this.1,this.2⟩
theorem fu{C}{h'}(S:an W H s)(E:az F env)(fr:cQ W ρ env s.heap)(K:aq F scope ρ dH)
  (gi:∀x c,cl.lookup x=some c→env.cells.lookup x=some c) (ou:∀x,(x,Ub)∈scope.names→(cl.lookup x).isSome=true) (hC:s.heap.get? C=none) (AP:h'.Ns C fun _=>none)
  (k:∀a o,s.heap.get? a=some o→h'.get? a=some o):
  az ⟨dT F scope.names,F.code,false,Q6⟩ (Un scope cl C env)∧cQ W dH (Un scope cl C env) h':=by
 have EK:az ⟨dT F scope.names,F.code,false,Q6⟩ (Un scope cl C env):=⟨m9 E,K.kind,E.globals,E.builtins,E.code,K.co,(fun h=>by cases h),(fun _ h=>by cases h)⟩;have GE:=be EK;refine⟨EK,⟨⟨_,AP,fun x v e hk=> ?_⟩,fun x v e=> ?_,fun x v e hk=> ?_,fun x hk=> ?_,(S.fresh hC),fun x c hc=> ?_,fun x x' c h1 h2=>fr.inj x x' c (gi _ _ h1) (gi _ _ h2)⟩⟩
 ·rw[GE,j2 (K.bound x v e).1] at hk;exfalso;revert hk;refine bl (fun _=> ?_) (fun _=> ?_)<;>exact nofun
 ·refine J (GE ..) (J (j2 (K.bound x v e).1) ?_);refine bl (fun _=> ?_) fun _=> ?_
  ·exact .inr (.inl rfl)
  ·exact .inr (.inr rfl)
 ·obtain⟨c,u,e1,e2,e3⟩:=fr.cell x v (K.sub x v e) (by rw[be E];exact(K.bound x v e).2);obtain⟨c',pN⟩:=Ti.mp (ou x ((show∀{x}{k}{l:List (Rj×Zh)},l.lookup x=some k→(x,k)∈l from fun h=>mem_of_lookup h) (K.bound x v e).1));cases e1.symm.trans (gi x c' pN);exact⟨_,u,pN,eH e2 (k _),e3⟩
 ·rw[GE] at hk;obtain⟨c',pN⟩:=Ti.mp (ou x (ft K.lD hk).1);obtain⟨c,u,e1,e2⟩:=fr.cells x (by rw[be E];exact(ft K.lD hk).2);cases e1.symm.trans (gi x c' pN);exact⟨_,u,pN,eH e2 (k _)⟩
 ·obtain⟨a,b,c',d⟩:=fr.dC x c (gi x c hc);exact⟨a,b,fun z=>d (z▸hC),br k c d⟩
theorem dN(E:az F env){W}{h}(fr:cQ W ρ env h)(K:aq F scope ρ dH):
  ∃cl,X2 scope env=pure cl∧(∀x c,cl.lookup x=some c→env.cells.lookup x=some c)∧(∀x,(x,Ub)∈scope.names→(cl.lookup x).isSome=true):=by
 obtain⟨cl,e,h1,h2⟩:=si scope.names [] (fun x hx hf=>by
  rcases K.free x hx hf with q|⟨q1,q2⟩
  ·obtain⟨c,u,e1,_⟩:=fr.cells x.1 (by rw[be E];exact q);exact⟨c,e1⟩
  ·obtain⟨v,hv⟩:=Ti.mp q1;obtain⟨c,u,e1,_⟩:=fr.cell x.1 v hv (by rw[be E];exact q2);exact⟨c,e1⟩) (by intro x c h;cases h)
 refine⟨cl, ?_,h1,fun x hx=>h2 x (.inr hx)⟩;have eq:X2 scope env=(forIn scope.names [] fun x r=>if(x.2== .free)=true then do let a ←cellOf env x.1;pure (SA ((x.1,a)::r)) else pure (SA r):Yp (List (Rj×TD))):=by
  rw[X2];rw[bind_pure]
 rw[eq,e]
theorem nF{elt target iter}{ifs}{rest}{scope}{cl}{P}{xs acc}{pos}{A}{s0 s2}{W0 W2}{env}{it}{Y}(R:aB A n)
  (pQ:Gr cr W0 s0 W2 s2) (S:an W2 H s2) (E:az F env) (CN:cQ W0 ρ env s0.heap) (K:aq F scope ρ dH) (gi:∀x c,cl.lookup x=some c→env.cells.lookup x=some c)
  (ou:∀x,(x,Ub)∈scope.names→(cl.lookup x).isSome=true) (c:Src n P it Y xs s0 W2 s2) (hz:acc.length≤QW)
  (h:CF n ⟨dT F scope.names,F.code,false,Q6⟩ (.ListComp elt (⟨target,iter,ifs,0⟩::rest) scope pos) 0 P xs dH [] H acc H1) {RR:Value→TD→Result→Ro→Prop}
  (GH:∀D C f s' W' m,Gr cr W0 s0 W' s'→an W' H1 s'→Rel W' (.lst acc) (.ref D)→s0.heap.get? C=none→C∉W'.φ→W'.I C=none→s'.heap.Ns C m→RR (.ref D) C (.ok f) s'):
  wpAny (model prog w) A (newList []) (fun acc gq=>wpAny (model prog w) A (Y6 scope env.globals cl [] env.qual none .none (some env)) (fun cenv fg=>
   SM (model prog w) A (.compStart (.ListComp elt (⟨target,iter,ifs,0⟩::rest) scope pos) 0 it acc {cenv with scope:=aaa scope env}) (RR acc cenv.locals) fg) aX gq) aX s2:=by
 have fr:=CN.step pQ;refine R5 (Xd K.lD (by intro y hy;simp at hy) (fun cI gF lE=> ?_) K.kind);have hC:(s2.heap.push (sq "list" [] 0)).objs.size=s2.heap.objs.size+1:=RI ..;have old:=fun b o e=>lE.extBut b o (Sw (Rq e)) (QT _ e);have gG:=fun b o e=>old b o (QT _ e);have pR:s2.heap.get? (s2.heap.push (sq "list" [] 0)).objs.size=none:=by
  cases e:s2.heap.get? (s2.heap.push (sq "list" [] 0)).objs.size with
  |none=>rfl
  |some o=>have:=Rq e;rw[hC] at this;exact absurd (Ur this) (Sj _)
 have S4:=S.same (s':={s2 with heap:=cI}) (fun b o e _=>gG b o e) S.bare;have um:Gr cr W2 s2 W2 {s2 with heap:=cI}:=⟨W2.le_refl,fun _ h=> .inl h,fun _ _ h=> .inl h,fun b o e _ _=>gG b o e,fun a h _=>br gG a h,rfl,fun _ _ h=>h⟩;have xF:=fun a y=>(c.new a y).2;have CO:s2.heap.objs.size≠(s2.heap.push (sq "list" [] 0)).objs.size:=J hC (((Vt _).symm));have hX:∀a,(own (Un scope cl (s2.heap.push (sq "list" [] 0)).objs.size env) a∨a=s2.heap.objs.size)→s2.heap.get? a=none:=fun a o=>by
  rcases o with(o|⟨ce,x,_,hx⟩)|o
  ·exact o▸pR
  ·cases q:s2.heap.get? a with
   |none=>rfl
   |some o=>
    have h2:=ce;rw[hC] at h2;exact absurd (XC (Ur h2) (Rq q)) (Sj _)
  ·exact o▸ae _
 have lp:SM (model prog w) A (.compLoop (.ListComp elt (⟨target,iter,ifs,0⟩::rest) scope pos) 0 it (.ref s2.heap.objs.size) (Un scope cl (s2.heap.push (sq "list" [] 0)).objs.size env))
   (RR (.ref s2.heap.objs.size) (s2.heap.push (sq "list" [] 0)).objs.size) {s2 with heap:=cI}:=by
  refine T6 (h.run A {s2 with heap:=cI} W2 (Un scope cl (s2.heap.push (sq "list" [] 0)).objs.size env) it s2.heap.objs.size Y R S4 (fu S E fr K gi ou pR gF gG).1 (fu S E fr K gi ou pR gF gG).2 (fun y=>xF _ y pR) (fun x c' hx y=> ?_) (fun y=>xF _ y (ae _)) CO (fun x c hx e=>(fun x c hx=>(fr.dC x c (gi x c hx)).2.2.2) x c hx (e▸ae _)) (⟨⟨[],0,(old _ _ (Q0 _ rfl)),rfl⟩,(S.fresh (ae s2.heap))⟩)
   ((fun X hx=>(c.feed X hx).step (um.of)) _ fun a o y=>xF a y (hX a o)) (fun s'=>∀f,RR (.ref s2.heap.objs.size) (s2.heap.push (sq "list" [] 0)).objs.size (.ok f) s') fun s' W' G' S' f' a' f=> ?_) fun r s' hr=>by obtain⟨f,rfl,hr⟩:=hr;exact hr f
  ·exact(CN.dC x _ (gi x _ hx)).2.2.2 (c.new _ y).1
  ·obtain⟨vs,m,ho,rl⟩:=a'.obj;obtain⟨S5,G5,l5⟩:=S'.adopt a'.sep ho;obtain⟨mm,hm,_⟩:=f'.m;have h0:∀a,((own (Un scope cl (s2.heap.push (sq "list" [] 0)).objs.size env) a∨a=s2.heap.objs.size)∨Y a)→s0.heap.get? a=none:=fun a o=>by
    rcases o with o|o
    ·exact(pQ.back (hX a o)).resolve_right id
    ·exact(c.new a o).1
   have CP:=f'.sep;refine GH _ _ f s' _ mm ?_ S5 ⟨_,vs,m,rfl,Wd.ak ..,rl.mono l5,hz⟩ ((pQ.back pR).resolve_right id) CP.1 ?_ hm
   ·refine((pQ.trans um).base G' fun a o e=>absurd (h0 a o) e).base G5 fun a o e=> ?_;subst o;exact absurd ((pQ.back (ae s2.heap)).resolve_right id) e
   ·show(if(s2.heap.push (sq "list" [] 0)).objs.size=s2.heap.objs.size then _ else W'.I _)=none;exact(if_neg (Se CO))▸CP.2
 exact fS rfl rfl lp (di.step (c.self (fun _=>False) fun _ h=>h.elim) um A _ W2 H (Gr.refl ..) S4 _ lp)
theorem Gr.same{h'}{C}(hs:Sm C s.heap h')(hX:X C):Gr X W s W {s with heap:=h'}:=
 ⟨W.le_refl,fun _ h=> .inl h,fun _ _ h=> .inl h,fun b o e _ hb=>(hs.2 b fun q=>hb (by subst q;exact hX)).trans e,fun a h hx=>by
  refine J (hs.2 a fun q=>hx (by subst q;exact hX)) ?_;exact h,rfl,fun _ _ h=>h⟩
theorem ET.cK{elt target iter}{ifs}{rest}{scope}{P}{xs acc}{pos}(K:aq F scope ρ dH)(hi:IT n F iter ρ H xs P H1)
  (h:CF n ⟨dT F scope.names,F.code,false,Q6⟩ (.ListComp elt (⟨target,iter,ifs,0⟩::rest) scope pos) 0 P xs dH [] H1 acc H2) (hz:acc.length≤QW)
  (hs:autoParam (∀env x,Sv iter env x=pure x) aI):
  ET n F (.ListComp elt (⟨target,iter,ifs,0⟩::rest) scope pos) ρ H (.lst acc) H2:=by
 refine .mk fun A s W env R S E fr Q q=> ?_;obtain⟨cl,iX,gi,ou⟩:=dN E fr K;refine U1 rfl (hs env) iX K.kind K.names (hi.run A s W env R S E fr _ fun it Y s2 W2 G2 S2 c=> ?_);refine nF R G2 S2 E fr K gi ou c hz h fun D C f s' W' m G' S' r' hC h1 h2 hm=>⟨m,hm,fun h' un=> ?_⟩;refine q _ _ W' (G'.base (Gr.same un rfl) fun x e hx=>by subst e;exact absurd hC hx) (S'.same (fun a o e hh=>(un.2 a fun z=>by subst z;exact hh.elim h1 fun hh=>hh h2).trans e) S'.bare) r'
theorem XT.cK{elt target iter}{ifs}{rest}{scope}{P}{xs acc}{pos iG py}{y}(K:aq F scope ρ dH)(hi:IT n F iter ρ H xs P H1)
  (h:CF n ⟨dT F scope.names,F.code,false,Q6⟩ (.ListComp elt (⟨target,iter,ifs,0⟩::rest) scope pos) 0 P xs dH [] H1 acc H2) (hz:acc.length≤QW) (fN:ST F y)
  (hsw:∀env,az F env→WB (.ListComp elt (⟨target,iter,ifs,0⟩::rest) scope pos) (some (.Name y py)) iG.line env=pure true)
  (hs:autoParam (∀env x,Sv iter env x=pure x) aI):
  XT n F (.Assign [.Name y py] (.ListComp elt (⟨target,iter,ifs,0⟩::rest) scope pos) iG) ρ H .next ((y, .lst acc)::ρ) H2:=by
 refine .mk fun A s W env R S E fr Q q=>(QK fun kG=> ?_);obtain⟨cl,iX,gi,ou⟩:=dN E fr K;refine kG (J (WV _ _ _ _ (hsw env E)) ?_);refine bA (QL ?_);refine QL (Ri (U1 rfl (hs env) iX K.kind K.names (hi.run A s W env R S E fr _ fun it Y s2 W2 G2 S2 c=> ?_)) (fun _ s' hq=>QO (QO hq)) fun _ _ e=>e);refine nF R G2 S2 E fr K gi ou c hz h fun D C f s' W' m G' S' r' hC h1 h2 hm=>(Vr (fN.run A s' W' H2 ρ env (.lst acc) _ S' E (fr.step G') r' _ fun dL CQ CR GI=> ?_));have CS:=fun o=>fr.cF C o hC;obtain⟨mm,AQ⟩:∃m,dL.heap.Ns C m:=⟨m,nD hm fun o e=>CQ.heap _ o e h1 CS⟩;refine⟨mm,AQ,fun h' un=> ?_⟩;have G5:Gr (fun a=>a=C) W' dL W' {dL with heap:=h'}:=Gr.same un rfl;refine q _ _ W' (((G'.of).trans CQ).base G5 fun x e hx=>by cases e;exact absurd hC hx) (CR.same (fun a o e hh=>(un.2 a fun z=>by cases z;exact hh.elim h1 fun hh=>hh h2).trans e) CR.bare) ?_ rfl;refine GI.dh G5 (fun e=> ?_) fun x c hx e=> ?_
 ·exact CS (.inl e.symm)
 ·cases e;exact(fr.dC x _ hx).2.2.2 hC
end
noncomputable def V.eqv(x y:V):Bool:=match x.data,y.data with
 |some a,some b=>TS a b
 |_,_=>false
noncomputable def V.ok(x:V):Bool:=match x.data with
 |some a=>TP a
 |Option.none=>false
section
variable{n:Nat}{F:Fx}{ρ am cU:Loc}{H H1 H2 H3 H4 H5:AH}{g:Fl}
noncomputable abbrev xG(H:AH)(x:V):Prop:=∀s W v,an W H s→Rel W x v→∀a,v= .ref a→∃o,s.heap.get? a=some o∧o.dict=none
@[irreducible] noncomputable def aH (H:AH) (x:V):Prop:=xG H x
theorem aH.mk{H x}(h:xG H x):aH H x:=by delta aH;exact h
theorem aH.run{H x}(h:aH H x):xG H x:=by delta aH at h;exact h
theorem aH.str:aH H (.str x):= .mk fun _ _ _ _ r a e=>by obtain⟨t,rfl,_⟩:=r;cases e
theorem aH.lst:aH H (.lst l):= .mk fun _ _ _ S r a e=>by obtain⟨b,vs,m,rfl,i,_⟩:=r;cases e;exact⟨_,S.cq _ _ i,rfl⟩
theorem aH.bw:aH H (.bw l):= .mk fun _ _ _ S r a e=>by obtain⟨b,vs,m,rfl,i,_⟩:=r;cases e;exact⟨_,S.cq _ _ i,rfl⟩
theorem aH.ah(hi:H[i]?=some (some (.list l))):aH H (.ref i):= .mk fun _ _ _ S r a e=>by
 refine QK fun kG=> ?_;obtain⟨b,rfl,p⟩:=r;cases e;obtain⟨a',p',_,vs,m,ho,_⟩:=S.live i _ hi;refine kG ?_;replace p':=p▸p';cases p';exact⟨_,ho,rfl⟩
theorem aH.iV(hi:H[i]?=some (some (.dict l))):aH H (.ref i):= .mk fun _ _ _ S r a e=>by
 refine QK fun kG=> ?_;obtain⟨b,rfl,p⟩:=r;cases e;obtain⟨a',p',_,vs,m,ho,_⟩:=S.live i _ hi;refine kG ?_;replace p':=p▸p';cases p';exact⟨_,ho,rfl⟩
theorem Ty.lF(hi:H[i]?=some (some (.sset l))):Ty H (.ref i) "set":= .mk fun _ _ _ S r=>by
 obtain⟨a,rfl,p⟩:=r;obtain⟨a',p',_,m,ho,_⟩:=S.live i _ hi;replace p':=p▸p';cases p';exact ho.typeIs
theorem aH.lF(hi:H[i]?=some (some (.sset l))):aH H (.ref i):= .mk fun _ _ _ S r a e=>by
 refine QK fun kG=> ?_;obtain⟨b,rfl,p⟩:=r;cases e;obtain⟨a',p',_,m,ho,_⟩:=S.live i _ hi;refine kG ?_;replace p':=p▸p';cases p';exact ho.noDict _ rfl
theorem GM.of{id}(hT:Ty H x T)(hb:aH H x)(pa:PlainAttrs T)(slot:Slot T name id)(uo:typeOf (.builtin id)=pure (.type "method_descriptor")):
  GM n x name H (.st (.builtin id)) [x] H:= .mk fun A s W v pl R S r Q q=>
 getMethod_builtin (hT.run s W v S r) pa slot uo (hb.run s W v S r) (q _ _ s W (Gr.refl ..) S rfl ⟨v,[],rfl,r,rfl⟩)
theorem CT.oq{xs}{z}(hz:z.length≤QW)
  (h:∀A s W vs,aB A n→an W H s→aj W xs vs→∀Q,(∀u tk,Q (.str z u) {s with toks:=tk})→wpAny (model prog w) A (call f vs) Q aX s):
  CT n (.st f) xs [] H (.str z) H:= .mk fun A s W fv vs kv R S rf rx c7 _ Q q=>by
 cases rf;have:kv=[]:=by simpa using c7
 subst this;exact wpAny_toks (h A s W vs R S rx _ fun u tk ht=>q _ _ W (Gr.dD W s tk) (S.tok tk ht) ⟨u,rfl,hz⟩)
theorem CT.dG{xs}{i}
  (h:∀A s W vs,aB A n→an W H s→aj W xs vs→∀Q,(∀u tk,Q (.int i u) {s with toks:=tk})→wpAny (model prog w) A (call f vs) Q aX s):
  CT n (.st f) xs [] H (.int i) H:= .mk fun A s W fv vs kv R S rf rx c7 _ Q q=>by
 cases rf;have:kv=[]:=by simpa using c7
 subst this;exact wpAny_toks (h A s W vs R S rx _ fun u tk ht=>q _ _ W (Gr.dD W s tk) (S.tok tk ht) ⟨u,rfl⟩)
theorem CT.aY{xs}{b}
  (h:∀A s W vs,aB A n→an W H s→aj W xs vs→∀Q,(∀tk,Q (.bool b) {s with toks:=tk})→wpAny (model prog w) A (call f vs) Q aX s):
  CT n (.st f) xs [] H (.bool b) H:= .mk fun A s W fv vs kv R S rf rx c7 _ Q q=>by
 cases rf;have:kv=[]:=by simpa using c7
 subst this;exact wpAny_toks (h A s W vs R S rx _ fun tk ht=>q _ _ W (Gr.dD W s tk) (S.tok tk ht) rfl)
theorem aj.one(r:aj W [x] vs):∃v,vs=[v]∧Rel W x v:=by
 obtain⟨v,us,e,r,e2⟩:=r;cases e2;exact⟨v,e,r⟩
theorem aj.two(r:aj W [x,y] vs):CD fun v u=>m7 (vs=[v,u]) (Rel W x v) (Rel W y u):=by
 refine QK fun kG=> ?_;obtain⟨v,us,e,r,r2⟩:=r;obtain⟨u,e2,r3⟩:=aj.one r2;exact kG (⟨v,u,by rw[e,e2],r,r3⟩)
theorem aj.three(r:aj W [x,y,z] vs):DW fun v u t=>pL (vs=[v,u,t]) (Rel W x v) (Rel W y u) (Rel W z t):=by
 refine QK fun kG=> ?_;obtain⟨v,us,e,r,r2⟩:=r;obtain⟨u,t,e2,r3,r4⟩:=aj.two r2;exact kG (⟨v,u,t,by rw[e,e2],r,r3,r4⟩)
theorem CT.startswith:CT n (.st (.builtin "str.startswith")) [.str x, .str y] [] H (.bool (Vd x y)) H:=CT.aY fun A s W vs R S r Q q=>by
 obtain⟨v,u,rfl,⟨t,rfl,_⟩,⟨t',rfl,_⟩⟩:=r.two;exact SC.startswith (q s.toks)
theorem CT.endswith:CT n (.st (.builtin "str.endswith")) [.str x, .str y] [] H (.bool (VI x y)) H:=CT.aY fun A s W vs R S r Q q=>by
 obtain⟨v,u,rfl,⟨t,rfl,_⟩,⟨t',rfl,_⟩⟩:=r.two;exact SC.endswith (q s.toks)
theorem CT.vB(ho:Tj x y 0 x.length 1=i::rest):CT n (.st (.builtin "str.index")) [.str x, .str y] [] H (.int i) H:=CT.dG fun A s W vs R S r Q q=>by
 obtain⟨v,u,rfl,⟨t,rfl,_⟩,⟨t',rfl,_⟩⟩:=r.two;exact SC.index ho (q _ _)
theorem CT.replace{x y z}(JB:(y==z)=false)(hx:x.length≤1048576)(hz:z.length≤14)(hr:(Sb x y z).length≤QW):
  CT n (.st (.builtin "str.replace")) [.str x, .lit y, .lit z] [] H (.str (Sb x y z)) H:=CT.oq hr fun A s W vs R S r Q q=>by
 obtain⟨v,u,t,rfl,⟨t1,rfl,_⟩,⟨t2,rfl,c2,_⟩,⟨t3,rfl,c3,_⟩⟩:=r.three;refine SC.replaceW (SJ (S.col _ _ c2).1) (SJ (S.col _ _ c3).1) (fun e=> ?_) JB hx hz q;subst e;cases c2.symm.trans c3;simp at JB
theorem CT.uq:CT n (.st (.builtin "len")) [.lst l] [] H (.int l.length) H:=CT.dG fun A s W vs R S r Q q=>by
 obtain⟨v,rfl,⟨a,us,m,rfl,i,ru,hz⟩⟩:=r.one;have hb:QW<2^62:=dc;have:=q (s.toks+1) (s.toks+1+1);rw[←ru.length] at this;exact Zg (aA S i) (by refine J Re (J ru.length ?_);lia) this
theorem CT.ur(hk:H[k]?=some (some (.list l))):CT n (.st (.builtin "len")) [.ref k] [] H (.int l.length) H:=CT.dG fun A s W vs R S r Q q=>by
 obtain⟨v,rfl,⟨a,rfl,p⟩⟩:=r.one;obtain⟨a',p',_,us,m,ho,r,hz⟩:=S.live k _ hk;replace p':=p▸p';cases p';have hb:QW<2^62:=dc;have:=q (s.toks+1) (s.toks+1+1);rw[←r.length] at this;exact Zg ⟨_,ho,rfl,m,rfl⟩ (by refine J Re (J r.length ?_);lia) this
theorem CT.len_str:CT n (.st (.builtin "len")) [.str x] [] H (.int x.length) H:=CT.dG fun A s W vs R S r Q q=>by
 obtain⟨v,rfl,⟨t,rfl,hz⟩⟩:=r.one;have hb:QW<2^62:=dc;exact call_len_gives (To s x t) F.slot_str_len F.entry_str_len (F.args_str_len_1 _) (gives_str_len x t) FU (by lia) (q _ _)
theorem CT.append{x}(hk:H[k]?=some (some (.list l)))(hz:l.length<QW):CT n (.st (.builtin "list.append")) [.ref k,x] [] H .none (H.set k (some (.list (l++[x])))):= .mk fun A s W fv vs kv R S rf rx c7 _ Q q=>by
 cases rf;have:kv=[]:=by simpa using c7
 subst this;refine QK fun kG=> ?_;obtain⟨v,u,rfl,⟨a,rfl,p⟩,ru⟩:=rx.two;obtain⟨a',p',hI,us,m,ho,r,_⟩:=S.live k _ hk;refine kG ?_;replace p':=p▸p';cases p';refine Zu ⟨m,ho⟩ (fun h' hp hs=> ?_) (J Re (J r.length ((SU hz))));obtain⟨m',hp⟩:=hp;have e:(us.toArray.push u)=(us++[u]).toArray:=by simp
 rw[e] at hp;obtain⟨S',G'⟩:=S.set (s':={s with heap:=h'}) (ob:= .list (l++[x])) p hI (fun b o hb e=>(hs.2 b hb).trans e) (hp▸nofun) rfl rfl (QM _)
  ⟨us++[u],m',hp,r.append ⟨u,[],rfl,ru,rfl⟩,by exact J QS hz⟩
 exact q _ _ W G' S' rfl
theorem aj.strs:∀{ps}{vs},aj W (ps.map V.str) vs→∃l,vs=strValues l∧l.map (·.1)=ps:=by
 intro rv
 induction rv with
 |nil=>
  intro _ h;cases h;exact⟨[],rfl,rfl⟩
 |cons p ps ih=>
  rintro _ ⟨v,us,e,⟨t,ev,_⟩,h⟩;obtain⟨l,e1,e2⟩:=ih h;subst e e1 ev;exact⟨(p,t)::l,rfl,by simp[e2]⟩
theorem aj.strsFrom:∀{ps} tk,(∀p∈ps,p.length≤QW)→aj W (ps.map V.str) (PySem.strsFrom tk ps):=by
 intro rv
 induction rv with
 |nil=>
  intro _ _;exact rfl
 |cons p ps ih=>
  intro tk h;exact⟨_,_,rfl,⟨tk,rfl,h p QR⟩,ih (tk+1) fun q hq=>h q (QQ _ hq)⟩
theorem dk(S:an W H s){ps:List Rj}{vs}{tk}(ht:s.toks≤tk)(r:aj W (ps.map V.str) vs)(hz:ps.length≤QW){Q:Value→Ro→Prop}
  (q:∀v s' W',Gr cr W s W' s'→an W' H s'→Rel W' (.lst (ps.map V.str)) v→Q v s'):Q (.ref s.heap.objs.size) {s with toks:=tk,heap:=s.heap.push (sq "list" vs 0)}:=by
 obtain⟨S2,G2⟩:=(S.tok tk ht).put (fO "list" vs 0);exact q _ _ _ ((Gr.dD W s tk).trans G2) S2 ⟨_,vs,0,rfl,Wd.ak ..,r.mono G2.le,by exact J (QP ..) hz⟩
theorem CT.split(hy:(y.length==0)=false)(hz:(RP x y).length≤QW)(hp:∀p∈RP x y,p.length≤QW):CT n (.st (.builtin "str.split")) [.str x, .str y] [] H (.lst ((RP x y).map V.str)) H:= .mk fun A s W fv vs kv R S rf rx c7 _ Q q=>by
 cases rf;have:kv=[]:=by simpa using c7
 subst this;obtain⟨v,u,rfl,⟨t,rfl,hx⟩,⟨t',rfl,_⟩⟩:=rx.two;cases h1:(decide (x.length<y.length)||decide (TM x<TM y))
 ·cases hf:(Tj x y 0 x.length (x.length+1)).isEmpty
  ·have e:RP x y=VC x (Tj x y 0 x.length (x.length+1)) y.length:=(if_neg (ne_true_of_eq_false h1)).trans (if_neg (ne_true_of_eq_false hf));rw[e] at hz hp q;exact call_meets F.slot_str_split (To _ _ _) F.entry_str_split (F.args_str_split_2 _ _) (meets_str_split_sep x y t t' h1 hy hf hx hz) (dk S (RW _ _) (aj.strsFrom _ hp) hz q)
  ·have e:RP x y=[x]:=(if_neg (ne_true_of_eq_false h1)).trans (if_pos hf);rw[e] at hz hp q;exact call_meets F.slot_str_split (To _ _ _) F.entry_str_split (F.args_str_split_2 _ _) (meets_str_split_not_found x y t t' h1 hy hf) (dk (ps:=[x]) S (QM _) ⟨_,_,rfl,⟨t,rfl,hx⟩,rfl⟩ hz q)
 ·have e:RP x y=[x]:=if_pos h1;rw[e] at hz hp q;exact call_meets F.slot_str_split (To _ _ _) F.entry_str_split (F.args_str_split_2 _ _) (meets_str_split_cannot_occur x y t t' h1) (dk (ps:=[x]) S (QM _) ⟨_,_,rfl,⟨t,rfl,hx⟩,rfl⟩ hz q)
theorem CT.vC(hy:(y.length==0)=false)(hz:(Ue x y k).length≤QW)(hp:∀p∈Ue x y k,p.length≤QW)(hk:autoParam ((decide (k< -(2^63:Int))||decide (k≥2^63))=false) aD):
  CT n (.st (.builtin "str.split")) [.str x, .str y, .int k] [] H (.lst ((Ue x y k).map V.str)) H:= .mk fun A s W fv vs kv R S rf rx c7 _ Q q=>by
 cases rf;have:kv=[]:=by simpa using c7
 subst this;obtain⟨v,u,t2,rfl,⟨t,rfl,hx⟩,⟨t',rfl,_⟩,⟨D8,rfl⟩⟩:=rx.three;cases h1:(decide (x.length<y.length)||decide (TM x<TM y))
 ·cases hf:(Tj x y 0 x.length (WP x k)).isEmpty
  ·have e:Ue x y k=VC x (Tj x y 0 x.length (WP x k)) y.length:=(if_neg (ne_true_of_eq_false h1)).trans (if_neg (ne_true_of_eq_false hf));rw[e] at hz hp q;exact call_meets F.slot_str_split (To _ _ _) F.entry_str_split (F.args_str_split_3 _ _ _) (meets_str_split_sep_max x y k t t' D8 hk h1 hy hf hx hz) (dk S (RW _ _) (aj.strsFrom _ hp) hz q)
  ·have e:Ue x y k=[x]:=(if_neg (ne_true_of_eq_false h1)).trans (if_pos hf);rw[e] at hz hp q;exact call_meets F.slot_str_split (To _ _ _) F.entry_str_split (F.args_str_split_3 _ _ _) (meets_str_split_max_not_found x y k t t' D8 hk h1 hy hf) (dk (ps:=[x]) S (QM _) ⟨_,_,rfl,⟨t,rfl,hx⟩,rfl⟩ hz q)
 ·rw[(show Ue x y k=[x] from if_pos h1)] at hz hp q;exact call_meets F.slot_str_split (To _ _ _) F.entry_str_split (F.args_str_split_3 _ _ _) (meets_str_split_max_cannot_occur x y k t t' D8 hk h1) (dk (ps:=[x]) S (QM _) ⟨_,_,rfl,⟨t,rfl,hx⟩,rfl⟩ hz q)
theorem CT.sj(hy:(y.length==0)=false)(hz:(TY x y k).length≤QW)(hp:∀p∈TY x y k,p.length≤QW)(hk:autoParam ((decide (k< -(2^63:Int))||decide (k≥2^63))=false) aD):
  CT n (.st (.builtin "str.rsplit")) [.str x, .str y, .int k] [] H (.lst ((TY x y k).map V.str)) H:= .mk fun A s W fv vs kv R S rf rx c7 _ Q q=>by
 cases rf;have:kv=[]:=by simpa using c7
 subst this;obtain⟨v,u,t2,rfl,⟨t,rfl,hx⟩,⟨t',rfl,_⟩,⟨D8,rfl⟩⟩:=rx.three;cases h1:(decide (x.length<y.length)||decide (TM x<TM y))
 ·cases hf:(Wp x y (WP x k)).isEmpty
  ·have e:TY x y k=VC x (Wp x y (WP x k)) y.length:=(if_neg (ne_true_of_eq_false h1)).trans (if_neg (ne_true_of_eq_false hf));rw[e] at hz hp q;exact call_meets F.slot_str_rsplit (To _ _ _) F.entry_str_rsplit (F.args_str_rsplit_3 _ _ _) (meets_str_rsplit_sep_max x y k t t' D8 hk h1 hy hf hx hz) (dk S (RW _ _) (aj.strsFrom _ hp) hz q)
  ·have e:TY x y k=[x]:=(if_neg (ne_true_of_eq_false h1)).trans (if_pos hf);rw[e] at hz hp q;exact call_meets F.slot_str_rsplit (To _ _ _) F.entry_str_rsplit (F.args_str_rsplit_3 _ _ _) (meets_str_rsplit_max_not_found x y k t t' D8 hk h1 hy hf) (dk (ps:=[x]) S (QM _) ⟨_,_,rfl,⟨t,rfl,hx⟩,rfl⟩ hz q)
 ·rw[(show TY x y k=[x] from if_pos h1)] at hz hp q;exact call_meets F.slot_str_rsplit (To _ _ _) F.entry_str_rsplit (F.args_str_rsplit_3 _ _ _) (meets_str_rsplit_max_cannot_occur x y k t t' D8 hk h1) (dk (ps:=[x]) S (QM _) ⟨_,_,rfl,⟨t,rfl,hx⟩,rfl⟩ hz q)
theorem CT.join(m4:Xb x ps=true)(hz:(R9 x ps).length≤QW):CT n (.st (.builtin "str.join")) [.str x, .lst (ps.map V.str)] [] H (.str (R9 x ps)) H:=CT.oq hz fun A s W vs R S r Q q=>by
 obtain⟨v,u,rfl,⟨t,rfl,_⟩,⟨a,us,m,rfl,hI,ru,_⟩⟩:=r.two;obtain⟨l,rfl,e2⟩:=ru.strs;exact SC.join (aA S hI) e2 m4 q
theorem aj.snoc:∀{l}{us},aj W (l++[x]) us→∃v1 v2,us=v1++[v2]∧aj W l v1∧Rel W x v2:=by
 intro rv
 induction rv with
 |nil=>
  intro _ r;exact let⟨v,e,r⟩:=aj.one r;⟨[],v,e,rfl,r⟩
 |cons _ _ ih=>
  rintro _ ⟨v,_,e,r0,r'⟩;exact let⟨v1,v2,e',a1,a2⟩:=ih r';⟨v::v1,v2,by refine J e (J e' ?_);rfl,⟨v,v1,rfl,r0,a1⟩,a2⟩
theorem AR vs(v:Value):(vs++[v]).toArray.eraseIdxIfInBounds ((vs++[v]).toArray.size-1)=vs.toArray:=by
 apply Array.ext';simp;rw[List.eraseIdx_append_of_length_le (QM _)];simp
theorem CT.pop{x}(hk:H[k]?=some (some (.list (l++[x])))):CT n (.st (.builtin "list.pop")) [.ref k] [] H x (H.set k (some (.list l))):= .mk fun A s W fv vs kv R S rf rx c7 _ Q q=>by
 cases rf;have:kv=[]:=by simpa using c7
 subst this;refine QK fun kG=> ?_;obtain⟨v,rfl,⟨a,rfl,p⟩⟩:=rx.one;obtain⟨a',p',hI,us,m,ho,r,hz⟩:=S.live k _ hk;replace p':=p▸p';cases p';obtain⟨D9,FY,rfl,r1,r2⟩:=aj.snoc r;refine kG ?_;have hlen:(D9++[FY]).length=l.length+1:=by refine J QS (J r1.length ?_);rfl
 refine call_meets F.slot_list_pop ⟨_,ho,rfl⟩ F.entry_list_pop (F.args_list_pop_1 _) (MeetsSeq.list_pop_last a (D9++[FY]).toArray m FY (by simp) (by refine J Re (J hlen ?_);rw[QS] at hz;exact hz)) ⟨ho, ?_⟩;obtain⟨m',hp⟩:∃m',(s.heap.update a (Ru fun xs=>xs.eraseIdxIfInBounds ((D9++[FY]).toArray.size-1))).get? a=some (sq "list" D9 m'):=by
  have:=Yq ho (fun xs=>xs.eraseIdxIfInBounds ((D9++[FY]).toArray.size-1));rw[AR] at this;exact⟨_,this⟩
 obtain⟨S',G'⟩:=S.set (s':={s with heap:=s.heap.update a (Ru fun xs=>xs.eraseIdxIfInBounds ((D9++[FY]).toArray.size-1))}) (ob:= .list l) p hI (fun b o hb e=>(RL _ _ (Se hb)).trans e)
  (J hp nofun) rfl rfl (QM _) ⟨D9,m',hp,r1,by rw[QS] at hz;exact TQ hz⟩
 exact q _ _ W G' S' r2
theorem sk(x y:Value):(match YK "list.append" with
  |some sig=>Bind.checkArgs "list.append" {sig with full:=s!"{Bind.lastOf "list"}.{Bind.lastOf "list.append"}"} ⟨[x,y],[]⟩
  |none=>pure ())=pure ():=rfl
theorem CU:builtinKind "list.append"=some .method:=rfl
theorem Au:Manifest.varargsMethods.contains "list.append"=false:=by decide+kernel
theorem ky:WC (.type "list") (.type "module")=pure false:=rfl
theorem ow{s}{a}{y}{vs}{m}{Q}{E}(ho:s.heap.get? a=some (sq "list" vs m))(hq:Q () s):wpAny (model prog w) A (Xi "list.append" ⟨[.ref a,y],[]⟩) Q E s:=by
 delta Xi
 have hc:=sk (.ref a) y;cases hs:YK "list.append" with
 |none=>exact QO hq
 |some sig=>
  rw[hs] at hc;refine bI ⟨_,ho,rfl⟩ ky (QL (bL ho (QO ?_)));exact bT ⟨_,ho,rfl⟩ (Sq hc hq)
theorem CT.fw{x}(hk:H[k]?=some (some (.list l)))(hz:l.length<QW):CT n (.bm "list.append" (.ref k)) [x] [] H .none (H.set k (some (.list (l++[x])))):= .mk fun A s W fv vs kv R S rf rx c7 _ Q q=>by
 have:kv=[]:=by simpa using c7
 subst this;refine QK fun kG=> ?_;obtain⟨b,self,rfl,hb,⟨a,rfl,p⟩⟩:=rf;obtain⟨u,rfl,ru⟩:=rx.one;obtain⟨a',p',hI,us,m,ho,r,_⟩:=S.live k _ hk;refine kG ?_;replace p':=p▸p';cases p';refine lB (S.cq _ _ hb) entry_list_append St.plain (fun Q' hq=>ow ho hq) (list_append a us.toArray m u (by refine J Re (J r.length ?_);exact SU hz)) ⟨ho, ?_⟩;have hp:(s.heap.update a (Ru fun KE=>KE.push u)).get? a=some (sq "list" (us++[u]) (m+1)):=by
  have:=Yq ho (fun xs=>xs.push u);simp only[(show(us.toArray.push u)=(us++[u]).toArray by simp)] at this;rw[if_neg (by simp)] at this;exact this
 obtain⟨S',G'⟩:=S.set (s':={s with heap:=s.heap.update a (Ru fun KE=>KE.push u)}) (ob:= .list (l++[x])) p hI (fun b o hb e=>(RL _ _ (Se hb)).trans e) (hp▸nofun) rfl rfl (QM _)
  ⟨us++[u],m+1,hp,r.append ⟨u,[],rfl,ru,rfl⟩,by exact J QS hz⟩
 exact q _ _ W G' S' rfl
theorem sm x t v:Xi "str.join" ⟨[.str x t,v],[]⟩=pure ():=rfl
theorem CT.AS(hk:H[k]?=some (some (.list (ps.map V.str))))(m4:Xb x ps=true)(hz:(R9 x ps).length≤QW):CT n (.bm "str.join" (.str x)) [.ref k] [] H (.str (R9 x ps)) H:= .mk fun A s W fv vs kv R S rf rx c7 _ Q q=>by
 have:kv=[]:=by simpa using c7
 subst this;refine QK fun kG=> ?_;obtain⟨b,self,rfl,hb,⟨t,rfl,_⟩⟩:=rf;obtain⟨v,rfl,⟨a,rfl,p⟩⟩:=rx.one;obtain⟨a',p',_,us,m,ho,ru,_⟩:=S.live k _ hk;refine kG ?_;replace p':=p▸p';cases p';obtain⟨l,rfl,e2⟩:=ru.strs;refine wpAny_toks ?_
 delta Xb at m4
 rw[U7] at m4;subst e2;exact lB (S.cq _ _ hb) F.entry_str_join F.slot_str_join.plain (fun Q' hq=>Sq (sm _ _ _) hq) (meets_str_join_list x t a l m4)
  ⟨⟨_,ho,rfl,m,rfl⟩,post_join l ⟨joinFit_length m4,fun t' tk ht=>q _ _ W (Gr.dD W s tk) (S.tok tk ht) ⟨t',rfl,hz⟩⟩⟩
end
section
variable{n:Nat}{F:Fx}{ρ am cU:Loc}{H H1 H2 H3 H4 H5:AH}{g:Fl}
theorem V.dP{x:V}(h:x.ok=true):∃d,x.data=some d∧TP d=true:=by
 delta V.ok at h
 cases e:x.data with
 |none=>replace h:=e▸h;cases h
 |some d=>replace h:=e▸h;exact⟨d,rfl,h⟩
open Classical in
noncomputable def Av(h:Vi)(dx:PyData)(y:Value):Bool:=if q:∃d,∃as,Reads h y d as then TS (choose q) dx else false
theorem xH{dx d}{y}{as}(r:Reads h y d as):Av h dx y=TS d dx:=by
 delta Av
 have q:∃d,∃as,Reads h y d as:=⟨d,as,r⟩;refine J (dif_pos q) ?_;obtain⟨GJ,r'⟩:=Classical.choose_spec q;rw[((PySem.Reads.unique r' d as r).1)]
theorem fU{dx}(k:∀a o,W.I a=some o→h.get? a=some o){x}(hx:x.data=some dx):∀{l}{vs},aj W l vs→l.all V.ok=true→
  vs.countP (Av h dx)=l.countP (fun y=>V.eqv y x)∧vs.any (Av h dx)=l.any (fun y=>V.eqv y x):=by
 intro rv
 induction rv with
 |nil=>
  intro _ r _;cases r;exact⟨rfl,rfl⟩
 |cons y l ih=>
  rintro _ ⟨v,us,e,r1,r2⟩ ha;subst e;simp only[Sy,Q5] at ha;refine QK fun kG=> ?_;obtain⟨d,hd,_⟩:=V.dP ha.1;obtain⟨as,q⟩:=gD k r1 hd;refine kG ?_;have e1:Av h dx v=V.eqv y x:=by refine J (xH q) ?_;delta V.eqv;rw[hd,hx]
  simp only[List.countP_cons,V0,e1,(ih r2 ha.2).1,(ih r2 ha.2).2,and_self]
theorem iY{s}{W}{x}{dx}{v}(S:an W H s)(hu:A.units+64<aad)(rx:Rel W x v)(hx:x.data=some dx)(sx:TP dx=true):
  ∀{l}{vs},aj W l vs→l.all V.ok=true→∀y,y∈vs→SeqAt.EqAt A s y v (Av s.heap dx y):=by
 intro rv
 induction rv with
 |nil=>
  intro _ r _ y hy;cases r;cases hy
 |cons z l ih=>
  rintro _ ⟨u,us,e,r1,r2⟩ ha y hy;subst e;simp only[Sy,Q5] at ha;rcases QX.mp hy with h|h
  ·subst h;obtain⟨d,hd,sd⟩:=V.dP ha.1;obtain⟨as,q⟩:=gD S.cq r1 hd;obtain⟨bs,q'⟩:=gD S.cq rx hx;exact(xH q)▸SeqAt.eqAt_reads d dx A s y v as bs q q' (YH sd) (YH sx) (SeqAt.room_of_shaped sd hu)
  ·exact ih r2 ha.2 y h
theorem CT.count(hl:l.all V.ok=true)(hx:x.ok=true):CT (n+8) (.st (.builtin "list.count")) [.lst l,x] [] H (.int (l.countP fun y=>V.eqv y x)) H:=CT.dG fun A s W vs R S r Q q=>by
 obtain⟨v,u,rfl,⟨a,us,m,rfl,hI,ru,_⟩,rx⟩:=r.two;obtain⟨dx,hd,sd⟩:=V.dP hx;have hu:A.in1.units+64<aad:=by have:=R.units;lia
 refine call_meets F.slot_list_count ⟨_,S.cq _ _ hI,rfl⟩ F.entry_list_count (F.args_list_count_2 _ _) (SeqAt.list_countAt a us.toArray m none #[] u (Av s.heap dx)) ⟨S.cq _ _ hI,fun y hy=>iY S hu rx hd sd ru hl y (by simpa using hy), ?_⟩;exact((fU S.cq hd ru hl).1)▸q _ _
theorem OT.xI{x}(hl:l.all V.ok=true)(hx:x.ok=true):OT (n+8) (RZ .In) x (.lst l) H (.bool (l.any fun y=>V.eqv y x)) H:=OT.aY fun A s W a c R S ra rc Q q=>by
 obtain⟨b,us,m,rfl,hI,ru,_⟩:=rc;obtain⟨dx,hd,sd⟩:=V.dP hx;have hu:A.in1.units+64<aad:=by have:=R.units;lia
 exact SeqAt.in_listAt (Av s.heap dx) (aA S hI) (fun y hy=>iY S hu ra hd sd ru hl y (by simpa using hy)) (J XM (J ((fU S.cq hd ru hl).2) ((q s.toks))))
theorem OT.jA{x}(hl:l.all V.ok=true)(hx:x.ok=true):OT (n+8) (RZ .NotIn) x (.lst l) H (.bool (!(l.any fun y=>V.eqv y x))) H:=OT.aY fun A s W a c R S ra rc Q q=>by
 obtain⟨b,us,m,rfl,hI,ru,_⟩:=rc;obtain⟨dx,hd,sd⟩:=V.dP hx;have hu:A.in1.units+64<aad:=by have:=R.units;lia
 exact SeqAt.notIn_listAt (Av s.heap dx) (aA S hI) (fun y hy=>iY S hu ra hd sd ru hl y (by simpa using hy)) (J XM (J ((fU S.cq hd ru hl).2) ((q s.toks))))
theorem OT.vD{x}(hl:l.all V.ok=true)(hx:x.ok=true):OT (n+8) (RZ .NotIn) x (.tup l) H (.bool (!(l.any fun y=>V.eqv y x))) H:=OT.aY fun A s W a c R S ra rc Q q=>by
 obtain⟨b,us,m,rfl,hI,ru,_⟩:=rc;obtain⟨dx,hd,sd⟩:=V.dP hx;have hu:A.in1.units+64<aad:=by have:=R.units;lia
 exact SeqAt.notIn_tupleAt (Av s.heap dx) (fP S hI) (fun y hy=>iY S hu ra hd sd ru hl y (by simpa using hy)) (J XM (J ((fU S.cq hd ru hl).2) ((q s.toks))))
theorem CT.isinstance{b:Bool}(hT:Ty H x Tx)(fV:WC (.type Tx) (.type T)=pure true)(uo:typeOf (.type T)=pure (.type "type")):
  CT n (.st (.builtin "isinstance")) [x, .st (.type T)] [] H (.bool true) H:=CT.aY fun A s W vs R S r Q q=>by
 obtain⟨v,u,rfl,rv,ru⟩:=r.two;cases ru;exact call_isinstance_yes (hT.run s W v S rv) uo fV (q s.toks)
end
noncomputable def il(l:List (Rj×V))(k:Rj)(x:V):List (Rj×V):=if l.any (fun p=>p.1=k) then l.map (fun p=>if p.1=k then(p.1,x) else p) else l++[(k,x)]
section
variable{n:Nat}{F:Fx}{ρ am cU:Loc}{H H1 H2 H3 H4 H5:AH}{g:Fl}
theorem xJ:∀{l}{es},d6 W l es→∃bc,bQ W l bc∧Pairs (strKind prog w) es bc∧(∀e∈es,∃k,(strKind prog w).is k e.key=true∧e.hash=(strKind prog w).hash k):=by
 intro rv
 induction rv with
 |nil=>
  intro _ h;cases h;exact⟨[],rfl, .nil,fun _ h=>by cases h⟩
 |cons pq l ih=>
  rintro _ ⟨t,v,r,e,a,b⟩;subst e;refine QK fun kG=> ?_;obtain⟨bc,h1,h2,h3⟩:=ih b;refine kG ?_;refine⟨(pq.1,v)::bc,⟨v,bc,rfl,a,h1⟩, .cons (Ua prog w pq.1 t) rfl h2,fun e he=> ?_⟩;rcases QX.mp he with q|q
  ·subst q;exact⟨pq.1,Ua prog w pq.1 t,rfl⟩
  ·exact h3 e q
theorem sr:∀{l}{es}{bc},bQ W l bc→Pairs (strKind prog w) es bc→(∀e∈es,∃k,(strKind prog w).is k e.key=true∧e.hash=(strKind prog w).hash k)→d6 W l es:=by
 intro rv
 induction rv with
 |nil=>
  intro _ _ h p _;cases h;cases p;rfl
 |cons pq l ih=>
  obtain⟨k,x⟩:=pq;rintro _ _ ⟨v,r,e,a,b⟩ p hk;subst e;cases p with
  |cons h1 h2 h3=>
   rename_i e es;obtain⟨k',q1,q2⟩:=hk e QR;have:=(strKind prog w).inj _ _ _ h1 q1;subst this;obtain⟨t,ht⟩:=TV h1;refine⟨t,v,es, ?_,a,ih b h3 fun e he=>hk e (QQ _ he)⟩;obtain⟨hh,kk,vv⟩:=e;simp only at q2 ht h2;subst q2 ht h2;rfl
theorem dictOf{h:Vi}{a}{es}{m}{l}(ho:h.get? a=some (dq es m))(r:d6 W l es)(nd:(l.map (·.1)).Nodup):
  ∃bc,h.DictAt (strKind prog w) a bc m∧bQ W l bc:=by
 obtain⟨bc,h1,h2,h3⟩:=xJ r;exact⟨bc,⟨_,es.toArray,ho,⟨rfl,rfl,rfl⟩,rfl,fun e he=>h3 e (by simpa using he),by simpa using h2,by exact h1.names▸nd⟩,h1⟩
theorem lG{h:Vi}{a}{bc}{l}(hd:h.DictOf (strKind prog w) a bc)(r:bQ W l bc):∃es m,h.get? a=some (dq es m)∧d6 W l es∧(l.map (·.1)).Nodup:=by
 refine QK fun kG=> ?_;obtain⟨o,es,ep,ho,hx,hd,hk,hp,hn⟩:=hd;refine kG (⟨es.toList,ep, ?_,sr r hp fun e he=>hk e (by simpa using he),by exact r.names▸hn⟩);obtain⟨c,d,dt,sl⟩:=o;obtain⟨h1,h2,h3⟩:=hx;simp only at h1 h2 h3 hd;subst h1 h2 h3 hd;exact ho
theorem bQ.valueAt:∀{bc},bQ W l bc→(l.lookup k=none→valueAt bc k=none)∧∀x,l.lookup k=some x→∃v,valueAt bc k=some v∧Rel W x v:=by
 induction l with
 |nil=>intro bc h;cases h;exact⟨fun _=>rfl,fun _ h=>by cases h⟩
 |cons p l ih=>
  obtain⟨k',x⟩:=p;rintro bc ⟨v,r,e,a,b⟩;subst e;have ih:=ih b;refine J lookup_cons ?_;unfold PySem.valueAt at ih⊢;refine J aar ?_;by_cases h:k=k'
  ·subst h;refine J (if_pos rfl) (J (decide_eq_true rfl) ?_);exact⟨nofun,fun y hy=>by cases hy;exact⟨v,rfl,a⟩⟩
  ·exact J (if_neg h) (J (decide_eq_false fun e=>h e.symm) ((ih)))
theorem bQ.length:∀{l}{bc},bQ W l bc→bc.length=l.length
 |[],_,h=>by cases h;rfl
 |(_,_)::_,_,⟨_,_,e,_,b⟩=>by subst e;simp[bQ.length b]
theorem bQ.append:∀{l l'}{bc GK},bQ W l bc→bQ W l' GK→bQ W (l++l') (bc++GK):=by
 intro rv
 induction rv with
 |nil=>
  intro _ _ _ h h';cases h;exact h'
 |cons pq _ ih=>
  obtain⟨_,_⟩:=pq;rintro _ _ _ ⟨v,r,e,a,b⟩ h';subst e;exact⟨v,_,rfl,a,ih b h'⟩
theorem bQ.putAll{x}{v}(r:Rel W x v):∀{l}{bc},bQ W l bc→bQ W (l.map fun p=>if p.1=k then(p.1,x) else p) (bc.map fun kv=>if kv.1=k then(kv.1,v) else kv):=by
 intro rv
 induction rv with
 |nil=>
  intro _ h;cases h;rfl
 |cons pq l ih=>
  rintro _ ⟨u,us,e,a,b⟩;subst e;refine J Q8 (J Q8 ?_);by_cases h:pq.1=k
  ·simp only[h];exact⟨v,_,rfl,r,ih b⟩
  ·simp only[h];exact⟨u,_,rfl,a,ih b⟩
theorem bQ.any:∀{l}{bc},bQ W l bc→bc.any (fun kv=>kv.1=k)=l.any (fun p=>p.1=k)
 |[],_,h=>by cases h;rfl
 |(_,_)::_,_,⟨_,_,e,_,b⟩=>by subst e;simp[bQ.any b]
theorem bQ.put{x}{v}(r:Rel W x v){l}{bc}(h:bQ W l bc):bQ W (il l k x) (stored bc k v):=by
 unfold il stored;refine J h.any ?_;split
 ·exact bQ.putAll r h
 ·exact h.append ⟨v,[],rfl,r,rfl⟩
theorem iZ:∀{l:List (Rj×V)},(l.lookup k).isSome=l.any (fun p=>p.1=k):=by
 intro rv
 induction rv with
 |nil=>
  exact rfl
 |cons pq l ih=>
  refine J lookup_cons (J V0 ?_);by_cases h:k=pq.1
  ·subst h;simp
  ·simp only[if_neg h,(show decide (pq.1=k)=false by simpa using fun e=>h e.symm)];exact ih
noncomputable abbrev ss(H:AH)(x:V)(l:List (Rj×V)):Prop:=∀s W v,an W H s→Rel W x v→∃a es m,v= .ref a∧s.heap.get? a=some (dq es m)∧d6 W l es∧(l.map (·.1)).Nodup∧l.length≤QW∧(a==SR)=false
@[irreducible] noncomputable def aV (H:AH) (x:V) (l:List (Rj×V)):Prop:=ss H x l
theorem aV.mk{H x l}(h:ss H x l):aV H x l:=by delta aV;exact h
theorem aV.run{H x l}(h:aV H x l):ss H x l:=by delta aV at h;exact h
theorem aV.bw:aV H (.bw l) l:= .mk fun s W v S r=>by
 obtain⟨a,es,m,rfl,hI,r,nd,hz,hs⟩:=r;exact⟨a,es,m,rfl,S.cq _ _ hI,r,nd,hz,hs⟩
theorem oy(hm:∃o,bo SR=some o)(S:an W H s){a}(h:W.I a=none):(a==SR)=false:=by
 obtain⟨o,ho⟩:=hm;have:=S.gr _ _ ho;cases e:a==SR with
 |false=>rfl
 |true=>
  have:=of_decide_eq_true e;subst this;cases h.symm.trans this
theorem aV.ref(hm:∃o,bo SR=some o)(hk:H[k]?=some (some (.dict l))):aV H (.ref k) l:= .mk fun s W v S r=>by
 refine QK fun kG=> ?_;obtain⟨a,rfl,p⟩:=r;obtain⟨a',p',hI,es,m,ho,r,nd,hz⟩:=S.live k _ hk;refine kG ?_;cases p▸p';exact⟨a,es,m,rfl,ho,r,nd,hz,oy hm S hI⟩
theorem Rel.isKey(r:Rel W (.str k) v):(strKind prog w).is k v=true:=by obtain⟨t,rfl,_⟩:=r;exact Ua prog w k t
theorem OT.in_dict(h:aV H x l):OT n (RZ .In) (.str k) x H (.bool (l.lookup k).isSome) H:=OT.aY fun A s W a c R S ra rc Q q=>by
 refine QK fun kG=> ?_;obtain⟨d,es,m,rfl,ho,r,nd,hz,hs⟩:=h.run s W c S rc;obtain⟨bc,hd,hr⟩:=dictOf ho r nd;refine kG (wpAny_in_of (Rel.isKey ra) hs hd.dictOf.mapOf ?_);have e:(valueAt bc k).isSome=(l.lookup k).isSome:=by
  cases e:l.lookup k with
  |none=>exact congrArg _ (hr.valueAt.1 e)
  |some y=>obtain⟨v,hv,_⟩:=hr.valueAt.2 y e;exact hv▸rfl
 exact e▸q _
theorem OT.item_dict{l}{k}(h:aV H x l)(hy:l.lookup k=some y):OT n U2 x (.str k) H y H:= .mk fun A s W a c R S ra rc Q q=>by
 refine QK fun kG=> ?_;obtain⟨d,es,m,rfl,ho,r,nd,hz,hs⟩:=h.run s W a S ra;obtain⟨bc,hd,hr⟩:=dictOf ho r nd;obtain⟨v,hv,rv⟩:=(hr.valueAt).2 y hy;exact kG (wpAny_getItem_of (Rel.isKey rc) hd.dictOf.mapOf hv (q v _ W (Gr.dD W s _) (S.tok _) rv))
theorem CT.get_none(h:aV H x l)(hk:l.lookup k=none):CT n (.st (.builtin "dict.get")) [x, .str k] [] H .none H:= .mk fun A s W fv vs kv R S rf rx c7 _ Q q=>by
 cases rf;have:kv=[]:=by simpa using c7
 subst this;refine QK fun kG=> ?_;obtain⟨a,c,rfl,ra,rc⟩:=rx.two;obtain⟨d,es,m,rfl,ho,r,nd,hz,hs⟩:=h.run s W a S ra;obtain⟨bc,hd,hr⟩:=dictOf ho r nd;refine kG (Yc F.slot_dict_get ⟨_,ho,rfl⟩ F.entry_dict_get (F.args_dict_get_2 _ _) (meets_dict_get (strKind prog w) d (Rel.isKey rc) hs) ⟨_,hd.dictOf.mapOf, ?_⟩);exact J ((hr.valueAt).1 hk) ((q _ _ W (Gr.dD W s _) (S.tok _) rfl))
theorem CT.pS{l}{k}(h:aV H x l):CT n (.st (.builtin "dict.get")) [x, .str k,y] [] H ((l.lookup k).getD y) H:= .mk fun A s W fv vs kv R S rf rx c7 _ Q q=>by
 cases rf;have:kv=[]:=by simpa using c7
 subst this;refine QK fun kG=> ?_;obtain⟨a,c,u,rfl,ra,rc,ru⟩:=rx.three;obtain⟨d,es,m,rfl,ho,r,nd,hz,hs⟩:=h.run s W a S ra;obtain⟨bc,hd,hr⟩:=dictOf ho r nd;refine kG (Yc F.slot_dict_get ⟨_,ho,rfl⟩ F.entry_dict_get (F.args_dict_get_3 _ _ _) (meets_dict_get_default (strKind prog w) d (Rel.isKey rc) hs u) ⟨_,hd.dictOf.mapOf, ?_⟩);cases e:l.lookup k with
 |none=>exact J ((hr.valueAt).1 e) ((q _ _ W (Gr.dD W s _) (S.tok _) (e▸ru)))
 |some z=>obtain⟨v,hv,rv⟩:=(hr.valueAt).2 z e;exact J hv ((q _ _ W (Gr.dD W s _) (S.tok _) (e▸rv)))
theorem CT.len_dict(h:aV H x l):CT n (.st (.builtin "len")) [x] [] H (.int l.length) H:=CT.dG fun A s W vs R S r Q q=>by
 refine QK fun kG=> ?_;obtain⟨v,rfl,rv⟩:=r.one;obtain⟨d,es,m,rfl,ho,r,nd,hz,hs⟩:=h.run s W v S rv;obtain⟨bc,hd,hr⟩:=dictOf ho r nd;refine kG ?_;have hb:QW<2^62:=dc;have:=q (s.toks+1) (s.toks+1+1);rw[←hr.length] at this;exact call_len_dict hs hd.dictOf (by refine J hr.length ?_;lia) this
theorem OB.dict(h:aV H x l):OB n x H (!l.isEmpty):= .mk fun A s W a R S r Q q=>by
 refine QK fun kG=> ?_;obtain⟨d,es,m,rfl,ho,r,nd,hz,hs⟩:=h.run s W a S r;obtain⟨bc,hd,hr⟩:=dictOf ho r nd;refine kG ?_;have hb:QW<2^62:=dc;refine wpAny_truthy_dict hs hd.dictOf (by refine J hr.length ?_;lia) ?_;have e:(!bc.isEmpty)= !l.isEmpty:=by
  have:=hr.length;cases bc<;>cases l<;>simp_all
 exact e▸q _ W (Gr.dD W s _) (S.tok _)
theorem CT.view(h:aV H x l):CT n (.st (.builtin "dict.items")) [x] [] H (.vw "dict_items" x) H:= .mk fun A s W fv vs kv R S rf rx c7 _ Q q=>by
 cases rf;have:kv=[]:=by simpa using c7
 subst this;refine QK fun kG=> ?_;obtain⟨a,rfl,ra⟩:=rx.one;obtain⟨d,es,m,rfl,ho,r,nd,hz,hs⟩:=h.run s W a S ra;obtain⟨bc,hd,hr⟩:=dictOf ho r nd;refine kG (Yc F.slot_dict_items ⟨_,ho,rfl⟩ F.entry_dict_items (F.args_dict_items_1 _) (meets_dict_items (strKind prog w) d hs) ⟨⟨bc,hd.dictOf⟩, ?_⟩);obtain⟨S2,G2⟩:=S.put (o:=wq "dict_items" (.ref d)) rfl;exact q _ _ _ G2 S2 ⟨_,_,rfl,Wd.ak ..,ra.mono G2.le⟩
theorem CT.values(h:aV H x l):CT n (.st (.builtin "dict.values")) [x] [] H (.vw "dict_values" x) H:= .mk fun A s W fv vs kv R S rf rx c7 _ Q q=>by
 cases rf;have:kv=[]:=by simpa using c7
 subst this;refine QK fun kG=> ?_;obtain⟨a,rfl,ra⟩:=rx.one;obtain⟨d,es,m,rfl,ho,r,nd,hz,hs⟩:=h.run s W a S ra;obtain⟨bc,hd,hr⟩:=dictOf ho r nd;refine kG (Yc F.slot_dict_values ⟨_,ho,rfl⟩ F.entry_dict_values (F.args_dict_values_1 _) (meets_dict_values (strKind prog w) d hs) ⟨⟨bc,hd.dictOf⟩, ?_⟩);obtain⟨S2,G2⟩:=S.put (o:=wq "dict_values" (.ref d)) rfl;exact q _ _ _ G2 S2 ⟨_,_,rfl,Wd.ak ..,ra.mono G2.le⟩
theorem ET.ut(hm:∃o,bo SR=some o){pos}:ET n F (.Dict [] [] pos) ρ H (.bw []) H:= .mk fun A s W env R S E f Q q=>by
 refine J (eval_Dict_empty ..) (bA (R5 ?_));exact q _ _ _ (S.put (o:=dq [] 0) rfl).2 (S.put rfl).1 ⟨_,[],0,rfl,Wd.ak ..,rfl,SE,Rr _,oy hm S (S.fresh (ae s.heap)).2⟩
theorem ET.xK:ET n F (.Dict [] [] pos) ρ H (.ref H.length) (H++[some (.dict [])]):= .mk fun A s W env R S E f Q q=>by
 refine J (eval_Dict_empty ..) (bA (R5 ?_));obtain⟨S2,G2⟩:=S.new (s':={s with heap:=s.heap.push (dq [] 0)}) (ob:= .dict []) (fun _ _ e=>QT _ e) (fun e=>absurd ((Q0 s.heap rfl).symm.trans e) nofun) rfl rfl (QM _)
  ⟨[],0,Q0 _ rfl,rfl,SE,Rr _⟩
 exact q _ _ _ G2 S2 ⟨_,rfl,by refine aO S.len ?_;simp[Wd.new]⟩
end
section
variable{n:Nat}{F:Fx}{ρ am cU hJ:Loc}{H H1 H2 H3 H4 H5:AH}{g:Fl}
structure pT(K:Frag) C:Prop where
 uu:∀h,(∀a o,bo a=some o→h.get? a=some o)→K.In h
 vA:Tf K (.ref C) "__getattribute__"=some (some (.builtin "object.__getattribute__"))
 hk:Tf K (.ref C) "__getattr__"=some none
 hs:Tf K (.ref C) "__setattr__"=some (some (.builtin "object.__setattr__"))
 hp:plainOver K C=true
 hd:hasDictIn K C=true
structure KF(W:Wd)(s:Ro)(x:Value)(i d C:Nat) l(a da:TD)(ox od:Obj) m:Prop where
 f1:x= .ref a
 f2:W.φ[i]?=some a
 f3:W.φ[d]?=some da
 f4:W.I da=none
 f5:ox.dict=some da
 f6:s.heap.get? a=some ox
 f7:InstAt s.heap a ox C (some od)
 f8:s.heap.Ns1 da m
 f9:s.heap.get? da=some od
 Qn:MU W l m
 Qo:∀name,lookIn name od=some (m name)
theorem i3{i C d}{l}(S:an W H s)(hi:H[i]?=some (some (.inst C d)))(hd:H[d]?=some (some (.ns l)))(r:Rel W (.ref i) x):
  Oe fun a da ox od m=>KF W s x i d C l a da ox od m:=by
 refine QK fun kG=> ?_;obtain⟨a,rfl,p⟩:=r;obtain⟨a',p',_,da,pd,ho⟩:=S.live i _ hi;refine kG ?_;cases p▸p';refine QK fun kG=> ?_;obtain⟨Qp,KG,hI,m,hn,hm⟩:=S.live d _ hd;refine kG ?_;replace KG:=pd▸KG;cases KG;refine QK fun kG=> ?_;obtain⟨od,es,ep,Ea,KH,hk,hu,hf⟩:=id hn;refine kG (⟨a,da,_,od,m,rfl,p,pd,hI,rfl,ho,⟨ho,rfl,rfl,Ea⟩,hn,Ea,hm,fun name=> ?_⟩);have KI:es.toList.any (·.refKey)=false:=by
  rw[List.any_eq_false];intro e he;obtain⟨n,t,h⟩:=hk e (by simpa using he);simp[ZI.refKey,h]
 have CW:=hf name;unfold nsFind findBy at CW;replace CW:=Zq.symm▸CW;simp only[lookIn,KH];cases e:es.toList.find? (·.key.isStr name) with
 |none=>replace CW:=e▸CW;rw[KI];exact CW▸rfl
 |some en=>rw[e] at CW;exact CW▸rfl
noncomputable def V.hand(y:V):Bool:=by
 cases y with
 |st u=>exact handedIn u
 |_=>exact true
theorem lH{y}{v}(hy:V.hand y=true)(r:Rel W y v):handedIn v=true:=by
 cases y with
 |none=>cases r;rfl
 |bool b=>cases r;rfl
 |int i=>obtain⟨t,rfl⟩:=r;rfl
 |str x=>obtain⟨t,rfl,_⟩:=r;rfl
 |lit x=>obtain⟨t,rfl,_⟩:=r;rfl
 |tup l=>obtain⟨a,_,_,rfl,_⟩:=r;rfl
 |lst l=>obtain⟨a,_,_,rfl,_⟩:=r;rfl
 |bw l=>obtain⟨a,_,_,rfl,_⟩:=r;rfl
 |ref i=>obtain⟨a,rfl,_⟩:=r;rfl
 |st u=>have e:=r;exact e▸hy
 |bm f x=>obtain⟨a,_,rfl,_⟩:=r;rfl
 |pm f x=>obtain⟨a,_,rfl,_⟩:=r;rfl
 |vw T x=>obtain⟨a,_,rfl,_⟩:=r;rfl
 |dst l=>obtain⟨a,_,_,_,rfl,_⟩:=r;rfl
 |raw P x=>obtain⟨a,_,_,rfl,_⟩:=r;rfl
noncomputable abbrev GA(n:Nat)(x:V)(name:Rj)(H:AH)(y:V)(H':AH):Prop:=j1 n (fun v=>getAttr v name true) x H y H'
theorem GA.own{K}{i C d:Nat}{l}{name}{y}{attr}(c:pT K C)(hi:H[i]?=some (some (.inst C d)))(hd:H[d]?=some (some (.ns l)))(hl:l.lookup name=some y)
  (ha:Tf K (.ref C) name=some attr) (hn:noGet K attr=true) (hy:autoParam (V.hand y=true) aR):GA n (.ref i) name H y H:=by
 refine .mk fun A s W a R S r Q q=> ?_;obtain⟨a',da,ox,od,m,rfl,p,pd,hI,Eb,hx,I,AP,Ea,hm,kJ⟩:=i3 S hi hd r;obtain⟨v,hv,rv⟩:=(hm name).2 y hl;exact get_value (c.uu _ S.ground) I c.vA (findObj_own c.hd ha hn (J (kJ ..) (J (hv ..) rfl))) (lH hy rv) (q v _ W (Gr.dD W s _) (S.tok _) rv)
theorem GM.fn{K}{i C d:Nat}{l}{name}{f}(c:pT K C)(hi:H[i]?=some (some (.inst C d)))(hd:H[d]?=some (some (.ns l)))(hl:l.lookup name=none)
  (hf:Tf K (.ref C) name=some (some (.ref f))) (ht:typeIn K (.ref f)=some (.type "function")):GM n (.ref i) name H (.st (.ref f)) [.ref i] H:=by
 refine .mk fun A s W v pl R S r Q q=> ?_;obtain⟨a',da,ox,od,m,rfl,p,pd,hI,Eb,hx,I,AP,Ea,hm,kJ⟩:=i3 S hi hd r;refine method_fn (c.uu _ S.ground) I c.vA c.hk hf ht ?_ (q _ _ s W (Gr.refl ..) S rfl ⟨_,[],rfl,r,rfl⟩);show(lookIn name od).map (·.isSome)=some false;refine J (kJ ..) (J ((hm name).1 hl) ?_);rfl
theorem ET.attr{name}{pos}{x y}(ho:ET n F o ρ H x H1)(hg:GA n x name H1 y H2)
  (he:autoParam (∀env,eval (.Attribute o name pos) env=(do
    let o' ←eval o env
    standAt pos.atName
    let r ←holding [o'] (getAttr o' name true)
    letTemporaryGo o o' r
    pure r)) aI):ET n F (.Attribute o name pos) ρ H y H2:=by
 refine .mk fun A s W env R S E fr Q q=>(Attribute_any_ (ho.run A s W env R S E fr _ fun v s1 W1 G1 S1 r1=> ?_) (he env));exact j1.run hg A s1 W1 v R S1 r1 _ fun u s2 W2 G2 S2 r2=>q u s2 W2 (G1.trans G2) S2 r2
theorem Ec{K}{A}{s}{a' C da}{ox}{od}{m}{name}{tk}{v}{ns}{R}(X:K.In s.heap)(I:InstAt s.heap a' ox C od)(Eb:ox.dict=some da)
  (hp:plainOver K C=true) (ht:Yk K C name=some none) (hh:hasDictIn K C=true) (AP:s.heap.Ns1 da m) (wi:Within (fun x=>if x=name then some v else m x) ns) (hz:ns.length≤1000)
  (h:∀h',h'.Ns1 da (fun x=>if x=name then some v else m x)→Sm da s.heap h'→R (.ok (.ret .none)) {s with heap:=h',toks:=s.toks+1}):
  SM (model prog w) A (.call (.builtin "object.__setattr__") ⟨[.ref a', .str name tk,v],[]⟩) R s:=by
 refine osa_open X I hp ht fun b=>(QK fun kG=> ?_);obtain⟨cd,hc,CX⟩:=any_some hh;obtain⟨hx,gi,hn,-⟩:=I;obtain⟨oc,Qq,Qr,Qs⟩:=ox;refine kG ?_;subst gi Eb;refine bP (QL (QL (wpAny_loadPart hx (QL ((looks_clsIn X hc).here ?_)))));refine J CX (QO (bP (QL ?_)));refine wpAny_nsSet1 AP fun h' xL vE=>(QK fun kG=> ?_);obtain⟨o',es',CY,AU,hd2,hle⟩:=xL.count wi;refine kG (QL (wpAny_lookBehind AU (by refine J hd2 ?_;exact pastItsLine_dict (Rv▸ao hle (ao hz dc))) ?_));exact QO (h _ xL vE)
theorem pU{K}{i C d:Nat}{l}{name}{y}{A}{s}{W}{x v}(c:pT K C)(hi:H[i]?=some (some (.inst C d)))(hd:H[d]?=some (some (.ns l)))
  (ht:Yk K C name=some none) (hz:l.length≤100) (S:an W H s) (r:Rel W (.ref i) x) (rv:Rel W y v) {Q}
  (q:∀s',Gr cr W s W s'→an W (H.set d (some (.ns ((name,y)::l)))) s'→Q () s'):wpAny (model prog w) A (setAttr x name v) Q aX s:=by
 obtain⟨a',da,ox,od,m,rfl,p,pd,hI,Eb,hx,I,AP,Ea,hm,kJ⟩:=i3 S hi hd r;have wi:Within (fun x=>if x=name then some v else m x) (((name,y)::l).map (·.1)):=by
  intro z vF;by_cases e:z=name
  ·cases e;simp
  ·simp only[if_neg e] at vF;by_cases q:l.lookup z=none
   ·exact absurd ((hm z).1 q) vF
   ·obtain⟨y',Oq⟩:=Option.ne_none_iff_exists'.mp q;exact QQ _ (Q4.mpr ⟨(z,y'),mem_of_lookup Oq,rfl⟩)
 refine set_plain (c.uu _ S.ground) I c.hs (Ec (c.uu _ S.ground) I Eb c.hp ht c.hd AP wi (by simp;exact eG hz) fun h' xL vE=> ?_);have key:OA W h' da (.ns ((name,y)::l)):=by
  refine⟨_,xL,fun z=>⟨fun e=> ?_,fun y' e=> ?_⟩⟩
  ·replace e:=lookup_cons▸e;by_cases vF:z=name
   ·replace e:=(if_pos vF)▸e;cases e
   ·rw[if_neg vF] at e;exact(if_neg vF)▸(hm z).1 e
  ·rw[lookup_cons] at e;by_cases vF:z=name
   ·replace e:=(if_pos vF)▸e;cases e;exact⟨v,by simp[vF],rv⟩
   ·rw[if_neg vF] at e;exact(if_neg vF)▸(hm z).2 y' e
 obtain⟨S',G'⟩:=S.set (s':={s with heap:=h',toks:=s.toks+1+1}) pd hI (fun b o hb e=>(vE.2 b hb).trans e) (cg xL.ns) rfl rfl (gh (gh (QM _))) key;exact q _ G' S'
theorem AT.attr{K}{i C d:Nat}{l}{o}{name}{pos}{y}(c:pT K C)(ho:ET n F o ρ H (.ref i) H)(hi:H[i]?=some (some (.inst C d)))(hd:H[d]?=some (some (.ns l)))
  (ht:Yk K C name=some none) (hz:l.length≤100):AT n F (.Attribute o name pos) y ρ H ρ (H.set d (some (.ns ((name,y)::l)))):=by
 refine .mk fun A s W env v R S E fr r Q q=> ?_;show wpAny _ _ (do
  let ov ←holding [v] (eval o env)
  standAt pos.atName
  holding [v,ov] (setAttr ov name v)
  release [v,ov] []) Q aX s
 refine QL (wpAny_holding (ho.run A s W env R S E fr _ fun ov s1 W1 G1 S1 r1=>bA (QL (wpAny_holding ?_))));exact pU c hi hd ht hz S1 r1 (r.mono G1.le) fun s2 G2 S2=>Y3 (q s2 W1 (G1.trans G2).of S2 ((fr.step G1).step G2))
end
section
variable{A:Ta}{E:Value→Ro→Prop}{s:Ro}
theorem su(h:j≤QW):WY j=true:=by
 have hb:QW<2^62:=dc;exact fitsIndex_of (Ud j) (by lia)
theorem Ed{k}{v}{Q}(ho:s.heap.get? l=some (sq "list" vs m))(hj:j<vs.length)(GL:WY k=true)(hk:(j:Int)=k)
  (hQ:∀h' m',h'.get? l=some (sq "list" (vs.set j v) m')→Sm l s.heap h'→Q () {s with heap:=h'}):wpAny (model prog w) A (Z9 (.ref l) (.int k t) v) Q E s:=by
 have hl:s.heap.IsList l vs.toArray:=⟨_,ho,rfl,m,rfl⟩
 delta Z9
 try with_reducible refine wpAny_holding ?_
 first|refine bP ?_|skip
 refine QL (wpAny_sequenceKey hl.typeIs dc ?_);refine QL (RE hl.typeIs slot_list_setitem
  (wpAny_call_entry slot_list_setitem hl.typeIs entry_list_setitem ?_ (args_list_setitem _ _ _)))
 show wpAny _ _ (WR (.int k t)>>=_) _ _ s;refine QL (wpAny_listSubscript_int GL ?_);clear GL;subst hk;refine QL (QL (wpAny_seqItemAt ho rfl (QO ?_)));refine J (show vs.toArray[j]?=some vs[j] by exact(RQ).trans (Rg hj)) ?_;have nf:∃m',(s.heap.update l (Ru (·.setIfInBounds j v))).get? l=some (sq "list" (vs.set j v) m'):=by
  have:=Yq ho (·.setIfInBounds j v);simp only[(show vs.toArray.setIfInBounds j v=(vs.set j v).toArray by simp)] at this;exact⟨_,this⟩
 obtain⟨m',nf⟩:=nf;refine QL (wpAny_setSeqItemAt ho rfl ?_)
 first
  |exact bP (QO ⟨.none,rfl,QO (hQ _ m' nf (Rz ..))⟩)
  |exact QO ⟨.none,rfl,QO (hQ _ m' nf (Rz ..))⟩
end
section
variable{n:Nat}{F:Fx}{ρ am cU hJ:Loc}{H H1 H2 H3 H4 H5 H6:AH}{g:Fl}
theorem XT.expr{x}(h:ET n F e ρ H x H1)(hs:autoParam (∀env,WB e none pos.line env=pure false) aI):
  XT n F (.Expr e pos) ρ H .next ρ H1:= .mk fun A s W env R S E fr Q q=>
 wpAny_Expr_any (h.run A s W env R S E fr _ fun _ s1 W1 G1 S1 _=>q _ s1 W1 G1.of S1 (fr.step G1) rfl) (by unfold aay;exact E.kind▸rfl) (hs env)
theorem sw(o i:SD) pos env v:PySem.assign (.Subscript o i pos) env v=(do
  let ov ←holding [v] (eval o env)
  let iv ←holding [v,ov] (eval i env)
  standAt pos
  holding [v,ov,iv] (Z9 ov iv v)
  release (match i with| .Slice _ _ none _=>[iv,v,ov]|_=>[v,ov,iv]) []):=rfl
noncomputable abbrev KJ(n:Nat)(x i y:V)(H:AH)(H':AH):Prop:=∀A s W(a b c:Value),aB A n→an W H s→Rel W x a→Rel W i b→Rel W y c→
    ∀Q,(∀s' W',Gr cr W s W' s'→an W' H' s'→Q () s')→wpAny (model prog w) A (Z9 a b c) Q aX s
@[irreducible] noncomputable def IS (n:Nat) (x i y:V) (H:AH) (H':AH):Prop:=KJ n x i y H H'
theorem IS.mk{n x i y H H'}(h:KJ n x i y H H'):IS n x i y H H':=by delta IS;exact h
theorem IS.run{n x i y H H'}(h:IS n x i y H H'):KJ n x i y H H':=by delta IS at h;exact h
theorem IS.list{l:List V}{y}(hk:H[k]?=some (some (.list l)))(hj:j<l.length):IS n (.ref k) (.int j) y H (H.set k (some (.list (l.set j y)))):=by
 refine .mk fun A s W a b c R S ra rb rc Q q=> ?_;obtain⟨a',rfl,p⟩:=ra;obtain⟨t,rfl⟩:=rb;obtain⟨a2,p',hI,us,m,ho,r,hz⟩:=S.live k _ hk;cases p▸p';refine Ed ho (r.length▸hj) (su (ao (CJ hj) hz)) rfl fun h' m' AU hs=> ?_;have rs:∀{l}{us} j,aj W l us→aj W (l.set j y) (us.set j c):=by
  intro l
  induction l with
  |nil=>intro us j r;cases r;rfl
  |cons x l ih=>
   intro us j ⟨v,vs,e,r1,r2⟩;subst e;cases j with
   |zero=>exact⟨c,vs,rfl,rc,r2⟩
   |succ j=>exact⟨v,_,rfl,r1,ih j r2⟩
 obtain⟨S',G'⟩:=S.set (s':={s with heap:=h'}) (ob:= .list (l.set j y)) p hI (fun b o hb e=>(hs.2 b hb).trans e) (J AU nofun) rfl rfl (QM _) ⟨_,m',AU,rs j r,by exact J Sl hz⟩;exact q _ W G' S'
theorem IS.dict{key}{y}(hk:H[k]?=some (some (.dict l)))(hz:l.length<QW):IS n (.ref k) (.str key) y H (H.set k (some (.dict (il l key y)))):=by
 refine .mk fun A s W a b c R S ra rb rc Q q=> ?_;obtain⟨a',rfl,p⟩:=ra;obtain⟨a2,p',hI,es,m,ho,r,nd,_⟩:=S.live k _ hk;cases p▸p';obtain⟨bc,hd,hr⟩:=dictOf ho r nd;refine wpAny_setItem_pairs (Rel.isKey rb) hd.dictOf (fun h' CX hs=> ?_) (hr.length▸SU hz);refine QK fun kG=> ?_;obtain⟨es',m',AU,r',KL⟩:=lG CX (hr.put rc);have hlen:(il l key y).length≤l.length+1:=by delta il;refine bl (fun _=> ?_) (fun _=> ?_)<;>simp
 obtain⟨S',G'⟩:=S.set (s':={s with heap:=h',toks:=s.toks+1}) (ob:= .dict (il l key y)) p hI (fun b o hb e=>(hs.2 b hb).trans e) (AU▸nofun) rfl rfl (Te _) ⟨es',m',AU,r',KL,by exact ao hlen hz⟩;exact kG (q _ W G' S')
theorem AT.sub{x j y}(ho:ET n F o ρ H x H1)(hi:ET n F i ρ H1 j H2)(hs:IS n x j y H2 H3):AT n F (.Subscript o i pos) y ρ H ρ H3:=by
 refine .mk fun A s W env v R S E fr r Q q=>(J (sw ..) ?_);refine QL (wpAny_holding (ho.run A s W env R S E fr _ fun ov s1 W1 G1 S1 r1=>QL (wpAny_holding (hi.run A s1 W1 env R S1 E (fr.step G1) _ fun iv s2 W2 G2 S2 r2=>bA (QL (wpAny_holding ?_))))));refine hs.run A s2 W2 ov iv v R S2 (r1.mono G2.le) r2 ((r.mono G1.le).mono G2.le) _ fun s3 W3 G3 S3=>Y3 ?_;have G:=(G1.trans G2).trans G3;exact q s3 W3 G.of S3 (fr.step G)
theorem Ee.add_int:OT n (Xw .Add) (.int a) (.int b) H (.int (a+b)) H:=OT.dG fun A s W x y R S ra rb Q q=>by
 obtain⟨t,rfl⟩:=ra;obtain⟨u,rfl⟩:=rb;exact wpAny_iadd_int (q _ _)
theorem XT.aug{op}{value}{a b c}(hl:ρ.lookup x=some a)(hv:ET n F value ρ H b H1)(ho:OT n (Xw op) a b H1 c H2)(fN:ST F x)(Gz:autoParam ((x=="__classdict__")=false) aD):
  XT n F (.AugAssign (.Name x Os) op value pos) ρ H .next ((x,c)::ρ) H2:=by
 refine .mk fun A s W env R S E fr Q q=>(wpAny_AugAssign_Name ?_);have fin:∀u,Rel W a u→wpAny (model prog w) A (eval value env) (fun v fW=>wpAny (model prog w) A (Xw op u v) (fun r gq=>wpAny (model prog w) A (storeName env x r) (fun _=>Q .next) aX gq) aX fW) aX s:=fun u ru=>
  hv.run A s W env R S E fr _ fun v s1 W1 G1 S1 r1=>ho.run A s1 W1 u v R S1 (ru.mono G1.le) r1 _ fun z s2 W2 G2 S2 r2=>fN.run A s2 W2 H2 ρ env c z S2 E ((fr.step G1).step G2) r2 _ fun s3 G3 S3 f3=>
   q _ s3 W2 (((G1.trans G2).of).trans G3) S3 f3 rfl
 by_cases k:env.kindOf x=some .local
 ·obtain⟨m,hn,hm⟩:=fr.m;obtain⟨u,e,r⟩:=hm x a hl k;exact VF E.kind k hn e (fin u r)
 ·obtain⟨c',u,e,hc,r⟩:=fr.cell x a hl k;rcases(fr.kind x a hl).resolve_left k with k|k
  ·exact aaC E.kind k e hc (fin u r)
  ·exact aaB E.kind k e hc (fin u r) Gz
theorem XT.sy{op}{value}{x j a b c}(ho:ET n F o ρ H x H1)(hi:ET n F i ρ H1 j H2)(hg:OT n U2 x j H2 a H3)(hv:ET n F value ρ H3 b H4)(KM:OT n (Xw op) a b H4 c H5)
  (hs:IS n x j c H5 H6) (ha:autoParam (∀ov iv new,augStore i ov iv new=(do holding [new,ov,iv] (Z9 ov iv new);release [new,ov,iv] [];pure .next)) aI):
  XT n F (.AugAssign (.Subscript o i iG) op value pos) ρ H .next ρ H6:=by
 refine .mk fun A s W env R S E fr Q q=> ?_;refine wpAny_AugAssign_SubscriptAny (ho.run A s W env R S E fr _ fun ov s1 W1 G1 S1 r1=>hi.run A s1 W1 env R S1 E (fr.step G1) _ fun iv s2 W2 G2 S2 r2=>hg.run A s2 W2 ov iv R S2 (r1.mono G2.le) r2 _ fun old s3 W3 G3 S3 r3=>
  hv.run A s3 W3 env R S3 E (((fr.step G1).step G2).step G3) _ fun v s4 W4 G4 S4 r4=>KM.run A s4 W4 old v R S4 (r3.mono G4.le) r4 _ fun z s5 W5 G5 S5 r5=> ?_) ha
 have MY:=Wd.le_trans (Wd.le_trans G3.le G4.le) G5.le;refine hs.run A s5 W5 ov iv z R S5 ((r1.mono G2.le).mono MY) (r2.mono MY) r5 _ fun s6 W6 G6 S6=> ?_;have G:=((((G1.trans G2).trans G3).trans G4).trans G5).trans G6;exact q _ s6 W6 G.of S6 (fr.step G) rfl
theorem XT.uv{K}{i C d:Nat}{l}{o}{name}{KN pos}{op}{value}{a b c}(cf:pT K C)(ho:ET n F o ρ H (.ref i) H)(vA:GA n (.ref i) name H a H)(hv:ET n F value ρ H b H)
  (KM:OT n (Xw op) a b H c H) (hi:H[i]?=some (some (.inst C d))) (hd:H[d]?=some (some (.ns l))) (ht:Yk K C name=some none) (hz:l.length≤100):
  XT n F (.AugAssign (.Attribute o name KN) op value pos) ρ H .next ρ (H.set d (some (.ns ((name,c)::l)))):=by
 refine .mk fun A s W env R S E fr Q q=>(wpAny_AugAssign_AttributeAny (ho.run A s W env R S E fr _ fun ov s1 W1 G1 S1 r1=>j1.run vA A s1 W1 ov R S1 r1 _ fun old s2 W2 G2 S2 r2=>hv.run A s2 W2 env R S2 E ((fr.step G1).step G2) _ fun v s3 W3 G3 S3 r3=>KM.run A s3 W3 old v R S3 (r2.mono G3.le) r3 _ fun z s4 W4 G4 S4 r4=> ?_));refine pU cf hi hd ht hz S4 (((r1.mono G2.le).mono G3.le).mono G4.le) r4 fun s5 G5 S5=> ?_;have G:=(((G1.trans G2).trans G3).trans G4).trans G5;exact q _ s5 W4 G.of S5 (fr.step G) rfl
theorem XT.try{x}(h:af n F body ρ H (.ret x) am H1):XT n F (.Try body (h₀::hs) [] [] pos) ρ H (.ret x) am H1:=by
 refine .mk fun A s W env R S E fr Q q=>(wpAny_Try_except (Ri (h.run A s W env R S E fr (fun f s1=>(∃v,f= .ret v)∧Q f s1) fun f s1 W1 G1 S1 f1 r1=>⟨let⟨v,e,_⟩:=r1;⟨v,e⟩,q f s1 W1 G1 S1 f1 r1⟩) (fun f s1 h1=> ?_) fun _ _ e=>e.elim));obtain⟨⟨v,rfl⟩,h1⟩:=h1;exact h1
noncomputable abbrev KO(n:Nat)(F:Fx)(test:SD)(body orelse:List U3)(ρ:Loc)(H:AH)(f:Fl)(ρ':Loc)(H':AH):Prop:=∀A s W env,aB A n→an W H s→az F env→cQ W ρ env s.heap→
    ∀Q:Flow→Ro→Prop,(∀g s' W',Gr (own env) W s W' s'→an W' H' s'→cQ W' ρ' env s'.heap→f.rel W' g→Q g s')→
     SM (model prog w) A (.whileLoop test body orelse env) (fun r s'=>∃g,r= .ok g∧Q g s') s
@[irreducible] noncomputable def XW (n:Nat) (F:Fx) (test:SD) (body orelse:List U3) (ρ:Loc) (H:AH) (f:Fl) (ρ':Loc) (H':AH):Prop:=KO n F test body orelse ρ H f ρ' H'
theorem XW.mk{n F test body orelse ρ H f ρ' H'}(h:KO n F test body orelse ρ H f ρ' H'):XW n F test body orelse ρ H f ρ' H':=by delta XW;exact h
theorem XW.run{n F test body orelse ρ H f ρ' H'}(h:XW n F test body orelse ρ H f ρ' H'):KO n F test body orelse ρ H f ρ' H':=by delta XW at h;exact h
theorem XW.done{body orelse}(ht:TT n F test ρ H false H1)(h:af n F orelse ρ H1 g am H2):XW n F test body orelse ρ H g am H2:=by
 refine .mk fun A s W env R S E fr Q q=>(R7 ?_);refine Tv (dg fun Q' E' qq _=> ?_);refine QL (lC (ht.run A s W env R S E fr _ fun s1 W1 G1 S1=> ?_));refine QL (lC (h.run A s1 W1 env R S1 E (fr.step G1) _ fun f s2 W2 G2 S2 f2 r2=>QO (qq _ _ ⟨f,rfl,q f s2 W2 (G1.of.trans G2) S2 f2 r2⟩)))
theorem XW.turn(ht:TT n F test ρ H true H1)(hb:af n F body ρ H1 .next am H2)(h:XW n F test body orelse am H2 g cU H3):XW n F test body orelse ρ H g cU H3:=by
 refine .mk fun A s W env R S E fr Q q=>(R7 ?_);refine Tv (dg fun Q' E' qq _=> ?_);refine QL (lC (ht.run A s W env R S E fr _ fun s1 W1 G1 S1=> ?_));refine QL (lC (hb.run A s1 W1 env R S1 E (fr.step G1) _ fun f s2 W2 G2 S2 f2 r2=> ?_));cases r2;exact QO (qq _ _ ⟨rfl,h.run A s2 W2 env R S2 E f2 Q fun g s3 W3 G3 S3 f3 r3=>q g s3 W3 ((G1.of.trans G2).trans G3) S3 f3 r3⟩)
theorem XT.while(h:XW n F test body orelse ρ H g am H1):XT n F (.While test body orelse pos) ρ H g am H1:= .mk fun A s W env R S E fr Q q=>
 wpAny_While (T6 (h.run A s W env R S E fr Q q) fun r s' hr=>by obtain⟨g,rfl,hr⟩:=hr;exact hr)
theorem XW.sub(h:XW n F test body orelse ρ' H g am H1)(k:∀n x,ρ'.lookup n=some x→ρ.lookup n=some x):XW n F test body orelse ρ H g am H1:=
 .mk fun A s W env R S E fr Q q=>h.run A s W env R S E (fr.sub k) Q q
theorem ad:∀n x,([]:Loc).lookup n=some x→ρ.lookup n=some x:=fun _ _ h=>by cases h
theorem aa{ρ':Loc}(h:ρ.lookup k=some v)(r:∀n x,ρ'.lookup n=some x→ρ.lookup n=some x):∀n x,((k,v)::ρ').lookup n=some x→ρ.lookup n=some x:=fun n x e=>by
 rw[lookup_cons] at e;by_cases hn:n=k
 ·subst hn;replace e:=(if_pos rfl)▸e;cases e;exact h
 ·rw[if_neg hn] at e;exact r n x e
end
section
variable{n:Nat}{F:Fx}{ρ am cU hJ:Loc}{H H1 H2 H3 H4 H5 H6:AH}{g:Fl}
theorem j3(p:IsPart v k):∃q,v=partValue q∧k=q.map (·.1):=by
 cases p with
 |none=>exact⟨Q6,rfl,rfl⟩
 |int i t=>exact⟨some (i,t),rfl,rfl⟩
theorem GT.str{lo hi}:GT n (.str x) lo hi none H (.str (SY x lo hi)) H:=by
 refine .mk fun A s W o a vl vu vs R S r hs pl pu ps Q q=>(QK fun kG=> ?_);obtain⟨t,rfl,hz⟩:=r;obtain⟨ql,rfl,rfl⟩:=j3 pl;obtain⟨qu,rfl,rfl⟩:=j3 pu;refine kG ?_;cases ps;refine wpAny_toks (wpAny_getItem_str_slice (st:=Q6) hs rfl (post_val_or_str ⟨QU (Xx x _ _) hz,fun t' k ht=> ?_⟩));exact q _ _ W (Gr.dD W s k) (S.tok k ht) ⟨t',rfl,QU (Xx x _ _) hz⟩
theorem ET.pW{x}(h:ET n F value ρ H (.str x) H1):ET n F (.FormattedValue value (-1) Q6 pos) ρ H (.str x) H1:=by
 refine .mk fun A s W env R S E fr Q q=>(YZ (h.run A s W env R S E fr _ fun v s1 W1 G1 S1 r1=> ?_));obtain⟨t,rfl,hz⟩:=r1;refine wpAny_formatField_str (q _ s1 W1 G1 S1 ⟨t,rfl,hz⟩) (q _ _ W1 (G1.tok _) (S1.tok _) ⟨_,rfl,hz⟩) hz
theorem ET.KP{i}(h:ET n F value ρ H (.int i) H1)(hd:i.natAbs.log2<1920)(hz:(Vf (toString i)).length≤QW):ET n F (.FormattedValue value (-1) Q6 pos) ρ H (.str (toString i)) H1:=by
 refine .mk fun A s W env R S E fr Q q=>(YZ (h.run A s W env R S E fr _ fun v s1 W1 G1 S1 r1=> ?_));obtain⟨t,rfl⟩:=r1;exact wpAny_formatField_int hd (q _ _ W1 (G1.tok _) (S1.tok _) ⟨_,rfl,hz⟩)
noncomputable abbrev KQ(n:Nat)(F:Fx)(ts:List SD)(ρ:Loc)(H:AH)(acc out:Rj)(H':AH):Prop:=∀A s W env,aB A n→an W H s→az F env→cQ W ρ env s.heap→
    ∀Q,(∀s' W',Gr cr W s W' s'→an W' H' s'→Q out s')→Joins (model prog w) A aX (evalEach ts env) acc Q s
@[irreducible] noncomputable def FP (n:Nat) (F:Fx) (ts:List SD) (ρ:Loc) (H:AH) (acc out:Rj) (H':AH):Prop:=KQ n F ts ρ H acc out H'
theorem FP.mk{n F ts ρ H acc out H'}(h:KQ n F ts ρ H acc out H'):FP n F ts ρ H acc out H':=by delta FP;exact h
theorem FP.run{n F ts ρ H acc out H'}(h:FP n F ts ρ H acc out H'):KQ n F ts ρ H acc out H':=by delta FP at h;exact h
theorem FP.nil:FP n F [] ρ H acc acc H:= .mk fun _ s W _ _ S _ _ _ q=>q s W (Gr.refl ..) S
theorem FP.cons{acc x out}(h:ET n F e ρ H (.str x) H1)(hr:FP n F ts ρ H1 (acc++x) out H2)(hz:(acc++x).length≤QW)
  (he:autoParam (∀env,evalEach (e::ts) env=eval e env::evalEach ts env) aI):FP n F (e::ts) ρ H acc out H2:=by
 refine .mk fun A s W env R S E fr Q q=>(J (he env) ?_);refine h.run A s W env R S E fr _ fun v s1 W1 G1 S1 r1=> ?_;obtain⟨t,rfl,_⟩:=r1;exact⟨x,t,rfl,hz,hr.run A s1 W1 env R S1 E (fr.step G1) Q fun s2 W2 G2 S2=>q s2 W2 (G1.trans G2) S2⟩
theorem ET.AV{out}(h:FP n F (KR::KS::rest) ρ H VR out H1)(hz:out.length≤QW):ET n F (.JoinedStr (KR::KS::rest) pos) ρ H (.str out) H1:=by
 exact .mk fun A s W env R S E fr Q q=>(wpAny_JoinedStr (h.run A s W env R S E fr _ fun s1 W1 G1 S1=>⟨hz,q _ _ W1 (G1.tok _) (S1.tok _) ⟨_,rfl,hz⟩⟩))
theorem GA.aQ{K}{i C d:Nat}{l}{name}{f}(c:pT K C)(hi:H[i]?=some (some (.inst C d)))(hd:H[d]?=some (some (.ns l)))(hl:l.lookup name=none)
  (hf:∀od,lookIn name od=some none→findObj K C (some od) name=some (.bind (.builtin "function.__get__") (.ref f))) (ht:typeIn K (.ref f)=some (.type "function")):GA n (.ref i) name H (.pm f (.ref i)) H:=by
 refine .mk fun A s W a R S r Q q=> ?_;obtain⟨a',da,ox,od,m,rfl,p,pd,hI,Eb,hx,I,AP,Ea,hm,kJ⟩:=i3 S hi hd r;refine get_bind (c.uu _ S.ground) I c.vA (hf od (J (kJ ..) (J ((hm name).1 hl) rfl))) c.hk (UP (fn_get (c.uu _ S.ground) ht ?_));refine QO ?_;obtain⟨S2,G2⟩:=(S.tok (s.toks+1)).put (o:=mq f (.ref a')) rfl;exact q _ _ _ ((Gr.dD W s _).trans G2) S2 ⟨_,_,rfl,Wd.ak ..,r.mono G2.le⟩
theorem CT.pm{xs}(h:CC n (.st (.ref f)) (self::xs) [] H x H1):CT n (.pm f self) xs [] H x H1:= .mk fun A s W fv vs kv R S rf rx c7 _ Q q=>by
 have:kv=[]:=by simpa using c7
 subst this;obtain⟨a,u,rfl,hI,ru⟩:=rf;exact UP (method_call (S.cq _ _ hI) (h.run A s W (.ref f) (u::vs) [] R S rfl ⟨u,vs,rfl,ru,rx⟩ rfl rfl Q q))
end
section
variable{n:Nat}{F:Fx}{ρ am cU hJ:Loc}{H H1 H2 H3 H4 H5 H6:AH}{g:Fl}
noncomputable def uw:Nat→List V→List V
 |_,[]=>[]
 |i,x::xs=> .tup [.int i,x]::uw (i+1) xs
theorem an.but{Y}(S:an W H s)(k:∀b o,¬Y b→s.heap.get? b=some o→s'.heap.get? b=some o)(hY:∀b,Y b→jz W b)(hg:s'.gens=s.gens)(sz:s'.os=s.os)(ht:s.toks≤s'.toks):
  an W H s'∧Gr Y W s W s':=
 ⟨S.same (fun b o e h=>k b o (fun y=>h.elim (hY b y).1 fun h=>h (hY b y).2) e) (hg▸S.bare) ht,
  ⟨W.le_refl,fun _ h=> .inl h,fun _ _ h=> .inl h,fun b o e _ hb=>k b o hb e,fun b h hb=>by
   cases q:s.heap.get? b with
   |none=>exact absurd q h
   |some o=>refine J (k b o hb q) ?_;exact nofun,sz,by exact hg▸fun _ _ h=>h⟩⟩
theorem an.xM{Y}{a}{o}(S:an W H s)(k:∀b o,¬Y b→s.heap.get? b=some o→s'.heap.get? b=some o)(hY:∀b,Y b→jz W b)(hg:s'.gens=s.gens)(sz:s'.os=s.os)
  (ht:s.toks≤s'.toks) (ha:s.heap.get? a=none) (ho:s'.heap.get? a=some o):an (W.put a o) H s'∧Gr Y W s (W.put a o) s'∧W.le (W.put a o):=by
 obtain⟨S2,G2,l⟩:=(S.but k hY hg sz ht).1.adopt (S.fresh ha) ho;exact⟨S2,(S.but k hY hg sz ht).2.base G2 fun x e h=>by cases e;exact absurd ha h,l⟩
theorem dS.enum{vs}{m}(JC:¬X e)(JD:¬X it)(aU:e≠it):∀xs i old W s,W.I l=some (sq "list" vs m)→aj W xs (vs.drop i)→
  IsEnum s.heap e it i old→s.heap.IsListIter it l i→(jz W e)→(jz W it)→dS n (fun _=>True,fun t=>isTup t=true) X (.ref e) (fun a=>a=e∨a=it) (uw i xs) W s:=by
 intro rv
 induction rv with
 |nil=>
  intro i old W s hI hr he hit fe fi;intro A s1 W1 H1 R G S hp;have dj:s1.heap.IsListIter it l i:=by obtain⟨o,ho,r⟩:=hit;exact⟨o,G.heap _ _ ho fi.1 JD,r⟩
  have GN:s.heap.get? it≠none:=by obtain⟨o,ho,r⟩:=hit;exact ho▸nofun
  refine wpAny_pyNext_enum_end R.handled (G.heap _ _ he fe.1 JC) dj (aA S (Wd.fq G.le hI)) ((RQ)▸R2 (by simpa using(show vs.drop i=[] from hr))) fun h' hx=>⟨rfl, ?_⟩;have:=S.but (s':={s1 with heap:=h'}) (Y:=fun a=>a=e∨a=it) (fun b o hb e=>hx b o (fun q=>hb (.inr q)) e) (fun b y=>by rcases y with rfl|rfl;exact(al G (he▸nofun) fe JC);exact(al G GN fi JD)) rfl rfl (QM _);exact⟨this.2,this.1⟩
 |cons x xs ih=>
  intro i old W s hI hr he hit fe fi;intro A s1 W1 H1 R G S hp;obtain⟨v,us,ev,r1,r2⟩:=hr;have MZ:IsEnum s1.heap e it i old:=G.heap _ _ he fe.1 JC;have dj:s1.heap.IsListIter it l i:=by obtain⟨o,ho,r⟩:=hit;exact⟨o,G.heap _ _ ho fi.1 JD,r⟩
  have GN:s.heap.get? it≠none:=by obtain⟨o,ho,r⟩:=hit;exact ho▸nofun
  have M0:=al G GN fi JD;have M1:=al G (he▸nofun) fe JC;have hv:vs[i]?=some v:=by refine aO Wh (J ev ?_);rfl
  have hd:vs.drop (i+1)=us:=by refine aO Wx (J ev ?_);rfl
  refine wpAny_pyNext_enum_item MZ dj (aA S (Wd.fq G.le hI)) ((RQ)▸hv) aU fun h' KT fR xN hsz hk=>⟨_,rfl,fun target ht=> ?_⟩;cases target with
  |Tuple elts k pos=>
   refine wpAny_letOwnedTupleGo_enum KT fun Ef Eg hs=> ?_;have GO:s1.heap.objs.size≠e:=fun q=>by
    have:=Rq MZ;rw[←q] at this;exact Sj _ this
   have vE:Sm e h' Ef:=hs;obtain⟨S2,G2,l2⟩:=S.xM (s':={s1 with heap:=Ef,toks:=s1.toks+1}) (Y:=fun a=>a=e∨a=it)
    (fun b o hb e'=>(vE.2 b fun q=>hb (.inl q)).trans (hk b o (fun q=>hb (.inl q)) (fun q=>hb (.inr q)) e')) (fun b y=>by rcases y with rfl|rfl;exact M1;exact M0) rfl rfl (Te _) (ae _) ((vE.2 _ GO).trans xN)
   refine⟨_,G2,S2,⟨_,_,0,rfl,Wd.ak ..,⟨_,_,rfl,⟨_,rfl⟩,_,_,rfl,(r1.mono G.le).mono l2,rfl⟩,by simp;decide⟩, ?_⟩;have xO:Ef.IsListIter it l (i+1):=by obtain⟨o,ho,r⟩:=fR;exact⟨o,(vE.2 _ (Se aU)).trans ho,r⟩
   have M2:∀b,(jz W1 b)→b≠s1.heap.objs.size→(jz (W1.put s1.heap.objs.size (sq "tuple" [.int i s1.toks,v] 0)) b):=fun b hb hn=>⟨hb.1,by simpa [Wd.put,hn] using hb.2⟩;have KU:s1.heap.objs.size≠it:=fun q=>by
    obtain⟨o,ho,_⟩:=dj;have:=Rq ho;rw[←q] at this;exact Sj _ this
   exact ih (i+1) v _ {s1 with heap:=Ef,toks:=s1.toks+1} (Wd.fq l2 (Wd.fq G.le hI)) (hd▸(r2.mono G.le).mono l2) (Eg) xO (M2 e M1 (Se GO)) (M2 it M0 (Se KU))
  |_=>cases ht
noncomputable abbrev KV(n:Nat)(f:V)(xs:List V)(H:AH)(ys:List V)(P:PP)(H':AH):Prop:=∀A s W fv vs,aB A n→an W H s→Rel W f fv→aj W xs vs→
    ∀Q,(∀it Y s' W',Gr cr W s W' s'→an W' H' s'→Src n P it Y ys s W' s'→Q it s')→
     wpAny (model prog w) A (call fv vs []) (fun x s1=>wpAny (model prog w) A (VP x) Q aX s1) aX s
@[irreducible] noncomputable def CI (n:Nat) (f:V) (xs:List V) (H:AH) (ys:List V) (P:PP) (H':AH):Prop:=KV n f xs H ys P H'
theorem CI.mk{n f xs H ys P H'}(h:KV n f xs H ys P H'):CI n f xs H ys P H':=by delta CI;exact h
theorem CI.run{n f xs H ys P H'}(h:CI n f xs H ys P H'):KV n f xs H ys P H':=by delta CI at h;exact h
theorem Src.back{s0 s1 s2}{W0 W1 W2}(c:Src n P it Y ys s1 W2 s2)(G:Gr cr W0 s0 W1 s1):Src n P it Y ys s0 W2 s2:=
 ⟨fun a y=>⟨(G.back (c.new a y).1).resolve_right id,(c.new a y).2⟩,c.feed,c.self⟩
theorem IT.call{pos}{f}{xs ys}{P}(hf:ET n F func ρ H f H1)(ha:ab n F pos args ρ H1 xs H2)(hk:aL f)(hc:CI n f xs H2 ys P H3)
  (he:autoParam (∀env,eval (.Call func args [] pos) env=(do Uo pos (←eval func env) [] (backTo pos (starEach args env)) (backToKw pos (keywordEach [] env)))) aI)
  (hp:autoParam (∀env,(backTo pos (starEach args env)).any (·.1)=false) aI):IT n F (.Call func args [] pos) ρ H ys P H3:=by
 refine .mk fun A s W env R S E fr Q q=>(J (he env) ?_);refine QL (hf.run A s W env R S E fr _ fun fv s1 W1 G1 S1 r1=> ?_);show wpAny _ _ (Uo pos fv [] (backTo pos (starEach args env)) []) _ aX s1;refine Uq (P:=Kp fv) (by simp[hp env]) (fun _ h=>h) (cu ha R S1 E (fr.step G1) (hp env) fun vs s2 W2 G2 S2 r2=>⟨hk.run s2 W2 _ fv S2 (r1.mono G2.le), ?_⟩);exact hc.run A s2 W2 fv vs R S2 (r1.mono G2.le) r2 Q fun it Y s3 W3 G3 S3 c=>q it Y s3 W3 ((G1.trans G2).trans G3) S3 (c.back (G1.trans G2))
theorem di.enum(hX:¬X e)(he:IsEnum s.heap e it i old)(ff:e∉W.φ):di X (.ref e) W s:=fun A s1 W1 H1 G S Q q=>
 wpAny_pyIter_enum (G.heap _ _ he ff hX) q
theorem CI.enum:CI n (.st (.type "enumerate")) [.lst xs] H (uw 0 xs) (fun _=>True,fun t=>isTup t=true) H:=by
 refine .mk fun A s W fv vs R S rf rx Q q=> ?_;cases rf;obtain⟨v,rfl,⟨a,us,m,rfl,hI,ru,_⟩⟩:=rx.one;refine call_enumerate_list (aA S hI) fun h' he hit hsz hk=> ?_;have n0:s.heap.get? s.heap.objs.size=none:=ae _;have n1:s.heap.get? (s.heap.objs.size+1)=none:=by
  cases e:s.heap.get? (s.heap.objs.size+1) with
  |none=>rfl
  |some o=>exact absurd (Rq e) (Tw.mpr (Te _))
 have f1:=S.fresh n1;have t0:h'.get? s.heap.objs.size≠none:=by obtain⟨o,ho,_⟩:=hit;exact ho▸nofun
 refine wpAny_pyIter_enum he (q _ (fun a=>a=s.heap.objs.size+1∨a=s.heap.objs.size) _ W (⟨W.le_refl,fun _ h=> .inl h,fun _ _ h=> .inl h,fun b o e _ _=>hk b o e,fun b h _=>br hk b h,rfl,fun _ _ h=>h⟩) (S.same (fun b o e _=>hk b o e) S.bare) ⟨fun b y=> ?_,fun X hX=> ?_,fun X hX=> ?_⟩)
 ·rcases y with rfl|rfl
  ·exact⟨n1,by exact(he)▸nofun⟩
  ·exact⟨n0,t0⟩
 ·exact dS.enum (fun x=>hX _ x (.inl rfl)) (fun x=>hX _ x (.inr rfl)) (Vt _) xs 0 .none W {s with heap:=h'} hI ru he hit f1 (S.fresh n0)
 ·exact di.enum (fun x=>hX _ x (.inl rfl)) he f1.1
noncomputable def cw(l:List (Rj×V)):List V:=l.map fun p=> .tup [.str p.1,p.2]
theorem bQ.at:∀{bc}{i:Nat},bQ W l bc→bc[i]?=some (k,v)→∃x,l[i]?=some (k,x)∧Rel W x v:=by
 induction l with
 |nil=>intro _ _ r h;cases r;cases h
 |cons p l ih=>
  rintro _ i ⟨u,us,e,a,b⟩ h;subst e;cases i with
  |zero=>cases h;exact⟨_,rfl,a⟩
  |succ i=>exact ih b h
theorem eA{s}{I}{o}{vs}{v}{target}{Q}(ho:s.heap.get? I=some o){T}(hc:o.cls= .type T)(hd:o.data= .fields vs)
  (hT:(["enumerate","zip","dict_itemiterator","dict_reverseitemiterator","odict_iterator","itertools.zip_longest","itertools.pairwise"].contains T)=false) (h:Q () s):wpAny (model prog w) A (SI target (.ref I) v) Q aX s:=by
 have key:wpAny (model prog w) A (SI (.Tuple [] 0 ⟨0,0,0,0⟩) (.ref I) v) Q aX s:=by
  cases v with
  |ref a=>
   refine bL ho (J hc (J hd ?_));show wpAny _ A (if _ then _ else _) Q aX s;exact hT▸QO h
  |_=>exact QO h
 cases target with
 |Tuple=>exact key
 |List=>exact key
 |_=>exact QO h
theorem dS.values{es}{m}{l}(hX:¬X it):∀(k i:Nat) W s,k=l.length-i→i≤l.length→W.I d=some (dq es m)→d6 W l es→(l.map (·.1)).Nodup→
  s.heap.IsValIter it d i l.length m→it∉W.φ→W.I it=none→dS n (fun _=>True,fun _=>True) X (.ref it) (fun a=>a=it) ((l.drop i).map (·.2)) W s:=by
 intro rv
 induction rv with
 |zero=>
  intro i W s hk hle hI hr nd hit ff hi;have:=r9 hle (Gn hk);subst this;refine J Vq fun A s1 W1 H1 R G S hp=> ?_;have dj:s1.heap.IsValIter it d l.length l.length m:=by obtain⟨o,ho,r⟩:=hit;exact⟨o,G.heap _ _ ho ff hX,r⟩
  refine QK fun kG=> ?_;obtain⟨bc,hd,j4⟩:=dictOf (S.cq _ _ (Wd.fq G.le hI)) (hr.mono G.le) nd;refine kG ?_;have hlen:=j4.length;have fr:=al G (by obtain⟨o,ho,r⟩:=hit;exact J ho nofun) ⟨ff,hi⟩ hX;refine wpAny_pyNext_values_end R.handled (J hlen ((dj))) hd (R2 (bC hlen)) fun h' hx=>⟨rfl, ?_⟩;have:=S.but (s':={s1 with heap:=h'}) (fun b o hb e=>hx b o hb e) (fun b y=>by cases y;exact fr) rfl rfl (QM _);exact⟨this.2,this.1⟩
 |succ k ih=>
  intro i W s hk hle hI hr nd hit ff hi;have ce:=Gp hk;have e1:=Sf ce;refine J e1 (J Q8 ?_);intro A s1 W1 H1 R G S hp;have dj:s1.heap.IsValIter it d i l.length m:=by obtain⟨o,ho,r⟩:=hit;exact⟨o,G.heap _ _ ho ff hX,r⟩
  refine QK fun kG=> ?_;obtain⟨bc,hd,j4⟩:=dictOf (S.cq _ _ (Wd.fq G.le hI)) (hr.mono G.le) nd;have hlen:=j4.length;have fr:=al G (by obtain⟨o,ho,r⟩:=hit;exact J ho nofun) ⟨ff,hi⟩ hX;have xP:=ao ce (lg hlen);obtain⟨key,v,hx⟩:∃key v,bc[i]?=some (key,v):=⟨bc[i].1,bc[i].2,Rg xP⟩;obtain⟨x,Aw,rx⟩:=j4.at hx;refine kG ?_;have Eh:l[i]=(key,x):=by rw[Rg ce] at Aw;exact Uv Aw
  refine wpAny_pyNext_values_item (J hlen ((dj))) hd hx fun h' fR hs=>⟨v,rfl,fun target _=> ?_⟩;refine QK fun kG=> ?_;obtain⟨o2,sA,sB,hd2⟩:=id fR;refine kG (eA sA sB hd2 dc ?_);have:=S.but (s':={s1 with heap:=h'}) (fun b o hb e=>(hs.2 b hb).trans e) (fun b y=>by cases y;exact fr) rfl rfl (QM _);exact J Eh ((⟨W1,this.2,this.1,rx,ih (i+1) W1 _ (Gq hk) ce (Wd.fq G.le hI) (hr.mono G.le) nd (hlen▸fR) fr.1 fr.2⟩))
theorem dS.keys{es}{m}{l}(hX:¬X it)(vG:∀p∈l,p.1.length≤QW):∀(k i:Nat) W s,k=l.length-i→i≤l.length→W.I d=some (dq es m)→d6 W l es→(l.map (·.1)).Nodup→
  s.heap.IsKeyIter it d i l.length m→it∉W.φ→W.I it=none→dS n (fun _=>True,fun _=>True) X (.ref it) (fun a=>a=it) ((l.drop i).map fun p=>V.str p.1) W s:=by
 intro rv
 induction rv with
 |zero=>
  intro i W s hk hle hI hr nd hit ff hi;have:=r9 hle (Gn hk);subst this;refine J Vq fun A s1 W1 H1 R G S hp=> ?_;have dj:s1.heap.IsKeyIter it d l.length l.length m:=by obtain⟨o,ho,r⟩:=hit;exact⟨o,G.heap _ _ ho ff hX,r⟩
  refine QK fun kG=> ?_;obtain⟨bc,hd,j4⟩:=dictOf (S.cq _ _ (Wd.fq G.le hI)) (hr.mono G.le) nd;refine kG ?_;have hlen:=j4.length;have fr:=al G (by obtain⟨o,ho,r⟩:=hit;exact J ho nofun) ⟨ff,hi⟩ hX;refine ZW R.handled (J hlen ((dj))) hd (R2 (bC hlen)) fun h' hx=>⟨rfl, ?_⟩;have:=S.but (s':={s1 with heap:=h'}) (fun b o hb e=>hx b o hb e) (fun b y=>by cases y;exact fr) rfl rfl (QM _);exact⟨this.2,this.1⟩
 |succ k ih=>
  intro i W s hk hle hI hr nd hit ff hi;have ce:=Gp hk;have e1:=Sf ce;refine J e1 (J Q8 ?_);intro A s1 W1 H1 R G S hp;have dj:s1.heap.IsKeyIter it d i l.length m:=by obtain⟨o,ho,r⟩:=hit;exact⟨o,G.heap _ _ ho ff hX,r⟩
  refine QK fun kG=> ?_;obtain⟨bc,hd,j4⟩:=dictOf (S.cq _ _ (Wd.fq G.le hI)) (hr.mono G.le) nd;have hlen:=j4.length;have fr:=al G (by obtain⟨o,ho,r⟩:=hit;exact J ho nofun) ⟨ff,hi⟩ hX;have xP:=ao ce (lg hlen);obtain⟨key,v,hx⟩:∃key v,bc[i]?=some (key,v):=⟨bc[i].1,bc[i].2,Rg xP⟩;obtain⟨x,Aw,rx⟩:=j4.at hx;refine kG ?_;have Eh:l[i]=(key,x):=by rw[Rg ce] at Aw;exact Uv Aw
  have KW:key.length≤QW:=by have:=vG l[i] (T4 ce);have:=Eh▸this;exact this
  refine ZJ (J hlen ((dj))) hd hx fun kv h' ng fR hs=>⟨kv,rfl,fun target _=> ?_⟩;refine QK fun kG=> ?_;obtain⟨t,rfl⟩:=TV ng;obtain⟨o2,sA,sB,hd2⟩:=id fR;refine kG (eA sA sB hd2 dc ?_);have:=S.but (s':={s1 with heap:=h'}) (fun b o hb e=>(hs.2 b hb).trans e) (fun b y=>by cases y;exact fr) rfl rfl (QM _);exact J Eh ((⟨W1,this.2,this.1,⟨t,rfl,KW⟩,ih (i+1) W1 _ (Gq hk) ce (Wd.fq G.le hI) (hr.mono G.le) nd (hlen▸fR) fr.1 fr.2⟩))
theorem dS.items{es}{m}{l}(hX:¬X it)(vG:∀p∈l,p.1.length≤QW):∀(k i:Nat)(ok ov:Value) W s,k=l.length-i→i≤l.length→W.I d=some (dq es m)→d6 W l es→(l.map (·.1)).Nodup→
  IsItemIter s.heap it d i l.length m ok ov→it∉W.φ→W.I it=none→dS n (fun _=>True,fun t=>isTup t=true) X (.ref it) (fun a=>a=it) (cw (l.drop i)) W s:=by
 intro rv
 induction rv with
 |zero=>
  intro i ok ov W s hk hle hI hr nd hit ff hi;have:=r9 hle (Gn hk);subst this;refine J Vq fun A s1 W1 H1 R G S hp=> ?_;obtain⟨bc,hd,j4⟩:=dictOf (S.cq _ _ (Wd.fq G.le hI)) (hr.mono G.le) nd;have hlen:=j4.length;have fr:=al G (hit▸nofun) ⟨ff,hi⟩ hX;refine wpAny_pyNext_items_end R.handled (J hlen ((G.heap _ _ hit ff hX))) hd (R2 (bC hlen)) fun h' hx=>⟨rfl, ?_⟩;have:=S.but (s':={s1 with heap:=h'}) (fun b o hb e=>hx b o hb e) (fun b y=>by cases y;exact fr) rfl rfl (QM _);exact⟨this.2,this.1⟩
 |succ k ih=>
  intro i ok ov W s hk hle hI hr nd hit ff hi;have ce:=Gp hk;refine J (Sf ce) fun A s1 W1 H1 R G S hp=> ?_;have dj:=G.heap _ _ hit ff hX;refine QK fun kG=> ?_;obtain⟨bc,hd,j4⟩:=dictOf (S.cq _ _ (Wd.fq G.le hI)) (hr.mono G.le) nd;have hlen:=j4.length;have fr:=al G (hit▸nofun) ⟨ff,hi⟩ hX;have xP:=ao ce (lg hlen);obtain⟨key,v,hx⟩:∃key v,bc[i]?=some (key,v):=⟨bc[i].1,bc[i].2,Rg xP⟩;obtain⟨x,Aw,rx⟩:=j4.at hx;refine kG ?_;have Eh:l[i]=(key,x):=by rw[Rg ce] at Aw;exact Uv Aw
  have KW:key.length≤QW:=by have:=vG l[i] (T4 ce);have:=Eh▸this;exact this
  refine wpAny_pyNext_items_item (hlen▸dj) hd hx fun kv h' ng fR xN hsz AW=>⟨_,rfl,fun target ht=> ?_⟩;obtain⟨t,rfl⟩:=TV ng;cases target with
  |Tuple elts kk pos=>
   refine wpAny_letOwnedTupleGo_items fR fun Ef xO hs=> ?_;have GO:s1.heap.objs.size≠it:=fun q=>by
    have:=Rq dj;rw[←q] at this;exact Sj _ this
   have vE:=hs;obtain⟨S2,G2,l2⟩:=S.xM (s':={s1 with heap:=Ef})
    (fun b o hb e'=>(vE.2 b hb).trans (AW b o hb e')) (fun b y=>by cases y;exact fr) rfl rfl (QM _) (ae _) ((vE.2 _ GO).trans xN)
   refine J Eh (⟨_,G2,S2,⟨_,_,0,rfl,Wd.ak ..,⟨_,_,rfl,⟨t,rfl,KW⟩,_,_,rfl,rx.mono l2,rfl⟩,by simp;decide⟩, ?_⟩);exact ih (i+1) (.str key t) v _ {s1 with heap:=Ef} (Gq hk) ce (Wd.fq l2 (Wd.fq G.le hI)) ((hr.mono G.le).mono l2) nd (hlen▸xO) fr.1 (by simpa [Wd.put,Se GO] using fr.2)
  |_=>cases ht
theorem VT.values:VT n (.vw "dict_values" (.bw l)) H (l.map (·.2)) (fun _=>True,fun _=>True):=by
 refine .mk fun A s W v R S r Q q=> ?_;obtain⟨a,u,rfl,hv,⟨d,es,m,rfl,hI,hr,nd,hz,hs⟩⟩:=r;obtain⟨bc,hd,j4⟩:=dictOf (S.cq _ _ hI) hr nd;refine wpAny_pyIter_values ⟨_,S.cq _ _ hv,rfl,rfl⟩ hd (q _ (fun a=>a=s.heap.objs.size) _ W (Gr.cm W s _) (S.cm _) ?_);have fr:=S.fresh (ae s.heap);have hit:(s.heap.push {cls:= .type "dict_valueiterator",data:= .fields #[.ref d, .int 0 0, .int bc.length 0, .int m 0]}).IsValIter s.heap.objs.size d 0 l.length m:=by
  exact aO j4.length ((⟨_,Q0 _ rfl,rfl,rfl⟩))
 refine⟨fun b e=> ?_,fun X hX=>dS.values (fun x=>hX _ x rfl) _ 0 W _ rfl (Rr _) hI hr nd hit fr.1 fr.2,fun X hX A s1 W1 H1 G S1 Q q=> ?_⟩
 ·subst e;exact⟨ae _,fun e=>by obtain⟨o,ho,_⟩:=hit;exact absurd (ho.symm.trans e) nofun⟩
 ·have dj:s1.heap.IsValIter s.heap.objs.size d 0 l.length m:=by obtain⟨o,ho,r⟩:=hit;exact⟨o,G.heap _ _ ho fr.1 (fun x=>hX _ x rfl),r⟩
  exact wpAny_pyIter_valiter dj q
theorem VT.keys(vG:∀p∈l,p.1.length≤QW):VT n (.bw l) H (l.map fun p=>V.str p.1) (fun _=>True,fun _=>True):=by
 refine .mk fun A s W v R S r Q q=> ?_;obtain⟨d,es,m,rfl,hI,hr,nd,hz,hs⟩:=r;obtain⟨bc,hd,j4⟩:=dictOf (S.cq _ _ hI) hr nd;refine wpAny_pyIter_dict hs hd (q _ (fun a=>a=s.heap.objs.size) _ W (Gr.cm W s _) (S.cm _) ?_);have fr:=S.fresh (ae s.heap);have hit:(s.heap.push {cls:= .type "dict_keyiterator",data:= .fields #[.ref d, .int 0 0, .int bc.length 0, .int m 0]}).IsKeyIter s.heap.objs.size d 0 l.length m:=by
  exact aO j4.length ((⟨_,Q0 _ rfl,rfl,rfl⟩))
 refine⟨fun b e=> ?_,fun X hX=>dS.keys (fun x=>hX _ x rfl) vG _ 0 W _ rfl (Rr _) hI hr nd hit fr.1 fr.2,fun X hX A s1 W1 H1 G S1 Q q=> ?_⟩
 ·subst e;exact⟨ae _,fun e=>by obtain⟨o,ho,_⟩:=hit;exact absurd (ho.symm.trans e) nofun⟩
 ·have dj:s1.heap.IsKeyIter s.heap.objs.size d 0 l.length m:=by obtain⟨o,ho,r⟩:=hit;exact⟨o,G.heap _ _ ho fr.1 (fun x=>hX _ x rfl),r⟩
  exact wpAny_pyIter_keyiter dj q
theorem io:WG aac "dict_itemiterator.__iter__"=some Builtin.«dict_keyiterator.__iter__»:=
 entryFor_alias (id':="dict_keyiterator.__iter__") kr rfl (by decide+kernel) kr
theorem kz{s}{it d}{i m ep}{ok ov}{Q}(hit:IsItemIter s.heap it d i m ep ok ov)(h:Q (.ref it) s):wpAny (model prog w) A (VP (.ref it)) Q aX s:=by
 have hT:s.TypeIs (.ref it) "dict_itemiterator":=⟨_,hit,rfl⟩;refine wpAny_pyIter_slot hT F.slot_dict_itemiterator_iter (wpAny_call_entry F.slot_dict_itemiterator_iter hT io ?_ (F.args_dict_itemiterator_iter_1 _));exact QO ⟨_,rfl,"dict_itemiterator",_,hT,F.slot_dict_itemiterator_next.lookup,h⟩
theorem VT.items(vG:∀p∈l,p.1.length≤QW):VT n (.vw "dict_items" (.bw l)) H (cw l) (fun _=>True,fun t=>isTup t=true):=by
 refine .mk fun A s W v R S r Q q=> ?_;obtain⟨a,u,rfl,hv,⟨d,es,m,rfl,hI,hr,nd,hz,hs⟩⟩:=r;obtain⟨bc,hd,j4⟩:=dictOf (S.cq _ _ hI) hr nd;refine wpAny_pyIter_items ⟨_,S.cq _ _ hv,rfl,rfl⟩ hd (q _ (fun a=>a=s.heap.objs.size) _ W (Gr.cm W s _) (S.cm _) ?_);have fr:=S.fresh (ae s.heap);have hit:IsItemIter (s.heap.push {cls:= .type "dict_itemiterator",data:= .fields #[.none, .bool false, .ref d, .int 0 0, .int bc.length 0, .int m 0, .none, .none]}) s.heap.objs.size d 0 l.length m .none .none:=by
  exact aO j4.length ((Q0 _ rfl))
 refine⟨fun b e=> ?_,fun X hX=>dS.items (fun x=>hX _ x rfl) vG _ 0 .none .none W _ rfl (Rr _) hI hr nd hit fr.1 fr.2,fun X hX A s1 W1 H1 G S1 Q q=> ?_⟩
 ·subst e;exact⟨ae _,fun e=>absurd (hit.symm.trans e) nofun⟩
 ·exact kz (G.heap _ _ hit fr.1 (fun x=>hX _ x rfl)) q
end
section
variable{n:Nat}{F:Fx}{ρ am cU hJ ρ':Loc}{H H1 H2 H3 H4 H5 H6:AH}{g:Fl}
theorem aj.ints:∀{ns}{vs},aj W (ns.map V.int) vs→∃l:List (Int×Tok),vs=(l.map fun p=>Value.int p.1 p.2)∧l.map (·.1)=ns:=by
 intro rv
 induction rv with
 |nil=>
  intro _ h;cases h;exact⟨[],rfl,rfl⟩
 |cons i ns ih=>
  rintro _ ⟨v,us,e,⟨t,ev⟩,h⟩;obtain⟨l,e1,e2⟩:=ih h;subst e e1 ev;exact⟨(i,t)::l,rfl,by simp[e2]⟩
theorem CT.sum{ns:List Int}:CT n (.st (.builtin "sum")) [.lst (ns.map V.int)] [] H (.int ns.sum) H:= .mk fun A s W fv vs kv R S rf rx c7 _ Q q=>by
 cases rf;have:kv=[]:=by simpa using c7
 subst this;obtain⟨v,rfl,⟨a,us,m,rfl,hI,ru,_⟩⟩:=rx.one;obtain⟨l,e1,e2⟩:=ru.ints;have hl:s.heap.IsList a (intItems l.toArray):=by
  have:=aA S hI;rw[e1] at this;simpa [intItems] using this
 refine wpAny_toks (sum_intListG R.handled hl fun h' tk t' hk ht=> ?_);have e:preSum (numAt l.toArray) l.toArray.size=ns.sum:=by
  refine J (preSum_eq ..) (J (Su (by simp)) ?_);rw[e2]
 refine J e (q _ _ W ⟨W.le_refl,fun _ h=> .inl h,fun _ _ h=> .inl h,fun b o e _ _=>hk b o e,fun b h _=>br hk b h,rfl,fun _ _ h=>h⟩ (S.same (fun b o e _=>hk b o e) S.bare ht) ⟨t',rfl⟩)
theorem an.freeze(S:an W H s)(hk:W.φ[k]?=some a)(hI:W.I a=none)(ho:s.heap.get? a=some o):
  an (W.put a o) (H.set k none) s∧Gr cr W s (W.put a o) s∧W.le (W.put a o):=by
 have l:W.le (W.put a o):=Wd.lj hI;refine⟨⟨fun b p e=> ?_,fun b p e=>Wd.fq l (S.gr b p e),S.nodup,by refine J Sl ?_;exact S.len,S.lt,fun i ob e=> ?_,S.bare,S.tk,S.col⟩,⟨l,fun a m=> .inl m,fun b p e=> ?_,fun a p e _ _=>e,fun a h _=>h,rfl,fun _ _ h=>h⟩,l⟩
 ·by_cases hx:b=a
  ·subst hx;replace e:=(Wd.ak ..)▸e;cases e;exact ho
  ·exact S.cq b p (by simpa [Wd.put,hx] using e)
 ·have M3:i≠k:=fun q=>by
   subst q;by_cases ce:i<H.length
   ·replace e:=(SG ce)▸e;cases e
   ·rw[R2 (by rw[Sl];exact AN ce)] at e;cases e
  rw[Sr (Se M3)] at e;obtain⟨b,p,q,r⟩:=S.live i ob e;refine⟨b,p, ?_,eW l r⟩;have:b≠a:=fun z=>by
   subst z;have h1:=QY.mp hk;have h2:=QY.mp p;exact M3 (lx S.nodup h2.1 h1.1 (h2.2.trans h1.2.symm))
  simpa [Wd.put,this] using q
 ·by_cases hx:b=a
  ·exact .inr (.inl (by subst hx;exact RJ hk))
  ·exact .inl (by simpa [Wd.put,hx] using e)
noncomputable def AO.frozen:AO→Option V
 | .list l=>some (.lst l)
 | .dict l=>some (.bw l)
 | .sset _=>none
 | .inst _ _=>none
 | .ns _=>none
 | .tab _ _ _=>none
theorem an.lI(hm:∃o,bo SR=some o)(S:an W H s)(hk:H[k]?=some (some ob))(hx:ob.frozen=some x):
  ∃W',an W' (H.set k none) s∧Gr cr W s W' s∧W.le W'∧∀v,Rel W (.ref k) v→Rel W' x v:=by
 obtain⟨a,p,hI,r⟩:=S.live k _ hk;cases ob with
 |list l=>
  cases hx;refine QK fun kG=> ?_;obtain⟨vs,m,ho,r,hz⟩:=r;obtain⟨S',G',l'⟩:=S.freeze p hI ho;exact kG (⟨_,S',G',l',fun v ⟨b,e,pb⟩=>by replace pb:=p▸pb;cases pb;exact⟨a,vs,m,e,Wd.ak ..,r.mono l',hz⟩⟩)
 |dict l=>
  cases hx;obtain⟨es,m,ho,r,nd,hz⟩:=r;obtain⟨S',G',l'⟩:=S.freeze p hI ho;exact⟨_,S',G',l',fun v ⟨b,e,pb⟩=>by replace pb:=p▸pb;cases pb;exact⟨a,es,m,e,Wd.ak ..,r.mono l',nd,hz,oy hm S hI⟩⟩
 |_=>cases hx
theorem af.freeze(hm:∃o,bo SR=some o)(hk:H[k]?=some (some ob))(hx:ob.frozen=some x)
  (lJ:∀y z,ρ'.lookup y=some z→ρ.lookup y=some z∨(z=x∧ρ.lookup y=some (.ref k))) (h:af n F gp ρ' (H.set k none) g am H1):af n F gp ρ H g am H1:=by
 refine .mk fun A s W env R S E fr Q q=> ?_;obtain⟨W',S',G',l',hr⟩:=S.lI hm hk hx;have JE:=fr.step G';refine h.run A s W' env R S' E ?_ Q fun f s2 W2 G2 S2 f2 r2=>q f s2 W2 (G'.of.trans G2) S2 f2 r2;obtain⟨m,hn,FZ⟩:=fr.m;refine⟨⟨m,hn,fun y z e hl=> ?_⟩,fun y z e=> ?_,fun y z e hl=> ?_,JE.cells,JE.sep,JE.dC,JE.inj⟩
 ·rcases lJ y z e with q|⟨rfl,q⟩
  ·obtain⟨v,h1,h2⟩:=FZ y z q hl;exact⟨v,h1,h2.mono l'⟩
  ·obtain⟨v,h1,h2⟩:=FZ y _ q hl;exact⟨v,h1,hr v h2⟩
 ·refine QK fun kG=> ?_;rcases lJ y z e with q|⟨rfl,q⟩<;>refine kG ?_
  ·exact fr.kind y z q
  ·exact fr.kind y _ q
 ·rcases lJ y z e with q|⟨rfl,q⟩
  ·obtain⟨c,v,h1,h2,h3⟩:=fr.cell y z q hl;exact⟨c,v,h1,h2,h3.mono l'⟩
  ·obtain⟨c,v,h1,h2,h3⟩:=fr.cell y _ q hl;exact⟨c,v,h1,h2,hr v h3⟩
theorem CT.freeze{x f}{xs}{ks}(hm:∃o,bo SR=some o)(h:CT n f xs ks H (.ref k) H1)(hk:H1[k]?=some (some ob))(hx:ob.frozen=some x):CT n f xs ks H x (H1.set k none):=
 .mk fun A s W fv vs kv R S rf rx c7 se Q q=>h.run A s W fv vs kv R S rf rx c7 se Q fun v s1 W1 G1 S1 r1=>by
  obtain⟨W',S',G',l',hr⟩:=S1.lI hm hk hx;exact q v s1 W' (G1.trans G') S' (hr v r1)
mutual
noncomputable def V.dF(k:Nat):V→Bool
 | .tup l=>bD k l
 | .lst l=>bD k l
 | .bw l=>d7 k l
 | .ref i=>decide (i<k)
 | .bm _ x=>x.dF k
 | .pm _ x=>x.dF k
 | .vw _ x=>x.dF k
 | .raw _ x=>x.dF k
 | .none=>true
 | .bool _=>true
 | .int _=>true
 | .str _=>true
 | .lit _=>true
 | .st _=>true
 | .dst _=>true
noncomputable def bD(k:Nat):List V→Bool
 |[]=>true
 |x::l=>x.dF k&&bD k l
noncomputable def d7(k:Nat):List (Rj×V)→Bool
 |[]=>true
 |(_,x)::l=>x.dF k&&d7 k l
end
noncomputable def AO.dF(k:Nat):AO→Bool
 | .list l=>bD k l
 | .dict l=>d7 k l
 | .ns l=>d7 k l
 | .inst _ d=>decide (d<k)
 | .sset _=>true
 | .tab _ _ _=>true
noncomputable def Wd.cut(W:Wd)(k:Nat):Wd:=⟨W.φ.take k,W.I,W.C⟩
mutual
theorem Rel.cut{k}:∀{x}{v},x.dF k=true→Rel W x v→Rel (W.cut k) x v
 | .none,_=>fun _ r=>r
 | .bool _,_=>fun _ r=>r
 | .int _,_=>fun _ r=>r
 | .str _,_=>fun _ r=>r
 | .lit _,_=>fun _ r=>r
 | .tup _,_=>by rintro h ⟨a,vs,n,e,i,r,z⟩;exact⟨a,vs,n,e,i,aj.cut h r,z⟩
 | .lst _,_=>by rintro h ⟨a,vs,n,e,i,r,z⟩;exact⟨a,vs,n,e,i,aj.cut h r,z⟩
 | .bw _,_=>by rintro h ⟨a,vs,n,e,i,r,z,z2,z3⟩;exact⟨a,vs,n,e,i,d6.cut h r,z,z2,z3⟩
 | .ref i,_=>by
   rintro h ⟨a,e,p⟩;refine⟨a,e, ?_⟩;exact J WZ (J (if_pos (of_decide_eq_true h)) ((p)))
 | .st _,_=>fun _ r=>r
 | .bm _ _,_=>by rintro h ⟨a,u,e,i,r⟩;exact⟨a,u,e,i,Rel.cut h r⟩
 | .pm _ _,_=>by rintro h ⟨a,u,e,i,r⟩;exact⟨a,u,e,i,Rel.cut h r⟩
 | .vw _ _,_=>by rintro h ⟨a,u,e,i,r⟩;exact⟨a,u,e,i,Rel.cut h r⟩
 | .dst _,_=>fun _ r=>r
 | .raw _ _,_=>by rintro h ⟨a,o,u,e,i,p,r⟩;exact⟨a,o,u,e,i,p,Rel.cut h r⟩
theorem aj.cut{k}:∀{l}{vs},bD k l=true→aj W l vs→aj (W.cut k) l vs
 |[],_=>fun _ r=>r
 |_::_,_=>by
  rintro h ⟨v,r,e,a,b⟩;have h:=(Q5 _ _).mp h;exact⟨v,r,e,Rel.cut h.1 a,aj.cut h.2 b⟩
theorem d6.cut{k}:∀{l}{es},d7 k l=true→d6 W l es→d6 (W.cut k) l es
 |[],_=>fun _ r=>r
 |(_,_)::_,_=>by
  rintro h ⟨t,v,r,e,a,b⟩;have h:=(Q5 _ _).mp h;exact⟨t,v,r,e,Rel.cut h.1 a,d6.cut h.2 b⟩
end
theorem oz{l}:d7 k l=true→l.lookup x=some y→y.dF k=true:=by
 induction l with
 |nil=>intro _ h;cases h
 |cons p l ih=>
  intro h e;have h:=(Q5 _ _).mp h;replace e:=lookup_cons▸e;by_cases q:x=p.1
  ·replace e:=(if_pos q)▸e;cases e;exact h.1
  ·replace e:=(if_neg q)▸e;exact ih h.2 e
theorem Ei{k}{h}{a}{ob}(b:ob.dF k=true)(r:OA W h a ob):OA (W.cut k) h a ob:=by
 cases ob with
 |list=>obtain⟨vs,n,e,r,z⟩:=r;exact⟨vs,n,e,aj.cut b r,z⟩
 |dict=>obtain⟨vs,n,e,r,d,d2⟩:=r;exact⟨vs,n,e,d6.cut b r,d,d2⟩
 |sset=>exact r
 |inst _ d=>
  obtain⟨da,e,r⟩:=r;refine⟨da, ?_,r⟩;exact J WZ (J (if_pos (of_decide_eq_true b)) ((e)))
 |ns=>
  obtain⟨m,e,r⟩:=r;refine⟨m,e,fun x=>⟨(r x).1,fun y hy=> ?_⟩⟩;obtain⟨v,c,d⟩:=(r x).2 y hy;exact⟨v,c,Rel.cut (oz b hy) d⟩
 |tab=>exact r
theorem CT.drop{xs}{ks}{T}(h:CT n f xs ks H x (H1++T))(hl:H.length≤H1.length)(hx:x.dF H1.length=true)(hb:∀ob,some ob∈H1→ob.dF H1.length=true):CT n f xs ks H x H1:=
 .mk fun A s W fv vs kv R S rf rx c7 se Q q=>h.run A s W fv vs kv R S rf rx c7 se Q fun v s1 W1 G1 S1 r1=>by
  have hlen:(W1.φ.take H1.length).length=H1.length:=by
   refine J Vo (J S1.len (J QS ?_));lia
  have pX:W.φ<+:W1.φ.take H1.length:=by
   obtain⟨t,ht⟩:=G1.le.1;exact aO ht (J List.take_append (J (Su (S.len▸hl)) ((⟨_,rfl⟩))))
  refine q v s1 (W1.cut H1.length) ⟨⟨pX,G1.le.2.1,G1.le.2.2⟩,fun a m=>G1.cH a (Zb m),G1.gn,G1.heap,G1.there,G1.os,G1.gens⟩ ⟨S1.cq,S1.gr,S1.nodup.sublist (List.take_sublist ..),hlen,fun a m=>S1.lt a (Zb m),fun i ob e=> ?_,S1.bare,S1.tk,S1.col⟩ (Rel.cut hx r1);have hi:=(QY.mp e).1;obtain⟨a,p,hI,r⟩:=S1.live i ob ((RC hi)▸e);exact⟨a,by refine J WZ (J (if_pos hi) ?_);exact p,hI,Ei (hb ob (RJ e)) r⟩
end
noncomputable def V.nh(k:Nat)(x:V):Bool:=match x.data with
 |some d=>d.canLay0&&decide (d.depth≤k)
 |Option.none=>false
theorem V.nG{x:V}(h:x.nh k=true)(hk:k≤64):x.ok=true:=by
 delta V.nh at h;delta V.ok
 cases e:x.data with
 |none=>cases e▸h
 |some d=>
  replace h:=e▸h;simp only[Q5,decide_eq_true_eq] at h;simp only[TP,Q5,decide_eq_true_eq];exact⟨h.1,QU h.2 hk⟩
theorem lK:∀{l},l.all (V.nh k)=true→∃ds,ed l=some ds∧Tl ds=true∧TL ds≤k∧ds.length=l.length:=by
 intro rv
 induction rv with
 |nil=>
  intro _;exact⟨[],rfl,rfl,Rr _,rfl⟩
 |cons x l ih=>
  intro h;simp only[Sy,Q5] at h;refine QK fun kG=> ?_;obtain⟨ds,h1,h2,h3,h4⟩:=ih h.2;refine kG ?_;have hx:=h.1;unfold V.nh at hx;cases e:x.data with
  |none=>cases e▸hx
  |some d=>
   replace hx:=e▸hx;simp only[Q5] at hx;exact⟨d::ds,by refine J (eN ..) (J (e ..) (J (h1 ..) ?_));rfl,by simp[Tl,hx.1,h2],by simp only[TL];lia,by simp[h4]⟩
theorem V.kK{l}(h:l.all (V.nh k)=true):(V.lst l).nh (k+1)=true:=by
 obtain⟨ds,h1,h2,h3,_⟩:=lK h;have e:(V.lst l).data=some (.list ds):=by show(ed l).map _=_;exact congrArg _ h1
 delta V.nh
 refine J e ?_;show(Tl ds&&decide (TL ds+1≤k+1))=true;exact J (h2 ..) (J (Ul ..) (J (decide_eq_true_eq ..) ((a9 h3 (QM _)))))
theorem V.kL{l}(h:l.all (V.nh k)=true):(V.tup l).nh (k+1)=true:=by
 obtain⟨ds,h1,h2,h3,_⟩:=lK h;have e:(V.tup l).data=some (.tuple ds):=by show(ed l).map _=_;exact congrArg _ h1
 delta V.nh
 refine J e ?_;show(Tl ds&&decide (TL ds+1≤k+1))=true;exact J (h2 ..) (J (Ul ..) (J (decide_eq_true_eq ..) ((a9 h3 (QM _)))))
theorem V.fX(h:QZ x=true) k:(V.str x).nh k=true:=(Q5 _ _).mpr ⟨h,decide_eq_true (Rr k)⟩
theorem V.AX(h:QZ x=true) k:(V.lit x).nh k=true:=(Q5 _ _).mpr ⟨h,decide_eq_true (Rr k)⟩
theorem V.ux i k:(V.int i).nh k=true:=(Q5 _ _).mpr ⟨rfl,decide_eq_true (Rr k)⟩
theorem V.xQ k:V.none.nh k=true:=(Q5 _ _).mpr ⟨rfl,decide_eq_true (Rr k)⟩
theorem AY ds:TS (.list ds) (.list [])=ds.isEmpty:=by cases ds<;>rfl
section
variable{n:Nat}{F:Fx}{ρ am cU hJ ρ':Loc}{H H1 H2 H3 H4 H5 H6:AH}{g:Fl}
theorem OT.ne_nil(h:l.all (V.nh k)=true)(hk:autoParam (k<64) aD):OT (n+8) (RZ .NotEq) (.lst l) (.lst []) H (.bool (!l.isEmpty)) H:=by
 obtain⟨ds,h1,h2,h3,h4⟩:=lK h;have e:(!l.isEmpty)= !TS (.list ds) (.list []):=by refine J (AY ..) ?_;cases ds<;>cases l<;>simp_all
 refine J e (OT.ne (by show(ed l).map YW=_;exact h1▸rfl) rfl ?_ dc);show(Tl ds&&decide (TL ds+1≤64))=true;exact J (h2 ..) (J (Ul ..) (J (decide_eq_true_eq ..) ((ao (a9 h3 (QM _)) hk))))
theorem OT.kM(hz:l.length+l'.length≤QW):OT n (VQ .Add) (.lst l) (.lst l') H (.lst (l++l')) H:=by
 refine .mk fun A s W a b R S ra rb Q q=> ?_;obtain⟨a,us,m,rfl,hI,ru,_⟩:=ra;obtain⟨b,vs,m',rfl,KX,rv,_⟩:=rb;refine P.add_list (S.cq _ _ hI) (S.cq _ _ KX) ?_ (J Re (J Re (J ru.length (J rv.length ((hz))))));refine J (show us.toArray++vs.toArray=(us++vs).toArray from by simp) ?_;obtain⟨S2,G2⟩:=S.put (fO "list" (us++vs) 0);exact q _ _ _ G2 S2 ⟨_,_,0,rfl,Wd.ak ..,(ru.append rv).mono G2.le,by exact J QS hz⟩
theorem OT.Ej(hx:x.ok=true)(hy:y.ok=true)(hd:∀d,x.data=some d→gC H x=some d)(CX:∀d,y.data=some d→gC H y=some d):OT (n+8) (RZ .Eq) x y H (.bool (V.eqv x y)) H:=by
 refine QK fun kG=> ?_;obtain⟨dx,e1,s1⟩:=V.dP hx;obtain⟨dy,e2,s2⟩:=V.dP hy;refine kG ?_;have e:V.eqv x y=TS dx dy:=by delta V.eqv;rw[e1,e2]
 exact e▸OT.eq (hd _ e1) (CX _ e2) s1 s2
end
noncomputable def Go(M:Model)(A:Ta)(Φ:End→Ro→Prop)(c:Code)(t:Yp Fin)(fs:List aaR)(s:Ro):Prop:=
 ∀Γ p,Γ.code=c→Γ.Woken A→∃e s',Runs M Γ p t fs s e s'∧Φ e s'
section
variable{M:Model}{A:Ta}{Φ:End→Ro→Prop}{c:Code}{fs:List aaR}{s:Ro}
theorem cG{K}{H}{gd}{lv}
  (h:wpAny M (A.over c fs) m (fun a s'=>Go M A Φ c (K a) fs s') (fun x s'=>Go M A Φ c (H x) fs s') s):Go M A Φ c (m.wrap K H gd lv) fs s:=fun Γ p hc hw=>by
 subst hc;exact runs_wrap_of_wp K H gd lv m (h (Γ.over fs) p (hw.over fs)) (fun a p' s' k=>k Γ p' rfl hw) fun x p' s' k=>k Γ p' rfl hw
theorem eB{K}
  (h:wpAny M (A.over c fs) m (fun a s'=>Go M A Φ c (K a) fs s') (fun x s'=>Go M A Φ c (.raise x) fs s') s):Go M A Φ c (m>>=K) fs s:=by
 have:=cG (gd:=id) (lv:=id) h;rwa [←R4] at this
theorem nH{k}(h:Go M A Φ c (k ()) fs s):Go M A Φ c (.at p' k) fs s:=eB (wpAny_standAt h)
theorem xR{k}(h:Go M A Φ c (k ()) fs s):Go M A Φ c (.point l k) fs s:=
 cG (H:= .raise) (gd:=id) (lv:=fun _=>l) (wpAny_point h)
theorem uy{k}(hc:∀p,Go M A Φ c' (M.den c') (.ret k h g l c p []::fs) s):Go M A Φ c (.call c' h g l k) fs s:=fun Γ p e hw=>by
 subst e;obtain⟨e,s',a,b⟩:=hc p (Γ.goto c') p rfl (hw.goto c');exact⟨e,s',runs_call_seg a,b⟩
theorem uz{c₁}{AZ} r(hk:Go M A Φ c₁ (k r) fs s):Go M A Φ c (leafOf r) (.ret k h g l c₁ AZ kp::fs) s:=fun Γ p e hw=>by
 obtain⟨e,s',a,b⟩:=hk (Γ.goto c₁) AZ rfl (hw.goto c₁);exact⟨e,s',Runs.pop r a,b⟩
theorem i4(hq:c'.quiet=true)(hc:Go M A Φ c' (M.den c') fs s):Go M A Φ c (.pure (.again c')) fs s:=fun Γ p e hw=>by
 obtain⟨e,s',a,b⟩:=hc (Γ.goto c') p rfl (hw.goto c');exact⟨e,s',Runs.head (fun _ _ x=> .again hq x) a,b⟩
theorem Ek r(h:Φ (.ret r) s):Go M A Φ c (leafOf r) [] s:=fun _ _ _ _=>⟨.ret r,s,Runs.leaf r,h⟩
theorem xS(uA:splitAtGen fs=none)(h:∀p,Φ (.susp v g l k c p fs) s):Go M A Φ c (.yield v g l k) fs s:=fun Γ p e _=>by
 subst e;exact⟨_,s,Runs.yield' fs uA,h p⟩
noncomputable def Goes(M:Model)(A:Ta)(Φ:End→Ro→Prop)(gs:GenState)(s:Ro):Prop:=
 match gs with
 | .fresh c=>Go M A Φ c (M.den c) [] s
 | .suspended k _ c _ fs _=>Go M A Φ c (k (.send .none)) fs s
 |_=>False
theorem vH{g}{gs}{l}{α}{k}{Q:α→Ro→Prop}(hg:s.gens[g]?=some gs)(h:Goes M A Φ gs (s.setGen g .running))
  (hq:∀e s1,Φ e s1→e.quiet=true∧wpAny M A (k e.result) Q E (s1.setGen g e.genState)):wpAny M A (.resume g (.send .none) l k) Q E s:=by
 intro Γ p FV;refine J (Yp.wp_resume ..) ?_;have hB:=fun c=>FV.wake c p;cases gs with
 |fresh c=>
  refine QK fun kG=> ?_;obtain⟨e,s1,a,b⟩:=h (Γ.wake c p) p rfl (hB c);exact kG (⟨_,_,by delta Wakes;exact hg▸⟨e,s1,a,(hq e s1 b).1,rfl,rfl⟩,(hq e s1 b).2 Γ p FV⟩)
 |suspended Ot Ou c₀ KY M4 cl=>
  obtain⟨e,s1,a,b⟩:=h (Γ.wake c₀ p) KY rfl (hB c₀);exact⟨_,_,by delta Wakes;exact hg▸⟨e,s1,a,(hq e s1 b).1,rfl,rfl⟩,(hq e s1 b).2 Γ p FV⟩
 |running=>exact h.elim
 |finished=>exact h.elim
end
section
variable{A:Ta}{Φ:End→Ro→Prop}{s:Ro}
theorem nI{a}{g}{gs}{Q}(hh:A.handled=none)(hl:s.heap.NoLimit)(c6:A.depth<Y5)(hg:s.heap.IsGen a g)(El:s.gens[g]?=some gs)
  (A1:Goes (model prog w) A.in1 Φ gs (s.setGen g .running))
  (hq:∀e s1,Φ e s1→e.quiet=true∧match e with
   | .ret r=>r= .ok (.ret .none)∧∀h',(∀b o,s1.heap.get? b=some o→h'.get? b=some o)→Q none {s1.setGen g .finished with heap:=h'}
   | .susp v _ _ _ _ _ _=>Q (some v) (s1.setGen g e.genState)):
  wpAny (model prog w) A (Uk (.ref a)) Q E s:=by
 refine QL (Tr (RE hg.typeIs slot_gen_next
  (wpAny_call_entry slot_gen_next hg.typeIs entry_gen_next ?_ (args_gen_next _))))
 show wpAny _ _ (aag (.ref a) (.send .none)) _ _ s;refine QL (wpAny_holding (wpAny_genNumber hg (QL (wpAny_genState El ?_))));cases gs with
 |running=>exact A1.elim
 |finished=>exact A1.elim
 |_=>
  refine QL (wpAny_roomToWake hl c6 ?_);refine vH El A1 fun e s1 he=>⟨(hq e s1 he).1, ?_⟩;have h2:=(hq e s1 he).2;cases e with
  |ret x=>
   obtain⟨rfl,hp⟩:=h2;show wpAny _ _ (newExc (.type "StopIteration") []>>=_) _ _ _;refine QL (bN ?_ (by size_fits));refine QL (Sq (a:=SZ) rfl ?_);refine R5 ?_ (by size_fits);refine QL (QL (wpAny_handled ?_));refine J (hh) ?_;refine Xj ?_;exact bI ⟨_,Q0 _ rfl,rfl⟩ UN (QO (hp _ fun b o hb=>QT _ (QT _ hb)))
  |susp v g0 l0 k0 c0 p0 Qt=>exact QO ⟨v,rfl,QO h2⟩
end
section
variable{n:Nat}{F:Fx}{ρ am cU hJ:Loc}{H H1 H2 H3 H4 H5:AH}{g:Fl}
structure nJ(Z:Nat→Prop) X W s W'(s':Ro):Prop where
 step:Gr X W s W' {s' with gens:=s.gens}
 gens:∀i y,¬Z i→s.gens[i]?=some y→s'.gens[i]?=some y
theorem Gr.uB{s s'}(a:Gr X W s W' s') G:Gr X W {s with gens:=G} W' {s' with gens:=G}:=
 ⟨a.le,a.cH,a.gn,a.heap,a.there,a.os,fun _ _ h=>h⟩
theorem nJ.of{X}{W W'}{s s'}(a:Gr X W s W' s'):nJ Z X W s W' s':=⟨a.uB _,fun i y _ h=>a.gens i y h⟩
theorem nJ.trans{s s' dL}(a:nJ Z X W s W' s')(b:nJ Z X W' s' nC dL):nJ Z X W s nC dL:=
 ⟨a.step.trans (b.step.uB s.gens),fun i y z h=>b.gens i y z (a.gens i y z h)⟩
theorem nJ.weaken{W W'}{s s'}(a:nJ Z X W s W' s')(h:∀x,X x→Y x):nJ Z Y W s W' s':=⟨a.step.weaken h,a.gens⟩
theorem Gr.GP{X Y}{Z}{W W' nC}{s s' dL}(a:Gr Y W s W' s')(b:nJ Z X W' s' nC dL)(h:∀x,X x→s.heap.get? x≠none→Y x)
  (hz:∀i,Z i→s.gens[i]?=none):Gr Y W s nC dL:=by
 have c:=(a.uB s.gens).base (b.step.uB s.gens) h;refine⟨c.le,c.cH,c.gn,c.heap,c.there,c.os,fun i y e=>b.gens i y (fun z=> ?_) (a.gens i y e)⟩;cases(hz i z)▸e
theorem cQ.xT{W W'}{s s'}{ρ}{env}(f:cQ W ρ env s.heap)(G:nJ Z X W s W' s')(hl:¬X env.locals)(hc:∀n c,env.cells.lookup n=some c→¬X c):cQ W' ρ env s'.heap:=
 f.dh (s':={s' with gens:=s.gens}) G.step hl hc
noncomputable def gj(A:Ta)(P:PP)(Z:Nat→Prop)(X:TD→Prop)(it:Value)(Y:TD→Prop):List V→Wd→Ro→Prop
 |[],W,s=>∀s1 W1 H1,Gr X W s W1 s1→an W1 H1 s1→P.1 H1→(∀a,X a→s1.heap.get? a≠none)→
   wpAny (model prog w) A (Uk it) (fun r s2=>r=none∧∃W2,nJ Z Y W1 s1 W2 s2∧an W2 H1 s2) aX s1
 |x::xs,W,s=>∀s1 W1 H1,Gr X W s W1 s1→an W1 H1 s1→P.1 H1→(∀a,X a→s1.heap.get? a≠none)→
   wpAny (model prog w) A (Uk it) (fun r s2=>∃v,r=some v∧∀target,P.2 target→wpAny (model prog w) A (SI target it v)
    (fun _ s3=>∃W3,nJ Z Y W1 s1 W3 s3∧an W3 H1 s3∧Rel W3 x v∧gj A P Z X it Y xs W3 s3) aX s2) aX s1
theorem gj.step{it}{xs}{W W'}{s s'}(f:gj A P Z X it Y xs W s)(G:Gr X W s W' s'):gj A P Z X it Y xs W' s':=by
 cases xs with
 |nil=>exact fun s1 W1 H1 G1 S1 p x=>f s1 W1 H1 (G.trans G1) S1 p x
 |cons x xs=>exact fun s1 W1 H1 G1 S1 p x=>f s1 W1 H1 (G.trans G1) S1 p x
noncomputable abbrev Em(n:Nat)(F:Fx)(P:PP)(target:SD)(body orelse:List U3)(xs:List V)(ρ:Loc)(H:AH)(f:Fl)(ρ':Loc)(H':AH):Prop:=∀A s W env it Z Y,aB A n→an W H s→az F env→cQ W ρ env s.heap→
    (¬Y env.locals)→(∀n c,env.cells.lookup n=some c→¬Y c)→gj A P Z (own env) it Y xs W s→
    ∀Q:Flow→Ro→Prop,(∀g s' W',nJ Z (fun a=>own env a∨Y a) W s W' s'→an W' H' s'→cQ W' ρ' env s'.heap→f.rel W' g→Q g s')→
     SM (model prog w) A (.forLoop target it body orelse env) (fun r s'=>∃g,r= .ok g∧Q g s') s
@[irreducible] noncomputable def i5 (n:Nat) (F:Fx) (P:PP) (target:SD) (body orelse:List U3) (xs:List V) (ρ:Loc) (H:AH) (f:Fl) (ρ':Loc) (H':AH):Prop:=Em n F P target body orelse xs ρ H f ρ' H'
theorem i5.mk{n F P target body orelse xs ρ H f ρ' H'}(h:Em n F P target body orelse xs ρ H f ρ' H'):i5 n F P target body orelse xs ρ H f ρ' H':=by delta i5;exact h
theorem i5.run{n F P target body orelse xs ρ H f ρ' H'}(h:i5 n F P target body orelse xs ρ H f ρ' H'):Em n F P target body orelse xs ρ H f ρ' H':=by delta i5 at h;exact h
theorem i5.nil{body orelse}(hp:P.1 H)(h:af n F orelse ρ H g am H1):i5 n F P target body orelse [] ρ H g am H1:=by
 refine .mk fun A s W env it Z Y R S E fr hl hc fd Q q=>(R7 ?_);refine Tv (dg fun Q' E' qq _=> ?_);refine bA (QL (T8 (Ri (fd s W H (Gr.refl ..) S hp fr.cF) (fun r s1 h1=> ?_) fun _ _ e=>e.elim)));obtain⟨rfl,W1,G1,S1⟩:=h1;refine QO (qq _ _ ⟨rfl,codeAny_block (lC (h.run A s1 W1 env R S1 E (fr.xT G1 hl hc) _ fun fl s2 W2 G2 S2 f2 r2=>⟨fl,rfl,q fl s2 W2 ?_ S2 f2 r2⟩))⟩);exact(G1.weaken fun x h=> .inr h).trans ((nJ.of G2).weaken fun x h=> .inl h)
theorem i5.cons{x}{xs}(hp:P.1 H)(hT:P.2 target)(ht:AT n F target x ρ H am H1)(hb:af n F body am H1 .next cU H2)
  (h:i5 n F P target body orelse xs cU H2 g hJ H3):i5 n F P target body orelse (x::xs) ρ H g hJ H3:=by
 refine .mk fun A s W env it Z Y R S E fr hl hc fd Q q=>(R7 ?_);refine Tv (dg fun Q' E' qq _=> ?_);refine bA (QL (T8 (Ri (fd s W H (Gr.refl ..) S hp fr.cF) (fun r s1 h1=> ?_) fun _ _ e=>e.elim)));obtain⟨v,rfl,h1⟩:=h1;refine QL (Ri (h1 target hT) (fun _ s2 h2=> ?_) fun _ _ e=>e.elim);refine QK fun kG=> ?_;obtain⟨W2,G2,S2,r2,xw⟩:=h2;refine kG (QL (lC (ht.run A s2 W2 env v R S2 E (fr.xT G2 hl hc) r2 _ fun s3 W3 G3 S3 f3=> ?_)));refine QL (lC (hb.run A s3 W3 env R S3 E f3 _ fun fl s4 W4 G4 S4 f4 r4=> ?_));cases r4;refine QO (qq _ _ ⟨rfl,h.run A s4 W4 env it Z Y R S4 E f4 hl hc (xw.step (G3.trans G4)) Q fun fl s5 W5 G5 S5 f5 r5=>q fl s5 W5 ?_ S5 f5 r5⟩);exact((G2.weaken fun x h=> .inr h).trans ((nJ.of (G3.trans G4)).weaken fun x h=> .inl h)).trans G5
theorem i5.xU{x y}{xs}(hp:P.1 H)(hT:P.2 target)(ht:AT n F target x ρ H am H1)(hb:af n F body am H1 (.ret y) cU H2):
  i5 n F P target body orelse (x::xs) ρ H (.ret y) cU H2:=by
 refine .mk fun A s W env it Z Y R S E fr hl hc fd Q q=>(R7 ?_);show wpAny _ A ((forTurn target it body orelse env).onRaise (fun x=>do noteFrame x env;WO x)) _ _ s;refine Tv (dg fun Q' E' qq _=> ?_);refine bA (QL (T8 (Ri (fd s W H (Gr.refl ..) S hp fr.cF) (fun r s1 h1=> ?_) fun _ _ e=>e.elim)));obtain⟨v,rfl,h1⟩:=h1;refine QL (Ri (h1 target hT) (fun _ s2 h2=> ?_) fun _ _ e=>e.elim);refine QK fun kG=> ?_;obtain⟨W2,G2,S2,r2,xw⟩:=h2;refine kG (QL (lC (ht.run A s2 W2 env v R S2 E (fr.xT G2 hl hc) r2 _ fun s3 W3 G3 S3 f3=> ?_)));refine QL (Ri (hb.run A s3 W3 env R S3 E f3 (fun fl s4=>∃v,fl= .ret v∧∃W4,Gr (own env) W3 s3 W4 s4∧an W4 H2 s4∧cQ W4 cU env s4.heap∧Rel W4 y v) fun fl s4 W4 G4 S4 f4 r4=>let⟨v,e,r⟩:=r4;⟨v,e,W4,G4,S4,f4,r⟩) (fun fl s4 h4=> ?_) fun _ _ e=>e.elim);refine QK fun kG=> ?_;obtain⟨u,rfl,W4,G4,S4,f4,r4⟩:=h4;refine kG (QO (qq _ _ ⟨_,rfl,q _ s4 W4 ?_ S4 f4 ⟨u,rfl,r4⟩⟩));exact(G2.weaken fun x h=> .inr h).trans ((nJ.of (G3.trans G4)).weaken fun x h=> .inl h)
noncomputable abbrev En(n:Nat)(F:Fx)(e:SD)(ρ:Loc)(H:AH)(xs:List V)(P:PP)(H':AH):Prop:=∀A s W env,aB A n→an W H s→az F env→cQ W ρ env s.heap→
    ∀Q,(∀it s' W',Gr cr W s W' s'→an W' H' s'→
      (∀X,(∀a,X a→s.heap.get? a≠none)→gj A P (fun i=>s.gens[i]?=none) X it (fun a=>s.heap.get? a=none) xs W' s')→Q it s')→
     wpAny (model prog w) A (eval e env) (fun x s1=>wpAny (model prog w) A (VP x) Q aX s1) aX s
@[irreducible] noncomputable def xV (n:Nat) (F:Fx) (e:SD) (ρ:Loc) (H:AH) (xs:List V) (P:PP) (H':AH):Prop:=En n F e ρ H xs P H'
theorem xV.mk{n F e ρ H xs P H'}(h:En n F e ρ H xs P H'):xV n F e ρ H xs P H':=by delta xV;exact h
theorem xV.run{n F e ρ H xs P H'}(h:xV n F e ρ H xs P H'):En n F e ρ H xs P H':=by delta xV at h;exact h
theorem M5.for{target iter}{body orelse}{pos}{xs}(hi:xV n F iter ρ H xs P H1)(h:i5 n F P target body orelse xs ρ H1 g am H2)
  (hs:autoParam (∀env x,Sv iter env x=pure x) aI):XT n F (.For target iter body orelse pos) ρ H g am H2:=by
 refine .mk fun A s W env R S E fr Q q=>(wpAny_For ?_ (hs env));refine Ri (hi.run A s W env R S E fr (fun it s'=>SM (model prog w) A (.forLoop target it body orelse env) (fun r s'=>∃g,r= .ok g∧Q g s') s')
  fun it s1 W1 G1 S1 c=> ?_) (fun x s1 h1=>Ri h1 (fun it s2 h2=>T6 h2 fun r s' h3=> ?_) fun _ _ e=>e) fun _ _ e=>e
 ·obtain⟨m,hn,_⟩:=fr.m;refine h.run A s1 W1 env it _ _ R S1 E (fr.step G1) (cg hn) (fun x c hc=>(fr.dC x c hc).2.2.2) (c (own env) fun a o=>fr.cF a o) Q fun g s2 W2 G2 S2 f2 r2=>q g s2 W2 ?_ S2 f2 r2;exact(G1.of).GP G2 (fun x h hx=>h.elim id fun y=>absurd y hx) fun i h=>h
 ·obtain⟨g,rfl,h3⟩:=h3;exact h3
end
section
variable{M:Model}{A:Ta}{Φ:End→Ro→Prop}{c:Code}{fs:List aaR}{s:Ro}{env:Env}
 {K:Flow→Yp Fin} {H:Value→Yp Fin} {gd:Bool→Bool} {lv:List Value→List Value}
noncomputable abbrev xW(env:Env)(K:Flow→Yp Fin)(H:Value→Yp Fin)(gd:Bool→Bool)(lv:List Value→List Value):Result→Yp Fin:=
 fun r=>((match r with| .ok f=>(.pure f:Yp Flow)| .error e=> .raise e).onRaise fun x=>do
    if(←field x 1)==SZ then Wg "frame.own-activation:exception-without-traceback"
    setFlight x env.frame).wrap K H gd lv
theorem vI(h:∀p,Go M A Φ c' (M.den c') (.ret (xW env K H gd lv) none (gd false) (lv []) c p []::fs) s):
  Go M A Φ c ((runOwn c' env).wrap K H gd lv) fs s:=uy h
theorem Eo{target iter}{body orelse}{pos}(hs:∀x,Sv iter env x=pure x)
  (h:wpAny M (A.over c fs) (eval iter env) (fun x ch=>wpAny M (A.over c fs) (VP x) (fun it fW=>
   ∀p,Go M A Φ (.forLoop target it body orelse env) (M.den (.forLoop target it body orelse env)) (.ret (xW env K H gd lv) none (gd false) (lv []) c p []::fs) fW) aX ch) aX s):
  Go M A Φ c ((exec (.For target iter body orelse pos) env).wrap K H gd lv) fs s:=by
 refine nH (J (R4 ..) (J (SP ..) ?_));refine cG (Ri h (fun x ch cI=> ?_) fun _ _ e=>e.elim);refine J (hs x) (nH ?_);exact J (R4 ..) (J (SP ..) ((cG (wpAny_holding (Ri cI (fun it fW oA=>vI oA) fun _ _ e=>e.elim)))))
end
section
variable{A:Ta}{Φ:End→Ro→Prop}{fs:List aaR}{s:Ro}{env:Env}
noncomputable abbrev GQ(env:Env):Value→Yp Fin:=fun e=>(do noteFrame e env;WO e:Yp Unit).bind fun _=> .raise e
theorem lL
  (h:wpAny (model prog w) (A.over (.forLoop target it body orelse env) fs) (Uk it) (fun r s'=>match r with
    |none=>Go (model prog w) A Φ (.block orelse env) ((model prog w).den (.block orelse env)) fs s'
    |some v=>wpAny (model prog w) (A.over (.forLoop target it body orelse env) fs) (SI target it v) (fun _ s1=>
      wpAny (model prog w) (A.over (.forLoop target it body orelse env) fs) (Xa target env v) (fun _ s2=>
       Go (model prog w) A Φ (.forLoop target it body orelse env) ((execs body env).wrap (fun f=>match f with
        | .next| .cont=> .pure (.again (.forLoop target it body orelse env))
        | .brk=> .pure (.done .next)
        | .ret v=> .pure (.done (.ret v))) (GQ env) id id) fs s2) aX s1) aX s') aX s):
  Go (model prog w) A Φ (.forLoop target it body orelse env) ((model prog w).den (.forLoop target it body orelse env)) fs s:=by
 show Go _ A Φ _ ((forTurn target it body orelse env).onRaise (fun x=>do noteFrame x env;WO x)) fs s;refine J (Zv ..) (nH ?_);refine J (R4 ..) (J (SP ..) ?_);refine cG (T8 (Ri h (fun r s' h'=> ?_) fun _ _ e=>e.elim));cases r with
 |none=>
  exact i4 rfl h'
 |some v=>
  show Go _ A Φ _ ((SI target it v>>=fun _=>Xa target env v>>=fun _=>execs body env>>=fun f=>_).wrap _ _ _ _) fs s';refine J (R4 ..) (J (SP ..) ?_);refine cG (Ri h' (fun _ s1 h1=> ?_) fun _ _ e=>e.elim);refine J (R4 ..) (J (SP ..) ?_);refine cG (Ri h1 (fun _ s2 h2=> ?_) fun _ _ e=>e.elim);refine J (R4 ..) (J (SP ..) ?_);rw[aaX (execs body env) _ _ (K':=fun f=>match f with
        | .next| .cont=> .pure (.again (.forLoop target it body orelse env))
        | .brk=> .pure (.done .next)
        | .ret v=> .pure (.done (.ret v))) (fun f=>by cases f<;>rfl) (fun e=>by rfl)]
  exact h2
theorem vJ{c₁}{AZ}{K}{H}{gd}{lv}{h}{g}{l kp}{f}
  (hk:Go (model prog w) A Φ c₁ (K f) fs s):Go (model prog w) A Φ c (.pure (.done f)) (.ret (xW env K H gd lv) h g l c₁ AZ kp::fs) s:=
 uz (.ok f) (hk)
theorem oB(h:Go (model prog w) A Φ (.block [] env) (.pure (.done .next)) fs s):
  Go (model prog w) A Φ (.block [] env) ((model prog w).den (.block [] env)) fs s:=h
theorem GR{K}{H}{gd}{lv}{test}{body orelse}{pos}
  (h:wpAny (model prog w) (A.over c fs) (isTrue test env (eval test env)) (fun b s'=>
    if b=true then Go (model prog w) A Φ c ((execs body env).wrap K H gd lv) fs s' else Go (model prog w) A Φ c ((execs orelse env).wrap K H gd lv) fs s') aX s):
  Go (model prog w) A Φ c ((exec (.If test body orelse pos) env).wrap K H gd lv) fs s:=by
 refine nH (J (R4 ..) (J (SP ..) ?_));refine cG (Ri h (fun b s1 h1=> ?_) fun _ _ e=>e.elim);cases b with
 |true=>exact h1
 |false=>exact h1
theorem i6{K}{H}{gd}{lv}(h:Go (model prog w) A Φ c (K .next) fs s):Go (model prog w) A Φ c ((execs [] env).wrap K H gd lv) fs s:=h
theorem fh{K}{H}{gd}{lv}{st}{rest}
  (h:Go (model prog w) A Φ c ((exec st env).wrap (fun f=>match f with| .next=>(execs rest env).wrap K H gd lv|f=>K f) H gd lv) fs s):
  Go (model prog w) A Φ c ((execs (st::rest) env).wrap K H gd lv) fs s:=J (execs_cons_wrap ..) ((h))
theorem A2
  (h:Go (model prog w) A Φ (.func body env) ((execs body env).wrap (fun f=> .pure (.done (.ret (match f with| .ret v=>v|_=> .none))))
   (fun e=>(leaving env e).wrap (fun _=> .raise e) .raise id id) id id) fs s):
  Go (model prog w) A Φ (.func body env) ((model prog w).den (.func body env)) fs s:=by
 refine xR (J (Zv ..) (J (R4 ..) (J (SP ..) ?_)));rw[aaX (execs body env) _ _ (K':=fun f=> .pure (.done (.ret (match f with| .ret v=>v|_=> .none))))
  (fun f=>by cases f<;>rfl)
  (fun e=>by refine J (Yp.bind_eq_wrap ..) (J (SP ..) ?_);rfl)]
 exact h
end
section
variable{A:Ta}{Φ:End→Ro→Prop}{fs:List aaR}{s:Ro}{env:Env}{c:Code}
 {K:Flow→Yp Fin} {H:Value→Yp Fin} {gd:Bool→Bool} {lv:List Value→List Value}
noncomputable abbrev Ov(value:SD)(xX pos:Pos)(K:Flow→Yp Fin)(H:Value→Yp Fin)(gd:Bool→Bool)(lv:List Value→List Value):Result→Yp Fin:=
 fun r=>(((match r with| .ok f=>(.pure f:Yp Flow)| .error e=> .raise e).bind fun f=>match f with| .ret v=>(pure v:Yp Value)|_=>Wg "internal:call-without-return-value"):Yp Value).wrap
  (fun v=>(dropValue (.YieldFrom value xX) pos v).wrap K H gd lv) (fun e=>(Yp.raise e:Yp Flow).wrap K H gd lv) gd lv
theorem oC(hi:aay env=false)
  (h:wpAny (model prog w) (A.over c fs) (eval value env) (fun v ch=>∃T,ch.TypeIs v T∧(T=="coroutine")=false∧wpAny (model prog w) (A.over c fs) (VP v) (fun it fW=>
   ∀p,Go (model prog w) A Φ (.builtin "proto.yield_from" ⟨[it, .bool false, .none],[]⟩) ((model prog w).den (.builtin "proto.yield_from" ⟨[it, .bool false, .none],[]⟩))
    (.ret (Ov value xX pos K H gd lv) none (gd false) (lv []) c p []::fs) fW) aX ch) aX s):
  Go (model prog w) A Φ c ((exec (.Expr (.YieldFrom value xX) pos) env).wrap K H gd lv) fs s:=by
 refine J (exec_Expr env _ _ hi rfl) ?_;show Go _ A Φ c (.at pos fun _=>((eval value env>>=fun v=>(standAt xX>>=fun _=>yieldFrom env v))>>=fun x=>dropValue (.YieldFrom value xX) pos x).wrap K H gd lv) fs s;refine nH (J (R4 ..) (J (R4 ..) (J (SP ..) (J (SP ..) ?_))));refine cG (Ri h (fun v ch cI=> ?_) fun _ _ e=>e.elim);refine QK fun kG=> ?_;obtain⟨T,hT,aU,cI⟩:=cI;refine kG (nH ?_)
 delta yieldFrom
 refine J (R4 ..) (J (SP ..) ?_);refine cG (ZR hT ?_);have e:(Wc T==Wc "coroutine")=false:=by simpa using aU
 refine J e ?_;show Go _ A Φ c (Yp.wrap _ _ _ _ (holding [v] (VP v)>>=fun it=>runValue (.builtin "proto.yield_from" ⟨[it, .bool false, .none],[]⟩))) fs ch;refine J (R4 ..) (J (SP ..) ?_);refine cG (wpAny_holding (Ri cI (fun it fW oA=> ?_) fun _ _ e=>e.elim));exact uy oA
end
section
variable{A:Ta}{Φ:End→Ro→Prop}{fs:List aaR}{s:Ro}
noncomputable abbrev sD(it:Value):Code:= .builtin "proto.yield_from" ⟨[it, .bool false, .none],[]⟩
theorem xY:WG aac "proto.yield_from"=some Builtin.«proto.yield_from»:=Yn rfl
theorem i7:Vj (.type "list_iterator") "close"=pure none:=rfl
theorem pY{id}{args}{b}(hb:WG aac id=some b):(model prog w).den (.builtin id args)=b args:=by
 show(match WG aac id with|some b=>b args|none=>Wg ((withoutEnding? id "#data").getD id))=_;rw[hb]
theorem xZ it:(model prog w).den (sD it)=Builtin.«proto.yield_from» ⟨[it, .bool false, .none],[]⟩:=pY xY
noncomputable def M6 it:{p:Yp Value×(Except Value Value→Yp PySem.Fin)//Builtin.«proto.yield_from» ⟨[it, .bool false, .none],[]⟩=p.1.attempt>>=p.2}:=⟨(_,_),rfl⟩
theorem lM{it}{b}{o}{Q}{E}(ho:s.heap.get? it=some o)(hc:o.cls= .type "list_iterator")(h:Q () s):
  wpAny (model prog w) B (Wj (.ref it) b) Q E s:=by
 exact bL ho (hc▸QO h)
theorem sE(hit:s.heap.IsListIter it l i)(hl:s.heap.IsList l items)(hx:items[i]?=some x)(uA:splitAtGen fs=none)
  (h:∀h',h'.IsListIter it l (i+1)→Sm it s.heap h'→∀k p,(∀JF dL j,dL.heap.IsListIter it l j→Go (model prog w) A JF (sD (.ref it)) ((model prog w).den (sD (.ref it))) fs dL→Go (model prog w) A JF (sD (.ref it)) (k (.send .none)) fs dL)→
   Φ (.susp x false [] k (sD (.ref it)) p fs) {s with heap:=h'}):
  Go (model prog w) A Φ (sD (.ref it)) ((model prog w).den (sD (.ref it))) fs s:=by
 refine J (xZ ..) (J ((M6 _).2) (J (R4 ..) ?_));refine cG (Tr (bR (QL (RE hit.typeIs V1
  (wpAny_call_entry V1 hit.typeIs aaE ?_ (aaW _))))))
 refine QK fun kG=> ?_;obtain⟨o,ho,hc,hd⟩:=id hit;obtain⟨ol,Ep,_,nl,A3⟩:=hl;refine kG (bF ho hd (x:= .ref l) rfl ?_);refine J (if_neg (Ry)) ?_;refine bF ho hd (x:= .int i 0) rfl ?_;refine bS Ep A3 ?_;simp only[Us,hx];refine bU ho hd (QM _) (QO ⟨x,rfl,QO ?_⟩);generalize hh:s.heap.update it (V3 fun x=>x.setIfInBounds 1 (SX (↑i+1)))=h1;have lN:h1.IsListIter it l (i+1):=by
  subst hh;exact⟨_,RT _ ho (Y8 (VM hd _)),(Z1 ..).trans hc,by rw[VM hd];rfl⟩
 have un:Sm it s.heap h1:=by subst hh;exact Rz ..
 refine eB (ZR (aaP lN) ?_);refine eB (Sq i7 ?_);refine eB (QO ?_);obtain⟨o1,x2,KZ,JG⟩:=id lN;refine eB (lM x2 KZ ?_);refine xS uA fun p=>h h1 lN un _ p fun JF dL j hj hs=>(QK fun kG=> ?_);obtain⟨o2,sA,sB,hd2⟩:=id hj;refine kG ?_;show Go _ A JF _ (Wj (.ref it) false>>=fun _=>_) fs dL;refine eB (lM sA sB ?_);exact i4 (W9 _ (by decide+kernel)) hs
end
section
variable{A:Ta}{Φ:End→Ro→Prop}{fs:List aaR}{s:Ro}
theorem vK(hH:(A.over (sD (.ref it)) fs).handled=none)(hit:s.heap.IsListIter it l i)(hl:s.heap.IsList l items)(hx:items[i]?=none)
  (h:∀h',U0 it s.heap h'→Go (model prog w) A Φ (sD (.ref it)) (.pure (.done (.ret .none))) fs {s with heap:=h'}):
  Go (model prog w) A Φ (sD (.ref it)) ((model prog w).den (sD (.ref it))) fs s:=by
 refine J (xZ ..) (J ((M6 _).2) (J (R4 ..) ?_));refine cG (Tr (bR (QL (RE hit.typeIs V1
  (wpAny_call_entry V1 hit.typeIs aaE ?_ (aaW _))))))
 refine QK fun kG=> ?_;obtain⟨o,ho,hc,hd⟩:=id hit;obtain⟨ol,Ep,_,nl,A3⟩:=hl;refine kG (bF ho hd (x:= .ref l) rfl ?_);refine J (if_neg (Ry)) ?_;refine bF ho hd (x:= .int i 0) rfl ?_;refine bS Ep A3 ?_;simp only[Us,hx];refine bR (bU ho hd (Sh _) ?_);refine QL (bN ?_ (by size_fits));refine QL (Sq (a:=SZ) rfl ?_);refine R5 ?_ (by size_fits);refine bH ?_;refine J (hH) ?_;refine Xj (eB ?_);refine QL (bT ⟨_,Q0 _ rfl,rfl⟩ ?_);refine bE UN (bE rfl (QO ?_));refine QO (eB (wpAny_rule ?_));refine eB (YD (x:=SZ) (Q0 _ rfl) rfl rfl ?_);exact h _ fun b o' hb e=>(QT _ (QT _ ((RL _ _ (Se hb)).trans e)))
end
section
variable{n:Nat}{F:Fx}{ρ:Loc}{H H1 H2 H3 H4:AH}
noncomputable abbrev K2(n:Nat)(f:V)(xs:List V)(H:AH)(ys:List V)(P:PP)(H':AH):Prop:=∀A s W fv vs,aB A n→an W H s→Rel W f fv→aj W xs vs→
    ∀Q,(∀it s' W',Gr cr W s W' s'→an W' H' s'→
      (∀X,(∀a,X a→s.heap.get? a≠none)→gj A P (fun i=>s.gens[i]?=none) X it (fun a=>s.heap.get? a=none) ys W' s')→Q it s')→
     wpAny (model prog w) A (call fv vs []) (fun x s1=>wpAny (model prog w) A (VP x) Q aX s1) aX s
@[irreducible] noncomputable def CG (n:Nat) (f:V) (xs:List V) (H:AH) (ys:List V) (P:PP) (H':AH):Prop:=K2 n f xs H ys P H'
theorem CG.mk{n f xs H ys P H'}(h:K2 n f xs H ys P H'):CG n f xs H ys P H':=by delta CG;exact h
theorem CG.run{n f xs H ys P H'}(h:CG n f xs H ys P H'):K2 n f xs H ys P H':=by delta CG at h;exact h
theorem gj.mono{Z Z'}{X Y Y'}{it}(hz:∀i,Z i→Z' i)(hy:∀a,Y a→Y' a):∀{xs}{W}{s},gj A P Z X it Y xs W s→gj A P Z' X it Y' xs W s:=by
 intro rv
 induction rv with
 |nil=>
  intro _ _ f;exact fun s1 W1 H1 G1 S1 p hx=>Ri (f s1 W1 H1 G1 S1 p hx) (fun _ _ ⟨e,W2,G2,S2⟩=>⟨e,W2,⟨G2.step.weaken hy,fun i y z=>G2.gens i y fun q=>z (hz i q)⟩,S2⟩) fun _ _ e=>e
 |cons x xs ih=>
  intro _ _ f;exact fun s1 W1 H1 G1 S1 p hx=>Ri (f s1 W1 H1 G1 S1 p hx) (fun _ _ ⟨v,e,h⟩=>⟨v,e,fun t ht=>Ri (h t ht)
   (fun _ _ ⟨W3,G3,S3,r3,f3⟩=>⟨W3,⟨G3.step.weaken hy,fun i y z=>G3.gens i y fun q=>z (hz i q)⟩,S3,r3,ih f3⟩) fun _ _ e=>e⟩) fun _ _ e=>e
theorem xV.aQ{apos pos}{x f}{first xs ys}{P}(ho:ET n F o ρ H x H1)(hg:GM n x name H1 f first H2)(ha:ab n F pos args ρ H2 xs H3)
  (hk:aL f) (hc:CG n f (first++xs) H3 ys P H4)
  (pl:Env→Yp Bool:=fun env=>(do return (←YF o env).getD true))
  (he:autoParam (∀env,eval (.Call (.Attribute o name apos) args [] pos) env=(do
   let ov ←eval o env
   standAt apos.atName
   let(f,first) ←holding [ov] (Yw ov name (pl env))
   Uo pos f first (backTo pos (starEach args env)) [])) aI)
  (hp:autoParam (∀env,(backTo pos (starEach args env)).any (·.1)=false) aI):xV n F (.Call (.Attribute o name apos) args [] pos) ρ H ys P H4:=by
 refine .mk fun A s W env R S E fr Q q=>(MethodCall_ (ho.run A s W env R S E fr _ fun ov s1 W1 G1 S1 r1=>hg.run A s1 W1 ov _ R S1 r1 _ fun fv fs s2 W2 G2 S2 r2 r3=> ?_) (he env));refine Uq (P:=Kp fv) (by simp[hp env]) (fun _ h=>h) (cu ha R S2 E ((fr.step G1).step G2) (hp env) fun vs s3 W3 G3 S3 r4=>⟨hk.run s3 W3 _ fv S3 (r2.mono G3.le), ?_⟩);have G:=(G1.trans G2).trans G3;refine hc.run A s3 W3 fv (fs++vs) R S3 (r2.mono G3.le) ((r3.mono G3.le).append r4) Q fun it s4 W4 G4 S4 c=>q it s4 W4 (G.trans G4) S4 fun X hX=>(gj.mono (fun i z=> ?_) (fun a y=>(G.back y).resolve_right id) (c X fun a x=>G.there a (hX a x) id));cases e:s.gens[i]? with
 |none=>rfl
 |some y=>cases(G.gens i y e)▸z
end
section
variable{n:Nat}{H:AH}
theorem jB{s:Ro}{g i}{x}(h:i≠g):(s.setGen g x).gens[i]?=s.gens[i]?:=by
 show(s.gens.setIfInBounds g x)[i]?=_;rw[Array.getElem?_setIfInBounds_ne (Se h)]
theorem setGen_self{s:Ro}{g}{x y}(h:s.gens[g]?=some y):(s.setGen g x).gens[g]?=some x:=by
 refine J Array.getElem?_setIfInBounds_self ?_;simp[(TC.mp h).1]
theorem j5{s:Ro}{g}{x}(h:aab s.gens)(hx:x.bare=true):aab (s.setGen g x).gens:=by
 intro y hy;obtain⟨i,hi⟩:=YM.mp hy;by_cases e:i=g
 ·subst e;cases q:s.gens[i]? with
  |none=>
   have:(s.setGen i x).gens[i]?=none:=by
    show(s.gens.setIfInBounds i x)[i]?=_;simpa using q
   cases this▸hi
  |some z=>replace hi:=(setGen_self q)▸hi;cases hi;exact hx
 ·rw[jB e] at hi;exact h y (YM.mpr ⟨i,hi⟩)
theorem an.setGen(S:an W H s) g{x}(hx:x.bare=true):an W H (s.setGen g x):=
 S.same (fun _ _ e _=>e) (j5 S.bare hx)
theorem Gr.GS{W W'}{s s'}{g}{a b}(G:Gr X W (s.setGen g a) W' s')(hz:Z g):nJ Z X W s W' (s'.setGen g b):=
 ⟨⟨G.le,G.cH,G.gn,G.heap,G.there,G.os,fun _ _ h=>h⟩,fun i y h e=>by
  have hi:i≠g:=fun q=>h (q▸hz);refine J (jB hi) ?_;exact G.gens i y (((jB hi)).trans (e))⟩
noncomputable def Ends(A:Ta)(P:PP)(X Y:TD→Prop)(g:Nat):List V→Wd→AH→Ro→End→Ro→Prop
 |[],W1,H1,s1,e,s2=>e= .ret (.ok (.ret .none))∧∃W2,Gr Y W1 s1 W2 s2∧an W2 H1 s2
 |x::xs,W1,H1,s1,e,s2=>Of fun v g0 l k c p fs W2=>Gk (e= .susp v g0 l k c p fs) (e.quiet=true) (Gr Y W1 s1 W2 s2) (an W2 H1 s2) (Rel W2 x v)
   (∀s3 W3 H3,Gr X W2 (s2.setGen g e.genState) W3 s3→an W3 H3 s3→P.1 H3→(∀a,X a→s3.heap.get? a≠none)→
    Go (model prog w) A.in1 (Ends A P X Y g xs W3 H3 (s3.setGen g .running)) c (k (.send .none)) fs (s3.setGen g .running))
theorem x4{X Y Y'}{Z}{a}{g}(R:aB A n)(lim:∀h:Vi,(∀a o,bo a=some o→h.get? a=some o)→h.NoLimit)(K3:¬X a)(M7:¬Y a)(M8:∀x,Y x→Y' x)(hz:Z g)(hP:∀t,P.2 t):
  ∀xs W s gs,s.heap.IsGen a g→(jz W a)→s.gens[g]?=some gs→
   (∀s1 W1 H1,Gr X W s W1 s1→an W1 H1 s1→P.1 H1→(∀a,X a→s1.heap.get? a≠none)→Goes (model prog w) A.in1 (Ends A P X Y g xs W1 H1 (s1.setGen g .running)) gs (s1.setGen g .running))→
   gj A P Z X (.ref a) Y' xs W s:=by
 intro rv
 induction rv with
 |nil=>
  intro W s gs hg fr El A1;intro s1 W1 H1 G S hp hx;have GU:s1.heap.IsGen a g:=by obtain⟨o,nm,qn,ho,r⟩:=hg;exact⟨o,nm,qn,G.heap _ _ ho fr.1 K3,r⟩
  refine nI R.handled (lim _ S.ground) R.lt GU (G.gens _ _ El) (A1 s1 W1 H1 G S hp hx) fun e s2 he=> ?_;obtain⟨rfl,W2,G2,S2⟩:=he;refine⟨rfl,rfl,fun h' hh=>⟨rfl,W2, ?_, ?_⟩⟩
  ·have G3:nJ Z Y W1 s1 W2 (s2.setGen g .finished):=G2.GS hz;refine nJ.weaken ⟨⟨G3.step.le,G3.step.cH,G3.step.gn,fun b o e hn hb=>hh b o (G3.step.heap b o e hn hb),fun b h hb=>br hh b (G3.step.there b h hb),G3.step.os,fun _ _ h=>h⟩,G3.gens⟩ M8
  ·exact(S2.setGen g (x:= .finished) rfl).same (fun b o e _=>hh b o e) (j5 S2.bare rfl)
 |cons x xs ih=>
  intro W s gs hg fr El A1;intro s1 W1 H1 G S hp hx;have GU:s1.heap.IsGen a g:=by obtain⟨o,nm,qn,ho,r⟩:=hg;exact⟨o,nm,qn,G.heap _ _ ho fr.1 K3,r⟩
  have th:s.heap.get? a≠none:=by obtain⟨o,nm,qn,ho,r⟩:=hg;exact J ho ((nofun))
  have GN:s1.heap.get? a≠none:=by obtain⟨o,nm,qn,ho,r⟩:=GU;exact J ho ((nofun))
  have CZ:=al G th fr K3;refine nI R.handled (lim _ S.ground) R.lt GU (G.gens _ _ El) (A1 s1 W1 H1 G S hp hx) fun e s2 he=> ?_;obtain⟨v,g0,l,k,c,p,fs,W2,rfl,hq,G2,S2,r2,GV⟩:=he;refine⟨hq,v,rfl,fun target _=> ?_⟩;refine QK fun kG=> ?_;obtain⟨o,nm,qn,ho,hc,hd,K4⟩:=id GU;refine kG ?_;have sA:=G2.heap _ _ ho CZ.1 M7;refine eA sA hc hd dc ⟨W2,(G2.GS hz).weaken M8,S2.setGen g (End.bare_of_quiet hq),r2, ?_⟩;exact ih W2 _ _ ⟨o,nm,qn,sA,hc,hd,K4⟩ (al G2 GN CZ M7) (setGen_self (G2.gens _ _ (setGen_self (G.gens _ _ El)))) fun s3 W3 H3 G3 S3 p3 x3=>GV s3 W3 H3 G3 S3 p3 x3
noncomputable abbrev vL(k:Nat)(L:List (Nat×List V)):PP:=(fun H=>H[k]?=some (some (.list (L.map fun p=>V.ref p.1)))∧∀p∈L,H[p.1]?=some (some (.list p.2)),fun _=>True)
structure pZ(Y:TD→Prop)(k:Nat) W(s:Ro) env jx i:Prop where
 GW:cQ W [] env s.heap
 yl:Y env.locals
 yr:Y jx
 it:∃ka,W.φ[k]?=some ka∧s.heap.IsRevIter jx ka i
 fr:jz W jx
 ne:jx≠env.locals
 nc:∀n c,env.cells.lookup n≠some c
theorem pZ.gr{X Y}{k}{W W'}{s s'}{env}{jx}{i}(o:pZ Y k W s env jx i)(G:Gr X W s W' s')(hl:¬X env.locals)(hr:¬X jx):pZ Y k W' s' env jx i:=by
 obtain⟨ka,h1,h2⟩:=o.it;have th:s.heap.get? jx≠none:=by obtain⟨ob,ho,_⟩:=h2;exact ho▸nofun
 exact⟨o.GW.dh G hl fun n c e=>absurd e (o.nc n c),o.yl,o.yr,⟨ka,Wd.eM G.le h1,h2.at fun ob e=>G.heap _ _ e o.fr.1 hr⟩,al G th o.fr hr,o.ne,o.nc⟩
structure Lit(Y:TD→Prop)(W:Wd)(s:Ro)(env:Env)(jx lit:TD)(q j:Nat):Prop where
 yl:Y lit
 it:∃la,W.φ[q]?=some la∧s.heap.IsListIter lit la j
 fr:jz W lit
 n1:lit≠jx
 n2:lit≠env.locals
theorem Lit.gr{X Y}{W W'}{s s'}{env}{jx lit}{q j}(o:Lit Y W s env jx lit q j)(G:Gr X W s W' s')(hr:¬X lit):Lit Y W' s' env jx lit q j:=by
 obtain⟨la,h1,h2⟩:=o.it;have th:s.heap.get? lit≠none:=by obtain⟨ob,ho,_⟩:=h2;exact ho▸nofun
 obtain⟨ob,ho,r⟩:=h2;exact⟨o.yl,⟨la,Wd.eM G.le h1,ob,G.heap _ _ ho o.fr.1 hr,r⟩,al G th o.fr hr,o.n1,o.n2⟩
structure F0(P:PP) Y W1 H1 s1 W s:Prop where
 gr:Gr Y W1 s1 W s
 Er:an W H1 s
 p:P.1 H1
 new:∀x,s.heap.get? x=none→Y x
theorem F0.step{X Y}{W1 W W'}{H1}{s1 s s'}(c:F0 P Y W1 H1 s1 W s)(G:Gr X W s W' s')(S:an W' H1 s')(h:∀x,X x→Y x):F0 P Y W1 H1 s1 W' s':=
 ⟨c.gr.trans (G.weaken h),S,c.p,fun x e=>(G.back e).elim (c.new x) (h x)⟩
theorem K5{k q}{L}{l}{X Y}{g}{env}{jx lit}{i}{ys}{F1}(Es:∀a,X a→¬Y a)(hm:(q,l)∈L)
  (uA:splitAtGen F1=none) (Ow:F1.any aaR.guarded=false) (hh:(A.in1.over (sD (.ref lit)) F1).handled=none)
  (hk:∀W1 H1 s1 W s,F0 (vL k L) Y W1 H1 s1 W s→pZ Y k W s env jx i→Go (model prog w) A.in1 (Ends A (vL k L) X Y g ys W1 H1 s1) (sD (.ref lit)) (.pure (.done (.ret .none))) F1 s):
  ∀xs j W1 H1 s1 W s,l.drop j=xs→F0 (vL k L) Y W1 H1 s1 W s→pZ Y k W s env jx i→Lit Y W s env jx lit q j→
   Go (model prog w) A.in1 (Ends A (vL k L) X Y g (xs++ys) W1 H1 s1) (sD (.ref lit)) ((model prog w).den (sD (.ref lit))) F1 s:=by
 intro rv
 induction rv with
 |nil=>
  intro j W1 H1 s1 W s hd c o t;obtain⟨la,h1,h2⟩:=t.it;obtain⟨M9,nE,_,vs,m,hL,hv,_⟩:=c.Er.live q _ (c.p.2 _ hm);rw[h1] at nE;cases nE;have hlen:l.length≤j:=by simpa using hd
  refine vK hh h2 ⟨_,hL,rfl,m,rfl⟩ (by refine J RQ ?_;exact R2 (hv.length▸hlen)) fun h' hx=> ?_;obtain⟨S2,G2⟩:=c.Er.but (s':={s with heap:=h'}) (fun b ob hb e=>hx b ob hb e) (fun b y=>by cases y;exact t.fr) rfl rfl (QM _);exact hk W1 H1 s1 W _ (c.step G2 S2 fun x e=>by cases e;exact t.yl) (o.gr G2 (fun e=>t.n2 e.symm) fun e=>t.n1 e.symm)
 |cons x xs ih=>
  intro j W1 H1 s1 W s hd c o t;obtain⟨la,h1,h2⟩:=t.it;obtain⟨M9,nE,_,vs,m,hL,hv,_⟩:=c.Er.live q _ (c.p.2 _ hm);rw[h1] at nE;cases nE;have Aw:l[j]?=some x:=by refine aO Wh (J hd ?_);rfl
  refine QK fun kG=> ?_;obtain⟨v,Ox,rv⟩:=hv.get Aw;refine kG (sE h2 ⟨_,hL,rfl,m,rfl⟩ ((RQ)▸Ox) uA fun h' lN hs kk p A1=> ?_);obtain⟨S2,G2⟩:=c.Er.but (s':={s with heap:=h'}) (fun b ob hb e=>(hs.2 b hb).trans e) (fun b y=>by cases y;exact t.fr) rfl rfl (QM _);have Oy:∀x,x=lit→Y x:=fun x e=>by cases e;exact t.yl
  have c2:=c.step G2 S2 Oy;refine⟨v,false,[],kk,_,p,F1,W,rfl,by simp[End.quiet,Ow],c2.gr,S2,rv,fun s3 W3 H3 G3 S3 p3 x3=> ?_⟩;have K6:Gr X W {s with heap:=h'} W3 {s3 with gens:=s.gens}:=⟨G3.le,G3.cH,G3.gn,G3.heap,G3.there,G3.os,fun _ _ h=>h⟩;have t3:=(show Lit Y W {s with heap:=h'} env jx lit q (j+1) from⟨t.yl,⟨la,h1,lN⟩,t.fr,t.n1,t.n2⟩).gr K6 fun e=>Es _ e t.yl;have o3:=(o.gr G2 (fun e=>t.n2 e.symm) fun e=>t.n1 e.symm).gr K6 (fun e=>Es _ e o.yl) fun e=>Es _ e o.yr;obtain⟨Oz,OC,K7⟩:=t3.it;have JH:Oz=la:=by have:=Wd.eM G3.le h1;rw[OC] at this;exact Uv this
  cases JH;refine A1 _ (s3.setGen g .running) (j+1) K7 (ih (j+1) W3 H3 _ W3 (s3.setGen g .running) ?_ ⟨Gr.refl ..,S3.setGen g rfl,p3,fun x e=> ?_⟩ ⟨o3.GW,o3.yl,o3.yr,o3.it,o3.fr,o3.ne,o3.nc⟩ ⟨t3.yl,t3.it,t3.fr,t3.n1,t3.n2⟩)
  ·refine aO Wx (J hd ?_);rfl
  ·rcases K6.back (e) with q|q
   ·exact c2.new x q
   ·exact absurd e (x3 x q)
noncomputable abbrev sF(p0:Pos):SD:= .Name "namespaces" p0
noncomputable abbrev sG(p1 p2 p3 p4 p5:Pos):List U3:=[.If (.Name "namespaces" p1) [.Expr (.YieldFrom (.Name "namespaces" p2) p3) p4] [] p5]
theorem aB.fl{K}{l l'}{g}{p}(R:aB A (n+4))(h1:cf.weight≤1)(h2:cf.cUnits≤3):
  aB (A.in1.over (.forLoop t it b [] env) [.ret K none g l cf p l']) n:=by
 refine⟨R.1, ?_, ?_⟩
 ·have:=R.2;show A.depth+frameCount [(cf,p)]+0+n<_;refine J (frameCount_cons ..) ?_;show A.depth+(cf.weight+0)+0+n<_;lia
 ·have:=R.3;show A.units+1+unitsOf [(cf,p)]+0+12*n<_;refine J (unitsOf_cons ..) ?_;show A.units+1+(cf.cUnits+0)+0+12*n<_;lia
theorem Et{X Y}{g}{env}{jx}{cf}{K1}{Hx}{p0 p1 p2 p3 p4 p5 pf}(R:aB A (n+4))(Es:∀a,X a→¬Y a)(E:az F env)
  (hF:F.names.lookup ("namespaces":Rj)=some .local) (h1:cf.weight≤1) (h2:cf.cUnits≤3)
  (Eu:∀Φ s,Φ (.ret (.ok (.ret .none))) s→Go (model prog w) A.in1 Φ cf (K1 .next) [] s):
  ∀i,i≤L.length→∀W1 H1 s1 W s,F0 (vL k L) Y W1 H1 s1 W s→pZ Y k W s env jx (i-1)→
   Go (model prog w) A.in1 (Ends A (vL k L) X Y g (((L.take i).reverse.map (·.2)).flatten) W1 H1 s1) (.forLoop (sF p0) (.ref jx) (sG p1 p2 p3 p4 p5) [] env)
    ((model prog w).den (.forLoop (sF p0) (.ref jx) (sG p1 p2 p3 p4 p5) [] env)) [.ret (xW env K1 Hx id id) none (id false) (id []) cf pf []] s:=by
 intro rv
 induction rv with
 |zero=>
  intro _ W1 H1 s1 W s c o;obtain⟨ka,e1,e2⟩:=o.it;refine lL (wpAny_pyNext_rev_end R.handled e2 fun h' hx=>oB (vJ (Eu _ _ ?_)));obtain⟨S2,G2⟩:=c.Er.but (s':={s with heap:=h'}) (fun b ob hb e=>hx b ob hb e) (fun b y=>by subst y;exact o.fr) rfl rfl (QM _);exact⟨rfl,W,c.gr.trans (G2.weaken fun x e=>by cases e;exact o.yr),S2⟩
 |succ i ih=>
  intro hi W1 H1 s1 W s c o;refine QK fun kG=> ?_;obtain⟨ka,e1,e2⟩:=o.it;obtain⟨OD,A4,_,vs,m,hL,hv,_⟩:=c.Er.live k _ c.p.1;refine kG ?_;replace A4:=e1▸A4;cases A4;have ce:=hi;refine QK fun kG=> ?_;obtain⟨⟨q,l⟩,A5⟩:∃x,L[i]=x:=⟨_,rfl⟩;refine kG ?_;have hm:=A5▸T4 ce;have K8:(((L.take (i+1)).reverse.map (·.2)).flatten)=l++(((L.take i).reverse.map (·.2)).flatten):=by
   refine J (List.take_succ_eq_append_getElem ce) (J List.reverse_append (J A5 ?_));rfl
  refine QK fun kG=> ?_;obtain⟨v,KC,rv⟩:=hv.get (x:= .ref q) (by refine J R3 (J (Rg ce) (J A5 ?_));rfl);refine kG (J K8 ?_);have OE:s.heap.IsRevIter jx ka i:=by
   exact(show(((i+1:Nat):Int)-1)=i by lia)▸e2
  have R':=fun p=>aB.fl (t:=sF p0) (it:= .ref jx) (b:=sG p1 p2 p3 p4 p5) (env:=env) (K:=xW env K1 Hx id id) (l:=id []) (l':=[]) (g:=id false) (p:=p) R h1 h2;have ih:=ih (SU ce);refine lL (wpAny_pyNext_rev_item OE ⟨_,hL,rfl,m,rfl⟩ ((RQ)▸KC) fun h' lN hs=> ?_);obtain⟨S2,G2⟩:=c.Er.but (s':={s with heap:=h'}) (fun b ob hb e=>(hs.2 b hb).trans e) (fun b y=>by cases y;exact o.fr) rfl rfl (QM _);have c2:=c.step G2 S2 fun x e=>by cases e;exact o.yr
  have o2:pZ Y k W {s with heap:=h'} env jx (i-1):=⟨o.GW.dh G2 (fun e=>o.ne e.symm) fun n c e=>absurd e (o.nc n c),o.yl,o.yr,⟨ka,e1,lN⟩,o.fr,o.ne,o.nc⟩;obtain⟨ob,ho,gi,OF⟩:=id lN;refine eA ho gi OF dc (Vr ((ST.local hF).run _ {s with heap:=h'} W H1 [] env (.ref q) v S2 E o2.GW rv _ fun s3 G3 S3 f3=> ?_));have sH:∀x,own env x→x=env.locals:=fun x h=>h.elim id fun⟨_,y,_,e⟩=>absurd e (o.nc y x);have o3:pZ Y k W s3 env jx (i-1):=⟨f3.sub ad,o.yl,o.yr,⟨ka,e1,lN.at fun ob e=>G3.heap _ _ e o.fr.1 (fun e=>o.ne (sH _ e))⟩,o.fr,o.ne,o.nc⟩;refine fh (GR ?_);refine(TT.value ET.name (OB.ah (c.p.2 _ hm))).run _ s3 W env (R' _) S3 E f3 _ fun s4 W4 G4 S4=> ?_;have c4:=(c2.step G3 S3 fun x e=>by exact(sH x e)▸o.yl).step G4 S4 fun _ e=>e.elim;have o4:=o3.gr G4 id id;cases l with
  |nil=>
   exact J (if_neg Ry) ((i6 (i6 (i4 rfl (ih W1 H1 s1 W4 s4 c4 o4)))))
  |cons x0 l0=>
   refine J (if_pos rfl) (fh (oC (by delta aay;exact E.kind▸rfl) ?_));refine(ET.name rfl).run _ s4 W4 env (R' _) S4 E (f3.step G4) _ fun u s5 W5 G5 S5 r5=> ?_;have c5:=c4.step G5 S5 fun _ e=>e.elim;have o5:=o4.gr G5 id id;have T5:=(Ty.ah (c.p.2 _ hm)).run s5 W5 u S5 r5;refine QK fun kG=> ?_;obtain⟨la,rfl,JH⟩:=r5;obtain⟨M9,nE,_,us,m5,OG,Qu,_⟩:=S5.live q _ (c.p.2 _ hm);refine kG ?_;replace nE:=JH▸nE;cases nE;refine⟨"list",T5,rfl,We ⟨_,OG,rfl,m5,rfl⟩ fun p=> ?_⟩;have G6:Gr cr W5 s5 W5 _:=Gr.cm W5 s5 {cls:= .type "list_iterator",data:= .fields #[.ref la, .int 0 0]};have t6:Lit Y W5 {s5 with heap:=s5.heap.push {cls:= .type "list_iterator",data:= .fields #[.ref la, .int 0 0]}} env jx s5.heap.objs.size q 0:=by
    refine⟨c5.new _ (ae _),⟨la,JH,(⟨_,Q0 _ rfl,rfl,rfl⟩)⟩,(S5.fresh (ae s5.heap)),fun e=> ?_,fun e=> ?_⟩
    ·obtain⟨kb,_,Qv,GX,_⟩:=o5.it;rw[←e] at GX;exact absurd GX (by rw[ae];exact nofun)
    ·obtain⟨mm,hn,_⟩:=o5.GW.m;exact cg hn (e▸ae _)
   refine K5 Es hm rfl rfl ?_ (fun K9 OH La W' s' c' o'=> ?_) (x0::l0) 0 W1 H1 s1 W5 _ rfl (c5.step G6 (S5.cm {cls:= .type "list_iterator",data:= .fields #[.ref la, .int 0 0]}) fun _ e=>e.elim) (o5.gr G6 id id) t6
   ·exact R.handled
   ·exact uz (.ok (.ret .none)) (i4 rfl (ih K9 OH La W' s' c' o'))
end
section
variable{n:Nat}{F:Fx}{ρ am cU hJ:Loc}{H H1 H2 H3 H4 H5:AH}{g:Fl}
theorem CT.Ev:CT n (.st (.type "set")) [] [] H (.ref H.length) (H++[some (.sset [])]):= .mk fun A s W fv vs kv R S rf rx c7 _ Q q=>by
 cases rf;cases rx;have:kv=[]:=by simpa using c7
 subst this;refine call_set_0 fun led=> ?_;obtain⟨S2,G2⟩:=S.new (s':={s with heap:=s.heap.push {cls:= .type "set",dict:=none,data:= .set #[] 0 (.fresh 0 0 led)}}) (ob:= .sset []) (fun _ _ e=>QT _ e) (by rw[Q0 _ rfl];exact nofun) rfl rfl (QM _)
  ⟨0,by
   simpa using((setObjOf_fresh led).setOf (Q0 _ rfl) dc),QM _⟩
 exact q _ _ _ G2 S2 ⟨_,rfl,by refine aO S.len ?_;simp[Wd.new]⟩
theorem OT.Ew{x}(hk:H[k]?=some (some (.sset l))):OT n (RZ .In) (.str x) (.ref k) H (.bool (decide (x∈l))) H:=OT.aY fun A s W a c R S ra rc Q q=>by
 obtain⟨t,rfl,_⟩:=ra;obtain⟨b,rfl,p⟩:=rc;obtain⟨b',p',_,m,hS,hm⟩:=S.live k _ hk;cases p▸p';exact wpAny_inSet_of (Ua prog w x t) rfl hS (q _)
theorem OT.vM{x}(hk:H[k]?=some (some (.sset l))):OT n (RZ .NotIn) (.str x) (.ref k) H (.bool (!decide (x∈l))) H:=OT.aY fun A s W a c R S ra rc Q q=>by
 obtain⟨t,rfl,_⟩:=ra;obtain⟨b,rfl,p⟩:=rc;obtain⟨b',p',_,m,hS,hm⟩:=S.live k _ hk;cases p▸p';exact wpAny_notInSet_of (Ua prog w x t) rfl hS (q _)
theorem CT.setAdd{x}(hk:H[k]?=some (some (.sset l)))(hz:l.length+1<Xv):CT n (.st (.builtin "set.add")) [.ref k, .str x] [] H .none (H.set k (some (.sset (l++[x])))):= .mk fun A s W fv vs kv R S rf rx c7 _ Q q=>by
 cases rf;obtain⟨v,u,rfl,⟨b,rfl,p⟩,⟨t,rfl,_⟩⟩:=rx.two;have:kv=[]:=by simpa using c7
 subst this;refine QK fun kG=> ?_;obtain⟨b',p',hI,m,hS,hm⟩:=S.live k _ hk;refine kG ?_;replace p':=p▸p';cases p';refine call_set_add (Ua prog w x t) rfl hS (elt (adr hm) hz) fun h' hs F2=> ?_;have JA:h'.get? b≠none:=by obtain⟨o,_,_,_,ho,_⟩:=F2;exact ho▸nofun
 obtain⟨S2,G2⟩:=S.set (s':={s with heap:=h',toks:=s.toks+1}) (ob:= .sset (l++[x])) p hI (fun c o hc e=>(hs.2 c hc).trans e) JA rfl rfl (Te _)
  ⟨_,by
   have e:(fun y=>decide (y∈l++[x]))=(fun k'=>decide (k'∈l)||decide (k'=x)):=by
    funext y;simp
   refine J e ?_;exact F2,by refine bl (fun _=> ?_) (fun _=> ?_)<;>simp<;>lia⟩
 exact q _ _ _ G2 S2 rfl
end
section
variable{A:Ta}{s:Ro}
theorem x5{α:Type}{f:Nat→Bool}:∀(l:List α) i,(∀k,i≤k→k<i+l.length→f k=true)→(l.zipIdx i).filterMap (fun p=>if f p.2 then none else some p.1)=[]:=by
 intro rv
 induction rv with
 |nil=>
  intro _ _;exact rfl
 |cons x l ih=>
  intro i h;refine J List.zipIdx_cons (J WN ?_);simp only[(h i (QM _) (by simp)),if_true];exact ih (i+1) fun k h1 h2=>h k (lb h1) (ao h2 (ik (QM _)))
theorem A6(h:arr=#[]):some ({cls:= .type "list",dict:=none,data:= .seq arr k,slots:=#[]}:Obj)=some (sq "list" [] k):=by subst h;rfl
theorem A7{vs}{m}{Q}(ho:s.heap.get? l=some (sq "list" vs m))(hs:s.heap.IsSliceOf sl .none .none .none)(hz:vs.length≤QW)
  (hQ:∀h' m',h'.get? l=some (sq "list" [] m')→Sm l s.heap h'→Q () {s with heap:=h'}):wpAny (model prog w) A (delItem (.ref l) (.ref sl)) Q aX s:=by
 have hl:s.heap.IsList l vs.toArray:=⟨_,ho,rfl,m,rfl⟩;obtain⟨os,sz,xx,C0⟩:=id hs;have JI:s.TypeIs (.ref sl) "slice":=⟨os,sz,xx⟩;refine wpAny_delItem_slot hl.typeIs dc F.slot_list_delitem (wpAny_call_entry F.slot_list_delitem hl.typeIs F.entry_list_delitem ?_ (F.args_list_delitem_2 _ _));show wpAny _ _ (WR (.ref sl)>>=_) _ _ s;refine QL (bY JI slice_no_index ?_);refine QO (bT JI ?_);refine J (if_neg dc) (J (listSliceParts_eq ..) ?_);refine QL (QL (YD sz C0 (x:=SZ) rfl (QL (Y4 .none ?_))));refine J (if_neg dc) (bF sz C0 (x:=SZ) rfl (QL (Y4 .none ?_)));refine bF sz C0 (x:=SZ) rfl (QL (Y4 .none (QO ?_)));refine QL (bS ho rfl (QO ?_));refine bE (sliceIndices_raw none none none vs.toArray.size nofun) (bR ?_);refine QL (U8 ho rfl ?_ (_hz':= ?_))
 ·refine bO (QO ⟨_,rfl, ?_⟩);refine hQ _ _ ((Yq ho _).trans (A6 (congrArg SQ (x5 _ 0 ?_)))) (Rz ..);intro k h1 h2;simp at h2;show(if 1>0 then decide (0≤k)&&decide (k<(vs.length:Int))&&(((k:Int)-0)%1==0) else _)=true;refine J (if_pos dc) ?_;simp[(ol h2)]
 ·refine J Re ?_;refine QU (List.length_filterMap_le _ _) ?_;simp;exact ao hz dc
end
section
variable{n:Nat}{F:Fx}{ρ am cU hJ:Loc}{H H1 H2 H3 H4 H5:AH}{g:Fl}
theorem XT.Ey(ho:ET n F o ρ H (.ref k) H)(hk:H[k]?=some (some (.list l))):
  XT n F (.Delete [.Subscript o (.Slice none none none p1) p2] pos) ρ H .next ρ (H.set k (some (.list []))):=by
 refine .mk fun A s W env R S E fr Q q=>(wpAny_Delete (wpAny_deleteEach_cons ?_));show wpAny _ A (do
  let ov ←eval o env
  let iv ←holding [ov] (eval (.Slice none none none p1) env)
  standAt p2
  holding [ov,iv] (delItem ov iv)
  release [ov,iv] []) _ aX s
 refine QL (ho.run A s W env R S E fr _ fun ov s1 W1 G1 S1 r1=> ?_);refine QL (wpAny_holding (wpAny_Slice (QO (QO (QO ?_)))));have S2:=S1.cm {cls:= .type "slice",data:= .fields #[.none, .none, .none]};refine bA (QL (wpAny_holding ?_));refine QK fun kG=> ?_;obtain⟨a,rfl,p⟩:=r1;obtain⟨a',p',hI,vs,m,hL,hv,hz⟩:=S2.live k _ hk;refine kG ?_;replace p':=p▸p';cases p';refine A7 hL (X0 ..) (hv.length▸hz) fun h' m' hp hs=>(Y3 (wpAny_deleteEach_nil ?_));obtain⟨S3,G3⟩:=S2.set (s':={s1 with heap:=h'}) (ob:= .list []) p hI (fun b o hb e=>(hs.2 b hb).trans e) (hp▸nofun) rfl rfl (QM _) ⟨[],m',hp,rfl,Rr _⟩;have G:=(G1.trans (Gr.cm W1 s1 {cls:= .type "slice",data:= .fields #[.none, .none, .none]})).trans G3;exact q _ _ W1 G.of S3 (fr.step G) rfl
theorem GM.own{K}{i C d:Nat}{l}{name}{y}(c:pT K C)(hi:H[i]?=some (some (.inst C d)))(hd:H[d]?=some (some (.ns l)))(hl:l.lookup name=some y)
  (ha:Tf K (.ref C) name=some none) (hn:noGet K none=true) (hy:autoParam (V.hand y=true) aR):GM n (.ref i) name H y [] H:=by
 refine .mk fun A s W v pl R S r Q q=> ?_;obtain⟨a',da,ox,od,m,e,p,pd,hI,Eb,hx,I,AP,Ea,hm,kJ⟩:=i3 S hi hd r;obtain⟨u,hv,rv⟩:=(hm name).2 y hl;subst e;exact method_usual (c.uu _ S.ground) I c.vA c.hk ha rfl (get_value (c.uu _ S.ground) I c.vA (findObj_own c.hd ha hn (J (kJ ..) (J (hv ..) rfl))) (lH hy rv) (q u [] _ W (Gr.dD W s _) (S.tok _) rv rfl))
theorem ET.OI{u}(h:ET n F e ρ H (.st (.ref a)) H1)(ha:bo a=some (bq f u))(hx:∀W,Rel W x u):ET n F e ρ H (.bm f x) H1:= .mk fun A s W env R S E fr Q q=>
 h.run A s W env R S E fr Q fun v s1 W1 G1 S1 r1=>q v s1 W1 G1 S1 (by cases r1;exact⟨a,u,rfl,S1.gr _ _ ha,hx W1⟩)
theorem an.lO{l l'}(S:an W H s)(hd:H[d]?=some (some (.ns l)))(he:∀x,l'.lookup x=l.lookup x):an W (H.set d (some (.ns l'))) s:=by
 refine⟨S.cq,S.gr,S.nodup,by refine J Sl ?_;exact S.len,S.lt,fun i ob e=> ?_,S.bare,S.tk,S.col⟩;rcases ci e with⟨h1,h2⟩|⟨_,h2⟩
 ·cases h2;subst h1;obtain⟨a,p,hI,m,hn,hm⟩:=S.live _ _ hd;exact⟨a,p,hI,m,hn,fun x=>by exact(he x)▸hm x⟩
 ·exact S.live i ob h2
theorem XT.lO{st}{d}{l l'}(hd:H1[d]?=some (some (.ns l)))(he:∀x,l'.lookup x=l.lookup x)(h:XT n F st ρ H g am H1):XT n F st ρ H g am (H1.set d (some (.ns l'))):= .mk fun A s W env R S E fr Q q=>
 h.run A s W env R S E fr Q fun f s1 W1 G1 S1 f1 r1=>q f s1 W1 G1 (S1.lO hd he) f1 r1
end
mutual
theorem V.cy(h:k≤k'):∀{x:V},x.dF k=true→x.dF k'=true
 | .tup l,e=>eX h e
 | .lst l,e=>eX h e
 | .bw l,e=>dU h e
 | .ref i,e=>decide_eq_true (RM (of_decide_eq_true e) h)
 | .bm _ x,e=>V.cy h (x:=x) e
 | .pm _ x,e=>V.cy h (x:=x) e
 | .vw _ x,e=>V.cy h (x:=x) e
 | .raw _ x,e=>V.cy h (x:=x) e
 | .none,_=>rfl
 | .bool _,_=>rfl
 | .int _,_=>rfl
 | .str _,_=>rfl
 | .lit _,_=>rfl
 | .st _,_=>rfl
 | .dst _,_=>rfl
theorem eX(h:k≤k'):∀{l},bD k l=true→bD k' l=true
 |[],_=>rfl
 |x::l,e=>by
  have e:=(Q5 _ _).mp e;exact(Q5 _ _).mpr ⟨V.cy h e.1,eX h e.2⟩
theorem dU(h:k≤k'):∀{l},d7 k l=true→d7 k' l=true
 |[],_=>rfl
 |(_,x)::l,e=>by
  have e:=(Q5 _ _).mp e;exact(Q5 _ _).mpr ⟨V.cy h e.1,dU h e.2⟩
end
theorem AO.cy(h:k≤k'):∀{x:AO},x.dF k=true→x.dF k'=true
 | .list _,e=>eX h e
 | .dict _,e=>dU h e
 | .ns _,e=>dU h e
 | .inst _ d,e=>decide_eq_true (RM (of_decide_eq_true e) h)
 | .sset _,_=>rfl
 | .tab _ _ _,_=>rfl
theorem cz:bD k l=true↔∀x∈l,x.dF k=true:=by
 induction l with
 |nil=>exact⟨fun _ _ h=>absurd h Rb,fun _=>rfl⟩
 |cons x l ih=>rw[Ze,←ih];exact Vx
theorem sI:d7 k l=true↔∀p∈l,p.2.dF k=true:=by
 induction l with
 |nil=>exact⟨fun _ _ h=>absurd h Rb,fun _=>rfl⟩
 |cons x l ih=>rw[Ze,←ih];exact Vx
section
variable{n:Nat}{F:Fx}{ρ am cU hJ:Loc}{H H1 H2 H3 H4 H5:AH}{g:Fl}
theorem an.kill(S:an W H s) i:an W (H.set i none) s:=by
 refine⟨S.cq,S.gr,S.nodup,by refine J Sl ?_;exact S.len,S.lt,fun j ob e=> ?_,S.bare,S.tk,S.col⟩;rcases ci e with⟨_,h2⟩|⟨_,h2⟩
 ·cases h2
 ·exact S.live j ob h2
theorem af.kill i(h:af n F gp ρ (H.set i none) g am H1):af n F gp ρ H g am H1:= .mk fun A s W env R S E fr Q q=>h.run A s W env R (S.kill i) E fr Q q
theorem Ee.sub_int:OT n (Xw .Sub) (.int a) (.int b) H (.int (a-b)) H:=OT.dG fun A s W x y R S ra rb Q q=>by
 obtain⟨t,rfl⟩:=ra;obtain⟨u,rfl⟩:=rb;exact AutoIntOps.isub_0 (q _ _)
end
theorem sJ t es h x:(YO t es h x).2.1.led=t.led∧((YO t es h x).2.1.plain=t.plain∨(YO t es h x).2.1.plain=false):=by
 unfold YO;rcases t.freeSlot h with _|⟨slot,d⟩
 ·exact⟨rfl, .inr rfl⟩
 ·dsimp only;unfold WI.orStandIn;refine bl (fun _=> ?_) fun _=> ?_
  ·exact⟨rfl, .inl rfl⟩
  ·exact⟨rfl, .inr rfl⟩
theorem oD t es n:(VA t es n).2.1.led=t.led∧((VA t es n).2.1.plain=t.plain∨(VA t es n).2.1.plain=false):=by
 unfold VA;cases e:t.relaid (es.map (·.1)) n with
 |none=>exact⟨rfl, .inr rfl⟩
 |some p=>
  obtain⟨t',order⟩:=p;dsimp only;have hl:t'.led=t.led∧t'.plain=t.plain:=by
   unfold WI.relaid WI.laid at e;cases hc:WI.layClean (WI.sizeAbove n-1) (es.map (·.1)) with
   |none=>replace e:=hc▸e;cases e
   |some o=>replace e:=hc▸e;cases e;exact⟨rfl,rfl⟩
  refine bl (fun _=> ?_) fun _=> ?_
  ·exact⟨hl.1, .inl hl.2⟩
  ·exact⟨rfl, .inr rfl⟩
theorem oE led h x:∃j,YO (.fresh 0 0 led) #[] h x=(#[(h,x)],{WI.fresh 0 0 led with place:=#[j]},false,false):=by
 refine⟨(WI.probeStart (.fresh 0 0 led) h).j, ?_⟩;rfl
noncomputable def gt(ps:List (Rj×Tok)):List (Int×Value):=ps.map fun p=>(VO w p.1,RA p.1 p.2)
theorem sK ps:ElemsOf (strKind prog w) (gt ps):=fun e he=>by
 obtain⟨p,_,rfl⟩:=Q4.mp he;exact⟨⟨p.1,Ua prog w p.1 p.2,rfl⟩,rfl⟩
theorem nK(h:es.Perm (gt ps)):∃qb,es=gt qb∧qb.Perm ps:=by
 have:∀{es es'},es.Perm es'→∀ps,es'=gt ps→∃qb,es=gt qb∧qb.Perm ps:=by
  intro es es' p
  induction p with
  |nil=>intro ps e;exact⟨ps,e, .refl _⟩
  |cons x p ih=>
   intro ps e;cases ps with
   |nil=>cases e
   |cons q ps=>
    simp only[gt,Q8,TG] at e;obtain⟨qb,h1,h2⟩:=ih ps e.2;exact⟨q::qb,by simp[gt,h1,e.1],h2.cons q⟩
  |swap x y l=>
   intro ps e
   match ps,e with
   |q::r::ps,e=>
    simp only[gt,Q8,TG] at e;exact⟨r::q::ps,by simp[gt,e.1,e.2.1,e.2.2], .swap q r ps⟩
  |trans p q Lb Lc=>
   intro ps e;obtain⟨Ld,h1,h2⟩:=Lc ps e;obtain⟨Le,h3,h4⟩:=Lb Ld h1;exact⟨Le,h3,h4.trans h2⟩
 exact this h ps rfl
section
variable{A:Ta}{E:Value→Ro→Prop}{s:Ro}
noncomputable def qc(t:WI):Prop:=(t.fill+1)*5<t.mask*3
theorem x6{h:Vi}{a}{es es'}{ep}{t t'}(ho:h.get? a=some (tq es ep t)):(h.update a (ZU es' t')).get? a=some (tq es' (ep+1) t'):=by
 have:=RT (ZU es' t') ho rfl;rw[putSet_of es' t' rfl] at this;exact this
theorem Ez(ho:s.heap.get? a=some (tq es ep t))(he:es.toList=gt ps)(hf:t.fits es.size=true)(hn:k∉ps.map (·.1))
  (c6:ps.length+1<1000)
  (h:∀h' es' CY t' qb,Sm a s.heap h'→h'.get? a=some (tq es' CY t')→es'.toList=gt qb→qb.Perm (ps++[(k,tk)])→t'.fits es'.size=true→t'.led=t.led→t'.plain=false→
   (∀led,t= .fresh 0 0 led→es=#[]→qc t')→Q true {s with heap:=h'}):
  wpAny (model prog w) A (setAddHashed a (.str k tk) (VO w k)) Q E s:=by
 have hsz:es.size=ps.length:=by refine aO TW (J he ?_);simp[gt]
 have JJ:=he▸sK ps;refine wpAny_holding (bZ ho rfl hf ?_);dsimp only;refine J (byScan_of rfl (elt (bC hsz) (Jx (ui c6) dc)) JJ) (QL (bR ?_));refine QL (wpAny_setScan_of (Ua prog w k tk) ho rfl hf JJ ?_);have xy:List.findIdx? (fun e=>(strKind prog w).is k e.2) es.toList=none:=by
  rw[List.findIdx?_eq_none_iff,he];intro e hm;obtain⟨p,hp,rfl⟩:=Q4.mp hm;cases hq:(strKind prog w).is k (RA p.1 p.2) with
  |false=>rfl
  |true=>exact absurd ((strKind prog w).inj _ _ _ (Ua prog w p.1 p.2) hq) (fun q=>hn (Q4.mpr ⟨p,hp,q⟩))
 refine J xy ?_;have Na:∀b{ch}{Q'},Q' () ch→wpAny (model prog w) A (match b with|true=>rule "set.scan.the-table-gave-way"|false=>pure ()) Q' E ch:=
  fun b ch Q' hq=>by cases b<;>first|exact QO hq|exact wpAny_rule hq
 have j6:=layNew_perm t es (VO w k) (.str k tk);have x7:=layNew_fits t es (VO w k) (.str k tk);have x8:=sJ t es (VO w k) (.str k tk);have x9:∀led,t= .fresh 0 0 led→es=#[]→(qc (YO t es (VO w k) (.str k tk)).2.1∧(YO t es (VO w k) (.str k tk)).2.1.tooFull=false):=by
  intro led e1 e2;subst e1 e2;obtain⟨j,hj⟩:=oE led (VO w k) (.str k tk);exact J hj (⟨by show(1+0+1)*5<7*3;decide,rfl⟩)
 generalize hL:YO t es (VO w k) (.str k tk)=L at j6 x7 x8 x9⊢;obtain⟨iH,t1,qd,OJ⟩:=L;rw[ZH,he] at j6;refine QK fun kG=> ?_;obtain⟨OK,A8,EA⟩:=nK (show iH.toList.Perm (gt (ps++[(k,tk)])) by simpa [gt] using j6);refine kG ?_;have GY:iH.size=ps.length+1:=by refine aO TW (J A8 ?_);simp[gt,EA.length_eq]
 refine QL (Na _ ?_);have fin:∀t2,t2.fits iH.size=true→t2.led=t.led→t2.plain=false→(∀led,t= .fresh 0 0 led→es=#[]→qc t2∧t2.tooFull=false)→
   wpAny (model prog w) A (do
    aaz a iH t2
    if(!qd&&t2.tooFull)=true then do
      (match(VA t2 iH (Tk iH.size)).2.2 with|true=>rule "set.scan.the-table-gave-way"|false=>pure ())
      aaz a (VA t2 iH (Tk iH.size)).1 (VA t2 iH (Tk iH.size)).2.1
      pure (some true)
     else pure (some true)) (fun r s'=>r=some true∧Q true s') E s:=by
  intro t2 OL d4 JK Nb;refine QL (wpAny_storeSet_of ho rfl ?_ (J GY (J Rv ((AN (len (ao c6 dc)))))));have x2:=x6 (es':=iH) (t':=t2) ho;have GZ:=Rz s.heap a (ZU iH t2);refine bl (fun _=> ?_) fun _=> ?_
  ·rename_i hc;have hp:=relayAll_perm t2 iH (Tk iH.size);have G9:=relayAll_fits t2 iH (Tk iH.size);have Lf:=oD t2 iH (Tk iH.size);generalize Qw:VA t2 iH (Tk iH.size)=Rl at hp G9 Lf⊢;rw[A8] at hp;refine QK fun kG=> ?_;obtain⟨Ld,Ha,Hb⟩:=nK hp;refine kG ?_;have Lg:Rl.1.size=iH.size:=by refine aO TW (J Ha (aO TW (J A8 ?_)));simp[gt,Hb.length_eq]
   refine QL (Na _ ?_);refine QL (wpAny_storeSet_of x2 rfl ?_ (J Lg (J GY (J Rv ((AN (len (ao c6 dc))))))));refine QO ⟨rfl,h _ Rl.1 _ Rl.2.1 Ld (GZ.trans (Rz _ a _)) (x6 x2) Ha (Hb.trans EA) G9 (Lf.1.trans d4) ?_ ?_⟩
   ·rcases Lf.2 with q|q
    ·rw[q,JK]
    ·exact q
   ·intro led e1 e2;rw[((Nb led e1 e2).2)] at hc;simp at hc
  ·exact QO ⟨rfl,h _ iH _ t2 OK GZ x2 A8 EA OL d4 JK fun led e1 e2=>(Nb led e1 e2).1⟩
 refine bl (fun _=> ?_) fun _=> ?_
 ·refine QL ?_;refine J (hashByValue_scannable 8 rfl) (QO ?_);show wpAny _ _ (do
    aaz a iH ({t1 with plain:=false}:WI)
    if(!qd&&({t1 with plain:=false}:WI).tooFull)=true then do
      (match(VA ({t1 with plain:=false}:WI) iH (Tk iH.size)).2.2 with|true=>rule "set.scan.the-table-gave-way"|false=>pure ())
      aaz a (VA ({t1 with plain:=false}:WI) iH (Tk iH.size)).1 (VA ({t1 with plain:=false}:WI) iH (Tk iH.size)).2.1
      pure (some true)
     else pure (some true)) _ _ _
  refine Ri (fin _ (WI.fits_plain_off x7) x8.1 rfl x9) (fun r s' hq=> ?_) fun _ _ e=>e;obtain⟨rfl,hq⟩:=hq;exact QO hq
 ·rename_i qe;refine bP (Ri (fin _ x7 x8.1 (by simpa using qe) x9) (fun r s' hq=> ?_) fun _ _ e=>e);obtain⟨rfl,hq⟩:=hq;exact QO hq
end
section
variable{A:Ta}{s:Ro}
theorem sub_dict_set:WC (.type "dict") (.type "set")=pure false:=rfl
theorem sub_dict_frozenset:WC (.type "dict") (.type "frozenset")=pure false:=rfl
theorem ya:∀{l}{es},d6 W l es→es.length=l.length:=by
 intro rv
 induction rv with
 |nil=>
  intro _ r;cases r;rfl
 |cons pq _ ih=>
  obtain⟨_,_⟩:=pq;rintro _ ⟨t,v,r,e,_,b⟩;subst e;simp[ih b]
theorem A9{f:Nat→β→Yp (ForInStep β)}:forIn [:0] b f=pure b:=by
 exact J (VH ..) rfl
theorem Ba{f:Nat→β→Yp (ForInStep β)}:forIn [:1] b f=(f 0 b>>=fun r=>match r with| .done b=>pure b| .yield b=>pure b):=by
 refine J (VH ..) ?_;refine J (UQ ..) ?_;rfl
structure Lh(s s':Ro) a(D:TD→Prop):Prop where
 keep:∀b o,b≠a→¬D b→s.heap.get? b=some o→s'.heap.get? b=some o
 gens:s'.gens=s.gens
 os:s'.os=s.os
 toks:s.toks≤s'.toks
theorem oF(h:qc t){n}(hn:n≤1):t.roomFor n=none:=by
 unfold WI.roomFor;rw[if_neg];exact len (ao (a9 (Oh (a9 (QM _) hn)) (QM _)) h)
theorem uC{a d it}{bc}{i m}{R}(hh:A.handled=none)(hit:s.heap.IsKeyIter it d i bc.length m)(hd:s.heap.DictAt (strKind prog w) d bc m)(hx:bc[i]?=none)
  (h:∀h',U0 it s.heap h'→R (.ok (.ret .none)) {s with heap:=h'}):SM (model prog w) A (.builtin "set.update.loop" ⟨[.ref a, .ref it],[]⟩) R s:=by
 refine So F.entry_set_update_loop (J (RX F.plain_set_update_loop _) ?_);refine QL (ZW hh hit hd hx fun h' Li=> ?_);exact QO (h h' Li)
theorem yb{a d it}{bc}{i m}{k}{v}{R}(hit:s.heap.IsKeyIter it d i bc.length m)(hd:s.heap.DictAt (strKind prog w) d bc m)(hx:bc[i]?=some (k,v))
  (h:∀tk h',h'.IsKeyIter it d (i+1) bc.length m→Sm it s.heap h'→wpAny (model prog w) A.in1 (setAddHashed a (.str k tk) (VO w k)) (fun _ s'=>SM (model prog w) A (.builtin "set.update.loop" ⟨[.ref a, .ref it],[]⟩) R s') (fun e s'=>R (.error e) s') {s with heap:=h',toks:=s.toks+1}):
  SM (model prog w) A (.builtin "set.update.loop" ⟨[.ref a, .ref it],[]⟩) R s:=by
 refine So F.entry_set_update_loop (J (RX F.plain_set_update_loop _) ?_);refine QL (ZJ hit hd hx fun key h' ng lN hs=> ?_);obtain⟨tk,rfl⟩:=TV ng;refine QL (wpAny_holding ?_);refine wpAny_holding (QL ((strKind prog w).pyHash ng ?_));refine Ri (h tk h' lN hs) (fun b s' hb=> ?_) fun _ _ e=>e;exact QO ⟨W9 _ (by decide+kernel),hb⟩
theorem ip{es}{ep m}{t}{ps}{Lj}{l}{W}{Q}(hh:A.handled=none)
  (ho:s.heap.get? a=some (tq es ep t)) (he:es.toList=gt ps) (hf:t.fits es.size=true) (hp:t.plain=false) (hr:qc t) (i8:ps.length≤10)
  (hd:s.heap.get? d=some (dq Lj m)) (sL:(d==SR)=false) (rd:d6 W l Lj) (nd:(l.map (·.1)).Nodup) (hl:l.length≤1) (hn:∀p∈l,p.1∉ps.map (·.1)) (JL:a≠d)
  (h:∀s' es' CY t' qb,Lh s s' a (fun b=>s.heap.get? b=none)→s'.heap.get? a=some (tq es' CY t')→es'.toList=gt qb→(qb.map (·.1)).Perm (ps.map (·.1)++l.map (·.1))→t'.fits es'.size=true→t'.led=t.led→t'.plain=false→Q () s'):
  wpAny (model prog w) A (setDisplayStar a (.ref d)) Q aX s:=by
 have hT:s.TypeIs (.ref d) "dict":=⟨_,hd,rfl⟩;refine QL (Wt hT sub_dict_set ?_);refine J (if_neg Ry) (QL (Wt hT sub_dict_frozenset ?_));refine bG ?_;cases Qx:Params.followText _ "set-display-star-reads-storage" with
 |true=>
  refine QK fun kG=> ?_;obtain⟨bc,Nc,yc⟩:=dictOf hd rd nd;refine kG ?_;refine QL (wpAny_pyIter_dict sL Nc ?_);have Bb:s.heap.objs.size≠a:=fun q=>by cases(ae ..)▸(q ..).symm▸ho
  generalize Bc:s.heap.push {cls:= .type "dict_keyiterator",data:= .fields #[.ref d, .int 0 0, .int bc.length 0, .int m 0]}=h1;have k1:∀b o,s.heap.get? b=some o→h1.get? b=some o:=fun b o e=>by subst Bc;exact QT _ e
  have hit:h1.IsKeyIter s.heap.objs.size d 0 bc.length m:=by subst Bc;exact⟨_,Q0 _ rfl,rfl,rfl⟩
  have JG:h1.DictAt (strKind prog w) d bc m:=by obtain⟨o,Lk,e1,r⟩:=Nc;exact⟨o,Lk,k1 _ _ e1,r⟩
  clear Bc;refine QL (Y1 ?_);cases l with
  |nil=>
   refine uC hh hit JG (R2 (yc.length▸QM _)) fun h' hx=>(QO (h _ es ep t ps ⟨fun b o hb hD e=>hx b o (fun q=>hD (by subst q;exact ae _)) (k1 b o e),rfl,rfl,QM _⟩ (hx a _ (Se Bb) (k1 _ _ ho)) he (by simp) hf rfl hp))
  |cons q l=>
   have sN:l=[]:=by cases l with|nil=>rfl|cons _ _=>simp at hl
   subst sN;refine QK fun kG=> ?_;obtain⟨v,r,rfl,rv,rr⟩:=yc;refine kG ?_;cases rr;have hk:=hn (q.1,q.2) QR;refine yb hit JG rfl fun tk h2 fR yd=>(Ez (s:={s with heap:=h2,toks:=s.toks+1}) ((yd.2 a (Se Bb)).trans (k1 _ _ ho)) he hf hk (FT (elt i8 dc)) fun h3 es' CY t' qb vN Hc Eg He Hf Hg ye _=> ?_);have xO:h3.IsKeyIter s.heap.objs.size d 1 1 m:=by obtain⟨o,e1,e2⟩:=fR;exact⟨o,(vN.2 _ Bb).trans e1,e2⟩
   have OM:h3.DictAt (strKind prog w) d [(q.1,v)] m:=by obtain⟨o,e3,e1,e2⟩:=JG;exact⟨o,e3,(vN.2 d (Se JL)).trans ((yd.2 d (Se (fun q=>by cases(ae ..)▸(q ..).symm▸hd))).trans e1),e2⟩
   refine uC hh xO OM rfl fun h' hx=> ?_;refine QO (h _ es' CY t' qb ⟨fun b o hb hD e=>hx b o (fun q=>hD (by subst q;exact ae _)) ((vN.2 b hb).trans ((yd.2 b fun q=>hD (by subst q;exact ae _)).trans (k1 b o e))),rfl,rfl,Te _⟩
    (hx a _ (Se Bb) Hc) Eg (by simpa using(He.map (·.1))) Hf Hg ye)
 |false=>
  refine bT hT (J (if_pos dc) ?_);refine bR (J sL ?_);refine QL (wpAny_dictEpoch hd rfl (QL (wpAny_dictEntries hd rfl ?_)));refine QL (bZ ho rfl hf ?_);refine J (oF hr ((Re▸ya rd)▸hl)) ?_;refine QO ?_;cases l with
  |nil=>
   cases rd;exact J A9 ((bP (QO (h s es ep t ps ⟨fun b o _ _ e=>e,rfl,rfl,QM _⟩ ho he (by simp) hf rfl hp))))
  |cons q l=>
   have sN:l=[]:=by cases l with|nil=>rfl|cons _ _=>simp at hl
   subst sN;obtain⟨tk,v,r,rfl,rv,rr⟩:=rd;cases rr;have hk:=hn (q.1,q.2) QR;refine J Ba (QL (QL (QL (wpAny_dictEntries hd rfl ?_))));refine QL (wpAny_holding (QL (Ez ho he hf hk (FT (elt i8 dc)) fun h3 es' CY t' qb vN Hc Eg He Hf Hg ye _=> ?_)));refine QO (QL (wpAny_dictEpoch ((vN.2 d (Se JL)).trans hd) rfl ?_));rw[bne_self_eq_false];refine QO (QO (QO ?_));exact h _ es' CY t' qb ⟨fun b o hb _ e=>(vN.2 b hb).trans e,rfl,rfl,QM _⟩ Hc Eg (by simpa using(He.map (·.1))) Hf Hg ye
end
section
variable{n:Nat}{F:Fx}{ρ am cU hJ:Loc}{H H1 H2 H3 H4 H5:AH}{g:Fl}
theorem ET.Bd{pos iG}{x}{l}{c}{oc}{vs}(h1:ET n F e1 ρ H (.str x) H)(h2:ET n F e2 ρ H (.bw l) H)(hl:l.length≤1)(hx:∀p∈l,p.1≠x)
  (hz:∀y∈x::l.map (·.1),y.length≤QW) (fN:isStar e1=false) (hc:F.code= .ref c) (EB:bo c=some oc) (Ll:oc.data= .fields vs):ET n F (.Set [e1, .Starred e2 iG] 0 pos) ρ H (.dst (x::l.map (·.1))) H:=by
 refine .mk fun A s W env R S E f Q q=>(J (arm_eval_Set ..) ?_);have he:starEach [e1, .Starred e2 iG] env=[(false,eval e1 env),(true,eval e2 env)]:=by rw[cJ fN];rfl
 refine J he (bA (QL ?_));unfold inMainModule;refine J E.code (J hc ?_);refine J (if_neg (Ry)) ?_;refine bV (S.ground _ _ EB) Ll ?_;have mid:∀(b:Bool) Q',(∀b,Q' b s)→wpAny (model prog w) A (match vs.getD 18 .none with
    |Value.str file tok=>do
     let vO ←ask
     pure (!vO.program.modules.any fun x=>match x with|(_,_,m)=>m.file==file)
    |x=>pure false) Q' aX s:=fun b Q' hq=>by
  cases vs.getD 18 .none<;>first|exact QO (hq _)|exact bG (QO (hq _))
 refine mid true _ fun b=> ?_;show wpAny (model prog w) A (setDisplay .oneByOne b [(false,do let v ←eval e1 env;standAt pos;pure v),(true,do let v ←eval e2 env;standAt pos;pure v)]) Q aX s;unfold setDisplay;refine J (if_neg dc) (QL ?_);refine QL (QL (wpAny_askSetting (QO ?_)));refine QL (wpAny_alloc (QO ?_));show wpAny (model prog w) A (holding [Um s.heap.objs.size] _>>=_) Q aX {s with heap:=s.heap.push (tq #[] 0 (.fresh 0 0 (!w.params.followText "set-order")))};have fr:=S.fresh (ae s.heap);generalize ha:s.heap.objs.size=a at fr⊢;have hn:=ha▸ae _;have S1:=S.cm (tq #[] 0 (.fresh 0 0 (!w.params.followText "set-order")));have G1:=Gr.cm (X:=cr) W s (tq #[] 0 (.fresh 0 0 (!w.params.followText "set-order")));have x2:(s.heap.push (tq #[] 0 (.fresh 0 0 (!w.params.followText "set-order")))).get? a=some (tq #[] 0 (.fresh 0 0 (!w.params.followText "set-order"))):=ha▸Q0 _ rfl;have x2:({s with heap:=s.heap.push (tq #[] 0 (.fresh 0 0 (!w.params.followText "set-order")))}:Ro).heap.get? a=some (tq #[] 0 (.fresh 0 0 (!w.params.followText "set-order"))):=x2;generalize ({s with heap:=s.heap.push (tq #[] 0 (.fresh 0 0 (!w.params.followText "set-order")))}:Ro)=s1 at S1 G1 x2⊢;have nl:env.locals≠a:=fun e=>by obtain⟨m,hm,_⟩:=f.m;exact cg hm (e▸hn)
 refine QL (wpAny_holding ?_);refine J (show(if [(false,(do let v ←eval e1 env;standAt pos;pure v:Yp Value)),(true,(do let v ←eval e2 env;standAt pos;pure v:Yp Value))].length>30 then 0 else([(false,(do let v ←eval e1 env;standAt pos;pure v:Yp Value)),(true,(do let v ←eval e2 env;standAt pos;pure v:Yp Value))].findIdx? (·.1)).getD [(false,(do let v ←eval e1 env;standAt pos;pure v:Yp Value)),(true,(do let v ←eval e2 env;standAt pos;pure v:Yp Value))].length)=1 from rfl) (QL ?_);refine wpAny_evalAll_cons (QL (h1.run A s1 W env R S1 E (f.step G1) _ fun v s2 W2 G2 S2 r2=>bA (QO (wpAny_evalAll_nil ?_))));obtain⟨tk,rfl,_⟩:=r2;have Nd:=al G2 (x2▸nofun) fr id;have Nf:=G1.trans G2;refine QL (wpAny_holding ?_);refine QL (J (UQ ..) ?_);refine QL (QL ?_);refine wpAny_holding (QL ((strKind prog w).pyHash (Ua prog w x tk) ?_));refine Ez (ps:=[]) (G2.heap _ _ x2 fr.1 id) rfl rfl (by simp) dc fun h3 Lm ON t3 Le vN Hc Eg He Hf Hg ye Ln=> ?_;obtain⟨S3,G3⟩:=S2.but (s':={s2 with heap:=h3,toks:=s2.toks+1}) (fun b o hb e=>(vN.2 b hb).trans e) (fun b y=>by cases y;exact Nd) rfl rfl (Te _);have Be:=Nf.base G3 fun y e h=>by cases e;exact absurd hn h
 have Ng:=Nd;have Hh:=(f.step Nf).dh G3 nl (fun m c e q=>(f.dC m c e).2.2.2 (q▸hn));have EC:({s2 with heap:=h3,toks:=s2.toks+1}:Ro).heap.get? a=some (tq Lm ON t3):=Hc;generalize ({s2 with heap:=h3,toks:=s2.toks+1}:Ro)=s3 at S3 G3 Be Hh EC⊢;refine QO ?_;dsimp only;refine J aaI (QO ?_);refine J (if_neg dc) (QO ?_);refine J (UQ ..) (QL (QL (QL (QL (h2.run A s3 W2 env R S3 E Hh _ fun v s4 W4 G4 S4 r4=>bA (QO ?_))))));refine J (if_pos rfl) ?_;obtain⟨d,Lj,m,rfl,hI,rd,nd,Qy,sL⟩:=r4;have JM:=al G4 (EC▸nofun) Ng id;have JL:a≠d:=fun e=>by subst e;cases JM.2.symm.trans hI
 have i8:(Le.map (·.1)).Perm [x]:=by have:=He.map (·.1);exact this
 refine QL (wpAny_holding (ip R.handled (G4.heap _ _ EC Ng.1 id) Eg Hf ye (Ln _ rfl rfl) (by have:=i8.length_eq;simp at this;exact ao (bC this) dc) (S4.cq _ _ hI) sL rd nd hl (fun p hp hm=>hx p hp (by simpa using(i8.mem_iff.mp hm))) JL fun s5 OO OP t5 OQ Gw GX OR OS OU OV Lo=> ?_));refine QO ?_;dsimp only;refine J aaI (QO (QO (QO ?_)));obtain⟨S5,G5⟩:=S4.but (Y:=fun b=>b=a∨s4.heap.get? b=Q6) (fun b o hb e=>Gw.keep b o (fun q=>hb (.inl q)) (fun q=>hb (.inr q)) e) (fun b y=>by
  rcases y with rfl|y
  ·exact JM
  ·exact S4.fresh y) Gw.gens Gw.os Gw.toks
 have OW:=(Be.trans G4).base G5 fun y e h=>by
  rcases e with rfl|e
  ·exact absurd hn h
  ·exact absurd e ((Be.trans G4).there y h id)
 refine q _ s5 _ (OW.base (S5.adopt JM GX).2.1 fun y e h=>by cases e;exact absurd hn h) (S5.adopt JM GX).1 ⟨a,OO,OP,t5,rfl,Wd.ak ..,⟨⟨OQ,OR, ?_⟩,OU,OV.trans Hg,Lo⟩,hz⟩;exact OS.trans (i8.append (Xu _))
end
theorem bx:Slot "set_iterator" "__next__" "set_iterator.__next__":=
 .of (owner:="set_iterator") (n:="__next__") rfl rfl rfl rfl
  dc rfl
theorem eO:WG aac "set_iterator.__next__"=some Builtin.«set_iterator.__next__»:=Yn rfl
theorem vP:Manifest.owners.lookup (String.ofList ['r','o','t','a','r','e','t','i','_','t','e','s'].reverse)=some Manifest.sig_set_iterator:=rfl
theorem fj a:argsOk "set_iterator.__next__" ⟨[a],[]⟩:=by
 delta argsOk;rw[signature?_of (n:=['_','_','t','x','e','n','_','_']) rfl vP];kernel_rfl
theorem kA:WG aac "set.__iter__"=some Builtin.«frozenset.__iter__»:=entryFor_alias (id':="frozenset.__iter__") rfl rfl (by decide+kernel) rfl
noncomputable def i9(f:Value)(i:Nat)(a:TD)(n ep:Nat):Obj:={cls:= .type "set_iterator",data:= .fields #[f,SX i, .ref a,SX n,SX ep]}
section
variable{A:Ta}{s:Ro}
theorem qf{src}{n}{Q}(hn:0<n)(h:∀i d,i<n→Q i {s with drawn:=d}):wpAny (model prog w) A (choose src n) Q E s:=by
 intro Γ p FV;exact⟨SJ hn,h _ _ (Nat.mod_lt _ hn)⟩
noncomputable abbrev ja(places:List Nat):List Value:=places.map fun(q:Nat)=>SX q
theorem yf{f}{i n ep}(hit:s.heap.get? it=some (i9 f i a n ep)) v:(s.heap.update it (V3 fun x=>x.setIfInBounds 1 v)).get? it=some {cls:= .type "set_iterator",data:= .fields #[f,v, .ref a,SX n,SX ep]}:=
 RT _ hit rfl
theorem lP{it a T}{i n ep k p}{es}{t}{places}{h0}{x}{Q}(hit:s.heap.get? it=some (i9 (.ref T) i a n ep))(ha:s.heap.get? a=some (tq es ep t))(hf:t.fits es.size=true)(hn:n=es.size)
  (hT:s.heap.get? T=some (sq "tuple" (ja places) k)) (hp:places[i]?=some p) (hx:es[p]?=some (h0,x))
  (hQ:∀h',h'.get? it=some (i9 (.ref T) (i+1) a n ep)→Sm it s.heap h'→Q (some x) {s with heap:=h'}):wpAny (model prog w) A (Uk (.ref it)) Q aX s:=by
 have uo:s.TypeIs (.ref it) "set_iterator":=⟨_,hit,rfl⟩;refine QL (Tr (RE uo bx
  (wpAny_call_entry bx uo eO ?_ (fj _))))
 refine bE rfl (bV hit rfl ?_);refine QL (VU ha rfl hf ?_);rw[if_neg (by rw[hn];simp)];refine bS hT rfl ?_;dsimp only;refine J (show(ja places).toArray[(i:Int).toNat]?=some (SX p) by simp[hp]) ?_;refine QL ?_;refine bZ ha rfl hf ?_;dsimp only;refine J (if_neg (by simp)) (bP ?_);refine J (show es[(p:Int).toNat]?=some (h0,x) by exact hx) (QO (bU hit rfl (by simp) (QO ⟨x,rfl,QO (hQ _ ?_ (Rz ..))⟩)));exact yf hit _
theorem Bf{f u v}{i n ep}(hit:s.heap.get? it=some (i9 f i a n ep)):((s.heap.update it (V3 fun x=>x.setIfInBounds 0 u)).update it (V3 fun x=>x.setIfInBounds 1 v)).get? it=some {cls:= .type "set_iterator",data:= .fields #[u,v, .ref a,SX n,SX ep]}:=by
 exact RT _ (RT _ hit rfl) rfl
theorem ni{it a T}{i n ep k}{es}{t}{places}{Q}(hh:A.handled=none)(hit:s.heap.get? it=some (i9 (.ref T) i a n ep))(ha:s.heap.get? a=some (tq es ep t))(hf:t.fits es.size=true)(hn:n=es.size)
  (hT:s.heap.get? T=some (sq "tuple" (ja places) k)) (hp:places[i]?=none)
  (hQ:∀h',U0 it s.heap h'→Q none {s with heap:=h'}):wpAny (model prog w) A (Uk (.ref it)) Q aX s:=by
 have uo:s.TypeIs (.ref it) "set_iterator":=⟨_,hit,rfl⟩;refine QL (Tr (RE uo bx
  (wpAny_call_entry bx uo eO ?_ (fj _))))
 refine bE rfl (bV hit rfl ?_);refine QL (VU ha rfl hf ?_);rw[if_neg (by rw[hn];simp)];refine bS hT rfl ?_;dsimp only;refine J (show(ja places).toArray[(i:Int).toNat]?=none by simpa using hp) ?_;refine bU hit rfl (Sh _) (bU (RT _ hit rfl) rfl (by simp) ?_);refine QL ?_;simp only[newTuple];refine bN ?_ (by size_fits);refine QL (Sq (a:=SZ) rfl ?_);refine R5 ?_ (by size_fits);refine bH ?_
 first|rw[show A.in1.handled=none from hh]|rw[hh]
 refine bP (Xj ?_);refine bI ⟨_,Q0 _ rfl,rfl⟩ UN (QO (hQ _ fun b o hb e=> ?_));exact QT _ (QT _ ((RL _ _ (Se hb)).trans ((RL _ _ (Se hb)).trans e)))
theorem kN{i n ep slot:Nat}{es}{t}{r}{Q}(hh:A.handled=none)(hit:s.heap.get? it=some (i9 (SX slot) i a n ep))(ha:s.heap.get? a=some (tq es ep t))(hf:t.fits es.size=true)(hn:n=es.size)
  (hr:∀(Q':Option (Value×Nat)→Ro→Prop) E',Q' r s→wpAny (model prog w) A.in1 (setNext a slot i ep) Q' E' s)
  (hQ:match r with
   |some (x,next)=>∀h',h'.get? it=some (i9 (SX next) (i+1) a n ep)→Sm it s.heap h'→Q (some x) {s with heap:=h'}
   |none=>∀h',U0 it s.heap h'→Q none {s with heap:=h'}):wpAny (model prog w) A (Uk (.ref it)) Q aX s:=by
 have uo:s.TypeIs (.ref it) "set_iterator":=⟨_,hit,rfl⟩;refine QL (Tr (RE uo bx
  (wpAny_call_entry bx uo eO ?_ (fj _))))
 refine bE rfl (bV hit rfl ?_);dsimp only[SX];refine QL (VU ha rfl hf ?_);rw[if_neg (by rw[hn];simp)];refine QL (J (Us ..) ?_);refine hr _ _ ?_;cases r with
 |some p=>
  refine bU hit rfl (Sh _) (bU (RT _ hit rfl) rfl (by simp) ?_);exact QO ⟨p.1,rfl,QO (hQ _ (Bf hit) (Sm.trans (Rz ..) (Rz ..)))⟩
 |none=>
  refine bU hit rfl (by simp) (QL ?_);refine bN ?_ (by size_fits);refine QL (Sq (a:=SZ) rfl ?_);refine R5 ?_ (by size_fits);refine bH ?_
  first|rw[show A.in1.handled=none from hh]|rw[hh]
  refine bP (Xj ?_);refine bI ⟨_,Q0 _ rfl,rfl⟩ UN (QO (hQ _ fun b o hb e=> ?_));exact QT _ (QT _ ((RL _ _ (Se hb)).trans e))
end
theorem iI{α:Type}:∀{l:List α}{i} h,(l[i]::l.eraseIdx i).Perm l
 |[],_,h=>by cases h
 |x::l,0,_=> .refl _
 |x::l,i+1,h=>by
  exact(Xs ..).trans ((iI (Nat.le_of_succ_le_succ h)).cons x)
theorem vQ{next:Nat→Nat}{fuel k left}{out:Array α}:VX next (fuel+1) k left out=Option.rec (motive:=fun _=>Array α) out (fun x=>VX next fuel (k+1) (left.eraseIdx (next k%left.length)) (out.push x)) left[next k%left.length]?:=kr
theorem vR{next:Nat→Nat}{fuel k left}{out:Array α}{x}(h:left[next k%left.length]?=some x):VX next (fuel+1) k left out=VX next fuel (k+1) (left.eraseIdx (next k%left.length)) (out.push x):=by
 rw[vQ,h]
theorem qg next:∀(fuel k:Nat) left(out:Array α),left.length≤fuel→(VX next fuel k left out).toList.Perm (out.toList++left):=by
 intro rv
 induction rv with
 |zero=>
  intro k left out h;have:=Rs.mp (Nat.le_zero.mp h);subst this;exact(Ra _).symm▸ .refl _
 |succ fuel ih=>
  intro k left out h;cases left with
  |nil=>exact(Ra _).symm▸ .refl _
  |cons a l=>
   have hi:next k%(a::l).length<(a::l).length:=Nat.mod_lt _ (Sh _)
   refine J (vR (Rg hi)) ((ih (k+1) _ _ ?_).trans ?_)
   ·refine J Zc (J (if_pos hi) ?_);simp at h⊢;exact h
   ·exact J (ZH ..) (J (Rm ..) (((Xu _).append (iI hi))))
theorem lQ next(xs:Array α):(Yv next xs).toList.Perm xs.toList:=by
 simpa [Yv] using(qg next xs.size 0 xs.toList #[] (QM _))
section
variable{A:Ta}{s:Ro}
theorem lR:∀n xs s{Q:List α→Ro→Prop},xs.length=n→(∀ys d,ys.Perm xs→Q ys {s with drawn:=d})→wpAny (model prog w) A (drawOrder n xs) Q E s:=by
 intro n
 induction n with
 |zero=>
  intro xs s Q hl h;cases Rs.mp hl;exact QO (h [] s.drawn (.refl _))
 |succ n ih=>
  intro xs s Q hl h;cases xs with
  |nil=>cases hl
  |cons x xs=>
   refine QL (qf (Sh _) fun i d hi=> ?_);refine J (Rg hi) (QL (ih ((x::xs).eraseIdx i) _ (by refine J Zc (J (if_pos hi) ?_);exact Vz hl) fun ys d' hp=> ?_));exact QO (h _ d' ((hp.cons _).trans (iI hi)))
noncomputable def gH(A:Ta)(it D:TD):List Value→Vi→Prop
 |[],h0=>∀s,(∀b o,b≠D→h0.get? b=some o→s.heap.get? b=some o)→∀Q,(∀h',U0 it s.heap h'→Q none {s with heap:=h'})→wpAny (model prog w) A (Uk (.ref it)) Q aX s
 |y::ys,h0=>∀s,(∀b o,b≠D→h0.get? b=some o→s.heap.get? b=some o)→∀Q,(∀h',Sm it s.heap h'→gH A it D ys h'→Q (some y) {s with heap:=h'})→
   wpAny (model prog w) A (Uk (.ref it)) Q aX s
theorem gH.keep(f:gH A it D ys h)(k:∀b o,b≠D→h.get? b=some o→h'.get? b=some o):gH A it D ys h':=by
 cases ys with
 |nil=>exact fun s k'=>f s fun b o hb e=>k' b o hb (k b o hb e)
 |cons y ys=>exact fun s k'=>f s fun b o hb e=>k' b o hb (k b o hb e)
theorem sO{it a T D}{n ep k}{es}{t}{places}(hh:A.handled=none)(hf:t.fits es.size=true)(hn:n=es.size)(h1:it≠D)(h2:a≠D)(h3:T≠D)(h4:a≠it)(h5:T≠it)(qe:∀p∈places,p<es.size):
  ∀(m i:Nat) h,m=places.length-i→i≤places.length→h.get? it=some (i9 (.ref T) i a n ep)→h.get? a=some (tq es ep t)→h.get? T=some (sq "tuple" (ja places) k)→
   gH A it D ((places.drop i).map fun p=>(es[p]?.map (·.2)).getD .none) h:=by
 intro rv
 induction rv with
 |zero=>
  intro i h hm hi e1 e2 e3;have:=r9 hi (Gn hm);subst this;exact J Vq fun s k' Q q=>(ni hh (k' _ _ h1 e1) (k' _ _ h2 e2) hf hn (k' _ _ h3 e3) (R2 (QM _)) q)
 |succ m ih=>
  intro i h hm hi e1 e2 e3;have ce:=Gp hm;refine J (Sf ce) (J Q8 ?_);intro s k' Q q;have hp:=qe _ (T4 ce);have hx:es[places[i]]?=some (es[places[i]].1,es[places[i]].2):=by rw[RN hp]
  refine lP (k' _ _ h1 e1) (k' _ _ h2 e2) hf hn (k' _ _ h3 e3) (Rg ce) hx fun h' A4 hs=> ?_;exact(show(es[places[i]]?.map (·.2)).getD .none=es[places[i]].2 by exact J hx rfl)▸(q h' hs (ih (i+1) h' (Gq hm) ce A4 ((hs.2 a h4).trans (k' _ _ h2 e2)) ((hs.2 T h5).trans (k' _ _ h3 e3))))
theorem cR{Q}(h:Q (w.params.followText "set-order") s):wpAny (model prog w) A setsByText Q E s:=by
 exact bG (QO h)
theorem Bg{it a D}{n ep}{es po:Array (Int×Value)}{t}(hh:A.handled=none)(hf:t.fits es.size=true)(hn:n=es.size)(h1:it≠D)(h2:a≠D)(h4:a≠it)
  (st:∀i s Q E,s.heap.get? a=some (tq es ep t)→Q (po[i]?.map fun e=>(e.2,0)) s→wpAny (model prog w) A.in1 (setNext a 0 i ep) Q E s):
  ∀(m i:Nat) h,m=po.toList.length-i→i≤po.toList.length→h.get? it=some (i9 (SX (0:Nat)) i a n ep)→h.get? a=some (tq es ep t)→gH A it D ((po.toList.drop i).map (·.2)) h:=by
 intro m
 induction m with
 |zero=>
  intro i h hm hi e1 e2;cases r9 hi (Gn hm);refine J Vq fun s k' Q q=>(kN (r:=none) hh (k' _ _ h1 e1) (k' _ _ h2 e2) hf hn (fun Q' E' hq=>st _ s Q' E' (k' _ _ h2 e2) ?_) q);exact J (T9 (Uf po.length_toList.symm)) ((hq))
 |succ m ih=>
  intro i h hm hi e1 e2;have ce:=Gp hm;refine J (Sf ce) (J Q8 ?_);intro s k' Q q;refine kN (r:=some (po.toList[i].2,0)) hh (k' _ _ h1 e1) (k' _ _ h2 e2) hf hn (fun Q' E' hq=>st i s Q' E' (k' _ _ h2 e2) ?_) fun h' A4 hs=>q h' hs (ih (i+1) h' (Gq hm) ce A4 ((hs.2 a h4).trans (k' _ _ h2 e2)));exact aO Ui (J (Rg ce) ((hq)))
theorem vS{it a D}{n ep}{es}{t}(hh:A.handled=none)(hf:t.fits es.size=true)(hn:n=es.size)(h1:it≠D)(h2:a≠D)(h4:a≠it)(hb:w.params.followText "set-order"=true):
  ∀(m i:Nat) h,m=(Yv (w.params.setOrder a ep) es).toList.length-i→i≤(Yv (w.params.setOrder a ep) es).toList.length→h.get? it=some (i9 (SX (0:Nat)) i a n ep)→h.get? a=some (tq es ep t)→
   gH A it D (((Yv (w.params.setOrder a ep) es).toList.drop i).map (·.2)) h:=
 Bg hh hf hn h1 h2 h4 fun i s Q E ha hq=>by
  refine bZ ha rfl hf (QL (cR ?_));refine J hb (J (if_pos rfl) (J (if_neg (by simp)) ?_));refine QL (bZ ha rfl hf (QL (cR ?_)));exact J hb (J (if_pos rfl) ((bG (QO (QO hq)))))
end
section
variable{A:Ta}{s:Ro}
theorem qh{slot given ep r:Nat}{j}{es}{t}{E}{Q}(ha:s.heap.get? a=some (tq es ep t))(hf:t.fits es.size=true)(h1:es.size=1)(hb:w.params.followText "set-order"=false)(hl:t.led=true)(hp:t.place=#[j])
  (h:Q (if j<slot then none else(es[0]?.map fun e=>(e.2,j+1))) s):wpAny (model prog w) A (setNext a slot given ep) Q E s:=by
 refine bZ ha rfl hf (QL (cR ?_));refine J hb (J (if_neg Ry) ?_);refine U9 (fun nL=>absurd nL (show¬((!t.plain&&decide (es.size>1))=true) from by refine J h1 ?_;simp)) (fun _=> ?_);refine bE (show(if(!t.led&& !es.isEmpty)=true then Wg "set:maker-not-led" else pure ())=pure () from by refine J hl ?_;rfl) ?_;have Lp:WI.below #[j] slot=if j<slot then 1 else 0:=by
  show X8 #[j] slot 1 0 1=_
  delta X8
  by_cases hj:j<slot
  ·rfl
  ·rfl
 refine QO (J hp (J Lp ?_));by_cases hj:j<slot
 ·rw[if_pos hj] at h⊢;have:es[1]?=none:=by rw[Array.getElem?_eq_none_iff];exact bC h1
  exact this▸h
 ·rw[if_neg hj] at h⊢;rw[(RN (lg h1))] at h⊢;exact h
theorem yg{it a D}{n ep j}{es}{t}(hh:A.handled=none)(hf:t.fits es.size=true)(hn:n=es.size)(h1:it≠D)(h2:a≠D)(h4:a≠it)(hb:w.params.followText "set-order"=false)(hl:t.led=true)(Bc:es.size=1)(hp:t.place=#[j])
  {h} (e1:h.get? it=some (i9 (SX (0:Nat)) 0 a n ep)) (e2:h.get? a=some (tq es ep t)):gH A it D (es.toList.map (·.2)) h:=by
 obtain⟨x,hx⟩:=Array.size_eq_one_iff.mp Bc;subst hx;intro s k' Q q;refine kN (r:=some (x.2,j+1)) hh (k' _ _ h1 e1) (k' _ _ h2 e2) hf hn (fun Q' E' hq=>qh (r:=0) (k' _ _ h2 e2) hf rfl hb hl hp ?_) fun h' A4 hs=>q h' hs ?_
 ·exact J (if_neg (Jt (Rr _))) ((hq))
 ·intro s2 k2 Q2 q2;refine kN (r:=none) hh (k2 _ _ h1 A4) (k2 _ _ h2 ((hs.2 a h4).trans (k' _ _ h2 e2))) hf hn (fun Q' E' hq=>qh (r:=0) (k2 _ _ h2 ((hs.2 a h4).trans (k' _ _ h2 e2))) hf rfl hb hl hp ?_) q2;exact J (if_pos (Gs (QM _))) ((hq))
theorem map_range{es:Array (Int×Value)}:(Uy es.size).map (fun p=>(es[p]?.map (·.2)).getD .none)=es.toList.map (·.2):=by
 apply List.ext_getElem
 ·simp
 ·intro i h1 h2;simp[(by simpa using h1)]
theorem sP{ep}{es}{t}{l}{Q}(hh:A.handled=none)(ha:s.heap.get? a=some (tq es ep t))(X:DZ es t l)(sN:l≠[])(d4:l.length≤2)(hD:s.heap.get? D≠none)(F3:a≠D)
  (h:∀it h' d ys,(∀b o,s.heap.get? b=some o→h'.get? b=some o)→s.heap.get? it=none→it≠D→ys.Perm (es.toList.map (·.2))→gH A it D ys h'→Q (.ref it) {s with heap:=h',drawn:=d}):
  wpAny (model prog w) A (VP (.ref a)) Q aX s:=by
 refine QK fun kG=> ?_;obtain⟨⟨ps,i8,sQ⟩,hf,x8,qe⟩:=X;refine kG ?_;have hsz:es.size=l.length:=by rw[←TW,i8,QP,←sQ.length_eq,QP]
 have hT:s.TypeIs (.ref a) "set":=⟨_,ha,rfl⟩;refine wpAny_pyIter_slot hT Ys (wpAny_call_entry Ys hT kA ?_ (PySem.F.args_set_iter_1 _));refine QL (Sq rfl ?_);refine QL (QL (VU ha rfl hf (QO ?_)));refine QL (QL (wpAny_setState_of ha rfl hf ?_));refine QL (cR (QO ?_));have ED:∀it,s.heap.get? it=none→a≠it:=fun it e q=>by subst q;cases ha.symm.trans e
 have yh:∀it,s.heap.get? it=none→it≠D:=fun it e q=>by cases q;exact hD e
 have fin:∀s1 f d h1,s1={s with heap:=h1,drawn:=d}→(∀b o,s.heap.get? b=some o→h1.get? b=some o)→s.heap.get? h1.objs.size=none→
   (∃ys,ys.Perm (es.toList.map (·.2))∧gH A h1.objs.size D ys (h1.push (i9 f 0 a es.size ep)))→
   wpAny (model prog w) A.in1 (do
    let x ←setEpoch a
    let r ←newFields "set_iterator" [f,SX 0, .ref a,SX es.size,SX x]
    ret r) (fun fin s'=>∃v,fin= .done (.ret v)∧∃T r,s'.TypeIs v T∧Vj (.type T) (Vf "__next__")=pure (some r)∧Q v s') aX s1:=by
  rintro s1 f d h1 rfl k hn ⟨ys,hy,Lq⟩;refine QL (wpAny_setEpoch_of (k _ _ ha) rfl hf ?_);refine bN (QO ⟨_,rfl,"set_iterator",_,⟨_,Q0 _ rfl,rfl⟩,bx.lookup, ?_⟩) (by size_fits);exact h _ _ d ys (fun b o e=>QT _ (k b o e)) hn (yh _ hn) hy Lq
 cases hb:w.params.followText "set-order" with
 |true=>
  refine bP ?_;have hn:=ae s.heap;refine fin s _ s.drawn s.heap rfl (fun _ _ e=>e) hn ⟨_,(lQ (w.params.setOrder a ep) es).map _, ?_⟩;exact(vS hh hf rfl (yh _ hn) F3 (ED _ hn) hb _ 0 (s.heap.push (i9 (SX 0) 0 a es.size ep)) rfl (Rr _) (Q0 _ rfl) (QT _ ha))
 |false=>
  by_cases h1:es.size=1
  ·refine U9 (fun nL=>absurd nL (show¬((!t.plain&&decide (es.size>1))=true) from by refine J h1 ?_;simp)) (fun _=>bP ?_);have hn:=ae s.heap;have hp:∃j,t.place=#[j]:=by
    rw[WI.fits,Q5,beq_iff_eq] at hf
    match hh:t.place,(show t.place.size=1 by exact J hf.1 (J h1 rfl)) with
    |⟨[j]⟩,_=>exact⟨j,rfl⟩
   obtain⟨j,hj⟩:=hp;exact fin s _ s.drawn s.heap rfl (fun _ _ e=>e) hn ⟨_, .refl _,yg hh hf rfl (yh _ hn) F3 (ED _ hn) hb (by refine J x8 (J hb ?_);rfl) h1 hj (Q0 _ rfl) (QT _ ha)⟩
  ·have h2:es.size>1:=by
    have:l.length≠0:=fun q=>sN (Rs.mp q);lia
   refine U9 (fun _=> ?_) (fun nL=>absurd (show((!t.plain&&decide (es.size>1))=true) from by refine J qe ?_;simpa using h2) nL);refine QL (lR _ _ _ (by simp) fun places d hp=> ?_);refine bN ?_ (by show(TX (fun(i:Nat)=>SX i) places).toArray.size≤QW;rw[Re,QP,hp.length_eq,ZP,Rv];exact ao (bC hsz) (ao d4 dc));have k1:∀b o,s.heap.get? b=some o→(s.heap.push (sq "tuple" (ja places) 0)).get? b=some o:=fun b o e=>QT _ e;have hn:s.heap.get? (s.heap.push (sq "tuple" (ja places) 0)).objs.size=none:=by
    refine J (RI ..) ?_;cases e:s.heap.get? (s.heap.objs.size+1) with
    |none=>rfl
    |some o=>exact absurd (Rq e) (Tw.mpr (Te _))
   refine fin _ (.ref s.heap.objs.size) d (s.heap.push (sq "tuple" (ja places) 0)) rfl k1 hn ⟨places.map fun p=>(es[p]?.map (·.2)).getD .none, ?_, ?_⟩
   ·exact map_range▸hp.map _
   ·have:=sO hh hf rfl (yh _ hn) F3 (yh _ (ae s.heap)) (ED _ hn) (J (RI ..) ((FS (QM _))))
     (fun p hm=>by simpa using((hp.mem_iff).mp hm)) _ 0 ((s.heap.push (sq "tuple" (ja places) 0)).push (i9 (.ref s.heap.objs.size) 0 a es.size ep)) rfl (Rr _) (Q0 _ rfl)
     (QT _ (k1 _ _ ha)) (QT _ (Q0 _ rfl))
    exact this
end
section
variable{A:Ta}{s:Ro}
theorem yi(hT:s.TypeIs (.ref r) "set")(h:Q false s):wpAny (model prog w) A (WS (.ref r)) Q E s:=by
 refine bY hT PySem.F.slot_set_len.lookup ?_;generalize Nh:"set.__len__"=OX
 wp_delta
 refine J (show splitId OX=some ("set","__len__") from by subst Nh;decide+kernel) ?_;subst Nh;refine bI (b:=true) hT rfl (U9 (fun nL=>absurd nL dc) (fun _=> ?_));refine U9 (fun _=> ?_) (fun nL=>absurd rfl nL);exact bT hT (QO h)
theorem yj{R}(aU:it≠D):∀ys s acc c,gH A.in1 it D ys s.heap→s.heap.get? D=some (sq "list" acc c)→acc.length+ys.length≤QW→
  (∀h' c',(∀b o,b≠D→b≠it→s.heap.get? b=some o→h'.get? b=some o)→h'.get? D=some (sq "list" (acc++ys) c')→R (.ok (.ret res)) {s with heap:=h'})→
   SM (model prog w) A (.builtin "list.extend.loop" ⟨[.ref D, .ref it,res],[]⟩) R s:=by
 intro rv
 induction rv with
 |nil=>
  intro s acc c f hD hz h;refine So Uu (J (RX Sd _) ?_);refine QL (Ri (f s (fun _ _ _ e=>e) _ fun h' hx=> ?_) (fun _ _ z=>z) fun _ _ e=>e.elim);refine QO (h h' c (fun b o _ hb e=>hx b o hb e) ?_);exact J (Ra ..) ((hx D _ (Se aU) hD))
 |cons y ys ih=>
  intro s acc c f hD hz h;refine So Uu (J (RX Sd _) ?_);refine QL (Ri (f s (fun _ _ _ e=>e) _ fun h' hs f'=> ?_) (fun _ _ z=>z) fun _ _ e=>e.elim);have sR:=(hs.2 D (Se aU)).trans hD;refine QL (Uw sR rfl ?_ (lb hz) (by refine J (XX ..) (J (Re ..) ?_);exact a9 (lb hz) (QM _)));obtain⟨c2,sB⟩:∃c2,(h'.update D (Ru (·.push y))).get? D=some (sq "list" (acc++[y]) c2):=by
   have:=TZ sR (·.push y);rw[(show acc.toArray.push y=(acc++[y]).toArray by simp)] at this;exact⟨_,this⟩
  have keep:∀b o,b≠D→h'.get? b=some o→(h'.update D (Ru (·.push y))).get? b=some o:=fun b o hb e=>(RL _ _ (Se hb)).trans e;refine QO ⟨TK Sd _,ih {s with heap:=h'.update D (Ru (·.push y))} (acc++[y]) c2 (f'.keep keep) sB (by simp at hz⊢;exact ik hz) fun h2 c3 k2 e2=> ?_⟩;refine h h2 c3 (fun b o hb C1 e=>k2 b o hb C1 (keep b o hb ((hs.2 b C1).trans e))) ?_;rw[Rm] at e2;exact e2
theorem qi{es}{t}{l}{R}(hh:A.handled=none)(ha:s.heap.get? a=some (tq es ep t))(X:DZ es t l)(sN:l≠[])(d4:l.length≤2)
  (h:∀h' d ys,(∀b o,s.heap.get? b=some o→h'.get? b=some o)→ys.Perm (es.toList.map (·.2))→R ys {s with heap:=h',drawn:=d}):wpAny (model prog w) A (collect (.ref a)) R aX s:=by
 refine QL (Y1 (So entry_proto_collect' ?_));refine J (RX PySem.F.plain_proto_collect _) (bN ?_ (by size_fits));refine QO ⟨TK Yd _,So entry_list_iadd' ?_⟩;refine J (RX Yd _) ?_;have F3:a≠s.heap.objs.size:=fun q=>by cases(ae ..)▸(q ..)▸ha
 have ho:(s.heap.push (sq "list" [] 0)).get? s.heap.objs.size=some (sq "list" [] 0):=Q0 _ rfl;have k1:∀b o,s.heap.get? b=some o→(s.heap.push (sq "list" [] 0)).get? b=some o:=fun b o e=>QT _ e;refine bT (⟨_,k1 _ _ ha,rfl⟩) ?_;simp only[(show Up (.ref s.heap.objs.size) (.ref a)=false by simp[Up,Se F3])];refine QL (sP hh (k1 _ _ ha) X sN d4 (by refine J (ho) ?_;exact nofun) F3 fun it h' d ys k2 hn aU hp Lq=> ?_);have sA:=k2 _ _ ho;refine QL (wpAny_holding (yi ⟨_,k2 _ _ (k1 _ _ ha),rfl⟩ ?_));have hlen:ys.length≤2:=by
  refine J (hp.length_eq ..) (J (QP ..) ?_);obtain⟨⟨ps,i8,sQ⟩,_⟩:=X;refine J (i8 ..) (J (QP ..) ?_);have:=sQ.length_eq;rw[QP] at this;exact ao (bC this) d4
 have fin:∀h3 c,(∀b o,b≠s.heap.objs.size→h'.get? b=some o→h3.get? b=some o)→h3.get? s.heap.objs.size=some (sq "list" [] c)→
   SM (model prog w) A (.builtin "list.extend.loop" ⟨[.ref s.heap.objs.size, .ref it, .ref s.heap.objs.size],[]⟩) (fun r s'=>match r with
    | .ok (.ret v)=>wpAny (model prog w) A (match v with
      | .ref a=>do
       match(←load a).data with
        | .seq xs _=>pure xs.toList
        |_=>Wg "internal:collect"
      |_=>Wg "internal:collect") R aX s'
    | .ok _=>False| .error e=>aX e s') {s with heap:=h3,drawn:=d}:=by
  intro h3 c k3 hc;refine yj aU ys {s with heap:=h3,drawn:=d} [] c (Lq.keep k3) hc (by simp;exact eG hlen) fun h4 c' k4 e4=>(bL e4 (QO (h h4 d ys (fun b o e=> ?_) hp)));have hb:b≠s.heap.objs.size:=fun q=>by replace e:=(ae ..)▸(q ..)▸e;cases e
  have C1:b≠it:=fun q=>by rw[q] at e;have:=k1 _ _ e;have:=(hn)▸this;cases this
  exact k4 b o hb C1 (k3 b o hb (k2 b o (k1 b o e)))
 refine U9 (fun _=> ?_) (fun _=>QO ⟨TK Sd _,fin h' 0 (fun _ _ _ e=>e) sA⟩);refine bR (QL ?_);refine QL (U8 sA rfl ?_);have qj:=RT (Ru (·.push SZ)) sA rfl;exact U8 qj rfl (QO ⟨TK Sd _,fin _ _ (fun b o hb e=>(RL _ _ (Se hb)).trans ((RL _ _ (Se hb)).trans e)) (RT (Ru (·.pop)) qj rfl)⟩)
end
noncomputable def Ax(x y:Rj):Bool:=decide (x.cps.toList<y.cps.toList)
noncomputable def j7:List Rj→List Rj→Bool
 |[],ys=> !ys.isEmpty
 |_::_,[]=>false
 |x::xs,y::ys=>if x=y then j7 xs ys else Ax x y
theorem lS:j7 (x::xs) (y::ys)=if x=y then j7 xs ys else Ax x y:=rfl
section
variable{A:Ta}{s:Ro}
theorem Bh{xs ys:List (Rj×Tok)}{m k}{R}(ha:s.heap.get? a=some (sq "list" (xs.map fun p=>RA p.1 p.2) m))(hb:s.heap.get? b=some (sq "list" (ys.map fun p=>RA p.1 p.2) k)):
  ∀(j i:Nat),xs.length-i=j→i≤xs.length→i≤ys.length→R (.ok (.ret (.bool (j7 ((xs.drop i).map (·.1)) ((ys.drop i).map (·.1)))))) s→
   SM (model prog w) A (.builtin "list.__eq__.loop" ⟨[.ref a, .ref b,SX i,SX 0],[]⟩) R s:=by
 intro j
 induction j with
 |zero=>
  intro i hj hi OY h;refine So XZ (J (RX UD _) ?_);have e:=Wa (Kf hj);replace h:=e▸h;refine QL (Th ha rfl (QL (Th hb rfl ?_)));have h1:(TX (fun p:Rj×Tok=>RA p.1 p.2) xs).toArray[(i:Int).toNat]?=none:=by simp;exact Kf hj
  refine J h1 (QL (Th ha rfl (QL (Th hb rfl (QO ?_)))));show R (.ok (.ret (.bool (decide ((TX (fun p:Rj×Tok=>RA p.1 p.2) xs).toArray.size<(TX (fun p:Rj×Tok=>RA p.1 p.2) ys).toArray.size))))) s;have e2:decide ((TX (fun p:Rj×Tok=>RA p.1 p.2) xs).toArray.size<(TX (fun p:Rj×Tok=>RA p.1 p.2) ys).toArray.size)=j7 [] ((ys.drop i).map (·.1)):=by
   show _= !List.isEmpty _;cases hd:ys.drop i with
   |nil=>have:=List.drop_eq_nil_iff.mp hd;simp;exact ao this hi
   |cons p q=>have:=congrArg SF hd;simp at this⊢;exact elt (Kf hj) (Gs (MO this))
  exact e2▸h
 |succ j ih=>
  intro i hj hi OY h;refine So XZ (J (RX UD _) ?_);have ce:i<xs.length:=MO hj;have h1:(TX (fun p:Rj×Tok=>RA p.1 p.2) xs).toArray[(i:Int).toNat]?=some (.str xs[i].1 xs[i].2):=by simp[ce]
  rw[(Sf ce)] at h;refine QL (Th ha rfl (QL (Th hb rfl ?_)));refine J h1 ?_;by_cases hy:i<ys.length
  ·have h2:(TX (fun p:Rj×Tok=>RA p.1 p.2) ys).toArray[(i:Int).toNat]?=some (.str ys[i].1 ys[i].2):=by simp[hy]
   rw[(Sf hy)] at h;refine J h2 (QL (eqBool_str ?_));rw[Q8,Q8,lS] at h;by_cases he:xs[i].1=ys[i].1
   ·rw[if_pos he] at h;refine J (if_pos (beq_iff_eq.mpr he)) ?_;refine bP (QO ⟨TK UD _, ?_⟩);exact(show(i+1)=((i+1:Nat):Int) from rfl)▸ih (i+1) (MP hj) ce hy h
   ·rw[if_neg he] at h;rw[if_neg (by simp[he])];refine QL (Th ha rfl (QL (Th hb rfl ?_)));refine J h1 (J h2 ?_);refine QL (lt_str ?_);exact QO h
  ·have h2:(TX (fun p:Rj×Tok=>RA p.1 p.2) ys).toArray[(i:Int).toNat]?=none:=by simp;exact AN hy
   refine J h2 (QL (Th ha rfl (QL (Th hb rfl (QO ?_)))));rw[(Wa (AN hy))] at h;show R (.ok (.ret (.bool (decide ((TX (fun p:Rj×Tok=>RA p.1 p.2) xs).toArray.size<(TX (fun p:Rj×Tok=>RA p.1 p.2) ys).toArray.size))))) s;have e2:decide ((TX (fun p:Rj×Tok=>RA p.1 p.2) xs).toArray.size<(TX (fun p:Rj×Tok=>RA p.1 p.2) ys).toArray.size)=false:=by
    simp only[Re,QP,decide_eq_false_iff_not];exact Jt (ao (AN hy) (CJ ce))
   exact e2▸h
theorem oG{xs ys:List (Rj×Tok)}{m k}{Q E}(ha:s.heap.get? a=some (sq "list" (xs.map fun p=>RA p.1 p.2) m))(hb:s.heap.get? b=some (sq "list" (ys.map fun p=>RA p.1 p.2) k))
  (h:Q (.bool (j7 (xs.map (·.1)) (ys.map (·.1)))) s):wpAny (model prog w) A (call (.builtin "list.__lt__") [.ref a, .ref b]) Q E s:=by
 refine UP (aak F.slot_list_lt.plain F.entry_list_lt (F.slot_list_lt.check _ _ _ _ _ _ _ _ ⟨_,ha,rfl⟩ (F.args_list_lt_2 _ _) ?_));show wpAny (model prog w) A.in1 (do
  let(a',[b']) ←slotArgs "__lt__" 1 ⟨[.ref a, .ref b],[]⟩|unsupported "internal:list.compare"
  if !(←isInstance b' (.type "list")) then return ←ret .notImplemented
  aae (.builtin "list.__eq__.loop" ⟨[a',b',SX 0,SX 0],[]⟩)) _ _ s
 refine QL (QO ?_);refine bI (b:=true) ⟨_,hb,rfl⟩ rfl (J (if_neg dc) ?_);refine QO ⟨TK UD _, ?_⟩;exact Bh ha hb _ 0 rfl (Rr _) (Rr _) h
theorem yk{xs ys:List (Rj×Tok)}{m k}{Q}{E}(hu:A.units<aad)(ha:s.heap.get? a=some (sq "list" (xs.map fun p=>RA p.1 p.2) m))(hb:s.heap.get? b=some (sq "list" (ys.map fun p=>RA p.1 p.2) k))
  (h:Q (j7 (xs.map (·.1)) (ys.map (·.1))) s):wpAny (model prog w) A (keyLt' oneType' (.ref a) (.ref b)) Q E s:=by
 refine J (keyLt'_oneType ..) (J (oneLt'_eq ..) ?_);refine QL (wpAny_cRoomFor hu ?_);refine QL (wpAny_callSpecialIfBound?_slot ⟨_,ha,rfl⟩ F.slot_list_lt (oG ha hb ?_));exact X9 h
end
noncomputable def bh{α:Type}(c:Bool)(x y:α):List α:=if c then [y,x] else [x,y]
theorem OZ:kas_sort 2= .ask 1 0 fun c=> .ret (if c=true then#[1,0] else#[0,1]):=by
 show KasT.ask 1 0 _=_;congr 1;funext c;cases c<;>kernel_rfl
theorem gI{α:Type}{l:List α}(h:l.length≤2):l=[]∨(∃a,l=[a])∨∃a b,l=[a,b]:=by
 cases l with
 |nil=>exact .inl rfl
 |cons a l=>cases l with
  |nil=>exact .inr (.inl ⟨a,rfl⟩)
  |cons b l=>cases l with
   |nil=>exact .inr (.inr ⟨a,b,rfl⟩)
   |cons c l=>exact absurd h (by simp)
theorem Hi{α β:Type}{l:List α}{m:List β}(h:m.length=l.length)(h1:1≤l.length)(h2:l.length≤2):(∃a x,l=[a]∧m=[x])∨∃a b x y,l=[a,b]∧m=[x,y]:=by
 rcases gI h2 with rfl|⟨a,rfl⟩|⟨a,b,rfl⟩
 ·cases h1
 ·obtain⟨x,rfl⟩:=YS.mp h;exact .inl ⟨a,x,rfl,rfl⟩
 ·rcases gI (Uf h) with rfl|⟨x,rfl⟩|⟨x,y,rfl⟩
  ·cases h
  ·cases h
  ·exact .inr ⟨a,b,x,y,rfl,rfl⟩
theorem EE{α:Type}{l:List α}(h:2=l.length):∃a b,l=[a,b]:=by
 rcases gI (Uf h.symm) with rfl|⟨x,rfl⟩|h
 ·cases h
 ·cases h
 ·exact h
section
variable{A:Ta}{s:Ro}
theorem Hj{k0 k1 v0 v1}{Q:SortSt→Ro→Prop}{E}
  (h:wpAny (model prog w) A (keyLt' κ k1 k0) (fun c s'=>∀ym,(aaQ ym).map (·.2)=(bh c v0 v1).toArray→Xp ym=none→Q ym s') (fun _ _=>False) s):
  wpAny (model prog w) A ((sortRuns').run (SortSt.mk' κ ((SQ [k0,k1]).zip (SQ [v0,v1])) #[] 7 none)) (fun r s'=>Q r.2 s') E s:=by
 refine kat_run (G:=fun p s'=>∀ym,aaQ ym=p.map (kas_item ((SQ [k0,k1]).zip (SQ [v0,v1])))→Xp ym=none→Q ym s') rfl (QM 2) (by show 2<64;decide) (fun p ym s' _ h1 h2 g=>g ym h1 h2) (J OZ ?_);refine Ri h (fun c s' hc=> ?_) fun _ _ x=>x;intro ym h1 h2;refine hc ym ?_ h2;refine J (kat_snds (ks:=[k0,k1]) (vs:=[v0,v1]) rfl h1) ?_;cases c<;>rfl
theorem Hk{keys}{c ck}{R:List Value→Prop}{P}{E}(hlen:keys.length=items.length)(h1:1≤items.length)(h2:items.length≤2)
  (hD:s.heap.get? D=some (sq "list" [] c)) (hk:s.heap.get? kS=some (sq "list" keys ck)) (aU:kS≠D)
  (Bi:items.length=1→R items)
  (EF:∀k0 k1 v0 v1,keys=[k0,k1]→items=[v0,v1]→wpAny (model prog w) A (keyKind' keys.toArray) (fun κ s'=>wpAny (model prog w) A (keyLt' κ k1 k0) (fun b dL=>dL=s∧R (bh b v0 v1)) (fun _ _=>False) s') (fun _ _=>False) s)
  (h:∀h' out n m,(∀b o,b≠D→b≠kS→s.heap.get? b=some o→h'.get? b=some o)→h'.get? D=some (sq "list" out n)→h'.get? kS=some (sq "list" [] m)→R out→out.length=items.length→P (.done (.ret .none)) {s with heap:=h'}):
  wpAny (model prog w) A (ksk_end D false items.toArray c (.ref kS) keys.toArray) P E s:=by
 have tail:∀st out,(aaQ st).map (·.2)=out.toArray→Xp st=none→R out→out.length=items.length→wpAny (model prog w) A (ksk_tail D false c (.ref kS) st) P E s:=by
  intro st out ho hf hr hl
  delta ksk_tail
  refine J ho (J hf ?_);refine QL (Uw hk rfl ?_ (ao (bC hlen) (ao h2 dc)) (Rr _));have s1:=Rz s.heap kS (Ru fun _=>(#[]:Array Value));have vT:=(s1.2 D (Se aU)).trans hD;refine bO (QL (YE vT rfl ?_));have s2:=Rz (s.heap.update kS (Ru fun _=>(#[]:Array Value))) D (Ru fun _=>out.toArray);obtain⟨c2,sB⟩:∃c2,((s.heap.update kS (Ru fun _=>(#[]:Array Value))).update D (Ru fun _=>out.toArray)).get? D=some (sq "list" out c2):=⟨_,TZ vT fun _=>out.toArray⟩;obtain⟨c1,KZ⟩:∃c1,(s.heap.update kS (Ru fun _=>(#[]:Array Value))).get? kS=some (sq "list" [] c1):=⟨_,TZ hk fun _=>#[]⟩;refine QL (Uw vT rfl ?_ (Rr _) (J Re (J Rv ((ao (bC hl) (ao h2 dc))))));rw[bne_self_eq_false];exact QO (h _ out c2 c1 (fun b o hb sS e=>(s2.2 b hb).trans ((s1.2 b sS).trans e)) sB ((s2.2 kS aU).trans KZ) hr hl)
 delta ksk_end
 dsimp only;simp only[ZG,if_false];rcases Hi hlen h1 h2 with⟨v0,k0,e,e'⟩|⟨v0,v1,k0,k1,e,e'⟩<;>subst e e'
 ·have hs:=Vu 1;refine J (if_pos hs) (J (if_pos hs) ?_);refine bP (J (XI ..) ?_);exact bP (tail _ [v0] (by show Array.map (·.2) ((SQ [k0]).zip (SQ [v0]))=_;simp) rfl (Bi rfl) rfl)
 ·have hs:=Sj 2;refine J (if_neg hs) (J (if_neg hs) ?_);refine QL (Ri (EF k0 k1 v0 v1 rfl rfl) (fun κ s' Lr=> ?_) fun _ _ x=>x.elim);refine QL (Ri (Hj (Q:=fun st dL=>dL=s∧∃b,(aaQ st).map (·.2)=(bh b v0 v1).toArray∧Xp st=none∧R (bh b v0 v1)) (Ri Lr (fun b dL hb st h3 h4=>⟨hb.1,b,h3,h4,hb.2⟩) fun _ _ x=>x)) (fun r dL hr=> ?_) fun _ _ x=>x);obtain⟨⟨⟩,st⟩:=r;obtain⟨rfl,b,h3,h4,h5⟩:=hr;exact tail st _ h3 h4 h5 (by cases b<;>rfl)
end
section
variable{n:Nat}{F:Fx}{ρ am cU hJ:Loc}{H H1 H2 H3 H4 H5:AH}{g:Fl}
theorem an.Hl{s s'}{i}{a}{ob}(S:an W H s)(hi:W.φ[i]?=some a)(ff:W'.φ=W.φ)(hC:W'.C=W.C)(l:W.le W')(hI:W'.I a=none)
  (yn:∀b o,W'.I b=some o→W.I b=some o∨s.heap.get? b=none) (Hm:∀b o,W'.I b=some o→s'.heap.get? b=some o)
  (k:∀b o,b≠a→s.heap.get? b=some o→s'.heap.get? b=some o) (hs:s'.heap.get? a≠none) (g:s'.gens=s.gens) (os:s'.os=s.os) (ht:s.toks≤s'.toks) (h:OA W' s'.heap a ob):
  an W' (H.set i (some ob)) s'∧Gr cr W s W' s':=by
 have th:∀b,s.heap.get? b≠none→s'.heap.get? b≠none:=fun b e=>by
  by_cases hb:b=a
  ·cases hb;exact hs
  ·cases q:s.heap.get? b with
   |none=>exact(e q).elim
   |some o=>exact(k b o hb q)▸nofun
 refine⟨⟨Hm,fun b o e=>l.2.1 _ _ (S.gr b o e),by refine J ff ?_;exact S.nodup,by refine J Sl (J ff ?_);exact S.len,fun b m=>th b (S.lt b (by rw[ff] at m;exact m)),fun j o e=> ?_,by rw[g];exact S.bare,RM S.tk ht,fun u x h=>by rw[hC] at h;exact⟨(S.col u x h).1,RM (S.col u x h).2 ht⟩⟩,
  ⟨l,fun b m=> .inl (by rw[ff] at m;exact m),fun b o e=>(yn b o e).imp_right fun q=> .inr (.inl q),fun b o e hn _=>k _ _ (fun q=>hn (by subst q;exact RJ hi)) e,fun b h _=>th b h,os,by exact g▸fun _ _ h=>h⟩⟩
 rcases ci e with⟨h1,h2⟩|⟨Gy,h2⟩
 ·subst h1;cases h2;exact⟨a,by refine J ff ?_;exact hi,hI,h⟩
 ·obtain⟨b,p,q,r⟩:=S.live j o h2;have Kl:b≠a:=fun z=>by
   subst z;have h1:=QY.mp hi;have h3:=QY.mp p;exact Gy (lx S.nodup h1.1 h3.1 (h1.2.trans h3.2.symm))
  refine⟨b,by exact ff▸p, ?_,eW l (pM r fun o h=>k _ _ Kl h)⟩;cases e2:W'.I b with
  |none=>rfl
  |some o2=>
   rcases yn b o2 e2 with q2|q2
   ·cases q.symm.trans q2
   ·exact absurd q2 (S.lt b (RJ p))
noncomputable abbrev Ls(q:Rj)(o:Obj)(_:Value):Prop:=∃vs t,o.data= .fields vs∧vs[1]?=some (.str q t)
noncomputable abbrev Lu(q:Rj)(params:Arguments)(body:SD)(scope:aaf)(o:Obj)(u:Value):Prop:=∃pm yo,o={cls:= .type "function",data:= .func (kla_fn "<lambda>" q params body scope [] pm u yo)}
noncomputable abbrev V.lam(q:Rj)(params:Arguments)(body:SD)(scope:aaf):V:= .raw (Lu q params body scope) (.raw (Ls q) .none)
theorem uD:codeAmong p [SX p.line,SX p.col,c]=some c:=by
 simp[codeAmong,SX]
theorem ET.EG{scope}{pos}{q0}{c P}{i:Nat}(B:Jz)(hF:F.code= .ref c)(hq:F.qual=some q0)(Lv:∀env,defaultsOf params env=([],[]))(gi:∀env,X2 scope env=pure [])
  (hb:∀h:Vi,(∀a o,bo a=some o→h.get? a=some o)→h.BuiltinsAt mg P) (C:∀h,(∀a o,bo a=some o→h.get? a=some o)→CodeHd h c P) (hP:mainGlobals≠P) (hH:H[i]?=some (some (.tab P pos (q0++"<lambda>")))):
  ET n F (.Lambda params body scope pos) ρ H (V.lam (q0++"<lambda>") params body scope) H:= .mk fun A s W env R S E f Q q=>by
 refine kla_eval (Lv env) (J (E.qual _ hq) ?_);refine QK fun kG=> ?_;obtain⟨a,ha,EH,rfl,ps,i8,yp⟩:=S.live _ _ hH;refine kG ?_;have ht:H.set i (some (.tab a pos (q0++"<lambda>")))=H:=by
  refine Xn fun j=>(J Xm ?_);refine bl (fun _=> ?_) fun _=> ?_
  ·rename_i e;subst e;refine J hH ?_;simp[(QY.mp hH).1]
  ·rfl
 refine QK fun kG=> ?_;rcases yp with rfl|⟨c',oc,vs,t,rfl,pN,hd,hv⟩<;>refine kG ?_
 ·refine wpAny_toks (kla_makeFunction (gi env) E.globals (B.g _ S.ground) (E.code.trans hF) (C _ S.ground) i8 trivial rfl hP (hb _ S.ground) fun c' yo h' tk hx F4 ce EI Ni lT=> ?_);refine QK fun kG=> ?_;obtain⟨c2,oc,vs,t,e2,EB,hd,hv⟩:=EI;refine kG ?_;cases e2;have Lw:c'≠a:=fun e=>by subst e;exact absurd (Rq i8) (Tw.mpr F4)
  have Ay:=Ss F4;obtain⟨S1,G1⟩:=S.Hl (s':={s with heap:=h',toks:=tk}) (W':=W.put c' oc) (ob:= .tab a pos (q0++"<lambda>")) ha rfl rfl (Wd.lj (S.fresh Ay).2) (by simp[Wd.put,Se Lw,EH]) (fun b o e=>by
    by_cases hb:b=c'
    ·exact .inr (hb▸Ay)
    ·exact .inl (by simpa [Wd.put,hb] using e)) (fun b o e=>by
    by_cases hb:b=c'
    ·cases hb;replace e:=(Wd.ak ..)▸e;cases e;exact EB
    ·have e:W.I b=some o:=by simpa [Wd.put,hb] using e
     exact hx b o (fun z=>by cases z;cases EH.symm.trans e) (S.cq b o e)) (fun b o hb e=>hx b o hb e) (Ni▸nofun) rfl rfl lT
    ⟨rfl,_,Ni, .inr ⟨c',oc,vs,t,rfl,Wd.ak ..,hd,hv⟩⟩
  rw[ht] at S1;obtain⟨S2,G2⟩:=S1.put (o:=kla_obj "<lambda>" (q0++"<lambda>") params body scope [] ((mg "__name__").getD .none) c' yo) rfl;refine q _ _ _ (G1.trans G2) S2 ⟨_,_, .ref c',rfl,Wd.ak ..,⟨_,_,rfl⟩,c',oc,SZ,rfl,G2.le.2.1 _ _ (Wd.ak ..),⟨vs,t,hd,hv⟩,rfl⟩
 ·refine wpAny_toks (kla_makeFunctionHit (gi env) E.globals (B.g _ S.ground) (E.code.trans hF) (C _ S.ground) i8 trivial uD (hb _ S.ground) fun yo h' tk hk hsz lT=> ?_);obtain⟨S1,G1⟩:=S.but (s':={s with heap:=h',toks:=tk}) (Y:=cr) (fun b o _ e=>hk b o e) (fun _ y=>y.elim) rfl rfl lT;obtain⟨S2,G2⟩:=S1.put (o:={cls:= .type "function",data:= .func (kla_fn "<lambda>" (q0++"<lambda>") params body scope [] ((mg "__name__").getD .none) (.ref c') yo)}) rfl;refine q _ _ _ (G1.trans G2) S2 ⟨_,_, .ref c',rfl,Wd.ak ..,⟨_,_,rfl⟩,c',oc,SZ,rfl,G2.le.2.1 _ _ pN,⟨vs,t,hd,hv⟩,rfl⟩
theorem CT.lam{q}{xs}{ks bs}{x}(lim:∀h:Vi,(∀a o,bo a=some o→h.get? a=some o)→h.NoLimit)
  (hB:∀pm u yo,Binds (kla_fn "<lambda>" q params body scope [] pm u yo) xs ks bs) (hn:(bs.map (·.1)).Nodup) (hk:∀x∈bs.map (·.1),scope.names.lookup x=some .local∨scope.names.lookup x=some .cell)
  (nM:scope.kind= .function) (C2:scope.isCoroutine=false) (yq:scope.isGenerator=false)
  (h:∀u,ET n ⟨scope.names,u,true,some (q++".<locals>.")⟩ body bs H x H1):CT (n+1) (V.lam q params body scope) xs ks H x H1:= .mk fun A s W fv vs kv R S rf rx c7 se Q k=>by
 refine QK fun kG=> ?_;obtain⟨a,o,u,rfl,hI,⟨pm,yo,rfl⟩,c',oc,u',rfl,pN,⟨us,t,hd,hv⟩,_⟩:=rf;refine kG (UP ?_);obtain⟨b,hL,CL⟩:=hB pm (.ref c') yo s.heap W vs kv S.ground rx (ot c7 se);refine kla_callFunE R.lt (S.cq _ _ hI) rfl C2 yq rfl ⟨c',oc,us,t,rfl,S.cq _ _ pN,hd,hv⟩ (hL.here ?_);refine wpAny_toks (UG nM (fun y hy=> ?_) fun env he s' x ht=> ?_)
 ·rcases hk _ (CL.names▸Q4.mpr ⟨y,hy,rfl⟩) with q|q
  ·exact .inl q
  ·exact .inr ⟨q,ba _ _ _ _ (.inl q)⟩
 ·have vz:env=callEnvC (kla_fn "<lambda>" q params body scope [] pm (.ref c') yo) s.heap.objs.size a:=he;subst vz;obtain⟨f,S',G'⟩:=g9 S hn CL hk x ht;refine⟨lim _ S'.ground,kla_codeExpr ?_⟩;refine Ri ((h (.ref c')).run (A.deeper _) s' W _ (R.deeper _) S' (⟨rfl,nM,rfl,rfl,rfl,C2,(fun _ y c _ hc=>x.above y c (mem_of_lookup hc)),(fun q h=>by cases h;rfl)⟩) f Q fun v s2 W2 G2 S2 r2=> ?_) (fun v s2 h2=>h2) fun _ _ e=>e.elim;refine k v s2 W2 (G'.base G2 fun x h _=>h) S2 r2
end
noncomputable def jb(key:Rj→List Rj):List Rj→List Rj
 |[x,y]=>bh (j7 (key y) (key x)) x y
 |l=>l
section
variable{n:Nat}{F:Fx}{ρ am cU hJ:Loc}{H H1 H2 H3 H4 H5:AH}{g:Fl}
theorem EJ{W}{kf}{f}{key}{xs}{ys}{D kS}{c}{P}(R:aB A n)(S:an W H s)(rf:Rel W kf f)
  (rx:aj W (xs.map V.str) ys) (h1:1≤xs.length) (h2:xs.length≤2) (hD:s.heap.get? D=some (sq "list" [] c)) (hk:s.heap.get? kS=some (sq "list" [] 0)) (aU:kS≠D) (fD:jz W D) (fk:jz W kS)
  (ng:∀x∈xs,CT n kf [.str x] [] H (.lst ((key x).map V.str)) H)
  (h:∀s' W' out m,Gr (fun b=>b=D∨b=kS) W s W' s'→an W' H s'→s'.heap.get? D=some (sq "list" out m)→aj W' ((jb key xs).map V.str) out→jz W' D→P (.done (.ret .none)) s'):
  wpAny (model prog w) A (ksk_rest D f false ys.toArray c (.ref kS)) P aX s:=by
 have hlen:ys.length=xs.length:=by have:=rx.length;rwa [QP] at this
 refine bR ?_
 first
  |refine J (List.forIn_toArray ..) ?_
  |(rw[←Zp];rw[List.toList_toArray])
  |rw[←Zp]
 refine QL (ksk_fold (fun i s'=>DW fun W' ks m=>pL (Gr (fun b=>b=D∨b=kS) W s W' s') (an W' H s') (s'.heap.get? D=some (sq "list" [] c)) (pL (s'.heap.get? kS=some (sq "list" ks m)) (jz W' D) (jz W' kS)
   (aj W' ((xs.take i).map fun x=>V.lst ((key x).map V.str)) ks))) ys 0 s ⟨W,[],0,Gr.refl ..,S,hD,hk,fD,fk,by refine J List.take_zero ?_;rfl⟩ ?step ?done)
 case step=>
  rintro j v s' hv ⟨W',ks,m,G',S',sR,AW,Hn,JN,rk⟩;simp only[TU] at rk⊢;have hj:=hlen▸(QY.mp hv).1;refine QK fun kG=> ?_;obtain⟨v',JO,rv⟩:=rx.get (i:=j) (x:= .str xs[j]) (by simp[hj]);refine kG ?_;replace JO:=hv▸JO;cases JO;refine QL (Tr (Ri ((ng xs[j] (T4 hj)).run A s' W' f [v] [] R S' (rf.mono G'.le) ⟨v,[],rfl,rv.mono G'.le,rfl⟩ rfl rfl (fun r dL=>∃nC,Gr cr W' s' nC dL∧an nC H dL∧Rel nC (.lst ((key xs[j]).map V.str)) r) fun r dL nC G2 S2 r2=>⟨nC,G2,S2,r2⟩) (fun r dL hr=> ?_) fun _ _ e=>e.elim));refine QK fun kG=> ?_;obtain⟨nC,G2,S2,r2⟩:=hr;refine kG ?_;have pH:=G2.heap _ _ AW JN.1 id;have Lx:=al G2 (AW▸nofun) JN id;have s1:=Rz dL.heap kS (Ru (·.push r));obtain⟨c2,sB⟩:∃c2,(dL.heap.update kS (Ru (·.push r))).get? kS=some (sq "list" (ks++[r]) c2):=by
   have:=TZ pH (·.push r);have:=((show ks.toArray.push r=(ks++[r]).toArray by simp))▸this;exact⟨_,this⟩
  have Nj:ks.length≤2:=by have:=rk.length;rw[QP,Vo] at this;lia
  refine QL (Uw pH rfl ?_ (ao Nj dc) (QU (Uf (XX ..)) (J Re (J Rv ((a9 (ao Nj dc) (QM _)))))));refine QO ⟨rfl,nC,ks++[r],c2,(G'.trans G2.of).trans ((S2.but (s':={dL with heap:=dL.heap.update kS (Ru (·.push r))}) (fun b o hb e=>(s1.2 b hb).trans e) (fun b y=>by cases y;exact Lx) rfl rfl (QM _)).2.weaken fun b e=> .inr e),(S2.but (s':={dL with heap:=dL.heap.update kS (Ru (·.push r))}) (fun b o hb e=>(s1.2 b hb).trans e) (fun b y=>by cases y;exact Lx) rfl rfl (QM _)).1,(s1.2 D (Se aU)).trans (G2.heap _ _ sR Hn.1 id),sB,(al G2 (sR▸nofun) Hn id),Lx, ?_⟩;exact J List.take_add_one (J (Rg hj) (J Rc ((aj.append (rk.mono G2.le) ⟨r,[],rfl,r2,rfl⟩))))
 case done=>
  rintro s' ⟨W',ks,m,G',S',sR,AW,Hn,JN,rk⟩;replace rk:=(Z5 ..)▸(hlen ..)▸(TU ..)▸rk;refine QL (Th AW rfl ?_);have Nk:=rx.mono G'.le;refine Hk (R:=fun out=>aj W' ((jb key xs).map V.str) out) (by have:=rk.length;rw[QP] at this;exact r9 (ao (bC this) (lg hlen)) (ao (bC hlen) (lg this))) (ao h1 (lg hlen)) (ao (bC hlen) h2) sR AW aU (fun h3=> ?_) (fun k0 k1 v0 v1 ek ev=> ?_) fun h' out n1 n2 keep Ly Nl hr hl=> ?_
  ·have:jb key xs=xs:=by
    obtain⟨x,hx⟩:=YS.mp (hlen.symm.trans h3);exact hx▸rfl
   exact J this ((Nk))
  ·subst ek ev;obtain⟨x,y,rfl⟩:=EE hlen
   ·obtain⟨_,_,e,r0,r1⟩:=rk.two;cases e;obtain⟨_,_,e,q0,q1⟩:=Nk.two;cases e;refine QK fun kG=> ?_;obtain⟨a0,Lz,n0,rfl,i0,z0,_⟩:=r0;obtain⟨a1,C3,n1,rfl,i1,z1,_⟩:=r1;obtain⟨l0,rfl,e0⟩:=z0.strs;obtain⟨l1,rfl,e1⟩:=z1.strs;refine kG (kas_kind (T:= .type "list") (QM _) (fun v hv=> ?_) dc dc ?_)
    ·rcases QX.mp hv with rfl|hv
     ·exact(WD (S'.cq _ _ i0)).andThen .now
     ·exact(QV.mp hv)▸(WD (S'.cq _ _ i1)).andThen .now
    ·refine yk R.ult (S'.cq _ _ i1) (S'.cq _ _ i0) ⟨rfl, ?_⟩;refine J e0 (J e1 ?_);show aj W' ((bh (j7 (key y) (key x)) x y).map V.str) _;cases j7 (key y) (key x)
     ·exact⟨_,_,rfl,q0,_,_,rfl,q1,rfl⟩
     ·exact⟨_,_,rfl,q1,_,_,rfl,q0,rfl⟩
  ·obtain⟨S3,G3⟩:=S'.but (s':={s' with heap:=h'}) (Y:=fun b=>b=D∨b=kS) (fun b o hb e=>keep b o (fun z=>hb (.inl z)) (fun z=>hb (.inr z)) e) (fun b y=>y.elim (fun e=>e▸Hn) (fun e=>e▸JN)) rfl rfl (QM _);exact h _ W' out n1 (G'.trans G3) S3 Ly hr Hn
theorem lU{l l'}(hp:l'.Perm l)(h2:l.length≤2)(ht:∀x y,l=[x,y]→j7 (key y) (key x)= !j7 (key x) (key y)):jb key l'=jb key l:=by
 rcases gI h2 with rfl|⟨x,rfl⟩|⟨x,y,rfl⟩
 ·rw[hp.eq_nil]
 ·rw[WL.mp hp]
 ·obtain⟨a,b,rfl⟩:=EE hp.length_eq.symm
  ·have ha:a=x∨a=y:=by have:=hp.mem_iff (a:=a);simp at this;exact this
   rcases ha with rfl|rfl
   ·rw[(WL.mp (YN hp))]
   ·have:=WL.mp (YN (hp.trans (Xs ..)));cases this;show bh (j7 (key x) (key a)) a x=bh (j7 (key a) (key x)) x a;refine J (ht x a rfl) ?_;cases j7 (key x) (key a)<;>rfl
theorem oH{α β:Type}{f}{ys:List β}{ps}(h:ys.Perm (ps.map f)):∃qs:List α,ys=qs.map f∧qs.Perm ps:=by
 generalize hz:ps.map f=zs at h
 induction h generalizing ps with
 |nil=>exact⟨[],rfl,by rw[T0.mp hz]⟩
 |cons x h ih=>
  obtain⟨a,l,rfl,rfl,e⟩:=Ww.mp hz;obtain⟨qs,e1,e2⟩:=ih e;exact⟨a::qs,by rw[Q8,e1],e2.cons a⟩
 |swap x y l=>
  obtain⟨a,l1,rfl,rfl,e⟩:=Ww.mp hz;obtain⟨b,l2,rfl,rfl,e5⟩:=Ww.mp e;exact⟨b::a::l2,by rw[Q8,Q8,e5],Xs ..⟩
 |trans h1 h2 Lb Lc=>
  obtain⟨qs,e1,e2⟩:=Lc hz;obtain⟨rs,e3,e4⟩:=Lb e1.symm;exact⟨rs,e3,e4.trans e2⟩
theorem vU:∀{qs:List (Rj×Tok)},(∀p∈qs,p.1.length≤QW)→aj W ((qs.map (·.1)).map V.str) (qs.map fun p=>RA p.1 p.2):=by
 intro rv
 induction rv with
 |nil=>
  intro _;exact rfl
 |cons p qs ih=>
  intro h;exact⟨_,_,rfl,⟨p.2,rfl,h p QR⟩,ih fun q hq=>h q (QQ _ hq)⟩
theorem CT.vV{key}{l}(sN:l≠[])(d4:l.length≤2)(ht:∀x y,l=[x,y]→j7 (key y) (key x)= !j7 (key x) (key y))(O0:∀W v,Rel W kf v→∃q,v= .ref q)
  (ng:∀x∈l,CT n kf [.str x] [] H (.lst ((key x).map V.str)) H):CT (n+2) (.st (.builtin "sorted")) [.dst l] [("key",kf)] H (.lst ((jb key l).map V.str)) H:= .mk fun A s W fv vs kv R S rf rx c7 se Q k=>by
 cases rf;obtain⟨v,rfl,rv⟩:=rx.one;obtain⟨a,es,ep,t,rfl,hI,X,hz⟩:=rv;obtain⟨fk,e2,Nn⟩:=aj.one se;obtain⟨qa,rfl⟩:=O0 _ _ Nn;obtain⟨⟨kn,Qz⟩,rfl,e3⟩:=List.map_eq_singleton_iff.mp e2;have e4:kn="key":=by simpa using c7
 subst e4;subst e3;refine call_function_entry_kw kind_sorted plain_sorted entry_sorted (ksk_s1 _ _) (QL (QO ?_));refine QL (qi R.handled (S.cq _ _ hI) X sN d4 fun h' d ys keep hp=> ?_);obtain⟨ps,i8,sQ⟩:=X.1;have K8:ys.Perm (ps.map fun p=>RA p.1 p.2):=by
  rw[i8,Rk] at hp;exact hp
 obtain⟨qs,rfl,hq⟩:∃qs:List (Rj×Tok),ys=qs.map (fun p=>RA p.1 p.2)∧qs.Perm ps:=by
  obtain⟨qs,O1,Ho⟩:=oH K8;exact⟨qs,O1,Ho⟩
 have j6:=(hq.map (·.1)).trans sQ;have A5:qs.length=l.length:=by have:=j6.length_eq;rwa [QP] at this
 obtain⟨S1,G1⟩:=S.but (s':={s with heap:=h',drawn:=d}) (Y:=cr) (fun b o _ e=>keep b o e) (fun _ y=>y.elim) rfl rfl (QM _);generalize ({s with heap:=h',drawn:=d}:Ro)=s1 at S1 G1⊢;refine QL (XO ?_ (J (QP ..) (J (A5 ..) (J (Rv ..) ((eG d4))))));have fD:=S1.fresh (ae s1.heap);generalize Hp:s1.heap.objs.size=D at fD⊢;have Az:=Hp▸ae _;have hD:(s1.heap.push (sq "list" (qs.map fun p=>RA p.1 p.2) 0)).get? D=some (sq "list" (qs.map fun p=>RA p.1 p.2) 0):=Hp▸Q0 _ rfl;refine QL (wpAny_holding (wpAny_call_entry_kw Xh ⟨_,hD,rfl⟩ YR ?body (ksk_l1 _ _)));refine J (ksk_t1 ..) (QL (Th hD rfl ?_));refine QL (Uw hD rfl ?_ (by refine J (Re ..) (J (QP ..) (J (A5 ..) (J (Rv ..) ?_)));exact eG d4) (Rr _));have u1:=Rz (s1.heap.push (sq "list" (qs.map fun p=>RA p.1 p.2) 0)) D (Ru fun _=>(#[]:Array Value));obtain⟨e1,vT⟩:∃e1,((s1.heap.push (sq "list" (qs.map fun p=>RA p.1 p.2) 0)).update D (Ru fun _=>(#[]:Array Value))).get? D=some (sq "list" [] e1):=⟨_,TZ hD fun _=>#[]⟩;obtain⟨S3,G3⟩:=(S1.cm (sq "list" (qs.map fun p=>RA p.1 p.2) 0)).but (s':={s1 with heap:=(s1.heap.push (sq "list" (qs.map fun p=>RA p.1 p.2) 0)).update D (Ru fun _=>(#[]:Array Value))}) (fun b o hb e=>(u1.2 b hb).trans e) (fun b y=>by cases y;exact fD) rfl rfl (QM _);have vT:({s1 with heap:=(s1.heap.push (sq "list" (qs.map fun p=>RA p.1 p.2) 0)).update D (Ru fun _=>(#[]:Array Value))}:Ro).heap.get? D=some (sq "list" [] e1):=vT;have Be:Gr (fun b=>s1.heap.get? b=Q6) W s1 W {s1 with heap:=(s1.heap.push (sq "list" (qs.map fun p=>RA p.1 p.2) 0)).update D (Ru fun _=>(#[]:Array Value))}:=(Gr.cm W s1 (sq "list" (qs.map fun p=>RA p.1 p.2) 0)).of.trans (G3.weaken fun b e=>by cases e;exact Az);show wpAny (model prog w) A.in1.in1 _ _ aX {s1 with heap:=(s1.heap.push (sq "list" (qs.map fun p=>RA p.1 p.2) 0)).update D (Ru fun _=>(#[]:Array Value))};generalize ({s1 with heap:=(s1.heap.push (sq "list" (qs.map fun p=>RA p.1 p.2) 0)).update D (Ru fun _=>(#[]:Array Value))}:Ro)=s3 at S3 Be vT⊢;refine QL (YE vT rfl ?_);refine QL (Xg ?_ (J (QP ..) (J (A5 ..) (J (Rv ..) ((eG d4))))));refine QL (XO ?_ (Rr _));refine wpAny_holding ?_;have aU:(s3.heap.push (UC "tuple" (qs.map fun p=>RA p.1 p.2).toArray 0)).objs.size≠D:=fun e=>by
  have:=ae (s3.heap.push (UC "tuple" (qs.map fun p=>RA p.1 p.2).toArray 0));cases(QT _ vT)▸e▸this
 have yc:s1.heap.get? (s3.heap.push (UC "tuple" (qs.map fun p=>RA p.1 p.2).toArray 0)).objs.size=Q6:=by
  generalize hz:(s3.heap.push (UC "tuple" (qs.map fun p=>RA p.1 p.2).toArray 0)).objs.size=z;cases e:s1.heap.get? z with
  |none=>rfl
  |some o=>
   cases e3:s3.heap.get? z with
   |none=>exact absurd e3 (Be.there z (e▸nofun) (fun q=>by cases e.symm.trans q))
   |some o3=>
    have:=ae (s3.heap.push (UC "tuple" (qs.map fun p=>RA p.1 p.2).toArray 0));have:=(QT _ e3)▸hz▸this;cases this
 refine EJ R.in1.in1 ((S3.cm (UC "tuple" (qs.map fun p=>RA p.1 p.2).toArray 0)).cm (UC "list" #[] 0)) ((Nn.mono G1.le)) ((fun W'=>vU (fun p hp=>hz _ (j6.mem_iff.mp (Tu hp)))) W) (by refine J (QP ..) (J (A5 ..) ?_);exact(UE.mpr sN)) (by refine J (QP ..) (J (A5 ..) ?_);exact d4) (QT _ (QT _ vT)) (Q0 _ rfl) aU fD ((S3.cm (UC "tuple" (qs.map fun p=>RA p.1 p.2).toArray 0)).fresh (ae _)) (fun x hx=>ng x (j6.mem_iff.mp hx)) fun s5 W5 out m G5 S5 O2 r5 f5=> ?_;replace r5:=(lU j6 d4 ht)▸r5;obtain⟨S6,G6,l6⟩:=S5.adopt f5 O2;refine⟨_,rfl,QO ⟨_,rfl,k _ _ _ (G1.trans ((Gr.refl cr W s1).base (((Be.trans ((Gr.cm W s3 (UC "tuple" (qs.map fun p=>RA p.1 p.2).toArray 0)).trans (Gr.cm (X:=fun b=>s1.heap.get? b=Q6) W _ (UC "list" #[] 0)))).trans (G5.weaken fun b e=>by rcases e with rfl|rfl;exact Az;exact yc)).trans (G6.weaken fun b e=>by cases e;exact Az)) fun b e h=>absurd e h)) S6 ⟨D,out,m,rfl,Wd.ak ..,r5.mono l6, ?_⟩⟩⟩;refine J (QP ..) ?_;have:(jb key l).length=l.length:=by
  refine aO (lU (Xu l) d4 ht) ?_;rcases gI d4 with rfl|⟨x,rfl⟩|⟨x,y,rfl⟩
  ·rfl
  ·rfl
  ·show(bh _ _ _).length=2;cases j7 (key y) (key x)<;>rfl
 exact J this (J Rv ((eG d4)))
end
section
variable{n:Nat}{F:Fx}{ρ am cU hJ dH:Loc}{H H1 H2 H3 H4 H5:AH}{g:Fl}
theorem an.sT(S:an W H s)(h:jz W D)(ho:s.heap.get? D≠none)(o:OA (W.new D) s.heap D ob):
  an (W.new D) (H++[some ob]) s∧Gr (fun b=>b=D) W s (W.new D) s∧W.le (W.new D):=by
 have l:=W.lq D;refine⟨⟨S.cq,S.gr, ?_, ?_,fun a m=> ?_,fun i O3 e=> ?_,S.bare,S.tk,S.col⟩,⟨l,fun a m=> ?_,fun a p e=> .inl e,fun a p e _ _=>e,fun a h _=>h,rfl,fun _ _ h=>h⟩,l⟩
 ·exact Tn.mpr ⟨S.nodup,Sa.mpr ⟨nofun,SE⟩,fun x hx y hy e=>by
   simp at hy;subst hy;subst e;exact h.1 hx⟩
 ·simp[Wd.new,S.len]
 ·rcases Q9.mp m with m|m
  ·exact S.lt a m
  ·simp at m;subst m;exact ho
 ·by_cases hi:i<H.length
  ·rw[RC hi] at e;obtain⟨a,p,q,r⟩:=S.live i O3 e;exact⟨a,Wd.eM l p,q,eW l r⟩
  ·have Gv:i=H.length:=by
    have:=(QY.mp e).1;simp at this;exact Gu hi this
   subst Gv;simp at e;subst e;exact⟨D,by refine aO S.len ?_;simp[Wd.new],h.2,o⟩
 ·rcases Q9.mp m with m|m
  ·exact .inl m
  ·simp at m;exact .inr (.inr m)
theorem sU{elt target iter}{ifs}{rest}{scope}{cl}{P}{xs acc}{pos}{A}{s0 s2}{W0 W2}{env}{it}{Y}(R:aB A n)
  (pQ:Gr cr W0 s0 W2 s2) (S:an W2 H s2) (E:az F env) (CN:cQ W0 ρ env s0.heap) (K:aq F scope ρ dH) (gi:∀x c,cl.lookup x=some c→env.cells.lookup x=some c)
  (ou:∀x,(x,Ub)∈scope.names→(cl.lookup x).isSome=true) (c:Src n P it Y xs s0 W2 s2) (hz:acc.length≤QW)
  (h:CF n ⟨dT F scope.names,F.code,false,Q6⟩ (.ListComp elt (⟨target,iter,ifs,0⟩::rest) scope pos) 0 P xs dH [] H acc H1) {RR:Value→TD→Result→Ro→Prop}
  (GH:∀D C f s' W' m,Gr cr W0 s0 W' s'→an W' (H1++[some (.list acc)]) s'→Rel W' (.ref H1.length) (.ref D)→s0.heap.get? C=none→C∉W'.φ→W'.I C=none→s'.heap.Ns C m→RR (.ref D) C (.ok f) s'):
  wpAny (model prog w) A (newList []) (fun acc gq=>wpAny (model prog w) A (Y6 scope env.globals cl [] env.qual none .none (some env)) (fun cenv fg=>
   SM (model prog w) A (.compStart (.ListComp elt (⟨target,iter,ifs,0⟩::rest) scope pos) 0 it acc {cenv with scope:=aaa scope env}) (RR acc cenv.locals) fg) aX gq) aX s2:=by
 have fr:=CN.step pQ;refine R5 (Xd K.lD (by intro y hy;simp at hy) (fun cI gF lE=> ?_) K.kind);have hC:(s2.heap.push (sq "list" [] 0)).objs.size=s2.heap.objs.size+1:=RI ..;have old:=fun b o e=>lE.extBut b o (Sw (Rq e)) (QT _ e);have gG:=fun b o e=>old b o (QT _ e);have pR:s2.heap.get? (s2.heap.push (sq "list" [] 0)).objs.size=none:=by
  cases e:s2.heap.get? (s2.heap.push (sq "list" [] 0)).objs.size with
  |none=>rfl
  |some o=>have:=Rq e;rw[hC] at this;exact absurd (Ur this) (Sj _)
 have S4:=S.same (s':={s2 with heap:=cI}) (fun b o e _=>gG b o e) S.bare;have um:Gr cr W2 s2 W2 {s2 with heap:=cI}:=⟨W2.le_refl,fun _ h=> .inl h,fun _ _ h=> .inl h,fun b o e _ _=>gG b o e,fun a h _=>br gG a h,rfl,fun _ _ h=>h⟩;have xF:=fun a y=>(c.new a y).2;have CO:s2.heap.objs.size≠(s2.heap.push (sq "list" [] 0)).objs.size:=J hC (((Vt _).symm));have hX:∀a,(own (Un scope cl (s2.heap.push (sq "list" [] 0)).objs.size env) a∨a=s2.heap.objs.size)→s2.heap.get? a=none:=fun a o=>by
  rcases o with(o|⟨ce,x,_,hx⟩)|o
  ·exact o▸pR
  ·cases q:s2.heap.get? a with
   |none=>rfl
   |some o=>
    have h2:=ce;rw[hC] at h2;exact absurd (XC (Ur h2) (Rq q)) (Sj _)
  ·exact o▸ae _
 have lp:SM (model prog w) A (.compLoop (.ListComp elt (⟨target,iter,ifs,0⟩::rest) scope pos) 0 it (.ref s2.heap.objs.size) (Un scope cl (s2.heap.push (sq "list" [] 0)).objs.size env))
   (RR (.ref s2.heap.objs.size) (s2.heap.push (sq "list" [] 0)).objs.size) {s2 with heap:=cI}:=by
  refine T6 (h.run A {s2 with heap:=cI} W2 (Un scope cl (s2.heap.push (sq "list" [] 0)).objs.size env) it s2.heap.objs.size Y R S4 (fu S E fr K gi ou pR gF gG).1 (fu S E fr K gi ou pR gF gG).2 (fun y=>xF _ y pR) (fun x c' hx y=> ?_) (fun y=>xF _ y (ae _)) CO (fun x c hx e=>(fun x c hx=>(fr.dC x c (gi x c hx)).2.2.2) x c hx (e▸ae _)) (⟨⟨[],0,(old _ _ (Q0 _ rfl)),rfl⟩,(S.fresh (ae s2.heap))⟩)
   ((fun X hx=>(c.feed X hx).step (um.of)) _ fun a o y=>xF a y (hX a o)) (fun s'=>∀f,RR (.ref s2.heap.objs.size) (s2.heap.push (sq "list" [] 0)).objs.size (.ok f) s') fun s' W' G' S' f' a' f=> ?_) fun r s' hr=>by obtain⟨f,rfl,hr⟩:=hr;exact hr f
  ·exact(CN.dC x _ (gi x _ hx)).2.2.2 (c.new _ y).1
  ·obtain⟨vs,m,ho,rl⟩:=a'.obj;obtain⟨mm,hm,_⟩:=f'.m;have h0:∀a,((own (Un scope cl (s2.heap.push (sq "list" [] 0)).objs.size env) a∨a=s2.heap.objs.size)∨Y a)→s0.heap.get? a=none:=fun a o=>by
    rcases o with o|o
    ·exact(pQ.back (hX a o)).resolve_right id
    ·exact(c.new a o).1
   have CP:=f'.sep;refine GH _ _ f s' _ mm ?_ (S'.sT (ob:= .list acc) a'.sep (ho▸nofun) ⟨vs,m,ho,rl.mono (W'.lq _),hz⟩).1 ⟨_,rfl,by refine aO S'.len ?_;simp[Wd.new]⟩ ((pQ.back pR).resolve_right id) (fun hm=>(Q9.mp hm).elim CP.1 fun hm=>CO (QV.mp hm).symm) CP.2 hm;refine((pQ.trans um).base G' fun a o e=>absurd (h0 a o) e).base (S'.sT (ob:= .list acc) a'.sep (ho▸nofun) ⟨vs,m,ho,rl.mono (W'.lq _),hz⟩).2.1 fun a o e=> ?_;subst o;exact absurd ((pQ.back (ae s2.heap)).resolve_right id) e
 exact fS rfl rfl lp (di.step (c.self (fun _=>False) fun _ h=>h.elim) um A _ W2 H (Gr.refl ..) S4 _ lp)
theorem XT.vW{elt target iter}{ifs}{rest}{scope}{P}{xs acc}{pos iG py}{y}(K:aq F scope ρ dH)(hi:IT n F iter ρ H xs P H1)
  (h:CF n ⟨dT F scope.names,F.code,false,Q6⟩ (.ListComp elt (⟨target,iter,ifs,0⟩::rest) scope pos) 0 P xs dH [] H1 acc H2) (hz:acc.length≤QW) (fN:ST F y)
  (hsw:∀env,az F env→WB (.ListComp elt (⟨target,iter,ifs,0⟩::rest) scope pos) (some (.Name y py)) iG.line env=pure true)
  (hs:autoParam (∀env x,Sv iter env x=pure x) aI):
  XT n F (.Assign [.Name y py] (.ListComp elt (⟨target,iter,ifs,0⟩::rest) scope pos) iG) ρ H .next ((y, .ref H2.length)::ρ) (H2++[some (.list acc)]):=by
 refine .mk fun A s W env R S E fr Q q=>(QK fun kG=> ?_);obtain⟨cl,iX,gi,ou⟩:=dN E fr K;refine kG (J (WV _ _ _ _ (hsw env E)) ?_);refine bA (QL ?_);refine QL (Ri (U1 rfl (hs env) iX K.kind K.names (hi.run A s W env R S E fr _ fun it Y s2 W2 G2 S2 c=> ?_)) (fun _ s' hq=>QO (QO hq)) fun _ _ e=>e);refine sU R G2 S2 E fr K gi ou c hz h fun D C f s' W' m G' S' r' hC h1 h2 hm=>(Vr (fN.run A s' W' (H2++[some (.list acc)]) ρ env (.ref H2.length) _ S' E (fr.step G') r' _ fun dL CQ CR GI=> ?_));have CS:=fun o=>fr.cF C o hC;obtain⟨mm,AQ⟩:∃m,dL.heap.Ns C m:=⟨m,nD hm fun o e=>CQ.heap _ o e h1 CS⟩;refine⟨mm,AQ,fun h' un=> ?_⟩;have G5:Gr (fun a=>a=C) W' dL W' {dL with heap:=h'}:=Gr.same un rfl;refine q _ _ W' (((G'.of).trans CQ).base G5 fun x e hx=>by cases e;exact absurd hC hx) (CR.same (fun a o e hh=>(un.2 a fun z=>by cases z;exact hh.elim h1 fun hh=>hh h2).trans e) CR.bare) ?_ rfl;refine GI.dh G5 (fun e=> ?_) fun x c hx e=> ?_
 ·exact CS (.inl e.symm)
 ·cases e;exact(fr.dC x _ hx).2.2.2 hC
structure yt n F pos yu ρ H(ks:List (Rj×V)) H':Prop where
 run:∀A s W env,aB A n→an W H s→az F env→cQ W ρ env s.heap→
    ∀Q,(∀vs s' W',Gr cr W s W' s'→an W' H' s'→aj W' (ks.map (·.2)) vs→Q vs s')→
     wpAny (model prog w) A (evalAll ((backToKw pos (keywordEach yu env)).map (·.2))) Q aX s
 names:∀env,(backToKw pos (keywordEach yu env)).filterMap (·.1)=ks.map (·.1)
 all:∀env,(backToKw pos (keywordEach yu env)).all (·.1.isSome)=true
 C4:∀env,(backToKw pos (keywordEach yu env)).any (·.1.isNone)=false
theorem yt.nil:yt n F pos [] ρ H [] H:=⟨fun A s W env R S E f Q q=>kws_nil (q [] s W (Gr.refl ..) S rfl),fun _=>rfl,fun _=>rfl,fun _=>rfl⟩
theorem yt.cons{name}{e}{yu}{x}{ks}(h:ET n F e ρ H x H1)(r:yt n F pos yu ρ H1 ks H2):yt n F pos (⟨some name,e,kp⟩::yu) ρ H ((name,x)::ks) H2:=
 ⟨fun A s W env R S E f Q q=>kws_cons (h.run A s W env R S E f _ fun v s1 W1 G1 S1 r1=>r.run A s1 W1 env R S1 E (f.step G1) _ fun vs s2 W2 G2 S2 r2=>q _ s2 W2 (G1.trans G2) S2 ⟨v,vs,rfl,r1.mono G2.le,r2⟩),
  fun env=>congrArg (name::·) (r.names env),fun env=>by
  refine J (r.all env) ?_;rfl,fun env=>by
  refine J (r.C4 env) ?_;rfl⟩
theorem ET.C5{pos}{f z}{xs}{ks}(hf:ET n F func ρ H f H1)(ha:ab n F pos (e::args) ρ H1 xs H2)(Hq:yt n F pos yu ρ H2 ks H3)(hk:aL f)(hc:CT n f xs ks H3 z H4)
  (he:autoParam (∀env,eval (.Call func (e::args) yu pos) env=(do Uo pos (←eval func env) [] (backTo pos (starEach (e::args) env)) (backToKw pos (keywordEach yu env)))) aI)
  (hp:autoParam (∀env,(backTo pos (starEach (e::args) env)).any (·.1)=false) aI)
  (hx:autoParam (∀env,((backTo pos (starEach (e::args) env)).head?.map (·.1))=some false) aI):ET n F (.Call func (e::args) yu pos) ρ H z H4:=by
 refine .mk fun A s W env R S E fr Q q=>(J (he env) ?_);refine QL (hf.run A s W env R S E fr _ fun fv s1 W1 G1 S1 r1=> ?_);refine Uq (P:=Kp fv) (by refine J (hp env) (J (Hq.C4 env) ?_);rfl) (fun _ h=>h) ?_;obtain⟨x,rest,ex⟩:∃x rest,backTo pos (starEach (e::args) env)=(false,x)::rest:=by
  have h:=hx env;cases q:backTo pos (starEach (e::args) env) with
  |nil=>rw[q] at h;cases h
  |cons y r=>rw[q] at h;cases y;cases h;exact⟨_,r,rfl⟩
 have CM:=ha.run A s1 W1 env R S1 E (fr.step G1);rw[ex] at CM⊢;refine evalArgs_kwB (Hq.all env) (CM _ fun vs s2 W2 G2 S2 r2=>Hq.run A s2 W2 env R S2 E ((fr.step G1).step G2) _ fun bc s3 W3 G3 S3 r3=>⟨hk.run s3 W3 _ fv S3 ((r1.mono G2.le).mono G3.le), ?_⟩);have hlen:bc.length=ks.length:=by have:=r3.length;rwa [QP] at this
 refine hc.run A s3 W3 fv ([]++vs) _ R S3 ((r1.mono G2.le).mono G3.le) (r2.mono G3.le) ?_ ?_ Q fun v s4 W4 G4 S4 r4=>q v s4 W4 (((G1.trans G2).trans G3).trans G4) S4 r4
 ·refine J (Hq.names env) ?_;exact List.map_fst_zip (J (QP ..) (J (hlen ..) ((QM _))))
 ·refine J (Hq.names env) ?_;rw[show(List.zip (ks.map (·.1)) bc).map (·.2)=bc from List.map_snd_zip (by rw[QP,hlen];exact QM _)];exact r3
end
noncomputable def ag(p:Rj×Rj):V:= .tup [.str p.1, .str p.2]
noncomputable def oI(p q:Rj×Rj):Bool:=if p.1=q.1 then(if p.2=q.2 then false else Ax p.2 q.2) else Ax p.1 q.1
noncomputable def bX:List (Rj×Rj)→List (Rj×Rj)
 |[x,y]=>bh (oI y x) x y
 |l=>l
section
variable{n:Nat}{F:Fx}{ρ am cU hJ:Loc}{H H1 H2 H3 H4 H5:AH}{g:Fl}
theorem yv{D}{items}{c}{R:List Value→Prop}{P}{E}(hD:s.heap.get? D=some (sq "list" items c))(h2:items.length≤2)
  (Bi:items.length≤1→R items)
  (EF:∀v0 v1 h',items=[v0,v1]→(∀b o,b≠D→s.heap.get? b=some o→h'.get? b=some o)→wpAny (model prog w) A (keyKind' (SQ [v0,v1])) (fun κ s'=>wpAny (model prog w) A (keyLt' κ v1 v0) (fun b dL=>dL={s with heap:=h'}∧R (bh b v0 v1)) (fun _ _=>False) s') (fun _ _=>False) {s with heap:=h'})
  (h:∀h' out m,(∀b o,b≠D→s.heap.get? b=some o→h'.get? b=some o)→h'.get? D=some (sq "list" out m)→R out→out.length=items.length→P (.done (.ret .none)) {s with heap:=h'}):
  wpAny (model prog w) A (Builtin.«list.sort» ⟨[.ref D],[]⟩) P E s:=by
 refine J (list_sort_plain ..) (QL (Th hD rfl ?_));refine QL (Uw hD rfl ?_ (eG h2) (Rr _));obtain⟨e1,vT⟩:∃e1,(s.heap.update D (Ru fun _=>(#[]:Array Value))).get? D=some (sq "list" [] e1):=⟨_,TZ hD fun _=>#[]⟩;refine QL (YE vT rfl ?_);refine QL (Xg ?_ (Rv▸eG h2));refine QL (XO ?_ (Rr _));refine wpAny_holding ?_;show wpAny (model prog w) A _ P E {s with heap:=((s.heap.update D (Ru fun _=>(#[]:Array Value))).push (UC "tuple" items.toArray 0)).push (UC "list" #[] 0)};have JP:(((s.heap.update D (Ru fun _=>(#[]:Array Value))).push (UC "tuple" items.toArray 0)).push (UC "list" #[] 0)).get? D=some (sq "list" [] e1):=QT _ (QT _ vT);have keep:∀b o,b≠D→s.heap.get? b=some o→(((s.heap.update D (Ru fun _=>(#[]:Array Value))).push (UC "tuple" items.toArray 0)).push (UC "list" #[] 0)).get? b=some o:=fun b o hb e=>QT _ (QT _ (((Rz s.heap D (Ru fun _=>(#[]:Array Value))).2 b hb).trans e));generalize ((s.heap.update D (Ru fun _=>(#[]:Array Value))).push (UC "tuple" items.toArray 0)).push (UC "list" #[] 0)=h1 at JP keep⊢;have tail:∀st out,(aaQ st).map (·.2)=out.toArray→Xp st=none→R out→out.length=items.length→wpAny (model prog w) A (do
   let sorted:=(aaQ st).map (·.2);let touched:=(←seqEpoch D) !=e1
   Builtin.List.listUpdate (.ref D) fun _=>sorted
   if let some e:=Xp st then rule "list.sort.comparison-raised";throw e
   if touched then rule "list.sort.modified";raiseError "ValueError" "list modified during sort"
   ret .none) P E {s with heap:=h1}:=by
  intro st out ho hf hr hl;refine J ho (J hf ?_);obtain⟨c2,sB⟩:∃c2,(h1.update D (Ru fun _=>out.toArray)).get? D=some (sq "list" out c2):=⟨_,TZ JP fun _=>out.toArray⟩;refine QL (YE JP rfl ?_);refine QL (Uw JP rfl ?_ (Rr _) (J Re (J Rv ((ao (bC hl) (ao h2 dc))))));rw[bne_self_eq_false];exact QO (h _ out c2 (fun b o hb e=>((Rz h1 D (Ru fun _=>out.toArray)).2 b hb).trans (keep b o hb e)) sB hr hl)
 rcases gI h2 with e|⟨v0,e⟩|⟨v0,v1,e⟩<;>subst e
 ·have hs:(SQ ([]:List Value)).size<2:=dc;refine J (if_pos hs) (J (if_pos hs) ?_);refine bP (QL ?_);exact J (XI ..) ((QO (tail _ [] (by simp) rfl (Bi (Rr _)) rfl)))
 ·have hs:=Vu 1;refine J (if_pos hs) (J (if_pos hs) ?_);refine bP (QL ?_);exact J (XI ..) (QO (tail _ [v0] (by show Array.map (·.2) ((SQ [v0]).zip (SQ [v0]))=_;simp) rfl (Bi (Sh _)) rfl))
 ·have hs:=Sj 2;refine J (if_neg hs) (J (if_neg hs) ?_);refine QL (Ri (EF v0 v1 _ rfl keep) (fun κ s' Lr=> ?_) fun _ _ x=>x.elim);refine QL (Ri (Hj (Q:=fun st dL=>dL={s with heap:=h1}∧∃b,(aaQ st).map (·.2)=(bh b v0 v1).toArray∧Xp st=none∧R (bh b v0 v1)) (Ri Lr (fun b dL hb st h3 h4=>⟨hb.1,b,h3,h4,hb.2⟩) fun _ _ x=>x)) (fun r dL hr=> ?_) fun _ _ x=>x);obtain⟨⟨⟩,st⟩:=r;obtain⟨rfl,b,h3,h4,h5⟩:=hr;exact tail st _ h3 h4 h5 (by cases b<;>rfl)
theorem yw{W}{p q}{v0 v1}{R:Bool→Prop}(hI:∀a o,W.I a=some o→s.heap.get? a=some o)(r0:Rel W (ag p) v0)(r1:Rel W (ag q) v1)(hr:R (oI q p)):
  wpAny (model prog w) A (keyKind' (SQ [v0,v1])) (fun κ s'=>wpAny (model prog w) A (keyLt' κ v1 v0) (fun b dL=>dL=s∧R b) (fun _ _=>False) s') (fun _ _=>False) s:=by
 refine QK fun kG=> ?_;obtain⟨a0,Lz,n0,rfl,i0,z0,_⟩:=r0;obtain⟨a1,C3,n1,rfl,i1,z1,_⟩:=r1;obtain⟨_,_,rfl,⟨t0,rfl,_⟩,⟨QA,rfl,_⟩⟩:=z0.two;obtain⟨_,_,rfl,⟨t1,rfl,_⟩,⟨QB,rfl,_⟩⟩:=z1.two;refine kG (kat_kind (T:= .type "str") (aau (hI _ _ i0) rfl rfl rfl (aau (hI _ _ i1) rfl rfl rfl KatTups.nil)) (Sh 1) (fun v hv=> ?_) dc ?_)
 ·rcases QX.mp hv with rfl|hv
  ·exact TR rfl
  ·exact(QV.mp hv)▸TR rfl
 ·refine kat_lt (hI _ _ i1) rfl (hI _ _ i0) rfl ?_;refine kat_cons (eqBool_str ?_)
  delta oI at hr
  by_cases h1:q.1=p.1
  ·rw[if_pos h1] at hr;refine J (show(q.1==p.1)=true by simp[h1]) ?_;refine kat_yes (kat_cons (eqBool_str ?_));by_cases h2:q.2=p.2
   ·rw[if_pos h2] at hr;exact J (show(q.2==p.2)=true by simp[h2]) ((kat_yes (kat_nil ⟨rfl,hr⟩)))
   ·rw[if_neg h2] at hr;refine J (show(q.2==p.2)=false by simp[h2]) (kat_no ?_);exact kat_one _ _ (lt_str ⟨rfl,hr⟩)
  ·rw[if_neg h1] at hr;refine J (show(q.1==p.1)=false by simp[h1]) (kat_no ?_);exact oneLt_str ⟨rfl,hr⟩
theorem jC:(bX l).length=l.length:=by
 match l with
 |[]=>rfl
 |[_]=>rfl
 |[x,y]=>show(bh _ _ _).length=2;cases oI y x<;>rfl
 |_::_::_::_=>rfl
theorem lV{s}{W}{D}{items}{ps}{c}{P}{E}(hD:s.heap.get? D=some (sq "list" items c))(h2:ps.length≤2)
  (hI:∀a o,W.I a=some o→s.heap.get? a=some o) (O4:W.I D=none) (r:aj W (ps.map ag) items)
  (h:∀h' out m,(∀b o,b≠D→s.heap.get? b=some o→h'.get? b=some o)→h'.get? D=some (sq "list" out m)→aj W ((bX ps).map ag) out→P (.done (.ret .none)) {s with heap:=h'}):
  wpAny (model prog w) A (Builtin.«list.sort» ⟨[.ref D],[]⟩) P E s:=by
 have hl:=r.length;replace hl:=(QP ..)▸hl;refine yv hD (ao (bC hl) h2) (fun h1=> ?_) (fun v0 v1 h' e keep=> ?_) fun h' out m keep sR hr _=>h h' out m keep sR hr
 ·have:bX ps=ps:=by
   rcases gI (QU (Uf hl.symm) (RV h1)) with e|⟨x,e⟩|⟨x,y,e⟩
   ·exact J e rfl
   ·exact J e rfl
   ·rw[hl,e] at h1;exact absurd h1 (Nat.not_succ_le_self 1)
  exact J this ((r))
 ·subst e;obtain⟨p,q,rfl⟩:=EE hl
  ·obtain⟨_,_,e,r0,r1⟩:=r.two;cases e;refine yw (fun a o e=>keep a o (fun z=>by cases z;cases O4.symm.trans e) (hI a o e)) r0 r1 ?_;show aj W ((bh (oI q p) p q).map ag) _;cases oI q p
   ·exact⟨_,_,rfl,r0,_,_,rfl,r1,rfl⟩
   ·exact⟨_,_,rfl,r1,_,_,rfl,r0,rfl⟩
theorem CT.yx(hk:H[k]?=some (some (.list (ps.map ag))))(h2:ps.length≤2):CT n (.st (.builtin "list.sort")) [.ref k] [] H .none (H.set k (some (.list ((bX ps).map ag)))):= .mk fun A s W fv vs kv R S rf rx c7 _ Q q=>by
 cases rf;have:kv=[]:=by simpa using c7
 subst this;obtain⟨v,rfl,a,rfl,ha⟩:=rx.one;obtain⟨a',CM,hI,us,m,ho,r,_⟩:=S.live _ _ hk;replace CM:=ha▸CM;cases CM;refine wpAny_call_entry Xh ⟨_,ho,rfl⟩ YR (lV ho h2 S.cq hI r fun h' out m' keep sR hr=> ?_) (args_list_sort _);obtain⟨S2,G2⟩:=S.set (s':={s with heap:=h'}) (ob:= .list ((bX ps).map ag)) ha hI keep (J sR nofun) rfl rfl (QM _) ⟨out,m',sR,hr,by refine J (QP ..) (J (jC ..) (J (Rv ..) ?_));exact eG h2⟩;exact⟨_,rfl,q _ _ W G2 S2 rfl⟩
theorem jc{W}{v}{ps}(R:aB A (n+1))(S:an W H s)(h2:ps.length≤2)
  (hc:∀A' R,A'.handled=none→(∀h' us W' tk,(∀b o,s.heap.get? b=some o→h'.get? b=some o)→W.le W'→s.toks≤tk→an W' H {s with heap:=h',toks:=tk}→Gr cr W s W' {s with heap:=h',toks:=tk}→aj W' (ps.map ag) us→R us {s with heap:=h',toks:=tk})→wpAny (model prog w) A' (collect v) R aX s)
  {Q} (q:∀v s' W',Gr cr W s W' s'→an W' H s'→Rel W' (.lst ((bX ps).map ag)) v→Q v s'):wpAny (model prog w) A (call (.builtin "sorted") [v]) Q aX s:=by
 refine Calls.call_function_entry kind_sorted plain_sorted entry_sorted (args_sorted1 _) (QL (QO ?_));refine QL (hc _ _ R.handled fun h' us W' tk keep l lT S1 G1 r=> ?_);generalize ({s with heap:=h',toks:=tk}:Ro)=s1 at S1 G1⊢;have hl:=r.length;rw[QP] at hl;refine QL (XO ?_ (J hl (J Rv ((ao h2 dc)))));have S2:=S1.cm (sq "list" us 0);have fD:=S1.fresh (ae s1.heap);generalize Hp:s1.heap.objs.size=D at fD⊢;have Az:=Hp▸ae _;have hD:(s1.heap.push (sq "list" us 0)).get? D=some (sq "list" us 0):=Hp▸Q0 _ rfl;refine QL (wpAny_holding (wpAny_call_entry Xh ⟨_,hD,rfl⟩ YR (lV hD h2 S2.cq fD.2 r fun h3 out m' Hr Ly Ln=> ?_) (args_list_sort _)));obtain⟨S3,G3⟩:=S2.but (s':={s1 with heap:=h3}) (fun b o hb e=>Hr b o hb e) (fun b y=>by cases y;exact fD) rfl rfl (QM _);obtain⟨S4,G4,l4⟩:=S3.adopt fD Ly;refine⟨_,rfl,QO ⟨_,rfl,q _ _ _ (G1.trans (((Gr.cm W' s1 (sq "list" us 0)).base G3 fun b e h=>by subst e;exact absurd Az h).base G4 fun b e h=>by subst e;exact absurd Az h)) S4 ⟨D,out,m',rfl,Wd.ak ..,Ln.mono l4, ?_⟩⟩⟩;exact J (QP ..) (J (jC ..) (J (Rv ..) ((ao h2 dc))))
theorem CT.qk(h2:ps.length≤2):CT (n+1) (.st (.builtin "sorted")) [.lst (ps.map ag)] [] H (.lst ((bX ps).map ag)) H:= .mk fun A s W fv vs kv R S rf rx c7 _ Q q=>by
 cases rf;have:kv=[]:=by simpa using c7
 subst this;obtain⟨v,rfl,a,us,m,rfl,hI,r,hz⟩:=rx.one;refine jc R S h2 (fun A' R' hh hR=> ?_) q;refine collect_list ⟨_,S.cq _ _ hI,rfl,m,rfl⟩ ?_ (r.length▸hz);have keep:∀b o,s.heap.get? b=some o→((s.heap.push (UC "list" #[] 0)).update s.heap.objs.size (Ru (·++us.toArray))).get? b=some o:=fun b o e=>((Rz (s.heap.push (UC "list" #[] 0)) s.heap.objs.size (Ru (·++us.toArray))).2 b (Sw (Rq e))).trans (QT _ e);obtain⟨S3,G3⟩:=S.but (s':={s with heap:=(s.heap.push (UC "list" #[] 0)).update s.heap.objs.size (Ru (·++us.toArray))}) (Y:=cr) (fun b o _ e=>keep b o e) (fun _ y=>y.elim) rfl rfl (QM _);exact hR _ us W s.toks keep W.le_refl (QM _) S3 G3 r
end
section
variable{n:Nat}{F:Fx}{ρ am cU hJ:Loc}{H H1 H2 H3 H4 H5:AH}{g:Fl}
theorem lW l:∀{W} bc(as:List TD)(lo:TD),an W H s→as.length=bc.length→bQ W l bc→(∀p∈l,p.1.length≤QW)→as.Pairwise (·<·)→(∀a∈as,jz W a)→
  (∀(j:Nat) kv a,bc[j]?=some kv→as[j]?=some a→∃t m,s.heap.get? a=some (sq "tuple" [.str kv.1 t,kv.2] m))→
  ∃W',an W' H s∧Gr (fun b=>b∈as) W s W' s∧aj W' (cw l) (as.map Um):=by
 induction l with
 |nil=>
  intro W bc as lo S hl r _ _ _ _;cases r;cases Rs.mp hl;exact⟨W,S,Gr.refl ..,rfl⟩
 |cons p l ih=>
  intro W bc as lo S hl r hz hp hf ht;obtain⟨v,bc,rfl,rv,rn⟩:=r;cases as with
  |nil=>cases hl
  |cons a as=>
   obtain⟨t,m,ho⟩:=ht 0 (p.1,v) a rfl rfl;obtain⟨S1,G1,l1⟩:=S.adopt (hf a QR) ho;have aU:∀b∈as,b≠a:=fun b hb e=>by subst e;exact absurd ((UT.mp hp).1 b hb) (Sj _)
   obtain⟨W',S2,G2,r2⟩:=ih bc as lo S1 (Vz hl) (rn.mono l1) (fun p hp=>hz p (QQ _ hp)) (UT.mp hp).2 (fun b hb=>⟨(hf b (QQ _ hb)).1,by
    show(if b=a then _ else W.I b)=none;exact J (if_neg (aU b hb)) ((hf b (QQ _ hb)).2)⟩) (fun j kv b h1 h2=>ht (j+1) kv b h1 h2)
   refine⟨W',S2,(G1.weaken fun b e=>by cases e;exact QR).trans (G2.weaken fun b e=>QQ _ e), .ref a,as.map Um,rfl,⟨a,_,m,rfl,G2.le.2.1 _ _ (Wd.ak ..),⟨_,_,rfl,⟨t,rfl,hz (p.1,p.2) QR⟩,_,_,rfl,(rv.mono l1).mono G2.le,rfl⟩,by refine J Rv ?_;simp⟩,r2⟩
theorem nj{s}{W}{r}{x}{l}{R}(hh:A.handled=none)(S:an W H s)(hv:Rel W (.vw "dict_items" x) (.ref r))(hx:aV H x l)(vG:∀p∈l,p.1.length≤QW)
  (h:∀h' us W' tk,(∀b o,s.heap.get? b=some o→h'.get? b=some o)→s.toks≤tk→an W' H {s with heap:=h',toks:=tk}→Gr cr W s W' {s with heap:=h',toks:=tk}→aj W' (cw l) us→R us {s with heap:=h',toks:=tk}):wpAny (model prog w) A (collect (.ref r)) R aX s:=by
 obtain⟨a,u,e,hI,ru⟩:=hv;cases e;refine QK fun kG=> ?_;obtain⟨d,es,m,rfl,ho,hr,nd,hz,hs⟩:=hx.run s W u S ru;obtain⟨bc,hd,j4⟩:=dictOf ho hr nd;refine kG (wpAny_toks (kdx_collect hh ⟨_,S.cq _ _ hI,rfl,rfl⟩ hd (j4.length▸hz) fun h' tk as keep hl hG lT=> ?_));obtain⟨S1,G1⟩:=S.but (s':={s with heap:=h',toks:=tk}) (Y:=cr) (fun b o _ e=>keep b o e) (fun _ y=>y.elim) rfl rfl lT;have x9:=fun b hb=>Ss (SU (hG.above b hb));have LA:∀j(kv:Rj×Value) a,bc[j]?=some kv→as[j]?=some a→∃t m,h'.get? a=some (sq "tuple" [.str kv.1 t,kv.2] m):=fun j kv b h1 h2=>by
  obtain⟨key,k,x',e1,e2,e3⟩:=hG.pairs j b h2;cases h1.symm.trans e1;obtain⟨t,rfl⟩:=TV e2;exact⟨t,0,e3⟩
 obtain⟨W',S2,G2,r2⟩:=lW l bc as 0 S1 hl (j4.mono G1.le) vG hG.rise (fun b hb=>⟨(S.fresh (x9 b hb)).1,(S.fresh (x9 b hb)).2⟩) LA;exact h h' _ W' tk keep lT S2 (G1.base G2 fun b e h=>absurd (x9 b e) h) r2
theorem CT.sV(hx:aV H x (ps.map fun p=>(p.1,V.str p.2)))(h2:ps.length≤2)(vG:∀p∈ps,p.1.length≤QW):CT (n+1) (.st (.builtin "sorted")) [.vw "dict_items" x] [] H (.lst ((bX ps).map ag)) H:= .mk fun A s W fv vs kv R S rf rx c7 _ Q q=>by
 cases rf;have:kv=[]:=by simpa using c7
 subst this;obtain⟨v,rfl,rv⟩:=rx.one;obtain⟨a,u,rfl,hI,ru⟩:=id rv;refine jc R S h2 (fun A' R' hh hR=>nj hh S rv hx (fun p hp=> ?_) fun h' us W' tk keep lT S1 G1 r=>hR h' us W' tk keep G1.le lT S1 G1 ?_) q
 ·obtain⟨p',O5,rfl⟩:=Q4.mp hp;exact vG p' O5
 ·have e:cw (ps.map fun p=>(p.1,V.str p.2))=ps.map ag:=by
   delta cw;exact Rk
  exact e▸r
end
section
variable{n:Nat}{F F':Fx}{ρ am cU hJ dH:Loc}{H H1 H2 H3 H4 H5:AH}{g:Fl}
structure sW W(s:Ro) D acc:Prop where
 obj:∃es m,s.heap.get? D=some (dq es m)∧d6 W acc es
 nd:(acc.map (·.1)).Nodup
 sep:jz W D
theorem sW.step{W W'}{s s'}{D}{acc}(a:sW W s D acc)(G:Gr X W s W' s')(hX:¬X D):sW W' s' D acc:=by
 obtain⟨vs,m,ho,r⟩:=a.obj;exact⟨⟨vs,m,G.heap _ _ ho a.sep.1 hX,r.mono G.le⟩,a.nd,al G (ho▸nofun) a.sep hX⟩
theorem Bj{s}{W}{D}{acc}{k}{x}{kv v}(S:an W H s)(a:sW W s D acc)(rk:Rel W (.str k) kv)(r:Rel W x v)(hz:acc.length≤QW){Q}
  (q:∀s',Gr (fun b=>b=D) W s W s'→an W H s'→sW W s' D (il acc k x)→Q () s'):wpAny (model prog w) A (dictSet D kv v) Q aX s:=by
 refine QK fun kG=> ?_;obtain⟨es,m,ho,rl⟩:=a.obj;obtain⟨bc,hd,hr⟩:=dictOf ho rl a.nd;refine kG (wpAny_dictSet_pairs (Rel.isKey rk) hd.dictOf (fun h' CX hs=> ?_) (hr.length▸hz));refine QK fun kG=> ?_;obtain⟨es',m',AU,r',KL⟩:=lG CX (hr.put r);obtain⟨S',G'⟩:=S.but (s':={s with heap:=h',toks:=s.toks+1}) (fun b o hb e=>(hs.2 b hb).trans e) (fun b y=>by cases y;exact a.sep) rfl rfl (Te _);exact kG (q _ G' S' ⟨⟨es',m',AU,r'⟩,KL,a.sep⟩)
noncomputable abbrev EL(n:Nat)(F:Fx)(e:SD)(d:Nat)(P:PP)(xs:List V)(ρ:Loc)(acc:List (Rj×V))(H:AH)(cV:List (Rj×V))(H':AH):Prop:=∀A s W env it D Y,aB A n→an W H s→az F env→cQ W ρ env s.heap→
    (¬Y env.locals)→(∀n c,env.cells.lookup n=some c→¬Y c)→¬Y D→D≠env.locals→(∀n c,env.cells.lookup n=some c→c≠D)→sW W s D acc→
    dS n P (fun a=>own env a∨a=D) it Y xs W s→
    ∀Q:Ro→Prop,(∀s' W',Gr (fun a=>(own env a∨a=D)∨Y a) W s W' s'→an W' H' s'→cQ W' ρ env s'.heap→sW W' s' D cV→Q s')→
     SM (model prog w) A (.compLoop e d it (.ref D) env) (fun r s'=>∃f,r= .ok f∧Q s') s
@[irreducible] noncomputable def rT (n:Nat) (F:Fx) (e:SD) (d:Nat) (P:PP) (xs:List V) (ρ:Loc) (acc:List (Rj×V)) (H:AH) (cV:List (Rj×V)) (H':AH):Prop:=EL n F e d P xs ρ acc H cV H'
theorem rT.mk{n F e d P xs ρ acc H cV H'}(h:EL n F e d P xs ρ acc H cV H'):rT n F e d P xs ρ acc H cV H':=by delta rT;exact h
theorem rT.run{n F e d P xs ρ acc H cV H'}(h:rT n F e d P xs ρ acc H cV H'):EL n F e d P xs ρ acc H cV H':=by delta rT at h;exact h
theorem rT.nil{P}{acc}(hp:P.1 H) p(K:Value→Value→Value→Env→Yp Fin)
  (heq:∀it a env,Xq (.DictComp kx vx gens scope pos) d it a env=(standAt p>>=fun _=>Uk it>>=fun r=>match r with
   |none=>pure (.done .next)
   |some v=>K it a v env)):
  rT n F (.DictComp kx vx gens scope pos) d P [] ρ acc H acc H:=by
 refine .mk fun A s W env it D Y R S E fr hl hc hD rR rS ac fd Q q=>(R7 ?_);refine Tv (dg fun Q' E' qq _=> ?_);refine J (heq ..) (bA (QL (Ri (fd A s W H R (Gr.refl ..) S hp) (fun r s1 h1=> ?_) fun _ _ e=>e.elim)));obtain⟨rfl,G1,S1⟩:=h1;exact QO (qq _ _ ⟨_,rfl,q s1 W (G1.weaken fun x h=> .inr h) S1 (fr.dh G1 hl hc) (ac.step G1 hD)⟩)
theorem rT.cons{kx vx target}{ifs}{gens}{scope}{pos}{d}{P}{x y}{k}{xs}{acc cV}(hp:P.1 H)(hT:P.2 target)(ht:AT n F target x ρ H am H1)
  (hi:eI n F ifs am H1 true H2) (hk:ET n F kx am H2 (.str k) H3) (he:ET n F vx am H3 y H4) (hs:∀n x,ρ.lookup n=some x→am.lookup n=some x) (hz:acc.length≤QW) (h:rT n F (.DictComp kx vx gens scope pos) d P xs ρ (il acc k y) H4 cV H5) p
  (heq:∀it D env,Xq (.DictComp kx vx gens scope pos) d it (.ref D) env=(standAt p>>=fun _=>Uk it>>=fun r=>match r with
   |none=>pure (.done .next)
   |some v=>SI target it v>>=fun _=>Xa target env v>>=fun _=>
     (forIn ifs true fun c r=>if r=true then do let ok ←isTrue c env (eval c env);pure (SA ok) else pure (SA r))>>=fun ok=>
     if ok=true then((do
      let kv ←eval kx env
      let vv ←holding [kv] (eval vx env)
      standAt {kx.pos with endLine:=vx.pos.endLine,endCol:=vx.pos.endCol}
      holding [kv,vv] (dictSet D kv vv))>>=fun _=>aae (.compLoop (.DictComp kx vx gens scope pos) d it (.ref D) env)) else aae (.compLoop (.DictComp kx vx gens scope pos) d it (.ref D) env))):
  rT n F (.DictComp kx vx gens scope pos) d P (x::xs) ρ acc H cV H5:=by
 refine .mk fun A s W env it D Y R S E fr hl hc hD rR rS ac fd Q q=>(R7 ?_);refine Tv (dg fun Q' E' qq _=> ?_);refine J (heq ..) (bA (QL (Ri (fd A s W H R (Gr.refl ..) S hp) (fun r s1 h1=> ?_) fun _ _ e=>e.elim)));obtain⟨v,rfl,h1⟩:=h1;refine QL (Ri (h1 target hT) (fun _ s2 h2=> ?_) fun _ _ e=>e.elim);refine QK fun kG=> ?_;obtain⟨W2,G2,S2,r2,xw⟩:=h2;refine kG (QL (lC (ht.run A s2 W2 env v R S2 E (fr.dh G2 hl hc) r2 _ fun s3 W3 G3 S3 f3=> ?_)));refine QL (lC (hi.run A s3 W3 env R S3 E f3 _ fun s4 W4 G4 S4=> ?_));have f4:=f3.step G4;refine QL (QL (lC (hk.run A s4 W4 env R S4 E f4 _ fun u s5 W5 G5 S5 r5=> ?_)));refine QL (wpAny_holding (lC (he.run A s5 W5 env R S5 E (f4.step G5) _ fun u6 s6 W6 G6 S6 r6=> ?_)));refine bA (wpAny_holding (lC (Bj S6 (((((ac.step G2 hD).step G3 (kI rR rS)).step G4 id).step G5 id).step G6 id) (r5.mono G6.le) r6 hz fun s7 G7 S7 a7=>QO (qq _ _ ⟨rfl, ?_⟩))));have No:Gr (fun a=>own env a∨a=D) W2 s2 W6 s7:=((((G3.trans G4.of).trans G5.of).trans G6.of).weaken fun x h=> .inl h).trans (G7.weaken fun x h=> .inr h);refine h.run A s7 W6 env it D Y R S7 E ((((f4.step G5).step G6).dh G7 (fun h=>rR h.symm) fun x c hx=>rS x c hx).sub hs) hl hc hD rR rS a7 (xw.step No) Q fun s8 W8 G8 S8 f8 a8=>q s8 W8 ?_ S8 f8 a8;exact((G2.weaken fun x h=> .inr h).trans (No.weaken fun x h=> .inl h)).trans G8
theorem nk{kx vx}{gens}{scope}{pos}{d}{it acc}{env}{R}{g}(hg:gens[d]?=some g)(vA:g.is_async=0)
  (h0:SM (model prog w) A (.compLoop (.DictComp kx vx gens scope pos) d it acc env) R s)
  (h:wpAny (model prog w) A (VP it) (fun D7 s'=>SM (model prog w) A (.compLoop (.DictComp kx vx gens scope pos) d D7 acc env) R s') aX s):
  SM (model prog w) A (.compStart (.DictComp kx vx gens scope pos) d it acc env) R s:=by
 refine R7 (wpAny_notedAt ?_)
 delta compStart
 have hc:((clausesOf (.DictComp kx vx gens scope pos))[d]?).elim false (·.is_async !=0)=false:=by
  refine J hg ?_;show(g.is_async !=0)=false;exact J vA rfl
 refine J hc (bG (Vm ?_));refine bl (fun _=> ?_) fun _=> ?_
 ·first
   |exact bP (QO (VS rfl h0))
   |exact QO (VS rfl h0)
 ·refine J hg ?_
  first
   |exact bR (bA (QL (Ri h (fun D7 s' h'=>QO (VS rfl h')) fun _ _ x=>x.elim)))
   |(exact bR (bA (QL (Ri h (fun D7 s' h'=>QO (VS rfl h')) fun _ _ x=>x.elim))))
theorem sX{scope}{cl}{P}{xs}{acc}{pos}{A}{s0 s2}{W0 W2}{env}{it}{Y}(R:aB A n)(EM:∃o,bo SR=some o)
  (pQ:Gr cr W0 s0 W2 s2) (S:an W2 H s2) (E:az F env) (CN:cQ W0 ρ env s0.heap) (K:aq F scope ρ dH) (gi:∀x c,cl.lookup x=some c→env.cells.lookup x=some c)
  (ou:∀x,(x,Ub)∈scope.names→(cl.lookup x).isSome=true) (c:Src n P it Y xs s0 W2 s2) (hz:acc.length≤QW)
  (h:rT n ⟨dT F scope.names,F.code,false,Q6⟩ (.DictComp kx vx (⟨target,iter,ifs,0⟩::rest) scope pos) 0 P xs dH [] H acc H1) {RR:Value→TD→Result→Ro→Prop}
  (GH:∀D C f s' W' m,Gr cr W0 s0 W' s'→an W' H1 s'→Rel W' (.bw acc) (.ref D)→s0.heap.get? C=none→C∉W'.φ→W'.I C=none→s'.heap.Ns C m→RR (.ref D) C (.ok f) s'):
  wpAny (model prog w) A newDict (fun acc gq=>wpAny (model prog w) A (Y6 scope env.globals cl [] env.qual none .none (some env)) (fun cenv fg=>
   SM (model prog w) A (.compStart (.DictComp kx vx (⟨target,iter,ifs,0⟩::rest) scope pos) 0 it acc {cenv with scope:=aaa scope env}) (RR acc cenv.locals) fg) aX gq) aX s2:=by
 have fr:=CN.step pQ;refine R5 (Xd K.lD (by intro y hy;simp at hy) (fun cI gF lE=> ?_) K.kind);have hC:(s2.heap.push (dq [] 0)).objs.size=s2.heap.objs.size+1:=RI ..;have old:=fun b o e=>lE.extBut b o (Sw (Rq e)) (QT _ e);have gG:=fun b o e=>old b o (QT _ e);have pR:s2.heap.get? (s2.heap.push (dq [] 0)).objs.size=none:=by
  cases e:s2.heap.get? (s2.heap.push (dq [] 0)).objs.size with
  |none=>rfl
  |some o=>have:=Rq e;rw[hC] at this;exact absurd (Ur this) (Sj _)
 have S4:=S.same (s':={s2 with heap:=cI}) (fun b o e _=>gG b o e) S.bare;have um:Gr cr W2 s2 W2 {s2 with heap:=cI}:=⟨W2.le_refl,fun _ h=> .inl h,fun _ _ h=> .inl h,fun b o e _ _=>gG b o e,fun a h _=>br gG a h,rfl,fun _ _ h=>h⟩;have xF:=fun a y=>(c.new a y).2;have CO:s2.heap.objs.size≠(s2.heap.push (dq [] 0)).objs.size:=J hC (((Vt _).symm));have hX:∀a,(own (Un scope cl (s2.heap.push (dq [] 0)).objs.size env) a∨a=s2.heap.objs.size)→s2.heap.get? a=none:=fun a o=>by
  rcases o with(o|⟨ce,x,_,hx⟩)|o
  ·exact o▸pR
  ·cases q:s2.heap.get? a with
   |none=>rfl
   |some o=>
    have h2:=ce;rw[hC] at h2;exact absurd (XC (Ur h2) (Rq q)) (Sj _)
  ·exact o▸ae _
 have lp:SM (model prog w) A (.compLoop (.DictComp kx vx (⟨target,iter,ifs,0⟩::rest) scope pos) 0 it (.ref s2.heap.objs.size) (Un scope cl (s2.heap.push (dq [] 0)).objs.size env))
   (RR (.ref s2.heap.objs.size) (s2.heap.push (dq [] 0)).objs.size) {s2 with heap:=cI}:=by
  refine T6 (h.run A {s2 with heap:=cI} W2 (Un scope cl (s2.heap.push (dq [] 0)).objs.size env) it s2.heap.objs.size Y R S4 (fu S E fr K gi ou pR gF gG).1 (fu S E fr K gi ou pR gF gG).2 (fun y=>xF _ y pR) (fun x c' hx y=> ?_) (fun y=>xF _ y (ae _)) CO (fun x c hx e=>(fun x c hx=>(fr.dC x c (gi x c hx)).2.2.2) x c hx (e▸ae _)) (⟨⟨[],0,(old _ _ (Q0 _ rfl)),rfl⟩,SE,(S.fresh (ae s2.heap))⟩)
   ((fun X hx=>(c.feed X hx).step (um.of)) _ fun a o y=>xF a y (hX a o)) (fun s'=>∀f,RR (.ref s2.heap.objs.size) (s2.heap.push (dq [] 0)).objs.size (.ok f) s') fun s' W' G' S' f' a' f=> ?_) fun r s' hr=>by obtain⟨f,rfl,hr⟩:=hr;exact hr f
  ·exact(CN.dC x _ (gi x _ hx)).2.2.2 (c.new _ y).1
  ·obtain⟨vs,m,ho,rl⟩:=a'.obj;have sL:(s2.heap.objs.size==SR)=false:=by
    obtain⟨o,hm⟩:=EM;rw[beq_eq_false_iff_ne];exact Se (Sw (Rq (S.ground _ _ hm)))
   obtain⟨S5,G5,l5⟩:=S'.adopt a'.sep ho;obtain⟨mm,hm,_⟩:=f'.m;have h0:∀a,((own (Un scope cl (s2.heap.push (dq [] 0)).objs.size env) a∨a=s2.heap.objs.size)∨Y a)→s0.heap.get? a=none:=fun a o=>by
    rcases o with o|o
    ·exact(pQ.back (hX a o)).resolve_right id
    ·exact(c.new a o).1
   have CP:=f'.sep;refine GH _ _ f s' _ mm ?_ S5 ⟨_,vs,m,rfl,Wd.ak ..,rl.mono l5,a'.nd,hz,sL⟩ ((pQ.back pR).resolve_right id) CP.1 ?_ hm
   ·refine((pQ.trans um).base G' fun a o e=>absurd (h0 a o) e).base G5 fun a o e=> ?_;subst o;exact absurd ((pQ.back (ae s2.heap)).resolve_right id) e
   ·show(if(s2.heap.push (dq [] 0)).objs.size=s2.heap.objs.size then _ else W'.I _)=none;exact(if_neg (Se CO))▸CP.2
 exact nk rfl rfl lp (di.step (c.self (fun _=>False) fun _ h=>h.elim) um A _ W2 H (Gr.refl ..) S4 _ lp)
theorem XT.yy{kx vx target iter}{ifs}{rest}{scope}{P}{xs}{acc}{pos iG py}{y}(EM:∃o,bo SR=some o)(K:aq F scope ρ dH)(hi:IT n F iter ρ H xs P H1)
  (h:rT n ⟨dT F scope.names,F.code,false,Q6⟩ (.DictComp kx vx (⟨target,iter,ifs,0⟩::rest) scope pos) 0 P xs dH [] H1 acc H2) (hz:acc.length≤QW) (fN:ST F y)
  (hsw:∀env,az F env→WB (.DictComp kx vx (⟨target,iter,ifs,0⟩::rest) scope pos) (some (.Name y py)) iG.line env=pure true)
  (hs:autoParam (∀env x,Sv iter env x=pure x) aI):
  XT n F (.Assign [.Name y py] (.DictComp kx vx (⟨target,iter,ifs,0⟩::rest) scope pos) iG) ρ H .next ((y, .bw acc)::ρ) H2:=by
 refine .mk fun A s W env R S E fr Q q=>(QK fun kG=> ?_);obtain⟨cl,iX,gi,ou⟩:=dN E fr K;refine kG (J (WV _ _ _ _ (hsw env E)) ?_);refine bA (QL ?_);refine QL (Ri (U1 rfl (hs env) iX K.kind K.names (hi.run A s W env R S E fr _ fun it Y s2 W2 G2 S2 c=> ?_)) (fun _ s' hq=>QO (QO hq)) fun _ _ e=>e);refine sX R EM G2 S2 E fr K gi ou c hz h fun D C f s' W' m G' S' r' hC h1 h2 hm=>(Vr (fN.run A s' W' H2 ρ env (.bw acc) _ S' E (fr.step G') r' _ fun dL CQ CR GI=> ?_));have CS:=fun o=>fr.cF C o hC;obtain⟨mm,AQ⟩:∃m,dL.heap.Ns C m:=⟨m,nD hm fun o e=>CQ.heap _ o e h1 CS⟩;refine⟨mm,AQ,fun h' un=> ?_⟩;have G5:Gr (fun a=>a=C) W' dL W' {dL with heap:=h'}:=Gr.same un rfl;refine q _ _ W' (((G'.of).trans CQ).base G5 fun x e hx=>by cases e;exact absurd hC hx) (CR.same (fun a o e hh=>(un.2 a fun z=>by cases z;exact hh.elim h1 fun hh=>hh h2).trans e) CR.bare) ?_ rfl;refine GI.dh G5 (fun e=> ?_) fun x c hx e=> ?_
 ·exact CS (.inl e.symm)
 ·cases e;exact(fr.dC x _ hx).2.2.2 hC
end
set_option maxHeartbeats 1000000
open Builtin Builtin.Str
abbrev LB:=List Value×Writer×List Nat
structure Hs M A E s(f:Nat→LB→Yp (ForInStep LB)):Prop where
 lit:∀x c rest p w' Q',(c::rest).span (· !=37)=([c],rest)→¬tooLong w'.total=true→(∀o,aai o ⟨#[c]⟩→Q' (.yield (p,w'.add ⟨#[c]⟩ o,rest)) s)→wpAny M A (f x (p,w',c::rest)) Q' E s
 str:∀x y t p w' rest Q',¬tooLong w'.total=true→(∀o,aai o y→Q' (.yield (p,w'.add ⟨y.cps.toList.toArray⟩ o,rest)) s)→wpAny M A (f x (.str y t::p,w',37::115::rest)) Q' E s
 fin:∀x p w' Q',¬tooLong w'.total=true→Q' (.done (p,w',[])) s→wpAny M A (f x (p,w',[])) Q' E s
def Bk(M:Model)(A:Ta)(E:Value→Ro→Prop)(s:Ro)(f:Nat→LB→Yp (ForInStep LB))(n:Int)(S:Rj):Prop:=
 ∀x t p w' rest Q',¬tooLong w'.total=true→(∀z o k,z=S→aai o z→Q' (.yield (p,w'.add z o,rest)) {s with toks:=k})→wpAny M A (f x (.int n t::p,w',37::100::rest)) Q' E s
section
variable{M:Model}{A:Ta}{E:Value→Ro→Prop}{s:Ro}{f:Nat→LB→Yp (ForInStep LB)}{Q:LB→Ro→Prop}{a c S:Rj}{n:Int}{t1 t2 t3:Tok}{w0:Writer}
theorem EN(T:∀k,Hs M A E {s with toks:=k} f)(I:Bk M A E s f n S)(g:KPc.Good w0 VR 0)(ha:a.length≤100)(hc:c.length≤100)(hS:S.length≤10)
  (h:∀w' k,KPc.Good w' (a++":"++S++"("++c++")") 300→Q ([],w',[]) {s with toks:=k}):wpAny M A (forIn [0,1,2,3,4,5,6,7,8] ([.str a t1, .int n t2, .str c t3],w0,[37,115,58,37,100,40,37,115,41]) f) Q E s:=by
 refine Vk ((T s.toks).str _ _ _ _ _ _ _ (S9 g dc) fun o ho=> ?_);refine KPc.after_str0 g ha ho fun w1 g1=>(Vk ((T s.toks).lit _ _ _ _ _ _ rfl (S9 g1 dc) fun o ho=> ?_));refine V4 g1 rfl ho fun w2 g2=>(Vk (I _ _ _ _ _ _ (S9 g2 dc) fun z o k hz ho=> ?_));refine V4 g2 hz ho fun w3 g3=> ?_;have g3:=KPc.good_mono g3 (Zx hS _);refine Vk ((T k).lit _ _ _ _ _ _ rfl (S9 g3 dc) fun o ho=> ?_);refine V4 g3 rfl ho fun w4 g4=>(Vk ((T k).str _ _ _ _ _ _ _ (S9 g4 dc) fun o ho=> ?_));refine KPc.after_str g4 hc ho fun w5 g5=>(Vk ((T k).lit _ _ _ _ _ _ rfl (S9 g5 dc) fun o ho=> ?_));exact V4 g5 rfl ho fun w6 g6=>(Vk ((T k).fin _ _ _ _ (S9 g6 dc) (h _ k (KPc.good_mono g6 dc))))
end
theorem C6:aai (if b=true then some (RA y t) else none) y:=by
 cases b
 ·exact Wm rfl
 ·exact KPc.obj_some rfl
theorem EO(a c:Rj) n(hn:n=-1∨(0≤n∧n<10^10))(ha:a.length≤100)(hc:c.length≤100) b(t t1 t2 t3:Tok):Meets («str.__mod__» ⟨[.str ⟨#[37,115,58,37,100,40,37,115,41]⟩ t, .ref b],[]⟩) (fun _ R s=>IsTup s.heap b #[.str a t1, .int n t2, .str c t3]∧∀t' k,R (.ok (.ret (.str (a++":"++Vf (toString n)++"("++c++")") t'))) {s with toks:=k}):=by
 apply KPt.meets_tup;intro P w A s Q E H0 h;refine QK fun kG=> ?_;obtain⟨Ht,Bl,Hu,O6,Hv⟩:=H0;refine kG ?_;refine J (KPt.entry_is_r ..) ?_;refine QL (Wt ⟨Ht,Bl,Hu⟩ KPt.sub_tt ?_);refine QL (KPt.asStr_ref Bl Hv ?_);refine QL (KPt.fills_ref ⟨Ht,Bl,Hu⟩ ?_);intro _;refine QL (wpAny_seqItems Bl Hv ?_);refine QL (QO ?_);refine QL ?_;refine J (aa1 ..) ?_;refine KPc.start fun w0 g0=> ?_;have hlen:(Vf (toString n)).length≤10:=by
  rcases hn with rfl|⟨h0,h9⟩
  ·decide+kernel
  ·exact XU h0 dc h9
 refine EN (fun k=>⟨?_, ?_, ?_⟩) ?_ g0 ha hc hlen ?_
 ·intro x c rest p w' Q' hs ht h;refine Vm (Vy ht ?_);exact J hs ((QO (h _ (Wm (if_neg (show¬(1==9)=true by decide))))))
 ·intro x y t p w' rest Q' ht h;refine Vm (Vy ht ?_);refine QL (wpAny_holding ?_);refine QL (Sq (KPc.strOf_str _ _) ?_);refine QL (Sq rfl ?_);exact QO (QO (h _ C6))
 ·intro x p w' Q' ht h;refine Vm (Vy ht ?_);exact QO h
 ·intro x t p w' rest Q' ht h;refine Vm (Vy ht ?_);refine QL (wpAny_holding ?_);have hd:n.natAbs.log2<1920:=by
   refine QK fun kG=> ?_;rcases hn with rfl|⟨h0,h9⟩<;>refine kG ?_
   ·decide+kernel
   ·exact shown (by omega) (by omega) (Int.le_refl _)
  refine QL (Sq rfl ?_);refine QL (wpAny_mkInt ?_);refine QL (call_gives F.slot_int_repr (typeIs_int _ _ _) F.entry_int_repr (F.args_int_repr_1 _) (gives_int_repr _ _ (KPt.hd2 hd)) ⟨int_text_fits (KPt.hd2 hd), ?_⟩);refine QL (Sq rfl ?_);refine QO (QO ?_);refine h _ _ _ ?_ (Wm (ite_self _));rcases hn with rfl|⟨h0,h9⟩
  ·decide+kernel
  ·rw[KPc.int_text _ rfl (Or.inl rfl) rfl h0,Int.natAbs_of_nonneg h0]
 ·intro w' k g;exact KPc.finish_ok g dc rfl h
theorem EP z(hz:z.length≤1000000)(t u:Tok):Meets («str.__mod__» ⟨[.str ⟨#[123,37,115,125]⟩ t, .str z u],[]⟩) (fun _ R s=>∀t' k,R (.ok (.ret (.str ("{"++z++"}") t'))) {s with toks:=k}):=by
 refine KPc.meets_of fun P w A s Q E h=> ?_;refine J (KPc.entry_is_s ..) ?_;refine QL (Sq (a:=false) rfl ?_);refine QL (Sq rfl ?_);refine QL (KPc.wp_fills_str fun b=> ?_);refine QL (QO ?_);refine QL ?_;refine J (aa1 ..) ?_;refine KPc.start fun w0 g0=>(Vk (Vm (Vy (S9 g0 dc) (QO ?_))));refine KPc.after_add0 g0 rfl (Wm (if_neg dc)) fun w1 g1=> ?_;refine Vk (Vm (Vy (S9 g1 dc) ?_));refine QL (wpAny_holding (QL (Sq (KPc.strOf_str _ _) (QL (Sq rfl (QO (QO ?_)))))));refine KPc.after_str g1 hz C6 fun w2 g2=>(Vk (Vm (Vy (S9 g2 dc) (QO ?_))));refine V4 g2 rfl (Wm (if_neg dc)) fun w3 g3=> ?_;refine Vk (Vm (Vy (S9 g3 dc) (QO ?_)));exact KPc.finish_ok g3 dc rfl h
section
variable{n:Nat}{F:Fx}{ρ:Loc}{H H1 H2:AH}
noncomputable def iy(i:Int):Rj:=if i=-1 then "-1" else Vf (toString i)
theorem OT.EO{i}(hi:i=-1∨(0≤i∧i<1000))(ha:a.length≤100)(hc:c.length≤100):OT n (VQ .Mod) (.str "%s:%d(%s)") (.tup [.str a, .int i, .str c]) H (.str (a++":"++iy i++"("++c++")")) H:= .mk fun A s W x y R S rx ry Q q=>by
 refine QK fun kG=> ?_;obtain⟨t,rfl,_⟩:=rx;obtain⟨b,us,m,rfl,hI,r,_⟩:=ry;obtain⟨_,_,_,rfl,⟨t1,rfl,_⟩,⟨t2,rfl⟩,⟨t3,rfl,_⟩⟩:=r.three;refine kG ?_;have hlen:(a++":"++iy i++"("++c++")").length≤QW:=by
  have h1:(iy i).length≤10:=by
   delta iy
   refine bl (fun _=> ?_) fun _=> ?_
   ·decide
   ·rcases hi with rfl|⟨h0,h9⟩
    ·exact absurd rfl ‹_›
    ·exact XU h0 dc (by lia)
  simp only[Q7];have e2:"(".length=1:=rfl;have e3:")".length=1:=rfl;exact Rv▸ao (a9 (a9 (a9 (a9 (a9 ha (bC rfl)) h1) (bC e2)) hc) (bC e3)) dc
 have e:iy i=Vf (toString i):=by
  delta iy
  refine bl (fun _=> ?_) fun _=> ?_
  ·rename_i h;refine h.symm▸ ?_;decide+kernel
  ·rfl
 rw[e] at q hlen;exact wpAny_toks (KPt.bin_left dc (To s _ t) (⟨_,S.cq _ _ hI,rfl⟩) F.fills_str_mod KPt.fills_tuple F.slot_str_mod (call_meets F.slot_str_mod (To s _ t) F.entry_str_mod (F.args_str_mod_2 _ _) (Internal.EO a c i (hi.imp_right fun h=>⟨h.1,Int.lt_trans h.2 dc⟩) ha hc b t t1 t2 t3) ⟨(⟨_,S.cq _ _ hI,rfl,m,rfl⟩),fun t' k=>⟨(fun e=>nomatch e),fun hk=>q _ _ W (Gr.dD W s k) (S.tok k hk) ⟨t',rfl,hlen⟩⟩⟩))
theorem OT.EP(hz:z.length≤1000):OT n (VQ .Mod) (.str "{%s}") (.str z) H (.str ("{"++z++"}")) H:= .mk fun A s W x y R S rx ry Q q=>by
 obtain⟨t,rfl,_⟩:=rx;obtain⟨u,rfl,_⟩:=ry;have hs:=Rv;have hlen:("{"++z++"}").length≤QW:=by
  refine J (Q7 ..) (J (Q7 ..) ?_);have:("{":Rj).length=1:=rfl;have:("}":Rj).length=1:=rfl;lia
 exact wpAny_toks (binaryOp_meets (To s _ t) (To s z u) F.fills_str_mod F.slot_str_mod F.entry_str_mod (F.args_str_mod_2 _ _) (Internal.EP z (eG hz) t u) (fun t' k=>⟨(fun e=>nomatch e),fun hk=>q _ _ W (Gr.dD W s k) (S.tok k hk) ⟨t',rfl,hlen⟩⟩))
end
theorem vX(b n:Nat)(hb:b≤n):WX none (some b) 1 n=(0,(b:Int)):=by
 delta WX
 lia
theorem vY(b:Nat):WW 0 b 1=b:=by
 exact(places_from 0 b (Rr _))
theorem Bm(xs:Array Value) b:((Uy b).filterMap fun(k:Nat)=>xs[(0+(k:Int)*1).toNat]?).toArray=(xs.toList.take b).toArray:=by
 have e:(fun(k:Nat)=>xs[(0+(k:Int)*1).toNat]?)=fun k=>xs[0+k]?:=by
  funext k;rw[(show(0+(k:Int)*1).toNat=0+k by lia)]
 refine J e ?_;have:=pick_run xs 0 b;rw[List.filterMap_map] at this;refine J this ?_;rfl
section
variable{A:Ta}{E:Value→Ro→Prop}{s:Ro}
theorem kB{b n:Nat}{u}{Q}(hs:s.heap.IsSliceOf sl .none (.int b u) .none)(hb:b≤n)(h:Q (0,1,b) s):
  wpAny (model prog w) A (Builtin.Slice.sliceApplied (.ref sl) (pure n)) Q E s:=by
 obtain⟨os,sz,xx,C0⟩:=id hs;refine QL (QL (YD sz C0 (x:= .none) rfl (bF sz C0 (x:= .int b u) rfl (bF sz C0 (x:= .none) rfl (QO ?_)))));refine QL (slicePart_none ?_);refine J (if_neg dc) (QL (slicePart_none (QL (slicePart_int (bP ?_)))));refine J (vX b n hb) ?_;show wpAny _ _ (pure (0,1,WW 0 b 1)) _ _ s;exact J (vY b) ((QO h))
theorem jD{items}{b:Nat}{u}{Q}(ht:IsTup s.heap t items)(hs:s.heap.IsSliceOf sl .none (.int b u) .none)(hb:b<items.size)
  (h:Q (.ref s.heap.objs.size) {s with heap:=s.heap.push {cls:= .type "tuple",data:= .seq (items.toList.take b).toArray}})
  (hsz:items.size≤QW):wpAny (model prog w) A (U2 (.ref t) (.ref sl)) Q E s:=by
 have uE:sizeOk (.seq (items.toList.take b).toArray):=by
  show(items.toList.take b).toArray.size≤QW;refine J Re (J Vo (J TW ?_));lia
 obtain⟨os,sz,xx,C0⟩:=id hs
 delta U2
 try with_reducible refine wpAny_holding ?_
 first|refine bP ?_|skip
 refine QL (wpAny_sequenceKey ht.typeIs dc ?_);refine QL (RE ht.typeIs R6
  (wpAny_call_entry R6 ht.typeIs entry_tuple_getitem ?_ (args_tuple_getitem _ _)))
 show wpAny _ _ (Builtin.Tuple.tupleItemsOf (.ref t)>>=_) _ _ s;refine QL (tupleItemsOf_ ht ?_);refine bT (⟨os,sz,xx⟩) (J (if_pos dc) ?_);refine QL (kB hs (SU hb) ?_);have xy:¬(((0:Int)==0&&(1:Int)==1&&b==items.size)=true):=by
  have:(b==items.size)=false:=by rw[beq_eq_false_iff_ne];exact FS hb
  refine J this ?_;decide
 show wpAny _ _ (if(0==0&&1==1&&b==items.size)=true then _ else _) _ _ s;refine J (if_neg xy) (J (Bm items b) ?_)
 first
  |exact QL (R5 (QO ⟨_,rfl,QO h⟩) uE)
  |exact QL (R5 (bP (QO ⟨_,rfl,QO h⟩)) uE)
  |exact QL (QL (R5 (QO (QO ⟨_,rfl,QO h⟩)) uE))
  |exact QL (QL (R5 (QO ⟨_,rfl,QO h⟩) uE))
end
section
variable{n:Nat}{F:Fx}{ρ:Loc}{H H1 H2:AH}
theorem GT.C7{b:Nat}(hb:b<l.length):GT n (.tup l) none (some b) none H (.tup (l.take b)) H:=by
 refine .mk fun A s W o a vl vu vs R S r hs pl pu ps Q q=> ?_;obtain⟨a',us,m,rfl,im,r,hz⟩:=r;have hlen:=r.length;cases pl;cases ps;cases pu;refine jD ⟨_,S.cq _ _ im,rfl,m,rfl⟩ hs (by refine J Re (J hlen ?_);exact hb) ?_ (J Re (J hlen ((hz))));obtain⟨S2,G2⟩:=S.put (o:=sq "tuple" (us.take b) 0) rfl;exact q _ _ _ G2 S2 ⟨_,_,0,rfl,Wd.ak ..,(r.take b).mono G2.le,by refine J Vo ?_;lia⟩
end
section
variable{n:Nat}{F:Fx}{ρ:Loc}{H H1 H2:AH}
noncomputable def Wd.no(W:Wd)(a b:TD):Wd:=⟨W.φ++[a,b],W.I,W.C⟩
theorem Wd.Bn(W:Wd)(a b:TD):W.le (W.no a b):=⟨Zz _ _,fun _ _ h=>h,fun _ _ h=>h⟩
theorem an.EQ(S:an W H s)(ha:jz W a)(hb:jz W b)(nL:a≠b)(pa:s.heap.get? a≠none)(pb:s.heap.get? b≠none)
  (xa:OA (W.no a b) s.heap a oa) (xb:OA (W.no a b) s.heap b ob):
  an (W.no a b) (H++[some oa,some ob]) s∧Gr (fun x=>x=a∨x=b) W s (W.no a b) s:=by
 have l:=W.Bn a b;refine⟨⟨S.cq,S.gr, ?_, ?_,fun x m=> ?_,fun i o e=> ?_,S.bare,S.tk,S.col⟩,⟨l,fun x m=> ?_,fun x p e=> .inl e,fun x p e _ _=>e,fun x h _=>h,rfl,fun _ _ h=>h⟩⟩
 ·refine Tn.mpr ⟨S.nodup,by simp[nL],fun x hx y hy e=> ?_⟩;subst e;rcases QX.mp hy with rfl|hy
  ·exact ha.1 hx
  ·rw[QV.mp hy] at hx;exact hb.1 hx
 ·simp[Wd.no,S.len]
 ·rcases Q9.mp m with m|m
  ·exact S.lt x m
  ·rcases QX.mp m with rfl|m
   ·exact pa
   ·exact(QV.mp m)▸pb
 ·by_cases hi:i<H.length
  ·replace e:=(RC hi)▸e;obtain⟨x,p,q,r⟩:=S.live i o e;exact⟨x,Wd.eM l p,q,eW l r⟩
  ·replace e:=(Rh (Nat.le_of_not_lt hi))▸e;have hlen:=S.len
   match hj:i-H.length with
   |0=>
    rw[hj] at e;simp at e;subst e;refine⟨a, ?_,ha.2,xa⟩;refine J (Rh (ao (bC hlen) (AN hi))) (J (show i-W.φ.length=0 by lia) ?_);rfl
   |1=>
    rw[hj] at e;simp at e;subst e;refine⟨b, ?_,hb.2,xb⟩;refine J (Rh (ao (bC hlen) (AN hi))) (J (show i-W.φ.length=1 by lia) ?_);rfl
   |k+2=>rw[hj] at e;simp at e
 ·rcases Q9.mp m with m|m
  ·exact .inl m
  ·rcases QX.mp m with rfl|m
   ·exact .inr (.inr (.inl rfl))
   ·exact .inr (.inr (.inr (QV.mp m)))
theorem yz(R:aB A (n+1)):aB (A.under (.builtin "type.__call__" ⟨.ref C::rest,kw⟩)) n:=by
 have h2:(YX "type.__call__" ⟨.ref C::rest,kw⟩).weight≤1:=by
  exact bC rfl
 have h3:(YX "type.__call__" ⟨.ref C::rest,kw⟩).cUnits≤12:=by
  exact ao (bC (show(YX "type.__call__" ⟨.ref C::rest,kw⟩).cUnits=1 from rfl)) dc
 refine⟨rfl.trans R.1, ?_, ?_⟩
 ·exact elt (ik (FR h2)) R.2
 ·exact elt (ik (Jq (FR (FR h3)))) R.3
theorem CT.make{K}{C fI}{xs}{ks}(hK:∀h,(∀a o,bo a=some o→h.get? a=some o)→K.In h)(hm:makesIn K C=true)(hi:Tf K (.ref C) "__init__"=some (some (.ref fI)))(hf:typeIn K (.ref fI)=some (.type "function"))
  (h:CC n (.st (.ref fI)) (.ref H.length::xs) ks (H++[some (.inst C (H.length+1)),some (.ns [])]) .none H1):CT (n+1) (.st (.ref C)) xs ks H (.ref H.length) H1:= .mk fun A s W fv vs kv R S rf rx c7 se Q q=>by
 cases rf;refine UP ?_;have X:=hK s.heap S.ground;obtain⟨hh,g,d,t,os⟩:=s;refine make_core (makes_of X hm) (looks_findIn X hi) (fun self=>bind_fn X self hf) (.inl rfl) ?_;have S1:=S.cm Vn;have hs:(hh.push Vn).objs.size=hh.objs.size+1:=RI ..;have fx:=S1.fresh (ae (hh.push Vn));have hx:((hh.push Vn).push (Yl C hh.objs.size)).get? (hh.objs.size+1)=some (Yl C hh.objs.size):=hs▸Q0 _ rfl;have hd:((hh.push Vn).push (Yl C hh.objs.size)).get? hh.objs.size=some Vn:=QT _ (Q0 _ rfl);rw[hs] at fx;obtain⟨S3,G3⟩:=an.EQ (s:=⟨(hh.push Vn).push (Yl C hh.objs.size),g,d,t,os⟩) (oa:= .inst C (H.length+1)) (ob:= .ns []) (an.cm S1 (Yl C hh.objs.size)) fx (S.fresh (ae hh)) (Vt _) (J hx nofun) (hd▸nofun)
  ⟨hh.objs.size,by refine aO S.len ?_;simp[Wd.no],hx⟩ ⟨fun _=>none,Vi.Ns1.of_empty ⟨_,_,_,hd,rfl,(by intro e he;simp at he),fun _=>rfl⟩,fun x=>⟨fun _=>rfl,fun y hy=>by cases hy⟩⟩
 have C8:Rel (W.no (hh.objs.size+1) hh.objs.size) (.ref H.length) (.ref (hh.objs.size+1)):=⟨_,rfl,by refine aO S.len ?_;simp[Wd.no]⟩;have Be:=((Gr.cm W ⟨hh,g,d,t,os⟩ Vn).trans (Gr.cm (X:=cr) W ⟨hh.push Vn,g,d,t,os⟩ (Yl C hh.objs.size))).base G3 fun x e h=>by
  rcases e with rfl|rfl
  ·exact absurd (Ss (Te _)) h
  ·exact absurd (ae hh) h
 refine T6 (h.run (A.under (.builtin "type.__call__" ⟨.ref C::vs,kv⟩)) _ _ (.ref fI) (.ref (hh.objs.size+1)::vs) kv (yz R) S3 rfl ⟨_,_,rfl,C8,rx.mono G3.le⟩ c7 (se.mono G3.le) (fun v s'=>v= .none∧∃W',Gr cr (W.no (hh.objs.size+1) hh.objs.size) ⟨(hh.push Vn).push (Yl C hh.objs.size),g,d,t,os⟩ W' s'∧an W' H1 s') (fun v s' W' G' S' r'=>⟨r',W',G',S'⟩)) fun r s' z=> ?_;rcases r with e|(v|_|_|_)<;>first|exact z.elim|skip
 obtain⟨rfl,W',G',S'⟩:=z;exact⟨rfl,q _ s' W' (Be.trans G') S' (C8.mono G'.le)⟩
end
set_option maxHeartbeats 3200000
section
variable{A:Ta}{E:Value→Ro→Prop}{s:Ro}
theorem Bo(hh:A.handled=none)(hS:s.heap.SetOf (strKind prog w) S (fun _=>false) 0)(hI:s.heap.IsListIter I l 0)(hl:s.heap.get? l=some (sq "list" [.str x t] m))(LC:S≠I)(O7:S≠l)(O8:I≠l)
  (h:∀h' tk,(∀b o,b≠S→b≠I→s.heap.get? b=some o→h'.get? b=some o)→s.toks≤tk→h'.SetOf (strKind prog w) S (fun k=>decide (k∈[x])) 1→R (.ok (.ret .none)) {s with heap:=h',toks:=tk}):
  SM (model prog w) A (.builtin "set.update.loop" ⟨[.ref S, .ref I],[]⟩) R s:=by
 refine So VW ?_;refine J (RX Uc _) ?_;refine QL (WE hI ⟨_,hl,rfl,m,rfl⟩ rfl fun h1 C9 Bc=> ?_);have O9:h1.SetOf (strKind prog w) S (fun _=>false) 0:=by
  obtain⟨o,es,ep,tb,ho,r⟩:=hS;exact⟨o,es,ep,tb,(Bc.2 S LC).trans ho,r⟩
 have m6:=(Bc.2 l (Se O8)).trans hl;refine QL (wpAny_holding ?_)
 delta setAdd
 refine wpAny_holding (QL ((strKind prog w).pyHash (Ua prog w x t) ?_));refine wpAny_setAddHashed_of (s:={s with heap:=h1,toks:=s.toks+1}) (Ua prog w x t) rfl O9 dc fun h2 yd Pa=> ?_;have LD:h2.SetOf (strKind prog w) S (fun k=>decide (k∈[x])) 1:=PyProof.Rows.SetOf_congr Pa (fun k=>by simp) rfl;refine QO ⟨TK Uc _,So VW ?_⟩;refine J (RX Uc _) ?_;have AA:h2.IsListIter I l 1:=by
  obtain⟨o,ho,r⟩:=C9;exact⟨o,(yd.2 I (Se LC)).trans ho,r⟩
 refine QL (WU hh AA ⟨_,(yd.2 l (Se O7)).trans m6,rfl,m,rfl⟩ rfl fun h3 hx=> ?_);refine QO (h h3 _ (fun b o hb C1 e=>hx b o C1 ((yd.2 b hb).trans ((Bc.2 b C1).trans e))) (Te _) ?_);obtain⟨o,es,ep,tb,ho,r⟩:=LD;exact⟨o,es,ep,tb,hx S o LC ho,r⟩
noncomputable def Bp(led:Bool):Obj:={cls:= .type "set",data:= .set #[] 0 (.fresh 0 0 led)}
noncomputable def LE(s:Ro)(x:Rj)(r:Value)(s':Ro):Prop:=r= .none∧∃h' tk,s'={s with heap:=h',toks:=tk}∧s.toks≤tk∧h'.SetOf (strKind prog w) s.heap.objs.size (fun k=>decide (k∈[x])) 1∧∀b o,b<s.heap.objs.size→s.heap.get? b=some o→h'.get? b=some o
theorem oJ{l:TD}{x:Rj}{t:Tok}{m:Nat}{Q:Value→Ro→Prop}
  (hh:A.handled=none) (hl:s.heap.get? l=some (Internal.sq "list" [.str x t] m))
  (h:∀(h':Vi)(tk:Nat),h'.SetOf (strKind prog w) s.heap.objs.size (fun k=>decide (k∈[x])) 1→s.toks≤tk→
   (∀b o,b<s.heap.objs.size→s.heap.get? b=some o→h'.get? b=some o)→Q (.ref s.heap.objs.size) {s with heap:=h',toks:=tk}):
  wpAny (model prog w) A (call (.type "set") [.ref l]) Q E s:=by
 obtain⟨c,tl,Pb⟩:=F.called_set.mro;have Np:=F.called_set.made;have fV:=F.called_set.sub;refine UP (R7 ?_);show wpAny _ _ (callAny (.type "set") _) _ _ _;refine QO ⟨W9 _ (by decide+kernel),So F.entry_type_call ?_⟩;rw[Ta.under_plain (weight_type_call_type "set" [.ref l] []) rfl];have h1:=F.called_set.notType;have h2:=F.called_set.canCreate;have QC:=F.typeCall_set_1 (.ref l)
 repeat (any_goals (first|assumption|wp_step))
 refine T6 (code_set_new_1 (.ref l) (E:=E) (Q₁:=fun obj ch=>∃led:Bool,obj= .ref s.heap.objs.size∧ch={s with heap:=s.heap.push (Bp led)}) fun led=>⟨led,rfl,rfl⟩) fun r ch hr=> ?_;cases r with
 |error e=>exact hr
 |ok fl=>
  cases fl with
  |ret obj=>
   obtain⟨led,rfl,rfl⟩:=hr;have hS:(s.heap.push (Bp led)).get? s.heap.objs.size=some (Bp led):=Q0 _ rfl;have hT:Ro.TypeIs {s with heap:=s.heap.push (Bp led)} (.ref s.heap.objs.size) "set":=⟨_,hS,rfl⟩;have QD:=F.called_set.init.lookup;have C1:=F.called_set.init.bind (.ref s.heap.objs.size)
   repeat (any_goals (first|assumption|wp_step))
   refine T6 (aak (R:=wants (LE s x) E) F.called_set.init.plain F.entry_set_init (check_set_init_1 hT ?_)) fun LG fW yA=> ?_
   ·have Hw:(s.heap.push (Bp led)).get? l=some {cls:= .type "list",dict:=none,data:= .seq (SQ [.str x t]) m,slots:=#[]}:=QT _ hl;have Pd:=F.sub_list_set;have Pe:=F.sub_list_frozenset;have aU:(Wc "list"==Wc "dict")=false:=dc;have m6:(s.heap.push (Bp led)).IsList l (SQ [.str x t]):=⟨_,Hw,rfl,m,rfl⟩;unfold Builtin.«set.__init__» noKeywords aah;generalize Pf:VP=PI
    wp_walk
    subst Pf;refine We m6 ?_;refine QL (Y1 ?_);have Nq:=Rq hl;have JQ:A.in1.in1.in1.handled=none:=by rw[hh]
    have hsz:(s.heap.push (Bp led)).objs.size=s.heap.objs.size+1:=RI ..;refine Internal.Bo (l:=l) (x:=x) (t:=t) (m:=m) JQ ?ER ⟨_,Q0 _ rfl,rfl,rfl⟩ (QT _ Hw) (by refine J hsz ?_;exact Sw (Vu _)) (SJ Nq) (by rw[hsz];exact SJ (Vc Nq)) ?hR
    case ER=>
     have Bq:((s.heap.push (Bp led)).push {cls:= .type "list_iterator",data:= .fields #[.ref l, .int 0 0]}).get? s.heap.objs.size
       =some (Bp led):=QT _ hS
     exact(PyProof.Rows.setObjOf_fresh (knd:=strKind prog w) led).setOf Bq (by delta Xv;decide)
    case hR=>
     intro h' LH hk lT F2;show wpAny _ _ _ _ _ _;refine QO ?_;show wpAny _ _ (ret SZ) _ _ _;refine QO ⟨rfl,h',LH,rfl,lT,F2,fun b o hb e=> ?_⟩;exact hk b o (Sw hb) (by rw[hsz];exact Sw (Vc hb)) (QT _ (QT _ e))
   ·cases LG with
    |error e=>exact yA
    |ok Hy=>
     cases Hy with
     |ret r=>
      obtain⟨rfl,h',tk,rfl,lT,F2,AW⟩:=yA
      repeat (any_goals (first|assumption|wp_step))
      exact h _ _ F2 lT AW
     |_=>exact yA.elim
  |_=>exact hr.elim
end
section
variable{n:Nat}{F:Fx}{ρ:Loc}{H H1 H2:AH}
theorem CT.ES{x:Rj}:CT n (.st (.type "set")) [.lst [.str x]] [] H (.ref H.length) (H++[some (.sset [x])]):= .mk fun A s W fv vs kv R S rf rx c7 _ Q q=>by
 cases rf;have:kv=[]:=by simpa using c7
 subst this;obtain⟨v,rfl,a,us,m,rfl,hI,r,_⟩:=rx.one;obtain⟨_,rfl,t,rfl,_⟩:=r.one;refine oJ R.handled (S.cq _ _ hI) fun h' tk hS lT hk=> ?_;obtain⟨S2,G2⟩:=S.new (s':={s with heap:=h',toks:=tk}) (ob:= .sset [x]) (fun b o e=>hk b o (Rq e) e) (by obtain⟨o,_,_,_,ho,_⟩:=hS;show h'.get? _≠none;rw[ho];exact nofun) rfl rfl lT ⟨1,hS,QM _⟩;exact q _ _ _ G2 S2 ⟨_,rfl,by rw[←S.len];simp[Wd.new]⟩
end
section
variable{n:Nat}{F:Fx}{ρ:Loc}{H H1 H2:AH}
theorem ET.Da(hm:∃o,bo SR=some o){k v}{pos}{x}{y}(hk:ET n F k ρ H (.str x) H1)(hv:ET n F v ρ H1 y H2):ET n F (.Dict [some k] [v] pos) ρ H (.bw [(x,y)]) H2:=by
 refine .mk fun A s W env R S E f Q q=>(wpAny_Dict_pairs (knd:=strKind prog w) (pairs:=[(eval k env,do let x ←eval v env;standAt pos;pure x)]) rfl (SH _ _) (Sh _) ?_);have S1:=S.cm (dq [] 0);have G1:=Gr.cm (X:=cr) W s (dq [] 0);have fD:=S.fresh (ae s.heap);have Az:=ae s.heap;have hD:(s.heap.push (dq [] 0)).get? s.heap.objs.size=some (dq [] 0):=Q0 _ rfl;generalize s.heap.objs.size=D at fD Az hD⊢;show wpAny (model prog w) A (evalPairs _) _ aX {s with heap:=s.heap.push (dq [] 0)};have hD:({s with heap:=s.heap.push (dq [] 0)}:Ro).heap.get? D=some (dq [] 0):=hD;generalize ({s with heap:=s.heap.push (dq [] 0)}:Ro)=s1 at S1 G1 hD⊢;refine evalPairs_cons (hk.run A s1 W env R S1 E (f.step G1) _ fun kv s2 W2 G2 S2 r2=>QL (hv.run A s2 W2 env R S2 E ((f.step G1).step G2) _ fun vv s3 W3 G3 S3 r3=>bA (QO (evalPairs_nil ?_))));have f3:=al (G2.trans G3) (hD▸nofun) fD id;refine⟨[(x,vv)],⟨Rel.isKey (r2.mono G3.le),rfl,trivial⟩, ?_,fun h' hd hs=> ?_⟩
 ·obtain⟨bc,Pg,LI⟩:=dictOf (W:=W3) (l:=[]) (G3.heap _ _ (G2.heap _ _ hD fD.1 id) (al G2 (hD▸nofun) fD id).1 id) rfl SE;cases LI;exact Pg.dictOf
 ·refine QK fun kG=> ?_;obtain⟨es,m,ho,rd,nd⟩:=lG (l:=[(x,y)]) hd ⟨vv,[],rfl,r3,rfl⟩;obtain⟨S4,G4⟩:=S3.but (s':={s3 with heap:=h',toks:=s3.toks+1}) (fun b o hb e=>(hs.2 b hb).trans e) (fun b y=>by cases y;exact f3) rfl rfl (Te _);obtain⟨S5,G5,l5⟩:=S4.adopt f3 ho;exact kG (q _ _ _ (((((G1.trans G2).trans G3).base G4 fun b e h=>by subst e;exact absurd Az h).base G5 fun b e h=>by subst e;exact absurd Az h)) S5 ⟨D,es,m,rfl,Wd.ak ..,rd.mono l5,nd,by refine J Rv ?_;simp,oy hm S4 f3.2⟩)
end
noncomputable abbrev KK:Frag:=K0 w.params
noncomputable def fdOf(a:TD):aaA:=match(KK).lookup a with
 |some o=>(match o.data with| .func fd=>fd|_=>default)
 |none=>default
noncomputable def bodyOf(a:TD):List U3:=match(fdOf a).body with
 | .stmts b=>b
 |_=>[]
noncomputable def ax(a:TD):Fx:=⟨(fdOf a).scope.names,(fdOf a).code,true,some ((fdOf a).qualname++".<locals>.")⟩
noncomputable def Hz(a:TD):Obj:=((KK).lookup a).getD default
structure Base:Prop where
 uu:∀a o,(KK).lookup a=some o→bo a=some o
 rU:Jz
 mods:∃o,bo SR=some o
 bm:∀h:Vi,(∀a o,bo a=some o→h.get? a=some o)→h.BuiltinsAt mg 123
theorem Base.In(B:Base) h(k:∀a o,bo a=some o→h.get? a=some o):(KK).In h:=fun a o e=>k a o (B.uu a o e)
noncomputable def Nr(fd:aaA):Bool:=codeIn (KK) fd.code fd.qualname&&(fd.closure.isEmpty&&(!fd.scope.isCoroutine&&(!fd.scope.isGenerator&&(decide (fd.scope.kind= .function)&&(decide (fd.globals=mainGlobals)&&decide (fd.builtins=builtinsNs))))))
theorem Base.lX(B:Base) a(ho:(KK).lookup a=some (Hz a))(hd:(Hz a).data= .func (fdOf a))(h:autoParam (Nr (fdOf a)=true) aK):Fn a (fdOf a):=by
 simp only[Nr,Q5,Z6,U7,decide_eq_true_eq] at h;exact⟨⟨_,B.uu a _ ho,hd⟩,fun _ k=>codeRec_of (B.In _ k) h.1,h.2.1,h.2.2.1,h.2.2.2.1,h.2.2.2.2.1,h.2.2.2.2.2.1,h.2.2.2.2.2.2⟩
section
variable{fd:aaA}
theorem Binds.b1(B:Base){a}{x}(e:∀S v,V2 (KK) S (Sn fd ⟨[v],[]⟩)=some [(a,v)]):Binds fd [x] [] [(a,x)]:=fun h W vs kv k r rn=>by
 cases rn;obtain⟨v,rfl,rv⟩:=r.one;exact⟨_,Uj (B.In h k) (e _ v),v,[],rfl,rv,rfl⟩
theorem Binds.b2(B:Base){a b}{x y}(e:∀S(v u:Value),V2 (KK) S (Sn fd ⟨[v,u],[]⟩)=some [(a,v),(b,u)]):Binds fd [x,y] [] [(a,x),(b,y)]:=fun h W vs kv k r rn=>by
 cases rn;obtain⟨v,u,rfl,rv,ru⟩:=r.two;exact⟨_,Uj (B.In h k) (e _ v u),v,_,rfl,rv,u,_,rfl,ru,rfl⟩
theorem Binds.b3(B:Base){a b c}{x y z}(e:∀S(v u t:Value),V2 (KK) S (Sn fd ⟨[v,u,t],[]⟩)=some [(a,v),(b,u),(c,t)]):Binds fd [x,y,z] [] [(a,x),(b,y),(c,z)]:=fun h W vs kv k r rn=>by
 cases rn;obtain⟨v,u,t,rfl,rv,ru,rt⟩:=r.three;exact⟨_,Uj (B.In h k) (e _ v u t),v,_,rfl,rv,u,_,rfl,ru,t,_,rfl,rt,rfl⟩
end
theorem CT.fn{g}{am}{a}{xs}{ks bs}(B:Base)(F:Fn a (fdOf a))
  (hB:Binds (fdOf a) xs ks bs) (hn:(bs.map (·.1)).Nodup) (hk:((bs.map (·.1)).all fun x=>((fdOf a).scope.names.lookup x==some .local||(fdOf a).scope.names.lookup x==some .cell))=true)
  (h:af n (ax a) (bodyOf a) bs H g am H1) (hb:autoParam ((fdOf a).body= .stmts (bodyOf a)) aK):CT (n+1) (.st (.ref a)) xs ks H g.out H1:=
 CT.def F B.rU.nolimit hb hB hn (fun x hx=>by simpa using(R8.mp hk x hx)) h
theorem LJ(B:Base):Fn 67 (fdOf 67):=B.lX 67 rfl rfl
theorem LK:(fdOf 67).body= .stmts (bodyOf 67):=rfl
theorem EU(B:Base):Fn 90 (fdOf 90):=B.lX 90 rfl rfl
theorem LL:(fdOf 90).body= .stmts (bodyOf 90):=rfl
theorem LM S(v u:Value):V2 (KK) S (Sn (fdOf 90) ⟨[v,u],[]⟩)=some [(("self":Rj),v),("qname",u),("uri", .none)]:=rfl
theorem HA(B:Base):Fn 97 (fdOf 97):=B.lX 97 rfl rfl
theorem LN S(v u:Value):V2 (KK) S (Sn (fdOf 97) ⟨[v,u],[]⟩)=some [(("self":Rj),v),("data",u)]:=rfl
theorem Db(B:Base):Fn 106 (fdOf 106):=B.lX 106 rfl rfl
theorem HB S v:V2 (KK) S (Sn (fdOf 106) ⟨[v],[]⟩)=some [(("self":Rj),v),("_join_text", .ref 98)]:=rfl
theorem yB(B:Base):Fn 120 (fdOf 120):=B.lX 120 rfl rfl
theorem Dc S(v u t:Value):V2 (KK) S (Sn (fdOf 120) ⟨[v,u,t],[]⟩)=some [(("self":Rj),v),("tag",u),("attrs",t)]:=rfl
theorem Dd(B:Base):Fn 126 (fdOf 126):=B.lX 126 rfl rfl
theorem HC S(v u t q:Value):V2 (KK) S (Sn (fdOf 126) ⟨[v,u,t,q],[]⟩)=some [(("self":Rj),v),("tag",u),("attrs",t),("new_namespaces",q),("qname_text", .none)]:=rfl
theorem uF(B:Base):Fn 133 (fdOf 133):=B.lX 133 rfl rfl
theorem De S(v u:Value):V2 (KK) S (Sn (fdOf 133) ⟨[v,u],[]⟩)=some [(("self":Rj),v),("tag",u)]:=rfl
theorem Df(B:Base):Fn 161 (fdOf 161):=B.lX 161 rfl rfl
theorem HD S v:V2 (KK) S (Sn (fdOf 161) ⟨[v],[]⟩)=some [(("text":Rj),v)]:=rfl
theorem Dg(B:Base):Fn 168 (fdOf 168):=B.lX 168 rfl rfl
theorem HE S v:V2 (KK) S (Sn (fdOf 168) ⟨[v],[]⟩)=some [(("text":Rj),v)]:=rfl
theorem yC(B:Base):Fn 175 (fdOf 175):=B.lX 175 rfl rfl
theorem HF S v:V2 (KK) S (Sn (fdOf 175) ⟨[v],[]⟩)=some [(("func_name":Rj),v)]:=rfl
theorem Dh(B:Base):Fn 182 (fdOf 182):=B.lX 182 rfl rfl
theorem HG S(v u:Value):V2 (KK) S (Sn (fdOf 182) ⟨[v,u],[]⟩)=some [(("target":Rj),v),("source",u)]:=rfl
theorem Di(B:Base):Fn 189 (fdOf 189):=B.lX 189 rfl rfl
theorem HH S(v u:Value):V2 (KK) S (Sn (fdOf 189) ⟨[v,u],[]⟩)=some [(("target":Rj),v),("source",u)]:=rfl
theorem Dj(B:Base):Fn 196 (fdOf 196):=B.lX 196 rfl rfl
theorem HI S v:V2 (KK) S (Sn (fdOf 196) ⟨[v],[]⟩)=some [(("callers":Rj),v)]:=rfl
theorem Dk(B:Base):Fn 203 (fdOf 203):=B.lX 203 rfl rfl
theorem HJ S v:V2 (KK) S (Sn (fdOf 203) ⟨[v],[]⟩)=some [(("d":Rj),v)]:=rfl
theorem Dl(B:Base):Fn 208 (fdOf 208):=B.lX 208 rfl rfl
theorem HK S(v u t:Value):V2 (KK) S (Sn (fdOf 208) ⟨[v,u,t],[]⟩)=some [(("deeds":Rj),v),("functions",u),("target",t)]:=rfl
theorem uG(B:Base):Fn 213 (fdOf 213):=B.lX 213 rfl rfl
theorem Dm S(v u:Value):V2 (KK) S (Sn (fdOf 213) ⟨[v,u],[]⟩)=some [(("text":Rj),v),("references",u)]:=rfl
theorem Dn(B:Base):Fn 220 (fdOf 220):=B.lX 220 rfl rfl
theorem HL S v:V2 (KK) S (Sn (fdOf 220) ⟨[v],[]⟩)=some [(("text":Rj),v)]:=rfl
theorem Dp(B:Base):Fn 227 (fdOf 227):=B.lX 227 rfl rfl
theorem HM S v:V2 (KK) S (Sn (fdOf 227) ⟨[v],[]⟩)=some [(("text":Rj),v)]:=rfl
theorem Dq(B:Base):Fn 232 (fdOf 232):=B.lX 232 rfl rfl
theorem HN S v:V2 (KK) S (Sn (fdOf 232) ⟨[v],[]⟩)=some [(("text":Rj),v)]:=rfl
theorem Dr(B:Base):Fn 237 (fdOf 237):=B.lX 237 rfl rfl
theorem HO S(v u:Value):V2 (KK) S (Sn (fdOf 237) ⟨[v,u],[]⟩)=some [(("rows":Rj),v),("plain",u)]:=rfl
theorem yD(B:Base):Fn 242 (fdOf 242):=B.lX 242 rfl rfl
theorem HP S v:V2 (KK) S (Sn (fdOf 242) ⟨[v],[]⟩)=some [(("row":Rj),v)]:=rfl
theorem Ds(B:Base):Fn 247 (fdOf 247):=B.lX 247 rfl rfl
theorem HQ S(v u t:Value):V2 (KK) S (Sn (fdOf 247) ⟨[v,u,t],[]⟩)=some [(("calls":Rj),v),("ticks",u),("plain",t)]:=rfl
theorem HR(B:Base):Fn 252 (fdOf 252):=B.lX 252 rfl rfl
theorem HS:(fdOf 252).body= .stmts (bodyOf 252):=rfl
theorem HT S v:V2 (KK) S (Sn (fdOf 252) ⟨[v],[]⟩)=some [(("script":Rj),v)]:=rfl
theorem iq:VZ (KK) mainGlobals "C14NWriterTarget"=some (some (.ref 150)):=rfl
theorem gu:VZ (KK) mainGlobals "_escape_cdata_c14n"=some (some (.ref 161)):=rfl
theorem fY:VZ (KK) mainGlobals "_escape_attrib_c14n"=some (some (.ref 168)):=rfl
theorem eP:VZ (KK) mainGlobals "func_std_string"=some (some (.ref 175)):=rfl
theorem jd:VZ (KK) mainGlobals "add_func_stats"=some (some (.ref 182)):=rfl
theorem lY:VZ (KK) mainGlobals "add_callers"=some (some (.ref 189)):=rfl
theorem lZ:VZ (KK) mainGlobals "count_calls"=some (some (.ref 196)):=rfl
theorem jE:VZ (KK) mainGlobals "_law_function"=some (some (.ref 203)):=rfl
theorem qm:VZ (KK) mainGlobals "_law_run"=some (some (.ref 208)):=rfl
theorem iz:VZ (KK) mainGlobals "_law_plain"=some (some (.ref 213)):=rfl
theorem np:VZ (KK) mainGlobals "_law_value"=some (some (.ref 220)):=rfl
theorem oK:VZ (KK) mainGlobals "_law_text"=some (some (.ref 227)):=rfl
theorem oL:VZ (KK) mainGlobals "_law_read"=some (some (.ref 232)):=rfl
theorem kC:VZ (KK) mainGlobals "_law_profile"=some (some (.ref 237)):=rfl
theorem gJ:VZ (KK) mainGlobals "_law_firsts"=some (some (.ref 242)):=rfl
theorem qp:VZ (KK) mainGlobals "_law_due"=some (some (.ref 247)):=rfl
theorem jF:VZ (KK) mainGlobals "len"=some none:=rfl
theorem yE:VZ (KK) mainGlobals "sum"=some none:=rfl
theorem jG:VZ (KK) mainGlobals "sorted"=some none:=rfl
theorem je:VZ (KK) mainGlobals "enumerate"=some none:=rfl
theorem yF:VZ (KK) mainGlobals "zip"=some none:=rfl
theorem uH:VZ (KK) mainGlobals "list"=some none:=rfl
theorem l7:VZ (KK) mainGlobals "tuple"=some none:=rfl
theorem yG:VZ (KK) mainGlobals "set"=some none:=rfl
theorem iA:VZ (KK) mainGlobals "isinstance"=some none:=rfl
section
variable{n:Nat}{F:Fx}{ρ:Loc}{H:AH}
theorem nN(B:Base){h:Vi}(k:∀a o,bo a=some o→h.get? a=some o){x}{v}(e:VZ (KK) mainGlobals x=some (some v)):mg x=some v:=by
 obtain⟨o,es,ep,ho,hd,hk,hm⟩:=B.rU.g h k;refine aO (hm x) ?_
 delta VZ at e
 cases hK:(KK).lookup mainGlobals with
 |none=>rw[hK] at e;cases e
 |some ob=>
  rw[hK] at e;cases ho.symm.trans (B.In h k _ _ hK);obtain⟨cl,dd,dt,sl⟩:=o;cases hd
  delta nsFind findBy
  refine aO Zq ?_;have e:(match es.toList.find? (·.key.isStr x) with|some e=>some (some e.val)|none=>if es.toList.any (·.refKey) then none else some none)=some (some v):=e;cases he:es.toList.find? (·.key.isStr x) with
  |some en=>rw[he] at e;cases e;rfl
  |none=>rw[he] at e;revert e;refine bl (fun _ e=> ?_) (fun _ e=> ?_)<;>cases e
theorem vZ(B:Base){h:Vi}(k:∀a o,bo a=some o→h.get? a=some o){x}(e:VZ (KK) mainGlobals x=some none):mg x=none:=ns_none_of (B.In h k) (B.rU.g h k) e
theorem ET.globK(B:Base){x}{pos}{v}(e:VZ (KK) mainGlobals x=some (some v))(hk:autoParam (F.names.lookup x=some .globalImplicit) aK)(hd:autoParam ((x=="__debug__")=false) aE):ET n F (.Name x pos) ρ H (.st v) H:=
 .mk fun A s W env R S E f Q q=>(ET.glob B.rU (nN B S.ground e) hk hd).run A s W env R S E f Q q
theorem ET.ay(B:Base){x}{pos}{v}(e:VZ (KK) mainGlobals x=some Q6)(hv:Ts x=some v)(hk:autoParam (F.names.lookup x=some .globalImplicit) aK)(hd:autoParam ((x=="__debug__")=false) aE)(hx:autoParam (x≠"__name__") aE):ET n F (.Name x pos) ρ H (.st v) H:=
 .mk fun A s W env R S E f Q q=>(ET.builtin B.rU (vZ B S.ground e) hv hk hd hx).run A s W env R S E f Q q
noncomputable def au(l:List U3)(i:Nat):U3:=l.getD i default
noncomputable def gK(x:U3):SD:=by
 cases x with
 |For t=>exact t
 |While t=>exact t
 |If t=>exact t
 |Return o=>exact o.getD default
 |Assign _ e=>exact e
 |Expr e=>exact e
 |_=>exact default
noncomputable def uI(x:U3):List U3:=by
 cases x with
 |For _ _ b _ _=>exact b
 |While _ b _ _=>exact b
 |If _ a _ _=>exact a
 |_=>exact default
noncomputable def Dt(x:U3):List U3:=by
 cases x with
 |If _ _ b _=>exact b
 |_=>exact default
noncomputable def HU(x:SD):List SD:=by
 cases x with
 |Call _ as _ _=>exact as
 |Tuple as _ _=>exact as
 |List as _=>exact as
 |BoolOp _ es _=>exact es
 |ListComp _ gs _ _=>exact gs.map (·.iter)
 |GeneratorExp _ gs _ _=>exact gs.map (·.iter)
 |DictComp _ _ gs _ _=>exact gs.map (·.iter)
 |_=>exact []
noncomputable def nq(x:SD):SD:=by
 cases x with
 |Call f _ _ _=>exact f
 |Compare l _ _ _=>exact l
 |Subscript v _ _=>exact v
 |BinOp l _ _ _=>exact l
 |IfExp t _ _ _=>exact t
 |Lambda _ b _ _=>exact b
 |GeneratorExp e _ _ _=>exact e
 |_=>exact default
noncomputable def v5(x:SD):SD:=by
 cases x with
 |Subscript _ s=>exact s
 |BinOp _ _ r=>exact r
 |GeneratorExp _ gs=>exact((gs.map (·.target)).getD 0 default)
 |_=>exact default
noncomputable def oM(x:SD):aaf:=by
 cases x with
 |ListComp _ _ s _=>exact s
 |DictComp _ _ _ s _=>exact s
 |GeneratorExp _ _ s _=>exact s
 |Lambda _ _ s _=>exact s
 |_=>exact default
noncomputable abbrev jH(s:U3):SD:=gK s
noncomputable abbrev Nt(s:U3):SD:=gK s
noncomputable abbrev EV(s:U3):SD:=gK s
noncomputable abbrev fZ(s:U3):List U3:=uI s
noncomputable def Du(F:Fx)(e:SD):Fx:=⟨dT F (oM e).names,F.code,false,Q6⟩
noncomputable def cL(i:Nat)(e:SD):SD:=(HU e).getD i default
noncomputable abbrev EW(e:SD):SD:=nq e
noncomputable abbrev LO(e:SD):SD:=nq e
theorem jI:Ts "len"=some (.builtin "len"):=rfl
theorem yH:Ts "sum"=some (.builtin "sum"):=rfl
theorem jJ:Ts "sorted"=some (.builtin "sorted"):=rfl
theorem iB:Ts "isinstance"=some (.builtin "isinstance"):=rfl
theorem jf:Ts "enumerate"=some (.type "enumerate"):=rfl
theorem yI:Ts "zip"=some (.type "zip"):=rfl
theorem uJ:Ts "list"=some (.type "list"):=rfl
theorem l8:Ts "tuple"=some (.type "tuple"):=rfl
theorem yJ:Ts "set"=some (.type "set"):=rfl
theorem ET.dI{value}{lo hi}{p pos}{l}{k1 k2}(hv:ET n F value ρ H (.lst l) H1)(h1:PT n F lo ρ H1 k1)(h2:PT n F hi ρ H1 k2):
  ET n F (.Subscript value (.Slice lo hi Q6 p) pos) ρ H (.lst (cut k1 k2 l)) H1:=ET.slice hv h1 h2 PT.none Ty.lst Rp.lookup GT.lst
theorem ET.iJ{value}{lo hi}{p pos}{x}{k1 k2}(hv:ET n F value ρ H (.str x) H1)(h1:PT n F lo ρ H1 k1)(h2:PT n F hi ρ H1 k2):
  ET n F (.Subscript value (.Slice lo hi Q6 p) pos) ρ H (.str (SY x k1 k2)) H1:=ET.slice hv h1 h2 PT.none Ty.str VL.lookup GT.str
noncomputable def uK(F:Fx)(scope:aaf)(kr kc:List Rj):Bool:=
 (scope.kind== .function)&& !scope.isCoroutine&&(scope.names.all fun x=>x.2 != .cell&&(x.2 != .local||scope.names.lookup x.1==some .local)&&(x.2 != .free||(F.names.lookup x.1==some .cell)||(kr.contains x.1&&F.names.lookup x.1 !=some .local)))
  &&(kc.all fun x=>scope.names.lookup x==some .free&&F.names.lookup x !=some .local)
theorem jK:∀{ρ:Loc},(ρ.map (·.1)).contains x=true→(ρ.lookup x).isSome=true:=by
 intro rv
 induction rv with
 |nil=>
  intro h;cases h
 |cons pq r ih=>
  intro h;refine J lookup_cons ?_;by_cases e:x=pq.1
  ·exact congrArg _ (if_pos e)
  ·refine J (if_neg e) ?_;refine ih ?_;rw[Q8,ZF] at h;rw[(show(x==pq.1)=false by simpa using e),Bool.false_or] at h;exact h
theorem aq.of(h:uK F scope (ρ.map (·.1)) (dH.map (·.1))=true)(hs:∀n x,dH.lookup n=some x→ρ.lookup n=some x):aq F scope ρ dH:=by
 delta uK at h
 simp only[Q5,R8,Wi,bne_iff_ne,beq_iff_eq,U7] at h;obtain⟨⟨⟨h1,h2⟩,h3⟩,h4⟩:=h;refine⟨h1,h2,fun x hx=>(h3 x hx).1.1,fun x hx e=>((h3 x hx).1.2).resolve_left fun q=>q e,fun x hx e=> ?_,hs,fun x v e=> ?_⟩
 ·rcases(h3 x hx).2 with(q|q)|q
  ·exact absurd e q
  ·exact .inl q
  ·exact .inr ⟨jK q.1,q.2⟩
 ·exact h4 x (Q4.mpr ⟨(x,v),mem_of_lookup e,rfl⟩)
end
section
variable{n:Nat}{H:AH}{Fr:Fx}
open PySem.Builtin PySem.Builtin.Str in
theorem gL(x y z:Rj):(Sb x y z).length≤x.length+(x.length+1)*z.length:=by
 unfold Sb;refine bl (fun _=> ?_) fun _=> ?_
 ·exact RW _ _
 ·have hy:(glued y (partsBetween x (occurrences x y 0 x.length (x.length+1)) y.length)).length=x.length:=by rw[StrLaws.glued_between_self]
  rw[size_glued,Xr,UY] at hy;refine J (size_glued ..) (J (Xr ..) (J (UY ..) ?_));exact a9 (lb (bC hy)) (Zm _ (StrLaws.occ_length_le x y 0 x.length (x.length+1)))
noncomputable def ar(x y z:Rj):Rj:=if SS x y=true then Sb x y z else x
theorem bf{a b c}(hx:x.length≤a)(hz:z.length≤b)(h:a+(a+1)*b≤c):(ar x y z).length≤c:=by
 have h1:=gL x y z;have h2:(x.length+1)*z.length≤(a+1)*b:=Yo (TE hx) hz;unfold ar;exact bl (fun _=>QU h1 (QU (Ve hx h2) h)) fun _=>QU hx (QU (RW ..) h)
theorem dQ{a b}(hx:x.length≤a)(hz:z.length≤b)(h:a+(a+1)*b≤QW):(Sb x y z).length≤QW:=by
 exact ao (ao (gL x y z) (a9 hx (Yo (TE hx) hz))) h
theorem cM{p1 p2 p3 p4 p5 p6 p7 p8 p9 Ph Pi}{k1 k2 k3}{x y z}(fN:ST Fr ("text":Rj))(JB:(y==z)=false)(hx:x.length≤1048576)(hy:y.length≤QW)(hz:z.length≤14)(hr:(Sb x y z).length≤QW)
  (he:autoParam (∀env,eval (.Call (.Attribute (.Name "text" p5) "replace" p6) [.Constant (.str y) k2 p7, .Constant (.str z) k3 p8] [] p9) env=(do
   let ov ←eval (.Name "text" p5) env
   standAt p6.atName
   let(f,first) ←holding [ov] (Yw ov "replace" (do return (←YF (.Name "text" p5) env).getD true))
   Uo p9 f first (backTo p9 (starEach [.Constant (.str y) k2 p7, .Constant (.str z) k3 p8] env)) [])) aI):
  XT n Fr (.If (.Compare (.Constant (.str y) k1 p1) [.In] [.Name "text" p2] p3) [.Assign [.Name "text" p4] (.Call (.Attribute (.Name "text" p5) "replace" p6) [.Constant (.str y) k2 p7, .Constant (.str z) k3 p8] [] p9) Ph] [] Pi)
   [("text", .str x)] H .next [("text", .str (ar x y z))] H:=by
 refine XT.ite (TT.cmp (ET.str hy) ET.name OT.in_str) (fun hc=> ?_) fun hc=> ?_
 ·refine af.sub (af.cons (XT.assign (ET.aQ ET.name
   (GM.of Ty.str aH.str F.plainAttrs_str F.slot_str_replace F.type_str_replace) (ab.cons (ET.lit hy) (ab.cons (ET.lit (QU hz dc)) ab.nil)) aL.builtin (CT.replace JB hx hz hr) (he:=he)) (bv.one (AT.name fN))) af.nil) ?_
  have:ar x y z=Sb x y z:=by unfold ar;rw[if_pos hc]
  exact this▸aa rfl ad
 ·refine af.sub af.nil ?_;have:ar x y z=x:=by unfold ar;exact J hc rfl
  exact J this ((aa rfl ad))
noncomputable def dW(x:Rj):Rj:=ar (ar (ar (ar x "&" "&amp;") "<" "&lt;") ">" "&gt;") "\r" "&#xD;"
theorem HV(B:Base){x}(h:x.length≤100):CT (n+1) (.st (.ref 161)) [.str x] [] H (.str (dW x)) H:=by
 have l1:(ar x "&" "&amp;").length≤605:=bf h (b:=5) dc dc;have l2:(ar (ar x "&" "&amp;") "<" "&lt;").length≤3029:=bf l1 (b:=4) dc dc;have l3:(ar (ar (ar x "&" "&amp;") "<" "&lt;") ">" "&gt;").length≤15149:=bf l2 (b:=4) dc dc;refine CT.fn (g:= .ret (.str (dW x))) (am:=[("text", .str (dW x))]) B (Df B) (Binds.b1 B (HD)) (show [("text":Rj)].Nodup by decide) rfl (af.ret (XT.try ?_));refine af.cons (cM (ST.local rfl) rfl (eG h) dc dc (dQ h (b:=5) dc dc)) (af.cons (cM (ST.local rfl) rfl (eG l1) dc dc (dQ l1 (b:=4) dc dc)) ?_);refine af.cons (cM (ST.local rfl) rfl (ao l2 dc) dc dc (dQ l2 (b:=4) dc dc)) (af.cons (cM (ST.local rfl) rfl (ao l3 dc) dc dc (dQ l3 (b:=5) dc dc)) ?_);exact af.ret (XT.ret ET.name)
noncomputable def d8(x:Rj):Rj:=ar (ar (ar (ar (ar (ar x "&" "&amp;") "<" "&lt;") "\"" "&quot;") "\t" "&#x9;") "\n" "&#xA;") "\r" "&#xD;"
theorem HW(B:Base){x}(h:x.length≤40):CT (n+1) (.st (.ref 168)) [.str x] [] H (.str (d8 x)) H:=by
 have l1:(ar x "&" "&amp;").length≤245:=bf h (b:=5) dc dc;have l2:(ar (ar x "&" "&amp;") "<" "&lt;").length≤1229:=bf l1 (b:=4) dc dc;have l3:(ar (ar (ar x "&" "&amp;") "<" "&lt;") "\"" "&quot;").length≤8609:=bf l2 (b:=6) dc dc;have l4:(ar (ar (ar (ar x "&" "&amp;") "<" "&lt;") "\"" "&quot;") "\t" "&#x9;").length≤51659:=bf l3 (b:=5) dc dc;have l5:(ar (ar (ar (ar (ar x "&" "&amp;") "<" "&lt;") "\"" "&quot;") "\t" "&#x9;") "\n" "&#xA;").length≤309959:=bf l4 (b:=5) dc dc;refine CT.fn (g:= .ret (.str (d8 x))) (am:=[("text", .str (d8 x))]) B (Dg B) (Binds.b1 B (HE)) (show [("text":Rj)].Nodup by decide) rfl (af.ret (XT.try ?_));refine af.cons (cM (ST.local rfl) rfl (eG h) dc dc (dQ h (b:=5) dc dc)) (af.cons (cM (ST.local rfl) rfl (eG l1) dc dc (dQ l1 (b:=4) dc dc)) ?_);refine af.cons (cM (ST.local rfl) rfl (ao l2 dc) dc dc (dQ l2 (b:=6) dc dc)) (af.cons (cM (ST.local rfl) rfl (ao l3 dc) dc dc (dQ l3 (b:=5) dc dc)) ?_);refine af.cons (cM (ST.local rfl) rfl (ao l4 dc) dc dc (dQ l4 (b:=5) dc dc)) (af.cons (cM (ST.local rfl) rfl (ao l5 dc) dc dc (dQ l5 (b:=5) dc dc)) ?_);exact af.ret (XT.ret ET.name)
end
section
variable{n:Nat}{H:AH}{F:Fx}{ρ:Loc}
theorem count_loop:∀(ns:List Int) k(gz:Loc),XF n (ax 196) (fun _=>True,fun _=>True) (jH (au (bodyOf 196) 1)) (fZ (au (bodyOf 196) 1)) [] (ns.map V.int) (("nc", .int k)::gz) H .next [("nc", .int (k+ns.sum))] H:=by
 intro rv
 induction rv with
 |nil=>
  intro k gz;exact XF.nil trivial (af.sub af.nil (by simpa using aa rfl ad))
 |cons i ns ih=>
  intro k gz;exact J (TB ..) (aO (Int.add_assoc ..) ((XF.cons trivial trivial (AT.name (ST.local rfl)) (af.cons (XT.aug rfl ET.name Ee.add_int (ST.local rfl)) af.nil) (ih (k+i) (("calls", .int i)::("nc", .int k)::gz)))))
theorem jL(B:Base){l}{ns:List Int}(hl:l.map (·.2)=ns.map V.int):CT (n+1) (.st (.ref 196)) [.bw l] [] H (.int ns.sum) H:=by
 refine CT.fn (g:= .ret (.int ns.sum)) (am:=[("nc", .int ns.sum)]) B (Dj B) (Binds.b1 B (HI)) (show [("callers":Rj)].Nodup by decide) rfl (af.cons (XT.assign ET.int (bv.one (AT.name (ST.local rfl)))) ?_);refine af.cons (am:=[("nc", .int ns.sum)]) (H1:=H) (XT.for (xs:=ns.map V.int) (P:=(fun _=>True,fun _=>True)) (IT.val (ET.aQ ET.name
  (GM.of Ty.bw aH.bw SO PySem.F.slot_dict_values PySem.F.type_dict_values) ab.nil aL.builtin (CT.values aV.bw)) ?_) ?_) ?_
 ·exact hl▸VT.values
 ·have:=count_loop (n:=n) (H:=H) ns 0 [("callers", .bw l)];rw[Int.zero_add] at this;exact this
 ·exact af.ret (XT.ret ET.name)
end
section
variable{n:Nat}{H:AH}{F:Fx}{ρ:Loc}
noncomputable def aC(pre:List V):List V→List V
 |[]=>[]
 |x::xs=>if(pre.any fun y=>V.eqv y x)=true then aC (pre++[x]) xs else x::aC (pre++[x]) xs
theorem cS:aC pre (x::xs)=if(pre.any fun y=>V.eqv y x)=true then aC (pre++[x]) xs else x::aC (pre++[x]) xs:=rfl
theorem sY:∀(xs pre:List V),(aC pre xs).length≤xs.length:=by
 intro rv
 induction rv with
 |nil=>
  intro _;exact QM _
 |cons x xs ih=>
  intro pre;rw[cS];have:=ih (pre++[x]);refine bl (fun _=> ?_) (fun _=> ?_)<;>simp<;>lia
theorem Br(h:l=pre++xs):cut Q6 (some pre.length) l=pre:=by
 rw[h,lA,VK]
theorem qr(m4:l.all V.ok=true)(hz:l.length≤QW):∀(xs pre acc:List V),l=pre++xs→acc.length+xs.length≤QW→
  CF (n+8) (Du (ax 242) (gK (au (bodyOf 242) 0))) (gK (au (bodyOf 242) 0)) 0 (fun _=>True,fun t=>isTup t=true) (uw pre.length xs) [("row", .lst l)] acc H (acc++aC pre xs) H:=by
 intro rv
 induction rv with
 |nil=>
  intro pre acc hl hz;exact J (show aC pre []=[] from rfl) (J (Ra ..) ((CF.nil trivial _ _ (fun _ _ _=>rfl))))
 |cons x xs ih=>
  intro pre acc hl AB;have hx:x.ok=true:=by rw[hl,aat,Q5] at m4;have:=m4.2;rw[Sy,Q5] at this;exact this.1
  have hp:pre.all V.ok=true:=by rw[hl,aat,Q5] at m4;exact m4.1
  have d4:l=(pre++[x])++xs:=by refine J hl ?_;simp
  have hc:=Br hl;have hs:∀m z,([("row",V.lst l)]:Loc).lookup m=some z→(("thing",x)::("k",V.int pre.length)::[("row",V.lst l)]:Loc).lookup m=some z:=aa rfl ad;have ih:=ih (pre++[x]);replace ih:=Sc▸QS▸ih;by_cases hb:(pre.any fun y=>V.eqv y x)=true
  ·have e:aC pre (x::xs)=aC (pre++[x]) xs:=by rw[cS,if_pos hb]
   refine J e (CF.skip trivial rfl (AT.tuple (aW.cons (AT.name (ST.local rfl)) (aW.cons (AT.name (ST.local rfl)) aW.nil))) (eI.one (TT.cmp ET.name (ET.dI ET.name PT.none (PT.some ET.name)) ?_)) hs (ih acc d4 (CJ AB)) _ (fun _ _ _=>rfl));refine J hc ?_;have:=OT.jA (n:=n) (H:=H) hp hx;rw[hb] at this;exact this
  ·have e2:acc++x::aC (pre++[x]) xs=(acc++[x])++aC (pre++[x]) xs:=by simp
   refine J (show aC pre (x::xs)=x::aC (pre++[x]) xs by rw[cS,if_neg hb]) (J e2 ?_);refine CF.cons trivial rfl (AT.tuple (aW.cons (AT.name (ST.local rfl)) (aW.cons (AT.name (ST.local rfl)) aW.nil))) (eI.one (TT.cmp ET.name (ET.dI ET.name PT.none (PT.some ET.name)) ?_)) ET.name hs (lb AB) (ih (acc++[x]) d4 (by simp at AB⊢;exact ik AB)) _ (fun _ _ _=>rfl);refine J hc ?_;have:=OT.jA (n:=n) (H:=H) hp hx;rw[(show(pre.any fun y=>V.eqv y x)=false by simpa using hb)] at this;exact this
theorem j8(B:Base){l}(m4:l.all V.ok=true)(hz:l.length≤QW):CT (n+8+1) (.st (.ref 242)) [.lst l] [] H (.lst (aC [] l)) H:=by
 refine CT.fn (g:= .ret (.lst (aC [] l))) (am:=[("row", .lst l)]) B (yD B) (Binds.b1 B (HP)) (show [("row":Rj)].Nodup by decide) rfl (af.ret (XT.ret (ET.cK ?_ (IT.call (ET.ay B (je) jf) (ab.cons ET.name ab.nil) aL.type CI.enum) (qr m4 hz l [] [] rfl (by simpa using hz)) ?_)))
 ·exact aq.of rfl (aa rfl ad)
 ·have:=sY l [];simp;exact ao this hz
end
section
variable{n:Nat}{H:AH}{F:Fx}{ρ:Loc}
noncomputable def dm(rs:List (Rj×Rj)):List V:=rs.map fun r=> .tup [.lit r.1, .lit r.2]
noncomputable def cj(x:Rj)(rs:List (Rj×Rj)):List V:=(rs.filter fun r=>SS x r.2).map fun r=> .lit r.2
noncomputable def fy(x:Rj)(rs:List (Rj×Rj)):Rj:=rs.foldl (fun x r=>Sb x r.1 r.2) x
noncomputable abbrev pE:SD:=EW (EV (au (bodyOf 213) 0))
theorem sZ:∀rs acc,acc.length+rs.length≤QW→
  CF n (Du (ax 213) (pE)) (pE) 0 (fun _=>True,fun _=>True) (dm rs) [("text", .str x)] acc H (acc++cj x rs) H:=by
 intro rv
 induction rv with
 |nil=>
  intro acc _;exact J (show cj x []=[] from rfl) (J (Ra ..) ((CF.nil trivial _ _ (fun _ _ _=>rfl))))
 |cons r rs ih=>
  intro acc hz;have hs:∀m z,([("text",V.str x)]:Loc).lookup m=some z→(("sign",V.lit r.2)::("spelled",V.lit r.1)::[("text",V.str x)]:Loc).lookup m=some z:=aa rfl ad;by_cases hb:SS x r.2=true
  ·have ho:OT n (RZ .In) (.str r.2) (.str x) H (.bool true) H:=hb▸OT.in_str;have e:acc++cj x (r::rs)=(acc++[.lit r.2])++cj x rs:=by simp[cj,hb]
   refine J e ?_;have ih:=ih (acc++[V.lit r.2]) (by simp at hz⊢;exact ik hz);refine CF.cons trivial trivial (AT.tuple (aW.cons AT.loc (aW.cons AT.loc aW.nil))) (eI.one (TT.cmp (ET.CK ET.name) ET.name ho)) ET.name hs (lb hz) ih _ (fun _ _ _=>rfl)
  ·have ho:OT n (RZ .In) (.str r.2) (.str x) H (.bool false) H:=by
    exact(by simpa using hb)▸OT.in_str
   have e:cj x (r::rs)=cj x rs:=by simp[cj,hb]
   refine J e ?_;have ih:=ih acc (CJ hz);refine CF.skip trivial trivial (AT.tuple (aW.cons AT.loc (aW.cons AT.loc aW.nil))) (eI.one (TT.cmp (ET.CK ET.name) ET.name ho)) hs ih _ (fun _ _ _=>rfl)
theorem v6 x rs:(cj x rs).length≤rs.length:=by
 unfold cj;exact J (QP ..) ((Sk ..))
theorem v7 x rs:(!(cj x rs).isEmpty)=rs.any fun r=>SS x r.2:=by
 induction rs with
 |nil=>rfl
 |cons r rs ih=>
  unfold cj at ih⊢;by_cases h:SS x r.2=true
  ·simp[h]
  ·simp only[UA,h,V0];exact ih
noncomputable def ma(r:Rj×Rj):Bool:= !(r.1==r.2)&&decide (r.1.length≤14)&&decide (r.2.length≤1)&&QZ r.2
theorem s9:∀rs x k(gz:Loc),rs.all ma=true→x.length≤k→k*2^rs.length+2^rs.length≤1048576→
  XF n (ax 213) (fun _=>True,fun _=>True) (jH (au (bodyOf 213) 1)) (fZ (au (bodyOf 213) 1)) [] (dm rs) (("text", .str x)::gz) H .next [("text", .str (fy x rs))] H:=by
 intro rv
 induction rv with
 |nil=>
  intro x k gz _ _ _;exact XF.nil trivial (af.sub af.nil (aa rfl ad))
 |cons r rs ih=>
  intro x k gz h hk hz;replace h:=(Q5 ..)▸(Sy ..)▸h;have hr:=h.1;unfold ma at hr;simp only[Q5,U7,decide_eq_true_eq] at hr;have hp:1≤2^rs.length:=Nat.one_le_two_pow;replace hz:=(show 2^(r::rs).length=2*2^rs.length by rw[Rn,Nat.pow_succ,XB])▸hz;have F5:k≤1048576:=by
   exact ao (gh (DY (show k*1≤k*(2*2^rs.length) from Zw _ (by lia)))) hz
  have hl:(Sb x r.1 r.2).length≤2*k+1:=by
   have h1:=gL x r.1 r.2;have h2:(x.length+1)*r.2.length≤(k+1)*1:=Yo (a9 hk (QM _)) hr.1.2;lia
  have AB:(2*k+1)*2^rs.length+2^rs.length≤1048576:=by
   have:(2*k+1)*2^rs.length+2^rs.length=k*(2*2^rs.length)+2*2^rs.length:=by
    refine J (Nat.add_mul ..) (J (Zs ..) (J (Nat.mul_assoc ..) (J (Nat.mul_left_comm ..) ?_)));lia
   lia
  exact XF.cons trivial trivial (AT.tuple (aW.cons (AT.name (ST.local rfl)) (aW.cons (AT.name (ST.local rfl)) aW.nil)))
   (af.cons (XT.assign (ET.aQ ET.name
    (GM.of Ty.str aH.str RH PySem.F.slot_str_replace PySem.F.type_str_replace) (ab.cons ET.name (ab.cons ET.name ab.nil)) aL.builtin (CT.replace hr.1.1.1 (ao hk F5) (by lia) (ao hl (iF (ao (a9 (nB F5) (QM _)) dc))))) (bv.one (AT.name (ST.cell rfl)))) af.nil) (ih (Sb x r.1 r.2) (2*k+1) (("sign", .lit r.2)::("spelled", .lit r.1)::("text", .str x)::gz) h.2 hl AB)
theorem yK:∀{rs},rs.all ma=true→(cj x rs).all (V.nh 0)=true:=by
 intro rv
 induction rv with
 |nil=>
  intro _;exact rfl
 |cons r rs ih=>
  intro h;replace h:=(Q5 ..)▸(Sy ..)▸h;have ih:=ih h.2;have hr:=h.1;unfold ma at hr;rw[Q5] at hr;unfold cj at ih⊢;by_cases hb:SS x r.2=true
  ·simp only[UA,hb,if_true,Q8,Sy,Q5];exact⟨V.AX hr.2 0,ih⟩
  ·simp only[UA,hb];exact ih
noncomputable def dp(x:Rj)(r:Rj×Rj)(rs:List (Rj×Rj)):Rj:=if(rs.any fun r=>SS x r.2)=true then "" else fy x (rs++[r])
theorem jM x l:cut (some 1) Q6 (x::l)=l:=gE (x::l) 1
theorem uL x l:cut Q6 (some 1) (x::l)=[x]:=lA (x::l) 1
theorem md(B:Base){x}{r}{rs}(h:(r::rs).all ma=true)(hl:rs.length≤5)(hx:x.length≤10000):
  CT (n+8+1) (.st (.ref 213)) [.str x, .lst (dm (r::rs))] [] H (.str (dp x r rs)) H:=by
 have hr:rs.all ma=true:=by rw[Sy,Q5] at h;exact h.2
 have LI:ma r=true:=by rw[Sy,Q5] at h;exact h.1
 have Nu:∀b,(rs.any fun r=>SS x r.2)=b→TT (n+8) (ax 213) (EV (au (bodyOf 213) 0)) [("text", .str x),("references", .lst (dm (r::rs)))] H b H:=by
  intro b hb;have ho:=OT.ne_nil (n:=n) (H:=H) (yK (x:=x) hr);replace ho:=(hb ..)▸(v7 ..)▸ho;refine TT.cmp (ET.cK (aq.of rfl (aa rfl ad)) ?_ (sZ rs [] (by simp;exact gy hl)) ?_) (ET.list ab.nil) ho
  ·refine IT.val ?_ VT.lst;exact(show dm rs=cut (some 1) Q6 (dm (r::rs)) from(jM _ _).symm)▸ET.dI ET.name (PT.some ET.int) PT.none
  ·have:=v6 x rs;simp;exact ao this (ao hl dc)
 cases hb:rs.any fun r=>SS x r.2 with
 |true=>
  have e:dp x r rs="":=by unfold dp;rw[if_pos hb]
  refine J e (CT.fn (g:= .ret (.str "")) (am:=[("text", .str x),("references", .lst (dm (r::rs)))]) B (uG B) (Binds.b2 B (Dm)) (show [("text":Rj),"references"].Nodup by decide) rfl ?_);refine af.ret (XT.ite (Nu true hb) (fun _=>af.ret (XT.ret ET.str)) (fun h=>by cases h))
 |false=>
  have e:dp x r rs=fy x (rs++[r]):=by unfold dp;exact J hb rfl
  refine J e (CT.fn (g:= .ret (.str (fy x (rs++[r])))) (am:=[("text", .str (fy x (rs++[r])))]) B (uG B) (Binds.b2 B (Dm)) (show [("text":Rj),"references"].Nodup by decide) rfl ?_);refine af.cons (XT.ite (Nu false hb) (fun h=>by cases h) (fun _=>af.nil)) (af.cons (XT.for (xs:=dm (rs++[r])) (P:=(fun _=>True,fun _=>True)) (H1:=H) ?_ ?_) (af.ret (XT.ret ET.name)))
  ·refine IT.val ?_ VT.lst;rw[show dm (rs++[r])=cut (some 1) Q6 (dm (r::rs))++cut Q6 (some 1) (dm (r::rs)) from by
    refine J (show dm (r::rs)= .tup [.lit r.1, .lit r.2]::dm rs from rfl) (J (jM ..) (J (uL ..) ?_));simp[dm]]
   refine ET.binop (ET.dI ET.name (PT.some ET.int) PT.none) (ET.dI ET.name PT.none (PT.some ET.int)) (OT.kM ?_);refine J (show dm (r::rs)= .tup [.lit r.1, .lit r.2]::dm rs from rfl) (J (jM ..) (J (uL ..) (J ((show(dm rs).length=rs.length by simp[dm]) ..) ?_)));simp;exact iF (ao (a9 hl (QM _)) dc)
  ·exact s9 (rs++[r]) x 10000 [("references", .lst (dm (r::rs)))] (by simp[hr,LI]) hx (by
    have:2^(rs++[r]).length≤2^6:=Nat.pow_le_pow_right dc (by simp;exact hl);lia)
noncomputable def Dv:List (Rj×Rj):=[("&lt;","<"),("&quot;","\""),("&#x9;","\t"),("&#xA;","\n"),("&#xD;","\r")]
noncomputable def Dw:List (Rj×Rj):=[("&lt;","<"),("&gt;",">"),("&#xD;","\r")]
noncomputable def cA(x:Rj):Rj:=dp x ("&amp;","&") Dv
noncomputable def eC(x:Rj):Rj:=dp x ("&amp;","&") Dw
theorem ta(B:Base){x}(hx:x.length≤10000):CT (n+8+1+1) (.st (.ref 220)) [.str x] [] H (.str (cA x)) H:=by
 refine CT.fn (g:= .ret (.str (cA x))) (am:=[("text", .str x)]) B (Dn B) (Binds.b1 B (HL)) (show [("text":Rj)].Nodup by decide) rfl (af.ret (XT.ret (ET.call (ET.globK B (iz)) (ab.cons ET.name (ab.cons (ET.list ?_ dc) ab.nil)) (aL.def (uG B)) (md B (by decide+kernel) dc hx))));exact ab.cons (ET.tuple (ab.cons ET.lit (ab.cons ET.lit ab.nil))) (ab.cons (ET.tuple (ab.cons ET.lit (ab.cons ET.lit ab.nil))) (ab.cons (ET.tuple (ab.cons ET.lit (ab.cons ET.lit ab.nil))) (ab.cons (ET.tuple (ab.cons ET.lit (ab.cons ET.lit ab.nil)))
  (ab.cons (ET.tuple (ab.cons ET.lit (ab.cons ET.lit ab.nil))) (ab.cons (ET.tuple (ab.cons ET.lit (ab.cons ET.lit ab.nil))) ab.nil)))))
theorem v8(B:Base){x}(hx:x.length≤10000):CT (n+8+1+1) (.st (.ref 227)) [.str x] [] H (.str (eC x)) H:=by
 refine CT.fn (g:= .ret (.str (eC x))) (am:=[("text", .str x)]) B (Dp B) (Binds.b1 B (HM)) (show [("text":Rj)].Nodup by decide) rfl (af.ret (XT.ret (ET.call (ET.globK B (iz)) (ab.cons ET.name (ab.cons (ET.list ?_ dc) ab.nil)) (aL.def (uG B)) (md B (by decide+kernel) dc hx))));exact ab.cons (ET.tuple (ab.cons ET.lit (ab.cons ET.lit ab.nil))) (ab.cons (ET.tuple (ab.cons ET.lit (ab.cons ET.lit ab.nil))) (ab.cons (ET.tuple (ab.cons ET.lit (ab.cons ET.lit ab.nil))) (ab.cons (ET.tuple (ab.cons ET.lit (ab.cons ET.lit ab.nil))) ab.nil)))
end
section
variable{n:Nat}{H:AH}{F:Fx}{ρ:Loc}
noncomputable def bJ(rs rd:Bool)(ig:Int):List (Rj×V):=
 [("_write", .bm "list.append" (.ref 1)),("_data", .ref 4),("_with_comments", .bool false),("_strip_text", .bool false),("_exclude_attrs", .none),("_exclude_tags", .ref 5),("_rewrite_prefixes", .bool true),
  ("_qname_aware_tags", .none),("_find_qname_aware_attrs", .none),("_declared_ns_stack", .ref 7),("_ns_stack", .ref 8),("_prefix_map", .ref 9),("_preserve_space", .ref 10),("_pending_start", .none),
  ("_root_seen", .bool rs),("_root_done", .bool rd),("_ignored_depth", .int ig)]
structure Tg where
 told:List Rj
 data:List Rj
 ex:Rj
 us:List Rj
 lv:List (Option (List Rj))
 rs:Bool
 rd:Bool
 ig:Int
 k:Nat
noncomputable def jN(i:Nat):Rj:=Vf (toString (i:Int))
noncomputable def bz(us:List Rj)(u:Rj):Rj:="n"++jN (us.idxOf u)
noncomputable def iS(p:Rj×Rj):V:= .tup [.str p.1, .str p.2]
noncomputable def bj(us:List Rj)(u:Rj):Rj×Rj:=(u,bz us u)
noncomputable def kD:Rj:="http://www.w3.org/XML/1998/namespace"
noncomputable def jg:Rj×Rj:=(kD,"xml")
noncomputable def iT(us:List Rj):List (Rj×V):=us.map fun u=>(u, .str (bz us u))
noncomputable def fo(us:List Rj)(lv:List (Option (List Rj))):AH:=lv.map (Zk fun l=>AO.list (l.map fun u=>iS (bj us u)))
noncomputable def live(lv:List (Option (List Rj))):List (List Rj):=lv.filterMap id
noncomputable def fm(us:List Rj):Nat→List (Option (List Rj))→List (Nat×List V)
 |_,[]=>[]
 |b,none::lv=>fm us (b+1) lv
 |b,some l::lv=>(b,l.map fun u=>iS (bj us u))::fm us (b+1) lv
noncomputable def ir(us:List Rj)(b:Nat)(lv:List (Option (List Rj))):List (Nat×List V):=(6,[iS jg])::fm us b lv
noncomputable def tc:Pos:=⟨135,71,135,96⟩
noncomputable def qt:Rj:="C14NWriterTarget._start.<locals>.<lambda>"
@[reducible] noncomputable def Tg.h (t:Tg) (rest aF:AH):AH:=
 some (.tab 123 tc qt)::some (.list (t.told.map V.str))::some (.inst 150 3)::some (.ns (bJ t.rs t.rd t.ig))::some (.list (t.data.map V.str))::some (.sset [t.ex])::some (.list [iS jg])::
 some (.list ((ir t.us (11+rest.length) t.lv).map fun p=> .ref p.1))::some (.list (Q3 t.k (.lst [])))::some (.dict (iT t.us))::some (.list (Q3 t.k (.bool false)))::
 (rest++(fo t.us t.lv++aF))
theorem dr(B:Base):pT (KK) 150:=⟨B.In,kr,kr,kr,kr,kr⟩
theorem b7:Tf (KK) (.ref 150) "_ignored_depth"=some Q6:=rfl
theorem jh:Tf (KK) (.ref 150) "_data"=some Q6:=rfl
theorem kO:Tf (KK) (.ref 150) "_declared_ns_stack"=some Q6:=rfl
theorem td:Tf (KK) (.ref 150) "_ns_stack"=some Q6:=rfl
theorem qv:Tf (KK) (.ref 150) "_prefix_map"=some Q6:=rfl
theorem uM:Tf (KK) (.ref 150) "_preserve_space"=some Q6:=rfl
theorem te:Tf (KK) (.ref 150) "_rewrite_prefixes"=some Q6:=rfl
theorem me:Tf (KK) (.ref 150) "_write"=some Q6:=rfl
theorem yL:Tf (KK) (.ref 150) "_strip_text"=some Q6:=rfl
theorem tf:Tf (KK) (.ref 150) "_exclude_attrs"=some Q6:=rfl
theorem fA:Tf (KK) (.ref 150) "_exclude_tags"=some Q6:=rfl
theorem yM:Tf (KK) (.ref 150) "_qname_aware_tags"=some Q6:=rfl
theorem v9:Tf (KK) (.ref 150) "_find_qname_aware_attrs"=some Q6:=rfl
theorem tg:Tf (KK) (.ref 150) "_pending_start"=some Q6:=rfl
theorem uN:Tf (KK) (.ref 150) "_root_seen"=some Q6:=rfl
theorem Bs:Tf (KK) (.ref 150) "_iter_namespaces"=some (some (.ref 75)):=rfl
theorem qw:Tf (KK) (.ref 150) "_qname"=some (some (.ref 90)):=rfl
theorem yN:Tf (KK) (.ref 150) "_flush"=some (some (.ref 106)):=rfl
theorem wa:Tf (KK) (.ref 150) "_start"=some (some (.ref 126)):=rfl
theorem yO:Tf (KK) (.ref 150) "start"=some (some (.ref 120)):=rfl
theorem yP:Tf (KK) (.ref 150) "end"=some (some (.ref 133)):=rfl
theorem Bt:Tf (KK) (.ref 150) "data"=some (some (.ref 97)):=rfl
theorem noGet_none K:noGet K Q6=true:=rfl
theorem GA.t(B:Base){t:Tg}{rest aF}{name}{y}(hl:(bJ t.rs t.rd t.ig).lookup name=some y)(ha:Tf (KK) (.ref 150) name=some Q6)(hy:autoParam (V.hand y=true) aR):
  GA n (.ref 2) name (t.h rest aF) y (t.h rest aF):=GA.own (dr B) rfl rfl hl ha (noGet_none _) hy
theorem GA.tX(B:Base){H}{rs rd}{ig}{name}{y}(h1:H[2]?=some (some (.inst 150 3)))(h2:H[3]?=some (some (.ns (bJ rs rd ig))))(hl:(bJ rs rd ig).lookup name=some y)(ha:Tf (KK) (.ref 150) name=some Q6)
  (hy:autoParam (V.hand y=true) aR):GA n (.ref 2) name H y H:=GA.own (dr B) h1 h2 hl ha (noGet_none _) hy
theorem GM.t(B:Base){t:Tg}{rest aF}{name}{f}(hl:(bJ t.rs t.rd t.ig).lookup name=none)(ha:Tf (KK) (.ref 150) name=some (some (.ref f)))(ht:typeIn (KK) (.ref f)=some (.type "function")):
  GM n (.ref 2) name (t.h rest aF) (.st (.ref f)) [.ref 2] (t.h rest aF):=GM.fn (dr B) rfl rfl hl ha ht
theorem GM.tX(B:Base){H}{rs rd}{ig}{name}{f}(h1:H[2]?=some (some (.inst 150 3)))(h2:H[3]?=some (some (.ns (bJ rs rd ig))))(hl:(bJ rs rd ig).lookup name=none)(ha:Tf (KK) (.ref 150) name=some (some (.ref f)))(ht:typeIn (KK) (.ref f)=some (.type "function")):
  GM n (.ref 2) name H (.st (.ref f)) [.ref 2] H:=GM.fn (dr B) h1 h2 hl ha ht
theorem wb(B:Base){t:Tg}{rest aF}{x}(hz:t.data.length<QW):
  CT (n+1) (.st (.ref 97)) [.ref 2, .str x] [] (t.h rest aF) .none ((if t.ig=0 then {t with data:=t.data++[x]} else t).h rest aF):=by
 refine CT.fn (g:= .next) (am:=[("self", .ref 2),("data", .str x)]) B (HA B) (Binds.b2 B (LN)) (show [("self":Rj),"data"].Nodup by decide) rfl ?_;by_cases h0:t.ig=0
 ·rw[if_pos h0];refine af.cons (XT.ite (TT.not (TT.value (ET.attr ET.name (GA.t B (by refine J h0 ?_;rfl) (b7))) OB.int)) (fun _=>af.cons (XT.expr (ET.aQ (ET.attr ET.name (GA.t B rfl (jh)))
   (GM.of (Ty.ah rfl) (aH.ah rfl) Rf X5 RB) (ab.cons ET.name ab.nil) aL.builtin (CT.append rfl (J (QP ..) hz)))) ?_) (fun h=>by cases h)) af.nil
  exact J (show(t.h rest aF).set 4 (some (.list (t.data.map V.str++[.str x])))=({t with data:=t.data++[x]}:Tg).h rest aF by simp[Tg.h]) ((af.nil))
 ·rw[if_neg h0];have hb:OB n (.int t.ig) (t.h rest aF) true:=by
   have:=OB.int (n:=n) (i:=t.ig) (H:=t.h rest aF);rwa [show(t.ig !=0)=true from by simpa using h0] at this
  exact af.cons (XT.ite (TT.not (TT.value (ET.attr ET.name (GA.t B rfl (b7))) hb)) (fun h=>by cases h) (fun _=>af.nil)) af.nil
end
section
variable{n:Nat}{H:AH}{F:Fx}{ρ:Loc}
structure LP a fd:Prop where
 at_:∃o,bo a=some o∧o.data= .func fd
 code:∀h:Vi,(∀a o,bo a=some o→h.get? a=some o)→h.CodeRec fd.code fd.qualname
 FW:fd.closure=[]
 co:fd.scope.isCoroutine=false
 gen:fd.scope.isGenerator=true
 kind:fd.scope.kind= .function
 glob:fd.globals=mainGlobals
 FX:fd.builtins=builtinsNs
theorem Base.Pj(B:Base){a}{fd}{o}(ho:(KK).lookup a=some o)(hd:o.data= .func fd)(hc:codeIn (KK) fd.code fd.qualname=true)
  (FW:fd.closure=[]) (co:fd.scope.isCoroutine=false) (gen:fd.scope.isGenerator=true) (kind:fd.scope.kind= .function) (glob:fd.globals=mainGlobals) (FX:fd.builtins=builtinsNs):LP a fd:=
 ⟨⟨o,B.uu a o ho,hd⟩,fun h k=>codeRec_of (B.In h k) hc,FW,co,gen,kind,glob,FX⟩
theorem HX(B:Base):LP 75 (fdOf 75):=B.Pj rfl rfl rfl rfl rfl rfl rfl rfl rfl
theorem LQ:(fdOf 75).body= .stmts (bodyOf 75):=rfl
theorem LR S(v u:Value):V2 (KK) S (Sn (fdOf 75) ⟨[v,u],[]⟩)=some [(("self":Rj),v),("ns_stack",u),("_reversed", .type "reversed")]:=rfl
theorem aL.gen(K:LP a fd):aL (.st (.ref a)):= .mk fun s W H v S r=>by
 cases r;obtain⟨o,ho,hd⟩:=K.at_;refine⟨.frame, .inl rfl,(WD (S.ground _ _ ho)).andThen ?_⟩;exact hd▸ .now
theorem aB.Pk(R:aB A (n+4)):aB (A.in1.over (.func b env) []) n:=by
 refine⟨R.1, ?_, ?_⟩
 ·have:=R.2;show A.depth+0+1+n<_;lia
 ·have:=R.3;show A.units+1+0+3+12*n<_;lia
theorem wd{X Y}{g}{env}{x}{p0 p1 p2 p3 p4 p5 q1 q2 q3 q4}(R:aB A (n+4))(Es:∀a,X a→¬Y a)(E:az F env)
  (hF:F.names.lookup ("namespaces":Rj)=some .local)
  (he:∀env,eval (.Call (.Name "_reversed" q1) [.Name "ns_stack" q2] [] q3) env=(do Uo q3 (←eval (.Name "_reversed" q1) env) [] (backTo q3 (starEach [.Name "ns_stack" q2] env)) (backToKw q3 (keywordEach [] env))))
  (hp:∀env,(backTo q3 (starEach [SD.Name "ns_stack" q2] env)).any (·.1)=false)
  {W1} {H1} {s1} (S:an W1 H1 s1) (hP:(vL k L).1 H1) (fr:cQ W1 [("self",x),("ns_stack", .ref k),("_reversed", .st (.type "reversed"))] env s1.heap)
  (yn:∀x,s1.heap.get? x=none→Y x) (yl:Y env.locals) (nc:∀n c,env.cells.lookup n≠some c):
  Go (model prog w) A.in1 (Ends A (vL k L) X Y g ((L.reverse.map (·.2)).flatten) W1 H1 s1) (.func [.For (sF p0) (.Call (.Name "_reversed" q1) [.Name "ns_stack" q2] [] q3) (sG p1 p2 p3 p4 p5) [] q4] env)
   ((model prog w).den (.func [.For (sF p0) (.Call (.Name "_reversed" q1) [.Name "ns_stack" q2] [] q3) (sG p1 p2 p3 p4 p5) [] q4] env)) [] s1:=by
 refine A2 (fh (Eo (fun _=>rfl) ?_));have R0:=aB.Pk (b:=[.For (sF p0) (.Call (.Name "_reversed" q1) [.Name "ns_stack" q2] [] q3) (sG p1 p2 p3 p4 p5) [] q4]) (env:=env) R;refine J (he env) (QL ((ET.name rfl).run _ s1 W1 env R0 S E fr _ fun fv s2 W2 G2 S2 r2=> ?_));cases r2;refine Uq (P:=Kp (.type "reversed")) rfl (fun _ h=>h) (cu (ab.cons ET.name ab.nil) R0 S2 E (fr.step G2) (hp env) fun vs s3 W3 G3 S3 r3=>⟨aL.type.run s3 W3 _ _ S3 rfl, ?_⟩);refine QK fun kG=> ?_;obtain⟨v,rfl,⟨ka,rfl,Nv⟩⟩:=r3.one;obtain⟨OD,nE,_,us,m,hL,hv,_⟩:=S3.live k _ hP.1;refine kG ?_;replace nE:=Nv▸nE;cases nE;refine call_reversed_list ⟨_,hL,rfl,m,rfl⟩ ?_;have G4:Gr cr W3 s3 W3 _:=Gr.cm W3 s3 (revObj ka (us.toArray.size-1));have hit:(s3.heap.push (revObj ka (us.toArray.size-1))).IsRevIter s3.heap.objs.size ka (us.toArray.size-1):=⟨_,Q0 _ rfl,rfl,rfl⟩;refine wpAny_pyIter_revIter hit fun p=> ?_;have Nw:=(G2.trans G3).trans G4;have HY:=fr.step (G2.trans G3);have:=Et (g:=g) (cf:= .func [.For (sF p0) (.Call (.Name "_reversed" q1) [.Name "ns_stack" q2] [] q3) (sG p1 p2 p3 p4 p5) [] q4] env)
  (K1:=fun f=>match f with| .next=>(execs [] env).wrap (fun f=> .pure (.done (.ret (match f with| .ret v=>v|_=> .none)))) (fun e=>(leaving env e).wrap (fun _=> .raise e) .raise id id) id id|f=> .pure (.done (.ret (match f with| .ret v=>v|_=> .none))))
  (Hx:=fun e=>(leaving env e).wrap (fun _=> .raise e) .raise id id) (p0:=p0) (p1:=p1) (p2:=p2) (p3:=p3) (p4:=p4) (p5:=p5) (pf:=p) R Es E hF (QM _) (QM _)
  (fun Φ s h=>Ek (.ok (.ret .none)) h) L.length (QM _) W1 H1 s1 W3 {s3 with heap:=s3.heap.push (revObj ka (us.toArray.size-1))} ⟨Nw.of,(S3.cm (revObj ka (us.toArray.size-1))),hP,fun x e=>(Nw.back e).elim (yn x) fun h=>h.elim⟩
  ⟨(HY.step G4).sub ad,yl, ?_,⟨ka,Nv,by exact(show(us.toArray.size:Int)-1=L.length-1 by exact J (Re ..) (J (hv.length ..) (J (QP ..) rfl)))▸hit⟩,(S3.fresh (ae s3.heap)),fun e=> ?_,nc⟩
 ·have:=Z5▸this;exact this
 ·exact((G2.trans G3).back (ae s3.heap)).elim (yn _) fun h=>h.elim
 ·obtain⟨mm,hn,_⟩:=HY.m;exact cg hn (e▸ae _)
theorem tj{gens:Array GenState}{x}{i:Nat}{y}(h:gens[i]?=some y):(gens.push x)[i]?=some y:=by
 exact J Array.getElem?_push (J (if_neg (Sw (TC.mp h).1)) ((h)))
theorem we(B:Base){k}{L}{x}(hP:(vL k L).1 H):CG (n+4) (.st (.ref 75)) [x, .ref k] H ((L.reverse.map (·.2)).flatten) (vL k L) H:=by
 refine .mk fun A s W fv vs R S rf rx Q q=> ?_;cases rf;have K:=HX B;obtain⟨o,ho,hd⟩:=K.at_;obtain⟨v,u,rfl,rv,ru⟩:=rx.two;have yc:∀y∈[("self":Rj),"ns_stack","_reversed"],(fdOf 75).scope.names.lookup y=some .local:=by
  intro y hy;simpa using(R8.mp (show([("self":Rj),"ns_stack","_reversed"].all fun y=>(fdOf 75).scope.names.lookup y==some .local)=true from rfl) y hy)
 refine UP (codeAny_call_generator R.lt (S.ground _ _ ho) hd K.co K.gen (LQ) (K.code _ S.ground) ((Uj (B.In _ S.ground) (LR _ v u)).here ?_));refine J K.FW (wpAny_toks (UG K.kind (fun y hy=> ?_) fun env he s' X ht=> ?_))
 ·refine .inl (yc y.1 ?_);simp at hy⊢;rcases hy with rfl|rfl|rfl<;>simp
 ·have vz:env=callEnvC (fdOf 75) s.heap.objs.size 75:=he;subst vz;obtain⟨f,S',G'⟩:=g9 (bs:=[("self",x),("ns_stack", .ref k),("_reversed", .st (.type "reversed"))]) S (show [("self":Rj),"ns_stack","_reversed"].Nodup by decide) (⟨v,_,rfl,rv,u,_,rfl,ru,_,_,rfl,rfl,rfl⟩) (fun y hy=> .inl (yc y hy)) X ht;refine⟨B.rU.nolimit _ S'.ground, ?_⟩;have Pl:s.gens[s'.gens.size]?=none:=by
   cases e:s.gens[s'.gens.size]? with
   |none=>rfl
   |some y=>have:=G'.gens _ _ e;cases(T9 (QM _))▸this
  generalize vN:({s' with gens:=s'.gens.push (.fresh (.func (bodyOf 75) (callEnvC (fdOf 75) s.heap.objs.size 75))),toks:=s'.toks+1+1,heap:=s'.heap.push {cls:= .type "generator",data:= .fields #[.int s'.gens.size 0, .str (fdOf 75).name s'.toks, .str (fdOf 75).qualname (s'.toks+1)]}}:Ro)=s3;have JQ:s3.heap=s'.heap.push {cls:= .type "generator",data:= .fields #[.int s'.gens.size 0, .str (fdOf 75).name s'.toks, .str (fdOf 75).qualname (s'.toks+1)]}:=by rw[←vN]
  have LS:s3.gens=s'.gens.push (.fresh (.func (bodyOf 75) (callEnvC (fdOf 75) s.heap.objs.size 75))):=by rw[←vN]
  have keep:∀b o,s'.heap.get? b=some o→s3.heap.get? b=some o:=fun b o e=>by exact JQ▸QT _ e
  have G3:Gr cr W s' W s3:=⟨W.le_refl,fun _ h=> .inl h,fun _ _ h=> .inl h,fun b o e _ _=>keep b o e,fun b h _=>br keep b h,(by exact aO vN rfl),fun i y e=>by exact LS▸tj e⟩;have yq:s3.heap.IsGen s'.heap.objs.size s'.gens.size:=⟨_,_,_,by exact JQ▸Q0 _ rfl,rfl,rfl,rfl⟩;refine wpAny_pyIter_gen yq (q _ s3 W (G'.trans G3) (S'.same (fun b o e _=>keep b o e) (LS▸S'.bare.push rfl) (by exact aO vN ((gh (gh (QM _)))))) fun X' LT=> ?_);refine x4 (Y:=fun a=>s.heap.get? a=none∧a≠s'.heap.objs.size) R B.rU.nolimit (fun h=>LT _ h ((G'.back (ae s'.heap)).resolve_right id)) (fun h=>h.2 rfl) (fun _ h=>h.1) Pl (fun _=>trivial) _ W s3 (.fresh (.func (bodyOf 75) (callEnvC (fdOf 75) s.heap.objs.size 75))) yq (S'.fresh (ae s'.heap)) ?_ ?_
  ·refine J LS ?_;simp
  ·intro s1 W1 H1 G S1 p1 x1;have nc:∀y c,(callEnvC (fdOf 75) s.heap.objs.size 75).cells.lookup y≠some c:=by
    intro y c e;cases e
   have f1:=(f.step G3).dh G ((show(callEnvC (fdOf 75) s.heap.objs.size 75).locals=s.heap.objs.size from rfl)▸(fun h=>LT _ h (ae _))) fun y c e=>absurd e (nc y c);refine wd (F:=⟨(fdOf 75).scope.names,(fdOf 75).code,true,Q6⟩) R (fun a h y=>LT a h y.1) ⟨rfl,K.kind,K.glob,K.FX,rfl,K.co,(fun _ y c _ hc=>absurd hc (nc y c)),(fun _ h=>by cases h)⟩ rfl (by intro _;rfl) (by intro _;rfl) (S1.setGen s'.gens.size rfl) p1 f1 (fun b e=> ?_) ⟨ae _, ?_⟩ nc
   ·rcases G.back e with h|h
    ·exact⟨(G'.back ((G3.back h).resolve_right id)).resolve_right id,fun q=>by subst q;obtain⟨_,_,_,ho,_⟩:=yq;cases ho.symm.trans h⟩
    ·exact absurd e (x1 b h)
   ·intro e;obtain⟨mm,hn,_⟩:=f.m;have:s'.heap.get? s.heap.objs.size≠none:=cg hn;rw[show s.heap.objs.size=s'.heap.objs.size from e,ae] at this;exact this rfl
end
section
variable{n:Nat}{H:AH}{F:Fx}{ρ:Loc}
theorem i5.sub{g}(h:i5 n F P target body orelse xs ρ' H g am H1)(k:∀n x,ρ'.lookup n=some x→ρ.lookup n=some x):
  i5 n F P target body orelse xs ρ H g am H1:= .mk fun A s W env it Z Y R S E fr hl hc fd Q q=>h.run A s W env it Z Y R S E (fr.sub k) hl hc fd Q q
theorem i5.post{ρ' am}{H1}{g}(h:i5 n F P target body orelse xs ρ H g am H1)(k:∀n x,ρ'.lookup n=some x→am.lookup n=some x):
  i5 n F P target body orelse xs ρ H g ρ' H1:= .mk fun A s W env it Z Y R S E fr hl hc fd Q q=>h.run A s W env it Z Y R S E fr hl hc fd Q fun g s' W' G' S' f' r'=>q g s' W' G' S' (f'.sub k) r'
noncomputable abbrev wf:U3:=au (bodyOf 90) 2
noncomputable def rV(p:Nat)(uri tag:Rj):Loc:=[("prefixes_seen", .ref p),("tag", .str tag),("uri", .str uri),("self", .ref 2)]
noncomputable def mf(p tag uri:Rj):V:= .tup [.str (p++":"++tag), .str tag, .str uri]
theorem fB(p tag:Rj):(p++":"++tag).length=p.length+1+tag.length:=by
 refine J (Q7 ..) (J (Q7 ..) ?_);rfl
theorem yQ{k}{p tag}(h1:ET n F e1 ρ H (.str p) H)(h2:ET n F e2 ρ H (.str tag) H)(hz:p.length≤1000)(AB:tag.length≤1000):
  ET n F (.JoinedStr [.FormattedValue e1 (-1) Q6 p1, .Constant (.str ":") k p2, .FormattedValue e2 (-1) Q6 p3] p4) ρ H (.str (p++":"++tag)) H:=by
 have hl:=fB p tag;have e0:VR++p=p:=by cases p;show(⟨#[]++_⟩:Rj)=_;rw[Array.empty_append]
 refine ET.AV (FP.cons (ET.pW h1) (FP.cons ET.str (FP.cons (ET.pW h2) (by refine J e0 ?_;exact FP.nil) (by refine J e0 ?_;exact ao (bC hl) (iF (ao (a9 (a9 hz (QM _)) AB) dc)))) ?_) (J e0 (gy hz))) (ao (bC hl) (iF (ao (a9 (a9 hz (QM _)) AB) dc)));exact J (e0 ..) (J (Q7 ..) ((iF (ao (a9 hz (QM _)) dc))))
theorem dX{α:Type}{l}{x:α}:(l++[x])[l.length]?=some x:=by simp
theorem qx{α:Type}{l}{x y:α}:(l++[x]).set l.length y=l++[y]:=by simp
theorem Bu(hP:∀seen,P.1 (H++[some (.sset seen)]))(JR:∀t,P.2 t):∀(items:List (Rj×Rj)) seen,(∀p∈items,p.1≠uri)→seen.length+items.length+1<Xv→
  i5 n (ax 90) P (jH (wf)) (fZ (wf)) [] (items.map iS) (rV H.length uri tag) (H++[some (.sset seen)]) .next (rV H.length uri tag) (H++[some (.sset (seen++items.map (·.2)))]):=by
 intro rv
 induction rv with
 |nil=>
  intro seen _ _;exact J (RY ..) (J (RY ..) (J (Ra ..) ((i5.nil (hP _) af.nil))))
 |cons pq items ih=>
  obtain⟨u,p⟩:=pq;intro seen aU hz;refine J (show seen++((u,p)::items).map (·.2)=(seen++[p])++items.map (·.2) by simp) (i5.cons (hP _) (JR _) (AT.tuple (aW.cons (AT.name (ST.local rfl)) (aW.cons (AT.name (ST.local rfl)) aW.nil))) ?_ (i5.sub (ih (seen++[p]) (fun q hq=>aU q (QQ _ hq)) (by simp at hz⊢;exact elt (adr (ik (QM _))) hz)) (show∀m z,(rV H.length uri tag).lookup m=some z→(("prefix",V.str p)::("u",V.str u)::rV H.length uri tag:Loc).lookup m=some z from aa rfl (aa rfl (aa rfl (aa rfl ad))))));have ho:=OT.eq_str (n:=n) (x:=u) (y:=uri) (H:=H++[some (.sset seen)]);rw[show(u==uri)=false from by simpa using(aU (u,p) QR)] at ho;refine af.cons (XT.ite (TT.bn (aJ.and_false (TT.cmp ET.name ET.name ho))) (fun h=>by cases h) (fun _=>af.nil)) ?_;refine af.cons (XT.expr (ET.aQ ET.name (GM.of (Ty.lF dX) (aH.lF dX) Yg YJ YI)
   (ab.cons ET.name ab.nil) aL.builtin (CT.setAdd dX (by lia)))) ?_
  exact J qx ((af.nil))
theorem EX{uri tag pf}(hP:∀seen,P.1 (H++[some (.sset seen)]))(JR:∀t,P.2 t)(LU:pf.length≤1000)(LV:pf.length≠0)(EY:tag.length≤1000):∀pre post seen,(∀p∈pre,p.1≠uri)→pf∉seen++pre.map (·.2)→seen.length+pre.length+1<Xv→
  i5 n (ax 90) P (jH (wf)) (fZ (wf)) [] ((pre++(uri,pf)::post).map iS) (rV H.length uri tag) (H++[some (.sset seen)]) (.ret (mf pf tag uri)) (rV H.length uri tag) (H++[some (.sset (seen++pre.map (·.2)))]):=by
 intro rv
 induction rv with
 |nil=>
  intro post seen _ hn hz;rw[RY,Ra] at hn⊢;refine i5.post (i5.xU (hP _) (JR _) (AT.tuple (aW.cons (AT.name (ST.local rfl)) (aW.cons (AT.name (ST.local rfl)) aW.nil))) ?_) (show∀m z,(rV H.length uri tag).lookup m=some z→(("prefix",V.str pf)::("u",V.str uri)::rV H.length uri tag:Loc).lookup m=some z from aa rfl (aa rfl (aa rfl (aa rfl ad))));have ho:=OT.eq_str (n:=n) (x:=uri) (y:=uri) (H:=H++[some (.sset seen)]);rw[show(uri==uri)=true from by simp] at ho;have sA:=OT.vM (n:=n) (x:=pf) (H:=H++[some (.sset seen)]) dX;rw[show decide (pf∈seen)=false from by simpa using hn] at sA;have hb:=OB.str (n:=n) (x:=pf) (H:=H++[some (.sset seen)]);rw[show(pf.length !=0)=true from by simpa using LV] at hb;refine af.ret (XT.ite (TT.bn (aJ.and_true (TT.cmp ET.name ET.name ho) (aJ.and_true (TT.cmp ET.name ET.name sA) aJ.and_nil))) (fun _=>af.ret (XT.ret ?_)) (fun h=>by cases h));refine ET.tuple (ab.cons (ET.db (TT.value ET.name hb) (fun _=>yQ ET.name ET.name LU EY) (fun h=>by cases h)) (ab.cons ET.name (ab.cons ET.name ab.nil))) (show 3≤QW by decide)
 |cons pq pre ih=>
  obtain⟨u,p⟩:=pq;intro post seen aU hn hz;refine J (show seen++((u,p)::pre).map (·.2)=(seen++[p])++pre.map (·.2) by simp) (i5.cons (hP _) (JR _) (AT.tuple (aW.cons (AT.name (ST.local rfl)) (aW.cons (AT.name (ST.local rfl)) aW.nil))) ?_ (i5.sub (ih post (seen++[p]) (fun q hq=>aU q (QQ _ hq)) (by simpa using hn) (by simp at hz⊢;exact elt (adr (ik (QM _))) hz)) (show∀m z,(rV H.length uri tag).lookup m=some z→(("prefix",V.str p)::("u",V.str u)::rV H.length uri tag:Loc).lookup m=some z from aa rfl (aa rfl (aa rfl (aa rfl ad))))));have ho:=OT.eq_str (n:=n) (x:=u) (y:=uri) (H:=H++[some (.sset seen)]);rw[show(u==uri)=false from by simpa using(aU (u,p) QR)] at ho;refine af.cons (XT.ite (TT.bn (aJ.and_false (TT.cmp ET.name ET.name ho))) (fun h=>by cases h) (fun _=>af.nil)) ?_;refine af.cons (XT.expr (ET.aQ ET.name (GM.of (Ty.lF dX) (aH.lF dX) Yg YJ YI)
   (ab.cons ET.name ab.nil) aL.builtin (CT.setAdd dX (by lia)))) ?_
  exact J qx ((af.nil))
end
theorem Bv us post(lv:List (Option (List Rj))):∀pre,∀p∈fm us pre.length lv,(pre++(fo us lv++post))[p.1]?=some (some (.list p.2)):=by
 induction lv with
 |nil=>intro _ _ h;cases h
 |cons o lv ih=>
  have ih:=fun pre x p h=>ih (pre++[x]) p (QS▸h);intro pre p h;cases o with
  |none=>
   have:=ih pre none p h;rw[Rm] at this;exact this
  |some l=>
   rcases QX.mp h with rfl|h
   ·exact(Rh (QM _)).trans (J (RU ..) rfl)
   ·have:=ih pre (some (AO.list (l.map fun u=>iS (bj us u)))) p h;rw[Rm] at this;exact this
theorem iK us:∀(lv:List (Option (List Rj))) b,((fm us b lv).reverse.map (·.2)).flatten=(((live lv).reverse.flatten).map (bj us)).map iS
 |[],_=>rfl
 |none::lv,b=>by
  exact(iK us lv (b+1))
 |some l::lv,b=>by
  refine J Sg (J Rc (J Sx (J (iK us lv (b+1)) ?_)));simp[live,Function.comp_def]
theorem wg us(lv:List (Option (List Rj))) b:((ir us b lv).reverse.map (·.2)).flatten=(((live lv).reverse.flatten).map (bj us)++[jg]).map iS:=by
 rw[ir,Sg,Rc,Sx,iK];simp
theorem gM us(l1 l2:List (Option (List Rj))):∀b,fm us b (l1++l2)=fm us b l1++fm us (b+l1.length) l2:=by
 induction l1 with
 |nil=>exact fun _=>rfl
 |cons o l1 ih=>
  intro b;have e:b+1+l1.length=b+(o::l1).length:=Rn▸Ke;cases o with
  |none=>exact e▸ih (b+1)
  |some l=>exact e▸congrArg (List.cons _) (ih (b+1))
theorem jO us:∀(ds:List (Option (List Rj))) b,(∀d∈ds,d=none)→fm us b ds=[]
 |[],_,_=>rfl
 |none::ds,b,h=>jO us ds (b+1) fun d hd=>h d (QQ _ hd)
 |some l::ds,b,h=>by cases(h (some l) QR)
theorem oN(us kE:List Rj):∀(lv:List (Option (List Rj))) b,(fm us b lv).map (fun p=>V.ref p.1)=(fm kE b lv).map (fun p=>V.ref p.1)
 |[],_=>rfl
 |none::lv,b=>oN us kE lv (b+1)
 |some l::lv,b=>by show _::_=_::_;rw[oN us kE lv (b+1)]
theorem fC us:∀(lv:List (Option (List Rj))) b,(fm us b lv).length=(live lv).length
 |[],_=>rfl
 |none::lv,b=>fC us lv (b+1)
 |some l::lv,b=>by show _+1=_+1;exact(fC us lv (b+1))▸rfl
noncomputable def eg(f:List Rj→Option (List Rj)):List (Option (List Rj))→List (Option (List Rj))
 |[]=>[]
 |none::r=>none::eg f r
 |some l::r=>if r.any WJ then some l::eg f r else f l::r
theorem tn:eg f (some l::r)=if r.any WJ then some l::eg f r else f l::r:=rfl
theorem eQ f l(ds:List (Option (List Rj)))(hd:∀d∈ds,d=none):∀(ls:List (Option (List Rj))),eg f (ls++some l::ds)=ls++f l::ds
 |[]=>by
  show(if ds.any WJ then _ else _)=_;rw[if_neg];·rfl
  intro h;obtain⟨d,h1,h2⟩:=UB.mp h;cases(hd d h1)▸h2
 |none::ls=>by exact congrArg _ (eQ f l ds hd ls)
 |some x::ls=>by
  show(if(ls++some l::ds).any WJ then some x::eg f (ls++some l::ds) else _)=_;refine J (if_pos (by simp)) (J (eQ f l ds hd ls) ?_);rfl
theorem b6(a b:List (Option (List Rj))):live (a++b)=live a++live b:=List.filterMap_append ..
theorem hO:∀{ds},(∀d∈ds,d=none)→live ds=[]
 |[],_=>rfl
 |none::ds,h=>hO (ds:=ds) fun d hd=>h d (QQ _ hd)
 |some l::ds,h=>by cases(h (some l) QR)
theorem oO:live lv≠[]→∃ls l ds,lv=ls++some l::ds∧∀d∈ds,d=none:=by
 induction lv with
 |nil=>exact fun h=>absurd rfl h
 |cons o r ih=>
  intro h;by_cases hr:live r=[]
  ·cases o with
   |none=>exact absurd hr h
   |some l=>
    refine⟨[],l,r,rfl,fun d hd=> ?_⟩;cases d with
    |none=>rfl
    |some x=>
     have:x∈live r:=List.mem_filterMap.mpr ⟨_,hd,rfl⟩;cases hr▸this
  ·obtain⟨ls,l,ds,e,hd⟩:=ih hr;exact⟨o::ls,l,ds,congrArg (List.cons o) e,hd⟩
noncomputable def Tg.qn(t:Tg)(u:Rj):Tg:=if u∈(live t.lv).flatten then t else {t with us:=if u∈t.us then t.us else t.us++[u],lv:=eg (fun l=>some (l++[u])) t.lv}
structure Tg.ok(t:Tg):Prop where
 mem:∀u∈(live t.lv).flatten,u∈t.us
 len:t.us.length≤100
 nd:t.us.Nodup
 AD:kD∉t.us
theorem ji{u v:Rj}(h:u∈us):(us++[v]).idxOf u=us.idxOf u:=by rw[U4,if_pos h]
theorem oP(h:u∈us):bj (us++[v]) u=bj us u:=by unfold bj bz;rw[ji h]
theorem yR(h:v∉us):iT (us++[v])=iT us++[(v, .str ("n"++jN us.length))]:=by
 unfold iT;refine J Rc ?_;congr 1
 ·exact RD fun u hu=>by unfold bz;rw[ji hu]
 ·simp[bz,U4,h]
theorem tp:∀(us:List Rj) v,(us.map fun u=>(u,V.str (bz Lz u))).lookup v=if v∈us then some (.str (bz Lz v)) else none:=by
 intro rv
 induction rv with
 |nil=>
  intro v;exact rfl
 |cons u us ih=>
  intro v;refine J Q8 (J lookup_cons (J (ih v) ?_));by_cases h:v=u
  ·subst h;simp
  ·simp[h]
theorem iL:∀{lv},(∀u∈(live lv).flatten,u∈us)→fo (us++[v]) lv=fo us lv
 |[],_=>rfl
 |none::lv,h=>by show none::fo (us++[v]) lv=none::fo us lv;rw[iL (lv:=lv) h]
 |some l::lv,h=>by
  show some (AO.list _)::fo _ lv=some (AO.list _)::fo _ lv;refine J (iL (fun u hu=>h u (J U5 ((RK _ hu))))) ?_;congr 3;refine RD fun u hu=> ?_;rw[oP ((fun u hu=>h u (by show u∈(l::live lv).flatten;simp[hu])) u hu)]
theorem yS:∀i<120,∀j<120,jN i=jN j→i=j:=by decide+kernel
theorem qy:∀i<120,(jN i).length≤3:=by decide+kernel
theorem kP(hl:us.length≤100)(hu:u∈us)(hv:v∈us)(e:bz us u=bz us v):u=v:=by
 have h1:=X6 hu;have h2:=X6 hv;unfold bz at e;have e':jN (us.idxOf u)=jN (us.idxOf v):=by
  have:=congrArg (fun x:Rj=>x.cps.toList.tail) e;have k:∀x:Rj,("n"++x).cps.toList.tail=x.cps.toList:=fun x=>by
   exact congrArg _ Array.toList_append
  simp only[k] at this;generalize jN (us.idxOf u)=a at*;generalize jN (us.idxOf v)=b at*;cases a;cases b;simp at this;rw[this]
 refine aO (ZC h1) (aO (ZC h2) ?_);simp[(yS _ (ao h1 (ao hl dc)) _ (ao h2 (ao hl dc)) e')]
theorem du(hl:us.length≤100):(bz us u).length≤4∧(bz us u).length≠0:=by
 have:=qy (us.idxOf u) (elt Zd (elt hl dc));refine J (Q7 ..) ?_;have:("n":Rj).length=1:=rfl;lia
noncomputable def LW(s:U3):SD:=by
 cases s with
 |For _ i=>exact i
 |_=>exact default
section
variable{n:Nat}{H:AH}{F:Fx}{ρ:Loc}
structure QN(q uri tag:Rj):Prop where
 HZ:(SY q none (some 1)=="{")=true
 cut:TY (SY q (some 1) none) "}" 1=[uri,tag]
 ql:q.length≤1000
 ul:uri.length≤1000
 tl:tag.length≤1000
 nx:uri≠kD
theorem Binds.Pm(B:Base){fd}{a b c}{x y z}{d}(e:∀S(v u:Value),V2 (KK) S (Sn fd ⟨[v,u],[]⟩)=some [(a,v),(b,u),(c,d)])(hz:∀W,Rel W z d):Binds fd [x,y] [] [(a,x),(b,y),(c,z)]:=fun h W vs kv k r rn=>by
 cases rn;obtain⟨v,u,rfl,rv,ru⟩:=r.two;exact⟨_,Uj (B.In h k) (e _ v u),v,_,rfl,rv,u,_,rfl,ru,d,_,rfl,hz W,rfl⟩
theorem Tg.j9(t:Tg)(rest aF:AH) x:t.h rest aF++[x]=t.h rest (aF++[x]):=by simp
theorem Tg.LX(t:Tg)(rest aF:AH):∀p∈ir t.us (11+rest.length) t.lv,(t.h rest aF)[p.1]?=some (some (.list p.2)):=by
 intro p hp;rw[ir,QX] at hp;rcases hp with rfl|hp
 ·rfl
 ·exact(Bv t.us aF t.lv ((t.h rest aF).take 11++rest) p ((show((t.h rest aF).take 11++rest).length=11+rest.length by exact QS)▸hp))
theorem Tg.Pn(t:Tg)(rest aF:AH):(vL 7 (ir t.us (11+rest.length) t.lv)).1 (t.h rest aF):=⟨rfl,t.LX rest aF⟩
theorem tr(B:Base){q uri tag}(hq:QN q uri tag){H}:
  XT n (ax 90) (au (bodyOf 90) 0) [("self", .ref 2),("qname", .str q),("uri", .none)] H .next [("tag", .str tag),("uri", .str uri),("self", .ref 2)] H:=by
 refine XT.ite (c:=true) (TT.cmp ET.name ET.none (OT.is_none (fun _ _ r=>by cases r;rfl))) (fun _=> ?_) (fun h=>by cases h);have hb:=OT.eq_str (n:=n) (x:=SY q none (some 1)) (y:="{") (H:=H);rw[hq.HZ] at hb;refine af.sub (af.cons (XT.assign (ET.db (TT.cmp (ET.iJ ET.name PT.none (PT.some ET.int)) ET.str hb) (fun _=> ?_) (fun h=>by cases h)) (bv.one (AT.ly (aW.cons (AT.name (ST.local rfl)) (aW.cons (AT.name (ST.local rfl)) aW.nil))))) af.nil) (aa rfl (aa rfl (aa rfl ad)));have hc:=CT.sj (n:=n) (H:=H) rfl (by refine J hq.cut ?_;simp;decide) (by refine J hq.cut ?_;intro p hp;simp at hp;rcases hp with rfl|rfl;exact gy hq.ul;exact ao hq.tl dc);rw[hq.cut] at hc;exact ET.aQ (ET.iJ ET.name (PT.some ET.int) PT.none)
  (GM.of Ty.str aH.str RH PySem.F.slot_str_rsplit PySem.F.type_str_rsplit) (ab.cons ET.str (ab.cons ET.int ab.nil)) aL.builtin hc
theorem Tg.EZ{t:Tg}(ok:t.ok) u:u∈(t.qn u).us:=by
 delta Tg.qn
 refine bl (fun _=> ?_) fun _=> ?_
 ·rename_i h;exact ok.mem u h
 ·refine bl (fun _=> ?_) fun _=> ?_
  ·assumption
  ·simp
theorem Tg.nO{t:Tg}{ls ds}{l}(ke:t.lv=ls++some l::ds)(rest aF:AH):
  t.h rest aF=((t.h rest aF).take 11++(rest++fo t.us ls))++(some (AO.list (l.map fun u=>iS (bj t.us u)))::(fo t.us ds++aF))∧((t.h rest aF).take 11++(rest++fo t.us ls)).length=11+rest.length+ls.length:=by
 constructor
 ·refine J (show t.h rest aF=(t.h rest aF).take 11++(rest++(fo t.us t.lv++aF)) from rfl) (J ke ?_);simp[fo]
 ·refine J QS (J QS ?_);show 11+(rest.length+(fo t.us ls).length)=_;simp[fo];exact Jv
theorem Tg.kQ{t:Tg}{ls ds}{l}(ke:t.lv=ls++some l::ds)(rest aF:AH):(t.h rest aF)[11+rest.length+ls.length]?=some (some (.list (l.map fun u=>iS (bj t.us u)))):=by
 obtain⟨e,hl⟩:=t.nO ke rest aF;refine J (e ..) (J (Rh (bC hl)) (J (hl ..) (J (RU ..) ?_)));rfl
theorem jj{ls ds}{l}(hd:∀d∈ds,d=none) b:fm us b (ls++some l::ds)=fm us b ls++[(b+ls.length,l.map fun u=>iS (bj us u))]:=by
 rw[gM];show _++(_::fm us _ ds)=_;rw[jO us ds _ hd]
theorem jl{ls ds}{l}(hd:∀d∈ds,d=none):live (ls++some l::ds)=live ls++[l]:=by
 rw[b6];show _++(l::live ds)=_;rw[hO hd]
theorem Tg.yT{t:Tg}{ls ds}{l}(ke:t.lv=ls++some l::ds)(hd:∀d∈ds,d=none)(rest aF:AH) u:
  (t.h rest aF).set (11+rest.length+ls.length) (some (.list ((l.map fun u=>iS (bj t.us u))++[iS (bj t.us u)])))=({t with lv:=ls++some (l++[u])::ds}:Tg).h rest aF:=by
 obtain⟨e,hl⟩:=t.nO ke rest aF;refine J ((show(t.h rest aF).set (11+rest.length+ls.length) (some (.list ((l.map fun u=>iS (bj t.us u))++[iS (bj t.us u)])))=(((t.h rest aF).take 11++(rest++fo t.us ls))++(some (AO.list (l.map fun u=>iS (bj t.us u)))::(fo t.us ds++aF))).set (11+rest.length+ls.length) (some (.list ((l.map fun u=>iS (bj t.us u))++[iS (bj t.us u)]))) by exact aO e rfl) ..) (J (RF _ _ (bC hl)) (J (hl ..) (J (RU ..) ?_)));have h2:(ir t.us (11+rest.length) (ls++some (l++[u])::ds)).map (fun p=>V.ref p.1)=(ir t.us (11+rest.length) t.lv).map (fun p=>V.ref p.1):=by
  refine J ke ?_;delta ir;rw[jj hd,jj hd];simp
 show _=[some (AO.tab 123 tc qt),some (AO.list (t.told.map V.str)),some (.inst 150 3),some (.ns (bJ t.rs t.rd t.ig)),some (.list (t.data.map V.str)),some (.sset [t.ex]),some (.list [iS jg]),
  some (.list ((ir t.us (11+rest.length) (ls++some (l++[u])::ds)).map fun p=> .ref p.1)),some (.list (Q3 t.k (.lst []))),some (.dict (iT t.us)),some (.list (Q3 t.k (.bool false)))]++
  (rest++(fo t.us (ls++some (l++[u])::ds)++aF))
 refine J h2 ?_;simp[fo]
theorem mh(B:Base){t:Tg}(ok:t.ok){rest aF:AH}{q uri tag:Rj}(hq:QN q uri tag)(aU:live t.lv≠[])(hlen:(live t.lv).flatten.length≤200)(c6:t.us.length<100):
  ∃seen,CC (n+4+1) (.st (.ref 90)) [.ref 2, .str q] [] (t.h rest aF) (mf (bz (t.qn uri).us uri) tag uri) ((t.qn uri).h rest (aF++[some (.sset seen)])):=by
 have un:Xv=4096:=rfl;have hP:∀seen,(vL 7 (ir t.us (11+rest.length) t.lv)).1 (t.h rest aF++[some (.sset seen)]):=fun seen=>by exact J (t.j9 ..) ((t.Pn rest _))
 have head:∀{g:Fl}{H1:AH}{am:Loc},af (n+4) (ax 90) ((bodyOf 90).drop 1) [("tag", .str tag),("uri", .str uri),("self", .ref 2)] (t.h rest aF) g am H1→
   CC (n+4+1) (.st (.ref 90)) [.ref 2, .str q] [] (t.h rest aF) g.out H1:=fun h=>
  CC.def (EU B) B.rU.nolimit (LL) (Binds.Pm B (LM) (z:= .none) fun _=>rfl) (show [("self":Rj),"qname","uri"].Nodup by decide)
   (fun x hx=>by
    have:([("self":Rj),"qname","uri"].all fun x=>(fdOf 90).scope.names.lookup x==some .local)=true:=kr;have:=R8.mp this x hx;left;simpa using this)
   (af.cons (tr B hq) h)
 have Dx:∀{g:Fl}{H1:AH}{am:Loc},af (n+4) (ax 90) ((bodyOf 90).drop 2) (rV (t.h rest aF).length uri tag) (t.h rest aF++[some (.sset [])]) g am H1→
   CC (n+4+1) (.st (.ref 90)) [.ref 2, .str q] [] (t.h rest aF) g.out H1:=fun h=>
  head (af.cons (XT.assign (ET.call (ET.ay B (yG) yJ) ab.nil aL.type CT.Ev) (bv.one (AT.name (ST.local rfl)))) h)
 have iter:∀{x:AH},x=[some (AO.sset [])]→xV (n+4) (ax 90) (LW (wf)) (rV (t.h rest aF).length uri tag) (t.h rest aF++x) ((((live t.lv).reverse.flatten).map (bj t.us)++[jg]).map iS) (vL 7 (ir t.us (11+rest.length) t.lv)) (t.h rest aF++x):=fun hx=>by
  subst hx;exact aO (wg t.us t.lv (11+rest.length)) ((xV.aQ ET.name (GM.tX B rfl rfl rfl (Bs) rfl) (ab.cons (ET.attr ET.name (GA.tX B rfl rfl rfl (kO))) ab.nil) (aL.gen (HX B)) (we B (hP _))))
 have yU:∀u,u∈(live t.lv).reverse.flatten↔u∈(live t.lv).flatten:=fun u=>by simp[List.mem_flatten]
 have Dy:(live t.lv).reverse.flatten.length=(live t.lv).flatten.length:=by simp[Zo,List.sum_reverse]
 by_cases hu:uri∈(live t.lv).flatten
 ·have LY:t.qn uri=t:=by delta Tg.qn;rw[if_pos hu]
  obtain⟨as,bs,nL,Bw⟩:=List.eq_append_cons_of_mem ((yU uri).mpr hu);have qe:=du (u:=uri) ok.len;refine⟨(as.map (bj t.us)).map (·.2), ?_⟩;refine J (LY ..) (aO (t.j9 ..) ?_);refine Dx (am:=rV (t.h rest aF).length uri tag) (af.ret (M5.for (iter rfl) ?_));have hit:=EX (n:=n+4) (uri:=uri) hP (fun _=>trivial) (by lia) qe.2 hq.tl (as.map (bj t.us)) (bs.map (bj t.us)++[jg]) [] (fun p hp=>by
   obtain⟨u,F6,rfl⟩:=Q4.mp hp;intro e;rw[←e] at Bw;exact Bw F6) (fun h=>by
   rw[Tc,Rk] at h;obtain⟨u,F6,e⟩:=Q4.mp h;have:=kP ok.len (ok.mem u ((yU u).mp (by refine J nL ?_;simp[F6]))) (ok.mem uri hu) e;rw[←this] at Bw;exact Bw F6) (by
   have:as.length≤(live t.lv).flatten.length:=by refine aO Dy (J nL ?_);simp
   simp;exact FT (elt this (elt hlen dc)))
  have e:(((live t.lv).reverse.flatten).map (bj t.us)++[jg]).map iS=((as.map (bj t.us))++(uri,bz t.us uri)::(bs.map (bj t.us)++[jg])).map iS:=by
   refine J nL ?_;simp[bj]
  refine J e ?_;exact hit
 ·have Po:∀p∈((live t.lv).reverse.flatten).map (bj t.us)++[jg],p.1≠uri:=fun p hp=>by
   rcases Q9.mp hp with hp|hp
   ·obtain⟨u,F6,rfl⟩:=Q4.mp hp;intro e;exact hu ((yU uri).mp (aO e ((F6))))
   ·simp at hp;subst hp;exact fun e=>hq.nx e.symm
  obtain⟨ls,l,ds,ke,hd⟩:=oO aU;generalize Pp:([]:List Rj)++(((live t.lv).reverse.flatten).map (bj t.us)++[jg]).map (·.2)=seen;refine⟨seen, ?_⟩;have Dz:=Bu (n:=n+4) (tag:=tag) hP (fun _=>trivial) (((live t.lv).reverse.flatten).map (bj t.us)++[jg]) [] Po (by refine J (QS ..) (J (QP ..) (J (Dy ..) ?_));show 0+((live t.lv).flatten.length+1)+1<Xv;lia);rw[Pp] at Dz;have wh:=M5.for (iter rfl) Dz (pos:=(wf).pos);rw[t.j9 rest aF (some (AO.sset seen))] at wh;have Bx:∀kE,(ir kE (11+rest.length) t.lv).map (fun p=>V.ref p.1)=(.ref 6::(fm kE (11+rest.length) ls).map (fun p=>V.ref p.1))++[.ref (11+rest.length+ls.length)]:=fun kE=>by
   refine J ke ?_;delta ir;rw[jj hd];simp
  have top:∀kE,OT (n+4) U2 (.ref 7) (.int (-1)) (({t with us:=kE}:Tg).h rest (aF++[some (.sset seen)])) (.ref (11+rest.length+ls.length)) (({t with us:=kE}:Tg).h rest (aF++[some (.sset seen)])):=fun kE=>by
   refine OT.de (i:=(live ls).length+1) rfl (by rw[Bx,QS,Rn,QP,fC,Sc];push_cast;lia) ?_;rw[Bx,Rh (by rw[Rn,QP,fC];exact QM _),Rn,QP,fC,RU];rfl
  have JS:=du (us:=(t.qn uri).us) (u:=uri) (by
   delta Tg.qn;refine J (if_neg hu) ?_;dsimp only;refine bl (fun _=> ?_) fun _=> ?_
   ·exact SU c6
   ·exact J QS (J Sc ((c6))))
  have LZ:l.length<QW:=by
   have:l.length≤(live t.lv).flatten.length:=by refine J ke (J (jl hd) ?_);simp
   exact elt this (elt hlen dc)
  have tail:∀kE,kE=(t.qn uri).us→(bz kE uri).length≤4→
    af (n+4) (ax 90) ((uI (au (bodyOf 90) 3)).drop 1) (("prefix",V.str (bz kE uri))::rV (t.h rest aF).length uri tag) (({t with us:=kE}:Tg).h rest (aF++[some (.sset seen)])) (.ret (mf (bz kE uri) tag uri))
     (("prefix",V.str (bz kE uri))::rV (t.h rest aF).length uri tag) ((t.qn uri).h rest (aF++[some (.sset seen)])):=fun kE rW qe=>by
   have e:=({t with us:=kE}:Tg).yT ke hd rest (aF++[some (.sset seen)]) uri;have eq:({{t with us:=kE} with lv:=ls++some (l++[uri])::ds}:Tg)=t.qn uri:=by
    subst rW;delta Tg.qn;rw[if_neg hu,(show eg (fun l=>some (l++[uri])) t.lv=ls++some (l++[uri])::ds by rw[ke,eQ _ _ _ hd])]
   rw[eq] at e;refine af.cons (XT.expr (ET.aQ
    (ET.sub (ET.attr ET.name (GA.tX B rfl rfl rfl (kO))) (ET.unary ET.int j1.neg) (Ty.ah rfl) Rp.lookup (top kE))
    (GM.of (Ty.ah (({t with us:=kE}:Tg).kQ ke rest _)) (aH.ah (({t with us:=kE}:Tg).kQ ke rest _)) Rf X5 RB)
    (ab.cons (ET.tuple (ab.cons ET.name (ab.cons ET.name ab.nil)) (show 2≤QW by decide)) ab.nil) aL.builtin (CT.append (({t with us:=kE}:Tg).kQ ke rest _) (J (QP ..) LZ)))) ?_
   exact J e ((af.ret (XT.ret (ET.tuple (ab.cons (yQ ET.name ET.name (by lia) hq.tl) (ab.cons ET.name (ab.cons ET.name ab.nil))) (show 3≤QW by decide)))))
  refine Dx (g:= .ret (mf (bz (t.qn uri).us uri) tag uri)) (am:=("prefix",V.str (bz (t.qn uri).us uri))::rV (t.h rest aF).length uri tag) (af.cons wh (af.ret (XT.ite (TT.value (ET.attr ET.name (GA.t B rfl (te))) OB.bool) (fun _=> ?_) (fun h=>by cases h))));have qz:=OT.in_dict (n:=n+4) (k:=uri) (aV.ref (k:=9) (H:=t.h rest (aF++[some (.sset seen)])) B.mods rfl);have kJ:(iT t.us).lookup uri=if uri∈t.us then some (.str (bz t.us uri)) else none:=tp t.us uri
  by_cases hm:uri∈t.us
  ·have rW:t.us=(t.qn uri).us:=by delta Tg.qn;refine J (if_neg hu) ?_;dsimp only;rw[if_pos hm]
   rw[←rW] at JS⊢;replace kJ:=(if_pos hm)▸kJ;replace qz:=kJ▸qz;refine af.cons (XT.ite (c:=true) (TT.cmp ET.name (ET.attr ET.name (GA.t B rfl (qv))) qz) (fun _=>af.cons (XT.assign (ET.sub (ET.attr ET.name (GA.t B rfl (qv))) ET.name (Ty.iV rfl) Vs.lookup (OT.item_dict (aV.ref B.mods rfl) kJ)) (bv.one (AT.name (ST.local rfl)))) af.nil) (fun h=>by cases h)) ?_;exact tail t.us rW JS.1
  ·have rW:t.us++[uri]=(t.qn uri).us:=by delta Tg.qn;refine J (if_neg hu) ?_;dsimp only;rw[if_neg hm]
   rw[←rW] at JS⊢;rw[if_neg hm] at kJ;rw[kJ] at qz;have LU:bz (t.us++[uri]) uri=VR++"n"++jN t.us.length:=by
    have e0:VR++("n":Rj)="n":=rfl
    delta bz;refine J U4 (J (if_neg hm) (J e0 ?_));simp
   have e8:(t.h rest (aF++[some (.sset seen)])).set 9 (some (.dict (il (iT t.us) uri (.str (bz (t.us++[uri]) uri)))))=({t with us:=t.us++[uri]}:Tg).h rest (aF++[some (.sset seen)]):=by
    have ep:il (iT t.us) uri (.str (bz (t.us++[uri]) uri))=iT (t.us++[uri]):=by
     delta il
     rw[if_neg (by rw[←iZ,kJ];exact Ry),yR hm]
     delta bz;refine J U4 (J (if_neg hm) ?_);simp
    refine J ep ?_;have h2:(ir (t.us++[uri]) (11+rest.length) t.lv).map (fun p=>V.ref p.1)=(ir t.us (11+rest.length) t.lv).map (fun p=>V.ref p.1):=by
     delta ir;rw[Q8,Q8,oN _ t.us]
    show _=[some (AO.tab 123 tc qt),some (AO.list (t.told.map V.str)),some (.inst 150 3),some (.ns (bJ t.rs t.rd t.ig)),some (.list (t.data.map V.str)),some (.sset [t.ex]),some (.list [iS jg]),
     some (.list ((ir (t.us++[uri]) (11+rest.length) t.lv).map fun p=> .ref p.1)),some (.list (Q3 t.k (.lst []))),some (.dict (iT (t.us++[uri]))),some (.list (Q3 t.k (.bool false)))]++
     (rest++(fo (t.us++[uri]) t.lv++(aF++[some (.sset seen)])))
    exact(iL ok.mem).symm▸h2.symm▸rfl
   refine af.cons (XT.ite (TT.cmp ET.name (ET.attr ET.name (GA.t B rfl (qv))) qz) (fun h=>by cases h) (fun _=>af.cons (XT.assign ?_ (bv.two (AT.name (ST.local rfl)) (AT.sub (ET.attr ET.name (GA.t B rfl (qv))) ET.name (IS.dict rfl (by refine J (show(iT t.us).length=t.us.length from by simp[iT]) ?_;exact ao c6 dc))))) (by refine J e8 ?_;exact af.nil))) ?_
   ·refine LU.symm▸ ?_;have hn:=qy t.us.length (ao c6 dc);have e1:(VR++("n":Rj)).length=1:=rfl;have Pq:(Int.natAbs (t.us.length:Int)).log2<1920:=by
     by_cases h0:t.us.length=0
     ·refine J h0 ?_;decide
     ·exact ao ((Nat.log2_lt h0).mpr (show t.us.length<2^7 from ao c6 dc)) dc
    have hc:=CT.len_dict (n:=n+4) (aV.ref (k:=9) (H:=t.h rest (aF++[some (.sset seen)])) B.mods rfl);rw[show(iT t.us).length=t.us.length from by simp[iT]] at hc;refine ET.AV (FP.cons ET.str (FP.cons (x:=jN t.us.length) (ET.KP (ET.call (ET.ay B (jF) jI) (ab.cons (ET.attr ET.name (GA.t B rfl (qv))) ab.nil) aL.builtin hc) Pq (gy hn)) FP.nil ?_) ?_) ?_
    ·rw[Q7,e1];exact iF (ao (a9 (QM _) hn) dc)
    ·refine J e1 ?_;decide
    ·rw[Q7,e1];exact iF (ao (a9 (QM _) hn) dc)
   ·exact tail (t.us++[uri]) rW JS.1
end
section
variable{n:Nat}{H:AH}{F:Fx}{ρ:Loc}
theorem Binds.Pr(B:Base){fd}{a c}{x z}{d}(e:∀S v,V2 (KK) S (Sn fd ⟨[v],[]⟩)=some [(a,v),(c,d)])(hz:∀W,Rel W z d):Binds fd [x] [] [(a,x),(c,z)]:=fun h W vs kv k r rn=>by
 cases rn;obtain⟨v,rfl,rv⟩:=r.one;exact⟨_,Uj (B.In h k) (e _ v),v,_,rfl,rv,d,_,rfl,hz W,rfl⟩
theorem OB.mi(h:b=c):OB n (.bool b) H c:=by subst h;exact OB.bool
theorem L0:∃t,(KK).lookup 98=some (bq "str.join" (.str "" t)):=⟨_,rfl⟩
noncomputable def Tg.flush(t:Tg):Tg:={t with data:=[],told:=if(R9 "" t.data).length≠0∧t.rs=true then t.told++[dW (R9 "" t.data)] else t.told}
theorem tt(B:Base){t:Tg}{rest aF}(hj:Xb "" t.data=true)(hl:(R9 "" t.data).length≤100)(ce:t.told.length<QW):
  CT (n+1+1) (.st (.ref 106)) [.ref 2] [] (t.h rest aF) .none (t.flush.h rest aF):=by
 obtain⟨tk,Ps⟩:=L0;let j:=R9 "" t.data;refine CT.fn (g:= .next) (am:=[("data", .str j),("self", .ref 2)]) (bs:=[("self", .ref 2),("_join_text", .st (.ref 98))]) B (Db B) (Binds.Pr B (HB) fun _=>rfl) dc rfl (af.cons (XT.assign (x:= .str j) (ET.call (f:= .bm "str.join" (.str "")) (ET.OI ET.name (B.uu _ _ Ps) fun W=>⟨tk,rfl,Rr _⟩) (ab.cons (ET.attr ET.name (GA.t B rfl (jh))) ab.nil) aL.bm (CT.AS rfl hj (gy hl))) (bv.one (AT.name (ST.local rfl)))) ?_);refine af.cons (XT.Ey (ET.attr ET.name (GA.t B rfl (jh))) rfl) (J (show(t.h rest aF).set 4 (some (.list []))=({t with data:=[]}:Tg).h rest aF from rfl) ?_);refine af.cons (XT.ite (TT.bn (aJ.and_false (TT.value (ET.attr ET.name (GA.t B rfl (yL))) OB.bool))) (fun h=>by cases h) (fun _=>af.nil)) (af.cons (XT.ite (c:=false) (TT.cmp (ET.attr ET.name (GA.t B rfl (tg))) ET.none (OT.isNot_none (b:=true) (fun _ _ r=>by cases r;rfl))) (fun h=>by cases h) (fun _=>af.nil)) ?_);have fV:∀m z,([("data",V.str j),("self",V.ref 2)]:Loc).lookup m=some z→([("data",V.str j),("self", .ref 2),("_join_text", .st (.ref 98))]:Loc).lookup m=some z:=aa rfl (aa rfl ad);have hb:=OB.str (n:=n+1) (x:=j) (H:=({t with data:=[]}:Tg).h rest aF);by_cases h0:j.length=0
 ·rw[show(j.length !=0)=false from by simpa using h0] at hb;have ef:t.flush=({t with data:=[]}:Tg):=by delta Tg.flush;rw[if_neg (fun h=>h.1 h0)]
  exact J ef ((af.sub (af.cons (XT.ite (TT.bn (aJ.and_false (TT.value ET.name hb))) (fun h=>by cases h) (fun _=>af.nil)) af.nil) fV))
 ·rw[show(j.length !=0)=true from by simpa using h0] at hb;by_cases DA:t.rs=true
  case neg=>
   have DA:t.rs=false:=by simpa using DA
   have ef:t.flush=({t with data:=[]}:Tg):=by delta Tg.flush;rw[if_neg (fun h=>by cases DA.symm.trans h.2)]
   refine J ef (af.sub (af.cons (XT.ite (TT.bn (aJ.and_true (TT.value ET.name hb) (aJ.and_false (TT.value (ET.attr ET.name (GA.t B (y:= .bool t.rs) rfl (uN))) (OB.mi DA))))) (fun h=>by cases h) (fun _=>af.nil)) af.nil) fV)
  case pos=>
   have ef:t.flush=({t with data:=[],told:=t.told++[dW j]}:Tg):=by delta Tg.flush;rw[if_pos ⟨h0,DA⟩]
   refine J ef ?_;have e0:(({t with data:=[]}:Tg).h rest aF).set 1 (some (.list (t.told.map V.str++[.str (dW j)])))=({t with data:=[],told:=t.told++[dW j]}:Tg).h rest aF:=by simp[Tg.h]
   refine aO e0 ?_;refine af.sub (af.cons (XT.ite (TT.bn (aJ.and_true (TT.value ET.name hb) (aJ.and_true (TT.value (ET.attr ET.name (GA.t B (y:= .bool t.rs) rfl (uN))) (OB.mi DA)) aJ.and_nil))) (fun _=>af.cons (XT.expr (ET.aQ ET.name
    (GM.own (dr B) rfl rfl rfl (me) (noGet_none _)) (ab.cons (ET.call (ET.globK B (gu)) (ab.cons ET.name ab.nil) (aL.def (Df B)) (HV B hl)) ab.nil) aL.bm (CT.fw rfl (J (QP ..) ce)))) af.nil) (fun h=>by cases h)) af.nil) fV
end
theorem mj{l1 l2:List (Rj×V)}(h:l1.lookup k=none) x:(l1++(k,v)::l2).lookup x=((k,v)::(l1++(k,u)::l2)).lookup x:=by
 by_cases e:x=k
 ·subst e;refine J lookup_cons (J (if_pos rfl) ?_)
  induction l1 with
  |nil=>exact(lookup_cons).trans (if_pos rfl)
  |cons p l1 ih=>
   replace h:=lookup_cons▸h;have hk:x≠p.1:=fun e=>by replace h:=(if_pos e)▸h;cases h
   rw[if_neg hk] at h;exact(lookup_cons.trans (if_neg hk)).trans (ih h)
 ·refine J lookup_cons (J (if_neg e) ?_)
  induction l1 with
  |nil=>exact(lookup_cons.trans (if_neg e)).trans (lookup_cons.trans (if_neg e)).symm
  |cons p l1 ih=>
   replace h:=lookup_cons▸h;have hk:k≠p.1:=fun e=>by replace h:=(if_pos e)▸h;cases h
   rw[if_neg hk] at h;refine lookup_cons.trans (Eq.trans ?_ lookup_cons.symm);by_cases e':x=p.1
   ·rw[if_pos e',if_pos e']
   ·exact J (if_neg e') (J (if_neg e') ((ih h)))
theorem nQ{ig Nx} x:(bJ rs rd Nx).lookup x=((("_ignored_depth":Rj),V.int Nx)::bJ rs rd ig).lookup x:=mj (l1:=(bJ rs rd 0).take 16) rfl x
theorem wj{rs rd Ny}{ig} x:(bJ rs Ny ig).lookup x=((("_root_done":Rj),V.bool Ny)::bJ rs rd ig).lookup x:=mj (l1:=(bJ rs rd 0).take 15) rfl x
theorem wm{rs Nz rd}{ig} x:(bJ Nz rd ig).lookup x=((("_root_seen":Rj),V.bool Nz)::bJ rs rd ig).lookup x:=mj (l1:=(bJ rs rd 0).take 14) rfl x
theorem ml:Yk (KK) 150 "_ignored_depth"=some none:=rfl
theorem By:Yk (KK) 150 "_root_done"=some none:=rfl
theorem Bz:Yk (KK) 150 "_root_seen"=some none:=rfl
structure Tg.fit(t:Tg):Prop where
 join:Xb "" t.data=true
 len:(R9 "" t.data).length≤100
 told:t.told.length≤1000
 flat:(live t.lv).flatten.length≤200
noncomputable def Tg.fl(t:Tg):Tg:=if t.data=[] then t else t.flush
noncomputable def fF(p tag:Rj):Rj:="</"++(p++":"++tag)++">"
noncomputable def Tg.iu(t:Tg)(uri tag:Rj):Tg:=
 if t.ig=0 then {t.fl with told:=t.fl.told++[fF (bz t.us uri) tag],lv:=eg (fun _=>none) t.lv,rd:=(live t.lv).length==1,k:=(live t.lv).length} else {t with ig:=t.ig-1}
theorem Tg.dF{t:Tg}{rest}(hr:∀ob,some ob∈rest→ob.dF 11=true∨ob.dF (11+rest.length)=true):∀ob,some ob∈t.h rest []→ob.dF (t.h rest []).length=true:=by
 have hlen:(t.h rest []).length=11+rest.length+t.lv.length:=by
  show(SF _+1+1+1+1+1+1+1+1+1+1+1)=_;simp[fo];exact r9 (Jr (Js (QM _))) (Jq (vy (QM _)))
 have Pt:∀(lv:List (Option (List Rj))) b,∀p∈fm t.us b lv,p.1<b+lv.length:=by
  intro lv
  induction lv with
  |nil=>intro b p h;cases h
  |cons o lv ih=>
   intro b p h;cases o with
   |none=>have:=ih (b+1) p h;simp;exact ao this (ik (QM _))
   |some l=>
    rcases QX.mp h with rfl|h
    ·simp
    ·have:=ih (b+1) p h;simp;exact ao this (ik (QM _))
 intro ob h;refine J hlen ?_;have hs:∀(l:List Rj),bD (11+rest.length+t.lv.length) (l.map V.str)=true:=fun l=>cz.mpr fun x hx=>by obtain⟨y,_,rfl⟩:=Q4.mp hx;rfl
 simp only[QX,Yu,Ra,Q9] at h;rcases h with rfl|rfl|rfl|rfl|rfl|rfl|rfl|rfl|rfl|rfl|rfl|h|h
 ·rfl
 ·exact hs _
 ·exact decide_eq_true (gh (gh dc))
 ·exact dU (gh (gh (QM _))) rfl
 ·exact hs _
 ·rfl
 ·rfl
 ·refine cz.mpr fun x hx=> ?_;obtain⟨p,hp,rfl⟩:=Q4.mp hx;refine decide_eq_true ?_;rcases QX.mp hp with rfl|hp
  ·exact gh (gh dc)
  ·exact Pt _ _ p hp
 ·refine cz.mpr fun x hx=> ?_;rw[ZA] at hx;exact congrArg _ hx.2
 ·refine sI.mpr fun x hx=> ?_;obtain⟨u,_,rfl⟩:=Q4.mp hx;rfl
 ·refine cz.mpr fun x hx=> ?_;rw[ZA] at hx;exact hx.2▸rfl
 ·rcases hr ob h with h|h
  ·exact AO.cy (gh (gh (QM _))) h
  ·exact AO.cy (gh (QM _)) h
 ·obtain⟨o,ho,e⟩:=Q4.mp h;cases o with
  |none=>cases e
  |some l=>
   cases e;refine cz.mpr fun x hx=> ?_;obtain⟨u,_,rfl⟩:=Q4.mp hx;rfl
section
variable{n:Nat}{H:AH}{F:Fx}{ρ:Loc}
noncomputable def hx(told:List V)(rs rd:Bool)(ig:Int)(data:List V)(ex:Rj)(decl H7:List V)(pm:List (Rj×V))(ps:List V)(tail:AH):AH:=
 some (.tab 123 tc qt)::some (.list told)::some (.inst 150 3)::some (.ns (bJ rs rd ig))::some (.list data)::some (.sset [ex])::some (.list [iS jg])::some (.list decl)::some (.list H7)::some (.dict pm)::some (.list ps)::tail
theorem eJ{α:Type} k(x:α):Q3 (k+1) x=Q3 k x++[x]:=List.replicate_succ'
theorem wn(hp:p.length≤4)(ht:tag.length≤1000):(fF p tag).length≤1010:=by
 refine J (Q7 ..) (J (Q7 ..) (J (fB ..) ?_));have:("</":Rj).length=2:=rfl;have:(">":Rj).length=1:=rfl;lia
theorem yV(B:Base){t:Tg}(ok:t.ok){rest}{q uri tag}(hq:QN q uri tag)(hm:uri∈(live t.lv).flatten)(hlen:(live t.lv).flatten.length≤200)(c6:t.us.length<100)(mn:t.told.length<QW)(wo:t.k=(live t.lv).length+1):
  ∃seen,af (n+4+1) (ax 133) ((bodyOf 133).drop 2) [("self", .ref 2),("tag", .str q)] (t.h rest []) .next [("self", .ref 2),("tag", .str q)]
   (({t with told:=t.told++[fF (bz t.us uri) tag],lv:=eg (fun _=>none) t.lv,rd:=(live t.lv).length==1,k:=(live t.lv).length}:Tg).h rest []++[some (.sset seen)]):=by
 have hs:=Rv;have aU:live t.lv≠[]:=fun e=>by rw[e] at hm;simp at hm
 refine QK fun kG=> ?_;obtain⟨ls,l,ds,ke,hd⟩:=oO aU;have LY:t.qn uri=t:=by unfold Tg.qn;rw[if_pos hm]
 obtain⟨seen,hc⟩:=mh B ok hq aU hlen c6;refine kG ?_;rw[LY,Tc] at hc;have qe:=(du (u:=uri) (SU c6)).1;refine⟨seen, ?_⟩;have uA:ET (n+4+1) (ax 133) (cL 0 (gK (au (bodyOf 133) 2))) [("self", .ref 2),("tag", .str q)] (t.h rest []) (.str (fF (bz t.us uri) tag)) (t.h rest [some (.sset seen)]):=by
  have he:VR++"</"="</":=rfl;have h1:("</":Rj).length=2:=rfl;have h2:=fB (bz t.us uri) tag;have h3:=wn qe hq.tl;have h4:=hq.tl;refine ET.AV (FP.cons ET.str (FP.cons (ET.pW (ET.sub (ET.aQ ET.name (GM.t B rfl (qw) rfl) (ab.cons ET.name ab.nil) (aL.def (EU B)) (CT.GF hc))
   ET.int Ty.tup R6.lookup (OT.item_tup (i:=0) rfl rfl))) (FP.cons ET.str FP.nil ?_) ?_) ?_) ?_
  ·exact J he ((QU h3 dc))
  ·refine J (he ..) (J (Q7 ..) ?_);lia
  ·refine J he ?_;decide
  ·exact QU h3 dc
 refine af.cons (XT.expr (ET.aQ ET.name (GM.own (dr B) rfl rfl rfl (me) (noGet_none _)) (ab.cons uA ab.nil) aL.bm
  (CT.fw rfl (J (QP ..) mn)))) ?_
 refine J (show(t.h rest [some (.sset seen)]).set 1 (some (.list (t.told.map V.str++[.str (fF (bz t.us uri) tag)])))=({t with told:=t.told++[fF (bz t.us uri) tag]}:Tg).h rest [some (.sset seen)] by simp[Tg.h]) ?_;refine af.cons (XT.expr (ET.aQ (ET.attr ET.name (GA.t B rfl (uM))) (GM.of (Ty.ah rfl) (aH.ah rfl) Rf TA Tz) ab.nil aL.builtin (CT.pop ((show∀(h:AH),h[10]?=some (some (.list (Q3 t.k (.bool false))))→h[10]?=some (some (.list (Q3 (live t.lv).length (.bool false)++[.bool false]))) from fun h e=>by exact J (e ..) (J (wo ..) (J (eJ ..) rfl))) _ rfl)))) ?_;let T1:AH:=rest++(fo t.us t.lv++[some (.sset seen)]);let cC:=(t.told++[fF (bz t.us uri) tag]).map V.str;let DB:=(ir t.us (11+rest.length) t.lv).map fun p=>V.ref p.1;let k:=(live t.lv).length;let H8:List V:=Q3 t.k (.lst []);have H9:((((Q3 k (V.bool false)).length:Nat):Int)==1)=(k==1):=by
  refine J Y0 ?_;by_cases h1:k=1
  ·exact J h1 rfl
  ·have h3:((k:Int)==1)=false:=by rw[beq_eq_false_iff_ne];exact(by lia)
   have h4:(k==1)=false:=by rw[beq_eq_false_iff_ne];exact h1
   rw[h3,h4]
 have ho:=OT.eq_int (n:=n+4+1) (a:=((Q3 k (V.bool false)).length:Nat)) (b:=1) (H:=hx cC t.rs t.rd t.ig (t.data.map V.str) t.ex DB H8 (iT t.us) (Q3 k (.bool false)) T1);rw[H9] at ho;refine af.cons (XT.lO (d:=3) rfl wj (XT.assign (ET.cmp (ET.call (ET.ay B (jF) jI) (ab.cons (ET.attr ET.name (GA.tX B rfl rfl rfl (uM))) ab.nil) aL.builtin (CT.ur rfl)) ET.int ho)
  (bv.one (AT.attr (dr B) (ET.name rfl) rfl rfl (By) (show 17≤100 by decide))))) ?_
 have Ia:DB=(.ref 6::(fm t.us (11+rest.length) ls).map (fun p=>V.ref p.1))++[.ref (11+rest.length+ls.length)]:=by
  show(ir t.us (11+rest.length) t.lv).map _=_;refine J ke ?_;unfold ir;rw[jj hd];simp
 have L1:H8=Q3 k (.lst [])++[.lst []]:=by
  show Q3 t.k _=_;exact J wo ((eJ ..))
 refine J Ia (J L1 ?_);refine af.cons (XT.expr (ET.aQ (ET.attr ET.name (GA.tX B rfl rfl rfl (kO))) (GM.of (Ty.ah rfl) (aH.ah rfl) Rf TA Tz) ab.nil aL.builtin (CT.pop rfl))) (af.cons (XT.expr (ET.aQ (ET.attr ET.name (GA.tX B rfl rfl rfl (td))) (GM.of (Ty.ah rfl) (aH.ah rfl) Rf TA Tz) ab.nil aL.builtin (CT.pop rfl))) ?_);refine af.kill (11+rest.length+ls.length) ?_;have L2:List.set (hx cC t.rs (k==1) t.ig (t.data.map V.str) t.ex (.ref 6::(fm t.us (11+rest.length) ls).map (fun p=>V.ref p.1)) (Q3 k (.lst [])) (iT t.us) (Q3 k (.bool false)) T1) (11+rest.length+ls.length) none=
   ({t with told:=t.told++[fF (bz t.us uri) tag],lv:=eg (fun _=>none) t.lv,rd:=(live t.lv).length==1,k:=(live t.lv).length}:Tg).h rest []++[some (.sset seen)]:=by
  have d4:live (ls++none::ds)=live ls:=by
   refine J (b6 ..) ?_;show live ls++live ds=_;rw[hO hd,Ra]
  have hL:(ir t.us (11+rest.length) (ls++none::ds)).map (fun p=>V.ref p.1)= .ref 6::(fm t.us (11+rest.length) ls).map (fun p=>V.ref p.1):=by
   unfold ir;refine J (gM ..) ?_;show _::TX _ (_++fm t.us _ ds)=_;rw[jO t.us ds _ hd,Ra]
  rw[(show eg (fun _=>none) t.lv=ls++none::ds by rw[ke,eQ _ _ _ hd])];show _=hx cC t.rs (k==1) t.ig (t.data.map V.str) t.ex ((ir t.us (11+rest.length) (ls++none::ds)).map (fun p=>V.ref p.1)) (Q3 k (.lst [])) (iT t.us) (Q3 k (.bool false)) ((rest++(fo t.us (ls++none::ds)++[]))++[some (.sset seen)]);refine hL.symm▸ ?_;have hT:T1=(rest++fo t.us ls)++(some (AO.list (l.map fun u=>iS (bj t.us u)))::(fo t.us ds++[some (.sset seen)])):=by
   show rest++(fo t.us t.lv++_)=_;refine J ke ?_;simp[fo]
  have JI:T1.set (rest.length+ls.length) none=(rest++(fo t.us (ls++none::ds)++[]))++[some (.sset seen)]:=by
   rw[hT,RF _ _ (by simp[fo])];simp[fo]
  refine aO JI ?_;refine J (show 11+rest.length+ls.length=(rest.length+ls.length)+11 from by exact r9 (Jq (vy (QM _))) (Jr (vy (QM _)))) ?_;rfl
 exact L2▸(af.nil)
theorem Tg.eY(t:Tg):t.fl.us=t.us:=by unfold Tg.fl;refine bl (fun _=> ?_) (fun _=> ?_)<;>rfl
theorem Tg.iC(t:Tg):t.fl.lv=t.lv:=by unfold Tg.fl;refine bl (fun _=> ?_) (fun _=> ?_)<;>rfl
theorem Tg.DD{t:Tg}(ok:t.ok):t.fl.ok:=⟨by refine t.eY.symm▸t.iC.symm▸ ?_;exact ok.mem,by refine t.eY.symm▸ ?_;exact ok.len,by refine t.eY.symm▸ ?_;exact ok.nd,by exact t.eY.symm▸ok.AD⟩
theorem Tg.kR(t:Tg):t.fl.told.length≤t.told.length+1:=by
 unfold Tg.fl Tg.flush;refine bl (fun _=> ?_) fun _=> ?_
 ·exact gh (QM _)
 ·refine bl (fun _=> ?_) (fun _=> ?_)<;>simp
theorem Tg.DE(t:Tg):t.fl.ig=t.ig:=by unfold Tg.fl;refine bl (fun _=> ?_) (fun _=> ?_)<;>rfl
theorem Tg.Ib(t:Tg):t.fl.rs=t.rs:=by unfold Tg.fl;refine bl (fun _=> ?_) (fun _=> ?_)<;>rfl
theorem Tg.DF(t:Tg):t.fl.ex=t.ex:=by unfold Tg.fl;refine bl (fun _=> ?_) (fun _=> ?_)<;>rfl
theorem Tg.BA(t:Tg):t.fl.k=t.k:=by unfold Tg.fl;refine bl (fun _=> ?_) (fun _=> ?_)<;>rfl
theorem Tg.uO(t:Tg):t.fl.data=[]:=by
 unfold Tg.fl;refine bl (fun _=> ?_) fun _=> ?_
 ·assumption
 ·rfl
theorem qA(B:Base){t:Tg}(fit:t.fit){rest aF}{m}{a}{i}{ρ}{p1 p2 p3 p4 p5 p6 p7}(lJ:ρ.lookup ("self":Rj)=some (.ref 2))
  (e:au (bodyOf a) i= .If (.Attribute (.Name "self" p1) "_data" p2) [.Expr (.Call (.Attribute (.Name "self" p3) "_flush" p4) [] [] p5) p6] [] p7)
  (he:∀env,eval (.Call (.Attribute (.Name "self" p3) "_flush" p4) [] [] p5) env=(do
   let ov ←eval (.Name "self" p3) env
   standAt p4.atName
   let(f,first) ←holding [ov] (Yw ov "_flush" (do return (←YF (.Name "self" p3) env).getD true))
   Uo p5 f first (backTo p5 (starEach [] env)) [])):
  XT (m+1+1) (ax a) (au (bodyOf a) i) ρ (t.h rest aF) .next ρ (t.fl.h rest aF):=by
 refine J e ?_;have hb:=OB.ah (n:=m+1+1) (i:=4) (H:=t.h rest aF) rfl;by_cases h0:t.data=[]
 ·have ef:t.fl=t:=by unfold Tg.fl;rw[if_pos h0]
  refine J ef ?_;have sS:OB (m+1+1) (.ref 4) (t.h rest aF) false:=by
   have e:(!(t.data.map V.str).isEmpty)=false:=by refine J h0 ?_;rfl
   exact e▸hb
  exact XT.ite (TT.value (ET.attr (ET.name lJ) (GA.t B rfl (jh))) sS) (fun h=>by cases h) (fun _=>af.nil)
 ·have ef:t.fl=t.flush:=by unfold Tg.fl;rw[if_neg h0]
  refine J ef ?_;have sS:OB (m+1+1) (.ref 4) (t.h rest aF) true:=by
   refine((show(!(t.data.map V.str).isEmpty)=true by cases hh:t.data with|nil=>exact absurd hh h0|cons _ _=>rfl))▸ ?_;exact hb
  refine XT.ite (TT.value (ET.attr (ET.name lJ) (GA.t B rfl (jh))) sS) (fun _=>af.cons (XT.expr (ET.aQ (ET.name lJ) (GM.t B rfl (yN) rfl) ab.nil (aL.def (Db B))
   (tt B fit.join fit.len (As fit.told)) (he:=he))) af.nil) (fun h=>by cases h)
theorem qB(B:Base){t:Tg}(ok:t.ok)(fit:t.fit){rest}(hr:∀ob,some ob∈rest→ob.dF 11=true∨ob.dF (11+rest.length)=true){q uri tag}(hq:QN q uri tag)(hm:t.ig=0→uri∈(live t.lv).flatten)(c6:t.us.length<100)(wo:t.k=(live t.lv).length+1):
  CT (n+4+1+1) (.st (.ref 133)) [.ref 2, .str q] [] (t.h rest []) .none ((t.iu uri tag).h rest []):=by
 by_cases h0:t.ig=0
 ·obtain⟨seen,hc⟩:=yV B (Tg.DD ok) hq (by refine J t.iC ?_;exact hm h0) (by refine J t.iC ?_;exact fit.flat) (by refine J t.eY ?_;exact c6) (by have:=t.kR;exact elt this (FT (elt fit.told dc))) (by exact J t.BA (J t.iC ((wo))));have ee:t.iu uri tag={t.fl with told:=t.fl.told++[fF (bz t.fl.us uri) tag],lv:=eg (fun _=>none) t.fl.lv,rd:=(live t.fl.lv).length==1,k:=(live t.fl.lv).length}:=by
   unfold Tg.iu;rw[if_pos h0,t.iC,t.eY]
  rw[←ee] at hc;have hb:OB (n+4+1) (.int t.ig) (t.h rest []) false:=by
   have:=OB.int (n:=n+4+1) (i:=t.ig) (H:=t.h rest []);rwa [show(t.ig !=0)=false from by simpa using h0] at this
  refine CT.drop (T:=[some (.sset seen)]) ?_ ?_ rfl (Tg.dF hr)
  ·refine CT.fn (g:= .next) (am:=[("self", .ref 2),("tag", .str q)]) B (uF B) (Binds.b2 B (De)) (show [("self":Rj),"tag"].Nodup by decide) rfl ?_;refine af.cons (XT.ite (TT.value (ET.attr ET.name (GA.t B rfl (b7))) hb) (fun h=>by cases h) (fun _=>af.nil)) (af.cons (qA B fit (i:=1) rfl rfl (by intro _;rfl)) hc)
  ·have h2:((t.iu uri tag).lv).length=t.lv.length:=by
    refine J ee (J t.iC ?_);have:∀lv,(eg (fun _=>none) lv).length=lv.length:=by
     intro lv
     induction lv with
     |nil=>rfl
     |cons o lv ih=>
      cases o with
      |none=>exact congrArg Nat.succ ih
      |some l=>rw[tn];refine bl (fun _=> ?_) (fun _=> ?_)<;>simp[ih]
    exact this _
   show(SF _+1+1+1+1+1+1+1+1+1+1+1)≤(SF _+1+1+1+1+1+1+1+1+1+1+1);simp[fo,h2]
 ·have ee:t.iu uri tag={t with ig:=t.ig-1}:=by unfold Tg.iu;rw[if_neg h0]
  refine J ee ?_;have hb:OB (n+4+1) (.int t.ig) (t.h rest []) true:=by
   have:=OB.int (n:=n+4+1) (i:=t.ig) (H:=t.h rest []);rwa [show(t.ig !=0)=true from by simpa using h0] at this
  refine CT.fn (g:= .ret .none) (am:=[("self", .ref 2),("tag", .str q)]) B (uF B) (Binds.b2 B (De)) (show [("self":Rj),"tag"].Nodup by decide) rfl ?_;refine af.ret (XT.ite (TT.value (ET.attr ET.name (GA.t B rfl (b7))) hb) (fun _=> ?_) (fun h=>by cases h));refine af.cons ?_ (af.ret XT.GC);exact XT.lO (d:=3) rfl nQ (XT.uv (dr B) ET.name (GA.t B rfl (b7)) ET.int Ee.sub_int rfl rfl (ml) (show 17≤100 by decide))
end
section
variable{n:Nat}{H:AH}{F:Fx}{ρ:Loc}
noncomputable def kS(x:Rj):List Rj:=Ue x "}" 1
noncomputable def L3(i:Nat):SD:=gK (au (bodyOf 126) i)
noncomputable abbrev E0(e:SD):SD:=cL 0 e
noncomputable def kwAt(i:Nat)(e:SD):SD:=by
 cases e with
 |Call _ _ ks=>exact(ks.getD i ⟨none,default,default⟩).value
 |_=>exact default
noncomputable abbrev Ic(e:SD):SD:=nq e
noncomputable def Id(e:SD):Arguments:=by
 cases e with
 |Lambda a=>exact a
 |_=>exact default
noncomputable abbrev Ie(e:SD):aaf:=oM e
noncomputable def qC:SD:=kwAt 0 (E0 (L3 6))
theorem Ig:((fdOf 126).qualname++".<locals>.")++"<lambda>"=qt:=rfl
theorem oQ:∃c,(ax 126).code= .ref c∧codeHdIn (KK) c 123=true∧∃oc vs,(KK).lookup c=some oc∧oc.data= .fields vs:=⟨_,rfl,kr,_,_,rfl,rfl⟩
theorem E1:qC= .Lambda (Id (qC)) (Ic (qC)) (Ie (qC)) tc:=rfl
noncomputable abbrev Ih:V:=V.lam qt (Id (qC)) (Ic (qC)) (Ie (qC))
theorem yW(B:Base){t:Tg}{rest aF}:ET n (ax 126) (qC) ρ (t.h rest aF) (Ih) (t.h rest aF):=by
 obtain⟨c,hc,hd,_⟩:=oQ;refine J E1 ?_;exact(ET.EG (i:=0) B.rU hc rfl (by intro _;rfl) (by intro _;rfl) B.bm (fun h k=>YG (B.In h k) hd) dc rfl)
theorem yX(B:Base){x}(hz:(kS x).length≤QW)(hp:∀p∈kS x,p.length≤QW):CT (n+1) (Ih) [.str x] [] H (.lst ((kS x).map V.str)) H:=by
 refine CT.lam B.rU.nolimit (fun pm u yo=>Binds.b1 B (fun S v=>by kernel_rfl)) (show [("n":Rj)].Nodup by decide) (by
  intro y hy;simp at hy;subst hy;exact .inl rfl) rfl rfl rfl fun u=> ?_
 refine ET.aQ ET.name (GM.of Ty.str aH.str RH Tq Tp) (ab.cons ET.str (ab.cons ET.int ab.nil)) aL.builtin (CT.vC dc hz hp)
end
theorem Tg.nR{t:Tg} u(aU:live t.lv≠[]):(live (t.qn u).lv).flatten=(if u∈(live t.lv).flatten then(live t.lv).flatten else(live t.lv).flatten++[u])∧live (t.qn u).lv≠[]∧(t.qn u).lv.length=t.lv.length:=by
 unfold Tg.qn;split
 ·exact⟨rfl,aU,rfl⟩
 ·obtain⟨ls,l,ds,ke,hd⟩:=oO aU;dsimp only;rw[ke,eQ _ _ _ hd,jl hd,jl hd];refine⟨by simp,by simp,by simp⟩
theorem Tg.qD{t:Tg}(ok:t.ok) u:(t.qn u).us=if u∈t.us then t.us else t.us++[u]:=by
 unfold Tg.qn;refine bl (fun _=> ?_) fun _=> ?_
 ·rename_i h;rw[if_pos (ok.mem u h)]
 ·rfl
theorem Tg.yY{t:Tg}(ok:t.ok) u(aU:live t.lv≠[])(hx:u≠kD)(hr:t.us.length<100):(t.qn u).ok:=by
 refine⟨fun v hv=> ?_, ?_, ?_, ?_⟩
 ·rw[(t.nR u aU).1] at hv;rw[t.qD ok];split at hv
  ·have:=ok.mem v hv;split
   ·exact this
   ·simp[this]
  ·rcases Q9.mp hv with hv|hv
   ·have:=ok.mem v hv;refine bl (fun _=> ?_) fun _=> ?_
    ·exact this
    ·simp[this]
   ·refine J (QV.mp hv) ?_;split
    ·assumption
    ·simp
 ·rw[t.qD ok];refine bl (fun _=> ?_) fun _=> ?_
  ·exact ok.len
  ·simp;exact AN (len hr)
 ·rw[t.qD ok];refine bl (fun _=> ?_) fun _=> ?_
  ·exact ok.nd
  ·rename_i h;exact Tn.mpr ⟨ok.nd,by simp,fun a ha b hb e=>by rw[QV] at hb;subst hb;subst e;exact h ha⟩
 ·rw[t.qD ok];refine bl (fun _=> ?_) fun _=> ?_
  ·exact ok.AD
  ·intro h;rcases Q9.mp h with h|h
   ·exact ok.AD h
   ·rw[QV] at h;exact hx h.symm
theorem Tg.tu{t:Tg}(ok:t.ok) u(aU:live t.lv≠[]):(t.qn u).us.length≤t.us.length+1∧(live (t.qn u).lv).flatten.length≤(live t.lv).flatten.length+1:=by
 rw[t.qD ok,(t.nR u aU).1];constructor<;>refine bl (fun _=> ?_) (fun _=> ?_)<;>simp
structure Nm where
 q:Rj
 uri:Rj
 tag:Rj
noncomputable def Nm.ok(m:Nm):Prop:=QN m.q m.uri m.tag
noncomputable def c8:List Nm→List Nm
 |[x,y]=>bh (j7 (kS y.q) (kS x.q)) x y
 |l=>l
theorem yZ N:(c8 N).map (·.q)=jb kS (N.map (·.q)):=by
 match N with
 |[]=>rfl
 |[_]=>rfl
 |[x,y]=>
  show(bh _ _ _).map _=bh (j7 (kS y.q) (kS x.q)) x.q y.q;cases j7 (kS y.q) (kS x.q)<;>rfl
 |_::_::_::_=>rfl
noncomputable def Tg.oR(t:Tg)(N:List Nm):Tg:=N.foldl (fun t m=>t.qn m.uri) t
noncomputable def eR(t:Tg):List Nm→List (Rj×V)
 |[]=>[]
 |m::N=>(m.q,mf (bz (t.qn m.uri).us m.uri) m.tag m.uri)::eR (t.qn m.uri) N
theorem y0{k}{x}(h:k∉l.map (·.1)):il l k x=l++[(k,x)]:=by
 unfold il;rw[if_neg];intro hh;obtain⟨p,hp,e⟩:=UB.mp hh;exact h (Q4.mpr ⟨p,hp,by exact of_decide_eq_true e⟩)
section
variable{n:Nat}{H:AH}{F:Fx}{ρ:Loc}
theorem tv(B:Base){rest}:∀N t aF acc,t.ok→(∀m∈N,m.ok)→live t.lv≠[]→(live t.lv).flatten.length+N.length≤200→t.us.length+N.length≤100→(acc.map (·.1)++N.map (·.q)).Nodup→acc.length+N.length≤10→
  ∃jm,rT (n+4+1) (Du (ax 126) (L3 6)) (L3 6) 0 (fun _=>True,fun _=>True) (N.map fun m=>V.str m.q) [("parse_qname", .pm 90 (.ref 2))] acc (t.h rest aF) (acc++eR t N) ((t.oR N).h rest (aF++jm)):=by
 intro rv
 induction rv with
 |nil=>
  intro t aF acc _ _ _ _ _ _ _;exact⟨[],by
   refine J (Ra ..) (J (show eR t []=[] from rfl) (J (Ra ..) ?_));exact rT.nil trivial _ _ (fun _ _ _=>rfl)⟩
 |cons m N ih=>
  intro t aF acc ok hN aU h1 h2 hd hz;simp only[Rn] at h1 h2;obtain⟨seen,hc⟩:=mh B ok (hN m QR) aU (lb h1) (ui h2);have l1:=t.tu ok m.uri aU;obtain⟨jm,ih⟩:=ih (t.qn m.uri) (aF++[some (.sset seen)]) (acc++[(m.q,mf (bz (t.qn m.uri).us m.uri) m.tag m.uri)]) (t.yY ok m.uri aU (hN m QR).nx (ui h2)) (fun x hx=>hN x (QQ _ hx)) (t.nR m.uri aU).2.1 (by lia) (by lia)
   (by simpa using hd) (by simp at hz⊢;exact ik hz)
  refine⟨some (.sset seen)::jm, ?_⟩;refine J (show acc++eR t (m::N)=(acc++[(m.q,mf (bz (t.qn m.uri).us m.uri) m.tag m.uri)])++eR (t.qn m.uri) N from(Rm acc [_] _).symm) (J (show aF++some (AO.sset seen)::jm=(aF++[some (AO.sset seen)])++jm by simp) ?_);exact rT.cons trivial trivial (AT.name (ST.local rfl)) eI.nil ET.name (ET.call ET.name (ab.cons ET.name ab.nil) (aL.pm (EU B)) (CT.pm hc)) (aa rfl ad) (Rv▸ao (lb hz) dc) (by exact J (y0 (fun h=>(Tn.mp hd).2.2 _ h _ QR rfl)) ih) _ (fun _ _ _=>rfl)
end
structure NS(N:List Nm):Prop where
 ok:∀m∈N,m.ok
 kl:∀m∈N,(kS m.q).length≤3
 kp:∀m∈N,∀p∈kS m.q,p.length≤1000
 NA:∀x y,N.map (·.q)=[x,y]→j7 (kS y) (kS x)= !j7 (kS x) (kS y)
 nd:(N.map (·.q)).Nodup
 l1:N≠[]
 l2:N.length≤2
theorem dJ N:(c8 N).Perm N:=by
 match N with
 |[]=>exact .refl _
 |[_]=>exact .refl _
 |[x,y]=>
  show(bh _ _ _).Perm _;cases j7 (kS y.q) (kS x.q)
  ·exact .refl _
  ·exact .swap ..
 |_::_::_::_=>exact .refl _
section
variable{n:Nat}{H:AH}{F:Fx}{ρ:Loc}
theorem BB{y}{line}(E:az F env)(h1:F.names.lookup y=some .local)(h2:(py.line==pos.line)=true)(h3:(scope.names.any fun(n,k)=>n==y&&(k== .local||k== .cell))=false):
  WB (.DictComp kx vx gens scope pos) (some (.Name y py)) line env=pure true:=by
 have hb:env.blockKind= .function:=by unfold Xc;exact J E.kind rfl
 show(pure (env.blockKind== .function&&env.kindOf y==some .local&&py.line==pos.line&& !(scope.names.any fun(n,k)=>n==y&&(k== .local||k== .cell))):Yp Bool)=pure true;refine J hb (J ((be E y).trans h1) (J h2 (J h3 ?_)));rfl
theorem kT{elt}{gens}{scope}{pos py}{y}{line}(E:az F env)(h1:F.names.lookup y=some .local)(h2:(py.line==pos.line)=true)(h3:(scope.names.any fun(n,k)=>n==y&&(k== .local||k== .cell))=false):
  WB (.ListComp elt gens scope pos) (some (.Name y py)) line env=pure true:=by
 have hb:env.blockKind= .function:=by unfold Xc;exact J E.kind rfl
 show(pure (env.blockKind== .function&&env.kindOf y==some .local&&py.line==pos.line&& !(scope.names.any fun(n,k)=>n==y&&(k== .local||k== .cell))):Yp Bool)=pure true;refine J hb (J ((be E y).trans h1) (J h2 (J h3 ?_)));rfl
noncomputable abbrev F7(nn:Nat)(tag:Rj)(eV:List (Rj×V))(qs:List Rj):Loc:=
 [("parse_qname", .pm 90 (.ref 2)),("qattrs", .none),("resolved_names", .bw []),("qnames", .dst qs),("self", .ref 2),("tag", .str tag),("attrs", .bw eV),("new_namespaces", .ref nn),("qname_text", .none)]
theorem tw(B:Base){t}{rest aF}{N}{nn}{tag}{eV}(hN:NS N)(ok:t.ok)(aU:live t.lv≠[])(h1:(live t.lv).flatten.length≤198)(h2:t.us.length≤98):
  ∃jm,XT (n+4+1) (ax 126) (au (bodyOf 126) 6) (F7 nn tag eV (N.map (·.q))) (t.h rest aF) .next (("parsed_qnames", .bw (eR t (c8 N)))::F7 nn tag eV (N.map (·.q))) ((t.oR (c8 N)).h rest (aF++jm)):=by
 have hp:=dJ N;have hl:=hp.length_eq;have d4:=hN.l2;obtain⟨jm,hc⟩:=tv B (c8 N) t aF [] ok (fun m hm=>hN.ok m (hp.mem_iff.mp hm)) aU (by lia) (by lia) (by exact(hp.map (·.q)).nodup_iff.mpr hN.nd) (by simp;exact ao (bC hl) (ao d4 dc));refine⟨jm, ?_⟩;refine XT.yy B.mods (aq.of (dH:=[("parse_qname", .pm 90 (.ref 2))]) rfl (aa rfl ad)) (IT.val (ET.C5 (ET.ay B (jG) jJ) (ab.cons ET.name ab.nil) (yt.cons (yW B) yt.nil) aL.builtin
  (CT.vV (by simpa using hN.l1) (by simpa using d4) (fun x y e=>hN.NA x y e) (fun W v r=>by obtain⟨a,o,u,e,_⟩:=r;exact⟨a,e⟩) (fun x hx=> ?_))) VT.lst) ?_ ?_ (ST.local rfl) (fun env E=>BB E rfl rfl rfl)
 ·obtain⟨m,hm,rfl⟩:=Q4.mp hx;exact yX B (by exact gy (hN.kl m hm)) (fun p hp=>by exact gy (hN.kp m hm p hp))
 ·have e:(jb kS (N.map (·.q))).map V.str=(c8 N).map fun m=>V.str m.q:=by refine aO (yZ ..) (J (Rk ..) ?_);rfl
  exact e▸hc
 ·have:(eR t (c8 N)).length=(c8 N).length:=by
   have:∀N t,(eR t N).length=N.length:=by
    intro N
    induction N with
    |nil=>intro t;rfl
    |cons m N ih=>intro t;exact congrArg Nat.succ (ih _)
   exact this _ _
  exact this▸ao (bC hl) (ao d4 dc)
end
noncomputable def NB:U3:=au (uI (au (bodyOf 126) 7)) 0
noncomputable def AE(us:List Rj)(u:Rj):Rj×Rj:=("xmlns:"++bz us u,u)
section
variable{n:Nat}{H:AH}{F:Fx}{ρ:Loc}
theorem wt(rW:us.length≤100){nn:Nat}{L}(hH:H[nn]?=some (some (.list L))):∀(l:List Rj) acc,(∀u∈l,u.length≤1000)→acc.length+l.length≤100→
  CF n (Du (ax 126) (gK (NB))) (gK (NB)) 0 (fun H=>H[nn]?=some (some (.list L)),fun _=>True) (l.map fun u=>iS (bj us u)) [] acc H (acc++(l.map (AE us)).map ag) H:=by
 intro rv
 induction rv with
 |nil=>
  intro acc _ _;rw[RY,RY,RY,Ra];exact CF.nil hH _ _ (fun _ _ _=>rfl)
 |cons u l ih=>
  intro acc hz hl;refine J (show acc++((u::l).map (AE us)).map ag=(acc++[ag (AE us u)])++(l.map (AE us)).map ag by simp) ?_;have hb:=OB.str (n:=n) (x:=bz us u) (H:=H);rw[show((bz us u).length !=0)=true from by simpa using(du rW).2] at hb;refine CF.cons hH trivial (AT.tuple (aW.cons (AT.name (ST.local rfl)) (aW.cons (AT.name (ST.local rfl)) aW.nil))) eI.nil (ET.tuple (ab.cons (ET.db (TT.value ET.name hb) (fun _=>ET.binop ET.str ET.name (OT.add_str (iF (ao (a9 (bC rfl) (du rW).1) dc)))) (fun h=>by cases h)) (ab.cons ET.name ab.nil)) (show 2≤QW by refine J Rv ?_;decide)) ad (ao (lb hl) dc) (ih (acc++[ag (AE us u)]) (fun v hv=>hz v (QQ _ hv)) (by simp at hl⊢;exact ik hl)) _ (fun _ _ _=>rfl)
theorem BC:typeOf (.builtin "list.sort")=(pure (.type "method_descriptor"):Yp Value):=rfl
noncomputable def DG(us:List Rj)(l:List Rj):List (Rj×Rj):=bX (l.map (AE us))
theorem wu(B:Base){t:Tg}(rW:t.us.length≤100){rest aF}{nn}{l}{gz}(h2:l.length≤2)(hz:∀u∈l,u.length≤1000)(hH:(t.h rest aF)[nn]?=some (some (.list (l.map fun u=>iS (bj t.us u)))))(lJ:gz.lookup ("new_namespaces":Rj)=some (.ref nn)):
  XT n (ax 126) (au (bodyOf 126) 7) gz (t.h rest aF) .next (("attr_list", .ref (t.h rest aF).length)::gz) (t.h rest (aF++[some (.list ((DG t.us l).map ag))])):=by
 have hb:=OB.ah (n:=n) hH;by_cases h0:l=[]
 ·subst h0;refine XT.ite (c:=false) (TT.value (ET.name lJ) hb) (fun h=>by cases h) (fun _=> ?_);have e:t.h rest (aF++[some (.list ((DG t.us []).map ag))])=t.h rest aF++[some (.list [])]:=by refine J (t.j9 ..) ?_;rfl
  exact J e ((af.cons (XT.assign (ET.d9 ab.nil) (bv.one (AT.name (ST.local rfl)))) af.nil))
 ·have sS:OB n (.ref nn) (t.h rest aF) true:=by
   exact(show(!(l.map fun u=>iS (bj t.us u)).isEmpty)=true by cases l with|nil=>exact absurd rfl h0|cons _ _=>rfl)▸hb
  refine XT.ite (TT.value (ET.name lJ) sS) (fun _=> ?_) (fun h=>by cases h);refine af.cons (XT.vW (aq.of rfl ad) (IT.val (ET.name lJ) (VT.ref hH)) (wt rW hH l [] hz (by simp;exact eG h2)) (by simp;exact ao h2 dc) (ST.local rfl) (fun env E=>kT E rfl rfl rfl)) ?_;have hk:(t.h rest aF++[some (AO.list ((l.map (AE t.us)).map ag))])[(t.h rest aF).length]?=some (some (.list ((l.map (AE t.us)).map ag))):=by simp
  have e:(t.h rest aF++[some (AO.list ((l.map (AE t.us)).map ag))]).set (t.h rest aF).length (some (.list ((bX (l.map (AE t.us))).map ag)))=t.h rest (aF++[some (.list ((DG t.us l).map ag))]):=by
   refine J (RF _ _ (QM _)) (J (RU ..) (aO (t.j9 ..) ?_));rfl
  refine aO e ?_;exact af.cons (XT.expr (ET.aQ ET.name (GM.of (Ty.ah hk) (aH.ah hk) Rf Xh BC) ab.nil aL.builtin (CT.yx hk (J (QP ..) h2)))) af.nil
end
noncomputable def gv(ps:List (Rj×Rj)):List (Rj×V):=ps.map fun p=>(p.1,V.str p.2)
noncomputable abbrev Ii(K nn:Nat)(PD:List (Rj×V))(tag:Rj)(eV:List (Rj×V))(qs:List Rj):Loc:=("attr_list", .ref K)::("parsed_qnames", .bw PD)::F7 nn tag eV qs
section
variable{n:Nat}{H:AH}{F:Fx}{ρ:Loc}
theorem ty(B:Base){t:Tg}{rest aF}{nn}{tag}{ps A}{qs}{PD}{pt:Rj×Rj→Rj×Rj×Rj}(h1:ps.length≤1)(hA:A.length≤10)
  (hl:∀p∈ps,p.1.length≤1000∧p.2.length≤1000∧PD.lookup p.1=some (mf (pt p).1 (pt p).2.1 (pt p).2.2)∧(pt p).2.2.length≠0):
  XT (n+1) (ax 126) (au (bodyOf 126) 8) (Ii (t.h rest aF).length nn PD tag (gv ps) qs) (t.h rest (aF++[some (.list (A.map ag))])) .next (Ii (t.h rest aF).length nn PD tag (gv ps) qs)
   (t.h rest (aF++[some (.list ((A++ps.map fun p=>((pt p).1++":"++(pt p).2.1,p.2)).map ag))])):=by
 have hs:=Rv;have hb:=OB.dict (n:=n+1) (H:=t.h rest (aF++[some (.list (A.map ag))])) (aV.bw (l:=gv ps))
 match ps,h1 with
 |[],_=>
  exact J (RY ..) (J (Ra ..) ((XT.ite (c:=false) (TT.value (ET.name rfl) hb) (fun h=>by cases h) (fun _=>af.nil))))
 |[p],_=>
  refine QK fun kG=> ?_;obtain⟨z1,z2,kJ,hu⟩:=hl p QR;refine kG ?_;refine XT.ite (c:=true) (TT.value (ET.name rfl) hb) (fun _=>af.cons (XT.for (IT.val (ET.call (ET.ay B (jG) jJ)
   (ab.cons (ET.aQ (ET.name rfl) (GM.of Ty.bw aH.bw SO UL UJ) ab.nil aL.builtin (CT.view aV.bw)) ab.nil) aL.builtin
   (CT.sV aV.bw (Sh _) (by intro q hq;rw[QV] at hq;cases hq;exact eG z1))) VT.lst) ?_) af.nil) (fun h=>by cases h)
  let K:=(t.h rest aF).length;have Ij:(t.h rest (aF++[some (.list (A.map ag))]))[K]?=some (some (.list (A.map ag))):=by refine aO (t.j9 ..) ?_;simp[K]
  have jP:(t.h rest (aF++[some (.list (A.map ag))])).set K (some (.list (A.map ag++[ag ((pt p).1++":"++(pt p).2.1,p.2)])))=t.h rest (aF++[some (.list ((A++[((pt p).1++":"++(pt p).2.1,p.2)]).map ag))]):=by
   refine aO (t.j9 ..) (aO (t.j9 ..) (J (RF _ _ (QM _)) (J (RU ..) ?_)));simp
  have NC:=OB.str (n:=n+1) (x:=(pt p).2.2) (H:=t.h rest (aF++[some (.list (A.map ag))]));rw[show((pt p).2.2.length !=0)=true from by simpa using hu] at NC;refine XF.cons (cU:=("uri",V.str (pt p).2.2)::("attr_name", .str (pt p).2.1)::("attr_qname", .str ((pt p).1++":"++(pt p).2.1))::("v", .str p.2)::("k", .str p.1)::Ii K nn PD tag (gv [p]) qs)
   trivial trivial (AT.tuple (aW.cons (AT.name (ST.local rfl)) (aW.cons (AT.name (ST.local rfl)) aW.nil))) ?_ (XF.nil trivial (af.sub af.nil (aa rfl (aa rfl (aa rfl (aa rfl (aa rfl (aa rfl (aa rfl (aa rfl (aa rfl (aa rfl (aa rfl ad)))))))))))))
  refine af.cons (XT.ite (TT.bn (aJ.and_false (TT.cmp (ET.name rfl) ET.none (OT.isNot_none (b:=true) (fun _ _ r=>by cases r;rfl))))) (fun h=>by cases h) (fun _=>af.nil)) (af.cons (XT.assign (ET.sub (ET.name rfl) (ET.name rfl) Ty.bw Vs.lookup (OT.item_dict aV.bw kJ)) (bv.one (AT.tuple (aW.cons (AT.name (ST.local rfl)) (aW.cons (AT.name (ST.local rfl)) (aW.cons (AT.name (ST.local rfl)) aW.nil)))))) ?_);refine aO jP ?_;exact af.cons (XT.expr (ET.aQ (ET.name rfl) (GM.of (Ty.ah Ij) (aH.ah Ij) Rf St RB)
   (ab.cons (ET.tuple (ab.cons (ET.db (TT.value (ET.name rfl) NC) (fun _=>ET.name rfl) (fun h=>by cases h)) (ab.cons (ET.name rfl) ab.nil)) (show 2≤QW by refine J hs ?_;decide)) ab.nil) aL.builtin (CT.append Ij (by refine J (QP ..) (J (hs ..) ?_);exact Kc hA)))) af.nil
 |_::_::_,h1=>simp at h1
end
theorem qE(h:x.length≤40):(d8 x).length≤1859760:=by
 have l4:(ar (ar (ar (ar x "&" "&amp;") "<" "&lt;") "\"" "&quot;") "\t" "&#x9;").length≤51659:=bf (show(ar (ar (ar x "&" "&amp;") "<" "&lt;") "\"" "&quot;").length≤8609 from bf (show(ar (ar x "&" "&amp;") "<" "&lt;").length≤1229 from bf (show(ar x "&" "&amp;").length≤245 from bf h (b:=5) dc dc) (b:=4) dc dc) (b:=6) dc dc) (b:=5) dc dc;exact bf (show(ar (ar (ar (ar (ar x "&" "&amp;") "<" "&lt;") "\"" "&quot;") "\t" "&#x9;") "\n" "&#xA;").length≤309959 from bf l4 (b:=5) dc dc) (b:=5) dc dc
noncomputable def fG(p:Rj×Rj):Rj:=" "++p.1++"=\""++d8 p.2++"\""
theorem y1(h1:p.1.length≤2000)(h2:p.2.length≤40):(fG p).length≤1900000:=by
 delta fG
 simp only[Q7];exact ao (a9 (a9 (a9 (a9 (bC rfl) h1) (bC rfl)) (qE h2)) (bC rfl)) dc
noncomputable def fE:SD:=cL 0 (cL 0 (gK (au (uI (au (bodyOf 126) 13)) 0)))
section
variable{n:Nat}{H:AH}{F:Fx}{ρ:Loc}
theorem wv(B:Base){K:Nat}{L}(hH:H[K]?=some (some (.list L))):∀(A:List (Rj×Rj)) acc,(∀p∈A,p.1.length≤2000∧p.2.length≤40)→acc.length+A.length≤100→
  CF (n+1) (Du (ax 126) (fE)) (fE) 0 (fun H=>H[K]?=some (some (.list L)),fun _=>True) (A.map ag) [] acc H (acc++(A.map fG).map V.str) H:=by
 intro rv
 induction rv with
 |nil=>
  intro acc _ _;rw[RY,RY,RY,Ra];exact CF.nil hH _ _ (fun _ _ _=>rfl)
 |cons p A ih=>
  intro acc hz hl;have hs:=Rv;have ih:=ih (acc++[.str (fG p)]) (fun v hv=>hz v (QQ _ hv)) (by simp at hl⊢;exact ik hl);refine J (show acc++((p::A).map fG).map V.str=(acc++[.str (fG p)])++(A.map fG).map V.str by simp) ?_;obtain⟨z1,z2⟩:=hz p QR;have z3:=qE z2;have e1:(" ":Rj).length=1:=rfl;have e2:("=\"":Rj).length=2:=rfl;have e3:("\"":Rj).length=1:=rfl;refine CF.cons hH trivial (AT.tuple (aW.cons (AT.name (ST.local rfl)) (aW.cons (AT.name (ST.local rfl)) aW.nil))) eI.nil (ET.AV (FP.cons ET.str (FP.cons (ET.pW ET.name) (FP.cons ET.str (FP.cons (ET.pW (ET.call (ET.globK B (fY)) (ab.cons ET.name ab.nil) (aL.def (Dg B)) (HW B z2))) (FP.cons ET.str FP.nil ?_) ?_) ?_) ?_) ?_) ?_) ad (ao (lb hl) dc) ih _ (fun _ _ _=>rfl)
  all_goals (refine((show VR++" "=" " from rfl)).symm▸ ?_;(try simp only[Q7]);lia)
end
noncomputable def cW(us:List Rj)(m:Nm)(A:List (Rj×Rj)):List Rj:=
 ["<"++(bz us m.uri++":"++m.tag)]++(if A=[] then [] else [R9 "" (A.map fG)])++[(">":Rj)]
noncomputable def spS:Rj:="{http://www.w3.org/XML/1998/namespace}space"
theorem Ik j:(hx told rs rd ig data ex decl H7 pm ps T)[11+j]?=T[j]?:=J (SK ..) rfl
theorem Tg.qF(t:Tg)(rest aF:AH):(t.h rest aF).length=11+(rest++(fo t.us t.lv++aF)).length:=by
 show(rest++(fo t.us t.lv++aF)).length+11=_;exact MM
section
variable{n:Nat}{H:AH}{F:Fx}{ρ:Loc}
theorem tz(B:Base){t:Tg}{rest aF}{nn}{m}{ps A}{qs}{PD}(hA:A.length≤3)(hz:∀p∈A,p.1.length≤2000∧p.2.length≤40)(rW:t.us.length≤100)(QE:m.tag.length≤1000)
  (kJ:PD.lookup m.q=some (mf (bz t.us m.uri) m.tag m.uri)) (oT:(gv ps).lookup spS=none) (hk:1≤t.k) (pH:t.k≤1000) (mn:t.told.length≤2000):
  af (n+2) (ax 126) ((bodyOf 126).drop 9) (Ii (t.h rest aF).length nn PD m.q (gv ps) qs) (t.h rest (aF++[some (.list (A.map ag))])) .next []
   (({t with told:=t.told++cW t.us m A,rs:=true,k:=t.k+1}:Tg).h rest (aF++[some (.list (A.map ag))])):=by
 have hs:=Rv;let tm:AH:=aF++[some (.list (A.map ag))];let K:=(t.h rest aF).length;obtain⟨k,H9⟩:∃k,t.k=k+1:=⟨t.k-1,by exact MQ hk⟩;have qe:=(du (u:=m.uri) rW).1;refine af.cons (XT.assign (ET.aQ ET.name (GM.of Ty.bw aH.bw SO Yt Yr) (ab.cons ET.str ab.nil) aL.builtin (CT.get_none aV.bw oT)) (bv.one (AT.name (ST.local rfl)))) ?_;have pI:(t.h rest tm)[10]?=some (some (.list (Q3 k (.bool false)++[.bool false]))):=by
  show some (some (AO.list (Q3 t.k (.bool false))))=_;rw[H9,eJ]
 refine af.cons (XT.expr (ET.aQ (xs:=[.bool false]) (ET.attr ET.name (GA.t B rfl (uM))) (GM.of (Ty.ah pI) (aH.ah pI) Rf St RB)
  (ab.cons (ET.db (TT.value ET.name OB.none) (fun h=>by cases h) (fun _=>ET.sub (ET.attr ET.name (GA.t B rfl (uM))) (ET.unary ET.int j1.neg) (Ty.ah pI) Rp.lookup (OT.de (i:=k) pI (by simp;lia) (by simp)))) ab.nil) aL.builtin (CT.append pI (by simp;exact elt (lg H9) (elt pH dc))))) ?_
 have Pu:(t.h rest tm).set 10 (some (.list (Q3 k (.bool false)++[.bool false]++[.bool false])))=hx (t.told.map V.str) t.rs t.rd t.ig (t.data.map V.str) t.ex ((ir t.us (11+rest.length) t.lv).map fun p=>V.ref p.1) (Q3 t.k (.lst [])) (iT t.us) (Q3 (t.k+1) (.bool false)) (rest++(fo t.us t.lv++tm)):=by
  refine aO (eJ ..) (aO (H9 ..) (aO (eJ ..) ?_));rfl
 refine J Pu ?_;let T:AH:=rest++(fo t.us t.lv++tm);let decl:=(ir t.us (11+rest.length) t.lv).map fun p=>V.ref p.1;have L4:∀told rs(H7 ps:List V),(hx told rs t.rd t.ig (t.data.map V.str) t.ex decl H7 (iT t.us) ps T)[K]?=some (some (.list (A.map ag))):=fun told rs H7 ps=>by
  show(hx _ _ _ _ _ _ _ _ _ _ _)[(t.h rest aF).length]?=_;refine J (t.qF ..) (J (Ik ..) ?_);show(rest++(fo t.us t.lv++(aF++[_])))[_]?=_;rw[show rest++(fo t.us t.lv++(aF++[some (AO.list (A.map ag))]))=(rest++(fo t.us t.lv++aF))++[some (AO.list (A.map ag))] by simp];exact dX
 refine af.cons (XT.assign (ET.attr ET.name (GA.tX B rfl rfl rfl (me))) (bv.one (AT.name (ST.local rfl)))) ?_;have ce:("<":Rj).length=1:=rfl;have gi:=fB (bz t.us m.uri) m.tag;refine af.cons (XT.expr (ET.call ET.name (ab.cons (ET.binop ET.str (ET.sub (ET.sub ET.name ET.name Ty.bw Vs.lookup (OT.item_dict aV.bw kJ)) ET.int Ty.tup R6.lookup (OT.item_tup (i:=0) rfl rfl)) (OT.add_str (by lia))) ab.nil) aL.bm
  (CT.fw rfl (J (QP ..) (As mn))))) ?_
 let cC:List Rj:=t.told++["<"++(bz t.us m.uri++":"++m.tag)];let gl:List Rj:=cC++(if A=[] then [] else [R9 "" (A.map fG)]);have iH:(hx (t.told.map V.str) t.rs t.rd t.ig (t.data.map V.str) t.ex decl (Q3 t.k (.lst [])) (iT t.us) (Q3 (t.k+1) (.bool false)) T).set 1 (some (.list (t.told.map V.str++[V.str ("<"++(bz t.us m.uri++":"++m.tag))])))=hx (cC.map V.str) t.rs t.rd t.ig (t.data.map V.str) t.ex decl (Q3 t.k (.lst [])) (iT t.us) (Q3 (t.k+1) (.bool false)) T:=by exact aO (show t.told.map V.str++[V.str ("<"++(bz t.us m.uri++":"++m.tag))]=cC.map V.str by simp[cC]) rfl
 refine J iH ?_;have hb:=OB.ah (n:=n+2) (L4 (cC.map V.str) t.rs (Q3 t.k (.lst [])) (Q3 (t.k+1) (.bool false)));let JT:Loc:=("write", .bm "list.append" (.ref 1))::("space_behaviour", .none)::Ii K nn PD m.q (gv ps) qs;refine af.cons (am:=JT) (H1:=hx (gl.map V.str) t.rs t.rd t.ig (t.data.map V.str) t.ex decl (Q3 t.k (.lst [])) (iT t.us) (Q3 (t.k+1) (.bool false)) T) ?_ ?_
 ·by_cases h0:A=[]
  ·refine J (show gl=cC by simp[gl,h0]) ?_;have sS:OB (n+2) (.ref K) (hx (cC.map V.str) t.rs t.rd t.ig (t.data.map V.str) t.ex decl (Q3 t.k (.lst [])) (iT t.us) (Q3 (t.k+1) (.bool false)) T) false:=by
    have:=hb;rw[(show(!(A.map ag).isEmpty)=false by exact J h0 rfl)] at this;exact this
   exact XT.ite (TT.value ET.name sS) (fun h=>by cases h) (fun _=>af.nil)
  ·have sS:OB (n+2) (.ref K) (hx (cC.map V.str) t.rs t.rd t.ig (t.data.map V.str) t.ex decl (Q3 t.k (.lst [])) (iT t.us) (Q3 (t.k+1) (.bool false)) T) true:=by
    have e:(!(A.map ag).isEmpty)=true:=by cases A with|nil=>exact absurd rfl h0|cons _ _=>rfl
    exact e▸hb
   have BD:((A.map fG).map (·.length)).sum+(A.map fG).length*("":Rj).length≤16777216:=by
    have hq:∀(A:List (Rj×Rj)),(∀p∈A,p.1.length≤2000∧p.2.length≤40)→((A.map fG).map (·.length)).sum≤A.length*1900000:=by
     intro A
     induction A with
     |nil=>intro _;decide
     |cons p A ih=>
      intro h;have h1:=ih fun q hq=>h q (QQ _ hq);have h2:=y1 (h p (by simp)).1 (h p (by simp)).2;simp only[Q8,TB,Rn];lia
    have:=hq A hz;refine J (show("":Rj).length=0 from rfl) ?_;lia
   have Lk:(hx (cC.map V.str) t.rs t.rd t.ig (t.data.map V.str) t.ex decl (Q3 t.k (.lst [])) (iT t.us) (Q3 (t.k+1) (.bool false)) T).set 1 (some (.list (cC.map V.str++[V.str (R9 "" (A.map fG))])))=hx (gl.map V.str) t.rs t.rd t.ig (t.data.map V.str) t.ex decl (Q3 t.k (.lst [])) (iT t.us) (Q3 (t.k+1) (.bool false)) T:=by
    rw[(show gl=cC++[R9 "" (A.map fG)] by simp[gl,h0]),show(cC++[R9 "" (A.map fG)]).map V.str=cC.map V.str++[V.str (R9 "" (A.map fG))] from Rc];rfl
   refine aO Lk ?_;refine XT.ite (TT.value ET.name sS) (fun _=>af.cons (XT.expr (ET.call ET.name (ab.cons (ET.aQ ET.str
    (GM.of Ty.str aH.str RH V9 V8) (ab.cons (ET.cK (aq.of rfl ad) (IT.val ET.name (VT.ref (L4 (cC.map V.str) t.rs (Q3 t.k (.lst [])) (Q3 (t.k+1) (.bool false))))) (wv B (L4 (cC.map V.str) t.rs (Q3 t.k (.lst [])) (Q3 (t.k+1) (.bool false))) A [] hz (by simp;exact eG hA)) (by simp;exact gy hA)) ab.nil) aL.builtin (CT.join (joinOk_of BD) (joinOk_length (joinOk_of BD)))) ab.nil) aL.bm
    (CT.fw rfl (by simp[cC];exact FT (elt mn dc))))) af.nil) (fun h=>by cases h)
 let qG:List Rj:=gl++[(">":Rj)];have d4:gl.length≤t.told.length+2:=by
  refine J QS ?_;have:cC.length=t.told.length+1:=by simp[cC]
  refine bl (fun _=> ?_) (fun _=> ?_)<;>simp<;>lia
 refine af.cons (XT.expr (ET.call ET.name (ab.cons ET.str ab.nil) aL.bm (CT.fw rfl (by refine J (QP ..) ?_;exact elt d4 (FT (elt mn dc)))))) ?_;have Lm:(hx (gl.map V.str) t.rs t.rd t.ig (t.data.map V.str) t.ex decl (Q3 t.k (.lst [])) (iT t.us) (Q3 (t.k+1) (.bool false)) T).set 1 (some (.list (gl.map V.str++[V.str ">"])))=hx (qG.map V.str) t.rs t.rd t.ig (t.data.map V.str) t.ex decl (Q3 t.k (.lst [])) (iT t.us) (Q3 (t.k+1) (.bool false)) T:=by
  exact J (show qG.map V.str=gl.map V.str++[V.str ">"] from Rc) rfl
 refine J Lm (af.cons (XT.ite (c:=false) (TT.cmp ET.name ET.none (OT.isNot_none (b:=true) (fun _ _ r=>by cases r;rfl))) (fun h=>by cases h) (fun _=>af.nil)) ?_);refine af.cons (XT.lO (d:=3) rfl wm (XT.assign ET.bool (bv.one (AT.attr (dr B) (ET.name rfl) rfl rfl (Bz) (show 17≤100 by decide))))) (af.cons (XT.expr (ET.aQ (ET.attr ET.name (GA.tX B rfl rfl rfl (td))) (GM.of (Ty.ah rfl) (aH.ah rfl) Rf St RB) (ab.cons (ET.list ab.nil) ab.nil) aL.builtin (CT.append rfl (by refine J Y0 ?_;exact As pH)))) ?_);have nf:(hx (qG.map V.str) true t.rd t.ig (t.data.map V.str) t.ex decl (Q3 t.k (.lst [])) (iT t.us) (Q3 (t.k+1) (.bool false)) T).set 8 (some (.list (Q3 t.k (.lst [])++[.lst []])))=({t with told:=t.told++cW t.us m A,rs:=true,k:=t.k+1}:Tg).h rest (aF++[some (.list (A.map ag))]):=by
  refine J ((show qG=t.told++cW t.us m A by simp only[qG,gl,cC,cW,Rm]) ..) (aO (eJ ..) ?_);rfl
 exact J nf ((af.sub af.nil ad))
end
noncomputable def news(Fl:List Rj):List Nm→List Rj
 |[]=>[]
 |m::N=>if m.uri∈Fl then news Fl N else m.uri::news (Fl++[m.uri]) N
theorem fH{A:List Rj}:news A (m::N)=if m.uri∈A then news A N else m.uri::news (A++[m.uri]) N:=rfl
theorem jo N:∀Fl,(news Fl N).length≤N.length:=by
 induction N with
 |nil=>intro _;exact QM _
 |cons m N ih=>
  intro Fl;rw[fH];refine bl (fun _=> ?_) fun _=> ?_
  ·exact RV (ih _)
  ·exact TE (ih _)
theorem news_mem N:∀Fl,∀u∈news Fl N,∃m∈N,m.uri=u:=by
 induction N with
 |nil=>intro _ u h;cases h
 |cons m N ih=>
  intro Fl u h;rw[fH] at h;revert h;refine bl (fun _ h=> ?_) fun _ h=> ?_
  ·obtain⟨x,h1,h2⟩:=ih _ u h;exact⟨x,by simp[h1],h2⟩
  ·rcases QX.mp h with rfl|h
   ·exact⟨m,by simp,rfl⟩
   ·obtain⟨x,h1,h2⟩:=ih _ u h;exact⟨x,by simp[h1],h2⟩
theorem Tg.oU(ls:List (Option (List Rj))):∀N(t:Tg) l,t.lv=ls++[some l]→(t.oR N).lv=ls++[some (l++news (live t.lv).flatten N)]:=by
 intro rv
 induction rv with
 |nil=>
  intro t l h;exact J (show news _ []=[] from rfl) (J (Ra ..) ((h)))
 |cons m N ih=>
  intro t l h;show((t.qn m.uri).oR N).lv=_;rw[fH];refine bl (fun _=> ?_) fun _=> ?_
  ·rename_i hm;have e:t.qn m.uri=t:=by unfold Tg.qn;rw[if_pos hm]
   exact J e ((ih t l h))
  ·rename_i hm;have e:(t.qn m.uri).lv=ls++[some (l++[m.uri])]:=by
    unfold Tg.qn;refine J (if_neg hm) ?_;dsimp only;exact J h ((eQ _ l [] (fun _ h=>by cases h) ls))
   have aU:live t.lv≠[]:=by refine J (h ..) (J (b6 ..) ?_);simp[live]
   have e2:=(t.nR m.uri aU).1;rw[if_neg hm] at e2;rw[ih (t.qn m.uri) (l++[m.uri]) e,e2];simp
theorem Tg.tB:∀N(t:Tg),∃r,(t.oR N).us=t.us++r∧r.length≤N.length:=by
 intro rv
 induction rv with
 |nil=>
  intro t;exact⟨[],by rw[Ra];rfl,QM _⟩
 |cons m N ih=>
  intro t;obtain⟨r,e,hl⟩:=ih (t.qn m.uri);have h:∃r',(t.qn m.uri).us=t.us++r'∧r'.length≤1:=by
   unfold Tg.qn;refine bl (fun _=> ?_) fun _=> ?_
   ·exact⟨[],by simp,by simp⟩
   ·dsimp only;refine bl (fun _=> ?_) fun _=> ?_
    ·exact⟨[],by simp,by simp⟩
    ·exact⟨[m.uri],rfl,by simp⟩
  obtain⟨r',e',nE⟩:=h;exact⟨r'++r,by show((t.qn m.uri).oR N).us=_;rw[e,e',Rm],by simp;exact vy (a9 hl nE)⟩
theorem kU{u}(h:u∈us):bz (us++r) u=bz us u:=by unfold bz;rw[U4,if_pos h]
theorem Tg.BE{t:Tg}{N}{u}(h:u∈t.us):bz (t.oR N).us u=bz t.us u:=by
 obtain⟨r,e,_⟩:=Tg.tB N t;rw[e,kU h]
theorem Tg.E2:∀N(t:Tg),t.ok→live t.lv≠[]→(∀m∈N,m.uri≠kD)→t.us.length+N.length≤100→(t.oR N).ok:=by
 intro rv
 induction rv with
 |nil=>
  intro t ok _ _ _;exact ok
 |cons m N ih=>
  intro t ok aU hx hl;exact ih (t.qn m.uri) (t.yY ok m.uri aU (hx m QR) (ui hl)) (t.nR m.uri aU).2.1 (fun x h=>hx x (QQ _ h)) (ao (AM (a9 ((t.tu ok m.uri aU).1) (QM _))) hl)
theorem Tg.BF(t:Tg) u:(t.qn u).told=t.told∧(t.qn u).data=t.data∧(t.qn u).ex=t.ex∧(t.qn u).rs=t.rs∧(t.qn u).rd=t.rd∧(t.qn u).ig=t.ig∧(t.qn u).k=t.k:=by
 unfold Tg.qn;refine bl (fun _=> ?_) (fun _=> ?_)<;>exact⟨rfl,rfl,rfl,rfl,rfl,rfl,rfl⟩
theorem Tg.qH:∀N(t:Tg),(t.oR N).told=t.told∧(t.oR N).data=t.data∧(t.oR N).ex=t.ex∧(t.oR N).rs=t.rs∧(t.oR N).rd=t.rd∧(t.oR N).ig=t.ig∧(t.oR N).k=t.k:=by
 intro rv
 induction rv with
 |nil=>
  intro t;exact⟨rfl,rfl,rfl,rfl,rfl,rfl,rfl⟩
 |cons m N ih=>
  intro t;refine QK fun kG=> ?_;obtain⟨a,b,c,d,e,f,g⟩:=ih (t.qn m.uri);obtain⟨a',b',c',d',e',f',g'⟩:=t.BF m.uri;exact kG (⟨a.trans a',b.trans b',c.trans c',d.trans d',e.trans e',f.trans f',g.trans g'⟩)
theorem ww:∀N t m,t.ok→live t.lv≠[]→(∀m∈N,m.uri≠kD)→t.us.length+N.length≤100→(N.map (·.q)).Nodup→m∈N→(eR t N).lookup m.q=some (mf (bz (t.oR N).us m.uri) m.tag m.uri):=by
 intro N
 induction N with
 |nil=>intro t m _ _ _ _ _ hm;cases hm
 |cons x N ih=>
  intro t m ok aU hx hl hd hm;rw[Q8,Sa] at hd;show((x.q,_)::eR (t.qn x.uri) N).lookup m.q=some (mf (bz ((t.qn x.uri).oR N).us m.uri) m.tag m.uri);refine J lookup_cons ?_;rcases QX.mp hm with rfl|hm
  ·rw[if_pos rfl,Tg.BE (t.EZ ok m.uri)]
  ·exact(if_neg (show m.q≠x.q from fun e=>hd.1 (e▸Q4.mpr ⟨m,hm,rfl⟩)))▸ih (t.qn x.uri) m (t.yY ok x.uri aU (hx x QR) (ui hl)) (t.nR x.uri aU).2.1 (fun y h=>hx y (QQ _ h)) (ao (AM (a9 ((t.tu ok x.uri aU).1) (QM _))) hl) hd.2 hm
section
variable{n:Nat}{H:AH}{F:Fx}{ρ:Loc}
theorem Binds.Pv(B:Base){fd}{a b c d e}{x y z u o}{dv}(h:∀S(v1 v2 v3 v4:Value),V2 (KK) S (Sn fd ⟨[v1,v2,v3,v4],[]⟩)=some [(a,v1),(b,v2),(c,v3),(d,v4),(e,dv)])(hz:∀W,Rel W o dv):Binds fd [x,y,z,u] [] [(a,x),(b,y),(c,z),(d,u),(e,o)]:=fun hp W vs kv k r rn=>by
 cases rn;obtain⟨v1,r1,rfl,q1,r⟩:=r;obtain⟨v2,v3,v4,rfl,q2,q3,q4⟩:=r.three;exact⟨_,Uj (B.In hp k) (h _ v1 v2 v3 v4),v1,_,rfl,q1,v2,_,rfl,q2,v3,_,rfl,q3,v4,_,rfl,q4,dv,_,rfl,hz W,rfl⟩
end
theorem y2 od(h:lookIn ("_qname":Rj) od=some none):findObj (KK) 150 (some od) "_qname"=some (.bind (.builtin "function.__get__") (.ref 90)):=by
 obtain⟨cd,Gz⟩:∃cd,clsIn (KK) 150=some cd:=⟨_,rfl⟩;have h6:Z0 cd (some od) "_qname"=some none:=by delta Z0;refine bl (fun _=> ?_) (fun _=> ?_)<;>first|exact h|rfl
 delta findObj
 refine J Gz ?_;rw[Vh,qw,Vh];dsimp only;rw[show specialIn (KK) (.ref 90) "__get__"=some (some (.builtin "function.__get__")) from rfl,Vh];dsimp only;rw[show takesIn (KK) (.ref 90)=some false from rfl,Vh];dsimp only;rw[h6,Vh];exact if_neg fun q=>Ry ((Q5 ..).mp q).1
noncomputable def Il(us:List Rj):List (Nm×Rj)→Rj×Rj×Rj
 |a::_=>(bz us a.1.uri,a.1.tag,a.1.uri)
 |[]=>("","","")
theorem BG{eV}(h1:eV.length≤1){a}(ha:a∈eV):Il us eV=(bz us a.1.uri,a.1.tag,a.1.uri):=by
 match eV,h1,ha with
 |[b],_,ha=>exact(QV.mp ha)▸rfl
 |_::_::_,h,_=>simp at h
theorem wx(h:p∈bX L):p∈L:=by
 match L with
 |[]=>exact h
 |[_]=>exact h
 |[x,y]=>
  have h:p∈bh (oI y x) x y:=h
  delta bh at h
  revert h;refine bl (fun _ h=> ?_) fun _ h=> ?_
  ·simp at h⊢;exact h.symm
  ·exact h
 |_::_::_::_=>exact h
noncomputable def Tg.DH(t:Tg)(m0:Nm)(eV:List (Nm×Rj)):Tg:=
 let tq:=t.oR (c8 (m0::eV.map (·.1)))
 {tq with told:=t.told++cW tq.us m0 (DG tq.us (news (live t.lv).flatten (c8 (m0::eV.map (·.1))))++eV.map fun a=>(bz tq.us a.1.uri++":"++a.1.tag,a.2)),rs:=true,k:=t.k+1}
structure Op m0(eV:List (Nm×Rj)):Prop where
 ns:NS (m0::eV.map (·.1))
 Pw:∀m∈m0::eV.map (·.1),m.uri.length≤40
 L5:∀a∈eV,a.2.length≤40∧a.1.uri.length≠0
 sp:∀a∈eV,a.1.q≠spS
 l1:eV.length≤1
section
variable{n:Nat}{H:AH}{F:Fx}{ρ:Loc}
theorem qI(B:Base){t:Tg}{rest}{ls}{m0}{eV}(O:Op m0 eV)(ok:t.ok)(ke:t.lv=ls++[some []])(h1:(live t.lv).flatten.length≤198)(h2:t.us.length≤98)(hk:1≤t.k)(pH:t.k≤1000)(mn:t.told.length≤2000):
  ∃jm,CT (n+4+1+1) (.st (.ref 126)) [.ref 2, .str m0.q, .bw (gv (eV.map fun a=>(a.1.q,a.2))), .ref (11+rest.length+ls.length)] [] (t.h rest []) .none ((t.DH m0 eV).h rest jm):=by
 have aU:live t.lv≠[]:=by refine J (ke ..) (J (b6 ..) ?_);simp[live]
 let N:List Nm:=m0::eV.map (·.1);have hN:NS N:=O.ns;have hp:=dJ N;let tq:=t.oR (c8 N);let ps:List (Rj×Rj):=eV.map fun a=>(a.1.q,a.2);have hlen:=hp.length_eq▸hN.l2;refine QK fun kG=> ?_;obtain⟨r,rW,hr⟩:=Tg.tB (c8 N) t;refine kG ?_;have JU:tq.us.length≤100:=by refine J rW (J QS ?_);lia
 let l:=news (live t.lv).flatten (c8 N);have Px:tq.lv=ls++[some l]:=by
  exact(Tc ..)▸(Tg.oU ls (c8 N) t [] ke)
 have Bx:l.length≤2:=QU (jo _ _) hlen;have Im:∀u∈l,u.length≤40:=fun u hu=>by
  obtain⟨m,hm,rfl⟩:=news_mem _ _ u hu;exact O.Pw m (hp.mem_iff.mp hm)
 refine QK fun kG=> ?_;obtain⟨c,hc,hd,oc,vs,EB,Ll⟩:=oQ;obtain⟨BH,h6⟩:=tw B hN ok aU h1 h2;refine kG ?_;have Ho:N.map (·.q)=m0.q::(gv ps).map (·.1):=by simp[N,gv,ps]
 have AF:=fun m hm=>ww (c8 N) t m ok aU (fun m hm=>(hN.ok m (hp.mem_iff.mp hm)).nx) (ao (a9 h2 hlen) dc) ((hp.map (·.q)).nodup_iff.mpr hN.nd) (hp.mem_iff.mpr hm);let A0:=DG tq.us l;have ND:A0.length=l.length:=by show(bX _).length=_;rw[jC,QP]
 let pt:Rj×Rj→Rj×Rj×Rj:=fun _=>Il tq.us eV;have NE:∀a∈eV,∀p,pt p=(bz tq.us a.1.uri,a.1.tag,a.1.uri):=fun a ha p=>BG O.l1 ha;have Py:ps.map (fun p=>((pt p).1++":"++(pt p).2.1,p.2))=eV.map fun a=>(bz tq.us a.1.uri++":"++a.1.tag,a.2):=by
  exact Rk.trans (RD fun a ha=>by show((pt (a.1.q,a.2)).1++":"++(pt (a.1.q,a.2)).2.1,a.2)=_;exact J (NE a ha (a.1.q,a.2)) rfl)
 let A:=A0++eV.map fun a=>(bz tq.us a.1.uri++":"++a.1.tag,a.2);refine QK fun kG=> ?_;obtain⟨r1,r2,r3,r4,r5,r6,r7⟩:=Tg.qH (c8 N) t;refine kG ?_;have h7:=wu (n:=n+4+1) B JU (gz:=("parsed_qnames", .bw (eR t (c8 N)))::F7 (11+rest.length+ls.length) m0.q (gv ps) (N.map (·.q))) Bx (fun u hu=>QU (Im u hu) dc) (Tg.kQ Px rest BH) rfl;have h8:=ty (n:=n+4) B (t:=tq) (rest:=rest) (aF:=BH) (nn:=11+rest.length+ls.length) (tag:=m0.q) (ps:=ps) (qs:=N.map (·.q)) (pt:=pt) (J (QP ..) O.l1) (ao (bC ND) (ao Bx dc)) (fun p sQ=>by
  obtain⟨a,ha,rfl⟩:=Q4.mp sQ;have y3:a.1∈N:=QQ _ (Q4.mpr ⟨a,ha,rfl⟩);exact J (NE a ha (a.1.q,a.2)) ((⟨(hN.ok a.1 y3).ql,QU (O.L5 a ha).1 dc,AF a.1 y3,(O.L5 a ha).2⟩)))
 rw[Py] at h8;have h9:=tz (n:=n+3) B (rest:=rest) (aF:=BH) (nn:=11+rest.length+ls.length) (ps:=ps) (A:=A) (qs:=N.map (·.q)) (by refine J (QS ..) (J (QP ..) (J (ND ..) ?_));have:=O.l1;exact ao (a9 Bx this) dc) (fun p sQ=> ?_) JU (hN.ok m0 (QR ..)).tl (AF m0 (QR ..)) ?_ (J r7 hk) (by exact J r7 pH) (r1▸mn)
 ·refine⟨BH++[some (.list (A.map ag))],CT.fn (g:= .next) (am:=[]) (bs:=[("self", .ref 2),("tag", .str m0.q),("attrs", .bw (gv ps)),("new_namespaces", .ref (11+rest.length+ls.length)),("qname_text", .none)]) B (Dd B) (Binds.Pv B (HC) (fun _=>rfl)) (show [("self":Rj),"tag","attrs","new_namespaces","qname_text"].Nodup by decide) rfl ?_⟩;refine af.cons (XT.ite (TT.bn (aJ.and_false (TT.cmp (ET.attr (ET.name rfl) (GA.t B rfl (tf))) ET.none (OT.isNot_none (b:=true) (fun _ _ r=>by cases r;rfl))))) (fun h=>by cases h) (fun _=>af.nil)) ?_;refine af.cons (XT.assign (ET.Bd (ET.name rfl) (ET.name rfl) (J (QP ..) (J (QP ..) ((O.l1)))) (fun p hp e=>(Sa.mp (Ho▸hN.nd)).1 (e▸Q4.mpr ⟨p,hp,rfl⟩)) (fun y hy=>by
   replace hy:=Ho.symm▸hy;obtain⟨m,hm,rfl⟩:=Q4.mp hy;exact gy ((hN.ok m hm).ql)) rfl hc (B.uu _ _ EB) Ll) (bv.one (AT.name (ST.local rfl)))) ?_
  refine aO Ho (af.cons (XT.assign (ET.ut B.mods) (bv.one (AT.name (ST.local rfl)))) ?_);refine af.cons (XT.ite (c:=false) (TT.cmp (ET.name rfl) ET.none (OT.isNot_none (b:=true) (fun _ _ r=>by cases r;rfl))) (fun h=>by cases h) (fun _=>af.nil)) (af.cons (XT.ite (TT.bn (aJ.and_false (TT.cmp (ET.attr (ET.name rfl) (GA.t B rfl (v9))) ET.none (OT.isNot_none (b:=true) (fun _ _ r=>by cases r;rfl))))) (fun h=>by cases h) (fun _=>af.cons (XT.assign ET.none (bv.one (AT.name (ST.local rfl)))) af.nil)) ?_);refine af.cons (XT.assign (ET.attr (ET.name rfl) (GA.aQ (dr B) rfl rfl rfl (y2) rfl)) (bv.one (AT.name (ST.cell rfl)))) (af.cons h6 ?_);refine J (Tc ..) (af.cons h7 (af.cons h8 ?_));have he:t.DH m0 eV={tq with told:=tq.told++cW tq.us m0 A,rs:=true,k:=tq.k+1}:=by
   show({tq with told:=t.told++cW tq.us m0 A,rs:=true,k:=t.k+1}:Tg)=_;rw[show tq.told=t.told from r1,show tq.k=t.k from r7]
  exact he▸h9
 ·rcases Q9.mp sQ with sQ|sQ
  ·obtain⟨u,hu,rfl⟩:=Q4.mp (wx sQ);refine⟨?_,(Im u hu)⟩;refine J (Q7 ..) ?_;exact ao (a9 (bC rfl) ((du JU).1)) dc
  ·obtain⟨a,ha,rfl⟩:=Q4.mp sQ;refine⟨?_,(O.L5 a ha).1⟩;exact J (fB ..) ((ao (a9 (a9 ((du JU).1) (QM _)) ((hN.ok a.1 (QQ _ (Q4.mpr ⟨a,ha,rfl⟩))).tl)) dc))
 ·have:∀L,(∀p∈L,p.1≠spS)→(gv L).lookup spS=none:=by
   intro L
   induction L with
   |nil=>intro _;rfl
   |cons p L ih=>
    intro h;exact J lookup_cons (J (if_neg (fun e=>h p QR e.symm)) ((ih fun q hq=>h q (QQ _ hq))))
  refine this ps fun p sQ=> ?_;obtain⟨a,ha,rfl⟩:=Q4.mp sQ;exact O.sp a ha
end
noncomputable def Tg.startT(t:Tg)(m0:Nm)(eV:List (Nm×Rj)):Tg:=
 if t.ig≠0∨m0.q=t.ex then {t with ig:=t.ig+1} else({t.fl with lv:=t.lv++[some []]}:Tg).DH m0 eV
theorem Tg.E3{t:Tg}{m0}{eV}{ls}(h:t.lv=ls++[some []]):(t.DH m0 eV).lv.length=ls.length+1:=by
 refine J (Tg.oU ls _ t [] h) ?_;simp
section
variable{n:Nat}{H:AH}{F:Fx}{ρ:Loc}
theorem tD(B:Base){t:Tg}{rest}(hr:∀ob,some ob∈rest→ob.dF 11=true∨ob.dF (11+rest.length)=true){m0}{eV}(O:Op m0 eV)(ok:t.ok)(fit:t.fit)(h1:(live t.lv).flatten.length≤198)(h2:t.us.length≤98)(wo:t.k=(live t.lv).length+1)(pH:t.k≤1000):
  CT (n+4+1+1+1) (.st (.ref 120)) [.ref 2, .str m0.q, .bw (gv (eV.map fun a=>(a.1.q,a.2)))] [] (t.h rest []) .none ((t.startT m0 eV).h rest []):=by
 let bs:Loc:=[("self", .ref 2),("tag", .str m0.q),("attrs", .bw (gv (eV.map fun a=>(a.1.q,a.2))))];have L6:OT (n+4+1+1) (RZ .IsNot) (.ref 5) .none (t.h rest []) (.bool true) (t.h rest []):=OT.isNot_none (b:=false) (fun _ _ r=>by obtain⟨a,rfl,_⟩:=r;rfl);have qz:=OT.Ew (n:=n+4+1+1) (k:=5) (x:=m0.q) (H:=t.h rest []) rfl;by_cases hX:t.ig≠0∨m0.q=t.ex
 ·have ee:t.startT m0 eV={t with ig:=t.ig+1}:=by unfold Tg.startT;rw[if_pos hX]
  refine J ee ?_;refine CT.fn (g:= .ret .none) (am:=bs) (bs:=bs) B (yB B) (Binds.b3 B (Dc)) (show [("self":Rj),"tag","attrs"].Nodup by decide) rfl ?_;have DI:af (n+4+1+1) (ax 120) (uI (au (bodyOf 120) 0)) bs (t.h rest []) (.ret .none) bs (({t with ig:=t.ig+1}:Tg).h rest []):=by
   refine af.cons ?_ (af.ret XT.GC);exact XT.lO (d:=3) rfl nQ (XT.uv (dr B) ET.name (GA.t B rfl (b7)) ET.int Ee.add_int rfl rfl (ml) (show 17≤100 by decide))
  refine af.ret ?_;by_cases h0:t.ig=0
  ·have hb:OB (n+4+1+1) (.int t.ig) (t.h rest []) false:=by
    have:=OB.int (n:=n+4+1+1) (i:=t.ig) (H:=t.h rest []);rwa [show(t.ig !=0)=false from by simpa using h0] at this
   rw[show decide (m0.q∈[t.ex])=true from by simp[(hX.resolve_left fun h=>h h0)]] at qz;exact XT.ite (TT.bn (aJ.and_true (TT.cmp (ET.attr ET.name (GA.t B rfl (fA))) ET.none L6) (aJ.and_true (TT.bn (aJ.or_false (TT.value (ET.attr ET.name (GA.t B rfl (b7))) hb) (aJ.or_true (TT.cmp ET.name (ET.attr ET.name (GA.t B rfl (fA))) qz)))) aJ.and_nil))) (fun _=>DI) (fun h=>by cases h)
  ·have hb:OB (n+4+1+1) (.int t.ig) (t.h rest []) true:=by
    have:=OB.int (n:=n+4+1+1) (i:=t.ig) (H:=t.h rest []);rwa [show(t.ig !=0)=true from by simpa using h0] at this
   exact XT.ite (TT.bn (aJ.and_true (TT.cmp (ET.attr ET.name (GA.t B rfl (fA))) ET.none L6) (aJ.and_true (TT.bn (aJ.or_true (TT.value (ET.attr ET.name (GA.t B rfl (b7))) hb))) aJ.and_nil))) (fun _=>DI) (fun h=>by cases h)
 ·have ee:t.startT m0 eV=({t.fl with lv:=t.lv++[some []]}:Tg).DH m0 eV:=by unfold Tg.startT;rw[if_neg hX]
  refine J ee ?_;have h0:=QK fun h=>hX (.inl h);have hq:m0.q≠t.ex:=fun h=>hX (.inr h);have hb:OB (n+4+1+1) (.int t.ig) (t.h rest []) false:=by
   have:=OB.int (n:=n+4+1+1) (i:=t.ig) (H:=t.h rest []);rwa [show(t.ig !=0)=false from by simpa using h0] at this
  replace qz:=(show decide (m0.q∈[t.ex])=false from by simp[hq])▸qz;let t1:Tg:={t.fl with lv:=t.lv++[some []]};have NF:(live t1.lv).flatten=(live t.lv).flatten:=by refine J (show live t1.lv=live t.lv++[[]] by exact J (b6 ..) rfl) ?_;simp
  have L7:=Tg.DD ok;obtain⟨jm,hc⟩:=qI B O (show t1.ok from⟨fun u hu=>by rw[NF] at hu;exact t.eY▸ok.mem u hu,L7.len,L7.nd,L7.AD⟩) rfl (NF▸h1) (J t.eY h2) (by exact J t.BA ((DY (lg wo)))) (J t.BA pH) (ao t.kR (ao (a9 fit.told (QM _)) dc));rw[(show∀t x,t.h rest x=t.h rest []++x from fun t x=>by simp) (t1.DH m0 eV) jm] at hc;have hlen:∀t:Tg,(t.h rest []).length=11+rest.length+t.lv.length:=fun t=>by refine J (t.qF ..) ?_;simp[fo];exact Jv
  refine CT.drop (T:=jm) ?_ ?_ rfl (Tg.dF hr)
  ·refine CT.fn (g:= .next) (am:=("new_namespaces", .ref (11+rest.length+t.lv.length))::bs) (bs:=bs) B (yB B) (Binds.b3 B (Dc)) (show [("self":Rj),"tag","attrs"].Nodup by decide) rfl ?_;refine af.cons (XT.ite (TT.bn (aJ.and_true (TT.cmp (ET.attr ET.name (GA.t B rfl (fA))) ET.none L6) (aJ.and_false (TT.bn (aJ.or_false (TT.value (ET.attr ET.name (GA.t B rfl (b7))) hb) (aJ.or_false (TT.cmp ET.name (ET.attr ET.name (GA.t B rfl (fA))) qz) aJ.or_nil)))))) (fun h=>by cases h) (fun _=>af.nil)) (af.cons (qA B fit (i:=1) rfl rfl (by intro _;rfl)) ?_);refine af.cons (XT.assign (ET.d9 ab.nil) (bv.one (AT.name (ST.local rfl)))) ?_;refine J (show(t.fl.h rest []).length=11+rest.length+t.lv.length by exact J (hlen ..) (J (t.iC ..) rfl)) ?_;have h7:(t.fl.h rest []++[some (AO.list [])])[7]?=some (some (.list ((ir t.fl.us (11+rest.length) t.fl.lv).map fun p=>V.ref p.1))):=rfl;have A3:((ir t.fl.us (11+rest.length) t.fl.lv).map fun p=>V.ref p.1).length≤2000:=by
    exact J (QP ..) (J (Rn ..) (J (fC ..) (J (t.iC ..) ((ao (lg wo) (ao pH dc))))))
   refine af.cons (XT.expr (ET.aQ (ET.attr ET.name (GA.tX B rfl rfl rfl (kO))) (GM.of (Ty.ah h7) (aH.ah h7) Rf St RB) (ab.cons ET.name ab.nil) aL.builtin (CT.append h7 (As A3)))) ?_;have e7:(t.fl.h rest []++[some (AO.list [])]).set 7 (some (.list (((ir t.fl.us (11+rest.length) t.fl.lv).map fun p=>V.ref p.1)++[.ref (11+rest.length+t.lv.length)])))=t1.h rest []:=by
    have hL:(ir t.fl.us (11+rest.length) (t.lv++[some []])).map (fun p=>V.ref p.1)=((ir t.fl.us (11+rest.length) t.fl.lv).map fun p=>V.ref p.1)++[.ref (11+rest.length+t.lv.length)]:=by
     refine J t.iC ?_;unfold ir;refine J (gM ..) ?_;simp only[Q8,Rc];rfl
    show _=hx (t.fl.told.map V.str) t.fl.rs t.fl.rd t.fl.ig (t.fl.data.map V.str) t.fl.ex ((ir t.fl.us (11+rest.length) (t.lv++[some []])).map (fun p=>V.ref p.1)) (Q3 t.fl.k (.lst [])) (iT t.fl.us) (Q3 t.fl.k (.bool false)) (rest++(fo t.fl.us (t.lv++[some []])++[]));refine J hL ?_;show hx _ _ _ _ _ _ _ _ _ _ ((rest++(fo t.fl.us t.fl.lv++[]))++[some (AO.list [])])=_;refine J t.iC ?_;simp[fo]
   refine J e7 (af.cons (XT.ite (TT.bn (aJ.and_false (TT.cmp (ET.attr ET.name (GA.t B rfl (yM))) ET.none (OT.isNot_none (b:=true) (fun _ _ r=>by cases r;rfl))))) (fun h=>by cases h) (fun _=>af.nil)) ?_);exact af.cons (XT.expr (ET.aQ ET.name (GM.t B rfl (wa) rfl) (ab.cons ET.name (ab.cons ET.name (ab.cons ET.name ab.nil))) (aL.def (Dd B)) hc)) af.nil
  ·refine J (hlen ..) (J (hlen ..) (J (Tg.E3 rfl) ?_));lia
end
noncomputable abbrev E4(i:Nat)(e:SD):SD:=cL i e
noncomputable def E5(file:Rj)(line:Int)(name:Rj):Rj:=
 if(file=="~"&&line==0)=true then(if(Vd name "<"&&VI name ">")=true then "{"++SY name (some 1) (some (-1))++"}" else name) else file++":"++iy line++"("++name++")"
section
variable{n:Nat}{H:AH}{F:Fx}{ρ:Loc}
theorem qJ(B:Base){file name}{line}(hi:line=-1∨(0≤line∧line<1000))(hf:file.length≤100)(m4:QZ file=true)(hn:name.length≤100):
  CT (n+8+1) (.st (.ref 175)) [.tup [.str file, .int line, .str name]] [] H (.str (E5 file line name)) H:=by
 let bs:Loc:=[("func_name", .tup [.str file, .int line, .str name])];have ht:OT (n+8) (RZ .Eq) (.tup [.str file, .int line]) (.tup [.str "~", .int 0]) H (.bool (file=="~"&&line==0)) H:=by
  have:=OT.eq (n:=n) (H:=H) (x:= .tup [.str file, .int line]) (y:= .tup [.str "~", .int 0]) rfl rfl (by simp[TP,X3,Yy,Tl,TL,m4]) (by decide+kernel);rw[show TS (.tuple [.str file, .int line]) (.tuple [.str "~", .int 0])=(file=="~"&&line==0) from by
   show(file=="~"&&(line==0&&true))=_;rw[YA]] at this
  exact this
 have hT:TT (n+8) (ax 175) (EV (au (bodyOf 175) 0)) bs H (file=="~"&&line==0) H:=
  TT.cmp (ET.slice (ET.name rfl) PT.none (PT.some ET.int) PT.none Ty.tup R6.lookup (GT.C7 (by show 2<3;decide))) (ET.tuple (ab.cons ET.str (ab.cons ET.int ab.nil))) ht
 refine CT.fn (g:= .ret (.str (E5 file line name))) (am:=[]) (bs:=bs) B (yC B) (Binds.b1 B (HF)) (show [("func_name":Rj)].Nodup by decide) rfl ?_;by_cases h1:(file=="~"&&line==0)=true
 ·rw[h1] at hT;refine af.ret (XT.ite hT (fun _=> ?_) (fun h=>by cases h));refine af.cons (XT.assign (ET.sub (ET.name rfl) ET.int Ty.tup R6.lookup (OT.item_tup (i:=2) rfl rfl)) (bv.one (AT.name (ST.local rfl)))) ?_;let cU:Loc:=("name", .str name)::bs;have hA:ET (n+8) (ax 175) (E4 0 (EV (au (uI (au (bodyOf 175) 0)) 1))) cU H (.bool (Vd name "<")) H:=
   ET.aQ (ET.name rfl) (GM.of Ty.str aH.str RH PySem.F.slot_str_startswith PySem.F.type_str_startswith) (ab.cons ET.str ab.nil) aL.builtin CT.startswith
  have hB:ET (n+8) (ax 175) (E4 1 (EV (au (uI (au (bodyOf 175) 0)) 1))) cU H (.bool (VI name ">")) H:=
   ET.aQ (ET.name rfl) (GM.of Ty.str aH.str RH PySem.F.slot_str_endswith PySem.F.type_str_endswith) (ab.cons ET.str ab.nil) aL.builtin CT.endswith
  have fV:∀m z,([]:Loc).lookup m=some z→cU.lookup m=some z:=ad;refine J (show E5 file line name=if(Vd name "<"&&VI name ">")=true then "{"++SY name (some 1) (some (-1))++"}" else name from if_pos h1) ?_;by_cases ha:Vd name "<"=true
  ·by_cases hb:VI name ">"=true
   ·rw[if_pos (by rw[ha,hb];rfl)];refine af.ret (XT.sub (XT.ite (TT.bn (aJ.and_true (TT.value hA (OB.mi ha)) (aJ.and_true (TT.value hB (OB.mi hb)) aJ.and_nil))) (fun _=>af.ret (XT.ret ?_)) (fun h=>by cases h)) fV);exact ET.binop ET.str (ET.iJ (ET.name rfl) (PT.some ET.int) (PT.some (ET.unary ET.int j1.neg))) (OT.EP (QU (Xx name _ _) (eG hn)))
   ·have hb:VI name ">"=false:=by simpa using hb
    rw[if_neg (by rw[ha,hb];exact Ry)];exact af.ret (XT.sub (XT.ite (TT.bn (aJ.and_true (TT.value hA (OB.mi ha)) (aJ.and_false (TT.value hB (OB.mi hb))))) (fun h=>by cases h) (fun _=>af.ret (XT.ret (ET.name rfl)))) fV)
  ·have ha:Vd name "<"=false:=by simpa using ha
   exact J (if_neg (ha▸Ry)) ((af.ret (XT.sub (XT.ite (TT.bn (aJ.and_false (TT.value hA (OB.mi ha)))) (fun h=>by cases h) (fun _=>af.ret (XT.ret (ET.name rfl)))) fV)))
 ·rw[(show(file=="~"&&line==0)=false by simpa using h1)] at hT;exact J (show E5 file line name=file++":"++iy line++"("++name++")" from if_neg h1) ((af.ret (XT.sub (XT.ite hT (fun h=>by cases h) (fun _=>af.ret (XT.ret (ET.binop ET.str (ET.name rfl) (OT.EO hi hf hn))))) ad)))
end
theorem iD(hb:env.blockKind=qK.blockKind)(hk:∀x,env.kindOf x=qK.kindOf x) ts e:TJ ts e env=TJ ts e qK:=by
 delta TJ
 rw[hb,show env.kindOf=qK.kindOf from funext hk]
noncomputable def Io(F:Fx):Env:=newEnv {(default:aaf) with names:=F.names,kind:= .function} 0 mainGlobals [] "" none F.code none builtinsNs
theorem cX(E:az F env)(h:TJ ts e (Io F)=pure (some xs)):TJ ts e env=pure (some xs):=by
 refine aO h (iD ?_ (fun x=>(be E x).trans rfl) ts e);unfold Xc;exact J E.kind rfl
noncomputable def nr:Nat→Rj|0=>"f"|1=>"g"|2=>"&lt;"|_=>"\""
noncomputable def kg(s:Rj):Nat→Rj|0=>"<<"++s++">>"|1=>s|2=>"<"++s|_=>s++">"
noncomputable def mo:Nat→Rj|0=>"~"|1=>"a\t\r"|_=>"~&"
noncomputable def mr:Nat→Int|0=>0|1=>7|_=>-1
noncomputable def wy:Nat→Rj|0=>":0("|1=>":7("|_=>":-1("
structure LF where
 file:Rj
 line:Int
 name:Rj
 text:Rj
noncomputable def iM(d:Int):LF:=
 let sg:=nr ((d.fdiv 36).fmod 4).toNat;let kd:=((d.fdiv 9).fmod 4).toNat;let nm:=kg sg kd;let fi:=mo (d.fmod 3).toNat;let li:=((d.fdiv 3).fmod 3).toNat
 ⟨fi,mr li,nm,if d.fmod 9=0 then(if kd=0 then "{<"++sg++">}" else nm) else fi++wy li++nm++")"⟩
noncomputable def LF.v(f:LF):V:= .tup [.tup [.str f.file, .int f.line, .str f.name], .str f.text]
theorem uP a{b}(hb:b=36∨b=9∨b=3):Xo a b=false:=by
 rcases hb with rfl|rfl|rfl<;>rfl
theorem Ip{α:Type}{f:Nat→α}{i}(h:i<4):[f 0,f 1,f 2,f 3][i]?=some (f i):=by
 rcases i with _|_|_|_|i
 iterate 4 rfl
 exact absurd h (Tw.mpr (VD 4 i))
theorem E6{α:Type}{f:Nat→α}{i}(h:i<3):[f 0,f 1,f 2][i]?=some (f i):=by
 rcases i with _|_|_|i
 iterate 3 rfl
 exact absurd h (Tw.mpr (VD 3 i))
theorem ms i:(nr i).length≤4:=by rcases i with _|_|_|i<;>exact Vl rfl
theorem jQ(i k:Nat):(kg (nr i) k).length≤8:=by
 have h:=ms i
 match k with
 |0=>exact J (Q7 ..) (J (Q7 ..) ((ao (a9 (a9 (bC rfl) h) (bC rfl)) dc)))
 |1=>exact eG h
 |2=>exact J (Q7 ..) ((ao (a9 (bC rfl) h) dc))
 |_+3=>exact J (Q7 ..) ((ao (a9 h (bC rfl)) dc))
theorem jR i:(mo i).length≤3:=by rcases i with _|_|i<;>exact Vl rfl
theorem qL i:(wy i).length≤4:=by rcases i with _|_|i<;>exact Vl rfl
section
variable{n:Nat}{H:AH}{F:Fx}{ρ:Loc}
theorem wz(B:Base) d:CT (n+1) (.st (.ref 203)) [.int d] [] H ((iM d).v) H:=by
 have hs:=Rv;let sg:=nr ((d.fdiv 36).fmod 4).toNat;let kd:=((d.fdiv 9).fmod 4).toNat;let nm:=kg sg kd;let fi:=mo (d.fmod 3).toNat;let li:=((d.fdiv 3).fmod 3).toNat;refine QK fun kG=> ?_;obtain⟨Pz,PA⟩:=ct (d.fdiv 36) (b:=4) dc;obtain⟨e9,l9⟩:=ct (d.fdiv 9) (b:=4) dc;obtain⟨e3,l3⟩:=ct (d.fdiv 3) (b:=3) dc;refine kG ?_;let bs:Loc:=[("d", .int d)];refine CT.fn (g:= .ret ((iM d).v)) (am:=[]) B (Dk B) (Binds.b1 B (HJ)) (show [("d":Rj)].Nodup by decide) rfl ?_;have QF:=ms ((d.fdiv 36).fmod 4).toNat;have NG:nm.length≤8:=jQ _ _;have BI:fi.length≤3:=jR _;have L8:(wy li).length≤4:=qL _;refine af.cons (XT.fQ (xs:=["sign","kind"]) (ET.tuple (ab.cons (ET.sub (ET.list (ab.cons ET.str (ab.cons ET.str (ab.cons ET.str (ab.cons ET.str ab.nil))))) (ET.binop (ET.binop ET.name ET.int (OT.floordiv_int dc (uP d (.inl rfl)))) ET.int (OT.mod_int dc)) Ty.lst Rp.lookup (OT.aZ Pz (Ip (f:=fun i=>V.str (nr i)) PA)))
  (ab.cons (ET.binop (ET.binop ET.name ET.int (OT.floordiv_int dc (uP d (.inr (.inl rfl))))) ET.int (OT.mod_int dc)) ab.nil)) (show 2≤QW by decide)) ⟨ST.local rfl,ST.local rfl,trivial⟩ rfl (fun _=>rfl) (fun env E=>cX E rfl)) ?_
 have o1:("<<":Rj).length=2:=rfl;have o2:(">>":Rj).length=2:=rfl;have o3:("<":Rj).length=1:=rfl;have o4:(">":Rj).length=1:=rfl;have o5:")".length=1:=rfl;have o6:("{<":Rj).length=2:=rfl;have o7:(">}":Rj).length=2:=rfl;let am:Loc:=("sign", .str sg)::("kind", .int ((d.fdiv 9).fmod 4))::bs;show af n (ax 203) ((bodyOf 203).drop 1) am H _ _ _;refine af.cons (XT.assign (ET.sub (ET.list (ab.cons (ET.binop (ET.binop ET.str ET.name (OT.add_str (by lia))) ET.str (OT.add_str (by refine J (Q7 ..) ?_;lia))) (ab.cons ET.name (ab.cons (ET.binop ET.str ET.name (OT.add_str (by lia))) (ab.cons (ET.binop ET.name ET.str (OT.add_str (by lia))) ab.nil)))) (show 4≤QW by decide))
  ET.name Ty.lst Rp.lookup (OT.aZ e9 (Ip (f:=fun i=>V.str (kg sg i)) l9))) (bv.one (AT.name (ST.local rfl)))) ?_
 refine af.cons (XT.fQ (xs:=["file","line"]) (ET.tuple (ab.cons (ET.sub (ET.list (ab.cons ET.str (ab.cons ET.str (ab.cons ET.str ab.nil)))) (ET.binop ET.name ET.int (OT.mod_int dc)) Ty.lst Rp.lookup (OT.aZ (ct d (b:=3) dc).1 (E6 (f:=fun i=>V.str (mo i)) (ct d (b:=3) dc).2)))
  (ab.cons (ET.sub (ET.list (ab.cons ET.int (ab.cons ET.int (ab.cons (ET.unary ET.int j1.neg) ab.nil)))) (ET.binop (ET.binop ET.name ET.int (OT.floordiv_int dc (uP d (.inr (.inr rfl))))) ET.int (OT.mod_int dc)) Ty.lst Rp.lookup (OT.aZ e3 (E6 (f:=fun i=>V.int (mr i)) l3))) ab.nil)) (show 2≤QW by decide)) ⟨ST.local rfl,ST.local rfl,trivial⟩ rfl (fun _=>rfl) (fun env E=>cX E rfl)) ?_
 let tx:Rj:=fi++wy li++nm++")";let hJ:Loc:=("file", .str fi)::("line", .int (mr li))::("name", .str nm)::am;show af n (ax 203) ((bodyOf 203).drop 3) hJ H _ _ _;refine af.cons (XT.assign (x:= .str tx) (ET.binop (ET.binop (ET.binop ET.name (ET.sub (ET.list (ab.cons ET.str (ab.cons ET.str (ab.cons ET.str ab.nil)))) (ET.binop (ET.binop ET.name ET.int (OT.floordiv_int dc (uP d (.inr (.inr rfl))))) ET.int (OT.mod_int dc)) Ty.lst Rp.lookup (OT.aZ e3 (E6 (f:=fun i=>V.str (wy i)) l3))) (OT.add_str (iF (ao (a9 BI L8) dc)))) ET.name (OT.add_str (by refine J (Q7 ..) ?_;exact iF (ao (a9 (a9 BI L8) NG) dc)))) ET.str (OT.add_str (by refine J (Q7 ..) (J (Q7 ..) ?_);exact iF (ao (a9 (a9 (a9 BI L8) NG) (bC o5)) dc)))) (bv.one (AT.name (ST.local rfl)))) ?_;have NH:(d.fdiv 9).fmod 4=kd:=e9;have h9:=OT.eq_int (n:=n) (a:=d.fmod 9) (b:=0) (H:=H);have hk:=OT.eq_int (n:=n) (a:=(d.fdiv 9).fmod 4) (b:=0) (H:=H);refine af.cons (am:=("text", .str (iM d).text)::hJ) ?_ (af.ret (XT.sub (XT.ret (ET.tuple (ab.cons (ET.tuple (ab.cons ET.name (ab.cons ET.name (ab.cons ET.name ab.nil))) (show 3≤QW by decide)) (ab.cons ET.name ab.nil)) (show 2≤QW by decide))) ad));by_cases c9:d.fmod 9=0
 ·rw[show(d.fmod 9==0)=true from by simp[c9]] at h9;refine XT.ite (TT.cmp (ET.binop ET.name ET.int (OT.mod_int dc)) ET.int h9) (fun _=> ?_) (fun h=>by cases h);refine af.sub (af.cons (XT.assign (x:= .str (iM d).text) ?_ (bv.one (AT.name (ST.local rfl)))) af.nil) (fun m z h=> ?_)
  ·by_cases ck:kd=0
   ·have et:(iM d).text="{<"++sg++">}":=by exact(if_pos c9).trans (if_pos ck)
    refine J et ?_;rw[show((d.fdiv 9).fmod 4==0)=true from by rw[NH];refine J ck ?_;rfl] at hk;exact ET.db (TT.cmp ET.name ET.int hk) (fun _=>ET.binop (ET.binop ET.str ET.name (OT.add_str (by lia))) ET.str (OT.add_str (by refine J (Q7 ..) ?_;lia))) (fun h=>by cases h)
   ·have et:(iM d).text=nm:=by exact(if_pos c9).trans (if_neg ck)
    refine J et ?_;rw[show((d.fdiv 9).fmod 4==0)=false from by rw[NH,beq_eq_false_iff_ne];intro h;exact ck (by lia)] at hk;exact ET.db (TT.cmp ET.name ET.int hk) (fun h=>by cases h) (fun _=>ET.name rfl)
  ·rw[lookup_cons] at h⊢;refine bl (fun _=> ?_) fun _=> ?_
   ·rename_i e;rw[if_pos e] at h;exact h
   ·rename_i e;rw[if_neg e] at h;rw[lookup_cons,if_neg e];exact h
 ·refine J (show(iM d).text=tx by exact if_neg c9) ?_;rw[show(d.fmod 9==0)=false from by rw[beq_eq_false_iff_ne];exact c9] at h9;exact XT.ite (TT.cmp (ET.binop ET.name ET.int (OT.mod_int dc)) ET.int h9) (fun h=>by cases h) (fun _=>af.nil)
end
theorem L9 S(v u a b:Value):V2 (KK) S (Sn (fdOf 67) ⟨[v,u],[("rewrite_prefixes",a),("exclude_tags",b)]⟩)=some [(("self":Rj),v),("write",u),("with_comments", .bool false),("strip_text", .bool false),("rewrite_prefixes",a),("qname_aware_tags", .none),("qname_aware_attrs", .none),("exclude_attrs", .none),("exclude_tags",b)]:=rfl
noncomputable def hI(l:List (Rj×V))(x:AH):AH:=some (.tab 123 tc qt)::some (.list [])::some (.inst 150 3)::some (.ns l)::x
theorem tE:∀{l:List (Rj×V)},(l.map (·.1)).Nodup→∀x,l.reverse.lookup x=l.lookup x:=by
 intro rv
 induction rv with
 |nil=>
  intro _ _;exact rfl
 |cons pq l ih=>
  obtain⟨k,v⟩:=pq;intro h x;rw[Q8,Sa] at h;refine J Sg (J List.lookup_append (J (ih h.2 x) ?_));simp only[lookup_cons];by_cases e:x=k
  ·have:l.lookup x=none:=by
    cases hh:l.lookup x with
    |none=>rfl
    |some v=>exact absurd (Q4.mpr ⟨_,mem_of_lookup hh,e⟩) h.1
   rw[this,if_pos e,if_pos e];rfl
  ·refine J (if_neg e) (J (if_neg e) ?_);cases l.lookup x<;>rfl
noncomputable def Tg.t0(ex:Rj):Tg:={told:=[],data:=[],ex:=ex,us:=[],lv:=[],rs:=false,rd:=false,ig:=0,k:=1}
section
variable{n:Nat}{H:AH}{F:Fx}{ρ:Loc}
theorem Binds.PB(B:Base){x y a b}:Binds (fdOf 67) [x,y] [("rewrite_prefixes",a),("exclude_tags",b)]
  [("self",x),("write",y),("with_comments", .bool false),("strip_text", .bool false),("rewrite_prefixes",a),("qname_aware_tags", .none),("qname_aware_attrs", .none),("exclude_attrs", .none),("exclude_tags",b)]:=fun h W vs kv k r rn=>by
 obtain⟨v,u,rfl,rv,ru⟩:=r.two;obtain⟨p,_,rfl,rp,q,_,rfl,rq,e⟩:=rn;cases e;exact⟨_,Uj (B.In h k) (L9 _ v u p q),v,_,rfl,rv,u,_,rfl,ru,_,_,rfl,rfl,_,_,rfl,rfl,p,_,rfl,rp,_,_,rfl,rfl,_,_,rfl,rfl,_,_,rfl,rfl,q,_,rfl,rq,rfl⟩
theorem wA(B:Base){ex:Rj}:CC (n+1) (.st (.ref 67)) [.ref 2, .bm "list.append" (.ref 1)] [("rewrite_prefixes", .bool true),("exclude_tags", .lst [.str ex])] (hI [] []) .none ((Tg.t0 ex).h [] []):=by
 let bs:Loc:=[("self", .ref 2),("write", .bm "list.append" (.ref 1)),("with_comments", .bool false),("strip_text", .bool false),("rewrite_prefixes", .bool true),("qname_aware_tags", .none),("qname_aware_attrs", .none),("exclude_attrs", .none),("exclude_tags", .lst [.str ex])];refine CC.def (g:= .next) (am:=bs) (LJ B) B.rU.nolimit (LK) (Binds.PB B) (show [("self":Rj),"write","with_comments","strip_text","rewrite_prefixes",("qname_aware_tags":Rj),("qname_aware_attrs":Rj),("exclude_attrs":Rj),("exclude_tags":Rj)].Nodup by decide)
  (by
   intro x hx;simpa using(R8.mp (show([("self":Rj),("write":Rj),("with_comments":Rj),("strip_text":Rj),("rewrite_prefixes":Rj),("qname_aware_tags":Rj),("qname_aware_attrs":Rj),("exclude_attrs":Rj),("exclude_tags":Rj)].all fun x=>((fdOf 67).scope.names.lookup x==some .local||(fdOf 67).scope.names.lookup x==some .cell))=true from rfl) x hx)) ?_
 refine af.cons (XT.assign ET.name (bv.one (AT.attr (dr B) (ET.name rfl) rfl rfl rfl dc))) ?_;refine af.cons (XT.assign (ET.d9 ab.nil) (bv.one (AT.attr (dr B) (ET.name rfl) rfl rfl rfl dc))) ?_;refine af.cons (XT.assign ET.name (bv.one (AT.attr (dr B) (ET.name rfl) rfl rfl rfl dc))) ?_;refine af.cons (XT.assign ET.name (bv.one (AT.attr (dr B) (ET.name rfl) rfl rfl rfl dc))) ?_;refine af.cons (XT.assign (ET.db (TT.value ET.name OB.none) (fun h=>by cases h) (fun _=>ET.none)) (bv.one (AT.attr (dr B) (ET.name rfl) rfl rfl rfl dc))) ?_;refine af.cons (XT.assign (ET.db (c:=true) (TT.value ET.name OB.lst) (fun _=>ET.call (ET.ay B (yG) yJ) (ab.cons ET.name ab.nil) aL.type CT.ES) (fun h=>by cases h)) (bv.one (AT.attr (dr B) (ET.name rfl) rfl rfl rfl dc))) ?_;refine af.cons (XT.assign ET.name (bv.one (AT.attr (dr B) (ET.name rfl) rfl rfl rfl dc))) ?_;refine af.cons (XT.ite (TT.value ET.name OB.none) (fun h=>by cases h) (fun _=>af.cons (XT.assign ET.none (bv.one (AT.attr (dr B) (ET.name rfl) rfl rfl rfl dc))) af.nil)) ?_;refine af.cons (XT.ite (TT.value ET.name OB.none) (fun h=>by cases h) (fun _=>af.cons (XT.assign ET.none (bv.one (AT.attr (dr B) (ET.name rfl) rfl rfl rfl dc))) af.nil)) ?_;refine af.cons (XT.assign (ET.d9 (ab.cons (ET.d9 (ab.cons (ET.tuple (ab.cons ET.str (ab.cons ET.str ab.nil))) ab.nil) (show 1≤QW by decide)) ab.nil) (show 1≤QW by decide)) (bv.one (AT.attr (dr B) (ET.name rfl) rfl rfl rfl dc))) ?_;refine af.cons (XT.assign (x:= .ref 8) (ET.d9 ab.nil) (bv.one (AT.attr (dr B) (ET.name rfl) rfl rfl rfl (show 10≤100 by decide)))) ?_;refine af.cons (XT.ite (c:=false) (TT.not (TT.value (x:= .bool true) ET.name OB.bool)) (fun h=>by cases h) (fun _=>af.nil)) ?_;refine af.cons (XT.expr (ET.aQ (ET.attr ET.name (GA.own (dr B) rfl rfl rfl (td) (noGet_none _))) (GM.of (Ty.ah rfl) (aH.ah rfl) Rf St RB) (ab.cons (ET.list ab.nil) ab.nil) aL.builtin (CT.append rfl dc))) ?_;refine af.cons (H1:=(hI [(("_prefix_map":Rj), .ref 9),(("_ns_stack":Rj), .ref 8),(("_declared_ns_stack":Rj), .ref 7),(("_find_qname_aware_attrs":Rj), .none),(("_qname_aware_tags":Rj), .none),(("_rewrite_prefixes":Rj), .bool true),(("_exclude_tags":Rj), .ref 5),(("_exclude_attrs":Rj), .none),(("_strip_text":Rj), .bool false),(("_with_comments":Rj), .bool false),(("_data":Rj), .ref 4),(("_write":Rj), .bm "list.append" (.ref 1))] [some (.list []),some (.sset [ex]),some (.list [iS jg]),some (.list [.ref 6]),some (.list [.lst []]),some (.dict [])])) (XT.assign ET.xK (bv.one (AT.attr (dr B) (ET.name rfl) (d:=3) rfl rfl rfl dc))) ?_;refine af.cons (XT.assign (ET.d9 (ab.cons ET.bool ab.nil)) (bv.one (AT.attr (dr B) (ET.name rfl) rfl rfl rfl dc))) ?_;refine af.cons (XT.assign ET.none (bv.one (AT.attr (dr B) (ET.name rfl) rfl rfl rfl (show 13≤100 by decide)))) ?_;refine af.cons (XT.assign ET.bool (bv.one (AT.attr (dr B) (ET.name rfl) rfl rfl rfl (show 14≤100 by decide)))) ?_;refine af.cons (XT.assign ET.bool (bv.one (AT.attr (dr B) (ET.name rfl) rfl rfl rfl (show 15≤100 by decide)))) ?_;refine af.cons ?_ af.nil;exact XT.lO (d:=3) rfl (fun x=>(tE (l:=bJ false false 0) dc x).symm) (XT.assign ET.int (bv.one (AT.attr (l:=[(("_root_done":Rj), .bool false),(("_root_seen":Rj), .bool false),(("_pending_start":Rj), .none),(("_preserve_space":Rj), .ref 10),(("_prefix_map":Rj), .ref 9),(("_ns_stack":Rj), .ref 8),(("_declared_ns_stack":Rj), .ref 7),(("_find_qname_aware_attrs":Rj), .none),(("_qname_aware_tags":Rj), .none),(("_rewrite_prefixes":Rj), .bool true),(("_exclude_tags":Rj), .ref 5),(("_exclude_attrs":Rj), .none),(("_strip_text":Rj), .bool false),(("_with_comments":Rj), .bool false),(("_data":Rj), .ref 4),(("_write":Rj), .bm "list.append" (.ref 1))]) (dr B) ET.name (d:=3) rfl rfl rfl dc)))
end
noncomputable def LF.nm(f:LF):Rj:=E5 f.file f.line f.name
structure LF.good(f:LF):Prop where
 hi:f.line=-1∨(0≤f.line∧f.line<1000)
 hf:f.file.length≤3
 m4:QZ f.file=true
 hn:f.name.length≤8
 nl:f.nm.length≤20
 tl:f.text.length≤20
theorem y4 i:QZ (mo i)=true:=by rcases i with _|_|i<;>kernel_rfl
theorem y5 i:mr i=-1∨(0≤mr i∧mr i<1000):=by
 rcases i with _|_|i
 ·exact .inr ⟨dc,dc⟩
 ·exact .inr ⟨dc,dc⟩
 ·exact .inl rfl
theorem wB(hi:i=-1∨(0≤i∧i<1000)):(iy i).length≤3:=by
 unfold iy;refine bl (fun _=> ?_) fun _=> ?_
 ·decide
 ·rcases hi with rfl|⟨h0,h9⟩
  ·exact absurd rfl ‹_›
  ·exact XU h0 dc (by lia)
theorem BJ{line}(hi:line=-1∨(0≤line∧line<1000))(hf:file.length≤3)(hn:name.length≤8):(E5 file line name).length≤20:=by
 have e2:"(".length=1:=rfl;have e3:")".length=1:=rfl;have e4:("{":Rj).length=1:=rfl;have e5:("}":Rj).length=1:=rfl;have h2:=Xx name (some 1) (some (-1));unfold E5;refine bl (fun _=> ?_) fun _=> ?_
 ·refine bl (fun _=> ?_) fun _=> ?_
  ·refine J (Q7 ..) (J (Q7 ..) ?_);lia
  ·exact eG hn
 ·simp only[Q7];exact ao (a9 (a9 (a9 (a9 (a9 hf (bC rfl)) (wB hi)) (bC e2)) hn) (bC e3)) dc
theorem nS d:(iM d).good:=by
 have h1:(iM d).name.length≤8:=jQ _ _;have h2:(iM d).file.length≤3:=jR _;have h3:=y5 ((d.fdiv 3).fmod 3).toNat;refine⟨h3,h2,y4 _,h1,BJ h3 h2 h1, ?_⟩;have h6:(kg (nr ((d.fdiv 36).fmod 4).toNat) ((d.fdiv 9).fmod 4).toNat).length≤8:=jQ _ _;have e1:"{<".length=2:=rfl;have e2:">}".length=2:=rfl;have e3:")".length=1:=rfl;show(if d.fmod 9=0 then _ else _:Rj).length≤20;refine bl (fun _=> ?_) fun _=> ?_
 ·refine bl (fun _=> ?_) fun _=> ?_
  ·exact J (Q7 ..) (J (Q7 ..) ((ao (a9 (a9 (bC e1) (ms ((d.fdiv 36).fmod 4).toNat)) (bC e2)) dc)))
  ·exact eG h6
 ·simp only[Q7];exact ao (a9 (a9 (a9 (jR (d.fmod 3).toNat) (qL ((d.fdiv 3).fmod 3).toNat)) h6) (bC e3)) dc
section
variable{n:Nat}{H:AH}{F:Fx}{ρ:Loc}
noncomputable def NI:SD:=gK (au (bodyOf 208) 0)
theorem tF(B:Base):∀(fs:List LF) acc,(∀f∈fs,f.good)→acc.length+fs.length≤100→
  CF (n+8+1) (Du (ax 208) (NI)) (NI) 0 (fun _=>True,fun _=>True) (fs.map LF.v) [] acc H (acc++fs.map fun f=>V.str f.nm) H:=by
 intro rv
 induction rv with
 |nil=>
  intro acc _ _;rw[RY,RY,Ra];exact CF.nil trivial _ _ (fun _ _ _=>rfl)
 |cons f fs ih=>
  intro acc hg hl;obtain⟨g1,g2,g3,g4,_,_⟩:=hg f QR;have ih:=ih (acc++[.str f.nm]) (fun g h=>hg g (QQ _ h)) (by simp at hl⊢;exact ik hl);exact(show acc++(f::fs).map (fun f=>V.str f.nm)=(acc++[.str f.nm])++fs.map fun f=>V.str f.nm by simp)▸CF.cons trivial trivial (AT.tuple (aW.cons (AT.name (ST.local rfl)) (aW.cons (AT.name (ST.local rfl)) aW.nil))) eI.nil (ET.call (ET.globK B (eP)) (ab.cons ET.name ab.nil) (aL.def (yC B)) (qJ B g1 (eG g2) g3 (eG g4))) ad (ao (lb hl) dc) ih _ (fun _ _ _=>rfl)
end
noncomputable def rB:List U3:=fZ (au (bodyOf 208) 2)
noncomputable def Iq:SD:=cL 0 (gK (au (uI (au (rB) 1)) 3))
noncomputable def Ir:SD:=cL 0 (gK (au (Dt (au (Dt (au (rB) 1)) 0)) 1))
noncomputable def DJ(fs:List LF):V:= .lst (fs.map LF.v)
noncomputable def aG(fs:List LF)(way:List Nat):List Rj:=way.map fun k=>(fs[k]?.map LF.text).getD ""
section
variable{n:Nat}{H:AH}{F:Fx}{ρ:Loc}
theorem wC{L}{j:Nat}(hH:H[j]?=some (some (.list L))):∀way acc,(∀k∈way,k<fs.length)→acc.length+way.length≤100→
  CF n (Du (ax 208) (Iq)) (Iq) 0 (fun H=>H[j]?=some (some (.list L)),fun _=>True) (way.map fun(k:Nat)=>V.int k) [("functions",DJ fs)] acc H (acc++(aG fs way).map V.str) H:=by
 intro way
 induction way with
 |nil=>
  intro acc _ _;rw[show(aG fs []).map V.str=[] from rfl,Ra];exact CF.nil hH _ _ (fun _ _ _=>rfl)
 |cons k way ih=>
  intro acc hg hl;have hk:=hg k QR;have ih:=ih (acc++[.str fs[k].text]) (fun g h=>hg g (QQ _ h)) (by simp at hl⊢;exact ik hl);exact J (show acc++(aG fs (k::way)).map V.str=(acc++[.str fs[k].text])++(aG fs way).map V.str by simp[aG,hk]) (CF.cons hH trivial (AT.name (ST.local rfl)) eI.nil (ET.sub (ET.sub ET.name ET.name Ty.lst Rp.lookup (OT.aZ (x:=fs[k].v) rfl (by simp[hk]))) ET.int Ty.tup R6.lookup (OT.item_tup (i:=1) rfl rfl)) (aa rfl ad) (ao (lb hl) dc) ih _ (fun _ _ _=>rfl))
theorem wD{L}{j:Nat}(hH:H[j]?=some (some (.list L))):∀way acc,(∀k∈way,k<fs.length)→acc.length+way.length≤100→
  CF n (Du (ax 208) (Ir)) (Ir) 0 (fun H=>H[j]?=some (some (.list L)),fun _=>True) (way.map fun(k:Nat)=>V.int k) [("functions",DJ fs)] acc H (acc++(aG fs way).map V.str) H:=by
 intro way
 induction way with
 |nil=>
  intro acc _ _;rw[show(aG fs []).map V.str=[] from rfl,Ra];exact CF.nil hH _ _ (fun _ _ _=>rfl)
 |cons k way ih=>
  intro acc hg hl;have hk:=hg k QR;have ih:=ih (acc++[.str fs[k].text]) (fun g h=>hg g (QQ _ h)) (by simp at hl⊢;exact ik hl);exact J (show acc++(aG fs (k::way)).map V.str=(acc++[.str fs[k].text])++(aG fs way).map V.str by simp[aG,hk]) (CF.cons hH trivial (AT.name (ST.local rfl)) eI.nil (ET.sub (ET.sub ET.name ET.name Ty.lst Rp.lookup (OT.aZ (x:=fs[k].v) rfl (by simp[hk]))) ET.int Ty.tup R6.lookup (OT.item_tup (i:=1) rfl rfl)) (aa rfl ad) (ao (lb hl) dc) ih _ (fun _ _ _=>rfl))
end
noncomputable def bK(calls ticks:List (List Rj))(way:List Nat):AH:=[some (.list (calls.map fun l=> .lst (l.map V.str))),some (.list (ticks.map fun l=> .lst (l.map V.str))),some (.list (way.map fun(k:Nat)=>V.int k))]
theorem hU:∀ob,some ob∈bK calls ticks way→ob.dF 11=true∨ob.dF (11+(bK calls ticks way).length)=true:=by
 intro ob h;have hl:∀(L:List (List Rj)),bD 11 (L.map fun l=>V.lst (l.map V.str))=true:=fun L=>cz.mpr fun x hx=>by
  obtain⟨l,_,rfl⟩:=Q4.mp hx;exact cz.mpr fun y hy=>by obtain⟨z,_,rfl⟩:=Q4.mp hy;rfl
 simp only[bK,QX,Yu,Rb,or_false] at h;rcases h with rfl|rfl|rfl
 ·exact .inl (hl _)
 ·exact .inl (hl _)
 ·exact .inl (cz.mpr fun x hx=>by obtain⟨k,_,rfl⟩:=Q4.mp hx;rfl)
structure RS where
 t:Tg
 calls:List (List Rj)
 ticks:List (List Rj)
 way:List Nat
@[reducible] noncomputable def RS.h (r:RS):AH:=r.t.h (bK r.calls r.ticks r.way) []
noncomputable def mt:Rj:="&lt;<>\r\"\t\n"
noncomputable def BK(i:Nat):Rj:=⟨#[mt.cps.getD i 0]⟩
theorem BL:∀i<10,(VG ((i:Nat):Int) mt.length).bind (mt.cps[·]?)=some (mt.cps.getD i 0):=by decide+kernel
noncomputable def RS.tick(fs:List LF)(x:Int)(r:RS):RS:=
 {r with t:=if r.t.ig=0 then {r.t with data:=r.t.data++[BK ((x.fdiv 5).fmod 10).toNat]} else r.t,ticks:=r.ticks++[aG fs r.way]}
noncomputable abbrev AG(fs:List LF)(bk:V):Loc:=[("calls", .ref 11),("ticks", .ref 12),("way", .ref 13),("names", .lst (fs.map fun f=> .str f.nm)),("deeds",bk),("functions",DJ fs),("target", .ref 2)]
noncomputable abbrev y6(fs:List LF)(bk:V)(x:Int):Loc:=("k", .int ((x.fdiv 5).fmod 4))::("x", .int x)::AG fs bk
noncomputable def PC:List U3:=Dt (au (Dt (au (rB) 1)) 0)
section
variable{n:Nat}{H:AH}{F:Fx}{ρ:Loc}
theorem nT(B:Base){fs}{bk}{x}{r:RS}(hd:r.t.data.length≤1000)(ht:r.ticks.length≤1000)(hw:r.way.length≤100)(hk:∀k∈r.way,k<fs.length):
  af (n+1) (ax 208) (PC) (y6 fs bk x) r.h .next (y6 fs bk x) (r.tick fs x).h:=by
 let t1:Tg:=if r.t.ig=0 then {r.t with data:=r.t.data++[BK ((x.fdiv 5).fmod 10).toNat]} else r.t
 have hr:(decide ((x.fdiv 5).fmod 10< -(2^63:Int))||decide ((x.fdiv 5).fmod 10≥2^63))=false:=AL (ct (x.fdiv 5) (b:=10) dc).1 (ct (x.fdiv 5) (b:=10) dc).2;have hc:(VG ((x.fdiv 5).fmod 10) mt.length).bind (mt.cps[·]?)=some (mt.cps.getD ((x.fdiv 5).fmod 10).toNat 0):=by
  exact(ct (x.fdiv 5) (b:=10) dc).1▸(BL _ (ct (x.fdiv 5) (b:=10) dc).2)
 refine af.cons (H1:=t1.h (bK r.calls r.ticks r.way) []) (XT.expr (ET.aQ ET.name (GM.t B rfl (Bt) rfl)
  (ab.cons (ET.sub (ET.str) (ET.binop (ET.binop ET.name ET.int (OT.floordiv_int dc rfl)) ET.int (OT.mod_int dc)) Ty.str VL.lookup (OT.item_str hc hr)) ab.nil) (aL.def (HA B)) (wb B (As hd)))) ?_
 have Ma:(t1.h (bK r.calls r.ticks r.way) [])[12]?=some (some (.list (r.ticks.map fun l=> .lst (l.map V.str)))):=rfl;have tG:(t1.h (bK r.calls r.ticks r.way) [])[13]?=some (some (.list (r.way.map fun(k:Nat)=>V.int k))):=rfl;have nf:(t1.h (bK r.calls r.ticks r.way) []).set 12 (some (.list ((r.ticks.map fun l=>V.lst (l.map V.str))++[.lst ((aG fs r.way).map V.str)])))=(r.tick fs x).h:=by
  exact(show(r.ticks++[aG fs r.way]).map (fun l=>V.lst (l.map V.str))=(r.ticks.map fun l=>V.lst (l.map V.str))++[.lst ((aG fs r.way).map V.str)] from Rc)▸rfl
 refine aO nf ?_;exact af.cons (XT.expr (ET.aQ ET.name (GM.of (Ty.ah Ma) (aH.ah Ma) Rf St RB)
  (ab.cons (ET.cK (aq.of rfl (aa rfl ad)) (IT.val ET.name (VT.ref tG)) (wD tG r.way [] hk (by simp;exact hw)) (by unfold aG;simp;exact gy hw)) ab.nil) aL.builtin (CT.append Ma (J (QP ..) (As ht))))) af.nil
end
noncomputable def cN(name:Rj):Rj:="{"++name++"}c"
section
variable{n:Nat}{H:AH}{F:Fx}{ρ:Loc}{f:LF}
theorem wE(B:Base){fs}{bk}{x}{t:Tg}{calls ticks}{ws}{k}(hf:fs[k]?=some f)(hz:f.nm.length≤20)(hq:QN (cN f.nm) f.nm "c")(ok:t.ok)(fit:t.fit)(hm:t.ig=0→f.nm∈(live t.lv).flatten)(c6:t.us.length<100)(wo:t.k=(live t.lv).length+1):
  af (n+4+1+1) (ax 208) (uI (au (Dt (au (rB) 1)) 0)) (y6 fs bk x) (t.h (bK calls ticks (ws++[k])) []) .next (y6 fs bk x) ((t.iu f.nm "c").h (bK calls ticks ws) []):=by
 have e1:"{".length=1:=rfl;have e2:"}c".length=2:=rfl;have tG:(t.h (bK calls ticks (ws++[k])) [])[13]?=some (some (.list ((ws.map fun(k:Nat)=>V.int k)++[.int k]))):=by
  show some (some (AO.list ((ws++[k]).map _)))=_;exact J Rc rfl
 have hx:(fs.map fun f=>V.str f.nm)[k]?=some (.str f.nm):=by refine J R3 (J hf ?_);rfl
 have hp:=CT.pop (n:=n+4+1+1) tG;rw[(show(t.h (bK calls ticks (ws++[k])) []).set 13 (some (.list (ws.map fun(k:Nat)=>V.int k)))=t.h (bK calls ticks ws) [] from rfl)] at hp;exact af.cons (XT.expr (ET.aQ ET.name (GM.t B rfl (yP) rfl)
  (ab.cons (ET.binop (ET.binop ET.str (ET.sub ET.name (ET.aQ ET.name (GM.of (Ty.ah tG) (aH.ah tG) Rf TA Tz) ab.nil aL.builtin hp) Ty.lst Rp.lookup (OT.aZ rfl hx)) (OT.add_str (iF (ao (a9 (bC e1) hz) dc)))) ET.str (OT.add_str (J (Q7 ..) (iF (ao (a9 (a9 (bC e1) hz) (bC e2)) dc))))) ab.nil) (aL.def (uF B))
  (qB B ok fit hU hq hm c6 wo))) af.nil
theorem wF(B:Base){fs}{bk}{t:Tg}{calls ticks}{ws}{k}(hf:fs[k]?=some f)(hz:f.nm.length≤20)(hq:QN (cN f.nm) f.nm "c")(ok:t.ok)(fit:t.fit)(hm:t.ig=0→f.nm∈(live t.lv).flatten)(c6:t.us.length<100)(wo:t.k=(live t.lv).length+1):
  af (n+4+1+1) (ax 208) (fZ (au (bodyOf 208) 3)) (AG fs bk) (t.h (bK calls ticks (ws++[k])) []) .next (AG fs bk) ((t.iu f.nm "c").h (bK calls ticks ws) []):=by
 have e1:"{".length=1:=rfl;have e2:"}c".length=2:=rfl;have tG:(t.h (bK calls ticks (ws++[k])) [])[13]?=some (some (.list ((ws.map fun(k:Nat)=>V.int k)++[.int k]))):=by
  show some (some (AO.list ((ws++[k]).map _)))=_;exact J Rc rfl
 have hx:(fs.map fun f=>V.str f.nm)[k]?=some (.str f.nm):=by refine J R3 (J hf ?_);rfl
 have hp:=CT.pop (n:=n+4+1+1) tG;rw[(show(t.h (bK calls ticks (ws++[k])) []).set 13 (some (.list (ws.map fun(k:Nat)=>V.int k)))=t.h (bK calls ticks ws) [] from rfl)] at hp;exact af.cons (XT.expr (ET.aQ ET.name (GM.t B rfl (yP) rfl)
  (ab.cons (ET.binop (ET.binop ET.str (ET.sub ET.name (ET.aQ ET.name (GM.of (Ty.ah tG) (aH.ah tG) Rf TA Tz) ab.nil aL.builtin hp) Ty.lst Rp.lookup (OT.aZ rfl hx)) (OT.add_str (iF (ao (a9 (bC e1) hz) dc)))) ET.str (OT.add_str (J (Q7 ..) (iF (ao (a9 (a9 (bC e1) hz) (bC e2)) dc))))) ab.nil) (aL.def (uF B))
  (qB B ok fit hU hq hm c6 wo))) af.nil
end
noncomputable def AI(caller name:Rj):Rj:="{"++caller++"\n"++name++"}by"
noncomputable def aT(fs:List LF)(k:Nat):Rj:=(fs[k]?.map LF.nm).getD ""
noncomputable def qM(name:Rj):Nm:=⟨cN name,name,"c"⟩
noncomputable def eZ(fs:List LF)(way:List Nat)(name:Rj):List (Nm×Rj):=match way.getLast? with
 |some j=>[(⟨AI (aT fs j) name,aT fs j++"\n"++name,"by"⟩,aT fs j)]
 |none=>[]
noncomputable def RS.start(fs:List LF)(k:Nat)(r:RS):RS:=
 {r with t:=r.t.startT (qM (aT fs k)) (eZ fs r.way (aT fs k)),way:=r.way++[k],calls:=r.calls++[aG fs (r.way++[k])]}
theorem wG:∀(way:List Nat),ed (way.map fun(k:Nat)=>V.int k)=some (way.map fun(k:Nat)=>WT k)∧Tl (way.map fun(k:Nat)=>WT k)=true∧TL (way.map fun(k:Nat)=>WT k)≤1:=by
 intro rv
 induction rv with
 |nil=>
  exact⟨rfl,rfl,Rr _⟩
 |cons k way ih=>
  refine⟨?_, ?_, ?_⟩
  ·refine J (Q8 ..) (J (eN ..) (J (ih.1 ..) ?_));rfl
  ·simp[Tl,X3,ih.2.1]
  ·simp only[Q8,TL,Yy];lia
section
variable{n:Nat}{H:AH}{F:Fx}{ρ:Loc}
theorem OT.jS{way:List Nat}(tG:H[13]?=some (some (.list (way.map fun(k:Nat)=>V.int k)))):OT (n+8) (RZ .NotEq) (.ref 13) (.lst []) H (.bool (!way.isEmpty)) H:=by
 obtain⟨h1,h2,h3⟩:=wG way;have hd:gC H (.ref 13)=some (.list (way.map fun(k:Nat)=>WT k)):=by
  delta gC
  simp only[tG,h1];rfl
 have e:TS (.list (way.map fun(k:Nat)=>WT k)) (.list [])=way.isEmpty:=by
  cases way<;>rfl
 exact e▸(OT.ne (n:=n) (y:= .lst []) hd rfl (by simp[TP,X3,Yy,h2];exact eG h3) rfl)
end
noncomputable def PE:List U3:=uI (au (rB) 1)
section
variable{n:Nat}{H:AH}{F:Fx}{ρ:Loc}
theorem jp(h:fs[k]?=some f):aT fs k=f.nm:=by delta aT;exact h▸rfl
theorem tH(B:Base){fs}{bk}{x:Int}{r:RS}{k:Nat}{f}(ek:(x.fdiv 5).fmod 4=k)(hf:fs[k]?=some f)(NJ:∀j∈r.way,j<fs.length)(hg:∀f∈fs,f.nm.length≤20)
  (O:Op (qM f.nm) (eZ fs r.way f.nm)) (ok:r.t.ok) (fit:r.t.fit) (h1:(live r.t.lv).flatten.length≤198) (h2:r.t.us.length≤98) (wo:r.t.k=(live r.t.lv).length+1) (pH:r.t.k≤1000) (hw:r.way.length≤90) (hc:r.calls.length≤1000):
  af (n+8) (ax 208) (PE) (y6 fs bk x) r.h .next (y6 fs bk x) (r.start fs k).h:=by
 have e1:"{".length=1:=rfl;have e2:"}c".length=2:=rfl;have e3:"\n".length=1:=rfl;have e4:"}by".length=3:=rfl;have DK:=hg f (RJ hf);have hx:(fs.map fun f=>V.str f.nm)[k]?=some (.str f.nm):=by refine J R3 (J hf ?_);rfl
 have tG:r.h[13]?=some (some (.list (r.way.map fun(k:Nat)=>V.int k))):=rfl;have aU:=OT.jS (n:=n) tG;let sv:V:= .bw (gv ((eZ fs r.way f.nm).map fun a=>(a.1.q,a.2)));let am:Loc:=("step",sv)::y6 fs bk x;have fV:∀m z,(y6 fs bk x).lookup m=some z→am.lookup m=some z:=fun m z h=>by
  refine J lookup_cons (bl (fun _=> ?_) fun _=> ?_)
  ·rename_i e;subst e;cases h
  ·exact h
 refine af.sub ?_ fV;refine af.cons (H1:=r.h) (XT.assign (x:=sv) ?_ (bv.one (AT.name (ST.local rfl)))) ?_
 ·rcases Td r.way with F8|⟨ws,j,nU⟩
  ·have ea:sv= .bw []:=by show V.bw (gv ((eZ fs r.way f.nm).map _))=_;exact F8▸rfl
   refine J ea ?_;rw[F8] at aU;exact ET.db (TT.cmp ET.name (ET.list ab.nil) aU) (fun h=>by cases h) (fun _=>ET.ut B.mods)
  ·have nU:r.way=ws++[j]:=by refine J nU ?_;simp
   obtain⟨g,y7⟩:∃g,fs[j]?=some g:=⟨_,Rg (NJ j (by refine J nU ?_;simp))⟩;have JV:=hg g (RJ y7);have ea:sv= .bw [(AI g.nm f.nm, .str g.nm)]:=by
    show V.bw (gv ((eZ fs r.way f.nm).map _))=_;refine J nU ?_
    delta eZ
    refine J TN ?_;simp only[jp y7];rfl
   have NK:(fs.map fun f=>V.str f.nm)[j]?=some (.str g.nm):=by refine J R3 (J y7 ?_);rfl
   have BM:r.h[13]?=some (some (.list ((ws.map fun(k:Nat)=>V.int k)++[.int j]))):=by refine J tG (J nU (J Rc ?_));rfl
   have Mb:OT (n+8) (RZ .NotEq) (.ref 13) (.lst []) r.h (.bool true) r.h:=by
    have:(!r.way.isEmpty)=true:=by refine J nU ?_;simp
    exact this▸aU
   refine J ea (ET.db (TT.cmp ET.name (ET.list ab.nil) Mb) (fun _=>ET.Da B.mods ?_ (ET.sub ET.name (ET.sub ET.name (ET.unary ET.int j1.neg) (Ty.ah BM) Rp.lookup (OT.de (i:=ws.length) BM (by simp;lia) (by simp))) Ty.lst Rp.lookup (OT.aZ rfl NK))) (fun h=>by cases h));exact ET.binop (ET.binop (ET.binop (ET.binop ET.str (ET.sub ET.name (ET.sub ET.name (ET.unary ET.int j1.neg) (Ty.ah BM) Rp.lookup (OT.de (i:=ws.length) BM (by simp;lia) (by simp))) Ty.lst Rp.lookup (OT.aZ rfl NK)) (OT.add_str (iF (ao (a9 (bC e1) JV) dc)))) ET.str (OT.add_str (J (Q7 ..) ((iF (ao (a9 (a9 (bC e1) JV) (bC e3)) dc))))))
    (ET.sub ET.name ET.name Ty.lst Rp.lookup (OT.aZ ek hx)) (OT.add_str (by simp only[Q7];exact iF (ao (a9 (a9 (a9 (bC e1) JV) (bC e3)) DK) dc)))) ET.str (OT.add_str (by simp only[Q7];exact iF (ao (a9 (a9 (a9 (a9 (bC e1) JV) (bC e3)) DK) (bC e4)) dc)))
 ·let t1:Tg:=r.t.startT (qM f.nm) (eZ fs r.way f.nm);refine af.cons (XT.expr (ET.aQ ET.name (GM.t B rfl (yO) rfl)
   (ab.cons (ET.binop (ET.binop ET.str (ET.sub ET.name ET.name Ty.lst Rp.lookup (OT.aZ ek hx)) (OT.add_str (iF (ao (a9 (bC e1) DK) dc)))) ET.str (OT.add_str (J (Q7 ..) (iF (ao (a9 (a9 (bC e1) DK) (bC e2)) dc))))) (ab.cons ET.name ab.nil)) (aL.def (yB B))
   (tD B hU O ok fit h1 h2 wo pH))) ?_
  have E7:(t1.h (bK r.calls r.ticks r.way) [])[13]?=some (some (.list (r.way.map fun(k:Nat)=>V.int k))):=rfl;have It:(t1.h (bK r.calls r.ticks r.way) []).set 13 (some (.list ((r.way.map fun(k:Nat)=>V.int k)++[.int ((x.fdiv 5).fmod 4)])))=t1.h (bK r.calls r.ticks (r.way++[k])) []:=by
   have:(r.way++[k]).map (fun(k:Nat)=>V.int k)=(r.way.map fun(k:Nat)=>V.int k)++[.int ((x.fdiv 5).fmod 4)]:=by refine J Rc (J ek ?_);rfl
   exact this▸rfl
  refine af.cons (am:=am) (H1:=t1.h (bK r.calls r.ticks (r.way++[k])) []) ?_ ?_
  ·refine aO It ?_;exact XT.expr (ET.aQ ET.name (GM.of (Ty.ah E7) (aH.ah E7) Rf St RB) (ab.cons ET.name ab.nil) aL.builtin (CT.append E7 (J (QP ..) ((As hw)))))
  ·have Mc:(t1.h (bK r.calls r.ticks (r.way++[k])) [])[11]?=some (some (.list (r.calls.map fun l=> .lst (l.map V.str)))):=rfl;have Iu:(t1.h (bK r.calls r.ticks (r.way++[k])) [])[13]?=some (some (.list ((r.way++[k]).map fun(k:Nat)=>V.int k))):=rfl;have PF:=wC (n:=n+8) Iu (r.way++[k]) [] (fun j hj=>by
    rcases Q9.mp hj with hj|hj
    ·exact NJ j hj
    ·exact J (QV.mp hj) (((QY.mp hf).1))) (by simp;exact eG hw)
   have nf:(t1.h (bK r.calls r.ticks (r.way++[k])) []).set 11 (some (.list ((r.calls.map fun l=>V.lst (l.map V.str))++[.lst ((aG fs (r.way++[k])).map V.str)])))=(r.start fs k).h:=by
    show _=(r.t.startT (qM (aT fs k)) (eZ fs r.way (aT fs k))).h (bK (r.calls++[aG fs (r.way++[k])]) r.ticks (r.way++[k])) [];exact J (jp hf) ((show(r.calls++[aG fs (r.way++[k])]).map (fun l=>V.lst (l.map V.str))=(r.calls.map fun l=>V.lst (l.map V.str))++[.lst ((aG fs (r.way++[k])).map V.str)] from Rc)▸rfl)
   refine aO nf ?_;exact af.cons (XT.expr (ET.aQ ET.name (GM.of (Ty.ah Mc) (aH.ah Mc) Rf St RB)
    (ab.cons (ET.cK (aq.of rfl (aa rfl ad)) (IT.val ET.name (VT.ref Iu)) PF (by delta aG;simp;exact iF (ao (a9 hw (QM _)) dc))) ab.nil) aL.builtin (CT.append Mc (J (QP ..) (As hc))))) af.nil
end
noncomputable def RS.fin(fs:List LF)(r:RS):RS:={r with t:=r.t.iu (aT fs (r.way.getLast?.getD 0)) "c",way:=r.way.dropLast}
noncomputable def RS.step(fs:List LF)(x:Int)(r:RS):RS:=
 if x.fmod 5<2 then r.start fs ((x.fdiv 5).fmod 4).toNat else if x.fmod 5=2∧1<r.way.length then r.fin fs else r.tick fs x
structure Iv(fs:List LF)(r:RS):Prop where
 fl:fs.length=4
 nl:∀f∈fs,f.nm.length≤20
 wk:∀j∈r.way,j<fs.length
 wl:r.way.length≤90
 cl:r.calls.length≤1000
 tl:r.ticks.length≤1000
 dl:r.t.data.length≤1000
 ok:r.t.ok
 fit:r.t.fit
 flat:(live r.t.lv).flatten.length≤198
 us:r.t.us.length≤98
 k0:r.t.k=(live r.t.lv).length+1
 k2:r.t.k≤1000
 op:∀k,k<4→Op (qM (aT fs k)) (eZ fs r.way (aT fs k))
 qn:∀j∈r.way,QN (cN (aT fs j)) (aT fs j) "c"
 mem:∀ws j,r.way=ws++[j]→r.t.ig=0→aT fs j∈(live r.t.lv).flatten
section
variable{n:Nat}{H:AH}{F:Fx}{ρ:Loc}
theorem wH(B:Base){fs}{bk}{x}{r}(C:Iv fs r):af (n+8) (ax 208) (rB) (("x", .int x)::AG fs bk) r.h .next (AG fs bk) (r.step fs x).h:=by
 let k:=((x.fdiv 5).fmod 4).toNat;have NL:=(ct (x.fdiv 5) (b:=4) dc).2;obtain⟨f,hf⟩:∃f,fs[k]?=some f:=⟨_,Rg (C.fl▸NL)⟩;refine af.cons (am:=y6 fs bk x) (XT.assign (ET.binop (ET.binop ET.name ET.int (OT.floordiv_int dc rfl)) ET.int (OT.mod_int dc)) (bv.one (AT.name (ST.local rfl)))) ?_;have ce:=OT.lt_int (n:=n+8) (a:=x.fmod 5) (b:=2) (H:=r.h);refine af.cons (am:=y6 fs bk x) ?_ (af.sub af.nil (fun m z h=>by
  refine J lookup_cons (J lookup_cons ?_);refine bl (fun _=> ?_) fun _=> ?_
  ·rename_i e;subst e;cases h
  ·refine bl (fun _=> ?_) fun _=> ?_
   ·rename_i e;subst e;cases h
   ·exact h))
 by_cases c2:x.fmod 5<2
 ·refine J (show r.step fs x=r.start fs k from if_pos c2) ?_;rw[show decide (x.fmod 5<2)=true from by simp[c2]] at ce;have op:=C.op k NL;rw[(jp hf)] at op;exact XT.ite (TT.cmp (ET.binop ET.name ET.int (OT.mod_int dc)) ET.int ce) (fun _=>tH B (ct (x.fdiv 5) (b:=4) dc).1 hf C.wk C.nl op C.ok C.fit C.flat C.us C.k0 C.k2 C.wl C.cl) (fun h=>by cases h)
 ·replace ce:=(show decide (x.fmod 5<2)=false from by simp[c2])▸ce;refine XT.ite (TT.cmp (ET.binop ET.name ET.int (OT.mod_int dc)) ET.int ce) (fun h=>by cases h) (fun _=>af.cons ?_ af.nil);have heq:=OT.eq_int (n:=n+8) (a:=x.fmod 5) (b:=2) (H:=r.h);have JW:=OT.gt_int (n:=n+8) (a:=((r.way.map fun(k:Nat)=>V.int k).length:Nat)) (b:=1) (H:=r.h);have hlen:ET (n+8) (ax 208) (EW (E4 1 (EV (au (Dt (au (rB) 1)) 0)))) (y6 fs bk x) r.h (.int ((r.way.map fun(k:Nat)=>V.int k).length:Nat)) r.h:=
   ET.call (ET.ay B (jF) jI) (ab.cons ET.name ab.nil) aL.builtin (CT.ur rfl)
  by_cases c3:x.fmod 5=2
  ·rw[show(x.fmod 5==2)=true from by simp[c3]] at heq;by_cases c1:1<r.way.length
   ·have es:r.step fs x=r.fin fs:=by delta RS.step;rw[if_neg c2,if_pos ⟨c3,c1⟩]
    refine J es ?_;rw[show decide ((((r.way.map fun(k:Nat)=>V.int k).length:Nat):Int)>1)=true from by simp;exact ol c1] at JW;refine XT.ite (TT.bn (aJ.and_true (TT.cmp (ET.binop ET.name ET.int (OT.mod_int dc)) ET.int heq) (aJ.and_true (TT.cmp hlen ET.int JW) aJ.and_nil))) (fun _=> ?_) (fun h=>by cases h);rcases Td r.way with F8|⟨ws,j,nU⟩
    ·rw[F8] at c1;simp at c1
    ·have nU:r.way=ws++[j]:=by refine J nU ?_;simp
     have Iw:j∈r.way:=by refine J nU ?_;simp
     obtain⟨g,y7⟩:∃g,fs[j]?=some g:=⟨_,Rg (C.wk j Iw)⟩;have Ix:=jp y7;have q:=C.qn j Iw;have m:=C.mem ws j nU;rw[Ix] at q m;have ef:r.fin fs={r with t:=r.t.iu g.nm "c",way:=ws}:=by
      delta RS.fin
      refine J nU (J TN (J Vw ?_));show({r with t:=r.t.iu (aT fs j) "c",way:=ws}:RS)=_;rw[Ix]
     refine J ef ?_;have:=wE (n:=n+2) B (bk:=bk) (x:=x) (calls:=r.calls) (ticks:=r.ticks) (ws:=ws) y7 (C.nl g (RJ y7)) q C.ok C.fit m (by have:=C.us;exact Kc this) C.k0;rw[←nU] at this;exact this
   ·have es:r.step fs x=r.tick fs x:=by delta RS.step;rw[if_neg c2,if_neg (fun h=>c1 h.2)]
    refine J es ?_;rw[show decide ((((r.way.map fun(k:Nat)=>V.int k).length:Nat):Int)>1)=false from by simp;lia] at JW;exact XT.ite (TT.bn (aJ.and_true (TT.cmp (ET.binop ET.name ET.int (OT.mod_int dc)) ET.int heq) (aJ.and_false (TT.cmp hlen ET.int JW)))) (fun h=>by cases h) (fun _=>nT B C.dl C.tl (eG C.wl) C.wk)
  ·have es:r.step fs x=r.tick fs x:=by delta RS.step;rw[if_neg c2,if_neg (fun h=>c3 h.1)]
   refine J es ?_;replace heq:=(show(x.fmod 5==2)=false from by rw[beq_eq_false_iff_ne];exact c3)▸heq;exact XT.ite (TT.bn (aJ.and_false (TT.cmp (ET.binop ET.name ET.int (OT.mod_int dc)) ET.int heq))) (fun h=>by cases h) (fun _=>nT B C.dl C.tl (eG C.wl) C.wk)
end
noncomputable def mu(fs:List LF):Nat→RS→Prop
 |0,r=>r.way=[]
 |m+1,r=>r.way≠[]∧Iv fs r∧mu fs m (r.fin fs)
noncomputable def RS.down(fs:List LF):Nat→RS→RS
 |0,r=>r
 |m+1,r=>RS.down fs m (r.fin fs)
noncomputable def RS.run(fs:List LF):List Int→RS→RS
 |[],r=>RS.down fs r.way.length r
 |x::xs,r=>RS.run fs xs (r.step fs x)
noncomputable def nV(fs:List LF):List Int→RS→Prop
 |[],r=>mu fs r.way.length r
 |x::xs,r=>Iv fs r∧nV fs xs (r.step fs x)
section
variable{n:Nat}{H:AH}{F:Fx}{ρ:Loc}
theorem wI(B:Base){fs}{bk}:∀m r,mu fs m r→
  XW (n+8) (ax 208) (Nt (au (bodyOf 208) 3)) (fZ (au (bodyOf 208) 3)) [] (AG fs bk) r.h .next (AG fs bk) (r.down fs m).h:=by
 intro rv
 induction rv with
 |zero=>
  intro r h;have aU:=OT.jS (n:=n) (H:=r.h) rfl;rw[show(!r.way.isEmpty)=false from by rw[h];rfl] at aU;exact XW.done (TT.cmp ET.name (ET.list ab.nil) aU) af.nil
 |succ m ih=>
  intro r h;obtain⟨h0,C,h'⟩:=h;have aU:=OT.jS (n:=n) (H:=r.h) rfl;rw[show(!r.way.isEmpty)=true from by simp[h0]] at aU;rcases Td r.way with F8|⟨ws,j,nU⟩
  ·exact absurd F8 h0
  ·have nU:r.way=ws++[j]:=by refine J nU ?_;simp
   have Iw:j∈r.way:=by refine J nU ?_;simp
   obtain⟨g,y7⟩:∃g,fs[j]?=some g:=⟨_,Rg (C.wk j Iw)⟩;have Ix:=jp y7;have q:=C.qn j Iw;have mm:=C.mem ws j nU;rw[Ix] at q mm;have ef:r.fin fs={r with t:=r.t.iu g.nm "c",way:=ws}:=by
    delta RS.fin
    refine J nU (J TN (J Vw ?_));show({r with t:=r.t.iu (aT fs j) "c",way:=ws}:RS)=_;rw[Ix]
   have:=wF (n:=n+2) B (bk:=bk) (calls:=r.calls) (ticks:=r.ticks) (ws:=ws) y7 (C.nl g (RJ y7)) q C.ok C.fit mm (by have:=C.us;exact Kc this) C.k0;rw[←nU] at this;refine XW.turn (TT.cmp ET.name (ET.list ab.nil) aU) ?_ (ih (r.fin fs) h');exact ef▸this
theorem tI(B:Base){fs}{bk}:∀xs r,nV fs xs r→
  ∃r',mu fs r'.way.length r'∧r.run fs xs=r'.down fs r'.way.length∧XF (n+8) (ax 208) (fun _=>True,fun _=>True) (jH (au (bodyOf 208) 2)) (rB) [] (xs.map V.int) (AG fs bk) r.h .next (AG fs bk) r'.h:=by
 intro rv
 induction rv with
 |nil=>
  intro r h;exact⟨r,h,rfl,XF.nil trivial af.nil⟩
 |cons x xs ih=>
  intro r h;refine QK fun kG=> ?_;obtain⟨r',d,e,ih⟩:=ih (r.step fs x) h.2;refine kG ?_;exact⟨r',d,e,XF.cons trivial trivial (AT.name (ST.local rfl)) (wH B h.1) ih⟩
theorem y8(B:Base){fs}{xs}{ex}(hg:∀f∈fs,f.good)(hl:fs.length≤10)(h:nV fs xs ⟨Tg.t0 ex,[],[],[]⟩):
  CT (n+8+1+1) (.st (.ref 208)) [.lst (xs.map V.int),DJ fs, .ref 2] [] ((Tg.t0 ex).h [] []) (.tup [.ref 11, .ref 12]) (RS.run fs xs ⟨Tg.t0 ex,[],[],[]⟩).h:=by
 refine QK fun kG=> ?_;obtain⟨r',d,e,wh⟩:=tI B xs _ h;refine kG (J e ?_);let bs:Loc:=[("deeds", .lst (xs.map V.int)),("functions",DJ fs),("target", .ref 2)];refine CT.fn (g:= .ret (.tup [.ref 11, .ref 12])) (am:=AG fs (.lst (xs.map V.int))) (bs:=bs) B (Dl B) (Binds.b3 B (HK)) (show [("deeds":Rj),"functions","target"].Nodup by decide) rfl ?_;refine af.cons (XT.cK (aq.of rfl ad) (IT.val ET.name VT.lst) (tF B fs [] hg (by simp;exact eG hl)) (by simp;exact gy hl) (ST.local rfl) (fun env E=>kT E rfl rfl rfl)) ?_;refine af.cons (XT.fQ (xs:=["calls","ticks","way"]) (ET.tuple (ab.cons (ET.d9 ab.nil) (ab.cons (ET.d9 ab.nil) (ab.cons (ET.d9 ab.nil) ab.nil))) (show 3≤QW by decide)) ⟨ST.local rfl,ST.local rfl,ST.local rfl,trivial⟩ rfl (fun _=>rfl) (fun env E=>cX E rfl)) ?_;refine af.cons (XT.for (IT.val ET.name VT.lst) wh) (af.cons (XT.while (wI B r'.way.length r' d)) (af.ret (XT.ret (ET.tuple (ab.cons ET.name (ab.cons ET.name ab.nil)) dc))))
end
section
variable{n:Nat}{F:Fx}{ρ dH am:Loc}{H H1 H2:AH}
theorem AT.nm(h:autoParam (F.names.lookup x=some .local) aK):AT n F (.Name x pos) y ρ H ((x,y)::ρ) H:=AT.name (ST.local h)
theorem bv.nm(h:autoParam (F.names.lookup x=some .local) aK):bv n F [.Name x pos] y ρ H ((x,y)::ρ) H:=bv.one (AT.nm h)
theorem AT.two{k}{u v}(h:autoParam (F.names.lookup x=some .local) aK)(h':autoParam (F.names.lookup y=some .local) aK):
  AT n F (.Tuple [.Name x p1, .Name y p2] k p) (.tup [u,v]) ρ H ((y,v)::(x,u)::ρ) H:=AT.tuple (aW.cons (AT.nm h) (aW.cons (AT.nm h') aW.nil))
theorem CF.Iy{α:Type}{elt target iter}{ifs}{scope}{pos}{P}{vx y}{b}(hp:P.1 H)(hT:P.2 target):∀(xs:List α) acc,
  (∀x∈xs,∃am,AT n F target (vx x) ρ H am H∧eI n F ifs am H (b x) H∧(b x=true→ET n F elt am H (y x) H)∧∀m z,ρ.lookup m=some z→am.lookup m=some z)→acc.length+xs.length≤QW→
  CF n F (.ListComp elt [⟨target,iter,ifs,0⟩] scope pos) 0 P (xs.map vx) ρ acc H (acc++(xs.filter b).map y) H:=by
 intro rv
 induction rv with
 |nil=>
  intro acc _ _;rw[List.filter_nil,RY,RY,Ra];exact CF.nil hp _ _ (fun _ _ _=>rfl)
 |cons x xs ih=>
  intro acc h hz;refine QK fun kG=> ?_;obtain⟨am,ht,hi,he,hs⟩:=h x QR;refine kG ?_;have ih:=fun acc hz=>ih acc (fun x hx=>h x (QQ _ hx)) hz;cases hb:b x with
  |true=>
   refine J (T2 hb) (J (Q8 ..) (J (Q8 ..) (J (List.append_cons ..) ?_)));exact CF.cons hp hT ht (hb▸hi) (he hb) hs (lb hz) (ih _ (by simp;exact ik hz)) _ (fun _ _ _=>rfl)
  |false=>
   rw[T3 (by simp[hb]),Q8];exact CF.skip hp hT ht (hb▸hi) hs (ih _ (CJ hz)) _ (fun _ _ _=>rfl)
theorem ET.lc{α:Type}{elt target iter}{ifs}{scope}{pos}{P}(xs:List α){vx} b y(K:aq F scope ρ dH)(hi:IT n F iter ρ H (xs.map vx) P H1)(hp:P.1 H1)(hT:P.2 target)(hz:xs.length≤QW)
  (h:∀x∈xs,∃am,AT n ⟨dT F scope.names,F.code,false,Q6⟩ target (vx x) dH H1 am H1∧eI n ⟨dT F scope.names,F.code,false,Q6⟩ ifs am H1 (b x) H1∧(b x=true→ET n ⟨dT F scope.names,F.code,false,Q6⟩ elt am H1 (y x) H1)∧∀m z,dH.lookup m=some z→am.lookup m=some z)
  (hs:autoParam (∀env x,Sv iter env x=pure x) aI):
  ET n F (.ListComp elt [⟨target,iter,ifs,0⟩] scope pos) ρ H (.lst ((xs.filter b).map y)) H1:=by
 exact ET.cK K hi (CF.Iy hp hT xs [] h (by simpa using hz)) (J (QP ..) (QU (Sk ..) hz)) hs
end
section
variable{n:Nat}{H H1:AH}
noncomputable def nW(is:List Nat)(H:AH):AH:=is.foldl (fun H i=>H.set i none) H
theorem wJ:∀is(H T:AH),(∀i∈is,H.length≤i)→∃T',nW is (H++T)=H++T':=by
 intro rv
 induction rv with
 |nil=>
  intro _ T _;exact⟨T,rfl⟩
 |cons i is ih=>
  intro H T h;obtain⟨T',e'⟩:=ih H (T.set (i-H.length) none) fun j hj=>h j (QQ _ hj);exact⟨T',by refine aO e' (aO (RF _ _ (h i QR)) ?_);rfl⟩
theorem BN(hm:∃o,bo SR=some o){s}:∀is rows W H vs,an W H s→is.Nodup→is.length=rows.length→(∀p∈is.zip rows,H[p.1]?=some (some (.list p.2)))→
  aj W (is.map V.ref) vs→∃W',an W' (nW is H) s∧Gr cr W s W' s∧aj W' (rows.map V.lst) vs:=by
 intro is
 induction is with
 |nil=>
  intro rows W H vs S _ hl _ r;cases rows with
  |nil=>exact⟨W,S,Gr.refl ..,r⟩
  |cons _ _=>cases hl
 |cons i is ih=>
  intro rows W H vs S nd hl hh rl;cases rows with
  |nil=>cases hl
  |cons r rows=>
   refine QK fun kG=> ?_;obtain⟨v,t,e,rv,rt⟩:=rl;obtain⟨W1,S1,G1,l1,hr⟩:=S.lI hm (hh (i,r) QR) rfl;refine kG ?_;obtain⟨W2,S2,G2,r2⟩:=ih rows W1 _ t S1 (Sa.mp nd).2 (Vz hl) (fun p hp=>by
    refine J (Sr (show i≠p.1 from fun q=>(Sa.mp nd).1 (J q (((aao hp).1))))) ?_;exact hh p (QQ _ hp)) (aj.mono l1 rt)
   exact⟨W2,S2,G1.trans G2,v,t,e,(hr v rv).mono G2.le,r2⟩
theorem CT.rows(hm:∃o,bo SR=some o){f}{xs}{ks}{T}{K}{is}{rows}(h:CT n f xs ks H (.ref K) (H++T))(hK:(H++T)[K]?=some (some (.list (is.map V.ref))))(Ij:H.length≤K)
  (nd:(K::is).Nodup) (hi:∀i∈is,H.length≤i) (hl:is.length=rows.length) (hh:∀p∈is.zip rows,(H++T)[p.1]?=some (some (.list p.2))) (hx:(V.lst (rows.map V.lst)).dF H.length=true) (hb:∀ob,some ob∈H→ob.dF H.length=true):
  CT n f xs ks H (.lst (rows.map V.lst)) H:=by
 have JX:=Sa.mp nd;obtain⟨T',eT⟩:=wJ (is++[K]) H T fun i Gv=>(Q9.mp Gv).elim (hi i) fun q=>by exact(QV.mp q)▸Ij
 have eT:(nW is (H++T)).set K none=H++T':=by refine aO eT ?_;delta nW;exact J VV rfl
 refine CT.drop (T:=T') ?_ (QM _) hx hb;refine .mk fun A s W fv vs kv R S rf rx c7 se Q q=>h.run A s W fv vs kv R S rf rx c7 se Q fun v s1 W1 G1 S1 r1=> ?_;obtain⟨a,p,hI,us,m,ho,ru,hz⟩:=S1.live _ _ hK;obtain⟨W2,S2,G2,r2⟩:=BN hm is rows W1 _ us S1 JX.2 hl hh ru;have p2:=Wd.eM G2.le p;have AA:W2.I a=none:=by
  cases e:W2.I a with
  |none=>rfl
  |some o=>
   have hk:∀is H,K∉is→(nW is H)[K]?=H[K]?:=fun is=>by
    induction is with
    |nil=>exact fun _ _=>rfl
    |cons i is ih=>
     intro H hn;show(nW is (H.set i none))[K]?=_;rw[ih _ fun q=>hn (QQ _ q),Sr fun(q:i=K)=>hn (q▸QR)]
   obtain⟨a',p',KX,_⟩:=S2.live K _ ((hk is _ JX.1).trans hK);replace p':=p2▸p';cases p';cases KX.symm.trans e
 obtain⟨S3,G3,l3⟩:=S2.freeze p2 AA ho;replace S3:=eT▸S3;obtain⟨b,e,pb⟩:=r1;cases p.symm.trans pb;refine q v s1 _ ((G1.trans G2).trans G3) S3 ⟨a,us,m,e,Wd.ak ..,aj.mono l3 r2, ?_⟩;refine J (QP ..) (aO (hl ..) ?_);exact(QP ..)▸hz
end
structure At where
 p:Rj
 l:Rj
 v:Rj
structure Rw where
 nm:Rj
 new:Nat
 own:Nat
 whole:Nat
 caller:Rj
 first:Nat
noncomputable def Rw.l(r:Rw):List V:=[.str r.nm, .int r.new, .int r.own, .int r.whole, .str r.caller, .int r.first]
structure Rd where
 rows:List Rw
 way:List (Nat×Rj×Nat)
 ai:List (Rj×Rj)
 b8:List (Rj×Rj)
noncomputable def jT(b:Nat)(x:Nat×Rj×Nat):V:= .tup [.ref (b+2+x.1), .str x.2.1, .int x.2.2]
noncomputable def kh(b k:Nat):List V:=(Uy k).map fun i=> .ref (b+2+i)
@[reducible] noncomputable def Rd.h (H0:AH) (r:Rd):AH:=H0++(some (.list (kh H0.length r.rows.length))::some (.list (r.way.map (jT H0.length)))::r.rows.map fun x=>some (.list x.l))
noncomputable def cY(l:List (Rj×Rj)):V:= .lst (l.map ag)
theorem Rd.qF H0(r:Rd):(r.h H0).length=H0.length+2+r.rows.length:=by
 simp;exact r9 (AM (QM _)) (ik (QM _))
theorem Rd.h0 H0(r:Rd):(r.h H0)[H0.length]?=some (some (.list (kh H0.length r.rows.length))):=by
 refine J (Rh (QM _)) (J (RU ..) ?_);rfl
theorem Rd.h1 H0(r:Rd):(r.h H0)[H0.length+1]?=some (some (.list (r.way.map (jT H0.length)))):=by
 refine J (Rh (gh (QM _))) (J (show H0.length+1-H0.length=1 by exact MN) ?_);rfl
theorem Rd.h2 H0(r:Rd){i}{x}(h:r.rows[i]?=some x):(r.h H0)[H0.length+2+i]?=some (some (.list x.l)):=by
 refine J (Rh (gh (gh (QM _)))) (J (show H0.length+2+i-H0.length=i+2 by exact r9 (Ju (ik (Js (QM _)))) (vy (Kd (Jr (QM _))))) ?_);simp[h]
theorem Rd.Md H0(r:Rd) way:(r.h H0).set (H0.length+1) (some (.list (way.map (jT H0.length))))=({r with way:=way}:Rd).h H0:=by
 refine J (RF _ _ (gh (QM _))) (J (show H0.length+1-H0.length=1 by exact MN) ?_);rfl
theorem Rd.Iz H0(r:Rd) i x:(r.h H0).set (H0.length+2+i) (some (.list x.l))=({r with rows:=r.rows.set i x}:Rd).h H0:=by
 refine J (RF _ _ (gh (gh (QM _)))) (J (show H0.length+2+i-H0.length=i+2 by exact r9 (Ju (ik (Js (QM _)))) (vy (Kd (Jr (QM _))))) ?_);simp
noncomputable def upd(l:List Rw)(i:Nat)(f:Rw→Rw):List Rw:=match l[i]? with
 |some x=>l.set i (f x)
 |none=>l
noncomputable def Rd.whole(k:Nat)(r:Rd):List (Nat×Rj×Nat)→Rd
 |[]=>r
 |x::xs=>({r with rows:=upd r.rows x.1 fun y=>{y with whole:=y.whole+k}}:Rd).whole k xs
noncomputable def Rd.spend(k:Nat)(r:Rd):Rd:=({r with rows:=match r.way.getLast? with|some x=>upd r.rows x.1 fun y=>{y with own:=y.own+k}|none=>r.rows}:Rd).whole k r.way
theorem hV l i f:(upd l i f).length=l.length:=by unfold upd;cases l[i]?<;>simp
theorem dw(E:az F env)(h:TJ ts e (Io F)=pure none):TJ ts e env=pure none:=by
 refine aO h (iD ?_ (fun x=>(be E x).trans rfl) ts e);unfold Xc;exact J E.kind rfl
noncomputable def y9:List U3:=fZ (au (bodyOf 232) 1)
noncomputable abbrev oV(b:Nat)(f e:List (Rj×Rj)):Loc:=[("ever",cY e),("force",cY f),("way", .ref (b+1)),("rows", .ref b)]
section
variable{n:Nat}{H:AH}{ρ:Loc}
theorem ET.uQ{kk}{x}{c}{H1}(h:ET n F e ρ H (.str x) H1)(hc:x.cps[0]?=some c):ET n F (.Subscript e (.Constant (.int 0) kk k) p) ρ H (.str ⟨#[c]⟩) H1:=by
 refine ET.sub h ET.int Ty.str VL.lookup (OT.item_str ?_ dc);exact(seqIndex_nonneg rfl ((TC.mp hc).1))▸hc
theorem tJ{k:Nat}{f e}:∀ws(r:Rd) L,r.way=L→(∀x∈ws,x.1<r.rows.length)→∀ρ,(∀m z,((("spent",V.int k)::oV H0.length f e:Loc)).lookup m=some z→ρ.lookup m=some z)→
  XF n (ax 232) (fun H=>H[H0.length+1]?=some (some (.list (L.map (jT H0.length)))),fun _=>True) (jH (au (uI (au (y9) 1)) 2)) (fZ (au (uI (au (y9) 1)) 2)) [] (ws.map (jT H0.length)) ρ (r.h H0) .next (oV H0.length f e) ((r.whole k ws).h H0):=by
 intro rv
 induction rv with
 |nil=>
  intro r L hL _ ρ lJ;exact XF.nil (hL▸Rd.h1 H0 r) (af.sub af.nil (aa (lJ _ _ rfl) (aa (lJ _ _ rfl) (aa (lJ _ _ rfl) (aa (lJ _ _ rfl) ad)))))
 |cons x ws ih=>
  intro r L hL h ρ lJ;obtain⟨y,hy⟩:∃y,r.rows[x.1]?=some y:=⟨_,Rg (h x QR)⟩;have eu:upd r.rows x.1 (fun y=>{y with whole:=y.whole+k})=r.rows.set x.1 {y with whole:=y.whole+k}:=by unfold upd;rw[hy]
  have ih:=ih {r with rows:=upd r.rows x.1 fun y=>{y with whole:=y.whole+k}} L hL (fun z hz=>by exact J (hV ..) ((h z (QQ _ hz))))
   (("mark", .int x.2.2)::("due", .str x.2.1)::("row", .ref (H0.length+2+x.1))::ρ) (aa (lJ _ _ rfl) (aa (lJ _ _ rfl) (aa (lJ _ _ rfl) (aa (lJ _ _ rfl) (aa (lJ _ _ rfl) ad)))))
  have hs:=Rd.Iz H0 r x.1 {y with whole:=y.whole+k};rw[←eu] at hs;refine XF.cons (hL▸Rd.h1 H0 r) trivial (AT.tuple (aW.cons AT.nm (aW.cons AT.nm (aW.cons AT.nm aW.nil)))) (af.cons ?_ af.nil) ih;refine XT.sy ET.name ET.int (OT.pO (Rd.h2 H0 r hy) rfl rfl) (ET.name (lJ _ _ rfl)) Ee.add_int ?_;exact hs▸(IS.list (Rd.h2 H0 r hy) (show 3<6 by decide))
end
section
variable{n:Nat}{H:AH}{ρ:Loc}
theorem OT.ne_str:OT n (RZ .NotEq) (.str x) (.str y) H (.bool (!(x==y))) H:=OT.aY fun A s W a c R S ra rb Q q=>by
 obtain⟨t,rfl,_⟩:=ra;obtain⟨u,rfl,_⟩:=rb;exact SeqAt.RcNeAt.str_str x t y u prog w aX Q (q s.toks)
theorem OT.ne_bool:OT n (RZ .NotEq) (.bool x) (.bool y) H (.bool (!(x==y))) H:=OT.aY fun A s W a c R S ra rb Q q=>by
 cases ra;cases rb;exact SeqAt.RcNeAt.bool_bool x y prog w aX Q (q s.toks)
noncomputable def Rd.tick(rest:Rj)(r:Rd):Rd:=if rest="" then r else r.spend (eC rest).length
theorem tK(B:Base){H0}{r:Rd}{rest:Rj}{f e}(hz:rest.length≤10000)(hl:rest≠""→r.way≠[])(hw:∀x∈r.way,x.1<r.rows.length):
  XT (n+8+1+1) (ax 232) (au (y9) 1) (("rest", .str rest)::oV H0.length f e) (r.h H0) .next (oV H0.length f e) ((r.tick rest).h H0):=by
 let gz:Loc:=("rest", .str rest)::oV H0.length f e;have h1:gz.lookup ("rest":Rj)=some (.str rest):=rfl;have h2:gz.lookup ("way":Rj)=some (.ref (H0.length+1)):=rfl;by_cases h0:rest=""
 ·refine J ((show r.tick rest=r from if_pos h0)) ?_;refine XT.ite (c:=false) (TT.cmp (ET.name h1) ET.str ?_) (fun h=>by cases h) (fun _=>af.sub af.nil (aa rfl (aa rfl (aa rfl (aa rfl ad)))));exact(show(!(rest==""))=false by refine J h0 ?_;decide)▸(OT.ne_str (n:=n+8+1+1) (H:=r.h H0) (x:=rest) (y:=""))
 ·refine J (show r.tick rest=r.spend (eC rest).length from if_neg h0) ?_;obtain⟨ws,x,hx⟩:∃ws x,r.way=ws++[x]:=by
   rcases Td r.way with h|⟨ws,x,h⟩
   ·exact absurd h (hl h0)
   ·exact⟨ws,x,by refine J h ?_;simp⟩
  obtain⟨y,hy⟩:∃y,r.rows[x.1]?=some y:=⟨_,Rg (hw x (by refine J hx ?_;simp))⟩;let k:=(eC rest).length;let r1:Rd:={r with rows:=upd r.rows x.1 fun y=>{y with own:=y.own+k}};have eu:upd r.rows x.1 (fun y=>{y with own:=y.own+k})=r.rows.set x.1 {y with own:=y.own+k}:=by delta upd;rw[hy]
  have es:r.spend k=r1.whole k r.way:=by
   delta Rd.spend
   rw[show r.way.getLast?=some x by rw[hx];simp]
  refine J es ?_;have aU:=OT.ne_str (n:=n+8+1+1) (H:=r.h H0) (x:=rest) (y:="");rw[show(!(rest==""))=true by simp[h0]] at aU;let am:Loc:=("spent", .int k)::("inner", .ref (H0.length+2+x.1))::gz;refine XT.ite (TT.cmp (ET.name h1) ET.str aU) (fun _=> ?_) (fun h=>by cases h);refine af.cons (am:=am) (XT.fQ (xs:=["spent","inner"]) (ET.tuple (ab.cons (ET.call (ET.ay B (jF) jI) (ab.cons (ET.call (ET.globK B (oK)) (ab.cons (ET.name h1) ab.nil) (aL.def (Dp B)) (v8 B hz)) ab.nil) aL.builtin CT.len_str)
   (ab.cons (ET.sub (ET.sub (ET.name h2) (ET.unary ET.int j1.neg) (Ty.ah (Rd.h1 H0 r)) Rp.lookup (OT.de (i:=ws.length) (x:=jT H0.length x) (Rd.h1 H0 r) (by refine J hx ?_;simp;lia) (by refine J hx ?_;simp))) ET.int Ty.tup R6.lookup (OT.item_tup (i:=0) rfl rfl)) ab.nil)) (show 2≤QW by decide))
   ⟨ST.local rfl,ST.local rfl,trivial⟩ rfl (fun _=>rfl) (fun env E=>cX E rfl)) ?_
  refine af.cons (H1:=r1.h H0) (XT.sy ET.name ET.int (OT.pO (Rd.h2 H0 r hy) rfl rfl) ET.name Ee.add_int ?_) ?_
  ·exact(show(r.h H0).set (H0.length+2+x.1) (some (.list ({y with own:=y.own+k}:Rw).l))=r1.h H0 by exact J (Rd.Iz ..) (aO (eu ..) rfl))▸(IS.list (Rd.h2 H0 r hy) (show 2<6 by decide))
  ·exact af.cons (XT.for (IT.val (ET.name h2) (VT.ref (Rd.h1 H0 r1))) (tJ r.way r1 r.way rfl (fun z hz=>by refine J (hV ..) (hw z hz)) am (aa rfl (aa rfl (aa rfl (aa rfl (aa rfl ad))))))) af.nil
noncomputable def Rd.close(r:Rd):Rd:={r with way:=r.way.dropLast,ai:=r.ai.take ((r.way.getLast?.map (·.2.2)).getD 0)}
theorem tL(B:Base){H0}{r:Rd}{p tag rest}{ws}{i k}(hw:r.way=ws++[(i,tag,k)])(h0:p.cps[0]?=some 47)(hs:RP (SY p (some 1) none) ">"=[tag,rest])(hz:tag.length≤10000∧rest.length≤10000):
  XT (n+8+1+1) (ax 232) (au (y9) 0) (("piece", .str p)::oV H0.length r.ai r.b8) (r.h H0) .next (("rest", .str rest)::oV H0.length r.close.ai r.close.b8) (r.close.h H0):=by
 have yd:=Rv;have ec:r.close={r with way:=ws,ai:=r.ai.take k}:=by delta Rd.close;refine J hw ?_;simp
 refine J ec (XT.ite (TT.cmp (ET.uQ ET.name h0) ET.str OT.eq_str) (fun _=> ?_) (fun h=>by cases h));have oT:=CT.split (n:=n+8+1+1) (H:=r.h H0) (y:=">") dc (by refine J hs ?_;show 2≤_;decide) (by refine J hs ?_;intro q hq;simp at hq;lia);rw[hs] at oT;refine af.cons (XT.assign (ET.aQ (ET.iJ ET.name (PT.some ET.int) PT.none) (GM.of Ty.str aH.str RH Tq Tp) (ab.cons ET.str ab.nil) aL.builtin oT)
  (bv.one (AT.ly (aW.cons (AT.name (ST.cell rfl)) (aW.cons AT.nm aW.nil))))) ?_
 have h1:(r.h H0)[H0.length+1]?=some (some (.list (ws.map (jT H0.length)++[jT H0.length (i,tag,k)]))):=by refine J (Rd.h1 ..) (J (hw ..) ?_);simp
 refine af.cons (XT.assign (ET.aQ ET.name (GM.of (Ty.ah h1) (aH.ah h1) Rf TA Tz) ab.nil aL.builtin (CT.pop h1))
  (bv.one (AT.tuple (aW.cons AT.nm (aW.cons AT.nm (aW.cons AT.nm aW.nil)))))) ?_
 refine J (Rd.Md ..) ?_;have hf:cY (r.ai.take k)= .lst (cut none (some k) (r.ai.map ag)):=by refine J (lA ..) ?_;simp[cY]
 refine af.cons (H1:=({r with way:=ws}:Rd).h H0) (XT.assign (x:=cY (r.ai.take k)) ?_ bv.nm) ?_
 ·exact hf▸ET.dI ET.name PT.none (PT.some ET.name)
 have aU:=OT.ne_str (n:=n+8+1+1) (H:=({r with way:=ws}:Rd).h H0) (x:=tag) (y:=tag);rw[show(!(tag==tag))=false by simp] at aU;exact af.cons (XT.ite (TT.cmp ET.name ET.name aU) (fun h=>by cases h) (fun _=>af.nil)) (af.sub af.nil (aa rfl (aa rfl (aa rfl (aa rfl (aa rfl ad))))))
end
noncomputable def At.key(a:At):Rj:=" "++a.p++":"++a.l++"="
structure At.ok(a:At):Prop where
 c0:a.key.cps[0]?=some 32
 sp:RP (SY a.key (some 1) (some (-1))) ":"=[a.p,a.l]
 lp:a.p.length≤100
 ll:a.l.length≤100
 lv:a.v.length≤1000
noncomputable def eS(as:List At)(T:List Rj):List Rj:=as.flatMap (fun a=>[a.key,a.v])++T
noncomputable def b9(f:List (Rj×Rj))(q:Rj×Rj→Bool):List Rj:=(f.filter q).map (·.2)
structure Hd where
 ai:List (Rj×Rj)
 caller:Rj
 pair:Rj
noncomputable def Hd.at(h:Hd)(a:At):Hd:=if a.p="xmlns" then {h with ai:=h.ai++[(a.l,cA a.v)]} else {h with caller:=cA a.v,pair:=((b9 h.ai fun x=>x.1==a.p).getLast?).getD ""}
noncomputable def za:Hd→List At→Prop
 |_,[]=>True
 |h,a::as=>a.ok∧(a.p="xmlns"∨(a.l="by"∧b9 h.ai (fun x=>x.1==a.p)≠[]))∧za (h.at a) as
theorem kW{α:Type}{l:List α}(h:l≠[]) d:l[l.length-1]?=some (l.getLast?.getD d):=by
 refine J List.getLast?_eq_getElem? ?_;exact J (Rg (Nat.sub_lt (UE.mpr h) Nat.one_pos)) rfl
noncomputable def Me:U3:=au (Dt (au (y9) 0)) 2
noncomputable abbrev F9(b:Nat)(ps:List Rj)(h:Hd)(tag:Rj)(k:Nat)(e:List (Rj×Rj)):Loc:=[("parts", .lst (ps.map V.str)),("force",cY h.ai),("caller", .str h.caller),("pair", .str h.pair),("tag", .str tag),("mark", .int k),
 ("ever",cY e),("way", .ref (b+1)),("rows", .ref b)]
section
variable{n:Nat}{H:AH}{ρ:Loc}
theorem wK(B:Base){b k}{tag}{e}{T}{t}{T'}{c}(hT:T=t::T')(ht:t.cps[0]?=some c)(hc:c≠32):∀as h,za h as→h.ai.length+as.length≤1000→
  (eS as T).length≤10000→XW (n+8+1+1) (ax 232) (Nt (Me)) (fZ (Me)) [] (F9 b (eS as T) h tag k e) H .next (F9 b T (as.foldl Hd.at h) tag k e) H:=by
 intro rv
 induction rv with
 |nil=>
  intro h _ _ _;refine J (show eS [] T=T from rfl) (XW.done (TT.cmp (ET.uQ (ET.sub ET.name ET.int Ty.lst Rp.lookup (OT.aZ rfl (by refine J hT ?_;rfl))) ht) ET.str ?_) af.nil);have:=OT.eq_str (n:=n+8+1+1) (H:=H) (x:=⟨#[c]⟩) (y:=" ");rw[show((⟨#[c]⟩:Rj)==" ")=false by
   apply ZQ.mpr;intro q;have:(⟨#[c]⟩:Rj)=⟨#[32]⟩:=eq_of_beq q;injection this with q
   exact hc (by simpa using q)] at this
  exact this
 |cons a as ih=>
  intro h m4 hl hz;have yd:=Rv;obtain⟨ok,hk,Mf⟩:=m4;refine J (show eS (a::as) T=a.key::a.v::eS as T from rfl) ?_;let gz:=F9 b (a.key::a.v::eS as T) h tag k e;let am:Loc:=("local", .str a.l)::("prefix", .str a.p)::gz;have oT:=CT.split (n:=n+8+1+1) (H:=H) (y:=":") dc (by refine J ok.sp ?_;show 2≤_;decide) (by
   have:=ok.lp;have:=ok.ll;refine J ok.sp ?_;intro q hq;simp at hq;rcases hq with rfl|rfl<;>lia)
  rw[ok.sp] at oT;have IA:∀p1 p2 p3 kk,ET (n+8+1+1) (ax 232) (.Subscript (.Name "parts" p1) (.Constant (.int 0) kk p2) p3) gz H (.str a.key) H:=fun _ _ _ _=>ET.sub ET.name ET.int Ty.lst Rp.lookup (OT.aZ rfl rfl);have Mg:∀ρ',ρ'.lookup ("parts":Rj)=some (.lst ((a.key::a.v::eS as T).map V.str))→∀p1 p2 p3 kk,ET (n+8+1+1) (ax 232) (.Subscript (.Name "parts" p1) (.Constant (.int 1) kk p2) p3) ρ' H (.str a.v) H:=fun ρ' hp _ _ _ _=>
   ET.sub (ET.name hp) ET.int Ty.lst Rp.lookup (OT.aZ rfl rfl)
  have IB:∀ρ',ρ'.lookup ("parts":Rj)=some (.lst ((a.key::a.v::eS as T).map V.str))→∀p0 p1 p2 p3 p4 kk,ET (n+8+1+1) (ax 232) (.Call (.Name "_law_value" p0) [.Subscript (.Name "parts" p1) (.Constant (.int 1) kk p2) p3] [] p4) ρ' H (.str (cA a.v)) H:=fun ρ' hp _ _ _ _ _ _=>
   ET.call (ET.globK B (np)) (ab.cons (Mg ρ' hp _ _ _ _) ab.nil) (aL.def (Dn B)) (ta B (eG ok.lv))
  refine XW.turn (TT.cmp (ET.uQ (IA _ _ _ _) ok.c0) ET.str OT.eq_str) ?_ (ih (h.at a) Mf (by delta Hd.at;refine bl (fun _=> ?_) (fun _=> ?_)<;>simp at hl⊢<;>lia) (by simp[eS] at hz⊢;exact eG hz))
  ·refine af.cons (am:=am) (XT.assign (ET.aQ (ET.iJ (IA _ _ _ _) (PT.some ET.int) (PT.some (ET.unary ET.int j1.neg))) (GM.of Ty.str aH.str RH Tq Tp) (ab.cons ET.str ab.nil) aL.builtin oT)
    (bv.one (AT.ly (aW.cons (AT.name (ST.cell rfl)) (aW.cons AT.nm aW.nil))))) ?_
   let cU:Loc:=F9 b (a.key::a.v::eS as T) (h.at a) tag k e;have fin:af (n+8+1+1) (ax 232) ((fZ (Me)).drop 2) cU H .next (F9 b (eS as T) (h.at a) tag k e) H:=by
    refine af.cons (XT.assign ?_ bv.nm) (af.sub af.nil (aa rfl (aa rfl (aa rfl (aa rfl (aa rfl (aa rfl (aa rfl (aa rfl (aa rfl ad))))))))));exact(show V.lst ((eS as T).map V.str)= .lst (cut (some ((2:Nat):Int)) none ((a.key::a.v::eS as T).map V.str)) by exact J (gE ..) rfl)▸ET.dI ET.name (PT.some ET.int) PT.none
   refine af.cons ?_ fin;have JY:=OT.eq_str (n:=n+8+1+1) (H:=H) (x:=a.p) (y:="xmlns");by_cases hp:a.p="xmlns"
   ·rw[show(a.p=="xmlns")=true by simp[hp]] at JY;refine XT.ite (TT.cmp ET.name ET.str JY) (fun _=> ?_) (fun h=>by cases h);have eh:h.at a={h with ai:=h.ai++[(a.l,cA a.v)]}:=if_pos hp;have ef:cY (h.at a).ai= .lst (h.ai.map ag++[ag (a.l,cA a.v)]):=by refine J eh ?_;simp[cY]
    refine af.cons (XT.assign ?_ bv.nm) (af.sub af.nil (aa rfl (aa rfl (aa (by refine J (show(h.at a).caller=h.caller by exact J eh rfl) ?_;rfl) (aa (by exact J (show(h.at a).pair=h.pair by rw[eh]) rfl) (aa rfl (aa rfl (aa rfl (aa rfl (aa rfl ad))))))))));exact J ef (ET.binop ET.name (ET.list (ab.cons (ET.tuple (ab.cons ET.name (ab.cons (IB _ rfl _ _ _ _ _ _) ab.nil)) (show 2≤QW by decide)) ab.nil) (show 1≤QW by decide)) (OT.kM (by simp at hl⊢;exact iF (ao (a9 (lb hl) (DY (DY hl))) dc))))
   ·rw[show(a.p=="xmlns")=false by simp[hp]] at JY;obtain⟨PG,yc⟩:=hk.resolve_left hp;refine XT.ite (TT.cmp ET.name ET.str JY) (fun h=>by cases h) (fun _=>af.cons ?_ af.nil);have hb:=OT.eq_str (n:=n+8+1+1) (H:=H) (x:=a.l) (y:="by");rw[show(a.l=="by")=true by simp[PG]] at hb;refine XT.ite (TT.cmp ET.name ET.str hb) (fun _=> ?_) (fun h=>by cases h);let kn:=b9 h.ai fun x=>x.1==a.p;have eh:h.at a={h with caller:=cA a.v,pair:=kn.getLast?.getD ""}:=if_neg hp;refine af.cons (XT.assign (ET.tuple (ab.cons (IB _ rfl _ _ _ _ _ _) (ab.cons (ET.sub (ET.lc (dH:=[("prefix", .str a.p)]) h.ai (fun x=>x.1==a.p) (fun x=> .str x.2) (aq.of rfl (aa rfl ad)) (IT.val ET.name VT.lst) trivial trivial (ao (lb hl) dc) fun x _=> ?_)
     (ET.unary ET.int j1.neg) Ty.lst Rp.lookup (OT.ey (i:=kn.length-1) ?_ ?_)) ab.nil)) (show 2≤QW by decide)) (bv.one (AT.tuple (aW.cons AT.nm (aW.cons (AT.name (ST.cell rfl)) aW.nil)))) (fun _=>rfl) (fun env E=>dw E rfl))
     (af.sub af.nil (aa rfl (aa (by exact J (show(h.at a).ai=h.ai by rw[eh]) rfl) (aa (by exact J (show(h.at a).caller=cA a.v by rw[eh]) rfl) (aa (by exact J (show(h.at a).pair=kn.getLast?.getD "" by rw[eh]) rfl) (aa rfl (aa rfl (aa rfl (aa rfl (aa rfl ad))))))))))
    ·exact⟨_,AT.two,eI.one (TT.cmp ET.name ET.name OT.eq_str),fun _=>ET.name rfl,aa rfl ad⟩
    ·have:=UE.mpr yc;refine J (show((h.ai.filter fun x=>x.1==a.p).map fun x=>V.str x.2).length=kn.length by simp[kn,b9]) ?_;lia
    ·refine J (show((h.ai.filter fun x=>x.1==a.p).map fun x=>V.str x.2)=kn.map V.str by simp[kn,b9]) (J R3 (J (kW yc "") ?_));rfl
end
theorem zb(h:x.ok=true):V.eqv x x=true:=by
 obtain⟨d,e,h⟩:=V.dP h
 delta V.eqv;exact e▸aam d ((Q5 _ _).mp h).1
theorem nX(h:QZ p.1=true∧QZ p.2=true):(ag p).nh 1=true:=V.kL (by simp[V.fX h.1 0,V.fX h.2 0])
theorem jU(h:∀p∈l,QZ p.1=true∧QZ p.2=true):(cY l).ok=true:=
 V.nG (V.kK (by rw[VE,R8];exact fun p hp=>nX (h p hp))) dc
structure Mh(p tag:Rj) as rest:Prop where
 c0:∃c,p.cps[0]?=some c∧c≠47
 idx:∃i js,Tj p " " 0 p.length 1=i::js∧SY p none (some i)=tag∧RP (SY p (some i) none) "\""=eS as (RP (">"++rest) "\"")
 tl:∃t T' c,RP (">"++rest) "\""=t::T'∧t.cps[0]?=some c∧c≠32
 jn:R9 "\"" (RP (">"++rest) "\"")=">"++rest
 jk:Xb "\"" (RP (">"++rest) "\"")=true
 sp:RP (">"++rest) ">"=[("":Rj),rest]
 lz:(eS as (RP (">"++rest) "\"")).length≤10000∧∀q∈eS as (RP (">"++rest) "\""),q.length≤10000
 lt:tag.length≤1000
 lr:rest.length≤10000
noncomputable def Rd.hd(r:Rd)(as:List At):Hd:=as.foldl Hd.at ⟨r.ai,"",""⟩
noncomputable def Rd.nm(r:Rd)(tag:Rj)(as:List At):Rj:=((b9 (r.hd as).ai fun x=>x.1++":c"==tag).getLast?).getD ""
noncomputable def Rd.fresh(r:Rd)(as:List At):List (Rj×Rj):=(r.hd as).ai.drop r.ai.length
noncomputable def Rd.row(r:Rd)(tag:Rj)(as:List At):Rw:=⟨r.nm tag as,((r.fresh as).map (·.2)).count (r.nm tag as),0,0,(r.hd as).caller,((r.fresh as).map (·.2)).count (r.hd as).pair⟩
noncomputable def Rd.open(r:Rd)(tag:Rj)(as:List At):Rd:={rows:=r.rows++[r.row tag as],way:=r.way++[(r.rows.length,tag,r.ai.length)],ai:=(r.hd as).ai,b8:=r.b8++r.fresh as}
structure JZ(r:Rd) tag as:Prop where
 ok:za ⟨r.ai,"",""⟩ as
 nm:b9 (r.hd as).ai (fun x=>x.1++":c"==tag)≠[]
 PH:bX (r.fresh as)=r.fresh as
 l2:(r.fresh as).length≤2
 pr:(r.hd as).pair=if(r.hd as).caller="" then("":Rj) else(r.hd as).caller++"\n"++r.nm tag as
 two:∀v∈(r.fresh as).map (·.2),v=r.nm tag as∨v=(r.hd as).pair
 one:∀x∈r.fresh as,∀y∈r.b8++r.fresh as,(x.1==y.1)=(x.2==y.2)
 str:∀p∈(r.hd as).ai++r.b8,QZ p.1=true∧QZ p.2=true
 sn:QZ (r.nm tag as)=true∧QZ (r.hd as).pair=true
 lf:r.ai.length+as.length≤1000
 le:r.b8.length≤1000
 lh:(r.hd as).ai.length≤1000
 ls:∀p∈(r.hd as).ai,p.1.length≤1000
 lc:(r.hd as).caller.length≤1000
 ln:(r.nm tag as).length≤1000
 lr:r.rows.length≤1000
 lw:r.way.length≤1000
theorem Rd.push H0(r:Rd) x tag k(f e:List (Rj×Rj)):
  (((r.h H0++[some (AO.list x.l)]).set H0.length (some (.list (kh H0.length r.rows.length++[V.ref (H0.length+2+r.rows.length)])))).set (H0.length+1) (some (.list (r.way.map (jT H0.length)++[jT H0.length (r.rows.length,tag,k)]))))=
   ({rows:=r.rows++[x],way:=r.way++[(r.rows.length,tag,k)],ai:=f,b8:=e}:Rd).h H0:=by
 simp[kh,List.range_succ]
section
variable{n:Nat}{H:AH}{ρ:Loc}
theorem OT.ne_self(hx:x.ok=true)(hd:∀d,x.data=some d→gC H x=some d):OT (n+8) (RZ .NotEq) x x H (.bool false) H:=by
 obtain⟨d,e,s⟩:=V.dP hx;have:=OT.ne (n:=n) (hd d e) (hd d e) s s;rw[aam d ((Q5 _ _).mp s).1] at this;exact this
noncomputable def NM:SD:=EW (EV (au (Dt (au (y9) 0)) 9))
theorem zc{F}(h1:F.names.lookup ("old":Rj)=some .local)(ho:gz.lookup ("one":Rj)=some (ag one))(xy:gz.lookup ("old":Rj)=none):∀(ys:List (Rj×Rj)),(∀y∈ys,(one.1==y.1)=(one.2==y.2))→
  CF n F (NM) 1 (fun _=>True,fun _=>True) (ys.map ag) gz [] H [] H:=by
 intro rv
 induction rv with
 |nil=>
  intro _;exact CF.nil trivial _ _ (fun _ _ _=>rfl)
 |cons y ys ih=>
  intro h;have it:∀x nm i z(p1 p2 p3:Pos) kk,(hd:(nm==("__debug__":Rj))=false)→(hc:(nm=="__classdict__")=false)→(("old",ag y)::gz:Loc).lookup nm=some (ag x)→i<2→[V.str x.1, .str x.2][i]?=some z→
    ET n F (.Subscript (.Name nm p1) (.Constant (.int (i:Nat)) kk p2) p3) (("old",ag y)::gz) H z H:=fun x nm i z _ _ _ _ hd hc hl hi hz=>
   ET.sub (ET.name hl hd hc) ET.int Ty.tup R6.lookup (OT.item_tup (seqIndex_nonneg rfl hi) hz (by lia) (by lia))
  have m6:(("old",ag y)::gz:Loc).lookup ("one":Rj)=some (ag one):=J lookup_cons (J (if_neg dc) ((ho)));have aU:=OT.ne_bool (n:=n) (H:=H) (x:=one.1==y.1) (y:=one.2==y.2);rw[show(!((one.1==y.1)==(one.2==y.2)))=false by rw[(h y QR)];simp] at aU;refine CF.skip trivial trivial (AT.nm h1) (eI.one (TT.cmp (ET.cmp (it one "one" 0 (.str one.1) _ _ _ _ dc dc m6 dc rfl) (it y "old" 0 (.str y.1) _ _ _ _ dc dc rfl dc rfl) OT.eq_str) (ET.cmp (it one "one" 1 (.str one.2) _ _ _ _ dc dc m6 dc rfl) (it y "old" 1 (.str y.2) _ _ _ _ dc dc rfl dc rfl) OT.eq_str) aU)) ?_ (ih fun z hz=>h z (QQ _ hz)) _ (fun _ _ _=>rfl);intro m z e;exact J lookup_cons (J (if_neg (fun q=>by subst q;cases xy.symm.trans e)) ((e)))
end
noncomputable abbrev QG(i:Nat)(e:SD):SD:=cL i e
section
variable{n:Nat}{F:Fx}{H H1 H2 H3 H4:AH}{ρ am:Loc}
theorem CF.IC{elt target qN}{gens}{scope}{pos}{d}{P P2}{x}{xs ys acc BO cV}{g2}(hp:P.1 H)(hg:gens[d+1]?=some g2)(vA:g2.is_async=0)(hT:P.2 target)
  (ht:AT n F target x ρ H am H1)
  (hi:IT n F qN am H1 ys P2 H2) (qz:CF n F (.ListComp elt gens scope pos) (d+1) P2 ys am acc H2 BO H3)
  (hs:∀n x,ρ.lookup n=some x→am.lookup n=some x) (h:CF n F (.ListComp elt gens scope pos) d P xs ρ BO H3 cV H4) p
  (hf:∀env x,Sv qN env x=pure x)
  (heq:∀it a env,Xq (.ListComp elt gens scope pos) d it a env=(standAt p>>=fun _=>Uk it>>=fun r=>match r with
   |none=>pure (.done .next)
   |some v=>SI target it v>>=fun _=>Xa target env v>>=fun _=>
     eval qN env>>=fun x=>standAt qN.pos>>=fun _=>Sv qN env x>>=fun x=>holding [x] (VP x)>>=fun E8=>
      runOwn (.compStart (.ListComp elt gens scope pos) (d+1) E8 a env) env>>=fun _=>aae (.compLoop (.ListComp elt gens scope pos) d it a env))):
  CF n F (.ListComp elt gens scope pos) d P (x::xs) ρ acc H cV H4:=by
 refine .mk fun A s W env it D Y R S E fr hl hc hD rR rS ac fd Q q=>(R7 ?_);show wpAny _ A ((Xq (.ListComp elt gens scope pos) d it (.ref D) env).onRaise (fun x=>do noteFrame x env;WO x)) _ _ s;refine Tv (dg fun Q' E' qq _=> ?_);refine J (heq ..) (bA (QL (Ri (fd A s W H R (Gr.refl ..) S hp) (fun r s1 h1=> ?_) fun _ _ e=>e.elim)));obtain⟨v,rfl,h1⟩:=h1;refine QL (Ri (h1 target hT) (fun _ s2 h2=> ?_) fun _ _ e=>e.elim);refine QK fun kG=> ?_;obtain⟨W2,G2,S2,r2,xw⟩:=h2;refine kG (QL (lC (ht.run A s2 W2 env v R S2 E (fr.dh G2 hl hc) r2 _ fun s3 W3 G3 S3 f3=> ?_)));have a3:=(ac.step G2 hD).step G3 (kI rR rS);obtain⟨m,hn,_⟩:=f3.m;have dn:s3.heap.get? D≠none:=by obtain⟨vs,m,ho,_⟩:=a3.obj;exact ho▸nofun
 refine QL (Ri (hi.run A s3 W3 env R S3 E f3 (fun E8 s5=>SM (model prog w) A (.compStart (.ListComp elt gens scope pos) (d+1) E8 (.ref D) env) (fun r s'=>∃f,r= .ok f∧∃W',Gr (fun a=>own env a∨a=D) W3 s3 W' s'∧an W' H3 s'∧cQ W' am env s'.heap∧Acc W' s' D BO) s5) ?_) (fun u s4 h4=> ?_) fun _ _ e=>e.elim)
 ·intro E8 Y2 s5 W5 G5 S5 c;have hY:=fun a y=>(c.new a y).1;have k1:∀s' W',Gr (fun a=>(own env a∨a=D)∨Y2 a) W5 s5 W' s'→Gr (fun a=>own env a∨a=D) W3 s3 W' s':=fun s' W' G=>
   (G5.of).base G fun x h hx=>h.elim id fun y=>absurd (hY x y) hx
  have lp:SM (model prog w) A (.compLoop (.ListComp elt gens scope pos) (d+1) E8 (.ref D) env) (fun r s'=>∃f,r= .ok f∧∃W',Gr (fun a=>own env a∨a=D) W3 s3 W' s'∧an W' H3 s'∧cQ W' am env s'.heap∧Acc W' s' D BO) s5:=
   qz.run A s5 W5 env E8 D Y2 R S5 E (f3.step G5) (fun q=>cg hn (hY _ q)) (fun x c hc q=>(f3.dC x c hc).2.2.2 (hY _ q)) (fun q=>dn (hY _ q)) rR rS (a3.step G5 id) (c.feed _ fun a o y=>by
    rcases o with o|o
    ·exact f3.cF a o (hY a y)
    ·subst o;exact dn (hY a y)) _ fun s' W' G' S' f' a'=>⟨W',k1 _ _ G',S',f',a'⟩
  exact fS hg vA lp (c.self (fun _=>False) (fun _ h=>h.elim) A s5 W5 H2 (Gr.refl ..) S5 _ lp)
 ·refine bA (bE (hf env u) (QL (wpAny_holding (Ri h4 (fun E8 s5 h5=> ?_) fun _ _ e=>e.elim))));refine QL (wpAny_runOwn (T6 h5 fun r s6 h6=> ?_));refine QK fun kG=> ?_;obtain⟨f,rfl,W6,G6,S6,f6,a6⟩:=h6;refine kG (QO (qq _ _ ⟨rfl, ?_⟩));have GG:=(G3.weaken fun x h=> .inl h).trans G6;refine h.run A s6 W6 env it D Y R S6 E (f6.sub hs) hl hc hD rR rS a6 (xw.step GG) Q fun s7 W7 G7 S7 f7 a7=>q s7 W7 ?_ S7 f7 a7;exact((G2.weaken fun x h=> .inr h).trans (GG.weaken fun x h=> .inl h)).trans G7
theorem zd{F}{E}(h1:F.names.lookup ("old":Rj)=some .local)(h2:F.names.lookup ("one":Rj)=some .local):∀(xs:List (Rj×Rj)),(∀x∈xs,∀y∈E,(x.1==y.1)=(x.2==y.2))→
  CF n F (NM) 0 (fun _=>True,fun _=>True) (xs.map ag) [("ever",cY E)] [] H [] H:=by
 intro rv
 induction rv with
 |nil=>
  intro _;exact CF.nil trivial _ _ (fun _ _ _=>rfl)
 |cons x xs ih=>
  intro h;exact CF.IC trivial rfl rfl trivial (AT.nm h2) (IT.val ET.name VT.lst) (zc h1 rfl rfl E (h x QR)) (aa rfl ad) (ih fun z hz=>h z (QQ _ hz)) _ (fun _ _=>rfl) (fun _ _ _=>rfl)
theorem wL{α β:Type}{l:List α}{b}{f:α→β}(h:∀x∈l,b x=false):(l.filter b).map f=[]:=by
 rw[YT.mpr fun x hx=>by rw[h x hx];exact Ry];rfl
theorem mv(l:List Rj) x:(l.map V.str).countP (fun y=>V.eqv y (.str x))=l.count x:=by
 exact aas
theorem ET.PJ{F}{dH}{α:Type}{elt target iter}{ifs}{scope}{pos}{P}(xs:List α){vx}(b:α→Bool)(hb:∀x∈xs,b x=false)(K:aq F scope ρ dH)(hi:IT n F iter ρ H (xs.map vx) P H1)(hp:P.1 H1)(hT:P.2 target)(hz:xs.length≤QW)
  (h:∀x∈xs,∃am,AT n ⟨dT F scope.names,F.code,false,Q6⟩ target (vx x) dH H1 am H1∧eI n ⟨dT F scope.names,F.code,false,Q6⟩ ifs am H1 (b x) H1∧∀m z,dH.lookup m=some z→am.lookup m=some z)
  (hs:autoParam (∀env x,Sv iter env x=pure x) aI):
  ET n F (.ListComp elt [⟨target,iter,ifs,0⟩] scope pos) ρ H (.lst []) H1:=by
 have:=ET.lc (elt:=elt) (pos:=pos) xs b (fun _=> .none) K hi hp hT hz (fun x hx=>let⟨am,h1,h2,h3⟩:=h x hx;⟨am,h1,h2,(fun q=>by replace q:=(hb x hx)▸q;cases q),h3⟩) hs;rw[wL hb] at this;exact this
theorem wM(B:Base){H0}{r}{p tag rest}{as}(P:Mh p tag as rest)(R:JZ r tag as):
  XT (n+8+1+1) (ax 232) (au (y9) 0) (("piece", .str p)::oV H0.length r.ai r.b8) (r.h H0) .next (("rest", .str rest)::oV H0.length (r.open tag as).ai (r.open tag as).b8) ((r.open tag as).h H0):=by
 refine QK fun kG=> ?_;obtain⟨c,hc,Mi⟩:=P.c0;obtain⟨i,js,hi,EY,tM⟩:=P.idx;obtain⟨t,T',c',hT,ht,Mj⟩:=P.tl;refine kG ?_;let T:=RP (">"++rest) "\"";let h1:=r.hd as;let b:=H0.length;let nm:=r.nm tag as;let fr:=r.fresh as;let new:=fr.map (·.2);have aU:=OT.eq_str (n:=n+8+1+1) (H:=r.h H0) (x:=⟨#[c]⟩) (y:="/");rw[show((⟨#[c]⟩:Rj)=="/")=false by
  apply ZQ.mpr;intro q;injection (show(⟨#[c]⟩:Rj)=⟨#[47]⟩ from eq_of_beq q) with q
  exact Mi (by simpa using q)] at aU
 refine XT.ite (TT.cmp (ET.uQ ET.name hc) ET.str aU) (fun h=>by cases h) (fun _=> ?_);refine af.cons
  (XT.assign (ET.tuple (ab.cons (ET.aQ ET.name (GM.of Ty.str aH.str RH PySem.F.slot_str_index PySem.F.type_str_index) (ab.cons ET.str ab.nil) aL.builtin (CT.vB hi))
   (ab.cons (ET.call (ET.ay B (jF) jI) (ab.cons ET.name ab.nil) aL.builtin (by have:=CT.uq (n:=n+8+1+1) (H:=r.h H0) (l:=r.ai.map ag);rw[QP] at this;exact this)) (ab.cons ET.str (ab.cons ET.str ab.nil)))) (show 4≤QW by decide))
   (bv.one (AT.tuple (aW.cons AT.nm (aW.cons AT.nm (aW.cons AT.nm (aW.cons (AT.name (ST.cell rfl)) aW.nil))))))) ?_
 have oT:=CT.split (n:=n+8+1+1) (H:=r.h H0) (y:="\"") dc (by refine J tM ?_;have:=P.lz.1;exact gy this) (by refine J tM ?_;intro q hq;have:=P.lz.2 q hq;exact gy this);replace oT:=tM▸oT;refine af.cons
  (XT.assign (x:= .tup [.str tag, .lst ((eS as T).map V.str)]) (ET.tuple (ab.cons (aO EY (ET.iJ ET.name PT.none (PT.some ET.name))) (ab.cons (ET.aQ (ET.iJ ET.name (PT.some ET.name) PT.none) (GM.of Ty.str aH.str RH Tq Tp) (ab.cons ET.str ab.nil) aL.builtin oT) ab.nil)) (show 2≤QW by decide))
   (bv.one (AT.tuple (aW.cons (AT.name (ST.cell rfl)) (aW.cons AT.nm aW.nil)))) (fun _=>rfl) (fun env E=>dw E rfl)) ?_
 refine af.cons (XT.while (XW.sub (wK B hT ht Mj as ⟨r.ai,"",""⟩ R.ok R.lf P.lz.1) (aa rfl (aa rfl (aa rfl (aa rfl (aa rfl (aa rfl (aa rfl (aa rfl (aa rfl ad))))))))))) ?_;have QH:T.length≤10000:=by
  have:(as.flatMap (fun a=>[a.key,a.v])++T).length≤10000:=P.lz.1;rw[QS] at this;exact DY this
 have NN:=P.lr;let gz:Loc:=F9 b T h1 tag r.ai.length r.b8;have ID:=CT.split (n:=n+8+1+1) (H:=r.h H0) (y:=">") dc (by refine J P.sp ?_;show 2≤_;decide) (by refine J P.sp ?_;intro q hq;simp at hq;rcases hq with rfl|rfl<;>first|exact Rr _|exact gy NN);rw[P.sp] at ID;have rX:=CT.join (n:=n+8+1+1) (H:=r.h H0) P.jk (J P.jn ((ao (bC (by exact J (Q7 ..) rfl)) (iF (ao (a9 (QM _) NN) dc)))));rw[P.jn] at rX;refine af.cons (XT.assign (ET.aQ (ET.aQ ET.str (GM.of Ty.str aH.str RH V9 V8) (ab.cons ET.name ab.nil) aL.builtin rX)
  (GM.of Ty.str aH.str RH Tq Tp) (ab.cons ET.str ab.nil) aL.builtin ID) (bv.one (AT.ly (aW.cons AT.nm (aW.cons AT.nm aW.nil))))) ?_
 let kn:=b9 h1.ai fun x=>x.1++":c"==tag;have yc:=UE.mpr R.nm;have NO:((h1.ai.filter fun x=>x.1++":c"==tag).map fun x=>V.str x.2)=kn.map V.str:=by simp[kn,b9]
 refine af.cons (XT.assign (x:= .str nm) (ET.sub (ET.lc (dH:=[("tag", .str tag)]) h1.ai (fun x=>x.1++":c"==tag) (fun x=> .str x.2) (aq.of rfl (aa rfl ad)) (IT.val ET.name VT.lst) trivial trivial (gy R.lh) fun x hx=> ?_)
  (ET.unary ET.int j1.neg) Ty.lst Rp.lookup (OT.ey (i:=kn.length-1) (by rw[NO,QP];lia) (by refine J NO (J R3 (J (kW R.nm "") ?_));rfl))) (bv.one (AT.name (ST.cell rfl)))) ?_
 ·exact⟨_,AT.two,eI.one (TT.cmp (ET.binop ET.name ET.str (OT.add_str (iF (ao (a9 (R.ls x hx) (bC rfl)) dc)))) ET.name OT.eq_str),fun _=>ET.name rfl,aa rfl ad⟩
 have ef:cY fr= .lst (cut (some r.ai.length) none (h1.ai.map ag)):=by refine J (gE ..) (aO (Yz ..) ?_);rfl
 refine af.cons (XT.assign (x:=cY fr) (by refine J ef ?_;exact ET.dI ET.name (PT.some ET.name) PT.none) bv.nm) ?_;have d4:=R.l2;have en:((fr.filter fun _=>true).map fun x=>V.str x.2)=new.map V.str:=by
  refine J (UF.mpr fun _ _=>rfl) (J Rk ?_);rfl
 let cU:Loc:=("ever",cY (r.b8++fr))::("new", .lst (new.map V.str))::("fresh",cY fr)::("name", .str nm)::("rest", .str rest)::("front", .str "")::gz;refine af.cons (am:=cU) (H1:=r.h H0) (XT.assign (ET.tuple (ab.cons ?_ (ab.cons (by
   show ET _ _ _ _ _ (.lst ((r.b8++fr).map ag)) _;exact J Rc (ET.binop ET.name ET.name (OT.kM (by simp;exact iF (ao (a9 R.le d4) dc))))) ab.nil)) (show 2≤QW by decide))
   (bv.one (AT.tuple (aW.cons AT.nm (aW.cons (AT.name (ST.cell rfl)) aW.nil)))) (fun _=>rfl) (fun env E=>dw E rfl)) ?_
 ·exact aO en ((ET.lc fr (fun _=>true) (fun x=> .str x.2) (aq.of rfl ad) (IT.val ET.name VT.lst) trivial trivial (gy d4) fun x _=>⟨_,AT.two,eI.nil,fun _=>ET.name rfl,ad⟩))
 have sf:∀p∈fr,QZ p.1=true∧QZ p.2=true:=fun p hp=>R.str p (Rt _ (Wv hp));have DL:=CT.qk (n:=n+8+1) (H:=r.h H0) (ps:=fr) d4;rw[show bX fr=fr from R.PH] at DL;refine af.cons (XT.ite (TT.bn (aJ.or_false (TT.cmp ET.name ET.str OT.ne_str) (aJ.or_false (TT.cmp ET.name (ET.call (ET.ay B (jG) jJ) (ab.cons ET.name ab.nil) aL.builtin DL) (OT.ne_self (jU sf) fun d e=>e))
  (aJ.or_false (H1:=r.h H0) (TT.cmp (y:= .str h1.pair) (H2:=r.h H0) ET.name ?_ ?_) aJ.or_nil)))) (fun h=>by cases h) (fun _=>af.nil)) ?_
 ·have ze:=OT.ne_str (n:=n+8+1+1) (H:=r.h H0) (x:=h1.caller) (y:="");refine J (R.pr) ?_;have E9:=R.lc;have h4:"\n".length=1:=rfl;by_cases zf:h1.caller=""
  ·refine J (if_pos zf) ?_;rw[show(!(h1.caller==""))=false by rw[zf];decide] at ze;exact ET.db (TT.cmp ET.name ET.str ze) (fun h=>by cases h) (fun _=>ET.str)
  ·refine J (if_neg zf) ?_;rw[show(!(h1.caller==""))=true by simp[zf]] at ze;exact ET.db (TT.cmp ET.name ET.str ze) (fun _=>ET.binop (ET.binop ET.name ET.str (OT.add_str (iF (ao (a9 E9 (bC h4)) dc)))) ET.name (OT.add_str (by exact J (Q7 ..) (iF (ao (a9 (a9 E9 (bC h4)) R.ln) dc))))) (fun h=>by cases h)
 ·exact(show(!(h1.pair==h1.pair))=false by simp)▸(OT.ne_str (n:=n+8+1+1) (H:=r.h H0) (x:=h1.pair) (y:=h1.pair))
 have NP:QZ nm=true:=R.sn.1;have NQ:QZ h1.pair=true:=R.sn.2;have so:∀{x},QZ x=true→(V.str x).ok=true:=fun h=>V.nG (V.fX h 0) dc;have NR:∀v∈new,QZ v=true:=fun v hv=>by
  obtain⟨p,hp,rfl⟩:=Q4.mp hv;exact(sf p hp).2
 let bb:Rj→Bool:=fun v=> !([V.str nm, .str h1.pair].any fun y=>V.eqv y (.str v));have PK:∀v∈new,bb v=false:=fun v hv=>by
  show(!(List.any _ _))=false;simp only[V0,List.any_nil,(show∀a,V.eqv (.str a) (.str v)=(a==v) from fun _=>rfl),Bool.or_false];rcases R.two v hv with h|h
  ·rw[show(nm==v)=true by rw[h];exact beq_self_eq_true _];rfl
  ·rw[show(h1.pair==v)=true by rw[h];exact beq_self_eq_true _,Bool.or_true];rfl
 refine af.cons (XT.ite (c:=false) (TT.cmp (ET.PJ (dH:=[("name", .str nm),("pair", .str h1.pair)]) new bb PK (aq.of rfl (aa rfl (aa rfl ad))) (IT.val ET.name VT.lst) trivial trivial (gy (J (QP ..) ((d4))))
  fun x hx=>⟨_,AT.nm,eI.one (TT.cmp ET.name (ET.tuple (ab.cons ET.name (ab.cons ET.name ab.nil)) (show 2≤QW by decide)) (OT.vD (by simp[so NP,so NQ]) (so (NR x hx)))),aa rfl (aa rfl ad)⟩) (ET.list ab.nil) (OT.ne_nil (k:=0) rfl)) (fun h=>by cases h) (fun _=>af.nil)) ?_
 refine af.cons (XT.ite (c:=false) (TT.cmp (ET.cK (aq.of rfl (aa rfl ad)) (IT.val ET.name VT.lst) (zd rfl rfl fr R.one) (Rr _)) (ET.list ab.nil) (OT.ne_nil (k:=0) rfl)) (fun h=>by cases h) (fun _=>af.nil)) ?_;let x:=r.row tag as;let H1:AH:=r.h H0++[some (.list x.l)];have Ay:=fun z hz=>by
  exact(mv ..)▸(CT.count (n:=n+1+1) (H:=r.h H0) (l:=new.map V.str) (x:= .str z) (by rw[VE,R8];exact fun v hv=>so (NR v hv)) (so hz))
 have AJ:=Rd.qF H0 r;refine af.cons (XT.assign (ET.d9 (xs:=x.l) (ab.cons ET.name (ab.cons (ET.aQ ET.name (GM.of Ty.lst aH.lst Rf UK UI) (ab.cons ET.name ab.nil) aL.builtin (Ay nm NP)) (ab.cons ET.int (ab.cons ET.int (ab.cons ET.name
  (ab.cons (ET.aQ ET.name (GM.of Ty.lst aH.lst Rf UK UI) (ab.cons ET.name ab.nil) aL.builtin (Ay _ NQ)) ab.nil)))))) (show 6≤QW by decide)) bv.nm) ?_
 have g0:H1[b]?=some (some (.list (kh b r.rows.length))):=by rw[RC (AJ▸Gs (gh (FR dc)))];exact Rd.h0 H0 r
 let H2:AH:=H1.set b (some (.list (kh b r.rows.length++[.ref (r.h H0).length])));have g1:H2[b+1]?=some (some (.list (r.way.map (jT b)))):=by
  rw[Sr (FS (QM _)),RC (AJ▸gh (QM _))];exact Rd.h1 H0 r
 refine af.cons (H1:=H2) (XT.expr (ET.aQ ET.name (GM.of (Ty.ah g0) (aH.ah g0) Rf St RB) (ab.cons ET.name ab.nil) aL.builtin (CT.append g0 (by simp[kh];exact As R.lr)))) ?_;have hp:=Rd.push H0 r x tag r.ai.length h1.ai (r.b8++fr);rw[←AJ] at hp;have e1:H2.set (b+1) (some (.list (r.way.map (jT b)++[.tup [.ref (r.h H0).length, .str tag, .int r.ai.length]])))=(r.open tag as).h H0:=by
  refine J (hp.symm) ?_;show _=H2.set (b+1) (some (.list (r.way.map (jT b)++[.tup [.ref (b+2+r.rows.length), .str tag, .int r.ai.length]])));rw[AJ]
 refine af.cons (H1:=(r.open tag as).h H0) (XT.expr (ET.aQ ET.name (GM.of (Ty.ah g1) (aH.ah g1) Rf St RB)
  (ab.cons (ET.tuple (ab.cons ET.name (ab.cons ET.name (ab.cons ET.name ab.nil))) (show 3≤QW by decide)) ab.nil) aL.builtin (by exact aO e1 (CT.append g1 (by simp;exact As R.lw))))) ?_
 exact af.sub af.nil (aa rfl (aa rfl (aa rfl (aa rfl (aa rfl ad)))))
end
inductive Pc where
 |op (tag:Rj) (as:List At) (rest:Rj)
 |cl (tag rest:Rj)
noncomputable def Rd.turn(r:Rd):Pc→Rd
 | .op tag as _=>r.open tag as
 | .cl _ _=>r.close
noncomputable def Pc.rest:Pc→Rj
 | .op _ _ r=>r
 | .cl _ r=>r
noncomputable def Rd.step(r:Rd)(c:Pc):Rd:=(r.turn c).tick c.rest
noncomputable def zg(r:Rd)(p:Rj):Pc→Prop
 | .op tag as rest=>Mh p tag as rest∧JZ r tag as
 | .cl tag rest=>(∃ws i k,r.way=ws++[(i,tag,k)])∧p.cps[0]?=some 47∧RP (SY p (some 1) none) ">"=[tag,rest]∧tag.length≤10000∧rest.length≤10000
noncomputable def mw:Rd→List (Rj×Pc)→Prop
 |r,[]=>r.way=[]
 |r,(p,c)::ps=>zg r p c∧(c.rest≠""→(r.turn c).way≠[])∧(∀x∈(r.turn c).way,x.1<(r.turn c).rows.length)∧c.rest.length≤10000∧mw (r.step c) ps
theorem qO k:∀ws(r:Rd),(r.whole k ws).ai=r.ai∧(r.whole k ws).b8=r.b8∧(r.whole k ws).way=r.way∧(r.whole k ws).rows.length=r.rows.length:=by
 intro rv
 induction rv with
 |nil=>
  intro _;exact⟨rfl,rfl,rfl,rfl⟩
 |cons x ws ih=>
  intro r;refine QK fun kG=> ?_;obtain⟨a,b,c,d⟩:=ih {r with rows:=upd r.rows x.1 fun y=>{y with whole:=y.whole+k}};exact kG (⟨a,b,c,d.trans (hV ..)⟩)
theorem my(r:Rd) s:(r.tick s).ai=r.ai∧(r.tick s).b8=r.b8∧(r.tick s).way=r.way∧(r.tick s).rows.length=r.rows.length:=by
 delta Rd.tick
 refine bl (fun _=> ?_) fun _=> ?_
 ·exact⟨rfl,rfl,rfl,rfl⟩
 ·refine QK fun kG=> ?_;obtain⟨a,b,c,d⟩:=qO (eC s).length r.way {r with rows:=match r.way.getLast? with|some x=>upd r.rows x.1 fun y=>{y with own:=y.own+(eC s).length}|none=>r.rows}<;>refine kG ?_;refine⟨a,b,c,d.trans ?_⟩;cases r.way.getLast? with
  |some x=>exact hV ..
  |none=>rfl
section
variable{n:Nat}{H:AH}{ρ:Loc}
theorem tN(B:Base){H0}{r}{p}{c}(h:zg r p c)(h1:c.rest≠""→(r.turn c).way≠[])(h2:∀x∈(r.turn c).way,x.1<(r.turn c).rows.length)(hz:c.rest.length≤10000):
  af (n+8+1+1) (ax 232) (y9) (("piece", .str p)::oV H0.length r.ai r.b8) (r.h H0) .next (oV H0.length (r.step c).ai (r.step c).b8) ((r.step c).h H0):=by
 have k:=my (r.turn c) c.rest;have hd:XT (n+8+1+1) (ax 232) (au (y9) 0) (("piece", .str p)::oV H0.length r.ai r.b8) (r.h H0) .next (("rest", .str c.rest)::oV H0.length (r.turn c).ai (r.turn c).b8) ((r.turn c).h H0):=by
  cases c with
  |op tag as rest=>exact wM B h.1 h.2
  |cl tag rest=>
   refine QK fun kG=> ?_;obtain⟨⟨ws,i,k,hw⟩,h0,hs,hz⟩:=h;exact kG (tL B hw h0 hs hz)
 refine af.cons hd (af.cons ?_ af.nil);exact J k.1 (J k.2.1 ((tK B hz h1 h2)))
theorem wN(B:Base){H0}:∀ps r,mw r ps→∃r',r'.way=[]∧r'=(ps.map (·.2)).foldl Rd.step r∧
  XF (n+8+1+1) (ax 232) (fun _=>True,fun _=>True) (jH (au (bodyOf 232) 1)) (y9) [] (ps.map fun p=>V.str p.1) (oV H0.length r.ai r.b8) (r.h H0) .next (oV H0.length r'.ai r'.b8) (r'.h H0):=by
 intro rv
 induction rv with
 |nil=>
  intro r h;exact⟨r,h,rfl,XF.nil trivial af.nil⟩
 |cons pq ps ih=>
  rintro r ⟨h,h1,h2,hz,hr⟩;obtain⟨r',e1,e2,ih⟩:=ih (r.step pq.2) hr;exact⟨r',e1,e2,XF.cons trivial trivial AT.nm (tN B h h1 h2 hz) ih⟩
theorem qP m:∀(l:List Rw),bD m ((l.map Rw.l).map V.lst)=true
 |[]=>rfl
 |x::l=>by
  exact(qP m l)
theorem wO(B:Base){H0}{text}{ps}{hd}(oT:RP text "<"=hd::ps.map (·.1))(hz:ps.length≤1000)(hl:∀q∈RP text "<",q.length≤10000)(hr:mw ⟨[],[],[],[]⟩ ps)(hb:∀ob,some ob∈H0→ob.dF H0.length=true):
  CT (n+8+1+1+1) (.st (.ref 232)) [.str text] [] H0 (.lst (((ps.map (·.2)).foldl Rd.step ⟨[],[],[],[]⟩).rows.map fun x=> .lst x.l)) H0:=by
 refine QK fun kG=> ?_;obtain⟨r',e1,e2,wh⟩:=wN B ps ⟨[],[],[],[]⟩ hr;refine kG (aO e2 ?_);let r0:Rd:=⟨[],[],[],[]⟩;let b:=H0.length;have xx:=CT.split (n:=n+8+1+1) (H:=r0.h H0) (y:="<") dc (by refine J (oT ..) (J (Rn ..) (J (QP ..) ?_));exact iF (ao (a9 hz (QM _)) dc)) (fun q hq=>by have:=hl q hq;exact gy this);rw[oT] at xx;have mz:CT (n+8+1+1+1) (.st (.ref 232)) [.str text] [] H0 (.ref b) (r'.h H0):=by
  refine CT.fn (g:= .ret (.ref b)) (am:=oV b r'.ai r'.b8) B (Dq B) (Binds.b1 B (HN)) (show [("text":Rj)].Nodup by decide) rfl (af.cons (am:=("text", .str text)::oV b [] []) (H1:=r0.h H0) (XT.sub (XT.assign (ET.tuple (ab.cons (ET.d9 ab.nil) (ab.cons ?_ (ab.cons (ET.list ab.nil) (ab.cons (ET.list ab.nil) ab.nil)))) (show 4≤QW by decide)) (bv.one (AT.tuple (aW.cons AT.nm (aW.cons AT.nm (aW.cons AT.nm (aW.cons (AT.name (ST.cell rfl)) aW.nil))))))) (aa rfl (aa rfl (aa rfl (aa rfl (aa rfl ad)))))) ?_)
  ·have:=ET.d9 (n:=n+8+1+1) (F:=ax 232) (ρ:=[("text", .str text)]) (H:=H0++[some (.list [])]) (pos:=(cL 1 (gK (au (bodyOf 232) 0))).pos) ab.nil;rw[Rm,QS] at this;exact this
  have ec:(ps.map fun p=>V.str p.1)=cut (some ((1:Nat):Int)) none ((hd::ps.map (·.1)).map V.str):=by rw[gE,Q8,aa0,List.tail_cons,Rk];rfl
  let L:List V:=ps.map fun p=>V.str p.1;refine af.cons (XT.for (IT.val (by
   exact J (show L=_ from ec) (ET.dI (ET.aQ ET.name (GM.of Ty.str aH.str RH Tq Tp) (ab.cons ET.str ab.nil) aL.builtin xx) (PT.some ET.int) PT.none)) VT.lst) (show XF (n+8+1+1) (ax 232) (fun _=>True,fun _=>True) (jH (au (bodyOf 232) 1)) (y9) [] L (("text", .str text)::oV b [] []) (r0.h H0) .next (oV b r'.ai r'.b8) (r'.h H0) from XF.sub wh (aa rfl (aa rfl (aa rfl (aa rfl ad)))))) ?_
  have hw:(r'.h H0)[b+1]?=some (some (.list [])):=by refine J (Rd.h1 ..) (J (e1 ..) ?_);rfl
  exact af.ret (XT.ret (ET.db (TT.cmp ET.name (ET.list ab.nil) (OT.eq (by delta gC;simp only[hw];rfl) rfl dc dc)) (fun _=>ET.name rfl) (fun h=>by cases h)))
 have Mk:∀p∈((Uy r'.rows.length).map fun i=>b+2+i).zip (r'.rows.map Rw.l),(r'.h H0)[p.1]?=some (some (.list p.2)):=fun p hp=>by
  obtain⟨k,hk⟩:=Wn.mp hp;rw[Yi] at hk;obtain⟨h1,h2⟩:=hk;rw[R3] at h1 h2;obtain⟨i,hi,e⟩:=Tt.mp h1;obtain⟨x,hx,e'⟩:=Tt.mp h2;have:i=k:=by have:=QY.mp hi;obtain⟨h,q⟩:=this;rw[ZB] at q;exact q.symm
  cases this;exact aO e (aO e' ((Rd.h2 H0 r' hx)))
 have hT:H0++(r'.h H0).drop b=r'.h H0:=by rw[T7]
 have JX:(b::(Uy r'.rows.length).map fun i=>b+2+i).Nodup:=by
  refine Sa.mpr ⟨fun h=>by obtain⟨j,_,e⟩:=Q4.mp h;lia, ?_⟩;exact List.Pairwise.map _ (fun x y h e=>h (by simpa using e)) List.nodup_range
 have:=CT.rows B.mods (hT▸mz)
  (by refine J (hT ..) (J (Rd.h0 ..) ?_);simp only[kh,b,Rk];rfl) (QM _) JX (fun i hi=>by obtain⟨j,_,rfl⟩:=Q4.mp hi;exact gh (gh (QM _))) (by simp) (J hT Mk) (qP _ _) hb
 exact Rk▸this
end
section
variable{A:Ta}{E:Value→Ro→Prop}{s:Ro}
noncomputable abbrev wP(h:Vi)(z TI TO a:TD)(f:Bool):Prop:=h.get? z=some {cls:= .type "zip",dict:=none,data:= .fields #[SX a, .bool f, .bool false, .ref TI, .ref TO],slots:=#[]}
theorem nY(hz:wP s.heap z TI TO a f)(ha:s.heap.get? a=some o)(h:∀h',wP h' z TI TO a true→(∀c o,c≠z→s.heap.get? c=some o→h'.get? c=some o)→h'.objs.size=s.heap.objs.size→Q false {s with heap:=h'}):
  wpAny (model prog w) A (ZV (.ref z)) Q E s:=by
 refine bF hz rfl (x:=SX a) rfl ?_;show wpAny _ _ (loadIfAlive ((a:Int).toNat)>>=_) _ _ _;refine J (Us ..) (QL (kdx_alive ha ?_));refine bF hz rfl (x:= .bool f) rfl ?_;cases f with
 |true=>
  exact(if_neg (Ry))▸QO (h s.heap hz (fun _ _ _ e=>e) rfl)
 |false=>
  exact J (if_pos (rfl)) ((bW hz (by simp) fun cI uR DM=>(QO (h cI uR (fun c o hc e=>DM.extBut _ _ hc e) DM.1))))
theorem oW{z TI TO a i1 i2 l1 l2 k:TD}{f}{o}{xs ys}{x y}{Q}(d1:i1≠z)(d2:i2≠z)(J0:i1≠i2)(e1:l1≠z)(e2:l2≠z)(e3:l2≠i1)
  (hz:wP s.heap z TI TO a f) (ha:s.heap.get? a=some o) (Ml:XH s.heap TI (.ref i1) (.ref i2)) (h1:s.heap.IsListIter i1 l1 k) (h2:s.heap.IsListIter i2 l2 k) (m6:s.heap.IsList l1 xs) (d4:s.heap.IsList l2 ys) (hx:xs[k]?=some x) (hy:ys[k]?=some y)
  (hQ:∀h',wP h' z TI TO a true→h'.IsListIter i1 l1 (k+1)→h'.IsListIter i2 l2 (k+1)→h'.get? s.heap.objs.size=some {cls:= .type "tuple",data:= .seq #[x,y]}→h'.objs.size=s.heap.objs.size+1→(∀c o,c≠z→c≠i1→c≠i2→s.heap.get? c=some o→h'.get? c=some o)→Q (some (.ref s.heap.objs.size)) {s with heap:=h'}):
  wpAny (model prog w) A (Uk (.ref z)) Q E s:=by
 have hT:s.TypeIs (.ref z) "zip":=⟨_,hz,rfl⟩;refine QL (Tr (RE hT SL (wpAny_call_entry SL hT UX ?_ (UM _))));refine dg fun Q' E' q q'=>(bF hz rfl (x:= .bool false) rfl ?_);refine bF hz rfl (x:= .ref TI) rfl (bS Ml rfl ?_);refine QL (nY hz ha fun cI uR k₁ ch=> ?_);refine QL (QL (QL (wpAny_holding ?_)));refine QL (WF (h1.at fun o e=>k₁ _ o d1 e) (m6.at fun o e=>k₁ _ o e1 e) hx fun oA g1 s2=>QO (QO ?_));refine QL (QL (wpAny_holding ?_));refine QL (WF ((h2.at fun o e=>k₁ _ o d2 e).extBut s2.extBut J0.symm) ((d4.at fun o e=>k₁ _ o e2 e).extBut s2.extBut e3) hy fun m8 g2 s3=>QO (QO (QO ?_)));have hsz:m8.objs.size=s.heap.objs.size:=by rw[s3.1,s2.1,ch]
 refine QL (Xg (QO (q _ _ ⟨_,rfl,QO ?_⟩)) (hsz:=by show 2≤QW;refine J Rv ?_;decide));refine J hsz ?_;have up:∀c o,c≠i1→c≠i2→cI.get? c=some o→(m8.push {cls:= .type "tuple",data:= .seq #[x,y]}).get? c=some o:=fun c o c1 c2 e=>QT _ (s3.extBut _ _ c2 (s2.extBut _ _ c1 e));refine hQ _ (up _ _ d1.symm d2.symm uR) ((g1.extBut s3.extBut J0).at fun o e=>QT _ e) (g2.at fun o e=>QT _ e) ?_ (J (RI ..) (J (hsz ..) rfl)) fun c o c1 c2 c3 e=>up c o c2 c3 (k₁ c o c1 e);exact hsz▸Q0 _ rfl
theorem qQ{z TI TO a i1 i2 l1 l2 k:TD}{f}{o}{xs ys}{Q}(hh:A.handled=none)(d1:i1≠z)(d2:i2≠z)(J0:i1≠i2)(e1:l1≠z)(e2:l2≠z)(e3:l2≠i1)
  (hz:wP s.heap z TI TO a f) (ha:s.heap.get? a=some o) (Ml:XH s.heap TI (.ref i1) (.ref i2)) (h1:s.heap.IsListIter i1 l1 k) (h2:s.heap.IsListIter i2 l2 k) (m6:s.heap.IsList l1 xs) (d4:s.heap.IsList l2 ys) (Eu:xs[k]?=none∨ys[k]?=none)
  (hQ:∀h',(∀c o,c≠z→c≠i1→c≠i2→s.heap.get? c=some o→h'.get? c=some o)→Q none {s with heap:=h'}):
  wpAny (model prog w) A (Uk (.ref z)) Q E s:=by
 have hT:s.TypeIs (.ref z) "zip":=⟨_,hz,rfl⟩;refine QL (Tr (RE hT SL (wpAny_call_entry SL hT UX ?_ (UM _))));refine dg fun Q' E' q q'=>(bF hz rfl (x:= .bool false) rfl ?_);refine bF hz rfl (x:= .ref TI) rfl (bS Ml rfl ?_);refine QL (nY hz ha fun cI uR k₁ ch=> ?_);have NT:=h1.at fun o e=>k₁ _ o d1 e;have IE:=m6.at fun o e=>k₁ _ o e1 e;refine QL (QL (QL (wpAny_holding ?_)));cases hx:xs[k]? with
 |none=>
  refine QL (ZX hh NT IE hx fun oA e s2 he=>q' _ _ ?_);obtain⟨oe,Ga,ze⟩:=he;exact bI ⟨oe,Ga,ze⟩ UN (QO (hQ oA fun c o c1 c2 _ e=>s2 _ _ c2 (k₁ c o c1 e)))
 |some x=>
  have hy:ys[k]?=none:=by rcases Eu with h|h;cases hx.symm.trans h;exact h
  refine QL (WF NT IE hx fun oA g1 s2=>QO (QO ?_));refine QL (QL (wpAny_holding ?_));refine QL (ZX hh ((h2.at fun o e=>k₁ _ o d2 e).extBut s2.extBut J0.symm) ((d4.at fun o e=>k₁ _ o e2 e).extBut s2.extBut e3) hy fun m8 e s3 he=>q' _ _ ?_);obtain⟨oe,Ga,ze⟩:=he;exact bI ⟨oe,Ga,ze⟩ UN (QO (hQ m8 fun c o c1 c2 c3 e=>s3 _ _ c3 (s2.extBut _ _ c2 (k₁ c o c1 e))))
end
section
variable{A:Ta}{E:Value→Ro→Prop}{s:Ro}
structure ZS h(z TI TO i1 i2 l1 l2 S k:TD)(xs ys:Array Value):Prop where
 z:(YC h z TI TO .none∧k=0)∨∃a f o,wP h z TI TO a f∧h.get? a=some o∧a≠z∧a≠i1∧a≠i2∧a≠S
 ti:XH h TI (.ref i1) (.ref i2)
 to:∃p q,XH h TO p q
 h1:h.IsListIter i1 l1 k
 h2:h.IsListIter i2 l2 k
 l1:h.IsList l1 xs
 l2:h.IsList l2 ys
theorem ZS.next{z TI TO i1 i2 l1 l2 S k}{xs ys}{x y}{Q}(D:WH z TI TO i1 i2 l1 l2)(f:ZS s.heap z TI TO i1 i2 l1 l2 S k xs ys){oS}(hD:s.heap.get? S=some oS)(hx:xs[k]?=some x)(hy:ys[k]?=some y)
  (hQ:∀h',ZS h' z TI TO i1 i2 l1 l2 S (k+1) xs ys→h'.get? s.heap.objs.size=some {cls:= .type "tuple",data:= .seq #[x,y]}→h'.objs.size=s.heap.objs.size+1→(∀c o,c≠z→c≠TO→c≠i1→c≠i2→s.heap.get? c=some o→h'.get? c=some o)→Q (some (.ref s.heap.objs.size)) {s with heap:=h'}):
  wpAny (model prog w) A (Uk (.ref z)) Q E s:=by
 obtain⟨p,q,pJ⟩:=f.to;have lt:∀{c o},s.heap.get? c=some o→s.heap.objs.size≠c:=fun e=>SJ (Rq e);have PL:s.heap.objs.size≠i1:=by obtain⟨_,e,_⟩:=f.h1;exact lt e
 have PM:s.heap.objs.size≠i2:=by obtain⟨_,e,_⟩:=f.h2;exact lt e
 refine QK fun kG=> ?_;rcases f.z with⟨hz,_⟩|⟨a,b,o,hz,ha,n1,n2,n3,n4⟩<;>refine kG ?_
 ·exact wpAny_pyNext_zip_item D hz f.ti pJ f.h1 f.h2 f.l1 f.l2 hx hy fun h' a1 a2 a3 a4 a5 a6 hk=>
   hQ h' ⟨.inr ⟨_,false,_,a1,a5,(by rcases f.z with⟨h,_⟩|⟨_,_,_,h,_⟩<;>exact lt h),PL,PM,lt hD⟩,hk _ _ D.TIz D.TITO D.TIi1 D.TIi2 f.ti,⟨_,_,a2⟩,a3,a4,f.l1.at fun o e=>hk _ o D.l1z D.l1TO D.l1i1 D.l1i2 e,f.l2.at fun o e=>hk _ o D.l2z D.l2TO D.l2i1 D.l2i2 e⟩ a5 a6 hk
 ·exact oW D.i1z D.i2z D.i12 D.l1z D.l2z D.l2i1 hz ha f.ti f.h1 f.h2 f.l1 f.l2 hx hy fun h' a1 a3 a4 a5 a6 hk=>
   hQ h' ⟨.inr ⟨a,true,o,a1,hk _ _ n1 n2 n3 ha,n1,n2,n3,n4⟩,hk _ _ D.TIz D.TIi1 D.TIi2 f.ti,⟨_,_,hk _ _ D.TOz D.TOi1 D.TOi2 pJ⟩,a3,a4,f.l1.at fun o e=>hk _ o D.l1z D.l1i1 D.l1i2 e,f.l2.at fun o e=>hk _ o D.l2z D.l2i1 D.l2i2 e⟩ a5 a6 fun c o c1 _ c3 c4 e=>hk c o c1 c3 c4 e
theorem ZS.end{z TI TO i1 i2 l1 l2 S k}{xs ys}{Q}(hh:A.handled=none)(D:WH z TI TO i1 i2 l1 l2)(f:ZS s.heap z TI TO i1 i2 l1 l2 S k xs ys)(he:xs[k]?=none∨ys[k]?=none)
  (hQ:∀h',(∀c o,c≠z→c≠TO→c≠i1→c≠i2→s.heap.get? c=some o→h'.get? c=some o)→Q none {s with heap:=h'}):wpAny (model prog w) A (Uk (.ref z)) Q E s:=by
 obtain⟨p,q,pJ⟩:=f.to;refine QK fun kG=> ?_;rcases f.z with⟨hz,_⟩|⟨a,b,o,hz,ha,n1,n2,n3,n4⟩<;>refine kG ?_
 ·exact wpAny_pyNext_zip_end hh D hz f.ti pJ f.h1 f.h2 f.l1 f.l2 he hQ
 ·exact qQ hh D.i1z D.i2z D.i12 D.l1z D.l2z D.l2i1 hz ha f.ti f.h1 f.h2 f.l1 f.l2 he fun h' hk=>hQ h' fun c o c1 _ c3 c4 e=>hk c o c1 c3 c4 e
theorem ZS.at{z TI TO i1 i2 l1 l2 S k}{xs ys}(f:ZS h z TI TO i1 i2 l1 l2 S k xs ys)(hS:S≠z∧S≠TI∧S≠TO∧S≠i1∧S≠i2∧S≠l1∧S≠l2)(hk:∀c o,c≠S→h.get? c=some o→h'.get? c=some o):ZS h' z TI TO i1 i2 l1 l2 S k xs ys:=by
 obtain⟨p,q,pJ⟩:=f.to;refine⟨?_,hk _ _ hS.2.1.symm f.ti,⟨p,q,hk _ _ hS.2.2.1.symm pJ⟩,f.h1.at fun o e=>hk _ o hS.2.2.2.1.symm e,f.h2.at fun o e=>hk _ o hS.2.2.2.2.1.symm e,f.l1.at fun o e=>hk _ o hS.2.2.2.2.2.1.symm e,f.l2.at fun o e=>hk _ o hS.2.2.2.2.2.2.symm e⟩;refine QK fun kG=> ?_;rcases f.z with⟨hz,h0⟩|⟨a,b,o,hz,h1,n⟩<;>refine kG ?_
 ·exact .inl ⟨hk _ _ hS.1.symm hz,h0⟩
 ·exact .inr ⟨a,b,o,hk _ _ hS.1.symm hz,hk _ _ n.2.2.2 h1,n⟩
noncomputable def IF(h:Vi)(lo:TD)(k:Nat)(xs ys:Array Value)(as:List TD):Prop:=as.Pairwise (·<·)∧∀j a,as[j]?=some a→lo≤a∧∃x y,xs[k+j]?=some x∧ys[k+j]?=some y∧h.get? a=some {cls:= .type "tuple",data:= .seq #[x,y]}
theorem BP{R}(hh:A.handled=none)(D:WH z TI TO i1 i2 l1 l2)(hS:S≠z∧S≠TI∧S≠TO∧S≠i1∧S≠i2∧S≠l1∧S≠l2):∀(m k:Nat) s acc c,
  k+m=min xs.size ys.size→ZS s.heap z TI TO i1 i2 l1 l2 S k xs ys→s.heap.get? S=some (sq "list" acc c)→acc.length+m≤QW→
  (∀h' as c',as.length=m→IF h' s.heap.objs.size k xs ys as→(∀b o,b≠z→b≠TO→b≠i1→b≠i2→b≠S→s.heap.get? b=some o→h'.get? b=some o)→h'.get? S=some (sq "list" (acc++as.map Um) c')→R (.ok (.ret res)) {s with heap:=h'})→
   SM (model prog w) A (.builtin "list.extend.loop" ⟨[.ref S, .ref z,res],[]⟩) R s:=by
 intro rv
 induction rv with
 |zero=>
  intro k s acc c hm f hD _ h;refine So Uu (J (RX Sd _) ?_);have he:xs[k]?=none∨ys[k]?=none:=by
   rcases XD xs.size ys.size with q|q
   ·exact .inl (T9 (by lia))
   ·exact .inr (T9 (by lia))
  refine QL (f.end hh D he fun h' hk=>QO (h h' [] c rfl ⟨.nil,fun j a e=>by simp at e⟩ (fun b o b1 b2 b3 b4 _ e=>hk b o b1 b2 b3 b4 e) ?_));exact J (RY ..) (J (Ra ..) ((hk _ _ hS.1 hS.2.2.1 hS.2.2.2.1 hS.2.2.2.2.1 hD)))
 |succ m ih=>
  intro k s acc c hm f hD hz h;refine So Uu (J (RX Sd _) ?_);have NU:k<xs.size:=by have:=Wo xs.size ys.size;lia
  have NV:k<ys.size:=by have:=Nat.min_le_right xs.size ys.size;lia
  refine QL (f.next D hD (RN NU) (RN NV) fun h' f' ht hsz hk=> ?_);have sR:=hk _ _ hS.1 hS.2.2.1 hS.2.2.2.1 hS.2.2.2.2.1 hD;refine QL (Uw sR rfl ?_ (Re▸lb hz) (J (XX ..) (J (Re ..) ((a9 (lb hz) (QM _))))));let h2:=h'.update S (Ru (·.push (.ref s.heap.objs.size)));obtain⟨c2,sB⟩:∃c2,h2.get? S=some (sq "list" (acc++[.ref s.heap.objs.size]) c2):=by
   have:=TZ sR (·.push (.ref s.heap.objs.size));rw[(show acc.toArray.push (Um s.heap.objs.size)=(acc++[Um s.heap.objs.size]).toArray by simp)] at this;exact⟨_,this⟩
  have keep:∀b o,b≠S→h'.get? b=some o→h2.get? b=some o:=fun b o hb e=>(RL _ _ (Se hb)).trans e;refine QO ⟨TK Sd _,ih (k+1) {s with heap:=h2} (acc++[.ref s.heap.objs.size]) c2 (r9 (ik (bC hm)) (AM (lg hm))) (f'.at hS keep) sB (by simp;exact ik hz) fun h3 as c3 el g k3 e3=> ?_⟩;have up:=fun b o b1 b2 b3 b4 b5 e=>k3 b o b1 b2 b3 b4 b5 (keep b o b5 e);have lt:∀{c o},s.heap.get? c=some o→s.heap.objs.size≠c:=fun e=>SJ (Rq e);have g1:=fun j a e=>by have:=(g.2 j a e).1;rw[show({s with heap:=h2}:Ro).heap.objs.size=_ from(hsz▸V7 ..)] at this;exact this
  refine h h3 (s.heap.objs.size::as) c3 (J Rn (J el rfl)) ⟨UT.mpr ⟨fun a ha=> ?_,g.1⟩,fun j a e=> ?_⟩ (fun b o b1 b2 b3 b4 b5 e=>up b o b1 b2 b3 b4 b5 (hk b o b1 b2 b3 b4 e)) (by rw[Rm] at e3;exact e3)
  ·obtain⟨j,hj⟩:=Wn.mp ha;exact Nat.lt_of_succ_le (g1 j a hj)
  ·cases j with
   |zero=>
    cases e;obtain⟨p,q,pJ⟩:=f.to;refine⟨QM _,_,_,RN NU,RN NV,up _ _ ?_ (lt pJ) ?_ ?_ (SJ (Rq hD)) ht⟩
    ·rcases f.z with⟨h,_⟩|⟨_,_,_,h,_⟩<;>exact lt h
    ·obtain⟨_,e,_⟩:=f.h1;exact lt e
    ·obtain⟨_,e,_⟩:=f.h2;exact lt e
   |succ j=>
    refine QK fun kG=> ?_;obtain⟨_,x,y,e1,e2,e3⟩:=g.2 j a e;exact kG (⟨TQ (g1 j a e),x,y,by refine aO e1 ?_;congr 1;lia,by refine aO e2 ?_;congr 1;lia,e3⟩)
theorem zh(hT:s.TypeIs (.ref z) "zip")(h:Q true s):wpAny (model prog w) A (WS (.ref z)) Q E s:=by
 refine bY hT rfl ?_;exact bY hT rfl (QO h)
end
section
variable{A:Ta}{E:Value→Ro→Prop}{s:Ro}
theorem nt(hh:A.handled=none)(D:WH z TI TO i1 i2 l1 l2)(f:ZS s.heap z TI TO i1 i2 l1 l2 s.heap.objs.size 0 xs ys)(PN:YC s.heap z TI TO .none)(hz:min xs.size ys.size≤QW)
  (hQ:∀h' as c',as.length=min xs.size ys.size→IF h' (s.heap.objs.size+1) 0 xs ys as→(∀b o,b≠z→b≠TO→b≠i1→b≠i2→s.heap.get? b=some o→h'.get? b=some o)→h'.get? s.heap.objs.size=some (sq "list" (as.map Um) c')→Q (.ref s.heap.objs.size) {s with heap:=h'}):
  wpAny (model prog w) A (call (.type "list") [.ref z]) Q E s:=by
 let S:=s.heap.objs.size;have lt:∀{c o},s.heap.get? c=some o→S≠c:=fun e=>SJ (Rq e);have ER:S≠z∧S≠TI∧S≠TO∧S≠i1∧S≠i2∧S≠l1∧S≠l2:=by
  obtain⟨p,q,pJ⟩:=f.to;refine⟨?_,lt f.ti,lt pJ, ?_, ?_, ?_, ?_⟩
  ·rcases f.z with⟨h,_⟩|⟨_,_,_,h,_⟩<;>exact lt h
  ·obtain⟨_,e,_⟩:=f.h1;exact lt e
  ·obtain⟨_,e,_⟩:=f.h2;exact lt e
  ·obtain⟨_,e,_⟩:=f.l1;exact lt e
  ·obtain⟨_,e,_⟩:=f.l2;exact lt e
 refine callType_codes (Q₁:=fun obj ch=>obj= .ref s.heap.objs.size∧ch={s with heap:=s.heap.push {cls:= .type "list",data:= .seq #[]}}) F.called_list (F.typeCall_list_1 _) F.entry_list_init
  (code_list_new _ ⟨rfl,rfl⟩) fun obj ch cI=> ?_
 obtain⟨rfl,rfl⟩:=cI;have hS:(s.heap.push {cls:= .type "list",data:= .seq #[]}).get? S=some (sq "list" [] 0):=Q0 _ rfl;refine⟨⟨_,hS,rfl⟩,F.args_list_init_2 _ _, ?_⟩;refine QL (bS hS rfl (QO ?_));show wpAny _ A.in1.in1 (updateSeq S (fun _=>#[])>>=fun _=>letGo (#[]:Array Value).toList.reverse>>=fun _=>Builtin.List.listExtendWith (.ref S) (.ref z) .none) _ _ _;refine QL (U8 hS rfl ?_);have qj:=RT (Ru (fun _=>(#[]:Array Value))) hS rfl;refine bO ?_;let h1:=(s.heap.push {cls:= .type "list",data:= .seq #[]}).update S (Ru (fun _=>(#[]:Array Value)));have k1:∀b o,b≠S→s.heap.get? b=some o→h1.get? b=some o:=fun b o hb e=>(RL _ _ (Se hb)).trans (QT _ e);have f1:=f.at ER k1;have NW:({s with heap:=h1}:Ro).TypeIs (.ref z) "zip":=by rcases f1.z with⟨h,_⟩|⟨_,_,_,h,_⟩<;>exact⟨_,h,rfl⟩
 refine bT NW ?_;simp only[(show Up (.ref S) (.ref z)=false by simp[Up,ER.1])];refine QL (Ym (k1 _ _ ER.1.symm PN) ?_);refine QL (wpAny_holding (zh NW ?_));refine bR (QL ?_);refine QL (U8 qj rfl ?_);have DO:=RT (Ru (·.push SZ)) qj rfl;refine U8 DO rfl ?_;let h2:=(h1.update S (Ru (·.push SZ))).update S (Ru (·.pop));have k2:∀b o,b≠S→h1.get? b=some o→h2.get? b=some o:=fun b o hb e=>(RL _ _ (Se hb)).trans ((RL _ _ (Se hb)).trans e);have yd:h2.objs.size=s.heap.objs.size+1:=by
  refine J (V7 ..) (J (V7 ..) ?_);rw[V7,RI]
 refine QO ⟨TK Sd _,BP (show A.in1.handled=none from hh) D ER (min xs.size ys.size) 0 {s with heap:=h2} [] _ (TU _) (f1.at ER k2) (RT (Ru (·.pop)) DO rfl) (by simpa using hz) fun h3 as c' el g k3 e3=>⟨rfl, ?_⟩⟩;rw[show({s with heap:=h2}:Ro).heap.objs.size=_ from yd] at g;exact hQ h3 as c' el g (fun b o b1 b2 b3 b4 e=>k3 b o b1 b2 b3 b4 (lt e).symm (k2 b o (lt e).symm (k1 b o (lt e).symm e))) e3
end
noncomputable def oX:List V→List V→List V
 |x::xs,y::ys=> .tup [x,y]::oX xs ys
 |_,_=>[]
theorem qR xs:∀ys,(oX xs ys).length=min xs.length ys.length:=by
 induction xs with
 |nil=>intro ys;exact(Nat.zero_min _).symm
 |cons x xs ih=>
  intro ys;cases ys with
  |nil=>rfl
  |cons y ys=>
   show(oX xs ys).length+1=_;rw[ih,Rn,Rn,Nat.succ_min_succ]
section
variable{n:Nat}{F:Fx}{ρ:Loc}{H H1 H2 H3:AH}
theorem zi:∀(xs ys:List V)(us vs:List Value)(as:List TD) W,an W H s→aj W xs us→aj W ys vs→as.length=(oX xs ys).length→as.Pairwise (·<·)→(∀a∈as,jz W a)→
  (∀(j:Nat) a,as[j]?=some a→∃u v,us[j]?=some u∧vs[j]?=some v∧s.heap.get? a=some (sq "tuple" [u,v] 0))→
  ∃W',an W' H s∧Gr (fun b=>b∈as) W s W' s∧aj W' (oX xs ys) (as.map Um):=by
 intro xs
 induction xs with
 |nil=>
  intro ys us vs as W S _ _ hl _ _ _;have:=Rs.mp hl;subst this;exact⟨W,S,Gr.refl ..,rfl⟩
 |cons x xs ih=>
  intro ys us vs as W S r1 r2 hl hp hf ht;cases ys with
  |nil=>
   have:=Rs.mp hl;subst this;exact⟨W,S,Gr.refl ..,rfl⟩
  |cons y ys=>
   obtain⟨u,us,rfl,ru,r1⟩:=r1;obtain⟨v,vs,rfl,rv,r2⟩:=r2;cases as with
   |nil=>cases hl
   |cons a as=>
    obtain⟨u',v',e1,e2,ho⟩:=ht 0 a rfl;cases e1;cases e2;obtain⟨S1,G1,l1⟩:=S.adopt (hf a QR) ho;have aU:∀b∈as,b≠a:=fun b hb e=>by subst e;exact absurd ((UT.mp hp).1 b hb) (Sj _)
    obtain⟨W',S2,G2,r3⟩:=ih ys us vs as _ S1 (aj.mono l1 r1) (aj.mono l1 r2) (Vz hl) (UT.mp hp).2 (fun b hb=>⟨(hf b (QQ _ hb)).1,by
     show(if b=a then _ else W.I b)=none;exact J (if_neg (aU b hb)) ((hf b (QQ _ hb)).2)⟩) (fun j b e=>ht (j+1) b e)
    exact⟨W',S2,(G1.weaken fun b e=>by cases e;simp).trans (G2.weaken fun b e=>QQ _ e), .ref a,as.map Um,rfl,⟨a,_,0,rfl,G2.le.2.1 _ _ (Wd.ak ..),⟨_,_,rfl,(ru.mono l1).mono G2.le,_,_,rfl,(rv.mono l1).mono G2.le,rfl⟩,by refine J Rv ?_;simp⟩,r3⟩
theorem BQ{W1}{env}{Q}{fz}{args}{p1}{xs ys}(hz:ET n F fz ρ H (.st (.type "zip")) H)(ha:ab n F p1 args ρ H [.lst xs, .lst ys] H)(R:aB A n)(S1:an W1 H s1)(E:az F env)(CZ:cQ W1 ρ env s1.heap)
  (vz:∀env,eval (.Call fz args [] p1) env=(do Uo p1 (←eval fz env) [] (backTo p1 (starEach args env)) [])) (hp:∀env,(backTo p1 (starEach args env)).any (·.1)=false)
  (q:∀(us vs:List Value)(z TI TO i1 i2 l1 l2:TD) h' s2 W2,Gr cr W1 s1 W2 s2→an W2 H s2→aj W2 xs us→aj W2 ys vs→us.length≤QW→
   WH z TI TO i1 i2 l1 l2→YC h' z TI TO .none→ZS h' z TI TO i1 i2 l1 l2 h'.objs.size 0 us.toArray vs.toArray→(∀b o,s2.heap.get? b=some o→h'.get? b=some o)→s2.heap.objs.size≤h'.objs.size→(∀b,b=z∨b=TO∨b=i1∨b=i2→s2.heap.get? b=Q6)→Q (.ref z) {s2 with heap:=h'}):
  wpAny (model prog w) A (eval (.Call fz args [] p1) env) Q aX s1:=by
 refine J (vz env) (QL (hz.run A s1 W1 env R S1 E CZ _ fun fv La K9 IG Mm GB=> ?_));cases GB;refine Uq (by simp[hp env]) (fun _ h=>h) (cu ha R Mm E (CZ.step IG) (hp env) fun ws s2 W2 G2 S2 r2=>⟨⟨.machine, .inr (.inl rfl),TR rfl⟩, ?_⟩);obtain⟨v1,v2,rfl,⟨l1,us,m1,rfl,C9,ru,IH⟩,⟨l2,vs,m2,rfl,AA,rv,_⟩⟩:=r2.two;have m6:=aA S2 C9;have d4:=aA S2 AA;have a1:l1<s2.heap.objs.size:=by obtain⟨_,e,_⟩:=m6;exact Rq e
 have a2:l2<s2.heap.objs.size:=by obtain⟨_,e,_⟩:=d4;exact Rq e
 refine call_zip_2 m6 d4 fun h' f1 f2 f3 f4 f5 hsz hk=> ?_;exact q us vs _ _ _ _ _ l1 l2 h' s2 W2 (IG.trans G2) S2 ru rv (ru.length▸IH) (zipApart_new a1 a2) f1 ⟨.inl ⟨f1,rfl⟩,f2,⟨_,_,f3⟩,f4,f5,m6.at fun o e=>hk _ o e,d4.at fun o e=>hk _ o e⟩ hk (lb (lg hsz))
  fun b hb=>(fun b hb=>Ss hb) b (by rcases hb with rfl|rfl|rfl|rfl<;>lia)
theorem ET.BR{p1 p2}{xs ys}(hl:ET n F fl ρ H (.st (.type "list")) H)(hz:ET n F fz ρ H (.st (.type "zip")) H)(ha:ab n F p1 args ρ H [.lst xs, .lst ys] H)
  (he:autoParam (∀env,eval (.Call fl [.Call fz args [] p1] [] p2) env=(do Uo p2 (←eval fl env) [] (backTo p2 (starEach [.Call fz args [] p1] env)) [])) aI)
  (vz:autoParam (∀env,eval (.Call fz args [] p1) env=(do Uo p1 (←eval fz env) [] (backTo p1 (starEach args env)) [])) aI)
  (hp:autoParam (∀env,(backTo p1 (starEach args env)).any (·.1)=false) aI):ET n F (.Call fl [.Call fz args [] p1] [] p2) ρ H (.lst (oX xs ys)) H:=by
 refine .mk fun A s W env R S E fr Q q=>(J (he env) ?_);refine QL (hl.run A s W env R S E fr _ fun fv s1 W1 G1 S1 r1=> ?_);cases r1;refine Uq rfl (fun _ h=>h) (Wr (Ws (BQ hz ha R S1 E (fr.step G1) vz hp fun us vs z TI TO i1 i2 l1 l2 h' s2 W2 G2 S2 ru rv IH D fz fs hk hle hn=>YQ ⟨⟨.machine, .inr (.inl rfl),TR rfl⟩, ?_⟩) (cJ rfl env)));refine nt R.handled D fs fz (QU (Wo ..) IH) fun h3 as c' el g k3 e3=> ?_;have keep:∀b o,s2.heap.get? b=some o→h3.get? b=some o:=fun b o e=>by
  have nb:∀c,s2.heap.get? c=Q6→b≠c:=fun c q r=>by cases q▸r▸e
  exact k3 b o (nb _ (hn _ (.inl rfl))) (nb _ (hn _ (.inr (.inl rfl)))) (nb _ (hn _ (.inr (.inr (.inl rfl))))) (nb _ (hn _ (.inr (.inr (.inr rfl))))) (hk b o e)
 obtain⟨S3,G3⟩:=S2.but (s':={s2 with heap:=h3}) (Y:=cr) (fun b o _ e=>keep b o e) (fun _ y=>y.elim) rfl rfl (QM _);have fresh:∀b,h'.objs.size≤b→b∉W2.φ∧W2.I b=Q6:=fun b hb=>S2.fresh (Ss (QU hle hb));have pr:∀j a,as[j]?=some a→∃u v,us[j]?=some u∧vs[j]?=some v∧h3.get? a=some (sq "tuple" [u,v] 0):=fun j a e=>by
  refine QK fun kG=> ?_;obtain⟨_,x,y,e1,e2,e3⟩:=g.2 j a e;refine kG ?_;rw[TU,RQ] at e1 e2;exact⟨x,y,e1,e2,e3⟩
 have lo:∀a∈as,h'.objs.size+1≤a:=fun a ha=>by obtain⟨j,e⟩:=Wn.mp ha;exact(g.2 j a e).1
 obtain⟨W4,S4,G4,r4⟩:=zi xs ys us vs as W2 S3 ru rv (J el (J (show min us.toArray.size vs.toArray.size=(oX xs ys).length by rw[qR,Re,Re,ru.length,rv.length]) rfl)) g.1 (fun a ha=>fresh a (TQ (lo a ha))) pr;have f4:h'.objs.size∉W4.φ∧W4.I h'.objs.size=Q6:=by
  have nn:h3.get? h'.objs.size≠Q6:=e3▸nofun;have na:h'.objs.size∉as:=fun m=>absurd (lo _ m) (len (QM _));have f0:=fresh _ (QM _);refine⟨fun m=> ?_, ?_⟩
  ·rcases G4.cH _ m with q|q|q
   ·exact f0.1 q
   ·exact nn q
   ·exact na q
  ·cases e:W4.I h'.objs.size with
   |none=>rfl
   |some o=>
    rcases G4.gn _ o e with q|q|q|q
    ·cases f0.2.symm.trans q
    ·exact absurd q f0.1
    ·exact absurd q nn
    ·exact absurd q na
 obtain⟨S5,G5,l5⟩:=S4.adopt f4 e3;refine q _ _ _ ?_ S5 ⟨_,_,c',rfl,Wd.ak ..,aj.mono l5 r4,by refine J (qR ..) ?_;exact QU (Wo ..) (ru.length▸IH)⟩;have dead:∀b,h'.objs.size≤b→s2.heap.get? b=Q6:=fun b hb=>Ss (QU hle hb);exact(G1.trans G2).trans ((G3.base G4 fun x hx h=>absurd (dead x (TQ (lo x hx))) h).base G5 fun x hx h=>by subst hx;exact absurd (dead _ (QM _)) h)
end
theorem nZ:∀l:List Rj,ed (l.map V.str)=some (l.map Zj)
 |[]=>rfl
 |x::l=>by refine J (Q8 ..) (J (eN ..) (J (nZ l) ?_));rfl
theorem mA:∀l:List (Rj×Rj),ed (l.map ag)=some (l.map fun p=>Yx [.str p.1, .str p.2])
 |[]=>rfl
 |x::l=>by refine J (Q8 ..) (J (eN ..) (J (mA l) ?_));rfl
theorem iN{α:Type}[BEq α] f(h:∀a b,TS (f a) (f b)=(a==b)):∀l m:List α,aan (l.map f) (m.map f)=(l==m)
 |[],[]=>rfl
 |[],_::_=>rfl
 |_::_,[]=>rfl
 |a::l,b::m=>by
  show(TS (f a) (f b)&&aan (l.map f) (m.map f))=((a::l)==(b::m));refine J (h ..) (J (iN f h l m) ?_);rfl
theorem zj(l m:List Rj):V.eqv (.lst (l.map V.str)) (.lst (m.map V.str))=(l==m):=by
 have e (l:List Rj):(V.lst (l.map V.str)).data=some (.list (l.map Zj)):=congrArg (Zk YW) (nZ l);unfold V.eqv;exact J (e ..) (J (e ..) ((iN Zj (fun _ _=>rfl) l m)))
theorem mB(p q:Rj×Rj):V.eqv (ag p) (ag q)=(p==q):=by
 show(p.1==q.1&&(p.2==q.2&&true))=(p.1==q.1&&p.2==q.2);rw[YA]
theorem wQ(l m:List (Rj×Rj)):V.eqv (.lst (l.map ag)) (.lst (m.map ag))=(l==m):=by
 have e (l:List (Rj×Rj)):(V.lst (l.map ag)).data=some (.list (l.map fun p=>Yx [.str p.1, .str p.2])):=congrArg (Zk YW) (mA l);unfold V.eqv;exact J (e ..) (J (e ..) ((iN (fun p:Rj×Rj=>Yx [.str p.1, .str p.2]) (fun p q=>mB p q) l m)))
noncomputable def wV(w:List Rj):V:= .lst (w.map V.str)
noncomputable def bM(w:List Rj):Rj:=w.getLast?.getD ""
noncomputable def ei(w:List Rj):Rj:=bM w.dropLast
noncomputable def steps(w:List Rj):List (Rj×Rj):=w.zip w.tail
structure oY w:Prop where
 ne:w≠[]
 len:w.length≤100
 ok:∀x∈w,QZ x=true
theorem so(h:QZ x=true):(V.str x).ok=true:=V.nG (V.fX h 0) dc
theorem gN{l:List Rj}(h:∀x∈l,QZ x=true):(l.map V.str).all V.ok=true:=by rw[VE,R8];exact fun x hx=>so (h x hx)
theorem uS{l:List Rj}(h:∀x∈l,QZ x=true):(V.lst (l.map V.str)).ok=true:=V.nG (V.kK (by rw[VE,R8];exact fun x hx=>V.fX (h x hx) 0)) dc
theorem oZ(h:QZ p.1=true∧QZ p.2=true):(ag p).ok=true:=V.nG (nX h) dc
theorem n5{l:List (Rj×Rj)}(h:∀p∈l,QZ p.1=true∧QZ p.2=true):(l.map ag).all V.ok=true:=by rw[VE,R8];exact fun x hx=>oZ (h x hx)
theorem qS{w}(h:∀x∈w,QZ x=true):∀p∈steps w,QZ p.1=true∧QZ p.2=true:=fun p hp=>by
 have:=aao hp;exact⟨h _ this.1,h _ (List.mem_of_mem_tail this.2)⟩
theorem n6:∀w v:List Rj,oX (w.map V.str) (v.map V.str)=(w.zip v).map ag
 |[],_=>rfl
 |_::_,[]=>rfl
 |a::w,b::v=>by show V.tup _::oX (w.map V.str) (v.map V.str)=_;exact(n6 w v)▸rfl
theorem uT l(k:Nat)(hk:k≠0):cut (some (-k)) none l=l.drop (l.length-k):=by
 unfold cut XG;rw[Xl,Xk,if_pos (Int.neg_neg_of_pos (Vg.mpr (ZO hk))),Gl,Su (by rw[Vp];exact QM _)]
section
variable{n:Nat}{F:Fx}{ρ:Loc}{H:AH}
theorem ET.last{kk}{x}(h:ET n F e ρ H (wV x) H)(hx:x≠[]):ET n F (.Subscript e (.UnaryOp .USub (.Constant (.int 1) kk p1) p2) p3) ρ H (.str (bM x)) H:=by
 refine ET.sub h (ET.unary ET.int j1.neg) Ty.lst Rp.lookup (OT.ey ?_ (by refine J R3 (J (kW hx "") ?_);rfl));refine J (QP ..) (xA (k:=1) (UE.mpr hx))
theorem ET.prev{kk}{x}(h:ET n F e ρ H (wV x) H)(hx:1<x.length):ET n F (.Subscript e (.UnaryOp .USub (.Constant (.int 2) kk p1) p2) p3) ρ H (.str (ei x)) H:=by
 refine ET.sub h (ET.unary ET.int j1.neg) Ty.lst Rp.lookup (OT.ey (i:=x.length-2) ?_ ?_)
 ·exact J (QP ..) (xA (k:=2) hx)
 ·have h1:x.dropLast≠[]:=fun q=>by have:=congrArg SF q;simp at this;omega
  have:=kW h1 "";rw[Vv,List.getElem?_dropLast,if_pos (Gs (bC (Jw (ML (MR hx)))))] at this;refine J R3 (J (show x.length-2=x.length-1-1 by exact rfl) (J this ?_));rfl
theorem OT.BS{l m:List Rj}(hl:∀x∈l,QZ x=true)(hm:∀x∈m,QZ x=true):OT (n+8) (RZ .Eq) (.lst (l.map V.str)) (.lst (m.map V.str)) H (.bool (l==m)) H:=by
 exact aO (zj ..) ((OT.Ej (uS hl) (uS hm) (fun _ e=>e) (fun _ e=>e)))
theorem OT.zk{l m:List (Rj×Rj)}(hl:∀p∈l,QZ p.1=true∧QZ p.2=true)(hm:∀p∈m,QZ p.1=true∧QZ p.2=true):OT (n+8) (RZ .Eq) (.lst (l.map ag)) (.lst (m.map ag)) H (.bool (l==m)) H:=by
 exact aO (wQ ..) ((OT.Ej (jU hl) (jU hm) (fun _ e=>e) (fun _ e=>e)))
theorem CT.wR{l:List Rj}{x}(hl:∀x∈l,QZ x=true)(hx:QZ x=true):CT (n+8) (.st (.builtin "list.count")) [.lst (l.map V.str), .str x] [] H (.int (l.count x:Nat)) H:=by
 exact aO (mv ..) ((CT.count (gN hl) (so hx)))
theorem CT.tP{l:List (Rj×Rj)}{x}(hl:∀p∈l,QZ p.1=true∧QZ p.2=true)(hx:QZ x.1=true∧QZ x.2=true):CT (n+8) (.st (.builtin "list.count")) [.lst (l.map ag),ag x] [] H (.int (l.count x:Nat)) H:=by
 exact(show l.count x=(l.map ag).countP fun y=>V.eqv y (ag x) by exact J aas ((congrFun (congrArg List.countP (funext fun p=>(mB p x).symm)) l)))▸CT.count (n5 hl) (oZ hx)
theorem any_beq{α:Type}[BEq α][LawfulBEq α](l:List α) x:(l.any fun y=>y==x)=l.contains x:=by
 induction l with
 |nil=>rfl
 |cons a l ih=>rw[V0,ZF,ih,show(a==x)=(x==a) from BEq.comm]
theorem OT.BT{l:List Rj}{x}(hl:∀x∈l,QZ x=true)(hx:QZ x=true):OT (n+8) (RZ .In) (.str x) (.lst (l.map V.str)) H (.bool (l.contains x)) H:=by
 rw[←any_beq,show(l.any fun y=>y==x)=(l.map V.str).any fun y=>V.eqv y (.str x) by rw[Wf];rfl];exact OT.xI (gN hl) (so hx)
theorem OT.zl{l:List (Rj×Rj)}{x}(hl:∀p∈l,QZ p.1=true∧QZ p.2=true)(hx:QZ x.1=true∧QZ x.2=true):OT (n+8) (RZ .In) (ag x) (.lst (l.map ag)) H (.bool (l.contains x)) H:=by
 rw[←any_beq,show(l.any fun y=>y==x)=(l.map ag).any fun y=>V.eqv y (ag x) by rw[Wf];exact congrFun (congrArg List.any rfl) _|>.trans (by congr 1;funext p;exact(mB p x).symm)];exact OT.xI (n5 hl) (oZ hx)
theorem ET.len{xs}{k}{H1}(B:Base)(h:ET n F e ρ H (.lst xs) H1)(hk:xs.length=k){pl}(hn:autoParam (F.names.lookup ("len":Rj)=some .globalImplicit) aK)(he:autoParam (isStar e=false) aI)
  (hp:autoParam (∀env,(backTo p (starEach [e] env)).any (·.1)=false) aI):ET n F (.Call (.Name "len" pl) [e] [] p) ρ H (.int k) H1:=by
 subst hk;exact ET.call (ET.ay B (jF) jI hn) (ab.cons h ab.nil he) aL.builtin CT.uq (hp:=hp)
end
noncomputable def av(pre:List Rj):List Rj→List Rj
 |[]=>[]
 |x::xs=>if pre.contains x then av (pre++[x]) xs else x::av (pre++[x]) xs
theorem ga:av pre (x::xs)=if pre.contains x then av (pre++[x]) xs else x::av (pre++[x]) xs:=rfl
theorem mC:∀(l pre:List Rj),aC (pre.map V.str) (l.map V.str)=(av pre l).map V.str:=by
 intro rv
 induction rv with
 |nil=>
  intro _;exact rfl
 |cons x l ih=>
  intro pre;have ih:=ih (pre++[x]);rw[Rc,Si] at ih;have e:((pre.map V.str).any fun y=>V.eqv y (.str x))=pre.contains x:=by refine J (Wf ..) (aO (any_beq ..) ?_);rfl
  rw[Q8,cS,ga,e,ih];split<;>rfl
noncomputable def zm(w:List Rj):V:= .tup [wV w, .lst ((steps w).map ag)]
structure DC where
 caller:Rj
 n:Nat
 once:Nat
 own:Nat
 whole:Nat
noncomputable def gb(c m:Rj)(w:List Rj):Bool:=w.drop (w.length-2)==[c,m]
noncomputable def mD(p:Rj×Rj)(l:List (Rj×Rj)):Bool:=(((l.count p:Nat):Int)==1)
noncomputable def mE(bB spent:List (List Rj))(m c:Rj):DC:=⟨c,(bB.filter (gb c m)).length,((bB.filter (gb c m)).filter fun w=>mD (c,m) (steps w)).length,
 (spent.filter fun w=>(steps w).drop ((steps w).length-1)==[(c,m)]).length,(spent.filter fun w=>(steps w).contains (c,m)).length⟩
noncomputable def four(a b c d:Nat):V:= .tup [.int a, .int b, .int c, .int d]
noncomputable def rY(plain:Bool)(d:DC):V:= .tup [.str d.caller,if plain then .int d.n else four d.n d.once d.own d.whole]
noncomputable def dB:List U3:=fZ (au (bodyOf 247) 1)
noncomputable def cB:List U3:=fZ (au (dB) 1)
noncomputable abbrev II(b c:Nat)(bB spent:List (List Rj))(calls:V)(m:Rj)(plain:Bool):Loc:=[("callers", .ref c),("mine", .lst (bB.map wV)),("name", .str m),("spent", .lst (spent.map zm)),("plain", .bool plain),("due", .ref b),("calls",calls)]
theorem fJ{H:AH}{c}{x}(h:H[c]?=some x):H.set c x=H:=by
 refine Xn fun j=>(J Xm ?_);refine bl (fun _=> ?_) fun _=> ?_
 ·rename_i e;subst e;refine J h ?_;simp[(QY.mp h).1]
 ·rfl
theorem set_set{H:AH}{c}{x y}:(H.set c x).set c y=H.set c y:=List.set_set ..
noncomputable abbrev PO(e:SD):SD:=nq e
section
variable{n:Nat}{F:Fx}{ρ dH:Loc}{H H1:AH}
theorem XT.lc{α:Type}{elt target iter}{ifs}{scope}{pos iG py}{nm}{P}(xs:List α){vx} b y(K:aq F scope ρ dH)(hi:IT n F iter ρ H (xs.map vx) P H1)(hp:P.1 H1)(hT:P.2 target)(hz:xs.length≤QW)
  (h:∀x∈xs,∃am,AT n ⟨dT F scope.names,F.code,false,Q6⟩ target (vx x) dH H1 am H1∧eI n ⟨dT F scope.names,F.code,false,Q6⟩ ifs am H1 (b x) H1∧(b x=true→ET n ⟨dT F scope.names,F.code,false,Q6⟩ elt am H1 (y x) H1)∧∀m z,dH.lookup m=some z→am.lookup m=some z)
  (fN:autoParam (F.names.lookup nm=some .local) aK)
  (hsw:∀env,az F env→WB (.ListComp elt [⟨target,iter,ifs,0⟩] scope pos) (some (.Name nm py)) iG.line env=pure true)
  (hs:autoParam (∀env x,Sv iter env x=pure x) aI):
  XT n F (.Assign [.Name nm py] (.ListComp elt [⟨target,iter,ifs,0⟩] scope pos) iG) ρ H .next ((nm, .lst ((xs.filter b).map y))::ρ) H1:=by
 exact XT.cK K hi (CF.Iy hp hT xs [] h (by simpa using hz)) (J (QP ..) (QU (Sk ..) hz)) (ST.local fN) hsw hs
theorem ET.IJ(B:Base){e1 e2}{p1 p2 p3 p4 p5}{kk}{x}(h1:ET n F e1 ρ H (wV x) H)(h2:ET n F e2 ρ H (wV x) H)(hl:autoParam (F.names.lookup ("list":Rj)=some .globalImplicit) aK)(hz:autoParam (F.names.lookup ("zip":Rj)=some .globalImplicit) aK)
  (s1:autoParam (isStar e1=false) aI) {pl pz}
  (hp:autoParam (∀env,(backTo p1 (starEach [e1, .Subscript e2 (.Slice (some (.Constant (.int 1) kk p3)) Q6 Q6 p4) p5] env)).any (·.1)=false) aI):
  ET n F (.Call (.Name "list" pl) [.Call (.Name "zip" pz) [e1, .Subscript e2 (.Slice (some (.Constant (.int 1) kk p3)) Q6 Q6 p4) p5] [] p1] [] p2) ρ H (.lst ((steps x).map ag)) H:=by
 exact(n6 ..)▸(show cut (some 1) Q6 (x.map V.str)=x.tail.map V.str by exact J (show 1=((1:Nat):Int) from rfl) (J (gE ..) (J (aa0 ..) (J (List.map_tail ..) rfl))))▸(ET.BR (p2:=p2) (ET.ay (pos:=pl) B (uH) uJ hl) (ET.ay (pos:=pz) B (yF) yI hz) (ab.cons h1 (ab.cons (ET.dI h2 (PT.some (ET.int)) PT.none) ab.nil) s1) (hp:=hp))
theorem qT(B:Base){b c}{bB spent}{calls}{m cl}{plain}{acc}(hm:∀x∈bB,oY x)(hs:∀x∈spent,oY x)(lm:bB.length≤1000)(ls:spent.length≤1000)(om:QZ m=true)(oc:QZ cl=true)(hc:H[c]?=some (some (.list acc)))(hz:acc.length<1000):
  af (n+8+1) (ax 247) (cB) (("caller", .str cl)::II b c bB spent calls m plain) H .next (II b c bB spent calls m plain) (H.set c (some (.list (acc++[rY plain (mE bB spent m cl)])))):=by
 let gz:Loc:=("caller", .str cl)::II b c bB spent calls m plain;let am:Loc:=("step",ag (cl,m))::gz;have h2:∀x∈[cl,m],QZ x=true:=fun x hx=>by simp at hx;rcases hx with rfl|rfl<;>assumption
 refine af.cons (am:=am) (XT.assign (ET.tuple (ab.cons ET.name (ab.cons ET.name ab.nil)) (show 2≤QW by decide)) (bv.one (AT.name (ST.cell rfl))) (fun _=>rfl) (fun env E=>dw E rfl)) ?_;let Mn:=(bB.filter (gb cl m)).map fun w=>V.lst ((steps w).map ag);refine af.cons (XT.lc (hsw:=fun _ E=>kT E kr kr kr) (dH:=[("caller", .str cl),("name", .str m)]) bB (gb cl m) (fun w=>V.lst ((steps w).map ag)) (aq.of rfl (aa rfl (aa rfl ad))) (IT.val ET.name VT.lst) trivial trivial (gy lm)
  fun x hx=>⟨_,AT.nm,eI.one (TT.cmp (ET.dI ET.name (PT.some (ET.unary ET.int j1.neg)) PT.none) (ET.list (ab.cons ET.name (ab.cons ET.name ab.nil)) (show 2≤QW by decide)) ?_),fun _=>ET.IJ B ET.name ET.name,aa rfl (aa rfl ad)⟩) ?_
 ·have:=OT.BS (n:=n+1) (H:=H) (l:=x.drop (x.length-2)) (fun y hy=>(hm x hx).ok y (Wv hy)) h2;rw[Yz] at this;exact J (show(-2:Int)=-(2:Int) from rfl) (J (uT _ _ dc) (J (QP ..) ((this))))
 let cf:=bB.filter (gb cl m);let cU:Loc:=("came", .lst Mn)::am;have op:QZ (cl,m).1=true∧QZ (cl,m).2=true:=⟨oc,om⟩;have Fa:=fun x hx=>qS (hs x hx).ok;let d:=mE bB spent m cl;refine af.cons (XT.assign (x:= .int d.once) (ET.len B (ET.lc (dH:=[("step",ag (cl,m))]) cf (fun w=>mD (cl,m) (steps w)) (fun w=>V.lst ((steps w).map ag))
   (aq.of rfl (aa rfl ad)) (IT.val ET.name VT.lst) trivial trivial (gy (QU (Sk ..) lm)) fun x hx=>⟨_,AT.nm,eI.one (TT.cmp (ET.aQ ET.name (GM.of Ty.lst aH.lst Rf UK UI) (ab.cons ET.name ab.nil) aL.builtin (CT.tP (qS (hm x ((fun x hx=>(RO.mp hx).1) x hx)).ok) op)) ET.int OT.eq_int),fun _=>ET.name rfl,aa rfl ad⟩)
   (J (QP ..) rfl)) bv.nm) ?_
 let hJ:Loc:=("once", .int d.once)::cU;refine af.cons (XT.assign (x:= .int d.own) (ET.len B (ET.lc (dH:=[("step",ag (cl,m))]) spent (vx:=zm) (fun w=>(steps w).drop ((steps w).length-1)==[(cl,m)]) (fun w=>V.lst ((steps w).map ag))
   (aq.of rfl (aa rfl ad)) (IT.val ET.name VT.lst) trivial trivial (gy ls) fun x hx=>⟨_,AT.two,eI.one (TT.cmp (ET.dI ET.name (PT.some (ET.unary ET.int j1.neg)) PT.none) (ET.list (ab.cons ET.name ab.nil) (show 1≤QW by decide)) ?_),fun _=>ET.name rfl,aa rfl ad⟩)
   (J (QP ..) rfl)) bv.nm) ?_
 ·have:=OT.zk (n:=n+1) (H:=H) (l:=(steps x).drop ((steps x).length-1)) (fun y hy=>Fa x hx y (Wv hy)) (fun y hy=>by exact(QV.mp hy)▸op);rw[Yz] at this;exact J (show(-1:Int)=-(1:Int) from rfl) (J (uT _ _ dc) (J (QP ..) ((this))))
 let Gb:Loc:=("own", .int d.own)::hJ;refine af.cons (am:=("whole", .int d.whole)::Gb) (XT.assign (ET.len B (ET.lc (dH:=[("step",ag (cl,m))]) spent (vx:=zm) (fun w=>(steps w).contains (cl,m)) (fun w=>V.lst ((steps w).map ag))
   (aq.of rfl (aa rfl ad)) (IT.val ET.name VT.lst) trivial trivial (gy ls) fun x hx=>⟨_,AT.two,eI.one (TT.cmp ET.name ET.name (OT.zl (Fa x hx) op)),fun _=>ET.name rfl,aa rfl ad⟩)
   (J (QP ..) rfl)) bv.nm) ?_
 let Fb:Loc:=("whole", .int d.whole)::Gb;have E9:∀{p1 pl p2},ET (n+8+1) (ax 247) (.Call (.Name "len" pl) [.Name "came" p1] [] p2) Fb H (.int d.n) H:=ET.len B ET.name (by exact J (QP ..) rfl);refine af.cons (XT.expr (ET.aQ (xs:=[rY plain d]) ET.name (GM.of (Ty.ah hc) (aH.ah hc) Rf St RB) (ab.cons (ET.tuple (ab.cons ET.name (ab.cons (ET.db (TT.value ET.name OB.bool) (fun h=> ?_) (fun h=> ?_)) ab.nil)) (show 2≤QW by decide)) ab.nil) aL.builtin (CT.append hc (ao hz dc)))) ?_
 ·subst h;exact E9
 ·subst h;exact ET.tuple (ab.cons E9 (ab.cons ET.name (ab.cons ET.name (ab.cons ET.name ab.nil)))) (show 4≤QW by decide)
 exact af.sub af.nil (aa rfl (aa rfl (aa rfl (aa rfl (aa rfl (aa rfl (aa rfl ad)))))))
theorem qU(B:Base){b c}{bB spent}{calls}{m}{plain}(hm:∀x∈bB,oY x)(hs:∀x∈spent,oY x)(lm:bB.length≤1000)(ls:spent.length≤1000)(om:QZ m=true):∀(cs:List Rj) acc H,(∀x∈cs,QZ x=true)→H[c]?=some (some (.list acc))→acc.length+cs.length≤1000→
  XF (n+8+1) (ax 247) (fun _=>True,fun _=>True) (jH (au (dB) 1)) (cB) [] (cs.map V.str) (II b c bB spent calls m plain) H .next (II b c bB spent calls m plain) (H.set c (some (.list (acc++cs.map fun x=>rY plain (mE bB spent m x))))):=by
 intro cs
 induction cs with
 |nil=>
  intro acc H _ hc _;rw[RY,RY,Ra,fJ hc];exact XF.nil trivial af.nil
 |cons x cs ih=>
  intro acc H ho hc hz;have:=ih (acc++[rY plain (mE bB spent m x)]) (H.set c (some (.list (acc++[rY plain (mE bB spent m x)])))) (fun y hy=>ho y (QQ _ hy)) (SG (QY.mp hc).1) (J QS (J Sc ((ik hz))));rw[set_set,Rm] at this;exact XF.cons trivial trivial (AT.name (ST.cell rfl)) (qT B hm hs lm ls om (ho x QR) hc (ui hz)) this
end
structure DN where
 name:Rj
 once:Nat
 n:Nat
 own:Nat
 whole:Nat
 cs:List DC
 wc:Nat
noncomputable def ej(w:List Rj):Bool:=decide ((w.length:Int)>1)
noncomputable def mF(calls spent:List (List Rj))(m:Rj):DN:=
 let bB:=calls.filter fun w=>bM w==m
 ⟨m,(bB.filter fun w=>((w.count m:Nat):Int)==1).length,bB.length,(spent.filter fun w=>bM w==m).length,(spent.filter fun w=>w.contains m).length,(av [] ((bB.filter ej).map ei)).map (mE bB spent m),(bB.filter ej).length⟩
noncomputable def rZ(plain:Bool)(d:DN):V:= .tup [.str d.name,four d.once d.n d.own d.whole, .lst (d.cs.map (rY plain)),if plain then .int d.wc else .none]
noncomputable abbrev Gc(b:Nat)(spent:List (List Rj))(calls:List (List Rj))(plain:Bool):Loc:=[("spent", .lst (spent.map zm)),("plain", .bool plain),("due", .ref b),("calls", .lst (calls.map wV))]
theorem ki:∀(l pre:List Rj) x,x∈av pre l→x∈l:=by
 intro rv
 induction rv with
 |nil=>
  intro _ _ h;cases h
 |cons y l ih=>
  intro pre x h;rw[ga] at h;revert h;refine bl (fun _ h=> ?_) fun _ h=> ?_
  ·exact QQ _ (ih _ x h)
  ·rcases QX.mp h with rfl|h
   ·exact QR
   ·exact QQ _ (ih _ x h)
theorem kj:∀(l pre:List Rj),(av pre l).length≤l.length:=by
 intro rv
 induction rv with
 |nil=>
  intro _;exact QM _
 |cons y l ih=>
  intro pre;rw[ga];have:=ih (pre++[y]);refine bl (fun _=> ?_) (fun _=> ?_)<;>simp<;>lia
theorem hZ{w}(h:w≠[]):bM w∈w:=by
 unfold bM;exact(XQ h)▸Z7 h
theorem wS{w}(h:1<w.length):ei w∈w:=(List.dropLast_sublist w).subset (hZ fun q=>by have:=congrArg SF q;simp at this;omega)
section
variable{n:Nat}{F:Fx}{ρ dH:Loc}{H H1:AH}
theorem wT(B:Base){b}{calls spent}{m}{plain}{acc}(hm:∀x∈calls,oY x)(hs:∀x∈spent,oY x)(lm:calls.length≤1000)(ls:spent.length≤1000)(om:QZ m=true)(hb:H[b]?=some (some (.list acc)))(hz:acc.length<1000):
  af (n+8+1+1) (ax 247) (dB) (("name", .str m)::Gc b spent calls plain) H .next (Gc b spent calls plain) (H.set b (some (.list (acc++[rZ plain (mF calls spent m)])))++[none]):=by
 let bB:=calls.filter fun w=>bM w==m;let d:=mF calls spent m;let gz:Loc:=("name", .str m)::Gc b spent calls plain;let c:=H.length;have FZ:∀x∈bB,oY x:=fun x hx=>hm x (RO.mp hx).1;have Gd:bB.length≤1000:=QU (Sk ..) lm;let am:Loc:=("mine", .lst (bB.map wV))::("callers", .ref c)::gz;refine af.cons (am:=am) (XT.fQ (xs:=["mine","callers"]) (ET.tuple (ab.cons (ET.lc (dH:=[("name", .str m)]) calls (fun w=>bM w==m) wV (aq.of rfl (aa rfl ad)) (IT.val ET.name VT.lst) trivial trivial (gy lm)
  fun x hx=>⟨_,AT.nm,eI.one (TT.cmp (ET.last ET.name (hm x hx).ne) ET.name OT.eq_str),fun _=>ET.name rfl,aa rfl ad⟩) (ab.cons (ET.d9 ab.nil) ab.nil)) (show 2≤QW by decide)) ⟨ST.local rfl,ST.local rfl,trivial⟩ rfl (fun _=>rfl) (fun env E=>cX E rfl)) ?_
 have zf:(H++[some (.list [])])[c]?=some (some (AO.list [])):=by refine J (Rh (QM _)) (J (RU ..) ?_);rfl
 let H1:AH:=H++[some (.list [])];let cs:=av [] ((bB.filter ej).map ei);have zn:∀x∈bB.filter ej,1<x.length:=fun x hx=>by have:=(RO.mp hx).2;have:=of_decide_eq_true this;lia
 have C2:∀x∈(bB.filter ej).map ei,QZ x=true:=fun x hx=>by
  obtain⟨y,hy,rfl⟩:=Q4.mp hx;exact(FZ y (RO.mp hy).1).ok _ (wS (zn y hy))
 have uA:=j8 (n:=n+1) (H:=H1) B (gN C2) (by refine J (QP ..) (J (QP ..) ?_);exact ao (Sk ej bB) (ao Gd dc));have BI:=mC ((bB.filter ej).map ei) [];rw[RY] at BI;rw[BI] at uA;let L:=cs.map fun x=>rY plain (mE bB spent m x);refine af.cons (XT.for (IT.val (ET.call (ET.globK B (gJ)) (ab.cons (ET.lc bB ej (fun w=>V.str (ei w)) (aq.of rfl ad) (IT.val ET.name VT.lst) trivial trivial (gy Gd) fun x hx=> ?_) ab.nil) (aL.def (yD B)) (by rw[Rk] at uA;exact uA)) VT.lst)
  (XF.sub (qU (n:=n+1) B (b:=b) (calls:= .lst (calls.map wV)) (plain:=plain) FZ hs Gd ls om cs [] H1 (fun x hx=>C2 x (ki _ _ x hx)) zf (by simpa using(QU (kj _ _) (by exact J (QP ..) ((QU (Sk ..) Gd)))))) (aa rfl (aa rfl (aa rfl (aa rfl (aa rfl (aa rfl (aa rfl ad))))))))) ?_
 ·refine⟨_,AT.nm,eI.one (TT.cmp (ET.len B ET.name rfl) ET.int ?_),fun Li=>ET.prev ET.name (zn x (RO.mpr ⟨hx,Li⟩)),ad⟩;exact J (QP ..) ((OT.gt_int))
 let cU:Loc:=[("callers", .lst L),("mine", .lst (bB.map wV)),("name", .str m),("spent", .lst (spent.map zm)),("plain", .bool plain),("due", .ref b),("calls", .lst (calls.map wV))];have Ay:(H1.set c (some (.list L))).set c none=H++[none]:=by refine J set_set (J (RF _ _ (QM _)) (J (RU ..) ?_));rfl
 refine af.freeze (ρ':=cU) (x:= .lst L) B.mods (SG (QY.mp zf).1) rfl (fun y z e=> ?_) ?_
 ·by_cases hy:y="callers"
  ·subst hy;cases e;exact .inr ⟨rfl,rfl⟩
  ·refine .inl ?_;rw[lookup_cons,if_neg hy] at e;exact J lookup_cons (J (if_neg hy) ((e)))
 refine J Ay ?_;let H2:AH:=H++[none];let hJ:Loc:=("once", .int d.once)::cU;refine af.cons (am:=hJ) (XT.assign (ET.len B (ET.lc (dH:=[("name", .str m)]) bB (fun w=>((w.count m:Nat):Int)==1) wV (aq.of rfl (aa rfl ad)) (IT.val ET.name VT.lst) trivial trivial (gy Gd) fun x hx=>⟨_,AT.nm,eI.one (TT.cmp (ET.aQ ET.name (GM.of Ty.lst aH.lst Rf UK UI) (ab.cons ET.name ab.nil) aL.builtin (CT.wR (FZ x hx).ok om)) ET.int OT.eq_int),fun _=>ET.name rfl,aa rfl ad⟩)
  (J (QP ..) rfl)) bv.nm) ?_
 let Gb:Loc:=("own", .int d.own)::hJ;refine af.cons (am:=Gb) (XT.assign (ET.len B (ET.lc (dH:=[("name", .str m)]) spent (vx:=zm) (fun w=>bM w==m) wV (aq.of rfl (aa rfl ad)) (IT.val ET.name VT.lst) trivial trivial (gy ls) fun x hx=>⟨_,AT.two,eI.one (TT.cmp (ET.last ET.name (hs x hx).ne) ET.name OT.eq_str),fun _=>ET.name rfl,aa rfl ad⟩)
  (J (QP ..) rfl)) bv.nm) ?_
 let Fb:Loc:=("whole", .int d.whole)::Gb;refine af.cons (am:=Fb) (H1:=H2) (XT.assign (ET.len B (ET.lc (dH:=[("name", .str m)]) spent (vx:=zm) (fun w=>w.contains m) wV (aq.of rfl (aa rfl ad)) (IT.val ET.name VT.lst) trivial trivial (gy ls) fun x hx=>⟨_,AT.two,eI.one (TT.cmp ET.name ET.name (OT.BT (hs x hx).ok om)),fun _=>ET.name rfl,aa rfl ad⟩)
  (J (QP ..) rfl)) bv.nm) ?_
 have sS:H2[b]?=some (some (.list acc)):=(RC (QY.mp hb).1).trans (hb);refine af.cons (XT.expr (ET.aQ (xs:=[rZ plain d]) ET.name (GM.of (Ty.ah sS) (aH.ah sS) Rf St RB) (ab.cons (ET.tuple (ab.cons ET.name (ab.cons (ET.tuple (ab.cons ET.name (ab.cons (ET.len B ET.name (QP ..)) (ab.cons ET.name (ab.cons ET.name ab.nil)))) (show 4≤QW by decide))
  (ab.cons ((show V.lst L= .lst (d.cs.map (rY plain)) by exact J Rk rfl)▸ET.name rfl) (ab.cons (ET.db (show TT (n+8+1+1) (ax 247) (PO (cL 3 (cL 0 (gK (au (dB) 5))))) Fb H2 plain H2 from TT.value ET.name OB.bool) (fun h=> ?_) (fun h=> ?_)) ab.nil)))) (show 4≤QW by decide)) ab.nil) aL.builtin (CT.append sS (ao hz dc)))) ?_
 ·subst h;refine ET.len B (ET.lc bB ej wV (aq.of rfl ad) (IT.val ET.name VT.lst) trivial trivial (gy Gd) fun x hx=>⟨_,AT.nm,eI.one (TT.cmp (ET.len B ET.name rfl) ET.int ?_),fun _=>ET.name rfl,ad⟩) (by refine J (QP ..) ?_;rfl);exact J (QP ..) ((OT.gt_int))
 ·subst h;exact ET.none
 exact(Za _ _ (QY.mp hb).1)▸af.sub af.nil (aa rfl (aa rfl (aa rfl (aa rfl ad))))
theorem wU(B:Base){b}{calls spent}{plain}(hm:∀x∈calls,oY x)(hs:∀x∈spent,oY x)(lm:calls.length≤1000)(ls:spent.length≤1000):∀(ns:List Rj) acc H,(∀x∈ns,QZ x=true)→H[b]?=some (some (.list acc))→acc.length+ns.length≤1000→
  XF (n+8+1+1) (ax 247) (fun _=>True,fun _=>True) (jH (au (bodyOf 247) 1)) (dB) [] (ns.map V.str) (Gc b spent calls plain) H .next (Gc b spent calls plain) (H.set b (some (.list (acc++ns.map fun x=>rZ plain (mF calls spent x))))++Q3 ns.length none):=by
 intro ns
 induction ns with
 |nil=>
  intro acc H _ hc _;rw[RY,RY,Ra,fJ hc,show Q3 (SF ([]:List Rj)) none=[] from rfl,Ra];exact XF.nil trivial af.nil
 |cons x ns ih=>
  intro acc H ho hb hz;have ce:=(QY.mp hb).1;have:=ih (acc++[rZ plain (mF calls spent x)]) (H.set b (some (.list (acc++[rZ plain (mF calls spent x)])))++[none]) (fun y hy=>ho y (QQ _ hy)) (by rw[RC (by rw[Sl];exact ce),SG ce]) (J QS (J Sc ((ik hz))));rw[Za _ _ (by rw[Sl];exact ce),set_set,Rm,Rm,show [none]++Q3 ns.length none=Q3 (x::ns).length none from rfl] at this;exact XF.cons trivial trivial (AT.name (ST.cell rfl)) (wT B hm hs lm ls (ho x QR) hb (ui hz)) this
theorem uU k plain:∀l:List DC,bD k (l.map (rY plain))=true
 |[]=>rfl
 |x::l=>by
  show((rY plain x).dF k&&bD k (l.map (rY plain)))=true;refine J (uU k plain l) ?_;cases plain<;>rfl
theorem BU k plain:∀l:List DN,bD k (l.map (rZ plain))=true:=by
 intro rv
 induction rv with
 |nil=>
  exact rfl
 |cons x l ih=>
  show((true&&((four x.once x.n x.own x.whole).dF k&&(bD k (x.cs.map (rY plain))&&((if plain then V.int x.wc else .none:V).dF k&&true))))&&bD k (l.map (rZ plain)))=true;refine J (ih ..) (J (uU ..) ?_);cases plain<;>rfl
noncomputable def mG(calls spent:List (List Rj)):List DN:=(av [] (calls.map bM)).map (mF calls spent)
theorem zo(B:Base){H0}{calls ticks}{plain}(hm:∀x∈calls,oY x)(hs:∀x∈ticks,oY x)(lm:calls.length≤1000)(ls:ticks.length≤1000)(AK:∀ob,some ob∈H0→ob.dF H0.length=true):
  CT (n+8+1+1+1) (.st (.ref 247)) [.lst (calls.map wV), .lst (ticks.map wV), .bool plain] [] H0 (.lst ((mG calls ticks).map (rZ plain))) H0:=by
 let b:=H0.length;let ns:=av [] (calls.map bM);let H1:AH:=H0++[some (.list [])];have hb:H1[b]?=some (some (.list [])):=by refine J (Rh (QM _)) (J (RU ..) ?_);rfl
 have xy:∀x∈calls.map bM,QZ x=true:=fun x hx=>by
  obtain⟨y,hy,rfl⟩:=Q4.mp hx;exact(hm y hy).ok _ (hZ (hm y hy).ne)
 have uA:=j8 (n:=n+1) (H:=H1) B (gN xy) (J (QP ..) (J (QP ..) ((gy lm))));have BI:=mC (calls.map bM) [];rw[RY] at BI;rw[BI] at uA;have Ge:=wU (n:=n) B (plain:=plain) hm hs lm ls ns [] H1 (fun x hx=>xy x (ki _ _ x hx)) hb (by simpa using(QU (kj _ _) (J (QP ..) ((lm)))));rw[Tc] at Ge;let L:=ns.map fun x=>rZ plain (mF calls ticks x);have hH:H1.set b (some (.list L))++Q3 ns.length none=H0++(some (.list L)::Q3 ns.length none):=by
  refine J (RF _ _ (QM _)) (J (RU ..) (J (Rm ..) ?_));rfl
 rw[hH] at Ge;have mz:CT (n+8+1+1+1) (.st (.ref 247)) [.lst (calls.map wV), .lst (ticks.map wV), .bool plain] [] H0 (.ref b) (H0++(some (.list L)::Q3 ns.length none)):=by
  refine CT.fn (g:= .ret (.ref b)) (am:=Gc b ticks calls plain) B (Ds B) (Binds.b3 B (HQ)) (show [("calls":Rj),"ticks","plain"].Nodup by decide) rfl ?_;let gz:Loc:=[("calls", .lst (calls.map wV)),("ticks", .lst (ticks.map wV)),("plain", .bool plain)];refine af.cons (XT.fQ (ys:=[.ref b, .lst (ticks.map zm)]) (xs:=["due","spent"]) (ET.tuple (ab.cons (ET.d9 ab.nil) (ab.cons (H2:=H1) ?_ ab.nil)) (show 2≤QW by decide)) ⟨ST.local rfl,ST.local rfl,trivial⟩ rfl (fun _=>rfl) (fun env E=>cX E rfl)) ?_
  ·exact J (show(ticks.map zm)=(ticks.filter fun _=>true).map zm by exact J (UF.mpr fun _ _=>rfl) rfl) ((ET.lc ticks (fun _=>true) zm (aq.of rfl ad) (IT.val ET.name VT.lst) trivial trivial (gy ls) fun x hx=>⟨_,AT.nm,eI.nil,fun _=>ET.tuple (ab.cons ET.name (ab.cons (ET.IJ B ET.name ET.name) ab.nil)) (show 2≤QW by decide),ad⟩))
  refine af.cons (XT.for (IT.val (ET.call (ET.globK B (gJ)) (ab.cons ?_ ab.nil) (aL.def (yD B)) uA) VT.lst)
   (XF.sub Ge (aa rfl (aa rfl (aa rfl (aa rfl ad)))))) (af.ret (XT.ret ET.name))
  rw[Rk,show(calls.map (V.str∘bM))=(calls.filter fun _=>true).map fun w=>V.str (bM w) by rw[UF.mpr fun _ _=>rfl];rfl];exact ET.lc calls (fun _=>true) (fun w=>V.str (bM w)) (aq.of rfl ad) (IT.val ET.name VT.lst) trivial trivial (gy lm) fun x hx=>⟨_,AT.nm,eI.nil,fun _=>ET.last ET.name (hm x hx).ne,ad⟩
 have hf:=CT.freeze B.mods mz (by refine J (Rh (QM _)) (J (RU ..) ?_);rfl) rfl;rw[RF _ _ (QM _),(show V.lst L= .lst ((mG calls ticks).map (rZ plain)) by exact J Rk rfl)] at hf;exact CT.drop hf (QM _) (BU _ plain _) AK
end
section
variable{A:Ta}{E:Value→Ro→Prop}{s:Ro}
theorem cD{h h':Vi}{it t}{i}(x:h.IsTupleIter it t i)(k:∀o,h.get? it=some o→h'.get? it=some o):h'.IsTupleIter it t i:=let⟨o,ho,r⟩:=x;⟨o,k o ho,r⟩
theorem gc{h h':Vi}{t}{xs}(x:h.IsTuple t xs)(k:∀o,h.get? t=some o→h'.get? t=some o):h'.IsTuple t xs:=let⟨o,ho,r⟩:=x;⟨o,k o ho,r⟩
theorem mH(hit:s.heap.IsTupleIter it t i)(ht:s.heap.IsTuple t xs)(hx:xs[i]?=some x)
  (hQ:∀h',h'.IsTupleIter it t (i+1)→Sm it s.heap h'→Q x {s with heap:=h'}):wpAny (model prog w) A (Wq (.ref it)) Q E s:=by
 refine QK fun kG=> ?_;obtain⟨o,ho,hc,hd⟩:=id hit;obtain⟨ol,Ep,_,nl,A3⟩:=ht;refine kG (QL (RE hit.typeIs TH (wpAny_call_entry TH hit.typeIs WK ?_ (WA _))));refine dg fun Q' E' q1 q2=>(bF ho hd (x:= .ref t) rfl ?_);refine J (if_neg (Ry)) ?_;refine bF ho hd (x:= .int i 0) rfl ?_;refine bS Ep A3 ?_;simp only[Us,hx];refine bU ho hd (QM _) (QO (q1 _ _ ⟨x,rfl,QO (hQ _ ?_ (Rz ..))⟩));exact⟨_,RT _ ho (Y8 (VM hd _)),(Z1 ..).trans hc,by rw[VM hd];rfl⟩
theorem mI(hh:A.handled=none)(hit:s.heap.IsTupleIter it t i)(ht:s.heap.IsTuple t xs)(hx:xs[i]?=none)
  (hE:∀h' e,U0 it s.heap h'→(∃o,h'.get? e=some o∧o.cls= .type "StopIteration")→E (.ref e) {s with heap:=h'}):wpAny (model prog w) A (Wq (.ref it)) Q E s:=by
 refine QK fun kG=> ?_;obtain⟨o,ho,hc,hd⟩:=id hit;obtain⟨ol,Ep,_,nl,A3⟩:=ht;refine kG (QL (RE hit.typeIs TH (wpAny_call_entry TH hit.typeIs WK ?_ (WA _))));refine dg fun Q' E' q1 q2=>(bF ho hd (x:= .ref t) rfl ?_);refine J (if_neg (Ry)) ?_;refine bF ho hd (x:= .int i 0) rfl ?_;refine bS Ep A3 ?_;simp only[Us,hx];refine bR (bU ho hd (Sh _) ?_);refine QL (bN ?_ (by size_fits));refine QL (Sq (a:=SZ) rfl ?_);refine R5 ?_ (by size_fits);refine bH ?_;exact(hh)▸bP (Xj (q2 _ _ (hE _ _ (((Rz ..).extBut.push _).push _) ⟨_,Q0 _ rfl,rfl⟩)))
structure ZT h(z TI TO i1 i2 l1 l2 k:TD)(xs ys:Array Value):Prop where
 z:YC h z TI TO .none
 ti:XH h TI (.ref i1) (.ref i2)
 to:∃p q,XH h TO p q
 h1:h.IsTupleIter i1 l1 k
 h2:h.IsTupleIter i2 l2 k
 l1:h.IsTuple l1 xs
 l2:h.IsTuple l2 ys
theorem ZT.next{z TI TO i1 i2 l1 l2 k}{xs ys}{x y}{Q}(D:WH z TI TO i1 i2 l1 l2)(f:ZT s.heap z TI TO i1 i2 l1 l2 k xs ys)(hx:xs[k]?=some x)(hy:ys[k]?=some y)
  (hQ:∀h',YC h' z TI TO (SX s.heap.objs.size)→XH h' TO x y→h'.IsTupleIter i1 l1 (k+1)→h'.IsTupleIter i2 l2 (k+1)→XH h' s.heap.objs.size x y→(∀c o,c≠z→c≠TO→c≠i1→c≠i2→s.heap.get? c=some o→h'.get? c=some o)→Q (some (.ref s.heap.objs.size)) {s with heap:=h'}):
  wpAny (model prog w) A (Uk (.ref z)) Q E s:=by
 obtain⟨p,q,pJ⟩:=f.to;have hT:s.TypeIs (.ref z) "zip":=⟨_,f.z,rfl⟩;refine QL (Tr (RE hT SL (wpAny_call_entry SL hT UX ?_ (UM _))));refine dg fun Q' E' q1 q2=>(bF f.z rfl (x:= .bool false) rfl ?_);refine bF f.z rfl (x:= .ref TI) rfl (bS f.ti rfl ?_);refine QL (bF f.z rfl (x:= .none) rfl (QO ?_));refine bR (bF f.z rfl (x:= .ref TO) rfl ?_);refine bW f.z (Sh _) fun cI tQ ch=> ?_;replace tQ:YC cI z TI TO .ellipsis:=tQ;refine QL (QL (QL (T8 ?_)));have k1:∀c o,c≠z→s.heap.get? c=some o→cI.get? c=some o:=fun c o hc e=>ch.extBut _ _ hc e;refine QL (mH (cD f.h1 fun o e=>k1 _ o D.i1z e) (gc f.l1 fun o e=>k1 _ o D.l1z e) hx fun oA g1 fW=>QO ?_);have t2:=fW.extBut _ _ D.TOi1 (k1 _ _ D.TOz pJ);refine bS t2 rfl (QL (aaj t2 fun m8 t3 gq=> ?_));replace t3:XH m8 TO x q:=t3;refine bO (QO ?_);refine QL (QL (T8 ?_));have k3:=fun c o c1 c2 c3 e=>gq.extBut _ _ c2 (fW.extBut _ _ c3 (k1 c o c1 e));refine QL (mH (cD f.h2 fun o e=>k3 _ o D.i2z D.TOi2.symm D.i12.symm e) (gc f.l2 fun o e=>k3 _ o D.l2z D.l2TO D.l2i1 e) hy fun PQ g2 fg=>QO ?_);have t4:=fg.extBut _ _ D.TOi2 t3;refine bS t4 rfl (QL (aaj t4 fun zp t5 zq=> ?_));replace t5:XH zp TO x y:=t5;refine bO (QO (QO ?_));refine bS t5 rfl (QL (Xg ?_));have hsz:zp.objs.size=s.heap.objs.size:=by rw[zq.1,fg.1,gq.1,fW.1,ch.1]
 have k5:=fun c o c1 c2 c3 c4 e=>zq.extBut _ _ c2 (fg.extBut _ _ c4 (k3 c o c1 c2 c3 e));have z5:=zq.extBut _ _ D.TOz.symm (fg.extBut _ _ D.i2z.symm (gq.extBut _ _ D.TOz.symm (fW.extBut _ _ D.i1z.symm tQ)));have PR:=cD g2 fun o e=>zq.extBut _ _ D.TOi2.symm e;refine QL (bW (QT _ z5) (Sh _) fun Mo z7 IK=> ?_);replace z7:YC Mo z TI TO (SX zp.objs.size):=z7;refine XS z7 (by simp) fun Fc z8 IL=> ?_;replace z8:YC Fc z TI TO (SX zp.objs.size):=z8;have up:∀c o,c≠z→zp.get? c=some o→Fc.get? c=some o:=fun c o c1 e=>IL.extBut _ _ c1 (IK.extBut _ _ c1 (QT _ e));have NX:=SJ (Rq z5);have t8:=IL.extBut _ _ NX (IK.extBut _ _ NX (Q0 _ rfl));rw[hsz] at z8 t8;refine QO (q1 _ _ ⟨_,rfl,QO ?_⟩);exact J hsz ((hQ Fc z8 (up _ _ D.TOz t5) (cD (cD g1 fun o e=>zq.extBut _ _ D.TOi1.symm (fg.extBut _ _ D.i12 (gq.extBut _ _ D.TOi1.symm e))) fun o e=>up _ o D.i1z e) (cD PR fun o e=>up _ o D.i2z e) t8 fun c o c1 c2 c3 c4 e=>up c o c1 (k5 c o c1 c2 c3 c4 e)))
theorem ZT.end{z TI TO i1 i2 l1 l2 k}{xs ys}{Q}(hh:A.handled=none)(D:WH z TI TO i1 i2 l1 l2)(f:ZT s.heap z TI TO i1 i2 l1 l2 k xs ys)(hx:xs[k]?=none)
  (hQ:∀h',(∀c o,c≠z→c≠TO→c≠i1→c≠i2→s.heap.get? c=some o→h'.get? c=some o)→Q none {s with heap:=h'}):wpAny (model prog w) A (Uk (.ref z)) Q E s:=by
 have hT:s.TypeIs (.ref z) "zip":=⟨_,f.z,rfl⟩;refine QL (Tr (RE hT SL (wpAny_call_entry SL hT UX ?_ (UM _))));refine dg fun Q' E' q1 q2=>(bF f.z rfl (x:= .bool false) rfl ?_);refine bF f.z rfl (x:= .ref TI) rfl (bS f.ti rfl ?_);refine QL (bF f.z rfl (x:= .none) rfl (QO ?_));refine bR (bF f.z rfl (x:= .ref TO) rfl ?_);refine bW f.z (Sh _) fun cI tQ ch=> ?_;replace tQ:YC cI z TI TO .ellipsis:=tQ;refine QL (QL (QL (T8 ?_)));have k1:∀c o,c≠z→s.heap.get? c=some o→cI.get? c=some o:=fun c o hc e=>ch.extBut _ _ hc e;refine QL (mI hh (cD f.h1 fun o e=>k1 _ o D.i1z e) (gc f.l1 fun o e=>k1 _ o D.l1z e) hx fun oA e fW he=> ?_);obtain⟨oe,Ga,ze⟩:=he;have z2:=fW _ _ D.i1z.symm tQ;have ez:e≠z:=fun x=>by cases x;cases z2.symm.trans Ga;simp at ze
 refine XS z2 (Sh _) fun m8 _ gq=>q2 _ _ (bI ⟨oe,gq.extBut _ _ ez Ga,ze⟩ UN ?_);exact QO (hQ m8 fun c o c1 _ c3 _ x=>gq.extBut _ _ c1 (fW _ _ c3 (k1 c o c1 x)))
end
noncomputable def J1(h:Vi)(l1 l2:TD):Vi:=
 ((((h.push {cls:= .type "tuple_iterator",data:= .fields #[.ref l1, .int 0 0]}).push {cls:= .type "tuple_iterator",data:= .fields #[.ref l2, .int 0 0]}).push {cls:= .type "tuple",data:= .seq #[.ref h.objs.size, .ref (h.objs.size+1)]}).push {cls:= .type "tuple",data:= .seq #[.none, .none]}).push
  {cls:= .type "zip",data:= .fields #[.none, .bool false, .bool false, .ref (h.objs.size+2), .ref (h.objs.size+3)]}
theorem zr(l1 l2:TD)(xs ys:Array Value):
  Meets (Builtin.«zip.__new__» ⟨[.type "zip", .ref l1, .ref l2],[]⟩) (fun _ R s=>s.heap.IsTuple l1 xs∧s.heap.IsTuple l2 ys∧R (.ok (.ret (.ref (s.heap.objs.size+4)))) {s with heap:=J1 s.heap l1 l2}):=
 .of_wp fun prog w A R s h=>by
  obtain⟨hp,g,d,tk,os⟩:=s;obtain⟨m6,d4,h⟩:=h;have fV:=sub_zip
  wp_walk using aaS m6,aaS (show Vi.IsTuple (Ro.heap ⟨hp.push {cls:= .type "tuple_iterator",data:= .fields #[.ref l1, .int 0 0]},g,d,tk,os⟩) l2 ys from Vi.IsTuple.push d4 _)
  refine⟨_,rfl, ?_⟩;simp only[RI] at h⊢;exact h
section
variable{A:Ta}{E:Value→Ro→Prop}{s:Ro}
theorem BV{xs ys}{Q}(m6:s.heap.IsTuple l1 xs)(d4:s.heap.IsTuple l2 ys)
  (h:∀h',ZT h' (s.heap.objs.size+4) (s.heap.objs.size+2) (s.heap.objs.size+3) s.heap.objs.size (s.heap.objs.size+1) l1 l2 0 xs ys→h'.objs.size=s.heap.objs.size+5→(∀c o,s.heap.get? c=some o→h'.get? c=some o)→Q (.ref (s.heap.objs.size+4)) {s with heap:=h'}):
  wpAny (model prog w) A (call (.type "zip") [.ref l1, .ref l2]) Q E s:=by
 refine callType_new F.called_zip dc (F.typeCall_zip_2 _ _) (F.newCall_zip_2 _ _) (fun obj=>F.args_object_init_3 obj _ _) F.entry_zip_new (zr l1 l2 xs ys) ⟨m6,d4, ?_⟩;have at_:∀(h:Vi) o n,o.isFreed=false→h.objs.size=n→(h.push o).get? n=some o:=fun h o n hf e=>by subst e;exact Q0 _ hf
 have up:∀(h:Vi)(o o':Obj) n,h.get? n=some o'→(h.push o).get? n=some o':=fun h o o' n e=>QT _ e;have g4:(J1 s.heap l1 l2).get? (s.heap.objs.size+4)=some _:=at_ _ _ _ rfl (J (RI ..) (J (RI ..) (J (RI ..) (J (RI ..) rfl))));have k:∀c o,s.heap.get? c=some o→(J1 s.heap l1 l2).get? c=some o:=fun c o e=>up _ _ _ _ (up _ _ _ _ (up _ _ _ _ (up _ _ _ _ (up _ _ _ _ e))));exact⟨⟨_,g4,rfl⟩,h _ ⟨g4,(up _ _ _ _ (up _ _ _ _ (at_ _ _ _ rfl (J (RI ..) (J (RI ..) rfl))))),⟨_,_,(up _ _ _ _ (at_ _ _ _ rfl (J (RI ..) (J (RI ..) (J (RI ..) rfl)))))⟩,⟨_,(up _ _ _ _ (up _ _ _ _ (up _ _ _ _ (up _ _ _ _ (at_ _ _ _ rfl rfl))))),rfl,rfl⟩,⟨_,(up _ _ _ _ (up _ _ _ _ (up _ _ _ _ (at_ _ _ _ rfl (J (RI ..) rfl))))),rfl,rfl⟩,gc m6 fun o e=>k _ o e,gc d4 fun o e=>k _ o e⟩ (by delta J1;simp only[RI]) k⟩
theorem WalksT.zt(hh:A.handled=none)(z TI TO i1 i2 l1 l2:TD)(D:WH z TI TO i1 i2 l1 l2)(xs ys:Array Value)(Gf:xs.size=ys.size):
  WalksT prog w A z [z,TI,TO,i1,i2,l1,l2] [z,TO,i1,i2] xs.size (fun i vals=>∃x y,xs[i]?=some x∧ys[i]?=some y∧vals=#[x,y]) (fun i h=>ZT h z TI TO i1 i2 l1 l2 i xs ys)
   (fun i T h=>(∀h',YC h' z TI TO .none→(∀c o,c≠z→h.get? c=some o→h'.get? c=some o)→ZT h' z TI TO i1 i2 l1 l2 (i+1) xs ys)∧YC h z TI TO (SX T)∧T≠z∧T≠TO∧T≠i1∧T≠i2) where
 sub:=fun c hc=>by simp at hc⊢;rcases hc with rfl|rfl|rfl|rfl<;>simp
 frame:=fun i h h' f hk=>by
  refine QK fun kG=> ?_;obtain⟨p,q,pJ⟩:=f.to;exact kG (⟨hk z QR _ f.z,hk TI (by simp) _ f.ti,⟨p,q,hk TO (by simp) _ pJ⟩,cD f.h1 fun o e=>hk i1 (by simp) o e,cD f.h2 fun o e=>hk i2 (by simp) o e,gc f.l1 fun o e=>hk l1 (by simp) o e,gc f.l2 fun o e=>hk l2 (by simp) o e⟩)
 item:=fun i s Q E hi f hQ=>by
  obtain⟨p,q,pJ⟩:=f.to;have lt:∀{c o},s.heap.get? c=some o→s.heap.objs.size≠c:=fun e=>SJ (Rq e);refine f.next D (RN hi) (RN (ao hi (bC Gf))) fun h' a1 a2 a3 a4 a5 hk=> ?_;exact hQ s.heap.objs.size #[xs[i],ys[i]] h' s.toks ⟨_,_,RN hi,RN (ao hi (bC Gf)),rfl⟩ (QM _) ⟨_,a5,rfl,_,rfl⟩
   ⟨fun h2 z2 k2=>⟨z2,k2 _ _ D.TIz (hk _ _ D.TIz D.TITO D.TIi1 D.TIi2 f.ti),⟨_,_,k2 _ _ D.TOz a2⟩,cD a3 fun o e=>k2 _ o D.i1z e,cD a4 fun o e=>k2 _ o D.i2z e,gc f.l1 fun o e=>k2 _ o D.l1z (hk _ o D.l1z D.l1TO D.l1i1 D.l1i2 e),gc f.l2 fun o e=>k2 _ o D.l2z (hk _ o D.l2z D.l2TO D.l2i1 D.l2i2 e)⟩,
    a1,lt f.z,lt pJ,(by obtain⟨_,e,_⟩:=f.h1;exact lt e),(by obtain⟨_,e,_⟩:=f.h2;exact lt e)⟩
   fun c o hc e=>hk c o (fun x=>hc (by simp[x])) (fun x=>hc (by simp[x])) (fun x=>hc (by simp[x])) (fun x=>hc (by simp[x])) e
 go:=fun elts k pos i T s Q E hm hQ=>by
  exact wpAny_letOwnedTupleGo_zip hm.2.1 fun h' vF vE=>hQ h' (hm.1 h' vF fun c o hc e=>vE.extBut _ _ hc e) fun c o hc e=>vE.extBut _ _ (fun x=>hc (by simp[x])) e
 apart:=fun i T h hm hT=>by
  simp at hT;rcases hT with rfl|rfl|rfl|rfl
  ·exact hm.2.2.1 rfl
  ·exact hm.2.2.2.1 rfl
  ·exact hm.2.2.2.2.1 rfl
  ·exact hm.2.2.2.2.2 rfl
 done:=fun s Q E f hQ=>f.end hh D (T9 (QM _)) fun h' hk=>hQ h' s.toks fun c o hc e=>hk c o (fun x=>hc (by simp[x])) (fun x=>hc (by simp[x])) (fun x=>hc (by simp[x])) (fun x=>hc (by simp[x])) e
 self:=fun i s Q E f hQ=>Ym f.z hQ
end
section
variable{n:Nat}{F:Fx}{ρ:Loc}{H:AH}
theorem wW:∀(l:List Int) vs,vs.length=l.length→(∀(j:Nat) v,vs[j]?=some v→∃x t,l[j]?=some x∧v= .int x t)→aj W (l.map V.int) vs:=by
 intro l
 induction l with
 |nil=>intro vs h _;exact Rs.mp h
 |cons x l ih=>
  intro vs h k;cases vs with
  |nil=>cases h
  |cons v vs=>
   obtain⟨y,t,e,rfl⟩:=k 0 v rfl;cases e;exact⟨_,vs,rfl,⟨t,rfl⟩,ih vs (Vz h) fun j v e=>k (j+1) v e⟩
theorem km m:passing (fun _=>true) m 0=Uy m:=by delta passing;rw[Vb,UF.mpr fun _ _=>rfl]
theorem uV:∀{l:List Int}{vs},aj W (l.map V.int) vs→∀(j:Nat) v,vs[j]?=some v→∃x t,l[j]?=some x∧v= .int x t:=by
 intro rv
 induction rv with
 |nil=>
  intro _ r j v e;cases r;cases e
 |cons x l ih=>
  rintro _ ⟨u,us,e0,⟨t,e1⟩,r⟩ j v e;subst e0 e1;cases j with
  |zero=>cases e;exact⟨x,t,rfl,rfl⟩
  |succ j=>exact ih r j v e
theorem BW{env}{xa xb}{pa pb pe}{s}{m:Rj→Option Value}{a b}{t u}(hk:env.scope.kind= .function)(ha:env.kindOf xa=some .local)(hb:env.kindOf xb=some .local)(hn:s.heap.Ns env.locals m)(h1:m xa=some (.int a t))(h2:m xb=some (.int b u))
  (d1:(xa=="__debug__")=false) (d2:(xb=="__debug__")=false):
  wpAny (model prog M) A' (eval (.BinOp (.Name xa pa) .Add (.Name xb pb) pe) env) (fun y s'=>(∃v,y= .int (a+b) v)∧Keeps s s') E' s:=
 aax (wpAny_Name (VF hk ha hn h1 (wpAny_Name (VF hk hb hn h2 (Zy ⟨⟨_,rfl⟩,_,_,rfl,fun _ _ e=>e⟩)) d2)) d1)
noncomputable def gO(g tk:Nat)(q:Rj):Obj:={cls:= .type "generator",data:= .fields #[.int g 0, .str "<genexpr>" (tk+1), .str (q++"<genexpr>") (tk+1+1)]}
theorem IM{t}{Q}{E}(h:∀Q':α→Ro→Prop,(∀a s',Q a s'→Q' a s')→wpAny (model prog w) A t Q' E s):wpAny (model prog w) A t Q E s:=h Q fun _ _ h=>h
theorem BX(B:Base){elt fz}{args}{xa xb}{pl p1 p2 pa pb pc pd pe pt pos}{kt}{scope}{cl}{as bs:List Int}{q0}{c P}{i:Nat}(hl:as.length=bs.length)(Im:as.length≤QW)(JJ:elt= .BinOp (.Name xa pc) .Add (.Name xb pd) pe)
  (xN:F.names.lookup ("tuple":Rj)=some .globalImplicit) (hz:ET n F fz ρ H (.st (.type "zip")) H) (ha:ab n F p1 args ρ H [.tup (as.map V.int), .tup (bs.map V.int)] H)
  (hF:F.code= .ref c) (hq:F.qual=some q0) (C:∀h,(∀a o,bo a=some o→h.get? a=some o)→CodeHd h c P) (hH:H[i]?=some (some (.tab P pos (q0++"<genexpr>"))))
  (C2:scope.isCoroutine=false) (iX:∀env,X2 scope env=pure cl) (xE:∀y∈scope.names,y.2≠ .cell) (h0:scope.names.lookup (".0":Rj)=some Zh.local) (NY:scope.names.lookup xa=some .local) (NZ:scope.names.lookup xb=some .local) (nL:xa≠xb) (nM:scope.kind= .function)
  (d1:(xa=="__debug__")=false) (d2:(xb=="__debug__")=false)
  (he:autoParam (∀env,eval (.Call (.Name "tuple" pl) [.GeneratorExp elt [⟨.Tuple [.Name xa pa, .Name xb pb] kt pt, .Call fz args [] p1,[],0⟩] scope pos] [] p2) env=(do Uo p2 (←eval (.Name "tuple" pl) env) [] (backTo p2 (starEach [.GeneratorExp elt [⟨.Tuple [.Name xa pa, .Name xb pb] kt pt, .Call fz args [] p1,[],0⟩] scope pos] env)) [])) aI)
  (vz:autoParam (∀env,eval (.Call fz args [] p1) env=(do Uo p1 (←eval fz env) [] (backTo p1 (starEach args env)) [])) aI)
  (hp:autoParam (∀env,(backTo p1 (starEach args env)).any (·.1)=false) aI)
  (hs:autoParam (∀env x,genFold (.Call fz args [] p1) env x=pure x) aI):
  ET n F (.Call (.Name "tuple" pl) [.GeneratorExp elt [⟨.Tuple [.Name xa pa, .Name xb pb] kt pt, .Call fz args [] p1,[],0⟩] scope pos] [] p2) ρ H (.tup ((as.zip bs).map fun p=>V.int (p.1+p.2))) H:=by
 refine .mk fun A s W env R S E fr Q q=>(J (he env) ?_);refine QL ((ET.ay B (l7) l8 xN).run A s W env R S E fr _ fun fv s1 W1 G1 S1 r1=> ?_);cases r1;have CZ:=fr.step G1;refine Uq rfl (fun _ h=>h) (Wr (Ws ?_ (cJ (e:= .GeneratorExp elt [⟨.Tuple [.Name xa pa, .Name xb pb] kt pt, .Call fz args [] p1,[],0⟩] scope pos) rfl env)));refine wpAny_GeneratorExp_make C2 (iX env) xE h0 nM R.lt ?_ (hs env);refine IM fun Q1 q1=> ?_;refine J (vz env) (QL (hz.run A s1 W1 env R S1 E CZ _ fun fv La K9 IG Mm GB=> ?_));cases GB;refine Uq (by simp[hp env]) (fun _ h=>h) (cu ha R Mm E (CZ.step IG) (hp env) fun ws s2 W2 G2 S2 r2=>⟨⟨.machine, .inr (.inl rfl),TR rfl⟩, ?_⟩);obtain⟨v1,v2,rfl,⟨l1,us,m1,rfl,C9,ru,IH⟩,⟨l2,vs,m2,rfl,AA,rv,AB⟩⟩:=r2.two;have m6:s2.heap.IsTuple l1 us.toArray:=⟨_,S2.cq _ _ C9,rfl,m1,rfl⟩;have d4:s2.heap.IsTuple l2 vs.toArray:=⟨_,S2.cq _ _ AA,rfl,m2,rfl⟩;refine BV m6 d4 fun h' Gg hsz hk=>q1 _ _ (Ym Gg.z ?_);have a1:l1<s2.heap.objs.size:=by obtain⟨_,e,_⟩:=m6;exact Rq e
 have a2:l2<s2.heap.objs.size:=by obtain⟨_,e,_⟩:=d4;exact Rq e
 obtain⟨S3,G3⟩:=S2.but (s':={s2 with heap:=h'}) (Y:=cr) (fun b o _ e=>hk b o e) (fun _ y=>y.elim) rfl rfl (QM _);refine⟨B.rU.nolimit _ S3.ground, ?_⟩;refine QK fun kG=> ?_;obtain⟨aP,ff,EH,rfl,ps,i8,yp⟩:=S3.live _ _ hH;refine kG ?_;have fin:∀cv h3 tk W3,s2.toks≤tk→(∀b o,b≠aP→h'.get? b=some o→h3.get? b=some o)→h'.objs.size≤h3.objs.size→an W3 H {s2 with heap:=h3,toks:=tk}→Gr cr W2 {s2 with heap:=h'} W3 {s2 with heap:=h3,toks:=tk}→
   wpAny (model prog w) A (builtinsFor env.globals env.builtins) (fun bi fg=>∀qV,qV.Ns fg.heap.objs.size (fun y=>if y=".0" then some (.ref (s2.heap.objs.size+4)) else none)→Sm fg.heap.objs.size (fg.heap.push {cls:= .type "frame",data:= .dict #[]}) qV→
      wpAny (model prog w) A (spliced (backTo p2 (starEach [] env))) (fun vs fW=>Kp (.type "tuple") fW.heap∧wpAny (model prog w) A (call (.type "tuple") (Um qV.objs.size::vs)) Q aX fW) aX {fg with gens:=fg.gens.push (.fresh (.compStart (.GeneratorExp elt [⟨.Tuple [.Name xa pa, .Name xb pb] kt pt, .Call fz args [] p1,[],0⟩] scope pos) 0 (.ref (s2.heap.objs.size+4)) .none (genEnv scope cl fg.heap.objs.size cv bi env))),toks:=fg.toks+1+1+1,heap:=qV.push (gO fg.gens.size fg.toks env.qual)}) aX {s2 with heap:=h3,toks:=tk}:=by
  intro cv h3 tk W3 lT Nl IN S4 G4;have N3:h3.NoLimit:=B.rU.nolimit _ S4.ground;refine QK fun kG=> ?_;obtain⟨bm,ob,PS,aU,_,_,PU,Mp,IO,IP⟩:=B.bm h3 S4.ground;refine kG (wpAny_builtinsFor (E.globals▸B.rU.g _ S4.ground) PS aU PU Mp IO IP ?_);have N0:us.length=as.length:=by rw[ru.length,QP]
  have PV:aP<s2.heap.objs.size:=by
   cases e:s2.heap.get? aP with
   |none=>exact absurd e (S2.lt _ (RJ ff))
   |some o=>exact Rq e
  have dead:∀b,s2.heap.objs.size≤b→s2.heap.get? b=none:=fun b hb=>Ss hb;have ne1:l1≠aP:=fun e=>by replace C9:=e▸C9;cases EH.symm.trans C9
  have ne2:l2≠aP:=fun e=>by replace AA:=e▸AA;cases EH.symm.trans AA
  let wr:=[s2.heap.objs.size+4,s2.heap.objs.size+3,s2.heap.objs.size,s2.heap.objs.size+1];have Mq:∀b∈wr,s2.heap.objs.size≤b:=fun b hb=>by simp[wr] at hb;lia
  have Wz:=fun(A':Ta) (hA:A'.handled=none)=>(WalksT.zt hA (s2.heap.objs.size+4) (s2.heap.objs.size+2) (s2.heap.objs.size+3) s2.heap.objs.size (s2.heap.objs.size+1) l1 l2 (zipApart_new a1 a2) us.toArray vs.toArray (by rw[Re,Re,N0,(show vs.length=bs.length by rw[rv.length,QP]),hl])).toU;intro qV IQ DP;let pz:Nat→Bool:=fun _=>true;let F':Nat→Value→Prop:=fun i y=>∃a b t,as[i]?=some a∧bs[i]?=some b∧y= .int (a+b) t;let fp:=[s2.heap.objs.size+4,s2.heap.objs.size+2,s2.heap.objs.size+3,s2.heap.objs.size,s2.heap.objs.size+1,l1,l2];let qK:=genEnv scope cl h3.objs.size cv builtinsNs env;let gs:GenState:= .fresh (.compStart (.GeneratorExp elt [⟨.Tuple [.Name xa pa, .Name xb pb] kt pt, .Call fz args [] p1,[],0⟩] scope pos) 0 (.ref (s2.heap.objs.size+4)) .none qK);let a:=qV.objs.size;let PW:=tk+1+1+1;let h5:=qV.push (gO s2.gens.size tk env.qual);have Mr:=lg (show qV.objs.size=h3.objs.size+1 by exact J (DP.1 ..) (J (RI ..) rfl));have IR:∀b o,h3.get? b=some o→h5.get? b=some o:=fun b o e=>QT _ (DP.extBut b o (Sw (Rq e)) (QT _ e));have hA:∀b∈fp,b≠aP:=fun b hb=>by
   have aU:∀x,s2.heap.objs.size≤x→x≠aP:=fun x hx e=>absurd PV (e▸Tw.mpr hx);refine QK fun kG=> ?_;rcases QX.mp hb with rfl|hb<;>refine kG ?_
   ·exact aU _ (RW ..)
   rcases QX.mp hb with rfl|hb
   ·exact aU _ (RW ..)
   rcases QX.mp hb with rfl|hb
   ·exact aU _ (RW ..)
   rcases QX.mp hb with rfl|hb
   ·exact aU _ (QM ..)
   rcases QX.mp hb with rfl|hb
   ·exact aU _ (RW ..)
   rcases QX.mp hb with rfl|hb
   ·exact ne1
   exact(QV.mp hb)▸ne2
  have hB:∀b∈fp,b<h3.objs.size:=fun b hb=>by
   have ce:∀x,x<s2.heap.objs.size+5→x<h3.objs.size:=fun x hx=>RM hx (hsz▸IN);rcases QX.mp hb with rfl|hb
   ·exact ce _ (UH dc _)
   rcases QX.mp hb with rfl|hb
   ·exact ce _ (UH dc _)
   rcases QX.mp hb with rfl|hb
   ·exact ce _ (UH dc _)
   rcases QX.mp hb with rfl|hb
   ·exact ce _ (Nat.lt_add_of_pos_right dc)
   rcases QX.mp hb with rfl|hb
   ·exact ce _ (UH dc _)
   rcases QX.mp hb with rfl|hb
   ·exact ce _ (RM a1 (RW ..))
   exact(QV.mp hb)▸ce _ (RM a2 (RW ..))
  have hC:cStatics∉wr:=fun hm=>by
   obtain⟨_,hn,_⟩:=B.rU.nolimit _ S2.ground;exact absurd hn.lt (Tw.mpr (Mq _ hm))
  have N1:=hB;have IU:=let⟨_,hn,_⟩:=N3;hn.lt;have PX:QuietGenTD prog w qK xa xb [] elt (Uy h3.objs.size) wr (fun i vals=>∃x y,us.toArray[i]?=some x∧vs.toArray[i]?=some y∧vals=#[x,y]) pz F' h5 (A.depth+1) (A.units+8):=⟨fun _ _ _ _ _ _ _ _ _ _ _ _ _ _ _=>QO ⟨rfl,_,_,rfl,fun _ _ e=>e⟩,by
   intro A' E' i va vb sx mx _ _ _ PY _ hn m1 m2 _;refine QK fun kG=> ?_;obtain⟨x,y,e1,e2,e3⟩:=PY;obtain⟨rfl,rfl⟩:va=x∧vb=y:=by simpa using congrArg Array.toList e3
   refine kG ?_;rw[RQ] at e1 e2;refine QK fun kG=> ?_;obtain⟨a,t,ea,rfl⟩:=uV ru i _ e1;obtain⟨b,u,eb,rfl⟩:=uV rv i _ e2;refine kG ?_;subst JJ;exact Ri (BW nM NY NZ hn m1 m2 d1 d2) (fun y s' ⟨⟨t,e⟩,k⟩=>⟨⟨a,b,t,ea,eb,e⟩,k⟩) fun _ _ e=>e⟩
  have PZ:a∉Uy h3.objs.size:=fun hm=>by have:=Va.mp hm;lia
  have AF:GenAt prog w A.in4 a s2.gens.size h3.objs.size (Uy h3.objs.size) wr pz us.toArray.size F' 0 {s2 with gens:=s2.gens.push gs,toks:=PW,heap:=h5}:=
   GenAt.freshTD (A:=A.in4) (cenv:=qK) R.handled (fun A' hA=>(Wz A' hA).mono_fp fun b hb=>Va.mpr (N1 b hb)) (fun i vals hv=>by obtain⟨x,y,_,_,e⟩:=hv;exact⟨x,y,e⟩) nL pz F' NY NZ (by simp[qK,genEnv,nM]) C2
    (fun hm=>Sj _ (Va.mp hm)) PX ⟨_,_,_,Q0 _ rfl,rfl,rfl,rfl⟩ (Array.getElem?_push_size ..) ((Wz A R.handled).frame _ _ _ ((Wz A R.handled).frame 0 h' h3 Gg fun b hb o e=>Nl b o (hA b hb) e) fun b _ o e=>IR b o e) (IQ.push _) (N3.keeps IR)
  refine YQ ⟨⟨.machine, .inr (.inl rfl),TR rfl⟩, ?_⟩;have qe:(passing (fun _=>true) us.toArray.size 0).length=as.length:=by rw[km,ZP,Re,N0]
  refine call_tuple_gen (hsz:=qe▸Im) (WalksS.genexpQ (prog:=prog) (w:=w) (A:=A.in4) R.handled a s2.gens.size h3.objs.size (Uy h3.objs.size) wr pz us.toArray.size F' (SJ Mr) PZ (fun b hb=>Va.mpr (N1 b ((Wz A R.handled).sub b hb))) R.lt (Va.mpr IU) (Sw IU) hC).in4_3 (fun i s' st=>st.1.typeIs) AF (fun b hb=> ?_) QR fun s' acc hm BY=> ?_
  ·refine J (RI ..) ?_;rcases QX.mp hb with rfl|hb
   ·exact Vu _
   ·rcases QX.mp hb with rfl|hb
    ·exact Vc Mr
    ·exact Vc (XC (Va.mp hb) Mr)
  ·let s3:Ro:={s2 with heap:=h3,toks:=tk};have Ms:∀b∈h3.objs.size::wr,s2.heap.objs.size≤b:=fun b hb=>by
    rcases QX.mp hb with rfl|hb
    ·exact ao (lb (lg hsz)) IN
    ·exact Mq b hb
   have IV:∀b,b∈W3.φ∨W3.I b≠none→b∉h3.objs.size::wr:=fun b hb hm=>by
    have P0:h3.get? b≠none:=by
     rcases hb with hb|hb
     ·exact S4.lt b hb
     ·cases e:W3.I b with
      |none=>exact absurd e hb
      |some o=>exact J (S4.cq b o e) ((nofun))
    rcases QX.mp hm with rfl|AQ
    ·exact P0 (Ss (QM _))
    ·have h2:=S2.fresh (dead b (Mq b AQ));have N2:h'.get? b≠none:=by
      obtain⟨p,q,pJ⟩:=Gg.to;simp[wr] at AQ;rcases AQ with rfl|rfl|rfl|rfl
      ·exact Gg.z▸nofun
      ·exact pJ▸nofun
      ·obtain⟨o,e,_⟩:=Gg.h1;exact e▸nofun
      ·obtain⟨o,e,_⟩:=Gg.h2;exact e▸nofun
     rcases hb with hb|hb
     ·rcases G4.cH b hb with q|q|q
      ·exact h2.1 q
      ·exact N2 q
      ·exact q
     ·cases e:W3.I b with
      |none=>exact hb e
      |some o=>
       rcases G4.gn b o e with q|q|q|q
       ·cases h2.2.symm.trans q
       ·exact h2.1 q
       ·exact N2 q
       ·exact q
   have S5:=S4.same (fun b o e hb=>hm.heap b o (IV b hb) (IR b o e)) ((S2.bare.push rfl).movedS hm) (QU (RW _ 3) hm.toks);have G5:Gr (fun b=>b∈h3.objs.size::wr) W3 s3 W3 s':=by
    refine⟨W3.le_refl,fun _ h=> .inl h,fun _ _ h=> .inl h,fun b o e _ hb=>hm.heap b o hb (IR b o e),fun b h hb=> ?_,hm.os,fun i y e=> ?_⟩
    ·cases e:h3.get? b with
     |none=>exact absurd e h
     |some o=>exact(hm.heap b o hb (IR b o e))▸nofun
    ·have e5:(s2.gens.push gs)[i]?=some y:=by
      have hi:=(TC.mp e).1;exact(Array.getElem?_push_lt hi)▸(RN hi).symm.trans e
     have hi:=Sw (TC.mp e).1;rcases hm.gens with q|⟨q,_⟩
     ·exact J q ((e5))
     ·exact(q.2 i hi).trans (e5)
   refine q _ _ _ ?_ (S5.put rfl).1 ⟨_,acc.toList,0,rfl, ?_, ?_, ?_⟩
   ·exact(((G1.trans IG).trans G2).trans ((G3.trans G4).base G5 fun x hx h=>absurd (dead x (Ms x hx)) h)).trans (S5.put rfl).2
   ·refine J (Wd.ak ..) ?_;rfl
   ·have:=wW (W:=W3.put s'.heap.objs.size {cls:= .type "tuple",data:= .seq acc}) ((as.zip bs).map fun p=>p.1+p.2) acc.toList (by simp[(show acc.size=as.length by exact J BY.1 (J qe rfl)),hl]) fun j v e=> ?_
    ·exact Rk▸this
    ·obtain⟨i,e1,a,b,t,ea,eb,rfl⟩:=BY.2 j v (by simpa using e);rw[km] at e1;have Gy:i=j:=by obtain⟨h,q⟩:=QY.mp e1;rw[ZB] at q;exact q.symm
     subst Gy;exact⟨a+b,t,by refine J R3 (J (show(as.zip bs)[i]?=some (a,b) from Yi.mpr ⟨ea,eb⟩) ?_);rfl,rfl⟩
   ·exact J (QP ..) (J (aap ..) ((QU (Wo ..) Im)))
 refine QK fun kG=> ?_;rcases yp with rfl|⟨c',oc,Ks,t',rfl,pN,CX,JO⟩<;>refine kG ?_
 ·refine wpAny_toks (wpAny_genexprCodeX (E.code.trans hF) ((C _ S3.ground).code i8 trivial) ((C _ S3.ground).tab i8) rfl fun c' h3 tk hx F4 ce _ EI IW _ lT=> ?_);refine QK fun kG=> ?_;obtain⟨c2,oc,ws,t,e2,EB,hd,hv⟩:=EI;refine kG ?_;cases e2;rw[(E.qual _ hq)] at hv;have Lw:c'≠aP:=fun e=>by cases e;exact absurd (Rq i8) (Tw.mpr F4)
  have Ay:=Ss F4;obtain⟨S4,G4⟩:=S3.Hl (s':={s2 with heap:=h3,toks:=tk}) (W':=W2.put c' oc) (ob:= .tab aP pos (q0++"<genexpr>")) ff rfl rfl (Wd.lj (S3.fresh Ay).2) (by simp[Wd.put,Se Lw,EH]) (fun b o e=>by
    by_cases hb:b=c'
    ·exact .inr (hb▸Ay)
    ·exact .inl (by simpa [Wd.put,hb] using e)) (fun b o e=>by
    by_cases hb:b=c'
    ·cases hb;replace e:=(Wd.ak ..)▸e;cases e;exact EB
    ·have e:W2.I b=some o:=by simpa [Wd.put,hb] using e
     exact hx b o (fun z=>by cases z;cases EH.symm.trans e) (S3.cq b o e)) (fun b o hb e=>hx b o hb e) (IW.2▸nofun) rfl rfl lT
    ⟨rfl,_,IW.2, .inr ⟨c',oc,ws,t,rfl,Wd.ak ..,hd,hv⟩⟩
  rw[fJ hH] at S4;exact fin _ h3 tk _ lT (fun b o hb e=>hx b o hb e) (QU F4 (SU ce)) S4 G4
 ·refine wpAny_genexprCode_hit (E.code.trans hF) ((C _ S3.ground).code i8 trivial) uD ?_;exact fin _ h' s2.toks W2 (QM _) (fun b o _ e=>e) (QM _) S3 (Gr.refl ..)
end
inductive CV where
 |n (k:Int)
 |f (l:List Int)
noncomputable def CV.v:CV→V
 | .n k=> .int k
 | .f l=> .tup (l.map V.int)
noncomputable def CV.add:CV→CV→CV
 | .n a, .n b=> .n (b+a)
 | .f as, .f bs=> .f ((as.zip bs).map fun p=>p.1+p.2)
 |c,_=>c
noncomputable def CV.zu:CV→CV→Bool
 | .n _, .n _=>true
 | .f as, .f bs=>as.length==bs.length&&decide (as.length≤10)
 |_,_=>false
noncomputable def vals{α:Type}(v:α→V)(l:List (Rj×α)):List (Rj×V):=l.map fun p=>(p.1,v p.2)
noncomputable abbrev dY(l:List (Rj×CV)):List (Rj×V):=vals CV.v l
noncomputable def cZ{α:Type}(l:List (Rj×α))(k:Rj)(x:α):List (Rj×α):=if l.any (fun p=>p.1=k) then l.map (fun p=>if p.1=k then(p.1,x) else p) else l++[(k,x)]
theorem mJ v(l:List (Rj×α)):(vals v l).length=l.length:=QP ..
theorem qW v l k(x:α):vals v (cZ l k x)=il (vals v l) k (v x):=by
 unfold vals cZ il;refine J Wf ?_;show _=if(l.any fun p=>decide (p.1=k))=true then _ else _
 split
 ·refine J Rk (J Rk ?_);refine RD fun p _=> ?_;show(((if p.1=k then(p.1,x) else p):Rj×α).1,v ((if p.1=k then(p.1,x) else p):Rj×α).2)=if p.1=k then(p.1,v x) else(p.1,v p.2)
  split<;>rfl
 ·exact Rc
theorem gR v(l:List (Rj×α)) k:(vals v l).lookup k=(l.lookup k).map v:=by
 induction l with
 |nil=>rfl
 |cons p l ih=>
  refine J lookup_cons (J ih (J RG ?_));by_cases h:k=p.1
  ·subst h;simp
  ·rw[(show(k==p.1)=false by simpa using h),if_neg h]
theorem uW l k x:dY (cZ l k x)=il (dY l) k x.v:=qW ..
theorem iO l k:(dY l).lookup k=(l.lookup k).map CV.v:=gR ..
theorem qX{k}{x:α}(h:k∉l.map (·.1)):cZ l k x=l++[(k,x)]:=by
 delta cZ
 rw[if_neg];intro q;obtain⟨p,hp,e⟩:=UB.mp q;exact h (Q4.mpr ⟨p,hp,by exact of_decide_eq_true e⟩)
noncomputable def gT(l:List (Rj×CV)):List (Rj×CV)→List (Rj×CV)
 |[]=>l
 |p::m=>gT (cZ l p.1 (match l.lookup p.1 with|some o=>p.2.add o|none=>p.2)) m
section
variable{n:Nat}{F:Fx}{ρ:Loc}{H:AH}
theorem CT.mK{T}(aU:(Wc "int"==Wc T)=false)(fV:WC (.type "int") (.type T)=pure false)(uo:typeOf (.type T)=pure (.type "type")):
  CT n (.st (.builtin "isinstance")) [.int i, .st (.type T)] [] H (.bool false) H:=CT.aY fun A s W vs R S r Q q=>by
 obtain⟨v,u,rfl,rv,ru⟩:=r.two;cases ru;obtain⟨t,rfl⟩:=rv;exact call_isinstance (isinstance_false_int aU uo fV) (q (s.toks+1))
end
noncomputable def dZ(a:List (Rj×CV))(l:List (Rj×CV)):List (Rj×CV):=l.foldl (fun a p=>cZ a p.1 p.2) a
noncomputable def mix(m:List (Rj×CV))(p:Rj×CV):CV:=match m.lookup p.1 with|some o=>p.2.add o|none=>p.2
theorem fK l k(x:α):(cZ l k x).length≤l.length+1:=by delta cZ;refine bl (fun _=> ?_) (fun _=> ?_)<;>simp
theorem tR l p m:gT l (p::m)=gT (cZ l p.1 (mix l p)) m:=rfl
theorem n7 p l:cw (dY (p::l))= .tup [.str p.1,p.2.v]::cw (dY l):=rfl
noncomputable def P1(m l:List (Rj×CV)):Prop:=(l.map (·.1)).Nodup∧∀p∈l,∀o,m.lookup p.1=some o→p.2.zu o=true
noncomputable abbrev nu(b:Nat)(t s:V):Loc:=[("new_callers", .ref b),("target",t),("source",s)]
noncomputable def eD:SD:=gK (au (uI (au (uI (au (fZ (au (bodyOf 189) 2)) 0)) 0)) 0)
noncomputable abbrev gP:Pos:=⟨227,42,227,92⟩
noncomputable def gQ:Rj:="add_callers.<locals>.<genexpr>"
theorem IX:((fdOf 189).qualname++".<locals>.")++"<genexpr>"=gQ:=rfl
noncomputable abbrev gS(e:SD):aaf:=oM (cL 0 e)
noncomputable def zv(e:SD)(k:Nat):Pos:=
 let g:=cL 0 e
 ([nq e,nq (nq g),v5 (nq g),nq g,cL 0 (v5 g),cL 1 (v5 g),v5 g,nq (cL 0 g),cL 0 g,e].map (·.pos)).getD k default
noncomputable def gA(e:SD):List SD:=HU (cL 0 (cL 0 e))
noncomputable def tupK(e:SD):Nat:=by
 cases e with
 |Tuple _ k=>exact k
 |_=>exact 0
noncomputable def gk(e:SD):Nat:=tupK (v5 (cL 0 e))
theorem Fd:eD= .Call (.Name "tuple" (zv (eD) 0)) [.GeneratorExp (.BinOp (.Name "i" (zv (eD) 1)) .Add (.Name "j" (zv (eD) 2)) (zv (eD) 3)) [⟨.Tuple [.Name "i" (zv (eD) 4), .Name "j" (zv (eD) 5)] (gk (eD)) (zv (eD) 6), .Call (.Name "zip" (zv (eD) 7)) (gA (eD)) [] (zv (eD) 8),[],0⟩] (gS (eD)) gP] [] (zv (eD) 9):=rfl
noncomputable abbrev Mt(e:SD):SD:=v5 e
noncomputable abbrev nP(e:SD):Pos:=e.pos
theorem IY:gA (eD)=[.Name "caller" (nP ((gA (eD)).getD 0 default)), .Subscript (.Name "new_callers" (nP (LO ((gA (eD)).getD 1 default)))) (.Name "func" (nP (Mt ((gA (eD)).getD 1 default)))) (nP ((gA (eD)).getD 1 default))]:=rfl
theorem uX:∃c,(ax 189).code= .ref c∧codeHdIn (KK) c 184=true:=⟨_,rfl,kr⟩
theorem Fe:∀y∈(gS (eD)).names,y.2≠ .cell:=fun y hy=>by
 have:=R8.mp (show((gS (eD)).names.all fun y=>y.2 != .cell)=true from rfl) y hy;intro e;rw[e] at this;exact absurd this dc
section
variable{n:Nat}{F:Fx}{ρ:Loc}{H:AH}
theorem wX:∀(l acc:List (Rj×CV)) H,H[b]?=some (some (AO.dict (dY acc)))→acc.length+l.length<1000→
  XF n (ax 189) (fun _=>True,fun t=>isTup t=true) (jH (au (bodyOf 189) 1)) (fZ (au (bodyOf 189) 1)) [] (cw (dY l)) (nu b t s) H .next (nu b t s) (H.set b (some (AO.dict (dY (dZ acc l))))):=by
 intro l
 induction l with
 |nil=>intro acc H hb _;exact J (show dZ acc []=acc from rfl) (J (fJ hb) ((XF.nil trivial af.nil)))
 |cons p l ih=>
  intro acc H hb hz;have:=ih (cZ acc p.1 p.2) (H.set b (some (AO.dict (dY (cZ acc p.1 p.2))))) (SG (QY.mp hb).1) (elt (AM (adr (fK acc p.1 p.2))) hz);rw[set_set] at this;refine J (n7 ..) ?_;rw[uW] at this;exact XF.cons trivial rfl AT.two (af.cons (XT.assign ET.name (bv.one (AT.sub ET.name ET.name (IS.dict hb (by refine J (mJ ..) (Jx (ui hz) dc)))))) (af.sub af.nil (aa rfl (aa rfl (aa rfl ad))))) this
theorem BZ(B:Base){i:Nat}(hi:H[i]?=some (some (.tab 184 gP gQ))){as bs:List Int}{b}{acc}{k}(hb:H[b]?=some (some (AO.dict (dY acc))))(hk:acc.lookup k=some (.f bs))(hl:as.length=bs.length)(hz:as.length≤10){t s}:
  ET (n+8) (ax 189) (eD) (("caller", .tup (as.map V.int))::("func", .str k)::nu b t s) H (.tup ((as.zip bs).map fun p=>V.int (p.1+p.2))) H:=by
 refine QK fun kG=> ?_;obtain⟨c,hc,hd⟩:=uX;refine kG ?_;have kJ:(dY acc).lookup k=some (.tup (bs.map V.int)):=by refine J (iO ..) (J (hk ..) ?_);rfl
 have ha:ab (n+8) (ax 189) (zv (eD) 8) (gA (eD)) (("caller", .tup (as.map V.int))::("func", .str k)::nu b t s) H [.tup (as.map V.int), .tup (bs.map V.int)] H:=by
  exact IY▸ab.cons ET.name (ab.cons (ET.sub ET.name ET.name (Ty.iV hb) Vs.lookup (OT.item_dict (aV.ref B.mods hb) kJ)) ab.nil)
 exact J Fd ((BX B hl (gy hz) rfl rfl (ET.ay B (yF) yI rfl) ha hc rfl (fun h k=>YG (B.In h k) hd) (IX▸hi) rfl (fun _=>rfl) (Fe) rfl rfl rfl dc rfl rfl rfl))
theorem zw(B:Base){i b:Nat}{t s}{m}{p}(hi:H[i]?=some (some (.tab 184 gP gQ)))(hb:H[b]?=some (some (AO.dict (dY m))))(hz:m.length<1000)(hf:∀o,m.lookup p.1=some o→p.2.zu o=true):
  af (n+8) (ax 189) (fZ (au (bodyOf 189) 2)) (("caller",p.2.v)::("func", .str p.1)::nu b t s) H .next (nu b t s) (H.set b (some (AO.dict (dY (cZ m p.1 (mix m p)))))):=by
 have qz:=OT.in_dict (n:=n+8) (k:=p.1) (aV.ref B.mods hb);replace qz:=(iO ..)▸qz;have jP:=IS.dict (n:=n+8) (key:=p.1) (y:=(mix m p).v) hb (J (mJ ..) ((ao hz dc)));rw[←uW] at jP;refine af.cons (am:=("caller",p.2.v)::("func", .str p.1)::nu b t s) (XT.ite (TT.cmp ET.name ET.name qz) (fun h=> ?_) (fun h=> ?_)) (af.sub af.nil (aa rfl (aa rfl (aa rfl ad))))
 ·replace h:=Option.isSome_map▸h;obtain⟨o,ho⟩:=Ti.mp h;have hl:=hf o ho;have hm:mix m p=p.2.add o:=by delta mix;rw[ho]
  rw[hm] at jP⊢;obtain⟨k,c⟩:=p;cases c with
  |n x=>
   cases o with
   |f l=>cases hl
   |n y=>
    refine af.cons (XT.ite (TT.value (ET.call (ET.ay B (iA) iB) (ab.cons ET.name (ab.cons (ET.ay B (l7) l8) ab.nil)) aL.builtin (CT.mK dc rfl rfl)) OB.bool) (fun h=>by cases h) fun _=>af.cons ?_ af.nil) af.nil;exact XT.sy ET.name ET.name (OT.item_dict (aV.ref B.mods hb) (by refine J (iO ..) (J (ho ..) ?_);rfl)) ET.name Ee.add_int jP
  |f as=>
   cases o with
   |n y=>cases hl
   |f bs=>
    rw[CV.zu,Q5,beq_iff_eq,decide_eq_true_eq] at hl;refine af.cons (XT.ite (TT.value (ET.call (ET.ay B (iA) iB) (ab.cons ET.name (ab.cons (ET.ay B (l7) l8) ab.nil)) aL.builtin (CT.isinstance (b:=true) Ty.tup rfl rfl)) OB.bool) (fun _=>af.cons ?_ af.nil) (fun h=>by cases h)) af.nil;rw[show(CV.f as).add (CV.f bs)=CV.f ((as.zip bs).map fun p=>p.1+p.2) from rfl] at jP⊢;rw[show(CV.f ((as.zip bs).map fun p=>p.1+p.2)).v= .tup ((as.zip bs).map fun p=>V.int (p.1+p.2)) by show V.tup (TX _ (TX _ _))=_;rw[Rk];rfl] at jP;exact XT.assign (BZ B hi hb ho hl.1 hl.2) (bv.one (AT.sub ET.name ET.name jP))
 ·have hm:mix m p=p.2:=by delta mix;rw[(show m.lookup p.1=none by cases e:m.lookup p.1 with|none=>rfl|some o=>cases e▸h)]
  rw[hm] at jP⊢;exact af.cons (XT.assign ET.name (bv.one (AT.sub ET.name ET.name jP))) af.nil
noncomputable def IZ:List (Rj×CV)→List (Rj×CV)→Prop
 |_,[]=>True
 |m,p::l=>(∀o,m.lookup p.1=some o→p.2.zu o=true)∧IZ (cZ m p.1 (mix m p)) l
theorem zx(B:Base){i b}{t s}(Mu:i≠b):∀(l m:List (Rj×CV)) H,H[i]?=some (some (.tab 184 gP gQ))→H[b]?=some (some (AO.dict (dY m)))→m.length+l.length<1000→IZ m l→
  XF (n+8) (ax 189) (fun _=>True,fun t=>isTup t=true) (jH (au (bodyOf 189) 2)) (fZ (au (bodyOf 189) 2)) [] (cw (dY l)) (nu b t s) H .next (nu b t s) (H.set b (some (AO.dict (dY (gT m l))))):=by
 intro l
 induction l with
 |nil=>intro m H _ hb _ _;exact J (show gT m []=m from rfl) (J (fJ hb) ((XF.nil trivial af.nil)))
 |cons p l ih=>
  intro m H hi hb hz hg;have:=ih (cZ m p.1 (mix m p)) (H.set b (some (AO.dict (dY (cZ m p.1 (mix m p)))))) (J (Sr (Se Mu)) hi) (SG (QY.mp hb).1) (elt (AM (adr (fK m p.1 (mix m p)))) hz) hg.2;rw[set_set,←tR] at this;exact J (n7 ..) ((XF.cons trivial rfl AT.two (zw B hi hb (ui hz) hg.1) this))
theorem uY k l:(V.bw (dY l)).dF k=true:=by
 show d7 k _=true
 induction l with
 |nil=>rfl
 |cons p l ih=>
  show(p.2.v.dF k&&d7 k (dY l))=true;refine J (ih ..) (J (YA ..) ?_);cases p.2 with
  |n x=>rfl
  |f as=>
   induction as with
   |nil=>rfl
   |cons a as ih=>show(true&&bD k _)=true;exact J (Ul ..) ((ih))
theorem wY:∀(l a:List (Rj×CV)),(dZ a l).length≤a.length+l.length:=by
 intro l
 induction l with
 |nil=>intro a;exact QM _
 |cons p l ih=>intro a;have:=ih (cZ a p.1 p.2);have:=fK a p.1 p.2;refine J Rn ?_;show(dZ (cZ a p.1 p.2) l).length≤_;lia
theorem jV(B:Base){i:Nat}{H0}{l1 l2}(hi:H0[i]?=some (some (.tab 184 gP gQ)))(hz:l1.length+l2.length<1000)(F5:∀p∈dY l1,p.1.length≤QW)(pH:∀p∈dY l2,p.1.length≤QW)(hg:IZ (dZ [] l1) l2)(AK:∀ob,some ob∈H0→ob.dF H0.length=true):
  CT (n+8+1) (.st (.ref 189)) [.bw (dY l1), .bw (dY l2)] [] H0 (.bw (dY (gT (dZ [] l1) l2))) H0:=by
 let b:=H0.length;have hj:=wY l1 [];rw[VB,TU] at hj;have Ff:=(QY.mp hi).1;let H1:AH:=H0++[some (AO.dict [])];have hb:H1[b]?=some (some (AO.dict (dY []))):=by refine J (Rh (QM _)) (J (RU ..) ?_);rfl
 have e1:∀x,H1.set b x=H0++[x]:=fun x=>by refine J (RF _ _ (QM _)) (J (RU ..) ?_);rfl
 have c1:=wX (n:=n+8) (t:= .bw (dY l1)) (s:= .bw (dY l2)) l1 [] H1 hb (by simp;exact ui hz);rw[e1] at c1;have c2:=zx (n:=n) B (b:=b) (t:= .bw (dY l1)) (s:= .bw (dY l2)) (Sw Ff) l2 (dZ [] l1) (H0++[some (AO.dict (dY (dZ [] l1)))]) (J (RC Ff) hi) (by refine J (Rh (QM _)) (J (RU ..) ?_);rfl) (elt (adr hj) hz) hg;rw[RF _ _ (QM _),RU] at c2;have mz:CT (n+8+1) (.st (.ref 189)) [.bw (dY l1), .bw (dY l2)] [] H0 (.ref b) (H0++[some (AO.dict (dY (gT (dZ [] l1) l2)))]):=by
  refine CT.fn (g:= .ret (.ref b)) (am:=nu b (.bw (dY l1)) (.bw (dY l2))) B (Di B) (Binds.b2 B (HH)) (show [("target":Rj),"source"].Nodup by decide) rfl (af.cons (XT.assign ET.xK bv.nm) ?_);exact af.cons (XT.for (IT.val (ET.aQ ET.name (GM.of Ty.bw aH.bw SO UL UJ) ab.nil aL.builtin (CT.view aV.bw)) (VT.items F5)) c1) (af.cons (XT.for (IT.val (ET.aQ ET.name (GM.of Ty.bw aH.bw SO UL UJ) ab.nil aL.builtin (CT.view aV.bw)) (VT.items pH)) c2) (af.ret (XT.ret ET.name)))
 have hf:=CT.freeze B.mods mz (by refine J (Rh (QM _)) (J (RU ..) ?_);rfl) rfl;rw[RF _ _ (QM _)] at hf;exact CT.drop hf (QM _) (uY _ _) AK
end
section
variable{n:Nat}{F:Fx}{ρ:Loc}{H:AH}
theorem CT.listItems(hx:aV H x l)(vG:∀p∈l,p.1.length≤QW):CT n (.st (.type "list")) [.vw "dict_items" x] [] H (.lst (cw l)) H:= .mk fun A s W fv vs kv R S rf rx c7 _ Q q=>by
 cases rf;have:kv=[]:=by simpa using c7
 subst this;refine QK fun kG=> ?_;obtain⟨v,rfl,a,u,rfl,hI,ru⟩:=rx.one;obtain⟨d,es,m,rfl,ho,hr,nd,hz,hs⟩:=hx.run s W u S ru;obtain⟨bc,hd,j4⟩:=dictOf ho hr nd;refine kG (wpAny_toks (kdx_call R.handled ⟨_,S.cq _ _ hI,rfl,rfl⟩ hd (by refine J j4.length ?_;exact hz) fun h' tk acc c as keep hS hl hG BY lT=> ?_));obtain⟨S1,G1⟩:=S.but (s':={s with heap:=h',toks:=tk}) (Y:=cr) (fun b o _ e=>keep b o e) (fun _ y=>y.elim) rfl rfl lT;have x9:=fun b hb=>Ss (SU (hG.above b hb));have LA:∀j(kv:Rj×Value) a,bc[j]?=some kv→as[j]?=some a→∃t m,h'.get? a=some (sq "tuple" [.str kv.1 t,kv.2] m):=fun j kv b h1 h2=>by
  obtain⟨key,k,x',e1,e2,e3⟩:=hG.pairs j b h2;cases h1.symm.trans e1;obtain⟨t,rfl⟩:=TV e2;exact⟨t,0,e3⟩
 obtain⟨W',S2,G2,r2⟩:=lW l bc as 0 S1 hl (j4.mono G1.le) vG hG.rise (fun b hb=>⟨(S.fresh (x9 b hb)).1,(S.fresh (x9 b hb)).2⟩) LA;have e3:h'.get? s.heap.objs.size=some (sq "list" (as.map Um) c):=by
  refine J hS ?_;show _=some (⟨_,_, .seq (as.map Um).toArray c,_⟩:Obj);rw[←BY,Array.toArray_toList]
 have nn:h'.get? s.heap.objs.size≠Q6:=e3▸nofun;have na:s.heap.objs.size∉as:=fun m=>absurd (hG.above _ m) (Sj _);have f0:=S.fresh (ae s.heap);have f4:s.heap.objs.size∉W'.φ∧W'.I s.heap.objs.size=Q6:=by
  refine⟨fun m=> ?_, ?_⟩
  ·rcases G2.cH _ m with q|q|q
   ·exact f0.1 q
   ·exact nn q
   ·exact na q
  ·cases e:W'.I s.heap.objs.size with
   |none=>rfl
   |some o=>
    rcases G2.gn _ o e with q|q|q|q
    ·cases f0.2.symm.trans q
    ·exact absurd q f0.1
    ·exact absurd q nn
    ·exact absurd q na
 obtain⟨S5,G5,l5⟩:=S2.adopt f4 e3;refine q _ _ _ ?_ S5 ⟨_,_,c,rfl,Wd.ak ..,aj.mono l5 r2,by rw[cw,QP];exact hz⟩;exact(G1.base G2 fun b e h=>absurd (x9 b e) h).base G5 fun x hx h=>by subst hx;exact absurd (ae _) h
end
structure S5 where
 a:Int
 b:Int
 c:Int
 d:Int
 cs:List (Rj×CV)
noncomputable def S5.v(s:S5):V:= .tup [.int s.a, .int s.b, .int s.c, .int s.d, .bw (dY s.cs)]
noncomputable def S5.add(t s:S5):S5:=⟨s.a+t.a,s.b+t.b,s.c+t.c,s.d+t.d,gT (dZ [] t.cs) s.cs⟩
noncomputable def Rw.four(r:Rw):List Int:=[1,r.first,r.own,r.whole*r.first]
noncomputable def Rw.cs(plain:Bool)(r:Rw):List (Rj×CV):=if r.caller=="" then [] else [(r.caller,if plain then .n 1 else .f r.four)]
noncomputable def Rw.s5(plain:Bool)(r:Rw):S5:=⟨r.new,1,r.own,r.whole*r.new,r.cs plain⟩
noncomputable def ko:S5:=⟨0,0,0,0,[]⟩
noncomputable abbrev Tab:=List (Rj×S5)
noncomputable def tabS(plain:Bool)(t:Tab)(r:Rw):Tab:=cZ t r.nm (((t.lookup r.nm).getD ko).add (r.s5 plain))
noncomputable abbrev gU(t:Tab):List (Rj×V):=vals S5.v t
noncomputable def CV.kind(plain:Bool):CV→Bool
 | .n _=>plain
 | .f l=> !plain&&l.length==4
theorem CV.wZ{plain}{a b:CV}(ha:a.kind plain=true)(hb:b.kind plain=true):a.zu b=true:=by
 cases a with
 |n x=>
  cases b with
  |n y=>rfl
  |f m=>have hb:=hb;cases(show plain=true from ha)▸hb
 |f l=>
  have ha:=(Q5 _ _).mp (ha);cases b with
  |n y=>have h:=ha.1;cases(show plain=true from hb)▸h
  |f m=>
   show(l.length==m.length&&decide (l.length≤10))=true;refine J (beq_iff_eq.mp ha.2) (J (beq_iff_eq.mp ((Q5 _ _).mp (hb)).2) ?_);rfl
theorem CV.zy{plain}{a b:CV}(ha:a.kind plain=true)(hb:b.kind plain=true):(a.add b).kind plain=true:=by
 cases a with
 |n x=>
  cases b with
  |n y=>exact ha
  |f m=>exact ha
 |f l=>
  cases b with
  |n y=>exact ha
  |f m=>
   have ha:=(Q5 _ _).mp (ha);refine(Q5 _ _).mpr ⟨ha.1,beq_iff_eq.mpr ?_⟩;refine J (QP ..) (J (aap ..) (J (beq_iff_eq.mp ha.2) (J (beq_iff_eq.mp ((Q5 _ _).mp (hb)).2) ?_)));rfl
theorem Rw.kind(plain:Bool)(r:Rw):(if plain then CV.n 1 else .f r.four).kind plain=true:=by cases plain<;>rfl
structure n8 plain k(s:S5):Prop where
 len:s.cs.length≤k
 fit:∀p∈s.cs,p.2.kind plain=true∧p.1.length≤1000
 nd:(s.cs.map (·.1)).Nodup
noncomputable def tS(r:Rw):Prop:=r.caller.length≤1000∧r.nm.length≤1000∧r.new≤1000∧r.first≤1000∧r.whole≤10000
theorem iP:∀(l a:List (Rj×CV)),((a++l).map (·.1)).Nodup→dZ a l=a++l:=by
 intro l
 induction l with
 |nil=>intro a _;exact J (Ra ..) rfl
 |cons p l ih=>
  intro a h;have hp:=fun m=>by
   rw[Rc,Q8] at h;exact(Tn.mp h).2.2 _ m _ QR rfl
  show dZ (cZ a p.1 p.2) l=_;rw[qX hp,ih _ (by rw[Rm];exact h),Rm];rfl
theorem mem_lookup{α:Type}{k}{x}:∀{l:List (Rj×α)},l.lookup k=some x→(k,x)∈l:=by
 intro l
 induction l with
 |nil=>intro h;cases h
 |cons p l ih=>
  intro h;rw[RG] at h;by_cases e:k=p.1
  ·subst e;rw[beq_self_eq_true] at h;cases h;exact QR
  ·rw[show(k==p.1)=false from beq_eq_false_iff_ne.mpr e] at h;exact QQ _ (ih h)
theorem qY(h:p∈cZ l k x):p∈l∨p=(k,x):=by
 delta cZ at h
 split at h
 ·obtain⟨q,hq,e⟩:=Q4.mp h;revert e;refine bl (fun _ e=> ?_) fun _ e=> ?_
  ·rename_i hk;exact aO e (J hk ((.inr rfl)))
  ·exact aO e ((.inl hq))
 ·rcases Q9.mp h with h|h
  ·exact .inl h
  ·exact .inr (QV.mp h)
theorem mL{x:α}(h:(l.map (·.1)).Nodup):((cZ l k x).map (·.1)).Nodup:=by
 delta cZ
 refine bl (fun _=> ?_) fun _=> ?_
 ·exact J Rk (J (show((fun x=>x.1)∘fun p:Rj×α=>if p.1=k then(p.1,x) else p)=fun p=>p.1 from funext fun p=>by show(if p.1=k then(p.1,x) else p:Rj×α).1=_;refine bl (fun _=> ?_) (fun _=> ?_)<;>rfl) ((h)))
 ·rename_i hn;refine J Rc (Tn.mpr ⟨h,(by simp),fun a ha b hb e=> ?_⟩);rw[QV.mp hb] at e;obtain⟨p,hp,rfl⟩:=Q4.mp ha;exact hn (UB.mpr ⟨p,hp,by exact decide_eq_true e⟩)
theorem n8.go{plain}{k}{t}(h:n8 plain k t)(r:Rw):IZ (dZ [] t.cs) (r.cs plain):=by
 refine J (iP _ _ (by exact h.nd)) (J (Tc ..) ?_)
 delta Rw.cs
 refine bl (fun _=> ?_) fun _=> ?_
 ·trivial
 ·refine⟨fun o ho=> ?_,trivial⟩;exact CV.wZ (r.kind plain) (h.fit _ (mem_lookup ho)).1
theorem n8.add{plain}{k}{t}(h:n8 plain k t){r}(hr:tS r):n8 plain (k+1) (t.add (r.s5 plain)):=by
 have e:(t.add (r.s5 plain)).cs=gT t.cs (r.cs plain):=by
  show gT (dZ [] t.cs) (r.cs plain)=_;rw[iP _ _ (by exact h.nd),Tc]
 by_cases hc:(r.caller=="")=true
 ·have:r.cs plain=[]:=by delta Rw.cs;rw[if_pos hc]
  rw[this] at e;exact⟨by refine J e ?_;exact RV h.len,by refine J e ?_;exact h.fit,by exact J e h.nd⟩
 ·have:r.cs plain=[(r.caller,if plain then .n 1 else .f r.four)]:=by delta Rw.cs;rw[if_neg hc]
  rw[this] at e;have e:(t.add (r.s5 plain)).cs=cZ t.cs r.caller (mix t.cs (r.caller,if plain then .n 1 else .f r.four)):=e;refine⟨by refine J e ?_;have:=fK t.cs r.caller (mix t.cs (r.caller,if plain then .n 1 else .f r.four));have:=h.len;lia, ?_,by exact J e (mL h.nd)⟩;refine J e fun p hp=> ?_;rcases qY hp with hp|rfl
  ·exact h.fit p hp
  ·refine⟨?_,hr.1⟩
   delta mix
   cases ho:t.cs.lookup r.caller with
   |none=>exact r.kind plain
   |some o=>exact CV.zy (r.kind plain) (h.fit _ (mem_lookup ho)).1
theorem uZ{plain}{k}:n8 plain k ko:=⟨Rr _,fun _ h=>absurd h Rb,SE⟩
theorem n8.mono{plain}{k k'}{t}(h:n8 plain k t)(hk:k≤k'):n8 plain k' t:=⟨QU h.len hk,h.fit,h.nd⟩
theorem n8.keys{plain}{k}{t}(h:n8 plain k t):∀p∈dY t.cs,p.1.length≤QW:=fun p hp=>by
 obtain⟨q,hq,rfl⟩:=Q4.mp hp;exact gy ((h.fit q hq).2)
theorem u0{plain}{t}{r}{k}(h:∀p∈t,n8 plain k p.2∧p.1.length≤1000)(hr:tS r):∀p∈tabS plain t r,n8 plain (k+1) p.2∧p.1.length≤1000:=fun p hp=>by
 rcases qY hp with hp|rfl
 ·exact⟨(h p hp).1.mono (Te _),(h p hp).2⟩
 ·refine⟨n8.add ?_ hr,hr.2.1⟩;cases e:t.lookup r.nm with
  |none=>exact uZ
  |some s=>exact(h _ (mem_lookup e)).1
section
variable{n:Nat}{F:Fx}{ρ:Loc}{H:AH}
theorem OT.mul_int(hm:IntMulOk a b):OT n (VQ .Mult) (.int a) (.int b) H (.int (a*b)) H:=OT.dG fun A s W x y R S ra rb Q q=>by
 obtain⟨t,rfl⟩:=ra;obtain⟨u,rfl⟩:=rb;exact PySem.P.mul_int (q _ _) hm
theorem tT(B:Base){i:Nat}{t s:S5}(hi:H[i]?=some (some (.tab 184 gP gQ)))(hz:t.cs.length+s.cs.length<1000)(F5:∀p∈dY t.cs,p.1.length≤QW)(pH:∀p∈dY s.cs,p.1.length≤QW)(hg:IZ (dZ [] t.cs) s.cs)(AK:∀ob,some ob∈H→ob.dF H.length=true):
  CT (n+8+1+1) (.st (.ref 182)) [t.v,s.v] [] H (t.add s).v H:=by
 let F7:Loc:=[("callers", .bw (dY s.cs)),("ct", .int s.d),("tt", .int s.c),("nc", .int s.b),("cc", .int s.a),("target",t.v),("source",s.v)];let P3:Loc:=("t_callers", .bw (dY t.cs))::("t_ct", .int t.d)::("t_tt", .int t.c)::("t_nc", .int t.b)::("t_cc", .int t.a)::F7;refine CT.fn (g:= .ret (t.add s).v) (am:=P3) B (Dh B) (Binds.b2 B (HG)) (show [("target":Rj),"source"].Nodup by decide) rfl (af.cons (XT.assign ET.name (bv.one (AT.tuple (aW.cons AT.nm (aW.cons AT.nm (aW.cons AT.nm (aW.cons AT.nm (aW.cons AT.nm aW.nil)))))))) ?_);refine af.cons (XT.assign ET.name (bv.one (AT.tuple (aW.cons AT.nm (aW.cons AT.nm (aW.cons AT.nm (aW.cons AT.nm (aW.cons AT.nm aW.nil)))))))) ?_;exact af.ret (XT.ret (ET.tuple (ab.cons (ET.binop ET.name ET.name OT.add_int) (ab.cons (ET.binop ET.name ET.name OT.add_int) (ab.cons (ET.binop ET.name ET.name OT.add_int) (ab.cons (ET.binop ET.name ET.name OT.add_int)
  (ab.cons (ET.call (ET.globK B (lY)) (ab.cons ET.name (ab.cons ET.name ab.nil)) (aL.def (Di B)) (jV B hi hz F5 pH hg AK)) ab.nil))))) (show 5≤QW by decide)))
end
noncomputable abbrev I0(b:Nat)(rows:V)(plain:Bool):Loc:=[("table", .ref b),("rows",rows),("plain", .bool plain)]
theorem Fg k(s:S5):s.v.dF k=true:=by
 show(true&&(true&&(true&&(true&&((V.bw (dY s.cs)).dF k&&true)))))=true;exact J (uY ..) rfl
theorem u2 k:∀t,(AO.dict (gU t)).dF k=true
 |[]=>rfl
 |p::t=>by show(p.2.v.dF k&&d7 k (gU t))=true;exact J (Fg ..) (J (Ul ..) ((u2 k t)))
theorem u3{a b:Nat}(h:b≤1000):IntMulOk a b:=IntMulOk.of_right (by
 delta Builtin.Int.intBits
 refine bl (fun _=> ?_) fun _=> ?_
 ·decide
 ·exact ao (show(b:Int).natAbs.log2<11 from(Nat.log2_lt (by lia)).mpr (by omega)) dc)
section
variable{n:Nat}{F:Fx}{ρ:Loc}{H:AH}
theorem zz(B:Base){i b k:Nat}{rows}{plain}{t}{r}(hi:H[i]?=some (some (.tab 184 gP gQ)))(hb:H[b]?=some (some (AO.dict (gU t))))(hr:tS r)(hk:k<900)(hl:t.length≤k)(ht:∀p∈t,n8 plain k p.2∧p.1.length≤1000)(AK:∀ob,some ob∈H→ob.dF H.length=true):
  af (n+8+1+1) (ax 237) (fZ (au (bodyOf 237) 1)) (("first", .int r.first)::("caller", .str r.caller)::("whole", .int r.whole)::("own", .int r.own)::("new", .int r.new)::("name", .str r.nm)::I0 b rows plain) H .next (I0 b rows plain) (H.set b (some (AO.dict (gU (tabS plain t r))))):=by
 let gz:Loc:=("first", .int r.first)::("caller", .str r.caller)::("whole", .int r.whole)::("own", .int r.own)::("new", .int r.new)::("name", .str r.nm)::I0 b rows plain;let am:Loc:=("four", .tup (r.four.map V.int))::gz;let cU:Loc:=("callers", .bw (dY (r.cs plain)))::am;refine af.cons (am:=am) (XT.assign (ET.tuple (ab.cons ET.int (ab.cons ET.name (ab.cons ET.name (ab.cons (ET.binop ET.name ET.name (OT.mul_int (u3 hr.2.2.2.1))) ab.nil)))) (show 4≤QW by decide)) bv.nm) (af.cons (am:=cU) (H1:=H) (XT.assign (ET.db (TT.cmp ET.name ET.str OT.eq_str) (fun h=> ?_) (fun h=> ?_)) bv.nm) ?_)
 ·exact J (show r.cs plain=[] by delta Rw.cs;exact J (if_pos h) rfl) ((ET.ut B.mods))
 ·rw[show r.cs plain=[(r.caller,if plain then .n 1 else .f r.four)] by delta Rw.cs;rw[if_neg (by rw[h];decide)]];refine ET.Da B.mods ET.name (ET.db (TT.value ET.name OB.bool) (fun h=> ?_) (fun h=> ?_))
  ·subst h;exact ET.int
  ·subst h;exact ET.name rfl
 ·have h5:n8 plain k ((t.lookup r.nm).getD ko):=by
   cases e:t.lookup r.nm with
   |none=>exact uZ
   |some s=>exact(ht _ (mem_lookup e)).1
  have xx:(r.cs plain).length≤1:=by delta Rw.cs;refine bl (fun _=> ?_) (fun _=> ?_)<;>simp
  have pH:∀p∈dY (r.s5 plain).cs,p.1.length≤QW:=fun p hp=>by
   obtain⟨q,hq,rfl⟩:=Q4.mp hp;have hq:q∈r.cs plain:=hq
   delta Rw.cs at hq
   split at hq
   ·exact absurd hq Rb
   ·exact J (QV.mp hq) (gy hr.1)
  have Bq:=CT.pS (n:=n+8+1+1) (y:=ko.v) (k:=r.nm) (aV.ref B.mods hb);rw[gR,Option.getD_map] at Bq;have jP:=IS.dict (n:=n+8+1+1) (key:=r.nm) (y:=(((t.lookup r.nm).getD ko).add (r.s5 plain)).v) hb (J (mJ ..) ((elt hl (Jx hk dc))));rw[←qW] at jP;refine af.cons (XT.assign (ET.call (ET.globK B (jd)) (ab.cons (ET.aQ ET.name (GM.of (Ty.iV hb) (aH.iV hb) SO Yt Yr)
   (ab.cons ET.name (ab.cons (ET.tuple (ab.cons ET.int (ab.cons ET.int (ab.cons ET.int (ab.cons ET.int (ab.cons (ET.ut B.mods) ab.nil))))) dc) ab.nil)) aL.builtin Bq)
   (ab.cons (ET.tuple (ab.cons ET.name (ab.cons ET.int (ab.cons ET.name (ab.cons (ET.binop ET.name ET.name (OT.mul_int (u3 hr.2.2.1))) (ab.cons ET.name ab.nil))))) (show 5≤QW by decide)) ab.nil)) (aL.def (Dh B)) (tT B hi (by have:=h5.len;show _+(r.cs plain).length<_;lia) h5.keys pH (h5.go r) AK)) (bv.one (AT.sub ET.name ET.name jP))) (af.sub af.nil ?_)
  exact aa rfl (aa rfl (aa rfl ad))
theorem zA(B:Base){i b}{R}{plain}(Mu:i≠b):∀(rows:List Rw) t k H,H[i]?=some (some (.tab 184 gP gQ))→H[b]?=some (some (AO.dict (gU t)))→(∀r∈rows,tS r)→k+rows.length≤900→t.length≤k→(∀p∈t,n8 plain k p.2∧p.1.length≤1000)→(∀ob,some ob∈H→ob.dF H.length=true)→
  XF (n+8+1+1) (ax 237) (fun _=>True,fun _=>True) (jH (au (bodyOf 237) 1)) (fZ (au (bodyOf 237) 1)) [] (rows.map fun x=> .lst x.l) (I0 b R plain) H .next (I0 b R plain) (H.set b (some (AO.dict (gU (rows.foldl (tabS plain) t))))):=by
 intro rows
 induction rows with
 |nil=>intro t k H _ hb _ _ _ _ _;exact J List.foldl_nil (J (fJ hb) ((XF.nil trivial af.nil)))
 |cons r rows ih=>
  intro t k H hi hb hr hk hl ht h0;have:=ih (tabS plain t r) (k+1) (H.set b (some (AO.dict (gU (tabS plain t r))))) (J (Sr (Se Mu)) hi) (SG (QY.mp hb).1) (fun x hx=>hr x (QQ _ hx)) (ik hk) (ao (fK t r.nm (((t.lookup r.nm).getD ko).add (r.s5 plain))) (a9 hl (QM _))) (u0 ht (hr r QR)) (fun ob ho=>by
   refine J Sl ?_;rcases Yh ho with q|q
   ·exact h0 ob q
   ·cases q;exact u2 _ _)
  rw[set_set] at this;exact XF.cons trivial trivial (AT.ly (aW.cons AT.nm (aW.cons AT.nm (aW.cons AT.nm (aW.cons AT.nm (aW.cons AT.nm (aW.cons AT.nm aW.nil))))))) (zz B hi hb (hr r QR) (ui hk) hl ht h0) this
end
noncomputable def CV.num:CV→Int
 | .n k=>k
 | .f _=>0
noncomputable def pV(plain:Bool)(p:Rj×S5):V:= .tup [.str p.1, .tup [.int p.2.a, .int p.2.b, .int p.2.c, .int p.2.d], .lst (cw (dY p.2.cs)),if plain then .int (p.2.cs.map fun q=>q.2.num).sum else .none]
theorem B0{plain}{k}{s}(h:n8 plain k s)(hp:plain=true):(dY s.cs).map (·.2)=(s.cs.map fun q=>q.2.num).map V.int:=by
 rw[show(dY s.cs).map (·.2)=s.cs.map fun q=>q.2.v by rw[dY,vals,Rk];rfl,Rk];refine RD fun p hq=> ?_;have:=(h.fit p hq).1;subst hp;obtain⟨k,c⟩:=p;cases c with
 |n x=>rfl
 |f l=>exact absurd this (Ry)
theorem tabs_ok{plain}:∀(rows:List Rw) t k,(∀p∈t,n8 plain k p.2∧p.1.length≤1000)→(t.map (·.1)).Nodup→(∀r∈rows,tS r)→(∀p∈rows.foldl (tabS plain) t,n8 plain (k+rows.length) p.2∧p.1.length≤1000)∧((rows.foldl (tabS plain) t).map (·.1)).Nodup∧(rows.foldl (tabS plain) t).length≤t.length+rows.length:=by
 intro rows
 induction rows with
 |nil=>intro t k h nd _;exact⟨h,nd,QM _⟩
 |cons r rows ih=>
  intro t k h nd hr;obtain⟨a,b,c⟩:=ih (tabS plain t r) (k+1) (u0 h (hr r QR)) (mL nd) fun x hx=>hr x (QQ _ hx);exact Rn▸⟨by refine J (show k+(rows.length+1)=k+1+rows.length by lia) ?_;exact a,b,by refine J aaq ?_;exact ao c (AM (a9 (fK t r.nm (((t.lookup r.nm).getD ko).add (r.s5 plain))) (QM _)))⟩
theorem qZ{α:Type}:∀{l:List (Rj×α)},(l.map (·.1)).Nodup→∀p∈l,l.lookup p.1=some p.2:=by
 intro l
 induction l with
 |nil=>intro _ p h;cases h
 |cons q l ih=>
  intro nd p hp;rw[Q8,Sa] at nd;refine J RG ?_;rcases QX.mp hp with rfl|hp
  ·rw[beq_self_eq_true]
  ·exact(show(p.1==q.1)=false from beq_eq_false_iff_ne.mpr fun e=>nd.1 (e▸Tu hp))▸ih nd.2 p hp
theorem kX:∀{l},(∀x∈l,x.dF k=true)→(V.lst l).dF k=true
 |[],_=>rfl
 |x::l,h=>by show(x.dF k&&bD k l)=true;exact J (h x QR) (J (Ul ..) ((kX fun y hy=>h y (QQ _ hy))))
theorem Fh k plain p:(pV plain p).dF k=true:=by
 have h:(V.lst (cw (dY p.2.cs))).dF k=true:=kX fun x hx=>by
  obtain⟨q,hq,rfl⟩:=Q4.mp hx;obtain⟨c,hc,rfl⟩:=Q4.mp hq;cases c.2 with
  |n x=>rfl
  |f l=>
   have:(V.lst (l.map V.int)).dF k=true:=kX fun x hx=>by obtain⟨i,_,rfl⟩:=Q4.mp hx;rfl
   show(true&&(bD k (l.map V.int)&&true))=true;exact J (show bD k (l.map V.int)=true from this) rfl
 show(true&&(true&&((V.lst (cw (dY p.2.cs))).dF k&&(_&&true))))=true;refine J h ?_;cases plain<;>rfl
noncomputable def mM(plain:Bool)(rows:List Rw):Tab:=rows.foldl (tabS plain) []
section
variable{n:Nat}{F:Fx}{ρ:Loc}{H:AH}
theorem w7(B:Base){i:Nat}{rows}{plain}{H0}(hi:H0[i]?=some (some (.tab 184 gP gQ)))(hr:∀r∈rows,tS r)(hz:rows.length≤900)(AK:∀ob,some ob∈H0→ob.dF H0.length=true):
  CT (n+8+1+1+1) (.st (.ref 237)) [.lst (rows.map fun x:Rw=>V.lst x.l), .bool plain] [] H0 (.lst ((mM plain rows).map (pV plain))) H0:=by
 let b:=H0.length;let T:=mM plain rows;have Ff:=(QY.mp hi).1;let H1:AH:=H0++[some (AO.dict [])];obtain⟨ok,nd,hl⟩:=tabs_ok rows [] 0 (fun _ h=>absurd h Rb) SE hr;have Ge:=zA (n:=n) B (R:= .lst (rows.map fun x:Rw=>V.lst x.l)) (plain:=plain) (Sw Ff) rows [] 0 H1 (J (RC Ff) hi) (by refine J (Rh (QM _)) (J (RU ..) ?_);rfl) hr (vy hz) (QM _) (fun _ h=>absurd h Rb) (fun ob ho=>by
  refine J QS ?_;rcases Q9.mp ho with q|q
  ·exact AO.cy (gh (QM _)) (AK ob q)
  ·cases QV.mp q;rfl)
 rw[show H1.set b (some (AO.dict (gU (rows.foldl (tabS plain) []))))=H0++[some (AO.dict (gU T))] by refine J (RF _ _ (QM _)) (J (RU ..) ?_);rfl] at Ge;have mz:CT (n+8+1+1+1) (.st (.ref 237)) [.lst (rows.map fun x:Rw=>V.lst x.l), .bool plain] [] H0 (.lst (T.map (pV plain))) (H0++[none]):=by
  refine CT.fn (g:= .ret (.lst (T.map (pV plain)))) (am:=[("table", .bw (gU T)),("rows", .lst (rows.map fun x:Rw=>V.lst x.l)),("plain", .bool plain)]) B (Dr B) (Binds.b2 B (HO)) (show [("rows":Rj),"plain"].Nodup by decide) rfl (af.cons (XT.assign ET.xK (bv.one (AT.name (ST.cell rfl)))) ?_);refine af.cons (XT.for (IT.val ET.name VT.lst) Ge) (af.freeze (ρ':=[("table", .bw (gU T)),("rows", .lst (rows.map fun x:Rw=>V.lst x.l)),("plain", .bool plain)]) B.mods (by refine J (Rh (QM _)) (J (RU ..) ?_);rfl) rfl (fun y z e=> ?_) ?_)
  ·by_cases hy:y="table"
   ·subst hy;cases e;exact .inr ⟨rfl,rfl⟩
   ·refine .inl ?_;rw[lookup_cons,if_neg hy] at e;exact J lookup_cons (J (if_neg hy) ((e)))
  rw[show(H0++[some (AO.dict (gU T))]).set b none=H0++[none] by refine J (RF _ _ (QM _)) (J (RU ..) ?_);rfl];refine af.ret (XT.ret ?_);refine J (show T.map (pV plain)=(T.filter fun _=>true).map (pV plain) by exact J (UF.mpr fun _ _=>rfl) rfl) ?_;refine ET.lc (P:=(fun _=>True,fun _=>True)) (dH:=[("table", .bw (gU T)),("plain", .bool plain)]) T (vx:=fun p=> .str p.1) (fun _=>true) (pV plain) (aq.of rfl (aa rfl (aa rfl ad))) (IT.val ET.name ?_) trivial trivial (by have:=hl;exact ao this (vy (adr (ao hz dc)))) fun p hp=>⟨_,AT.nm,eI.nil,fun _=> ?_,aa rfl (aa rfl ad)⟩
  ·rw[show(T.map fun p=>V.str p.1)=(gU T).map fun p=>V.str p.1 by rw[gU,vals,Rk];rfl];refine VT.keys fun p hp=> ?_;obtain⟨q,hq,rfl⟩:=Q4.mp hp;exact gy ((ok q hq).2)
  ·have kJ:(gU T).lookup p.1=some p.2.v:=by have:=qZ nd p hp;refine J (gR ..) (J (this) ?_);rfl
   have fV:∀{F}{ρ}{H}{e1 e2}{pos},ET (n+8+1+1) F e1 ρ H (.bw (gU T)) H→ET (n+8+1+1) F e2 ρ H (.str p.1) H→ET (n+8+1+1) F (.Subscript e1 e2 pos) ρ H p.2.v H:=fun h1 h2=>ET.sub h1 h2 Ty.bw Vs.lookup (OT.item_dict aV.bw kJ);have h4:∀{F}{ρ}{H}{e1}{k}{p1 pos},ET (n+8+1+1) F e1 ρ H p.2.v H→ET (n+8+1+1) F (.Subscript e1 (.Constant (.int 4) k p1) pos) ρ H (.bw (dY p.2.cs)) H:=fun h1=>ET.sub h1 ET.int Ty.tup R6.lookup (OT.item_tup (show VG 4 5=some 4 by decide) rfl);have m4:=(ok p hp).1;refine ET.tuple (ab.cons ET.name (ab.cons (ET.slice (fV ET.name ET.name) PT.none (PT.some ET.int) PT.none Ty.tup R6.lookup (GT.C7 (show 4<5 by decide)))
    (ab.cons (ET.call (ET.ay B (uH) uJ) (ab.cons (ET.aQ (h4 (fV ET.name ET.name)) (GM.of Ty.bw aH.bw SO UL UJ) ab.nil aL.builtin (CT.view aV.bw)) ab.nil) aL.type (CT.listItems aV.bw m4.keys))
    (ab.cons (ET.db (TT.value ET.name OB.bool) (fun h=> ?_) (fun h=> ?_)) ab.nil)))) (show 4≤QW by decide)
   ·exact J h ((ET.call (ET.globK B (lZ)) (ab.cons (h4 (fV ET.name ET.name)) ab.nil) (aL.def (Dj B)) (jL B (B0 m4 h))))
   ·exact J h ((ET.none))
 exact CT.drop mz (QM _) (kX fun x hx=>by obtain⟨p,_,rfl⟩:=Q4.mp hx;exact Fh _ _ _) AK
end
structure Tb P(s:Ro)(W:Wd)(env:Env):Prop where
 at_:s.heap.get? P=some (tabObj #[])
 φ:P∉W.φ
 I:W.I P=none
 loc:env.locals≠P
 Mv:∀n c,env.cells.lookup n=some c→c≠P
section
noncomputable abbrev zB(P:TD)(n:Nat)(F:Fx)(gp:List U3)(ρ:Loc)(H:AH)(f:Fl)(H':AH):Prop:=∀A s W env,aB A n→an W H s→az F env→cQ W ρ env s.heap→Tb P s W env→
    ∀Q,(∀g s' W',Gr (fun a=>own env a∨a=P) W s W' s'→an W' H' s'→f.rel W' g→Q g s')→
     wpAny (model prog w) A (execs gp env) Q aX s
@[irreducible] noncomputable def ge (P:TD) (n:Nat) (F:Fx) (gp:List U3) (ρ:Loc) (H:AH) (f:Fl) (H':AH):Prop:=zB P n F gp ρ H f H'
theorem ge.mk{P n F gp ρ H f H'}(h:zB P n F gp ρ H f H'):ge P n F gp ρ H f H':=by delta ge;exact h
theorem ge.run{P n F gp ρ H f H'}(h:ge P n F gp ρ H f H'):zB P n F gp ρ H f H':=by delta ge at h;exact h
noncomputable abbrev Fi(W:Wd)(H:AH)(s:Ro):Prop:=an W H {s with toks:=s.toks+1}
noncomputable abbrev tU(P:TD)(n:Nat)(F:Fx)(gp:List U3)(ρ:Loc)(H:AH)(f:Fl)(H':AH):Prop:=∀A s W env,aB A n→Fi W H s→az F env→cQ W ρ env s.heap→Tb P s W env→
    ∀Q,(∀g s' W',Gr (fun a=>own env a∨a=P) W s W' s'→an W' H' s'→f.rel W' g→Q g s')→
     wpAny (model prog w) A (execs gp env) Q aX s
@[irreducible] noncomputable def gV (P:TD) (n:Nat) (F:Fx) (gp:List U3) (ρ:Loc) (H:AH) (f:Fl) (H':AH):Prop:=tU P n F gp ρ H f H'
theorem gV.mk{P n F gp ρ H f H'}(h:tU P n F gp ρ H f H'):gV P n F gp ρ H f H':=by delta gV;exact h
theorem gV.run{P n F gp ρ H f H'}(h:gV P n F gp ρ H f H'):tU P n F gp ρ H f H':=by delta gV at h;exact h
end
section
variable{n:Nat}{F:Fx}{ρ am:Loc}{H H1 H2:AH}{g:Fl}{P:TD}
theorem Tb.own(t:Tb P s W env):¬own env P:=fun h=>by
 rcases h with h|⟨_,m,_,h⟩
 ·exact t.loc h.symm
 ·exact t.Mv m P h rfl
theorem Tb.step{W W'}{env}(t:Tb P s W env)(G:Gr (Internal.own env) W s W' s'):Tb P s' W' env:=by
 have xy:=t.own;have hn:s.heap.get? P≠none:=t.at_▸nofun;refine⟨G.heap _ _ t.at_ t.φ xy,fun h=> ?_, ?_,t.loc,t.Mv⟩
 ·rcases G.cH _ h with q|q|q
  ·exact t.φ q
  ·exact hn q
  ·exact xy q
 ·cases e:W'.I P with
  |none=>rfl
  |some o=>
   rcases G.gn _ o e with q|q|q|q
   ·cases t.I.symm.trans q
   ·exact absurd q t.φ
   ·exact absurd q hn
   ·exact absurd q xy
theorem ge.cons{st}{rest}(h:XT n F st ρ H .next am H1)(hr:ge P n F rest am H1 g H2):ge P n F (st::rest) ρ H g H2:=by
 refine .mk fun A s W env R S E f T Q q=>(Wu (h.run A s W env R S E f _ fun fl s1 W1 G1 S1 f1 r1=> ?_));cases r1;exact hr.run A s1 W1 env R S1 E f1 (T.step G1) _ fun fl s2 W2 G2 S2 r2=>q fl s2 W2 ((G1.weaken fun _=> .inl).trans G2) S2 r2
theorem ge.adopt(h:af n F gp ρ (H++[some (.tab P p u)]) g am H1):ge P n F gp ρ H g H1:=by
 refine .mk fun A s W env R S E f T Q q=> ?_;obtain⟨S1,G1,l⟩:=S.sT (ob:= .tab P p u) ⟨T.φ,T.I⟩ (T.at_▸nofun) ⟨rfl,#[],T.at_, .inl rfl⟩;refine h.run A s _ env R S1 E (f.dh G1 T.loc T.Mv) Q fun fl s2 W2 G2 S2 f2 r2=>q fl s2 W2 ((G1.weaken fun _=> .inr).trans (G2.weaken fun _=> .inl)) S2 r2
theorem gV.first{ts cs}{i}{k}{cp lp bp pos}{op}{r}{xs}{y z}{rest}{H3}(hc:ab n F lp cs ρ H xs H)(hz:(V.int i::xs).length≤QW)(hr:ET n F r ρ H y H)(ho:OT n (VQ op) (.lst (.int i::xs)) y H z H)(h:bv n F ts z ρ H am H1)
  (I1:ge P n F rest am H1 g H3) (hs:autoParam (∀env,Zr ts (.BinOp (.List (.Constant (.int i) k cp::cs) lp) op r bp) pos.line env=pure false) aI) (hw:autoParam (∀env,az F env→TJ ts (.BinOp (.List (.Constant (.int i) k cp::cs) lp) op r bp) env=pure none) aI):
  gV P n F (.Assign ts (.BinOp (.List (.Constant (.int i) k cp::cs) lp) op r bp) pos::rest) ρ H g H3:=by
 refine .mk fun A s W env R S0 E f T Q q=> ?_;have G0:Gr cr W s W {s with toks:=s.toks+1}:=Gr.dD W s _;refine Wu (aaD (aax (wpAny_List (Ws (aaV ?_) (cJ rfl env)))) (hs env) (hw env E));refine hc.run A {s with toks:=s.toks+1} W env R S0 E f _ fun vs s1 W1 G1 S1 r1=>⟨by refine J Rn (J r1.length ?_);exact hz, ?_⟩;refine QK fun kG=> ?_;obtain⟨S2,G2⟩:=S1.put (fO "list" (.int i s.toks::vs) 0);refine kG (hr.run A _ _ env R S2 E (((f.step G0).step G1).step G2) _ fun b s3 W3 G3 S3 r3=>(ho.run A s3 W3 _ b R S3 (⟨_,_,0,rfl,G3.le.2.1 _ _ (Wd.ak ..),⟨_,_,rfl,⟨_,rfl⟩,(r1.mono G2.le).mono G3.le⟩,hz⟩) r3 _ fun v s4 W4 G4 S4 r4=> ?_));have G:=((((G0.trans G1).trans G2).trans G3).trans G4);refine h.run A s4 W4 env v R S4 E (f.step G) r4 _ fun s5 W5 G5 S5 f5=> ?_;have Gx:=(G.of).trans G5;exact I1.run A s5 W5 env R S5 E f5 (T.step Gx) _ fun fl s6 W6 G6 S6 r6=>q fl s6 W6 ((Gx.weaken fun _=> .inl).trans G6) S6 r6
theorem CC.Mw(K:Fn a fd)(lim:∀h:Vi,(∀a o,bo a=some o→h.get? a=some o)→h.NoLimit)
  (hb:fd.body= .stmts body) (hB:Binds fd xs [] bs) (hn:(bs.map (·.1)).Nodup) (hk:∀x∈bs.map (·.1),fd.scope.names.lookup x=some .local∨fd.scope.names.lookup x=some .cell)
  (h:gV P n ⟨fd.scope.names,fd.code,true,some (fd.qualname++".<locals>.")⟩ body bs H g H1) {A} {s} {W} {vs} (R:aB A (n+1)) (S:Fi W H s) (rx:aj W xs vs) (h1:s.heap.get? P=some (tabObj #[])) (h2:P∉W.φ) (h3:W.I P=none)
  {Q} (q:∀v s' W',Gr (fun a=>a=P) W s W' s'→an W' H1 s'→Rel W' g.out v→Q v s'):wpAny (model prog w) A (call (.ref a) vs) Q aX s:=by
 refine UP (QK fun kG=> ?_);obtain⟨o,ho,hd⟩:=K.at_;obtain⟨b,hL,CL⟩:=hB s.heap W vs [] S.ground rx rfl;refine kG (ZZ R.lt (S.ground _ _ ho) hd K.co K.gen hb (K.code _ S.ground) (hL.here ?_));refine J K.FW (wpAny_toks (UG K.kind (fun y hy=> ?_) fun env he s' x ht=> ?_))
 ·rcases hk _ (CL.names▸Q4.mpr ⟨y,hy,rfl⟩) with q|q
  ·exact .inl q
  ·exact .inr ⟨q,ba _ _ _ _ (.inl q)⟩
 ·have vz:env=callEnvC fd s.heap.objs.size a:=he;subst vz;obtain⟨f,S',G1⟩:=g9 S hn CL hk (show InCallC {s with toks:=s.toks+1} (callEnvC fd s.heap.objs.size a).locals _ (callEnvC fd s.heap.objs.size a).cells _ {s' with toks:=s'.toks+1} from⟨⟨let⟨h,_,e⟩:=x.toInCall.same;⟨h,s'.toks+1,by rw[e]⟩,x.toInCall.ns,x.toInCall.keep,x.toInCall.fresh⟩,x.cell,x.apart,x.above⟩) (TE ht);have G':Gr cr W s W s':=⟨G1.le,G1.cH,G1.gn,G1.heap,G1.there,G1.os,G1.gens⟩;refine⟨lim _ S'.ground,codeAny_func ?_⟩;have ce:=Rq h1;have above:=fun n c hc=>x.above n c (mem_of_lookup hc);refine Ri (h.run (A.deeper _) s' W _ (R.deeper _) S' (⟨rfl,K.kind,K.glob,K.FX,rfl,K.co,(fun _ y c _ hc=>x.above y c (mem_of_lookup hc)),(fun q h=>by cases h;rfl)⟩) f (⟨G'.heap _ _ h1 h2 id,h2,h3,fun e=>SJ ce e,fun n c hc e=>Nat.lt_asymm ce (e▸above n c hc)⟩) (fun fl s2=>Q (match fl with| .ret v=>v|_=> .none) s2) fun fl s2 W2 G2 S2 r2=> ?_) (fun fl s2 h2=> ?_) fun _ _ e=>e.elim
  ·have G3:Gr (fun a=>a=P) W s W2 s2:=by
    refine Gr.base G'.of G2 fun y o h=> ?_;rcases o with(o|⟨_,m,_,o⟩)|o
    ·rw[o] at h;exact absurd (ae _) h
    ·have ce:=above m y o;cases q:s.heap.get? y with
     |none=>exact absurd q h
     |some o=>exact absurd (Rq q) (Tw.mpr (SU ce))
    ·exact o
   cases g with
   |next=>cases r2;exact q _ s2 W2 G3 S2 rfl
   |ret z=>obtain⟨v,e,r⟩:=r2;subst e;exact q _ s2 W2 G3 S2 r
  ·cases fl<;>exact h2
end
theorem zC:Vj (.type "method_descriptor") "__get__"=pure (some (.builtin "method_descriptor.__get__")):=rfl
theorem Fj:Vj (.type "method_descriptor") "__set__"=pure none:=rfl
theorem Fk:Vj (.type "method_descriptor") "__delete__"=pure none:=rfl
theorem q8:Slot "method_descriptor" "__get__" "method_descriptor.__get__":=
 .of (owner:="method_descriptor") (n:="__get__") zC rfl rfl rfl
  dc rfl
theorem o0:WG aac "method_descriptor.__get__"=some Builtin.«method_descriptor.__get__»:=Yn rfl
theorem q9(a b c:Value):argsOk "method_descriptor.__get__" ⟨[a,b,c],[]⟩:=kr
theorem sub_list_list:WC (.type "list") (.type "list")=pure true:=rfl
theorem tV{s}{a}{P}(hT:s.TypeIs (.ref a) "list")(h:P (.done (.ret (.ref s.heap.objs.size))) {s with heap:=s.heap.push (bq "list.append" (.ref a))}):
  wpAny M A (Builtin.«method_descriptor.__get__» ⟨[.builtin "list.append", .ref a, .type "list"],[]⟩) P E s:=by
 refine QL (Sq (a:=(.builtin "list.append",some (.ref a),some (.type "list"))) rfl ?_);dsimp only
 repeat (any_goals (first|assumption|wp_step))
 refine J (show(".".intercalate ("list.append".cutAt '.').dropLast)="list" from rfl) ?_;refine Sq sub_list_list ?_
 repeat (any_goals (first|assumption|wp_step))
theorem o8 a xs k sl u:
  Meets (Builtin.«object.__getattribute__» ⟨[.ref a, .str "append" u],[]⟩) (fun A R s=>s.heap.get? a=some {cls:= .type "list",dict:=none,data:= .seq xs k,slots:=sl}∧R (.ok (.ret (.ref s.heap.objs.size))) {s with heap:=s.heap.push (bq "list.append" (.ref a))}):=
 Meets.of_wp fun prog w A R s hs=>by
  obtain⟨hx,hs⟩:=hs;have hT:s.TypeIs (.ref a) "list":=⟨_,hx,rfl⟩;have f1:=PySem.slot_list_append.lookup;have f2:=zC;have f3:=Fj;have f4:=Fk;have f5:=type_list_append
  repeat (any_goals (first|assumption|((with_reducible show wpAny _ _ (call (aaF "method_descriptor.__get__") _ _) _ _ _);refine wpAny_call_entry q8 type_list_append o0 (tV ⟨_,hx,rfl⟩ ⟨_,rfl, ?_⟩) (q9 _ _ _))|wp_step))
  exact⟨_,rfl,hs⟩
theorem jW{s}{a}{xs}{k}{sl}{Q}(hx:s.heap.get? a=some {cls:= .type "list",dict:=none,data:= .seq xs k,slots:=sl})
  (h:Q (.ref s.heap.objs.size) {s with heap:=s.heap.push (bq "list.append" (.ref a)),toks:=s.toks+1}):wpAny (model prog w) A (getAttr (.ref a) "append" true) Q E s:=by
 obtain⟨hp,g,d,tk,os⟩:=s;have hT:∀LH,(⟨hp,g,d,LH,os⟩:Ro).TypeIs (.ref a) "list":=fun _=>⟨_,hx,rfl⟩;have f3:=F.slot_list_getattribute.lookup;have f4:=F.slot_list_getattribute.bind (.ref a)
 repeat (any_goals (first|assumption|exact hT _|((with_reducible show wpAny _ _ (call (aaF "list.__getattribute__") _ _) _ _ _);refine call_meets F.slot_list_getattribute (hT _) am_entry_list_getattribute (F.args_list_getattribute_2 _ _) (o8 a xs k sl _) ⟨hx, ?_⟩)|wp_step))
 show wpAny _ _ (handedOut (.ref hp.objs.size)) _ _ _
 repeat (any_goals (first|assumption|wp_step))
section
variable{n:Nat}{F:Fx}{ρ:Loc}{H:AH}
theorem GA.app(hj:H[j]?=some (some (.list l))):GA n (.ref j) "append" H (.bm "list.append" (.ref j)) H:=by
 refine .mk ?_;intro A s W a R S r Q q;have r':=r;obtain⟨a',rfl,p⟩:=r';obtain⟨b,p',_,vs,m,ho,_⟩:=S.live _ _ hj;cases p▸p';refine jW ho ?_;obtain⟨S2,G2⟩:=(S.tok (s.toks+1)).put (o:=bq "list.append" (.ref a')) rfl;exact q _ _ _ ((Gr.dD W s _).trans G2) S2 ⟨_,_,rfl,Wd.ak ..,r.mono G2.le⟩
noncomputable def re{α:Type}(lo hi st:Option Int)(l:List α):List α:=(sliceRange (UO lo hi st l.length).1 (UO lo hi st l.length).2.1 (UO lo hi st l.length).2.2).filterMap (l[·]?)
theorem aj.pick(r:aj W l us):∀is:List Nat,aj W (is.filterMap (l[·]?)) (is.filterMap (us[·]?)):=by
 intro is
 induction is with
 |nil=>rfl
 |cons i is ih=>
  refine J WN (J WN ?_);cases e:l[i]? with
  |none=>
   rw[R2 (r.length▸List.getElem?_eq_none_iff.mp e)];exact ih
  |some x=>
   obtain⟨v,e2,rv⟩:=r.get e;exact J e2 ((⟨v,_,rfl,rv,ih⟩))
theorem GT.B1{lo hi st}(h0:st≠some 0):GT n (.lst l) lo hi st H (.lst (re lo hi st l)) H:=by
 refine .mk fun A s W o a vl vu vs R S r hs pl pu ps Q q=> ?_;obtain⟨a,us,m,rfl,im,r,hz⟩:=r;have hlen:=r.length;refine Zl (aA S im) hs pl pu ps h0 ?_ (ao (bC hlen) hz);have hsz:=slicePick_size_le us.toArray lo hi st;unfold slicePick at hsz⊢;simp only[Re,hlen,RQ] at hsz⊢;obtain⟨S2,G2⟩:=S.put (fO "list" ((sliceRange (UO lo hi st l.length).1 (UO lo hi st l.length).2.1 (UO lo hi st l.length).2.2).filterMap (us[·]?)) 0);have rp:=r.pick (sliceRange (UO lo hi st l.length).1 (UO lo hi st l.length).2.1 (UO lo hi st l.length).2.2);refine q _ _ _ G2 S2 ⟨_,_,0,rfl,Wd.ak ..,rp.mono G2.le, ?_⟩;exact QU (Uf rp.length.symm) (ao hsz hz)
theorem w8(f:α→β)(lo hi st:Option Int) l:re lo hi st (l.map f)=(re lo hi st l).map f:=by
 delta re
 refine J (QP ..) (J (List.map_filterMap ..) ?_);congr 1;funext i;rw[R3]
theorem aL.cls(B:Base){f}(h:keepIn (KK) f=true):aL (.st f):= .mk fun s W H v S r=>by
 cases r;exact keeps_K h s.heap (B.In s.heap S.ground)
end
noncomputable def d0:List Int:=[0,5,3,10,5,23,2,2,8,2,15,5,3,2,28,2,5,13]
noncomputable def fa(xs:List Int):List Int:=d0++xs.take 10
noncomputable def Fm:List (Nat×Int):=[(0,4),(1,36),(2,90),(3,143)]
noncomputable def B2(xs:List Int)(p:Nat×Int):LF:=iM (p.2+(re (some p.1) none (some 4) xs).sum)
noncomputable def mN(xs:List Int):List LF:=Fm.map (B2 xs)
noncomputable def f3(xs:List Int):LF:=B2 xs (3,143)
noncomputable def B3(xs:List Int):Rj:="{"++(f3 xs).nm++"}c"
noncomputable def endOf(xs:List Int):RS:=RS.run (mN xs) (fa xs) ⟨Tg.t0 (B3 xs),[],[],[]⟩
noncomputable def textOf(xs:List Int):Rj:=R9 "" (endOf xs).t.told
noncomputable def iE(xs:List Int)(l:List (List Rj)):List (List Rj):=l.filter fun w=> !w.contains (f3 xs).text
noncomputable def ia(xs:List Int):Bool:=xs.sum.fmod 2==1
structure rg xs:Prop where
 run:nV (mN xs) (fa xs) ⟨Tg.t0 (B3 xs),[],[],[]⟩
 way:∀x∈(endOf xs).calls++(endOf xs).ticks,oY x
 len:(endOf xs).calls.length≤1000∧(endOf xs).ticks.length≤1000
 I2:Xb "" (endOf xs).t.told=true
 size:(textOf xs).length≤1000000
 read:∃(hd:Rj)(ps:List (Rj×Pc)),RP (textOf xs) "<"=hd::ps.map (·.1)∧ps.length≤800∧(∀q∈RP (textOf xs) "<",q.length≤10000)∧mw ⟨[],[],[],[]⟩ ps∧
  (∀r∈((ps.map (·.2)).foldl Rd.step ⟨[],[],[],[]⟩).rows,tS r)∧((ps.map (·.2)).foldl Rd.step ⟨[],[],[],[]⟩).rows.length≤900∧
  (mM (ia xs) ((ps.map (·.2)).foldl Rd.step ⟨[],[],[],[]⟩).rows).map (pV (ia xs))=(mG (iE xs (endOf xs).calls) (iE xs (endOf xs).ticks)).map (rZ (ia xs))
 ok:(V.lst ((mG (iE xs (endOf xs).calls) (iE xs (endOf xs).ticks)).map (rZ (ia xs)))).ok=true
section
variable{n:Nat}{F:Fx}{ρ:Loc}{H:AH}
noncomputable abbrev J2:AO:= .tab 123 tc qt
noncomputable abbrev Fb(xs:List Int):Loc:=[("ticks", .ref 12),("calls", .ref 11),("target", .ref 2),("out", .str (f3 xs).text),("told", .ref 1),("functions",DJ (mN xs)),("deeds", .lst ((fa xs).map V.int)),("script", .lst (xs.map V.int))]
theorem w9(B:Base){xs}(O:rg xs)(hz:xs.length≤1000){g}{H'}(hr:ge 184 (n+8+1+1+1) (ax 252) ((bodyOf 252).drop 5) (Fb xs) (endOf xs).h g H'):
  gV 184 (n+8+1+1+1) (ax 252) (bodyOf 252) [("script", .lst (xs.map V.int))] [some J2] g H':=by
 have hs:=Rv;have tM:cut none (some 10) (xs.map V.int)=(xs.take 10).map V.int:=by
  show((xs.map V.int).drop 0).take (XG (xs.map V.int).length ((10:Nat):Int)-0)=_;rw[Vb,clipAt_nat,Xz,QP,List.map_take];rcases XD 10 xs.length with h|h
  ·rw[Yb h]
  ·rw[XV h,Su (by simp),Su (by simpa using h)]
 have I3:=OT.kM (n:=n+8+1+1+1) (H:=[some J2]) (l:=d0.map V.int) (l':=cut none (some 10) (xs.map V.int)) (by refine J tM ?_;simp[d0];lia);rw[tM,show d0.map V.int++(xs.take 10).map V.int=(fa xs).map V.int by rw[fa,Rc]] at I3;refine gV.first ?_ dc (tM▸ET.dI (ET.name rfl) PT.none (PT.some ET.int)) I3 bv.nm ?_
 ·repeat (first|exact ab.nil|refine ab.cons ET.int ?_)
 let cU:Loc:=[("functions",DJ (mN xs)),("deeds", .lst ((fa xs).map V.int)),("script", .lst (xs.map V.int))];refine ge.cons (am:=cU) (by
  refine aO (show V.lst ((Fm.filter fun _=>true).map fun p=>(B2 xs p).v)=DJ (mN xs) by rfl) ?_;exact XT.lc (hsw:=fun _ E=>kT E kr kr kr) (dH:=[("script", .lst (xs.map V.int))]) Fm (vx:=fun p=> .tup [.int p.1, .int p.2]) (fun _=>true) (fun p=>(B2 xs p).v) (aq.of rfl (aa rfl ad))
   (IT.call (ET.ay B (je) jf) (ab.cons (ET.list (ab.cons ET.int (ab.cons ET.int (ab.cons ET.int (ab.cons ET.int ab.nil))))) ab.nil) aL.type CI.enum) trivial rfl dc fun p hp=>⟨_,AT.two,eI.nil,fun _=>
    ET.call (ET.globK B (jE)) (ab.cons (ET.binop (ET.name rfl) (ET.call (ET.ay B (yE) yH) (ab.cons (by exact aO (w8 ..) (ET.slice (ET.name rfl) (PT.some (ET.name rfl)) PT.none (PT.some ET.int) Ty.lst Rp.lookup (GT.B1 dc))) ab.nil) aL.builtin CT.sum) OT.add_int) ab.nil) (aL.def (Dk B)) (wz B _),aa rfl ad⟩) ?_
 have hg:(f3 xs).good:=nS _;let hJ:Loc:=("out", .str (f3 xs).text)::("told", .ref 1)::cU;refine ge.cons (XT.assign (ET.tuple (ab.cons (ET.d9 ab.nil) (ab.cons (ET.sub (ET.sub (ET.name rfl) ET.int Ty.lst Rp.lookup (OT.aZ rfl rfl)) ET.int Ty.tup R6.lookup (OT.item_tup (show VG 1 2=some 1 by decide) rfl)) ab.nil)) (show 2≤QW by decide))
  (bv.one (AT.tuple (aW.cons AT.nm (aW.cons (AT.name (ST.cell rfl)) aW.nil)))) (fun _=>rfl) (fun env E=>dw E rfl)) ?_
 let Gb:Loc:=("target", .ref 2)::hJ;have hex:∀{H},ET (n+8+1+1+1) (ax 252) (cL 0 (kwAt 1 (gK (au (bodyOf 252) 3)))) hJ H (.str (B3 xs)) H:=fun {H}=>
  ET.binop (ET.binop ET.str (ET.call (ET.globK B (eP)) (ab.cons (ET.sub (ET.sub (ET.name rfl) ET.int Ty.lst Rp.lookup (OT.aZ rfl rfl)) ET.int Ty.tup R6.lookup (OT.item_tup (show VG 0 2=some 0 by decide) rfl)) ab.nil) (aL.def (yC B)) (qJ B hg.hi (QU hg.hf dc) hg.m4 (QU hg.hn dc)))
   (OT.add_str (by exact iF (ao (a9 (QM _) hg.nl) dc)))) ET.str (OT.add_str (by rw[Q7];exact iF (ao (a9 (a9 (QM _) hg.nl) (QM _)) dc)))
 refine ge.cons (XT.assign (ET.C5 (ET.globK B (iq)) (ab.cons (ET.attr (ET.name rfl) (GA.app rfl)) ab.nil)
  (yt.cons ET.bool (yt.cons (ET.list (ab.cons hex ab.nil) (show 1≤QW by decide)) yt.nil)) (aL.cls B rfl) (CT.make (fun h k=>B.In h k) rfl rfl rfl (wA B))) bv.nm) ?_
 exact ge.cons (XT.assign (ET.call (ET.globK B (qm)) (ab.cons (ET.name rfl) (ab.cons (ET.name rfl) (ab.cons (ET.name rfl) ab.nil))) (aL.def (Dl B)) (y8 B (fun f hf=>by obtain⟨p,_,rfl⟩:=Q4.mp hf;exact nS _) (by show 4≤10;decide) O.run)) (bv.one AT.two)) hr
end
section
variable{n:Nat}{F:Fx}{ρ:Loc}{H:AH}
theorem OT.mO{l:List Rj}{x}(hl:∀x∈l,QZ x=true)(hx:QZ x=true):OT (n+8) (RZ .NotIn) (.str x) (.lst (l.map V.str)) H (.bool (!l.contains x)) H:=by
 rw[←any_beq,show(l.any fun y=>y==x)=(l.map V.str).any fun y=>V.eqv y (.str x) by rw[Wf];rfl];exact OT.jA (gN hl) (so hx)
noncomputable abbrev Fz(ρ ρ':Loc)(k:Nat)(x:V):Prop:=∀y z,ρ'.lookup y=some z→ρ.lookup y=some z∨(z=x∧ρ.lookup y=some (.ref k))
theorem tW:Fz ρ [] k x:=fun _ _ e=>by cases e
theorem cT{x b}{a}(e:ρ.lookup a=some b)(h:Fz ρ ρ' k x):Fz ρ ((a,b)::ρ') k x:=fun y z q=>by
 replace q:=lookup_cons▸q;revert q;refine bl (fun _ q=> ?_) fun _ q=> ?_
 ·rename_i hy;subst hy;cases q;exact .inl e
 ·exact h y z q
theorem o9{k}{x}{a}(e:ρ.lookup a=some (.ref k))(h:Fz ρ ρ' k x):Fz ρ ((a,x)::ρ') k x:=fun y z q=>by
 replace q:=lookup_cons▸q;revert q;refine bl (fun _ q=> ?_) fun _ q=> ?_
 ·rename_i hy;subst hy;cases q;exact .inr ⟨rfl,e⟩
 ·exact h y z q
noncomputable abbrev J3:AO:= .tab 184 gP gQ
noncomputable def Hx(xs:List Int):AH:=((((endOf xs).h++[some J3]).set 11 none).set 12 none).set 1 none
theorem tY xs:∀ob,some ob∈Hx xs→ob.dF (Hx xs).length=true:=by
 intro ob h;have el:(Hx xs).length=(endOf xs).h.length+1:=by refine J Sl (J Sl (J Sl (J QS ?_)));rfl
 refine J el ?_;have mem:∀{l:AH}{k},some ob∈l.set k none→some ob∈l:=fun q=>by
  rcases Yh q with q|q
  ·exact q
  ·cases q
 rcases Q9.mp (mem (mem (mem h))) with q|q
 ·exact AO.cy (Te _) ((Tg.dF hU) ob q)
 ·cases QV.mp q;rfl
theorem tZ xs:(Hx xs)[(endOf xs).h.length]?=some (some J3):=by
 have hl:13≤(endOf xs).h.length:=by
  refine J (Tg.qF (endOf xs).t (bK (endOf xs).calls (endOf xs).ticks (endOf xs).way) []) (J QS ?_);show 13≤11+(3+_);exact Og (gh dc)
 delta Hx
 rw[Sr (FS (ao dc hl)),Sr (FS hl),Sr (FS (ao dc hl)),Rh (QM _),RU];rfl
theorem zD(B:Base){xs}(O:rg xs)(Fa:QZ (f3 xs).text=true):ge 184 (n+8+1+1+1) (ax 252) ((bodyOf 252).drop 5) (Fb xs) (endOf xs).h (.ret (.bool true)) (Hx xs):=by
 let C:=(endOf xs).calls;let T:=(endOf xs).ticks;let told:=(endOf xs).t.told;let P4:Loc:=[("ticks", .ref 12),("calls", .lst (C.map wV)),("out", .str (f3 xs).text),("told", .ref 1),("script", .lst (xs.map V.int))];let P5:Loc:=[("ticks", .lst (T.map wV)),("calls", .lst (C.map wV)),("out", .str (f3 xs).text),("told", .ref 1),("script", .lst (xs.map V.int))];let N4:Loc:=[("ticks", .lst (T.map wV)),("calls", .lst (C.map wV)),("out", .str (f3 xs).text),("told", .lst (told.map V.str)),("script", .lst (xs.map V.int))];let kept:=iE xs C;let left:=iE xs T;let JT:Loc:=("kept", .lst (kept.map wV))::("left", .lst (left.map wV))::N4;let Mx:Loc:=("plain", .bool (ia xs))::JT;refine QK fun kG=> ?_;obtain⟨hd,ps,oT,P6,hq,I4,P7,P8,heq⟩:=O.read;refine kG ?_;let rows:=((ps.map (·.2)).foldl Rd.step ⟨[],[],[],[]⟩).rows;have hC:=fun x hx=>O.way x (Rt _ hx);have hT:=fun x hx=>O.way x (RK _ hx);have hk:∀{l},(∀x∈l,oY x)→∀x∈iE xs l,oY x:=fun h x hx=>h x (RO.mp hx).1;have lk:∀{l},l.length≤1000→(iE xs l).length≤1000:=fun h=>QU (Sk ..) h;refine ge.adopt (p:=gP) (u:=gQ) (am:=Mx) (af.freeze (ρ':=P4) B.mods rfl rfl (cT rfl (o9 rfl (cT rfl (cT rfl (cT rfl tW))))) ?_);refine af.freeze (ρ':=P5) B.mods rfl rfl (o9 rfl (cT rfl (cT rfl (cT rfl (cT rfl tW))))) (af.freeze (ρ':=N4) B.mods rfl rfl (cT rfl (cT rfl (cT rfl (o9 rfl (cT rfl tW))))) ?_);refine af.cons (am:=JT) (XT.fQ (xs:=["kept","left"]) (ET.tuple (ab.cons (ET.lc (dH:=[("out", .str (f3 xs).text)]) C (fun w=> !w.contains (f3 xs).text) wV (aq.of rfl (aa rfl ad)) (IT.val ET.name VT.lst) trivial trivial (QU O.len.1 dc)
   fun x hx=>⟨_,AT.nm,eI.one (TT.cmp ET.name ET.name (OT.mO (hC x hx).ok Fa)),fun _=>ET.name rfl,aa rfl ad⟩)
  (ab.cons (ET.lc (dH:=[("out", .str (f3 xs).text)]) T (fun w=> !w.contains (f3 xs).text) wV (aq.of rfl (aa rfl ad)) (IT.val ET.name VT.lst) trivial trivial (QU O.len.2 dc)
   fun x hx=>⟨_,AT.nm,eI.one (TT.cmp ET.name ET.name (OT.mO (hT x hx).ok Fa)),fun _=>ET.name rfl,aa rfl ad⟩) ab.nil)) (show 2≤QW by decide)) ⟨ST.local rfl,ST.local rfl,trivial⟩ rfl (fun _=>rfl) (fun env E=>cX E rfl)) ?_
 refine af.cons (XT.assign (ET.cmp (ET.binop (ET.call (ET.ay B (yE) yH) (ab.cons ET.name ab.nil) aL.builtin CT.sum) ET.int (OT.mod_int dc)) ET.int OT.eq_int) bv.nm) (af.ret (XT.ret ?_));have hp:=w7 (n:=n) B (plain:=ia xs) (tZ xs) P7 P8 (tY xs);rw[heq] at hp;have I5:=OT.Ej (n:=n+3) (H:=Hx xs) O.ok O.ok (fun _ e=>e) (fun _ e=>e);rw[zb O.ok] at I5;exact ET.cmp (ET.call (ET.globK B (kC)) (ab.cons (ET.call (ET.globK B (oL)) (ab.cons (ET.aQ ET.str (GM.of Ty.str aH.str RH V9 V8) (ab.cons ET.name ab.nil) aL.builtin (CT.join O.I2 (gy O.size))) ab.nil) (aL.def (Dq B)) (wO B oT (eG P6) hq I4 (tY xs))) (ab.cons ET.name ab.nil)) (aL.def (Dr B)) hp)
  (ET.call (ET.globK B (qp)) (ab.cons ET.name (ab.cons ET.name (ab.cons ET.name ab.nil))) (aL.def (Ds B)) (zo B (hk hC) (hk hT) (lk O.len.1) (lk O.len.2) (tY xs))) I5
end
theorem mP{a}(h1:a≠123)(h2:a≠184):Ar h a=h.get? a:=by
 unfold Ar;rw[if_neg];rintro(e|e)
 ·exact h1 e
 ·exact h2 e
theorem rh(e:Ar h a=some o):h.get? a=some o:=by
 unfold Ar at e;revert e;refine bl (fun _ e=> ?_) fun _ e=> ?_
 ·cases e
 ·exact e
theorem u4{h h':Vi}{a}{m}(hn:h.Ns a m)(k:∀b o,Ar h b=some o→h'.get? b=some o)(h1:a≠123)(h2:a≠184):h'.Ns a m:=nD hn fun o e=>k _ _ ((mP h1 h2)▸e)
theorem zE P:((K0 P).lookup 123).isNone=true∧((K0 P).lookup 184).isNone=true:=⟨kr,kr⟩
theorem Fo:VZ KK mainGlobals "law"=some (some (.ref 252)):=rfl
theorem B4(G:Ground q0 k9 r8.row.toRowW.records (fun m h=>m=mg∧XL q0 [] m h) w xz mg mb h)(Y:gB.says w h)(I:Ar h=bo):Base:=by
 refine⟨fun a o e=> ?_,⟨fun h' k=>u4 G.T.g (I▸k) dc dc,fun h' k=>⟨mb,u4 G.T.b (I▸k) dc dc,G.T.builtins⟩,fun h' k=> ?_,fun h' k=> ?_⟩, ?_,fun h' k=> ?_⟩
 all_goals rw[←I] at*
 ·have h1:a≠123:=fun q=>by subst q;have:=(zE w.params).1;cases(e)▸this
  have h2:a≠184:=fun q=>by subst q;have:=(zE w.params).2;cases(e)▸this
  exact(mP h1 h2)▸(km_in_of Y) _ _ e
 ·obtain⟨mc,hn,r⟩:=G.T.nolimit;exact⟨mc,u4 hn k dc dc,r⟩
 ·obtain⟨mc,hn,r⟩:=G.T.nodigits;exact⟨mc,u4 hn k dc dc,r⟩
 ·obtain⟨mm,hn,_⟩:=(G.T.seer rfl).mods;obtain⟨o,es,ep,ho,_⟩:=hn;exact⟨o,by exact J (mP dc dc) ho⟩
 ·obtain⟨bm,ob,e1,e2,e3,e4,e5,e6⟩:=G.T.bmain;have n1:bm≠123:=fun q=>by subst q;rw[(X1 Y 123 dc)] at e3;cases e3;cases e4
  have n2:bm≠184:=fun q=>by subst q;replace e3:=((X1 Y 184 dc))▸e3;cases e3;cases e4
  have n3:bm≠mainGlobals:=fun q=>by
   subst q;obtain⟨o,es,ep,ho,hd,_⟩:=G.T.g;cases ho.symm.trans e3;cases hd.symm.trans e6
  exact⟨bm,ob,e1,e2,n3,n1,k _ _ ((mP n1 n2)▸e3),e4,e5,e6⟩
theorem B5:∀{args},aal R args [.list .int]=true→∃ds,args=[.list ds]∧ZM R ds .int=true:=by
 intro args h;cases args with
 |nil=>cases h
 |cons d r=>
  have h:(Zi R d (.list .int)&&aal R r [])=true:=h;rw[Q5] at h;cases r with
  |cons e r=>exact absurd h.2 Ry
  |nil=>
   have h:=h.1;cases d with
   |list ds=>exact⟨ds,rfl,(Wi _ _).mp h|>.elim (fun h=>h) fun h=>absurd h Ry⟩
   |_=>exact absurd h Ry
theorem ints_of:∀{ds}{vs},ZM R ds .int=true→WellAll P h vs ds→∃xs:List Int,ds.length=xs.length∧aj W (xs.map V.int) vs:=by
 intro ds
 induction ds with
 |nil=>intro vs _ hw;cases hw;exact⟨[],rfl,rfl⟩
 |cons d ds ih=>
  intro vs hi hw;have hi:=hi;replace hi:=(Q5 ..)▸hi;cases hw with
  |cons hw hr=>
   obtain⟨xs,e,r⟩:=ih hi.2 hr;cases hw with
   |int i t=>exact⟨i::xs,congrArg (·+1) e,_,_,rfl,⟨t,rfl⟩,r⟩
   |_=>exact absurd hi.1 Ry
theorem B6(h:r8.row.toRowW.pre.holds r8.row.toRowW.records {args:=[.list ds]}=true):ds.length≤63:=by
 have e:r8.row.toRowW.pre.holds r8.row.toRowW.records {args:=[.list ds]}= !(decide (63<(ds.length:Int))):=by
  show YY _ (.and (.not (.lt (.lit (.int 63)) (.len (.arg 0)))) (.lit (.bool true))) _=_;simp[YY,WTm.value];refine J (show less? (WData.int 63) (WData.int ds.length)=some (decide (63<(ds.length:Int))) from rfl) ?_;cases decide (63<(ds.length:Int))<;>rfl
 rw[e] at h;simp at h;lia
theorem zF(B:Base)(Y:gB.says w ch.heap)(I:Ar ch.heap=bo)(hg:ch.gens=#[]){xs}{vs}(hv:aj ⟨[123],bo,fun _=>none⟩ [.lst (xs.map V.int)] vs)(hl:xs.length≤63)(O:rg xs)(Fa:QZ (f3 xs).text=true)
  {Q E} (q:∀s',OldK ch.heap s'.heap→s'.os=ch.os→aab s'.gens→Q (.bool true) s'):wpAny (model pw w) callerA (call (.ref 252) vs) Q E ch:=by
 have hk:=km_in_of Y;have t1:=X1 Y 123 dc;have t2:=X1 Y 184 dc;have S:Fi ⟨[123],bo,fun _=>none⟩ [some J2] ch:=by
  refine⟨fun a o e=> ?_,fun _ _ e=>e,dc,rfl,fun a m=> ?_,fun i ob e=> ?_, ?_,Sh _,fun _ _ e=>by cases e⟩
  ·rw[←I] at e;exact rh e
  ·exact J (QV.mp m) ((t1▸nofun))
  ·match i,e with
   |0,e=>cases e;exact⟨123,rfl,(show bo 123=none by exact I▸if_pos (.inl rfl)),rfl,#[],t1, .inl rfl⟩
   |i+1,e=>cases e
  ·exact hg▸fun i hi=>absurd hi (by simp)
 refine Ri (CC.Mw (HR B) B.rU.nolimit HS (Binds.b1 B HT) (by simp) (fun x hx=> ?_) (w9 B O (eG hl) (zD (n:=0) B O Fa)) (⟨rfl,dc,dc⟩) S hv t2 (fun q=>absurd (QV.mp q) dc) (show bo 184=none by refine aO I ?_;exact if_pos (Or.inr rfl)) fun v s' W' G' S' r=> ?_) (fun _ _ h=>h) fun _ _ e=>e.elim
 ·have:([("script":Rj)].all fun x=>((fdOf 252).scope.names.lookup x==some .local||(fdOf 252).scope.names.lookup x==some .cell))=true:=rfl;have:=R8.mp this x hx;simpa using this
 ·cases r;refine q s' ⟨fun b o e=> ?_,fun b o e=> ?_⟩ G'.os S'.bare
  ·by_cases h1:b=123
   ·subst h1;obtain⟨c,hc,hd,_⟩:=oQ;rw[t1] at e;cases e;obtain⟨a,ha,_,I6⟩:=S'.live 0 J2 rfl;obtain⟨rfl,ps,i8,_⟩:=I6;exact .inr (.inl ⟨((YG hk hd).tab t1).isCodeTable,rfl,#[],ps,rfl,by simpa using i8⟩)
   ·by_cases h2:b=184
    ·subst h2;obtain⟨c,hc,hd⟩:=uX;rw[t2] at e;cases e;obtain⟨a,ha,_,I6⟩:=S'.live _ J3 (tZ xs);obtain⟨rfl,ps,i8,_⟩:=I6;exact .inr (.inl ⟨((YG hk hd).tab t2).isCodeTable,rfl,#[],ps,rfl,by simpa using i8⟩)
    ·exact .inl (G'.heap b o e (by simpa using h1) h2)
  ·by_cases h2:b=184
   ·subst h2;refine QK fun kG=> ?_;obtain⟨a,ha,_,I6⟩:=S'.live _ J3 (tZ xs);obtain⟨rfl,ps,i8,_⟩:=I6;exact kG (⟨_,i8⟩)
   ·cases e2:s'.heap.get? b with
    |none=>exact absurd e2 ((G'.there b (e▸nofun)) h2)
    |some o'=>exact⟨o',rfl⟩
theorem xc(h:∀xs,xs.length≤63→rg xs∧QZ (f3 xs).text=true):r8.Holds:=good fun v xz ch m mb G Y a o pm cd doc dV kV ha hd QI QJ hm hg args vals as pX P9 My I7 sL=>by
 obtain⟨rfl,I,Y⟩:=Y;change Ar ch.heap=bo at I;obtain rfl:=G.X.1;have B:=B4 G Y I;have ha:a=252:=by
  have e:=nN B (fun a o e=>rh (I▸e)) Fo;cases e.symm.trans hm;rfl
 subst ha;have pX:=pX;replace pX:=(Q5 ..)▸pX;obtain⟨ds,rfl,hi⟩:=B5 pX.1;have hl:=B6 pX.2;cases I7 with
 |cons hw hn=>
  cases hn;cases hw with
  |list N5 Mz=>
   rename_i la us;have nn:∀b,b=123∨b=184→la≠b:=fun b hb q=>by
    subst q;have:=X1 Y la (by rcases hb with rfl|rfl<;>decide);cases this.symm.trans N5
   refine QK fun kG=> ?_;obtain⟨xs,el,rx⟩:=ints_of hi Mz;refine kG ?_;have hs:=Rv;refine zF B Y I hg ⟨_,[],rfl,⟨la,us,0,rfl, ?_,rx,by refine J (QP ..) ?_;lia⟩,rfl⟩ (by lia) (h xs (by lia)).1 (h xs (by lia)).2 fun s' h1 h2 h3=>⟨.inl ⟨.bool true, .bool true,[],rfl,fun _=>rfl, .bool true, ?_,fun _=>⟨SE,fun _ hm=>absurd hm Rb⟩⟩,h1,h2,h3⟩
   ·exact I▸(mP (nn _ (.inl rfl)) (nn _ (.inr rfl))).trans N5
   ·show(Zi r8.row.toRowW.records (.bool true) .bool&&YY _ (.eq .res (.lit (.bool true))) _)=true;simp[Zi,WShape.arms,YY,WTm.value,same]
open PySem PySem.W PyProof.Rows PySem.StrLaws PySem.Builtin PySem.Builtin.Str
noncomputable abbrev sl(x:Rj):List Nat:=x.cps.toList
noncomputable abbrev ls(l:List Nat):Rj:=⟨l.toArray⟩
theorem I8 l:sl (ls l)=l:=rfl
theorem DQ x:ls (sl x)=x:=Rj.ext' rfl
theorem dz(h:sl x=sl y):x=y:=by rw[←DQ x,←DQ y,h]
theorem aM(x y:Rj):sl (x++y)=sl x++sl y:=by show(x.cps++y.cps).toList=_;simp
theorem ap x:(sl x).length=x.length:=rfl
noncomputable def t7(s t:List Nat):Nat→List Nat→List Nat
 |_,[]=>[]
 |0,x::xs=>if s.isPrefixOf (x::xs) then t++t7 s t (s.length-1) xs else x::t7 s t 0 xs
 |k+1,_::xs=>t7 s t k xs
noncomputable abbrev rep(s t l:List Nat):List Nat:=t7 s t 0 l
theorem xd(s t:List Nat):∀k l,t7 s t k l=t7 s t 0 (l.drop k):=by
 intro k
 induction k with
 |zero=>intro l;rfl
 |succ k ih=>intro l;cases l with
  |nil=>rfl
  |cons x l=>exact ih l
theorem pg(hs:s≠[]):rep s t (s++l)=t++rep s t l:=by
 cases s with
 |nil=>exact absurd rfl hs
 |cons c s=>
  show(if(c::s).isPrefixOf (c::(s++l)) then t++t7 _ t ((c::s).length-1) (s++l) else _)=_;rw[if_pos (by rw[Ye];exact⟨l,rfl⟩),xd,Rn,UY,T7]
theorem gW{s t l}{x}(h:¬s<+:x::l):rep s t (x::l)=x::rep s t l:=by
 show(if _ then _ else _)=_;rw[if_neg];rwa [Ye]
theorem t9:Y7 x y x.length k↔k+y.length≤x.length∧sl y<+:(sl x).drop k:=by
 refine and_congr_right fun h=> ?_;rw[subAt_eq,beq_iff_eq];constructor
 ·intro e;show y.cps.toList<+:_;exact e▸List.take_prefix _ _
 ·rintro⟨r,e⟩;rw[←e,←ap,VK]
theorem ri:∀(m a:Nat),a+m≤x.length→(∀k,a≤k→k<a+m→¬Y7 x y x.length k)→rep (sl y) t ((sl x).drop a)=((sl x).drop a).take m++rep (sl y) t ((sl x).drop (a+m)):=by
 intro m
 induction m with
 |zero=>intro a _ _;rfl
 |succ m ih=>
  intro a hz h;have hl:a<(sl x).length:=J (ap ..) ((ui hz));rw[Sf hl,List.take_succ_cons,gW,ih (a+1) (ik hz) (fun k h1 h2=>h k (lb h1) (ao h2 (ik (QM _)))),show a+1+m=a+(m+1) by exact Ke]
  ·rfl
  ·intro hp;rw[←Sf hl] at hp;refine h a (QM _) (MS (gh (QM _))) (t9.mpr ⟨?_,hp⟩);have:=hp.length_le;rw[Vp,ap,ap] at this;lia
theorem ph x(a c:Nat):sl (strSub x a c)=((sl x).drop a).take (c-a):=strSub_toList x a c
theorem zG(x y z:Rj)(hy:y.length≠0):∀eS(a f:Nat),ChainG x y x.length a eS f→(∀k,f≤k→¬Y7 x y x.length k)→a≤x.length→sl (XN z (partsFrom x y.length a eS))=rep (sl y) (sl z) ((sl x).drop a):=by
 intro rv
 induction rv with
 |nil=>
  intro a f h hn ha;subst h;rw[(ri (x.length-f) f (vy (bC (Jw ha))) (fun k h1 _=>hn k h1)),show(sl x).drop (f+(x.length-f))=[] from Wa (by rw[ap];lia)];show sl (strSub x f x.length)=_++[];rw[ph,Ra]
 |cons c r ih=>
  intro a f h hn ha;refine QK fun kG=> ?_;have hb:=(t9.mp h.2.1).1;have ih:=ih (c+y.length) f h.2.2.2 hn hb;obtain⟨p,q,e⟩:=partsFrom_ne x y.length (c+y.length) r;refine kG ?_;show sl (XN z (strSub x a c::partsFrom x y.length (c+y.length) r))=_;rw[e] at ih⊢;show sl (strSub x a c++z++XN z (p::q))=_;rw[aM,aM,ih,ph,(ri (c-a) a (by lia) (fun k k1 k2=>h.2.2.1 k k1 (ao k2 (vy (bC (Jw h.1)))))),show a+(c-a)=c by exact r9 (vy (bC (Jw h.1))) (Js (bC (MQ h.1))),Rm];congr 1;obtain⟨l,el⟩:=(t9.mp h.2.1).2;refine aO el (J (pg (by intro q;have:=ap y;rw[q] at this;exact hy this.symm)) ?_);rw[(show(sl x).drop (c+y.length)=l by rw[←aaJ,←el,←ap,T7])]
theorem bd(x y z:Rj)(hy:y.length≠0):sl (Sb x y z)=rep (sl y) (sl z) (sl x):=by
 obtain⟨f,h,hn⟩:=occ_tight x y (MR (Oj hy));have:=zG x y z hy _ 0 f h hn (Rr _);refine aO this ?_
 delta Sb
 refine bl (fun _=> ?_) fun _=> ?_
 ·rename_i hc;have:(occurrences x y 0 x.length (x.length+1))=[]:=by
   rcases Wi _ _▸hc with q|q
   ·simpa using q
   ·rw[Q5,beq_iff_eq] at q;exact absurd q.1 hy
  refine J this ?_;show _=sl (strSub x 0 x.length);rw[sub_whole]
 ·rw[glued_eq_join,partsBetween_eq]
theorem gf x c:SS x ⟨#[c]⟩=decide (c∈sl x):=found_one x c
theorem B7:∀l,rep [c] t l=l.flatMap fun d=>if d=c then t else [d]:=by
 intro l
 induction l with
 |nil=>rfl
 |cons d l ih=>
  refine J Sz ?_;by_cases h:d=c
  ·subst h;exact J (if_pos rfl) (aO ih ((pg (SH _ _))))
  ·rw[if_neg h,←ih,gW];·rfl
   ·rintro⟨r,e⟩;cases e;exact h rfl
noncomputable def word(v:List Nat):List Nat:=38::v++[59]
theorem nv(h:v≠v')(h1:59∉v)(h2:59∉v')(h3:38∉v'):rep (word v) t (word v'++l)=word v'++rep (word v) t l:=by
 have pass:∀(a b:List Nat),38∉a→rep (word v) t (a++b)=a++rep (word v) t b:=by
  intro a
  induction a with
  |nil=>intro b _;rfl
  |cons c a ih=>
   intro b hc;rw[QX,not_or] at hc;rw[SV,gW,ih b hc.2,SV];rintro⟨r,e⟩
   delta word at e
   exact hc.1 (Ux e).1
 show rep (word v) t (38::(v'++[59]++l))=38::(v'++[59]++_);rw[gW,pass _ _ (by simp[h3])];rintro⟨r,e⟩
 delta word at e
 rw[SV,SV] at e;have e:=(Ux e).2;rw[Rm,Rm] at e;exact h (by
  have key:∀(a b p q:List Nat),59∉a→59∉b→a++([59]++p)=b++([59]++q)→a=b:=by
   intro a
   induction a with
   |nil=>intro b p q _ hb e;cases b with
    |nil=>rfl
    |cons d b=>simp at e;exact absurd e.1 (by intro q;exact hb (by simp[←q]))
   |cons c a ih=>intro b p q ha hb e;cases b with
    |nil=>simp at e;exact absurd e.1 (by intro q;exact ha (by simp[q]))
    |cons d b=>
     rw[QX,not_or] at ha hb;simp only[SV,TG] at e;rw[e.1,ih b p q ha.2 hb.2 e.2]
  exact key v v' r l h1 h2 e)
theorem nw{c}(h:c≠38):rep (word v) t (c::l)=c::rep (word v) t l:=gW (by
 rintro⟨r,e⟩
 delta word at e
 exact h (Ux e).1.symm)
noncomputable def fT(T:List (Nat×List Nat))(c:Nat):List Nat:=match T.lookup c with
 |some v=>word v
 |none=>[c]
structure I9(T:List (Nat×List Nat)):Prop where
 good:∀p∈T,59∉p.2∧38∉p.2
 Qa:(T.map (·.1)).Nodup
 Qb:(T.map (·.2)).Nodup
theorem rj(h:word v=word v'):v=v':=by
 delta word at h
 exact VY (Ux h).2
theorem rm v:2≤(word v).length:=by simp[word]
theorem zH(hv:59∉v){f}:∀l:List Nat,(∀c∈l,(∃d,f c=[d]∧d≠38)∨∃v',f c=word v'∧59∉v'∧38∉v')→rep (word v) t (l.flatMap f)=l.flatMap fun c=>if f c=word v then t else f c:=by
 intro l
 induction l with
 |nil=>intro _;rfl
 |cons c l ih=>
  intro h;have ih:=ih fun d hd=>h d (QQ _ hd);refine J Sz (J Sz ?_);rcases h c QR with⟨d,e,hd⟩|⟨v',e,h1,h2⟩
  ·rw[if_neg (by rw[e];intro q;have:=rm v;rw[←q] at this;simp at this),e,←ih];exact nw hd
  ·by_cases MA:v'=v
   ·subst MA;exact J (if_pos e) (J e (aO ih ((pg (by simp[word])))))
   ·exact J (if_neg (e▸fun q=>MA (rj q))) (J e (aO ih ((nv (fun q=>MA q.symm) hv h1 h2))))
theorem dR{c0}{v}(ok:I9 ((c0,v)::T))(Qc:38∈((c0,v)::T).map (·.1))(l:List Nat):rep (word v) [c0] (l.flatMap (fT ((c0,v)::T)))=l.flatMap (fT T):=by
 have zI:∀(T:List (Nat×List Nat)) c u,T.lookup c=some u→(c,u)∈T:=by
  intro T
  induction T with
  |nil=>intro _ _ h;cases h
  |cons p T ih=>
   intro c u h;rw[RG] at h;split at h
   ·rename_i e;cases h;exact(beq_iff_eq.mp e)▸QR
   ·exact QQ _ (ih _ _ h)
 have Ja:∀(T:List (Nat×List Nat)) c,T.lookup c=none→c∉T.map (·.1):=by
  intro T
  induction T with
  |nil=>intro _ _ h;cases h
  |cons p T ih=>
   intro c h;rw[RG] at h;split at h
   ·cases h
   ·rename_i e;rw[Q8,QX,not_or];exact⟨fun q=>by subst q;simp at e,ih _ h⟩
 rw[zH (ok.good _ QR).1]
 ·congr 1;funext c
  delta fT
  by_cases hc:c=c0
  ·subst hc;have h0:T.lookup c=none:=by
    cases e:T.lookup c with
    |none=>rfl
    |some u=>
     have nd:=ok.Qa;rw[Q8,Sa] at nd;exact absurd (Tu (zI _ _ _ e)) nd.1
   refine J (RG ..) (J (beq_self_eq_true ..) (J (h0 ..) ?_));simp
  ·refine J RG (J (beq_eq_false_iff_ne.mpr hc) ?_);cases e:T.lookup c with
   |none=>
    rw[if_neg];intro q;have:=rm v;rw[←q] at this;simp at this
   |some u=>
    rw[if_neg];intro q;have nd:=ok.Qb;rw[Q8,Sa] at nd;exact nd.1 ((rj q)▸Tu (zI _ _ _ e))
 ·intro c _
  delta fT
  cases e:XY c ((c0,v)::T) with
  |none=>exact .inl ⟨c,rfl,fun q=>by subst q;exact Ja _ _ e Qc⟩
  |some u=>have:=ok.good _ (zI _ _ _ e);exact .inr ⟨u,rfl,this⟩
theorem zJ(l:List Nat):l.flatMap (fT [])=l:=by
 induction l with
 |nil=>rfl
 |cons c l ih=>refine J Sz (J ih ?_);rfl
theorem ro(x z:Rj) c:sl (ar x ⟨#[c]⟩ z)=(sl x).flatMap fun d=>if d=c then sl z else [d]:=by
 delta ar
 refine J (gf ..) (bl (fun _=> ?_) fun _=> ?_)
 ·rw[bd _ ⟨#[c]⟩ _ (show 1≠0 by decide),B7]
 ·rename_i h;have h:c∉sl x:=by simpa using h
  generalize sl x=l at h
  induction l with
  |nil=>rfl
  |cons d l ih=>
   rw[QX,not_or] at h;refine J Sz (J (if_neg (fun q=>h.1 q.symm)) (aO (ih h.2) ?_));rfl
noncomputable def tA:List (Nat×List Nat):=[(60,[108,116]),(34,[113,117,111,116]),(9,[35,120,57]),(10,[35,120,65]),(13,[35,120,68]),(38,[97,109,112])]
noncomputable def tC:List (Nat×List Nat):=[(60,[108,116]),(62,[103,116]),(13,[35,120,68]),(38,[97,109,112])]
theorem kY x:sl (d8 x)=(sl x).flatMap (fT tA):=by
 delta d8
 rw[show("&":Rj)=⟨#[38]⟩ from rfl,show("<":Rj)=⟨#[60]⟩ from rfl,show("\"":Rj)=⟨#[34]⟩ from rfl,show("\t":Rj)=⟨#[9]⟩ from rfl,show("\n":Rj)=⟨#[10]⟩ from rfl,show("\r":Rj)=⟨#[13]⟩ from rfl];simp only[ro,ZD];congr 1;funext c;by_cases h1:c=38
 ·subst h1;decide+kernel
 by_cases h2:c=60
 ·subst h2;decide+kernel
 by_cases h3:c=34
 ·subst h3;decide+kernel
 by_cases h4:c=9
 ·subst h4;decide+kernel
 by_cases h5:c=10
 ·subst h5;decide+kernel
 by_cases h6:c=13
 ·subst h6;decide+kernel
 have n:∀{a b:Nat},¬a=b→(a==b)=false:=fun h=>beq_eq_false_iff_ne.mpr h;simp[h1,h2,h3,h4,h5,h6,fT,tA,RG,n h1,n h2,n h3,n h4,n h5,n h6]
theorem jq x:sl (dW x)=(sl x).flatMap (fT tC):=by
 delta dW
 refine J (show("&":Rj)=⟨#[38]⟩ from rfl) (J (show("<":Rj)=⟨#[60]⟩ from rfl) (J (show(">":Rj)=⟨#[62]⟩ from rfl) (J (show("\r":Rj)=⟨#[13]⟩ from rfl) ?_)));simp only[ro,ZD];congr 1;funext c;by_cases h1:c=38
 ·subst h1;decide+kernel
 by_cases h2:c=60
 ·subst h2;decide+kernel
 by_cases h3:c=62
 ·subst h3;decide+kernel
 by_cases h4:c=13
 ·subst h4;decide+kernel
 have n:∀{a b:Nat},¬a=b→(a==b)=false:=fun h=>beq_eq_false_iff_ne.mpr h;simp[h1,h2,h3,h4,fT,tC,RG,n h1,n h2,n h3,n h4]
theorem ib{d}(hd:d∈T.map (·.1))(hw:∀p∈T,d∉word p.2):∀l:List Nat,d∉l.flatMap (fT T):=by
 have hl:∀T c,(∀p∈T,d∉word p.2)→d∈fT T c→d=c∧c∉T.map (·.1):=by
  intro T
  induction T with
  |nil=>intro c _ h;exact⟨QV.mp h,Rb⟩
  |cons p T ih=>
   intro c hw h
   delta fT at h
   rw[RG] at h;cases e:c==p.1 with
   |true=>rw[e] at h;exact absurd h (hw p QR)
   |false=>
    rw[e] at h;obtain⟨a,b⟩:=ih c (fun q hq=>hw q (QQ _ hq)) h;refine⟨a,fun m=> ?_⟩;rw[Q8,QX] at m;rcases m with m|m
    ·exact absurd m (beq_eq_false_iff_ne.mp e)
    ·exact b m
 intro l hm;obtain⟨c,_,hc⟩:=V5.mp hm;exact(hl T c hw hc).2 ((hl T c hw hc).1▸hd)
theorem mQ(h:∀r∈rs,SS y r.2=false):dp y ("&amp;","&") rs=fy y (rs++[(("&amp;":Rj),("&":Rj))]):=by
 delta dp
 rw[if_neg];intro q;obtain⟨r,hr,e⟩:=UB.mp q;replace e:=(h r hr)▸e;cases e
theorem n9 x:cA (d8 x)=x:=by
 have fr:∀d∈[60,34,9,10,13],d∉sl (d8 x):=fun d hd=>by
  refine J (kY ..) ?_;simp only[QX,Rb,or_false] at hd;rcases hd with rfl|rfl|rfl|rfl|rfl<;>exact ib dc dc _
 delta cA
 rw[mQ]
 ·apply dz;show sl (Sb (Sb (Sb (Sb (Sb (Sb (d8 x) "&lt;" "<") "&quot;" "\"") "&#x9;" "\t") "&#xA;" "\n") "&#xD;" "\r") "&amp;" "&")=_;rw[bd _ _ _ dc,bd _ _ _ dc,bd _ _ _ dc,bd _ _ _ dc,bd _ _ _ dc,bd _ _ _ dc,kY];show rep (word [97,109,112]) [38] (rep (word [35,120,68]) [13] (rep (word [35,120,65]) [10] (rep (word [35,120,57]) [9] (rep (word [113,117,111,116]) [34] (rep (word [108,116]) [60] _)))))=_
  delta tA
  rw[dR ⟨dc,dc,dc⟩ dc,dR ⟨dc,dc,dc⟩ dc,dR ⟨dc,dc,dc⟩ dc,dR ⟨dc,dc,dc⟩ dc,dR ⟨dc,dc,dc⟩ dc,dR ⟨dc,dc,dc⟩ dc,zJ]
 ·intro r hr;have key:∀d∈[60,34,9,10,13],SS (d8 x) ⟨#[d]⟩=false:=fun d hd=>by exact J (gf ..) ((decide_eq_false (fr d hd)))
  simp only[Dv,QX,Rb,or_false] at hr;rcases hr with rfl|rfl|rfl|rfl|rfl
  ·exact key 60 dc
  ·exact key 34 dc
  ·exact key 9 dc
  ·exact key 10 dc
  ·exact key 13 dc
theorem rz x:eC (dW x)=x:=by
 have fr:∀d∈[60,62,13],d∉sl (dW x):=fun d hd=>by
  refine J (jq ..) ?_;simp only[QX,Rb,or_false] at hd;rcases hd with rfl|rfl|rfl<;>exact ib dc dc _
 delta eC
 rw[mQ]
 ·apply dz;show sl (Sb (Sb (Sb (Sb (dW x) "&lt;" "<") "&gt;" ">") "&#xD;" "\r") "&amp;" "&")=_;rw[bd _ _ _ dc,bd _ _ _ dc,bd _ _ _ dc,bd _ _ _ dc,jq];show rep (word [97,109,112]) [38] (rep (word [35,120,68]) [13] (rep (word [103,116]) [62] (rep (word [108,116]) [60] _)))=_
  delta tC
  rw[dR ⟨dc,dc,dc⟩ dc,dR ⟨dc,dc,dc⟩ dc,dR ⟨dc,dc,dc⟩ dc,dR ⟨dc,dc,dc⟩ dc,zJ]
 ·intro r hr;have key:∀d∈[60,62,13],SS (dW x) ⟨#[d]⟩=false:=fun d hd=>by exact J (gf ..) ((decide_eq_false (fr d hd)))
  simp only[Dw,QX,Rb,or_false] at hr;rcases hr with rfl|rfl|rfl
  ·exact key 60 dc
  ·exact key 62 dc
  ·exact key 13 dc
noncomputable def jn(c:Nat):List (List Nat)→List Nat
 |[]=>[]
 |[x]=>x
 |x::y::r=>x++c::jn c (y::r)
theorem pi c:∀ps,sl (XN ⟨#[c]⟩ ps)=jn c (ps.map sl)
 |[]=>rfl
 |[x]=>rfl
 |x::y::r=>by
  refine J (aM ..) (J (aM ..) (J (pi c (y::r)) (J (Rm ..) ?_)));rfl
theorem u5 c x{r}(h:r≠[]):jn c (x::r)=x++c::jn c r:=by
 cases r with
 |nil=>exact absurd rfl h
 |cons y r=>rfl
theorem pj:∀{x y a b:List Nat},c∉x→c∉y→x++c::a=y++c::b→x=y∧a=b:=by
 intro x
 induction x with
 |nil=>intro y a b _ hy e;cases y with
  |nil=>exact⟨rfl,by simpa using e⟩
  |cons d y=>simp at e;exact absurd e.1 (by intro q;exact hy (by simp[q]))
 |cons d x ih=>intro y a b hx hy e;cases y with
  |nil=>simp at e;exact absurd e.1 (by intro q;exact hx (by simp[q]))
  |cons d' y=>
   rw[QX,not_or] at hx hy;simp only[SV,TG] at e;exact⟨by rw[e.1,(ih hx.2 hy.2 e.2).1],(ih hx.2 hy.2 e.2).2⟩
theorem Fp:∀{p q},p≠[]→q≠[]→(∀x∈p,c∉x)→(∀x∈q,c∉x)→jn c p=jn c q→p=q:=by
 intro p
 induction p with
 |nil=>intro q h;exact absurd rfl h
 |cons x p ih=>
  intro q _ hq hp J4 e;cases q with
  |nil=>exact absurd rfl hq
  |cons y q=>
   have hx:=hp x QR;have hy:=J4 y QR;cases p with
   |nil=>
    cases q with
    |nil=>have e:x=y:=e;rw[e]
    |cons z q=>
     have e:x=y++c::jn c (z::q):=e;rw[e] at hx;simp at hx
   |cons w p=>
    cases q with
    |nil=>
     have e:x++c::jn c (w::p)=y:=e;rw[←e] at hy;simp at hy
    |cons z q=>
     rw[(pj hx hy (e)).1,ih (SH _ _) (SH _ _) (fun a ha=>hp a (QQ _ ha)) (fun a ha=>J4 a (QQ _ ha)) (pj hx hy (e)).2]
theorem cP(h:sl x=jn c (ps.map sl))(hn:ps≠[])(hf:∀p∈ps,c∉sl p):RP x ⟨#[c]⟩=ps:=by
 have aU:RP x ⟨#[c]⟩≠[]:=by
  delta RP
  refine bl (fun _=> ?_) fun _=> ?_
  ·simp
  ·refine bl (fun _=> ?_) fun _=> ?_
   ·simp
   ·refine J (partsBetween_eq ..) ?_;obtain⟨p,r,e⟩:=partsFrom_ne x (⟨#[c]⟩:Rj).length 0 (occurrences x ⟨#[c]⟩ 0 x.length (x.length+1));refine J e ?_;simp
 have key:∀{a b:List Rj},a.map sl=b.map sl→a=b:=by
  intro a
  induction a with
  |nil=>intro b e;cases b with
   |nil=>rfl
   |cons _ _=>cases e
  |cons x a ih=>intro b e;cases b with
   |nil=>cases e
   |cons y b=>simp only[Q8,TG] at e;rw[dz e.1,ih e.2]
 exact key (Fp (by simpa using aU) (by simpa using hn) (fun a ha=>by obtain⟨p,hp,rfl⟩:=Q4.mp ha;exact split_free x c p hp) (fun a ha=>by obtain⟨p,hp,rfl⟩:=Q4.mp ha;exact hf p hp) (by rw[←pi,(join_split x ⟨#[c]⟩),h]))
theorem dA:∀ps,sl (R9 "" ps)=(ps.map sl).flatten:=by
 intro ps;show sl (glued "" ps)=_;refine J (glued_eq_join ..) ?_
 induction ps with
 |nil=>rfl
 |cons x r ih=>
  cases r with
  |nil=>show sl x=sl x++[];simp
  |cons y r=>
   show sl (x++""++XN "" (y::r))=sl x++_;rw[aM,aM,ih];show sl x++[]++_=_;rw[Ra]
theorem Jb u n:strSliceIndices none u 1 n=strSliceIndices (some ((0:Nat):Int)) u 1 n:=by
 delta strSliceIndices
 rfl
theorem Jc l n:strSliceIndices l none 1 n=strSliceIndices l (some n) 1 n:=by
 simp only[strSliceIndices];simp[FU]
theorem B8 l n:strSliceIndices l (some (-1)) 1 (n+1)=strSliceIndices l (some n) 1 (n+1):=by
 simp only[strSliceIndices];have h1:¬((n:Int)<0):=FU;simp only[show((-1:Int)<0)=True from by decide,if_true,h1,if_false,(show max 0 (min (-1+((n+1:Nat):Int)) ((n+1:Nat):Int))=n by lia),(show max 0 (min (n:Int) ((n+1:Nat):Int))=n by lia),show((1:Int)>0)=True from by simp]
theorem jX{l u}{a b:Nat}(e:strSliceIndices l u 1 x.length=strSliceIndices (some a) (some b) 1 x.length)(nL:a≤b)(hb:b≤x.length):sl (SY x l u)=((sl x).drop a).take (b-a):=by
 delta SY
 refine J e (bl (fun _=> ?_) fun _=> ?_)
 ·rename_i h;replace h:=(strSliceIndices_plain nL hb)▸h;simp at h;have:a=0:=by lia
  subst this;rw[Vb,Su (by exact lg h)]
 ·exact sliced_plain x nL hb
theorem iQ{a:Nat}(h:a≤x.length):sl (SY x (some a) none)=(sl x).drop a:=by
 rw[jX (Jc _ _) h (QM _),Su (by rw[Vp,ap];exact QM _)]
theorem rA{b:Nat}(h:b≤x.length):sl (SY x none (some b))=(sl x).take b:=by
 rw[jX (Jb _ _) (Rr _) h,Vb,Xz]
theorem zK{c d}(h:sl x=c::m++[d]):sl (SY x (some 1) (some (-1)))=m:=by
 have hl:x.length=m.length+1+1:=by refine aO (ap ..) (J (h ..) ?_);simp
 refine J (jX (hl▸B8 _ _) (Gm (QM _)) (lb (lg hl))) (J h ?_);simp
theorem xe(x y:Rj):∀(l:List Nat),(forIn l ((#[]:Array Nat),x.length) (occRBody x y 1)).run.fst.toList=((l.find? fun k=>decide (x.length-k+y.length≤x.length)&&subAt x y (x.length-k)).map fun k=>x.length-k).toList:=by
 have stop:∀(l:List Nat)(a f:Nat),(forIn l ((#[a]:Array Nat),f) (occRBody x y 1)).run.fst.toList=[a]:=by
  intro l
  induction l with
  |nil=>intro a f;rfl
  |cons k l ih=>
   intro a f;refine J (UQ ..) ?_
   delta occRBody
   exact J (if_neg (by simp)) ((ih a f))
 intro l
 induction l with
 |nil=>rfl
 |cons k l ih=>
  refine J (UQ ..) (J (aar ..) ?_)
  delta occRBody
  by_cases h:(x.length-k+y.length≤x.length)∧subAt x y (x.length-k)=true
  ·rw[if_pos ⟨⟨by simp,h.1⟩,h.2⟩,show(decide (x.length-k+y.length≤x.length)&&subAt x y (x.length-k))=true by rw[h.2];simp[h.1]];exact stop l _ _
  ·rw[if_neg (fun q=>h ⟨q.1.2,q.2⟩),show(decide (x.length-k+y.length≤x.length)&&subAt x y (x.length-k))=false by
    by_cases q:x.length-k+y.length≤x.length
    ·have:subAt x y (x.length-k)=false:=by cases e:subAt x y (x.length-k) with
      |true=>exact absurd ⟨q,e⟩ h
      |false=>rfl
     rw[this,Wy]
    ·simp[q]]
   exact ih
theorem rC{c}(h:sl x=sl u++c::sl t)(ht:c∉sl t):TY x ⟨#[c]⟩ 1=[u,t]:=by
 have hn:x.length=u.length+1+t.length:=by rw[←ap,h,QS,Rn,ap,ap];exact UZ u.length t.length 1
 have ho:occurrencesFromRight x ⟨#[c]⟩ 1=[u.length]:=by
  refine J (occR_eq ..) (J (xe ..) ?_);have AF:∀k,(decide (x.length-k+(⟨#[c]⟩:Rj).length≤x.length)&&subAt x ⟨#[c]⟩ (x.length-k))=true↔(sl x)[x.length-k]?=some c:=fun k=>by
   exact J (Q5 ..) (J (decide_eq_true_eq ..) ((subAt_one x c (x.length-k))))
  have:(List.range' 0 (x.length+1)).find? (fun k=>decide (x.length-k+(⟨#[c]⟩:Rj).length≤x.length)&&subAt x ⟨#[c]⟩ (x.length-k))=some (t.length+1):=by
   rw[List.find?_range'_eq_some];refine⟨?_, ?_,fun j _ hj=> ?_⟩
   ·rw[AF,h,hn,Rh (by rw[ap];lia),ap,show u.length+1+t.length-(t.length+1)-u.length=0 by exact r9 (Ju (Gm (Ju (ik (QM _))))) (Rr _)];rfl
   ·simp;exact Jx (Om (MS (Gm (QM _)))) (lg hn)
   ·rw[U7,←Z8,AF,h];intro e;by_cases j0:j=0
    ·subst j0;rw[R2 (by rw[←h,ap];exact bC rfl)] at e;cases e
    ·rw[Rh (by exact ML (ao (a9 (gh (QM _)) (Ok hj)) (lg hn))),ap,hn,show u.length+1+t.length-j-u.length=(t.length-j)+1 by lia,List.getElem?_cons_succ] at e;exact ht (RJ e)
  refine J this ?_;show [x.length-(t.length+1)].reverse=_;refine J hn (J (show u.length+1+t.length-(t.length+1)=u.length by exact MP Oi) ?_);rfl
 delta TY
 have hk:¬(decide (x.length<(⟨#[c]⟩:Rj).length)||decide (strKind x<strKind ⟨#[c]⟩))=true:=by
  refine J (Wi ..) (J (decide_eq_true_eq ..) (J (decide_eq_true_eq ..) ?_));rintro(q|q)
  ·have:(⟨#[c]⟩:Rj).length=1:=rfl;lia
  ·exact kind_free x c q (by show c∈sl x;refine J h ?_;simp)
 refine J (if_neg hk) (J (show limitOf x 1=1 from rfl) (J ho ?_));refine J (partsBetween_eq ..) ?_;show [strSub x 0 u.length,strSub x (u.length+1) x.length]=_;congr 1
 ·apply dz;rw[ph,h,Vb,Xz,←ap u,VK]
 ·congr 1;apply dz;rw[ph,h,←aaJ,←ap u,T7,Su (by exact Kd (lg hn))];rfl
theorem u7:∀{a b:List Nat},a≠b→decide (b<a)= !decide (a<b)
 |[],[],h=>absurd rfl h
 |[],_::_,_=>by refine J (lt_nil_cons ..) (J (lt_cons_nil ..) ?_);rfl
 |_::_,[],_=>by refine J (lt_nil_cons ..) (J (lt_cons_nil ..) ?_);rfl
 |x::a,y::b,h=>by
  refine J (lt_cons_cons ..) (J (lt_cons_cons ..) ?_);by_cases e:x=y
  ·subst e;simp[(u7 fun q=>h (congrArg _ q))]
  ·rcases Nat.lt_or_gt_of_ne e with q|q
   ·have q2:=Jt (CJ q);have q3:=beq_eq_false_iff_ne.mpr fun z=>e z.symm;simp[q,q2,q3]
   ·have q2:=Jt (CJ q);have q3:=beq_eq_false_iff_ne.mpr e;simp[q,q2,q3]
theorem u8(h:x≠y):Ax y x= !Ax x y:=u7 fun q=>h (dz q)
theorem u9:∀{a b},a≠b→j7 b a= !j7 a b
 |[],[],h=>absurd rfl h
 |[],_::_,_=>rfl
 |_::_,[],_=>rfl
 |x::a,y::b,h=>by
  rw[lS,lS];by_cases e:x=y
  ·subst e;exact J (if_pos rfl) (J (if_pos rfl) ((u9 fun q=>h (congrArg _ q))))
  ·exact J (if_neg (fun q=>e q.symm)) (J (if_neg e) ((u8 e)))
theorem Fq x:(kS x).length≤2:=by
 unfold kS Ue;refine bl (fun _=> ?_) fun _=> ?_
 ·simp
 ·refine bl (fun _=> ?_) fun _=> ?_
  ·simp
  ·refine J (Xr ..) ?_;have:=occ_length_le x "}" 0 x.length (limitOf x 1);exact adr this
theorem vc x:XN "}" (kS x)=x:=by
 unfold kS Ue;refine bl (fun _=> ?_) fun _=> ?_
 ·rfl
 ·refine bl (fun _=> ?_) fun _=> ?_
  ·rfl
  ·obtain⟨f,h⟩:=occ_chain x "}" (limitOf x 1);rw[partsBetween_eq,join_partsFrom x "}" _ 0 f h,sub_whole]
theorem Fs(h:x≠y):kS x≠kS y:=fun q=>h (aO (vc x) (aO (vc y) (J q rfl)))
theorem DR(h:sl q=123::(sl u++125::sl t))(ht:125∉sl t)(hu:u.length≤100)(MB:t.length≤100)(hx:u≠kD):QN q u t:=by
 have hl:q.length=u.length+t.length+2:=by rw[←ap q,h,Rn,QS,Rn,ap,ap];exact rfl
 refine⟨?_, ?_,by exact ao (bC hl) (ao (a9 (a9 hu MB) (QM _)) dc),by exact eG hu,by exact eG MB,hx⟩
 ·have:SY q none (some 1)="{":=dz (by refine J (show 1=((1:Nat):Int) from rfl) (J (rA (ao (Gm dc) (lg hl))) (J h ?_));rfl);exact this▸beq_self_eq_true _
 ·refine rC ?_ ht;refine J (show 1=((1:Nat):Int) from rfl) (J (iQ (ao (Gm dc) (lg hl))) (J h ?_));rfl
structure eE(x:Rj):Prop where
 ne:x≠""
 len:x.length≤19
 ok:QZ x=true
 Gh:10∉sl x
 nx:x≠kD
noncomputable def MC(x:Rj):Bool:=x.length !=0&&decide (x.length≤19)&&QZ x&&decide (10∉sl x)&&x !=kD
theorem Jd(h:MC x=true):eE x:=by
 simp only[MC,Q5,bne_iff_ne,decide_eq_true_eq] at h;exact⟨fun q=>h.1.1.1.1 (congrArg _ q),h.1.1.1.2,h.1.1.2,h.1.2,h.2⟩
noncomputable def B9(sg kd fi li:Nat):LF:=⟨mo fi,mr li,kg (nr sg) kd,if fi=0∧li=0 then(if kd=0 then "{<"++nr sg++">}" else kg (nr sg) kd) else mo fi++wy li++kg (nr sg) kd++")"⟩
theorem Ca:∀sg<4,∀kd<4,∀fi<3,∀li<3,((B9 sg kd fi li).nm==(B9 sg kd fi li).text&&MC (B9 sg kd fi li).text)=true:=by decide+kernel
theorem Cb d:∃sg kd fi li,sg<4∧kd<4∧fi<3∧li<3∧iM d=B9 sg kd fi li:=by
 refine⟨_,_,_,_,(ct (d.fdiv 36) (b:=4) dc).2,(ct (d.fdiv 9) dc).2,(ct d (b:=3) dc).2,(ct (d.fdiv 3) (b:=3) dc).2, ?_⟩;show LF.mk _ _ _ (if d.fmod 9=0 then _ else _)=LF.mk _ _ _ (if _ then _ else _);by_cases h:d.fmod 9=0
 ·refine J (if_pos h) (J (if_pos ((nine d).mp h)) ?_);rfl
 ·refine J (if_neg h) (J (if_neg (fun q=>h ((nine d).mpr q))) ?_);rfl
theorem pk d:(iM d).nm=(iM d).text∧eE (iM d).text:=by
 refine QK fun kG=> ?_;obtain⟨sg,kd,fi,li,h1,h2,h3,h4,e⟩:=Cb d;refine kG ?_;have:=Ca sg h1 kd h2 fi h3 li h4;rw[Q5,beq_iff_eq] at this;exact e▸⟨this.1,Jd this.2⟩
noncomputable abbrev kF(c N:Rj):Rj:=c++"\n"++N
theorem vd N:sl (cN N)=123::(sl N++125::sl "c"):=by
 delta cN;refine J (aM ..) (J (aM ..) ?_);show [123]++sl N++125::sl "c"=_;simp
theorem zL(c N:Rj):sl (AI c N)=123::(sl (kF c N)++125::sl "by"):=by
 unfold AI kF;simp only[aM];rfl
theorem Cc(c N:Rj):10∈sl (kF c N):=by simp only[aM];show 10∈sl c++[10]++sl N;simp
theorem ua(hc:eE c)(hN:eE N):(kF c N).length≤39:=by
 have:=hc.len;have:=hN.len;have e:("\n":Rj).length=1:=rfl
 delta kF;refine J (Q7 ..) (J (Q7 ..) ?_);lia
theorem rD(h:eE x):x≠kF c N:=fun q=>h.Gh (q▸Cc c N)
theorem Ft{c N c' N'}(hc:eE c)(pN:eE c')(h:kF c N=kF c' N'):c=c'∧N=N':=by
 have h:=congrArg sl h;simp only[aM,Rm] at h;exact⟨dz (pj hc.Gh pN.Gh (h)).1,dz (pj hc.Gh pN.Gh (h)).2⟩
theorem zM(c N:Rj):kF c N≠kD:=fun q=>by have:=Cc c N;rw[q] at this;exact absurd this dc
theorem Fu(h:eE N):QN (cN N) N "c":=DR (vd N) dc (QU h.len dc) dc h.nx
theorem Je(hc:eE c)(hN:eE N):QN (AI c N) (kF c N) "by":=DR (zL c N) dc (QU (ua hc hN) dc) dc (zM c N)
theorem DS(ok:∀m∈L,m.ok)(nd:(L.map (·.q)).Nodup)(l1:L≠[])(l2:L.length≤2):NS L where
 ok:=ok
 kl m _:=QU (Fq m.q) dc
 kp m hm p hp:=by
  exact ao (partMax_short hp) ((ok m hm).ql)
 NA x y e:=by
  rw[e] at nd;exact u9 (Fs fun q=>by subst q;simp at nd)
 nd:=nd
 l1:=l1
 l2:=l2
theorem Cd(h:eE N):Op (qM N) []:=
 ⟨DS (fun m hm=>by refine J (QV.mp hm) ?_;exact Fu h) (by simp) (SH _ _) (Sh _),fun m hm=>by refine J (QV.mp hm) ?_;exact QU h.len dc,fun _ h=>absurd h Rb,fun _ h=>absurd h Rb,by simp⟩
theorem Jf(hc:eE c)(hN:eE N):Op (qM N) [(⟨AI c N,kF c N,"by"⟩,c)]:=by
 have pI:10∈sl (AI c N):=J (zL ..) ((QQ _ (Rt _ (Cc c N))));have aU:cN N≠AI c N:=fun q=>by
  rw[←q,vd] at pI;simp only[QX,Q9] at pI;rcases pI with e|e|e|e
  ·cases e
  ·exact hN.Gh e
  ·cases e
  ·exact absurd e dc
 refine⟨DS (fun m hm=> ?_) (by simpa [qM] using aU) (SH _ _) (QM _),fun m hm=> ?_,fun a ha=> ?_,fun a ha=> ?_,by simp⟩
 ·rcases QX.mp hm with rfl|hm
  ·exact Fu hN
  ·exact J (QV.mp hm) ((Je hc hN))
 ·rcases QX.mp hm with rfl|hm
  ·exact QU hN.len dc
  ·exact(QV.mp hm)▸QU (ua hc hN) dc
 ·refine J (QV.mp ha) ?_;refine⟨QU hc.len dc, ?_⟩;intro q;have:=Cc c N;replace q:=(ap ..).symm▸q;have:=(Rs.mp q)▸this;cases this
 ·refine J (QV.mp ha) fun q=> ?_;rw[(show AI c N=spS from q)] at pI;exact absurd pI dc
noncomputable def atS(a:At):List Nat:=sl a.key++34::(sl a.v++[34])
structure Fv(a:At):Prop where
 p:34∉sl a.p∧58∉sl a.p
 l:34∉sl a.l∧58∉sl a.l
 v:34∉sl a.v
 lp:a.p.length≤100
 ll:a.l.length≤100
 lv:a.v.length≤1000
theorem gg(a:At):sl a.key=32::(sl a.p++58::sl a.l)++[61]:=by
 delta At.key;simp only[aM];show [32]++sl a.p++[58]++sl a.l++[61]=_;simp
theorem Fv.ok(h:Fv a):a.ok:=by
 refine⟨?_, ?_,h.lp,h.ll,h.lv⟩
 ·refine aO Ui ?_;show(sl a.key)[0]?=_;exact J (gg ..) rfl
 ·exact cP (c:=58) (zK (gg a)) (SH _ _) fun q hq=>by
   rcases QX.mp hq with rfl|hq
   ·exact h.p.2
   ·exact(QV.mp hq)▸h.l.2
theorem Ce as{T}(hT:T≠[]):jn 34 ((eS as T).map sl)=as.flatMap atS++jn 34 (T.map sl):=by
 induction as with
 |nil=>rfl
 |cons a as ih=>
  have aU:(eS as T).map sl≠[]:=by
   intro q;exact hT (Wb.mp (T0.mp q)).2
  refine J (u5 _ _ (SH _ _)) (J (u5 _ _ aU) (J ih (J Sz ?_)))
  delta atS;simp
theorem zN x c:RP x ⟨#[c]⟩≠[]:=fun q=>by have:=split_pos x ⟨#[c]⟩;rw[q] at this;exact absurd this dc
theorem zO(h:sl p=u++32::v)(hu:32∉u):∃js,occurrences p " " 0 p.length 1=u.length::js:=by
 have AF:(sl p)[u.length]?=some 32:=by refine J (h ..) (J (Rh (QM _)) (J (RU ..) ?_));rfl
 rcases occ_head p " " 1 (QM _) with⟨_,hn⟩|⟨i,r,e,hi,hn⟩
 ·exact absurd ((subAt_one p 32 u.length).mpr AF) (hn u.length)
 ·have hi:=(subAt_one p 32 i).mp hi;have:i=u.length:=by
   rcases Z2 i u.length with q|q|q
   ·have hi:(sl p)[i]?=some 32:=hi;rw[h,RC q] at hi;exact absurd (RJ hi) hu
   ·exact q
   ·exact absurd ((subAt_one p 32 u.length).mpr AF) (hn _ q)
  rw[this] at e;exact⟨r,e⟩
theorem Fw(hp:sl p=sl tag++(as.flatMap atS++62::sl rest))(h0:∃c u,sl tag=c::u∧c≠47)(K7:32∉sl tag)(ha:as≠[])(hg:∀a∈as,Fv a)(hl:as.length≤10)(hr:62∉sl rest)(lt:tag.length≤1000)(lr:rest.length≤9000):Mh p tag as rest:=by
 have hT:=zN (">"++rest) 34;have hlen:(">"++rest).length=rest.length+1:=J (Q7 ..) ((SK 1 _));have hs:sl (">"++rest)=62::sl rest:=J (aM ..) rfl;have rX:jn 34 ((RP (">"++rest) ⟨#[34]⟩).map sl)=62::sl rest:=by rw[←pi,join_split,hs]
 have Jg:∀q∈RP (">"++rest) ⟨#[34]⟩,q.length≤9001:=fun q hq=>by have:=part_short hq;exact ao this (ao (bC hlen) (adr lr))
 have K4:(RP (">"++rest) ⟨#[34]⟩).length≤9003:=by have:=split_le (">"++rest) ⟨#[34]⟩;exact ao this (adr (ao (bC hlen) (adr lr)))
 have qe:tag.length≤p.length:=aO (ap p) (J (hp ..) (J (QS ..) (J (ap ..) ((gh (QM _))))));obtain⟨c,u,hc,Qd⟩:=h0;obtain⟨a,GJ,rfl⟩:∃a GJ,as=a::GJ:=by cases as with
  |nil=>exact absurd rfl ha
  |cons a as=>exact⟨a,as,rfl⟩
 have JK:sl p=sl tag++32::(sl a.p++58::sl a.l++[61]++34::(sl a.v++[34])++GJ.flatMap atS++62::sl rest):=by
  refine J hp (J Sz ?_);delta atS;refine J (gg ..) ?_;rfl
 obtain⟨js,MD⟩:=zO JK K7;refine⟨⟨c, ?_,Qd⟩,⟨tag.length,js,by rw[MD,ap], ?_, ?_⟩, ?_, ?_, ?_, ?_,⟨?_, ?_⟩,lt,QU lr dc⟩
 ·refine aO Ui ?_;show(sl p)[0]?=_;refine J hp (J hc ?_);rfl
 ·apply dz;rw[rA qe,hp,←ap,VK]
 ·refine cP (c:=34) ?_ ?_ fun q hq=> ?_
  ·refine J (iQ qe) (J (hp ..) (aO (ap ..) (J (T7 ..) ?_)));show _=jn 34 ((eS (a::GJ) (RP (">"++rest) ⟨#[34]⟩)).map sl);rw[Ce _ hT,rX]
  ·intro q;exact hT (Wb.mp q).2
  ·rcases Q9.mp hq with hq|hq
   ·obtain⟨b,hb,hq⟩:=V5.mp hq;have g:=hg b hb;rcases QX.mp hq with rfl|hq
    ·refine J (gg ..) ?_;simp only[Q9,QX,not_or];exact⟨⟨dc,g.p.1,dc,g.l.1⟩,dc⟩
    ·exact(QV.mp hq)▸g.v
   ·exact split_free _ 34 q hq
 ·cases hS:RP (">"++rest) ⟨#[34]⟩ with
  |nil=>exact absurd hS hT
  |cons t T'=>
   refine⟨t,T',62,hS, ?_,dc⟩;replace rX:=hS▸rX;refine aO Ui ?_;show(sl t)[0]?=_;cases T' with
   |nil=>have rX:sl t=_:=rX;exact rX▸rfl
   |cons z Z=>
    have rX:sl t++34::jn 34 ((z::Z).map sl)=62::sl rest:=rX;cases fN:sl t with
    |nil=>rw[fN] at rX;simp at rX
    |cons d D=>rw[fN] at rX;simp at rX;exact rX.1▸rfl
 ·show glued "\"" _=_;exact J (glued_eq_join ..) ((join_split _ _))
 ·have:=split_weight (">"++rest) "\"" dc
  delta Xb
  refine J (joinTotal ..) (J ((show("\"":Rj).length=1 from rfl) ..) (J (Nat.mul_one ..) ?_));have:tooLong (((RP (">"++rest) "\"").map (·.length)).sum+(RP (">"++rest) "\"").length)=false:=by
   delta tooLong;exact Rv▸decide_eq_false (by lia)
  exact this▸rfl
 ·refine cP (c:=62) ?_ (SH _ _) fun q hq=> ?_
  ·exact hs▸rfl
  ·rcases QX.mp hq with rfl|hq
   ·decide
   ·exact(QV.mp hq)▸hr
 ·have:∀l:List At,(l.flatMap fun a=>[a.key,a.v]).length=2*l.length:=by
   intro l
   induction l with
   |nil=>rfl
   |cons x l ih=>refine J Sz (J QS (J ih ?_));simp;exact MM
  refine J (QS ..) (J (this ..) ?_);exact ao (a9 (nB hl) K4) dc
 ·intro q hq;rcases Q9.mp hq with hq|hq
  ·obtain⟨b,hb,hq⟩:=V5.mp hq;have g:=hg b hb;rcases QX.mp hq with rfl|hq
   ·have h1:=g.lp;have h2:=g.ll;refine aO (ap ..) (J (gg ..) ?_);simp only[QS,Rn,VB,ap];lia
   ·exact(QV.mp hq)▸QU g.lv dc
  ·exact QU (Jg q hq) dc
theorem Fy(hp:sl p=47::(sl tag++62::sl rest))(ht:62∉sl tag)(hr:62∉sl rest):p.cps[0]?=some 47∧RP (SY p (some 1) none) ">"=[tag,rest]:=by
 have hl:1≤p.length:=by refine aO (ap ..) (J (hp ..) ?_);simp
 refine⟨by refine aO Ui ?_;show(sl p)[0]?=_;refine J hp ?_;rfl, ?_⟩;refine cP (c:=62) ?_ (SH _ _) fun q hq=> ?_
 ·refine J (show 1=(1:Int) from rfl) (J (iQ hl) (J hp ?_));rfl
 ·rcases QX.mp hq with rfl|hq
  ·exact ht
  ·exact(QV.mp hq)▸hr
noncomputable def kq(c:Option Rj)(N:Rj):List (Nm×Rj):=match c with
 |some c=>[(⟨AI c N,kF c N,"by"⟩,c)]
 |none=>[]
noncomputable def gw(c:Option Rj)(N:Rj):List Nm:=qM N::(kq c N).map (·.1)
noncomputable def bg:List Rj→List (List Rj)
 |[]=>[]
 |N::L=>bg L++[news (bg L).flatten (c8 (gw L.head? N))]
noncomputable def bt:List Rj→List (Rj×Rj)
 |N::c::r=>(c,N)::bt (c::r)
 |_=>[]
theorem ic:∀L,(bg L).length=L.length
 |[]=>rfl
 |N::L=>by refine J QS (J (ic L) ?_);rfl
theorem mR:∀N Fl u,u∈news Fl N↔u∉Fl∧∃m∈N,m.uri=u:=by
 intro N
 induction N with
 |nil=>intro Fl u;exact⟨nofun,fun⟨_,_,h,_⟩=>nomatch h⟩
 |cons m N ih=>
  intro Fl u;rw[fH];refine bl (fun _=> ?_) fun _=> ?_
  ·rename_i h;rw[ih];constructor
   ·rintro⟨a,n,hn,e⟩;exact⟨a,n,QQ _ hn,e⟩
   ·rintro⟨a,n,hn,e⟩;rcases QX.mp hn with rfl|hn
    ·exact absurd (e▸h) a
    ·exact⟨a,n,hn,e⟩
  ·rename_i h;rw[QX,ih];constructor
   ·rintro(rfl|⟨a,n,hn,e⟩)
    ·exact⟨h,m,QR,rfl⟩
    ·exact⟨fun q=>a (Rt _ q),n,QQ _ hn,e⟩
   ·rintro⟨a,n,hn,e⟩;rcases QX.mp hn with rfl|hn
    ·exact .inl e.symm
    ·by_cases q:u=m.uri
     ·exact .inl q
     ·exact .inr ⟨fun z=>(Q9.mp z).elim a fun z=>q (QV.mp z),n,hn,e⟩
theorem mS:∀N Fl,(news Fl N).Nodup:=by
 intro N
 induction N with
 |nil=>intro Fl;exact SE
 |cons m N ih=>
  intro Fl;rw[fH];refine bl (fun _=> ?_) fun _=> ?_
  ·exact ih _
  ·exact Sa.mpr ⟨fun q=>((mR N _ _).mp q).1 (by simp),ih _⟩
theorem rE:(∃m∈c8 (gw c N),m.uri=u)↔u=N∨∃b,c=some b∧u=kF b N:=by
 rw[(show(∃m∈c8 (gw c N),m.uri=u)↔∃m∈gw c N,m.uri=u from⟨fun⟨m,hm,e⟩=>⟨m,(dJ _).mem_iff.mp hm,e⟩,fun⟨m,hm,e⟩=>⟨m,(dJ _).mem_iff.mpr hm,e⟩⟩)];cases c with
 |none=>
  constructor
  ·rintro⟨m,hm,e⟩;rw[QV.mp hm] at e;exact .inl e.symm
  ·rintro(rfl|⟨b,e,_⟩)
   ·exact⟨_,QV.mpr rfl,rfl⟩
   ·cases e
 |some c=>
  constructor
  ·rintro⟨m,hm,e⟩;rcases QX.mp hm with rfl|hm
   ·exact .inl e.symm
   ·rw[QV.mp hm] at e;exact .inr ⟨c,rfl,e.symm⟩
  ·rintro(rfl|⟨b,e,rfl⟩)
   ·exact⟨_,QR,rfl⟩
   ·cases e;exact⟨_,QQ _ (QV.mpr rfl),rfl⟩
theorem jr:∀L u,u∈(bg L).flatten↔u∈L∨∃s∈bt L,u=kF s.1 s.2:=by
 intro L
 induction L with
 |nil=>exact fun u=>⟨fun h=>absurd h Rb,fun h=>h.elim (fun h=>absurd h Rb) fun h=>absurd h.choose_spec.1 Rb⟩
 |cons N L ih=>
  intro u;show u∈(bg L++[_]).flatten↔_;rw[Sx,Q9,show [news (bg L).flatten (c8 (gw L.head? N))].flatten=news (bg L).flatten (c8 (gw L.head? N)) by simp,mR,rE];have fN:∀u,(∃s∈bt (N::L),u=kF s.1 s.2)↔(∃b,L.head?=some b∧u=kF b N)∨∃s∈bt L,u=kF s.1 s.2:=by
   intro u;cases L with
   |nil=>exact⟨fun h=>absurd h.choose_spec.1 Rb,fun h=>h.elim (fun h=>by cases h.choose_spec.1) fun h=>absurd h.choose_spec.1 Rb⟩
   |cons c r=>
    constructor
    ·rintro⟨s,hs,e⟩;rcases QX.mp hs with rfl|hs
     ·exact .inl ⟨c,rfl,e⟩
     ·exact .inr ⟨s,hs,e⟩
    ·rintro(⟨b,e,q⟩|⟨s,hs,e⟩)
     ·cases e;exact⟨_,QR,q⟩
     ·exact⟨s,QQ _ hs,e⟩
  rw[fN,QX];by_cases h:u∈(bg L).flatten
  ·constructor
   ·intro _;rcases(ih u).mp h with q|q
    ·exact .inl (.inr q)
    ·exact .inr (.inr q)
   ·intro _;exact .inl h
  ·have hn:=fun q=>h ((ih u).mpr q);constructor
   ·rintro(q|⟨_,rfl|q⟩)
    ·exact absurd q h
    ·exact .inl (.inl rfl)
    ·exact .inr (.inl q)
   ·rintro((rfl|q)|(q|q))
    ·exact .inr ⟨h, .inl rfl⟩
    ·exact absurd (.inl q) hn
    ·exact .inr ⟨h, .inr q⟩
    ·exact absurd (.inr q) hn
theorem ie:∀L,(bg L).flatten.length≤2*L.length
 |[]=>QM _
 |N::L=>by
  have h2:(c8 (gw L.head? N)).length≤2:=by refine J ((dJ _).length_eq) ?_;cases L.head?<;>simp[gw,kq]
  refine J Sx (J QS (J Rn ?_));simp only[U5,XK,Ra];exact a9 (ie L) (ao (jo (c8 (gw L.head? N)) (bg L).flatten) h2)
structure gx(fs:List LF):Prop where
 len:fs.length=4
 nm:∀f∈fs,f.nm=f.text∧eE f.text
theorem Cf xs:gx (mN xs):=⟨rfl,fun f hf=>by obtain⟨p,_,rfl⟩:=Q4.mp hf;exact pk _⟩
theorem gx.at(F:gx fs){k}(h:k<4):∃f∈fs,aT fs k=f.text∧(fs[k]?.map LF.text).getD ""=f.text:=by
 have hk:=F.len▸h;refine⟨fs[k],T4 hk, ?_, ?_⟩
 ·delta aT;exact J (Rg hk) (((F.nm _ (T4 hk)).1))
 ·exact J (Rg hk) rfl
theorem gx.ub(F:gx fs){k}(h:k<4):eE (aT fs k):=by
 obtain⟨f,hf,e,_⟩:=F.at h;exact e▸(F.nm f hf).2
theorem gX(F:gx fs){way}(h:∀j∈way,j<4):aG fs way=way.map (aT fs):=
 RD fun j hj=>by obtain⟨f,_,e1,e2⟩:=F.at (h j hj);rw[e1,e2]
theorem FA(h:cN a=cN b):a=b:=by
 have h:sl (cN a)=sl (cN b):=by rw[h]
 rw[vd,vd] at h;refine dz (VY (bs:=125::sl "c") ?_);exact(Ux h).2
noncomputable abbrev newD(L:List Rj)(N:Rj):List Rj:=news (bg L).flatten (c8 (gw L.head? N))
noncomputable abbrev uc(us:List Rj)(L:List Rj)(N:Rj):List (Rj×Rj):=DG us (newD L N)++(kq L.head? N).map fun a=>(bz us a.1.uri++":"++a.1.tag,a.2)
structure N6(t t':Tg) L N:Prop where
 us:∃e,t'.us=t.us++e∧e.length≤2
 told:t'.told=t.fl.told++cW t'.us (qM N) (uc t'.us L N)
 data:t'.data=[]
 ex:t'.ex=t.ex
 ig:t'.ig=t.ig
 rs:t'.rs=true
 k:t'.k=t.k+1
 lvl:live t'.lv=bg (N::L)
 ok:t'.ok
theorem mT c N:(c8 (gw c N)).length≤2:=by refine J ((dJ _).length_eq) ?_;cases c<;>simp[gw,kq]
theorem FB{L}{N}(hl:live t.lv=bg L)(ok:t.ok)(hu:t.us.length≤98)(hx:∀m∈gw L.head? N,m.uri≠kD):N6 t (({t.fl with lv:=t.lv++[some []]}:Tg).DH (qM N) (kq L.head? N)) L N:=by
 let t1:Tg:={t.fl with lv:=t.lv++[some []]};have ke:live t1.lv=bg L++[[]]:=by refine J (b6 ..) (J (hl ..) ?_);rfl
 have DK:(live t1.lv).flatten=(bg L).flatten:=by refine J ke (J Sx ?_);simp
 have C3:=t.eY;have hn:=mT L.head? N;refine QK fun kG=> ?_;obtain⟨e,he,d4⟩:=Tg.tB (c8 (gw L.head? N)) t1;obtain⟨q1,q2,q3,q4,q5,q6,q7⟩:=Tg.qH (c8 (gw L.head? N)) t1;refine kG ?_;have qo:=Tg.E2 (c8 (gw L.head? N)) t1 (⟨fun u hu=>by refine J C3 ?_;rw[DK,←(show(live t.lv).flatten=(bg L).flatten by rw[hl])] at hu;exact ok.mem u hu,by rw[C3];exact ok.len,by refine J C3 ?_;exact ok.nd,by exact C3▸ok.AD⟩) (by refine J ke ?_;simp) (fun m hm=>hx m ((dJ _).mem_iff.mp hm)) (C3▸QU (Ve hu hn) dc);refine⟨⟨e,he.trans (C3▸rfl),QU d4 hn⟩, ?_,q2.trans t.uO,q3.trans t.DF,q6.trans t.DE,rfl,congrArg (·+1) t.BA, ?_,⟨qo.mem,qo.len,qo.nd,qo.AD⟩⟩
 ·show _++cW _ _ (DG _ (news (live t1.lv).flatten _)++_)=_;exact J DK rfl
 ·refine J ((Tg.oU t.lv (c8 (gw L.head? N)) t1 [] rfl) ..) (J (DK ..) (J (b6 ..) (J (hl ..) ?_)));rfl
structure J5(t t':Tg)(L:List Rj) N:Prop where
 us:t'.us=t.us
 told:t'.told=t.fl.told++[fF (bz t.us N) "c"]
 data:t'.data=[]
 ex:t'.ex=t.ex
 ig:t'.ig=t.ig
 rs:t'.rs=t.rs
 k:t'.k=L.length+1
 lvl:live t'.lv=bg L
 ok:t'.ok
theorem Cg{L}{N}(hl:live t.lv=bg (N::L))(ok:t.ok)(h0:t.ig=0):J5 t (t.iu N "c") L N:=by
 have aU:live t.lv≠[]:=by refine J hl ?_;exact fun q=>by have:=congrArg SF q;have:=(ic ..)▸this;cases this
 obtain⟨ls,l,ds,e,hd⟩:=oO aU;have h1:live t.lv=live ls++[l]:=by rw[e,jl hd]
 have h2:live (eg (fun _=>none) t.lv)=live ls:=by
  rw[e,eQ _ l ds hd,b6,show live (none::ds)=live ds from rfl,hO hd,Ra]
 have h3:live ls=bg L:=by
  have:bg L++[newD L N]=live ls++[l]:=by refine aO h1 (J hl ?_);rfl
  exact(V6 this rfl).1.symm
 refine J (show t.iu N "c"={t.fl with told:=t.fl.told++[fF (bz t.us N) "c"],lv:=eg (fun _=>none) t.lv,rd:=(live t.lv).length==1,k:=(live t.lv).length} from if_pos h0) (⟨t.eY,rfl,t.uO,t.DF,t.DE,t.Ib, ?_,h2.trans h3,⟨fun u hu=> ?_,by refine J t.eY ?_;exact ok.len,by refine J t.eY ?_;exact ok.nd,by exact J t.eY ok.AD⟩⟩)
 ·show(live t.lv).length=_;refine J (hl ..) (J (ic ..) ?_);rfl
 ·refine J t.eY ?_;refine ok.mem u ?_;rw[h2] at hu;rw[h1,Sx];exact Rt _ hu
structure Inv fs(c e:Nat)(r:RS)(L Ex:List Rj):Prop where
 wk:∀j∈r.way,j<4
 path:r.way.map (aT fs)=L.reverse++Ex
 lo:aT fs 3∉L
 eo:Ex=[]∨∃E,Ex=aT fs 3::E
 ig:r.t.ig=Ex.length
 Ch:r.t.ex=cN (aT fs 3)
 lvl:live r.t.lv=bg L
 tok:r.t.ok
 k:r.t.k=L.length+1
 us:r.t.us.length≤2*c
 dat:r.t.data.length≤c
 d1:∀d∈r.t.data,d.length=1
 told:r.t.told.length≤4*c+2*e
 cl:r.calls.length≤c
 tl:r.ticks.length≤c
 wl:r.way.length≤c
 nm:∀N∈L,eE N
section
variable{fs:List LF}{c e:Nat}{r:RS}{L Ex:List Rj}
theorem Inv.len(I:Inv fs c e r L Ex):L.length+Ex.length=r.way.length:=by
 have:=congrArg SF I.path;rw[QP,QS,WM] at this;exact this.symm
theorem Inv.last(I:Inv fs c e r L Ex){ws}{j}(h:r.way=ws++[j])(hE:Ex=[]):∃L',L=aT fs j::L'∧ws.map (aT fs)=L'.reverse:=by
 have hp:=I.path;replace hp:=(Rc ..)▸(Ra ..)▸(hE ..)▸(h ..)▸hp;cases L with
 |nil=>exact absurd hp (by simp)
 |cons N L'=>
  rw[Sg] at hp;exact⟨L',by rw[show aT fs j=N by simpa using(V6 hp rfl).2],(V6 hp rfl).1⟩
theorem Inv.atts(I:Inv fs c e r L Ex)(hE:Ex=[]) N:eZ fs r.way N=kq L.head? N:=by
 rcases Td r.way with h|⟨ws,j,h⟩
 ·have hl:=I.len;rw[h,hE] at hl
  delta eZ;refine J h (J (Rs.mp hl) ?_);rfl
 ·have h:r.way=ws++[j]:=by refine J h ?_;simp
  obtain⟨L',e1,_⟩:=I.last h hE
  delta eZ;refine J h (J e1 (J TN ?_));rfl
theorem Ci(h:∀d∈l,d.length≤1000)(hl:l.length≤1000):Xb "" l=true:=by
 delta Xb
 refine J (joinTotal ..) ?_;have:=sumLen_le l h;have:tooLong ((l.map (·.length)).sum+0)=false:=by
  delta tooLong;exact J Rv ((decide_eq_false (by lia)))
 exact this▸rfl
theorem jY:∀{l},(∀d∈l,d.length=1)→(R9 "" l).length=l.length:=fun {l} h=>by
 refine aO (ap ..) (J (dA ..) ?_)
 induction l with
 |nil=>rfl
 |cons d l ih=>
  rw[Q8,U5,QS,ih fun x hx=>h x (QQ _ hx),ap,h d QR,Rn,SK]
theorem Inv.J6(I:Inv fs c e r L Ex)(F:gx fs)(hc:c≤28)(he:e≤28):Iv fs r:=by
 have hL:=I.len;have wl:=I.wl;have us:=I.us;have dat:=I.dat;have told:=I.told;have cl:=I.cl;have tl:=I.tl;have hf:(live r.t.lv).flatten.length≤60:=J I.lvl ((QU (ie L) (by lia)));have ve:r.t.data.length≤1000:=ao dat (ao hc dc);refine⟨F.len,fun f hf=> ?_,fun j hj=>by refine J F.len ?_;exact I.wk j hj,by exact ao wl (ao hc dc),by exact ao cl (ao hc dc),by exact ao tl (ao hc dc),ve,I.tok,⟨Ci (fun d hd=>by refine J (I.d1 d hd) ?_;decide) ve,by refine J (jY I.d1) ?_;exact ao dat (ao hc dc),by exact ao told (ao (a9 (nB hc) (nB he)) dc),by exact eG hf⟩,by exact eG hf,by exact ao us (ao (nB hc) dc),by refine J (I.lvl ..) (J (ic ..) ?_);exact I.k,by refine J I.k ?_;lia,fun k hk=> ?_,fun j hj=>Fu (F.ub (I.wk j hj)),fun ws j hw hi=> ?_⟩
 ·exact(F.nm f hf).1▸QU (F.nm f hf).2.len dc
 ·delta eZ
  cases hg:r.way.getLast? with
  |none=>exact Cd (F.ub hk)
  |some j=>exact Jf (F.ub (I.wk j (List.mem_of_getLast? hg))) (F.ub hk)
 ·have hE:Ex=[]:=by
   have:=I.ig;rw[hi] at this;exact Rs.mp (by lia)
  obtain⟨L',e1,_⟩:=I.last hw hE;rw[I.lvl,jr,e1];exact .inl QR
theorem Cj(hN:eE N):∀m∈gw L.head? N,m.uri≠kD:=fun m hm=>by
 rcases QX.mp hm with rfl|hm
 ·exact hN.nx
 ·cases L with
  |nil=>exact absurd hm Rb
  |cons b L=>exact(QV.mp hm)▸zM _ _
theorem Inv.op(I:Inv fs c e r L []){k}(F:gx fs)(hk:k<4)(hn:aT fs k≠aT fs 3)(hc:c≤40):N6 r.t (r.start fs k).t L (aT fs k):=by
 have:=FB I.lvl I.tok (ao I.us (ao (nB hc) dc)) (Cj (F.ub hk));rw[←I.atts rfl] at this;have e:(r.start fs k).t=({r.t.fl with lv:=r.t.lv++[some []]}:Tg).DH (qM (aT fs k)) (eZ fs r.way (aT fs k)):=by
  refine if_neg ?_;rintro(q|q)
  ·exact q I.ig
  ·rw[I.Ch] at q;exact hn (FA q)
 exact e▸this
theorem gY(h:∀j∈r.way,j<4)(hk:k<4):∀j∈r.way++[k],j<4:=fun j hj=>(Q9.mp hj).elim (h j) fun q=>by exact(QV.mp q)▸hk
theorem Inv.vf(I:Inv fs c e r L []){k}(F:gx fs)(hk:k<4)(hn:aT fs k≠aT fs 3)(hc:c≤40):Inv fs (c+1) e (r.start fs k) (aT fs k::L) []:=by
 have O:=I.op F hk hn hc;have hw:(r.start fs k).way=r.way++[k]:=rfl;obtain⟨e1,he,hl⟩:=O.us;have ht:(cW (r.start fs k).t.us (qM (aT fs k)) (uc (r.start fs k).t.us L (aT fs k))).length≤3:=by delta cW;refine bl (fun _=> ?_) (fun _=> ?_)<;>simp
 refine⟨gY I.wk hk, ?_,fun q=> ?_, .inl rfl,O.ig.trans I.ig,O.ex.trans I.Ch,O.lvl,O.ok, ?_, ?_, ?_, ?_, ?_, ?_,RV I.tl, ?_, ?_⟩
 ·refine J hw (J Rc (J I.path ?_));simp
 ·rcases QX.mp q with q|q
  ·exact hn q.symm
  ·exact I.lo q
 ·refine J O.k (J I.k ?_);rfl
 ·refine J he (J QS ?_);exact a9 I.us hl
 ·exact O.data▸Rr _
 ·exact O.data▸fun _ h=>absurd h Rb
 ·refine J O.told (J QS ?_);have:=I.told;have:=r.t.kR;lia
 ·exact J QS ((SW I.cl 1))
 ·exact J hw (J QS ((SW I.wl 1)))
 ·intro N hN;rcases QX.mp hN with rfl|hN
  ·exact F.ub hk
  ·exact I.nm N hN
theorem Inv.zP(I:Inv fs c e r L Ex){k}(hk:k<4)(hn:Ex≠[]∨aT fs k=aT fs 3):Inv fs (c+1) e (r.start fs k) L (Ex++[aT fs k])∧(r.start fs k).t={r.t with ig:=r.t.ig+1}:=by
 have hw:(r.start fs k).way=r.way++[k]:=rfl;have e1:(r.start fs k).t={r.t with ig:=r.t.ig+1}:=by
  refine if_pos ?_;rcases hn with q|q
  ·exact .inl fun z=>q (Rs.mp (by have:=I.ig;lia))
  ·exact .inr (by refine J I.Ch (aO q ?_);rfl)
 refine⟨?_,e1⟩;refine⟨gY I.wk hk, ?_,I.lo, .inr ?_, ?_, ?_, ?_, ?_, ?_, ?_, ?_, ?_, ?_, ?_,RV I.tl, ?_,I.nm⟩
 ·refine J hw (J Rc (J I.path ?_));simp
 ·rcases I.eo with h|⟨E,h⟩
  ·rcases hn with q|q
   ·exact absurd h q
   ·exact⟨[],by refine J h (J q ?_);rfl⟩
  ·exact⟨E++[aT fs k],by refine J h ?_;rfl⟩
 ·refine J e1 (J QS (J I.ig ?_));rfl
 ·exact e1▸I.Ch
 ·exact e1▸I.lvl
 ·exact e1▸⟨I.tok.mem,I.tok.len,I.tok.nd,I.tok.AD⟩
 ·exact e1▸I.k
 ·exact e1▸QU I.us (nB (gh (QM _)))
 ·exact e1▸RV I.dat
 ·exact e1▸I.d1
 ·exact e1▸QU I.told (a9 (nB (gh (QM _))) (QM _))
 ·exact J QS ((SW I.cl 1))
 ·exact J hw (J QS ((SW I.wl 1)))
theorem Inv.tick(I:Inv fs c e r L Ex) x:Inv fs (c+1) e (r.tick fs x) L Ex:=by
 have dat:=I.dat;have e1:((r.tick fs x).ticks).length=r.ticks.length+1:=by show(r.ticks++[_]).length=_;simp
 by_cases h:r.t.ig=0
 ·have et:(r.tick fs x).t={r.t with data:=r.t.data++[BK ((x.fdiv 5).fmod 10).toNat]}:=if_pos h;refine⟨I.wk,I.path,I.lo,I.eo, ?_, ?_, ?_, ?_, ?_, ?_, ?_, ?_, ?_,RV I.cl,by rw[e1];exact TE I.tl,RV I.wl,I.nm⟩<;>refine J et ?_
  ·exact I.ig
  ·exact I.Ch
  ·exact I.lvl
  ·exact⟨I.tok.mem,I.tok.len,I.tok.nd,I.tok.AD⟩
  ·exact I.k
  ·exact QU I.us (nB (gh (QM _)))
  ·exact J QS ((TE dat))
  ·intro d hd;rcases Q9.mp hd with hd|hd
   ·exact I.d1 d hd
   ·exact congrArg _ (QV.mp hd)
  ·exact QU I.told (a9 (nB (gh (QM _))) (QM _))
 ·have et:(r.tick fs x).t=r.t:=if_neg h;refine⟨I.wk,I.path,I.lo,I.eo, ?_, ?_, ?_, ?_, ?_, ?_, ?_, ?_, ?_,RV I.cl,by rw[e1];exact TE I.tl,RV I.wl,I.nm⟩<;>refine J et ?_
  ·exact I.ig
  ·exact I.Ch
  ·exact I.lvl
  ·exact I.tok
  ·exact I.k
  ·exact QU I.us (nB (gh (QM _)))
  ·exact RV dat
  ·exact I.d1
  ·exact QU I.told (a9 (nB (gh (QM _))) (QM _))
theorem RS.rF(h:r.way≠[]):∃ws j,r.way=ws++[j]∧r.way.dropLast=ws∧r.way.getLast?.getD 0=j:=by
 rcases Td r.way with q|⟨ws,j,q⟩
 ·exact absurd q h
 ·have q:r.way=ws++[j]:=by refine J q ?_;simp
  exact⟨ws,j,q,by refine J q ?_;simp,by refine J q ?_;simp⟩
theorem Inv.FC(I:Inv fs c e r L Ex){X}{N}(hE:Ex=X++[N]):Inv fs c (e+1) (r.fin fs) L X∧(r.fin fs).t={r.t with ig:=r.t.ig-1}:=by
 have hl:=I.len;have ig:=I.ig;have aU:r.way≠[]:=fun q=>by rw[q,hE] at hl;simp at hl
 obtain⟨ws,j,e1,e2,e3⟩:=RS.rF aU;have hw:(r.fin fs).way=ws:=e2;have et:(r.fin fs).t={r.t with ig:=r.t.ig-1}:=by
  refine if_neg fun q=> ?_;rw[ig,hE] at q;simp at q;lia
 refine⟨?_,et⟩;refine⟨by exact hw▸(fun i hi=>I.wk i (e1▸Rt _ hi)), ?_,I.lo, ?_, ?_, ?_, ?_, ?_, ?_, ?_, ?_, ?_, ?_,I.cl,I.tl, ?_,I.nm⟩
 ·have:=I.path;rw[e1,hE,Rc,←Rm] at this;exact hw▸(V6 this rfl).1
 ·cases X with
  |nil=>exact .inl rfl
  |cons a X=>
   rcases I.eo with h|⟨E,h⟩
   ·rw[h] at hE;simp at hE
   ·rw[h] at hE;simp at hE;exact .inr ⟨X,by rw[hE.1]⟩
 ·refine J et ?_;show r.t.ig-1=_;refine J ig (J hE (J QS ?_));simp
 ·exact et▸I.Ch
 ·exact et▸I.lvl
 ·exact et▸⟨I.tok.mem,I.tok.len,I.tok.nd,I.tok.AD⟩
 ·exact et▸I.k
 ·exact et▸I.us
 ·exact et▸I.dat
 ·exact et▸I.d1
 ·exact et▸QU I.told (a9 (QM _) (nB (gh (QM _))))
 ·refine J hw ?_;have:=I.wl;rw[e1,QS] at this;exact TQ this
theorem Inv.Jh(I:Inv fs c e r L [])(aU:r.way≠[]):∃N L',L=N::L'∧J5 r.t (r.fin fs).t L' N∧Inv fs c (e+1) (r.fin fs) L' []:=by
 refine QK fun kG=> ?_;obtain⟨ws,j,e1,e2,e3⟩:=RS.rF aU;obtain⟨L',hL,hp⟩:=I.last e1 rfl;refine kG ?_;have hw:(r.fin fs).way=ws:=e2;have C:J5 r.t (r.fin fs).t L' (aT fs j):=by
  show J5 r.t (r.t.iu (aT fs (r.way.getLast?.getD 0)) "c") L' (aT fs j);exact J e3 ((Cg (hL▸I.lvl) I.tok I.ig))
 refine⟨_,L',hL,C, ?_⟩;refine⟨by refine J hw ?_;exact fun i hi=>I.wk i (e1▸Rt _ hi),by refine J hw (J hp ?_);simp,fun q=>I.lo (hL▸QQ _ q), .inl rfl,C.ig.trans I.ig,C.ex.trans I.Ch,C.lvl,C.ok,C.k,by refine J C.us ?_;exact I.us,by refine J C.data ?_;exact Rr _,by refine J C.data ?_;exact fun _ h=>absurd h Rb, ?_,I.cl,I.tl, ?_,fun N hN=>I.nm N (hL▸QQ _ hN)⟩
 ·refine J C.told (J QS ?_);have:=I.told;have:=r.t.kR;simp;lia
 ·refine J hw ?_;have:=I.wl;rw[e1,QS] at this;exact TQ this
end
theorem og:QZ x=true↔∀c∈sl x,c<0x110000:=by
 delta QZ
 rw[←Array.all_toList,R8];exact⟨fun h c hc=>by simpa using h c hc,fun h c hc=>by simpa using h c hc⟩
theorem oh(h1:QZ x=true)(h2:QZ y=true):QZ (x++y)=true:=by
 rw[og] at*;exact J (aM ..) ((fun c hc=>(Q9.mp hc).elim (h1 c) (h2 c)))
theorem zQ(hc:eE c)(hN:eE N):QZ (kF c N)=true:=oh (oh hc.ok (by decide+kernel)) hN.ok
theorem Ck:∀i<120,((sl (jN i)).all fun c=>decide (48≤c)&&decide (c≤57))=true:=by decide+kernel
theorem pp(hl:us.length≤100) u:∃d,sl (bz us u)=110::d∧∀c∈d,48≤c∧c≤57:=by
 refine⟨sl (jN (us.idxOf u)),by refine J (aM ..) ?_;rfl,fun c hc=> ?_⟩;simpa using(R8.mp (Ck (us.idxOf u) (by have:=Zd (a:=u) (l:=us);exact elt this (elt hl dc))) c hc)
theorem zR(hl:us.length≤100) u{d}(h:d<48∨(57<d∧d≠110)):d∉sl (bz us u):=by
 obtain⟨e,q,h1⟩:=pp hl u;rw[q,QX,not_or];refine⟨by lia,fun m=> ?_⟩;have:=h1 d m;lia
theorem FD(hl:us.length≤100) u:QZ (bz us u)=true:=by
 obtain⟨e,q,h1⟩:=pp hl u;rw[og,q];intro c hc;rcases QX.mp hc with rfl|hc
 ·decide
 ·have:=h1 c hc;lia
theorem xf(hl:us.length≤100) u:bz us u≠"xmlns":=fun q=>by
 obtain⟨e,q2,_⟩:=pp hl u;rw[q] at q2;exact absurd (Ux q2).1 dc
noncomputable abbrev pP(us:List Rj)(u:Rj):Rj×Rj:=(bz us u,u)
theorem cc:∀l,(bX l).Perm l
 |[]=> .refl _
 |[_]=> .refl _
 |[x,y]=>by
  show(bh (oI y x) x y).Perm _
  delta bh;refine bl (fun _=> ?_) fun _=> ?_
  ·exact .swap x y []
  ·exact .refl _
 |_::_::_::_=> .refl _
theorem zS f(hf:∀p q,oI (f p) (f q)=oI p q):∀l,bX (l.map f)=(bX l).map f
 |[]=>rfl
 |[_]=>rfl
 |[x,y]=>by
  show bh (oI (f y) (f x)) (f x) (f y)=(bh (oI y x) x y).map f;refine J (hf ..) ?_;delta bh;split<;>rfl
 |_::_::_::_=>rfl
theorem Cl(z x y:Rj):Ax (z++x) (z++y)=Ax x y:=by
 have:∀z x y:List Nat,(z++x<z++y)↔x<y:=by
  intro z x y
  induction z with
  |nil=>exact Iff.rfl
  |cons c z ih=>rw[SV,SV,List.cons_lt_cons_iff,ih];simp
 exact decide_eq_decide.mpr (by
  show sl (z++x)<sl (z++y)↔_;exact J (aM ..) (J (aM ..) ((this _ _ _))))
theorem Cm{z x y:Rj}(h:z++x=z++y):x=y:=by
 have h:sl (z++x)=sl (z++y):=by rw[h]
 rw[aM,aM] at h;exact dz (List.append_cancel_left h)
theorem zT{z x y:Rj}(h:x++z=y++z):x=y:=by
 have h:sl (x++z)=sl (y++z):=by rw[h]
 rw[aM,aM] at h;exact dz (VY h)
theorem FE(us l:List Rj):DG us l=(bX (l.map (pP us))).map fun p=>(("xmlns:"++p.1:Rj),p.2):=by
 rw[←zS,Rk]
 ·rfl
 ·intro p q
  delta oI
  refine J (Cl ..) ?_;by_cases h:p.1=q.1
  ·rw[if_pos h,if_pos (congrArg _ h)]
  ·rw[if_neg h,if_neg fun z=>h (Cm z)]
structure ny(us:List Rj) L:Prop where
 len:us.length≤100
 mem:∀u∈(bg L).flatten,u∈us
 nm:∀N∈L,eE N
theorem cE N L:(bg (N::L)).flatten=(bg L).flatten++newD L N:=by
 show(bg L++[newD L N]).flatten=_;rw[Sx,List.flatten_singleton]
theorem ny.tail{N}(K:ny us (N::L)):ny us L:=⟨K.len,fun u hu=>K.mem u (J (cE ..) (Rt _ hu)),fun M hM=>K.nm M (QQ _ hM)⟩
noncomputable def jt(us:List Rj):List Rj→List (Rj×Rj)
 |[]=>[]
 |N::L=>jt us L++bX ((newD L N).map (pP us))
theorem pv us:∀L p,p∈jt us L↔∃u∈(bg L).flatten,p=pP us u:=by
 intro L
 induction L with
 |nil=>intro p;exact⟨fun h=>absurd h Rb,fun⟨u,h,_⟩=>absurd h Rb⟩
 |cons N L ih=>
  intro p;show p∈jt us L++_↔_;rw[Q9,ih,(cc _).mem_iff,cE];constructor
  ·rintro(⟨u,h,e⟩|h)
   ·exact⟨u,Rt _ h,e⟩
   ·obtain⟨u,h,e⟩:=Q4.mp h;exact⟨u,RK _ h,e.symm⟩
  ·rintro⟨u,h,e⟩;rcases Q9.mp h with h|h
   ·exact .inl ⟨u,h,e⟩
   ·exact .inr (Q4.mpr ⟨u,h,e.symm⟩)
theorem px us:∀L,(jt us L).length=(bg L).flatten.length
 |[]=>rfl
 |N::L=>by
  show(jt us L++_).length=_;rw[QS,px us L,(cc _).length_eq,QP,cE,QS]
theorem pA:∀{L},(∀u∈(bg L).flatten,u∈us)→jt (us++e) L=jt us L
 |[],_=>rfl
 |N::L,h=>by
  rw[cE] at h;show jt (us++e) L++_=jt us L++_;rw[pA fun u hu=>h u (Rt _ hu),RD fun u hu=>by
   show(bz (us++e) u,u)=(bz us u,u);rw[kU (h u (RK _ hu))]]
theorem ud(h1:∃p∈f,q p=true)(h2:∀p∈f,q p=true→p.2=u):b9 f q≠[]∧(b9 f q).getLast?.getD ""=u:=by
 have aU:b9 f q≠[]:=by
  obtain⟨p,hp,hq⟩:=h1;intro e;have:=RO.mpr ⟨hp,hq⟩;cases(T0.mp e)▸this
 refine⟨aU, ?_⟩;refine J (XQ aU) (J Option.getD_some ?_);obtain⟨p,hp,e⟩:=Q4.mp (Z7 aU);exact e▸h2 p (RO.mp hp).1 (RO.mp hp).2
theorem ny.known(K:ny us L){u}(hu:u∈(bg L).flatten){q}(hq:∀p,q p=true↔p.1=bz us u):b9 (jt us L) q≠[]∧(b9 (jt us L) q).getLast?.getD ""=u:=by
 refine ud ⟨pP us u,(pv us L _).mpr ⟨u,hu,rfl⟩,(hq _).mpr rfl⟩ fun p hp h=> ?_;obtain⟨v,hv,rfl⟩:=(pv us L p).mp hp;exact kP K.len (K.mem v hv) (K.mem u hu) ((hq _).mp h)
noncomputable def nz(us L:List Rj)(N:Rj):List At:=(bX ((newD L N).map (pP us))).map (fun p=>⟨"xmlns",p.1,d8 p.2⟩)++(kq L.head? N).map fun a=>⟨bz us a.1.uri,"by",d8 a.2⟩
noncomputable def J7(L:List Rj)(N:Rj):Rj:=match L.head? with
 |some c=>kF c N
 |none=>""
noncomputable def dK(us:List Rj)(N:Rj):Rj:=bz us N++":c"
theorem zU:∀l(h:Hd),(l.map fun p=>(⟨"xmlns",p.1,d8 p.2⟩:At)).foldl Hd.at h={h with ai:=h.ai++l}:=by
 intro l
 induction l with
 |nil=>intro h;show h={h with ai:=h.ai++[]};rw[Ra]
 |cons p l ih=>
  intro h;refine J (Q8 ..) (J (aaq ..) (J (ih ..) ?_));have:h.at ⟨"xmlns",p.1,d8 p.2⟩={h with ai:=h.ai++[p]}:=by
   delta Hd.at;refine J (if_pos rfl) ?_;rw[n9]
  refine J this (J (Rm ..) ?_);rfl
theorem gZ:u∈newD L N↔u∉(bg L).flatten∧(u=N∨∃b,L.head?=some b∧u=kF b N):=by
 rw[mR,rE]
theorem kZ{N u}(h:u=N∨∃b,L.head?=some b∧u=kF b N):u∈(bg (N::L)).flatten:=by
 refine J (cE ..) ?_;by_cases q:u∈(bg L).flatten
 ·exact Rt _ q
 ·exact RK _ (gZ.mpr ⟨q,h⟩)
section
variable{us L:List Rj}{N:Rj}{r:Rd}
theorem rG(K:ny us (N::L))(hf:r.ai=jt us L):r.hd (nz us L N)=⟨jt us (N::L),L.head?.getD "",J7 L N⟩:=by
 unfold Rd.hd nz;refine J (VV ..) (J (zU ..) (J (hf ..) ?_));cases L with
 |nil=>rfl
 |cons c L=>
  show Hd.at _ _=_
  delta Hd.at
  refine J (if_neg (xf K.len _)) (J (n9 ..) ?_);exact congrArg _ ((K.known (kZ (.inr ⟨c,rfl,rfl⟩)) fun p=>by rw[beq_iff_eq]).2)
theorem DT(K:ny us (N::L))(hf:r.ai=jt us L):b9 (r.hd (nz us L N)).ai (fun x=>x.1++":c"==dK us N)≠[]∧r.nm (dK us N) (nz us L N)=N:=by
 have k:=K.known (kZ (.inl rfl)) (q:=fun x=>x.1++":c"==dK us N) fun p=>by
  rw[beq_iff_eq];exact⟨zT,fun h=>by refine J h ?_;rfl⟩
 delta Rd.nm
 exact(rG K hf)▸k
theorem ju(K:ny us (N::L))(hf:r.ai=jt us L):r.fresh (nz us L N)=bX ((newD L N).map (pP us)):=by
 delta Rd.fresh
 refine J (rG K hf) (J hf ?_);show(jt us L++_).drop _=_;rw[T7]
theorem xg(K:ny us (N::L)):bX (bX ((newD L N).map (pP us)))=bX ((newD L N).map (pP us)):=by
 have nd:(newD L N).Nodup:=mS _ _;have hm:=fun u hu=>K.mem u (J (cE ..) ((RK _ hu)));have hl:(newD L N).length≤2:=QU (jo _ _) (mT _ _);revert nd hm hl;generalize newD L N=l;intro nd hm hl;rcases gI hl with rfl|⟨x,rfl⟩|⟨x,y,rfl⟩
 ·rfl
 ·rfl
 ·
  have Gf:bz us x≠bz us y:=fun q=>by
   rw[(kP K.len (hm x QR) (hm y (by simp)) q)] at nd;simp at nd
  have h1:oI (pP us y) (pP us x)=Ax (bz us y) (bz us x):=if_neg fun q=>Gf q.symm;show bX (bh (oI (pP us y) (pP us x)) (pP us x) (pP us y))=bh (oI (pP us y) (pP us x)) (pP us x) (pP us y)
  delta bh
  refine bl (fun _=> ?_) fun _=> ?_
  ·rename_i h;show bh (oI (pP us x) (pP us y)) (pP us y) (pP us x)=_;replace h:=(u8 Gf)▸h1▸h;refine J (show oI (pP us x) (pP us y)=Ax (bz us x) (bz us y) from if_neg Gf) ?_;delta bh;rw[if_neg];intro q;rw[q] at h;cases h
  ·rename_i h;show bh (oI (pP us y) (pP us x)) _ _=_
   delta bh;rw[if_neg h]
end
theorem J8{α β γ:Type}(f:α→β→γ){a a'}{b b'}(h1:a=a')(h2:b=b'):f a b=f a' b':=by rw[h1,h2]
structure jZ where
 nm:Rj
 new:Nat
 caller:Rj
 first:Nat
noncomputable def Rw.cn(r:Rw):jZ:=⟨r.nm,r.new,r.caller,r.first⟩
noncomputable def aw:List Rj→jZ
 |[]=>⟨"",0,"",0⟩
 |[N]=>⟨N,1,"",0⟩
 |N::c::L=>⟨N,if N∈c::L then 0 else 1,c,if(c,N)∈bt (c::L) then 0 else 1⟩
theorem mU:∀{L}{s},s∈bt L→s.1∈L∧s.2∈L:=by
 intro L
 induction L with
 |nil=>intro s h;cases h
 |cons N L ih=>
  intro s h;cases L with
  |nil=>cases h
  |cons c L=>
   rcases QX.mp h with rfl|h
   ·exact⟨QQ _ QR,QR⟩
   ·exact⟨QQ _ (ih h).1,QQ _ (ih h).2⟩
theorem rH{l:List Rj}(h:l.Nodup) x:l.count x=if x∈l then 1 else 0:=by
 refine bl (fun _=> ?_) fun _=> ?_
 ·rename_i q;exact List.Nodup.count h|>.trans (if_pos q)
 ·rename_i q;exact XR q
section
variable{us L:List Rj}{N:Rj}{r:Rd}
theorem ku(K:ny us (N::L))(hf:r.ai=jt us L) x:((r.fresh (nz us L N)).map (·.2)).count x=if x∈newD L N then 1 else 0:=by
 rw[ju K hf,←rH (mS _ _),((cc _).map (·.2)).count_eq,Rk,show((·.2)∘pP us:Rj→Rj)=_root_.id from rfl,List.map_id]
theorem k6(K:ny us (N::L)):N∈newD L N↔N∉L:=by
 rw[gZ,jr];constructor
 ·rintro⟨h,_⟩ q;exact h (.inl q)
 ·intro h;refine⟨?_, .inl rfl⟩;rintro(q|⟨s,_,e⟩)
  ·exact h q
  ·exact rD (K.nm N QR) e
theorem oi(K:ny us (N::c::L)):kF c N∈newD (c::L) N↔(c,N)∉bt (c::L):=by
 rw[gZ,jr];constructor
 ·rintro⟨h,_⟩ q;exact h (.inr ⟨_,q,rfl⟩)
 ·intro h;refine⟨?_, .inr ⟨c,rfl,rfl⟩⟩;rintro(q|⟨s,hs,e⟩)
  ·exact rD (K.tail.nm _ q) rfl
  ·obtain⟨e1,e2⟩:=Ft (K.nm c (QQ _ QR)) (K.tail.nm _ (mU hs).1) e;exact h ((Prod.ext e1.symm e2.symm:s=(c,N))▸hs)
theorem Cn(K:ny us (N::L))(hf:r.ai=jt us L):(r.row (dK us N) (nz us L N)).cn=aw (N::L):=by
 unfold Rw.cn Rd.row;dsimp only;rw[((DT K hf).2),rG K hf,ku K hf,ku K hf];dsimp only;cases L with
 |nil=>
  rw[if_pos ((k6 K).mpr Rb),if_neg]
  ·rfl
  ·intro q;rcases(gZ.mp q).2 with q|⟨b,q,_⟩
   ·exact(K.nm N QR).ne q.symm
   ·cases q
 |cons c L=>
  refine J8 (fun a b=>jZ.mk N a c b) ?_ ?_
  ·by_cases h:N∈c::L
   ·rw[if_pos h,if_neg fun q=>(k6 K).mp q h]
   ·rw[if_neg h,if_pos ((k6 K).mpr h)]
  ·refine J (show J7 (c::L) N=kF c N from rfl) ?_;by_cases h:(c,N)∈bt (c::L)
   ·rw[if_pos h,if_neg fun q=>(oi K).mp q h]
   ·rw[if_neg h,if_pos ((oi K).mpr h)]
theorem mV:(newD L N).length≤2:=QU (jo _ _) (mT _ _)
theorem vg:(nz us L N).length≤3:=by
 delta nz
 have:=mV (L:=L) (N:=N);rw[QS,QP,QP,(cc _).length_eq,QP];cases L<;>simp[kq]<;>lia
theorem zV(K:ny us (N::L)):nz us L N≠[]:=fun q=>by
 obtain⟨q1,q2⟩:=Wb.mp q;cases L with
 |nil=>
  have:=(cc ((newD [] N).map (pP us))).mem_iff.mpr (Tu ((k6 K).mpr Rb));cases(T0.mp q1)▸this
 |cons c L=>cases q2
noncomputable def xh(us:List Rj)(l:List (Rj×Rj)):Prop:=∀p∈l,p.2∈us∧p.1=bz us p.2∧QZ p.2=true
theorem vh(K:ny us L){u}(h:u∈(bg L).flatten):QZ u=true∧u.length≤39:=by
 rcases(jr L u).mp h with h|⟨s,hs,rfl⟩
 ·have:=K.nm u h;exact⟨this.ok,QU this.len dc⟩
 ·have h1:=K.nm _ (mU hs).1;have h2:=K.nm _ (mU hs).2;exact⟨zQ h1 h2,ua h1 h2⟩
theorem pB(K:ny us L):xh us (jt us L):=fun p hp=>by
 obtain⟨u,hu,rfl⟩:=(pv us L p).mp hp;exact⟨K.mem u hu,rfl,(vh K hu).1⟩
theorem FF(K:ny us (N::L))(hf:r.ai=jt us L)(he:xh us r.b8)(hl:L.length≤100)(KT:r.b8.length≤1000)(hr:r.rows.length≤1000)(hw:r.way.length≤1000)(hg:∀a∈nz us L N,Fv a):JZ r (dK us N) (nz us L N):=by
 have hN:=K.nm N QR;have e1:=DT K hf;have e2:=rG K hf;have e3:=ju K hf;have hx:xh us (bX ((newD L N).map (pP us))):=fun p hp=>pB K p (RK _ hp);have Ji:(L.head?.getD "").length≤1000∧QZ (J7 L N)=true:=by
  cases L with
  |nil=>exact⟨dc,by show QZ ""=true;decide+kernel⟩
  |cons c L=>
   have hc:=K.nm c (QQ _ QR);exact⟨QU hc.len dc,zQ hc hN⟩
 refine⟨?_,e1.1,by exact e3▸xg K, ?_, ?_, ?_, ?_, ?_, ?_, ?_,KT, ?_, ?_, ?_, ?_,hr,hw⟩
 ·have hx:∀(l:List (Rj×Rj)) h B,(∀a∈l.map (fun p=>(⟨"xmlns",p.1,d8 p.2⟩:At)),Fv a)→za ((l.map fun p=>(⟨"xmlns",p.1,d8 p.2⟩:At)).foldl Hd.at h) B→za h ((l.map fun p=>(⟨"xmlns",p.1,d8 p.2⟩:At))++B):=by
   intro l
   induction l with
   |nil=>intro h B _ q;exact q
   |cons p l ih=>
    intro h B g q;exact⟨(g _ QR).ok, .inl rfl,ih _ B (fun a ha=>g a (QQ _ ha)) q⟩
  refine hx _ _ _ (fun a ha=>hg a (Rt _ ha)) ?_;cases L with
  |nil=>trivial
  |cons c L=>
   refine⟨(hg _ (RK _ (QV.mpr rfl))).ok, .inr ⟨rfl, ?_⟩,trivial⟩;exact J (zU ..) (J (hf ..) (((K.known (kZ (.inr ⟨c,rfl,rfl⟩)) fun p=>by rw[beq_iff_eq]).1)))
 ·exact J (e3 ..) (J ((cc _).length_eq) (J (QP ..) ((mV))))
 ·refine J e2 (J e1.2 ?_);cases L with
  |nil=>rfl
  |cons c L=>
   show kF c N=if c="" then _ else kF c N
   rw[if_neg (K.nm c (QQ _ QR)).ne]
 ·intro v hv;replace hv:=e3▸hv;obtain⟨p,hp,e⟩:=Q4.mp hv;obtain⟨u,hu,e'⟩:=Q4.mp ((cc _).mem_iff.mp hp);have:u=v:=by rw[←e,←e']
  subst this;refine J e1.2 (J e2 ?_);rcases(gZ.mp hu).2 with q|⟨b,q1,q2⟩
  ·exact .inl q
  ·refine .inr ?_
   delta J7;exact q1▸q2
 ·intro x h1 y h2;rw[e3] at h1 h2;have a:=hx x h1;have b:y.2∈us∧y.1=bz us y.2:=(Q9.mp h2).elim (fun q=>⟨(he y q).1,(he y q).2.1⟩) fun q=>⟨(hx y q).1,(hx y q).2.1⟩;refine J a.2.1 (J b.2 ?_);by_cases h:x.2=y.2
  ·rw[h,beq_self_eq_true,beq_self_eq_true]
  ·rw[beq_eq_false_iff_ne.mpr h,beq_eq_false_iff_ne.mpr fun q=>h (kP K.len a.1 b.1 q)]
 ·intro p hp;rw[e2] at hp;have a:xh us [p]:=fun q hq=>by
   exact(QV.mp hq)▸(Q9.mp hp).elim (pB K p) (he p)
  have a:=a p (QV.mpr rfl);exact⟨by refine J a.2.1 ?_;exact FD K.len _,a.2.2⟩
 ·exact J e1.2 (J e2 ((⟨hN.ok,Ji.2⟩)))
 ·refine J (hf ..) (J (px ..) ?_);have:=ie L;have:=vg (us:=us) (L:=L) (N:=N);lia
 ·exact e2▸QU (show(jt us (N::L)).length≤202 by exact J (px ..) ((QU (ie _) (Rn▸ao (nB (a9 hl (QM _))) dc)))) dc
 ·intro p hp;rw[e2] at hp;exact J ((pB K p hp).2.1) ((QU (du K.len).1 dc))
 ·exact e2▸Ji.1
 ·exact J e1.2 ((QU hN.len dc))
theorem zW(h:∀p∈T,p.2.length≤4) c:(fT T c).length≤6:=by
 delta fT
 cases e:T.lookup c with
 |none=>exact Vl rfl
 |some v=>
  have:∃d,(d,v)∈T:=by
   clear h
   induction T with
   |nil=>cases e
   |cons p T ih=>
    rw[RG] at e;split at e
    ·cases e;exact⟨p.1,QR⟩
    ·obtain⟨d,hd⟩:=ih e;exact⟨d,QQ _ hd⟩
  obtain⟨d,hd⟩:=this;exact J QS (J Rn ((SW (SW (h _ hd) 1) 1)))
theorem mW{f:Nat→List Nat}(h:∀c,(f c).length≤6):∀l:List Nat,(l.flatMap f).length≤6*l.length
 |[]=>QM _
 |c::l=>by refine J Sz (J QS (J Rn ?_));have:=mW h l;have:=h c;lia
theorem ue x:(d8 x).length≤6*x.length:=by
 exact aO (ap ..) (J (kY ..) (aO (ap x) ((mW (zW dc) _))))
theorem uf x:(dW x).length≤6*x.length:=by
 exact aO (ap ..) (J (jq ..) (aO (ap x) ((mW (zW dc) _))))
theorem vi x{d}(h:d=34∨d=60):d∉sl (d8 x):=by
 refine J (kY ..) ?_;rcases h with rfl|rfl
 ·exact ib dc dc _
 ·exact ib dc dc _
theorem vj x{d}(h:d=60∨d=62):d∉sl (dW x):=by
 refine J (jq ..) ?_;rcases h with rfl|rfl
 ·exact ib dc dc _
 ·exact ib dc dc _
theorem zX(hp:∀d,d=34∨d=58∨d=60→d∉sl p)(hl:∀d,d=34∨d=58∨d=60→d∉sl l)(lp:p.length≤5)(ll:l.length≤5)(lu:u.length≤39):Fv ⟨p,l,d8 u⟩∧60∉atS ⟨p,l,d8 u⟩∧(atS ⟨p,l,d8 u⟩).length≤260:=by
 have hs:=ue u;refine⟨⟨⟨hp _ (.inl rfl),hp _ (.inr (.inl rfl))⟩,⟨hl _ (.inl rfl),hl _ (.inr (.inl rfl))⟩,vi u (.inl rfl),by exact eG lp,by exact eG ll,by exact ao hs (ao (nB lu) dc)⟩, ?_, ?_⟩
 ·delta atS
  rw[gg];simp only[Q9,QX,not_or];exact⟨⟨⟨dc,hp _ (.inr (.inr rfl)),dc,hl _ (.inr (.inr rfl))⟩,dc⟩,dc,vi u (.inr rfl),dc⟩
 ·delta atS
  rw[gg];simp only[QS,Rn,VB,ap];lia
theorem zY(K:ny us (N::L)):∀a∈nz us L N,Fv a∧60∉atS a∧(atS a).length≤260:=by
 intro a ha;have pn:∀u,∀d,d=34∨d=58∨d=60→d∉sl (bz us u):=fun u d hd=>zR K.len u (by lia);have pl:∀u,(bz us u).length≤5:=fun u=>QU (du K.len).1 dc;rcases Q9.mp ha with ha|ha
 ·obtain⟨p,hp,rfl⟩:=Q4.mp ha;obtain⟨u,hu,rfl⟩:=Q4.mp ((cc _).mem_iff.mp hp);refine zX (fun d hd=> ?_) (pn u) dc (pl u) (vh K (by refine J (cE ..) ?_;exact RK _ hu)).2;rcases hd with rfl|rfl|rfl<;>decide+kernel
 ·cases L with
  |nil=>cases ha
  |cons c L=>
   refine J (QV.mp ha) (zX (pn _) (fun d hd=> ?_) (pl _) dc (QU (K.nm c (QQ _ QR)).len dc));rcases hd with rfl|rfl|rfl<;>decide+kernel
theorem vk p:sl (fG p)=32::(sl p.1++61::34::(sl (d8 p.2)++[34])):=by
 delta fG
 simp only[aM];show [32]++sl p.1++[61,34]++sl (d8 p.2)++[34]=_;simp
theorem vm:((uc us L N).map fG).map sl=(nz us L N).map atS:=by
 unfold uc nz;rw[FE,Rc,Rc,Rc,Rk,Rk,Rk,Rk,Rk,Rk];refine J8 (·++·) ?_ ?_
 ·refine RD fun p _=> ?_;show sl (fG _)=atS _;refine J (vk ..) ?_
  delta atS
  refine J (gg ..) (J (aM ..) ?_);show 32::([120,109,108,110,115,58]++sl p.1++_)=32::([120,109,108,110,115]++58::sl p.1)++_++_;simp
 ·refine RD fun a ha=> ?_;have h:a.1.tag="by":=by
   cases L with
   |nil=>cases ha
   |cons c L=>rw[QV.mp ha]
  simp only[Function.comp];refine J (vk ..) (J (h ..) ?_)
  delta atS
  rw[gg];refine J (aM ..) (J (aM ..) (J (show sl ":"=[58] from rfl) ?_));simp only[Rm,SV,Tc]
theorem Co(K:ny us (N::L)):((cW us (qM N) (uc us L N)).map sl).flatten=60::(sl (dK us N)++((nz us L N).flatMap atS++[62])):=by
 have hA:uc us L N≠[]:=fun q=>by
  have h:=vm (us:=us) (L:=L) (N:=N);rw[q] at h;exact zV K (T0.mp h.symm)
 delta cW
 rw[if_neg hA,Rc,Rc,Sx,Sx];simp only[Q8,RY,U5,XK,Ra];rw[dA,vm,List.flatMap_def]
 delta dK
 rw[aM,aM,aM,aM,show sl "<"=[60] from rfl,show sl ">"=[62] from rfl,show sl ":"=[58] from rfl,show sl ":c"=[58,99] from rfl,show sl (qM N).tag=[99] from rfl,show(qM N).uri=N from rfl];simp only[Rm,SV,Tc]
theorem zZ:sl (fF (bz us N) "c")=60::47::(sl (dK us N)++[62]):=by
 unfold fF dK;simp only[aM];show [60,47]++(sl (bz us N)++[58]++[99])++[62]=60::47::(sl (bz us N)++[58,99]++[62]);simp
end
noncomputable abbrev Jj:Rd:=⟨[],[],[],[]⟩
noncomputable def Pc.put:Pc→Rj→Pc
 | .op t as _,r=> .op t as r
 | .cl t _,r=> .cl t r
theorem z4(r:Rd) c s:r.turn (c.put s)=r.turn c:=by cases c<;>rfl
theorem mX(c:Pc) s:(c.put s).rest=s:=by cases c<;>rfl
noncomputable def jv:Rd→List (Rj×Pc)→Rd→Prop
 |r,[],r'=>r=r'
 |r,q::ps,r'=>(zg r q.1 q.2∧(q.2.rest≠""→(r.turn q.2).way≠[])∧(∀x∈(r.turn q.2).way,x.1<(r.turn q.2).rows.length)∧q.2.rest.length≤10000)∧jv (r.step q.2) ps r'
theorem jv.snoc{q:Rj×Pc}:∀{ps}{r r'},jv r ps r'→(zg r' q.1 q.2∧(q.2.rest≠""→(r'.turn q.2).way≠[])∧(∀x∈(r'.turn q.2).way,x.1<(r'.turn q.2).rows.length)∧q.2.rest.length≤10000)→jv r (ps++[q]) (r'.step q.2):=by
 intro ps
 induction ps with
 |nil=>intro r r' h g;cases(h);exact⟨g,rfl⟩
 |cons p ps ih=>intro r r' h g;exact⟨h.1,ih h.2 g⟩
theorem jv.done:∀{ps}{r r'},jv r ps r'→r'.way=[]→mw r ps∧(ps.map (·.2)).foldl Rd.step r=r':=by
 intro ps
 induction ps with
 |nil=>intro r r' h g;cases(h);exact⟨g,rfl⟩
 |cons p ps ih=>intro r r' h g;exact⟨⟨h.1.1,h.1.2.1,h.1.2.2.1,h.1.2.2.2,(ih h.2 g).1⟩,(ih h.2 g).2⟩
structure ME R0 pre(c:Pc):Prop where
 fits:∀p rest,sl p=pre++sl rest→62∉sl rest→rest.length≤9000→zg R0 p (c.put rest)
 len:pre.length≤1000
 Qe:60∉pre
noncomputable def MF(t:Tg)(R:Rd):Prop:=(t.told=[]∧R=Jj∧t.data=[])∨∃ps R0 pre c,t.rs=true∧jv Jj ps R0∧ME R0 pre c∧R=R0.turn c∧
 sl (R9 "" t.told)=(ps.flatMap fun q=>60::sl q.1)++60::pre∧(∀q∈ps,60∉sl q.1∧q.1.length≤2000)∧ps.length+1≤t.told.length
theorem fL(h:x.length=0):dW x="":=dz (by refine J (jq ..) (J (Rs.mp ((ap x).trans h)) ?_);rfl)
theorem Cp(h:x.length≠0):dW x≠"":=fun q=>h (by
 have:=rz x;rw[q] at this;refine aO this ?_;decide+kernel)
theorem join_snoc(l l':List Rj):sl (R9 "" (l++l'))=sl (R9 "" l)++sl (R9 "" l'):=by
 rw[dA,dA,dA,Rc,Sx]
theorem Tg.DU{t:Tg}(hr:t.rs=true∨t.data=[]):sl (R9 "" t.fl.told)=sl (R9 "" t.told)++sl (dW (R9 "" t.data)):=by
 delta Tg.fl
 by_cases h:t.data=[]
 ·exact J (if_pos h) (J h (J (fL rfl) (((Ra _).symm))))
 ·refine J (if_neg h) ?_
  delta Tg.flush
  dsimp only;refine bl (fun _=> ?_) fun _=> ?_
  ·refine J (join_snoc ..) (J (dA [dW _]) ?_);rfl
  ·rename_i h2;have:(R9 "" t.data).length=0:=by
    by_cases q:(R9 "" t.data).length=0
    ·exact q
    ·exact absurd ⟨q,(hr.resolve_right h)⟩ h2
   exact J (fL this) (((Ra _).symm))
theorem Tg.DV(t:Tg):t.told.length≤t.fl.told.length:=by
 unfold Tg.fl Tg.flush;refine bl (fun _=> ?_) fun _=> ?_
 ·exact QM _
 ·refine bl (fun _=> ?_) fun _=> ?_
  ·exact J QS ((RW _ _))
  ·exact QM _
theorem MF.flush(T:MF t R)(hd:∀d∈t.data,d.length=1)(hl:t.data.length≤100)(hw:t.data≠[]→R.way≠[])(hi:∀x∈R.way,x.1<R.rows.length):
  ∃ps,jv Jj ps (R.tick (dW (R9 "" t.data)))∧sl (R9 "" t.fl.told)=ps.flatMap (fun q=>60::sl q.1)∧(∀q∈ps,60∉sl q.1∧q.1.length≤2000)∧ps.length≤t.told.length:=by
 refine QK fun kG=> ?_;rcases T with⟨h1,h2,h3⟩|⟨ps,R0,pre,c,hr,hg,hc,hR,ht,hq,hn⟩<;>refine kG ?_
 ·refine⟨[], ?_, ?_,fun _ h=>absurd h Rb,Rr _⟩
  ·refine J h3 (J (fL rfl) (J h2 ?_));rfl
  ·refine J (Tg.DU (.inr h3)) (J h1 (J h3 (J (fL rfl) ?_)));rfl
 ·have hx:=uf (R9 "" t.data);replace hx:=(jY hd)▸hx;let rest:=dW (R9 "" t.data);let p:Rj:=ls (pre++sl rest);have hp:sl p=pre++sl rest:=I8 _;have Qf:60∉sl p∧p.length≤2000:=by
   refine⟨fun q=> ?_, ?_⟩
   ·exact(Q9.mp q).elim hc.Qe (vj _ (.inl rfl))
   ·refine aO (ap ..) (J (hp ..) (J (QS ..) (J (ap ..) ?_)));have:=hc.len;lia
  have e:(R0.turn (c.put rest))=R:=by rw[z4,hR]
  have:=hg.snoc (q:=(p,c.put rest)) ⟨hc.fits p rest hp (vj _ (.inr rfl)) (ao hx (ao (nB hl) dc)),by
   intro h;refine J e (hw fun q=>h ?_);refine J (mX ..) ?_;exact fL (q▸rfl),by
   exact e▸hi,by
   exact J (mX ..) (ao hx (ao (nB hl) dc))⟩
  have es:R0.step (c.put rest)=R.tick rest:=by
   show(R0.turn (c.put rest)).tick (c.put rest).rest=_;rw[e,mX]
  refine⟨ps++[(p,c.put rest)],es▸this, ?_,fun q J4=> ?_, ?_⟩
  ·refine J (Tg.DU (.inl hr)) (J (ht ..) (J (List.flatMap_append ..) (J (List.flatMap_singleton ..) ?_)));refine J (hp ..) (J (Rm ..) ?_);rfl
  ·rcases Q9.mp J4 with h|h
   ·exact hq q h
   ·exact(QV.mp h)▸Qf
  ·exact J QS ((hn))
noncomputable def iw(g:jZ→Nat)(l:List Rw):Nat:=(l.map fun x=>g x.cn*x.own).sum
noncomputable def fM(g:jZ→Nat)(l:List Rw):Nat:=(l.map fun x=>g x.cn*x.whole).sum
theorem k7{α:Type}(F:Rw→α){f}(h:∀x,F (f x)=F x) l i:(upd l i f).map F=l.map F:=by
 delta upd
 cases e:l[i]? with
 |none=>rfl
 |some x=>
  refine J (List.map_set ..) (J (h ..) ?_);apply Xn;intro j;refine J Xm (bl (fun _=> ?_) fun _=> ?_)
  ·rename_i q;subst q;refine bl (fun _=> ?_) fun _=> ?_
   ·refine J R3 (J e ?_);rfl
   ·rename_i q2;rw[QP] at q2;have:=(QY.mp e).1;lia
  ·rfl
theorem vn F{f}{d:Nat}:∀{l}{i}{x},l[i]?=some x→F (f x)=F x+d→((upd l i f).map F).sum=(l.map F).sum+d:=by
 intro l
 induction l with
 |nil=>intro i x h;cases h
 |cons y l ih=>
  intro i x h hd;cases i with
  |zero=>
   cases h;exact r9 (AM (a9 (bC hd) (QM _))) (ik (a9 (lg hd) (QM _)))
  |succ i=>
   have e:upd (y::l) (i+1) f=y::upd l i f:=by
    delta upd
    refine J (show(y::l)[i+1]?=l[i]? from rfl) (J h ?_);rfl
   refine J e ?_;show F y+((upd l i f).map F).sum=F y+(l.map F).sum+d;exact(ih h hd)▸Jv
noncomputable def xi(g:jZ→Nat):List Rj→Nat
 |[]=>0
 |N::L=>g (aw (N::L))
noncomputable def em(g:jZ→Nat):List Rj→Nat
 |[]=>0
 |N::L=>g (aw (N::L))+em g L
noncomputable def fb(us:List Rj)(S:List jZ):List Rj→List (Nat×Rj×Nat)→Prop
 |[],W=>W=[]
 |N::L,W=>∃W' i,W=W'++[(i,dK us N,(jt us L).length)]∧S[i]?=some (aw (N::L))∧fb us S L W'
theorem fb.idx:∀{L}{W},fb us S L W→∀x∈W,x.1<S.length:=by
 intro L
 induction L with
 |nil=>intro W h x hx;cases(h)▸hx
 |cons N L ih=>
  intro W h x hx;obtain⟨W',i,rfl,hi,hw⟩:=h;rcases Q9.mp hx with hx|hx
  ·exact ih hw x hx
  ·exact J (QV.mp hx) (((QY.mp hi).1))
theorem fb.more{S S'}:∀{L}{W},(∀u∈(bg L).flatten,u∈us)→fb us S L W→fb (us++e) (S++S') L W:=by
 intro L
 induction L with
 |nil=>intro W _ h;exact h
 |cons N L ih=>
  intro W hm h;obtain⟨W',i,rfl,hi,hw⟩:=h;have h2:=fun u hu=>hm u (J (cE ..) ((Rt _ hu)));refine⟨W',i, ?_, ?_,ih h2 hw⟩
  ·refine J (pA h2) ?_;delta dK;rw[kU (hm N (kZ (.inl rfl)))]
  ·exact(RC (QY.mp hi).1).trans (hi)
theorem fb.len:∀{L}{W},fb us S L W→W.length=L.length:=by
 intro L
 induction L with
 |nil=>intro W h;exact J (h) rfl
 |cons N L ih=>intro W h;obtain⟨W',i,rfl,_,hw⟩:=h;refine J QS (J (ih hw) ?_);rfl
theorem fb.path g:∀{L}{W},fb us S L W→(W.map fun x=>(S[x.1]?.map g).getD 0).sum=em g L:=by
 intro L
 induction L with
 |nil=>intro W h;exact J (h) rfl
 |cons N L ih=>
  intro W h;obtain⟨W',i,rfl,hi,hw⟩:=h;rw[Rc,Uh,ih hw,Si,TF];exact J hi ((SK _ _))
theorem xj g k:∀W(r:Rd),(∀x∈W,x.1<r.rows.length)→
  (r.whole k W).rows.map Rw.cn=r.rows.map Rw.cn∧iw g (r.whole k W).rows=iw g r.rows∧fM g (r.whole k W).rows=fM g r.rows+k*(W.map fun x=>((r.rows.map Rw.cn)[x.1]?.map g).getD 0).sum:=by
 intro W
 induction W with
 |nil=>intro r _;exact⟨rfl,rfl,(XA k).symm▸rfl⟩
 |cons x W ih=>
  intro r h;let r1:Rd:={r with rows:=upd r.rows x.1 fun y=>{y with whole:=y.whole+k}};obtain⟨a,b,c⟩:=ih r1 (fun y hy=>by exact(show r1.rows.length=r.rows.length from hV ..)▸h y (QQ _ hy));have e1:r1.rows.map Rw.cn=r.rows.map Rw.cn:=k7 Rw.cn (f:=fun y=>{y with whole:=y.whole+k}) (fun _=>rfl) _ _;have hx:=h x QR;have hg:=Rg hx;refine⟨a.trans e1,b.trans (congrArg aaL (k7 (fun x:Rw=>g x.cn*x.own) (f:=fun y=>{y with whole:=y.whole+k}) (fun _=>rfl) r.rows x.1)), ?_⟩;show fM g (r1.whole k W).rows=_;rw[c,e1,(show fM g r1.rows=fM g r.rows+g r.rows[x.1].cn*k from vn (fun x:Rw=>g x.cn*x.whole) hg (Zt _ _ _)),Q8,TB,R3,hg,Zt];show _+g r.rows[x.1].cn*k+_=_+(k*g r.rows[x.1].cn+_);rw[XB k (g _),US]
theorem z6{r:Rd}(W:fb us (r.rows.map Rw.cn) L r.way) x g:
  (r.tick (dW x)).rows.map Rw.cn=r.rows.map Rw.cn∧iw g (r.tick (dW x)).rows=iw g r.rows+x.length*xi g L∧fM g (r.tick (dW x)).rows=fM g r.rows+x.length*em g L:=by
 by_cases h0:x.length=0
 ·exact J (fL h0) (J (h0 ..) (J (Xy ..) (J (Xy ..) ((⟨rfl,rfl,rfl⟩)))))
 ·have e:r.tick (dW x)=r.spend x.length:=by
   delta Rd.tick;rw[if_neg (Cp h0),rz]
  refine J e ?_;have MG:=fun y hy=>by have:=W.idx y hy;exact(QP ..)▸this
  cases L with
  |nil=>
   delta Rd.spend
   exact W▸⟨rfl,(XA x.length).symm▸rfl,(XA x.length).symm▸rfl⟩
  |cons N L=>
   refine QK fun kG=> ?_;obtain⟨W',i,hw,hi,hW⟩:=W;refine kG ?_;let r1:Rd:={r with rows:=upd r.rows i fun y=>{y with own:=y.own+x.length}};have e1:r.spend x.length=r1.whole x.length r.way:=by
    delta Rd.spend
    rw[show r.way.getLast?=some (i,dK us N,(jt us L).length) by rw[hw];simp]
   have Ff:i<r.rows.length:=by have:=(QY.mp hi).1;exact(QP ..)▸this
   have hg:=Rg Ff;have fN:r.rows[i].cn=aw (N::L):=by
    rw[R3,hg] at hi;exact Uv hi
   have s1:r1.rows.map Rw.cn=r.rows.map Rw.cn:=k7 Rw.cn (f:=fun y=>{y with own:=y.own+x.length}) (fun _=>rfl) _ _;obtain⟨a,b,c⟩:=xj g x.length r.way r1 (fun y hy=>by exact J (hV ..) ((MG y hy)));refine J e1 (⟨a.trans s1, ?_, ?_⟩)
   ·refine J (b ..) (J ((show iw g r1.rows=iw g r.rows+g r.rows[i].cn*x.length from vn (fun x:Rw=>g x.cn*x.own) hg (Zt _ _ _)) ..) (J (fN ..) (J (XB ..) ?_)));rfl
   ·rw[c,(show fM g r1.rows=fM g r.rows from congrArg aaL (k7 (fun x:Rw=>g x.cn*x.whole) (f:=fun y=>{y with own:=y.own+x.length}) (fun _=>rfl) r.rows i)),s1,fb.path g (L:=N::L) ⟨W',i,hw,hi,hW⟩]
noncomputable abbrev fc(fs:List LF)(l:List (List Rj)):List (List Rj):=l.filter fun w=> !w.contains (aT fs 3)
structure rI fs(r:RS) L(cs tk:List (List Rj)) R:Prop where
 told:MF r.t R
 ai:R.ai=jt r.t.us L
 b8:xh r.t.us R.b8
 Jk:R.b8.length≤2*cs.length
 way:fb r.t.us (R.rows.map Rw.cn) L R.way
 cn:R.rows.map Rw.cn=cs.map aw
 own:∀g,iw g R.rows+r.t.data.length*xi g L=(tk.map (xi g)).sum
 MH:∀g,fM g R.rows+r.t.data.length*em g L=(tk.map (em g)).sum
 dl:r.t.data≠[]→L≠[]
 calls:fc fs r.calls=cs.map Rx
 ticks:fc fs r.ticks=tk.map Rx
 FG:∀w∈cs++tk,w≠[]∧∀N∈w,eE N
theorem jS(h:fb us S L W)(hl:L≠[]):W≠[]:=fun q=>hl (Rs.mp (by refine aO h.len (J q ?_);rfl))
structure MI(r:RS) L(cs tk:List (List Rj))(R:Rd) ps R1:Prop where
 f0:jv Jj ps R1
 f1:sl (R9 "" r.t.fl.told)=ps.flatMap (fun q=>60::sl q.1)
 f2:(∀q∈ps,60∉sl q.1∧q.1.length≤2000)
 f3:ps.length≤r.t.told.length
 f4:R1.ai=jt r.t.us L
 f5:R1.b8=R.b8
 f6:R1.way=R.way
 f7:R1.rows.map Rw.cn=cs.map aw
 f8:(∀g,iw g R1.rows=(tk.map (xi g)).sum)
 f9:(∀g,fM g R1.rows=(tk.map (em g)).sum)
section
variable{fs:List LF}{c e:Nat}{r:RS}{L Ex:List Rj}{cs tk:List (List Rj)}{R:Rd}
theorem rI.N7(S:rI fs r L cs tk R):cs.length≤r.calls.length:=by
 have:=congrArg SF S.calls;rw[QP] at this;exact this▸Sk _ _
theorem rI.flush(S:rI fs r L cs tk R)(I:Inv fs c e r L Ex)(hc:c≤100):∃ps R1,MI r L cs tk R ps R1:=by
 refine QK fun kG=> ?_;obtain⟨ps,h1,h2,h3,h4⟩:=S.told.flush I.d1 (QU I.dat hc) (fun h=>jS S.way (S.dl h)) (fun x hx=>by have:=S.way.idx x hx;rw[QP] at this;exact this);obtain⟨k1,k2,k3,_⟩:=my R (dW (R9 "" r.t.data));refine kG ?_;have ts:=fun g=>z6 S.way (R9 "" r.t.data) g;replace ts:=(jY I.d1)▸ts;exact⟨ps,_,h1,h2,h3,h4,k1.trans S.ai,k2,k3,(ts fun _=>0).1.trans S.cn,fun g=>by refine J ((ts g).2.1) ?_;exact S.own g,fun g=>by refine J ((ts g).2.2) ?_;exact S.MH g⟩
theorem z9(h:us.length≤100) N:(∃c u,sl (dK us N)=c::u∧c≠47)∧32∉sl (dK us N)∧62∉sl (dK us N)∧60∉sl (dK us N)∧(dK us N).length≤6:=by
 have e:sl (dK us N)=sl (bz us N)++[58,99]:=aM _ _;obtain⟨d,hd,_⟩:=pp h N;have hm:∀x,(x=32∨x=60∨x=62)→x∉sl (dK us N):=fun x hx q=>by
  rw[e] at q;rcases Q9.mp q with q|q
  ·exact zR h N (by lia) q
  ·simp at q;lia
 refine⟨⟨110,d++[58,99],by refine J e (J hd ?_);rfl,dc⟩,hm _ (.inl rfl),hm _ (.inr (.inr rfl)),hm _ (.inr (.inl rfl)), ?_⟩;exact aO (ap ..) (J (e ..) (J (QS ..) (J (ap ..) ((SW (du h).1 2)))))
theorem mY{f:At→List Nat}:∀{l:List At},(∀a∈l,(f a).length≤B)→(l.flatMap f).length≤l.length*B
 |[],_=>Rr _
 |a::l,h=>by
  rw[Sz,QS,Rn,Wl,SK];exact Ve (mY fun b hb=>h b (QQ _ hb)) (h a QR)
theorem FH(K:ny us (N::L))(hr:JZ R1 (dK us N) (nz us L N)):ME R1 (sl (dK us N)++((nz us L N).flatMap atS++[62])) (.op (dK us N) (nz us L N) ""):=by
 refine QK fun kG=> ?_;obtain⟨t1,t2,t3,t4,t5⟩:=z9 K.len N;refine kG ?_;have ha:=zY K;have hl:=vg (us:=us) (L:=L) (N:=N);refine⟨fun p rest hp hn hz=>⟨Fw ?_ t1 t2 (zV K) (fun a h=>(ha a h).1) (QU hl dc) hn (QU t5 dc) hz,hr⟩, ?_, ?_⟩
 ·refine J (hp ..) (J (Rm ..) (J (Rm ..) ?_));rfl
 ·have:=mY fun a h=>(ha a h).2.2;rw[QS,QS,ap,Sc];lia
 ·intro q;rcases Q9.mp q with q|q
  ·exact t4 q
  rcases Q9.mp q with q|q
  ·obtain⟨a,h1,h2⟩:=V5.mp q;exact(ha a h1).2.1 h2
  ·exact nomatch q
theorem FI{W}{i k}(h:us.length≤100)(hw:R1.way=W++[(i,dK us N,k)]):ME R1 (47::(sl (dK us N)++[62])) (.cl (dK us N) ""):=by
 obtain⟨t1,t2,t3,t4,t5⟩:=z9 h N;refine⟨fun p rest hp hn hz=> ?_, ?_, ?_⟩
 ·have:=Fy (by refine J hp ?_;simp) t3 hn;exact⟨⟨W,i,k,hw⟩,this.1,this.2,QU t5 dc,QU hz dc⟩
 ·exact J (Rn ..) (J (QS ..) (J (ap ..) (J (Sc ..) ((ao (a9 (a9 t5 (QM _)) (QM _)) dc)))))
 ·intro q;rcases QX.mp q with q|q
  ·cases q
  rcases Q9.mp q with q|q
  ·exact t4 q
  ·exact nomatch q
theorem Inv.N8(I:Inv fs c e r L Ex):ny r.t.us L:=⟨I.tok.len,fun u hu=>I.tok.mem u (I.lvl▸hu),I.nm⟩
theorem Aa g l x(h:x.own=0):iw g (l++[x])=iw g l:=by
 delta iw;rw[Rc,Uh,Si,TF,h];rfl
theorem Ab g l x(h:x.whole=0):fM g (l++[x])=fM g l:=by
 delta fM;rw[Rc,Uh,Si,TF,h];rfl
theorem pC{l:List Rj}(h:z∉l):(!l.contains z)=true:=by
 rw[show l.contains z=false from by rw[←Z8,SN];exact h];rfl
theorem rJ{l:List Rj}(h:z∈l):(!l.contains z)=false:=by
 exact congrArg _ (SN.mpr h)
theorem vo{w}(h:aT fs 3∉w):fc fs (l++[w])=fc fs l++[w]:=by
 show List.filter _ _=_;refine J (UV ..) (J (T2 (p:=fun w:List Rj=> !w.contains (aT fs 3)) (pC h)) ?_);rfl
theorem rK{w}(h:aT fs 3∈w):fc fs (l++[w])=fc fs l:=by
 show List.filter _ _=_;exact J (UV ..) (J (T3 ((rJ h)▸Ry)) ((Ra _)))
theorem Inv.Ac(I:Inv fs c e r L Ex)(h:Ex≠[]):aT fs 3∈L.reverse++Ex:=by
 rcases I.eo with q|⟨E,q⟩
 ·exact absurd q h
 ·refine J q ?_;simp
theorem rI.op(S:rI fs r L cs tk R)(I:Inv fs c e r L [])(F:gx fs){k}(hk:k<4)(hn:aT fs k≠aT fs 3)(hc:c≤40):∃R',rI fs (r.start fs k) (aT fs k::L) (cs++[aT fs k::L]) tk R':=by
 refine QK fun kG=> ?_;obtain⟨ps,R1,h1,h2,h3,h4,h5,h6,h7,h8,h9,pI⟩:=S.flush I (eG hc);have O:=I.op F hk hn hc;have I':=I.vf F hk hn hc;have K':=I'.N8;obtain⟨x,hx,_⟩:=O.us;refine kG ?_;generalize hN:aT fs k=N at*;generalize hr:r.start fs k=r' at*;have y3:=I.N8.mem;have hf:R1.ai=jt r'.t.us L:=by rw[h5,hx,pA y3]
 have AJ:R1.rows.length=cs.length:=by have:=congrArg SF h8;rw[QP,QP] at this;exact this
 have xx:=S.N7;have gi:=I.cl;have Bx:L.length≤100:=by have:=I.len;have:=I.wl;lia
 have N9:xh r'.t.us R1.b8:=fun p hp=>by
  rw[h6] at hp;obtain⟨a,b,d⟩:=S.b8 p hp;exact⟨by refine J hx ?_;exact Rt _ a,by refine J hx (J (kU a) ?_);exact b,d⟩
 refine⟨R1.open (dK r'.t.us N) (nz r'.t.us L N), ?_⟩;have fN:(R1.rows++[R1.row (dK r'.t.us N) (nz r'.t.us L N)]).map Rw.cn=cs.map aw++[aw (N::L)]:=by rw[Rc,h8,Si,(Cn K' hf)]
 have FJ:r'.calls=r.calls++[(N::L).reverse]:=by
  refine aO hr ?_;show r.calls++[aG fs (r.way++[k])]=_;have:=I'.path;rw[←hr] at this;rw[gX F (gY I.wk hk),show(r.way++[k]).map (aT fs)=_ from this,Ra]
 refine⟨.inr ⟨ps,R1,_,_,O.rs,h1,FH K' (FF K' hf N9 Bx (by refine J h6 ?_;have:=S.Jk;lia) (ao (bC AJ) (ao xx (ao gi (ao hc dc)))) (by refine J h7 (J S.way.len ?_);exact eG Bx) fun a h=>(zY K' a h).1),rfl, ?_,h3, ?_⟩, ?_, ?_, ?_, ?_, ?_, ?_, ?_, ?_, ?_, ?_, ?_⟩
 ·rw[O.told,join_snoc,h2,dA,Co K']
 ·refine J O.told (J QS ?_);have:=r.t.DV;have:1≤(cW r'.t.us (qM N) (uc r'.t.us L N)).length:=by delta cW;refine bl (fun _=> ?_) (fun _=> ?_)<;>simp
  lia
 ·show(R1.hd _).ai=_;rw[rG K' hf]
 ·intro p hp;rcases Q9.mp hp with hp|hp
  ·exact N9 p hp
  ·rw[ju K' hf] at hp;exact pB K' p (RK _ hp)
 ·show(R1.b8++R1.fresh _).length≤_;rw[QS,h6,ju K' hf,(cc _).length_eq,QP,QS];have:=S.Jk;have:=mV (L:=L) (N:=N);refine J Sc ?_;lia
 ·refine⟨R1.way,R1.rows.length,by refine aO hf ?_;rfl, ?_, ?_⟩
  ·show((R1.rows++[_]).map Rw.cn)[_]?=_;rw[fN,Rh (by rw[QP,AJ];exact QM _),QP,AJ,RU];rfl
  ·refine J fN (J hx (J h7 ?_));have:=S.way;rw[S.cn] at this;exact this.more y3
 ·refine J fN (J Rc ?_);rfl
 ·intro g;refine J (Aa g _ _ rfl) (J (O.data ..) (J (h9 ..) ?_));simp
 ·intro g;refine J (Ab g _ _ rfl) (J (O.data ..) (J (pI ..) ?_));simp
 ·exact fun _=>by simp
 ·refine J FJ ?_;refine(vo (by rw[Uz];exact I'.lo)).trans ?_;refine J S.calls (J Rc ?_);rfl
 ·exact J (show r'.ticks=r.ticks by exact aO hr rfl) ((S.ticks))
 ·intro w hw;rw[Rm] at hw;rcases Q9.mp hw with hw|hw
  ·exact S.FG w (Rt _ hw)
  ·rcases Q9.mp hw with hw|hw
   ·exact J (QV.mp hw) ((⟨by simp,I'.nm⟩))
   ·exact S.FG w (RK _ hw)
theorem rI.cl(S:rI fs r L cs tk R)(I:Inv fs c e r L [])(aU:r.way≠[])(hc:c≤40):∃L' R',Inv fs c (e+1) (r.fin fs) L' []∧rI fs (r.fin fs) L' cs tk R':=by
 refine QK fun kG=> ?_;obtain⟨ps,R1,h1,h2,h3,h4,h5,h6,h7,h8,h9,pI⟩:=S.flush I (eG hc);obtain⟨N,L',hL,C,I'⟩:=I.Jh aU;refine kG ?_;subst hL;refine QK fun kG=> ?_;obtain⟨W,i,hw,hi,Qg⟩:=S.way;refine kG ?_;have Oa:=h7.trans hw;have e1:R1.close={R1 with way:=W,ai:=jt r.t.us L'}:=by
  delta Rd.close
  refine J Oa (J h5 (J Vw (J TN ?_)));show Rd.mk _ _ ((jt r.t.us L'++_).take (jt r.t.us L').length) _=_;rw[VK]
 refine⟨L',R1.close,I', ?_⟩;have DA:r.t.rs=true:=by
  rcases S.told with⟨_,q,_⟩|⟨_,_,_,_,q,_⟩
  ·rw[q] at hw;exact absurd hw (by simp)
  ·exact q
 refine⟨.inr ⟨ps,R1,_,_,C.rs.trans DA,h1,FI I.tok.len Oa,rfl, ?_,h3, ?_⟩, ?_, ?_, ?_, ?_, ?_, ?_, ?_, ?_,S.calls,S.ticks,S.FG⟩
 ·rw[C.told,join_snoc,h2,dA];simp only[Q8,RY,U5,XK,Ra];rw[zZ]
 ·refine J C.told (J QS ?_);exact J Sc ((a9 (ao h4 r.t.DV) (QM _)))
 ·rw[e1,C.us]
 ·refine J e1 (J C.us ?_);exact J h6 ((S.b8))
 ·exact J e1 (J h6 ((S.Jk)))
 ·refine J e1 (J C.us ?_);exact J h8 (aO S.cn ((Qg)))
 ·exact J e1 ((h8))
 ·intro g;refine J e1 (J C.data ?_);refine J (h9 ..) ?_;simp
 ·intro g;refine J e1 (J C.data ?_);refine J (pI ..) ?_;simp
 ·exact C.data▸fun h=>absurd rfl h
theorem rI.FK(S:rI fs r L cs tk R)(I:Inv fs c e r L [])(F:gx fs)(aU:r.way≠[]) x:rI fs (r.tick fs x) L cs (tk++[L]) R:=by
 have hL:L≠[]:=fun q=>aU (Rs.mp (by refine aO I.len (J q ?_);rfl));have et:(r.tick fs x).t={r.t with data:=r.t.data++[BK ((x.fdiv 5).fmod 10).toNat]}:=if_pos I.ig;have Jl:(r.tick fs x).t.data.length=r.t.data.length+1:=J et ((QS));have lT:(r.tick fs x).ticks=r.ticks++[L.reverse]:=by
  show r.ticks++[aG fs r.way]=_;rw[gX F I.wk,I.path,Ra]
 refine⟨?_,by refine J et ?_;exact S.ai,by refine J et ?_;exact S.b8,S.Jk,by exact et▸S.way,S.cn,fun g=> ?_,fun g=> ?_,fun _=>hL,S.calls, ?_, ?_⟩
 ·rcases S.told with⟨_,q,_⟩|h
  ·exact absurd (congrArg _ q) (jS S.way hL)
  ·exact J et ((.inr h))
 ·rw[Jl,Rc,Uh,←S.own g,Si,TF,Wl,US]
 ·rw[Jl,Rc,Uh,←S.MH g,Si,TF,Wl,US]
 ·refine J lT ?_;refine(vo (by rw[Uz];exact I.lo)).trans ?_;refine J S.ticks (J Rc ?_);rfl
 ·intro w hw;rw[←Rm] at hw;rcases Q9.mp hw with hw|hw
  ·exact S.FG w hw
  ·exact(QV.mp hw)▸⟨hL,I.nm⟩
theorem rI.same(S:rI fs r L cs tk R){r'}{i}(ht:r'.t={r.t with ig:=i})(hc:fc fs r'.calls=fc fs r.calls)(hk:fc fs r'.ticks=fc fs r.ticks):rI fs r' L cs tk R:=by
 refine⟨by refine J ht ?_;exact S.told,by refine J ht ?_;exact S.ai,by refine J ht ?_;exact S.b8,S.Jk,by refine J ht ?_;exact S.way,S.cn,fun g=>by refine J ht ?_;exact S.own g,fun g=>by refine J ht ?_;exact S.MH g,by exact ht▸S.dl,hc.trans S.calls,hk.trans S.ticks,S.FG⟩
end
structure ug fs(c e:Nat) r(L Ex:List Rj)(cs tk:List (List Rj)) R:Prop where
 inv:Inv fs c e r L Ex
 sim:rI fs r L cs tk R
 Cq:∀x∈r.calls++r.ticks,oY x
noncomputable abbrev GoodR(fs:List LF)(c e:Nat)(r:RS):Prop:=∃L Ex cs tk R,ug fs c e r L Ex cs tk R
theorem Inv.mono(I:Inv fs c (e+1) r L Ex):Inv fs (c+1) e r L Ex:=
 ⟨I.wk,I.path,I.lo,I.eo,I.ig,I.Ch,I.lvl,I.tok,I.k,QU I.us (nB (gh (QM _))),RV I.dat,I.d1,QU I.told (MT (MT (lg Ke))),RV I.cl,RV I.tl,RV I.wl,I.nm⟩
theorem Ad(F:gx fs){way}(h:∀j∈way,j<4)(hn:way≠[])(hl:way.length≤100):oY (aG fs way):=by
 refine J (gX F h) (⟨fun q=>hn (T0.mp q),by refine J (QP ..) ?_;exact hl,fun x hx=> ?_⟩);obtain⟨j,hj,rfl⟩:=Q4.mp hx;exact(F.ub (h j hj)).ok
section
variable{fs:List LF}{c e:Nat}{r:RS}{L Ex:List Rj}{cs tk:List (List Rj)}{R:Rd}
theorem ug.start(G:ug fs c e r L Ex cs tk R)(F:gx fs){k}(hk:k<4)(hc:c≤40):GoodR fs (c+1) e (r.start fs k):=by
 have I:=G.inv;have hw:∀x∈(r.start fs k).calls++(r.start fs k).ticks,oY x:=fun x hx=>by
  have hx:x∈(r.calls++[aG fs (r.way++[k])])++r.ticks:=hx;rw[Rm,Q9,Q9,QV] at hx;rcases hx with h|h|h
  ·exact G.Cq x (Rt _ h)
  ·refine J h ?_;refine Ad F (gY I.wk hk) (by simp) ?_;exact J QS (Sc▸adr (ao I.wl (ao hc dc)))
  ·exact G.Cq x (RK _ h)
 by_cases h:Ex≠[]∨aT fs k=aT fs 3
 ·obtain⟨I',et⟩:=I.zP hk h;refine⟨L,_,cs,tk,R,I',G.sim.same et ?_ rfl,hw⟩;refine rK ?_;rw[gX F (gY I.wk hk),show(r.way++[k]).map (aT fs)=_ from I'.path];exact I'.Ac (by simp)
 ·rw[not_or,Classical.not_not] at h;obtain⟨h1,h2⟩:=h;subst h1;obtain⟨R',S'⟩:=G.sim.op I F hk h2 hc;exact⟨_,_,_,_,R',I.vf F hk h2 hc,S',hw⟩
theorem ug.tick(G:ug fs c e r L Ex cs tk R)(F:gx fs)(hn:r.way≠[])(hc:c≤40) x:GoodR fs (c+1) e (r.tick fs x):=by
 have I:=G.inv;have hw:∀y∈(r.tick fs x).calls++(r.tick fs x).ticks,oY y:=fun y hy=>by
  have hy:y∈r.calls++(r.ticks++[aG fs r.way]):=hy;rw[←Rm,Q9,QV] at hy;rcases hy with h|h
  ·exact G.Cq y h
  ·exact J h (Ad F I.wk hn (by exact ao I.wl (ao hc dc)))
 by_cases h:Ex=[]
 ·subst h;exact⟨L,[],cs,_,R,I.tick x,G.sim.FK I F hn x,hw⟩
 ·refine⟨L,Ex,cs,tk,R,I.tick x,G.sim.same (i:=r.t.ig) ?_ rfl ?_,hw⟩
  ·refine if_neg fun q=>h (Rs.mp ?_);have:=I.ig;lia
  ·refine rK ?_;exact J (gX F I.wk) (J I.path ((I.Ac h)))
theorem ug.fin(G:ug fs c e r L Ex cs tk R)(hn:r.way≠[])(hc:c≤40):GoodR fs c (e+1) (r.fin fs):=by
 have I:=G.inv;rcases Td Ex with h|⟨X,N,h⟩
 ·subst h;obtain⟨L',R',I',S'⟩:=G.sim.cl I hn hc;exact⟨L',[],cs,tk,R',I',S',G.Cq⟩
 ·obtain⟨I',et⟩:=I.FC (X:=X) (N:=N) (by refine J h ?_;simp);exact⟨L,X,cs,tk,R,I',G.sim.same et rfl rfl,G.Cq⟩
end
theorem GoodR.J6(G:GoodR fs c e r)(F:gx fs)(hc:c≤28)(he:e≤28):Iv fs r:=by
 obtain⟨_,_,_,_,_,G⟩:=G;exact G.inv.J6 F hc he
theorem xk(F:gx fs){c}(hc:c≤28):∀(m e:Nat) r,r.way.length=m→e+m≤28→GoodR fs c e r→mu fs m r∧∃e',e'≤28∧GoodR fs c e' (r.down fs m)∧(r.down fs m).way=[]:=by
 intro m
 induction m with
 |zero=>intro e r h he G;exact⟨Rs.mp h,e,by exact he,G,Rs.mp h⟩
 |succ m ih=>
  intro e r h he G;have hn:r.way≠[]:=fun q=>by cases q▸h
  have hw:(r.fin fs).way.length=m:=by refine J Vv (J h ?_);rfl
  have G':GoodR fs c (e+1) (r.fin fs):=by obtain⟨_,_,_,_,_,G⟩:=G;exact G.fin hn (eG hc)
  exact⟨⟨hn,G.J6 F hc (lb he),(ih (e+1) (r.fin fs) hw (ik he) G').1⟩,(ih (e+1) (r.fin fs) hw (ik he) G').2⟩
theorem Jm(x:Int):(x.fmod 4).toNat<4:=(ct x (b:=4) dc).2
theorem xl(F:gx fs){c}{r}(hc:c≤28)(G:GoodR fs c 0 r) x(hn:r.way≠[]∨x=0):GoodR fs (c+1) 0 (r.step fs x)∧(r.step fs x).way≠[]:=by
 refine QK fun kG=> ?_;obtain⟨L,Ex,cs,tk,R,G⟩:=G;refine kG ?_;unfold RS.step;refine bl (fun _=> ?_) fun _=> ?_
 ·exact⟨G.start F (Jm _) (eG hc),by show r.way++[_]≠[];simp⟩
 ·rename_i h0;have hn:=hn.resolve_right fun q=>h0 (by refine J q ?_;decide);refine bl (fun _=> ?_) fun _=> ?_
  ·obtain⟨_,_,_,_,_,G'⟩:=G.fin hn (eG hc);refine⟨⟨_,_,_,_,_,G'.inv.mono,G'.sim,G'.Cq⟩, ?_⟩;show r.way.dropLast≠[];intro q;have:=congrArg SF q;rw[Vv,VB] at this;omega
  ·exact⟨G.tick F hn (eG hc) x,hn⟩
theorem Ae(F:gx fs):∀ds c r,ds.length+c≤28→GoodR fs c 0 r→(r.way≠[]∨∃MW,ds=0::MW)→nV fs ds r∧∃c e',c≤28∧e'≤28∧GoodR fs c e' (r.run fs ds)∧(r.run fs ds).way=[]:=by
 intro ds
 induction ds with
 |nil=>
  intro c r hc G hn;have hw:r.way.length≤28:=by
   obtain⟨_,_,_,_,_,G⟩:=G;have:=G.inv.wl;simp at hc;exact ao this hc
  refine QK fun kG=> ?_;obtain⟨a,e',he,g,w⟩:=xk F (by simpa using hc) r.way.length 0 r rfl (vy hw) G;exact kG (⟨a,c,e',by simpa using hc,he,g,w⟩)
 |cons x ds ih=>
  intro c r hc G hn;obtain⟨G',w'⟩:=xl F (DY hc) G x (hn.imp (fun h=>h) fun⟨_,h⟩=>(Ux h).1);exact⟨⟨G.J6 F (DY hc) dc,(ih (c+1) (r.step fs x) (ik hc) G' (.inl w')).1⟩,(ih (c+1) (r.step fs x) (ik hc) G' (.inl w')).2⟩
theorem uh{ex}(he:ex=cN (aT fs 3)):GoodR fs 0 0 ⟨Tg.t0 ex,[],[],[]⟩:=by
 refine⟨[],[],[],[],Jj,⟨fun _ h=>absurd h Rb,rfl,Rb, .inl rfl,rfl,he,rfl,⟨fun _ h=>absurd h Rb,Rr _,SE,Rb⟩,rfl,QM _,QM _,fun _ h=>absurd h Rb,QM _,QM _,QM _,QM _,fun _ h=>absurd h Rb⟩,
  ⟨.inl ⟨rfl,rfl,rfl⟩,rfl,fun _ h=>absurd h Rb,QM _,rfl,rfl,fun _=>rfl,fun _=>rfl,fun h=>absurd rfl h,rfl,rfl,fun _ h=>absurd h Rb⟩,fun _ h=>absurd h Rb⟩
theorem Cr xs:nV (mN xs) (fa xs) ⟨Tg.t0 (B3 xs),[],[],[]⟩∧∃c e',c≤28∧e'≤28∧GoodR (mN xs) c e' (endOf xs)∧(endOf xs).way=[]:=by
 refine Ae (Cf xs) (fa xs) 0 _ ?_ (uh rfl) (.inr ⟨_,rfl⟩);refine J QS (J Vo ?_);have:d0.length=18:=rfl;lia
theorem snoc_ind{α:Type}{P:List α→Prop}(h0:P [])(h1:∀l a,P l→P (l++[a])) l:P l:=by
 refine aO (List.reverse_reverse l) ?_
 induction l.reverse with
 |nil=>exact h0
 |cons a l ih=>exact J Sg ((h1 _ _ ih))
theorem rL x:∀(l pre:List Rj),av pre (l++[x])=av pre l++(if x∈pre++l then [] else [x]):=by
 intro l
 induction l with
 |nil=>
  intro pre;show(if pre.contains x then av _ [] else x::av _ [])=[]++_;rw[Ra,Tc];by_cases h:x∈pre
  ·refine J (if_pos (SN.mpr h)) (J (if_pos h) ?_);rfl
  ·refine J (if_neg (fun q=>h (SN.mp q))) (J (if_neg h) ?_);rfl
 |cons y l ih=>
  intro pre;show(if pre.contains y then av (pre++[y]) (l++[x]) else y::av (pre++[y]) (l++[x]))=(if pre.contains y then av (pre++[y]) l else y::av (pre++[y]) l)++_;refine J (ih ..) (J (show pre++[y]++l=pre++y::l by simp) ?_);split
  ·rfl
  ·rfl
theorem eF x l:av [] (l++[x])=av [] l++(if x∈l then [] else [x]):=rL x l []
theorem bu l x:x∈av [] l↔x∈l:=by
 induction l using snoc_ind with
 |h0=>exact Iff.rfl
 |h1 l a ih=>
  rw[eF,Q9,Q9,ih];by_cases h:a∈l
  ·exact J (if_pos h) ((⟨fun q=>q.elim .inl fun q=>absurd q Rb,fun q=>q.elim .inl fun q=> .inl (QV.mp q▸h)⟩))
  ·rw[if_neg h]
theorem jw l:(av [] l).Nodup:=by
 induction l using snoc_ind with
 |h0=>exact SE
 |h1 l a ih=>
  refine J (eF ..) ?_;by_cases h:a∈l
  ·exact J (if_pos h) (J (Ra ..) ((ih)))
  ·rw[if_neg h,Tn];refine⟨ih,Sa.mpr ⟨Rb,SE⟩,fun x hx y hy q=>h ?_⟩;rw[QV.mp hy] at q;exact q▸(bu l x).mp hx
noncomputable def pD{α β:Type}(key:α→Rj)(pF:List α→β)(l:List α):List (Rj×β):=(av [] (l.map key)).map fun k=>(k,pF (l.filter fun a=>key a==k))
theorem rM key(pF:List α→β) l:(pD key pF l).map (·.1)=av [] (l.map key):=by
 delta pD;exact Rk.trans (List.map_id _)
theorem Af{β:Type}(f:Rj→β) k:∀l:List Rj,(l.map fun x=>(x,f x)).lookup k=if k∈l then some (f k) else none:=by
 intro l
 induction l with
 |nil=>rfl
 |cons x l ih=>
  refine J Q8 (J RG (J ih ?_));by_cases h:k=x
  ·subst h;simp
  ·refine J (beq_eq_false_iff_ne.mpr h) ?_;by_cases q:k∈l
   ·rw[if_pos q,if_pos (QQ _ q)]
   ·rw[if_neg q,if_neg fun z=>(QX.mp z).elim h q]
section
variable{α β:Type}{key:α→Rj}{f:α→Option β→β}{pF:List α→β}
theorem iR(H:∀l a,pF (l++[a])=f a (if l.isEmpty then none else some (pF l))) l:l.foldl (fun t a=>cZ t (key a) (f a (t.lookup (key a)))) []=pD key pF l:=by
 induction l using snoc_ind with
 |h0=>rfl
 |h1 l a ih=>
  refine J VV (J ih ?_);show cZ (pD key pF l) (key a) (f a ((pD key pF l).lookup (key a)))=_;have Ag:∀k,(l++[a]).filter (fun b=>key b==k)=l.filter (fun b=>key b==k)++if key a=k then [a] else []:=fun k=>by
   refine J (UV ..) (J8 (·++·) rfl ?_);by_cases h:key a=k
   ·refine J (if_pos h) (J (T2 (by simpa using h)) ?_);rfl
   ·refine J (if_neg h) (J (T3 (by simpa using h)) ?_);rfl
  have hm:key a∈l.map key↔l.filter (fun b=>key b==key a)≠[]:=by
   constructor
   ·intro h q;obtain⟨b,hb,e⟩:=Q4.mp h;have:b∈l.filter (fun b=>key b==key a):=RO.mpr ⟨hb,by simpa using e⟩;cases q▸this
   ·intro h;obtain⟨b,hb⟩:=List.exists_mem_of_ne_nil _ h;exact Q4.mpr ⟨b,(RO.mp hb).1,by simpa using(RO.mp hb).2⟩
  have hl:(pD key pF l).lookup (key a)=if key a∈l.map key then some (pF (l.filter fun b=>key b==key a)) else none:=by
   delta pD
   rw[Af (fun k=>pF (l.filter fun b=>key b==k))];by_cases h:key a∈l.map key
   ·rw[if_pos h,if_pos ((bu _ _).mpr h)]
   ·rw[if_neg h,if_neg fun q=>h ((bu _ _).mp q)]
  have hk:=rM key pF l;refine J hl ?_;unfold pD at hk⊢;refine J (Rc ..) (J (Si ..) (J (eF ..) ?_));by_cases h:key a∈l.map key
  ·have aU:=hm.mp h;refine J (if_pos h) (J (if_pos h) (J (Ra ..) ?_))
   delta cZ
   rw[if_pos]
   ·refine J Rk ?_;refine RD fun k _=> ?_;show(if k=key a then(k,_) else(k,_))=(k,_);refine J (Ag ..) ?_;by_cases q:k=key a
    ·subst q;rw[if_pos rfl,if_pos rfl,H,if_neg]
     ·rw[Z6];exact aU
    ·rw[if_neg q,if_neg (fun z=>q z.symm),Ra]
   ·rw[UB];exact⟨_,Q4.mpr ⟨key a,(bu _ _).mpr h,rfl⟩,by simp⟩
  ·have he:=QK fun q=>h (hm.mpr q);rw[if_neg h,if_neg h,qX (by rw[hk];exact fun q=>h ((bu _ _).mp q)),Rc];refine J8 (·++·) (RD fun k hk=> ?_) ?_
   ·have:key a≠k:=fun q=>h (q▸(bu _ _).mp hk);rw[Ag,if_neg this,Ra]
   ·rw[Si,Ag,if_pos rfl,he,H];rfl
end
noncomputable def eU(v:Rw→Nat)(l:List Rw):Nat:=(l.map v).sum
theorem eL v l r:eU v (l++[r])=eU v l+v r:=by delta eU;rw[Rc,Uh,Si,TF]
noncomputable def nA(plain:Bool)(l:List Rw):CV:=if plain then .n l.length else .f [l.length,(eU Rw.first l:Nat),(eU Rw.own l:Nat),(eU (fun r=>r.whole*r.first) l:Nat)]
noncomputable def mZ(r:Rw):Bool:= !(r.caller=="")
noncomputable def kH(plain:Bool)(l:List Rw):S5:=⟨(eU Rw.new l:Nat),l.length,(eU Rw.own l:Nat),(eU (fun r=>r.whole*r.new) l:Nat),pD Rw.caller (nA plain) (l.filter mZ)⟩
noncomputable abbrev Qh(plain:Bool)(r:Rw):CV:=if plain then .n 1 else .f r.four
noncomputable def Jn(v:CV):Option CV→CV
 |some o=>v.add o
 |none=>v
theorem xm plain l(a:Rw):nA plain (l++[a])=Jn (Qh plain a) (if l.isEmpty then none else some (nA plain l)):=by
 cases plain with
 |true=>
  cases l with
  |nil=>rfl
  |cons b l=>
   show CV.n _=CV.n _;exact J QS rfl
 |false=>
  have h:nA false (l++[a])=(CV.f a.four).add (nA false l):=by
   show CV.f _=CV.f _;refine J (QS ..) (J (eL ..) (J (eL ..) (J (eL ..) ?_)));refine congrArg CV.f ?_;show _=[1+(l.length:Int),a.first+_,a.own+_,a.whole*a.first+_];simp only[UW,TG,and_true];refine⟨Ug _ _,Ug _ _,Ug _ _,Ug _ _⟩
  cases l with
  |nil=>
   refine J h ?_;rfl
  |cons b l=>exact h
theorem Ah{f:α→Option β→β}{pF}(H:∀l a,pF (l++[a])=f a (if l.isEmpty then none else some (pF l))) l a:pD key pF (l++[a])=cZ (pD key pF l) (key a) (f a ((pD key pF l).lookup (key a))):=by
 rw[←iR H,←iR H,VV];rfl
theorem xn plain l a:kH plain (l++[a])=(kH plain l).add (a.s5 plain):=by
 have hc:pD Rw.caller (nA plain) ((l++[a]).filter mZ)=gT (dZ [] (kH plain l).cs) (a.cs plain):=by
  refine J ((show dZ [] (kH plain l).cs=(kH plain l).cs from iP _ [] (J (rM ..) ((jw _)))) ..) (J (UV ..) ?_)
  delta Rw.cs
  by_cases h:a.caller=""
  ·rw[if_pos (by rw[h];rfl),T3 (by delta mZ;refine J h ?_;decide)];exact J (Ra ..) rfl
  ·rw[if_neg (by rw[beq_iff_eq];exact h),T2 (congrArg _ (beq_eq_false_iff_ne.mpr h))];show pD _ _ (_++[a])=cZ (kH plain l).cs a.caller _;rw[Ah (xm plain)];show cZ _ _ (Jn _ ((kH plain l).cs.lookup a.caller))=_;cases(kH plain l).cs.lookup a.caller<;>rfl
 unfold kH S5.add at*;rw[hc,eL,eL,eL,QS];refine congr (congr (congr (congr (congrArg S5.mk ?_) ?_) ?_) ?_) rfl
 ·exact(UW _ _).trans (Ug _ _)
 ·exact(UW _ _).trans (Ug _ _)
 ·exact(UW _ _).trans (Ug _ _)
 ·exact(UW _ _).trans (Ug _ _)
theorem xo plain rows:mM plain rows=pD Rw.nm (kH plain) rows:=
 iR (key:=Rw.nm) (f:=fun r o=>(o.getD ko).add (r.s5 plain)) (fun l a=>by
  refine J (xn ..) ?_;cases l with
  |nil=>rfl
  |cons b l=>rfl) rows
theorem FL x f:∀ks:List Rj,(ks.map fun k=>f k+if x=k then 1 else 0).sum=(ks.map f).sum+ks.count x:=by
 intro ks
 induction ks with
 |nil=>rfl
 |cons k ks ih=>
  rw[Q8,TB,ih,Q8,TB,List.count_cons];by_cases h:x=k
  ·subst h;refine J (if_pos rfl) (J (if_pos (beq_self_eq_true _)) ?_);lia
  ·rw[if_neg h,if_neg (by rw[beq_iff_eq];exact fun q=>h q.symm)];exact Jv
theorem xp{α:Type} key(l:List α):((av [] (l.map key)).map fun k=>(l.filter fun a=>key a==k).length).sum=l.length:=by
 induction l using snoc_ind with
 |h0=>rfl
 |h1 l a ih=>
  have Ag:∀k,((l++[a]).filter (fun b=>key b==k)).length=(l.filter (fun b=>key b==k)).length+if key a=k then 1 else 0:=fun k=>by
   refine J (UV ..) (J (QS ..) ?_);by_cases h:key a=k
   ·refine J (if_pos h) (J (T2 (by simpa using h)) ?_);rfl
   ·refine J (if_neg h) (J (T3 (by simpa using h)) ?_);rfl
  rw[RD fun k _=>Ag k,FL,QS,Rc,Si,eF];by_cases h:key a∈l.map key
  ·rw[if_pos h,Ra,ih,rH (jw _),if_pos ((bu _ _).mpr h)];rfl
  ·rw[if_neg h,Rc,Uh,ih,Si,TF,(YT.mpr fun b hb q=>h (Q4.mpr ⟨b,hb,by simpa using q⟩)),List.count_append,XR fun q=>h ((bu _ _).mp q)];exact J Yj rfl
theorem oj N L:bM (N::L).reverse=N:=by delta bM;refine J Sg (J TN ?_);rfl
theorem xq(N c:Rj) L:ei (N::c::L).reverse=c:=by delta ei;rw[Sg,Vw,oj]
theorem m3(a N:Rj):∀v,steps (v++[a]++[N])=steps (v++[a])++[(a,N)]
 |[]=>rfl
 |[x]=>rfl
 |x::y::v=>by
  show(x,y)::steps (y::v++[a]++[N])=(x,y)::(steps (y::v++[a])++_);rw[m3 a N (y::v)]
theorem ii:∀w,steps w.reverse=(bt w).reverse
 |[]=>rfl
 |[_]=>rfl
 |N::c::L=>by
  rw[show bt (N::c::L)=(c,N)::bt (c::L) from rfl,Sg (as:=bt (c::L)),←ii (c::L),Sg,Sg,m3]
theorem vp{α:Type}{v}{p:α→Bool}:∀{l:List α},(∀w∈l,v w=if p w then 1 else 0)→(l.map v).sum=(l.filter p).length:=by
 intro l
 induction l with
 |nil=>intro _;rfl
 |cons a l ih=>
  intro h;rw[Q8,TB,h a QR,ih fun w hw=>h w (QQ _ hw),UA];split
  ·rw[Rn,SK]
  ·rw[TU]
theorem ij{l:List (List Rj)}{p q}(h:∀w∈l,p w.reverse=q w):(l.map Rx).filter p=(l.filter q).map Rx:=by
 exact UR.trans (congrArg _ (U6 fun w hw=>h w hw))
theorem xr g r l:iw g (r::l)=g r.cn*r.own+iw g l:=rfl
theorem xt g r l:fM g (r::l)=g r.cn*r.whole+fM g l:=rfl
theorem on v r l:eU v (r::l)=v r+eU v l:=rfl
theorem Cs(q:jZ→Bool) l:eU Rw.own (l.filter fun r=>q r.cn)=iw (fun s=>if q s then 1 else 0) l:=by
 induction l with
 |nil=>rfl
 |cons r l ih=>
  refine J (xr ..) (aO (ih ..) (J (UA ..) ?_));split
  ·rw[Zs,on]
  ·rw[Xy,TU]
theorem Ct(q:jZ→Bool)(v:jZ→Nat) l:eU (fun r=>r.whole*v r.cn) (l.filter fun r=>q r.cn)=fM (fun s=>if q s then v s else 0) l:=by
 induction l with
 |nil=>rfl
 |cons r l ih=>
  refine J (xt ..) (aO (ih ..) (J (UA ..) ?_));split
  ·rw[XB,on]
  ·rw[Xy,TU]
theorem Cu m:∀w,em (fun s=>if s.nm==m then s.new else 0) w=if m∈w then 1 else 0:=by
 intro w
 induction w with
 |nil=>rfl
 |cons N L ih=>
  have e:(fun s:jZ=>if s.nm==m then s.new else 0) (aw (N::L))=if N=m then(if N∈L then 0 else 1) else 0:=by
   cases L with
   |nil=>
    show(if N==m then 1 else 0)=_;by_cases h:N=m
    ·rw[if_pos (by simpa using h),if_pos h,if_neg Rb]
    ·rw[if_neg (by simpa using h),if_neg h]
   |cons c L=>
    show(if N==m then(if N∈c::L then 0 else 1) else 0)=_;by_cases h:N=m
    ·rw[if_pos (by simpa using h),if_pos h]
    ·rw[if_neg (by simpa using h),if_neg h]
  show _+em _ L=_;refine J e (J ih ?_);by_cases h:N=m
  ·subst h;refine J (if_pos rfl) (J (if_pos QR) ?_);by_cases q:N∈L
   ·rw[if_pos q,if_pos q]
   ·rw[if_neg q,if_neg q]
  ·refine J (if_neg h) (J (TU ..) ?_);by_cases q:m∈L
   ·rw[if_pos q,if_pos (QQ _ q)]
   ·rw[if_neg q,if_neg fun z=>(QX.mp z).elim (fun z=>h z.symm) q]
theorem xu(c m:Rj)(hc:c≠""):∀w,em (fun s=>if s.nm==m&&s.caller==c then s.first else 0) w=if(c,m)∈bt w then 1 else 0:=by
 intro w
 induction w with
 |nil=>rfl
 |cons N L ih=>
  cases L with
  |nil=>
   refine J (if_neg (Rb)) ?_;show(if N==m&&""==c then 0 else 0)+0=0;refine bl (fun _=> ?_) (fun _=> ?_)<;>rfl
  |cons b L=>
   show(if N==m&&b==c then(if(b,N)∈bt (b::L) then 0 else 1) else 0)+em _ (b::L)=if(c,m)∈(b,N)::bt (b::L) then 1 else 0
   refine J ih ?_;by_cases h:N=m∧b=c
   ·obtain⟨rfl,rfl⟩:=h;refine J (if_pos (by simp)) (J (if_pos (QR)) ?_);by_cases q:(b,N)∈bt (b::L)
    ·rw[if_pos q,if_pos q]
    ·rw[if_neg q,if_neg q]
   ·refine J (if_neg (by simpa using h)) (J (TU ..) ?_);by_cases q:(c,m)∈bt (b::L)
    ·rw[if_pos q,if_pos (QQ _ q)]
    ·rw[if_neg q,if_neg fun z=>(QX.mp z).elim (fun z=>h ⟨(aaG z).2.symm,(aaG z).1.symm⟩) q]
theorem k8 b:(((1+b:Nat):Int)==1)=true↔b=0:=by rw[beq_iff_eq];lia
theorem pG{w}(h:w≠[]):bM w.reverse=(aw w).nm:=by
 match w,h with
 |[N],_=>rfl
 |N::c::L,_=>exact oj N (c::L)
theorem vq{w}(h:w≠[])(hn:∀N∈w,eE N):ej w.reverse= !((aw w).caller=="")∧(ej w.reverse=true→ei w.reverse=(aw w).caller):=by
 match w,h with
 |[N],_=>exact⟨rfl,fun q=>by cases q⟩
 |N::c::L,_=>
  refine⟨?_,fun _=>xq N c L⟩;show decide ((((N::c::L).reverse.length:Nat):Int)>1)= !(c=="");refine J (beq_eq_false_iff_ne.mpr ((hn c (QQ _ QR)).ne)) (J WM ?_);exact decide_eq_true (by simp only[Rn];lia)
theorem Cv{w}{m}(h:w≠[])(hm:(aw w).nm=m):(aw w).new=if(((w.reverse.count m:Nat):Int)==1) then 1 else 0:=by
 subst hm;refine J ZE ?_
 match w,h with
 |[N],_=>
  exact J Yj rfl
 |N::c::L,_=>
  show(if N∈c::L then 0 else 1)=if((((N::c::L).count N:Nat):Int)==1) then 1 else 0
  refine J (Zf ..) (J (SK ..) ?_);by_cases q:N∈c::L
  ·rw[if_pos q,if_neg];rw[k8];exact fun z=>VJ.mp z q
  ·rw[if_neg q,if_pos ((k8 _).mpr (VJ.mpr q))]
theorem MJ(N c:Rj) L:(N::c::L).reverse=L.reverse++[c,N]:=by simp
theorem Cw(a b c m:Rj):([a,b]==[c,m])=(b==m&&a==c):=by
 rw[aaw];simp[and_comm]
theorem Cy{w}{c m:Rj}(h:w≠[])(hc:c≠""):gb c m w.reverse=((aw w).nm==m&&(aw w).caller==c):=by
 match w,h with
 |[N],_=>
  show([N]==[c,m])=(N==m&&""==c);exact J (beq_eq_false_iff_ne.mpr fun q=>hc q.symm) (J (Wy ..) ((beq_eq_false_iff_ne.mpr (by simp))))
 |N::b::L,_=>
  show((N::b::L).reverse.drop ((N::b::L).reverse.length-2)==[c,m])=(N==m&&b==c);rw[MJ,QS,show L.reverse.length+[b,N].length-2=L.reverse.length from rfl,T7,Cw]
theorem Ai{w}{c m}(hm:(aw w).nm=m)(hc:(aw w).caller=c)(h:c≠""):(aw w).first=if mD (c,m) (steps w.reverse) then 1 else 0:=by
 match w with
 |[]=>exact absurd hc (fun q=>h q.symm)
 |[N]=>exact absurd hc (fun q=>h q.symm)
 |N::b::L=>
  subst hm;subst hc
  delta mD
  refine J (ii ..) (J (ZE ..) ?_);show(if(b,N)∈bt (b::L) then 0 else 1)=if(((((b,N)::bt (b::L)).count (b,N):Nat):Int)==1) then 1 else 0
  refine J (Zf ..) (J (SK ..) ?_);by_cases q:(b,N)∈bt (b::L)
  ·rw[if_pos q,if_neg];rw[k8];exact fun z=>VJ.mp z q
  ·rw[if_neg q,if_pos ((k8 _).mpr (VJ.mpr q))]
theorem Aj{w}{c m:Rj}(h:w≠[])(hc:c≠""):((steps w.reverse).drop ((steps w.reverse).length-1)==[(c,m)])=((aw w).nm==m&&(aw w).caller==c):=by
 match w,h with
 |[N],_=>
  refine J (beq_eq_false_iff_ne.mpr fun q=>hc q.symm) (J (Wy ..) ?_);rfl
 |N::b::L,_=>
  rw[ii,show bt (N::b::L)=(b,N)::bt (b::L) from rfl,Sg,QS,Sc,UY,T7];show([(b,N)]==[(c,m)])=(N==m&&b==c);rw[aaw];simp[and_comm]
section
variable{rows:List Rw}{cs tk:List (List Rj)}
theorem rN(fN:rows.map Rw.cn=cs.map aw)(q:jZ→Bool)(v:jZ→Nat):eU (fun r=>v r.cn) (rows.filter fun r=>q r.cn)=((cs.filter fun w=>q (aw w)).map fun w=>v (aw w)).sum:=by
 have h1:(rows.filter fun r=>q r.cn).map (fun r=>v r.cn)=((rows.map Rw.cn).filter q).map v:=by refine J UR (J Rk ?_);rfl
 have h2:((cs.filter fun w=>q (aw w)).map fun w=>v (aw w))=((cs.map aw).filter q).map v:=by refine J UR (J Rk ?_);rfl
 delta eU
 rw[h1,h2,fN]
theorem rO(fN:rows.map Rw.cn=cs.map aw){α:Type}(q:jZ→Bool)(v:jZ→α):(rows.filter fun r=>q r.cn).map (fun r=>v r.cn)=((cs.filter fun w=>q (aw w)).map fun w=>v (aw w)):=by
 have h1:(rows.filter fun r=>q r.cn).map (fun r=>v r.cn)=((rows.map Rw.cn).filter q).map v:=by refine J UR (J Rk ?_);rfl
 have h2:((cs.filter fun w=>q (aw w)).map fun w=>v (aw w))=((cs.map aw).filter q).map v:=by refine J UR (J Rk ?_);rfl
 rw[h1,h2,fN]
theorem rP(fN:rows.map Rw.cn=cs.map aw)(q:jZ→Bool):(rows.filter fun r=>q r.cn).length=(cs.filter fun w=>q (aw w)).length:=by
 have:=congrArg SF (rO fN q fun s=>s);rwa [QP,QP] at this
theorem Ak(sH:∀g,iw g rows=(tk.map (xi g)).sum)(aU:∀w∈tk,w≠[])(q:jZ→Bool){p}(hp:∀w∈tk,p w.reverse=q (aw w)):eU Rw.own (rows.filter fun r=>q r.cn)=((tk.map Rx).filter p).length:=by
 refine J (Cs ..) (J (sH ..) (J (ij hp) (J (QP ..) ?_)));refine vp fun w hw=> ?_;cases w with
 |nil=>exact absurd rfl (aU _ hw)
 |cons N L=>rfl
theorem Al(Cz:∀g,fM g rows=(tk.map (em g)).sum)(q:jZ→Bool)(v:jZ→Nat){p:List Rj→Bool}(hp:∀w∈tk,em (fun s=>if q s then v s else 0) w=if p w.reverse then 1 else 0):eU (fun r=>r.whole*v r.cn) (rows.filter fun r=>q r.cn)=((tk.map Rx).filter p).length:=by
 exact J (Ct ..) (J (Cz ..) (J (UR ..) (J (QP ..) ((vp fun w hw=>hp w hw)))))
theorem Am(fN:rows.map Rw.cn=cs.map aw)(sH:∀g,iw g rows=(tk.map (xi g)).sum)(Cz:∀g,fM g rows=(tk.map (em g)).sum)(aU:∀w∈cs++tk,w≠[]∧∀N∈w,eE N) plain:
  (mM plain rows).map (pV plain)=(mG (cs.map Rx) (tk.map Rx)).map (rZ plain):=by
 have zf:=fun w hw=>(aU w (Rt _ hw)).1;have J9:=fun w hw=>(aU w (RK _ hw)).1;have FM:rows.map Rw.nm=(cs.map Rx).map bM:=by
  rw[Rk,show rows.map Rw.nm=(rows.map Rw.cn).map jZ.nm by rw[Rk];rfl,fN,Rk];exact RD fun w hw=>(pG (zf w hw)).symm
 refine J (xo ..) ?_;unfold pD mG;refine J FM ?_;generalize av [] ((cs.map Rx).map bM)=ks;refine J Rk (J Rk ?_);refine RD fun m _=> ?_;show pV plain (m,kH plain (rows.filter fun r=>r.nm==m))=rZ plain (mF (cs.map Rx) (tk.map Rx) m);let l:=cs.filter fun w=>(aw w).nm==m;have hl:∀w∈l,w∈cs∧(aw w).nm=m:=fun w hw=>by simpa [l] using hw
 have sN:=fun w hw=>zf w (hl w hw).1;have Jl:=fun w hw=>(aU w (Rt _ (hl w hw).1)).2;have a1:eU Rw.new (rows.filter fun r=>r.nm==m)=((l.map Rx).filter fun w=>((w.count m:Nat):Int)==1).length:=by
  exact J (ij (fun _ _=>rfl)) (J (QP ..) (((rN fN (fun s=>s.nm==m) jZ.new).trans (vp fun w hw=>Cv (sN w hw) (hl w hw).2))))
 have a4:eU (fun r=>r.whole*r.new) (rows.filter fun r=>r.nm==m)=((tk.map Rx).filter fun w=>w.contains m).length:=Al Cz (fun s=>s.nm==m) jZ.new fun w _=>by
  refine J (Cu ..) ?_;by_cases h:m∈w
  ·rw[if_pos h,if_pos (SN.mpr (Uz.mpr h))]
  ·rw[if_neg h,if_neg fun q=>h (Uz.mp (SN.mp q))]
 let l2:=l.filter fun w=> !((aw w).caller=="");have d4:∀w∈l2,w∈l∧((aw w).caller=="")=false:=fun w hw=>by
  have:=RO.mp hw;exact⟨this.1,by simpa using this.2⟩
 have Qi:∀(q:jZ→Bool),(rows.filter fun r=>r.nm==m).filter (fun r=>q r.cn)=rows.filter fun r=>(r.cn.nm==m&&q r.cn):=fun q=>by
  exact UU.trans (U6 fun r _=>YB _ _)
 have Qj:(cs.filter fun w=>((aw w).nm==m&& !((aw w).caller=="")))=l2:=by
  show _=(cs.filter _).filter _;exact J UU ((U6 fun w _=>YB _ _))
 have b0:((rows.filter fun r=>r.nm==m).filter mZ).map Rw.caller=((l.map Rx).filter ej).map ei:=by
  refine J (ij fun w hw=>(vq (sN w hw) (Jl w hw)).1) (J Rk (J (Qi fun s=> !(s.caller=="")) ?_));refine(rO fN (fun s=>s.nm==m&& !(s.caller=="")) jZ.caller).trans (J Qj ?_);refine RD fun w hw=> ?_;have h:=d4 w hw;have k:=vq (sN w h.1) (Jl w h.1);exact(k.2 (by refine J k.1 (J h.2 ?_);rfl)).symm
 have b1:((rows.filter fun r=>r.nm==m).filter mZ).length=((l.map Rx).filter ej).length:=by
  have:=congrArg SF b0;rwa [QP,QP] at this
 have xx:∀c∈av [] (((l.map Rx).filter ej).map ei),c≠"":=fun c hc q=>by
  rw[←b0] at hc;obtain⟨r,hr,e⟩:=Q4.mp ((bu _ _).mp hc);have:=(RO.mp hr).2;unfold mZ at this;rw[e,q] at this;exact absurd this dc
 have key:∀c:Rj,c≠""→(.tup [.str c,(nA plain (((rows.filter fun r=>r.nm==m).filter mZ).filter fun r=>r.caller==c)).v]:V)=rY plain (mE (l.map Rx) (tk.map Rx) m c):=fun c hc=>by
  have hg:((rows.filter fun r=>r.nm==m).filter mZ).filter (fun r=>r.caller==c)=rows.filter fun r=>(r.cn.nm==m&&r.cn.caller==c):=by
   refine J UU (J UU ?_);refine U6 fun r _=> ?_;show((r.caller==c&& !(r.caller==""))&&r.nm==m)=(r.nm==m&&r.caller==c);by_cases h:r.caller=c
   ·refine J (h ..) (J (beq_self_eq_true ..) (J (beq_eq_false_iff_ne.mpr hc) (J (YB ..) ?_)));rfl
   ·refine J (beq_eq_false_iff_ne.mpr h) (J (Wy ..) ?_);rfl
  let lc:=cs.filter fun w=>((aw w).nm==m&&(aw w).caller==c);have E9:(l.map Rx).filter (gb c m)=lc.map Rx:=by
   refine J (ij fun w hw=>Cy (sN w hw) hc) (congrArg _ ?_);refine J UU (U6 fun w _=> ?_);cases(aw w).nm==m<;>simp
  have c2:eU Rw.first (rows.filter fun r=>(r.cn.nm==m&&r.cn.caller==c))=((lc.map Rx).filter fun w=>mD (c,m) (steps w)).length:=by
   refine J (ij (fun _ _=>rfl)) (J (QP ..) ?_);refine(rN fN (fun s=>s.nm==m&&s.caller==c) jZ.first).trans (vp fun w hw=> ?_);have:=(RO.mp hw).2;rw[Q5,beq_iff_eq,beq_iff_eq] at this;exact Ai this.1 this.2 hc
  have c4:eU (fun r=>r.whole*r.first) (rows.filter fun r=>(r.cn.nm==m&&r.cn.caller==c))=((tk.map Rx).filter fun w=>(steps w).contains (c,m)).length:=Al Cz (fun s=>s.nm==m&&s.caller==c) jZ.first fun w _=>by
   rw[xu c m hc,ii];by_cases h:(c,m)∈bt w
   ·rw[if_pos h,if_pos (SN.mpr (Uz.mpr h))]
   ·rw[if_neg h,if_neg fun q=>h (Uz.mp (SN.mp q))]
  refine J hg ?_;unfold rY mE nA;dsimp only;rw[E9,(show(rows.filter fun r=>(r.cn.nm==m&&r.cn.caller==c)).length=(lc.map Rx).length by exact J (QP ..) ((rP fN (fun s=>s.nm==m&&s.caller==c)))),c2,(show eU Rw.own (rows.filter fun r=>(r.cn.nm==m&&r.cn.caller==c))=((tk.map Rx).filter fun w=>(steps w).drop ((steps w).length-1)==[(c,m)]).length from Ak sH J9 (fun s=>s.nm==m&&s.caller==c) fun w hw=>Aj (J9 w hw) hc),c4];cases plain<;>rfl
 unfold pV rZ mF kH;dsimp only;rw[(show(cs.map Rx).filter (fun w=>bM w==m)=l.map Rx from ij fun w hw=>by rw[pG (zf w hw)]),a1,(show(rows.filter fun r=>r.nm==m).length=(l.map Rx).length by exact J (QP ..) ((rP fN (fun s=>s.nm==m)))),(show eU Rw.own (rows.filter fun r=>r.nm==m)=((tk.map Rx).filter fun w=>bM w==m).length from Ak sH J9 (fun s=>s.nm==m) fun w hw=>by rw[pG (J9 w hw)]),a4];have FN:cw (dY (pD Rw.caller (nA plain) ((rows.filter fun r=>r.nm==m).filter mZ)))=((av [] (((l.map Rx).filter ej).map ei)).map (mE (l.map Rx) (tk.map Rx) m)).map (rY plain):=by
  unfold pD dY vals cw;exact J b0 (J Rk (J Rk (J Rk ((RD fun c hc=>key c (xx c hc))))))
 refine J FN ?_;cases plain with
 |false=>rfl
 |true=>
  have BD:((pD Rw.caller (nA true) ((rows.filter fun r=>r.nm==m).filter mZ)).map fun q=>q.2.num).sum=((((l.map Rx).filter ej).length:Nat):Int):=by
   refine b1▸(xp Rw.caller ((rows.filter fun r=>r.nm==m).filter mZ))▸(J Rk ?_);generalize av [] _=ks
   induction ks with
   |nil=>rfl
   |cons k ks ih=>
    rw[Q8,TB,ih,Q8,TB];exact(UW _ _).symm
  exact BD▸rfl
end
theorem vr{α:Type}{k}{f}{l:List α}(h:∀x∈l,(f x).nh k=true):(l.map f).all (V.nh k)=true:=by
 rw[VE,R8];exact h
theorem rQ(a b c d k:Nat):(four a b c d).nh (k+1)=true:=V.kL rfl
theorem FO{K T}(h:∀x∈K,oY x) plain:(V.lst ((mG K T).map (rZ plain))).ok=true:=by
 refine V.nG (V.kK (k:=4) (vr fun d hd=> ?_)) dc;obtain⟨m,hm,rfl⟩:=Q4.mp hd;obtain⟨w,hw,rfl⟩:=Q4.mp ((bu _ _).mp hm);refine V.kL ?_;have h1:(V.lst ((mF K T (bM w)).cs.map (rY plain))).nh 3=true:=by
  refine V.kK (vr fun d hd=> ?_);obtain⟨c,hc,rfl⟩:=Q4.mp hd;obtain⟨v,hv,rfl⟩:=Q4.mp ((bu _ _).mp hc);have Ob:=RO.mp hv;have zn:1<v.length:=by
   have:=of_decide_eq_true Ob.2;exact co this
  have hp:QZ (ei v)=true:=(h v ((RO.mp Ob.1).1)).ok _ (List.dropLast_subset _ (hZ fun q=>by
   have:=congrArg SF q;rw[Vv,VB] at this;omega))
  refine V.kL ?_;rw[Sy,Sy,show(mE _ T (bM w) (ei v)).caller=ei v from rfl,V.fX hp,Ul];cases plain
  ·exact J (rQ ..) rfl
  ·exact J (V.ux ..) rfl
 rw[Sy,Sy,Sy,Sy,show(mF K T (bM w)).name=bM w from rfl,V.fX ((fun w hw=>(h w hw).ok _ (hZ (h w hw).ne)) w hw),rQ,h1];cases plain
 ·exact J (V.xQ ..) rfl
 ·exact J (V.ux ..) rfl
theorem CA:∀(l:List (Rj×Pc)) x,jn 60 (x::l.map fun q=>sl q.1)=x++l.flatMap fun q=>60::sl q.1:=by
 intro l
 induction l with
 |nil=>intro x;exact(Ra x).symm
 |cons q l ih=>
  intro x;show x++60::jn 60 (sl q.1::l.map fun q=>sl q.1)=x++(60::sl q.1++_);exact J (ih ..) rfl
theorem xv w:em (fun _=>1) w=w.length:=by
 induction w with
 |nil=>rfl
 |cons N L ih=>show 1+em _ L=L.length+1;rw[ih,SK]
theorem CB{f:Rw→Nat}:∀{l:List Rw}{r},r∈l→f r≤(l.map f).sum:=by
 intro l
 induction l with
 |nil=>intro r h;cases h
 |cons a l ih=>
  intro r h;refine J Q8 (J TB ?_);rcases QX.mp h with rfl|h
  ·exact RW _ _
  ·exact QU (ih h) (VD _ _)
theorem An{f}:∀{l:List (List Rj)},(∀w∈l,f w≤B)→(l.map f).sum≤l.length*B
 |[],_=>Rr _
 |a::l,h=>by
  rw[Q8,TB,Rn,Wl,SK];exact Ve (An fun w hw=>h w (QQ _ hw)) (h a QR)
theorem Ao{w}(h:w≠[])(hn:∀N∈w,eE N):(aw w).caller.length≤19∧(aw w).nm.length≤19∧(aw w).new≤1∧(aw w).first≤1:=by
 match w,h with
 |[N],_=>exact⟨Rr _,(hn N QR).len,QM _,Rr _⟩
 |N::c::L,_=>
  refine⟨(hn c (QQ _ QR)).len,(hn N QR).len, ?_, ?_⟩
  ·show(if _ then 0 else 1)≤1;refine bl (fun _=> ?_) (fun _=> ?_)<;>decide
  ·show(if _ then 0 else 1)≤1;refine bl (fun _=> ?_) (fun _=> ?_)<;>decide
theorem vt:∀{l:List (Rj×Pc)},(∀q∈l,q.1.length≤B)→(l.flatMap fun q=>60::sl q.1).length≤l.length*(B+1)
 |[],_=>Rr _
 |q::l,h=>by
  rw[Sz,QS,Rn,Rn,Wl,SK,ap];exact Ve (vt fun w hw=>h w (QQ _ hw)) (TE (h q QR))
theorem Jo xs:(f3 xs).text=aT (mN xs) 3:=(pk _).1.symm
theorem FQ xs:rg xs:=by
 obtain⟨MK,c,e,hc,he,⟨L,Ex,cs,tk,R,G⟩,hw⟩:=Cr xs;have I:=G.inv;have S:=G.sim;have hlen:=I.len;replace hlen:=hw▸hlen;have hL:=Rs.mp (Nat.eq_zero_of_add_eq_zero_right hlen);subst hL;obtain⟨ps,R1,h1,h2,h3,h4,_,_,h7,h8,h9,pI⟩:=S.flush I (eG hc);replace h2:=(show(endOf xs).t.fl=(endOf xs).t from if_pos (QK fun q=>S.dl q rfl))▸h2;obtain⟨d1,d2⟩:=h1.done (h7▸S.way);have cl:=I.cl;have tl:=I.tl;have i8:ps.length≤168:=ao h4 (ao I.told (ao (a9 (nB hc) (nB he)) dc));have hsz:(textOf xs).length≤340000:=by
  refine aO (ap ..) (J (h2) ?_);have:=vt fun q hq=>(h3 q hq).2;lia
 have oT:RP (textOf xs) "<"=("":Rj)::ps.map (·.1):=by
  refine cP (c:=60) ?_ (SH _ _) fun q hq=> ?_
  ·exact J (h2) (J Q8 (J Rk (((CA ps []).symm))))
  ·rcases QX.mp hq with rfl|hq
   ·exact Rb
   ·obtain⟨p,hp,rfl⟩:=Q4.mp hq;exact(h3 p hp).1
 have hk:∀l,iE xs l=fc (mN xs) l:=fun l=>by delta iE;rw[Jo]
 have MB:tk.length≤28:=by
  have:=congrArg SF S.ticks;rw[QP] at this;exact this▸QU (Sk _ _) (QU tl hc)
 have Qk:∀w∈tk,em (fun _=>1) w≤100:=fun w hw=>by
  refine J (xv ..) (aO (WM ..) ?_);exact(G.Cq _ (RK _ (RO.mp (show w.reverse∈fc (mN xs) (endOf xs).ticks by exact J S.ticks ((Tu hw)))).1)).len
 have AJ:R1.rows.length=cs.length:=by have:=congrArg SF h8;rwa [QP,QP] at this
 refine⟨MK,G.Cq,⟨by exact ao cl (ao hc dc),by exact ao tl (ao hc dc)⟩, ?_,by exact eG hsz,⟨"",ps,oT,by exact eG i8,fun q hq=> ?_,d1,fun r hr=> ?_, ?_, ?_⟩, ?_⟩
 ·delta Xb
  refine J (joinTotal ..) (J (show "".length=0 from rfl) (J (XA ..) ?_));have e1:((endOf xs).t.told.map (·.length)).sum=(textOf xs).length:=by
   exact aO (ap ..) (J (dA _) (J (Zo ..) (J (Rk ..) ((congrArg aaL (RD fun x _=>(ap x).symm))))))
  refine J e1 ?_;have:tooLong ((textOf xs).length+0)=false:=by
   delta tooLong;exact Rv▸decide_eq_false (len (a9 (ao hsz dc) (QM _)))
  exact this▸rfl
 ·replace hq:=oT▸hq;rcases QX.mp hq with rfl|hq
  ·exact Rr _
  ·obtain⟨p,hp,rfl⟩:=Q4.mp hq;exact QU (h3 p hp).2 dc
 ·rw[show(ps.map (·.2)).foldl Rd.step ⟨[],[],[],[]⟩=R1 from d2] at hr;obtain⟨w,hw,ew⟩:=Q4.mp (h8▸Tu hr);have hc:=S.FG w (Rt _ hw);obtain⟨s1,s2,s3,s4⟩:=Ao hc.1 hc.2;rw[ew] at s1 s2 s3 s4;have Ql:r.whole≤fM (fun _=>1) R1.rows:=by
   refine QU (Uf (Zs _).symm) (CB (f:=fun x:Rw=>1*x.whole) hr)
  rw[pI] at Ql;have:=An Qk;exact⟨QU s1 dc,QU s2 dc,QU s3 dc,QU s4 dc,by lia⟩
 ·exact J (d2) (J AJ ((ao S.N7 (ao cl (ao hc dc)))))
 ·rw[show(ps.map (·.2)).foldl Rd.step ⟨[],[],[],[]⟩=R1 from d2,hk,hk,show fc _ _=_ from S.calls,show fc _ _=_ from S.ticks];exact Am h8 h9 pI S.FG _
 ·exact J (hk ..) ((FO (fun x hx=>G.Cq x (Rt _ (RO.mp hx).1)) _))
theorem Ka:r8.Holds:=xc fun xs _=>⟨FQ xs,(pk _).2.ok⟩
end Mine.Internal
theorem PySem.Challenge.cw_ph0175_01_holds : PySem.Challenge.rw_ph0175_01.Holds :=
  Mine.Internal.Ka
