import PyProof.Rows.All
import Wide.All
import OpenK.AllK
import Wide.FinOn
import Wide.More
import PyProof.ExcClass
import PyProof.ExcBaseAll.ValueError
import PyProof.IsInstanceH
import PyProof.Rows.RaiseClass
import KE.KTypeOf
import PyProof.TupleOfSeq
import PyProof.ExcStrCall
import PyProof.RulesAs
import KE.KPar
import Lean
import PySem.Challenge.RW_kq0032_06
open PySem PySem.W PySem.Calls PyProof.Rows
set_option Elab.async false
set_option linter.all false
set_option maxRecDepth 100000
set_option genSizeOf false
set_option compiler.extract_closed false
local macro_rules | `(tactic| omega) => `(tactic| first | lia | omega +splitDisjunctions)
namespace Mine
section
theorem iF.{u}{α:Sort u}{a b:α}:(if false=true then a else b)=b:=rfl
theorem iT.{u}{α:Sort u}{a b:α}:(if true=true then a else b)=a:=rfl
theorem iG.{u}{α:Sort u}{a b:α}:(if False then a else b)=b:=rfl
theorem iU.{u}{α:Sort u}{a b:α}:(if True then a else b)=a:=rfl
theorem iH.{u}{α:Sort u}{a b:α}:(if ¬(false=true)then a else b)=a:=rfl
theorem iV.{u}{α:Sort u}{a b:α}:(if ¬(true=true)then a else b)=b:=rfl
theorem nT:(!true)=false:=rfl
theorem nF:(!false)=true:=rfl
theorem aT{b:Bool}:(true&&b)=b:=rfl
theorem aF{b:Bool}:(false&&b)=false:=rfl
theorem oT{b:Bool}:(true||b)=true:=rfl
theorem oF{b:Bool}:(false||b)=b:=rfl
@[elab_as_elim] theorem rE.{u}{α:Sort u}{a b:α}{motive:α→Prop}(h:a=b)(k:motive b):motive a:=h▸k
end
local macro_rules | `(tactic| rewrite [$rs,*])=>do
 let mut t ← `(tactic| skip)
 for r in rs.getElems do
  let e:Lean.Term:=⟨r.raw[1]⟩
  let e ← if r.raw[0].isNone then pure e else `(Eq.symm $e)
  t ← `(tactic| ($t;first | with_reducible refine Mine.rE $e ?_ | with_reducible refine Mine.rE ($e ..) ?_ | rewrite +offsetCnstrs [$r]))
 return t
open _root_.And renaming intro → BQ
open _root_.Array renaming length_toList → aO, getElem?_eq_some_iff → cE, getElem?_eq_none → eD, getD_eq_getD_getElem? → eE, eq_empty_of_size_eq_zero → fQ, toList_push → iZ, size_map → ib, getElem?_modify → jB, getElem?_eq_getElem → lX, size_push → nO, mem_of_getElem? → oI, getElem?_push → qg, ext_getElem? → rR, toList_inj → tj, getElem?_eq_none_iff → wa, getD → wj, perm_iff_toList_perm → wk, isEmpty_eq_false_iff → wy, mem_toList_iff → DO, any_toList → Il, replicate → JV
open _root_.Bool renaming noConfusion → aD, false_eq_true → aL, and_eq_true → ae, or_eq_true → dT, and_eq_true_iff → gj, and_false → lD, and_self → rQ, not_true → rU, decide_or → xu, or_false → zk, not_eq_true → JT, eq_iff_iff → LZ, false_and → Mp, true_and → Ol
open _root_.Classical renaming not_not → kR
open _root_.Function renaming comp_def → qq
open _root_.Iff renaming rfl → JR
open _root_.Int renaming natCast_nonneg → au, ofNat_lt → cD, ofNat_le → ct, not_lt → fm, le_of_lt → gw, emod_lt_of_pos → iS, negSucc_lt_zero → kT, le_trans → kg, zero_add → oB, emod_nonneg → ou, ediv_nonneg → pA, ediv_lt_of_lt_mul → pZ, toNat_sub → rY, add_sub_cancel → sf, add_zero → tZ, lt_trans → td, ediv_one → te, max_eq_right → vg, one_mul → vq, min_eq_left → wm, not_le → zJ, fdiv_eq_ediv_of_nonneg → zQ, ofNat → BS, zero_mul → D6, ne_of_gt → DE, sub_add_cancel → Iq, mul_nonneg → OX, add_assoc → PT, ofNat_sub → Pd, mul_zero → Td, toNat_lt → U7, mul_one → Uy, le_refl → Uz, sub_neg → VD
open _root_.Int.ofNat renaming inj → GW
open _root_.List renaming mem_cons_of_mem → aG, mem_cons_self → aH, map_cons → aK, eq_nil_of_length_eq_zero → aP, getElem?_eq_getElem → aU, mem_append → aZ, length_cons → af, mem_cons → aq, isPrefixOf_iff_prefix → bB, range → bF, mem_singleton → bG, getElem?_eq_some_iff → bI, lookup_cons → bQ, append_assoc → bU, all_eq_true → bc, nil_append → bg, length_append → bh, length → bo, range' → bp, getElem?_map → cH, mem_append_left → cK, length_map → cP, filterMap_cons → cS, map_congr_left → cT, mem_map → cV, map_map → cm, nodup_append → cy, dropLast_concat_getLast → d8, mem_of_getElem? → dF, take_of_length_le → dM, getElem?_append_right → dN, length_singleton → dZ, getElem_idxOf → dk, nodup_cons → dy, map_append → dz, nodup_nil → eY, drop_eq_getElem_cons → ey, append_nil → f9, forIn_cons → fA, count_append → fD, length_take → fT, idxOf_lt_length_of_mem → gM, perm_ext_iff_of_nodup → gf, exists_cons_of_ne_nil → gi, filter_cons → gr, range'_succ → gu, mem_map_of_mem → gy, any_cons → iA, filterMap_map → iE, count_eq_zero → iI, reverse_cons → ik, dropLast_eq_take → jM, not_mem_nil → jP, isEmpty_nil → jS, getElem_mem → jT, map_take → jb, sum_cons → jc, mem_filter → ju, forIn_nil → lB, filterMap → lC, length_eraseIdx_of_lt → lE, pairwise_iff_getElem → lg, getElem?_append_left → lh, take_add_one → mL, mem_reverse → mx, range_succ_eq_map → nC, erase → nP, mem_append_right → oy, reverse_reverse → qD, mem_erase_of_ne → qE, length_erase_le → qF, exists_cons_of_length_eq_add_one → qe, length_flatten → qt, length_pos_iff → qu, mem_filterMap → rZ, getElem?_drop → rg, zip_nil_right → rh, filter_append → rj, size_toArray → tO, eraseIdx_eq_take_drop_succ → tm, mem_flatMap → uB, take_length → uE, length_drop → uF, prefix_refl → uG, getElem_inj → uJ, zipIdx_cons → uK, map_reverse → uL, take_append → uM, find?_cons → vt, prefix_append_right_inj → vw, drop_zero → xt, take_left → xv, getD_eq_getElem?_getD → xw, perm_append_singleton → xx, mem_range → xy, all_cons → zj, getLast_eq_getElem → BD, filter_eq_nil_iff → BU, forall_mem_cons → EK, mem_of_mem_take → EO, length_dropLast → EP, range'_append_1 → ER, zip_cons_cons → GR, find?_eq_none → GU, prefix_append → GX, forIn_toArray → Ga, map_filterMap → Gd, mem_range'_1 → J1, drop_length → JL, cons_append → JS, head?_drop → LP, filter_nil → Lb, range_succ → Ld, foldl_cons → Lh, map → Mo, take_take → Mt, map_drop → Oh, lookup → Ti, not_lt → U8, head? → V1
open _root_.List.Nodup renaming length_le_of_subset → c9
open _root_.List.Pairwise renaming filter → vf, filterMap → UB
open _root_.List.cons renaming injEq → mO
open _root_.Nat renaming le_trans → aJ, zero_lt_succ → bA, lt_trans → bD, lt_of_le_of_lt → bH, le_of_not_lt → bV, le_refl → bX, le_add_right → bf, lt_of_lt_of_le → bj, lt_succ_self → bx, le_of_lt → cF, le_add_left → cQ, sub_lt_sub_left → cU, ne_of_gt → cW, mul_assoc → cj, le_of_lt_succ → cz, lt_of_le_of_ne → dE, le_of_eq → dP, sub_eq_zero_of_le → dh, not_lt_of_le → dp, zero_add → eQ, lt_irrefl → eR, not_lt → ei, le_succ_of_le → fJ, mul_comm → fK, le_antisymm → fx, zero_le → gm, div_lt_of_lt_mul → gp, add_sub_cancel_left → iX, lt_of_not_le → jW, mul_add → jo, not_lt_zero → kP, add_comm → km, pow_succ → kq, lt_add_of_pos_right → n6, mod_eq_of_lt → n7, le_of_succ_le_succ → oC, eq_zero_of_not_pos → oE, add_zero → oH, mod_lt → oJ, min_eq_left → oq, two_pow_pos → pB, mul_one → qh, add_mul → qi, pred → qj, ne_of_lt → th, succ_le_succ → vd, one_mul → vx, sub_le → zS, lt_one_iff → zW, add_assoc → BI, le_total → D7, lt_or_ge → DN, lt_of_succ_lt_succ → DP, pos_of_ne_zero → Iy, add_right_comm → J0, lt_trichotomy → JP, mul_left_comm → JU, div_eq_of_lt → Li, div_add_mod → Mv, succ → Od, succ_pos → U3, sub_zero → U9, blt → UA, add_mod → VF, blt_eq → YL, not_le → YR
open _root_.Nat.succ renaming inj → qr
open _root_.Ne renaming symm → aN
open _root_.Option renaming isSome_iff_exists → aY, ne_none_iff_exists' → bL, none → bw, map_eq_some_iff → dJ, map_some → i0, bind_eq_some_iff → mP, getD_none → Gb
open _root_.Option.some renaming inj → aE, injEq → jv
open _root_.Or renaming elim → fY
open _root_.PUnit renaming unit → Ts
open _root_.Prod renaming fst → EJ
open _root_.PyProof renaming noPylong_small → zP
open _root_.PyProof.Rows renaming StrsAre → aQ, strAt → ek, subscriptTail → ia, tail_any → sa, lo1 → BE, AccAt → GS, getItem_tuple → V3, neg_int → V4, is_ref_none → V6, CompPost → Y9, IsTup → YC, atT → YK
open _root_.PySem renaming wpAny_bind → aA, wpAny_pure → aC, strLen_append → aI, wpAny_mono → aM, wpAny → aR, model → aS, sizeLine_eq → aa, mainGlobals → bM, wpAny_holding → bS, sizeLine → bZ, isSubtype_type → ba, wpAny_newObj_type → bz, compareOp → cI, foldedSetIterable → cM, wpAny_setState_of → cN, keywordEach → cX, codeAny_mono → dX, wpAny_field → dj, builtinLookup_eq_fast → dq, starEach → eA, Builtin → eF, builtinsNs → eM, wpAny_call → eO, Fin → eP, backToKw → eU, Around → eh, wpAny_standAt → ej, DictEntry → ew, NameKind → fP, codeAny_call_builtin → fR, SetTable → fS, sysModules → fX, IsPair → fZ, eval → gK, assign → gL, typeLookup_type → gV, leftWithCleanup → gW, codeAny → gq, typeIs_str → i5, strKind → i6, bootBuiltins → iB, wpAny_askSetting → iC, noFill_tuple_add → iD, codeAny_builtin → ig, importedModules → il, backTo → j5, hashStr → jX, rawInt → kK, wpAny_rule → kL, assignEach → kM, pyNext → kN, entryFor_of_tree → kO, swappedStores → kU, seq_tuple_add → kW, getItem → kX, FuncData → kh, subscripted → ki, ZipApart → ko, wpAny_updateSeq → lV, typeOf → lW, layNew → lZ, binaryOp → mj, call → n5, ElemsOf → n8, wpAny_of_eq → n9, sliceBounds → nB, getMethod_builtin → nG, numAt → nM, Model → nN, plainId_quiet → oG, bindName → pM, inplaceOp → pP, wpAny_call_entry → pQ, wpAny_callSpecial?_slot → pS, fromIndex → pU, entryFor → pV, table → pW, wpAny_isInstance → pY, Tok → qC, closureFor → qY, IsPart → qd, cLine → qp, recursionLimit → sY, callWith → sb, wpAny_seqItems → se, storeSet → sh, swapsWith → tL, isSubtype → tM, seqIndex? → tN, valueAt → tP, classAt → tS, methodCallPos → uD, typeLookup → vc, wpAny_forIn_array' → vi, intKind → wY, evalEach → wZ, bindArgs → wc, concat_meets → we, slot_list_getitem → wg, wpAny_mkText → wh, makeTail → wi, setAddHashed → wq, relayAll → wu, Sem → xq, frameOf → zK, exec_Return_some → zM, updateSeq → zN, opaqueClassAbove → zT, checkBuiltinCall → zU, pickOrder → zZ, interactive → zh, wpAny_alloc → zi, exec_Assign_arm → BB, letOwnedTupleGo → BC, wpAny_loadPart' → BH, spliced → BR, wpAny_setField → D8, execs_cons → D9, pyIter → DB, wpAny_newFunctionEnv_cells → DC, forIn_yield_id → DD, wpAny_loadPart → DG, stored → DH, sliceRange → DI, call_gives → DJ, argsOk → DK, denote → DR, assignInOrder → Fy, wpAny_attempt → GD, markedBehindIn_of_false → GP, noteFrame → GQ, defFd → GV, specialOf → GY, wpAny_runOwn → Ih, relabel → Ii, dictSet → Ip, wpAny_typeOf → Ir, callSpecial? → Iu, wpAny_nextOf_list_item → Iz, Returns → JC, codeAny_call_function → JM, wpAny_pyNext_zip_item → JQ, compTurn → LN, wpAny_nsGet → LY, wpAny_pyNext_zip_end → Lc, reprText → Le, Ctx → Lg, codeAny_forLoop_any → Mn, wpAny_setEntries_of → Mw, isTrue → OY, PyData → Oa, arm_eval_Attribute → Ob, call_meets → Oe, splitAtGen → Oi, setsByText → Om, Scope → PW, newList → PX, getAttr → PY, slot_dict_getitem → PZ, Gives → Pa, wpAny_builtinsFor → Pc, OsState → Pe, wpAny_Try_except → Tg, cellsFrom → Th, pushCells → Tj, getMethod → Tp, wpAny_getItem_of → Tq, evalPairs → Tr, codeAmong → U0, onTheHeap → U1, wpAny_forIn_list → U4, wpAny_pyIter_zip → U6, setDiscardHashed → UC, codeAny_of_tree → V0, pushCells_keeps → V2, call_isinstance → V5, wpAny_specialOf → VA, runOwn → Y8, eval_Subscript → YA, keeperOf → YF, methodCallForm → YH, GenState → YI, IsZip → YJ, setAdd → YM, setAddHashedIn → YP, setMerge → YQ
open _root_.PySem.AfterImport renaming of_importEnds → YT, unique → YU
open _root_.PySem.Around renaming frames_deeper → jQ, under_plainId → jR, in1 → Ph
open _root_.PySem.Bind renaming madeBy → EM, staticBase → La
open _root_.PySem.BindsTo renaming of_eq → la
open _root_.PySem.Builtin.Frozenset renaming sizeOf → qk, oneOther → LV, addrOf → LW
open _root_.PySem.Builtin.List renaming listExtendWith → fe, listSameRef → tR, listItems → uI, listLengthHint → V9, listTouch → VB, listUpdate → VC
open _root_.PySem.Builtin.Slice renaming slicePlaces → ft, sliceAdjust → ja, slicePartIndex → Tt, sliceApplied → Tv, sliceFields → Tw
open _root_.PySem.Builtin.Slots renaming bestBase → U2
open _root_.PySem.Builtin.SmallTypes renaming ownedTupleIsFree → di, nextOf → ij
open _root_.PySem.Builtin.Str renaming subAt → pX, strOf → zm
open _root_.PySem.Builtin.Tuple renaming tupleExact → jn, tupleItemsOf → Tu, tupleIsExact → Tz, tupleCompareSizes → U5
open _root_.PySem.Calls renaming Name_function_global → LL, loadGlobal_builtin → OZ, loadGlobal_global → PV
open _root_.PySem.Challenge renaming rw_kq0032_06 → pf, pw_kq0032_06 → Of
open _root_.PySem.Ctx renaming of → YO
open _root_.PySem.DictEntry renaming refKey → DF
open _root_.PySem.ElemsOf renaming perm → rS
open _root_.PySem.EntryCells renaming newEntry → zL
open _root_.PySem.Env renaming kindOf → eB
open _root_.PySem.ExcName renaming means → jC
open _root_.PySem.F renaming slot_list_append → fB, type_list_append → fC, slot_list_pop → zo, slot_set_add → BF, type_set_add → BG
open _root_.PySem.Flow renaming next → uC
open _root_.PySem.Heap renaming get?_push_of_some → aX, lt_size → av, get?_update_self → cC, get?_update_other → cL, get?_push_size → cR, update → vh, SameBut → BP, get?_none_of_le → EL, SlotsOnly → Mm, size_push → Mr, ExtBut → Te, get? → YD, push → YN
open _root_.PySem.Heap.SameBut renaming update → mw
open _root_.PySem.Heap.mk renaming injEq → wx
open _root_.PySem.IntMulOk renaming of_left → ri
open _root_.PySem.Keeper renaming boundFrame → GB, machine → JN, frame → Mq
open _root_.PySem.MeetsSeq renaming list_pop_last → Pg
open _root_.PySem.NameKind renaming free → j4, cell → Ij
open _root_.PySem.Obj renaming mapSeq → dm, data_mapFields → sZ, putSet → zY, mapFields → BA, isFreed_of_fields → EI, putName → GC
open _root_.PySem.PyData renaming depth → bR, keyHash → fO, eqv → ff, depthAll → i7, eqvAll → jN, strOk → jw, canLay0 → vr, showableAll → EN, int → ET, canLayAll0 → Fz, hasDictAll → GF, showable → Iv, shownAll → JB, hasDict → JO, shown → Mu, list → Oq
open _root_.PySem.Sem renaming wp_bind' → cu, wp_holding → zX, wp_load_of → Oj
open _root_.PySem.SeqAt renaming eqAt_reads → Ik, EqAt → Tn
open _root_.PySem.SeqAt.RcNeAt renaming lists → V7, lists_lengths → V8, str_str → VE
open _root_.PySem.SeqAt.Reads renaming unique → YB
open _root_.PySem.SetTable renaming grown → cY, eraseAt → eC, sizeAbove → hJ, fits → j6, fill → vy, road → vz, insertAt → DQ, roomFor → ES
open _root_.PySem.Shared renaming asleep_of_life → BJ
open _root_.PySem.Str renaming ofString → aB, empty → bt, join → lY, length → It
open _root_.PySem.Txt renaming join → zV
open _root_.PySem.Value renaming isStrOf → d7, ref → dD, type → dw, none → fG, builtin → mK, isStrOf_shape → qZ, str → zl, isInt → Pb
open _root_.PySem.W renaming SharedT → bT, findIn → gn, cellsFrom_some → jY, looks_findIn → jZ, looks_mroIn → kj, callWith_of → nA, namesOk → nJ, Looks → pR, findObj → qf, findCls → tQ, mroIn → uH, Frag → vb, check_slot → ve, emptyDict → zR, clsIn → DL, kas_desc → DM, kas_place → GZ, dictOf → Im, takerIn → Io, kas_rev → Iw, Behind → JA, gens_of_done → JD, noGet → LM, plainGet_of → LQ, looks_clsIn → LU, openSeen → Lj, openGood → Lk, typeIn → Oc, Told → Og, GoodWG → Oo, instObj → PU, readsIn → Pf, Walk → Tf, FrozAt → YE, keepIn → YG, gensDone → YS
open _root_.PySem.W.Fast renaming tw11892475500146522536 → wz, tw14364793385576792824 → x7
open _root_.PySem.W.Looks renaming of_pure → fH, ld → sd, andThen → Ms
open _root_.PySem.World renaming withFollow_self → BV
section
section
set_option genInjectivity false
inductive EA | v (i:Nat) | n (k:Nat) | a (p q:EA) | m (k:Nat) (p:EA) | r (p:EA) (k:Nat)
inductive PA | l (p q:EA) | t (p q:EA) | e (p q:EA) | L (p q:EA) | T (p q:EA) | E (p q:EA) | u (p q:EA) | i (p q:EA) | f
noncomputable abbrev EA.x:=EA.v 0
noncomputable abbrev EA.y:=EA.v 1
noncomputable abbrev EA.z:=EA.v 2
noncomputable abbrev EA.w:=EA.v 3
noncomputable abbrev EA.s:=EA.v 4
noncomputable abbrev EA.t:=EA.v 5
noncomputable abbrev EA.b:=EA.v 6
noncomputable abbrev EA.c:=EA.v 7
noncomputable abbrev EA.o:=EA.n 1
noncomputable def YV(c:List Nat):Nat→Nat:=c.rec (fun _=>0) fun a _ h i=>i.rec a fun j _=>h j
noncomputable def EA.d(c:List Nat)(e:EA):Nat:=e.rec (YV c) (fun k=>k) (fun _ _ p q=>p+q) (fun k _ p=>k*p) (fun _ k p=>p*k)
noncomputable def EA.up(e:EA):EA:=e.rec (fun i=>.v (i+1)) .n (fun _ _ p q=>.a p q) (fun k _ p=>.m k p) (fun _ k p=>.r p k)
theorem pg{α:Type}[Add α]{a b c d:α}(h:a=b)(k:c=d):a+c=b+d:=h▸k▸rfl
theorem EA.w0{x:Nat}{c:List Nat}(e:EA):e.up.d (x::c)=e.d c:=by
 induction e with
 | v i=>rfl
 | n k=>rfl
 | a p q hp hq=>exact pg hp hq
 | m k p hp=>exact congrArg (fun i:Nat=>k*i) hp
 | r p k hp=>exact congrArg (fun i:Nat=>i*k) hp
noncomputable abbrev FA:=List Int
noncomputable def JW(f:FA):FA→FA:=f.rec (fun g=>g) fun a f h g=>g.casesOn (a::f) fun b g=>(a+b)::h g
noncomputable def EU(k:Int)(f:FA):FA:=f.map (k * ·)
noncomputable def zp(i:Nat):FA:=i.rec [1] fun _ f=>0::f
noncomputable def EA.li(e:EA):FA:=e.rec (fun i=>0::zp i) (fun k=>[(k:Int)]) (fun _ _ p q=>JW p q) (fun k _ p=>EU k p) (fun _ k p=>EU k p)
noncomputable def GG(c:List Nat):FA→Int:=c.rec (fun _=>0) fun x _ h f=>f.casesOn 0 fun a f=>a*(x:Int)+h f
theorem DS(c:List Nat):GG c []=0:=by cases c <;> rfl
theorem y7(c:List Nat):∀(f g:FA),GG c (JW f g)=GG c f+GG c g:=by
 induction c with
 | nil=>exact fun _ _=>rfl
 | cons x c ih =>
  intro f g
  cases f with
  | nil=>exact (oB _).symm
  | cons a f=>cases g with
   | nil=>exact (tZ _).symm
   | cons b g=>exact (pg (Int.add_mul a b x) (ih f g)).trans (by rw [PT,Int.add_left_comm (b*(x:Int)),← PT];rfl)
theorem qv(k:Int)(c:List Nat):∀f:FA,GG c (EU k f)=k*GG c f:=by
 induction c with
 | nil=>exact fun f=>(Td _).symm
 | cons x c ih =>
  intro f
  cases f with
  | nil=>exact (Td _).symm
  | cons a f=>exact (pg (Int.mul_assoc k a x) (ih f)).trans (Int.mul_add _ _ _).symm
theorem DT(c:List Nat):∀i,GG c (zp i)=(YV c i:Int):=by
 induction c with
 | nil=>exact fun i=>rfl
 | cons x c ih =>
  intro i
  cases i with
  | zero=>exact (pg (vq _) (DS c)).trans (tZ _)
  | succ i=>exact (pg (D6 _) (ih i)).trans (oB _)
theorem EA.Ll(c:List Nat)(e:EA):GG (1::c) e.li=(e.d c:Int):=by
 induction e with
 | v i=>exact (pg (D6 _) (DT c i)).trans (oB _)
 | n k=>exact (pg (Uy _) (DS c)).trans (tZ _)
 | a p q hp hq=>exact (y7 _ _ _).trans (pg hp hq)
 | m k p hp=>exact (qv _ _ _).trans (congrArg _ hp)
 | r p k hp=>exact (qv _ _ _).trans ((Int.mul_comm _ _).trans (congrArg (fun i:Int=>i*k) hp))
noncomputable def w9(p q:EA):FA:=JW q.li (EU (-1) p.li)
noncomputable def Ot(p q:EA):FA:=w9 (.a p .o) q
theorem x8{a b c:Int}(h:a≤b)(e:b=c):a≤c:=e▸h
noncomputable abbrev GA(c:List Nat)(f:FA):Prop:=0≤GG (1::c) f
theorem BW{c:List Nat}{p q:EA}(h:p.d c≤q.d c):GA c (w9 p q):=by
 have e:GG (1::c) (w9 p q)=(q.d c:Int)-(p.d c:Int):=(y7 _ _ _).trans (pg (q.Ll c) ((qv _ _ _).trans ((congrArg (fun i:Int=>-1*i) (p.Ll c)).trans (Int.neg_eq_neg_one_mul _).symm)))
 exact x8 (Int.sub_nonneg_of_le (ct.mpr h)) e.symm
noncomputable abbrev y8(c:List Nat)(L:List FA):Prop:=∀f,f∈L→GA c f
theorem wA(h:GA c f)(k:y8 c L):y8 c (f::L):=fun g m =>
 (aq.mp m).elim (fun e=>e▸h) (k g)
theorem EV:y8 c []:=fun _ m=>absurd m jP
theorem Ge(h:y8 c L)(k:y8 c M):y8 c (L++M):=fun f m=>(aZ.mp m).elim (h f) (k f)
noncomputable def zq(c:List Nat)(Ls:List (List FA)):Prop:=∃L,L∈Ls∧y8 c L
theorem EW(h:y8 c L):zq c (L::Ls):=⟨L,.head _,h⟩
theorem Mx(h:y8 c M):zq c (L::M::Ls):=⟨M,.tail _ (.head _),h⟩
theorem Pj(h:p.d c≤q.d c):zq c ([w9 p q]::Ls):=EW (wA (BW h) EV)
theorem Pk(h:p.d c=q.d c):y8 c [w9 p q,w9 q p]:=wA (BW (dP h)) (wA (BW (dP h.symm)) EV)
theorem neA(h:p.d c≠q.d c):zq c [[Ot p q],[Ot q p]] :=
 (Nat.lt_or_gt_of_ne h).elim (fun k=>Pj k) fun k=>Mx (wA (BW k) EV)
noncomputable def PA.d(c:List Nat)(p:PA):Prop:=p.casesOn (fun p q=>p.d c≤q.d c) (fun p q=>p.d c<q.d c) (fun p q=>p.d c=q.d c)
 (fun p q=>¬p.d c≤q.d c) (fun p q=>¬p.d c<q.d c) (fun p q=>¬p.d c=q.d c) (fun _ _=>True) (fun _ _=>True) False
noncomputable def PA.ng(p:PA):PA:=p.casesOn .L .T .E .l .t .e (fun _ _=>.f) (fun _ _=>.f) (.u .o .o)
noncomputable def PA.al(p:PA):List (List FA):=p.casesOn (fun p q=>[[w9 p q]]) (fun p q=>[[Ot p q]]) (fun p q=>[[w9 p q,w9 q p]])
 (fun p q=>[[Ot q p]]) (fun p q=>[[w9 q p]]) (fun p q=>[[Ot p q],[Ot q p]]) (fun _ _=>[[]]) (fun _ _=>[[]]) []
theorem PA.Lm{c:List Nat}{p:PA}(h:p.d c):zq c p.al:=by
 cases p with
 | l p q=>exact Pj h
 | t p q=>exact Pj (p:=.a p .o) h
 | e p q=>exact EW (Pk h)
 | L p q=>exact Pj (p:=.a q .o) (jW h)
 | T p q=>exact Pj (bV h)
 | E p q=>exact neA h
 | f=>exact False.elim h
 | u=>exact EW EV
 | i=>exact EW EV
theorem PA.Pm{c:List Nat}{p:PA}(h:¬p.d c):p.ng.d c:=by
 cases p with
 | f=>exact trivial
 | u=>exact absurd trivial h
 | i=>exact absurd trivial h
 | L=>exact kR.mp h
 | T=>exact kR.mp h
 | E=>exact kR.mp h
 | l=>exact h
 | t=>exact h
 | e=>exact h
noncomputable def Pn(f:FA):FA:=f.casesOn [] fun a f=>a::0::f
theorem Lo{x:Nat}{c:List Nat}{L:List FA}(h:y8 c L):y8 (x::c) (L.map Pn):=fun f m=>by
 obtain ⟨g,m',rfl⟩:=cV.mp m
 have k:=h g m'
 clear m
 cases g with
 | nil=>exact k
 | cons a g=>exact x8 k (congrArg (a*1 + ·) ((oB _).symm.trans (congrArg (· + GG c g) (D6 _).symm)))
noncomputable def Po(p q:EA):List (List FA):=[[w9 (.a .x q) p,w9 p (.a .x q)],[w9 p q,w9 .x (.n 0),w9 (.n 0) .x]]
noncomputable def Pp(p q:EA):List (List FA):=[[w9 p q,w9 .x p,w9 p .x],[w9 q p,w9 .x q,w9 q .x]]
theorem Pq{c:List Nat}{p q:EA}:zq ((p.d c-q.d c)::c) (Po p.up q.up) :=
 (D7 (q.d c) (p.d c)).elim (fun k=>EW (Pk (p:=.a .x q.up) ((congrArg (p.d c-q.d c + ·) q.w0).trans ((Nat.sub_add_cancel k).trans p.w0.symm))))
  fun k=>Mx (wA (BW (p.w0.symm▸q.w0.symm▸k)) (Pk (p:=.x) (dh k)))
theorem Pr{c:List Nat}{p q:EA}:zq (min (p.d c) (q.d c)::c) (Pp p.up q.up) :=
 (D7 (p.d c) (q.d c)).elim (fun k=>EW (wA (BW (p.w0.symm▸q.w0.symm▸k)) (Pk (p:=.x) ((oq k).trans p.w0.symm))))
  fun k=>Mx (wA (BW (p.w0.symm▸q.w0.symm▸k)) (Pk (p:=.x) ((Nat.min_eq_right k).trans q.w0.symm)))
noncomputable def cA(i:Nat)(f:FA):Int:=f.getD i 0
noncomputable def JX(f:FA):Bool:=decide (f.headD 0<0)&&f.tail.all fun a=>decide (a≤0)
noncomputable def Lp(i:Nat)(L:List FA):List FA:=(L.filter fun f=>decide (cA i f=0)) ++
 (L.filter fun f=>decide (0<cA i f)).flatMap fun f=>(L.filter fun g=>decide (cA i g<0)).map fun g=>JW (EU (-cA i g) f) (EU (cA i f) g)
noncomputable def Pt(n:Nat):List FA→Bool:=n.rec (fun L=>L.any JX) fun i h L=>L.any JX||h (Lp (i+1) L)
theorem My(c:List Nat):∀(f:FA),(∀a,a∈f→a≤0)→GG c f≤0:=by
 induction c with
 | nil=>exact fun _ _=>Uz _
 | cons x c ih =>
  intro f h
  cases f with
  | nil=>exact Uz _
  | cons a f=>exact Int.add_nonpos (Int.mul_nonpos_of_nonpos_of_nonneg (h a (.head _)) (au _)) (ih f fun b m=>h b (.tail _ m))
theorem Mz{c:List Nat}{f:FA}(h:JX f=true)(k:GA c f):False:=by
 cases f with
 | nil=>exact aD h
 | cons a f =>
  have h':=(ae ..).mp h
  have h2:=My c f fun b m=>of_decide_eq_true (bc.mp h'.2 b m)
  exact zJ.mpr (of_decide_eq_true h'.1) (kg (x8 k rfl) (x8 (Int.add_le_add_left h2 (a*1)) ((tZ _).trans (Uy _))))
theorem JY{c:List Nat}{i:Nat}{L:List FA}(h:y8 c L):y8 c (Lp i L):=Ge (fun f m=>h f (ju.mp m).1) fun f m=>by
 obtain ⟨g,m1,m⟩:=uB.mp m
 obtain ⟨g',m2,rfl⟩:=cV.mp m
 have m1:=ju.mp m1
 have m2:=ju.mp m2
 exact x8 (Int.add_nonneg (OX (Int.neg_nonneg_of_nonpos (gw (of_decide_eq_true m2.2))) (h _ m1.1)) (OX (gw (of_decide_eq_true m1.2)) (h _ m2.1)))
  ((y7 _ _ _).trans (pg (qv _ _ _) (qv _ _ _))).symm
theorem Pu(h:y8 c L)(e:L.any JX=true):False:=by
 obtain ⟨f,m,k⟩:=List.any_eq_true.mp e;exact Mz k (h f m)
theorem N0(n:Nat):∀L:List FA,y8 c L→Pt n L=true→False:=by
 induction n with
 | zero=>exact fun L h e=>Pu h e
 | succ i ih=>exact fun L h e=>((dT ..).mp e).elim (Pu h) (ih _ (JY h))
noncomputable def DA(g:PA)(l:List PA):List Nat→Prop:=l.rec (fun c=>g.d c) fun h _ ih c =>
 let o:=h.d c→ih c
 h.casesOn (fun _ _=>o) (fun _ _=>o) (fun _ _=>o) (fun _ _=>o) (fun _ _=>o) (fun _ _=>o) (fun p q=>ih ((p.d c-q.d c)::c)) (fun p q=>ih (min (p.d c) (q.d c)::c)) o
noncomputable def Gf(g:PA)(l:List PA):Nat→List FA→Bool:=l.rec (fun n L=>g.ng.al.all fun M=>Pt n (M++L)) fun h _ ih n L =>
 let o:=h.al.all fun M=>ih n (M++L)
 h.casesOn (fun _ _=>o) (fun _ _=>o) (fun _ _=>o) (fun _ _=>o) (fun _ _=>o) (fun _ _=>o) (fun p q=>(Po p.up q.up).all fun M=>ih (n+1) (zp 1::(M++L.map Pn))) (fun p q=>(Pp p.up q.up).all fun M=>ih (n+1) (zp 1::(M++L.map Pn))) o
theorem BX{c:List Nat}(i:Nat):GA c (zp i):=x8 (au _) (DT _ _).symm
theorem JZ{c:List Nat}{Ls:List (List FA)}{P:Prop}(h:zq c Ls)(e:Ls.all f=true)(k:∀M,y8 c M→f M=true→P):P:=by
 obtain ⟨M,m,o⟩:=h;exact k M o (bc.mp e M m)
theorem uN{g:PA}(l:List PA):∀(c:List Nat) (n:Nat) (L:List FA),y8 c L→Gf g l n L=true→DA g l c:=by
 induction l with
 | nil=>exact fun c n L h e=>Classical.byContradiction fun k=>JZ (PA.Lm (PA.Pm k)) e fun M o e=>N0 n _ (Ge o h) e
 | cons p r ih =>
  intro c n L h e
  have o:(p.al.all fun M=>Gf g r n (M++L))=true→p.d c→DA g r c:=fun e k=>JZ (PA.Lm k) e fun M o e=>ih c n _ (Ge o h) e
  cases p with
  | u p q=>exact JZ (f:=fun M=>Gf g r (n+1) (zp 1::(M++L.map Pn))) (Pq (p:=p) (q:=q)) e fun M o e=>ih _ _ _ (wA (BX _) (Ge o (Lo h))) e
  | i p q=>exact JZ (f:=fun M=>Gf g r (n+1) (zp 1::(M++L.map Pn))) (Pr (p:=p) (q:=q)) e fun M o e=>ih _ _ _ (wA (BX _) (Ge o (Lo h))) e
  | l=>exact o e
  | t=>exact o e
  | e=>exact o e
  | L=>exact o e
  | T=>exact o e
  | E=>exact o e
  | f=>exact o e
noncomputable def zr(n:Nat):List FA:=n.rec [] fun i L=>zp (i+1)::L
theorem qG(n:Nat):y8 c (zr n):=by
 induction n with
 | zero=>exact EV
 | succ i ih=>exact wA (BX _) ih
theorem tA:true=true:=rfl
theorem T1(l:List PA)(g:PA)(h:Gf g l 1 (zr 1)=true):DA g l [x]:=uN l _ _ _ (qG _) h
theorem T2(l:List PA)(g:PA)(h:Gf g l 2 (zr 2)=true):DA g l [x,y]:=uN l _ _ _ (qG _) h
theorem T3(l:List PA)(g:PA)(h:Gf g l 3 (zr 3)=true):DA g l [x,y,z]:=uN l _ _ _ (qG _) h
theorem T4(l:List PA)(g:PA)(h:Gf g l 4 (zr 4)=true):DA g l [x,y,z,w]:=uN l _ _ _ (qG _) h
theorem T5(l:List PA)(g:PA)(h:Gf g l 5 (zr 5)=true):DA g l [x,y,z,w,s]:=uN l _ _ _ (qG _) h
theorem T6(l:List PA)(g:PA)(h:Gf g l 6 (zr 6)=true):DA g l [x,y,z,w,s,t]:=uN l _ _ _ (qG _) h
theorem T7(l:List PA)(g:PA)(h:Gf g l 7 (zr 7)=true):DA g l [x,y,z,w,s,t,b]:=uN l _ _ _ (qG _) h
theorem Lq{b:Int}(h:0<b)(k:b<2 ^ 30):b.natAbs<1073741824:=by
 cases b with
 | ofNat m=>exact cD.mp k
 | negSucc m=>exact absurd h (fm.mpr (gw (kT m)))
theorem ltC{m:Nat}(h:m<3):(m:Int)=0∨(m:Int)=1∨(m:Int)=2:=by
 cases m with
 | zero=>exact .inl rfl
 | succ m=>cases m with
  | zero=>exact .inr (.inl rfl)
  | succ m=>cases m with
   | zero=>exact .inr (.inr rfl)
   | succ m=>exact absurd (oC (oC (oC h))) (Nat.not_succ_le_zero _)
theorem Pw(d:Int):d % 3=0∨d % 3=1∨d % 3=2:=by
 have h:=iS d (show (0:Int)<3 by decide)
 have k:=ou d (show (3:Int)≠0 by decide)
 revert h k;generalize d % 3=r;intro h k
 cases r with
 | negSucc m=>exact absurd (kT m) (fm.mpr k)
 | ofNat m=>exact ltC (cD.mp h)
theorem N3(d:Int):0≤d % 3:=ou _ (by decide)
theorem DU{n:Nat}:(-1+(n:Int)).toNat=n-1:=(congrArg Int.toNat (Int.add_comm _ _)).trans (rY n 1)
theorem Px{k:Int}{n:Nat}(h:k<0):k+n<n:=by
 have:=Int.add_lt_add_right h n
 rwa [oB]at this
theorem Ja(h1:-(n:Int)≤k)(h2:k<n)(hs:(n:Int)<2 ^ 62):-2 ^ 63≤k∧k<2 ^ 63 :=
 ⟨kg (Int.neg_le_neg (gw (td hs (by decide)))) h1,td h2 (td hs (by decide))⟩
end
end
section
universe u v w x y z r s p q
section
variable{P:Prop} {A B C D E F G H I J K L:Prop}
theorem ao(h:A∧B)(k:A→B→P):P:=k h.1 h.2
theorem lb(p0:A)(p1:B):A∧B:=⟨p0,p1⟩
theorem dO(h:A∧B∧C)(k:A→B→C→P):P:=k h.1 h.2.1 h.2.2
theorem d9(p0:A)(p1:B)(p2:C):A∧B∧C:=⟨p0,p1,p2⟩
theorem ip(h:A∧B∧C∧D)(k:A→B→C→D→P):P:=k h.1 h.2.1 h.2.2.1 h.2.2.2
theorem ql(p0:A)(p1:B)(p2:C)(p3:D):A∧B∧C∧D:=⟨p0,p1,p2,p3⟩
theorem wB(h:A∧B∧C∧D∧E)(k:A→B→C→D→E→P):P:=k h.1 h.2.1 h.2.2.1 h.2.2.2.1 h.2.2.2.2
theorem JE(p0:A)(p1:B)(p2:C)(p3:D)(p4:E):A∧B∧C∧D∧E:=⟨p0,p1,p2,p3,p4⟩
theorem Jb(h:A∧B∧C∧D∧E∧F)(k:A→B→C→D→E→F→P):P:=k h.1 h.2.1 h.2.2.1 h.2.2.2.1 h.2.2.2.2.1 h.2.2.2.2.2
theorem YW(p0:A)(p1:B)(p2:C)(p3:D)(p4:E)(p5:F):A∧B∧C∧D∧E∧F:=⟨p0,p1,p2,p3,p4,p5⟩
theorem Ou(h:A∧B∧C∧D∧E∧F∧G)(k:A→B→C→D→E→F→G→P):P:=k h.1 h.2.1 h.2.2.1 h.2.2.2.1 h.2.2.2.2.1 h.2.2.2.2.2.1 h.2.2.2.2.2.2
theorem V06(p0:A)(p1:B)(p2:C)(p3:D)(p4:E)(p5:F)(p6:G):A∧B∧C∧D∧E∧F∧G:=⟨p0,p1,p2,p3,p4,p5,p6⟩
theorem Ov(h:A∧B∧C∧D∧E∧F∧G∧H)(k:A→B→C→D→E→F→G→H→P):P:=k h.1 h.2.1 h.2.2.1 h.2.2.2.1 h.2.2.2.2.1 h.2.2.2.2.2.1 h.2.2.2.2.2.2.1 h.2.2.2.2.2.2.2
theorem U08(h:A∧B∧C∧D∧E∧F∧G∧H∧I)(k:A→B→C→D→E→F→G→H→I→P):P:=k h.1 h.2.1 h.2.2.1 h.2.2.2.1 h.2.2.2.2.1 h.2.2.2.2.2.1 h.2.2.2.2.2.2.1 h.2.2.2.2.2.2.2.1 h.2.2.2.2.2.2.2.2
theorem V0b(p0:A)(p1:B)(p2:C)(p3:D)(p4:E)(p5:F)(p6:G)(p7:H)(p8:I)(p9:J)(p10:K)(p11:L):A∧B∧C∧D∧E∧F∧G∧H∧I∧J∧K∧L:=⟨p0,p1,p2,p3,p4,p5,p6,p7,p8,p9,p10,p11⟩
end
section
variable{α:Sort u} {P:Prop} {A B C D E F G H I J K L M:α→Prop}
theorem cG(h:∃a,A a)(k:∀a,A a→P):P:=h.elim fun a h=>k a h
theorem dA(a:α)(p0:A a):∃a,A a:=⟨a,p0⟩
theorem az(h:∃a,A a∧B a)(k:∀a,A a→B a→P):P:=h.elim fun a h=>k a h.1 h.2
theorem aw(a:α)(p0:A a)(p1:B a):∃a,A a∧B a:=⟨a,p0,p1⟩
theorem eZ(h:∃a,A a∧B a∧C a)(k:∀a,A a→B a→C a→P):P:=h.elim fun a h=>k a h.1 h.2.1 h.2.2
theorem cB(a:α)(p0:A a)(p1:B a)(p2:C a):∃a,A a∧B a∧C a:=⟨a,p0,p1,p2⟩
theorem Gg(h:∃a,A a∧B a∧C a∧D a)(k:∀a,A a→B a→C a→D a→P):P:=h.elim fun a h=>k a h.1 h.2.1 h.2.2.1 h.2.2.2
theorem GH(a:α)(p0:A a)(p1:B a)(p2:C a)(p3:D a):∃a,A a∧B a∧C a∧D a:=⟨a,p0,p1,p2,p3⟩
theorem YX(a:α)(p0:A a)(p1:B a)(p2:C a)(p3:D a)(p4:E a):∃a,A a∧B a∧C a∧D a∧E a:=⟨a,p0,p1,p2,p3,p4⟩
theorem N4(h:∃a,A a∧B a∧C a∧D a∧E a∧F a)(k:∀a,A a→B a→C a→D a→E a→F a→P):P:=h.elim fun a h=>k a h.1 h.2.1 h.2.2.1 h.2.2.2.1 h.2.2.2.2.1 h.2.2.2.2.2
theorem VG(a:α)(p0:A a)(p1:B a)(p2:C a)(p3:D a)(p4:E a)(p5:F a):∃a,A a∧B a∧C a∧D a∧E a∧F a:=⟨a,p0,p1,p2,p3,p4,p5⟩
theorem U16(h:∃a,A a∧B a∧C a∧D a∧E a∧F a∧G a)(k:∀a,A a→B a→C a→D a→E a→F a→G a→P):P:=h.elim fun a h=>k a h.1 h.2.1 h.2.2.1 h.2.2.2.1 h.2.2.2.2.1 h.2.2.2.2.2.1 h.2.2.2.2.2.2
theorem UD(a:α)(p0:A a)(p1:B a)(p2:C a)(p3:D a)(p4:E a)(p5:F a)(p6:G a):∃a,A a∧B a∧C a∧D a∧E a∧F a∧G a:=⟨a,p0,p1,p2,p3,p4,p5,p6⟩
theorem U1c(h:∃a,A a∧B a∧C a∧D a∧E a∧F a∧G a∧H a∧I a∧J a∧K a∧L a∧M a)(k:∀a,A a→B a→C a→D a→E a→F a→G a→H a→I a→J a→K a→L a→M a→P):P:=h.elim fun a h=>k a h.1 h.2.1 h.2.2.1 h.2.2.2.1 h.2.2.2.2.1 h.2.2.2.2.2.1 h.2.2.2.2.2.2.1 h.2.2.2.2.2.2.2.1 h.2.2.2.2.2.2.2.2.1 h.2.2.2.2.2.2.2.2.2.1 h.2.2.2.2.2.2.2.2.2.2.1 h.2.2.2.2.2.2.2.2.2.2.2.1 h.2.2.2.2.2.2.2.2.2.2.2.2
end
section
variable{α:Sort u} {β:Sort v} {P:Prop} {A B C D E F G H I J:α→β→Prop}
theorem Gh(h:∃a b,A a b)(k:∀a b,A a b→P):P:=h.elim fun a h=>h.elim fun b h=>k a b h
theorem Py(a:α)(b:β)(p0:A a b):∃a b,A a b:=⟨a,b,p0⟩
theorem gP(h:∃a b,A a b∧B a b)(k:∀a b,A a b→B a b→P):P:=h.elim fun a h=>h.elim fun b h=>k a b h.1 h.2
theorem jq(a:α)(b:β)(p0:A a b)(p1:B a b):∃a b,A a b∧B a b:=⟨a,b,p0,p1⟩
theorem dC(h:∃a b,A a b∧B a b∧C a b)(k:∀a b,A a b→B a b→C a b→P):P:=h.elim fun a h=>h.elim fun b h=>k a b h.1 h.2.1 h.2.2
theorem dK(a:α)(b:β)(p0:A a b)(p1:B a b)(p2:C a b):∃a b,A a b∧B a b∧C a b:=⟨a,b,p0,p1,p2⟩
theorem UE(h:∃a b,A a b∧B a b∧C a b∧D a b)(k:∀a b,A a b→B a b→C a b→D a b→P):P:=h.elim fun a h=>h.elim fun b h=>k a b h.1 h.2.1 h.2.2.1 h.2.2.2
theorem EX(a:α)(b:β)(p0:A a b)(p1:B a b)(p2:C a b)(p3:D a b):∃a b,A a b∧B a b∧C a b∧D a b:=⟨a,b,p0,p1,p2,p3⟩
theorem Pz(h:∃a b,A a b∧B a b∧C a b∧D a b∧E a b)(k:∀a b,A a b→B a b→C a b→D a b→E a b→P):P:=h.elim fun a h=>h.elim fun b h=>k a b h.1 h.2.1 h.2.2.1 h.2.2.2.1 h.2.2.2.2
theorem Jc(a:α)(b:β)(p0:A a b)(p1:B a b)(p2:C a b)(p3:D a b)(p4:E a b):∃a b,A a b∧B a b∧C a b∧D a b∧E a b:=⟨a,b,p0,p1,p2,p3,p4⟩
theorem U25(h:∃a b,A a b∧B a b∧C a b∧D a b∧E a b∧F a b)(k:∀a b,A a b→B a b→C a b→D a b→E a b→F a b→P):P:=h.elim fun a h=>h.elim fun b h=>k a b h.1 h.2.1 h.2.2.1 h.2.2.2.1 h.2.2.2.2.1 h.2.2.2.2.2
theorem Ox(a:α)(b:β)(p0:A a b)(p1:B a b)(p2:C a b)(p3:D a b)(p4:E a b)(p5:F a b):∃a b,A a b∧B a b∧C a b∧D a b∧E a b∧F a b:=⟨a,b,p0,p1,p2,p3,p4,p5⟩
theorem U26(h:∃a b,A a b∧B a b∧C a b∧D a b∧E a b∧F a b∧G a b)(k:∀a b,A a b→B a b→C a b→D a b→E a b→F a b→G a b→P):P:=h.elim fun a h=>h.elim fun b h=>k a b h.1 h.2.1 h.2.2.1 h.2.2.2.1 h.2.2.2.2.1 h.2.2.2.2.2.1 h.2.2.2.2.2.2
theorem YY(a:α)(b:β)(p0:A a b)(p1:B a b)(p2:C a b)(p3:D a b)(p4:E a b)(p5:F a b)(p6:G a b):∃a b,A a b∧B a b∧C a b∧D a b∧E a b∧F a b∧G a b:=⟨a,b,p0,p1,p2,p3,p4,p5,p6⟩
theorem YZ(h:∃a b,A a b∧B a b∧C a b∧D a b∧E a b∧F a b∧G a b∧H a b)(k:∀a b,A a b→B a b→C a b→D a b→E a b→F a b→G a b→H a b→P):P:=h.elim fun a h=>h.elim fun b h=>k a b h.1 h.2.1 h.2.2.1 h.2.2.2.1 h.2.2.2.2.1 h.2.2.2.2.2.1 h.2.2.2.2.2.2.1 h.2.2.2.2.2.2.2
theorem V27(a:α)(b:β)(p0:A a b)(p1:B a b)(p2:C a b)(p3:D a b)(p4:E a b)(p5:F a b)(p6:G a b)(p7:H a b):∃a b,A a b∧B a b∧C a b∧D a b∧E a b∧F a b∧G a b∧H a b:=⟨a,b,p0,p1,p2,p3,p4,p5,p6,p7⟩
theorem U28(h:∃a b,A a b∧B a b∧C a b∧D a b∧E a b∧F a b∧G a b∧H a b∧I a b)(k:∀a b,A a b→B a b→C a b→D a b→E a b→F a b→G a b→H a b→I a b→P):P:=h.elim fun a h=>h.elim fun b h=>k a b h.1 h.2.1 h.2.2.1 h.2.2.2.1 h.2.2.2.2.1 h.2.2.2.2.2.1 h.2.2.2.2.2.2.1 h.2.2.2.2.2.2.2.1 h.2.2.2.2.2.2.2.2
theorem V28(a:α)(b:β)(p0:A a b)(p1:B a b)(p2:C a b)(p3:D a b)(p4:E a b)(p5:F a b)(p6:G a b)(p7:H a b)(p8:I a b):∃a b,A a b∧B a b∧C a b∧D a b∧E a b∧F a b∧G a b∧H a b∧I a b:=⟨a,b,p0,p1,p2,p3,p4,p5,p6,p7,p8⟩
theorem Ya(a:α)(b:β)(p0:A a b)(p1:B a b)(p2:C a b)(p3:D a b)(p4:E a b)(p5:F a b)(p6:G a b)(p7:H a b)(p8:I a b)(p9:J a b):∃a b,A a b∧B a b∧C a b∧D a b∧E a b∧F a b∧G a b∧H a b∧I a b∧J a b:=⟨a,b,p0,p1,p2,p3,p4,p5,p6,p7,p8,p9⟩
end
section
variable{α:Sort u} {β:Sort v} {γ:Sort w} {P:Prop} {A B C D E F G H I J:α→β→γ→Prop}
theorem DV(h:∃a b c,A a b c)(k:∀a b c,A a b c→P):P:=h.elim fun a h=>h.elim fun b h=>h.elim fun c h=>k a b c h
theorem y9(a:α)(b:β)(c:γ)(p0:A a b c):∃a b c,A a b c:=⟨a,b,c,p0⟩
theorem j7(h:∃a b c,A a b c∧B a b c)(k:∀a b c,A a b c→B a b c→P):P:=h.elim fun a h=>h.elim fun b h=>h.elim fun c h=>k a b c h.1 h.2
theorem Oy(a:α)(b:β)(c:γ)(p0:A a b c)(p1:B a b c):∃a b c,A a b c∧B a b c:=⟨a,b,c,p0,p1⟩
theorem Oz(h:∃a b c,A a b c∧B a b c∧C a b c)(k:∀a b c,A a b c→B a b c→C a b c→P):P:=h.elim fun a h=>h.elim fun b h=>h.elim fun c h=>k a b c h.1 h.2.1 h.2.2
theorem tq(a:α)(b:β)(c:γ)(p0:A a b c)(p1:B a b c)(p2:C a b c):∃a b c,A a b c∧B a b c∧C a b c:=⟨a,b,c,p0,p1,p2⟩
theorem jr(h:∃a b c,A a b c∧B a b c∧C a b c∧D a b c)(k:∀a b c,A a b c→B a b c→C a b c→D a b c→P):P:=h.elim fun a h=>h.elim fun b h=>h.elim fun c h=>k a b c h.1 h.2.1 h.2.2.1 h.2.2.2
theorem js(a:α)(b:β)(c:γ)(p0:A a b c)(p1:B a b c)(p2:C a b c)(p3:D a b c):∃a b c,A a b c∧B a b c∧C a b c∧D a b c:=⟨a,b,c,p0,p1,p2,p3⟩
theorem BK(h:∃a b c,A a b c∧B a b c∧C a b c∧D a b c∧E a b c)(k:∀a b c,A a b c→B a b c→C a b c→D a b c→E a b c→P):P:=h.elim fun a h=>h.elim fun b h=>h.elim fun c h=>k a b c h.1 h.2.1 h.2.2.1 h.2.2.2.1 h.2.2.2.2
theorem JF(a:α)(b:β)(c:γ)(p0:A a b c)(p1:B a b c)(p2:C a b c)(p3:D a b c)(p4:E a b c):∃a b c,A a b c∧B a b c∧C a b c∧D a b c∧E a b c:=⟨a,b,c,p0,p1,p2,p3,p4⟩
theorem UG(h:∃a b c,A a b c∧B a b c∧C a b c∧D a b c∧E a b c∧F a b c)(k:∀a b c,A a b c→B a b c→C a b c→D a b c→E a b c→F a b c→P):P:=h.elim fun a h=>h.elim fun b h=>h.elim fun c h=>k a b c h.1 h.2.1 h.2.2.1 h.2.2.2.1 h.2.2.2.2.1 h.2.2.2.2.2
theorem DW(a:α)(b:β)(c:γ)(p0:A a b c)(p1:B a b c)(p2:C a b c)(p3:D a b c)(p4:E a b c)(p5:F a b c):∃a b c,A a b c∧B a b c∧C a b c∧D a b c∧E a b c∧F a b c:=⟨a,b,c,p0,p1,p2,p3,p4,p5⟩
theorem Q0(h:∃a b c,A a b c∧B a b c∧C a b c∧D a b c∧E a b c∧F a b c∧G a b c)(k:∀a b c,A a b c→B a b c→C a b c→D a b c→E a b c→F a b c→G a b c→P):P:=h.elim fun a h=>h.elim fun b h=>h.elim fun c h=>k a b c h.1 h.2.1 h.2.2.1 h.2.2.2.1 h.2.2.2.2.1 h.2.2.2.2.2.1 h.2.2.2.2.2.2
theorem N5(a:α)(b:β)(c:γ)(p0:A a b c)(p1:B a b c)(p2:C a b c)(p3:D a b c)(p4:E a b c)(p5:F a b c)(p6:G a b c):∃a b c,A a b c∧B a b c∧C a b c∧D a b c∧E a b c∧F a b c∧G a b c:=⟨a,b,c,p0,p1,p2,p3,p4,p5,p6⟩
theorem VH(h:∃a b c,A a b c∧B a b c∧C a b c∧D a b c∧E a b c∧F a b c∧G a b c∧H a b c)(k:∀a b c,A a b c→B a b c→C a b c→D a b c→E a b c→F a b c→G a b c→H a b c→P):P:=h.elim fun a h=>h.elim fun b h=>h.elim fun c h=>k a b c h.1 h.2.1 h.2.2.1 h.2.2.2.1 h.2.2.2.2.1 h.2.2.2.2.2.1 h.2.2.2.2.2.2.1 h.2.2.2.2.2.2.2
theorem Yb(a:α)(b:β)(c:γ)(p0:A a b c)(p1:B a b c)(p2:C a b c)(p3:D a b c)(p4:E a b c)(p5:F a b c)(p6:G a b c)(p7:H a b c)(p8:I a b c)(p9:J a b c):∃a b c,A a b c∧B a b c∧C a b c∧D a b c∧E a b c∧F a b c∧G a b c∧H a b c∧I a b c∧J a b c:=⟨a,b,c,p0,p1,p2,p3,p4,p5,p6,p7,p8,p9⟩
end
section
variable{α:Sort u} {β:Sort v} {γ:Sort w} {δ:Sort x} {P:Prop} {A B C D E F G H I J:α→β→γ→δ→Prop}
theorem U40(h:∃a b c d,A a b c d)(k:∀a b c d,A a b c d→P):P:=h.elim fun a h=>h.elim fun b h=>h.elim fun c h=>h.elim fun d h=>k a b c d h
theorem V40(a:α)(b:β)(c:γ)(d:δ)(p0:A a b c d):∃a b c d,A a b c d:=⟨a,b,c,d,p0⟩
theorem Jd(h:∃a b c d,A a b c d∧B a b c d)(k:∀a b c d,A a b c d→B a b c d→P):P:=h.elim fun a h=>h.elim fun b h=>h.elim fun c h=>h.elim fun d h=>k a b c d h.1 h.2
theorem V41(a:α)(b:β)(c:γ)(d:δ)(p0:A a b c d)(p1:B a b c d):∃a b c d,A a b c d∧B a b c d:=⟨a,b,c,d,p0,p1⟩
theorem U42(h:∃a b c d,A a b c d∧B a b c d∧C a b c d)(k:∀a b c d,A a b c d→B a b c d→C a b c d→P):P:=h.elim fun a h=>h.elim fun b h=>h.elim fun c h=>h.elim fun d h=>k a b c d h.1 h.2.1 h.2.2
theorem Yc(a:α)(b:β)(c:γ)(d:δ)(p0:A a b c d)(p1:B a b c d)(p2:C a b c d):∃a b c d,A a b c d∧B a b c d∧C a b c d:=⟨a,b,c,d,p0,p1,p2⟩
theorem UH(h:∃a b c d,A a b c d∧B a b c d∧C a b c d∧D a b c d)(k:∀a b c d,A a b c d→B a b c d→C a b c d→D a b c d→P):P:=h.elim fun a h=>h.elim fun b h=>h.elim fun c h=>h.elim fun d h=>k a b c d h.1 h.2.1 h.2.2.1 h.2.2.2
theorem P0(a:α)(b:β)(c:γ)(d:δ)(p0:A a b c d)(p1:B a b c d)(p2:C a b c d)(p3:D a b c d):∃a b c d,A a b c d∧B a b c d∧C a b c d∧D a b c d:=⟨a,b,c,d,p0,p1,p2,p3⟩
theorem Yd(h:∃a b c d,A a b c d∧B a b c d∧C a b c d∧D a b c d∧E a b c d)(k:∀a b c d,A a b c d→B a b c d→C a b c d→D a b c d→E a b c d→P):P:=h.elim fun a h=>h.elim fun b h=>h.elim fun c h=>h.elim fun d h=>k a b c d h.1 h.2.1 h.2.2.1 h.2.2.2.1 h.2.2.2.2
theorem UI(a:α)(b:β)(c:γ)(d:δ)(p0:A a b c d)(p1:B a b c d)(p2:C a b c d)(p3:D a b c d)(p4:E a b c d):∃a b c d,A a b c d∧B a b c d∧C a b c d∧D a b c d∧E a b c d:=⟨a,b,c,d,p0,p1,p2,p3,p4⟩
theorem UJ(h:∃a b c d,A a b c d∧B a b c d∧C a b c d∧D a b c d∧E a b c d∧F a b c d)(k:∀a b c d,A a b c d→B a b c d→C a b c d→D a b c d→E a b c d→F a b c d→P):P:=h.elim fun a h=>h.elim fun b h=>h.elim fun c h=>h.elim fun d h=>k a b c d h.1 h.2.1 h.2.2.1 h.2.2.2.1 h.2.2.2.2.1 h.2.2.2.2.2
theorem VI(a:α)(b:β)(c:γ)(d:δ)(p0:A a b c d)(p1:B a b c d)(p2:C a b c d)(p3:D a b c d)(p4:E a b c d)(p5:F a b c d):∃a b c d,A a b c d∧B a b c d∧C a b c d∧D a b c d∧E a b c d∧F a b c d:=⟨a,b,c,d,p0,p1,p2,p3,p4,p5⟩
theorem UK(h:∃a b c d,A a b c d∧B a b c d∧C a b c d∧D a b c d∧E a b c d∧F a b c d∧G a b c d)(k:∀a b c d,A a b c d→B a b c d→C a b c d→D a b c d→E a b c d→F a b c d→G a b c d→P):P:=h.elim fun a h=>h.elim fun b h=>h.elim fun c h=>h.elim fun d h=>k a b c d h.1 h.2.1 h.2.2.1 h.2.2.2.1 h.2.2.2.2.1 h.2.2.2.2.2.1 h.2.2.2.2.2.2
theorem N6(a:α)(b:β)(c:γ)(d:δ)(p0:A a b c d)(p1:B a b c d)(p2:C a b c d)(p3:D a b c d)(p4:E a b c d)(p5:F a b c d)(p6:G a b c d):∃a b c d,A a b c d∧B a b c d∧C a b c d∧D a b c d∧E a b c d∧F a b c d∧G a b c d:=⟨a,b,c,d,p0,p1,p2,p3,p4,p5,p6⟩
theorem Ye(a:α)(b:β)(c:γ)(d:δ)(p0:A a b c d)(p1:B a b c d)(p2:C a b c d)(p3:D a b c d)(p4:E a b c d)(p5:F a b c d)(p6:G a b c d)(p7:H a b c d):∃a b c d,A a b c d∧B a b c d∧C a b c d∧D a b c d∧E a b c d∧F a b c d∧G a b c d∧H a b c d:=⟨a,b,c,d,p0,p1,p2,p3,p4,p5,p6,p7⟩
theorem U49(h:∃a b c d,A a b c d∧B a b c d∧C a b c d∧D a b c d∧E a b c d∧F a b c d∧G a b c d∧H a b c d∧I a b c d∧J a b c d)(k:∀a b c d,A a b c d→B a b c d→C a b c d→D a b c d→E a b c d→F a b c d→G a b c d→H a b c d→I a b c d→J a b c d→P):P:=h.elim fun a h=>h.elim fun b h=>h.elim fun c h=>h.elim fun d h=>k a b c d h.1 h.2.1 h.2.2.1 h.2.2.2.1 h.2.2.2.2.1 h.2.2.2.2.2.1 h.2.2.2.2.2.2.1 h.2.2.2.2.2.2.2.1 h.2.2.2.2.2.2.2.2.1 h.2.2.2.2.2.2.2.2.2
end
section
variable{α:Sort u} {β:Sort v} {γ:Sort w} {δ:Sort x} {ε:Sort y} {P:Prop} {A B C D E F G:α→β→γ→δ→ε→Prop}
theorem Lr(h:∃a b c d e,A a b c d e∧B a b c d e)(k:∀a b c d e,A a b c d e→B a b c d e→P):P:=h.elim fun a h=>h.elim fun b h=>h.elim fun c h=>h.elim fun d h=>h.elim fun e h=>k a b c d e h.1 h.2
theorem VJ(a:α)(b:β)(c:γ)(d:δ)(e:ε)(p0:A a b c d e)(p1:B a b c d e):∃a b c d e,A a b c d e∧B a b c d e:=⟨a,b,c,d,e,p0,p1⟩
theorem Q1(h:∃a b c d e,A a b c d e∧B a b c d e∧C a b c d e)(k:∀a b c d e,A a b c d e→B a b c d e→C a b c d e→P):P:=h.elim fun a h=>h.elim fun b h=>h.elim fun c h=>h.elim fun d h=>h.elim fun e h=>k a b c d e h.1 h.2.1 h.2.2
theorem VK(h:∃a b c d e,A a b c d e∧B a b c d e∧C a b c d e∧D a b c d e∧E a b c d e∧F a b c d e)(k:∀a b c d e,A a b c d e→B a b c d e→C a b c d e→D a b c d e→E a b c d e→F a b c d e→P):P:=h.elim fun a h=>h.elim fun b h=>h.elim fun c h=>h.elim fun d h=>h.elim fun e h=>k a b c d e h.1 h.2.1 h.2.2.1 h.2.2.2.1 h.2.2.2.2.1 h.2.2.2.2.2
theorem V55(a:α)(b:β)(c:γ)(d:δ)(e:ε)(p0:A a b c d e)(p1:B a b c d e)(p2:C a b c d e)(p3:D a b c d e)(p4:E a b c d e)(p5:F a b c d e):∃a b c d e,A a b c d e∧B a b c d e∧C a b c d e∧D a b c d e∧E a b c d e∧F a b c d e:=⟨a,b,c,d,e,p0,p1,p2,p3,p4,p5⟩
theorem Yf(a:α)(b:β)(c:γ)(d:δ)(e:ε)(p0:A a b c d e)(p1:B a b c d e)(p2:C a b c d e)(p3:D a b c d e)(p4:E a b c d e)(p5:F a b c d e)(p6:G a b c d e):∃a b c d e,A a b c d e∧B a b c d e∧C a b c d e∧D a b c d e∧E a b c d e∧F a b c d e∧G a b c d e:=⟨a,b,c,d,e,p0,p1,p2,p3,p4,p5,p6⟩
end
section
variable{α:Sort u} {β:Sort v} {γ:Sort w} {δ:Sort x} {ε:Sort y} {ζ:Sort z} {P:Prop} {A B C D:α→β→γ→δ→ε→ζ→Prop}
theorem UL(h:∃a b c d e f,A a b c d e f∧B a b c d e f)(k:∀a b c d e f,A a b c d e f→B a b c d e f→P):P:=h.elim fun a h=>h.elim fun b h=>h.elim fun c h=>h.elim fun d h=>h.elim fun e h=>h.elim fun f h=>k a b c d e f h.1 h.2
theorem VL(h:∃a b c d e f,A a b c d e f∧B a b c d e f∧C a b c d e f∧D a b c d e f)(k:∀a b c d e f,A a b c d e f→B a b c d e f→C a b c d e f→D a b c d e f→P):P:=h.elim fun a h=>h.elim fun b h=>h.elim fun c h=>h.elim fun d h=>h.elim fun e h=>h.elim fun f h=>k a b c d e f h.1 h.2.1 h.2.2.1 h.2.2.2
theorem Yg(a:α)(b:β)(c:γ)(d:δ)(e:ε)(f:ζ)(p0:A a b c d e f)(p1:B a b c d e f)(p2:C a b c d e f)(p3:D a b c d e f):∃a b c d e f,A a b c d e f∧B a b c d e f∧C a b c d e f∧D a b c d e f:=⟨a,b,c,d,e,f,p0,p1,p2,p3⟩
end
section
variable{α:Sort u} {β:Sort v} {γ:Sort w} {δ:Sort x} {ε:Sort y} {ζ:Sort z} {η:Sort r} {P:Prop} {A B C D E F G:α→β→γ→δ→ε→ζ→η→Prop}
theorem U71(h:∃a b c d e f g,A a b c d e f g∧B a b c d e f g)(k:∀a b c d e f g,A a b c d e f g→B a b c d e f g→P):P:=h.elim fun a h=>h.elim fun b h=>h.elim fun c h=>h.elim fun d h=>h.elim fun e h=>h.elim fun f h=>h.elim fun g h=>k a b c d e f g h.1 h.2
theorem V71(a:α)(b:β)(c:γ)(d:δ)(e:ε)(f:ζ)(g:η)(p0:A a b c d e f g)(p1:B a b c d e f g):∃a b c d e f g,A a b c d e f g∧B a b c d e f g:=⟨a,b,c,d,e,f,g,p0,p1⟩
theorem U73(h:∃a b c d e f g,A a b c d e f g∧B a b c d e f g∧C a b c d e f g∧D a b c d e f g)(k:∀a b c d e f g,A a b c d e f g→B a b c d e f g→C a b c d e f g→D a b c d e f g→P):P:=h.elim fun a h=>h.elim fun b h=>h.elim fun c h=>h.elim fun d h=>h.elim fun e h=>h.elim fun f h=>h.elim fun g h=>k a b c d e f g h.1 h.2.1 h.2.2.1 h.2.2.2
theorem U76(h:∃a b c d e f g,A a b c d e f g∧B a b c d e f g∧C a b c d e f g∧D a b c d e f g∧E a b c d e f g∧F a b c d e f g∧G a b c d e f g)(k:∀a b c d e f g,A a b c d e f g→B a b c d e f g→C a b c d e f g→D a b c d e f g→E a b c d e f g→F a b c d e f g→G a b c d e f g→P):P:=h.elim fun a h=>h.elim fun b h=>h.elim fun c h=>h.elim fun d h=>h.elim fun e h=>h.elim fun f h=>h.elim fun g h=>k a b c d e f g h.1 h.2.1 h.2.2.1 h.2.2.2.1 h.2.2.2.2.1 h.2.2.2.2.2.1 h.2.2.2.2.2.2
theorem Yh(a:α)(b:β)(c:γ)(d:δ)(e:ε)(f:ζ)(g:η)(p0:A a b c d e f g)(p1:B a b c d e f g)(p2:C a b c d e f g)(p3:D a b c d e f g)(p4:E a b c d e f g)(p5:F a b c d e f g)(p6:G a b c d e f g):∃a b c d e f g,A a b c d e f g∧B a b c d e f g∧C a b c d e f g∧D a b c d e f g∧E a b c d e f g∧F a b c d e f g∧G a b c d e f g:=⟨a,b,c,d,e,f,g,p0,p1,p2,p3,p4,p5,p6⟩
end
section
variable{α:Sort u} {β:Sort v} {γ:Sort w} {δ:Sort x} {ε:Sort y} {ζ:Sort z} {η:Sort r} {θ:Sort s} {P:Prop} {A B C:α→β→γ→δ→ε→ζ→η→θ→Prop}
theorem U81(h:∃a b c d e f g i,A a b c d e f g i∧B a b c d e f g i)(k:∀a b c d e f g i,A a b c d e f g i→B a b c d e f g i→P):P:=h.elim fun a h=>h.elim fun b h=>h.elim fun c h=>h.elim fun d h=>h.elim fun e h=>h.elim fun f h=>h.elim fun g h=>h.elim fun i h=>k a b c d e f g i h.1 h.2
theorem VM(a:α)(b:β)(c:γ)(d:δ)(e:ε)(f:ζ)(g:η)(i:θ)(p0:A a b c d e f g i)(p1:B a b c d e f g i)(p2:C a b c d e f g i):∃a b c d e f g i,A a b c d e f g i∧B a b c d e f g i∧C a b c d e f g i:=⟨a,b,c,d,e,f,g,i,p0,p1,p2⟩
end
section
variable{α:Sort u} {β:Sort v} {γ:Sort w} {δ:Sort x} {ε:Sort y} {ζ:Sort z} {η:Sort r} {θ:Sort s} {ι:Sort p} {κ:Sort q} {P:Prop} {A:α→β→γ→δ→ε→ζ→η→θ→ι→κ→Prop}
theorem N7(h:∃a b c d e f g i j l,A a b c d e f g i j l)(k:∀a b c d e f g i j l,A a b c d e f g i j l→P):P:=h.elim fun a h=>h.elim fun b h=>h.elim fun c h=>h.elim fun d h=>h.elim fun e h=>h.elim fun f h=>h.elim fun g h=>h.elim fun i h=>h.elim fun j h=>h.elim fun l h=>k a b c d e f g i j l h
end
end
section
inductive CV where
 | none | bool (b:Bool) | int (i:Int) | str (s:Str) | tup (vs:List CV) | lst (vs:List CV) | loc (a:Addr) | raw (v:Value)
 | VN (a b:Int) | x9 (w:World) (as:List (Str×CV)) | fy (C:Addr) (vs:List CV) | fn (p:kh→Prop)
inductive CO where
 | list (vs:List CV) | dict (es:List (Str×CV)) | fE (vs:List Int) | inst (C d:Addr) | fu (q:Str) (p:Pos)
noncomputable def CO.si:CO→Bool
 | .fu ..=>true
 | _=>false
noncomputable abbrev IM:=Addr→Option Obj
noncomputable abbrev CH:=Addr→Option CO
mutual
noncomputable def VR(I:IM):CV→Value→Prop
 | .none,v=>v=.none
 | .bool b,v=>v=.bool b
 | .int i,v=>∃t,v=.int i t
 | .str s,v=>∃t,v=.str s t
 | .tup vs,v=>∃a n xs,v=.ref a∧I a=some ⟨.type "tuple",.none,.seq xs n,#[]⟩∧ck I vs xs.toList
 | .lst vs,v=>∃a n xs,v=.ref a∧I a=some ⟨.type "list",.none,.seq xs n,#[]⟩∧ck I vs xs.toList
 | .loc a,v=>v=.ref a
 | .raw u,v=>v=u
 | .VN a b,v=>∃ad t u x,v=.ref ad∧I ad=some ⟨.type "range",.none,.fields #[.int a t,.int b u,.int 1 x],#[]⟩
 | .x9 w as,v=>∃d ds n,v=.ref d∧fX<d∧I d=some ⟨.type "dict",.none,.dict ds n,#[]⟩∧DX w I as ds.toList
 | .fy C vs,v=>∃a d o n xs sl,v=.ref a∧I a=some ⟨.ref C,some d,.seq xs n,sl⟩∧I d=some o∧ck I vs xs.toList
 | .fn p,v=>∃a fd,v=.ref a∧p fd∧I a=some ⟨.type "function",.none,.func fd,#[]⟩∧∃c oc vs t,fd.code=.ref c∧I c=some oc∧oc.data=.fields vs∧vs[1]?=some (.str fd.qualname t)
noncomputable def DX(w:World)(I:IM):List (Str×CV)→List ew→Prop
 | [],ds=>ds=[]
 | (k,c)::as,ds=>∃d lj,ds=d::lj∧d.hash=jX w k∧(∃t,d.key=.str k t)∧VR I c d.val∧DX w I as lj
noncomputable def ck(I:IM):List CV→List Value→Prop
 | [],xs=>xs=[]
 | c::cs,xs=>∃x VO,xs=x::VO∧VR I c x∧ck I cs VO
end
noncomputable def fq(I I':IM):Prop:=∀a o,I a=some o→I' a=some o
theorem fq.refl(I:IM):fq I I:=fun _ _ e=>e
theorem fq.trans{I J K:IM}(x:fq I J)(y:fq J K):fq I K:=fun a o e=>y a o (x a o e)
mutual
theorem VR.mono(h:fq I J):∀(c:CV) (v:Value),VR I c v→VR J c v
 | .none,v,x=>x
 | .bool b,v,x=>x
 | .int i,v,x=>x
 | .str s,v,x=>x
 | .tup vs,v,x=>by
  refine Oz x fun a n xs e hi hr=>?_;try clear x
  exact (tq a n xs e (h _ _ hi) (ck.mono h vs _ hr))
 | .lst vs,v,x=>by
  refine Oz x fun a n xs e hi hr=>?_;try clear x
  exact (tq a n xs e (h _ _ hi) (ck.mono h vs _ hr))
 | .loc a,v,x=>x
 | .raw u,v,x=>x
 | .VN a b,v,x=>by
  refine Jd x fun ad t u y e hi=>?_;try clear x
  exact (V41 ad t u y e (h _ _ hi))
 | .x9 w as,v,x=>by
  refine jr x fun d ds n e hl hi hr=>?_;try clear x
  exact (js d ds n e hl (h _ _ hi) (DX.mono h as _ hr))
 | .fy C vs,v,x=>by
  refine VL x fun a d o n xs sl e hi hd hr=>?_;try clear x
  exact (Yg a d o n xs sl e (h _ _ hi) (h _ _ hd) (ck.mono h vs _ hr))
 | .fn p,v,x=>by
  refine UE x fun a fd e hp hi R9=>?_;try clear x;(refine UH R9 fun c oc vs t h1 h2 h3 h4=>?_;try clear R9)
  exact (EX a fd e hp (h _ _ hi) (P0 c oc vs t h1 (h _ _ h2) h3 h4))
theorem DX.mono(h:fq I J):∀(as:List (Str×CV)) (ds:List ew),DX w I as ds→DX w J as ds
 | [],ds,x=>by simpa [DX]using x
 | (k,c)::as,ds,x=>by
  simp only [DX]at x ⊢
  refine Pz x fun d lj e h0 h1 h2 h3=>?_;try clear x
  exact (Jc d lj e h0 h1 (VR.mono h c _ h2) (DX.mono h as lj h3))
theorem ck.mono(h:fq I J):∀(cs:List CV) (vs:List Value),ck I cs vs→ck J cs vs
 | [],vs,x=>by simpa [ck]using x
 | c::cs,vs,x=>by
  simp only [ck]at x ⊢
  refine dC x fun y ys e h1 h2=>?_;try clear x
  exact (dK y ys e (VR.mono h c y h1) (ck.mono h cs ys h2))
end
theorem ck.nil:ck I [] []:=by dsimp [ck]
theorem ck.cons(h:VR I c v)(hs:ck I cs vs):ck I (c::cs) (v::vs):=by
 simp only [ck];exact (dK v vs rfl h hs)
theorem ck.length{I:IM}:∀{cs:List CV} {vs:List Value},ck I cs vs→cs.length=vs.length
 | [],vs,x=>by simp [ck]at x;subst x;rfl
 | c::cs,vs,x=>by
  simp only [ck]at x
  refine gP x fun y ys G7 R9=>?_;try clear x;obtain rfl:=G7;(refine ao R9 fun _ h2=>?_;try clear R9)
  simp [h2.length]
theorem ck.get{I:IM}:∀{cs:List CV} {vs:List Value} {i:Nat} {c:CV},ck I cs vs→cs[i]?=some c→∃v,vs[i]?=some v∧VR I c v
 | [],vs,i,c,x,h=>by (dsimp [iF,iT,iG,iU,iH,iV,nT,nF,aT,aF,oT,oF]at h;simp at h)
 | d::cs,vs,i,c,x,h=>by
  simp only [ck]at x
  refine gP x fun y ys G7 R9=>?_;try clear x;obtain rfl:=G7;(refine ao R9 fun h1 h2=>?_;try clear R9)
  cases i with
  | zero=>simp at h;subst h;exact (aw y (by rfl) h1)
  | succ i=>simpa using h2.get (by simpa using h)
theorem ck.append{I:IM}:∀{cs:List CV} {vs:List Value} {ph:List CV} {BL:List Value},ck I cs vs→ck I ph BL→ck I (cs++ph) (vs++BL)
 | [],vs,ph,BL,x,y=>by simp [ck]at x;subst x;simpa using y
 | c::cs,vs,ph,BL,x,y=>by
  simp only [ck]at x
  refine gP x fun u ys G7 R9=>?_;try clear x;obtain rfl:=G7;(refine ao R9 fun h1 h2=>?_;try clear R9)
  exact .cons h1 (h2.append y)
theorem ck.split{I:IM}:∀{cs:List CV} {vs:List Value} (n:Nat),ck I cs vs→ck I (cs.take n) (vs.take n)∧ck I (cs.drop n) (vs.drop n)
 | cs,vs,0,x=>by simpa [ck]using x
 | [],vs,n+1,x=>by simp [ck]at x;subst x;simp [ck]
 | c::cs,vs,n+1,x=>by
  simp only [ck]at x
  refine gP x fun u ys G7 R9=>?_;try clear x;obtain rfl:=G7;(refine ao R9 fun h1 h2=>?_;try clear R9)
  refine ao (h2.split n) fun a b=>?_
  exact ⟨.cons h1 a,b⟩
theorem ck.take(n:Nat)(x:ck I cs vs):ck I (cs.take n) (vs.take n):=(x.split n).1
theorem ck.cO(x:ck I (c::cs) vs):∃y ys,vs=y::ys∧VR I c y∧ck I cs ys:=by
 simpa only [ck]using x
theorem ck.dQ(x:ck I [] vs):vs=[]:=by simpa only [ck]using x
end
section
noncomputable def jd(w:World)(I:IM):List (Str×CV)→List ew→Prop
 | [],ds=>ds=[]
 | (k,v)::es,ds=>∃d lj,ds=d::lj∧d.hash=jX w k∧(∃t,d.key=.str k t)∧VR I v d.val∧jd w I es lj
theorem jd.mono(h:fq I J):∀(es:List (Str×CV)) (ds:List ew),jd w I es ds→jd w J es ds
 | [],ds,x=>by simpa [jd]using x
 | (k,v)::es,ds,x=>by
  simp only [jd]at x ⊢
  refine Pz x fun d lj e h1 h2 h3 h4=>?_;try clear x
  exact (Jc d lj e h1 h2 (VR.mono h _ _ h3) (jd.mono h es lj h4))
theorem jd.length{w:World}{I:IM}:∀{es:List (Str×CV)} {ds:List ew},jd w I es ds→es.length=ds.length
 | [],ds,x=>by simp [jd]at x;subst x;rfl
 | (k,v)::es,ds,x=>by
  simp only [jd]at x
  refine gP x fun d lj G7 R9=>?_;try clear x;obtain rfl:=G7;(refine ip R9 fun h1 h2 h3 h4=>?_;try clear R9)
  simp [h4.length]
noncomputable def Q2(prog:Program)(w:World)(vs:List Int)(o:Obj):Prop :=
 ∃es ep t,o.ExactSet∧o.data=.set es ep t∧n8 (wY prog w) es.toList∧(∀k,decide (k∈vs)=true↔∃e∈es.toList,(wY prog w).is k e.2=true)
  ∧es.size<scanBound∧t.fits es.size=true∧es.size=vs.length
noncomputable def Q3(xs:Array Nat):Prop:=∀i j,i<j→j<xs.size→xs.getD i 0<xs.getD j 0
noncomputable def OR(prog:Program)(w:World)(I:IM):CO→Obj→Prop
 | .fE vs,o=>Q2 prog w vs o
 | .list vs,o=>∃n xs,o=⟨.type "list",.none,.seq xs n,#[]⟩∧ck I vs xs.toList
 | .dict es,o=>∃n ds,o=⟨.type "dict",.none,.dict ds n,#[]⟩∧jd w I es ds.toList
 | .inst C d,o=>o=PU C d
 | .fu q p,o=>∃ps,o=⟨.none,.none,.fields ps,#[]⟩∧(ps=#[]∨∃c' oc vs t,ps=#[kK p.line,kK p.col,.ref c']∧I c'=some oc∧oc.data=.fields vs∧vs[1]?=some (.str q t))
theorem OR.mono(h:fq I J):∀(c:CO) (o:Obj),OR prog w I c o→OR prog w J c o
 | .fE vs,o,x=>x
 | .list vs,o,⟨n,xs,e,r⟩=>(jq n xs e (ck.mono h _ _ r))
 | .dict es,o,⟨n,ds,e,r⟩=>(jq n ds e (jd.mono h _ _ r))
 | .inst C d,o,x=>x
 | .fu q p,o,⟨ps,e,r⟩=>(aw ps e (r.imp id fun R3=>UH R3 fun c' oc vs t a b c d=>(P0 c' oc vs t a (h _ _ b) c d)))
end
section
set_option genInjectivity false in
structure Cx where
 prog:Program
 w:World
 A:eh
 env:Env
 base:Heap
 outer:List Env
 K:vb
 mg:Str→Option Value
 mb:Str→Option Value
 KF:IM
 s0:Shared
 tb:Addr
structure ak where
 lo:Str→Option CV
 H:CH
set_option genInjectivity false in
structure CX where
 cls:Value
 args:CV
noncomputable def Cx.Own(C:Cx)(a:Addr):Prop:=a=C.env.locals∨∃x,C.env.kindOf x=some .cell∧C.env.cells.lookup x=some a
noncomputable def Cx.Fr(C:Cx)(a:Addr):Prop:=∃l e,C.A.frames=some l∧e∈l∧e.frame=some a
structure LR(C:Cx)(I:IM)(lo:Str→Option CV)(h:Heap):Prop where
 ns:∃m,h.Ns C.env.locals m∧∀x v,lo x=some v→C.env.kindOf x=some .local→∃u,m x=some u∧VR I v u
 cell:∀x v,lo x=some v→C.env.kindOf x=some .cell→∃c u,C.env.cells.lookup x=some c∧h.IsCell c (some u)∧VR I v u
 free:∀x v,lo x=some v→C.env.kindOf x=some .free→∃c o u,C.env.cells.lookup x=some c∧C.KF c=some o∧o.data=.cell (some u)∧VR I v u
 cells:∀x,C.env.kindOf x=some .cell→∃c VP,C.env.cells.lookup x=some c∧h.IsCell c VP
structure SR(C:Cx)(KF I:IM)(st:ak)(s:Shared):Prop where
 kle:fq C.KF KF
 low:(∃b o,fX<b∧C.base.get? b=some o)∧∀a c,st.H a=some c→fX<a∧(c.si=true→a=C.tb)
 same:∃h tk dr,s={ C.s0 with heap:=h,toks:=tk,drawn:=dr }
 base:∀b o,C.base.get? b=some o→I b=some o
 de:∀a o,I a=some o→s.heap.get? a=some o
 mQ:∀a o,KF a=some o→I a=none∧∃sl,s.heap.get? a=some { o with slots:=sl }∧(¬C.Fr a→sl=o.slots)
 own:∀a,C.Own a→I a=none∧KF a=none∧st.H a=none
 mu:∀a c,st.H a=some c→I a=none∧KF a=none∧∃o,s.heap.get? a=some o∧OR C.prog C.w I c o
 loc:LR C I st.lo s.heap
structure Cx.OkE(C:Cx)(dep:Nat):Prop where
 kY:C.env.scope.kind=.function
 gl:C.env.globals=bM
 bl:C.env.builtins=eM
 K:C.K.In C.base
 g:C.base.Ns bM C.mg
 b:C.base.Ns eM C.mb
 nolimit:C.base.NoLimit
 boot:∀x:Str,x ≠ "__name__"→C.mb x=iB x
 units:C.A.units+10*dep+200<qp
 depth:C.A.depth+3*dep+20<sY
 yA:∀x y c,C.env.kindOf x=some .cell→C.env.kindOf y=some .cell→C.env.cells.lookup x=some c→C.env.cells.lookup y=some c→x=y
 qH:∀x,C.env.kindOf x=some .cell→C.env.cells.lookup x≠some C.env.locals
 Lu:C.base.get? C.env.locals=none
 frames:∃e0 l,C.A.frames=some (e0::l)∧e0.frame=C.env.frame∧∀e'∈e0::l,e'.scope.kind≠.module ∧
  ∃L',e'.frame=some L'∧C.base.get? L'=none∧(L'=C.env.locals∨∃o,C.KF L'=some o)
 Q4:∀a o,C.KF a=some o→∀vs,o.data≠.fields vs
 above:∀b o,C.base.get? b=some o→b<C.env.locals
 guards:C.A.guards=some []
 Q5:C.tb<C.env.locals
structure Cx.Ok(C:Cx)(dep:Nat):Prop extends Cx.OkE C dep where
 hd:C.A.handled=none
noncomputable def Cx.wC(C:Cx)(a:Addr):Prop:=C.base.get? a=none∧a≠C.tb
noncomputable def BY(C:Cx)(KF I:IM)(n:Bool)(x:CX)(e:Value)(h:Heap):Prop :=
 ∃ea oe vs ta tb,e=.ref ea∧(C.wC ea∧KF ea=none∧I ea=none)∧h.get? ea=some oe∧oe.cls=x.cls∧oe.data=.fields vs∧vs[0]?=some ta∧VR I x.args ta∧vs[1]?=some tb ∧
  ((n=false∧tb=.none)∨∃T oT ts fl,tb=.ref T∧(C.wC T∧KF T=none∧I T=none)∧T≠ea∧h.get? T=some oT∧oT.data=.fields ts∧ts[3]?=some fl)
noncomputable abbrev XR(C:Cx)(KF I:IM)(x:CX)(e:Value)(h:Heap):Prop:=BY C KF I false x e h
noncomputable abbrev PQ(C:Cx)(KF I:IM){α:Type}(Q:IM→α→ak→Prop)(a:α)(s':Shared):Prop:=∃I' aj,fq I I'∧SR C KF I' aj s'∧Q I' a aj
noncomputable abbrev eV(C:Cx)(KF I:IM)(X:CX→ak→Prop)(e:Value)(s':Shared):Prop:=∃J x aj,fq I J∧SR C KF J aj s'∧XR C KF J x e s'.heap∧X x aj
noncomputable abbrev BZ(C:Cx)(KF I:IM)(X:CX→ak→Prop)(e:Value)(s':Shared):Prop:=∃J x aj,fq I J∧SR C KF J aj s'∧BY C KF J true x e s'.heap∧X x aj
theorem pE{C:Cx}{KF I:IM}{s':Shared}{P:Prop}{α:Type}{Q:IM→α→ak→Prop}{a:α}(h:PQ C KF I Q a s')(k:∀J aj,fq I J→SR C KF J aj s'→Q J a aj→P):P:=dC h k
theorem pI{C:Cx}{KF I:IM}{s':Shared}{α:Type}{Q:IM→α→ak→Prop}{a:α}(J:IM)(aj:ak)(l:fq I J)(S:SR C KF J aj s')(q:Q J a aj):PQ C KF I Q a s':=dK J aj l S q
theorem xE{C:Cx}{KF I:IM}{s':Shared}{P:Prop}{e:Value}(h:eV C KF I X e s')(k:∀J x aj,fq I J→SR C KF J aj s'→XR C KF J x e s'.heap→X x aj→P):P:=jr h k
theorem xI(J:IM)(x:CX)(aj:ak)(l:fq I J)(S:SR C KF J aj s')(r:XR C KF J x e s'.heap)(q:X x aj):eV C KF I X e s':=js J x aj l S r q
noncomputable def WL(C:Cx){α:Type}(t:xq α)(I:IM)(st:ak)(Q:IM→α→ak→Prop)(X:CX→ak→Prop):Prop :=
 ∀KF s,SR C KF I st s→aR (aS C.prog C.w) C.A t (PQ C KF I Q)
  (eV C KF I X) s
section
variable{C:Cx} {α β:Type} {KF I:IM} {st:ak} {s:Shared} {X:CX→ak→Prop}
theorem WL.pure(h:Q I a st):WL C (Pure.pure a:xq α) I st Q X:=fun KF s S=>aC (dK I st (.refl I) S h)
theorem WL.mono(h:WL C t I st Q X)(hQ:∀J a aj,fq I J→Q J a aj→Q' J a aj)(hX:∀x aj,X x aj→X' x aj):WL C t I st Q' X' :=
 fun KF s S=>aM (h KF s S) (fun a s' W8=>dC W8 fun J aj l S' q=>(dK J aj l S' (hQ J a aj l q))) fun e s' W9=>jr W9 fun J x aj l S' r q=>(js J x aj l S' r (hX x aj q))
theorem WL.bind(h:WL C m I st (fun J a aj=>WL C (f a) J aj Q X) X):WL C (m >>= f) I st Q X:=fun KF s S=>by
 refine aA (aM (h KF s S) (fun a s' R0=>dC R0 fun J aj l S' q=>?_) fun e s' h'=>h')
 exact aM (q KF s' S') (fun b vj R1=>dC R1 fun J' EY l' Gi q'=>(dK J' EY (l.trans l') Gi q')) fun e vj R2=>jr R2 fun J' x EY l' Gi r q'=>(js J' x EY (l.trans l') Gi r q')
theorem WL.standAt(h:Q I () st):WL C (standAt pos) I st Q X:=fun KF s S=>ej (dK I st (.refl I) S h)
theorem WL.rule(h:Q I () st):WL C (rule tag) I st Q X:=fun KF s S=>kL (dK I st (.refl I) S h)
theorem WL.point(h:Q I () st):WL C point I st Q X:=fun KF s S=>wpAny_point (dK I st (.refl I) S h)
theorem WL.holding(h:WL C m I st Q X):WL C (holding vs m) I st Q X:=fun KF s S=>bS (h KF s S)
theorem WL.operate(h:WL C m I st Q X):WL C (operate vs m) I st Q X:=fun KF s S=>wpAny_operateT (h KF s S)
theorem SR.heap(S:SR C KF I st s)(k:∀a o,s.heap.get? a=some o→(I a≠none∨KF a≠none∨st.H a≠none∨C.Own a)→h'.get? a=some o):SR C KF I st { s with heap:=h',toks:=tk }:=by
 refine ⟨S.kle,S.low,?_,S.base,fun a o e=>k a o (S.de a o e) (.inl (by rw [e];simp)),fun a o e=>?_,S.own,fun a c e=>?_,?_⟩
 ·(refine DV S.same fun h t d e=>?_);exact (y9 h' tk d (by rw [e]))
 ·(refine ao (S.mQ a o e) fun h1 R9=>?_;(refine az R9 fun sl h2 h3=>?_));exact (lb h1 (aw sl (k a _ h2 (.inr (.inl (by rw [e];simp)))) h3))
 ·(refine dO (S.mu a c e) fun h1 h2 R9=>?_;(refine az R9 fun o h3 h4=>?_));exact (d9 h1 h2 (aw o (k a o h3 (.inr (.inr (.inl (by rw [e];simp))))) h4))
 ·obtain ⟨⟨m,⟨oL,es,ep,hL,hr⟩,h1⟩,h2,h3,h4⟩:=S.loc
  have kc:∀x c v,C.env.kindOf x=some .cell→C.env.cells.lookup x=some c→s.heap.IsCell c v→h'.IsCell c v:=fun x c v hx hl R3=>az R3 fun o ho hd=>(aw o (k c o ho (.inr (.inr (.inr (.inr (aw x hx hl)))))) hd)
  refine ⟨(aw m (Oy oL es ep (k _ _ hL (.inr (.inr (.inr (.inl rfl))))) hr) h1),fun x v e hk=>?_,h3,fun x hx=>?_⟩
  ·(refine dC (h2 x v e hk) fun c u a1 a2 a3=>?_);exact (dK c u a1 (kc x c _ hk a1 a2) a3)
  ·(refine gP (h4 x hx) fun c v0 a1 a2=>?_);exact (jq c v0 a1 (kc x c _ hx a1 a2))
theorem SR.toks(S:SR C KF I st s)(tk:Nat):SR C KF I st { s with toks:=tk }:=S.heap fun a o e _=>e
theorem SR.keeps(S:SR C KF I st s)(k:∀a o,s.heap.get? a=some o→h'.get? a=some o):SR C KF I st { s with heap:=h',toks:=tk }:=S.heap fun a o e _=>k a o e
theorem SR.push(S:SR C KF I st s)(o:Obj):SR C KF I st { s with heap:=s.heap.push o }:=S.keeps (tk:=s.toks) fun a o' e=>aX o e
theorem SR.fresh(S:SR C KF I st s)(h:s.heap.get? a=none):I a=none∧KF a=none∧st.H a=none∧¬C.Own a:=by
 refine (ql ?_ ?_ ?_ ?_)
 ·cases e:I a with
  | none=>rfl
  | some o=>rw [S.de a o e]at h;contradiction
 ·cases e:KF a with
  | none=>rfl
  | some o=>(refine ao (S.mQ a o e) fun _ R9=>?_;(refine az R9 fun sl h2 _=>?_));rw [h2]at h;contradiction
 ·cases e:st.H a with
  | none=>rfl
  | some c=>(refine dO (S.mu a c e) fun _ _ R9=>?_;(refine az R9 fun o h3 _=>?_));rw [h3]at h;contradiction
 ·rintro (rfl | ⟨x,hx,hl⟩)
  ·(refine az S.loc.ns fun m G8 _=>?_;(refine j7 G8 fun oL es ep hL hr=>?_));rw [hL]at h;contradiction
  ·refine gP (S.loc.cells x hx) fun c v0 a1 G5=>?_;(refine az G5 fun o ho _=>?_)
   rw [hl]at a1;obtain rfl:=aE a1;rw [ho]at h;contradiction
theorem gQ(h:Heap):h.get? h.objs.size=none:=by
 cases e:h.get? h.objs.size with
 | none=>rfl
 | some o=>exact absurd (av e) (eR _)
theorem SR.Ba(S:SR C KF I st s):I s.heap.objs.size=none∧KF s.heap.objs.size=none∧st.H s.heap.objs.size=none∧¬C.Own s.heap.objs.size:=S.fresh (gQ _)
noncomputable def df(I:IM)(a:Addr)(o:Obj):IM:=fun b=>if b=a then some o else I b
noncomputable def aV(H:CH)(a:Addr)(c:CO):CH:=fun b=>if b=a then some c else H b
noncomputable def eo(H:CH)(a:Addr):CH:=fun b=>if b=a then none else H b
theorem dt(h:I a=none):fq I (df I a o):=fun b o' e=>by
 unfold df;split
 ·rename_i q;rw [q,h]at e;contradiction
 ·exact e
@[simp] theorem cw{a:Addr}{o:Obj}:df I a o a=some o:=by simp [df]
@[simp] theorem EZ{H:CH}{a:Addr}{c:CO}:aV H a c a=some c:=by simp [aV]
theorem j8(h:b≠a):aV H a c b=H b:=by simp [aV,h]
theorem Je(h:b≠a):eo H a b=H b:=by simp [eo,h]
theorem LR.mono{lo:Str→Option CV}(L:LR C I lo h)(l:fq I J):LR C J lo h:=by
 obtain ⟨⟨m,hn,h1⟩,h2,h3,h4⟩:=L
 refine ⟨(aw m hn (fun x v e hk=>?_)),fun x v e hk=>?_,fun x v e hk=>?_,h4⟩
 ·(refine az (h1 x v e hk) fun u a1 a2=>?_);exact (aw u a1 (a2.mono l))
 ·(refine dC (h2 x v e hk) fun c u a1 a2 a3=>?_);exact (dK c u a1 a2 (a3.mono l))
 ·(refine jr (h3 x v e hk) fun c o u a1 a2 a3 a4=>?_);exact (js c o u a1 a2 a3 (a4.mono l))
theorem SR.kZ(S:SR C KF I st s)(ho:s.heap.get? a=some o)(h1:I a=none)(h2:KF a=none)(h3:st.H a=none)(h4:¬C.Own a):SR C KF (df I a o) st s:=by
 have l:fq I (df I a o):=dt h1
 refine ⟨S.kle,S.low,S.same,fun b o' e=>l _ _ (S.base b o' e),fun b o' e=>?_,fun b o' e=>?_,fun b hb=>?_,fun b c e=>?_,S.loc.mono l⟩
 ·unfold df at e;split at e
  ·rename_i q;subst q;obtain rfl:=aE e;exact ho
  ·exact S.de b o' e
 ·refine ao (S.mQ b o' e) fun a1 a2=>?_
  refine ⟨?_,a2⟩
  unfold df;split
  ·rename_i q;clear ho h1 h3 h4 l;subst q;rw [h2]at e;contradiction
  ·exact a1
 ·refine dO (S.own b hb) fun a1 a2 a3=>?_
  refine (d9 ?_ a2 a3)
  unfold df;split
  ·rename_i q;clear ho h1 h2 h3 l;subst q;exact absurd hb h4
  ·exact a1
 ·refine dO (S.mu b c e) fun a1 a2 R9=>?_;(refine az R9 fun o' a3 a4=>?_)
  refine (d9 ?_ a2 (aw o' a3 (OR.mono l _ _ a4)))
  unfold df;split
  ·rename_i q;clear ho h1 h2 h4 l;subst q;rw [h3]at e;contradiction
  ·exact a1
theorem SR.big(S:SR C KF I st s):fX<s.heap.objs.size:=let ⟨_,o,h1,h2⟩:=S.low.1;bD h1 (av (S.de _ o (S.base _ o h2)))
theorem SR.Jg(S:SR C KF I st s)(Bb:fX<a∧(c.si=true→a=C.tb))(ho:s.heap.get? a=some o)(h1:I a=none)(h2:KF a=none)(h4:¬C.Own a)(hr:OR C.prog C.w I c o):SR C KF I { st with H:=aV st.H a c } s:=by
 refine ⟨S.kle,⟨S.low.1,fun b c' e=>?_⟩,S.same,S.base,S.de,S.mQ,fun b hb=>?_,fun b c' e=>?_,S.loc⟩
 ·change aV st.H a c b=some c' at e
  unfold aV at e;split at e
  ·rename_i q;subst q;obtain rfl:=aE e;exact Bb
  ·exact S.low.2 b c' e
 ·refine dO (S.own b hb) fun a1 a2 a3=>?_
  refine (d9 a1 a2 ?_)
  show aV st.H a c b=none
  unfold aV;split
  ·rename_i q;clear Bb ho h1 h2;subst q;exact absurd hb h4
  ·exact a3
 ·change aV st.H a c b=some c' at e
  unfold aV at e;split at e
  ·rename_i q;subst q;obtain rfl:=aE e;exact (d9 h1 h2 (aw o ho hr))
  ·exact S.mu b c' e
theorem SR.N8(S:SR C KF I st s)(a:Addr):SR C KF I { st with H:=eo st.H a } s:=by
 refine ⟨S.kle,⟨S.low.1,fun b c' e=>?_⟩,S.same,S.base,S.de,S.mQ,fun b hb=>?_,fun b c' e=>?_,S.loc⟩
 ·change eo st.H a b=some c' at e
  unfold eo at e;split at e
  ·contradiction
  ·exact S.low.2 b c' e
 ·refine dO (S.own b hb) fun a1 a2 a3=>?_
  refine (d9 a1 a2 ?_)
  show eo st.H a b=none
  unfold eo;split
  ·rfl
  ·exact a3
 ·change eo st.H a b=some c' at e
  unfold eo at e;split at e
  ·contradiction
  ·exact S.mu b c' e
theorem SR.Gj(S:SR C KF I st s)(hc:st.H a=some c₀)(hs:∀b o,b≠a→s.heap.get? b=some o→h'.get? b=some o)(ho:h'.get? a=some o)(hr:OR C.prog C.w I c o)(ht:c.si=true→a=C.tb:=by intro q;cases q):
  SR C KF I { st with H:=aV st.H a c } { s with heap:=h',toks:=tk }:=by
 have S':=(S.N8 a).heap (h':=h') (tk:=tk) fun b o' e hb=>hs b o' (fun q=>by
  clear hs ho ht;subst q
  refine dO (S.mu b c₀ hc) fun a1 a2 _=>?_
  rcases hb with hb | hb | hb | hb
  ·exact hb a1
  ·exact hb a2
  ·exact hb (by show eo st.H b b=none;simp [eo])
  ·have:=(S.own b hb).2.2;rw [hc]at this;contradiction) e
 refine dO (S.mu a c₀ hc) fun a1 a2 _=>?_
 have:=S'.Jg (a:=a) (c:=c) ⟨(S.low.2 a c₀ hc).1,ht⟩ ho a1 a2 (fun hb=>by have:=(S.own a hb).2.2;rw [hc]at this;contradiction) hr
 have e:aV (eo st.H a) a c=aV st.H a c:=by
  funext b;delta aV eo;split <;> simp_all
 rw [← e];exact this
theorem SR.freeze(S:SR C KF I st s)(hc:st.H a=some (.list vs)):∃J,fq I J∧SR C KF J { st with H:=eo st.H a } s∧VR J (.lst vs) (.ref a):=by
 refine dO (S.mu a _ hc) fun a1 a2 R9=>?_;obtain ⟨o,a3,n,xs,rfl,a5⟩:=R9
 refine (cB (df I a _) (dt a1) ((S.N8 a).kZ a3 a1 a2 (by show eo st.H a a=none;simp [eo]) (fun hb=>by have:=(S.own a hb).2.2;rw [hc]at this;contradiction)) ?_)
 exact (tq a n xs rfl (by simp) (ck.mono (dt a1) _ _ a5))
end
end
section
noncomputable abbrev XP:=CX→ak→Prop
noncomputable abbrev VQ(Q:CV→ak→Prop)(J:IM)(v:Value)(aj:ak):Prop:=∃b,VR J b v∧Q b aj
theorem pq{C:Cx}{KF I:IM}{st:ak}{s:Shared}{v:Value}(c:CV)(S:SR C KF I st s)(r:VR I c v)(h:Q c st):PQ C KF I (VQ Q) v s:=dK I st (.refl I) S (aw c r h)
noncomputable def WE(C:Cx)(e:Expr)(st:ak)(Q:CV→ak→Prop)(X:XP):Prop:=∀I,WL C (gK e C.env) I st (VQ Q) X
noncomputable def rV(C:Cx):List Expr→ak→(List CV→ak→Prop)→XP→Prop
 | [],st,Q,_=>Q [] st
 | e::es,st,Q,X=>WE C e st (fun a bJ=>rV C es bJ (fun as cJ=>Q (a::as) cJ) X) X
noncomputable def WT(C:Cx)(e:Expr)(st:ak)(Q:Bool→ak→Prop)(X:XP):Prop:=∀I,WL C (OY e C.env (gK e C.env)) I st (fun _ b aj=>Q b aj) X
noncomputable def W1(C:Cx)(f:Value→xq Value)(a:CV)(st:ak)(Q:CV→ak→Prop)(X:XP):Prop :=
 ∀I v,VR I a v→WL C (f v) I st (VQ Q) X
noncomputable def W2(C:Cx)(f:Value→Value→xq Value)(a b:CV)(st:ak)(Q:CV→ak→Prop)(X:XP):Prop :=
 ∀I v u,VR I a v→VR I b u→WL C (f v u) I st (VQ Q) X
noncomputable def iW(C:Cx)(a:CV)(st:ak)(Q:Bool→ak→Prop)(X:XP):Prop :=
 ∀I v,VR I a v→WL C (truthy v) I st (fun _ b aj=>Q b aj) X
noncomputable def WA(C:Cx)(f:Value→xq Unit)(a:CV)(st:ak)(Q:ak→Prop)(X:XP):Prop :=
 ∀I v,VR I a v→WL C (f v) I st (fun _ _ aj=>Q aj) X
inductive CF where
 | next | brk | cont | ret (v:CV)
noncomputable def FR(I:IM):CF→Flow→Prop
 | .next,f=>f=.next
 | .brk,f=>f=.brk
 | .cont,f=>f=.cont
 | .ret c,f=>∃v,f=.ret v∧VR I c v
noncomputable abbrev FQ(Q:CF→ak→Prop)(J:IM)(f:Flow)(aj:ak):Prop:=∃b,FR J b f∧Q b aj
noncomputable def WS(C:Cx)(s:Stmt)(st:ak)(Q:CF→ak→Prop)(X:XP):Prop:=∀I,WL C (exec s C.env) I st (FQ Q) X
noncomputable def ag(C:Cx)(ss:List Stmt)(st:ak)(Q:CF→ak→Prop)(X:XP):Prop:=∀I,WL C (execs ss C.env) I st (FQ Q) X
section
variable{C:Cx} {dep:Nat} {st:ak} {Q:CV→ak→Prop} {X:XP}
theorem fk:∀x aj,X x aj→X x aj:=fun _ _ h=>h
theorem WE.mono(h:WE C e st Q X)(hQ:∀b aj,Q b aj→Q' b aj)(hX:∀x aj,X x aj→X' x aj):WE C e st Q' X' :=
 fun I=>(h I).mono (fun J a aj _ Q7=>az Q7 fun b r q=>(aw b r (hQ b aj q))) hX
theorem ag.mono{Q Q':CF→ak→Prop}(h:ag C e st Q X)(hQ:∀b aj,Q b aj→Q' b aj)(hX:∀x aj,X x aj→X' x aj):ag C e st Q' X' :=
 fun I=>(h I).mono (fun J a aj _ Q8=>az Q8 fun b r q=>(aw b r (hQ b aj q))) hX
theorem WS.mono{Q Q':CF→ak→Prop}(h:WS C e st Q X)(hQ:∀b aj,Q b aj→Q' b aj)(hX:∀x aj,X x aj→X' x aj):WS C e st Q' X' :=
 fun I=>(h I).mono (fun J a aj _ Q9=>az Q9 fun b r q=>(aw b r (hQ b aj q))) hX
theorem WE.int{k pos}(h:Q (.int i) st):WE C (.Constant (.int i) k pos) st Q X:=fun I KF s S=>wpAny_Constant_int (pq (.int i) (S.toks _) (dA _ rfl) h)
theorem WE.str{k pos}(h:Q (.str x) st):WE C (.Constant (.str x) k pos) st Q X:=fun I KF s S=>wpAny_Constant_str (pq (.str x) (S.toks _) (dA _ rfl) h)
theorem WE.bool{k pos}(h:Q (.bool b) st):WE C (.Constant (.bool b) k pos) st Q X:=fun I KF s S=>wpAny_Constant_bool (pq (.bool b) S rfl h)
theorem WE.none{k pos}(h:Q .none st):WE C (.Constant .none k pos) st Q X:=fun I KF s S=>wpAny_Constant_none (pq (.none) S rfl h)
noncomputable def yB:Option fP→Bool
 | some .local=>true
 | some .cell=>true
 | some .free=>true
 | _=>false
theorem WE.name{pos}(hf:C.env.scope.kind=.function)(hv:st.lo x=some v)(h:Q v st)(hk:yB (C.env.kindOf x)=true)
  (hd:(x == ("__debug__" : Str))=false:=by decide) (hc:(x == ("__classdict__" : Str))=false:=by decide):WE C (.Name x pos) st Q X:=fun I KF s S=>by
 refine wpAny_Name ?_ hd
 obtain ⟨⟨m,hn,h1⟩,h2,h3,h4⟩:=S.loc
 cases e:C.env.kindOf x with
 | none=>rw [e]at hk;exact aD hk
 | some k =>
  cases k with
  | «local» =>
   refine az (h1 x v hv e) fun u a1 a2=>?_
   exact wpAny_loadName_local hf e hn a1 (pq v S a2 h)
  | cell =>
   refine dC (h2 x v hv e) fun c u a1 a2 a3=>?_
   exact wpAny_loadName_cell hf e a1 a2 (pq v S a3 h)
  | free =>
   refine jr (h3 x v hv e) fun c o u a1 a2 a3 a4=>?_
   refine ao (S.mQ c o (S.kle _ _ a2)) fun _ R9=>?_;(refine az R9 fun sl a5 _=>?_)
   exact wpAny_loadName_free hf e a1 (aw _ a5 a3) (pq v S a4 h) hc
  | _=>rw [e]at hk;exact aD hk
noncomputable def kQ(C:Cx)(G:List (Str×Value)):Prop:=∀x v,G.lookup x=some v→C.mg x=some v∨(C.mg x=none∧C.mb x=some v)
theorem WE.glob{pos}(ok:C.Ok dep)(hG:kQ C G)(hv:G.lookup x=some v)(h:Q (.raw v) st)(hk:C.env.kindOf x=some .globalImplicit)
  (hd:(x == ("__debug__" : Str))=false:=by decide):WE C (.Name x pos) st Q X:=fun I KF s S=>by
 have hg:s.heap.Ns C.env.globals C.mg:=by rw [ok.gl];exact ok.g.keeps fun b o e=>S.de b o (S.base b o e)
 have hb:s.heap.Ns C.env.builtins C.mb:=by rw [ok.bl];exact ok.b.keeps fun b o e=>S.de b o (S.base b o e)
 refine LL ok.kY hk ?_ hd
 refine fY (hG x v hv) (fun e=>?R6) (fun R7=>?R5);(case' R5=>(refine ao R7 fun e1 e2=>?_));(case' R6=>skip)
 ·exact PV hg e (pq (.raw v) S rfl h)
 ·exact OZ hg e1 hb e2 (pq (.raw v) S rfl h)
theorem WE.binop{op l r pos}(h:WE C l st (fun a bJ=>WE C r bJ (fun b cJ=>W2 C (mj op) a b cJ Q X) X) X):WE C (.BinOp l op r pos) st Q X:=fun I=>by
 simp only [eval_BinOp]
 refine WL.bind ((h I).mono (fun J a bJ _ W0=>az W0 fun ca ra ha=>?_) fk)
 refine WL.bind (WL.holding ((ha J).mono (fun J2 b cJ l W5=>az W5 fun cb rb hb=>?_) fk))
 exact WL.bind (WL.standAt (WL.operate (hb J2 _ _ (ra.mono l) rb)))
theorem WE.unop{op x pos}(h:WE C x st (fun a bJ=>W1 C (unaryOp op) a bJ Q X) X):WE C (.UnaryOp op x pos) st Q X:=fun I=>by
 show WL C (do let v ← gK x C.env;standAt pos;holding [v] (unaryOp op v)) I st _ X
 refine WL.bind ((h I).mono (fun J a bJ _ W6=>az W6 fun ca ra ha=>?_) fk)
 exact WL.bind (WL.standAt (WL.holding (ha J _ ra)))
theorem WE.xA{t b o pos}(h:WT C t st (fun c bJ=>if c then WE C b bJ Q X else WE C o bJ Q X) X):WE C (.IfExp t b o pos) st Q X:=fun I=>by
 show WL C (do if ← OY t C.env (gK t C.env)then gK b C.env else gK o C.env) I st _ X
 refine WL.bind ((h I).mono (fun J c bJ _ hc=>?_) fk)
 cases c <;> exact hc J
theorem WE.ez{op l r pos}(h:WE C l st (fun a bJ=>WE C r bJ (fun b cJ=>W2 C (cI op) a b cJ Q X) X) X)(hm:behindInMarks op r=false:=by rfl):WE C (.Compare l [op] [r] pos) st Q X:=fun I=>by
 rw [eval_Compare1,GP hm]
 refine WL.bind ((h I).mono (fun J a bJ _ W7=>az W7 fun ca ra ha=>?_) fk)
 refine WL.bind (WL.holding ((ha J).mono (fun J2 b cJ l W8=>az W8 fun cb rb hb=>?_) fk))
 exact WL.bind (WL.standAt (WL.operate (hb J2 _ _ (ra.mono l) rb)))
theorem WT.ez{op l r pos}{Q:Bool→ak→Prop}(h:WE C l st (fun a bJ=>WE C r bJ (fun b cJ=>W2 C (cI op) a b cJ (fun c i8=>iW C c i8 Q X) X) X) X)(hm:behindInMarks op r=false:=by rfl):WT C (.Compare l [op] [r] pos) st Q X:=fun I=>by
 rw [isTrue_Compare1,GP hm]
 refine WL.bind ((h I).mono (fun J a bJ _ W9=>az W9 fun ca ra ha=>?_) fk)
 refine WL.bind (WL.holding ((ha J).mono (fun J2 b cJ l R0=>az R0 fun cb rb hb=>?_) fk))
 refine WL.bind (WL.standAt (WL.bind (WL.operate ((hb J2 _ _ (ra.mono l) rb).mono (fun J3 c i8 _ R1=>az R1 fun cc rc hc=>?_) fk))))
 exact WL.holding (hc J3 _ rc)
theorem WT.not{x pos}{Q:Bool→ak→Prop}(h:WT C x st (fun b bJ=>Q (!b) bJ) X):WT C (.UnaryOp .Not x pos) st Q X:=fun I=>by
 show WL C (do return !(← OY x C.env (gK x C.env))) I st _ X
 exact WL.bind ((h I).mono (fun J b bJ _ hb=>WL.pure hb) fk)
noncomputable def P1(C:Cx)(op:BoolOp):List Expr→ak→(Bool→ak→Prop)→XP→Prop
 | [],st,Q,_=>Q (op == .And) st
 | e::es,st,Q,X=>WT C e st (fun b bJ=>match op,b with
   | .And,false=>Q false bJ
   | .Or,true=>Q true bJ
   | _,_=>P1 C op es bJ Q X) X
theorem P1.all{op:BoolOp}:∀{es:List Expr} {st:ak} {Q:Bool→ak→Prop},P1 C op es st Q X→∀I,WL C (allTrue op es C.env) I st (fun _ b aj=>Q b aj) X
 | [],st,Q,h,I=>WL.pure h
 | e::es,st,Q,h,I=>by
  show WL C (do match op,← OY e C.env (gK e C.env)with | .And,false=>pure false | .Or,true=>pure true | _,_=>allTrue op es C.env) I st _ X
  refine WL.bind ((h I).mono (fun J b bJ _ hb=>?_) fk)
  clear h;cases op <;> cases b
  ·exact WL.pure hb
  ·exact P1.all hb J
  ·exact P1.all hb J
  ·exact WL.pure hb
theorem WT.rm{op es pos}{Q:Bool→ak→Prop}(h:P1 C op es st Q X):WT C (.BoolOp op es pos) st Q X:=fun I=>h.all I
noncomputable def P2(C:Cx)(op:BoolOp):List Expr→ak→(CV→ak→Prop)→XP→Prop
 | [],_,_,_=>False
 | [e],st,Q,X=>WE C e st Q X
 | e::e'::es,st,Q,X=>WE C e st (fun a bJ=>iW C a bJ (fun b cJ=>match op,b with
   | .And,false=>Q a cJ
   | .Or,true=>Q a cJ
   | _,_=>P2 C op (e'::es) cJ Q X) X) X
theorem P2.all{op:BoolOp}{pos:Pos}:∀{es:List Expr} {st:ak} {Q:CV→ak→Prop},P2 C op es st Q X→∀I,WL C (boolOp pos op (wZ es C.env)) I st (VQ Q) X
 | [],st,Q,h,I=>h.elim
 | [e],st,Q,h,I=>h I
 | e::e'::es,st,Q,h,I=>by
  show WL C (do let v ← gK e C.env;standAt pos;let t ← holding [v] (truthy v);match op,t with | .And,false | .Or,true=>pure v | _,_=>boolOp pos op (wZ (e'::es) C.env)) I st _ X
  refine WL.bind ((h I).mono (fun J a bJ _ R2=>az R2 fun ca ra ha=>?_) fk)
  refine WL.bind (WL.standAt (WL.bind (WL.holding ((ha J _ ra).mono (fun J2 b cJ l hb=>?_) fk))))
  clear h R2 ha;cases op <;> cases b
  ·exact WL.pure (aw ca (ra.mono l) hb)
  ·exact P2.all hb J2
  ·exact P2.all hb J2
  ·exact WL.pure (aw ca (ra.mono l) hb)
theorem WE.rm{op es pos}(h:P2 C op es st Q X):WE C (.BoolOp op es pos) st Q X:=fun I=>h.all I
noncomputable def xB:Expr→Bool
 | .UnaryOp .Not _ _=>false
 | .BoolOp ..=>false
 | .IfExp ..=>false
 | .Compare ..=>false
 | _=>true
theorem isTrue_plain(hp:xB e=true):OY e env t=(do let v ← t;standAt e.pos;holding [v] (truthy v)):=by
 cases e <;> first | rfl | (exact aD hp) | skip
 rename_i op x pos
 cases op <;> first | rfl | (exact aD hp)
theorem WT.value{Q:Bool→ak→Prop}(hp:xB e=true)(h:WE C e st (fun a bJ=>iW C a bJ Q X) X):WT C e st Q X:=fun I=>by
 rw [isTrue_plain hp]
 refine WL.bind ((h I).mono (fun J a bJ _ R3=>az R3 fun ca ra ha=>?_) fk)
 exact WL.bind (WL.standAt (WL.holding (ha J _ ra)))
theorem iW.bool{Q:Bool→ak→Prop}(h:Q b st):iW C (.bool b) st Q X:=fun I v r KF s S=>by
 skip;subst r
 exact wpAny_truthy_bool (dK I st (.refl I) S h)
end
end
section
section
variable{C:Cx} {dep:Nat} {KF I:IM} {st:ak} {s:Shared}
structure i9(C:Cx)(KF I:IM)(h h':Heap):Prop where
 base:∀a o,C.base.get? a=some o→h.get? a=some o→h'.get? a=some o
 plain:∀a o,h.get? a=some o→((∃vs,o.data=.fields vs)→KF a≠none∨I a≠none∨a=C.tb)→¬C.Fr a→h'.get? a=some o
 frame:∀a o,h.get? a=some o→((∃vs,o.data=.fields vs)→KF a≠none∨I a≠none∨a=C.tb)→∃sl,h'.get? a=some { o with slots:=sl }
theorem i9.trans(x:i9 C KF I fz dS)(y:i9 C KF I dS fU):i9 C KF I fz fU :=
 ⟨fun a o b e=>y.base a o b (x.base a o b e),fun a o e n f=>y.plain a o (x.plain a o e n f) n f,fun a o e n=>by
  refine cG (x.frame a o e n) fun sl e1=>?_
  refine cG (y.frame a _ e1 n) fun P4 e2=>?_
  exact (dA P4 e2)⟩
theorem i9.field{h:Heap}{T:Addr}{oT:Obj}{ts:Array Value}(f:Obj→Obj)(hT:h.get? T=some oT)(hd:oT.data=.fields ts)(hb:C.wC T∧KF T=none∧I T=none):i9 C KF I h (h.update T f):=by
 have other:∀b,b≠T→(h.update T f).get? b=h.get? b:=fun b hb=>cL _ _ (aN hb)
 refine ⟨fun a o e1 e2=>(other a fun q=>by rw [q,hb.1.1]at e1;contradiction).trans e2,fun a o e n _=>(other a fun q=>by rw [q,hT]at e;obtain rfl:=aE e;exact (n (dA ts hd)).elim (fun z=>z (q▸hb.2.1)) (fun z=>z.elim (fun z=>z (q▸hb.2.2)) fun z=>hb.1.2 (q.symm.trans z))).trans e,
  fun a o e n=>(dA o.slots ((other a fun q=>by rw [q,hT]at e;obtain rfl:=aE e;exact (n (dA ts hd)).elim (fun z=>z (q▸hb.2.1)) (fun z=>z.elim (fun z=>z (q▸hb.2.2)) fun z=>hb.1.2 (q.symm.trans z))).trans e))⟩
theorem i9.push(h:Heap)(o:Obj):i9 C KF I h (h.push o):=⟨fun a o' _ e=>aX o e,fun a o' e _ _=>aX o e,fun a o' e _=>(dA o'.slots (aX o e))⟩
theorem OR.zt{prog:Program}{w:World}:∀{c:CO} {o:Obj},OR prog w I c o→c.si=false→∀vs,o.data≠.fields vs
 | .list vs,o,⟨n,xs,e,r⟩,_,us=>by subst e;exact fun q=>by contradiction
 | .dict es,o,⟨n,ds,e,r⟩,_,us=>by subst e;exact fun q=>by contradiction
 | .fE vs,o,⟨es,ep,t,_,hd,_⟩,_,us=>by rw [hd];exact fun q=>by contradiction
 | .inst C d,o,e,_,us=>by subst e;exact fun q=>by contradiction
 | .fu q p,o,e,n,us=>by exact aD n
theorem SR.sj(S:SR C KF I st s)(ok:C.OkE dep)(h:C.Own a):∃o,s.heap.get? a=some o∧∀vs,o.data≠.fields vs:=by
 refine fY h (fun R7=>?R6) (fun R7=>?R5);(case' R5=>try clear h;(refine az R7 fun x hx hl=>?_;try clear R7));(case' R6=>try clear h;obtain rfl:=R7)
 ·refine az S.loc.ns fun m G8 _=>?_;(refine Oz G8 fun oL es ep hL hd hr=>?_;try clear G8)
  exact (aw oL hL (fun vs q=>by rw [hd]at q;contradiction))
 ·refine gP (S.loc.cells x hx) fun c v0 a1 G5=>?_;(refine az G5 fun o ho hd=>?_;try clear G5)
  rw [hl]at a1;obtain rfl:=aE a1
  exact (aw o ho (fun vs q=>by rw [hd]at q;contradiction))
theorem SR.step(S:SR C KF I st s)(ok:C.OkE dep){h':Heap}{tk:Nat}(k:i9 C KF I s.heap h'):SR C KF I st { s with heap:=h',toks:=tk }:=by
 have DY:∀a,C.Fr a→C.base.get? a=none∧(a=C.env.locals∨∃o,KF a=some o):=by
  rintro a R4
  refine dC R4 fun l e hl he hf=>?_;try clear R4
  refine dC ok.frames fun e0 l0 h1 _ h3=>?_
  rw [hl]at h1;obtain rfl:=aE h1
  refine ao (h3 e he) fun _ R9=>?_;(refine eZ R9 fun L' h4 h5 h6=>?_;try clear R9)
  rw [hf]at h4;obtain rfl:=aE h4
  exact ⟨h5,h6.imp id fun W8=>cG W8 fun o q=>(dA o (S.kle _ _ q))⟩
 have VS:∀a o,I a=some o→h'.get? a=some o:=fun a o e=>by
  cases hb:C.base.get? a with
  | some o' =>
   have:=S.base a o' hb
   rw [e]at this;obtain rfl:=aE this
   exact k.base a o hb (S.de a o e)
  | none =>
   refine k.plain a o (S.de a o e) (fun _=>.inr (.inl (by rw [e];simp))) fun hf=>?_
   refine fY ((DY a hf).2) (fun q=>?R6) (fun R7=>?R5);(case' R5=>(refine cG R7 fun o' q=>?_;try clear R7));(case' R6=>skip)
   ·have:=(S.own a (.inl q)).1;rw [e]at this;contradiction
   ·have:=(S.mQ a o' q).1;rw [e]at this;contradiction
 refine ⟨S.kle,S.low,?_,S.base,VS,fun a o e=>?_,S.own,fun a c e=>?_,?_⟩
 ·(refine DV S.same fun h t d e=>?_);exact (y9 h' tk d (by rw [e]))
 ·refine ao (S.mQ a o e) fun h1 R9=>?_;(refine az R9 fun sl h2 h4=>?_;try clear R9)
  by_cases hf:C.Fr a
  ·refine cG (k.frame a _ h2 fun _=>.inl (by rw [e];simp)) fun P4 h3=>?_
   exact (lb h1 (aw P4 h3 (fun q=>absurd hf q)))
  ·exact (lb h1 (aw sl (k.plain a _ h2 (fun _=>.inl (by rw [e];simp)) hf) h4))
 ·refine dO (S.mu a c e) fun h1 h2 R9=>?_;(refine az R9 fun o h3 h4=>?_;try clear R9)
  refine ⟨h1,h2,o,k.plain a o h3 (fun W9=>cG W9 fun vs q=>by
   cases ht:c.si with
   | true=>exact .inr (.inr ((S.low.2 a c e).2 ht))
   | false=>exact absurd q (OR.zt h4 ht vs)) fun hf=>?_,h4⟩
  rcases (DY a hf).2 with q | ⟨o',q⟩
  ·have:=(S.own a (.inl q)).2.2;rw [e]at this;contradiction
  ·rw [h2]at q;contradiction
 ·obtain ⟨⟨m,⟨oL,es,ep,hL,hd,hr⟩,h1⟩,h2,h3,h4⟩:=S.loc
  have kc:∀x c v,C.env.kindOf x=some .cell→C.env.cells.lookup x=some c→s.heap.IsCell c v→h'.IsCell c v:=fun x c v hx hl R0=>az R0 fun o ho hd=>by
   refine cG (k.frame c o ho fun R1=>cG R1 fun vs q=>by rw [hd]at q;contradiction) fun sl e=>?_
   exact (aw _ e hd)
  refine cG (k.frame _ _ hL fun R2=>cG R2 fun vs q=>by rw [hd]at q;contradiction) fun sl eL=>?_
  refine ⟨(aw m (tq _ es ep eL hd hr) h1),fun x v e hk=>?_,h3,fun x hx=>?_⟩
  ·(refine dC (h2 x v e hk) fun c u a1 a2 a3=>?_);exact (dK c u a1 (kc x c _ hk a1 a2) a3)
  ·(refine gP (h4 x hx) fun c v0 a1 a2=>?_);exact (jq c v0 a1 (kc x c _ hx a1 a2))
theorem SR.xC(S:SR C KF I st s)(ok:C.OkE dep):∃e0 l L,C.A.frames=some (e0::l)∧e0.frame=C.env.frame∧C.env.frame=some L∧s.heap.FunFrames C.base (e0::l):=by
 refine dC ok.frames fun e0 l h1 h2 h3=>?_
 have all:∀l':List Env,(∀e'∈l',e'.scope.kind≠.module∧∃L',e'.frame=some L'∧C.base.get? L'=none∧(L'=C.env.locals∨∃o,C.KF L'=some o))→s.heap.FunFrames C.base l':=by
  intro l'
  induction l' with
  | nil=>intro _;trivial
  | cons e r ih =>
   intro h
   refine ao (h e (by simp)) fun a1 R9=>?_;(refine eZ R9 fun L' a2 a3 a4=>?_;try clear R9)
   refine (d9 a1 (dA L' ?_) (ih fun e' he=>h e' (aG _ he)))
   refine fY a4 (fun R7=>?R6) (fun R7=>?R5);(case' R5=>try clear a4;(refine cG R7 fun o q=>?_;try clear R7));(case' R6=>try clear a4;obtain rfl:=R7)
   ·refine az (S.sj ok (.inl rfl)) fun o a5 a6=>?_
    exact (GH o a2 a3 a5 a6)
   ·refine ao (S.mQ L' o (S.kle _ _ q)) fun _ R9=>?_;(refine az R9 fun sl a5 _=>?_;try clear R9)
    exact (GH _ a2 a3 a5 (ok.Q4 L' o q))
 refine ao (h3 e0 (by simp)) fun _ R9=>?_;(refine eZ R9 fun L' a2 _ _=>?_;try clear R9)
 exact (js e0 l L' h1 h2 (h2▸a2) (all _ h3))
theorem qw(xF:A.frames=some (e0::l))(h0:e0.frame=env.frame)(hl:s.heap.FunFrames base (e0::l))
  (hf:env.frame=some L) (h:∀h',Mm ((e0::l).filterMap (·.frame)) s.heap h'→Q (.ref L) { s with heap:=h' }):aR M A (zK env) Q E s:=by
 unfold zK
 refine aA (wpAny_frameEnvs xF ?_)
 have hdw:((e0::l).dropWhile fun x=>x.frame != env.frame)=e0::l:=by simp [List.dropWhile,h0]
 rw [hdw]
 unfold frameObject
 refine aA (aA (wpAny_readyFrames_fun hl fun fz je=>aC ?_))
 rw [h0,hf]
 exact aC (h fz je)
theorem i9.slots(xF:C.A.frames=some l)(hl:h.FunFrames C.base l)(k:Mm (l.filterMap (·.frame)) h h'):i9 C KF I h h':=by
 have fr:∀a,a∈l.filterMap (·.frame)→C.Fr a:=fun a ha=>by
  refine az (rZ.mp ha) fun e he hf=>?_
  exact (dK l e xF he hf)
 refine ⟨fun a o e1 e2=>(k.2.1 a fun hm=>?_).trans e2,fun a o e n hf=>(k.2.1 a fun hm=>hf (fr a hm)).trans e,fun a o e n=>k.2.2 a o e⟩
 have:=(hl.mem hm).1;rw [e1]at this;contradiction
theorem cf{x:CX}{e:Value}{n:Bool}(ok:C.OkE dep)(S:SR C KF I st s)(hx:BY C KF I n x e s.heap)
  (h:∀s',SR C KF I st s'→BY C KF I true x e s'.heap→Q () s'):aR (aS C.prog C.w) C.A (GQ e C.env) Q E s:=by
 refine Lr hx fun ea oe vs ta tb G3 R9=>?_;try clear hx;obtain rfl:=G3;(refine Ov R9 fun hb he hc hd h0 hv h1 ht=>?_;try clear R9)
 refine jr (S.xC ok) fun e0 l L xF VT Yi FF=>?_
 unfold GQ
 dsimp only [iF,iT,iG,iU,iH,iV,nT,nF,aT,aF,oT,oF];simp only [Yi]
 refine aA (dj he hd h1 ?_)
 have hsz:1<vs.size:=(cE.mp h1).1
 have main:∀(bO:Shared) (head:Value) (hn:Bool),SR C KF I st bO→bO.heap.FunFrames C.base (e0::l)→bO.heap.get? ea=some oe →
   aR (aS C.prog C.w) C.A (do setField (.ref ea) 1 (← zL head (← zK C.env) .none (kK L) .none (← entryPlaceOf L hn))) Q E bO:=by
  intro bO head hn rn Gk Lv
  refine aA (qw xF VT Gk Yi fun dS pj=>?_)
  refine aA (wpAny_entryPlaceOf fun pl zb=>?_)
  unfold zL newFields
  refine aA (bz ?_ (zb.sizeOk5 _ _ _ _ _))
  have zu:i9 C KF I bO.heap dS:=i9.slots xF Gk pj
  have ne:ea∉(e0::l).filterMap (·.frame):=fun hm=>by
   refine ao (Gk.mem hm) fun _ R9=>?_;(refine az R9 fun o ho Q6=>?_;try clear R9)
   rw [Lv]at ho;obtain rfl:=aE ho;exact Q6 vs hd
  have Lw:dS.get? ea=some oe:=(pj.2.1 ea ne).trans Lv
  let To:Obj:={ cls:=.type "traceback",dict:=bw,data:=.fields ([head,.ref L,.none,kK L,.none]++(if pl.isEmpty then List.replicate 6 fG else pl)).toArray }
  have Gl:(dS.push To).get? ea=some oe:=aX _ Lw
  refine D8 Gl hd hsz ?_
  have Lx:dS.objs.size≠ea:=cW (av Lw)
  have N9:C.wC dS.objs.size∧KF dS.objs.size=none∧I dS.objs.size=none:=by
   refine (d9 ⟨?_,?_⟩ ?_ ?_)
   ·cases hq:C.base.get? dS.objs.size with
    | none=>rfl
    | some o =>
     have:=zu.base _ o hq (rn.de _ _ (rn.base _ _ hq))
     exact absurd (av this) (eR _)
   ·refine az (rn.sj ok (.inl rfl)) fun oL hoL Q6=>?_
    refine cG (zu.frame _ _ hoL fun R3=>cG R3 fun vs q=>absurd q (Q6 vs)) fun sl hL2=>?_
    exact cW (bD ok.Q5 (av hL2))
   ·cases hq:KF dS.objs.size with
    | none=>rfl
    | some o =>
     refine ao (rn.mQ _ _ hq) fun _ R9=>?_;(refine az R9 fun sl a _=>?_;try clear R9)
     refine cG (zu.frame _ _ a fun _=>.inl (by rw [hq];simp)) fun P4 a'=>?_
     exact absurd (av a') (eR _)
   ·cases hq:I dS.objs.size with
    | none=>rfl
    | some o =>
     have a:=rn.de _ _ hq
     refine cG (zu.frame _ _ a fun _=>.inr (.inl (by rw [hq];simp))) fun P4 a'=>?_
     exact absurd (av a') (eR _)
  have k:i9 C KF I bO.heap ((dS.push To).update ea (BA (·.setIfInBounds 1 (.ref dS.objs.size)))):=(zu.trans (i9.push dS To)).trans (i9.field _ Gl hd hb)
  refine h _ (rn.step (tk:=bO.toks) ok k) ?_
  have Ly:=sZ hd (·.setIfInBounds 1 (dD dS.objs.size))
  refine ⟨ea,_,_,ta,.ref dS.objs.size,rfl,hb,cC _ Gl (EI Ly),(Obj.cls_mapFields _ _).trans hc,Ly,by rw [Array.getElem?_setIfInBounds_ne (by decide)];exact h0,hv,by simp [hsz],.inr ?_⟩
  refine (VI dS.objs.size To _ (kK L) rfl N9 Lx ?_ rfl (by first | (rfl;done) | (rcases zb with rfl | ⟨_,_,_,_,_,_,_,rfl⟩ <;> simp)))
  show ((dS.push To).update ea _).get? dS.objs.size=_
  rw [cL _ _ (aN Lx)]
  exact cR dS rfl
 refine fY ht (fun R7=>?R6) (fun R7=>?R5);(case' R5=>try clear ht;(refine Jd R7 fun T oT ts fl G4 R9=>?_;try clear R7;obtain rfl:=G4;(refine wB R9 fun N9 Lx hT Jh h3=>?_;try clear R9)));(case' R6=>try clear ht;(refine ao R7 fun _ G8=>?_;try clear R7;clear h1;obtain rfl:=G8))
 ·rw [if_neg (by decide)]
  exact main s .none _ S FF he
 ·rw [if_pos (show (dD T != fG)=true from by rfl)]
  refine aA (dj hT Jh h3 ?_)
  by_cases hq:(fl == kK L)=true
  ·rw [if_pos hq]
   exact aC (h s S ⟨ea,oe,vs,ta,.ref T,rfl,hb,he,hc,hd,h0,hv,h1,.inr (VI T oT ts fl rfl N9 Lx hT Jh h3)⟩)
  ·rw [if_neg hq]
   refine aA (D8 hT Jh (cE.mp h3).1 ?_)
   have k:i9 C KF I s.heap (s.heap.update T (BA (·.setIfInBounds 3 fG))):=i9.field _ hT Jh N9
   have S':=S.step (tk:=s.toks) ok k
   refine jr (S'.xC ok) fun e0' l' L' QA VU hfe' FF'=>?_
   rw [xF]at QA;clear VU;cases QA
   exact main _ _ _ S' FF' ((cL _ _ Lx).trans he)
theorem gR{x:CX}{e:Value}{n:Bool}{fr:Option Addr}(ok:C.OkE dep)(S:SR C KF I st s)(hx:BY C KF I n x e s.heap)
  (h:∀s',SR C KF I st s'→BY C KF I n x e s'.heap→Q () s'):aR (aS C.prog C.w) C.A (setFlight e fr) Q E s:=by
 refine Lr hx fun ea oe vs ta tb G3 R9=>?_;try clear hx;obtain rfl:=G3;(refine Ov R9 fun hb he hc hd h0 hv h1 ht=>?_;try clear R9)
 unfold setFlight
 refine aA (dj he hd h1 ?_)
 refine fY ht (fun R7=>?R6) (fun R7=>?R5);(case' R5=>try clear ht;(refine Jd R7 fun T oT ts fl G4 R9=>?_;try clear R7;obtain rfl:=G4;(refine wB R9 fun N9 Lx hT Jh h3=>?_;try clear R9)));(case' R6=>try clear ht;(refine ao R7 fun hn G8=>?_;try clear R7;obtain rfl:=G8))
 ·rw [if_neg (by decide)]
  exact aC (h s S ⟨ea,oe,vs,ta,.none,rfl,hb,he,hc,hd,h0,hv,h1,.inl ⟨hn,rfl⟩⟩)
 ·rw [if_pos (show (dD T != fG)=true from by rfl)]
  have QB:=(cE.mp h3).1
  refine D8 hT Jh QB ?_
  have k:i9 C KF I s.heap (s.heap.update T (BA (·.setIfInBounds 3 (fr.elim fG fun f=>kK f)))):=i9.field _ hT Jh N9
  refine h _ (S.step (tk:=s.toks) ok k) ⟨ea,oe,vs,ta,.ref T,rfl,hb,(cL _ _ Lx).trans he,hc,hd,h0,hv,h1,.inr (VI T _ _ (fr.elim fG fun f=>kK f) rfl N9 Lx (cC _ hT (EI (sZ Jh _))) (sZ Jh _) (by simp [QB]))⟩
theorem BY.weak(hx:BY C KF I n x e h):XR C KF I x e h:=by
 refine VK hx fun ea oe vs ta tb e1 hb he hc hd R9=>?_;try clear hx;(refine ip R9 fun h0 hv h1 ht=>?_;try clear R9)
 refine ⟨ea,oe,vs,ta,tb,e1,hb,he,hc,hd,h0,hv,h1,?_⟩
 refine fY ht (fun R7=>?R6) (fun q=>?R5);(case' R6=>try clear ht;(refine ao R7 fun _ q=>?_;try clear R7))
 ·exact .inl ⟨rfl,q⟩
 ·exact .inr q
theorem nQ(ok:C.OkE dep)(S:SR C KF I st s)(hx:BY C KF I true x e s.heap)
  (h:∀s',SR C KF I st s'→BY C KF I true x e s'.heap→E e s'):cameBackBy (aS C.prog C.w) C.A C.env E e s:=by
 refine Lr (id hx) fun ea oe vs ta tb G3 R9=>?_;obtain rfl:=G3;(refine Ov R9 fun hb he hc hd h0 hv h1 ht=>?_;try clear R9)
 unfold cameBackBy
 refine aA (dj he hd h1 ?_)
 have:tb≠.none:=by
  refine fY ht (fun R7=>?R6) (fun R7=>?R5);(case' R5=>try clear ht;(refine Jd R7 fun T _ _ _ q _=>?_;try clear R7));(case' R6=>try clear ht;(refine ao R7 fun q _=>?_;try clear R7))
  ·exact aD q
  ·rw [q];exact fun x=>by contradiction
 rw [if_neg (by simpa using this)]
 exact gR ok S hx h
end
end
section
noncomputable def dU(lo:Str→Option CV)(x:Str)(v:CV):Str→Option CV:=fun y=>if y=x then some v else lo y
@[simp] theorem Ea{lo:Str→Option CV}{x:Str}{v:CV}:dU lo x v x=some v:=by simp [dU]
theorem kr{lo:Str→Option CV}(h:y≠x):dU lo x v y=lo y:=by simp [dU,h]
noncomputable abbrev ak.put(st:ak)(x:Str)(v:CV):ak:={ st with lo:=dU st.lo x v }
noncomputable def cg:Option fP→Bool
 | some .local=>true
 | some .cell=>true
 | _=>false
section
variable{C:Cx} {dep:Nat} {KF I:IM} {st:ak} {s:Shared} {X:XP}
theorem qx{Q:ak→Prop}(ok:C.OkE dep)(hk:cg (C.env.kindOf x)=true)(h:Q (st.put x c)):WA C (storeName C.env x) c st Q X:=fun I v r KF s S=>by
 obtain ⟨⟨m,hn,h1⟩,h2,h3,h4⟩:=S.loc
 cases e:C.env.kindOf x with
 | none=>rw [e]at hk;exact aD hk
 | some k =>
  cases k with
  | «local» =>
   refine wpAny_storeName_local e hn (fun h' JG hs=>(dK I (st.put x c) (.refl I) ?_ h)) (by rw [ok.kY];rfl)
   have keep:∀a o,a≠C.env.locals→s.heap.get? a=some o→h'.get? a=some o:=fun a o cx e=>(hs.2 a cx).trans e
   refine ⟨S.kle,S.low,?_,S.base,fun a o e=>keep a o (fun q=>?_) (S.de a o e),fun a o e=>?_,S.own,fun a c' e=>?_,?_⟩
   ·(refine DV S.same fun h₀ t d e=>?_);exact (y9 h' (s.toks+1) d (by rw [e]))
   ·have:=(S.own a (.inl q)).1;rw [e]at this;contradiction
   ·refine ao (S.mQ a o e) fun a1 R9=>?_;(refine az R9 fun sl a2 a3=>?_)
    exact (lb a1 (aw sl (keep a _ (fun q=>by have:=(S.own a (.inl q)).2.1;rw [e]at this;contradiction) a2) a3))
   ·refine dO (S.mu a c' e) fun a1 a2 R9=>?_;(refine az R9 fun o a3 a4=>?_)
    exact (d9 a1 a2 (aw o (keep a o (fun q=>by have:=(S.own a (.inl q)).2.2;rw [e]at this;contradiction) a3) a4))
   ·have kc:∀y c' v,C.env.kindOf y=some .cell→C.env.cells.lookup y=some c'→s.heap.IsCell c' v→h'.IsCell c' v:=fun y c' v hy hl W0=>az W0 fun o ho hd =>
     (aw o (keep c' o (fun q=>ok.qH y hy (q▸hl)) ho) hd)
    refine ⟨(aw _ JG (fun y w hy iJ=>?_)),fun y w hy iJ=>?_,fun y w hy iJ=>?_,fun y iJ=>?_⟩
    ·change dU st.lo x c y=some w at hy
     unfold dU at hy
     by_cases q:y=x
     ·clear hk h e JG;subst q;simp at hy;subst hy;exact (aw v (by simp) r)
     ·simp [q]at hy ⊢;exact h1 y w hy iJ
    ·change dU st.lo x c y=some w at hy
     have q:y≠x:=fun q=>by rw [q,e]at iJ;contradiction
     rw [kr q]at hy
     refine dC (h2 y w hy iJ) fun c' u a1 a2 a3=>?_
     exact (dK c' u a1 (kc y c' _ iJ a1 a2) a3)
    ·change dU st.lo x c y=some w at hy
     have q:y≠x:=fun q=>by rw [q,e]at iJ;contradiction
     rw [kr q]at hy
     exact h3 y w hy iJ
    ·refine gP (h4 y iJ) fun c' v0 a1 a2=>?_
     exact (jq c' v0 a1 (kc y c' _ iJ a1 a2))
  | cell =>
   refine gP (h4 x e) fun ca v0 hl hv=>?_
   refine wpAny_storeName_cell ok.kY e hl hv fun h' UM hs=>(dK I (st.put x c) (.refl I) ?_ h)
   have keep:∀a o,a≠ca→s.heap.get? a=some o→h'.get? a=some o:=fun a o cx e=>(hs.2 a cx).trans e
   have pC:C.Own ca:=.inr (aw x e hl)
   refine ⟨S.kle,S.low,?_,S.base,fun a o e=>keep a o (fun q=>?_) (S.de a o e),fun a o e=>?_,S.own,fun a c' e=>?_,?_⟩
   ·(refine DV S.same fun h₀ t d e=>?_);exact (y9 h' s.toks d (by rw [e]))
   ·have:=(S.own a (q▸pC)).1;rw [e]at this;contradiction
   ·refine ao (S.mQ a o e) fun a1 R9=>?_;(refine az R9 fun sl a2 a3=>?_)
    exact (lb a1 (aw sl (keep a _ (fun q=>by have:=(S.own a (q▸pC)).2.1;rw [e]at this;contradiction) a2) a3))
   ·refine dO (S.mu a c' e) fun a1 a2 R9=>?_;(refine az R9 fun o a3 a4=>?_)
    exact (d9 a1 a2 (aw o (keep a o (fun q=>by have:=(S.own a (q▸pC)).2.2;rw [e]at this;contradiction) a3) a4))
   ·have kc:∀y c' v,y≠x→C.env.kindOf y=some .cell→C.env.cells.lookup y=some c'→s.heap.IsCell c' v→h'.IsCell c' v:=fun y c' v VV hy Ji W5=>az W5 fun o ho hd =>
     (aw o (keep c' o (fun q=>VV (ok.yA y x ca hy e (q▸Ji) hl)) ho) hd)
    refine ⟨(aw m (hn.sameBut hs (fun q=>ok.qH x e (q▸hl))) (fun y w hy iJ=>?_)),fun y w hy iJ=>?_,fun y w hy iJ=>?_,fun y iJ=>?_⟩
    ·change dU st.lo x c y=some w at hy
     have q:y≠x:=fun q=>by rw [q,e]at iJ;contradiction
     rw [kr q]at hy
     exact h1 y w hy iJ
    ·change dU st.lo x c y=some w at hy
     by_cases q:y=x
     ·clear hk h e kc;subst q
      unfold dU at hy;simp at hy;subst hy
      exact (dK ca v hl UM r)
     ·rw [kr q]at hy
      refine dC (h2 y w hy iJ) fun c' u a1 a2 a3=>?_
      exact (dK c' u a1 (kc y c' _ q iJ a1 a2) a3)
    ·change dU st.lo x c y=some w at hy
     have q:y≠x:=fun q=>by rw [q,e]at iJ;contradiction
     rw [kr q]at hy
     exact h3 y w hy iJ
    ·by_cases q:y=x
     ·clear hk h e kc;subst q;exact (jq ca _ hl UM)
     ·refine gP (h4 y iJ) fun c' v0' a1 a2=>?_
      exact (jq c' v0' a1 (kc y c' _ q iJ a1 a2))
  | _=>rw [e]at hk;exact aD hk
theorem so(ok:C.OkE dep)(hk:cg (C.env.kindOf x)=true)(h:Q (st.put x c)):WA C (pM C.env x) c st Q X:=fun I v r=>by
 show WL C (do holding [v] point;storeName C.env x v;point) I st _ X
 refine WL.bind (WL.holding (WL.point ?_))
 exact WL.bind ((qx ok hk h I v r).mono (fun J _ aj _ q=>WL.point q) fk)
theorem mR(ok:C.Ok dep)(hk:cg (C.env.kindOf x)=true)(h:Q (st.put x c)):WA C (pM C.env x) c st Q X:=so ok.toOkE hk h
theorem WA.Lz(ok:C.OkE dep)(hk:cg (C.env.kindOf x)=true)(h:Q (st.put x c)):WA C (gL (.Name x pos) C.env) c st Q X:=fun I v r=>by
 show WL C (do standAt pos;pM C.env x v) I st _ X
 exact WL.bind (WL.standAt (so ok hk h I v r))
theorem WA.name(ok:C.Ok dep)(hk:cg (C.env.kindOf x)=true)(h:Q (st.put x c)):WA C (gL (.Name x pos) C.env) c st Q X:=WA.Lz ok.toOkE hk h
theorem ag.nil(h:Q .next st):ag C [] st Q X:=fun I=>WL.pure (aw (.next) rfl h)
noncomputable def QC(C:Cx)(rest:List Stmt)(Q:CF→ak→Prop)(X:XP)(f:CF)(st:ak):Prop :=
 match f with
 | .next=>ag C rest st Q X
 | f=>Q f st
theorem ag.cons(h:WS C t st (QC C rest Q X) X):ag C (t::rest) st Q X:=fun I=>by
 simp only [D9]
 refine WL.bind ((h I).mono (fun J f bJ _ W6=>az W6 fun b r q=>?_) fk)
 cases b with
 | next=>clear W6;cases r;exact q J
 | brk=>clear W6;cases r;exact WL.pure (aw (.brk) rfl q)
 | cont=>clear W6;cases r;exact WL.pure (aw (.cont) rfl q)
 | ret c=>(revert r;intro R8;refine az R8 fun v G8 r=>?_;clear W6 R8;obtain rfl:=G8);exact WL.pure (aw (.ret c) (aw v rfl r) q)
theorem WS.pass{pos}(h:Q .next st):WS C (.Pass pos) st Q X:=fun I=>WL.bind (WL.standAt (WL.pure (aw (.next) rfl h)))
theorem WS.brk{pos}(h:Q .brk st):WS C (.Break pos) st Q X:=fun I=>WL.bind (WL.standAt (WL.pure (aw (.brk) rfl h)))
theorem WS.cont{pos}(h:Q .cont st):WS C (.Continue pos) st Q X:=fun I=>WL.bind (WL.standAt (WL.pure (aw (.cont) rfl h)))
theorem WS.ret{e pos}(h:WE C e st (fun v bJ=>Q (.ret v) bJ) X):WS C (.Return (some e) pos) st Q X:=fun I=>by
 simp only [zM]
 refine WL.bind (WL.standAt (WL.bind ((h I).mono (fun J v bJ _ W7=>az W7 fun c r q=>WL.pure (aw (.ret c) (aw v rfl r) q)) fk)))
theorem WS.oK{t b o pos}(h:WT C t st (fun c bJ=>(c=true→ag C b bJ Q X)∧(c=false→ag C o bJ Q X)) X):WS C (.If t b o pos) st Q X:=fun I=>by
 simp only [exec_If]
 refine WL.bind (WL.standAt (WL.bind ((h I).mono (fun J c bJ _ q=>?_) fk)))
 cases c
 ·exact q.2 rfl J
 ·exact q.1 rfl J
theorem WS.expr{e pos}(ok:C.Ok dep)(h:WE C e st (fun v bJ=>v=.none∧Q .next bJ) X)(hs:tL e none pos.line C.env=pure false:=by rfl):WS C (.Expr e pos) st Q X:=fun I=>by
 have hi:zh C.env=false:=by unfold zh;rw [ok.kY];rfl
 rw [exec_Expr C.env e pos hi hs]
 refine WL.bind (WL.standAt (WL.bind ((h I).mono (fun J v bJ _ W8=>eZ W8 fun c r e q=>?_) fk)))
 subst e
 skip;clear W8;subst r
 rw [dropValue_plain (fun a=>by simp)]
 exact WL.pure (aw (.next) rfl q)
theorem WS.bE{t value pos}(h:WE C value st (fun v bJ=>WA C (gL t C.env) v bJ (fun cJ=>Q .next cJ) X) X)
  (hs:swapsWithSole [t] value pos.line C.env=pure false:=by rfl) (hw:kU [t] value C.env=pure none:=by rfl) (he:(kM [t] C.env).map (·.2)=[gL t C.env]:=by rfl):WS C (.Assign [t] value pos) st Q X:=fun I=>by
 simp only [BB]
 refine WL.bind (WL.standAt ?_)
 rw [hs]
 refine WL.bind (WL.pure ?_)
 rw [if_neg (by decide)]
 refine WL.bind ((h I).mono (fun J v bJ _ W9=>az W9 fun c r q=>?_) fk)
 rw [hw]
 refine WL.bind (WL.pure ?_)
 show WL C (do assignAll v ((kM [t] C.env).map (·.2));pure uC) J bJ _ X
 rw [he]
 exact WL.bind ((q J v r).mono (fun J2 _ cJ _ q2=>WL.pure (aw (.next) rfl q2)) fk)
theorem WS.aug{x pos' op value pos}(ok:C.Ok dep)(hk:cg (C.env.kindOf x)=true)
  (h:WE C (.Name x pos') st (fun old bJ=>WE C value bJ (fun v cJ=>W2 C (pP op) old v cJ (fun r i8=>Q .next (i8.put x r)) X) X) X)
  (hd:(x == ("__debug__" : Str))=false:=by decide):WS C (.AugAssign (.Name x pos') op value pos) st Q X:=fun I=>by
 have e:exec (.AugAssign (.Name x pos') op value pos) C.env=(do
   let old ← gK (.Name x pos') C.env
   let v ← holding [old] (gK value C.env)
   standAt pos
   let new ← operate [old,v] (pP op old v)
   standAt pos'
   pM C.env x new
   pure uC):=by simp only [exec_AugAssign_Name,eval_Name C.env x pos' hd];rfl
 rw [e]
 refine WL.bind ((h I).mono (fun J old bJ _ R0=>az R0 fun a ra qa=>?_) fk)
 refine WL.bind (WL.holding ((qa J).mono (fun J2 u cJ l2 R1=>az R1 fun b rb qb=>?_) fk))
 refine WL.bind (WL.standAt (WL.bind (WL.operate ((qb J2 _ _ (ra.mono l2) rb).mono (fun J3 r i8 _ R2=>az R2 fun c rc qc=>?_) fk))))
 exact WL.bind (WL.standAt (WL.bind ((mR (Q:=fun aj=>Q .next aj) ok hk qc J3 r rc).mono (fun J4 _ vk _ q4=>WL.pure (aw (.next) rfl q4)) fk)))
noncomputable def QD(C:Cx):List Expr→List CV→ak→(ak→Prop)→XP→Prop
 | [],[],st,Q,_=>Q st
 | t::ts,v::vs,st,Q,X=>WA C (gL t C.env) v st (fun bJ=>QD C ts vs bJ Q X) X
 | _,_,_,_,_=>False
theorem QD.all:∀{ts:List Expr} {vs:List CV} {st:ak} {Q:ak→Prop},QD C ts vs st Q X→∀I us,ck I vs us→WL C (Fy (ts.map fun t=>gL t C.env) us) I st (fun _ _ aj=>Q aj) X
 | [],[],st,Q,h,I,us,r=>by rw [r.dQ];exact WL.pure h
 | t::ts,v::vs,st,Q,h,I,us,r=>by
  refine gP r.cO fun u QE G7 R9=>?_;clear r;obtain rfl:=G7;(refine ao R9 fun r1 r2=>?_)
  show WL C (do holding QE (gL t C.env u);Fy (ts.map fun t=>gL t C.env) QE) I st _ X
  exact WL.bind (WL.holding ((h I u r1).mono (fun J _ bJ l q=>QD.all q J QE (ck.mono l _ _ r2)) fk))
 | [],_::_,_,_,h,_,_,_=>h.elim
 | _::_,[],_,_,h,_,_,_=>h.elim
theorem IsTuple.of{I:IM}{h:Heap}(hi:∀a o,I a=some o→h.get? a=some o){vs:List CV}{v:Value}(r:VR I (.tup vs) v):∃a xs,v=.ref a∧h.IsTuple a xs∧ck I vs xs.toList:=by
 refine j7 r fun a n xs G5 R9=>?_;clear r;obtain rfl:=G5;(refine ao R9 fun nR hr=>?_)
 exact (dK a xs rfl (cB _ (hi _ _ nR) rfl (dA n rfl)) hr)
theorem SR.ext(S:SR C KF I st s)(hb:s.heap.get? b=none)(k:Te b s.heap h'):SR C KF I st { s with heap:=h',toks:=tk } :=
 S.keeps fun a o e=>k a o (fun q=>by rw [q,hb]at e;contradiction) e
theorem zv(ok:C.Ok dep){vs:List CV}{n:Nat}{v:Value}(hn:vs.length=n)(r:VR I (.tup vs) v)(h:∀us,ck I vs us→Q I us st):WL C (unpackItems v n none) I st Q X:=fun KF s S=>by
 refine gP (IsTuple.of S.de r) fun a xs G7 R9=>?_;clear r;obtain rfl:=G7;(refine ao R9 fun ht hr=>?_)
 have:xs.size=n:=by simp only [← hn,hr.length];simp
 clear hn;subst this
 exact wpAny_unpackItems_tuple ok.hd ht fun h' k=>(dK I st (.refl I) (S.ext (tk:=s.toks) (gQ _) k) (h _ hr))
noncomputable def noStar:Expr→Bool
 | .Starred ..=>false
 | _=>true
theorem hV{es:List Expr}(h:es.all noStar=true):∀e∈es,∀t p,e≠.Starred t p:=fun e he t p q=>by
 have:=bc.mp h e he
 rw [q]at this;exact aD this
theorem tT(h:∀t p,e≠.Starred t p):kM (e::es) env=(false,gL e env)::kM es env:=by
 cases e <;> first | rfl | exact absurd rfl (h _ _)
theorem lF(h:∀t p,e≠.Starred t p):eA (e::es) env=(false,gK e env)::eA es env:=by
 cases e <;> first | rfl | exact absurd rfl (h _ _)
theorem xG:∀(es:List Expr),(∀e∈es,∀t p,e≠.Starred t p)→(kM es env).findIdx? (·.1)=none∧(kM es env).map (·.2)=es.map (fun t=>gL t env)∧(kM es env).length=es.length
 | [],_=>(d9 rfl rfl rfl)
 | e::es,h=>by
  refine dO (xG (env:=env) es fun x hx=>h x (aG _ hx)) fun a b c=>?_
  rw [tT (h e aH)]
  refine (d9 ?_ (by simp [b]) (by simp [c]))
  rw [List.findIdx?_cons];simp [a]
theorem WA.tuple{es:List Expr}{k pos}{vs:List CV}(ok:C.Ok dep)(hn:vs.length=es.length)(h:QD C es vs st Q X)(hs:es.all noStar=true:=by rfl):WA C (gL (.Tuple es k pos) C.env) (.tup vs) st Q X:=fun I v r=>by
 refine dO (xG (env:=C.env) es (hV hs)) fun a b c=>?_
 show WL C (do standAt pos;unpack v (kM es C.env)) I st _ X
 refine WL.bind (WL.standAt ?_)
 unfold unpack
 rw [a,b,c]
 exact WL.bind (WL.holding (zv ok hn r fun us r'=>h.all I us r'))
theorem WS.DZ{k wD value pos}(ok:C.Ok dep)
  (h:WE C value st (fun v bJ=>∃a b,v=.tup [a,b]∧Q .next ((bJ.put y b).put x a)) X)
  (hx:cg (C.env.kindOf x)=true) (hy:cg (C.env.kindOf y)=true)
  (hs:swapsWithSole [.Tuple [.Name x px,.Name y py] k wD] value pos.line C.env=pure false:=by rfl)
  (hw:kU [.Tuple [.Name x px,.Name y py] k wD] value C.env=pure (some [x,y])) :
  WS C (.Assign [.Tuple [.Name x px,.Name y py] k wD] value pos) st Q X:=fun I=>by
 simp only [BB]
 refine WL.bind (WL.standAt ?_)
 rw [hs]
 refine WL.bind (WL.pure ?_)
 rw [if_neg (by decide)]
 refine WL.bind ((h I).mono (fun J v bJ _ R3=>az R3 fun c r hZ=>gP hZ fun a b e q=>?_) fk)
 subst e
 rw [hw]
 refine WL.bind (WL.pure ?_)
 show WL C (do rule "assign.swapped-stores";let items ← unpackItems v 2 none;Fy [pM C.env y,pM C.env x] items.reverse;pure uC) J bJ _ X
 refine WL.bind (WL.rule (WL.bind (zv ok rfl r fun us r'=>?_)))
 refine gP r'.cO fun u1 QE G7 R9=>?_;obtain rfl:=G7;(refine ao R9 fun r1 r2=>?_;try clear R9)
 refine gP r2.cO fun u2 us'' G7 R9=>?_;clear r' r2;obtain rfl:=G7;(refine ao R9 fun r3 r4=>?_;try clear R9)
 rw [r4.dQ]
 show WL C (do (do holding [u1] (pM C.env y u2);(do holding [] (pM C.env x u1);pure ()));pure uC) J bJ _ X
 refine WL.bind (WL.bind (WL.holding ((mR (Q:=fun aj=>aj=bJ.put y b) ok hy rfl J u2 r3).mono (fun J2 _ cJ l e2=>?_) fk)))
 subst e2
 refine WL.bind (WL.holding ((mR (Q:=fun aj=>aj=(bJ.put y b).put x a) ok hx rfl J2 u1 (r1.mono l)).mono (fun J3 _ i8 _ e3=>?_) fk))
 subst e3
 exact WL.pure (WL.pure (aw (.next) rfl q))
end
end
section
section
variable{C:Cx} {dep:Nat} {KF I:IM} {st:ak} {s:Shared} {X:XP}
theorem SR.tU(S:SR C KF I st s)(ho:s.heap.get? a=some o)(h1:I a=none)(h2:KF a=none)(h3:st.H a=none)(h4:¬C.Own a):SR C (df KF a o) I st s:=by
 refine ⟨S.kle.trans (dt h2),S.low,S.same,S.base,S.de,fun b o' e=>?_,fun b hb=>?_,fun b c e=>?_,S.loc⟩
 ·unfold df at e;split at e
  ·rename_i q;subst q;obtain rfl:=aE e;exact (lb h1 (aw o.slots ho (fun _=>rfl)))
  ·exact S.mQ b o' e
 ·refine dO (S.own b hb) fun a1 a2 a3=>?_
  refine (d9 a1 ?_ a3)
  unfold df;split
  ·rename_i q;clear ho h1 h2 h3;subst q;exact absurd hb h4
  ·exact a2
 ·refine dO (S.mu b c e) fun a1 a2 r=>?_
  refine (d9 a1 ?_ r)
  unfold df;split
  ·rename_i q;clear ho h1 h2 h4;subst q;rw [h3]at e;contradiction
  ·exact a2
theorem SR.g7(S:SR C tr I st s)(l:fq KF tr)(l':fq C.KF KF):SR C KF I st s:=by
 have no:∀a,tr a=none→KF a=none:=fun a h=>by
  cases e:KF a with
  | none=>rfl
  | some o=>rw [l a o e]at h;contradiction
 refine ⟨l',S.low,S.same,S.base,S.de,fun b o' e=>S.mQ b o' (l b o' e),fun b hb=>?_,fun b c e=>?_,S.loc⟩
 ·(refine dO (S.own b hb) fun a1 a2 a3=>?_);exact (d9 a1 (no b a2) a3)
 ·(refine dO (S.mu b c e) fun a1 a2 r=>?_);exact (d9 a1 (no b a2) r)
theorem BY.g7(hx:BY C tr I n x e h)(l:fq KF tr):BY C KF I n x e h:=by
 have no:∀a,tr a=none→KF a=none:=fun a h=>by
  cases e:KF a with
  | none=>rfl
  | some o=>rw [l a o e]at h;contradiction
 refine Q1 hx fun ea oe vs ta tb e1 G2 R9=>?_;try clear hx;(refine dO G2 fun hb hk hi=>?_;try clear G2);(refine Ou R9 fun he hc hd h0 hv h1 ht=>?_;try clear R9)
 refine ⟨ea,oe,vs,ta,tb,e1,(d9 hb (no _ hk) hi),he,hc,hd,h0,hv,h1,?_⟩
 refine fY ht (fun q=>?R6) (fun R7=>?R5);(case' R5=>try clear ht;(refine U42 R7 fun T oT ts fl a1 G3 r=>?_;try clear R7;(refine dO G3 fun a2 a3 a4=>?_;try clear G3)));(case' R6=>skip)
 ·exact .inl q
 ·exact .inr (Yc T oT ts fl a1 (d9 a2 (no _ a3) a4) r)
structure Tf(prog:Program)(w:World)(xs:List CV)(it:Addr)(D:Nat→IM→Heap→Prop):Prop where
 item:∀(A:eh) (J:IM) (s:Shared) (i:Nat) (c:CV) (E:Value→Shared→Prop) (Q:Option Value→Shared→Prop),(∀a o,J a=some o→s.heap.get? a=some o)→D i J s.heap→xs[i]?=some c →
  (∀h' tk v,D (i+1) J h'→VR J c v→(∀b o,b≠it→s.heap.get? b=some o→h'.get? b=some o)→(∃o,h'.get? it=some o)→Q (some v) { s with heap:=h',toks:=tk })→aR (aS prog w) A (kN (.ref it)) Q E s
 fin:∀(A:eh) (J:IM) (s:Shared) (E:Value→Shared→Prop) (Q:Option Value→Shared→Prop),A.handled=none→(∀a o,J a=some o→s.heap.get? a=some o)→D xs.length J s.heap →
  (∀h' tk,(∀b o,b≠it→s.heap.get? b=some o→h'.get? b=some o)→Q none { s with heap:=h',toks:=tk })→aR (aS prog w) A (kN (.ref it)) Q E s
 frame:∀(J J':IM) (h h':Heap) (i:Nat),D i J h→fq J J'→(∀o,h.get? it=some o→h'.get? it=some o)→(∀a o,J a=some o→h.get? a=some o→h'.get? a=some o)→D i J' h'
 self:∀(A:eh) (J:IM) (s:Shared) (i:Nat) (E:Value→Shared→Prop) (Q:Value→Shared→Prop),D i J s.heap→Q (.ref it) s→aR (aS prog w) A (DB (.ref it)) Q E s
 cls:∀(J:IM) (h:Heap) (i:Nat),D i J h→∃o n,h.get? it=some o∧o.cls=.type n∧(["enumerate", "zip", "dict_itemiterator", "dict_reverseitemiterator", "odict_iterator", "itertools.zip_longest", "itertools.pairwise"].contains n)=false
noncomputable def zw(C:Cx)(I:IM)(st:ak)(v:Value)(xs:List CV):Prop :=
 ∀(A:eh) (KF:IM) (s:Shared) (E:Value→Shared→Prop) (Q:Value→Shared→Prop),SR C KF I st s →
  (∀(h':Heap) (tk:Nat) (it:Addr) D,Tf C.prog C.w xs it D→D 0 I h'→s.heap.get? it=none→(∃o,h'.get? it=some o)→(∀b o,s.heap.get? b=some o→h'.get? b=some o)→Q (.ref it) { s with heap:=h',toks:=tk }) →
  aR (aS C.prog C.w) A (DB v) Q E s
theorem xH{D}(W:Tf C.prog C.w xs it D)(hD:D i J s.heap)(h:Q () s):aR M A (BC t (.ref it) v) Q E s:=by
 refine dC (W.cls J s.heap i hD) fun o n ho hc hn=>?_
 have main:aR M A (do
   let (.ref r,.ref a):=(dD it,v) | return
   let o ← load r
   match o.cls,o.data with
   | .type n,.fields vs =>
    if ["enumerate", "zip", "dict_itemiterator", "dict_reverseitemiterator", "odict_iterator", "itertools.zip_longest", "itertools.pairwise"].contains n&&vs[0]? == some (kK a)then
     rule "for.unpacks-the-owned-tuple"
     updateField r 0 .none
   | _,_=>pure ()) Q E s:=by
  cases v with
  | ref a =>
   refine aA (wpAny_load ho ?_)
   rw [hc]
   cases o.data <;> first | exact aC h | skip
   rename_i vs
   dsimp only
   rw [hn]
   exact aC h
  | _=>exact aC h
 cases t <;> first | exact aC h | exact main
theorem SR.qy(S:SR C KF I st s)(ok:C.OkE dep)(h1:KF a=none)(h2:¬C.Own a):¬C.Fr a:=by
 intro R4
 refine dC R4 fun l e hl he hf=>?_;try clear R4
 refine dC ok.frames fun e0 l0 g1 _ g3=>?_
 rw [hl]at g1;obtain rfl:=aE g1
 refine ao (g3 e he) fun _ R9=>?_;(refine eZ R9 fun L' a1 a2 a3=>?_;try clear R9)
 rw [hf]at a1;obtain rfl:=aE a1
 refine fY a3 (fun q=>?R6) (fun R7=>?R5);(case' R5=>try clear a3;(refine cG R7 fun o q=>?_;try clear R7));(case' R6=>skip)
 ·exact h2 (.inl q)
 ·rw [S.kle _ _ q]at h1;contradiction
noncomputable def ll(C:Cx)(t:Expr)(body orelse:List Stmt):List CV→ak→(CF→ak→Prop)→XP→Prop
 | [],st,Q,X=>ag C orelse st Q X
 | x::xs,st,Q,X=>WA C (gL t C.env) x st (fun bJ=>ag C body bJ (fun f cJ=>match f with
   | .next=>ll C t body orelse xs cJ Q X
   | .cont=>ll C t body orelse xs cJ Q X
   | .brk=>Q .next cJ
   | .ret v=>Q (.ret v) cJ) X) X
theorem QF(ok:C.Ok dep)(hit:zw C I st v xs)(h:ll C t body orelse xs st Q X):
  WL C (do let it ← holding [v] (DB v);Y8 (.forLoop t it body orelse C.env) C.env) I st (FQ Q) X:=fun KF s S=>by
 refine aA (bS (hit C.A KF s _ _ S fun fz zx it D W hD iq W5 Gm=>cG W5 fun oi NA=>?_))
 have rn:SR C KF I st { s with heap:=fz,toks:=zx }:=S.keeps Gm
 refine ip (S.fresh iq) fun n1 n2 n3 n4=>?_
 have Jj:fq KF (df KF it oi):=dt n2
 have SK:=rn.tU NA n1 n2 n3 n4
 let R:Result→Shared→Prop:=fun r s'=>match r with
  | .ok f=>PQ C KF I (FQ Q) f s'
  | .error e=>BZ C KF I X e s'
 refine Ih (h:=none) (dX (R:=R) ?lp fun r s' hr=>?bk)
 case bk =>
  cases r with
  | ok f=>(refine dC hr fun I' aj a b c=>?_;try clear hr);exact (dK I' aj a b c)
  | error e =>
   refine jr hr fun I' x aj a b c d=>?_;try clear hr
   exact nQ ok.toOkE b c fun vj Gi QG=>(js I' x aj a Gi QG.weak d)
 have hA:C.A.mark none=C.A:=by cases C.A;rfl
 rw [hA]
 refine Mn (fun n s'=>∃i J aj o sl,n=xs.length-i∧i≤xs.length∧fq I J∧SR C (df KF it o) J aj s'∧D i J s'.heap∧s'.heap.get? it=some { o with slots:=sl }∧ll C t body orelse (xs.drop i) aj Q X) ?_ xs.length
  (Yf 0 I st oi oi.slots (by simp) (by simp) (.refl I) SK hD NA (by simpa using h))
 rintro n s' R4
 refine Lr R4 fun i J aj o sl G3 R9=>?_;try clear R4;obtain rfl:=G3;(refine Jb R9 fun hi lJ S' JH QH hW=>?_;try clear R9)
 have lo:fq KF (df KF it o):=dt n2
 have nE:∀{J' EY vj} {e:Value},fq I J'→(∀x,SR C (df KF it o) J' EY vj→XR C (df KF it o) J' x e vj.heap→X x EY→notedBy (aS C.prog C.w) C.A C.env (fun e s'=>R (.error e) s') e vj) :=
  fun lJ' x Sx hx hX=>cf ok.toOkE Sx hx fun s3 S3 X3=>(js _ x _ lJ' (S3.g7 lo S.kle) (X3.g7 lo) hX)
 by_cases fM:i<xs.length
 ·obtain ⟨c,hc⟩:∃c,xs[i]?=some c:=(dA (xs[i]) (by simp [fM]))
  have Gn:xs.drop i=c::xs.drop (i+1):=by
   rw [ey fM]
   rw [aU fM]at hc;obtain rfl:=aE hc;rfl
  rw [Gn]at hW
  refine W.item C.A J s' i c _ _ S'.de JH hc fun dS nU u zy hu jD W6=>cG W6 fun Bd xJ=>?_
  have Sx:SR C KF J aj { s' with heap:=dS,toks:=nU }:=by
   have:=(S'.g7 lo S.kle)
   refine this.heap fun a ob e hb=>jD a ob (fun q=>?_) e
   clear W iq W5 NA n1 n3 Jj SK QH lo nE jD W6 xJ;subst q
   have NB:(df KF a o) a=some o:=by simp
   have h1:=(S'.mQ a o NB).1
   rcases hb with hb | hb | hb | hb
   ·exact hb h1
   ·exact hb n2
   ·refine cG (bL.mp hb) fun cc QI=>?_
    have:=(S'.mu a cc QI).2.1;rw [NB]at this;contradiction
   ·have:=(S'.own a hb).2.1;rw [NB]at this;contradiction
  have m1:J it=none:=(S'.mQ it o (by simp)).1
  have m3:aj.H it=none:=by
   cases e:aj.H it with
   | none=>rfl
   | some cc=>have:=(S'.mu it cc e).2.1;simp at this
  have m4:¬C.Own it:=fun hb=>by have:=(S'.own it hb).2.1;simp at this
  have Sy:=Sx.tU xJ m1 n2 m3 m4
  have xK:fq KF (df KF it Bd):=dt n2
  refine xH W zy ?_
  refine aM (hW J u hu _ _ Sy) (fun _ s3 W7=>dC W7 fun J3 i8 l3 S3 q3=>?_) fun e s3 W8=>jr W8 fun J3 x i8 l3 S3 x3 q3=>cf ok.toOkE S3 x3 fun s4 S4 X4=>(js _ x _ (lJ.trans l3) (S4.g7 xK S.kle) (X4.g7 xK) q3)
  refine aM (q3 J3 _ _ S3) (fun f s4 W9=>dC W9 fun J4 vk l4 S4 hZ=>az hZ fun b hb q4=>?_) fun e s4 R0=>jr R0 fun J4 x vk l4 S4 x4 q4=>cf ok.toOkE S4 x4 fun s5 S5 X5=>(js _ x _ (lJ.trans (l3.trans l4)) (S5.g7 xK S.kle) (X5.g7 xK) q4)
  have again:∀vk,SR C (df KF it Bd) J4 vk s4→ll C t body orelse (xs.drop (i+1)) vk Q X→∃m,m<xs.length-i∧∃i J aj o sl,m=xs.length-i∧i≤xs.length∧fq I J∧SR C (df KF it o) J aj s4∧D i J s4.heap∧s4.heap.get? it=some { o with slots:=sl }∧ll C t body orelse (xs.drop i) aj Q X:=by
   intro vk S4 hw
   refine ao (S4.mQ it Bd (by simp)) fun _ R9=>?_;(refine az R9 fun sl4 e4 e5=>?_;try clear R9)
   have e6:=e5 (S.qy ok.toOkE n2 n4);clear e5;subst e6
   refine (aw (xs.length-(i+1)) (cU (by assumption) (bx _)) (Yf (i+1) J4 vk Bd Bd.slots rfl fM (lJ.trans (l3.trans l4)) S4 ?_ e4 hw))
   exact W.frame J J4 dS s4.heap (i+1) zy (l3.trans l4) (fun o' e=>by rw [xJ]at e;obtain rfl:=aE e;exact e4) fun a o' e1 e2=>S4.de a o' ((l3.trans l4) a o' e1)
  cases b with
  | next=>clear W9;cases hb;exact again vk S4 q4
  | cont=>clear W9;cases hb;exact again vk S4 q4
  | brk=>clear W9;cases hb;exact (dK J4 vk (lJ.trans (l3.trans l4)) (S4.g7 xK S.kle) (aw (.next) rfl q4))
  | ret c=>(refine az hb fun u' G8 r'=>?_;try clear hb;clear W9;obtain rfl:=G8);exact (dK J4 vk (lJ.trans (l3.trans l4)) (S4.g7 xK S.kle) (aw (.ret c) (aw u' rfl r') q4))
 ·have zc:i=xs.length:=by (exact (fx (by assumption) (bV (by assumption))))
  clear hi fM;subst zc
  refine W.fin C.A J s' _ _ ok.hd S'.de JH fun dS nU jD=>?_
  have Sx:SR C KF J aj { s' with heap:=dS,toks:=nU }:=by
   have:=(S'.g7 lo S.kle)
   refine this.heap fun a ob e hb=>jD a ob (fun q=>?_) e
   clear W iq W5 NA n1 n3 Jj SK QH lo nE jD;subst q
   have NB:(df KF a o) a=some o:=by simp
   have h1:=(S'.mQ a o NB).1
   rcases hb with hb | hb | hb | hb
   ·exact hb h1
   ·exact hb n2
   ·refine cG (bL.mp hb) fun cc QI=>?_
    have:=(S'.mu a cc QI).2.1;rw [NB]at this;contradiction
   ·have:=(S'.own a hb).2.1;rw [NB]at this;contradiction
  rw [JL]at hW
  exact aM (hW J KF _ Sx) (fun f s3 R1=>dC R1 fun J3 i8 l3 S3 q3=>(dK J3 i8 (lJ.trans l3) S3 q3)) fun e s3 R2=>jr R2 fun J3 x i8 l3 S3 x3 q3=>cf ok.toOkE S3 x3 fun s4 S4 X4=>(js _ x _ (lJ.trans l3) S4 X4 q3)
noncomputable def du(C:Cx)(a:CV)(st:ak)(xs:List CV):Prop:=∀I v,VR I a v→zw C I st v xs
theorem WS.Be{t iter body orelse pos}(ok:C.Ok dep)(h:WE C iter st (fun a bJ=>∃xs,du C a bJ xs∧ll C t body orelse xs bJ Q X) X)
  (hs:∀x,cM iter C.env x=pure x:=by intro _;rfl):WS C (.For t iter body orelse pos) st Q X:=fun I=>by
 simp only [exec_For]
 refine WL.bind (WL.standAt (WL.bind ((h I).mono (fun J v bJ _ R3=>az R3 fun a r hZ=>az hZ fun xs hi hw=>?_) fk)))
 rw [hs v]
 exact WL.bind (WL.pure (WL.bind (WL.standAt (QF (X:=X) ok (hi J v r) hw))))
end
end
section
section
variable{C:Cx} {dep:Nat} {KF I:IM} {st:ak} {s:Shared} {X:XP}
theorem WS.uO(ok:C.Ok dep)(Inv:Nat→ak→Prop)(QJ:Nat)(h0:Inv QJ st)
  (turn:∀n bJ,Inv n bJ→WT C test bJ (fun b cJ=>(b=true→ag C body cJ (fun f i8=>match f with
   | .next=>∃m,m<n∧Inv m i8
   | .cont=>∃m,m<n∧Inv m i8
   | .brk=>Q .next i8
   | .ret v=>Q (.ret v) i8) X)∧(b=false→ag C orelse cJ Q X)) X):WS C (.While test body orelse pos) st Q X:=fun I KF s S=>by
 refine wpAny_While ?_
 let R:Result→Shared→Prop:=fun r s'=>match r with
  | .ok f=>PQ C KF I (FQ Q) f s'
  | .error e=>BZ C KF I X e s'
 refine dX (R:=R) ?lp fun r s' hr=>?bk
 case bk =>
  cases r with
  | ok f=>exact hr
  | error e =>
   refine jr hr fun I' x aj a b c d=>?_
   exact nQ ok.toOkE b c fun vj Gi QG=>(js I' x aj a Gi QG.weak d)
 refine codeAny_whileLoop (fun n s'=>∃J aj,fq I J∧SR C KF J aj s'∧Inv n aj) ?_ QJ (dK I st (.refl I) S h0)
 rintro n s' R4
 refine dC R4 fun J aj lJ S' hI=>?_
 refine aM (turn n aj hI J KF s' S') (fun b s2 W8=>dC W8 fun J2 cJ l2 S2 q2=>?_) fun e s2 W9=>jr W9 fun J2 x cJ l2 S2 x2 q2=>cf ok.toOkE S2 x2 fun s4 S4 X4=>(js _ x _ (lJ.trans l2) S4 X4 q2)
 cases b with
 | true =>
  dsimp only [if_true,iF,iT,iG,iU,iH,iV,nT,nF,aT,aF,oT,oF]
  refine aM (q2.1 rfl J2 KF s2 S2) (fun f s3 R0=>dC R0 fun J3 i8 l3 S3 hZ=>az hZ fun b hb q3=>?_) fun e s3 R1=>jr R1 fun J3 x i8 l3 S3 x3 q3=>cf ok.toOkE S3 x3 fun s4 S4 X4=>(js _ x _ (lJ.trans (l2.trans l3)) S4 X4 q3)
  cases b with
  | next =>
   clear R0;cases hb
   refine az q3 fun m hm hi=>?_
   exact (aw m hm (dK J3 i8 (lJ.trans (l2.trans l3)) S3 hi))
  | cont =>
   clear R0;cases hb
   refine az q3 fun m hm hi=>?_
   exact (aw m hm (dK J3 i8 (lJ.trans (l2.trans l3)) S3 hi))
  | brk =>
   clear R0;cases hb
   exact (dK J3 i8 (lJ.trans (l2.trans l3)) S3 (aw (.next) rfl q3))
  | ret c =>
   refine az hb fun u' G8 r'=>?_;clear R0 hb;obtain rfl:=G8
   exact (dK J3 i8 (lJ.trans (l2.trans l3)) S3 (aw (.ret c) (aw u' rfl r') q3))
 | false =>
  dsimp only [aL,if_false,iF,iT,iG,iU,iH,iV,nT,nF,aT,aF,oT,oF]
  exact aM (q2.2 rfl J2 KF s2 S2) (fun f s3 R2=>dC R2 fun J3 i8 l3 S3 q3=>(dK J3 i8 (lJ.trans (l2.trans l3)) S3 q3)) fun e s3 R3=>jr R3 fun J3 x i8 l3 S3 x3 q3=>cf ok.toOkE S3 x3 fun s4 S4 X4=>(js _ x _ (lJ.trans (l2.trans l3)) S4 X4 q3)
end
end
section
section
variable{C:Cx} {dep:Nat} {KF I:IM} {st:ak} {s:Shared} {X:XP}
noncomputable def Cx.mk'(C:Cx)(h:Value):Cx:={ C with A:=C.A.mark (some h) }
theorem SR.mark(S:SR C KF I st s):SR (C.mk' h) KF I st s:=⟨S.kle,S.low,S.same,S.base,S.de,S.mQ,S.own,S.mu,⟨S.loc.ns,S.loc.cell,S.loc.free,S.loc.cells⟩⟩
theorem SR.unmark(S:SR (C.mk' h) KF I st s):SR C KF I st s:=⟨S.kle,S.low,S.same,S.base,S.de,S.mQ,S.own,S.mu,⟨S.loc.ns,S.loc.cell,S.loc.free,S.loc.cells⟩⟩
theorem Cx.Ok.mark(ok:C.Ok dep):(C.mk' h).OkE dep:=⟨ok.kY,ok.gl,ok.bl,ok.K,ok.g,ok.b,ok.nolimit,ok.boot,ok.units,ok.depth,ok.yA,ok.qH,ok.Lu,ok.frames,ok.Q4,ok.above,ok.guards,ok.Q5⟩
theorem qz{pos}(ok:C.OkE dep)(S:SR C KF I st s)(hG:kQ C G)(hv:G.lookup x=some v)(hk:C.env.kindOf x=some .globalImplicit)(hd:(x == ("__debug__" : Str))=false):
  aR (aS C.prog C.w) A (gK (.Name x pos) C.env) (fun c s'=>c=v∧s'=s) E s:=by
 have hg:s.heap.Ns C.env.globals C.mg:=by rw [ok.gl];exact ok.g.keeps fun b o e=>S.de b o (S.base b o e)
 have hb:s.heap.Ns C.env.builtins C.mb:=by rw [ok.bl];exact ok.b.keeps fun b o e=>S.de b o (S.base b o e)
 refine LL ok.kY hk ?_ hd
 refine fY (hG x v hv) (fun e=>?R6) (fun R7=>?R5);(case' R5=>(refine ao R7 fun e1 e2=>?_;try clear R7));(case' R6=>skip)
 ·exact PV hg e ⟨rfl,rfl⟩
 ·exact OZ hg e1 hb e2 ⟨rfl,rfl⟩
theorem WS.zz(ok:C.Ok dep)(hG:kQ C G)(hv:G.lookup T=some (.type tn))(Bf:C.env.kindOf T=some .globalImplicit)
  (VW:tM (.type tn) (.type "BaseException")=pure true) (hnt:tM (.type ((Manifest.find? tn).elim "type" fun x=>x.metatype)) (.type "tuple")=pure false)
  (h:ag C body st (fun f bJ=>match f with | .next=>ag C orelse bJ Q X | f=>Q f bJ)
   (fun x bJ=>∃xn,x.cls=.type xn∧tM (.type xn) (.type tn)=pure true∧∀v,ag (C.mk' v) (VX::Gp) bJ Q fun _ _=>False))
  (VY:(T == ("__debug__" : Str))=false:=by decide):WS C (.Try body [.ExceptHandler (some (.Name T tp)) none (VX::Gp) nV] orelse [] pos) st Q X:=fun I KF s S=>by
 refine Tg (aM (h I KF s S) (fun f s1 W7=>dC W7 fun J bJ l S1 hZ=>az hZ fun b hb q=>?_) fun e s1 W8=>jr W8 fun J x bJ l S1 hx hZ=>eZ hZ fun xn hc A0 q=>?_)
 ·cases b with
  | next =>
   clear W7;cases hb
   exact aM (q J KF s1 S1) (fun f s2 W9=>dC W9 fun J2 cJ l2 S2 hZ=>az hZ fun b hb q=>(dK J2 cJ (l.trans l2) S2 (aw b hb q))) fun e s2 R0=>jr R0 fun J2 x cJ l2 S2 hx q=>(js J2 x cJ (l.trans l2) S2 hx q)
  | cont =>
   clear W7;cases hb
   exact (dK J bJ l S1 (aw (.cont) rfl q))
  | brk =>
   clear W7;cases hb
   exact (dK J bJ l S1 (aw (.brk) rfl q))
  | ret c =>
   refine az hb fun u' G8 r'=>?_;try clear hb;clear W7;obtain rfl:=G8
   exact (dK J bJ l S1 (aw (.ret c) (aw u' rfl r') q))
 ·refine cf ok.toOkE S1 hx fun s2 S2 x2=>?_
  refine gR ok.toOkE S2 x2 fun s3 S3 x3=>?_
  refine Lr (id x3) fun ea oe vs ta tb G3 R9=>?_;clear W8 hx x2;obtain rfl:=G3;(refine Ov R9 fun hb he yC hd h0 hvv h1 ht=>?_;try clear R9)
  refine wpAny_handleBy_builtin (X:=xn) (T:=tn) (b:=true) VW hnt A0 ?_
  have NC:(C.mk' (.ref ea)).OkE dep:=ok.mark
  refine aM (qz (A:=C.A.mark (some (.ref ea))) (E:=fun _ _=>False) ok.toOkE S3 hG hv Bf VY) (fun c s4 R1=>ao R1 fun e1 e2=>?_) fun _ _ q=>q.elim
  clear ht R1;subst e1 e2
  refine (d9 rfl (aw oe he (yC.trans hc)) ?_)
  dsimp only [↓reduceIte,iF,iT,iG,iU,iH,iV,nT,nF,aT,aF,oT,oF]
  refine gR (C:=C.mk' (.ref ea)) NC S3.mark x3 fun s5 S5 x5=>?_
  exact aM (q (.ref ea) J KF s5 S5) (fun f s6 R2=>dC R2 fun J6 Yj l6 S6 hZ=>az hZ fun b hb q6=>(dK J6 Yj (l.trans l6) S6.unmark (aw b hb q6))) fun e s6 R3=>jr R3 fun J6 x6 Yj l6 S6 hx6 q6=>q6.elim
end
end
section
section
variable{C:Cx} {KF I:IM} {st:ak} {s:Shared} {X:XP}
theorem Eb(cx:it≠l):
  Tf C.prog C.w xs it (fun i J h=>h.IsListIter it l i∧(∃n,J l=some ⟨.type "list",.none,.seq us n,#[]⟩∧h.get? l=some ⟨.type "list",.none,.seq us n,#[]⟩)∧ck J xs us.toList):=by
 refine ⟨fun A J s i c E Q S W0 hc k=>dO W0 fun h1 hZ h3=>az hZ fun n h2 yD=>?_,fun A J s E Q hA S W5 k=>dO W5 fun h1 hZ h3=>az hZ fun n h2 yD=>?_,fun J J' h h' i W6 l k1 k2=>dO W6 fun h1 hZ h3=>az hZ fun n h2 yD=>?_,fun A J s i E Q W7 q=>ao W7 fun h1 _=>wpAny_pyIter_listiter h1 q,fun J h i W8=>ao W8 fun hZ _=>eZ hZ fun o h1 h2 _=>(dK o _ h1 h2 (by decide +kernel))⟩
 ·refine az (h3.get hc) fun v hv hr=>?_
  have hl:s.heap.IsList l us:=(cB _ (S _ _ h2) rfl (dA n rfl))
  refine wpAny_pyNext_list_item h1 hl (x:=v) (by simpa using hv) fun h' hit hs=>?_
  refine k h' s.toks v (d9 hit (aw n h2 ((hs.2 l (aN cx)).trans (S _ _ h2))) h3) hr (fun b o hb e=>(hs.2 b hb).trans e) ?_
  (refine az hit fun o ho _=>?_;try clear hit);exact (dA o ho)
 ·have hl:s.heap.IsList l us:=(cB _ (S _ _ h2) rfl (dA n rfl))
  refine wpAny_pyNext_list_end hA h1 hl ?_ fun h' hs=>k h' s.toks fun b o hb e=>hs b o hb e
  rw [wa,h3.length];simp
 ·refine eZ h1 fun o a1 a2 a3=>?_;try clear h1
  exact (d9 (cB _ (k1 o a1) a2 a3) (aw n (l _ _ h2) (k2 _ _ h2 yD)) (ck.mono l _ _ h3))
theorem Gq(cx:it≠l):
  Tf C.prog C.w xs it (fun i J h=>h.IsTupleIter it l i∧(∃n,J l=some ⟨.type "tuple",.none,.seq us n,#[]⟩∧h.get? l=some ⟨.type "tuple",.none,.seq us n,#[]⟩)∧ck J xs us.toList):=by
 refine ⟨fun A J s i c E Q S W9 hc k=>dO W9 fun h1 hZ h3=>az hZ fun n h2 yD=>?_,fun A J s E Q hA S R0 k=>dO R0 fun h1 hZ h3=>az hZ fun n h2 yD=>?_,fun J J' h h' i R1 l k1 k2=>dO R1 fun h1 hZ h3=>az hZ fun n h2 yD=>?_,fun A J s i E Q R2 q=>ao R2 fun h1 _=>wpAny_pyIter_tupleiter h1 q,fun J h i R3=>ao R3 fun hZ _=>eZ hZ fun o h1 h2 _=>(dK o _ h1 h2 (by decide +kernel))⟩
 ·refine az (h3.get hc) fun v hv hr=>?_
  have hl:s.heap.IsTuple l us:=(cB _ (S _ _ h2) rfl (dA n rfl))
  refine wpAny_pyNext_tuple_item h1 hl (x:=v) (by simpa using hv) fun h' hit hs=>?_
  refine k h' s.toks v (d9 hit (aw n h2 ((hs.2 l (aN cx)).trans (S _ _ h2))) h3) hr (fun b o hb e=>(hs.2 b hb).trans e) ?_
  (refine az hit fun o ho _=>?_;try clear hit);exact (dA o ho)
 ·have hl:s.heap.IsTuple l us:=(cB _ (S _ _ h2) rfl (dA n rfl))
  refine wpAny_pyNext_tuple_end hA h1 hl ?_ fun h' hs=>k h' s.toks fun b o hb e=>hs b o hb e
  rw [wa,h3.length];simp
 ·refine eZ h1 fun o a1 a2 a3=>?_;try clear h1
  exact (d9 (cB _ (k1 o a1) a2 a3) (aw n (l _ _ h2) (k2 _ _ h2 yD)) (ck.mono l _ _ h3))
theorem du.lst:du C (.lst xs) st xs:=fun I v r A KF s E Q S k=>by
 refine j7 r fun l n us G5 R9=>?_;try clear r;obtain rfl:=G5;(refine ao R9 fun hi hr=>?_;try clear R9)
 have hl:s.heap.IsList l us:=(cB _ (S.de _ _ hi) rfl (dA n rfl))
 refine wpAny_pyIter_list hl ?_
 have cx:s.heap.objs.size≠l:=cW (av (S.de _ _ hi))
 have hg:=cR s.heap (o:={ cls:=.type "list_iterator",data:=.fields #[.ref l,.int 0 0] }) rfl
 exact k _ s.toks _ _ (Eb cx) (d9 (cB _ hg rfl rfl) (aw n hi (aX _ (S.de _ _ hi))) hr) (gQ _) (dA _ hg) fun b o e=>aX _ e
theorem du.tup:du C (.tup xs) st xs:=fun I v r A KF s E Q S k=>by
 refine j7 r fun l n us G5 R9=>?_;try clear r;obtain rfl:=G5;(refine ao R9 fun hi hr=>?_;try clear R9)
 have hl:s.heap.IsTuple l us:=(cB _ (S.de _ _ hi) rfl (dA n rfl))
 refine wpAny_pyIter_tuple hl ?_
 have cx:s.heap.objs.size≠l:=cW (av (S.de _ _ hi))
 have hg:=cR s.heap (o:={ cls:=.type "tuple_iterator",data:=.fields #[.ref l,.int 0 0] }) rfl
 exact k _ s.toks _ _ (Gq cx) (d9 (cB _ hg rfl rfl) (aw n hi (aX _ (S.de _ _ hi))) hr) (gQ _) (dA _ hg) fun b o e=>aX _ e
end
end
section
theorem sq(kindOf:Str→Option fP)(x:Str):∀(binds:List (Str×Value)) (m:Str→Option Value),(∀b∈binds,b.1≠x)→bindL kindOf binds m x=m x
 | [],m,_=>rfl
 | (n,v)::r,m,h=>by
  unfold bindL
  rw [sq kindOf x r _ fun b hb=>h b (aG _ hb)]
  split
  ·have:x≠n:=fun q=>h (n,v) (by simp) q.symm
   simp [this]
  ·rfl
theorem sr(kindOf:Str→Option fP)(x:Str):∀(binds:List (Str×Value)) (m:Str→Option Value),(∀b∈binds,b.1≠x)→bindC kindOf binds m x=m x
 | [],m,_=>rfl
 | (n,v)::r,m,h=>by
  unfold bindC
  rw [sr kindOf x r _ fun b hb=>h b (aG _ hb)]
  split
  ·rfl
  ·have:x≠n:=fun q=>h (n,v) (by simp) q.symm
   simp [this]
theorem uP(kindOf:Str→Option fP)(x:Str)(u:Value)(hk:kindOf x=some .local):∀(binds:List (Str×Value)) (m:Str→Option Value),(binds.map (·.1)).Nodup→binds.lookup x=some u→bindL kindOf binds m x=some u
 | [],m,_,h=>by contradiction
 | (n,v)::r,m,hnd,h=>by
  rw [aK,dy]at hnd
  unfold bindL
  simp only [bQ]at h
  by_cases q:x=n
  ·subst q
   simp at h;subst h
   rw [sq _ _ _ _ fun b hb e=>hnd.1 (cV.mpr (aw b hb e)),if_pos hk];simp
  ·have:(x == n)=false:=by simpa using q
   rw [this]at h
   exact uP kindOf x u hk r _ hnd.2 h
theorem uQ(kindOf:Str→Option fP)(x:Str)(u:Value)(hk:kindOf x≠some .local):∀(binds:List (Str×Value)) (m:Str→Option Value),(binds.map (·.1)).Nodup→binds.lookup x=some u→bindC kindOf binds m x=some u
 | [],m,_,h=>by contradiction
 | (n,v)::r,m,hnd,h=>by
  rw [aK,dy]at hnd
  unfold bindC
  simp only [bQ]at h
  by_cases q:x=n
  ·subst q
   simp at h;subst h
   rw [sr _ _ _ _ fun b hb e=>hnd.1 (cV.mpr (aw b hb e)),if_neg hk];simp
  ·have:(x == n)=false:=by simpa using q
   rw [this]at h
   exact uQ kindOf x u hk r _ hnd.2 h
theorem jx{I:IM}{x:Str}:∀{pn:List Str} {cs:List CV} {us:List Value} {c:CV},ck I cs us→(pn.zip cs).lookup x=some c→∃u,(pn.zip us).lookup x=some u∧VR I c u
 | [],cs,us,c,r,h=>by contradiction
 | p::pn,[],us,c,r,h=>by contradiction
 | p::pn,d::cs,us,c,r,h=>by
  refine gP r.cO fun u QE G7 R9=>?_;clear r;obtain rfl:=G7;(refine ao R9 fun r1 r2=>?_;try clear R9)
  simp only [GR,bQ]at h ⊢
  split at h
  ·obtain rfl:=aE h;exact (aw u rfl r1)
  ·exact jx r2 h
theorem jE{α β:Type}:∀(l:List α) (r:List β),((l.zip r).map (·.1)).Sublist l
 | [],r=>by simp
 | a::l,[]=>by simp
 | a::l,b::r=>by simp [jE l r]
structure FnAt(C:Cx)(fa:Addr)(fd:kh)(body:List Stmt):Prop where
 at_:∃o,C.base.get? fa=some o∧o.data=.func fd
 code:C.base.CodeRec fd.code fd.qualname
 body:fd.body=.stmts body
 Jk:fd.closure=[]
 gl:fd.globals=bM
 bl:fd.builtins=eM
 co:fd.scope.isCoroutine=false
 gen:fd.scope.isGenerator=false
 kind:fd.scope.kind=.function
structure Cx.iY(C C':Cx):Prop where
 prog:C'.prog=C.prog
 w:C'.w=C.w
 base:C'.base=C.base
 K:C'.K=C.K
 mg:C'.mg=C.mg
 mb:C'.mb=C.mb
 s0:C'.s0=C.s0
 tb:C'.tb=C.tb
noncomputable def aW(C:Cx)(f:Value)(args:List CV)(kn:List Str)(ks:List CV)(st:ak)(Q:CV→ak→Prop)(X:XP):Prop :=
 ∀I us vs,ck I args us→ck I ks vs→WL C (call f us (kn.zip vs)) I st (VQ Q) X
theorem JI{C:Cx}{f:Value}{a:CV}{st:ak}{X:XP}(k:∀I x,VR I a x→WL C (call f [x] []) I st (VQ Q) X):aW C f [a] [] [] st Q X:=fun I us vs r _ =>
 dC r.cO fun x t e ra r=>rE e (rE r.dQ (k I x ra))
theorem Jm{C:Cx}{f:Value}{a b:CV}{st:ak}{X:XP}(k:∀I x y,VR I a x→VR I b y→WL C (call f [x,y] []) I st (VQ Q) X):aW C f [a,b] [] [] st Q X:=fun I us vs r _ =>
 dC r.cO fun x t e ra r=>rE e (dC r.cO fun y t e rb r=>rE e (rE r.dQ (k I x y ra rb)))
theorem Yk{C:Cx}{f:Value}{a b c:CV}{st:ak}{X:XP}(k:∀I x y z,VR I a x→VR I b y→VR I c z→WL C (call f [x,y,z] []) I st (VQ Q) X):aW C f [a,b,c] [] [] st Q X:=fun I us vs r _ =>
 dC r.cO fun x t e ra r=>rE e (dC r.cO fun y t e rb r=>rE e (dC r.cO fun z t e rc r=>rE e (rE r.dQ (k I x y z ra rb rc))))
theorem Yl{C:Cx}{f:Value}{a b c d:CV}{st:ak}{X:XP}(k:∀I x y z w,VR I a x→VR I b y→VR I c z→VR I d w→WL C (call f [x,y,z,w] []) I st (VQ Q) X):aW C f [a,b,c,d] [] [] st Q X:=fun I us vs r _ =>
 dC r.cO fun x t e ra r=>rE e (dC r.cO fun y t e rb r=>rE e (dC r.cO fun z t e rc r=>rE e (dC r.cO fun w t e rd r=>rE e (rE r.dQ (k I x y z w ra rb rc rd)))))
noncomputable def CF.val:CF→CV
 | .ret v=>v
 | _=>.none
section
variable{C:Cx} {dep:Nat} {KF I:IM} {st:ak} {s:Shared} {X:XP}
noncomputable def ND:Flow→Value
 | .ret v=>v
 | _=>.none
open Classical in
theorem jy{fa:Addr}{fo:Obj}{fd:kh}{body:List Stmt}{cs:List CV}{kn pn:List Str}{P:IM→IM→Flow→Heap→CH→Prop}(ok:C.Ok (dep+1))
  (Dc:fo.data=.func fd) (QK:fd.body=.stmts body) (VZ:fd.closure=[]) (fgl:fd.globals=bM) (fbl:fd.builtins=eM) (fco:fd.scope.isCoroutine=false) (Va:fd.scope.isGenerator=false) (Gr:fd.scope.kind=.function)
  (r5:(pn.all fun x=>cg (fd.scope.names.lookup x))=true) (hnd:pn.Nodup) (jF:(fd.scope.names.all fun x=>x.2 != .free)=true)
  (JJ:((fd.scope.names.filter fun x=>x.2 == .cell).map (·.1)).Nodup)
  (hP:∀KF tr J f h H,(∀a,tr a=none→KF a=none)→P tr J f h H→P KF J f h H)
  (h:∀C':Cx,C'.Ok dep→C.iY C'→C'.env.scope=fd.scope→C'.env.code=fd.code→C'.env.qual=fd.qualname++aB ".<locals>."→∀I KF s,SR C' KF I ⟨fun x=>(pn.zip cs).lookup x,st.H⟩ s →
   aR (aS C'.prog C'.w) C'.A (execs body C'.env) (fun f s'=>∃J aj,fq I J∧SR C' KF J aj s'∧P KF J f s'.heap aj.H)
    (fun e s'=>∃J x aj,fq I J∧SR C' KF J aj s'∧XR C' KF J x e s'.heap∧X x ⟨st.lo,aj.H⟩) s) :
  ∀I us vs ws,ck I cs ws→∀KF s,SR C KF I st s→BindsTo s fd ⟨us,kn.zip vs⟩ (pn.zip ws)→s.heap.get? fa=some fo→s.heap.CodeRec fd.code fd.qualname→gq (aS C.prog C.w) C.A (.call (.ref fa) ⟨us,kn.zip vs⟩) (fun r s'=>match r with
   | .ok (.ret v)=>∃J H',fq I J∧SR C KF J ⟨st.lo,H'⟩ s'∧∃f,ND f=v∧P KF J f s'.heap H'
   | .ok _=>False
   | .error e=>eV C KF I X e s') s:=fun I us vs ws rr KF s S Gs Bg r6=>by
 have bk:∀b o,C.base.get? b=some o→s.heap.get? b=some o:=fun b o e=>S.de b o (S.base b o e)
 refine JM (A:=C.A) (by have:=ok.depth;exact T3 [.t (.a (.a .x (.m 3 (.a .y .o))) (.n 20)) .z] (.t .x .z) tA this) Bg Dc fco Va QK r6 ?_
 refine Gs _ _ _ _ ?_
 rw [VZ,fgl,fbl]
 refine DC Gr (fun x hx=>?_) fun eG he bO x=>?_
 ·have hm:x.1∈pn:=by
   have:=gy (f:=EJ) hx
   exact (jE _ _).subset this
  have:=bc.mp r5 _ hm
  cases q:fd.scope.names.lookup x.1 with
  | none=>rw [q]at this;exact aD this
  | some k =>
   rw [q]at this
   cases k <;> first | exact .inl rfl | (cases this;done) | skip
   exact .inr ⟨rfl,jY _ _ _ (.inl q)⟩
 refine Gh x.toInCall.same fun fz zx je=>?_
 have keep:=x.toInCall.keep
 have hL:eG.locals=s.heap.objs.size:=by rw [he];rfl
 have yC:eG.cells=Th (s.heap.objs.size+1) fd.scope.names []:=by rw [he];rfl
 have qI:eG.scope=fd.scope:=by rw [he];rfl
 have xF:eG.frame=some eG.locals:=by rw [he];rfl
 have Vb:eG.globals=bM:=by rw [he];rfl
 have Vc:eG.builtins=eM:=by rw [he];rfl
 have Bf:∀y,eG.kindOf y=fd.scope.names.lookup y:=fun y=>by unfold eB;rw [qI]
 have LM:∀a,s.heap.objs.size≤a→s.heap.get? a=none:=fun a ha=>by
  cases q:s.heap.get? a with
  | none=>rfl
  | some o=>exact absurd (av q) (ei.mpr ha)
 have Dd:s.heap.get? eG.locals=none:=by rw [hL];exact LM _ (bX _)
 let Vd:IM:=fun a=>if C.Own a then s.heap.get? a else C.KF a
 let tr:IM:=fun a=>if C.Own a then s.heap.get? a else KF a
 let C':Cx:={ C with A:=C.A.deeper eG,env:=eG,KF:=Vd }
 have A1:∀a,C'.Own a→s.heap.get? a=none:=by
  rintro a (rfl | ⟨y,hy,hl⟩)
  ·exact Dd
  ·have:=x.above y a (mem_of_lookup hl)
   rw [hL]at this;exact LM a (cF this)
 have apart:=x.apart
 have names:∀y c,eG.kindOf y=some .cell→eG.cells.lookup y=some c→(y,c)∈eG.cells:=fun y c _ h=>mem_of_lookup h
 have j9:C'.Ok dep:=by
  refine ⟨⟨by show eG.scope.kind=_;rw [qI];exact Gr,Vb,Vc,ok.K,ok.g,ok.b,ok.nolimit,ok.boot,?_,?_,fun y z c hy hz h1 h2=>?_,fun y hy h1=>?_,?_,?_,fun a o e=>?_,fun b o q=>(by show b<eG.locals;rw [hL];exact av (bk _ _ q)),ok.guards,?_⟩,ok.hd⟩
  ·show C.A.units+3+_+200<qp
   have:=ok.units;exact T3 [.t (.a (.a .x (.m 10 (.a .y .o))) (.n 200)) .z] (.t (.a (.a (.a .x (.n 3)) (.m 10 .y)) (.n 200)) .z) tA this
  ·show C.A.depth+1+_+20<sY
   have:=ok.depth;exact T3 [.t (.a (.a .x (.m 3 (.a .y .o))) (.n 20)) .z] (.t (.a (.a (.a .x .o) (.m 3 .y)) (.n 20)) .z) tA this
  ·exact name_of_addr apart (mem_of_lookup h1) (mem_of_lookup h2)
  ·have:=x.above y _ (mem_of_lookup h1)
   exact absurd this (eR _)
  ·show C.base.get? eG.locals=none
   cases q:C.base.get? eG.locals with
   | none=>rfl
   | some o=>rw [bk _ _ q]at Dd;contradiction
  ·refine dC ok.frames fun e0 l h1 h2 h3=>?_
   refine (dK eG (e0::l) ?_ rfl (fun e' A3=>?_))
   ·show (C.A.deeper eG).frames=_
    exact jQ h1
   ·rcases aq.mp A3 with rfl | A3
    ·refine (lb (by rw [qI,Gr];decide) (cB _ xF ?_ (.inl rfl)))
     show C.base.get? e'.locals=none
     cases q:C.base.get? e'.locals with
     | none=>rfl
     | some o=>rw [bk _ _ q]at Dd;contradiction
    ·refine ao (h3 e' A3) fun a1 R9=>?_;(refine eZ R9 fun L' a2 a3 a4=>?_;try clear R9)
     refine (lb a1 (cB L' a2 a3 (.inr ?_)))
     by_cases q:C.Own L'
     ·refine az (S.sj ok.toOkE q) fun o ho _=>?_
      exact (dA o (by show (if C.Own L' then _ else _)=_;rw [if_pos q];exact ho))
     ·refine fY a4 (fun R7=>?R6) (fun R7=>?R5);(case' R5=>try clear a4;(refine cG R7 fun o ho=>?_;try clear R7));(case' R6=>try clear a4;obtain rfl:=R7)
      ·exact absurd (.inl rfl) q
      ·exact (dA o (by show (if C.Own L' then _ else _)=_;rw [if_neg q];exact ho))
  ·change (if C.Own a then s.heap.get? a else C.KF a)=some o at e
   by_cases q:C.Own a
   ·rw [if_pos q]at e
    refine az (S.sj ok.toOkE q) fun o' ho hn=>?_
    rw [ho]at e;obtain rfl:=aE e;exact hn
   ·rw [if_neg q]at e;exact ok.Q4 a o e
  ·show C.tb<eG.locals
   rw [hL]
   refine az (S.sj ok.toOkE (.inl rfl)) fun o ho _=>?_
   exact bD ok.Q5 (av ho)
 have S':SR C' tr I ⟨fun x=>(pn.zip cs).lookup x,st.H⟩ bO:=by
  refine ⟨fun a o e=>?_,S.low,?_,S.base,fun a o e=>keep a o (S.de a o e),fun a o e=>?_,fun a ha=>?_,fun a c e=>?_,?_⟩
  ·change (if C.Own a then s.heap.get? a else C.KF a)=some o at e
   show (if C.Own a then s.heap.get? a else KF a)=some o
   by_cases q:C.Own a
   ·rw [if_pos q]at e ⊢;exact e
   ·rw [if_neg q]at e ⊢;exact S.kle a o e
  ·refine DV S.same fun h0 t0 d0 e0=>?_
   exact (y9 fz zx d0 (by rw [je,e0]))
  ·change (if C.Own a then s.heap.get? a else KF a)=some o at e
   by_cases q:C.Own a
   ·rw [if_pos q]at e
    exact (lb ((S.own a q).1) (aw o.slots (keep a o e) (fun _=>rfl)))
   ·rw [if_neg q]at e
    refine ao (S.mQ a o e) fun h1 R9=>?_;(refine az R9 fun sl h2 h3=>?_;try clear R9)
    exact (lb h1 (aw sl (keep a _ h2) (fun hn=>h3 fun W8=>dC W8 fun l e' f1 f2 f3=>hn (dK (eG::l) e' (jQ f1) (aG _ f2) f3))))
  ·have hn:=A1 a ha
   refine ip (S.fresh hn) fun h1 h2 h3 h4=>?_
   exact (d9 h1 (by show (if C.Own a then _ else _)=_;rw [if_neg h4];exact h2) h3)
  ·refine dO (S.mu a c e) fun h1 h2 R9=>?_;(refine az R9 fun o h3 h4=>?_;try clear R9)
   refine (d9 h1 ?_ (aw o (keep a o h3) h4))
   show (if C.Own a then _ else _)=_
   rw [if_neg fun q=>by have:=(S.own a q).2.2;rw [e]at this;contradiction];exact h2
  ·have QL:((pn.zip ws).map (·.1)).Nodup:=(jE _ _).nodup hnd
   refine ⟨(aw _ x.toInCall.ns (fun y v hy iJ=>?_)),fun y v hy iJ=>?_,fun y v hy iJ=>?_,fun y iJ=>?_⟩
   ·refine az (jx rr hy) fun u h1 h2=>?_
    exact (aw u (uP _ y u iJ _ _ QL h1) h2)
   ·refine az (jx rr hy) fun u h1 h2=>?_
    obtain ⟨c,hc⟩:∃c,eG.cells.lookup y=some c:=by
     rw [yC];exact aY.mp (jY _ _ _ (.inl ((Bf y).symm.trans iJ)))
    refine (dK c u hc ?_ h2)
    have Ve:=x.cell y c hc
    rwa [uQ _ y u (by rw [iJ];decide) _ _ QL h1]at Ve
   ·exfalso
    change eG.kindOf y=_ at iJ
    rw [Bf y]at iJ
    have:=bc.mp jF (y,.free) (mem_of_lookup iJ)
    simp at this
   ·obtain ⟨c,hc⟩:∃c,eG.cells.lookup y=some c:=by
     rw [yC];exact aY.mp (jY _ _ _ (.inl ((Bf y).symm.trans iJ)))
    exact (jq c _ hc (x.cell y c hc))
 have back:∀{J aj s'},fq I J→SR C' tr J aj s'→SR C KF J ⟨st.lo,aj.H⟩ s':=by
  intro J aj s' lJ S2
  have Bh:∀a,C.Own a→∀o,s.heap.get? a=some o→J a=none∧∃sl,s'.heap.get? a=some { o with slots:=sl }:=fun a q o e =>
   (fun W9=>ao W9 fun z1 hZ=>az hZ fun sl z2 _=>(lb z1 (dA sl z2))) <| S2.mQ a o (by show (if C.Own a then _ else _)=_;rw [if_pos q];exact e)
  have ro:∀a,C.Own a→∃o,s.heap.get? a=some o:=fun a q=>let ⟨o,ho,_⟩:=S.sj ok.toOkE q;(dA o ho)
  have cellK:∀y c v,C.env.kindOf y=some .cell→C.env.cells.lookup y=some c→s.heap.IsCell c v→s'.heap.IsCell c v:=fun y c v hy hl R0=>az R0 fun o ho hd=>by
   refine ao (Bh c (.inr (aw y hy hl)) o ho) fun _ R9=>?_;(refine cG R9 fun sl e=>?_;try clear R9)
   exact (aw _ e hd)
  refine ⟨S.kle,S2.low,S2.same,S2.base,S2.de,fun a o e=>?_,fun a ha=>?_,fun a c e=>?_,?_⟩
  ·have hq:¬C.Own a:=fun q=>by have:=(S.own a q).2.1;rw [e]at this;contradiction
   refine ao (S2.mQ a o (by show (if C.Own a then _ else _)=_;rw [if_neg hq];exact e)) fun z1 R9=>?_;(refine az R9 fun sl z2 z3=>?_;try clear R9)
   refine (lb z1 (aw sl z2 (fun hn=>z3 fun R1=>dC R1 fun l e' f1 f2 f3=>?_)))
   refine dC ok.frames fun e0 l0 g1 _ _=>?_
   change (C.A.deeper eG).frames=_ at f1
   rw [jQ g1]at f1
   obtain rfl:=aE f1
   rcases aq.mp f2 with rfl | f2
   ·rw [xF]at f3;obtain rfl:=aE f3
    refine ao (S.mQ _ _ e) fun _ R9=>?_;(refine az R9 fun P4 z _=>?_;try clear R9)
    rw [z]at Dd;contradiction
   ·exact hn (dK _ e' g1 f2 f3)
  ·refine cG (ro a ha) fun o ho=>?_
   refine (d9 ((Bh a ha o ho).1) ((S.own a ha).2.1) ?_)
   show aj.H a=none
   cases q:aj.H a with
   | none=>rfl
   | some c =>
    have:=(S2.mu a c q).2.1
    change (if C.Own a then s.heap.get? a else KF a)=none at this
    rw [if_pos ha,ho]at this;contradiction
  ·refine dO (S2.mu a c e) fun h1 h2 h3=>?_
   refine (d9 h1 ?_ h3)
   change (if C.Own a then s.heap.get? a else KF a)=none at h2
   by_cases q:C.Own a
   ·exact (S.own a q).2.1
   ·rw [if_neg q]at h2;exact h2
  ·obtain ⟨⟨m,⟨oL,es,ep,Vf,hd,hr⟩,h1⟩,h2,h3,h4⟩:=S.loc.mono lJ
   refine ao (Bh _ (.inl rfl) oL Vf) fun _ R9=>?_;(refine cG R9 fun sl eL=>?_;try clear R9)
   refine ⟨(aw m (tq _ es ep eL hd hr) h1),fun y v e hk=>?_,h3,fun y hy=>?_⟩
   ·(refine dC (h2 y v e hk) fun c u a1 a2 a3=>?_);exact (dK c u a1 (cellK y c _ hk a1 a2) a3)
   ·(refine gP (h4 y hy) fun c v0 a1 a2=>?_);exact (jq c v0 a1 (cellK y c _ hy a1 a2))
 have QM:∀{J x e h b},BY C' tr J b x e h→(∀a o,KF a=some o→tr a≠none)→BY C KF J b x e h:=by
  intro J x e h b hx hk
  have no:∀a,tr a=none→KF a=none:=fun a h=>by
   cases q:KF a with
   | none=>rfl
   | some o=>exact absurd h (hk a o q)
  refine Q1 hx fun ea oe vs ta tb e1 G2 R9=>?_;try clear hx;(refine dO G2 fun hb Bi hi=>?_;try clear G2);(refine Ou R9 fun he hc hd h0 hv h1 ht=>?_;try clear R9)
  refine ⟨ea,oe,vs,ta,tb,e1,(d9 hb (no _ Bi) hi),he,hc,hd,h0,hv,h1,?_⟩
  rcases ht with q | ⟨T,oT,ts,fl,a1,⟨a2,a3,a4⟩,r⟩
  ·exact .inl q
  ·exact .inr (Yc T oT ts fl a1 (d9 a2 (no _ a3) a4) r)
 have Ym:∀a o,KF a=some o→tr a≠none:=fun a o e=>by
  have hq:¬C.Own a:=fun q=>by have:=(S.own a q).2.1;rw [e]at this;contradiction
  show (if C.Own a then _ else _)≠none
  rw [if_neg hq,e];simp
 refine ⟨(ok.nolimit.keeps bk).keeps keep,?_⟩
 refine codeAny_func ?_
 refine aM (h C' j9 ⟨rfl,rfl,rfl,rfl,rfl,rfl,rfl,rfl⟩ qI (by show eG.code=_;rw [he];rfl) (by show eG.qual=_;rw [he];rfl) I tr bO S') (fun f s2 R2=>dC R2 fun J cJ l2 S2 q2=>?_) fun e s2 R3=>jr R3 fun J x2 cJ l2 S2 Bj q2=>?_
 ·refine (dK J cJ.H l2 (back l2 S2) (aw f ?_ (hP KF tr J f _ _ (fun a h=>?_) q2)))
  ·cases f <;> rfl
  ·cases q:KF a with
   | none=>rfl
   | some o=>exact absurd h (Ym a o q)
 ·show aR (aS C'.prog C'.w) C'.A (leaving C'.env e) _ _ s2
  unfold leaving
  refine aA (cf (C:=C') j9.toOkE S2 Bj fun s3 S3 X3=>?_)
  exact gR (C:=C') j9.toOkE S3 X3 fun s4 S4 X4=>(js J x2 ⟨st.lo,cJ.H⟩ l2 (back l2 S4) ((QM X4 Ym).weak) q2)
theorem Bk{fa:Addr}{fd:kh}{body:List Stmt}{args ks:List CV}{kn pn:List Str}{Q:CV→ak→Prop}(ok:C.Ok (dep+1))(fn:FnAt C fa fd body)
  (hb:∀us vs:List Value,us.length=args.length→vs.length=ks.length→wc fd ⟨us,kn.zip vs⟩=pure (pn.zip (us++vs)))
  (r5:(pn.all fun x=>cg (fd.scope.names.lookup x))=true) (hnd:pn.Nodup) (jF:(fd.scope.names.all fun x=>x.2 != .free)=true)
  (JJ:((fd.scope.names.filter fun x=>x.2 == .cell).map (·.1)).Nodup)
  (h:∀C':Cx,C'.Ok dep→C.iY C'→C'.env.scope=fd.scope→ag C' body ⟨fun x=>(pn.zip (args++ks)).lookup x,st.H⟩ (fun f aj=>Q f.val ⟨st.lo,aj.H⟩) (fun x aj=>X x ⟨st.lo,aj.H⟩)) :
  ∀I us vs,ck I args us→ck I ks vs→∀KF s,SR C KF I st s→gq (aS C.prog C.w) C.A (.call (.ref fa) ⟨us,kn.zip vs⟩) (fun r s'=>match r with
   | .ok (.ret v)=>PQ C KF I (VQ Q) v s'
   | .ok _=>False
   | .error e=>eV C KF I X e s') s:=fun I us vs r1 r2 KF s S=>by
 refine az fn.at_ fun fo Bg Dc=>?_
 have bk:∀b o,C.base.get? b=some o→s.heap.get? b=some o:=fun b o e=>S.de b o (S.base b o e)
 refine dX (jy (X:=X) (cs:=args++ks) (P:=fun KF J f h H=>∃b,FR J b f∧Q b.val ⟨st.lo,H⟩) ok Dc fn.body fn.Jk fn.gl fn.bl fn.co fn.gen fn.kind r5 hnd jF JJ (fun _ _ _ _ _ _ _ q=>q)
  (fun C' j9 sm qI _ _ I KF s S=>h C' j9 sm qI I KF s S) I us vs (us++vs) (r1.append r2) KF s S (.of_eq (hb us vs r1.length.symm r2.length.symm)) (bk _ _ Bg) (fn.code.keeps bk)) fun r s' hr=>?_
 cases r with
 | error e=>exact hr
 | ok f =>
  cases f with
  | ret v =>
   refine dC hr fun J H' l S' R9=>?_;try clear hr;obtain ⟨f,hf,b,rW,q⟩:=R9
   refine (dK J ⟨st.lo,H'⟩ l S' ⟨b.val,?_,q⟩)
   subst hf
   cases b with
   | next=>cases rW;rfl
   | brk=>cases rW;rfl
   | cont=>cases rW;rfl
   | ret c=>(refine az rW fun u G8 r=>?_;try clear rW;obtain rfl:=G8);exact r
  | _=>exact hr
theorem NF{fa:Addr}{fd:kh}{body:List Stmt}{args ks:List CV}{kn pn:List Str}(ok:C.Ok (dep+1))(fn:FnAt C fa fd body)
  (hb:∀us vs:List Value,us.length=args.length→vs.length=ks.length→wc fd ⟨us,kn.zip vs⟩=pure (pn.zip (us++vs)))
  (r5:(pn.all fun x=>cg (fd.scope.names.lookup x))=true) (hnd:pn.Nodup) (jF:(fd.scope.names.all fun x=>x.2 != .free)=true)
  (JJ:((fd.scope.names.filter fun x=>x.2 == .cell).map (·.1)).Nodup)
  (h:∀C':Cx,C'.Ok dep→C.iY C'→C'.env.scope=fd.scope→ag C' body ⟨fun x=>(pn.zip (args++ks)).lookup x,st.H⟩ (fun f aj=>Q f.val ⟨st.lo,aj.H⟩) (fun x aj=>X x ⟨st.lo,aj.H⟩)) :
  aW C (.ref fa) args kn ks st Q X:=fun I us vs r1 r2 KF s S =>
 eO (Bk ok fn hb r5 hnd jF JJ h I us vs r1 r2 KF s S)
end
end
section
noncomputable def QN(C:Cx):List Expr→ak→(Bool→ak→Prop)→XP→Prop
 | [],st,Q,_=>Q true st
 | c::cs,st,Q,X=>WT C c st (fun b bJ=>(b=true→QN C cs bJ Q X)∧(b=false→Q false bJ)) X
noncomputable def yE(C:Cx)(emit:ak→List CV→(List CV→ak→Prop)→XP→Prop)(t:Expr)(ifs:List Expr):List CV→ak→List CV→(List CV→ak→Prop)→XP→Prop
 | [],st,acc,Q,_=>Q acc st
 | x::xs,st,acc,Q,X=>WA C (gL t C.env) x st (fun bJ=>QN C ifs bJ (fun ok cJ =>
   (ok=true→emit cJ acc (fun nW i8=>yE C emit t ifs xs i8 nW Q X) X)∧(ok=false→yE C emit t ifs xs cJ acc Q X)) X) X
noncomputable def lG(C:Cx)(elt:Expr):List Comprehension→ak→List CV→(List CV→ak→Prop)→XP→Prop
 | [],st,acc,Q,X=>WE C elt st (fun v aj=>acc.length<2 ^ 24∧Q (acc++[v]) aj) X
 | g::gs,st,acc,Q,X=>WE C g.iter st (fun a bJ=>∃ys,du C a bJ ys∧yE C (lG C elt gs) g.target g.ifs ys bJ acc Q X) X
section
variable{C:Cx} {dep:Nat} {KF I J:IM} {st:ak} {s:Shared} {X:XP}
structure GS(C:Cx)(D:Addr)(ys:List CV)(J KF:IM)(st:ak)(s:Shared):Prop where
 at_:∃n xs,s.heap.get? D=some ⟨.type "list",.none,.seq xs n,#[]⟩∧ck J ys xs.toList
 i:J D=none
 k:KF D=none
 h:st.H D=none
 o:¬C.Own D
theorem dR(h:b≠a):df I a o b=I b:=by simp [df,h]
theorem qJ(hl:s.heap.get? l=some ⟨.type "list",.none,.seq xs n,#[]⟩)
  (hQ:∀h',h'.get? l=some ⟨.type "list",.none,.seq (xs.push x) (n+1),#[]⟩→BP l s.heap h'→Q .none { s with heap:=h' }) (hsz:xs.size≤bZ) :
  aR (aS prog w) A (call (.builtin "list.append") [.ref l,x]) Q E s:=by
 have Ji:s.heap.IsList l xs:=(cB _ hl rfl (dA n rfl))
 refine pQ slot_list_append Ji.typeIs entry_list_append ?_ (args_list_append _ _)
 show aR _ _ (zN l (·.push x) >>= fun _=>ret .none) _ _ s
 refine aA ?_
 refine lV hl rfl (aC (aw (.none) rfl (hQ _ ?_ (mw ..))))
 have:=cC (dm (·.push x)) hl rfl
 rw [this];simp [dm]
theorem SR.Gu(S:SR C (df KF D o) J st s):J D=none∧st.H D=none∧¬C.Own D:=by
 refine (d9 ((S.mQ D o (by simp)).1) ?_ (fun hb=>by have:=(S.own D hb).2.1;simp at this))
 cases e:st.H D with
 | none=>rfl
 | some c=>have:=(S.mu D c e).2.1;simp at this
theorem su(elt gens scope pos depth it acc env)(g:Comprehension)(hg:gens[depth]?=some g)(ha:g.is_async=0)(hi:g.ifs=[]):LN (.ListComp elt gens scope pos) depth it acc env=(do
   standAt g.iter.pos
   match ← kN it with
   | none=>pure (.done .next)
   | some v =>
    BC g.target it v
    gL g.target env v
    match gens[depth+1]? with
    | some g'=>do
     let x ← gK g'.iter env
     standAt g'.iter.pos
     if (g'.is_async != 0)=true then do
      let x ← foldedIterable g'.iter x
      let _ ← Y8 (.compStart (.ListComp elt gens scope pos) (depth+1) (← holding [x] (if (g'.is_async != 0)=true then asyncIter x else DB x)) acc env) env
      again (.compLoop (.ListComp elt gens scope pos) depth it acc env)
     else do
      let x ← cM g'.iter env x
      let _ ← Y8 (.compStart (.ListComp elt gens scope pos) (depth+1) (← holding [x] (if (g'.is_async != 0)=true then asyncIter x else DB x)) acc env) env
      again (.compLoop (.ListComp elt gens scope pos) depth it acc env)
    | none=>((gK elt env >>= fun x=>call (.builtin "list.append") [acc,x] >>= fun _=>pure ()) >>= fun _:PUnit=>again (.compLoop (.ListComp elt gens scope pos) depth it acc env))):=by
 unfold LN
 dsimp only
 rw [hg]
 dsimp only
 rw [ha,hi]
 simp only [bne_self_eq_false,aL,if_false,lB,pure_bind,if_true]
 rfl
noncomputable def Y9(C:Cx)(I KF:IM)(D:Addr)(Q:List CV→ak→Prop)(r:Result)(s':Shared):Prop :=
 match r with
 | .ok _=>∃J aj ys,fq I J∧SR C KF J aj s'∧GS C D ys J KF aj s'∧Q ys aj
 | .error _=>False
noncomputable abbrev X0:XP:=fun _ _=>False
theorem Vg{e:Value}{P:Prop}(h:eV C KF I X0 e s):P:=jr h fun _ _ _ _ _ _ h=>h.elim
theorem SR.yF{K:IM}{D:Addr}{o:Obj}(S:SR C (df K D o) J st s)(hk:K D=none)(kle:fq C.KF K)(hf:¬C.Fr D):SR C K J st s∧s.heap.get? D=some o∧J D=none∧st.H D=none:=by
 have a:=S.Gu
 refine ao (S.mQ D o (by simp)) fun _ h=>az h fun sl e1 e2=>?_
 have e3:=e2 hf
 clear e2;subst e3
 exact ql (S.g7 (dt hk) kle) e1 a.1 a.2.1
theorem SR.but(S:SR C KF J st s)(n1:J D=none)(n2:KF D=none)(n3:st.H D=none)(n4:¬C.Own D)(h:∀a o,a≠D→s.heap.get? a=some o→h'.get? a=some o):SR C KF J st { s with heap:=h',toks:=tk } :=
 S.heap fun a o e hb=>h a o (fun q=>by
  clear h;subst q
  exact hb.elim (· n1) (·.elim (· n2) (·.elim (· n3) n4))) e
noncomputable def NG(C:Cx)(D it:Addr)(KF I:IM)(xs:List CV)(Dw:Nat→IM→Heap→Prop)(R:List CV→ak→List CV→Prop)(n:Nat)(s':Shared):Prop :=
 ∃i J st ys,n=xs.length-i∧i≤xs.length∧fq I J∧SR C KF J st s'∧GS C D ys J KF st s'∧Dw i J s'.heap∧(∃o,s'.heap.get? it=some o)∧J it=none∧st.H it=none∧R (xs.drop i) st ys
theorem NG.open{D it:Addr}{xs:List CV}{n:Nat}{P:Prop}(h:NG C D it KF I xs Dw R n s)
  (k:∀i J st ys,n=xs.length-i→i≤xs.length→fq I J→SR C KF J st s→GS C D ys J KF st s→Dw i J s.heap→J it=none→st.H it=none→R (xs.drop i) st ys→P):P:=by
 refine U49 h fun i J st ys h1 h2 h3 h4 h5 h6 _ h7 h8 h9=>?_
 exact k i J st ys h1 h2 h3 h4 h5 h6 h7 h8 h9
noncomputable def QO(C:Cx)(D:Addr)(K J:IM)(c:Code)(Q:List CV→ak→Prop)(r:eP)(s':Shared):Prop :=
 r=.again c∧∃J' aj Yn,fq J J'∧SR C K J' aj s'∧GS C D Yn J' K aj s'∧Q Yn aj
theorem r7 
  (hg:gens[depth]?=some g) (ha:g.is_async=0)
  (h0:gq (aS M w) A (.compLoop (.ListComp elt gens scope pos) depth it acc env) R s)
  (h:aR (aS M w) A (DB it) (fun QP s'=>gq (aS M w) A (.compLoop (.ListComp elt gens scope pos) depth QP acc env) R s') (notedBy (aS M w) A env fun x s'=>R (.error x) s') s) :
  gq (aS M w) A (.compStart (.ListComp elt gens scope pos) depth it acc env) R s:=by
 refine V0 ?_
 show aR _ _ ((compStart (.ListComp elt gens scope pos) depth it acc env).onRaise (fun x=>do GQ x env;standAt theWindowsPlace)) _ _ s
 refine wpAny_notedAt ?_
 unfold compStart
 have e1:(((clausesOf (.ListComp elt gens scope pos))[depth]?).elim false fun x=>x.is_async != 0)=false:=by
  show ((gens[depth]?).elim false fun x=>x.is_async != 0)=false
  rw [hg];simp [ha]
 rw [e1]
 dsimp only [aL,if_false,iF,iT,iG,iU,iH,iV,nT,nF,aT,aF,oT,oF]
 have e2:(clausesOf (.ListComp elt gens scope pos))[depth]?=some g:=hg
 rw [e2]
 show aR _ _ (ask >>= _) _ _ s
 refine aA (iC (wpAny_ite ?_))
 split
 ·first
   | exact aA (aC (aC (BQ rfl h0)))
   | exact aC (BQ rfl h0)
 ·refine aA (kL ?_)
  show aR _ _ (standAt g.iter.pos >>= _) _ _ s
  exact aA (ej (aA (aM h (fun QP s' h'=>aC (BQ rfl h')) fun _ _ x=>x)))
theorem uR(ok:C.Ok dep)
  (QQ:LN (.ListComp elt gens scope pos) depth (.ref it) (.ref D) C.env=(do
   standAt p
   match ← kN (.ref it)with
   | none=>pure (.done .next)
   | some v =>
    BC t (.ref it) v
    gL t C.env v
    E))
  (QR:∀(K J:IM) (st:ak) (s:Shared) (ys:List CV) (Q:List CV→ak→Prop),fq C.KF K→SR C K J st s→GS C D ys J K st s→emit st ys Q X0 →
   aR (aS C.prog C.w) C.A E (QO C D K J (.compLoop (.ListComp elt gens scope pos) depth (.ref it) (.ref D) C.env) Q) (fun _ _=>False) s)
  {xs:List CV} {i:Nat} {ys:List CV} (lJ:fq I J) (W:Tf C.prog C.w xs it Dw) (S:SR C KF J st s) (AC:GS C D ys J KF st s) (hD:Dw i J s.heap) (hit:∃o,s.heap.get? it=some o)
  (n1:J it=none) (n2:KF it=none) (n3:st.H it=none) (n4:¬C.Own it) (cx:it≠D) (hi:i≤xs.length) (hW:yE C emit t [] (xs.drop i) st ys Q X0) :
  gq (aS C.prog C.w) C.A (.compLoop (.ListComp elt gens scope pos) depth (.ref it) (.ref D) C.env) (Y9 C I KF D Q) s:=by
 refine codeAny_loop rfl (NG C D it KF I xs Dw fun l st ys=>yE C emit t [] l st ys Q X0) ?_ (xs.length-i) ⟨i,J,st,ys,rfl,hi,lJ,S,AC,hD,hit,n1,n3,hW⟩
 clear lJ S AC hD hit n1 n3 hW hi
 intro n s' inv
 refine inv.open fun i J st ys en hi lJ S AC hD n1 n3 hW=>?_
 subst en
 have hU:C.A.under (.compLoop (.ListComp elt gens scope pos) depth (.ref it) (.ref D) C.env)=C.A:=eh.under_of_weight rfl
 rw [hU]
 show aR _ C.A ((LN (.ListComp elt gens scope pos) depth (.ref it) (.ref D) C.env).onRaise (fun x=>do GQ x C.env;theTreesLotGoes x)) _ _ s'
 refine wpAny_noted ?_
 rw [QQ]
 refine aA (ej (aA ?_))
 obtain ⟨⟨nD,xD,Gv,Jn⟩,d1,d2,d3,d4⟩:=AC
 by_cases fM:i<xs.length
 ·rw [ey fM]at hW
  refine W.item _ J s' i _ _ _ S.de hD (aU fM) fun dS nU u zy hu jD hE=>cG hE fun Bd xJ=>?_
  have S2:SR C KF J st { s' with heap:=dS,toks:=nU }:=S.but n1 n2 n3 n4 jD
  have QS:=jD D _ (aN cx) Gv
  generalize hoD:(⟨.type "list",.none,.seq xD nD,#[]⟩:Obj)=oD at QS
  have S3:=S2.tU xJ n1 n2 n3 n4
  have QT:df KF it Bd D=none:=(dR (aN cx)).trans d2
  have S4:=S3.tU (a:=D) QS d1 QT d3 d4
  refine aA (xH W zy ?_)
  refine aA (aM (hW J u hu _ _ S4) (fun _ s5 hE=>dC hE fun J5 st5 l5 S5 q5=>?_) fun e s5 hE=>Vg hE)
  refine ip (S5.yF QT S3.kle (S.qy ok.toOkE d2 d4)) fun S6 u1 u2 u3=>?_
  refine aM (QR _ J5 st5 s5 ys _ S3.kle S6 ⟨(jq nD xD (u1.trans (congrArg some hoD.symm)) (ck.mono l5 _ _ Jn)),u2,QT,u3,d4⟩ (q5.1 rfl)) (fun r s7 hE=>ao hE fun er hE=>jr hE fun J7 NH ys7 l7 S7 A7 q7=>?_) fun _ _ h=>h.elim
  clear hE;subst er
  have Vh:=l5.trans l7
  refine ip (S7.yF n2 S.kle (S.qy ok.toOkE n2 n4)) fun S8 v1 v2 v3=>?_
  exact ⟨rfl,xs.length-(i+1),cU fM (bx _),i+1,J7,NH,ys7,rfl,fM,lJ.trans Vh,S8,⟨A7.at_,A7.i,d2,A7.h,A7.o⟩,
   W.frame J _ dS _ (i+1) zy Vh (fun o' e=>by rw [xJ]at e;obtain rfl:=aE e;exact v1) (fun a o' e1 e2=>S7.de a o' (Vh a o' e1)),(dA _ v1),v2,v3,q7⟩
 ·have zc:i=xs.length:=fx hi (bV fM)
  clear hi inv fM;subst zc
  refine W.fin _ J s' _ _ ok.hd S.de hD fun dS nU jD=>?_
  rw [JL]at hW
  exact aC (js J st ys lJ (S.but n1 n2 n3 n4 jD) ⟨(jq nD xD (jD D _ (aN cx) Gv) Jn),d1,d2,d3,d4⟩ hW)
theorem Bl{elt:Expr}{gens:List Comprehension}{scope:PW}{pos:Pos}{D:Addr}(ok:C.Ok dep)(has:∀g∈gens,g.is_async=0∧g.ifs=[])(hfold:∀g∈gens,∀x,cM g.iter C.env x=pure x):
  ∀(gs:List Comprehension) (depth:Nat) (g:Comprehension),gens.drop depth=g::gs→∀(KF I J:IM) (st:ak) (s:Shared) (xs:List CV) (it:Addr) (Dw) (i:Nat) (ys:List CV) (Q:List CV→ak→Prop),
   fq I J→Tf C.prog C.w xs it Dw→SR C KF J st s→GS C D ys J KF st s→Dw i J s.heap→(∃o,s.heap.get? it=some o)→J it=none→KF it=none→st.H it=none→¬C.Own it→it≠D→i≤xs.length →
   yE C (lG C elt gs) g.target [] (xs.drop i) st ys Q X0 →
   gq (aS C.prog C.w) C.A (.compLoop (.ListComp elt gens scope pos) depth (.ref it) (.ref D) C.env) (Y9 C I KF D Q) s:=by
 intro gs
 induction gs with
 | nil =>
  intro depth g M0 KF I J st s xs it Dw i ys Q lJ W S AC hD hit n1 n2 n3 n4 cx hi hW
  have hg:gens[depth]?=some g:=by
   have:=congrArg V1 M0
   rwa [LP]at this
  have QU:gens[depth+1]?=none:=by
   have:(gens.drop depth)[1]?=none:=by rw [M0];rfl
   rwa [rg]at this
  have hh:=has g (dF hg)
  refine uR (p:=g.iter.pos) (E:=(gK elt C.env >>= fun x=>call (.builtin "list.append") [.ref D,x] >>= fun _=>pure ()) >>= fun _:PUnit=>again (.compLoop (.ListComp elt gens scope pos) depth (.ref it) (.ref D) C.env)) ok ?_ (fun K J st s ys Q kle S A q=>?_) lJ W S AC hD hit n1 n2 n3 n4 cx hi hW
  ·rw [su _ _ _ _ _ _ _ _ g hg hh.1 hh.2,QU]
  ·obtain ⟨⟨nD,xD,Gv,Jn⟩,d1,d2,d3,d4⟩:=A
   refine aA (aA (aM (q J _ _ (S.tU Gv d1 d2 d3 d4)) (fun v s7 hE=>dC hE fun J7 NH l7 S7 hE=>eZ hE fun cv hv hlen q7=>?_) fun e s7 hE=>Vg hE))
   refine ip (S7.yF d2 kle (S.qy ok.toOkE d2 d4)) fun S8 u1 u2 u3=>?_
   have QW:=ck.mono l7 _ _ Jn
   refine aA (qJ u1 (fun h' e1 hs=>?_) (by rw [aa];have:=QW.length;simp at this;exact T2 [.t .x (.n 16777216),.e .x .y] (.l .y (.n 16777216)) tA hlen this))
   refine aC (aC (lb rfl (js J7 NH _ l7 (S8.but (tk:=s7.toks) u2 d2 u3 d4 fun a o ha e=>(hs.2 a ha).trans e) ⟨(jq (nD+1) (xD.push v) e1 ?_),u2,d2,u3,d4⟩ q7)))
   rw [iZ]
   exact QW.append (.cons hv .nil)
 | cons g' gs ih =>
  intro depth g M0 KF I J st s xs it Dw i ys Q lJ W S AC hD hit n1 n2 n3 n4 cx hi hW
  have hg:gens[depth]?=some g:=by
   have:=congrArg V1 M0
   rwa [LP]at this
  have QU:gens[depth+1]?=some g':=by
   have:(gens.drop depth)[1]?=some g':=by rw [M0];rfl
   rwa [rg]at this
  have Vi:gens.drop (depth+1)=g'::gs:=by
   have:=congrArg (List.drop 1) M0
   rwa [List.drop_drop,List.drop_succ_cons,xt]at this
  have hh:=has g (dF hg)
  have Jo:g'∈gens:=dF QU
  refine uR ok ((su _ _ _ _ _ _ _ _ g hg hh.1 hh.2).trans (by rw [QU])) (fun K J st s ys Q kle S A q=>?_) lJ W S AC hD hit n1 n2 n3 n4 cx hi hW
  obtain ⟨⟨nD,xD,Gv,Jn⟩,d1,d2,d3,d4⟩:=A
  refine aA (aM (q J _ _ (S.tU Gv d1 d2 d3 d4)) (fun v s7 hE=>dC hE fun J7 NH l7 S7 hE=>az hE fun cv hv hE=>az hE fun zs hz q7=>?_) fun e s7 hE=>Vg hE)
  refine aA (ej ?_)
  rw [(has g' Jo).2]at q7
  rw [(has g' Jo).1]
  dsimp [iF,iT,iG,iU,iH,iV,nT,nF,aT,aF,oT,oF]
  refine aA (n9 (hfold g' Jo v) (aA (bS ?_)))
  refine hz J7 v hv _ _ s7 _ _ S7 fun h8 UN QP Dw' W' JH M4 hE Yo=>cG hE fun oi' Vj=>?_
  refine ip (S7.yF d2 kle (S.qy ok.toOkE d2 d4)) fun S8 u1 u2 u3=>?_
  have S9:SR C K J7 NH { s7 with heap:=h8,toks:=UN }:=S8.keeps Yo
  have NI:QP≠D:=fun q=>by rw [q,u1]at M4;contradiction
  refine ip (S8.fresh M4) fun f1 f2 f3 f4=>?_
  have inner:=ih (depth+1) g' Vi K J7 J7 NH _ zs QP Dw' 0 ys _ (.refl _) W' S9 ⟨(jq nD xD (Yo _ _ u1) (ck.mono l7 _ _ Jn)),u2,d2,u3,d4⟩ JH (dA oi' Vj) f1 f2 f3 f4 NI (gm _) q7
  refine aA (Ih (h:=none) ?_)
  have hA:C.A.mark none=C.A:=by cases C.A;rfl
  rw [hA]
  refine dX (r7 QU (has g' Jo).1 inner (W'.self C.A J7 _ 0 _ _ JH inner)) fun r s9 hr=>?_
  cases r with
  | ok f=>exact jr hr fun J9 Yp ys9 l9 S9 A9 q9=>aC (lb rfl (js J9 Yp ys9 (l7.trans l9) S9 A9 q9))
  | error e=>exact hr.elim
end
end
section
theorem eI(x:Str):(Ii scope env).names.lookup x=(scope.names.lookup x).map fun k=>if (k == .free&&env.scope.kind == .function&&env.kindOf x == some .cell)=true then .cell else k:=by
 unfold Ii
 show Ti x (Mo _ scope.names)=_
 induction scope.names with
 | nil=>rfl
 | cons y r ih =>
  obtain ⟨n,k⟩:=y
  rw [aK]
  show Ti x ((if (k == j4&&env.scope.kind == .function&&env.kindOf n == some .cell)=true then (n,Ij)else (n,k))::_)=_
  by_cases hc:(k == j4&&env.scope.kind == .function&&env.kindOf n == some .cell)=true
  ·rw [if_pos hc,bQ,bQ]
   by_cases hx:x=n
   ·subst hx
    simp only [beq_self_eq_true,i0]
    rw [if_pos hc]
   ·have Vk:(x == n)=false:=by simpa using hx
    rw [Vk];exact ih
  ·rw [if_neg hc,bQ,bQ]
   by_cases hx:x=n
   ·subst hx
    simp only [beq_self_eq_true,i0]
    rw [if_neg hc]
   ·have Vk:(x == n)=false:=by simpa using hx
    rw [Vk];exact ih
theorem mem_of_lookupK{names:List (Str×fP)}{x:Str}{k:fP}(h:names.lookup x=some k):(x,k)∈names:=mem_of_lookup h
theorem nX:∀{names:List (Str×fP)} {x:Str} {k:fP},(names.map (·.1)).Nodup→(x,k)∈names→names.lookup x=some k
 | (n,k')::r,x,k,hnd,h=>by
  rw [aK,dy]at hnd
  simp only [bQ]
  rcases aq.mp h with e | h
  ·clear h;cases e;simp
  ·have:(x == n)=false:=by simpa using fun q:x=n=>hnd.1 (cV.mpr (aw (x,k) h q))
   rw [this];exact nX hnd.2 h
section
variable{C:Cx} {dep:Nat} {KF I J:IM} {st:ak} {s:Shared} {X:XP}
noncomputable def uT(k:fP):Bool:=k == .local||k == .globalImplicit
theorem yG(h:(scope.names.all fun x=>uT x.2)=true):qY scope env=pure []:=by
 dsimp only [qY]
 rewrite +offsetCnstrs [DD [] (fun x hx c=>by
  obtain ⟨n,kind⟩:=x
  have:(kind == j4)=false:=by
   have:=bc.mp h _ hx
   revert this
   clear hx;cases kind <;> first | exact fun _=>rfl | exact fun h=>by exact aD h
  simp only [this,aL,if_false])]
 rfl
noncomputable def Gw(C:Cx)(dep:Nat)(elt:Expr)(g:Comprehension)(gs:List Comprehension)(scope:PW)(xs:List CV)(st:ak)(Q:CV→ak→Prop):Prop :=
 ∀C':Cx,C'.Ok dep→C.iY C'→C'.env.scope=Ii scope C.env→yE C' (lG C' elt gs) g.target [] xs ⟨fun _=>none,st.H⟩ []
  (fun ys cJ=>Q (.lst ys) ⟨st.lo,cJ.H⟩∨∀D,cJ.H D=none→Q (.loc D) ⟨st.lo,aV cJ.H D (.list ys)⟩) X0
open Classical in
theorem Gx{elt:Expr}{g:Comprehension}{gs:List Comprehension}{scope:PW}{pos pos':Pos}(ok:C.Ok dep)(hk:scope.kind=.function)
  (hnd:(scope.names.map (·.1)).Nodup) (hcap:(scope.names.all fun x=>uT x.2)=true) (has:∀g'∈g::gs,g'.is_async=0∧g'.ifs=[])
  (hfold:∀g'∈g::gs,∀env x,cM g'.iter env x=pure x)
  (hq:∀c cJ,Qc c cJ→match use with
   | none=>∀J v,VR J c v→Q J v cJ
   | some u=>∀J v,VR J c v→WL C (u v) J cJ (fun J' _ i8=>Q J' .none i8) X)
  (h:WE C g.iter st (fun a bJ=>∃xs,du C a bJ xs∧Gw C dep elt g gs scope xs bJ Qc) X) :
  WL C (comprehension (.ListComp elt (g::gs) scope pos) scope C.env pos' (PX []) false (gK g.iter C.env) use) I st Q X:=fun KF s S=>by
 have kOf:∀x k,scope.names.lookup x=some k→uT k=true:=fun x k hx=>bc.mp hcap _ (mem_of_lookup hx)
 have uU:∀x∈scope.names,x.2=.local→scope.names.lookup x.1=some .local:=fun x hx hl=>by
  obtain ⟨n,k⟩:=x;simp at hl;subst hl;exact nX hnd hx
 refine wpAny_comprehension_free (use:=use) (g:=g) (gs:=gs) rfl (fun x=>hfold g aH _ x) (yG hcap) hk uU ?_
 refine aM (h I KF s S) (fun v bO hE=>dC hE fun r8 uV Jj rn hE=>az hE fun a ha hE=>az hE fun xs hit hw=>?_) fun e s' hE=>hE
 refine hit r8 v ha _ _ bO _ _ rn fun dS nU it Dw W hD iq hE jD=>cG hE fun oi NA=>?_
 have NJ:SR C KF r8 uV { bO with heap:=dS,toks:=nU }:=rn.keeps jD
 refine ip (rn.fresh iq) fun i1 i2 i3 i4=>?_
 refine bz ?_ (by size_fits)
 have QX:=cR dS (o:={ cls:=.type "list",dict:=.none,data:=.seq ([]:List Value).toArray }) rfl
 have Bm:dS.get? dS.objs.size=none:=gQ _
 refine ip (NJ.fresh (a:=dS.objs.size) Bm) fun d1 d2 d3 d4=>?_
 have k3:∀a o,dS.get? a=some o→(dS.push { cls:=.type "list",dict:=.none,data:=.seq ([]:List Value).toArray }).get? a=some o:=fun a o e=>aX _ e
 have QY:fX<dS.objs.size:=NJ.big
 generalize dS.objs.size=D at QX Bm d1 d2 d3 d4 QY ⊢
 generalize dS.push { cls:=.type "list",dict:=.none,data:=.seq ([]:List Value).toArray }=fU at QX k3 ⊢
 have r9:SR C KF r8 uV { bO with heap:=fU,toks:=nU }:=NJ.keeps k3
 have QZ:fU.get? it=some oi:=k3 _ _ NA
 have cx:it≠D:=fun q=>by rw [q,Bm]at NA;contradiction
 have W3:Dw 0 r8 fU:=W.frame r8 r8 dS fU 0 hD (.refl _) (fun o e=>k3 _ _ e) fun a o _ e2=>k3 _ _ e2
 dsimp only [newFunctionEnv,Option.isSome_some,if_true,iF,iT,iG,iU,iH,iV,nT,nF,aT,aF,oT,oF]
 refine aA (zi ?_)
 refine aA (wpAny_layCells _ (fun name kind cells=>by cases hkc:kind == Ij <;> dsimp [hkc]) _ _ _ _ ?_)
 rw [lB]
 refine aA (aC (aC ?_))
 dsimp only
 have k4:∀a o,fU.get? a=some o→(Tj (fU.push { cls:=.type "dict",data:=.dict #[] }) scope.names).get? a=some o:=fun a o e=>V2 _ _ a o (aX _ e)
 have NK:(Tj (fU.push { cls:=.type "dict",data:=.dict #[] }) scope.names).Ns fU.objs.size fun _=>none:=(Heap.Ns.new fU (.type "dict")).keeps (V2 _ _)
 have Dd:fU.get? fU.objs.size=none:=gQ _
 have lL:∀b o,fU.get? b=some o→b<fU.objs.size:=fun b o e=>av e
 generalize Tj (fU.push { cls:=.type "dict",data:=.dict #[] }) scope.names=Jp at k4 NK ⊢
 generalize Th _ scope.names []=cs
 generalize fU.objs.size=L at NK Dd lL ⊢
 let Qa:Env:={ scope:=Ii scope C.env,locals:=L,globals:=C.env.globals,cells:=cs,qual:=C.env.qual,func:=none,code:=C.env.code,frame:=C.env.frame,builtins:=C.env.builtins }
 have yH:∀x,Qa.kindOf x≠some .cell:=fun x hx=>by
  have hx:(Ii scope C.env).names.lookup x=some .cell:=hx
  rw [eI]at hx
  cases q:scope.names.lookup x with
  | none=>rw [q]at hx;contradiction
  | some k =>
   have:=kOf x k q
   rw [q]at hx
   have e:(k == j4)=false:=by
    revert this
    cases k <;> first | exact fun _=>rfl | exact fun h=>by exact aD h
   simp only [i0,jv,e,Mp,aL,if_false]at hx
   subst hx
   exact aD this
 let Vd:IM:=fun a=>if C.Own a then fU.get? a else C.KF a
 let tr:IM:=fun a=>if C.Own a then fU.get? a else KF a
 let C':Cx:={ C with env:=Qa,KF:=Vd }
 have A1:∀a,C'.Own a→a=L:=fun a ha=>ha.elim id fun hE=>az hE fun y hy _=>absurd hy (yH y)
 have ro:∀{a},C.Own a→∃o,fU.get? a=some o∧∀vs,o.data≠.fields vs:=fun q=>r9.sj ok.toOkE q
 have nL:=r9.fresh Dd
 have Bn:∀{K:IM} {a},C.Own a→(if C.Own a then fU.get? a else K a)=fU.get? a:=fun q=>if_pos q
 have uW:∀{K:IM} {a},¬C.Own a→(if C.Own a then fU.get? a else K a)=K a:=fun q=>if_neg q
 have bN:C.base.get? L=none:=by
  cases q:C.base.get? L with
  | none=>rfl
  | some o=>have:=r9.de _ _ (r9.base _ _ q);rw [Dd]at this;contradiction
 have j9:C'.Ok dep:=by
  refine ⟨⟨hk,ok.gl,ok.bl,ok.K,ok.g,ok.b,ok.nolimit,ok.boot,ok.units,ok.depth,fun y z c hy=>absurd hy (yH y),fun y hy=>absurd hy (yH y),bN,?_,fun a o e=>?_,fun b o q=>lL b o (r9.de b o (r9.base b o q)),ok.guards,?_⟩,ok.hd⟩
  ·refine dC ok.frames fun e0 l g1 g2 g3=>?_
   refine (dK e0 l g1 g2 (fun e' A3=>?_))
   refine ao (g3 e' A3) fun a1 hE=>eZ hE fun L' a2 a3 a4=>?_
   refine (lb a1 (cB L' a2 a3 (.inr ?_)))
   by_cases q:C.Own L'
   ·exact az (ro q) fun o ho _=>(dA o ((Bn q).trans ho))
   ·exact a4.elim (fun e=>absurd (.inl e) q) fun hE=>cG hE fun o ho=>(dA o ((uW q).trans ho))
  ·by_cases q:C.Own a
   ·refine az (ro q) fun o' ho hn=>?_
    rw [(Bn q).symm.trans e]at ho
    obtain rfl:=aE ho;exact hn
   ·exact ok.Q4 a o ((uW q).symm.trans e)
  ·exact az (ro (.inl rfl)) fun o ho _=>bD ok.Q5 (lL _ _ ho)
 have S':SR C' tr r8 ⟨fun _=>none,uV.H⟩ { bO with heap:=Jp,toks:=nU }:=by
  refine ⟨fun a o e=>?_,r9.low,?_,r9.base,fun a o e=>k4 a o (r9.de a o e),fun a o e=>?_,fun a ha=>?_,fun a c e=>?_,⟨(aw _ NK (fun y v hy=>(by contradiction))),fun y v hy=>(by contradiction),fun y v hy=>(by contradiction),fun y hy=>absurd hy (yH y)⟩⟩
  ·by_cases q:C.Own a
   ·exact (Bn q).trans ((Bn q).symm.trans e)
   ·exact (uW q).trans (S.kle a o ((uW q).symm.trans e))
  ·exact DV rn.same fun h0 t0 d0 e0=>(y9 Jp nU d0 (by rw [e0]))
  ·by_cases q:C.Own a
   ·exact (lb ((r9.own a q).1) (aw o.slots (k4 a o ((Bn q).symm.trans e)) fun _=>rfl))
   ·exact ao (r9.mQ a o ((uW q).symm.trans e)) fun f1 hE=>az hE fun sl f2 f3=>(lb f1 (aw sl (k4 a _ f2) f3))
  ·rw [A1 a ha]
   exact (d9 nL.1 ((uW nL.2.2.2).trans nL.2.1) nL.2.2.1)
  ·exact dO (r9.mu a c e) fun f1 f2 hE=>az hE fun o f3 f4=>(d9 f1 ((uW fun q=>by have:=(r9.own a q).2.2;rw [show uV.H a=some c from e]at this;contradiction).trans f2) (aw o (k4 a o f3) f4))
 have back:∀{J aj s'},fq r8 J→SR C' tr J aj s'→SR C KF J ⟨uV.lo,aj.H⟩ s':=by
  intro J aj s' lJ T
  have Bh:∀a,C.Own a→∀o,fU.get? a=some o→J a=none∧∃sl,s'.heap.get? a=some { o with slots:=sl }:=fun a q o e =>
   ao (T.mQ a o ((Bn q).trans e)) fun z1 hE=>az hE fun sl z2 _=>(lb z1 (dA sl z2))
  have hz:∀a,tr a=none→KF a=none:=fun a e=>by
   by_cases q:C.Own a
   ·exact (S.own a q).2.1
   ·exact (uW q).symm.trans e
  refine ⟨S.kle,T.low,T.same,T.base,T.de,fun a o e=>T.mQ a o ((uW fun q=>by have:=(S.own a q).2.1;rw [e]at this;contradiction).trans e),fun a ha=>?_,fun a c e=>dO (T.mu a c e) fun f1 f2 f3=>(d9 f1 (hz a f2) f3),?_⟩
  ·refine az (ro ha) fun o ho _=>?_
   refine (d9 ((Bh a ha o ho).1) ((S.own a ha).2.1) ?_)
   cases q:aj.H a with
   | none=>rfl
   | some c=>have:=(T.mu a c q).2.1;rw [show tr a=fU.get? a from Bn ha,ho]at this;contradiction
  ·obtain ⟨⟨m,⟨oL,es,ep,Vf,hd,hr⟩,f1⟩,f2,f3,f4⟩:=r9.loc.mono lJ
   have cellK:∀y c v,C.env.kindOf y=some .cell→C.env.cells.lookup y=some c→fU.IsCell c v→s'.heap.IsCell c v:=fun y c v hy hl hE=>az hE fun o ho hd =>
    ao (Bh c (.inr (aw y hy hl)) o ho) fun _ hE=>cG hE fun sl e=>(aw _ e hd)
   exact ao (Bh _ (.inl rfl) oL Vf) fun _ hE=>cG hE fun sl eL =>
    ⟨(aw m (tq _ es ep eL hd hr) f1),fun y v e iJ=>dC (f2 y v e iJ) fun c u a1 a2 a3=>(dK c u a1 (cellK y c _ iJ a1 a2) a3),f3,fun y hy=>gP (f4 y hy) fun c v0 a1 a2=>(jq c v0 a1 (cellK y c _ hy a1 a2))⟩
 have KL:KF L=none∧¬C.Own L:=⟨nL.2.1,nL.2.2.2⟩
 have Qb:∀{a o},fU.get? a=some o→¬C'.Own a:=fun e hb=>by rw [A1 _ hb,Dd]at e;contradiction
 have W4:Dw 0 r8 Jp:=W.frame r8 r8 fU Jp 0 W3 (.refl _) (fun o e=>k4 _ _ e) fun a o _ e2=>k4 _ _ e2
 have loop:=Bl (C:=C') (elt:=elt) (gens:=g::gs) (scope:=scope) (pos:=pos) (D:=D) j9 has (fun g' UO x=>hfold g' UO _ x) gs 0 g rfl tr r8 r8 _ _ xs it Dw 0 [] _ (.refl _) W S' ⟨(jq 0 (#[]) (k4 _ _ QX) (.nil)),d1,(uW d4).trans d2,d3,Qb QX⟩ W4 (dA oi (k4 _ _ QZ)) i1 ((uW i4).trans i2) i3 (Qb QZ) cx (gm _)
  (hw C' j9 ⟨rfl,rfl,rfl,rfl,rfl,rfl,rfl,rfl⟩ rfl)
 refine dX (r7 rfl (has g aH).1 loop (W.self C'.A r8 _ 0 _ _ W4 loop)) fun r s' hr=>?_
 cases r with
 | error e=>exact hr.elim
 | ok f =>
  refine jr hr fun J' aj ys l' T A' NL=>?_
  obtain ⟨⟨nD,xD,Gv,Jn⟩,b1,_,b3,_⟩:=A'
  have Sb:=back l' T
  have Ln:=T.own L (.inl rfl)
  have Yq:L≠D:=fun q=>by rw [← q,Dd]at QX;contradiction
  refine az T.loc.ns fun m hm _=>?_
  obtain ⟨c,Jf,Hf,lJf,Sf,hv,Lf,LH,NL⟩:∃c Jf Hf,fq J' Jf∧SR C KF Jf ⟨uV.lo,Hf⟩ s'∧VR Jf c (.ref D)∧Jf L=none∧Hf L=none∧Qc c ⟨uV.lo,Hf⟩:=by
   rcases NL with NL | NL
   ·refine (DW (.lst ys) (df J' D ⟨.type "list",.none,.seq xD nD,#[]⟩) aj.H (dt b1) (Sb.kZ Gv b1 d2 b3 d4) ?_ ((dR Yq).trans Ln.1) Ln.2.2 NL)
    exact (tq D nD xD rfl (by simp) (ck.mono (dt b1) _ _ Jn))
   ·exact (DW (.loc D) J' (aV aj.H D (.list ys)) (.refl _) (Sb.Jg ⟨QY,fun q=>by exact aD q⟩ Gv b1 d2 d4 (jq nD xD rfl Jn)) rfl Ln.1 ((j8 Yq).trans Ln.2.2) (NL D b3))
  have hQ:=hq _ _ NL
  have lf:fq I Jf:=(Jj.trans l').trans lJf
  cases use with
  | none=>exact (aw m hm (fun Jq NM=>(dK _ _ lf (Sf.but (tk:=s'.toks) Lf KL.1 LH KL.2 fun a o ha e=>(NM.2 a ha).trans e) (hQ _ _ hv))))
  | some u =>
   refine jr hm fun oL es ep hLo hLd hLk hLf=>?_
   have SK:=Sf.tU (a:=L) hLo Lf KL.1 LH KL.2
   have lk:fq KF (df KF L oL):=dt KL.1
   show aR (aS C.prog C.w) C.A (u (.ref D)) _ _ s'
   refine aM (hQ _ _ hv _ s' SK) (fun _ vj R1=>dC R1 fun J3 i8 l3 S3 q3=>?_) fun e vj R2=>jr R2 fun J3 x i8 l3 S3 x3 q3=>(js J3 x i8 (lf.trans l3) (S3.g7 lk S.kle) (x3.g7 lk) q3)
   refine ao (S3.mQ L oL (by simp)) fun z1 hE=>az hE fun sl z2 _=>?_
   have a3:=S3.Gu
   exact (aw m (js _ es ep z2 hLd hLk hLf) (fun Jq NM=>(dK J3 i8 (lf.trans l3) ((S3.g7 lk S.kle).but (tk:=vj.toks) a3.1 KL.1 a3.2.1 KL.2 fun a o ha e=>(NM.2 a ha).trans e) q3)))
end
end
section
section
variable{C:Cx} {dep:Nat} {KF I J:IM} {st:ak} {s:Shared} {X:XP}
theorem sv{g:Comprehension}(h:∀env x,cM g.iter env x=pure x):∀g'∈[g],∀env x,cM g'.iter env x=pure x:=EK.mpr ⟨h,fun _ h=>by cases h⟩
theorem A4{g k:Comprehension}(h:∀env x,cM g.iter env x=pure x)(h2:∀env x,cM k.iter env x=pure x):∀g'∈[g,k],∀env x,cM g'.iter env x=pure x:=EK.mpr ⟨h,sv h2⟩
theorem WE.comp(ok:C.Ok dep)
  (h:WE C iter st (fun a bJ=>∃xs,du C a bJ xs∧Gw C dep elt ⟨t,iter,[],0⟩ gs scope xs bJ Q) X)
  (hcap:(scope.names.all fun x=>uT x.2)=true)
  (hk:scope.kind=.function:=by rfl) (hnd:(scope.names.map (·.1)).Nodup:=by decide +kernel)
  (has:∀g'∈(⟨t,iter,[],0⟩::gs:List Comprehension),g'.is_async=0∧g'.ifs=[]:=by simp) (hfold:∀g'∈(⟨t,iter,[],0⟩::gs:List Comprehension),∀env x,cM g'.iter env x=pure x:=by exact sv fun _ _=>rfl) :
  WE C (.ListComp elt (⟨t,iter,[],0⟩::gs) scope pos) st Q X:=fun I =>
 Gx (use:=bw) (g:=⟨t,iter,[],0⟩) (gs:=gs) (Qc:=Q) (Q:=fun J v aj=>∃b,VR J b v∧Q b aj) ok hk hnd hcap has hfold (fun c cJ q J v r=>(aw c r q)) h
theorem WS.uX(ok:C.Ok dep)
  (h:WE C iter st (fun a bJ=>∃xs,du C a bJ xs∧Gw C dep elt ⟨t,iter,[],0⟩ gs scope xs bJ (fun c cJ=>Q .next (cJ.put x c))) X)
  (hcap:(scope.names.all fun x=>uT x.2)=true) (hx:cg (C.env.kindOf x)=true)
  (hs:tL (.ListComp elt (⟨t,iter,[],0⟩::gs) scope pos) (some (.Name x px)) Qd.line C.env=pure true)
  (hk:scope.kind=.function:=by rfl) (hnd:(scope.names.map (·.1)).Nodup:=by decide +kernel)
  (has:∀g'∈(⟨t,iter,[],0⟩::gs:List Comprehension),g'.is_async=0∧g'.ifs=[]:=by simp) (hfold:∀g'∈(⟨t,iter,[],0⟩::gs:List Comprehension),∀env x,cM g'.iter env x=pure x:=by exact sv fun _ _=>rfl) :
  WS C (.Assign [.Name x px] (.ListComp elt (⟨t,iter,[],0⟩::gs) scope pos) Qd) st Q X:=fun I=>by
 simp only [BB]
 refine WL.bind (WL.standAt ?_)
 show WL C (do if ← tL (.ListComp elt (⟨t,iter,[],0⟩::gs) scope pos) (some (.Name x px)) Qd.line C.env then (do
   (do let _ ← comprehension (.ListComp elt (⟨t,iter,[],0⟩::gs) scope pos) scope C.env (firstIterPos (⟨t,iter,[],0⟩::gs) pos) (PX []) false (gK iter C.env) (some fun v=>gL (.Name x px) C.env v));pure uC)else _) I st _ X
 rw [hs]
 refine WL.bind (WL.pure ?_)
 rw [if_pos rfl]
 refine WL.bind (WL.bind ((Gx (use:=some fun v=>gL (.Name x px) C.env v) (g:=⟨t,iter,[],0⟩) (gs:=gs) (Qc:=fun c cJ=>Q .next (cJ.put x c)) (Q:=fun J v aj=>Q .next aj) ok hk hnd hcap has hfold
  (fun c cJ q J v r=>?_) h:WL C _ I st _ X).mono (fun J v aj _ q=>WL.pure (WL.pure (aw (.next) rfl q))) fk))
 exact WA.name (Q:=fun aj=>Q .next aj) ok hx q J v r
end
end
section
section
variable{C:Cx} {dep:Nat} {KF I J:IM} {st:ak} {s:Shared} {X:XP} {Q:CV→ak→Prop}
theorem GI{f:Value→Value→xq Value}{a b:Int}(k:∀I t u,WL C (f (.int a t) (.int b u)) I st (VQ Q) X):W2 C f (.int a) (.int b) st Q X:=fun I v u r1 r2 =>
 cG r1 fun t e=>cG r2 fun t' e'=>rE e (rE e' (k I t t'))
theorem W2.kZ(h:Q (.int (a+b)) st):W2 C (mj .Add) (.int a) (.int b) st Q X:=GI fun I t t' KF s S=>by
 exact wpAny_add_int (pq (.int _) (S.toks _) (dA _ rfl) h)
theorem W2.A5(h:Q (.int (a+b)) st):W2 C (pP .Add) (.int a) (.int b) st Q X:=GI fun I t t' KF s S=>by
 exact wpAny_iadd_int (pq (.int _) (S.toks _) (dA _ rfl) h)
theorem W2.NN(h:Q (.int (a-b)) st):W2 C (mj .Sub) (.int a) (.int b) st Q X:=GI fun I t t' KF s S=>by
 exact PySem.P.sub_int (pq (.int _) (S.toks _) (dA _ rfl) h)
theorem W2.NO(hb:0<b)(h:Q (.int (a % b)) st):W2 C (mj .Mod) (.int a) (.int b) st Q X:=GI fun I t t' KF s S=>by
 refine mod_int' (DE hb) ?_
 rw [Int.fmod_eq_emod_of_nonneg _ (gw hb)]
 exact (pq (.int _) (S.toks _) (dA _ rfl) h)
theorem W2.Vl(hb:0<b)(hs:b<2 ^ 30)(h:Q (.int (a / b)) st):W2 C (mj .FloorDiv) (.int a) (.int b) st Q X:=GI fun I t t' KF s S=>by
 refine floordiv_int (DE hb) ?_ (Or.inl (zP (Lq hb hs)))
 rw [zQ _ (gw hb)]
 exact (pq (.int _) (S.toks _) (dA _ rfl) h)
theorem W2.Yr(h:Q (.bool (decide (a=b))) st):W2 C (cI .Eq) (.int a) (.int b) st Q X:=GI fun I t t' KF s S=>by
 refine PySem.P.eq_int (pq (.bool (decide (a=b))) S ?_ h)
 show _=_;congr 1
theorem W2.ltI(h:Q (.bool (decide (a<b))) st):W2 C (cI .Lt) (.int a) (.int b) st Q X:=GI fun I t t' KF s S=>by
 exact PySem.P.lt_int (pq (.bool _) S rfl h)
theorem W2.leI(h:Q (.bool (decide (a≤b))) st):W2 C (cI .LtE) (.int a) (.int b) st Q X:=GI fun I t t' KF s S=>by
 exact PySem.P.le_int (pq (.bool _) S rfl h)
theorem W2.gtI(h:Q (.bool (decide (b<a))) st):W2 C (cI .Gt) (.int a) (.int b) st Q X:=GI fun I t t' KF s S=>by
 exact PySem.P.gt_int (pq (.bool (decide (b<a))) S (by rfl) h)
theorem W2.Ys(h:Q (.bool (decide (b≤a))) st):W2 C (cI .GtE) (.int a) (.int b) st Q X:=GI fun I t t' KF s S=>by
 exact PySem.P.ge_int (pq (.bool (decide (b≤a))) S (by rfl) h)
theorem SR.mT(S:SR C KF I st s)(hf:o.isFreed=false):fq I (df I s.heap.objs.size o)∧SR C KF (df I s.heap.objs.size o) st { s with heap:=s.heap.push o }:=by
 refine ip S.Ba fun h1 h2 h3 h4=>?_
 exact ⟨dt h1,(S.push o).kZ (cR _ hf) h1 h2 h3 h4⟩
theorem SR.Ec(S:SR C KF I st s)(hf:o.isFreed=false)(hr:OR C.prog C.w I c o)(ht:c.si=false:=by rfl):st.H s.heap.objs.size=none∧SR C KF I { st with H:=aV st.H s.heap.objs.size c } { s with heap:=s.heap.push o }:=by
 refine ip S.Ba fun h1 h2 h3 h4=>?_
 exact ⟨h3,(S.push o).Jg ⟨S.big,fun q=>by rw [ht]at q;exact aD q⟩ (cR _ hf) h1 h2 h4 hr⟩
theorem lr{pos:Pos}:∀{es:List Expr} {st:ak} {Q:List CV→ak→Prop},rV C es st Q X→(∀e∈es,∀t p,e≠.Starred t p)→∀I,WL C (BR (j5 pos (eA es C.env))) I st (fun J vs aj=>∃cs,ck J cs vs∧Q cs aj) X
 | [],st,Q,h,_,I=>WL.pure (aw ([]) (.nil) h)
 | e::es,st,Q,h,hs,I=>by
  rw [lF (hs e aH)]
  show WL C (do let v ← gK e C.env;let here ← (pure [v]:xq (List Value));return here++(← holding here (BR (j5 pos (eA es C.env))))) I st _ X
  refine WL.bind ((h I).mono (fun J v bJ _ W7=>az W7 fun c r q=>?_) fk)
  refine WL.bind (WL.pure (WL.bind (WL.holding ((lr q (fun x hx=>hs x (aG _ hx)) J).mono (fun J2 vs cJ l W8=>az W8 fun cs rs q2=>?_) fk))))
  exact WL.pure (aw (c::cs) (.cons (r.mono l) rs) q2)
theorem WE.tuple{k pos}(h:rV C es st (fun cs aj=>cs.length≤2 ^ 24∧Q (.tup cs) aj) X)(hs:es.all noStar=true:=by rfl):WE C (.Tuple es k pos) st Q X:=fun I=>by
 show WL C (do standAt pos;newTuple (← BR (j5 pos (eA es C.env)))) I st _ X
 refine WL.bind (WL.standAt (WL.bind ((lr h (hV hs) I).mono (fun J vs bJ _ W9=>eZ W9 fun cs r hl q=>?_) fk)))
 intro KF s S
 refine bz ?_ (by show vs.toArray.size≤bZ;rw [aa];have:=r.length;simp;exact T2 [.l .x (.n 16777216),.e .x .y] (.l .y (.n 16777216)) tA hl this)
 refine ao (S.mT (o:={ cls:=.type "tuple",dict:=.none,data:=.seq vs.toArray }) rfl) fun l S'=>?_
 refine (dK _ bJ l S' (aw (.tup cs) ?_ q))
 exact (tq _ _ _ rfl cw (ck.mono l _ _ (by simpa using r)))
theorem WE.A6{pos}(h:rV C es st (fun cs aj=>cs.length≤2 ^ 24∧Q (.lst cs) aj) X)(hs:es.all noStar=true:=by rfl):WE C (.List es pos) st Q X:=fun I=>by
 show WL C (do standAt pos;PX (← BR (j5 pos (eA es C.env)))) I st _ X
 refine WL.bind (WL.standAt (WL.bind ((lr h (hV hs) I).mono (fun J vs bJ _ R0=>eZ R0 fun cs r hl q=>?_) fk)))
 intro KF s S
 refine bz ?_ (by show vs.toArray.size≤bZ;rw [aa];have:=r.length;simp;exact T2 [.l .x (.n 16777216),.e .x .y] (.l .y (.n 16777216)) tA hl this)
 refine ao (S.mT (o:={ cls:=.type "list",dict:=.none,data:=.seq vs.toArray }) rfl) fun l S'=>?_
 refine (dK _ bJ l S' (aw (.lst cs) ?_ q))
 exact (tq _ _ _ rfl cw (ck.mono l _ _ (by simpa using r)))
theorem WE.list{pos}(h:rV C es st (fun cs aj=>cs.length≤2 ^ 24∧∀a,aj.H a=bw→Q (.loc a) { aj with H:=aV aj.H a (.list cs) }) X)(hs:es.all noStar=true:=by rfl):WE C (.List es pos) st Q X:=fun I=>by
 show WL C (do standAt pos;PX (← BR (j5 pos (eA es C.env)))) I st _ X
 refine WL.bind (WL.standAt (WL.bind ((lr h (hV hs) I).mono (fun J vs bJ _ R1=>eZ R1 fun cs r hl q=>?_) fk)))
 intro KF s S
 refine bz ?_ (by show vs.toArray.size≤bZ;rw [aa];exact aJ (dP r.length.symm) hl)
 refine ao (S.Ec (o:={ cls:=.type "list",dict:=.none,data:=.seq vs.toArray }) (c:=.list cs) rfl (jq _ _ rfl (by simpa using r))) fun hn S'=>?_
 exact (dK J _ (.refl _) S' (aw (.loc s.heap.objs.size) rfl (q _ hn)))
theorem W2.Vm(hl:as.length+bs.length≤2 ^ 24)(h:Q (.tup (as++bs)) st):W2 C (mj .Add) (.tup as) (.tup bs) st Q X:=fun I v u r1 r2 KF s S=>by
 have M5:=r1;have Qe:=r2
 refine j7 r1 fun a n xs G5 R9=>?_;try clear r1;obtain rfl:=G5;(refine ao R9 fun hi hr=>?_;try clear R9)
 refine j7 r2 fun b m ys G5 R9=>?_;try clear r2;obtain rfl:=G5;(refine ao R9 fun hj vm=>?_;try clear R9)
 have ha:=S.de _ _ hi
 have hb:=S.de _ _ hj
 have e:=hr.length
 have e':=vm.length
 by_cases h0:xs.isEmpty=true
 ·refine we (aw _ ha rfl) (aw _ hb rfl) iD kW F.slot_tuple_add F.entry_tuple_add (F.args_tuple_add_2 _ _) (tuple_addW0 a b xs ys n m none none #[] #[] h0) (d9 ha hb ?_)
  have:as=[]:=by
   have hx:xs.toList=[]:=by simpa using h0
   rw [hx]at e;exact aP e
  clear hl M5 hr e;subst this
  exact (pq _ S Qe h)
 ·by_cases h1:ys.isEmpty=true
  ·refine we (aw _ ha rfl) (aw _ hb rfl) iD kW F.slot_tuple_add F.entry_tuple_add (F.args_tuple_add_2 _ _) (tuple_addW1 a b xs ys n m none none #[] #[] h0 h1) (d9 ha hb ?_)
   have:bs=[]:=by
    have hx:ys.toList=[]:=by simpa using h1
    rw [hx]at e';exact aP e'
   clear hl Qe vm e';subst this
   rw [f9]at h
   exact (pq _ S M5 h)
  ·refine we (aw _ ha rfl) (aw _ hb rfl) iD kW F.slot_tuple_add F.entry_tuple_add (F.args_tuple_add_2 _ _) (tuple_addW2 a b xs ys n m none none #[] #[] h0 h1 (by rw [aa];simp at e e';exact T4 [.l (.a .x .y) (.n 16777216),.e .x .z,.e .y .w] (.l (.a .z .w) (.n 16777216)) tA hl e e')) (d9 ha hb ?_)
   refine ao (S.mT (o:={ cls:=.type "tuple",dict:=.none,data:=.seq (xs++ys) }) rfl) fun l S'=>?_
   refine (dK _ st l S' (aw (.tup (as++bs)) ?_ h))
   exact (tq _ _ _ rfl cw (ck.mono l _ _ (by simpa using hr.append vm)))
theorem W2.Vn(hl:as.length+bs.length≤2 ^ 24)(h:Q (.lst (as++bs)) st):W2 C (mj .Add) (.lst as) (.lst bs) st Q X:=fun I v u r1 r2 KF s S=>by
 refine j7 r1 fun a n xs G5 R9=>?_;try clear r1;obtain rfl:=G5;(refine ao R9 fun hi hr=>?_;try clear R9)
 refine j7 r2 fun b m ys G5 R9=>?_;try clear r2;obtain rfl:=G5;(refine ao R9 fun hj vm=>?_;try clear R9)
 have ha:=S.de _ _ hi
 have hb:=S.de _ _ hj
 have e:=hr.length
 have e':=vm.length
 refine we (aw _ ha rfl) (aw _ hb rfl) noFill_list_add seq_list_add F.slot_list_add F.entry_list_add (F.args_list_add_2 _ _) (list_addW a b xs ys n m none none #[] #[] (by rw [aa];simp at e e';exact T4 [.l (.a .x .y) (.n 16777216),.e .x .z,.e .y .w] (.l (.a .z .w) (.n 16777216)) tA hl e e')) (d9 ha hb ?_)
 refine ao (S.mT (o:={ cls:=.type "list",dict:=.none,data:=.seq (xs++ys) }) rfl) fun l S'=>?_
 refine (dK _ st l S' (aw (.lst (as++bs)) ?_ h))
 exact (tq _ _ _ rfl cw (ck.mono l _ _ (by simpa using hr.append vm)))
theorem WE.sub{value slice pos}(h:WE C value st (fun a bJ=>WE C slice bJ (fun b cJ=>W2 C (ia value slice) a b cJ Q X) X) X):WE C (.Subscript value slice pos) st Q X:=fun I=>by
 simp only [YA]
 refine WL.bind ((h I).mono (fun J a bJ _ R2=>az R2 fun ca ra ha=>?_) fk)
 refine WL.bind (WL.holding ((ha J).mono (fun J2 b cJ l R3=>az R3 fun cb rb hb=>?_) fk))
 exact WL.bind (WL.standAt (hb J2 _ _ (ra.mono l) rb))
noncomputable def cidx(n:Nat)(k:Int):Nat:=if k<0 then (k+n).toNat else k.toNat
theorem seqIndex_of{k:Int}{n:Nat}(h:-(n:Int)≤k)(h2:k<n):tN k n=some (cidx n k):=by
 delta tN cidx
 by_cases hk:k<0
 ·simp only [hk,if_true]
  have h1:¬k+(n:Int)<0:=fm.mpr (Int.add_left_neg (n:Int)▸Int.add_le_add_right h n)
  have h3:¬k+(n:Int)≥n:=zJ.mpr (Px hk)
  simp [h1,h3]
 ·simp only [hk,if_false]
  have h3:¬k≥(n:Int):=zJ.mpr h2
  simp [hk,h3]
end
end
section
mutual
noncomputable def toPy:CV→Oa
 | .bool b=>.bool b
 | .int i=>.int i
 | .str s=>.str s
 | .tup vs=>.tuple (eW vs)
 | .lst vs=>.list (eW vs)
 | _=>.none
noncomputable def eW:List CV→List Oa
 | []=>[]
 | v::vs=>toPy v::eW vs
end
mutual
noncomputable def eS:CV→Bool
 | .none=>true
 | .bool _=>true
 | .int _=>true
 | .str s=>jw s
 | .tup vs=>g8 vs
 | .lst vs=>g8 vs
 | _=>false
noncomputable def g8:List CV→Bool
 | []=>true
 | v::vs=>eS v&&g8 vs
end
noncomputable def sx(a b:CV):Bool:=ff (toPy a) (toPy b)
mutual
theorem VR.reads(hi:∀a o,I a=some o→h.get? a=some o):∀(c:CV) (v:Value),eS c=true→VR I c v→(∃as,Reads h v (toPy c) as)∧(toPy c).canLay0=true
 | .none,v,_,r=>by skip;subst r;exact ⟨(dA _ (.none)),rfl⟩
 | .bool b,v,_,r=>by skip;subst r;exact ⟨(dA _ (.bool b)),rfl⟩
 | .int i,v,_,r=>by skip;(refine cG r fun t G8=>?_;try clear r;obtain rfl:=G8);exact ⟨(dA _ (.int i t)),rfl⟩
 | .str s,v,p,r=>by skip;(refine cG r fun t G8=>?_;try clear r;obtain rfl:=G8);exact ⟨(dA _ (.str s t)),by simpa [eS,toPy,vr]using p⟩
 | .tup vs,v,p,r=>by
  refine j7 r fun a n xs G5 R9=>?_;try clear r;obtain rfl:=G5;(refine ao R9 fun h1 h2=>?_;try clear R9)
  refine ao (ck.reads hi vs xs.toList (by simpa [eS]using p) h2) fun G9 hl=>?_;(refine cG G9 fun as ra=>?_;try clear G9)
  exact ⟨(dA as (.tuple (hi _ _ h1) rfl rfl ra)),by simpa [toPy,vr]using hl⟩
 | .lst vs,v,p,r=>by
  refine j7 r fun a n xs G5 R9=>?_;try clear r;obtain rfl:=G5;(refine ao R9 fun h1 h2=>?_;try clear R9)
  refine ao (ck.reads hi vs xs.toList (by simpa [eS]using p) h2) fun G9 hl=>?_;(refine cG G9 fun as ra=>?_;try clear G9)
  exact ⟨(dA _ (.list (hi _ _ h1) rfl rfl ra)),by simpa [toPy,vr]using hl⟩
 | .loc _,_,p,_=>by simp [eS]at p
 | .raw _,_,p,_=>by simp [eS]at p
 | .VN _ _,_,p,_=>by simp [eS]at p
 | .x9 _ _,_,p,_=>by simp [eS]at p
 | .fy _ _,_,p,_=>by simp [eS]at p
 | .fn _,_,p,_=>by simp [eS]at p
theorem ck.reads(hi:∀a o,I a=some o→h.get? a=some o):∀(cs:List CV) (vs:List Value),g8 cs=true→ck I cs vs→(∃as,ReadsAll h vs (eW cs) as)∧Fz (eW cs)=true
 | [],vs,_,r=>by have:=r.dQ;subst this;exact ⟨(dA _ (.nil)),rfl⟩
 | c::cs,vs,p,r=>by
  refine gP r.cO fun y ys G7 R9=>?_;obtain rfl:=G7;(refine ao R9 fun r1 r2=>?_;try clear R9)
  simp only [g8,ae]at p
  refine ao (VR.reads hi c y p.1 r1) fun G9 a2=>?_;(refine cG G9 fun as a1=>?_;try clear G9)
  refine ao (ck.reads hi cs ys p.2 r2) fun G9 b2=>?_;(refine cG G9 fun bs b1=>?_;try clear G9)
  exact ⟨(dA _ (.cons a1 b1)),by simp [eW,Fz,a2,b2]⟩
end
section
variable{C:Cx} {dep:Nat} {KF I J:IM} {st:ak} {s:Shared} {X:XP} {Q:CV→ak→Prop}
theorem W2.Yt(ok:C.Ok dep)(pa:eS a=true)(pb:eS b=true)(hd:(toPy a).depth≤100)(h:Q (.bool (sx a b)) st):W2 C (cI .Eq) a b st Q X:=fun I v u r1 r2 KF s S=>by
 refine ao (VR.reads S.de a v pa r1) fun G9 hx=>?_;(refine cG G9 fun as x=>?_;try clear G9)
 refine ao (VR.reads S.de b u pb r2) fun G9 hy=>?_;(refine cG G9 fun bs y=>?_;try clear G9)
 exact SeqAt.compareEq_reads x y hx hy (by have:=ok.units;exact T5 [.i .x .s,.l .y (.n 100),.t (.a (.a .z (.m 10 .w)) (.n 200)) .s] (.t (.a .z .x) .s) tA hd this) (pq (.bool (sx a b)) S rfl h)
theorem W2.P5(ok:C.Ok dep)(pa:eS a=true)(pb:eS b=true)(hd:(toPy a).depth≤100)(h:Q (.bool (!sx a b)) st):W2 C (cI .NotEq) a b st Q X:=fun I v u r1 r2 KF s S=>by
 refine ao (VR.reads S.de a v pa r1) fun G9 hx=>?_;(refine cG G9 fun as x=>?_;try clear G9)
 refine ao (VR.reads S.de b u pb r2) fun G9 hy=>?_;(refine cG G9 fun bs y=>?_;try clear G9)
 exact SeqAt.compareNe_reads x y hx hy (by have:=ok.units;exact T5 [.i .x .s,.l .y (.n 100),.t (.a (.a .z (.m 10 .w)) (.n 200)) .s] (.t (.a .z .x) .s) tA hd this) (pq (.bool (!sx a b)) S rfl h)
open Classical in
noncomputable def Ed(h:Heap)(d:Oa)(y:Value):Bool:=if q:∃e:Oa,e.canLay0=true∧∃as,Reads h y e as then ff (Classical.choose q) d else false
theorem De(he:e.canLay0=true)(r:Reads h y e as):Ed h d y=ff e d:=by
 have q:∃e:Oa,e.canLay0=true∧∃as,Reads h y e as:=(aw e he (dA as r))
 unfold Ed
 rw [dif_pos q]
 refine ao (Classical.choose_spec q) fun h1 R9=>?_;(refine cG R9 fun bs h2=>?_;try clear R9)
 rw [YB _ _ _ _ _ h1 h2 r]
theorem uY(S:SR C KF I st s){b:CV}:∀{cs:List CV} {vs:List Value},g8 cs=true→ck I cs vs→vs.any (Ed s.heap (toPy b))=cs.any fun c=>sx c b
 | [],vs,_,r=>by have:=r.dQ;clear r;subst this;rfl
 | c::cs,vs,p,r=>by
  refine gP r.cO fun y ys G7 R9=>?_;clear r;obtain rfl:=G7;(refine ao R9 fun r1 r2=>?_;try clear R9)
  simp only [g8,ae]at p
  refine ao (VR.reads S.de c y p.1 r1) fun G9 a2=>?_;(refine cG G9 fun as a1=>?_;try clear G9)
  simp only [iA,iA,uY S p.2 r2,De a2 a1];rfl
theorem qK(S:SR C KF I st s)(ok:C.Ok dep){b:CV}{u:Value}(pb:eS b=true)(hd:(toPy b).depth≤100)(rb:VR I b u):∀{cs:List CV} {vs:List Value},g8 cs=true→ck I cs vs →
  ∀y∈vs,Tn C.A.in1 s y u (Ed s.heap (toPy b) y)
 | [],vs,_,r,y,hy=>by have:=r.dQ;clear r;subst this;cases hy
 | c::cs,vs,p,r,y,hy=>by
  refine gP r.cO fun z zs G7 R9=>?_;obtain rfl:=G7;(refine ao R9 fun r1 r2=>?_;try clear R9)
  simp only [g8,ae]at p
  rcases aq.mp hy with rfl | hy
  ·refine ao (VR.reads S.de c y p.1 r1) fun G9 a2=>?_;(refine cG G9 fun as a1=>?_;try clear G9)
   refine ao (VR.reads S.de b u pb rb) fun G9 b2=>?_;(refine cG G9 fun bs b1=>?_;try clear G9)
   rw [De a2 a1]
   refine Ik _ _ _ _ _ _ _ _ a1 b1 a2 b2 ?_
   have:=ok.units
   show C.A.units+1+_<_
   exact T5 [.i .s .x,.l .y (.n 100),.t (.a (.a .z (.m 10 .w)) (.n 200)) .s] (.t (.a (.a .z .o) .x) .s) tA hd this
  ·exact qK S ok pb hd rb p.2 r2 y hy
theorem W2.Yu{b:CV}{cs:List CV}(ok:C.Ok dep)(pa:g8 cs=true)(pb:eS b=true)(hd:(toPy b).depth≤100)(h:Q (.bool (cs.any fun c=>sx c b)) st):W2 C (cI .In) b (.tup cs) st Q X:=fun I v u r1 r2 KF s S=>by
 refine j7 r2 fun a n xs G5 R9=>?_;try clear r2;obtain rfl:=G5;(refine ao R9 fun hi hr=>?_;try clear R9)
 refine SeqAt.in_tupleAt (Ed s.heap (toPy b)) (cB _ (S.de _ _ hi) rfl (dA n rfl)) (fun y hy=>qK S ok pb hd r1 pa hr y (by simpa using hy)) ?_
 rw [← Il,uY S pa hr]
 exact (pq (.bool _) S rfl h)
theorem W2.Gy{b:CV}{a:Addr}{cs:List CV}(ok:C.Ok dep)(hH:st.H a=some (.list cs))(pa:g8 cs=true)(pb:eS b=true)(hd:(toPy b).depth≤100)(h:Q (.bool (cs.any fun c=>sx c b)) st):W2 C (cI .In) b (.loc a) st Q X:=fun I v u r1 r2 KF s S=>by
 subst r2
 refine dO (S.mu a _ hH) fun _ _ R9=>?_;obtain ⟨o,ho,n,xs,rfl,hr⟩:=R9
 refine SeqAt.in_listAt (Ed s.heap (toPy b)) (cB _ ho rfl ⟨n,rfl⟩) (fun y hy=>qK S ok pb hd r1 pa hr y (by simpa using hy)) ?_
 rw [← Il,uY S pa hr]
 exact (pq (.bool _) S rfl h)
theorem W2.M6(h1:-(cs.length:Int)≤k)(h2:k<cs.length)(hs:(cs.length:Int)<2 ^ 62)(hc:cs[cidx cs.length k]?=some c)(h:Q c st)
  (vn:∀o i,ki slice false o i=operate [o,i] (kX o i):=by intros;rfl):W2 C (ia value slice) (.tup cs) (.int k) st Q X:=fun I v u r1 r2 KF s S=>by
 refine j7 r1 fun a n xs G5 R9=>?_;try clear r1;obtain rfl:=G5;(refine ao R9 fun hi hr=>?_;try clear R9)
 refine cG r2 fun t G8=>?_;try clear r2;obtain rfl:=G8
 have ht:YC s.heap a xs:=(cB _ (S.de _ _ hi) rfl (dA n rfl))
 refine az (hr.get hc) fun x hx rx=>?_
 have e:cs.length=xs.size:=hr.length
 refine sa ht.typeIs slot_tuple_getitem.lookup (V3 ht (Ja h1 h2 hs).1 (Ja h1 h2 hs).2 (seqIndex_of (e▸h1) (e▸h2)) ?_ (pq c S rx h)) (vn _ _)
 rw [← e]
 simpa using hx
theorem lu{E:Value→Shared→Prop}{Q:Value→Shared→Prop}(hl:s.heap.IsList l items)
  (h1:-(items.size:Int)≤k) (h2:k<items.size) (hs:(items.size:Int)<2 ^ 62) (hx:items[cidx items.size k]?=some x) (h:Q x s):aR (aS prog w) A (kX (.ref l) (.int k t)) Q E s:=by
 by_cases hk:k<0
 ·unfold cidx at hx
  rw [if_pos hk]at hx
  exact wpAny_getItem_list_neg hl hk h1 (Ja h1 h2 hs).1 hx h
 ·unfold cidx at hx
  rw [if_neg hk]at hx
  exact wpAny_getItem_list hl (fm.mp hk) (Ja h1 h2 hs).2 hx h
theorem W2.Df(h1:-(cs.length:Int)≤k)(h2:k<cs.length)(hs:(cs.length:Int)<2 ^ 62)(hc:cs[cidx cs.length k]?=some c)(h:Q c st)
  (vn:∀o i,ki slice false o i=operate [o,i] (kX o i):=by intros;rfl):W2 C (ia value slice) (.lst cs) (.int k) st Q X:=fun I v u r1 r2 KF s S=>by
 refine j7 r1 fun a n xs G5 R9=>?_;try clear r1;obtain rfl:=G5;(refine ao R9 fun hi hr=>?_;try clear R9)
 refine cG r2 fun t G8=>?_;try clear r2;obtain rfl:=G8
 have hl:s.heap.IsList a xs:=(cB _ (S.de _ _ hi) rfl (dA n rfl))
 refine az (hr.get hc) fun x hx rx=>?_
 have e:xs.size=cs.length:=hr.length.symm
 refine sa hl.typeIs wg.lookup (lu hl (e.symm▸h1) (e.symm▸h2) (e.symm▸hs) ?_ (pq c S rx h)) (vn _ _)
 rw [e];simpa using hx
theorem W2.Jr(hH:st.H a=some (.list cs))(h1:-(cs.length:Int)≤k)(h2:k<cs.length)(hs:(cs.length:Int)<2 ^ 62)(hc:cs[cidx cs.length k]?=some c)(h:Q c st)
  (vn:∀o i,ki slice false o i=operate [o,i] (kX o i):=by intros;rfl):W2 C (ia value slice) (.loc a) (.int k) st Q X:=fun I v u r1 r2 KF s S=>by
 subst r1
 refine cG r2 fun t G8=>?_;try clear r2;obtain rfl:=G8
 refine dO (S.mu a _ hH) fun _ _ R9=>?_;obtain ⟨o,ho,n,xs,rfl,hr⟩:=R9
 have hl:s.heap.IsList a xs:=(cB _ ho rfl ⟨n,rfl⟩)
 refine az (hr.get hc) fun x hx rx=>?_
 have e:xs.size=cs.length:=hr.length.symm
 refine sa hl.typeIs wg.lookup (lu hl (e.symm▸h1) (e.symm▸h2) (e.symm▸hs) ?_ (pq c S rx h)) (vn _ _)
 rw [e];simpa using hx
end
end
section
section
variable{C:Cx} {dep:Nat} {KF I:IM} {st:ak} {s:Shared} {X:XP}
theorem SR.Qf(hT:st.H C.tb≠none)(S:SR C KF I st s)(h:s.heap.get? a=none):a≠C.tb:=fun q=>by
 subst q
 refine cG (bL.mp hT) fun c hc=>?_
 refine dO (S.mu _ _ hc) fun _ _ R9=>?_;(refine az R9 fun o ho _=>?_)
 rw [h]at ho
 contradiction
theorem SR.newExc(hT:st.H C.tb≠none)(S:SR C KF I st s)(hm:Heap.NewExc s.heap h' e cls):SR C KF I st { s with heap:=h',toks:=tk }∧∃ta,XR C KF I ⟨.type cls,.raw ta⟩ (.ref e) h':=by
 refine ⟨S.keeps hm.keeps,?_⟩
 refine dC hm.there fun ob t h1 h2 h3=>?_
 refine ip (S.fresh hm.new) fun f1 f2 f3 f4=>?_
 have hb:C.base.get? e=none:=by
  cases hb:C.base.get? e with
  | none=>rfl
  | some o =>
   have:=S.base e o hb
   rw [f1]at this
   contradiction
 exact ⟨t,e,ob,_,t,.none,rfl,(d9 ⟨hb,S.Qf hT hm.new⟩ f2 f1),h1,h2,h3,rfl,rfl,rfl,.inl ⟨rfl,rfl⟩⟩
theorem W2.yI{value slice:Expr}{x:Str}{k:Nat}(ok:C.Ok dep)(hT:x.cps[k]?=none→st.H C.tb≠none)(hx:k<2 ^ 62)(zc:∀c,x.cps[k]?=some c→Q (.str ⟨#[c]⟩) st)(Vo:x.cps[k]?=none→∀ta,X ⟨.type "IndexError",ta⟩ st)
  (vn:∀o i,ki slice false o i=operate [o,i] (kX o i):=by intros;rfl):W2 C (ia value slice) (.str x) (.int k) st Q X:=fun I v u r1 r2 KF s S=>by
 refine cG r1 fun t G8=>?_;clear r1;obtain rfl:=G8
 refine cG r2 fun t' G8=>?_;clear r2;obtain rfl:=G8
 have hr:(decide ((k:Int) < -(2 ^ 63:Int))||decide ((k:Int)≥2 ^ 63))=false:=by
  rw [decide_eq_false (fm.mpr (kg (by decide) (au k)))];exact decide_eq_false (zJ.mpr (cD.mpr (bD hx (by decide))))
 have Yv:(tN (k:Int) x.length).bind (x.cps[·]?)=x.cps[k]?:=by
  have UP:x.length=x.cps.size:=rfl
  unfold tN
  dsimp only
  rw [if_neg (by simp:¬(k:Int)<0)]
  by_cases hk:k<x.length
  ·rw [if_pos (by simp;exact T2 [.t .x .y] (.t .x .y) tA hk)]
   simp
  ·rw [if_neg (by simp;(exact bV (by assumption)))]
   have:x.cps[k]?=none:=eD (by rw [← UP];(exact bV (by assumption)))
   rw [this]
   rfl
 refine sa (i5 s x t) F.slot_str_getitem.lookup ?_ (vn _ _)
 cases hc:x.cps[k]? with
 | some c=>exact P.getItem_str hr (by rw [Yv,hc]) (pq (.str ⟨#[c]⟩) (S.toks _) (dA _ rfl) (zc c hc))
 | none =>
  refine getItem_meets (i5 s x t) (by decide) F.slot_str_getitem F.entry_str_getitem (F.args_str_getitem_2 _ _) (raises_str_getitem x k t t' hr (by rw [Yv,hc])) ⟨ok.hd,fun h' tk e hm=>?_⟩
  refine ao (S.newExc (tk:=tk) (hT hc) hm) fun S' R9=>?_;(refine cG R9 fun ta hX=>?_)
  exact (js I _ st (.refl I) S' hX (Vo hc _))
end
end
section
section
variable{prog:Program} {w:World} {K:Type} [DecidableEq K] {knd:KeyKind prog w K} {A:eh} {E:Value→Shared→Prop} {s:Shared} {a:Addr} {k:K} {key:Value} {S:K→Bool} {n:Nat}
noncomputable def oM(h:Heap)(a:Nat):Heap:=⟨h.objs.extract 0 (a+1),h.life⟩
theorem Dg(hb:b≤a):(oM h a).get? b=h.get? b:=by
 obtain ⟨objs,life⟩:=h
 delta oM YD
 have:(objs.extract 0 (a+1))[b]?=objs[b]?:=by
  rw [Array.getElem?_extract]
  by_cases hs:b<objs.size
  ·rw [if_pos (by exact T3 [.i (.a .y .o) .z,.u .x (.n 0),.l .z .w,.t .z .s] (.t .z .x) tA hb hs),eQ]
  ·rw [if_neg (by exact T3 [.i (.a .z .o) .y,.u .x (.n 0),.T .z .w] (.T .z .x) tA hs),eD (bV hs)]
 rw [this]
theorem A8:(oM h a).objs.size≤a+1:=by
 unfold oM
 rw [Array.size_extract]
 (exact Nat.min_le_left _ _)
theorem Js(e:(oM h a).get? b=some o):h.get? b=some o:=by
 by_cases hb:b≤a
 ·rw [← Dg hb];exact e
 ·exact absurd (bj (av e) A8) (ei.mpr (jW hb))
theorem Ee(hS:YE knd s.heap a S n)(hL:s.heap.Ns L m)(haL:a<L)(jG:knd.is k key=true)(qI:key.scannable=true)(hb:n<4096)
  (h:Q (.bool (S k)) { s with toks:=s.toks+1 }):aR (aS prog w) A (cI .In key (.ref a)) Q E s:=by
 refine j7 hS fun es ep t ho rest=>?_
 exact in_froz (h₀:=oM s.heap a) (L:=L) (m:=m) ⟨hL,fun b o e=>Js e,aJ A8 haL⟩ (Oy es ep t (by rw [Dg (bX _)];exact ho) rest) jG qI hb h
end
section
variable{C:Cx} {dep:Nat} {KF I:IM} {st:ak} {s:Shared} {X:XP}
noncomputable def dW(C:Cx)(a:Addr)(S:Str→Bool):Prop:=∃n,n<4096∧YE (strKind C.prog C.w) C.base a S n
theorem W2.Bo(ok:C.Ok dep)(hF:dW C a S)(h:Q (.bool (S x)) st):W2 C (cI .In) (.str x) (.raw (.ref a)) st Q X:=fun I v u r1 r2 KF s SS=>by
 refine cG r1 fun t G8=>?_;clear r1;obtain rfl:=G8
 subst r2
 refine az hF fun n hn R9=>?_;(refine j7 R9 fun es ep tb ho rest=>?_)
 obtain ⟨⟨m,hm,_⟩,_⟩:=SS.loc
 exact Ee (knd:=strKind C.prog C.w) (k:=x) (Oy es ep tb (SS.de _ _ (SS.base _ _ ho)) rest) hm (ok.above _ _ ho) (by simp [i6,d7]) rfl hn (pq (.bool (S x)) (SS.toks _) rfl h)
end
end
section
section
variable{C:Cx} {dep:Nat} {KF I:IM} {st:ak} {s:Shared} {X:XP} {Q:CV→ak→Prop}
theorem SR.tw(S:SR C KF I st s)(ok:C.Ok dep):C.K.In s.heap:=ok.K.keeps fun b o e=>S.de b o (S.base b o e)
noncomputable def Jt(kws:List Keyword):List Str:=kws.filterMap (·.arg)
theorem yJ{pos:Pos}{env:Env}:∀{kws:List Keyword},kws.all (·.arg.isSome)=true→(eU pos (cX kws env)).all (·.1.isSome)=true
 | [],_=>rfl
 | ⟨a,v,p⟩::kws,h=>by
  simp only [zj,ae]at h
  show (a.isSome&&(eU pos (cX kws env)).all (·.1.isSome))=true
  rw [yJ h.2,h.1];rfl
theorem kw_none{pos:Pos}{env:Env}:∀{kws:List Keyword},kws.all (·.arg.isSome)=true→(eU pos (cX kws env)).any (·.1.isNone)=false
 | [],_=>rfl
 | ⟨a,v,p⟩::kws,h=>by
  simp only [zj,ae]at h
  show (a.isNone||(eU pos (cX kws env)).any (·.1.isNone))=false
  rw [kw_none h.2]
  cases a <;> simp_all
theorem nY{pos:Pos}{env:Env}:∀{kws:List Keyword},(eU pos (cX kws env)).filterMap (·.1)=Jt kws
 | []=>rfl
 | ⟨a,v,p⟩::kws=>by
  show lC _ ((a,_)::eU pos (cX kws env))=Jt (⟨a,v,p⟩::kws)
  cases a <;> (dsimp only [Jt,cS,nY (kws:=kws),iF,iT,iG,iU,iH,iV,nT,nF,aT,aF,oT,oF];simp [Jt,cS,nY (kws:=kws)]) <;> exact nY
theorem ir{pos:Pos}{env:Env}:∀{es:List Expr},es.all noStar=true→(j5 pos (eA es env)).any (·.1)=false
 | [],_=>rfl
 | e::es,h=>by
  simp only [zj,ae]at h
  have ih:=ir (pos:=pos) (env:=env) h.2
  cases e <;> first | exact aD h.1 | exact ih
theorem uZ{pos:Pos}:∀{kws:List Keyword} {st:ak} {Q:List CV→ak→Prop},rV C (kws.map (·.value)) st Q X→∀I,WL C (evalAll ((eU pos (cX kws C.env)).map (·.2))) I st (fun J vs aj=>∃cs,ck J cs vs∧Q cs aj) X
 | [],st,Q,h,I=>WL.pure (aw ([]) (.nil) h)
 | ⟨a,v,p⟩::kws,st,Q,h,I=>by
  show WL C (do let v ← (do let v ← gK v C.env;standAt pos;pure v);return v::(← holding [v] (evalAll ((eU pos (cX kws C.env)).map (·.2))))) I st _ X
  refine WL.bind (WL.bind ((h I).mono (fun J u bJ _ Q7=>az Q7 fun c r q=>WL.bind (WL.standAt (WL.pure ?_))) fk))
  refine WL.bind (WL.holding ((uZ (kws:=kws) q J).mono (fun J2 vs cJ l Q8=>az Q8 fun cs rs q2=>?_) fk))
  exact WL.pure (aw (c::cs) (.cons (r.mono l) rs) q2)
theorem k6{f:Value}{pos:Pos}{es:List Expr}{kws:List Keyword}{Q:List CV→List CV→ak→Prop}(h:rV C es st (fun as bJ=>rV C (kws.map (·.value)) bJ (fun ks cJ=>Q as ks cJ) X) X)(hs:es.all noStar=true)(hk:kws.all (·.arg.isSome)=true)(I:IM):
  WL C (evalArgs f true (j5 pos (eA es C.env)) (eU pos (cX kws C.env))) I st (fun J a aj=>∃as ks vs,ck J as a.pos∧a.kw=(Jt kws).zip vs∧ck J ks vs∧Q as ks aj) X:=fun KF s S=>by
 cases es with
 | nil =>
  refine evalArgs_kw2_nil (yJ hk) (aM (uZ h I KF s S) (fun vs s' Q9=>dC Q9 fun J aj l S' hZ=>az hZ fun cs r q=>(dK J aj l S' (js ([]) cs vs (.nil) ?_ r q))) fun _ _ x=>x)
  rw [nY]
 | cons e es =>
  have he:=lF (es:=es) (env:=C.env) (hV hs e aH)
  refine evalArgs_kw2 (yJ hk) (aM (lr h (hV hs) I KF s S) (fun vs s' W0=>dC W0 fun J aj l S' hZ=>az hZ fun cs r q=>?_) fun _ _ x=>x) he
  refine aM (uZ q J KF s' S') (fun us s2 W5=>dC W5 fun J2 cJ l2 S2 hZ=>az hZ fun ks r2 q2=>(dK J2 cJ (l.trans l2) S2 (js cs ks us (ck.mono l2 _ _ r) ?_ r2 q2))) fun e s2 W6=>jr W6 fun J2 x cJ l2 S2 r2 q2=>(js J2 x cJ (l.trans l2) S2 r2 q2)
  rw [nY]
noncomputable def bu(C:Cx)(f:Value):Prop:=∀h,C.K.In h→∃k,(k=Mq∨k=JN∨k=GB)∧pR (aS C.prog C.w) h (YF f) k
theorem bu.ref(h:YG C.K f=true):bu C f:=fun hp X=>keeps_K h hp X
theorem bu.builtin{id:String}:bu C (.builtin id):=fun hp X=>(aw (.machine) (.inr (.inl rfl)) (fH rfl))
theorem bu.type{id:String}:bu C (.type id):=fun hp X=>(aw (.machine) (.inr (.inl rfl)) (fH rfl))
theorem qM{f:Value}{pos:Pos}{fst:List CV}{fv:List Value}{es:List Expr}{kws:List Keyword}(ok:C.Ok dep)(hf:bu C f)(rf:ck I fst fv)
  (h:rV C es st (fun as bJ=>rV C (kws.map (·.value)) bJ (fun ks cJ=>aW C f (fst++as) (Jt kws) ks cJ Q X) X) X) (hs:es.all noStar=true) (hk:kws.all (·.arg.isSome)=true) :
  WL C (sb pos f fv (j5 pos (eA es C.env)) (eU pos (cX kws C.env))) I st (VQ Q) X:=fun KF s S=>by
 refine nA (P:=fun h=>C.K.In h) (by rw [ir hs,kw_none hk];rfl) hf (aM (k6 (f:=f) (pos:=pos) h hs hk I KF s S) (fun a s' W7=>dC W7 fun J aj l S' hZ=>jr hZ fun as ks vs r1 e r2 q=>⟨S'.tw ok,?_⟩) fun _ _ x=>x)
 rw [e]
 refine aM (q J _ _ ((ck.mono l _ _ rf).append r1) r2 KF s' S') (fun v s2 W8=>dC W8 fun J2 cJ l2 S2 hZ=>az hZ fun b r q2=>(dK J2 cJ (l.trans l2) S2 (aw b r q2))) fun e s2 W9=>jr W9 fun J2 x cJ l2 S2 r2 q2=>(js J2 x cJ (l.trans l2) S2 r2 q2)
theorem WE.call(ok:C.Ok dep)
  (h:WE C (.Name x px) st (fun f bJ=>∃fv,f=.raw fv∧bu C fv∧rV C es bJ (fun as cJ=>rV C (kws.map (·.value)) cJ (fun ks i8=>aW C fv as (Jt kws) ks i8 Q X) X) X) X)
  (hs:es.all noStar=true:=by rfl) (hk:kws.all (·.arg.isSome)=true:=by rfl):WE C (.Call (.Name x px) es kws pos) st Q X:=fun I=>by
 show WL C (do sb pos (← gK (.Name x px) C.env) [] (j5 pos (eA es C.env)) (eU pos (cX kws C.env))) I st _ X
 refine WL.bind ((h I).mono (fun J f bJ _ R0=>az R0 fun c r hZ=>eZ hZ fun fv e hf q=>?_) fk)
 subst e
 subst r
 exact qM ok hf .nil q hs hk
noncomputable def eX(C:Cx)(a:CV)(name:Str)(f:Value)(st:ak):Prop :=
 ∀(I:IM) (v:Value) (KF:IM) (s:Shared) (pl:xq Bool) (E:Value→Shared→Prop) (Q:Value×List Value→Shared→Prop),VR I a v→SR C KF I st s→(∀tk,Q (f,[v]) { s with toks:=tk })→aR (aS C.prog C.w) C.A (Tp v name pl) Q E s
theorem WE.lH{o:Expr}{name:Str}{apos pos:Pos}{es:List Expr}{kws:List Keyword}(ok:C.Ok dep)
  (h:WE C o st (fun a bJ=>∃f,bu C f∧eX C a name f bJ∧rV C es bJ (fun as cJ=>rV C (kws.map (·.value)) cJ (fun ks i8=>aW C f (a::as) (Jt kws) ks i8 Q X) X) X) X)
  (hs:es.all noStar=true:=by rfl) (hk:kws.all (·.arg.isSome)=true:=by rfl) (hb:attributeBase o name C.env (gK o C.env)=gK o C.env:=by rfl)
  (hfew:YH (es.length+kws.length) (j5 pos (eA es C.env)) (eU pos (cX kws C.env))=true:=by rfl) (hline:(apos.endLine == pos.line)=true:=by rfl) :
  WE C (.Call (.Attribute o name apos) es kws pos) st Q X:=fun I=>by
 rw [arm_eval_Call,hb]
 refine WL.bind ((h I).mono (fun J v bJ _ R1=>az R1 fun a r hZ=>eZ hZ fun f hf hm q=>?_) fk)
 refine WL.bind (WL.standAt ?_)
 unfold methodCall
 rw [hfew]
 have nV:uD true o C.env apos pos=pure pos:=by unfold uD;(dsimp only [iF,iT,iG,iU,iH,iV,nT,nF,aT,aF,oT,oF];simp [hline])
 rw [nV]
 refine WL.bind (WL.holding fun KF s S=>?_)
 refine hm J v KF s _ _ _ r S fun tk=>(dK J bJ (.refl J) (S.toks tk) ?_)
 refine WL.bind (WL.pure ?_)
 exact qM (fst:=[a]) ok hf (.cons r .nil) q hs hk
noncomputable def g9(C:Cx)(a:CV)(name:Str)(st:ak)(Q:CV→ak→Prop)(X:XP):Prop:=W1 C (fun v=>PY v name true) a st Q X
theorem WE.attr{x:Str}{px pos:Pos}{name:Str}(h:WE C (.Name x px) st (fun a bJ=>g9 C a name bJ Q X) X):WE C (.Attribute (.Name x px) name pos) st Q X:=fun I=>by
 simp only [Ob]
 refine WL.bind ((h I).mono (fun J v bJ _ R2=>az R2 fun a r q=>?_) fk)
 refine WL.bind (WL.standAt (WL.bind (WL.holding ((q J v r).mono (fun J2 u cJ l2 R3=>az R3 fun b r2 q2=>?_) fk))))
 exact WL.bind (WL.pure (WL.pure (aw b r2 q2)))
end
end
section
theorem rz(x y:Str)(t:qC):Value.isStr (.str y t) x=decide (y=x):=by
 show (y == x)=_
 by_cases h:y=x <;> rfl
theorem ua(w:World)(x:Str):fO w.params x=jX w x:=rfl
theorem jd.xM{w:World}{I:IM}{name:Str}{c:CV}:∀{es:List (Str×CV)} {ds:List ew},jd w I es ds→es.lookup name=some c→∃v,getL name ds=some (some v)∧VR I c v
 | [],ds,r,h=>by contradiction
 | (k,u)::es,ds,r,h=>by
  simp only [jd]at r
  refine gP r fun d lj G7 R9=>?_;try clear r;obtain rfl:=G7;obtain ⟨h1,⟨t,h2⟩,h3,h4⟩:=R9
  unfold getL
  simp only [vt,h2,rz]
  simp only [bQ]at h
  by_cases q:k=name
  ·subst q;simp at h;subst h;simpa using h3
  ·have q':(name == k)=false:=by simpa using aN q
   rw [q']at h
   refine az (jd.xM h4 h) fun v e1 e2=>?_
   refine (aw v ?_ e2)
   unfold getL at e1
   simp only [decide_eq_false q]
   revert e1
   cases hf:List.find? (fun x=>x.key.isStr name) lj with
   | some e=>exact id
   | none =>
    dsimp only
    intro e1
    split at e1 <;> cases e1
theorem jd.noRef{w:World}{I:IM}:∀{es:List (Str×CV)} {ds:List ew},jd w I es ds→ds.any (·.refKey)=false
 | [],ds,r=>by simp only [jd]at r;subst r;rfl
 | (k,u)::es,ds,r=>by
  simp only [jd]at r
  refine gP r fun d lj G7 R9=>?_;try clear r;obtain rfl:=G7;obtain ⟨h1,⟨t,h2⟩,h3,h4⟩:=R9
  simp only [iA,jd.noRef h4,zk]
  show DF d=false
  unfold DF
  rw [h2]
theorem jd.M7{w:World}{I:IM}{name:Str}:∀{es:List (Str×CV)} {ds:List ew},jd w I es ds→es.lookup name=none→ds.any (·.key.isStr name)=false
 | [],ds,r,_=>by simp only [jd]at r;subst r;rfl
 | (k,u)::es,ds,r,h=>by
  simp only [jd]at r
  refine gP r fun d lj G7 R9=>?_;try clear r;obtain rfl:=G7;obtain ⟨h1,⟨t,h2⟩,h3,h4⟩:=R9
  simp only [bQ]at h
  by_cases q:k=name
  ·subst q;simp at h
  ·have q':(name == k)=false:=by simpa using aN q
   rw [q']at h
   simp only [iA,jd.M7 h4 h,h2,rz,decide_eq_false q];rfl
theorem jd.Ef{w:World}{I:IM}{name:Str}{es:List (Str×CV)}{ds:List ew}(r:jd w I es ds)(h:es.lookup name=none):getL name ds=some none:=by
 unfold getL
 have h1:=r.M7 h
 have:ds.find? (fun x=>x.key.isStr name)=none:=by
  rw [GU]
  intro d hd
  have:=List.any_eq_false.mp h1 d hd
  simpa using this
 rw [this]
 dsimp only
 rw [r.noRef,if_neg (by decide)]
noncomputable def fF:List (Str×CV)→Str→CV→List (Str×CV)
 | [],k,c=>[(k,c)]
 | (k',v)::es,k,c=>if k'=k then (k',c)::es else (k',v)::fF es k c
theorem jd.put{w:World}{I:IM}{name:Str}{c:CV}{v:Value}{t:qC}(rv:VR I c v):∀{es:List (Str×CV)} {ds:List ew},jd w I es ds→jd w I (fF es name c) (putL name (jX w name) (.str name t) v ds)
 | [],ds,r=>by simp only [jd]at r;subst r;dsimp only [fF,putL,jd];exact (Jc _ ([]) rfl rfl (dA t rfl) rv rfl)
 | (k,u)::es,ds,r=>by
  simp only [jd]at r
  refine gP r fun d lj G7 R9=>?_;try clear r;obtain rfl:=G7;obtain ⟨h1,⟨t',h2⟩,h3,h4⟩:=R9
  simp only [fF,putL]
  rw [h2,rz]
  by_cases q:k=name
  ·rw [if_pos q,if_pos (by simpa using q)]
   simp only [jd]
   exact (Jc _ _ rfl h1 (dA t' rfl) rv h4)
  ·rw [if_neg q,if_neg (by simpa using q)]
   simp only [jd]
   exact (Jc _ _ rfl h1 (dA t' h2) h3 (jd.put rv h4))
theorem VR.handed(r:VR I c v)(h:∀u,c≠.raw u):handedIn v=true:=by
 cases c <;> skip <;> first | (subst r;rfl) | ((refine cG r fun _ G8=>?_;try clear r;obtain rfl:=G8);rfl) | ((refine j7 r fun _ _ _ G5 _=>?_;try clear r;obtain rfl:=G5);rfl) | ((refine gP r fun _ _ G7 _=>?_;try clear r;obtain rfl:=G7);rfl) | ((refine Jd r fun _ _ _ _ G4 _=>?_;try clear r;obtain rfl:=G4);rfl) | (obtain ⟨_,_,_,_,_,rfl,_⟩:=r;rfl) | ((refine UL r fun _ _ _ _ _ _ G2 _=>?_;try clear r;obtain rfl:=G2);rfl) | (exact absurd rfl (h _)) | skip
structure sy(K:vb)(cl:Addr):Prop where
 get:plainGet K cl "" = true
 dict:hasDictIn K cl=true
 over:plainOver K cl=true
 set:gn K (.ref cl) "__setattr__" = some (some (.builtin "object.__setattr__"))
 makes:makesIn K cl=true
section
variable{C:Cx} {dep:Nat} {KF I:IM} {st:ak} {s:Shared} {X:XP} {Q:CV→ak→Prop}
theorem yK(S:SR C KF I st s)(hx:st.H x=some (.inst cl d))(hd:st.H d=some (.dict es)):
  ∃ds n,InstAt s.heap x (PU cl d) cl (some (Im ds n))∧jd C.w I es ds∧s.heap.get? d=some (Im ds n):=by
 refine dO (S.mu x _ hx) fun _ _ R9=>?_;(refine az R9 fun ox h1 h2=>?_;try clear R9)
 refine dO (S.mu d _ hd) fun _ _ R9=>?_;obtain ⟨od,h3,n,ds,h4,h5⟩:=R9
 subst h4
 simp only [OR]at h2
 subst h2
 refine (dK ds.toList n ⟨h1,rfl,rfl,?_⟩ h5 ?_)
 ·show s.heap.get? d=some _;rw [h3]
 ·rw [h3]
theorem g9.inst{x d cl:Addr}{es:List (Str×CV)}{name:Str}{c:CV}{attr:Option Value}(ok:C.Ok dep)(hc:sy C.K cl)(hx:st.H x=some (.inst cl d))(hd:st.H d=some (.dict es))(hl:es.lookup name=some c)
  (ha:gn C.K (.ref cl) name=some attr) (hn:LM C.K attr=true) (hr:∀u,c≠.raw u) (h:Q c st):g9 C (.loc x) name st Q X:=fun I v r KF s S=>by
 skip;subst r
 refine dC (yK S hx hd) fun ds n hi he _=>?_
 refine az (he.xM hl) fun v hv rv=>?_
 exact get_value (S.tw ok) hi (LQ hc.get).1 (findObj_own hc.dict ha hn (by simp only [lookIn_dict];exact hv)) (rv.handed hr) (pq c (S.toks _) rv h)
theorem eX.inst(ok:C.Ok dep)(hc:sy C.K cl)(hx:st.H x=some (.inst cl d))(hd:st.H d=some (.dict es))(hl:es.lookup name=none)
  (hf:gn C.K (.ref cl) name=some (some (.ref f))) (ht:Oc C.K (.ref f)=some (.type "function")):eX C (.loc x) name (.ref f) st:=fun I v KF s pl E Q r S q=>by
 skip;subst r
 refine dC (yK S hx hd) fun ds n hi he _=>?_
 refine method_fn (S.tw ok) hi (LQ hc.get).1 (LQ hc.get).2 hf ht (by show (lookIn name (Im ds n)).map _=_;simp only [lookIn_dict,he.Ef hl];rfl) ?_
 have:=q s.toks;exact this
theorem Eg{x d cl:Addr}{es:List (Str×CV)}{name:Str}{c:CV}{v:Value}{Q:ak→Prop}(ok:C.Ok dep)(hc:sy C.K cl)(hx:st.H x=some (.inst cl d))(hd:st.H d=some (.dict es))(ht:Io C.K cl name=some none)(hz:es.length≤900)
  (r:VR I c v) (h:Q { st with H:=aV st.H d (.dict (fF es name c)) }):WL C (setAttr (.ref x) name v) I st (fun _ _ aj=>Q aj) X:=fun KF s S=>by
 refine dC (yK S hx hd) fun ds n hi he hD=>?_
 refine set_plain (S.tw ok) hi hc.set ?_
 refine osa_open (s:={ s with toks:=s.toks+1 }) (S.tw ok) hi hc.over ht fun b=>?_
 refine az (any_some hc.dict) fun cd NP yL=>?_
 obtain ⟨hxo,_,_,-⟩:=hi
 have X0:=S.tw ok
 refine aA (aC (aA (aA (DG hxo (aA (pR.here (s:={ s with toks:=s.toks+1 }) (LU X0 NP) ?_))))))
 rw [yL]
 refine aC (a:=some d) (aA (aC (aA ?_)))
 unfold nsSet
 refine aA (aA (iC (aC (aA (wh (aA (DG hD ?_)))))))
 have UQ:(ds.toArray.any (·.refKey))=false:=by have:=he.noRef;simpa using this
 have cnd:(!ds.toArray.any (·.key.isStr name)&&ds.toArray.any (·.refKey))=false:=by rw [UQ,lD]
 dsimp only
 rw [aRefKeyMayBeTheName_at,cnd]
 have e1:GC name (fO C.w.params name) (.str name (s.toks+1)) v (Im ds n)=Im (putL name (fO C.w.params name) (.str name (s.toks+1)) v ds) (putN name ds n):=putName_dict _ _ _ _ _ _
 refine wpAny_updatePart hD ?_
 have D':(s.heap.update d (GC name (fO C.w.params name) (.str name (s.toks+1)) v)).get? d=some (Im (putL name (fO C.w.params name) (.str name (s.toks+1)) v ds) (putN name ds n)):=by
  have:=cC (GC name (fO C.w.params name) (.str name (s.toks+1)) v) hD (by rw [e1];rfl)
  rw [e1]at this;exact this
 have Vp:=he.put (name:=name) (t:=s.toks+1) r
 have hlen:(putL name (fO C.w.params name) (.str name (s.toks+1)) v ds).length≤1000:=by
  have h1:=Vp.length
  have h2:∀es:List (Str×CV),(fF es name c).length≤es.length+1:=by
   intro es
   induction es with
   | nil=>(dsimp [fF,iF,iT,iG,iU,iH,iV,nT,nF,aT,aF,oT,oF];simp [fF])
   | cons e es ih=>obtain ⟨k,u⟩:=e;unfold fF;split <;> simp;exact T2 [.l .x (.a .y .o)] (.l .x (.a .y .o)) tA ih
  have h3:=h2 es
  simp only [ua];exact T3 [.l .x (.n 900),.e .y .z,.l .y (.a .x .o)] (.l .z (.n 1000)) tA hz h1 h3
 refine aA (wpAny_lookBehind D' (pastItsLine_dict (by rw [tO,aa];(exact aJ (by assumption) (by decide)))) ?_)
 refine aC ?_
 refine (dK I _ (.refl I) (S.Gj (tk:=s.toks+2) (c:=.dict (fF es name c)) hd (fun b o hb e=>((mw s.heap d _).2 b hb).trans e) D' (jq _ _ rfl ?_)) h)
 simp only [← ua]at Vp
 simpa using Vp
theorem WA.attr{y:Str}{py pos:Pos}{name:Str}{c:CV}{Q:ak→Prop}(ok:C.Ok dep)
  (h:WE C (.Name y py) st (fun a bJ=>∃x d cl es,a=.loc x∧sy C.K cl∧bJ.H x=some (.inst cl d)∧bJ.H d=some (.dict es)∧Io C.K cl name=some none∧es.length≤900∧Q { bJ with H:=aV bJ.H d (.dict (fF es name c)) }) X) :
  WA C (gL (.Attribute (.Name y py) name pos) C.env) c st Q X:=fun I v r=>by
 show WL C (do
  let ov ← holding [v] (gK (.Name y py) C.env)
  standAt pos.atName
  holding [v,ov] (setAttr ov name v)
  release [v,ov] []) I st _ X
 refine WL.bind (WL.holding ((h I).mono (fun J u bJ l R3=>az R3 fun a ra hZ=>UK hZ fun x d cl es e hc hx hd ht hz q=>?_) fk))
 subst e
 skip;clear R3;subst ra
 refine WL.bind (WL.standAt (WL.bind (WL.holding ((Eg ok hc hx hd ht hz (r.mono l) q).mono (fun J2 _ cJ l2 q2=>?_) fk))))
 exact fun KF s S=>wpAny_release (dK J2 cJ (.refl _) S q2)
end
end
section
section
variable{C:Cx} {dep:Nat} {KF I:IM} {st:ak} {s:Shared} {X:XP} {Q:CV→ak→Prop}
noncomputable def Cx.at(C:Cx)(A:eh):Cx:={ C with A:=A }
theorem SR.at_(hf:A.frames=C.A.frames)(S:SR C KF I st s):SR (C.at A) KF I st s:=by
 refine ⟨S.kle,S.low,S.same,S.base,S.de,fun a o e=>?_,S.own,S.mu,⟨S.loc.ns,S.loc.cell,S.loc.free,S.loc.cells⟩⟩
 refine ao (S.mQ a o e) fun h1 R9=>?_;(refine az R9 fun sl h2 h3=>?_)
 refine (lb h1 (aw sl h2 (fun hn=>h3 fun R2=>gP R2 fun l e' q1 q2=>hn (jq l e' ?_ q2))))
 show A.frames=some l
 rw [hf,q1]
theorem SR.back(hf:A.frames=C.A.frames)(S:SR (C.at A) KF I st s):SR C KF I st s:=by
 refine ⟨S.kle,S.low,S.same,S.base,S.de,fun a o e=>?_,S.own,S.mu,⟨S.loc.ns,S.loc.cell,S.loc.free,S.loc.cells⟩⟩
 refine ao (S.mQ a o e) fun h1 R9=>?_;(refine az R9 fun sl h2 h3=>?_)
 refine (lb h1 (aw sl h2 (fun hn=>h3 fun R3=>gP R3 fun l e' q1 q2=>hn (jq l e' ?_ q2))))
 have:A.frames=some l:=q1
 rw [← hf,this]
theorem Cx.Ok.at_{A:eh}(ok:C.Ok (dep+1))(hf:A.frames=C.A.frames)(hh:A.handled=C.A.handled)(hd:A.depth≤C.A.depth+1)(hu:A.units≤C.A.units+5)(P6:A.guards=C.A.guards):(C.at A).Ok dep:=by
 refine ⟨⟨ok.kY,ok.gl,ok.bl,ok.K,ok.g,ok.b,ok.nolimit,ok.boot,?_,?_,ok.yA,ok.qH,ok.Lu,?_,ok.Q4,ok.above,P6.trans ok.guards,ok.Q5⟩,hh.trans ok.hd⟩
 ·have:=ok.units;show A.units+_+_<_;exact T4 [.l .x (.a .y (.n 5)),.t (.a (.a .y (.m 10 (.a .z .o))) (.n 200)) .w] (.t (.a (.a .x (.m 10 .z)) (.n 200)) .w) tA hu this
 ·have:=ok.depth;show A.depth+_+_<_;exact T4 [.l .x (.a .y .o),.t (.a (.a .y (.m 3 (.a .z .o))) (.n 20)) .w] (.t (.a (.a .x (.m 3 .z)) (.n 20)) .w) tA hd this
 ·refine gP ok.frames fun e0 l g1 g2=>?_
  exact (jq e0 l (hf.trans g1) g2)
noncomputable def M8(C:Cx)(f:Value)(args:List CV)(kn:List Str)(ks:List CV)(st:ak)(Q:CV→ak→Prop)(X:XP):Prop :=
 ∀I us vs,ck I args us→ck I ks vs→∀KF s,SR C KF I st s→gq (aS C.prog C.w) C.A (.call f ⟨us,kn.zip vs⟩) (fun r s'=>match r with
   | .ok (.ret v)=>PQ C KF I (VQ Q) v s'
   | .ok _=>False
   | .error e=>eV C KF I X e s') s
theorem M9(ok:C.Ok (dep+1))(hc:sy C.K cl)(hi:gn C.K (.ref cl) "__init__" = some (some (.ref fI)))(hf:Oc C.K (.ref fI)=some (.type "function"))
  (h:∀(A:eh) (x d:Addr),(C.at A).Ok dep→x≠d→st.H x=none→st.H d=none→M8 (C.at A) (.ref fI) (.loc x::args) kn ks { st with H:=aV (aV st.H d (.dict [])) x (.inst cl d) } (fun v aj=>v=.none∧Q (.loc x) aj) X) :
  aW C (.ref cl) args kn ks st Q X:=fun I us vs r1 r2 KF s S=>by
 have X0:=S.tw ok
 obtain ⟨hp,g,dr,tk,os⟩:=s
 refine eO (make_core (makes_of X0 hc.makes) (jZ X0 hi) (fun self=>bind_fn X0 self hf) (.inl rfl) ?_)
 have hA:((C.A.under (.builtin "type.__call__" ⟨.ref cl::us,kn.zip vs⟩)).frames=C.A.frames):=by
  show pushEnvs [] C.A.frames=_
  cases C.A.frames <;> rfl
 have wF:(C.at (C.A.under (.builtin "type.__call__" ⟨.ref cl::us,kn.zip vs⟩))).Ok dep:=ok.at_ hA rfl (by show C.A.depth+1≤_;(exact bx _)) (by show C.A.units+1≤_;simp) rfl
 refine ao (S.Ec (o:=zR) (c:=.dict []) rfl (jq 0 (#[]) rfl rfl)) fun n1 S1=>?_
 refine ao (S1.Ec (o:=PU cl hp.objs.size) (c:=.inst cl hp.objs.size) rfl rfl) fun n2 S2=>?_
 have hsz:(hp.push zR).objs.size=hp.objs.size+1:=Mr _ _
 have cx:hp.objs.size+1≠hp.objs.size:=by simp
 change (aV st.H hp.objs.size (CO.dict [])) (hp.push zR).objs.size=none at n2
 rw [hsz]at n2
 have n2':st.H (hp.objs.size+1)=none:=by rwa [j8 cx]at n2
 have S3:SR C KF I { st with H:=aV (aV st.H hp.objs.size (.dict [])) (hp.objs.size+1) (.inst cl hp.objs.size) } ⟨(hp.push zR).push (PU cl hp.objs.size),g,dr,tk,os⟩:=by
  have:=S2
  change SR C KF I { st with H:=aV (aV st.H hp.objs.size (.dict [])) (hp.push zR).objs.size (.inst cl hp.objs.size) } _ at this
  rw [hsz]at this
  exact this
 have:=h _ (hp.objs.size+1) hp.objs.size wF cx n2' n1 I (.ref (hp.objs.size+1)::us) vs (.cons rfl r1) r2 KF _ (S3.at_ hA)
 refine dX this fun r s' hr=>?_
 cases r with
 | error e=>(refine jr hr fun I' x aj l S' hx q=>?_);exact (js I' x aj l (S'.back hA) hx q)
 | ok f =>
  cases f with
  | ret v =>
   refine dC hr fun I' aj l S' R9=>?_;(refine eZ R9 fun b rb G7 q=>?_;obtain rfl:=G7)
   exact (lb rb (dK I' aj l (S'.back hA) ⟨.loc _,rfl,q⟩))
  | _=>exact hr
end
end
section
theorem zip_nil_left{α β:Type}(l:List β):(([]:List α).zip l)=[]:=by cases l <;> rfl
theorem ub(k x:Str)(t:qC):d7 x (.str k t)=decide (k=x):=by
 show (k == x)=_
 by_cases h:k=x <;> rfl
theorem rA{prog:Program}{w:World}{I:IM}:∀{es:List (Str×CV)} {ds:List ew},jd w I es ds→KeysOf (strKind prog w) ds.toArray∧∃fg,Pairs (strKind prog w) ds fg∧fg.map (·.1)=es.map (·.1)∧ck I (es.map (·.2)) (fg.map (·.2))
 | [],ds,r=>by simp only [jd]at r;subst r;exact (lb (fun e he=>by simp at he) ⟨[],.nil,rfl,.nil⟩)
 | (k,c)::es,ds,r=>by
  simp only [jd]at r
  refine gP r fun d lj G7 R9=>?_;try clear r;obtain rfl:=G7;obtain ⟨h1,⟨t,h2⟩,h3,h4⟩:=R9
  refine ao (rA (prog:=prog) h4) fun i1 R9=>?_;obtain ⟨fg,i2,i3,i4⟩:=R9
  refine (lb (fun e he=>?_) (cB ((k,d.val)::fg) (.cons (by show d7 k d.key=true;rw [h2,ub];simp) rfl i2) (by simp [i3]) (.cons h3 i4)))
  have A3:e=d∨e∈lj:=by simpa using he
  rcases A3 with rfl | he
  ·exact (aw k (by show d7 k e.key=true;rw [h2,ub];simp) h1)
  ·exact i1 e (by simpa using he)
theorem Gz{prog:Program}{w:World}{I:IM}:∀{es:List (Str×CV)} {ds:List ew} {fg:List (Str×Value)},KeysOf (strKind prog w) ds.toArray→Pairs (strKind prog w) ds fg→fg.map (·.1)=es.map (·.1)→ck I (es.map (·.2)) (fg.map (·.2))→jd w I es ds
 | [],ds,fg,hk,p,e,r=>by
  have:fg=[]:=by simpa using e
  clear e r;subst this
  clear hk;cases p
  dsimp [jd]
 | (k,c)::es,ds,fg,hk,p,e,r=>by
  cases p with
  | nil=>simp at e
  | @cons d kv lj kvs' p1 p2 p3 =>
   obtain ⟨k',v⟩:=kv
   simp only [aK,mO]at e
   refine ao e fun e1 e2=>?_;try clear e
   refine dC (ck.cO r) fun y ys e3 r1 r2=>?_
   cases e3
   simp only at e1 p1 p2
   clear r;subst e1
   refine az (hk d (by simp)) fun k2 q1 q2=>?_
   refine cG (qZ (show d7 k' d.key=true from p1)) fun t ht=>?_
   have:k'=k2:=Value.isStrOf_inj d.key _ _ p1 q1
   clear q1;subst this
   simp only [jd]
   refine (Jc d lj rfl q2 (dA t ht) (by rw [p2];exact r1) (Gz (fun e he=>hk e (by simp at he ⊢;exact .inr he)) p3 e2 r2))
section
variable{C:Cx} {dep:Nat} {KF I:IM} {st:ak} {s:Shared} {X:XP} {Q:CV→ak→Prop}
theorem mU{d:Addr}{es:List (Str×CV)}(S:SR C KF I st s)(hH:st.H d=some (.dict es))(hnd:(es.map (·.1)).Nodup):
  ∃fg,s.heap.DictOf (strKind C.prog C.w) d fg∧fg.map (·.1)=es.map (·.1)∧ck I (es.map (·.2)) (fg.map (·.2)):=by
 refine dO (S.mu d _ hH) fun _ _ R9=>?_;obtain ⟨o,ho,n,ds,rfl,he⟩:=R9
 refine ao (rA (prog:=C.prog) he) fun h1 R9=>?_;obtain ⟨fg,h2,h3,h4⟩:=R9
 exact (cB fg (DW _ ds n ho (d9 rfl rfl rfl) rfl (by simpa using h1) h2 (by rw [h3];exact hnd)) h3 h4)
theorem xN{d:Addr}{es:List (Str×CV)}{fg:List (Str×Value)}{h:Heap}(hm:h.DictOf (strKind C.prog C.w) d fg)(e:fg.map (·.1)=es.map (·.1))(r:ck I (es.map (·.2)) (fg.map (·.2))):
  ∃o,h.get? d=some o∧OR C.prog C.w I (.dict es) o:=by
 refine Oz hm fun o ds n ho G4 R9=>?_;try clear hm;(refine dO G4 fun h1 h2 h3=>?_;try clear G4);(refine ip R9 fun h4 h5 h6 _=>?_;try clear R9)
 refine (aw o ho (jq n ds ?_ (Gz (prog:=C.prog) (by simpa using h5) h6 e r)))
 obtain ⟨a,b,c,f⟩:=o
 simp only at h1 h2 h3 h4
 clear ho;subst h1 h2 h3 h4
 rfl
theorem lz{I:IM}{k:Str}:∀{es:List (Str×CV)} {fg:List (Str×Value)},fg.map (·.1)=es.map (·.1)→ck I (es.map (·.2)) (fg.map (·.2))→match es.lookup k with | some c=>∃v,tP fg k=some v∧VR I c v | none=>tP fg k=none
 | [],fg,e,r=>by
  have:fg=[]:=by simpa using e
  clear e r;subst this;rfl
 | (k',c)::es,[],e,r=>by simp at e
 | (k',c)::es,(k2,v)::fg,e,r=>by
  simp only [aK,mO]at e
  refine ao e fun G9 e2=>?_;try clear e;obtain rfl:=G9
  refine dC (ck.cO r) fun y ys e3 r1 r2=>?_
  cases e3
  simp only [bQ]
  by_cases q:k2=k
  ·subst q;simp [tP];exact r1
  ·have q':(k == k2)=false:=by simpa using aN q
   rw [q']
   have ih:=lz (k:=k) e2 r2
   have:tP ((k2,v)::fg) k=tP fg k:=by (dsimp only [tP,vt,q,iF,iT,iG,iU,iH,iV,nT,nF,aT,aF,oT,oF];simp [tP,vt,q])
   rw [this]
   exact ih
theorem sA{I:IM}{k:Str}{c:CV}{v:Value}(rv:VR I c v):∀{es:List (Str×CV)} {fg:List (Str×Value)},(es.map (·.1)).Nodup→fg.map (·.1)=es.map (·.1)→ck I (es.map (·.2)) (fg.map (·.2))→(DH fg k v).map (·.1)=(fF es k c).map (·.1)∧ck I ((fF es k c).map (·.2)) ((DH fg k v).map (·.2))
 | [],fg,_,e,r=>by
  have:fg=[]:=by simpa using e
  clear e r;subst this;exact ⟨rfl,.cons rv .nil⟩
 | (k',c')::es,[],_,e,r=>by simp at e
 | (k',c')::es,(k2,v')::fg,hnd,e,r=>by
  simp only [aK,mO]at e
  refine ao e fun G9 e2=>?_;try clear e;obtain rfl:=G9
  refine dC (ck.cO r) fun y ys e3 r1 r2=>?_
  cases e3
  rw [aK,dy]at hnd
  by_cases q:k2=k
  ·subst q
   have yM:∀kv∈fg,kv.1≠k2:=fun kv Vq q=>hnd.1 (by simp only;simp only [← e2,← q];exact gy Vq)
   have Vr:fg.map (fun kv=>if kv.1=k2 then (kv.1,v)else kv)=fg:=by
    conv=>rhs;rw [← List.map_id fg]
    apply cT
    intro kv Vq
    rw [if_neg (yM kv Vq)];rfl
   have:DH ((k2,v')::fg) k2 v=(k2,v)::fg:=by
    simp only [DH,iA,decide_true,Bool.true_or,if_true,aK,Vr]
   rw [this]
   simp only [fF,if_true,aK]
   exact ⟨by rw [e2],.cons rv r2⟩
  ·obtain ⟨i1,i2⟩:=sA rv hnd.2 e2 r2
   have:DH ((k2,v')::fg) k v=(k2,v')::DH fg k v:=by
    unfold DH
    simp only [iA,decide_eq_false q,Bool.false_or,aK,if_neg q]
    split <;> rfl
   rw [this]
   simp only [fF,if_neg q,aK]
   exact ⟨by rw [i1],.cons r1 i2⟩
theorem yN(S:SR C KF I st s)(hH:st.H d=some c):(d == fX)=false:=by
 have:=(S.low.2 d c hH).1
 simpa using cW this
theorem mV(C:Cx)(k:Str)(t:qC):(strKind C.prog C.w).is k (.str k t)=true:=by show d7 k (.str k t)=true;rw [ub];simp
theorem jH{fg:List (Str×Value)}{d:Addr}{h:Heap}(hm:h.DictOf (strKind C.prog C.w) d fg):h.MapOf (strKind C.prog C.w) d (tP fg):=hm.mapOf
theorem W2.inDict{d:Addr}{es:List (Str×CV)}{k:Str}(hH:st.H d=some (.dict es))(hnd:(es.map (·.1)).Nodup)(h:Q (.bool (es.lookup k).isSome) st):W2 C (cI .In) (.str k) (.loc d) st Q X:=fun I v u r1 r2 KF s S=>by
 skip;subst r2
 refine cG r1 fun t G8=>?_;try clear r1;obtain rfl:=G8
 refine eZ (mU S hH hnd) fun fg hm e r=>?_
 refine wpAny_in_of (mV C k t) (yN S hH) (jH hm) ?_
 have hv:=lz (k:=k) e r
 refine (pq (.bool (es.lookup k).isSome) (S.toks _) ?_ h)
 revert hv
 cases es.lookup k with
 | none=>intro hv;rw [hv];rfl
 | some c=>rintro ⟨v,hv,_⟩;rw [hv];rfl
theorem W2.oN{d:Addr}{es:List (Str×CV)}{k:Str}(hH:st.H d=some (.dict es))(hnd:(es.map (·.1)).Nodup)(h:Q (.bool (!(es.lookup k).isSome)) st):W2 C (cI .NotIn) (.str k) (.loc d) st Q X:=fun I v u r1 r2 KF s S=>by
 skip;subst r2
 refine cG r1 fun t G8=>?_;try clear r1;obtain rfl:=G8
 refine eZ (mU S hH hnd) fun fg hm e r=>?_
 refine wpAny_notIn_of (mV C k t) (yN S hH) (jH hm) ?_
 have hv:=lz (k:=k) e r
 refine (pq (CV.bool (!(es.lookup k).isSome)) (S.toks _) ?_ h)
 revert hv
 cases es.lookup k with
 | none=>intro hv;rw [hv];rfl
 | some c=>rintro ⟨v,hv,_⟩;rw [hv];rfl
theorem W2.m5{value slice:Expr}{d:Addr}{es:List (Str×CV)}{k:Str}{c:CV}(hH:st.H d=some (.dict es))(hnd:(es.map (·.1)).Nodup)(hc:es.lookup k=some c)(h:Q c st)
  (vn:∀o i,ki slice false o i=operate [o,i] (kX o i):=by intros;rfl):W2 C (ia value slice) (.loc d) (.str k) st Q X:=fun I v u r1 r2 KF s S=>by
 skip;subst r1
 refine cG r2 fun t G8=>?_;try clear r2;obtain rfl:=G8
 refine eZ (mU S hH hnd) fun fg hm e r=>?_
 have hv:=lz (k:=k) e r
 rw [hc]at hv
 revert hv;intro R8;refine az R8 fun v hv rv=>?_;try clear R8
 exact sa hm.typeIs PZ.lookup (Tq (mV C k t) (jH hm) hv (pq c (S.toks _) rv h)) (vn _ _)
theorem xO{d:Addr}{fg:List (Str×Value)}{h:Heap}(hm:h.DictOf (strKind C.prog C.w) d fg)(hn:fg.length≤1000):fg.length≤bZ:=by rw [aa];(exact aJ (by assumption) (by decide))
theorem Bp{d:Addr}{es:List (Str×CV)}{k:Str}{c:CV}{t:qC}{v:Value}{Q:ak→Prop}(hH:st.H d=some (.dict es))(hnd:(es.map (·.1)).Nodup)(hn:es.length≤1000)(rv:VR I c v)(h:Q { st with H:=aV st.H d (.dict (fF es k c)) }):
  WL C (setItem (.ref d) (.str k t) v) I st (fun _ _ aj=>Q aj) X:=fun KF s S=>by
 refine eZ (mU S hH hnd) fun fg hm e r=>?_
 have hl:fg.length=es.length:=by have:=congrArg bo e;simpa using this
 refine wpAny_setItem_pairs (hsz:=xO hm (T2 [.l .x (.n 1000),.e .y .x] (.l .y (.n 1000)) tA hn hl)) (mV C k t) hm fun h' Bq hs=>?_
 obtain ⟨e',r'⟩:=sA rv hnd e r
 refine az (xN Bq e' r') fun o ho hr=>?_
 exact (dK I _ (.refl I) (S.Gj (tk:=s.toks+1) (c:=.dict (fF es k c)) hH (fun b o hb e=>(hs.2 b hb).trans e) ho hr) h)
theorem Eh{d:Addr}{es:List (Str×CV)}{k:Str}{c:CV}{t:qC}{v:Value}{Q:ak→Prop}(hH:st.H d=some (.dict es))(hnd:(es.map (·.1)).Nodup)(hn:es.length≤1000)(rv:VR I c v)(h:Q { st with H:=aV st.H d (.dict (fF es k c)) }):
  WL C (Ip d (.str k t) v) I st (fun _ _ aj=>Q aj) X:=fun KF s S=>by
 refine eZ (mU S hH hnd) fun fg hm e r=>?_
 have hl:fg.length=es.length:=by have:=congrArg bo e;simpa using this
 refine wpAny_dictSet_pairs (hsz:=xO hm (T2 [.l .x (.n 1000),.e .y .x] (.l .y (.n 1000)) tA hn hl)) (mV C k t) hm fun h' Bq hs=>?_
 obtain ⟨e',r'⟩:=sA rv hnd e r
 refine az (xN Bq e' r') fun o ho hr=>?_
 exact (dK I _ (.refl I) (S.Gj (tk:=s.toks+1) (c:=.dict (fF es k c)) hH (fun b o hb e=>(hs.2 b hb).trans e) ho hr) h)
noncomputable def Qg(i:Expr)(v ov iv:Value):List Value:=match i with | .Slice _ _ none _=>[iv,v,ov] | _=>[v,ov,iv]
theorem WA.sub{Q:ak→Prop}(h:WE C o st (fun a bJ=>WE C i bJ (fun b cJ=>∀I v u w,VR I a v→VR I b u→VR I c w→WL C (setItem v u w) I cJ (fun _ _ i8=>Q i8) X) X) X):
  WA C (gL (.Subscript o i pos) C.env) c st Q X:=fun I v r=>by
 show WL C (do
  let ov ← holding [v] (gK o C.env)
  let iv ← holding [v,ov] (gK i C.env)
  standAt pos
  holding [v,ov,iv] (setItem ov iv v)
  release (Qg i v ov iv) []) I st _ X
 refine WL.bind (WL.holding ((h I).mono (fun J u bJ l R1=>az R1 fun a ra q=>?_) fk))
 refine WL.bind (WL.holding ((q J).mono (fun J2 w cJ l2 R2=>az R2 fun b rb q2=>?_) fk))
 refine WL.bind (WL.standAt (WL.bind (WL.holding ((q2 J2 u w v (ra.mono l2) rb ((r.mono l).mono l2)).mono (fun J3 _ i8 l3 q3=>?_) fk))))
 exact fun KF s S=>wpAny_release (dK J3 i8 (.refl _) S q3)
theorem WA.Ju{Q:ak→Prop}(h:WE C o st (fun a bJ=>WE C i bJ (fun b cJ=>∃d es k,a=.loc d∧b=.str k∧cJ.H d=some (.dict es)∧(es.map (·.1)).Nodup∧es.length≤1000∧Q { cJ with H:=aV cJ.H d (.dict (fF es k c)) }) X) X):
  WA C (gL (.Subscript o i pos) C.env) c st Q X :=
 WA.sub (h.mono (fun a bJ q0=>q0.mono (fun b cJ R3 I v u w r1 r2 r3=>UG R3 fun d es k e1 e2 hH hnd hn q=>by
  clear q0 R3;subst e1 e2
  skip;subst r1
  refine cG r2 fun t G8=>?_;try clear r2;obtain rfl:=G8
  exact Bp hH hnd hn r3 q) fk) fk)
end
end
section
theorem sC(k:Str)(c:CV):∀es:List (Str×CV),(fF es k c).map (·.1)=if k∈es.map (·.1)then es.map (·.1)else es.map (·.1)++[k]
 | []=>rfl
 | (k',v)::es=>by
  unfold fF
  by_cases q:k'=k
  ·subst q;simp
  ·rw [if_neg q,aK,sC k c es]
   have:k≠k':=fun h=>q h.symm
   simp only [aK,aq,this,false_or]
   split <;> simp
theorem Br(h:(es.map (·.1)).Nodup):((fF es k c).map (·.1)).Nodup:=by
 rw [sC]
 split
 ·exact h
 ·rename_i q
  rw [cy]
  exact (d9 h (by simp) (fun a ha b hb=>by simp at hb;subst hb;exact fun e=>q (e▸ha)))
theorem AA:(fF es k c).length≤es.length+1:=by
 have:=congrArg bo (sC k c es)
 simp only [cP]at this
 rw [this];split <;> simp
noncomputable def rB(es:List (Str×CV))(l:List (Str×CV)):List (Str×CV):=l.foldl (fun es p=>fF es p.1 p.2) es
section
variable{C:Cx} {dep:Nat} {KF I:IM} {st:ak} {s:Shared} {X:XP} {Q:CV→ak→Prop}
noncomputable def yO(C:Cx):List (Expr×Expr)→ak→(List (Str×CV)→ak→Prop)→XP→Prop
 | [],st,Q,_=>Q [] st
 | (k,v)::r,st,Q,X=>WE C k st (fun a bJ=>∃x,a=.str x∧WE C v bJ (fun c cJ=>yO C r cJ (fun l i8=>Q ((x,c)::l) i8) X) X) X
inductive Jv(I:IM):List (Str×CV)→List (Value×Value)→Prop
 | nil:Jv I [] []
 | cons {x c t v l r}:VR I c v→Jv I l r→Jv I ((x,c)::l) ((.str x t,v)::r)
theorem Jv.mono(h:fq I J){l r}(p:Jv I l r):Jv J l r:=by
 induction p with
 | nil=>exact .nil
 | cons a _ ih=>exact .cons (VR.mono h _ _ a) ih
noncomputable def uc(env:Env)(pos:Pos)(p:Expr×Expr):xq Value×xq Value:=(gK p.1 env,do let x ← gK p.2 env;standAt pos;pure x)
theorem t6{pos:Pos}:∀{items:List (Expr×Expr)} {st:ak} {Q:List (Str×CV)→ak→Prop},yO C items st Q X→∀I,WL C (Tr (items.map (uc C.env pos))) I st (fun J vs aj=>∃l,Jv J l vs∧Q l aj) X
 | [],st,Q,h,I=>WL.pure (aw ([]) (.nil) h)
 | (k,v)::r,st,Q,h,I=>by
  show WL C (do
   let kv ← gK k C.env
   let vv ← holding [kv] (do let x ← gK v C.env;standAt pos;pure x)
   return (kv,vv)::(← holding [kv,vv] (Tr (r.map (uc C.env pos))))) I st _ X
  refine WL.bind ((h I).mono (fun J u bJ _ W9=>az W9 fun a ra hZ=>az hZ fun x e q=>?_) fk)
  subst e
  refine cG ra fun t G8=>?_;clear W9 ra;obtain rfl:=G8
  refine WL.bind (WL.holding (WL.bind ((q J).mono (fun J2 w cJ l2 R0=>az R0 fun c rc q2=>WL.bind (WL.standAt (WL.pure ?_))) fk)))
  refine WL.bind (WL.holding ((t6 q2 J2).mono (fun J3 vs i8 l3 R1=>az R1 fun l rl q3=>?_) fk))
  exact WL.pure (aw ((x,c)::l) (.cons (rc.mono l3) rl) q3)
theorem H4{d:Addr}{Q:ak→Prop}:∀{I:IM} {l:List (Str×CV)} {vs:List (Value×Value)} {es:List (Str×CV)} {st:ak},Jv I l vs→st.H d=some (.dict es)→(es.map (·.1)).Nodup→es.length+l.length≤900→Q { st with H:=aV st.H d (.dict (rB es l)) } →
  WL C (forIn vs Ts fun x __s=>match x with | (k,v)=>do Ip d k v;pure (ForInStep.yield Ts)) I st (fun _ _ aj=>Q aj) X
 | I,[],vs,es,st,r,hH,_,_,h=>by
  cases r
  simp only [lB]
  have NQ:aV st.H d (.dict es)=st.H:=by
   funext b;unfold aV;split
   ·rename_i q;clear h;subst q;exact hH.symm
   ·rfl
  have:({ st with H:=aV st.H d (.dict (rB es [])) }:ak)=st:=by show ak.mk st.lo (aV st.H d (.dict es))=st;rw [NQ]
  rw [this]at h
  exact WL.pure h
 | I,(x,c)::l,vs,es,st,r,hH,hnd,hn,h=>by
  cases r with
  | @cons _ _ t v _ BL rc rl =>
   simp only [af]at hn
   rw [fA]
   have step:WL C (Ip d (.str x t) v) I st (fun _ _ aj=>aj={ st with H:=aV st.H d (.dict (fF es x c)) }) X:=Eh (Q:=fun aj=>aj={ st with H:=aV st.H d (.dict (fF es x c)) }) hH hnd (T2 [.l (.a .x (.a .y .o)) (.n 900)] (.l .x (.n 1000)) tA hn) rc rfl
   refine WL.bind (WL.bind (step.mono (fun J _ aj l2 e=>WL.pure ?_) fk))
   subst e
   have hl:=AA (k:=x) (c:=c) (es:=es)
   refine H4 (I:=J) (es:=fF es x c) (Jv.mono l2 rl) EZ (Br hnd) (T3 [.l (.a .x (.a .y .o)) (.n 900),.l .z (.a .x .o)] (.l (.a .z .y) (.n 900)) tA hn hl) ?_
   have:aV (aV st.H d (.dict (fF es x c))) d (.dict (rB (fF es x c) l))=aV st.H d (.dict (rB es ((x,c)::l))):=by
    funext b;unfold aV;split <;> rfl
   show Q ⟨st.lo,aV (aV st.H d (.dict (fF es x c))) d (.dict (rB (fF es x c) l))⟩
   rw [this];exact h
theorem WE.dict{keys:List (Option Expr)}{values:List Expr}{pos:Pos}(items:List (Expr×Expr))
  (h:∀d,st.H d=bw→yO C items { st with H:=aV st.H d (.dict []) } (fun l bJ=>bJ.H d=some (.dict [])∧l.length≤15∧Q (.loc d) { bJ with H:=aV bJ.H d (.dict (rB [] l)) }) X)
  (Bs:(evalEachOpt keys C.env).zip ((wZ values C.env).map fun v=>do let x ← v;standAt pos;pure x)=(items.map (uc C.env pos)).map fun p=>(some p.1,p.2):=by rfl) (h0:items≠[]:=by decide) (hlen:items.length≤15:=by decide) :
  WE C (.Dict keys values pos) st Q X:=fun I=>by
 rw [arm_eval_Dict,Bs,dictDisplay_pairs _ (by simpa using h0) (by simp;(exact bH (by assumption) (by decide)))]
 refine WL.bind (WL.standAt (WL.bind ?_))
 unfold subDict
 intro KF s S
 refine aA (zi ?_)
 refine ao (S.Ec (o:={ cls:=.type "dict",data:=.dict #[] }) (c:=.dict []) rfl (jq 0 (#[]) rfl rfl)) fun hn S1=>?_
 have main:WL C (holding [.ref s.heap.objs.size] (do
   if (items.map (uc C.env pos)).length≤15 then
    let vs ← Tr (items.map (uc C.env pos))
    holding (vs.flatMap fun(k,v)=>[k,v]) do
     for (k,v) in vs do Ip s.heap.objs.size k v
   else
    rule "dict.display.long"
    for (k,v) in items.map (uc C.env pos) do
     let kv ← k
     let vv ← holding [kv] v
     holding [kv,vv] (Ip s.heap.objs.size kv vv)) >>= fun _=>pure s.heap.objs.size) I { st with H:=aV st.H s.heap.objs.size (.dict []) } (fun J d aj=>d=s.heap.objs.size∧Q (.loc s.heap.objs.size) aj) X:=by
  refine WL.bind (WL.holding ?_)
  rw [if_pos (by simpa using hlen)]
  refine WL.bind ((t6 (h _ hn) I).mono (fun J vs bJ l R2=>Gg R2 fun l' rl hd hl q=>?_) fk)
  refine WL.holding ?_
  refine WL.bind ((H4 (es:=[]) rl hd (by simp) (by simp;(exact aJ (by assumption) (by decide))) (Q:=fun aj=>Q (.loc s.heap.objs.size) aj) q).mono (fun J2 _ cJ l2 q2=>WL.pure (WL.pure ⟨rfl,q2⟩)) fk)
 refine aM (main KF _ S1) (fun d s' R3=>UE R3 fun J aj l S' e q=>?_) fun _ _ x=>x
 clear R3;subst e
 exact (dK J aj l S' (WL.pure (aw (.loc _) rfl q)))
end
end
section
noncomputable def nZ(cs:List CV)(lo hi st:Option Int):List CV:=(DI (nB lo hi st cs.length).1 (nB lo hi st cs.length).2.1 (nB lo hi st cs.length).2.2).filterMap (cs[·]?)
theorem ck.pick{I:IM}{cs:List CV}{vs:Array Value}(r:ck I cs vs.toList):∀idx:List Nat,ck I (idx.filterMap (cs[·]?)) (idx.filterMap (vs[·]?))
 | []=>.nil
 | i::idx=>by
  have ih:=ck.pick r idx
  simp only [cS,cS]
  have e:cs.length=vs.size:=by have:=r.length;simpa using this
  by_cases h:i<cs.length
  ·refine az (r.get (i:=i) (c:=cs[i]) (by simp [h])) fun v hv rv=>?_
   have UM:vs[i]?=some v:=by simpa using hv
   rw [aU h,UM]
   exact .cons rv ih
  ·rw [List.getElem?_eq_none (by (exact bV (by assumption))),eD (by exact T3 [.e .x .y,.T .z .x] (.l .y .z) tA e h)]
   exact ih
noncomputable def Bt(n:Nat)(k:Int):Nat:=if k<0 then (k+n).toNat else min k.toNat n
theorem NR(n:Nat)(k:Int):Bt n k≤n:=by unfold Bt;split;exact Int.toNat_le.mpr (gw (Px (by assumption)));exact Nat.min_le_right _ _
theorem AB(k:Int)(n:Nat):ja none (some k) 1 (n:Int)=(0,(Bt n k:Int)):=by
 delta ja Bt
 have h1:¬((1:Int)<0):=by decide
 dsimp [iF,iT,iG,iU,iH,iV,nT,nF,aT,aF,oT,oF]
 congr 1
 split
 ·exact (Int.toNat_eq_max _).symm
 ·cases k with
  | ofNat m=>show min (m:Int) n=((min m n:Nat):Int);rw [Int.min_def,Nat.min_def];by_cases h:m≤n;rw [if_pos (ct.mpr h),if_pos h];rw [if_neg (mt ct.mp h),if_neg h]
  | negSucc m=>exact absurd (kT m) (by assumption)
theorem AD(k:Nat):ft 0 (k:Int) 1=k:=by
 unfold ft
 have h1:(1:Int)>0:=by (exact au _)
 dsimp [iF,iT,iG,iU,iH,iV,nT,nF,aT,aF,oT,oF];simp only [h1,if_true,te]
 split
 ·rw [Int.sub_zero,Iq];rfl
 ·exact (oE fun q=>absurd (cD.mpr q) (by assumption)).symm
theorem Ei(xs:Array Value)(k:Nat)(hk:k≤xs.size):((bF k).filterMap fun(j:Nat)=>xs[((0:Int)+(j:Int)*1).toNat]?)=xs.toList.take k:=by
 have e:(fun(j:Nat)=>xs[((0:Int)+(j:Int)*1).toNat]?)=fun j=>xs[j]?:=by
  funext j
  have:((0:Int)+(j:Int)*1).toNat=j:=by simp
  rw [this]
 rw [e]
 have gen:∀(l:List Value) (k:Nat),k≤l.length→(bF k).filterMap (fun j=>l[j]?)=l.take k:=by
  intro l
  induction l with
  | nil=>intro k hk;simp at hk;subst hk;rfl
  | cons x l ih =>
   intro k hk
   cases k with
   | zero=>rfl
   | succ k =>
    rw [nC,cS,iE]
    have:((fun j=>(x::l)[j]?)∘Od)=fun j=>l[j]?:=by funext j;simp
    rw [this,ih k (by simpa using hk)];rfl
 have:=gen xs.toList k (by simpa using hk)
 simpa using this
section
variable{prog:Program} {w:World} {A:eh} {E:Value→Shared→Prop} {s:Shared}
theorem lI(hv:qd v k)(h:Q k s):aR (aS prog w) A (Tt v) Q E s:=by
 cases hv with
 | none=>exact slicePart_none h
 | int i t=>exact slicePart_int h
theorem qN(ht:YC s.heap t items)(hs:s.heap.IsSliceOf sl vl vu vs)(pl:qd vl none)(pu:qd vu (some k))(ps:qd vs none)
  (h1:Bt items.size k=items.size→Q (.ref t) s) (h2:Q (.ref s.heap.objs.size) { s with heap:=s.heap.push { cls:=.type "tuple",data:=.seq (items.toList.take (Bt items.size k)).toArray } })
  (hsz:items.size≤bZ):aR (aS prog w) A (kX (.ref t) (.ref sl)) Q E s:=by
 have hk:=NR items.size k
 have AE:sizeOk (.seq (items.toList.take (Bt items.size k)).toArray):=by
  show (items.toList.take (Bt items.size k)).toArray.size≤bZ
  simp only [tO,fT,aO]
  exact T3 [.i .z .x,.l .y .z] (.l .x .z) tA hsz
 refine eZ (id hs) fun os P7 Vs pk=>?_
 have hTs:s.TypeIs (.ref sl) "slice":=(aw os P7 Vs)
 unfold kX
 try with_reducible refine bS ?_
 first | refine aA (aC ?_) | skip
 refine aA (wpAny_sequenceKey ht.typeIs (by decide) ?_)
 refine aA (pS (name:=aB "__getitem__") ht.typeIs slot_tuple_getitem
  (pQ slot_tuple_getitem ht.typeIs entry_tuple_getitem ?_ (args_tuple_getitem _ _)))
 show aR _ _ (Tu (.ref t) >>= _) _ _ s
 refine aA (tupleItemsOf_ ht ?_)
 refine aA (Ir hTs ?_)
 rw [if_pos (by decide)]
 refine aA ?_
 delta Tv Tw
 refine aA (aA (dj P7 pk (x:=vl) rfl (aA (dj P7 pk (x:=vu) rfl (aA (dj P7 pk (x:=vs) rfl (aC ?_)))))))
 refine aA (lI ps ?_)
 show aR _ _ (if ((1:Int) == 0)=true then _ else _) _ _ s
 rw [if_neg (by decide)]
 refine aA (lI pl (aA (lI pu (aA (aC ?_)))))
 show aR _ _ (match ja none (some k) 1 (items.size:Int)with | (lo,hi)=>pure (lo,(1:Int),ft lo hi 1)) _ _ s
 rw [AB k items.size]
 show aR _ _ (pure ((0:Int),(1:Int),ft (0:Int) (Bt items.size k:Int) 1)) _ _ s
 rw [AD]
 refine aC ?_
 show aR _ _ (if ((0:Int) == 0&&(1:Int) == 1&&(Bt items.size k == items.size))=true then _ else _) _ _ s
 by_cases hw:Bt items.size k=items.size
 ·rw [if_pos (by (dsimp [iF,iT,iG,iU,iH,iV,nT,nF,aT,aF,oT,oF];simp [hw]))]
  unfold Tz
  refine aA (aA (Ir ht.typeIs (aC ?_)))
  rw [if_pos (by decide)]
  refine aA (kL ?_)
  exact aC (aw _ rfl (aC (h1 hw)))
 ·rw [if_neg (by (dsimp [iF,iT,iG,iU,iH,iV,nT,nF,aT,aF,oT,oF];simp [hw])),Ei items _ hk]
  first
   | exact aA (m:=jn _) (bz (aC (aw _ rfl (aC h2))) AE)
   | exact aA (m:=jn _) (bz (aA (aC (aC ⟨_,rfl,aC h2⟩))) AE)
   | exact aA (aA (m:=jn _) (bz (aC (aC ⟨_,rfl,aC h2⟩)) AE))
end
section
variable{C:Cx} {dep:Nat} {KF I:IM} {st:ak} {s:Shared} {X:XP} {Q:CV→ak→Prop}
theorem WE.xP(h:∀d,st.H d=bw→Q (.loc d) { st with H:=aV st.H d (.dict []) }):WE C (.Dict [] [] pos) st Q X:=fun I KF s S=>by
 refine wpAny_Dict_empty ?_
 refine ao (S.Ec (o:={ cls:=.type "dict",data:=.dict #[] }) (c:=.dict []) rfl (jq 0 (#[]) rfl rfl)) fun hn S1=>?_
 exact (pq (.loc _) S1 rfl (h _ hn))
noncomputable def WP(C:Cx):Option Expr→ak→(Option Int→ak→Prop)→XP→Prop
 | none,st,Q,_=>Q none st
 | some e,st,Q,X=>WE C e st (fun c aj=>∃i,c=.int i∧Q (some i) aj) X
theorem Bu{Q:Option Int→ak→Prop}(h:WP C e st Q X)(I:IM):WL C (valueOrNone (evalOpt e C.env)) I st (fun J v aj=>∃k,qd v k∧Q k aj) X:=by
 cases e with
 | none=>exact WL.pure (aw none (.none) h)
 | some e =>
  refine (h I).mono (fun J v aj _ W9=>az W9 fun c r hZ=>az hZ fun i e q=>?_) fk
  subst e
  refine cG r fun t G8=>?_;try clear r;clear W9;obtain rfl:=G8
  exact (aw (some i) (.int i t) q)
noncomputable def BM(C:Cx)(a:CV)(lo hi Dh:Option Int)(st:ak)(Q:CV→ak→Prop)(X:XP):Prop :=
 ∀I v KF s sl vl vu vs,VR I a v→SR C KF I st s→s.heap.IsSliceOf sl vl vu vs→qd vl lo→qd vu hi→qd vs Dh →
  (∃T id,vc (.type T) "__getitem__" = pure (some (.builtin id))∧s.TypeIs v T) ∧
  aR (aS C.prog C.w) C.A (kX v (.ref sl)) (PQ C KF I (VQ Q)) (eV C KF I X) s
theorem WE.slice{value:Expr}{lo up Dh:Option Expr}{p pos:Pos}(h:WE C value st (fun a bJ=>WP C lo bJ (fun l cJ=>WP C up cJ (fun u i8=>WP C Dh i8 (fun k vk=>BM C a l u k vk Q X) X) X) X) X)
  (vn:∃ops:Value→Value→List Value,∀o i,ki (.Slice lo up Dh p) false o i=operate (ops o i) (kX o i):=by first | exact ⟨fun o i=>[i,o],fun _ _=>rfl⟩ | exact ⟨fun o i=>[o,i],fun _ _=>rfl⟩):WE C (.Subscript value (.Slice lo up Dh p) pos) st Q X:=fun I=>by
 simp only [YA]
 refine WL.bind ((h I).mono (fun J a bJ _ R0=>az R0 fun ca ra ha=>?_) fk)
 simp only [arm_eval_Slice]
 refine WL.bind (WL.holding (WL.bind ((Bu ha J).mono (fun J2 vl cJ l2 R1=>az R1 fun kl pl q2=>?_) fk)))
 refine WL.bind (WL.holding ((Bu q2 J2).mono (fun J3 vu i8 l3 R2=>az R2 fun ku pu q3=>?_) fk))
 refine WL.bind (WL.holding ((Bu q3 J3).mono (fun J4 vs vk l4 R3=>az R3 fun ks ps q4=>?_) fk))
 intro KF s S
 refine bz ?_ (by size_fits)
 refine ao (S.mT (o:={ cls:=.type "slice",data:=.fields #[vl,vu,vs] }) rfl) fun l5 S1=>?_
 refine (dK _ vk l5 S1 ?_)
 refine WL.bind (WL.standAt ?_)
 intro KF2 s2 S2
 have Vt:s2.heap.IsSliceOf s.heap.objs.size vl vu vs:=(cB _ (S2.de _ _ (cw (I:=J4))) rfl rfl)
 refine ao (q4 _ _ KF2 s2 _ _ _ _ ((((ra.mono l2).mono l3).mono l4).mono l5) S2 Vt pl pu ps) fun G9 hg=>?_;(refine gP G9 fun T id hl hT=>?_;try clear G9)
 refine cG vn fun ops Vu=>?_;try clear vn
 exact sa hT hl hg (Vu _ _)
theorem BM.MA(hs:cs.length≤2 ^ 24)(h:Q (.tup (cs.take (Bt cs.length k))) st):BM C (.tup cs) none (some k) none st Q X:=fun I v KF s sl vl vu vs r S vn pl pu ps=>by
 have r0:=r
 refine j7 r fun a n xs G5 R9=>?_;try clear r;obtain rfl:=G5;(refine ao R9 fun hi hr=>?_;try clear R9)
 have ht:YC s.heap a xs:=(cB _ (S.de _ _ hi) rfl (dA n rfl))
 have e:cs.length=xs.size:=by have:=hr.length;simpa using this
 refine ⟨(jq ("tuple") _ slot_tuple_getitem.lookup ht.typeIs),qN ht vn pl pu ps (fun hk=>?_) ?_ (by rw [aa];exact T2 [.l .x (.n 16777216),.e .x .y] (.l .y (.n 16777216)) tA hs e)⟩
 ·rw [e,hk,← e,uE]at h
  exact (pq _ S r0 h)
 ·refine ao (S.mT (o:={ cls:=.type "tuple",data:=.seq (xs.toList.take (Bt xs.size k)).toArray }) rfl) fun l5 S1=>?_
  refine (dK _ st l5 S1 (aw _ ?_ h))
  refine (tq _ _ _ rfl cw ?_)
  rw [e]
  exact ck.mono l5 _ _ (by simpa using hr.take (Bt xs.size k))
theorem AF{cs:List CV}{lo hi Dh:Option Int}{v:Value}{a sl:Addr}{xs:Array Value}{vl vu vs:Value}(hl:s.heap.IsList a xs)(hr:ck I cs xs.toList)(S:SR C KF I st s)(vn:s.heap.IsSliceOf sl vl vu vs)(pl:qd vl lo)(pu:qd vu hi)(ps:qd vs Dh)
  (h0:Dh≠some 0) (hs:cs.length≤2 ^ 24) (h:Q (.lst (nZ cs lo hi Dh)) st):aR (aS C.prog C.w) C.A (kX (.ref a) (.ref sl)) (PQ C KF I (VQ Q)) (eV C KF I X) s:=by
 have e:cs.length=xs.size:=by have:=hr.length;simpa using this
 refine wpAny_getItem_list_slice hl vn pl pu ps h0 ?_ (by rw [aa];exact T2 [.l .x (.n 16777216),.e .x .y] (.l .y (.n 16777216)) tA hs e)
 refine ao (S.mT (o:={ cls:=.type "list",data:=.seq (slicePick xs lo hi Dh) }) rfl) fun l5 S1=>?_
 refine (dK _ st l5 S1 (aw _ ?_ h))
 refine (tq _ _ _ rfl cw (ck.mono l5 _ _ ?_))
 delta nZ slicePick
 rw [e]
 exact hr.pick _
theorem BM.lst{cs:List CV}{lo hi Dh:Option Int}(h0:Dh≠some 0)(hs:cs.length≤2 ^ 24)(h:Q (.lst (nZ cs lo hi Dh)) st):BM C (.lst cs) lo hi Dh st Q X:=fun I v KF s sl vl vu vs r S vn pl pu ps=>by
 refine j7 r fun a n xs G5 R9=>?_;try clear r;obtain rfl:=G5;(refine ao R9 fun nR hr=>?_;try clear R9)
 have hl:s.heap.IsList a xs:=(cB _ (S.de _ _ nR) rfl (dA n rfl))
 exact ⟨(jq ("list") _ wg.lookup hl.typeIs),AF (v:=.none) hl hr S vn pl pu ps h0 hs h⟩
end
end
section
theorem yP(xs:Array Value)(n:Nat)(f:Array Value→Array Value):∃m,dm f ⟨.type "list",none,.seq xs n,#[]⟩=⟨.type "list",none,.seq (f xs) m,#[]⟩:=by
 unfold dm
 exact (dA _ rfl)
section
variable{C:Cx} {dep:Nat} {KF I:IM} {st:ak} {s:Shared} {X:XP} {Q:CV→ak→Prop}
theorem rC(S:SR C KF I st s)(hH:st.H a=some (.list cs)):∃n xs,s.heap.get? a=some ⟨.type "list",none,.seq xs n,#[]⟩∧ck I cs xs.toList∧cs.length=xs.size:=by
 refine dO (S.mu a _ hH) fun _ _ R9=>?_;obtain ⟨o,ho,n,xs,rfl,hr⟩:=R9
 exact (dK n xs ho hr (by have:=hr.length;simpa using this))
theorem list_set(S:SR C KF I st s)(hH:st.H a=some (.list cs))(ho:s.heap.get? a=some ⟨.type "list",none,.seq xs n,#[]⟩)(e:f xs=ys)(hr:ck I ph ys.toList)(tk:Nat):
  SR C KF I { st with H:=aV st.H a (.list ph) } { s with heap:=s.heap.update a (dm f),toks:=tk }:=by
 refine cG (yP xs n f) fun m hm=>?_
 refine S.Gj (tk:=tk) (c:=.list ph) hH (fun b o hb e=>((mw s.heap a _).2 b hb).trans e) (cC (dm f) ho (by rw [hm];rfl)) ?_
 rw [hm,e]
 exact (jq _ _ rfl hr)
theorem H5{cs:List CV}{xs:Array Value}(hs:cs.length≤2 ^ 24)(e:cs.length=xs.size):(xs.size:Int)<2 ^ 63:=cD.mpr (e▸bH hs (by decide))
theorem aW.Vv{cs:List CV}(hs:cs.length≤2 ^ 24)(h:Q (.int cs.length) st):aW C (.builtin "len") [.tup cs] [] [] st Q X:=JI fun I x ra KF s S=>by
 refine j7 ra fun a n xs G5 R9=>?_;try clear ra;obtain rfl:=G5;(refine ao R9 fun hi hr=>?_;try clear R9)
 have ht:YC s.heap a xs:=(cB _ (S.de _ _ hi) rfl (dA n rfl))
 have e:cs.length=xs.size:=by have:=hr.length;simpa using this
 refine Calls.call_function_entry kind_len plain_len entry_len (args_len1 _) (len_body_tuple ht (H5 hs e) ?_)
 exact (pq (.int cs.length) (S.toks _) (by exact (dA _ (by rw [e]))) h)
theorem aW.Vw{cs:List CV}(hs:cs.length≤2 ^ 24)(h:Q (.int cs.length) st):aW C (.builtin "len") [.lst cs] [] [] st Q X:=JI fun I x ra KF s S=>by
 refine j7 ra fun a n xs G5 R9=>?_;try clear ra;obtain rfl:=G5;(refine ao R9 fun hi hr=>?_;try clear R9)
 have hl:s.heap.IsList a xs:=(cB _ (S.de _ _ hi) rfl (dA n rfl))
 have e:cs.length=xs.size:=by have:=hr.length;simpa using this
 exact call_len_list hl (H5 hs e) (pq (.int cs.length) (S.toks _) (by exact (dA _ (by rw [e]))) h)
theorem aW.ud{a:Addr}{cs:List CV}(hH:st.H a=some (.list cs))(hs:cs.length≤2 ^ 24)(h:Q (.int cs.length) st):aW C (.builtin "len") [.loc a] [] [] st Q X:=JI fun I x ra KF s S=>by
 skip;subst ra
 refine dC (rC S hH) fun n xs ho hr e=>?_
 have hl:s.heap.IsList a xs:=(cB _ ho rfl (dA n rfl))
 exact call_len_list hl (H5 hs e) (pq (.int cs.length) (S.toks _) (by exact (dA _ (by rw [e]))) h)
theorem iW.tup{Q:Bool→ak→Prop}(hs:cs.length≤2 ^ 24)(h:Q (!cs.isEmpty) st):iW C (.tup cs) st Q X:=fun I v r KF s S=>by
 refine j7 r fun a n xs G5 R9=>?_;try clear r;obtain rfl:=G5;(refine ao R9 fun hi hr=>?_;try clear R9)
 have ht:YC s.heap a xs:=(cB _ (S.de _ _ hi) rfl (dA n rfl))
 have e:cs.length=xs.size:=by have:=hr.length;simpa using this
 have e2:xs.isEmpty=cs.isEmpty:=by
  cases cs with
  | nil=>simp at e ⊢;exact fQ e.symm
  | cons _ _=>simp at e ⊢;intro q;rw [q]at e;simp at e
 refine truthy_tuple ht (by omega) ?_
 rw [e2]
 exact (dK I st (.refl I) (S.toks _) h)
theorem eX.oP{cs}{a:Addr}{name:Str}{id:String}(hH:st.H a=some (.list cs))(slot:Slot "list" name id)(Qh:lW (.builtin id)=pure (.type "method_descriptor")):eX C (.loc a) name (.builtin id) st:=fun I v KF s pl E Q r S q=>by
 skip;subst r
 refine gP (rC S hH) fun n xs ho _=>?_
 exact nG (aw _ ho rfl) F.plainAttrs_list slot Qh (fun b e=>by cases e;exact (aw _ ho rfl)) (q s.toks)
theorem aW.append(hH:st.H a=some (.list cs))(hs:cs.length≤2 ^ 23)(h:Q .none { st with H:=aV st.H a (.list (cs++[c])) }):aW C (.builtin "list.append") [.loc a,c] [] [] st Q X:=Jm fun I x y ra rc KF s S=>by
 skip;subst ra
 refine dC (rC S hH) fun n xs ho hr e=>?_
 refine Oe F.slot_list_append (aw _ ho rfl) F.entry_list_append (F.args_list_append_2 _ _) (AutoListH.list_append_list_val_0 a xs n y (by rw [aa];exact T2 [.l .x (.n 8388608),.e .x .y] (.l .y (.n 16777216)) tA hs e)) ⟨ho,?_⟩
 exact (pq (.none) (list_set S hH ho rfl (by simpa using hr.append (.cons rc .nil)) s.toks) rfl h)
end
end
section
section
variable{C:Cx} {dep:Nat} {KF I J:IM} {st:ak} {s:Shared} {X:XP} {H:CH}
theorem SR.rename(S:SR C KF I st s)(hx:st.lo x=some c)(h:∀u,VR I c u→VR I c' u):SR C KF I ⟨dU st.lo x c',st.H⟩ s:=by
 obtain ⟨⟨m,hn,h1⟩,h2,h3,h4⟩:=S.loc
 refine ⟨S.kle,S.low,S.same,S.base,S.de,S.mQ,S.own,S.mu,⟨(aw m hn (fun y v hy hk=>?_)),fun y v hy hk=>?_,fun y v hy hk=>?_,h4⟩⟩
 ·change dU st.lo x c' y=some v at hy
  unfold dU at hy
  by_cases q:y=x
  ·subst q;simp at hy;subst hy
   refine az (h1 y c hx hk) fun u a b=>?_
   exact (aw u a (h u b))
  ·simp [q]at hy;exact h1 y v hy hk
 ·change dU st.lo x c' y=some v at hy
  unfold dU at hy
  by_cases q:y=x
  ·subst q;simp at hy;subst hy
   refine dC (h2 y c hx hk) fun cc u a b e=>?_
   exact (dK cc u a b (h u e))
  ·simp [q]at hy;exact h2 y v hy hk
 ·change dU st.lo x c' y=some v at hy
  unfold dU at hy
  by_cases q:y=x
  ·subst q;simp at hy;subst hy
   refine jr (h3 y c hx hk) fun cc o u a b e f=>?_
   exact (js cc o u a b e (h u f))
  ·simp [q]at hy;exact h3 y v hy hk
theorem ag.freeze(hx:st.lo x=some (.loc a))(hH:st.H a=some (.list cs))(h:ag C ss ⟨dU st.lo x (.lst cs),eo st.H a⟩ Q X):ag C ss st Q X:=fun I KF s S=>by
 refine eZ (S.freeze hH) fun J l S' r=>?_
 have S2:SR C KF J ⟨dU st.lo x (.lst cs),eo st.H a⟩ s:=S'.rename (c:=.loc a) hx fun u hu=>by skip;subst hu;exact r
 refine aM (h J KF s S2) (fun f s' R2=>dC R2 fun J2 aj l2 S3 q=>(dK J2 aj (l.trans l2) S3 q)) fun e s' R3=>jr R3 fun J2 x aj l2 S3 hx q=>(js J2 x aj (l.trans l2) S3 hx q)
end
end
section
noncomputable abbrev PG:Program:=Of
noncomputable def bK(i:Nat):Stmt:=PG.main.body.getD i (.Pass default)
noncomputable def bodyOf:Stmt→List Stmt
 | .FunctionDef _ _ b ..=>b
 | .ClassDef (body:=b) ..=>b
 | .For _ _ b ..=>b
 | .While _ b ..=>b
 | _=>[]
noncomputable def Di:Stmt→PW
 | .FunctionDef (scope:=s) ..=>s
 | _=>default
noncomputable def ax(s:Stmt):List (Str×fP):=(Di s).names
noncomputable def ml(c i:Nat):Stmt:=(bodyOf (bK c)).getD i (.Pass default)
noncomputable def HK(C:Cx)(sc:List (Str×fP)):Prop:=∀x,C.env.kindOf x=sc.lookup x
section
variable{C:Cx} {dep:Nat} {KF I:IM} {st:ak} {s:Shared} {X:XP}
theorem WE.nm{pos}(ok:C.Ok dep)(hk:HK C sc)(hv:st.lo x=some v)(h:Q v st)(hkk:yB (sc.lookup x)=true:=by rfl)
  (hd:(x == ("__debug__" : Str))=false:=by decide) (hc:(x == ("__classdict__" : Str))=false:=by decide):WE C (.Name x pos) st Q X:=WE.name ok.kY hv h (by rw [hk];exact hkk) hd hc
theorem WA.nm(ok:C.Ok dep)(hk:HK C sc)(h:Q (st.put x c))(hkk:cg (sc.lookup x)=true:=by rfl):WA C (gL (.Name x pos) C.env) c st Q X:=WA.name ok (by rw [hk];exact hkk) h
@[simp] theorem bP{x:Str}{c:CV}:(st.put x c).lo x=some c:=by simp [ak.put,dU]
theorem ai(h:y≠x):(st.put x c).lo y=st.lo y:=by simp [ak.put,dU,h]
end
noncomputable def eJ(S:Str→Bool):List Nat→Nat
 | []=>0
 | c::cs=>if S ⟨#[c]⟩then eJ S cs+1 else 0
end
section
theorem Ej{cs:List Nat}{j c:Nat}(h:cs[j]?=some c)(hs:S ⟨#[c]⟩=true):j+eJ S (cs.drop j)=(j+1)+eJ S (cs.drop (j+1)):=by
 have hj:=(bI.mp h)
 refine cG hj fun fM he=>?_;try clear hj
 rw [ey fM,he]
 simp only [eJ,hs,if_true]
 exact T2 [] (.e (.a .x (.a .y .o)) (.a (.a .x .o) .y)) tA
theorem Bv{cs:List Nat}{j c:Nat}(h:cs[j]?=some c)(hs:S ⟨#[c]⟩=false):eJ S (cs.drop j)=0:=by
 have hj:=(bI.mp h)
 refine cG hj fun fM he=>?_;try clear hj
 rw [ey fM,he]
 unfold eJ
 rw [hs]
 rfl
theorem Ek{cs:List Nat}{j:Nat}(h:cs[j]?=none):eJ S (cs.drop j)=0:=by
 rw [List.drop_eq_nil_of_le (List.getElem?_eq_none_iff.mp h)]
 rfl
section
variable{C:Cx} {dep:Nat} {KF I:IM} {st:ak} {s:Shared} {X:XP}
theorem NS{src:Str}{k:Nat}{a:Addr}{H:CH}(ok:C.Ok dep)(hk:HK C (ax (bK 26)))(hG:kQ C [("IndexError",.type "IndexError")])(hF:dW C a S)(hT:H C.tb≠none)(hx:src.length<2 ^ 60)(GJ:k≤src.length)
  (h:∀bY,Q (.ret (.int ((k+eJ S (src.cps.toList.drop k):Nat):Int))) ⟨bY,H⟩):ag C (bodyOf (bK 26)) ⟨fun y=>([("src" : Str), "pos", "chars"].zip [.str src,.int k,.raw (.ref a)]).lookup y,H⟩ Q X:=by
 have get:∀j:Nat,src.cps[j]?=src.cps.toList[j]?:=fun j=>by simp
 have fin:∀bJ:ak,(∃j:Nat,bJ.lo "pos" = some (.int j)∧j=k+eJ S (src.cps.toList.drop k)∧bJ.H=H)→ag C ((bodyOf (bK 26)).drop 1) bJ Q X:=by
  rintro ⟨lo,H'⟩ R4
  refine eZ R4 fun j h1 h2 h3=>?_;try clear R4
  clear hT;subst h3
  refine ag.cons (WS.ret (WE.nm ok hk h1 ?_))
  rw [h2]
  exact h _
 refine ag.cons (WS.zz (tn := "IndexError") ok hG rfl (by rw [hk];rfl) (by rw [ba];kernel_rfl) (by rw [ba];kernel_rfl) ?_)
 refine ag.cons (WS.uO ok (fun n bJ=>∃j:Nat,bJ.H=H∧bJ.lo "src" = some (.str src)∧bJ.lo "pos" = some (.int j)∧bJ.lo "chars" = some (.raw (.ref a))∧j≤src.length∧n=src.length-j∧j+eJ S (src.cps.toList.drop j)=k+eJ S (src.cps.toList.drop k)) (src.length-k) (UD k rfl rfl rfl rfl GJ rfl rfl) ?_)
 rintro n ⟨lo,H'⟩ R4
 refine U16 R4 fun j hH l1 l2 l3 hj G2 he=>?_;try clear R4;obtain rfl:=G2
 clear h;cases hH
 refine WT.ez (WE.sub (WE.nm ok hk l1 (WE.nm ok hk l2 (W2.yI ok (fun _=>hT) (T2 [.t .x (.n 1152921504606846976),.l .y .x] (.t .y (.n 4611686018427387904)) tA hx hj) ?_ ?_))))
 ·intro c hc
  refine WE.nm ok hk l3 (W2.Bo ok hF (iW.bool ⟨fun hs=>?_,fun hs=>?_⟩))
  ·refine ag.cons (WS.aug ok (by rw [hk];rfl) (WE.nm ok hk l2 (WE.int (W2.A5 ?_))))
   have fM:j<src.length:=by
    have:=(cE.mp hc).1
    exact this
   refine ag.nil (aw (src.length-(j+1)) (cU (by assumption) (bx _)) (UD (j+1) rfl ?_ ?_ ?_ fM rfl ?_))
   ·exact (ai (by decide)).trans l1
   ·exact bP
   ·exact (ai (by decide)).trans l3
   ·exact (Ej (by rw [← get];exact hc) hs).symm.trans he
  ·refine ag.nil (ag.nil (ag.nil (fin _ (cB j l2 ?_ rfl))))
   rw [← he,Bv (by rw [← get];exact hc) hs];rfl
 ·intro hc ta
  refine (cB ("IndexError") rfl (by rw [ba];kernel_rfl) (fun v=>?_))
  refine ag.cons (WS.pass (ag.nil ?_))
  refine fin _ (cB j l2 ?_ rfl)
  rw [← he,Ek (by rw [← get];exact hc)];rfl
end
end
section
open PySem.StrLaws
noncomputable def part(x:Str)(a b:Nat):Str:=⟨((x.cps.toList.drop a).take (b-a)).toArray⟩
theorem Bw(x:Str)(a b:Nat)(hb:b≤x.length)(h:b-a=x.length):part x a b=x:=by
 have UP:x.length=x.cps.toList.length:=by dsimp [It]
 unfold part
 by_cases ha:a=0
 ·subst ha
  simp only [xt,h,UP,uE]
 ·have h0:x.length=0:=T3 [.u .x .z,.l .y .z,.e .x .z,.E .w (.n 0)] (.e .z (.n 0)) tA hb h ha
  have:x.cps.toList=[]:=aP (by assumption)
  cases x
  rename_i cps
  cases cps
  simp at this
  clear hb h UP h0;subst this
  simp
section
variable{C:Cx} {dep:Nat} {KF I:IM} {st:ak} {s:Shared} {X:XP}
theorem BM.str{Q:CV→ak→Prop}(xQ:a≤b)(hb:b≤x.length)(hx:x.length≤bZ)(h:Q (.str (part x a b)) st):BM C (.str x) (some (a:Int)) (some (b:Int)) none st Q X:=fun I v KF s sl vl vu vs r S vn pl pu ps=>by
 refine cG r fun t G8=>?_;clear r;obtain rfl:=G8
 refine ⟨(jq ("str") _ F.slot_str_getitem.lookup (i5 s x t)),?_⟩
 cases pl with | int _ tl =>
 cases pu with | int _ tu =>
 cases ps
 refine getItem_meets (i5 s x t) (by decide) F.slot_str_getitem F.entry_str_getitem (F.args_str_getitem_2 _ _) (meets_str_getitem_slice x t sl (some ((a:Int),tl)) (some ((b:Int),tu)) none (by decide)) ⟨?_,?_⟩
 ·refine eZ vn fun o h1 h2 h3=>?_
  exact (cB o h1 h2 h3)
 ·have hp:slicePicked x (some ((a:Int),tl)) (some ((b:Int),tu)) none=(bF (b-a)).map (fun k=>a+k):=by
   unfold slicePicked
   exact strSliceIndices_plain xQ hb
  have Yw:=sliced_plain x xQ hb
  rw [strSliceIndices_plain xQ hb]at Yw
  unfold sliceMade
  rw [hp]
  split
  ·rename_i hq
   dsimp [iF,iT,iG,iU,iH,iV,nT,nF,aT,aF,oT,oF]at hq;simp at hq
   rw [Bw x a b hb hq]at h
   exact (pq (.str x) S (dA _ rfl) h)
  ·rw [Yw]
   have hl:(part x a b).length≤bZ:=by
    refine aJ ?_ hx
    show (((x.cps.toList.drop a).take (b-a)).toArray).size≤x.cps.size
    simp
    exact T3 [.u .x .y,.u .w .z,.i .y .x] (.l .x .t) tA
   exact (lb hl (dK I st (.refl I) (S.toks _) ⟨.str (part x a b),dA _ rfl,h⟩))
end
end
section
open PySem.StrLaws
open Builtin Builtin.Str
theorem fj(len k:Nat):pU len (k:Int)=k:=by
 unfold pU
 rw [if_neg (by simp)]
 rfl
theorem ue(x y:Str)(i:Nat)(t u v:qC)(k:Nat)(rest:List Nat)(h:occurrences x y i x.length 1=k::rest):Pa («str.index» ⟨[.str x t,.str y u,.int i v],[]⟩) (.int k):=by
 show Pa (match occurrences x y (pU x.length i) (min x.length x.length) 1 with | k::_=>retInt k | []=>_) _
 rw [Nat.min_self,fj,h]
 exact .of_eq rfl
theorem uf(x y:Str)(i j:Nat)(t u v v':qC)(hj:j≤x.length):Pa («str.count» ⟨[.str x t,.str y u,.int i v,.int j v'],[]⟩) (.int (occurrences x y i j (x.length+1)).length):=by
 show Pa (retInt (occurrences x y (pU x.length i) (min (pU x.length j) x.length) (x.length+1)).length) _
 rw [fj,fj,oq hj]
 exact .of_eq rfl
theorem tV(x y:Str)(i j:Nat)(t u v v':qC)(k:Nat)(hj:j≤x.length)(h:lastOccurrence x y i j=some k):Pa («str.rindex» ⟨[.str x t,.str y u,.int i v,.int j v'],[]⟩) (.int k):=by
 show Pa (match lastOccurrence x y (pU x.length i) (min (pU x.length j) x.length)with | some k=>retInt k | none=>_) _
 rw [fj,fj,oq hj,h]
 exact .of_eq rfl
section
variable{C:Cx} {dep:Nat} {KF I:IM} {st:ak} {s:Shared} {X:XP} {Q:CV→ak→Prop}
theorem eX.str{x:Str}{name:Str}{id:String}(slot:Slot "str" name id)(Qh:lW (.builtin id)=pure (.type "method_descriptor")):eX C (.str x) name (.builtin id) st:=fun I v KF s pl E Q r S q=>by
 refine cG r fun t G8=>?_;try clear r;obtain rfl:=G8
 exact nG (i5 s x t) F.plainAttrs_str slot Qh (fun b e=>by contradiction) (q s.toks)
theorem aW.El(h:Q (.bool (decide (i+y.length≤x.length)&&subAt x y i)) st):aW C (.builtin "str.startswith") [.str x,.str y,.int i] [] [] st Q X:=Yk fun I a b c ra rb rc KF s S=>by
 refine cG ra fun t G8=>?_;try clear ra;obtain rfl:=G8
 refine cG rb fun u G8=>?_;try clear rb;obtain rfl:=G8
 refine cG rc fun v G8=>?_;try clear rc;obtain rfl:=G8
 refine DJ F.slot_str_startswith (i5 s x t) F.entry_str_startswith (F.args_str_startswith_3 _ _ _) (gives_str_startswith_from x y i t u v) ?_
 rw [fj]
 exact (pq (.bool _) S rfl h)
theorem aW.H6(ho:occurrences x y i x.length 1=k::rest)(h:Q (.int k) st):aW C (.builtin "str.index") [.str x,.str y,.int i] [] [] st Q X:=Yk fun I a b c ra rb rc KF s S=>by
 refine cG ra fun t G8=>?_;try clear ra;obtain rfl:=G8
 refine cG rb fun u G8=>?_;try clear rb;obtain rfl:=G8
 refine cG rc fun v G8=>?_;try clear rc;obtain rfl:=G8
 refine DJ F.slot_str_index (i5 s x t) F.entry_str_index (F.args_str_index_3 _ _ _) (ue x y i t u v k rest ho) ?_
 exact (pq (.int k) (S.toks _) (dA _ rfl) h)
theorem aW.H7(hj:j≤x.length)(h:Q (.int ((occurrences x y i j (x.length+1)).length:Nat)) st):aW C (.builtin "str.count") [.str x,.str y,.int i,.int j] [] [] st Q X:=Yl fun I a b c d ra rb rc rd KF s S=>by
 refine cG ra fun t G8=>?_;try clear ra;obtain rfl:=G8
 refine cG rb fun u G8=>?_;try clear rb;obtain rfl:=G8
 refine cG rc fun v G8=>?_;try clear rc;obtain rfl:=G8
 refine cG rd fun v' G8=>?_;try clear rd;obtain rfl:=G8
 refine DJ F.slot_str_count (i5 s x t) F.entry_str_count (F.args_str_count_4 _ _ _ _) (uf x y i j t u v v' hj) ?_
 exact (pq (.int _) (S.toks _) (dA _ rfl) h)
theorem aW.Em(hj:j≤x.length)(ho:lastOccurrence x y i j=some k)(h:Q (.int k) st):aW C (.builtin "str.rindex") [.str x,.str y,.int i,.int j] [] [] st Q X:=Yl fun I a b c d ra rb rc rd KF s S=>by
 refine cG ra fun t G8=>?_;try clear ra;obtain rfl:=G8
 refine cG rb fun u G8=>?_;try clear rb;obtain rfl:=G8
 refine cG rc fun v G8=>?_;try clear rc;obtain rfl:=G8
 refine cG rd fun v' G8=>?_;try clear rd;obtain rfl:=G8
 refine DJ F.slot_str_rindex (i5 s x t) F.entry_str_rindex (F.args_str_rindex_4 _ _ _ _) (tV x y i j t u v v' k hj ho) ?_
 exact (pq (.int k) (S.toks _) (dA _ rfl) h)
end
end
section
section
variable{C:Cx} {dep:Nat} {KF I:IM} {st:ak} {s:Shared} {X:XP}
noncomputable def m6(C:Cx)(fa:Addr)(t:Stmt)(pn kn:List Str):Prop:=∃fd,FnAt C fa fd (bodyOf t)∧fd.scope.names=ax t∧∀us vs:List Value,us.length+kn.length=pn.length→vs.length=kn.length→wc fd ⟨us,kn.zip vs⟩=pure (pn.zip (us++vs))
noncomputable def nJ(t:Stmt)(pn:List Str):Bool:=(pn.all fun x=>cg ((ax t).lookup x))&&decide pn.Nodup&&((ax t).all fun x=>x.2 != .free)&&decide ((((ax t).filter fun x=>x.2 == .cell).map (·.1)).Nodup)
theorem m6.same(F:m6 C fa t pn kn)(e:C.iY C'):m6 C' fa t pn kn:=by
 refine eZ F fun fd f h1 h2=>?_
 refine (cB fd ⟨?_,?_,f.body,f.Jk,f.gl,f.bl,f.co,f.gen,f.kind⟩ h1 h2)
 ·rw [e.base];exact f.at_
 ·rw [e.base];exact f.code
theorem dW.same(F:dW C a S)(e:C.iY C'):dW C' a S:=by
 unfold dW at F ⊢
 rw [e.base,e.prog,e.w]
 exact F
theorem kQ.same(h:kQ C G)(e:C.iY C'):kQ C' G:=by
 unfold kQ at h ⊢
 rw [e.mg,e.mb]
 exact h
theorem kQ.sub(h:kQ C G)(hs:∀x v,G'.lookup x=some v→G.lookup x=some v):kQ C G':=fun x v e=>h x v (hs x v e)
theorem m6.call(F:m6 C fa t pn kn)(ok:C.Ok (dep+1))(hn:nJ t pn=true)(h1:args.length+kn.length=pn.length)(h2:ks.length=kn.length)
  (h:∀C':Cx,C'.Ok dep→C.iY C'→HK C' (ax t)→ag C' (bodyOf t) ⟨fun x=>(pn.zip (args++ks)).lookup x,st.H⟩ (fun f aj=>Q f.val ⟨st.lo,aj.H⟩) (fun x aj=>X x ⟨st.lo,aj.H⟩)) :
  aW C (.ref fa) args kn ks st Q X:=by
 refine eZ F fun fd f e1 e2=>?_
 unfold nJ at hn
 simp only [ae,decide_eq_true_eq]at hn
 refine ao hn fun G9 n4=>?_;obtain ⟨⟨n1,n2⟩,n3⟩:=G9
 refine NF ok f (fun us vs l1 l2=>e2 us vs (T4 [.e (.a .x .y) .z,.e .w .x] (.e (.a .w .y) .z) tA h1 l1) (T3 [.e .x .y,.e .z .x] (.e .z .y) tA h2 l2)) (by rw [e1];exact n1) n2 (by rw [e1];exact n3) (by rw [e1];exact n4) fun C' j9 sm qI=>h C' j9 sm fun y=>?_
 unfold eB
 rw [qI,e1]
theorem nc{S:Str→Bool}{Q:CV→ak→Prop}(F:m6 C 323 (bK 26) ["src", "pos", "chars"] [])(ok:C.Ok (dep+1))(hG:kQ C [("IndexError",.type "IndexError")])(hF:dW C a S)(hT:st.H C.tb≠none)(hx:src.length<2 ^ 60)(GJ:k≤src.length)
  (h:Q (.int ((k+eJ S (src.cps.toList.drop k):Nat):Int)) st):aW C (.ref 323) [.str src,.int k,.raw (.ref a)] [] [] st Q X:=by
 refine F.call ok (by decide +kernel) rfl rfl fun C' j9 sm hk=>?_
 exact NS j9 hk (hG.same sm) (hF.same sm) (by rw [sm.tb];exact hT) hx GJ fun bY=>h
end
end
section
theorem Bx:pV pW "frozenset.isdisjoint" = some eF.«frozenset.isdisjoint»:=kO (by kernel_rfl)
theorem nf:pV pW "frozenset.isdisjoint.loop" = some eF.«frozenset.isdisjoint.loop»:=kO (by kernel_rfl)
theorem iK:plainId "frozenset.isdisjoint.loop" = true:=by decide +kernel
theorem sD:Slot "frozenset" "isdisjoint" "frozenset.isdisjoint" :=
 .of (owner := "frozenset") (n := "isdisjoint") (by rw [gV,dq];kernel_rfl) (by decide +kernel) (by decide +kernel) (by decide +kernel)
  (by first | exact .inl (by decide +kernel) | exact .inr (by decide +kernel)) (by rw [ba];kernel_rfl)
theorem En(a b:Value):DK "frozenset.isdisjoint" ⟨[a,b],[]⟩:=by unfold DK;kernel_rfl
theorem Eo:lW (.builtin "frozenset.isdisjoint")=pure (.type "method_descriptor"):=by show builtinType _=_;rw [builtinType_eq_fast];kernel_rfl
section
variable{prog:Program} {w:World} {A:eh} {s:Shared} {a:Addr} {S:Str→Bool} {n:Nat} {x:Str}
theorem rD{St:Nat→Heap→Prop}{R:Result→Shared→Prop}(W:Walks prog w A.in1 I [I] [I] x.cps.size (SignAt x) St)(Yx:I≠a)(hn:n<4096):
  ∀(k i:Nat) (s:Shared),x.cps.size-i=k→i≤x.cps.size→St i s.heap→YE (i6 prog w) s.heap a S n→(∀(j c:Nat),x.cps[j]?=some c→S ⟨#[c]⟩=false) →
   (∀h' tk,(∀b o,b≠I→s.heap.get? b=some o→h'.get? b=some o)→R (.ok (.ret (.bool true))) { s with heap:=h',toks:=tk }) →
   gq (aS prog w) A (.builtin "frozenset.isdisjoint.loop" ⟨[.ref a,.ref I],[]⟩) R s
 | 0,i,s,hk,hi,sE,hF,hS,hR=>by
  have zc:i=x.cps.size:=T2 [.u .x .y,.e .x (.n 0),.l .z .y] (.e .z .y) tA hk hi
  clear hk hi;subst zc
  refine ig nf ?_
  rw [jR iK _]
  show aR _ A.in1 (kN (.ref I) >>= _) _ _ s
  refine aA (W.done s _ _ sE fun h' tk oQ=>?_)
  exact aC (hR h' tk fun b o hb e=>oQ b o (by simpa using hb) e)
 | k+1,i,s,hk,hi,sE,hF,hS,hR=>by
  have fM:i<x.cps.size:=T3 [.u .x .y,.e .x (.a .w .o)] (.t .z .y) tA hk
  refine ig nf ?_
  rw [jR iK _]
  show aR _ A.in1 (kN (.ref I) >>= _) _ _ s
  refine aA (W.item i s _ _ fM sE fun v h' tk hv Vx oQ=>?_)
  refine gP hv fun c u hc G5=>?_;clear hv;obtain rfl:=G5
  refine BK hF fun es ep t ho UR Ep hsz hf=>?_
  have zd:h'.get? a=_:=oQ a _ (by simpa using fun e=>Yx e.symm) ho
  show aR _ A.in1 (holding [zl ⟨#[c]⟩ u] (setContains a (.str ⟨#[c]⟩ u)) >>= _) _ _ _
  refine aA (bS ?_)
  unfold setContains
  refine bS ?_
  refine aA ((i6 prog w).pyHash (k:=⟨#[c]⟩) (by simp [i6,d7]) ?_)
  refine aA (setFind_any (knd:=i6 prog w) (k:=⟨#[c]⟩) (by simp [i6,d7]) rfl zd rfl UR Ep (by rw [hsz];exact hn) hf fun r hr=>?_)
  refine aC ?_
  rw [hr,hS i c hc]
  dsimp only [aL,↓reduceIte,iF,iT,iG,iU,iH,iV,nT,nF,aT,aF,oT,oF]
  refine aC ⟨oG iK _,?_⟩
  refine rD W Yx hn k (i+1) _ (T3 [.u .x .y,.u .y (.a .z .o),.e .y (.a .s .o)] (.e .x .s) tA hk) fM Vx (JF es ep t zd UR Ep hsz hf) hS fun Jq Qi Vy=>?_
  exact hR Jq Qi fun b o hb e=>Vy b o hb (oQ b o (by simpa using hb) e)
end
end
section
section
variable{C:Cx} {dep:Nat} {KF I:IM} {st:ak} {s:Shared} {X:XP} {Q:CV→ak→Prop}
theorem dW.at(F:dW C a S)(SS:SR C KF I st s):∃n,n<4096∧YE (i6 C.prog C.w) s.heap a S n:=by
 refine az F fun n hn R9=>?_;(refine j7 R9 fun es ep t ho rest=>?_)
 exact (aw n hn (Oy es ep t (SS.de _ _ (SS.base _ _ ho)) rest))
theorem aW.NT(ok:C.Ok dep)(hF:dW C a S)(hS:∀(j c:Nat),x.cps[j]?=some c→S ⟨#[c]⟩=false)(h:Q (.bool true) st):aW C (.builtin "frozenset.isdisjoint") [.raw (.ref a),.str x] [] [] st Q X:=fun I us BL r1 r2 KF s SS=>by
 revert r1;intro R8;refine gP R8.cO fun a1 Yy G7 R9=>?_;try clear R8;obtain rfl:=G7;(refine ao R9 fun ra r1=>?_;try clear R9)
 revert r1;intro R8;refine gP R8.cO fun b1 us2 G7 R9=>?_;try clear R8;obtain rfl:=G7;(refine ao R9 fun rb r1=>?_;try clear R9)
 have:=r1.dQ;clear r1;subst this
 rw [zip_nil_left]
 subst ra
 refine cG rb fun t G8=>?_;clear rb;obtain rfl:=G8
 refine az (hF.at SS) fun n hn hA=>?_
 refine BK (id hA) fun es ep tb ho UR Ep hsz hf=>?_
 have hT:s.TypeIs (.ref a) "frozenset":=(aw _ ho rfl)
 have fM:a<s.heap.objs.size:=av ho
 refine eO (fR sD.plain Bx (sD.check _ _ _ _ _ _ _ _ hT (En _ _) ?_))
 delta eF.«frozenset.isdisjoint» LV LW
 dsimp only [jS]
 refine aA (aA (aC (aC ?_)))
 dsimp only
 have cx:(zl x t == dD a)=false:=beq_eq_false_iff_ne.mpr fun q=>by contradiction
 rw [cx]
 dsimp only [aL,↓reduceIte,iF,iT,iG,iU,iH,iV,nT,nF,aT,aF,oT,oF]
 refine aA (aC ?_)
 have h1:(dw "str" == dw "set" || dw "str" == dw "frozenset")=false:=by decide
 rw [h1]
 dsimp only [aL,↓reduceIte,iF,iT,iG,iU,iH,iV,nT,nF,aT,aF,oT,oF]
 refine aA (wpAny_pyIter_str fun o St hW sE=>?_)
 refine aC ⟨oG iK _,?_⟩
 refine rD (hW _ ok.hd) (cW fM) hn _ 0 _ rfl (gm _) sE (JF es ep tb (aX _ ho) UR Ep hsz hf) hS fun h' tk hk=>?_
 refine (pq (.bool true) ?_ rfl h)
 refine SS.keeps (tk:=tk) fun b ob e=>?_
 exact hk b ob (th (av e)) (aX _ e)
theorem tW:PlainAttrs "frozenset" :=
 ⟨(aw ("object.__getattribute__") (by rw [gV,dq];kernel_rfl) (by decide +kernel)),by rw [gV,dq];kernel_rfl⟩
theorem eX.NT(hF:dW C a S):eX C (.raw (.ref a)) "isdisjoint" (.builtin "frozenset.isdisjoint") st:=fun I v KF s pl E Q r SS q=>by
 subst r
 refine az (hF.at SS) fun n hn R9=>?_;(refine j7 R9 fun es ep tb ho rest=>?_)
 exact nG (aw _ ho rfl) tW sD Eo (fun b e=>by cases e;exact (aw _ ho rfl)) (q s.toks)
end
end
section
open Builtin Builtin.Str
section
variable{C:Cx} {dep:Nat} {KF I:IM} {st:ak} {s:Shared} {X:XP}
theorem Jw(ok:C.Ok dep)(hk:HK C (ax (bK 27)))(hG:kQ C [("ValueError",.type "ValueError")])(hF:dW C a S)(hx:src.length≤bZ)
  (ho:occurrences src ex i src.length 1=k::rest) (MB:i≤k) (GJ:k≤src.length) (hS:∀(j c:Nat),(part src i k).cps[j]?=some c→S ⟨#[c]⟩=false)
  (h:∀bY,Q (.ret (.int k)) ⟨bY,H⟩):ag C (bodyOf (bK 27)) ⟨fun y=>([("src" : Str), "pos", "expect", "error_on", "error_on_eof"].zip [.str src,.int i,.str ex,.raw (.ref a),.bool true]).lookup y,H⟩ Q X:=by
 have fin:∀bJ:ak,bJ.lo "src" = some (.str src)→bJ.lo "pos" = some (.int i)→bJ.lo "error_on" = some (.raw (.ref a))→bJ.lo "new_pos" = some (.int k)→bJ.H=H→ag C ((bodyOf (bK 27)).drop 1) bJ Q X:=by
  rintro ⟨lo,H'⟩ l1 l2 l3 l4 e
  subst e
  refine ag.cons (WS.oK (WT.not (WT.value rfl (WE.lH ok (WE.nm ok hk l3 (cB _ bu.builtin (eX.NT hF) ?_))))))
  refine WE.slice (WE.nm ok hk l1 (WE.nm ok hk l2 (aw _ rfl (WE.nm ok hk l4 (aw _ rfl (BM.str MB GJ hx ?_))))))
  refine aW.NT ok hF hS (iW.bool ⟨fun q=>(aD q),fun _=>ag.nil ?_⟩)
  exact ag.cons (WS.ret (WE.nm ok hk l4 (h _)))
 refine ag.cons (WS.zz (tn := "ValueError") ok hG rfl (by rw [hk];rfl) (by rw [ba];kernel_rfl) (by rw [ba];kernel_rfl) ?_)
 refine ag.cons (WS.bE (WE.lH ok (WE.nm ok hk rfl (cB _ bu.builtin (eX.str F.slot_str_index F.type_str_index) ?_))))
 refine WE.nm ok hk rfl (WE.nm ok hk rfl (aW.H6 ho ?_))
 refine WA.nm ok hk (ag.nil (ag.nil (fin _ ?_ ?_ ?_ ?_ rfl)))
 ·exact (ai (by decide)).trans rfl
 ·exact (ai (by decide)).trans rfl
 ·exact (ai (by decide)).trans rfl
 ·exact bP
end
end
section
open Builtin Builtin.Str
section
variable{C:Cx} {dep:Nat} {KF I:IM} {st:ak} {s:Shared} {X:XP}
theorem kQ.one(h:kQ C G)(hv:G.lookup y=some u):kQ C [(y,u)]:=h.sub fun x v e=>by
 simp only [bQ]at e
 cases hq:x == y with
 | true =>
  rw [hq]at e
  rw [beq_iff_eq.mp hq,hv]
  exact e
 | false =>
  rw [hq]at e
  contradiction
theorem Er(F:m6 C 330 (bK 27) ["src", "pos", "expect", "error_on", "error_on_eof"] ["error_on", "error_on_eof"])(ok:C.Ok (dep+1))(hG:kQ C [("ValueError",.type "ValueError")])(hF:dW C a S)(hx:src.length≤bZ)
  (ho:occurrences src ex i src.length 1=k::rest) (MB:i≤k) (GJ:k≤src.length) (hS:∀(j c:Nat),(part src i k).cps[j]?=some c→S ⟨#[c]⟩=false)
  (h:Q (.int k) st):aW C (.ref 330) [.str src,.int i,.str ex] ["error_on", "error_on_eof"] [.raw (.ref a),.bool true] st Q X:=by
 refine F.call ok (by decide +kernel) rfl rfl fun C' j9 sm hk=>?_
 exact Jw j9 hk (hG.same sm) (hF.same sm) hx ho MB GJ hS fun bY=>h
theorem Es(ok:C.Ok (dep+1))(hk:HK C (ax (bK 35)))(hG:kQ C [("skip_until",.ref 330),("ILLEGAL_LITERAL_STR_CHARS",.ref 115),("ValueError",.type "ValueError")])(hF:dW C 115 S)
  (F:m6 C 330 (bK 27) ["src", "pos", "expect", "error_on", "error_on_eof"] ["error_on", "error_on_eof"]) (MC:bu C (.ref 330)) (hx:src.length≤bZ)
  (ho:occurrences src "'" (i+1) src.length 1=k::rest) (MB:i+1≤k) (GJ:k≤src.length) (hS:∀(j c:Nat),(part src (i+1) k).cps[j]?=some c→S ⟨#[c]⟩=false)
  (h:∀bY,Q (.ret (.tup [.int ((k:Int)+1),.str (part src (i+1) k)])) ⟨bY,H⟩):ag C (bodyOf (bK 35)) ⟨fun y=>([("src" : Str), "pos"].zip [.str src,.int i]).lookup y,H⟩ Q X:=by
 refine ag.cons (WS.aug ok (by rw [hk];rfl) (WE.nm ok hk rfl (WE.int (W2.A5 ?_))))
 refine ag.cons (WS.bE (WE.nm ok hk bP (WA.nm ok hk ?_)))
 refine ag.cons (WS.bE (WE.call ok (WE.glob ok hG rfl (cB _ rfl MC ?_) (by rw [hk];rfl))))
 refine WE.nm ok hk (v:=.str src) ?_ (WE.nm ok hk (v:=.int ((i:Int)+1)) ?_ (WE.str (WE.glob ok hG rfl (WE.bool ?_) (by rw [hk];rfl))))
 ·exact (ai (by decide)).trans ((ai (by decide)).trans rfl)
 ·exact (ai (by decide)).trans bP
 have Vz:((i:Int)+1)=((i+1:Nat):Int):=by rfl
 rw [Vz]
 refine Er F ok (hG.one rfl) hF hx ho MB GJ hS ?_
 refine WA.nm ok hk ?_
 refine ag.cons (WS.ret (WE.tuple ?_))
 refine WE.binop (WE.nm ok hk bP (WE.int (W2.kZ ?_)))
 refine WE.slice (WE.nm ok hk (v:=.str src) ?_ (WE.nm ok hk (v:=.int ((i+1:Nat):Int)) ?_ (aw _ rfl (WE.nm ok hk (v:=.int k) bP (aw _ rfl (BM.str MB GJ hx ?_))))))
 ·exact (ai (by decide)).trans ((ai (by decide)).trans ((ai (by decide)).trans rfl))
 ·exact (ai (by decide)).trans bP
 exact ⟨(by show 2≤2 ^ 24;decide),h _⟩
end
end
section
open Builtin Builtin.Str
theorem ug:∀cs:List Nat,eJ S cs≤cs.length
 | []=>bX _
 | c::cs=>by
  unfold eJ
  split
  ·exact vd (ug cs)
  ·exact gm _
section
variable{C:Cx} {dep:Nat} {KF I:IM} {st:ak} {s:Shared} {X:XP}
noncomputable abbrev GK:List (Str×Value):=[("skip_until",.ref 330),("ILLEGAL_LITERAL_STR_CHARS",.ref 115),("ValueError",.type "ValueError"),("BARE_KEY_CHARS",.ref 130),("skip_chars",.ref 323),("IndexError",.type "IndexError"),("parse_literal_str",.ref 387),("TOML_WS",.ref 121),("parse_key_part",.ref 351),("len",.builtin "len"),("MAX_KEY_PARTS",.int 1000 293)]
theorem kQ.part(h:kQ C G)(hs:(G'.all fun x=>G.lookup x.1 == some x.2)=true):kQ C G':=h.sub fun x v e=>by
 have:∀l:List (Str×Value),(∀y∈l,G.lookup y.1=some y.2)→l.lookup x=some v→G.lookup x=some v:=by
  intro l
  induction l with
  | nil=>intro _ q;contradiction
  | cons y l ih =>
   intro hl q
   rw [bQ]at q
   cases hq:x == y.1 with
   | true =>
    rw [hq]at q
    obtain rfl:=aE q
    rw [beq_iff_eq.mp hq]
    exact hl y aH
   | false =>
    rw [hq]at q
    exact ih (fun z hz=>hl z (aG _ hz)) q
 exact this G' (fun y hy=>beq_iff_eq.mp (bc.mp hs y hy)) e
theorem uh{src:Str}{i c:Nat}{H:CH}(ok:C.Ok (dep+2))(hk:HK C (ax (bK 30)))(hG:kQ C GK)(hB:dW C 130 B)(hx:src.length≤bZ)(Bj:i<2 ^ 60)(hc:src.cps[i]?=some c)
  (h:∀bJ:ak,bJ.lo "src" = some (.str src)→bJ.lo "pos" = some (.int i)→bJ.lo "char" = some (.str ⟨#[c]⟩)→bJ.H=H→ag C ((bodyOf (bK 30)).drop 1) bJ Q X) :
  ag C (bodyOf (bK 30)) ⟨fun y=>([("src" : Str), "pos"].zip [.str src,.int i]).lookup y,H⟩ Q X:=by
 refine ag.cons (WS.zz (tn := "IndexError") ok hG rfl (by rw [hk];rfl) (by rw [ba];kernel_rfl) (by rw [ba];kernel_rfl) ?_)
 refine ag.cons (WS.bE (WE.sub (WE.nm ok hk rfl (WE.nm ok hk rfl (W2.yI ok (fun hn=>by rw [hc]at hn;contradiction) (bj (by assumption) (by decide)) (fun c' yQ=>?_) fun hn=>?_)))))
 ·rw [hc]at yQ
  obtain rfl:=aE yQ
  refine WA.nm ok hk (ag.nil (ag.nil (h _ ?_ ?_ bP rfl)))
  ·exact (ai (by decide)).trans rfl
  ·exact (ai (by decide)).trans rfl
 ·rw [hc]at hn
  contradiction
theorem By{src:Str}{i c:Nat}{H:CH}(ok:C.Ok (dep+2))(hk:HK C (ax (bK 30)))(hG:kQ C GK)(hB:dW C 130 B)(F:m6 C 323 (bK 26) ["src", "pos", "chars"] [])(MC:bu C (.ref 323))(hT:H C.tb≠none)(hx:src.length≤bZ)(Bj:src.length<2 ^ 60)(hc:src.cps[i]?=some c)(hb:B ⟨#[c]⟩=true)
  (h:∀bY,Q (.ret (.tup [.int ((i+eJ B (src.cps.toList.drop i):Nat):Int),.str (part src i (i+eJ B (src.cps.toList.drop i)))])) ⟨bY,H⟩):ag C (bodyOf (bK 30)) ⟨fun y=>([("src" : Str), "pos"].zip [.str src,.int i]).lookup y,H⟩ Q X:=by
 have hi:i<src.length:=(cE.mp hc).1
 have hle:i+eJ B (src.cps.toList.drop i)≤src.length:=by
  have:=ug (S:=B) (src.cps.toList.drop i)
  rw [uF]at this
  have hl:src.cps.toList.length=src.length:=by dsimp [It]
  exact T4 [.u .w .x,.t .y .z,.l .w .x,.e .s .z] (.l (.a .y .w) .z) tA hi this hl
 refine uh ok hk hG hB hx (bD (by assumption) (by assumption)) hc ?_
 rintro ⟨lo,H'⟩ l1 l2 l3 e
 subst e
 refine ag.cons (WS.oK (WT.ez (WE.nm ok hk l3 (WE.glob ok hG rfl (W2.Bo ok hB (iW.bool ⟨fun _=>?_,fun q=>?_⟩)) (by rw [hk];rfl)))))
 ·refine ag.cons (WS.bE (WE.nm ok hk l2 (WA.nm ok hk ?_)))
  refine ag.cons (WS.bE (WE.call ok (WE.glob ok hG rfl (cB _ rfl MC ?_) (by rw [hk];rfl))))
  refine WE.nm ok hk (v:=.str src) ((ai (by decide)).trans l1) (WE.nm ok hk (v:=.int i) ((ai (by decide)).trans l2) (WE.glob ok hG rfl ?_ (by rw [hk];rfl)))
  refine nc F ok (hG.one rfl) hB hT Bj (cF (by assumption)) ?_
  refine WA.nm ok hk ?_
  refine ag.cons (WS.ret (WE.tuple ?_))
  refine WE.nm ok hk bP ?_
  refine WE.slice (WE.nm ok hk (v:=.str src) ?_ (WE.nm ok hk (v:=.int i) ?_ (aw _ rfl (WE.nm ok hk (v:=.int ((i+eJ B (src.cps.toList.drop i):Nat):Int)) bP (aw _ rfl (BM.str (bf _ _) hle hx ?_))))))
  ·exact (ai (by decide)).trans ((ai (by decide)).trans l1)
  ·exact (ai (by decide)).trans bP
  exact ⟨(by show 2≤2 ^ 24;decide),h _⟩
 ·rw [hb]at q
  exact aD q
end
end
section
open Builtin Builtin.Str
section
variable{C:Cx} {dep:Nat} {KF I:IM} {st:ak} {s:Shared} {X:XP}
structure qO(C:Cx):Prop where
 skip:m6 C 323 (bK 26) ["src", "pos", "chars"] []
 until_:m6 C 330 (bK 27) ["src", "pos", "expect", "error_on", "error_on_eof"] ["error_on", "error_on_eof"]
 lit:m6 C 387 (bK 35) ["src", "pos"] []
 part:m6 C 351 (bK 30) ["src", "pos"] []
 xR:bu C (.ref 323)
 H8:bu C (.ref 330)
 Qj:bu C (.ref 387)
 H9:bu C (.ref 351)
theorem bu.same(h:bu C f)(e:C.iY C'):bu C' f:=by
 unfold bu at h ⊢
 rw [e.K,e.prog,e.w]
 exact h
theorem qO.same(h:qO C)(e:C.iY C'):qO C':=⟨h.skip.same e,h.until_.same e,h.lit.same e,h.part.same e,h.xR.same e,h.H8.same e,h.Qj.same e,h.H9.same e⟩
theorem Et(ok:C.Ok (dep+2))(hk:HK C (ax (bK 30)))(hG:kQ C GK)(hB:dW C 130 B)(hS':dW C 115 S)(F:qO C)(hx:src.length≤bZ)(Bj:src.length<2 ^ 60)(hc:src.cps[i]?=some 39)(hb:B ⟨#[39]⟩=false)
  (ho:occurrences src "'" (i+1) src.length 1=k::rest) (MB:i+1≤k) (GJ:k≤src.length) (hS:∀(j c:Nat),(Mine.part src (i+1) k).cps[j]?=some c→S ⟨#[c]⟩=false)
  (h:∀bY,Q (.ret (.tup [.int ((k:Int)+1),.str (Mine.part src (i+1) k)])) ⟨bY,H⟩):ag C (bodyOf (bK 30)) ⟨fun y=>([("src" : Str), "pos"].zip [.str src,.int i]).lookup y,H⟩ Q X:=by
 have hi:i<src.length:=(cE.mp hc).1
 refine uh ok hk hG hB hx (bD (by assumption) (by assumption)) hc ?_
 rintro ⟨lo,H'⟩ l1 l2 l3 e
 subst e
 refine ag.cons (WS.oK (WT.ez (WE.nm ok hk l3 (WE.glob ok hG rfl (W2.Bo ok hB (iW.bool ⟨fun q=>?_,fun _=>ag.nil ?_⟩)) (by rw [hk];rfl)))))
 ·rw [hb]at q
  exact aD q
 ·refine ag.cons (WS.oK (WT.ez (WE.nm ok hk l3 (WE.str (W2.Yt ok (by decide +kernel) (by decide +kernel) (by decide +kernel) (iW.bool ⟨fun _=>?_,fun q=>?_⟩))))))
  ·refine ag.cons (WS.ret (WE.call ok (WE.glob ok hG rfl (cB _ rfl F.Qj ?_) (by rw [hk];rfl))))
   refine WE.nm ok hk (v:=.str src) l1 (WE.nm ok hk (v:=.int i) l2 ?_)
   refine F.lit.call ok (by decide +kernel) rfl rfl fun C' j9 sm oQ=>?_
   exact Es j9 oQ ((hG.same sm).part (by decide +kernel)) (hS'.same sm) (F.until_.same sm) (F.H8.same sm) hx ho MB GJ hS fun bY=>h _
  ·exact absurd q (by decide)
end
end
section
open Builtin Builtin.Str
section
variable{C:Cx} {dep:Nat} {KF I:IM} {st:ak} {s:Shared} {X:XP}
theorem lK:vc (.type "tuple") (dunderI "add")=pure none:=by rw [gV,dq];kernel_rfl
theorem lM{prog:Program}{w:World}{A:eh}{s:Shared}{T id:String}{B:eF}{a b:Value}{S:PySem.Spec}(ha:s.TypeIs a T)(hb:s.TypeIs b T)(Bz:vc (.type T) (dunderI "add")=pure none)
  (Qk:fillsNumberSlot (.type T) "add" = pure false) (NU:seqSlot? (.type T) "__add__" = pure (some (.builtin id))) (slot:Slot T "__add__" id)
  (entry:pV pW id=some B) (args:DK id ⟨[a,b],[]⟩) (g:Meets (B ⟨[a,b],[]⟩) S) (h:S A (wants Q E) s):aR (aS prog w) A (pP .Add a b) Q E s :=
 wpAny_inplaceOp_concat ha hb Bz Qk NU (Oe slot ha entry args g h)
theorem W2.Ql{as bs:List CV}(hl:as.length+bs.length≤2 ^ 24)(h:Q (.tup (as++bs)) st):W2 C (pP .Add) (.tup as) (.tup bs) st Q X:=fun I v u r1 r2 KF s S=>by
 have M5:=r1;have Qe:=r2
 refine j7 r1 fun a n xs G5 R9=>?_;try clear r1;obtain rfl:=G5;(refine ao R9 fun hi hr=>?_;try clear R9)
 refine j7 r2 fun b m ys G5 R9=>?_;try clear r2;obtain rfl:=G5;(refine ao R9 fun hj vm=>?_;try clear R9)
 have ha:=S.de _ _ hi
 have hb:=S.de _ _ hj
 have e:=hr.length
 have e':=vm.length
 by_cases h0:xs.isEmpty=true
 ·refine lM (aw _ ha rfl) (aw _ hb rfl) lK iD kW F.slot_tuple_add F.entry_tuple_add (F.args_tuple_add_2 _ _) (tuple_addW0 a b xs ys n m none none #[] #[] h0) (d9 ha hb ?_)
  have:as=[]:=by
   have hx:xs.toList=[]:=by simpa using h0
   rw [hx]at e;exact aP e
  clear hl M5 hr e;subst this
  exact (pq _ S Qe h)
 ·by_cases h1:ys.isEmpty=true
  ·refine lM (aw _ ha rfl) (aw _ hb rfl) lK iD kW F.slot_tuple_add F.entry_tuple_add (F.args_tuple_add_2 _ _) (tuple_addW1 a b xs ys n m none none #[] #[] h0 h1) (d9 ha hb ?_)
   have:bs=[]:=by
    have hx:ys.toList=[]:=by simpa using h1
    rw [hx]at e';exact aP e'
   clear hl Qe vm e';subst this
   rw [f9]at h
   exact (pq _ S M5 h)
  ·refine lM (aw _ ha rfl) (aw _ hb rfl) lK iD kW F.slot_tuple_add F.entry_tuple_add (F.args_tuple_add_2 _ _) (tuple_addW2 a b xs ys n m none none #[] #[] h0 h1 (by rw [aa];simp at e e';exact T4 [.l (.a .x .y) (.n 16777216),.e .x .z,.e .y .w] (.l (.a .z .w) (.n 16777216)) tA hl e e')) (d9 ha hb ?_)
   refine ao (S.mT (o:={ cls:=.type "tuple",dict:=.none,data:=.seq (xs++ys) }) rfl) fun l S'=>?_
   refine (dK _ st l S' (aw (.tup (as++bs)) ?_ h))
   exact (tq _ _ _ rfl cw (ck.mono l _ _ (by simpa using hr.append vm)))
theorem WT.Qm{k pos}(h:Q true st):WT C (.Constant (.bool true) k pos) st Q X:=WT.value rfl (WE.bool (iW.bool h))
theorem WE.Qn{pos}(ok:C.Ok dep)(hG:kQ C G)(hv:G.lookup x=some (.int i t))(h:Q (.int i) st)(hk:C.env.kindOf x=some .globalImplicit)
  (hd:(x == ("__debug__" : Str))=false:=by decide):WE C (.Name x pos) st Q X:=fun I KF s S =>
 aM (qz (E:=fun _ _=>False) ok.toOkE S hG hv hk hd) (fun c s' R3=>ao R3 fun e1 e2=>by
  clear R3;subst e1 e2
  exact (pq (.int i) S (dA _ rfl) h)) fun _ _ q=>q.elim
end
end
section
open Builtin Builtin.Str
inductive iu(B S:Str→Bool)(src:Str)(i:Nat):Str→Nat→Prop
 | bare (c:Nat):src.cps[i]?=some c→B ⟨#[c]⟩=true→iu B S src i (part src i (i+eJ B (src.cps.toList.drop i))) (i+eJ B (src.cps.toList.drop i))
 | lit (k:Nat) (rest:List Nat):src.cps[i]?=some 39→B ⟨#[39]⟩=false→occurrences src "'" (i+1) src.length 1=k::rest→i+1≤k→k≤src.length→(∀(j c:Nat),(part src (i+1) k).cps[j]?=some c→S ⟨#[c]⟩=false)→iu B S src i (part src (i+1) k) (k+1)
section
variable{C:Cx} {dep:Nat} {KF I:IM} {st:ak} {s:Shared} {X:XP}
theorem AG(ok:C.Ok (dep+3))(hG:kQ C GK)(hB:dW C 130 B)(hS:dW C 115 S)(F:qO C)(hT:st.H C.tb≠none)(hx:src.length≤bZ)(Bj:src.length<2 ^ 60)(hp:iu B S src i nm j)
  (h:Q (.tup [.int j,.str nm]) st):aW C (.ref 351) [.str src,.int i] [] [] st Q X:=by
 refine F.part.call ok (by decide +kernel) rfl rfl fun C' j9 sm hk=>?_
 cases hp with
 | bare c h1 h2=>exact By j9 hk (hG.same sm) (hB.same sm) (F.skip.same sm) (F.xR.same sm) (by rw [sm.tb];exact hT) hx Bj h1 h2 fun bY=>h
 | lit k rest h1 h2 h3 h4 h5 h6 =>
  refine Et j9 hk (hG.same sm) (hB.same sm) (hS.same sm) (F.same sm) hx Bj h1 h2 h3 h4 h5 h6 fun bY=>?_
  have:((k:Int)+1)=((k+1:Nat):Int):=by rfl
  rw [this]
  exact h
end
end
section
open Builtin Builtin.Str
noncomputable def sk(W:Str→Bool)(src:Str)(p:Nat):Nat:=p+eJ W (src.cps.toList.drop p)
inductive mm(B S W:Str→Bool)(src:Str):Nat→List Str→Nat→Prop
 | stop (p:Nat):p≤src.length→src.cps[p]?≠some 46→mm B S W src p [] p
 | more (p:Nat) (nm:Str) (j:Nat) (ns:List Str) (e:Nat):src.cps[p]?=some 46→iu B S src (sk W src (p+1)) nm j→j≤src.length→mm B S W src (sk W src j) ns e→mm B S W src p (nm::ns) e
section
variable{C:Cx} {dep:Nat} {KF I:IM} {st:ak} {s:Shared} {X:XP}
theorem Yz(h:p≤src.length):sk W src p≤src.length:=by
 have:=ug (S:=W) (src.cps.toList.drop p)
 rw [uF]at this
 have hl:src.cps.toList.length=src.length:=by dsimp [It]
 unfold sk
 exact T4 [.u .w .x,.l .y .z,.l .w .x,.e .s .z] (.l (.a .y .w) .z) tA h this hl
theorem mm.le(h:mm B S W src p ns e):p≤src.length:=by
 cases h with
 | stop _ h _=>exact h
 | more _ _ _ _ _ h _ _ _=>exact cF (cE.mp h).1
theorem Qo(ok:C.Ok (dep+4))(hk:HK C (ax (bK 29)))(hG:kQ C GK)(hB:dW C 130 B)(hS:dW C 115 S)(hW:dW C 121 W)(F:qO C)(hT:H C.tb≠none)(hx:src.length≤bZ)(Bj:src.length<2 ^ 60)
  (hp:iu B S src i nm j) (hj:j≤src.length) (iJ:mm B S W src (sk W src j) ns e) (hn:ns.length<1000) (Qp:∀(p c:Nat),src.cps[p]?=some c→eS (.str ⟨#[c]⟩)=true)
  (h:∀bY,Q (.ret (.tup [.int e,.tup ((nm::ns).map .str)])) ⟨bY,H⟩):ag C (bodyOf (bK 29)) ⟨fun y=>([("src" : Str), "pos"].zip [.str src,.int i]).lookup y,H⟩ Q X:=by
 refine ag.cons (WS.bE (WE.call ok (WE.glob ok hG rfl (cB _ rfl F.H9 ?_) (by rw [hk];rfl))))
 refine WE.nm ok hk (v:=.str src) rfl (WE.nm ok hk (v:=.int i) rfl (AG ok hG hB hS F hT hx Bj hp ?_))
 refine WA.tuple ok rfl (WA.nm ok hk (WA.nm ok hk ?_))
 refine ag.cons (WS.bE (WE.tuple (WE.nm ok hk bP ⟨(by show 1≤2 ^ 24;decide),WA.nm ok hk ?_⟩)))
 refine ag.cons (WS.bE (WE.call ok (WE.glob ok hG rfl (cB _ rfl F.xR ?_) (by rw [hk];rfl))))
 refine WE.nm ok hk (v:=.str src) ?_ (WE.nm ok hk (v:=.int j) ?_ (WE.glob ok hG rfl ?_ (by rw [hk];rfl)))
 ·exact (ai (by decide)).trans ((ai (by decide)).trans ((ai (by decide)).trans rfl))
 ·exact (ai (by decide)).trans ((ai (by decide)).trans bP)
 refine nc F.skip ok (hG.one rfl) hW hT Bj hj ?_
 refine WA.nm ok hk ?_
 refine ag.cons (WS.uO ok (fun n bJ=>∃(p:Nat) (pre US:List Str),n=US.length∧bJ.H=H∧bJ.lo "src" = some (.str src)∧bJ.lo "pos" = some (.int p)∧bJ.lo "key" = some (.tup (pre.map .str))∧mm B S W src p US e∧pre++US=nm::ns) ns.length (N5 (sk W src j) ([nm]) ns rfl rfl ?_ bP ?_ iJ rfl) ?_)
 ·exact (ai (by decide)).trans ((ai (by decide)).trans ((ai (by decide)).trans ((ai (by decide)).trans rfl)))
 ·exact (ai (by decide)).trans bP
 rintro n ⟨lo,H'⟩ R4
 refine j7 R4 fun p pre US G5 R9=>?_;try clear R4;obtain rfl:=G5;(refine Jb R9 fun eH l1 l2 l3 UT ui=>?_;try clear R9)
 subst eH
 refine WT.Qm ⟨fun _=>?_,fun q=>(aD q)⟩
 have WB:=UT.le
 refine ag.cons (WS.zz (tn := "IndexError") ok hG rfl (by rw [hk];rfl) (by rw [ba];kernel_rfl) (by rw [ba];kernel_rfl) ?_)
 refine ag.cons (WS.bE (WE.sub (WE.nm ok hk l1 (WE.nm ok hk l2 (W2.yI ok (fun _=>hT) (T2 [.t .x (.n 1152921504606846976),.l .y .x] (.t .y (.n 4611686018427387904)) tA Bj WB) (fun c hc=>?_) fun Qq ta=>?_)))))
 ·refine WA.nm ok hk (ag.nil (ag.nil ?_))
  have hd:(toPy (.str (aB "."))).depth≤100:=by decide +kernel
  refine ag.cons (WS.oK (WT.ez (WE.nm ok hk bP (WE.str (W2.P5 ok (Qp _ _ hc) (by decide +kernel) hd (iW.bool ⟨fun q=>?_,fun q=>?_⟩))))))
  ·cases UT with
   | stop _ _ _ =>
    have WC:pre=nm::ns:=by simpa using ui
    refine ag.cons (WS.ret (WE.tuple (WE.nm ok hk (v:=.int e) ((ai (by decide)).trans l2) (WE.nm ok hk (v:=.tup (pre.map .str)) ((ai (by decide)).trans l3) ⟨(by show 2≤2 ^ 24;decide),?_⟩))))
    rw [WC]
    exact h _
   | more _ _ _ _ _ Jx _ _ _ =>
    rw [hc]at Jx
    obtain rfl:=aE Jx
    exact absurd q (by decide +kernel)
  ·cases UT with
   | stop _ _ Bz =>
    exfalso
    by_cases Jx:c=46
    ·clear q;subst Jx;exact Bz hc
    ·have hcq:sx (.str ⟨#[c]⟩) (.str (aB "."))=true:=by simpa using q
     have he:(⟨#[c]⟩:Str)=aB ".":=by simpa [sx,toPy,ff]using hcq
     have h2:(⟨#[c]⟩:Str)=⟨#[46]⟩:=he.trans (by decide +kernel)
     injection h2 with h3
     exact Jx (by simpa using h3)
   | more _ nm2 j2 WD _ Jx C0 MD Jy =>
    have ME:p<src.length:=(cE.mp Jx).1
    refine ag.nil ?_
    refine ag.cons (WS.aug ok (by rw [hk];rfl) (WE.nm ok hk (v:=.int p) ((ai (by decide)).trans l2) (WE.int (W2.A5 ?_))))
    refine ag.cons (WS.bE (WE.call ok (WE.glob ok hG rfl (cB _ rfl F.xR ?_) (by rw [hk];rfl))))
    refine WE.nm ok hk (v:=.str src) ((ai (by decide)).trans ((ai (by decide)).trans l1)) (WE.nm ok hk (v:=.int ((p:Int)+1)) bP (WE.glob ok hG rfl ?_ (by rw [hk];rfl)))
    have e1:((p:Int)+1)=((p+1:Nat):Int):=by rfl
    rw [e1]
    refine nc F.skip ok (hG.one rfl) hW hT Bj (by assumption) ?_
    refine WA.nm ok hk ?_
    refine ag.cons (WS.bE (WE.call ok (WE.glob ok hG rfl (cB _ rfl F.H9 ?_) (by rw [hk];rfl))))
    refine WE.nm ok hk (v:=.str src) ((ai (by decide)).trans ((ai (by decide)).trans ((ai (by decide)).trans l1))) (WE.nm ok hk (v:=.int (sk W src (p+1):Nat)) bP (AG ok hG hB hS F hT hx Bj C0 ?_))
    refine WA.tuple ok rfl (WA.nm ok hk (WA.nm ok hk ?_))
    have zb:pre.length+WD.length+1=ns.length+1:=by
     have:=congrArg bo ui
     simp at this
     exact T3 [.e (.a .x (.a .y .o)) (.a .z .o)] (.e (.a (.a .x .y) .o) (.a .z .o)) tA this
    refine ag.cons (WS.aug ok (by rw [hk];rfl) (WE.nm ok hk (v:=.tup (pre.map .str)) ?_ (WE.tuple (WE.nm ok hk bP ⟨(by show 1≤2 ^ 24;decide),W2.Ql (by simp;exact T3 [.t .x (.n 1000),.e (.a (.a .y .z) .o) (.a .x .o)] (.l .y (.n 16777215)) tA hn zb) ?_⟩))))
    ·exact (ai (by decide)).trans ((ai (by decide)).trans ((ai (by decide)).trans ((ai (by decide)).trans ((ai (by decide)).trans l3))))
    refine ag.cons (WS.oK (WT.ez (WE.call ok (WE.glob ok hG rfl (cB _ rfl bu.builtin (WE.nm ok hk bP (aW.Vv (by simp;exact T3 [.t .x (.n 1000),.e (.a (.a .y .z) .o) (.a .x .o)] (.l .y (.n 16777215)) tA hn zb) (WE.Qn ok hG rfl (W2.gtI (iW.bool ⟨fun q=>?_,fun _=>ag.nil ?_⟩)) (by rw [hk];rfl))))) (by rw [hk];rfl)))))
    ·simp at q
     exact absurd q (fm.mpr (ct.mpr (T3 [.t .x (.n 1000),.e (.a (.a .y .z) .o) (.a .x .o)] (.l (.a .y .o) (.n 1000)) tA hn zb)))
    refine ag.cons (WS.bE (WE.call ok (WE.glob ok hG rfl (cB _ rfl F.xR ?_) (by rw [hk];rfl))))
    refine WE.nm ok hk (v:=.str src) ?_ (WE.nm ok hk (v:=.int j2) ?_ (WE.glob ok hG rfl ?_ (by rw [hk];rfl)))
    ·exact (ai (by decide)).trans ((ai (by decide)).trans ((ai (by decide)).trans ((ai (by decide)).trans ((ai (by decide)).trans ((ai (by decide)).trans l1)))))
    ·exact (ai (by decide)).trans ((ai (by decide)).trans bP)
    refine nc F.skip ok (hG.one rfl) hW hT Bj MD ?_
    refine WA.nm ok hk (ag.nil (aw WD.length (by simp) (N5 (sk W src j2) (pre++[nm2]) WD rfl rfl ?_ bP ?_ Jy (by simpa using ui))))
    ·exact (ai (by decide)).trans ((ai (by decide)).trans ((ai (by decide)).trans ((ai (by decide)).trans ((ai (by decide)).trans ((ai (by decide)).trans ((ai (by decide)).trans l1))))))
    ·refine (ai (by decide)).trans (bP.trans ?_)
     rw [dz]
     rfl
 ·refine (cB ("IndexError") rfl (by rw [ba];kernel_rfl) (fun v=>?_))
  refine ag.cons (WS.bE (WE.none (WA.Lz ok.mark (by show cg (C.env.kindOf _)=true;rw [hk];rfl) (ag.nil ?_))))
  have hd:(toPy (.str (aB "."))).depth≤100:=by decide +kernel
  refine ag.cons (WS.oK (WT.ez (WE.nm ok hk bP (WE.str (W2.P5 ok (by decide +kernel) (by decide +kernel) hd (iW.bool ⟨fun q=>?_,fun q=>?_⟩))))))
  ·cases UT with
   | stop _ _ _ =>
    have WC:pre=nm::ns:=by simpa using ui
    refine ag.cons (WS.ret (WE.tuple (WE.nm ok hk (v:=.int e) ((ai (by decide)).trans l2) (WE.nm ok hk (v:=.tup (pre.map .str)) ((ai (by decide)).trans l3) ⟨(by show 2≤2 ^ 24;decide),?_⟩))))
    rw [WC]
    exact h _
   | more _ _ _ _ _ Jx _ _ _ =>
    rw [Qq]at Jx
    contradiction
  ·exact absurd q (by decide +kernel)
end
end
section
theorem C1{l:List Int}{f g:Int}:(g∈if f∈l then l else l++[f])↔g∈l∨g=f:=by
 by_cases h:f∈l
 ·rw [if_pos h];exact ⟨.inl,fun q=>q.elim id fun e=>e▸h⟩
 ·rw [if_neg h,aZ,bG]
section
variable{C:Cx} {dep:Nat} {KF I:IM} {st:ak} {s:Shared} {X:XP} {Q:CV→ak→Prop}
theorem eX.fE{vs}{a:Addr}{name:Str}{id:String}(hH:st.H a=some (.fE vs))(slot:Slot "set" name id)(Qh:lW (.builtin id)=pure (.type "method_descriptor")):eX C (.loc a) name (.builtin id) st:=fun I v KF s pl E Q r S q=>by
 skip;subst r
 refine dO (S.mu a _ hH) fun _ _ R9=>?_;obtain ⟨o,ho,es,ep,t,hex,_⟩:=R9
 exact nG (aw o ho hex.1) F.plainAttrs_set slot Qh (fun b e=>by cases e;exact (aw o ho hex.2.1)) (q s.toks)
theorem aW.Jz(h:∀a,st.H a=none→Q (.loc a) { st with H:=aV st.H a (.fE []) }):aW C (.type "set") [] [] [] st Q X:=fun I us BL r1 r2 KF s S=>by
 have:=r1.dQ;clear r1;subst this
 rw [zip_nil_left]
 refine call_set_0 fun led=>?_
 obtain ⟨hn,S'⟩:=S.Ec (o:={ cls:=.type "set",dict:=.none,data:=.set #[] 0 (.fresh 0 0 led) }) (c:=.fE []) rfl
  (N5 (#[]) 0 (.fresh 0 0 led) (d9 rfl rfl rfl) rfl (fun e he=>by simp at he) (fun k=>by simp) (by decide) (by rfl) rfl)
 exact (pq (.loc _) S' rfl (h _ hn))
theorem Dj(ho:s.heap.get? a=some o)(h:Q2 C.prog C.w vs o):s.heap.SetOf (wY C.prog C.w) a (fun k=>decide (k∈vs)) vs.length:=by
 refine Q0 h fun es ep t h1 h2 h3 h4 h5 h6 h7=>?_
 exact (Ye o es ep t ho h1 h2 h3 h4 h5 h6 h7)
theorem aW.Dk{a:Addr}{vs:List Int}{k:Int}(hH:st.H a=some (.fE vs))(hn:vs.length≤900)(h:Q .none { st with H:=aV st.H a (.fE (if k∈vs then vs else vs++[k])) }):
  aW C (.builtin "set.add") [.loc a,.int k] [] [] st Q X:=Jm fun I x y ra rp KF s S=>by
 skip;subst ra
 refine cG rp fun tk G8=>?_;clear rp;obtain rfl:=G8
 refine dO (S.mu a _ hH) fun hi _ R9=>?_;(refine az R9 fun o ho hP=>?_)
 refine call_set_add (knd:=wY C.prog C.w) (k:=k) (by simp [wY,Pb]) rfl (Dj ho hP) (by show _<4096;exact T1 [.l .x (.n 900)] (.t (.a .x .o) (.n 4096)) tA hn) fun h' hs hS=>?_
 refine UK hS fun o' es ep t b1 b2 b3 b4 b5 b6 R9=>?_;(refine ao R9 fun b7 b8=>?_)
 refine (pq (.none) (S.Gj (tk:=s.toks+1) (c:=.fE (if k∈vs then vs else vs++[k])) hH (fun c o hc e=>(hs.2 c hc).trans e) b1 (N5 es ep t b2 b3 b4 (fun j=>?_) b6 b7 ?_)) rfl h)
 ·rw [← b5 j]
  show _↔(decide (j∈vs)||decide (j=k))=true
  rw [← xu,decide_eq_true_iff,decide_eq_true_iff];exact C1
 ·rw [b8];by_cases q:k∈vs <;> simp [q]
theorem W2.C4(hH:st.H a=some (.fE vs))(h:Q (.bool (decide (k∈vs))) st):W2 C (cI .In) (.int k) (.loc a) st Q X:=fun I v u r1 r2 KF s S=>by
 skip;subst r2
 refine cG r1 fun tk G8=>?_;clear r1;obtain rfl:=G8
 refine dO (S.mu a _ hH) fun hi _ R9=>?_;(refine az R9 fun o ho hP=>?_)
 exact wpAny_inSet_of (knd:=wY C.prog C.w) (k:=k) (by simp [wY,Pb]) rfl (Dj ho hP) (pq (.bool _) (S.toks _) rfl h)
end
end
section
structure iL where
 node:Addr
 fa:Addr
 ra:Addr
 da:Addr
 fs:List Int
 rs:List Int
 ks:List Str
noncomputable def bC:List Str:=["a", "", "a.a"]
noncomputable def uj:List Int:=[0,1,2,3]
noncomputable abbrev FN:=List Str→Option iL
noncomputable abbrev FO:=Addr→Option (List Str×Nat)
noncomputable def na(N:FN)(q:List Str):Addr:=match N q with | some nd=>nd.node | none=>0
noncomputable def kids(N:FN)(p:List Str)(nd:iL):List (Str×CV):=nd.ks.map fun k=>(k,CV.loc (na N (p++[k])))
noncomputable def AH(nd:iL):List (Str×CV):=[("flags",.loc nd.fa),("recursive_flags",.loc nd.ra),("nested",.loc nd.da)]
structure FW(H:CH)(cl x d pa:Addr)(N:FN)(ow:FO)(pend:CO):Prop where
 obj:H x=some (.inst cl d)
 attrs:∃r,N []=some r∧H d=some (.dict [("_flags",.loc r.da),("_pending_flags",.loc pa)])
 pend:H pa=some pend
 dict:∀p nd,N p=some nd→H nd.da=some (.dict (kids N p nd))
 yR:∀p nd k,N p=some nd→(k∈nd.ks↔(N (p++[k])).isSome=true)
 par:∀p k,(N (p++[k])).isSome=true→(N p).isSome=true
 own:∀p nd,p≠[]→N p=some nd→H nd.node=some (.dict (AH nd))∧H nd.fa=some (.fE nd.fs)∧H nd.ra=some (.fE nd.rs)
 pD:∀p nd,N p=some nd→nd.ks.Nodup∧∀k∈nd.ks,k∈bC
 Eu:∀p nd,N p=some nd→(nd.fs.Nodup∧∀f∈nd.fs,f∈uj)∧nd.rs.Nodup∧∀f∈nd.rs,f∈uj
 HA:ow x=some ([],10)∧ow d=some ([],11)∧ow pa=some ([],12)
 pv:∀p nd,N p=some nd→ow nd.da=some (p,3)
 mM:∀p nd,p≠[]→N p=some nd→ow nd.node=some (p,0)∧ow nd.fa=some (p,1)∧ow nd.ra=some (p,2)
 C5:∀a,(ow a).isSome=true→(H a).isSome=true
structure FK(H H':CH)(ow lN:FO):Prop where
 same:∀a,ow a=none→H a≠none→H' a=H a∧lN a=none
 grow:∀a,ow a≠none→lN a=ow a
 new:∀a,ow a=none→lN a≠none→H a=none
theorem FK.refl(H:CH)(ow:FO):FK H H ow ow:=⟨fun a h _=>⟨rfl,h⟩,fun a _=>rfl,fun a h h'=>absurd h h'⟩
theorem FK.trans(a:FK H H' o o')(b:FK H' Ew o' o''):FK H Ew o o'':=by
 refine ⟨fun x h1 h2=>?_,fun x h1=>?_,fun x h1 h2=>?_⟩
 ·refine ao (a.same x h1 h2) fun e1 e2=>?_
  refine ao (b.same x e2 (by rw [e1];exact h2)) fun e3 e4=>?_
  exact ⟨e3.trans e1,e4⟩
 ·have e:=a.grow x h1
  rw [← e]at h1 ⊢
  exact b.grow x h1
 ·by_cases q:o' x=none
  ·have hn:=b.new x q h2
   by_cases q2:H x=none
   ·exact q2
   ·have:=(a.same x h1 q2).1;rw [hn]at this;exact this.symm
  ·exact a.new x h1 q
variable{H:CH} {cl x d pa:Addr} {N:FN} {ow:FO} {pend:CO}
noncomputable def my(N:FN)(p:List Str)(nd:iL):FN:=fun q=>if q=p then some nd else N q
noncomputable def fV(ow:FO)(a:Addr)(v:List Str×Nat):FO:=fun b=>if b=a then some v else ow b
@[simp] theorem m7{nd:iL}{p:List Str}:my N p nd p=some nd:=by simp [my]
theorem jA(h:q≠p):my N p nd q=N q:=by simp [my,h]
theorem K0(h:N p=some ic)(e:nd.node=ic.node):na (my N p nd) q=na N q:=by
 delta na my
 by_cases hq:q=p
 ·obtain rfl:p=q:=hq.symm;simp [h,e]
 ·simp [hq]
theorem FW.flag{H':CH}{p:List Str}{nd:iL}{f:Int}{rec:Bool}(F:FW H cl x d pa N ow pend)(hp:p≠[])(hN:N p=some nd)(hf:f∈uj)
  (h1:H' (if rec then nd.ra else nd.fa)=some (.fE (let l:=if rec then nd.rs else nd.fs;if f∈l then l else l++[f]))) (h2:∀b,b≠(if rec then nd.ra else nd.fa)→H' b=H b) :
  FW H' cl x d pa (my N p (if rec then { nd with rs:=if f∈nd.rs then nd.rs else nd.rs++[f] }else { nd with fs:=if f∈nd.fs then nd.fs else nd.fs++[f] })) ow pend:=by
 have slot:ow (if rec then nd.ra else nd.fa)=some (p,if rec then 2 else 1):=by
  refine dO (F.mM p nd hp hN) fun _ a b=>?_
  split <;> assumption
 have keep:∀b v,ow b=some v→v≠(p,if rec then 2 else 1)→H' b=H b:=fun b v hb hv=>h2 b fun q=>by
  subst q;rw [slot]at hb;exact hv (aE hb).symm
 generalize yS:(if rec then { nd with rs:=if f∈nd.rs then nd.rs else nd.rs++[f] }else { nd with fs:=if f∈nd.fs then nd.fs else nd.fs++[f] }:iL)=ic
 have e1:ic.node=nd.node∧ic.fa=nd.fa∧ic.ra=nd.ra∧ic.da=nd.da∧ic.ks=nd.ks:=by subst yS;split <;> exact (JE rfl rfl rfl rfl rfl)
 revert e1;intro R8;refine wB R8 fun e1 e2 e3 e4 e5=>?_;try clear R8
 have old:∀q m',my N p ic q=some m'→∃m,N q=some m∧m'.node=m.node∧m'.fa=m.fa∧m'.ra=m.ra∧m'.da=m.da∧m'.ks=m.ks:=by
  intro q m' hq
  by_cases uk:q=p
  ·obtain rfl:p=q:=uk.symm;rw [m7]at hq;obtain rfl:=aE hq;exact (VG nd hN e1 e2 e3 e4 e5)
  ·rw [jA uk]at hq;exact (VG m' hq rfl rfl rfl rfl rfl)
 have cZ:∀q,(my N p ic q).isSome=(N q).isSome:=by
  intro q
  by_cases uk:q=p
  ·obtain rfl:p=q:=uk.symm;rw [m7,hN];rfl
  ·rw [jA uk]
 have AI:∀q m m',m'.ks=m.ks→kids (my N p ic) q m'=kids N q m:=by
  intro q m m' e
  unfold kids
  rw [e]
  congr 1
  funext k
  rw [K0 hN e1]
 refine dO F.HA fun o1 o2 o3=>?_
 refine ⟨?_,?_,?_,fun q m' hq=>?_,fun q m' k hq=>?_,fun q k hq=>?_,fun q m' yT hq=>?_,fun q m' hq=>?_,fun q m' hq=>?_,F.HA,fun q m' hq=>?_,fun q m' yT hq=>?_,fun b hb=>?_⟩
 ·rw [keep x _ o1 (by simp;split <;> simp)];exact F.obj
 ·refine az F.attrs fun r hr hd=>?_
  refine (aw r (by rw [jA (aN hp)];exact hr) ?_)
  rw [keep d _ o2 (by simp;split <;> simp)];exact hd
 ·rw [keep pa _ o3 (by simp;split <;> simp)];exact F.pend
 ·refine N4 (old q m' hq) fun m hm _ _ _ c4 c5=>?_
  rw [c4,keep m.da _ (F.pv q m hm) (by split <;> simp),AI q m m' c5]
  exact F.dict q m hm
 ·refine N4 (old q m' hq) fun m hm _ _ _ c4 c5=>?_
  rw [c5,cZ];exact F.yR q m k hm
 ·rw [cZ]at hq ⊢;exact F.par q k hq
 ·refine N4 (old q m' hq) fun m hm c1 c2 c3 c4 c5=>?_
  refine dO (F.own q m yT hm) fun a1 a2 a3=>?_
  refine dO (F.mM q m yT hm) fun b1 b2 b3=>?_
  have hD:AH m'=AH m:=by simp [AH,c2,c3,c4]
  refine (d9 (by rw [c1,hD,keep m.node _ b1 (by split <;> simp)];exact a1) ?_ ?_)
  ·by_cases uk:q=p
   ·obtain rfl:p=q:=uk.symm
    rw [m7]at hq;obtain rfl:=aE hq
    rw [hN]at hm;obtain rfl:=aE hm
    clear h2 slot;cases rec
    ·rw [c2];simp only [aL,if_false]at h1 yS;rw [h1,← yS]
    ·rw [c2,keep nd.fa _ b2 (by (dsimp only [iF,iT,iG,iU,iH,iV,nT,nF,aT,aF,oT,oF];simp)),a2,← yS];rfl
   ·rw [jA uk]at hq
    rw [hq]at hm;obtain rfl:=aE hm
    rw [keep m'.fa _ b2 (by simp [uk])];exact a2
  ·by_cases uk:q=p
   ·obtain rfl:p=q:=uk.symm
    rw [m7]at hq;obtain rfl:=aE hq
    rw [hN]at hm;obtain rfl:=aE hm
    clear h2 slot;cases rec
    ·rw [c3,keep nd.ra _ b3 (by (dsimp only [iF,iT,iG,iU,iH,iV,nT,nF,aT,aF,oT,oF];simp)),a3,← yS];rfl
    ·rw [c3];simp only [if_true]at h1 yS;rw [h1,← yS]
   ·rw [jA uk]at hq
    rw [hq]at hm;obtain rfl:=aE hm
    rw [keep m'.ra _ b3 (by simp [uk])];exact a3
 ·refine N4 (old q m' hq) fun m hm c1 c2 c3 c4 c5=>?_
  rw [c5];exact F.pD q m hm
 ·by_cases uk:q=p
  ·obtain rfl:p=q:=uk.symm
   rw [m7]at hq;obtain rfl:=aE hq
   refine ao (F.Eu p nd hN) fun G9 R9=>?_;(refine ao G9 fun g1 g2=>?_;try clear G9);(refine ao R9 fun g3 g4=>?_;try clear R9)
   have ins:∀l:List Int,l.Nodup→(∀g∈l,g∈uj)→(if f∈l then l else l++[f]).Nodup∧∀g∈(if f∈l then l else l++[f]),g∈uj:=by
    intro l hl rX
    split
    ·exact ⟨hl,rX⟩
    ·rename_i yM
     refine ⟨?_,fun g hg=>?_⟩
     ·rw [cy]
      exact (d9 hl (by simp) (fun a ha b hb=>by simp at hb;clear hf h1 yS;subst hb;exact fun e=>yM (e▸ha)))
     ·rcases aZ.mp hg with hg | hg
      ·exact rX g hg
      ·rw [bG.mp hg];exact hf
   subst yS
   clear h1 h2 slot keep e1 e2 e3 e4 e5 old cZ AI hq;cases rec
   ·exact (d9 (ins _ g1 g2) g3 g4)
   ·exact ⟨⟨g1,g2⟩,ins _ g3 g4⟩
  ·rw [jA uk]at hq;exact F.Eu q m' hq
 ·refine N4 (old q m' hq) fun m hm c1 c2 c3 c4 c5=>?_
  rw [c4];exact F.pv q m hm
 ·refine N4 (old q m' hq) fun m hm c1 c2 c3 c4 c5=>?_
  rw [c1,c2,c3];exact F.mM q m yT hm
 ·by_cases Z0:b=(if rec then nd.ra else nd.fa)
  ·rw [Z0,h1];rfl
  ·rw [h2 b Z0];exact F.C5 b hb
end
section
variable{H:CH} {cl x d pa:Addr} {N:FN} {ow:FO} {pend:CO}
noncomputable def hr(N:FN)(q:List Str)(f:Int):Bool:=match N q with | some nd=>decide (f∈nd.fs) | none=>false
noncomputable def rc(N:FN)(q:List Str)(f:Int):Bool:=match N q with | some nd=>decide (f∈nd.rs) | none=>false
theorem FK.flag{H':CH}{b:Addr}{v:List Str×Nat}(hb:ow b=some v)(h2:∀c,c≠b→H' c=H c):FK H H' ow ow :=
 ⟨fun a h _=>⟨h2 a (fun q=>by clear h2;subst q;rw [hb]at h;contradiction),h⟩,fun _ _=>rfl,fun a h h'=>absurd h h'⟩
theorem K3{p:List Str}{nd:iL}{f:Int}{rec:Bool}(hN:N p=some nd)(q:List Str)(g:Int):
  hr (my N p (if rec then { nd with rs:=if f∈nd.rs then nd.rs else nd.rs++[f] }else { nd with fs:=if f∈nd.fs then nd.fs else nd.fs++[f] })) q g=(hr N q g||(!rec&&decide (q=p)&&decide (g=f))):=by
 delta hr my
 by_cases hq:q=p
 ·obtain rfl:p=q:=hq.symm
  rw [if_pos rfl,hN]
  cases rec
  ·rw [decide_eq_true (rfl:p=p)];exact (decide_eq_decide.mpr C1).trans (xu _ _)
  ·dsimp only [iF,iT,iG,iU,iH,iV,nT,nF,aT,aF,oT,oF];simp
 ·rw [if_neg hq];simp [hq]
theorem K4{p:List Str}{nd:iL}{f:Int}{rec:Bool}(hN:N p=some nd)(q:List Str)(g:Int):
  rc (my N p (if rec then { nd with rs:=if f∈nd.rs then nd.rs else nd.rs++[f] }else { nd with fs:=if f∈nd.fs then nd.fs else nd.fs++[f] })) q g=(rc N q g||(rec&&decide (q=p)&&decide (g=f))):=by
 delta rc my
 by_cases hq:q=p
 ·obtain rfl:p=q:=hq.symm
  rw [if_pos rfl,hN]
  cases rec
  ·dsimp only [iF,iT,iG,iU,iH,iV,nT,nF,aT,aF,oT,oF];simp
  ·rw [decide_eq_true (rfl:p=p)];exact (decide_eq_decide.mpr C1).trans (xu _ _)
 ·rw [if_neg hq];simp [hq]
theorem fL{α:Type}{p q:List α}{j k:α}(h:p++[j]=q++[k]):p=q∧j=k:=by
 have:=List.append_inj' h rfl
 exact ⟨this.1,by simpa using this.2⟩
theorem oR{α:Type}(p:List α)(k:α):p++[k]≠p:=fun h=>by have:=congrArg bo h;simp at this
noncomputable def nh(N:FN)(p:List Str)(nd:iL)(k:Str)(n f r e:Addr):FN:=my (my N p { nd with ks:=nd.ks++[k] }) (p++[k]) ⟨n,f,r,e,[],[],[]⟩
noncomputable def yU(ow:FO)(p:List Str)(k:Str)(n f r e:Addr):FO:=fV (fV (fV (fV ow n (p++[k],0)) f (p++[k],1)) r (p++[k],2)) e (p++[k],3)
theorem FW.add{H':CH}{p:List Str}{nd:iL}{k:Str}{n f r e:Addr}(F:FW H cl x d pa N ow pend)(hN:N p=some nd)(hk:k∉nd.ks)(mn:k∈bC)
  (z1:H n=none) (z2:H f=none) (z3:H r=none) (z4:H e=none) (MF:n≠f∧n≠r∧n≠e∧f≠r∧f≠e∧r≠e)
  (h1:H' n=some (.dict [("flags",.loc f),("recursive_flags",.loc r),("nested",.loc e)])) (h2:H' f=some (.fE [])) (h3:H' r=some (.fE [])) (h4:H' e=some (.dict []))
  (h5:H' nd.da=some (.dict (kids N p nd++[(k,.loc n)]))) (h6:∀b,b≠n→b≠f→b≠r→b≠e→b≠nd.da→H' b=H b) :
  FW H' cl x d pa (nh N p nd k n f r e) (yU ow p k n f r e) pend∧FK H H' ow (yU ow p k n f r e):=by
 refine Jb MF fun d1 d2 d3 d4 d5 d6=>?_
 have iq:N (p++[k])=none:=by
  cases q:N (p++[k])with
  | none=>rfl
  | some m=>exact absurd ((F.yR p nd k hN).mpr (by rw [q];rfl)) hk
 have HB:∀b v,ow b=some v→H b≠none:=fun b v hb=>by
  have:=F.C5 b (by rw [hb];rfl)
  intro q;rw [q]at this;exact aD this
 have C6:∀b v,ow b=some v→b≠n∧b≠f∧b≠r∧b≠e:=fun b v hb=>by
  have:=HB b v hb
  refine (ql ?_ ?_ ?_ ?_) <;> (clear MF h1 h6;rintro rfl;exact this (by assumption))
 have tx:∀b v,ow b=some v→yU ow p k n f r e b=some v:=fun b v hb=>by
  refine ip (C6 b v hb) fun a1 a2 a3 a4=>?_
  simp [yU,fV,a1,a2,a3,a4,hb]
 have keep:∀b v,ow b=some v→v≠(p,3)→H' b=H b:=fun b v hb hv=>by
  refine ip (C6 b v hb) fun a1 a2 a3 a4=>?_
  exact h6 b a1 a2 a3 a4 fun q=>by clear a1 a2 a3 a4;subst q;rw [F.pv p nd hN]at hb;exact hv (aE hb).symm
 have NV:p++[k]≠p:=oR p k
 have ni:nh N p nd k n f r e (p++[k])=some ⟨n,f,r,e,[],[],[]⟩:=by simp [nh]
 have Ex:nh N p nd k n f r e p=some { nd with ks:=nd.ks++[k] }:=by unfold nh;rw [jA NV.symm];simp
 have Ey:∀q,q≠p→q≠p++[k]→nh N p nd k n f r e q=N q:=fun q a b=>by unfold nh;rw [jA b,jA a]
 have cZ:∀q,(nh N p nd k n f r e q).isSome=((N q).isSome||decide (q=p++[k])):=by
  intro q
  by_cases a:q=p++[k]
  ·subst a;rw [ni];simp
  ·by_cases b:q=p
   ·obtain rfl:p=q:=b.symm;rw [Ex,hN];rfl
   ·rw [Ey q b a];simp [a]
 have UU:∀q,q≠p++[k]→na (nh N p nd k n f r e) q=na N q:=by
  intro q a
  unfold na
  by_cases b:q=p
  ·obtain rfl:p=q:=b.symm;rw [Ex,hN]
  ·rw [Ey q b a]
 have WG:na (nh N p nd k n f r e) (p++[k])=n:=by unfold na;rw [ni]
 have gA:∀q m',nh N p nd k n f r e q=some m'→(q=p++[k]∧m'=⟨n,f,r,e,[],[],[]⟩)∨(p=q∧m'={ nd with ks:=nd.ks++[k] })∨(q≠p∧q≠p++[k]∧N q=some m'):=by
  intro q m' hq
  by_cases a:q=p++[k]
  ·subst a;rw [ni]at hq;exact .inl ⟨rfl,(aE hq).symm⟩
  ·by_cases b:q=p
   ·obtain rfl:p=q:=b.symm;rw [Ex]at hq;exact .inr (.inl ⟨rfl,(aE hq).symm⟩)
   ·rw [Ey q b a]at hq;exact .inr (.inr (d9 b a hq))
 refine dO F.HA fun o1 o2 o3=>?_
 refine ⟨⟨?_,?_,?_,fun q m' hq=>?_,fun q m' j hq=>?_,fun q j hq=>?_,fun q m' yT hq=>?_,fun q m' hq=>?_,fun q m' hq=>?_,(d9 (tx _ _ o1) (tx _ _ o2) (tx _ _ o3)),fun q m' hq=>?_,fun q m' yT hq=>?_,fun b hb=>?_⟩,?_⟩
 ·rw [keep x _ o1 (by simp)];exact F.obj
 ·refine az F.attrs fun rt BN hd=>?_
  by_cases hp:p=[]
  ·clear iq tx NV;subst hp
   rw [BN]at hN;obtain rfl:=aE hN
   exact (aw _ Ex (by rw [keep d _ o2 (by decide)];exact hd))
  ·exact (aw rt (by rw [Ey [] (aN hp) (by simp)];exact BN) (by rw [keep d _ o2 (by simp)];exact hd))
 ·rw [keep pa _ o3 (by simp)];exact F.pend
 ·rcases gA q m' hq with ⟨rfl,rfl⟩ | ⟨rfl,rfl⟩ | ⟨a,b,mq⟩
  ·exact h4
  ·show H' nd.da=_
   rw [h5]
   unfold kids
   show some (CO.dict (nd.ks.map _++_))=some (CO.dict ((nd.ks++[k]).map _))
   rw [dz]
   congr 2
   congr 1
   ·apply cT
    intro j hj
    rw [UU _ fun q=>hk ((fL q).2▸hj)]
   ·simp [WG]
  ·rw [keep m'.da _ (F.pv q m' mq) (by simp [a]),F.dict q m' mq]
   unfold kids
   congr 2
   apply cT
   intro j _
   rw [UU _ fun q'=>a (fL q').1]
 ·rw [cZ]
  rcases gA q m' hq with ⟨rfl,rfl⟩ | ⟨rfl,rfl⟩ | ⟨a,b,mq⟩
  ·have h1:N (p++[k]++[j])=none:=by
    cases hh:N (p++[k]++[j])with
    | none=>rfl
    | some m=>have:=F.par (p++[k]) j (by rw [hh];rfl);rw [iq]at this;exact aD this
   rw [h1]
   have:¬(p++[k]++[j]=p++[k]):=oR _ _
   simp [this]
  ·show j∈nd.ks++[k]↔_
   rw [aZ,bG,F.yR p nd j hN,dT,decide_eq_true_eq]
   exact ⟨fun h=>h.elim .inl fun h=>.inr (by rw [h]),fun h=>h.elim .inl fun h=>.inr (fL h).2⟩
  ·simp only [F.yR q m' j mq,dT,decide_eq_true_eq]
   exact ⟨.inl,fun h=>h.elim id fun h=>absurd (fL h).1 a⟩
 ·rw [cZ,dT,decide_eq_true_eq]at hq ⊢
  rcases hq with hq | hq
  ·exact .inl (F.par q j hq)
  ·rw [(fL hq).1,hN];exact .inl rfl
 ·rcases gA q m' hq with ⟨rfl,rfl⟩ | ⟨rfl,rfl⟩ | ⟨a,b,mq⟩
  ·exact (d9 h1 h2 h3)
  ·refine dO (F.own p nd yT hN) fun a1 a2 a3=>?_
   refine dO (F.mM p nd yT hN) fun b1 b2 b3=>?_
   exact (d9 (by show H' nd.node=_;rw [keep nd.node _ b1 (by simp)];exact a1) (by show H' nd.fa=_;rw [keep nd.fa _ b2 (by simp)];exact a2) (by show H' nd.ra=_;rw [keep nd.ra _ b3 (by simp)];exact a3))
  ·refine dO (F.own q m' yT mq) fun a1 a2 a3=>?_
   refine dO (F.mM q m' yT mq) fun b1 b2 b3=>?_
   exact (d9 (by rw [keep m'.node _ b1 (by simp)];exact a1) (by rw [keep m'.fa _ b2 (by simp)];exact a2) (by rw [keep m'.ra _ b3 (by simp)];exact a3))
 ·rcases gA q m' hq with ⟨rfl,rfl⟩ | ⟨rfl,rfl⟩ | ⟨a,b,mq⟩
  ·exact ⟨eY,fun j hj=>by cases hj⟩
  ·refine ao (F.pD p nd hN) fun g1 g2=>?_
   refine ⟨?_,fun j hj=>?_⟩
   ·show (nd.ks++[k]).Nodup
    rw [cy]
    exact (d9 g1 (by simp) (fun a ha b hb=>by simp at hb;clear mn h5 iq tx NV ni Ex Ey cZ UU WG gA hq;subst hb;exact fun e=>hk (e▸ha)))
   ·rcases aZ.mp hj with hj | hj
    ·exact g2 j hj
    ·rw [bG.mp hj];exact mn
  ·exact F.pD q m' mq
 ·rcases gA q m' hq with ⟨rfl,rfl⟩ | ⟨rfl,rfl⟩ | ⟨a,b,mq⟩
  ·exact (d9 ⟨eY,fun j hj=>by cases hj⟩ eY (fun j hj=>by cases hj))
  ·exact F.Eu p nd hN
  ·exact F.Eu q m' mq
 ·rcases gA q m' hq with ⟨rfl,rfl⟩ | ⟨rfl,rfl⟩ | ⟨a,b,mq⟩
  ·simp [yU,fV]
  ·exact tx _ _ (F.pv p nd hN)
  ·exact tx _ _ (F.pv q m' mq)
 ·rcases gA q m' hq with ⟨rfl,rfl⟩ | ⟨rfl,rfl⟩ | ⟨a,b,mq⟩
  ·simp [yU,fV,d1,d2,d3,d4,d5,d6]
  ·refine dO (F.mM p nd yT hN) fun b1 b2 b3=>?_
   exact (d9 (tx _ _ b1) (tx _ _ b2) (tx _ _ b3))
  ·refine dO (F.mM q m' yT mq) fun b1 b2 b3=>?_
   exact (d9 (tx _ _ b1) (tx _ _ b2) (tx _ _ b3))
 ·by_cases c1:b=n
  ·obtain rfl:n=b:=c1.symm;rw [h1];rfl
  by_cases c2:b=f
  ·obtain rfl:f=b:=c2.symm;rw [h2];rfl
  by_cases c3:b=r
  ·obtain rfl:r=b:=c3.symm;rw [h3];rfl
  by_cases c4:b=e
  ·obtain rfl:e=b:=c4.symm;rw [h4];rfl
  by_cases c5:b=nd.da
  ·clear hb c1 c2 c3 c4;subst c5;rw [h5];rfl
  rw [h6 b c1 c2 c3 c4 c5]
  exact F.C5 b (by simpa [yU,fV,c1,c2,c3,c4]using hb)
 ·refine ⟨fun a h hH=>?_,fun a h=>?_,fun a h h'=>?_⟩
  ·have c:a≠n∧a≠f∧a≠r∧a≠e:=by refine (ql ?_ ?_ ?_ ?_) <;> (clear MF h1 h6 C6 tx ni Ex Ey cZ UU WG gA;rintro rfl;exact hH (by assumption))
   refine ip c fun c1 c2 c3 c4=>?_
   refine ⟨h6 a c1 c2 c3 c4 (fun q=>by clear hH c c1 c2 c3 c4;subst q;rw [F.pv p nd hN]at h;contradiction),by simp [yU,fV,c1,c2,c3,c4,h]⟩
  ·refine cG (bL.mp h) fun v hv=>?_
   simp only [tx a v hv,hv]
  ·by_cases c1:a=n
   ·obtain rfl:n=a:=c1.symm;exact z1
   by_cases c2:a=f
   ·obtain rfl:f=a:=c2.symm;exact z2
   by_cases c3:a=r
   ·obtain rfl:r=a:=c3.symm;exact z3
   by_cases c4:a=e
   ·obtain rfl:e=a:=c4.symm;exact z4
   exact absurd (by simpa [yU,fV,c1,c2,c3,c4]using h) h'
theorem NW{p:List Str}{nd:iL}{k:Str}{n f r e:Addr}(hN:N p=some nd)(iq:N (p++[k])=none)(q:List Str)(g:Int):hr (nh N p nd k n f r e) q g=hr N q g:=by
 delta hr nh my
 by_cases a:q=p++[k]
 ·subst a;simp [iq]
 ·by_cases b:q=p
  ·obtain rfl:p=q:=b.symm;simp [hN]
  ·simp [a,b]
theorem NX{p:List Str}{nd:iL}{k:Str}{n f r e:Addr}(hN:N p=some nd)(iq:N (p++[k])=none)(q:List Str)(g:Int):rc (nh N p nd k n f r e) q g=rc N q g:=by
 delta rc nh my
 by_cases a:q=p++[k]
 ·subst a;simp [iq]
 ·by_cases b:q=p
  ·obtain rfl:p=q:=b.symm;simp [hN]
  ·simp [a,b]
end
section
variable{H:CH} {cl x d pa:Addr} {N:FN} {ow:FO} {pend:CO}
theorem FW.keep(F:FW H cl x d pa N ow pend)(K:FK H H' oo Qr)(ap:∀a,ow a≠none→oo a=none):FW H' cl x d pa N ow pend∧∀a,ow a≠none→Qr a=none:=by
 have k:∀a v,ow a=some v→H' a=H a∧Qr a=none:=fun a v h=>K.same a (ap a (by rw [h];simp)) (fun q=>by
  have:=F.C5 a (by rw [h];rfl);rw [q]at this;exact aD this)
 refine dO F.HA fun o1 o2 o3=>?_
 refine ⟨⟨?_,?_,?_,fun q m hq=>?_,F.yR,F.par,fun q m yT hq=>?_,F.pD,F.Eu,F.HA,F.pv,F.mM,fun b hb=>?_⟩,fun a h=>?_⟩
 ·rw [(k x _ o1).1];exact F.obj
 ·(refine az F.attrs fun rt BN hd=>?_);exact (aw rt BN (by rw [(k d _ o2).1];exact hd))
 ·rw [(k pa _ o3).1];exact F.pend
 ·rw [(k _ _ (F.pv q m hq)).1];exact F.dict q m hq
 ·refine dO (F.own q m yT hq) fun a1 a2 a3=>?_
  refine dO (F.mM q m yT hq) fun b1 b2 b3=>?_
  exact (d9 (by rw [(k _ _ b1).1];exact a1) (by rw [(k _ _ b2).1];exact a2) (by rw [(k _ _ b3).1];exact a3))
 ·refine cG (aY.mp hb) fun v hv=>?_
  rw [(k b v hv).1];exact F.C5 b hb
 ·refine cG (bL.mp h) fun v hv=>?_
  exact (k a v hv).2
theorem FW.new(MF:x≠d∧x≠r∧x≠pa∧d≠r∧d≠pa∧r≠pa)(h1:H' x=some (.inst cl d))(h2:H' d=some (.dict [("_flags",.loc r),("_pending_flags",.loc pa)]))(h3:H' r=some (.dict []))(h4:H' pa=some (.fE [])):
  FW H' cl x d pa (fun(q:List Str)=>if q=[]then some ⟨0,0,0,r,[],[],[]⟩else none) (fV (fV (fV (fV (fun _=>none) x ([],10)) d ([],11)) pa ([],12)) r ([],3)) (.fE []):=by
 refine Jb MF fun d1 d2 d3 d4 d5 d6=>?_;try clear MF
 have root:∀(q:List Str) m,(if q=[]then some (⟨0,0,0,r,[],[],[]⟩:iL)else none)=some m→q=[]∧m=⟨0,0,0,r,[],[],[]⟩:=by
  intro q m h
  split at h
  ·rename_i e;exact ⟨e,(aE h).symm⟩
  ·contradiction
 refine ⟨h1,(aw _ rfl h2),h4,fun q m hq=>?_,fun q m j hq=>?_,fun q j hq=>?_,fun q m yT hq=>absurd (root q m hq).1 yT,fun q m hq=>?_,fun q m hq=>?_,?_,fun q m hq=>?_,fun q m yT hq=>absurd (root q m hq).1 yT,fun b hb=>?_⟩
 ·(refine ao (root q m hq) fun G9 G8=>?_;obtain rfl:=G9;clear hq;obtain rfl:=G8);exact h3
 ·(refine ao (root q m hq) fun G9 G8=>?_;obtain rfl:=G9;clear hq;obtain rfl:=G8);(dsimp [iF,iT,iG,iU,iH,iV,nT,nF,aT,aF,oT,oF];simp)
 ·simp at hq
 ·(refine ao (root q m hq) fun G9 G8=>?_;obtain rfl:=G9;clear hq;obtain rfl:=G8);exact ⟨eY,fun j hj=>by cases hj⟩
 ·(refine ao (root q m hq) fun G9 G8=>?_;obtain rfl:=G9;clear hq;obtain rfl:=G8);exact (d9 ⟨eY,fun j hj=>by cases hj⟩ eY (fun j hj=>by cases hj))
 ·simp [fV,d1,d2,d3,d4,d5,d6,aN d1,aN d2,aN d3,aN d4,aN d5,aN d6]
 ·(refine ao (root q m hq) fun G9 G8=>?_;obtain rfl:=G9;clear hq;obtain rfl:=G8);simp [fV]
 ·by_cases c1:b=x
  ·clear d1 d2 d3 hb;subst c1;rw [h1];rfl
  by_cases c2:b=d
  ·clear h1 d1 d4 d5 hb;subst c2;rw [h2];rfl
  by_cases c3:b=pa
  ·clear h2 d3 d5 d6 hb;subst c3;rw [h4];rfl
  by_cases c4:b=r
  ·clear h2 d2 d4 d6 root hb;subst c4;rw [h3];rfl
  simp [fV,c1,c2,c3,c4]at hb
end
section
section
variable{C:Cx} {dep:Nat} {KF I:IM} {st:ak} {s:Shared} {X:XP} {Q:CV→ak→Prop}
theorem W1.neg(h:Q (.int (-a)) st):W1 C (unaryOp .USub) (.int a) st Q X:=fun I v r KF s S=>by
 refine cG r fun t G8=>?_;try clear r;obtain rfl:=G8
 exact V4 (pq (.int _) (S.toks _) (dA _ rfl) h)
theorem WE.C7{k p pos}(h:Q (.int (-i)) st):WE C (.UnaryOp .USub (.Constant (.int i) k p) pos) st Q X:=WE.unop (WE.int (W1.neg h))
theorem WS.u4{e pos}{Q:CF→ak→Prop}(ok:C.Ok dep)(h:WE C e st (fun v bJ=>Q .next bJ) X)(hs:tL e none pos.line C.env=pure false:=by rfl):WS C (.Expr e pos) st Q X:=fun I=>by
 have hi:zh C.env=false:=by unfold zh;rw [ok.kY];rfl
 rw [exec_Expr C.env e pos hi hs]
 refine WL.bind (WL.standAt (WL.bind ((h I).mono (fun J v bJ _ R3=>az R3 fun c r q=>?_) fk)))
 exact fun KF s S=>wpAny_dropValue (dK J bJ (.refl _) S (aw (.next) rfl q))
end
structure wG(C:Cx)(cl:Addr):Prop where
 ok:sy C.K cl
 flags:gn C.K (.ref cl) "_flags" = some none
 Qs:gn C.K (.ref cl) "_pending_flags" = some none
 HC:Io C.K cl "_flags" = some none
 MG:Io C.K cl "_pending_flags" = some none
 Ez:kQ C [("set",.type "set")]
section
variable{C:Cx} {dep:Nat} {X:XP} {H:CH} {cl x d pa:Addr} {N:FN} {ow:FO} {pend:CO}
theorem FW.um{Q:CV→ak→Prop}{lo:Str→Option CV}(F:FW H cl x d pa N ow pend)(ok:C.Ok dep)(fc:wG C cl)(hr:N []=some r)(h:Q (.loc r.da) ⟨lo,H⟩):g9 C (.loc x) "_flags" ⟨lo,H⟩ Q X:=by
 refine az F.attrs fun r' vm hd=>?_
 rw [hr]at vm;obtain rfl:=aE vm
 exact g9.inst ok fc.ok F.obj hd rfl fc.flags rfl (fun u h=>by contradiction) h
theorem FW.nodup(F:FW H cl x d pa N ow pend)(h:N p=some nd):((kids N p nd).map (·.1)).Nodup:=by
 have:(kids N p nd).map (·.1)=nd.ks:=by unfold kids;rw [cm];simp [qq]
 rw [this];exact (F.pD p nd h).1
theorem AJ(p:List Str)(nd:iL)(k:Str):(kids N p nd).lookup k=if k∈nd.ks then some (.loc (na N (p++[k])))else none:=by
 unfold kids
 induction nd.ks with
 | nil=>rfl
 | cons j ks ih =>
  (simp only [aK];simp only [bQ])
  by_cases q:k=j
  ·subst q;simp
  ·have q':(k == j)=false:=by simpa using q
   rw [q',ih];simp [q]
theorem FW.nj(F:FW H cl x d pa N ow pend)(h:N p=some nd):(kids N p nd).lookup k=(N (p++[k])).map fun m=>.loc m.node:=by
 rw [AJ]
 have:=F.yR p nd k h
 cases hk:N (p++[k])with
 | none=>rw [hk]at this;rw [if_neg (by rw [this];simp)];rfl
 | some m=>rw [hk]at this;rw [if_pos (this.mpr rfl)];simp [na,hk]
theorem FW.K5(F:FW H cl x d pa N ow pend)(h:N p=some nd):(kids N p nd).length≤3:=by
 refine ao (F.pD p nd h) fun a b=>?_
 have:=c9 a b
 have e:(kids N p nd).length=nd.ks.length:=by simp [kids]
 rw [e];exact this
theorem gB(nd:iL):((AH nd).map (·.1)).Nodup:=by
 show ([("flags" : Str), "recursive_flags", "nested"]).Nodup
 decide
noncomputable def iw(N:FN)(f:Int)(p:List Str):List Str→Option Bool
 | []=>none
 | k::ks=>match N (p++[k])with
  | none=>some false
  | some nd=>if f∈nd.rs then some true else iw N f (p++[k]) ks
theorem HE(ok:C.Ok dep)(fc:wG C cl)(hk:HK C (ax (ml 23 8)))(F:FW H cl x d pa N ow pend)
  (e:∃it o p,(bodyOf (ml 23 8)).getD 2 (.Pass default)=.For t it body o p) :
  ∀(ks:List Str) (p:List Str) (nd:iL) (lo:Str→Option CV),N p=some nd→lo "cont" = some (.loc nd.da)→lo "flag" = some (.int f)→lo "key" = some keyc →
   (∀b bY,iw N f p ks=some b→Q (.ret (.bool b)) ⟨bY,H⟩)→(∀bY ic,iw N f p ks=none→N (p++ks)=some ic→bY "cont" = some (.loc ic.da)→bY "flag" = some (.int f)→bY "key" = some keyc→Q .next ⟨bY,H⟩) →
   ll C t body [] (ks.map .str) ⟨lo,H⟩ Q X:=by
 revert e;intro R8;refine DV R8 fun it o pp e=>?_;try clear R8
 cases e
 intro ks
 induction ks with
 | nil=>intro p nd lo hN h1 h2 h3 q1 q2;exact ag.nil (q2 lo nd rfl (by simpa using hN) h1 h2 h3)
 | cons k ks ih =>
  intro p nd lo hN h1 h2 h3 q1 q2
  refine WA.nm ok hk ?_
  have jg:=F.nj (k:=k) hN
  refine ag.cons (WS.oK (WT.ez (WE.nm ok hk rfl (WE.nm ok hk h1 (W2.oN (F.dict p nd hN) (F.nodup hN) (iW.bool ⟨fun hc=>?_,fun hc=>?_⟩))))))
  ·have hn:N (p++[k])=none:=by
    cases q:N (p++[k])with
    | none=>rfl
    | some m=>rw [jg,q]at hc;exact aD hc
   refine ag.cons (WS.ret (WE.bool (q1 false _ ?_)))
   simp [iw,hn]
  ·obtain ⟨m,hm⟩:∃m,N (p++[k])=some m:=by
    cases q:N (p++[k])with
    | some m=>exact (dA m rfl)
    | none=>rw [jg,q]at hc;exact aD hc
   have Dl:iw N f p (k::ks)=if f∈m.rs then some true else iw N f (p++[k]) ks:=by simp [iw,hm]
   rw [hm]at jg
   refine dO (F.own _ m (by simp) hm) fun a1 a2 a3=>?_
   refine ag.nil (ag.cons (WS.bE (WE.sub (WE.nm ok hk h1 (WE.nm ok hk rfl (W2.m5 (F.dict p nd hN) (F.nodup hN) jg (WA.nm ok hk ?_)))))))
   refine ag.cons (WS.oK (WT.ez (WE.nm ok hk h2 (WE.sub (WE.nm ok hk rfl (WE.str (W2.m5 a1 (gB m) (c:=.loc m.ra) rfl (W2.C4 a3 (iW.bool ⟨fun hc=>?_,fun hc=>?_⟩)))))))))
   ·refine ag.cons (WS.ret (WE.bool (q1 true _ ?_)))
    rw [Dl,if_pos (by simpa using hc)]
   ·have yM:¬f∈m.rs:=by simpa using hc
    rw [if_neg yM]at Dl
    refine ag.nil (ag.cons (WS.bE (WE.sub (WE.nm ok hk rfl (WE.str (W2.m5 a1 (gB m) (c:=.loc m.da) rfl (WA.nm ok hk (ag.nil ?_))))))))
    refine ih (p++[k]) m _ hm rfl h2 h3 (fun b bY hb=>q1 b bY (by rw [Dl];exact hb)) fun bY ic hb Z1=>q2 bY ic (by rw [Dl];exact hb) (by rw [bU]at Z1;exact Z1)
theorem AK(h:0<n):Bt n (-1)=n-1:=DU
noncomputable def P8(N:FN)(f:Int)(key:List Str):Bool:=if key=[]then false else match iw N f [] key.dropLast with
 | some b=>b
 | none=>hr N key f||rc N key f
theorem WH{Q:CF→ak→Prop}(ok:C.Ok dep)(fc:wG C cl)(hk:HK C (ax (ml 23 8)))(F:FW H cl x d pa N ow pend)(hl:key.length≤1000)
  (h:∀bY,Q (.ret (.bool (P8 N f key))) ⟨bY,H⟩):ag C (bodyOf (ml 23 8)) ⟨fun y=>([("self" : Str), "key", "flag"].zip [.loc x,.tup (key.map .str),.int f]).lookup y,H⟩ Q X:=by
 refine az F.attrs fun r Dm P9=>?_
 refine ag.cons (WS.oK (WT.not (WT.value rfl (WE.nm ok hk rfl (iW.tup (by simp;(exact aJ (by assumption) (by decide))) ⟨fun hc=>?_,fun hc=>?_⟩)))))
 ·have jG:key=[]:=by simpa using hc
  clear hl hc;subst jG
  exact ag.cons (WS.ret (WE.bool (h _)))
 have jG:key≠[]:=by intro q;clear hl h;subst q;simp at hc
 have hlen:0<key.length:=by cases key with | nil=>exact absurd rfl jG | cons _ _=>simp
 have hP:P8 N f key=match iw N f [] key.dropLast with | some b=>b | none=>hr N key f||rc N key f:=by unfold P8;rw [if_neg jG]
 refine ag.nil (ag.cons (WS.bE (WE.attr (WE.nm ok hk rfl (F.um ok fc Dm (WA.nm ok hk ?_))))))
 refine ag.cons (WS.Be ok (WE.slice (WE.nm ok hk rfl (WE.C7 (aw _ rfl (BM.MA (by simp;(exact aJ (by assumption) (by decide))) (aw _ du.tup ?_)))))))
 rw [cP,AK hlen,← jb,← jM]
 refine HE (f:=f) (keyc:=.tup (key.map .str)) ok fc hk F (y9 _ _ _ rfl) key.dropLast [] r _ Dm rfl rfl rfl (fun b bY hb=>?_) fun bY nd hb hN h1 h2 h3=>?_
 ·rw [hb]at hP
  have:=h bY;rw [hP]at this;exact this
 simp only [bg]at hN
 rw [hb]at hP
 have AL:(key.map CV.str)[cidx (key.map CV.str).length (-1)]?=some (.str (key.getLast jG)):=by
  have:cidx (key.map CV.str).length (-1)=key.length-1:=by unfold cidx;rw [cP];exact DU
  rw [this,cH,BD]
  simp [show key.length-1<key.length by (exact cU (by assumption) (bx _))]
 refine ag.cons (WS.bE (WE.sub (WE.nm ok hk h3 (WE.C7 (W2.M6 (by simp;(exact ct.mpr (by assumption))) (by simp;(exact au _)) (by simp;exact cD.mpr (T1 [.l .x (.n 1000)] (.t .x (.n 4611686018427387904)) tA hl)) AL (WA.nm ok hk ?_))))))
 have HF:key.dropLast++[key.getLast jG]=key:=d8 jG
 have jg:=F.nj (k:=key.getLast jG) hN
 rw [HF]at jg
 refine ag.cons (WS.oK (WT.ez (WE.nm ok hk rfl (WE.nm ok hk h1 (W2.inDict (F.dict _ nd hN) (F.nodup hN) (iW.bool ⟨fun hc=>?_,fun hc=>?_⟩))))))
 ·obtain ⟨m,hm⟩:∃m,N key=some m:=by
   cases q:N key with
   | some m=>exact (dA m rfl)
   | none=>rw [jg,q]at hc;exact aD hc
  rw [hm]at jg
  refine dO (F.own _ m jG hm) fun a1 a2 a3=>?_
  refine ag.cons (WS.bE (WE.sub (WE.nm ok hk h1 (WE.nm ok hk rfl (W2.m5 (F.dict _ nd hN) (F.nodup hN) jg (WA.nm ok hk ?_))))))
  have e1:hr N key f=decide (f∈m.fs):=by simp [hr,hm]
  have e2:rc N key f=decide (f∈m.rs):=by simp [rc,hm]
  simp only [e1,e2]at hP
  refine ag.cons (WS.ret (WE.rm ?_))
  refine WE.ez (WE.nm ok hk h2 (WE.sub (WE.nm ok hk rfl (WE.str (W2.m5 a1 (gB m) (c:=.loc m.fa) rfl (W2.C4 a2 (iW.bool ?_)))))))
  cases hq:decide (f∈m.fs)with
  | true =>
   rw [hq]at hP
   have:=h (ak.put (ak.put ⟨bY,H⟩ "key_stem" (.str (key.getLast jG))) "cont" (.loc m.node)).lo
   rw [hP]at this;exact this
  | false =>
   rw [hq]at hP
   refine WE.ez (WE.nm ok hk h2 (WE.sub (WE.nm ok hk rfl (WE.str (W2.m5 a1 (gB m) (c:=.loc m.ra) rfl (W2.C4 a3 ?_))))))
   have:=h (ak.put (ak.put ⟨bY,H⟩ "key_stem" (.str (key.getLast jG))) "cont" (.loc m.node)).lo
   rw [hP]at this;exact this
 ·have hn:N key=none:=by
   cases q:N key with
   | none=>rfl
   | some m=>rw [jg,q]at hc;exact aD hc
  have e1:hr N key f=false:=by simp [hr,hn]
  have e2:rc N key f=false:=by simp [rc,hn]
  simp only [e1,e2]at hP
  refine ag.nil (ag.cons (WS.ret (WE.bool ?_)))
  have:=h (ak.put ⟨bY,H⟩ "key_stem" (.str (key.getLast jG))).lo
  rw [hP]at this;exact this
end
end
section
theorem uo{k:Str}{c:CV}:∀{es:List (Str×CV)},es.lookup k=none→fF es k c=es++[(k,c)]
 | [],_=>rfl
 | (k',v)::es,h=>by
  simp only [bQ]at h
  by_cases q:k=k'
  ·subst q;simp at h
  ·have q':(k == k')=false:=by simpa using q
   rw [q']at h
   unfold fF
   rw [if_neg (aN q),uo h];rfl
section
variable{C:Cx} {dep:Nat} {X:XP} {H:CH} {cl x d pa:Addr} {N:FN} {ow:FO} {pend:CO} {st:ak}
theorem WE.MH 
  (h:∀d,st.H d=bw→yO C ((keys.filterMap id).zip values) { st with H:=aV st.H d (.dict []) } (fun l bJ=>bJ.H d=some (.dict [])∧l.length≤15∧Q (.loc d) { bJ with H:=aV bJ.H d (.dict (rB [] l)) }) X)
  (Bs:(evalEachOpt keys C.env).zip ((wZ values C.env).map fun v=>do let x ← v;standAt pos;pure x)=(((keys.filterMap id).zip values).map (uc C.env pos)).map fun p=>(some p.1,p.2):=by rfl) (h0:(keys.filterMap id).zip values≠[]:=by simp) (hlen:((keys.filterMap id).zip values).length≤15:=by decide) :
  WE C (.Dict keys values pos) st Q X:=WE.dict _ h Bs h0 hlen
theorem gS(ok:C.Ok dep):C.env.blockKind=.function:=by
 unfold Env.blockKind
 rw [ok.kY]
 rfl
theorem WE.mT(ok:C.Ok dep)(hg:kQ C [("set",.type "set")])(hk:C.env.kindOf "set" = some .globalImplicit)(h:∀a,st.H a=bw→Q (.loc a) { st with H:=aV st.H a (.fE []) }):WE C (.Call (.Name "set" p1) [] [] p2) st Q X :=
 WE.call ok (WE.glob ok hg (v:=.type "set") rfl (cB _ rfl bu.type (aW.Jz h)) hk)
theorem FW.added{p:List Str}{nd:iL}{k:Str}{n f r e:Addr}(F:FW H cl x d pa N ow pend)(hN:N p=some nd)(hk:N (p++[k])=none)(mn:k∈bC)
  (z1:H n=none) (z2:aV H n (.dict []) f=none) (z3:aV (aV H n (.dict [])) f (.fE []) r=none) (z4:aV (aV (aV H n (.dict [])) f (.fE [])) r (.fE []) e=none) :
  ∃H' N' lN ic,H'=aV (aV (aV (aV (aV (aV H n (.dict [])) f (.fE [])) r (.fE [])) e (.dict [])) n (.dict [("flags",.loc f),("recursive_flags",.loc r),("nested",.loc e)])) nd.da (.dict (fF (kids N p nd) k (.loc n))) ∧
   FW H' cl x d pa N' lN pend∧FK H H' ow lN∧N' p=some ic∧ic.da=nd.da∧(N' (p++[k])).isSome=true∧(∀q g,hr N' q g=hr N q g)∧(∀q g,rc N' q g=rc N q g):=by
 have Dn:H nd.da≠none:=by rw [F.dict p nd hN];simp
 have cx:∀{H:CH} {a b:Addr} {c:CO},aV H a c b=none→b≠a∧H b=none:=fun{H a b c} h=>by
  unfold aV at h;split at h
  ·contradiction
  ·rename_i q;exact ⟨q,h⟩
 refine ao (cx z2) fun y1 w2=>?_
 refine ao (cx z3) fun y2 w3=>?_
 refine ao (cx w3) fun y3 w3=>?_
 refine ao (cx z4) fun y4 w4=>?_
 refine ao (cx w4) fun y5 w4=>?_
 refine ao (cx w4) fun y6 w4=>?_
 have c1:nd.da≠n:=fun q=>Dn (q▸z1)
 have c2:nd.da≠f:=fun q=>Dn (q▸w2)
 have c3:nd.da≠r:=fun q=>Dn (q▸w3)
 have c4:nd.da≠e:=fun q=>Dn (q▸w4)
 have hkk:k∉nd.ks:=fun h=>by have:=(F.yR p nd k hN).mp h;rw [hk]at this;exact aD this
 have NY:(kids N p nd).lookup k=none:=by rw [F.nj hN,hk];rfl
 have main:=F.add (H':=aV (aV (aV (aV (aV (aV H n (.dict [])) f (.fE [])) r (.fE [])) e (.dict [])) n (.dict [("flags",.loc f),("recursive_flags",.loc r),("nested",.loc e)])) nd.da (.dict (fF (kids N p nd) k (.loc n))))
  hN hkk mn z1 w2 w3 w4 (YW (aN y1) (aN y3) (aN y6) (aN y2) (aN y5) (aN y4)) (by simp [aV,aN c1]) (by simp [aV,y1,aN c2,aN y2,aN y5]) (by simp [aV,y3,aN c3,aN y4]) (by simp [aV,y6,aN c4])
  (by simp [aV,uo NY]) (fun b h1 h2 h3 h4 h5=>by simp [aV,h1,h2,h3,h4,h5])
 refine (Ye _ _ _ ({ nd with ks:=nd.ks++[k] }) rfl main.1 main.2 ?_ ?_ ?_ (NW hN hk) (NX hN hk))
 ·unfold nh;rw [jA (oR p k).symm];simp
 ·rfl
 ·simp [nh]
noncomputable def Z2(cl x d pa:Addr)(pend:CO)(lo:Str→Option CV)(p:List Str)(k:Str)(da:Addr)(H:CH)(N:FN)(ow:FO):CF→ak→Prop:=fun f aj=>f=.next∧aj.lo=lo ∧
 ∃N' lN ic m,FW aj.H cl x d pa N' lN pend∧FK H aj.H ow lN∧N' p=some ic∧ic.da=da∧N' (p++[k])=some m∧(∀q g,hr N' q g=hr N q g)∧(∀q g,rc N' q g=rc N q g)
theorem F0(ok:C.Ok dep)(fc:wG C cl)(hk:HK C (ax (ml 23 7)))
  (e:∃it o p,(bodyOf (ml 23 7)).getD 2 (.Pass default)=.For t it body o p) :
  ∀(ks:List Str) (p:List Str) (nd:iL) (N:FN) (ow:FO) (H:CH) (lo:Str→Option CV),FW H cl x d pa N ow pend→(∀k∈ks,k∈bC)→N p=some nd→lo "cont" = some (.loc nd.da)→lo "key_stem" = some c1→lo "flag" = some c2→lo "recursive" = some c3 →
   (∀H' N' lN ic bY,FW H' cl x d pa N' lN pend→FK H H' ow lN→N' (p++ks)=some ic→bY "cont" = some (.loc ic.da)→bY "key_stem" = some c1→bY "flag" = some c2→bY "recursive" = some c3→(∀q g,hr N' q g=hr N q g)→(∀q g,rc N' q g=rc N q g)→Q .next ⟨bY,H'⟩) →
   ll C t body [] (ks.map .str) ⟨lo,H⟩ Q X:=by
 revert e;intro R8;refine DV R8 fun it o pp e=>?_;try clear R8
 cases e
 intro ks
 induction ks with
 | nil=>intro p nd N ow H lo F _ hN h1 h2 h3 h4 q;exact ag.nil (q H N ow nd lo F (.refl _ _) (by simpa using hN) h1 h2 h3 h4 (fun _ _=>rfl) fun _ _=>rfl)
 | cons k ks ih =>
  intro p nd N ow H lo F mW hN h1 h2 h3 h4 q
  have mn:=mW k aH
  have jg:=F.nj (k:=k) hN
  refine WA.nm ok hk (ag.cons (WS.mono (Q:=Z2 cl x d pa pend ((ak.mk lo H).put "k" (.str k)).lo p k nd.da H N ow) ?_ ?_ fk))
  ·refine WS.oK (WT.ez (WE.nm ok hk rfl (WE.nm ok hk h1 (W2.oN (F.dict p nd hN) (F.nodup hN) (iW.bool ⟨fun hc=>?_,fun hc=>?_⟩)))))
   ·have hn:N (p++[k])=none:=by
     cases q:N (p++[k])with
     | none=>rfl
     | some m=>rw [jg,q]at hc;exact aD hc
    refine ag.cons (WS.bE (WE.MH fun n z1=>?_))
    refine WE.str (aw _ rfl (WE.mT ok fc.Ez (by rw [hk];rfl) fun f z2=>?_))
    refine WE.str (aw _ rfl (WE.mT ok fc.Ez (by rw [hk];rfl) fun r z3=>?_))
    refine WE.str (aw _ rfl (WE.xP fun e z4=>?_))
    refine UK (F.added hN hn mn z1 z2 z3 z4) fun H' N' lN ic eH F' K' g1 g2 g3 R9=>?_;(refine ao R9 fun g4 g5=>?_;try clear R9)
    have dn:aV (aV (aV (aV H n (.dict [])) f (.fE [])) r (.fE [])) e (.dict []) n=some (.dict []):=by
     have step:∀{H:CH} {a b:Addr} {c v:CO},H b=some v→H a=none→aV H a c b=some v:=fun{H a b c v} h q=>by
      unfold aV;split
      ·rename_i e;subst e;rw [h]at q;contradiction
      ·exact h
     exact step (step (step (by simp) z2) z3) z4
    refine (d9 dn (by (dsimp [iF,iT,iG,iU,iH,iV,nT,nF,aT,aF,oT,oF];simp)) ?_)
    have PC:nd.da≠n:=fun q=>by have:=F.dict p nd hN;rw [q,show H n=none from z1]at this;contradiction
    have WI:aV (aV (aV (aV (aV H n (.dict [])) f (.fE [])) r (.fE [])) e (.dict [])) n (.dict (rB [] [("flags",.loc f),("recursive_flags",.loc r),("nested",.loc e)])) nd.da=some (.dict (kids N p nd)):=by
     have step:∀{H:CH} {a b:Addr} {c v:CO},H b=some v→H a=none→aV H a c b=some v:=fun{H a b c v} h q=>by
      unfold aV;split
      ·rename_i e;subst e;rw [h]at q;contradiction
      ·exact h
     rw [j8 PC]
     exact step (step (step (step (F.dict p nd hN) z1) z2) z3) z4
    refine WA.Ju (WE.nm ok hk h1 (WE.nm ok hk rfl (DW _ _ _ rfl rfl WI (F.nodup hN) (by have:=F.K5 hN;(exact aJ (by assumption) (by decide))) ?_)))
    refine ag.nil (d9 rfl rfl (y9 N' lN ic ?_))
    refine cG (aY.mp g3) fun m hm=>?_
    rw [eH]at F' K'
    exact (UD m F' K' g1 g2 hm g4 g5)
   ·obtain ⟨m,hm⟩:∃m,N (p++[k])=some m:=by
     cases q:N (p++[k])with
     | some m=>exact (dA m rfl)
     | none=>rw [jg,q]at hc;exact aD hc
    exact ag.nil (d9 rfl rfl (N6 N ow nd m F (.refl _ _) hN rfl hm (fun _ _=>rfl) (fun _ _=>rfl)))
  ·rintro f ⟨BE,H1⟩ R4
   refine ao R4 fun G9 R9=>?_;try clear R4;obtain rfl:=G9;obtain ⟨rfl,N1,pv,K6,m,F1,K1,g1,g2,g3,g4,g5⟩:=R9
   have Bi:=F1.nj (k:=k) g1
   rw [g3]at Bi
   refine dO (F1.own _ m (by simp) g3) fun a1 a2 a3=>?_
   have Qt:lo "cont" = some (.loc K6.da):=by rw [g2];exact h1
   refine ag.cons (WS.bE (WE.sub (WE.sub (WE.nm ok hk Qt (WE.nm ok hk rfl (W2.m5 (F1.dict p K6 g1) (F1.nodup g1) Bi (WE.str (W2.m5 a1 (gB m) (c:=.loc m.da) rfl (WA.nm ok hk (ag.nil ?_))))))))))
   refine ih (p++[k]) m N1 pv H1 _ F1 (fun j hj=>mW j (aG _ hj)) g3 rfl h2 h3 h4 fun H' N' lN ic bY F' K' b1 b2 b3 b4 b5 b6 b7=>?_
   rw [bU]at b1
   exact q H' N' lN ic bY F' (K1.trans K') b1 b2 b3 b4 b5 (fun q g=>(b6 q g).trans (g4 q g)) fun q g=>(b7 q g).trans (g5 q g)
theorem Qu(ok:C.Ok dep)(fc:wG C cl)(hk:HK C (ax (ml 23 7)))(F:FW H cl x d pa N ow pend)(hl:key.length≤1000)(jG:key≠[])(mW:∀k∈key,k∈bC)(hf:f∈uj)
  (h:∀bY H' N' lN,FW H' cl x d pa N' lN pend→FK H H' ow lN→(∀q g,hr N' q g=(hr N q g||(!b&&decide (q=key)&&decide (g=f))))→(∀q g,rc N' q g=(rc N q g||(b&&decide (q=key)&&decide (g=f))))→Q .next ⟨bY,H'⟩) :
  ag C (bodyOf (ml 23 7)) ⟨fun y=>([("self" : Str), "key", "flag", "recursive"].zip [.loc x,.tup (key.map .str),.int f,.bool b]).lookup y,H⟩ Q X:=by
 refine az F.attrs fun r Dm P9=>?_
 have hlen:0<key.length:=by cases key with | nil=>exact absurd rfl jG | cons _ _=>simp
 have AL:(key.map CV.str)[cidx (key.map CV.str).length (-1)]?=some (.str (key.getLast jG)):=by
  have:cidx (key.map CV.str).length (-1)=key.length-1:=by unfold cidx;rw [cP];exact DU
  rw [this,cH,BD]
  simp [show key.length-1<key.length by (exact cU (by assumption) (bx _))]
 have HF:key.dropLast++[key.getLast jG]=key:=d8 jG
 refine ag.cons (WS.bE (WE.attr (WE.nm ok hk rfl (F.um ok fc Dm (WA.nm ok hk ?_)))))
 refine ag.cons (WS.DZ ok (WE.tuple ?_) (by rw [hk];rfl) (by rw [hk];rfl) rfl ?_)
 case refine_2 =>
  have k1:C.env.kindOf "key_parent" = some .local:=by rw [hk];rfl
  have k2:C.env.kindOf "key_stem" = some .local:=by rw [hk];rfl
  have k3:C.env.blockKind=.function:=gS ok
  delta kU
  dsimp only [lC]
  simp only [k1,k2,k3]
  rfl
 refine WE.slice (WE.nm ok hk rfl (WE.C7 (aw _ rfl (BM.MA (by simp;(exact aJ (by assumption) (by decide))) ?_))))
 refine WE.sub (WE.nm ok hk rfl (WE.C7 (W2.M6 (by simp;(exact ct.mpr (by assumption))) (by simp;(exact au _)) (by simp;exact cD.mpr (T1 [.l .x (.n 1000)] (.t .x (.n 4611686018427387904)) tA hl)) AL (lb (by (dsimp [iF,iT,iG,iU,iH,iV,nT,nF,aT,aF,oT,oF];simp)) (jq _ _ rfl ?_)))))
 rw [cP,AK hlen,← jb,← jM]
 refine ag.cons (WS.Be ok (WE.nm ok hk rfl (aw _ du.tup ?_)))
 refine F0 ok fc hk (y9 _ _ _ rfl) key.dropLast [] r N ow H _ F (fun k oQ=>mW k (List.dropLast_subset _ oQ)) Dm rfl rfl rfl rfl fun H1 N1 pv nd BE F1 K1 UW h1 h2 h3 h4 g4 g5=>?_
 simp only [bg]at UW
 have more:∀(p:List Str) (k:Str),p=key.dropLast→k=key.getLast jG→∀(N:FN) (ow:FO) (H:CH) (lo:Str→Option CV),FW H cl x d pa N ow pend→N p=some nd→lo "cont" = some (.loc nd.da)→lo "key_stem" = some (.str k)→k∈bC→WS C ((bodyOf (ml 23 7)).getD 3 (.Pass default)) ⟨lo,H⟩ (Z2 cl x d pa pend lo p k nd.da H N ow) X:=by
  intro p k PD hk0 N ow H lo F hN h1 h2 mn
  have jg:=F.nj (k:=k) hN
  refine WS.oK (WT.ez (WE.nm ok hk h2 (WE.nm ok hk h1 (W2.oN (F.dict p nd hN) (F.nodup hN) (iW.bool ⟨fun hc=>?_,fun hc=>?_⟩)))))
  ·have hn:N (p++[k])=none:=by
    cases q:N (p++[k])with
    | none=>rfl
    | some m=>rw [jg,q]at hc;exact aD hc
   refine ag.cons (WS.bE (WE.MH fun n z1=>?_))
   refine WE.str (aw _ rfl (WE.mT ok fc.Ez (by rw [hk];rfl) fun f z2=>?_))
   refine WE.str (aw _ rfl (WE.mT ok fc.Ez (by rw [hk];rfl) fun r z3=>?_))
   refine WE.str (aw _ rfl (WE.xP fun e z4=>?_))
   refine UK (F.added hN hn mn z1 z2 z3 z4) fun H' N' lN ic eH F' K' g1 g2 g3 R9=>?_;(refine ao R9 fun g4 g5=>?_;try clear R9)
   have dn:aV (aV (aV (aV H n (.dict [])) f (.fE [])) r (.fE [])) e (.dict []) n=some (.dict []):=by
    have step:∀{H:CH} {a b:Addr} {c v:CO},H b=some v→H a=none→aV H a c b=some v:=fun{H a b c v} h q=>by
     unfold aV;split
     ·rename_i e;subst e;rw [h]at q;contradiction
     ·exact h
    exact step (step (step (by simp) z2) z3) z4
   refine (d9 dn (by (dsimp [iF,iT,iG,iU,iH,iV,nT,nF,aT,aF,oT,oF];simp)) ?_)
   have PC:nd.da≠n:=fun q=>by have:=F.dict p nd hN;rw [q,show H n=none from z1]at this;contradiction
   have WI:aV (aV (aV (aV (aV H n (.dict [])) f (.fE [])) r (.fE [])) e (.dict [])) n (.dict (rB [] [("flags",.loc f),("recursive_flags",.loc r),("nested",.loc e)])) nd.da=some (.dict (kids N p nd)):=by
    have step:∀{H:CH} {a b:Addr} {c v:CO},H b=some v→H a=none→aV H a c b=some v:=fun{H a b c v} h q=>by
     unfold aV;split
     ·rename_i e;subst e;rw [h]at q;contradiction
     ·exact h
    rw [j8 PC]
    exact step (step (step (step (F.dict p nd hN) z1) z2) z3) z4
   refine WA.Ju (WE.nm ok hk h1 (WE.nm ok hk h2 (DW _ _ _ rfl rfl WI (F.nodup hN) (by have:=F.K5 hN;(exact aJ (by assumption) (by decide))) ?_)))
   refine ag.nil (d9 rfl rfl (y9 N' lN ic ?_))
   refine cG (aY.mp g3) fun m hm=>?_
   rw [eH]at F' K'
   exact (UD m F' K' g1 g2 hm g4 g5)
  ·obtain ⟨m,hm⟩:∃m,N (p++[k])=some m:=by
    cases q:N (p++[k])with
    | some m=>exact (dA m rfl)
    | none=>rw [jg,q]at hc;exact aD hc
   exact ag.nil (d9 rfl rfl (N6 N ow nd m F (.refl _ _) hN rfl hm (fun _ _=>rfl) (fun _ _=>rfl)))
 refine ag.cons (WS.mono (more key.dropLast (key.getLast jG) rfl rfl N1 pv H1 BE F1 UW h1 h2 (mW _ (List.getLast_mem jG))) ?_ fk)
 rintro f' ⟨Dp,H2⟩ R4
 refine ao R4 fun G9 R9=>?_;try clear R4;obtain rfl:=G9;obtain ⟨e2,N2,mM,Z3,m,F2,K2,b1,b2,b3,b4,b5⟩:=R9
 dsimp only at e2
 subst e2
 have Bi:=F2.nj (k:=key.getLast jG) b1
 rw [b3]at Bi
 rw [HF]at b3
 refine dO (F2.own _ m jG b3) fun a1 a2 a3=>?_
 have Qt:Dp "cont" = some (.loc Z3.da):=by rw [b2];exact h1
 refine ag.cons (WS.expr ok (WE.lH ok (WE.sub (WE.sub (WE.nm ok hk Qt (WE.nm ok hk h2 (W2.m5 (F2.dict _ Z3 b1) (F2.nodup b1) Bi (WE.xA (WT.value rfl (WE.nm ok hk h4 (iW.bool ?_)))))))))))
 have done:∀H3,H3=aV H2 (if b then m.ra else m.fa) (.fE (let l:=if b then m.rs else m.fs;if f∈l then l else l++[f]))→ag C [] ⟨Dp,H3⟩ Q X:=by
  intro H3 e3
  have F3:=F2.flag (H':=H3) (f:=f) (rec:=b) jG b3 hf (by rw [e3];simp) (fun c hc=>by rw [e3,j8 hc])
  have slot:mM (if b then m.ra else m.fa)=some (key,if b then 2 else 1):=by
   refine dO (F2.mM key m jG b3) fun _ a c=>?_
   clear h h4 e3 F3;cases b <;> assumption
  refine ag.nil (h Dp H3 _ mM F3 ((K1.trans K2).trans (FK.flag slot fun c hc=>by rw [e3,j8 hc])) (fun q g=>?_) fun q g=>?_)
  ·rw [K3 b3,b4,g4]
  ·rw [K4 b3,b5,g5]
 refine ao (F2.Eu key m b3) fun G9 R9=>?_;(refine ao G9 fun n1 n2=>?_;try clear G9);(refine ao R9 fun n3 n4=>?_;try clear R9)
 have len:∀l:List Int,l.Nodup→(∀g∈l,g∈uj)→l.length≤900:=fun l q1 q2=>by
  have:=c9 q1 q2
  (exact aJ (by assumption) (by decide))
 cases b with
 | true =>
  refine WE.str (W2.m5 a1 (gB m) (c:=.loc m.ra) rfl (cB _ bu.builtin (eX.fE a3 BF BG) (WE.nm ok hk h3 (aW.Dk a3 (len _ n3 n4) ⟨rfl,done _ rfl⟩))))
 | false =>
  refine WE.str (W2.m5 a1 (gB m) (c:=.loc m.fa) rfl (cB _ bu.builtin (eX.fE a2 BF BG) (WE.nm ok hk h3 (aW.Dk a2 (len _ n1 n2) ⟨rfl,done _ rfl⟩))))
end
end
section
section
variable{C C':Cx} {dep:Nat} {X:XP} {H:CH} {cl x d pa:Addr} {N:FN} {ow:FO} {pend:CO}
theorem wG.same(fc:wG C cl)(s:C.iY C'):wG C' cl:=by
 have hK:=s.K
 exact ⟨by rw [hK];exact fc.ok,by rw [hK];exact fc.flags,by rw [hK];exact fc.Qs,by rw [hK];exact fc.HC,by rw [hK];exact fc.MG,fc.Ez.same s⟩
theorem NZ(ok:C.Ok dep)(fc:wG C cl)(hk:HK C (ax (ml 23 3)))(BO:x≠d)(z1:H0 x=none)(z2:H0 d=none)
  (h:∀bY H' r pa,FW H' cl x d pa (fun(q:List Str)=>if q=[]then some ⟨0,0,0,r,[],[],[]⟩else none) (fV (fV (fV (fV (fun _=>none) x ([],10)) d ([],11)) pa ([],12)) r ([],3)) (.fE []) →
   (∀a,H0 a≠none→H' a=H0 a)→H0 r=none→H0 pa=none→Q .next ⟨bY,H'⟩) :
  ag C (bodyOf (ml 23 3)) ⟨fun y=>([("self" : Str)].zip [.loc x]).lookup y,aV (aV H0 d (.dict [])) x (.inst cl d)⟩ Q X:=by
 have cx:∀{H:CH} {a b:Addr} {c:CO},aV H a c b=none→b≠a∧H b=none:=fun{H a b c} h=>by
  unfold aV at h;split at h
  ·contradiction
  ·rename_i q;exact ⟨q,h⟩
 refine ag.cons (WS.bE (WE.xP fun r z3=>?_))
 refine ao (cx z3) fun y1 y2=>?_
 refine ao (cx y2) fun y2 y3=>?_
 refine WA.attr ok (WE.nm ok hk rfl (N6 x d cl ([]) rfl fc.ok ?_ ?_ fc.HC (by simp) ?_))
 ·simp [aV,aN y1]
 ·simp [aV,aN y2,aN BO]
 refine ag.cons (WS.bE (WE.mT ok fc.Ez (by rw [hk];rfl) fun p z4=>?_))
 refine ao (cx z4) fun w1 w2=>?_
 refine ao (cx w2) fun w3 w4=>?_
 refine ao (cx w4) fun w5 w6=>?_
 refine ao (cx w6) fun w7 w8=>?_
 refine WA.attr ok (WE.nm ok hk rfl (N6 x d cl ([("_flags",.loc r)]) rfl fc.ok ?_ ?_ fc.MG (by (dsimp [iF,iT,iG,iU,iH,iV,nT,nF,aT,aF,oT,oF];simp)) (ag.nil ?_)))
 ·simp [aV,aN w5,aN y1,BO]
 ·simp [aV,aN w1,fF]
 refine h _ _ r p (FW.new (r:=r) (YW BO (aN y1) (aN w5) (aN y2) (aN w1) (aN w3)) ?_ ?_ ?_ ?_) (fun a ha=>?_) y3 w8
 ·simp [aV,BO,aN w5,aN y1]
 ·have e:fF [(("_flags" : Str),CV.loc r)] "_pending_flags" (.loc p)=([("_flags",.loc r),("_pending_flags",.loc p)]:List (Str×CV)):=rfl
  simp [aV,e]
 ·simp [aV,y2,aN w3]
 ·simp [aV,w1]
 ·have n1:a≠d:=fun q=>by subst q;exact ha z2
  have n2:a≠x:=fun q=>by clear BO h z3 y1 z4 w2 w4 w5;subst q;exact ha z1
  have n3:a≠r:=fun q=>by subst q;exact ha y3
  have n4:a≠p:=fun q=>by clear z4 w1 w2 w3 w4 w5 w6 w7;subst q;exact ha w8
  simp [aV,n1,n2,n3,n4]
end
end
section
noncomputable def WJ(C:Cx):List Expr→Str→ak→(CV→ak→Prop)→XP→Prop
 | [],acc,st,Q,_=>acc.length≤bZ∧Q (.str acc) st
 | e::es,acc,st,Q,X=>WE C e st (fun v bJ=>∃y,v=.str y∧(acc++y).length≤bZ∧WJ C es (acc++y) bJ Q X) X
noncomputable def jh(C:Cx)(a:CV)(st:ak)(Q:CV→ak→Prop)(X:XP):Prop:=W1 C (fun v=>formatField v bt) a st Q X
section
variable{C:Cx} {dep:Nat} {KF I:IM} {st:ak} {s:Shared} {X:XP} {Q:CV→ak→Prop}
theorem WJ.all:∀{es:List Expr} {acc:Str} {st:ak} {Q:CV→ak→Prop},WJ C es acc st Q X→∀I,WL C (joinParts acc (wZ es C.env)) I st (VQ Q) X
 | [],acc,st,Q,h,I=>fun KF s S=>joinParts_nil (pq (.str acc) (S.toks _) (dA _ rfl) h.2) h.1
 | e::es,acc,st,Q,h,I=>fun KF s S=>by
  show aR _ _ (joinParts acc (gK e C.env::wZ es C.env)) _ _ _
  refine joinParts_cons (aM (h I KF s S) (fun v s1 W8=>dC W8 fun J bJ l S1 hZ=>az hZ fun b r HG=>eZ HG fun y e hz q=>?_) fun _ _ x=>x)
  subst e
  refine cG r fun t G8=>?_;try clear r;clear W8;obtain rfl:=G8
  exact ⟨hz,aM (WJ.all q J KF s1 S1) (fun v s2 W9=>dC W9 fun J2 cJ l2 S2 hZ=>az hZ fun b r q2=>(dK J2 cJ (l.trans l2) S2 (aw b r q2))) fun e s2 R0=>jr R0 fun J2 x cJ l2 S2 r q2=>(js J2 x cJ (l.trans l2) S2 r q2)⟩
theorem WE.AM(h:WJ C (WK::WM::rest) bt st Q X):WE C (.JoinedStr (WK::WM::rest) pos) st Q X:=fun I=>h.all I
theorem WE.fmt(h:WE C value st (fun v bJ=>jh C v bJ Q X) X):WE C (.FormattedValue value (-1) bw pos) st Q X:=fun I KF s S =>
 FormattedValue_plain (aM (h I KF s S) (fun v s1 R1=>dC R1 fun J bJ l S1 hZ=>az hZ fun b r q=>aM (q J v r KF s1 S1) (fun v s2 R2=>dC R2 fun J2 cJ l2 S2 hZ=>az hZ fun b r q2=>(dK J2 cJ (l.trans l2) S2 (aw b r q2))) fun e s2 R3=>jr R3 fun J2 x cJ l2 S2 r q2=>(js J2 x cJ (l.trans l2) S2 r q2)) fun _ _ x=>x)
theorem jh.str(hx:x.length≤bZ)(h:Q (.str x) st):jh C (.str x) st Q X:=fun I v r KF s S=>by
 refine cG r fun t G8=>?_;try clear r;obtain rfl:=G8
 exact formatField_str (fun t' tk=>(pq (.str x) (S.toks _) (dA _ rfl) h)) hx
theorem jh.int(ha:a.natAbs.log2<1920)(h:Q (.str (toString a)) st):jh C (.int a) st Q X:=fun I v r KF s S=>by
 refine cG r fun t G8=>?_;try clear r;obtain rfl:=G8
 exact formatField_int_small ha (pq (.str (toString a)) (S.toks _) (dA _ rfl) h)
noncomputable def iM(cs:List CV):Str:=(toPy (.tup cs)).shown
theorem jh.tup(ok:C.Ok dep)(hp:eS (.tup cs)=true)(hs:(toPy (.tup cs)).showable=true)(hd:(toPy (.tup cs)).depth≤100)(hnd:(toPy (.tup cs)).hasDict=false)(hz:(iM cs).length≤bZ)(h:Q (.str (iM cs)) st):jh C (.tup cs) st Q X:=fun I v r KF s S=>by
 refine ao (VR.reads S.de (.tup cs) v hp r) fun G9 hx=>?_;(refine cG G9 fun as x=>?_;try clear G9)
 refine j7 r fun a n xs G5 _=>?_;try clear r;obtain rfl:=G5
 have hu:=ok.units
 exact formatField_of_reads x hs (fun q=>by rw [hnd]at q;exact aD q) ok.guards (T4 [.l .x (.n 100),.t (.a (.a .y (.m 10 .z)) (.n 200)) .w] (.t (.a .y (.a .x (.n 2))) .w) tA hd hu) (fun b o e=>e) (fun h' u tk hk=>(pq (.str _) (S.keeps hk) (dA _ rfl) h)) hz
end
end
section
structure AN(C:Cx)(cl:Addr):Prop where
 at_:∃nm q N bs hdct sn sub ab col dd k0 k1 k2 k3 k5 mN,C.base.get? cl=some (excClassObj nm q cl N bs [.type "ValueError",.type "Exception",.type "BaseException",.type "object"] hdct sn sub ab col dd k0 k1 k2 k3 k5 "ValueError.__new__")∧C.base.Ns N mN∧mN "__init__" = none∧mN "__str__" = none
noncomputable def F4(C:Cx)(KF I:IM)(cl:Addr)(args:CV)(v:Value)(h:Heap):Prop :=
 ∃e t,v=.ref e∧(C.wC e∧KF e=none∧I e=none)∧h.get? e=some { cls:=.ref cl,data:=.fields #[.ref t,.none,.none,.none,.bool false,.none] }∧VR I args (.ref t)
section
variable{C:Cx} {dep:Nat} {KF I:IM} {st:ak} {s:Shared} {X:XP} {cl:Addr} {args:CV} {Q:ak→Prop}
theorem AN.same(x:AN C cl)(e:C.iY C'):AN C' cl:=⟨by rw [e.base];exact x.at_⟩
theorem F4.xr(x:F4 C KF I cl args v h):XR C KF I ⟨.ref cl,args⟩ v h:=by
 refine gP x fun e t G7 R9=>?_;clear x;obtain rfl:=G7;(refine dO R9 fun hf he hv=>?_)
 exact ⟨e,_,_,.ref t,.none,rfl,hf,he,rfl,rfl,rfl,hv,rfl,.inl ⟨rfl,rfl⟩⟩
theorem Cx.wC.same(e:C.iY C'):C'.wC a↔C.wC a:=by unfold Cx.wC;rw [e.base,e.tb]
noncomputable def PE(C:Cx)(e:Expr)(st:ak)(cl:Addr)(args:CV)(Q:ak→Prop)(X:XP):Prop:=∀I KF s,SR C KF I st s →
 aR (aS C.prog C.w) C.A (gK e C.env) (fun v s'=>∃J aj,fq I J∧SR C KF J aj s'∧F4 C KF J cl args v s'.heap∧Q aj) (eV C KF I X) s
noncomputable def sF(C:Cx)(f:Value)(as:List CV)(st:ak)(cl:Addr)(args:CV)(Q:ak→Prop)(X:XP):Prop:=∀I us,ck I as us→∀KF s,SR C KF I st s →
 aR (aS C.prog C.w) C.A (call f us []) (fun v s'=>∃J aj,fq I J∧SR C KF J aj s'∧F4 C KF J cl args v s'.heap∧Q aj) (eV C KF I X) s
theorem eV.trans(l:fq I J)(h:eV C KF J X e s'):eV C KF I X e s':=by
 refine j7 h fun J2 x cJ l2 r=>?_
 exact (Oy J2 x cJ (l.trans l2) r)
theorem PE.call(ok:C.Ok dep)
  (h:WE C (.Name x px) st (fun f bJ=>∃fv,f=.raw fv∧bu C fv∧rV C es bJ (fun as cJ=>sF C fv as cJ cl args Q X) X) X)
  (hs:es.all noStar=true:=by rfl):PE C (.Call (.Name x px) es [] pos) st cl args Q X:=fun I KF s S=>by
 show aR _ _ (do sb pos (← gK (.Name x px) C.env) [] (j5 pos (eA es C.env)) (eU pos (cX [] C.env))) _ _ s
 refine aA (aM (h I KF s S) (fun f s1 W8=>dC W8 fun J bJ l S1 hZ=>az hZ fun c r HG=>eZ HG fun fv e hf q=>?_) fun _ _ x=>x)
 subst e
 subst r
 refine nA (P:=fun h=>C.K.In h) (by rw [ir hs];rfl) hf (aM (k6 (X:=X) (kws:=[]) (Q:=fun as ks cJ=>ks=[]∧sF C f as cJ cl args Q X) (f:=f) (pos:=pos) ?_ hs rfl J KF s1 S1) (fun a s2 W9=>dC W9 fun J2 cJ l2 S2 hZ=>BK hZ fun as ks vs r1 e r2 hk q=>⟨S2.tw ok,?_⟩) fun e s2 q=>?_)
 ·have conv:∀(es:List Expr) (st:ak) (P P':List CV→ak→Prop),(∀as st,P as st→P' as st)→rV C es st P X→rV C es st P' X:=by
   intro es
   induction es with
   | nil=>intro st P P' hp q;exact hp _ _ q
   | cons e es ih=>intro st P P' hp q;exact WE.mono q (fun b aj q=>ih _ _ _ (fun as st q=>hp _ _ q) q) fk
  exact conv es bJ _ _ (fun as cJ q=>⟨rfl,q⟩) q
 ·subst hk
  have:=r2.dQ
  clear r2;subst this
  rw [e]
  rw [rh,bg]
  exact aM (q J2 _ r1 KF s2 S2) (fun v s3 R0=>dC R0 fun J3 i8 l3 S3 r=>(dK J3 i8 (l.trans (l2.trans l3)) S3 r)) fun e s3 q=>eV.trans (l.trans l2) q
 ·exact eV.trans l q
theorem sF.cls(x:AN C cl)(hT:st.H C.tb≠none)(hl:as.length≤1000)(h:Q st):sF C (.ref cl) as st cl (.tup as) Q X:=fun I us r KF s S=>by
 refine N7 x.at_ fun nm q N bs hdct sn sub ab col dd R9=>?_;(refine VL R9 fun k0 k1 k2 k3 k5 mN hC hn h1 h2=>?_)
 have bk:∀b o,C.base.get? b=some o→s.heap.get? b=some o:=fun b o e=>S.de b o (S.base b o e)
 have hlen:=r.length
 obtain ⟨hp,g,d,tk,os⟩:=s
 refine wpAny_call_exc_sub (hrest:=by simp only [← hlen,aa];(exact aJ (by assumption) (by decide))) F.excBase_ValueError (bk _ _ hC) (hn.keeps bk) h1 fun h' e hm=>?_
 refine eZ hm.there fun t he ht Z4=>?_
 have S1:SR C KF I st { heap:=h',gens:=g,drawn:=d,toks:=tk,os:=os }:=S.keeps (tk:=tk) hm.keeps
 refine ip (S.fresh hm.new) fun f1 f2 f3 f4=>?_
 refine ip (S.fresh ht) fun g1 g2 g3 g4=>?_
 have cx:e≠t:=fun q=>by
  clear ht g1 g2 g3 g4;subst q
  have A3:h'.get? e=_:=he
  rw [Z4]at A3
  cases A3
 have hb:C.base.get? e=none:=by
  cases hb:C.base.get? e with
  | none=>rfl
  | some o =>
   have:=S.base e o hb
   rw [f1]at this
   contradiction
 have S2:=S1.kZ (a:=t) Z4 g1 g2 g3 g4
 refine (EX _ st (dt g1) S2 (EX e t rfl (d9 ⟨hb,S.Qf hT hm.new⟩ f2 (by rw [dR cx];exact f1)) he ?_) h)
 exact (tq t 0 us.toArray rfl cw (by simpa using ck.mono (dt g1) _ _ r))
noncomputable def yV(C:Cx)(ss:List Stmt)(st:ak)(cl:Addr)(args:CV)(Q:ak→Prop)(X:XP):Prop:=∀I KF s,SR C KF I st s →
 aR (aS C.prog C.w) C.A (execs ss C.env) (fun f s'=>∃J aj,fq I J∧SR C KF J aj s'∧F4 C KF J cl args (ND f) s'.heap∧Q aj) (eV C KF I X) s
theorem yV.cons(h:WS C t st (fun f bJ=>f=.next∧yV C rest bJ cl args Q X) X):yV C (t::rest) st cl args Q X:=fun I KF s S=>by
 simp only [D9]
 refine aA (aM (h I KF s S) (fun f s1 R1=>dC R1 fun J bJ l S1 hZ=>eZ hZ fun b hb e q=>?_) fun _ _ x=>x)
 subst e
 clear R1;cases hb
 exact aM (q J KF s1 S1) (fun v s3 R2=>dC R2 fun J3 i8 l3 S3 r=>(dK J3 i8 (l.trans l3) S3 r)) fun e s3 q=>eV.trans l q
theorem yV.ret(h:PE C e st cl args Q X):yV C (.Return (some e) pos::rest) st cl args Q X:=fun I KF s S=>by
 simp only [D9,zM]
 refine aA (aA (ej (aA (aM (h I KF s S) (fun v s1 q=>?_) fun _ _ x=>x))))
 exact aC (aC q)
theorem WS.raise(ok:C.Ok dep)(x:AN C cl)(h:PE C e st cl args (fun bJ=>X ⟨.ref cl,args⟩ bJ) X):WS C (.Raise (some e) none pos) st R X:=fun I KF s S=>by
 refine N7 x.at_ fun nm q N bs hdct sn sub ab col dd R9=>?_;(refine VL R9 fun k0 k1 k2 k3 k5 mN hC hn h1 h2=>?_)
 dsimp only [arm_exec_Raise]
 refine aA (ej (wpAny_raiseStmt_made_sub (bm:=[.type "ValueError",.type "Exception",.type "BaseException",.type "object"]) (C:=cl) (nm:=nm) (q:=q) (N:=N) (bs:=bs) (hdct:=hdct) (sn:=sn) (sub:=sub) (ab:=ab) (col:=col) (dd:=dd) (k0:=k0) (k1:=k1) (k2:=k2) (k3:=k3) (k5:=k5) (newId := "ValueError.__new__") (by decide +kernel) ok.hd ?_))
 refine aA (aM (h I KF s S) (fun v s1 R3=>UE R3 fun J bJ l S1 hx q=>aA (ej (aC ?_))) fun _ _ x=>x)
 have hxr:=hx.xr
 refine gP hx fun ea t G7 R9=>?_;clear R3 hx;obtain rfl:=G7;(refine dO R9 fun hf he hv=>?_)
 exact (EX ea t rfl (S1.de _ _ (S1.base _ _ hC)) he (js J _ bJ l S1 hxr q))
end
end
section
structure uq(C:Cx)(cd:Value):Prop where
 code:∃c o vs file tf flags tg WN text tt,cd=.ref c∧C.base.get? c=some o∧o.cls=.type "code"∧o.data=.fields vs∧vs.getD 11 .none=.ref C.tb∧vs.getD 18 .none=.str file tf∧vs.getD 7 .none=.int flags tg∧vs.getD 9 .none=.bool WN∧vs.getD 10 .none=.int text tt
 hole:C.base.get? C.tb=none
 bi:∃bm o,C.mg "__builtins__" = some (.ref bm)∧bm≠eM∧bm≠bM∧C.base.get? bm=some o∧o.cls=.type "module"∧o.dict=some eM∧o.data=.plain
theorem wH:U0 pos [kK pos.line,kK pos.col,c]=some c:=by
 have:=codeAmong_snoc (pos:=pos) (c:=c) [] trivial rfl
 simpa using this
section
variable{C:Cx} {dep:Nat} {KF I:IM} {st:ak} {s:Shared} {X:XP} {Q:CV→ak→Prop}
theorem uq.same(d:uq C cd)(e:C.iY C'):uq C' cd:=by
 refine ⟨?_,?_,?_⟩
 ·rw [e.base,e.tb];exact d.code
 ·rw [e.base,e.tb];exact d.hole
 ·rw [e.base,e.mg];exact d.bi
theorem HH{mg}
  {Q:Value→Shared→Prop} (jF:∀x∈scope.names,x.2≠.free) (hg:s.heap.Ns env.globals mg) (r6:env.code=.ref c) (MJ:s.heap.IsCode c Pl ps)
  (hf:U0 pos ps.toList=some c') (hb:s.heap.BuiltinsAt mg Pl)
  (h:∀doc tk,Q (.ref s.heap.objs.size) { s with heap:=s.heap.push { cls:=.type "function",data:=.func (GV name qualname params body scope env.globals dV Na none ((mg "__name__").getD .none) c' doc) },toks:=tk }) :
  aR M A (wi name qualname params (.stmts body) scope env dV Na none pos firstLine) Q E s:=by
 have hc:qY scope env=pure []:=by
  dsimp only [qY]
  rw [DD [] (fun x hx c=>by
   obtain ⟨n,kind⟩:=x
   have:(kind == j4)=false:=by simpa using jF _ hx
   simp only [this,aL,if_false])]
  rfl
 dsimp only [wi,jS,if_true,pure_bind,hc,iF,iT,iG,iU,iH,iV,nT,nF,aT,aF,oT,oF];simp only [wi,jS,if_true,pure_bind,hc]
 refine aA (wpAny_functionCode_hit r6 MJ hf ?_)
 refine YZ hb fun bm o Qv HI _ Qw PF HJ AO AP=>?_
 refine aA (Pc hg Qv HI PF HJ AO AP ?_)
 refine aA (LY hg ?_)
 cases WO:docOf body with
 | none=>exact aA (aC (bz (h .none _) (by size_fits)))
 | some t=>exact aA (wh (bz (h _ _) (by size_fits)))
theorem HL{mg}
  {Q:Value→Shared→Prop} (jF:∀x∈scope.names,x.2≠.free) (hg:s.heap.Ns env.globals mg) (r6:env.code=.ref c) (MJ:s.heap.IsCode c Pl ps) (K7:s.heap.TableAt c Pl ps)
  (Q6:U0 pos ps.toList=none) (WQ:env.globals≠Pl) (hb:s.heap.BuiltinsAt mg Pl)
  (h:∀c' doc h' tk,Te Pl s.heap h'→s.heap.objs.size≤c'→c'<h'.objs.size→h'.CodeRec (.ref c') qualname→h'.TableAt c Pl (ps++#[kK pos.line,kK pos.col,.ref c']) →
   Q (.ref h'.objs.size) { s with heap:=h'.push { cls:=.type "function",data:=.func (GV name qualname params body scope env.globals dV Na ann ((mg "__name__").getD .none) (.ref c') doc) },toks:=tk }) :
  aR M A (wi name qualname params (.stmts body) scope env dV Na ann pos firstLine) Q E s:=by
 have hc:qY scope env=pure []:=by
  dsimp only [qY]
  rw [DD [] (fun x hx c=>by
   obtain ⟨n,kind⟩:=x
   have:(kind == j4)=false:=by simpa using jF _ hx
   simp only [this,aL,if_false])]
  rfl
 dsimp only [wi,jS,if_true,pure_bind,hc,iF,iT,iG,iU,iH,iV,nT,nF,aT,aF,oT,oF];simp only [wi,jS,if_true,pure_bind,hc]
 refine aA (wpAny_functionCodeX r6 MJ K7 Q6 fun c' h' tk hx Nb fM _ K8 Z5 _=>?_)
 refine YZ hb fun bm o Qv HI _ Qw PF HJ AO AP=>?_
 have UO:=hg.extBut hx WQ
 refine aA (Pc UO Qv HI (hx _ _ Qw PF) HJ AO AP ?_)
 refine aA (LY UO ?_)
 cases WO:docOf body with
 | none=>exact aA (aC (bz (h c' .none h' tk hx Nb fM K8 Z5) (by size_fits)))
 | some t=>exact aA (wh (bz (h c' _ h' _ hx Nb fM K8 Z5) (by size_fits)))
noncomputable def oS(name q:Str)(params:Arguments)(body:List Stmt)(scope:PW)(fd:kh):Prop:=∃pm c doc,fd=GV name q params body scope bM .none .none none pm c doc
theorem HM(ok:C.Ok dep)(d:uq C C.env.code)(hH:st.H C.tb=some (.fu q pos))
  (jF:(scope.names.all fun x=>x.2 != .free)=true) (WR:params.kwonlyargs=[]) (h:Q (.fn (oS name q params body scope)) st) :
  ∀I,WL C (makeFunction name q params (.stmts body) scope C.env [] [] [] pos fl) I st (VQ Q) X:=fun I KF s S=>by
 refine N7 d.code fun c o vs file tf flags tg WN text tt R9=>?_;(refine U08 R9 fun hc ho Qx hd Nc h18 h7 h9 h10=>?_)
 refine U26 d.bi fun bm ob Qv HI WU PF HJ AO AP=>?_
 refine dO (S.mu _ _ hH) fun f1 f2 R9=>?_;obtain ⟨op,UX,ps,rfl,u5⟩:=R9
 have bk:∀b o,C.base.get? b=some o→s.heap.get? b=some o:=fun b o e=>S.de b o (S.base b o e)
 have WV:∀{b o},C.base.get? b=some o→b≠C.tb:=fun{b o} e q=>by rw [q,d.hole]at e;contradiction
 have HN:∀x∈scope.names,x.2≠.free:=fun x hx q=>by have:=bc.mp jF x hx;rw [q]at this;exact aD this
 have hg:s.heap.Ns C.env.globals C.mg:=by rw [ok.gl];exact ok.g.keeps bk
 have WW:TriplesOk ps.toList:=by
  refine fY u5 (fun e=>?R6) (fun R7=>?R5);(case' R5=>try clear u5;obtain ⟨c',oc,BL,t,e,_⟩:=R7);(case' R6=>skip)
  ·rw [e];trivial
  ·rw [e];exact trivial
 have MJ:s.heap.IsCode c C.tb ps:=⟨o,vs,file,tf,flags,tg,WN,text,tt,_,bk _ _ ho,hd,Nc,h18,h7,h9,h10,UX,rfl,WW,WV ho⟩
 have WX:vs[11]?=some (.ref C.tb):=by
  rw [eE]at Nc
  cases q:vs[11]? with
  | none=>rw [q]at Nc;contradiction
  | some v=>rw [q]at Nc;exact congrArg some Nc
 have K7:s.heap.TableAt c C.tb ps:=⟨(EX o vs (bk _ _ ho) Qx hd WX),UX⟩
 have hB:s.heap.BuiltinsAt C.mg C.tb:=(V27 bm ob Qv HI WU (WV PF) (bk _ _ PF) HJ AO AP)
 rw [makeFunction_eq,WR]
 refine aA (aC (aA (aC (aA (aC ?_)))))
 rcases u5 with e | ⟨c',oc,BL,t,e,hi,yL,hn⟩
 ·clear WW;subst e
  have WQ:C.env.globals≠C.tb:=by
   rw [ok.gl]
   refine j7 ok.g fun og _ _ eg _=>?_
   exact WV eg
  refine HL HN hg hc MJ K7 rfl WQ hB fun c' doc h' tk hx Nb fM K8 MK=>?_
  refine UH K8 fun c2 oc BL t e2 Qx PC hn=>?_
  cases e2
  have xF:=S.fresh (EL Nb)
  have cx:c'≠C.tb:=fun q=>by
   have:=av UX
   rw [← q]at this
   exact absurd this (ei.mpr Nb)
  have S1:SR C KF I { st with H:=eo st.H C.tb } { s with heap:=h',toks:=tk }:=(S.N8 C.tb).heap fun a o' e hb=>hx a o' (fun q=>by
   clear e;subst q
   rcases hb with hb | hb | hb | hb
   ·exact hb f1
   ·exact hb f2
   ·exact hb (by show eo st.H C.tb C.tb=none;simp [eo])
   ·have:=(S.own _ hb).2.2;rw [hH]at this;contradiction) e
  have S2:=S1.kZ (a:=c') Qx xF.1 xF.2.1 (by show eo st.H C.tb c'=none;rw [Je cx];exact xF.2.2.1) xF.2.2.2
  refine ao MK fun _ WY=>?_;try clear MK
  have S3:=S2.Jg (a:=C.tb) (c:=.fu q pos) ⟨(S.low.2 _ _ hH).1,fun _=>rfl⟩ WY (by rw [dR (aN cx)];exact f1) f2 (fun hb=>by have:=(S.own _ hb).2.2;rw [hH]at this;contradiction)
   (aw _ rfl (.inr (P0 c' oc BL t (by rfl) cw PC hn)))
  have eH:aV (eo st.H C.tb) C.tb (.fu q pos)=st.H:=by
   funext b
   delta aV eo
   by_cases hq:b=C.tb
   ·subst hq;simp [hH]
   ·simp [hq]
  have S4:SR C KF (df I c' oc) st { s with heap:=h',toks:=tk }:=by
   have:SR C KF (df I c' oc) { lo:=st.lo,H:=aV (eo st.H C.tb) C.tb (.fu q pos) } { s with heap:=h',toks:=tk }:=S3
   rw [eH]at this
   exact this
  refine ao (S4.mT (o:={ cls:=.type "function",data:=.func (GV name q params body scope C.env.globals .none .none none ((C.mg "__name__").getD .none) (.ref c') doc) }) rfl) fun l5 S5=>?_
  refine (dK _ st ((dt xF.1).trans l5) S5 (aw (.fn (oS name q params body scope)) ?_ h))
  refine (EX _ _ rfl (y9 _ _ _ (by rw [ok.gl])) cw (P0 c' oc BL t rfl (l5 _ _ cw) PC hn))
 ·clear UX WW K7;subst e
  refine HH (c':=.ref c') HN hg hc MJ wH hB fun doc tk=>?_
  refine ao ((S.toks tk).mT (o:={ cls:=.type "function",data:=.func (GV name q params body scope C.env.globals .none .none none ((C.mg "__name__").getD .none) (.ref c') doc) }) rfl) fun l5 S5=>?_
  refine (dK _ st l5 S5 (aw (.fn (oS name q params body scope)) ?_ h))
  exact (EX _ _ rfl (y9 _ _ _ (by rw [ok.gl])) cw (P0 c' oc BL t rfl (l5 _ _ hi) yL hn))
theorem WS.def_(ok:C.Ok dep)(d:uq C C.env.code)(hH:st.H C.tb=some (.fu q pos))(hq:qualnameIn C.env name name=q)
  (jF:(scope.names.all fun x=>x.2 != .free)=true) (hk:cg (C.env.kindOf name)=true) (h:R .next (st.put name (.fn (oS name q params body scope))))
  (UY:params.defaults=[]:=by rfl) (Bf:params.kw_defaults=[]:=by rfl) (WR:params.kwonlyargs=[]:=by rfl) (WZ:annTrees params none C.env=[]:=by rfl) :
  WS C (.FunctionDef name params body [] none [] scope none name pos) st R X:=fun I=>by
 rw [exec_def,hq,defaultsOf_eq,UY,Bf,WZ]
 refine WL.bind (WL.standAt (WL.bind (WL.holding (WL.bind (WL.pure (WL.bind (WL.holding (WL.pure (WL.holding (WL.bind (WL.pure ?_)))))))))))
 refine (HM (X:=X) (Q:=fun c bJ=>c=.fn (oS name q params body scope)∧bJ=st) (fl:=pos.line) ok d hH jF WR ⟨rfl,rfl⟩ I).mono (fun J v bJ _ R3=>eZ R3 fun c r e1 e2=>?_) fk
 clear hH R3;subst e1 e2
 exact WL.bind (WL.standAt (WL.bind ((mR (Q:=fun aj=>R .next aj) ok hk h J v r).mono (fun J2 _ cJ _ q2=>WL.pure (aw (.next) rfl q2)) fk)))
end
end
section
open Builtin Builtin.Str
theorem AQ{x y:Str}(h:y.length=0):x++y=x:=by
 obtain ⟨x⟩:=x
 obtain ⟨y⟩:=y
 have:y=#[]:=fQ h
 clear h;subst this
 show (⟨x++#[]⟩:Str)=⟨x⟩
 rfl
theorem AR{x y:Str}(h:x.length=0):x++y=y:=by
 obtain ⟨x⟩:=x
 obtain ⟨y⟩:=y
 have:x=#[]:=fQ h
 clear h;subst this
 show (⟨#[]++y⟩:Str)=⟨y⟩
 simp
section
variable{C:Cx} {dep:Nat} {KF I:IM} {st:ak} {s:Shared} {X:XP} {Q:CV→ak→Prop}
theorem AS{x y:Str}{t u:qC}(hz:(x++y).length≤bZ)(h:∀t' tk,R (.str (x++y) t') { s with toks:=tk }):(if x.length == 0 then Made.val (.str y u)else if y.length == 0 then Made.val (.str x t)else Made.str (x++y)).post R s:=by
 split
 ·rename_i h0
  rw [AR (by simpa using h0)]at h
  exact h u s.toks
 ·split
  ·rename_i h0
   rw [AQ (by simpa using h0)]at h
   exact h t s.toks
  ·exact ⟨hz,h _ _⟩
theorem W2.HO(hz:(x++y).length≤bZ)(h:Q (.str (x++y)) st):W2 C (mj .Add) (.str x) (.str y) st Q X:=fun I v u r1 r2 KF s S=>by
 refine cG r1 fun t G8=>?_;try clear r1;obtain rfl:=G8
 refine cG r2 fun t' G8=>?_;try clear r2;obtain rfl:=G8
 exact P.add_str (AS hz fun t' tk=>(pq (.str _) (S.toks _) (dA _ rfl) h))
theorem W2.Qy(hz:(x++y).length≤bZ)(h:Q (.str (x++y)) st):W2 C (pP .Add) (.str x) (.str y) st Q X:=fun I v u r1 r2 KF s S=>by
 refine cG r1 fun t G8=>?_;try clear r1;obtain rfl:=G8
 refine cG r2 fun t' G8=>?_;try clear r2;obtain rfl:=G8
 exact P.iadd_str (AS hz fun t' tk=>(pq (.str _) (S.toks _) (dA _ rfl) h))
theorem aW.F5(hx:x.length≤2 ^ 30)(h:Q (.int x.length) st):aW C (.builtin "len") [.str x] [] [] st Q X:=JI fun I a ra KF s S=>by
 refine cG ra fun t G8=>?_;try clear ra;obtain rfl:=G8
 exact P.len_str (mt ct.mp (T1 [.l .x (.n 1073741824)] (.L (.n 9223372036854775808) .x) tA hx)) (pq (.int x.length) (S.toks _) (dA _ rfl) h)
theorem SR.F6(e:h.get? a=some ⟨.type "function",.none,.func fd,#[]⟩):∃k,(k=Mq∨k=JN∨k=GB)∧pR M h (YF (.ref a)) k:=by
 refine (aw (.frame) (.inl rfl) ?_)
 unfold YF
 exact Ms (sd e) pR.now
theorem WE.Nd{x:Str}{px:Pos}{es:List Expr}{pos:Pos}{name q:Str}{params:Arguments}{body:List Stmt}{scope:PW}{pn:List Str}(ok:C.Ok (dep+1))
  (h:WE C (.Name x px) st (fun f bJ=>f=.fn (oS name q params body scope)∧rV C es bJ (fun as cJ=>as.length=pn.length∧∀C':Cx,C'.Ok dep→C.iY C'→HK C' scope.names→ag C' body ⟨fun y=>(pn.zip as).lookup y,cJ.H⟩ (fun f aj=>Q f.val ⟨cJ.lo,aj.H⟩) (fun x aj=>X x ⟨cJ.lo,aj.H⟩)) X) X)
  (hb:∀pm c doc (us:List Value),us.length=pn.length→wc (GV name q params body scope bM .none .none bw pm c doc) ⟨us,[]⟩=pure (pn.zip us))
  (Bf:scope.kind=.function) (PH:scope.isCoroutine=false) (Nb:scope.isGenerator=false)
  (r5:(pn.all fun x=>cg (scope.names.lookup x))=true) (hnd:pn.Nodup) (jF:(scope.names.all fun x=>x.2 != .free)=true) (JJ:((scope.names.filter fun x=>x.2 == .cell).map (·.1)).Nodup)
  (hs:es.all noStar=true:=by rfl):WE C (.Call (.Name x px) es [] pos) st Q X:=fun I KF s S=>by
 show aR _ _ (do sb pos (← gK (.Name x px) C.env) [] (j5 pos (eA es C.env)) (eU pos (cX [] C.env))) _ _ s
 refine aA (aM (h I KF s S) (fun f s1 R2=>dC R2 fun J bJ l S1 hZ=>eZ hZ fun c r e q=>?_) fun _ _ x=>x)
 subst e
 refine gP r fun a fd G7 R9=>?_;try clear r;clear R2;obtain rfl:=G7;obtain ⟨⟨pm,cd,doc,rfl⟩,Bg,c,oc,vs,t,Wa,Wb,hc3,hc4⟩:=R9
 refine nA (P:=fun h=>h.get? a=some ⟨.type "function",.none,.func (GV name _ params body scope bM .none .none bw pm cd doc),#[]⟩) (by rw [ir hs];rfl) (fun h e=>SR.F6 e)
  (aM (k6 (X:=X) (kws:=[]) (Q:=fun as ks cJ=>ks=[]∧as.length=pn.length∧∀C':Cx,C'.Ok dep→C.iY C'→HK C' scope.names→ag C' body ⟨fun y=>(pn.zip as).lookup y,cJ.H⟩ (fun f aj=>Q f.val ⟨cJ.lo,aj.H⟩) (fun x aj=>X x ⟨cJ.lo,aj.H⟩)) (f:=.ref a) (pos:=pos) ?_ hs rfl J KF s1 S1) (fun ar s2 R3=>dC R3 fun J2 cJ l2 S2 hZ=>UG hZ fun as ks BL r1 e r2 hk hl q=>⟨S2.de _ _ (l2 _ _ Bg),?_⟩) fun e s2 q=>?_)
 ·have conv:∀(es:List Expr) (st:ak) (P P':List CV→ak→Prop),(∀as st,P as st→P' as st)→rV C es st P X→rV C es st P' X:=by
   intro es
   induction es with
   | nil=>intro st P P' hp q;exact hp _ _ q
   | cons e es ih=>intro st P P' hp q;exact WE.mono q (fun b aj q=>ih _ _ _ (fun as st q=>hp _ _ q) q) fk
  exact conv es bJ _ _ (fun as cJ q=>⟨rfl,q⟩) q
 ·subst hk
  have:=r2.dQ
  clear r2;subst this
  rw [e,rh,bg]
  refine eO (dX (jy (X:=X) (cs:=as) (kn:=[]) (pn:=pn) (body:=body) (fd:=GV name _ params body scope bM .none .none bw pm cd doc) (P:=fun KF J f h H=>∃b,FR J b f∧Q b.val ⟨cJ.lo,H⟩) ok rfl rfl rfl rfl rfl PH Nb Bf r5 hnd jF JJ (fun _ _ _ _ _ _ _ q=>q)
   (fun C' j9 sm qI _ _ I KF s S=>?_) J2 ar.pos [] ar.pos r1 KF s2 S2 (.of_eq (hb pm cd doc ar.pos (by rw [← r1.length];exact hl))) (S2.de _ _ (l2 _ _ Bg)) (P0 c oc vs t Wa (S2.de _ _ (l2 _ _ Wb)) hc3 hc4)) fun r s' hr=>?_)
  ·have:=q C' j9 sm (fun y=>by unfold eB;rw [qI];rfl) I KF s S
   exact this
  ·cases r with
   | error e=>exact eV.trans (l.trans l2) hr
   | ok f =>
    cases f with
    | ret v =>
     refine dC hr fun J3 H' l3 S' R9=>?_;try clear hr;obtain ⟨f,hf,b,rW,q⟩:=R9
     refine (dK J3 ⟨cJ.lo,H'⟩ (l.trans (l2.trans l3)) S' ⟨b.val,?_,q⟩)
     subst hf
     cases b with
     | next=>cases rW;rfl
     | brk=>cases rW;rfl
     | cont=>cases rW;rfl
     | ret c=>(refine az rW fun u G8 r=>?_;try clear rW;obtain rfl:=G8);exact r
    | _=>exact hr
 ·exact eV.trans l q
end
end
section
open Builtin Builtin.Str
noncomputable def ur:Stmt:=(bodyOf (bK 37)).getD 1 (.Pass default)
noncomputable def nl:Str:=aB "\n"
noncomputable def ix(l c:Int):Str:=bt++aB "line "++aB (toString l)++aB ", column "++aB (toString c)
inductive iN(src:Str)(p:Nat):Str→Prop
 | UZ:src.length≤p→iN src p (aB "end of document")
 | first:p<src.length→(occurrences src nl 0 p (src.length+1)).length=0→iN src p (ix 1 ((p:Int)+1))
 | later (n k:Nat):p<src.length→(occurrences src nl 0 p (src.length+1)).length=n+1→lastOccurrence src nl 0 p=some k→k≤p→n≤2 ^ 20→iN src p (ix ((n:Int)+2) ((p:Int)-k))
theorem ex1(h:us.length=1):∃u0,us=[u0]:=by
 refine Gh (qe h) fun a t G7=>?_;obtain rfl:=G7
 have:=aP (qr h)
 clear h;subst this
 exact (dA a rfl)
theorem ex2(h:us.length=2):∃u0 u1,us=[u0,u1]:=by
 refine Gh (qe h) fun a t G7=>?_;obtain rfl:=G7
 refine cG (ex1 (qr h)) fun b G8=>?_;clear h;obtain rfl:=G8
 exact (Py a b rfl)
theorem dB{a:Int}{n:Nat}(h:a.natAbs≤n):(aB (toString a)).length≤n+2:=by
 have:=len_str_of_int a
 exact T3 [.l .x .y,.l .z (.a .x (.n 2))] (.l .z (.a .y (.n 2))) tA h (ct.mp this)
theorem mA{a:Int}(h:a.natAbs≤2 ^ 40):a.natAbs.log2<1920:=by
 by_cases h0:a.natAbs=0
 ·rw [h0];decide
 ·have h2:a.natAbs<2 ^ 1920:=bH h (Nat.pow_lt_pow_right (by decide) (by decide))
  exact (Nat.log2_lt h0).mpr h2
theorem C8{l c:Int}(h1:l.natAbs≤2 ^ 21)(h2:c.natAbs≤2 ^ 21):(ix l c).length≤2 ^ 23:=by
 have e1:=dB h1
 have e2:=dB h2
 unfold ix
 simp only [aI]
 have a1:(aB "line ").length=5:=by decide +kernel
 have a2:(aB ", column ").length=9:=by decide +kernel
 have a3:bt.length=0:=rfl
 exact T5 [.l .x (.a (.n 2097152) (.n 2)),.l .y (.a (.n 2097152) (.n 2)),.e .z (.n 5),.e .w (.n 9),.e .s (.n 0)] (.l (.a (.a (.a (.a .s .z) .x) .w) .y) (.n 8388608)) tA e1 e2 a1 a2 a3
section
variable{C:Cx} {dep:Nat} {KF I:IM} {st:ak} {s:Shared} {X:XP}
theorem K9{src t:Str}{p:Nat}{H:CH}(ok:C.Ok dep)(hk:HK C (ax ur))(hG:kQ C [("len",.builtin "len")])(hx:src.length≤2 ^ 20)(hp:p≤src.length)(hc:iN src p t)
  (h:∀bY,Q (.ret (.str t)) ⟨bY,H⟩):ag C (bodyOf ur) ⟨fun y=>([("src" : Str), "pos"].zip [.str src,.int p]).lookup y,H⟩ Q X:=by
 have fin:∀(bJ:ak) (l c:Int),l.natAbs≤2 ^ 21→c.natAbs≤2 ^ 21→bJ.lo "line" = some (.int l)→bJ.lo "column" = some (.int c)→bJ.H=H→(∀bY,Q (.ret (.str (ix l c))) ⟨bY,H⟩)→ag C ((bodyOf ur).drop 3) bJ Q X:=by
  rintro ⟨lo,H'⟩ l c hl hc l1 l2 e q
  clear h;subst e
  have z:=C8 hl hc
  have z':(ix l c).length≤bZ:=by rw [aa];(exact aJ (by assumption) (by decide))
  unfold ix at z'
  simp only [aI]at z'
  refine ag.cons (WS.ret (WE.AM ?_))
  refine WE.str (cB _ rfl (by simp only [aI];(exact cQ _ _)) (WE.fmt (WE.nm ok hk l1 (jh.int (mA (aJ (by assumption) (by decide))) (cB _ rfl (by simp only [aI];exact (T6 [.l (.a (.a (.a (.a .x .y) .z) .w) .s) .t] (.l (.a (.a .x .y) .z) .t) tA z')) (WE.str (cB _ rfl (by simp only [aI];exact (aJ (bf _ _) (by assumption))) (WE.fmt (WE.nm ok hk l2 (jh.int (mA (aJ (by assumption) (by decide))) (cB _ rfl (by simp only [aI];exact z') ⟨by simp only [aI];exact z',q _⟩)))))))))))
 refine ag.cons (WS.oK (WT.ez (WE.nm ok hk rfl (WE.call ok (WE.glob ok hG rfl (cB _ rfl bu.builtin (WE.nm ok hk rfl (aW.F5 (aJ (by assumption) (by decide)) (W2.Ys (iW.bool ⟨fun q=>?_,fun q=>ag.nil ?_⟩))))) (by rw [hk];rfl))))))
 ·have hle:src.length≤p:=by have:=of_decide_eq_true q;exact T2 [.l .x .y] (.l .x .y) tA (ct.mp this)
  refine ag.cons (WS.ret (WE.str ?_))
  cases hc with
  | UZ _=>exact h _
  | first h1 _=>(exact absurd (by assumption) (dp (by assumption)))
  | later _ _ h1 _ _ _ _=>(exact absurd (by assumption) (dp (by assumption)))
 ·have fM:p<src.length:=by have:=of_decide_eq_false q;exact T2 [.L .x .y] (.t .y .x) tA (mt ct.mpr this)
  refine ag.cons (WS.bE (WE.binop (WE.lH ok (WE.nm ok hk rfl (cB _ bu.builtin (eX.str PySem.F.slot_str_count PySem.F.type_str_count) ?_)))))
  refine WE.str (WE.int (WE.nm ok hk rfl (aW.H7 (i:=0) hp ?_)))
  refine WE.int (W2.kZ (WA.nm ok hk ?_))
  refine ag.cons (WS.oK (WT.ez (WE.nm ok hk bP (WE.int (W2.Yr (iW.bool ⟨fun q=>?_,fun q=>?_⟩))))))
  ·have q:=of_decide_eq_true q
   refine ag.cons (WS.bE (WE.binop (WE.nm ok hk (v:=.int p) ((ai (by decide)).trans rfl) (WE.int (W2.kZ (WA.nm ok hk (ag.nil ?_)))))))
   cases hc with
   | UZ h1=>(exact absurd (by assumption) (dp (by assumption)))
   | first h1 h2 =>
    refine fin _ 1 ((p:Int)+1) (by decide) (by exact T2 [.l .x (.n 1048576),.t .y .x] (.l (.a .y .o) (.n 2097152)) tA hx fM) ((ai (by decide)).trans (bP.trans ?_)) bP rfl h
    rw [q]
   | later n k h1 h2 h3 MC hn =>
    exfalso
    have:(occurrences src (aB "\n") 0 p (src.length+1)).length=n+1:=h2
    rw [this]at q
    exact T1 [.e (.a (.a .x .o) .o) .o] .f tA (GW q)
  ·have q:=of_decide_eq_false q
   cases hc with
   | UZ h1=>(exact absurd (by assumption) (dp (by assumption)))
   | first h1 h2 =>
    exfalso
    have:(occurrences src (aB "\n") 0 p (src.length+1)).length=0:=h2
    rw [this]at q
    exact q (by decide)
   | later n k h1 h2 h3 MC hn =>
    have yD:(occurrences src (aB "\n") 0 p (src.length+1)).length=n+1:=h2
    refine ag.cons (WS.bE (WE.binop (WE.nm ok hk (v:=.int p) ((ai (by decide)).trans rfl) (WE.lH ok (WE.nm ok hk (v:=.str src) ((ai (by decide)).trans rfl) (cB _ bu.builtin (eX.str PySem.F.slot_str_rindex PySem.F.type_str_rindex) ?_))))))
    refine WE.str (WE.int (WE.nm ok hk (v:=.int p) ((ai (by decide)).trans rfl) (aW.Em (i:=0) hp h3 ?_)))
    refine W2.NN (WA.nm ok hk (ag.nil ?_))
    refine fin _ ((n:Int)+2) ((p:Int)-k) (T1 [.l .x (.n 1048576)] (.l (.a .x (.n 2)) (.n 2097152)) tA hn) (by rw [← Pd MC];exact aJ (zS _ _) (aJ (aJ hp hx) (by decide))) ((ai (by decide)).trans (bP.trans ?_)) bP rfl h
    rw [yD]
    have:(((n+1:Nat):Int)+1)=(n:Int)+2:=by rfl
    rw [this]
noncomputable def mX(msg co:Str):Str:=bt++msg++aB " (at "++co++aB ")"
noncomputable def Ua:Arguments:=match ur with | .FunctionDef _ a ..=>a | _=>default
noncomputable def ke:Pos:=match ur with | .FunctionDef (pos:=s) ..=>s | _=>default
noncomputable def gC:Str:=aB "suffixed_err.<locals>.coord_repr"
theorem C9(ok:C.Ok (dep+1))(hk:HK C (ax (bK 37)))(hq:C.env.qual=aB "suffixed_err"++aB ".<locals>.")(hG:kQ C [("len",.builtin "len"),("TOMLDecodeError",.ref 150)])(x:AN C 150)(MC:bu C (.ref 150))
  (d:uq C C.env.code) (hH:H C.tb=some (.fu gC ke)) (hx:src.length≤2 ^ 20) (hm:msg.length≤2 ^ 22) (hp:p≤src.length) (hc:iN src p co) (yC:co.length≤2 ^ 23)
  (h:∀bY,Q ⟨bY,H⟩):yV C (bodyOf (bK 37)) ⟨fun y=>([("src" : Str), "pos", "msg"].zip [.str src,.int p,.str msg]).lookup y,H⟩ 150 (.tup [.str (mX msg co)]) Q X:=by
 have z:(mX msg co).length≤bZ:=by
  unfold mX
  simp only [aI]
  have a1:(aB " (at ").length=5:=by decide +kernel
  have a2:(aB ")").length=1:=by decide +kernel
  have a3:bt.length=0:=rfl
  rw [aa]
  exact T5 [.l .x (.n 4194304),.l .y (.n 8388608),.e .z (.n 5),.e .w .o,.e .s (.n 0)] (.l (.a (.a (.a (.a .s .x) .z) .y) .w) (.n 16777216)) tA hm yC a1 a2 a3
 unfold mX at z
 simp only [aI]at z
 refine yV.cons (WS.u4 ok (WE.str ⟨rfl,?_⟩))
 refine yV.cons (WS.def_ (q:=gC) ok d hH ?_ (by decide +kernel) (by rw [hk];rfl) ⟨rfl,?_⟩)
 ·unfold qualnameIn
  rw [hk,hq]
  rfl
 refine yV.ret (PE.call ok (WE.glob ok hG rfl (cB _ rfl MC ?_) (by rw [hk];rfl)))
 refine WE.AM ?_
 refine WE.fmt (WE.nm ok hk (v:=.str msg) ((ai (by decide)).trans rfl) (jh.str (by rw [aa];(exact aJ (by assumption) (by decide))) (cB _ rfl (by simp only [aI];exact (T6 [.l (.a (.a (.a (.a .x .y) .z) .w) .s) .t] (.l (.a .x .y) .t) tA z)) (WE.str (cB _ rfl (by simp only [aI];exact (T6 [.l (.a (.a (.a (.a .x .y) .z) .w) .s) .t] (.l (.a (.a .x .y) .z) .t) tA z)) (WE.fmt ?_))))))
 refine WE.Nd (pn:=["src", "pos"]) ok (WE.nm ok hk bP ⟨rfl,?_⟩) ?_ (by decide +kernel) (by decide +kernel) (by decide +kernel) (by decide +kernel) (by decide) (by decide +kernel) (by decide +kernel)
 ·refine WE.nm ok hk (v:=.str src) ((ai (by decide)).trans rfl) (WE.nm ok hk (v:=.int p) ((ai (by decide)).trans rfl) ⟨rfl,fun C' j9 sm oQ=>?_⟩)
  refine K9 j9 oQ ((hG.same sm).part (by decide +kernel)) hx hp hc fun bY=>?_
  refine jh.str (by rw [aa];(exact aJ (by assumption) (by decide))) (cB _ rfl (by simp only [aI];exact (cF (by assumption))) (WE.str (cB _ rfl (by simp only [aI];exact (T6 [.l (.a (.a (.a (.a .x .y) .z) .w) .s) .t] (.l (.a (.a (.a (.a .x .y) .z) .w) .s) .t) tA z)) ⟨by simp only [aI];exact z,?_⟩)))
  exact sF.cls x (by show H C.tb≠none;rw [hH];decide) (by show 1≤1000;decide) (h _)
 ·intro pm c doc us hl
  refine Gh (ex2 hl) fun u0 u1 G7=>?_;clear hl;obtain rfl:=G7
  kernel_rfl
end
end
section
structure ie where
 da:Addr
 ks:List Str
 num:Option Int
noncomputable def kn:Str:=aB "n"
noncomputable abbrev TN:=List Str→Option ie
noncomputable def ta(N:TN)(q:List Str):Addr:=match N q with | some nd=>nd.da | none=>0
noncomputable def pF(N:TN)(p:List Str)(nd:ie)(k:Str):CV:=if k=kn then .int (nd.num.getD 0)else .loc (ta N (p++[k]))
noncomputable def gD(N:TN)(p:List Str)(nd:ie):List (Str×CV):=nd.ks.map fun k=>(k,pF N p nd k)
structure TW(H:CH)(cl x d:Addr)(N:TN)(ow:FO):Prop where
 obj:H x=some (.inst cl d)
 attrs:∃r,N []=some r∧H d=some (.dict [("dict",.loc r.da)])
 dict:∀p nd,N p=some nd→H nd.da=some (.dict (gD N p nd))
 yR:∀p nd k,N p=some nd→k≠kn→(k∈nd.ks↔(N (p++[k])).isSome=true)
 num:∀p nd,N p=some nd→(kn∈nd.ks↔nd.num.isSome=true)
 par:∀p k,(N (p++[k])).isSome=true→(N p).isSome=true
 pD:∀p nd,N p=some nd→nd.ks.Nodup∧∀k∈nd.ks,k∈kn::bC
 HA:ow x=some ([],20)∧ow d=some ([],21)
 pv:∀p nd,N p=some nd→ow nd.da=some (p,22)
 C5:∀a,(ow a).isSome=true→(H a).isSome=true
variable{H:CH} {cl x d:Addr} {N:TN} {ow:FO}
theorem uu:kn∉bC:=by decide +kernel
noncomputable def mz(N:TN)(p:List Str)(nd:ie):TN:=fun q=>if q=p then some nd else N q
@[simp] theorem mB{nd:ie}{p:List Str}:mz N p nd p=some nd:=by simp [mz]
theorem ji(h:q≠p):mz N p nd q=N q:=by simp [mz,h]
theorem Dq(h:N p=some ic)(e:nd.da=ic.da):ta (mz N p nd) q=ta N q:=by
 delta ta mz
 by_cases hq:q=p
 ·obtain rfl:p=q:=hq.symm;simp [h,e]
 ·simp [hq]
theorem TW.nodup(T:TW H cl x d N ow)(h:N p=some nd):((gD N p nd).map (·.1)).Nodup:=by
 have:(gD N p nd).map (·.1)=nd.ks:=by unfold gD;rw [cm];simp [qq]
 rw [this];exact (T.pD p nd h).1
theorem yW(p:List Str)(nd:ie)(k:Str):(gD N p nd).lookup k=if k∈nd.ks then some (pF N p nd k)else none:=by
 unfold gD
 generalize pF N p nd=f
 induction nd.ks with
 | nil=>rfl
 | cons j ks ih =>
  (simp only [aK];simp only [bQ])
  by_cases q:k=j
  ·obtain rfl:j=k:=q.symm;simp
  ·have q':(k == j)=false:=by simpa using q
   rw [q',ih];simp [q]
theorem TW.K5(T:TW H cl x d N ow)(h:N p=some nd):(gD N p nd).length≤4:=by
 refine ao (T.pD p nd h) fun a b=>?_
 have:=c9 a b
 have e:(gD N p nd).length=nd.ks.length:=by simp [gD]
 rw [e];exact this
theorem TW.nj(T:TW H cl x d N ow)(h:N p=some nd)(hk:k≠kn):(gD N p nd).lookup k=(N (p++[k])).map fun m=>.loc m.da:=by
 rw [yW]
 have:=T.yR p nd k h hk
 cases hq:N (p++[k])with
 | none=>rw [hq]at this;rw [if_neg (by rw [this];simp)];rfl
 | some m=>rw [hq]at this;rw [if_pos (this.mpr rfl)];simp [pF,hk,ta,hq]
noncomputable def nk(N:TN)(p:List Str)(nd:ie)(k:Str)(e:Addr):TN:=mz (mz N p { nd with ks:=nd.ks++[k] }) (p++[k]) ⟨e,[],none⟩
theorem TW.add(T:TW H cl x d N ow)(hN:N p=some nd)(hk:k∉nd.ks)(mn:k∈bC)
  (z:H e=none) (h1:H' e=some (.dict [])) (h2:H' nd.da=some (.dict (gD N p nd++[(k,.loc e)]))) (h3:∀b,b≠e→b≠nd.da→H' b=H b) :
  TW H' cl x d (nk N p nd k e) (fV ow e (p++[k],22))∧FK H H' ow (fV ow e (p++[k],22)):=by
 have HQ:k≠kn:=fun q=>uu (q▸mn)
 have iq:N (p++[k])=none:=by
  cases q:N (p++[k])with
  | none=>rfl
  | some m=>exact absurd ((T.yR p nd k hN HQ).mpr (by rw [q];rfl)) hk
 have HB:∀b v,ow b=some v→H b≠none:=fun b v hb=>by
  have:=T.C5 b (by rw [hb];rfl)
  intro q;rw [q]at this;exact aD this
 have C6:∀b v,ow b=some v→b≠e:=fun b v hb q=>HB b v hb (q▸z)
 have tx:∀b v,ow b=some v→fV ow e (p++[k],22) b=some v:=fun b v hb=>by simp [fV,C6 b v hb,hb]
 have Dn:=T.pv p nd hN
 have keep:∀b v,ow b=some v→v≠(p,22)→H' b=H b:=fun b v hb hv=>h3 b (C6 b v hb) fun q=>by subst q;rw [Dn]at hb;exact hv (aE hb).symm
 have NV:p++[k]≠p:=oR p k
 have ni:nk N p nd k e (p++[k])=some ⟨e,[],none⟩:=by simp [nk]
 have Ex:nk N p nd k e p=some { nd with ks:=nd.ks++[k] }:=by unfold nk;rw [ji NV.symm];simp
 have Ey:∀q,q≠p→q≠p++[k]→nk N p nd k e q=N q:=fun q a b=>by unfold nk;rw [ji b,ji a]
 have cZ:∀q,(nk N p nd k e q).isSome=((N q).isSome||decide (q=p++[k])):=by
  intro q
  by_cases a:q=p++[k]
  ·subst a;rw [ni];simp
  ·by_cases b:q=p
   ·obtain rfl:p=q:=b.symm;rw [Ex,hN];rfl
   ·rw [Ey q b a];simp [a]
 have Ub:∀q,q≠p++[k]→ta (nk N p nd k e) q=ta N q:=by
  intro q a
  unfold ta
  by_cases b:q=p
  ·obtain rfl:p=q:=b.symm;rw [Ex,hN]
  ·rw [Ey q b a]
 have Uc:ta (nk N p nd k e) (p++[k])=e:=by unfold ta;rw [ni]
 have gA:∀q m',nk N p nd k e q=some m'→(q=p++[k]∧m'=⟨e,[],none⟩)∨(p=q∧m'={ nd with ks:=nd.ks++[k] })∨(q≠p∧q≠p++[k]∧N q=some m'):=by
  intro q m' hq
  by_cases a:q=p++[k]
  ·subst a;rw [ni]at hq;exact .inl ⟨rfl,(aE hq).symm⟩
  ·by_cases b:q=p
   ·obtain rfl:p=q:=b.symm;rw [Ex]at hq;exact .inr (.inl ⟨rfl,(aE hq).symm⟩)
   ·rw [Ey q b a]at hq;exact .inr (.inr (d9 b a hq))
 refine ao T.HA fun o1 o2=>?_
 have Wc:N (p++[k]++[k])=none∧∀j,N (p++[k]++[j])=none:=by
  have:∀j,N (p++[k]++[j])=none:=fun j=>by
   cases q:N (p++[k]++[j])with
   | none=>rfl
   | some m =>
    have:=T.par (p++[k]) j (by rw [q];rfl)
    rw [iq]at this;exact aD this
  exact ⟨this k,this⟩
 have val:∀q m j,N q=some m→q++[j]≠p++[k]→pF (nk N p nd k e) q m j=pF N q m j:=fun q m j _ cx=>by
  unfold pF
  rw [Ub _ cx]
 refine (lb ⟨?_,?_,fun q m' hq=>?_,fun q m' j hq hj=>?_,fun q m' hq=>?_,fun q j hq=>?_,fun q m' hq=>?_,⟨tx _ _ o1,tx _ _ o2⟩,fun q m' hq=>?_,fun b hb=>?_⟩ ⟨fun a h hH=>?_,fun a h=>?_,fun a h h'=>?_⟩)
 ·rw [keep x _ o1 (by simp)];exact T.obj
 ·refine az T.attrs fun r hr hd=>?_
  by_cases hp:p=[]
  ·clear iq tx NV Wc;subst hp
   rw [hr]at hN;obtain rfl:=aE hN
   exact (aw _ Ex (by rw [keep d _ o2 (by decide)];exact hd))
  ·refine (aw r ?_ (by rw [keep d _ o2 (by simp)];exact hd))
   rw [Ey [] (aN hp) (by simp)];exact hr
 ·rcases gA q m' hq with ⟨rfl,rfl⟩ | ⟨rfl,rfl⟩ | ⟨a,b,mq⟩
  ·exact h1
  ·show H' nd.da=_
   rw [h2]
   congr 2
   unfold gD
   rw [dz]
   congr 1
   ·refine cT fun j hj=>?_
    have:pF (nk N p nd k e) p { nd with ks:=nd.ks++[k] } j=pF N p nd j:=by
     unfold pF
     split
     ·rfl
     ·rw [Ub _ (fun h=>hk ((fL h).2▸hj))]
    rw [this]
   ·dsimp only [pF,HQ,Uc,iF,iT,iG,iU,iH,iV,nT,nF,aT,aF,oT,oF];simp [pF,HQ,Uc]
  ·rw [keep m'.da _ (T.pv q m' mq) (by simp [a])]
   rw [T.dict q m' mq]
   congr 2
   unfold gD
   refine cT fun j hj=>?_
   rw [val q m' j mq fun h=>a (fL h).1]
 ·rw [cZ]
  rcases gA q m' hq with ⟨rfl,rfl⟩ | ⟨rfl,rfl⟩ | ⟨a,b,mq⟩
  ·rw [Wc.2 j]
   simp
  ·rw [aZ,T.yR p nd j hN hj]
   by_cases Qz:j=k
   ·obtain rfl:k=j:=Qz.symm;simp
   ·have:p++[j]≠p++[k]:=fun h=>Qz (fL h).2
    simp [Qz,this]
  ·rw [T.yR q m' j mq hj]
   have:q++[j]≠p++[k]:=fun h=>a (fL h).1
   simp [this]
 ·rcases gA q m' hq with ⟨rfl,rfl⟩ | ⟨rfl,rfl⟩ | ⟨a,b,mq⟩
  ·simp
  ·show kn∈nd.ks++[k]↔_
   rw [aZ,T.num p nd hN]
   simp [aN HQ]
  ·exact T.num q m' mq
 ·rw [cZ,dT,decide_eq_true_eq]at hq ⊢
  rcases hq with hq | hq
  ·exact .inl (T.par q j hq)
  ·rw [(fL hq).1,hN];exact .inl rfl
 ·rcases gA q m' hq with ⟨rfl,rfl⟩ | ⟨rfl,rfl⟩ | ⟨a,b,mq⟩
  ·exact ⟨eY,fun j hj=>by cases hj⟩
  ·refine ao (T.pD p nd hN) fun g1 g2=>?_
   refine ⟨?_,fun j hj=>?_⟩
   ·show (nd.ks++[k]).Nodup
    rw [cy]
    exact (d9 g1 (by simp) (fun a ha b hb=>by simp at hb;clear mn h2 HQ iq tx NV ni Ex Ey cZ Ub Uc gA Wc val hq;subst hb;exact fun e=>hk (e▸ha)))
   ·rcases aZ.mp hj with hj | hj
    ·exact g2 j hj
    ·rw [bG.mp hj];exact aG _ mn
  ·exact T.pD q m' mq
 ·rcases gA q m' hq with ⟨rfl,rfl⟩ | ⟨rfl,rfl⟩ | ⟨a,b,mq⟩
  ·simp [fV]
  ·exact tx _ _ Dn
  ·exact tx _ _ (T.pv q m' mq)
 ·by_cases c1:b=e
  ·obtain rfl:e=b:=c1.symm;rw [h1];rfl
  by_cases c5:b=nd.da
  ·clear hb c1;subst c5;rw [h2];rfl
  rw [h3 b c1 c5]
  exact T.C5 b (by simpa [fV,c1]using hb)
 ·have c:a≠e:=by clear h1 h2 h3 C6 tx ni Ex Ey cZ Ub Uc gA val;rintro rfl;exact hH z
  exact ⟨h3 a c (fun q=>by clear hH c;subst q;rw [Dn]at h;contradiction),by simp [fV,c,h]⟩
 ·refine cG (bL.mp h) fun v hv=>?_
  simp only [tx a v hv,hv]
 ·by_cases c1:a=e
  ·obtain rfl:e=a:=c1.symm;exact z
  exact absurd (by simpa [fV,c1]using h) h'
theorem TW.Nf(T:TW H cl x d N ow)(hN:N p=some nd)(hn:nd.num=none)
  (h2:H' nd.da=some (.dict (gD N p nd++[(kn,.int i)]))) (h3:∀b,b≠nd.da→H' b=H b) :
  TW H' cl x d (mz N p { nd with ks:=nd.ks++[kn],num:=some i }) ow∧FK H H' ow ow:=by
 have Dn:=T.pv p nd hN
 have hk:kn∉nd.ks:=fun h=>by have:=(T.num p nd hN).mp h;rw [hn]at this;exact aD this
 have keep:∀b v,ow b=some v→v≠(p,22)→H' b=H b:=fun b v hb hv=>h3 b fun q=>by subst q;rw [Dn]at hb;exact hv (aE hb).symm
 generalize hnd:({ nd with ks:=nd.ks++[kn],num:=some i }:ie)=ic
 have e1:ic.da=nd.da:=by subst hnd;rfl
 have cZ:∀q,(mz N p ic q).isSome=(N q).isSome:=by
  intro q
  by_cases uk:q=p
  ·obtain rfl:p=q:=uk.symm;rw [mB,hN];rfl
  ·rw [ji uk]
 have old:∀q m',mz N p ic q=some m'→(p=q∧m'=ic)∨(q≠p∧N q=some m'):=by
  intro q m' hq
  by_cases uk:q=p
  ·obtain rfl:p=q:=uk.symm;rw [mB]at hq;obtain rfl:=aE hq;exact .inl ⟨rfl,rfl⟩
  ·rw [ji uk]at hq;exact .inr ⟨uk,hq⟩
 refine ao T.HA fun o1 o2=>?_
 refine ⟨⟨?_,?_,fun q m' hq=>?_,fun q m' j hq hj=>?_,fun q m' hq=>?_,fun q j hq=>?_,fun q m' hq=>?_,T.HA,fun q m' hq=>?_,fun b hb=>?_⟩,FK.flag Dn h3⟩
 ·rw [keep x _ o1 (by simp)];exact T.obj
 ·refine az T.attrs fun r hr hd=>?_
  by_cases hp:p=[]
  ·clear cZ old;subst hp
   rw [hr]at hN;obtain rfl:=aE hN
   exact (aw ic mB (by rw [keep d _ o2 (by decide),e1];exact hd))
  ·exact (aw r (by rw [ji (aN hp)];exact hr) (by rw [keep d _ o2 (by simp)];exact hd))
 ·refine fY (old q m' hq) (fun R7=>?R6) (fun R7=>?R5);(case' R5=>obtain ⟨a,mq⟩:=R7);(case' R6=>obtain ⟨rfl,rfl⟩:=R7)
  ·rw [e1,h2]
   congr 2
   clear e1 cZ old hq;subst hnd
   unfold gD
   rw [dz]
   congr 1
   refine cT fun j hj=>?_
   have Qz:j≠kn:=fun e=>hk (e▸hj)
   simp [pF,Qz,Dq (nd:={ nd with ks:=nd.ks++[kn],num:=some i }) hN rfl]
  ·rw [keep m'.da _ (T.pv q m' mq) (by simp [a]),T.dict q m' mq]
   congr 2
   unfold gD
   refine cT fun j hj=>?_
   unfold pF
   rw [Dq hN e1]
 ·rw [cZ]
  rcases old q m' hq with ⟨rfl,rfl⟩ | ⟨a,mq⟩
  ·clear e1 cZ old hq;subst hnd
   show j∈nd.ks++[kn]↔_
   rw [aZ,T.yR p nd j hN hj]
   simp [hj]
  ·exact T.yR q m' j mq hj
 ·rcases old q m' hq with ⟨rfl,rfl⟩ | ⟨a,mq⟩
  ·clear e1 cZ old hq;subst hnd;simp
  ·exact T.num q m' mq
 ·rw [cZ]at hq ⊢;exact T.par q j hq
 ·rcases old q m' hq with ⟨rfl,rfl⟩ | ⟨a,mq⟩
  ·refine ao (T.pD p nd hN) fun g1 g2=>?_
   clear e1 cZ old hq;subst hnd
   refine ⟨?_,fun j hj=>?_⟩
   ·show (nd.ks++[kn]).Nodup
    rw [cy]
    exact (d9 g1 (by decide) (fun a ha b hb=>by simp at hb;subst hb;exact fun e=>hk (e▸ha)))
   ·rcases aZ.mp hj with hj | hj
    ·exact g2 j hj
    ·rw [bG.mp hj];exact aH
  ·exact T.pD q m' mq
 ·rcases old q m' hq with ⟨rfl,rfl⟩ | ⟨a,mq⟩
  ·rw [e1];exact Dn
  ·exact T.pv q m' mq
 ·by_cases c:b=nd.da
  ·clear hb;subst c;rw [h2];rfl
  ·rw [h3 b c];exact T.C5 b hb
theorem TW.keep(T:TW H cl x d N ow)(K:FK H H' oo Qr)(ap:∀a,ow a≠none→oo a=none):TW H' cl x d N ow∧∀a,ow a≠none→Qr a=none:=by
 have k:∀a v,ow a=some v→H' a=H a∧Qr a=none:=fun a v h=>K.same a (ap a (by rw [h];simp)) (fun q=>by
  have:=T.C5 a (by rw [h];rfl);rw [q]at this;exact aD this)
 refine ao T.HA fun o1 o2=>?_
 refine ⟨⟨?_,?_,fun q m hq=>?_,T.yR,T.num,T.par,T.pD,T.HA,T.pv,fun b hb=>?_⟩,fun a h=>?_⟩
 ·rw [(k x _ o1).1];exact T.obj
 ·(refine az T.attrs fun rt BN hd=>?_);exact (aw rt BN (by rw [(k d _ o2).1];exact hd))
 ·rw [(k _ _ (T.pv q m hq)).1];exact T.dict q m hq
 ·refine cG (aY.mp hb) fun v hv=>?_
  rw [(k b v hv).1];exact T.C5 b hb
 ·refine cG (bL.mp h) fun v hv=>?_
  exact (k a v hv).2
theorem TW.new(MF:x≠d∧x≠r∧d≠r)(h1:H' x=some (.inst cl d))(h2:H' d=some (.dict [("dict",.loc r)]))(h3:H' r=some (.dict [])):
  TW H' cl x d (fun(q:List Str)=>if q=[]then some ⟨r,[],none⟩else none) (fV (fV (fV (fun _=>none) x ([],20)) d ([],21)) r ([],22)):=by
 refine dO MF fun d1 d2 d3=>?_
 have root:∀(q:List Str) m,(if q=[]then some (⟨r,[],none⟩:ie)else none)=some m→q=[]∧m=⟨r,[],none⟩:=by
  intro q m h
  split at h
  ·rename_i e;exact ⟨e,(aE h).symm⟩
  ·contradiction
 refine ⟨h1,(aw _ rfl h2),fun q m hq=>?_,fun q m j hq _=>?_,fun q m hq=>?_,fun q j hq=>?_,fun q m hq=>?_,?_,fun q m hq=>?_,fun b hb=>?_⟩
 ·(refine ao (root q m hq) fun G9 G8=>?_;obtain rfl:=G9;clear hq;obtain rfl:=G8);exact h3
 ·(refine ao (root q m hq) fun G9 G8=>?_;obtain rfl:=G9;clear hq;obtain rfl:=G8);(dsimp [iF,iT,iG,iU,iH,iV,nT,nF,aT,aF,oT,oF];simp)
 ·(refine ao (root q m hq) fun G9 G8=>?_;obtain rfl:=G9;clear hq;obtain rfl:=G8);simp
 ·simp at hq
 ·(refine ao (root q m hq) fun G9 G8=>?_;obtain rfl:=G9;clear hq;obtain rfl:=G8);exact ⟨eY,fun j hj=>by cases hj⟩
 ·simp [fV,d1,d2,d3,aN d1,aN d2,aN d3]
 ·(refine ao (root q m hq) fun G9 G8=>?_;obtain rfl:=G9;clear hq;obtain rfl:=G8);simp [fV]
 ·by_cases c1:b=x
  ·obtain rfl:x=b:=c1.symm;rw [h1];rfl
  by_cases c2:b=d
  ·obtain rfl:d=b:=c2.symm;rw [h2];rfl
  by_cases c3:b=r
  ·obtain rfl:r=b:=c3.symm;rw [h3];rfl
  simp [fV,c1,c2,c3]at hb
end
section
structure F7(C:Cx)(cl:Addr):Prop where
 ok:sy C.K cl
 dict:gn C.K (.ref cl) "dict" = some none
 ML:Io C.K cl "dict" = some none
noncomputable def nM(N:TN)(q:List Str):Option Int:=(N q).bind (·.num)
theorem AU:lW (.type "list")=pure (.type "type"):=by kernel_rfl
theorem AV:lW (.type "dict")=pure (.type "type"):=by kernel_rfl
section
variable{C:Cx} {dep:Nat} {KF I:IM} {st:ak} {s:Shared} {X:XP} {H:CH} {cl x d:Addr} {N:TN} {ow:FO}
theorem TW.oU{Q:CV→ak→Prop}{lo:Str→Option CV}(T:TW H cl x d N ow)(ok:C.Ok dep)(tc:F7 C cl)(hr:N []=some r)(h:Q (.loc r.da) ⟨lo,H⟩):g9 C (.loc x) "dict" ⟨lo,H⟩ Q X:=by
 refine az T.attrs fun r' vm hd=>?_
 rw [hr]at vm;obtain rfl:=aE vm
 exact g9.inst ok tc.ok T.obj hd rfl tc.dict rfl (fun u h=>by contradiction) h
theorem aW.AW(hH:st.H a=some (.dict es))(h:Q (.bool false) st):aW C (.builtin "isinstance") [.loc a,.raw (.type "list")] [] [] st Q X:=Jm fun I b c ra rb KF s S=>by
 subst ra rb
 refine dO (S.mu _ _ hH) fun _ _ R9=>?_;obtain ⟨o,ho,n,ds,rfl,_⟩:=R9
 exact V5 (isinstance_false_dict (by decide) AU (by rw [ba];kernel_rfl)) (lb (aw _ ho rfl) ⟨I,st,.refl I,S.toks _,.bool false,rfl,h⟩)
theorem aW.AX(hH:st.H a=some (.dict es))(h:Q (.bool true) st):aW C (.builtin "isinstance") [.loc a,.raw (.type "dict")] [] [] st Q X:=Jm fun I b c ra rb KF s S=>by
 subst ra rb
 refine dO (S.mu _ _ hH) fun _ _ R9=>?_;obtain ⟨o,ho,n,ds,rfl,_⟩:=R9
 exact V5 (isinstance_true (Tx := "dict") AV (by rw [ba];kernel_rfl)) (lb (aw _ ho rfl) ⟨I,st,.refl I,S.toks _,.bool true,rfl,h⟩)
structure gk(N N':TN)(p ks:List Str):Prop where
 cZ:∀q,(N' q).isSome=((N q).isSome||((p.isPrefixOf q)&&q.isPrefixOf (p++ks)))
 num:∀q,nM N' q=nM N q
theorem gk.refl(h:(N p).isSome=true):gk N N p []:=by
 refine ⟨fun q=>?_,fun _=>rfl⟩
 rw [f9]
 cases h1:(p.isPrefixOf q&&q.isPrefixOf p)with
 | false=>simp
 | true =>
  simp only [ae]at h1
  have:q=p:=by
   refine cG (bB.mp h1.1) fun t ht=>?_
   refine cG (bB.mp h1.2) fun u hu=>?_
   have:=congrArg bo ht
   have h3:=congrArg bo hu
   simp at this h3
   have:t=[]:=aP (T4 [.e (.a .x .y) .z,.e (.a .z .w) .x] (.e .y (.n 0)) tA this h3)
   subst this
   simpa using ht.symm
  clear h1;subst this
  simp [h]
theorem HR{p q ks:List Str}{k:Str}:((p.isPrefixOf q)&&q.isPrefixOf (p++(k::ks)))=(decide (q=p)||((p++[k]).isPrefixOf q&&q.isPrefixOf (p++[k]++ks))):=by
 rw [LZ]
 simp only [ae,dT,decide_eq_true_eq,bB]
 constructor
 ·intro R4
  refine ao R4 fun G9 h=>?_;try clear R4;(refine cG G9 fun t G8=>?_;try clear G9;obtain rfl:=G8)
  rw [vw]at h
  cases t with
  | nil=>left;simp
  | cons j t =>
   right
   rw [List.cons_prefix_cons]at h
   revert h;intro R8;refine ao R8 fun G9 h=>?_;try clear R8;obtain rfl:=G9
   refine ⟨(dA t (by simp)),?_⟩
   rw [bU,vw]
   simpa using h
 ·rintro (rfl | ⟨⟨t,rfl⟩,h⟩)
  ·exact ⟨uG _,GX _ _⟩
  ·refine ⟨(dA (k::t) (by simp)),?_⟩
   simpa using h
theorem gk.step{N1 N':TN}{p ks:List Str}{k:Str}(hp:(N p).isSome=true)(h1:∀q,(N1 q).isSome=((N q).isSome||decide (q=p++[k])))(h2:∀q,nM N1 q=nM N q)(h:gk N1 N' (p++[k]) ks):gk N N' p (k::ks):=by
 refine ⟨fun q=>?_,fun q=>(h.num q).trans (h2 q)⟩
 rw [h.cZ,h1,HR]
 have e1:decide (q=p++[k])=true→((p++[k]).isPrefixOf q&&q.isPrefixOf (p++[k]++ks))=true:=by
  intro e
  have:=of_decide_eq_true e
  clear e;subst this
  simp only [ae,bB]
  exact ⟨uG _,GX _ _⟩
 have e2:decide (q=p)=true→(N q).isSome=true:=by
  intro e
  rw [of_decide_eq_true e]
  exact hp
 cases h3:decide (q=p++[k])with
 | true=>rw [e1 h3];simp
 | false =>
  cases h4:decide (q=p)with
  | true=>rw [e2 h4];rfl
  | false=>simp
theorem CA(ok:C.Ok dep)(hk:HK C (ax (ml 24 1)))(hG:kQ C [("isinstance",.builtin "isinstance"),("list",.type "list"),("dict",.type "dict")])
  (e:∃it o p,(bodyOf (ml 24 1)).getD 1 (.Pass default)=.For t it body o p) :
  ∀(ks:List Str) (p:List Str) (nd:ie) (N:TN) (ow:FO) (H:CH) (lo:Str→Option CV),TW H cl x d N ow→(∀k∈ks,k∈bC)→N p=some nd→lo "cont" = some (.loc nd.da)→lo "access_lists" = some (.bool true) →
   (∀H' N' lN ic bY,TW H' cl x d N' lN→FK H H' ow lN→N' (p++ks)=some ic→bY "cont" = some (.loc ic.da)→gk N N' p ks→Q .next ⟨bY,H'⟩) →
   ll C t body [] (ks.map .str) ⟨lo,H⟩ Q X:=by
 revert e;intro R8;refine DV R8 fun it o pp e=>?_;try clear R8
 cases e
 intro ks
 induction ks with
 | nil=>intro p nd N ow H lo T _ hN h1 h2 q;exact ag.nil (q H N ow nd lo T (.refl _ _) (by simpa using hN) h1 (.refl (by rw [hN];rfl)))
 | cons k ks ih =>
  intro p nd N ow H lo T mW hN h1 h2 q
  have mn:=mW k aH
  have Ng:k≠kn:=fun q=>uu (q▸mn)
  have jg:=T.nj (k:=k) hN Ng
  refine WA.nm ok hk (ag.cons (WS.mono (Q:=fun f aj=>f=.next∧aj.lo=((ak.mk lo H).put "k" (.str k)).lo∧∃N1 pv K6 m,TW aj.H cl x d N1 pv∧FK H aj.H ow pv∧N1 p=some K6∧K6.da=nd.da∧N1 (p++[k])=some m∧(∀q,(N1 q).isSome=((N q).isSome||decide (q=p++[k])))∧∀q,nM N1 q=nM N q) ?_ ?_ fk))
  ·refine WS.oK (WT.ez (WE.nm ok hk rfl (WE.nm ok hk h1 (W2.oN (T.dict p nd hN) (T.nodup hN) (iW.bool ⟨fun hc=>?_,fun hc=>?_⟩)))))
   ·have hn:N (p++[k])=none:=by
     cases q:N (p++[k])with
     | none=>rfl
     | some m=>rw [jg,q]at hc;exact aD hc
    have hkk:k∉nd.ks:=fun h=>by have:=(T.yR p nd k hN Ng).mp h;rw [hn]at this;exact aD this
    have NY:(gD N p nd).lookup k=none:=by rw [jg,hn];rfl
    refine ag.cons (WS.bE (WE.xP fun e z=>?_))
    have Dn:H nd.da≠none:=by rw [T.dict p nd hN];simp
    have c1:nd.da≠e:=fun q=>Dn (q▸z)
    refine WA.Ju (WE.nm ok hk h1 (WE.nm ok hk rfl (DW _ _ _ rfl rfl ?_ (T.nodup hN) (by have:=T.K5 hN;(exact aJ (by assumption) (by decide))) ?_)))
    ·show aV H e (.dict []) nd.da=_
     rw [j8 c1];exact T.dict p nd hN
    refine ao (T.add (H':=aV (aV H e (.dict [])) nd.da (.dict (fF (gD N p nd) k (.loc e)))) (k:=k) hN hkk mn z (by rw [j8 (aN c1)];simp) (by rw [uo NY];simp) (fun b b1 b2=>by rw [j8 b2,j8 b1])) fun T' K'=>?_
    refine ag.nil (d9 rfl rfl (N6 _ _ ({ nd with ks:=nd.ks++[k] }) ⟨e,[],none⟩ T' K' ?_ rfl ?_ (fun q=>?_) (fun q=>?_)))
    ·unfold nk;rw [ji (oR p k).symm];simp
    ·simp [nk]
    ·delta nk mz
     by_cases a:q=p++[k]
     ·simp [a]
     ·by_cases b:q=p
      ·subst b;simp [hN]
      ·simp [a,b]
    ·unfold nk mz nM
     by_cases a:q=p++[k]
     ·subst a;simp [hn]
     ·by_cases b:q=p
      ·subst b;simp [hN]
      ·simp [a,b]
   ·obtain ⟨m,hm⟩:∃m,N (p++[k])=some m:=by
     cases q:N (p++[k])with
     | some m=>exact (dA m rfl)
     | none=>rw [jg,q]at hc;exact aD hc
    refine ag.nil (d9 rfl rfl (N6 N ow nd m T (.refl _ _) hN rfl hm (fun q=>?_) (fun _=>rfl)))
    by_cases a:q=p++[k]
    ·subst a;simp [hm]
    ·simp [a]
  ·rintro f ⟨BE,H1⟩ R4
   refine ao R4 fun G9 R9=>?_;try clear R4;obtain rfl:=G9;obtain ⟨el,N1,pv,K6,m,T1,K1,g1,g2,g3,g4,g5⟩:=R9
   dsimp only at el
   subst el
   have Bi:=T1.nj (k:=k) g1 Ng
   rw [g3]at Bi
   have Qt:lo "cont" = some (.loc K6.da):=by rw [g2];exact h1
   refine ag.cons (WS.bE (WE.sub (WE.nm ok hk Qt (WE.nm ok hk rfl (W2.m5 (T1.dict p K6 g1) (T1.nodup g1) Bi (WA.nm ok hk ?_))))))
   refine ag.cons (WS.oK (WT.rm ?_))
   refine WT.value rfl (WE.nm ok hk (v:=.bool true) h2 (iW.bool ?_))
   refine WT.value rfl (WE.call ok (WE.glob ok hG rfl (cB _ rfl bu.builtin (WE.nm ok hk bP (WE.glob ok hG rfl (aW.AW (T1.dict _ m g3) (iW.bool ?_)) (by rw [hk];rfl)))) (by rw [hk];rfl)))
   refine ⟨fun q=>(aD q),fun _=>ag.nil ?_⟩
   refine ag.cons (WS.oK (WT.not (WT.value rfl (WE.call ok (WE.glob ok hG rfl (cB _ rfl bu.builtin (WE.nm ok hk bP (WE.glob ok hG rfl (aW.AX (T1.dict _ m g3) (iW.bool ?_)) (by rw [hk];rfl)))) (by rw [hk];rfl))))))
   refine ⟨fun q=>(aD q),fun _=>ag.nil (ag.nil ?_)⟩
   refine ih (p++[k]) m N1 pv H1 _ T1 (fun j hj=>mW j (aG _ hj)) g3 rfl h2 fun H' N' lN ic bY T' K' b1 b2 b3=>?_
   rw [bU]at b1
   exact q H' N' lN ic bY T' (K1.trans K') b1 b2 (b3.step (by rw [hN];rfl) g4 g5)
theorem Nh{Q:CF→ak→Prop}(ok:C.Ok dep)(tc:F7 C cl)(hk:HK C (ax (ml 24 1)))(hG:kQ C [("isinstance",.builtin "isinstance"),("list",.type "list"),("dict",.type "dict")])(T:TW H cl x d N ow)(mW:∀k∈key,k∈bC)
  (h:∀bY H' N' lN ic,TW H' cl x d N' lN→FK H H' ow lN→N' key=some ic→gk N N' [] key→Q (.ret (.loc ic.da)) ⟨bY,H'⟩) :
  ag C (bodyOf (ml 24 1)) ⟨fun y=>([("self" : Str), "key", "access_lists"].zip [.loc x,.tup (key.map .str),.bool true]).lookup y,H⟩ Q X:=by
 refine az T.attrs fun r Dm P9=>?_
 refine ag.cons (WS.bE (WE.attr (WE.nm ok hk rfl (T.oU ok tc Dm (WA.nm ok hk ?_)))))
 refine ag.cons (WS.Be ok (WE.nm ok hk rfl (aw _ du.tup ?_)))
 refine CA ok hk hG (y9 _ _ _ rfl) key [] r N ow H _ T mW Dm rfl rfl fun H1 N1 pv nd BE T1 K1 UW h1 hn=>?_
 exact ag.cons (WS.ret (WE.nm ok hk h1 (h _ _ _ _ _ T1 K1 (by simpa using UW) hn)))
end
end
section
section
variable{prog:Program} {w:World} {A:eh} {E:Value→Shared→Prop} {s:Shared} {K:vb} {x C:Addr} {ox:Obj} {od:Option Obj} {name:Str} {expr:Bool} {Q:Value→Shared→Prop}
theorem KA(X:K.In s.heap)(I:InstAt s.heap x ox C od)(Wd:gn K (.ref C) "__getattribute__" = some (some (.builtin "tuple.__getattribute__")))(hk:gn K (.ref C) "__getattr__" = some none)
  (hm:uH K C (.type "tuple")=some true) (hf:qf K C od name=some (.bind g a))
  (h:aR (aS prog w) A.in1 (call g [a,.ref x,.ref C]) (fun v s'=>aR (aS prog w) A (handedOut v) Q E s') (fun e s'=>False) { s with toks:=s.toks+1 }) :
  aR (aS prog w) A (PY (.ref x) name expr) Q E s:=by
 obtain ⟨hh,gg,d,t,os⟩:=s
 have L0:=I.type (M:=aS prog w)
 have L1:=jZ (M:=aS prog w) X Wd
 have L2:=jZ (M:=aS prog w) X hk
 have L3:=kj (M:=aS prog w) X hm
 have L4:=looks_find (M:=aS prog w) X I hf
 have cx:(U1 (dD C)&&mK "tuple.__getattribute__" == mK "object.__getattribute__")=false:=by
  rw [show (mK "tuple.__getattribute__" == mK "object.__getattribute__")=false from by decide +kernel,lD]
 delta PY getAttrBy
 refine aA (wh (bS (aA (L0.at (aA (L1.at ?_))))))
 dsimp only
 rw [cx,if_neg (by decide)]
 delta getAttrByItsOwn hookBefore
 refine aA ?_
 rw [if_pos (show U1 (dD C)=true from rfl)]
 refine L2.at ?_
 refine aA (GD (bS ?_))
 unfold callGetattribute
 rw [show (expr&&U1 (mK "tuple.__getattribute__"))=false from lD _,if_neg (by decide)]
 unfold boundAndCalled
 rw [F.slot_tuple_getattribute.bind]
 refine aA (aC ?_)
 show aR _ _ (call (.builtin "tuple.__getattribute__") [.ref x,.str name t]) _ _ _
 refine eO (fR F.slot_tuple_getattribute.plain F.entry_tuple_ga ?_)
 refine @ve (aS prog w) _ _ ⟨hh,gg,d,t+1,os⟩ "tuple.__getattribute__" "tuple" "__getattribute__" (.ref x) [.str name t] [] _ (by decide +kernel) (by decide +kernel) (L0.andThen L3) (F.args_tuple_getattribute_2 (.ref x) (.str name t)) ?_
 unfold eF.«object.__getattribute__»
 refine aA (aC ?_)
 refine aA (aC ?_)
 refine aA (L0.at (aA (L4.at ?_)))
 show aR _ _ (holding [a] (call g [a,.ref x,.ref C]) >>= ret) _ _ _
 exact aA (bS (aM h (fun v s' z=>aC z) fun _ _ z=>z.elim))
end
end
section
open AutoSeq1 (wpAny_loadPart') in
theorem tX{prog:Program}{w:World}{A:eh}{hp:Heap}{g:Array YI}{d:Drawn}{tk:Nat}{os:Pe}{l:Addr}{items:Array Value}{n:Nat}{i:Int}{u:qC}{k:Nat}{y:Value}{c:Value}{od:Option Addr}{sl:Array (Option Value)}
  (hl:hp.get? l=some { cls:=c,dict:=od,data:=.seq items n,slots:=sl }) (Ni:0≤i) (hhi:i<2 ^ 60) (hk:tN i items.size=some k) (hy:items[k]?=some y) (h:P (.done (.ret y)) ⟨hp,g,d,tk,os⟩) :
  aR (aS prog w) A (eF.«tuple.__getitem__» ⟨[.ref l,.int i u],[]⟩) P E ⟨hp,g,d,tk,os⟩:=by
 have f1:=AutoSeq1.idx_int
 wp_walk using BH hl
 simp only [hk,hy,Option.bind_some]
 refine wpAny_ite_false (by simp;exact ⟨kg (by decide) Ni,td hhi (by decide)⟩) ?_
 wp_walk
 exact h
section
variable{C:Cx} {dep:Nat} {KF I:IM} {st:ak} {s:Shared} {X:XP} {Q:CV→ak→Prop}
theorem oV(S:SR C KF I st s)(r:VR I (.fy cl vs) v):∃x ox n xs,v=.ref x∧s.heap.get? x=some ox∧ox.cls=.ref cl∧ox.data=.seq xs n∧ck I vs xs.toList:=by
 refine UL r fun a d o n xs sl G2 R9=>?_;try clear r;obtain rfl:=G2;(refine dO R9 fun hi _ hr=>?_;try clear R9)
 exact (UI a _ n xs rfl (S.de _ _ hi) rfl rfl hr)
theorem W2.KC(h:Q (.bool false) st):W2 C (cI .Is) (.fy cl vs) .none st Q X:=fun I v u r1 r2 KF s S=>by
 refine Jd (oV S r1) fun x ox n xs G4 _=>?_;clear r1;obtain rfl:=G4
 subst r2
 exact V6 (pq (.bool false) S rfl h)
theorem aW.RA(h:Q (.raw (.ref cl)) st):aW C (.type "type") [.fy cl vs] [] [] st Q X:=JI fun I a ra KF s S=>by
 refine Jd (oV S ra) fun x ox n xs G4 R9=>?_;clear ra;obtain rfl:=G4;(refine dO R9 fun ho hc _=>?_;try clear R9)
 obtain ⟨hh,g,d,t,os⟩:=s
 exact call_type_obj ho (by rw [hc];rfl) (by rw [hc];exact (pq (.raw (.ref cl)) S rfl h))
theorem aW.RB(ok:C.Ok dep)(hm:uH C.K cl (.type "tuple")=some true)(ht:(DL C.K cl).isSome=true)(h:Q (.bool true) st):aW C (.builtin "issubclass") [.raw (.ref cl),.raw (.type "tuple")] [] [] st Q X:=Jm fun I a b ra rb KF s S=>by
 subst ra rb
 refine call_issubclass (S:=fun _ R s'=>C.K.In s'.heap∧s'=s∧R (.ok (.ret (.bool true))) s') (fun _ _ _ _ s' hs=>issubclass_outer ?_) (d9 (S.tw ok) rfl (dK I st (.refl I) S ⟨.bool true,rfl,h⟩))
 refine dO hs fun X0 _ hR=>?_;try clear hs
 obtain ⟨hh,g,d,t,os⟩:=s'
 have e1:lW (.type "tuple")=pure (.type "type"):=by kernel_rfl
 refine cG (aY.mp ht) fun cd NP=>?_
 have yC:∃a b c,hh.get? cl=some ⟨a,b,.cls cd,c⟩:=by
  unfold DL at NP
  split at NP
  ·rename_i ho;obtain rfl:=aE NP;exact (y9 _ _ _ (X0 _ _ ho))
  ·contradiction
 refine DV yC fun ca cb cc ho=>?_;try clear yC
 have L3:=fun(M:nN)=>kj (M:=M) X0 hm
 unfold eF.«issubclass.nested»
 refine aA (n9 e1 ?_)
 rw [if_pos (by decide)]
 k_delta "plainIsSubclass"
 unfold isType
 refine aA (aA (aA (nd_load ho (nd_pure (aC ?_)))))
 refine aA (aC ?_)
 show aR _ _ (tM (.ref cl) (.type "tuple")) _ _ _
 refine (L3 _).at ?_
 exact aC hR
noncomputable def uv(C:Cx)(a:CV)(name:Str)(f:Value)(st:ak):Prop :=
 ∀(I:IM) (v:Value) (KF:IM) (s:Shared) (pl:xq Bool) (E:Value→Shared→Prop) (Q:Value×List Value→Shared→Prop),VR I a v→SR C KF I st s→(∀tk,Q (f,[]) { s with toks:=tk })→aR (aS C.prog C.w) C.A (Tp v name pl) Q E s
theorem WE.MM{o:Expr}{name:Str}{apos pos:Pos}{es:List Expr}{kws:List Keyword}(ok:C.Ok dep)
  (h:WE C o st (fun a bJ=>∃f,bu C f∧uv C a name f bJ∧rV C es bJ (fun as cJ=>rV C (kws.map (·.value)) cJ (fun ks i8=>aW C f as (Jt kws) ks i8 Q X) X) X) X)
  (hs:es.all noStar=true:=by rfl) (hk:kws.all (·.arg.isSome)=true:=by rfl) (hb:attributeBase o name C.env (gK o C.env)=gK o C.env:=by rfl)
  (hfew:YH (es.length+kws.length) (j5 pos (eA es C.env)) (eU pos (cX kws C.env))=true:=by rfl) (hline:(apos.endLine == pos.line)=true:=by rfl) :
  WE C (.Call (.Attribute o name apos) es kws pos) st Q X:=fun I=>by
 rw [arm_eval_Call,hb]
 refine WL.bind ((h I).mono (fun J v bJ _ R3=>az R3 fun a r hZ=>eZ hZ fun f hf hm q=>?_) fk)
 refine WL.bind (WL.standAt ?_)
 unfold methodCall
 rw [hfew]
 have nV:uD true o C.env apos pos=pure pos:=by unfold uD;(dsimp only [iF,iT,iG,iU,iH,iV,nT,nF,aT,aF,oT,oF];simp [hline])
 rw [nV]
 refine WL.bind (WL.holding fun KF s S=>?_)
 refine hm J v KF s _ _ _ r S fun tk=>(dK J bJ (.refl J) (S.toks tk) ?_)
 refine WL.bind (WL.pure ?_)
 exact qM (fst:=[]) ok hf .nil q hs hk
theorem uv.type(ok:C.Ok dep)(ht:lW (.type T)=pure (.type "type"))(hs:Manifest.isStub T=false)
  (e:tQ C.K (.type T) (.type "type") name=some (.val f)) (hh:handedIn f=true):uv C (.raw (.type T)) name f st:=fun I v KF s pl E Q r S q=>by
 subst r
 have X0:=S.tw ok
 have RC:zT (.type T)=pure none:=by unfold zT;dsimp only;rw [hs];rfl
 have L0:pR (aS C.prog C.w) s.heap (lW (.type T)) (.type "type"):=fH ht
 have hg:gn C.K (.type "type") "__getattribute__" = some (some (.builtin "type.__getattribute__")):=type_tga
 delta Tp GY
 refine aA (aA (L0.here ((jZ X0 hg).here ?_)))
 dsimp only
 rw [if_pos canon_tga]
 refine aA (aM (Q:=fun v=>Q (v,[])) (E:=E) ?_ (fun _ _ z=>aC z) fun _ _ z=>z)
 have LO:pR (aS C.prog C.w) s.heap (zT (.type T)) none:=fH RC
 refine cls_open X0 LO L0 hg (looks_hook X0 (r:=none) (by rfl)) (by show subIn C.K _ _=_;rfl) e
  (aC (by show aR _ _ (handedOut f) _ _ _;rw [handedOut_of hh];exact aC (q _)))
theorem g9.cls(ok:C.Ok dep)(hr:Pf C.K cl (.type "type")=true)(e:tQ C.K (.ref cl) (.type "type") name=some (.val (.int i t)))(h:Q (.int i) st):g9 C (.raw (.ref cl)) name st Q X:=fun I v r KF s S=>by
 subst r
 exact cls_value (S.tw ok) hr e rfl (pq (.int i) (S.toks _) (dA _ rfl) h)
theorem g9.base(ok:C.Ok dep)(hI:InstAt C.base x ox cl od)(Wd:gn C.K (.ref cl) "__getattribute__" = some (some (.builtin "object.__getattribute__")))
  (hf:qf C.K cl od name=some (.value (.int i t))) (h:Q (.int i) st):g9 C (.raw (.ref x)) name st Q X:=fun I v r KF s S=>by
 subst r
 have bk:∀b o,C.base.get? b=some o→s.heap.get? b=some o:=fun b o e=>S.de b o (S.base b o e)
 have hI':InstAt s.heap x ox cl od:=by
  obtain ⟨a,b,c,d⟩:=hI
  refine ⟨bk _ _ a,b,c,?_⟩
  cases hd:ox.dict with
  | none=>rw [hd]at d;clear hf;cases od <;> exact d
  | some dx =>
   rw [hd]at d
   cases od with
   | none=>exact d
   | some o=>exact bk _ _ d
 exact get_value (S.tw ok) hI' Wd hf rfl (pq (.int i) (S.toks _) (dA _ rfl) h)
theorem aW.KD{cl:Addr}{vs:List CV}{k:Nat}{c:CV}(ok:C.Ok dep)(hm:uH C.K cl (.type "tuple")=some true)(hk:vs[k]?=some c)(hl:vs.length≤100)(h:Q c st):aW C (.builtin "tuple.__getitem__") [.fy cl vs,.int k] [] [] st Q X:=Jm fun I a b ra rb KF s S=>by
 refine Jd (oV S ra) fun x ox n xs G4 R9=>?_;clear ra;obtain rfl:=G4;(refine ip R9 fun ho hc hd hr=>?_;try clear R9)
 refine cG rb fun t G8=>?_;try clear rb;obtain rfl:=G8
 refine az (hr.get hk) fun v hv hvr=>?_
 have X0:=S.tw ok
 have hlen:=hr.length
 have L0:pR (aS C.prog C.w) s.heap (lW (.ref x)) (.ref cl):=hc▸(sd ho).andThen .now
 have L3:=kj (M:=aS C.prog C.w) X0 hm
 clear X0;obtain ⟨hh,g,d,tk,os⟩:=s
 refine eO (fR F.slot_tuple_getitem.plain F.entry_tuple_getitem ?_)
 refine @ve (aS C.prog C.w) _ _ ⟨hh,g,d,tk,os⟩ "tuple.__getitem__" "tuple" "__getitem__" (.ref x) [.int k t] [] _ (by decide +kernel) (by decide +kernel) (L0.andThen L3) (F.args_tuple_getitem_2 (.ref x) (.int k t)) ?_
 obtain ⟨oc,od,oda,osl⟩:=ox
 dsimp only at hd
 clear hc;subst hd
 have oQ:k<xs.size:=by
  have:=(bI.mp hk).1
  simp at hlen
  exact T3 [.e .x .y,.t .z .x] (.t .z .y) tA hlen this
 have Jy:k<100:=by
  have:=(bI.mp hk).1
  (exact bj (by assumption) (by assumption))
 refine tX (A:=C.A.in1) (n:=n) (items:=xs) (y:=v) (k:=k) (i:=k) ho (au _) (cD.mpr (T1 [.t .x (.n 100)] (.t .x (.n 1152921504606846976)) tA Jy)) ?_ (by simpa using hv) ?_
 ·unfold tN
  dsimp only
  rw [if_neg (by simp:¬(k:Int)<0)]
  rw [if_pos (by simp;exact T2 [.t .x .y] (.t .x .y) tA oQ)]
  simp
 ·exact (pq c S hvr h)
end
end
section
section
variable{C:Cx} {dep:Nat} {KF I:IM} {st:ak} {s:Shared} {X:XP}
noncomputable def GL(C:Cx)(fa:Addr)(t:Stmt)(pn kn:List Str)(n:Nat)(dc:List CV):Prop:=∃fd,FnAt C fa fd (bodyOf t)∧fd.scope.names=ax t∧∀us vs:List Value,us.length=n→vs.length=kn.length→∃ws,(∀I,ck I dc ws)∧∀s:Shared,C.K.In s.heap→BindsTo s fd ⟨us,kn.zip vs⟩ (pn.zip (us++vs++ws))
theorem GL.same{C':Cx}{fa:Addr}{t:Stmt}{pn kn:List Str}{n:Nat}{dc:List CV}(F:GL C fa t pn kn n dc)(e:C.iY C'):GL C' fa t pn kn n dc:=by
 refine eZ F fun fd f h1 h2=>?_
 refine (cB fd ⟨?_,?_,f.body,f.Jk,f.gl,f.bl,f.co,f.gen,f.kind⟩ h1 ?_)
 ·rw [e.base];exact f.at_
 ·rw [e.base];exact f.code
 ·rw [e.K];exact h2
theorem GL.call{fa:Addr}{t:Stmt}{pn kn:List Str}{n:Nat}{dc args ks:List CV}(F:GL C fa t pn kn n dc)(ok:C.Ok (dep+1))(hn:nJ t pn=true)(h1:args.length=n)(h2:ks.length=kn.length)
  (h:∀C':Cx,C'.Ok dep→C.iY C'→HK C' (ax t)→ag C' (bodyOf t) ⟨fun x=>(pn.zip (args++ks++dc)).lookup x,st.H⟩ (fun f aj=>Q f.val ⟨st.lo,aj.H⟩) (fun x aj=>X x ⟨st.lo,aj.H⟩)) :
  aW C (.ref fa) args kn ks st Q X:=fun I us vs r1 r2 KF s S=>by
 refine eZ F fun fd f e1 e2=>?_
 unfold nJ at hn
 simp only [ae,decide_eq_true_eq]at hn
 refine ao hn fun G9 n4=>?_;obtain ⟨⟨n1,n2⟩,n3⟩:=G9
 refine az (e2 us vs (by rw [← r1.length];exact h1) (by rw [← r2.length];exact h2)) fun ws hw hb=>?_
 refine az f.at_ fun fo Bg Dc=>?_
 have bk:∀b o,C.base.get? b=some o→s.heap.get? b=some o:=fun b o e=>S.de b o (S.base b o e)
 refine eO (dX (jy (X:=X) (cs:=args++ks++dc) (pn:=pn) (P:=fun KF J f h H=>∃b,FR J b f∧Q b.val ⟨st.lo,H⟩) ok Dc f.body f.Jk f.gl f.bl f.co f.gen f.kind (by rw [e1];exact n1) n2 (by rw [e1];exact n3) (by rw [e1];exact n4) (fun _ _ _ _ _ _ _ q=>q)
  (fun C' j9 sm qI _ _ I KF s S=>h C' j9 sm (fun y=>by unfold eB;rw [qI,e1]) I KF s S) I us vs (us++vs++ws) ((r1.append r2).append (hw I)) KF s S (hb s (S.tw ok)) (bk _ _ Bg) (f.code.keeps bk)) fun r s' hr=>?_)
 cases r with
 | error e=>exact hr
 | ok f =>
  cases f with
  | ret v =>
   refine dC hr fun J H' l S' R9=>?_;obtain ⟨f,hf,b,rW,q⟩:=R9
   refine (dK J ⟨st.lo,H'⟩ l S' ⟨b.val,?_,q⟩)
   subst hf
   cases b with
   | next=>clear hr;cases rW;rfl
   | brk=>clear hr;cases rW;rfl
   | cont=>clear hr;cases rW;rfl
   | ret c=>(refine az rW fun u G8 r=>?_;clear hr rW;obtain rfl:=G8);exact r
  | _=>exact hr
structure qP(C:Cx):Prop where
 ga:gn C.K (.ref 313) "__getattribute__" = some (some (.builtin "tuple.__getattribute__"))
 gh:gn C.K (.ref 313) "__getattr__" = some none
 mro:uH C.K 313 (.type "tuple")=some true
 cls:(DL C.K 313).isSome=true
 flags:∀od,qf C.K 313 od "flags" = some (.bind (.ref 72) (.ref 308))
 data:∀od,qf C.K 313 od "data" = some (.bind (.ref 72) (.ref 305))
 nodict:∀cd,DL C.K 313=some cd→cd.hasDict=false
 get:GL C 72 (ml 3 1) ["self", "obj", "objtype"] [] 3 []
 HS:kQ C [("issubclass",.builtin "issubclass"),("type",.type "type"),("tuple",.type "tuple")]
 item:tQ C.K (.type "tuple") (.type "type") "__getitem__" = some (.val (.builtin "tuple.__getitem__"))
 d0:∃ox od t,InstAt C.base 305 ox 89 od∧qf C.K 89 od "index" = some (.value (.int 0 t))
 d1:∃ox od t,InstAt C.base 308 ox 89 od∧qf C.K 89 od "index" = some (.value (.int 1 t))
 Z6:gn C.K (.ref 89) "__getattribute__" = some (some (.builtin "object.__getattribute__"))
theorem qP.same(o:qP C)(e:C.iY C'):qP C':=by
 exact ⟨rE e.K o.ga,rE e.K o.gh,rE e.K o.mro,rE e.K o.cls,rE e.K o.flags,rE e.K o.data,rE e.K o.nodict,o.get.same e,o.HS.same e,rE e.K o.item,rE e.K (rE e.base o.d0),rE e.K (rE e.base o.d1),rE e.K o.Z6⟩
theorem HT{x:Addr}{k:Nat}{c:CV}{vs:List CV}{H:CH}(ok:C.Ok dep)(oc:qP C)(hk:HK C (ax (ml 3 1)))
  (hx:∃ox od t,InstAt C.base x ox 89 od∧qf C.K 89 od "index" = some (.value (.int (k:Int) t))) (hc:vs[k]?=some c) (hl:vs.length≤100) (h:∀bY,Q (.ret c) ⟨bY,H⟩) :
  ag C (bodyOf (ml 3 1)) ⟨fun y=>([("self" : Str), "obj", "objtype"].zip [.raw (.ref x),.fy 313 vs,.raw (.ref 313)]).lookup y,H⟩ Q X:=by
 refine j7 hx fun ox od t hI hf=>?_
 refine ag.cons (WS.oK (WT.ez (WE.nm ok hk rfl (WE.none (W2.KC (iW.bool ⟨fun q=>(aD q),fun _=>ag.nil ?_⟩))))))
 refine ag.cons (WS.oK (WT.not (WT.value rfl (WE.call ok (WE.glob ok oc.HS rfl (cB _ rfl bu.builtin ?_) (by rw [hk];rfl))))))
 refine WE.call ok (WE.glob ok oc.HS (v:=.type "type") rfl (cB _ rfl bu.type (WE.nm ok hk rfl (aW.RA (WE.glob ok oc.HS rfl ?_ (by rw [hk];rfl))))) (by rw [hk];rfl))
 refine aW.RB ok oc.mro oc.cls (iW.bool ⟨fun q=>(aD q),fun _=>ag.nil ?_⟩)
 refine ag.cons (WS.ret (WE.MM ok (WE.glob ok oc.HS (v:=.type "tuple") rfl (cB _ bu.builtin (uv.type ok (by kernel_rfl) (by decide +kernel) oc.item rfl) ?_) (by rw [hk];rfl))))
 refine WE.nm ok hk rfl (WE.attr (WE.nm ok hk rfl (g9.base ok hI oc.Z6 hf ?_)))
 exact aW.KD ok oc.mro hc hl (h _)
theorem g9.field{vs:List CV}{k:Nat}{x:Addr}{c:CV}{name:Str}(ok:C.Ok (dep+2))(oc:qP C)(hf:∀od,qf C.K 313 od name=some (.bind (.ref 72) (.ref x)))
  (hx:∃ox od t,InstAt C.base x ox 89 od∧qf C.K 89 od "index" = some (.value (.int (k:Int) t))) (hc:vs[k]?=some c) (hl:vs.length≤100) (hh:∀u,c≠.raw u) (h:Q c st):g9 C (.fy 313 vs) name st Q X:=fun I v r KF s S=>by
 have r':=r
 refine UL r fun a d o n xs sl G2 R9=>?_;clear r;obtain rfl:=G2;(refine dO R9 fun hi hd hr=>?_)
 have ho:=S.de _ _ hi
 have hA:C.A.in1.frames=C.A.frames:=rfl
 have We:(C.at C.A.in1).Ok (dep+1):=ok.at_ hA rfl (by show C.A.depth≤_;(exact bf _ _)) (by show C.A.units+1≤_;simp) rfl
 have Z7:qP (C.at C.A.in1):=oc.same ⟨rfl,rfl,rfl,rfl,rfl,rfl,rfl,rfl⟩
 have call:aW (C.at C.A.in1) (.ref 72) [.raw (.ref x),.fy 313 vs,.raw (.ref 313)] [] [] st (fun b aj=>b=c∧aj=st) (fun _ _=>False):=by
  refine GL.call (dep:=dep) Z7.get We (by decide +kernel) rfl rfl fun C' j9 sm hk=>?_
  exact HT j9 (Z7.same sm) hk (by rw [sm.base,sm.K];exact hx) hc hl fun bY=>⟨rfl,rfl⟩
 have hI:InstAt s.heap a ⟨.ref 313,some d,.seq xs n,sl⟩ 313 (some o):=⟨ho,rfl,rfl,S.de _ _ hd⟩
 refine KA (S.tw ok) hI oc.ga oc.gh oc.mro (hf _) ?_
 have main:=call I [.ref x,.ref a,.ref 313] [] (.cons rfl (.cons r' (.cons rfl .nil))) .nil KF _ ((S.toks (s.toks+1)).at_ hA)
 refine aM main (fun v s' R2=>dC R2 fun J aj l S' hZ=>eZ hZ fun b rb e1 e2=>?_) fun e s' R3=>jr R3 fun _ _ _ _ _ _ q=>q
 clear hc S call main R2;subst e1 e2
 exact handed_on (rb.handed hh) (dK J aj l (S'.back hA) (aw b rb h))
end
end
section
theorem CB:U2 [.type "tuple"]=pure (.type "tuple"):=by kernel_rfl
theorem Ud(c:Addr)(t:Addr):DK "tuple.__new__" ⟨[.ref c,.ref t],[]⟩:=by unfold DK;kernel_rfl
theorem Dr:builtinKind "tuple.__new__" = some .builtinFn:=by decide +kernel
theorem AY:splitId "tuple.__new__" = some ("tuple", "__new__"):=by decide +kernel
theorem HU:plainId "tuple.__new__" = true:=by decide +kernel
structure k7(K:vb)(cl:Addr):Prop where
 obj:∃oc od cd sl,K.lookup cl=some ⟨oc,od,.cls cd,sl⟩∧cd.bases=[.type "tuple"]∧cd.mro=[.ref cl,.type "tuple",.type "object"]∧cd.hasDel=false∧cd.abstract=false∧sl[4]?=some (some .none)
 init:gn K (.ref cl) "__init__" = some (some (.builtin "object.__init__"))
section
variable{K:vb} {M:nN} {h:Heap} {cl:Addr}
theorem k7.mro(T:k7 K cl)(X:K.In h):pR M h (mroOf (.ref cl)) [.ref cl,.type "tuple",.type "object"]:=by
 refine UH T.obj fun oc od cd sl ho hb hm _=>?_
 have hc:DL K cl=some cd:=by unfold DL;rw [ho]
 exact (LU X hc).andThen (by rw [hm];exact .now)
theorem k7.made(T:k7 K cl)(X:K.In h):pR M h (EM (.ref cl)) none:=by
 refine UJ T.obj fun oc od cd sl ho hb hm _ _ h4=>?_
 intro A Q E s k q
 unfold EM
 refine aA (T.mro X A _ E s k ?_)
 rw [fA]
 refine aA (aA (aA (aA (DG (k _ _ (X _ _ ho)) (aC ?_)))))
 dsimp only
 rw [h4]
 exact aC (aC (aC q))
theorem k7.base(T:k7 K cl)(X:K.In h):pR M h (La (.ref cl)) (.type "tuple"):=by
 refine UJ T.obj fun oc od cd sl ho hb hm _ _ h4=>?_
 have hc:DL K cl=some cd:=by unfold DL;rw [ho]
 intro A Q E s k q
 unfold La
 refine aA (T.mro X A _ E s k ?_)
 rw [fA]
 refine aA (aA (aA (T.made X A _ E s k (aA (LU X hc A _ E s k ?_)))))
 rw [hb]
 refine aA (n9 CB (aC ?_))
 dsimp only
 rw [fA]
 refine aA (aA (n9 F.called_tuple.made ?_))
 exact aC (aC (aC q))
theorem k7.here(T:k7 K cl)(X:K.In h):pR M h (Bind.madeHere "tuple.__new__" (.ref cl)) ():=by
 refine (T.base X).andThen ?_
 refine Ms (fH F.called_tuple.made) (fH ?_)
 dsimp [i0,bne_self_eq_false,aL,if_false,iF,iT,iG,iU,iH,iV,nT,nF,aT,aF,oT,oF]
end
section
variable{C:Cx} {dep:Nat} {KF I:IM} {st:ak} {s:Shared} {X:XP} {Q:CV→ak→Prop}
open AutoSeq1 (wpAny_loadPart')
theorem aW.Nj(ok:C.Ok dep)(T:k7 C.K cl)(hm:uH C.K cl (.type "tuple")=some true)(hl:vs.length≤100)(h:Q (.fy cl vs) st):aW C (.builtin "tuple.__new__") [.raw (.ref cl),.tup vs] [] [] st Q X:=Jm fun I a b ra rb KF s S=>by
 subst ra
 refine gP (IsTuple.of S.de rb) fun t xs G7 R9=>?_;clear rb;obtain rfl:=G7;(refine ao R9 fun G9 hr=>?_;try clear R9;obtain ⟨ot,Ue,htc,n,Wf⟩:=G9)
 have X0:=S.tw ok
 refine UJ T.obj fun oc od cd sl ho hb hmm eo Wg h4=>?_
 have hC:=X0 _ _ ho
 obtain ⟨hh,g,d,tk,os⟩:=s
 dsimp only at X0 hC Ue
 have L1:=kj (M:=aS C.prog C.w) X0 hm
 have L2:=T.base (M:=aS C.prog C.w) X0
 have L3:=T.here (M:=aS C.prog C.w) X0
 have L4:=jZ (M:=aS C.prog C.w) X0 T.init
 have hsz:xs.size≤bZ:=by have:=hr.length;simp at this;rw [aa];exact T2 [.l .x (.n 100),.e .x .y] (.l .y (.n 16777216)) tA hl this
 refine eO (fR HU F.entry_tuple_new ?_)
 have Nk:∀{P:Unit→Shared→Prop} {E:Value→Shared→Prop},P () ⟨hh,g,d,tk,os⟩→aR (aS C.prog C.w) C.A.in1 (zU "tuple.__new__" ⟨[.ref cl,.ref t],[]⟩) P E ⟨hh,g,d,tk,os⟩:=by
  intro P E hP
  dsimp only [zU,Dr,AY,iF,iT,iG,iU,iH,iV,nT,nF,aT,aF,oT,oF];simp only [zU,Dr,AY]
  have L5:pR (aS C.prog C.w) hh (EM (.type "tuple")) (some "tuple.__new__"):=fH F.called_tuple.made
  repeat (first | lk)
  exact hP
 refine Nk ?_
 unfold eF.«tuple.__new__»
 repeat (first | with_reducible refine wpAny_collect_seq (hsz:=hsz) t (.inr rfl) Ue htc Wf (fun h' hk=>?_) | lk)
 have e1:xs.toList.toArray=xs:=by simp
 rw [e1,if_neg (dp (by assumption))]
 delta newObjAsIs classHasDel
 refine aA (zi (aA (aA (wpAny_load (aX _ (aX _ (hk _ _ hC))) (aC ?_)))))
 rw [eo]
 refine aC (aC ?_)
 have S1:SR C KF I st { heap:=h',gens:=g,drawn:=d,toks:=tk,os:=os }:=S.keeps (tk:=tk) hk
 refine ao (S1.mT (o:={ cls:=.type "dict",data:=.dict #[] }) rfl) fun l2 S2=>?_
 refine ao (S2.mT (o:={ cls:=.ref cl,dict:=some h'.objs.size,data:=.seq xs }) rfl) fun l3 S3=>?_
 refine (dK _ st (l2.trans l3) S3 (aw (.fy cl vs) ?_ h))
 exact (Yg _ _ _ _ _ _ rfl cw (l3 _ _ cw) (ck.mono (l2.trans l3) _ _ hr))
theorem HV(a b c:Value):DK "object.__init__" ⟨[a,b,c],[]⟩:=by unfold DK;kernel_rfl
theorem HW(ok:C.Ok (dep+2))(T:k7 C.K cl)(hr:Pf C.K cl (.type "type")=true)(hc:specialIn C.K (.ref cl) "__call__" = some (some (.builtin "type.__call__")))
  (ht:instIn C.K (.ref cl) (.type "type")=some true) (hs:uH C.K cl (.ref cl)=some true) (hob:uH C.K cl (.type "object")=some true)
  (hf:tQ C.K (.ref cl) (.type "type") "__new__" = some (.get (.builtin "staticmethod.__get__") (.ref pN) .none (.ref cl))) (hp:recIn C.K pN "staticmethod" = some [.ref fN])
  (h:∀A:eh,(C.at A).Ok (dep+1)→C.iY (C.at A)→aW (C.at A) (.ref fN) [.raw (.ref cl),a1,a2] [] [] st (fun v aj=>v=.fy cl vs∧Q v aj) X) :
  aW C (.ref cl) [a1,a2] [] [] st Q X:=Jm fun I u1 u2 ra rb KF s S=>by
 have X0:=S.tw ok
 refine UJ T.obj fun oc od cd sl ho hb hmm eo Wg h4=>?_
 have hC:=X0 _ _ ho
 have call:=looks_specialIn (M:=aS C.prog C.w) X0 hc
 have typ:=looks_instIn (M:=aS C.prog C.w) X0 ht
 have made:=T.made (M:=aS C.prog C.w) X0
 have mro:=T.mro (M:=aS C.prog C.w) X0
 obtain ⟨hh,g,d,tk,os⟩:=s
 dsimp only at X0 hC call typ made mro
 refine eO (V0 ?_)
 show aR _ _ (callAny (.ref cl) _) _ _ _
 refine nd_load hC ?_
 show aR _ _ (callAny.viaDunder (.ref cl) _) _ _ _
 unfold callAny.viaDunder
 refine aA (call.at ?_)
 dsimp only
 rw [tc_bind]
 refine aA (aC (aA (aC ?_)))
 refine aC (a:=Fin.again (.call (.builtin "type.__call__") ⟨[.ref cl,u1,u2],[]⟩)) (BQ rfl ?_)
 refine codeAny_call_builtin_at (Code.quiet_builtin _ (by decide +kernel)) entry_typeCall (ve tc_kind tc_split typ (tc_args _ _ _) ?_)
 have hA:((C.A.under (.builtin "type.__call__" ⟨[.ref cl,u1,u2],[]⟩)).frames=C.A.frames):=by
  show pushEnvs [] C.A.frames=_
  cases C.A.frames <;> rfl
 have hG:((C.A.under (.builtin "type.__call__" ⟨[.ref cl,u1,u2],[]⟩)).guards=C.A.guards):=by
  show pushGuards [] C.A.guards=_
  cases C.A.guards <;> rfl
 have wF:(C.at (C.A.under (.builtin "type.__call__" ⟨[.ref cl,u1,u2],[]⟩))).Ok (dep+1):=ok.at_ hA rfl (by show C.A.depth+1≤_;(exact bx _)) (by show C.A.units+1≤_;simp) hG
 generalize C.A.under (.builtin "type.__call__" ⟨[.ref cl,u1,u2],[]⟩)=A2 at hA hG wF ⊢
 unfold eF.«type.__call__»
 have Nl:∀{P:Value→Shared→Prop} {E:Value→Shared→Prop},P (.ref fN) ⟨hh,g,d,tk+1,os⟩→aR (aS C.prog C.w) A2 (PY (.ref cl) "__new__") P E ⟨hh,g,d,tk,os⟩:=by
  intro P E hP
  refine cls_bind X0 hr hf (eO (sm_get (s:=⟨hh,g,d,tk+1,os⟩) X0 hp ?_))
  exact handed_on rfl hP
 have sm:C.iY (C.at A2):=⟨rfl,rfl,rfl,rfl,rfl,rfl,rfl,rfl⟩
 have main:=h A2 wF sm I [.ref cl,u1,u2] [] (.cons rfl (.cons ra (.cons rb .nil))) .nil KF _ ((S.toks (tk+1)).at_ hA)
 have KI:∀{P:Value→Shared→Prop} {E:Value→Shared→Prop},(∀v s',(∃I' aj,fq I I'∧SR (C.at A2) KF I' aj s'∧∃b,VR I' b v∧b=.fy cl vs∧Q b aj)→P v s')→(∀e s',eV (C.at A2) KF I X e s'→E e s')→aR (aS C.prog C.w) A2 (n5 (.ref fN) [.ref cl,u1,u2] []) P E ⟨hh,g,d,tk+1,os⟩:=fun hP hE=>aM main hP hE
 repeat (first | with_reducible refine Nl ?_ | ((with_reducible show aR _ _ (n5 (.ref fN) _ _) _ _ _);refine KI ?_ (fun e s' R3=>jr R3 fun J x aj l S' hx q=>(js J x aj l (S'.back hA) hx q))) | lk)
 intro v s' hZ
 refine dC hZ fun J aj l S' HG=>eZ HG fun b Z8 e hq=>?_
 clear hZ HG
 subst e
 have S2:=S'.back hA
 have X1:=S2.tw ok
 refine Jd (oV S2 Z8) fun x ox n xs G4 R9=>?_;obtain rfl:=G4;(refine ip R9 fun hx hxc BO _=>?_;try clear R9)
 clear S';obtain ⟨RD,g',d',Qi,Wh⟩:=s'
 dsimp only at hx X1
 have t1:pR (aS C.prog C.w) RD (lW (.ref x)) (.ref cl):=hxc▸(sd hx).andThen .now
 have s1:=kj (M:=aS C.prog C.w) X1 hs
 have s2:=kj (M:=aS C.prog C.w) X1 hob
 have i1:=jZ (M:=aS C.prog C.w) X1 T.init
 have b1:pR (aS C.prog C.w) RD (bindSpecial (.builtin "object.__init__") (.ref x)) (.builtin "object.__init__",[.ref x]):=fH (oi_bind _)
 have Z9:=T.made (M:=aS C.prog C.w) X1
 have KJ:∀{P:Value→Shared→Prop} {E:Value→Shared→Prop},P .none ⟨RD,g',d',Qi,Wh⟩→aR (aS C.prog C.w) A2 (n5 (.builtin "object.__init__") [.ref x,u1,u2] []) P E ⟨RD,g',d',Qi,Wh⟩:=by
  intro P E hP
  refine eO (fR oi_plain entry_oi (@ve (aS C.prog C.w) _ _ ⟨RD,g',d',Qi,Wh⟩ "object.__init__" "object" "__init__" (.ref x) [u1,u2] [] _ oi_kind oi_split (t1.andThen s2) (HV _ _ _) ?_))
  unfold eF.«object.__init__»
  repeat (first | lk)
  exact hP
 delta isInstance Iu GY
 repeat (first | ((with_reducible show aR _ _ (n5 (.builtin "object.__init__") _ _) _ _ _);refine KJ ?_) | lk)
 exact (dK J aj l S2 (aw (.fy cl vs) Z8 hq))
end
end
section
noncomputable abbrev G6:List (Str×Value):=GK++([("parse_key",.ref 344),("Flags",.ref 205),("KeyError",.type "KeyError"),("suffixed_err",.ref 401),("TOMLDecodeError",.ref 150),("isinstance",.builtin "isinstance"),("list",.type "list"),("dict",.type "dict"),
 ("issubclass",.builtin "issubclass"),("type",.type "type"),("tuple",.type "tuple"),("set",.type "set"),("create_dict_rule",.ref 337),("str",.type "str"),("NestedDict",.ref 241),("Output",.ref 313),("_law_digits",.ref 415),("_law_tables",.ref 422),("_law_told",.ref 429),("sorted",.builtin "sorted"),("zip",.type "zip")]:List (Str×Value))
structure nq(C:Cx)(cl:Addr)(name:Str)(fa:Addr)(t:Stmt)(pn kn:List Str)(n:Nat)(dc:List CV):Prop where
 find:gn C.K (.ref cl) name=some (some (.ref fa))
 typ:Oc C.K (.ref fa)=some (.type "function")
 keep:YG C.K (.ref fa)=true
 fn:GL C fa t pn kn n dc
structure LX(C:Cx)(B S W:Str→Bool):Prop where
 kf:qO C
 hB:dW C 130 B
 hS:dW C 115 S
 hW:dW C 121 W
 g:kQ C G6
 key:m6 C 344 (bK 29) ["src", "pos"] []
 RE:bu C (.ref 344)
 err:m6 C 401 (bK 37) ["src", "pos", "msg"] []∧∀fd,(∃o,C.base.get? 401=some o∧o.data=.func fd)→fd.code=.ref 400∧fd.qualname=aB "suffixed_err"
 RG:bu C (.ref 401)
 x:AN C 150
 kx:bu C (.ref 150)
 d:uq C (.ref 400)
 oc:qP C
 tup:k7 C.K 313
 out:Pf C.K 313 (.type "type")=true∧specialIn C.K (.ref 313) "__call__" = some (some (.builtin "type.__call__"))∧instIn C.K (.ref 313) (.type "type")=some true∧uH C.K 313 (.ref 313)=some true∧uH C.K 313 (.type "object")=some true ∧
  tQ C.K (.ref 313) (.type "type") "__new__" = some (.get (.builtin "staticmethod.__get__") (.ref 314) .none (.ref 313))∧recIn C.K 314 "staticmethod" = some [.ref 263]∧tQ C.K (.type "tuple") (.type "type") "__new__" = some (.val (.builtin "tuple.__new__"))
 RH:bu C (.ref 313)
 HX:GL C 263 (ml 25 4) ["_cls", "data", "flags"] [] 3 []
 fl:wG C 205
 RI:Pf C.K 205 (.type "type")=true∧(∃t,tQ C.K (.ref 205) (.type "type") "EXPLICIT_NEST" = some (.val (.int 1 t)))∧∃t,tQ C.K (.ref 205) (.type "type") "FROZEN" = some (.val (.int 0 t))
 ZA:bu C (.ref 205)
 HY:nq C 205 "__init__" 167 (ml 23 3) ["self"] [] 1 []
 RJ:nq C 205 "is_" 202 (ml 23 8) ["self", "key", "flag"] [] 3 []
 MN:nq C 205 "set" 195 (ml 23 7) ["self", "key", "flag", "recursive"] ["recursive"] 3 []
 ne:F7 C 241
 ZC:bu C (.ref 241)
 HZ:nq C 241 "__init__" 223 (ml 24 0) ["self"] [] 1 []
 Ha:nq C 241 "get_or_create_nest" 231 (ml 24 1) ["self", "key", "access_lists"] [] 2 [.bool true]
 rule:m6 C 337 (bK 28) ["src", "pos", "out"] []
 MO:bu C (.ref 337)
 told:m6 C 429 (bK 42) ["text", "place", "out"] []
 Ds:bu C (.ref 429)
 tables:m6 C 422 (bK 41) ["document"] []
 yX:bu C (.ref 422)
 digits:m6 C 415 (bK 40) ["script"] []
 Dt:bu C (.ref 415)
 Wi:B ⟨#[46]⟩=false
 Nm:gn C.K (.ref 150) "__str__" = some (some (.builtin "BaseException.__str__"))∧uH C.K 150 (.type "BaseException")=some true
section
variable{C C':Cx} {dep:Nat} {X:XP} {B S W:Str→Bool} {st:ak}
theorem F7.same(t:F7 C cl)(e:C.iY C'):F7 C' cl:=⟨by rw [e.K];exact t.ok,by rw [e.K];exact t.dict,by rw [e.K];exact t.ML⟩
theorem nq.same{cl fa:Addr}{name:Str}{t:Stmt}{pn kn:List Str}{n:Nat}{dc:List CV}(m:nq C cl name fa t pn kn n dc)(e:C.iY C'):nq C' cl name fa t pn kn n dc :=
 ⟨by rw [e.K];exact m.find,by rw [e.K];exact m.typ,by rw [e.K];exact m.keep,m.fn.same e⟩
theorem LX.same(L:LX C B S W)(e:C.iY C'):LX C' B S W:=by
 refine ⟨L.kf.same e,L.hB.same e,L.hS.same e,L.hW.same e,L.g.same e,L.key.same e,L.RE.same e,⟨L.err.1.same e,by rw [e.base];exact L.err.2⟩,L.RG.same e,L.x.same e,L.kx.same e,L.d.same e,L.oc.same e,by rw [e.K];exact L.tup,by rw [e.K];exact L.out,L.RH.same e,L.HX.same e,L.fl.same e,by rw [e.K];exact L.RI,L.ZA.same e,L.HY.same e,L.RJ.same e,L.MN.same e,L.ne.same e,L.ZC.same e,L.HZ.same e,L.Ha.same e,L.rule.same e,L.MO.same e,L.told.same e,L.Ds.same e,L.tables.same e,L.yX.same e,L.digits.same e,L.Dt.same e,L.Wi,by rw [e.K];exact L.Nm⟩
theorem nq.lH{x d cl fa:Addr}{es:List (Str×CV)}{name:Str}{t:Stmt}{pn kn:List Str}{n:Nat}{dc args ks:List CV}(m:nq C cl name fa t pn kn n dc)(ok:C.Ok (dep+1))(hc:sy C.K cl)(hx:st.H x=some (.inst cl d))(hd:st.H d=some (.dict es))(hl:es.lookup name=none)
  (hn:nJ t pn=true) (h1:args.length+1=n) (h2:ks.length=kn.length)
  (h:∀C':Cx,C'.Ok dep→C.iY C'→HK C' (ax t)→ag C' (bodyOf t) ⟨fun y=>(pn.zip (.loc x::args++ks++dc)).lookup y,st.H⟩ (fun f aj=>Q f.val ⟨st.lo,aj.H⟩) (fun x aj=>X x ⟨st.lo,aj.H⟩)) :
  bu C (.ref fa)∧eX C (.loc x) name (.ref fa) st∧aW C (.ref fa) (.loc x::args) kn ks st Q X :=
 (d9 (bu.ref m.keep) (eX.inst ok hc hx hd hl m.find m.typ) (m.fn.call ok hn (by simpa using h1) h2 h))
theorem KN(L:LX C B S W)(ok:C.Ok (dep+2))(hH:st.H C.tb=some (.fu gC ke))(hx:src.length≤2 ^ 20)(hm:msg.length≤2 ^ 22)(hp:p≤src.length)(hc:iN src p co)(yC:co.length≤2 ^ 23)
  (h:Q st):sF C (.ref 401) [.str src,.int p,.str msg] st 150 (.tup [.str (mX msg co)]) Q X:=fun I us r KF s S0=>by
 refine ao L.err fun G9 e3=>?_;(refine eZ G9 fun fd f e1 e2=>?_;try clear G9)
 refine az f.at_ fun fo Bg Dc=>?_
 refine ao (e3 fd (aw fo Bg Dc)) fun e4 e5=>?_
 have bk:∀b o,C.base.get? b=some o→s.heap.get? b=some o:=fun b o e=>S0.de b o (S0.base b o e)
 have hb:=e2 us [] (by rw [← r.length];rfl) rfl
 have MP:nJ (bK 37) ["src", "pos", "msg"]=true:=by decide +kernel
 unfold nJ at MP
 simp only [ae,decide_eq_true_eq]at MP
 refine ao MP fun G9 n4=>?_;try clear MP;obtain ⟨⟨n1,n2⟩,n3⟩:=G9
 refine eO (dX (jy (X:=X) (kn:=[]) (cs:=[.str src,.int p,.str msg]) (pn:=["src", "pos", "msg"]) (P:=fun KF J f h H=>F4 C KF J 150 (.tup [.str (mX msg co)]) (ND f) h∧Q ⟨st.lo,H⟩) ok Dc f.body f.Jk f.gl f.bl f.co f.gen f.kind (by rw [e1];exact n1) n2 (by rw [e1];exact n3) (by rw [e1];exact n4) ?_
  (fun C' j9 sm qI r6 RK I KF s S=>?_) I us [] us r KF s S0 (.of_eq (by simpa using hb)) (bk _ _ Bg) (f.code.keeps bk)) fun r s' hr=>?_)
 ·rintro KF tr J f h H hk R4
  refine ao R4 fun G9 a7=>?_;try clear R4;(refine dC G9 fun e t a1 G5 R9=>?_;try clear G9;obtain ⟨a2,a3,a4⟩:=G5;obtain ⟨a5,a6⟩:=R9)
  exact ⟨(EX e t a1 (d9 a2 (hk _ a3) a4) a5 a6),a7⟩
 ·have L':=L.same sm
  have hk:HK C' (ax (bK 37)):=fun y=>by unfold eB;rw [qI,e1]
  have main:=C9 (X:=fun e aj=>X e ⟨st.lo,aj.H⟩) (Q:=fun aj=>Q ⟨st.lo,aj.H⟩) j9 hk (by rw [RK,e5]) (L'.g.part (by decide +kernel)) L'.x L'.kx (by simp only [r6,e4];exact L'.d) (by rw [sm.tb];exact hH) hx hm hp hc yC (fun bY=>h) I KF s S
  refine aM main (fun f s' R3=>UE R3 fun J aj l S' hx q=>(EX J aj l S' ?_ q)) fun e s' q=>q
  refine dC hx fun e t a1 G5 R9=>?_;try clear hx;(refine dO G5 fun a2 a3 a4=>?_;try clear G5);(refine ao R9 fun a5 a6=>?_;try clear R9)
  exact (EX e t a1 (d9 ((Cx.wC.same sm).mp a2) a3 a4) a5 a6)
 ·cases r with
  | error e=>exact hr
  | ok f =>
   cases f with
   | ret v =>
    refine dC hr fun J H' l S' R9=>?_;try clear hr;(refine eZ R9 fun f hf hx q=>?_;try clear R9)
    subst hf
    exact (EX J ⟨st.lo,H'⟩ l S' hx q)
   | _=>exact hr
end
end
section
structure t7(H H':CH)(Own fw:Addr→Prop):Prop where
 same:∀a,¬Own a→H a≠none→H' a=H a∧¬fw a
 grow:∀a,Own a→fw a
 new:∀a,¬Own a→fw a→H a=none
structure wI where
 x:Addr
 d:Addr
 pa:Addr
 x2:Addr
 d2:Addr
noncomputable def OW(H:CH)(o:wI)(D:List (List Str))(M:TN)(Own:Addr→Prop):Prop :=
 ∃N ow mM,FW H 205 o.x o.d o.pa N ow (.fE [])∧TW H 241 o.x2 o.d2 M mM∧(∀a,ow a≠none→mM a=none)∧(∀a,Own a↔(ow a≠none∨mM a≠none)) ∧
  (∀q,hr N q 1=decide (q∈D))∧(∀q g,g≠1→hr N q g=false)∧∀q g,rc N q g=false
theorem OW.keep(h:OW H o D M Own)(K:t7 H H' O2 O2')(ap:∀a,Own a→¬O2 a):OW H' o D M Own∧∀a,Own a→¬O2' a:=by
 refine BK h fun N ow mM F T GN own r=>?_;try clear h
 have kk:∀a,Own a→H' a=H a∧¬O2' a:=fun a ha=>K.same a (ap a ha) (by
  rcases (own a).mp ha with q | q
  ·have:=F.C5 a (by (refine cG (bL.mp q) fun v hv=>?_);rw [hv];rfl)
   intro e;rw [e]at this;exact aD this
  ·have:=T.C5 a (by (refine cG (bL.mp q) fun v hv=>?_);rw [hv];rfl)
   intro e;rw [e]at this;exact aD this)
 classical
 have K1:FK H H' (fun a=>if Own a then none else some ([],0)) (fun a=>if Own a then none else some ([],0)):=by
  refine ⟨fun a h1 h2=>⟨?_,h1⟩,fun a _=>rfl,fun a h h'=>absurd h h'⟩
  by_cases q:Own a
  ·exact (kk a q).1
  ·rw [if_neg q]at h1;contradiction
 refine ao (F.keep K1 (fun a ha=>by rw [if_pos ((own a).mpr (.inl ha))])) fun F' _=>?_
 refine ao (T.keep K1 (fun a ha=>by rw [if_pos ((own a).mpr (.inr ha))])) fun T' _=>?_
 exact ⟨(JF N ow mM F' T' GN own r),fun a ha=>(kk a ha).2⟩
theorem KO(hp:∀p k,(N (p++[k])).isSome=true→(N p).isSome=true)(h0:(N []).isSome=true)(ZD:∀q g,rc N q g=false)(hk:key≠[]):P8 N f key=hr N key f:=by
 have loop:∀(ks p:List Str),(N p).isSome=true→match iw N f p ks with | some b=>b=false∧∀q,(p++ks) <+: q→N q=none | none=>True:=by
  intro ks
  induction ks with
  | nil=>intro p _;trivial
  | cons k ks ih =>
   intro p hN
   unfold iw
   cases hn:N (p++[k])with
   | none =>
    refine ⟨rfl,fun q hq=>?_⟩
    refine cG hq fun t G8=>?_;try clear hq;obtain rfl:=G8
    have gen:∀(n:Nat) (l:List Str),l.length=n→N (p++[k]++l)=none:=by
     intro n
     induction n with
     | zero=>intro l hl;have:=aP hl;clear hl;subst this;simpa using hn
     | succ n Wj =>
      intro l hl
      have cx:l≠[]:=by intro e;subst e;simp at hl
      have hq:=(d8 cx).symm
      cases hx:N (p++[k]++l)with
      | none=>rfl
      | some m =>
       rw [hq,← bU]at hx
       have:=hp _ _ (by rw [hx];rfl)
       rw [Wj l.dropLast (by simp [hl])]at this
       exact aD this
    have:=gen _ (ks++t) rfl
    simpa using this
   | some nd =>
    have Dm:f∉nd.rs:=by have:=ZD (p++[k]) f;unfold rc at this;rw [hn]at this;simpa using this
    simp only [Dm,if_false]
    have:=ih (p++[k]) (by rw [hn];rfl)
    cases hl:iw N f (p++[k]) ks with
    | none=>trivial
    | some b =>
     rw [hl]at this
     refine ⟨this.1,fun q hq=>this.2 q (by simpa using hq)⟩
 unfold P8
 rw [if_neg hk]
 have:=loop key.dropLast [] h0
 cases hl:iw N f [] key.dropLast with
 | none=>simp only [ZD,zk]
 | some b =>
  rw [hl]at this
  have hn:=this.2 key (by dsimp only [bg];exact List.dropLast_prefix key)
  rw [this.1]
  simp [hr,hn]
theorem Hb:∀k∈bC,jw k=true:=by decide +kernel
theorem dG:∀{ks:List Str},(∀k∈ks,k∈bC)→g8 (ks.map .str)=true∧EN (eW (ks.map .str))=true∧i7 (eW (ks.map .str))=0∧GF (eW (ks.map .str))=false
 | [],_=>(ql rfl rfl rfl rfl)
 | k::ks,h=>by
  refine ip (dG (ks:=ks) fun j hj=>h j (aG _ hj)) fun a b c d=>?_
  refine (ql ?_ ?_ ?_ ?_)
  ·simp only [aK,g8,eS,a,Hb k (h k aH),rQ]
  ·simp only [aK,eW,toPy,EN,Iv,b,rQ]
  ·simp only [aK,eW,toPy,i7,bR,c];rfl
  ·simp only [aK,eW,toPy,GF,JO,d,Bool.or_self]
section
variable{C:Cx} {dep:Nat} {X:XP} {B S W:Str→Bool}
theorem jh.names{ks:List Str}{st:ak}(ok:C.Ok dep)(mW:∀k∈ks,k∈bC)(hz:(iM (ks.map .str)).length≤2 ^ 20)(h:Q (.str (iM (ks.map .str))) st):jh C (.tup (ks.map .str)) st Q X:=by
 refine ip (dG mW) fun a b c d=>?_
 refine jh.tup ok (by simpa [eS]using a) (by simpa [toPy,Iv]using b) ?_ (by simpa [toPy,JO]using d) (by rw [aa];exact T1 [.l .x (.n 1048576)] (.l .x (.n 16777216)) tA hz) h
 show bR (.tuple (eW (ks.map .str)))≤100
 simp only [bR,c]
 exact cQ 1 99
theorem KP{src nm:Str}{i j e:Nat}{ns:List Str}{st:ak}(L:LX C B S W)(ok:C.Ok (dep+5))(hT:st.H C.tb≠none)(hx:src.length≤2 ^ 20)
  (hp:iu B S src i nm j) (hj:j≤src.length) (iJ:mm B S W src (sk W src j) ns e) (hn:ns.length<1000) (Qp:∀(p c:Nat),src.cps[p]?=some c→eS (.str ⟨#[c]⟩)=true)
  (h:Q (.tup [.int e,.tup ((nm::ns).map .str)]) st):aW C (.ref 344) [.str src,.int i] [] [] st Q X:=by
 refine L.key.call ok (by decide +kernel) rfl rfl fun C' j9 sm hk=>?_
 have L':=L.same sm
 exact Qo j9 hk (L'.g.part (by decide +kernel)) L'.hB L'.hS L'.hW L'.kf (by rw [sm.tb];exact hT) (by rw [aa];exact T1 [.l .x (.n 1048576)] (.l .x (.n 16777216)) tA hx) (T1 [.l .x (.n 1048576)] (.t .x (.n 1152921504606846976)) tA hx) hp hj iJ hn Qp fun bY=>h
noncomputable def lO(key:List Str):Str:=bt++aB "Cannot declare "++iM (key.map .str)++aB " twice"
noncomputable def yY:Str:=aB "Expected ']' at the end of a table declaration"
noncomputable def Hc(t:Str):CX:=⟨.ref 150,.tup [.str t]⟩
theorem Np{src nm co:Str}{i j e:Nat}{ns:List Str}{o:wI}{D:List (List Str)}{M:TN}{H:CH}(L:LX C B S W)(ok:C.Ok (dep+6))(hk:HK C (ax (bK 28)))
  (hH:H C.tb=some (.fu gC ke)) (pC:¬Own C.tb) (hx:src.length≤2 ^ 20) (hi:i<src.length)
  (hp:iu B S src (sk W src (i+1)) nm j) (hj:j≤src.length) (iJ:mm B S W src (sk W src j) ns e) (hn:ns.length<900) (Qp:∀(p c:Nat),src.cps[p]?=some c→eS (.str ⟨#[c]⟩)=true)
  (he:e≤src.length) (hc:iN src e co) (yC:co.length≤2 ^ 22) (uU:∀k∈nm::ns,k∈bC) (CC:(iM ((nm::ns).map .str)).length≤2 ^ 20)
  (O:OW H o D M Own)
  (yZ:nm::ns∈D→∀bY,X (Hc (mX (lO (nm::ns)) co)) ⟨bY,H⟩)
  (iq:nm::ns∉D→∀bY H' M' fw,OW H' o ((nm::ns)::D) M' fw→t7 H H' Own fw→gk M M' [] (nm::ns) →
   if (decide (e+(aB "]").length≤src.length)&&pX src (aB "]") e)=true then Q (.ret (.tup [.int ((e:Int)+1),.tup ((nm::ns).map .str)])) ⟨bY,H'⟩else X (Hc (mX yY co)) ⟨bY,H'⟩) :
  ag C (bodyOf (bK 28)) ⟨fun y=>([("src" : Str), "pos", "out"].zip [.str src,.int i,.fy 313 [.loc o.x2,.loc o.x]]).lookup y,H⟩ Q X:=by
 have hT:H C.tb≠none:=by rw [hH];simp
 refine Q0 (id O) fun N ow mM F T GN own g1 g2 g3=>?_
 have Wk:∀f,P8 N f (nm::ns)=hr N (nm::ns) f:=fun f=>KO F.par (by (refine az F.attrs fun r Dm _=>?_);rw [Dm];rfl) g3 (by simp)
 have hlen:(nm::ns).length≤1000:=by simp;exact T1 [.t .x (.n 900)] (.l .x (.n 999)) tA hn
 have Hd:(lO (nm::ns)).length≤2 ^ 22:=by
  unfold lO
  simp only [aI]
  have a1:(aB "Cannot declare ").length=15:=by decide +kernel
  have a2:(aB " twice").length=6:=by decide +kernel
  have a3:bt.length=0:=rfl
  exact T4 [.l .x (.n 1048576),.e .y (.n 15),.e .z (.n 6),.e .w (.n 0)] (.l (.a (.a (.a .w .y) .x) .z) (.n 4194304)) tA CC a1 a2 a3
 have oW:=Hd
 unfold lO at oW
 simp only [aI]at oW
 refine dO (id L.RI) fun _ G8 G7=>?_;(refine cG G8 fun tE hE=>?_;try clear G8);(refine cG G7 fun tF hF=>?_;try clear G7)
 have yc:∀{H:CH} {lo:Str→Option CV} {Q:CV→ak→Prop} {p1 p2:Pos},lo "out" = some (.fy 313 [.loc o.x2,.loc o.x])→Q (.loc o.x) ⟨lo,H⟩→WE C (.Attribute (.Name "out" p1) "flags" p2) ⟨lo,H⟩ Q X:=fun{H lo Q p1 p2} hl q =>
  WE.attr (WE.nm ok hk hl (g9.field (dep:=dep+4) (k:=1) ok L.oc L.oc.flags L.oc.d1 rfl (by show 2≤100;decide) (fun u h=>by cases h) q))
 refine az F.attrs fun rf hrf UY=>?_
 refine ag.cons (WS.aug ok (by rw [hk];rfl) (WE.nm ok hk rfl (WE.int (W2.A5 ?_))))
 refine ag.cons (WS.bE (WE.call ok (WE.glob ok L.g rfl (cB _ rfl L.kf.xR ?_) (by rw [hk];rfl))))
 refine WE.nm ok hk (v:=.str src) ((ai (by decide)).trans rfl) (WE.nm ok hk bP (WE.glob ok L.g rfl ?_ (by rw [hk];rfl)))
 have e1:((i:Int)+1)=((i+1:Nat):Int):=congrArg BS (T1 [] (.e (.a .x .o) (.a .x .o)) tA)
 rw [e1]
 refine nc (dep:=dep+5) L.kf.skip ok (L.g.one rfl) L.hW hT (T1 [.l .x (.n 1048576)] (.t .x (.n 1152921504606846976)) tA hx) (T2 [.t .x .y] (.l (.a .x .o) .y) tA hi) ?_
 refine WA.nm ok hk ?_
 refine ag.cons (WS.bE (WE.call ok (WE.glob ok L.g rfl (cB _ rfl L.RE ?_) (by rw [hk];rfl))))
 refine WE.nm ok hk (v:=.str src) ((ai (by decide)).trans ((ai (by decide)).trans rfl)) (WE.nm ok hk (v:=.int (sk W src (i+1):Nat)) bP ?_)
 refine KP (dep:=dep+1) L ok hT hx hp hj iJ (T1 [.t .x (.n 900)] (.t .x (.n 1000)) tA hn) Qp ?_
 refine WA.tuple ok rfl (WA.nm ok hk (WA.nm ok hk ?_))
 have front:∀lo:Str→Option CV,lo "src" = some (.str src)→lo "pos" = some (.int e)→lo "key" = some (.tup ((nm::ns).map .str))→lo "out" = some (.fy 313 [.loc o.x2,.loc o.x])→ag C ((bodyOf (bK 28)).drop 3) ⟨lo,H⟩ Q X:=by
  intro lo l1 l2 l3 l4
  have isCall:∀(f:Int) {Q:CV→ak→Prop},Q (.bool (hr N (nm::ns) f)) ⟨lo,H⟩→bu C (.ref 202)∧eX C (.loc o.x) "is_" (.ref 202) ⟨lo,H⟩∧aW C (.ref 202) [.loc o.x,.tup ((nm::ns).map .str),.int f] [] [] ⟨lo,H⟩ Q X:=fun f Q q =>
   L.RJ.lH (dep:=dep+5) (args:=[.tup ((nm::ns).map .str),.int f]) (ks:=[]) ok L.fl.ok F.obj UY rfl (by decide +kernel) rfl rfl fun C' j9 sm oQ =>
    WH j9 (L.same sm).fl oQ F hlen fun bY=>by rw [Wk];exact q
  have Du:∀{lo:Str→Option CV} {H':CH} {es:List Expr} {p1 p2 p3:Pos} {e0 e1 e2:Expr} {msg:Str} {Q:CF→ak→Prop},H' C.tb=some (.fu gC ke)→msg.length≤2 ^ 22 →
    rV C [e0,e1,e2] ⟨lo,H'⟩ (fun as cJ=>as=[.str src,.int e,.str msg]∧cJ=⟨lo,H'⟩) X→X (Hc (mX msg co)) ⟨lo,H'⟩→([e0,e1,e2].all noStar=true)→WS C (.Raise (some (.Call (.Name "suffixed_err" p1) [e0,e1,e2] [] p2)) none p3) ⟨lo,H'⟩ Q X:=by
   intro lo H' es p1 p2 p3 e0 e1 e2 msg Q Wl hm Wm hX sE
   refine WS.raise (args:=.tup [.str (mX msg co)]) ok L.x (PE.call ok (WE.glob ok L.g rfl (cB _ rfl L.RG ?_) (by rw [hk];rfl)) sE)
   have conv:∀(es:List Expr) (st:ak) (P P':List CV→ak→Prop),(∀as st,P as st→P' as st)→rV C es st P X→rV C es st P' X:=by
    intro es
    induction es with
    | nil=>intro st P P' hp q;exact hp _ _ q
    | cons e es ih=>intro st P P' hp q;exact WE.mono q (fun b aj q=>ih _ _ _ (fun as st q=>hp _ _ q) q) fk
   refine conv _ _ _ _ (fun as cJ R3=>ao R3 fun ea est=>?_) Wm
   clear R3;subst ea est
   exact KN (dep:=dep+4) L ok Wl hx hm he hc (T1 [.l .x (.n 4194304)] (.l .x (.n 8388608)) tA yC) hX
  refine ag.cons (WS.oK (WT.rm ?_))
  refine WT.value rfl (WE.lH ok (yc l4 ?_))
  refine dO (isCall 1 (Q:=fun _ _=>True) trivial) fun m1 m2 _=>?_
  refine (cB _ m1 m2 (WE.nm ok hk l3 (WE.attr (WE.glob ok L.g (v:=.ref 205) rfl (g9.cls ok L.RI.1 hE ?_) (by rw [hk];rfl)))))
  refine (isCall 1 ?_).2.2
  refine iW.bool ?_
  rw [g1]
  cases hD:decide ((nm::ns)∈D)with
  | true =>
   refine ⟨fun _=>?_,fun q=>(aD q)⟩
   refine ag.cons (Du (es:=[]) hH Hd ?_ (yZ (of_decide_eq_true hD) _) rfl)
   refine WE.nm ok hk l1 (WE.nm ok hk l2 (WE.AM ?_))
   exact WE.str (cB _ rfl (by simp only [aI];rw [aa];exact T4 [.l (.a (.a (.a .x .y) .z) .w) (.n 4194304)] (.l (.a .x .y) (.n 16777216)) tA oW) (WE.fmt (WE.nm ok hk l3 (jh.names ok uU CC (cB _ rfl (by simp only [aI];rw [aa];exact T4 [.l (.a (.a (.a .x .y) .z) .w) (.n 4194304)] (.l (.a (.a .x .y) .z) (.n 16777216)) tA oW) (WE.str (cB _ rfl (by simp only [aI];rw [aa];exact T4 [.l (.a (.a (.a .x .y) .z) .w) (.n 4194304)] (.l (.a (.a (.a .x .y) .z) .w) (.n 16777216)) tA oW) (d9 (by simp only [aI];rw [aa];exact T4 [.l (.a (.a (.a .x .y) .z) .w) (.n 4194304)] (.l (.a (.a (.a .x .y) .z) .w) (.n 16777216)) tA oW) rfl rfl))))))))
  | false =>
   refine WT.value rfl (WE.lH ok (yc l4 ?_))
   refine dO (isCall 0 (Q:=fun _ _=>True) trivial) fun m1 m2 _=>?_
   refine (cB _ m1 m2 (WE.nm ok hk l3 (WE.attr (WE.glob ok L.g (v:=.ref 205) rfl (g9.cls ok L.RI.1 hF ?_) (by rw [hk];rfl)))))
   refine (isCall 0 ?_).2.2
   refine iW.bool ?_
   rw [g2 _ 0 (by decide)]
   refine ⟨fun q=>(aD q),fun _=>ag.nil ?_⟩
   have yM:nm::ns∉D:=of_decide_eq_false hD
   have fin:∀(H':CH) (N':FN) (lN:FO),FW H' 205 o.x o.d o.pa N' lN (.fE [])→FK H H' ow lN→(∀q g,hr N' q g=(hr N q g||(!false&&decide (q=nm::ns)&&decide (g=1))))→(∀q g,rc N' q g=(rc N q g||(false&&decide (q=nm::ns)&&decide (g=1))))→ag C ((bodyOf (bK 28)).drop 5) ⟨lo,H'⟩ Q X:=by
    intro H' N' lN F' K' h1 h2
    obtain ⟨T',ap'⟩:=T.keep K' fun a ha=>by
     cases q:ow a with
     | none=>rfl
     | some v=>exact absurd (GN a (by rw [q];simp)) ha
    have ZE:H' C.tb=some (.fu gC ke):=by
     rw [(K'.same C.tb (by
      cases q:ow C.tb with
      | none=>rfl
      | some v=>exact absurd ((own C.tb).mpr (.inl (by rw [q];simp))) pC) hT).1]
     exact hH
    refine az T'.attrs fun rt BN hdt=>?_
    refine ag.cons (WS.zz (tn := "KeyError") ok L.g rfl (by rw [hk];rfl) (by rw [ba];kernel_rfl) (by rw [ba];kernel_rfl) ?_)
    refine ag.mono (X:=fun _ _=>False) (Q:=fun f bJ=>f=.next∧bJ.lo=lo∧∃M' sG,TW bJ.H 241 o.x2 o.d2 M' sG∧FK H' bJ.H mM sG∧gk M M' [] (nm::ns)) ?_ ?_ (fun _ _ q=>q.elim)
    ·refine ag.cons (WS.u4 ok (WE.lH ok ?_))
     refine WE.attr (WE.nm ok hk l4 (g9.field (dep:=dep+4) (k:=0) ok L.oc L.oc.data L.oc.d0 rfl (by show 2≤100;decide) (fun u h=>by cases h) ?_))
     have AZ:∀{Q:CV→ak→Prop},(∀Ew M' sG ic,TW Ew 241 o.x2 o.d2 M' sG→FK H' Ew mM sG→gk M M' [] (nm::ns)→Q (.loc (ie.da ic)) ⟨lo,Ew⟩)→bu C (.ref 231)∧eX C (.loc o.x2) "get_or_create_nest" (.ref 231) ⟨lo,H'⟩∧aW C (.ref 231) [.loc o.x2,.tup ((nm::ns).map .str)] [] [] ⟨lo,H'⟩ Q (fun _ _=>False):=fun{Q} q =>
      L.Ha.lH (dep:=dep+5) (args:=[.tup ((nm::ns).map .str)]) (ks:=[]) ok L.ne.ok T'.obj hdt rfl (by decide +kernel) rfl rfl fun C' j9 sm oQ =>
       Nh j9 (L.same sm).ne oQ ((L.same sm).g.part (by decide +kernel)) T' uU fun bY Ew M' sG ic PI JK hM hN=>q Ew M' sG ic PI JK hN
     refine dO (AZ (Q:=fun _ _=>True) fun _ _ _ _ _ _ _=>trivial) fun m1 m2 _=>?_
     refine (cB _ m1 m2 (WE.nm ok hk l3 ?_))
     exact (AZ fun Ew M' sG ic PI JK hN=>ag.nil (d9 rfl rfl (dK M' sG PI JK hN))).2.2
    ·rintro f ⟨bY,Ew⟩ R4
     refine ao R4 fun G9 R9=>?_;try clear R4;obtain rfl:=G9;obtain ⟨el,M',sG,PI,JK,hN⟩:=R9
     dsimp only at el PI JK
     subst el
     refine ag.nil ?_
     obtain ⟨Wn,Wo⟩:=F'.keep JK fun a ha=>by
      cases q:mM a with
      | none=>rfl
      | some v=>exact absurd (ap' a (by rw [q];simp)) ha
     have Wq:Ew C.tb=some (.fu gC ke):=by
      rw [(JK.same C.tb (by
       cases q:mM C.tb with
       | none=>rfl
       | some v=>exact absurd ((own C.tb).mpr (.inr (by rw [q];simp))) pC) (by rw [ZE];simp)).1]
      exact ZE
     have hO:OW Ew o ((nm::ns)::D) M' (fun a=>lN a≠none∨sG a≠none):=by
      refine (N5 N' lN sG Wn PI Wo (fun a=>.rfl) (fun q=>?_) (fun q g hg=>?_) (fun q g=>?_))
      ·rw [h1,g1]
       by_cases hq:q=nm::ns
       ·subst hq;simp
       ·dsimp only [iF,iT,iG,iU,iH,iV,nT,nF,aT,aF,oT,oF];simp [hq]
      ·rw [h1,g2 q g hg];(dsimp only [iF,iT,iG,iU,iH,iV,nT,nF,aT,aF,oT,oF];simp [hg])
      ·rw [h2,g3];dsimp only [iF,iT,iG,iU,iH,iV,nT,nF,aT,aF,oT,oF]
     have hK:t7 H Ew Own (fun a=>lN a≠none∨sG a≠none):=by
      refine ⟨fun a ha h0=>?_,fun a ha=>?_,fun a ha hb=>?_⟩
      ·have o1:ow a=none:=by
        cases q:ow a with
        | none=>rfl
        | some v=>exact absurd ((own a).mpr (.inl (by rw [q];simp))) ha
       have o2:mM a=none:=by
        cases q:mM a with
        | none=>rfl
        | some v=>exact absurd ((own a).mpr (.inr (by rw [q];simp))) ha
       refine ao (K'.same a o1 h0) fun a1 a2=>?_
       refine ao (JK.same a o2 (by rw [a1];exact h0)) fun b1 b2=>?_
       exact ⟨b1.trans a1,fun q=>q.elim (fun q=>q a2) fun q=>q b2⟩
      ·rcases (own a).mp ha with q | q
       ·left;rw [K'.grow a q];exact q
       ·right;rw [JK.grow a q];exact q
      ·have o1:ow a=none:=by
        cases q:ow a with
        | none=>rfl
        | some v=>exact absurd ((own a).mpr (.inl (by rw [q];simp))) ha
       have o2:mM a=none:=by
        cases q:mM a with
        | none=>rfl
        | some v=>exact absurd ((own a).mpr (.inr (by rw [q];simp))) ha
       rcases hb with q | q
       ·exact K'.new a o1 q
       ·have hz:=JK.new a o2 q
        cases q2:H a with
        | none=>rfl
        | some c =>
         have h3:=(K'.same a o1 (by rw [q2];simp)).1
         rw [hz,q2]at h3
         cases h3
     have KQ:=iq yM bY Ew M' _ hO hK hN
     refine ag.cons (WS.oK (WT.not (WT.value rfl (WE.lH ok (WE.nm ok hk l1 (cB _ bu.builtin (eX.str PySem.F.slot_str_startswith PySem.F.type_str_startswith) ?_))))))
     refine WE.str (WE.nm ok hk l2 (aW.El (iW.bool ?_)))
     cases hb:(decide (e+(aB "]").length≤src.length)&&pX src (aB "]") e)with
     | true =>
      refine ⟨fun q=>(aD q),fun _=>ag.nil ?_⟩
      rw [if_pos hb]at KQ
      exact ag.cons (WS.ret (WE.tuple (WE.binop (WE.nm ok hk l2 (WE.int (W2.kZ (WE.nm ok hk l3 ⟨(by show 2≤2 ^ 24;decide),KQ⟩)))))))
     | false =>
      refine ⟨fun _=>?_,fun q=>(aD q)⟩
      rw [if_neg (by rw [hb];decide)]at KQ
      refine ag.cons (Du (es:=[]) Wq (by decide +kernel) ?_ KQ rfl)
      exact WE.nm ok hk l1 (WE.nm ok hk l2 (WE.str ⟨rfl,rfl⟩))
   have Dv:∀{Q:CV→ak→Prop},(∀H' N' lN,FW H' 205 o.x o.d o.pa N' lN (.fE [])→FK H H' ow lN→(∀q g,hr N' q g=(hr N q g||(!false&&decide (q=nm::ns)&&decide (g=1))))→(∀q g,rc N' q g=(rc N q g||(false&&decide (q=nm::ns)&&decide (g=1))))→Q .none ⟨lo,H'⟩) →
     bu C (.ref 195)∧eX C (.loc o.x) "set" (.ref 195) ⟨lo,H⟩∧aW C (.ref 195) [.loc o.x,.tup ((nm::ns).map .str),.int 1] ["recursive"] [.bool false] ⟨lo,H⟩ Q X:=fun{Q} q =>
    L.MN.lH (dep:=dep+5) (args:=[.tup ((nm::ns).map .str),.int 1]) (ks:=[.bool false]) ok L.fl.ok F.obj UY rfl (by decide +kernel) rfl rfl fun C' j9 sm oQ =>
     Qu j9 (L.same sm).fl oQ F hlen (by simp) uU (by decide) fun bY H' N' lN F' K' h1 h2=>q H' N' lN F' K' h1 h2
   refine dO (Dv (Q:=fun _ _=>True) fun _ _ _ _ _ _ _=>trivial) fun m1 m2 _=>?_
   refine ag.cons (WS.u4 ok (WE.lH ok (yc l4 (cB _ m1 m2 (WE.nm ok hk l3 (WE.attr (WE.glob ok L.g (v:=.ref 205) rfl (g9.cls ok L.RI.1 hE (WE.bool ?_)) (by rw [hk];rfl))))))))
   exact (Dv fun H' N' lN F' K' h1 h2=>fin H' N' lN F' K' h1 h2).2.2
 refine front _ ?_ ?_ Ea ?_
 ·exact (kr (by decide)).trans ((ai (by decide)).trans ((ai (by decide)).trans ((ai (by decide)).trans rfl)))
 ·exact (kr (by decide)).trans bP
 ·exact (kr (by decide)).trans ((ai (by decide)).trans ((ai (by decide)).trans ((ai (by decide)).trans rfl)))
end
end
section
open Builtin.BaseException
theorem KR:builtinKind "BaseException.__str__" = some .slot:=by decide +kernel
theorem He:splitId "BaseException.__str__" = some ("BaseException", "__str__"):=by decide +kernel
theorem Hg:plainId "BaseException.__str__" = true:=by decide +kernel
theorem KS(self:Value):bindSpecial (.builtin "BaseException.__str__") self=pure (.builtin "BaseException.__str__",[self]) :=
 (Slot.of (T := "BaseException") (name := "__str__") (owner := "BaseException") (n := "__str__") (by rw [gV,dq];kernel_rfl) (by decide +kernel) (by decide +kernel) (by decide +kernel)
  (.inl (by decide +kernel)) (by rw [ba];kernel_rfl)).bind self
structure oX(K:vb)(h:Heap)(e cl:Addr)(m:Str)(tk:qC):Prop where
 tw:K.In h
 at_:∃o vs t0 ot n,h.get? e=some o∧o.cls=.ref cl∧o.data=.fields vs∧vs[0]?=some (.ref t0)∧h.get? t0=some ot∧ot.data=.seq #[.str m tk] n
 str:gn K (.ref cl) "__str__" = some (some (.builtin "BaseException.__str__"))
 base:uH K cl (.type "BaseException")=some true
section
variable{prog:Program} {w:World} {A:eh} {E:Value→Shared→Prop} {s:Shared} {K:vb} {e cl:Addr} {m:Str} {tk:qC}
theorem CD(x:oX K s.heap e cl m tk)(hq:Q (.done (.ret (.str m tk))) s):
  aR (aS prog w) A (eF.«BaseException.__str__» ⟨[.ref e],[]⟩) Q E s:=by
 refine VK x.at_ fun o vs t0 ot n ho _ hd h0 Ue Wf=>?_
 have RL:∀{P:Value×List Value→Shared→Prop},P (.ref t0,[.str m tk]) s→aR (aS prog w) A (bexcArgs (.ref e)) P E s:=by
  intro P hP
  unfold bexcArgs
  exact aA (dj ho hd h0 (aA (se Ue Wf (aC hP))))
 unfold eF.«BaseException.__str__»
 repeat (first | with_reducible refine RL ?_ | wp_step)
 exact hq
theorem F8(x:oX K s.heap e cl m tk)(hq:Q (.str m tk) s):aR (aS prog w) A (call (.builtin "BaseException.__str__") [.ref e]) Q E s:=by
 refine Q1 x.at_ fun o vs t0 ot n ho hc _=>?_
 have L0:pR (aS prog w) s.heap (lW (.ref e)) (.ref cl):=hc▸(sd ho).andThen .now
 have L1:=kj (M:=aS prog w) x.tw x.base
 refine eO (fR Hg F.entry_bexc_str (@ve (aS prog w) _ _ s "BaseException.__str__" "BaseException" "__str__" (.ref e) [] [] _ KR He (L0.andThen L1) (F.args_bexc_str _) ?_))
 exact CD x hq
theorem yd(x:oX K s.heap e cl m tk)(hq:Q (some (.str m tk)) s):aR (aS prog w) A (Iu (.ref e) "__str__") Q E s:=by
 refine Q1 x.at_ fun o vs t0 ot n ho hc _=>?_
 have L0:pR (aS prog w) s.heap (lW (.ref e)) (.ref cl):=hc▸(sd ho).andThen .now
 have L1:=jZ (M:=aS prog w) x.tw x.str
 delta Iu GY
 refine aA (aA (L0.here (L1.here ?_)))
 dsimp only
 rw [KS]
 refine bS (aA (aC (aA ?_)))
 exact F8 x (aC hq)
theorem CE(hu:A.units<qp)(x:oX K s.heap e cl m tk)(hq:Q (.str m tk) s):aR (aS prog w) A (zm (.ref e)) Q E s:=by
 unfold zm
 repeat (first | with_reducible refine wpAny_cRoomFor hu ?_ | with_reducible refine yd x ?_ | wp_step)
 exact hq
theorem Hh(hu:A.units+2<qp)(x:oX K s.heap e cl m tk)(h:Q (.str m tk) s):
  aR (aS prog w) A (call (.type "str") [.ref e]) Q E s :=
 callType_new F.called_str (by decide) (F.typeCall_str_1 _) (F.newCall_str_1 _) (fun obj=>F.args_object_init_2 obj _) F.entry_str_new
  (meets_str_new (S:=fun A' R s'=>A'.units+1<qp∧oX K s'.heap e cl m tk∧R (.ok (.ret (.str m tk))) s')
   fun _ _ A' _ _ hq=>CE (A:=A'.in1) hq.1 hq.2.1 hq.2.2)
  (ql (show A.units+1+1<qp from hu) x (i5 _ _ _) h)
end
end
section
section
variable{C:Cx} {dep:Nat} {KF I:IM} {st:ak} {s:Shared} {X:XP}
theorem SR.forget(ok:C.OkE dep)(S:SR C KF I st s)(hn:h'.Ns C.env.locals m')(hs:BP C.env.locals s.heap h'):SR C KF I ⟨fun _=>none,st.H⟩ { s with heap:=h',toks:=tk }:=by
 have keep:∀a o,a≠C.env.locals→s.heap.get? a=some o→h'.get? a=some o:=fun a o cx e=>(hs.2 a cx).trans e
 obtain ⟨⟨m,hn0,h1⟩,h2,h3,h4⟩:=S.loc
 refine ⟨S.kle,S.low,?_,S.base,fun a o e=>keep a o (fun q=>?_) (S.de a o e),fun a o e=>?_,S.own,fun a c' e=>?_,?_⟩
 ·(refine DV S.same fun h₀ t d e=>?_);exact (y9 h' tk d (by rw [e]))
 ·have:=(S.own a (.inl q)).1;rw [e]at this;contradiction
 ·refine ao (S.mQ a o e) fun a1 R9=>?_;(refine az R9 fun sl a2 a3=>?_;try clear R9)
  exact (lb a1 (aw sl (keep a _ (fun q=>by have:=(S.own a (.inl q)).2.1;rw [e]at this;contradiction) a2) a3))
 ·refine dO (S.mu a c' e) fun a1 a2 R9=>?_;(refine az R9 fun o a3 a4=>?_;try clear R9)
  exact (d9 a1 a2 (aw o (keep a o (fun q=>by have:=(S.own a (.inl q)).2.2;rw [e]at this;contradiction) a3) a4))
 ·have kc:∀y c' v,C.env.kindOf y=some .cell→C.env.cells.lookup y=some c'→s.heap.IsCell c' v→h'.IsCell c' v:=fun y c' v hy hl Q8=>az Q8 fun o ho hd =>
   (aw o (keep c' o (fun q=>ok.qH y hy (q▸hl)) ho) hd)
  refine ⟨(aw m' hn (fun y w hy _=>by contradiction)),fun y w hy _=>(by contradiction),fun y w hy _=>(by contradiction),fun y iJ=>?_⟩
  refine gP (h4 y iJ) fun c' v0 a1 a2=>?_
  exact (jq c' v0 a1 (kc y c' _ iJ a1 a2))
structure Wr(C:Cx)(cl:Addr):Prop where
 str:gn C.K (.ref cl) "__str__" = some (some (.builtin "BaseException.__str__"))
 base:uH C.K cl (.type "BaseException")=some true
theorem WS.Hi(ok:C.Ok dep)(hG:kQ C G)(hv:G.lookup T=some (.ref cl))(Bf:C.env.kindOf T=some .globalImplicit)
  (hs:G.lookup (aB "str")=some (.type "str")) (mW:C.env.kindOf "str" = some .globalImplicit) (mn:C.env.kindOf n=some .local) (x:AN C cl) (xs:Wr C cl)
  (h:ag C body st (fun f bJ=>match f with | .next=>ag C orelse bJ Q X | f=>Q f bJ)
   (fun x bJ=>∃t,x=⟨.ref cl,.tup [.str t]⟩∧∀bY,Q (.ret (.str t)) ⟨bY,bJ.H⟩))
  (VY:(T == ("__debug__" : Str))=false:=by decide) (hnd:(n == ("__debug__" : Str))=false:=by decide) (hnc:(n == ("__classdict__" : Str))=false:=by decide) :
  WS C (.Try body [.ExceptHandler (some (.Name T tp)) (some n) [.Return (some (.Call (.Name "str" sp) [.Name n np] [] cp)) rp] nV] orelse [] pos) st Q X:=fun I KF s S=>by
 refine Tg (aM (h I KF s S) (fun f s1 Q9=>dC Q9 fun J bJ l S1 hZ=>az hZ fun b hb q=>?_) fun e s1 W0=>jr W0 fun J x1 bJ l S1 hx hZ=>az hZ fun t ex q=>?_)
 ·cases b with
  | next =>
   clear Q9;cases hb
   exact aM (q J KF s1 S1) (fun f s2 W5=>dC W5 fun J2 cJ l2 S2 hZ=>az hZ fun b hb q=>(dK J2 cJ (l.trans l2) S2 (aw b hb q))) fun e s2 W6=>jr W6 fun J2 x cJ l2 S2 hx q=>(js J2 x cJ (l.trans l2) S2 hx q)
  | cont =>
   clear Q9;cases hb
   exact (dK J bJ l S1 (aw (.cont) rfl q))
  | brk =>
   clear Q9;cases hb
   exact (dK J bJ l S1 (aw (.brk) rfl q))
  | ret c =>
   refine az hb fun u' G8 r'=>?_;try clear hb;clear Q9;obtain rfl:=G8
   exact (dK J bJ l S1 (aw (.ret c) (aw u' rfl r') q))
 ·subst ex
  refine cf ok.toOkE S1 hx fun s2 S2 x2=>?_
  refine gR ok.toOkE S2 x2 fun s3 S3 x3=>?_
  refine Lr (id x3) fun ea oe vs ta tb G3 _=>?_;clear W0 hx x2;obtain rfl:=G3
  refine N7 x.at_ fun nm qn Nn bs hdct sn sub ab col dd R9=>?_;(refine UL R9 fun k0 k1 k2 k3 k5 mN hC _=>?_;try clear R9)
  have NC:(C.mk' (.ref ea)).OkE dep:=ok.mark
  refine wpAny_handleBy_cons (codeAny_handlers_test (aM (qz (A:=C.A.mark (some (.ref ea))) (E:=fun _ _=>False) ok.toOkE S3 hG hv Bf VY) (fun c s4 W7=>ao W7 fun e1 e2=>?_) fun _ _ q=>q.elim)) (by intro q;contradiction)
  subst e1 e2
  refine VK (id x3) fun ZF oe' BL ta' tb' e5 hf5 he5 hc5 hd5 R9=>?_;(refine dO R9 fun h05 hv5 _=>?_;try clear R9)
  clear hf5;cases e5
  clear W7;obtain ⟨hp3,g3,d3,tk3,os3⟩:=s4
  refine wpAny_excMatches_sub_self (bm:=[.type "ValueError",.type "Exception",.type "BaseException",.type "object"]) (nm:=nm) (q:=qn) (N:=Nn) (bs:=bs) (hdct:=hdct) (sn:=sn) (sub:=sub) (ab:=ab) (col:=col) (dd:=dd) (k0:=k0) (k1:=k1) (k2:=k2) (k3:=k3) (k5:=k5) (newId := "ValueError.__new__") (S3.de _ _ (S3.base _ _ hC)) he5 hc5 (by decide +kernel) ?_
  refine codeAny_handlers_suite_as ?_
  refine gR (C:=C.mk' (.ref ea)) NC S3.mark x3 fun s5 S5 x5=>?_
  refine Q1 (id x5) fun ea6 Ug Ws ta6 tb6 e6 G2 R9=>?_;(refine dO G2 fun hf6 hk6 hi6=>?_;try clear G2);(refine Jb R9 fun he6 hc6 Wt h06 ZG _=>?_;try clear R9)
  cases e6
  have hH6:bJ.H ea=none:=by
   cases hq:bJ.H ea with
   | none=>rfl
   | some c =>
    refine dO (S5.mu _ _ hq) fun _ _ R9=>?_;(refine az R9 fun o7 RM hr7=>?_;try clear R9)
    rw [he6]at RM
    obtain rfl:=aE RM
    have ht:c.si=false:=by
     cases ht:c.si with
     | false=>rfl
     | true=>exact absurd ((S5.low.2 _ _ hq).2 ht) hf6.2
    exact absurd Wt (OR.zt hr7 ht Ws)
  have hO6:¬(C.mk' (.ref ea)).Own ea:=fun hq=>by
   refine az (S5.sj NC hq) fun o7 RM hn7=>?_
   rw [he6]at RM
   obtain rfl:=aE RM
   exact hn7 Ws Wt
  have SK:=S5.tU he6 hi6 hk6 hH6 hO6
  refine aM (qx (C:=C.mk' (.ref ea)) (X:=fun _ _=>False) (Q:=fun aj=>aj=bJ.put n (.raw (.ref ea))) (c:=.raw (.ref ea)) NC (by show cg (C.env.kindOf n)=true;rw [mn];rfl) rfl J (.ref ea) rfl (df KF ea Ug) _ SK) (fun _ s7 W8=>dC W8 fun J7 NH l7 S7 e7=>?_) fun _ _ W9=>jr W9 fun _ _ _ _ _ _ q=>q.elim
  subst e7
  have Gp:aR (aS C.prog C.w) (C.A.mark (some (.ref ea))) (execs [.Return (some (.Call (.Name "str" sp) [.Name n np] [] cp)) rp] C.env) (fun f s8=>∃J8 UN,fq J7 J8∧f=.ret (.str t UN)∧SR (C.mk' (.ref ea)) (df KF ea Ug) J8 (bJ.put n (.raw (.ref ea))) s8) (fun _ _=>False) s7:=by
   simp only [D9,zM]
   refine aA (aA (ej (aA ?_)))
   show aR _ _ (do sb cp (← gK (.Name "str" sp) C.env) [] (j5 cp (eA [.Name n np] C.env)) (eU cp (cX [] C.env))) _ _ s7
   refine aA (aM (qz (C:=C.mk' (.ref ea)) (A:=C.A.mark (some (.ref ea))) (E:=fun _ _=>False) NC S7 hG hs mW (by decide)) (fun c s8 R0=>ao R0 fun e1 e2=>?_) fun _ _ q=>q.elim)
   clear W8 R0;subst e1 e2
   refine nA (P:=fun h=>C.K.In h) rfl bu.type (aM (k6 (C:=C.mk' (.ref ea)) (X:=fun _ _=>False) (kws:=[]) (Q:=fun as ks cJ=>as=[.raw (.ref ea)]∧ks=[]∧cJ=bJ.put n (.raw (.ref ea))) (es:=[.Name n np]) (st:=bJ.put n (.raw (.ref ea))) (f:=.type "str") (pos:=cp) (WE.name (C:=C.mk' (.ref ea)) ok.kY bP (d9 rfl rfl rfl) (by show yB (C.env.kindOf n)=true;rw [mn];rfl) hnd hnc) rfl rfl J7 (df KF ea Ug) s8 S7)
    (fun a s9 R1=>dC R1 fun J9 Yp l9 S9 hZ=>UG hZ fun as ks vs9 r1 e r2 q1 q2 q3=>⟨?_,?_⟩) fun _ _ R2=>jr R2 fun _ _ _ _ _ _ q=>q.elim)
   ·exact ok.K.keeps fun b o e=>S9.de b o (S9.base b o e)
   subst q1 q2 q3
   have h0:=r2.dQ
   clear r2;subst h0
   refine dC r1.cO fun v us e9 rv M5=>?_
   have h0:=M5.dQ
   clear M5;subst h0
   subst rv
   rw [e,e9]
   refine ao (S9.mQ ea Ug cw) fun _ R9=>?_;(refine az R9 fun sl ho9 hsl9=>?_;try clear R9)
   have ZH:=ZG.mono ((l7.trans l9))
   refine j7 ZH fun t0 n0 PJ G5 R9=>?_;try clear ZH;clear ZG;obtain rfl:=G5;(refine ao R9 fun hi0 Dm=>?_;try clear R9)
   refine dC Dm.cO fun y ys exs ry ZI=>?_
   have h0:=ZI.dQ
   clear ZI;subst h0
   refine cG ry fun tk G8=>?_;try clear ry;obtain rfl:=G8
   have Wu:PJ=#[.str t tk]:=by
    apply tj.mp
    rw [exs]
   have hu:=ok.units
   refine Hh (K:=C.K) (cl:=cl) (m:=t) (tk:=tk) (by show C.A.units+2<qp;exact T3 [.t (.a (.a .x (.m 10 .y)) (.n 200)) .z] (.t (.a .x (.n 2)) .z) tA hu) ⟨ok.K.keeps fun b o e=>S9.de b o (S9.base b o e),(V55 _ Ws t0 _ n0 ho9 hc6 Wt h06 (S9.de _ _ hi0) (by rw [Wu])),xs.str,xs.base⟩ ?_
   exact aC (aC (dK J9 tk l9 rfl S9))
  refine aM Gp (fun f s8 R3=>dC R3 fun J8 UN l8 ef S8=>?_) fun _ _ q=>q.elim
  clear R3;subst ef
  obtain ⟨⟨m8,hn8,_⟩,_⟩:=S8.loc
  have zb:(C.env.scope.kind == .class||(C.env.scope.kind == .module&&C.env.locals != C.env.globals))=false:=by rw [ok.kY];rfl
  refine wpAny_nameGoes (n:=n) mn hn8 zb fun h9 m9 hn9 hs9=>?_
  have S9:=SR.forget (C:=C.mk' (.ref ea)) NC S8 (tk:=s8.toks+1) hn9 hs9
  exact (dK J8 _ (l.trans (l7.trans l8)) ((S9.g7 (dt hk6) S5.kle).unmark) (aw (.ret (.str t)) (aw _ rfl (dA _ rfl)) (q _)))
end
end
section
noncomputable def iO(D:List (List Str))(key:List Str)(br:Bool)(e:Nat)(co:Str):CV :=
 if key∈D then .str (mX (lO key) co)else if br then .tup [.int ((e:Int)+1),.tup (key.map .str)]else .str (mX yY co)
noncomputable def pG(src:Str)(e:Nat):Bool:=decide (e+(aB "]").length≤src.length)&&pX src (aB "]") e
section
variable{C:Cx} {dep:Nat} {X:XP} {B S W:Str→Bool}
structure Header(B S W:Str→Bool)(src:Str)(i:Nat)(key:List Str)(e:Nat)(co:Str):Prop where
 len:src.length≤2 ^ 20
 start:i<src.length
 parts:∃nm ns j,key=nm::ns∧iu B S src (sk W src (i+1)) nm j∧j≤src.length∧mm B S W src (sk W src j) ns e
 RN:key.length≤900
 signs:∀(p c:Nat),src.cps[p]?=some c→eS (.str ⟨#[c]⟩)=true
 end_:e≤src.length
 RO:iN src e co
 short:co.length≤2 ^ 22
 names:∀k∈key,k∈bC
 shown:(iM (key.map .str)).length≤2 ^ 20
theorem Nq(L:LX C B S W)(ok:C.Ok (dep+7))(hk:HK C (ax (bK 42)))
  (hH:H C.tb=some (.fu gC ke)) (pC:¬Own C.tb) (hd:Header B S W src i key e co) (O:OW H o D M Own)
  (yZ:key∈D→∀bY,Q (.ret (iO D key (pG src e) e co)) ⟨bY,H⟩)
  (iq:key∉D→∀bY H' M' fw,OW H' o (key::D) M' fw→t7 H H' Own fw→gk M M' [] key→Q (.ret (iO D key (pG src e) e co)) ⟨bY,H'⟩) :
  ag C (bodyOf (bK 42)) ⟨fun y=>([("text" : Str), "place", "out"].zip [.str src,.int i,.fy 313 [.loc o.x2,.loc o.x]]).lookup y,H⟩ Q X:=by
 refine j7 hd.parts fun nm ns j G5 R9=>?_;obtain rfl:=G5;(refine dO R9 fun hp hj iJ=>?_)
 have hlen:=hd.RN
 simp only [af]at hlen
 refine ag.cons (WS.Hi ok L.g (cl:=150) rfl (by rw [hk];rfl) rfl (by rw [hk];rfl) (by rw [hk];rfl) L.x ⟨L.Nm.1,L.Nm.2⟩ ?_)
 refine ag.cons (WS.ret (WE.call ok (WE.glob ok L.g rfl (cB _ rfl L.MO ?_) (by rw [hk];rfl))))
 refine WE.nm ok hk (v:=.str src) rfl (WE.nm ok hk (v:=.int i) rfl (WE.nm ok hk (v:=.fy 313 [.loc o.x2,.loc o.x]) rfl ?_))
 refine L.rule.call ok (by decide +kernel) rfl rfl fun C' j9 sm oQ=>?_
 refine Np (dep:=dep) (L.same sm) j9 oQ (by rw [sm.tb];exact hH) (by rw [sm.tb];exact pC) hd.len hd.start hp hj iJ (by assumption) hd.signs hd.end_ hd.RO hd.short hd.names hd.shown O (fun hD bY=>?_) fun hD bY H' M' fw O' K' hN=>?_
 ·refine (aw _ rfl (fun Nr=>?_))
  have:=yZ hD Nr
  unfold iO at this
  rw [if_pos hD]at this
  exact this
 ·have:=iq hD
  unfold iO at this
  rewrite [if_neg hD]at this
  show if pG src e=true then _ else _
  cases hb:pG src e with
  | true =>
   rw [hb]at this
   exact this _ H' M' fw O' K' hN
  | false =>
   rw [hb]at this
   exact (aw _ rfl (fun Nr=>this Nr H' M' fw O' K' hN))
theorem uw{src co:Str}{i e:Nat}{key:List Str}{o:wI}{D:List (List Str)}{M:TN}{st:ak}(L:LX C B S W)(ok:C.Ok (dep+8))
  (hH:st.H C.tb=some (.fu gC ke)) (pC:¬Own C.tb) (hd:Header B S W src i key e co) (O:OW st.H o D M Own)
  (yZ:key∈D→Q (iO D key (pG src e) e co) st)
  (iq:key∉D→∀H' M' fw,OW H' o (key::D) M' fw→t7 st.H H' Own fw→gk M M' [] key→Q (iO D key (pG src e) e co) ⟨st.lo,H'⟩) :
  aW C (.ref 429) [.str src,.int i,.fy 313 [.loc o.x2,.loc o.x]] [] [] st Q X:=by
 refine L.told.call ok (by decide +kernel) rfl rfl fun C' j9 sm hk=>?_
 exact Nq (dep:=dep) (L.same sm) j9 hk (by rw [sm.tb];exact hH) (by rw [sm.tb];exact pC) hd O (fun hD bY=>yZ hD) fun hD bY H' M' fw O' K' hN=>iq hD H' M' fw O' K' hN
end
end
section
theorem sH:aV (aV H a c) a d=aV H a d:=by
 funext b;simp only [aV];split <;> rfl
theorem F9(h:H a=bw):eo (aV H a c) a=H:=by
 funext b;simp only [aV,eo];split
 ·rename_i e;subst e;exact h.symm
 ·rfl
section
variable{C:Cx} {dep:Nat} {st:ak} {X:XP} {Q:CV→ak→Prop}
theorem W2.Nt(hm:IntMulOk a b)(h:Q (.int (a*b)) st):W2 C (mj .Mult) (.int a) (.int b) st Q X:=GI fun I t t' KF s S=>by
 exact PySem.P.mul_int (pq (.int _) (S.toks _) (dA _ rfl) h) hm
theorem W2.KU(hb:0<b)(hs:b<2 ^ 30)(h:Q (.int (a / b)) st):W2 C (pP .FloorDiv) (.int a) (.int b) st Q X:=GI fun I t t' KF s S=>by
 refine ifloordiv_int (DE hb) ?_ (Or.inl (zP (Lq hb hs)))
 rw [zQ _ (gw hb)]
 exact (pq (.int _) (S.toks _) (dA _ rfl) h)
theorem CG{Q:CF→ak→Prop}(ok:C.Ok dep)(hk:HK C (ax (bK 40)))(L:kQ C G6)
  (e:∃t it fb fo fp,(bodyOf (bK 40)).getD 1 (.Pass default)=.For t it fb fo fp∧fb.getD 1 (.Pass default)=.While test body orelse pos)
  {ds:List Int} {x:Int} {lo:Str→Option CV} (hl:ds.length≤90) (h0:lo "digits_v" = some (.loc a)) (hx:lo "x" = some (.int x)) (hd:∀d∈ds,0≤d∧d<18)
  (hq:∀(lj:List Int) bY,lj.length≤90→(∀d∈lj,0≤d∧d<18)→bY "digits_v" = some (.loc a)→Q .next ⟨bY,aV H a (.list (lj.map .int))⟩) :
  WS C (.While test body orelse pos) ⟨lo,aV H a (.list (ds.map .int))⟩ Q X:=by
 refine Lr e fun t it fb fo fp e1 e2=>?_;try clear e
 cases e1
 cases e2
 refine WS.uO ok (fun n st=>∃(ds:List Int) (x:Int) (lo:Str→Option CV),n=90-ds.length∧ds.length≤90∧lo "digits_v" = some (.loc a)∧lo "x" = some (.int x)∧(∀d∈ds,0≤d∧d<18)∧st=⟨lo,aV H a (.list (ds.map .int))⟩) _ (DW ds x lo rfl hl h0 hx hd rfl) ?_
 rintro n bJ R4
 refine j7 R4 fun ds x lo G5 R9=>?_;try clear R4;obtain rfl:=G5;(refine wB R9 fun hl h0 hx hd G4=>?_;try clear R9;obtain rfl:=G4)
 refine WT.ez (WE.call ok (WE.glob ok L (v:=.builtin "len") rfl (cB _ rfl bu.builtin ?_) (by rw [hk];rfl)))
 refine WE.nm ok hk h0 (aW.ud (cs:=ds.map .int) (by simp [aV]) (by simp;(exact aJ (by assumption) (by decide))) (WE.int (W2.ltI (iW.bool ⟨fun hc=>?_,fun hc=>?_⟩))))
 ·rewrite [cP,decide_eq_true_eq]at hc
  refine ag.cons (WS.expr ok (WE.lH ok (WE.nm ok hk h0 (cB _ bu.builtin (eX.oP (cs:=ds.map .int) (by simp [aV]) fB fC) ?_))))
  refine WE.binop (WE.nm ok hk hx (WE.int (W2.NO (au _) (aW.append (cs:=ds.map .int) (by simp [aV]) (by simp;(exact aJ (by assumption) (by decide))) ⟨rfl,?_⟩))))
  dsimp only
  rw [sH,show ds.map CV.int++[CV.int (x % 18)]=(ds++[x % 18]).map .int by simp]
  have yL:∀d∈ds++[x % 18],0≤d∧d<18:=fun d m=>by
   rcases aZ.mp m with m | m
   ·exact hd d m
   ·rw [bG]at m;subst m;exact ⟨ou _ (by decide),iS _ (by decide)⟩
  refine ag.cons (WS.aug ok (by rw [hk];rfl) (WE.nm ok hk (v:=.int x) hx (WE.int (W2.KU (au _) (au _) ?_))))
  refine ag.cons (WS.oK (WT.ez (WE.nm ok hk rfl (WE.int (W2.Yr (iW.bool ⟨fun _=>ag.cons (WS.brk ?_),fun _=>ag.nil (ag.nil ?_)⟩))))))
  ·exact hq _ _ (by simp;exact T1 [.t .x (.n 90)] (.l .x (.n 89)) tA (cD.mp hc)) yL h0
  ·exact (aw _ (by simp;exact T1 [.u (.n 89) .x,.u (.n 90) .y,.t .z (.n 90)] (.t .y .x) tA (cD.mp hc)) (DW (ds++[x % 18]) (x / 18) (dU lo "x" (.int (x / 18))) rfl (by simp;exact T1 [.t .x (.n 90)] (.l .x (.n 89)) tA (cD.mp hc)) h0 rfl yL rfl))
 ·exact ag.nil (hq ds lo hl hd h0)
theorem xS{Q:CF→ak→Prop}(ok:C.Ok dep)(hk:HK C (ax (bK 40)))(L:kQ C G6)
  (e:∃t it fb fo fp,(bodyOf (bK 40)).getD 1 (.Pass default)=.For t it fb fo fp∧fb.tail=rest)
  {ds:List Int} {x y:Int} {lo:Str→Option CV} (hl:ds.length≤90) (h0:lo "digits_v" = some (.loc a)) (hd:∀d∈ds,0≤d∧d<18)
  (hq:∀(lj:List Int) bY,lj.length≤90→(∀d∈lj,0≤d∧d<18)→bY "digits_v" = some (.loc a)→Q .next ⟨bY,aV H a (.list (lj.map .int))⟩) :
  ag C rest ⟨dU (dU lo "x" (.int x)) "x" (.int y),aV H a (.list (ds.map .int))⟩ Q X:=by
 refine Lr e fun t it fb fo fp e1 e2=>?_;try clear e
 cases e1
 subst e2
 exact ag.cons (CG ok hk L (VJ _ _ _ _ _ rfl rfl) hl h0 rfl hd fun lj bY Ji yL Nu=>ag.nil (hq lj bY Ji yL Nu))
theorem Hj{t:Expr}{body:List Stmt}{Q:CF→ak→Prop}(ok:C.Ok dep)(hk:HK C (ax (bK 40)))(L:kQ C G6){H:CH}{a:Addr}(e:∃it o p,(bodyOf (bK 40)).getD 1 (.Pass default)=.For t it body o p):
  ∀(xs:List Int) (ds:List Int) (lo:Str→Option CV),ds.length≤90→lo "digits_v" = some (.loc a)→(∀d∈ds,0≤d∧d<18) →
   (∀(lj:List Int) bY,lj.length≤90→(∀d∈lj,0≤d∧d<18)→bY "digits_v" = some (.loc a)→Q .next ⟨bY,aV H a (.list (lj.map .int))⟩) →
   ll C t body [] (xs.map .int) ⟨lo,aV H a (.list (ds.map .int))⟩ Q X:=by
 revert e;intro R8;refine DV R8 fun it o pp e=>?_;try clear R8
 cases e
 intro xs
 induction xs with
 | nil=>intro ds lo hl h0 hd hq;exact ag.nil (hq ds lo hl hd h0)
 | cons x xs ih =>
  intro ds lo hl h0 hd hq
  refine WA.nm ok hk ?_
  refine ag.cons (WS.bE (WE.xA (WT.ez (WE.nm ok hk rfl (WE.int (W2.Ys (iW.bool ?_)))))))
  split
  ·exact WE.binop (WE.int (WE.nm ok hk (v:=.int x) rfl (W2.Nt (ri (by decide +kernel)) (WA.nm ok hk (xS ok hk L (VJ _ _ _ _ _ rfl rfl) hl h0 hd fun lj bY Ji yL Nu=>ih lj bY Ji Nu yL hq)))))
  ·exact WE.binop (WE.binop (WE.C7 (WE.nm ok hk (v:=.int x) rfl (W2.Nt (ri (by decide +kernel)) (WE.int (W2.NN (WA.nm ok hk (xS ok hk L (VJ _ _ _ _ _ rfl rfl) hl h0 hd fun lj bY Ji yL Nu=>ih lj bY Ji Nu yL hq))))))))
theorem Hk{xs:List Int}{H:CH}{Q:CF→ak→Prop}(ok:C.Ok dep)(hk:HK C (ax (bK 40)))(L:kQ C G6)
  (hq:∀(ds:List Int) bY,11≤ds.length→ds.length≤101→(∀d∈ds,0≤d∧d<18)→Q (.ret (.lst (ds.map .int))) ⟨bY,H⟩) :
  ag C (bodyOf (bK 40)) ⟨fun y=>([("script" : Str)].zip [CV.lst (xs.map .int)]).lookup y,H⟩ Q X:=by
 refine ag.cons (WS.bE (WE.list ⟨by simp,fun a ha=>WA.nm ok hk ?_⟩))
 refine ag.cons (WS.Be ok (WE.nm ok hk (v:=.lst (xs.map .int)) rfl (aw _ du.lst ?_)))
 refine Hj ok hk L (y9 _ _ _ rfl) xs [] _ (by simp) rfl (by decide) fun ds bY hl hd h0=>?_
 refine ag.freeze h0 (cs:=ds.map .int) (by simp [aV]) ?_
 dsimp only
 rw [F9 ha]
 refine ag.cons (WS.ret (WE.binop (WE.nm ok hk rfl (WE.A6 ?_))))
 refine WE.int (WE.int (WE.int (WE.int (WE.int (WE.int (WE.int (WE.int (WE.int (WE.int (WE.int ⟨by decide,W2.Vn (by (dsimp [iF,iT,iG,iU,iH,iV,nT,nF,aT,aF,oT,oF];simp);(exact aJ (by assumption) (by decide))) ?_⟩))))))))))
 have:=hq (ds++[0,3,10,7,0,1,5,13,17,14,9]) (dU bY "digits_v" (.lst (ds.map .int))) (by simp) (by simp;exact T1 [.l .x (.n 90)] (.l .x (.n 90)) tA hl) fun d m=>by
  rcases aZ.mp m with m | m
  ·exact hd d m
  ·exact (show ∀d∈([0,3,10,7,0,1,5,13,17,14,9]:List Int),0≤d∧d<18 by decide) d m
 rw [dz]at this
 exact this
end
end
section
theorem ye{w:World}{I:IM}:∀{es:List (Str×CV)} {ds:List ew},DX w I es ds→jd w I es ds
 | [],ds,r=>by simpa [DX,jd]using r
 | (k,c)::es,ds,r=>by
  simp only [DX]at r
  refine gP r fun d lj G7 R9=>?_;try clear r;obtain rfl:=G7;(refine ip R9 fun h1 h2 h3 h4=>?_;try clear R9)
  simp only [jd]
  exact (Jc d lj rfl h1 h2 h3 (ye h4))
section
variable{C:Cx} {dep:Nat} {KF I:IM} {st:ak} {s:Shared} {X:XP} {Q:CV→ak→Prop}
theorem Hl{es:List (Str×CV)}{v:Value}(S:SR C KF I st s)(r:VR I (.x9 C.w es) v)(hnd:(es.map (·.1)).Nodup):
  ∃d fg,v=.ref d∧(d == fX)=false∧s.heap.DictOf (strKind C.prog C.w) d fg∧fg.map (·.1)=es.map (·.1)∧ck I (es.map (·.2)) (fg.map (·.2))∧∃ds n,I d=some ⟨.type "dict",.none,.dict ds n,#[]⟩:=by
 refine j7 r fun d ds n G5 R9=>?_;try clear r;obtain rfl:=G5;(refine dO R9 fun hl hi he=>?_;try clear R9)
 refine ao (rA (prog:=C.prog) (ye he)) fun h1 R9=>?_;(refine eZ R9 fun fg h2 h3 h4=>?_;try clear R9)
 exact (Ox d fg rfl (by simpa using cW hl) (DW _ ds n (S.de _ _ hi) (d9 rfl rfl rfl) rfl (by simpa using h1) h2 (by rw [h3];exact hnd)) h3 h4 (Py ds n hi))
theorem W2.RP(hnd:(es.map (·.1)).Nodup)(h:Q (.bool (es.lookup k).isSome) st):W2 C (cI .In) (.str k) (.x9 C.w es) st Q X:=fun I v u r1 r2 KF s S=>by
 refine gP (Hl S r2 hnd) fun d fg G7 R9=>?_;clear r2;obtain rfl:=G7;(refine wB R9 fun RQ hm e r _=>?_;try clear R9)
 refine cG r1 fun t G8=>?_;try clear r1;obtain rfl:=G8
 refine wpAny_in_of (mV C k t) RQ (jH hm) ?_
 have hv:=lz (k:=k) e r
 refine (pq (.bool (es.lookup k).isSome) (S.toks _) ?_ h)
 revert hv
 cases es.lookup k with
 | none=>intro hv;rw [hv];rfl
 | some c=>rintro ⟨v,hv,_⟩;rw [hv];rfl
theorem W2.yf(hnd:(es.map (·.1)).Nodup)(hc:es.lookup k=some c)(h:Q c st)
  (vn:∀o i,ki slice false o i=operate [o,i] (kX o i):=by intros;rfl):W2 C (ia value slice) (.x9 C.w es) (.str k) st Q X:=fun I v u r1 r2 KF s S=>by
 refine gP (Hl S r1 hnd) fun d fg G7 R9=>?_;clear r1;obtain rfl:=G7;(refine wB R9 fun RQ hm e r _=>?_;try clear R9)
 refine cG r2 fun t G8=>?_;try clear r2;obtain rfl:=G8
 have hv:=lz (k:=k) e r
 rw [hc]at hv
 revert hv;intro R8;refine az R8 fun v hv rv=>?_;try clear R8
 exact sa hm.typeIs PZ.lookup (Tq (mV C k t) (jH hm) hv (pq c (S.toks _) rv h)) (vn _ _)
theorem aW.yg(h:Q (.raw (.type "dict")) st):aW C (.type "type") [.x9 C.w es] [] [] st Q X:=JI fun I a ra KF s S=>by
 refine j7 ra fun d ds n G5 R9=>?_;try clear ra;obtain rfl:=G5;(refine dO R9 fun hl hi he=>?_;try clear R9)
 exact call_type_of (aw _ (S.de _ _ hi) rfl) (by decide) (pq (.raw (.type "dict")) S rfl h)
theorem aW.RR(hH:st.H a=some (.dict es))(h:Q (.raw (.type "dict")) st):aW C (.type "type") [.loc a] [] [] st Q X:=JI fun I v ra KF s S=>by
 subst ra
 refine dO (S.mu a _ hH) fun _ _ R9=>?_;obtain ⟨o,ho,n,ds,rfl,_⟩:=R9
 exact call_type_of (aw _ ho rfl) (by decide) (dK I st (.refl I) S ⟨.raw (.type "dict"),rfl,h⟩)
theorem W2.KV(h:Q (.bool (dw x == dw y)) st):W2 C (cI .Is) (.raw (.type x)) (.raw (.type y)) st Q X:=fun I v u r1 r2 KF s S=>by
 skip;subst r1;subst r2
 exact wpAny_is_plain rfl (pq (.bool _) S rfl h)
theorem W2.RS(ok:C.Ok dep)(hH:st.H a=some (.list cs))(h:Q (.bool (!cs.isEmpty)) st):W2 C (cI .NotEq) (.loc a) (.lst []) st Q X:=fun I v u r1 r2 KF s S=>by
 skip;subst r1
 refine dC (rC S hH) fun n xs ho hr e=>?_
 refine j7 r2 fun b m ys G5 R9=>?_;try clear r2;obtain rfl:=G5;(refine ao R9 fun hi vm=>?_;try clear R9)
 have hy:ys=#[]:=by have:=vm.dQ;simpa using this
 clear vm;subst hy
 have hu:C.A.units<qp:=by have:=ok.units;exact T3 [.t (.a (.a .x (.m 10 .y)) (.n 200)) .z] (.t .x .z) tA this
 have l1:s.heap.IsList a xs:=(cB _ ho rfl (dA n rfl))
 have l2:s.heap.IsList b #[]:=(cB _ (S.de _ _ hi) rfl (dA m rfl))
 have go:∀q:Bool,q=(!cs.isEmpty)→∃I' aj,fq I I'∧SR C KF I' aj s∧∃c,VR I' c (.bool q)∧Q c aj:=fun q hq=>(pq (.bool q) S rfl (by rw [hq];exact h))
 cases cs with
 | nil =>
  have hx:xs=#[]:=by simpa using e.symm
  clear ho hr e;subst hx
  exact V7 l1 l2 rfl hu (e:=fun _=>true) (fun j h1 _=>absurd h1 (by simp)) C.prog C.w _ _ (go _ rfl)
 | cons c cs =>
  refine V8 l1 l2 ?_ hu C.prog C.w _ _ (go _ rfl)
  have e0:(#[]:Array Value).size=0:=rfl
  rw [e0,← e]
  rfl
theorem Hm(cx:it≠d)(mW:fg.map (·.1)=ks)(ho:∀h:Heap,h.get? d=some o→h.DictAt (strKind C.prog C.w) d fg ep):
  Tf C.prog C.w (ks.map .str) it (fun i J h=>h.IsKeyIter it d i fg.length ep∧J d=some o∧h.get? d=some o):=by
 have len:(ks.map CV.str).length=fg.length:=by rw [← mW];simp
 refine ⟨fun A J s i c E Q S W9 hc k=>dO W9 fun h1 h2 yD=>?_,fun A J s E Q hA S R0 k=>dO R0 fun h1 h2 yD=>?_,fun J J' h h' i R1 l k1 k2=>dO R1 fun h1 h2 yD=>?_,fun A J s i E Q R2 q=>ao R2 fun h1 _=>wpAny_pyIter_keyiter h1 q,fun J h i R3=>ao R3 fun hZ _=>eZ hZ fun o h1 h2 _=>(dK o _ h1 h2 (by decide +kernel))⟩
 ·rw [← mW,cm,cH]at hc
  refine cG (dJ.mp hc) fun G9 R9=>?_;obtain ⟨k',v⟩:=G9;(refine ao R9 fun hx e=>?_;try clear R9)
  simp only [Function.comp]at e
  clear hc;subst e
  refine wpAny_pyNext_dict_item h1 (ho _ yD) hx fun key h' hk hit hs=>?_
  refine cG (qZ (show d7 k' key=true from hk)) fun t G8=>?_;clear hk;obtain rfl:=G8
  refine k h' s.toks _ (d9 hit h2 ((hs.2 d (aN cx)).trans yD)) (dA _ rfl) (fun b o hb e=>(hs.2 b hb).trans e) ?_
  (refine az hit fun o ho _=>?_;try clear hit);exact (dA o ho)
 ·rw [len]at h1
  refine wpAny_pyNext_dict_end hA h1 (ho _ yD) (by simp) fun h' hs=>k h' s.toks fun b o hb e=>hs b o hb e
 ·exact (d9 (h1.at k1) (l _ _ h2) (k2 _ _ h2 yD))
theorem du.x9{es:List (Str×CV)}(hnd:(es.map (·.1)).Nodup):du C (.x9 C.w es) st (es.map fun p=>.str p.1):=fun I v r A KF s E Q S k=>by
 refine j7 r fun d ds n G5 R9=>?_;try clear r;obtain rfl:=G5;(refine dO R9 fun hl hi he=>?_;try clear R9)
 refine ao (rA (prog:=C.prog) (ye he)) fun h1 R9=>?_;(refine eZ R9 fun fg h2 h3 h4=>?_;try clear R9)
 have ZJ:∀h:Heap,h.get? d=some ⟨.type "dict",.none,.dict ds n,#[]⟩→h.DictAt (strKind C.prog C.w) d fg n:=fun h hd=>(Ox _ ds hd (d9 rfl rfl rfl) rfl (by simpa using h1) h2 (by rw [h3];exact hnd))
 have hd:=S.de _ _ hi
 refine wpAny_pyIter_dict (knd:=strKind C.prog C.w) (by simpa using cW hl) (ZJ _ hd) ?_
 have cx:s.heap.objs.size≠d:=cW (av hd)
 have hg:=cR s.heap (o:={ cls:=.type "dict_keyiterator",data:=.fields #[.ref d,.int 0 0,.int fg.length 0,.int n 0] }) rfl
 have e:(es.map fun p=>CV.str p.1)=(es.map (·.1)).map .str:=by rw [cm];rfl
 rw [e]at k
 exact k _ s.toks _ _ (Hm cx h3 ZJ) (d9 (cB _ hg rfl rfl) hi (aX _ hd)) (gQ _) (dA _ hg) fun b o e=>aX _ e
theorem aW.KY(hH:st.H a=some (.list (cs++[c])))(hs:cs.length≤2 ^ 23)(h:Q c { st with H:=aV st.H a (.list cs) }):aW C (.builtin "list.pop") [.loc a] [] [] st Q X:=JI fun I x ra KF s S=>by
 skip;subst ra
 refine dC (rC S hH) fun n xs ho hr e=>?_
 rw [bh,dZ]at e
 refine az (hr.get (i:=cs.length) (c:=c) (by simp)) fun y hy ry=>?_
 have hy':xs[xs.size-1]?=some y:=by rw [← e];simpa using hy
 refine Oe zo (aw _ ho rfl) PySem.F.entry_list_pop (PySem.F.args_list_pop_1 _) (Pg a xs n y hy' (by rw [aa];exact T2 [.l .x (.n 8388608),.e (.a .x .o) .y] (.l .y (.n 16777216)) tA hs e)) ⟨ho,?_⟩
 have hr2:ck I cs xs.pop.toList:=by
  have:=hr.take cs.length
  rw [xv]at this
  have e2:xs.pop.toList=xs.toList.take cs.length:=by
   simp only [Array.toList_pop,jM];congr 1;simp;exact T2 [.u .y .o,.e (.a .y .o) .z] (.e .x .y) tA e
  rw [e2];exact this
 have e3:xs.eraseIdxIfInBounds (xs.size-1)=xs.pop:=Copied.erase_last_eq_pop xs
 exact (pq c (list_set S hH ho e3 hr2 s.toks) ry h)
end
end
section
noncomputable def Wv(w:World)(N:TN):Nat→List Str→CV
 | 0,_=>.none
 | f+1,p=>match N p with
  | none=>.none
  | some nd=>.x9 w (nd.ks.map fun k=>(k,if k=kn then .int (nd.num.getD 0)else Wv w N f (p++[k])))
noncomputable def tv(w:World)(N:TN)(D:Nat)(p:List Str):CV:=Wv w N (D+1-p.length) p
noncomputable def mC(w:World)(N:TN)(D:Nat)(p:List Str)(nd:ie):List (Str×CV):=nd.ks.map fun k=>(k,if k=kn then .int (nd.num.getD 0)else tv w N D (p++[k]))
theorem xT(hN:N p=some nd)(hp:p.length≤D):tv w N D p=.x9 w (mC w N D p nd):=by
 unfold tv mC
 obtain ⟨f,hf⟩:∃f,D+1-p.length=f+1:=(dA (D-p.length) (T2 [.u (.a .y .o) .x,.u .z .y,.l .z .w] (.e .y (.a .x .o)) tA hp))
 rw [hf]
 unfold Wv
 rw [hN]
 simp only [CV.x9.injEq,true_and]
 refine cT fun k _=>?_
 unfold tv
 rw [bh,dZ,show D+1-(p.length+1)=f by exact T3 [.u (.a .x .o) .y,.u (.a .y .o) (.a .z .o),.e .y (.a .s .o)] (.e .x .s) tA hf]
open Classical in
noncomputable def mY(N:TN)(H:CH):CH:=fun a=>if ∃p nd,N p=some nd∧nd.da=a then none else H a
theorem xU(h:mY N H a=some c):H a=some c∧¬∃p nd,N p=some nd∧nd.da=a:=by
 unfold mY at h
 split at h
 ·contradiction
 ·rename_i q;exact ⟨h,q⟩
section
variable{C:Cx} {dep:Nat} {KF I:IM} {st:ak} {s:Shared} {X:XP}
theorem SR.qQ(S:SR C KF I st s)(T:TW st.H cl x d N ow)(hD:∀p,(N p).isSome=true→p.length≤D):
  ∃J,fq I J∧SR C KF J { st with H:=mY N st.H } s∧∀p nd,N p=some nd→VR J (tv C.w N D p) (.ref nd.da):=by
 classical
 let J:IM:=fun a=>if ∃p nd,N p=some nd∧nd.da=a then s.heap.get? a else I a
 have node:∀a,(∃p nd,N p=some nd∧nd.da=a)→I a=none∧KF a=none∧∃c,st.H a=some c:=fun a R1=>gP R1 fun p nd h1 h2=>by
  clear R1;subst h2
  refine dO (S.mu _ _ (T.dict p nd h1)) fun a1 a2 _=>?_
  exact (d9 a1 a2 (dA _ (T.dict p nd h1)))
 have l:fq I J:=fun a o e=>by
  show (if _ then _ else _)=_
  rw [if_neg]
  ·exact e
  ·intro h;rw [(node a h).1]at e;contradiction
 have Ww:∀a,I a=none→(¬∃p nd,N p=some nd∧nd.da=a)→J a=none:=fun a e h=>by
  show (if _ then _ else _)=_
  rw [if_neg h];exact e
 refine (cB J l ⟨S.kle,⟨S.low.1,fun a c h=>S.low.2 a c (xU h).1⟩,S.same,fun b o e=>l _ _ (S.base b o e),fun a o e=>?_,fun a o e=>?_,fun a ha=>?_,fun a c h=>?_,S.loc.mono l⟩ ?_)
 ·change (if _ then _ else _)=_ at e
  split at e
  ·exact e
  ·exact S.de a o e
 ·refine ao (S.mQ a o e) fun a1 a2=>?_
  refine ⟨Ww a a1 fun h=>?_,a2⟩
  rw [(node a h).2.1]at e;contradiction
 ·refine dO (S.own a ha) fun a1 a2 a3=>?_
  refine (d9 (Ww a a1 fun h=>?_) a2 ?_)
  ·(refine cG ((node a h).2.2) fun c hc=>?_);rw [hc]at a3;contradiction
  ·show mY N st.H a=none
   unfold mY;split
   ·rfl
   ·exact a3
 ·refine ao (xU h) fun h1 h2=>?_
  refine dO (S.mu a c h1) fun a1 a2 R9=>?_;(refine az R9 fun o a3 a4=>?_;try clear R9)
  exact (d9 (Ww a a1 h2) a2 (aw o a3 (OR.mono l _ _ a4)))
 ·have main:∀f p nd,D+1-p.length=f→N p=some nd→VR J (tv C.w N D p) (.ref nd.da):=by
   intro f
   induction f with
   | zero =>
    intro p nd hf hN
    have:=hD p (by rw [hN];rfl)
    exact (T2 [.u (.a .x .o) .y,.e .x (.n 0),.l .z .y] .f tA hf this:False).elim
   | succ f ih =>
    intro p nd hf hN
    have Uh:=hD p (by rw [hN];rfl)
    rw [xT hN Uh]
    refine dO (S.mu _ _ (T.dict p nd hN)) fun _ _ R9=>?_;obtain ⟨o,ho,n,ds,rfl,he⟩:=R9
    refine (js nd.da ds n rfl ((S.low.2 _ _ (T.dict p nd hN)).1) ?_ ?_)
    ·show (if _ then _ else _)=_
     rw [if_pos (jq p nd hN rfl)];exact ho
    ·unfold gD at he
     unfold mC
     have mW:∀k∈nd.ks,k≠kn→∃m,N (p++[k])=some m:=fun k hk cx=>aY.mp ((T.yR p nd k hN cx).mp hk)
     revert he mW
     generalize ds.toList=es
     generalize nd.ks=ks
     induction ks generalizing es with
     | nil=>intro he _;simpa [jd,DX]using he
     | cons k ks ihk =>
      intro he mW
      simp only [aK,jd]at he
      refine gP he fun e wJ G7 R9=>?_;try clear he;obtain rfl:=G7;(refine ip R9 fun h1 h2 h3 h4=>?_;try clear R9)
      simp only [aK,DX]
      refine (Jc e wJ rfl h1 h2 ?_ (ihk wJ h4 fun k' oQ=>mW k' (aG _ oQ)))
      by_cases q:k=kn
      ·rw [if_pos q];unfold pF at h3;rw [if_pos q]at h3
       exact h3
      ·rw [if_neg q];unfold pF at h3;rw [if_neg q]at h3
       refine cG (mW k aH q) fun m hm=>?_
       rw [h3]
       unfold ta
       rw [hm]
       exact ih (p++[k]) m (by simp only [bh,dZ];exact T3 [.u (.a .x .o) .y,.u (.a .y .o) (.a .z .o),.e .y (.a .s .o)] (.e .x .s) tA hf) hm
  exact fun p nd h=>main _ p nd rfl h
theorem aW.qQ(T:TW st.H cl x d N ow)(hD:∀p,(N p).isSome=true→p.length≤D)(hr:N []=some r)
  (h:aW C f [tv C.w N D []] [] [] { st with H:=mY N st.H } Q X):aW C f [.loc r.da] [] [] st Q X:=fun I us vs r1 r2 KF s S=>by
 refine eZ (S.qQ T hD) fun J l S' hv=>?_
 revert r1;intro R8;refine gP R8.cO fun u Yy G7 R9=>?_;try clear R8;obtain rfl:=G7;(refine ao R9 fun ra r1=>?_;try clear R9)
 have:=r1.dQ;clear r1;subst this
 subst ra
 refine aM (h J [.ref r.da] vs (.cons (hv [] r hr) .nil) (ck.mono l _ _ r2) KF s S') (fun v s' R2=>dC R2 fun J2 aj l2 S3 q=>(dK J2 aj (l.trans l2) S3 q)) fun e s' R3=>jr R3 fun J2 x aj l2 S3 hx q=>(js J2 x aj (l.trans l2) S3 hx q)
end
end
section
theorem FC(h:a≠b):aV (aV H a c) b d=aV (aV H b d) a c:=by
 funext x;simp only [aV];split <;> split <;> simp_all
noncomputable def two(H:CH)(a b:Addr)(t r:List CV):CH:=aV (aV H a (.list t)) b (.list r)
section
variable{H:CH} {a b:Addr} {t r t' r':List CV}
theorem Aa:two H a b t r b=some (.list r):=by simp [two,aV]
theorem Dx(h:a≠b):two H a b t r a=some (.list t):=by simp [two,aV,h]
theorem Ab:aV (two H a b t r) b (.list r')=two H a b t r':=sH
theorem Hn(h:a≠b):aV (two H a b t r) a (.list t')=two H a b t' r:=by
 unfold two;rw [FC (aN h),sH]
end
noncomputable def gX(w:World)(N:TN)(D:Nat)(p:List Str):CV:=.tup [.tup (p.map .str),tv w N D p]
noncomputable def gE(p:List Str)(ks:List Str):List (List Str):=(ks.filter fun k=>k≠kn).map fun k=>p++[k]
structure Og(N:TN)(ws rs:List (List Str)):Prop where
 nd:ws.Nodup
 ZK:rs.Nodup
 cZ:∀p∈ws,p≠[]∧(N p).isSome=true
 rest:∀r∈rs,r=[]∨r∈ws
 done:∀p,(p=[]∨p∈ws)→p∉rs→∀k,k≠kn→(N (p++[k])).isSome=true→p++[k]∈ws
 none_:∀r∈rs,∀k,r++[k]∉ws
 up:∀p k,p++[k]∈ws→p=[]∨p∈ws
theorem Og.start:Og N [] [[]]:=⟨by simp,by decide,by simp,by decide,by simp,by simp,by simp⟩
theorem gF:q∈gE p ks↔∃k∈ks,k≠kn∧q=p++[k]:=by
 unfold gE
 simp only [cV,ju,decide_eq_true_eq]
 constructor
 ·rintro ⟨k,⟨h1,h2⟩,rfl⟩;exact ⟨k,h1,h2,rfl⟩
 ·rintro ⟨k,h1,h2,rfl⟩;exact ⟨k,⟨h1,h2⟩,rfl⟩
theorem Og.step(T:Og N ws (rs++[p]))(hnd:ks.Nodup)(hk:∀k,k≠kn→(k∈ks↔(N (p++[k])).isSome=true)):Og N (ws++gE p ks) (rs++gE p ks):=by
 have hp:p∈rs++[p]:=by simp
 have Nv:=T.ZK
 rw [cy]at Nv
 refine dO Nv fun r1 _ r3=>?_;try clear Nv
 have mn:(gE p ks).Nodup:=by
  unfold gE
  exact List.pairwise_map.mpr ((vf _ hnd).imp fun h q=>h (fL q).2)
 have fresh:∀q∈gE p ks,q∉ws:=fun q hq=>by
  refine eZ (gF.mp hq) fun k _ _ G5=>?_;clear hq;obtain rfl:=G5
  exact T.none_ p hp k
 have RT:p∉gE p ks:=fun h=>by
  refine eZ (gF.mp h) fun k _ _ e=>?_
  exact absurd e.symm (oR p k)
 refine ⟨?_,?_,fun q hq=>?_,fun q hq=>?_,fun q hq Ui k hkk hs=>?_,fun q hq k hc=>?_,fun q k hq=>?_⟩
 ·rw [cy]
  exact (d9 T.nd mn (fun a ha b hb e=>fresh b hb (e▸ha)))
 ·rw [cy]
  refine (d9 r1 mn (fun a ha b hb e=>?_))
  subst e
  rcases T.rest a (cK _ ha)with h | h
  ·refine eZ (gF.mp hb) fun k _ _ e=>?_
   rw [h]at e;simp at e
  ·exact fresh a hb h
 ·rcases aZ.mp hq with h | h
  ·exact T.cZ q h
  ·refine eZ (gF.mp h) fun k h1 h2 G5=>?_;clear hq h;obtain rfl:=G5
   exact ⟨by simp,(hk k h2).mp h1⟩
 ·rcases aZ.mp hq with h | h
  ·rcases T.rest q (cK _ h)with h | h
   ·exact .inl h
   ·exact .inr (cK _ h)
  ·exact .inr (oy _ h)
 ·rw [aZ,not_or]at Ui
  by_cases e:q=p
  ·clear T hp r3 mn fresh RT hq Ui;subst e
   exact oy _ (gF.mpr (cB k ((hk k hkk).mpr hs) hkk rfl))
  ·refine cK _ (T.done q ?_ (by simp [Ui.1,e]) k hkk hs)
   rcases hq with h | h
   ·exact .inl h
   ·rcases aZ.mp h with h | h
    ·exact .inr h
    ·exact absurd h Ui.2
 ·rcases aZ.mp hc with h | h
  ·rcases aZ.mp hq with h' | h'
   ·exact T.none_ q (cK _ h') k h
   ·refine eZ (gF.mp h') fun j _ _ G5=>?_;clear hq hc h';obtain rfl:=G5
    rcases T.up _ k h with h2 | h2
    ·simp at h2
    ·exact T.none_ p hp j h2
  ·refine eZ (gF.mp h) fun j _ _ e=>?_
   have e':q=p:=(fL e).1
   clear T hk hp mn fresh hc h e;subst e'
   rcases aZ.mp hq with h' | h'
   ·exact r3 q h' q (by simp) rfl
   ·exact RT h'
 ·rcases aZ.mp hq with h | h
  ·rcases T.up q k h with h | h
   ·exact .inl h
   ·exact .inr (cK _ h)
  ·refine eZ (gF.mp h) fun j _ _ e=>?_
   have e':q=p:=(fL e).1
   clear hk r3 mn fresh RT hq h e;subst e'
   rcases T.rest q hp with h | h
   ·exact .inl h
   ·exact .inr (cK _ h)
theorem Og.fin(T:Og N ws [])(par:∀p k,(N (p++[k])).isSome=true→(N p).isSome=true)(mn:∀p k,(N (p++[k])).isSome=true→k≠kn):∀p,p∈ws↔p≠[]∧(N p).isSome=true:=by
 have go:∀(n:Nat) (p:List Str),p.length=n→p≠[]→(N p).isSome=true→p∈ws:=by
  intro n
  induction n with
  | zero=>intro p h1 h2;exact absurd (aP h1) h2
  | succ n ih =>
   intro p h1 h2 h3
   rw [← d8 h2]at h3 ⊢
   refine T.done _ ?_ (by simp) _ (mn _ _ h3) h3
   by_cases q:p.dropLast=[]
   ·exact .inl q
   ·exact .inr (ih _ (by simp [h1]) q (par _ _ h3))
 exact fun p=>⟨T.cZ p,fun h=>go _ p rfl h.1 h.2⟩
theorem k8(h:nd.ks.Nodup):((mC w N D p nd).map (·.1)).Nodup:=by
 have:(mC w N D p nd).map (·.1)=nd.ks:=by unfold mC;rw [cm];simp [qq]
 rw [this];exact h
theorem t8(p:List Str)(nd:ie)(k:Str):(mC w N D p nd).lookup k=if k∈nd.ks then some (if k=kn then .int (nd.num.getD 0)else tv w N D (p++[k]))else none:=by
 unfold mC
 induction nd.ks with
 | nil=>rfl
 | cons j ks ih =>
  (simp only [aK];simp only [bQ])
  by_cases q:k=j
  ·subst q;simp
  ·have q':(k == j)=false:=by simpa using q
   rw [q',ih];simp [q]
theorem t9:gE p (k::ks)=if k=kn then gE p ks else (p++[k])::gE p ks:=by
 unfold gE
 by_cases h:k=kn <;> simp [h]
theorem FD(l:List CV)(c:CV):(l++[c])[cidx (l++[c]).length (-1)]?=some c:=by
 have:cidx (l++[c]).length (-1)=l.length:=by unfold cidx;rw [bh];exact DU
 rw [this];simp
theorem MQ:∀k∈kn::bC,(!sx (.str k) (.str kn))=decide (k≠kn):=by decide +kernel
theorem Ho:∀k∈kn::bC,eS (.str k)=true:=by decide +kernel
section
variable{C:Cx} {dep:Nat} {X:XP}
theorem Ac(ok:C.Ok dep)(hk:HK C (ax (bK 41)))(L:kQ C G6)(xQ:a≠b)
  (hN:N p=some nd) (hp:p.length≤D) (hnd:nd.ks.Nodup)
  (RU:∀k∈nd.ks,k≠kn→∃m,N (p++[k])=some m∧p.length+1≤D)
  (e:∃wt wb wo wp it o pp,(bodyOf (bK 41)).getD 1 (.Pass default)=.While wt wb wo wp∧wb.getD 1 (.Pass default)=.For t it body o pp) (hD:D≤1000) :
  ∀(ks:List Str) (ws rs:List (List Str)) (lo:Str→Option CV),(∀k∈ks,k∈nd.ks∧k∈kn::bC)→ws.length+ks.length≤1000→rs.length+ks.length≤1000→lo "told" = some (.loc a)→lo "rest" = some (.loc b)→lo "way" = some (.tup (p.map .str))→lo "table" = some (tv C.w N D p) →
   (∀bY,bY "told" = some (.loc a)→bY "rest" = some (.loc b)→Q .next ⟨bY,two H a b ((ws++gE p ks).map (gX C.w N D)) ((rs++gE p ks).map (gX C.w N D))⟩) →
   ll C t body [] (ks.map .str) ⟨lo,two H a b (ws.map (gX C.w N D)) (rs.map (gX C.w N D))⟩ Q X:=by
 refine U71 e fun wt wb wo wp it o pp e1 e2=>?_;try clear e
 cases e1
 cases e2
 intro ks
 induction ks with
 | nil =>
  intro ws rs lo _ _ _ h1 h2 _ _ hq
  have:=hq lo h1 h2
  simp only [gE,Lb,List.map_nil,f9]at this
  exact ag.nil this
 | cons k ks ih =>
  intro ws rs lo mW l1 l2 h1 h2 h3 h4 hq
  refine ao (mW k aH) fun Bi Jy=>?_
  simp only [af]at l1 l2
  refine WA.nm ok hk ?_
  refine ag.cons (WS.oK (WT.ez (WE.nm ok hk rfl (WE.str (W2.P5 ok (Ho k Jy) (by decide +kernel) (by (dsimp only [toPy,bR,iF,iT,iG,iU,iH,iV,nT,nF,aT,aF,oT,oF];simp [toPy,bR])) (iW.bool ⟨fun hc=>?_,fun hc=>ag.nil (ag.nil ?_)⟩))))))
  ·have cx:k≠kn:=by
    have yQ:(!sx (.str k) (.str kn))=true:=hc
    rw [MQ k Jy]at yQ
    exact of_decide_eq_true yQ
   refine az (RU k Bi cx) fun m hm ZL=>?_
   have RV:tv C.w N D (p++[k])=.x9 C.w (mC C.w N D (p++[k]) m):=xT hm (by simpa using ZL)
   have MR:(mC C.w N D p nd).lookup k=some (tv C.w N D (p++[k])):=by rw [t8,if_pos Bi,if_neg cx]
   have ZM:lo "table" = some (.x9 C.w (mC C.w N D p nd)):=by rw [h4,xT hN hp]
   refine ag.cons (WS.expr ok (WE.lH ok (WE.nm ok hk (v:=.loc a) h1 (cB _ bu.builtin (eX.oP (Dx xQ) fB fC) ?_))))
   refine WE.tuple (WE.binop (WE.nm ok hk h3 (WE.tuple (WE.nm ok hk (v:=.str k) rfl ⟨by (dsimp [iF,iT,iG,iU,iH,iV,nT,nF,aT,aF,oT,oF];simp),W2.Vm (by simp;exact T2 [.l .x (.n 1000),.l (.a .y .o) .x] (.l .y (.n 16777215)) tA hD ZL) ?_⟩))))
   refine WE.sub (WE.nm ok hk ZM (WE.nm ok hk (v:=.str k) rfl (W2.yf (k8 hnd) MR ⟨by (dsimp [iF,iT,iG,iU,iH,iV,nT,nF,aT,aF,oT,oF];simp),aW.append (Dx xQ) (by simp;exact T2 [.l (.a .x (.a .y .o)) (.n 1000)] (.l .x (.n 8388608)) tA l1) ⟨rfl,?_⟩⟩)))
   dsimp only
   rw [Hn xQ]
   have e1:ws.map (gX C.w N D)++[CV.tup [.tup (p.map CV.str++[.str k]),tv C.w N D (p++[k])]]=(ws++[p++[k]]).map (gX C.w N D):=by
    simp [gX]
   rw [e1]
   refine ag.cons (WS.oK (WT.ez (WE.call ok (WE.glob ok L (v:=.type "type") rfl (cB _ rfl bu.type ?_) (by rw [hk];rfl)))))
   refine WE.sub (WE.nm ok hk ZM (WE.nm ok hk (v:=.str k) rfl (W2.yf (k8 hnd) MR ?_)))
   rw [RV]
   refine aW.yg (WE.glob ok L (v:=.type "dict") rfl (W2.KV (iW.bool ⟨fun _=>?_,fun q=>by exact aD q⟩)) (by rw [hk];rfl))
   refine ag.cons (WS.expr ok (WE.lH ok (WE.nm ok hk (v:=.loc b) h2 (cB _ bu.builtin (eX.oP Aa fB fC) ?_))))
   refine WE.sub (WE.nm ok hk (v:=.loc a) h1 (WE.C7 (W2.Jr (c:=gX C.w N D (p++[k])) (Dx xQ) (by simp;exact ct.mpr (T1 [] (.l .o (.a .x .o)) tA)) (by simp;(exact au _)) (by simp;exact cD.mpr (T2 [.l (.a .x (.a .y .o)) (.n 1000)] (.t (.a .x .o) (.n 4611686018427387904)) tA l1)) (by rw [dz];exact FD _ _) (aW.append Aa (by simp;exact T2 [.l (.a .x (.a .y .o)) (.n 1000)] (.l .x (.n 8388608)) tA l2) ⟨rfl,ag.nil (ag.nil (ag.nil ?_))⟩))))
   dsimp only
   rw [Ab]
   have e2:rs.map (gX C.w N D)++[gX C.w N D (p++[k])]=(rs++[p++[k]]).map (gX C.w N D):=by simp
   rw [e2]
   refine ih (ws++[p++[k]]) (rs++[p++[k]]) (dU lo "name" (.str k)) (fun j hj=>mW j (aG _ hj)) (by simp;exact T2 [.l (.a .x (.a .y .o)) (.n 1000)] (.l (.a (.a .x .o) .y) (.n 1000)) tA l1) (by simp;exact T2 [.l (.a .x (.a .y .o)) (.n 1000)] (.l (.a (.a .x .o) .y) (.n 1000)) tA l2) h1 h2 h3 h4 fun bY q1 q2=>?_
   have:=hq bY q1 q2
   rw [t9,if_neg cx]at this
   simpa only [bU,List.singleton_append]using this
  ·have he:k=kn:=by
    have yQ:(!sx (.str k) (.str kn))=false:=hc
    rw [MQ k Jy]at yQ
    simpa using yQ
   refine ih ws rs (dU lo "name" (.str k)) (fun j hj=>mW j (aG _ hj)) (cF (by assumption)) (cF (by assumption)) h1 h2 h3 h4 fun bY q1 q2=>?_
   have:=hq bY q1 q2
   rw [t9,if_pos he]at this
   exact this
theorem Hp(ok:C.Ok dep)(hk:HK C (ax (bK 41)))(L:kQ C G6){H H0:CH}{cl x d:Addr}{N:TN}{ow:FO}{D:Nat}{r:ie}{ps:List (List Str)}(T:TW H cl x d N ow)(hr:N []=some r)
  (u5:∀p,(N p).isSome=true→p∈ps) (zb:ps.length≤900) (hD:∀p,(N p).isSome=true→p.length≤D) (Wx:D≤1000) (mn:∀p k,(N (p++[k])).isSome=true→k≠kn)
  (hq:∀(ws:List (List Str)) bY,ws.Nodup→(∀p,p∈ws↔p≠[]∧(N p).isSome=true)→Q (.ret (.lst (ws.map (gX C.w N D)))) ⟨bY,H0⟩) :
  ag C (bodyOf (bK 41)) ⟨fun y=>([("document" : Str)].zip [tv C.w N D []]).lookup y,H0⟩ Q X:=by
 refine ag.cons ?_
 refine (WS.DZ ok ?h ?hx ?hy ?hs ?hw:WS C _ _ _ _)
 case hx=>rw [hk];rfl
 case hy=>rw [hk];rfl
 case hs=>rfl
 case hw =>
  have k1:C.env.kindOf "told" = some .local:=by rw [hk];rfl
  have k2:C.env.kindOf "rest" = some .local:=by rw [hk];rfl
  have k3:C.env.blockKind=.function:=gS ok
  delta kU
  dsimp only [lC]
  simp only [k1,k2,k3]
  rfl
 refine WE.tuple ?_
 refine WE.list ⟨by simp,fun a ha=>?_⟩
 refine WE.list (WE.tuple (WE.tuple ⟨by simp,?_⟩))
 refine WE.nm ok hk (v:=tv C.w N D []) rfl (d9 (by (dsimp [iF,iT,iG,iU,iH,iV,nT,nF,aT,aF,oT,oF];simp)) (by (dsimp [iF,iT,iG,iU,iH,iV,nT,nF,aT,aF,oT,oF];simp)) (fun b hb=>(lb (by (dsimp [iF,iT,iG,iU,iH,iV,nT,nF,aT,aF,oT,oF];simp)) (jq _ _ rfl ?_))))
 have xQ:a≠b:=fun e=>by subst e;simp [aV]at hb
 refine ag.cons (WS.uO ok (fun n st=>∃(ws rs:List (List Str)) (lo:Str→Option CV),n=2*(900-ws.length)+rs.length∧Og N ws rs∧lo "told" = some (.loc a)∧lo "rest" = some (.loc b)∧st=⟨lo,two H0 a b (ws.map (gX C.w N D)) (rs.map (gX C.w N D))⟩) _ (JF ([]) ([[]]) _ rfl (.start) rfl rfl rfl) ?_)
 rintro n bJ ⟨ws,rs,lo,rfl,hT,h1,h2,rfl⟩
 have hlen:∀ws:List (List Str),ws.Nodup→(∀p∈ws,p≠[]∧(N p).isSome=true)→ws.length≤900:=fun ws h1 h2=>by
  have:=c9 h1 (fun p hp=>u5 p (h2 p hp).2)
  (exact aJ (by assumption) (by assumption))
 have Uj:=hlen ws hT.nd hT.cZ
 refine WT.ez (WE.nm ok hk h2 (WE.A6 ⟨by simp,W2.RS ok Aa (iW.bool ⟨fun hc=>?_,fun hc=>?_⟩)⟩))
 ·refine fY (List.eq_nil_or_concat rs) (fun R7=>?R6) (fun R7=>?R5);(case' R5=>(refine Gh R7 fun rs p G7=>?_;try clear R7;clear hc;obtain rfl:=G7));(case' R6=>clear hT;obtain rfl:=R7)
  ·simp at hc
  rw [List.concat_eq_append]at hT ⊢
  have ZN:(N p).isSome=true:=by
   rcases hT.rest p (by simp)with h | h
   ·rw [h,hr];rfl
   ·exact (hT.cZ p h).2
  refine cG (aY.mp ZN) fun nd hN=>?_
  refine ao (T.pD p nd hN) fun g1 g2=>?_
  have AI:∀k,k≠kn→(k∈nd.ks↔(N (p++[k])).isSome=true):=fun k hk=>T.yR p nd k hN hk
  have KZ:=hT.step g1 AI
  have RW:=hlen _ KZ.nd KZ.cZ
  have RX:nd.ks.length≤4:=by
   have:=c9 g1 g2
   exact this
  have Wy:(rs++[p]).length≤901:=by
   have:(rs++[p]).length≤([]::ws).length:=c9 hT.ZK fun q hq=>by
    rcases hT.rest q hq with h | h
    ·rw [h];exact aH
    ·exact aG _ h
   simp only [af]at this
   exact T2 [.l .x (.n 900),.l .y (.a .x .o)] (.l .y (.n 901)) tA Uj this
  rw [bh,dZ]at Wy
  rw [dz]
  refine ag.cons (WS.bE (WE.lH ok (WE.nm ok hk (v:=.loc b) h2 (cB _ bu.builtin (eX.oP Aa zo PySem.F.type_list_pop) ?_))))
  refine aW.KY Aa (by simp;exact T1 [.l (.a .x .o) (.n 901)] (.l .x (.n 8388608)) tA Wy) ?_
  dsimp only
  rw [Ab]
  refine WA.tuple (vs:=[.tup (p.map .str),tv C.w N D p]) ok rfl (WA.nm ok hk (WA.nm ok hk ?_))
  have Uh:=hD p ZN
  have Wm:(nd.ks.map CV.str)=(mC C.w N D p nd).map fun q=>.str q.1:=by unfold mC;rw [cm];rfl
  refine ag.cons (WS.Be ok (WE.nm ok hk (v:=.x9 C.w (mC C.w N D p nd)) (by rw [← xT hN Uh];rfl) (aw _ (du.x9 (k8 g1)) ?_)))
  rw [← Wm]
  refine Ac ok hk L xQ hN Uh g1 (fun k Bi Jy=>?_) (V71 _ _ _ _ _ _ _ rfl rfl) Wx nd.ks ws rs _ (fun k hk=>⟨hk,g2 k hk⟩) (T2 [.l .x (.n 900),.l .y (.n 4)] (.l (.a .x .y) (.n 1000)) tA Uj RX) (T2 [.l .x (.n 4),.l (.a .y .o) (.n 901)] (.l (.a .y .x) (.n 1000)) tA RX Wy) h1 h2 rfl rfl fun bY q1 q2=>ag.nil ?_
  ·refine cG (aY.mp ((AI k Jy).mp Bi)) fun m hm=>?_
   have:=hD _ (by rw [hm];rfl)
   rw [bh,dZ]at this
   exact (aw m hm this)
  ·refine (aw _ ?_ (JF (ws++gE p nd.ks) (rs++gE p nd.ks) bY rfl KZ q1 q2 rfl))
   simp only [bh,dZ]at RW ⊢
   exact T3 [.u (.n 900) (.a .x .y),.u (.n 900) .y,.l (.a .z .w) (.n 900)] (.t (.a (.m 2 .y) (.a .s .w)) (.a (.m 2 .x) (.a .s .o))) tA RW
 ·have hrs:rs=[]:=by
   cases rs with
   | nil=>rfl
   | cons r rs=>simp at hc
  clear hc;subst hrs
  refine ag.nil ?_
  refine ag.freeze (a:=a) (cs:=ws.map (gX C.w N D)) h1 (Dx xQ) ?_
  refine ag.freeze (x := "rest") (a:=b) (cs:=[]) h2 (by simp [eo,two,aV,aN xQ]) ?_
  refine ag.cons (WS.ret (WE.nm ok hk (v:=.lst (ws.map (gX C.w N D))) rfl ?_))
  have:=hq ws (dU (dU lo "told" (.lst (ws.map (gX C.w N D)))) "rest" (.lst [])) hT.nd (hT.fin T.par mn)
  have e:eo (eo (two H0 a b (ws.map (gX C.w N D)) ([].map (gX C.w N D))) a) b=H0:=by
   funext y
   simp only [eo,two,aV]
   have ze:H0 b=bw:=by simpa [aV,aN xQ]using hb
   by_cases q1:y=b
   ·clear hb xQ h2;subst q1;rw [if_pos rfl,ze]
   ·rw [if_neg q1]
    by_cases q2:y=a
    ·clear hb xQ h1;subst q2;rw [if_pos rfl];exact ha.symm
    ·rw [if_neg q2,if_neg q1,if_neg q2]
  dsimp only
  rw [e]
  exact this
end
end
section
section
variable{C:Cx} {dep:Nat} {X:XP} {B S W:Str→Bool} {st:ak} {Q:CV→ak→Prop}
theorem CI{xs:List Int}(L:LX C B S W)(ok:C.Ok (dep+1))(hq:∀ds:List Int,11≤ds.length→ds.length≤101→(∀d∈ds,0≤d∧d<18)→Q (.lst (ds.map .int)) st):
  aW C (.ref 415) [.lst (xs.map .int)] [] [] st Q X:=by
 refine L.digits.call ok (by decide +kernel) rfl rfl fun C' j9 sm hk=>?_
 exact Hk j9 hk (L.same sm).g fun ds bY h0 h1 h2=>hq ds h0 h1 h2
theorem uz{cl x d:Addr}{N:TN}{ow:FO}{D:Nat}{r:ie}{ps:List (List Str)}(L:LX C B S W)(ok:C.Ok (dep+1))(T:TW st.H cl x d N ow)(hr:N []=some r)
  (u5:∀p,(N p).isSome=true→p∈ps) (zb:ps.length≤900) (hD:∀p,(N p).isSome=true→p.length≤D) (Wx:D≤1000) (mn:∀p k,(N (p++[k])).isSome=true→k≠kn)
  (hq:∀ws:List (List Str),ws.Nodup→(∀p,p∈ws↔p≠[]∧(N p).isSome=true)→Q (.lst (ws.map (gX C.w N D))) ⟨st.lo,mY N st.H⟩) :
  aW C (.ref 422) [.loc r.da] [] [] st Q X:=by
 refine aW.qQ T hD hr ?_
 refine L.tables.call ok (by decide +kernel) rfl rfl fun C' j9 sm hk=>?_
 have hw:C'.w=C.w:=sm.w
 rw [← hw]
 refine @Hp C' dep (fun x aj=>X x ⟨st.lo,aj.H⟩) (fun f aj=>Q f.val ⟨st.lo,aj.H⟩) j9 hk (L.same sm).g st.H (mY N st.H) cl x d N ow D r ps T hr u5 zb hD Wx mn ?_
 intro ws bY h1 h2
 rw [hw]
 exact hq ws h1 h2
end
end
section
theorem rF{I:IM}:∀{ys:List Str} {vs:List Value},ck I (ys.map .str) vs→aQ vs ys
 | [],vs,r=>by have:=r.dQ;clear r;subst this;exact .nil
 | y::ys,vs,r=>by
  refine gP (ck.cO r) fun v BL G7 R9=>?_;obtain rfl:=G7;(refine ao R9 fun h1 h2=>?_;try clear R9)
  refine cG h1 fun t G8=>?_;try clear h1;clear r;obtain rfl:=G8
  exact .cons _ _ (rF h2)
section
variable{C:Cx} {dep:Nat} {X:XP} {st:ak} {Q:CV→ak→Prop}
theorem aW.tupleOf(hs:cs.length≤2 ^ 23)(h:Q (.tup cs) st):aW C (.type "tuple") [.lst cs] [] [] st Q X:=JI fun I x ra KF s S=>by
 refine j7 ra fun a n xs G5 R9=>?_;try clear ra;obtain rfl:=G5;(refine ao R9 fun hi hr=>?_;try clear R9)
 have e:cs.length=xs.size:=by have:=hr.length;simpa using this
 refine call_tuple_list (cB _ (S.de _ _ hi) rfl (dA n rfl)) (fun h' hk=>?_) (by rw [aa];exact T2 [.l .x (.n 8388608),.e .x .y] (.l .y (.n 16777216)) tA hs e)
 have S1:SR C KF I st { s with heap:=h',toks:=s.toks }:=S.keeps hk
 refine ao (S1.mT (o:={ cls:=.type "tuple",data:=.seq xs }) rfl) fun l S2=>?_
 exact (dK _ st l S2 (aw (.tup cs) (by exact (tq _ _ xs rfl cw (ck.mono l _ _ hr))) h))
theorem aW.Ka{x:Str}{ys:List Str}(MJ:(ys.map (·.length)).sum+ys.length*x.length≤16777216)(h:Q (.str (zV x ys)) st):aW C (.builtin "str.join") [.str x,.lst (ys.map .str)] [] [] st Q X:=Jm fun I u v rx ra KF s S=>by
 refine cG rx fun t G8=>?_;try clear rx;obtain rfl:=G8
 refine j7 ra fun a n xs G5 R9=>?_;try clear ra;obtain rfl:=G5;(refine ao R9 fun hi hr=>?_;try clear R9)
 exact join_list (cB _ (S.de _ _ hi) rfl (dA n rfl)) (rF hr) MJ fun t' k=>(pq (.str _) (S.toks _) (dA _ rfl) h)
theorem W2.Kb(ok:C.Ok dep)(h1:st.H a=some (.dict []))(h2:st.H b=some (.dict []))(h:Q (.bool false) st):W2 C (cI .NotEq) (.loc a) (.loc b) st Q X:=fun I v u r1 r2 KF s S=>by
 skip;subst r1;subst r2
 refine eZ (mU S h1 (by simp)) fun ka ma ea _=>?_
 refine eZ (mU S h2 (by simp)) fun kb mb eb _=>?_
 have ZF:ka=[]:=by simpa using ea
 have eb':kb=[]:=by simpa using eb
 clear ea eb;subst ZF eb'
 have hu:C.A.units<qp:=by have:=ok.units;exact T3 [.t (.a (.a .x (.m 10 .y)) (.n 200)) .z] (.t .x .z) tA this
 exact keq_ne (r:=true) (yN S h1) (yN S h2) ma mb hu (fun _=>.nil) (pq (.bool false) S (by rfl) h)
end
end
section
noncomputable def KG(n:Nat)(rk:Nat→Nat){α:Type}:KasT α→(α→Prop)→Prop
 | .ret a,P=>P a
 | .ask i j k,P=>i<n∧j<n∧i≠j∧KG n rk (k (decide (rk i<rk j))) P
section
variable{n:Nat} {rk:Nat→Nat} {α β:Type}
theorem KG.mono(h:∀a,P a→P' a):∀{t:KasT α},KG n rk t P→KG n rk t P'
 | .ret a,x=>h a x
 | .ask _ _ _,⟨a,b,c,x⟩=>(ql a b c (KG.mono h x))
theorem KG.bind:∀{t:KasT α},KG n rk t (fun a=>KG n rk (f a) P)→KG n rk (t.bind f) P
 | .ret a,x=>x
 | .ask _ _ _,⟨a,b,c,x⟩=>(ql a b c (KG.bind x))
noncomputable def g0(p:Array Nat)(i:Nat):Nat:=p.getD i 0
theorem Ad(h:p[i]?=q[j]?):g0 p i=g0 q j:=by
 unfold g0;rw [eE,eE,h]
theorem xV(hs:src<p.size)(hd:d≤src)(k:Nat):g0 (bubble p src d) k=if k=src-d then g0 p src else if src-d<k∧k≤src then g0 p (k-1)else g0 p k:=by
 have e:=getElem?_bubble hs d hd k
 by_cases h1:k=src-d
 ·rw [if_pos h1]at e ⊢;exact Ad e
 ·rw [if_neg h1]at e ⊢
  by_cases h2:src-d<k∧k≤src
  ·rw [if_pos h2]at e ⊢;exact Ad e
  ·rw [if_neg h2]at e ⊢;exact Ad e
theorem Hq(hj:m≤p.size)(k:Nat):g0 (Iw p 0 m) k=if k<m then g0 p (m-1-k)else g0 p k:=by
 have e:=getElem?_mirror_all (i:=0) hj k
 unfold Iw
 by_cases h:k<m
 ·rw [if_pos ⟨gm _,h⟩]at e;rw [if_pos h];rw [Ad e];congr 1;simp
 ·rw [if_neg (fun q=>h q.2)]at e;rw [if_neg h];exact Ad e
noncomputable def PB(n:Nat)(p:Array Nat):Prop:=p.toList.Perm (bF n)
theorem PB.size(h:PB n p):p.size=n:=by have:=h.length_eq;simpa using this
theorem PB.at(h:PB n p)(hi:i<n):g0 p i=p[i]'(by rw [h.size];exact hi):=by
 have nR:i<p.size:=by rw [h.size];exact hi
 unfold g0;simp [wj,nR]
theorem PB.lt(h:PB n p)(hi:i<n):g0 p i<n:=by
 rw [h.at hi]
 have:p[i]'(by rw [h.size];exact hi)∈p.toList:=by simp
 simpa using h.mem_iff.mp this
theorem PB.inj(h:PB n p)(hi:i<n)(hj:j<n)(e:g0 p i=g0 p j):i=j:=by
 have hn:p.toList.Nodup:=h.nodup_iff.mpr List.nodup_range
 have nR:i<p.toList.length:=by have:=h.size;simpa [this]using hi
 have pz:j<p.toList.length:=by have:=h.size;simpa [this]using hj
 rw [h.at hi,h.at hj]at e
 have pw:=lg.mp hn
 rcases JP i j with q | q | q
 ·exact absurd (by simpa using e) (pw i j nR pz q)
 ·exact q
 ·exact absurd (by simpa using e.symm) (pw j i pz nR q)
theorem PB.bubble(h:PB n p)(a b:Nat):PB n (bubble p a b):=(wk.mp (bubble_perm p a b)).trans h
theorem PB.rev(h:PB n p)(m:Nat):PB n (Iw p 0 m):=(wk.mp (mirror_perm p 0 m _)).trans h
variable(Ae:∀a b,a<n→b<n→rk a=rk b→a=b)
noncomputable def MT(rk:Nat→Nat)(p:Array Nat)(m:Nat):Prop:=∀i j,i<j→j<m→rk (g0 p i)<rk (g0 p j)
noncomputable def RY(rk:Nat→Nat)(p:Array Nat)(m:Nat):Prop:=∀i j,i<j→j<m→rk (g0 p j)<rk (g0 p i)
include Ae
theorem PB.ne(h:PB n p)(hi:i<n)(hj:j<n)(e:i≠j):rk (g0 p i)≠rk (g0 p j):=fun q=>e (h.inj hi hj (Ae _ _ (h.lt hi) (h.lt hj) q))
theorem v5{p:Array Nat}(h:PB n p):∀f m,1≤m→m+f≤n→MT rk p m→KG n rk (kas_asc p f m) (fun r=>m≤r∧r≤m+f∧MT rk p r∧(r=m+f∨rk (g0 p r)<rk (g0 p (r-1))))
 | 0,m,h1,h2,ha=>(ql (bX _) (bX _) ha (.inl rfl))
 | f+1,m,h1,h2,ha=>by
  have hm:m<n:=bj (n6 (U3 f)) h2
  have CJ:m-1<n:=bH (zS _ _) hm
  have ne:=h.ne Ae hm CJ (T1 [.u .x .o,.l .o .y] (.E .y .x) tA h1)
  refine (ql (h.lt hm) (h.lt CJ) (fun e=>by have:=h.inj hm CJ e;exact T1 [.u .x .o,.l .o .y,.e .y .x] .f tA h1 this) ?_)
  show KG n rk (if decide (rk (g0 p m)<rk (g0 p (m-1)))=true then KasT.ret m else kas_asc p f (m+1)) _
  by_cases c:rk (g0 p m)<rk (g0 p (m-1))
  ·rw [if_pos (decide_eq_true c)]
   exact (ql (bX _) (bf _ _) ha (.inr c))
  ·rw [if_neg (by simpa using c)]
   have RZ:MT rk p (m+1):=fun i j pH hj=>by
    by_cases q:j=m
    ·clear h2 hm CJ hj;subst q
     by_cases q2:i=j-1
     ·clear pH;subst q2;(exact dE (ei.mp (by assumption)) (aN (by assumption)))
     ·have:=ha i (j-1) (T2 [.u .y .o,.t .y .z,.E .y .x] (.t .y .x) tA pH q2) (cU (by assumption) (bx _));exact T3 [.T .x .y,.t .z .y] (.t .z .x) tA c this
    ·exact ha i j pH (T2 [.t .x (.a .y .o),.E .x .y] (.t .x .y) tA hj q)
   refine (v5 h f (m+1) (bA _) (T3 [.l (.a .x (.a .y .o)) .z] (.l (.a (.a .x .o) .y) .z) tA h2) RZ).mono fun r W7=>ip W7 fun a b c d=>(ql (cF (by assumption)) (T3 [.l .x (.a (.a .y .o) .z)] (.l .x (.a .y (.a .z .o))) tA W7.2.1) c (d.imp (fun q=>by exact T3 [.e .x (.a (.a .y .o) .z)] (.e .x (.a .y (.a .z .o))) tA q) id))
theorem xW{p:Array Nat}(h:PB n p):∀f m,1≤m→m+f≤n→RY rk p m→KG n rk (DM f p m 0) (fun r=>r.1=p∧r.2.2=0∧m≤r.2.1∧r.2.1≤m+f∧RY rk p r.2.1)
 | 0,m,h1,h2,ha=>(JE rfl rfl (bX _) (bX _) ha)
 | f+1,m,h1,h2,ha=>by
  have hm:m<n:=bj (n6 (U3 f)) h2
  have CJ:m-1<n:=bH (zS _ _) hm
  have ne:=h.ne Ae hm CJ (T1 [.u .x .o,.l .o .y] (.E .y .x) tA h1)
  have l1:=h.lt hm
  have l2:=h.lt CJ
  have Ra:g0 p m≠g0 p (m-1):=fun e=>by have:=h.inj hm CJ e;exact T1 [.u .x .o,.l .o .y,.e .y .x] .f tA h1 this
  refine (ql l1 l2 Ra ?_)
  show KG n rk (if decide (rk (g0 p m)<rk (g0 p (m-1)))=true then (if 0>0 then DM f (Iw p (m-(0+1)) m) (m+1) 0 else DM f p (m+1) 0)
   else .ask (g0 p (m-1)) (g0 p m) fun d=>if d=true then .ret (p,m,0)else DM f p (m+1) (0+1)) _
  by_cases c:rk (g0 p m)<rk (g0 p (m-1))
  ·rw [if_pos (decide_eq_true c),if_neg (eR 0)]
   have RZ:RY rk p (m+1):=fun i j pH hj=>by
    by_cases q:j=m
    ·clear h2 hm CJ ne l1 l2 Ra hj;subst q
     by_cases q2:i=j-1
     ·clear pH;subst q2;exact c
     ·have:=ha i (j-1) (T2 [.u .y .o,.t .y .z,.E .y .x] (.t .y .x) tA pH q2) (cU (by assumption) (bx _));(exact bD (by assumption) (by assumption))
    ·exact ha i j pH (T2 [.t .x (.a .y .o),.E .x .y] (.t .x .y) tA hj q)
   exact (xW h f (m+1) (bA _) (T3 [.l (.a .x (.a .y .o)) .z] (.l (.a (.a .x .o) .y) .z) tA h2) RZ).mono fun r W8=>wB W8 fun a b c d e=>(JE a b (cF (by assumption)) (T3 [.l .x (.a (.a .y .o) .z)] (.l .x (.a .y (.a .z .o))) tA W8.2.2.2.1) e)
  ·rw [if_neg (by simpa using c)]
   refine (ql l2 l1 (aN Ra) ?_)
   show KG n rk (if decide (rk (g0 p (m-1))<rk (g0 p m))=true then .ret (p,m,0)else DM f p (m+1) (0+1)) _
   rw [if_pos (by simp;(exact dE (ei.mp (by assumption)) (aN (by assumption))))]
   exact (JE rfl rfl (bX _) (bf _ _) ha)
noncomputable def MU(n:Nat)(rk:Nat→Nat)(Wz:Nat)(r:Nat×Array Nat):Prop:=1≤r.1∧r.1≤Wz∧PB n r.2∧MT rk r.2 r.1
theorem CK{p:Array Nat}(h:PB n p){m:Nat}(h1:1≤m)(h2:m≤n)(hd:RY rk p m):KG n rk (kas_tail3 m n p) (MU n rk n):=by
 unfold kas_tail3
 refine KG.bind ((v5 Ae (h.rev m) (n-m) m h1 (T2 [.u .y .x,.l .y .z] (.l (.a .y .x) .z) tA h2) fun i j pH hj=>?_).mono fun r W9=>ip W9 fun a b c _=>(ql (by show 1≤r;(exact aJ (by assumption) (by assumption))) (by show r≤n;exact T3 [.u .y .x,.l .y .z,.l .w (.a .y .x)] (.l .w .z) tA h2 W9.2.1) (h.rev m) c))
 rw [Hq (by rw [h.size];exact h2),Hq (by rw [h.size];exact h2),if_pos (by exact T3 [.t .x .y,.t .y .z] (.t .x .z) tA pH hj),if_pos hj]
 exact hd _ _ (T3 [.u .z .o,.u .x .z,.u .y .z,.t .w .s,.t .s .t] (.t .y .x) tA pH hj) (T2 [.u .x .o,.u .x .z,.l .o .z] (.t .x .z) tA h1)
theorem CL{p:Array Nat}(h:PB n p)(h2:2≤n):KG n rk (kas_count n p) (MU n rk n):=by
 unfold kas_count
 refine KG.bind ((v5 Ae h (n-1) 1 (bA _) (T1 [.u .x .o,.l (.n 2) .y] (.l (.a .o .x) .y) tA h2) fun i j pH hj=>by exact T4 [.t .x .y,.t .y .o] (.t .z .w) tA pH hj).mono fun m R0=>ip R0 fun a b c d=>?_)
 by_cases e1:m=n
 ·clear Ae h2 R0 b d;subst e1
  rw [if_pos (by simp)]
  exact (ql a (bX _) h c)
 rw [if_neg (by simpa using e1)]
 by_cases e2:m>1
 ·rw [if_pos e2]
  have h0:0<n:=cF h2
  have CJ:m-1<n:=T2 [.u .y .o,.u .y .o,.l .z (.a .o .y),.t .o .z] (.t .x .w) tA R0.2.1 e2
  have Ra:g0 p 0≠g0 p (m-1):=fun e=>by have:=h.inj h0 CJ e;exact T1 [.u .x .o,.t .o .y,.e (.n 0) .x] .f tA e2 this
  refine (ql (h.lt h0) (h.lt CJ) Ra ?_)
  show KG n rk (if decide (rk (g0 p 0)<rk (g0 p (m-1)))=true then .ret (m,p)else kas_descPart m n (Iw p 0 m)) _
  rw [if_pos (decide_eq_true (c 0 (m-1) (Nat.sub_pos_of_lt (by assumption)) (cU (by assumption) (bx _))))]
  exact (ql a (by show m≤n;exact T2 [.u .x .o,.t .x .z] (.l .y .z) tA CJ) h c)
 ·rw [if_neg e2]
  have hm:m=1:=by (exact (fx (bV (by assumption)) (by assumption)))
  clear R0 a b c e1 e2;subst hm
  have lt:rk (g0 p 1)<rk (g0 p 0):=by
   rcases d with d | d
   ·exact T3 [.u .x .o,.l (.n 2) .y,.e .o (.a .o .x)] (.t .z .w) tA h2 d
   ·exact d
  unfold kas_descPart
  have hd2:RY rk p 2:=fun i j pH hj=>by
   have e:j=1:=fx (cz hj) (bH (gm i) pH)
   have:i=0∧j=1:=⟨zW.mp (e▸pH),e⟩
   rw [this.1,this.2];exact lt
  refine KG.bind ((xW Ae h (n-2) 2 (bA _) (T1 [.u .x (.n 2),.l (.n 2) .y] (.l (.a (.n 2) .x) .y) tA h2) hd2).mono fun r R1=>wB R1 fun q1 q2 q3 q4 q5=>?_)
  rw [if_neg (by exact T1 [.e .x (.n 0)] (.T (.n 0) .x) tA R1.2.1),q1]
  exact CK Ae h (cF (by assumption)) (T2 [.u .x (.n 2),.l (.n 2) .y,.l .z (.a (.n 2) .x)] (.l .z .y) tA h2 R1.2.2.2.1) q5
theorem qR(h:PB n p)(hk:k<n)(ha:MT rk p k):∀f l r,l≤r→r≤k→r-l≤f→(∀i,i<l→rk (g0 p i)<rk (g0 p k))→(∀i,r≤i→i<k→rk (g0 p k)<rk (g0 p i)) →
  KG n rk (GZ p k f l r) (fun l'=>l'≤k∧(∀i,i<l'→rk (g0 p i)<rk (g0 p k))∧(∀i,l'≤i→i<k→rk (g0 p k)<rk (g0 p i)))
 | 0,l,r,h1,h2,h3,h4,h5=>by
  have:l=r:=T2 [.u .y .x,.l .y .z,.l .x (.n 0)] (.e .y .z) tA h1 h3
  clear h1 h3;subst this
  exact (d9 h2 h4 h5)
 | f+1,l,r,h1,h2,h3,h4,h5=>by
  unfold GZ
  by_cases c:l≥r
  ·rw [if_pos c]
   have:l=r:=by (exact (fx (by assumption) (by assumption)))
   clear h1 h3 c;subst this
   exact (d9 h2 h4 h5)
  rw [if_neg c]
  have m1:l≤(l+r) / 2:=(Nat.le_div_iff_mul_le (bA 1)).mpr (T2 [.t .x .y] (.l (.r .x 2) (.a .x .y)) tA (jW c))
  have m2:(l+r) / 2<r:=gp (T2 [.t .x .y] (.t (.a .x .y) (.m 2 .y)) tA (jW c))
  generalize (l+r) / 2=m at m1 m2 ⊢
  have Rb:m<k:=bj m2 h2
  have hm:m<n:=bD Rb hk
  refine (ql (h.lt hk) (h.lt hm) (fun e=>cW Rb (h.inj hk hm e)) ?_)
  have ne:=h.ne Ae hk hm (cW Rb)
  show KG n rk (if decide (rk (g0 p k)<rk (g0 p m))=true then GZ p k f l m else GZ p k f (m+1) r) _
  by_cases c2:rk (g0 p k)<rk (g0 p m)
  ·rw [if_pos (decide_eq_true c2)]
   refine qR h hk ha f l m m1 (cF Rb) (T4 [.u .x .y,.u .s .z,.l .y (.a .s .o),.t .t .z] (.l .x .s) tA h3 m2) h4 fun i Vz hi2=>?_
   by_cases q:i=m
   ·rw [q];exact c2
   ·exact bD c2 (ha m i (dE Vz (aN q)) hi2)
  ·rw [if_neg (by simpa using c2)]
   refine qR h hk ha f (m+1) r m2 h2 (T4 [.u .x .y,.u .y (.a .s .o),.l .y (.a .s .o),.l .w .t] (.l .x .s) tA h3 m1) (fun i hi=>?_) h5
   by_cases q:i=m
   ·rw [q];exact dE (ei.mp c2) (aN ne)
   ·exact bj (ha i m (dE (cz hi) q) Rb) (ei.mp c2)
theorem Af:∀f (p:Array Nat) k,PB n p→1≤k→k+f=n→MT rk p k→KG n rk (kas_bin f p k) (fun p'=>PB n p'∧MT rk p' n)
 | 0,p,k,h,h1,h2,ha=>by
  have:k=n:=T2 [.e (.a .x (.n 0)) .y] (.e .x .y) tA h2
  clear Ae h2;subst this
  exact ⟨h,ha⟩
 | f+1,p,k,h,h1,h2,ha=>by
  unfold kas_bin
  refine KG.bind ((qR Ae h (show k<n by exact T3 [.e (.a .x (.a .y .o)) .z] (.t .x .z) tA h2) ha k 0 k (cQ _ _) (bX _) (zS _ _) (fun i hi=>by (exact absurd (by assumption) (kP _))) (fun i h1 h2=>by (exact absurd (by assumption) (dp (by assumption))))).mono fun l R2=>dO R2 fun q1 q2 q3=>?_)
  refine Af f _ (k+1) (h.bubble _ _) (bA _) (T3 [.e (.a .x (.a .y .o)) .z] (.e (.a (.a .x .o) .y) .z) tA h2) fun i j pH hj=>?_
  have mW:k<p.size:=by rw [h.size];exact T3 [.e (.a .x (.a .y .o)) .z] (.t .x .z) tA h2
  rw [xV mW (by exact T2 [.u .x .y] (.l .x .y) tA),xV mW (by exact T2 [.u .x .y] (.l .x .y) tA),show k-(k-l)=l by exact T2 [.u .y .x,.u .z .x,.l .z .w] (.e .x .z) tA R2.1]
  by_cases i1:i=l
  ·rw [if_pos i1]
   rw [if_neg (by exact T3 [.t .x .y,.e .x .z] (.E .y .z) tA pH i1),if_pos ⟨i1▸pH,cz hj⟩]
   exact q3 _ (T3 [.u .y .o,.t .y .z,.e .y .w] (.l .w .x) tA pH i1) (T2 [.u .y .o,.l .o .y,.t .z (.a .y .o)] (.t .x .y) tA h1 hj)
  rw [if_neg i1]
  by_cases j1:j=l
  ·rw [if_pos j1,if_neg fun q=>Nat.lt_asymm pH (j1.symm▸q.1)]
   exact q2 _ (T3 [.t .x .y,.e .y .z] (.t .x .z) tA pH j1)
  rw [if_neg j1]
  by_cases i2:l<i∧i≤k
  ·rw [if_pos i2,if_pos ⟨bD i2.1 pH,cz hj⟩]
   exact ha _ _ (T3 [.u .x .o,.u .z .o,.t .z .w,.t .s .z] (.t .y .x) tA pH i2.1) (T2 [.u .y .o,.l .o .y,.t .z (.a .y .o)] (.t .x .y) tA h1 hj)
  rw [if_neg i2]
  by_cases j2:l<j∧j≤k
  ·rw [if_pos j2]
   exact ha _ _ (bj (dE (bV fun q=>i2 ⟨q,cF (bj pH j2.2)⟩) i1) (Nat.le_sub_one_of_lt j2.1)) (T2 [.u .y .o,.l .o .y,.t .z (.a .y .o)] (.t .x .y) tA h1 hj)
  rw [if_neg j2]
  exact ha _ _ pH (dE (cz hj) fun q=>j2 ⟨dE (q.symm▸R2.1) (aN j1),cz hj⟩)
theorem FE(h2:2≤n):KG n rk (kas_sort n) (fun p=>PB n p∧MT rk p n):=by
 unfold kas_sort
 refine KG.bind ((CL Ae (p:=(bF n).toArray) (by show (bF n).toArray.toList.Perm _;simp) h2).mono fun r R3=>ip R3 fun a b c d=>?_)
 by_cases e:r.1<n
 ·rw [if_pos e]
  have:max r.1 1=r.1:=Nat.max_eq_left a
  rw [this]
  exact Af Ae _ _ _ c a (T2 [.u .y .x,.t .y .z] (.e (.a .y .x) .z) tA e) d
 ·rw [if_neg e]
  have:r.1=n:=by (exact (fx (by assumption) (bV (by assumption))))
  exact ⟨c,this▸d⟩
end
end
section
noncomputable def cn:List Str→List Str→Bool
 | x::xs,y::ys=>if x=y then cn xs ys else decide (x.cps.toList<y.cps.toList)
 | xs,ys=>decide (xs.length<ys.length)
open SeqAt in
open AutoSeq1 (wpAny_loadPart') in
theorem CM(l b:Addr)(items yh:Array Value)(n n2:Nat)(dd dd2:Option Addr)(sl sl2:Array (Option Value))(xs ys:List Str)(h1:aQ items.toList xs)(h2:aQ yh.toList ys):
  Meets (eF.«tuple.__lt__» ⟨[.ref l,.ref b],[]⟩)
   (fun A R s=>s.heap.get? l=some { cls:=.type "tuple",dict:=dd,data:=.seq items n,slots:=sl }∧s.heap.get? b=some { cls:=.type "tuple",dict:=dd2,data:=.seq yh n2,slots:=sl2 }∧A.units+10<qp ∧
    R (.ok (.ret (.bool (cn xs ys)))) s) :=
 .of_wp fun prog w A R s h=>by
  obtain ⟨hp,g,d,tk,os⟩:=s;(revert h;intro R8;refine ip R8 fun hl hb hu h=>?_;try clear R8)
  have f2:=AutoSeq1.sub_tuple_tuple
  wp_walk using BH hl,BH hb,U4 _ (fun rest b s'=>b.1=none∧s'=⟨hp,g,d,tk,os⟩∧∃vs us xs ys,rest=List.zip vs us∧aQ vs xs∧aQ us ys∧items.size+us.length=yh.size+vs.length ∧
   R (.ok (.ret (.bool (cn xs ys)))) ⟨hp,g,d,tk,os⟩) _
  case turn =>
   rintro ⟨y,x⟩ rest b s' R4
   refine dO R4 fun ze G8 R9=>?_;try clear R4;obtain rfl:=G8;(refine Yd R9 fun vs us xs ys hz hv X2 hs hR=>?_;try clear R9)
   cases hv with
   | nil=>simp at hz
   | @cons x0 t0 vs0 PJ hv0 =>
   cases X2 with
   | nil=>simp at hz
   | @cons y0 t1 us0 Uk hu0 =>
   simp only [GR]at hz
   injection hz with VV hrest
   injection VV with e1 e2
   subst e1 e2
   refine aA (eqBool_str ?_)
   by_cases q:x0=y0
   ·subst q
    have e:cn (x0::PJ) (x0::Uk)=cn PJ Uk:=by simp [cn]
    rw [e]at hR
    simp only [af]at hs
    rw [show (x0 == x0)=true by simp]
    wp_walk
    exact (d9 rfl rfl (UI vs0 us0 PJ Uk hrest hv0 hu0 (qr (by assumption)) hR))
   ·have e:cn (x0::PJ) (y0::Uk)=decide (x0.cps.toList<y0.cps.toList):=by simp [cn,q]
    rw [e]at hR
    rw [show (x0 == y0)=false by simpa using q]
    dsimp only [Bool.not_false,if_true,iF,iT,iG,iU,iH,iV,nT,nF,aT,aF,oT,oF]
    refine aA (kL (aA ?_))
    have go:∀{Q:Value→Shared→Prop},Q (.bool (decide (x0.cps.toList<y0.cps.toList))) ⟨hp,g,d,tk,os⟩→aR (aS prog w) (Ph A) (richCompare .Lt (.str x0 t0) (.str y0 t1)) Q (fun e s'=>R (.error e) s') ⟨hp,g,d,tk,os⟩:=fun hq =>
     (show aR (aS prog w) (Ph A) (cI .Lt (.str x0 t0) (.str y0 t1)) _ _ _ from lt_str hq)
    refine go ?_
    refine aA (aC (aC ?_))
    show aR _ _ (pure _) _ _ _
    exact aC (aw _ rfl hR)
  case fin =>
   rintro ⟨b1,b2⟩ s' R4
   refine dO R4 fun ze G8 R9=>?_;try clear R4;obtain rfl:=G8;(refine Yd R9 fun vs us xs ys hz hv X2 hs hR=>?_;try clear R9)
   simp only at ze
   subst ze
   have l1:∀{vs:List Value} {xs:List Str},aQ vs xs→vs.length=xs.length:=fun h=>by induction h <;> simp_all
   have e1:=l1 hv
   have e2:=l1 X2
   have e:cn xs ys=decide (items.size<yh.size):=by
    cases xs with
    | nil =>
     have FG:vs.length=0:=by simpa using e1
     show decide (([]:List Str).length<ys.length)=_
     apply decide_eq_decide.mpr
     rw [FG,oH]at hs;show 0<ys.length↔_;rw [← e2];exact ⟨fun q=>hs▸n6 q,fun q=>Iy fun z=>th q (by rw [z]at hs;exact hs)⟩
    | cons x xs =>
     cases ys with
     | nil =>
      have e2':us.length=0:=by simpa using e2
      have FG:vs.length=xs.length+1:=by simpa using e1
      show decide ((x::xs).length<([]:List Str).length)=_
      apply decide_eq_decide.mpr
      rw [e2',oH]at hs;exact ⟨fun q=>absurd q (kP _),fun q=>absurd q (dp (hs▸bf _ _))⟩
     | cons y ys =>
      exfalso
      cases vs with
      | nil=>simp at e1
      | cons v vs=>cases us with
       | nil=>simp at e2
       | cons u us=>simp at hz
   rw [e]at hR
   wp_walk
   exact (aw _ rfl (by simpa [U5]using hR))
  case h =>
   exact (d9 rfl rfl (UI _ _ xs ys rfl h1 h2 (by simp [km]) h))
end
section
section
variable{C:Cx} {dep:Nat} {KF I:IM} {st:ak} {s:Shared} {X:XP}
theorem nr(S:SR C KF I st s)(r:VR I (.tup cs) v):∃a n xs,v=.ref a∧s.heap.get? a=some ⟨.type "tuple",.none,.seq xs n,#[]⟩∧ck I cs xs.toList:=by
 refine j7 r fun a n xs G5 R9=>?_;try clear r;obtain rfl:=G5;(refine ao R9 fun hi hr=>?_;try clear R9)
 exact (tq a n xs rfl (S.de _ _ hi) hr)
theorem Nw(S:SR C KF I st s)(hu:A.units+20<qp)(r1:VR I (.tup (ws.map .str)) v)(r2:VR I (.tup (us.map .str)) u)
  (h:Q (.bool (cn ws us)) s):aR (aS C.prog C.w) A (cI .Lt v u) Q E s:=by
 refine j7 (nr S r1) fun a n xs G5 R9=>?_;clear r1;obtain rfl:=G5;(refine ao R9 fun ha ra=>?_;try clear R9)
 refine j7 (nr S r2) fun b m ys G5 R9=>?_;clear r2;obtain rfl:=G5;(refine ao R9 fun hb rb=>?_;try clear R9)
 refine richCompare_meets_room (op:=.Lt) (aw _ ha rfl) (aw _ hb rfl) PySem.F.slot_tuple_lt PySem.F.entry_tuple_lt (PySem.F.args_tuple_lt_2 _ _) (CM a b xs ys n m none none #[] #[] ws us (rF ra) (rF rb)) (ql ha hb (T2 [.t (.a .x (.n 20)) .y] (.t (.a .x (.n 10)) .y) tA hu) ?_) (bH (bf _ _) (by assumption))
 exact ⟨fun x=>(nomatch x),h⟩
theorem Kc(S:SR C KF I st s)(cx:i≠j)(r1:VR I (.tup [.int i,x]) v)(r2:VR I (.tup [.int j,y]) u)(h:Q (decide (i<j)) s):
  aR (aS C.prog C.w) A (keyLt' (tuples' true) v u) Q (fun _ _=>False) s:=by
 refine j7 (nr S r1) fun a n xs G5 R9=>?_;clear r1;obtain rfl:=G5;(refine ao R9 fun ha ra=>?_;try clear R9)
 refine j7 (nr S r2) fun b m ys G5 R9=>?_;clear r2;obtain rfl:=G5;(refine ao R9 fun hb rb=>?_;try clear R9)
 refine kat_lt ha rfl hb rfl ?_
 revert ra;intro R8;refine dC R8.cO fun p ps e1 rp ra=>?_;try clear R8
 revert ra;intro R8;refine dC R8.cO fun p2 ps2 e2 rp2 ra=>?_;try clear R8
 revert rb;intro R8;refine dC R8.cO fun q qs e3 rq rb=>?_;try clear R8
 revert rb;intro R8;refine dC R8.cO fun q2 qs2 e4 rq2 rb=>?_;try clear R8
 subst e2 e4
 rw [e1,e3]
 refine cG rp fun t G8=>?_;try clear rp;clear e1;obtain rfl:=G8
 refine cG rq fun t' G8=>?_;try clear rq;clear e3;obtain rfl:=G8
 refine kat_cons (Tn.int_int i t j t' _ _ _ _ ?_)
 rw [show (i == j)=false by simpa using cx]
 exact kat_no (oneLt_int h)
theorem Kd(S:SR C KF I st s)(hu:A.units+200<qp)(cx:sx (.tup (ws.map .str)) (.tup (us.map .str))=false)(p1:eS (.tup (ws.map .str))=true)(p2:eS (.tup (us.map .str))=true)
  (hd:(toPy (.tup (ws.map .str))).depth≤100) (r1:VR I (.tup [.tup (ws.map .str),x]) v) (r2:VR I (.tup [.tup (us.map .str),y]) u) (h:Q (cn ws us) s) :
  aR (aS C.prog C.w) A (keyLt' (tuples' false) v u) Q (fun _ _=>False) s:=by
 refine j7 (nr S r1) fun a n xs G5 R9=>?_;clear r1;obtain rfl:=G5;(refine ao R9 fun ha ra=>?_;try clear R9)
 refine j7 (nr S r2) fun b m ys G5 R9=>?_;clear r2;obtain rfl:=G5;(refine ao R9 fun hb rb=>?_;try clear R9)
 refine kat_lt ha rfl hb rfl ?_
 revert ra;intro R8;refine dC R8.cO fun p ps e1 rp ra=>?_;try clear R8
 revert ra;intro R8;refine dC R8.cO fun p2' ps2 e2 rp2 ra=>?_;try clear R8
 revert rb;intro R8;refine dC R8.cO fun q qs e3 rq rb=>?_;try clear R8
 revert rb;intro R8;refine dC R8.cO fun q2 qs2 e4 rq2 rb=>?_;try clear R8
 subst e2 e4
 rw [e1,e3]
 refine ao (VR.reads S.de _ p p1 rp) fun G9 hx=>?_;(refine cG G9 fun as ya=>?_;try clear G9)
 refine ao (VR.reads S.de _ q p2 rq) fun G9 hy=>?_;(refine cG G9 fun bs yb=>?_;try clear G9)
 have eq:Tn A s p q (sx (.tup (ws.map .str)) (.tup (us.map .str))):=Ik _ _ _ _ _ _ _ _ ya yb hx hy (T4 [.i .z .w,.t (.a .y (.n 200)) .z,.l .w (.n 100)] (.t (.a .y .x) .z) tA hu hd)
 refine kat_cons (eq _ _ _ _ ?_)
 rw [cx]
 exact kat_no (kat_one (E:=fun _ _=>False) p q (Nw S (T2 [.t (.a .x (.n 200)) .y] (.t (.a .x (.n 20)) .y) tA hu) rp rq h))
noncomputable def yi(h:Heap)(L:Addr):List (Addr×Obj):=(bF h.objs.size).filterMap fun b=>if b=L then none else (h.get? b).map fun o=>(b,o)
theorem mZ:(b,o)∈yi h L↔b≠L∧h.get? b=some o:=by
 unfold yi
 rw [rZ]
 constructor
 ·intro R4
  refine az R4 fun c hc e=>?_;try clear R4
  split at e
  ·contradiction
  ·rename_i q
   refine az (dJ.mp e) fun o' h1 h2=>?_
   clear hc e;cases h2
   exact ⟨q,h1⟩
 ·rintro ⟨h1,h2⟩
  exact (aw b (by simpa using av h2) (by rw [if_neg h1,h2];rfl))
theorem SR.fr(S:SR C KF I st s)(ok:C.OkE dep):∃m,Fr ({}:Heap) C.env.locals s.heap m∧News ({}:Heap) C.env.locals s.heap (yi s.heap C.env.locals) ∧
  ∀(h':Heap) (tk:Nat),Fr ({}:Heap) C.env.locals h' m→(∀b o,b≠C.env.locals→s.heap.get? b=some o→h'.get? b=some o)→SR C KF I st { s with heap:=h',toks:=tk }:=by
 obtain ⟨⟨m,hn,h1⟩,h2,h3,h4⟩:=S.loc
 have e0:∀b,({}:Heap).get? b=none:=fun b=>by rfl
 refine (cB m ⟨hn,fun b o e=>(by rw [e0]at e;contradiction),gm _⟩ (fun p hp=>?_) (fun h' tk F k=>?_))
 ·obtain ⟨b,o⟩:=p
  refine ao (mZ.mp hp) fun q1 q2=>?_
  exact (d9 q2 q1 (e0 b))
 ·have nI:∀a o,I a=some o→a≠C.env.locals:=fun a o e q=>by have:=(S.own a (.inl q)).1;rw [e]at this;contradiction
  have nK:∀a o,KF a=some o→a≠C.env.locals:=fun a o e q=>by have:=(S.own a (.inl q)).2.1;rw [e]at this;contradiction
  have nH:∀a c,st.H a=some c→a≠C.env.locals:=fun a o e q=>by have:=(S.own a (.inl q)).2.2;rw [e]at this;contradiction
  refine DV S.same fun hp t0 d0 es=>?_
  refine ⟨S.kle,S.low,(y9 h' tk d0 (by rw [es])),S.base,fun a o e=>k a o (nI a o e) (S.de a o e),fun a o e=>?_,S.own,fun a c e=>?_,⟨(aw m F.ns h1),fun x v hx hk=>?_,h3,fun x hk=>?_⟩⟩
  ·refine ao (S.mQ a o e) fun a1 R9=>?_;(refine az R9 fun sl a2 a3=>?_;try clear R9)
   exact (lb a1 (aw sl (k a _ (nK a o e) a2) a3))
  ·refine dO (S.mu a c e) fun a1 a2 R9=>?_;(refine az R9 fun o a3 a4=>?_;try clear R9)
   exact (d9 a1 a2 (aw o (k a o (nH a c e) a3) a4))
  ·refine dC (h2 x v hx hk) fun c u a1 a2 a3=>?_
   have hc:c≠C.env.locals:=fun q=>ok.qH x hk (q▸a1)
   refine az a2 fun o b1 b2=>?_;try clear a2
   exact (dK c u a1 (aw o (k c o hc b1) b2) a3)
  ·refine gP (h4 x hk) fun c v0 a1 a2=>?_
   have hc:c≠C.env.locals:=fun q=>ok.qH x hk (q▸a1)
   refine az a2 fun o b1 b2=>?_;try clear a2
   exact (jq c v0 a1 (aw o (k c o hc b1) b2))
theorem MV{α:Type}{rk:Nat→Nat}{P:α→Prop}{Q:α→Shared→Prop}{cmp:Nat→Nat→(Bool→Shared→Prop)→Shared→Prop}(hc:∀i j (D:Bool→Shared→Prop),i<n→j<n→i≠j→D (decide (rk i<rk j)) s→cmp i j D s)(hq:∀a,P a→Q a s):
  ∀{t:KasT α},KG n rk t P→t.kasWp cmp Q s
 | .ret a,x=>hq a x
 | .ask i j k,⟨a,b,c,x⟩=>hc i j _ a b c (MV hc hq x)
end
end
section
noncomputable def Dy(b:Bool):CV→Prop
 | .tup (.int _::_)=>b=true
 | .tup (.tup _::_)=>b=false
 | _=>False
section
variable{C:Cx} {dep:Nat} {X:XP} {st:ak} {Q:CV→ak→Prop}
theorem xX{KF I:IM}{st:ak}{s:Shared}{b:Bool}(S:SR C KF I st s):∀{cs:List CV} {vs:List Value},ck I cs vs→(∀c∈cs,Dy b c) →
  ∃fs,KatTups s.heap vs fs∧fs.length=vs.length∧∀f∈fs,pR (aS C.prog C.w) s.heap (lW f) (.type (if b then "int" else "tuple"))
 | [],vs,r,_=>by have:=r.dQ;clear r;subst this;exact (cB ([]) (.nil) rfl (fun _ h=>by cases h))
 | c::cs,vs,r,h=>by
  refine gP r.cO fun v vs G7 R9=>?_;obtain rfl:=G7;(refine ao R9 fun r1 r2=>?_;try clear R9)
  refine eZ (xX S r2 fun c hc=>h c (aG _ hc)) fun fs h1 h2 h3=>?_
  have hc:=h c aH
  cases c with
  | tup ds =>
   refine j7 (nr S r1) fun a n xs G5 R9=>?_;obtain rfl:=G5;(refine ao R9 fun ha ra=>?_;try clear R9)
   cases ds with
   | nil=>cases hc
   | cons d ds =>
    refine dC ra.cO fun f PK e rf _=>?_
    have hx:xs[0]?=some f:=by
     have:xs.toList[0]?=some f:=by rw [e];rfl
     simpa using this
    refine (cB (f::fs) (.cons ha rfl rfl hx h1) (by simp [h2]) (fun g hg=>?_))
    rcases aq.mp hg with rfl | hg
    ·cases d with
     | int i =>
      refine cG rf fun t G8=>?_;clear e hx hg rf;obtain rfl:=G8
      have:b=true:=hc
      clear h3 h hc;subst this
      exact fH rfl
     | tup es =>
      refine j7 (nr S rf) fun a' n' VO G5 R9=>?_;clear e hx hg rf;obtain rfl:=G5;(refine ao R9 fun RZ _=>?_)
      have:b=false:=hc
      clear h3 h hc;subst this
      exact (sd RZ).andThen .now
     | _=>cases hc
    ·exact h3 g hg
  | _=>cases hc
theorem aW.sorted{cs T:List CV}{rk:Nat→Nat}{b:Bool}(ok:C.Ok dep)(h2:2≤cs.length)(X6:cs.length<64)(hT:T.length=cs.length)(Ae:∀i,i<cs.length→rk i<cs.length∧T[rk i]?=cs[i]?)
  (inj:∀i j,i<cs.length→j<cs.length→rk i=rk j→i=j) (hf:∀c∈cs,Dy b c)
  (Rc:∀i j c d,cs[i]?=some c→cs[j]?=some d→i≠j→∀(KF I:IM) (s:Shared) (u v:Value) (D:Bool→Shared→Prop),SR C KF I st s→VR I c u→VR I d v→D (decide (rk i<rk j)) s→aR (aS C.prog C.w) C.A.in1.in1 (keyLt' (tuples' b) u v) D (fun _ _=>False) s)
  (h:Q (.lst T) st):aW C (.builtin "sorted") [.lst cs] [] [] st Q X:=JI fun I u ra KF s S=>by
 refine j7 ra fun a n xs G5 R9=>?_;try clear ra;obtain rfl:=G5;(refine ao R9 fun hi hr=>?_;try clear R9)
 have hlen:cs.length=xs.toList.length:=hr.length
 refine eZ (S.fr ok.toOkE) fun m F N back=>?_
 refine kat_sorted (vs:=xs.toList) F N (cB _ (S.de _ _ hi) rfl (dA n (by simp))) (by exact T2 [.l (.n 2) .x,.e .x .y] (.l (.n 2) .y) tA h2 hlen) (by exact T2 [.t .x (.n 64),.e .x .y] (.t .y (.n 64)) tA X6 hlen) fun D e1 h' F' N' hD=>?_
 have kp:∀{Jq:Heap} {o:Obj},News ({}:Heap) C.env.locals Jq ((D,o)::yi s.heap C.env.locals)→∀b o,b≠C.env.locals→s.heap.get? b=some o→Jq.get? b=some o:=fun Ul b o hb e=>(Ul (b,o) (aG _ (mZ.mpr ⟨hb,e⟩))).1
 have S':SR C KF I st { s with heap:=h' }:=back h' s.toks F' (kp N')
 have ZO:D≠C.env.locals:=(N' _ aH).2.1
 have ZP:s.heap.get? D=none:=by
  cases q:s.heap.get? D with
  | none=>rfl
  | some o=>have:=hD (D,o) (mZ.mpr ⟨ZO,q⟩);exact absurd this (eR _)
 refine eZ (xX S' hr hf) fun fs k1 k2 k3=>?_
 refine kat_kind (T:=.type (if b then "int" else "tuple")) k1 (T3 [.l (.n 2) .x,.e .x .y,.e .z .y] (.t (.n 0) .z) tA h2 hlen k2) k3 (by simp) ?_
 have hb:(dw (if b then "int" else "tuple") != dw "tuple")=b:=by clear hf Rc k3;cases b <;> decide
 rw [hb]
 have e0:∀i,xs.toList.getD i fG=(xs.toList[i]?).getD .none:=fun i=>by rw [xw]
 have X7:∀i j,i<xs.toList.length→j<xs.toList.length→rk i=rk j→i=j:=fun i j hi hj=>inj i j (T3 [.e .x .y,.t .z .y] (.t .z .x) tA hlen hi) (T3 [.e .x .y,.t .z .y] (.t .z .x) tA hlen hj)
 refine MV (rk:=rk) (n:=xs.toList.length) (fun i j P hi hj pH hP=>?_) (fun p hp=>?_) (FE X7 (T2 [.l (.n 2) .x,.e .x .y] (.l (.n 2) .y) tA h2 hlen))
 ·unfold kas_ask
  have nR:i<cs.length:=hlen▸hi
  have pz:j<cs.length:=hlen▸hj
  refine az (hr.get (i:=i) (c:=cs[i]) (by simp [nR])) fun u eu ru=>?_
  refine az (hr.get (i:=j) (c:=cs[j]) (by simp [pz])) fun v ev rv=>?_
  simp only [e0,e0,eu,ev]
  exact Rc i j cs[i] cs[j] (by simp [nR]) (by simp [pz]) pH KF I _ u v P S' ru rv hP
 ·refine ao hp fun X8 Rd=>?_
  refine KasFin.intro F' N' (.head fun q hq=>?_) fun Jq c Wn Ul=>?_
  ·obtain ⟨b,o⟩:=q
   intro e
   simp only at e
   clear N' hD kp ZO;subst e
   have:=(mZ.mp hq).2
   rw [ZP]at this;contradiction
  ·have Gi:SR C KF I st { s with heap:=Jq }:=back Jq s.toks Wn (kp Ul)
   have Gv:=(Ul _ aH).1
   refine ip (S.fresh ZP) fun n1 n2 n3 n4=>?_
   have S3:=Gi.kZ (a:=D) Gv n1 n2 n3 n4
   refine (dK (df I D _) st (dt n1) (S3.toks _) (aw (.lst T) ?_ h))
   refine (tq D c _ rfl cw (ck.mono (dt n1) _ _ ?_))
   have RT:p.size=cs.length:=by simp only [X8.size,hlen]
   have X9:∀i,i<cs.length→g0 p i<cs.length:=fun i hi=>by have:=X8.lt (i:=i) (T3 [.e .x .y,.t .z .x] (.t .z .y) tA hlen hi);exact T3 [.e .x .y,.t .z .y] (.t .z .x) tA hlen this
   have FH:∀i,i<cs.length→rk (g0 p i)=i:=by
    have lo:∀i,i<cs.length→i≤rk (g0 p i):=by
     intro i
     induction i with
     | zero=>intro _;(exact cQ _ _)
     | succ i ih=>intro hi;have:=ih (cF (by assumption));have:=Rd i (i+1) (bx _) (T3 [.e .x .y,.t (.a .z .o) .x] (.t (.a .z .o) .y) tA hlen hi);(exact bH (by assumption) (by assumption))
    have hi_:∀k i,i+k+1=cs.length→rk (g0 p i)≤i:=by
     intro k
     induction k with
     | zero=>intro i hi;have:=(Ae _ (X9 i (dP (by assumption)))).1;exact T3 [.e (.a (.a .x (.n 0)) .o) .y,.t .z .y] (.l .z .x) tA hi this
     | succ k ih=>intro i hi;have:=ih (i+1) (T3 [.e (.a (.a .x (.a .y .o)) .o) .z] (.e (.a (.a (.a .x .o) .y) .o) .z) tA hi);have:=Rd i (i+1) (bx _) (T4 [.e .x .y,.e (.a (.a .z (.a .w .o)) .o) .x] (.t (.a .z .o) .y) tA hlen hi);exact T3 [.l .x (.a .y .o),.t .z .x] (.l .z .y) tA (by assumption) this
    intro i hi
    have:=lo i hi
    have:=hi_ (cs.length-i-1) i (T2 [.u .y .x,.u .x .o,.t .z .w] (.e (.a (.a .z .x) .o) .w) tA hi)
    (exact (fx (by assumption) (by assumption)))
   have main:∀(k:Nat) ,k≤cs.length→ck I (T.take k) ((p.toList.map fun i=>xs.toList.getD i fG).take k):=by
    intro k
    induction k with
    | zero=>intro _;simpa using ck.nil
    | succ k ih =>
     intro hk
     have oQ:k<cs.length:=by assumption
     simp only [mL,mL]
     refine (ih (cF (by assumption))).append ?_
     have e1:T[k]?=cs[g0 p k]?:=by
      have:=(Ae _ (X9 k oQ)).2
      rwa [FH k oQ]at this
     have hg:g0 p k<cs.length:=X9 k oQ
     refine az (hr.get (i:=g0 p k) (c:=cs[g0 p k]) (by simp [hg])) fun u eu ru=>?_
     have e2:(p.toList.map fun i=>xs.toList.getD i fG)[k]?=some u:=by
      rw [cH]
      have:p.toList[k]?=some (g0 p k):=by
       rw [X8.at (by exact T3 [.e .x .y,.l (.a .z .o) .x] (.t .z .y) tA hlen hk)];simp
      rw [this]
      show some (xs.toList.getD (g0 p k) fG)=_
      rw [e0,eu];rfl
     simp only [e1,e2,aU hg]
     exact .cons ru .nil
   have:=main cs.length (bX _)
   rw [dM (dP (by assumption)),dM (by simp [RT])]at this
   simpa using this
end
end
section
noncomputable abbrev HP:=IM→IM→Value→Heap→ak→Prop
section
variable{C:Cx} {dep:Nat} {KF I:IM} {st:ak} {s:Shared} {X:XP} {P:HP}
noncomputable def PL(C:Cx)(e:Expr)(st:ak)(P:HP)(X:XP):Prop:=∀I KF s,SR C KF I st s →
 aR (aS C.prog C.w) C.A (gK e C.env) (fun v s'=>∃J aj,fq I J∧SR C KF J aj s'∧P KF J v s'.heap aj) (eV C KF I X) s
noncomputable def v7(C:Cx)(f:Value)(as:List CV)(st:ak)(P:HP)(X:XP):Prop:=∀I us,ck I as us→∀KF s,SR C KF I st s →
 aR (aS C.prog C.w) C.A (call f us []) (fun v s'=>∃J aj,fq I J∧SR C KF J aj s'∧P KF J v s'.heap aj) (eV C KF I X) s
theorem PL.call(ok:C.Ok dep)
  (h:WE C (.Name x px) st (fun f bJ=>∃fv,f=.raw fv∧bu C fv∧rV C es bJ (fun as cJ=>v7 C fv as cJ P X) X) X)
  (hs:es.all noStar=true:=by rfl):PL C (.Call (.Name x px) es [] pos) st P X:=fun I KF s S=>by
 show aR _ _ (do sb pos (← gK (.Name x px) C.env) [] (j5 pos (eA es C.env)) (eU pos (cX [] C.env))) _ _ s
 refine aA (aM (h I KF s S) (fun f s1 R1=>dC R1 fun J bJ l S1 hZ=>az hZ fun c r HG=>eZ HG fun fv e hf q=>?_) fun _ _ x=>x)
 subst e
 subst r
 refine nA (P:=fun h=>C.K.In h) (by rw [ir hs];rfl) hf (aM (k6 (X:=X) (kws:=[]) (Q:=fun as ks cJ=>ks=[]∧v7 C f as cJ P X) (f:=f) (pos:=pos) ?_ hs rfl J KF s1 S1) (fun a s2 R2=>dC R2 fun J2 cJ l2 S2 hZ=>BK hZ fun as ks vs r1 e r2 hk q=>⟨S2.tw ok,?_⟩) fun e s2 q=>?_)
 ·have conv:∀(es:List Expr) (st:ak) (P P':List CV→ak→Prop),(∀as st,P as st→P' as st)→rV C es st P X→rV C es st P' X:=by
   intro es
   induction es with
   | nil=>intro st P P' hp q;exact hp _ _ q
   | cons e es ih=>intro st P P' hp q;exact WE.mono q (fun b aj q=>ih _ _ _ (fun as st q=>hp _ _ q) q) fk
  exact conv es bJ _ _ (fun as cJ q=>⟨rfl,q⟩) q
 ·subst hk
  have:=r2.dQ
  clear r2;subst this
  rw [e]
  rw [rh,bg]
  exact aM (q J2 _ r1 KF s2 S2) (fun v s3 R3=>dC R3 fun J3 i8 l3 S3 r=>(dK J3 i8 (l.trans (l2.trans l3)) S3 r)) fun e s3 q=>eV.trans (l.trans l2) q
 ·exact eV.trans l q
theorem FI(h1:l1<n)(h2:l2<n):ko (n+4) (n+2) (n+3) (n+0) (n+1) l1 l2 :=
 ⟨by show n+2≠n+4;simp,by show n+3≠n+4;simp,by show n≠n+4;simp,by show n+1≠n+4;simp,by show n+2≠n+3;simp,by show n+2≠n;simp,by show n+2≠n+1;simp,by show n+3≠n;simp,by show n+3≠n+1;simp,by show n≠n+1;simp,by show l1≠n+4;exact T2 [.t .x .y] (.E .x (.a .y (.n 4))) tA h1,by show l1≠n+3;exact T2 [.t .x .y] (.E .x (.a .y (.n 3))) tA h1,by show l1≠n;(exact th (by assumption)),by show l1≠n+1;exact T2 [.t .x .y] (.E .x (.a .y .o)) tA h1,by show l2≠n+4;exact T2 [.t .x .y] (.E .x (.a .y (.n 4))) tA h2,by show l2≠n+3;exact T2 [.t .x .y] (.E .x (.a .y (.n 3))) tA h2,by show l2≠n;(exact th (by assumption)),by show l2≠n+1;exact T2 [.t .x .y] (.E .x (.a .y .o)) tA h2⟩
noncomputable def CN(C:Cx)(KF J:IM)(st:ak)(a:Addr):Prop:=J a=none∧KF a=none∧st.H a=none∧¬C.Own a
noncomputable def v8(C:Cx)(xs ys:List CV)(Q:ak→Prop):HP:=fun KF J v h st =>
 ∃(z TI TO i1 i2 l1 l2:Addr) (us ws:Array Value) (n m:Nat),v=.ref z∧ko z TI TO i1 i2 l1 l2∧YJ h z TI TO .none∧fZ h TI (.ref i1) (.ref i2)∧(∃a b,fZ h TO a b)∧h.IsListIter i1 l1 0∧h.IsListIter i2 l2 0 ∧
  J l1=some ⟨.type "list",.none,.seq us n,#[]⟩∧J l2=some ⟨.type "list",.none,.seq ws m,#[]⟩∧ck J xs us.toList∧ck J ys ws.toList∧(CN C KF J st z∧CN C KF J st TI∧CN C KF J st TO∧CN C KF J st i1∧CN C KF J st i2)∧Q st
theorem v7.zip(h:Q st):v7 C (.type "zip") [.lst xs,.lst ys] st (v8 C xs ys Q) X:=fun I us r KF s S=>by
 revert r;intro R8;refine gP R8.cO fun u Yy G7 R9=>?_;try clear R8;obtain rfl:=G7;(refine ao R9 fun ru r=>?_;try clear R9)
 revert r;intro R8;refine gP R8.cO fun v us2 G7 R9=>?_;try clear R8;obtain rfl:=G7;(refine ao R9 fun rv r=>?_;try clear R9)
 have:=r.dQ;clear r;subst this
 refine j7 ru fun l1 n us G5 R9=>?_;try clear ru;obtain rfl:=G5;(refine ao R9 fun hi hr=>?_;try clear R9)
 refine j7 rv fun l2 m ws G5 R9=>?_;try clear rv;obtain rfl:=G5;(refine ao R9 fun hj hs=>?_;try clear R9)
 have g1:=S.de _ _ hi
 have g2:=S.de _ _ hj
 refine call_zip_2 (cB _ g1 rfl (dA n rfl)) (cB _ g2 rfl (dA m rfl)) fun h' hz xY yj h1 h2 hsz hk=>?_
 have a1:=av g1
 have a2:=av g2
 have Rf:∀k,CN C KF I st (s.heap.objs.size+k):=fun k=>by
  refine ip (S.fresh (a:=s.heap.objs.size+k) (EL (bf _ _))) fun b1 b2 b3 b4=>?_
  exact (ql b1 b2 b3 b4)
 refine (dK I st (.refl I) (S.keeps (tk:=s.toks) hk) ⟨_,_,_,_,_,l1,l2,us,ws,n,m,rfl,?_,hz,xY,(Py _ _ yj),h1,h2,hi,hj,hr,hs,(JE (Rf 4) (Rf 2) (Rf 3) (Rf 0) (Rf 1)),h⟩)
 exact FI a1 a2
end
end
section
noncomputable abbrev zO(TI TO:Addr):Obj:={ cls:=.type "zip",dict:=none,data:=.fields #[.none,.bool false,.bool false,.ref TI,.ref TO],slots:=#[] }
noncomputable abbrev pO(a b:Value):Obj:={ cls:=.type "tuple",data:=.seq #[a,b] }
noncomputable def gG(xs ys:List CV):List CV:=List.zipWith (fun x y=>.tup [x,y]) xs ys
theorem jj(xs ys:List CV):(gG xs ys).length=min xs.length ys.length:=by simp [gG]
theorem xZ{xs ys:List CV}{k:Nat}{x y:CV}(h1:xs[k]?=some x)(h2:ys[k]?=some y):(gG xs ys)[k]?=some (.tup [x,y]):=by
 unfold gG;rw [List.getElem?_zipWith,h1,h2]
noncomputable def k4(KF:IM)(a b c d:Addr)(oa ob oc od:Obj):IM:=df (df (df (df KF a oa) b ob) c oc) d od
section
variable{C:Cx} {dep:Nat} {KF I:IM} {st:ak} {s:Shared} {X:XP}
theorem k9:df I a o a=some o:=by simp [df]
theorem Rg(h1:KF a=none)(h2:KF b=none)(h3:KF c=none)(h4:KF d=none):fq KF (k4 KF a b c d oa ob oc od):=fun x o e=>by
 unfold k4
 have n:∀y,KF y=none→x≠y:=fun y hy q=>by rw [q,hy]at e;contradiction
 rw [dR (n d h4),dR (n c h3),dR (n b h2),dR (n a h1)];exact e
theorem Rh(e1:a≠b)(e2:a≠c)(e3:a≠d)(e4:b≠c)(e5:b≠d)(e6:c≠d):
  k4 KF a b c d oa ob oc od a=some oa∧k4 KF a b c d oa ob oc od b=some ob∧k4 KF a b c d oa ob oc od c=some oc∧k4 KF a b c d oa ob oc od d=some od:=by
 unfold k4
 refine (ql ?_ ?_ ?_ k9)
 ·rw [dR e3,dR e2,dR e1];exact k9
 ·rw [dR e5,dR e4];exact k9
 ·rw [dR e6];exact k9
theorem SR.MW(S:SR C KF I st s)(e1:a≠b)(e2:a≠c)(e3:a≠d)(e4:b≠c)(e5:b≠d)(e6:c≠d)
  (ha:CN C KF I st a) (hb:CN C KF I st b) (hc:CN C KF I st c) (hd:CN C KF I st d) (ga:s.heap.get? a=some oa) (gb:s.heap.get? b=some ob) (gc:s.heap.get? c=some oc) (gd:s.heap.get? d=some od):SR C (k4 KF a b c d oa ob oc od) I st s:=by
 refine ip ha fun a1 a2 a3 a4=>?_;try clear ha
 refine ip hb fun b1 b2 b3 b4=>?_;try clear hb
 refine ip hc fun c1 c2 c3 c4=>?_;try clear hc
 refine ip hd fun d1 d2 d3 d4=>?_;try clear hd
 refine (((S.tU ga a1 a2 a3 a4).tU gb b1 ?_ b3 b4).tU gc c1 ?_ c3 c4).tU gd d1 ?_ d3 d4
 ·rw [dR e1.symm];exact b2
 ·rw [dR e4.symm,dR e2.symm];exact c2
 ·rw [dR e6.symm,dR e5.symm,dR e3.symm];exact d2
noncomputable def Ri(C:Cx)(KF I:IM)(z i1 i2 TO TI l1 l2:Addr)(zs:List CV)(R:List CV→ak→Prop)(N:Nat)(s':Shared):Prop :=
 ∃k J aj o1 o2 a b,N=zs.length-k∧k≤zs.length∧fq I J∧SR C (k4 KF z i1 i2 TO (zO TI TO) o1 o2 (pO a b)) J aj s' ∧
  (o1.cls=.type "list_iterator"∧o1.data=.fields #[.ref l1,.int k 0])∧(o2.cls=.type "list_iterator"∧o2.data=.fields #[.ref l2,.int k 0])∧R (zs.drop k) aj
theorem Hr(ok:C.Ok dep)(S:SR C KF I st s)
  (hz:v8 C xs ys (fun st=>ll C (.Tuple elts kk wD) body orelse (gG xs ys) st Q X) KF I v s.heap st) :
  aR (aS C.prog C.w) C.A (do let it ← holding [v] (DB v);Y8 (.forLoop (.Tuple elts kk wD) it body orelse C.env) C.env) (PQ C KF I (FQ Q)) (eV C KF I X) s:=by
 revert hz;intro R8;refine N7 R8 fun z TI TO i1 i2 l1 l2 us ws n R9=>?_;try clear R8;obtain ⟨m,rfl,D,hz,xY,⟨a0,b0,yj⟩,h1,h2,tB,rX,Rj,Rk,⟨nz,PM,Ke,n1,n2⟩,hW⟩:=R9
 refine eZ (id h1) fun o1 g1 c1 d1=>?_
 refine eZ (id h2) fun o2 g2 c2 d2=>?_
 refine aA (bS (U6 hz ?_))
 have S0:=S.kZ xY PM.1 PM.2.1 PM.2.2.1 PM.2.2.2
 have l0:fq I (df I TI (pO (.ref i1) (.ref i2))):=dt PM.1
 have up:∀{x:Addr},x≠TI→CN C KF I st x→CN C KF (df I TI (pO (.ref i1) (.ref i2))) st x:=fun hx h=>⟨by rw [dR hx];exact h.1,h.2⟩
 have nfz:=S.qy ok.toOkE nz.2.1 nz.2.2.2
 have nf1:=S.qy ok.toOkE n1.2.1 n1.2.2.2
 have nf2:=S.qy ok.toOkE n2.2.1 n2.2.2.2
 have nfO:=S.qy ok.toOkE Ke.2.1 Ke.2.2.2
 have SK:=S0.MW (a:=z) (b:=i1) (c:=i2) (d:=TO) D.i1z.symm D.i2z.symm D.TOz.symm D.i12 D.TOi1.symm D.TOi2.symm (up D.TIz.symm nz) (up D.TIi1.symm n1) (up D.TIi2.symm n2) (up D.TITO.symm Ke) hz g1 g2 yj
 let R:Result→Shared→Prop:=fun r s'=>match r with
  | .ok f=>PQ C KF I (FQ Q) f s'
  | .error e=>BZ C KF I X e s'
 refine Ih (h:=none) (dX (R:=R) ?lp fun r s' hr=>?bk)
 case bk =>
  cases r with
  | ok f=>(refine dC hr fun I' aj a b c=>?_;try clear hr);exact (dK I' aj a b c)
  | error e =>
   refine jr hr fun I' x aj a b c d=>?_;try clear hr
   exact nQ ok.toOkE b c fun vj Gi QG=>(js I' x aj a Gi QG.weak d)
 have hA:C.A.mark none=C.A:=by cases C.A;rfl
 rw [hA]
 have len:=jj xs ys
 have lx:xs.length=us.size:=by have:=Rj.length;simpa using this
 have ly:ys.length=ws.size:=by have:=Rk.length;simpa using this
 refine Mn (Ri C KF (df I TI { cls:=.type "tuple",data:=.seq #[.ref i1,.ref i2] }) z i1 i2 TO TI l1 l2 (gG xs ys) fun l st=>ll C (.Tuple elts kk wD) body orelse l st Q X) ?_ (gG xs ys).length
  (Yh 0 _ st o1 o2 a0 b0 (by simp) (by simp) (.refl _) SK (lb c1 d1) (lb c2 d2) (by simpa using hW))
 intro N s' Rl
 refine U76 Rl fun k J aj o1 o2 a b eN hk lJ S' e1 e2 hW=>?_
 clear Rl
 subst eN
 refine ao e1 fun c1 d1=>?_
 refine ao e2 fun c2 d2=>?_
 have lo:∀{oa ob oc od:Obj},fq KF (k4 KF z i1 i2 TO oa ob oc od):=Rg nz.2.1 n1.2.1 n2.2.1 Ke.2.1
 refine ip (Rh (KF:=KF) (a:=z) (b:=i1) (c:=i2) (d:=TO) (oa:=(zO TI TO)) (ob:=o1) (oc:=o2) (od:=(pO a b)) D.i1z.symm D.i2z.symm D.TOz.symm D.i12 D.TOi1.symm D.TOi2.symm) fun q1 q2 q3 q4=>?_
 have at_:∀{x:Addr} {o:Obj},k4 KF z i1 i2 TO (zO TI TO) o1 o2 (pO a b) x=some o→¬C.Fr x→J x=none∧s'.heap.get? x=some o:=fun{x o} e hf=>by
  refine ao (S'.mQ x o e) fun e1 R9=>?_;(refine az R9 fun sl e2 e3=>?_;try clear R9)
  refine ⟨e1,?_⟩
  rw [e2,e3 hf]
 refine ao (at_ q1 nfz) fun jz gz=>?_
 refine ao (at_ q2 nf1) fun j1 g1=>?_
 refine ao (at_ q3 nf2) fun j2 g2=>?_
 refine ao (at_ q4 nfO) fun jO gO=>?_
 have ZQ:fZ s'.heap TI (.ref i1) (.ref i2):=S'.de _ _ (lJ _ _ (by simp [df]))
 have Jl:fq I J:=l0.trans lJ
 have kI:∀x o,I x=some o→s'.heap.get? x=some o:=fun x o e=>S'.de x o (Jl x o e)
 have L1:s'.heap.IsList l1 us:=(cB _ (kI _ _ tB) rfl (dA n rfl))
 have L2:s'.heap.IsList l2 ws:=(cB _ (kI _ _ rX) rfl (dA m rfl))
 have I1:s'.heap.IsListIter i1 l1 k:=(cB o1 g1 c1 d1)
 have I2:s'.heap.IsListIter i2 l2 k:=(cB o2 g2 c2 d2)
 have ZR:∀{x:Addr} {o:Obj},k4 KF z i1 i2 TO (zO TI TO) o1 o2 (pO a b) x=some o→aj.H x=none:=fun{x o} e=>by
  cases q:aj.H x with
  | none=>rfl
  | some cc=>have:=(S'.mu x cc q).2.1;rw [e]at this;contradiction
 have forget:∀(dS:Heap),(∀c o,c≠z→c≠TO→c≠i1→c≠i2→s'.heap.get? c=some o→dS.get? c=some o)→SR C KF J aj { s' with heap:=dS,toks:=s'.toks }:=fun dS jD=>by
  refine (S'.g7 lo S.kle).heap fun x ob e hb=>?_
  have bad:∀{y:Addr} {o:Obj},k4 KF z i1 i2 TO (zO TI TO) o1 o2 (pO a b) y=some o→J y=none→KF y=none→¬C.Own y→x≠y:=fun{y o} e1 e2 e3 e4 q=>by
   subst q
   rcases hb with hb | hb | hb | hb
   ·exact hb e2
   ·exact hb e3
   ·exact hb (ZR e1)
   ·exact e4 hb
  exact jD x ob (bad q1 jz nz.2.1 nz.2.2.2) (bad q4 jO Ke.2.1 Ke.2.2.2) (bad q2 j1 n1.2.1 n1.2.2.2) (bad q3 j2 n2.2.1 n2.2.2.2) e
 by_cases fM:k<(gG xs ys).length
 ·rw [len]at fM
  have hx:k<xs.length:=T3 [.i .y .z,.t .y .x] (.t .y .z) tA fM
  have hy:k<ys.length:=T3 [.i .y .z,.t .y .x] (.t .y .w) tA fM
  refine az (Rj.get (i:=k) (c:=xs[k]) (by simp [hx])) fun ux XA rx=>?_
  refine az (Rk.get (i:=k) (c:=ys[k]) (by simp [hy])) fun uy XB ry=>?_
  have hc:(gG xs ys)[k]?=some (.tup [xs[k],ys[k]]):=xZ (by simp [hx]) (by simp [hy])
  have FJ:k<(gG xs ys).length:=by rw [len];exact fM
  have Gn:(gG xs ys).drop k=.tup [xs[k],ys[k]]::(gG xs ys).drop (k+1):=by
   rw [ey FJ]
   rw [aU FJ]at hc
   rw [aE hc]
  rw [Gn]at hW
  refine JQ D gz ZQ gO I1 I2 L1 L2 (by simpa using XA) (by simpa using XB) fun fz CP v9 yk yl lP ZT Gm=>?_
  have ZU:∀{x:Addr} {o:Obj},s'.heap.get? x=some o→s'.heap.objs.size≠x:=fun e=>cW (av e)
  refine wpAny_letOwnedTupleGo_zip (s:={ s' with heap:=fz }) CP fun dS XC Rm=>?_
  have k2:∀c o,c≠z→fz.get? c=some o→dS.get? c=some o:=fun c o e1 e2=>(Rm.2 c e1).trans e2
  have Sx:SR C KF J aj { s' with heap:=dS,toks:=s'.toks }:=forget dS fun c o e1 e2 e3 e4 e=>k2 c o e1 (Gm c o e1 e2 e3 e4 e)
  have pT:dS.get? s'.heap.objs.size=some (pO ux uy):=k2 _ _ (ZU gz) lP
  refine ip S'.Ba fun t1 t2 t3 t4=>?_
  have t2':KF s'.heap.objs.size=none:=by
   cases q:KF s'.heap.objs.size with
   | none=>rfl
   | some o=>rw [lo _ _ q]at t2;contradiction
  have ST:=Sx.kZ pT t1 t2' t3 t4
  have lT:fq J (df J s'.heap.objs.size (pO ux uy)):=dt t1
  refine eZ yk fun ZV g1' c1' d1'=>?_;try clear yk
  refine eZ yl fun ZW g2' c2' QT=>?_;try clear yl
  have Kf:∀{x:Addr} {o:Obj},k4 KF z i1 i2 TO (zO TI TO) o1 o2 (pO a b) x=some o→s'.heap.get? x=some o→J x=none→CN C KF I st x→CN C KF (df J s'.heap.objs.size (pO ux uy)) aj x :=
   fun e g j n=>(ql (by rw [dR (ZU g).symm];exact j) n.2.1 (ZR e) n.2.2.2)
  have Sy:=ST.MW (a:=z) (b:=i1) (c:=i2) (d:=TO) D.i1z.symm D.i2z.symm D.TOz.symm D.i12 D.TOi1.symm D.TOi2.symm (Kf q1 gz jz nz) (Kf q2 g1 j1 n1) (Kf q3 g2 j2 n2) (Kf q4 gO jO Ke)
   XC (k2 _ _ D.i1z g1') (k2 _ _ D.i2z g2') (k2 _ _ D.TOz v9)
  have rT:VR (df J s'.heap.objs.size (pO ux uy)) (.tup [xs[k],ys[k]]) (.ref s'.heap.objs.size):=by
   exact (tq _ 0 (#[ux,uy]) rfl k9 (.cons (VR.mono (Jl.trans lT) _ _ rx) (.cons (VR.mono (Jl.trans lT) _ _ ry) .nil)))
  refine aM (hW _ _ rT _ _ Sy) (fun _ s3 W6=>dC W6 fun J3 i8 l3 S3 XD=>?_) fun e s3 W7=>jr W7 fun J3 x i8 l3 S3 x3 XD=>cf ok.toOkE S3 x3 fun s4 S4 X4=>(js _ x _ (Jl.trans (lT.trans l3)) (S4.g7 lo S.kle) (X4.g7 lo) XD)
  refine aM (XD J3 _ _ S3) (fun f s4 W8=>dC W8 fun J4 vk l4 S4 hZ=>az hZ fun bb hb PN=>?_) fun e s4 W9=>jr W9 fun J4 x vk l4 S4 x4 PN=>cf ok.toOkE S4 x4 fun s5 S5 X5=>(js _ x _ (Jl.trans (lT.trans (l3.trans l4))) (S5.g7 lo S.kle) (X5.g7 lo) PN)
  have XE:=lT.trans (l3.trans l4)
  have again:∀{vk},SR C (k4 KF z i1 i2 TO (zO TI TO) ZV ZW (pO ux uy)) J4 vk s4→ll C (.Tuple elts kk wD) body orelse ((gG xs ys).drop (k+1)) vk Q X→∃m,m<(gG xs ys).length-k∧Ri C KF (df I TI { cls:=.type "tuple",data:=.seq #[.ref i1,.ref i2] }) z i1 i2 TO TI l1 l2 (gG xs ys) (fun l st=>ll C (.Tuple elts kk wD) body orelse l st Q X) m s4:=fun S4 q =>
   (aw _ (cU FJ (bx _)) (Yh (k+1) J4 _ ZV ZW ux uy rfl FJ (lJ.trans XE) S4 (lb c1' d1') (lb c2' QT) q))
  cases bb with
  | next =>
   clear W8;cases hb
   exact again S4 PN
  | cont =>
   clear W8;cases hb
   exact again S4 PN
  | brk=>clear W8;cases hb;exact (dK J4 vk (Jl.trans XE) (S4.g7 lo S.kle) (aw (.next) rfl PN))
  | ret c=>(refine az hb fun u' G8 r'=>?_;try clear hb;clear W8;obtain rfl:=G8);exact (dK J4 vk (Jl.trans XE) (S4.g7 lo S.kle) (aw (.ret c) (aw u' rfl r') PN))
 ·have mn:k=min us.size ws.size:=T6 [.i .y .z,.i .s .t,.e .z .y,.e .w .t,.e .s .b,.l .c .z,.T .c .z] (.e .c .x) tA len lx ly hk fM
  have wK:us[k]?=none∨ws[k]?=none:=by
   rcases D7 us.size ws.size with h | h
   ·exact .inl (eD (T3 [.i .y .z,.e .y .x,.l .z .w] (.l .z .y) tA mn h))
   ·exact .inr (eD (T3 [.i .y .z,.e .y .x,.l .w .z] (.l .w .y) tA mn h))
  refine Lc ok.hd D gz ZQ gO I1 I2 L1 L2 wK fun dS jD=>?_
  have Sx:=forget dS jD
  rw [List.drop_of_length_le (bV (by assumption))]at hW
  exact aM (hW J KF _ Sx) (fun f s3 R0=>dC R0 fun J3 i8 l3 S3 q3=>(dK J3 i8 (Jl.trans l3) S3 q3)) fun e s3 R1=>jr R1 fun J3 x i8 l3 S3 x3 q3=>cf ok.toOkE S3 x3 fun s4 S4 X4=>(js _ x _ (Jl.trans l3) S4 X4 q3)
theorem WS.Nx(ok:C.Ok dep)
  (h:PL C iter st (v8 C xs ys (fun st=>ll C (.Tuple elts kk wD) body orelse (gG xs ys) st Q X)) X)
  (hs:∀x,cM iter C.env x=pure x:=by intro _;rfl):WS C (.For (.Tuple elts kk wD) iter body orelse pos) st Q X:=fun I KF s S=>by
 dsimp only [exec_For]
 refine aA (ej (aA (aM (h I KF s S) (fun v s1 R2=>dC R2 fun J bJ l S1 hz=>?_) fun _ _ x=>x)))
 rw [hs v]
 refine aA (aC (aA (ej ?_)))
 exact aM (Hr ok S1 hz) (fun f s2 R3=>dC R3 fun J2 cJ l2 S2 r=>(dK J2 cJ (l.trans l2) S2 r)) fun e s2 q=>eV.trans l q
end
end
section
noncomputable abbrev kA(h:Heap)(z TI TO T:Addr)(b:Bool):Prop :=
 h.get? z=some { cls:=.type "zip",dict:=none,data:=.fields #[kK T,.bool b,.bool false,.ref TI,.ref TO],slots:=#[] }
section
variable{prog:Program} {w:World} {A:eh} {E:Value→Shared→Prop} {s:Shared}
theorem Ag{z TI TO T:Addr}{b:Bool}{oT:Obj}(hz:kA s.heap z TI TO T b)(hT:s.heap.get? T=some oT)
  (h:∀h',kA h' z TI TO T true→BP z s.heap h'→Q false { s with heap:=h' }):aR (aS prog w) A (di (.ref z)) Q E s:=by
 unfold di
 refine aA (dj hz rfl (x:=kK T) rfl ?_)
 show aR _ _ (loadIfAlive T >>= _) _ _ _
 refine aA (kdx_alive hT ?_)
 simp only [Option.isNone_some,aL,if_false]
 refine aA (dj hz rfl (x:=.bool b) rfl ?_)
 cases b with
 | true=>exact aC (h _ hz ⟨rfl,fun _ _=>rfl⟩)
 | false =>
  show aR _ _ (setField (.ref z) 1 (.bool true) >>= fun _=>pure false) _ _ _
  exact aA (wpAny_setField_rec hz (by simp) fun h' hz' xa=>aC (h h' hz' xa))
theorem wL{z TI TO i1 i2 l1 l2 T:Addr}{bb:Bool}{oT:Obj}{k1 k2:Nat}{xs ys:Array Value}{x y:Value}{Q:Value→Shared→Prop}(D:ko z TI TO i1 i2 l1 l2)
  (hz:kA s.heap z TI TO T bb) (hT:s.heap.get? T=some oT) (xY:fZ s.heap TI (.ref i1) (.ref i2))
  (h1:s.heap.IsListIter i1 l1 k1) (h2:s.heap.IsListIter i2 l2 k2) (tB:s.heap.IsList l1 xs) (rX:s.heap.IsList l2 ys) (hx:xs[k1]?=some x) (hy:ys[k2]?=some y)
  (hQ:∀h',kA h' z TI TO T true→h'.IsListIter i1 l1 (k1+1)→h'.IsListIter i2 l2 (k2+1)→h'.objs.size=s.heap.objs.size+1→fZ h' s.heap.objs.size x y →
   (∀c o,c≠z→c≠i1→c≠i2→s.heap.get? c=some o→h'.get? c=some o)→Q (.ref s.heap.objs.size) { s with heap:=h' }) :
  aR (aS prog w) A (eF.«zip.__next__» ⟨[.ref z],[]⟩) (fun fin s'=>∃v,fin=.done (.ret v)∧Q v s') E s:=by
 show aR _ _ (field (.ref z) 2 >>= _) _ _ _
 refine aA (dj hz rfl (x:=.bool false) rfl ?_)
 show aR _ _ (field (.ref z) 3 >>= _) _ _ _
 refine aA (dj hz rfl (x:=.ref TI) rfl ?_)
 refine aA (se xY rfl ?_)
 show aR _ _ (di (.ref z) >>= _) _ _ _
 refine aA (Ag hz hT fun fz MX je=>?_)
 simp only [aL,if_false]
 refine aA ?_
 simp only [Ga,fA,lB]
 refine aA (aA (bS ?_))
 show aR _ _ (ij (.ref i1) >>= _) _ _ _
 refine aA (Iz (h1.extBut je.extBut D.i1z) (tB.extBut je.extBut D.l1z) hx fun dS Rn pj=>aC ?_)
 refine aC ?_
 dsimp only
 refine aA (aA (bS ?_))
 show aR _ _ (ij (.ref i2) >>= _) _ _ _
 refine aA (Iz ((h2.extBut je.extBut D.i2z).extBut pj.extBut D.i12.symm) ((rX.extBut je.extBut D.l2z).extBut pj.extBut D.l2i1) hy fun fU Ro Dz=>aC ?_)
 refine aC ?_
 dsimp only
 refine aC ?_
 refine aA (wpAny_newTuple ?_ (by show 2≤bZ;rw [aa];(exact cQ _ _)))
 have hsz:fU.objs.size=s.heap.objs.size:=by simp only [Dz.1,pj.1,je.1]
 have Rp:∀c o,c≠z→c≠i1→c≠i2→s.heap.get? c=some o→fU.get? c=some o:=fun c o c1 c3 c4 e=>Dz.extBut _ _ c4 (pj.extBut _ _ c3 (je.extBut _ _ c1 e))
 have Rq:kA fU z TI TO T true:=Dz.extBut _ _ D.i2z.symm (pj.extBut _ _ D.i1z.symm MX)
 have Rr:fU.IsListIter i1 l1 (k1+1):=Rn.extBut Dz.extBut D.i12
 refine aC (aw _ rfl ?_)
 show Q (.ref fU.objs.size) { s with heap:=fU.push { cls:=.type "tuple",data:=.seq #[x,y] } }
 have up:∀c o,fU.get? c=some o→(fU.push { cls:=.type "tuple",data:=.seq #[x,y] }).get? c=some o:=fun c o e=>aX _ e
 have hp:(fU.push { cls:=.type "tuple",data:=.seq #[x,y] }).get? fU.objs.size=some { cls:=.type "tuple",data:=.seq #[x,y] }:=cR _ rfl
 rw [hsz]at hp ⊢
 exact hQ _ (up _ _ Rq) (Rr.at fun o e=>up _ o e) (Ro.at fun o e=>up _ o e) (by rw [Mr,hsz]) hp fun c o c1 c3 c4 e=>up c o (Rp c o c1 c3 c4 e)
theorem rG{z TI TO i1 i2 l1 l2 T:Addr}{bb:Bool}{oT:Obj}{k1:Nat}{xs:Array Value}(hh:A.handled=none)(D:ko z TI TO i1 i2 l1 l2)
  (hz:kA s.heap z TI TO T bb) (hT:s.heap.get? T=some oT) (xY:fZ s.heap TI (.ref i1) (.ref i2))
  (h1:s.heap.IsListIter i1 l1 k1) (tB:s.heap.IsList l1 xs) (hx:xs[k1]?=none)
  (hE:∀h' e,(∀c o,c≠z→c≠i1→s.heap.get? c=some o→h'.get? c=some o)→(∃o,h'.get? e=some o∧o.cls=.type "StopIteration")→E (.ref e) { s with heap:=h' }) :
  aR (aS prog w) A (eF.«zip.__next__» ⟨[.ref z],[]⟩) Q E s:=by
 show aR _ _ (field (.ref z) 2 >>= _) _ _ _
 refine aA (dj hz rfl (x:=.bool false) rfl ?_)
 show aR _ _ (field (.ref z) 3 >>= _) _ _ _
 refine aA (dj hz rfl (x:=.ref TI) rfl ?_)
 refine aA (se xY rfl ?_)
 show aR _ _ (di (.ref z) >>= _) _ _ _
 refine aA (Ag hz hT fun fz MX je=>?_)
 simp only [aL,if_false]
 refine aA ?_
 simp only [Ga,fA,lB]
 refine aA (aA (bS ?_))
 show aR _ _ (ij (.ref i1) >>= _) _ _ _
 refine aA (wpAny_nextOf_list_end hh (h1.extBut je.extBut D.i1z) (tB.extBut je.extBut D.l1z) hx fun dS e pj he=>?_)
 exact hE dS e (fun c o c1 c3 x=>pj _ _ c3 (je.extBut _ _ c1 x)) he
theorem Ah{z TI TO i1 i2 l1 l2 T:Addr}{bb:Bool}{oT:Obj}{k1 k2:Nat}{xs ys:Array Value}{x y:Value}(D:ko z TI TO i1 i2 l1 l2)
  (hz:kA s.heap z TI TO T bb) (hT:s.heap.get? T=some oT) (xY:fZ s.heap TI (.ref i1) (.ref i2))
  (h1:s.heap.IsListIter i1 l1 k1) (h2:s.heap.IsListIter i2 l2 k2) (tB:s.heap.IsList l1 xs) (rX:s.heap.IsList l2 ys) (hx:xs[k1]?=some x) (hy:ys[k2]?=some y)
  (hQ:∀h',kA h' z TI TO T true→h'.IsListIter i1 l1 (k1+1)→h'.IsListIter i2 l2 (k2+1)→h'.objs.size=s.heap.objs.size+1→fZ h' s.heap.objs.size x y →
   (∀c o,c≠z→c≠i1→c≠i2→s.heap.get? c=some o→h'.get? c=some o)→Q (some (.ref s.heap.objs.size)) { s with heap:=h' }) :
  aR (aS prog w) A (kN (.ref z)) Q E s:=by
 have KZ:s.TypeIs (.ref z) "zip":=(aw _ hz rfl)
 unfold kN
 exact aA (GD (pS (name:=aB "__next__") KZ F.slot_zip_next
  (pQ F.slot_zip_next KZ F.entry_zip_next
   (wL D hz hT xY h1 h2 tB rX hx hy fun h' a1 a2 a3 a4 a5 a6=>aC (hQ h' a1 a2 a3 a4 a5 a6)) (F.args_zip_next_1 _))))
theorem tY{z TI TO i1 i2 l1 l2 T:Addr}{bb:Bool}{oT:Obj}{k1:Nat}{xs:Array Value}(hh:A.handled=none)(D:ko z TI TO i1 i2 l1 l2)
  (hz:kA s.heap z TI TO T bb) (hT:s.heap.get? T=some oT) (xY:fZ s.heap TI (.ref i1) (.ref i2))
  (h1:s.heap.IsListIter i1 l1 k1) (tB:s.heap.IsList l1 xs) (hx:xs[k1]?=none)
  (hQ:∀h',(∀c o,c≠z→c≠i1→s.heap.get? c=some o→h'.get? c=some o)→Q none { s with heap:=h' }):aR (aS prog w) A (kN (.ref z)) Q E s:=by
 have KZ:s.TypeIs (.ref z) "zip":=(aw _ hz rfl)
 unfold kN
 refine aA (GD (pS (name:=aB "__next__") KZ F.slot_zip_next
  (pQ F.slot_zip_next KZ F.entry_zip_next (rG hh D hz hT xY h1 tB hx fun h' e hk he=>?_) (F.args_zip_next_1 _))))
 refine az he fun o ho hc=>?_
 refine aA (pY (T := "StopIteration") (b:=true) (aw o ho hc) isSubtype_stop ?_)
 exact aC (hQ _ hk)
end
end
section
structure ZS(h0:Heap)(z TI TO i1 i2 l1 l2 S:Addr)(xs ys:Array Value)(i:Nat)(acc:Array Value)(h:Heap):Prop where
 own:(i=0∧YJ h z TI TO .none∧∃a b,fZ h TO a b)∨(∃T b oT,kA h z TI TO T b∧h.get? T=some oT∧T≠z∧T≠i1∧T≠i2∧T≠S)
 to:∃o,h.get? TO=some o
 ti:fZ h TI (.ref i1) (.ref i2)
 Rt:h.IsListIter i1 l1 i
 Um:h.IsListIter i2 l2 i
 Ru:h.IsList l1 xs
 Un:h.IsList l2 ys
 s:∃c,h.get? S=some { cls:=.type "list",dict:=none,data:=.seq acc c,slots:=#[] }
 sz:acc.size=i
 items:∀j,j<i→∃T x y,acc[j]?=some (.ref T)∧xs[j]?=some x∧ys[j]?=some y∧fZ h T x y∧T≠z∧T≠TO∧T≠i1∧T≠i2∧T≠S∧h0.get? T=none
theorem ZS.Rv(Z:ZS h0 z TI TO i1 i2 l1 l2 S xs ys i acc h):∃o,h.get? z=some o∧o.cls=.type "zip":=by
 refine fY Z.own (fun R7=>?R6) (fun R7=>?R5);(case' R5=>(refine j7 R7 fun T b oT h1 _=>?_));(case' R6=>(refine dO R7 fun _ h1 _=>?_))
 ·exact (aw _ h1 rfl)
 ·exact (aw _ h1 rfl)
section
variable{prog:Program} {w:World} {A:eh} {E:Value→Shared→Prop} {s:Shared}
theorem CQ(D:ko z TI TO i1 i2 l1 l2)(hS:S≠z∧S≠TI∧S≠TO∧S≠i1∧S≠i2∧S≠l1∧S≠l2)(hl:xs.size=ys.size)(hn:xs.size≤1000)(hh:A.handled=none)(res:Value):
  ∀(k i:Nat) (s:Shared) (acc:Array Value),xs.size-i=k→i≤xs.size→ZS h0 z TI TO i1 i2 l1 l2 S xs ys i acc s.heap →
  (∀c o,c≠z→c≠TO→c≠i1→c≠i2→c≠S→h0.get? c=some o→s.heap.get? c=some o) →
  (∀(h':Heap) (nW:Array Value),(∃c,h'.get? S=some { cls:=.type "list",dict:=none,data:=.seq nW c,slots:=#[] })→nW.size=xs.size →
   (∀j,j<xs.size→∃T x y,nW[j]?=some (.ref T)∧xs[j]?=some x∧ys[j]?=some y∧fZ h' T x y∧h0.get? T=none) →
   (∀c o,c≠z→c≠TO→c≠i1→c≠i2→c≠S→h0.get? c=some o→h'.get? c=some o)→R (.ok (.ret res)) { s with heap:=h' }) →
  gq (aS prog w) A (.builtin "list.extend.loop" ⟨[.ref S,.ref z,res],[]⟩) R s:=by
 refine Ou hS fun s1 s2 s3 s4 s5 s6 s7=>?_
 have ZX:A.in1.handled=none:=hh
 intro k
 induction k with
 | zero =>
  intro i s acc hk hi Z kp hR
  have zc:i=xs.size:=T2 [.u .x .y,.e .x (.n 0),.l .z .y] (.e .z .y) tA hk hi
  refine ig F.entry_extend_loop ?_
  rw [jR F.plain_extend_loop _]
  show aR _ A.in1 (kN (.ref z) >>= _) _ _ s
  have hx:xs[i]?=none:=eD (dP (Eq.symm (by assumption)))
  refine cG Z.s fun c hc=>?_
  refine fY Z.own (fun R7=>?R6) (fun R7=>?R5);(case' R5=>obtain ⟨T,b,oT,hz,hT,t1,t2,t3,t4⟩:=R7);(case' R6=>obtain ⟨Nu,hz,a,b,yj⟩:=R7)
  ·refine aA (Lc ZX D hz Z.ti yj Z.Rt Z.Um Z.Ru Z.Un (.inl hx) fun h' oQ=>aC ?_)
   refine hR h' acc (dA c (oQ _ _ s1 s3 s4 s5 hc)) (by rw [Z.sz];exact zc) (fun j hj=>?_) fun c o c1 c2 c3 c4 c5 e=>oQ c o c1 c2 c3 c4 (kp c o c1 c2 c3 c4 c5 e)
   refine VH (Z.items j (T3 [.e .x .y,.t .z .y] (.t .z .x) tA zc hj)) fun T x y e1 e2 e3 e4 e5 e6 e7 R9=>?_;(refine dO R9 fun e8 e9 eN=>?_)
   exact (JF T x y e1 e2 e3 (oQ _ _ e5 e6 e7 e8 e4) eN)
  ·refine aA (tY ZX D hz hT Z.ti Z.Rt Z.Ru hx fun h' oQ=>aC ?_)
   refine hR h' acc (dA c (oQ _ _ s1 s4 hc)) (by rw [Z.sz];exact zc) (fun j hj=>?_) fun c o c1 c2 c3 c4 c5 e=>oQ c o c1 c3 (kp c o c1 c2 c3 c4 c5 e)
   refine VH (Z.items j (T3 [.e .x .y,.t .z .y] (.t .z .x) tA zc hj)) fun T x y e1 e2 e3 e4 e5 e6 e7 R9=>?_;(refine dO R9 fun e8 e9 eN=>?_)
   exact (JF T x y e1 e2 e3 (oQ _ _ e5 e7 e4) eN)
 | succ k ih =>
  intro i s acc hk hi Z kp hR
  have fM:i<xs.size:=T3 [.u .x .y,.e .x (.a .w .o)] (.t .z .y) tA hk
  have FJ:i<ys.size:=T3 [.e .x .y,.t .z .x] (.t .z .y) tA hl fM
  refine ig F.entry_extend_loop ?_
  rw [jR F.plain_extend_loop _]
  show aR _ A.in1 (kN (.ref z) >>= _) _ _ s
  refine cG Z.s fun c hc=>?_
  have hx:xs[i]?=some xs[i]:=lX fM
  have hy:ys[i]?=some ys[i]:=lX FJ
  have ne:∀{x:Addr} {o:Obj},s.heap.get? x=some o→s.heap.objs.size≠x:=fun e=>cW (av e)
  refine az Z.Rv fun oz XF _=>?_
  refine az (id Z.Rt) fun o1 PO _=>?_
  refine az (id Z.Um) fun o2 XG _=>?_
  have XH:h0.get? s.heap.objs.size=none:=by
   cases q:h0.get? s.heap.objs.size with
   | none=>rfl
   | some o =>
    refine cG Z.to fun oO hO=>?_
    have:=kp _ o (ne XF) (ne hO) (ne PO) (ne XG) (ne hc) q
    rw [gQ]at this;contradiction
  have turn:∀fz:Heap,(∃T b oT,kA fz z TI TO T b∧fz.get? T=some oT∧T≠z∧T≠i1∧T≠i2∧T≠S)→fz.IsListIter i1 l1 (i+1)→fz.IsListIter i2 l2 (i+1)→fZ fz s.heap.objs.size xs[i] ys[i]→(∃o,fz.get? TO=some o) →
    (∀c o,c≠z→c≠TO→c≠i1→c≠i2→s.heap.get? c=some o→fz.get? c=some o) →
    aR (aS prog w) A.in1 (zN S (·.push (.ref s.heap.objs.size)) >>= fun _=>again (.builtin "list.extend.loop" ⟨[.ref S,.ref z,res],[]⟩))
     (fun fin s'=>match fin with | .done f=>R (.ok f) s' | .again c'=>c'.quiet=true∧gq (aS prog w) A c' R s') (fun e s'=>R (.error e) s') { s with heap:=fz }:=by
   intro fz hZ yk yl lP HG k₁
   refine UG hZ fun T b oT CP hT t1 t2 t3 t4=>cG HG fun oTO yj=>?_
   clear hZ HG
   have Rw:s.heap.objs.size≠TO:=by (refine cG Z.to fun o ho=>?_);exact ne ho
   have MY:fz.get? S=some { cls:=.type "list",dict:=none,data:=.seq acc c,slots:=#[] }:=k₁ _ _ s1 s3 s4 s5 hc
   have E0:=cC (dm (·.push (dD s.heap.objs.size))) MY rfl
   have vo:∀b o,b≠S→fz.get? b=some o→(fz.update S (dm (·.push (dD s.heap.objs.size)))).get? b=some o:=fun b o hb e=>(cL _ _ (aN hb)).trans e
   have Rx:=Z.sz
   refine aA (lV MY rfl (aC ⟨oG F.plain_extend_loop _,?_⟩) (by simp only [Rx,aa];exact T2 [.l .x (.n 1000),.t .y .x] (.l .y (.n 16777216)) tA hn fM) (by show (acc.push _).size≤bZ+1;rw [nO,Rx,aa];exact T2 [.l .x (.n 1000),.t .y .x] (.l (.a .y .o) (.a (.n 16777216) .o)) tA hn fM))
   refine ih (i+1) { s with heap:=fz.update S (dm (·.push (dD s.heap.objs.size))) } (acc.push (.ref s.heap.objs.size)) (T3 [.u .x .y,.u .y (.a .z .o),.e .y (.a .s .o)] (.e .x .s) tA hk) (by assumption) ⟨?_,(dA oTO (vo _ _ (aN s3) yj)),?_,?_,?_,?_,?_,(dA _ E0),?_,?_⟩ (fun c o c1 c2 c3 c4 c5 e=>vo _ _ c5 (k₁ c o c1 c2 c3 c4 (kp c o c1 c2 c3 c4 c5 e))) fun h' nW g1 g2 g3 g4=>hR h' nW g1 g2 g3 g4
   ·exact .inr (DW T b oT (vo _ _ (aN s1) CP) (vo _ _ t4 hT) t1 t2 t3 t4)
   ·exact vo _ _ (aN s2) (k₁ _ _ D.TIz D.TITO D.TIi1 D.TIi2 Z.ti)
   ·exact yk.at fun o e=>vo _ _ (aN s4) e
   ·exact yl.at fun o e=>vo _ _ (aN s5) e
   ·exact Z.Ru.at fun o e=>vo _ _ (aN s6) (k₁ _ _ D.l1z D.l1TO D.l1i1 D.l1i2 e)
   ·exact Z.Un.at fun o e=>vo _ _ (aN s7) (k₁ _ _ D.l2z D.l2TO D.l2i1 D.l2i2 e)
   ·rw [nO,Rx]
   ·intro j hj
    by_cases XI:j=i
    ·clear hk hi Z yk yl hj;subst XI
     exact (Yb s.heap.objs.size (xs[j]) (ys[j]) (by rw [qg,if_pos Rx.symm]) hx hy (vo _ _ (ne hc) lP) (ne XF) Rw (ne PO) (ne XG) (ne hc) XH)
    ·refine VH (Z.items j (T2 [.t .x (.a .y .o),.E .x .y] (.t .x .y) tA hj XI)) fun T' x y e1 e2 e3 e4 e5 e6 e7 R9=>?_;(refine dO R9 fun e8 e9 eN=>?_)
     refine (Yb T' x y ?_ e2 e3 (vo _ _ e9 (k₁ _ _ e5 e6 e7 e8 e4)) e5 e6 e7 e8 e9 eN)
     rw [qg,if_neg (by exact T3 [.e .x .y,.E .z .y] (.E .z .x) tA Rx XI)]
     exact e1
  rcases Z.own with ⟨Nu,hz,a,b,yj⟩ | ⟨T,b,oT,hz,hT,t1,t2,t3,t4⟩
  ·refine aA (JQ D hz Z.ti yj Z.Rt Z.Um Z.Ru Z.Un hx hy fun fz CP v9 yk yl lP _ k₁=>?_)
   exact turn fz (DW s.heap.objs.size false _ CP lP (ne XF) (ne PO) (ne XG) (ne hc)) yk yl lP (dA _ v9) k₁
  ·refine aA (Ah D hz hT Z.ti Z.Rt Z.Um Z.Ru Z.Un hx hy fun fz CP yk yl _ lP k₁=>?_)
   refine turn fz (DW T true oT CP (k₁ _ _ t1 t2 t3 hT) t1 t2 t3 t4) yk yl lP ?_ fun c o c1 c2 c3 c4 e=>k₁ c o c1 c3 c4 e
   refine cG Z.to fun o ho=>?_
   exact (dA o (k₁ _ _ D.TOz D.TOi1 D.TOi2 ho))
end
end
section
theorem CR:vc (.type "zip") "__len__" = pure none:=by rw [gV,dq];kernel_rfl
theorem Ai:vc (.type "zip") "__length_hint__" = pure none:=by rw [gV,dq];kernel_rfl
section
variable{prog:Program} {w:World} {A:eh} {E:Value→Shared→Prop} {s:Shared}
theorem vA(D:ko z TI TO i1 i2 l1 l2)(hS:S≠z∧S≠TI∧S≠TO∧S≠i1∧S≠i2∧S≠l1∧S≠l2)(hl:xs.size=ys.size)(hn:xs.size≤1000)(hh:A.handled=none)(res:Value)
  (hz:YJ s.heap z TI TO .none) (xY:fZ s.heap TI (.ref i1) (.ref i2)) (yj:fZ s.heap TO a b) (h1:s.heap.IsListIter i1 l1 0) (h2:s.heap.IsListIter i2 l2 0) (tB:s.heap.IsList l1 xs) (rX:s.heap.IsList l2 ys)
  (Ny:s.heap.get? S=some { cls:=.type "list",data:=.seq #[] c₀ })
  (hR:∀(h':Heap) (nW:Array Value),(∃c,h'.get? S=some { cls:=.type "list",dict:=none,data:=.seq nW c,slots:=#[] })→nW.size=xs.size →
   (∀j,j<xs.size→∃T x y,nW[j]?=some (.ref T)∧xs[j]?=some x∧ys[j]?=some y∧fZ h' T x y∧s.heap.get? T=none) →
   (∀c o,c≠z→c≠TO→c≠i1→c≠i2→c≠S→s.heap.get? c=some o→h'.get? c=some o)→R (.ok (.ret res)) { s with heap:=h' }) :
  aR (aS prog w) A.in1 (fe (.ref S) (.ref z) res)
   (fun fin s'=>match fin with | .done f=>R (.ok f) s' | .again c'=>c'.quiet=true∧gq (aS prog w) A c' R s') (fun e s'=>R (.error e) s') s:=by
 refine Ou (id hS) fun s1 s2 s3 s4 s5 s6 s7=>?_
 unfold fe
 have hT:s.TypeIs (.ref z) "zip":=(aw _ hz rfl)
 refine aA (Ir hT ?_)
 have q1:tR (.ref S) (.ref z)=false:=by simp [tR,s1]
 have q2:(dw "zip" == dw "list")=false:=by decide
 have q3:(dw "zip" == dw "tuple")=false:=by decide
 dsimp only [iF,iT,iG,iU,iH,iV,nT,nF,aT,aF,oT,oF];simp only [q1,q2,q3,zk,aL,if_false]
 refine aA (U6 hz ?_)
 refine aA (bS ?_)
 unfold V9
 refine aA (VA hT CR ?_)
 show aR _ A.in1 (GY (dD z) (aB "__length_hint__") >>= _) _ _ _
 refine aA (VA hT Ai ?_)
 refine aC ?_
 show aR _ A.in1 (rule "list.extend.makes-room" >>= fun _=>VB (.ref S) >>= fun _ =>
  again (.builtin "list.extend.loop" ⟨[.ref S,.ref z,res],[]⟩)) _ _ _
 refine aA (kL ?_)
 refine aA ?_
 show aR _ A.in1 (zN S (·.push .none) >>= fun _=>zN S (·.pop)) _ _ _
 refine aA (lV Ny rfl ?_)
 have MZ:=cC (dm (·.push fG)) Ny rfl
 refine lV (hz:=by seq_fits) MZ rfl ?_
 have Ry:=cC (dm (·.pop)) MZ rfl
 have ym:∀b o,b≠S→s.heap.get? b=some o→((s.heap.update S (dm (·.push fG))).update S (dm (·.pop))).get? b=some o :=
  fun b o hb e=>(cL _ _ (aN hb)).trans ((cL _ _ (aN hb)).trans e)
 refine aC ⟨oG F.plain_extend_loop _,?_⟩
 refine CQ (xs:=xs) (ys:=ys) (h0:=s.heap) D hS hl hn hh res xs.size 0 _ #[] (by rfl) (by simp)
  ⟨.inl (d9 rfl (ym _ _ (aN s1) hz) (Py a b (ym _ _ (aN s3) yj))),(dA _ (ym _ _ (aN s3) yj)),ym _ _ (aN s2) xY,h1.at fun o e=>ym _ _ (aN s4) e,h2.at fun o e=>ym _ _ (aN s5) e,tB.at fun o e=>ym _ _ (aN s6) e,rX.at fun o e=>ym _ _ (aN s7) e,(dA _ Ry),rfl,fun j hj=>by (exact absurd (by assumption) (kP _))⟩
  (fun c o _ _ _ _ c5 e=>ym c o c5 e) hR
theorem yn(D:ko z TI TO i1 i2 l1 l2)(hS:S≠z∧S≠TI∧S≠TO∧S≠i1∧S≠i2∧S≠l1∧S≠l2)(hl:xs.size=ys.size)(hn:xs.size≤1000)(hh:A.handled=none)
  (hz:YJ s.heap z TI TO .none) (xY:fZ s.heap TI (.ref i1) (.ref i2)) (yj:fZ s.heap TO a b) (h1:s.heap.IsListIter i1 l1 0) (h2:s.heap.IsListIter i2 l2 0) (tB:s.heap.IsList l1 xs) (rX:s.heap.IsList l2 ys)
  (Ny:s.heap.get? S=some { cls:=.type "list",data:=.seq #[] c₀ })
  (hR:∀(h':Heap) (nW:Array Value),(∃c,h'.get? S=some { cls:=.type "list",dict:=none,data:=.seq nW c,slots:=#[] })→nW.size=xs.size →
   (∀j,j<xs.size→∃T x y,nW[j]?=some (.ref T)∧xs[j]?=some x∧ys[j]?=some y∧fZ h' T x y∧s.heap.get? T=none) →
   (∀c o,c≠z→c≠TO→c≠i1→c≠i2→c≠S→s.heap.get? c=some o→h'.get? c=some o)→R (.ok (.ret .none)) { s with heap:=h' }) :
  aR (aS prog w) A.in1 (eF.«list.__init__» ⟨[.ref S,.ref z],[]⟩)
   (fun fin s'=>match fin with | .done f=>R (.ok f) s' | .again c'=>c'.quiet=true∧gq (aS prog w) A c' R s') (fun e s'=>R (.error e) s') s:=by
 show aR _ A.in1 (do let old ← uI (.ref S);VC (.ref S) (fun _=>#[]);letGo old.toList.reverse;fe (.ref S) (.ref z) .none) _ _ s
 refine Ou (id hS) fun s1 s2 s3 s4 s5 s6 s7=>?_
 refine aA ?_
 unfold uI
 refine aA (se Ny rfl (aC ?_))
 show aR _ A.in1 (zN S (fun _=>#[]) >>= fun _=>letGo (#[]:Array Value).toList.reverse >>= fun _=>fe (.ref S) (.ref z) .none) _ _ s
 refine aA (lV Ny rfl ?_)
 have E0:=cC (dm (fun _=>(#[]:Array Value))) Ny rfl
 have vo:∀b o,b≠S→s.heap.get? b=some o→(s.heap.update S (dm (fun _=>(#[]:Array Value)))).get? b=some o :=
  fun b o hb e=>(cL _ _ (aN hb)).trans e
 refine aA (wpAny_letGo ?_)
 refine vA (xs:=xs) (ys:=ys) D hS hl hn hh .none (vo _ _ (aN s1) hz) (vo _ _ (aN s2) xY) (vo _ _ (aN s3) yj) (h1.at fun o e=>vo _ _ (aN s4) e) (h2.at fun o e=>vo _ _ (aN s5) e) (tB.at fun o e=>vo _ _ (aN s6) e) (rX.at fun o e=>vo _ _ (aN s7) e) E0 fun h' acc k1 k2 k3 k4=>?_
 refine hR h' acc k1 k2 (fun j hj=>?_) fun c o c1 c2 c3 c4 c5 e=>k4 c o c1 c2 c3 c4 c5 (vo c o c5 e)
 refine BK (k3 j hj) fun T x y e1 e2 e3 e4 e5=>?_
 refine (JF T x y e1 e2 e3 e4 ?_)
 cases q:s.heap.get? T with
 | none=>rfl
 | some o =>
  by_cases hT:T=S
  ·clear hS Ny hR s1 s2 s3 s4 s5 s6 s7 vo k1 k3 k4;subst hT;rw [E0]at e5;contradiction
  ·rw [vo T o hT q]at e5;contradiction
theorem wM(D:ko z TI TO i1 i2 l1 l2)(hl:xs.size=ys.size)(hn:xs.size≤1000)(hh:A.handled=none)
  (hz:YJ s.heap z TI TO .none) (xY:fZ s.heap TI (.ref i1) (.ref i2)) (yj:fZ s.heap TO a b) (h1:s.heap.IsListIter i1 l1 0) (h2:s.heap.IsListIter i2 l2 0) (tB:s.heap.IsList l1 xs) (rX:s.heap.IsList l2 ys)
  (hQ:∀(h':Heap) (acc:Array Value),(∃c,h'.get? s.heap.objs.size=some { cls:=.type "list",dict:=none,data:=.seq acc c,slots:=#[] })→acc.size=xs.size →
   (∀j,j<xs.size→∃T x y,acc[j]?=some (.ref T)∧xs[j]?=some x∧ys[j]?=some y∧fZ h' T x y∧s.heap.get? T=none) →
   (∀c o,c≠z→c≠TO→c≠i1→c≠i2→s.heap.get? c=some o→h'.get? c=some o)→Q (.ref s.heap.objs.size) { s with heap:=h' }) :
  aR (aS prog w) A (call (.type "list") [.ref z]) Q E s:=by
 have lt:∀{x:Addr} {o:Obj},s.heap.get? x=some o→s.heap.objs.size≠x:=fun e=>cW (av e)
 refine eZ (id h1) fun o1 g1 c1 d1=>?_
 refine eZ (id h2) fun o2 g2 c2 d2=>?_
 refine eZ (id tB) fun ol1 gl1 cl1 R9=>?_;(refine cG R9 fun nl1 dl1=>?_;try clear R9)
 refine eZ (id rX) fun ol2 gl2 cl2 R9=>?_;(refine cG R9 fun nl2 dl2=>?_;try clear R9)
 have hS:s.heap.objs.size≠z∧s.heap.objs.size≠TI∧s.heap.objs.size≠TO∧s.heap.objs.size≠i1∧s.heap.objs.size≠i2∧s.heap.objs.size≠l1∧s.heap.objs.size≠l2:=(V06 (lt hz) (lt xY) (lt yj) (lt g1) (lt g2) (lt gl1) (lt gl2))
 refine callType_codes (Q₁:=fun obj bO=>obj=.ref s.heap.objs.size∧bO={ s with heap:=s.heap.push { cls:=.type "list",data:=.seq #[] } }) F.called_list (F.typeCall_list_1 _) F.entry_list_init
  (code_list_new _ ⟨rfl,rfl⟩) fun obj bO fz=>?_
 refine ao fz fun G9 G8=>?_;try clear fz;obtain rfl:=G9;obtain rfl:=G8
 have ZY:(s.heap.push { cls:=.type "list",data:=.seq #[] }).get? s.heap.objs.size=some { cls:=.type "list",data:=.seq #[] }:=cR _ rfl
 have up:∀b o,s.heap.get? b=some o→(s.heap.push { cls:=.type "list",data:=.seq #[] }).get? b=some o:=fun b o e=>aX _ e
 refine (d9 (aw _ ZY rfl) (F.args_list_init_2 _ _) (yn (xs:=xs) (ys:=ys) D hS hl hn hh (up _ _ hz) (up _ _ xY) (up _ _ yj) (h1.at fun o e=>up _ o e) (h2.at fun o e=>up _ o e) (tB.at fun o e=>up _ o e) (rX.at fun o e=>up _ o e) ZY fun h' acc k1 k2 k3 k4=>?_))
 refine ⟨rfl,hQ h' acc k1 k2 (fun j hj=>?_) fun c o c1 c2 c3 c4 e=>k4 c o c1 c2 c3 c4 (lt e).symm (up c o e)⟩
 refine BK (k3 j hj) fun T x y e1 e2 e3 e4 e5=>?_
 refine (JF T x y e1 e2 e3 e4 ?_)
 cases q:s.heap.get? T with
 | none=>rfl
 | some o=>rw [up T o q]at e5;contradiction
end
end
section
section
variable{C:Cx} {dep:Nat} {KF I:IM} {st:ak} {s:Shared} {X:XP} {Q:CV→ak→Prop}
open Classical in
noncomputable def me(P:Addr→Prop)(h:Heap)(I:IM):IM:=fun a=>if P a then h.get? a else I a
theorem SR.Nz(S:SR C KF I st s)(P:Addr→Prop)(hP:∀a,P a→s.heap.get? a=none)(S1:SR C KF I st { s with heap:=h',toks:=tk }):
  fq I (me P h' I)∧SR C KF (me P h' I) st { s with heap:=h',toks:=tk }:=by
 classical
 have nI:∀a,P a→I a=none∧KF a=none∧st.H a=none∧¬C.Own a:=fun a h=>S.fresh (hP a h)
 have l:fq I (me P h' I):=fun a o e=>by
  unfold me
  rw [if_neg]
  ·exact e
  ·intro h;rw [(nI a h).1]at e;contradiction
 have no:∀a,I a=none→¬P a→me P h' I a=none:=fun a e h=>by unfold me;rw [if_neg h];exact e
 refine ⟨l,⟨S1.kle,S1.low,S1.same,fun b o e=>l _ _ (S1.base b o e),fun a o e=>?_,fun a o e=>?_,fun a ha=>?_,fun a c h=>?_,S1.loc.mono l⟩⟩
 ·unfold me at e
  split at e
  ·exact e
  ·exact S1.de a o e
 ·refine ao (S1.mQ a o e) fun a1 a2=>?_
  refine ⟨no a a1 fun h=>?_,a2⟩
  rw [(nI a h).2.1]at e;contradiction
 ·refine dO (S1.own a ha) fun a1 a2 a3=>?_
  exact (d9 (no a a1 fun h=>(nI a h).2.2.2 ha) a2 a3)
 ·refine dO (S1.mu a c h) fun a1 a2 R9=>?_;(refine az R9 fun o a3 a4=>?_)
  refine (d9 (no a a1 fun q=>?_) a2 (aw o a3 (OR.mono l _ _ a4)))
  rw [(nI a q).2.2.1]at h;contradiction
theorem Hs{I:IM}:∀{cs:List CV} {vs:List Value},cs.length=vs.length→(∀j,j<cs.length→∃c v,cs[j]?=some c∧vs[j]?=some v∧VR I c v)→ck I cs vs
 | [],vs,e,h=>by
  have:vs=[]:=aP e.symm
  clear e h;subst this;exact .nil
 | c::cs,[],e,h=>by simp at e
 | c::cs,v::vs,e,h=>by
  refine dC (h 0 (by simp)) fun c' v' e1 e2 r=>?_
  simp only [List.getElem?_cons_zero,jv]at e1 e2
  subst e1 e2
  refine .cons r (Hs (by simpa using e) fun j hj=>?_)
  refine dC (h (j+1) (by simpa using hj)) fun c' v' e1 e2 r=>?_
  exact (dK c' v' (by simpa using e1) (by simpa using e2) r)
theorem FL{xs ys:List CV}{v:Value}(ok:C.Ok dep)(hl:xs.length=ys.length)(hn:xs.length≤1000)(S:SR C KF I st s)(hz:v8 C xs ys R KF I v s.heap st):
  aR (aS C.prog C.w) C.A (call (.type "list") [v]) (fun r s'=>∃J,fq I J∧SR C KF J st s'∧VR J (.lst (gG xs ys)) r) (eV C KF I X) s:=by
 revert hz;intro R8;refine N7 R8 fun z TI TO i1 i2 l1 l2 us ws n R9=>?_;clear R8;obtain ⟨m,rfl,D,hz,xY,⟨a0,b0,yj⟩,h1,h2,tB,rX,Rj,Rk,⟨nz,PM,Ke,n1,n2⟩,hR⟩:=R9
 have lx:xs.length=us.size:=by have:=Rj.length;simpa using this
 have ly:ys.length=ws.size:=by have:=Rk.length;simpa using this
 refine wM (xs:=us) (ys:=ws) D (T4 [.e .x .y,.e .x .z,.e .y .w] (.e .z .w) tA hl lx ly) (T2 [.l .x (.n 1000),.e .x .y] (.l .y (.n 1000)) tA hn lx) ok.hd hz xY yj h1 h2 (cB _ (S.de _ _ tB) rfl ⟨n,rfl⟩) (cB _ (S.de _ _ rX) rfl ⟨m,rfl⟩) fun h' acc W9 hsz hit hk=>cG W9 fun c hc=>?_
 have S1:SR C KF I st { s with heap:=h',toks:=s.toks }:=S.heap fun a ob e hb=>by
  have bad:∀{y:Addr},CN C KF I st y→a≠y:=fun{y} ⟨q1,q2,q3,q4⟩ q=>by
   subst q
   rcases hb with hb | hb | hb | hb
   ·exact hb q1
   ·exact hb q2
   ·exact hb q3
   ·exact q4 hb
  exact hk a ob (bad nz) (bad Ke) (bad n1) (bad n2) e
 obtain ⟨l,S2⟩:=S.Nz (fun a=>a=s.heap.objs.size∨∃j:Nat,j<us.size∧acc[j]?=some (.ref a)) (fun a ha=>by
  refine fY ha (fun R7=>?R6) (fun R7=>?R5);(case' R5=>try clear ha;(refine az R7 fun j hj e=>?_));(case' R6=>try clear ha;obtain rfl:=R7)
  ·exact gQ _
  ·refine BK (hit j hj) fun T x y e1 _ _ _ e5=>?_
   rw [e]at e1;cases e1;exact e5) S1
 refine (cB _ l S2 ?_)
 refine (tq s.heap.objs.size c acc rfl ?_ ?_)
 ·unfold me;rw [if_pos (.inl rfl)];exact hc
 ·refine Hs (by have:=jj xs ys;have e2:acc.toList.length=acc.size:=aO;exact T6 [.i .x .y,.e .y .z,.e .y .w,.e .s .w,.e .t .x,.e .b .s] (.e .t .b) tA hl lx hsz this e2) fun j hj=>?_
  rw [jj]at hj
  have pz:j<us.size:=T4 [.i .x .w,.e .y .z,.t .w .x] (.t .w .z) tA lx hj
  refine BK (hit j pz) fun T x y e1 e2 e3 e4 e5=>?_
  have hx:j<xs.length:=T3 [.e .x .y,.t .z .y] (.t .z .x) tA lx pz
  have hy:j<ys.length:=T4 [.e .x .y,.e .x .z,.t .w .z] (.t .w .y) tA hl lx pz
  refine az (Rj.get (i:=j) (c:=xs[j]) (by simp [hx])) fun ux XA rx=>?_
  refine az (Rk.get (i:=j) (c:=ys[j]) (by simp [hy])) fun uy XB ry=>?_
  have hux:ux=x:=by
   have:us[j]?=some ux:=by simpa using XA
   rw [e2]at this;exact (aE this).symm
  have huy:uy=y:=by
   have:ws[j]?=some uy:=by simpa using XB
   rw [e3]at this;exact (aE this).symm
  clear e2 e3;subst hux huy
  refine (dK _ _ (xZ (x:=xs[j]) (y:=ys[j]) (by simp [hx]) (by simp [hy])) (by simpa using e1) ?_)
  refine (tq T 0 (#[ux,uy]) rfl ?_ (.cons (VR.mono l _ _ rx) (.cons (VR.mono l _ _ ry) .nil)))
  unfold me;rw [if_pos (.inr (aw j pz e1))];exact e4
theorem WE.Kg(ok:C.Ok dep)
  (h:WE C (.Name x px) st (fun f bJ=>f=.raw (.type "list")∧PL C e bJ (v8 C xs ys (fun cJ=>Q (.lst (gG xs ys)) cJ)) X) X) (hl:xs.length=ys.length) (hn:xs.length≤1000)
  (hs:noStar e=true:=by rfl):WE C (.Call (.Name x px) [e] [] pos) st Q X:=fun I KF s S=>by
 have xa:[e].all noStar=true:=by simp [hs]
 show aR _ _ (do sb pos (← gK (.Name x px) C.env) [] (j5 pos (eA [e] C.env)) (eU pos (cX [] C.env))) _ _ s
 refine aA (aM (h I KF s S) (fun f s1 R0=>dC R0 fun J bJ l S1 hZ=>eZ hZ fun c r e1 q=>?_) fun _ _ x=>x)
 subst e1
 clear R0;subst r
 have he:=lF (es:=[]) (env:=C.env) (hV xa e aH)
 refine nA (P:=fun h=>C.K.In h) (by rw [ir xa];rfl) bu.type (aM (evalArgs_kw2 (yJ (kws:=[]) rfl) (Q:=fun a s2=>∃v J2 cJ,a.pos=[v]∧a.kw=[]∧fq J J2∧SR C KF J2 cJ s2∧v8 C xs ys (fun cJ=>Q (.lst (gG xs ys)) cJ) KF J2 v s2.heap cJ) ?_ he) (fun a s2 R1=>BK R1 fun v J2 cJ a1 a2 l2 S2 hz=>⟨S2.tw ok,?_⟩) fun _ _ q=>eV.trans l q)
 ·rw [he]
  show aR _ _ (do let v ← gK e C.env;let here ← (pure [v]:xq (List Value));return here++(← holding here (BR (j5 pos (eA [] C.env))))) _ _ s1
  refine aA (aM (q J KF s1 S1) (fun v s2 R2=>dC R2 fun J2 cJ l2 S2 hz=>?_) fun _ _ x=>x)
  refine aA (aC (aA (bS ?_)))
  show aR _ _ (pure []) _ _ s2
  refine aC (aC ?_)
  show aR _ _ (pure []) _ _ s2
  exact aC (JF v J2 cJ rfl rfl l2 S2 hz)
 ·rw [a1,a2]
  refine aM (FL ok hl hn S2 hz) (fun r s3 R3=>eZ R3 fun J3 l3 S3 rr=>(dK J3 cJ (l.trans (l2.trans l3)) S3 (aw _ rr ?_))) fun e s3 q=>eV.trans (l.trans l2) q
  refine N7 hz fun z TI TO i1 i2 l1 l2 us ws n R9=>?_;(refine U1c R9 fun m _ _ _ _ _ _ _ _ _ _ _ _ hR=>?_)
  exact hR
end
end
section
section
variable{C:Cx} {dep:Nat} {X:XP} {B S W:Str→Bool} {st:ak} {lo:Str→Option CV} {H:CH}
theorem GL.code{fa:Addr}{t:Stmt}{pn kn:List Str}{n:Nat}{dc args ks:List CV}(F:GL C fa t pn kn n dc)(ok:C.Ok (dep+1))(hn:nJ t pn=true)(h1:args.length=n)(h2:ks.length=kn.length)
  (h:∀C':Cx,C'.Ok dep→C.iY C'→HK C' (ax t)→ag C' (bodyOf t) ⟨fun x=>(pn.zip (args++ks++dc)).lookup x,st.H⟩ (fun f aj=>Q f.val ⟨st.lo,aj.H⟩) (fun x aj=>X x ⟨st.lo,aj.H⟩)) :
  M8 C (.ref fa) args kn ks st Q X:=fun I us vs r1 r2 KF s S=>by
 refine eZ F fun fd f e1 e2=>?_;try clear F
 unfold nJ at hn
 simp only [ae,decide_eq_true_eq]at hn
 refine ao hn fun G9 n4=>?_;try clear hn;obtain ⟨⟨n1,n2⟩,n3⟩:=G9
 refine az (e2 us vs (by rw [← r1.length];exact h1) (by rw [← r2.length];exact h2)) fun ws hw hb=>?_
 refine az f.at_ fun fo Bg Dc=>?_
 have bk:∀b o,C.base.get? b=some o→s.heap.get? b=some o:=fun b o e=>S.de b o (S.base b o e)
 refine dX (jy (X:=X) (cs:=args++ks++dc) (pn:=pn) (P:=fun KF J f h H=>∃b,FR J b f∧Q b.val ⟨st.lo,H⟩) ok Dc f.body f.Jk f.gl f.bl f.co f.gen f.kind (by rw [e1];exact n1) n2 (by rw [e1];exact n3) (by rw [e1];exact n4) (fun _ _ _ _ _ _ _ q=>q)
  (fun C' j9 sm qI _ _ I KF s S=>h C' j9 sm (fun y=>by unfold eB;rw [qI,e1]) I KF s S) I us vs (us++vs++ws) ((r1.append r2).append (hw I)) KF s S (hb s (S.tw ok)) (bk _ _ Bg) (f.code.keeps bk)) fun r s' hr=>?_
 cases r with
 | error e=>exact hr
 | ok f =>
  cases f with
  | ret v =>
   refine dC hr fun J H' l S' R9=>?_;try clear hr;obtain ⟨f,hf,b,rW,q⟩:=R9
   refine (dK J ⟨st.lo,H'⟩ l S' ⟨b.val,?_,q⟩)
   subst hf
   cases b with
   | next=>cases rW;rfl
   | brk=>cases rW;rfl
   | cont=>cases rW;rfl
   | ret c=>(refine az rW fun u G8 r=>?_;try clear rW;obtain rfl:=G8);exact r
  | _=>exact hr
theorem sI(h:aV H a c b=none):b≠a∧H b=none:=by
 unfold aV at h;split at h
 ·contradiction
 ·rename_i q;exact ⟨q,h⟩
theorem Ht(L:LX C B S W)(ok:C.Ok (dep+2))
  (h:∀H' x d pa r ow,FW H' 205 x d pa (fun(q:List Str)=>if q=[]then some ⟨0,0,0,r,[],[],[]⟩else none) ow (.fE [])→FK H H' (fun _=>none) ow→Q (.loc x) ⟨lo,H'⟩):aW C (.ref 205) [] [] [] ⟨lo,H⟩ Q X:=by
 have m:=L.HY
 refine M9 (dep:=dep+1) ok L.fl.ok m.find m.typ fun A x d j9 BO z1 z2=>?_
 have s:C.iY (C.at A):=⟨rfl,rfl,rfl,rfl,rfl,rfl,rfl,rfl⟩
 have m2:=m.same s
 refine m2.fn.code j9 (by decide +kernel) rfl rfl fun C' wF s2 hk=>?_
 refine NZ wF ((L.fl.same s).same s2) hk BO z1 z2 fun bY H' r pa F Hu hr ZZ=>⟨rfl,h H' x d pa r _ F ⟨fun a _ ha=>⟨Hu a ha,?_⟩,fun a ha=>absurd rfl ha,fun a _ ha=>?_⟩⟩
 ·have n1:a≠x:=fun q=>ha (q▸z1)
  have n2:a≠d:=fun q=>ha (q▸z2)
  have n3:a≠r:=fun q=>ha (q▸hr)
  have n4:a≠pa:=fun q=>ha (q▸ZZ)
  simp [fV,n1,n2,n3,n4]
 ·by_cases c1:a=x
  ·clear BO F ha;subst c1;exact z1
  by_cases c2:a=d
  ·clear BO F ha;subst c2;exact z2
  by_cases c3:a=r
  ·clear F ha;subst c3;exact hr
  by_cases c4:a=pa
  ·clear F ha;subst c4;exact ZZ
  exact absurd (by simp [fV,c1,c2,c3,c4]) ha
theorem Kh(L:LX C B S W)(ok:C.Ok (dep+2))
  (h:∀H' x d r ow,TW H' 241 x d (fun(q:List Str)=>if q=[]then some ⟨r,[],none⟩else none) ow→FK H H' (fun _=>none) ow→Q (.loc x) ⟨lo,H'⟩):aW C (.ref 241) [] [] [] ⟨lo,H⟩ Q X:=by
 have m:=L.HZ
 refine M9 (dep:=dep+1) ok L.ne.ok m.find m.typ fun A x d j9 BO z1 z2=>?_
 have s:C.iY (C.at A):=⟨rfl,rfl,rfl,rfl,rfl,rfl,rfl,rfl⟩
 have m2:=m.same s
 refine m2.fn.code j9 (by decide +kernel) rfl rfl fun C' wF s2 hk=>?_
 have tc:=(L.ne.same s).same s2
 refine ag.cons (WS.bE (WE.xP fun r z3=>?_))
 refine ao (sI z3) fun y1 y2=>?_
 refine ao (sI y2) fun y2 y3=>?_
 refine WA.attr wF (WE.nm wF hk rfl (N6 x d 241 ([]) rfl tc.ok ?_ ?_ tc.ML (by simp) (ag.nil ⟨rfl,h _ x d r _ (TW.new (r:=r) (d9 BO (aN y1) (aN y2)) ?_ ?_ ?_) ⟨fun a _ ha=>?_,fun a ha=>absurd rfl ha,fun a _ ha=>?_⟩⟩)))
 ·simp [aV,aN y1]
 ·simp [aV,aN y2,aN BO]
 ·simp [aV,BO,aN y1]
 ·have e:fF ([]:List (Str×CV)) "dict" (.loc r)=[(("dict" : Str),CV.loc r)]:=rfl
  simp [aV,e]
 ·simp [aV,y2]
 ·have n1:a≠d:=fun q=>by subst q;exact ha z2
  have n2:a≠x:=fun q=>by clear BO z3 y1;subst q;exact ha z1
  have n3:a≠r:=fun q=>by subst q;exact ha y3
  exact ⟨by simp [aV,n1,n2,n3],by simp [fV,n1,n2,n3]⟩
 ·by_cases c1:a=x
  ·clear BO z3 y1 ha;subst c1;exact z1
  by_cases c2:a=d
  ·subst c2;exact z2
  by_cases c3:a=r
  ·subst c3;exact y3
  exact absurd (by simp [fV,c1,c2,c3]) ha
end
end
section
section
variable{C:Cx} {dep:Nat} {X:XP} {B S W:Str→Bool} {st:ak}
theorem Ki(L:LX C B S W)(ok:C.Ok (dep+3))(h:Q (.fy 313 [a,b]) st):aW C (.ref 313) [a,b] [] [] st Q X:=by
 refine Ov L.out fun o1 o2 o3 o4 o5 o6 o7 o8=>?_
 refine HW (dep:=dep+1) (vs:=[a,b]) ok L.tup o1 o2 o3 o4 o5 o6 o7 fun A wF s=>?_
 have L2:=L.same s
 refine L2.HX.call (dep:=dep+1) wF (by decide +kernel) rfl rfl fun C' E1 s2 hk=>?_
 have L3:=L2.same s2
 refine Ov L3.out fun _ _ _ p4 _ _ _ p8=>?_
 refine ag.cons (WS.u4 E1 (WE.str ?_))
 refine ag.cons ?_
 refine WS.ret (WE.MM E1 (WE.glob E1 L3.g (v:=.type "tuple") rfl (cB _ bu.builtin (uv.type E1 (by kernel_rfl) (by decide +kernel) p8 rfl) ?_) (by rw [hk];rfl)))
 refine WE.nm E1 hk (v:=.raw (.ref 313)) rfl (WE.tuple (WE.nm E1 hk (v:=a) rfl (WE.nm E1 hk (v:=b) rfl ⟨by (dsimp [iF,iT,iG,iU,iH,iV,nT,nF,aT,aF,oT,oF];simp),?_⟩)))
 exact aW.Nj E1 L3.tup L3.oc.mro (by show 2≤100;decide) ⟨rfl,h⟩
theorem OW.HB(h:OW H o D M Own)(ha:Own a):H a≠none:=by
 refine BK h fun N ow mM F T _ own _=>?_
 rcases (own a).mp ha with q | q
 ·have:=F.C5 a (by (refine cG (bL.mp q) fun v hv=>?_);rw [hv];rfl)
  intro e;rw [e]at this;exact aD this
 ·have:=T.C5 a (by (refine cG (bL.mp q) fun v hv=>?_);rw [hv];rfl)
  intro e;rw [e]at this;exact aD this
noncomputable def rH(r:Addr):TN:=fun q=>if q=[]then some ⟨r,[],none⟩else none
theorem E2(L:LX C B S W)(ok:C.Ok (dep+3))(hk:HK C sc)(hs:sc.lookup (aB "Output")=some .globalImplicit∧sc.lookup (aB "NestedDict")=some .globalImplicit∧sc.lookup (aB "Flags")=some .globalImplicit)
  (h:∀o r H' Own,OW H' o [] (rH r) Own→t7 st.H H' (fun _=>False) Own→Q (.fy 313 [.loc o.x2,.loc o.x]) ⟨st.lo,H'⟩) :
  WE C (.Call (.Name "Output" p1) [.Call (.Name "NestedDict" p2) [] [] p3,.Call (.Name "Flags" p4) [] [] p5] [] p6) st Q X:=by
 refine dO hs fun s1 s2 s3=>?_
 refine WE.call ok (WE.glob ok L.g (v:=.ref 313) rfl (cB _ rfl L.RH ?_) (by rw [hk];exact s1))
 refine WE.call ok (WE.glob ok L.g (v:=.ref 241) rfl (cB _ rfl L.ZC ?_) (by rw [hk];exact s2))
 refine Kh (dep:=dep+1) (lo:=st.lo) (H:=st.H) L ok fun H1 x2 d2 r mM T K1=>?_
 refine WE.call ok (WE.glob ok L.g (v:=.ref 205) rfl (cB _ rfl L.ZA ?_) (by rw [hk];exact s3))
 refine Ht (dep:=dep+1) (lo:=st.lo) (H:=H1) L ok fun H2 x d pa r2 ow F K2=>?_
 have ap:∀a,mM a≠none→(fun _=>none:FO) a=none:=fun _ _=>rfl
 refine ao (T.keep K2 ap) fun T2 GN=>?_
 refine Ki (dep:=dep) L ok ?_
 refine h ⟨x,d,pa,x2,d2⟩ r H2 (fun a=>ow a≠none∨mM a≠none) (N5 _ ow mM F T2 (fun a ha=>?_) (fun a=>JR) (fun q=>?_) (fun q g hg=>?_) (fun q g=>?_)) ⟨fun a _ ha=>?_,fun a hf=>hf.elim,fun a _ ha=>?_⟩
 ·cases e:mM a with
  | none=>rfl
  | some v=>exact absurd (GN a (by rw [e];simp)) ha
 ·unfold hr;by_cases hq:q=[] <;> simp [hq]
 ·unfold hr;by_cases hq:q=[] <;> simp [hq]
 ·unfold rc;by_cases hq:q=[] <;> simp [hq]
 ·refine ao (K1.same a rfl ha) fun e1 e2=>?_
  refine ao (K2.same a rfl (by rw [e1];exact ha)) fun e3 e4=>?_
  exact ⟨e3.trans e1,fun q=>by
   rcases q with q | q
   ·exact q e4
   ·exact q e2⟩
 ·rcases ha with q | q
  ·have hn:=K2.new a rfl q
   cases e:st.H a with
   | none=>rfl
   | some c =>
    have:=(K1.same a rfl (by rw [e];simp)).1
    rw [hn,e]at this;contradiction
  ·exact K1.new a rfl q
end
end
section
noncomputable def ky(a b c:Str)(d:Int):Str:=if d % 3=0 then a else if d % 3=1 then b else c
noncomputable def zf(d:Int):Str:=ky "a" "" "a.a" d
section
variable{C:Cx} {dep:Nat} {X:XP} {B S W:Str→Bool} {st:ak}
theorem E3(ok:C.Ok dep)(hk:C.env.kindOf "d" = some .local):
  ∀(ds:List Int) (acc:List CV) (lo:Str→Option CV),acc.length+ds.length≤1000→(∀bY,Q (acc++ds.map fun d=>.str (ky a0 a1 a2 d)) ⟨bY,H⟩) →
   yE C (lG C (.Subscript (.List [.Constant (.str a0) k0 p0,.Constant (.str a1) k1 p1,.Constant (.str a2) k2 p2] pl) (.BinOp (.Name "d" pd) .Mod (.Constant (.int 3) k3 p3) pb) ps) []) (.Name "d" pt) [] (ds.map .int) ⟨lo,H⟩ acc Q X:=by
 intro ds
 induction ds with
 | nil=>intro acc lo _ q;have:=q lo;simpa [yE]using this
 | cons d ds ih =>
  intro acc lo hl q
  simp only [af]at hl
  refine WA.name ok (by rw [hk];rfl) ⟨fun _=>?_,fun h=>by exact aD h⟩
  refine (?_:WE C _ _ _ X)
  have hc:([CV.str a0,.str a1,.str a2]:List CV)[cidx ([CV.str a0,.str a1,.str a2]:List CV).length (d % 3)]?=some (.str (ky a0 a1 a2 d)):=by
   delta cidx ky
   rw [if_neg (fm.mpr (N3 d))]
   rcases Pw d with h | h | h <;> rw [h] <;> rfl
  refine WE.sub (WE.A6 (WE.str (WE.str (WE.str ⟨by (dsimp [iF,iT,iG,iU,iH,iV,nT,nF,aT,aF,oT,oF];simp),?_⟩))))
  refine WE.binop (WE.name ok.kY (v:=.int d) rfl (WE.int (W2.NO (au _) (W2.Df (c:=.str (ky a0 a1 a2 d)) (by dsimp;exact kg (by decide) (N3 d)) (by dsimp;(exact iS _ (by decide))) (by (dsimp [iF,iT,iG,iU,iH,iV,nT,nF,aT,aF,oT,oF];simp)) hc ⟨by exact T2 [.l (.a .x (.a .y .o)) (.n 1000)] (.t .x (.n 16777216)) tA hl,?_⟩))) (by rw [hk];rfl))
  refine ih _ _ (by simp;exact T2 [.l (.a .x (.a .y .o)) (.n 1000)] (.l (.a (.a .x .o) .y) (.n 1000)) tA hl) fun bY=>?_
  have:=q bY
  simpa using this
structure L0(lo:Str→Option CV)(ds:List Int)(o o2:wI)(ap ah:Addr)(file:Str)(start size:Nat):Prop where
 dv:lo "digits_v" = some (.lst (ds.map .int))
 u6:lo "letters" = some (.lst (ds.map fun d=>.str (zf d)))
 out:lo "out" = some (.fy 313 [.loc o.x2,.loc o.x])
 turned:lo "turned" = some (.fy 313 [.loc o2.x2,.loc o2.x])
 kz:lo "phrases" = some (.loc ap)
 headers:lo "headers" = some (.loc ah)
 file:lo "file" = some (.str file)
 start:lo "start" = some (.int start)
 size:lo "size" = some (.int size)
theorem CS{xs:List Int}{H:CH}(L:LX C B S W)(ok:C.Ok (dep+3))(hk:HK C (ax (bK 43)))
  (h:∀ds bY o r Own o2 r2 mD ap ah H',11≤ds.length→ds.length≤101→(∀d∈ds,0≤d∧d<18)→L0 bY ds o o2 ap ah "" 0 1 →
   OW H' o [] (rH r) Own→OW H' o2 [] (rH r2) mD→(∀a,Own a→¬mD a)→H' ap=some (.list [])→H' ah=some (.list [])→ap≠ah→(¬Own ap∧¬mD ap∧¬Own ah∧¬mD ah) →
   (∀a,H a≠none→H' a=H a∧¬Own a∧¬mD a∧a≠ap∧a≠ah)→ag C ((bodyOf (bK 43)).drop 4) ⟨bY,H'⟩ Q X) :
  ag C (bodyOf (bK 43)) ⟨fun y=>([("script" : Str)].zip [CV.lst (xs.map .int)]).lookup y,H⟩ Q X:=by
 refine ag.cons (WS.bE (WE.call ok (WE.glob ok L.g (v:=.ref 415) rfl (cB _ rfl L.Dt ?_) (by rw [hk];rfl))))
 refine WE.nm ok hk (v:=.lst (xs.map .int)) rfl (CI (dep:=dep+2) L ok fun ds d1 d2 d3=>WA.nm ok hk ?_)
 refine ag.cons (WS.uX ok (WE.nm ok hk (v:=.lst (ds.map .int)) rfl (aw _ du.lst (fun C2 wF s2 qI=>?_))) (by rfl) (by rw [hk];rfl) ?_)
 case refine_2 =>
  have k1:C.env.kindOf "letters" = some .local:=by rw [hk];rfl
  have k3:C.env.blockKind=.function:=gS ok
  delta tL
  dsimp only
  rw [k1,k3]
  rfl
 have kd:C2.env.kindOf "d" = some .local:=by
  unfold eB;rw [qI,eI];rfl
 refine E3 wF kd ds [] _ (by simp;(exact aJ (by assumption) (by decide))) fun bY=>.inl ?_
 refine ag.cons ?_
 refine (WS.DZ ok ?h ?hx ?hy ?hs ?hw:WS C _ _ _ _)
 case hx=>rw [hk];rfl
 case hy=>rw [hk];rfl
 case hs=>rfl
 case hw =>
  have k1:C.env.kindOf "out" = some .local:=by rw [hk];rfl
  have k2:C.env.kindOf "turned" = some .local:=by rw [hk];rfl
  have k3:C.env.blockKind=.function:=gS ok
  delta kU
  dsimp only [lC]
  simp only [k1,k2,k3]
  rfl
 have names:(ax (bK 43)).lookup (aB "Output")=some .globalImplicit∧(ax (bK 43)).lookup (aB "NestedDict")=some .globalImplicit∧(ax (bK 43)).lookup (aB "Flags")=some .globalImplicit:=(d9 rfl rfl rfl)
 refine WE.tuple ?_
 refine E2 (dep:=dep) L ok hk names fun o r H1 Own O1 K1=>?_
 refine E2 (dep:=dep) L ok hk names fun o2 r2 H2 mD O2 K2=>(lb (by (dsimp [iF,iT,iG,iU,iH,iV,nT,nF,aT,aF,oT,oF];simp)) (jq _ _ rfl ?_))
 dsimp only at K1 K2
 have ap:∀a,Own a→¬mD a:=fun a ha=>(K2.same a (fun q=>q) (O1.HB ha)).2
 have XJ:=(O1.keep (O2:=fun _=>False) K2 fun a _ h=>h).1
 refine ag.cons (WS.bE (WE.tuple ?_))
 refine WE.list ⟨by simp,fun a1 z1=>WE.list ⟨by simp,fun a2 z2=>?_⟩⟩
 refine WE.str (WE.int (WE.int ⟨by (dsimp [iF,iT,iG,iU,iH,iV,nT,nF,aT,aF,oT,oF];simp),?_⟩))
 refine ao (sI z2) fun n1 XK=>?_
 have O0:¬Own a1∧¬mD a1:=⟨fun q=>XJ.HB q z1,fun q=>O2.HB q z1⟩
 have O4:¬Own a2∧¬mD a2:=⟨fun q=>XJ.HB q XK,fun q=>O2.HB q XK⟩
 have KH:∀Ow:Addr→Prop,¬Ow a1→¬Ow a2→t7 H2 (aV (aV H2 a1 (.list [])) a2 (.list [])) (fun a=>a=a1∨a=a2) (fun a=>a=a1∨a=a2):=fun Ow _ _ =>
  ⟨fun a h1 h2=>⟨by simp only [not_or]at h1;simp [aV,h1.1,h1.2],h1⟩,fun a h=>h,fun a h h'=>absurd h' h⟩
 refine WA.tuple (vs:=[.loc a1,.loc a2,.str "",.int 0,.int 1]) ok rfl (WA.nm ok hk (WA.nm ok hk (WA.nm ok hk (WA.nm ok hk (WA.nm ok hk ?_)))))
 refine h ds _ o r Own o2 r2 mD a1 a2 _ d1 d2 d3 ⟨rfl,rfl,rfl,rfl,rfl,rfl,rfl,rfl,rfl⟩ (XJ.keep (KH Own O0.1 O4.1) fun a ha q=>?_).1 (O2.keep (KH mD O0.2 O4.2) fun a ha q=>?_).1 ap ?_ ?_ (aN n1) (ql O0.1 O0.2 O4.1 O4.2) fun a ha=>?_
 ·rcases q with q | q
  ·exact O0.1 (q▸ha)
  ·exact O4.1 (q▸ha)
 ·rcases q with q | q
  ·exact O0.2 (q▸ha)
  ·exact O4.2 (q▸ha)
 ·simp [aV,aN n1]
 ·simp [aV]
 ·refine ao (K1.same a (fun q=>q) ha) fun e1 e2=>?_
  refine ao (K2.same a (fun q=>q) (by rw [e1];exact ha)) fun e3 e4=>?_
  have ne1:a≠a1:=fun q=>by
   clear z2 n1 O0 KH;subst q
   have z:H2 a=bw:=z1
   rw [z]at e3
   exact ha (by rw [← e1,← e3])
  have ne2:a≠a2:=fun q=>by
   clear z2 n1 O4 KH;subst q
   have z:H2 a=bw:=XK
   rw [z]at e3
   exact ha (by rw [← e1,← e3])
  exact (JE (by simp [aV,ne1,ne2,e3,e1]) e2 e4 ne1 ne2)
end
end
section
theorem iP{α:Type}(cs:List α)(k:Nat):∀n,k+n≤cs.length→(bF n).filterMap (fun j=>cs[k+j]?)=(cs.drop k).take n
 | 0,_=>by dsimp
 | n+1,h=>by
  simp only [Ld,List.filterMap_append,iP cs k n (Nat.le_of_succ_le h),mL]
  simp only [cS,List.filterMap_nil,rg]
  cases cs[k+n]? <;> rfl
theorem Aj{cs:List CV}{a b:Nat}(xQ:a≤b)(hb:b≤cs.length):nZ cs (some (a:Int)) (some (b:Int)) none=(cs.drop a).take (b-a):=by
 delta nZ nB
 dsimp [Gb,show (1:Int)>0 by decide,if_true,show ¬(a:Int)<0 by simp,show ¬(b:Int)<0 by simp,if_false,iF,iT,iG,iU,iH,iV,nT,nF,aT,aF,oT,oF]
 simp only [wm (ct.mpr hb),vg (au _),wm (ct.mpr (aJ xQ hb)),vg (au _)]
 unfold DI
 dsimp [iF,iT,iG,iU,iH,iV,nT,nF,aT,aF,oT,oF]
 have e:((if (a:Int)<(b:Int)then ((b:Int)-a+1-1) / 1 else 0:Int)).toNat=b-a:=by
  rw [sf,te]
  split
  ·exact rY b a
  ·exact (dh (bV fun q=>absurd (cD.mpr q) (by assumption))).symm
 rw [e,iE]
 rw [show ((cs[·]?)∘fun(j:Nat)=>((a:Int)+1*(j:Int)).toNat)=fun j=>cs[a+j]? from funext fun j=>by
  show cs[((a:Int)+1*(j:Int)).toNat]?=_
  rw [vq];rfl]
 exact iP cs a _ (T3 [.u .y .x,.l .y .z,.l .z .w] (.l (.a .y .x) .w) tA xQ hb)
theorem Hv{cs:List CV}{k:Nat}(hk:k≤cs.length):nZ cs none (some (k:Int)) none=cs.take k:=by
 delta nZ nB
 dsimp [Gb,show (1:Int)>0 by decide,if_true,show ¬(k:Int)<0 by simp,if_false,iF,iT,iG,iU,iH,iV,nT,nF,aT,aF,oT,oF]
 rw [wm (ct.mpr hk),vg (au _)]
 unfold DI
 dsimp [iF,iT,iG,iU,iH,iV,nT,nF,aT,aF,oT,oF]
 have e:((if (0:Int)<(k:Int)then ((k:Int)-0+1-1) / 1 else 0:Int)).toNat=k:=by
  rw [sf,te]
  split
  ·exact rY k 0
  ·exact (oE fun q=>absurd (cD.mpr q) (by assumption)).symm
 rw [e,iE]
 rw [show ((cs[·]?)∘fun(j:Nat)=>((0:Int)+1*(j:Int)).toNat)=fun j=>cs[0+j]? from funext fun j=>by
  show cs[((0:Int)+1*(j:Int)).toNat]?=_
  rw [vq];rfl]
 have:=iP cs 0 k (T2 [.l .x .y] (.l (.a (.n 0) .x) .y) tA hk)
 simpa using this
theorem FP(cs:List CV):nZ cs none none (some (-1))=cs.reverse:=by
 delta nZ nB
 dsimp [iF,iT,iG,iU,iH,iV,nT,nF,aT,aF,oT,oF]
 unfold DI
 simp only [show ¬((-1:Int)>0) by decide,if_false]
 have e:(if (cs.length:Int)-1 > -1 then ((cs.length:Int)-1 - -1 - -1-1) / (- -1)else 0:Int).toNat=cs.length:=by
  rewrite [show (- -1:Int)=1 by decide,te]
  rw [VD,VD,Iq,sf]
  split
  ·rfl
  ·rename_i h;exact (oE fun q=>h (Int.lt_sub_right_of_add_lt (cD.mpr q))).symm
 rw [e]
 have e2:((bF cs.length).map fun(k:Nat)=>((cs.length:Int)-1 + -1*(k:Int)).toNat)=(bF cs.length).reverse:=by
  rw [show (bF cs.length).reverse=(bp 0 cs.length).reverse by rw [List.range_eq_range'],List.reverse_range']
  refine cT fun k hk=>?_
  rw [Int.neg_mul,vq,← Int.sub_eq_add_neg,Int.sub_sub,eQ,Nat.sub_sub]
  exact rY _ (1+k)
 rw [e2,List.filterMap_reverse]
 have:=iP cs 0 cs.length (by simp)
 simp only [eQ,xt,uE]at this
 rw [this]
noncomputable def Ak(d:Int):Str:=ky "a" "''" "'a.a'" d
noncomputable def Ma(k:Nat):Str:=ky "" " " "\t " (k:Int)
noncomputable def CT(d:Int):Str:=(["]", " ]", "\n]", "", "}", "\t=]"]:List Str).getD (d / 3).toNat ""
noncomputable def wide(b:Str):Bool:=b == (" ]" : Str)||b == ("\t=]" : Str)
noncomputable def mE(k:Nat)(qs:List Str):Str:=aB "["++Ma k++zV "." qs
noncomputable def gH(h b:Str):Nat:=h.length+if wide b then 2 else 1
theorem vB(hh:h.length≤1000):gH h b≤1002:=Nat.add_le_add (c:=if wide b then 2 else 1) (d:=2) hh (by split <;> decide)
noncomputable def YK(n:Nat)(h b:Str):Str:=if b = "" then "(at end of document)" else bt ++ "(at line "++aB (toString (2*(n:Int)+1)) ++ ", column "++aB (toString (gH h b:Int)) ++ ")"
structure L1(lo O5:Str→Option CV)(ns:List Str)(h b:Str)(n:Nat):Prop where
 same:∀y:Str,y∉(["names", "header", "bracket", "column", "at"]:List Str)→lo y=O5 y
 names:lo "names" = some (.tup (ns.map .str))
 header:lo "header" = some (.str h)
 bracket:lo "bracket" = some (.str b)
 column:lo "column" = some (.int (gH h b))
 at_:lo "at" = some (.str (YK n h b))
theorem vC:∀b∈(["]", " ]", "\n]", "", "}", "\t=]"]:List Str),(([CV.str " ]",.str "\t=]"]:List CV).any fun c=>sx c (.str b))=wide b∧eS (.str b)=true∧(!sx (.str b) (.str ""))=!decide (b = ""):=by decide +kernel
theorem XM{d:Int}(h:0≤d∧d<18):d / 3=0∨d / 3=1∨d / 3=2∨d / 3=3∨d / 3=4∨d / 3=5:=by
 have a:=pA h.1 (show (0:Int)≤3 by decide)
 have b:d / 3<6:=pZ (by decide) h.2
 clear h;revert a b;generalize d / 3=r;intro a b
 cases r with
 | negSucc m=>exact absurd (kT m) (fm.mpr a)
 | ofNat m =>
  have:∀n:Fin 6,(n.1:Int)=0∨(n.1:Int)=1∨(n.1:Int)=2∨(n.1:Int)=3∨(n.1:Int)=4∨(n.1:Int)=5:=by decide
  exact this ⟨m,cD.mp b⟩
theorem u7(h:0≤d∧d<18):CT d∈(["]", " ]", "\n]", "", "}", "\t=]"]:List Str):=by
 unfold CT
 have:(d / 3).toNat<6:=(U7 (pA h.1 (by decide))).mpr (pZ (by decide) h.2)
 rw [xw,aU (by simpa using this)]
 exact jT _
section
variable{C:Cx} {dep:Nat} {X:XP} {B S W:Str→Bool} {st:ak}
theorem Kj(d:Int):(Ak d).length≤5:=by
 delta Ak ky
 split
 ·decide +kernel
 ·split <;> decide +kernel
theorem vD{sep:Str}{m:Nat}:∀{ys:List Str},(∀y∈ys,y.length≤m)→(lY sep ys).length≤(m+sep.length)*ys.length
 | [],_=>by simp [lY];rfl
 | [y],h=>by show y.length≤(m+sep.length)*1;rw [qh];exact Nat.le_add_right_of_le (h y aH)
 | y::z::ys,h=>by
  have h1:=h y aH
  have h2:=vD (sep:=sep) (ys:=z::ys) fun x hx=>h x (aG _ hx)
  have e:lY sep (y::z::ys)=y++sep++lY sep (z::ys):=rfl
  simp only [e,aI,aI,af (a:=y),jo]
  exact T5 [.l .x .y,.l .z .w] (.l (.a (.a .x .s) .z) (.a .w (.r (.a .y .s) 1))) tA h1 h2
theorem E4(k:Nat):(Ma k).length≤2:=by
 delta Ma ky
 split
 ·decide +kernel
 ·split <;> decide +kernel
theorem xb{k:Nat}{qs:List Str}(h:∀q∈qs,q.length≤5):(mE k qs).length≤3+6*qs.length:=by
 have h1:=vD (sep := ".") h
 have h2:=E4 k
 have e1:(aB "[").length=1:=by decide +kernel
 have e2:(aB ".").length=1:=by decide +kernel
 unfold mE
 rw [aI,aI,e1]
 have:(zV "." qs)=lY "." qs:=StrLaws.glued_eq_join _ _
 rw [this]
 rw [e2]at h1
 exact T3 [.l .x (.m 6 .y),.l .z (.n 2)] (.l (.a (.a .o .z) .x) (.a (.n 3) (.m 6 .y))) tA h1 h2
noncomputable def kB:List Stmt:=bodyOf ((bodyOf (bK 43)).getD 4 (.Pass default))
theorem Kk{Q:CF→ak→Prop}{lo:Str→Option CV}(L:LX C B S W)(ok:C.Ok (dep+3))(hk:HK C (ax (bK 43)))
  (hb:b∈(["]", " ]", "\n]", "", "}", "\t=]"]:List Str)) (qm:H ap=some (.list ps)) (u5:ps.length≤101) (hh:h.length≤1000) (l1:lo "bracket" = some (.str b)) (l2:lo "phrases" = some (.loc ap)) (l3:lo "column" = some (.int (gH h b)))
  (hq:ag C (kB.drop 5) ⟨dU lo "at" (.str (YK ps.length h b)),H⟩ Q X):ag C (kB.drop 4) ⟨lo,H⟩ Q X:=by
 refine dO (vC _ hb) fun w1 w2 w3=>?_
 refine ag.cons ?_
 refine @WS.bE C _ X _ _ _ _ ?h6 ?hs6 ?hw6 ?he6
 case hs6=>rfl
 case hw6=>rfl
 case he6=>rfl
 refine WE.xA (WT.ez (WE.nm ok hk l1 (WE.str (W2.P5 ok w2 (by decide +kernel) (by (dsimp only [toPy,bR,iF,iT,iG,iU,iH,iV,nT,nF,aT,aF,oT,oF];simp [toPy,bR])) ?_))))
 rw [w3]
 refine iW.bool ?_
 unfold YK at hq
 by_cases q:b = ""
 ·rw [if_pos q]at hq
  rw [if_neg (by simp [q])]
  exact WE.str (WA.nm ok hk hq)
 ·rw [if_neg q]at hq
  rw [if_pos (by simp [q])]
  have z1:=dB (a:=2*(ps.length:Int)+1) (n:=203) (by exact T1 [.l .x (.n 101)] (.l (.a (.m 2 .x) .o) (.n 203)) tA u5)
  have yC:gH h b≤1002:=vB hh
  have z2:=dB (a:=(gH h b:Int)) (n:=1002) (by assumption)
  have z3:(aB "(at line ").length=9:=by decide +kernel
  have z4:(aB ", column ").length=9:=by decide +kernel
  have z5:(aB ")").length=1:=by decide +kernel
  have z6:bt.length=0:=rfl
  have z7:=aa
  refine WE.AM ?_
  refine WE.str (cB _ rfl (by simp only [aI];(exact cQ _ _)) (WE.fmt ?_))
  refine WE.binop (WE.binop (WE.int (WE.call ok (WE.glob ok L.g (v:=.builtin "len") rfl (cB _ rfl bu.builtin ?_) (by rw [hk];rfl)))))
  refine WE.nm ok hk (v:=.loc ap) l2 (aW.ud (cs:=ps) qm (aJ (by assumption) (by decide)) (W2.Nt (ri (by decide +kernel)) (WE.int (W2.kZ ?_))))
  refine jh.int (mA (T1 [.l .x (.n 101)] (.l (.a (.m 2 .x) .o) (.n 1099511627776)) tA u5)) (cB _ rfl (by simp only [aI];exact T4 [.l .x (.a (.n 203) (.n 2)),.e .y (.n 9),.e .z (.n 0),.e .w (.n 16777216)] (.l (.a (.a .z .y) .x) .w) tA z1 z3 z6 z7) ?_)
  refine WE.str (cB _ rfl (by simp only [aI];exact T5 [.l .x (.a (.n 203) (.n 2)),.e .y (.n 9),.e .z (.n 9),.e .w (.n 0),.e .s (.n 16777216)] (.l (.a (.a (.a .w .y) .x) .z) .s) tA z1 z3 z4 z6 z7) (WE.fmt (WE.nm ok hk l3 (jh.int (mA (aJ (by assumption) (by decide))) (cB _ rfl (by simp only [aI];exact T6 [.l .x (.a (.n 203) (.n 2)),.l .y (.a (.n 1002) (.n 2)),.e .z (.n 9),.e .w (.n 9),.e .s (.n 0),.e .t (.n 16777216)] (.l (.a (.a (.a (.a .s .z) .x) .w) .y) .t) tA z1 z2 z3 z4 z6 z7) ?_)))))
  refine WE.str (GH _ rfl (by simp only [aI];exact T7 [.l .x (.a (.n 203) (.n 2)),.l .y (.a (.n 1002) (.n 2)),.e .z (.n 9),.e .w (.n 9),.e .s .o,.e .t (.n 0),.e .b (.n 16777216)] (.l (.a (.a (.a (.a (.a .t .z) .x) .w) .y) .s) .b) tA z1 z2 z3 z4 z5 z6 z7) (by simp only [aI];exact T7 [.l .x (.a (.n 203) (.n 2)),.l .y (.a (.n 1002) (.n 2)),.e .z (.n 9),.e .w (.n 9),.e .s .o,.e .t (.n 0),.e .b (.n 16777216)] (.l (.a (.a (.a (.a (.a .t .z) .x) .w) .y) .s) .b) tA z1 z2 z3 z4 z5 z6 z7) ?_)
  exact WA.nm ok hk hq
theorem FT{Q:CF→ak→Prop}{ds:List Int}{o o2:wI}{ap ah:Addr}{file:Str}{start size:Nat}{ps:List CV}{lo:Str→Option CV}{H:CH}(L:LX C B S W)(ok:C.Ok (dep+3))(hk:HK C (ax (bK 43)))
  (l:L0 lo ds o o2 ap ah file start size) (hd:∀d∈ds,0≤d∧d<18) (hs:1≤size) (hlen:start+size≤ds.length) (pk:ds.length≤101) (qm:H ap=some (.list ps)) (u5:ps.length≤101)
  (h:∀bY d,ds[start+size-1]?=some d→L1 bY lo (((ds.drop start).take size).map zf) (mE ps.length (((ds.drop start).take size).map Ak)) (CT d) ps.length→ag C (kB.drop 5) ⟨bY,H⟩ Q X) :
  ag C kB ⟨lo,H⟩ Q X:=by
 have cp:∀f:Int→CV,nZ (ds.map f) (some ((start:Nat):Int)) (some ((start+size:Nat):Int)) none=((ds.drop start).take size).map f:=fun f=>by
  rw [Aj (by exact T2 [] (.l .x (.a .x .y)) tA) (by simpa using hlen),iX,← Oh,← jb]
 refine ag.cons (WS.bE (WE.call ok (WE.glob ok L.g (v:=.type "tuple") rfl (cB _ rfl bu.type ?_) (by rw [hk];rfl))))
 refine WE.slice (WE.nm ok hk l.u6 (WE.nm ok hk l.start (aw _ rfl (WE.binop (WE.nm ok hk l.start (WE.nm ok hk l.size (W2.kZ (aw _ rfl (BM.lst (by decide) (by simp;(exact aJ (by assumption) (by decide))) ?_)))))))))
 have e4:((start:Nat):Int)+((size:Nat):Int)=((start+size:Nat):Int):=by rfl
 rw [e4,cp]
 refine aW.tupleOf (by simp;exact T3 [.u .x .z,.i .z .x,.l .z (.n 101)] (.l .x (.n 8388608)) tA pk) (WA.nm ok hk ?_)
 have Za:∀q∈((ds.drop start).take size).map Ak,q.length≤5:=fun q hq=>by
  (refine az (cV.mp hq) fun d _ G7=>?_;clear hq;obtain rfl:=G7);exact Kj d
 have lq:(((ds.drop start).take size).map Ak).length=size:=by simp;exact T3 [.u .z .x,.i .z .x,.l (.a .z .w) .s] (.e .x .w) tA hlen
 have wO:(mE ps.length (((ds.drop start).take size).map Ak)).length≤700:=by
  have:=xb (k:=ps.length) Za
  rw [lq]at this;exact T4 [.l (.a .x .y) .z,.l .z (.n 101),.l .w (.a (.n 3) (.m 6 .y))] (.l .w (.n 700)) tA hlen pk this
 refine ag.cons (WS.bE (WE.binop (WE.binop (WE.str ?_))))
 refine WE.sub (WE.A6 (WE.str (WE.str (WE.str ⟨by decide,?_⟩))))
 refine WE.binop (WE.call ok (WE.glob ok L.g (v:=.builtin "len") rfl (cB _ rfl bu.builtin ?_) (by rw [hk];rfl)))
 refine WE.nm ok hk (v:=.loc ap) l.kz (aW.ud (cs:=ps) qm (aJ (by assumption) (by decide)) (WE.int (W2.NO (au _) ?_)))
 have hsp:([CV.str "",.str " ",.str "\t "]:List CV)[cidx ([CV.str "",.str " ",.str "\t "]:List CV).length ((ps.length:Int) % 3)]?=some (.str (Ma ps.length)):=by
  delta cidx Ma ky
  rw [if_neg (fm.mpr (N3 _))]
  rcases Pw (ps.length:Int)with h | h | h <;> rw [h] <;> rfl
 refine W2.Df (c:=.str (Ma ps.length)) (by dsimp;(exact au _)) (by dsimp;(exact iS _ (by decide))) (by decide) hsp ?_
 refine W2.HO ?_ ?_
 ·have:=E4 ps.length
  have e1:(aB "[").length=1:=by decide +kernel
  simp only [aI,e1,aa];exact T1 [.l .x (.n 2)] (.l (.a .o .x) (.n 16777216)) tA this
 refine @WE.lH C _ _ X _ _ _ _ _ _ _ ok ?h ?hs ?hk ?hb ?hfew ?hline
 case hs=>rfl
 case hk=>rfl
 case hb=>rfl
 case hfew=>rfl
 case hline=>rfl
 refine WE.str (cB _ bu.builtin (eX.str PySem.F.slot_str_join PySem.F.type_str_join) ?_)
 refine @WE.comp C _ _ X _ _ _ _ _ _ _ ok ?hm ?hcap ?hk ?hnd ?has ?hfold
 case hcap=>rfl
 case hk=>rfl
 case hnd=>decide +kernel
 case has=>simp
 case hfold=>first | exact sv fun _ _=>rfl | exact A4 (fun _ _=>rfl) fun _ _=>rfl
 refine WE.slice (WE.nm ok hk (v:=.lst (ds.map .int)) l.dv (WE.nm ok hk (v:=.int start) l.start (aw _ rfl (WE.binop (WE.nm ok hk (v:=.int start) l.start (WE.nm ok hk (v:=.int size) l.size (W2.kZ (aw _ rfl (BM.lst (by decide) (by simp;(exact aJ (by assumption) (by decide))) (aw _ du.lst (fun C2 wF s2 qI=>?_)))))))))))
 rw [e4,cp]
 have kd:C2.env.kindOf "d" = some .local:=by
  unfold eB;rw [qI,eI];rfl
 refine E3 wF kd ((ds.drop start).take size) [] _ (by simp;exact T3 [.u .x .z,.i .z .x,.l .z (.n 101)] (.l .x (.n 1000)) tA pk) fun bY=>.inl ?_
 have eq3:([]:List CV)++((ds.drop start).take size).map (fun d=>CV.str (ky "a" "''" "'a.a'" d))=(((ds.drop start).take size).map Ak).map .str:=by
  simp only [bg,cm];rfl
 rw [eq3]
 refine (aW.Ka (ys:=((ds.drop start).take size).map Ak) ?_ ?_:aW C _ _ _ _ _ _ X)
 ·have e1:(aB ".").length=1:=by decide +kernel
  have:∀(l:List Str),(∀q∈l,q.length≤5)→(l.map (·.length)).sum≤5*l.length:=fun l=>by
   induction l with
   | nil=>decide
   | cons q l ih=>intro h;have:=ih fun x hx=>h x (aG _ hx);have:=h q aH;simp only [aK,jc,af];exact T3 [.l .x (.m 5 .y),.l .z (.n 5)] (.l (.a .z .x) (.m 5 (.a .y .o))) tA (by assumption) this
  have:=this (((ds.drop start).take size).map Ak) Za
  rw [lq]at *
  rw [e1];exact T4 [.l (.a .x .y) .z,.l .z (.n 101),.l .w (.m 5 .y)] (.l (.a .w (.r .y 1)) (.n 16777216)) tA hlen pk this
 refine W2.HO ?_ (WA.nm ok hk ?_)
 ·show (mE ps.length (((ds.drop start).take size).map Ak)).length≤_
  rw [aa];(exact aJ (by assumption) (by decide))
 obtain ⟨d,Rz⟩:∃d,ds[start+size-1]?=some d:=(dA (ds[start+size-1]'(T3 [.u (.a .y .x) .o,.l .o .y,.l (.a .z .y) .w] (.t .x .w) tA hs hlen)) (aU _))
 have hd2:=hd d (dF Rz)
 have e5:((start:Nat):Int)+((size:Nat):Int)-1=((start+size-1:Nat):Int):=(Pd (Nat.le_add_left_of_le hs)).symm
 refine ag.cons ?_
 refine @WS.bE C _ X _ _ _ _ ?h5 ?hs5 ?hw5 ?he5
 case hs5=>rfl
 case hw5=>rfl
 case he5=>rfl
 refine WE.sub ?_
 refine WE.A6 (WE.str (WE.str (WE.str (WE.str (WE.str (WE.str ⟨by decide,?_⟩))))))
 refine WE.binop (WE.sub (WE.nm ok hk (v:=.lst (ds.map .int)) l.dv (WE.binop (WE.binop (WE.nm ok hk (v:=.int start) l.start (WE.nm ok hk (v:=.int size) l.size (W2.kZ (WE.int (W2.NN ?_)))))))))
 rw [e5]
 have Wa:(ds.map CV.int)[cidx (ds.map CV.int).length ((start+size-1:Nat):Int)]?=some (.int d):=by
  have:cidx (ds.map CV.int).length ((start+size-1:Nat):Int)=start+size-1:=by unfold cidx;rw [if_neg (fm.mpr (au _))];rfl
  simp only [this,cH,Rz];rfl
 refine W2.Df (c:=.int d) (by simp) (by simp;exact T3 [.u (.a .y .x) .o,.l .o .y,.l (.a .z .y) .w] (.t .x .w) tA hs hlen) (by simp;exact cD.mpr (T1 [.l .x (.n 101)] (.t .x (.n 4611686018427387904)) tA pk)) Wa (WE.int (W2.Vl (au _) (au _) ?_))
 have Wb:([CV.str "]",.str " ]",.str "\n]",.str "",.str "}",.str "\t=]"]:List CV)[cidx ([CV.str "]",.str " ]",.str "\n]",.str "",.str "}",.str "\t=]"]:List CV).length (d / 3)]?=some (.str (CT d)):=by
  have e6:=XM hd2
  delta cidx CT
  rw [if_neg (fm.mpr (pA hd2.1 (by decide)))]
  rcases e6 with h | h | h | h | h | h <;> rw [h] <;> rfl
 refine W2.Df (c:=.str (CT d)) (by dsimp;exact kg (by decide) (pA hd2.1 (by decide))) (pZ (by decide) hd2.2) (by decide) Wb (WA.nm ok hk ?_)
 refine dO (vC _ (u7 hd2)) fun w1 w2 w3=>?_
 refine ag.cons ?_
 refine @WS.bE C _ X _ _ _ _ ?h6 ?hs6 ?hw6 ?he6
 case hs6=>rfl
 case hw6=>rfl
 case he6=>rfl
 refine WE.binop (WE.call ok (WE.glob ok L.g (v:=.builtin "len") rfl (cB _ rfl bu.builtin ?_) (by rw [hk];rfl)))
 refine WE.nm ok hk (v:=.str (mE ps.length (((ds.drop start).take size).map Ak))) rfl (aW.F5 (aJ (by assumption) (by decide)) (WE.xA ?_))
 refine WT.ez (WE.nm ok hk (v:=.str (CT d)) rfl (WE.tuple (WE.str (WE.str ⟨by decide,?_⟩))))
 refine W2.Yu ok (by decide +kernel) w2 (by (dsimp only [toPy,bR,iF,iT,iG,iU,iH,iV,nT,nF,aT,aF,oT,oF];simp [toPy,bR])) ?_
 rw [w1]
 refine iW.bool ?_
 have fin:∀c:Int,c=(gH (mE ps.length (((ds.drop start).take size).map Ak)) (CT d):Int) →
   ag C (kB.drop 4) ⟨dU (dU (dU (dU lo "names" (.tup (((ds.drop start).take size).map fun d=>.str (zf d)))) "header" (.str (mE ps.length (((ds.drop start).take size).map Ak)))) "bracket" (.str (CT d))) "column" (.int c),H⟩ Q X:=fun c hc=>by
  subst hc
  refine Kk (h:=mE ps.length (((ds.drop start).take size).map Ak)) (b:=CT d) L ok hk (u7 hd2) qm u5 (aJ (by assumption) (by decide)) rfl l.kz rfl ?_
  refine h _ d Rz ⟨fun y hy=>?_,?_,rfl,rfl,rfl,rfl⟩
  ·simp only [aq,jP,or_false,not_or]at hy
   refine wB hy fun y1 y2 y3 y4 y5=>?_
   simp [dU,y1,y2,y3,y4,y5]
  ·show some (CV.tup (((ds.drop start).take size).map fun d=>.str (zf d)))=_
   rw [cm];rfl
 cases hw:wide (CT d)with
 | true =>
  rw [if_pos rfl]
  exact WE.int (W2.kZ (WA.nm ok hk (fin _ (by unfold gH;rw [hw];rfl))))
 | false =>
  rw [if_neg (by simp)]
  exact WE.int (W2.kZ (WA.nm ok hk (fin _ (by unfold gH;rw [hw];rfl))))
end
end
section
theorem jI:∀(a b:List Str),jN (eW (a.map .str)) (eW (b.map .str))=decide (a=b)
 | [],[]=>by rfl
 | [],b::bs=>by rfl
 | a::as,[]=>by rfl
 | a::as,b::bs=>by
  have ih:=jI as bs
  simp only [aK,eW,toPy,jN,ff,ih]
  exact (Bool.decide_and _ _).symm.trans (decide_eq_decide.mpr (mO .. ▸ JR))
theorem xc(a b:List Str):sx (.tup (a.map .str)) (.tup (b.map .str))=decide (a=b):=by
 unfold sx
 dsimp only [toPy,ff]
 exact jI a b
theorem sJ(l:List (List Str))(b:List Str):(l.map fun p=>CV.tup (p.map .str)).any (fun c=>sx c (.tup (b.map .str)))=decide (b∈l):=by
 induction l with
 | nil=>rfl
 | cons a l ih =>
  simp only [aK,iA,ih,xc]
  by_cases h:a=b
  ·clear ih;subst h;simp
  ·simp [h,aN h]
theorem yo(d:Int):zf d∈bC:=by
 delta zf ky
 split
 ·decide +kernel
 ·split <;> decide +kernel
noncomputable def closed(b:Str):Bool:=b == ("]" : Str)||b == (" ]" : Str)
theorem CU:∀b∈(["]", " ]", "\n]", "", "}", "\t=]"]:List Str),(([CV.str "]",.str " ]"]:List CV).any fun c=>sx c (.str b))=closed b:=by decide +kernel
noncomputable def Hw(phr:List (List Str))(ns:List Str)(fl:Nat)(h b:Str)(n:Nat):CV :=
 if ns∈phr then .str (bt ++ "Cannot declare "++iM (ns.map .str) ++ " twice "++YK n h b)
 else if closed b then .tup [.int ((fl:Int)+(gH h b:Int)),.tup (ns.map .str)]else .str (bt ++ "Expected ']' at the end of a table declaration "++YK n h b)
theorem Kl(hn:n≤101)(hh:h.length≤1000):(YK n h b).length≤2000:=by
 unfold YK
 split
 ·decide +kernel
 ·have z1:=dB (a:=2*(n:Int)+1) (n:=203) (by exact T1 [.l .x (.n 101)] (.l (.a (.m 2 .x) .o) (.n 203)) tA hn)
  have yC:gH h b≤1002:=vB hh
  have z2:=dB (a:=(gH h b:Int)) (n:=1002) (by assumption)
  have z3:(aB "(at line ").length=9:=by decide +kernel
  have z4:(aB ", column ").length=9:=by decide +kernel
  have z5:(aB ")").length=1:=by decide +kernel
  have z6:bt.length=0:=rfl
  simp only [aI]
  exact T6 [.l .x (.a (.n 203) (.n 2)),.l .y (.a (.n 1002) (.n 2)),.e .z (.n 9),.e .w (.n 9),.e .s .o,.e .t (.n 0)] (.l (.a (.a (.a (.a (.a .t .z) .x) .w) .y) .s) (.n 2000)) tA z1 z2 z3 z4 z5 z6
section
variable{C:Cx} {dep:Nat} {X:XP} {B S W:Str→Bool} {st:ak}
theorem W2.XN(h:Q (.bool (!decide (x=y))) st):W2 C (cI .NotEq) (.str x) (.str y) st Q X:=fun I v u r1 r2 KF s S=>by
 refine cG r1 fun t G8=>?_;clear r1;obtain rfl:=G8
 refine cG r2 fun t' G8=>?_;clear r2;obtain rfl:=G8
 exact VE x t y t' C.prog C.w _ _ (pq (.bool _) S rfl h)
theorem Hx{Q:CF→ak→Prop}{lo:Str→Option CV}(L:LX C B S W)(ok:C.Ok (dep+3))(hk:HK C (ax (bK 43)))
  (hb:b∈(["]", " ]", "\n]", "", "}", "\t=]"]:List Str)) (qm:H ap=some (.list (phr.map fun p=>.tup (p.map .str)))) (u5:phr.length≤101) (hh:h.length≤1000) (jf:∀k∈ns,k∈bC) (hph:∀p∈phr,∀k∈p,k∈bC) (hf:file.length≤2 ^ 20)
  (CC:(iM (ns.map .str)).length≤2 ^ 20)
  (l1:lo "bracket" = some (.str b)) (l2:lo "phrases" = some (.loc ap)) (l3:lo "column" = some (.int (gH h b))) (l4:lo "names" = some (.tup (ns.map .str))) (l5:lo "at" = some (.str (YK phr.length h b))) (l6:lo "file" = some (.str file))
  (hq:ag C (kB.drop 6) ⟨dU lo "due" (Hw phr ns file.length h b phr.length),H⟩ Q X):ag C (kB.drop 5) ⟨lo,H⟩ Q X:=by
 refine dO (vC _ hb) fun w1 w2 w3=>?_
 have pn:=(dG jf).1
 have SA:eS (.tup (ns.map .str))=true:=by simpa [eS]using pn
 have pd:(toPy (.tup (ns.map .str))).depth≤100:=by
  show bR (.tuple (eW (ns.map .str)))≤100
  simp only [bR,(dG jf).2.2.1];(exact bA _)
 have pl:g8 (phr.map fun p=>CV.tup (p.map .str))=true:=by
  revert hph
  clear u5 qm l5 hq
  induction phr with
  | nil=>intro _;rfl
  | cons p phr ih =>
   intro h
   have:=(dG (h p aH)).1
   simp only [aK,g8,eS,this,ih fun q hq=>h q (aG _ hq),rQ]
 have za:=Kl (b:=b) u5 hh
 have z1:(aB "Cannot declare ").length=15:=by decide +kernel
 have z2:(aB " twice ").length=7:=by decide +kernel
 have z3:(aB "Expected ']' at the end of a table declaration ").length=47:=by decide +kernel
 have z6:bt.length=0:=rfl
 have z7:=aa
 refine ag.cons ?_
 refine WS.oK (WT.ez (WE.nm ok hk l4 (WE.nm ok hk l2 (W2.Gy ok qm pl SA pd ?_))))
 rw [sJ]
 refine iW.bool ⟨fun hm=>?_,fun hm=>?_⟩
 ·have Bq:ns∈phr:=of_decide_eq_true hm
  unfold Hw at hq
  rw [if_pos Bq]at hq
  refine ag.cons ?_
  refine @WS.bE C _ X _ _ _ _ ?h7 ?hs7 ?hw7 ?he7
  case hs7=>rfl
  case hw7=>rfl
  case he7=>rfl
  refine WE.AM ?_
  refine WE.str (cB _ rfl (by simp only [aI];(exact cQ _ _)) (WE.fmt (WE.nm ok hk l4 (jh.names ok jf CC (cB _ rfl (by simp only [aI];exact T4 [.l .x (.n 1048576),.e .y (.n 15),.e .z (.n 0),.e .w (.n 16777216)] (.l (.a (.a .z .y) .x) .w) tA CC z1 z6 z7) ?_)))))
  refine WE.str (cB _ rfl (by simp only [aI];exact T5 [.l .x (.n 1048576),.e .y (.n 15),.e .z (.n 7),.e .w (.n 0),.e .s (.n 16777216)] (.l (.a (.a (.a .w .y) .x) .z) .s) tA CC z1 z2 z6 z7) (WE.fmt (WE.nm ok hk l5 (jh.str (aJ (by assumption) (by decide)) (GH _ rfl (by simp only [aI];exact T6 [.l .x (.n 1048576),.l .y (.n 2000),.e .z (.n 15),.e .w (.n 7),.e .s (.n 0),.e .t (.n 16777216)] (.l (.a (.a (.a (.a .s .z) .x) .w) .y) .t) tA CC za z1 z2 z6 z7) (by simp only [aI];exact T6 [.l .x (.n 1048576),.l .y (.n 2000),.e .z (.n 15),.e .w (.n 7),.e .s (.n 0),.e .t (.n 16777216)] (.l (.a (.a (.a (.a .s .z) .x) .w) .y) .t) tA CC za z1 z2 z6 z7) ?_)))))
  exact WA.nm ok hk (ag.nil hq)
 ·have Bq:ns∉phr:=of_decide_eq_false hm
  unfold Hw at hq
  rw [if_neg Bq]at hq
  refine ag.cons ?_
  refine WS.oK (WT.ez (WE.nm ok hk l1 (WE.tuple (WE.str (WE.str ⟨by decide,W2.Yu ok (by decide +kernel) w2 (by (dsimp only [toPy,bR,iF,iT,iG,iU,iH,iV,nT,nF,aT,aF,oT,oF];simp [toPy,bR])) ?_⟩)))))
  rw [CU _ hb]
  refine iW.bool ⟨fun hc=>?_,fun hc=>?_⟩
  ·rw [if_pos hc]at hq
   refine ag.cons ?_
   refine @WS.bE C _ X _ _ _ _ ?h8 ?hs8 ?hw8 ?he8
   case hs8=>rfl
   case hw8=>rfl
   case he8=>rfl
   refine WE.tuple (WE.binop (WE.call ok (WE.glob ok L.g (v:=.builtin "len") rfl (cB _ rfl bu.builtin ?_) (by rw [hk];rfl))))
   refine WE.nm ok hk l6 (aW.F5 (aJ (by assumption) (by decide)) (WE.nm ok hk l3 (W2.kZ (WE.nm ok hk l4 ⟨by (dsimp [iF,iT,iG,iU,iH,iV,nT,nF,aT,aF,oT,oF];simp),?_⟩))))
   exact WA.nm ok hk (ag.nil (ag.nil hq))
  ·rw [if_neg (by rw [hc];simp)]at hq
   refine ag.cons ?_
   refine @WS.bE C _ X _ _ _ _ ?h9 ?hs9 ?hw9 ?he9
   case hs9=>rfl
   case hw9=>rfl
   case he9=>rfl
   refine WE.AM ?_
   refine WE.str (cB _ rfl (by simp only [aI];(exact cQ _ _)) (WE.fmt (WE.nm ok hk l5 (jh.str (aJ (by assumption) (by decide)) (GH _ rfl (by simp only [aI];exact T4 [.l .x (.n 2000),.e .y (.n 47),.e .z (.n 0),.e .w (.n 16777216)] (.l (.a (.a .z .y) .x) .w) tA za z3 z6 z7) (by simp only [aI];exact T4 [.l .x (.n 2000),.e .y (.n 47),.e .z (.n 0),.e .w (.n 16777216)] (.l (.a (.a .z .y) .x) .w) tA za z3 z6 z7) ?_)))))
   exact WA.nm ok hk (ag.nil (ag.nil hq))
end
end
section
section
variable{C:Cx} {dep:Nat} {X:XP} {B S W:Str→Bool} {st:ak}
theorem W2.CW(ok:C.Ok dep)(jf:∀k∈key,k∈bC)(h:Q (.bool false) st):W2 C (cI .NotEq) (iO D key br e co) (iO D key br e co) st Q X:=by
 unfold iO
 split
 ·refine W2.XN ?_;simpa using h
 ·split
  ·have p2:=(dG jf).1
   refine W2.P5 ok (by simp [eS,g8,p2]) (by simp [eS,g8,p2]) ?_ ?_
   ·have:=(dG jf).2.2.1
    (dsimp only [toPy,eW,bR,i7,this,iF,iT,iG,iU,iH,iV,nT,nF,aT,aF,oT,oF];simp only [toPy,eW,bR,i7,this]);(exact cQ _ _)
   ·have:sx (.tup [.int ((e:Int)+1),.tup (key.map .str)]) (.tup [.int ((e:Int)+1),.tup (key.map .str)])=true:=by
     unfold sx
     have:=jI key key
     dsimp only [toPy,eW,ff,jN,this,iF,iT,iG,iU,iH,iV,nT,nF,aT,aF,oT,oF];simp only [toPy,eW,ff,jN,this]
     simp
    rw [this];exact h
  ·refine W2.XN ?_;simpa using h
theorem FU{Q:CF→ak→Prop}{lo:Str→Option CV}{Own:Addr→Prop}(L:LX C B S W)(ok:C.Ok (dep+9))(hk:HK C (ax (bK 43)))
  (hH:H C.tb=some (.fu gC ke)) (pC:¬Own C.tb) (hd:Header B S W (file++h++b) file.length ns e co) (O:OW H o D M Own)
  (l1:lo "bracket" = some (.str b)) (l2:lo "header" = some (.str h)) (l3:lo "file" = some (.str file)) (l4:lo "out" = some (.fy 313 [.loc o.x2,.loc o.x])) (l5:lo "due" = some (iO D ns (pG (file++h++b) e) e co))
  (yZ:ns∈D→ag C (kB.drop 7) ⟨lo,H⟩ Q X)
  (iq:ns∉D→∀H' M' fw,OW H' o (ns::D) M' fw→t7 H H' Own fw→gk M M' [] ns→ag C (kB.drop 7) ⟨lo,H'⟩ Q X):ag C (kB.drop 6) ⟨lo,H⟩ Q X:=by
 have hl:=hd.len
 rw [aI]at hl
 have rX:=hl
 rw [aI]at rX
 have z7:=aa
 refine ag.cons ?_
 refine WS.oK ?_
 refine WT.ez (WE.call ok (WE.glob ok L.g (v:=.ref 429) rfl (cB _ rfl L.Ds ?_) (by rw [hk];rfl)))
 refine WE.binop (WE.binop (WE.nm ok hk l3 (WE.nm ok hk l2 (W2.HO (by rw [aI];exact T4 [.l (.a (.a .x .y) .z) (.n 1048576),.e .w (.n 16777216)] (.l (.a .x .y) .w) tA rX z7) (WE.nm ok hk l1 (W2.HO (by rw [aI,aI];(exact aJ (by assumption) (by decide))) ?_))))))
 refine WE.call ok (WE.glob ok L.g (v:=.builtin "len") rfl (cB _ rfl bu.builtin ?_) (by rw [hk];rfl))
 refine WE.nm ok hk l3 (aW.F5 (T3 [.l (.a (.a .x .y) .z) (.n 1048576)] (.l .x (.n 1073741824)) tA rX) (WE.nm ok hk l4 ?_))
 refine uw (dep:=dep+1) L ok hH pC hd O (fun hD=>?_) fun hD H' M' fw O' K' hN=>?_
 ·exact WE.nm ok hk l5 (W2.CW ok hd.names (iW.bool ⟨fun q=>(aD q),fun _=>ag.nil (yZ hD)⟩))
 ·exact WE.nm ok hk l5 (W2.CW ok hd.names (iW.bool ⟨fun q=>(aD q),fun _=>ag.nil (iq hD H' M' fw O' K' hN)⟩))
end
end
section
section
variable{C:Cx} {dep:Nat} {X:XP} {B S W:Str→Bool} {st:ak} {Q:CV→ak→Prop}
theorem WE.Hy{x n1:Str}{px p1 pos:Pos}{name:Str}(h:WE C (.Attribute (.Name x px) n1 p1) st (fun a bJ=>g9 C a name bJ Q X) X):WE C (.Attribute (.Attribute (.Name x px) n1 p1) name pos) st Q X:=fun I=>by
 rw [Ob]
 refine WL.bind ((h I).mono (fun J v bJ _ R2=>az R2 fun a r q=>?_) fk)
 refine WL.bind (WL.standAt (WL.bind (WL.holding ((q J v r).mono (fun J2 u cJ l2 R3=>az R3 fun b r2 q2=>?_) fk))))
 refine WL.bind ?_
 exact fun KF s S=>wpAny_letTemporaryGo (dK J2 cJ (.refl _) S (WL.pure (aw b r2 q2)))
theorem CY{Q:CF→ak→Prop}(L:LX C B S W)(ok:C.Ok dep)(hk:HK C (ax (bK 43)))(T:TW H cl x d N ow)
  (e:∃it o p,kB.getD 9 (.Pass default)=.For t it body o p) :
  ∀(ks p:List Str) (nd:ie) (lo:Str→Option CV),(∀k∈ks,k∈bC)→N p=some nd→(N (p++ks)).isSome=true→lo "table" = some (.loc nd.da) →
   (∀bY ic,N (p++ks)=some ic→bY "table" = some (.loc ic.da)→(∀y:Str,y ≠ "name"→y ≠ "table"→bY y=lo y)→Q .next ⟨bY,H⟩)→ll C t body [] (ks.map .str) ⟨lo,H⟩ Q X:=by
 revert e;intro R8;refine DV R8 fun it o pp e=>?_;try clear R8
 cases e
 intro ks
 induction ks with
 | nil=>intro p nd lo _ hN hs h1 q;exact ag.nil (q lo nd (by simpa using hN) h1 fun _ _ _=>rfl)
 | cons k ks ih =>
  intro p nd lo mW hN hs h1 q
  have mn:k≠kn:=fun e=>uu (e▸mW k aH)
  have e0:p++k::ks=(p++[k])++ks:=by simp
  have xa:(N (p++[k]++ks)).isSome=true:=by rw [← e0];exact hs
  have Hz:(N (p++[k])).isSome=true:=by
   have go:∀(n:Nat) (q:List Str),q.length=n→(N (p++[k]++q)).isSome=true→(N (p++[k])).isSome=true:=by
    intro n
    induction n with
    | zero=>intro q hq h;rw [aP hq,f9]at h;exact h
    | succ n ih =>
     intro q hq h
     have cx:q≠[]:=fun e=>by rw [e]at hq;simp at hq
     rw [← d8 cx,← bU]at h
     exact ih q.dropLast (by simp [hq]) (T.par _ _ h)
   exact go _ ks rfl xa
  refine cG (aY.mp Hz) fun m hm=>?_
  have jg:=T.nj (k:=k) hN mn
  rw [hm]at jg
  refine WA.nm ok hk (ag.cons ?_)
  refine @WS.bE C _ X _ _ _ _ ?h6 ?hs6 ?hw6 ?he6
  case hs6=>rfl
  case hw6=>rfl
  case he6=>rfl
  refine WE.xA (WT.rm ?_)
  refine WT.ez (WE.call ok (WE.glob ok L.g (v:=.type "type") rfl (cB _ rfl bu.type (WE.nm ok hk h1 (aW.RR (T.dict p nd hN) (WE.glob ok L.g (v:=.type "dict") rfl (W2.KV (iW.bool ?_)) (by rw [hk];rfl))))) (by rw [hk];rfl)))
  refine WT.ez (WE.nm ok hk (v:=.str k) rfl (WE.nm ok hk h1 (W2.inDict (T.dict p nd hN) (T.nodup hN) ?_)))
  rw [jg]
  refine iW.bool ?_
  refine WE.sub (WE.nm ok hk h1 (WE.nm ok hk (v:=.str k) rfl (W2.m5 (T.dict p nd hN) (T.nodup hN) jg (WA.nm ok hk (ag.nil ?_)))))
  refine ih (p++[k]) m _ (fun j hj=>mW j (aG _ hj)) hm xa rfl fun bY ic g1 g2 g3=>?_
  rw [← e0]at g1
  exact q bY ic g1 g2 fun y y1 y2=>by rw [g3 y y1 y2];simp [ak.put,dU,y1,y2]
end
end
section
theorem OW.Nf(h:OW H o D M Own)(hN:M p=some nd)(hn:nd.num=none)(h2:H' nd.da=some (.dict (gD M p nd++[(kn,.int i)])))(h3:∀b,b≠nd.da→H' b=H b):
  OW H' o D (mz M p { nd with ks:=nd.ks++[kn],num:=some i }) Own∧Own nd.da:=by
 refine Q0 h fun N ow mM F T GN own g1 g2 g3=>?_
 refine ao (T.Nf hN hn h2 h3) fun T' K=>?_
 exact ⟨(N5 N ow mM ((F.keep K GN).1) T' GN own g1 g2 g3),(own _).mpr (.inr (by rw [T.pv p nd hN];simp))⟩
noncomputable def nt(h:Str)(n:Nat):Str:=bt++h ++ "]\nn = "++aB (toString (n:Int)) ++ "\n"
section
variable{C:Cx} {dep:Nat} {X:XP} {B S W:Str→Bool} {st:ak}
theorem I3{Q:CF→ak→Prop}{ap:Addr}{ns:List Str}{size:Nat}{phr:List (List Str)}{lo:Str→Option CV}{H:CH}(ok:C.Ok (dep+3))(hk:HK C (ax (bK 43)))
  (qm:H ap=some (.list (phr.map fun p=>.tup (p.map .str)))) (jf:∀k∈ns,k∈bC) (pl:g8 (phr.map fun p=>CV.tup (p.map .str))=true) (hm:ns∈phr)
  (l2:lo "phrases" = some (.loc ap)) (l4:lo "names" = some (.tup (ns.map .str))) (l5:lo "size" = some (.int size)) (hq:Q .cont ⟨dU lo "size" (.int ((size+1:Nat):Int)),H⟩):ag C (kB.drop 7) ⟨lo,H⟩ Q X:=by
 have SA:eS (.tup (ns.map .str))=true:=by have:=(dG jf).1;simpa [eS]using this
 have pd:(toPy (.tup (ns.map .str))).depth≤100:=by
  show bR (.tuple (eW (ns.map .str)))≤100
  simp only [bR,(dG jf).2.2.1];(exact bA _)
 refine ag.cons ?_
 refine WS.oK (WT.ez (WE.nm ok hk l4 (WE.nm ok hk l2 (W2.Gy ok qm pl SA pd ?_))))
 rw [sJ]
 refine iW.bool ⟨fun _=>?_,fun q=>absurd hm (of_decide_eq_false q)⟩
 refine ag.cons (WS.aug ok (by rw [hk];rfl) (WE.nm ok hk (v:=.int size) l5 (WE.int (W2.A5 ?_))))
 exact ag.cons (WS.cont hq)
theorem I4{Q:CF→ak→Prop}{ap ah:Addr}{h file:Str}{ns:List Str}{start size:Nat}{phr:List (List Str)}{hdrs:List Str}{lo:Str→Option CV}{H:CH}{o:wI}{D:List (List Str)}{M:TN}{Own:Addr→Prop}{nd:ie}
  (L:LX C B S W) (ok:C.Ok (dep+9)) (hk:HK C (ax (bK 43))) (O:OW H o D M Own) (hM:M ns=some nd) (mW:nd.ks=[]) (yp:nd.num=none)
  (qm:H ap=some (.list (phr.map fun p=>.tup (p.map .str)))) (FV:H ah=some (.list (hdrs.map .str))) (cx:ap≠ah) (Zb:¬Own ap) (Zc:¬Own ah) (jf:∀k∈ns,k∈bC) (pl:g8 (phr.map fun p=>CV.tup (p.map .str))=true) (hm:ns∉phr)
  (u5:phr.length≤101) (hhs:hdrs.length≤101) (hh:h.length≤1000) (hf:file.length≤2 ^ 19)
  (l1:lo "out" = some (.fy 313 [.loc o.x2,.loc o.x])) (l2:lo "phrases" = some (.loc ap)) (l3:lo "headers" = some (.loc ah)) (l4:lo "names" = some (.tup (ns.map .str))) (l5:lo "header" = some (.str h)) (l6:lo "file" = some (.str file)) (l7:lo "start" = some (.int start)) (l8:lo "size" = some (.int size))
  (hq:∀bY H',OW H' o D (mz M ns { nd with ks:=nd.ks++[kn],num:=some (phr.length:Int) }) Own→H' ap=some (.list ((phr++[ns]).map fun p=>.tup (p.map .str)))→H' ah=some (.list ((hdrs++[h ++ "]"]).map .str)) →
   (∀a,H a≠none→a≠ap→a≠ah→¬Own a→H' a=H a)→bY "file" = some (.str (file++nt h phr.length))→bY "start" = some (.int ((start+size:Nat):Int))→bY "size" = some (.int 1) →
   (∀y:Str,y∉(["table", "name", "file", "start", "size"]:List Str)→bY y=lo y)→Q .next ⟨bY,H'⟩):ag C (kB.drop 7) ⟨lo,H⟩ Q X:=by
 have SA:eS (.tup (ns.map .str))=true:=by have:=(dG jf).1;simpa [eS]using this
 have pd:(toPy (.tup (ns.map .str))).depth≤100:=by
  show bR (.tuple (eW (ns.map .str)))≤100
  simp only [bR,(dG jf).2.2.1];(exact bA _)
 refine Q0 (id O) fun N ow mM F T GN own g1 g2 g3=>?_
 refine az T.attrs fun rt BN Km=>?_
 refine ag.cons ?_
 refine WS.oK (WT.ez (WE.nm ok hk l4 (WE.nm ok hk l2 (W2.Gy ok qm pl SA pd ?_))))
 rw [sJ]
 refine iW.bool ⟨fun q=>absurd (of_decide_eq_true q) hm,fun _=>ag.nil ?_⟩
 refine ag.cons ?_
 refine @WS.bE C _ X _ _ _ _ ?h6 ?hs6 ?hw6 ?he6
 case hs6=>rfl
 case hw6=>rfl
 case he6=>rfl
 refine WE.Hy (WE.attr (WE.nm ok hk l1 (g9.field (dep:=dep+7) (k:=0) ok L.oc L.oc.data L.oc.d0 rfl (by show 2≤100;decide) (fun u h=>by contradiction) ?_)))
 refine T.oU ok L.ne BN (WA.nm ok hk ?_)
 refine ag.cons (WS.Be ok (WE.nm ok hk (v:=.tup (ns.map .str)) l4 (aw _ du.tup ?_)))
 refine CY L ok hk T (y9 _ _ _ rfl) ns [] rt _ jf BN (by simp only [bg,hM];rfl) rfl fun BE K6 e1 e2 e3=>?_
 rw [bg,hM]at e1
 obtain rfl:=aE e1
 have P9:H nd.da=some (.dict []):=by
  have:=T.dict ns nd hM
  unfold gD at this
  rw [mW]at this
  exact this
 have k:∀y:Str,y ≠ "name"→y ≠ "table"→BE y=lo y:=fun y y1 y2=>by rw [e3 y y1 y2];simp [ak.put,dU,y2]
 refine ag.cons ?_
 refine WS.oK (WT.ez (WE.nm ok hk e2 (WE.xP fun b hb=>?_)))
 have ze:H b=bw:=hb
 have nb:∀{a:Addr},H a≠none→a≠b:=fun ha q=>ha (q▸ze)
 have SD:nd.da≠b:=nb (by rw [P9];decide)
 have SE:ap≠b:=nb (by rw [qm];simp)
 have XO:ah≠b:=nb (by rw [FV];simp)
 have CZ:Own nd.da:=(own _).mpr (.inr (by rw [T.pv ns nd hM];simp))
 have XQ:ap≠nd.da:=fun q=>Zb (q▸CZ)
 have XS:ah≠nd.da:=fun q=>Zc (q▸CZ)
 refine W2.Kb ok (by show aV H b (.dict []) nd.da=_;simp [aV,SD,P9]) (by show aV H b (.dict []) b=_;simp [aV]) (iW.bool ⟨fun q=>(aD q),fun _=>ag.nil ?_⟩)
 refine ag.cons ?_
 refine @WS.bE C _ X _ _ _ _ ?h7 ?hs7 ?hw7 ?he7
 case hs7=>rfl
 case hw7=>rfl
 case he7=>rfl
 have XT:BE "phrases" = some (.loc ap):=(k _ (by decide) (by decide)).trans l2
 refine WE.call ok (WE.glob ok L.g (v:=.builtin "len") rfl (cB _ rfl bu.builtin ?_) (by rw [hk];rfl))
 refine WE.nm ok hk XT (aW.ud (cs:=phr.map fun p=>.tup (p.map .str)) (by show aV H b (.dict []) ap=_;simp [aV,SE,qm]) (by simp;(exact aJ (by assumption) (by decide))) ?_)
 refine WA.Ju (WE.nm ok hk e2 (WE.str (DW nd.da ([]) kn rfl rfl (by show aV H b (.dict []) nd.da=_;simp [aV,SD,P9]) (by decide) (by simp) ?_)))
 have SF:(phr.map fun p=>CV.tup (p.map .str)).length=phr.length:=by simp
 rw [SF]
 generalize Mb:aV (aV H b (.dict [])) nd.da (.dict (fF [] kn (.int (phr.length:Int))))=H1
 have O6:H1 ap=some (.list (phr.map fun p=>.tup (p.map .str))):=by rw [← Mb];simp [aV,XQ,SE,qm]
 have XU:H1 ah=some (.list (hdrs.map .str)):=by rw [← Mb];simp [aV,XS,XO,FV]
 have XW:H1 nd.da=some (.dict [(kn,.int (phr.length:Int))]):=by rw [← Mb];simp [aV,fF]
 have H1o:∀a,a≠b→a≠nd.da→H1 a=H a:=fun a q1 q2=>by rw [← Mb];simp [aV,q1,q2]
 have z1:=dB (a:=(phr.length:Int)) (n:=101) (by assumption)
 have z3:(aB "]\nn = ").length=6:=by decide +kernel
 have z4:(aB "\n").length=1:=by decide +kernel
 have z6:bt.length=0:=rfl
 have z7:=aa
 have Zd:BE "header" = some (.str h):=(k _ (by decide) (by decide)).trans l5
 have l6':BE "file" = some (.str file):=(k _ (by decide) (by decide)).trans l6
 have l4':BE "names" = some (.tup (ns.map .str)):=(k _ (by decide) (by decide)).trans l4
 have l3':BE "headers" = some (.loc ah):=(k _ (by decide) (by decide)).trans l3
 have l7':BE "start" = some (.int start):=(k _ (by decide) (by decide)).trans l7
 have l8':BE "size" = some (.int size):=(k _ (by decide) (by decide)).trans l8
 refine ag.cons ?_
 refine WS.aug ok (by rw [hk];rfl) (WE.nm ok hk (v:=.str file) l6' (WE.AM ?_))
 refine WE.fmt (WE.nm ok hk Zd (jh.str (aJ (by assumption) (by decide)) (cB _ rfl (by simp only [aI];exact T3 [.l .x (.n 1000),.e .y (.n 0),.e .z (.n 16777216)] (.l (.a .y .x) .z) tA hh z6 z7) ?_)))
 refine WE.str (cB _ rfl (by simp only [aI];exact T4 [.l .x (.n 1000),.e .y (.n 6),.e .z (.n 0),.e .w (.n 16777216)] (.l (.a (.a .z .x) .y) .w) tA hh z3 z6 z7) (WE.fmt ?_))
 refine WE.call ok (WE.glob ok L.g (v:=.builtin "len") rfl (cB _ rfl bu.builtin ?_) (by rw [hk];rfl))
 refine WE.nm ok hk XT (aW.ud (cs:=phr.map fun p=>.tup (p.map .str)) O6 (by simp;(exact aJ (by assumption) (by decide))) ?_)
 rw [SF]
 refine jh.int (mA (aJ (by assumption) (by decide))) (cB _ rfl (by simp only [aI];exact T5 [.l .x (.n 1000),.l .y (.a (.n 101) (.n 2)),.e .z (.n 6),.e .w (.n 0),.e .s (.n 16777216)] (.l (.a (.a (.a .w .x) .z) .y) .s) tA hh z1 z3 z6 z7) ?_)
 refine WE.str (GH _ rfl (by simp only [aI];exact T6 [.l .x (.n 1000),.l .y (.a (.n 101) (.n 2)),.e .z (.n 6),.e .w .o,.e .s (.n 0),.e .t (.n 16777216)] (.l (.a (.a (.a (.a .s .x) .z) .y) .w) .t) tA hh z1 z3 z4 z6 z7) (by simp only [aI];exact T6 [.l .x (.n 1000),.l .y (.a (.n 101) (.n 2)),.e .z (.n 6),.e .w .o,.e .s (.n 0),.e .t (.n 16777216)] (.l (.a (.a (.a (.a .s .x) .z) .y) .w) .t) tA hh z1 z3 z4 z6 z7) ?_)
 refine W2.Qy (by simp only [aI];exact T7 [.l .x (.n 1000),.l .y (.n 524288),.l .z (.a (.n 101) (.n 2)),.e .w (.n 6),.e .s .o,.e .t (.n 0),.e .b (.n 16777216)] (.l (.a .y (.a (.a (.a (.a .t .x) .w) .z) .s)) .b) tA hh hf z1 z3 z4 z6 z7) ?_
 refine ag.cons (WS.expr ok (WE.lH ok (WE.nm ok hk (v:=.loc ap) XT (cB _ bu.builtin (eX.oP O6 fB fC) ?_))))
 refine WE.nm ok hk (v:=.tup (ns.map .str)) l4' (aW.append O6 (by simp;(exact aJ (by assumption) (by decide))) ⟨rfl,?_⟩)
 have SG:aV H1 ap (.list (phr.map (fun p=>CV.tup (p.map .str))++[.tup (ns.map .str)])) ah=some (.list (hdrs.map .str)):=by simp [aV,aN cx,XU]
 refine ag.cons (WS.expr ok (WE.lH ok (WE.nm ok hk (v:=.loc ah) l3' (cB _ bu.builtin (eX.oP SG fB fC) ?_))))
 refine WE.binop (WE.nm ok hk (v:=.str h) Zd (WE.str (W2.HO (by rw [aI];(exact bH (by assumption) (by decide))) (aW.append SG (by simp;(exact aJ (by assumption) (by decide))) ⟨rfl,?_⟩))))
 refine ag.cons ?_
 refine @WS.DZ C _ _ X _ _ _ _ _ _ _ _ _ ok ?h8 ?hx8 ?hy8 ?hs8 ?hw8
 case hx8=>rw [hk];rfl
 case hy8=>rw [hk];rfl
 case hs8=>rfl
 case hw8 =>
  have k1:C.env.kindOf "start" = some .local:=by rw [hk];rfl
  have k2:C.env.kindOf "size" = some .local:=by rw [hk];rfl
  have k3:C.env.blockKind=.function:=gS ok
  delta kU
  dsimp only [lC]
  simp only [k1,k2,k3]
  rfl
 refine WE.tuple (WE.binop (WE.nm ok hk (v:=.int start) l7' (WE.nm ok hk (v:=.int size) l8' (W2.kZ (WE.int (lb (by (dsimp [iF,iT,iG,iU,iH,iV,nT,nF,aT,aF,oT,oF];simp)) (jq _ _ rfl (ag.nil ?_))))))))
 have FG:H1 nd.da=some (.dict (gD M ns nd++[(kn,.int (phr.length:Int))])):=by
  rw [XW];unfold gD;rw [mW];rfl
 obtain ⟨OB,_⟩:OW (aV H b (.dict [])) o D M Own∧True:=by
  refine ⟨(O.keep (O2:=fun a=>a=b) (O2':=fun a=>a=b) ⟨fun a h1 h2=>⟨by simp [aV,h1],h1⟩,fun a h=>h,fun a h h'=>absurd h' h⟩ fun a ha q=>?_).1,trivial⟩
  have:=O.HB ha
  rw [q,ze]at this
  exact this rfl
 refine ao (OB.Nf (H':=H1) (i:=(phr.length:Int)) hM yp FG fun c hc=>by rw [← Mb];simp [aV,hc]) fun OS _=>?_
 have OF:=(OS.keep (H':=aV (aV H1 ap (.list (phr.map (fun p=>CV.tup (p.map .str))++[.tup (ns.map .str)]))) ah (.list (hdrs.map CV.str++[.str (h ++ "]")]))) (O2:=fun a=>a=ap∨a=ah) (O2':=fun a=>a=ap∨a=ah)
  ⟨fun a h1 h2=>⟨by simp only [not_or]at h1;simp [aV,h1.1,h1.2],h1⟩,fun a h=>h,fun a h h'=>absurd h' h⟩ fun a ha q=>by
   rcases q with q | q
   ·exact Zb (q▸ha)
   ·exact Zc (q▸ha)).1
 refine hq _ _ OF ?_ ?_ (fun a ha a1 a2 a3=>?_) ?_ rfl rfl fun y hy=>?_
 ·simp [aV,cx]
 ·simp [aV]
 ·show aV (aV H1 ap _) ah _ a=H a
  have rW:a≠b:=nb ha
  have hn2:a≠nd.da:=fun q=>a3 (q▸CZ)
  simp [aV,a1,a2,H1o a rW hn2]
 ·rfl
 ·simp only [aq,jP,or_false,not_or]at hy
  refine wB hy fun y1 y2 y3 y4 y5=>?_
  have:=k y y2 y1
  simp [ak.put,dU,y3,y4,y5,this]
end
end
section
noncomputable def jU(k:Str):Str:=if k = "a" then "a" else if k = "" then "''" else "'a.a'"
theorem FX(d:Int):jU (zf d)=Ak d:=by
 have a:jU "a" = ("a" : Str):=by decide +kernel
 have b:jU "" = ("''" : Str):=by decide +kernel
 have c:jU "a.a" = ("'a.a'" : Str):=by decide +kernel
 delta zf Ak ky
 by_cases h0:d % 3=0
 ·rw [if_pos h0,if_pos h0];exact a
 ·rw [if_neg h0,if_neg h0]
  by_cases h1:d % 3=1
  ·rw [if_pos h1,if_pos h1];exact b
  ·rw [if_neg h1,if_neg h1];exact c
noncomputable def ay(k:Nat)(ns:List Str):Str:=mE k (ns.map jU)
noncomputable def mF(n:Nat):List (List Str)→Str→Str
 | [],f=>f
 | p::ps,f=>mF (n+1) ps (f++nt (ay n p) n)
noncomputable def fileOf(phr:List (List Str)):Str:=mF 0 phr ""
theorem q8(ns:List Str):∀(phr:List (List Str)) (n:Nat) (f:Str),mF n (phr++[ns]) f=mF n phr f++nt (ay (n+phr.length) ns) (n+phr.length)
 | [],n,f=>by rfl
 | p::ps,n,f=>by
  simp only [JS]
  show mF (n+1) (ps++[ns]) _=mF (n+1) ps _++_
  rw [q8 ns ps (n+1),af,show n+1+ps.length=n+(ps.length+1) by (exact J0 _ _ _)]
theorem lA(phr:List (List Str))(ns:List Str):fileOf (phr++[ns])=fileOf phr++nt (ay phr.length ns) phr.length:=by
 unfold fileOf;rw [q8,eQ]
noncomputable def gI(phr:List (List Str)):List Str:=phr.zipIdx.map fun p=>ay p.2 p.1 ++ "]"
theorem Al(phr:List (List Str))(ns:List Str):gI (phr++[ns])=gI phr++[ay phr.length ns ++ "]"]:=by
 unfold gI;rw [List.zipIdx_append,dz];simp
theorem qA(phr:List (List Str)):(gI phr).length=phr.length:=by simp [gI]
structure jV(ds:List Int)(start size:Nat)(phr:List (List Str)):Prop where
 pos:1≤size
 bound:start+size≤ds.length+1
 nodup:phr.Nodup
 ne:∀p∈phr,p≠[]
 pre:∀p k,p++[k]∈phr→p=[]∨p∈phr
 cZ:∀j,1≤j→j<size→(((ds.map zf).drop start).take j)∈phr
 flat:(ds.map zf).take start=phr.flatten
theorem jV.names{ds:List Int}{start size:Nat}{phr:List (List Str)}(P:jV ds start size phr):∀p∈phr,∀k∈p,k∈bC:=fun p hp k hk=>by
 have:k∈phr.flatten:=List.mem_flatten.mpr (aw p hp hk)
 rw [← P.flat]at this
 refine az (cV.mp (EO this)) fun d _ G7=>?_;clear hk;obtain rfl:=G7
 exact yo d
theorem jV.len{ds:List Int}{start size:Nat}{phr:List (List Str)}(P:jV ds start size phr):phr.length≤start:=by
 have h:=congrArg bo P.flat
 rw [fT,cP,qt]at h
 have:∀l:List (List Str),(∀p∈l,p≠[])→l.length≤(l.map bo).sum:=fun l=>by
  induction l with
  | nil=>decide
  | cons p l ih =>
   intro h
   have h1:=ih fun q hq=>h q (aG _ hq)
   have h2:1≤p.length:=qu.mpr (h p aH)
   simp only [af,aK,jc]
   exact T3 [.l .x .y,.l .o .z] (.l (.a .x .o) (.a .z .y)) tA h1 h2
 have:=this phr P.ne
 exact T4 [.i .x .y,.e .x .w,.l .s .w] (.l .s .y) tA h this
theorem jV.start:jV ds 0 1 []:=⟨by (exact bA _),by (exact bA _),by simp,by decide,by simp,fun j h1 h2=>by (exact absurd (by assumption) (dp (by assumption))),by dsimp⟩
noncomputable def bW(ds:List Int)(start size:Nat):List Str:=((ds.drop start).take size).map zf
theorem mf(ds:List Int)(start size:Nat):bW ds start size=((ds.map zf).drop start).take size:=by
 unfold bW;rw [← Oh,← jb]
theorem kC{ds:List Int}{start size:Nat}(h:start+size≤ds.length):(bW ds start size).length=size:=by simp [bW];exact T3 [.u .z .x,.i .z .x,.l (.a .z .w) .s] (.e .x .w) tA h
theorem jV.dup{ds:List Int}{start size:Nat}{phr:List (List Str)}(P:jV ds start size phr)(h:start+size≤ds.length)(hm:bW ds start size∈phr):jV ds start (size+1) phr:=by
 refine ⟨by (exact bA _),by (exact vd (by assumption)),P.nodup,P.ne,P.pre,fun j h1 h2=>?_,P.flat⟩
 by_cases q:j=size
 ·clear P h h2;subst q;rw [← mf];exact hm
 ·exact P.cZ j h1 (T2 [.t .x (.a .y .o),.E .x .y] (.t .x .y) tA h2 q)
theorem jV.new{ds:List Int}{start size:Nat}{phr:List (List Str)}(P:jV ds start size phr)(h:start+size≤ds.length)(hm:bW ds start size∉phr):jV ds (start+size) 1 (phr++[bW ds start size]):=by
 have hs:=P.pos
 have hl:=kC h
 refine ⟨by (exact bA _),by (exact vd (by assumption)),?_,fun p hp=>?_,fun p k hp=>?_,fun j h1 h2=>by (exact absurd (by assumption) (dp (by assumption))),?_⟩
 ·rw [cy]
  exact (d9 P.nodup (by simp) (fun a ha b hb e=>by simp at hb;subst hb;exact hm (e▸ha)))
 ·rcases aZ.mp hp with hp | hp
  ·exact P.ne p hp
  ·rw [bG.mp hp];intro e;rw [e]at hl;simp at hl;exact T1 [.l .o .x,.e (.n 0) .x] .f tA hs hl
 ·rcases aZ.mp hp with hp | hp
  ·rcases P.pre p k hp with h | h
   ·exact .inl h
   ·exact .inr (cK _ h)
  ·have e:=bG.mp hp
   have e2:p=(bW ds start size).dropLast:=by rw [← e,List.dropLast_concat]
   by_cases q:size=1
   ·left
    rw [e2]
    apply aP
    rw [EP,hl];exact T1 [.u .x .o,.e .y .o] (.e .x (.n 0)) tA q
   ·right
    apply cK
    have:p=((ds.map zf).drop start).take (size-1):=by
     simp only [e2,mf,jM,Mt,fT,uF,cP]
     congr 1;exact T3 [.u .z .x,.i .z .x,.u .x .o,.i .x .s,.u .t .o,.l (.a .t .b) .c] (.e .y .x) tA h
    rw [this]
    exact P.cZ (size-1) (T1 [.u .x .o,.l .o .y,.E .y .o] (.l .o .x) tA hs q) (cU (by assumption) (bx _))
 ·simp only [List.flatten_append,← P.flat,List.flatten_cons,List.flatten_nil,f9,mf,List.take_add]
end
section
noncomputable def rI(B S W:Str→Bool):Prop:=∀(phr:List (List Str)) (ns:List Str) (b:Str),phr.length≤101→(∀p∈phr,p≠[]∧∀k∈p,k∈bC)→ns≠[]→ns.length≤101→(∀k∈ns,k∈bC) →
 b∈(["]", " ]", "\n]", "", "}", "\t=]"]:List Str)→(fileOf phr).length≤2 ^ 19 →
 ∃e co,Header B S W (fileOf phr++ay phr.length ns++b) (fileOf phr).length ns e co ∧
  ∀D,(∀q,q∈D↔q∈phr)→Hw phr ns (fileOf phr).length (ay phr.length ns) b phr.length=iO D ns (pG (fileOf phr++ay phr.length ns++b) e) e co
structure MI(M:TN)(phr:List (List Str)):Prop where
 cZ:∀q,(M q).isSome=true↔q=[]∨q∈phr
 num:∀(i:Nat) q,phr[i]?=some q→nM M q=some (i:Int)
theorem MI.start(r:Addr):MI (rH r) []:=⟨fun q=>by unfold rH;by_cases h:q=[] <;> simp [h],fun i q h=>by (dsimp [iF,iT,iG,iU,iH,iV,nT,nF,aT,aF,oT,oF]at h;simp at h)⟩
theorem MI.node{M M':TN}{phr:List (List Str)}{ns:List Str}{H:CH}{cl x d:Addr}{ow:FO}{ds:List Int}{start size:Nat}(P:jV ds start size phr)(I:MI M phr)(hn:gk M M' [] ns)(T:TW H cl x d M' ow)(hm:ns∉phr)(cx:ns≠[]):
  ∃nd,M' ns=some nd∧nd.ks=[]∧nd.num=none:=by
 have h1:(M' ns).isSome=true:=by
  rw [hn.cZ]
  simp [bB]
 refine cG (aY.mp h1) fun nd hnd=>?_
 have hM:M ns=none:=by
  cases e:M ns with
  | none=>rfl
  | some m =>
   rcases (I.cZ ns).mp (by rw [e];rfl)with h | h
   ·exact absurd h cx
   ·exact absurd h hm
 have yp:nd.num=none:=by
  have:=hn.num ns
  unfold nM at this
  rw [hnd,hM]at this
  exact this
 refine (cB nd hnd ?_ yp)
 cases mW:nd.ks with
 | nil=>rfl
 | cons k ks =>
  exfalso
  have hk:k∈nd.ks:=by rw [mW];exact aH
  by_cases q:k=kn
  ·have:=(T.num ns nd hnd).mp (q▸hk)
   rw [yp]at this;exact aD this
  ·have:=(T.yR ns nd k hnd q).mp hk
   rw [hn.cZ,dT]at this
   rcases this with h | h
   ·rcases (I.cZ _).mp h with h | h
    ·simp at h
    ·rcases P.pre ns k h with h | h
     ·exact cx h
     ·exact hm h
   ·rw [ae,bB,bB]at h
    have:=h.2.length_le
    simp at this
    (exact eR _ (by assumption))
theorem MI.new{M M':TN}{phr:List (List Str)}{ds:List Int}{start size:Nat}{nd:ie}(P:jV ds start size phr)(I:MI M phr)(h:start+size≤ds.length)(hm:bW ds start size∉phr)(hn:gk M M' [] (bW ds start size))(hnd:M' (bW ds start size)=some nd):
  MI (mz M' (bW ds start size) { nd with ks:=nd.ks++[kn],num:=some (phr.length:Int) }) (phr++[bW ds start size]):=by
 have hl:=kC h
 have Hz:∀q,(mz M' (bW ds start size) { nd with ks:=nd.ks++[kn],num:=some (phr.length:Int) } q).isSome=(M' q).isSome:=fun q=>by
  by_cases e:q=bW ds start size
  ·subst e;rw [mB,hnd];rfl
  ·rw [ji e]
 refine ⟨fun q=>?_,fun i q hq=>?_⟩
 ·rw [Hz,hn.cZ,dT,I.cZ,aZ,bG]
  constructor
  ·rintro ((h1 | h1) | h1)
   ·exact .inl h1
   ·exact .inr (.inl h1)
   ·rw [ae,bB,bB,bg]at h1
    refine cG h1.2 fun t ht=>?_
    have e:q=(bW ds start size).take q.length:=by rw [← ht,xv]
    have hle:q.length≤size:=by have:=congrArg bo ht;rw [bh,hl]at this;exact T3 [.e (.a .x .y) .z] (.l .x .z) tA this
    by_cases q0:q.length=0
    ·exact .inl (aP q0)
    by_cases q1:q.length=size
    ·right;right
     rw [e,q1,dM (dP (by assumption))]
    ·right;left
     rw [e,mf,Mt,oq hle]
     exact P.cZ _ (Iy (by assumption)) (dE (by assumption) (by assumption))
  ·rintro (h1 | h1 | h1)
   ·exact .inl (.inl h1)
   ·exact .inl (.inr h1)
   ·subst h1
    right
    simp [bB]
 ·by_cases e:q=bW ds start size
  ·subst e
   have:i=phr.length:=by
    rcases DN i phr.length with hi | hi
    ·rw [lh hi]at hq
     exact absurd (dF hq) hm
    ·have fM:i<(phr++[bW ds start size]).length:=(bI.mp hq).1
     simp at fM;exact T2 [.l .x .y,.t .y (.a .x .o)] (.e .y .x) tA hi fM
   clear hq;subst this
   unfold nM;rw [mB];rfl
  ·have hi:i<phr.length:=by
    rcases DN i phr.length with hi | hi
    ·exact hi
    ·rw [dN hi]at hq
     have fM:i<(phr++[bW ds start size]).length:=by
      rw [← dN hi]at hq
      exact (bI.mp hq).1
     simp at fM
     have:i-phr.length=0:=T2 [.u .x .y,.t .y (.a .z .o)] (.e .x (.n 0)) tA fM
     rw [this]at hq
     simp at hq
     exact absurd hq.symm e
   rw [lh hi]at hq
   have:=I.num i q hq
   rw [← hn.num q]at this
   unfold nM at this ⊢
   rw [ji e];exact this
end
section
structure FY(C:Cx)(ds:List Int)(o o2:wI)(ap ah:Addr)(H0:CH)(pJ:Addr→Prop)(lo:Str→Option CV)(H:CH)(phr:List (List Str))(start size:Nat)(D:List (List Str))(M:TN)(Own:Addr→Prop):Prop where
 p:jV ds start size phr
 l:L0 lo ds o o2 ap ah (fileOf phr) start size
 O:OW H o D M Own
 d:∀q,q∈D↔q∈phr
 m:MI M phr
 qm:H ap=some (.list (phr.map fun p=>.tup (p.map .str)))
 FV:H ah=some (.list ((gI phr).map .str))
 oa:¬Own ap
 oh:¬Own ah
 keep:∀a,H0 a≠none→¬pJ a→a≠ap→a≠ah→H a=H0 a∧¬Own a
 Am:(fileOf phr).length≤120*phr.length+6*start
theorem xd:∀{phr:List (List Str)},(∀p∈phr,∀k∈p,k∈bC)→g8 (phr.map fun p=>CV.tup (p.map .str))=true
 | [],_=>rfl
 | p::phr,h=>by
  have:=(dG (h p aH)).1
  simp only [aK,g8,eS,this,xd fun q hq=>h q (aG _ hq),rQ]
theorem Ca(hn:n≤101):(nt h n).length≤h.length+110:=by
 have z1:=dB (a:=(n:Int)) (n:=101) (by assumption)
 have z3:(aB "]\nn = ").length=6:=by decide +kernel
 have z4:(aB "\n").length=1:=by decide +kernel
 have z6:bt.length=0:=rfl
 unfold nt
 simp only [aI]
 exact T5 [.l .x (.a (.n 101) (.n 2)),.e .y (.n 6),.e .z .o,.e .w (.n 0)] (.l (.a (.a (.a (.a .w .s) .y) .x) .z) (.a .s (.n 110))) tA z1 z3 z4 z6
theorem Kn(ds:List Int)(start size k:Nat):mE k (((ds.drop start).take size).map Ak)=ay k (bW ds start size):=by
 delta ay bW
 rw [cm]
 congr 1
 refine cT fun d _=>(FX d).symm
theorem jt:(ay k ns).length≤3+6*ns.length:=by
 have:=xb (k:=k) (qs:=ns.map jU) fun q hq=>by
  refine az (cV.mp hq) fun n _ G7=>?_;clear hq;obtain rfl:=G7
  unfold jU
  split
  ·decide +kernel
  ·split <;> decide +kernel
 simpa [ay]using this
section
variable{C:Cx} {dep:Nat} {X:XP} {B S W:Str→Bool} {st:ak}
theorem FZ{Q:CF→ak→Prop}{ds:List Int}{o o2:wI}{ap ah:Addr}{H0:CH}{pJ:Addr→Prop}{lo:Str→Option CV}{H:CH}{phr:List (List Str)}{start size:Nat}{D:List (List Str)}{M:TN}{Own:Addr→Prop}
  (L:LX C B S W) (hf:rI B S W) (ok:C.Ok (dep+9)) (hk:HK C (ax (bK 43))) (pk:ds.length≤101) (hd:∀d∈ds,0≤d∧d<18) (cx:ap≠ah) (hH:H0 C.tb=some (.fu gC ke)) (pC:¬pJ C.tb) (Uo:C.tb≠ap∧C.tb≠ah)
  (I:FY C ds o o2 ap ah H0 pJ lo H phr start size D M Own) (hlen:start+size≤ds.length)
  (yZ:∀bY,FY C ds o o2 ap ah H0 pJ bY H phr start (size+1) D M Own→Q .cont ⟨bY,H⟩)
  (iq:∀bY H' D' M' fw,FY C ds o o2 ap ah H0 pJ bY H' (phr++[bW ds start size]) (start+size) 1 D' M' fw→Q .next ⟨bY,H'⟩):ag C kB ⟨lo,H⟩ Q X:=by
 have u5:=I.p.len
 have nV:=I.p.pos
 have zb:phr.length≤101:=T4 [.l .x (.n 101),.l (.a .y .z) .x,.l .w .y] (.l .w (.n 101)) tA pk hlen u5
 have Ko:=kC hlen
 have jf:∀k∈bW ds start size,k∈bC:=fun k hk=>by
  unfold bW at hk
  refine az (cV.mp hk) fun d _ G7=>?_;clear hk;obtain rfl:=G7
  exact yo d
 have Ze:bW ds start size≠[]:=fun e=>by rw [e]at Ko;simp at Ko;exact T1 [.l .o .x,.e (.n 0) .x] .f tA nV Ko
 have pl:=xd I.p.names
 refine FT (dep:=dep+6) L ok hk I.l hd nV hlen pk I.qm (by simp;exact zb) fun BE d Rz l1=>?_
 have hd2:=hd d (dF Rz)
 have XX:BE "names" = some (.tup ((bW ds start size).map .str)):=l1.names
 rw [Kn]at l1
 have Fb:(phr.map fun p=>CV.tup (p.map .str)).length=phr.length:=by simp
 rw [Fb]at l1
 refine gP (hf phr (bW ds start size) (CT d) zb (fun p hp=>⟨I.p.ne p hp,I.p.names p hp⟩) Ze (T4 [.l .x (.n 101),.l (.a .y .z) .x,.e .w .z] (.l .w (.n 101)) tA pk hlen Ko) jf (u7 hd2) (by have:=I.Am;exact T5 [.l .x (.n 101),.l (.a .y .z) .x,.l .w .y,.l .s (.a (.m 120 .w) (.m 6 .y))] (.l .s (.n 524288)) tA pk hlen u5 this)) fun e co HD due=>?_
 have wO:(ay phr.length (bW ds start size)).length≤1000:=by have:=jt (k:=phr.length) (ns:=bW ds start size);exact T5 [.l .x (.n 101),.l (.a .y .z) .x,.e .w .z,.l .s (.a (.n 3) (.m 6 .w))] (.l .s (.n 1000)) tA pk hlen Ko this
 have s1:∀y:Str,y∉(["names", "header", "bracket", "column", "at"]:List Str)→BE y=lo y:=l1.same
 refine Hx (dep:=dep+6) L ok hk (u7 hd2) I.qm zb wO jf I.p.names (by have:=I.Am;exact T5 [.l .x (.n 101),.l (.a .y .z) .x,.l .w .y,.l .s (.a (.m 120 .w) (.m 6 .y))] (.l .s (.n 1048576)) tA pk hlen u5 this) HD.shown l1.bracket ((s1 _ (by decide)).trans I.l.kz) l1.column XX l1.at_ ((s1 _ (by decide)).trans I.l.file) ?_
 rw [due D I.d]
 have k2:∀y:Str,y ≠ "due"→dU BE "due" (iO D (bW ds start size) (pG (fileOf phr++ay phr.length (bW ds start size)++CT d) e) e co) y=BE y:=fun y hy=>by simp [dU,hy]
 have SH:=I.keep C.tb (by rw [hH];decide) pC Uo.1 Uo.2
 refine FU (dep:=dep) L ok hk (by rw [SH.1];exact hH) SH.2 HD I.O ((k2 _ (by decide)).trans l1.bracket) ((k2 _ (by decide)).trans l1.header) ((k2 _ (by decide)).trans ((s1 _ (by decide)).trans I.l.file)) ((k2 _ (by decide)).trans ((s1 _ (by decide)).trans I.l.out)) (by rfl) (fun hD=>?_) fun hD H1 M1 O7 O1 K1 hN=>?_
 ·refine I3 (dep:=dep+6) ok hk I.qm jf pl ((I.d _).mp hD) ((k2 _ (by decide)).trans ((s1 _ (by decide)).trans I.l.kz)) ((k2 _ (by decide)).trans XX) ((k2 _ (by decide)).trans ((s1 _ (by decide)).trans I.l.size)) (yZ _ ?_)
  have g:∀y:Str,y∉(["names", "header", "bracket", "column", "at"]:List Str)→y ≠ "due"→y ≠ "size"→dU (dU BE "due" (iO D (bW ds start size) (pG (fileOf phr++ay phr.length (bW ds start size)++CT d) e) e co)) "size" (.int ((size+1:Nat):Int)) y=lo y:=fun y h1 h2 h3=>by
   rw [← s1 y h1];simp [dU,h2,h3]
  exact { I with p:=I.p.dup hlen ((I.d _).mp hD),l:=⟨(g _ (by decide) (by decide) (by decide)).trans I.l.dv,(g _ (by decide) (by decide) (by decide)).trans I.l.u6,(g _ (by decide) (by decide) (by decide)).trans I.l.out,(g _ (by decide) (by decide) (by decide)).trans I.l.turned,(g _ (by decide) (by decide) (by decide)).trans I.l.kz,(g _ (by decide) (by decide) (by decide)).trans I.l.headers,(g _ (by decide) (by decide) (by decide)).trans I.l.file,(g _ (by decide) (by decide) (by decide)).trans I.l.start,by rfl⟩ }
 ·have hm:bW ds start size∉phr:=fun h=>hD ((I.d _).mpr h)
  refine Q0 (id O1) fun N1 pv ow21 F1 T1 ap1 own1 _ _ _=>?_
  refine eZ (I.m.node I.p hN T1 hm Ze) fun nd hnd mW yp=>?_
  refine ao (K1.same ap I.oa (by rw [I.qm];simp)) fun e1 e2=>?_
  refine ao (K1.same ah I.oh (by rw [I.FV];simp)) fun e3 e4=>?_
  have g0:∀y:Str,y∉(["names", "header", "bracket", "column", "at"]:List Str)→y ≠ "due"→dU BE "due" (iO D (bW ds start size) (pG (fileOf phr++ay phr.length (bW ds start size)++CT d) e) e co) y=lo y:=fun y h1 h2=>by
   rw [← s1 y h1];simp [dU,h2]
  refine I4 (dep:=dep) (hdrs:=gI phr) L ok hk O1 hnd mW yp (e1.trans I.qm) (e3.trans I.FV) cx e2 e4 jf pl hm zb (by rw [qA];exact zb) wO (by have:=I.Am;exact T5 [.l .x (.n 101),.l (.a .y .z) .x,.l .w .y,.l .s (.a (.m 120 .w) (.m 6 .y))] (.l .s (.n 524288)) tA pk hlen u5 this)
   ((g0 _ (by decide) (by decide)).trans I.l.out) ((g0 _ (by decide) (by decide)).trans I.l.kz) ((g0 _ (by decide) (by decide)).trans I.l.headers) ((k2 _ (by decide)).trans XX) ((k2 _ (by decide)).trans l1.header) ((g0 _ (by decide) (by decide)).trans I.l.file) ((g0 _ (by decide) (by decide)).trans I.l.start) ((g0 _ (by decide) (by decide)).trans I.l.size)
   fun Dp H2 O2 f1 f2 f3 f4 f5 f6 f7=>iq Dp H2 (bW ds start size::D) (mz M1 (bW ds start size) { nd with ks:=nd.ks++[kn],num:=some (phr.length:Int) }) O7 ?_
  have g:∀y:Str,y∉(["names", "header", "bracket", "column", "at"]:List Str)→y ≠ "due"→y∉(["table", "name", "file", "start", "size"]:List Str)→Dp y=lo y:=fun y h1 h2 h3=>by
   rw [f7 y h3];exact g0 y h1 h2
  refine ⟨I.p.new hlen hm,⟨(g _ (by decide) (by decide) (by decide)).trans I.l.dv,(g _ (by decide) (by decide) (by decide)).trans I.l.u6,(g _ (by decide) (by decide) (by decide)).trans I.l.out,(g _ (by decide) (by decide) (by decide)).trans I.l.turned,(g _ (by decide) (by decide) (by decide)).trans I.l.kz,(g _ (by decide) (by decide) (by decide)).trans I.l.headers,?_,f5,f6⟩,
   O2,fun q=>?_,I.m.new I.p hlen hm hN hnd,f1,by rw [Al];exact f2,e2,e4,fun a ha h0 a1 a2=>?_,?_⟩
  ·rw [lA];exact f4
  ·rw [aq,I.d,aZ,bG];exact Or.comm
  ·refine ao (I.keep a ha h0 a1 a2) fun q1 q2=>?_
   refine ao (K1.same a q2 (by rw [q1];exact ha)) fun q3 q4=>?_
   exact ⟨(f3 a (by rw [q3,q1];exact ha) a1 a2 q4).trans (q3.trans q1),q4⟩
  ·simp only [lA,aI,bh,dZ]
   have:=Ca (h:=ay phr.length (bW ds start size)) (n:=phr.length) zb
   have:=jt (k:=phr.length) (ns:=bW ds start size)
   have:=I.Am
   exact T7 [.e .x .y,.l .z (.a .w (.n 110)),.l .w (.a (.n 3) (.m 6 .x)),.l .s (.a (.m 120 .t) (.m 6 .b))] (.l (.a .s .z) (.a (.m 120 (.a .t .o)) (.m 6 (.a .b .y)))) tA Ko (by assumption) (by assumption) this
theorem Fc{Q:CF→ak→Prop}{pJ:Addr→Prop}{lo:Str→Option CV}
  (L:LX C B S W) (hf:rI B S W) (ok:C.Ok (dep+9)) (hk:HK C (ax (bK 43))) (pk:ds.length≤101) (hd:∀d∈ds,0≤d∧d<18) (cx:ap≠ah) (hH:H0 C.tb=some (.fu gC ke)) (pC:¬pJ C.tb) (Uo:C.tb≠ap∧C.tb≠ah)
  (e:∃b,(bodyOf (bK 43)).getD 4 (.Pass default)=.While t b oe pos) (O:OW H0 o [] (rH r) pJ) (qm:H0 ap=some (.list [])) (FV:H0 ah=some (.list [])) (oa:¬pJ ap) (oh:¬pJ ah) (l:L0 lo ds o o2 ap ah "" 0 1)
  (h:∀bY H' phr start size D M fw,ds.length<start+size→FY C ds o o2 ap ah H0 pJ bY H' phr start size D M fw→Q .next ⟨bY,H'⟩) :
  WS C (.While t kB oe pos) ⟨lo,H0⟩ Q X:=by
 revert e;intro R8;refine cG R8 fun b e=>?_;try clear R8
 cases e
 refine WS.uO ok (fun n st=>∃lo H phr start size D M Own,n=(ds.length-start)*200+(200-size)∧FY C ds o o2 ap ah H0 pJ lo H phr start size D M Own∧st=⟨lo,H⟩) _ (VM lo H0 ([]) 0 1 ([]) (rH r) pJ rfl ?_ rfl) ?_
 ·refine ⟨.start,l,O,fun q=>JR,.start r,qm,FV,oa,oh,fun a _ h1 _ _=>⟨rfl,h1⟩,?_⟩
  show (aB "").length≤_
  decide +kernel
 rintro n bJ R4
 refine U81 R4 fun lo H phr start size D M Own G1 R9=>?_;try clear R4;obtain rfl:=G1;(refine ao R9 fun I G8=>?_;try clear R9;obtain rfl:=G8)
 refine WT.ez (WE.binop (WE.nm ok hk I.l.start (WE.nm ok hk I.l.size (W2.kZ ?_))))
 refine WE.call ok (WE.glob ok L.g (v:=.builtin "len") rfl (cB _ rfl bu.builtin ?_) (by rw [hk];rfl))
 refine WE.nm ok hk I.l.dv (aW.Vw (by simp;(exact aJ (by assumption) (by decide))) (W2.leI (iW.bool ⟨fun hc=>?_,fun hc=>?_⟩)))
 ·have hlen:start+size≤ds.length:=by
   have:=of_decide_eq_true hc
   simp at this;exact T3 [.l (.a .x .y) .z] (.l (.a .x .y) .z) tA (ct.mp this)
  refine FZ L hf ok hk pk hd cx hH pC Uo I hlen (fun bY I'=>(aw _ ?_ (VM bY H phr start (size+1) D M Own rfl I' rfl))) fun bY H' D' M' fw I'=>(aw _ ?_ (VM bY H' _ (start+size) 1 D' M' fw rfl I' rfl))
  ·exact T3 [.u .x .y,.u (.n 200) (.a .w .o),.u (.n 200) .s,.l .w (.n 101),.l (.a .s .t) .w] (.t (.a (.r .z 200) .y) (.a (.r .z 200) .x)) tA pk hlen
  ·have:ds.length-start=(ds.length-(start+size))+size:=T3 [.u .z .x,.u .w (.a .y .z),.l (.a .z .w) .s] (.e .y (.a .x .w)) tA hlen
   rw [this,qi]
   exact T3 [.u .x (.a .y .z),.u (.n 200) .o,.u (.n 200) .s] (.t (.a (.r .z 200) .y) (.a (.a (.r .z 200) (.r .t 200)) .x)) tA
 ·have hlen:ds.length<start+size:=by
   have:=of_decide_eq_false hc
   simp at this;exact T3 [.t .x (.a .y .z)] (.t .x (.a .y .z)) tA (cD.mp this)
  exact ag.nil (h lo H phr start size D M Own hlen I)
end
end
section
noncomputable def numOf(M:TN)(p:List Str):Int:=(nM M p).getD 0
noncomputable def vE(M:TN)(p:List Str):CV:=.tup [.int (numOf M p),.tup (p.map .str)]
noncomputable def Zf:Expr:=.Constant .none 0 default
noncomputable def SI:Expr→List Expr
 | .ListComp e gs _ _=>e::gs.map (·.target)
 | .Compare a _ bs _=>a::bs
 | .Call f as _ _=>f::as
 | _=>[]
noncomputable def SJ:Stmt→List Expr
 | .Assign ts v _=>v::ts
 | .Return (some e) _=>[e]
 | .For t _ _ _ _=>[t]
 | _=>[]
noncomputable def kE(i:Nat)(e:Expr):Expr:=(SI e).getD i Zf
noncomputable def kS(s:Stmt):Expr:=(SJ s).getD 0 Zf
noncomputable def Kp(s:Stmt):Expr:=kE 0 (kS s)
noncomputable def Kq(s:Stmt):Expr:=kE 1 (kS s)
section
variable{C:Cx} {dep:Nat} {X:XP} {B S W:Str→Bool} {st:ak}
theorem Cb(ok:C.Ok dep)(hw:C.w=w)(hg:kQ C G6)(T:TW H1 cl x d M ow)(hD:∀p,(M p).isSome=true→p.length≤n)
  (k1:C.env.kindOf "way" = some .local) (k2:C.env.kindOf "table" = some .local) (k3:C.env.kindOf "type" = some .globalImplicit) (k4:C.env.kindOf "dict" = some .globalImplicit) :
  ∀(ws:List (List Str)) (acc:List CV) (lo:Str→Option CV),(∀p∈ws,(nM M p).isSome=true)→acc.length+ws.length≤1000→(∀bY,Q (acc++ws.map (vE M)) ⟨bY,H⟩) →
   yE C (lG C (Kp ((bodyOf (bK 43)).getD 5 (.Pass default))) []) (Kq ((bodyOf (bK 43)).getD 5 (.Pass default))) [] (ws.map (gX w M n)) ⟨lo,H⟩ acc Q X:=by
 subst hw
 intro ws
 induction ws with
 | nil=>intro acc lo _ _ q;have:=q lo;simpa [yE]using this
 | cons p ws ih =>
  intro acc lo hs hl q
  simp only [af]at hl
  refine cG (aY.mp (hs p aH)) fun i hi=>?_
  obtain ⟨nd,hnd,yp⟩:∃nd,M p=some nd∧nd.num=some i:=by
   unfold nM at hi
   cases e:M p with
   | none=>rw [e]at hi;contradiction
   | some nd=>rw [e]at hi;exact (aw nd rfl hi)
  have hp:=hD p (by rw [hnd];rfl)
  have SM:=(T.pD p nd hnd).1
  have mn:kn∈nd.ks:=(T.num p nd hnd).mpr (by rw [yp];rfl)
  have NY:(mC C.w M n p nd).lookup kn=some (.int i):=by rw [t8,if_pos mn,if_pos rfl,yp];rfl
  have SN:(mC C.w M n p nd).lookup (aB "n")=some (.int i):=NY
  have Bz:numOf M p=i:=by unfold numOf;rw [hi];rfl
  have RV:tv C.w M n p=.x9 C.w (mC C.w M n p nd):=xT hnd hp
  refine WA.tuple (vs:=[.tup (p.map .str),tv C.w M n p]) ok rfl ?_
  refine WA.name ok (by rw [k1];rfl) (WA.name ok (by rw [k2];rfl) ⟨fun _=>?_,fun h=>by exact aD h⟩)
  refine (?_:WE C _ _ _ X)
  have lt:∀{O5:Str→Option CV},O5 "table" = some (tv C.w M n p)→O5 "table" = some (.x9 C.w (mC C.w M n p nd)):=fun h=>by rw [h,RV]
  refine WE.tuple (WE.xA (WT.rm ?_))
  refine WT.ez (WE.call ok (WE.glob ok hg (v:=.type "type") rfl (cB _ rfl bu.type (WE.name ok.kY (lt rfl) (aW.yg (WE.glob ok hg (v:=.type "dict") rfl (W2.KV (iW.bool ?_)) k4)) (by rw [k2];rfl))) k3))
  refine WT.ez (WE.str (WE.name ok.kY (lt rfl) (W2.RP (k8 SM) ?_) (by rw [k2];rfl)))
  rw [SN]
  refine iW.bool ?_
  refine WE.sub (WE.name ok.kY (lt rfl) (WE.str (W2.yf (k8 SM) SN ?_)) (by rw [k2];rfl))
  refine WE.name ok.kY (v:=.tup (p.map .str)) rfl (d9 (by (dsimp [iF,iT,iG,iU,iH,iV,nT,nF,aT,aF,oT,oF];simp)) (T2 [.l (.a .x (.a .y .o)) (.n 1000)] (.t .x (.n 16777216)) tA hl) ?_) (by rw [k1];rfl)
  refine ih _ _ (fun q hq=>hs q (aG _ hq)) (by simp;exact T2 [.l (.a .x (.a .y .o)) (.n 1000)] (.l (.a (.a .x .o) .y) (.n 1000)) tA hl) fun bY=>?_
  have:=q bY
  rewrite [aK]at this
  rw [bU]
  unfold vE at this ⊢
  rw [Bz]at this
  exact this
end
end
section
theorem jV.Am{ds:List Int}{start size:Nat}{phr:List (List Str)}(P:jV ds start size phr):(phr.map bo).sum≤start∧(start≤ds.length→(phr.map bo).sum=start):=by
 have h:=congrArg bo P.flat
 rw [fT,cP,qt]at h
 exact ⟨by exact T3 [.i .x .y,.e .x .w] (.l .w .y) tA h,fun hs=>by exact T3 [.i .x .y,.e .x .w,.l .y .z] (.e .w .y) tA h hs⟩
theorem jV.RN{ds:List Int}{start size:Nat}{phr:List (List Str)}(P:jV ds start size phr)(pk:ds.length≤101):phr.length≤52:=by
 have h:=congrArg bo P.flat
 rw [fT,cP,qt]at h
 have go:∀l:List (List Str),(∀p∈l,p≠[])→2*l.length≤(l.map bo).sum+(l.filter fun p=>p.length=1).length:=fun l=>by
  induction l with
  | nil=>decide
  | cons p l ih =>
   intro hn
   have h1:=ih fun q hq=>hn q (aG _ hq)
   have h2:1≤p.length:=qu.mpr (hn p aH)
   simp only [af,aK,jc,gr]
   by_cases q:p.length=1
   ·simp [q];exact T3 [.l (.m 2 .x) (.a .y .z)] (.l (.m 2 (.a .x .o)) (.a (.a .o .y) (.a .z .o))) tA h1
   ·simp [q];exact T4 [.l (.m 2 .x) (.a .y .z),.l .o .w,.E .w .o] (.l (.m 2 (.a .x .o)) (.a (.a .w .y) .z)) tA h1 h2 q
 have h1:=go phr P.ne
 have h2:(phr.filter fun p=>p.length=1).length≤3:=by
  have hn:(phr.filter fun p=>p.length=1).Nodup:=vf _ P.nodup
  have:=c9 (l₂:=[[("a" : Str)],[""],["a.a"]]) hn fun p hp=>by
   rw [ju]at hp
   refine ao hp fun ME C0=>?_;try clear hp
   have C0:=of_decide_eq_true C0
   obtain ⟨k,rfl⟩:∃k,p=[k]:=by
    cases p with
    | nil=>simp at C0
    | cons k p=>exact (dA k (by simp at C0;rw [C0]))
   have hk:=P.names _ ME k (by simp)
   have:k = "a"∨k = ""∨k = "a.a":=by simpa [bC]using hk
   rcases this with rfl | rfl | rfl <;> decide
  simpa using this
 exact T5 [.i .y .x,.l .y (.n 101),.e .x .w,.l (.m 2 .s) (.a .w .t),.l .t (.n 3)] (.l .s (.n 52)) tA pk h h1 h2
theorem jV.two{ds:List Int}{start size:Nat}{phr:List (List Str)}(P:jV ds start size phr)(pk:11≤ds.length)(wK:ds.length<start+size):2≤phr.length∧start≤ds.length:=by
 have hb:=P.bound
 have nV:=P.pos
 have sE:start≤ds.length:=T3 [.l (.a .x .y) (.a .z .o),.l .o .y] (.l .x .z) tA hb nV
 refine ⟨?_,sE⟩
 have wQ:=P.Am.2 sE
 have tl:∀j,j≤ds.length-start→(((ds.map zf).drop start).take j).length=j:=fun j hj=>by simp;exact T3 [.u .y .z,.i .y .x,.l .z .y] (.e .x .z) tA hj
 cases h:phr with
 | nil =>
  exfalso
  rw [h]at wQ
  simp at wQ
  have:=P.cZ 1 (bA _) (T3 [.l (.n 11) .x,.t .x (.a .y .z),.e (.n 0) .y] (.t .o .z) tA pk wK wQ)
  rw [h]at this;simp at this
 | cons p r =>
  cases r with
  | cons q r=>simp
  | nil =>
   exfalso
   have ME:p∈phr:=by rw [h];simp
   have cx:=P.ne p ME
   have tB:p.length=1:=by
    rcases DN p.length 2 with h2 | h2
    ·have:=qu.mpr cx;exact T1 [.t .x (.n 2),.t (.n 0) .x] (.e .x .o) tA h2 this
    ·exfalso
     have C0:p.dropLast++[p.getLast cx]∈phr:=by rw [d8];exact ME
     rcases P.pre _ _ C0 with h3 | h3
     ·have:=congrArg bo h3;simp at this;exact T1 [.u .x .o,.l (.n 2) .y,.e .x (.n 0)] .f tA h2 this
     ·rw [h]at h3
      have:=congrArg bo (bG.mp h3)
      rw [EP]at this;exact T1 [.u .x .o,.l (.n 2) .y,.e .x .y] .f tA h2 this
   rw [h]at wQ
   simp at wQ
   have m2:=P.cZ 2 (bA _) (T4 [.l (.n 11) .x,.t .x (.a .y .z),.e .w .o,.e .w .y] (.t (.n 2) .z) tA pk wK tB wQ)
   rw [h]at m2
   have:=congrArg bo (bG.mp m2)
   rw [tl 2 (T3 [.u .x .z,.l (.n 11) .y,.e .z .o,.e .z .w] (.l (.n 2) .x) tA pk tB wQ)]at this
   exact T1 [.e .x .o,.e (.n 2) .x] .f tA tB this
theorem MI.numOf{M:TN}{phr:List (List Str)}(I:MI M phr){i:Nat}{p:List Str}(h:phr[i]?=some p):numOf M p=i∧(nM M p).isSome=true:=by
 have:=I.num i p h
 unfold Mine.numOf
 rw [this];exact ⟨rfl,rfl⟩
noncomputable def sM(phr:List (List Str)):List CV:=phr.zipIdx.map fun p=>.tup [.int (p.2:Int),.tup (p.1.map .str)]
theorem Cc{phr:List (List Str)}{i:Nat}{p:List Str}(h:phr[i]?=some p):(sM phr)[i]?=some (.tup [.int (i:Int),.tup (p.map .str)]):=by
 unfold sM
 rw [cH,List.getElem?_zipIdx,h]
 simp
section
variable{C:Cx} {dep:Nat} {X:XP} {B S W:Str→Bool} {st:ak} {Q:CV→ak→Prop}
theorem vF{M:TN}{phr ws:List (List Str)}(ok:C.Ok dep)(I:MI M phr)(hn:phr.Nodup)(hw:ws.Nodup)(hm:∀p,p∈ws↔p∈phr)(h2:2≤phr.length)(X6:phr.length≤52)(h:Q (.lst (sM phr)) st):
  aW C (.builtin "sorted") [.lst (ws.map (vE M))] [] [] st Q X:=by
 have perm:ws.Perm phr:=(gf hw hn).mpr hm
 have hlen:=perm.length_eq
 have idx:∀i,i<ws.length→∃p,ws[i]?=some p∧phr[phr.idxOf p]?=some p∧phr.idxOf p<phr.length:=fun i hi=>by
  have hp:ws[i]∈phr:=(hm _).mp (jT hi)
  have:=gM hp
  exact (cB (ws[i]) (aU hi) (by rw [aU this,dk]) this)
 have FH:∀(i:Nat) (p:List Str),ws[i]?=some p→phr.idxOf ((ws[i]?).getD [])=phr.idxOf p:=fun i p e=>by rw [e];rfl
 refine aW.sorted (b:=true) (rk:=fun i=>phr.idxOf ((ws[i]?).getD [])) ok (by simpa [hlen]using h2) (by simp [hlen];(exact bH (by assumption) (by decide))) (by simp [sM,hlen]) (fun i hi=>?_) (fun i j hi hj e=>?_) (fun c hc=>?_) (fun i j c d hc hd pH KF I0 s u v D S r1 r2 hD=>?_) h
 ·have nR:i<ws.length:=by simpa using hi
  refine eZ (idx i nR) fun p e1 e2 e3=>?_
  rewrite [FH i p e1]
  refine ⟨by simp [hlen];exact e3,?_⟩
  simp only [Cc e2,cH,e1]
  show _=some (vE M p)
  unfold vE
  rw [(I.numOf e2).1]
 ·have nR:i<ws.length:=by simpa using hi
  have pz:j<ws.length:=by simpa using hj
  refine eZ (idx i nR) fun p e1 e2 e3=>?_
  refine eZ (idx j pz) fun q f1 f2 f3=>?_
  simp only [FH i p e1,FH j q f1]at e
  rw [e,f2]at e2
  have SO:q=p:=aE e2
  clear e3 e2 e;subst SO
  rw [aU nR]at e1
  rw [aU pz]at f1
  have:ws[i]=ws[j]:=by simp only [aE e1,aE f1]
  exact (uJ hw).mp this
 ·refine az (cV.mp hc) fun p _ G7=>?_;clear hc;obtain rfl:=G7
  rfl
 ·rw [cH]at hc hd
  refine az (dJ.mp hc) fun p e1 G7=>?_;obtain rfl:=G7
  refine az (dJ.mp hd) fun q f1 G7=>?_;clear hd;obtain rfl:=G7
  have nR:i<ws.length:=(bI.mp e1).1
  have pz:j<ws.length:=(bI.mp f1).1
  refine eZ (idx i nR) fun p' FG e2 e3=>?_
  refine eZ (idx j pz) fun q' PR f2 f3=>?_
  rw [e1]at FG;obtain rfl:=aE FG
  rw [f1]at PR;obtain rfl:=aE PR
  simp only [FH i p e1,FH j q f1]at hD
  have cx:phr.idxOf p≠phr.idxOf q:=fun e=>by
   rw [e,f2]at e2
   have SO:q=p:=aE e2
   clear hc r1 FG e2 e3 hD e;subst SO
   rw [aU nR]at e1
   rw [aU pz]at f1
   exact pH ((uJ hw).mp (by rw [aE e1,aE f1]))
  unfold vE at r1 r2
  rw [(I.numOf e2).1]at r1
  rw [(I.numOf f2).1]at r2
  refine Kc S (by exact mt GW (T2 [.E .x .y] (.E .x .y) tA cx)) r1 r2 ?_
  have:decide (((phr.idxOf p:Nat):Int)<((phr.idxOf q:Nat):Int))=decide (phr.idxOf p<phr.idxOf q):=by
   apply decide_eq_decide.mpr;simp
  rw [this];exact hD
end
end
section
theorem OW.mY(h:OW H o D M Own):∀a,¬Own a→mY M H a=H a:=fun a ha=>by
 refine BK h fun N ow mM F T GN own _=>?_;try clear h
 unfold Mine.mY
 rw [if_neg]
 intro R4
 refine gP R4 fun p nd h1 G5=>?_;try clear R4;obtain rfl:=G5
 exact ha ((own _).mpr (.inr (by rw [T.pv p nd h1];simp)))
theorem kD{α:Type}:∀(l:List α) (n:Nat),(l.zipIdx n).map (·.1)=l
 | [],_=>rfl
 | a::l,n=>by simp only [uK,aK,kD l (n+1)]
theorem sN(l:List Str):sx (.lst (l.map .str)) (.lst (l.map .str))=true:=by
 unfold sx
 dsimp only [toPy,ff]
 rw [jI];simp
section
variable{C:Cx} {dep:Nat} {X:XP} {B S W:Str→Bool} {st:ak}
theorem An(ok:C.Ok dep)(k1:C.env.kindOf "number" = some .local)(k2:C.env.kindOf "way" = some .local)(k3:C.env.kindOf "name" = some .local)
  (he:∃p,elt=.Name "name" p) (ht:∃p1 p2 k p3,tgt=.Tuple [.Name "number" p1,.Name "way" p2] k p3) (hg:∃p1 p2,g2=⟨.Name "name" p1,.Name "way" p2,[],0⟩) :
  ∀(cs:List (Int×List Str)) (acc:List CV) (lo:Str→Option CV),acc.length+(cs.map fun c=>c.2.length).sum≤1000→(∀bY,Q (acc++(cs.map fun c=>c.2.map CV.str).flatten) ⟨bY,H⟩) →
   yE C (lG C elt [g2]) tgt [] (cs.map fun c=>.tup [.int c.1,.tup (c.2.map .str)]) ⟨lo,H⟩ acc Q X:=by
 refine cG he fun pe G8=>?_;try clear he;obtain rfl:=G8
 refine U40 ht fun p1 p2 k p3 G4=>?_;try clear ht;obtain rfl:=G4
 refine Gh hg fun p4 p5 G7=>?_;try clear hg;obtain rfl:=G7
 intro cs
 induction cs with
 | nil=>intro acc lo _ q;have:=q lo;simpa [yE]using this
 | cons c cs ih =>
  intro acc lo hl q
  simp only [aK,jc]at hl
  refine WA.tuple (vs:=[.int c.1,.tup (c.2.map .str)]) ok rfl (WA.name ok (by rw [k1];rfl) (WA.name ok (by rw [k2];rfl) ⟨fun _=>?_,fun h=>by exact aD h⟩))
  refine (?_:WE C _ _ _ X)
  refine WE.name ok.kY (v:=.tup (c.2.map .str)) rfl (aw _ du.tup ?_) (by rw [k2];rfl)
  have inner:∀(ns:List Str) (acc:List CV) (lo:Str→Option CV),acc.length+ns.length+(cs.map fun c=>c.2.length).sum≤1000→(∀bY,Q (acc++ns.map .str++(cs.map fun c=>c.2.map CV.str).flatten) ⟨bY,H⟩) →
    yE C (lG C (.Name "name" pe) []) (.Name "name" p4) [] (ns.map .str) ⟨lo,H⟩ acc (fun nW i8=>yE C (lG C (.Name "name" pe) [⟨.Name "name" p4,.Name "way" p5,[],0⟩]) (.Tuple [.Name "number" p1,.Name "way" p2] k p3) [] (cs.map fun c=>.tup [.int c.1,.tup (c.2.map .str)]) i8 nW Q X) X:=by
   intro ns
   induction ns with
   | nil =>
    intro acc lo hl q
    exact ih acc lo (by simpa using hl) fun bY=>by simpa using q bY
   | cons n ns Wj =>
    intro acc lo hl q
    simp only [af]at hl
    refine WA.name ok (by rw [k3];rfl) ⟨fun _=>?_,fun h=>by exact aD h⟩
    refine (?_:WE C _ _ _ X)
    refine WE.name ok.kY (v:=.str n) rfl ⟨by exact T3 [.l (.a (.a .x (.a .y .o)) .z) (.n 1000)] (.t .x (.n 16777216)) tA hl,?_⟩ (by rw [k3];rfl)
    exact Wj (acc++[.str n]) _ (by simp;exact T3 [.l (.a (.a .x (.a .y .o)) .z) (.n 1000)] (.l (.a (.a (.a .x .o) .y) .z) (.n 1000)) tA hl) fun bY=>by simpa using q bY
  exact inner c.2 acc _ (T3 [.l (.a .x (.a .y .z)) (.n 1000)] (.l (.a (.a .x .y) .z) (.n 1000)) tA hl) fun bY=>by simpa using q bY
theorem wR{Q:CF→ak→Prop}{ds:List Int}{o o2:wI}{ap ah:Addr}{H0:CH}{pJ:Addr→Prop}{lo:Str→Option CV}{H:CH}{phr:List (List Str)}{start size:Nat}{D:List (List Str)}{M:TN}{Own:Addr→Prop}
  (L:LX C B S W) (ok:C.Ok (dep+9)) (hk:HK C (ax (bK 43))) (pk:ds.length≤101) (Nc:11≤ds.length) (I:FY C ds o o2 ap ah H0 pJ lo H phr start size D M Own) (wK:ds.length<start+size)
  (h:∀bY,(∀y:Str,y ≠ "numbered"→bY y=lo y)→ag C ((bodyOf (bK 43)).drop 7) ⟨bY,mY M H⟩ Q X):ag C ((bodyOf (bK 43)).drop 5) ⟨lo,H⟩ Q X:=by
 refine ao (I.p.two Nc wK) fun h2 sE=>?_
 have PS:=I.p.RN pk
 refine BK (id I.O) fun N ow mM F T GN own _=>?_
 refine az T.attrs fun rt BN Km=>?_
 have wQ:=I.p.Am.2 sE
 have Fb:∀p∈phr,p.length≤101:=fun p hp=>by
  have:∀l:List (List Str),p∈l→p.length≤(l.map bo).sum:=fun l=>by
   induction l with
   | nil=>intro h;cases h
   | cons q l ih =>
    intro h
    simp only [aK,jc]
    rcases aq.mp h with rfl | h
    ·(exact bf _ _)
    ·have:=ih h;exact T3 [.l .x .y] (.l .x (.a .z .y)) tA this
  have:=this phr hp
  exact T4 [.l .x (.n 101),.l .y .x,.e .z .y,.l .w .z] (.l .w (.n 101)) tA pk sE wQ this
 refine ag.cons ?_
 refine @WS.uX C _ _ X _ _ _ _ _ _ _ _ _ _ ok ?h5 ?hcap ?hx ?hs ?hkk ?hnd ?has ?hfold
 case hcap=>rfl
 case hx=>rw [hk];rfl
 case hs =>
  have k1:C.env.kindOf "numbered" = some .local:=by rw [hk];rfl
  have k3:C.env.blockKind=.function:=gS ok
  delta tL
  dsimp only
  rw [k1,k3]
  rfl
 case hkk=>rfl
 case hnd=>decide +kernel
 case has=>simp
 case hfold=>first | exact sv fun _ _=>rfl | exact A4 (fun _ _=>rfl) fun _ _=>rfl
 refine WE.call ok (WE.glob ok L.g (v:=.ref 422) rfl (cB _ rfl L.yX ?_) (by rw [hk];rfl))
 refine WE.Hy (WE.attr (WE.nm ok hk I.l.out (g9.field (dep:=dep+7) (k:=0) ok L.oc L.oc.data L.oc.d0 rfl (by show 2≤100;decide) (fun u h=>by contradiction) ?_)))
 refine T.oU ok L.ne BN ?_
 have O8:∀p,(M p).isSome=true→p∈[]::phr:=fun p hp=>by
  rcases (I.m.cZ p).mp hp with h | h
  ·rw [h];exact aH
  ·exact aG _ h
 have hD:∀p,(M p).isSome=true→p.length≤101:=fun p hp=>by
  rcases (I.m.cZ p).mp hp with h | h
  ·rw [h];simp
  ·exact Fb p h
 refine uz (dep:=dep+8) (D:=101) (ps:=[]::phr) L ok T BN O8 (by simp;(exact aJ (by assumption) (by decide))) hD (cQ _ _) (fun p k hp=>?_) fun ws hw hm=>?_
 ·rcases (I.m.cZ _).mp hp with h | h
  ·simp at h
  ·exact fun e=>uu (e▸I.p.names _ h k (by simp))
 have Bq:∀p,p∈ws↔p∈phr:=fun p=>by
  rw [hm,I.m.cZ]
  constructor
  ·rintro ⟨h1,h2 | h2⟩
   ·exact absurd h2 h1
   ·exact h2
  ·exact fun h=>⟨I.p.ne p h,.inr h⟩
 have perm:ws.Perm phr:=(gf hw I.p.nodup).mpr Bq
 have wl:=perm.length_eq
 refine (aw _ du.lst (fun C2 wF s2 qI=>?_))
 have kx:∀y,C2.env.kindOf y=_:=fun y=>by unfold eB;rw [qI,eI]
 refine Cb (H:=mY M H) (w:=C.w) (n:=101) wF s2.w (L.same s2).g T hD (by rw [kx];rfl) (by rw [kx];rfl) (by rw [kx];rfl) (by rw [kx];rfl) ws [] _ (fun p hp=>?_) (by simp;exact T2 [.l .x (.n 52),.e .y .x] (.l .y (.n 1000)) tA PS wl) fun bY=>.inl ?_
 ·refine cG (List.mem_iff_getElem?.mp ((Bq p).mp hp)) fun i hi=>?_
  exact (I.m.numOf hi).2
 rw [bg]
 refine ag.cons ?_
 refine WS.oK ?_
 refine WT.ez ?_
 refine @WE.comp C _ _ X _ _ _ _ _ _ _ ok ?h6 ?hcap6 ?hk6 ?hnd6 ?has6 ?hfold6
 case hcap6=>rfl
 case hk6=>rfl
 case hnd6=>decide +kernel
 case has6=>simp
 case hfold6=>first | exact sv fun _ _=>rfl | exact A4 (fun _ _=>rfl) fun _ _=>rfl
 refine WE.call ok (WE.glob ok L.g (v:=.builtin "sorted") rfl (cB _ rfl bu.builtin ?_) (by rw [hk];rfl))
 refine WE.nm ok hk (v:=.lst (ws.map (vE M))) rfl ?_
 refine vF (dep:=dep+9) ok I.m I.p.nodup hw Bq h2 PS (aw _ du.lst (fun C3 E1 s3 O9=>?_))
 have SP:∀y,C3.env.kindOf y=_:=fun y=>by unfold eB;rw [O9,eI]
 have er:sM phr=((phr.zipIdx.map fun p=>((p.2:Int),p.1)):List (Int×List Str)).map fun c=>.tup [.int c.1,.tup (c.2.map .str)]:=by
  unfold sM;rw [cm];rfl
 have e2:((phr.zipIdx.map fun p=>((p.2:Int),p.1)):List (Int×List Str)).map (fun c=>c.2.length)=phr.map bo:=by
  rw [cm]
  have:((fun c:Int×List Str=>c.2.length)∘fun p:List Str×Nat=>((p.2:Int),p.1))=fun p=>p.1.length:=rfl
  rw [this]
  have e:=congrArg (Mo bo) (kD phr 0)
  rw [cm]at e
  exact e
 have e3:(((phr.zipIdx.map fun p=>((p.2:Int),p.1)):List (Int×List Str)).map fun c=>c.2.map CV.str)=phr.map fun p=>p.map CV.str:=by
  rw [cm]
  have e:=congrArg (Mo fun p:List Str=>p.map CV.str) (kD phr 0)
  rw [cm]at e
  exact e
 rw [er]
 refine An E1 (by rw [SP];rfl) (by rw [SP];rfl) (by rw [SP];rfl) (dA _ rfl) (V40 _ _ _ _ rfl) (Py _ _ rfl) _ [] _ (by rw [e2];simp;exact T3 [.l .x (.n 101),.l .y .x,.e .z .y] (.l .z (.n 1000)) tA pk sE wQ) fun Up=>.inl ?_
 rw [e3,bg]
 have e4:(phr.map fun p=>p.map CV.str).flatten=phr.flatten.map CV.str:=by
  rw [List.map_flatten]
 rw [e4,← I.p.flat]
 refine (?_:WE C _ _ _ X)
 refine WE.slice (WE.nm ok hk (v:=.lst (ds.map fun d=>.str (zf d))) I.l.u6 (WE.nm ok hk (v:=.int start) I.l.start (aw _ rfl (BM.lst (by decide) (by simp;(exact aJ (by assumption) (by decide))) ?_))))
 have e5:nZ (ds.map fun d=>CV.str (zf d)) none (some ((start:Nat):Int)) none=((ds.map zf).take start).map .str:=by
  rw [Hv (by simpa using sE),← jb,← jb,cm];rfl
 rw [e5]
 have hn:∀k∈(ds.map zf).take start,k∈bC:=fun k hk=>by
  refine az (cV.mp (EO hk)) fun d _ G7=>?_;clear hk;obtain rfl:=G7
  exact yo d
 have p1:=(dG hn).1
 have p3:=(dG hn).2.2.1
 refine W2.P5 ok (by simpa [eS]using p1) (by simpa [eS]using p1) (by simp only [toPy,bR,p3];(exact bA _)) ?_
 rw [sN]
 refine iW.bool ⟨fun q=>(aD q),fun _=>ag.nil ?_⟩
 exact h _ fun y hy=>by simp [ak.put,dU,hy]
end
end
section
noncomputable def nu(B S W:Str→Bool):Prop:=∀(i:Nat) (ns:List Str),i≤101→ns≠[]→ns.length≤101→(∀k∈ns,k∈bC) →
 ∃co,Header B S W (ay i ns ++ "]") 0 ns (ay i ns).length co∧pG (ay i ns ++ "]") (ay i ns).length=true ∧
  mX (lO ns) co=bt ++ "Cannot declare "++iM (ns.map .str) ++ " twice (at line 1, column "++aB (toString ((ay i ns ++ "]").length:Int)) ++ ")"
noncomputable def yq(p:List Str×Nat):CV:=.tup [.tup (p.1.map .str),.str (ay p.2 p.1 ++ "]")]
theorem xe(phr:List (List Str)):gG (phr.map fun p=>.tup (p.map .str)) ((gI phr).map .str)=phr.zipIdx.map yq:=by
 unfold gI
 have:∀(l:List (List Str)) (n:Nat),gG (l.map fun p=>.tup (p.map .str)) (((l.zipIdx n).map fun p=>ay p.2 p.1 ++ "]").map .str)=(l.zipIdx n).map yq:=by
  intro l
  induction l with
  | nil=>intro n;rfl
  | cons p l ih =>
   intro n
   have:=ih (n+1)
   simp only [uK]
   simp only [aK]
   show gG (_::_) (_::_)=_
   unfold gG at this ⊢
   simp only [List.zipWith_cons_cons,this]
   rfl
 exact this phr 0
noncomputable def MS(M:TN)(ks:List (List Str)):Prop:=∀q,(M q).isSome=true↔q=[]∨∃p∈ks,q <+: p
theorem MS.step(h:MS M ks)(hn:gk M M' [] ns):MS M' (ns::ks):=fun q=>by
 rw [hn.cZ,dT,h q]
 have e:(([]:List Str).isPrefixOf q&&q.isPrefixOf ([]++ns))=true↔q <+: ns:=by
  rw [ae,bB,bB,bg]
  exact ⟨fun h=>h.2,fun h=>⟨List.nil_prefix,h⟩⟩
 rw [e]
 constructor
 ·rintro ((h | ⟨p,hp,h⟩) | h)
  ·exact .inl h
  ·exact .inr (aw p (aG _ hp) h)
  ·exact .inr (aw ns aH h)
 ·rintro (h | ⟨p,hp,h⟩)
  ·exact .inl (.inl h)
  ·rcases aq.mp hp with rfl | hp
   ·exact .inr h
   ·exact .inl (.inr (aw p hp h))
noncomputable def I5(s:Stmt):Expr:=kS s
noncomputable def E5(s:Stmt):List Stmt:=bodyOf s
section
variable{C:Cx} {dep:Nat} {X:XP} {B S W:Str→Bool} {st:ak}
theorem Fd(L:LX C B S W)(hf:nu B S W)(ok:C.Ok (dep+9))(hk:HK C (ax (bK 43))):
  ∀(items:List (List Str×Nat)) (lo:Str→Option CV) (H:CH) (D:List (List Str)) (M:TN) (Own:Addr→Prop),H C.tb=some (.fu gC ke)→¬Own C.tb→OW H o D M Own→MS M D→lo "turned" = some (.fy 313 [.loc o.x2,.loc o.x]) →
   (∀p∈items,p.2≤101∧p.1≠[]∧p.1.length≤101∧∀k∈p.1,k∈bC)→(items.map (·.1)).Nodup→(∀p∈items,p.1∉D) →
   (∀bY H' D' M' fw,H' C.tb=some (.fu gC ke)→¬fw C.tb→OW H' o D' M' fw→MS M' D'→(∀q,q∈D'↔q∈D∨q∈items.map (·.1))→(∀y:Str,y ≠ "names"→y ≠ "header"→bY y=lo y)→Q .next ⟨bY,H'⟩) →
   ll C (I5 ((bodyOf (bK 43)).getD 7 (.Pass default))) (E5 ((bodyOf (bK 43)).getD 7 (.Pass default))) [] (items.map yq) ⟨lo,H⟩ Q X:=by
 intro items
 induction items with
 | nil=>intro lo H D M Own hH ho O hM l _ _ _ q;exact ag.nil (q lo H D M Own hH ho O hM (by simp) fun _ _ _=>rfl)
 | cons p items ih =>
  intro lo H D M Own hH ho O hM l hp hnd hD q
  obtain ⟨ns,i⟩:=p
  refine ip (hp (ns,i) aH) fun h1 h2 h3 h4=>?_
  simp only at h1 h2 h3 h4
  have SQ:ns∉D:=hD (ns,i) aH
  rw [aK,dy]at hnd
  refine eZ (hf i ns h1 h2 h3 h4) fun co HD Uq PH=>?_
  have hlen:(ay i ns ++ "]").length=(ay i ns).length+1:=by
   have:(aB "]").length=1:=by decide +kernel
   rw [aI,this]
  have wO:=jt (k:=i) (ns:=ns)
  refine WA.tuple (vs:=[.tup (ns.map .str),.str (ay i ns ++ "]")]) ok rfl (WA.nm ok hk (WA.nm ok hk ?_))
  refine ag.cons ?_
  refine WS.oK ?_
  refine WT.ez (WE.call ok (WE.glob ok L.g (v:=.ref 429) rfl (cB _ rfl L.Ds ?_) (by rw [hk];rfl)))
  refine WE.nm ok hk (v:=.str (ay i ns ++ "]")) rfl (WE.int (WE.nm ok hk (v:=.fy 313 [.loc o.x2,.loc o.x]) l ?_))
  refine uw (dep:=dep+1) (i:=0) L ok hH ho HD O (fun JH=>absurd JH SQ) fun _ H' M' fw O' K' hN=>?_
  rw [Uq]
  have I6:iO D ns true (ay i ns).length co=.tup [.int ((ay i ns ++ "]").length:Int),.tup (ns.map .str)]:=by
   unfold iO
   rw [if_neg SQ,if_pos rfl,hlen];rfl
  refine WE.tuple (WE.call ok (WE.glob ok L.g (v:=.builtin "len") rfl (cB _ rfl bu.builtin ?_) (by rw [hk];rfl)))
  refine WE.nm ok hk (v:=.str (ay i ns ++ "]")) rfl (aW.F5 (by rw [hlen];exact T2 [.l .x (.n 101),.l .y (.a (.n 3) (.m 6 .x))] (.l (.a .y .o) (.n 1073741824)) tA h3 wO) (WE.nm ok hk (v:=.tup (ns.map .str)) rfl ⟨by (dsimp [iF,iT,iG,iU,iH,iV,nT,nF,aT,aF,oT,oF];simp),?_⟩))
  rw [← I6]
  refine W2.CW ok h4 (iW.bool ⟨fun q=>(aD q),fun _=>ag.nil (ag.nil ?_)⟩)
  refine ao (K'.same C.tb ho (by show H C.tb≠bw;rw [hH];decide)) fun t1 t2=>?_
  refine ih _ H' (ns::D) M' fw (t1.trans hH) t2 O' (hM.step hN) l (fun p u9=>hp p (aG _ u9)) hnd.2 (fun p u9 hm=>?_) fun bY H2 D2 M2 mD a1 a2 a3 a4 a5 a6=>q bY H2 D2 M2 mD a1 a2 a3 a4 (fun q'=>?_) fun y y1 y2=>?_
  ·rcases aq.mp hm with e | hm
   ·have h9:p.1∈items.map (·.1):=gy u9
    rw [e]at h9
    exact hnd.1 h9
   ·exact hD p (aG _ u9) hm
  ·rw [a5,aK,aq,aq]
   constructor
   ·rintro ((h | h) | h)
    ·exact .inr (.inl h)
    ·exact .inl h
    ·exact .inr (.inr h)
   ·rintro (h | h | h)
    ·exact .inl (.inr h)
    ·exact .inl (.inl h)
    ·exact .inr h
  ·rw [a6 y y1 y2];simp [ak.put,dU,y1,y2]
theorem Cd(L:LX C B S W)(hf:nu B S W)(ok:C.Ok (dep+9))(hk:HK C (ax (bK 43)))(hH:H C.tb=some (.fu gC ke))(ho:¬Own C.tb)(O:OW H o D M Own):
  ∀(items:List (List Str×Nat)) (lo:Str→Option CV),lo "turned" = some (.fy 313 [.loc o.x2,.loc o.x]) →
   (∀p∈items,p.2≤101∧p.1≠[]∧p.1.length≤101∧∀k∈p.1,k∈bC)→(∀p∈items,p.1∈D) →
   (∀bY,(∀y:Str,y ≠ "names"→y ≠ "header"→bY y=lo y)→Q .next ⟨bY,H⟩) →
   ll C (I5 ((bodyOf (bK 43)).getD 8 (.Pass default))) (E5 ((bodyOf (bK 43)).getD 8 (.Pass default))) [] (items.map yq) ⟨lo,H⟩ Q X:=by
 intro items
 induction items with
 | nil=>intro lo l _ _ q;exact ag.nil (q lo fun _ _ _=>rfl)
 | cons p items ih =>
  intro lo l hp hD q
  obtain ⟨ns,i⟩:=p
  refine ip (hp (ns,i) aH) fun h1 h2 h3 h4=>?_
  simp only at h1 h2 h3 h4
  have SQ:ns∈D:=hD (ns,i) aH
  refine eZ (hf i ns h1 h2 h3 h4) fun co HD Uq PH=>?_
  have hlen:(ay i ns ++ "]").length=(ay i ns).length+1:=by
   have:(aB "]").length=1:=by decide +kernel
   rw [aI,this]
  have wO:=jt (k:=i) (ns:=ns)
  have CC:=HD.shown
  have z0:=dB (a:=((ay i ns ++ "]").length:Int)) (n:=1000) (by rw [hlen];exact T2 [.l .x (.n 101),.l .y (.a (.n 3) (.m 6 .x))] (.l (.a .y .o) (.n 1000)) tA h3 wO)
  have z1:(aB "Cannot declare ").length=15:=by decide +kernel
  have z2:(aB " twice (at line 1, column ").length=26:=by decide +kernel
  have z5:(aB ")").length=1:=by decide +kernel
  have z6:bt.length=0:=rfl
  have z7:=aa
  refine WA.tuple (vs:=[.tup (ns.map .str),.str (ay i ns ++ "]")]) ok rfl (WA.nm ok hk (WA.nm ok hk ?_))
  refine ag.cons ?_
  refine WS.oK ?_
  refine WT.ez (WE.call ok (WE.glob ok L.g (v:=.ref 429) rfl (cB _ rfl L.Ds ?_) (by rw [hk];rfl)))
  refine WE.nm ok hk (v:=.str (ay i ns ++ "]")) rfl (WE.int (WE.nm ok hk (v:=.fy 313 [.loc o.x2,.loc o.x]) l ?_))
  refine uw (dep:=dep+1) (i:=0) L ok hH ho HD O (fun JH=>?_) fun JH=>absurd SQ JH
  have I6:iO D ns (pG (ay i ns ++ "]") (ay i ns).length) (ay i ns).length co=.str (mX (lO ns) co):=by
   unfold iO
   rw [if_pos SQ]
  rw [I6,PH]
  refine (?_:WE C _ _ _ X)
  refine WE.AM ?_
  refine WE.str (cB _ rfl (by simp only [aI];(exact cQ _ _)) (WE.fmt (WE.nm ok hk (v:=.tup (ns.map .str)) rfl (jh.names ok h4 CC (cB _ rfl (by simp only [aI];exact T4 [.l .x (.n 1048576),.e .y (.n 15),.e .z (.n 0),.e .w (.n 16777216)] (.l (.a (.a .z .y) .x) .w) tA CC z1 z6 z7) ?_)))))
  refine WE.str (cB _ rfl (by simp only [aI];exact T5 [.l .x (.n 1048576),.e .y (.n 15),.e .z (.n 26),.e .w (.n 0),.e .s (.n 16777216)] (.l (.a (.a (.a .w .y) .x) .z) .s) tA CC z1 z2 z6 z7) (WE.fmt ?_))
  refine WE.call ok (WE.glob ok L.g (v:=.builtin "len") rfl (cB _ rfl bu.builtin ?_) (by rw [hk];rfl))
  refine WE.nm ok hk (v:=.str (ay i ns ++ "]")) rfl (aW.F5 (by rw [hlen];exact T2 [.l .x (.n 101),.l .y (.a (.n 3) (.m 6 .x))] (.l (.a .y .o) (.n 1073741824)) tA h3 wO) ?_)
  refine jh.int (mA (by rw [hlen];exact T2 [.l .x (.n 101),.l .y (.a (.n 3) (.m 6 .x))] (.l (.a .y .o) (.n 1099511627776)) tA h3 wO)) (cB _ rfl (by simp only [aI]at z0 ⊢;exact T6 [.l .x (.n 1048576),.e .y (.n 15),.e .z (.n 26),.e .w (.n 0),.e .s (.n 16777216),.l .t (.a (.n 1000) (.n 2))] (.l (.a (.a (.a (.a .w .y) .x) .z) .t) .s) tA CC z1 z2 z6 z7 z0) ?_)
  refine WE.str (GH _ rfl (by simp only [aI]at z0 ⊢;exact T7 [.l .x (.n 1048576),.e .y (.n 15),.e .z (.n 26),.e .w .o,.e .s (.n 0),.e .t (.n 16777216),.l .b (.a (.n 1000) (.n 2))] (.l (.a (.a (.a (.a (.a .s .y) .x) .z) .b) .w) .t) tA CC z1 z2 z5 z6 z7 z0) (by simp only [aI]at z0 ⊢;exact T7 [.l .x (.n 1048576),.e .y (.n 15),.e .z (.n 26),.e .w .o,.e .s (.n 0),.e .t (.n 16777216),.l .b (.a (.n 1000) (.n 2))] (.l (.a (.a (.a (.a (.a .s .y) .x) .z) .b) .w) .t) tA CC z1 z2 z5 z6 z7 z0) ?_)
  refine W2.XN ?_
  rw [decide_eq_true rfl]
  refine iW.bool ⟨fun q=>(aD q),fun _=>ag.nil (ag.nil ?_)⟩
  exact ih _ l (fun p u9=>hp p (aG _ u9)) (fun p u9=>hD p (aG _ u9)) fun bY a6=>q bY fun y y1 y2=>by rw [a6 y y1 y2];simp [ak.put,dU,y1,y2]
end
end
section
theorem sO{α:Type}:∀(l:List α) (n:Nat),∀p∈l.zipIdx n,p.2<n+l.length∧p.1∈l
 | [],n,p,h=>by simp at h
 | a::l,n,p,h=>by
  simp only [uK]at h
  rcases aq.mp h with rfl | h
  ·simp
  ·refine ao (sO l (n+1) p h) fun h1 h2=>?_
   simp only [af]
   exact ⟨by exact T3 [.t .x (.a (.a .y .o) .z)] (.t .x (.a .y (.a .z .o))) tA h1,aG _ h2⟩
section
variable{C:Cx} {dep:Nat} {X:XP} {B S W:Str→Bool} {st:ak}
theorem Ao{Q:CF→ak→Prop}{lo:Str→Option CV}{Own:Addr→Prop}(L:LX C B S W)(hf:nu B S W)(ok:C.Ok (dep+9))(hk:HK C (ax (bK 43)))
  (hH:H C.tb=some (.fu gC ke)) (ho:¬Own C.tb) (O:OW H o [] M Own) (hM:MS M []) (l1:lo "turned" = some (.fy 313 [.loc o.x2,.loc o.x])) (l2:lo "phrases" = some (.loc ap)) (l3:lo "headers" = some (.loc ah))
  (qm:H ap=some (.list (phr.map fun p=>.tup (p.map .str)))) (FV:H ah=some (.list ((gI phr).map .str))) (cx:ap≠ah) (oa:¬Own ap) (oh:¬Own ah) (hl:phr.length≤100) (hnd:phr.Nodup)
  (hp:∀p∈phr,p≠[]∧p.length≤101∧∀k∈p,k∈bC)
  (h:∀bY H' D' M' fw,H' C.tb=some (.fu gC ke)→¬fw C.tb→OW H' o D' M' fw→MS M' D'→(∀q,q∈D'↔q∈phr)→bY "turned" = some (.fy 313 [.loc o.x2,.loc o.x])→bY "phrases" = some (.lst (phr.map fun p=>.tup (p.map .str)))→ag C ((bodyOf (bK 43)).drop 9) ⟨bY,H'⟩ Q X) :
  ag C ((bodyOf (bK 43)).drop 7) ⟨lo,H⟩ Q X:=by
 have items:∀p∈phr.zipIdx,p.2≤101∧p.1≠[]∧p.1.length≤101∧∀k∈p.1,k∈bC:=fun p u9=>by
  refine ao (sO phr 0 p u9) fun h1 h2=>?_
  refine dO (hp p.1 h2) fun a b c=>?_
  exact (ql (T2 [.l .x (.n 100),.t .y (.a (.n 0) .x)] (.l .y (.n 101)) tA hl h1) a b c)
 have XY:(phr.map fun p=>CV.tup (p.map .str)).length=((gI phr).map CV.str).length:=by simp [qA]
 refine ag.freeze (a:=ap) (cs:=phr.map fun p=>.tup (p.map .str)) l2 qm ?_
 refine ag.freeze (x := "headers") (a:=ah) (cs:=(gI phr).map .str) l3 (by show eo H ap ah=_;simp [eo,aN cx,FV]) ?_
 dsimp only
 generalize Ni:dU (dU lo "phrases" (.lst (phr.map fun p=>.tup (p.map .str)))) "headers" (.lst ((gI phr).map .str))=BE
 have m1:BE "turned" = some (.fy 313 [.loc o.x2,.loc o.x]):=by rw [← Ni];exact l1
 have m2:BE "phrases" = some (.lst (phr.map fun p=>.tup (p.map .str))):=by rw [← Ni];rfl
 have m3:BE "headers" = some (.lst ((gI phr).map .str)):=by rw [← Ni];rfl
 have tba:C.tb≠ap:=fun e=>by rw [e,qm]at hH;cases hH
 have tbh:C.tb≠ah:=fun e=>by rw [e,FV]at hH;cases hH
 have O1:OW (eo (eo H ap) ah) o [] M Own:=(O.keep (O2:=fun a=>a=ap∨a=ah) (O2':=fun a=>a=ap∨a=ah)
  ⟨fun a h1 h2=>⟨by simp only [not_or]at h1;simp [eo,h1.1,h1.2],h1⟩,fun a h=>h,fun a h h'=>absurd h' h⟩ fun a ha q=>by
   rcases q with q | q
   ·exact oa (q▸ha)
   ·exact oh (q▸ha)).1
 have Mb:eo (eo H ap) ah C.tb=some (.fu gC ke):=by simp [eo,tba,tbh,hH]
 generalize eo (eo H ap) ah=H1 at O1 Mb ⊢
 have SU:∀{p1 p2 p3 p4:Pos} {Dp:Str→Option CV} {H2:CH} {R:ak→Prop},Dp "phrases" = some (.lst (phr.map fun p=>.tup (p.map .str)))→Dp "headers" = some (.lst ((gI phr).map .str))→R ⟨Dp,H2⟩ →
   PL C (.Call (.Name "zip" p1) [.Name "phrases" p2,.Name "headers" p3] [] p4) ⟨Dp,H2⟩ (v8 C (phr.map fun p=>.tup (p.map .str)) ((gI phr).map .str) R) X:=fun a b r =>
  PL.call ok (WE.glob ok L.g (v:=.type "zip") rfl (cB _ rfl bu.type (WE.nm ok hk a (WE.nm ok hk b (v7.zip r)))) (by rw [hk];rfl))
 refine ag.cons ?_
 refine WS.Be ok (WE.slice (WE.Kg (xs:=phr.map fun p=>.tup (p.map .str)) (ys:=(gI phr).map .str) ok (WE.glob ok L.g (v:=.type "list") rfl ⟨rfl,SU m2 m3 ?_⟩ (by rw [hk];rfl)) XY (by simp;(exact aJ (by assumption) (by decide)))))
 refine WE.C7 (aw _ rfl (BM.lst (by decide) ?_ (aw _ du.lst ?_)))
 ·rw [jj];simp;exact T2 [.i .x .y,.l .y (.n 100)] (.l .x (.n 16777216)) tA hl
 rw [FP,xe,← uL]
 refine Fd L hf ok hk phr.zipIdx.reverse BE H1 [] M Own Mb ho O1 hM m1 (fun p u9=>items p (mx.mp u9)) ?_ (fun p _ h=>by cases h) fun Dp H2 D2 M2 mD a1 a2 a3 a4 a5 a6=>?_
 ·rw [uL,kD]
  exact List.pairwise_reverse.mpr (hnd.imp fun h=>h.symm)
 have Zg:∀q,q∈D2↔q∈phr:=fun q=>by
  rw [a5,uL,kD,mx];simp
 have n1:=(a6 "turned" (by decide) (by decide)).trans m1
 have n2:=(a6 "phrases" (by decide) (by decide)).trans m2
 have n3:=(a6 "headers" (by decide) (by decide)).trans m3
 refine ag.cons ?_
 refine WS.Nx ok (SU n2 n3 ?_)
 rw [xe]
 refine Cd L hf ok hk a1 a2 a3 phr.zipIdx Dp n1 items (fun p u9=>(Zg _).mpr (sO phr 0 p u9).2) fun Up a7=>?_
 exact h Up H2 D2 M2 mD a1 a2 a3 a4 Zg ((a7 "turned" (by decide) (by decide)).trans n1) ((a7 "phrases" (by decide) (by decide)).trans n2)
end
end
section
theorem Kr(x y:Str):x=y∨x.cps.toList<y.cps.toList∨y.cps.toList<x.cps.toList:=by
 by_cases h1:x.cps.toList<y.cps.toList
 ·exact .inr (.inl h1)
 by_cases h2:y.cps.toList<x.cps.toList
 ·exact .inr (.inr h2)
 left
 have:=List.le_antisymm (U8.mp h2) (U8.mp h1)
 obtain ⟨x⟩:=x
 clear h1 h2;obtain ⟨y⟩:=y
 simp only at this
 rw [tj.mp this]
theorem lQ:∀a:List Str,cn a a=false
 | []=>by rfl
 | x::xs=>by simp [cn,lQ xs]
theorem qS:∀a b:List Str,a=b∨cn a b=true∨cn b a=true
 | [],[]=>.inl rfl
 | [],y::ys=>.inr (.inl (by rfl))
 | x::xs,[]=>.inr (.inr (by rfl))
 | x::xs,y::ys=>by
  by_cases h:x=y
  ·subst h
   rcases qS xs ys with h | h | h
   ·exact .inl (by rw [h])
   ·exact .inr (.inl (by simp [cn,h]))
   ·exact .inr (.inr (by simp [cn,h]))
  ·rcases Kr x y with h1 | h1 | h1
   ·exact absurd h1 h
   ·exact .inr (.inl (by simp [cn,h,h1]))
   ·exact .inr (.inr (by simp [cn,aN h,h1]))
theorem jk:∀a b c:List Str,cn a b=true→cn b c=true→cn a c=true
 | [],[],c,h,_=>by assumption
 | [],y::ys,[],_,h=>by assumption
 | [],y::ys,z::zs,_,_=>by assumption
 | x::xs,[],c,h,_=>by simp [cn]at h
 | x::xs,y::ys,[],_,h=>by assumption
 | x::xs,y::ys,z::zs,h1,h2=>by
  unfold cn at h1 h2 ⊢
  by_cases e1:x=y
  ·subst e1
   rw [if_pos rfl]at h1
   by_cases e2:x=z
   ·subst e2
    rw [if_pos rfl]at h2 ⊢
    exact jk xs ys zs h1 h2
   ·rw [if_neg e2]at h2 ⊢;exact h2
  ·rw [if_neg e1]at h1
   by_cases e2:y=z
   ·clear h2;subst e2
    rw [if_neg e1];exact h1
   ·rw [if_neg e2]at h2
    have l1:=of_decide_eq_true h1
    have l2:=of_decide_eq_true h2
    have l3:x.cps.toList<z.cps.toList:=List.lt_trans l1 l2
    have e3:x≠z:=fun e=>by clear h2 e2 l2;subst e;exact List.lt_irrefl _ l3
    rw [if_neg e3];exact decide_eq_true l3
noncomputable def gY(phr:List (List Str)):List (List Str):=phr.mergeSort fun a b=>!cn b a
theorem iy(phr:List (List Str)):(gY phr).Perm phr:=List.mergeSort_perm _ _
theorem I7(hn:phr.Nodup):(gY phr).Pairwise fun a b=>cn a b=true:=by
 have h1:(gY phr).Pairwise fun a b=>(!cn b a)=true:=List.pairwise_mergeSort (le:=fun a b=>!cn b a) (fun a b c h1 h2=>by
  rewrite [Bool.not_eq_true']at h1 h2 ⊢
  cases h:cn c a with
  | false=>rfl
  | true =>
   rcases qS a b with e | e | e
   ·clear h1;subst e;rw [h]at h2;exact aD h2
   ·rw [jk c a b h e]at h2;exact aD h2
   ·rw [e]at h1;exact aD h1) (fun a b=>by
  cases h:cn b a with
  | false=>rfl
  | true =>
   cases h2:cn a b with
   | false=>rfl
   | true=>have:=jk a b a h2 h;rw [lQ]at this;exact aD this) phr
 have h2:(gY phr).Nodup:=(iy phr).nodup_iff.mpr hn
 refine (h1.and h2).imp fun{a b} h=>?_
 rcases qS a b with e | e | e
 ·exact absurd e h.2
 ·exact e
 ·rw [e]at h;(dsimp [iF,iT,iG,iU,iH,iV,nT,nF,aT,aF,oT,oF]at h;simp at h)
theorem I8(hn:phr.Nodup)(hp:p∈phr)(hq:q∈phr)(cx:p≠q):cn p q=decide ((gY phr).idxOf p<(gY phr).idxOf q):=by
 have pw:=lg.mp (I7 hn)
 have lp:=gM ((iy phr).mem_iff.mpr hp)
 have lq:=gM ((iy phr).mem_iff.mpr hq)
 rcases JP ((gY phr).idxOf p) ((gY phr).idxOf q)with h | h | h
 ·have:=pw _ _ lp lq h
  rw [dk,dk]at this
  simp only [this,decide_eq_true h]
 ·exfalso
  have e1:(gY phr)[(gY phr).idxOf p]'lp=p:=dk lp
  have e2:(gY phr)[(gY phr).idxOf q]'lq=q:=dk lq
  apply cx
  rw [← e1,← e2]
  simp only [h]
 ·have:=pw _ _ lq lp h
  rw [dk,dk]at this
  rw [decide_eq_false (by exact T2 [.t .x .y] (.T .y .x) tA h)]
  cases e:cn p q with
  | false=>rfl
  | true=>have:=jk p q p e this;rw [lQ]at this;exact aD this
noncomputable def rJ(p:List Str):CV:=.tup [.tup (p.map .str),.bool true]
theorem tC:∀T:List (List Str),jN (eW (T.map rJ)) (eW (T.map rJ))=true
 | []=>by rfl
 | p::T=>by
  have ih:=tC T
  have e:=jI p p
  simp only [aK,rJ,eW,toPy,jN,ff,e]at ih ⊢
  assumption
theorem vG:∀{T:List (List Str)},(∀p∈T,∀k∈p,k∈bC)→g8 (T.map rJ)=true
 | [],_=>rfl
 | p::T,h=>by
  have:=(dG (h p aH)).1
  simp [rJ,g8,eS,this,vG fun q hq=>h q (aG _ hq)]
theorem vH:∀{T:List (List Str)},(∀p∈T,∀k∈p,k∈bC)→i7 (eW (T.map rJ))≤10
 | [],_=>by decide
 | p::T,h=>by
  have h1:=(dG (h p aH)).2.2.1
  have h2:=vH fun q hq=>h q (aG _ hq)
  simp only [aK,rJ,eW,toPy,i7,bR,h1]at h2 ⊢
  exact Nat.max_le.mpr ⟨by decide,h2⟩
end
section
noncomputable def SV(s:Stmt):Expr:=kE 1 (kE 0 (kS s))
noncomputable def SW(s:Stmt):Expr:=kE 1 (kE 1 (kS s))
noncomputable def Mc(e:Expr):Expr:=kE 0 e
noncomputable def Md(e:Expr):Expr:=kE 1 e
section
variable{C:Cx} {dep:Nat} {X:XP} {B S W:Str→Bool} {st:ak}
theorem vI{phr ws:List (List Str)}(ok:C.Ok (dep+1))(hn:phr.Nodup)(hw:ws.Nodup)(hm:∀p,p∈ws↔p∈phr)(MP:∀p∈phr,∀k∈p,k∈bC)(h2:2≤phr.length)(X6:phr.length≤52)(h:Q (.lst ((gY phr).map rJ)) st):
  aW C (.builtin "sorted") [.lst (ws.map rJ)] [] [] st Q X:=by
 have perm:ws.Perm phr:=(gf hw hn).mpr hm
 have hlen:=perm.length_eq
 have SX:=(iy phr).length_eq
 have idx:∀i,i<ws.length→∃p,ws[i]?=some p∧p∈phr∧(gY phr)[(gY phr).idxOf p]?=some p∧(gY phr).idxOf p<phr.length:=fun i hi=>by
  have hp:ws[i]∈phr:=(hm _).mp (jT hi)
  have:=gM ((iy phr).mem_iff.mpr hp)
  exact (GH (ws[i]) (aU hi) hp (by rw [aU this,dk]) (T3 [.e .x .y,.t .z .x] (.t .z .y) tA SX this))
 have FH:∀(i:Nat) (p:List Str),ws[i]?=some p→(gY phr).idxOf ((ws[i]?).getD [])=(gY phr).idxOf p:=fun i p e=>by rw [e];rfl
 have same:∀(i j:Nat) (p:List Str),ws[i]?=some p→ws[j]?=some p→i=j:=fun i j p e1 f1=>by
  have nR:i<ws.length:=(bI.mp e1).1
  have pz:j<ws.length:=(bI.mp f1).1
  rw [aU nR]at e1
  rw [aU pz]at f1
  have:ws[i]=ws[j]:=by simp only [aE e1,aE f1]
  exact (uJ hw).mp this
 refine aW.sorted (b:=false) (rk:=fun i=>(gY phr).idxOf ((ws[i]?).getD [])) ok (by simpa [hlen]using h2) (by simp [hlen];(exact bH (by assumption) (by decide))) (by simp [SX,hlen]) (fun i hi=>?_) (fun i j hi hj e=>?_) (fun c hc=>?_) (fun i j c d hc hd pH KF I0 s u v D S r1 r2 hD=>?_) h
 ·have nR:i<ws.length:=by simpa using hi
  refine Gg (idx i nR) fun p e1 e0 e2 e3=>?_
  rewrite [FH i p e1]
  refine ⟨by simp [hlen];exact e3,?_⟩
  simp only [cH,cH,e1,e2]
 ·have nR:i<ws.length:=by simpa using hi
  have pz:j<ws.length:=by simpa using hj
  refine Gg (idx i nR) fun p e1 e0 e2 e3=>?_
  refine Gg (idx j pz) fun q f1 f0 f2 f3=>?_
  simp only [FH i p e1,FH j q f1]at e
  rw [e,f2]at e2
  have SO:q=p:=aE e2
  clear e0 e3 e2 e;subst SO
  exact same i j q e1 f1
 ·refine az (cV.mp hc) fun p _ G7=>?_;clear hc;obtain rfl:=G7
  rfl
 ·rw [cH]at hc hd
  refine az (dJ.mp hc) fun p e1 G7=>?_;clear hc;obtain rfl:=G7
  refine az (dJ.mp hd) fun q f1 G7=>?_;obtain rfl:=G7
  have nR:i<ws.length:=(bI.mp e1).1
  have pz:j<ws.length:=(bI.mp f1).1
  refine Gg (idx i nR) fun p' FG e0 e2 e3=>?_
  refine Gg (idx j pz) fun q' PR f0 f2 f3=>?_
  rw [e1]at FG;obtain rfl:=aE FG
  rw [f1]at PR;obtain rfl:=aE PR
  simp only [FH i p e1,FH j q f1]at hD
  have cx:p≠q:=fun e=>by clear hd r2 PR f0 f2 f3 hD;subst e;exact pH (same i j p e1 f1)
  have pp:=(dG (MP p e0)).1
  have pq:=(dG (MP q f0)).1
  have pd:=(dG (MP p e0)).2.2.1
  have hu:=ok.units
  unfold rJ at r1 r2
  refine Kd S (by show C.A.units+1+1+200<_;exact T3 [.t (.a (.a .x (.m 10 (.a .y .o))) (.n 200)) .z] (.t (.a (.a (.a .x .o) .o) (.n 200)) .z) tA hu) (by rw [xc];exact decide_eq_false cx) (by simpa [eS]using pp) (by simpa [eS]using pq) (by simp only [toPy,bR,pd];(exact bA _)) r1 r2 ?_
  rw [I8 hn e0 f0 cx]
  exact hD
theorem Ks{H1:CH}{cl x d:Addr}{ow:FO}(ok:C.Ok dep)(hw:C.w=w)(hg:kQ C G6)(hD:∀p,(M p).isSome=true→p.length≤n)
  (k1:C.env.kindOf "way" = some .local) (k2:C.env.kindOf "table" = some .local) (k3:C.env.kindOf "type" = some .globalImplicit) (k4:C.env.kindOf "dict" = some .globalImplicit) :
  ∀(ws:List (List Str)) (acc:List CV) (lo:Str→Option CV),(∀p∈ws,(M p).isSome=true)→acc.length+ws.length≤1000→(∀bY,Q (acc++ws.map rJ) ⟨bY,H⟩) →
   yE C (lG C (Mc (SV ((bodyOf (bK 43)).getD 9 (.Pass default)))) []) (Md (SV ((bodyOf (bK 43)).getD 9 (.Pass default)))) [] (ws.map (gX w M n)) ⟨lo,H⟩ acc Q X:=by
 subst hw
 intro ws
 induction ws with
 | nil=>intro acc lo _ _ q;have:=q lo;simpa [yE]using this
 | cons p ws ih =>
  intro acc lo hs hl q
  simp only [af]at hl
  refine cG (aY.mp (hs p aH)) fun nd hnd=>?_
  have RV:tv C.w M n p=.x9 C.w (mC C.w M n p nd):=xT hnd (hD p (by rw [hnd];rfl))
  refine WA.tuple (vs:=[.tup (p.map .str),tv C.w M n p]) ok rfl ?_
  refine WA.name ok (by rw [k1];rfl) (WA.name ok (by rw [k2];rfl) ⟨fun _=>?_,fun h=>by exact aD h⟩)
  refine (?_:WE C _ _ _ X)
  have lt:∀{O5:Str→Option CV},O5 "table" = some (tv C.w M n p)→O5 "table" = some (.x9 C.w (mC C.w M n p nd)):=fun h=>by rw [h,RV]
  refine WE.tuple (WE.name ok.kY (v:=.tup (p.map .str)) rfl ?_ (by rw [k1];rfl))
  refine WE.ez (WE.call ok (WE.glob ok hg (v:=.type "type") rfl (cB _ rfl bu.type (WE.name ok.kY (lt rfl) (aW.yg (WE.glob ok hg (v:=.type "dict") rfl (W2.KV (d9 (by (dsimp [iF,iT,iG,iU,iH,iV,nT,nF,aT,aF,oT,oF];simp)) (T2 [.l (.a .x (.a .y .o)) (.n 1000)] (.t .x (.n 16777216)) tA hl) ?_)) k4)) (by rw [k2];rfl))) k3))
  refine ih _ _ (fun q hq=>hs q (aG _ hq)) (by simp;exact T2 [.l (.a .x (.a .y .o)) (.n 1000)] (.l (.a (.a .x .o) .y) (.n 1000)) tA hl) fun bY=>?_
  have:=q bY
  rewrite [aK]at this
  rw [bU]
  exact this
theorem Kt(ok:C.Ok dep)(k1:C.env.kindOf "names" = some .local):
  ∀(ws:List (List Str)) (acc:List CV) (lo:Str→Option CV),acc.length+ws.length≤1000→(∀bY,Q (acc++ws.map rJ) ⟨bY,H⟩) →
   yE C (lG C (Mc (SW ((bodyOf (bK 43)).getD 9 (.Pass default)))) []) (Md (SW ((bodyOf (bK 43)).getD 9 (.Pass default)))) [] (ws.map fun p=>.tup (p.map .str)) ⟨lo,H⟩ acc Q X:=by
 intro ws
 induction ws with
 | nil=>intro acc lo _ q;have:=q lo;simpa [yE]using this
 | cons p ws ih =>
  intro acc lo hl q
  simp only [af]at hl
  refine WA.name ok (by rw [k1];rfl) ⟨fun _=>?_,fun h=>by exact aD h⟩
  refine (?_:WE C _ _ _ X)
  refine WE.tuple (WE.name ok.kY (v:=.tup (p.map .str)) rfl (WE.bool (d9 (by (dsimp [iF,iT,iG,iU,iH,iV,nT,nF,aT,aF,oT,oF];simp)) (T2 [.l (.a .x (.a .y .o)) (.n 1000)] (.t .x (.n 16777216)) tA hl) ?_)) (by rw [k1];rfl))
  refine ih _ _ (by simp;exact T2 [.l (.a .x (.a .y .o)) (.n 1000)] (.l (.a (.a .x .o) .y) (.n 1000)) tA hl) fun bY=>?_
  have:=q bY
  rewrite [aK]at this
  rw [bU]
  exact this
theorem I9{Q:CF→ak→Prop}{o:wI}{lo:Str→Option CV}{H:CH}{M:TN}{Own:Addr→Prop}{D phr:List (List Str)}(L:LX C B S W)(ok:C.Ok (dep+9))(hk:HK C (ax (bK 43)))
  (hH:H C.tb=some (.fu gC ke)) (ho:¬Own C.tb) (O:OW H o D M Own) (hM:MS M D) (Zh:∀q,q∈D↔q∈phr) (l1:lo "turned" = some (.fy 313 [.loc o.x2,.loc o.x])) (l2:lo "phrases" = some (.lst (phr.map fun p=>.tup (p.map .str))))
  (hn:phr.Nodup) (h2:2≤phr.length) (PS:phr.length≤52) (hp:∀p∈phr,p≠[]∧p.length≤101∧∀k∈p,k∈bC) (ui:∀p∈phr,∀q,q <+: p→q=[]∨q∈phr)
  (h:∀aj,aj.H C.tb=some (.fu gC ke)→Q (.ret (.bool true)) aj):ag C ((bodyOf (bK 43)).drop 9) ⟨lo,H⟩ Q X:=by
 refine BK (id O) fun N ow mM F T GN own _=>?_
 refine az T.attrs fun rt BN Km=>?_
 have SY:∀p,(M p).isSome=true↔p=[]∨p∈phr:=fun p=>by
  rw [hM p]
  constructor
  ·rintro (h | ⟨q,hq,h⟩)
   ·exact .inl h
   ·exact ui q ((Zh q).mp hq) p h
  ·rintro (h | h)
   ·exact .inl h
   ·exact .inr (aw p ((Zh p).mpr h) (uG _))
 have O8:∀p,(M p).isSome=true→p∈[]::phr:=fun p hp=>by
  rcases (SY p).mp hp with h | h
  ·rw [h];exact aH
  ·exact aG _ h
 have hD:∀p,(M p).isSome=true→p.length≤101:=fun p u9=>by
  rcases (SY p).mp u9 with h | h
  ·rw [h];simp
  ·exact (hp p h).2.1
 have nm:∀p∈phr,∀k∈p,k∈bC:=fun p u9=>(hp p u9).2.2
 refine ag.cons ?_
 refine WS.ret ?_
 refine WE.ez (WE.call ok (WE.glob ok L.g (v:=.builtin "sorted") rfl (cB _ rfl bu.builtin ?_) (by rw [hk];rfl)))
 refine (?_:WE C _ _ _ X)
 refine @WE.comp C _ _ X _ _ _ _ _ _ _ ok ?h6 ?hcap6 ?hk6 ?hnd6 ?has6 ?hfold6
 case hcap6=>rfl
 case hk6=>rfl
 case hnd6=>decide +kernel
 case has6=>simp
 case hfold6=>first | exact sv fun _ _=>rfl | exact A4 (fun _ _=>rfl) fun _ _=>rfl
 refine WE.call ok (WE.glob ok L.g (v:=.ref 422) rfl (cB _ rfl L.yX ?_) (by rw [hk];rfl))
 refine WE.Hy (WE.attr (WE.nm ok hk l1 (g9.field (dep:=dep+7) (k:=0) ok L.oc L.oc.data L.oc.d0 rfl (by show 2≤100;decide) (fun u h=>by contradiction) ?_)))
 refine T.oU ok L.ne BN ?_
 refine uz (dep:=dep+8) (D:=101) (ps:=[]::phr) L ok T BN O8 (by simp;(exact aJ (by assumption) (by decide))) hD (cQ _ _) (fun p k u9=>?_) fun ws hw hm=>?_
 ·rcases (SY _).mp u9 with h | h
  ·simp at h
  ·exact fun e=>uu (e▸nm _ h k (by simp))
 have Bq:∀p,p∈ws↔p∈phr:=fun p=>by
  rw [hm,SY]
  constructor
  ·rintro ⟨h1,h2 | h2⟩
   ·exact absurd h2 h1
   ·exact h2
  ·exact fun h=>⟨(hp p h).1,.inr h⟩
 have wl:=((gf hw hn).mpr Bq).length_eq
 refine (aw _ du.lst (fun C2 wF s2 qI=>?_))
 have kx:∀y,C2.env.kindOf y=_:=fun y=>by unfold eB;rw [qI,eI]
 refine Ks (cl:=0) (x:=0) (d:=0) (ow:=ow) (H1:=H) (H:=mY M H) (w:=C.w) (n:=101) wF s2.w (L.same s2).g hD (by rw [kx];rfl) (by rw [kx];rfl) (by rw [kx];rfl) (by rw [kx];rfl) ws [] _ (fun p u9=>(SY p).mpr (.inr ((Bq p).mp u9))) (by simp;exact T2 [.l .x (.n 52),.e .y .x] (.l .y (.n 1000)) tA PS wl) fun bY=>.inl ?_
 rw [bg]
 refine vI (dep:=dep+8) ok hn hw Bq nm h2 PS ?_
 refine WE.call ok (WE.glob ok L.g (v:=.builtin "sorted") rfl (cB _ rfl bu.builtin ?_) (by rw [hk];rfl))
 refine (?_:WE C _ _ _ X)
 refine @WE.comp C _ _ X _ _ _ _ _ _ _ ok ?h7 ?hcap7 ?hk7 ?hnd7 ?has7 ?hfold7
 case hcap7=>rfl
 case hk7=>rfl
 case hnd7=>decide +kernel
 case has7=>simp
 case hfold7=>first | exact sv fun _ _=>rfl | exact A4 (fun _ _=>rfl) fun _ _=>rfl
 refine WE.nm ok hk (v:=.lst (phr.map fun p=>.tup (p.map .str))) l2 (aw _ du.lst (fun C3 E1 s3 O9=>?_))
 have SP:∀y,C3.env.kindOf y=_:=fun y=>by unfold eB;rw [O9,eI]
 refine Kt E1 (by rw [SP];rfl) phr [] _ (by simp;(exact aJ (by assumption) (by decide))) fun Up=>.inl ?_
 rw [bg]
 refine vI (dep:=dep+8) ok hn hn (fun p=>JR) nm h2 PS ?_
 have Zi:∀p∈gY phr,∀k∈p,k∈bC:=fun p u9=>nm p ((iy phr).mem_iff.mp u9)
 have i1:=vG Zi
 have i2:=vH Zi
 refine W2.Yt ok (by simpa [eS]using i1) (by simpa [eS]using i1) (by dsimp only [toPy,bR];(exact bH (by assumption) (by decide))) ?_
 have e:sx (.lst ((gY phr).map rJ)) (.lst ((gY phr).map rJ))=true:=by
  unfold sx;dsimp only [toPy,ff];exact tC _
 rw [e]
 exact h _ ((O.mY _ ho).trans hH)
end
end
section
theorem jV.Fb{ds:List Int}{start size:Nat}{phr:List (List Str)}(P:jV ds start size phr)(sE:start≤ds.length)(pk:ds.length≤101):∀p∈phr,p.length≤101:=fun p hp=>by
 have:∀l:List (List Str),p∈l→p.length≤(l.map bo).sum:=fun l=>by
  induction l with
  | nil=>intro h;cases h
  | cons q l ih =>
   intro h
   simp only [aK,jc]
   rcases aq.mp h with rfl | h
   ·(exact bf _ _)
   ·have:=ih h;exact T3 [.l .x .y] (.l .x (.a .z .y)) tA this
 have h1:=this phr hp
 have:=P.Am.2 sE
 exact T4 [.l .x .y,.l .y (.n 101),.l .z .w,.e .w .x] (.l .z (.n 101)) tA sE pk h1 this
theorem jV.prefix{ds:List Int}{start size:Nat}{phr:List (List Str)}(P:jV ds start size phr):∀p∈phr,∀q,q <+: p→q=[]∨q∈phr:=by
 have go:∀(t q:List Str),q++t.reverse∈phr→q=[]∨q∈phr:=by
  intro t
  induction t with
  | nil=>intro q h;simp at h;exact .inr h
  | cons k t ih =>
   intro q h
   rw [ik,← bU]at h
   rcases P.pre _ _ h with e | e
   ·exact .inl (List.append_eq_nil_iff.mp e).1
   ·exact ih q e
 rintro p hp q ⟨t,rfl⟩
 exact go t.reverse q (by rw [qD];exact hp)
section
variable{C:Cx} {dep:Nat} {X:XP} {B S W:Str→Bool} {st:ak}
theorem Sa{xs:List Int}{H:CH}(L:LX C B S W)(hf:rI B S W)(ha:nu B S W)(ok:C.Ok (dep+9))(hk:HK C (ax (bK 43)))(hH:H C.tb=some (.fu gC ke))(h:∀aj,aj.H C.tb=some (.fu gC ke)→Q (.ret (.bool true)) aj):
  ag C (bodyOf (bK 43)) ⟨fun y=>([("script" : Str)].zip [CV.lst (xs.map .int)]).lookup y,H⟩ Q X:=by
 refine CS (dep:=dep+6) L ok hk fun ds bY o r Own o2 r2 mD ap ah H' d1 d2 d3 l O O2 apart qm FV cx Bz Hu=>?_
 refine ip Bz fun n1 n2 n3 n4=>?_
 refine wB (Hu C.tb (by rw [hH];decide)) fun t1 t2 t3 t4 t5=>?_
 refine ag.cons ?_
 refine Fc L hf ok hk d2 d3 cx (t1.trans hH) t2 ⟨t4,t5⟩ (dA _ rfl) O qm FV n1 n3 l fun BE H1 phr start size D M O7 wK I=>?_
 have sE:=(I.p.two d1 wK).2
 refine wR (dep:=dep) L ok hk d2 d1 I wK fun Dp e2=>?_
 have kn:∀a,¬O7 a→mY M H1 a=H1 a:=I.O.mY
 have k2:∀a,mD a→mY M H1 a=H' a:=fun a ha=>by
  have Wl:=O2.HB ha
  refine ao (I.keep a Wl (fun q=>apart a q ha) (fun q=>n2 (q▸ha)) (fun q=>n4 (q▸ha))) fun q1 q2=>?_
  exact (kn a q2).trans q1
 classical
 have O2':OW (mY M H1) o2 [] (rH r2) mD:=(O2.keep (O2:=fun a=>¬mD a) (O2':=fun a=>¬mD a) ⟨fun a h1 h2=>⟨k2 a (kR.mp h1),h1⟩,fun a h=>h,fun a h h'=>absurd h' h⟩ fun a ha q=>q ha).1
 have SH:=I.keep C.tb (by rw [t1,hH];decide) t2 t4 t5
 refine Ao (dep:=dep) (ap:=ap) (ah:=ah) (phr:=phr) L ha ok hk ((kn _ SH.2).trans (SH.1.trans (t1.trans hH))) t3 O2' (fun q=>?_) ((e2 _ (by decide)).trans I.l.turned) ((e2 _ (by decide)).trans I.l.kz) ((e2 _ (by decide)).trans I.l.headers) ((kn _ I.oa).trans I.qm) ((kn _ I.oh).trans I.FV) cx n2 n4 (by have:=I.p.RN d2;(exact aJ (by assumption) (by decide))) I.p.nodup (fun p hp=>(d9 (I.p.ne p hp) (I.p.Fb sE d2 p hp) (I.p.names p hp))) fun Up H3 D3 M3 Own3 hH3 ho3 O3 hM3 hD3 l31 l32=>?_
 ·unfold rH;by_cases hq:q=[] <;> simp [hq]
 ·exact I9 (dep:=dep) L ok hk hH3 ho3 O3 hM3 hD3 l31 l32 I.p.nodup (I.p.two d1 wK).1 (I.p.RN d2) (fun p hp=>(d9 (I.p.ne p hp) (I.p.Fb sE d2 p hp) (I.p.names p hp))) I.p.prefix h
end
end
section
open Builtin Builtin.Str StrLaws
theorem Ce(h:hi≤s.length):(i+(⟨#[c]⟩:Str).length≤hi∧subAt s ⟨#[c]⟩ i=true)↔(i<hi∧s.cps.toList[i]?=some c):=by
 constructor
 ·rintro ⟨h1,h2⟩
  exact ⟨by assumption,(subAt_one s c i).mp ⟨by (exact aJ (by assumption) (by assumption)),h2⟩⟩
 ·rintro ⟨h1,h2⟩
  exact ⟨by assumption,((subAt_one s c i).mpr h2).2⟩
theorem Sd{s:Str}{c lo hi limit:Nat}(hh:hi≤s.length):occurrences s ⟨#[c]⟩ lo hi limit=((bp lo (hi-lo)).filter fun i=>decide (s.cps.toList[i]?=some c)).take limit:=by
 rw [occ_eq]
 have go:∀(n a:Nat) (found:Array Nat) (free:Nat),n=hi+1-a→free≤a→(forIn (bp a n) (found,free) (occBody s ⟨#[c]⟩ hi limit)).run.fst.toList=found.toList++((bp a (hi-a)).filter fun i=>decide (s.cps.toList[i]?=some c)).take (limit-found.size):=by
  intro n
  induction n with
  | zero =>
   intro a found free hn hf
   have:hi-a=0:=T2 [.u (.a .x .o) .y,.u .y .z,.e (.n 0) .y] (.e .x (.n 0)) tA hn
   rw [this];simp
  | succ n ih =>
   intro a found free hn hf
   rw [gu,fA]
   unfold occBody
   by_cases fM:a<hi
   ·have e2:hi-a=(hi-(a+1))+1:=T2 [.u .y .x,.u .z (.a .y .o),.t .z .w] (.e .y (.a .x .o)) tA fM
    rw [e2,gu,gr]
    by_cases hc:s.cps.toList[a]?=some c
    ·rw [if_pos (decide_eq_true hc)]
     by_cases hl:found.size<limit
     ·rw [if_pos ⟨⟨⟨hl,hf⟩,((Ce hh).mpr ⟨fM,hc⟩).1⟩,((Ce hh).mpr ⟨fM,hc⟩).2⟩]
      rw [pure_bind]
      show (forIn (bp (a+1) n) (found.push a,a+1) (occBody s ⟨#[c]⟩ hi limit)).run.fst.toList=_
      rw [ih (a+1) (found.push a) (a+1) (congrArg qj hn) (bX _)]
      have e3:limit-found.size=(limit-(found.push a).size)+1:=by rw [nO];exact T2 [.u .y .x,.u .z (.a .y .o),.t .z .w] (.e .y (.a .x .o)) tA hl
      simp only [e3,List.take_succ_cons,iZ]
      simp
     ·rw [if_neg (fun h=>hl h.1.1.1),pure_bind]
      show (forIn (bp (a+1) n) (found,free) (occBody s ⟨#[c]⟩ hi limit)).run.fst.toList=_
      rw [ih (a+1) found free (congrArg qj hn) (fJ (by assumption))]
      have:limit-found.size=0:=T2 [.u .y .x,.T .y .z] (.e .x (.n 0)) tA hl
      rw [this];rfl
    ·rw [if_neg (ne_true_of_eq_false (decide_eq_false hc))]
     rw [if_neg (fun h=>hc ((Ce hh).mp ⟨h.1.2,h.2⟩).2),pure_bind]
     show (forIn (bp (a+1) n) (found,free) (occBody s ⟨#[c]⟩ hi limit)).run.fst.toList=_
     exact ih (a+1) found free (congrArg qj hn) (fJ (by assumption))
   ·have e2:hi-a=0:=dh (bV fM)
    rw [if_neg (fun h=>fM ((Ce hh).mp ⟨h.1.2,h.2⟩).1),pure_bind]
    show (forIn (bp (a+1) n) (found,free) (occBody s ⟨#[c]⟩ hi limit)).run.fst.toList=_
    rw [ih (a+1) found free (congrArg qj hn) (fJ (by assumption)),dh (fJ (bV fM)),e2]
    rfl
 have:=go (hi+1-lo) lo #[] lo rfl (bX _)
 simpa using this
theorem Se{s:Str}{c lo hi:Nat}(hh:hi≤s.length):lastOccurrence s ⟨#[c]⟩ lo hi=((bp lo (hi-lo)).filter fun i=>decide (s.cps.toList[i]?=some c)).getLast?:=by
 rw [last_eq]
 have go:∀(n a:Nat) (st:Option Nat),n=hi+1-a→(forIn (bp a n) st (lastBody s ⟨#[c]⟩ hi)).run=(((bp a (hi-a)).filter fun i=>decide (s.cps.toList[i]?=some c)).getLast?).or st:=by
  intro n
  induction n with
  | zero =>
   intro a st hn
   have:hi-a=0:=T2 [.u (.a .x .o) .y,.u .y .z,.e (.n 0) .y] (.e .x (.n 0)) tA hn
   rw [this];rfl
  | succ n ih =>
   intro a st hn
   rw [gu,fA]
   unfold lastBody
   by_cases fM:a<hi
   ·have e2:hi-a=(hi-(a+1))+1:=T2 [.u .y .x,.u .z (.a .y .o),.t .z .w] (.e .y (.a .x .o)) tA fM
    rw [e2,gu,gr]
    by_cases hc:s.cps.toList[a]?=some c
    ·rw [if_pos (decide_eq_true hc),if_pos ((Ce hh).mpr ⟨fM,hc⟩),pure_bind]
     show (forIn (bp (a+1) n) (some a) (lastBody s ⟨#[c]⟩ hi)).run=_
     rw [ih (a+1) (some a) (congrArg qj hn)]
     rw [List.getLast?_cons]
     cases ((bp (a+1) (hi-(a+1))).filter fun i=>decide (s.cps.toList[i]?=some c)).getLast? <;> rfl
    ·rw [if_neg (ne_true_of_eq_false (decide_eq_false hc)),if_neg (fun h=>hc ((Ce hh).mp h).2),pure_bind]
     show (forIn (bp (a+1) n) st (lastBody s ⟨#[c]⟩ hi)).run=_
     exact ih (a+1) st (congrArg qj hn)
   ·have e2:hi-a=0:=dh (bV fM)
    rw [if_neg (fun h=>fM ((Ce hh).mp h).1),pure_bind]
    show (forIn (bp (a+1) n) st (lastBody s ⟨#[c]⟩ hi)).run=_
    rw [ih (a+1) st (congrArg qj hn),dh (fJ (bV fM)),e2]
    rfl
 have:=go (hi+1-lo) lo none rfl
 simpa using this
end
section
open Builtin Builtin.Str StrLaws
noncomputable def sL(s:Str):List Nat:=s.cps.toList
theorem dH(x y:Str):sL (x++y)=sL x++sL y:=Array.toList_append
theorem eK(x:Str):(sL x).length=x.length:=by rfl
structure Sg(B S W:Str→Bool):Prop where
 Zj:B ⟨#[97]⟩=true
 Zk:B ⟨#[39]⟩=false
 bs:∀c∈([46,93,32,10,125,9,61]:List Nat),B ⟨#[c]⟩=false
 w:∀c∈([32,9]:List Nat),W ⟨#[c]⟩=true
 wn:∀c∈([97,39,46,93,10,125,61]:List Nat),W ⟨#[c]⟩=false
 s:∀c∈([97,46]:List Nat),S ⟨#[c]⟩=false
noncomputable def qL(k:Str):List Nat:=sL (jU k)
noncomputable def dY(ns:List Str):List Nat:=ns.flatMap fun k=>46::qL k
theorem uA(hk:k∈bC):(k = "a"∧qL k=[97])∨(k = ""∧qL k=[39,39])∨(k = "a.a"∧qL k=[39,97,46,97,39]):=by
 have:k = "a"∨k = ""∨k = "a.a":=by simpa [bC]using hk
 clear hk;rcases this with rfl | rfl | rfl
 ·exact .inl ⟨rfl,by decide +kernel⟩
 ·exact .inr (.inl ⟨rfl,by decide +kernel⟩)
 ·exact .inr (.inr ⟨rfl,by decide +kernel⟩)
theorem rK(k:Str):∀ns:List Str,sL (zV "." ((k::ns).map jU))=qL k++dY ns:=by
 have e0:∀l,zV "." l=lY "." l:=fun l=>glued_eq_join _ _
 intro ns
 rw [e0]
 induction ns generalizing k with
 | nil=>simp [dY,lY,qL]
 | cons j ns ih =>
  have e:lY "." ((k::j::ns).map jU)=jU k ++ "."++lY "." ((j::ns).map jU):=rfl
  have ed:sL (aB ".")=[46]:=by decide +kernel
  simp only [e,dH,dH,ih,ed]
  simp [dY,qL]
theorem sP(h:sL src=A++R)(hi:A.length=i):src.cps.toList.drop i=R:=by
 show (sL src).drop i=R
 simp only [h,← hi,List.drop_left]
theorem at_(h:sL src=A++c::R)(hi:A.length=i):src.cps[i]?=some c:=by
 have e:src.cps[i]?=(sL src)[i]?:=by simp [sL]
 rw [e,h,← hi];simp
theorem OA{src:Str}{A m R:List Nat}{lo i:Nat}(h:sL src=A++(m++R))(hA:A.length=lo)(h1:lo≤i)(h2:i<lo+m.length):src.cps.toList[i]?=m[i-lo]?:=by
 show (sL src)[i]?=_
 rw [h,dN (by exact T3 [.e .x .y,.l .y .z] (.l .x .z) tA hA h1),lh (by exact T4 [.u .z .x,.e .y .z,.l .z .w,.t .w (.a .z .s)] (.t .x .s) tA hA h1 h2),hA]
theorem Ap{src:Str}{A m R:List Nat}{lo c:Nat}(h:sL src=A++(m++c::R))(hA:A.length=lo)(hm:c∉m):occurrences src ⟨#[c]⟩ lo src.length 1=[lo+m.length]:=by
 rw [Sd (bX _)]
 have hlen:src.length=A.length+m.length+(R.length+1):=by rw [← eK,h];simp;exact T3 [] (.e (.a .x (.a .y (.a .z .o))) (.a (.a .x .y) (.a .z .o))) tA
 have e:src.length-lo=m.length+(R.length+1):=T5 [.u .z .y,.e .y .z,.e .w (.a (.a .y .s) (.a .t .o))] (.e .x (.a .s (.a .t .o))) tA hA hlen
 rw [e,← ER,rj]
 have e1:(bp lo m.length).filter (fun i=>decide (src.cps.toList[i]?=some c))=[]:=by
  rw [BU]
  intro i hi
  rw [J1]at hi
  rw [OA h hA hi.1 hi.2]
  intro q
  exact hm (dF (of_decide_eq_true q))
 have e2:src.cps.toList[lo+m.length]?=some c:=by
  show (sL src)[lo+m.length]?=_
  rw [h,← bU,← hA,← bh];simp
 simp only [e1,bg,gu,gr,if_pos (decide_eq_true e2)]
 rfl
noncomputable def JA(B W:Str→Bool)(R:List Nat):Prop:=∀c r,R=c::r→B ⟨#[c]⟩=false
theorem xf(g:Sg B S W){src k:Str}{A R:List Nat}{i:Nat}(hk:k∈bC)(h:sL src=A++(qL k++R))(hi:A.length=i)(hR:JA B W R):iu B S src i k (i+(qL k).length):=by
 have hlen:src.length=A.length+(qL k).length+R.length:=by rw [← eK,h];simp;exact T3 [] (.e (.a .x (.a .y .z)) (.a (.a .x .y) .z)) tA
 rcases uA hk with ⟨rfl,e⟩ | ⟨rfl,e⟩ | ⟨rfl,e⟩
 ·rw [e]at h ⊢
  have hd:=sP h hi
  have hs:eJ B (src.cps.toList.drop i)=1:=by
   rw [hd]
   show (if B ⟨#[97]⟩then eJ B R+1 else 0)=1
   rw [if_pos g.Zj]
   cases R with
   | nil=>rfl
   | cons c r =>
    show (if B ⟨#[c]⟩then eJ B r+1 else 0)+1=1
    rw [hR c r rfl];rfl
  have:=iu.bare (B:=B) (S:=S) (src:=src) (i:=i) 97 (at_ (by simpa using h) hi) g.Zj
  rw [hs]at this
  have ep:part src i (i+1) = "a":=by
   unfold part
   rw [hd,iX]
   show (⟨([97]:List Nat).toArray⟩:Str)=_
   decide +kernel
  rw [ep]at this
  exact this
 ·rw [e]at h ⊢
  have h1:=at_ (c:=39) (R:=39::R) (by simpa using h) hi
  have ho:occurrences src "'" (i+1) src.length 1=[i+1]:=Ap (A:=A++[39]) (m:=[]) (R:=R) (c:=39) (by simpa using h) (by simp [hi]) (by simp)
  have:=iu.lit (B:=B) (S:=S) (src:=src) (i:=i) (i+1) [] h1 g.Zk ho (bX _) (by rw [hlen,e];dsimp;exact T3 [.e .x .y] (.l (.a .y .o) (.a (.a .x (.n 2)) .z)) tA hi) fun j c hj=>by
   unfold part at hj;simp at hj
  have ep:part src (i+1) (i+1) = "":=by unfold part;simp;decide +kernel
  rw [ep]at this
  exact this
 ·rw [e]at h ⊢
  have h1:=at_ (c:=39) (R:=97::46::97::39::R) (by simpa using h) hi
  have ho:occurrences src "'" (i+1) src.length 1=[i+1+3]:=Ap (A:=A++[39]) (m:=[97,46,97]) (R:=R) (c:=39) (by simpa using h) (by simp [hi]) (by decide)
  have hd:=sP (src:=src) (A:=A++[39]) (R:=97::46::97::39::R) (i:=i+1) (by simpa using h) (by simp [hi])
  have Zl:part src (i+1) (i+1+3)=⟨#[97,46,97]⟩:=by
   unfold part;rw [hd,iX];rfl
  have:=iu.lit (B:=B) (S:=S) (src:=src) (i:=i) (i+1+3) [] h1 g.Zk ho (bf _ _) (by rw [hlen,e];dsimp;exact T3 [.e .x .y] (.l (.a (.a .y .o) (.n 3)) (.a (.a .x (.n 5)) .z)) tA hi) fun j c hj=>by
   rw [Zl]at hj
   have hc:c∈([97,46]:List Nat):=by
    have:=oI hj
    simp at this
    clear hj;rcases this with rfl | rfl | rfl <;> decide
   exact g.s c hc
  have ep:part src (i+1) (i+1+3) = "a.a":=by rw [Zl];decide +kernel
  rw [ep]at this
  exact this
end
section
open Builtin Builtin.Str StrLaws
noncomputable def wN(b:Str):Nat:=if wide b then 1 else 0
structure Cf(B W:Str→Bool)(T:List Nat)(w:Nat):Prop where
 skip:eJ W T=w
 le:w≤T.length
 behind:JA B W T
 stop:T[w]?≠some 46
theorem IA:sL "]" = [93]∧sL " ]" = [32,93]∧sL "\n]" = [10,93]∧sL "" = []∧sL "}" = [125]∧sL "\t=]" = [9,61,93]:=by decide +kernel
theorem Fe:wide "]" = false∧wide " ]" = true∧wide "\n]" = false∧wide "" = false∧wide "}" = false∧wide "\t=]" = true:=by decide +kernel
theorem E6(g:Sg B S W)(hb:b∈(["]", " ]", "\n]", "", "}", "\t=]"]:List Str)):Cf B W (sL b) (wN b):=by
 refine Jb IA fun l1 l2 l3 l4 l5 l6=>?_
 refine Jb Fe fun w1 w2 w3 w4 w5 w6=>?_
 have no:∀c r,c∈([97,39,46,93,10,125,61]:List Nat)→eJ W (c::r)=0:=fun c r hc=>by
  show (if W ⟨#[c]⟩then eJ W r+1 else 0)=0
  rw [g.wn c hc];rfl
 have yes:∀c d r,c∈([32,9]:List Nat)→d∈([97,39,46,93,10,125,61]:List Nat)→eJ W (c::d::r)=1:=fun c d r hc hd=>by
  show (if W ⟨#[c]⟩then eJ W (d::r)+1 else 0)=1
  rw [g.w c hc,if_pos rfl,no d r hd]
 have Sh:∀c r,c∈([46,93,32,10,125,9,61]:List Nat)→JA B W (c::r):=fun c r hc c' r' e=>by
  cases e;exact g.bs c hc
 simp only [aq,jP,or_false]at hb
 unfold wN
 rcases hb with rfl | rfl | rfl | rfl | rfl | rfl
 ·rw [w1,l1];exact ⟨no _ _ (by decide),by decide,Sh _ _ (by decide),by decide⟩
 ·rw [w2,l2];exact ⟨yes _ _ _ (by decide) (by decide),by decide,Sh _ _ (by decide),by decide⟩
 ·rw [w3,l3];exact ⟨no _ _ (by decide),by decide,Sh _ _ (by decide),by decide⟩
 ·rw [w4,l4];exact ⟨rfl,by decide,(fun c r e=>by contradiction),by decide⟩
 ·rw [w5,l5];exact ⟨no _ _ (by decide),by decide,Sh _ _ (by decide),by decide⟩
 ·rw [w6,l6];exact ⟨yes _ _ _ (by decide) (by decide),by decide,Sh _ _ (by decide),by decide⟩
theorem IB(hk:k∈bC):∃c r,qL k=c::r∧c∈([97,39,46,93,10,125,61]:List Nat):=by
 rcases uA hk with ⟨rfl,e⟩ | ⟨rfl,e⟩ | ⟨rfl,e⟩ <;> rw [e]
 ·exact (jq 97 ([]) rfl (by decide))
 ·exact (jq 39 _ rfl (by decide))
 ·exact (jq 39 _ rfl (by decide))
theorem tD(g:Sg B S W)(h:JA B W T):JA B W (dY ns++T):=by
 cases ns with
 | nil=>simpa [dY]using h
 | cons k ns =>
  intro c r e
  have:dY (k::ns)++T=46::(qL k++dY ns++T):=by rfl
  rw [this]at e
  cases e
  exact g.bs 46 (by decide)
theorem IC(g:Sg B S W)(hT:Cf B W T w):∀(ns:List Str) (A:List Nat) (p:Nat),(∀k∈ns,k∈bC)→sL src=A++(dY ns++T)→A.length=p→mm B S W src (sk W src p) ns (p+(dY ns).length+w):=by
 intro ns
 induction ns with
 | nil =>
  intro A p _ h hp
  have h':sL src=A++T:=by simpa [dY]using h
  have hd:=sP h' hp
  have e:sk W src p=p+(dY []).length+w:=by unfold sk;rw [hd,hT.skip];rfl
  rw [e]
  have hlen:src.length=A.length+T.length:=by rw [← eK,h'];simp
  have hle:=hT.le
  refine .stop _ (by simp [dY];exact T5 [.e .x .y,.e .z (.a .x .w),.l .s .w] (.l (.a .y .s) .z) tA hp hlen hle) ?_
  have e2:src.cps[p+(dY []).length+w]?=T[w]?:=by
   have:src.cps[p+(dY []).length+w]?=(sL src)[p+(dY []).length+w]?:=by simp [sL]
   rw [this,h',dN (by simp [dY];exact T3 [.e .x .y] (.l .x (.a .y .z)) tA hp)]
   congr 1
   simp [dY];exact T3 [.u (.a .y .z) .x,.e .y .z] (.e .x .w) tA hp
  rw [e2];exact hT.stop
 | cons k ns ih =>
  intro A p jf h hp
  have hk:=jf k aH
  have e1:dY (k::ns)=46::(qL k++dY ns):=by rfl
  have h1:sL src=A++(46::(qL k++(dY ns++T))):=by rw [h,e1];simp
  have hd:=sP h1 hp
  have s0:sk W src p=p:=by
   unfold sk;rw [hd]
   show p+(if W ⟨#[46]⟩then _ else 0)=p
   rw [g.wn 46 (by decide)];rfl
  refine gP (IB hk) fun c r hq hc=>?_
  have h2:sL src=(A++[46])++(qL k++(dY ns++T)):=by rw [h1];simp
  have s1:sk W src (p+1)=p+1:=by
   unfold sk
   rw [sP h2 (by simp [hp]),hq]
   show p+1+(if W ⟨#[c]⟩then _ else 0)=p+1
   rw [g.wn c hc];rfl
  have hlen:src.length=A.length+(1+((qL k).length+((dY ns).length+T.length))):=by rw [← eK,h1];simp;(exact km _ _)
  have Si:=xf g hk h2 (by simp [hp]:(A++[46]).length=p+1) (tD (ns:=ns) g hT.behind)
  have h3:sL src=(A++[46]++qL k)++(dY ns++T):=by rw [h2];simp
  have:=ih (A++[46]++qL k) (p+1+(qL k).length) (fun j hj=>jf j (aG _ hj)) h3 (by simp [hp];exact T2 [] (.e (.a .x (.a .y .o)) (.a (.a .x .o) .y)) tA)
  rw [s0]
  have ee:p+(dY (k::ns)).length+w=p+1+(qL k).length+(dY ns).length+w:=by rw [e1];simp;exact T3 [] (.e (.a .x (.a (.a .y .z) .o)) (.a (.a (.a .x .o) .y) .z)) tA
  rw [ee]
  exact .more p k (p+1+(qL k).length) ns _ (at_ h1 hp) (by rw [s1];exact Si) (T6 [.e .x .y,.e .z (.a .x (.a .o (.a .w (.a .s .t))))] (.l (.a (.a .y .o) .w) .z) tA hp hlen) this
theorem E7(n:Nat):∃l,sL (Ma n)=l∧(∀c∈l,c∈([32,9]:List Nat))∧l.length≤2:=by
 have e1:sL "" = []:=by decide +kernel
 have e2:sL " " = [32]:=by decide +kernel
 have e3:sL "\t " = [9,32]:=by decide +kernel
 delta Ma ky
 split
 ·exact (cB ([]) e1 (by decide) (by simp))
 ·split
  ·exact (cB ([32]) e2 (by decide) (by decide))
  ·exact (cB ([9,32]) e3 (by decide) (by decide))
theorem E8(g:Sg B S W)(hc:c∈([97,39,46,93,10,125,61]:List Nat)):∀l:List Nat,(∀c∈l,c∈([32,9]:List Nat))→eJ W (l++c::r)=l.length
 | [],_=>by
  show (if W ⟨#[c]⟩then _ else 0)=0
  rw [g.wn c hc];rfl
 | d::l,h=>by
  show (if W ⟨#[d]⟩then eJ W (l++c::r)+1 else 0)=_
  rw [g.w d (h d aH),if_pos rfl,E8 g hc l fun x hx=>h x (aG _ hx)]
  rfl
theorem vJ(g:Sg B S W)(jf:∀j∈k::ns,j∈bC)(hT:Cf B W (sL b) (wN b)):
  ∃j,iu B S (file++ay n (k::ns)++b) (sk W (file++ay n (k::ns)++b) (file.length+1)) k j∧j≤(file++ay n (k::ns)++b).length ∧
   mm B S W (file++ay n (k::ns)++b) (sk W (file++ay n (k::ns)++b) j) ns (file.length+(ay n (k::ns)).length+wN b):=by
 refine eZ (E7 n) fun l hl rX hl3=>?_
 have eb:sL (aB "[")=[91]:=by decide +kernel
 have hh:sL (ay n (k::ns))=91::(l++(qL k++dY ns)):=by
  delta ay mE
  simp only [dH,dH,eb,hl,rK];simp
 generalize hs:file++ay n (k::ns)++b=src
 have h0:sL src=sL file++(91::(l++(qL k++(dY ns++sL b)))):=by simp only [← hs,dH,dH,hh];simp
 have fl:(sL file).length=file.length:=eK file
 have wO:(ay n (k::ns)).length=1+(l.length+((qL k).length+(dY ns).length)):=by rw [← eK,hh];simp;(exact km _ _)
 refine gP (IB (jf k aH)) fun c r hq hc=>?_
 have h1:sL src=(sL file++[91])++(l++(qL k++(dY ns++sL b))):=by rw [h0];simp
 have s1:sk W src (file.length+1)=file.length+1+l.length:=by
  unfold sk
  rw [sP h1 (by simp [fl]),hq,JS,E8 g hc l rX]
 have h2:sL src=(sL file++[91]++l)++(qL k++(dY ns++sL b)):=by rw [h1];simp
 have p1:=xf g (jf k aH) h2 (by simp [fl];exact T2 [] (.e (.a .x (.a .y .o)) (.a (.a .x .o) .y)) tA:(sL file++[91]++l).length=file.length+1+l.length) (tD (ns:=ns) g hT.behind)
 have h3:sL src=(sL file++[91]++l++qL k)++(dY ns++sL b):=by rw [h2];simp
 have kk:=IC g hT ns (sL file++[91]++l++qL k) (file.length+1+l.length+(qL k).length) (fun j hj=>jf j (aG _ hj)) h3 (by simp [fl];exact T3 [] (.e (.a .x (.a (.a .y .z) .o)) (.a (.a (.a .x .o) .y) .z)) tA)
 refine (cB (file.length+1+l.length+(qL k).length) (by rw [s1];exact p1) ?_ ?_)
 ·have:src.length=(sL file++[91]++l++qL k).length+(dY ns++sL b).length:=by rw [← eK,h3];simp;exact T5 [] (.e (.a .x (.a (.a .y (.a .z (.a .w .s))) .o)) (.a (.a .x (.a (.a .y .z) .o)) (.a .w .s))) tA
  simp [fl]at this;exact T6 [.e .x (.a (.a .y (.a (.a .z .w) .o)) (.a .s .t))] (.l (.a (.a (.a .y .o) .z) .w) .x) tA this
 ·have ee:file.length+(ay n (k::ns)).length+wN b=file.length+1+l.length+(qL k).length+(dY ns).length+wN b:=by rw [wO];exact T5 [] (.e (.a (.a .x (.a .o (.a .y (.a .z .w)))) .s) (.a (.a (.a (.a (.a .x .o) .y) .z) .w) .s)) tA
  rw [ee];exact kk
end
section
open Builtin Builtin.Str StrLaws
theorem ID(l:List Nat)(c:Nat):∀e,e≤l.length→((bp 0 e).filter fun i=>decide (l[i]?=some c)).length=(l.take e).count c
 | 0,_=>by rfl
 | e+1,h=>by
  simp only [List.range'_1_concat,rj,bh,ID l c e (cF (by assumption)),mL,fD,eQ]
  congr 1
  have fM:e<l.length:=by assumption
  rw [aU fM]
  simp only [gr,Lb,Option.toList_some,jv,List.count_cons,List.count_nil]
  rw [aU fM]
  by_cases q:l[e]=c
  ·simp [q]
  ·simp [q]
theorem xg(h:e≤s.length):(occurrences s ⟨#[c]⟩ 0 e (s.length+1)).length=((sL s).take e).count c:=by
 simp only [Sd h,U9,fT]
 have:=ID (sL s) c e (by rw [eK];exact h)
 have e2:((bp 0 e).filter fun i=>decide (s.cps.toList[i]?=some c)).length=((sL s).take e).count c:=this
 rw [e2]
 have:((sL s).take e).count c≤((sL s).take e).length:=List.count_le_length
 rw [fT,eK]at this
 exact T3 [.i .y .z,.i (.a .w .o) .y,.l .z .y] (.e .x .z) tA this
theorem Ku(h:e≤s.length)(hs:sL s=A++c::R)(hA:A.length<e)(hR:c∉R.take (e-A.length-1)):lastOccurrence s ⟨#[c]⟩ 0 e=some A.length:=by
 simp only [Se h,U9]
 have e1:e=A.length+((e-A.length-1)+1):=T2 [.u .y .x,.u .x .o,.t .z .w] (.e .w (.a .z (.a .x .o))) tA hA
 have e2:bp 0 e=bp 0 A.length++A.length::bp (A.length+1) (e-A.length-1):=by
  conv=>lhs;rw [e1]
  rw [← ER,eQ,gu]
 have e3:s.cps.toList[A.length]?=some c:=by
  show (sL s)[A.length]?=_
  rw [hs];simp
 have e4:(bp (A.length+1) (e-A.length-1)).filter (fun i=>decide (s.cps.toList[i]?=some c))=[]:=by
  rw [BU]
  intro i hi q
  rw [J1]at hi
  have q:=of_decide_eq_true q
  apply hR
  have:s.cps.toList[i]?=(R.take (e-A.length-1))[i-A.length-1]?:=by
   show (sL s)[i]?=_
   rw [hs,dN (by exact T2 [.l (.a .x .o) .y] (.l .x .y) tA hi.1),List.getElem?_take,if_pos (by exact T3 [.u .z .x,.u .x .o,.u .w .z,.u .x .o,.l (.a .s .o) .t,.t .t (.a (.a .s .o) .z)] (.t .x .z) tA hi.1 hi.2)]
   have:i-A.length=(i-A.length-1)+1:=T2 [.u .y .x,.u .x .o,.l (.a .z .o) .w] (.e .y (.a .x .o)) tA hi.1
   rw [this];dsimp
  rw [this]at q
  exact dF q
 rw [e2,rj,gr,if_pos (decide_eq_true e3),e4]
 simp
theorem Ff:∀n:Nat,n<102→10∉sL (aB (toString (n:Int))):=by decide +kernel
theorem vK:sL (nt h n)=sL h++([93,10,110,32,61,32]++(sL (aB (toString (n:Int)))++[10])):=by
 have e0:sL bt=[]:=rfl
 have e1:sL (aB "]\nn = ")=[93,10,110,32,61,32]:=by decide +kernel
 have e2:sL (aB "\n")=[10]:=by decide +kernel
 unfold nt
 simp only [dH,dH,dH,dH,e0,e1,e2];simp
theorem oY(n:Nat)(k:Str)(ns:List Str):∃l,(∀c∈l,c∈([32,9]:List Nat))∧sL (ay n (k::ns))=91::(l++(qL k++dY ns)):=by
 refine eZ (E7 n) fun l hl rX hl3=>?_
 have eb:sL (aB "[")=[91]:=by decide +kernel
 refine (aw l rX ?_)
 delta ay mE
 simp only [dH,dH,eb,hl,rK];simp
theorem yr(cx:ns≠[])(jf:∀j∈ns,j∈bC):10∉sL (ay n ns):=by
 cases ns with
 | nil=>exact absurd rfl cx
 | cons k ns =>
  refine az (oY n k ns) fun l hl e=>?_
  have qn:∀j∈bC,10∉qL j:=fun j hj=>by
   rcases uA hj with ⟨_,e⟩ | ⟨_,e⟩ | ⟨_,e⟩ <;> rw [e] <;> decide
  rw [e]
  intro h
  simp only [aq,aZ]at h
  rcases h with h | h | h | h
  ·contradiction
  ·have:=hl _ h;simp at this
  ·exact qn k (jf k aH) h
  ·unfold dY at h
   refine az (uB.mp h) fun j hj h=>?_
   rcases aq.mp h with h | h
   ·contradiction
   ·exact qn j (jf j (aG _ hj)) h
theorem Cg:∀(phr:List (List Str)),phr.length≤101→(∀p∈phr,p≠[]∧∀k∈p,k∈bC)→(sL (fileOf phr)).count 10=2*phr.length∧(phr≠[]→∃A,sL (fileOf phr)=A++[10]):=by
 have go:∀(r:List (List Str)),r.length≤101→(∀p∈r,p≠[]∧∀k∈p,k∈bC)→(sL (fileOf r.reverse)).count 10=2*r.length∧(r≠[]→∃A,sL (fileOf r.reverse)=A++[10]):=by
  intro r
  induction r with
  | nil=>intro _ _;exact ⟨by decide +kernel,fun h=>absurd rfl h⟩
  | cons p r ih =>
   intro hl hp
   refine ao (ih (by simp at hl;(exact fJ (by assumption))) fun q hq=>hp q (aG _ hq)) fun i1 _=>?_
   refine ao (hp p aH) fun p1 p2=>?_
   rw [ik,lA,dH,vK]
   have n1:(sL (ay r.reverse.length p)).count 10=0:=iI.mpr (yr p1 p2)
   have n2:(sL (aB (toString ((r.reverse.length:Nat):Int)))).count 10=0:=iI.mpr (Ff _ (by simp at hl ⊢;(exact bH (by assumption) (by decide))))
   refine ⟨?_,fun _=>(dA (sL (fileOf r.reverse)++(sL (ay r.reverse.length p)++([93,10,110,32,61,32]++sL (aB (toString ((r.reverse.length:Nat):Int)))))) (by simp))⟩
   simp only [fD,fD,fD,fD,i1,n1,n2]
   simp
   rfl
 intro phr hl hp
 have:=go phr.reverse (by simpa using hl) fun p h=>hp p (mx.mp h)
 rw [qD,List.length_reverse]at this
 exact ⟨this.1,fun h=>this.2 (by simpa using h)⟩
end
section
open Builtin Builtin.Str StrLaws
theorem vL(h:sL x=sL y):x=y:=by
 obtain ⟨x⟩:=x
 obtain ⟨y⟩:=y
 have:x=y:=tj.mp h
 rw [this]
noncomputable def yt(n:Nat)(h b:Str):Str:=if b = "" then "end of document" else ix (2*(n:Int)+1) (gH h b:Int)
theorem Kv:∀b∈(["]", " ]", "\n]", "", "}", "\t=]"]:List Str),b ≠ ""→wN b<(sL b).length∧10∉(sL b).take (wN b):=by decide +kernel
theorem E9:∀b∈(["]", " ]", "\n]", "", "}", "\t=]"]:List Str),decide ((sL b)[wN b]?=some 93)=closed b∧(b = ""→wN b=0∧sL b=[]):=by decide +kernel
theorem Fg(hl:phr.length≤101)(hp:∀p∈phr,p≠[]∧∀k∈p,k∈bC)(cx:ns≠[])(jf:∀j∈ns,j∈bC)(hb:b∈(["]", " ]", "\n]", "", "}", "\t=]"]:List Str)):
  iN (fileOf phr++ay phr.length ns++b) ((fileOf phr).length+(ay phr.length ns).length+wN b) (yt phr.length (ay phr.length ns) b):=by
 refine ao (Cg phr hl hp) fun c1 c2=>?_
 have Bz:=yr (n:=phr.length) cx jf
 generalize hh:ay phr.length ns=h at Bz ⊢
 generalize hf:fileOf phr=f at c1 c2 ⊢
 have hs:sL (f++h++b)=sL f++(sL h++sL b):=by rw [dH,dH];simp
 have hlen:(f++h++b).length=f.length+h.length+b.length:=by rw [aI,aI]
 have Sj:(gH h b:Int)=(h.length:Int)+wN b+1:=by
  delta gH wN
  cases wide b <;> simp <;> rfl
 unfold yt
 by_cases Ur:b = ""
 ·rw [if_pos Ur]
  refine ao ((E9 b hb).2 Ur) fun e1 e2=>?_
  refine .UZ ?_
  have:b.length=0:=by rw [← eK,e2];rfl
  exact T5 [.e .x (.a (.a .y .z) .w),.e .w (.n 0)] (.l .x (.a (.a .y .z) .s)) tA hlen this
 rw [if_neg Ur]
 refine ao (Kv b hb Ur) fun b1 b2=>?_
 have fM:f.length+h.length+wN b<(f++h++b).length:=by rw [hlen,← eK b];exact T4 [.t .x .y] (.t (.a (.a .z .w) .x) (.a (.a .z .w) .y)) tA b1
 have AE:(sL (f++h++b)).take (f.length+h.length+wN b)=sL f++(sL h++(sL b).take (wN b)):=by
  simp only [hs,uM,uM]
  have f1:=eK f
  have h1:=eK h
  rw [dM (by exact T4 [.e .x .y] (.l .x (.a (.a .y .z) .w)) tA f1),dM (by exact T5 [.u (.a (.a .y .w) .s) .x,.e .y .z,.e .w .s] (.l .w .x) tA f1 h1)]
  congr 3
  exact T5 [.u (.a (.a .y .w) .s) .x,.u .x .w,.e .z .w,.e .s .t] (.e .x .b) tA f1 h1
 have IE:(occurrences (f++h++b) ⟨#[10]⟩ 0 (f.length+h.length+wN b) ((f++h++b).length+1)).length=2*phr.length:=by
  simp only [xg (cF fM),AE,fD,fD,c1,iI.mpr Bz,iI.mpr b2]
  rfl
 have Sk:nl=⟨#[10]⟩:=by decide +kernel
 rcases Nat.eq_zero_or_pos phr.length with h0 | h0
 ·have PD:phr=[]:=aP h0
  have VT:f.length=0:=by rw [← hf,PD];decide +kernel
  have:=iN.first (src:=f++h++b) (p:=f.length+h.length+wN b) fM (by rw [Sk,IE,h0])
  have e1:(((f.length+h.length+wN b:Nat):Int)+1)=(gH h b:Int):=by rw [Sj];exact congrArg BS (T3 [.e .x (.n 0)] (.e (.a (.a (.a .x .y) .z) .o) (.a (.a .y .z) .o)) tA VT)
  rw [e1]at this
  rw [h0]
  exact this
 ·have XZ:phr≠[]:=fun e=>by rw [e]at h0;simp at h0
  refine cG (c2 XZ) fun A hA=>?_
  have fl:f.length=A.length+1:=by rw [← eK,hA];simp
  have AL:=Ku (s:=f++h++b) (c:=10) (e:=f.length+h.length+wN b) (A:=A) (R:=sL h++sL b) (cF fM) (by rw [hs,hA];simp) (T4 [.e .x (.a .y .o)] (.t .y (.a (.a .x .z) .w)) tA fl) (by
   rw [uM]
   have h1:=eK h
   rw [dM (by exact T5 [.u (.a (.a .x .w) .s) .y,.u .x .o,.e .z (.a .w .o),.e .s .t] (.l .s .x) tA fl h1)]
   intro q
   rcases aZ.mp q with q | q
   ·exact Bz q
   ·have e:f.length+h.length+wN b-A.length-1-(sL h).length=wN b:=T5 [.u (.a (.a .x .w) .s) .y,.u .x .o,.u .x .s,.e .w (.a .s .o),.e .t .b] (.e .x .c) tA fl h1
    rw [e]at q
    exact b2 q)
  have:=iN.later (src:=f++h++b) (p:=f.length+h.length+wN b) (2*phr.length-1) A.length fM (by rw [Sk,IE];exact T1 [.u (.m 2 .x) .o,.t (.n 0) .y] (.e (.m 2 .y) (.a .x .o)) tA h0) (by rw [Sk];exact AL) (T4 [.e .x (.a .y .o)] (.l .y (.a (.a .x .z) .w)) tA fl) (T1 [.u (.m 2 .x) .o,.l .y (.n 101)] (.l .x (.n 1048576)) tA hl)
  have e1:(((2*phr.length-1:Nat):Int)+2)=2*(phr.length:Int)+1:=congrArg BS (T1 [.u (.m 2 .x) .o,.t (.n 0) .y] (.e (.a .x (.n 2)) (.a (.m 2 .y) .o)) tA h0)
  have e2:(((f.length+h.length+wN b:Nat):Int)-(A.length:Int))=(gH h b:Int):=by rw [Sj];omega
  rw [e1,e2]at this
  exact this
theorem Aq(m:Str)(n:Nat)(h b:Str):mX m (yt n h b)=m ++ " "++YK n h b:=by
 apply vL
 have e0:sL bt=[]:=rfl
 have e1:sL (aB " (at ")=[32,40,97,116,32]:=by decide +kernel
 have e2:sL (aB ")")=[41]:=by decide +kernel
 have e3:sL (aB " ")=[32]:=by decide +kernel
 have e4:sL (aB "(at line ")=[40,97,116,32]++sL (aB "line "):=by decide +kernel
 have e5:sL (aB "(at end of document)")=[40,97,116,32]++(sL (aB "end of document")++[41]):=by decide +kernel
 delta mX yt YK ix
 split
 ·simp only [dH,e0,e1,e2,e3,e5]
  simp
 ·simp only [dH,e0,e1,e2,e3,e4]
  dsimp [iF,iT,iG,iU,iH,iV,nT,nF,aT,aF,oT,oF];simp
end
section
open Builtin Builtin.Str StrLaws
theorem nv:∀ns:List Str,JB (eW (ns.map .str))=ns.map Le
 | []=>rfl
 | n::ns=>by
  simp only [aK,eW,toPy,JB,Mu,nv ns]
theorem Ci:∀k∈bC,(Le k).length≤5:=by decide +kernel
theorem xh{ns:List Str}(h:∀k∈ns,k∈bC):(iM (ns.map .str)).length≤7*ns.length+3:=by
 have e:iM (ns.map .str)=tupleText (ns.map Le):=by
  unfold iM
  simp only [toPy,Mu,nv]
 have h1:=vD (sep := ", ") (m:=5) (ys:=ns.map Le) fun y hy=>by
  refine az (cV.mp hy) fun k hk G7=>?_;clear hy;obtain rfl:=G7
  exact Ci k (h k hk)
 have e1:(aB ", ").length=2:=by decide +kernel
 have e2:(aB "(").length=1:=by decide +kernel
 have e3:(aB ",)").length=2:=by decide +kernel
 have e4:(aB ")").length=1:=by decide +kernel
 rw [e1,cP]at h1
 rw [e]
 unfold tupleText
 rw [aI,aI,e2]
 split
 ·exact T3 [.l .x (.m 7 .y),.e .z (.n 2)] (.l (.a (.a .o .x) .z) (.a (.m 7 .y) (.n 3))) tA h1 e3
 ·exact T3 [.l .x (.m 7 .y),.e .z .o] (.l (.a (.a .o .x) .z) (.a (.m 7 .y) (.n 3))) tA h1 e4
noncomputable def small(l:List Nat):Prop:=∀c∈l,c<256
theorem iz(h1:small a)(h2:small b):small (a++b):=fun c hc=>by
 rcases aZ.mp hc with h | h
 ·exact h1 c h
 ·exact h2 c h
theorem Ar(h:l.all (fun c=>decide (c<256))=true):small l:=fun c hc=>of_decide_eq_true (bc.mp h c hc)
theorem EB(hk:k∈bC):small (qL k):=by
 rcases uA hk with ⟨_,e⟩ | ⟨_,e⟩ | ⟨_,e⟩ <;> rw [e] <;> exact Ar rfl
theorem qT(cx:ns≠[])(jf:∀j∈ns,j∈bC):small (sL (ay n ns)):=by
 cases ns with
 | nil=>exact absurd rfl cx
 | cons k ns =>
  refine az (oY n k ns) fun l hl e=>?_
  rw [e]
  intro c h
  simp only [aq,aZ]at h
  rcases h with h | h | h | h
  ·exact T1 [.e .x (.n 91)] (.t .x (.n 256)) tA h
  ·have:=hl _ h;simp at this;exact this.elim (fun e=>e▸by decide) fun e=>e▸by decide
  ·exact EB (jf k aH) c h
  ·unfold dY at h
   refine az (uB.mp h) fun j hj h=>?_
   rcases aq.mp h with h | h
   ·exact T1 [.e .x (.n 46)] (.t .x (.n 256)) tA h
   ·exact EB (jf j (aG _ hj)) c h
theorem yu:∀n:Nat,n<102→(sL (aB (toString (n:Int)))).all (· < 256)=true:=by decide +kernel
theorem Cj:∀(phr:List (List Str)),phr.length≤101→(∀p∈phr,p≠[]∧∀k∈p,k∈bC)→small (sL (fileOf phr)):=by
 have go:∀(r:List (List Str)),r.length≤101→(∀p∈r,p≠[]∧∀k∈p,k∈bC)→small (sL (fileOf r.reverse)):=by
  intro r
  induction r with
  | nil =>
   intro _ _ c hc
   have:sL (fileOf ([]:List (List Str)).reverse)=[]:=by decide +kernel
   rw [this]at hc;cases hc
  | cons p r ih =>
   intro hl hp
   have i1:=ih (by simp at hl;(exact fJ (by assumption))) fun q hq=>hp q (aG _ hq)
   refine ao (hp p aH) fun p1 p2=>?_
   simp only [ik,lA,dH,vK]
   have d:=yu r.reverse.length (by simp at hl ⊢;(exact bH (by assumption) (by decide)))
   refine iz i1 (iz (qT p1 p2) (iz (fun c hc=>?_) (iz (fun c hc=>?_) fun c hc=>?_)))
   ·exact Ar (by decide +kernel) c hc
   ·exact of_decide_eq_true (bc.mp d c hc)
   ·simp at hc;exact T1 [.e .x (.n 10)] (.t .x (.n 256)) tA hc
 intro phr hl hp
 have:=go phr.reverse (by simpa using hl) fun p h=>hp p (mx.mp h)
 rwa [qD]at this
theorem IF:∀b∈(["]", " ]", "\n]", "", "}", "\t=]"]:List Str),(sL b).all (· < 256)=true∧(sL b).length≤3:=by decide +kernel
theorem Me(h:sL src=A++T):pG src (A.length+w)=decide (T[w]?=some 93):=by
 have e1:(aB "]")=⟨#[93]⟩:=by decide +kernel
 have e2:(sL src)[A.length+w]?=T[w]?:=by rw [h,dN (bf _ _),iX]
 unfold pG
 rw [e1,LZ,ae,decide_eq_true_eq,decide_eq_true_eq,subAt_one]
 show (sL src)[A.length+w]?=_↔_
 rw [e2]
theorem IG(h b:Str):(gH h b:Int)=(h.length:Int)+wN b+1:=by
 delta gH wN
 cases wide b <;> simp <;> rfl
theorem IH(hn:n≤101)(hh:h.length≤1000):(yt n h b).length≤2000:=by
 unfold yt
 split
 ·decide +kernel
 ·have z1:=dB (a:=2*(n:Int)+1) (n:=203) (by exact T1 [.l .x (.n 101)] (.l (.a (.m 2 .x) .o) (.n 203)) tA hn)
  have yC:gH h b≤1002:=vB hh
  have z2:=dB (a:=(gH h b:Int)) (n:=1002) (by assumption)
  have z3:(aB "line ").length=5:=by decide +kernel
  have z4:(aB ", column ").length=9:=by decide +kernel
  have z6:bt.length=0:=rfl
  unfold ix
  simp only [aI]
  exact T5 [.l .x (.a (.n 203) (.n 2)),.l .y (.a (.n 1002) (.n 2)),.e .z (.n 5),.e .w (.n 9),.e .s (.n 0)] (.l (.a (.a (.a (.a .s .z) .x) .w) .y) (.n 2000)) tA z1 z2 z3 z4 z6
theorem Fh(g:Sg B S W){phr:List (List Str)}{ns:List Str}{b:Str}(hl:phr.length≤101)(hp:∀p∈phr,p≠[]∧∀k∈p,k∈bC)(cx:ns≠[])(hn:ns.length≤101)(jf:∀j∈ns,j∈bC)
  (hb:b∈(["]", " ]", "\n]", "", "}", "\t=]"]:List Str)) (Xa:(fileOf phr).length≤2 ^ 19) :
  Header B S W (fileOf phr++ay phr.length ns++b) (fileOf phr).length ns ((fileOf phr).length+(ay phr.length ns).length+wN b) (yt phr.length (ay phr.length ns) b):=by
 have wO:=jt (k:=phr.length) (ns:=ns)
 have hT:=E6 g hb
 refine ao (IF b hb) fun s1 s2=>?_
 have bl:b.length≤3:=by rw [← eK];exact s2
 have hlen:(fileOf phr++ay phr.length ns++b).length=(fileOf phr).length+(ay phr.length ns).length+b.length:=by rw [aI,aI]
 have nV:1≤(ay phr.length ns).length:=by
  refine Gh (gi cx) fun k r G7=>?_;clear cx hn jf wO hlen;obtain rfl:=G7
  refine az (oY phr.length k r) fun l _ e=>?_
  rw [← eK,e];simp
 have hw:wN b≤b.length:=by rw [← eK];exact hT.le
 refine ⟨by exact T5 [.l .x (.n 101),.l .y (.n 524288),.l .z (.a (.n 3) (.m 6 .x)),.l .w (.n 3),.e .s (.a (.a .y .z) .w)] (.l .s (.n 1048576)) tA hn Xa wO bl hlen,by exact T4 [.e .x (.a (.a .y .z) .w),.l .o .z] (.t .y .x) tA hlen nV,?_,by (exact aJ (by assumption) (by decide)),fun p c hc=>?_,by exact T5 [.e .x (.a (.a .y .z) .w),.l .s .w] (.l (.a (.a .y .z) .s) .x) tA hlen hw,Fg hl hp cx jf hb,?_,jf,?_⟩
 ·refine Gh (gi cx) fun k r G7=>?_;clear cx hn wO hlen nV;obtain rfl:=G7
  refine eZ (vJ (n:=phr.length) (file:=fileOf phr) (b:=b) g jf hT) fun j h1 h2 h3=>?_
  exact (js k r j rfl h1 h2 h3)
 ·have hm:c∈sL (fileOf phr++ay phr.length ns++b):=by
   have:=oI hc
   simpa [sL]using this
  rw [dH,dH]at hm
  have:=iz (iz (Cj phr hl hp) (qT (n:=phr.length) cx jf)) (fun c hc=>of_decide_eq_true (bc.mp s1 c hc)) c hm
  show jw ⟨#[c]⟩=true
  unfold jw
  simp;(exact bD (by assumption) (by decide))
 ·have:=IH (n:=phr.length) (h:=ay phr.length ns) (b:=b) hl (T2 [.l .x (.n 101),.l .y (.a (.n 3) (.m 6 .x))] (.l .y (.n 1000)) tA hn wO);(exact aJ (by assumption) (by decide))
 ·have:=xh jf;exact T2 [.l .x (.n 101),.l .y (.a (.m 7 .x) (.n 3))] (.l .y (.n 1048576)) tA hn this
end
section
open Builtin Builtin.Str StrLaws
theorem Fi(ns:List Str)(n:Nat)(h b:Str):bt ++ "Cannot declare "++iM (ns.map .str) ++ " twice "++YK n h b=mX (lO ns) (yt n h b):=by
 rw [Aq]
 apply vL
 have e0:sL bt=[]:=rfl
 have e1:sL (aB " twice ")=sL (aB " twice")++[32]:=by decide +kernel
 have e3:sL (aB " ")=[32]:=by decide +kernel
 unfold lO
 simp only [dH,e0,e1,e3]
 simp
theorem Fj(n:Nat)(h b:Str):bt ++ "Expected ']' at the end of a table declaration "++YK n h b=mX yY (yt n h b):=by
 rw [Aq]
 apply vL
 have e0:sL bt=[]:=rfl
 have e1:sL (aB "Expected ']' at the end of a table declaration ")=sL (aB "Expected ']' at the end of a table declaration")++[32]:=by decide +kernel
 have e3:sL (aB " ")=[32]:=by decide +kernel
 unfold yY
 simp only [dH,e0,e1,e3]
 rfl
theorem II(g:Sg B S W):rI B S W:=fun phr ns b hl hp cx hn jf hb Xa=>by
 refine (jq _ _ (Fh g hl hp cx hn jf hb Xa) (fun D hD=>?_))
 have Uq:pG (fileOf phr++ay phr.length ns++b) ((fileOf phr).length+(ay phr.length ns).length+wN b)=closed b:=by
  have hs:sL (fileOf phr++ay phr.length ns++b)=(sL (fileOf phr)++sL (ay phr.length ns))++sL b:=by rw [dH,dH]
  have:=Me (w:=wN b) hs
  rw [bh,eK,eK]at this
  rw [this,(E9 b hb).1]
 delta Hw iO
 rw [Uq]
 by_cases hm:ns∈phr
 ·rw [if_pos hm,if_pos ((hD ns).mpr hm),Fi]
 ·rw [if_neg hm,if_neg (fun h=>hm ((hD ns).mp h))]
  by_cases hc:closed b=true
  ·rw [if_pos hc,if_pos hc]
   have:((fileOf phr).length:Int)+(gH (ay phr.length ns) b:Int)=(((fileOf phr).length+(ay phr.length ns).length+wN b:Nat):Int)+1:=by
    rw [IG];exact congrArg BS (T3 [] (.e (.a .x (.a (.a .y .z) .o)) (.a (.a (.a .x .y) .z) .o)) tA)
   rw [this]
  ·rw [if_neg hc,if_neg hc,Fj]
theorem IJ(g:Sg B S W):nu B S W:=fun i ns hi cx hn jf=>by
 have hb:("]" : Str)∈(["]", " ]", "\n]", "", "}", "\t=]"]:List Str):=by decide
 have hT:=E6 g hb
 have hw:wN "]" = 0:=by decide +kernel
 have tB:sL (aB "]")=[93]:=by decide +kernel
 have bl:(aB "]").length=1:=by decide +kernel
 have wO:=jt (k:=i) (ns:=ns)
 have Bz:=yr (n:=i) cx jf
 have Xb:=qT (n:=i) cx jf
 have es:("" : Str)++ay i ns ++ "]" = ay i ns ++ "]":=by
  apply vL
  have:sL (aB "")=[]:=by decide +kernel
  simp only [dH,dH,this,dH];simp
 have e0:(aB "").length=0:=by decide +kernel
 have nV:1≤(ay i ns).length:=by
  refine Gh (gi cx) fun k r G7=>?_;clear cx hn jf wO Bz Xb es;obtain rfl:=G7
  refine az (oY i k r) fun l _ e=>?_
  rw [← eK,e];simp
 have hlen:(ay i ns ++ "]").length=(ay i ns).length+1:=by rw [aI,bl]
 have hs:sL (ay i ns ++ "]")=sL (ay i ns)++[93]:=by rw [dH,tB]
 refine (cB (ix 1 (((ay i ns).length:Int)+1)) ⟨by exact T3 [.l .x (.n 101),.l .y (.a (.n 3) (.m 6 .x)),.e .z (.a .y .o)] (.l .z (.n 1048576)) tA hn wO hlen,by exact T2 [.e .x (.a .y .o)] (.t (.n 0) .x) tA hlen,?_,by (exact aJ (by assumption) (by decide)),fun p c hc=>?_,by exact T2 [.e .x (.a .y .o)] (.l .y .x) tA hlen,?_,?_,jf,?_⟩ ?_ ?_)
 ·refine Gh (gi cx) fun k r G7=>?_;clear cx hn wO Bz Xb nV hlen hs;obtain rfl:=G7
  refine eZ (vJ (n:=i) (file := "") (b := "]") g jf hT) fun j h1 h2 h3=>?_
  rw [es,e0,hw]at h3
  rw [es]at h1 h2
  rw [e0]at h1
  rw [eQ,oH]at h3
  exact (js k r j rfl h1 h2 h3)
 ·have hm:c∈sL (ay i ns ++ "]"):=by
   have:=oI hc
   simpa [sL]using this
  rw [hs]at hm
  have:c<256:=iz Xb (fun c hc=>by simp at hc;exact T1 [.e .x (.n 93)] (.t .x (.n 256)) tA hc) c hm
  show jw ⟨#[c]⟩=true
  unfold jw
  simp;(exact bj (by assumption) (by decide))
 ·refine .first (dP (Eq.symm (by assumption))) ?_
  have Sk:nl=⟨#[10]⟩:=by decide +kernel
  have ht:(sL (ay i ns ++ "]")).take (ay i ns).length=sL (ay i ns):=by
   simp only [hs,← eK (ay i ns),xv]
  rw [Sk,xg (aJ (bf _ 1) (dP hlen.symm)),ht]
  exact iI.mpr Bz
 ·have z1:=dB (a:=(1:Int)) (n:=1) (bA _)
  have z2:=dB (a:=((ay i ns).length:Int)+1) (n:=1000) (by exact T2 [.l .x (.n 101),.l .y (.a (.n 3) (.m 6 .x))] (.l (.a .y .o) (.n 1000)) tA hn wO)
  have z3:(aB "line ").length=5:=by decide +kernel
  have z4:(aB ", column ").length=9:=by decide +kernel
  have z6:bt.length=0:=rfl
  unfold ix
  simp only [aI]
  exact T5 [.l .x (.a .o (.n 2)),.l .y (.a (.n 1000) (.n 2)),.e .z (.n 5),.e .w (.n 9),.e .s (.n 0)] (.l (.a (.a (.a (.a .s .z) .x) .w) .y) (.n 4194304)) tA z1 z2 z3 z4 z6
 ·have:=xh jf;exact T2 [.l .x (.n 101),.l .y (.a (.m 7 .x) (.n 3))] (.l .y (.n 1048576)) tA hn this
 ·have:=Me (w:=0) hs
  rw [eK,oH]at this
  rw [this];rfl
 ·apply vL
  have f0:sL bt=[]:=rfl
  have f1:sL (aB " twice (at line 1, column ")=sL (aB " twice")++(sL (aB " (at ")++(sL (aB "line ")++(sL (aB (toString (1:Int)))++sL (aB ", column ")))):=by decide +kernel
  have f2:(((ay i ns ++ "]").length:Nat):Int)=((ay i ns).length:Int)+1:=by rw [hlen];rfl
  rw [f2]
  delta mX lO ix
  simp only [dH,f0,f1]
  simp
end
section
noncomputable def kF(h:Heap)(a:Addr):Heap:=h.update a fun o=>{ o with data:=.freed }
theorem vM(h:Heap)(a:Addr):(kF h a).get? a=none:=by
 obtain ⟨objs,l⟩:=h
 unfold kF
 simp only [vh,YD,jB,if_true]
 cases objs[a]? with
 | none=>rfl
 | some o=>rfl
theorem kG(hb:b≠a):(kF h a).get? b=h.get? b:=cL _ _ (aN hb)
theorem rL(e:(kF h a).get? b=some o):h.get? b=some o∧b≠a:=by
 by_cases q:b=a
 ·subst q;rw [vM]at e;contradiction
 ·exact ⟨(kG q).symm.trans e,q⟩
theorem vN(hn:h.Ns b m)(hb:b≠a):(kF h a).Ns b m :=
 let ⟨o,es,ep,e,r⟩:=hn;(Oy o es ep ((kG hb).trans e) r)
theorem Kw{prog:Program}{w:World}{A:eh}{s:Shared}{K:vb}{fa tb:Addr}{fo:Obj}{fd:kh}{body:List Stmt}{args:List CV}{pn:List Str}{dep:Nat}{us:List Value}{cq:Str}{cp:Pos}
  (hK:K.In (kF s.heap tb)) (hg:s.heap.Ns bM mg) (hbn:s.heap.Ns eM mb) (Ko:s.heap.NoLimit) (Sl:∀x:Str,x ≠ "__name__"→mb x=iB x) (hh:A.handled=none) (P6:A.guards=some []) (hu:A.units+10*(dep+1)+200<qp) (Zm:A.depth+3*(dep+1)+20<sY) (hf:A.frames=some [])
  (ht:s.heap.get? tb=some ⟨.none,.none,.fields #[],#[]⟩) (ht1:fX<tb) (Zn:cStatics≠tb) (Zo:bM≠tb) (Zp:eM≠tb)
  (Bb:∃b o,fX<b∧(kF s.heap tb).get? b=some o) (Bg:s.heap.get? fa=some fo) (Dc:fo.data=.func fd) (r6:s.heap.CodeRec fd.code fd.qualname) (Sm:fd.body=.stmts body) (Xc:fd.closure=[]) (Xd:fd.globals=bM) (Xe:fd.builtins=eM) (PH:fd.scope.isCoroutine=false) (Xf:fd.scope.isGenerator=false) (Xg:fd.scope.kind=.function)
  (hb:wc fd ⟨us,[]⟩=pure (pn.zip us)) (r5:(pn.all fun x=>cg (fd.scope.names.lookup x))=true) (hnd:pn.Nodup) (jF:(fd.scope.names.all fun x=>x.2 != .free)=true) (JJ:((fd.scope.names.filter fun x=>x.2 == .cell).map (·.1)).Nodup)
  (rr:ck (fun a=>(kF s.heap tb).get? a) args us)
  (h:∀C':Cx,C'.Ok dep→C'.base=kF s.heap tb→C'.K=K→C'.mg=mg→C'.mb=mb→C'.prog=prog→C'.w=w→C'.tb=tb→C'.env.scope=fd.scope →
   ag C' body ⟨fun x=>(pn.zip args).lookup x,fun a=>if a=tb then some (.fu cq cp)else none⟩ (fun f aj=>f.val=.bool true∧aj.H C'.tb=some (.fu cq cp)) (fun _ _=>False)) :
  gq (aS prog w) A (.call (.ref fa) ⟨us,[]⟩) (fun r s'=>r=.ok (.ret (.bool true))∧(∀b o,b≠tb→s.heap.get? b=some o→s'.heap.get? b=some o)∧(∃ps,s'.heap.get? tb=some ⟨.none,.none,.fields ps,#[]⟩)∧∃h tk dr,s'={ s with heap:=h,toks:=tk,drawn:=dr }) s:=by
 refine JM (A:=A) (T3 [.t (.a (.a .x (.m 3 (.a .y .o))) (.n 20)) .z] (.t .x .z) tA Zm) Bg Dc PH Xf Sm r6 ?_
 rw [hb]
 refine aC ?_
 rw [Xc,Xd,Xe]
 refine DC Xg (fun x hx=>?_) fun eG he bO x=>?_
 ·have hm:x.1∈pn:=by
   have:=gy (f:=EJ) hx
   exact (jE _ _).subset this
  have:=bc.mp r5 _ hm
  cases q:fd.scope.names.lookup x.1 with
  | none=>rw [q]at this;exact aD this
  | some k =>
   rw [q]at this
   cases k <;> first | exact .inl rfl | (cases this;done) | skip
   exact .inr ⟨rfl,jY _ _ _ (.inl q)⟩
 refine Gh x.toInCall.same fun fz zx je=>?_
 have keep:=x.toInCall.keep
 have hL:eG.locals=s.heap.objs.size:=by rw [he];rfl
 have yC:eG.cells=Th (s.heap.objs.size+1) fd.scope.names []:=by rw [he];rfl
 have qI:eG.scope=fd.scope:=by rw [he];rfl
 have xF:eG.frame=some eG.locals:=by rw [he];rfl
 have Vb:eG.globals=bM:=by rw [he];rfl
 have Vc:eG.builtins=eM:=by rw [he];rfl
 have Bf:∀y,eG.kindOf y=fd.scope.names.lookup y:=fun y=>by unfold eB;rw [qI]
 have LM:∀a,s.heap.objs.size≤a→s.heap.get? a=none:=fun a ha=>by
  cases q:s.heap.get? a with
  | none=>rfl
  | some o=>exact absurd (av q) (ei.mpr ha)
 have Us:∀a,s.heap.get? a=none→(kF s.heap tb).get? a=none:=fun a ha=>by
  cases q:(kF s.heap tb).get? a with
  | none=>rfl
  | some o=>rw [(rL q).1]at ha;contradiction
 have Dd:s.heap.get? eG.locals=none:=by rw [hL];exact LM _ (bX _)
 let C':Cx:={ prog:=prog,w:=w,A:=A.deeper eG,env:=eG,base:=kF s.heap tb,outer:=[],K:=K,mg:=mg,mb:=mb,KF:=fun _=>none,s0:=s,tb:=tb }
 let I:IM:=fun a=>(kF s.heap tb).get? a
 have A1:∀a,C'.Own a→s.heap.get? a=none:=by
  rintro a (rfl | ⟨y,hy,hl⟩)
  ·exact Dd
  ·have:=x.above y a (mem_of_lookup hl)
   rw [hL]at this;exact LM a (cF this)
 have apart:=x.apart
 have j9:C'.Ok dep:=by
  refine ⟨⟨by show eG.scope.kind=_;rw [qI];exact Xg,Vb,Vc,hK,vN hg Zo,vN hbn Zp,?_,Sl,?_,?_,fun y z c hy hz h1 h2=>?_,fun y hy h1=>?_,Us _ Dd,?_,fun a o e=>(by contradiction),fun b o q=>?_,?_,?_⟩,hh⟩
  ·refine az Ko fun mc a b=>?_
   exact (aw mc (vN a Zn) b)
  ·show A.units+3+_+200<qp
   exact T3 [.t (.a (.a .x (.m 10 (.a .y .o))) (.n 200)) .z] (.t (.a (.a (.a .x (.n 3)) (.m 10 .y)) (.n 200)) .z) tA hu
  ·show A.depth+1+_+20<sY
   exact T3 [.t (.a (.a .x (.m 3 (.a .y .o))) (.n 20)) .z] (.t (.a (.a (.a .x .o) (.m 3 .y)) (.n 20)) .z) tA Zm
  ·exact name_of_addr apart (mem_of_lookup h1) (mem_of_lookup h2)
  ·have:=x.above y _ (mem_of_lookup h1)
   exact absurd this (eR _)
  ·refine (dK eG ([]) (jQ hf) rfl (fun e' A3=>?_))
   rcases aq.mp A3 with rfl | A3
   ·exact (lb (by rw [qI,Xg];decide) (cB _ xF (Us _ Dd) (.inl rfl)))
   ·cases A3
  ·show b<eG.locals
   rw [hL];exact av (rL q).1
  ·exact P6
  ·show tb<eG.locals
   rw [hL];exact av ht
 have S':SR C' (fun _=>none) I ⟨fun x=>(pn.zip args).lookup x,fun a=>if a=tb then some (.fu cq cp)else none⟩ bO:=by
  refine ⟨fun a o e=>(by contradiction),⟨Bb,fun a c e=>?_⟩,(y9 fz zx s.drawn (by rw [je])),fun b o e=>e,fun a o e=>keep a o (rL e).1,fun a o e=>(by contradiction),fun a ha=>(d9 (Us _ (A1 a ha)) rfl ?_),fun a c e=>?_,?_⟩
  ·change (if a=tb then some (CO.fu cq cp)else bw)=some c at e
   split at e
   ·rename_i q;clear hK ht Zn Zo Zp Bb rr h Us A1 j9;subst q;exact ⟨ht1,fun _=>rfl⟩
   ·contradiction
  ·show (if a=tb then some (CO.fu cq cp)else bw)=bw
   rw [if_neg fun q=>by have:=A1 a ha;rw [q,ht]at this;contradiction]
  ·change (if a=tb then some (CO.fu cq cp)else bw)=some c at e
   split at e
   ·rename_i q;subst q;obtain rfl:=aE e
    exact (d9 (vM _ _) rfl (aw _ (keep _ _ ht) ⟨#[],rfl,.inl rfl⟩))
   ·contradiction
  have QL:((pn.zip us).map (·.1)).Nodup:=(jE _ _).nodup hnd
  refine ⟨(aw _ x.toInCall.ns (fun y v hy iJ=>?_)),fun y v hy iJ=>?_,fun y v hy iJ=>?_,fun y iJ=>?_⟩
  ·refine az (jx rr hy) fun u h1 h2=>?_
   exact (aw u (uP _ y u iJ _ _ QL h1) h2)
  ·refine az (jx rr hy) fun u h1 h2=>?_
   obtain ⟨c,hc⟩:∃c,eG.cells.lookup y=some c:=by
    rw [yC];exact aY.mp (jY _ _ _ (.inl ((Bf y).symm.trans iJ)))
   refine (dK c u hc ?_ h2)
   have Ve:=x.cell y c hc
   rwa [uQ _ y u (by rw [iJ];decide) _ _ QL h1]at Ve
  ·exfalso
   change eG.kindOf y=_ at iJ
   rw [Bf y]at iJ
   have:=bc.mp jF (y,.free) (mem_of_lookup iJ)
   simp at this
  ·obtain ⟨c,hc⟩:∃c,eG.cells.lookup y=some c:=by
    rw [yC];exact aY.mp (jY _ _ _ (.inl ((Bf y).symm.trans iJ)))
   exact (jq c _ hc (x.cell y c hc))
 refine ⟨Ko.keeps keep,?_⟩
 refine codeAny_func ?_
 refine aM (h C' j9 rfl rfl rfl rfl rfl rfl rfl qI I _ bO S') (fun f s2 R2=>dC R2 fun J cJ l2 S2 hZ=>eZ hZ fun b rW q2 q3=>?_) fun e s2 R3=>jr R3 fun _ _ _ _ _ _ hF=>hF.elim
 refine (ql ?_ (fun b o hb e=>S2.de b o (S2.base b o ((kG hb).trans e))) ?_ S2.same)
 ·cases b with
  | next=>contradiction
  | brk=>contradiction
  | cont=>contradiction
  | ret c =>
   refine az rW fun u G8 r=>?_;clear R2;obtain rfl:=G8
   have:c=.bool true:=q2
   clear q2 rW;subst this
   rw [r]
 ·refine dO (S2.mu _ _ q3) fun _ _ R9=>?_;obtain ⟨o,ho,ps,e,_⟩:=R9
  exact (dA ps (e▸ho))
end
section
structure dg where
 es:Array (Int×Value)
 n:Nat
 t:fS
structure qo where
 add:Data→Int→Str→qC→dg
 goodAdd:Data→Int→Str→Prop
 bin:Bool→Addr→Data→Data→dg
 goodBin:Bool→Data→Data→Prop
noncomputable def dg.data(d:dg):Data:=.set d.es d.n d.t
noncomputable def Obj.mh(o:Obj)(d:dg):Obj:={ o with data:=d.data }
noncomputable def gT(d:dg):Obj:={ cls:=.type "frozenset",data:=d.data }
inductive Kx where
 | loop (a:Addr) (it:Value)
 | bin (j0:Bool) (a b:Addr)
noncomputable def Ck(id:String)(a:Addr)(v:Value):Option Kx :=
 if id == "set.update.loop" then some (.loop a v)else match v with
  | .ref b=>if id == "frozenset.__or__" then some (.bin true a b)else if id == "frozenset.__sub__" then some (.bin false a b)else none
  | _=>none
noncomputable def IK(c:Code):Option Kx:=match c with
 | .builtin id ⟨[.ref a,v],[]⟩=>Ck id a v
 | _=>none
noncomputable def EC(s:bT)(a:Addr):Option (Option Obj):=match UA a s.n with
 | true=>match s.tree.get a with
  | some o=>some (alive o)
  | none=>none
 | false=>some none
theorem iQ{s:bT}{a:Addr}{r:Option Obj}(h:EC s a=some r):s.abs.heap.get? a=r:=by
 unfold EC at h
 cases hb:UA a s.n with
 | true =>
  rw [hb]at h
  dsimp only at h
  cases ht:s.tree.get a with
  | none=>rw [ht]at h;contradiction
  | some o=>rw [ht]at h;cases h;exact abs_get (YL.mp hb) ht
 | false =>
  rw [hb]at h
  obtain rfl:=aE h
  exact abs_get_none fun q=>by rw [YL.mpr q]at hb;exact aD hb
noncomputable def Sn(s:bT)(a:Addr)(f:Obj→Obj):Option bT:=match EC s a with
 | some (some _)=>some { s with tree:=s.tree.set a f }
 | _=>none
theorem nx{s s':bT}{a:Addr}{f:Obj→Obj}(h:Sn s a f=some s'):(s.abs.heap.get? a).isSome=true∧s'.abs={ s.abs with heap:=s.abs.heap.update a f }:=by
 unfold Sn at h
 cases hl:EC s a with
 | none=>rw [hl]at h;contradiction
 | some r =>
  cases r with
  | none=>rw [hl]at h;contradiction
  | some o =>
   rw [hl]at h
   obtain rfl:=aE h
   refine ⟨by rw [iQ hl];rfl,?_⟩
   unfold EC at hl
   cases hb:UA a s.n with
   | false=>rw [hb]at hl;cases hl
   | true =>
    rw [hb]at hl
    dsimp only at hl
    cases ht:s.tree.get a with
    | none=>rw [ht]at hl;contradiction
    | some o' =>
     show (⟨absHeap (s.tree.set a f) s.n s.life,_,_,_,_⟩:Shared)=_
     rw [absHeap_set ht];rfl
noncomputable def Cm(s:bT)(o:Obj):Option bT:=match ((s.tree.ins s.n o).get s.n).isSome with
 | true=>some { s with tree:=s.tree.ins s.n o,n:=s.n+1 }
 | false=>none
theorem mG{s s':bT}{o:Obj}(h:Cm s o=some s'):s'.abs={ s.abs with heap:=s.abs.heap.push o }∧s.abs.heap.objs.size=s.n:=by
 refine ⟨?_,absHeap_size _ _ _⟩
 unfold Cm at h
 cases hb:((s.tree.ins s.n o).get s.n).isSome with
 | false=>rw [hb]at h;contradiction
 | true =>
  rw [hb]at h
  obtain rfl:=aE h
  show (⟨absHeap (s.tree.ins s.n o) (s.n+1) s.life,_,_,_,_⟩:Shared)=_
  rw [absHeap_ins hb];rfl
noncomputable def bT.setGen(s:bT)(g:Nat)(x:YI):bT:={ s with gens:=s.gens.setIfInBounds g x }
noncomputable def b1{α β:Type}(x:Option α)(f:α→Option β):Option β:=match x with
 | some a=>f a
 | none=>none
noncomputable def b2{α β:Type}(x:Option (Option α))(f:α→Option β):Option β:=match x with
 | some (some a)=>f a
 | _=>none
noncomputable def bq{β:Type}(b:Bool)(x:Option β):Option β:=match b with
 | true=>x
 | false=>none
theorem gZ{α β:Type}{x:Option α}{f:α→Option β}{r:β}{P:Prop}(h:b1 x f=some r)(k:∀a,x=some a→f a=some r→P):P:=match x,k,h with
 | some a,k,h=>k a rfl h
theorem As{α β:Type}{x:Option (Option α)}{f:α→Option β}{r:β}{P:Prop}(h:b2 x f=some r)(k:∀a,x=some (some a)→f a=some r→P):P:=match x,k,h with
 | some (some a),k,h=>k a rfl h
theorem Au{β:Type}{b:Bool}{x:Option β}{r:β}{P:Prop}(h:bq b x=some r)(k:b=true→x=some r→P):P:=match b,k,h with
 | true,k,h=>k rfl h
noncomputable def wU(M:nN):Nat→Lg→Pos→xq eP→List Frame→bT→Option (End×bT)
 | 0,_,_,_,_,_=>none
 | n+1,Γ,p,t,fs,s=>match fs with
  | []=>match t with
   | .pure (.done f)=>some (.ret (.ok f),s)
   | .pure (.again c)=>bq c.quiet (wU M n (Γ.goto c) p (M.den c) [] s)
   | .raise e=>some (.ret (.error e),s)
   | .rule _ k=>wU M n Γ p (k ()) [] s
   | .at p' k=>wU M n Γ p' (k ()) [] s
   | .load a _ k=>b2 (EC s a) fun o=>wU M n Γ p (k o) [] s
   | .update a _ f k=>b1 (Sn s a f) fun s'=>wU M n Γ p (k ()) [] s'
   | .loadIfAlive a k=>b1 (EC s a) fun r=>wU M n Γ p (k r) [] s
   | .point _ k=>wU M n Γ p (k ()) [] s
   | .alloc o k=>b1 (Cm s o) fun s'=>wU M n Γ p (k s.n) [] s'
   | .fresh k=>wU M n Γ p (k s.toks) [] { s with toks:=s.toks+1 }
   | .ask k=>wU M n Γ p (k ⟨M.prog,M.w.params⟩) [] s
   | .handled own k=>wU M n Γ p (k (if own then Γ.own else Γ.handled)) [] s
   | .genState g k=>b1 s.gens[g]? fun st=>wU M n Γ p (k st.seen) [] s
   | .stack k=>wU M n Γ p (k ((Γ.code,p)::Γ.below)) [] s
   | .thread k=>wU M n Γ p (k 0) [] s
   | .call c h g l k=>b1 (wU M n (Γ.enter c h p) p (M.den c) [] s) fun x=>match x.1 with
    | .ret r=>wU M n Γ p (k r) [] x.2
    | .susp v IL Fl yv c₀ yw Av=>some (.susp v IL Fl yv c₀ yw (Av++[.ret k h g l Γ.code p []]),x.2)
   | .yield v g l k=>some (.susp v g l k Γ.code p [],s)
   | _=>none
  | .ret k h g l c₁ lP kp::PK=>b1 (wU M n (Γ.over (.ret k h g l c₁ lP kp::PK)) p t [] s) fun x=>match x.1 with
   | .ret r=>wU M n (Γ.goto c₁) lP (k r) PK x.2
   | .susp v IL Fl yv c₀ yw Av=>bq (Oi (.ret k h g l c₁ lP kp::PK)).isNone (some (.susp v IL Fl yv c₀ yw (Av++.ret k h g l c₁ lP kp::PK),x.2))
  | .gen .. :: _=>none
theorem xi{M:nN}:∀{n:Nat} {Γ:Lg} {p:Pos} {t:xq eP} {fs:List Frame} {s s':bT} {e:End},wU M n Γ p t fs s=some (e,s')→Runs M Γ p t fs s.abs e s'.abs:=by
 intro n
 induction n with
 | zero=>intro Γ p t fs s s' e h;contradiction
 | succ n ih =>
  intro Γ p t fs s s' e h
  cases fs with
  | nil =>
   cases t with
   | pure fin =>
    cases fin with
    | done f=>cases h;exact .done
    | again c=>exact Au h fun hq h=>.again hq (ih h)
   | raise x=>cases h;exact .raise
   | rule tag k=>exact .rule (ih h)
   | «at» p' k=>exact .at (ih h)
   | load a part k=>exact As h fun o ho h=>.load (iQ ho) (ih h)
   | update a part f k=>exact gZ h fun bO ho h=>.update (nx ho).1 ((nx ho).2▸ih h)
   | loadIfAlive a k=>exact gZ h fun r ho h=>.loadIfAlive ((iQ ho).symm▸ih h)
   | point l k=>exact .point (ih h)
   | alloc o k=>exact gZ h fun bO ho h=>.alloc ((mG ho).2.symm▸(mG ho).1▸ih h)
   | fresh k=>exact .fresh (ih h)
   | ask k=>exact .ask (ih h)
   | handled own k=>exact .handled (ih h)
   | genState g k=>exact gZ h fun o ho h=>.genState ho (ih h)
   | stack k=>exact .stack (ih h)
   | thread k=>exact .thread (ih h)
   | call c hd g l k =>
    refine gZ h fun x hc h=>?_
    obtain ⟨OC,bO⟩:=x
    cases OC with
    | ret r=>exact .call (ih hc) (ih h)
    | susp v IL Fl yv c₀ yw Av=>cases h;exact .callSusp (ih hc)
   | yield v g l k=>cases h;exact .yield
   | _=>contradiction
  | cons F PK =>
   cases F with
   | gen=>contradiction
   | ret k hd g l c₁ lP kp =>
    refine gZ h fun x hc h=>?_
    obtain ⟨OC,bO⟩:=x
    cases OC with
    | ret r=>exact .segRet (ih hc) (ih h)
    | susp v IL Fl yv c₀ yw Av=>exact Au h fun hs h=>by cases h;exact .segSuspOut (Option.isNone_iff_eq_none.mp hs) (ih hc)
noncomputable def Xh(M:nN)(n:Nat)(Γ:Lg)(p:Pos)(g:Nat)(r:Resume)(s:bT):Option (GenResult×bT):=match s.gens[g]? with
 | some (.fresh c)=>match r with
  | .send .none=>b1 (wU M n (Γ.wake c p) p (M.den c) [] (bT.setGen s g .running)) fun x=>bq x.1.quiet (some (x.1.result,bT.setGen x.2 g x.1.genState))
  | _=>none
 | some (.suspended yv _ c₀ yw fs _)=>b1 (wU M n (Γ.wake c₀ p) yw (yv r) fs (bT.setGen s g .running)) fun x=>bq x.1.quiet (some (x.1.result,bT.setGen x.2 g x.1.genState))
 | _=>none
theorem Fm{M:nN}{n:Nat}{Γ:Lg}{p:Pos}{g:Nat}{r:Resume}{s s':bT}{res:GenResult}(h:Xh M n Γ p g r s=some (res,s')):Wakes M Γ p g r s.abs res s'.abs:=by
 delta Xh at h
 delta Wakes
 show (match s.gens[g]? with | none=>False | some (.fresh c)=>_ | some (.suspended yv _ c₀ yw fs _)=>_ | some .running=>_ | some .finished=>_)
 cases hg:s.gens[g]? with
 | none=>rw [hg]at h;contradiction
 | some gs =>
  rw [hg]at h
  cases gs with
  | fresh c =>
   cases r with
   | throw x=>contradiction
   | send v =>
    cases v <;> first | (contradiction;done) | skip
    exact gZ h fun x he h=>Au h fun hq h=>by cases h;exact (EX x.1 x.2.abs (xi he) hq rfl rfl)
  | suspended yv Fl c₀ yw fs cl=>exact gZ h fun x he h=>Au h fun hq h=>by cases h;exact (EX x.1 x.2.abs (xi he) hq rfl rfl)
  | _=>contradiction
end
section
noncomputable abbrev Out(α:Type):=Option (Except Value α×Pos×bT×List Prop)
noncomputable def Zq{β:Type}(x:Option Kx)(f:Addr→Value→β)(g:Bool→Addr→Addr→β)(z:β):β:=match x with
 | some (.loop a it)=>f a it
 | some (.bin o a b)=>g o a b
 | none=>z
theorem OD{β:Type}{x:Option Kx}{f:Addr→Value→β}{g:Bool→Addr→Addr→β}{z r:β}{P:Prop}(h:Zq x f g z=r)(k1:∀a it,x=some (.loop a it)→f a it=r→P)(k2:∀o a b,x=some (.bin o a b)→g o a b=r→P)(k3:x=none→z=r→P):P:=match x,k1,k2,k3,h with
 | some (.loop a it),k1,_,_,h=>k1 a it rfl h
 | some (.bin o a b),_,k2,_,h=>k2 o a b rfl h
 | none,_,_,k3,h=>k3 rfl h
mutual
noncomputable def vp(M:nN)(F:qo):Nat→(α:Type)→Lg→Pos→xq α→bT→Out α
 | 0,_,_,_,_,_=>none
 | n+1,α,Γ,p,t,s=>match t with
  | .pure a=>some (.ok a,p,s,[])
  | .raise e=>some (.error e,p,s,[])
  | .rule _ k=>vp M F n α Γ p (k ()) s
  | .at p' k=>vp M F n α Γ p' (k ()) s
  | .load a _ k=>b2 (EC s a) fun o=>vp M F n α Γ p (k o) s
  | .update a _ f k=>b1 (Sn s a f) fun s'=>vp M F n α Γ p (k ()) s'
  | .loadIfAlive a k=>b1 (EC s a) fun r=>vp M F n α Γ p (k r) s
  | .point _ k=>vp M F n α Γ p (k ()) s
  | .alloc o k=>b1 (Cm s o) fun s'=>vp M F n α Γ p (k s.n) s'
  | .fresh k=>vp M F n α Γ p (k s.toks) { s with toks:=s.toks+1 }
  | .ask k=>vp M F n α Γ p (k ⟨M.prog,M.w.params⟩) s
  | .handled own k=>vp M F n α Γ p (k (if own then Γ.own else Γ.handled)) s
  | .genState g k=>b1 s.gens[g]? fun st=>vp M F n α Γ p (k st.seen) s
  | .newGen c k=>vp M F n α Γ p (k s.gens.size) { s with gens:=s.gens.push (.fresh c) }
  | .resume g r _ k=>b1 (Xh M n Γ p g r s) fun x=>vp M F n α Γ p (k x.1) x.2
  | .stack k=>vp M F n α Γ p (k ((Γ.code,p)::Γ.below)) s
  | .thread k=>vp M F n α Γ p (k 0) s
  | .call c h _ _ k=>b1 (Xi M F n (Γ.enter c h p) p s) fun y=>b1 (vp M F n α Γ p (k y.1) y.2.1) fun z=>some (z.1,z.2.1,z.2.2.1,y.2.2++z.2.2.2)
  | _=>none
noncomputable def Xi(M:nN)(F:qo):Nat→Lg→Pos→bT→Option (Result×bT×List Prop)
 | 0,_,_,_=>none
 | n+1,Γ,p,s=>Zq (IK Γ.code) (fun a it=>Xj M F n Γ p a it s)
   (fun j0 a b=>b2 (EC s a) fun o=>b2 (EC s b) fun o'=>b1 (Cm s (gT (F.bin j0 b o.data o'.data))) fun s'=>some (.ok (.ret (.ref s.n)),s',[o.cls=.type "frozenset",o'.cls=.type "frozenset",F.goodBin j0 o.data o'.data]))
   (b1 (vp M F n eP Γ p (M.den Γ.code) s) fun y=>match y.1 with
    | .ok (.done f)=>some (.ok f,y.2.2.1,y.2.2.2)
    | .ok (.again c)=>bq c.quiet (b1 (Xi M F n (Γ.goto c) y.2.1 y.2.2.1) fun z=>some (z.1,z.2.1,y.2.2.2++z.2.2))
    | .error e=>some (.error e,y.2.2.1,y.2.2.2))
noncomputable def Xj(M:nN)(F:qo):Nat→Lg→Pos→Addr→Value→bT→Option (Result×bT×List Prop)
 | 0,_,_,_,_,_=>none
 | n+1,Γ,p,a,it,s=>b1 (vp M F n (Option Value) Γ p (kN it) s) fun y=>match y.1 with
  | .ok none=>some (.ok (.ret .none),y.2.2.1,y.2.2.2)
  | .ok (some (.str c tk))=>b1 (vp M F n Int Γ y.2.1 (pyHash (.str c tk)) y.2.2.1) fun z=>match z.1 with
   | .ok h=>b2 (EC z.2.2.1 a) fun o=>b1 (Sn z.2.2.1 a (fun _=>Obj.mh o (F.add o.data h c tk))) fun So=>b1 (Xj M F n Γ z.2.1 a it So) fun v=>some (v.1,v.2.1,y.2.2.2++(z.2.2.2++F.goodAdd o.data h c::v.2.2))
   | .error _=>none
  | _=>none
end
end
section
open Sem (wp)
structure Xk(M:nN)(F:qo):Prop where
 loop:∀(a:Addr) (it:Value),M.den (.builtin "set.update.loop" ⟨[.ref a,it],[]⟩)=(do
  let some x ← kN it | ret .none
  let _ ← holding [x] (YM a x)
  again (.builtin "set.update.loop" ⟨[.ref a,it],[]⟩))
 quiet:∀(a:Addr) (it:Value),(Code.builtin "set.update.loop" ⟨[.ref a,it],[]⟩).quiet=true
 add:∀(Γ:Lg) (p:Pos) (s:Shared) (a:Addr) (o:Obj) (h:Int) (c:Str) (tk:qC) (Q:Bool→Pos→Shared→Prop) (E:Value→Pos→Shared→Prop),s.heap.get? a=some o→F.goodAdd o.data h c →
  (∀b,Q b p { s with heap:=s.heap.update a fun _=>Obj.mh o (F.add o.data h c tk) })→wp M Γ (wq a (.str c tk) h) Q E p s
 bin:∀(Γ:Lg) (p:Pos) (s:Shared) (j0:Bool) (a b:Addr) (o o':Obj),Γ.code=.builtin (if j0 then "frozenset.__or__" else "frozenset.__sub__") ⟨[.ref a,.ref b],[]⟩→s.heap.get? a=some o→s.heap.get? b=some o'→o.cls=.type "frozenset"→o'.cls=.type "frozenset"→F.goodBin j0 o.data o'.data →
  JC M Γ p s (.ok (.ret (.ref s.heap.objs.size))) { s with heap:=s.heap.push (gT (F.bin j0 b o.data o'.data)) }
theorem Fn{c:Code}{a:Addr}{it:Value}(h:IK c=some (.loop a it)):c=.builtin "set.update.loop" ⟨[.ref a,it],[]⟩:=by
 unfold IK at h
 split at h
 ·rename_i id a' v
  unfold Ck at h
  split at h
  ·rename_i NQ
   cases h
   rw [beq_iff_eq.mp NQ]
  ·split at h
   ·split at h
    ·cases h
    ·split at h <;> cases h
   ·contradiction
 ·contradiction
theorem IP{c:Code}{a b:Addr}{j0:Bool}(h:IK c=some (.bin j0 a b)):c=.builtin (if j0 then "frozenset.__or__" else "frozenset.__sub__") ⟨[.ref a,.ref b],[]⟩:=by
 unfold IK at h
 split at h
 ·rename_i id a' v
  unfold Ck at h
  split at h
  ·cases h
  ·split at h
   ·split at h
    ·rename_i NQ;cases h;rw [beq_iff_eq.mp NQ];rfl
    ·split at h
     ·rename_i NQ;cases h;rw [beq_iff_eq.mp NQ];rfl
     ·contradiction
   ·contradiction
 ·contradiction
theorem yx{P P':List Prop}(h:∀q∈P++P',q):(∀q∈P,q)∧∀q∈P',q:=⟨fun q hq=>h q (cK _ hq),fun q hq=>h q (oy _ hq)⟩
noncomputable def Ends{α:Type}(M:nN)(Γ:Lg)(p:Pos)(t:xq α)(s:Shared)(x:Except Value α)(p':Pos)(s':Shared):Prop :=
 ∀(Q:α→Pos→Shared→Prop) (E:Value→Pos→Shared→Prop),(match x with | .ok a=>Q a p' s' | .error e=>E e p' s')→wp M Γ t Q E p s
theorem sQ{M:nN}{Γ:Lg}{R:Result→Shared→Prop}{p:Pos}{s s':Shared}{r:Result}(h:JC M Γ p s r s')(hR:R r s'):wpCode M Γ R p s:=(jq r s' h hR)
theorem returns_of{M:nN}{Γ:Lg}{p:Pos}{s s':Shared}{r:Result}(h:∀R:Result→Shared→Prop,R r s'→wpCode M Γ R p s):JC M Γ p s r s':=by
 refine dC (h (fun r'' vj=>r''=r∧vj=s') ⟨rfl,rfl⟩) fun r' vj h1 h2 h3=>?_
 rw [h2,h3]at h1;exact h1
theorem IQ{M:nN}{F:qo}(hF:Xk M F):∀n:Nat,
  (∀(α:Type) (Γ:Lg) (p:Pos) (t:xq α) (s:bT) (r:Except Value α×Pos×bT×List Prop),vp M F n α Γ p t s=some r→(∀q∈r.2.2.2,q)→Ends M Γ p t s.abs r.1 r.2.1 r.2.2.1.abs) ∧
  (∀(Γ:Lg) (p:Pos) (s:bT) (r:Result×bT×List Prop),Xi M F n Γ p s=some r→(∀q∈r.2.2,q)→JC M Γ p s.abs r.1 r.2.1.abs) ∧
  (∀(Γ:Lg) (p:Pos) (a:Addr) (it:Value) (s:bT) (r:Result×bT×List Prop),Xj M F n Γ p a it s=some r→(∀q∈r.2.2,q)→Γ.code=.builtin "set.update.loop" ⟨[.ref a,it],[]⟩→JC M Γ p s.abs r.1 r.2.1.abs):=by
 intro n
 induction n with
 | zero=>exact (d9 (fun _ _ _ _ _ _ h=>(by contradiction)) (fun _ _ _ _ h=>(by contradiction)) (fun _ _ _ _ _ _ h=>(by contradiction)))
 | succ n ih =>
  refine dO ih fun Mf Zr Zs=>?_
  clear ih
  refine (d9 (fun α Γ p t s r h=>?_) (fun Γ p s r h=>?_) (fun Γ p a it s r h=>?_))
  ·have step:∀{Γ:Lg} {lP:Pos} (v9:xq α) {bO:bT},vp M F n α Γ lP v9 bO=some r→(∀q∈r.2.2.2,q)→Ends M Γ lP v9 bO.abs r.1 r.2.1 r.2.2.1.abs:=fun _ _ h hP=>Mf _ _ _ _ _ _ h hP
   cases t with
   | pure a=>clear step;cases h;exact fun _ Q E hQ=>hQ
   | raise e=>clear step;cases h;exact fun _ Q E hQ=>hQ
   | rule tag k=>exact step (k ()) h
   | «at» lP k=>exact step (k ()) h
   | load a part k=>exact As h fun o ho h hP Q E hQ=>(aw o (iQ ho) (step (k _) h hP Q E hQ))
   | update a part f k=>exact gZ h fun bO ho h hP Q E hQ=>(lb (nx ho).1 ((nx ho).2▸step (k _) h hP Q E hQ))
   | loadIfAlive a k=>exact gZ h fun r ho h hP Q E hQ=>(show wp M Γ (k (s.abs.heap.get? a)) Q E p s.abs from (iQ ho).symm▸step (k _) h hP Q E hQ)
   | point l k=>exact step (k ()) h
   | alloc o k=>exact gZ h fun bO ho h hP Q E hQ=>(show wp M Γ (k s.abs.heap.objs.size) Q E p { s.abs with heap:=s.abs.heap.push o }from (mG ho).2.symm▸(mG ho).1▸step (k _) h hP Q E hQ)
   | fresh k=>exact step (k _) h
   | ask k=>exact step (k _) h
   | handled own k=>exact step (k _) h
   | genState g k=>exact gZ h fun o ho h hP Q E hQ=>(aw o ho (step (k _) h hP Q E hQ))
   | newGen c k=>exact step (k _) h
   | resume g r l k=>exact gZ h fun y hw h hP Q E hQ=>(jq y.1 y.2.abs (Fm hw) (step (k _) h hP Q E hQ))
   | stack k=>exact step (k _) h
   | thread k=>exact step (k _) h
   | call c hd g l k =>
    clear step
    refine gZ h fun y hc h=>gZ h fun z hs h=>?_
    obtain rfl:=aE h
    exact fun hP Q E hQ=>ao (yx hP) fun h1 h2=>sQ (Zr _ _ _ _ hc h1) (Mf _ _ _ _ _ _ hs h2 Q E hQ)
   | _=>contradiction
  ·refine OD h (fun a it hi h hP=>Zs _ _ _ _ _ _ h hP (Fn hi)) (fun j0 a b hi h=>?_) (fun hi h=>?_)
   ·refine As h fun o ha h=>As h fun o' hb h=>gZ h fun bO Xl h=>?_
    obtain rfl:=aE h
    intro hP
    have sp:=mG Xl
    have:=hF.bin Γ p s.abs j0 a b o o' (IP hi) (iQ ha) (iQ hb) (hP _ (by simp)) (hP _ (by simp)) (hP _ (by simp))
    rw [← sp.1,sp.2]at this
    exact this
   ·refine gZ h fun y hs h hP=>returns_of fun R hR=>?_
    rw [wpCode_iff_wp]
    obtain ⟨x,lP,bO,Xm⟩:=y
    cases x with
    | error e=>cases h;exact Mf _ _ _ _ _ _ hs hP _ _ hR
    | ok fin =>
     cases fin with
     | done f=>cases h;exact Mf _ _ _ _ _ _ hs hP _ _ hR
     | again c =>
      refine Au h fun hq h=>gZ h fun z hc h=>?_
      obtain rfl:=aE h
      exact ao (yx hP) fun h1 h2=>Mf _ _ _ _ _ _ hs h1 _ _ (lb hq (sQ (Zr _ _ _ _ hc h2) hR))
  ·refine gZ h fun y hs h hP hc=>returns_of fun R hR=>?_
   rw [wpCode_iff_wp,hc,hF.loop,cu]
   obtain ⟨x,lP,bO,Xm⟩:=y
   cases x with
   | error e=>contradiction
   | ok v =>
    cases v with
    | none=>obtain rfl:=aE h;exact Mf _ _ _ _ _ _ hs hP _ _ hR
    | some v =>
     cases v with
     | str c tk =>
      refine gZ h fun z hh h=>?_
      obtain ⟨x2,Sp,OE,P₂⟩:=z
      cases x2 with
      | error e=>contradiction
      | ok hv =>
       refine As h fun o ho h=>gZ h fun So hu h=>gZ h fun z hl h=>?_
       obtain rfl:=aE h
       refine ao (yx hP) fun h1 h2=>?_
       refine ao (yx h2) fun h2 h3=>?_
       refine Mf _ _ _ _ _ _ hs h1 _ _ ?_
       show wp M Γ (holding [zl c tk] (YM a (.str c tk)) >>= _) _ _ lP bO.abs
       simp only [cu,zX]
       delta YM
       simp only [zX,cu]
       refine Mf _ _ _ _ _ _ hh h2 _ _ ?_
       refine hF.add Γ Sp OE.abs a o hv c tk _ _ (iQ ho) (h3 _ aH) fun b=>?_
       have hg:Γ.goto (.builtin "set.update.loop" ⟨[.ref a,it],[]⟩)=Γ:=by rw [← hc];cases Γ;rfl
       refine (lb (hF.quiet a it) ?_)
       rw [← (nx hu).2]
       show wpCode M (Γ.goto (.builtin "set.update.loop" ⟨[.ref a,it],[]⟩)) R Sp _
       rw [hg]
       exact sQ (Zs _ _ _ _ _ _ hl (fun q hq=>h3 q (aG _ hq)) hc) hR
     | _=>contradiction
end
section
noncomputable def toT(s:Shared):Option bT:=s.heap.objs.toList.foldl (fun x o=>x.bind fun t=>Cm t o) (some { tree:=BT.nil,n:=0,life:=s.heap.life,gens:=s.gens,drawn:=s.drawn,toks:=s.toks,os:=s.os })
theorem ED:∀(l:List Obj) (t₀ t:bT),l.foldl (fun x o=>x.bind fun t=>Cm t o) (some t₀)=some t→t.abs={ t₀.abs with heap:=⟨t₀.abs.heap.objs++l.toArray,t₀.abs.heap.life⟩ }
 | [],t₀,t,h=>by
  obtain rfl:=aE h
  rfl
 | o::l,t₀,t,h=>by
  simp only [Lh]at h
  cases ha:Cm t₀ o with
  | none =>
   exfalso
   have:∀l:List Obj,l.foldl (fun x o=>x.bind fun t=>Cm t o) (none:Option bT)=none:=by
    intro l
    induction l with
    | nil=>rfl
    | cons o l ih=>exact ih
   have h':l.foldl (fun x o=>x.bind fun t=>Cm t o) ((some t₀).bind fun t=>Cm t o)=some t:=h
   rw [show (some t₀).bind (fun t=>Cm t o)=none from ha,this]at h'
   contradiction
  | some v9 =>
   have h':l.foldl (fun x o=>x.bind fun t=>Cm t o) ((some t₀).bind fun t=>Cm t o)=some t:=h
   rw [show (some t₀).bind (fun t=>Cm t o)=some v9 from ha]at h'
   have e:=ED l v9 t h'
   have sp:=(mG ha).1
   rw [e,sp]
   have:∀(hp:Heap),(⟨(hp.push o).objs++l.toArray,(hp.push o).life⟩:Heap)=⟨hp.objs++(o::l).toArray,hp.life⟩:=by
    intro hp
    obtain ⟨objs,life⟩:=hp
    simp [YN]
   rw [this]
theorem Ky{s:Shared}{t:bT}(h:toT s=some t):t.abs=s:=by
 unfold toT at h
 rw [ED _ _ _ h]
 clear h;obtain ⟨⟨objs,life⟩,gens,drawn,toks,os⟩:=s
 simp [bT.abs,absHeap]
 rfl
noncomputable def gJ(den:Code→xq eP)(p:Program)(w:World)(F:qo):Option (Shared×bT×Except Value eP×Pos×bT×List Prop) :=
 (fencedOpening treeTable p w 2000).bind fun s=>(toT s).bind fun t=>(vp ⟨den,p,w⟩ F 20000 eP (YO (.builtin "claim.caller" {}) []) default (topStub p).cur t).map fun x=>(s,t,x)
noncomputable def ownOf(h:Heap):List Addr:=mainNs::cStatics::match globalOf h "__annotations__" with | some (.ref b)=>[b] | _=>[]
theorem Cn{h:Heap}{b:Addr}(q:(ownOf h).contains b=true):theTopsOwn h b:=by
 unfold ownOf at q
 rw [List.contains_iff_mem]at q
 rcases aq.mp q with q | q
 ·exact .inl q
 ·rcases aq.mp q with q | q
  ·exact .inr (.inl q)
  ·refine .inr (.inr ?_)
   split at q
   ·rename_i b' hb
    rw [bG]at q
    rw [q]
    exact hb
   ·cases q
noncomputable def Co(s:Shared)(st:bT):List (Option (Option Obj))×Pe:=((bF s.heap.objs.size).map fun b=>if (ownOf s.heap).contains b then none else EC st b,st.os)
noncomputable def Cp(s:Shared):List (Option (Option Obj))×Pe:=((bF s.heap.objs.size).map fun b=>if (ownOf s.heap).contains b then none else some (s.heap.get? b),s.os)
end
section
open Sem (wp)
noncomputable def vO(d:Data)(h:Int)(c:Str)(tk:qC):dg:=match d with
 | .set es n t =>
  let L:=lZ t es h (.str c tk)
  let t2:fS:={ L.2.1 with plain:=false }
  match !L.2.2.1&&t2.tooFull with
  | true=>⟨(wu t2 L.1 (cY L.1.size)).1,n+2,(wu t2 L.1 (cY L.1.size)).2.1⟩
  | false=>⟨L.1,n+1,t2⟩
 | _=>⟨#[],0,.fresh 0 0 false⟩
noncomputable def ek:Int×Value→Str
 | (_,.str c _)=>c
 | _=>default
noncomputable def aQ(prog:Program)(w:World)(d:Data)(cs:List Str):Prop:=∃es n t,d=.set es n t∧t.fits es.size=true∧n8 (strKind prog w) es.toList∧(es.toList.map ek).Perm cs
noncomputable def Aw(prog:Program)(w:World)(d:Data)(h:Int)(c:Str):Prop:=∃cs,aQ prog w d cs∧c∉cs∧cs.length<2000∧h=jX w c
section
variable{M:nN} {Γ:Lg} {E:Value→Pos→Shared→Prop} {p:Pos} {s:Shared}
theorem vP{a:Addr}{o:Obj}{es:Array (Int×Value)}{ep:Nat}{t:fS}{Q:(Array (Int×Value)×Nat×fS)→Pos→Shared→Prop}
  (ho:s.heap.get? a=some o) (hd:o.data=.set es ep t) (hf:t.fits es.size=true) (h:Q (es,ep,t) p s):wp M Γ (setState a) Q E p s:=by
 unfold setState
 rw [cu,Oj _ _ _ _ _ ho,hd]
 dsimp only
 have hc:(t.place.size != es.size||decide (t.fill>t.mask))=false:=by
  simp only [j6,ae,beq_iff_eq,decide_eq_true_eq]at hf
  simp [hf.1,ei.mpr hf.2]
 rw [hc]
 dsimp only [aL,↓reduceIte,iF,iT,iG,iU,iH,iV,nT,nF,aT,aF,oT,oF]
 exact h
theorem ny{a:Addr}{o:Obj}{es:Array (Int×Value)}{ep:Nat}{t:fS}{wJ:Array (Int×Value)}{t':fS}{Q:Unit→Pos→Shared→Prop}
  (ho:s.heap.get? a=some o) (hd:o.data=.set es ep t) (hz:wJ.size≤bZ) (h:Q () p { s with heap:=s.heap.update a (zY wJ t') }):wp M Γ (sh a wJ t') Q E p s:=by
 unfold sh
 rw [cu,Oj _ _ _ _ _ ho,hd]
 dsimp only
 rw [if_neg (ei.mpr hz)]
 exact ⟨by rw [ho];rfl,h⟩
theorem yy(b:Bool)(tag:String){Q:Unit→Pos→Shared→Prop}(h:Q () p s):wp M Γ (match b with | true=>rule tag | false=>pure ()) Q E p s:=by
 cases b <;> exact h
theorem vQ{o:Obj}{es:Array (Int×Value)}{ep:Nat}{t:fS}{wJ:Array (Int×Value)}{t':fS}(hd:o.data=.set es ep t):zY wJ t' o=Obj.mh o ⟨wJ,ep+1,t'⟩:=putSet_of wJ t' hd
theorem xj{h:Heap}{a:Addr}{o:Obj}{f:Obj→Obj}(ho:h.get? a=some o):h.update a f=h.update a fun _=>f o:=by
 have zd:=((Heap.get?_eq_some _ _ _).1 ho).1
 clear ho;obtain ⟨objs,life⟩:=h
 simp only [vh,wx,and_true]
 apply rR
 intro j
 simp only [jB]
 by_cases hj:a=j
 ·subst hj
  dsimp only at zd
  simp [zd]
 ·simp [hj]
theorem yz{h:Heap}{a:Addr}{x y:Obj}:(h.update a fun _=>x).update a (fun _=>y)=h.update a fun _=>y:=by
 obtain ⟨objs,life⟩:=h
 simp only [vh,wx,and_true]
 apply rR
 intro j
 simp only [jB]
 by_cases hj:a=j
 ·subst hj
  cases objs[a]? <;> simp
 ·simp [hj]
theorem j3{prog:Program}{w:World}{l:List (Int×Value)}(h:n8 (strKind prog w) l):∀e∈l,∃c t,e.2=.str c t∧e.1=jX w c:=by
 intro e he
 refine ao (h e he) fun G9 _=>?_;(refine az G9 fun k hk hh=>?_)
 refine cG (qZ hk) fun t ht=>?_
 exact (jq k t ht hh)
theorem z8{prog:Program}{w:World}{c c':Str}{t:qC}:(strKind prog w).is c (.str c' t)=true↔c=c':=by
 constructor
 ·intro h
  exact (beq_iff_eq.mp (show (c' == c)=true from h)).symm
 ·rintro rfl
  show d7 c (.str c t)=true;simp [d7]
theorem rM{prog:Program}{w:World}{a:Addr}{es:Array (Int×Value)}{c:Str}{tk:qC}{h:Int}{b:Bool}{Q:ScanMet→Pos→Shared→Prop}(he:n8 (strKind prog w) es.toList)
  (hc:¬∃e∈es.toList,(strKind prog w).is c e.2=true) (hq:Q .absent p s):wp M Γ (setScan a (.str c tk) h b es) Q E p s:=by
 have h1:es.all (fun e=>isExactStrKey e.2)=true:=by
  rw [← Array.all_toList,bc]
  intro e hm
  refine gP (j3 he e hm) fun c' t' h' _=>?_
  rw [h']
  rfl
 have h2:es.findIdx? (fun e=>e.2.isStr c)=none:=by
  rw [Array.findIdx?_eq_none_iff]
  intro e hm
  refine gP (j3 he e (DO.mpr hm)) fun c' t' h' _=>?_
  rw [Bool.eq_false_iff]
  intro hk
  refine hc (aw e (DO.mpr hm) ?_)
  rw [← (strKind prog w).strs c c tk e.2 (z8.mpr rfl)]at hk
  exact hk
 show wp M Γ (if es.all (fun e=>isExactStrKey e.2)then setScanStrs a (.str c tk) c b es else setScanFrom a (.str c tk) h b es.toList 0) Q E p s
 rw [if_pos h1]
 unfold setScanStrs
 rw [h2]
 exact hq
theorem vR{prog:Program}{w:World}{l:List (Int×Value)}(h:n8 (strKind prog w) l):∀e∈l,∀c,(strKind prog w).is c e.2=true↔ek e=c:=by
 intro e he c
 refine gP (j3 h e he) fun c' t' h1 _=>?_
 obtain ⟨h',v⟩:=e
 dsimp only at h1
 clear he;subst h1
 exact z8.trans ⟨fun q=>q.symm,fun q=>q.symm⟩
theorem aQ.facts{prog:Program}{w:World}{es:Array (Int×Value)}{n:Nat}{t:fS}{cs:List Str}(hs:aQ prog w (.set es n t) cs):t.fits es.size=true∧n8 (strKind prog w) es.toList∧es.size=cs.length∧(∀c,c∈cs↔∃e∈es.toList,(strKind prog w).is c e.2=true)∧(es.toList.map ek).Perm cs:=by
 refine jr hs fun es n t hd hf he hp=>?_
 cases hd
 refine (JE hf he ?_ (fun c=>?_) hp)
 ·simp only [← hp.length_eq,cP,aO]
 ·rw [← hp.mem_iff,cV]
  exact ⟨fun R2=>az R2 fun e h1 h2=>(aw e h1 ((vR he e h1 c).mpr h2)),fun R3=>az R3 fun e h1 h2=>(aw e h1 ((vR he e h1 c).mp h2))⟩
theorem aQ.toAdd{prog:Program}{w:World}{d:Data}{h:Int}{c:Str}(tk:qC){cs:List Str}(hs:aQ prog w d cs)(hh:h=jX w c):aQ prog w (vO d h c tk).data (c::cs):=by
 refine j7 hs fun es n t G5 R9=>?_;clear hs;obtain rfl:=G5;(refine dO R9 fun hf he PD=>?_)
 have hp:=layNew_perm t es h (.str c tk)
 have hf1:=layNew_fits t es h (.str c tk)
 rw [iZ]at hp
 have Ut:n8 (strKind prog w) (lZ t es h (.str c tk)).1.toList:=by
  refine rS ?_ hp
  rw [hh]
  exact he.push (k:=c) (x:=zl c tk) (z8.mpr rfl) rfl
 have ME:((lZ t es h (.str c tk)).1.toList.map ek).Perm (c::cs):=by
  refine (hp.map ek).trans ?_
  rw [dz]
  exact (xx c _).trans (PD.cons c)
 unfold vO
 dsimp only
 split
 ·have C0:=relayAll_perm { (lZ t es h (.str c tk)).2.1 with plain:=false } (lZ t es h (.str c tk)).1 (cY (lZ t es h (.str c tk)).1.size)
  exact (js _ _ _ rfl (relayAll_fits _ _ _) (rS Ut C0) ((C0.map ek).trans ME))
 ·exact (js _ _ _ rfl (fS.fits_plain_off hf1) Ut ME)
theorem IS{prog:Program}{w:World}{a:Addr}{o:Obj}{h:Int}{c:Str}{tk:qC}{Q:Bool→Pos→Shared→Prop}(ho:s.heap.get? a=some o)(hg:Aw prog w o.data h c)
  (hQ:∀b,Q b p { s with heap:=s.heap.update a fun _=>Obj.mh o (vO o.data h c tk) }):wp M Γ (wq a (.str c tk) h) Q E p s:=by
 refine Gg hg fun cs Xn hc hl hh=>?_
 refine jr (id Xn) fun es n t hd _ _ _=>?_
 rw [hd]at Xn
 refine wB Xn.facts fun hf he hn hm _=>?_
 have hb:es.size<scanBound:=by rw [hn];exact bD hl (by decide)
 unfold wq YP
 rw [zX,cu]
 refine vP ho hd hf ?_
 dsimp only
 rw [byScan_of (knd:=strKind prog w) rfl hb he]
 dsimp only [↓reduceIte,iF,iT,iG,iU,iH,iV,nT,nF,aT,aF,oT,oF]
 unfold setAddByScan
 rw [cu,cu,xq.wp_cmd_rule,cu]
 refine rM he (fun hx=>hc ((hm c).mpr hx)) ?_
 dsimp only
 have hp:=layNew_perm t es h (.str c tk)
 rw [iZ]at hp
 have EE:(lZ t es h (.str c tk)).1.size≤bZ:=by
  rw [← aO,hp.length_eq,bh,aO,hn]
  exact aJ hl (by rw [aa];decide)
 have C0:=relayAll_perm { (lZ t es h (.str c tk)).2.1 with plain:=false } (lZ t es h (.str c tk)).1 (cY (lZ t es h (.str c tk)).1.size)
 have Xo:(wu { (lZ t es h (.str c tk)).2.1 with plain:=false } (lZ t es h (.str c tk)).1 (cY (lZ t es h (.str c tk)).1.size)).1.size≤bZ:=by
  rw [← aO,C0.length_eq,aO];exact EE
 rw [hd]at hQ
 unfold vO at hQ
 dsimp only at hQ
 generalize hL:lZ t es h (.str c tk)=L at *
 clear hp;obtain ⟨Kz,t1,wd,gv⟩:=L
 dsimp only at *
 rw [cu]
 refine yy gv _ ?_
 have key:∀t2:fS,t2={ t1 with plain:=false }→∀g:Bool→xq Unit,(∀b (bO:Shared) (Q':Unit→Pos→Shared→Prop),Q' () p bO→wp M Γ (g b) Q' E p bO)→wp M Γ (do
    sh a Kz t2
    if (!wd&&t2.tooFull)=true then do
      g (wu t2 Kz (cY Kz.size)).2.2
      sh a (wu t2 Kz (cY Kz.size)).1 (wu t2 Kz (cY Kz.size)).2.1
      pure (some true)
     else pure (some true)) (fun r p s=>wp M Γ (match r with | some added=>pure added | none=>YP a (.str c tk) h 99999) Q E p s) E p s:=by
  intro t2 h2 g hgg
  rw [← h2]at Xo hQ
  simp only [cu]
  refine ny ho hd EE ?_
  rw [xj ho,vQ hd]
  cases hw:(!wd&&t2.tooFull)
  ·rw [hw]at hQ
   dsimp only [aL,↓reduceIte,iF,iT,iG,iU,iH,iV,nT,nF,aT,aF,oT,oF]
   exact hQ _
  ·rw [hw]at hQ
   dsimp only [↓reduceIte,iF,iT,iG,iU,iH,iV,nT,nF,aT,aF,oT,oF]
   rw [cu]
   refine hgg _ _ _ ?_
   simp only [cu]
   have PO:(s.heap.update a fun _=>Obj.mh o ⟨Kz,n+1,t2⟩).get? a=some (Obj.mh o ⟨Kz,n+1,t2⟩):=cC _ ho rfl
   refine ny (s:={ s with heap:=_ }) PO rfl Xo ?_
   dsimp only
   rw [xj PO,yz]
   exact hQ _
 split
 ·rename_i hq
  rw [cu]
  rw [hashByValue_scannable 8 rfl]
  show wp M Γ _ _ _ _ _
  simp only [plainKind,aL,↓reduceIte]
  exact key _ rfl _ fun b bO Q' hh=>yy b _ hh
 ·rename_i hq
  rw [cu]
  refine key t1 ?_ _ fun b bO Q' hh=>yy b _ hh
  cases t1
  simp only [JT]at hq
  clear hL hQ C0 Xo key;cases hq
  rfl
end
end
section
open SetTable
noncomputable def it:Nat→Nat→Nat
 | 0,x=>x
 | n+1,x=>it n (5*x+1)
theorem Cq:∀a b x,it (a+b) x=it a (it b x)
 | a,0,x=>rfl
 | a,b+1,x=>by show it (a+b+1) x=_;show it (a+b) (5*x+1)=_;rw [Cq a b];rfl
noncomputable def Bc:Nat→Nat
 | 0=>1
 | m+1=>Bc m*(2+4*Bc m)
theorem Cr:∀m x,it (2 ^ m) x=(1+4*Bc m)*x+Bc m
 | 0,x=>by show 5*x+1=_;rfl
 | m+1,x=>by
  simp only [kq,Nat.mul_two,Cq,Cr m,Cr m,Bc]
  generalize Bc m=b
  rw [show (1+4*(b*(2+4*b)))=(1+4*b)*(1+4*b) by
   simp only [jo,qi,qh,vx]
   rw [show b*(4*b)=4*(b*b) by simp only [JU],show 4*b*(4*b)=16*(b*b) by rw [cj,JU b 4 b,← cj]]
   exact T2 [] (.e (.a .o (.a (.m 4 (.r .x 2)) (.m 4 (.m 4 .y)))) (.a (.a .o (.m 4 .x)) (.a (.m 4 .x) (.m 16 .y)))) tA]
  rw [jo,← cj,BI]
  congr 1
  rw [qi,vx,jo,show b*(4*b)=4*b*b by rw [fK b (4*b)]]
  exact T2 [] (.e (.a (.a .x .y) .x) (.a (.r .x 2) .y)) tA
theorem IT:∀m,∃c,Bc m=2 ^ m*(2*c+1)
 | 0=>(dA 0 rfl)
 | m+1=>by
  refine cG (IT m) fun c e=>?_
  refine (dA (2*c*Bc m+c+Bc m) ?_)
  simp only [Bc]
  have:2+4*Bc m=2*(1+2*Bc m):=T1 [] (.e (.a (.n 2) (.m 4 .x)) (.m 2 (.a .o (.m 2 .x)))) tA
  rw [this,← cj,fK (Bc m) 2]
  conv=>lhs;lhs;rw [e]
  rw [kq,← cj,fK 2 (2 ^ m),cj]
  congr 1
  generalize Bc m=b
  simp only [jo,qi,qh,vx]
  have h1:2*c*(2*b)=4*(c*b):=by rw [Nat.mul_mul_mul_comm]
  have h2:2*(2*c*b)=4*(c*b):=by rw [cj,← cj]
  rw [h1,h2];exact T3 [] (.e (.a (.a (.m 2 .x) .o) (.a (.m 4 .y) (.m 2 .z))) (.a (.a (.a (.m 4 .y) (.m 2 .x)) (.m 2 .z)) .o)) tA
theorem z9(M:Nat):∀n x,it n (x % M) % M=it n x % M
 | 0,x=>by simp [it]
 | n+1,x=>by
  show it n (5*(x % M)+1) % M=it n (5*x+1) % M
  rw [← z9 M n (5*(x % M)+1),← z9 M n (5*x+1)]
  congr 2
  simp [VF,Nat.mul_mod]
theorem Zt:∀m i j,i<2 ^ m→j<2 ^ m→∃n,n<2 ^ m∧it n i % 2 ^ m=j
 | 0,i,j,hi,hj=>(aw 0 (by decide) (by rw [Nat.pow_zero,Nat.mod_one];exact (zW.mp hj).symm))
 | m+1,i,j,hi,hj=>by
  refine az (Zt m (i % 2 ^ m) (j % 2 ^ m) (oJ _ (pB m)) (oJ _ (pB m))) fun n hn e=>?_
  rw [z9]at e
  have hp:=pB m
  simp only [kq]at hi hj ⊢
  generalize hz:it n i=z at e
  by_cases pz:z % (2 ^ m*2)=j
  ·exact (aw n (T2 [.t .x .y] (.t .x (.r .y 2)) tA hn) (by rw [hz];exact pz))
  refine (aw (2 ^ m+n) (T2 [.t .x .y] (.t (.a .y .x) (.r .y 2)) tA hn) ?_)
  rw [Cq,hz,Cr]
  refine cG (IT m) fun c ec=>?_
  have key:(1+4*Bc m)*z+Bc m=z+2 ^ m+(2 ^ m*2)*(2*((2*c+1)*z)+c):=by
   rw [ec]
   generalize 2 ^ m=P
   rw [qi,vx,jo (P*2),show 4*(P*(2*c+1))*z=P*2*(2*((2*c+1)*z)) by
    rw [show P*2*(2*((2*c+1)*z))=P*2*2*((2*c+1)*z) by rw [cj (P*2)]]
    rw [← cj 4,← cj (P*2*2)]
    congr 2;exact T1 [] (.e (.m 4 .x) (.r (.r .x 2) 2)) tA]
   rw [jo P,qh,← cj P 2 c]
   exact T4 [] (.e (.a (.a .x .y) (.a .z .w)) (.a (.a .x .w) (.a .y .z))) tA
  rw [key,Nat.add_mul_mod_self_left]
  have h1:z % (2 ^ m*2) % 2 ^ m=z % 2 ^ m:=Nat.mod_mul_right_mod z (2 ^ m) 2
  have h2:z % (2 ^ m*2)<2 ^ m*2:=oJ _ (aJ (cQ _ _) (by assumption))
  rw [VF,n7 (a:=2 ^ m) (b:=2 ^ m*2) (T1 [.t (.n 0) .x] (.t .x (.r .x 2)) tA hp)]
  generalize z % (2 ^ m*2)=y at *
  rw [e]at h1
  generalize 2 ^ m=P at *
  have a1:=Mv y P
  have a2:=Mv j P
  have b1:y / P<2:=by first | exact gp h2 | exact gp (by rw [fK];exact h2)
  have b2:j / P<2:=by first | exact gp hj | exact gp (by rw [fK];exact hj)
  rw [h1]at a1
  have c0:∀u:Nat,u<2→u=0∨u=1:=fun u h=>(Nat.lt_succ_iff_lt_or_eq.mp h).elim (fun q=>.inl (zW.mp q)) .inr
  have c1:=c0 _ b1
  have c2:=c0 _ b2
  rcases c1 with c1 | c1 <;> rcases c2 with c2 | c2 <;> rw [c1]at a1 <;> rw [c2]at a2 <;> simp only [Nat.mul_zero,qh]at a1 a2
  ·exact T4 [.E .x .y,.e (.a (.n 0) .z) .x,.e (.a (.n 0) .z) .y] (.e .w .y) tA pz a1 a2
  ·rw [n7 (by exact T4 [.t .x (.r .y 2),.e (.a (.n 0) .z) .w,.e (.a .y .z) .x] (.t (.a .w .y) (.r .y 2)) tA hj a1 a2)];exact T4 [.e (.a (.n 0) .x) .y,.e (.a .z .x) .w] (.e (.a .y .z) .w) tA a1 a2
  ·rw [show y+P=j+P*2 by exact T4 [.e (.a (.n 0) .x) .y,.e (.a .z .x) .w] (.e (.a .w .z) (.a .y (.r .z 2))) tA a2 a1,Nat.add_mod_right,n7 (by exact T2 [.t .x (.r .y 2)] (.t .x (.r .y 2)) tA hj)]
  ·exact T5 [.E .x .y,.e (.a .z .w) .x,.e (.a .z .w) .y] (.e .s .y) tA pz a1 a2
noncomputable def jJ(mask:Nat):Nat→Nat×Nat→Nat×Nat
 | 0,p=>p
 | n+1,p=>jJ mask n (leap mask p.1 p.2)
theorem xk(mask:Nat):∀a b p,jJ mask (a+b) p=jJ mask b (jJ mask a p)
 | 0,b,p=>by rw [eQ];rfl
 | a+1,b,p=>by rw [show a+1+b=a+b+1 by (exact J0 _ _ _)];show jJ mask (a+b) _=_;rw [xk mask a b];rfl
theorem xl(mask:Nat):∀n p,(jJ mask n p).2=p.2 / 32 ^ n
 | 0,p=>by simp [jJ]
 | n+1,p=>by
  show (jJ mask n (leap mask p.1 p.2)).2=_
  rw [xl mask n]
  show p.2 / 32 / 32 ^ n=_
  simp only [Nat.div_div_eq_div_mul,kq,fK]
theorem vS(mask:Nat):∀n p,p.1≤mask→(jJ mask n p).1≤mask
 | 0,p,h=>h
 | n+1,p,h=>vS mask n _ (by show (_ % (mask+1))≤mask;have:=oJ (p.1*5+1+p.2 / 32) (show mask+1>0 by (exact bA _));(exact cz (by assumption)))
theorem vT(mask:Nat):∀n i,(jJ mask n (i,0))=(if n=0 then i else it n i % (mask+1),0)
 | 0,i=>rfl
 | n+1,i=>by
  show jJ mask n ((i*5+1+0 / 32) % (mask+1),0 / 32)=_
  rw [show (0:Nat) / 32=0 from rfl,vT mask n,if_neg (show n+1≠0 by exact T1 [] (.E (.a .x .o) (.n 0)) tA)]
  have e:(if n=0 then (i*5+1+0) % (mask+1)else it n ((i*5+1+0) % (mask+1)) % (mask+1))=it n (5*i+1) % (mask+1):=by
   by_cases h:n=0
   ·subst h;rw [if_pos rfl];simp [it,fK]
   ·rw [if_neg h,z9,fK,oH]
  rw [e];rfl
theorem Fo{m mask:Nat}(hm:mask+1=2 ^ m){i pt e:Nat}(hi:i≤mask)(hp:pt<2 ^ 64)(he:e≤mask):∃n,n≤mask+13∧(jJ mask n (i,pt)).1=e:=by
 have h0:(jJ mask 13 (i,pt)).2=0:=by rw [xl];exact Li (bD hp (by decide))
 have h1:(jJ mask 13 (i,pt)).1≤mask:=vS mask 13 (i,pt) hi
 generalize hq:jJ mask 13 (i,pt)=q at h0 h1
 obtain ⟨a,b⟩:=q
 simp only at h0 h1
 subst h0
 refine az (Zt m a e (T3 [.e (.a .x .o) .y,.l .z .x] (.t .z .y) tA hm h1) (T3 [.e (.a .x .o) .y,.l .z .x] (.t .z .y) tA hm he)) fun n hn hc=>?_
 refine (aw (13+n) (T3 [.e (.a .x .o) .y,.t .z .y] (.l (.a (.n 13) .z) (.a .x (.n 13))) tA hm hn) ?_)
 rw [xk,hq,vT]
 show (if n=0 then a else it n a % (mask+1))=e
 split
 ·rename_i h;clear hn;subst h;rw [← hc];show a=a % _;exact (n7 (hm▸Nat.lt_succ_of_le h1)).symm
 ·rw [hm];exact hc
theorem Fp{mask i:Nat}(h:i≤mask):runEnd mask i≤mask∧i≤runEnd mask i∧runEnd mask i≤i+9:=by
 unfold runEnd;split
 ·exact ⟨by assumption,bf _ _,bX _⟩
 ·exact ⟨h,bX _,bf _ _⟩
end
section
open SetTable
theorem rN(n:Nat):∀fuel size,0<size→n<size*2 ^ fuel→∃k,sizeAbove.go n fuel size=size*2 ^ k∧n<size*2 ^ k∧(k=0∨size*2 ^ k≤2*n)
 | 0,size,h0,h=>(cB 0 (by simp [sizeAbove.go]) (by simpa using h) (.inl rfl))
 | fuel+1,size,h0,h=>by
  unfold sizeAbove.go
  by_cases hs:size≤n
  ·rw [if_pos hs]
   refine eZ (rN n fuel (size*2) (T1 [.t (.n 0) .x] (.t (.n 0) (.r .x 2)) tA h0) (by simp only [kq]at h;rwa [cj,fK 2])) fun k e h1 h2=>?_
   have e2:size*2*2 ^ k=size*2 ^ (k+1):=by simp only [kq,cj,fK 2]
   refine (cB (k+1) (by rw [e,e2]) (by rw [← e2];exact h1) (.inr ?_))
   rcases h2 with rfl | h2
   ·dsimp;exact T2 [.l .x .y] (.l (.r .x 2) (.m 2 .y)) tA hs
   ·rw [← e2];exact h2
  ·rw [if_neg hs]
   exact (cB 0 (by simp) (by simp;(exact jW (by assumption))) (.inl rfl))
theorem vU{n:Nat}(h:n<100000):∃k,sizeAbove n=8*2 ^ k∧n<8*2 ^ k∧(k=0∨8*2 ^ k≤2*n):=by
 unfold sizeAbove
 exact rN n 64 8 (by decide) (bD h (by decide))
theorem xm{mask m:Nat}(hm:mask+1=2 ^ m){owner:Array (Option Nat)}(hs:owner.size=mask+1):∀n fuel i pt,n<fuel→i≤mask→(owner.getD (jJ mask n (i,pt)).1 (some 0))=none →
  ∃j,layClean.free mask owner fuel i pt=some j∧j≤mask∧owner.getD j (some 0)=none
 | n,0,i,pt,h,_,_=>by (exact absurd (by assumption) (kP _))
 | n,fuel+1,i,pt,h,hi,he=>by
  unfold layClean.free
  have hr:=Fp hi
  cases hf:(bF (runEnd mask i+1-i)).find? (fun k=>(owner.getD (i+k) (some 0)).isNone)with
  | some k =>
   dsimp only
   have h1:=List.find?_some hf
   have h2:=xy.mp (List.mem_of_find?_eq_some hf)
   exact (cB (i+k) rfl (T4 [.u (.a .x .o) .w,.l .y .z,.t .w .x] (.l (.a .s .w) .z) tA hr.1 h2) (by simpa using h1))
  | none =>
   dsimp only
   cases n with
   | zero =>
    exfalso
    have:=GU.mp hf 0 (xy.mpr (T2 [.u (.a .y .o) .x,.l .y .z] (.t (.n 0) .x) tA hr.2.1))
    simp [jJ]at he this
    exact this he
   | succ n =>
    exact xm hm hs n fuel _ _ (DP (by assumption)) (vS mask 1 (i,pt) hi) he
theorem L6(h:Int):bits h<2 ^ 64:=(U7 (ou _ (by decide))).mpr (iS _ (by decide))
theorem qB{k:Nat}:∀(l:List (Option Nat)) (j:Nat),l[j]?=some none→((l.set j (some k)).filterMap id).Perm (k::l.filterMap id)
 | [],j,h=>by (dsimp [iF,iT,iG,iU,iH,iV,nT,nF,aT,aF,oT,oF]at h;simp at h)
 | x::l,0,h=>by
  simp at h;subst h;rfl
 | x::l,j+1,h=>by
  simp at h
  have:=qB (k:=k) l j h
  cases x with
  | none=>simpa using this
  | some a =>
   simp only [List.set_cons_succ,cS,id]
   exact (this.cons a).trans (List.Perm.swap _ _ _)
theorem tG:∀(l:List (Option Nat)),(l.filterMap id).length<l.length→∃j,j<l.length∧l[j]?=some none
 | [],h=>by simp at h
 | none::l,h=>(aw 0 (by simp) rfl)
 | some a::l,h=>by
  refine az (tG l (by simp only [cS,id,af]at h;(exact DP (by assumption)))) fun j h1 h2=>?_
  exact (aw (j+1) (by simpa using h1) (by simpa using h2))
theorem tH{mask m:Nat}(hm:mask+1=2 ^ m):∀(hs:List Int) (owner:Array (Option Nat)) (k:Nat),owner.size=mask+1→(owner.toList.filterMap id).Perm (bF k)→k+hs.length≤mask →
  ∃vV,hs.foldl (init:=some (owner,k)) (fun acc h=>do
  let (owner,k) ← acc
  let j ← layClean.free mask owner (turns mask) (bits h % (mask+1)) (bits h)
  pure (owner.setIfInBounds j (some k),k+1))=some (vV,k+hs.length)∧vV.size=mask+1∧(vV.toList.filterMap id).Perm (bF (k+hs.length))
 | [],owner,k,h1,h2,h3=>(cB owner rfl h1 h2)
 | h::hs,owner,k,h1,h2,h3=>by
  simp only [af]at h3
  refine az (tG owner.toList (by rw [h2.length_eq];simp;exact T4 [.e .x (.a .y .o),.l (.a .z (.a .w .o)) .y] (.t .z .x) tA h1 h3)) fun e Ut he2=>?_
  have hi:bits h % (mask+1)≤mask:=by have:=oJ (bits h) (show mask+1>0 by (exact bA _));(exact cz (by assumption))
  have hee:e≤mask:=by simp [h1]at Ut;(exact cz (by assumption))
  refine az (Fo hm hi (L6 h) hee) fun n hn JG=>?_
  obtain ⟨j,hj,hj1,MD⟩:=xm hm h1 n (turns mask) (bits h % (mask+1)) (bits h) (by unfold turns;exact T2 [.l .x (.a .y (.n 13))] (.t .x (.a .y (.n 15))) tA hn) hi (by
   rw [JG]
   have:owner[e]?=some none:=by simpa using he2
   simp [eE,this])
  have hjn:owner.toList[j]?=some none:=by
   have fM:j<owner.size:=T3 [.e .x (.a .y .o),.l .z .y] (.t .z .x) tA h1 hj1
   have:owner[j]?=some none:=by
    simp [wj,fM]at MD
    simp [fM,MD]
   simpa using this
  have hp:((owner.setIfInBounds j (some k)).toList.filterMap id).Perm (bF (k+1)):=by
   rw [Array.toList_setIfInBounds,Ld]
   exact (qB _ _ hjn).trans ((h2.cons k).trans (xx _ _).symm)
  refine eZ (tH hm hs (owner.setIfInBounds j (some k)) (k+1) (by simpa using h1) hp (T3 [.l (.a .x (.a .y .o)) .z] (.l (.a (.a .x .o) .y) .z) tA h3)) fun vV e1 e2 e3=>?_
  refine (cB vV ?_ e2 (by simpa [BI,km 1]using e3))
  simp only [Lh]
  have:(do
    let (owner,k) ← some (owner,k)
    let j ← layClean.free mask owner (turns mask) (bits h % (mask+1)) (bits h)
    pure (owner.setIfInBounds j (some k),k+1):Option (Array (Option Nat)×Nat))=some (owner.setIfInBounds j (some k),k+1):=by simp [hj]
  rw [this,e1]
  simp [BI,km 1]
theorem pK(l:List (Option Nat)):(bF l.length).filterMap (fun j=>l.getD j none)=l.filterMap id:=by
 induction l with
 | nil=>rfl
 | cons x l ih =>
  rw [af,nC,cS,iE]
  have:((fun j=>(x::l).getD j none)∘Od)=fun j=>l.getD j none:=by funext j;rfl
  rw [this,ih]
  cases x <;> rfl
theorem sR{l:List Nat}(h:l.Pairwise (· < ·)):Q3 l.toArray:=fun i j pH hj=>by
 simp at hj
 have:=lg.mp h i j (bD (by assumption) (by assumption)) hj pH
 simpa [wj,hj,show i<l.length by (exact bD (by assumption) (by assumption))]using this
theorem sT{mask m:Nat}(hm:mask+1=2 ^ m){hashes:Array Int}(hn:hashes.size≤mask){finger moves:Nat}{led plain:Bool}:
  ∃t order,laid mask finger moves led plain hashes=some (t,order)∧order.toList.Perm (bF hashes.size)∧Q3 t.place∧(∀i,i<t.place.size→t.place.getD i 0≤mask)∧t.place.size=hashes.size∧t.dummies=#[]∧t.mask=mask∧t.plain=plain∧t.led=led:=by
 have h0:((JV (mask+1) (none:Option Nat)).toList.filterMap id).Perm (bF 0):=by simp
 refine eZ (tH hm hashes.toList (JV (mask+1) none) 0 (by simp) h0 (by simpa using hn)) fun owner e1 e2 e3=>?_
 rw [eQ]at e1 e3
 have hc:layClean mask hashes=some owner:=by
  unfold layClean
  rw [← Array.foldl_toList]
  simp only [e1,i0]
 have IU:((bF (mask+1)).filterMap (fun j=>(owner.getD j none).map (j,·))).map (·.2)=owner.toList.filterMap id:=by
  rw [Gd]
  have:(fun j=>((owner.getD j none).map (j,·)).map (·.2))=fun j=>owner.toList.getD j none:=by
   funext j
   rw [Option.map_map]
   have:((fun(x:Nat×Nat)=>x.2)∘fun x=>(j,x))=id:=rfl
   rw [this,Option.map_id]
   simp [eE]
  simp only [this,← e2,← aO,pK]
 have Ep:∀x∈(((bF (mask+1)).filterMap (fun j=>(owner.getD j none).map (j,·))).map (·.1)),x≤mask:=by
  intro x hx
  refine cG (cV.mp hx) fun G9 R9=>?_;obtain ⟨a,b⟩:=G9;(refine ao R9 fun hp Xp=>?_;try clear R9;clear hx;obtain rfl:=Xp)
  refine az (rZ.mp hp) fun j hj MD=>?_
  have:=xy.mp hj
  simp at MD
  refine ao MD fun _ R9=>?_;try clear MD;clear hj;obtain ⟨_,rfl,_⟩:=R9
  (exact cz (by assumption))
 have hpw:((((bF (mask+1)).filterMap (fun j=>(owner.getD j none).map (j,·))).map (·.1))).Pairwise (· < ·):=by
  rw [Gd]
  refine UB _ ?_ (List.pairwise_lt_range)
  intro a a' haa b hb b' ze
  simp at hb ze
  refine ao hb fun _ G8=>?_;try clear hb;obtain rfl:=G8
  refine ao ze fun _ G8=>?_;try clear ze;obtain rfl:=G8
  exact haa
 have hlen:(((bF (mask+1)).filterMap (fun j=>(owner.getD j none).map (j,·))).map (·.2)).length=hashes.size:=by
  rw [IU,e3.length_eq];simp
 refine (V28 _ _ (by unfold laid;rw [hc];rfl) ?_ (sR hpw) ?_ ?_ rfl rfl rfl rfl)
 ·show (((bF (mask+1)).filterMap (fun j=>(owner.getD j none).map (j,·))).map (·.2)).Perm _
  rw [IU];simpa using e3
 ·intro i hi
  refine Ep _ ?_
  have nR:i<(((bF (mask+1)).filterMap (fun j=>(owner.getD j none).map (j,·))).map (·.1)).length:=by simpa using hi
  have:(((((bF (mask+1)).filterMap (fun j=>(owner.getD j none).map (j,·))).map (·.1))).toArray.getD i 0)=(((bF (mask+1)).filterMap (fun j=>(owner.getD j none).map (j,·))).map (·.1))[i]:=by
   simp only [wj,tO,nR,dif_pos];rfl
  rw [this]
  exact jT nR
 ·simpa using hlen
theorem qU{es:Array (Int×Value)}{order:Array Nat}(h:order.toList.Perm (bF es.size)):(order.filterMap (es[·]?)).toList.Perm es.toList:=by
 rw [Array.toList_filterMap]
 refine (h.filterMap _).trans ?_
 have:(bF es.size).filterMap (fun i=>es[i]?)=es.toList:=by
  have e:∀(l:List (Int×Value)),(bF l.length).filterMap (fun i=>l[i]?)=l:=by
   intro l
   induction l with
   | nil=>rfl
   | cons x l ih =>
    simp only [af,nC,cS,iE]
    have:((fun i=>(x::l)[i]?)∘Od)=fun i=>l[i]?:=by funext j;simp
    rw [this,ih];rfl
  have:=e es.toList
  simpa using this
 rw [this]
end
section
open Sem (wp)
noncomputable def qV(s:Shared)(d:dg):Shared:={ s with heap:=s.heap.push (gT d) }
theorem gU(s:Shared)(d:dg):(qV s d).heap.get? s.heap.objs.size=some (gT d):=cR _ rfl
theorem gx{s:Shared}{d:dg}{a:Addr}{o:Obj}(h:s.heap.get? a=some o):(qV s d).heap.get? a=some o:=by
 exact aX _ h
theorem Ax(h:Heap)(o:Obj)(f:Obj→Obj):(h.push o).update h.objs.size f=h.push (f o):=by
 obtain ⟨objs,life⟩:=h
 simp only [YN,vh,wx,and_true]
 apply rR
 intro j
 simp only [jB,qg]
 by_cases hj:j=objs.size
 ·subst hj;simp
 ·have:objs.size≠j:=fun e=>hj e.symm
  simp [hj,this]
section
variable{prog:Program} {w:World} {A:eh} {E:Value→Shared→Prop} {s:Shared}
theorem jl{d:dg}{wJ:Array (Int×Value)}{t':fS}{Q:Unit→Shared→Prop}(hz:wJ.size≤bZ)(h:Q () (qV s ⟨wJ,d.n+1,t'⟩)):
  aR (aS prog w) A (sh s.heap.objs.size wJ t') Q E (qV s d):=by
 refine wpAny_storeSet_of (gU s d) rfl ?_ hz
 have:({ qV s d with heap:=(qV s d).heap.update s.heap.objs.size (zY wJ t') }:Shared)=qV s ⟨wJ,d.n+1,t'⟩:=by
  show ({ s with heap:=(s.heap.push (gT d)).update s.heap.objs.size (zY wJ t') }:Shared)=_
  rw [Ax]
  rfl
 rw [this]
 exact h
noncomputable def qW(d:dg)(wanted:Nat):dg:=match d.t.relaid (d.es.map (·.1)) wanted with
 | some (t',order)=>⟨order.filterMap (d.es[·]?),d.n+1,t'⟩
 | none=>d
theorem sU{wanted:Nat}(h:wanted<100000):(∃m,hJ wanted-1+1=2 ^ m)∧wanted≤hJ wanted-1∧¬hJ wanted>bZ:=by
 refine eZ (vU h) fun k h1 h2 h3=>?_
 have hp:0<2 ^ k:=pB k
 refine (d9 (dA (k+3) ?_) ?_ ?_)
 ·rw [h1,Nat.pow_add];exact T1 [.u (.m 8 .x) .o,.t (.n 0) .y] (.e (.a .x .o) (.r .y 8)) tA hp
 ·rw [h1];(exact Nat.le_sub_of_add_le (by assumption))
 ·rw [h1,aa]
  rcases h3 with rfl | h3
  ·decide
  ·exact T2 [.t .x (.n 100000),.l (.m 8 .y) (.m 2 .x)] (.T (.n 16777216) (.m 8 .y)) tA h h3
theorem qX{d:dg}{cs:List Str}{wanted:Nat}(hs:aQ prog w d.data cs)(hw:wanted<100000)(hl:cs.length≤wanted):
  ∃t' order,d.t.relaid (d.es.map (·.1)) wanted=some (t',order)∧(order.filterMap (d.es[·]?)).toList.Perm d.es.toList∧t'.fits (order.filterMap (d.es[·]?)).size=true∧t'.mask=hJ wanted-1∧t'.dummies=#[]:=by
 refine wB (aQ.facts hs) fun hf he hn hm _=>?_
 refine ao (sU hw) fun G9 R9=>?_;(refine cG G9 fun m hm2=>?_);(refine ao R9 fun hle _=>?_)
 refine U28 (sT hm2 (hashes:=d.es.map (·.1)) (by rw [ib,hn];(exact aJ (by assumption) (by assumption))) (finger:=d.t.finger) (moves:=d.t.movedTo (hJ wanted-1)) (led:=d.t.led) (plain:=d.t.plain)) fun t' order h1 h2 h3 h4 h5 h6 h7 h8 h9=>?_
 rw [ib]at h2 h5
 have hp:=qU h2
 refine (Jc t' order h1 hp ?_ h7 h6)
 rw [← aO,hp.length_eq,aO]
 simp only [j6,vy,h5,h6,h7,beq_self_eq_true,Ol,decide_eq_true_eq]
 show d.es.size+0≤_
 rw [hn];(exact aJ (by assumption) (by assumption))
theorem aQ.Cs{es wJ:Array (Int×Value)}{n n':Nat}{t t':fS}{cs:List Str}(hs:aQ prog w (.set es n t) cs)(hp:wJ.toList.Perm es.toList)(hf':t'.fits wJ.size=true):aQ prog w (.set wJ n' t') cs:=by
 refine wB hs.facts fun hf he hn hm PD=>?_
 exact (js _ _ _ rfl hf' (rS he hp) ((hp.map ek).trans PD))
theorem aQ.Mg{d:dg}{cs:List Str}{wanted:Nat}(hs:aQ prog w d.data cs)(hw:wanted<100000)(hl:cs.length≤wanted):aQ prog w (qW d wanted).data cs:=by
 refine Pz (qX hs hw hl) fun t' order h1 h2 h3 _ _=>?_
 unfold qW
 rw [h1]
 exact aQ.Cs hs h2 h3
theorem aQ.size{d:dg}{cs:List Str}(hs:aQ prog w d.data cs):d.es.size=cs.length∧d.t.fits d.es.size=true∧n8 (strKind prog w) d.es.toList∧∀c,c∈cs↔∃e∈d.es.toList,(strKind prog w).is c e.2=true:=by
 refine wB (aQ.facts hs) fun hf he hn hm _=>?_
 exact (ql hn hf he hm)
theorem zA{n:Nat}(h:n<2000):n≤bZ:=by rw [aa];exact T1 [.t .x (.n 2000)] (.l .x (.n 16777216)) tA h
theorem rO{d:dg}{cs:List Str}{wanted:Nat}{Q:Unit→Shared→Prop}(hs:aQ prog w d.data cs)(hn:cs.length<2000)(hw:wanted<100000)(hl:cs.length≤wanted)(h:Q () (qV s (qW d wanted))):
  aR (aS prog w) A (setRelay s.heap.objs.size wanted) Q E (qV s d):=by
 refine ip hs.size fun h1 h2 h3 h4=>?_
 refine Pz (qX hs hw hl) fun t' order e1 e2 e3 _ _=>?_
 unfold setRelay
 refine aA (cN (gU s d) rfl h2 ?_)
 dsimp only
 rw [if_neg (sU hw).2.2]
 rw [e1]
 have hz:(order.filterMap (d.es[·]?)).size=d.es.size:=by rw [← aO,e2.length_eq,aO]
 have key:∀g:xq (Array (Int×Value)×fS),g=pure (order.filterMap (d.es[·]?),t')→aR (aS prog w) A (g >>= fun x=>match x with | (es,t)=>sh s.heap.objs.size es t) Q E (qV s d):=by
  rintro g rfl
  refine aA (aC ?_)
  dsimp only
  refine jl (by rw [hz,h1];exact zA hn) ?_
  unfold qW at h
  rw [e1]at h
  exact h
 refine key _ ?_
 show (if (order.filterMap (d.es[·]?)).size != d.es.size then _ else _)=_
 rw [hz]
 simp
noncomputable def et(d:dg)(more:Nat):dg:=match d.t.roomFor more with
 | some wanted=>qW d wanted
 | none=>d
theorem Ay(n:Nat):cY n≤n*4:=by
 delta cY
 split
 ·exact Nat.mul_le_mul_left n (by decide)
 ·exact bX _
theorem Az(n:Nat):n≤cY n:=by
 delta cY
 split <;> exact Nat.le_mul_of_pos_right n (by decide)
theorem tI{d:dg}{cs:List Str}{more wanted:Nat}(hs:aQ prog w d.data cs)(hn:cs.length<2000)(hm:more<2000)(h:d.t.roomFor more=some wanted):wanted<100000∧cs.length≤wanted:=by
 refine ip hs.size fun h1 h2 h3 h4=>?_
 unfold ES at h
 split at h
 ·obtain rfl:=aE h
  simp only [j6,ae,beq_iff_eq]at h2
  rw [h2.1,h1]
  exact ⟨T2 [.t .x (.n 2000),.t .y (.n 2000)] (.t (.r (.a .x .y) 2) (.n 100000)) tA hn hm,T2 [] (.l .x (.r (.a .x .y) 2)) tA⟩
 ·contradiction
theorem aQ.room{d:dg}{cs:List Str}{more:Nat}(hs:aQ prog w d.data cs)(hn:cs.length<2000)(hm:more<2000):aQ prog w (et d more).data cs:=by
 unfold et
 cases hr:d.t.roomFor more with
 | none=>exact hs
 | some wanted =>
  refine ao (tI hs hn hm hr) fun h1 h2=>?_
  exact hs.Mg h1 h2
theorem tJ{d:dg}{cs:List Str}{more:Nat}{Q:Unit→Shared→Prop}(hs:aQ prog w d.data cs)(hn:cs.length<2000)(hm:more<2000)(h:Q () (qV s (et d more))):
  aR (aS prog w) A (setRoomFor s.heap.objs.size more) Q E (qV s d):=by
 refine ip hs.size fun h1 h2 h3 h4=>?_
 unfold setRoomFor
 refine aA (cN (gU s d) rfl h2 ?_)
 dsimp only
 unfold et at h
 cases hr:d.t.roomFor more with
 | none=>rw [hr]at h;exact aC h
 | some wanted =>
  refine ao (tI hs hn hm hr) fun e1 e2=>?_
  rw [hr]at h
  exact rO hs hn e1 e2 h
end
end
section
open Sem (wp)
open PySem.Builtin.Frozenset
section
variable{prog:Program} {w:World} {A:eh} {E:Value→Shared→Prop} {s:Shared}
noncomputable def dI(w:World):dg:=⟨#[],0,.fresh 0 0 (!w.params.followText "set-order")⟩
theorem oZ:aQ prog w (dI w).data []:=(js (#[]) 0 _ rfl rfl (fun e he=>by simp at he) (.rfl))
noncomputable def jK(w:World)(e:dg):dg :=
 let d:=et (dI w) e.es.size
 match d.t.road e.t with
 | .slotForSlot=>⟨e.es,d.n+1,{ e.t with finger:=d.t.finger,led:=d.t.led&&e.t.led,moves:=d.t.moves,plain:=d.t.plain&&e.t.plain }⟩
 | .clean=>match fS.laid d.t.mask d.t.finger d.t.moves (d.t.led&&e.t.led) (d.t.plain&&e.t.plain) (e.es.map (·.1))with
  | some (t',order)=>⟨order.filterMap (e.es[·]?),d.n+1,t'⟩
  | none=>d
 | .oneByOne=>d
theorem Mh{n:Nat}(hn:n<2000):(∃m,(et (dI w) n).t.mask+1=2 ^ m)∧n≤(et (dI w) n).t.mask∧(et (dI w) n).t.fill=0:=by
 have hz:(dI w).t.fill=0:=rfl
 have hm:(dI w).t.mask=7:=rfl
 have hp:(dI w).t.place.size=0:=rfl
 unfold et
 unfold ES
 simp only [hz,hm,hp]
 by_cases h:(0+n)*5≥7*3
 ·rw [if_pos h]
  dsimp only
  have hw:(0+n)*2<100000:=T1 [.t .x (.n 2000)] (.t (.r (.a (.n 0) .x) 2) (.n 100000)) tA hn
  refine Pz (qX (prog:=default) (w:=w) (wanted:=(0+n)*2) (oZ (w:=w)) hw (gm _)) fun t' order h1 h2 h3 h4 h5=>?_
  refine dO (sU hw) fun h6 h7 _=>?_
  unfold qW
  rw [h1]
  dsimp only
  rw [h4]
  refine (d9 h6 (T2 [.u .y .o,.l (.r (.a (.n 0) .y) 2) .x] (.l .y .x) tA h7) ?_)
  simp only [j6,ae,beq_iff_eq]at h3
  show t'.place.size+t'.dummies.size=0
  rw [h3.1,h5,← aO,h2.length_eq]
  rfl
 ·rw [if_neg h]
  dsimp only
  rw [hm]
  exact (d9 (dA 3 rfl) (T1 [.L (.m 7 (.n 3)) (.r (.a (.n 0) .x) 5)] (.l .x (.n 7)) tA h) hz)
theorem aQ.copy{e:dg}{cs:List Str}(hs:aQ prog w e.data cs)(hn:cs.length<2000):aQ prog w (jK w e).data cs:=by
 refine ip hs.size fun h1 h2 h3 h4=>?_
 refine ao (Mh (w:=w) (n:=e.es.size) (by rw [h1];exact hn)) fun G9 R9=>?_;(refine cG G9 fun m hm=>?_);(refine ao R9 fun hle hf=>?_)
 unfold jK
 dsimp only
 cases hr:(et (dI w) e.es.size).t.road e.t with
 | slotForSlot=>exact aQ.Cs hs .rfl h2
 | clean =>
  obtain ⟨t',order,e1,e2,e3,e4,e5,e6,e7,e8,e9⟩:=sT hm (hashes:=e.es.map (·.1)) (by rw [ib];exact hle) (finger:=(et (dI w) e.es.size).t.finger) (moves:=(et (dI w) e.es.size).t.moves)
   (led:=(et (dI w) e.es.size).t.led&&e.t.led) (plain:=(et (dI w) e.es.size).t.plain&&e.t.plain)
  dsimp only
  rw [e1]
  rw [ib]at e2 e5
  have hp:=qU e2
  have hz:(order.filterMap (e.es[·]?)).size=e.es.size:=by rw [← aO,hp.length_eq,aO]
  refine aQ.Cs hs hp ?_
  show t'.fits (order.filterMap (e.es[·]?)).size=true
  rw [hz]
  simp only [j6,vy,e5,e6,e7,beq_self_eq_true,Ol,decide_eq_true_eq]
  exact hle
 | oneByOne =>
  exfalso
  unfold vz at hr
  rw [hf]at hr
  dsimp [iF,iT,iG,iU,iH,iV,nT,nF,aT,aF,oT,oF]at hr
  split at hr <;> contradiction
theorem zB{a:Addr}{o:Obj}{e:dg}{cs:List Str}{each:xq Unit}{Q:Unit→Shared→Prop}(ho:s.heap.get? a=some o)(hd:o.data=e.data)(hs:aQ prog w e.data cs)(hn:cs.length<2000)(cx:cs≠[])
  (h:Q () (qV s (jK w e))):aR (aS prog w) A (YQ s.heap.objs.size a each) Q E (qV s (dI w)):=by
 refine ip hs.size fun h1 h2 h3 h4=>?_
 have fM:a<s.heap.objs.size:=av ho
 refine ao (Mh (w:=w) (n:=e.es.size) (by rw [h1];exact hn)) fun G9 R9=>?_;(refine cG G9 fun m hm=>?_);(refine ao R9 fun hle hf=>?_)
 unfold YQ
 have Ct:(s.heap.objs.size == a)=false:=beq_eq_false_iff_ne.mpr (cW fM)
 rw [Ct]
 dsimp only [aL,↓reduceIte,iF,iT,iG,iU,iH,iV,nT,nF,aT,aF,oT,oF]
 refine aA (cN (gx ho) hd h2 ?_)
 dsimp only
 have Xq:e.es.isEmpty=false:=by
  rw [wy]
  intro hx
  rw [hx]at h1
  exact cx (aP h1.symm)
 rw [Xq]
 dsimp only [aL,↓reduceIte,iF,iT,iG,iU,iH,iV,nT,nF,aT,aF,oT,oF]
 refine aA (tJ oZ (by decide) (by rw [h1];exact hn) ?_)
 have sE:=(oZ (prog:=prog) (w:=w)).room (more:=e.es.size) (by decide) (by rw [h1];exact hn)
 refine aA (cN (gU s _) rfl sE.size.2.1 ?_)
 dsimp only
 unfold jK at h
 dsimp only at h
 cases hr:(et (dI w) e.es.size).t.road e.t with
 | slotForSlot =>
  rw [hr]at h
  dsimp only at h ⊢
  exact jl (by rw [h1];exact zA hn) h
 | clean =>
  obtain ⟨t',order,e1,e2,e3,e4,e5,e6,e7,e8,e9⟩:=sT hm (hashes:=e.es.map (·.1)) (by rw [ib];exact hle) (finger:=(et (dI w) e.es.size).t.finger) (moves:=(et (dI w) e.es.size).t.moves)
   (led:=(et (dI w) e.es.size).t.led&&e.t.led) (plain:=(et (dI w) e.es.size).t.plain&&e.t.plain)
  rw [hr]at h
  dsimp only at h ⊢
  rw [e1]at h ⊢
  dsimp only at h
  rw [ib]at e2 e5
  have hp:=qU e2
  have hz:(order.filterMap (e.es[·]?)).size=e.es.size:=by rw [← aO,hp.length_eq,aO]
  have key:∀g:xq (Array (Int×Value)×fS),g=pure (order.filterMap (e.es[·]?),t')→aR (aS prog w) A (g >>= fun x=>match x with | (es,t)=>sh s.heap.objs.size es t) Q E (qV s (et (dI w) e.es.size)):=by
   rintro g rfl
   refine aA (aC ?_)
   dsimp only
   exact jl (by rw [hz,h1];exact zA hn) h
  refine key _ ?_
  show (if (order.filterMap (e.es[·]?)).size != e.es.size then _ else _)=_
  rw [hz]
  simp
 | oneByOne =>
  exfalso
  unfold vz at hr
  rw [hf]at hr
  dsimp [iF,iT,iG,iU,iH,iV,nT,nF,aT,aF,oT,oF]at hr
  split at hr <;> contradiction
theorem Cu{Q:Value→Shared→Prop}(h:Q (.ref s.heap.objs.size) (qV s (dI w))):aR (aS prog w) A (newSet (.type "frozenset")) Q E s:=by
 delta newSet Om
 refine aA (aA (iC (aC ?_)))
 dsimp only
 dsimp only [newObj]
 exact aA (zi (aC h))
theorem lR{a:Addr}{o:Obj}(ho:s.heap.get? a=some o)(hc:o.cls=.type "frozenset"):s.TypeIs (.ref a) "frozenset":=(aw o ho hc)
theorem IV:tM (.type "frozenset") (.type "set")=pure false:=by rw [ba];kernel_rfl
theorem OG:tM (.type "frozenset") (.type "frozenset")=pure true:=by rw [ba];kernel_rfl
theorem fW{a:Addr}{o:Obj}{Q:Bool→Shared→Prop}(ho:s.heap.get? a=some o)(hc:o.cls=.type "frozenset")(h:Q true s):aR (aS prog w) A (isAnySet (.ref a)) Q E s:=by
 unfold isAnySet
 refine aA (pY (lR ho hc) IV ?_)
 exact pY (lR ho hc) OG h
theorem zC{a:Addr}{o:Obj}{Q:Value→Shared→Prop}(ho:s.heap.get? a=some o)(hc:o.cls=.type "frozenset")(h:Q (.type "frozenset") s):aR (aS prog w) A (baseOf a) Q E s:=by
 unfold baseOf
 exact aA (pY (lR ho hc) IV (aC h))
theorem tK{a:Addr}{o:Obj}{e:dg}{cs:List Str}{Q:Value→Shared→Prop}(ho:s.heap.get? a=some o)(hc:o.cls=.type "frozenset")(hd:o.data=e.data)(hs:aQ prog w e.data cs)(hn:cs.length<2000)(cx:cs≠[])
  (h:Q (.ref s.heap.objs.size) (qV s (jK w e))):aR (aS prog w) A (copyOf a) Q E s:=by
 unfold copyOf
 refine aA (zC ho hc ?_)
 refine aA (Cu ?_)
 refine aA (aC ?_)
 refine aA (zB ho hd hs hn cx ?_)
 exact aC h
end
end
section
open Sem (wp)
open PySem.Builtin.Frozenset
section
variable{prog:Program} {w:World} {A:eh} {E:Value→Shared→Prop} {s:Shared}
theorem vW{α:Type}{l:List α}{i:Nat}(h:i<l.length):(l[i]::l.eraseIdx i).Perm l:=by
 rw [tm]
 refine List.perm_middle.symm.trans ?_
 rw [List.getElem_cons_drop]
 rw [List.take_append_drop]
theorem xo{α:Type}(next:Nat→Nat):∀(k fuel:Nat) (l:List α) (out:Array α),l.length=fuel→(zZ.go next fuel k l out).toList.Perm (out.toList++l)
 | k,0,l,out,h=>by
  have:=aP h
  clear h;subst this
  simp [zZ.go]
 | k,fuel+1,l,out,h=>by
  have fM:next k % l.length<l.length:=oJ _ (T2 [.e .x (.a .y .o)] (.t (.n 0) .x) tA h)
  have hg:l[next k % l.length]?=some l[next k % l.length]:=aU fM
  unfold zZ.go
  rw [hg]
  dsimp only
  refine (xo next (k+1) fuel _ _ (by rw [lE fM,h];rfl)).trans ?_
  rw [iZ,bU]
  refine List.Perm.append_left _ ?_
  exact vW fM
noncomputable def fh(w:World)(b:Addr)(e:dg):Array (Int×Value):=if w.params.followText "set-order" then zZ (w.params.setOrder b e.n) e.es else e.es
theorem vX(b:Addr)(e:dg):(fh w b e).toList.Perm e.es.toList:=by
 unfold fh
 split
 ·unfold zZ
  exact xo _ _ _ _ _ (aO)
 ·exact .rfl
theorem B0{l:List Addr}{Q:Bool→Shared→Prop}(hl:∀a∈l,∃(o:Obj) (e:dg) (cs:List Str),s.heap.get? a=some o∧o.data=e.data∧aQ prog w e.data cs)(h:Q true s):aR (aS prog w) A (setsQuiet l) Q E s:=by
 unfold setsQuiet
 refine aA ?_
 refine U4 _ (fun rest b s'=>b=⟨none,()⟩∧s'=s∧∀a∈rest,a∈l) _ ?_ ?_ l _ (d9 rfl rfl (fun a h=>h))
 ·rintro a rest b s' R4
  refine ao R4 fun G9 R9=>?_;try clear R4;obtain rfl:=G9;(refine ao R9 fun G9 hr=>?_;try clear R9;obtain rfl:=G9)
  refine Oz (hl a (hr a aH)) fun o e cs ho hd hs=>?_
  refine ip hs.size fun h1 h2 h3 h4=>?_
  refine aA (Mw ho hd h2 ?_)
  refine aA ?_
  refine vi _ (fun Mi b' vj=>b'=⟨none,()⟩∧vj=s'∧∀x∈Mi,x∈e.es.toList) _ ?_ ?_ e.es _ (d9 rfl rfl (fun a h=>h))
  ·rintro x Mi b' vj R4
   refine ao R4 fun G9 R9=>?_;try clear R4;obtain rfl:=G9;(refine ao R9 fun G9 vm=>?_;try clear R9;clear hl h ho;obtain rfl:=G9)
   refine gP (j3 h3 x (vm x aH)) fun c' t' q1 q2=>?_
   obtain ⟨h',v⟩:=x
   dsimp only at q1
   clear q2;subst q1
   exact aC (d9 rfl rfl (fun y hy=>vm y (aG _ hy)))
  ·rintro b' vj R4
   refine ao R4 fun G9 R9=>?_;try clear R4;obtain rfl:=G9;(refine ao R9 fun G9 _=>?_;try clear R9;clear hl h ho;obtain rfl:=G9)
   exact aC (d9 rfl rfl (fun y hy=>hr y (aG _ hy)))
 ·rintro b' vj R4
  refine ao R4 fun G9 R9=>?_;try clear R4;obtain rfl:=G9;(refine ao R9 fun G9 _=>?_;try clear R9;clear hl;obtain rfl:=G9)
  exact aC h
theorem Cv{b:Addr}{o:Obj}{e:dg}{cs:List Str}{Q:Array (Int×Value)→Shared→Prop}(ho:s.heap.get? b=some o)(hd:o.data=e.data)(hs:aQ prog w e.data cs)
  (hq:w.params.followText "set-order" = true∨(e.t.led&&e.t.plain)=true∨e.es.size≤1) (h:Q (fh w b e) s):aR (aS prog w) A (setWalk b) Q E s:=by
 refine ip hs.size fun h1 h2 h3 h4=>?_
 unfold fh at h
 unfold setWalk
 refine aA (cN ho hd h2 ?_)
 dsimp only
 unfold Om
 refine aA (aA (iC (aC ?_)))
 show aR _ A (if w.params.followText "set-order" = true then _ else _) _ _ _
 cases hf:w.params.followText "set-order" with
 | true =>
  rw [hf]at h
  dsimp only [↓reduceIte,iF,iT,iG,iU,iH,iV,nT,nF,aT,aF,oT,oF]
  exact aA (iC (aC h))
 | false =>
  rw [hf]at h
  dsimp only [aL,↓reduceIte,iF,iT,iG,iU,iH,iV,nT,nF,aT,aF,oT,oF]
  simp only [aL,↓reduceIte]at h
  have M0:(!e.t.plain&&decide (e.es.size>1))=false:=by
   rcases hq with hq | hq | hq
   ·rw [hf]at hq;exact aD hq
   ·rw [(gj.mp hq).2];rfl
   ·rw [decide_eq_false (ei.mpr hq),lD]
  have hle:(!e.t.led&&decide (e.es.size>1))=false:=by
   rcases hq with hq | hq | hq
   ·rw [hf]at hq;exact aD hq
   ·rw [(gj.mp hq).1];rfl
   ·rw [decide_eq_false (ei.mpr hq),lD]
  show aR _ A (if (!e.t.plain&&decide (e.es.size>1))=true then _ else _) _ _ _
  rw [M0]
  dsimp only [aL,↓reduceIte,iF,iT,iG,iU,iH,iV,nT,nF,aT,aF,oT,oF]
  show aR _ A ((if (!e.t.led&&decide (e.es.size>1))=true then _ else _) >>= _) _ _ _
  rw [hle]
  dsimp only [aL,↓reduceIte,iF,iT,iG,iU,iH,iV,nT,nF,aT,aF,oT,oF]
  exact aA (aC (aC h))
theorem mH{b:Addr}{o:Obj}{e:dg}{cs:List Str}{others:List Addr}{Q:Array (Int×Value)→Shared→Prop}(ho:s.heap.get? b=some o)(hd:o.data=e.data)(hs:aQ prog w e.data cs)
  (hl:∀a∈others,∃(o:Obj) (e:dg) (cs:List Str),s.heap.get? a=some o∧o.data=e.data∧aQ prog w e.data cs) (filled:Option Addr) (hf:filled=none∨e.es.size≤1) (h:Q (fh w b e) s):aR (aS prog w) A (setWalkUnseen b others filled) Q E s:=by
 refine ip hs.size fun h1 h2 h3 h4=>?_
 unfold setWalkUnseen
 refine aA (cN ho hd h2 ?_)
 dsimp only
 unfold Om
 refine aA (aA (iC (aC ?_)))
 show aR _ A (if (w.params.followText "set-order" || (e.t.led&&e.t.plain)||decide (e.es.size≤1))=true then _ else _) _ _ _
 by_cases hc:(w.params.followText "set-order" || (e.t.led&&e.t.plain)||decide (e.es.size≤1))=true
 ·rw [if_pos hc]
  refine Cv ho hd hs ?_ h
  simpa [or_assoc]using hc
 ·rw [if_neg hc]
  have yQ:w.params.followText "set-order" = false∧e.es.size>1:=by
   simp only [dT,decide_eq_true_eq,not_or,JT,YR]at hc
   exact ⟨hc.1.1,hc.2⟩
  refine aA (B0 ?_ ?_)
  ·intro a ha
   rcases aq.mp ha with rfl | ha
   ·exact (tq o e cs ho hd hs)
   ·exact hl a ha
  ·dsimp only [rU,aL,↓reduceIte,iF,iT,iG,iU,iH,iV,nT,nF,aT,aF,oT,oF]
   refine aA (kL ?_)
   rcases hf with rfl | hf
   ·unfold fh at h
    rw [yQ.1]at h
    exact aC h
   ·exact absurd hf (YR.mpr yQ.2)
theorem OH{α:Type}{M:nN}{t:xq α}{Q:α→Shared→Prop}(h:∀Γ p,wp M Γ t (fun a _ s'=>Q a s') (fun e _ s'=>E e s') p s):aR M A t Q E s:=fun Γ p _=>h Γ p
theorem Cw{d:dg}{cs:List Str}{c:Str}{tk:qC}{h:Int}{Q:Bool→Shared→Prop}(hs:aQ prog w d.data cs)(hc:c∉cs)(hn:cs.length<2000)(hh:h=jX w c)(hq:∀b,Q b (qV s (vO d.data h c tk))):
  aR (aS prog w) A (wq s.heap.objs.size (.str c tk) h) Q E (qV s d):=by
 refine OH fun Γ p=>IS (prog:=prog) (w:=w) (gU s d) (GH cs hs hc hn hh) fun b=>?_
 have:({ qV s d with heap:=(qV s d).heap.update s.heap.objs.size fun _=>Obj.mh (gT d) (vO (gT d).data h c tk) }:Shared)=qV s (vO d.data h c tk):=by
  show ({ s with heap:=(s.heap.push (gT d)).update s.heap.objs.size _ }:Shared)=_
  rw [Ax]
  rfl
 show Q b _
 rw [this]
 exact hq b
noncomputable def mr(d:dg)(x:Int×Value):dg:=match d.es.toList.findIdx? (fun e=>d7 (ek x) e.2)with
 | some j=>⟨eC d.es (0+j),d.n+1,d.t.drop (0+j)⟩
 | none=>d
theorem iR{α:Type}{xs:Array α}{j:Nat}(h:j<xs.size):(eC xs j).toList=xs.toList.eraseIdx j:=by
 rw [tm]
 simp [eC,List.extract_eq_take_drop,dM]
theorem vY{t:fS}{n:Nat}:t.fits n=true↔t.place.size=n∧t.place.size+t.dummies.size≤t.mask:=by
 delta j6 vy
 rw [ae,beq_iff_eq,decide_eq_true_eq]
theorem Fq{t:fS}{n j:Nat}(hf:t.fits n=true)(hj:j<n):(t.drop j).fits (n-1)=true:=by
 refine ao (vY.mp hf) fun f1 f2=>?_
 have hg:t.place[j]?=some t.place[j]:=lX (by rw [f1];exact hj)
 have h1:(eC t.place j).size=t.place.size-1:=by
  rw [← aO,iR (by rw [f1];exact hj),lE (by rw [aO,f1];exact hj),aO]
 have h2:∀p x,(DQ t.dummies p x).size=t.dummies.size+1:=by
  intro p x
  (simp only [← aO];simp only [(fS.insertAt_perm t.dummies p x).length_eq];simp only [aO];simp only [nO])
 have e:t.drop j={ t with place:=eC t.place j,dummies:=DQ t.dummies (fS.below t.dummies t.place[j]) t.place[j] }:=by
  unfold fS.drop
  rw [hg]
 rw [e]
 refine vY.mpr ?_
 dsimp only
 rw [h1,h2,f1]
 rw [f1]at f2
 exact ⟨rfl,by exact T4 [.u .y .o,.t .y .z,.l (.a .z .w) .s] (.l (.a .x (.a .w .o)) .s) tA hj f2⟩
theorem aQ.drop{d:dg}{cs:List Str}{x:Int×Value}(hs:aQ prog w d.data cs)(hx:ek x∈cs):∃j,d.es.toList.findIdx? (fun e=>(strKind prog w).is (ek x) e.2)=some j∧mr d x=⟨eC d.es (0+j),d.n+1,d.t.drop (0+j)⟩∧j<d.es.size∧aQ prog w (mr d x).data (cs.erase (ek x)):=by
 refine wB (aQ.facts hs) fun hf he hn hm hp=>?_
 refine az ((hm _).mp hx) fun e h1 h2=>?_
 cases hr:d.es.toList.findIdx? (fun e=>(strKind prog w).is (ek x) e.2)with
 | none =>
  have:=List.findIdx?_eq_none_iff.mp hr e h1
  rw [h2]at this
  exact aD this
 | some j =>
  refine az (List.findIdx?_eq_some_iff_getElem.mp hr) fun hj hpj _=>?_
  have pz:j<d.es.size:=by simp only [← aO];exact hj
  have hd:mr d x=⟨eC d.es (0+j),d.n+1,d.t.drop (0+j)⟩:=by
   unfold mr
   have:d.es.toList.findIdx? (fun e=>d7 (ek x) e.2)=some j:=hr
   rw [this]
  refine (GH j rfl hd pz ?_)
  rw [hd,eQ]
  have hz:(eC d.es j).size=d.es.size-1:=by
   rw [← aO,iR pz,lE hj,aO]
  refine (js _ _ _ rfl ?_ ?_ ?_)
  ·rw [hz]
   exact Fq hf pz
  ·intro e' A3
   rw [iR pz]at A3
   exact he e' (List.mem_of_mem_eraseIdx A3)
  ·rw [iR pz]
   have h3:=(vW hj).map ek
   rw [aK]at h3
   have h4:ek d.es.toList[j]=ek x:=(vR he _ (jT hj) _).mp hpj
   rw [h4]at h3
   have h5:=(h3.trans hp).erase (ek x)
   rw [List.erase_cons_head]at h5
   exact h5
theorem B1{d:dg}{cs:List Str}{c:Str}{tk:qC}{h:Int}{Q:Bool→Shared→Prop}(hs:aQ prog w d.data cs)(hc:c∈cs)(hn:cs.length<2000)(hh:h=jX w c)(hq:∀b,Q b (qV s (mr d (h,.str c tk)))):
  aR (aS prog w) A (UC s.heap.objs.size (.str c tk) h) Q E (qV s d):=by
 refine ip hs.size fun h1 h2 h3 h4=>?_
 refine Gg (hs.drop (x:=(h,.str c tk)) hc) fun j e1 e2 e3 e4=>?_
 unfold UC
 refine aA ?_
 unfold setFind setFindIn
 refine aA (cN (gU s d) rfl h2 ?_)
 dsimp only
 rw [byScan_of (knd:=strKind prog w) rfl (by rw [h1];exact bD hn (by decide)) h3]
 dsimp only [↓reduceIte,iF,iT,iG,iU,iH,iV,nT,nF,aT,aF,oT,oF]
 refine aA (kL ?_)
 have hk:h=(strKind prog w).hash c:=hh
 rw [hk]
 refine aA (wpAny_setScan_of (knd:=strKind prog w) (k:=c) (z8.mpr rfl) (gU s d) rfl h2 h3 ?_)
 have FG:d.es.toList.findIdx? (fun e=>(strKind prog w).is c e.2)=some j:=e1
 rw [FG]
 dsimp only
 refine aC ?_
 dsimp only
 refine aA (cN (gU s d) rfl h2 ?_)
 dsimp only
 refine aA (jl ?_ ?_)
 ·rw [← aO,iR (by rw [eQ];exact e3)]
  refine aJ (List.length_eraseIdx_le _ _) ?_
  simp only [aO,h1]
  exact zA hn
 ·refine aA (wpAny_point ?_)
  refine aC ?_
  rw [← e2]
  rw [hk]at hq
  exact hq true
end
end
section
open Sem (wp)
open PySem.Builtin.Frozenset
noncomputable def Cy:Data→dg
 | .set es n t=>⟨es,n,t⟩
 | _=>⟨#[],0,.fresh 0 0 false⟩
noncomputable def Fs(d:dg):Int×Value→dg
 | (h,.str c tk)=>vO d.data h c tk
 | _=>d
noncomputable def EF(d:dg):dg:=if d.t.tooManyDummies then qW d (cY d.es.size)else d
noncomputable def Cz(w:World)(j0:Bool)(b:Addr)(d d':Data):dg:=match j0 with
 | true=>(fh w b (Cy d')).toList.foldl Fs (et (jK w (Cy d)) (Cy d').es.size)
 | false=>EF ((fh w b (Cy d')).toList.foldl mr (jK w (Cy d)))
noncomputable def mI(prog:Program)(w:World)(j0:Bool)(d d':Data):Prop:=∃cs ph,aQ prog w d cs∧aQ prog w d' ph∧cs≠[]∧cs.length<1000∧cs.Nodup∧match j0 with
 | true=>∃c,ph=[c]∧c∉cs
 | false=>ph.Nodup∧(∀c∈ph,c∈cs)∧ph≠[]∧ph.length<8∧ph.length<cs.length / 4
section
variable{prog:Program} {w:World} {A:eh} {E:Value→Shared→Prop} {s:Shared}
theorem mJ{d:Data}{cs:List Str}(h:aQ prog w d cs):(Cy d).data=d:=by
 refine j7 h fun es n t G5 _=>?_;try clear h;obtain rfl:=G5
 rfl
theorem mi{b:Addr}{e:dg}{cs:List Str}(hs:aQ prog w e.data cs):n8 (strKind prog w) (fh w b e).toList∧((fh w b e).toList.map ek).Perm cs:=by
 refine wB (aQ.facts hs) fun hf he hn hm hp=>?_
 exact ⟨rS he (vX b e),((vX b e).map ek).trans hp⟩
theorem B2:∀(l:List (Int×Value)) (d:dg) (cs:List Str),aQ prog w d.data cs→n8 (strKind prog w) l→aQ prog w (l.foldl Fs d).data ((l.map ek).reverse++cs)
 | [],d,cs,h,_=>h
 | x::l,d,cs,h,hl=>by
  refine gP (j3 hl x aH) fun c t h1 h2=>?_
  obtain ⟨hv,v⟩:=x
  dsimp only at h1 h2
  subst h1
  have:=B2 l (vO d.data hv c t) (c::cs) (h.toAdd t h2) fun e he=>hl e (aG _ he)
  simp only [aK,ik,bU]
  exact this
theorem sV:∀(l:List (Int×Value)) (d:dg) (cs:List Str),aQ prog w d.data cs→(l.map ek).Nodup→(∀c∈l.map ek,c∈cs)→aQ prog w (l.foldl mr d).data ((l.map ek).foldl nP cs)
 | [],d,cs,h,_,_=>h
 | x::l,d,cs,h,hn,hl=>by
  refine Gg (h.drop (x:=x) (hl _ (by rw [aK];exact aH))) fun j e1 e2 e3 e4=>?_
  rw [aK,dy]at hn
  refine sV l _ _ e4 hn.2 fun c hc=>?_
  refine (qE ?_).mpr (hl c (by rw [aK];exact aG _ hc))
  rintro rfl
  exact hn.1 hc
theorem o9{a:Addr}{o:Obj}{e:dg}{cs:List Str}{Q:Nat→Shared→Prop}(ho:s.heap.get? a=some o)(hd:o.data=e.data)(hs:aQ prog w e.data cs)(h:Q e.n s):aR (aS prog w) A (setEpoch a) Q E s :=
 wpAny_setEpoch_of ho hd hs.size.2.1 h
theorem mv{a:Addr}{id:String}{o:Obj}{e:dg}{cs:List Str}{Q:Unit→Shared→Prop}(ho:s.heap.get? a=some o)(hd:o.data=e.data)(hs:aQ prog w e.data cs)(h:Q () s):aR (aS prog w) A (unchanged id a e.n) Q E s:=by
 unfold unchanged
 refine aA (o9 ho hd hs ?_)
 rw [bne_self_eq_false]
 exact aC h
theorem jm{a:Addr}{o:Obj}{e:dg}{cs:List Str}{Q:Nat→Shared→Prop}(ho:s.heap.get? a=some o)(hd:o.data=e.data)(hs:aQ prog w e.data cs)(h:Q cs.length s):aR (aS prog w) A (qk a) Q E s:=by
 unfold qk
 refine aA (Mw ho hd hs.size.2.1 ?_)
 rw [hs.size.1]
 exact aC h
theorem Ft{e:dg}{cs:List Str}{k:Nat}(hs:aQ prog w e.data cs)(hn:cs.length<2000)(hk:k<2000)(cx:cs≠[])(hr:(et (jK w e) k).t.road=(et (jK w e) k).t.road):∀o,(et (jK w e) k).t.road o=.oneByOne:=by
 intro o
 have h1:=(hs.copy hn).room (more:=k) hn hk
 refine ip h1.size fun e1 e2 _ _=>?_
 have f1:=(vY.mp e2).1
 have nV:cs.length≠0:=fun h=>cx (aP h)
 unfold vz
 have:(et (jK w e) k).t.fill≠0:=by
  show (et (jK w e) k).t.place.size+_≠0
  rw [f1,e1]
  exact T2 [.E .x (.n 0)] (.E (.a .x .y) (.n 0)) tA nV
 rw [if_pos (bne_iff_ne.mpr this)]
theorem wV{a b:Addr}{o:Obj}{d e:dg}{cs ph:List Str}{id:String}{Q:Unit→Shared→Prop}(ho:s.heap.get? b=some o)(hd:o.data=e.data)(hs:aQ prog w e.data ph)(hD:aQ prog w (jK w d).data cs)(Zu:aQ prog w d.data cs)(hn:cs.length<1000)(cx:cs≠[])
  {c:Str} (hc:ph=[c]) (Vs:c∉cs) (h:Q () (qV s ((fh w b e).toList.foldl Fs (et (jK w d) e.es.size)))):aR (aS prog w) A (merge id s.heap.objs.size b) Q E (qV s (jK w d)):=by
 refine ip hs.size fun h1 h2 h3 h4=>?_
 have fM:b<s.heap.objs.size:=av ho
 have hsz:e.es.size=1:=by rw [h1,hc];rfl
 unfold merge
 refine aA (o9 (gx ho) hd hs ?_)
 unfold YQ
 have Ct:(s.heap.objs.size == b)=false:=beq_eq_false_iff_ne.mpr (cW fM)
 rw [Ct]
 dsimp only [aL,↓reduceIte,iF,iT,iG,iU,iH,iV,nT,nF,aT,aF,oT,oF]
 refine aA (cN (gx ho) hd h2 ?_)
 dsimp only
 have Xq:e.es.isEmpty=false:=by
  rw [wy]
  intro hx
  rw [hx]at hsz
  contradiction
 rw [Xq]
 dsimp only [aL,↓reduceIte,iF,iT,iG,iU,iH,iV,nT,nF,aT,aF,oT,oF]
 refine aA (tJ hD (bD (by assumption) (by decide)) (by rw [hsz];decide) ?_)
 have hR:=hD.room (more:=e.es.size) (bD (by assumption) (by decide)) (by rw [hsz];decide)
 refine aA (cN (gU s _) rfl hR.size.2.1 ?_)
 dsimp only
 rw [Ft Zu (bD (by assumption) (by decide)) (by rw [hsz];decide) cx rfl]
 dsimp only
 refine aA (mH (gx ho) hd hs ?_ _ (.inr (dP (by assumption))) ?_)
 ·intro a ha
  rw [bG]at ha
  subst ha
  exact (tq _ _ _ (gU s _) rfl hR)
 ·refine ao (mi (b:=b) hs) fun w1 w2=>?_
  rw [hc]at w2
  have tB:(fh w b e).toList.length=1:=by rw [← cP (f:=ek),w2.length_eq];rfl
  refine aA ?_
  refine vi _ (fun rest _ s'=>∃m jL,s'=qV s m∧aQ prog w m.data jL∧rest.foldl Fs m=(fh w b e).toList.foldl Fs (et (jK w d) e.es.size)∧(rest=[]∨jL=cs)∧rest.length≤1∧∀x∈rest,x∈(fh w b e).toList) _ ?_ ?_ _ _ (Ox _ cs rfl hR rfl (.inr rfl) (dP tB) (fun x hx=>hx))
  ·rintro x rest _ s' R4
   refine gP R4 fun m jL G7 R9=>?_;try clear R4;obtain rfl:=G7;(refine wB R9 fun q1 q2 q3 q4 q5=>?_;try clear R9)
   have hx:=q5 x aH
   refine gP (j3 w1 x hx) fun c' t' r1 r2=>?_
   obtain ⟨hv,v⟩:=x
   dsimp only at r1 r2
   subst r1
   have QI:c'=c:=by
    have:=w2.mem_iff.mp (gy (f:=ek) hx)
    exact bG.mp this
   have Xr:jL=cs:=by
    rcases q3 with q3 | q3
    ·contradiction
    ·exact q3
   have hrest:rest=[]:=aP (by simp only [af]at q4;(exact dh (by assumption)))
   clear hD Zu cx hR q3;subst Xr
   dsimp only
   refine aA (bS (Cw q1 (by rw [QI];exact Vs) (bj (by assumption) (by decide)) r2 fun bb=>?_))
   refine aA (mv (gx ho) hd hs ?_)
   refine aA (cN (gx ho) hd h2 ?_)
   dsimp only
   rw [bne_self_eq_false]
   dsimp only [aL,↓reduceIte,iF,iT,iG,iU,iH,iV,nT,nF,aT,aF,oT,oF]
   refine aC ?_
   exact (Ox _ _ rfl (q1.toAdd t' r2) q2 (.inl hrest) (by rw [hrest];decide) (fun y hy=>q5 y (aG _ hy)))
  ·rintro _ s' R4
   refine gP R4 fun m jL G7 R9=>?_;try clear R4;obtain rfl:=G7;(refine wB R9 fun q1 q2 q3 q4 q5=>?_;try clear R9)
   have:m=(fh w b e).toList.foldl Fs (et (jK w d) e.es.size):=q2
   rw [this]
   exact aC h
theorem wW{a b:Addr}{o:Obj}{d e:dg}{cs ph:List Str}{id:String}{Q:Unit→Shared→Prop}(ho:s.heap.get? b=some o)(Qx:o.cls=.type "frozenset")(hd:o.data=e.data)(hs:aQ prog w e.data ph)(hD:aQ prog w d.data cs)(hn:cs.length<1000)(hnd:cs.Nodup)
  (JG:ph.Nodup) (A0:∀c∈ph,c∈cs) (h8:ph.length<8) (h:Q () (qV s (EF ((fh w b e).toList.foldl mr d)))):aR (aS prog w) A (differenceUpdate id s.heap.objs.size (.ref b)) Q E (qV s d):=by
 refine ip hs.size fun h1 h2 h3 h4=>?_
 have fM:b<s.heap.objs.size:=av ho
 refine ao (mi (b:=b) hs) fun w1 w2=>?_
 unfold differenceUpdate
 have Ct:(dD b == dD s.heap.objs.size)=false:=by
  rw [beq_eq_false_iff_ne]
  intro hx
  clear ho h w1 w2;cases hx
  exact eR _ fM
 rw [Ct]
 dsimp only [aL,↓reduceIte,iF,iT,iG,iU,iH,iV,nT,nF,aT,aF,oT,oF]
 refine aA (fW (gx ho) Qx ?_)
 dsimp only [↓reduceIte,iF,iT,iG,iU,iH,iV,nT,nF,aT,aF,oT,oF]
 refine aA (aC ?_)
 refine aA (jm (gx ho) hd hs ?_)
 refine aA (jm (gU s d) rfl hD ?_)
 have hdiv:¬ph.length / 8>cs.length:=fun q=>kP _ ((Li h8)▸q)
 rw [if_neg hdiv]
 refine aA (o9 (gx ho) hd hs ?_)
 have Zv:((fh w b e).toList.map ek).Nodup:=w2.nodup_iff.mpr JG
 have D0:aQ prog w ((fh w b e).toList.foldl mr d).data (((fh w b e).toList.map ek).foldl nP cs):=sV _ _ _ hD Zv fun c hc=>A0 c (w2.mem_iff.mp hc)
 have hlen:∀(l:List Str) (m:List Str),(l.foldl nP m).length≤m.length:=by
  intro l
  induction l with
  | nil=>exact fun m=>bX _
  | cons x l ih=>exact fun m=>aJ (ih _) (qF)
 refine aA (bS (aA (mH (gx ho) hd hs ?_ _ (.inl rfl) ?_)))
 ·intro a ha
  rw [bG]at ha
  subst ha
  exact (tq _ _ _ (gU s _) rfl hD)
 ·refine aA ?_
  refine vi _ (fun rest _ s'=>∃m jL,s'=qV s m∧aQ prog w m.data jL∧rest.foldl mr m=(fh w b e).toList.foldl mr d∧(rest.map ek).Nodup∧(∀c∈rest.map ek,c∈jL)∧jL.length<2000∧∀x∈rest,x∈(fh w b e).toList) _ ?_ ?_ _ _ (YY _ cs rfl hD rfl Zv (fun c hc=>A0 c (w2.mem_iff.mp hc)) (bj (by assumption) (by decide)) (fun x hx=>hx))
  ·rintro x rest _ s' R4
   refine gP R4 fun m jL G7 R9=>?_;try clear R4;obtain rfl:=G7;(refine Jb R9 fun q1 q2 q3 q4 q6 q5=>?_;try clear R9)
   have hx:=q5 x aH
   refine gP (j3 w1 x hx) fun c' t' r1 r2=>?_
   have zc:ek x∈jL:=q4 _ (by rw [aK];exact aH)
   refine Gg (q1.drop (x:=x) zc) fun j e1 e2 e3 e4=>?_
   rw [aK,dy]at q3
   obtain ⟨hv,v⟩:=x
   dsimp only at r1 r2
   subst r1
   dsimp only
   refine aA (bS (B1 q1 zc q6 r2 fun bb=>?_))
   refine aA (mv (gx ho) hd hs ?_)
   refine aC ?_
   refine (YY _ _ rfl e4 q2 q3.2 (fun c hc=>?_) (bH (qF) q6) (fun y hy=>q5 y (aG _ hy)))
   refine (qE ?_).mpr (q4 c (by rw [aK];exact aG _ hc))
   clear r2 q2 q4 q5 hx zc e1 e2 e4;rintro rfl
   exact q3.1 hc
  ·rintro _ s' R4
   refine gP R4 fun m jL G7 R9=>?_;try clear R4;obtain rfl:=G7;(refine Jb R9 fun q1 q2 q3 q4 q6 q5=>?_;try clear R9)
   have:m=(fh w b e).toList.foldl mr d:=q2
   rw [this]
   refine aC ?_
   unfold setTidy
   refine aA (cN (gU s _) rfl D0.size.2.1 ?_)
   dsimp only
   unfold EF at h
   have rX:=hlen ((fh w b e).toList.map ek) cs
   split
   ·rename_i ht
    rw [if_pos ht]at h
    have hz:=D0.size.1
    refine rO D0 (T2 [.t .x (.n 1000),.l .y .x] (.t .y (.n 2000)) tA hn rX) ?_ ?_ h
    ·exact bH (Ay _) (T3 [.t .x (.n 1000),.l .y .x,.e .z .y] (.t (.r .z 4) (.n 100000)) tA hn rX hz)
    ·exact aJ (dP hz.symm) (Az _)
   ·rename_i ht
    rw [if_neg ht]at h
    exact aC h
end
end
section
open Sem (wp)
open PySem.Builtin.Frozenset
theorem IW:pV pW "frozenset.__or__" = some eF.«frozenset.__or__»:=kO (by kernel_rfl)
theorem entry_sub:pV pW "frozenset.__sub__" = some eF.«frozenset.__sub__»:=kO (by kernel_rfl)
theorem wX:pV pW "set.update.loop" = some eF.«set.update.loop»:=kO (by kernel_rfl)
section
variable{prog:Program} {w:World} {A:eh} {E:Value→Shared→Prop} {s:Shared}
theorem B3{j0:Bool}{a b:Addr}{o o':Obj}{R:Result→Shared→Prop}(ho:s.heap.get? a=some o)(zd:s.heap.get? b=some o')(hc:o.cls=.type "frozenset")(yQ:o'.cls=.type "frozenset")(hg:mI prog w j0 o.data o'.data)
  (h:R (.ok (.ret (.ref s.heap.objs.size))) (qV s (Cz w j0 b o.data o'.data))):gq (aS prog w) A (.builtin (if j0 then "frozenset.__or__" else "frozenset.__sub__") ⟨[.ref a,.ref b],[]⟩) R s:=by
 refine U25 hg fun cs ph hs xa cx hn hnd hr=>?_;try clear hg
 have hd:=mJ hs
 have yL:=mJ xa
 have EE:aQ prog w (Cy o.data).data cs:=by rw [hd];exact hs
 have zD:aQ prog w (Cy o'.data).data ph:=by rw [yL];exact xa
 cases j0 with
 | true =>
  refine az hr fun c G8 JJ=>?_;try clear hr;obtain rfl:=G8
  have xQ:a≠b:=by
   rintro rfl
   rw [ho]at zd
   obtain rfl:=aE zd
   have h1:=EE.size.2.2.2 c
   have h2:=zD.size.2.2.2 c
   exact JJ (h1.mpr (h2.mp aH))
  refine ig IW ?_
  show aR _ _ (slot1 "__or__" ⟨[.ref a,.ref b],[]⟩ >>= _) _ _ _
  refine aA (n9 (a:=(dD a,dD b)) rfl ?_)
  dsimp only
  refine aA (aA (fW ho hc ?_))
  refine fW zd yQ ?_
  dsimp only [rU,aL,↓reduceIte,iF,iT,iG,iU,iH,iV,nT,nF,aT,aF,oT,oF]
  refine aA (aC ?_)
  refine aA ?_
  refine aA (tK ho hc hd.symm EE (bD (by assumption) (by decide)) cx ?_)
  have Ct:(dD b != dD a)=true:=by
   rw [bne_iff_ne]
   intro hx
   clear zd h;cases hx
   exact xQ rfl
  dsimp only [aL,↓reduceIte]
  rw [Ct]
  dsimp only [↓reduceIte,iF,iT,iG,iU,iH,iV,nT,nF,aT,aF,oT,oF]
  refine aA (aC ?_)
  refine aA (bS ?_)
  unfold updateFrom
  refine aA (fW (gx zd) yQ ?_)
  dsimp only [↓reduceIte,iF,iT,iG,iU,iH,iV,nT,nF,aT,aF,oT,oF]
  refine aA (aC ?_)
  refine wV (a:=a) zd yL.symm zD (EE.copy (bD (by assumption) (by decide))) EE hn cx rfl JJ ?_
  refine aC ?_
  exact aC h
 | false =>
  refine wB hr fun JG A0 hne2 h8 h4=>?_;try clear hr
  refine ig entry_sub ?_
  show aR _ _ (slot1 "__sub__" ⟨[.ref a,.ref b],[]⟩ >>= _) _ _ _
  refine aA (n9 (a:=(dD a,dD b)) rfl ?_)
  dsimp only
  refine aA (aA (fW ho hc ?_))
  refine fW zd yQ ?_
  dsimp only [rU,aL,↓reduceIte,iF,iT,iG,iU,iH,iV,nT,nF,aT,aF,oT,oF]
  refine aA (aC ?_)
  refine aA ?_
  unfold difference
  refine aA (fW zd yQ ?_)
  dsimp only [rU,aL,↓reduceIte,Mp,iF,iT,iG,iU,iH,iV,nT,nF,aT,aF,oT,oF]
  refine aA (aC ?_)
  refine aA (jm zd yL.symm zD ?_)
  refine aA (jm ho hd.symm EE ?_)
  rw [if_pos h4]
  refine aA (kL ?_)
  refine aA (tK ho hc hd.symm EE (bD (by assumption) (by decide)) cx ?_)
  refine aA (aC ?_)
  refine aA (bS ?_)
  refine wW (a:=a) zd yQ yL.symm zD (EE.copy (bD (by assumption) (by decide))) hn hnd JG A0 h8 ?_
  refine aC ?_
  exact aC h
noncomputable def aroundOf(Γ:Lg):eh:={ handled:=Γ.handled,depth:=frameCount Γ.below,frames:=none,guards:=none,units:=unitsOf Γ.below }
theorem D1(Γ:Lg):Γ.Below (aroundOf Γ):=(JE rfl (bX _) (fun _ h=>(by contradiction)) (fun _ h=>(by contradiction)) (bX _))
theorem B4{id:String}{args:Args}{b:eF}(hb:pV pW id=some b):(aS prog w).den (.builtin id args)=b args:=by
 show (match pV pW id with | some b=>b args | none=>unsupported ((withoutEnding? id "#data").getD id))=_
 rw [hb]
theorem L7(a:Addr)(it:Value):eF.«set.update.loop» ⟨[.ref a,it],[]⟩=(do
  let some x ← kN it | ret .none
  let _ ← holding [x] (YM a x)
  again (.builtin "set.update.loop" ⟨[.ref a,it],[]⟩)):=by
 unfold eF.«set.update.loop»
 rfl
noncomputable def fns(prog:Program)(w:World):qo:={ add:=vO,goodAdd:=Aw prog w,bin:=Cz w,goodBin:=mI prog w }
theorem OI:Xk (aS prog w) (fns prog w):={
 loop:=fun a it=>by
  rw [B4 wX]
  exact L7 a it
 quiet:=fun a it=>oG F.plain_set_update_loop _
 add:=fun Γ p s a o h c tk Q E ho hg hQ=>IS ho hg hQ
 bin:=fun Γ p s j0 a b o o' hΓ ho zd hc yQ hg=>returns_of fun R hR=>B3 (A:=aroundOf Γ) ho zd hc yQ hg hR Γ p hΓ (D1 Γ) }
theorem OJ{b:Addr}{d d':Data}{cs:List Str}{c:Str}(hs:aQ prog w d cs)(xa:aQ prog w d' [c])(hn:cs.length<1000):aQ prog w (Cz w true b d d').data (c::cs):=by
 have EE:aQ prog w (Cy d).data cs:=by rw [mJ hs];exact hs
 have zD:aQ prog w (Cy d').data [c]:=by rw [mJ xa];exact xa
 refine ao (mi (b:=b) zD) fun w1 w2=>?_
 have:=B2 _ _ _ ((EE.copy (bD (by assumption) (by decide))).room (more:=(Cy d').es.size) (bD (by assumption) (by decide)) (by rw [zD.size.1];show 1<2000;decide)) w1
 unfold Cz
 dsimp only
 have e:(fh w b (Cy d')).toList.map ek=[c]:=List.perm_singleton.mp w2
 rw [e]at this
 exact this
theorem L8{b:Addr}{d d':Data}{cs ph:List Str}(hs:aQ prog w d cs)(xa:aQ prog w d' ph)(hn:cs.length<1000)(hnd:cs.Nodup)(JG:ph.Nodup)(A0:∀c∈ph,c∈cs):∃jL,aQ prog w (Cz w false b d d').data jL∧jL.Nodup∧jL.length≤cs.length∧∀c,c∈jL↔c∈cs∧c∉ph:=by
 have EE:aQ prog w (Cy d).data cs:=by rw [mJ hs];exact hs
 have zD:aQ prog w (Cy d').data ph:=by rw [mJ xa];exact xa
 refine ao (mi (b:=b) zD) fun w1 w2=>?_
 have D0:=sV _ _ _ (EE.copy (bj (by assumption) (by decide))) (w2.nodup_iff.mpr JG) fun c hc=>A0 c (w2.mem_iff.mp hc)
 have key:∀(l:List Str) (m:List Str),m.Nodup→(l.foldl nP m).Nodup∧(l.foldl nP m).length≤m.length∧∀c,c∈l.foldl nP m↔c∈m∧c∉l:=by
  intro l
  induction l with
  | nil=>exact fun m hm=>(d9 hm (bX _) (fun c=>by simp))
  | cons x l ih =>
   intro m hm
   refine dO (ih (m.erase x) (hm.erase x)) fun i1 i2 i3=>?_
   refine (d9 i1 (aJ i2 qF) (fun c=>(i3 c).trans ?_))
   rw [hm.mem_erase_iff,aq]
   constructor
   ·intro R4
    refine ao R4 fun G9 h3=>?_;try clear R4;(refine ao G9 fun h1 h2=>?_;try clear G9)
    exact ⟨h2,fun h=>h.elim h1 h3⟩
   ·rintro ⟨h1,h2⟩
    exact ⟨⟨fun h=>h2 (.inl h),h1⟩,fun h=>h2 (.inr h)⟩
 refine dO (key ((fh w b (Cy d')).toList.map ek) cs hnd) fun k1 k2 k3=>?_
 refine (GH _ ?_ k1 k2 (fun c=>(k3 c).trans (by rw [w2.mem_iff])))
 unfold Cz
 dsimp only
 unfold EF
 split
 ·have hz:=D0.size.1
  refine D0.Mg ?_ ?_
  ·exact bH (Ay _) (T3 [.t .x (.n 1000),.l .y .x,.e .z .y] (.t (.r .z 4) (.n 100000)) tA hn k2 hz)
  ·exact aJ (dP hz.symm) (Az _)
 ·exact D0
end
end
section
open Sem (wp)
noncomputable def endsWell:Step→Bool
 | .halt (.done _) _=>true
 | _=>false
noncomputable def Mj:Thread→Bool
 | ⟨.pure (.done _),_,_,[]⟩=>true
 | _=>false
theorem zE{c:Prop}[Decidable c]{a b:Step}(h1:endsWell a=false)(h2:endsWell b=false):endsWell (if c then a else b)=false:=by split <;> assumption
theorem IX{den:Code→xq eP}{p:Program}{w:World}{heap:Heap}{gens:Array YI}{drawn:Drawn}{toks:Nat}{os:Pe}{code:Code}{pos:Pos}{stack:List Frame}:∀{cur:xq eP},Mj ⟨cur,code,pos,stack⟩=false→endsWell (step den p w ⟨heap,gens,drawn,toks,os⟩ ⟨cur,code,pos,stack⟩)=false:=by
 intro cur h
 cases cur with
 | pure fin =>
  cases fin with
  | again c=>rfl
  | done f =>
   cases stack with
   | nil=>exact aD h
   | cons fr rest=>clear h;cases fr <;> rfl
 | raise e =>
  cases stack with
  | nil=>exact zE rfl rfl
  | cons fr rest=>clear h;cases fr <;> rfl
 | finish e=>exact zE rfl rfl
 | update=>exact zE rfl rfl
 | choose=>exact zE rfl rfl
 | load a q k =>
  show endsWell (match heap.get? a with | some o=>_ | none=>_)=false
  cases heap.get? a <;> rfl
 | genState g k =>
  show endsWell (match gens[g]? with | none=>_ | some st=>_)=false
  cases gens[g]? <;> rfl
 | yield v g0 l kk =>
  show endsWell (match Oi stack with | some (frames,(g,k,c,p),rest)=>_ | none=>_)=false
  cases Oi stack <;> rfl
 | resume g r l k =>
  show endsWell (match gens[g]? with | none=>_ | some (.fresh c)=>_ | some (.suspended kk _ c p frames _)=>_ | some .running=>_ | some .finished=>_)=false
  cases gens[g]? with
  | none=>rfl
  | some gs =>
   cases gs with
   | fresh c =>
    cases r with
    | throw e=>rfl
    | send v=>clear h;cases v <;> rfl
   | _=>rfl
 | _=>rfl
theorem Fu{den:Code→xq eP}{p:Program}{w:World}{s s':Shared}{t:Thread}{f:Flow}(h:step den p w s t=.halt (.done f) s'):through t=true∧s=s':=by
 obtain ⟨cur,code,pos,stack⟩:=t
 cases q:Mj ⟨cur,code,pos,stack⟩with
 | false=>have:=IX (den:=den) (p:=p) (w:=w) (heap:=s.heap) (gens:=s.gens) (drawn:=s.drawn) (toks:=s.toks) (os:=s.os) q;rw [show step den p w ⟨s.heap,s.gens,s.drawn,s.toks,s.os⟩ _=_ from h]at this;contradiction
 | true =>
  cases cur with
  | pure fin =>
   cases fin with
   | again c=>exact aD q
   | done f' =>
    cases stack with
    | cons fr rest=>exact aD q
    | nil =>
     refine (lb rfl ?_)
     have h:(if gW s.gens then Step.halt (.unsupported "lifetime:generator-with-cleanup-left-suspended") s else .halt (.done f') s)=.halt (.done f) s':=h
     by_cases c:gW s.gens=true
     ·rw [if_pos c]at h;injection h
     ·rw [if_neg c]at h;injection h
  | _=>exact aD q
theorem B5{den:Code→xq eP}{p:Program}{w:World}{s':Shared}{f:Flow}:∀(n:Nat) (s:Shared) (t:Thread),runN den p w n s t=.halted (.done f) s'→∃k t',runN den p w k s t=.running s' t'∧through t'=true
 | 0,s,t,h=>by contradiction
 | n+1,s,t,h=>by
  unfold runN at h
  cases hs:step den p w s t with
  | go bO v9 =>
   rw [hs]at h
   refine gP (B5 n bO v9 h) fun k t' h1 h2=>?_
   refine (jq (k+1) t' ?_ h2)
   unfold runN
   rw [hs]
   exact h1
  | halt o bO =>
   rw [hs]at h
   cases h
   refine ao (Fu hs) fun h1 G8=>?_;clear hs;obtain rfl:=G8
   exact (jq 0 t rfl h1)
theorem B6{p:Program}{w:World}{t:xq eP}{eT bO:Shared}{p':Pos}{v:Value}(hz:eT.asleep)(hd:YS bO=true)
  (h:Ends (aS p w) (YO (.builtin "claim.caller" {}) []) default t eT (.ok (.done (.ret v))) p' bO) :
  (∃n t',schedN (DR pW) p w n (.single eT ⟨t,.builtin "claim.caller" {},default,[]⟩)=.running (.single bO t')∧through t'=true)∧bO.heap.life=eT.heap.life:=by
 have Xs:bO.NoSusp:=by
  intro g hg
  have:=JD hd g hg
  clear hg;cases g <;> first | rfl | cases this
 have hlc:gW bO.gens=false:=by
  unfold gW
  rw [Array.any_eq_false]
  intro i hi
  have:=JD hd bO.gens[i] (Array.getElem_mem hi)
  revert this
  cases bO.gens[i] <;> simp
 have hw:wp (aS p w) ⟨.builtin "claim.caller" {},none,none,[],none⟩ t (xq.finPost (aS p w) ⟨.builtin "claim.caller" {},none,none,[],none⟩ fun r s'=>(r=.ok (.ret v)∧s'=bO)∧gW s'.gens=false)
   (fun e _ s'=>((.error e:Result)=.ok (.ret v)∧s'=bO)∧gW s'.gens=false) default eT:=by
  refine h _ _ ?_
  exact ⟨⟨rfl,rfl⟩,hlc⟩
 refine Oz ((wp_iff_halts (M:=aS p w) (R:=fun r s'=>r=.ok (.ret v)∧s'=bO) t default eT).mp hw) fun n r s' hn G4 G3=>?_;obtain rfl:=G4;obtain rfl:=G3
 have ho:(outcomeOf (.ok (.ret v))).ends=true:=outcomeOf_ends _
 refine eZ (runNI_real _ _ _ hn ho) fun vj hr hf hc=>?_
 obtain rfl:vj=s':=Shared.eq_of_forget_eq' hf Xs
 have NU:Sequential (DR pW) p w eT ⟨t,.builtin "claim.caller" {},default,[]⟩:=by
  refine ⟨hc,fun k OE hk=>?_⟩
  have a:=runN_mono (DR pW) p w n k eT _ _ vj hr
  have b:=runN_mono (DR pW) p w k n eT _ _ OE hk
  rw [km,b]at a
  injection a with a1 _
  contradiction
 refine gP (B5 n eT _ hr) fun k t' h1 h2=>?_
 refine ⟨(jq k t' ?_ h2),runN_life _ _ _ hr⟩
 exact (schedN_eq_runN (DR pW) p w eT _ hz NU k).trans (congrArg Run.lift h1)
noncomputable def sX(p q:Program)(loose:List Str)(XP:(Str→Option Value)→Heap→Prop)(Y:World→Heap→Prop)(w:World):Prop :=
 (∃s,AfterRun (opening p) w s)∧∀s,AfterRun (opening p) w s→∃eT,fenceModules? p s=some eT∧eT.gens=#[]∧∃bO,TopRan p w eT bO∧bO.asleep∧gW bO.gens=false∧bO.heap.isNs bM=true ∧
  Ground q loose [] XP w bO (bO.heap.nsMap bM) (bO.heap.nsMap eM) bO.heap∧Y w bO.heap
theorem Fv{p q:Program}{loose:List Str}{Xt:Shared→Bool}{XP:(Str→Option Value)→Heap→Prop}{Y:World→Heap→Prop}{w:World}{N:Nat}{eT bO:Shared}{p':Pos}{v:Value}
  (hX:∀s,Xt s=true→XP (s.heap.nsMap bM) s.heap) (Xu:chainsOk q=true) (h0:fencedOpening treeTable p w N=some eT) (jf:eT.heap.isNs bM=true) (hgn:eT.gens.size=0)
  (hE:Ends (aS p w) (YO (.builtin "claim.caller" {}) []) default (topStub p).cur eT (.ok (.done (.ret v))) p' bO)
  (Nk:(staticsOk (il p.main.body) eT.heap bO.heap&&namesBound p bO.heap&&YS bO&&laidKept eT.heap bO.heap)=true) (P7:bO.os=eT.os)
  (xF:∀b o,eT.heap.get? b=some o→¬theTopsOwn eT.heap b→bO.heap.get? b=some o)
  (hs:Lj q loose (il p.main.body) Xt false bO=Lk q loose) (hY:Y w bO.heap):sX p q loose XP Y w:=by
 rw [← table_eq_tree]at h0
 refine az (mP.mp h0) fun s h4 h5=>?_
 have hA:=YT h4
 have z:eT.asleep:=BJ (fence_lifeW h5) hA.life
 refine ao (gj.mp Nk) fun hc NY=>?_
 refine ao (gj.mp hc) fun hc P6=>?_
 refine ao (gj.mp hc) fun sE hnb=>?_
 refine ao (B6 z P6 hE) fun a l=>?_
 refine Ou (ground_of_open (w:=w) hX Xu hs) fun G g0 g1 g2 g3 g4 g5=>?_
 refine ⟨(dA s hA),fun s' xa=>?_⟩
 obtain rfl:s'=s:=YU xa hA
 exact ⟨eT,h5,fQ hgn,bO,(V0b a l (Shared.rest_eq P7) xF g2 (statics_of_ok sE) g3 g4 g5 (JD P6) (names_of_bound hnb) (laid_of_kept NY)),
  BJ l z,by simpa using g0,g1,G,hY⟩
end
section
noncomputable abbrev WalkX(q:Program)(loose:List Str)(XP:(Str→Option Value)→Heap→Prop)(Y:World→Heap→Prop)(r:RowW)(d:DefRec)(OK:List (Str×Expr)):Prop :=
 ∀(w:World) (eT bO:Shared) (mg mb:Str→Option Value),Ground q loose r.records XP w eT mg mb bO.heap→Y w bO.heap→∀(a:Addr) (o:Obj) (pm cd doc dV kV:Value),bO.heap.get? a=some o →
  o.data=.func { docDef d.name d.params d.body d.scope pm cd doc with defaults:=dV,kwdefaults:=kV }→bO.heap.CodeRec cd d.name→Dflts mg bO.heap d.params OK dV kV→mg d.name=some (.ref a)→bO.gens=#[] →
  ∀(args:List WData) (vals:List Value) (as:List Addr),r.claim.pre args=true→WData.layableAll args=true→ReadsAllW r.records (tS eT.heap) bO.heap vals args as→WellAll w.params bO.heap vals args→(∀a∈as,(a == fX)=false) →
   aR (aS r.prog w) callerA (n5 (.ref a) vals) (fun v s'=>Oo r.claim (tS eT.heap) (jC eT.heap) args bO (.ok (.ret v)) s'∧s'.gens=#[])
    (fun e s'=>Oo r.claim (tS eT.heap) (jC eT.heap) args bO (.error e) s'∧s'.gens=#[]) bO
theorem L9{c:ClaimW}{eT bO s':Shared}{args:List WData}{vs:List Value}{as:List Addr}{r:Result}(IY:c.same=none)(Xv:c.within=[])(hi:∀a b,c.ident a b=true)
  (Km:ReadsAllW c.records (tS eT.heap) bO.heap vs args as) (hold:∀a∈as,∃o,bO.heap.get? a=some o) (g:Oo c (tS eT.heap) (jC eT.heap) args { bO with gens:=#[] } r s'):c.Ends eT args vs bO r s':=by
 refine ip g fun Sq hK _ _=>?_
 have hK:OldK bO.heap s'.heap:=hK
 cases Sq with
 | inl h =>
  refine BK h fun v d bs e1 e2 e3 e4 e5=>?_
  refine .inl (VG v e1 e2 (UI d args bs as e3 (Km.keepsK fun b o e hc=>hK.get_of_cls e hc) e4 (fun hu=>?_) (fun _ _=>hi _ _)) ?_ (fun b o hb _ _=>hK.old b o hb) ?_)
  ·refine ao (e5 hu) fun u1 u2=>?_
   refine (d9 u1 u2 (fun a ha hb=>?_))
   refine cG (hold a hb) fun o ho=>?_
   have:=u2 a ha
   rw [show bO.heap.get? a=none from this]at ho
   contradiction
  ·intro i nR
   rw [IY]at nR
   contradiction
  ·intro i nR
   rw [Xv]at nR
   cases nR
 | inr h =>
  refine BK h fun e ob cls e1 e2 e3 e4 e5=>?_
  exact .inr (DW e ob cls e1 e2 e3 e4 e5 (fun b o hb=>hK.old b o hb))
theorem zF{r:OpenRow}{q:Program}{loose:List Str}{XP:(Str→Option Value)→Heap→Prop}{Y:World→Heap→Prop}{d:DefRec}{OK:List (Str×Expr)}
  (left:∀w,sX r.prog q loose XP Y w) (hYk:∀w h h',Y w h→(∀b o,h.get? b=some o→h'.get? b=some o)→Y w h') (hXk:∀mg h h',XP mg h→(∀b o,h.get? b=some o→h'.get? b=some o)→XP mg h')
  (LA:defOf q r.name=some (d,OK)) (hp:r.prog.theDef r.name=some (d.params,d.body,d.scope)) (hk:kwWritten? d.params.kwonlyargs d.params.kw_defaults=some OK) (UQ:r.records=[])
  (k1:r.wellSaid=true) (We:opensWell r.prog=true) (wF:frees r.toRowW=true) (E1:r.within.isEmpty=true) (hb:r.prog.bare) (hw:r.toRowW.promised)
  (call:WalkX q loose XP Y r.toRowW d OK):r.Holds:=by
 refine wB (frees_parts wF) fun IY hu ha qm hm=>?_
 have hi:=ident_freeW hu ha qm
 have Xv:r.claim.within=[]:=List.isEmpty_iff.mp E1
 refine (JE k1 hw (d9 hb We (by show r.makers.map _=[];rw [hm];rfl)) hw.witness (fun w=>⟨(left w).1,fun s' xa=>?_⟩))
 refine eZ ((left w).2 s' xa) fun eT hf hg0 R9=>?_;(refine N4 R9 fun s hT hz Sr hg G0 y=>?_)
 have RF:RecFacts r.records s.heap:=recFacts_nil UQ
 have G:Ground q loose r.records XP w s _ _ s.heap:=RF.ground G0
 refine (cB eT hf hg0 (YX s hT (fun n hn=>?_) RF.1 RF.2.1 ?_))
 ·obtain rfl:n=r.name:=by split at hn <;> simp_all
  exact pinned_of_view hg G0 LA hp hk
 refine ClaimW.callFrom_of_specN (c:=r.toRowW.claim) (tree:=fun vs=>do match ← nsGet mainNs r.name with
   | some f=>do ret (← n5 f vs)
   | none=>unsupported "claim.caller:no-such-global") hz Sr fun args ui LB ord Ss=>?_
 refine cG (aY.mp (layAllW_isSome (P:=w.params) (ord:=ord) G.has args r.args s (pre_splitW ui).1)) fun G9 B7=>?_;obtain ⟨vs,bO⟩:=G9
 have keeps:=layAllW_keeps _ _ _ B7
 have Xl:=layAllW_rest _ _ _ B7
 refine eZ (reads_layAllW Ss _ _ _ B7 LB bO.heap (fun _ _ e=>e)) fun as Km zc hold=>?_
 have OL:=G.keeps hXk keeps
 refine U73 (OL.fn LA) fun a o pm cd doc dV kV h1 h2 h3 R9=>?_;(refine ao R9 fun h4 h5=>?_)
 have Bb:∀a∈as,(a == fX)=false:=fun a ha=>beq_eq_false_iff_ne.mpr fun e=>by
  have:=(zc.2.2 a ha).1
  clear ha;subst e
  exact absurd G.low (ei.mpr this)
 have Su:=call w s { bO with gens:=#[] } _ _ OL (hYk _ _ _ y keeps) a o pm cd doc dV kV h2 h3 h4 h5 (defOf_name LA▸h1) rfl args vs as ui LB Km (well_layAllW Ss args s _ B7 _ fun _ _ e=>e) Bb
 have done:∀(x:Result) (s':Shared),(Oo r.toRowW.claim (tS s.heap) (jC s.heap) args { bO with gens:=#[] } x s'∧s'.gens=#[]) →
   r.toRowW.claim.Ends s args vs bO x s'∧s'.os=s.os∧s'.gens=#[]∧(namesKept r.prog r.keeps s.heap s'.heap∧∀x∈r.records,∀a,tS s.heap x.1=some a→recordClass s'.heap a x.1 (x.2.map (·.1))=true):=by
  intro x s' g
  have z:=L9 (c:=r.toRowW.claim) IY Xv hi Km hold g.1
  refine (JE z (g.1.2.2.1.trans Xl.2.2.1) g.2 (namesKept_of hT hg r.keeps keeps fun b o e=>g.1.2.1.old b o e) (fun x hx=>?_))
  rw [UQ]at hx
  cases hx
 refine (jq vs bO B7 ?_)
 refine aA (LY OL.T.g ?_)
 have CJ:s.heap.nsMap bM r.name=some (.ref a):=defOf_name LA▸h1
 rw [CJ]
 refine aA (aM Su (fun v s' g=>?_) fun e s' g=>?_)
 ·have z:=done _ _ g
  exact aC (YX _ rfl z.1 z.2.1 z.2.2.1 (fun hq=>⟨z.2.2.2.1,z.2.2.2.2⟩))
 ·have z:=done _ _ g
  exact (ql z.1 z.2.1 z.2.2.1 (fun hq=>⟨z.2.2.2.1,z.2.2.2.2⟩))
end
section
noncomputable def zG(p:Program)(s:Shared)(st:bT):Bool :=
 s.heap.isNs bM&&s.gens.size == 0&&(staticsOk (il p.main.body) s.heap st.abs.heap&&namesBound p st.abs.heap&&YS st.abs&&laidKept s.heap st.abs.heap)
theorem D4{p q:Program}{loose:List Str}{Xt:Shared→Bool}{XP:(Str→Option Value)→Heap→Prop}{Y:World→Heap→Prop}{w:World}{F:qo}{s:Shared}{t st:bT}{p':Pos}{v:Value}{P:List Prop}
  (hX:∀s,Xt s=true→XP (s.heap.nsMap bM) s.heap) (Xu:chainsOk q=true) (hF:Xk (aS p w) F)
  (hr:gJ (DR pW) p w F=some (s,t,.ok (.done (.ret v)),p',st,P)) (hP:∀q∈P,q) (hc:zG p s st=true) (hf:Co s st=Cp s)
  (hs:Lj q loose (il p.main.body) Xt false st.abs=Lk q loose) (hY:Y w st.abs.heap):sX p q loose XP Y w:=by
 unfold gJ at hr
 refine az (mP.mp hr) fun s' h0 h1=>?_
 refine az (mP.mp h1) fun t' h2 h3=>?_
 refine az (dJ.mp h3) fun x h4 h5=>?_
 clear h1 h3;cases h5
 unfold zG at hc
 simp only [ae,beq_iff_eq]at hc
 refine ao hc fun G9 c3=>?_;(refine ao G9 fun c1 c2=>?_)
 have hE:=(IQ hF 20000).1 _ _ _ _ _ _ h4 hP
 rw [Ky h2]at hE
 refine Fv hX Xu h0 c1 c2 hE (by simpa [ae]using c3) (congrArg Prod.snd hf) (fun b o hb hn=>?_) hs hY
 have fM:b<s.heap.objs.size:=av hb
 have hl:((bF s.heap.objs.size).map fun b=>if (ownOf s.heap).contains b then none else EC st b)=(bF s.heap.objs.size).map fun b=>if (ownOf s.heap).contains b then none else some (s.heap.get? b):=congrArg EJ hf
 have ze:=congrArg (fun l=>l[b]?) hl
 simp only [cH,List.getElem?_range fM,i0]at ze
 have yM:(ownOf s.heap).contains b=false:=by
  cases hq:(ownOf s.heap).contains b with
  | false=>rfl
  | true =>
   exfalso
   exact hn (Cn hq)
 rw [yM]at ze
 dsimp only [iF,iT,iG,iU,iH,iV,nT,nF,aT,aF,oT,oF]at ze;simp only [aL,↓reduceIte,jv]at ze
 rw [iQ ze,hb]
end
section
noncomputable def lU(F:qo)(w:World):Data→List (Str×qC)→Data
 | d,[]=>d
 | d,x::l=>lU F w (F.add d (jX w x.1) x.1 x.2).data l
noncomputable def kH(F:qo)(w:World):Data→List (Str×qC)→List Prop
 | _,[]=>[]
 | d,x::l=>F.goodAdd d (jX w x.1) x.1::kH F w (F.add d (jX w x.1) x.1 x.2).data l
noncomputable def Fw(F:qo)(j0:Bool)(d d':Data):List Prop:=[dw "frozenset" = .type "frozenset",dw "frozenset" = .type "frozenset",F.goodBin j0 d d']
theorem vZ{prog:Program}{w:World}:∀(l:List (Str×qC)) (d:Data) (cs:List Str),aQ prog w d cs→((l.map (·.1)).reverse++cs).Nodup→l.length+cs.length<1000 →
  (∀q∈kH (fns prog w) w d l,q)∧aQ prog w (lU (fns prog w) w d l) ((l.map (·.1)).reverse++cs)
 | [],d,cs,h,_,_=>⟨fun q hq=>(by cases hq),h⟩
 | x::l,d,cs,h,hn,hl=>by
  rw [aK,ik,bU]at hn ⊢
  simp only [af]at hl
  have hx:x.1∉cs:=by
   have:=(cy.mp hn).2.1
   exact (dy.mp this).1
  refine ao (vZ (prog:=prog) (w:=w) l (vO d (jX w x.1) x.1 x.2).data (x.1::cs) (h.toAdd x.2 rfl) hn (by simp only [af];exact T2 [.t (.a (.a .x .o) .y) (.n 1000)] (.t (.a .x (.a .y .o)) (.n 1000)) tA hl)) fun h1 h2=>?_
  refine ⟨fun q hq=>?_,h2⟩
  rcases aq.mp hq with rfl | hq
  ·exact (GH cs h hx (T2 [.t (.a (.a .x .o) .y) (.n 1000)] (.t .y (.n 2000)) tA hl) rfl)
  ·exact h1 q hq
theorem oj{F:qo}{j0:Bool}{d d':Data}(h:F.goodBin j0 d d'):∀q∈Fw F j0 d d',q:=by
 intro q hq
 simp only [Fw,aq,jP,or_false]at hq
 rcases hq with hq | hq | hq
 ·rw [hq];trivial
 ·rw [hq];trivial
 ·simp only [hq];exact h
theorem kJ{P P':List Prop}(h:∀q∈P,q)(h':∀q∈P',q):∀q∈P++P',q:=fun q hq=>(aZ.mp hq).elim (h q) (h' q)
end
section
noncomputable def OM:Stmt→Arguments
 | .FunctionDef _ a ..=>a
 | _=>default
noncomputable def zg(st:Stmt)(nm q:Str)(dfl OK doc md cd:Value):Obj:={ cls:=.type "function",data:=.func { name:=nm,qualname:=q,params:=OM st,body:=.stmts (bodyOf st),scope:=Di st,globals:=3,closure:=[],defaults:=dfl,kwdefaults:=OK,doc:=doc,pyModule:=md,code:=cd } }
noncomputable def ent(P:Params)(nm:Str)(t:Nat)(v:Value):ew:=⟨fO P nm,.str nm t,v⟩
noncomputable def LC(es:List ew)(n:Nat):Obj:={ cls:=.type "dict",data:=.dict es.toArray n }
noncomputable def EG:List (Str×qC):=([("\x00",308),("\x01",312),("\x02",316),("\x03",320),("\x04",324),("\x05",328),("\x06",332),("\x07",336),("\x08",340),("\x09",344),("\x0a",348),("\x0b",352),("\x0c",356),("\x0d",360),("\x0e",364),("\x0f",368),("\x10",372),("\x11",376),("\x12",380),("\x13",384),("\x14",388),("\x15",392),("\x16",396),("\x17",400),("\x18",404),("\x19",408),("\x1a",412),("\x1b",416),("\x1c",420),("\x1d",424),("\x1e",428),("\x1f",432)]:List (String×qC)).map fun x=>(aB x.1,x.2)
noncomputable def IZ(F:qo)(w:World):Data:=lU F w (dI w).data EG
noncomputable def LD:List (Str×qC):=([("\x7f",436)]:List (String×qC)).map fun x=>(aB x.1,x.2)
noncomputable def LF(F:qo)(w:World):Data:=lU F w (dI w).data LD
noncomputable def LG:List (Str×qC):=([("\x09",440)]:List (String×qC)).map fun x=>(aB x.1,x.2)
noncomputable def LI(F:qo)(w:World):Data:=lU F w (dI w).data LG
noncomputable def zH:List (Str×qC):=([("\x09",444),("\x0a",446)]:List (String×qC)).map fun x=>(aB x.1,x.2)
noncomputable def Ia(F:qo)(w:World):Data:=lU F w (dI w).data zH
noncomputable def Uu:List (Str×qC):=([(" ",451),("\x09",453)]:List (String×qC)).map fun x=>(aB x.1,x.2)
noncomputable def Uv(F:qo)(w:World):Data:=lU F w (dI w).data Uu
noncomputable def Uw:List (Str×qC):=([("\x0a",457)]:List (String×qC)).map fun x=>(aB x.1,x.2)
noncomputable def Zw(F:qo)(w:World):Data:=lU F w (dI w).data Uw
noncomputable def EH:List (Str×qC):=([("a",476),("b",478),("c",480),("d",482),("e",484),("f",486),("g",488),("h",490),("i",492),("j",494),("k",496),("l",498),("m",500),("n",502),("o",504),("p",506),("q",508),("r",510),("s",512),("t",514),("u",516),("v",518),("w",520),("x",522),("y",524),("z",526),("A",528),("B",530),("C",532),("D",534),("E",536),("F",538),("G",540),("H",542),("I",544),("J",546),("K",548),("L",550),("M",552),("N",554),("O",556),("P",558),("Q",560),("R",562),("S",564),("T",566),("U",568),("V",570),("W",572),("X",574),("Y",576),("Z",578),("0",580),("1",582),("2",584),("3",586),("4",588),("5",590),("6",592),("7",594),("8",596),("9",598),("-",600),("_",602)]:List (String×qC)).map fun x=>(aB x.1,x.2)
noncomputable def Mk(F:qo)(w:World):Data:=lU F w (dI w).data EH
noncomputable def Sv:List (Str×qC):=([("0",605),("1",607),("2",609),("3",611),("4",613),("5",615),("6",617),("7",619),("8",621),("9",623),("a",625),("b",627),("c",629),("d",631),("e",633),("f",635),("A",637),("B",639),("C",641),("D",643),("E",645),("F",647)]:List (String×qC)).map fun x=>(aB x.1,x.2)
noncomputable def ON(F:qo)(w:World):Data:=(F.bin true 106 (IZ F w) (LF F w)).data
noncomputable def OO(F:qo)(w:World):List Prop :=
 kH F w (dI w).data EG++(kH F w (dI w).data LD++(Fw F true (IZ F w) (LF F w)++(kH F w (dI w).data LG++(Fw F false (ON F w) (LI F w)++(kH F w (dI w).data zH++(Fw F false (ON F w) (Ia F w) ++
  (kH F w (dI w).data Uu++(kH F w (dI w).data Uw++(Fw F true (Uv F w) (Zw F w)++(kH F w (dI w).data EH++kH F w (dI w).data Sv))))))))))
noncomputable def KW(F:qo)(w:World):vb:=let P:=w.params;[
 (2,{ cls:=.none,dict:=none,slots:=#[],data:=.dict #[] 0 }),
 (3,LC [ent P "__name__" 165 (.str "law_kq0032_06" 1080),ent P "__doc__" 166 .none,ent P "__package__" 167 .none,ent P "__loader__" 168 (.builtin "__main__.__loader__#opaque"),ent P "__spec__" 169 .none,ent P "__annotations__" 170 (.ref 6),ent P "__builtins__" 171 (.ref 4),ent P "__file__" 173 (.str "/claim/cut.py" 172),ent P "__cached__" 174 .none,ent P "_wall" 193 (.ref 21),ent P "_WallAttr" 233 (.ref 46),ent P "_tuplegetter" 292 (.ref 89),ent P "MAX_KEY_PARTS" 294 (.int 1000 293),ent P "ASCII_CTRL" 438 (.ref 110),ent P "ILLEGAL_BASIC_STR_CHARS" 442 (.ref 115),ent P "ILLEGAL_MULTILINE_BASIC_STR_CHARS" 448 (.ref 120),ent P "ILLEGAL_LITERAL_STR_CHARS" 449 (.ref 115),ent P "TOML_WS" 455 (.ref 121),ent P "TOML_WS_AND_NEWLINE" 459 (.ref 129),ent P "ascii_lowercase" 461 (.str "abcdefghijklmnopqrstuvwxyz" 460),ent P "ascii_uppercase" 463 (.str "ABCDEFGHIJKLMNOPQRSTUVWXYZ" 462),ent P "ascii_letters" 465 (.str "abcdefghijklmnopqrstuvwxyzABCDEFGHIJKLMNOPQRSTUVWXYZ" 464),ent P "digits" 467 (.str "0123456789" 466),ent P "hexdigits" 472 (.str "0123456789abcdefABCDEF" 471),ent P "BARE_KEY_CHARS" 604 (.ref 130),ent P "HEXDIGIT_CHARS" 649 (.ref 134),ent P "MappingProxyType" 653 (.type "mappingproxy"),ent P "BASIC_STR_ESCAPE_REPLACEMENTS" 677 (.ref 140),ent P "TOMLDecodeError" 697 (.ref 150),ent P "Flags" 783 (.ref 205),ent P "NestedDict" 831 (.ref 241),ent P "Output" 946 (.ref 313),ent P "skip_chars" 955 (.ref 323),ent P "skip_until" 967 (.ref 330),ent P "create_dict_rule" 977 (.ref 337),ent P "parse_key" 988 (.ref 344),ent P "parse_key_part" 998 (.ref 351),ent P "parse_one_line_basic_str" 1006 (.ref 358),ent P "parse_basic_str_escape" 1018 (.ref 366),ent P "parse_basic_str_escape_multiline" 1026 (.ref 373),ent P "parse_hex_char" 1037 (.ref 380),ent P "parse_literal_str" 1046 (.ref 387),ent P "parse_basic_str" 1061 (.ref 394),ent P "suffixed_err" 1072 (.ref 401),ent P "is_unicode_scalar_value" 1079 (.ref 408),ent P "_law_digits" 1090 (.ref 415),ent P "_law_tables" 1102 (.ref 422),ent P "_law_told" 1112 (.ref 429),ent P "law" 1118 (.ref 434)] 49),
 (4,{ cls:=(.type "module"),dict:=(some 0),slots:=#[],data:=.plain }),
 (65,{ cls:=(.type "tuple"),dict:=none,slots:=#[],data:=.seq #[.none] 0 }),
 (71,{ cls:=(.type "code"),dict:=none,slots:=#[],data:=.fields #[(.str "__get__" 257),(.str "_tuplegetter.__get__" 258),(.str "/claim/cut.py" 259),(.int 17 0),(.int 3 0),(.int 0 0),(.int 0 0),(.int 3 0),(.ref 66),(.bool true),(.int 181 0),(.ref 67),.none,(.ref 68),(.ref 69),(.ref 70),(.int 263 0),(.int 17 0),(.str "/claim/cut.py" 264)] }),
 (72,zg (ml 3 1) "__get__" "_tuplegetter.__get__" (.ref 65) .none .none (.str "cpy313.tomllib._parser" 234) (.ref 71)),
 (88,LC [ent P "__module__" 243 (.str "cpy313.tomllib._parser" 234),ent P "__firstlineno__" 247 (.int 11 246),ent P "__init__" 256 (.ref 64),ent P "__get__" 265 (.ref 72),ent P "__set__" 274 (.ref 79),ent P "__delete__" 282 (.ref 86),ent P "__static_attributes__" 285 (.ref 87),ent P "__dict__" 287 (.ref 90),ent P "__weakref__" 289 (.ref 91),ent P "__doc__" 290 .none] 4),
 (89,{ cls:=(.type "type"),dict:=none,slots:=#[none,none,(some (.str "_tuplegetter" 236)),(some (.str "_tuplegetter" 244)),(some (.builtin "object.__new__")),(some (.bool true))],data:=.cls { name := "_tuplegetter",bases:=[(.type "object")],mro:=[(.ref 89),(.type "object")],ns:=88,qualname := "_tuplegetter",hasDict:=true,slotNames:=[] } }),
 (115,gT (F.bin false 111 (ON F w) (LI F w))),
 (121,{ cls:=.type "frozenset",data:=Uv F w }),
 (130,{ cls:=.type "frozenset",data:=Mk F w }),
 (149,LC [ent P "__module__" 685 (.str "cpy313.tomllib._parser" 654),ent P "__firstlineno__" 689 (.int 47 688),ent P "__doc__" 691 (.str "An error raised if a document is not valid TOML." 690),ent P "__static_attributes__" 693 (.ref 148),ent P "__weakref__" 695 (.ref 151)] 2),
 (150,{ cls:=(.type "type"),dict:=none,slots:=#[(some (.ref 141)),none,(some (.str "TOMLDecodeError" 678)),(some (.str "TOMLDecodeError" 686)),(some (.builtin "ValueError.__new__")),(some (.bool true))],data:=.cls { name := "TOMLDecodeError",bases:=[(.type "ValueError")],mro:=[(.ref 150),(.type "ValueError"),(.type "Exception"),(.type "BaseException"),(.type "object")],ns:=149,qualname := "TOMLDecodeError",hasDict:=true,slotNames:=[] } }),
 (166,{ cls:=(.type "code"),dict:=none,slots:=#[],data:=.fields #[(.str "__init__" 717),(.str "Flags.__init__" 718),(.str "/claim/cut.py" 719),(.int 54 0),(.int 1 0),(.int 0 0),(.int 0 0),(.int 3 0),(.ref 161),(.bool true),(.int 181 0),(.ref 162),.none,(.ref 163),(.ref 164),(.ref 165),(.int 721 0),(.int 54 0),(.str "/claim/cut.py" 722)] }),
 (167,zg (ml 23 3) "__init__" "Flags.__init__" .none .none .none (.str "cpy313.tomllib._parser" 654) (.ref 166)),
 (194,{ cls:=(.type "code"),dict:=none,slots:=#[],data:=.fields #[(.str "set" 748),(.str "Flags.set" 749),(.str "/claim/cut.py" 750),(.int 67 0),(.int 3 0),(.int 0 0),(.int 1 0),(.int 3 0),(.ref 189),(.bool true),(.int 181 0),(.ref 190),.none,(.ref 191),(.ref 192),(.ref 193),(.int 759 0),(.int 67 0),(.str "/claim/cut.py" 760)] }),
 (195,zg (ml 23 7) "set" "Flags.set" .none .none .none (.str "cpy313.tomllib._parser" 654) (.ref 194)),
 (201,{ cls:=(.type "code"),dict:=none,slots:=#[],data:=.fields #[(.str "is_" 762),(.str "Flags.is_" 763),(.str "/claim/cut.py" 764),(.int 78 0),(.int 3 0),(.int 0 0),(.int 0 0),(.int 3 0),(.ref 196),(.bool true),(.int 181 0),(.ref 197),.none,(.ref 198),(.ref 199),(.ref 200),(.int 772 0),(.int 78 0),(.str "/claim/cut.py" 773)] }),
 (202,zg (ml 23 8) "is_" "Flags.is_" .none .none .none (.str "cpy313.tomllib._parser" 654) (.ref 201)),
 (204,LC [ent P "__module__" 705 (.str "cpy313.tomllib._parser" 654),ent P "__firstlineno__" 709 (.int 49 708),ent P "__doc__" 711 (.str "Flags that map to parsed keys/namespaces." 710),ent P "FROZEN" 714 (.int 0 713),ent P "EXPLICIT_NEST" 716 (.int 1 715),ent P "__init__" 723 (.ref 167),ent P "add_pending" 732 (.ref 174),ent P "finalize_pending" 739 (.ref 181),ent P "unset_all" 747 (.ref 188),ent P "set" 761 (.ref 195),ent P "is_" 774 (.ref 202),ent P "__static_attributes__" 777 (.ref 203),ent P "__dict__" 779 (.ref 206),ent P "__weakref__" 781 (.ref 207)] 3),
 (205,{ cls:=(.type "type"),dict:=none,slots:=#[none,none,(some (.str "Flags" 698)),(some (.str "Flags" 706)),(some (.builtin "object.__new__")),(some (.bool true))],data:=.cls { name := "Flags",bases:=[(.type "object")],mro:=[(.ref 205),(.type "object")],ns:=204,qualname := "Flags",hasDict:=true,slotNames:=[] } }),
 (222,{ cls:=(.type "code"),dict:=none,slots:=#[],data:=.fields #[(.str "__init__" 796),(.str "NestedDict.__init__" 797),(.str "/claim/cut.py" 798),(.int 96 0),(.int 1 0),(.int 0 0),(.int 0 0),(.int 3 0),(.ref 217),(.bool true),(.int 181 0),(.ref 218),.none,(.ref 219),(.ref 220),(.ref 221),(.int 800 0),(.int 96 0),(.str "/claim/cut.py" 801)] }),
 (223,zg (ml 24 0) "__init__" "NestedDict.__init__" .none .none .none (.str "cpy313.tomllib._parser" 654) (.ref 222)),
 (224,LC [ent P "access_lists" 803 (.bool true)] 1),
 (230,{ cls:=(.type "code"),dict:=none,slots:=#[],data:=.fields #[(.str "get_or_create_nest" 804),(.str "NestedDict.get_or_create_nest" 805),(.str "/claim/cut.py" 806),(.int 99 0),(.int 2 0),(.int 0 0),(.int 1 0),(.int 3 0),(.ref 225),(.bool true),(.int 181 0),(.ref 226),.none,(.ref 227),(.ref 228),(.ref 229),(.int 812 0),(.int 99 0),(.str "/claim/cut.py" 813)] }),
 (231,zg (ml 24 1) "get_or_create_nest" "NestedDict.get_or_create_nest" .none (.ref 224) .none (.str "cpy313.tomllib._parser" 654) (.ref 230)),
 (240,LC [ent P "__module__" 791 (.str "cpy313.tomllib._parser" 654),ent P "__firstlineno__" 795 (.int 94 794),ent P "__init__" 802 (.ref 223),ent P "get_or_create_nest" 814 (.ref 231),ent P "append_nest_to_list" 822 (.ref 238),ent P "__static_attributes__" 824 (.ref 239),ent P "__dict__" 826 (.ref 242),ent P "__weakref__" 828 (.ref 243),ent P "__doc__" 829 .none] 4),
 (241,{ cls:=(.type "type"),dict:=none,slots:=#[none,none,(some (.str "NestedDict" 784)),(some (.str "NestedDict" 792)),(some (.builtin "object.__new__")),(some (.bool true))],data:=.cls { name := "NestedDict",bases:=[(.type "object")],mro:=[(.ref 241),(.type "object")],ns:=240,qualname := "NestedDict",hasDict:=true,slotNames:=[] } }),
 (262,{ cls:=(.type "code"),dict:=none,slots:=#[],data:=.fields #[(.str "__new__" 852),(.str "Output.__new__" 853),(.str "/claim/cut.py" 854),(.int 119 0),(.int 3 0),(.int 0 0),(.int 0 0),(.int 3 0),(.ref 257),(.bool true),(.int 181 0),(.ref 258),.none,(.ref 259),(.ref 260),(.ref 261),(.int 858 0),(.int 119 0),(.str "/claim/cut.py" 859)] }),
 (263,zg (ml 25 4) "__new__" "Output.__new__" .none .none (.str "Create new instance of Output(data, flags)" 860) (.str "cpy313.tomllib._parser" 654) (.ref 262)),
 (304,LC [ent P "index" 928 (.int 0 922),ent P "__doc__" 930 (.str "Alias for field number 0" 923)] 2),
 (305,{ cls:=(.ref 89),dict:=(some 304),slots:=#[],data:=.plain }),
 (307,LC [ent P "index" 938 (.int 1 932),ent P "__doc__" 940 (.str "Alias for field number 1" 933)] 2),
 (308,{ cls:=(.ref 89),dict:=(some 307),slots:=#[],data:=.plain }),
 (312,LC [ent P "__module__" 839 (.str "cpy313.tomllib._parser" 654),ent P "__firstlineno__" 843 (.int 113 842),ent P "__doc__" 845 (.str "Output(data, flags)" 844),ent P "__slots__" 847 (.ref 254),ent P "_fields" 850 (.ref 255),ent P "_field_defaults" 851 (.ref 256),ent P "__new__" 861 (.ref 314),ent P "_make" 883 (.ref 272),ent P "_replace" 894 (.ref 281),ent P "__replace__" 895 (.ref 281),ent P "__repr__" 903 (.ref 288),ent P "_asdict" 910 (.ref 295),ent P "__getnewargs__" 918 (.ref 302),ent P "__match_args__" 921 (.ref 303),ent P "data" 931 (.ref 305),ent P "flags" 941 (.ref 308),ent P "__static_attributes__" 942 (.ref 310)] 2),
 (313,{ cls:=(.type "type"),dict:=none,slots:=#[(some (.ref 246)),none,(some (.str "Output" 832)),(some (.str "Output" 840)),(some .none),(some (.bool false))],data:=.cls { name := "Output",bases:=[(.type "tuple")],mro:=[(.ref 313),(.type "tuple"),(.type "object")],ns:=312,qualname := "Output",hasDict:=false,slotNames:=[] } }),
 (314,{ cls:=(.type "staticmethod"),dict:=none,slots:=#[],data:=.fields #[(.ref 263)] }),
 (322,{ cls:=(.type "code"),dict:=none,slots:=#[],data:=.fields #[(.str "skip_chars" 947),(.str "skip_chars" 948),(.str "/claim/cut.py" 949),(.int 155 0),(.int 3 0),(.int 0 0),(.int 0 0),(.int 3 0),(.ref 317),(.bool true),(.int 181 0),(.ref 318),.none,(.ref 319),(.ref 320),(.ref 321),(.int 953 0),(.int 155 0),(.str "/claim/cut.py" 954)] }),
 (323,zg (bK 26) "skip_chars" "skip_chars" .none .none .none (.str "cpy313.tomllib._parser" 654) (.ref 322)),
 (329,{ cls:=(.type "code"),dict:=none,slots:=#[],data:=.fields #[(.str "skip_until" 956),(.str "skip_until" 957),(.str "/claim/cut.py" 958),(.int 162 0),(.int 3 0),(.int 0 0),(.int 2 0),(.int 3 0),(.ref 324),(.bool true),(.int 181 0),(.ref 325),.none,(.ref 326),(.ref 327),(.ref 328),(.int 965 0),(.int 162 0),(.str "/claim/cut.py" 966)] }),
 (330,zg (bK 27) "skip_until" "skip_until" .none .none .none (.str "cpy313.tomllib._parser" 654) (.ref 329)),
 (336,{ cls:=(.type "code"),dict:=none,slots:=#[],data:=.fields #[(.str "create_dict_rule" 968),(.str "create_dict_rule" 969),(.str "/claim/cut.py" 970),(.int 174 0),(.int 3 0),(.int 0 0),(.int 0 0),(.int 3 0),(.ref 331),(.bool true),(.int 181 0),(.ref 332),.none,(.ref 333),(.ref 334),(.ref 335),(.int 975 0),(.int 174 0),(.str "/claim/cut.py" 976)] }),
 (337,zg (bK 28) "create_dict_rule" "create_dict_rule" .none .none .none (.str "cpy313.tomllib._parser" 654) (.ref 336)),
 (343,{ cls:=(.type "code"),dict:=none,slots:=#[],data:=.fields #[(.str "parse_key" 978),(.str "parse_key" 979),(.str "/claim/cut.py" 980),(.int 188 0),(.int 2 0),(.int 0 0),(.int 0 0),(.int 3 0),(.ref 338),(.bool true),(.int 181 0),(.ref 339),.none,(.ref 340),(.ref 341),(.ref 342),(.int 986 0),(.int 188 0),(.str "/claim/cut.py" 987)] }),
 (344,zg (bK 29) "parse_key" "parse_key" .none .none .none (.str "cpy313.tomllib._parser" 654) (.ref 343)),
 (350,{ cls:=(.type "code"),dict:=none,slots:=#[],data:=.fields #[(.str "parse_key_part" 989),(.str "parse_key_part" 990),(.str "/claim/cut.py" 991),(.int 206 0),(.int 2 0),(.int 0 0),(.int 0 0),(.int 3 0),(.ref 345),(.bool true),(.int 181 0),(.ref 346),.none,(.ref 347),(.ref 348),(.ref 349),(.int 996 0),(.int 206 0),(.str "/claim/cut.py" 997)] }),
 (351,zg (bK 30) "parse_key_part" "parse_key_part" .none .none .none (.str "cpy313.tomllib._parser" 654) (.ref 350)),
 (386,{ cls:=(.type "code"),dict:=none,slots:=#[],data:=.fields #[(.str "parse_literal_str" 1038),(.str "parse_literal_str" 1039),(.str "/claim/cut.py" 1040),(.int 257 0),(.int 2 0),(.int 0 0),(.int 0 0),(.int 3 0),(.ref 381),(.bool true),(.int 181 0),(.ref 382),.none,(.ref 383),(.ref 384),(.ref 385),(.int 1044 0),(.int 257 0),(.str "/claim/cut.py" 1045)] }),
 (387,zg (bK 35) "parse_literal_str" "parse_literal_str" .none .none .none (.str "cpy313.tomllib._parser" 654) (.ref 386)),
 (395,{ cls:=(.type "tuple"),dict:=none,slots:=#[],data:=.seq #[] 0 }),
 (397,{ cls:=(.type "tuple"),dict:=none,slots:=#[],data:=.seq #[(.str "src" 1065),(.str "pos" 1066),(.str "msg" 1067),(.str "coord_repr" 1068)] 0 }),
 (398,{ cls:=(.type "tuple"),dict:=none,slots:=#[],data:=.seq #[] 0 }),
 (400,{ cls:=(.type "code"),dict:=none,slots:=#[],data:=.fields #[(.str "suffixed_err" 1062),(.str "suffixed_err" 1063),(.str "/claim/cut.py" 1064),(.int 292 0),(.int 3 0),(.int 0 0),(.int 0 0),(.int 3 0),(.ref 395),(.bool true),(.int 181 0),(.ref 396),.none,(.ref 397),(.ref 398),(.ref 399),(.int 1069 0),(.int 292 0),(.str "/claim/cut.py" 1070)] }),
 (401,zg (bK 37) "suffixed_err" "suffixed_err" .none .none (.str "Return a `TOMLDecodeError` where error message is suffixed with\x0acoordinates in source." 1071) (.str "cpy313.tomllib._parser" 654) (.ref 400)),
 (414,{ cls:=(.type "code"),dict:=none,slots:=#[],data:=.fields #[(.str "_law_digits" 1082),(.str "_law_digits" 1083),(.str "/claim/cut.py" 1084),(.int 309 0),(.int 1 0),(.int 0 0),(.int 0 0),(.int 3 0),(.ref 409),(.bool true),(.int 181 0),(.ref 410),.none,(.ref 411),(.ref 412),(.ref 413),(.int 1088 0),(.int 309 0),(.str "/claim/cut.py" 1089)] }),
 (415,zg (bK 40) "_law_digits" "_law_digits" .none .none .none (.str "law_kq0032_06" 1080) (.ref 414)),
 (421,{ cls:=(.type "code"),dict:=none,slots:=#[],data:=.fields #[(.str "_law_tables" 1091),(.str "_law_tables" 1092),(.str "/claim/cut.py" 1093),(.int 319 0),(.int 1 0),(.int 0 0),(.int 0 0),(.int 3 0),(.ref 416),(.bool true),(.int 181 0),(.ref 417),.none,(.ref 418),(.ref 419),(.ref 420),(.int 1100 0),(.int 319 0),(.str "/claim/cut.py" 1101)] }),
 (422,zg (bK 41) "_law_tables" "_law_tables" .none .none .none (.str "law_kq0032_06" 1080) (.ref 421)),
 (428,{ cls:=(.type "code"),dict:=none,slots:=#[],data:=.fields #[(.str "_law_told" 1103),(.str "_law_told" 1104),(.str "/claim/cut.py" 1105),(.int 329 0),(.int 3 0),(.int 0 0),(.int 0 0),(.int 3 0),(.ref 423),(.bool true),(.int 181 0),(.ref 424),.none,(.ref 425),(.ref 426),(.ref 427),(.int 1110 0),(.int 329 0),(.str "/claim/cut.py" 1111)] }),
 (429,zg (bK 42) "_law_told" "_law_told" .none .none .none (.str "law_kq0032_06" 1080) (.ref 428)),
 (433,{ cls:=(.type "code"),dict:=none,slots:=#[],data:=.fields #[(.str "law" 1113),(.str "law" 1114),(.str "/claim/cut.py" 1115),(.int 334 0),(.int 1 0),(.int 0 0),(.int 0 0),(.int 3 0),(.ref 430),(.bool true),(.int 181 0),(.ref 431),.none,.none,.none,(.ref 432),(.int 1116 0),(.int 334 0),(.str "/claim/cut.py" 1117)] }),
 (434,zg (bK 43) "law" "law" .none .none .none (.str "law_kq0032_06" 1080) (.ref 433))]
noncomputable def KK(F:qo)(w:World):vb:=KW F w++[(396,{ cls:=.none,dict:=none,slots:=#[],data:=.fields #[] })]
noncomputable def Zx:List Addr:=[2,3,4,65,71,72,88,89,115,121,130,149,150,166,167,194,195,201,202,204,205,222,223,224,230,231,240,241,262,263,304,305,307,308,312,313,314,322,323,329,330,336,337,343,344,350,351,386,387,395,397,398,400,401,414,415,421,422,428,429,433,434,396]
end
section
noncomputable def pL:Code→xq eP:=wz x7
noncomputable def QV:Program:={ PG with main:={ PG.main with body:=[bK 39,bK 43] } }
noncomputable def LS:List Str:=(["_wall", "_WallAttr", "_tuplegetter", "MAX_KEY_PARTS", "ASCII_CTRL", "ILLEGAL_BASIC_STR_CHARS", "ILLEGAL_MULTILINE_BASIC_STR_CHARS", "ILLEGAL_LITERAL_STR_CHARS", "TOML_WS", "TOML_WS_AND_NEWLINE", "ascii_lowercase", "ascii_uppercase", "ascii_letters", "digits", "hexdigits", "BARE_KEY_CHARS", "HEXDIGIT_CHARS", "MappingProxyType", "BASIC_STR_ESCAPE_REPLACEMENTS", "TOMLDecodeError", "Flags", "NestedDict", "Output", "skip_chars", "skip_until", "create_dict_rule", "parse_key", "parse_key_part", "parse_one_line_basic_str", "parse_basic_str_escape", "parse_basic_str_escape_multiline", "parse_hex_char", "parse_literal_str", "parse_basic_str", "suffixed_err", "is_unicode_scalar_value", "_law_digits", "_law_tables", "_law_told"]:List String).map aB
noncomputable def ww(b c:Bool)(w:World):World:=(w.withFollow "comprehension-iter-twice" b).withFollow "special-get-raises" c
noncomputable abbrev Zy:=Shared×bT×Except Value eP×Pos×bT×List Prop
noncomputable def Ib(r:Zy):=(r.2.2.1,zG PG r.1 r.2.2.2.2.1,Lj QV LS (il PG.main.body) (fun s=>xlAt QV [] s) false r.2.2.2.2.1.abs,Co r.1 r.2.2.2.2.1,r.2.2.2.2.2,Zx.map r.2.2.2.2.1.abs.heap.get?)
noncomputable def Ic(F:qo)(w:World)(r:Zy):=((.ok (.done (.ret .none)):Except Value eP),true,Lk QV LS,Cp r.1,OO F w,(KK F w).map fun x=>some x.2)
end
section
theorem Sw(w:World)(F:qo):((gJ pL PG (ww true true w) F).map Ib,(gJ pL PG (ww true true w) F).isSome)=((gJ pL PG (ww true true w) F).map (Ic F (ww true true w)),true):=by kernel_rfl
end
section
theorem Sz(w:World)(F:qo):((gJ pL PG (ww true false w) F).map Ib,(gJ pL PG (ww true false w) F).isSome)=((gJ pL PG (ww true false w) F).map (Ic F (ww true false w)),true):=by kernel_rfl
end
section
theorem T8(w:World)(F:qo):((gJ pL PG (ww false true w) F).map Ib,(gJ pL PG (ww false true w) F).isSome)=((gJ pL PG (ww false true w) F).map (Ic F (ww false true w)),true):=by kernel_rfl
end
section
theorem T9(w:World)(F:qo):((gJ pL PG (ww false false w) F).map Ib,(gJ pL PG (ww false false w) F).isSome)=((gJ pL PG (ww false false w) F).map (Ic F (ww false false w)),true):=by kernel_rfl
end
section
noncomputable def va:List Str:=(EG.map (·.1)).reverse
noncomputable def B8:List Str:=(LD.map (·.1)).reverse
noncomputable def TA:List Str:=(LG.map (·.1)).reverse
noncomputable def OP:List Str:=(zH.map (·.1)).reverse
noncomputable def Ux:List Str:=(Uu.map (·.1)).reverse
noncomputable def Zz:List Str:=(Uw.map (·.1)).reverse
noncomputable def Ml:List Str:=(EH.map (·.1)).reverse
theorem oA{prog:Program}(w:World)(l:List (Str×qC))(hn:((l.map (·.1)).reverse).Nodup)(hl:l.length<1000):
  (∀q∈kH (fns prog w) w (dI w).data l,q)∧aQ prog w (lU (fns prog w) w (dI w).data l) ((l.map (·.1)).reverse):=by
 have:=vZ (prog:=prog) l (dI w).data [] oZ (by rw [f9];exact hn) (by simpa using hl)
 rw [f9]at this
 exact this
theorem xp(w:World):(∀q∈OO (fns PG w) w,q)∧aQ PG w (Uv (fns PG w) w) Ux∧aQ PG w (Mk (fns PG w) w) Ml ∧
  ∃cs,aQ PG w (Cz w false 111 (ON (fns PG w) w) (LI (fns PG w) w)).data cs∧cs.Nodup∧∀c,c∈cs↔(c∈B8++va)∧c∉TA:=by
 refine ao (oA (prog:=PG) w EG (by decide +kernel) (by decide +kernel)) fun p1 h1=>?_
 refine ao (oA (prog:=PG) w LD (by decide +kernel) (by decide +kernel)) fun p2 h2=>?_
 refine ao (oA (prog:=PG) w LG (by decide +kernel) (by decide +kernel)) fun p3 h3=>?_
 refine ao (oA (prog:=PG) w zH (by decide +kernel) (by decide +kernel)) fun p4 h4=>?_
 refine ao (oA (prog:=PG) w Uu (by decide +kernel) (by decide +kernel)) fun p5 h5=>?_
 refine ao (oA (prog:=PG) w Uw (by decide +kernel) (by decide +kernel)) fun p6 h6=>?_
 refine ao (oA (prog:=PG) w EH (by decide +kernel) (by decide +kernel)) fun p7 h7=>?_
 refine ao (oA (prog:=PG) w Sv (by decide +kernel) (by decide +kernel)) fun p8 h8=>?_
 have d2:∃c,B8=[c]∧c∉va:=(aw (aB "\x7f") (by decide +kernel) (by decide +kernel))
 have d6:∃c,Zz=[c]∧c∉Ux:=(aw (aB "\n") (by decide +kernel) (by decide +kernel))
 have g1:mI PG w true (IZ (fns PG w) w) (LF (fns PG w) w):=(Ox va B8 h1 h2 (by decide +kernel) (by decide +kernel) (by decide +kernel) d2)
 have Xw:aQ PG w (ON (fns PG w) w) (B8++va):=by
  refine az d2 fun c e _=>?_
  rw [e]
  have yD:aQ PG w (LF (fns PG w) w) B8:=h2
  rw [e]at yD
  exact OJ h1 yD (by decide +kernel)
 have g3:mI PG w false (ON (fns PG w) w) (LI (fns PG w) w):=(Ya _ TA Xw h3 (by decide +kernel) (by decide +kernel) (by decide +kernel) (by decide +kernel) (by decide +kernel) (by decide +kernel) (by decide +kernel) (by decide +kernel))
 have g4:mI PG w false (ON (fns PG w) w) (Ia (fns PG w) w):=(Ya _ OP Xw h4 (by decide +kernel) (by decide +kernel) (by decide +kernel) (by decide +kernel) (by decide +kernel) (by decide +kernel) (by decide +kernel) (by decide +kernel))
 have g6:mI PG w true (Uv (fns PG w) w) (Zw (fns PG w) w):=(Ox Ux Zz h5 h6 (by decide +kernel) (by decide +kernel) (by decide +kernel) d6)
 refine (ql ?_ h5 h7 ?_)
 ·exact kJ p1 (kJ p2 (kJ (oj g1) (kJ p3 (kJ (oj g3) (kJ p4 (kJ (oj g4) (kJ p5 (kJ p6 (kJ (oj g6) (kJ p7 p8))))))))))
 ·refine Gg (L8 (b:=111) Xw h3 (by decide +kernel) (by decide +kernel) (by decide +kernel) (by decide +kernel)) fun cs a b _ c=>?_
  exact (cB cs a b c)
end
section
theorem OQ:pL=DR pW:=by
 rw [table_eq_tree]
 show wz x7=_
 rw [← Fast.te11892475500146522536,← Fast.te14364793385576792824]
theorem LJ(w:World):ww (w.params.followText "comprehension-iter-twice") (w.params.followText "special-get-raises") w=w:=by
 unfold ww
 rw [BV w,BV w]
noncomputable def Y6(w:World)(h:Heap):Prop:=(KK (fns PG w) w).In h
theorem om{b c:Bool}{w:World}(h:((gJ pL PG (ww b c w) (fns PG (ww b c w))).map Ib,(gJ pL PG (ww b c w) (fns PG (ww b c w))).isSome)=((gJ pL PG (ww b c w) (fns PG (ww b c w))).map (Ic (fns PG (ww b c w)) (ww b c w)),true)):
  sX PG QV LS (XL QV []) Y6 (ww b c w):=by
 generalize ww b c w=w' at h
 obtain ⟨h1,h2⟩:=Prod.mk.inj h
 obtain ⟨⟨s,t,x,p',st,P⟩,hr⟩:=aY.mp h2
 rw [hr]at h1
 have h1:=aE h1
 have e1:x=.ok (.done (.ret .none)):=congrArg EJ h1
 have e2:zG PG s st=true:=congrArg (fun z=>z.2.1) h1
 have e3:Lj QV LS (il PG.main.body) (fun s=>xlAt QV [] s) false st.abs=Lk QV LS:=congrArg (fun z=>z.2.2.1) h1
 have e4:Co s st=Cp s:=congrArg (fun z=>z.2.2.2.1) h1
 have e5:P=OO (fns PG w') w':=congrArg (fun z=>z.2.2.2.2.1) h1
 have e6:Zx.map st.abs.heap.get?=(KK (fns PG w') w').map fun x=>some x.2:=congrArg (fun z=>z.2.2.2.2.2) h1
 subst e1
 rw [OQ]at hr
 refine D4 (Xt:=fun s=>xlAt QV [] s) (fun s hs=>?_) (by decide +kernel) OI hr ?_ e2 e4 e3 ?_
 ·exact xl_of s hs
 ·rw [e5]
  exact (xp w').1
 ·exact vb.in_of (by kernel_rfl) e6
theorem Ie(w:World):sX PG QV LS (XL QV []) Y6 w:=by
 have key:∀b c,sX PG QV LS (XL QV []) Y6 (ww b c w):=by
  intro b c
  cases b <;> cases c
  ·exact om (T9 w _)
  ·exact om (T8 w _)
  ·exact om (Sz w _)
  ·exact om (Sw w _)
 have:=key (w.params.followText "comprehension-iter-twice") (w.params.followText "special-get-raises")
 rw [LJ]at this
 exact this
end
section
set_option maxHeartbeats 8000000
section
structure Fx(K:vb)(fa:Addr)(body:List Stmt)(names:List (Str×fP))(fd:kh):Prop where
 at_:∃oc od sl,K.lookup fa=some ⟨oc,od,.func fd,sl⟩
 keep:YG K (.ref fa)=true
 typ:Oc K (.ref fa)=some (.type "function")
 code:codeIn K fd.code fd.qualname=true
 body:fd.body=.stmts body
 Jk:fd.closure=[]
 gl:fd.globals=bM
 bl:fd.builtins=eM
 co:fd.scope.isCoroutine=false
 gen:fd.scope.isGenerator=false
 kind:fd.scope.kind=.function
 scope:fd.scope.names=names
theorem Fx.fnAt{K:vb}{fa:Addr}{body:List Stmt}{names:List (Str×fP)}{fd:kh}{C:Cx}(f:Fx K fa body names fd)(X:K.In C.base):FnAt C fa fd body:=by
 obtain ⟨oc,od,sl,e⟩:=f.at_
 exact ⟨⟨_,X _ _ e,rfl⟩,codeRec_of X f.code,f.body,f.Jk,f.gl,f.bl,f.co,f.gen,f.kind⟩
@[elab_as_elim] theorem u0{Q:List Value→Prop}(h:Q [])(us:List Value)(e:us.length=0):Q us:=List.length_eq_zero_iff.mp e▸h
@[elab_as_elim] theorem uS{Q:List Value→Prop}{n:Nat}(h:∀a us,us.length=n→Q (a::us))(us:List Value)(e:us.length=n+1):Q us :=
 match us,e with
 | a::us,e=>h a us (qr e)
@[elab_as_elim] theorem u1{Q:List Value→Prop}(h:∀a,Q [a]):∀us:List Value,us.length=1→Q us:=uS fun a=>u0 (Q:=fun us=>Q (a::us)) (h a)
@[elab_as_elim] theorem u2{Q:List Value→Prop}(h:∀a b,Q [a,b]):∀us:List Value,us.length=2→Q us:=uS fun a=>u1 (Q:=fun us=>Q (a::us)) (h a)
@[elab_as_elim] theorem u3{Q:List Value→Prop}(h:∀a b c,Q [a,b,c]):∀us:List Value,us.length=3→Q us:=uS fun a=>u2 (Q:=fun us=>Q (a::us)) (h a)
theorem Fx.of{K:vb}{fa:Addr}{body:List Stmt}{names:List (Str×fP)}{fd:kh}{oc od sl}(h0:K.lookup fa=some ⟨oc,od,.func fd,sl⟩)
  (h:(YG K (.ref fa),Oc K (.ref fa),codeIn K fd.code fd.qualname,fd.body,fd.closure,fd.globals,fd.builtins,fd.scope.isCoroutine,fd.scope.isGenerator,fd.scope.kind,fd.scope.names)=(true,some (.type "function"),true,.stmts body,[],bM,eM,false,false,.function,names)):Fx K fa body names fd:=by
 simp only [Prod.mk.injEq]at h
 obtain ⟨a,b,c,d,e,f,g,i,j,k,l⟩:=h
 exact ⟨⟨_,_,_,h0⟩,a,b,c,d,e,f,g,i,j,k,l⟩
noncomputable abbrev GO(K:vb)(a:Addr)(st:Stmt)(ns ks:List Str):Prop:=∃fd,Fx K a (bodyOf st) (ax st) fd∧∀us vs:List Value,us.length+ks.length=ns.length→vs.length=ks.length→wc fd ⟨us,ks.zip vs⟩=pure (ns.zip (us++vs))
noncomputable abbrev LK(K:vb)(a:Addr)(st:Stmt)(ns ks:List Str)(n:Nat)(dc:List CV):Prop:=∃fd,Fx K a (bodyOf st) (ax st) fd∧∀us vs:List Value,us.length=n→vs.length=ks.length→∃ws,(∀I,ck I dc ws)∧∀s:Shared,K.In s.heap→BindsTo s fd ⟨us,ks.zip vs⟩ (ns.zip (us++vs++ws))
section
variable(F:qo) (w:World)
theorem TB:GO (KW F w) 323 (bK 26) ["src", "pos", "chars"] [] :=
 ⟨_,.of rfl (by kernel_rfl),fun us vs h1 h2=>u3 (fun a b c=>u0 (by kernel_rfl) vs h2) us h1⟩
theorem TC:GO (KW F w) 330 (bK 27) ["src", "pos", "expect", "error_on", "error_on_eof"] ["error_on", "error_on_eof"] :=
 ⟨_,.of rfl (by kernel_rfl),fun us vs h1 h2=>u3 (fun a b c=>u2 (fun x y=>by kernel_rfl) vs h2) us (Nat.add_right_cancel (m:=2) h1)⟩
theorem TF:GO (KW F w) 387 (bK 35) ["src", "pos"] [] :=
 ⟨_,.of rfl (by kernel_rfl),fun us vs h1 h2=>u2 (fun a b=>u0 (by kernel_rfl) vs h2) us h1⟩
theorem TG:GO (KW F w) 351 (bK 30) ["src", "pos"] [] :=
 ⟨_,.of rfl (by kernel_rfl),fun us vs h1 h2=>u2 (fun a b=>u0 (by kernel_rfl) vs h2) us h1⟩
theorem TH:GO (KW F w) 344 (bK 29) ["src", "pos"] [] :=
 ⟨_,.of rfl (by kernel_rfl),fun us vs h1 h2=>u2 (fun a b=>u0 (by kernel_rfl) vs h2) us h1⟩
theorem TJ:GO (KW F w) 401 (bK 37) ["src", "pos", "msg"] [] :=
 ⟨_,.of rfl (by kernel_rfl),fun us vs h1 h2=>u3 (fun a b c=>u0 (by kernel_rfl) vs h2) us h1⟩
theorem TK:GO (KW F w) 337 (bK 28) ["src", "pos", "out"] [] :=
 ⟨_,.of rfl (by kernel_rfl),fun us vs h1 h2=>u3 (fun a b c=>u0 (by kernel_rfl) vs h2) us h1⟩
theorem TL:GO (KW F w) 429 (bK 42) ["text", "place", "out"] [] :=
 ⟨_,.of rfl (by kernel_rfl),fun us vs h1 h2=>u3 (fun a b c=>u0 (by kernel_rfl) vs h2) us h1⟩
theorem TM:GO (KW F w) 422 (bK 41) ["document"] [] :=
 ⟨_,.of rfl (by kernel_rfl),fun us vs h1 h2=>u1 (fun a=>u0 (by kernel_rfl) vs h2) us h1⟩
theorem TP:GO (KW F w) 415 (bK 40) ["script"] [] :=
 ⟨_,.of rfl (by kernel_rfl),fun us vs h1 h2=>u1 (fun a=>u0 (by kernel_rfl) vs h2) us h1⟩
theorem TQ:GO (KW F w) 434 (bK 43) ["script"] [] :=
 ⟨_,.of rfl (by kernel_rfl),fun us vs h1 h2=>u1 (fun a=>u0 (by kernel_rfl) vs h2) us h1⟩
theorem TR:LK (KW F w) 167 (ml 23 3) ["self"] [] 1 [] :=
 ⟨_,.of rfl (by kernel_rfl),fun us vs h1 h2=>u1 (fun a=>u0 (⟨[],fun _=>.nil,fun s X=>la (by kernel_rfl)⟩) vs h2) us h1⟩
theorem TS:LK (KW F w) 202 (ml 23 8) ["self", "key", "flag"] [] 3 [] :=
 ⟨_,.of rfl (by kernel_rfl),fun us vs h1 h2=>u3 (fun a b c=>u0 (⟨[],fun _=>.nil,fun s X=>la (by kernel_rfl)⟩) vs h2) us h1⟩
theorem TU:LK (KW F w) 195 (ml 23 7) ["self", "key", "flag", "recursive"] ["recursive"] 3 [] :=
 ⟨_,.of rfl (by kernel_rfl),fun us vs h1 h2=>u3 (fun a b c=>u1 (fun x=>⟨[],fun _=>.nil,fun s X=>la (by kernel_rfl)⟩) vs h2) us h1⟩
theorem TV:LK (KW F w) 223 (ml 24 0) ["self"] [] 1 [] :=
 ⟨_,.of rfl (by kernel_rfl),fun us vs h1 h2=>u1 (fun a=>u0 (⟨[],fun _=>.nil,fun s X=>la (by kernel_rfl)⟩) vs h2) us h1⟩
theorem TX:LK (KW F w) 231 (ml 24 1) ["self", "key", "access_lists"] [] 2 [.bool true] :=
 ⟨_,.of rfl (by kernel_rfl),fun us vs h1 h2=>u2 (fun a b=>u0 (⟨[.bool true],fun I=>.cons rfl .nil,fun s X=>kp_binds X fun S=>by kernel_rfl⟩) vs h2) us h1⟩
theorem TY:LK (KW F w) 263 (ml 25 4) ["_cls", "data", "flags"] [] 3 [] :=
 ⟨_,.of rfl (by kernel_rfl),fun us vs h1 h2=>u3 (fun a b c=>u0 (⟨[],fun _=>.nil,fun s X=>la (by kernel_rfl)⟩) vs h2) us h1⟩
theorem Xx:LK (KW F w) 72 (ml 3 1) ["self", "obj", "objtype"] [] 3 [] :=
 ⟨_,.of rfl (by kernel_rfl),fun us vs h1 h2=>u3 (fun a b c=>u0 (⟨[],fun _=>.nil,fun s X=>BindsTo.of_defaults (T:=65) rfl (X 65 _ rfl) rfl rfl rfl⟩) vs h2) us h1⟩
end
noncomputable def Xy(K:vb)(x:Str):Option Value:=(nsIn K bM x).bind fun o=>o.rec (if x = "__name__" then none else iB x) some
theorem OT{C:Cx}{K:vb}{x:Str}{v:Value}(X:K.In C.base)(hg:C.base.Ns bM C.mg)(hb:∀x:Str,x ≠ "__name__"→C.mb x=iB x)(h:Xy K x=some v):C.mg x=some v∨(C.mg x=none∧C.mb x=some v):=by
 delta Xy at h
 cases e:nsIn K bM x with
 | none=>rw [e]at h;cases h
 | some o =>
  rw [e]at h
  cases o with
  | some u=>cases h;exact .inl (mg_of X hg e)
  | none =>
   by_cases q:x = "__name__"
   ·have:(if x = "__name__" then none else iB x)=some v:=h
    rw [if_pos q]at this;cases this
   ·have:(if x = "__name__" then none else iB x)=some v:=h
    rw [if_neg q]at this;exact .inr ⟨mg_none_of X hg e,(hb x q).trans this⟩
section
variable(F:qo) (w:World)
theorem Xz{C:Cx}(hK:C.K=KW F w)(X:C.K.In C.base)(hg:C.base.Ns bM C.mg)(hb:∀x:Str,x ≠ "__name__"→C.mb x=iB x):kQ C G6:=by
 rw [hK]at X
 have h:=List.map_inj_left.mp (show G6.map (fun g=>Xy (KW F w) g.1)=G6.map (fun g=>some g.2) by kernel_rfl)
 exact fun x v e=>OT X hg hb (h _ (mem_of_lookup e))
end
section
variable{C:Cx}
theorem OU{fa:Addr}{t:Stmt}{pn kn:List Str}(X:C.K.In C.base)(k:GO C.K fa t pn kn):m6 C fa t pn kn∧bu C (.ref fa):=by
 obtain ⟨fd,f,h⟩:=k
 exact ⟨⟨fd,f.fnAt X,f.scope,h⟩,bu.ref f.keep⟩
theorem D5{fa:Addr}{t:Stmt}{pn kn:List Str}{n:Nat}{dc:List CV}(X:C.K.In C.base)(k:LK C.K fa t pn kn n dc):GL C fa t pn kn n dc:=by
 obtain ⟨fd,f,h⟩:=k
 exact ⟨fd,f.fnAt X,f.scope,h⟩
theorem rP{cl fa:Addr}{name:Str}{t:Stmt}{pn kn:List Str}{n:Nat}{dc:List CV}(X:C.K.In C.base)(h:gn C.K (.ref cl) name=some (some (.ref fa)))(k:LK C.K fa t pn kn n dc):nq C cl name fa t pn kn n dc:=by
 have h2:=D5 X k
 obtain ⟨fd,f,_⟩:=k
 exact ⟨h,f.typ,f.keep,h2⟩
theorem zI(h:C.base.get? a=some { cls:=.type "frozenset",data:=d })(hs:aQ C.prog C.w d cs)(hl:cs.length<4096):dW C a (fun c=>decide (c∈cs)):=by
 obtain ⟨es,n,t,rfl,_⟩:=id hs
 obtain ⟨h1,h2,h3,h4,_⟩:=hs.facts
 exact ⟨cs.length,hl,es,n,t,h,h2,fun k=>by rw [decide_eq_true_iff];exact h4 k,h3,h1⟩
end
theorem Ig{α:Type}[BEq α][LawfulBEq α]:∀{l m:List α},l.Nodup→(∀x∈l,x∈m)→l.length≤m.length
 | [],m,_,_=>gm _
 | a::l,m,hn,h=>by
  have ha:=h a aH
  obtain ⟨h1,h2⟩:=dy.mp hn
  have:=Ig (m:=m.erase a) h2 fun x hx=>(qE (fun(e:x=a)=>h1 (by rw [← e];exact hx))).mpr (h x (aG _ hx))
  rw [List.length_erase_of_mem ha]at this
  have:=List.length_pos_of_mem ha
  simp only [af]
  exact T2 [.u .y .o,.l .y .x,.t (.n 0) .z] (.l (.a .y .o) .z) tA (by assumption) this
theorem TZ{C:Cx}{w:World}(hp:C.prog=PG)(hw:C.w=w)(hK:C.K=KW (fns PG w) w)(X:C.K.In C.base)(hg:C.base.Ns bM C.mg)(hb:∀x:Str,x ≠ "__name__"→C.mb x=iB x)(ht:C.tb=396)(hh:C.base.get? C.tb=none):∃B S W,LX C B S W∧Sg B S W:=by
 have G:=Xz _ _ hK X hg hb
 obtain ⟨prog,w',A,env,base,outer,K,mg,mb,KF,s0,tb⟩:=C
 dsimp only at hp hw hK X hg hb ht hh
 subst hp hw hK ht
 obtain ⟨_,sW,sB,cs,sS,nS,mS⟩:=xp w'
 have lS:cs.length≤(B8++va).length:=Ig nS fun c hc=>((mS c).mp hc).1
 have hl:(B8++va).length=33:=by decide +kernel
 have Y0:=X 130 _ rfl
 have Y1:=X 121 _ rfl
 have Y2:=X 115 _ rfl
 have Y3:=X 401 _ rfl
 have Y4:=X 150 _ rfl
 have gN:=Heap.Ns.of_isNs (isNs_of_in (N:=149) X (by kernel_rfl))
 have sub:∀{G':List (Str×Value)},(∀g∈G',G6.lookup g.1=some g.2)→kQ ⟨PG,w',A,env,base,outer,KW (fns PG w') w',mg,mb,KF,s0,396⟩ G':=fun h x v e=>G x v (h _ (mem_of_lookup e))
 refine ⟨fun c=>decide (c∈Ml),fun c=>decide (c∈cs),fun c=>decide (c∈Ux),?_,?_⟩
 ·have fi:=@OU ⟨PG,w',A,env,base,outer,KW (fns PG w') w',mg,mb,KF,s0,396⟩
  obtain ⟨a1,b1⟩:=fi X (TB _ _)
  obtain ⟨a2,b2⟩:=fi X (TC _ _)
  obtain ⟨a3,b3⟩:=fi X (TF _ _)
  obtain ⟨a4,b4⟩:=fi X (TG _ _)
  obtain ⟨a5,b5⟩:=fi X (TH _ _)
  obtain ⟨a6,b6⟩:=fi X (TJ _ _)
  obtain ⟨a7,b7⟩:=fi X (TK _ _)
  obtain ⟨a8,b8⟩:=fi X (TL _ _)
  obtain ⟨a9,b9⟩:=fi X (TM _ _)
  obtain ⟨a10,b10⟩:=fi X (TP _ _)
  refine ⟨⟨a1,a2,a3,a4,b1,b2,b3,b4⟩,zI Y0 sB (by decide +kernel),zI Y2 sS (by rw [hl]at lS;exact T1 [.l .x (.n 33)] (.t .x (.n 4096)) tA lS),zI Y1 sW (by decide +kernel),G,a5,b5,⟨a6,fun fd Dc=>?_⟩,b6,⟨?_⟩,bu.ref (by kernel_rfl),⟨?_,hh,?_⟩,?_,⟨⟨_,_,_,_,rfl,rfl,rfl,rfl,rfl,rfl⟩,by kernel_rfl⟩,
   ⟨by kernel_rfl,by kernel_rfl,by kernel_rfl,by kernel_rfl,by kernel_rfl,by kernel_rfl,by kernel_rfl,by kernel_rfl⟩,bu.ref (by kernel_rfl),D5 X (TY _ _),⟨⟨by kernel_rfl,by kernel_rfl,by kernel_rfl,by kernel_rfl,by kernel_rfl⟩,by kernel_rfl,by kernel_rfl,by kernel_rfl,by kernel_rfl,sub ?_⟩,
   ⟨by kernel_rfl,⟨715,by kernel_rfl⟩,⟨713,by kernel_rfl⟩⟩,bu.ref (by kernel_rfl),rP X (by kernel_rfl) (TR _ _),rP X (by kernel_rfl) (TS _ _),rP X (by kernel_rfl) (TU _ _),⟨⟨by kernel_rfl,by kernel_rfl,by kernel_rfl,by kernel_rfl,by kernel_rfl⟩,by kernel_rfl,by kernel_rfl⟩,bu.ref (by kernel_rfl),
   rP X (by kernel_rfl) (TV _ _),rP X (by kernel_rfl) (TX _ _),a7,b7,a8,b8,a9,b9,a10,b10,by decide +kernel,⟨by kernel_rfl,by kernel_rfl⟩⟩
  ·obtain ⟨o,ho,hd⟩:=Dc
   rw [Y3]at ho
   cases ho
   cases hd
   exact ⟨rfl,rfl⟩
  ·exact ⟨_,_,_,_,_,_,_,_,_,_,_,_,_,_,_,_,Y4,gN,ns_none_of X gN (by kernel_rfl),ns_none_of X gN (by kernel_rfl)⟩
  ·exact ⟨400,_,_,_,_,_,_,_,_,_,rfl,X 400 _ rfl,rfl,rfl,rfl,rfl,rfl,rfl,rfl⟩
  ·exact ⟨4,_,mg_of X hg (by kernel_rfl),by decide,by decide,X 4 _ rfl,rfl,rfl,rfl⟩
  ·refine ⟨by kernel_rfl,by kernel_rfl,by kernel_rfl,by kernel_rfl,fun od=>by kernel_rfl,fun od=>by kernel_rfl,fun cd h=>?_,D5 X (Xx _ _),sub ?_,by kernel_rfl,⟨_,some _,922,⟨X 305 _ rfl,rfl,rfl,X 304 _ rfl⟩,by kernel_rfl⟩,⟨_,some _,932,⟨X 308 _ rfl,rfl,rfl,X 307 _ rfl⟩,by kernel_rfl⟩,by kernel_rfl⟩
   ·have e:(DL (KW (fns PG w') w') 313).map (·.hasDict)=some false:=by kernel_rfl
    rw [h]at e
    exact aE e
   ·decide +kernel
  ·decide +kernel
 ·have s0:∀c,c∉B8++va→decide (c∈cs)=false:=fun c h=>decide_eq_false fun q=>h ((mS c).mp q).1
  refine ⟨by decide +kernel,by decide +kernel,by decide +kernel,by decide +kernel,by decide +kernel,fun c hc=>s0 _ ?_⟩
  revert c
  decide +kernel
end
end
section
set_option maxHeartbeats 8000000
theorem B9{P:Params}{h:Heap}{I:IM}:∀{vs:List Value} {xs:List Int},WellAll P h vs (ofPys (xs.map ET))→ck I (xs.map .int) vs
 | vs,[],x=>by cases x;exact .nil
 | vs,n::xs,x=>by
  cases x with
  | cons a b =>
   cases a
   exact .cons (by exact ⟨_,rfl⟩) (B9 b)
theorem Ta(X:(KK (fns PG w) w).In h):h.get? 396=some ⟨.none,.none,.fields #[],#[]⟩:=X 396 _ (by kernel_rfl)
theorem Tb(X:(KK F w).In h):(KW F w).In (kF h 396):=fun a o e=>by
 have ha:a≠396:=fun q=>by
  subst q
  have:(KW F w).lookup 396=none:=by kernel_rfl
  rw [this]at e;cases e
 rw [kG ha]
 refine X a o ?_
 unfold KK
 rw [List.lookup_append,e]
 rfl
theorem final{w:PySem.World}{q:Program}{eT bO:Shared}{loose:List Str}{xs:List Int}{a:Addr}(KX:(KK (fns PG w) w).In bO.heap)(T:Top q loose (jC eT.heap) mg mb bO.heap)(hg:bO.gens=#[])
  (hw:Well w.params bO.heap (.ref a) (ofPy (Oq (xs.map ET)))) (hlen:¬(63:Int)<xs.length) :
  gq (aS PG w) callerA (.call (.ref 434) { pos:=[.ref a] }) (fun r s'=>∃v,r=.ok (.ret v)∧Oo pf.row.claim (tS eT.heap) (jC eT.heap) [ofPy (Oq (xs.map ET))] bO r s'∧s'.gens=#[]) bO:=by
 have X:=Tb KX
 have OV:=Ta KX
 obtain ⟨fd,f,Gs⟩:=TQ (fns PG w) w
 obtain ⟨oc,od,sl,e⟩:=f.at_
 have cx:(434:Addr)≠396:=by decide
 have Y5:=(kG cx).symm.trans (X _ _ e)
 have Tc:VR (fun b=>(kF bO.heap 396).get? b) (.lst (xs.map .int)) (.ref a):=by
  simp only [ofPy]at hw
  cases hw with
  | list h1 h2 =>
   refine ⟨a,_,_,rfl,(kG fun q=>?_).trans h1,by simpa using B9 h2⟩
   rw [q,OV]at h1
   cases h1
 refine dX (Kw (cq:=gC) (cp:=ke) (dep:=9) (K:=KW (fns PG w) w) (mg:=mg) (mb:=mb) (pn:=["script"]) (args:=[.lst (xs.map .int)]) (us:=[.ref a]) X T.g T.b T.nolimit T.builtins rfl rfl (by decide) (by decide) rfl OV (by decide) (by decide) (by decide) (by decide) ⟨434,_,by decide,X _ _ e⟩ Y5 rfl (codeRec_of X f.code |>.keeps fun b o h=>(rL h).1) f.body f.Jk f.gl f.bl f.co f.gen f.kind (Gs [.ref a] [] rfl rfl)
  (by rw [f.scope];decide +kernel) (by decide) (by rw [f.scope];decide +kernel) (by rw [f.scope];decide +kernel) (.cons Tc .nil) fun C' ok c1 c2 c3 c4 c5 c6 c8 c7=>?_) fun r s' ⟨er,keep,⟨ps,u5⟩,h,tk,dr,es⟩=>?_
 ·have hk:HK C' (ax (bK 43)):=fun y=>by unfold eB;rw [c7,f.scope]
  obtain ⟨B,S,W,L,sg⟩:=TZ c5 c6 c2 ok.K ok.g ok.boot c8 (by rw [c1,c8];exact vM _ _)
  exact Sa (dep:=0) L (II sg) (IJ sg) ok hk (by rw [c8];rfl) fun aj sE=>⟨rfl,sE⟩
 ·subst er
  refine ⟨_,rfl,⟨.inl ⟨.bool true,.bool true,[],rfl,fun _=>rfl,.bool true,by kernel_rfl,fun _=>⟨eY,fun a h=>by cases h⟩⟩,⟨fun b o hb=>?_,fun b o hb=>?_⟩,by rw [es],.of_eq (by rw [es];exact hg)⟩,by rw [es];exact hg⟩
  ·by_cases q:b=396
   ·subst q
    rw [OV]at hb
    cases hb
    refine .inr (.inl ⟨⟨400,_,_,(kG (by decide)).symm.trans (X 400 _ rfl),rfl,rfl,rfl⟩,rfl,#[],ps,rfl,?_⟩)
    rw [Array.empty_append];exact u5
   ·exact .inl (keep b o q hb)
  ·by_cases q:b=396
   ·clear hb;subst q;exact ⟨_,u5⟩
   ·exact ⟨o,keep b o q hb⟩
end
end Mine
set_option maxHeartbeats 8000000 in
theorem PySem.Challenge.cw_kq0032_06_holds : PySem.Challenge.rw_kq0032_06.Holds := by
 w_on
 refine holds_law (by kernel_rfl) fun said=>?_
 refine Mine.zF (q:=Mine.QV) (loose:=Mine.LS) (XP:=XL Mine.QV []) (Y:=Mine.Y6) Mine.Ie (fun w h h' y k=>y.keeps k) XL.keeps (by rfl) (by rfl) (by rfl) (by rfl) (by first | assumption | decide +kernel) (by decide +kernel) (by decide +kernel) (by decide +kernel) ⟨rfl,rfl,rfl,rfl,rfl,by decide +kernel⟩ ?hw ?hc
 case hw=>w_witness2
 intro w eT bO mg mb G Y fa o pm cd doc dV kV ho yL NP hD Y7 hg args vals as ui LB Km Uj Ni
 have KX:(Mine.KK (Mine.fns Mine.PG w) w).In bO.heap:=Y
 clear yL NP hD
 refine Ground.open G ?_
 intro T B D TE TW
 have hfa:fa=434:=by
  have h1:=mg_of KX T.g (n := "law") (v:=.ref 434) (by kernel_rfl)
  have h2:mg "law" = some (.ref fa):=Y7
  rw [h2]at h1
  clear ho Y7 h2;cases h1;rfl
 clear Y7
 clear ho;subst hfa
 wrow_args ui LB Km Uj Ni
 refine wpAny_call (codeAny_mono (Mine.final KX T hg (by assumption) (by assumption)) fun r s' hr=>?_)
 obtain ⟨v,er,hr⟩:=hr
 subst er
 exact hr
