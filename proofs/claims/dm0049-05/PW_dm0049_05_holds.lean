import PyProof.Rows.All
import Wide.All
import OpenK.AllK
import Wide.FinOn
import KE.KTryDeep
import PyProof.RulesAs
import PyProof.RulesDel
import PyProof.ExcFactsAll.TypeError
import PyProof.Rows.MatchSeqLen
import PyProof.EqKinds
import PyProof.DictKinds
import PyProof.Rows.EqMixed
import PyProof.Rows.EqNone
import PyProof.IsiPairs
import PyProof.IsiNone
import PyProof.TwoTypes
import PyProof.AutoIntG4
import PyProof.AttrMiss
import KE.KTypeName
import PyProof.TypeOfCall
import KE.KDictIter
import PyProof.Rows.SortShellK
import KE.KSetIn
import KE.KIntText
import PyProof.SliceMore
import PyProof.FString4
import PyProof.FString5
import KE.KBytesWalk
import KE.BytesMake
import PyProof.Rows.CallKw2
import Lean
import PySem.Challenge.RW_dm0049_05
open PySem renaming wpAny_bind → KI, wpAny_pure → KN, Params → KS, Shared → KY, wpAny_holding → Lh, Around → Lk, Program → Ll, model → Ly, World → Lz, wpAny → LC, strKind → LM, wpAny_standAt → LN, Addr → LP, builtinLookup_eq_fast → LQ, sizeLine → LY, wpAny_call_entry → Mb, wpAny_mono → Mg, starEach → Mh, wpAny_callSpecial?_slot → Mj, wpAny_newObj_type → Mk, isSubtype_type → Mm, wpAny_of_eq → Mo, typeLookup_type → Mp, letOwnedTupleGo → Mq, sizeLine_eq → Mz, rawInt → MC, eval → ME, typeLookup → MF, wpAny_rule → MI, mainGlobals → ML, assign → MM, wpAny_isInstance → MR, assignEach → MV, wpAny_seqItems → MY, wpAny_fieldsOf → MZ, recursionLimit → Na, Builtin → Nd, codeAny_call_builtin → Nj, sysModules → Nl, pyNext → Nr, builtinsNs → Nt, wpAny_mkStr → Nu, entryFor_of_tree → Nv, wpAny_attempt → Ny, firstArgMember → Nz, wpAny_call → NB, compareOp → NE, backTo → NF, wpAny_field → NL, foldedSetIterable → NP, codeAny_builtin → NQ, intKind → NV, GenState → NZ, isSubtype → Oa, FuncData → Oi, wpAny_specialOf → Oj, storeName → Ok, holding → Ol, codeAmong → Om, closureFor_none → On, argsOk → Oo, KeyKind → Ov, binaryOp → Ph, list_getitem_lookup → Ps, pyIter → Pz, codeAny → PA, keywordEach → PH, wpAny_setField → PJ, standAt → PM, theTreesLotGoes → PT, wpAny_truthy_bool → PU, interactive → PV, entryFor → PW, swappedStores → Qb, noteFrame → Qo, notedBy → Qp, wpAny_letGo → Qv, typeOf → Qw, compEnvC → Qx, callMarked → Qy, wpAny_typeOf → QA, opaqueClassAbove → QB, getAttr → QC, Keyword → QE, Fin → QF, plainId_quiet → QK, backToKw → QL, attributeBase → QM, getItem → QN, typeIs_str → QP, typeIs_none → QS, specialOf → QT, wpAny_newTuple → QX, wpAny_loadPart → QY, callWith → QZ, bindArgs → Ra, wpAny_ite → Rm, wpAny_execs_cons → Rn, updateSeq → Ro, checkBuiltinCall → Rp, PlainAttrs → Rq, swapsWithSole → Rw, behindInMarks → Ry, ExcRaiseFacts → RA, wpAny_newFunctionEnv → RC, wpAny_load → RX, wpAny_evalAll_cons → RY, slot_listiter_next → RZ, getattributeRaised → Sa, closureFor → Sb, wpAny_point → Sf, valueAt → Sg, StrKeys → Si, nsFind → So, swapsWith → Sx, inplaceOp → Sy, allTrue → SG, wpAny_ite_split → SJ, fillsNumberSlot → SK, codeAny_of_tree → SM, Meets → SQ, codeAny_call_function → SV, yieldOut → Td, wpAny_throw → Te, wpAny_letTemporaryGo → Tf, entryFor_alias → Tg, setFlight → Ti, builtinType_eq_fast → Tm, methodCallPos → Tz, checkTypeCall → TA, typeIs_int → TE, sub_AttributeError → TF, call_meets → TJ, call_function_tree → TK, wpAny_pyIter_list → TS, keeperOf → TT, evalPart → TU, evalArgs → TV, callAny → TW, wpAny_forIn_list → Uf, wpAny_askSetting → Ug, wpAny_Try_except → Uh, getMethod → Ui, wpAny_alloc → Ur, unpackItems → Us, callSpecialIfBoundUnlessNone? → Ut, wpAny_genNumber → UA, wpAny_execs_nil → UB, wpAny_updateFieldsOfTheText → UG, setItem → UH, wpAny_tryCatch → UL, wpAny_genState → UM, wpAny_bindName → UN, methodCallForm → UP, letTemporaryGo → UQ, entry_gen_next → UR, dictSetDefault → US, constantsAlone → UT, cameBackBy → UU, callType_codes → UV, wpAny_release → Vb, wpAny_newList → Vj, wpAny_mkBytes → Vk, wpAny_comprehension_free → Vl, slot_gen_next → Vm, foldedForSure → Vn, arm_eval_Call → Vo, args_gen_next → Vp, scanBound → VE, mkStr → VF, bindL → VG, bindC → VH, newExc → VQ, meets_dict_get_default → VR, inMainModule → VT, genEnv → VV, forTurn → VW, codeAny_func → VX, wpAny_notOrdered_dict → Wf, getitemInPython_of_ne → Wg
open List renaming mem_cons_self → KJ, mem_cons_of_mem → KP, length_map → KR, mem_cons → KZ, length_cons → La, length_append → Lb, map_cons → Le, cons_append → Lg, perm_append_comm → Li, nil_append → Lj, mem_singleton → Lm, nodup_cons → Lp, lookup_cons → Lu, mem_map_of_mem → Lv, length_nil → LA, map_append → LD, getElem?_eq_getElem → LF, mem_map → LG, append_assoc → LH, reverse_cons → LI, mem_append_right → LJ, all_eq_true → LS, reverse_nil → LU, getElem?_map → Ma, mem_append → Md, Perm → Ml, mem_append_left → Mn, foldl_cons → Mr, append_nil → Ms, range' → Mu, filterMap_cons → MG, map_map → MN, drop_of_length_le → MO, drop_eq_getElem_cons → MP, perm_middle → MT, not_mem_nil → MU, getElem?_eq_none → MX, mem_filter → Ng, find?_cons → Nh, map_congr_left → Nm, length_singleton → Np, cons → Nw, range'_succ → ND, zip_cons_cons → NH, pairwise_cons → NI, filterMap_append → NJ, getElem?_eq_some_iff → NM, map_nil → NU, length → NY, filterMap_map → Oh, eq_nil_or_concat → Os, concat_eq_append → Ot, flatMap_cons → OB, flatMap_append → OD, length_drop → OI, forall_mem_cons → OP, length_eq_zero_iff → OS, getElem_mem → Pc, getElem?_toArray → Pd, filterMap_cons_some → Pj, isEmpty_map → Po, getElem?_append_left → Pr, mem_of_getElem? → Px, take_of_length_le → PC, length_range' → PE, isEmpty_eq_false_iff → PI, lookup → PO, nodup_nil → PZ, isEmpty_iff → Qa, any_append → Qj, perm_append_comm_assoc → Qk, nodup_append → Ql, filter_cons → Qq, forIn_cons → QD, length_set → Rj, zip_nil_right → RE, mem_filterMap → RF, getElem?_drop → RG, getElem?_append_right → RH, forIn_nil → RI, length_tail → Sc, drop_length → Sd, any_eq_true → Se, getElem?_set_self → Sj, find?_cons_of_neg → Sl, mem_of_mem_take → SB, filterMap → SC, length_pos_iff → SS, eraseDups_cons → SU, all_cons → SW, any_eq_false → Tl, flatMap_nil → TB, mem_range → Uc, drop_zero → Ud, drop_drop → Ue, getLastD_eq_getLast? → Uk, map_take → Uw, filterMap_cons_none → Ux, filter_cons_of_pos → UC, filter_cons_of_neg → UD, mem_of_mem_drop → Vd, map_id → Ve, getElem?_range' → Vg, take_succ_cons → Vv, reverse_perm → Wa, mem_range'_1 → Wb, length_range → Wc, mem_reverse → Wo, cons_ne_nil → Wp
open PySem.Str renaming ofString → KX, length_append → Pg, ofString → Qt, empty → Rb
open PySem.Heap renaming get?_push_size → Lc, get?_push_of_some → Ld, SameBut → LL, get?_update_self → LV, lt_size → Mf, size_push → Od, get?_update_other → Qf, get?_none_of_le → Rg, get?_update_ne → Ru, ExtBut → RW, NewAttrErr → TR
open Nat renaming zero_le → Lq, le_refl → LK, le_trans → Mc, le_of_ble_eq_true → Mx, ne_of_lt → MA, le_of_lt → MW, lt_irrefl → Nn, lt_succ_self → NC, le_add_right → Ow, lt_of_le_of_lt → Ox, succ_add_eq_add_succ → Oy, le_of_eq → Oz, lt_of_lt_of_le → OA, add_sub_cancel_left → OC, add_le_add_left → OE, add_assoc → OF, succ_le_succ → OH, zero_add → OJ, add_le_add_right → OK, sub_le → OL, add_le_add → OM, le_succ_of_le → ON, lt_add_of_pos_right → OO, not_lt → OX, lt_trans → Pa, le_of_lt_succ → Pe, succ_pos → Pf, min_eq_left → Pk, le_succ → Pp, min_le_right → Pu, lt_succ_iff_lt_or_eq → Pw, le_antisymm → PB, sub_add_cancel → PF, not_lt_zero → PN, mul_le_mul_left → PY, ne_of_gt → Qg, eq_zero_or_pos → Qh, add_right_comm → Qi, add_comm → Qu, add_sub_cancel' → Qz, le_add_left → QG, not_le → QH, lt_of_lt_of_eq → QI, succ_pred_eq_of_pos → QJ, sub_pos_of_lt → QQ, zero_lt_succ → Rc, not_succ_le_zero → Rh, le_sub_of_add_le → Ri, min_le_left → Rr, pos_of_ne_zero → RN, lt_or_eq_of_le → RO, add_sub_cancel → RP, le_total → Sq, le_of_succ_le_succ → Sr, le_of_sub_eq_zero → Sz, zero_sub → Tq, sub_self → Tr, lt_of_sub_pos → Ts, add_zero → Tt, succ_lt_succ → TM, min_eq_right → TN, max_eq_left → Ub, le_of_add_le_add_left → Uu, add_le_of_le_sub' → Vc, le_sub_one_of_lt → Vu, succ_le_of_lt → Wl, lt_succ_of_lt → Wm, le_of_succ_le → Wn
open PySem.Heap.SameBut renaming update → LR, refl → Um
open Bool renaming false_eq_true → LW, false_ne_true → LZ, and_eq_true → Mv, eq_iff_iff → NR, or_eq_false_iff → Py, or_eq_true → PL, not_eq_true' → PP, eq_false_iff → PQ, noConfusion → Qs, and_false → QO, not_not → Sn, false_or → SZ, or_false → Uz, not_eq_true → Wr
open Int renaming toNat_natCast → LX, natCast_nonneg → OG, ofNat_lt → OR, ofNat_le → Pb, add_sub_cancel → PG, ofNat_inj → PS, ofNat_eq_zero → QR, not_lt → Rd, max_eq_left → Rs, le_trans → RD, lt_of_lt_of_le → RS, lt_of_le_of_lt → RT, min_eq_left → Sw, sub_add_cancel → Th, lt_trans → Tv, le_add_one → Ul, le_of_lt → UX, add_comm → UY, sub_nonpos_of_le → Vy, sub_nonneg_of_le → Vz, add_lt_add_right → VA, add_le_add_right → VB
open PySem.Obj renaming mapSeq → Me, mapFields → Nf, isFreed_of_fields → NG, data_mapFields → Og, cls_mapFields → Tp, data_mapDictKeys → Vt
open PySem.W renaming peek → Mi, boot_drawn → MJ, hideAll_none → RV, findCls → Sh, methodObj → Tj, findIn → TH, check_slot → TI, Looks → Uv, WellAll → UI, of_hideAll → UO, eq_bytes → Vr, kdsCode → VS, hideAll → VU
open PySem.W.KFB renaming if_not → Mt, if_so → TO
open PySem.Sem renaming bind_eq_wrap' → Mw, wrap_wrap → MS, onRaise_eq_wrap → NW, wp_operate → RL, wrap → Vq
open PySem.Value renaming none → My, type → Ob, isInt_shape → OV, isStrOf_shape → OW, ref → Pm, isStrOf → SN, builtin → SO
open Option renaming map_eq_some_iff → MB, map_some → Oq, eq_none_iff_forall_ne_some → Pn, isSome_iff_exists → Pt, none → UJ, bind_some → VL, or_assoc → VZ, or_none → Wi, none_or → Wj
open Array renaming mk → MD, length_toList → MH, getElem?_eq_getElem → MQ, getElem?_toList → Nq, getElem?_eq_none → Oe, getElem?_eq_some_iff → OZ, size_map → PD, extract_size → Qe, toList_inj → QW, getElem?_push → Rl, map → SE, forIn_toList → Ta, mem_iff_getElem? → UF, foldl → UZ, getElem_mem → VP, size_push → Ws
open Option.some renaming injEq → MK, inj → No
open Pure renaming pure → Nb
open List.Perm renaming swap → Nc, cons → NN, append_left → Ou, append_right → OT, of_eq → Vh
open List.cons renaming inj → Ni
open PySem.F renaming slot_tuple_iterator_next → Nk, plainAttrs_list → OQ, type_list_append → OU, type_list_extend → OY, plain_extend_loop → Pq, type_str_format_m → RJ, entry_extend_loop → RK, plain_any_loop → Su, excRaise_TypeError → TL, excCall_TypeError → TQ, args_str_add_2 → Uj, slot_dict_get → Un, args_tuple_iterator_next_1 → Uo, entry_tuple_iterator_next → Uy, slot_dict_setdefault → VC, slot_NoneType_hash → We
open PySem.W.Fast renaming te10110043849684766642 → NA
open PySem.Calls renaming Constant_str → NK, evalArgs_plain → PK, wpAny_keep → QV, call_function_entry → RU, spliced_cons → VD, spliced_nil → VO
open PySem.Around renaming under_plainId → NO, frames_deeper → Qn, over → Tw
open PySem.W.Looks renaming of_peek → NX, ld → SA, of_pure → SR
open PySem.W.SharedT renaming mk → Oc
open ToString renaming toString → Of
open PySem.Builtin.List renaming listExtendWith → Pi, listItems → PR, listSameRef → Qm, listUpdate → RB, listLengthHint → SY, listTouch → TD
open PySem.Builtin.Generator renaming genWake → Pl, genLeft → SD
open Std.Legacy.Range renaming forIn_eq_forIn_range' → PX, size → Rz
open PySem.Builtin.SmallTypes renaming nextOf → Qc
open PySem.Builtin.Tuple renaming tupleItemsOf → Qd
open PySem.Code renaming builtin → Qr, quiet_builtin → Tc
open False renaming elim → QU
open Nat.succ renaming inj → Re
open PySem.W.KT renaming len_num → Rf
open PySem.Builtin.Dict renaming addKeywords → Rk
open Classical renaming byContradiction → Rv
open PySem.W.KFm renaming cat_ex → RQ, cat_te → Ss
open PySem.Manifest renaming signature? → Sv, isStub → Tk, find? → VM
open PySem.Builtin._codecs renaming decodeRoad → SI
open Std.Legacy renaming Range → SP
open PySem.Heap.DictOf renaming new → SX
open PySem.GenResult.yielded renaming inj → Tb
open PyProof.Rows renaming kwAll_cons → To, lt_int → TY, eq_str → TZ, eq_int → Ua
open PySem.Env renaming kindOf → Up
open PySem.EntryCells renaming newEntry → Uq
open PySem.Frame renaming where_ → UE
open Decidable renaming not_not → UK
open PySem.W.KPc renaming good_add → UW, ite_no → Wd
open PySem.callAny renaming viaDunder → Va
open ForInStep renaming yield → Vi
open PySem.Value.ref renaming inj → VJ
open Or renaming imp_left → VK, imp → Wh
open PySem.W.FB renaming slot_bytes_decode → VN
open PySem.W.WShape renaming hasItems → VY
open PySem.End renaming bare_of_quiet → Wq
open Option renaming some → Wu, none → Wv
open Bool renaming true → Ww, false → Wx
open PySem PySem.W
set_option Elab.async false
set_option linter.all false
set_option maxRecDepth 100000
set_option maxHeartbeats 0
set_option tactic.hygienic false
namespace Mine.Internal
@[elab_as_elim]theorem Rw1.{u}{α:Sort u}{a b:α}{P:α->Prop}(h:a=b)(k:P b):P a:=h▸k
@[elab_as_elim]theorem Rw2.{u}{α:Sort u}{a b:α}{P:α->Prop}(h:b=a)(k:P b):P a:=h▸k
@[elab_as_elim]theorem Rw3{a b:Prop}{P:Prop->Prop}(h:a<->b)(k:P b):P a:=propext h▸k
def Rw4(k:String):Array Lean.Syntax->Lean.Syntax:=.node .none (.str `Lean.Parser.Tactic k)
def Rw5(x:Array Lean.Syntax):Lean.Syntax:=Rw4 "tacticSeq" #[Rw4 "tacticSeq1Indented" #[Lean.mkNullNode x]]
def Rw6(x:Lean.Syntax):Lean.Syntax:=.node .none `group #[Lean.mkAtom "|",Rw5 #[x]]
def Rw7(a:Lean.Term)(e:Lean.Name):Lean.Syntax:=Rw6 (Rw4 "refine" #[Lean.mkAtom "refine",Lean.Syntax.mkApp (Lean.mkIdent e) #[Lean.Syntax.mkApp a #[⟨.node .none `Lean.Parser.Term.ellipsis #[Lean.mkAtom ".."]⟩],⟨.node .none `Lean.Parser.Term.syntheticHole #[Lean.mkAtom "?",Lean.mkAtom "_"]⟩]])
local macro_rules (kind:=Lean.Parser.Tactic.rewriteSeq)
|s=>
 let r:=s[2][1]
 let f(x:Array Lean.Syntax):=s.setArg 2 (s[2].setArg 1 (r.setArgs x))
 if s[3].getNumArgs+s[1][0].getNumArgs>0 then Lean.Macro.throwUnsupported
 else pure (if r.getNumArgs>1 then Rw4 "paren" #[Lean.mkAtom "(",Rw5 #[f #[r[0]],Lean.mkAtom ";",f (r.getArgs.extract 2 99)],Lean.mkAtom ")"]
 else Rw4 "withReducible" #[Lean.mkAtom "with_reducible",Rw5 #[Rw4 "first" #[Lean.mkAtom "first",Lean.mkNullNode #[Rw7 ⟨r[0][1]⟩ (if r[0][0].getNumArgs>0 then `Rw2 else `Rw1),Rw7 ⟨r[0][1]⟩ `Rw3,Rw6 (Rw4 "fail" #[Lean.mkAtom "fail",Lean.mkNullNode])]]]])
theorem Ra1{a b c:Nat}(h:a<b)(e:Nat.ble b c=true):a<c:=Nat.lt_of_lt_of_le h (Nat.le_of_ble_eq_true e)
theorem Ra2{a b c:Nat}(h:a<b)(e:Nat.ble b c=true):a<=c:=Nat.le_of_lt (Ra1 h e)
theorem Ra3{a b c:Nat}(h:a<=b)(e:Nat.ble (b+1) c=true):a<c:=Nat.lt_of_le_of_lt h (Nat.le_of_ble_eq_true e)
def Ra4(k:String):Lean.Syntax:=Rw4 k #[Lean.mkAtom k,Rw4 "optConfig" #[Lean.mkNullNode]]
def Ra5:Lean.Syntax:=Rw4 "withReducible" #[Lean.mkAtom "with_reducible",Rw5 #[Rw4 "assumption" #[Lean.mkAtom "assumption"]]]
def Ra6(n:Lean.Name)(x:Array Lean.Term):Lean.Syntax:=Rw6 (Rw4 "exact" #[Lean.mkAtom "exact",Lean.Syntax.mkApp (Lean.mkIdent n) (x.push (Lean.mkIdent `rfl))])
def Ra7(x:Lean.Syntax):Lean.Term:=⟨.node .none `Lean.Parser.Term.byTactic #[Lean.mkAtom "by",Rw5 #[x]]⟩
def Ra8(n:String):Lean.Syntax:=Ra6 (.mkSimple n) #[Ra7 Ra5]
local macro_rules (kind:=Lean.Parser.Tactic.omega)|s=>pure (Rw4 "first" #[Lean.mkAtom "first",Lean.mkNullNode #[Ra6 `Nat.le_of_ble_eq_true #[],Rw6 (Ra4 "decide"),Rw6 Ra5,Ra8 "Ra1",Ra8 "Ra2",Ra8 "Ra3",Rw6 (Ra4 "lia"),Rw6 (Rw4 "fail" #[Lean.mkAtom "fail",Lean.mkNullNode])]])
local macro_rules (kind:=Lean.Parser.Term.omission)|s=>pure (Ra7 (Ra4 "omega"))
local macro_rules (kind:=Lean.Parser.Term.explicit)|s=>if s[1].isOfKind `Lean.Parser.Term.hole then pure (Ra7 (.node .none `tacticKernel_rfl #[Lean.mkAtom "kernel_rfl"])) else Lean.Macro.throwUnsupported
local macro_rules (kind:=Lean.Parser.Term.arrow)|s=>pure (.node .none `Lean.Parser.Term.forall #[Lean.mkAtom "∀",Lean.mkNullNode #[Lean.mkIdent `O],Lean.mkNullNode #[.node .none `Lean.Parser.Term.typeSpec #[Lean.mkAtom ":",s[0]]],Lean.mkAtom ",",s[2]])
noncomputable abbrev Wt:Str:=⟨⟨[95,95,100,101,98,117,103,95,95]⟩⟩
noncomputable abbrev ab:PySem.Program:=PySem.Challenge.pw_dm0049_05
section
variable{P:Prop}
def aD{p q:Prop}(h:p/\q)(c:p->q->P):P:=c h.1 h.2
def jI{p q r:Prop}(h:p/\q/\r)(c:p->q->r->P):P:=c h.1 h.2.1 h.2.2
def xu{p q r s:Prop}(h:p/\q/\r/\s)(c:p->q->r->s->P):P:=c h.1 h.2.1 h.2.2.1 h.2.2.2
def CN{p q r s t:Prop}(h:p/\q/\r/\s/\t)(c:p->q->r->s->t->P):P:=c h.1 h.2.1 h.2.2.1 h.2.2.2.1 h.2.2.2.2
def aKv{p q r s t k:Prop}(h:p/\q/\r/\s/\t/\k)(c:p->q->r->s->t->k->P):P:=c h.1 h.2.1 h.2.2.1 h.2.2.2.1 h.2.2.2.2.1 h.2.2.2.2.2
def xt{p q r s t k l m n:Prop}(h:p/\q/\r/\s/\t/\k/\l/\m/\n)(c:p->q->r->s->t->k->l->m->n->P):P:=c h.1 h.2.1 h.2.2.1 h.2.2.2.1 h.2.2.2.2.1 h.2.2.2.2.2.1 h.2.2.2.2.2.2.1 h.2.2.2.2.2.2.2.1 h.2.2.2.2.2.2.2.2
def aKw{p q r s t k l m n o:Prop}(h:p/\q/\r/\s/\t/\k/\l/\m/\n/\o)(c:p->q->r->s->t->k->l->m->n->o->P):P:=c h.1 h.2.1 h.2.2.1 h.2.2.2.1 h.2.2.2.2.1 h.2.2.2.2.2.1 h.2.2.2.2.2.2.1 h.2.2.2.2.2.2.2.1 h.2.2.2.2.2.2.2.2.1 h.2.2.2.2.2.2.2.2.2
def al{p:a->Prop}(h:∃x,p x)(c:∀x,p x->P):P:=h.elim λx h=>c x h
def ag{p q:a->Prop}(h:∃x,p x/\q x)(c:∀x,p x->q x->P):P:=h.elim λx h=>aD h (c x)
def bn{p q r:a->Prop}(h:∃x,p x/\q x/\r x)(c:∀x,p x->q x->r x->P):P:=h.elim λx h=>jI h (c x)
def gg{p q r s:a->Prop}(h:∃x,p x/\q x/\r x/\s x)(c:∀x,p x->q x->r x->s x->P):P:=h.elim λx h=>xu h (c x)
def CM{p q r s t:a->Prop}(h:∃x,p x/\q x/\r x/\s x/\t x)(c:∀x,p x->q x->r x->s x->t x->P):P:=h.elim λx h=>CN h (c x)
def oK{p:a->b->Prop}(h:∃x y,p x y)(c:∀x y,p x y->P):P:=h.elim λx h=>al h (c x)
def bG{p q:a->b->Prop}(h:∃x y,p x y/\q x y)(c:∀x y,p x y->q x y->P):P:=h.elim λx h=>ag h (c x)
def bA{p q r:a->b->Prop}(h:∃x y,p x y/\q x y/\r x y)(c:∀x y,p x y->q x y->r x y->P):P:=h.elim λx h=>bn h (c x)
def oJ{p q r s:a->b->Prop}(h:∃x y,p x y/\q x y/\r x y/\s x y)(c:∀x y,p x y->q x y->r x y->s x y->P):P:=h.elim λx h=>gg h (c x)
def sn{p q r s t:a->b->Prop}(h:∃x y,p x y/\q x y/\r x y/\s x y/\t x y)(c:∀x y,p x y->q x y->r x y->s x y->t x y->P):P:=h.elim λx h=>CM h (c x)
def iB{p q r s t k:a->b->Prop}(h:∃x y,p x y/\q x y/\r x y/\s x y/\t x y/\k x y)(c:∀x y,p x y->q x y->r x y->s x y->t x y->k x y->P):P:=h.elim λx h=>h.elim λy h=>c x y h.1 h.2.1 h.2.2.1 h.2.2.2.1 h.2.2.2.2.1 h.2.2.2.2.2
def fe{p q:a->b->c->Prop}(h:∃x y z,p x y z/\q x y z)(c:∀x y z,p x y z->q x y z->P):P:=h.elim λx h=>bG h (c x)
def bL{p q r:a->b->c->Prop}(h:∃x y z,p x y z/\q x y z/\r x y z)(c:∀x y z,p x y z->q x y z->r x y z->P):P:=h.elim λx h=>bA h (c x)
def fM{p q r s:a->b->c->Prop}(h:∃x y z,p x y z/\q x y z/\r x y z/\s x y z)(c:∀x y z,p x y z->q x y z->r x y z->s x y z->P):P:=h.elim λx h=>oJ h (c x)
def lL{p q r s t:a->b->c->Prop}(h:∃x y z,p x y z/\q x y z/\r x y z/\s x y z/\t x y z)(c:∀x y z,p x y z->q x y z->r x y z->s x y z->t x y z->P):P:=h.elim λx h=>sn h (c x)
def jH{p q r s t k:a->b->c->Prop}(h:∃x y z,p x y z/\q x y z/\r x y z/\s x y z/\t x y z/\k x y z)(c:∀x y z,p x y z->q x y z->r x y z->s x y z->t x y z->k x y z->P):P:=h.elim λx h=>iB h (c x)
def aKu{p q r s t k l:a->b->c->Prop}(h:∃x y z,p x y z/\q x y z/\r x y z/\s x y z/\t x y z/\k x y z/\l x y z)(c:∀x y z,p x y z->q x y z->r x y z->s x y z->t x y z->k x y z->l x y z->P):P:=h.elim λx h=>h.elim λy h=>h.elim λz h=>c x y z h.1 h.2.1 h.2.2.1 h.2.2.2.1 h.2.2.2.2.1 h.2.2.2.2.2.1 h.2.2.2.2.2.2
def xq{p q r s t k l m n:a->b->c->Prop}(h:∃x y z,p x y z/\q x y z/\r x y z/\s x y z/\t x y z/\k x y z/\l x y z/\m x y z/\n x y z)(c:∀x y z,p x y z->q x y z->r x y z->s x y z->t x y z->k x y z->l x y z->m x y z->n x y z->P):P:=h.elim λx h=>h.elim λy h=>h.elim λz h=>c x y z h.1 h.2.1 h.2.2.1 h.2.2.2.1 h.2.2.2.2.1 h.2.2.2.2.2.1 h.2.2.2.2.2.2.1 h.2.2.2.2.2.2.2.1 h.2.2.2.2.2.2.2.2
def aKt{p q:a->b->c->d->Prop}(h:∃x y z u,p x y z u/\q x y z u)(c:∀x y z u,p x y z u->q x y z u->P):P:=h.elim λx h=>fe h (c x)
def eK{p q r:a->b->c->d->Prop}(h:∃x y z u,p x y z u/\q x y z u/\r x y z u)(c:∀x y z u,p x y z u->q x y z u->r x y z u->P):P:=h.elim λx h=>bL h (c x)
def sm{p q r s:a->b->c->d->Prop}(h:∃x y z u,p x y z u/\q x y z u/\r x y z u/\s x y z u)(c:∀x y z u,p x y z u->q x y z u->r x y z u->s x y z u->P):P:=h.elim λx h=>fM h (c x)
def aKs{p q r s t:a->b->c->d->Prop}(h:∃x y z u,p x y z u/\q x y z u/\r x y z u/\s x y z u/\t x y z u)(c:∀x y z u,p x y z u->q x y z u->r x y z u->s x y z u->t x y z u->P):P:=h.elim λx h=>lL h (c x)
def aKr{p q r s:a->b->c->d->e->Prop}(h:∃x y z u v,p x y z u v/\q x y z u v/\r x y z u v/\s x y z u v)(c:∀x y z u v,p x y z u v->q x y z u v->r x y z u v->s x y z u v->P):P:=h.elim λx h=>sm h (c x)
def aKq{p q r s t:a->b->c->d->e->Prop}(h:∃x y z u v,p x y z u v/\q x y z u v/\r x y z u v/\s x y z u v/\t x y z u v)(c:∀x y z u v,p x y z u v->q x y z u v->r x y z u v->s x y z u v->t x y z u v->P):P:=h.elim λx h=>aKs h (c x)
def CL{p q r s t k l m n:a->b->c->d->e->Prop}(h:∃x y z u v,p x y z u v/\q x y z u v/\r x y z u v/\s x y z u v/\t x y z u v/\k x y z u v/\l x y z u v/\m x y z u v/\n x y z u v)(c:∀x y z u v,p x y z u v->q x y z u v->r x y z u v->s x y z u v->t x y z u v->k x y z u v->l x y z u v->m x y z u v->n x y z u v->P):P:=h.elim λx h=>h.elim λy h=>h.elim λz h=>h.elim λu h=>h.elim λv h=>c x y z u v h.1 h.2.1 h.2.2.1 h.2.2.2.1 h.2.2.2.2.1 h.2.2.2.2.2.1 h.2.2.2.2.2.2.1 h.2.2.2.2.2.2.2.1 h.2.2.2.2.2.2.2.2
def cL{p q:a->Prop}(x)(h0:p x)(d:q x):∃x,p x/\q x:=⟨x,h0,d⟩
def fL{p q r:a->Prop}(x)(h0:p x)(e:q x)(d:r x):∃x,p x/\q x/\r x:=⟨x,h0,e,d⟩
def aJd{p q r s:a->Prop}(x)(h0:p x)(i:q x)(e:r x)(d:s x):∃x,p x/\q x/\r x/\s x:=⟨x,h0,i,e,d⟩
def Cp{p:a->b->Prop}(x)(y)(h0:p x y):∃x y,p x y:=⟨x,y,h0⟩
def eY{p q:a->b->Prop}(x)(y)(h0:p x y)(d:q x y):∃x y,p x y/\q x y:=⟨x,y,h0,d⟩
def Kg{p q r:a->b->Prop}(x)(y)(h0:p x y)(e:q x y)(d:r x y):∃x y,p x y/\q x y/\r x y:=⟨x,y,h0,e,d⟩
def Kf{p q r s:a->b->Prop}(x)(y)(h0:p x y)(i:q x y)(e:r x y)(d:s x y):∃x y,p x y/\q x y/\r x y/\s x y:=⟨x,y,h0,i,e,d⟩
def xc{p q:a->b->c->Prop}(x)(y)(z)(h0:p x y z)(d:q x y z):∃x y z,p x y z/\q x y z:=⟨x,y,z,h0,d⟩
def Ke{p q r:a->b->c->Prop}(x)(y)(z)(h0:p x y z)(e:q x y z)(d:r x y z):∃x y z,p x y z/\q x y z/\r x y z:=⟨x,y,z,h0,e,d⟩
def aJc{p q r s:a->b->c->Prop}(x)(y)(z)(h0:p x y z)(i:q x y z)(e:r x y z)(d:s x y z):∃x y z,p x y z/\q x y z/\r x y z/\s x y z:=⟨x,y,z,h0,i,e,d⟩
def iv{p q r:a->b->c->d->Prop}(x)(y)(z)(u)(h0:p x y z u)(i:q x y z u)(e:r x y z u):∃x y z u,p x y z u/\q x y z u/\r x y z u:=⟨x,y,z,u,h0,i,e⟩
def Kd{p q r s:a->b->c->d->Prop}(x)(y)(z)(u)(h0:p x y z u)(j:q x y z u)(i:r x y z u)(e:s x y z u):∃x y z u,p x y z u/\q x y z u/\r x y z u/\s x y z u:=⟨x,y,z,u,h0,j,i,e⟩
def aJb{p q r s t k:a->b->c->d->Prop}(x)(y)(z)(u)(h0:p x y z u)(n:q x y z u)(l:r x y z u)(j:s x y z u)(i:t x y z u)(e:k x y z u):∃x y z u,p x y z u/\q x y z u/\r x y z u/\s x y z u/\t x y z u/\k x y z u:=⟨x,y,z,u,h0,n,l,j,i,e⟩
def aJa{p q r s t k l m:a->b->c->d->Prop}(x)(y)(z)(u)(h0:p x y z u)(E:q x y z u)(v:r x y z u)(o:s x y z u)(n:t x y z u)(j:k x y z u)(i:l x y z u)(e:m x y z u):∃x y z u,p x y z u/\q x y z u/\r x y z u/\s x y z u/\t x y z u/\k x y z u/\l x y z u/\m x y z u:=⟨x,y,z,u,h0,E,v,o,n,j,i,e⟩
def aI9{p q r s:a->b->c->d->e->Prop}(x)(y)(z)(u)(v)(h0:p x y z u v)(k:q x y z u v)(j:r x y z u v)(i:s x y z u v):∃x y z u v,p x y z u v/\q x y z u v/\r x y z u v/\s x y z u v:=⟨x,y,z,u,v,h0,k,j,i⟩
end
def aDe{α:Type _}{x:α}{C:Prop}(h:Wu x=Wv):C:=nomatch h
def dJ{α:Type _}{x:α}{C:Prop}(h:Wv=Wu x):C:=nomatch h
def aDf{α:Type _}{x:α}{l:List α}{C:Prop}(h:x::l=[]):C:=nomatch h
def GO{α:Type _}{x:α}{l:List α}{C:Prop}(h:[]=x::l):C:=nomatch h
def gw{α:Type _}{x:α}{C:Prop}(h:x∈[]):C:=nomatch h
def dh{α:Type}{P:α->Prop}(x:α)(h:x∈[]):P x:=(MU h).elim
noncomputable def wQ{α:Type _}(p:α->Bool)(l:List α):Bool:=@List.rec α (λO=>Bool) Wx (λa O d=>@Bool.rec (λO=>Bool) d Ww (p a)) l
def aIh{α:Type _}(p:α->Bool)(l:List α):wQ p l=l.any p:=by
 induction l with
 |nil=>rfl
 |cons a l d =>
  show @Bool.rec (λO=>Bool) (wQ p l) Ww (p a)=_
  rw[List.any_cons,<-d]
  cases p a <;> rfl
noncomputable def BK{α:Type _}(as:Array α)(p:α->Bool)(start stop:Nat):Bool:=@Bool.rec (λO=>Bool) (Array.any as p start stop) (wQ p as.toList) (Nat.beq start 0&&Nat.beq stop as.size)
def aIg:@Array.any=@BK:=by
 funext α as p start stop
 unfold BK
 cases h:(Nat.beq start 0&&Nat.beq stop as.size) with
 |false=>rfl
 |true =>
  obtain⟨d,a⟩:=Bool.and_eq_true_iff.mp h
  have i:=Nat.eq_of_beq_eq_true d
  have e:=Nat.eq_of_beq_eq_true a
  subst i;subst e
  show _=wQ p as.toList
  rw[aIh,Array.any_toList]
set_option genSizeOf false in set_option genInjectivity false in
inductive XY {α:Type _} (a:α):α->Type
 |refl:XY a a
def XY.eq{α:Type _}{a b:α}(h:XY a b):a=b:=by cases h;rfl
noncomputable def AB:Σ' F:_->Builtin,XY PySem.W.Fast.tw4202317264376624991 (F @Array.any.{0}):=by
 refine⟨?F,?h⟩
 case h =>
  delta PySem.W.Fast.tw4202317264376624991
  generalize @Array.any.{0}=z
  exact .refl
noncomputable def GR:Builtin:=AB.1 @BK.{0}
def aDh:Builtin.«type.__new__» = GR:=PySem.W.Fast.te4202317264376624991.trans (AB.2.eq.trans (congrArg AB.1 aIg))
noncomputable def fh(id:String):Option Builtin:=@Bool.rec (λO=>Option Builtin) (PySem.W.Fast.tw14364793385576792824 id) (Wu GR) (Nat.beq (PySem.code id) (PySem.code "type.__new__"))
def aAX:treeTable "type.__new__" = Wu Builtin.«type.__new__» := by kernel_rfl
def aAY:treeTable=fh:=by
 funext id
 unfold fh
 cases h:Nat.beq (PySem.code id) (PySem.code "type.__new__") with
 |false=>exact congrFun PySem.W.Fast.te14364793385576792824 id
 |true =>
  have e:=PySem.code_inj _ _ (Nat.eq_of_beq_eq_true h)
  subst e
  exact aAX.trans (congrArg Wu aDh)
noncomputable abbrev NS(l:List Nat):Str:=⟨⟨l⟩⟩
local macro_rules (kind:=Lean.Parser.Command.declaration)|s=>if s[0][4].isNone&&(s[1].isOfKind `Lean.Parser.Command.definition||s[1].isOfKind `Lean.Parser.Command.abbrev) then pure (s.setArg 0 (s[0].setArg 4 (.node .none `null #[.node .none `Lean.Parser.Command.noncomputable #[.atom .none "noncomputable"]]))) else if (s[1].isOfKind `Lean.Parser.Command.structure||s[1].isOfKind `Lean.Parser.Command.inductive)&&s.getPos?.isSome then pure (s.rewriteBottomUp (·.setInfo .none)) else Lean.Macro.throwUnsupported
noncomputable section
set_option backward.match.sparseCases false in
def aI:Stmt->List Stmt
 |.FunctionDef _ _ b _ _ _ _ _ _ _=>b
 |.ClassDef _ _ _ b _ _ _ _ _ _ _=>b
 |_=>[]
def rd:List Stmt->Nat->Stmt
 | [],_ => .Pass ⟨0,0,0,0⟩
 |s::_,0=>s
 |_::r,n+1=>rd r n
set_option backward.match.sparseCases false in
def ch(s:Stmt):Str:=match docOf (aI s) with
 |some d=>d
 |none=>⟨⟨[]⟩⟩
abbrev aKB:List Str:=[]
abbrev q0:Str:=NS [95,119,97,108,108]
abbrev q1:Str:=NS [107]
abbrev q2:Str:=NS [95,95,110,97,109,101,95,95]
abbrev q3:Str:=NS [99,112,121,51,49,51,46,100,105,102,102,108,105,98]
abbrev q4:Str:=NS [95,116,117,112,108,101,103,101,116,116,101,114]
abbrev q5:Str:=NS [95,95,105,110,105,116,95,95]
abbrev q6:Str:=NS [115,101,108,102]
abbrev q7:Str:=NS [105,110,100,101,120]
abbrev q8:Str:=NS [100,111,99]
abbrev q9:Str:=NS [95,95,100,111,99,95,95]
abbrev kq:Str:=NS [95,95,103,101,116,95,95]
abbrev pt:Str:=NS [111,98,106]
abbrev ze:Str:=NS [111,98,106,116,121,112,101]
abbrev Gi:Str:=NS [105,115,115,117,98,99,108,97,115,115]
abbrev Gd:Str:=NS [116,121,112,101]
abbrev Gb:Str:=NS [116,117,112,108,101]
abbrev FW:Str:=NS [95,95,103,101,116,105,116,101,109,95,95]
abbrev kg:Str:=NS [95,95,115,101,116,95,95]
abbrev yY:Str:=NS [118,97,108,117,101]
abbrev Fw:Str:=NS [65,116,116,114,105,98,117,116,101,69,114,114,111,114]
abbrev kf:Str:=NS [95,95,100,101,108,101,116,101,95,95]
abbrev fw:Str:=NS [77,97,116,99,104]
abbrev ET:Str:=NS [77,97,116,99,104,40,97,44,32,98,44,32,115,105,122,101,41]
abbrev tz:Str:=NS [95,95,115,108,111,116,115,95,95]
abbrev ty:Str:=NS [95,102,105,101,108,100,115]
abbrev dT:Str:=NS [97]
abbrev dG:Str:=NS [98]
abbrev iL:Str:=NS [115,105,122,101]
abbrev tw:Str:=NS [95,102,105,101,108,100,95,100,101,102,97,117,108,116,115]
abbrev ke:Str:=NS [95,95,110,101,119,95,95]
abbrev yQ:Str:=NS [95,99,108,115]
abbrev iK:Str:=NS [95,109,97,107,101]
abbrev yP:Str:=NS [99,108,115]
abbrev yO:Str:=NS [105,116,101,114,97,98,108,101]
abbrev tv:Str:=NS [114,101,115,117,108,116]
abbrev EL:Str:=NS [108,101,110]
abbrev EK:Str:=NS [84,121,112,101,69,114,114,111,114]
abbrev EJ:Str:=NS [99,108,97,115,115,109,101,116,104,111,100]
abbrev kc:Str:=NS [95,114,101,112,108,97,99,101]
abbrev yN:Str:=NS [107,119,100,115]
abbrev tu:Str:=NS [95,95,99,108,97,115,115,95,95]
abbrev EI:Str:=NS [95,95,108,101,110,95,95]
abbrev EH:Str:=NS [112,111,112]
abbrev EG:Str:=NS [109,97,112]
abbrev EF:Str:=NS [108,105,115,116]
abbrev tr:Str:=NS [95,95,114,101,112,108,97,99,101,95,95]
abbrev jZ:Str:=NS [95,95,114,101,112,114,95,95]
abbrev jY:Str:=NS [95,97,115,100,105,99,116]
abbrev jX:Str:=NS [95,95,103,101,116,110,101,119,97,114,103,115,95,95]
abbrev tp:Str:=NS [95,95,109,97,116,99,104,95,97,114,103,115,95,95]
abbrev gO:Str:=NS [95,99,97,108,99,117,108,97,116,101,95,114,97,116,105,111]
abbrev tn:Str:=NS [109,97,116,99,104,101,115]
abbrev pd:Str:=NS [108,101,110,103,116,104]
abbrev fQ:Str:=NS [83,101,113,117,101,110,99,101,77,97,116,99,104,101,114]
abbrev oZ:Str:=NS [105,115,106,117,110,107]
abbrev tm:Str:=NS [97,117,116,111,106,117,110,107]
abbrev fu:Str:=NS []
abbrev jW:Str:=NS [115,101,116,95,115,101,113,115]
abbrev jV:Str:=NS [115,101,116,95,115,101,113,49]
abbrev jU:Str:=NS [115,101,116,95,115,101,113,50]
abbrev th:Str:=NS [109,97,116,99,104,105,110,103,95,98,108,111,99,107,115]
abbrev yM:Str:=NS [111,112,99,111,100,101,115]
abbrev yL:Str:=NS [102,117,108,108,98,99,111,117,110,116]
abbrev te:Str:=NS [95,83,101,113,117,101,110,99,101,77,97,116,99,104,101,114,95,95,99,104,97,105,110,95,98]
abbrev oY:Str:=NS [95,95,99,104,97,105,110,95,98]
abbrev oX:Str:=NS [98,50,106]
abbrev lX:Str:=NS [105]
abbrev yK:Str:=NS [101,108,116]
abbrev EE:Str:=NS [101,110,117,109,101,114,97,116,101]
abbrev yJ:Str:=NS [105,110,100,105,99,101,115]
abbrev ED:Str:=NS [115,101,116,100,101,102,97,117,108,116]
abbrev EC:Str:=NS [97,112,112,101,110,100]
abbrev yI:Str:=NS [98,106,117,110,107]
abbrev yH:Str:=NS [106,117,110,107]
abbrev EB:Str:=NS [115,101,116]
abbrev EA:Str:=NS [107,101,121,115]
abbrev Ez:Str:=NS [97,100,100]
abbrev yG:Str:=NS [98,112,111,112,117,108,97,114]
abbrev yF:Str:=NS [112,111,112,117,108,97,114]
abbrev jT:Str:=NS [110]
abbrev yE:Str:=NS [110,116,101,115,116]
abbrev yD:Str:=NS [105,100,120,115]
abbrev Ey:Str:=NS [105,116,101,109,115]
abbrev jS:Str:=NS [102,105,110,100,95,108,111,110,103,101,115,116,95,109,97,116,99,104]
abbrev tc:Str:=NS [97,108,111]
abbrev sZ:Str:=NS [97,104,105]
abbrev sY:Str:=NS [98,108,111]
abbrev sX:Str:=NS [98,104,105]
abbrev yC:Str:=NS [105,115,98,106,117,110,107]
abbrev Ex:Str:=NS [95,95,99,111,110,116,97,105,110,115,95,95]
abbrev yB:Str:=NS [98,101,115,116,105]
abbrev yA:Str:=NS [98,101,115,116,106]
abbrev yz:Str:=NS [98,101,115,116,115,105,122,101]
abbrev yy:Str:=NS [106,50,108,101,110]
abbrev yx:Str:=NS [110,111,116,104,105,110,103]
abbrev Ew:Str:=NS [114,97,110,103,101]
abbrev yw:Str:=NS [106,50,108,101,110,103,101,116]
abbrev Ev:Str:=NS [103,101,116]
abbrev yv:Str:=NS [110,101,119,106,50,108,101,110]
abbrev oW:Str:=NS [106]
abbrev ko:Str:=NS [103,101,116,95,109,97,116,99,104,105,110,103,95,98,108,111,99,107,115]
abbrev zq:Str:=NS [108,97]
abbrev zp:Str:=NS [108,98]
abbrev zo:Str:=NS [113,117,101,117,101]
abbrev zm:Str:=NS [120]
abbrev Gq:Str:=NS [115,111,114,116]
abbrev mf:Str:=NS [105,49]
abbrev me:Str:=NS [106,49]
abbrev zl:Str:=NS [107,49]
abbrev zj:Str:=NS [110,111,110,95,97,100,106,97,99,101,110,116]
abbrev mc:Str:=NS [105,50]
abbrev lZ:Str:=NS [106,50]
abbrev zi:Str:=NS [107,50]
abbrev km:Str:=NS [103,101,116,95,111,112,99,111,100,101,115]
abbrev zh:Str:=NS [97,110,115,119,101,114]
abbrev zg:Str:=NS [97,105]
abbrev zf:Str:=NS [98,106]
abbrev lY:Str:=NS [116,97,103]
abbrev Gp:Str:=NS [114,101,112,108,97,99,101]
abbrev Go:Str:=NS [100,101,108,101,116,101]
abbrev Gn:Str:=NS [105,110,115,101,114,116]
abbrev Gm:Str:=NS [101,113,117,97,108]
abbrev kl:Str:=NS [103,101,116,95,103,114,111,117,112,101,100,95,111,112,99,111,100,101,115]
abbrev zd:Str:=NS [99,111,100,101,115]
abbrev Gl:Str:=NS [109,97,120]
abbrev Gk:Str:=NS [109,105,110]
abbrev zc:Str:=NS [110,110]
abbrev pr:Str:=NS [103,114,111,117,112]
abbrev kj:Str:=NS [114,97,116,105,111]
abbrev Gj:Str:=NS [115,117,109]
abbrev Gh:Str:=NS [116,114,105,112,108,101]
abbrev Gg:Str:=NS [46,48]
abbrev ki:Str:=NS [113,117,105,99,107,95,114,97,116,105,111]
abbrev kh:Str:=NS [114,101,97,108,95,113,117,105,99,107,95,114,97,116,105,111]
abbrev iX:Str:=NS [95,102,111,114,109,97,116,95,114,97,110,103,101,95,117,110,105,102,105,101,100]
abbrev tK:Str:=NS [115,116,97,114,116]
abbrev tJ:Str:=NS [115,116,111,112]
abbrev tI:Str:=NS [98,101,103,105,110,110,105,110,103]
abbrev Gf:Str:=NS [123,125]
abbrev Ge:Str:=NS [102,111,114,109,97,116]
abbrev Gc:Str:=NS [123,125,44,123,125]
abbrev iW:Str:=NS [117,110,105,102,105,101,100,95,100,105,102,102]
abbrev pn:Str:=NS [102,114,111,109,102,105,108,101]
abbrev pj:Str:=NS [116,111,102,105,108,101]
abbrev pi:Str:=NS [102,114,111,109,102,105,108,101,100,97,116,101]
abbrev ph:Str:=NS [116,111,102,105,108,101,100,97,116,101]
abbrev pf:Str:=NS [108,105,110,101,116,101,114,109]
abbrev tH:Str:=NS [10]
abbrev iV:Str:=NS [95,99,104,101,99,107,95,116,121,112,101,115]
abbrev tG:Str:=NS [115,116,97,114,116,101,100]
abbrev tF:Str:=NS [102,114,111,109,100,97,116,101]
abbrev Ga:Str:=NS [9,123,125]
abbrev tE:Str:=NS [116,111,100,97,116,101]
abbrev FZ:Str:=NS [45,45,45,32,123,125,123,125,123,125]
abbrev FY:Str:=NS [43,43,43,32,123,125,123,125,123,125]
abbrev tD:Str:=NS [102,105,114,115,116]
abbrev tC:Str:=NS [108,97,115,116]
abbrev tB:Str:=NS [102,105,108,101,49,95,114,97,110,103,101]
abbrev tA:Str:=NS [102,105,108,101,50,95,114,97,110,103,101]
abbrev FX:Str:=NS [64,64,32,45,123,125,32,43,123,125,32,64,64,123,125]
abbrev pe:Str:=NS [108,105,110,101]
abbrev FV:Str:=NS [32]
abbrev FU:Str:=NS [45]
abbrev FS:Str:=NS [43]
abbrev iU:Str:=NS [95,102,111,114,109,97,116,95,114,97,110,103,101,95,99,111,110,116,101,120,116]
abbrev iT:Str:=NS [99,111,110,116,101,120,116,95,100,105,102,102]
abbrev zb:Str:=NS [112,114,101,102,105,120]
abbrev FR:Str:=NS [100,105,99,116]
abbrev FQ:Str:=NS [43,32]
abbrev FO:Str:=NS [45,32]
abbrev FN:Str:=NS [33,32]
abbrev FM:Str:=NS [32,32]
abbrev FL:Str:=NS [42,42,42,32,123,125,123,125,123,125]
abbrev FK:Str:=NS [42,42,42,42,42,42,42,42,42,42,42,42,42,42,42]
abbrev FJ:Str:=NS [42,42,42,32,123,125,32,42,42,42,42,123,125]
abbrev FI:Str:=NS [97,110,121]
abbrev za:Str:=NS [95]
abbrev FH:Str:=NS [45,45,45,32,123,125,32,45,45,45,45,123,125]
abbrev yZ:Str:=NS [97,114,103,115]
abbrev FG:Str:=NS [105,115,105,110,115,116,97,110,99,101]
abbrev FF:Str:=NS [115,116,114]
abbrev FE:Str:=NS [32,40]
abbrev FD:Str:=NS [41]
abbrev yX:Str:=NS [97,114,103]
abbrev iS:Str:=NS [100,105,102,102,95,98,121,116,101,115]
abbrev yW:Str:=NS [100,102,117,110,99]
abbrev yV:Str:=NS [100,101,99,111,100,101]
abbrev Fz:Str:=NS [115]
abbrev Fy:Str:=NS [97,115,99,105,105]
abbrev Fx:Str:=NS [115,117,114,114,111,103,97,116,101,101,115,99,97,112,101]
abbrev Fv:Str:=NS [101,114,114]
abbrev Ft:Str:=NS [109,115,103]
abbrev yU:Str:=NS [108,105,110,101,115]
abbrev Fs:Str:=NS [101,110,99,111,100,101]
abbrev gP:Str:=NS [108,97,119,95,100,109,48,48,52,57,95,48,53]
abbrev iR:Str:=NS [95,108,97,119,95,112,117,108,108]
abbrev yT:Str:=NS [114,101,112,111,114,116]
abbrev Fq:Str:=NS [110,101,120,116]
abbrev iQ:Str:=NS [95,108,97,119,95,114,111,119,115]
abbrev Fp:Str:=NS [99,111,109,109,111,110]
abbrev Fo:Str:=NS [103,111,110,101]
abbrev Fm:Str:=NS [99,111,109,101]
abbrev Fl:Str:=NS [104,97,108,118,101,115]
abbrev Fk:Str:=NS [115,105,122,101,115]
abbrev Fj:Str:=NS [115,112,97,110,115]
abbrev Fh:Str:=NS [44]
abbrev Fg:Str:=NS [107,101,112,116]
abbrev Ff:Str:=NS [114,111,119,115]
abbrev Fe:Str:=NS [45,45,45,32]
abbrev Fd:Str:=NS [43,43,43,32]
abbrev Fc:Str:=NS [64,64,32,45]
abbrev Fb:Str:=NS [32,43]
abbrev Fa:Str:=NS [32,64,64]
abbrev EZ:Str:=NS [101,120,116,101,110,100]
abbrev EY:Str:=NS [42,42,42,32]
abbrev EX:Str:=NS [32,42,42,42,42]
abbrev EW:Str:=NS [32,45,45,45,45]
abbrev EV:Str:=NS [102,97,115,116]
abbrev iP:Str:=NS [95,108,97,119,95,100,117,101]
abbrev EU:Str:=NS [107,105,110,100]
abbrev ES:Str:=NS [115,116,114,97,110,103,101]
abbrev yS:Str:=NS [100,117,101]
abbrev ER:Str:=NS [109,97,114,107]
abbrev iO:Str:=NS [95,108,97,119,95,111,99,116,101,116,115]
abbrev iN:Str:=NS [95,108,97,119,95,115,116,101,112]
abbrev yR:Str:=NS [111,110,101]
abbrev iM:Str:=NS [108,97,119]
abbrev EQ:Str:=NS [115,99,114,105,112,116]
abbrev EP:Str:=NS [115,104,101,108,102]
abbrev EO:Str:=NS [121]
abbrev EN:Str:=NS [115,101,99,111,110,100]
abbrev EM:Str:=NS [108,101,102,116]
abbrev ar:Str:=NS [47,99,108,97,105,109,47,99,117,116,46,112,121]
def FP(x0 x1 x2 x3 x4 x5 x6 x7 x8 x9 x10 x11 x12 x13 x14 x15 x16 x17 x18 x19 x20 x21 x22 x23 x24 x25 x26 x27 x28 x29 x30 x31 x32 x33 x34 x35 x36 x37 x38 x39 x40 x41 x42 x43 x44 x45 x46 x47 x48 x49 x50 x51 x52 x53 x54 x55 x56 x57 x58 x59 x60 x61 x62 x63 x64 x65 x66 x67 x68 x69 x70 x71 x72 x73 x74 x75 x76 x77 x78 x79 x80 x81 x82 x83 x84 x85 x86 x87 x88 x89 x90 x91 x92 x93 x94 x95 x96 x97 x98 x99 x100 x101 x102 x103 x104 x105 x106 x107 x108 x109 x110 x111 x112 x113 x114 x115 x116 x117 x118 x119 x120 x121 x122 x123 x124 x125 x126 x127 x128 x129 x130 x131 x132 x133 x134 x135 x136 x137 x138 x139 x140 x141 x142 x143 x144 x145 x146 x147 x148 x149 x150 x151 x152 x153 x154 x155 x156 x157 x158 x159 x160 x161 x162 x163 x164 x165 x166 x167 x168 x169 x170 x171 x172 x173 x174 x175 x176 x177 x178 x179 x180 x181 x182 x183 x184 x185 x186 x187 x188 x189 x190 x191 x192 x193 x194 x195 x196 x197 x198 x199 x200 x201 x202 x203 x204 x205 x206 x207 x208 x209 x210 x211 x212 x213 x214 x215 x216 x217 x218 x219 x220 x221 x222 x223 x224 x225 x226 x227 x228 x229 x230 x231 x232 d:Str):Ll:=by
 refine' (?f:(p:Ll)->((∀a b s u p r e1 e2 e3 e4 e5 e6 e7 v,Stmt.ClassDef (KX "SequenceMatcher") a b (.Expr (.Constant (.str s) u v) p::r) e1 e2 e3 e4 e5 e6 e7=.ClassDef x53 a b (.Expr (.Constant (.str d) u v) p::r) e1 e2 e3 e4 e5 e6 e7)->("_wall":Str)=x0->("k":Str)=x1->("__name__":Str)=x2->("cpy313.difflib":Str)=x3->("_tuplegetter":Str)=x4->("__init__":Str)=x5->("self":Str)=x6->("index":Str)=x7->("doc":Str)=x8->("__doc__":Str)=x9->("__get__":Str)=x10->("obj":Str)=x11->("objtype":Str)=x12->("issubclass":Str)=x13->("type":Str)=x14->("tuple":Str)=x15->("__getitem__":Str)=x16->("__set__":Str)=x17->("value":Str)=x18->("AttributeError":Str)=x19->("__delete__":Str)=x20->("Match":Str)=x21->("Match(a, b, size)":Str)=x22->("__slots__":Str)=x23->("_fields":Str)=x24->("a":Str)=x25->("b":Str)=x26->("size":Str)=x27->("_field_defaults":Str)=x28->("__new__":Str)=x29->("_cls":Str)=x30->("_make":Str)=x31->("cls":Str)=x32->("iterable":Str)=x33->("result":Str)=x34->("len":Str)=x35->("TypeError":Str)=x36->("classmethod":Str)=x37->("_replace":Str)=x38->("kwds":Str)=x39->("__class__":Str)=x40->("__len__":Str)=x41->("pop":Str)=x42->("map":Str)=x43->("list":Str)=x44->("__replace__":Str)=x45->("__repr__":Str)=x46->("_asdict":Str)=x47->("__getnewargs__":Str)=x48->("__match_args__":Str)=x49->("_calculate_ratio":Str)=x50->("matches":Str)=x51->("length":Str)=x52->("SequenceMatcher":Str)=x53->("isjunk":Str)=x54->("autojunk":Str)=x55->("":Str)=x56->("set_seqs":Str)=x57->("set_seq1":Str)=x58->("set_seq2":Str)=x59->("matching_blocks":Str)=x60->("opcodes":Str)=x61->("fullbcount":Str)=x62->("_SequenceMatcher__chain_b":Str)=x63->("__chain_b":Str)=x64->("b2j":Str)=x65->("i":Str)=x66->("elt":Str)=x67->("enumerate":Str)=x68->("indices":Str)=x69->("setdefault":Str)=x70->("append":Str)=x71->("bjunk":Str)=x72->("junk":Str)=x73->("set":Str)=x74->("keys":Str)=x75->("add":Str)=x76->("bpopular":Str)=x77->("popular":Str)=x78->("n":Str)=x79->("ntest":Str)=x80->("idxs":Str)=x81->("items":Str)=x82->("find_longest_match":Str)=x83->("alo":Str)=x84->("ahi":Str)=x85->("blo":Str)=x86->("bhi":Str)=x87->("isbjunk":Str)=x88->("__contains__":Str)=x89->("besti":Str)=x90->("bestj":Str)=x91->("bestsize":Str)=x92->("j2len":Str)=x93->("nothing":Str)=x94->("range":Str)=x95->("j2lenget":Str)=x96->("get":Str)=x97->("newj2len":Str)=x98->("j":Str)=x99->("get_matching_blocks":Str)=x100->("la":Str)=x101->("lb":Str)=x102->("queue":Str)=x103->("x":Str)=x104->("sort":Str)=x105->("i1":Str)=x106->("j1":Str)=x107->("k1":Str)=x108->("non_adjacent":Str)=x109->("i2":Str)=x110->("j2":Str)=x111->("k2":Str)=x112->("get_opcodes":Str)=x113->("answer":Str)=x114->("ai":Str)=x115->("bj":Str)=x116->("tag":Str)=x117->("replace":Str)=x118->("delete":Str)=x119->("insert":Str)=x120->("equal":Str)=x121->("get_grouped_opcodes":Str)=x122->("codes":Str)=x123->("max":Str)=x124->("min":Str)=x125->("nn":Str)=x126->("group":Str)=x127->("ratio":Str)=x128->("sum":Str)=x129->("triple":Str)=x130->(".0":Str)=x131->("quick_ratio":Str)=x132->("real_quick_ratio":Str)=x133->("_format_range_unified":Str)=x134->("start":Str)=x135->("stop":Str)=x136->("beginning":Str)=x137->("{}":Str)=x138->("format":Str)=x139->("{},{}":Str)=x140->("unified_diff":Str)=x141->("fromfile":Str)=x142->("tofile":Str)=x143->("fromfiledate":Str)=x144->("tofiledate":Str)=x145->("lineterm":Str)=x146->("\n":Str)=x147->("_check_types":Str)=x148->("started":Str)=x149->("fromdate":Str)=x150->("\t{}":Str)=x151->("todate":Str)=x152->("--- {}{}{}":Str)=x153->("+++ {}{}{}":Str)=x154->("first":Str)=x155->("last":Str)=x156->("file1_range":Str)=x157->("file2_range":Str)=x158->("@@ -{} +{} @@{}":Str)=x159->("line":Str)=x160->(" ":Str)=x161->("-":Str)=x162->("+":Str)=x163->("_format_range_context":Str)=x164->("context_diff":Str)=x165->("prefix":Str)=x166->("dict":Str)=x167->("+ ":Str)=x168->("- ":Str)=x169->("! ":Str)=x170->("  ":Str)=x171->("*** {}{}{}":Str)=x172->("***************":Str)=x173->("*** {} ****{}":Str)=x174->("any":Str)=x175->("_":Str)=x176->("--- {} ----{}":Str)=x177->("args":Str)=x178->("isinstance":Str)=x179->("str":Str)=x180->(" (":Str)=x181->(")":Str)=x182->("arg":Str)=x183->("diff_bytes":Str)=x184->("dfunc":Str)=x185->("decode":Str)=x186->("s":Str)=x187->("ascii":Str)=x188->("surrogateescape":Str)=x189->("err":Str)=x190->("msg":Str)=x191->("lines":Str)=x192->("encode":Str)=x193->("law_dm0049_05":Str)=x194->("_law_pull":Str)=x195->("report":Str)=x196->("next":Str)=x197->("_law_rows":Str)=x198->("common":Str)=x199->("gone":Str)=x200->("come":Str)=x201->("halves":Str)=x202->("sizes":Str)=x203->("spans":Str)=x204->(",":Str)=x205->("kept":Str)=x206->("rows":Str)=x207->("--- ":Str)=x208->("+++ ":Str)=x209->("@@ -":Str)=x210->(" +":Str)=x211->(" @@":Str)=x212->("extend":Str)=x213->("*** ":Str)=x214->(" ****":Str)=x215->(" ----":Str)=x216->("fast":Str)=x217->("_law_due":Str)=x218->("kind":Str)=x219->("strange":Str)=x220->("due":Str)=x221->("mark":Str)=x222->("_law_octets":Str)=x223->("_law_step":Str)=x224->("one":Str)=x225->("law":Str)=x226->("script":Str)=x227->("shelf":Str)=x228->("y":Str)=x229->("second":Str)=x230->("left":Str)=x231->("/claim/cut.py":Str)=x232->PySem.Challenge.pw_dm0049_05=p)->Ll) _ ?h
 case h =>
  intro hD
  delta PySem.Challenge.pw_dm0049_05
  rw[hD]
  clear hD
  intros
  refine' Eq.trans (b:=_) ?_ rfl
  simp only[*];rfl
 case f=>exact λp O=>p
def sl(l:List Char):KX (String.ofList l)=KX (String.ofList l):=rfl
def IG:List Char:=by
 refine' (?f:(l:List Char)->(ch (rd PySem.Challenge.pw_dm0049_05.main.body 5)=KX (String.ofList l))->List Char) _ ?h
 case h =>
  show KX _=_
  exact sl _
 case f=>exact λd O=>d
def aGT:Str:=⟨(IG.map Char.toNat).toArray⟩
def TP:Ll:=FP q0 q1 q2 q3 q4 q5 q6 q7 q8 q9 kq pt ze Gi Gd Gb FW kg yY Fw kf fw ET tz ty dT dG iL tw ke yQ iK yP yO tv EL EK EJ kc yN tu EI EH EG EF tr jZ jY jX tp gO tn pd fQ oZ tm fu jW jV jU th yM yL te oY oX lX yK EE yJ ED EC yI yH EB EA Ez yG yF jT yE yD Ey jS tc sZ sY sX yC Ex yB yA yz yy yx Ew yw Ev yv oW ko zq zp zo zm Gq mf me zl zj mc lZ zi km zh zg zf lY Gp Go Gn Gm kl zd Gl Gk zc pr kj Gj Gh Gg ki kh iX tK tJ tI Gf Ge Gc iW pn pj pi ph pf tH iV tG tF Ga tE FZ FY tD tC tB tA FX pe FV FU FS iU iT zb FR FQ FO FN FM FL FK FJ FI za FH yZ FG FF FE FD yX iS yW yV Fz Fy Fx Fv Ft yU Fs gP iR yT Fq iQ Fp Fo Fm Fl Fk Fj Fh Fg Ff Fe Fd Fc Fb Fa EZ EY EX EW EV iP EU ES yS ER iO iN yR iM EQ EP EO EN EM ar aGT
def Ki:Nat->Type:=@Nat.rec (λO=>Type) (Str->Ll) λO T=>Str->T
def Je:(n:Nat)->Ki n->List Str->Str->Ll:=@Nat.rec (λn=>Ki n->List Str->Str->Ll) (λF O=>F) λO r F l=>l.rec (λO=>TP) λx l O=>r (F x) l
def qs:List Str:=[q0,q1,q2,q3,q4,q5,q6,q7,q8,q9,kq,pt,ze,Gi,Gd,Gb,FW,kg,yY,Fw,kf,fw,ET,tz,ty,dT,dG,iL,tw,ke,yQ,iK,yP,yO,tv,EL,EK,EJ,kc,yN,tu,EI,EH,EG,EF,tr,jZ,jY,jX,tp,gO,tn,pd,fQ,oZ,tm,fu,jW,jV,jU,th,yM,yL,te,oY,oX,lX,yK,EE,yJ,ED,EC,yI,yH,EB,EA,Ez,yG,yF,jT,yE,yD,Ey,jS,tc,sZ,sY,sX,yC,Ex,yB,yA,yz,yy,yx,Ew,yw,Ev,yv,oW,ko,zq,zp,zo,zm,Gq,mf,me,zl,zj,mc,lZ,zi,km,zh,zg,zf,lY,Gp,Go,Gn,Gm,kl,zd,Gl,Gk,zc,pr,kj,Gj,Gh,Gg,ki,kh,iX,tK,tJ,tI,Gf,Ge,Gc,iW,pn,pj,pi,ph,pf,tH,iV,tG,tF,Ga,tE,FZ,FY,tD,tC,tB,tA,FX,pe,FV,FU,FS,iU,iT,zb,FR,FQ,FO,FN,FM,FL,FK,FJ,FI,za,FH,yZ,FG,FF,FE,FD,yX,iS,yW,yV,Fz,Fy,Fx,Fv,Ft,yU,Fs,gP,iR,yT,Fq,iQ,Fp,Fo,Fm,Fl,Fk,Fj,Fh,Fg,Ff,Fe,Fd,Fc,Fb,Fa,EZ,EY,EX,EW,EV,iP,EU,ES,yS,ER,iO,iN,yR,iM,EQ,EP,EO,EN,EM,ar]
def tN(q:Str):Str:=KX (String.ofList (q.cps.toList.map Char.ofNat))
def aC2{n:Nat}(h:Nat.blt n 55296=true):(Char.ofNat n).toNat=n:=by
 have v:n.isValidChar:=.inl (Mx h)
 unfold Char.ofNat
 rw[dif_pos v]
 rfl
def aC3(l:List Nat):l.all (Nat.blt · 55296)=true->(l.map Char.ofNat).map Char.toNat=l:=l.rec (λO=>rfl) λn l t h=>show (Char.ofNat n).toNat::_=n::l from congr (congrArg Nw (aC2 ((Mv _ _).mp h).1)) (t ((Mv _ _).mp h).2)
def aCu(L:List Str):L.all (λq=>q.cps.toList.all (Nat.blt · 55296))=true->L.map tN=L:=L.rec (λO=>rfl) λq L t h=>show tN q::L.map tN=q::L from congr (congrArg Nw ((PySem.W.Fast.ofString_ofList _).trans (congrArg (λl=>Str.mk (List.toArray l)) (aC3 _ ((Mv _ _).mp h).1)))) (t ((Mv _ _).mp h).2)
def sJ:PySem.Challenge.pw_dm0049_05=TP:=(show _=Je 233 FP (qs.map tN) (ch (rd PySem.Challenge.pw_dm0049_05.main.body 5)) from by kernel_rfl).trans (congr (congrArg (Je 233 FP) (aCu qs (by kernel_rfl))) ((show _=KX (String.ofList IG) from by kernel_rfl).trans (PySem.W.Fast.ofString_ofList _)))
abbrev nd:=BT.node
abbrev nl:=BT.nil
abbrev ck(o:Obj):BT:=.node o nl nl
def kv(P:KS)(k:Str)(t:Nat)(v:Value):DictEntry:=⟨PyData.keyHash P k,.str k t,v⟩
set_option backward.match.sparseCases false in
def rL:Stmt->Arguments
 |.FunctionDef _ a _ _ _ _ _ _ _ _=>a
 |_=>⟨[],[],none,[],[],none,[]⟩
set_option backward.match.sparseCases false in
def gN:Stmt->Scope
 |.FunctionDef _ _ _ _ _ _ s _ _ _=>s
 |_=>default
def aq(i:Nat):Stmt:=rd TP.main.body i
def au(i j:Nat):Stmt:=rd (aI (aq i)) j
def aG(V:Stmt)(name qual:Str)(g:LP)(cl:List (Str×LP))(d k doc m:Value)(an:Option LP)(cd ct:Value)(b:LP):Oi:=⟨name,qual,rL V,.stmts (aI V),gN V,g,cl,d,k,doc,m,an,cd,ct,b⟩
def eU:Life:={}
abbrev I(n:Int):Value:=.int n 0
abbrev Tu(l:List Value):Obj:=⟨.type "tuple",none,.seq ⟨l⟩ 0,⟨[]⟩⟩
abbrev Co(l:List Value):Obj:=⟨.type "code",none,.fields ⟨l⟩,⟨[]⟩⟩
abbrev cd(a:Str)(n1:Nat)(b:Str)(n2:Nat)(c:Str)(n3 i1 i2 i3 i4 i5 r1:Nat)(t:Bool)(i6 r2:Nat)(x y z:Value)(i7 i8:Nat)(e:Str)(n4:Nat):Obj:=Co [.str a n1,.str b n2,.str c n3,I i1,I i2,I i3,I i4,I i5,.ref r1,.bool t,I i6,.ref r2,.none,x,y,z,I i7,I i8,.str e n4]
abbrev Fu(d:Oi):Obj:=⟨.type "function",none,.func d,⟨[]⟩⟩
abbrev Fn(d:Oi):Obj:=⟨.none,none,.func d,⟨[]⟩⟩
abbrev Fi(l:List Value):Obj:=⟨.none,none,.fields ⟨l⟩,⟨[]⟩⟩
abbrev ew(s:Stmt)(z:Str):Oi:=aG s z z 0 [] .none .none .none .none none .none .none 0
abbrev ta6(l:List DictEntry)(n:Nat):Obj:=⟨.type "dict",none,.dict ⟨l⟩ n,⟨[]⟩⟩
abbrev tb6(a c:Nat)(s:Str)(n:Nat):Obj:=⟨.type "frame",none,.plain,⟨[some (.ref a),some (.ref 3),some (.ref c),none,some (.str s n),none,some (.ref 0)]⟩⟩
abbrev tc6(s:String)(v:Value):Obj:=⟨.type "builtin_function_or_method",none,.fields ⟨[.builtin s,v]⟩,⟨[]⟩⟩
abbrev td6(s:Stmt)(q x:Str)(d m:Value)(r:Nat):Obj:=Fu (aG s q x 3 [] d .none m (.str q3 194) none (.ref r) .none 0)
abbrev te6(s:Stmt)(q x:Str):Obj:=Fn (aG s q x 0 [] .none .none .none .none none .none .none 0)
abbrev tf6(P:KS)(k:Str)(t r:Nat):DictEntry:=kv P k t (.ref r)
def z0:Str:=NS [60,109,111,100,117,108,101,62]
def z2:Str:=NS [95,95,109,97,105,110,95,95]
def z6:Str:=NS [95,95,112,97,99,107,97,103,101,95,95]
def z7:Str:=NS [95,95,108,111,97,100,101,114,95,95]
def z8:Str:=NS [95,95,115,112,101,99,95,95]
def z9:Str:=NS [95,95,97,110,110,111,116,97,116,105,111,110,115,95,95]
def sB:Str:=NS [95,95,98,117,105,108,116,105,110,115,95,95]
def sy:Str:=NS [95,95,102,105,108,101,95,95]
def sx:Str:=NS [95,95,99,97,99,104,101,100,95,95]
def jJ:Str:=NS [95,95,109,111,100,117,108,101,95,95]
def sw:Str:=NS [95,95,113,117,97,108,110,97,109,101,95,95]
def lN:Str:=NS [95,95,102,105,114,115,116,108,105,110,101,110,111,95,95]
def lM:Str:=NS [95,95,115,116,97,116,105,99,95,97,116,116,114,105,98,117,116,101,115,95,95]
def xL:Str:=NS [95,116,117,112,108,101,103,101,116,116,101,114,46,95,95,105,110,105,116,95,95]
def xK:Str:=NS [95,116,117,112,108,101,103,101,116,116,101,114,46,95,95,103,101,116,95,95]
def xJ:Str:=NS [95,116,117,112,108,101,103,101,116,116,101,114,46,95,95,115,101,116,95,95]
def xI:Str:=NS [95,116,117,112,108,101,103,101,116,116,101,114,46,95,95,100,101,108,101,116,101,95,95]
def su:Str:=NS [95,95,100,105,99,116,95,95]
def sr:Str:=NS [95,95,119,101,97,107,114,101,102,95,95]
def aAc:Str:=NS [95,95,99,108,97,115,115,99,101,108,108,95,95]
def xH:Str:=NS [77,97,116,99,104,46,95,95,110,101,119,95,95]
def sq:Str:=NS [77,97,116,99,104,46,95,109,97,107,101]
def xG:Str:=NS [77,97,116,99,104,46,95,114,101,112,108,97,99,101]
def xF:Str:=NS [77,97,116,99,104,46,95,95,114,101,112,114,95,95]
def xE:Str:=NS [77,97,116,99,104,46,95,97,115,100,105,99,116]
def xD:Str:=NS [77,97,116,99,104,46,95,95,103,101,116,110,101,119,97,114,103,115,95,95]
def CS:Str:=NS [65,108,105,97,115,32,102,111,114,32,102,105,101,108,100,32,110,117,109,98,101,114,32,48]
def CR:Str:=NS [65,108,105,97,115,32,102,111,114,32,102,105,101,108,100,32,110,117,109,98,101,114,32,49]
def CQ:Str:=NS [65,108,105,97,115,32,102,111,114,32,102,105,101,108,100,32,110,117,109,98,101,114,32,50]
def xC:Str:=NS [83,101,113,117,101,110,99,101,77,97,116,99,104,101,114,46,95,95,105,110,105,116,95,95]
def xB:Str:=NS [83,101,113,117,101,110,99,101,77,97,116,99,104,101,114,46,115,101,116,95,115,101,113,115]
def xA:Str:=NS [83,101,113,117,101,110,99,101,77,97,116,99,104,101,114,46,115,101,116,95,115,101,113,49]
def xz:Str:=NS [83,101,113,117,101,110,99,101,77,97,116,99,104,101,114,46,115,101,116,95,115,101,113,50]
def xy:Str:=NS [83,101,113,117,101,110,99,101,77,97,116,99,104,101,114,46,95,95,99,104,97,105,110,95,98]
def xS:Str:=NS [83,101,113,117,101,110,99,101,77,97,116,99,104,101,114,46,102,105,110,100,95,108,111,110,103,101,115,116,95,109,97,116,99,104]
def xR:Str:=NS [83,101,113,117,101,110,99,101,77,97,116,99,104,101,114,46,103,101,116,95,109,97,116,99,104,105,110,103,95,98,108,111,99,107,115]
def xQ:Str:=NS [83,101,113,117,101,110,99,101,77,97,116,99,104,101,114,46,103,101,116,95,111,112,99,111,100,101,115]
def xP:Str:=NS [83,101,113,117,101,110,99,101,77,97,116,99,104,101,114,46,103,101,116,95,103,114,111,117,112,101,100,95,111,112,99,111,100,101,115]
def xO:Str:=NS [83,101,113,117,101,110,99,101,77,97,116,99,104,101,114,46,114,97,116,105,111]
def xN:Str:=NS [83,101,113,117,101,110,99,101,77,97,116,99,104,101,114,46,113,117,105,99,107,95,114,97,116,105,111]
def xM:Str:=NS [83,101,113,117,101,110,99,101,77,97,116,99,104,101,114,46,114,101,97,108,95,113,117,105,99,107,95,114,97,116,105,111]
def kQ(P:KS):Obj:=Tu []
def aDa(P:KS):Obj:=Fi []
def kP(P:KS):Obj:=cd z0 182 z0 183 ar 184 1 0 0 0 0 11 false 181 12 .none .none .none 185 1 ar 186
def kN(P:KS):Obj:=tb6 13 3 z2 164
def o3(P:KS):Obj:=ta6 [kv P q2 165 (.str q3 194),kv P q9 166 .none,kv P z6 167 .none,kv P z7 168 (.builtin "__main__.__loader__#opaque"),kv P z8 169 .none,tf6 P z9 170 6,tf6 P sB 171 4,kv P sy 173 (.str ar 172),kv P sx 174 .none,tf6 P q0 193 21,tf6 P q4 252 60] 11
def aC9(P:KS):Obj:=Fi [(I 1),(I 0),(.ref 20),(I 5),(I 0),(.ref 27)]
def nO(P:KS):Obj:=Tu [(.str q1 190)]
def nM(P:KS):Obj:=Fn (ew (aq 0) q0)
def nK(P:KS):Obj:=cd q0 187 q0 188 ar 189 1 1 0 0 3 15 true 181 16 (.ref 17) (.ref 18) (.ref 19) 191 1 ar 192
def nJ(P:KS):Obj:=Fu (aG (aq 0) q0 q0 3 [] .none .none .none (.str z2 164) none (.ref 20) .none 0)
def nH(P:KS):Obj:=tc6 "type.__prepare__" (.type "type")
def nG(P:KS):Obj:=ta6 [kv P jJ 203 (.str q3 194),kv P sw 205 (.str q4 204),kv P lN 207 (.int 5 206),tf6 P q5 216 35,tf6 P kq 225 43,tf6 P kg 234 50,tf6 P kf 242 57,tf6 P lM 245 58] 8
def nD(P:KS):Obj:=Fi [(I 7),(I 4),(.ref 34),(I 11),(I 4),(.ref 42),(I 18),(I 4),(.ref 49),(I 21),(I 4),(.ref 56)]
def nz(P:KS):Obj:=cd q4 198 q4 199 ar 200 5 0 0 0 0 25 false 181 26 .none .none .none 201 5 ar 202
def nx(P:KS):Obj:=tb6 27 24 q3 194
def nh(P:KS):Obj:=Tu [(.str q6 211),(.str q7 212),(.str q8 213)]
def mY(P:KS):Obj:=te6 (au 2 0) q5 xL
def mX(P:KS):Obj:=cd q5 208 xL 209 ar 210 7 3 0 0 3 29 true 181 30 (.ref 31) (.ref 32) (.ref 33) 214 7 ar 215
def mW(P:KS):Obj:=td6 (au 2 0) q5 xL .none .none 34
def mV(P:KS):Obj:=Tu [.none]
def mR(P:KS):Obj:=Tu [(.str q6 220),(.str pt 221),(.str ze 222)]
def mP(P:KS):Obj:=te6 (au 2 1) kq xK
def mO(P:KS):Obj:=cd kq 217 xK 218 ar 219 11 3 0 0 3 37 true 181 38 (.ref 39) (.ref 40) (.ref 41) 223 11 ar 224
def mN(P:KS):Obj:=td6 (au 2 1) kq xK (.ref 36) .none 42
def mK(P:KS):Obj:=Tu [(.str q6 229),(.str pt 230),(.str yY 231)]
def mI(P:KS):Obj:=te6 (au 2 2) kg xJ
def mH(P:KS):Obj:=cd kg 226 xJ 227 ar 228 18 3 0 0 3 44 true 181 45 (.ref 46) (.ref 47) (.ref 48) 232 18 ar 233
def mG(P:KS):Obj:=td6 (au 2 2) kg xJ .none .none 49
def mD(P:KS):Obj:=Tu [(.str q6 238),(.str pt 239)]
def mB(P:KS):Obj:=te6 (au 2 3) kf xI
def mA(P:KS):Obj:=cd kf 235 xI 236 ar 237 21 2 0 0 3 51 true 181 52 (.ref 53) (.ref 54) (.ref 55) 240 21 ar 241
def mz(P:KS):Obj:=td6 (au 2 3) kf xI .none .none 56
def my(P:KS):Obj:=Tu [(.str q9 243),(.str q7 244)]
def mx(P:KS):Obj:=ta6 [kv P jJ 203 (.str q3 194),kv P lN 207 (.int 5 206),tf6 P q5 216 35,tf6 P kq 225 43,tf6 P kg 234 50,tf6 P kf 242 57,tf6 P lM 245 58,tf6 P su 247 61,tf6 P sr 249 62,kv P q9 250 .none] 4
def mw(P:KS):Obj:=⟨(.type "type"),none,.cls ⟨q4,[(.type "object")],[(.ref 60),(.type "object")],59,q4,true,[],[],false,none,false⟩,⟨[none,none,some (.str q4 196),some (.str q4 204),some (.builtin "object.__new__"),some (.bool true)]⟩⟩
def mr(P:KS):Obj:=⟨(.type "getset_descriptor"),none,.fields ⟨[(.str su 246),(.ref 60),(.builtin "function.__dict__"),(.builtin "function.__dict__#set")]⟩,⟨[]⟩⟩
def mq(P:KS):Obj:=⟨(.type "getset_descriptor"),none,.fields ⟨[(.str sr 248),(.ref 60),(.builtin "ExceptionGroup.__weakref__"),.none]⟩,⟨[]⟩⟩
def mo(P:KS):Obj:=⟨(.type "super"),none,.fields ⟨[(.ref 60),(.ref 60),(.ref 60)]⟩,⟨[]⟩⟩
def mn(P:KS):Obj:=tc6 "object.__init_subclass__" (.ref 60)
def aC6(P:KS):Obj:=ta6 [kv P q2 165 (.str q3 194),kv P q9 166 .none,kv P z6 167 .none,kv P z7 168 (.builtin "__main__.__loader__#opaque"),kv P z8 169 .none,tf6 P z9 170 6,tf6 P sB 171 4,kv P sy 173 (.str ar 172),kv P sx 174 .none,tf6 P q0 193 21,tf6 P q4 252 60,tf6 P fw 380 135] 12
def aC8(P:KS):Obj:=Fi [(I 1),(I 0),(.ref 20),(I 5),(I 0),(.ref 27),(I 23),(I 0),(.ref 71)]
def qg(P:KS):Obj:=Tu [(.type "tuple")]
def qf(P:KS):Obj:=tc6 "type.__prepare__" (.type "type")
def qe(P:KS):Obj:=ta6 [kv P jJ 260 (.str q3 194),kv P sw 262 (.str fw 261),kv P lN 264 (.int 23 263),kv P q9 266 (.str (ch (aq 3)) 265),tf6 P tz 268 73,tf6 P ty 272 74,tf6 P tw 273 75,tf6 P ke 284 82,tf6 P iK 306 91,tf6 P kc 317 100,tf6 P tr 318 100,tf6 P jZ 326 107,tf6 P jY 333 114,tf6 P jX 341 121,tf6 P tp 345 122,tf6 P dT 355 124,tf6 P dG 365 127,tf6 P iL 375 130,tf6 P lM 376 132,tf6 P aAc 377 68] 20
def qd(P:KS):Obj:=⟨(.type "cell"),none,.cell (some (.ref 135)),⟨[]⟩⟩
def qb(P:KS):Obj:=Fi [(I 29),(I 4),(.ref 81),(I 34),(I 4),(.ref 88),(I 41),(I 4),(.ref 99),(I 52),(I 4),(.ref 106),(I 56),(I 4),(.ref 113),(I 59),(I 4),(.ref 120)]
def pZ(P:KS):Obj:=cd fw 255 fw 256 ar 257 23 0 0 0 0 69 false 181 70 .none .none .none 258 23 ar 259
def pY(P:KS):Obj:=tb6 71 67 q3 194
def pW(P:KS):Obj:=Tu [(.str dT 269),(.str dG 270),(.str iL 271)]
def pV(P:KS):Obj:=ta6 [] 0
def pS(P:KS):Obj:=Tu [(.str yQ 277),(.str dT 278),(.str dG 279),(.str iL 280)]
def pQ(P:KS):Obj:=te6 (au 3 4) ke xH
def ja(P:KS):Obj:=cd ke 274 xH 275 ar 276 29 4 0 0 3 76 true 181 77 (.ref 78) (.ref 79) (.ref 80) 281 29 ar 282
def gT(P:KS):Obj:=td6 (au 3 4) ke xH .none (.str (ch (au 3 4)) 283) 81
def pN(P:KS):Obj:=Tu [(.str yP 288),(.str yO 289),(.str tv 290)]
def pL(P:KS):Obj:=te6 (au 3 5) iK sq
def iZ(P:KS):Obj:=cd iK 285 sq 286 ar 287 33 2 0 0 3 83 true 181 84 (.ref 85) (.ref 86) (.ref 87) 291 33 ar 292
def gS(P:KS):Obj:=Fu (aG (au 3 5) iK sq 3 [] .none .none (.str (ch (au 3 5)) 293) (.str q3 194) (some 92) (.ref 88) .none 0)
def pK(P:KS):Obj:=ta6 [kv P jJ 295 (.str q3 194),kv P q2 298 (.str iK 297),kv P sw 301 (.str sq 300),kv P q9 303 (.str (ch (au 3 5)) 293),tf6 P z9 305 92] 5
def pJ(P:KS):Obj:=⟨(.type "classmethod"),some 90,.fields ⟨[(.ref 89),(.bool false)]⟩,⟨[]⟩⟩
def pI(P:KS):Obj:=ta6 [] 0
def pH(P:KS):Obj:=Tu [(.ref 68)]
def pG(P:KS):Obj:=Tu [(.str tu 310)]
def pE(P:KS):Obj:=Tu [(.str q6 311),(.str yN 312),(.str tv 313)]
def pC(P:KS):Obj:=te6 (au 3 6) kc xG
def pB(P:KS):Obj:=cd kc 307 xG 308 ar 309 41 1 1 0 11 94 true 181 95 (.ref 96) (.ref 97) (.ref 98) 314 41 ar 315
def rc(P:KS):Obj:=Fu (aG (au 3 6) kc xG 3 [(tu,68)] .none .none (.str (ch (au 3 6)) 316) (.str q3 194) none (.ref 99) (.ref 93) 0)
def qY(P:KS):Obj:=Tu [(.str q6 322)]
def qW(P:KS):Obj:=te6 (au 3 8) jZ xF
def qU(P:KS):Obj:=cd jZ 319 xF 320 ar 321 52 1 0 0 3 101 true 181 102 (.ref 103) (.ref 104) (.ref 105) 323 52 ar 324
def qS(P:KS):Obj:=td6 (au 3 8) jZ xF .none (.str (ch (au 3 8)) 325) 106
def qP(P:KS):Obj:=Tu [(.str q6 330)]
def qN(P:KS):Obj:=te6 (au 3 9) jY xE
def qM(P:KS):Obj:=cd jY 327 xE 328 ar 329 56 1 0 0 3 108 true 181 109 (.ref 110) (.ref 111) (.ref 112) 331 56 ar 332
def qL(P:KS):Obj:=td6 (au 3 9) jY xE .none .none 113
def qI(P:KS):Obj:=Tu [(.str q6 337)]
def qG(P:KS):Obj:=te6 (au 3 10) jX xD
def qF(P:KS):Obj:=cd jX 334 xD 335 ar 336 59 1 0 0 3 115 true 181 116 (.ref 117) (.ref 118) (.ref 119) 338 59 ar 339
def qE(P:KS):Obj:=td6 (au 3 10) jX xD .none (.str (ch (au 3 10)) 340) 120
def qD(P:KS):Obj:=Tu [(.str dT 342),(.str dG 343),(.str iL 344)]
def qC(P:KS):Obj:=ta6 [kv P q7 352 (.int 0 346),kv P q9 354 (.str CS 347)] 2
def qB(P:KS):Obj:=⟨(.ref 60),some 123,.plain,⟨[]⟩⟩
def qA(P:KS):Obj:=⟨(.type "frame"),none,.dict ⟨[tf6 P q6 348 124,kv P q7 349 (.int 0 346),kv P q8 350 (.str CS 347)]⟩ 3,⟨[]⟩⟩
def qz(P:KS):Obj:=ta6 [kv P q7 362 (.int 1 356),kv P q9 364 (.str CR 357)] 2
def qy(P:KS):Obj:=⟨(.ref 60),some 126,.plain,⟨[]⟩⟩
def qx(P:KS):Obj:=⟨(.type "frame"),none,.dict ⟨[tf6 P q6 358 127,kv P q7 359 (.int 1 356),kv P q8 360 (.str CR 357)]⟩ 3,⟨[]⟩⟩
def qw(P:KS):Obj:=ta6 [kv P q7 372 (.int 2 366),kv P q9 374 (.str CQ 367)] 2
def qt(P:KS):Obj:=⟨(.ref 60),some 129,.plain,⟨[]⟩⟩
def qr(P:KS):Obj:=⟨(.type "frame"),none,.dict ⟨[tf6 P q6 368 130,kv P q7 369 (.int 2 366),kv P q8 370 (.str CQ 367)]⟩ 3,⟨[]⟩⟩
def qp(P:KS):Obj:=⟨(.type "list"),none,.seq ⟨[]⟩ 0,⟨[]⟩⟩
def qo(P:KS):Obj:=ta6 [kv P jJ 260 (.str q3 194),kv P lN 264 (.int 23 263),kv P q9 266 (.str (ch (aq 3)) 265),tf6 P tz 268 73,tf6 P ty 272 74,tf6 P tw 273 75,tf6 P ke 284 136,tf6 P iK 306 91,tf6 P kc 317 100,tf6 P tr 318 100,tf6 P jZ 326 107,tf6 P jY 333 114,tf6 P jX 341 121,tf6 P tp 345 122,tf6 P dT 355 124,tf6 P dG 365 127,tf6 P iL 375 130,tf6 P lM 376 132] 2
def kO(P:KS):Obj:=⟨(.type "type"),none,.cls ⟨fw,[(.type "tuple")],[(.ref 135),(.type "tuple"),(.type "object")],134,fw,false,[],[],false,none,false⟩,⟨[some (.ref 65),none,some (.str fw 253),some (.str fw 261),some .none,some (.bool false)]⟩⟩
def qm(P:KS):Obj:=⟨(.type "staticmethod"),none,.fields ⟨[(.ref 82)]⟩,⟨[]⟩⟩
def ql(P:KS):Obj:=⟨(.type "super"),none,.fields ⟨[(.ref 135),(.ref 135),(.ref 135)]⟩,⟨[]⟩⟩
def qk(P:KS):Obj:=tc6 "object.__init_subclass__" (.ref 135)
def aC5(P:KS):Obj:=ta6 [kv P q2 165 (.str q3 194),kv P q9 166 .none,kv P z6 167 .none,kv P z7 168 (.builtin "__main__.__loader__#opaque"),kv P z8 169 .none,tf6 P z9 170 6,tf6 P sB 171 4,kv P sy 173 (.str ar 172),kv P sx 174 .none,tf6 P q0 193 21,tf6 P q4 252 60,tf6 P fw 380 135,tf6 P gO 388 145,tf6 P fQ 591 242] 14
def aC7(P:KS):Obj:=Fi [(I 1),(I 0),(.ref 20),(I 5),(I 0),(.ref 27),(I 23),(I 0),(.ref 71),(I 66),(I 0),(.ref 144),(I 70),(I 0),(.ref 151)]
def vO(P:KS):Obj:=Tu [(.str tn 384),(.str pd 385)]
def vM(P:KS):Obj:=Fn (ew (aq 4) gO)
def vL(P:KS):Obj:=cd gO 381 gO 382 ar 383 66 2 0 0 3 139 true 181 140 (.ref 141) (.ref 142) (.ref 143) 386 66 ar 387
def vK(P:KS):Obj:=td6 (aq 4) gO gO .none .none 144
def vI(P:KS):Obj:=tc6 "type.__prepare__" (.type "type")
def vH(P:KS):Obj:=ta6 [kv P jJ 396 (.str q3 194),kv P sw 398 (.str fQ 397),kv P lN 400 (.int 70 399),kv P q9 402 (.str (ch (aq 5)) 401),tf6 P q5 417 160,tf6 P jW 427 167,tf6 P jV 436 174,tf6 P jU 445 181,tf6 P te 463 188,tf6 P jS 491 196,tf6 P ko 518 203,tf6 P km 533 210,tf6 P kl 551 218,tf6 P kj 560 225,tf6 P ki 567 232,tf6 P kh 574 239,tf6 P lM 585 240] 17
def vF(P:KS):Obj:=Fi [(I 145),(I 4),(.ref 159),(I 173),(I 4),(.ref 166),(I 184),(I 4),(.ref 173),(I 209),(I 4),(.ref 180),(I 236),(I 4),(.ref 187),(I 260),(I 4),(.ref 195),(I 335),(I 4),(.ref 202),(I 383),(I 4),(.ref 209),(I 430),(I 4),(.ref 217),(I 475),(I 4),(.ref 224),(I 499),(I 4),(.ref 231),(I 502),(I 4),(.ref 238)]
def vE(P:KS):Obj:=cd fQ 391 fQ 392 ar 393 70 0 0 0 0 149 false 181 150 .none .none .none 394 70 ar 395
def vD(P:KS):Obj:=tb6 151 148 q3 194
def vC(P:KS):Obj:=Tu [.none,(.str fu 404),(.str fu 405),(.bool true)]
def vy(P:KS):Obj:=Tu [(.str q6 409),(.str oZ 410),(.str dT 411),(.str dG 412),(.str tm 413)]
def vu(P:KS):Obj:=te6 (au 5 1) q5 xC
def kM(P:KS):Obj:=cd q5 406 xC 407 ar 408 145 5 0 0 3 154 true 181 155 (.ref 156) (.ref 157) (.ref 158) 414 145 ar 415
def jm(P:KS):Obj:=td6 (au 5 1) q5 xC (.ref 153) (.str (ch (au 5 1)) 416) 159
def vq(P:KS):Obj:=Tu [(.str q6 421),(.str dT 422),(.str dG 423)]
def vk(P:KS):Obj:=te6 (au 5 2) jW xB
def kL(P:KS):Obj:=cd jW 418 xB 419 ar 420 173 3 0 0 3 161 true 181 162 (.ref 163) (.ref 164) (.ref 165) 424 173 ar 425
def jl(P:KS):Obj:=td6 (au 5 2) jW xB .none (.str (ch (au 5 2)) 426) 166
def vf(P:KS):Obj:=Tu [(.str q6 431),(.str dT 432)]
def vc(P:KS):Obj:=te6 (au 5 3) jV xA
def kK(P:KS):Obj:=cd jV 428 xA 429 ar 430 184 2 0 0 3 168 true 181 169 (.ref 170) (.ref 171) (.ref 172) 433 184 ar 434
def ji(P:KS):Obj:=td6 (au 5 3) jV xA .none (.str (ch (au 5 3)) 435) 173
def uY(P:KS):Obj:=Tu [(.str q6 440),(.str dG 441)]
def uW(P:KS):Obj:=te6 (au 5 4) jU xz
def kJ(P:KS):Obj:=cd jU 437 xz 438 ar 439 209 2 0 0 3 175 true 181 176 (.ref 177) (.ref 178) (.ref 179) 442 209 ar 443
def jh(P:KS):Obj:=td6 (au 5 4) jU xz .none (.str (ch (au 5 4)) 444) 180
def uT(P:KS):Obj:=Tu [(.str q6 449),(.str dG 450),(.str oX 451),(.str lX 452),(.str yK 453),(.str yJ 454),(.str yH 455),(.str oZ 456),(.str yF 457),(.str jT 458),(.str yE 459),(.str yD 460)]
def uR(P:KS):Obj:=te6 (au 5 5) oY xy
def kH(P:KS):Obj:=cd oY 446 xy 447 ar 448 236 1 0 0 3 182 true 181 183 (.ref 184) (.ref 185) (.ref 186) 461 236 ar 462
def jg(P:KS):Obj:=td6 (au 5 5) oY xy .none .none 187
def uQ(P:KS):Obj:=Tu [(.int 0 464),.none,(.int 0 465),.none]
def uN(P:KS):Obj:=Tu [(.str q6 469),(.str tc 470),(.str sZ 471),(.str sY 472),(.str sX 473),(.str dT 474),(.str dG 475),(.str oX 476),(.str yC 477),(.str yB 478),(.str yA 479),(.str yz 480),(.str yy 481),(.str yx 482),(.str lX 483),(.str yw 484),(.str yv 485),(.str oW 486),(.str q1 487)]
def uL(P:KS):Obj:=te6 (au 5 6) jS xS
def kG(P:KS):Obj:=cd jS 466 xS 467 ar 468 260 5 0 0 3 190 true 181 191 (.ref 192) (.ref 193) (.ref 194) 488 260 ar 489
def gV(P:KS):Obj:=td6 (au 5 6) jS xS (.ref 189) (.str (ch (au 5 6)) 490) 195
def uI(P:KS):Obj:=Tu [(.str q6 495),(.str zq 496),(.str zp 497),(.str zo 498),(.str th 499),(.str tc 500),(.str sZ 501),(.str sY 502),(.str sX 503),(.str lX 504),(.str oW 505),(.str q1 506),(.str zm 507),(.str mf 508),(.str me 509),(.str zl 510),(.str zj 511),(.str mc 512),(.str lZ 513),(.str zi 514)]
def uG(P:KS):Obj:=te6 (au 5 7) ko xR
def kF(P:KS):Obj:=cd ko 492 xR 493 ar 494 335 1 0 0 3 197 true 181 198 (.ref 199) (.ref 200) (.ref 201) 515 335 ar 516
def jf(P:KS):Obj:=td6 (au 5 7) ko xR .none (.str (ch (au 5 7)) 517) 202
def uD(P:KS):Obj:=Tu [(.str q6 522),(.str lX 523),(.str oW 524),(.str zh 525),(.str zg 526),(.str zf 527),(.str iL 528),(.str lY 529)]
def uB(P:KS):Obj:=te6 (au 5 8) km xQ
def kC(P:KS):Obj:=cd km 519 xQ 520 ar 521 383 1 0 0 3 204 true 181 205 (.ref 206) (.ref 207) (.ref 208) 530 383 ar 531
def je(P:KS):Obj:=td6 (au 5 8) km xQ .none (.str (ch (au 5 8)) 532) 209
def uA(P:KS):Obj:=Tu [(.int 3 534)]
def ux(P:KS):Obj:=Tu [(.str q6 538),(.str jT 539),(.str zd 540),(.str lY 541),(.str mf 542),(.str mc 543),(.str me 544),(.str lZ 545),(.str zc 546),(.str pr 547)]
def uv(P:KS):Obj:=te6 (au 5 9) kl xP
def kB(P:KS):Obj:=cd kl 535 xP 536 ar 537 430 2 0 0 35 212 true 181 213 (.ref 214) (.ref 215) (.ref 216) 548 430 ar 549
def kA(P:KS):Obj:=td6 (au 5 9) kl xP (.ref 211) (.str (ch (au 5 9)) 550) 217
def ur(P:KS):Obj:=Tu [(.str q6 555),(.str tn 556)]
def uo(P:KS):Obj:=te6 (au 5 10) kj xO
def um(P:KS):Obj:=cd kj 552 xO 553 ar 554 475 1 0 0 3 219 true 181 220 (.ref 221) (.ref 222) (.ref 223) 557 475 ar 558
def ul(P:KS):Obj:=td6 (au 5 10) kj xO .none (.str (ch (au 5 10)) 559) 224
def uf(P:KS):Obj:=Tu [(.str q6 564)]
def ud(P:KS):Obj:=te6 (au 5 11) ki xN
def uc(P:KS):Obj:=cd ki 561 xN 562 ar 563 499 1 0 0 3 226 true 181 227 (.ref 228) (.ref 229) (.ref 230) 565 499 ar 566
def ub(P:KS):Obj:=td6 (au 5 11) ki xN .none .none 231
def tY(P:KS):Obj:=Tu [(.str q6 571)]
def tW(P:KS):Obj:=te6 (au 5 12) kh xM
def tV(P:KS):Obj:=cd kh 568 xM 569 ar 570 502 1 0 0 3 233 true 181 234 (.ref 235) (.ref 236) (.ref 237) 572 502 ar 573
def tU(P:KS):Obj:=td6 (au 5 12) kh xM .none .none 238
def tT(P:KS):Obj:=Tu [(.str dT 575),(.str tm 576),(.str dG 577),(.str oX 578),(.str yI 579),(.str yG 580),(.str yL 581),(.str oZ 582),(.str th 583),(.str yM 584)]
def tS(P:KS):Obj:=ta6 [kv P jJ 396 (.str q3 194),kv P lN 400 (.int 70 399),kv P q9 402 (.str (ch (aq 5)) 401),tf6 P q5 417 160,tf6 P jW 427 167,tf6 P jV 436 174,tf6 P jU 445 181,tf6 P te 463 188,tf6 P jS 491 196,tf6 P ko 518 203,tf6 P km 533 210,tf6 P kl 551 218,tf6 P kj 560 225,tf6 P ki 567 232,tf6 P kh 574 239,tf6 P lM 585 240,tf6 P su 587 243,tf6 P sr 589 244] 3
def qh(P:KS):Obj:=⟨(.type "type"),none,.cls ⟨fQ,[(.type "object")],[(.ref 242),(.type "object")],241,fQ,true,[],[],false,none,false⟩,⟨[none,none,some (.str fQ 389),some (.str fQ 397),some (.builtin "object.__new__"),some (.bool true)]⟩⟩
def tR(P:KS):Obj:=⟨(.type "getset_descriptor"),none,.fields ⟨[(.str su 586),(.ref 242),(.builtin "function.__dict__"),(.builtin "function.__dict__#set")]⟩,⟨[]⟩⟩
def tQ(P:KS):Obj:=⟨(.type "getset_descriptor"),none,.fields ⟨[(.str sr 588),(.ref 242),(.builtin "ExceptionGroup.__weakref__"),.none]⟩,⟨[]⟩⟩
def tP(P:KS):Obj:=⟨(.type "super"),none,.fields ⟨[(.ref 242),(.ref 242),(.ref 242)]⟩,⟨[]⟩⟩
def tO(P:KS):Obj:=tc6 "object.__init_subclass__" (.ref 242)
def eQ(P:KS):Obj:=ta6 [kv P q2 165 (.str gP 721),kv P q9 166 .none,kv P z6 167 .none,kv P z7 168 (.builtin "__main__.__loader__#opaque"),kv P z8 169 .none,tf6 P z9 170 6,tf6 P sB 171 4,kv P sy 173 (.str ar 172),kv P sx 174 .none,tf6 P q0 193 21,tf6 P q4 252 60,tf6 P fw 380 135,tf6 P gO 388 145,tf6 P fQ 591 242,tf6 P iX 602 253,tf6 P iW 637 261,tf6 P iU 648 268,tf6 P iT 685 276,tf6 P iV 695 283,tf6 P iS 720 291,tf6 P iR 729 298,tf6 P iQ 735 303,tf6 P iP 741 308,tf6 P iO 747 313,tf6 P iN 755 320,tf6 P iM 761 325] 26
def Aw(P:KS):Obj:=Fi [(I 1),(I 0),(.ref 20),(I 5),(I 0),(.ref 27),(I 23),(I 0),(.ref 71),(I 66),(I 0),(.ref 144),(I 70),(I 0),(.ref 151),(I 504),(I 0),(.ref 252),(I 513),(I 0),(.ref 260),(I 576),(I 0),(.ref 267),(I 585),(I 0),(.ref 275),(I 653),(I 0),(.ref 282),(I 661),(I 0),(.ref 290),(I 689),(I 0),(.ref 297),(I 694),(I 0),(.ref 302),(I 719),(I 0),(.ref 307),(I 734),(I 0),(.ref 312),(I 736),(I 0),(.ref 319),(I 742),(I 0),(.ref 324)]
def At(P:KS):Obj:=Tu [(.str tK 595),(.str tJ 596),(.str tI 597),(.str pd 598)]
def Ar(P:KS):Obj:=Fn (ew (aq 6) iX)
def nE(P:KS):Obj:=cd iX 592 iX 593 ar 594 504 2 0 0 3 247 true 181 248 (.ref 249) (.ref 250) (.ref 251) 599 504 ar 600
def kz(P:KS):Obj:=td6 (aq 6) iX iX .none (.str (ch (aq 6)) 601) 252
def Aq(P:KS):Obj:=Tu [(.str fu 603),(.str fu 604),(.str fu 605),(.str fu 606),(.int 3 607),(.str tH 608)]
def An(P:KS):Obj:=Tu [(.str dT 612),(.str dG 613),(.str pn 614),(.str pj 615),(.str pi 616),(.str ph 617),(.str jT 618),(.str pf 619),(.str tG 620),(.str pr 621),(.str tF 622),(.str tE 623),(.str tD 624),(.str tC 625),(.str tB 626),(.str tA 627),(.str lY 628),(.str mf 629),(.str mc 630),(.str me 631),(.str lZ 632),(.str pe 633)]
def Al(P:KS):Obj:=Fn (ew (aq 7) iW)
def nC(P:KS):Obj:=cd iW 609 iW 610 ar 611 513 8 0 0 35 255 true 181 256 (.ref 257) (.ref 258) (.ref 259) 634 513 ar 635
def ej(P:KS):Obj:=td6 (aq 7) iW iW (.ref 254) (.str (ch (aq 7)) 636) 260
def Ai(P:KS):Obj:=Tu [(.str tK 641),(.str tJ 642),(.str tI 643),(.str pd 644)]
def Ag(P:KS):Obj:=Fn (ew (aq 8) iU)
def nB(P:KS):Obj:=cd iU 638 iU 639 ar 640 576 2 0 0 3 262 true 181 263 (.ref 264) (.ref 265) (.ref 266) 645 576 ar 646
def ky(P:KS):Obj:=td6 (aq 8) iU iU .none (.str (ch (aq 6)) 647) 267
def Af(P:KS):Obj:=Tu [(.str fu 649),(.str fu 650),(.str fu 651),(.str fu 652),(.int 3 653),(.str tH 654)]
def Ad(P:KS):Obj:=Tu [(.str dT 658),(.str dG 659),(.str pn 660),(.str pj 661),(.str pi 662),(.str ph 663),(.str jT 664),(.str pf 665),(.str zb 666),(.str tG 667),(.str pr 668),(.str tF 669),(.str tE 670),(.str tD 671),(.str tC 672),(.str tB 673),(.str lY 674),(.str mf 675),(.str mc 676),(.str za 677),(.str pe 678),(.str tA 679),(.str me 680),(.str lZ 681)]
def Ab(P:KS):Obj:=Fn (ew (aq 9) iT)
def kx(P:KS):Obj:=cd iT 655 iT 656 ar 657 585 8 0 0 35 270 true 181 271 (.ref 272) (.ref 273) (.ref 274) 682 585 ar 683
def eh(P:KS):Obj:=td6 (aq 9) iT iT (.ref 269) (.str (ch (aq 9)) 684) 275
def zY(P:KS):Obj:=Tu [(.str dT 689),(.str dG 690),(.str yZ 691),(.str yX 692)]
def zW(P:KS):Obj:=Fn (ew (aq 10) iV)
def nw(P:KS):Obj:=cd iV 686 iV 687 ar 688 653 2 0 0 7 277 true 181 278 (.ref 279) (.ref 280) (.ref 281) 693 653 ar 694
def ef(P:KS):Obj:=td6 (aq 10) iV iV .none .none 282
def zV(P:KS):Obj:=Tu [(.bytes ⟨[]⟩ 696),(.bytes ⟨[]⟩ 697),(.bytes ⟨[]⟩ 698),(.bytes ⟨[]⟩ 699),(.int 3 700),(.bytes ⟨[10]⟩ 701)]
def zT(P:KS):Obj:=Tu [(.str yW 705),(.str dT 706),(.str dG 707),(.str pn 708),(.str pj 709),(.str pi 710),(.str ph 711),(.str jT 712),(.str pf 713),(.str yV 714),(.str yU 715),(.str pe 716)]
def zR(P:KS):Obj:=Fn (ew (aq 11) iS)
def ku(P:KS):Obj:=cd iS 702 iS 703 ar 704 661 9 0 0 35 285 true 181 286 (.ref 287) (.ref 288) (.ref 289) 717 661 ar 718
def dU(P:KS):Obj:=td6 (aq 11) iS iS (.ref 284) (.str (ch (aq 11)) 719) 290
def zO(P:KS):Obj:=Tu [(.str yT 726)]
def zM(P:KS):Obj:=Fn (ew (aq 13) iR)
def nr(P:KS):Obj:=cd iR 723 iR 724 ar 725 689 1 0 0 3 292 true 181 293 (.ref 294) (.ref 295) (.ref 296) 727 689 ar 728
def gv(P:KS):Obj:=Fu (aG (aq 13) iR iR 3 [] .none .none .none (.str gP 721) none (.ref 297) .none 0)
def zJ(P:KS):Obj:=Fn (ew (aq 14) iQ)
def nk(P:KS):Obj:=cd iQ 730 iQ 731 ar 732 694 4 0 0 3 299 true 181 300 .none .none (.ref 301) 733 694 ar 734
def nj(P:KS):Obj:=Fu (aG (aq 14) iQ iQ 3 [] .none .none .none (.str gP 721) none (.ref 302) .none 0)
def zG(P:KS):Obj:=Fn (ew (aq 15) iP)
def ni(P:KS):Obj:=cd iP 736 iP 737 ar 738 719 5 0 0 3 304 true 181 305 .none .none (.ref 306) 739 719 ar 740
def fC(P:KS):Obj:=Fu (aG (aq 15) iP iP 3 [] .none .none .none (.str gP 721) none (.ref 307) .none 0)
def zD(P:KS):Obj:=Fn (ew (aq 16) iO)
def ng(P:KS):Obj:=cd iO 742 iO 743 ar 744 734 2 0 0 3 309 true 181 310 .none .none (.ref 311) 745 734 ar 746
def jd(P:KS):Obj:=Fu (aG (aq 16) iO iO 3 [] .none .none .none (.str gP 721) none (.ref 312) .none 0)
def zA(P:KS):Obj:=Tu [(.str yR 751),(.str yS 752)]
def zy(P:KS):Obj:=Fn (ew (aq 17) iN)
def nf(P:KS):Obj:=cd iN 748 iN 749 ar 750 736 1 0 0 3 314 true 181 315 (.ref 316) (.ref 317) (.ref 318) 753 736 ar 754
def ee(P:KS):Obj:=Fu (aG (aq 17) iN iN 3 [] .none .none .none (.str gP 721) none (.ref 319) .none 0)
def zv(P:KS):Obj:=Fn (ew (aq 18) iM)
def mZ(P:KS):Obj:=cd iM 756 iM 757 ar 758 742 1 0 0 3 321 true 181 322 .none .none (.ref 323) 759 742 ar 760
def jc(P:KS):Obj:=Fu (aG (aq 18) iM iM 3 [] .none .none .none (.str gP 721) none (.ref 324) .none 0)
def sI(P:KS):BT:=(nd (boot_o_0 P) (nd (boot_o_1 P) (nd (boot_o_3 P) (ck (boot_o_7 P)) (ck (kQ P))) (nd (boot_o_5 P) (ck (boot_o_9 P)) (ck (kP P)))) (nd (boot_o_2 P) (nd (boot_o_4 P) (ck (boot_o_8 P)) (ck (aDa P))) (nd (boot_o_6 P) (ck (boot_o_10 P)) (ck (kN P)))))
def vX:Nat:=15
def sK:Nat:=187
def Dp(P:KS):BT:=(nd (boot_o_0 P) (nd (boot_o_1 P) (nd (o3 P) (nd (boot_o_7 P) (nd (kQ P) (nd (nh P) (ck (mo P)) nl) (ck (kQ P))) (nd (nH P) (ck (mR P)) (ck (mB P)))) (nd (kQ P) (nd (nM P) (ck (mW P)) (ck (kQ P))) (nd (nz P) (ck (mN P)) (ck (mx P))))) (nd (boot_o_5 P) (nd (boot_o_9 P) (nd (nO P) (ck (mY P)) (ck (mH P))) (nd (kQ P) (ck (mP P)) (ck (mz P)))) (nd (kP P) (nd (nJ P) (ck (kQ P)) (ck (mD P))) (nd (kQ P) (ck (aDa P)) (ck (mr P)))))) (nd (boot_o_2 P) (nd (boot_o_4 P) (nd (boot_o_8 P) (nd (aDa P) (nd (kQ P) (ck (mn P)) nl) (ck (mI P))) (nd (nG P) (ck (kQ P)) (ck (mA P)))) (nd (aC9 P) (nd (nK P) (ck (mV P)) (ck (aDa P))) (nd (nx P) (ck (kQ P)) (ck (mw P))))) (nd (boot_o_6 P) (nd (boot_o_10 P) (nd (kQ P) (ck (mX P)) (ck (mG P))) (nd (nD P) (ck (mO P)) (ck (my P)))) (nd (kN P) (nd (kQ P) (ck (aDa P)) (ck (kQ P))) (nd (aDa P) (ck (mK P)) (ck (mq P)))))))
def GW:Nat:=65
def Ds:Nat:=253
def Do(P:KS):BT:=(nd (boot_o_0 P) (nd (boot_o_1 P) (nd (aC6 P) (nd (boot_o_7 P) (nd (kQ P) (nd (nh P) (nd (mo P) (ck (qy P)) nl) (ck (aDa P))) (nd (kQ P) (ck (kQ P)) (ck (kQ P)))) (nd (nH P) (nd (mR P) (nd (pZ P) (ck (kO P)) nl) (ck (qY P))) (nd (mB P) (ck (pL P)) (ck (qG P))))) (nd (kQ P) (nd (nM P) (nd (mW P) (nd (qe P) (ck (qr P)) nl) (ck (pB P))) (nd (kQ P) (ck (kQ P)) (ck (kQ P)))) (nd (nz P) (nd (mN P) (ck (pV P)) (ck (qS P))) (nd (mx P) (ck (pJ P)) (ck (qC P)))))) (nd (boot_o_5 P) (nd (boot_o_9 P) (nd (nO P) (nd (mY P) (nd (qg P) (ck (qw P)) nl) (ck (kQ P))) (nd (mH P) (ck (ja P)) (ck (qM P)))) (nd (kQ P) (nd (mP P) (nd (kQ P) (ck (ql P)) nl) (ck (qW P))) (nd (mz P) (ck (gS P)) (ck (qE P))))) (nd (kP P) (nd (nJ P) (nd (kQ P) (nd (kQ P) (ck (qp P)) nl) (ck (kQ P))) (nd (mD P) (ck (pN P)) (ck (qI P)))) (nd (kQ P) (nd (aDa P) (ck (aDa P)) (ck (aDa P))) (nd (mr P) (ck (pH P)) (ck (qA P))))))) (nd (boot_o_2 P) (nd (boot_o_4 P) (nd (boot_o_8 P) (nd (aDa P) (nd (kQ P) (nd (mn P) (ck (qx P)) nl) (ck (pE P))) (nd (mI P) (ck (pQ P)) (ck (qN P)))) (nd (nG P) (nd (kQ P) (nd (pY P) (ck (qm P)) nl) (ck (kQ P))) (nd (mA P) (ck (iZ P)) (ck (qF P))))) (nd (aC8 P) (nd (nK P) (nd (mV P) (nd (qd P) (ck (kQ P)) nl) (ck (rc P))) (nd (aDa P) (ck (aDa P)) (ck (aDa P)))) (nd (nx P) (nd (kQ P) (ck (kQ P)) (ck (kQ P))) (nd (mw P) (ck (pI P)) (ck (qB P)))))) (nd (boot_o_6 P) (nd (boot_o_10 P) (nd (kQ P) (nd (mX P) (nd (qf P) (ck (qt P)) nl) (ck (pC P))) (nd (mG P) (ck (gT P)) (ck (qL P)))) (nd (nD P) (nd (mO P) (nd (pW P) (ck (qk P)) nl) (ck (qU P))) (nd (my P) (ck (pK P)) (ck (qD P))))) (nd (kN P) (nd (kQ P) (nd (aDa P) (nd (qb P) (ck (qo P)) nl) (ck (aDa P))) (nd (kQ P) (ck (kQ P)) (ck (kQ P)))) (nd (aDa P) (nd (mK P) (ck (pS P)) (ck (qP P))) (nd (mq P) (ck (pG P)) (ck (qz P))))))))
def GV:Nat:=139
def Dr:Nat:=381
def Dn(P:KS):BT:=(nd (boot_o_0 P) (nd (boot_o_1 P) (nd (aC5 P) (nd (boot_o_7 P) (nd (kQ P) (nd (nh P) (nd (mo P) (ck (qy P)) (ck (aDa P))) (nd (aDa P) (ck (kM P)) (ck (uo P)))) (nd (kQ P) (nd (kQ P) (ck (vM P)) (ck (kQ P))) (nd (kQ P) (ck (kQ P)) (ck (tU P))))) (nd (nH P) (nd (mR P) (nd (pZ P) (ck (kO P)) (ck (uI P))) (nd (qY P) (ck (jl P)) (ck (uc P)))) (nd (mB P) (nd (pL P) (ck (vE P)) (ck (kQ P))) (nd (qG P) (ck (aDa P)) nl)))) (nd (kQ P) (nd (nM P) (nd (mW P) (nd (qe P) (ck (qr P)) (ck (kG P))) (nd (pB P) (ck (vq P)) (ck (aDa P)))) (nd (kQ P) (nd (kQ P) (ck (vI P)) (ck (uA P))) (nd (kQ P) (ck (uW P)) (ck (tR P))))) (nd (nz P) (nd (mN P) (nd (pV P) (ck (kQ P)) (ck (jf P))) (nd (qS P) (ck (kQ P)) (ck (tY P)))) (nd (mx P) (nd (pJ P) (ck (aDa P)) (ck (kQ P))) (nd (qC P) (ck (kH P)) nl))))) (nd (boot_o_5 P) (nd (boot_o_9 P) (nd (nO P) (nd (mY P) (nd (qg P) (ck (qw P)) (ck (kQ P))) (nd (kQ P) (ck (kQ P)) (ck (ul P)))) (nd (mH P) (nd (ja P) (ck (vK P)) (ck (kC P))) (nd (qM P) (ck (uY P)) (ck (tS P))))) (nd (kQ P) (nd (mP P) (nd (kQ P) (ck (ql P)) (ck (uG P))) (nd (qW P) (ck (aDa P)) (ck (kQ P)))) (nd (mz P) (nd (gS P) (ck (vC P)) (ck (kB P))) (nd (qE P) (ck (kQ P)) nl)))) (nd (kP P) (nd (nJ P) (nd (kQ P) (nd (kQ P) (ck (qp P)) (ck (kQ P))) (nd (kQ P) (ck (vk P)) (ck (kQ P)))) (nd (mD P) (nd (pN P) (ck (kQ P)) (ck (aDa P))) (nd (qI P) (ck (jh P)) (ck (tP P))))) (nd (kQ P) (nd (aDa P) (nd (aDa P) (ck (vO P)) (ck (aDa P))) (nd (aDa P) (ck (kK P)) (ck (tW P)))) (nd (mr P) (nd (pH P) (ck (kQ P)) (ck (ur P))) (nd (qA P) (ck (uQ P)) nl)))))) (nd (boot_o_2 P) (nd (boot_o_4 P) (nd (boot_o_8 P) (nd (aDa P) (nd (kQ P) (nd (mn P) (ck (qx P)) (ck (uN P))) (nd (pE P) (ck (jm P)) (ck (um P)))) (nd (mI P) (nd (pQ P) (ck (vL P)) (ck (uB P))) (nd (qN P) (ck (aDa P)) (ck (tT P))))) (nd (nG P) (nd (kQ P) (nd (pY P) (ck (qm P)) (ck (kQ P))) (nd (kQ P) (ck (kQ P)) (ck (ub P)))) (nd (mA P) (nd (iZ P) (ck (vD P)) (ck (uv P))) (nd (qF P) (ck (uT P)) nl)))) (nd (aC7 P) (nd (nK P) (nd (mV P) (nd (qd P) (ck (kQ P)) (ck (gV P))) (nd (rc P) (ck (kQ P)) (ck (uf P)))) (nd (aDa P) (nd (aDa P) (ck (vH P)) (ck (kQ P))) (nd (aDa P) (ck (kJ P)) (ck (tQ P))))) (nd (nx P) (nd (kQ P) (nd (kQ P) (ck (aDa P)) (ck (kQ P))) (nd (kQ P) (ck (vc P)) (ck (kQ P)))) (nd (mw P) (nd (pI P) (ck (vy P)) (ck (aDa P))) (nd (qB P) (ck (jg P)) nl))))) (nd (boot_o_6 P) (nd (boot_o_10 P) (nd (kQ P) (nd (mX P) (nd (qf P) (ck (qt P)) (ck (uL P))) (nd (pC P) (ck (aDa P)) (ck (kQ P)))) (nd (mG P) (nd (gT P) (ck (kQ P)) (ck (je P))) (nd (qL P) (ck (kQ P)) (ck (qh P))))) (nd (nD P) (nd (mO P) (nd (pW P) (ck (qk P)) (ck (kF P))) (nd (qU P) (ck (vf P)) (ck (aDa P)))) (nd (my P) (nd (pK P) (ck (kQ P)) (ck (kA P))) (nd (qD P) (ck (uR P)) nl)))) (nd (kN P) (nd (kQ P) (nd (aDa P) (nd (qb P) (ck (qo P)) (ck (aDa P))) (nd (aDa P) (ck (kL P)) (ck (ud P)))) (nd (kQ P) (nd (kQ P) (ck (vF P)) (ck (ux P))) (nd (kQ P) (ck (kQ P)) (ck (tO P))))) (nd (aDa P) (nd (mK P) (nd (pS P) (ck (kQ P)) (ck (uD P))) (nd (qP P) (ck (ji P)) (ck (tV P)))) (nd (mq P) (nd (pG P) (ck (vu P)) (ck (kQ P))) (nd (qz P) (ck (kQ P)) nl)))))))
def GU:Nat:=247
def Dq:Nat:=592
def Dm(P:KS):BT:=(nd (boot_o_0 P) (nd (boot_o_1 P) (nd (eQ P) (nd (boot_o_7 P) (nd (kQ P) (nd (nh P) (nd (mo P) (nd (qy P) (ck (kQ P)) nl) (nd (aDa P) (ck (nf P)) nl)) (nd (aDa P) (nd (kM P) (ck (zT P)) nl) (ck (uo P)))) (nd (kQ P) (nd (kQ P) (nd (vM P) (ck (aDa P)) nl) (ck (kQ P))) (nd (kQ P) (nd (kQ P) (ck (nj P)) nl) (ck (tU P))))) (nd (nH P) (nd (mR P) (nd (pZ P) (nd (kO P) (ck (aDa P)) nl) (ck (uI P))) (nd (qY P) (nd (jl P) (ck (kQ P)) nl) (ck (uc P)))) (nd (mB P) (nd (pL P) (nd (vE P) (ck (zY P)) nl) (ck (kQ P))) (nd (qG P) (nd (aDa P) (ck (zD P)) nl) (ck (kQ P)))))) (nd (kQ P) (nd (nM P) (nd (mW P) (nd (qe P) (nd (qr P) (ck (Al P)) nl) (nd (kG P) (ck (zv P)) nl)) (nd (pB P) (nd (vq P) (ck (dU P)) nl) (ck (aDa P)))) (nd (kQ P) (nd (kQ P) (nd (vI P) (ck (kx P)) nl) (ck (uA P))) (nd (kQ P) (nd (uW P) (ck (ni P)) nl) (ck (tR P))))) (nd (nz P) (nd (mN P) (nd (pV P) (nd (kQ P) (ck (nB P)) nl) (ck (jf P))) (nd (qS P) (nd (kQ P) (ck (kQ P)) nl) (ck (tY P)))) (nd (mx P) (nd (pJ P) (nd (aDa P) (ck (ef P)) nl) (ck (kQ P))) (nd (qC P) (nd (kH P) (ck (aDa P)) nl) (ck (Ar P))))))) (nd (boot_o_5 P) (nd (boot_o_9 P) (nd (nO P) (nd (mY P) (nd (qg P) (nd (qw P) (ck (An P)) nl) (nd (kQ P) (ck (kQ P)) nl)) (nd (kQ P) (nd (kQ P) (ck (zR P)) nl) (ck (ul P)))) (nd (mH P) (nd (ja P) (nd (vK P) (ck (kQ P)) nl) (ck (kC P))) (nd (qM P) (nd (uY P) (ck (aDa P)) nl) (ck (tS P))))) (nd (kQ P) (nd (mP P) (nd (kQ P) (nd (ql P) (ck (kQ P)) nl) (ck (uG P))) (nd (qW P) (nd (aDa P) (ck (nr P)) nl) (ck (kQ P)))) (nd (mz P) (nd (gS P) (nd (vC P) (ck (zW P)) nl) (ck (kB P))) (nd (qE P) (nd (kQ P) (ck (jd P)) nl) (ck (At P)))))) (nd (kP P) (nd (nJ P) (nd (kQ P) (nd (kQ P) (nd (qp P) (ck (ej P)) nl) (nd (kQ P) (ck (jc P)) nl)) (nd (kQ P) (nd (vk P) (ck (aDa P)) nl) (ck (kQ P)))) (nd (mD P) (nd (pN P) (nd (kQ P) (ck (kQ P)) nl) (ck (aDa P))) (nd (qI P) (nd (jh P) (ck (kQ P)) nl) (ck (tP P))))) (nd (kQ P) (nd (aDa P) (nd (aDa P) (nd (vO P) (ck (Af P)) nl) (ck (aDa P))) (nd (aDa P) (nd (kK P) (ck (zJ P)) nl) (ck (tW P)))) (nd (mr P) (nd (pH P) (nd (kQ P) (ck (kQ P)) nl) (ck (ur P))) (nd (qA P) (nd (uQ P) (ck (kQ P)) nl) (ck (kz P)))))))) (nd (boot_o_2 P) (nd (boot_o_4 P) (nd (boot_o_8 P) (nd (aDa P) (nd (kQ P) (nd (mn P) (nd (qx P) (ck (aDa P)) nl) (nd (uN P) (ck (ee P)) nl)) (nd (pE P) (nd (jm P) (ck (kQ P)) nl) (ck (um P)))) (nd (mI P) (nd (pQ P) (nd (vL P) (ck (Ad P)) nl) (ck (uB P))) (nd (qN P) (nd (aDa P) (ck (kQ P)) nl) (ck (tT P))))) (nd (nG P) (nd (kQ P) (nd (pY P) (nd (qm P) (ck (Ai P)) nl) (ck (kQ P))) (nd (kQ P) (nd (kQ P) (ck (zM P)) nl) (ck (ub P)))) (nd (mA P) (nd (iZ P) (nd (vD P) (ck (kQ P)) nl) (ck (uv P))) (nd (qF P) (nd (uT P) (ck (ng P)) nl) (ck (aDa P)))))) (nd (Aw P) (nd (nK P) (nd (mV P) (nd (qd P) (nd (kQ P) (ck (nC P)) nl) (nd (gV P) (ck (mZ P)) nl)) (nd (rc P) (nd (kQ P) (ck (kQ P)) nl) (ck (uf P)))) (nd (aDa P) (nd (aDa P) (nd (vH P) (ck (eh P)) nl) (ck (kQ P))) (nd (aDa P) (nd (kJ P) (ck (fC P)) nl) (ck (tQ P))))) (nd (nx P) (nd (kQ P) (nd (kQ P) (nd (aDa P) (ck (ky P)) nl) (ck (kQ P))) (nd (kQ P) (nd (vc P) (ck (aDa P)) nl) (ck (kQ P)))) (nd (mw P) (nd (pI P) (nd (vy P) (ck (zV P)) nl) (ck (aDa P))) (nd (qB P) (nd (jg P) (ck (zA P)) nl) (ck (nE P))))))) (nd (boot_o_6 P) (nd (boot_o_10 P) (nd (kQ P) (nd (mX P) (nd (qf P) (nd (qt P) (ck (kQ P)) nl) (nd (uL P) (ck (aDa P)) nl)) (nd (pC P) (nd (aDa P) (ck (ku P)) nl) (ck (kQ P)))) (nd (mG P) (nd (gT P) (nd (kQ P) (ck (Ab P)) nl) (ck (je P))) (nd (qL P) (nd (kQ P) (ck (zG P)) nl) (ck (qh P))))) (nd (nD P) (nd (mO P) (nd (pW P) (nd (qk P) (ck (Ag P)) nl) (ck (kF P))) (nd (qU P) (nd (vf P) (ck (gv P)) nl) (ck (aDa P)))) (nd (my P) (nd (pK P) (nd (kQ P) (ck (nw P)) nl) (ck (kA P))) (nd (qD P) (nd (uR P) (ck (kQ P)) nl) (ck (kQ P)))))) (nd (kN P) (nd (kQ P) (nd (aDa P) (nd (qb P) (nd (qo P) (ck (kQ P)) nl) (ck (aDa P))) (nd (aDa P) (nd (kL P) (ck (zO P)) nl) (ck (ud P)))) (nd (kQ P) (nd (kQ P) (nd (vF P) (ck (aDa P)) nl) (ck (ux P))) (nd (kQ P) (nd (kQ P) (ck (aDa P)) nl) (ck (tO P))))) (nd (aDa P) (nd (mK P) (nd (pS P) (nd (kQ P) (ck (kQ P)) nl) (ck (uD P))) (nd (qP P) (nd (ji P) (ck (nk P)) nl) (ck (tV P)))) (nd (mq P) (nd (pG P) (nd (vu P) (ck (aDa P)) nl) (ck (kQ P))) (nd (qz P) (nd (kQ P) (ck (zy P)) nl) (ck (Aq P)))))))))
def AE:Nat:=326
def iF:Nat:=762
def ig(P:KS):Heap:=⟨⟨[boot_o_0 P,boot_o_1 P,boot_o_2 P,eQ P,boot_o_4 P,boot_o_5 P,boot_o_6 P,boot_o_7 P,boot_o_8 P,boot_o_9 P,boot_o_10 P,kQ P,Aw P,kP P,kN P,kQ P,aDa P,nO P,kQ P,nM P,nK P,nJ P,kQ P,nH P,nG P,kQ P,nD P,nz P,nx P,kQ P,aDa P,nh P,kQ P,mY P,mX P,mW P,mV P,kQ P,aDa P,mR P,kQ P,mP P,mO P,mN P,kQ P,aDa P,mK P,kQ P,mI P,mH P,mG P,kQ P,aDa P,mD P,kQ P,mB P,mA P,mz P,my P,mx P,mw P,mr P,mq P,mo P,mn P,qg P,qf P,qe P,qd P,kQ P,qb P,pZ P,pY P,kQ P,pW P,pV P,kQ P,aDa P,pS P,kQ P,pQ P,ja P,gT P,kQ P,aDa P,pN P,kQ P,pL P,iZ P,gS P,pK P,pJ P,pI P,pH P,pG P,aDa P,pE P,kQ P,pC P,pB P,rc P,kQ P,aDa P,qY P,kQ P,qW P,qU P,qS P,kQ P,aDa P,qP P,kQ P,qN P,qM P,qL P,kQ P,aDa P,qI P,kQ P,qG P,qF P,qE P,qD P,qC P,qB P,qA P,qz P,qy P,qx P,qw P,qt P,qr P,kQ P,qp P,qo P,kO P,qm P,ql P,qk P,kQ P,aDa P,vO P,kQ P,vM P,vL P,vK P,kQ P,vI P,vH P,kQ P,vF P,vE P,vD P,vC P,kQ P,aDa P,vy P,kQ P,vu P,kM P,jm P,kQ P,aDa P,vq P,kQ P,vk P,kL P,jl P,kQ P,aDa P,vf P,kQ P,vc P,kK P,ji P,kQ P,aDa P,uY P,kQ P,uW P,kJ P,jh P,kQ P,aDa P,uT P,kQ P,uR P,kH P,jg P,uQ P,kQ P,aDa P,uN P,kQ P,uL P,kG P,gV P,kQ P,aDa P,uI P,kQ P,uG P,kF P,jf P,kQ P,aDa P,uD P,kQ P,uB P,kC P,je P,uA P,kQ P,aDa P,ux P,kQ P,uv P,kB P,kA P,kQ P,aDa P,ur P,kQ P,uo P,um P,ul P,kQ P,aDa P,uf P,kQ P,ud P,uc P,ub P,kQ P,aDa P,tY P,kQ P,tW P,tV P,tU P,tT P,tS P,qh P,tR P,tQ P,tP P,tO P,kQ P,aDa P,At P,kQ P,Ar P,nE P,kz P,Aq P,kQ P,aDa P,An P,kQ P,Al P,nC P,ej P,kQ P,aDa P,Ai P,kQ P,Ag P,nB P,ky P,Af P,kQ P,aDa P,Ad P,kQ P,Ab P,kx P,eh P,kQ P,aDa P,zY P,kQ P,zW P,nw P,ef P,zV P,kQ P,aDa P,zT P,kQ P,zR P,ku P,dU P,kQ P,aDa P,zO P,kQ P,zM P,nr P,gv P,kQ P,aDa P,zJ P,nk P,nj P,kQ P,aDa P,zG P,ni P,fC P,kQ P,aDa P,zD P,ng P,jd P,kQ P,aDa P,zA P,kQ P,zy P,nf P,ee P,kQ P,aDa P,zv P,mZ P,jc P]⟩,eU⟩
def aIj(P:KS):List (LP×Obj):=[(0,boot_o_0 P),(1,boot_o_1 P),(2,boot_o_2 P),(3,eQ P),(4,boot_o_4 P),(5,boot_o_5 P),(6,boot_o_6 P),(7,boot_o_7 P),(8,boot_o_8 P),(9,boot_o_9 P),(10,boot_o_10 P),(11,kQ P),(12,Aw P),(13,kP P),(14,kN P),(15,kQ P),(16,aDa P),(17,nO P),(18,kQ P),(19,nM P),(20,nK P),(21,nJ P),(22,kQ P),(23,nH P),(24,nG P),(25,kQ P),(26,nD P),(27,nz P),(28,nx P),(29,kQ P),(30,aDa P),(31,nh P),(32,kQ P),(33,mY P),(34,mX P),(35,mW P),(36,mV P),(37,kQ P),(38,aDa P),(39,mR P),(40,kQ P),(41,mP P),(42,mO P),(43,mN P),(44,kQ P),(45,aDa P),(46,mK P),(47,kQ P),(48,mI P),(49,mH P),(50,mG P),(51,kQ P),(52,aDa P),(53,mD P),(54,kQ P),(55,mB P),(56,mA P),(57,mz P),(58,my P),(59,mx P),(60,mw P),(61,mr P),(62,mq P),(63,mo P),(64,mn P),(65,qg P),(66,qf P),(67,qe P),(68,qd P),(69,kQ P),(70,qb P),(71,pZ P),(72,pY P),(73,kQ P),(74,pW P),(75,pV P),(76,kQ P),(77,aDa P),(78,pS P),(79,kQ P),(80,pQ P),(81,ja P),(82,gT P),(83,kQ P),(84,aDa P),(85,pN P),(86,kQ P),(87,pL P),(88,iZ P),(89,gS P),(90,pK P),(91,pJ P),(92,pI P),(93,pH P),(94,pG P),(95,aDa P),(96,pE P),(97,kQ P),(98,pC P),(99,pB P),(100,rc P),(101,kQ P),(102,aDa P),(103,qY P),(104,kQ P),(105,qW P),(106,qU P),(107,qS P),(108,kQ P),(109,aDa P),(110,qP P),(111,kQ P),(112,qN P),(113,qM P),(114,qL P),(115,kQ P),(116,aDa P),(117,qI P),(118,kQ P),(119,qG P),(120,qF P),(121,qE P),(122,qD P),(123,qC P),(124,qB P),(125,qA P),(126,qz P),(127,qy P),(128,qx P),(129,qw P),(130,qt P),(131,qr P),(132,kQ P),(133,qp P),(134,qo P),(135,kO P),(136,qm P),(137,ql P),(138,qk P),(139,kQ P),(140,aDa P),(141,vO P),(142,kQ P),(143,vM P),(144,vL P),(145,vK P),(146,kQ P),(147,vI P),(148,vH P),(149,kQ P),(150,vF P),(151,vE P),(152,vD P),(153,vC P),(154,kQ P),(155,aDa P),(156,vy P),(157,kQ P),(158,vu P),(159,kM P),(160,jm P),(161,kQ P),(162,aDa P),(163,vq P),(164,kQ P),(165,vk P),(166,kL P),(167,jl P),(168,kQ P),(169,aDa P),(170,vf P),(171,kQ P),(172,vc P),(173,kK P),(174,ji P),(175,kQ P),(176,aDa P),(177,uY P),(178,kQ P),(179,uW P),(180,kJ P),(181,jh P),(182,kQ P),(183,aDa P),(184,uT P),(185,kQ P),(186,uR P),(187,kH P),(188,jg P),(189,uQ P),(190,kQ P),(191,aDa P),(192,uN P),(193,kQ P),(194,uL P),(195,kG P),(196,gV P),(197,kQ P),(198,aDa P),(199,uI P),(200,kQ P),(201,uG P),(202,kF P),(203,jf P),(204,kQ P),(205,aDa P),(206,uD P),(207,kQ P),(208,uB P),(209,kC P),(210,je P),(211,uA P),(212,kQ P),(213,aDa P),(214,ux P),(215,kQ P),(216,uv P),(217,kB P),(218,kA P),(219,kQ P),(220,aDa P),(221,ur P),(222,kQ P),(223,uo P),(224,um P),(225,ul P),(226,kQ P),(227,aDa P),(228,uf P),(229,kQ P),(230,ud P),(231,uc P),(232,ub P),(233,kQ P),(234,aDa P),(235,tY P),(236,kQ P),(237,tW P),(238,tV P),(239,tU P),(240,tT P),(241,tS P),(242,qh P),(243,tR P),(244,tQ P),(245,tP P),(246,tO P),(247,kQ P),(248,aDa P),(249,At P),(250,kQ P),(251,Ar P),(252,nE P),(253,kz P),(254,Aq P),(255,kQ P),(256,aDa P),(257,An P),(258,kQ P),(259,Al P),(260,nC P),(261,ej P),(262,kQ P),(263,aDa P),(264,Ai P),(265,kQ P),(266,Ag P),(267,nB P),(268,ky P),(269,Af P),(270,kQ P),(271,aDa P),(272,Ad P),(273,kQ P),(274,Ab P),(275,kx P),(276,eh P),(277,kQ P),(278,aDa P),(279,zY P),(280,kQ P),(281,zW P),(282,nw P),(283,ef P),(284,zV P),(285,kQ P),(286,aDa P),(287,zT P),(288,kQ P),(289,zR P),(290,ku P),(291,dU P),(292,kQ P),(293,aDa P),(294,zO P),(295,kQ P),(296,zM P),(297,nr P),(298,gv P),(299,kQ P),(300,aDa P),(301,zJ P),(302,nk P),(303,nj P),(304,kQ P),(305,aDa P),(306,zG P),(307,ni P),(308,fC P),(309,kQ P),(310,aDa P),(311,zD P),(312,ng P),(313,jd P),(314,kQ P),(315,aDa P),(316,zA P),(317,kQ P),(318,zy P),(319,nf P),(320,ee P),(321,kQ P),(322,aDa P),(323,zv P),(324,mZ P),(325,jc P)]
def ls:Env:={ scope:=TP.main.scope,locals:=mainNs,globals:=mainNs,cells:=[],code:=.ref 13,frame:=some 14}
def bT:List Stmt:=behindTheImports TP
def cT:Code:=.body bT ls
def qT:Pos:=⟨0,0,0,0⟩
def gF:Option Value:=some (.ref 6)
def aCk(w:Lz)(os:OsState):topGo fh TP w 11 gF 12 ⟨boot_heap w.params,MD [],MJ,boot_toks,os⟩ (topStub TP) =
  some (SharedT.abs (Oc (sI w.params) vX eU (MD []) MJ sK os),⟨denote fh cT,cT,⟨0,0,0,0⟩,[topFrame qT]⟩):=by
 rw[PySem.W.Fast.te15667345088766844465,PySem.W.Fast.te11892475500146522536]
 kernel_rfl
def aHQ(w:Lz)(os:OsState):segRun fh TP w 11 gF 1 1 (SharedT.abs (Oc (sI w.params) vX eU (MD []) MJ sK os)) (blockOf bT ls cT ⟨0,0,0,0⟩ [topFrame qT]) =
  some (.next,SharedT.abs (Oc (sI w.params) vX eU (MD []) MJ sK os),cT,⟨0,0,0,0⟩):=by
 rw[PySem.W.Fast.te14374325043358763698]
 kernel_rfl
def DH:List Stmt:=(bT.drop 0).take 3
def aCt(w:Lz)(os:OsState):segRunT fh TP w 11 gF 1 362 (Oc (sI w.params) vX eU (MD []) MJ sK os) (piecesOf DH ls cT ⟨0,0,0,0⟩ [topFrame qT]) =
  some (.next,(Oc (Dp w.params) GW eU (MD []) MJ Ds os),cT,⟨5,0,22,54⟩):=by
 rw[NA]
 kernel_rfl
def DG:List Stmt:=(bT.drop 3).take 1
def aCs(w:Lz)(os:OsState):segRunT fh TP w 11 gF 1 1047 (Oc (Dp w.params) GW eU (MD []) MJ Ds os) (piecesOf DG ls cT ⟨5,0,22,54⟩ [topFrame qT]) =
  some (.next,(Oc (Do w.params) GV eU (MD []) MJ Dr os),cT,⟨23,0,65,54⟩):=by
 rw[NA]
 kernel_rfl
def DF:List Stmt:=(bT.drop 4).take 2
def aCr(w:Lz)(os:OsState):segRunT fh TP w 11 gF 1 696 (Oc (Do w.params) GV eU (MD []) MJ Dr os) (piecesOf DF ls cT ⟨23,0,65,54⟩ [topFrame qT]) =
  some (.next,(Oc (Dn w.params) GU eU (MD []) MJ Dq os),cT,⟨70,0,503,16⟩):=by
 rw[NA]
 kernel_rfl
def DE:List Stmt:=(bT.drop 6).take 13
def aCq(w:Lz)(os:OsState):segRunT fh TP w 11 gF 1 437 (Oc (Dn w.params) GU eU (MD []) MJ Dq os) (piecesOf DE ls cT ⟨70,0,503,16⟩ [topFrame qT]) =
  some (.next,(Oc (Dm w.params) AE eU (MD []) MJ iF os),cT,⟨742,0,778,15⟩):=by
 rw[NA]
 kernel_rfl
def aGk(w:Lz)(os:OsState):topRun fh TP w 11 gF 2 (SharedT.abs (Oc (Dm w.params) AE eU (MD []) MJ iF os)) ⟨doneF .next,cT,⟨742,0,778,15⟩,[topFrame qT]⟩ =
  some ⟨ig w.params,MD [],MJ,iF,os⟩:=by
 rw[PySem.W.Fast.te14082659384304107361]
 kernel_rfl
def aHY:bT=DH++(DG++(DF++(DE++[]))):=by kernel_rfl
def mT:Nat:=12+(1+(362+(1047+(696+(437+2)))))
def aBT(w:Lz)(os:OsState):topRun fh TP w 11 gF mT ⟨boot_heap w.params,MD [],MJ,boot_toks,os⟩ (topStub TP) =
  some ⟨ig w.params,MD [],MJ,iF,os⟩:=by
 refine go_top (aCk w os) (piece_block (aHQ w os) ?_)
 show topRun fh TP w 11 gF _ _ (restOf bT ls cT _ [topFrame qT])=_
 rw[aHY]
 exact(piece_app (segRun_of (aCt w os)) (piece_app (segRun_of (aCs w os)) (piece_app (segRun_of (aCr w os)) (piece_app (segRun_of (aCq w os)) (piece_nil (aGk w os))))))
def qV:Ll:={ TP with main:={ TP.main with body:=[aq 18]} }
def kT:List Str:=[KX "_wall",KX "_tuplegetter",KX "Match",KX "_calculate_ratio",KX "SequenceMatcher",KX "_format_range_unified",KX "unified_diff",KX "_format_range_context",KX "context_diff",KX "_check_types",KX "diff_bytes",KX "_law_pull",KX "_law_rows",KX "_law_due",KX "_law_octets",KX "_law_step"]
def Jc:List LP:=(List.range AE)
def KO:KS->Frag:=aIj
def aH5(P:KS):Jc=(KO P).map (·.1):=by kernel_rfl
def eV:Hook:=kHook KO Jc aH5
def NT:Nat:=6000
def aCI:∀w:Lz,(fencedOpening treeTable TP w NT).map (λs=>(s.heap,s.gens,s.drawn,s.toks))=some (boot_heap w.params,MD [],MJ,boot_toks):=boot_open (by kernel_rfl) (by kernel_rfl) (λs=>by kernel_rfl)
def aBA:∀w:Lz,((boot_heap w.params).isNs ML&&(MD []:Array NZ).size==0,(boot_heap w.params).objs.size,(boot_heap w.params).nsMap ML "__annotations__")=(true,11,gF):=by
 intro w
 kernel_rfl
def aEm:Nat.ble mT NT=true:=by kernel_rfl
def aD4(w:Lz)(os:OsState):(staticsOk (importedModules TP.main.body) (boot_heap w.params) (ig w.params)&&namesBound TP (ig w.params)&&gensDone ⟨ig w.params,MD [],MJ,iF,os⟩&&laidKept (boot_heap w.params) (ig w.params))=true:=by
 kernel_rfl
def aD3(w:Lz)(os:OsState):openSeen qV kT (importedModules TP.main.body) (λO=>true) true ⟨ig w.params,MD [],MJ,iF,os⟩=openGood qV kT:=by
 rw[PySem.W.Fast.te4187177175401517315]
 kernel_rfl
def aD2(w:Lz)(os:OsState):eV.obs ⟨ig w.params,MD [],MJ,iF,os⟩=eV.val w:=by
 kernel_rfl
def aEk:LeftO TP qV kT (λO=>true) eV.obs eV.val NT:=by
 refine LeftO.of_pieces (H₁:=ig) (gs₁:=MD []) (d₁:=MJ) (k₁:=iF) aCI aBA (λw os=>?_) aEm (λw=>?_)
 ·rw[aAY]
  exact aBT w os
 ·funext os
  rw[aD4,aD3,aD2]
end
section
open PySem PySem.W PyProof.Rows
set_option backward.match.sparseCases false in
def aCl:Stmt->Pos
 |.FunctionDef _ _ _ _ _ _ _ _ _ p=>p
 |_=>⟨0,0,0,0⟩
def hM:DefRec:=⟨KX "law",rL (aq 18),aI (aq 18),gN (aq 18),aCl (aq 18)⟩
def aGX:defOf qV (KX "law")=Wu (hM,[]):=by kernel_rfl
def aEl:LeftO PySem.Challenge.pw_dm0049_05 qV kT (λO=>Ww) eV.obs eV.val NT:=by
 rw[sJ]
 exact aEk
def aAW:PySem.Challenge.pw_dm0049_05.theDef (KX "law")=Wu (hM.params,hM.body,hM.scope):=by
 rw[sJ]
 kernel_rfl
def aC1:(chainsOk qV&&opensWell PySem.Challenge.pw_dm0049_05&&(frees PySem.Challenge.rw_dm0049_05.row.toRowW&&PySem.Challenge.rw_dm0049_05.row.toRowW.within.isEmpty))=Ww:=by
 rw[sJ]
 kernel_rfl
def aBR:OpenLaw.wellSaid PySem.Challenge.rw_dm0049_05=Ww:=by
 delta PySem.Challenge.rw_dm0049_05
 rw[sJ]
 kernel_rfl
def aE5(walk:WalkO qV kT (λO O=>True) eV.says PySem.Challenge.rw_dm0049_05.row.toRowW hM [] (λf vs=>PySem.call f vs)):PySem.Challenge.rw_dm0049_05.Holds:=by
 refine holds_law aBR λa=>?_
 refine PySem.W.holds_open (q:=qV) (loose:=kT) (Xt:=λO=>Ww) (XP:=λO O=>True) (Yf:=eV.obs) (Ya:=eV.val) (YP:=eV.says) (N:=NT) (d:=hM) (kwd:=[])
  aEl eV.of eV.keeps (λO O=>trivial) (λO O O O O=>trivial) aGX aAW (by kernel_rfl) (λs O=>recFacts_of (by kernel_rfl)) (by kernel_rfl) a aC1 ⟨rfl,rfl,rfl,rfl,rfl,by decide +kernel⟩ ?hw walk
 w_witness2
end
def cP:Option (Option Str)->Value->Bool
 |none=>λv=>match v with |.none=>Ww |_=>Wx
 |some Wv=>Value.isInt 7
 |some (Wu x)=>SN x
set_option genCtorIdx false in set_option genSizeOf false in
inductive AV where
 |none
 |bool (b:Bool)
 |int (i:Int)
 |str (s:Str)
 |bytes (b:Array UInt8)
 |typ (n:String)
 |blt (id:String)
 |ref (a:LP)
 |tup (W:List AV)
 |lst (W:List AV)
 |mat (c:LP) (W:List AV)
 |bm (id:String) (self:AV)
 |inst (c d:LP)
 |rng (a b:Int)
 |ln (x:Option (Option Str))
 |any
 deriving Inhabited
def AV.ctorIdx(x:AV):Nat:=by cases x;exact 0;exact 1;exact 2;exact 3;exact 4;exact 5;exact 6;exact 7;exact 8;exact 9;exact 10;exact 11;exact 12;exact 13;exact 14;exact 15
set_option backward.match.sparseCases false in
def AV.isAny:AV->Bool
 |.any=>Ww
 |_=>Wx
abbrev eb:=LP->Option Obj
mutual
inductive Val (Z:eb):AV->Value->Prop
 |none:Val Z .none .none
 |bool (b:Bool):Val Z (.bool b) (.bool b)
 |int (i:Int) (t:Tok):Val Z (.int i) (.int i t)
 |str (x:Str) (t:Tok):Val Z (.str x) (.str x t)
 |bytes (b:Array UInt8) (t:Tok):Val Z (.bytes b) (.bytes b t)
 |typ (n:String):Val Z (.typ n) (.type n)
 |blt (n:String):Val Z (.blt n) (.builtin n)
 |ref (a:LP):Val Z (.ref a) (.ref a)
 |tup {a:LP} {W:List AV} {items:List Value} {n:Nat}:Z a=Wu {cls:=.type "tuple",data:=.seq items.toArray n}->Vals Z W items->Val Z (.tup W) (.ref a)
 |lst {a:LP} {W:List AV} {items:List Value} {n:Nat}:Z a=Wu {cls:=.type "list",data:=.seq items.toArray n}->Vals Z W items->Val Z (.lst W) (.ref a)
 |mat {a c d:LP} {W:List AV} {items:List Value} {n:Nat}:Z a=Wu {cls:=.ref c,dict:=Wu d,data:=.seq items.toArray n}->Vals Z W items->Val Z (.mat c W) (.ref a)
 |bm {a:LP} {id:String} {self:AV} {v:Value}:Z a=Wu {cls:=.type "builtin_function_or_method",data:=.fields #[.builtin id,v]}->Val Z self v->Val Z (.bm id self) (.ref a)
 |inst {a c d:LP}:Z a=Wu {cls:=.ref c,dict:=Wu d,data:=.plain}->Val Z (.inst c d) (.ref a)
 |rng {r:LP} {a b:Int} {t u v:Tok}:Z r=Wu {cls:=.type "range",dict:=Wv,data:=.fields #[.int a t,.int b u,.int 1 v],slots:=#[]}->Val Z (.rng a b) (.ref r)
 |ln {x:Option (Option Str)} {v:Value}:cP x v=Ww->Val Z (.ln x) v
 |any (x:Value):Val Z .any x
inductive Vals (Z:eb):List AV->List Value->Prop
 |nil:Vals Z [] []
 |cons {x:AV} {v:Value} {W:List AV} {vs:List Value}:Val Z x v->Vals Z W vs->Vals Z (x::W) (v::vs)
end
def VI(Z:eb)(x:Value):AV->Prop
 |.none=>x=.none
 |.bool b=>x=.bool b
 |.int i=>∃t,x=.int i t
 |.str y=>∃t,x=.str y t
 |.bytes y=>∃t,x=.bytes y t
 |.typ n=>x=.type n
 |.blt n=>x=.builtin n
 |.ref a=>x=.ref a
 |.tup W=>∃a e n,x=.ref a/\Z a=Wu {cls:=.type "tuple",data:=.seq (List.toArray e) n}/\Vals Z W e
 |.lst W=>∃a e n,x=.ref a/\Z a=Wu {cls:=.type "list",data:=.seq (List.toArray e) n}/\Vals Z W e
 |.mat c W=>∃a d e n,x=.ref a/\Z a=Wu {cls:=.ref c,dict:=Wu d,data:=.seq (List.toArray e) n}/\Vals Z W e
 |.bm id j=>∃a v,x=.ref a/\Z a=Wu {cls:=.type "builtin_function_or_method",data:=.fields #[.builtin id,v]}/\Val Z j v
 |.inst c d=>∃a,x=.ref a/\Z a=Wu {cls:=.ref c,dict:=Wu d,data:=.plain}
 |.rng a b=>∃r t u v,x=.ref r/\Z r=Wu {cls:=.type "range",dict:=Wv,data:=.fields #[.int a t,.int b u,.int 1 v],slots:=#[]}
 |.ln y=>cP y x=Ww
 |.any=>True
def Val.inv{Z:eb}{v:AV}{x:Value}(h:Val Z v x):VI Z x v:=Val.casesOn (motive_1:=λv x O=>VI Z x v) h rfl (λO=>rfl) (λO t=>⟨t,rfl⟩) (λO t=>⟨t,rfl⟩) (λO t=>⟨t,rfl⟩) (λO=>rfl) (λO=>rfl) (λO=>rfl) (λe v=>⟨_,_,_,rfl,e,v⟩) (λe v=>⟨_,_,_,rfl,e,v⟩)
  (λe v=>⟨_,_,_,_,rfl,e,v⟩) (λe v=>⟨_,_,rfl,e,v⟩) (λe=>⟨_,rfl,e⟩) (λe=>⟨_,_,_,_,rfl,e⟩) (λh=>h) (λO=>⟨⟩)
section
variable{Z:eb}{P:Value->Prop}
def Val.eNone(k:P .none)(x:Value)(h:Val Z .none x):P x:=(show _=_ from h.inv)▸k
def Val.eBool{b:Bool}(k:P (.bool b))(x:Value)(h:Val Z (.bool b) x):P x:=(show _=_ from h.inv)▸k
def Val.eInt{i:Int}(k:∀t,P (.int i t))(x:Value)(h:Val Z (.int i) x):P x:=al h.inv λt e=>e▸k t
def Val.eStr{y:Str}(k:∀t,P (.str y t))(x:Value)(h:Val Z (.str y) x):P x:=al h.inv λt e=>e▸k t
def Val.eBytes{y:Array UInt8}(k:∀t,P (.bytes y t))(x:Value)(h:Val Z (.bytes y) x):P x:=al h.inv λt e=>e▸k t
def Val.eTyp{n:String}(k:P (.type n))(x:Value)(h:Val Z (.typ n) x):P x:=(show _=_ from h.inv)▸k
def Val.eRef{a:LP}(k:P (.ref a))(x:Value)(h:Val Z (.ref a) x):P x:=(show _=_ from h.inv)▸k
def Val.eLst{W:List AV}(k:∀a items n,Z a=Wu {cls:=.type "list",data:=.seq (List.toArray items) n}->Vals Z W items->P (.ref a))(x:Value)(h:Val Z (.lst W) x):P x:=bL h.inv λa i n e g v=>e▸k a i n g v
end
open Val renaming eInt→oz
open Val renaming eStr→c2
open Val renaming eRef→l6
def aE3{Z:eb}{y:Str}{x:Value}(h:Val Z (.str y) x):∃t,x=.str y t:=h.inv
def oh{Z:eb}{W:List AV}{x:Value}(h:Val Z (.tup W) x):∃a items n,x=.ref a/\Z a=Wu {cls:=.type "tuple",data:=.seq (List.toArray items) n}/\Vals Z W items:=h.inv
def rA{Z:eb}{W:List AV}{x:Value}(h:Val Z (.lst W) x):∃a items n,x=.ref a/\Z a=Wu {cls:=.type "list",data:=.seq (List.toArray items) n}/\Vals Z W items:=h.inv
def Bb{Z:eb}{c:LP}{W:List AV}{x:Value}(h:Val Z (.mat c W) x):∃a d items n,x=.ref a/\Z a=Wu {cls:=.ref c,dict:=Wu d,data:=.seq (List.toArray items) n}/\Vals Z W items:=h.inv
def Bd{Z:eb}{id:String}{d:AV}{x:Value}(h:Val Z (.bm id d) x):∃a v,x=.ref a/\Z a=Wu {cls:=.type "builtin_function_or_method",data:=.fields #[.builtin id,v]}/\Val Z d v:=h.inv
def Bc{Z:eb}{c d:LP}{x:Value}(h:Val Z (.inst c d) x):∃a,x=.ref a/\Z a=Wu {cls:=.ref c,dict:=Wu d,data:=.plain}:=h.inv
def aE4{Z:eb}{a b:Int}{x:Value}(h:Val Z (.rng a b) x):∃r t u v,x=.ref r/\Z r=Wu {cls:=.type "range",dict:=Wv,data:=.fields #[.int a t,.int b u,.int 1 v],slots:=#[]}:=h.inv
def Jk(Z:eb)(W:List Value):List AV->Prop
 | []=>W=[]
 |a::as=>∃y ys,W=y::ys/\Val Z a y/\Vals Z as ys
def Vals.inv{Z:eb}{vs:List AV}{W:List Value}(h:Vals Z vs W):Jk Z W vs:=Vals.casesOn (motive_2:=λv x O=>Jk Z x v) h rfl λh t=>⟨_,_,rfl,h,t⟩
def Vals.un{Z:eb}{a:AV}{as:List AV}{P:List Value->Prop}(k:∀x,Val Z a x->∀ys,Vals Z as ys->P (x::ys))(W:List Value)(h:Vals Z (a::as) W):P W:=bA h.inv λy ys e h t=>e▸k y h ys t
open Vals renaming un→om
def Vals.un0{Z:eb}{P:List Value->Prop}(k:P [])(W:List Value)(h:Vals Z [] W):P W:=(show _=_ from h.inv)▸k
open Vals renaming un0→Zq
def Vals.un2{Z:eb}{a b:AV}{P:List Value->Prop}(k:∀x,Val Z a x->∀y,Val Z b y->P [x,y])(W:List Value)(h:Vals Z [a,b] W):P W:=om (P:=P) (λx e=>om λy d=>Zq (k x e y d)) W h
def Vals.un3{Z:eb}{a b c:AV}{P:List Value->Prop}(k:∀x,Val Z a x->∀y,Val Z b y->∀z,Val Z c z->P [x,y,z])(W:List Value)(h:Vals Z [a,b,c] W):P W:=om (P:=P) (λx d=>Vals.un2 (k x d)) W h
def eb.le(Z d:eb):Prop:=∀a o,Z a=Wu o->d a=Wu o
def eb.le.refl(Z:eb):eb.le Z Z:=λO O e=>e
def eb.le.trans{Z d XU:eb}(x:eb.le Z d)(y:eb.le d XU):eb.le Z XU:=λa o e=>y a o (x a o e)
def Val.mono{Z a:eb}(k:eb.le Z a){v:AV}{x:Value}(h:Val Z v x):Val a v x:=Val.rec (motive_1:=λv x O=>Val a v x) (motive_2:=λv x O=>Vals a v x) .none .bool .int .str .bytes .typ .blt .ref (λe O => .tup (k _ _ e)) (λe O => .lst (k _ _ e))
  (λe O => .mat (k _ _ e)) (λe O => .bm (k _ _ e)) (λe => .inst (k _ _ e)) (λe => .rng (k _ _ e)) .ln .any .nil (λO O => .cons) h
def Vals.mono{Z a:eb}(k:eb.le Z a){v:List AV}{x:List Value}(h:Vals Z v x):Vals a v x:=Vals.rec (motive_1:=λv x O=>Val a v x) (motive_2:=λv x O=>Vals a v x) .none .bool .int .str .bytes .typ .blt .ref (λe O => .tup (k _ _ e)) (λe O => .lst (k _ _ e))
  (λe O => .mat (k _ _ e)) (λe O => .bm (k _ _ e)) (λe => .inst (k _ _ e)) (λe => .rng (k _ _ e)) .ln .any .nil (λO O => .cons) h
def Vals.ind{Z:eb}{P:List AV->List Value->Prop}(n:P [] [])(c:∀ {x v W vs},Val Z x v->Vals Z W vs->P W vs->P (x::W) (v::vs)){W:List AV}{vs:List Value}(h:Vals Z W vs):P W vs:=Vals.rec (motive_1:=λO O O=>True) (motive_2:=λx v O=>P x v) ⟨⟩ (λO=>⟨⟩) (λO O=>⟨⟩) (λO O=>⟨⟩) (λO O=>⟨⟩) (λO=>⟨⟩) (λO=>⟨⟩) (λO=>⟨⟩) (λO O O=>⟨⟩) (λO O O=>⟨⟩)
  (λO O O=>⟨⟩) (λO O O=>⟨⟩) (λO=>⟨⟩) (λO=>⟨⟩) (λO=>⟨⟩) (λO=>⟨⟩) n (λh t O=>c h t) h
def Vals.length{Z:eb}{W:List AV}{vs:List Value}(h:Vals Z W vs):vs.length=W.length:=h.ind (P:=λW vs=>vs.length=W.length) rfl λO O=>congrArg Nat.succ
def Vals.size{Z:eb}{W:List AV}{items:Array Value}(h:Vals Z W items.toList):items.size=W.length:=MH.symm.trans h.length
def Vals.append{Z:eb}{W ys:List AV}{vs us:List Value}(h:Vals Z W vs)(h':Vals Z ys us):Vals Z (W++ys) (vs++us):=h.ind (P:=λW vs=>Vals Z (W++ys) (vs++us)) h' λh O => .cons h
def Vals.get{Z:eb}{W:List AV}{vs:List Value}(h:Vals Z W vs):∀ {i:Nat} {x:AV},W[i]?=Wu x->∃v,vs[i]?=Wu v/\Val Z x v:=h.ind (P:=λW vs=>∀ {i:Nat} {x:AV},W[i]?=Wu x->∃v,vs[i]?=Wu v/\Val Z x v) nofun fun{x v _ _} h _ t i y e =>
  match i with
  |0=>cL _ rfl (No e▸h)
  |_+1=>t e
def Vals.take{Z:eb}{W:List AV}{vs:List Value}(h:Vals Z W vs):∀n,Vals Z (W.take n) (vs.take n):=h.ind (P:=λW vs=>∀n,Vals Z (W.take n) (vs.take n)) (λ|0 => .nil |_+1 => .nil) λh O t n =>
  match n with
  |0 => .nil
  |n+1 => .cons h (t n)
def Vals.drop{Z:eb}{W:List AV}{vs:List Value}(h:Vals Z W vs):∀n,Vals Z (W.drop n) (vs.drop n):=h.ind (P:=λW vs=>∀n,Vals Z (W.drop n) (vs.drop n)) (λ|0 => .nil |_+1 => .nil) λh a t n =>
  match n with
  |0 => .cons h a
  |n+1=>t n
set_option genCtorIdx false in set_option genSizeOf false in
inductive el where
 |list (W:List AV)
 |ns (m:List (Str×AV))
 |gen (g:Nat) (gs:NZ)
 |raw (o:Obj)
 |obj (P:eb->Obj->Prop) (mono:∀Z Z' o,eb.le Z Z'->P Z o->P Z' o)
def el.ctorIdx(x:el):Nat:=by cases x;exact 0;exact 1;exact 2;exact 3;exact 4
abbrev aa:=List (LP×el)
inductive ix (Z:eb):Option AV->Option Value->Prop
 |none:ix Z .none .none
 |some {v:AV} {x:Value}:Val Z v x->ix Z (.some v) (.some x)
 |any {x:Option Value}:ix Z (.some .any) x
def ix.mono{Z a:eb}(k:eb.le Z a){v:Option AV}{x:Option Value}(h:ix Z v x):ix a v x:=ix.casesOn (motive:=λv x O=>ix a v x) h .none (λh => .some (h.mono k)) .any
def JX(Z:eb)(x:Option Value):Option AV->Prop
 |.none=>x=.none
 |.some v=>v.isAny=Ww\/∃y,x=.some y/\Val Z v y
def ix.inv{Z:eb}{v:Option AV}{x:Option Value}(h:ix Z v x):JX Z x v:=ix.casesOn (motive:=λv x O=>JX Z x v) h rfl (λh => .inr ⟨_,rfl,h⟩) (.inl rfl)
def ix.val{Z:eb}{v:AV}{x:Option Value}(h:ix Z (.some v) x)(a:v.isAny=Wx):∃y,x=.some y/\Val Z v y:=h.inv.resolve_left λe=>Qs (a.symm.trans e)
def pl(Z:eb)(h:Heap)(a:LP)(m:List (Str×AV)):Prop:=∃f,h.Ns a f/\∀x,ix Z (m.lookup x) (f x)
def pl.mono{Z d:eb}{h h':Heap}{a:LP}{m:List (Str×AV)}(k:eb.le Z d)(e:∀o,h.get? a=Wu o->h'.get? a=Wu o)(x:pl Z h a m):pl d h' a m:=x.imp λO h=>⟨h.1.at' e,λy=>(h.2 y).mono k⟩
open pl renaming mono→n6
def Holds(Z:eb)(s:KY)(a:LP):el->Prop
 |.list W=>∃d n,s.heap.get? a=Wu {cls:=.type "list",data:=.seq d n}/\Vals Z W d.toList
 |.ns m=>pl Z s.heap a m
 |.gen g e=>s.heap.IsGen a g/\s.gens[g]?=Wu e
 |.raw o=>s.heap.get? a=Wu o
 |.obj P _=>∃o,s.heap.get? a=Wu o/\P Z o
def el.gnum:el->Option Nat
 |.gen g _=>Wu g
 |_=>Wv
def Holds.mono{Z d:eb}{s s':KY}{a:LP}{o:el}(k:eb.le Z d)(e:∀o,s.heap.get? a=Wu o->s'.heap.get? a=Wu o)
  (z:∀g gs,o.gnum=Wu g->s.gens[g]?=Wu gs->s'.gens[g]?=Wu gs) (x:Holds Z s a o):Holds d s' a o:=by
 cases o with
 |list W=>refine bG x λi n g v=>?_;clear x;exact eY i n (e _ g) (v.mono k)
 |ns m=>exact n6 k e x
 |gen g gs =>
  refine aD x λE y=>?_;clear x;obtain⟨o,l,j,u,r⟩:=E
  exact⟨⟨o,l,j,e _ u,r⟩,z g gs rfl y⟩
 |raw o=>exact e _ x
 |obj P m=>refine ag x λo h p=>?_;clear x;exact cL o (e _ h) (m _ _ _ k p)
open Holds renaming mono→n0
def Holds.live{Z:eb}{s:KY}{a:LP}{o:el}(x:Holds Z s a o):∃ob,s.heap.get? a=Wu ob:=by
 cases o with
 |list W=>refine bG x λi n g v=>?_;clear x;exact⟨_,g⟩
 |ns m=>refine ag x λf e O=>?_;clear x;obtain⟨ob,_,_,g,_⟩:=e;exact⟨_,g⟩
 |gen g u=>refine aD x λj y=>?_;clear x;obtain⟨o,l,k,d,r⟩:=j;exact⟨_,d⟩
 |raw o=>exact⟨_,x⟩
 |obj P m=>refine ag x λo h p=>?_;clear x;exact⟨o,h⟩
set_option genSizeOf false in
structure St where
 loc:List (Str×AV)
 led:aa
abbrev keys(l:aa):List LP:=l.map (·.1)
abbrev gkeys(l:aa):List Nat:=l.filterMap λp=>p.2.gnum
def aDu{l:aa}{p:LP×el}{g:Nat}(h:p∈l)(e:p.2.gnum=Wu g):g∈gkeys l:=RF.mpr ⟨p,h,e⟩
structure ca (B:eb) (s:KY) (Z:eb) (Y:aa):Prop where
 base:eb.le B Z
 frozen:∀a o,Z a=Wu o->s.heap.get? a=Wu o
 nodup:(keys Y).Nodup
 apart:∀p∈Y,Z p.1=Wv
 own:∀p∈Y,Holds Z s p.1 p.2
 gnodup:(gkeys Y).Nodup
 bare:∀x∈s.gens,x.bare=Ww
structure ff (B:eb) (z:Env) (s:KY) (Z:eb) (V:St):Prop extends ca B s Z V.led where
 locZ:Z z.locals=Wv
 locL:z.locals∉keys V.led
 loc:pl Z s.heap z.locals V.loc
 kinds:∀x v,V.loc.lookup x=Wu v->z.kindOf x=Wu .local
 fn:z.scope.kind=.function
set_option genSizeOf false in set_option genInjectivity false in
structure vn where
 at_:LP->Prop
 gn:Nat->Prop
structure hO (d9:vn) (s:KY) (Z:eb) (s':KY) (Z':eb) (Xw:vn):Prop where
 le:eb.le Z Z'
 kept:∀a o,s.heap.get? a=Wu o -> ¬ d9.at_ a->s'.heap.get? a=Wu o
 grow:∀a,Xw.at_ a->d9.at_ a\/s.heap.get? a=Wv
 zgrow:∀a o,Z' a=Wu o->Z a=Wu o\/d9.at_ a\/s.heap.get? a=Wv
 os:s'.os=s.os
 gkept:∀g gs,s.gens[g]?=Wu gs -> ¬ d9.gn g->s'.gens[g]?=Wu gs
 ggrow:∀g,Xw.gn g->d9.gn g\/s.gens[g]?=Wv
def hO.refl{d9:vn}{s:KY}{Z:eb}:hO d9 s Z s Z d9:=⟨.refl _,λO O e O=>e,λO h => .inl h,λO O e => .inl e,rfl,λO O e O=>e,λO h => .inl h⟩
def hO.trans{i l d:vn}{c5 k j:KY}{s r p:eb}(x:hO i c5 s k r l)(y:hO l k r j p d):hO i c5 s j p d where
 le:=x.le.trans y.le
 kept:=λa o e h=>y.kept a o (x.kept a o e h) λh'=>(x.grow a h').elim h λn=>by rw[e] at n;cases n
 grow:=λa h=>by
  rcases y.grow a h with h' |h'
  ·exact x.grow a h'
  ·by_cases q:i.at_ a
   ·exact .inl q
   ·right
    cases e:c5.heap.get? a with
    |none=>rfl
    |some o=>rw[x.kept a o e q] at h';cases h'
 zgrow:=λa o e=>by
  rcases y.zgrow a o e with h |h |h
  ·exact x.zgrow a o h
  ·exact .inr (x.grow a h)
  ·by_cases q:i.at_ a
   ·exact .inr (.inl q)
   ·refine .inr (.inr ?_)
    cases u:c5.heap.get? a with
    |none=>rfl
    |some o=>rw[x.kept a o u q] at h;cases h
 os:=y.os.trans x.os
 gkept:=λa o e h=>y.gkept a o (x.gkept a o e h) λh'=>(x.ggrow a h').elim h λn=>by rw[e] at n;cases n
 ggrow:=λa h=>by
  rcases y.ggrow a h with h' |h'
  ·exact x.ggrow a h'
  ·by_cases q:i.gn a
   ·exact .inl q
   ·right
    cases e:c5.gens[a]? with
    |none=>rfl
    |some o=>rw[x.gkept a o e q] at h';cases h'
def ay(z:Env)(V:St):vn:=⟨λa=>a=z.locals\/a∈keys V.led,(· ∈ gkeys V.led)⟩
def aj(Y:aa):vn:=⟨(· ∈ keys Y),(· ∈ gkeys Y)⟩
variable {w:Lz}{A:Lk}{s:KY}{B Z:eb}{z:Env}{a9:Pos}{K R:AV->St->Prop}{n k i j da p b_ dg e9:Nat}{v u:AV}{a6 kw f8 l G ft:List (Str×AV)}{W ys:List AV}{a it d:LP}{x name y:Str}{α β:Type}{E Q:Value->KY->Prop}{ap iter d7 c8:Expr}{c6 rest:List Stmt}{g4:List Env}{o:Obj}{as:List LP}{jb qu:List Expr}{e:Nat->Nat->Bool}{vs:List Value}{J:List (Str×AV)->Prop}{cl:List (Str×LP)}{r:List (Str×Value)}
def HQ(B:eb)(z:Env)(e:eb->α->β->Prop)(V:St)(K:α->St->Prop)(s:KY)(Z:eb)(Q:β->KY->Prop):Prop:=∀v x d i a,K v a->ff B z d i a->e i v x->hO (ay z V) s Z d i (ay z a)->Q x d
def T(w:Lz)(A:Lk)(B:eb)(z:Env)(a:eb->α->β->Prop)(t:Sem β)(V:St)(K:α->St->Prop):Prop:=∀(s:KY) (Z:eb),ff B z s Z V->∀(Q:β->KY->Prop) (E:Value->KY->Prop),
  HQ B z a V K s Z Q->LC (Ly ab w) A t Q E s
set_option genCtorIdx false in set_option genSizeOf false in set_option genInjectivity false in
inductive dr where
 |next |brk |cont
 |ret (v:AV)
def dr.ctorIdx(x:dr):Nat:=by cases x;exact 0;exact 1;exact 2;exact 3
inductive fv (Z:eb):dr->Flow->Prop
 |next:fv Z .next .next
 |brk:fv Z .brk .brk
 |cont:fv Z .cont .cont
 |ret {v:AV} {x:Value}:Val Z v x->fv Z (.ret v) (.ret x)
def aM(_:eb)(b c:Bool):Prop:=c=b
def aQ(_:eb)(_ _:Unit):Prop:=True
def F1(w:Lz)(A:Lk)(B:eb)(z:Env)(a:eb->α->β->Prop)(f:Value->Sem β)(v:AV)(V:St)(K:α->St->Prop):Prop:=∀(s:KY) (Z:eb) (x:Value),Val Z v x->ff B z s Z V->∀(Q:β->KY->Prop) (E:Value->KY->Prop),
  HQ B z a V K s Z Q->LC (Ly ab w) A (f x) Q E s
def F2(w:Lz)(A:Lk)(B:eb)(z:Env)(a:eb->α->β->Prop)(f:Value->Value->Sem β)(j i:AV)(V:St)(K:α->St->Prop):Prop:=∀(s:KY) (Z:eb) (e d:Value),Val Z j e->Val Z i d->ff B z s Z V->∀(Q:β->KY->Prop) (E:Value->KY->Prop),
  HQ B z a V K s Z Q->LC (Ly ab w) A (f e d) Q E s
def ec{c:Prop}[Decidable c]{a:Sem α}{Q:α->KY->Prop}(h : ¬ c)(k:LC M A b Q E s):LC M A (if c then a else b) Q E s:=by rw[if_neg h];exact k
def lO{c:Prop}[Decidable c]{a:Sem α}{Q:α->KY->Prop}(h:c)(k:LC M A a Q E s):LC M A (if c then a else b) Q E s:=by rw[if_pos h];exact k
def F1.of{K:α->St->Prop}
  (h:∀s Z,ff B z s Z V->∀Q E,HQ B z b V K s Z Q->∀x,Val Z v x->LC (Ly ab w) A (f x) Q E s):F1 w A B z b f v V K:=λs Z x H S Q E a=>h s Z S Q E a x H
def F2.of{K:α->St->Prop}
  (h:∀s Z,ff B z s Z V->∀Q E,HQ B z b V K s Z Q->∀x,Val Z v x->∀y,Val Z u y->LC (Ly ab w) A (f x y) Q E s):F2 w A B z b f v u V K:=λs Z x y H U S Q E a=>h s Z S Q E a x H y U
open F2 renaming of→l8
def ff.toks(h:ff B z s Z V)(tk:Nat):ff B z {s with toks:=tk} Z V:=⟨⟨h.base,h.frozen,h.nodup,h.apart,λp a=>(h.own p a).mono (.refl _) (λO e=>e) λO O O e=>e,h.gnodup,h.bare⟩,h.locZ,h.locL,h.loc,h.kinds,h.fn⟩
def hO.toks(tk:Nat):hO d9 s Z {s with toks:=tk} Z d9:=⟨.refl _,λO O e O=>e,λO h => .inl h,λO O e => .inl e,rfl,λO O e O=>e,λO h => .inl h⟩
def T.mono{K:α->St->Prop}(h:T w A B z b t V K)(k:∀v di,K v di->K' v di):T w A B z b t V K':=λs Z S Q E e=>h s Z S Q E λv x a i di d=>e v x a i di (k v di d)
def Jx{i:Int}(h:K (.int i) V):T w A B z Val (ME (.Constant (.int i) k a9) z) V K:=λs Z S Q E a=>wpAny_Constant_int (a _ _ _ Z V h (S.toks _) (.int _ _) (.toks _))
def BY(h:K (.str x) V):T w A B z Val (ME (.Constant (.str x) k a9) z) V K:=λs Z S Q E a=>NK (a _ _ _ Z V h (S.toks _) (.str _ _) (.toks _))
def aIM{x:List UInt8}(h:K (.bytes x.toArray) V):T w A B z Val (ME (.Constant (.bytes x) k a9) z) V K:=λs Z S Q E a=>(λO O O=>a _ (.bytes x.toArray s.toks) {s with toks:=s.toks+1} Z V h (S.toks _) (.bytes _ _) (.toks _))
def jB(h:K .none V):T w A B z Val (ME (.Constant .none k a9) z) V K:=λs Z S Q E a=>KN (a _ _ s Z V h S .none .refl)
def aIN{b:Bool}(h:K (.bool b) V):T w A B z Val (ME (.Constant (.bool b) k a9) z) V K:=λs Z S Q E a=>KN (a _ _ s Z V h S (.bool b) .refl)
def lE(hx:a6.lookup x=Wu v)(h:K v ⟨a6,Y⟩)
  (k:(x==("__debug__" : Str))=Wx) (a:v.isAny=Wx):T w A B z Val (ME (.Name x a9) z) ⟨a6,Y⟩ K:=λs Z S Q E l =>
 ag S.loc λf j i=>ag (ix.val (hx▸i x) a) λu d e=>wpAny_Name (wpAny_loadName_local S.fn (S.kinds x v hx) j d (l v u s Z ⟨a6,Y⟩ h S e .refl)) k
def JK{l r:Expr}
  (h:T w A B z Val (ME l z) V λj fI=>T w A B z Val (ME r z) fI λi ia=>F2 w A B z Val (Ph b) j i ia K):T w A B z Val (ME (.BinOp l b r a9) z) V K:=λs Z S Q E G =>
 wpAny_BinOp (h s Z S _ _ λj p c5 R fI d m f Y=>d c5 R m _ _ λi o u J ia a g c n =>
  a u J p o (f.mono n.le) c g _ _ λv x y W e k q H X=>G v x y W e k q H ((Y.trans n).trans X))
def JF{l r:Expr}
  (h:T w A B z Val (ME l z) V λj fI=>T w A B z Val (ME r z) fI λi ia=>F2 w A B z Val (NE b) j i ia K)
  (G:Ry b r=Wx):T w A B z Val (ME (.Compare l [b] [r] a9) z) V K:=λs Z S Q E J =>
 wpAny_Compare1 (h s Z S _ _ λj p c5 W fI d q g c=>d c5 W q _ _ λi o u R ia a m f n =>
  a u R p o (g.mono n.le) f m _ _ λv x y Y e k t H X=>J v x y Y e k t H ((c.trans n).trans X)) G
def lF{l r:Expr}{K:Bool->St->Prop}
  (h:T w A B z Val (ME l z) V λo fI=>T w A B z Val (ME r z) fI λn ia=>F2 w A B z Val (NE b) o n ia λc a=>F1 w A B z aM truthy c a K)
  (Y:Ry b r=Wx):T w A B z aM (isTrue (.Compare l [b] [r] a9) z whole) V K:=λs Z S Q E f =>
 wpAny_isTrue_Compare1 (h s Z S _ _ λo G c5 q fI i U M D=>i c5 q U _ _ λn y R m ia e P L p =>
  e R m G y (M.mono p.le) L P _ _ λv3 u J g a d N F C=>d J g u F N _ _ λv x W t j k S' H X=>f v x W t j k S' H (((D.trans p).trans C).trans X)) Y
def rR{e:Expr}{K:Bool->St->Prop}(h:T w A B z Val (ME e z) V λv fI=>F1 w A B z aM truthy v fI K)
  (l:isTrue e z (ME e z)=(do let v <-ME e z;PM e.pos;Ol [v] (truthy v))):T w A B z aM (isTrue e z (ME e z)) V K:=λs Z S Q E n =>
 wpAny_isTrue_value (h s Z S _ _ λJ i c5 o fI a y u r=>a c5 o i u y _ _ λv x j p d k G H X=>n v x j p d k G H (r.trans X)) l
def aI1{x:Expr}{K:Bool->St->Prop}(h:T w A B z aM (isTrue x z (ME x z)) V λb di=>K (!b) di):T w A B z aM (isTrue (.UnaryOp .Not x a9) z whole) V K:=λs Z S Q E d =>
 wpAny_isTrue_Not (h s Z S _ _ λb c a e di k i H X=>d (!b) (!c) a e di k i (by unfold aM at H ⊢;rw[H]) X)
def aI3{K:Bool->St->Prop}(h:K Ww V):T w A B z aM (SG .And [] z) V K:=λs Z S Q E a=>wpAny_allTrue_And_nil (a Ww Ww s Z V h S rfl .refl)
def aIZ{K:Bool->St->Prop}(h:K Wx V):T w A B z aM (SG .Or [] z) V K:=λs Z S Q E a=>wpAny_allTrue_Or_nil (a Wx Wx s Z V h S rfl .refl)
def aI4{x:Expr}{rest:List Expr}{K:Bool->St->Prop}
  (h:T w A B z aM (isTrue x z (ME x z)) V λb di=>if b then T w A B z aM (SG .And rest z) di K else K Wx di):T w A B z aM (SG .And (x::rest) z) V K:=λs Z S Q E l =>
 wpAny_allTrue_And_cons (h s Z S _ _ λb c j n di k o H X=>by
  unfold aM at H;subst H;cases c with
  |true=>exact k j n o Q E λu r d e a p i y v=>l u r d e a p i y (X.trans v)
  |false=>exact l Wx Wx j n di k o rfl X)
def aI2{K:Bool->St->Prop}(h:T w A B z aM (SG c b z) V K):T w A B z aM (isTrue (.BoolOp c b a9) z whole) V K:=λs Z S Q E a=>wpAny_isTrue_BoolOp (h s Z S Q E a)
def aIQ{c6:Expr}
  (h:T w A B z aM (isTrue g z (ME g z)) V λb di=>if b then T w A B z Val (ME c6 z) di K else T w A B z Val (ME f z) di K):T w A B z Val (ME (.IfExp g c6 f a9) z) V K:=λs Z S Q E n =>
 wpAny_IfExp (h s Z S _ _ λb c j o di k u H X=>by
  unfold aM at H;subst H;cases c <;> exact k j o u Q E λv x d e a l i r p=>n v x d e a l i r (X.trans p))
def aKa{a b:Int}(h:K (.int (a+b)) V):F2 w A B z Val (Ph .Add) (.int a) (.int b) V K:=l8 λs Z S Q E d=>oz λO=>oz λO=>PyProof.Rows.add_int (d _ _ _ Z V h (S.toks _) (.int _ _) (.toks _))
def aJU{a b:Int}(h:K (.int (a-b)) V):F2 w A B z Val (Ph .Sub) (.int a) (.int b) V K:=l8 λs Z S Q E d=>oz λO=>oz λO=>PyProof.Rows.sub_int (d _ _ _ Z V h (S.toks _) (.int _ _) (.toks _))
def Kw{a b:Int}(d:b≠0)(h:K (.int (a.fmod b)) V):F2 w A B z Val (Ph .Mod) (.int a) (.int b) V K:=l8 λs Z S Q E e=>oz λO=>oz λO=>PyProof.Rows.mod_int d (e _ _ _ Z V h (S.toks _) (.int _ _) (.toks _))
def aJ8{a b:Int}(h:K (.bool (a==b)) V):F2 w A B z Val (NE .Eq) (.int a) (.int b) V K:=l8 λs Z S Q E d=>oz λO=>oz λO=>Ua (d _ _ _ Z V h S (.bool _) .refl)
def aJW{a b:Int}(h:K (.bool (a != b)) V):F2 w A B z Val (NE .NotEq) (.int a) (.int b) V K:=l8 λs Z S Q E d=>oz λO=>oz λO=>PyProof.Rows.ne_int (d _ _ _ Z V h S (.bool _) .refl)
def aJX{a b:Int}(h:K (.bool (decide (a<b))) V):F2 w A B z Val (NE .Lt) (.int a) (.int b) V K:=l8 λs Z S Q E d=>oz λO=>oz λO=>TY (d _ _ _ Z V h S (.bool _) .refl)
def aJ4{a b:Int}(h:K (.bool (decide (b<a))) V):F2 w A B z Val (NE .Gt) (.int a) (.int b) V K:=l8 λs Z S Q E d=>oz λO=>oz λO=>PyProof.Rows.gt_int (d _ _ _ Z V h S (.bool _) .refl)
def aJY{a b:Int}(h:K (.bool (decide (a<=b))) V):F2 w A B z Val (NE .LtE) (.int a) (.int b) V K:=l8 λs Z S Q E d=>oz λO=>oz λO=>PyProof.Rows.le_int (d _ _ _ Z V h S (.bool _) .refl)
def aJ5{a b:Int}(h:K (.bool (decide (b<=a))) V):F2 w A B z Val (NE .GtE) (.int a) (.int b) V K:=l8 λs Z S Q E d=>oz λO=>oz λO=>PyProof.Rows.ge_int (d _ _ _ Z V h S (.bool _) .refl)
def CD{a:Str}(h:K (.bool (a==b)) V):F2 w A B z Val (NE .Eq) (.str a) (.str b) V K:=l8 λs Z S Q E d=>c2 λO=>c2 λO=>TZ (d _ _ _ Z V h S (.bool _) .refl)
def aJV{a:Str}(h:K (.bool (a != b)) V):F2 w A B z Val (NE .NotEq) (.str a) (.str b) V K:=l8 λs Z S Q E d=>c2 λO=>c2 λO=>PyProof.Rows.ne_str (d _ _ _ Z V h S (.bool _) .refl)
def Kx{a b:Str}(d6:a.length+b.length<=LY)(h:K (.str (a++b)) V):F2 w A B z Val (Ph .Add) (.str a) (.str b) V K:=l8 λs Z S Q E d=>c2 λO=>c2 λO=>PyProof.Rows.add_str (λi e=>d _ _ _ Z V h (S.toks _) (.str _ _) (.toks _)) d6
def gK{b:Bool}{K:Bool->St->Prop}(h:K b V):F1 w A B z aM truthy (.bool b) V K:=F1.of λs Z S Q E a=>Val.eBool <| PU (a _ _ s Z V h S rfl .refl)
def aKe{i:Int}{K:Bool->St->Prop}(h:K (i != 0) V):F1 w A B z aM truthy (.int i) V K:=λs Z x H S Q E a=>by
 cases H;exact PySem.P.truthy_int (a _ _ s Z V h S rfl .refl)
def aK{K:dr->St->Prop}(h:K .next V):T w A B z fv (execs [] z) V K:=λs Z S Q E a=>UB (a _ _ s Z V h S .next .refl)
def lW(w:Lz)(A:Lk)(B:eb)(z:Env)(rest:List Stmt)(K:dr->St->Prop)(f:dr)(di:St):Prop:=match f with
 |.next=>T w A B z fv (execs rest z) di K
 |f=>K f di
def aw{x:Stmt}{K:dr->St->Prop}
  (h:T w A B z fv (exec x z) V (lW w A B z rest K)):T w A B z fv (execs (x::rest) z) V K:=λs Z S Q E i =>
 Rn (h s Z S _ _ λf x e j a k l H X=>by
  induction H with
  |next=>exact k e j l Q E λv y n o d r p J G=>i v y n o d r p J (X.trans G)
  |brk=>exact i _ _ e j a k l .brk X
  |cont=>exact i _ _ e j a k l .cont X
  |ret u=>exact i _ _ e j a k l (.ret u) X)
def bV{K:dr->St->Prop}
  (h:T w A B z aM (isTrue g z (ME g z)) V λb di=>if b then T w A B z fv (execs c6 z) di K else T w A B z fv (execs f z) di K):T w A B z fv (exec (.If g c6 f a9) z) V K:=λs Z S Q E n =>
 wpAny_If (h s Z S _ _ λb c j o di k u H X=>by
  unfold aM at H;subst H;cases c <;> exact k j o u Q E λv y d e a l i r p=>n v y d e a l i r (X.trans p))
def jy{e:Expr}{K:dr->St->Prop}(h:T w A B z Val (ME e z) V λv di=>K (.ret v) di):T w A B z fv (exec (.Return (Wu e) a9) z) V K:=λs Z S Q E d =>
 wpAny_Return_some (h s Z S _ _ λv x a i di k j H X=>d _ _ a i di k j (.ret H) X)
def aIu{K:dr->St->Prop}(h:K (.ret .none) V):T w A B z fv (exec (.Return Wv a9) z) V K:=λs Z S Q E a =>
 wpAny_Return_none (a _ _ s Z V h S (.ret .none) .refl)
def aIv{K:dr->St->Prop}(h:K .next V):T w A B z fv (exec (.Pass a9) z) V K:=λs Z S Q E a =>
 wpAny_Pass (a _ _ s Z V h S .next .refl)
def bM:List (Str×AV)->Str->AV->List (Str×AV)
 | [],x,v=>[(x,v)]
 |(y,u)::r,x,v=>if x==y then (y,v)::r else (y,u)::bM r x v
def yn{r:List (Str×AV)}:bM ((y,u)::r) x v=if x==y then (y,v)::r else (y,u)::bM r x v:=rfl
def jp(x:Str)(v:AV):∀(l:List (Str×AV)) (y:Str),(bM l x v).lookup y=if y=x then Wu v else l.lookup y:=by
 intro a;induction a with
 |nil =>
  intro y;show PO y [(x,v)]=_;rw[Lu];by_cases e:y=x
  ·subst e;simp
  ·have:(y==x)=Wx:=beq_eq_false_iff_ne.mpr e;simp[this,e]
 |cons j r d =>
  obtain⟨z,u⟩:=j;intro y;simp only[yn];by_cases q:x=z
  ·subst q;simp only[beq_self_eq_true,if_true];rw[Lu,Lu];by_cases e:y=x
   ·subst e;simp
   ·have:(y==x)=Wx:=beq_eq_false_iff_ne.mpr e;simp[this,e]
  ·have i:(x==z)=Wx:=beq_eq_false_iff_ne.mpr q;simp only[i,LW,if_false];rw[Lu,Lu,d y];by_cases e:y=z
   ·subst e
    have:y≠x:=λh=>q h.symm;simp[this]
   ·have:(y==z)=Wx:=beq_eq_false_iff_ne.mpr e;simp[this]
def oH{K:Unit->St->Prop}(G:z.kindOf x=Wu .local)(c:bM a6 x v=l)(h:K () ⟨l,Y⟩):F1 w A B z aQ (Ok z x) v ⟨a6,Y⟩ K:=λs Z u H S Q E m=>by
 subst c;generalize i:(⟨a6,Y⟩:St)=V at *;have h:K () ⟨bM V.loc x v,V.led⟩:=by subst i;exact h
 refine ag S.loc λf W R=>wpAny_storeName_local G W (λt k j=>?_) (by rw[S.fn];rfl);have d:∀b o,b≠z.locals->s.heap.get? b=Wu o->t.get? b=Wu o:=λb o g e=>(j.2 b g).trans e;refine m () () _ Z ⟨bM V.loc x v,V.led⟩ h ⟨⟨S.base,λa o e=>d a o (λq=>?_) (S.frozen a o e),S.nodup,S.apart,λp r=>(S.own p r).mono (.refl _) (λo e=>d _ o (λq=>?_) e) (λO O O e=>e),S.gnodup,S.bare⟩,S.locZ,S.locL,
  ⟨_,k,λy=>?_⟩,λy J e=>?_,S.fn⟩ trivial ⟨.refl _,λa o e n=>d a o (λq=>n (.inl q)) e,λa n => .inl n,λO O e => .inl e,rfl,λO O e O=>e,λO h => .inl h⟩
 ·simp only[q,S.locZ] at e;cases e
 ·exact S.locL (q▸Lv r)
 ·rw[jp];by_cases e:y=x
  ·simp only[e,if_true];exact .some H
  ·simp only[e,if_false];exact R y
 ·rw[jp] at e;by_cases q:y=x
  ·exact(Eq.symm (q))▸G
  ·simp only[q,if_false] at e;exact S.kinds y J e
def ir{K:dr->St->Prop}
  (h:T w A B z Val (ME c8 z) V λv fI=>F1 w A B z aQ (Ok z x) v fI λO ia=>K .next ia)
  (j:Sx c8 (Wu (.Name x b)) a9.line z=Nb Wx):T w A B z fv (exec (.Assign [.Name x b] c8 a9) z) V K:=λs Z S Q E l =>
 wpAny_Assign_Name (h s Z S _ _ λv e c5 n fI a u r p=>a c5 n e r u _ _ λO O i o d k y O X=>l _ _ i o d k y .next (p.trans X)) j
def aIA{K:dr->St->Prop}(hx:a6.lookup x=Wu v₀)(e:v₀.isAny=Wx)
  (h:T w A B z Val (ME c8 z) ⟨a6,Y⟩ λv fI=>F2 w A B z Val (Sy c) v₀ v fI λr ia=>F1 w A B z aQ (Ok z x) r ia λO i=>K .next i):T w A B z fv (exec (.AugAssign (.Name x b) c c8 a9) z) ⟨a6,Y⟩ K:=λs Z S Q E W =>
 ag S.loc λf V R=>ag (ix.val (hx▸R x) e) λu l J =>
 wpAny_AugAssign_Name (wpAny_loadName_local S.fn (S.kinds x v₀ hx) V l (h s Z S _ _ λO p c5 m O d H D n=>d c5 m u p (J.mono n.le) D H _ _
  λO o y g O a F C t=>a y g o C F _ _ λO O G q j k L O X=>W _ _ G q j k L .next ((n.trans t).trans X)))
def aJ2{a b:Int}(h:K (.int (a+b)) V):F2 w A B z Val (Sy .Add) (.int a) (.int b) V K:=l8 λs Z S Q E d=>oz λO=>oz λO=>PyProof.Rows.iadd_int (d _ _ _ Z V h (S.toks _) (.int _ _) (.toks _))
def aJ0{a b:Int}(h:K (.int (a-b)) V):F2 w A B z Val (Sy .Sub) (.int a) (.int b) V K:=l8 λs Z S Q E d=>oz λO=>oz λO=>PyProof.Rows.isub_int (d _ _ _ Z V h (S.toks _) (.int _ _) (.toks _))
def Hh(x y:Str)(a6:List (Str×AV)):(a6++[(x,AV.any)]).lookup y=a6.lookup y\/(y=x/\(a6++[(x,AV.any)]).lookup y=Wu .any):=by
 induction a6 with
 |nil =>
  by_cases e:y=x
  ·subst e;right
   refine⟨rfl,?_⟩;show PO y [(y,AV.any)]=_;simp only[Lu,beq_self_eq_true]
  ·left
   have:(y==x)=Wx:=beq_eq_false_iff_ne.mpr e;show PO y [(x,AV.any)]=_;simp only[Lu,this]
 |cons p l a =>
  rw[Lg,Lu,Lu];cases y==p.1 with
  |true=>exact .inl rfl
  |false=>exact a
def ff.spare(x:Str)(i:z.kindOf x=Wu .local)(S:ff B z s Z ⟨a6,Y⟩):ff B z s Z ⟨a6++[(x,.any)],Y⟩:=by
 refine⟨S.toca,S.locZ,S.locL,?_,λy v e=>?_,S.fn⟩
 ·refine ag S.loc λf d a=>cL f d (λy=>?_);rcases Hh x y a6 with h |⟨_,h⟩
  ·show ix Z ((a6++[(x,AV.any)]).lookup y) (f y);exact(Eq.symm (h))▸a y
  ·show ix Z ((a6++[(x,AV.any)]).lookup y) (f y);exact(Eq.symm (h))▸.any
 ·rcases Hh x y a6 with h |⟨h,_⟩
  ·exact S.kinds y v (by exact(h)▸e)
  ·exact(Eq.symm (h))▸i
def T.spare{K:α->St->Prop}(x:Str)(a:z.kindOf x=Wu .local)(h:T w A B z b t ⟨a6++[(x,.any)],Y⟩ K):T w A B z b t ⟨a6,Y⟩ K:=λs Z S Q E d=>h s Z (S.spare x a) Q E d
def T.spares{K:α->St->Prop}(W:List Str)(a:(W.all λx=>decide (z.kindOf x=Wu .local))=Ww)(h:T w A B z b t ⟨a6++W.map λx=>(x,.any),Y⟩ K):T w A B z b t ⟨a6,Y⟩ K:=by
 induction W generalizing a6 with
 |nil=>rw[NU,Ms] at h;exact h
 |cons x W d =>
  simp only[SW,Mv] at a;exact T.spare x (of_decide_eq_true a.1) (d a.2 (by rw[LH];exact h))
inductive eR (Z:eb):List (Str×AV)->List (Str×Value)->Prop
 |nil:eR Z [] []
 |cons {k:Str} {v:AV} {x:Value} {l:List (Str×AV)} {r:List (Str×Value)}:Val Z v x->eR Z l r->eR Z ((k,v)::l) ((k,x)::r)
def eR.un0{P:List (Str×Value)->Prop}(k:P [])(W:List (Str×Value))(h:eR Z [] W):P W:=by cases h;exact k
def eR.mono(k:eb.le Z b)(h:eR Z l r):eR b l r:=by
 induction h with
 |nil=>exact .nil
 |cons v _ a=>exact .cons (v.mono k) a
def eR.lookup(h:eR Z l r)(y:Str):ix Z (l.lookup y) (r.lookup y):=by
 induction h with
 |nil=>exact .none
 | @cons k v x l r d _ a =>
  rw[Lu,Lu];cases e:(y==k) with
  |true=>exact .some d
  |false=>exact a
def eR.keys(h:eR Z l r):r.map (·.1)=l.map (·.1):=by
 induction h with
 |nil=>rfl
 |cons _ _ a=>simp only[Le,a]
def eR.append(h:eR Z l r)(h':eR Z l' b):eR Z (l++l') (r++b):=by
 induction h with
 |nil=>exact h'
 |cons v _ a=>exact .cons v a
def eR.reverse(h:eR Z l r):eR Z l.reverse r.reverse:=by
 induction h with
 |nil=>exact .nil
 |cons v _ a=>simp only[LI,LI];exact a.append (.cons v .nil)
def eR.zip(a:List Str){vs:List AV}{W:List Value}(h:Vals Z vs W):eR Z (a.zip vs) (a.zip W):=h.ind (P:=λvs W=>∀a:List Str,eR Z (a.zip vs) (a.zip W)) (λa=>by simp only[RE,RE];exact .nil) (λh O t a=>by
  cases a with
  |nil=>exact .nil
  |cons k a=>exact .cons h (t a)) a
def HR(B:eb)(Y:aa)(K:AV->aa->Prop)(s:KY)(Z:eb)(R:Result->KY->Prop):Prop:=∀v x a d a8,K v a8->ca B a d a8->Val d v x->hO (aj Y) s Z a d (aj a8)->R (.ok (.ret x)) a
def TC(w:Lz)(A:Lk)(B:eb)(f:AV)(args:List AV)(kw:List (Str×AV))(Y:aa)(K:AV->aa->Prop):Prop:=∀(s:KY) (Z:eb) (d:Value) (W:List Value) (a:List (Str×Value)),ca B s Z Y->Val Z f d->Vals Z args W->eR Z kw a->∀(R:Result->KY->Prop),
  HR B Y K s Z R->PA (Ly ab w) A (.call d ⟨W,a⟩) R s
def fo(R:AV->aa->Prop)(fl:dr)(di:St):Prop:=match fl with
 |.ret v=>R v di.led
 |_=>R .none di.led
def ff.after(S:ff B z s Z V)(L:ca B s' b a8)(X:hO (aj V.led) s Z s' b (aj a8)):ff B z s' b ⟨V.loc,a8⟩:=by
 refine ag S.loc λf a i=>fe (id a) λd j k g O=>⟨L,?_,λh=>?_,n6 X.le (λo e=>X.kept _ o e S.locL) S.loc,S.kinds,S.fn⟩
 ·cases e:b z.locals with
  |none=>rfl
  |some o =>
   rcases X.zgrow _ o e with q |q |q
   ·rw[S.locZ] at q;cases q
   ·exact absurd q S.locL
   ·rw[g] at q;cases q
 ·rcases X.grow _ h with q |q
  ·exact S.locL q
  ·rw[g] at q;cases q
def hO.toF{V:St}(X:hO (aj V.led) s Z s' b (aj a8)):hO (ay z V) s Z s' b (ay z ⟨V.loc,a8⟩) where
 le:=X.le
 kept:=λa o e h=>X.kept a o e λq=>h (.inr q)
 grow:=λa h=>by
  rcases h with h |h
  ·exact .inl (.inl h)
  ·exact(X.grow a h).imp .inr id
 zgrow:=λa o e=>(X.zgrow a o e).imp id (Wh .inr id)
 os:=X.os
 gkept:=X.gkept
 ggrow:=X.ggrow
structure hW (B:eb):Prop where
 lim:∀s:KY,(∀a o,B a=Wu o->s.heap.get? a=Wu o)->s.heap.NoLimit
def bF(scope:Scope)(L g:LP)(cells:List (Str×LP))(qual:Str)(f:LP)(cd:Value)(bi:LP):Env:={ scope,locals:=L,globals:=g,cells,qual:=qual ++ ".<locals>.",func:=Wu f,code:=cd,frame:=Wu L,builtins:=bi}
def Binds(w:Lz)(A:Lk)(B:eb)(fd:Oi)(args:List AV)(kw f8:List (Str×AV)):Prop:=∀(s:KY) (Z:eb) (Y:aa) (W:List Value) (e:List (Str×Value)),ca B s Z Y->Vals Z args W->eR Z kw e ->
  ∀(Q:List (Str×Value)->KY->Prop) (E:Value->KY->Prop),(∀i a d,ca B a d Y->eR d f8 i->hO (aj Y) s Z a d (aj Y)->Q i a)->LC (Ly ab w) A (Ra fd ⟨W,e⟩) Q E s
def gB(s:KY):s.heap.get? s.heap.objs.size=Wv:=by
 cases e:s.heap.get? s.heap.objs.size with
 |none=>rfl
 |some o=>exact absurd (Mf e) (Nn _)
section
variable{s c5:KY}{Y:aa}
def ca.zfree(S:ca B s Z Y)(h:s.heap.get? a=Wv):Z a=Wv:=by
 cases e:Z a with
 |none=>rfl
 |some o=>exact nomatch h.symm.trans (S.frozen a o e)
def ca.lfree(S:ca B s Z Y)(h:s.heap.get? a=Wv):a∉keys Y:=λq =>
 ag (LG.mp q) λp i e=>al (S.own p i).live λd g=>nomatch (show Wv=Wu d from(e.symm▸h:s.heap.get? p.1=Wv).symm.trans g)
def ca.zfresh(S:ca B s Z Y):Z s.heap.objs.size=Wv:=S.zfree (gB s)
def ca.lfresh(S:ca B s Z Y):s.heap.objs.size∉keys Y:=S.lfree (gB s)
def ca.keep(S:ca B s Z Y)(k:∀b o,s.heap.get? b=Wu o->c5.heap.get? b=Wu o)(g:∀(n:Nat) (gs:NZ),s.gens[n]?=Wu gs->c5.gens[n]?=Wu gs)(b:∀x∈c5.gens,x.bare=Ww):ca B c5 Z Y:=⟨S.base,λa o e=>k a o (S.frozen a o e),S.nodup,S.apart,λp d=>(S.own p d).mono (.refl _) (λo e=>k _ o e) λn gs O e=>g n gs e,S.gnodup,b⟩
def ca.cons{o:el}(S:ca B s Z Y)(k:a∉keys Y)(hz:Z a=Wv)(i:Holds Z s a o)(j:(gkeys ((a,o)::Y)).Nodup):ca B s Z ((a,o)::Y):=⟨S.base,S.frozen,Lp.mpr ⟨k,S.nodup⟩,λp d=>(KZ.mp d).elim (λe=>e▸hz) (S.apart p),λp d=>(KZ.mp d).elim (λe=>e▸i) (S.own p),j,S.bare⟩
def BI(k:∀b o,s.heap.get? b=Wu o->c5.heap.get? b=Wu o)(h:c5.heap.get? a=Wv):s.heap.get? a=Wv:=by
 cases e:s.heap.get? a with
 |none=>rfl
 |some o=>exact nomatch h.symm.trans (k a o e)
def aDU(e:l.lookup x=Wu v):x∈l.map (·.1):=by
 induction l with
 |nil=>exact dJ e
 |cons p l a =>
  rw[Lu] at e;cases q:(x==p.1) with
  |true=>exact beq_iff_eq.mp q▸KJ ..
  |false=>rw[q] at e;exact KP _ (a e)
def Hi(e:l.reverse.lookup x=Wu v):x∈l.map (·.1):=Wo.mp (List.map_reverse▸aDU e)
def ff.enter{bs:List (Str×Value)}(L:ca B s Z Y)(k:Z z.locals=Wv)(l:z.locals∉keys Y)(d:s.heap.Ns z.locals λy=>bs.reverse.lookup y)(i:eR Z f8 bs)
  (a:∀x∈f8.map (·.1),z.kindOf x=Wu .local) (j:z.scope.kind=.function):ff B z s Z ⟨f8.reverse,Y⟩:=⟨L,k,l,⟨_,d,λy=>i.reverse.lookup y⟩,λx O e=>a x (Hi e),j⟩
def hO.inner{tk:Nat}(X:hO (ay z ⟨a6,nt⟩) {s with heap:=c,toks:=tk} Z s' f (ay z di))(k:∀b o,s.heap.get? b=Wu o->c.get? b=Wu o)
  (d9:∀a,a=z.locals\/a∈keys nt->a∈keys Y\/s.heap.get? a=Wv) (g:gkeys nt=gkeys Y):hO (aj Y) s Z s' f (aj di.led) where
 le:=X.le
 kept:=λa o e d=>X.kept a o (k a o e) λq=>(d9 a q).elim d λn=>nomatch n.symm.trans e
 grow:=λa d=>(X.grow a (.inr d)).elim (d9 a) λn => .inr (BI (c5:={ s with heap:=c,toks:=tk}) k n)
 zgrow:=λa o e=>(X.zgrow a o e).elim .inl λq => .inr (q.elim (d9 a) λn => .inr (BI (c5:={ s with heap:=c,toks:=tk}) k n))
 os:=X.os
 gkept:=λn i e h=>X.gkept n i e λq=>h (show n∈gkeys Y from g▸(show n∈gkeys nt from q))
 ggrow:=λn h=>(X.ggrow n h).imp_left λq=>(show n∈gkeys Y from g▸(show n∈gkeys nt from q))
def HR.after{K:AV->aa->Prop}{R:Result->KY->Prop}(a:HR B Y K s Z R)(X:hO (aj Y) s Z s' b (aj Y)):HR B Y K s' b R:=λv x O O a8 k e V d=>a v x _ _ a8 k e V (X.trans d)
def Hw{r:Heap}{tk:Nat}{K:AV->aa->Prop}{R:Result->KY->Prop}{Q:Flow->KY->Prop}(i:HR B Y K s Z R)(k:∀b o,s.heap.get? b=Wu o->r.get? b=Wu o)
  (d9:∀a,a=z.locals\/a∈keys nt->a∈keys Y\/s.heap.get? a=Wv) (g:gkeys nt=gkeys Y) (v:∀x s',R (.ok (.ret x)) s'->Q (.ret x) s') (p:∀s',R (.ok (.ret .none)) s'->Q .next s'/\Q .brk s'/\Q .cont s'):HQ B z fv ⟨a6,nt⟩ (fo K) {s with heap:=r,toks:=tk} Z Q:=λy x s' j d e n V X=>by
 have l:=hO.inner X k d9 g;induction V with
 |next=>exact(p _ (i _ _ s' j d.led e n.toca .none l)).1
 |brk=>exact(p _ (i _ _ s' j d.led e n.toca .none l)).2.1
 |cont=>exact(p _ (i _ _ s' j d.led e n.toca .none l)).2.2
 |ret u=>exact v _ _ (i _ _ s' j d.led e n.toca u l)
end
def DX{K:AV->aa->Prop}{vs:Array Value}{W:List Value}{R:Result->KY->Prop}
  (N:hW B) (C:s.heap.get? f=Wu o) (D:o.data=.func fd) (J:fd.scope.isCoroutine=Wx) (r:fd.scope.isGenerator=Wx) (V:fd.scope.kind=.function) (l:fd.body=.stmts c6)
  (k:∀x∈fd.scope.names,x.2 ≠ .cell)
  (F:fd.code=.ref c) (z:s.heap.get? c=Wu oc) (p:oc.data=.fields vs) (t:vs[1]?=Wu (.str fd.qualname tq)) (j:A.depth<Na)
  (H:Binds w A.in1 B fd args kw f8) (i:∀x∈f8.map (·.1),fd.scope.names.lookup x=Wu .local)
  (h:∀L,L∉keys Y->T w (A.deeper (bF fd.scope L fd.globals fd.closure fd.qualname f fd.code fd.builtins)) B (bF fd.scope L fd.globals fd.closure fd.qualname f fd.code fd.builtins) fv
   (execs c6 (bF fd.scope L fd.globals fd.closure fd.qualname f fd.code fd.builtins)) ⟨f8.reverse,Y⟩ (fo K))
  (S:ca B s Z Y) (hx:Vals Z args W) (G:eR Z kw g) (M:HR B Y K s Z R):PA (Ly ab w) A (.call (.ref f) ⟨W,g⟩) R s:=by
 refine SV j C D J r l ⟨c,oc,vs,tq,F,z,p,t⟩ (H s Z Y W g S hx G _ _ λP c5 U n u X=>?_);have Q:=M.after X;refine RC (around:=Wv) k (λx hx=>i x.1 (u.keys▸Lv hx)) (λm E y=>?_) V;have d:∀b o,c5.heap.get? b=Wu o->m.get? b=Wu o:=λb o e=>y.extBut b o (MA (Mf e)) (Ld _ e);have v:=gB c5;exact⟨N.lim _ λa o e=>d a o (n.frozen a o (n.base a o e)),show PA _ A (.func c6 (bF fd.scope c5.heap.objs.size fd.globals fd.closure fd.qualname f fd.code fd.builtins)) R _ from
  VX (h _ (n.lfree v) _ U (ff.enter (n.keep (c5:={ c5 with heap:=m,toks:=c5.toks+P.length}) d (λO O e=>e) n.bare) (n.zfree v) (n.lfree v) E u i V) _ _ (Hw Q d (λa q=>q.elim (λe => .inr (e▸v)) .inl) rfl (λO O h=>h) λO h=>⟨h,h,h⟩))⟩
def aIV{K:AV->aa->Prop}{vs:Array Value}
  (g:hW B) (z:B f=Wu o) (J:o.data=.func fd) (p:fd.scope.isCoroutine=Wx) (k:fd.scope.isGenerator=Wx) (E:fd.scope.kind=.function) (e:fd.body=.stmts c6)
  (d:∀x∈fd.scope.names,x.2 ≠ .cell)
  (Q:fd.code=.ref c) (l:B c=Wu oc) (i:oc.data=.fields vs) (y:vs[1]?=Wu (.str fd.qualname tq)) (a:A.depth<Na)
  (V:Binds w A.in1 B fd args kw f8) (j:∀x∈f8.map (·.1),fd.scope.names.lookup x=Wu .local)
  (h:∀L,L∉keys Y->T w (A.deeper (bF fd.scope L fd.globals fd.closure fd.qualname f fd.code fd.builtins)) B (bF fd.scope L fd.globals fd.closure fd.qualname f fd.code fd.builtins) fv
   (execs c6 (bF fd.scope L fd.globals fd.closure fd.qualname f fd.code fd.builtins)) ⟨f8.reverse,Y⟩ (fo K)):TC w A B (.ref f) args kw Y K:=λs Z r W u S G v n R b=>l6 (P:=λr=>PA (Ly ab w) A (.call r ⟨W,u⟩) R s) (DX g (S.frozen _ _ (S.base _ _ z)) J p k E e d Q (S.frozen _ _ (S.base _ _ l)) i y a V j h S v n b) r G
section
variable{s s':KY}{Z c:eb}{gl d5 Y:aa}
def ib:a∈keys (gl++Y)↔a∈keys gl\/a∈keys Y:=by unfold keys;rw[LD,Md]
def Ih:gkeys (gl++Y)=gkeys gl++gkeys Y:=NJ
def ca.live(S:ca B s Z Y)(h:a∈keys Y):∃ob,s.heap.get? a=Wu ob:=ag (LG.mp h) λp c e=>e▸(S.own p c).live
def ca.zkey(S:ca B s Z Y)(h:a∈keys Y):Z a=Wv:=ag (LG.mp h) λp c e=>e▸S.apart p c
def ca.tail(S:ca B s Z (gl++Y))(h:a∈keys Y):a∉keys gl:=λq =>
 (Ql.mp (LD▸S.nodup:(keys gl++keys Y).Nodup)).2.2 a q a h rfl
def ca.step(S:ca B s Z (gl++Y))(r:eb.le Z c)(d:∀b o,b∉keys gl->s.heap.get? b=Wu o->s'.heap.get? b=Wu o)
  (n:∀a o,c a=Wu o->Z a=Wu o\/(s.heap.get? a=Wv/\s'.heap.get? a=Wu o)) (d9:∀p∈d5,Holds c s' p.1 p.2)
  (u:∀a∈keys d5,a∈keys gl\/(s.heap.get? a=Wv/\c a=Wv)) (nd:(keys d5).Nodup) (J:(gkeys d5).Sublist (gkeys gl)) (i:s'.gens=s.gens) (x:s'.os=s.os):ca B s' c (d5++Y)/\hO (aj (gl++Y)) s Z s' c (aj (d5++Y)):=by
 have z:∀a,a∈keys (gl++Y)->c a=Wv:=λa h=>by
  cases e:c a with
  |none=>rfl
  |some o=>exact(n a o e).elim (λq=>nomatch (S.zkey h).symm.trans q) λq=>al (S.live h) λG g=>nomatch q.1.symm.trans g
 have k:(gkeys (d5++Y)).Sublist (gkeys (gl++Y)):=by simp only[Ih,Ih];exact J.append (.refl _)
 have j:=Ql.mp (LD▸S.nodup:(keys gl++keys Y).Nodup);refine⟨⟨S.base.trans r,λa o e=>(n a o e).elim (λq=>d a o (λy=>nomatch (S.zkey (ib.mpr (.inl y))).symm.trans q) (S.frozen a o q)) And.right,?_,λp v=>?_,λp v=>?_,k.nodup S.gnodup,i▸S.bare⟩,
  ⟨r,λa o e l=>d a o (λy=>l (ib.mpr (.inl y))) e,λa l=>(ib.mp l).elim (λq=>(u a q).imp (λy=>ib.mpr (.inl y)) And.left) λq => .inl (ib.mpr (.inr q)),
   λa o e=>(n a o e).imp id λq => .inr q.1,x,λg K e O=>i▸e,λg h => .inl (show g∈gkeys (gl++Y) from k.subset (show g∈gkeys (d5++Y) from h))⟩⟩
 ·unfold keys;rw[LD];exact Ql.mpr ⟨nd,j.2.1,λa l b E e=>(u a l).elim (λq=>j.2.2 a q b E e) λq=>al (S.live (ib.mpr (.inr (e▸E)))) λG g=>nomatch q.1.symm.trans g⟩
 ·exact(Md.mp v).elim (λq=>(u _ (Lv q)).elim (λy=>z _ (ib.mpr (.inl y))) And.right) λq=>z _ (ib.mpr (.inr (Lv q)))
 ·exact(Md.mp v).elim (d9 p) λq=>n0 (s:=s) r (λo e=>d _ o (S.tail (Lv q)) e) (λO O O e=>i▸e) (S.own p (LJ _ q))
def ca.stepS(S:ca B s Z (gl++Y))(a:∀b o,b∉keys gl->s.heap.get? b=Wu o->s'.heap.get? b=Wu o)(d9:∀p∈d5,Holds Z s' p.1 p.2)(i:keys d5=keys gl)(j:gkeys d5=gkeys gl)(d:s'.gens=s.gens)(c:s'.os=s.os):ca B s' Z (d5++Y)/\hO (aj (gl++Y)) s Z s' Z (aj (d5++Y)):=S.step (.refl _) a (λO O e => .inl e) d9 (λO h => .inl (i▸h)) (i▸(Ql.mp (LD▸S.nodup:(keys gl++keys Y).Nodup)).1) (j▸.refl _) d c
def ca.stepE(S:ca B s Z (gl++Y))(a:∀b o,b∉keys gl->s.heap.get? b=Wu o->s'.heap.get? b=Wu o)(d:s'.gens=s.gens)(c:s'.os=s.os):ca B s' Z Y/\hO (aj (gl++Y)) s Z s' Z (aj Y):=S.step (d5:=[]) (.refl _) a (λO O e => .inl e) (λO h=>absurd h MU) (λO h=>absurd h MU) PZ (List.nil_sublist _) d c
end
def ca.newAt(S:ca B s Z Y){h':Heap}{ao:el}(i:ao.gnum=Wv)(tk:Nat)(d:∀b o,s.heap.get? b=Wu o->h'.get? b=Wu o)
  (k:Holds Z {s with heap:=h',toks:=tk} s.heap.objs.size ao):ca B {s with heap:=h',toks:=tk} Z ((s.heap.objs.size,ao)::Y)/\hO (aj Y) s Z {s with heap:=h',toks:=tk} Z (aj ((s.heap.objs.size,ao)::Y)):=ca.step (gl:=[]) (d5:=[(s.heap.objs.size,ao)]) S (.refl _) (λb o O=>d b o) (λO O e => .inl e) (λp j=>Lm.mp j▸k) (λa l => .inr (Lm.mp l▸⟨gB s,S.zfresh⟩))
  (Lp.mpr ⟨MU,PZ⟩) (by unfold gkeys;simp only[MG,i];exact .refl _) rfl rfl
def AR{I:LP}{v:Value}{n:String}{vs:Array Value}{Q:Unit->KY->Prop}(e:s.heap.get? I=Wu o)(k:o.cls=.type n)(j:o.data=.fields vs)
  (i:n = "list_iterator" \/ n = "tuple_iterator" \/ n = "range_iterator") (d:Q () s):LC (Ly ab w) A (Mq ap (.ref I) v) Q E s:=by
 have c9:∀a,LC (Ly ab w) A (Mq (.Tuple [] 0 default) (.ref I) (.ref a)) Q E s:=λa=>by
  refine KI (RX e ?_);rw[k,j];refine ec (λq=>?_) (KN d);rcases i with rfl |rfl |rfl <;> exact absurd (Bool.and_eq_true_iff.mp q).1 ⋯
 cases ap
 case Tuple=>cases v <;> first |exact KN d |exact c9 _
 case List=>cases v <;> first |exact KN d |exact c9 _
 all_goals exact KN d
def bh(B:eb)(x:Str)(v:AV):Prop:=∀(M:Model) (A:Lk) (s:KY) (Z:eb) (z:Env),eb.le B Z->(∀a o,Z a=Wu o->s.heap.get? a=Wu o)->z.globals=ML->z.builtins=Nt->∀(Q:Value->KY->Prop) (E:Value->KY->Prop),
  (∀u,Val Z v u->Q u s)->LC M A (loadGlobal z x) Q E s
def vR{d:Nat}(k:B a=Wu o)(j:o.data=.dict es d)(i:Si es)(e:eb.le B Z)(l:∀a o,Z a=Wu o->s.heap.get? a=Wu o):s.heap.Ns a (So es):=⟨o,es,d,l _ _ (e _ _ k),j,i,λO=>rfl⟩
def eW{u:Value}{p:Nat}(l:B ML=Wu o)(j:o.data=.dict es p)(d:Si es)(e:So es x=Wu u)(hv:∀Z,Val Z v u):bh B x v:=λM A s Z z a n i r Q E k=>Calls.loadGlobal_global (by rw[i];exact vR l j d a n) e (k u (hv Z))
def dL{u:Value}{K j:Nat}(J:B ML=Wu o)(r:o.data=.dict es K)(n:Si es)(e:So es x=Wv)
  (i:B Nt=Wu o') (d:o'.data=.dict b j) (a:Si b) (e':So b x=Wu u) (hv:∀Z,Val Z v u):bh B x v:=λM A s Z z k l p y Q E G=>Calls.loadGlobal_builtin (by rw[p];exact vR J r n k l) e (by rw[y];exact vR i d a k l) e' (G u (hv Z))
def oC(hx:bh B x v)(a:z.kindOf x=Wu .globalImplicit)(d:z.globals=ML)(i:z.builtins=Nt)
  (e:(x==("__debug__" : Str))=Wx) (h:K v V):T w A B z Val (ME (.Name x a9) z) V K:=λs Z S Q E j =>
 Calls.Name_function_global S.fn a (hx _ _ s Z z S.base S.frozen d i _ _ λu H=>j v u s Z V h S H .refl) e
def iu{K:List AV->St->Prop}(h:K [] V):T w A B z Vals (spliced (NF a9 (Mh [] z))) V K:=λs Z S Q E a=>VO (a _ _ s Z V h S .nil .refl)
def wZ{e:Expr}{rest:List Expr}{K:List AV->St->Prop}(k:Mh (e::rest) z=(Wx,ME e z)::Mh rest z)
  (h:T w A B z Val (ME e z) V λv fI=>T w A B z Vals (spliced (NF a9 (Mh rest z))) fI λvs ia=>K (v::vs) ia):T w A B z Vals (spliced (NF a9 (Mh (e::rest) z))) V K:=λs Z S Q E l=>(Eq.symm (k))▸VD (h s Z S _ _ λW J c5 o fI d y u p=>d c5 o y _ _ λR G j n ia a x r i=>l _ _ j n ia a x (.cons (u.mono i.le) r) (p.trans i))
def FC(w:Lz)(A:Lk)(B:eb)(z:Env)(f:AV)(args:List AV)(kw:List (Str×AV))(V:St)(K:AV->St->Prop):Prop:=∀(s:KY) (Z:eb) (d:Value) (W:List Value) (a:List (Str×Value)),Val Z f d->Vals Z args W->eR Z kw a->ff B z s Z V->∀(Q:Value->KY->Prop) (E:Value->KY->Prop),
  HQ B z Val V K s Z Q->LC (Ly ab w) A (call d W a) Q E s
def FC.b{n:String}
  (h:∀s Z,ff B z s Z V->∀Q E,HQ B z Val V K s Z Q->∀W,Vals Z args W->LC (Ly ab w) A (call (.builtin n) W []) Q E s):FC w A B z (.blt n) args [] V K:=λs Z k W j e a d S Q E i=>by
  cases e
  cases d
  exact h s Z S Q E i W a
open FC renaming b→n5
def FC.t{n:String}
  (h:∀s Z,ff B z s Z V->∀Q E,HQ B z Val V K s Z Q->∀W,Vals Z args W->LC (Ly ab w) A (call (.type n) W []) Q E s):FC w A B z (.typ n) args [] V K:=λs Z k W j e a d S Q E i=>by
  cases e
  cases d
  exact h s Z S Q E i W a
def Ct{V:St}(h:TC w A B f args kw V.led λv a8=>K v ⟨V.loc,a8⟩):FC w A B z f args kw V K:=λs Z n W d j e i S Q E l=>NB (h s Z n W d S.toca j e i _ λv x a o a8 k L H X=>l v x a o ⟨V.loc,a8⟩ k (S.after L X) H X.toF)
def eH(w:Lz)(B:eb)(f:AV):Prop:=∀(A:Lk) (s:KY) (Z:eb) (d:Value),Val Z f d->eb.le B Z->(∀a o,Z a=Wu o->s.heap.get? a=Wu o)->∀(Q:Keeper->KY->Prop) (E:Value->KY->Prop),(∀k,Q k s)->LC (Ly ab w) A (TT d) Q E s
def ic{id:String}:eH w B (.blt id):=λA s Z e V d i Q E a=>by cases V;exact KN (a _)
def wf{n:String}:eH w B (.typ n):=λA s Z e V d i Q E a=>by cases V;exact KN (a _)
def aEI{id:String}:eH w B (.bm id b):=λA s Z k V j i Q E d=>by
 refine bA (Bd V) λO O a e h=>?_;subst a;unfold TT;exact KI (RX (i _ _ e) (KN (d _)))
def wy{Q:Args->KY->Prop}(h:LC (Ly ab w) A (spliced []) (λvs s'=>Q ⟨vs,[]⟩ s') E s):LC (Ly ab w) A (TV b Ww [] []) Q E s:=by
 unfold TV;show LC _ A (spliced []>>=_) Q E s;exact KI (Mg h (λvs s' a=>KI (KN (Lh (KI (KN (KI (KN (KN a)))))))) λO O x=>x)
def CA(w:Lz)(A:Lk)(B:eb)(z:Env)(a9:Pos)(f:AV)(first:List AV)(args:List Expr)(V:St)(K:AV->St->Prop):Prop:=∀(s:KY) (Z:eb) (a:Value) (W:List Value),Val Z f a->Vals Z first W->ff B z s Z V->∀(Q:Value->KY->Prop) (E:Value->KY->Prop),
  HQ B z Val V K s Z Q->LC (Ly ab w) A (QZ a9 a W (NF a9 (Mh args z)) []) Q E s
def dd(j:((NF a9 (Mh args z)).all λx => !x.1)=Ww)(N:eH w B f)
  (h:T w A B z Vals (spliced (NF a9 (Mh args z))) V λvs fI=>FC w A B z f (first++vs) [] fI K):CA w A B z a9 f first args V K:=λs Z o W F c S Q E P=>by
 unfold QZ;have n:∀ {R:Args->KY->Prop},(∀v x e G d,FC w A B z f (first++v) [] d K->ff B z e G d->Vals G v x->hO (ay z V) s Z e G (ay z d)->R ⟨x,[]⟩ e) ->
   LC (Ly ab w) A (TV o Ww (NF a9 (Mh args z)) []) R E s:=fun{R} q=>by
  have i:=h s Z S (λx e=>R ⟨x,[]⟩ e) E q;revert i j;generalize NF a9 (Mh args z)=l;intro j i;cases l with
  |nil=>exact wy i
  |cons y r =>
   obtain⟨b,t⟩:=y
   have:b=Wx:=by simpa using (LS.mp j (b,t) (KJ ..))
   subst this;exact PK i
 refine KI (Lh (n λvs x c5 L fI u C U J=>KI (LN (KI (N A c5 L o (F.mono J.le) C.base C.frozen _ _ λk=>?_)))));have a:LC (Ly ab w) A (call o (W++x) []) (λr e=>LC (Ly ab w) A (do Ol [r] point;Nb r) Q E e) E c5:=u c5 L o _ [] (F.mono J.le) ((c.mono J.le).append U) .nil C _ _ λv y e G d k S' H X=>KI (Lh (Sf (KN (P v y e G d k S' H (J.trans X)))))
 have g:∀l,LC (Ly ab w) A (operate l (call o (W++x) [])>>=λr=>(do Ol [r] point;Nb r)) Q E c5:=λl=>KI (λM p Y=>by rw[RL];exact a M p Y);have D:∀m,LC (Ly ab w) A (Qy m o (W++x) []>>=λr=>(do Ol [r] point;Nb r)) Q E c5:=λm=>KI (by unfold Qy;exact QV a);generalize (((NF a9 (Mh args z)).any λx=>x.fst)||([]:List (Option Str×Sem Value)).any λx=>x.fst.isNone)=b;cases k <;> cases b <;> first
  |exact g _
  |exact D _
  |exact KI a
  |exact Rm (by split <;> first |exact KI a |exact D _)
def wX(i:ME (.Call b args [] a9) z=(do QZ a9 (← ME b z) [] (NF a9 (Mh args z)) []))
  (h:T w A B z Val (ME b z) V λf fI=>CA w A B z a9 f [] args fI K):T w A B z Val (ME (.Call b args [] a9) z) V K:=λs Z S Q E j=>by
 rw[i];exact KI (h s Z S _ _ λf x c5 l fI a r p o=>a c5 l x [] p .nil r _ _ λv y e n d k u H X=>j v y e n d k u H (o.trans X))
def eE(B:eb)(v:AV)(Y:aa)(T:String):Prop:=∀(s:KY) (Z:eb) (x:Value),Val Z v x->ca B s Z Y->s.TypeIs x T/\∀a,x=.ref a->∃o,s.heap.get? a=Wu o/\o.dict=Wv
def oL:eE B (.str x) Y "str" := λs Z u V S=>by cases V;exact⟨QP s x _,λa e=>nomatch e⟩
def aAL{x:Array UInt8}(h:∀(s:KY) t,s.TypeIs (.bytes x t) "bytes"):eE B (.bytes x) Y "bytes" := λs Z u V S=>by cases V;exact⟨h s _,λa e=>nomatch e⟩
def bH(i:(a,.list W)∈Y):eE B (.ref a) Y "list" := λs Z u V S=>by
 (have j:=V.inv;subst j)
 refine bG (S.own _ i) λd n g O=>?_;exact⟨⟨_,g,rfl⟩,λb e=>by cases e;exact cL _ g rfl⟩
def Dh:eE B (.lst W) Y "list" := λs Z u V S=>by
 refine bL (rA V) λO O O a e h=>?_;subst a;exact⟨⟨_,S.frozen _ _ e,rfl⟩,λb q=>by cases q;exact cL _ (S.frozen _ _ e) rfl⟩
def wV{o:Expr}{d:Pos}{T' id:String}
  (i:QM o name z (ME o z)=ME o z)
  (j:((NF a9 (Mh args z)).all (λx => !x.1)&&(QL a9 (PH [] z)).all (λx=>x.1.isSome)
   && decide (args.length+([]:List QE).length+(if ([]:List QE).isEmpty then 0 else 1)<30))=Ww)
  (e:(d.endLine==a9.line)=Ww) (J:Rq T') (slot:Slot T' name id) (n:Qw (.builtin id)=Nb (.type "method_descriptor"))
  (h:T w A B z Val (ME o z) V λv fI=>eE B v fI.led T'/\CA w A B z a9 (.blt id) [v] args fI K):T w A B z Val (ME (.Call (.Attribute o name d) args [] a9) z) V K:=λs Z S Q E R =>
 wpAny_Call_method i j e J slot n (h s Z S _ _ λv x c5 p fI a u r Y =>
  ⟨(a.1 c5 p x r u.toca).1,(a.1 c5 p x r u.toca).2,a.2 c5 p _ [x] (.blt id) (.cons r .nil) u _ _ λv y G W l k b H X=>R v y G W l k b H (Y.trans X)⟩)
section
open PySem PySem.W PySem.Builtin PySem.Builtin.Str
inductive vz:Value->Str->Nat->Prop
 |str {x:Str} {t:Tok} {k:Nat} (h:x.length<=k):vz (.str x t) x k
 |int {n:Int} {u:Tok} (h0:0<=n) (h1:n<10^10):vz (.int n u) (KX (Of n)) 10
def vz.len{v:Value}(h:vz v x k):x.length<=k:=by
 cases h with
 |str h=>exact h
 |int d a=>exact PyProof.Rows.toString_length_le d ⋯ a
inductive WJ (n:Nat):List Nat->List Value->Str->Nat->Str->Nat->Nat->Prop
 |done {T:Str} {N:Nat}:WJ n [] [] T N T N 0
 |lit {r l rest:List Nat} {vs:List Value} {T T1 T':Str} {N N' c:Nat} (hr:r.isEmpty=Wx) (hN:N<=16777216) (hl:(l.length==n)=Wx) (h:nextMarkup r=.ok (l,Wv,rest)) {L:Str} (hL:⟨l.toArray⟩=L) (e:T++L=T1) (p:WJ n rest vs T1 (N+l.length) T' N' c):WJ n r vs T N T' N' (c+1)
 |field {r l rest:List Nat} {v:Value} {vs:List Value} {x T T1 T':Str} {k N N' c:Nat} (hr:r.isEmpty=Wx) (hN:N<=16777216) (hl:(l.length==n)=Wx) (h:nextMarkup r=.ok (l,Wu ⟨[],Wv,[],Wx⟩,rest))
   (hx:vz v x k) {L:Str} (hL:⟨l.toArray⟩=L) (e:(T++L)++x=T1) (p:WJ n rest vs T1 (N+l.length+k) T' N' c):WJ n r (v::vs) T N T' N' (c+1)
def aAd{a:Ll}{v:Value}(h:vz v x k)(d:∀t m,Q (.str x t) {s with toks:=m}):LC (Ly a w) A (formatOf v ⟨[].toArray⟩) Q E s:=by
 cases h with
 |str h=>exact Mo (KFm.formatOf_str _ _) (d _ s.toks)
 |int i e=>exact KFm.formatOf_int (PyProof.Rows.shown (N:=2^1920) (RS (by decide +kernel) i) (RS e (by decide +kernel)) (Int.le_refl _)) d
def IE{W ys:List α}{x:α}(h:W.drop i=x::ys):W.toArray[i]?=Wu x/\W.drop (i+1)=ys:=by
 have e:(W.drop i)[0]?=Wu x:=h▸rfl;rw[RG] at e;exact⟨(Pd ..).trans e,Ue.symm.trans (h▸rfl)⟩
section
variable{q:Ll}{Xu:List Value}{f:Nat->Writer×Numbering×List Nat->Sem (ForInStep (Writer×Numbering×List Nat))}
structure Yz (q:Ll) (w:Lz) (A:Lk) (E:Value->KY->Prop) (n:Nat) (Xu:List Value) (f:Nat->Writer×Numbering×List Nat->Sem (ForInStep (Writer×Numbering×List Nat))):Prop where
 stop:∀x wr num,f x (wr,num,[])=Nb (.done (wr,num,[]))
 lit:∀ {x wr num r l rest},r.isEmpty=Wx -> ¬ tooLong wr.total=Ww->(l.length==n)=Wx->nextMarkup r=.ok (l,Wv,rest)->f x (wr,num,r)=Nb (.yield (wr.add ⟨l.toArray⟩ Wv,num,rest))
 field:∀ {x wr num r l rest v y k i} {s:KY} {Q:ForInStep (Writer×Numbering×List Nat)->KY->Prop},r.isEmpty=Wx -> ¬ tooLong wr.total=Ww->(l.length==n)=Wx->nextMarkup r=.ok (l,Wu ⟨[],Wv,[],Wx⟩,rest) ->
  vz v y k->Xu.toArray[i]?=Wu v->(num=.unset/\i=0\/num=.auto i)->(∀o m,KPc.Obj o y->Q (.yield ((wr.add ⟨l.toArray⟩ Wv).add y o,.auto (i+1),rest)) {s with toks:=m})->LC (Ly q w) A (f x (wr,num,r)) Q E s
def aBX(R:Yz q w A E n Xu f){r:List Nat}{T T':Str}{N Y c:Nat}(Z:WJ n r vs T N T' Y c):∀ {l:List Nat} {a:Writer} {num:Numbering} {i:Nat} {s:KY} {Q:Writer×Numbering×List Nat->KY->Prop},c<=l.length->KPc.Good a T N->Xu.drop i=vs ->
  (num=.unset/\i=0\/num=.auto i)->(∀u v m,KPc.Good u T' Y->Q (u,v,[]) {s with toks:=m})->LC (Ly q w) A (forIn l (a,num,r) f) Q E s:=by
 induction Z with
 |done =>
  intro l a num i s Q _ g _ _ k;cases l with
  |nil=>exact KN (k a num s.toks g)
  |cons x l=>exact KPc.turn (R.stop x a num▸KN (k a num s.toks g))
 |lit J j d h V e p G =>
  subst V;intro l a num i s Q y g z K k;cases l with
  |nil=>exact absurd y (Rh _)
  |cons x l=>exact KPc.turn (R.lit J (KPc.short_good g j) d h▸KN (G (Sr y) (e▸UW g (KPc.obj_none rfl)) z K k))
 |field J j d h W V e p G =>
  subst V;intro l a num i s Q y g z K k;cases l with
  |nil=>exact absurd y (Rh _)
  |cons x l=>exact KPc.turn (R.field J (KPc.short_good g j) d h W (IE z).1 K λo m b=>G (Sr y) (e▸KPc.good_mono (UW (UW g (KPc.obj_none rfl)) b) (OE W.len _)) (IE z).2 (.inr rfl) k)
end
def aCm{i:Ll}{byName:Str->Sem Value}{e:Value}{d:List Nat}{z c:Nat}{T':Str}{Q:QF->KY->Prop}
  (V:WJ d.length d vs Rb 0 T' z c) (Y:c<=d.length) (Z:z<=16777216) (v:∀t m,Q (.done (.ret (.str T' t))) {s with toks:=m}):LC (Ly i w) A (buildString "str.format" (Wu vs.toArray) byName 2 d (Wu e) .unset>>=λr=>r.1.finish "str.format") Q E s:=by
 refine KI (KI ?_);rw[KPc.range_list];refine KFm.start λJ g=>aBX (n:=d.length) (Xu:=vs) ⟨λx J num=>rfl,λo l p h=>?_,λo l p h K R W v=>?_⟩ V (Mc Y (Oz (PE ..).symm)) g rfl (.inl ⟨rfl,rfl⟩) λG y m g=>KN (KPc.finish_ok g Z rfl λt k=>v t k)
 ·dsimp only;rw[if_neg λq=>LZ (o.symm.trans q),if_neg l,h];dsimp only;rw[if_neg λq=>LZ (p.symm.trans q)]
 ·refine Rm (Wd (λq=>LZ (o.symm.trans q)) (Rm (Wd l ?_)));dsimp only;rw[h];dsimp only;rw[if_neg λq=>LZ (p.symm.trans q)];refine KI (KFm.field_auto W R (KI (Lh (Mo (a:=_) rfl (Rm (Wd LZ (KI (KN (KI (Lh (aAd K λt m=>KI (Mo (a:=Wu _) rfl (KN (v _ m ?_))))))))))))));intro u j;split at j
  ·exact⟨_,(No j).symm⟩
  ·exact dJ j
def jn{F:List Nat}{t:Tok}{T':Str}{e c:Nat}(j:WJ F.length F vs Rb 0 T' e c)(l:c<=F.length)(o:e<=16777216):SQ (Builtin.«str.format» ⟨.str ⟨F.toArray⟩ t::vs,[]⟩) (λO R s=>∀i k,R (.ok (.ret (.str T' i))) {s with toks:=k}):=KPc.meets_of λd w A s Q E n=>KI (m:=strSelf ⟨.str ⟨F.toArray⟩ t::vs,[]⟩) (Mo (a:=(_,_,_)) rfl (aCm j l o n))
def aDA{n:Int}{t u:Tok}(h0:0<=n)(d:n<10^10):SQ (Builtin.«str.format» ⟨[.str (Str.mk #[123,125]) t,.int n u],[]⟩) (λO R s=>∀a k,R (.ok (.ret (.str (KX (Of n)) a))) {s with toks:=k}):=jn (F:=[123,125]) (.field (l:=[]) (rest:=[]) (L:=KX "") rfl (Mx rfl) rfl rfl (.int h0 d) (by decide +kernel) KFm.cat_ee .done) (Mx rfl) (Mx rfl)
def aDz{n m:Int}{t u a:Tok}(h0:0<=n)(j:n<10^10)(i:0<=m)(e:m<10^10):SQ (Builtin.«str.format» ⟨[.str (Str.mk #[123,125,44,123,125]) t,.int n u,.int m a],[]⟩)
  (λO R s=>∀d k,R (.ok (.ret (.str ((KX (Of n)++KX ",")++KX (Of m)) d))) {s with toks:=k}):=jn (F:=[123,125,44,123,125]) (.field (l:=[]) (rest:=[44,123,125]) (L:=KX "") rfl (Mx rfl) rfl rfl (.int h0 j) (by decide +kernel) KFm.cat_ee
  (.field (l:=[44]) (rest:=[]) (L:=KX ",") rfl (Mx rfl) rfl rfl (.int i e) (by decide +kernel) rfl .done)) (Mx rfl) (Mx rfl)
end
def am(K:Frag):eb:=λa=>K.lookup a
def dK{K:Frag}(d:eb.le (am K) Z)(i:∀a o,Z a=Wu o->s.heap.get? a=Wu o):K.In s.heap:=λa o e=>i a o (d a o e)
section
variable{K:Frag}
def Binds.peek{fd:Oi}{args:List AV}
  (h:∀(Z:eb) (W:List Value) (a:List (Str×Value)),Vals Z args W->eR Z kw a->∃bs,Mi K ⟨ab,w.params⟩ (Ra fd ⟨W,a⟩)=Wu bs/\eR Z f8 bs):Binds w A (am K) fd args kw f8:=λs Z Y W a S d i Q E k=>by
 refine ag (h Z W a d i) λbs e j=>?_;exact NX (M:=Ly ab w) (dK S.base S.frozen) e A Q E s (λb o e=>e) (k bs s Z S j .refl)
def Binds.pk{fd:Oi}{args:List AV}
  (h:∀(Z:eb) (W:List Value),Vals Z args W->∃bs,Mi K ⟨ab,w.params⟩ (Ra fd ⟨W,[]⟩)=Wu bs/\eR Z f8 bs):Binds w A (am K) fd args [] f8:=Binds.peek λZ W a d e=>eR.un0 (P:=λa=>∃bs,Mi K ⟨ab,w.params⟩ (Ra fd ⟨W,a⟩)=Wu bs/\eR Z f8 bs) (h Z W d) a e
def bJ(K:Frag)(f:LP)(a:Bool)(fd:Oi)(c6:List Stmt)(c:LP):Prop:=(∃o,K.lookup f=Wu o/\o.data=.func fd)/\fd.body=.stmts c6/\fd.code=.ref c/\fd.closure=[]/\fd.globals=ML/\fd.builtins=Nt /\
 (∃d vs e,K.lookup c=Wu d/\d.data=.fields vs/\vs[1]?=Wu (.str fd.qualname e)) /\
 (fd.scope.isCoroutine=Wx/\fd.scope.isGenerator=a/\fd.scope.kind=.function)/\(fd.scope.names.all λx=>decide (x.2 ≠ .cell))=Ww
abbrev av(fd:Oi)(L f c:LP):Env:=bF fd.scope L ML [] fd.qualname f (.ref c) Nt
def Cf{R:AV->aa->Prop}
  (G:hW (am K)) (p:bJ K f Wx fd c6 c) (a:A.depth<Na) (z:Binds w A.in1 (am K) fd args kw f8)
  (i:((f8.map (·.1)).all λx=>decide (fd.scope.names.lookup x=Wu .local))=Ww)
  (h:∀L,L∉keys Y->T w (A.deeper (av fd L f c)) (am K) (av fd L f c) fv (execs c6 (av fd L f c)) ⟨f8.reverse,Y⟩ (fo R)):TC w A (am K) (.ref f) args kw Y R:=by
 refine xt p λg d r l v n b Z J=>?_;clear p;obtain⟨o,u,y⟩:=g;obtain⟨q,vs,m,k,e,s⟩:=b;obtain⟨W,V,Q⟩:=Z;refine aIV G u y W V Q d (λx j=>of_decide_eq_true (LS.mp J x j)) r k e s a z (λx j=>of_decide_eq_true (LS.mp i x j)) λL E=>?_;exact(Eq.symm (l))▸(Eq.symm (v))▸(Eq.symm (n))▸(Eq.symm (r))▸h L E
def Cw{vs:List AV}
  (e:∀Z t W,Vals Z vs W->Oo "str.format" ⟨.str X t::W,[]⟩/\SQ (Builtin.«str.format» ⟨.str X t::W,[]⟩) (λO R s=>∀a k,R (.ok (.ret (.str T' a))) {s with toks:=k}))
  (h:R (.str T') V):FC w A B z (.blt "str.format") (.str X::vs) [] V R:=n5 λs Z S Q E i=>om <| c2 λt W d =>
 KFm.call_k rfl (e Z t W d).1 (e Z t W d).2 λa k=>i _ _ _ Z V h (S.toks _) (.str _ _) (.toks _)
def aJC
  (e:∀Z t x,Val Z v x->SQ (Builtin.«str.format» ⟨[.str X t,x],[]⟩) (λO R s=>∀a k,R (.ok (.ret (.str T' a))) {s with toks:=k}))
  (h:R (.str T') V):FC w A B z (.blt "str.format") [.str X,v] [] V R:=Cw (λZ t=>om λx d=>Zq ⟨KFm.args_2 _ _,e Z t x d⟩) h
def Cv
  (i:∀Z t x,Val Z v x->∀y,Val Z u y->SQ (Builtin.«str.format» ⟨[.str X t,x,y],[]⟩) (λO R s=>∀a k,R (.ok (.ret (.str T' a))) {s with toks:=k}))
  (h:R (.str T') V):FC w A B z (.blt "str.format") [.str X,v,u] [] V R:=Cw (λZ t=>om λx e=>om λy d=>Zq ⟨KFm.args_3 _ _ _,i Z t x e y d⟩) h
def xh{r:AV}
  (j:∀Z t x,Val Z v x->∀y,Val Z u y->∀C,Val Z r C->SQ (Builtin.«str.format» ⟨[.str X t,x,y,C],[]⟩) (λO R s=>∀a k,R (.ok (.ret (.str T' a))) {s with toks:=k}))
  (h:R (.str T') V):FC w A B z (.blt "str.format") [.str X,v,u,r] [] V R:=Cw (λZ t=>om λx i=>om λy e=>om λC d=>Zq ⟨KFm.args_4 _ _ _ _,j Z t x i y e C d⟩) h
end
def Cy{n:Int}(h0:0<=n)(a:n<10^10)(h:R (.str (KX (Of n))) V):FC w A B z (.blt "str.format") [.str (Str.mk (MD [123,125])),.int n] [] V R:=aJC (λZ t=>oz λO=>aDA h0 a) h
def Cx{n m:Int}(h0:0<=n)(e:n<10^10)(d:0<=m)(a:m<10^10)(h:R (.str ((KX (Of n)++KX ",")++KX (Of m))) V):FC w A B z (.blt "str.format") [.str (Str.mk (MD [123,125,44,123,125])),.int n,.int m] [] V R:=Cv (λZ t=>oz λO=>oz λO=>aDz h0 e d a) h
def ca.drop1{p:LP×el}(S:ca B s Z (p::Y)):ca B s Z Y where
 base:=S.base
 frozen:=S.frozen
 nodup:=(Lp.mp S.nodup).2
 apart:=λq a=>S.apart q (KP _ a)
 own:=λq a=>S.own q (KP _ a)
 gnodup:=by
  have:=S.gnodup;unfold gkeys at this ⊢;simp only[MG] at this;split at this
  ·exact this
  ·exact(Lp.mp this).2
 bare:=S.bare
def hO.less{o Yb:vn}(X:hO o s Z s' b o')(e:∀a,Yb.at_ a->o'.at_ a)(d:∀a,Yb.gn a->o'.gn a):hO o s Z s' b Yb:=⟨X.le,X.kept,λa h=>X.grow a (e a h),X.zgrow,X.os,X.gkept,λg h=>X.ggrow g (d g h)⟩
abbrev dq(g4:List Env):List LP:=g4.filterMap (·.frame)
def hB(g4:List Env)(Y:aa):Prop:=∀z∈g4,z.frame=Wu z.locals/\z.scope.kind ≠ .module/\∃m,(z.locals,el.ns m)∈Y
def hB.addr(h:hB g4 Y)(i:a∈dq g4):∃m,(a,el.ns m)∈Y:=ag (RF.mp i) λz d e=>No ((h z d).1.symm.trans e)▸(h z d).2.2
def hB.key(h:hB g4 Y)(e:a∈dq g4):a∈keys Y:=al (h.addr e) λm d=>Lv d
def pl.slots{h:Heap}(k:h.UpToSlots h')(x:pl Z h a m):pl Z h' a m:=ag x λf e d=>⟨f,k.ns e,d⟩
def Kj(z:Env)(fl:Option Value):Prop:=fl=Wv\/fl=Wu .none\/fl=Wu (MC z.locals)
def GN{p:LP×el}{o:el}:∀ {Y:aa},(keys Y).Nodup->p∈Y->(p.1,o)∈Y->p=(p.1,o)
 |q::r,n,h,h'=>by
  have n:=Lp.mp n;rcases KZ.mp h with h |h <;> rcases KZ.mp h' with h' |h'
  ·exact h.trans h'.symm
  ·exact absurd (show q.1∈keys r from h▸Lv (f:=(·.1)) h') n.1
  ·exact absurd (show q.1∈keys r from h'▸Lv (f:=(·.1)) h) n.1
  ·exact GN n.2 h h'
def xp(c:String)(h a:Heap)(e:LP)(fl:Option Value):Prop:=∃d vs,h.get? e=Wu d/\d.cls=.type c/\d.data=.fields vs/\(c = "AttributeError" -> vs[2]?=Wu .none)/\match fl with
 |none=>vs[1]?=Wu .none
 |some v=>∃T j i,vs[1]?=Wu (.ref T)/\a.get? T=Wv/\T≠e/\h.get? T=Wu j/\j.data=.fields i/\i[3]?=Wu v
structure WH (c:String) (ea:vn) (c7:KY) (g4:List Env) (Y:aa) (Z:eb) (e:LP) (fl:Option Value) (h base:Heap):Prop where
 stays:base.StaysIn h
 new:base.get? e=Wv
 frames:h.FunFrames base g4
 at_:xp c h base e fl
 most:∀a o,h.get? a=Wu o->a∉dq g4->(Z a≠Wv\/a∈keys Y\/(c7.heap.get? a≠Wv /\ ¬ ea.at_ a))->base.get? a=Wu o
structure XP (B:eb) (c:String) (ea:vn) (c7:KY) (hY:eb) (g4:List Env) (Y:aa) (e:LP) (fl:Option Value) (s:KY) (Z:eb):Prop where
 sim:ca B s Z Y
 ext:hO ea c7 hY s Z (aj Y)
 fr:hB g4 Y
 exc:∃base,WH c ea c7 g4 Y Z e fl s.heap base
section
variable{c:String}{ea:vn}{c7 s:KY}{hY Z:eb}{Y:aa}{e:LP}{fl C:Option Value}{h h':Heap}
def XP.kept(X:XP B c ea c7 hY g4 Y e fl s Z)(b:WH c ea c7 g4 Y Z e fl s.heap h)(k:h.StaysIn h')(j:a∉dq g4)(i:Z a≠Wv\/a∈keys Y\/(c7.heap.get? a≠Wv /\ ¬ ea.at_ a))(d:s.heap.get? a=Wu o):h'.get? a=Wu o:=k a o (b.most a o d j i)
def XP.turn(X:XP B c ea c7 hY g4 Y e fl s Z)(b:WH c ea c7 g4 Y Z e fl s.heap h)(k:h.StaysIn h')(F:h'.FunFrames h g4)(z:xp c h' h e C)(u:s.heap.UpToSlots h'):XP B c ea c7 hY g4 Y e C { s with heap:=h' } Z where
 sim:=⟨X.sim.base,λa o q=>X.kept b k (λd=>dJ ((X.sim.zkey (X.fr.key d)).symm.trans q)) (.inl λn=>dJ (n.symm.trans q)) (X.sim.frozen a o q),X.sim.nodup,X.sim.apart,λp j=>by
   by_cases d:p.1∈dq g4
   ·refine al (X.fr.addr d) λm r=>?_;have y:p.2=.ns m:=congrArg Prod.snd (GN X.sim.nodup j r);exact y.symm▸pl.slots u (show pl Z s.heap p.1 m from X.sim.own _ r)
   ·exact(X.sim.own p j).mono (.refl _) (λo q=>X.kept b k d (.inr (.inl (Lv j))) q) λO O O q=>q,X.sim.gnodup,X.sim.bare⟩
 ext:=⟨X.ext.le,λa o q l=>X.kept b k (λd=>(X.ext.grow a (X.fr.key d)).elim l λn=>dJ (n.symm.trans q)) (.inr (.inr ⟨λn=>dJ (n.symm.trans q),l⟩)) (X.ext.kept a o q l),X.ext.grow,X.ext.zgrow,X.ext.os,X.ext.gkept,X.ext.ggrow⟩
 fr:=X.fr
 exc:=⟨h,k,b.new,F,z,λa o q d hc=>by
  have i:∃o',s.heap.get? a=Wu o':=by
   rcases hc with hc |hc |hc
   ·cases q2:Z a with
    |none=>exact absurd q2 hc
    |some o'=>exact⟨o',X.sim.frozen a o' q2⟩
   ·exact X.sim.live hc
   ·cases q2:c7.heap.get? a with
    |none=>exact absurd q2 hc.1
    |some o'=>exact⟨o',X.ext.kept a o' q2 hc.2⟩
  refine al i λo' x=>?_;have v:=b.most a o' x d hc;exact(No ((k a o' v).symm.trans q))▸v⟩
end
section
variable{M:Model}{c:String}{ea:vn}{c7 s:KY}{hY Z:eb}{Y:aa}{e:LP}{Q:Unit->KY->Prop}
def Iy{vs:Array Value}{j:Bool}(J:A.frames=Wu (z::g4))(x:s.heap.FunFrames f (z::g4))(D:z.frame=Wu L)(W:s.heap.get? e=Wu oe)(G:f.StaysIn s.heap)(K:f.get? e=Wv)(R:oe.data=.fields vs)(d6:1<vs.size)
  (h:∀h' T V ts,f.StaysIn h'->h'.FunFrames f (z::g4)->s.heap.UpToSlots h'->h'.get? e=Wu (Nf (·.setIfInBounds 1 (.ref T)) oe)->f.get? T=Wv->T≠e->h'.get? T=Wu V->V.data=.fields ts->ts[3]?=Wu (MC L)->Q () {s with heap:=h' }):LC M A (do let a <-frameOf z;let v <-entryPlaceOf L j;let b <-Uq g a .none (MC L) .none v;setField (.ref e) 1 b) Q E s:=by
 have c:∀a o,s.heap.get? a=Wu o->(∀Y,o.data ≠ .fields Y)->a≠e:=λa o q n C=>by
  subst C;exact n vs ((congrArg Obj.data (No (q.symm.trans W))).trans R)
 refine KI (wpAny_frameOf_fun J x D λh1 d=>KI (wpAny_entryPlaceOf λv p=>?_));have Z:e∉(z::g4).filterMap (·.frame):=λC=>ag (x.mem C).2 λo m t=>c e o m t rfl;have l:h1.get? e=Wu oe:=(d.2.1 e Z).trans W;have fI:f.StaysIn h1:=λa o q=>(d.2.1 a λC=>by rw[(x.mem C).1] at q;cases q).trans (G a o q);unfold Uq newFields;refine KI (Mk ?_ (p.sizeOk5 _ _ _ _ _));generalize r:({cls:=.type "traceback",data:=.fields ([g,.ref L,.none,MC L,.none]++(if v.isEmpty then List.replicate 6 My else v)).toArray}:Obj)=y;have u:h1.objs.size≠e:=Qg (Mf l);have k:=Ld y l;have F:=Og R (·.setIfInBounds 1 (Pm h1.objs.size));have i:∀a o,a≠e->h1.get? a=Wu o->((h1.push y).update e (Nf (·.setIfInBounds 1 (Pm h1.objs.size)))).get? a=Wu o:=λa o C q=>(Qf _ _ (Ne.symm C)).trans (Ld _ q);refine PJ k R d6 (h _ h1.objs.size y _ (λa o q=>i a o (λC=>by rw[C,K] at q;cases q) (fI a o q)) (x.of_keeps λa o q n=>?_) (λa o q n=>?_) (LV _ k (NG F)) fI.fresh u
  ((Qf _ _ (Ne.symm u)).trans (Lc h1 (by subst r;rfl))) (by subst r;rfl) ?_)
 ·exact al (d.2.2 a o q) λsl C=>⟨_,i a _ (c a o q n) C,rfl⟩
 ·exact al (d.2.2 a o q) λsl C=>⟨sl,i a _ (c a o q n) C⟩
 ·rcases p with rfl |⟨_,_,_,_,_,_,_,rfl⟩ <;> rfl
def XP.note(G:A.frames=Wu (z::g4))(X:XP B c ea c7 hY (z::g4) Y e fl s Z)(W:fl=Wv\/fl=Wu .none\/fl=Wu (MC z.locals))
  (h:∀h',XP B c ea c7 hY (z::g4) Y e (Wu (MC z.locals)) {s with heap:=h' } Z->Q () {s with heap:=h' }):LC M A (Qo (.ref e) z) Q E s:=by
 have f:=(X.fr z (KJ ..)).1;refine al X.exc λp b=>?_;refine sn b.at_ λN vs R K J S t=>?_;have x:∀ {h':Heap} {T:LP} {r:Obj} {l:Array Value},1<vs.size->h'.get? e=Wu (Nf (·.setIfInBounds 1 (.ref T)) N)->p.get? T=Wv->T≠e->h'.get? T=Wu r->r.data=.fields l->l[3]?=Wu (MC z.locals)->xp c h' p e (Wu (MC z.locals)):=fun{h' T r l} d6 q1 q2 q3 q4 q5 q6 =>
  ⟨_,_,q1,(Tp _ _).trans K,Og J _,λC=>by rw[Array.getElem?_setIfInBounds_ne ⋯];exact S C,T,r,l,by simp[d6],q2,q3,q4,q5,q6⟩
 unfold Qo;simp only[f];cases fl with
 |none =>
  have d6:1<vs.size:=(OZ.mp t).1;refine KI (NL R J t ?_);rw[if_neg ⋯];exact Iy G b.frames f R b.stays b.new J d6 λh' T r l k F u q1 q2 q3 q4 q5 q6=>h h' (X.turn b k F (x d6 q1 q2 q3 q4 q5 q6) u)
 |some v =>
  refine jH t λT r l H V g m j D=>?_;have d6:1<vs.size:=(OZ.mp H).1;refine KI (NL R J H ?_);rw[if_pos (show (Pm T != My)=Ww from by simp)];refine KI (NL m j D ?_);rcases W with q |q |q
  ·cases q
  ·cases q
   rw[if_neg (show ¬ ((My==MC z.locals)=Ww) from by simp[MC])];have y:3<l.size:=(OZ.mp D).1;refine KI (PJ m j y ?_);have U:=Og j (·.setIfInBounds 3 My);have i:∀a,a≠T->(s.heap.update T (Nf (·.setIfInBounds 3 .none))).get? a=s.heap.get? a:=λa C=>Qf _ _ (Ne.symm C);have d:∀a o,s.heap.get? a=Wu o->(∀vs,o.data ≠ .fields vs)->a≠T:=λa o q n C=>by
    subst C;exact n l ((congrArg Obj.data (No (q.symm.trans m))).trans j)
   exact Iy (s:={ s with heap:=s.heap.update T (Nf (·.setIfInBounds 3 .none))}) G (b.frames.of_keeps λa o q n=>⟨o,(i a (d a o q n)).trans q,rfl⟩) f ((i e (Ne.symm g)).trans R)
    (λa o q=>(i a λC=>dJ (V.symm.trans (C▸q))).trans (b.stays a o q)) b.new J d6 λh' T' P L k F u q1 q2 q3 q4 q5 q6 =>
    h h' (X.turn b k F (x d6 q1 q2 q3 q4 q5 q6) λa o q n=>u a o ((i a (d a o q n)).trans q) n)
  ·cases q
   rw[if_pos (show (MC z.locals==MC z.locals)=Ww from beq_self_eq_true _)];exact KN (h s.heap X)
def XP.set{v:Value}(y:Option LP)(X:XP B c ea c7 hY g4 Y e (Wu v) s Z)
  (h:∀h',XP B c ea c7 hY g4 Y e (Wu (y.elim .none λf=>MC f)) {s with heap:=h' } Z->Q () {s with heap:=h' }):LC M A (Ti (.ref e) y) Q E s:=by
 refine al X.exc λV b=>?_;obtain⟨W,vs,J,r,K,m,T,t,G,R,p,u,x,k,g⟩:=b.at_;have l:3<G.size:=(OZ.mp g).1;have i:∀b,b≠T->(s.heap.update T (Nf (·.setIfInBounds 3 (y.elim .none λf=>MC f)))).get? b=s.heap.get? b:=λb n=>Qf _ _ (Ne.symm n);have d:∀b o,s.heap.get? b=Wu o->(∀vs,o.data ≠ .fields vs)->b≠T:=λb o n j q=>by
  rw[q,x] at n;injection n with n;subst n;exact j G k
 unfold Ti;refine KI (NL J K R ?_);rw[if_pos (show (Pm T != My)=Ww from by simp)];exact PJ x k l (h _ (X.turn b (λa o q=>(i a λz=>dJ (p.symm.trans (z▸q))).trans (b.stays a o q)) (b.frames.of_keeps λa o q j=>⟨o,(i a (d a o q j)).trans q,rfl⟩)
  ⟨W,vs,(i e (Ne.symm u)).trans J,r,K,m,T,_,_,R,p,u,LV _ x (NG (Og k _)),Og k _,by simp[l]⟩ λa o q j=>⟨o.slots,(i a (d a o q j)).trans q⟩))
def XP.leave(a:A.frames=Wu (z::g4))(X:XP B c ea c7 hY (z::g4) Y e fl s Z)(d:fl=Wv\/fl=Wu .none\/fl=Wu (MC z.locals))
  (h:∀h',XP B c ea c7 hY (z::g4) Y e (Wu .none) {s with heap:=h' } Z->Q () {s with heap:=h' }):LC M A (leaving z (.ref e)) Q E s:=by
 unfold leaving;exact KI (X.note a d λl k=>k.set Wv λi j=>h i j)
def XP.back{v:Value}(X:XP B c ea c7 hY (z::g4) Y e (Wu v) s Z)
  (h:∀h',XP B c ea c7 hY (z::g4) Y e (Wu (MC z.locals)) {s with heap:=h' } Z->E (.ref e) {s with heap:=h' }):UU M A z E (.ref e) s:=by
 have j:=(X.fr z (KJ ..)).1;refine al X.exc λd b=>?_;obtain⟨p,vs,k,a,l,x,T,u,o,n,r⟩:=b.at_;unfold UU;refine KI (NL k l n ?_);rw[if_neg (show ¬ ((Pm T==My)=Ww) from by simp),j];exact X.set (Q:=λO i=>E (.ref e) i) (Wu z.locals) h
def XP.pop{o:el}(X:XP B c ea c7 hY (z::g4) ((z.locals,o)::Y) e fl s Z)(k:∀f∈g4,f.locals≠z.locals):XP B c ea c7 hY g4 Y e fl s Z where
 sim:=X.sim.drop1
 ext:=X.ext.less (λa h=>KP _ h) λg h=>by
  show g∈gkeys ((z.locals,o)::Y);unfold gkeys;rw[MG];split
  ·exact h
  ·exact KP _ h
 fr:=λf d=>⟨(X.fr f (KP _ d)).1,(X.fr f (KP _ d)).2.1,al (X.fr f (KP _ d)).2.2 λm l=>⟨m,(KZ.mp l).resolve_left λq=>k f d (congrArg Prod.fst q)⟩⟩
 exc:=al X.exc λi b=>⟨i,b.stays,b.new,b.frames.2.2,b.at_,λa q p n hx=>b.most a q p (λC=>by
  have d:=(X.fr z (KJ ..)).1;rw[show dq (z::g4)=z.locals::dq g4 from by simp only[dq,MG,d]] at C;refine(KZ.mp C).elim (λC=>?_) n;subst C;have j:z.locals∈keys ((z.locals,o)::Y):=KJ ..;rcases hx with hx |hx |hx
  ·exact hx (X.sim.zkey j)
  ·exact(Lp.mp X.sim.nodup).1 hx
  ·exact(X.ext.grow _ j).elim hx.2 hx.1) (hx.imp id (VK (KP _)))⟩
end
section
variable{c:String}{ea D:vn}{c7 c5 s:KY}{hY F Z:eb}{Y:aa}{e:LP}{fl:Option Value}
def XP.rebase(X:XP B c D c5 F g4 Y e fl s Z)(C:hO ea c7 hY c5 F D):XP B c ea c7 hY g4 Y e fl s Z where
 sim:=X.sim
 ext:=C.trans X.ext
 fr:=X.fr
 exc:=al X.exc λd b=>⟨d,b.stays,b.new,b.frames,b.at_,λa o q k j=>b.most a o q k (j.imp id (Wh id λz=>by
  cases q2:c7.heap.get? a with
  |none=>exact absurd q2 z.1
  |some i=>exact⟨λn=>dJ (n.symm.trans (C.kept a i q2 z.2)),λn=>(C.grow a n).elim z.2 λn=>dJ (n.symm.trans q2)⟩))⟩
def hB.fun{c:Heap}(S:ca B s Z Y)(d:∀a∈dq g4,c.get? a=Wv)(h:hB g4 Y):s.heap.FunFrames c g4:=by
 induction g4 with
 |nil=>trivial
 |cons z g4 e =>
  have f:=h z (KJ ..);refine⟨f.2.1,?_,e (λa p=>d a (by unfold dq;rw[MG,f.1];exact KP _ p)) λx i=>h x (KP _ i)⟩;refine al f.2.2 λm l=>ag (show pl Z s.heap z.locals m from S.own _ l) λg k O=>?_;refine bL k λo r u j n O=>?_;exact⟨_,o,f.1,d _ (by unfold dq;rw[MG,f.1];exact KJ ..),j,λvs q=>nomatch n.symm.trans q⟩
def XP.of_new{h':Heap}{tk:Nat}{vs:Array Value}(S:ca B s Z Y)(fr:hB g4 Y)(k:∀a o,s.heap.get? a=Wu o->h'.get? a=Wu o)(l:s.heap.get? e=Wv)
  (n:h'.get? e=Wu b) (r:b.cls=.type c) (p:b.data=.fields vs) (v:vs[1]?=Wu .none) (h0:vs[0]?=Wu f) (u:c = "AttributeError" -> vs[2]?=Wu .none):XP B c (aj Y) s Z g4 Y e Wv {s with heap:=h',toks:=tk} Z where
 sim:=S.keep (c5:={ s with heap:=h',toks:=tk}) k (λO O e=>e) S.bare
 ext:=⟨.refl _,λa o q O=>k a o q,λO h => .inl h,λO O q => .inl q,rfl,λO O q O=>q,λO h => .inl h⟩
 fr:=fr
 exc:=by
  refine⟨VU s.heap (dq g4),λa o q=>k a o (UO _ q),?_,(fr.fun S λa i=>RV _ i).of_keeps λa o q O=>⟨o,k a o q,rfl⟩,⟨b,vs,n,r,p,u,v⟩,λa o q i hx=>?_⟩
  ·cases q:(VU s.heap (dq g4)).get? e with
   |none=>rfl
   |some o=>exact dJ (l.symm.trans (UO _ q))
  ·have d:∃o',s.heap.get? a=Wu o':=by
    rcases hx with hx |hx |hx
    ·cases q2:Z a with
     |none=>exact absurd q2 hx
     |some o'=>exact⟨o',S.frozen a o' q2⟩
    ·exact S.live hx
    ·cases q2:s.heap.get? a with
     |none=>exact absurd q2 hx.1
     |some o'=>exact⟨o',rfl⟩
   refine al d λo' j=>?_;exact No ((k a o' j).symm.trans q)▸hideAll_get _ j i
end
section
variable{c:String}{ea:vn}{c7 s:KY}{hY Z:eb}{l Y:aa}{e:LP}{fl:Option Value}
def XP.drop1{p:LP×el}(X:XP B c ea c7 hY g4 (p::Y) e fl s Z)(fr:hB g4 Y):XP B c ea c7 hY g4 Y e fl s Z where
 sim:=X.sim.drop1
 ext:=X.ext.less (λa h=>KP _ h) λg h=>by
  show g∈gkeys (p::Y);unfold gkeys;rw[MG];split
  ·exact h
  ·exact KP _ h
 fr:=fr
 exc:=al X.exc λd b=>⟨d,b.stays,b.new,b.frames,b.at_,λa q k j i=>b.most a q k j (i.imp id (VK (KP _)))⟩
def XP.drop(X:XP B c ea c7 hY g4 (l++Y) e fl s Z)(a:hB g4 Y):XP B c ea c7 hY g4 Y e fl s Z:=by
 induction l with
 |nil=>exact X
 |cons p l d=>exact d (X.drop1 λz h=>⟨(a z h).1,(a z h).2.1,al (a z h).2.2 λm i=>⟨m,LJ _ i⟩⟩)
end
structure dt (A:Lk) (k:Nat):Prop where
 h:A.handled=Wv
 d:A.depth+k<=Na
 u:A.units+k<=cLine
def dt.mono(r:dt A k)(h:j<=k):dt A j:=⟨r.h,Mc (OE h _) r.d,Mc (OE h _) r.u⟩
def dt.in1(r:dt A (k+1)):dt A.in1 k:=⟨r.h,Mc (OE (Pp k) _) r.d,by have:=r.u;show A.units+1+k<=cLine;omega⟩
def dt.deeper(r:dt A (k+3)):dt (A.deeper z) k:=⟨r.h,by have:=r.d;show A.depth+1+k<=_;omega,by have:=r.u;show A.units+3+k<=cLine;omega⟩
def dt.lt(r:dt A (k+1)):A.depth<Na:=by have:=r.d;omega
def dt.ult(r:dt A (k+1)):A.units<cLine:=by have:=r.u;omega
section
variable{M:Model}{q:End->KY->Prop}{c:Code}{C:List Frame}
def aS(M:Model)(A:Lk)(q:End->KY->Prop)(c:Code)(t:Sem Fin)(C:List Frame)(s:KY):Prop:=∀a p,a.code=c->a.Woken A->∃e d,Runs M a p t C s e d/\q e d
def dD{K:α->Sem Fin}{gd lv}
  (h:LC M (A.over c C) m (λa s'=>aS M A q c (K a) C s') (λx s'=>aS M A q c (H x) C s') s):aS M A q c (m.wrap K H gd lv) C s:=by
 rintro e p rfl d
 exact runs_wrap_of_wp K H gd lv m (h (e.over C) p (d.over C)) (λa i s' j=>j e i rfl d) (λx i s' j=>j e i rfl d)
def jP{k:Unit->Sem Fin}(h:aS M A q c (k ()) C s):aS M A q c (.at b k) C s:=dD (m:=PM b) (K:=k) (H:=.raise) (gd:=id) (lv:=id) (LN h)
def aBM{l:List Value}{k:Unit->Sem Fin}(h:aS M A q c (k ()) C s):aS M A q c (.point l k) C s:=dD (m:=point) (K:=k) (H:=.raise) (gd:=id) (lv:=λO=>l) (Sf h)
def aBN{h g l}{k:Result->Sem Fin}(o:∀p,aS M A q b (M.den b) (.ret k h g l c p []::C) s):aS M A q c (.call b h g l k) C s:=by
 rintro d p rfl a
 exact bG (o p (d.goto b) p rfl (a.goto b)) λe i j n=>eY e i (runs_call_seg j) n
def DU{k h g l c₁ b f}(r:Result)(n:aS M A q c₁ (k r) C s):aS M A q c (leafOf r) (.ret k h g l c₁ b f::C) s:=by
 rintro d p rfl a
 exact bG (n (d.goto c₁) b rfl (a.goto c₁)) λe i j o=>eY e i (Runs.pop r j) o
def oV{a:Code}(l:a.quiet=Ww)(o:aS M A q a (M.den a) C s):aS M A q c (.pure (.again a)) C s:=by
 rintro i p rfl d
 exact bG (o (i.goto a) p rfl (d.goto a)) λe j k n=>eY e j (Runs.head (c₁:=a) (λO O x => .again l x) k) n
def yp(r:Result)(h:q (.ret r) s):aS M A q c (leafOf r) [] s:=by
 rintro a p rfl _
 exact eY (.ret r) s (Runs.leaf r) h
def DT{v g l}{k:Resume->Sem Fin}(a:splitAtGen C=Wv)(h:∀p,q (.susp v g l k c p C) s):aS M A q c (.yield v g l k) C s:=by
 rintro d p rfl _
 exact eY _ s (Runs.yield' C a) (h p)
set_option backward.match.sparseCases false in
def vg(M:Model)(A:Lk)(q:End->KY->Prop)(gs:NZ)(s:KY):Prop:=match gs with
 |.fresh c=>aS M A q c (M.den c) [] s
 |.suspended k _ c _ C _=>aS M A q c (k (.send .none)) C s
 |_=>False
def CV{g:Nat}{l:List Value}{k:GenResult->Sem α}{Q:α->KY->Prop}(x:s.gens[g]?=Wu gs)
  (i:vg M A q gs (s.setGen g .running)) (v:∀e c5,q e c5->e.quiet=Ww)
  (y:∀e c5,q e c5->LC M A (k e.result) Q E (c5.setGen g e.genState)):LC M A (.resume g (.send .none) l k) Q E s:=by
 intro o p d;rw[Sem.wp_resume];cases gs with
 |fresh c =>
  exact bG (i (o.wake c p) p rfl (d.wake c p)) λa c5 r n=>eY _ _ (by unfold Wakes;exact(Eq.symm (x))▸Kf a c5 r (v a c5 n) rfl rfl) (y a c5 n o p d)
 |suspended G u j z C cl =>
  exact bG (i (o.wake j p) z rfl (d.wake j p)) λa c5 r n=>eY _ _ (by unfold Wakes;exact(Eq.symm (x))▸Kf a c5 r (v a c5 n) rfl rfl) (y a c5 n o p d)
 |running=>exact i.elim
 |finished=>exact i.elim
end
def vU(h:∀i d e,({s with heap:=(s.heap.push i).push d}:KY).TypeIs (.ref e) "StopIteration" -> Q (.ref e) {s with heap:=(s.heap.push i).push d}):LC (Ly b w) A (VQ (.type "StopIteration") []) Q E s:=by
 dsimp only[VQ,newTuple];refine KI (Mk ?_ (by size_fits));refine KI (m:=Nz _ _) (Mo (a:=My) (by first |rfl |(dsimp only[Nz];rfl)) ?_);exact Mk (h _ _ _ ⟨_,Lc _ rfl,rfl⟩) (by size_fits)
def sW{e:LP}{Q:α->KY->Prop}(a:A.handled=Wv)(h:E (.ref e) s):LC (Ly b w) A (raiseNew (.ref e)) Q E s:=by
 dsimp only[raiseNew];refine KI (wpAny_handled ?_);rw[a];exact Te h
def nS{v:Value}{T id:String}{Q:Option Value->KY->Prop}(i:s.TypeIs v T)(d:Slot T (KX "__next__") id)(k:PW table id=Wu b)(l:Oo id ⟨[v],[]⟩)
  (j:LC (Ly c w) A.in1 (b ⟨[v],[]⟩) (λa s'=>∃x,a=.done (.ret x)/\Q (Wu x) s') (λe s'=>s'.TypeIs e "StopIteration" /\ Q Wv s') s):LC (Ly c w) A (Nr v) Q E s:=by
 unfold Nr;refine KI (Ny (Mj (name:=KX "__next__") i d (Mb d i k (Mg j (λa s' h=>?_) λe s' h=>?_) l)))
 ·exact ag h λx e q=>⟨x,e,KN q⟩
 ·exact KI (MR (T := "StopIteration") (b:=Ww) h.1 isSubtype_stop (KN h.2))
def xd(e:End):Prop:=e=.ret (.ok (.ret .none))\/e=.ret (.ok .next)
def sC{g:Nat}{Q:Option Value->KY->Prop}(y:A.handled=Wv)
  (x:s.heap.NoLimit) (d:A.depth<Na) (p:s.heap.IsGen a g) (j:s.gens[g]?=Wu gs)
  (i:vg (Ly ab w) A.in1 c gs (s.setGen g .running)) (r:∀e c5,c e c5->e.quiet=Ww)
  (G:∀e c5 v,c e c5->e.result=.yielded v->Q (Wu v) (c5.setGen g e.genState))
  (J:∀e c5,c e c5->(∃v,e.result=.yielded v)\/(xd e/\∀h',(∀b o,c5.heap.get? b=Wu o->h'.get? b=Wu o)->Q Wv {c5.setGen g .finished with heap:=h' })):LC (Ly ab w) A (Nr (.ref a)) Q E s:=by
 refine nS p.typeIs Vm UR (Vp _) ?_;show LC _ _ (Pl (.ref a) (.send .none)) _ _ s;unfold Pl;refine KI (Lh (UA p (KI (UM j ?_))));cases gs with
 |running=>exact i.elim
 |finished=>exact i.elim
 |_ =>
  refine KI (wpAny_roomToWake x d ?_);show LC _ _ (.resume g (.send .none) [] _) _ _ s;refine CV j i r λe c5 l=>?_;rcases J e c5 l with ⟨v,n⟩ |⟨k,u⟩
  ·exact(Eq.symm (n))▸KN ⟨v,rfl,G e c5 v l n⟩
  ·rcases k with rfl |rfl
   all_goals
    show LC _ _ (VQ (.type "StopIteration") []>>=_) _ _ _;exact KI (vU λR K e k=>KI (sW (A:=A.in1) y ⟨k,u _ λb o z=>Ld _ (Ld _ z)⟩))
section
def bI(V:St):ay z V=aj ((z.locals,.ns V.loc)::V.led):=by
 unfold ay aj;congr 1
 funext a
 simp only[keys,Le,KZ]
def ff.toL(S:ff B z s Z V):ca B s Z ((z.locals,.ns V.loc)::V.led) where
 base:=S.base
 frozen:=S.frozen
 nodup:=Lp.mpr ⟨S.locL,S.nodup⟩
 apart:=λp hp=>by
  rcases KZ.mp hp with rfl |hp
  ·exact S.locZ
  ·exact S.apart p hp
 own:=λp hp=>by
  rcases KZ.mp hp with rfl |hp
  ·exact S.loc
  ·exact S.own p hp
 gnodup:=S.gnodup
 bare:=S.bare
def ca.toF{V:St}(S:ca B s Z ((z.locals,.ns V.loc)::V.led))(a:∀x v,V.loc.lookup x=Wu v->z.kindOf x=Wu .local)(d:z.scope.kind=.function):ff B z s Z V where
 toca:=S.drop1
 locZ:=S.apart _ (KJ ..)
 locL:=(Lp.mp S.nodup).1
 loc:=S.own _ (KJ ..)
 kinds:=a
 fn:=d
def kn(N Y:aa):Prop:=∀p∈N,p∈Y
def kn.app(h:kn N Y)(l:aa):kn N (l++Y):=λp a=>LJ _ (h p a)
def kn.cons(h:kn N Y)(q:LP×el):kn N (q::Y):=λp a=>KP _ (h p a)
def kn.nil:kn [] Y:=λp a=>by cases a
variable{N:aa}
set_option backward.match.sparseCases false in
def AV.bad:AV->Bool
 |.typ _=>Ww
 |_=>Wx
def vl(A:Lk)(a7:List AV)(Y:aa):Prop:=a7.any AV.bad=Ww->∃g4,A.frames=Wu g4/\hB g4 Y
def wL{l:List α}(h:∀x,(f x).bad=Wx):(l.map f).any AV.bad=Wx:=by
 induction l with
 |nil=>rfl
 |cons x l a=>exact Py.mpr ⟨h x,a⟩
def vl.nil:vl A [] Y:=λh=>nomatch h
def vl.good{a7:List AV}(h:a7.any AV.bad=Wx):vl A a7 Y:=λq=>absurd (h.symm.trans q) LZ
def oI(B:eb)(A:Lk)(Y:aa)(ea:vn)(c7:KY)(hY:eb)(e:End)(s':KY):Prop:=∃x g4 a,e=.ret (.error (.ref x))/\A.frames=Wu g4/\XP B "TypeError" ea c7 hY g4 Y x (Wu .none) s' a
def ju(w:Lz)(B:eb)(N:aa)(n:Nat):List AV->aa->NZ->Prop
 | [],a,k=>∀A,dt A n->∀Y,kn N Y->vl A [] Y->∀s Z,ca B s Z (a++Y) ->
   vg (Ly ab w) A (λe i=>xd e/\∃j,ca B i j Y/\hO (aj (a++Y)) s Z i j (aj Y)) k s
 |g0::rest,a,k=>∀A,dt A n->∀Y,kn N Y->vl A (g0::rest) Y->∀s Z,ca B s Z (a++Y) ->
   vg (Ly ab w) A (λe i=>(g0.bad=Ww->oI B A Y (aj (a++Y)) s Z e i)/\(g0.bad=Wx->e.quiet=Ww/\∃v j d,e.result=.yielded v/\ca B i j (d++Y)/\Val j g0 v/\hO (aj (a++Y)) s Z i j (aj (d++Y))/\ju w B N n rest d e.genState)) k s
def sf(w:Lz)(B:eb)(N:aa)(n:Nat)(A:Lk)(a7:List AV)(Y:aa)(ea:vn)(c7:KY)(hY:eb)(e:End)(s':KY):Prop:=match a7 with
 | []=>xd e/\∃d,ca B s' d Y/\hO ea c7 hY s' d (aj Y)
 |g0::rest=>(g0.bad=Ww->oI B A Y ea c7 hY e s')/\(g0.bad=Wx->e.quiet=Ww/\∃v d a,e.result=.yielded v/\ca B s' d (a++Y)/\Val d g0 v/\hO ea c7 hY s' d (aj (a++Y))/\ju w B N n rest a e.genState)
def ju.iff:ju w B N n a7 b gs↔∀A,dt A n->∀Y,kn N Y->vl A a7 Y->∀s Z,ca B s Z (b++Y)->vg (Ly ab w) A (sf w B N n A a7 Y (aj (b++Y)) s Z) gs s:=by
 cases a7 <;> rfl
def zn(w:Lz)(B:eb)(N:aa)(n:Nat)(z:Env)(c:Code)(t:Sem Fin)(e:List Frame)(a7:List AV)(V:St):Prop:=∀A,dt A n->∀Y,kn N Y->vl A a7 Y->∀a c7 d s Z,ff B z s Z ⟨V.loc,V.led++Y⟩->hO a c7 d s Z (ay z ⟨V.loc,V.led++Y⟩)->aS (Ly ab w) A (sf w B N n A a7 Y a c7 d) c t e s
structure Sk (n m:Nat) (z:Env) (c:Code) (fs:List Frame):Prop where
 room:∀A,dt A n->dt (A.over c fs) m
 frames:∀A:Lk,(A.over c fs).frames=A.frames.map (z :: ·)
 split:splitAtGen fs=Wv
 quiet:fs.any Frame.guarded=Wx
inductive va:dr->Flow->Prop
 |next:va .next .next
 |brk:va .brk .brk
 |cont:va .cont .cont
 |ret:va (.ret .none) (.ret .none)
def va.of{x:Flow}(p:match f with |.ret v=>v=.none |_=>True)(V:fv Z f x):va f x:=by
 induction V with
 |next=>exact .next
 |brk=>exact .brk
 |cont=>exact .cont
 |ret a =>
  dsimp only at p;subst p;exact(show _=_ from a.inv)▸.ret
def HX(w:Lz)(B:eb)(n:Nat)(z:Env)(c:Code)(H:Value->Sem Fin)(i:List Frame):Prop:=∀A,dt A n->∀Y g4,A.frames=Wu g4->hB g4 Y->∀a c7 d s Z (V:St) e fl,Kj z fl->XP B "TypeError" a c7 d (z::g4) ((z.locals,.ns V.loc)::(V.led++Y)) e fl s Z->aS (Ly ab w) A (oI B A Y a c7 d) c (H (.ref e)) i s
def TG(w:Lz)(B:eb)(N:aa)(n m:Nat)(z:Env)(t:Sem Flow)(V:St)(a7:List AV)(K:dr->St->List AV->Prop):Prop:=∀c e (i:Flow->Sem Fin) H gd lv,Sk n m z c e->gd Wx=Wx->HX w B n z c H e->(∀f x d a,K f d a->va f x->zn w B N n z c (i x) e a d)->zn w B N n z c (t.wrap i H gd lv) e a7 V
variable{n m:Nat}{V:St}{a7:List AV}{K:dr->St->List AV->Prop}
def Jw(h:∀A,dt A m->∀Y,kn N Y->T w A B z fv t ⟨V.loc,V.led++Y⟩ λf di=>∃l,di.led=l++Y/\(match f with |.ret v=>v=.none |_=>True)/\K f ⟨di.loc,l⟩ a7):TG w B N n m z t V a7 K:=λc g q H b Q r R W u A j Y i y a c7 d s Z S X=>dD (h _ (r.room A j) Y i s Z S _ _ λf x o E di k J U G=>by
  obtain⟨ft,a8⟩:=di;refine bn k ?_;clear k;intro l e p k;dsimp only at e k;subst e;refine u f x ⟨ft,l⟩ a7 k ?_ A j Y i y a c7 d o E J (X.trans G);exact .of p U)
def TG.spare(x:Str)(j:z.kindOf x=Wu .local)(h:TG w B N n m z t ⟨a6++[(x,.any)],Y⟩ a7 K):TG w B N n m z t ⟨a6,Y⟩ a7 K:=λc y E H v e i k l p A u a8 o r a c7 d s Z S X=>h c y E H v e i k l p A u a8 o r a c7 d s Z (S.spare x j) X
def TG.spares(W:List Str)(a:(W.all λx=>decide (z.kindOf x=Wu .local))=Ww)(h:TG w B N n m z t ⟨a6++W.map λx=>(x,.any),Y⟩ a7 K):TG w B N n m z t ⟨a6,Y⟩ a7 K:=by
 induction W generalizing a6 with
 |nil=>rw[NU,Ms] at h;exact h
 |cons x W d =>
  simp only[SW,Mv] at a;exact TG.spare x (of_decide_eq_true a.1) (d a.2 (by rw[LH];exact h))
def bv(h:K .next V a7):TG w B N n m z (execs [] z) V a7 K:=λc l o H k d e i j a=>a .next .next V a7 h .next
def DS(w:Lz)(B:eb)(N:aa)(n m:Nat)(z:Env)(rest:List Stmt)(K:dr->St->List AV->Prop)(f:dr)(di:St)(a:List AV):Prop:=match f with
 |.next=>TG w B N n m z (execs rest z) di a K
 |f=>K f di a
def bP{x:Stmt}(h:TG w B N n m z (exec x z) V a7 (DS w B N n m z rest K)):TG w B N n m z (execs (x::rest) z) V a7 K:=λc s u H r i j l o e=>by
 rw[execs_cons_wrap];refine h c s _ H r i j l o λf y d a k p=>?_;induction p with
 |next=>exact k c s u H r i j l o e
 |brk=>exact e _ _ d a k .brk
 |cont=>exact e _ _ d a k .cont
 |ret=>exact e _ _ d a k .ret
def aIF
  (h:∀A,dt A m->∀Y,kn N Y->T w A B z aM (isTrue g z (ME g z)) ⟨V.loc,V.led++Y⟩ λb di=>∃l,di.led=l++Y /\
   if b then TG w B N n m z (execs c6 z) ⟨di.loc,l⟩ a7 K else TG w B N n m z (execs f z) ⟨di.loc,l⟩ a7 K):TG w B N n m z (exec (.If g c6 f a9) z) V a7 K:=λc u v H r i j E G J A p Y o Q a c7 d s Z S X=>by
 rw[show exec (.If g c6 f a9) z=(PM a9>>=λO=>isTrue g z (ME g z)>>=λb=>if b=Ww then execs c6 z else execs f z) from rfl];refine jP ?_;show aS _ A _ c ((isTrue g z (ME g z)>>=λb=>if b=Ww then execs c6 z else execs f z).wrap v H r i) u s;rw[Mw,MS];refine dD (h _ (j.room A p) Y o s Z S _ _ λb x y R di k q U W=>?_);obtain⟨ft,a8⟩:=di;refine ag k ?_;clear k;intro l e k;dsimp only at e k;subst e;unfold aM at U;subst U;cases x with
 |true=>exact k c u v H r i j E G J A p Y o Q a c7 d y R q (X.trans W)
 |false=>exact k c u v H r i j E G J A p Y o Q a c7 d y R q (X.trans W)
def aIE{e:Expr}
  (h:∀A,dt A m->∀Y,kn N Y->T w A B z Val (ME e z) ⟨V.loc,V.led++Y⟩ λv di=>∃l rest,a7=v::rest/\v.bad=Wx/\di.led=l++Y/\K .next ⟨di.loc,l⟩ rest)
  (u:z.scope.isCoroutine=Wx) (g:PV z=Wx):TG w B N n m z (exec (.Expr (.Yield (Wu e) b) a9) z) V a7 K:=λc P Kc H M W r t hX F A L Y D hF o c7 R s Z S X=>by
 rw[exec_Expr z _ a9 g rfl];have f:∀v,Td z v=yieldValue v:=λv=>by simp only[Td,u,LW,if_false]
 show aS _ A _ c (.at a9 λO=>((ME e z>>=λv=>(PM b>>=λO=>Td z v))>>=λx=>dropValue (.Yield (Wu e) b) a9 x).wrap Kc H M W) P s;simp only[f];refine jP ?_;rw[Mw,Mw,MS,MS];refine dD (h _ (r.room A L) Y D s Z S _ _ λv x j i di k Q U X'=>?_);obtain⟨ft,a8⟩:=di;obtain⟨l,rest,d,C,a,k⟩:=k;dsimp only at a k;subst d;subst a;refine jP (DT r.split λp=>⟨λq=>absurd (C.symm.trans q) LZ,λO=>⟨by simp[End.quiet,t,r.quiet],x,i,(z.locals,.ns ft)::l,rfl,Q.toL,U,?_,?_⟩⟩)
 ·have:=X.trans X';simp only[bI] at this;exact this
 ·rw[ju.iff];intro A' G a8 y E j i J;have SF:ff B z j i ⟨ft,l++a8⟩:=ca.toF (V:=⟨ft,l++a8⟩) J Q.kinds Q.fn;refine F .next .next ⟨ft,l⟩ rest k .next A' G a8 y E _ j i j i SF ?_;simp only[bI];exact .refl
def eg(w:Lz)(B:eb)(N:aa)(n:Nat)(ap:Expr)(it:LP):List AV->aa->Prop
 | [],e=>∀A,dt A n->∀Y,kn N Y->∀s Z,ca B s Z (e++Y)->∀(Q:Option Value->KY->Prop) (E:Value->KY->Prop),(∀a d,ca B a d Y->hO (aj (e++Y)) s Z a d (aj Y)->Q Wv a) ->
   LC (Ly ab w) A (Nr (.ref it)) Q E s
 |x::W,e=>∀A,dt A n->∀Y,kn N Y->∀s Z,ca B s Z (e++Y)->∀(Q:Option Value->KY->Prop) (E:Value->KY->Prop),
   (∀a d v d5,ca B a d (d5++Y)->Val d x v->hO (aj (e++Y)) s Z a d (aj (d5++Y))->eg w B N n ap it W d5->Q (Wu v) a) ->
   LC (Ly ab w) A (Nr (.ref it)) (λr c5=>match r with |none=>False |some v=>LC (Ly ab w) A (Mq ap (.ref it) v) (λO i=>Q (Wu v) i) E c5) E s
def eg.last{Q:α->KY->Prop}(e:eg w B N n ap it [] gl)(i:dt A n)(d:kn N Y)(S:ca B s Z (gl++Y))
  (h:∀s' a,ca B s' a Y->hO (aj (gl++Y)) s Z s' a (aj Y)->LC (Ly ab w) A (f Wv) Q E s'):LC (Ly ab w) A (Nr (.ref it)>>=f) Q E s:=KI (e A i Y d s Z S _ _ h)
def eg.draw{x:AV}{gl Y:aa}{f:Option Value->Sem α}{g:Value->Sem α}{Q:α->KY->Prop}(i:eg w B N n ap it (x::W) gl)(j:dt A n)(e:kn N Y)(S:ca B s Z (gl++Y))
  (d:∀v,f (Wu v)=Mq ap (.ref it) v>>=λO=>g v) (h:∀s' a v d5,ca B s' a (d5++Y)->Val a x v->hO (aj (gl++Y)) s Z s' a (aj (d5++Y))->eg w B N n ap it W d5->LC (Ly ab w) A (g v) Q E s'):LC (Ly ab w) A (Nr (.ref it)>>=f) Q E s:=KI (Mg (i A j Y e s Z S (λr c5=>match r with |none=>False |some v=>LC (Ly ab w) A (g v) Q E c5) E h) (λr c5 k=>by
  cases r with
  |none=>exact k.elim
  |some v=>rw[d];exact KI k) λO O h=>h)
end
open ca renaming toF→l9
section
variable{N:aa}
def ca.perm{l:aa}(S:ca B s Z l)(p:l.Perm l'):ca B s Z l' where
 base:=S.base
 frozen:=S.frozen
 nodup:=(p.map _).nodup_iff.mp S.nodup
 apart:=λq a=>S.apart q (p.mem_iff.mpr a)
 own:=λq a=>S.own q (p.mem_iff.mpr a)
 gnodup:=(p.filterMap _).nodup_iff.mp S.gnodup
 bare:=S.bare
def cB{l:aa}(p:l.Perm l'):aj l=aj l':=by
 unfold aj;congr 1
 ·funext a;exact propext (p.map _).mem_iff
 ·funext a;exact propext (p.filterMap _).mem_iff
def ca.drop:∀ {l l':aa},ca B s Z (l++l')->ca B s Z l'
 | [],_,S=>S
 |_::l,_,S=>ca.drop (l:=l) S.drop1
def eM{g:Nat}{x:NZ}(h:s.gens[g]?=Wu gs):(s.setGen g x).gens[g]?=Wu x:=setGen_self h
def oS{g:Nat}{x:NZ}(h:k≠g):(s.setGen g x).gens[k]?=s.gens[k]?:=by
 show (s.gens.setIfInBounds g x)[k]?=_;rw[Array.getElem?_setIfInBounds];simp[Ne.symm h]
def aDs{g:Nat}{x y:NZ}(h:y∈(s.setGen g x).gens):y=x\/y∈s.gens:=by
 refine al (UF.mp h) λi a=>?_;by_cases e:i=g
 ·subst e;by_cases d:i<s.gens.size
  ·have:=eM (x:=x) (MQ d);rw[this] at a;exact .inl (No a).symm
  ·rw[show (s.setGen i x).gens[i]?=Wv from by
    show (s.gens.setIfInBounds i x)[i]?=Wv;rw[Array.getElem?_eq_none_iff,Array.size_setIfInBounds];omega] at a
   cases a
 ·rw[oS e] at a;exact .inr (UF.mpr ⟨i,a⟩)
def ca.setGen{l:aa}{g:Nat}{x:NZ}(S:ca B s Z l)(i:g∉gkeys l)(hx:x.bare=Ww):ca B (s.setGen g x) Z l where
 base:=S.base
 frozen:=S.frozen
 nodup:=S.nodup
 apart:=S.apart
 own:=λp a=>n0 (s:=s) (s':=s.setGen g x) (.refl _) (λO e=>e) (x:=S.own p a) λk j e h=>by
  rw[oS]
  ·exact h
  ·intro q;subst q;exact i (aDu a e)
 gnodup:=S.gnodup
 bare:=λy d=>by
  rcases aDs d with rfl |h
  ·exact hx
  ·exact S.bare y h
def xd.elim{P:End->Prop}{e:End}(h:xd e)(a:P (.ret (.ok (.ret .none))))(b:P (.ret (.ok .next))):P e:=Or.elim h (λh=>h▸a) λh=>h▸b
def hO.unrun{i d:vn}{l:KY}{g:Nat}{x y:NZ}(X:hO d9 (s.setGen g y) Z c5 f c)(E:∀b o,c5.heap.get? b=Wu o->l.heap.get? b=Wu o)(p:l.os=c5.os)(G:l.gens=(c5.setGen g x).gens)
  (u:∀b,d9.at_ b->i.at_ b) (z:∀k,d9.gn k->i.gn k) (j:i.gn g) (J:∀b,d.at_ b->i.at_ b\/c.at_ b) (v:∀k,d.gn k->k≠g->c.gn k):hO i s Z l f d where
 le:=X.le
 kept:=λb o e r=>E b o (X.kept b o e λq=>r (u b q))
 grow:=λb r=>(J b r).elim .inl λq=>(X.grow b q).imp_left (u b)
 zgrow:=λb o e=>(X.zgrow b o e).imp_right (VK (u b))
 os:=p.trans X.os
 gkept:=λk K e n =>
  have a:k≠g:=λq=>n (q▸j);G▸(oS a).trans (X.gkept k K ((oS a).trans e) λq=>n (z k q))
 ggrow:=λk n=>if a:k=g then .inl (a▸j) else (X.ggrow k (v k n a)).imp (z k) (oS a).symm.trans
def ca.consGen{l:aa}{g:Nat}(S:ca B s Z l)(i:s.heap.IsGen a g)(j:s.gens[g]?=Wu gs)(n:a∉keys l)(k:g∉gkeys l)(o:Z a=Wv):ca B s Z ((a,.gen g gs)::l) where
 base:=S.base
 frozen:=S.frozen
 nodup:=Lp.mpr ⟨n,S.nodup⟩
 apart:=λp d=>(KZ.mp d).elim (λe=>e▸o) (S.apart p)
 own:=λp d=>(KZ.mp d).elim (λe=>e▸⟨i,j⟩) (S.own p)
 gnodup:=Lp.mpr ⟨k,S.gnodup⟩
 bare:=S.bare
def ca.more{s':KY}{l:aa}(S:ca B s Z l)(a:∀b o,s.heap.get? b=Wu o->s'.heap.get? b=Wu o)(d:s'.gens=s.gens):ca B s' Z l where
 base:=S.base
 frozen:=λb o e=>a b o (S.frozen b o e)
 nodup:=S.nodup
 apart:=S.apart
 own:=λp i=>n0 (s:=s) (.refl _) (λo e=>a _ o e) (λO O O e=>d▸e) (S.own p i)
 gnodup:=S.gnodup
 bare:=d▸S.bare
section
variable(c:hW B)
include c
theorem eg.gen_last{g:Nat}(h:ju w B N n [] gl gs):eg w B N (n+1) ap a [] ((a,.gen g gs)::gl):=λA p Y y s Z S Q E u =>
 have i:g∉gkeys (gl++Y):=(Lp.mp S.gnodup).1;aD (S.own _ (KJ ..)) λj l =>
 sC p.h (c.lim s λa o e=>S.frozen a o (S.base a o e)) p.lt j l (h A.in1 p.in1 Y y .nil _ Z (S.drop1.setGen i rfl)) (λe c5 d=>d.1.elim (P:=λe=>e.quiet=Ww) rfl rfl) (λe c5 v d=>d.1.elim (P:=λe=>e.result=.yielded v->_) nofun nofun) λe c5 d => .inr ⟨d.1,λJ r =>
  ag d.2 λz G X=>u _ z (ca.more (ca.setGen (x:=.finished) G (λq=>i (by unfold gkeys;rw[NJ];exact LJ _ q)) rfl) r rfl)
   (X.unrun (x:=.finished) r rfl rfl (λb=>KP _) (λk=>KP _) (KJ ..) (λb => .inr) λk q O=>q)⟩
theorem eg.gen_draw(D:∀Y s Z v g gs gl,ca B s Z ((a,.gen g gs)::gl++Y)->∀A (Q:Unit->KY->Prop) E,Q () s->LC (Ly ab w) A (Mq ap (.ref a) v) Q E s){rest:List AV}
  (t:∀ {g:Nat} {gs:NZ} {gl:aa},ju w B N n rest gl gs->eg w B N (n+1) ap a rest ((a,.gen g gs)::gl)) {g:Nat}   (h:ju w B N n (g0::rest) gl gs) (z:(g0::rest).any AV.bad=Wx):eg w B N (n+1) ap a (g0::rest) ((a,.gen g gs)::gl):=λA J Y U s Z S Q E M=>by
 have y:g0.bad=Wx:=(Py.mp z).1;have i:g∉gkeys (gl++Y):=(Lp.mp S.gnodup).1;have j:a∉keys (gl++Y):=(Lp.mp S.nodup).1;have L:=S.apart _ (KJ ..);refine aD (S.own _ (KJ ..)) λu d=>sC J.h (c.lim s λa o e=>S.frozen a o (S.base a o e)) J.lt u d (h A.in1 J.in1 Y U (.good z) _ Z (S.drop1.setGen i rfl)) (λe c5 l=>(l.2 y).1) (λe c5 v l C=>lL (l.2 y).2 λv' R d5 G S' V X F=>?_) λe c5 l => .inl (fe (l.2 y).2 λv O O e O=>⟨v,e⟩);cases Tb (G.symm.trans C)
 refine fe u λo m f K r=>?_;have p:∀ {P:Prop},s.heap.get? a=Wv->P:=λq=>nomatch q.symm.trans K;have W:=(S'.setGen (x:=e.genState) (λq=>(X.ggrow g q).elim i λq=>nomatch q.symm.trans (eM d)) (Wq (l.2 y).1)).consGen (a:=a) (gs:=e.genState) (xc o m f (X.kept a o K j) r) (eM (X.gkept g _ (eM d) i)) (λq=>(X.grow a q).elim j p) (λq=>(X.ggrow g q).elim i λq=>nomatch q.symm.trans (eM d))
  (Pn.mpr λo e=>(X.zgrow a o e).elim (λq=>nomatch L.symm.trans q) λq=>q.elim j p)
 exact D Y _ R v g e.genState d5 W A _ _ (M _ R v ((a,.gen g e.genState)::d5) W V (X.unrun (x:=e.genState) (λO O e=>e) rfl rfl (λb=>KP _) (λk=>KP _) (KJ ..)
  (λb z=>(KZ.mp z).imp (λe:b=a=>e▸KJ ..) id) λk H q=>(KZ.mp H).resolve_left q) (t F))
end
def eg.gen(e:hW B)(j:∀Y s Z v g gs gl,ca B s Z ((a,.gen g gs)::gl++Y)->∀A (Q:Unit->KY->Prop) E,Q () s->LC (Ly ab w) A (Mq ap (.ref a) v) Q E s){a7:List AV}(d:a7.any AV.bad=Wx):∀ {g:Nat} {gs:NZ} {gl:aa},ju w B N n a7 gl gs->eg w B N (n+1) ap a a7 ((a,.gen g gs)::gl):=by
 induction a7 with
 |nil=>exact λh=>eg.gen_last e h
 |cons g0 rest i=>exact λh=>eg.gen_draw e j (i (Py.mp d).2) h d
end
def gb(w:Lz)(B:eb)(it:LP)(gl:aa):Prop:=∀(A:Lk) (Y:aa) s Z,ca B s Z (gl++Y)->∀(Q:Value->KY->Prop) E,Q (.ref it) s->LC (Ly ab w) A (Pz (.ref it)) Q E s
section
variable{N:aa}
def AT(I:LP)(fp:List LP)(Pv:Nat->Value->Prop)(W:List AV)(St:Nat->Heap->Prop)(i:Nat)(Z:eb)(o:Obj):Prop:=(∀b∈fp,b=I\/∃o,Z b=Wu o)/\(∀i x v,W[i]?=Wu x->Pv i v->Val Z x v)/\(∀h:Heap,h.get? I=Wu o->(∀a o,Z a=Wu o->h.get? a=Wu o)->St i h)
def aEN{I:LP}{St:Nat->Heap->Prop}(Z l:eb)(o:Obj)(k:eb.le Z l)(x:AT I fp Pv W St i Z o):AT I fp Pv W St i l o:=⟨λb n=>(x.1 b n).imp id fun⟨o,h⟩=>⟨o,k _ _ h⟩,λi y v j d=>(x.2.1 i y v j d).mono k,λh j d=>x.2.2 h j λa o e=>d a o (k a o e)⟩
abbrev ie(I:LP)(fp:List LP)(Pv:Nat->Value->Prop)(W:List AV)(St:Nat->Heap->Prop)(i:Nat):el:=.obj (AT I fp Pv W St i) aEN
def eg.walks{I:LP}{St:Nat->Heap->Prop}
  (t:∀A:Lk,A.handled=Wv->Walks ab w A I fp [I] W.length Pv St)
  (G:∀(A:Lk) i (s:KY) v Q E,St i s.heap->Q () s->LC (Ly ab w) A (Mq ap (.ref I) v) Q E s) (u:∀i h,St i h->∃o,h.get? I=Wu o) (k:Nat):∀(d i:Nat),i+d=W.length->eg w B N k ap I (W.drop i) [(I,ie I fp Pv W St i)]:=by
 intro d;induction d with
 |zero =>
  intro i x;have x:i=W.length:=x;subst x;rw[Sd];intro A R Y M s Z S Q E K;refine gg (S.own _ (KJ ..)) λo J f c V=>?_;refine(t A R.h).toS.done s _ _ (V _ J S.frozen) λn j=>?_;have P:=ca.stepE (gl:=[(I,ie I fp Pv W St W.length)]) S j.heap j.gens j.os;exact K n Z P.1 P.2
 |succ d C =>
  intro i x;have r:i<W.length:=x▸OO (Pf d);rw[MP r];intro A R Y M s Z S Q E K;refine gg (S.own _ (KJ ..)) λo J f c V=>?_;have H:=(t A R.h).toS;refine H.item i s _ _ r (V _ J S.frozen) λv n L l j=>G A (i+1) n v _ _ l ?_;refine al (u _ _ l) λm z=>?_;have g:∀a o,Z a=Wu o->n.heap.get? a=Wu o:=λa o e=>j.heap a o (λq=>dJ <| (S.zkey (ib.mpr (.inl q)):Z a=Wv).symm.trans e) (S.frozen a o e);have y:∀h:Heap,h.get? I=Wu m->(∀a o,Z a=Wu o->h.get? a=Wu o)->St (i+1) h:=λh X U=>H.frame (i+1) n h n.toks l (LK _) λb F ob e =>
   (f b F).elim (λq=>by subst q;exact X.trans (z.symm.trans e)) λq=>al q λoz q=>(U _ _ q).trans ((g _ _ q).symm.trans e)
  have P:=ca.stepS (gl:=[(I,ie I fp Pv W St i)]) (d5:=[(I,ie I fp Pv W St (i+1))]) S j.heap (λp D=>Lm.mp D▸aJd m z f c y) rfl rfl j.gens j.os;exact K n Z v [(I,ie I fp Pv W St (i+1))] P.1 (c i _ v (LF r) L) P.2 (C (i+1) ((Oy i d).trans x))
def ca.push(S:ca B s Z Y){ao:el}(a:ao.gnum=Wv)(tk:Nat)(d:Holds Z {s with heap:=s.heap.push o,toks:=tk} s.heap.objs.size ao):ca B {s with heap:=s.heap.push o,toks:=tk} Z ((s.heap.objs.size,ao)::Y)/\hO (aj Y) s Z {s with heap:=s.heap.push o,toks:=tk} Z (aj ((s.heap.objs.size,ao)::Y)):=S.newAt a tk (λO O e=>Ld o e) d
def aEh{I:LP}{v:Value}{Q:Unit->KY->Prop}(h:s.heap.IsListIter I b i)(j:Q () s):LC (Ly ab w) A (Mq ap (.ref I) v) Q E s:=bn h λo a e d=>AR a e d (.inl rfl) j
def aFN{items:List Value}(d:∀a o,Z a=Wu o->s.heap.get? a=Wu o)(e:Z a=Wu {cls:=.type "list",data:=.seq items.toArray n}):s.heap.IsList a items.toArray:=⟨_,d _ _ e,rfl,n,rfl⟩
def CI{V:St}(h:∀it gl,(∀l N,eg w l N k ap it W gl)->(∀l,gb w l it gl)->K (.ref it) ⟨V.loc,gl++V.led⟩):F1 w A B z Val Pz (.lst W) V K:=λs Z x H S Q E D=>by
 refine bL (rA H) λa d n t e f=>?_;subst t;have C:=aFN S.frozen e;refine TS C ?_;have R:a≠s.heap.objs.size:=MA (Mf (S.frozen _ _ e));have p:d.toArray.size=W.length:=by simp[f.length]
 have P:=S.toca.push (o:={ cls:=.type "list_iterator",data:=.fields #[.ref a,.int 0 0]}) (ao:=ie s.heap.objs.size [s.heap.objs.size,a] (λi v=>d.toArray[i]?=Wu v) W (λi h=>h.IsListIter s.heap.objs.size a i/\h.IsList a d.toArray) 0) rfl s.toks
  ⟨_,Lc _ rfl,λb g=>by
   simp only[KZ,MU,or_false] at g;rcases g with rfl |rfl
   ·exact .inl rfl
   ·exact .inr ⟨_,e⟩,λi y v m r=>by
   refine ag (f.get m) λu c Y=>?_;simp only[Pd] at r;rw[c] at r;cases r
   exact Y,λh c Y=>⟨⟨_,c,rfl,rfl⟩,_,Y _ _ e,rfl,n,rfl⟩⟩
 refine D _ _ _ Z _ (h s.heap.objs.size _ (λl N=>eg.walks (w:=w) (B:=l) (ap:=ap) (W:=W) (λA F=>by exact(p)▸Walks.list F s.heap.objs.size a R d.toArray) (λA i s v Q E j G=>aEh j.1 G) (λi h j=>by refine ag j.1 λo J O=>?_;exact⟨o,J⟩) k W.length 0 (OJ _)) ?_) (S.after P.1 P.2) (.ref _) P.2.toF;intro l A' a8 M U q X E' G;refine gg (q.own _ (KJ ..)) λo J m r L=>?_;exact wpAny_pyIter_listiter (L _ J q.frozen).1 G
def fc{V:St}(h:∀it gl,eg w B N k ap it W gl->K (.ref it) ⟨V.loc,gl++V.led⟩):F1 w A B z Val Pz (.lst W) V K:=CI λit gl a O=>h it gl (a _ _)
end
section
variable{N:aa}
def ff.perm{l:aa}(S:ff B z s Z ⟨a6,l⟩)(p:l.Perm l'):ff B z s Z ⟨a6,l'⟩:=⟨S.toca.perm p,S.locZ,λh=>S.locL ((p.map _).mem_iff.mpr h),S.loc,S.kinds,S.fn⟩
def eu{l:aa}(p:l.Perm l'):ay z ⟨a6,l⟩=ay z ⟨ft,l'⟩:=by
 unfold ay;congr 1
 ·funext a;exact propext ⟨Wh id (p.map _).mem_iff.mp,Wh id (p.map _).mem_iff.mpr⟩
 ·funext a;exact propext (p.filterMap _).mem_iff
def T.perm{l:aa}{K:α->St->Prop}(p:l.Perm l')(h:T w A B z b t ⟨a6,l'⟩ K):T w A B z b t ⟨a6,l⟩ K:=λs Z S Q E e=>h s Z (S.perm p) Q E λv x d i a k j V X=>e v x d i a k j V (by rw[eu (z:=z) (a6:=a6) (ft:=a6) p];exact X)
def ff.drop{l:aa}(S:ff B z s Z ⟨a6,l++l'⟩):ff B z s Z ⟨a6,l'⟩:=⟨S.toca.drop,S.locZ,λh=>S.locL (by rw[keys,LD];exact LJ _ h),S.loc,S.kinds,S.fn⟩
def hO.dropF{o:vn}{l:aa}(X:hO o s Z s' b (ay z ⟨a6,l++l'⟩)):hO o s Z s' b (ay z ⟨ft,l'⟩):=X.less (λa h=>h.imp id λh=>by rw[keys,LD];exact LJ _ h) λa h=>by
  show a∈gkeys (l++l');unfold gkeys;rw[NJ];exact LJ _ h
def wh{x:AV}{l:aa}(h:eg w B N k ap it (x::W) gl)(p:dt A k)(o:kn N l)(S:ff B z s Z ⟨a6,l++gl⟩)
  {Q:Option Value->KY->Prop} 
  (n:∀s' a v d5,ff B z s' a ⟨a6,l++d5⟩->Val a x v->hO (ay z ⟨a6,l++gl⟩) s Z s' a (ay z ⟨a6,l++d5⟩)->eg w B N k ap it W d5->Q (Wu v) s'):LC (Ly ab w) A (Nr (.ref it)) (λr c5=>match r with |none=>False |some v=>LC (Ly ab w) A (Mq ap (.ref it) v) (λO i=>Q (Wu v) i) E c5) E s:=h A p l o s Z (S.toca.perm Li) Q E λs' a v d5 u V X j=>by
  have d:=u.perm (Li (l₁:=d5) (l₂:=l));have e:hO (aj (l++gl)) s Z s' a (aj (l++d5)):=by
   rw[cB (Li (l₁:=l) (l₂:=gl)),cB (Li (l₁:=l) (l₂:=d5))];exact X
  exact n s' a v d5 (S.after d e) V e.toF j
def wj{l:aa}(h:eg w B N k ap it [] gl)(j:dt A k)(i:kn N l)(S:ff B z s Z ⟨a6,l++gl⟩)
  {Q:Option Value->KY->Prop} 
  (e:∀s' a,ff B z s' a ⟨a6,l⟩->hO (ay z ⟨a6,l++gl⟩) s Z s' a (ay z ⟨a6,l⟩)->Q Wv s'):LC (Ly ab w) A (Nr (.ref it)) Q E s:=h A j l i s Z (S.toca.perm Li) Q E λs' a n X=>by
  have d:hO (aj (l++gl)) s Z s' a (aj l):=by
   rw[cB (Li (l₁:=l) (l₂:=gl))];exact X
  exact e s' a (S.after n d) d.toF
def aHn{R:Result->KY->Prop}{ap it c6 z}(I:Nat->KY->Prop)
  (i:∀n s,I n s->LC (Ly ab w) A (Nr it) (λr c5=>match r with
   |none=>R (.ok .next) c5
   |some v=>LC (Ly ab w) A (Mq ap it v) (λO c5=>LC (Ly ab w) A (MM ap z v) (λO l=>LC (Ly ab w) A (execs c6 z) (λf j=>match f with
     |.next |.cont=>∃m,m<n/\I m j
     |.brk=>R (.ok .next) j
     |.ret v=>R (.ok (.ret v)) j) (Qp (Ly ab w) A z λe s'=>R (.error e) s') l) (Qp (Ly ab w) A z λe s'=>R (.error e) s') c5) (Qp (Ly ab w) A z λe s'=>R (.error e) s') c5)
    (Qp (Ly ab w) A z λe s'=>R (.error e) s') s)
  (n:Nat) (h:I n s):PA (Ly ab w) A (.forLoop ap it c6 [] z) R s:=by
 refine codeAny_loop' rfl I (λn s o=>?_) n h;show LC _ _ ((VW ap it c6 [] z).onRaise (λx=>do Qo x z;PT x)) _ _ s;refine wpAny_noted ?_;rw[VW];refine KI (LN (KI (wpAny_onRaise (Mg (i n s o) (λr c5 k=>?_) λO O d=>LN d))));cases r with
 |none=>exact KN (.inr ⟨rfl,codeAny_block (UB k)⟩)
 |some v =>
  refine KI (Mg k (λO c5 k=>KI (Mg k (λO l p=>KI (Mg p (λf j a=>?_) λO O d=>d)) λO O d=>d)) λO O d=>d);cases f with
  |next=>exact KN (.inl ⟨rfl,a⟩)
  |cont=>exact KN (.inl ⟨rfl,a⟩)
  |brk=>exact KN a
  |ret v=>exact KN a
inductive tb (J:List AV->St->Prop) (K:dr->St->Prop) (W:List AV) (gl:aa):dr->St->Prop
 |next {a6:List (Str×AV)} {l:aa} (h:J W ⟨a6,l⟩):tb J K W gl .next ⟨a6,l++gl⟩
 |cont {a6:List (Str×AV)} {l:aa} (h:J W ⟨a6,l⟩):tb J K W gl .cont ⟨a6,l++gl⟩
 |brk {a6:List (Str×AV)} {l:aa} (h:K .next ⟨a6,l⟩):tb J K W gl .brk ⟨a6,l++gl⟩
 |ret {v:AV} {a6:List (Str×AV)} {l:aa} (h:K (.ret v) ⟨a6,l⟩):tb J K W gl (.ret v) ⟨a6,l++gl⟩
def tb.nextE{J:List AV->St->Prop}{K:dr->St->Prop}{l:aa}(e:Y=l++gl)(h:J W ⟨a6,l⟩):tb J K W gl .next ⟨a6,Y⟩:=e▸.next h
inductive Xs (w:Lz) (B:eb) (N:aa) (k:Nat) (ap:Expr) (J:List AV->St->Prop):AV->St->Prop
 |mk {it:LP} {gl l:aa} {items:List AV} {a6:List (Str×AV)} (hI:eg w B N k ap it items gl) (hJ:J items ⟨a6,l⟩):Xs w B N k ap J (.ref it) ⟨a6,gl++l⟩
def Kh(w:Lz)(B:eb)(z:Env)(N:aa)(k:Nat)(ap:Expr)(it:LP)(J:List AV->St->Prop)(V:St)(s:KY)(Z:eb)(n:Nat)(s':KY):Prop:=∃d ft a d5 W,n=W.length/\ff B z s' d ⟨ft,a++d5⟩/\eg w B N k ap it W d5/\J W ⟨ft,a⟩/\hO (ay z V) s Z s' d (ay z ⟨ft,a++d5⟩)
def ff.front{l:aa}(S:ff B z s Z ⟨a6,l++gl⟩):ff B z s Z ⟨a6,l⟩:=(S.perm Li).drop
def hO.front{o:vn}{l:aa}(X:hO o s Z s' b (ay z ⟨a6,l++gl⟩)):hO o s Z s' b (ay z ⟨a6,l⟩):=hO.dropF (a6:=a6) (l:=gl) (eu (z:=z) (a6:=a6) (ft:=a6) (Li (l₁:=l) (l₂:=gl))▸X)
def aIw{J:List AV->St->Prop}{K:dr->St->Prop}(hA:dt A k)
  (d:T w A B z Val (ME iter z) V λv fI=>F1 w A B z Val Pz v fI (Xs w B N k ap J))
  (step:∀x W di gl,J (x::W) di->F1 w A B z aQ (MM ap z) x ⟨di.loc,di.led++gl⟩ λO X=>T w A B z fv (execs c6 z) X (tb J K W gl))
  (hN:∀items di,J items di->kn N di.led) (done:∀di,J [] di->K .next di) (hs:∀x,NP iter z x=Nb x):T w A B z fv (exec (.For ap iter c6 [] a9) z) V K:=λs Z S Q E hQ=>by
 refine wpAny_For (d s Z S _ _ λv x c5 Z1 fI G S1 V1 X1=>G c5 Z1 x V1 S1 _ _ λu y g D ia p U L X2=>Xs.rec (motive:=λu ia O=>ff B z g D ia->Val D u y->hO (ay z V) s Z g D (ay z ia)->_) (fun{it gl l items a} c hJ U L X0=>?_) p U L (X1.trans X2)) hs;have ey:y=.ref it:=L.inv;subst ey;clear L p G V1 S1 X1 X2;refine aHn (Kh w B z N k ap it J V s Z) ?_ items.length ⟨D,a,l,gl,items,rfl,U.perm Li,c,hJ,eu (z:=z) (a6:=a) (ft:=a) (Li (l₁:=gl) (l₂:=l))▸X0⟩;clear X0 U c hJ;intro n q Y3;refine aKq Y3 λZ' ft l' d5 W e S' i j X'=>?_;clear Y3;subst e;cases W with
 |nil=>exact wj i hA (hN _ _ j) S' λY Z3 P H=>hQ .next .next Y Z3 _ (done _ j) P .next (X'.trans H)
 |cons x W =>
  refine Mg (wh i hA (hN _ _ j) S' (Q:=λr c5=>match r with
   |none=>False
   |some v=>LC (Ly ab w) A (MM ap z v) (λO g=>LC (Ly ab w) A (execs c6 z) (λf Y=>match f with
     |.next |.cont=>∃m,m<(x::W).length/\Kh w B z N k ap it J V s Z m Y
     |.brk=>Q .next Y
     |.ret v=>Q (.ret v) Y) (Qp (Ly ab w) A z λe q=>UU (Ly ab w) A z E e q) g) (Qp (Ly ab w) A z λe q=>UU (Ly ab w) A z E e q) c5)
   λY Z3 v b P V3 H R=>step x W ⟨ft,l'⟩ b j Y Z3 v V3 P _ _ λO O s4 Z4 Xv o S4 O X4=>o s4 Z4 S4 _ _ λf y s5 C XM t M V5 X5=>?_) (λr c5 h1=>?_) λO O h=>h
  ·have F:=((X'.trans H).trans X4).trans X5;clear o S4 X4 X5 H P V3 X' S' i j step d done;induction V5 with
   |next=>cases t with |next k=>exact⟨W.length,NC _,C,_,_,b,W,rfl,M,R,k,F⟩
   |cont=>cases t with |cont k=>exact⟨W.length,NC _,C,_,_,b,W,rfl,M,R,k,F⟩
   |brk=>cases t with |brk k=>exact hQ .next .next s5 C _ k M.front .next F.front
   |ret hv=>cases t with |ret k=>exact hQ _ _ s5 C _ k M.front (.ret hv) F.front
  ·cases r with
   |none=>exact h1.elim
   |some v=>exact h1
end
section
variable{N:aa}{n m:Nat}
def Sk.push{a:Code}{k:Result->Sem QF}{l:List Value}{p:Pos}(h:Sk n m z c b)(e:a.weight=0)(j:a.cUnits=0):Sk n m z a (.ret k Wv Wx l c p []::b) where
 frames:=λA=>by
  have R:=h.frames A;simp only[Tw,Le,UE,envsOf_cons,Code.envs_of_weight e,pushEnvs_eq] at R ⊢;rw[<-R];cases A.frames <;> simp
 room:=λA i=>by
  have R:=h.room A i;refine⟨?_,?_,?_⟩
  ·show (marksOver (.ret k Wv Wx l c p []::b) (A.handled,A.handled)).1=Wv
   have:=R.h;simpa[Tw,marksOver,Frame.marks,markOver] using this
  ·have:=R.d;simp only[Tw,Le,UE,frameCount_cons,e] at this ⊢;omega
  ·have:=R.u;simp only[Tw,Le,UE,unitsOf_cons,j] at this ⊢;omega
 split:=by simp only[splitAtGen,h.split,Option.map_none]
 quiet:=by simp only[List.any_cons,Frame.guarded,h.quiet,Uz]
def wJ(ap:Expr)(it:Value)(c6:List Stmt)(z:Env)(v:Value):Sem QF:=MM ap z v>>=λO=>execs c6 z>>=λf=>match f with
  |.next |.cont => .pure (.again (.forLoop ap it c6 [] z))
  |.brk => .pure (.done .next)
  |.ret v => .pure (.done (.ret v))
def vT(ap:Expr)(it:Value)(c6:List Stmt)(z:Env)(r:Option Value):Sem QF:=match r with
 |none => .pure (.again (.block [] z))
 |some v=>Mq ap it v>>=λO=>wJ ap it c6 z v
def aFO{it:Value}:VW ap it c6 [] z=(PM ap.pos>>=λO=>((Nr it).onRaise (λO=>PM {ap.pos with line:=0}))>>=vT ap it c6 z):=by
 unfold VW vT wJ;congr 1
def IH{it:Value}:∃H,(Ly ab w).den (.forLoop ap it c6 [] z) =
  .at ap.pos λO=>(Nr it).wrap (λr=>(vT ap it c6 z r).wrap .pure (λe=>(do Qo e z;PT e:Sem Unit).bind λO => .raise e) id id) H id id:=by
 apply Exists.intro
 ·show (VW ap it c6 [] z).onRaise (λx=>do Qo x z;PT x)=_;rw[aFO,NW];show Sem.at ap.pos (λO=>Vq _ _ _ _ (((Nr it).onRaise (λO=>PM {ap.pos with line:=0}))>>=vT ap it c6 z))=_;rw[Mw,NW,MS,MS];rfl
inductive WB (J:List AV->St->List AV->Prop) (K:dr->St->List AV->Prop) (W:List AV) (gl:aa):dr->St->List AV->Prop
 |next {a6:List (Str×AV)} {l:aa} {a7:List AV} (h:J W ⟨a6,l⟩ a7):WB J K W gl .next ⟨a6,l++gl⟩ a7
 |cont {a6:List (Str×AV)} {l:aa} {a7:List AV} (h:J W ⟨a6,l⟩ a7):WB J K W gl .cont ⟨a6,l++gl⟩ a7
 |brk {a6:List (Str×AV)} {l:aa} {a7:List AV} (h:K .next ⟨a6,l⟩ a7):WB J K W gl .brk ⟨a6,l++gl⟩ a7
 |ret {v:AV} {a6:List (Str×AV)} {l:aa} {a7:List AV} (h:K (.ret v) ⟨a6,l⟩ a7):WB J K W gl (.ret v) ⟨a6,l++gl⟩ a7
inductive WY (w:Lz) (B:eb) (N:aa) (n m:Nat) (z:Env) (ap:Expr) (v:AV) (c6:List Stmt) (gl:aa) (K:dr->St->List AV->Prop) (V:St) (a7:List AV):Prop
 |mk {a6:List (Str×AV)} (h:∀A,dt A m->∀Y,kn N Y->F1 w A B z aQ (MM ap z) v ⟨V.loc,(V.led++gl)++Y⟩ λO s=>s=⟨a6,(V.led++gl)++Y⟩) (k:TG w B N n m z (execs c6 z) ⟨a6,V.led++gl⟩ a7 K):WY w B N n m z ap v c6 gl K V a7
def aBL{K:dr->St->List AV->Prop}{J:List AV->St->List AV->Prop}(hk:k<=m)
  (step:∀x W di a gl,J (x::W) di a->WY w B N n m z ap x c6 gl (WB J K W gl) di a)
  (done:∀di a,J [] di a->K .next di a)  (hs:Sk n m z (.forLoop ap (.ref it) c6 [] z) b) (hb:Sk n m z (.block [] z) b)
  (hX:HX w B n z (.forLoop ap (.ref it) c6 [] z) (λe=>(do Qo e z;PT e:Sem Unit).bind λO => .raise e) b)
  (hK:∀f x di a,K f di a->va f x->∀c,zn w B N n z c (.pure (.done x)) b a di):∀(W:List AV) (V:St) (a7:List AV) (gl:aa),eg w B N k ap it W gl->J W V a7 ->
   zn w B N n z (.forLoop ap (.ref it) c6 [] z) ((Ly ab w).den (.forLoop ap (.ref it) c6 [] z)) b a7 ⟨V.loc,V.led++gl⟩:=by
 intro W;induction W with
 |nil =>
  intro V a7 gl q hJ A hA Y U hF i c7 o s Z S X;refine al (IH (w:=w) (z:=z) (ap:=ap) (it:=.ref it) (c6:=c6)) λH hH=>?_;rw[hH];refine jP ?_;have Sp:ff B z s Z ⟨V.loc,(V.led++Y)++gl⟩:=S.perm (by
   simp only[LH];exact Ou _ Li)
  refine dD (wj q ((hs.room A hA).mono hk) (U.app _) Sp λs3 Z3 S3 X3=>?_);show aS _ A _ _ (.pure (.again (.block [] z))) b s3;refine oV rfl ?_;show aS _ A _ _ (.pure (.done .next)) b s3;refine hK .next .next V a7 (done V a7 hJ) .next _ A hA Y U hF i c7 o s3 Z3 S3 (X.trans ?_);exact(Eq.symm (eu (z:=z) (a6:=V.loc) (ft:=V.loc) (l:=(V.led++gl)++Y) (l':=(V.led++Y)++gl) (by
   simp only[LH];exact Ou _ Li)))▸X3
 |cons x W ih =>
  intro V a7 gl q hJ A hA Y U hF i c7 o s Z S X;refine al (IH (w:=w) (z:=z) (ap:=ap) (it:=.ref it) (c6:=c6)) λH hH=>?_;simp only[hH];refine jP ?_;have P:((V.led++gl)++Y).Perm ((V.led++Y)++gl):=by
   simp only[LH];exact Ou _ Li
  have Sp:ff B z s Z ⟨V.loc,(V.led++Y)++gl⟩:=S.perm P;rw[eu (z:=z) (a6:=V.loc) (ft:=V.loc) P] at X;refine dD (Mg (wh q ((hs.room A hA).mono hk) (U.app _) Sp (Q:=λr c5=>match r with
   |none=>False
   |some v=>aS (Ly ab w) A (sf w B N n A a7 Y i c7 o) (.forLoop ap (.ref it) c6 [] z) ((wJ ap (.ref it) c6 z v).wrap .pure (λe=>(do Qo e z;PT e:Sem Unit).bind λO => .raise e) id id) b c5)
   (E:=λO O=>False) λs3 Z3 v d S3 V3 X3 Yn=>?_) (λr c5 h1=>?_) λO O h=>h.elim)
  ·dsimp only;unfold wJ;rw[Mw,MS];have P3:((V.led++Y)++d).Perm ((V.led++d)++Y):=by
    simp only[LH];exact Ou _ Li
   have X':=X.trans X3;simp only[eu (z:=z) (a6:=V.loc) (ft:=V.loc) P3] at X';refine WY.rec (fun{YV} h k=>dD (h _ (hs.room A hA) Y U s3 Z3 v V3 (S3.perm P3) _ _ λO O s4 Z4 Xv e S4 O X4=>?_)) (step x W V a7 d hJ);subst e;rw[Mw,MS];refine k _ b _ _ _ _ hs rfl hX (λf y XM SH k5 p=>?_) A hA Y U hF i c7 o s4 Z4 S4 (X'.trans X4);clear k h S4 X4 X' S3 V3 X3 X Sp P P3 S hJ step;have j:∀ {sj G},J W ⟨sj,G⟩ SH->zn w B N n z (.forLoop ap (.ref it) c6 [] z) (.pure (.again (.forLoop ap (.ref it) c6 [] z))) b SH ⟨sj,G++d⟩:=λZO A' D a8 t C u s' Z' g F M L =>
    oV rfl (ih ⟨_,_⟩ SH d Yn ZO A' D a8 t C u s' Z' g F M L)
   have R:∀ {sj G f' x'},K f' ⟨sj,G⟩ SH->va f' x'->zn w B N n z (.forLoop ap (.ref it) c6 [] z) (.pure (.done x')) b SH ⟨sj,G++d⟩:=fun{sj G f' x'} Zs p' A' D a8 t C u s' Z' g F M L=>by
    have P5:((G++d)++a8).Perm (d++(G++a8)):=by
     have:((G++d)++a8).Perm ((d++G)++a8):=OT _ Li;rwa [LH d] at this
    exact hK f' x' ⟨sj,G⟩ SH Zs p' _ A' D a8 t C u s' Z' g F ((M.perm P5).drop) (hO.dropF (a6:=sj) (l:=d) ((eu (z:=z) (a6:=sj) (ft:=sj) P5)▸L))
   induction p with
   |next=>cases k5 with |next k=>exact j k
   |cont=>cases k5 with |cont k=>exact j k
   |brk=>cases k5 with |brk k=>exact R (f':=.next) k .next
   |ret=>cases k5 with |ret k=>exact R (f':=.ret .none) k .ret
  ·cases r with
   |none=>exact h1.elim
   |some v =>
    show aS _ A _ _ (Vq _ _ _ _ (Mq ap (.ref it) v>>=_)) b c5;rw[Mw,MS];exact dD (Mg h1 (λO s2 h2=>h2) λO O h=>h.elim)
end
section
variable{N:aa}{n m:Nat}
inductive WZ (w:Lz) (B:eb) (N:aa) (k:Nat) (ap:Expr) (Y:aa) (J:List AV->St->List AV->Prop) (a7:List AV):AV->St->Prop
 |mk {it:LP} {gl l:aa} {items:List AV} {a6:List (Str×AV)} (hI:eg w B N k ap it items gl) (hJ:J items ⟨a6,l⟩ a7):WZ w B N k ap Y J a7 (.ref it) ⟨a6,gl++(l++Y)⟩
def HX.loop{k:Result->Sem QF}{l:List Value}{p:Pos}(j:Sk n m z f (.ret k Wv Wx l c p []::b))(i:Sk n m z c b)
  (h:∀A,dt A n->∀Y g4,A.frames=Wu g4->hB g4 Y->∀ea c7 hY s Z (V:St) e,XP B "TypeError" ea c7 hY (z::g4) ((z.locals,.ns V.loc)::(V.led++Y)) e (Wu (MC z.locals)) s Z->aS (Ly ab w) A (oI B A Y ea c7 hY) c (k (.error (.ref e))) b s):HX w B n z f (λe=>(do Qo e z;PT e:Sem Unit).bind λO => .raise e) (.ret k Wv Wx l c p []::b):=λA r Y g4 d o ea c7 hY s Z V e x a X=>by
 show aS _ A _ f ((do Qo (.ref e) z;PT (.ref e):Sem Unit)>>=λO => .raise (.ref e)) _ s;rw[Mw];refine dD (KI (X.note (by rw[j.frames,d];rfl) a λv u=>wpAny_theTreesLotGoes ?_));exact DU (.error (.ref e)) (h A r Y g4 d o ea c7 hY _ Z V e u)
def aIG{V:St}{J:List AV->St->List AV->Prop}{K:dr->St->List AV->Prop}(hk:k<=m)
  (G:∀A,dt A m->∀Y,kn N Y->T w A B z Val (ME iter z) ⟨V.loc,V.led++Y⟩ λv fI=>F1 w A B z Val Pz v fI (WZ w B N k ap Y J a7))
  (step:∀x W di a gl,J (x::W) di a->WY w B N n m z ap x c6 gl (WB J K W gl) di a)
  (done:∀di a,J [] di a->K .next di a) (hs:∀x,NP iter z x=Nb x):TG w B N n m z (exec (.For ap iter c6 [] a9) z) V a7 K:=λc g Kc H C lv e hg hX hK A hA Y hN hF i c7 q s Z S X=>by
 simp only[exec_For];refine jP ?_;show aS _ A _ c ((ME iter z>>=λx=>NP iter z x>>=λx=>PM iter.pos>>=λO=>Ol [x] (Pz x)>>=λit=>runOwn (.forLoop ap it c6 [] z) z).wrap Kc H C lv) g s;rw[Mw,MS];refine dD (G _ (e.room A hA) Y hN s Z S _ _ λv x c5 Z1 fI b S1 V1 X1=>?_);rw[hs x];refine jP ?_;show aS _ A _ c ((Ol [x] (Pz x)>>=λit=>runOwn (.forLoop ap it c6 [] z) z).wrap Kc H C lv) g c5;rw[Mw,MS];refine dD (Lh (b c5 Z1 x V1 S1 _ _ λu y U F ia R S2 V2 X2=>WZ.rec (motive:=λu ia O=>ff B z U F ia->Val F u y->hO (ay z ⟨V.loc,V.led++Y⟩) s Z U F (ay z ia)->_) (fun{it gl l r d} hit hJ S2 V2 XV=>?_) R S2 V2 (X1.trans X2)));have ey:y=.ref it:=V2.inv;subst ey;refine aBN λp=>?_;have Zt:C Wx=Wx:=hg;rw[Zt];have P:(gl++(l++Y)).Perm ((l++gl)++Y):=by
  rw[<-LH];exact OT _ Li
 have L:=X.trans XV;simp only[eu (z:=z) (a6:=d) (ft:=d) P] at L;refine aBL (K:=K) (J:=J) hk step done (e.push rfl rfl) (e.push rfl rfl) (HX.loop (e.push rfl rfl) e ?_) (λf x di a k' p' c' A' XR a8 Xl Yt Q s' Z' XZ XU Yy b5=>DU (.ok x) (hK f x di a k' p' A' XR a8 Xl Yt Q s' Z' XZ XU Yy b5)) r ⟨d,l⟩ a7 gl hit hJ A hA Y hN hF i c7 q U F (S2.perm P) L;intro t ZU o h Zw Zk j s9 Z9 s8 Z8 M D X8;show aS _ t _ c (Vq Kc H C lv ((do {if (← field (.ref D) 1)==.none then {unsupported "frame.own-activation:exception-without-traceback"};Ti (.ref D) z.frame}:Sem Unit)>>=λO => .raise (.ref D))) g s8;rw[Mw,MS];exact dD (X8.back (A:=t.over c g) (E:=λx s'=>aS (Ly ab w) t (oI B t o j s9 Z9) c (H x) g s') λh' L=>hX t ZU o h Zw Zk j s9 Z9 _ Z8 M D _ (.inr (.inr rfl)) L)
def Sk.func:Sk (m+3) m z (.func c6 z) [] where
 frames:=λA=>by
  show pushEnvs [z] (pushEnvs [] A.frames)=_;cases A.frames <;> rfl
 room:=λA a=>⟨a.h,by
  have:=a.d;show A.depth+0+1+m<=_;omega,by
  have:=a.u;show A.units+0+3+m<=_;omega⟩
 split:=rfl
 quiet:=rfl
def ju.fresh{l:aa}(H:∀x v,a6.lookup x=Wu v->z.kindOf x=Wu .local)(E:z.scope.kind=.function)
  (h:TG w B N (m+3) m z (execs c6 z) ⟨a6,l⟩ a7 λf V d=>d=[]):ju w B N (m+3) a7 ((z.locals,.ns a6)::l) (.fresh (.func c6 z)):=by
 rw[ju.iff];intro A hA Y M U s Z S;show aS _ A _ _ (.point [] λO=>((execs c6 z).onRaise (leaving z))>>=_) [] s;refine aBM ?_;have SF:ff B z s Z ⟨a6,l++Y⟩:=l9 (V:=⟨a6,l++Y⟩) S H E;rw[NW,Mw,MS];refine h _ [] _ _ _ _ Sk.func rfl (λb X R r o n Q s9 Z9 t Z8 g u j9 y X8=>?_) (λf x i d k p c XR a8 L P j C Z' XZ G K J=>?_) A hA Y M U _ s Z s Z SF (by simp only[bI];exact .refl)
 ·show aS _ b _ _ (Vq _ Sem.raise id id (leaving z (.ref u)>>=λO => .raise (.ref u))) [] t;rw[Mw,MS];refine dD (X8.leave (((Sk.func (m:=m) (z:=z) (c6:=c6)).frames b).trans (by rw[o];rfl)) y λh' W=>?_);have D:=(Lp.mp W.sim.nodup).1;exact yp (.error (.ref u)) ⟨u,r,Z8,rfl,o,(W.pop λf E q=>D (q▸al (n f E).2.2 λm F=>Lv (f:=(·.1)) (LJ _ F))).drop n⟩
 subst k;have e:aS (Ly ab w) c (sf w B N (m+3) c [] a8 j C Z') (.func c6 z) (.pure (.done (.ret .none))) [] XZ:=by
  refine yp (.ok (.ret .none)) ⟨.inl rfl,G,(K.toca).drop (l:=i.led),J.less (λa h => .inr ?_) λa h=>?_⟩
  ·show a∈keys (i.led++a8);rw[keys,LD];exact LJ _ h
  ·show a∈gkeys (i.led++a8);unfold gkeys;rw[NJ];exact LJ _ h
 induction p with
 |next=>exact e
 |brk=>exact e
 |cont=>exact e
 |ret=>exact e
def JP{K:AV->aa->Prop}{vs:Array Value}
  (hG:hW B) (ho:B f=Wu o) (hd:o.data=.func fd) (X:fd.scope.isCoroutine=Wx) (N:fd.scope.isGenerator=Ww) (hk:fd.scope.kind=.function) (v:fd.body=.stmts c6)
  (r:∀x∈fd.scope.names,x.2 ≠ .cell)
  (hc:fd.code=.ref c) (C:B c=Wu oc) (E:oc.data=.fields vs) (hq:vs[1]?=Wu (.str fd.qualname tq)) (m:A.depth<Na)
  (hb:Binds w A.in1 B fd args kw f8) (J:∀x∈f8.map (·.1),fd.scope.names.lookup x=Wu .local)
  (h:∀L a g,K (.ref a) ((a,.gen g (.fresh (.func c6 (bF fd.scope L fd.globals fd.closure fd.qualname f fd.code fd.builtins))))::(L,.ns f8.reverse)::Y)):TC w A B (.ref f) args kw Y K:=λs Z fx W ks S Q z H R V=>by
 cases Q
 refine codeAny_call_generator m (S.frozen _ _ (S.base _ _ ho)) hd X N v ⟨c,oc,vs,tq,hc,S.frozen _ _ (S.base _ _ C),E,hq⟩ (hb s Z Y W ks S z H _ _ λbs c5 Z1 S1 u X1=>?_);have V:=V.after X1;clear X1 S;revert c5 Z1;intro s Z S u V;refine RC (around:=Wv) r (λx z=>J x.1 (u.keys▸Lv z)) (λl G t=>?_) hk;have i:∀b o,s.heap.get? b=Wu o->l.get? b=Wu o:=λb o e=>t.extBut b o (MA (Mf e)) (Ld _ e);refine⟨hG.lim _ λa o e=>i a o (S.frozen a o (S.base a o e)),?_⟩;have Q:=gB s;have U:=gB {s with heap:=l};have D:l.objs.size≠s.heap.objs.size:=fe G λob O O g O=>Qg (Mf g);generalize k:({cls:=.type "generator",data:=.fields #[.int s.gens.size 0,.str fd.name (s.toks+bs.length),.str fd.qualname (s.toks+bs.length+1)]}:Obj)=go;have d:∀b o,s.heap.get? b=Wu o->(l.push go).get? b=Wu o:=λb o e=>Ld go (i b o e);have P:(l.push go).get? l.objs.size=Wu go:=Lc _ (by subst k;rfl);have hgnew:s.gens[s.gens.size]?=Wv:=Oe (LK _);have n:=BI (s:=s) (c5:={ s with heap:=l}) i U;have M:s.gens.size∉gkeys Y:=λq=>by
  refine ag (RF.mp q) λp hp e=>?_
  have:=S.own p hp;obtain⟨a,ob⟩:=p;cases ob with
  |gen g gs=>exact dJ <| hgnew.symm.trans (show s.gens[s.gens.size]?=Wu gs from(No e:g=s.gens.size)▸this.2)
  |_=>exact dJ e
 have j:∀g (gs x:NZ),s.gens[g]?=Wu gs->(s.gens.push x)[g]?=Wu gs:=λg gs x e=>by
  rw[Rl,if_neg (al (OZ.mp e) λF O=>MA F)];exact e
 refine V (.ref l.objs.size) _ _ Z _ (h s.heap.objs.size l.objs.size s.gens.size) (ca.cons (ca.cons (S.keep d (λg gs e=>j g gs _ e) λx z=>(Array.mem_push.mp z).elim (S.bare x) λe=>e▸rfl) (S.lfree Q) (S.zfree Q)
   (n6 (.refl _) (λo e=>Ld go e) ⟨_,G,λy=>u.reverse.lookup y⟩) S.gnodup) (λq=>(KZ.mp q).elim D (S.lfree n)) (S.zfree n)
   ⟨⟨go,_,_,P,by subst k;rfl,by subst k;rfl,by subst k;rfl⟩,(Rl ..).trans ((if_pos rfl).trans rfl)⟩ (Lp.mpr ⟨M,S.gnodup⟩)) (.ref _)
  ⟨.refl _,λa o e O=>d a o e,λa ha=>(KZ.mp ha).elim (λe => .inr (e▸n)) λq=>(KZ.mp q).elim (λe => .inr (e▸Q)) .inl,λO O e => .inl e,rfl,λg gs e O=>j g gs _ e,
   λg hg=>(KZ.mp (show g∈s.gens.size::gkeys Y from hg)).elim (λe => .inr (e▸hgnew)) .inl⟩
def wd{fd:Oi}(a:((f8.map (·.1)).all λx=>decide (fd.scope.names.lookup x=Wu .local))=Ww):∀x v,f8.reverse.lookup x=Wu v->(av fd L f c).kindOf x=Wu .local:=λx v e=>of_decide_eq_true (LS.mp a x (Hi e))
def ol(w:Lz)(B:eb)(N:aa)(n:Nat)(a7:List AV)(Y:aa)(v:AV)(a8:aa):Prop:=∃a g d e,v=.ref a/\a8=((a,.gen g d)::e)++Y/\ju w B N n a7 e d
def ol.elim{N:aa}{P:AV->aa->Prop}(k:∀a g gs gl,ju w B N n a7 gl gs->P (.ref a) (((a,.gen g gs)::gl)++Y))(v:AV)(a8:aa)(h:ol w B N n a7 Y v a8):P v a8:=eK h λa g gs gl e i d=>e▸i▸k a g gs gl d
def aIU{K:Frag}
  (R:hW (am K)) (s:bJ K f Ww fd c6 c) (i:A.depth<Na) (Q:Binds w A.in1 (am K) fd args kw f8)
  (d:((f8.map (·.1)).all λx=>decide (fd.scope.names.lookup x=Wu .local))=Ww)
  (h:∀L,TG w (am K) N (m+3) m (av fd L f c) (execs c6 (av fd L f c)) ⟨f8.reverse,l0⟩ a7 λO O e=>e=[]):TC w A (am K) (.ref f) args kw (l0++Y) (ol w (am K) N (m+3) a7 Y):=by
 refine xt s λt j u p G r q b V=>?_;clear s;obtain⟨o,E,J⟩:=t;obtain⟨D,vs,C,n,k,y⟩:=q;obtain⟨Z,W,v⟩:=b;exact JP R E J Z W v j (λx l=>of_decide_eq_true (LS.mp V x l)) u n k y i Q (λx l=>of_decide_eq_true (LS.mp d x l)) λL a g=>(Eq.symm (p))▸(Eq.symm (G))▸(Eq.symm (r))▸(Eq.symm (u))▸iv a g _ ((L,.ns f8.reverse)::l0) rfl rfl (ju.fresh (z:=av fd L f c) (wd d) v (h L))
end
def eb.add(Z:eb)(a:LP)(o:Obj):eb:=λb=>if b=a then Wu o else Z b
open eb renaming add→m8
def eb.add_at(Z:eb)(a:LP)(o:Obj):Z.add a o a=Wu o:=if_pos rfl
open eb renaming add_at→l2
def eb.le_add(h:Z a=Wv):eb.le Z (Z.add a o):=λb d e=>by
 unfold m8;by_cases q:b=a
 ·subst q;rw[h] at e;cases e
 ·rw[if_neg q];exact e
open eb renaming le_add→m9
def eb.add_inv(e:Z.add a o b=Wu c):Z b=Wu c\/(b=a/\o=c):=by
 unfold m8 at e;by_cases q:b=a
 ·rw[if_pos q] at e;exact .inr ⟨q,No e⟩
 ·rw[if_neg q] at e;exact .inl e
def ca.stepN{s':KY}(S:ca B s Z (gl++Y))(d:∀b o,b∉keys gl->s.heap.get? b=Wu o->s'.heap.get? b=Wu o)(n:s.heap.get? a=Wv)(h':s'.heap.get? a=Wu o)
  (d9:eb.le Z (Z.add a o)->∀p∈d5,Holds (Z.add a o) s' p.1 p.2) (l:keys d5=keys gl) (r:gkeys d5=gkeys gl) (k:s'.gens=s.gens) (j:s'.os=s.os):eb.le Z (Z.add a o)/\ca B s' (Z.add a o) (d5++Y)/\hO (aj (gl++Y)) s Z s' (Z.add a o) (aj (d5++Y)):=have i:=m9 (o:=o) (S.zfree n)
 ⟨i,S.step i d (λb u e=>(eb.add_inv e).elim .inl λq => .inr (q.1▸q.2▸⟨n,h'⟩)) (d9 i) (λO h => .inl (l▸h)) (l▸(Ql.mp (LD▸S.nodup:(keys gl++keys Y).Nodup)).1) (r▸.refl _) k j⟩
def ca.pushZ(S:ca B s Z Y)(d:o.isFreed=Wx)(tk:Nat):ca B {s with heap:=s.heap.push o,toks:=tk} (Z.add s.heap.objs.size o) Y/\hO (aj Y) s Z {s with heap:=s.heap.push o,toks:=tk} (Z.add s.heap.objs.size o) (aj Y):=ca.step (gl:=[]) (d5:=[]) S (m9 S.zfresh) (λO O O e=>Ld o e) (λa i e=>(eb.add_inv e).elim .inl λq => .inr (q.1▸q.2▸⟨gB s,Lc _ d⟩)) (λO h=>absurd h MU) (λO h=>absurd h MU) PZ (.refl _) rfl rfl
def wU{d:Nat}(h:T w A B z Vals (spliced (NF a9 (Mh jb z))) V λvs di=>vs.length<=LY/\K (.tup vs) di):T w A B z Val (ME (.Tuple jb d a9) z) V K:=λs Z S Q E i=>by
 simp only[arm_eval_Tuple];refine KI (LN (KI (h s Z S _ _ λvs W e j di k a H X=>QX ?_ (by rw[H.length];exact k.1))));have P:=a.toca.pushZ (o:={ cls:=.type "tuple",data:=.seq W.toArray}) rfl e.toks;exact i _ _ _ _ _ k.2 (a.after P.1 P.2) (.tup (l2 ..) (H.mono P.2.le)) (X.trans P.2.toF)
def oD(h:T w A B z Vals (spliced (NF a9 (Mh jb z))) V λvs di=>vs.length<=LY/\∀a,a∉keys di.led->K (.ref a) ⟨di.loc,(a,.list vs)::di.led⟩):T w A B z Val (ME (.List jb a9) z) V K:=λs Z S Q E i=>by
 simp only[arm_eval_List];refine KI (LN (KI (h s Z S _ _ λvs W e j di k d H X=>Vj ?_ (by rw[H.length];exact k.1))));have P:=d.toca.push (o:={ cls:=.type "list",data:=.seq W.toArray}) (ao:=.list vs) rfl e.toks ⟨_,_,Lc _ rfl,H⟩;exact i _ _ _ _ _ (k.2 _ d.toca.lfresh) (d.after P.1 P.2) (.ref _) (X.trans P.2.toF)
inductive hZ (Y:aa):AV->List AV->Prop
 |own {a:LP} {W:List AV}:(a,.list W)∈Y->hZ Y (.ref a) W
 |frz {W:List AV}:hZ Y (.lst W) W
def hZ.get(h:hZ Y v W){x:Value}(V:Val Z v x)(S:ca B s Z Y):∃a items n,x=.ref a/\s.heap.get? a=Wu {cls:=.type "list",data:=.seq items n}/\Vals Z W items.toList:=by
 induction h with
 |own h =>
  cases V
  exact bG (S.own _ h) λitems n g v=>Ke _ items n rfl g v
 |frz =>
  refine bL (rA V) λO O O d e h=>?_;subst d;exact Ke _ _ _ rfl (S.frozen _ _ e) (by simpa using h)
def aE{i:Int}{x:AV}{V:St}(k:hZ V.led v W)(h0:0<=i)(o:i<2^63)(hx:W[i.toNat]?=Wu x)(h:K x V):F2 w A B z Val QN v (.int i) V K:=λs Z J G r p S Q E l=>by
 refine bL (k.get r S.toca) λa d n y g vs=>?_;subst y;cases p
 exact ag (vs.get hx) λu e j=>wpAny_getItem_list ⟨_,g,rfl,n,rfl⟩ h0 o (by simpa using e) (l x u s Z V h S j .refl)
def aJZ{i:Int}{x:AV}{V:St}(l:hZ V.led v W)(h0:i<0)(Y : -(W.length:Int)<=i)(R:W.length<2^62)(hx:W[(i+W.length).toNat]?=Wu x)(h:K x V):F2 w A B z Val QN v (.int i) V K:=λs Z J G r p S Q E o=>by
 refine bL (l.get r S.toca) λa d n y g vs=>?_;subst y;cases p
 have j:d.size=W.length:=vs.size;exact ag (vs.get hx) λu e k=>wpAny_getItem_list_neg ⟨_,g,rfl,n,rfl⟩ h0 ⋯ ⋯ (by rw[j];simpa using e) (o x u s Z V h S k .refl)
def jG{V:St}{K:Bool->St->Prop}(i:hZ V.led v W)(o:W.length<2^62)(h:K (!W.isEmpty) V):F1 w A B z aM truthy v V K:=λs Z x H S Q E k=>by
 refine bL (i.get H S.toca) λa e n l g vs=>?_;subst l;have d:e.size=W.length:=vs.size;have j:e.isEmpty=W.isEmpty:=by
  cases W with
  |nil=>simp only[LA] at d;simp[Array.isEmpty,d]
  |cons y ys=>simp only[La] at d;simp[Array.isEmpty,d]
 exact wpAny_truthy_list ⟨_,g,rfl,n,rfl⟩ ⋯ (k _ _ _ Z V h (S.toks _) (by rw[j];rfl) (.toks _))
section
variable{N:aa}
inductive Upd (a:LP) (o o':el):aa->aa->Prop
 |here {l:aa}:Upd a o o' ((a,o)::l) ((a,o')::l)
 |there {p:LP×el} {l l':aa}:Upd a o o' l l'->Upd a o o' (p::l) (p::l')
def Upd.mem{o:el}{l:aa}(u:Upd a o o' l l'):(a,o)∈l:=by
 induction u with
 |here=>exact KJ ..
 |there _ d=>exact KP _ d
def Upd.keys{o:el}{l:aa}(u:Upd a o o' l l'):keys l'=keys l:=by
 induction u with
 |here=>rfl
 | @there p l l' _ d=>show p.1::Internal.keys l'=p.1::Internal.keys l;rw[d]
def Upd.gkeys{o:el}{l:aa}(u:Upd a o o' l l')(h:o.gnum=Wv)(h':o'.gnum=Wv):gkeys l'=gkeys l:=by
 induction u with
 |here=>unfold Internal.gkeys;simp only[MG,MG,h,h']
 | @there p l l' _ d =>
  have d:SC (λp:LP×el=>p.2.gnum) l'=SC (λp:LP×el=>p.2.gnum) l:=d;unfold Internal.gkeys;rw[MG,MG,d]
def Upd.out{o:el}{l:aa}(u:Upd a o o' l l')(nd:(Internal.keys l).Nodup):∀p∈l',p=(a,o')\/(p∈l/\p.1≠a):=by
 induction u with
 | @here l =>
  intro p hp;rcases KZ.mp hp with rfl |hp
  ·exact .inl rfl
  ·exact .inr ⟨KP _ hp,λe=>(Lp.mp nd).1 (by show a∈_;exact(e)▸Lv (f:=λx:LP×el=>x.1) hp)⟩
 | @there q l l' u d =>
  intro p hp;rcases KZ.mp hp with rfl |hp
  ·exact .inr ⟨KJ ..,λe=>(Lp.mp nd).1 (by show p.1∈_;exact(Eq.symm (e))▸Lv (f:=λx:LP×el=>x.1) u.mem)⟩
  ·rcases d (Lp.mp nd).2 p hp with h |⟨h,i⟩
   ·exact .inl h
   ·exact .inr ⟨KP _ h,i⟩
def ca.upd{o:el}(U:Upd a o o' Y a8)(S:ca B s Z Y){h':Heap}{tk:Nat}(j:∀b d,b≠a->s.heap.get? b=Wu d->h'.get? b=Wu d)(v:o.gnum=Wv)(u:o'.gnum=Wv)
  (x:Holds Z {s with heap:=h',toks:=tk} a o'):ca B {s with heap:=h',toks:=tk} Z a8/\hO (aj Y) s Z {s with heap:=h',toks:=tk} Z (aj a8):=by
 have i:aj a8=aj Y:=by unfold aj;rw[U.keys,U.gkeys v u]
 have r:Z a=Wv:=S.apart _ U.mem;refine⟨⟨S.base,λb d e=>j b d (λq=>by simp only[q,r] at e;cases e) (S.frozen b d e),by rw[U.keys];exact S.nodup,λp k=>?_,λp k=>?_,by rw[U.gkeys v u];exact S.gnodup,S.bare⟩,?_⟩
 ·rcases U.out S.nodup p k with rfl |⟨h,_⟩
  ·exact r
  ·exact S.apart p h
 ·rcases U.out S.nodup p k with rfl |⟨h,l⟩
  ·exact x
  ·exact(S.own p h).mono (.refl _) (λd e=>j _ d l e) λO O O e=>e
 ·simp only[i];exact⟨.refl _,λb d e n=>j b d (λq=>n (q▸Lv U.mem)) e,λb n => .inl n,λO O e => .inl e,rfl,λO O e O=>e,λg y => .inl y⟩
def aJy{V:St}{T' Tx:String}(d:Qw (.type T')=Nb (.type "type"))(a:Oa (.type Tx) (.type T')=Nb Ww)(hv:eE B v V.led Tx)(h:K (.bool Ww) V):FC w A B z (.blt "isinstance") [v,.typ T'] [] V K:=n5 λs Z S Q E e=>om <| λO i=>om <| Val.eTyp <| Zq <| call_isinstance (isinstance_true (Tx:=Tx) d a) ⟨(hv s Z _ i S.toca).1,e _ _ s Z V h S (.bool Ww) .refl⟩
def rW{V:St}(j:hZ V.led v W)(o:W.length<2^62)(h:K (.int W.length) V):FC w A B z (.blt "len") [v] [] V K:=n5 λs Z S Q E k=>om <| λO i=>Zq <| by
 refine bL (j.get i S.toca) λa d n l g vs=>?_;subst l;have e:d.size=W.length:=vs.size;refine Calls.call_len_list ⟨_,g,rfl,n,rfl⟩ ⋯ (k _ _ _ Z V h (S.toks _) ?_ (.toks _));rw[e];exact .int _ _
def CB{V:St}(d6:W.length<=LY)(U:Upd a (.list W) (.list (W++[v])) V.led a8)(h:K .none ⟨V.loc,a8⟩):FC w A B z (.blt "list.append") [.ref a,v] [] V K:=n5 λs Z S Q E r=>om <| l6 <| om λu l=>Zq <| by
 refine bG (S.own _ U.mem) λd n g vs=>?_;dsimp only at g;have j:d.size=W.length:=vs.size;refine TJ F.slot_list_append (⟨_,g,rfl⟩) F.entry_list_append (F.args_list_append_2 _ _) (list_append a d n u (j.symm▸d6)) ⟨g,?_⟩;have i:∃k,(s.heap.update a (Me λx=>x.push u)).get? a=Wu {cls:=.type "list",data:=.seq (d.push u) k }:=⟨_,LV (Me λx=>x.push u) g rfl⟩;refine al i ?_;clear i;intro k i;have P:=S.toca.upd U (h':=s.heap.update a (Me λx=>x.push u)) (tk:=s.toks) (λb o p e=>(LR ..).extBut b o p e) rfl rfl ⟨_,k,i,by simpa using vs.append (.cons l .nil)⟩;exact r _ _ _ Z _ h (S.after P.1 P.2) .none P.2.toF
def FA(w:Lz)(A:Lk)(B:eb)(z:Env)(ts:List (Value->Sem Unit))(vs:List AV)(V:St)(K:Unit->St->Prop):Prop:=∀(s:KY) (Z:eb) (W:List Value),Vals Z vs W->ff B z s Z V->∀(Q:Unit->KY->Prop) (E:Value->KY->Prop),
  HQ B z aQ V K s Z Q->LC (Ly ab w) A (assignInOrder ts W) Q E s
def CC{K:Unit->St->Prop}(h:K () V):FA w A B z [] [] V K:=λs Z W a S Q E d=>by
 (have e:=a.inv;subst e)
 exact KN (d () () s Z V h S trivial .refl)
def Ku{vs:List AV}{K:Unit->St->Prop}(h:F1 w A B z aQ t v V λO di=>FA w A B z ts vs di K):FA w A B z (t::ts) (v::vs) V K:=λs Z W e S Q E p=>by
 cases e with
 |cons o e =>
  show LC _ A (Ol _ (t _)>>=λO=>assignInOrder ts _) Q E s;exact KI (Lh (h s Z _ o S _ _ λO O l r di k G O X=>k l r _ (e.mono X.le) G Q E λv x d i a n j y u=>p v x d i a n j y (X.trans u)))
def bQ{K:Unit->St->Prop}(h:F1 w A B z aQ (Ok z x) v V K):F1 w A B z aQ (MM (.Name x a9) z) v V K:=λs Z u H S Q E a =>
 wpAny_assign_Name (h s Z u H S Q E a)
def ff.ext1(S:ff B z s Z V)(j:RW s.heap.objs.size s.heap h'):ff B z {s with heap:=h' } Z V/\hO (ay z V) s Z {s with heap:=h' } Z (ay z V):=by
 have d:∀b o,s.heap.get? b=Wu o->h'.get? b=Wu o:=λb o e=>j b o (MA (Mf e)) e;exact⟨⟨⟨S.base,λa o e=>d a o (S.frozen a o e),S.nodup,S.apart,λp i=>(S.own p i).mono (.refl _) (λo e=>d _ o e) (λO O O e=>e),S.gnodup,S.bare⟩,S.locZ,S.locL,n6 (.refl _) (λo e=>d _ o e) S.loc,S.kinds,S.fn⟩,
  ⟨.refl _,λa o e O=>d a o e,λa h => .inl h,λO O e => .inl e,rfl,λO O e O=>e,λO h => .inl h⟩⟩
def aKn{r:Nat}{vs:List AV}{K:Unit->St->Prop}(N:A.handled=Wv)(J:(MV jb z).length=vs.length)(d:(MV jb z).findIdx? (·.1)=Wv)
  (h:FA w A B z ((MV jb z).map (·.2)) vs V K):F1 w A B z aQ (MM (.Tuple jb r a9) z) (.tup vs) V K:=λs Z u H S Q E W=>by
 refine bL (oh H) λa items n y e p=>?_;subst y;refine PySem.wpAny_assign_Tuple N (items:=items.toArray) ⟨_,S.frozen _ _ e,rfl,n,rfl⟩ (by rw[J];simp[p.length]) d λf R=>?_;exact aD (S.ext1 R) λc Y=>h _ Z _ (by simpa using p) c Q E λv x j k i G o b l=>W v x j k i G o b (Y.trans l)
def aEf{I:LP}{v:Value}{Q:Unit->KY->Prop}(h:s.heap.IsTupleIter I b i)(j:Q () s):LC (Ly ab w) A (Mq ap (.ref I) v) Q E s:=bn h λo a e d=>AR a e d (.inr (.inl rfl)) j
def aKf{V:St}(h:∀it gl,(∀l N,eg w l N k ap it W gl)->(∀l,gb w l it gl)->K (.ref it) ⟨V.loc,gl++V.led⟩):F1 w A B z Val Pz (.tup W) V K:=λs Z x H S Q E D=>by
 refine bL (oh H) λa d n t e f=>?_;subst t;have C:s.heap.IsTuple a d.toArray:=⟨_,S.frozen _ _ e,rfl,n,rfl⟩;refine wpAny_pyIter_tuple C ?_;have R:a≠s.heap.objs.size:=MA (Mf (S.frozen _ _ e));have p:d.toArray.size=W.length:=by simp[f.length]
 have P:=S.toca.push (o:={ cls:=.type "tuple_iterator",data:=.fields #[.ref a,.int 0 0]}) (ao:=ie s.heap.objs.size [s.heap.objs.size,a] (λi v=>d.toArray[i]?=Wu v) W (λi h=>h.IsTupleIter s.heap.objs.size a i/\h.IsTuple a d.toArray) 0) rfl s.toks
  ⟨_,Lc _ rfl,λb g=>by
   simp only[KZ,MU,or_false] at g;rcases g with rfl |rfl
   ·exact .inl rfl
   ·exact .inr ⟨_,e⟩,λi y v m r=>by
   refine ag (f.get m) λu c Y=>?_;simp only[Pd] at r;rw[c] at r;cases r
   exact Y,λh c Y=>⟨⟨_,c,rfl,rfl⟩,_,Y _ _ e,rfl,n,rfl⟩⟩
 refine D _ _ _ Z _ (h s.heap.objs.size _ (λl N=>eg.walks (w:=w) (B:=l) (ap:=ap) (W:=W) (λA F=>by exact(p)▸Walks.tuple F s.heap.objs.size a R d.toArray) (λA i s v Q E j G=>aEf j.1 G) (λi h j=>by refine ag j.1 λo J O=>?_;exact⟨o,J⟩) k W.length 0 (OJ _)) ?_) (S.after P.1 P.2) (.ref _) P.2.toF;intro l A' a8 M U q X E' G;exact gg (q.own _ (KJ ..)) λo J m r L=>wpAny_pyIter_tupleiter (L _ J q.frozen).1 G
def aKg{V:St}(h:∀it gl,eg w B N k ap it W gl->K (.ref it) ⟨V.loc,gl++V.led⟩):F1 w A B z Val Pz (.tup W) V K:=aKf λit gl a O=>h it gl (a _ _)
end
section
variable{K:Frag}
def Hk{k:Nat}(j:o.data=.dict es k)(d:Si es):lookIn name o=Wu (So es name):=by
 unfold lookIn So findBy;rw[j];dsimp only;have e:es.find? (λe=>e.key.isStr name)=es.toList.find? (λe=>e.key.isStr name):=by rw[Array.find?_toList]
 rw[e];cases q:es.toList.find? (λe=>e.key.isStr name) with
 |some e=>rfl
 |none =>
  dsimp only;rw[if_neg]
  ·rfl
  ·rw[Wr,Tl];intro e i;refine oK (d e (by simpa using i)) λn t a=>?_;unfold DictEntry.refKey;exact(Eq.symm (a))▸LZ
def AZ(m:List (Str×AV))(Z:eb)(o:Obj):Prop:=∃f:Str->Option Value,(∃a d,o.data=.dict a d/\Si a/\UniqKeys a/\∀n,So a n=f n)/\∀x,ix Z (m.lookup x) (f x)
def aEU(Z a:eb)(o:Obj)(k:eb.le Z a)(x:AZ m Z o):AZ m a o:=x.imp λO h=>⟨h.1,λy=>(h.2 y).mono k⟩
abbrev bO(m:List (Str×AV)):el:=.obj (AZ m) aEU
def aDt{m:List (Str×AV)}(h:m.lookup x≠Wv):x∈m.map (·.1):=by
 induction m with
 |nil=>exact absurd rfl h
 |cons p l a =>
  rw[Lu] at h;cases q:(x==p.1) with
  |true=>rw[beq_iff_eq.mp q];simp
  |false=>rw[q] at h;exact KP _ (a h)
structure Wz (K:Frag) (C:LP):Prop where
 ga:TH K (.ref C) "__getattribute__" = Wu (Wu (.builtin "object.__getattribute__"))
 gt:TH K (.ref C) "__getattr__" = Wu Wv
 sa:TH K (.ref C) "__setattr__" = Wu (Wu (.builtin "object.__setattr__"))
 plain:plainOver K C=Ww
 cd:∃c,clsIn K C=Wu c/\c.hasDict=Ww
set_option backward.match.sparseCases false in
def AV.handed:AV->Bool
 |.blt _=>Wx
 |.ln _=>Wx
 |.any=>Wx
 |_=>Ww
def Val.handed{x:Value}(h:Val Z v x)(e:v.handed=Ww):handedIn x=Ww:=by
 revert e;refine Val.casesOn (motive_1:=λv x O=>v.handed=Ww->handedIn x=Ww) h ?_ ?_ ?_ ?_ ?_ ?_ ?_ ?_ ?_ ?_ ?_ ?_ ?_ ?_ ?_ ?_ <;> intros <;> first |rfl |exact(LZ (by assumption)).elim
def AY(j:∀a o,Z a=Wu o->s.heap.get? a=Wu o)(e:Z a=Wu {cls:=.ref C,dict:=Wu d,data:=.plain})(i:s.heap.get? d=Wu b):InstAt s.heap a {cls:=.ref C,dict:=Wu d,data:=.plain} C (Wu b):=⟨j _ _ e,rfl,rfl,i⟩
def eI{V:St}{o:Bool}(G:Wz K C)(Y:TH K (.ref C) name=Wu Wv)(b:(d,bO m)∈V.led)(hv:m.lookup name=Wu v)(r:v.handed=Ww)
  (h:R v V):F1 w A (am K) z Val (λx=>QC x name o) (.inst C d) V R:=λs Z x H S Q E t=>by
 refine ag (Bc H) λO J e=>?_;subst J;refine ag (S.own _ b) λD l y=>ag y λf y W=>oJ y λF L k i p g=>?_;dsimp only at l;have I:=AY S.frozen e l;have a:=W name;rw[hv] at a;refine ag G.cd λc q n=>?_;cases j:f name with
 |none =>
  simp only[j] at a;cases a
  cases r
 |some u =>
  simp only[j] at a;have H:Val Z v u:=by
   cases a with
   |some h=>exact h
   |any=>cases r
  refine get_value (K:=K) (dK S.base S.frozen) I G.ga (v:=u) ?_ (H.handed r) (t v u _ Z V h (S.toks _) H (.toks _));unfold findObj;rw[q,Y];dsimp only[VL];unfold ownOf;rw[n,if_pos rfl];dsimp only;rw[Hk k i,g,j];rfl
def Kz{V:St}{R:Unit->St->Prop}(G:Wz K C)(ht:takerIn K C name=Wu Wv)(hm:bM m name v=m')(d6:m'.length<=1000)(U:Upd d (bO m) (bO m') V.led a8)
  (h:R () ⟨V.loc,a8⟩):F2 w A (am K) z aQ (λx y=>setAttr x name y) (.inst C d) v V R:=λs Z x y W V' S Q E hQ=>by
 refine ag (Bc W) λa qv e=>?_;subst qv;subst hm;refine ag (S.own _ U.mem) λod k h_=>ag h_ λf h_ hr=>oJ h_ λes ep p o j hf=>?_;dsimp only at k;have D:s.heap.Ns1 d f:=⟨od,es,ep,k,p,o,j,hf⟩;have X:=dK S.base S.frozen;have I:=AY S.frozen e k;refine ag G.cd λc hc u=>set_plain (K:=K) X I G.sa (osa_open (s:={ s with toks:=s.toks+1}) X I G.plain ht λb=>KI (KN (KI (KI (QY I.at_ (KI (looks_clsIn X hc _ _ _ _ (λO O e=>e) ?_)))))));rw[u];refine KN (a:=Wu d) (KI (KN (KI (wpAny_nsSet1 (s:={ s with toks:=s.toks+1}) D λh' l Y=>?_))));have r:∀H,ix Z ((bM m name v).lookup H) (if H=name then Wu y else f H):=λH=>by
  rw[jp];by_cases q:H=name
  ·simp only[q,if_true];exact .some V'
  ·simp only[q,if_false];exact hr H
 have hw:Within (λH=>if H=name then Wu y else f H) ((bM m name v).map (·.1)):=λH hz=>aDt λe=>by
  have:=r H;simp only[e] at this;have i:(if H=name then Wu y else f H)≠Wv:=hz;revert i this;generalize (if H=name then Wu y else f H)=q;intro this i;cases this
  exact i rfl
 refine bL (l.count hw) λo' k9 l4 t N Xk=>?_;have n:o'.data.pastItsLine=Wv:=by
  rw[N];refine pastItsLine_dict ?_;rw[KR] at Xk;have YL:(1000:Nat)<=LY:=by decide
  omega
 refine KI (wpAny_lookBehind (s:={ s with heap:=h',toks:=s.toks+1+1}) t n (KN ?_));refine lL l λo2 ZX ZY g M F J L=>?_;clear l;have P:=S.toca.upd U (h':=h') (tk:=s.toks+1+1) (λb ob hb e=>Y.extBut b ob hb e) rfl rfl ⟨o2,g,_,⟨ZX,ZY,M,F,J,L⟩,r⟩;exact hQ () () _ Z _ h (S.after P.1 P.2) trivial P.2.toF
end
section
variable{K:Frag}
def wY(a:QM c8 b z (ME c8 z)=ME c8 z)
  (h:T w A B z Val (ME c8 z) V λv fI=>F1 w A B z Val (λx=>QC x b Ww) v fI R):T w A B z Val (ME (.Attribute c8 b a9) z) V R:=λs Z S Q E j=>by
 simp only[arm_eval_Attribute,a];exact KI (h s Z S _ _ λv x c5 l fI d r p o=>KI (LN (KI (Lh (d c5 l x p r _ _ λu y i n e k G H X =>
  KI (Tf (KN (j u y i n e k G H (o.trans X)))))))))
def dZ{o:Expr}{R:Unit->St->Prop}
  (h:T w A B z Val (ME o z) V λu fI=>F2 w A B z aQ (λx y=>setAttr x b y) u v fI R):F1 w A B z aQ (MM (.Attribute o b a9) z) v V R:=λs Z x H S Q E j=>by
 simp only[arm_assign_Attribute];exact KI (Lh (h s Z S _ _ λu y c5 l fI a r p e=>KI (LN (KI (Lh (a c5 l y x p (H.mono e.le) r _ _ λO O i n d k G O X=>Vb (j () () i n d k G trivial (e.trans X))))))))
inductive Xo (w:Lz) (A:Lk) (B:eb) (z:Env) (a9:Pos) (name:Str) (C f:LP) (args:List Expr) (R:AV->St->Prop):AV->St->Prop
 |mk {d:LP} {m:List (Str×AV)} {V:St} (hm:(d,bO m)∈V.led) (hl:m.lookup name=Wv) (h:CA w A B z a9 (.ref f) [.inst C d] args V R):Xo w A B z a9 name C f args R (.inst C d) V
def jD{o:Expr}{i:Pos}
  (G:QM o name z (ME o z)=ME o z)
  (c:((NF a9 (Mh args z)).all (λx => !x.1)&&(QL a9 (PH [] z)).all (λx=>x.1.isSome)
   && decide (args.length+([]:List QE).length+(if ([]:List QE).isEmpty then 0 else 1)<30))=Ww)
  (l:(i.endLine==a9.line)=Ww) (P:Wz K C) (hf:TH K (.ref C) name=Wu (Wu (.ref f))) (ht:typeIn K (.ref f)=Wu (.type "function"))
  (h:T w A (am K) z Val (ME o z) V (Xo w A (am K) z a9 name C f args R)):T w A (am K) z Val (ME (.Call (.Attribute o name i) args [] a9) z) V R:=λs Z S Q E hQ=>by
 simp only[Vo,G];refine KI (h s Z S _ _ λv x c5 Z1 fI W J t N=>KI (LN ?_));revert J t N;refine W.rec fun{d m fI} hm hl hc J t N=>?_;have V2:=t;refine ag (Bc t) λa qv e=>?_;subst qv;refine ag (J.own _ hm) λod b M=>ag M λg M hr=>oJ M λes ep r n F hg=>?_;dsimp only at b;have I:=AY J.frozen e b;have j:=hr name;rw[hl] at j;have L:g name=Wv:=by cases q:g name with |none=>rfl |some u=>simp only[q] at j;cases j
 have p:UP (args.length+([]:List QE).length) (NF a9 (Mh args z)) (QL a9 (PH [] z))=Ww:=c;have Y:Tz Ww o z i a9=Nb a9:=by unfold Tz;simp[l]
 unfold methodCall;rw[p];refine KI (Lh (method_fn (K:=K) (dK J.base J.frozen) I P.ga P.gt hf ht (by unfold shadowIn;dsimp only;rw[Hk r n,hg,L];rfl) ?_));exact KI (Mo Y (hc c5 Z1 (.ref f) [.ref a] (.ref f) (.cons V2 .nil) J _ _ λv y U Z' D k S' H X=>hQ v y U Z' D k S' H (N.trans X)))
def aIX{R:AV->aa->Prop}(y:dt A (k+1))(n:makesIn K C=Ww)(q:TH K (.ref C) "__init__" = Wu (Wu (.ref b)))(D:typeIn K (.ref b)=Wu (.type "function"))
  (h:∀d c,dt c k->d∉keys Y->TC w c (am K) (.ref b) (.inst C d::args) kw ((d,bO [])::Y) λv a8=>v=.none/\R (.inst C d) a8):TC w A (am K) (.ref C) args kw Y R:=λs Z P W j S r m p Q F=>by
 cases r
 obtain⟨a,g,U,t,os⟩:=s;have X:=dK S.base S.frozen;refine make_core (init:=.ref b) (makes_of X n) (looks_findIn X q) (λl=>bind_fn X l D) (.inl rfl) ?_;have J:=S.push (o:=emptyDict) (ao:=bO []) rfl t ⟨_,Lc _ rfl,λO=>Wv,⟨#[],0,rfl,λO h=>by simp at h,by unfold UniqKeys;simp,λO=>rfl⟩,λO => .none⟩;have G:=J.1.pushZ (o:=instObj C a.objs.size) rfl t;have d6:(a.push emptyDict).objs.size=a.objs.size+1:=Od ..;have z:Val (m8 Z (a.push emptyDict).objs.size (instObj C a.objs.size)) (.inst C a.objs.size) (.ref (a.objs.size+1)):=by rw[d6];exact .inst (l2 ..)
 have i:=J.2.trans G.2;refine h a.objs.size (A.under (.builtin "type.__call__" ⟨.ref C::W,j⟩)) ⟨y.h,?_,?_⟩ S.lfresh _ _ (.ref b) _ j G.1 (.ref b) (.cons z (m.mono i.le)) (p.mono i.le) _ λv x f L a8 k M V E=>?_
 ·have e:(Qr "type.__call__" ⟨.ref C::W,j⟩).weight=1:=@_
  have:=y.d;show A.depth+(Qr "type.__call__" ⟨.ref C::W,j⟩).weight+k<=_;rw[e];omega
 ·have e:(Qr "type.__call__" ⟨.ref C::W,j⟩).cUnits=1:=@_
  have:=y.u;show A.units+(Qr "type.__call__" ⟨.ref C::W,j⟩).cUnits+k<=_;rw[e];omega
 ·refine aD k ?_;clear k;intro N k;subst N
  (have H:=V.inv;subst H)
  exact⟨rfl,F _ _ f L a8 k M (z.mono E.le) (i.trans E)⟩
end
section
variable{K:Type}[DecidableEq K]
inductive KV (Z:eb):List (K×AV)->List (K×Value)->Prop
 |nil:KV Z [] []
 |cons {k:K} {v:AV} {x:Value} {l:List (K×AV)} {r:List (K×Value)}:Val Z v x->KV Z l r->KV Z ((k,v)::l) ((k,x)::r)
omit [DecidableEq K] in
def KV.mono(k:eb.le Z b){l:List (K×AV)}{r:List (K×Value)}(h:KV Z l r):KV b l r:=by
 induction h with
 |nil=>exact .nil
 |cons v _ a=>exact .cons (v.mono k) a
omit [DecidableEq K] in
def KV.length{l:List (K×AV)}{r:List (K×Value)}(h:KV Z l r):r.length=l.length:=by
 induction h with
 |nil=>rfl
 |cons v _ a=>simp only[La,La,a]
def bo(m:List (K×AV))(k:K):Option AV:=(m.find? λkv=>kv.1=k).map (·.2)
def fj(m:List (K×AV))(k:K)(v:AV):List (K×AV):=if m.any (λkv=>kv.1=k) then m.map (λkv=>if kv.1=k then (kv.1,v) else kv) else m++[(k,v)]
def KV.find{l:List (K×AV)}{r:List (K×Value)}(h:KV Z l r)(k:K):(bo l k=Wv/\Sg r k=Wv)\/∃v x,bo l k=Wu v/\Sg r k=Wu x/\Val Z v x:=by
 induction h with
 |nil=>exact .inl ⟨rfl,rfl⟩
 | @cons a v x l r i _ d =>
  unfold bo Sg at *;rw[Nh,Nh];by_cases e:a=k
  ·simp only[e,decide_true];exact .inr ⟨v,x,rfl,rfl,i⟩
  ·simp only[e,decide_false];exact d
def KV.any{l:List (K×AV)}{r:List (K×Value)}(h:KV Z l r)(k:K):(r.any λkv=>kv.1=k)=(l.any λkv=>kv.1=k):=by
 induction h with
 |nil=>rfl
 |cons v _ a=>simp only[List.any_cons,List.any_cons,a]
def KV.stored{l:List (K×AV)}{r:List (K×Value)}(h:KV Z l r){k:K}{x:Value}(hv:Val Z v x):KV Z (fj l k v) (PySem.stored r k x):=by
 unfold fj PySem.stored;rw[h.any k];generalize (l.any λkv=>kv.1=k)=b;cases b with
 |true =>
  rw[if_pos rfl,if_pos rfl];induction h with
  |nil=>exact .nil
  | @cons i n j l r a _ d =>
   rw[Le,Le];dsimp only;by_cases e:i=k
   ·rw[if_pos e,if_pos e];exact .cons hv d
   ·rw[if_neg e,if_neg e];exact .cons a d
 |false =>
  rw[if_neg LZ,if_neg LZ];induction h with
  |nil=>exact .cons hv .nil
  |cons a _ d=>exact .cons a d
def aBb(l:List (K×AV))(k:K)(v:AV):(fj l k v).length<=l.length+1:=by
 unfold fj;split
 ·rw[KR];omega
 ·rw[Lb];exact LK _
def BA(c_:Ov ab w K)(m:List (K×AV))(Z:eb)(o:Obj):Prop:=∃d e a,o.ExactDict/\o.data=.dict d e/\KeysOf c_ d/\Pairs c_ d.toList a/\(a.map (·.1)).Nodup/\KV Z m a
def aG8{c_:Ov ab w K}{m:List (K×AV)}(Z a:eb)(o:Obj)(k:eb.le Z a)(x:BA c_ m Z o):BA c_ m a o:=x.imp λO h=>h.imp λO h=>h.imp λO h=>⟨h.1,h.2.1,h.2.2.1,h.2.2.2.1,h.2.2.2.2.1,h.2.2.2.2.2.mono k⟩
abbrev aA(c_:Ov ab w K)(m:List (K×AV)):el:=.obj (BA c_ m) aG8
def rH{c_:Ov ab w K}{m:List (K×AV)}{Y:aa}(S:ca B s Z Y)(h:(d,aA c_ m)∈Y):∃Xe,s.heap.DictOf c_ d Xe/\KV Z m Xe:=ag (S.own _ h) λo i j=>jH j λk l Xe a b c e f g=>cL Xe ⟨o,k,l,i,a,b,c,e,f⟩ g
def rG{c_:Ov ab w K}{m:List (K×AV)}{i:List (K×Value)}(h:s.heap.DictOf c_ d i)(g:KV Z m i):Holds Z s d (aA c_ m):=by
 refine jH h λo k l j a b c e f=>?_;clear h;exact⟨o,j,k,l,i,a,b,c,e,f,g⟩
def Hy(i:Int):∀Z x,Val Z (.int i) x->(NV ab w).is i x=Ww:=λZ x V=>by
 cases V
 show (decide _)=Ww;simp
def we(i:Str):∀Z x,Val Z (.str i) x->(LM ab w).is i x=Ww:=λZ x V=>by
 cases V
 simp[LM,SN]
def aJB{c_:Ov ab w K}{m:List (K×AV)}{dflt:AV}{k:K}{V:St}(a:(d==Nl)=Wx)(G:∀Z x,Val Z v x->c_.is k x=Ww)(r:(d,aA c_ m)∈V.led)
  (h:R ((bo m k).getD dflt) V):FC w A B z (.blt "dict.get") [.ref d,v,dflt] [] V R:=n5 λs Z S Q E J=>om <| l6 <| om <| λn Y=>om <| λo W=>Zq <| by
 refine ag (rH S.toca r) λp l e=>call_meetsIn Un l.typeIs F.entry_dict_get (F.args_dict_get_3 _ _ _) (VR c_ d (G Z n Y) a o) ⟨_,l.mapOf,J _ _ _ Z V h (S.toks _) ?_ (.toks _)⟩;rcases e.find k with ⟨j,i⟩ |⟨u,y,j,i,c⟩
 ·exact(Eq.symm (j))▸(Eq.symm (i))▸W
 ·exact(Eq.symm (j))▸(Eq.symm (i))▸c
end
section
variable{K:Type}[DecidableEq K]
def F3(w:Lz)(A:Lk)(B:eb)(z:Env)(f:Value->Value->Value->Sem Unit)(k j i:AV)(V:St)(R:Unit->St->Prop):Prop:=∀(s:KY) (Z:eb) (e d a:Value),Val Z k e->Val Z j d->Val Z i a->ff B z s Z V->∀(Q:Unit->KY->Prop) (E:Value->KY->Prop),
  HQ B z aQ V R s Z Q->LC (Ly ab w) A (f e d a) Q E s
def sd{o i:Expr}{R:Unit->St->Prop}
  (h:T w A B z Val (ME o z) V λu fI=>T w A B z Val (ME i z) fI λj ia=>F3 w A B z UH u j v ia R):F1 w A B z aQ (MM (.Subscript o i a9) z) v V R:=λs Z x H S Q E G=>by
 rw[arm_assign_Subscript];refine KI (Lh (h s Z S _ _ λu y c5 K fI d f b n=>KI (Lh (d c5 K f _ _ λj C p J ia a c Y l=>KI (LN (KI (Lh
  (a p J y C x (b.mono l.le) Y (H.mono (n.le.trans l.le)) c _ _ λO O r W e k g O X=>?_))))))))
 exact Vb (G () () r W e k g trivial ((n.trans l).trans X))
def aJT{c_:Ov ab w K}{m m':List (K×AV)}{k:K}{V:St}{a8:aa}{R:Unit->St->Prop}(r:∀Z x,Val Z v x->c_.is k x=Ww)(d6:m.length<=LY)(p:fj m k u=m')
  (U:Upd d (aA c_ m) (aA c_ m') V.led a8) (h:R () ⟨V.loc,a8⟩):F3 w A B z UH (.ref d) v u V R:=λs Z q l g f c Y S Q E G=>by
 (have W:=f.inv;subst W)
 subst p;refine ag (rH S.toca U.mem) λo J a=>wpAny_setItem_pairs (r Z l c) J (λh' j i=>?_) (by rw[a.length];exact d6);have P:=S.toca.upd U (h':=h') (tk:=s.toks+1) (λb n y e=>i.extBut b n y e) rfl rfl (rG j (a.stored Y));exact G () () _ Z _ h (S.after P.1 P.2) trivial P.2.toF
def xm{c_:Ov ab w K}{m:List (K×AV)}{k:K}{V:St}(p:∀Z x,Val Z v x->c_.is k x=Ww)(o:(d,aA c_ m)∈V.led)(i:bo m k=Wu u)
  (h:R u V):F2 w A B z Val QN (.ref d) v V R:=l8 λs Z S Q E r=>l6 <| λl W=>by
 refine ag (rH S.toca o) λn G e=>?_;rcases e.find k with ⟨a,j⟩ |⟨Y,y,a,j,J⟩
 ·rw[i] at a;cases a
 ·rw[i] at a;cases a
  exact wpAny_getItem_of (p Z l W) G.mapOf j (r _ _ _ Z V h (S.toks _) J (.toks _))
def aAk{c_:Ov ab w K}{j:List (K×Value)}{k:K}{c9 dflt:Value}(n:c_.is k c9=Ww)(W:s.heap.DictOf c_ d j)
  (r:∀v,Sg j k=Wu v->Q v {s with toks:=s.toks+1})
  (y:Sg j k=Wv->∀h',h'.DictOf c_ d (j++[(k,dflt)])->LL d s.heap h'->Q dflt {s with heap:=h',toks:=s.toks+1})
  (d6:j.length<=LY):LC (Ly ab w) A (US d c9 dflt) Q E s:=by
 have f:=W.mapOf;refine jH W λo p D R t G g J q=>?_;clear W;have Z:p.size<=LY:=by
  have H:=J.length;have F:p.toList.length=p.size:=by simp
  omega
 have z:(p.findIdx? λe=>c_.is k e.key)=j.findIdx? λkv=>decide (kv.1=k):=by
  simp only[<-J.findIdx k];obtain⟨l⟩:=p;simp
 have h:findBy c_.is p k=Sg j k:=by
  rw[<-J.find k];unfold findBy;obtain⟨l⟩:=p;simp
 unfold US;try with_reducible refine Lh ?_
 refine KI (c_.pyHash n (KI (wpAny_dictFind_of (s:={ s with toks:=s.toks+1}) n R G g ?_)));cases V:p.findIdx? λe=>c_.is k e.key with
 |some i =>
  have u:Sg j k=(p[i]?).map (·.val):=by rw[<-h,findBy_of_findIdx?,V]
  refine KI (wpAny_dictEntries (s:={ s with toks:=s.toks+1}) R G ?_);cases c:p[i]? with
  |none =>
   exfalso
   have:=Array.findIdx?_eq_some_iff_findIdx_eq.mp V;have Y:i<p.size:=this.1;rw[MQ Y] at c;exact aDe c
  |some e =>
   rw[c] at u;exact KI (MI (KN (r e.val u)))
 |none =>
  have u:Sg j k=Wv:=by rw[<-h,findBy_of_findIdx?,V]
  have x:k∉j.map (·.1):=not_mem_of_findIdx_none (z▸V);refine KI (MI (KI (wpAny_updateDictKeys (hz:=Z) (s:={ s with toks:=s.toks+1}) R G (KN (y u _ ⟨_,_,D+1,LV _ R (Obj.isFreed_of_dict (Vt G _)),
   t.mapDictKeys _,Vt G _,g.push n _,?_,?_⟩ (LR ..))))))
  ·have:=J.append n (c_.hash k) dflt;obtain⟨l⟩:=p;simpa using this
  ·rw[LD,Ql];refine⟨q,by simp,?_⟩;intro a C b m;rw[Le,NU,Lm] at m;subst m;exact λe=>x (e▸C)
end
section
variable{K:Type}[DecidableEq K]
def aDx(c_:Ov ab w K){k:K}(e:c_.is k c9=Ww)(r:(d==Nl)=Wx)(dflt:Value):MeetsIn ab w (Builtin.«dict.setdefault» ⟨[.ref d,c9,dflt],[]⟩) (λO R s=>∃a,s.heap.DictOf c_ d a/\a.length<=LY /\
   (∀v,Sg a k=Wu v->R (.ok (.ret v)) {s with toks:=s.toks+1}) /\
   (Sg a k=Wv->∀h',h'.DictOf c_ d (a++[(k,dflt)])->LL d s.heap h'->R (.ok (.ret dflt)) {s with heap:=h',toks:=s.toks+1})):=.of_wp λA R s u=>gg u λa l n y x=>by
  unfold Builtin.«dict.setdefault»;refine KI ?_;unfold Builtin.Dict.keyAndDefault;refine KI (Wf l.typeIs ?_);show LC _ _ (Nb (d,c9,Wu dflt)) _ _ s;refine KN ?_;show LC _ _ (if (d==Nl)=Ww then _ else (US d c9 dflt>>=_)) _ _ s;refine ec (by rw[r];exact LZ) ?_;exact KI (aAk e l (λv o=>KN ⟨v,rfl,y v o⟩) (λp h' j i=>KN ⟨dflt,rfl,x p h' j i⟩) n)
omit [DecidableEq K] in
def KV.snoc{l:List (K×AV)}{r:List (K×Value)}(h:KV Z l r){k:K}{x:Value}(hv:Val Z v x):KV Z (l++[(k,v)]) (r++[(k,x)]):=by
 induction h with
 |nil=>exact .cons hv .nil
 |cons a _ d=>exact .cons a d
def aJm{c_:Ov ab w K}{m:List (K×AV)}{k:K}{V:St}(o:(d==Nl)=Wx)(C:∀Z x,Val Z v x->c_.is k x=Ww)(d6:m.length<=LY)
  (U:Upd d (aA c_ m) (aA c_ (m++[(k,u)])) V.led a8) (L:∀x,bo m k=Wu x->R x V) (H:bo m k=Wv->R u ⟨V.loc,a8⟩):FC w A B z (.blt "dict.setdefault") [.ref d,v,u] [] V R:=n5 λs Z S Q E G=>om <| l6 <| om <| λf M=>om <| λg W=>Zq <| by
 refine ag (rH S.toca U.mem) λl J a=>?_;refine call_meetsIn VC J.typeIs F.entry_dict_setdefault (F.args_dict_setdefault_3 _ _ _) (aDx c_ (C Z f M) o g) ⟨l,J,by rw[a.length];exact d6,λy r=>?_,λt h' p n=>?_⟩
 ·rcases a.find k with ⟨j,i⟩ |⟨h,c,j,i,Y⟩
  ·rw[r] at i;cases i
  ·rw[r] at i;cases i
   exact G _ _ _ Z V (L _ j) (S.toks _) Y (.toks _)
 ·rcases a.find k with ⟨j,i⟩ |⟨h,c,j,i,Y⟩
  ·have P:=S.toca.upd U (h':=h') (tk:=s.toks+1) (λb q D e=>n.extBut b q D e) rfl rfl (rG p (a.snoc W));exact G _ _ _ Z _ (H j) (S.after P.1 P.2) W P.2.toF
  ·rw[t] at i;cases i
end
section
variable{N:aa}
def wD:Nat->List AV->List AV
 |_,[]=>[]
 |i,x::W => .tup [.int i,x]::wD (i+1) W
def Bz(it:LP)(i:Nat)(_:eb)(o:Obj):Prop:=∃a,o={ cls:=.type "enumerate",dict:=Wv,data:=.fields #[.none,.bool Wx,.ref it,MC i,.none,a],slots:=#[]}
def io(W:List AV)(i:Nat)(Z:eb)(o:Obj):Prop:=∃l a n,o.cls=.type "list_iterator" /\ o.data=.fields #[.ref l,.int i 0]/\Z l=Wu {cls:=.type "list",data:=.seq (a:List Value).toArray n}/\Vals Z W a
def aGP(Z a:eb)(o:Obj)(k:eb.le Z a)(x:Bz it i Z o):Bz it i a o:=x
def lu(Z a:eb)(o:Obj)(k:eb.le Z a)(x:io W i Z o):io W i a o:=x.imp λO h=>h.imp λO h=>h.imp λO h=>⟨h.1,h.2.1,k _ _ h.2.2.1,h.2.2.2.mono k⟩
abbrev fW(e it:LP)(W:List AV)(i:Nat):aa:=[(e,.obj (Bz it i) aGP),(it,.obj (io W i) lu)]
def eg.enum{x1:Nat}{e:LP}(k:Nat):∀(d i:Nat),i+d=W.length->eg w B N k (.Tuple jb x1 YO) e (wD i (W.drop i)) (fW e it W i):=by
 intro d;induction d with
 |zero =>
  intro i z;have z:i=W.length:=(Tt i).symm.trans z;subst z;rw[Sd];intro A hA Y hN s Z S Q E X;refine ag (S.own _ (KJ ..)) λoe j v=>al v λt e_=>?_;subst e_;refine ag (S.own _ (KP _ (KJ ..))) λD r v=>fM v λl items n M H g m=>wpAny_pyNext_enum_end hA.h j ⟨D,r,M,H⟩ ⟨_,S.frozen _ _ g,rfl,n,rfl⟩ ((Pd ..).trans (MX (Oz m.length))) λh' hx=>?_;have P:=ca.stepE (gl:=fW e it W W.length) (s':={ s with heap:=h' }) S (λb o c q=>hx b o (λy=>c (y▸KP _ (KJ ..))) q) rfl rfl;exact X _ Z P.1 P.2
 |succ d ih =>
  intro i z;have J:i<W.length:=z▸OO (Pf d);rw[MP J];intro A hA Y hN s Z S Q E X;refine ag (S.own _ (KJ ..)) λoe j v=>al v λt e_=>?_;subst e_;refine ag (S.own _ (KP _ (KJ ..))) λD r v=>fM v λl items n M H g m=>?_;have R:e≠it:=λq=>(Lp.mp S.nodup).1 (q▸KJ ..);refine ag (m.get (LF J)) λu hu hV=>wpAny_pyNext_enum_item j ⟨D,r,M,H⟩ ⟨_,S.frozen _ _ g,rfl,n,rfl⟩ (x:=u) ((Pd ..).trans hu) R λh' ho K hT d6 hk=>?_;refine wpAny_letOwnedTupleGo_enum ho λZW V a=>bn K λC G L F=>?_;have U:s.heap.objs.size≠e:=Qg (Mf j);refine jI (ca.stepN (gl:=fW e it W i) (d5:=fW e it W (i+1)) (s':={ s with heap:=ZW,toks:=s.toks+1}) S (λb o c q=>(a.2 b λy=>c (y▸KJ ..)).trans (hk b o (λy=>c (y▸KJ ..)) (λy=>c (y▸KP _ (KJ ..))) q))
   (gB s) ((a.2 _ U).trans hT) (λf p hp=>(KZ.mp hp).elim (λy=>y▸⟨_,V,_,rfl⟩) λy=>Lm.mp y▸⟨C,(a.2 it R.symm).trans G,l,items,n,L,F,f _ _ g,m.mono f⟩) rfl rfl rfl rfl) λf P1 P2=>?_
  exact X _ _ _ (fW e it W (i+1)) P1 (.tup (items:=[.int i s.toks,u]) (l2 ..) (.cons (.int _ _) (.cons (hV.mono f) .nil))) P2 (ih (i+1) ((Oy i d).trans z))
end
section
variable{N:aa}
def aJp{a b:Int}(h:R (.rng a b) V):FC w A B z (.typ "range") [.int a,.int b] [] V R:=FC.t λs Z S Q E i=>om <| oz λe=>om <| oz λd=>Zq <| by
 refine call_range_2 ?_;have P:=S.toca.pushZ (o:={ cls:=.type "range",data:=.fields #[.int a e,.int b d,.int 1 s.toks]}) rfl (s.toks+1);exact i _ _ _ _ _ h (S.after P.1 P.2) (.rng (l2 ..)) P.2.toF
def Cs{b:Int}(h:R (.rng 0 b) V):FC w A B z (.typ "range") [.int b] [] V R:=FC.t λs Z S Q E d=>om <| oz λa=>Zq <| by
 refine call_range_1 ?_;have P:=S.toca.pushZ (o:={ cls:=.type "range",data:=.fields #[.int 0 s.toks,.int b a,.int 1 (s.toks+1)]}) rfl (s.toks+1+1);exact d _ _ _ _ _ h (S.after P.1 P.2) (.rng (l2 ..)) P.2.toF
def fm(a b:Int):List AV:=(List.range (b-a).toNat).map fun(i:Nat) => .int (a+(i:Int))
def aEg{I:LP}{x l c:Int}{v:Value}{Q:Unit->KY->Prop}(a:IsRangeIter s.heap I x l c)(d:Q () s):LC (Ly ab w) A (Mq ap (.ref I) v) Q E s:=AR a rfl rfl (.inr (.inr rfl)) d
def aEO{St:Nat->Heap->Prop}(a:∀(A:Lk) (s:KY) (Q:Value->KY->Prop) E,St i s.heap->Q (.ref it) s->LC (Ly ab w) A (Pz (.ref it)) Q E s):gb w B it [(it,ie it fp Pv W St i)]:=λA Y s Z S Q E d=>by
 refine gg (S.own _ (KJ ..)) λo e O O j=>?_;exact a A s Q E (j _ e S.frozen) d
def KA{a b:Int}{V:St}(D : -(2^62)<=a)(f:a<2^62)(C : -(2^62)<=b)(Y:b<2^62)
  (h:∀it gl,(∀ap l N,eg w l N k ap it (fm a b) gl)->(∀l,gb w l it gl)->R (.ref it) ⟨V.loc,gl++V.led⟩):F1 w A B z Val Pz (.rng a b) V R:=λs Z x H S Q E F=>by
 refine aKt (aE4 H) λr t u v g e=>?_;subst g;refine wpAny_pyIter_range (S.frozen _ _ e) (small_one D f C Y) ?_;have n:(fm a b).length=(b-a).toNat:=by unfold fm;rw[KR,Wc]
 have d6:Builtin.Range.rangeSize a b 1=((b-a).toNat:Int):=by
  rw[rangeSize_one];exact iteInduction (motive:=λx:Int=>x=((b-a).toNat:Int)) (λh=>(Int.toNat_of_nonneg (Vz (UX h))).symm) λh=>(congrArg Int.ofNat (Int.toNat_of_nonpos (Vy (Rd.mp h)))).symm
 rw[d6];have P:=S.toca.push (o:={ cls:=.type "range_iterator",data:=.fields #[MC a,MC ((b-a).toNat:Int),MC 1]})
  (ao:=ie s.heap.objs.size [s.heap.objs.size] (λi v=>∃t,v=.int (a+i * 1) t) (fm a b) (λi h=>IsRangeIter h s.heap.objs.size (a+(i:Nat) * 1) (((b-a).toNat:Int)-(i:Nat)) 1) 0) rfl s.toks
  ⟨_,Lc _ rfl,λc q => .inl (by simpa using q),λi y v G p=>by
   refine al p λt X=>?_;clear p;subst X;unfold fm at G;rw[Ma] at G;refine ag (MB.mp G) λj m U=>?_;subst U;have K:j=i:=by
    refine al (NM.mp m) λG p=>?_;rw[<-p,List.getElem_range]
   rw[K,Int.mul_one];exact .int _ _,λh M e2=>by
   show h.get? s.heap.objs.size=_;rw[M];simp⟩
 exact F _ _ _ Z _ (h s.heap.objs.size _ (λap l N=>eg.walks (w:=w) (B:=l) (ap:=ap) (W:=fm a b) (fp:=[s.heap.objs.size]) (Pv:=λi v=>∃t,v=.int (a+i * 1) t) (St:=λi h=>IsRangeIter h s.heap.objs.size (a+(i:Nat) * 1) (((b-a).toNat:Int)-(i:Nat)) 1) (λA L=>by exact(Eq.symm (n))▸Walks.range L s.heap.objs.size a 1 (b-a).toNat) (λA i s v Q E d J=>aEg d J) (λi h d=>⟨_,d⟩) k (fm a b).length 0 (OJ _)) λl=>aEO λA s Q E d J=>wpAny_pyIter_rangeiter d J) (S.after P.1 P.2) (.ref _) P.2.toF
def aKh{a b:Int}{V:St}(j : -(2^62)<=a)(e:a<2^62)(i : -(2^62)<=b)(d:b<2^62)
  (h:∀it gl,eg w B N k ap it (fm a b) gl->R (.ref it) ⟨V.loc,gl++V.led⟩):F1 w A B z Val Pz (.rng a b) V R:=KA j e i d λit gl l O=>h it gl (l _ _ _)
end
def ca.freeze(S:ca B s Z ((a,.list W)::Y)):∃r,ca B s r Y/\Val r (.lst W) (.ref a)/\eb.le Z r/\hO (aj ((a,.list W)::Y)) s Z s r (aj Y):=by
 refine bG (S.own _ (KJ ..)) λd n g v=>?_;dsimp only at g;have z:Z a=Wv:=S.apart _ (KJ ..);have i:=m9 (o:={ cls:=.type "list",data:=.seq d n}) z;have j:=S.drop1;have u:a∉keys Y:=(Lp.mp S.nodup).1;refine⟨Z.add a {cls:=.type "list",data:=.seq d n},⟨S.base.trans i,λb o e=>?_,j.nodup,λp k=>?_,λp k=>(j.own p k).mono i (λO e=>e) (λO O O e=>e),j.gnodup,j.bare⟩,?_,i,
  ⟨i,λO O e O=>e,λb y => .inl (KP _ y),λb o e=>?_,rfl,λO O e O=>e,λO h => .inl h⟩⟩
 ·unfold m8 at e;by_cases q:b=a
  ·rw[if_pos q] at e;cases e;exact(Eq.symm (q))▸g
  ·rw[if_neg q] at e;exact S.frozen b o e
 ·have x:p.1≠a:=λq=>u (q▸Lv k);unfold m8;exact(Eq.symm (if_neg x))▸j.apart p k
 ·obtain⟨l⟩:=d;exact .lst (l2 ..) (v.mono i)
 ·unfold m8 at e;by_cases q:b=a
  ·exact .inr (.inl (q▸KJ ..))
  ·rw[if_neg q] at e;exact .inl e
inductive ij (a:LP) (W:List AV):List (Str×AV)->List (Str×AV)->Prop
 |nil:ij a W [] []
 |cast {x:Str} {l l':List (Str×AV)}:ij a W l l'->ij a W ((x,.ref a)::l) ((x,.lst W)::l')
 |keep {x:Str} {v:AV} {l l':List (Str×AV)}:ij a W l l'->ij a W ((x,v)::l) ((x,v)::l')
def ij.look(h:ij a W l l')(y:Str):l'.lookup y=l.lookup y\/(l.lookup y=Wu (.ref a)/\l'.lookup y=Wu (.lst W)):=by
 induction h with
 |nil=>exact .inl rfl
 |keep _ d =>
  simp only[Lu,Lu];split
  ·exact .inl rfl
  ·exact d
 |cast _ d =>
  simp only[Lu,Lu];split
  ·exact .inr ⟨rfl,rfl⟩
  ·exact d
def ff.freeze(S:ff B z s Z ⟨a6,(a,.list W)::Y⟩)(n:ij a W a6 ft):∃i,ff B z s i ⟨ft,Y⟩/\Val i (.lst W) (.ref a)/\hO (ay z ⟨a6,(a,.list W)::Y⟩) s Z s i (ay z ⟨ft,Y⟩):=by
 refine gg S.toca.freeze λi p H u X=>?_;have k:=S.after p X;refine fL i ⟨p,k.locZ,k.locL,?_,λx v e=>?_,S.fn⟩ H (X.toF (V:=⟨a6,(a,.list W)::Y⟩))
 ·refine ag k.loc λf r l=>cL f r (λy=>?_);rcases n.look y with h |⟨j,o⟩
  ·show ix i (ft.lookup y) (f y);exact(Eq.symm (h))▸l y
  ·show ix i (ft.lookup y) (f y);have d:=l y;dsimp only at d;rw[j] at d;rw[o];revert d;generalize f y=q;intro d;cases d with
   |some d=>cases d;exact .some H
 ·rcases n.look x with h |⟨j,o⟩
  ·exact S.kinds x v (by exact(h)▸e)
  ·exact S.kinds x _ j
def T.freeze{K:α->St->Prop}(l:ij a W a6 ft)(h:T w A B z b t ⟨ft,Y⟩ K):T w A B z b t ⟨a6,(a,.list W)::Y⟩ K:=λs Z S Q E n=>bn (S.freeze l) λo u V X=>h s o u Q E λv x j e d k i r p=>n v x j e d k i r (X.trans p)
open T renaming freeze→m5
section
variable{N:aa}
def aJJ{V:St}(h:∀e it,R (.ref e) ⟨V.loc,fW e it W 0++V.led⟩):FC w A B z (.typ "enumerate") [.lst W] [] V R:=FC.t λs Z S Q E f=>om <| λO m=>Zq <| by
 refine bL (rA m) λa j n y e K=>?_;subst y;refine call_enumerate_1 (S.frozen _ _ e) λx N r d6 v=>?_;refine bn r λG u c Y=>?_;clear r;have L:=S.toca;have k:∀b o,s.heap.get? b=Wu o->b≠s.heap.objs.size/\b≠s.heap.objs.size+1:=λb o q=>by
  have:=Mf q;exact⟨MA this,MA (Wm this)⟩
 have l:∀b∈keys V.led,b≠s.heap.objs.size/\b≠s.heap.objs.size+1:=λb hb=>by
  refine ag (LG.mp hb) λp hp C=>?_;subst C;exact al ((L.own p hp).live) λD g=>k _ _ g
 have J:∀b o,Z b=Wu o->b≠s.heap.objs.size/\b≠s.heap.objs.size+1:=λb o q=>k b o (L.frozen _ _ q);have d:∀b,(b=s.heap.objs.size\/b=s.heap.objs.size+1)->Z b=Wv:=λb hb=>by
  cases q:Z b with
  |none=>rfl
  |some o=>refine aD (J b o q) λq1 q2=>?_;rcases hb with hb |hb <;> contradiction
 have i:∀b,(b=s.heap.objs.size\/b=s.heap.objs.size+1)->s.heap.get? b=Wv:=λb hb=>by
  cases q:s.heap.get? b with
  |none=>rfl
  |some o=>refine aD (k b o q) λq1 q2=>?_;rcases hb with hb |hb <;> contradiction
 have SL:ca B {s with heap:=x } Z (fW (s.heap.objs.size+1) s.heap.objs.size W 0++V.led):=by
  refine⟨L.base,λb o q=>v b o (L.frozen b o q),?_,λp hp=>?_,λp hp=>?_,L.gnodup,L.bare⟩
  ·refine Lp.mpr ⟨λq=>?_,Lp.mpr ⟨λq=>(l _ q).1 rfl,L.nodup⟩⟩;rcases KZ.mp q with q |q
   ·exact absurd q (Qg (NC _))
   ·exact(l _ q).2 rfl
  ·rcases KZ.mp hp with rfl |hp
   ·exact d _ (.inr rfl)
   ·rcases KZ.mp hp with rfl |hp
    ·exact d _ (.inl rfl)
    ·exact L.apart p hp
  ·rcases KZ.mp hp with rfl |hp
   ·exact⟨_,N,_,rfl⟩
   ·rcases KZ.mp hp with rfl |hp
    ·exact⟨G,u,a,j,n,c,Y,e,K⟩
    ·exact n0 (s:=s) (.refl _) (λo q=>v _ o q) (λO O O q=>q) (L.own p hp)
 have X:hO (aj V.led) s Z {s with heap:=x } Z (aj (fW (s.heap.objs.size+1) s.heap.objs.size W 0++V.led)):=by
  refine⟨.refl _,λb o q O=>v b o q,λb hb=>?_,λO O q => .inl q,rfl,λO O q O=>q,λO h => .inl h⟩;rcases KZ.mp hb with hb |hb
  ·exact .inr (i b (.inr hb))
  ·rcases KZ.mp hb with hb |hb
   ·exact .inr (i b (.inl hb))
   ·exact .inl hb
 exact f _ _ _ Z _ (h (s.heap.objs.size+1) s.heap.objs.size) (S.after SL X) (.ref _) X.toF
def aKi{d:Nat}{e:LP}
  (h:eg w B N k (.Tuple jb d b) e (wD 0 W) (fW e it W 0)->R (.ref e) ⟨a6,fW e it W 0++Y⟩):F1 w A B z Val Pz (.ref e) ⟨a6,fW e it W 0++Y⟩ R:=F1.of λs Z S Q E l=>l6 <| by
 refine ag (S.own _ (KJ ..)) λo a j=>al j λi n=>?_;subst n;dsimp only at a;exact wpAny_pyIter_enum a (l _ _ s Z _ (h (eg.enum k W.length 0 ⋯)) S (.ref _) .refl)
end
set_option backward.match.sparseCases false in
def AV.isNone:AV->Option Bool
 |.none=>Wu Ww
 |.any=>UJ
 |.ln _=>UJ
 |.blt _=>UJ
 |_=>Wu Wx
def Val.isNone{x:Value}{b:Bool}(h:Val Z v x)(e:v.isNone=Wu b):(x==My)=b/\plainIs x .none=Ww:=Val.casesOn (motive_1:=λv x O=>v.isNone=Wu b->(x==My)=b/\plainIs x .none=Ww) h (λe=>⟨No e,rfl⟩) (λO e=>⟨No e,rfl⟩) (λO O e=>⟨No e,rfl⟩) (λO O e=>⟨No e,rfl⟩) (λO O e=>⟨No e,rfl⟩)
  (λO e=>⟨No e,rfl⟩) (λO e=>dJ e) (λO e=>⟨No e,rfl⟩) (λO O e=>⟨No e,rfl⟩) (λO O e=>⟨No e,rfl⟩) (λO O e=>⟨No e,rfl⟩) (λO O e=>⟨No e,rfl⟩) (λO e=>⟨No e,rfl⟩)
  (λO e=>⟨No e,rfl⟩) (λO e=>dJ e) (λO e=>dJ e) e
def lJ{b:Bool}(a:v.isNone=Wu b)(h:R (.bool b) V):F2 w A B z Val (NE .Is) v .none V R:=l8 λs Z S Q E d=>λk j=>Val.eNone <| by
 refine aD (j.isNone a) λi e=>?_;exact wpAny_is_plain e (by rw[i];exact d _ _ s Z V h S (.bool b) .refl)
def aJ1{b:Bool}(a:v.isNone=Wu b)(h:R (.bool (!b)) V):F2 w A B z Val (NE .IsNot) v .none V R:=l8 λs Z S Q E d=>λk j=>Val.eNone <| by
 refine aD (j.isNone a) λi e=>?_;exact wpAny_isNot_plain e (by rw[i];exact d _ _ s Z V h S (.bool (!b)) .refl)
def aKd{R:Bool->St->Prop}(h:R Wx V):F1 w A B z aM truthy .none V R:=F1.of λs Z S Q E a=>Val.eNone <| (λO O O=>a Wx Wx s Z V h S rfl .refl:LC (Ly ab w) A (truthy My) Q E s)
def CK{R:Unit->St->Prop}(h:F1 w A B z aQ t v V λO di=>F1 w A B z aQ (λx=>assignAll x (b::ts)) v di R):F1 w A B z aQ (λx=>assignAll x (t::b::ts)) v V R:=λs Z x H S Q E i =>
 KI (Lh (h s Z x H S _ _ λO O c5 j fI a o O d=>a c5 j x (H.mono d.le) o _ _ λv y e l di k p n X=>i v y e l di k p n (d.trans X)))
def BU{R:dr->St->Prop}(j:Rw b c8 a9.line z=Nb Wx)(i:Qb b c8 z=Nb Wv)
  (h:T w A B z Val (ME c8 z) V λv fI=>F1 w A B z aQ (λx=>assignAll x ((MV b z).map (·.2))) v fI λO ia=>R .next ia):T w A B z fv (exec (.Assign b c8 a9) z) V R:=λs Z S Q E l=>by
 rw[arm_exec_Assign,j];refine KI (LN (KI (KN ?_)));refine ec LZ ?_;refine KI (h s Z S _ _ λv x c5 n fI a u r p=>?_);rw[i];refine KI (KN ?_);exact KI (a c5 n x r u _ _ λO O e o d k y O X=>KN (l _ _ e o d k y .next (p.trans X)))
def eF{R:dr->St->Prop}(d:Rw [t] c8 a9.line z=Nb Wx)(a:Qb [t] c8 z=Nb Wv)(e:MV [t] z=[(Wx,MM t z)])
  (h:T w A B z Val (ME c8 z) V λv fI=>F1 w A B z aQ (MM t z) v fI λO ia=>R .next ia):T w A B z fv (exec (.Assign [t] c8 a9) z) V R:=BU d a (by exact(Eq.symm (e))▸h)
def gG{u:Expr}{R:dr->St->Prop}(i:Rw [t,u] c8 a9.line z=Nb Wx)(e:Qb [t,u] c8 z=Nb Wv)(j:MV [t,u] z=[(Wx,MM t z),(Wx,MM u z)])
  (h:T w A B z Val (ME c8 z) V λv fI=>F1 w A B z aQ (MM t z) v fI λO ia=>F1 w A B z aQ (MM u z) v ia λO a=>R .next a):T w A B z fv (exec (.Assign [t,u] c8 a9) z) V R:=BU i e (by exact(Eq.symm (j))▸h.mono λv d k=>CK k)
def Vals.reverse(h:Vals Z W vs):Vals Z W.reverse vs.reverse:=h.ind (P:=λW vs=>Vals Z W.reverse vs.reverse) .nil λh O t=>by rw[LI,LI];exact t.append (.cons h .nil)
def Jv{R:dr->St->Prop}(K:A.handled=Wv)(G:Rw b c8 a9.line z=Nb Wx)(y:Qb b c8 z=Nb (Wu names))
  (h:T w A B z Val (ME c8 z) V λv fI=>∃vs,v=.tup vs/\vs.length=names.length/\FA w A B z (names.reverse.map λn=>bindName z n) vs.reverse fI λO ia=>R .next ia):T w A B z fv (exec (.Assign b c8 a9) z) V R:=λs Z S Q E Y=>by
 rw[arm_exec_Assign,G];refine KI (LN (KI (KN ?_)));refine ec LZ ?_;refine KI (h s Z S _ _ λv x c5 c fI d p q g=>?_);rw[y];refine KI (KN ?_);refine bn d λvs C J k=>?_;clear d;subst C;refine bL (oh q) λa items n u e o=>?_;subst u;show LC _ A (rule _>>=_) Q E c5;refine KI (MI ?_);have i:names.length=items.toArray.size:=by rw[<-J,<-o.length];simp
 rw[i];refine KI (wpAny_unpackItems_tuple K (items:=items.toArray) ⟨_,p.frozen _ _ e,rfl,n,rfl⟩ λD W=>?_);refine aD (p.ext1 W) λt m=>?_;refine KI (k _ c _ (by simpa using o.reverse) t _ _ λO O r f j k l O X=>KN (Y _ _ r f j k l .next ((g.trans m).trans X)))
def aKm{R:Unit->St->Prop}(h:F1 w A B z aQ (Ok z x) v V R):F1 w A B z aQ (bindName z x) v V R:=λs Z u H S Q E a=>UN (h s Z u H S Q E a)
def ff.drop1{p:LP×el}(S:ff B z s Z ⟨a6,p::Y⟩):ff B z s Z ⟨a6,Y⟩:=⟨S.toca.drop1,S.locZ,λh=>S.locL (KP _ h),S.loc,S.kinds,S.fn⟩
def Ig{p:LP×el}{g:Nat}(h:g∈gkeys Y):g∈gkeys (p::Y):=by
 unfold gkeys at *;rw[MG];split
 ·exact h
 ·exact KP _ h
def hO.more{i o:vn}(X:hO b s Z s' c o)(j:∀a,b.at_ a->i.at_ a)(k:∀g,b.gn g->i.gn g):hO i s Z s' c o:=⟨X.le,λa d e h=>X.kept a d e λq=>h (j a q),λa h=>(X.grow a h).imp (j a) id,λa d e=>(X.zgrow a d e).imp id (Wh (j a) id),X.os,λg l e h=>X.gkept g l e λq=>h (k g q),λg h=>(X.ggrow g h).imp (k g) id⟩
def T.drop{p:LP×el}{K:α->St->Prop}(h:T w A B z b t ⟨a6,Y⟩ K):T w A B z b t ⟨a6,p::Y⟩ K:=λs Z S Q E l=>h s Z S.drop1 Q E λv x e n d k o V X=>l v x e n d k o V (X.more (λa j=>j.imp id (KP _)) λg i=>Ig i)
def yo(_:eb)(o:Obj):Prop:=∃Y:Bool,o={ cls:=.type "set",dict:=Wv,data:=.set #[] 0 (.fresh 0 0 Y)}
def aBJ(Z a:eb)(o:Obj)(k:eb.le Z a)(x:yo Z o):yo a o:=x
abbrev ed:el:=.obj yo aBJ
def aJn{V:St}(h:∀a,a∉keys V.led->R (.ref a) ⟨V.loc,(a,ed)::V.led⟩):FC w A B z (.typ "set") [] [] V R:=FC.t λs Z S Q E e =>  Zq <| by
 refine call_set_0 λd=>?_;have P:=S.toca.push (o:={ cls:=.type "set",dict:=Wv,data:=.set #[] 0 (.fresh 0 0 d)}) (ao:=ed) rfl s.toks ⟨_,Lc _ rfl,d,rfl⟩;exact e _ _ _ _ _ (h _ S.toca.lfresh) (S.after P.1 P.2) (.ref _) P.2.toF
def aJs{V:St}(d6:W.length<LY)(U:Upd a (.list (W++[v])) (.list W) V.led a8)(h:K v ⟨V.loc,a8⟩):FC w A B z (.blt "list.pop") [.ref a] [] V K:=n5 λs Z S Q E Y=>om <| l6 <| Zq <| by
 refine bG (S.own _ U.mem) λd n g vs=>?_;dsimp only at g;have j:d.size=W.length+1:=vs.size.trans Lb;refine ag (vs.get (i:=W.length) (x:=v) (by simp)) λy G R=>?_;have r:d[d.size-1]?=Wu y:=by rw[j];simpa using G
 refine TJ F.slot_list_pop (⟨_,g,rfl⟩) F.entry_list_pop (F.args_list_pop_1 _) (PySem.MeetsSeq.list_pop_last a d n y r (j.symm▸d6)) ⟨g,?_⟩;have l:∃p,(s.heap.update a (Me λx=>x.eraseIdxIfInBounds (d.size-1))).get? a=Wu {cls:=.type "list",data:=.seq (d.eraseIdxIfInBounds (d.size-1)) p }:=⟨_,LV (Me λx=>x.eraseIdxIfInBounds (d.size-1)) g rfl⟩;refine al l ?_;clear l;intro p l;have k:(d.eraseIdxIfInBounds (d.size-1)).toList=d.toList.take W.length:=by
  have f:d.size-1<d.size:=by rw[j];exact NC _
  rw[Array.eraseIdxIfInBounds,dif_pos f,Array.toList_eraseIdx,List.eraseIdx_eq_take_drop_succ];have c:d.size-1=W.length:=by rw[j];rfl
  rw[c,MO (by simp[j]),Ms]
 have o:Vals Z W (d.eraseIdxIfInBounds (d.size-1)).toList:=by
  rw[k]
  have:=vs.take W.length;simpa using this
 have P:=S.toca.upd U (h':=s.heap.update a (Me λx=>x.eraseIdxIfInBounds (d.size-1))) (tk:=s.toks) (λb u J e=>(LR ..).extBut b u J e) rfl rfl ⟨_,p,l,o⟩;exact Y _ _ _ Z _ h (S.after P.1 P.2) R P.2.toF
def ca.push0(S:ca B s Z Y)(tk:Nat):ca B {s with heap:=s.heap.push o,toks:=tk} Z Y/\hO (aj Y) s Z {s with heap:=s.heap.push o,toks:=tk} Z (aj Y):=by
 have d:∀b ob,s.heap.get? b=Wu ob->(s.heap.push o).get? b=Wu ob:=λb ob e=>Ld o e;exact⟨⟨S.base,λa ob e=>d a ob (S.frozen a ob e),S.nodup,S.apart,λp i=>(S.own p i).mono (.refl _) (λob e=>d _ ob e) λO O O e=>e,S.gnodup,S.bare⟩,
  ⟨.refl _,λa ob e O=>d a ob e,λa k => .inl k,λO O e => .inl e,rfl,λO O e O=>e,λg j => .inl j⟩⟩
def aIP{p:Pos}(N:∀o r,UQ c8 o r=Nb ())
  (h:T w A B z Val (ME c8 z) V λv fI=>T w A B z Val (ME lo z) fI λl ia=>T w A B z Val (ME hi z) ia λu J =>
   ∃W:List AV,∃i j:Nat,hZ J.led v W/\l=.int i/\u=.int j/\i<=j/\j<=W.length/\W.length<=LY/\R (.lst ((W.drop i).take (j-i))) J):T w A B z Val (ME (.Subscript c8 (.Slice (Wu lo) (Wu hi) Wv p) a9) z) V R:=λs Z S Q E hQ=>by
 refine wpAny_Subscript_list_slice (h s Z S _ _ λv x c5 Z1 fI b S1 V1 X1=>b c5 Z1 S1 _ _ λl y M Z2 ia Y S2 V2 F=>Y M Z2 S2 _ _ λu C c Z3 J G m V3 D=>?_) N;refine aKu G λW i j U O5 O6 f hj d6 k=>?_;clear G;subst O5;subst O6;refine bL (U.get (V1.mono (F.le.trans D.le)) m.toca) λa d n O4 g vs=>?_;subst O4;have q:d.size=W.length:=vs.size;refine al V2.inv λt e=>?_;subst e;refine al V3.inv λK e=>?_;subst e;refine aJb a d (Wu i) (Wu j) rfl ⟨_,g,rfl,n,rfl⟩ ⋯ (.int _ _) (.int _ _) ?_;rw[slicePick_run d i j ⋯ f];have L:=m.toca.push0 (o:={ cls:=.type "slice",data:=.fields #[.int i t,.int j K,.none]}) c.toks;have H:=L.1.pushZ (o:={ cls:=.type "list",data:=.seq ((d.toList.drop i).take (j-i)).toArray}) rfl c.toks;have X:=L.2.trans H.2;have P:(c.heap.push {cls:=.type "slice",data:=.fields #[.int i t,.int j K,.none]}).objs.size=c.heap.objs.size+1:=Od ..;refine hQ _ _ _ _ _ k (m.after H.1 X) ?_ (((X1.trans F).trans D).trans X.toF);rw[<-P];exact .lst (l2 ..) (((vs.drop i).take (j-i)).mono X.le)
def aBv(items:Array Value)(a b:Nat)(e:a<=b):slicePick items (Wu a) (Wu b) Wv=((items.toList.drop a).take (b-a)).toArray:=by
 simp only[slicePick_plain];simp only[Option.elim,clipAt_nat];congr 1
 have d:items.toList.length=items.size:=MH;rcases Sq b items.size with h |h
 ·rw[Pk h,Pk (Mc e h)]
 ·rw[TN h];rcases Sq a items.size with h' |h'
  ·rw[Pk h',PC (by rw[OI,d];exact LK _),PC (by rw[OI,d];exact Nat.sub_le_sub_right h a)]
  ·simp only[TN h',MO (Oz d),MO (Mc (Oz d) h'),List.take_nil,List.take_nil]
section
variable{N:aa}{V:St}
def pu:Option Int->AV
 |none => .none
 |some i => .int i
def Gz{l:Option Int}{x:Value}(V:Val Z (pu l) x):IsPart x l:=by
 cases l with
 |none=>exact(show x=.none from V.inv)▸.none
 |some i=>exact al V.inv λt e=>e▸.int i t
def rS(W ys:List AV)(i j k:Option Int):Prop:=∀(Z:eb) (vs:List Value),Vals Z W vs->∃a,slicePick vs.toArray i j k=List.toArray a/\Vals Z ys a
inductive XH (R:AV->St->Prop) (v l u:AV) (V:St):Prop
 |mk (W ys:List AV) (i j:Option Int) (hl:hZ V.led v W) (e:l=pu i) (e2:u=pu j) (hs:W.length<=LY) (hp:rS W ys i j Wv) (k:R (.lst ys) V):XH R v l u V
def Gx(i j:Nat)(a:i<=j):rS W ((W.drop i).take (j-i)) (Wu i) (Wu j) Wv:=λZ vs h=>⟨_,aBv _ i j a,(h.drop i).take _⟩
def BO(h:K .none V):T w A B z Val (TU Wv z) V K:=λs Z S Q E a=>by
 simp only[evalPart_none];exact KN (a _ _ s Z V h S .none .refl)
def lC{e:Expr}(h:T w A B z Val (ME e z) V K):T w A B z Val (TU (Wu e) z) V K:=λs Z S Q E a=>by
 simp only[evalPart_some];exact h s Z S Q E a
def aA6{step:Option Expr}{p:Pos}{T id:String}(k:MF (.type T) "__getitem__" = Nb (Wu (.builtin id)))
  (h:LC (Ly ab w) A (ME c8 z) (λo c5=>LC (Ly ab w) A (ME (.Slice lo b step p) z) (λi s2=>s2.TypeIs o T/\LC (Ly ab w) A (QN o i) Q E s2) E c5) E s):LC (Ly ab w) A (ME (.Subscript c8 (.Slice lo b step p) a9) z) Q E s:=by
 simp only[eval_Subscript];refine KI (Mg h (λo c5 n=>KI (Lh (Mg n (λi s2 e=>KI (LN ?_)) λO O x=>x))) λO O x=>x);have a:∀l,LC (Ly ab w) A (operate l (QN o i)) (λr j=>LC (Ly ab w) A (UQ c8 o r>>=λO=>Nb r) Q E j) E s2:=λl =>
  wpAny_operating (Mg e.2 (λr j d=>KI (Tf (KN d))) λO O x=>x)
 refine KI ?_;rw[Wg e.1.not_modules];refine KI (Oj e.1 k ?_);cases step with
 |none=>first |exact KN (KI (a _)) |exact KI (KN (KI (a _))) |exact KI (a _)
 |some _=>first |exact KN (KI (a _)) |exact KI (KN (KI (a _))) |exact KI (a _)
def Cc{p:Pos}
  (h:T w A B z Val (ME c8 z) V λv fI=>T w A B z Val (TU lo z) fI λl ia=>T w A B z Val (TU L z) ia λu d =>
   XH R v l u d):T w A B z Val (ME (.Subscript c8 (.Slice lo L Wv p) a9) z) V R:=λs Z S Q E M=>by
 refine aA6 (T := "list") Ps (h s Z S _ _ λv x c5 U fI J S1 V1 X1=>wpAny_Slice (J c5 U S1 _ _ λl y t P ia G S2 V2 f=>G t P S2 _ _ λu C K Z3 d r N V3 c=>?_));obtain⟨W,ys,i,j,F,rfl,rfl,d6,D,k⟩:=r;refine bL (F.get (V1.mono (f.le.trans c.le)) N.toca) λa items n O4 g vs=>?_;subst O4;simp only[evalPart_none];have b:K.heap.IsList a items:=⟨_,g,rfl,n,rfl⟩;refine KN ⟨(b.push _).typeIs,wpAny_getItem_list_slice (b.push _) (Heap.IsSliceOf.new ..) (Gz V2) (Gz V3) .none nofun (ag (D _ _ vs) λY e H=>?_) (vs.size▸d6)⟩;rw[show slicePick items i j Wv=Y.toArray from e];have q:=N.toca.push0 (o:={ cls:=.type "slice",data:=.fields #[y,C,.none]}) K.toks;have m:=q.1.pushZ (o:={ cls:=.type "list",data:=.seq Y.toArray}) rfl K.toks;have X:=q.2.trans m.2;exact M _ _ _ _ _ k (N.after m.1 X) (.lst (l2 ..) (H.mono X.le)) (((X1.trans f).trans c).trans X.toF)
end
def ff.keepAll(S:ff B z s Z V){h':Heap}{tk:Nat}(d:∀b o,s.heap.get? b=Wu o->h'.get? b=Wu o):ff B z {s with heap:=h',toks:=tk} Z V/\hO (ay z V) s Z {s with heap:=h',toks:=tk} Z (ay z V):=⟨⟨⟨S.base,λa o e=>d a o (S.frozen a o e),S.nodup,S.apart,λp i=>(S.own p i).mono (.refl _) (λo e=>d _ o e) (λO O O e=>e),S.gnodup,S.bare⟩,S.locZ,S.locL,n6 (.refl _) (λo e=>d _ o e) S.loc,S.kinds,S.fn⟩,
  ⟨.refl _,λa o e O=>d a o e,λa h => .inl h,λO O e => .inl e,rfl,λO O e O=>e,λO h => .inl h⟩⟩
def xf{a b:Int}(e:A.handled=Wv)(h:R (.int (max a b)) V):FC w A B z (.blt "max") [.int a,.int b] [] V R:=n5 λs Z S Q E i=>om <| oz λO=>om <| oz λO=>Zq <| by
 refine max_two_ints e λh' tk d=>?_;have P:=S.keepAll (h':=h') (tk:=tk) d;refine i _ _ _ Z V h P.1 ?_ P.2;split
 ·rename_i c
  rw[Int.max_eq_right (UX c)];exact .int _ _
 ·rename_i c
  rw[Rs (Rd.mp c)];exact .int _ _
def rV{a b:Int}(e:A.handled=Wv)(h:R (.int (min a b)) V):FC w A B z (.blt "min") [.int a,.int b] [] V R:=n5 λs Z S Q E i=>om <| oz λO=>om <| oz λO=>Zq <| by
 refine min_two_ints e λh' tk d=>?_;have P:=S.keepAll (h':=h') (tk:=tk) d;refine i _ _ _ Z V h P.1 ?_ P.2;split
 ·rename_i c
  rw[Int.min_eq_right (UX c)];exact .int _ _
 ·rename_i c
  rw[Sw (Rd.mp c)];exact .int _ _
def xU(J:Nat->St->Prop)(K:dr->St->Prop)(n:Nat)(f:dr)(ia:St):Prop:=match f with
 |.next |.cont=>∃m,m<n/\J m ia
 |.brk=>K .next ia
 |.ret v=>K (.ret v) ia
def aIt{J:Nat->St->Prop}{K:dr->St->Prop}
  (i:∀n V,J n V->T w A B z aM (isTrue g z (ME g z)) V λb fI=>if b then T w A B z fv (execs c6 z) fI (xU J K n)
   else K .next fI)   (h:J n V):T w A B z fv (exec (.While g c6 [] a9) z) V K:=λs Z S Q E u=>by
 refine wpAny_While ?_;refine codeAny_whileLoop (λn k=>∃o e,J n e/\ff B z k o e/\hO (ay z V) s Z k o (ay z e)) ?_ n ⟨Z,V,h,S,.refl⟩;intro n k G;refine bA G λo e j F W=>?_;clear G;refine i n e j k o F _ _ λb c c5 x fI d q Y R=>?_;unfold aM at Y;subst Y;cases c with
 |true =>
  rw[if_pos rfl] at d ⊢;refine d c5 x q _ _ λf y v l ia a p D C=>?_;have X:=(W.trans R).trans C;induction D with
  |next=>refine ag a λm r j=>?_;clear a;exact⟨m,r,l,ia,j,p,X⟩
  |cont=>refine ag a λm r j=>?_;clear a;exact⟨m,r,l,ia,j,p,X⟩
  |brk=>exact u _ _ v l ia a p .next X
  |ret t=>exact u _ _ v l ia a p (.ret t) X
 |false =>
  rw[if_neg LZ] at d ⊢;exact UB (u _ _ c5 x fI d q .next (W.trans R))
def fg(l:List (Str×AV)):List (Str×AV)->List (Str×AV):=List.rec (motive:=λO=>List (Str×AV)->List (Str×AV)) (λO=>[]) (λp O a m=>(p.1,bif (m.headD p).2.isAny then .any else p.2)::a m.tail) l
def It(x:Str)(l m:List (Str×AV)):(fg l m).lookup x=l.lookup x\/(fg l m).lookup x=Wu .any/\∃v,l.lookup x=Wu v:=by
 induction l generalizing m with
 |nil=>exact .inl rfl
 |cons p l a =>
  show PO x ((p.1,bif (m.headD p).2.isAny then .any else p.2)::fg l m.tail)=_\/_/\_;show PO x ((p.1,bif (m.headD p).2.isAny then .any else p.2)::fg l m.tail)=PO x ((p.1,p.2)::l)\/PO x ((p.1,bif (m.headD p).2.isAny then .any else p.2)::fg l m.tail)=_/\∃v,PO x ((p.1,p.2)::l)=Wu v;rw[Lu,Lu];cases x==p.1 with
  |false=>exact a _
  |true=>cases(m.headD p).2.isAny with
   |false=>exact .inl rfl
   |true=>exact .inr ⟨rfl,_,rfl⟩
def Ir(l:List (Str×AV)):fg l l=l:=by
 induction l with
 |nil=>rfl
 |cons p l a =>
  show (p.1,bif p.2.isAny then .any else p.2)::fg l l=p::l;rw[a];obtain⟨x,v⟩:=p;cases v <;> rfl
def kp(V di:St):Prop:=(⟨fg V.loc di.loc,V.led⟩:St)=di
def kp.self(V:St):kp V V:=congrArg (λl=>(⟨l,V.led⟩:St)) (Ir V.loc)
open kp renaming self→m6
def kp.lc(h:kp V di):fg V.loc di.loc=di.loc:=(congrArg St.loc (show (⟨fg V.loc di.loc,V.led⟩:St)=di from h) :)
def kp.ld(h:kp V di):V.led=di.led:=(congrArg St.led (show (⟨fg V.loc di.loc,V.led⟩:St)=di from h) :)
def kp.app(h:kp V di)(l:aa):kp ⟨V.loc,V.led++l⟩ ⟨di.loc,di.led++l⟩:=congr (congrArg St.mk h.lc) (congrArg (· ++ l) h.ld)
def ff.fit(S:ff B z s Z V)(h:kp V di):ff B z s Z di:=by
 obtain⟨a6,Y⟩:=V;obtain⟨ft,a8⟩:=di;cases(show Y=a8 from h.ld)
 have e:fg a6 ft=ft:=h.lc;refine⟨S.toca,S.locZ,S.locL,ag S.loc λf i d=>cL f i λy=>?_,λy v q=>?_,S.fn⟩
 ·show ix Z (PO y ft) (f y);rw[<-e];exact(It y a6 ft).elim (λq=>q▸d y) λq=>q.1▸.any
 ·exact(It y a6 ft).elim (λh=>S.kinds y v (h.symm.trans ((congrArg (PO y) e).trans q))) λh=>h.2.elim λu a=>S.kinds y u a
def kp.own(h:kp V di):ay z di=ay z V:=by unfold ay;rw[show di.led=V.led from h.ld.symm]
def T.fit{K:α->St->Prop}(h:kp V di)(k:T w A B z b t di K):T w A B z b t V K:=λs Z S Q E e=>k s Z (S.fit h) Q E λv x d i a k j H X=>e v x d i a k j H (h.own▸X)
def F1.fit{K:α->St->Prop}(h:fg a6 ft=ft)(k:F1 w A B z b f v ⟨ft,Y⟩ K):F1 w A B z b f v ⟨a6,Y⟩ K:=have h:kp ⟨a6,Y⟩ ⟨ft,Y⟩:=congrArg (λl=>(⟨l,Y⟩:St)) h
 λs Z x V S Q E e=>k s Z x V (S.fit h) Q E λv x d i a k j V X=>e v x d i a k j V (h.own▸X)
def T.fitPost{K:α->St->Prop}(k:T w A B z b t V K)(h:∀v di,K v di->∃a,kp di a/\K' v a):T w A B z b t V K':=λs Z S Q E e=>k s Z S Q E λv x d i di k j H X=>(h v di k).elim λa q=>e v x d i a q.2 (j.fit q.1) H (q.1.own▸X)
def Nx(Y:(St->Prop)->Prop)(f:dr)(V:St):Prop:=f=.next/\∃a,kp V a/\∀P,Y P->P a
def Nx.mk(h:∀P,C P->P di)(e:(⟨fg a6 di.loc,Y⟩:St)=di):Nx C .next ⟨a6,Y⟩:=⟨rfl,di,e,h⟩
open Nx renaming mk→m3
def Nx.ld(h:∀P,C P->P di)(e:fg a6 di.loc=di.loc):Nx C .next ⟨a6,di.led⟩:=⟨rfl,di,congrArg (λl=>(⟨l,di.led⟩:St)) e,h⟩
def Nx.mkE(h:∀P,C P->P di)(a:Y=di.led)(e:fg a6 di.loc=di.loc):Nx C .next ⟨a6,Y⟩:=a▸.ld h e
def T.join{K:dr->St->Prop}(Y:(St->Prop)->Prop)(h:T w A B z fv t V (Nx Y))(k:Y (K .next)):T w A B z fv t V K:=h.fitPost λf d q=>q.1▸q.2.elim λa q=>⟨a,q.1,q.2 _ k⟩
open T renaming join→l7
def Lo(f:α->AV)(Y:List α->(St->Prop)->Prop)(l:List AV)(V:St):Prop:=∃d a,l=d.map f/\kp V a/\∀P,Y d P->P a
def Lo.mk(h:∀P,C gs P->P di)(e:(⟨fg a6 di.loc,Y⟩:St)=di):Lo f C (gs.map f) ⟨a6,Y⟩:=⟨gs,di,rfl,e,h⟩
def Js{N:aa}(f:α->AV){V:St}(C:List α->(St->Prop)->Prop){K:dr->St->Prop}{j:aa->α->List α->St->Prop}
  (o:∀gl a as di,j gl a as di->F1 w A B z aQ (MM ap z) (f a) ⟨di.loc,di.led++gl⟩ λO i=>T w A B z fv (execs c6 z) i (tb (Lo f C) K (as.map f) gl)) (y:dt A k)
  (e:T w A B z Val (ME iter z) V λv fI=>F1 w A B z Val Pz v fI (Xs w B N k ap (Lo f C)))
  (step:∀gl a as,C (a::as) (j gl a as)) (u:∀gs di,(∀P,C gs P->P di)->kn N di.led) (done:C [] (K .next)) (p:∀x,NP iter z x=Nb x):T w A B z fv (exec (.For ap iter c6 [] a9) z) V K:=T.fitPost (K:=λf V=>∃d,kp V d/\K f d) (aIw y e (λx W V gl q s Z v H S Q E r=>q.elim λgs q=>q.elim λdi q=>by
   cases gs with
   |nil=>cases q.1
   |cons a as =>
    cases q.1
    have q2:=kp.app q.2.1 gl;exact o _ _ _ _ (q.2.2 _ (step gl a as)) s Z v H (S.fit q2) Q E λv x n G d k J H X=>r v x n G d (k.mono λf l k=>k.rec .next .cont (λk => .brk ⟨_,m6 _,k⟩) λk => .ret ⟨_,m6 _,k⟩) J H (q2.own▸X))
  (λW V q=>q.elim λgs q=>q.elim λdi q=>(show di.led=V.led from q.2.1.ld.symm)▸u gs di q.2.2) (λV q=>q.elim λgs q=>q.elim λdi q=>by
   cases gs with
   |nil=>exact⟨di,q.2.1,q.2.2 _ done⟩
   |cons a as=>cases q.1) p) λv di q=>q
def jz(f:α->AV){V:St}(C:List α->(St->Prop)->Prop){K:dr->St->Prop}(j:dt A k)
  (d:T w A B z Val (ME iter z) V λv fI=>F1 w A B z Val Pz v fI (Xs w B [] k ap (Lo f C)))
  (step:∀gl a as,C (a::as) λdi=>F1 w A B z aQ (MM ap z) (f a) ⟨di.loc,di.led++gl⟩ λO e=>T w A B z fv (execs c6 z) e (tb (Lo f C) K (as.map f) gl))
  (done:C [] (K .next)) (i:∀x,NP iter z x=Nb x):T w A B z fv (exec (.For ap iter c6 [] a9) z) V K:=Js f C (λO O O O h=>h) j d step (λO O O => .nil) done i
def Lw(Y:Nat->(St->Prop)->Prop)(n:Nat)(V:St):Prop:=∃a,kp V a/\∀P,Y n P->P a
def Lw.mk(h:∀P,C n P->P di)(e:(⟨fg a6 di.loc,Y⟩:St)=di):Lw C n ⟨a6,Y⟩:=⟨di,e,h⟩
def oA(Y:Nat->(St->Prop)->Prop){K:dr->St->Prop}
  (a:∀n,Y n λV=>T w A B z aM (isTrue c z (ME c z)) V λb fI=>if b then T w A B z fv (execs c6 z) fI (xU (Lw Y) K n) else K .next fI)
    (h:Lw Y n V):T w A B z fv (exec (.While c c6 [] a9) z) V K:=aIt (J:=Lw Y) (λn V q=>q.elim λd q=>T.fit q.1 (q.2 _ (a n))) h
section
variable{N:aa}{n m:Nat}{V:St}{a7:List AV}{K:dr->St->List AV->Prop}
def TG.eq(e:a7=b)(k:TG w B N n m z t V b K):TG w B N n m z t V a7 K:=e▸k
def TG.fit(h:kp V di)(k:TG w B N n m z t di a7 K):TG w B N n m z t V a7 K:=λc x y H v e i j l p A u a8 o r a c7 d s Z S X =>
  have q:=h.app a8;k c x y H v e i j l p A u a8 o r a c7 d s Z (S.fit q) (q.own▸X)
def xr(Y:(St->List AV->Prop)->Prop)(f:dr)(V:St)(a7:List AV):Prop:=f=.next/\∃a,kp V a/\∀P,Y P->P a a7
def xr.mk(h:∀P,C P->P di a7)(e:(⟨fg a6 di.loc,Y⟩:St)=di):xr C .next ⟨a6,Y⟩ a7:=⟨rfl,di,e,h⟩
def fJ{x:Stmt}(Y:(St->List AV->Prop)->Prop)(h:TG w B N n m z (exec x z) V a7 (xr Y))(k:Y λV a7=>TG w B N n m z (execs rest z) V a7 K):TG w B N n m z (execs (x::rest) z) V a7 K:=bP <|
 λc s u H r i j l o p=>h c s u H r i j l o λf x d a q=>p f x d a (q.1▸q.2.elim λe q=>TG.fit q.1 (q.2 _ k))
def XW(f:α->AV)(Y:List α->(St->List AV->Prop)->Prop)(l:List AV)(V:St)(a7:List AV):Prop:=∃d a,l=d.map f/\kp V a/\∀P,Y d P->P a a7
def XW.mk(h:∀P,C gs P->P di a7)(e:(⟨fg a6 di.loc,Y⟩:St)=di):XW f C (gs.map f) ⟨a6,Y⟩ a7:=⟨gs,di,rfl,e,h⟩
def jA(f:α->AV)(C:List α->(St->List AV->Prop)->Prop)(l:k<=m)
  (e:∀A,dt A m->∀Y,kn N Y->T w A B z Val (ME iter z) ⟨V.loc,V.led++Y⟩ λv fI=>F1 w A B z Val Pz v fI (WZ w B N k ap Y (XW f C) a7))
  (step:∀gl a as,C (a::as) (WY w B N n m z ap (f a) c6 gl (WB (XW f C) (DS w B N n m z rest K) (as.map f) gl)))
  (done:C [] λV a7=>TG w B N n m z (execs rest z) V a7 K) (j:∀x,NP iter z x=Nb x):TG w B N n m z (execs (.For ap iter c6 [] a9::rest) z) V a7 K:=bP (aIG l e (λx W V a7 gl q=>q.elim λi q=>q.elim λd q=>by
   cases i with
   |nil=>cases q.1
   |cons a as =>
    cases q.1
    refine(q.2.2 _ (step gl a as)).casesOn λh k=>?_;refine .mk (λA p Y o=>show F1 w A B z aQ (MM ap z) (f a) ⟨V.loc,(V.led++gl)++Y⟩ _ from(show d.led=V.led from q.2.1.ld.symm)▸F1.fit q.2.1.lc (h A p Y o)) ((show d.led=V.led from q.2.1.ld.symm)▸k))
  (λV a7 q=>q.elim λi q=>q.elim λd q=>by
   cases i with
   |nil=>exact TG.fit q.2.1 (q.2.2 _ done)
   |cons a as=>cases q.1) j)
end
open xr renaming mk→m0
open TG renaming eq→m4
def WV{a:Type}(l:List AV):(List Value->a)->(List Value->a)->Prop:=List.rec (motive:=λO=>(List Value->a)->(List Value->a)->Prop) (λf g=>f []=g []) (λO O d f g=>∀v,d (λl=>f (v::l)) λl=>g (v::l)) l
def WV.out{a:Type}{l:List AV}(h:Vals Z l vs):∀(f g:List Value->a),WV l f g->f vs=g vs:=h.ind (P:=λl vs=>∀f g:List Value->a,WV l f g->f vs=g vs) (λf g k=>k) λO O d f g k=>d _ _ (k _)
section
variable{K:Frag}{f c:LP}{fd:Oi}{args:List AV}(a6:List (Str×AV)){l0 Y N:aa}{a7:List AV}{m:Nat}{R:AV->aa->Prop}
abbrev wO(args:List AV):List Str:=((a6.take args.length).map Prod.fst).reverse
variable(H:hW (am K))(C:A.depth<Na)
 (F:WV args (λvs=>Mi K ⟨ab,w.params⟩ (Ra fd ⟨vs,[]⟩)) λvs=>Wu ((wO a6 args).zip vs))
 (hx:(a6.all λp=>decide (fd.scope.names.lookup p.1=Wu .local))=Ww) (D:((wO a6 args).zip args).reverse++(a6.drop args.length).map (λp=>(p.1,AV.any))=a6)
include F in
theorem Binds.zip:Binds w A (am K) fd args [] ((wO a6 args).zip args):=Binds.pk λZ W h=>⟨_,WV.out h _ _ F,eR.zip _ h⟩
include hx D in
theorem Hm:((((wO a6 args).zip args).map (·.1)).all λx=>decide (fd.scope.names.lookup x=Wu .local))=Ww:=by
 rw[LS] at hx ⊢;intro x h;exact(LG.mp h).elim λp q=>q.2▸hx p (D▸Mn _ (Wo.mpr q.1))
include hx in
theorem Hl:(((a6.drop args.length).map Prod.fst).all λx=>decide (fd.scope.names.lookup x=Wu .local))=Ww:=by
 rw[LS] at hx ⊢;intro x h;exact(LG.mp h).elim λp q=>q.2▸hx p (Vd q.1)
include H C F hx D
theorem JM(d:bJ K f Ww fd c6 c)(h:∀L,TG w (am K) N (m+3) m (av fd L f c) (execs c6 (av fd L f c)) ⟨a6,l0⟩ a7 λO O a=>a=[]):TC w A (am K) (.ref f) args [] (l0++Y) (ol w (am K) N (m+3) a7 Y):=aIU H d C (Binds.zip a6 F) (Hm a6 hx D) λL=>TG.spares _ (Hl a6 (args:=args) hx) (by rw[MN];exact(show _=a6 from D).symm▸h L)
theorem JN(d:bJ K f Ww fd c6 c)(h:∀L,TG w (am K) N (m+3) m (av fd L f c) (execs c6 (av fd L f c)) ⟨a6,[]⟩ a7 λO O a=>a=[]):TC w A (am K) (.ref f) args [] Y (ol w (am K) N (m+3) a7 Y):=JM (l0:=[]) a6 H C F hx D d h
theorem en(a:bJ K f Wx fd c6 c)(h:∀L,L∉keys Y->T w (A.deeper (av fd L f c)) (am K) (av fd L f c) fv (execs c6 (av fd L f c)) ⟨a6,Y⟩ (fo R)):TC w A (am K) (.ref f) args [] Y R:=Cf H a C (Binds.zip a6 F) (Hm a6 hx D) λL d=>T.spares _ (Hl a6 (args:=args) hx) (by rw[MN];exact(show _=a6 from D).symm▸h L d)
end
def aCB:(kfb_private% "ownerAndName") "dict.get" = ("dict", "get"):=by first |decide +kernel |kernel_rfl
def aCA:(kfb_private% "ownerAndName") "set.__contains__" = ("set", "__contains__"):=by first |decide +kernel |kernel_rfl
def aAS:(Manifest.toldItsClass.contains "dict.get")=Wx:=by decide +kernel
def aAR:(Manifest.toldItsClass.contains "set.__contains__")=Wx:=by decide +kernel
def aAN:Qw (.builtin "set.__contains__")=Nb (.type "method_descriptor"):=by show builtinType _=_;rw[Tm];kernel_rfl
def aBV{id T' nm:String}{P:QF->KY->Prop}(j:(kfb_private% "ownerAndName") id=(T',nm))(i:Manifest.toldItsClass.contains id=Wx)
  (l:s.TypeIs (.ref a) T') (e:Oa (.type T') (.type T')=Nb Ww) (h:P (.done (.ret (.ref s.heap.objs.size))) {s with heap:=s.heap.push {cls:=.type "builtin_function_or_method",data:=.fields #[.builtin id,.ref a]} }):LC M A (Builtin.«method_descriptor.__get__» ⟨[.builtin id,.ref a,.type T'],[]⟩) P E s:=by
 unfold Builtin.«method_descriptor.__get__»;refine KI (Mo (a:=(.builtin id,Wu (.ref a),Wu (.type T'))) (by first |rfl |kernel_rfl) ?_);dsimp only;rw[i];simp only[LW,if_false];show LC M A ((kfb_private% "checkInstance") (.builtin id) (.ref a)>>=λO=>newFields "builtin_function_or_method" [.builtin id,.ref a]>>=λv=>ret v) P E s;refine KI ?_;show LC M A (((kfb_private% "nameAndClass") (.builtin id))>>=λp=>_) _ E s;have k:(kfb_private% "nameAndClass") (.builtin id)=Nb (KX nm,Ob T'):=by
  show (match (kfb_private% "ownerAndName") id with |(d,name)=>(Nb (KX name,Ob d):Sem (Str×Value)))=_;rw[j]
 rw[k];refine KI (KN ?_);dsimp only;refine KI (MR (T:=T') (b:=Ww) l e ?_);simp only[Bool.not_true,LW,if_false];refine KN ?_;exact KI (Mk (KN h))
def aDZ:MF (.type "method_descriptor") "__get__" = Nb (Wu (.builtin "method_descriptor.__get__")):=by rw[Mp,LQ];kernel_rfl
def aDY:MF (.type "method_descriptor") "__set__" = Nb Wv:=by rw[Mp,LQ];kernel_rfl
def aD0:MF (.type "method_descriptor") "__delete__" = Nb Wv:=by rw[Mp,LQ];kernel_rfl
def aBs:Slot "method_descriptor" "__get__" "method_descriptor.__get__":=.of (owner := "method_descriptor") (n := "__get__") (by rw[Mp,LQ];kernel_rfl) (by decide +kernel) (by decide +kernel) (by decide +kernel)
  (by first |exact .inl (by decide +kernel) |exact .inr (by decide +kernel)) (by rw[Mm];kernel_rfl)
def aGG:PW table "method_descriptor.__get__" = Wu Builtin.«method_descriptor.__get__» := Nv @_
def aH7(a b c:Value):Oo "method_descriptor.__get__" ⟨[a,b,c],[]⟩:=by unfold Oo;kernel_rfl
def aCC{d:Data}(h:∀c,d ≠ .cls c)(x:ClassData->α)(y:Data->α):Builtin.ObjectAttr.ownDict.match_1 (λO=>α) d x y=y d:=by
 cases d with
 |cls c=>exact absurd rfl (h c)
 |_=>rfl
def aBU{id T':String}{u:Tok}{P:QF->KY->Prop}
  (l:s.heap.get? a=Wu o) (n:o.cls=.type T') (e:o.dict=Wv) (i:∀c,o.data ≠ .cls c)
  (r:MF (.type T') name=Nb (Wu (.builtin id))) (p:Qw (.builtin id)=Nb (.type "method_descriptor"))
  (j:(["__module__", "__name__", "__qualname__", "__doc__", "__annotations__"]:List Str).contains name=Wx)
  (h:LC (Ly ab w) A (call (.builtin "method_descriptor.__get__") [.builtin id,.ref a,.type T']) (λv s'=>P (.done (.ret v)) s') E s):LC (Ly ab w) A (Builtin.«object.__getattribute__» ⟨[.ref a,.str name u],[]⟩) P E s:=by
 have z:s.TypeIs (.ref a) T':=⟨_,l,n⟩;obtain⟨y,g,d,x,os⟩:=s;have K:=aDZ;have J:=aDY;have G:=aD0;unfold Builtin.«object.__getattribute__»;repeat (any_goals (first |assumption |wp_step))
 rw[aCC i];unfold instanceDict;refine KI (QY l ?_);rw[n,e];refine KI (KN ?_);refine KN ?_;refine KN ?_;refine KI ?_;unfold Builtin.ObjectAttr.copiedAttributeGuard;dsimp only;rw[j];refine KN ?_;refine KI (MI (KN ?_));exact KI (Lh (Mg h (λv s' k=>KN k) λO O k=>k))
def aGJ:PW table "dict.__getattribute__" = Wu Builtin.«object.__getattribute__» := Tg (id' := "object.__getattribute__") @_ rfl (by decide +kernel) @_
def aGF:PW table "set.__getattribute__" = Wu Builtin.«object.__getattribute__» := Tg (id' := "object.__getattribute__") @_ rfl (by decide +kernel) @_
def CW{id T' nm d:String}{e:Bool}
  (V:s.heap.get? a=Wu o) (W:o.cls=.type T') (j:o.dict=Wv) (k:∀c,o.data ≠ .cls c)
  (i:Slot T' "__getattribute__" d) (y:PW table d=Wu Builtin.«object.__getattribute__») (r:∀a b,Oo d ⟨[a,b],[]⟩)
  (x:MF (.type T') name=Nb (Wu (.builtin id))) (l:Qw (.builtin id)=Nb (.type "method_descriptor"))
  (u:(["__module__", "__name__", "__qualname__", "__doc__", "__annotations__"]:List Str).contains name=Wx)
  (p:(kfb_private% "ownerAndName") id=(T',nm)) (Y:Manifest.toldItsClass.contains id=Wx) (n:Oa (.type T') (.type T')=Nb Ww)
  (h:Q (.ref s.heap.objs.size) {s with heap:=s.heap.push {cls:=.type "builtin_function_or_method",data:=.fields #[.builtin id,.ref a]},toks:=s.toks+1}):LC (Ly ab w) A (QC (.ref a) name e) Q E s:=by
 have G:∀J,({s with toks:=J }:KY).TypeIs (.ref a) T':=λJ=>⟨o,V,W⟩;unfold QC getAttrBy;refine KI (wpAny_mkText (Lh (KI (QA (G _) (KI (Mo i.lookup ?_))))));show LC _ _ (getAttrByItsOwn (.ref a) (.str name s.toks) (.type T') (.builtin d) Ww e) _ _ _;unfold getAttrByItsOwn hookBefore callGetattribute;refine KI (Mo (show (if onTheHeap (.type T') then MF (.type T') "__getattr__" else Nb Wv)=Nb Wv from rfl) ?_);refine KI (Ny (Lh ?_));rw[show (e&&onTheHeap (.builtin d))=Wx from QO _];unfold boundAndCalled;dsimp only[LW,if_false];refine KI (Mo (i.bind _) ?_);refine Mg (Q:=λv K=>v=.ref s.heap.objs.size/\K={ s with heap:=s.heap.push {cls:=.type "builtin_function_or_method",data:=.fields #[.builtin id,.ref a]},toks:=s.toks+1}) (E:=λO O=>False)
  (Mb i (G _) y ?_ (r _ _)) (λv K R=>?_) λO O z=>z.elim
 ·refine aBU (s:={ s with toks:=s.toks+1}) V W j k x l u ?_;refine Mb aBs l aGG ?_ (aH7 _ _ _);refine aBV p Y (G _) n ?_;exact⟨_,rfl,_,rfl,rfl,rfl⟩
 ·refine aD R λf Z=>?_;clear R;subst f;subst Z;exact KN h
def CX{x:LP}{id T':String}{rest:List Value}
  (hx:s.heap.get? x=Wu {cls:=.type "builtin_function_or_method",data:=.fields #[.builtin id,.ref a]})
  (p:s.heap.get? a=Wu o) (v:o.cls=.type T') (e:∀c,o.data ≠ .cls c)
  (j:Sv id=Wu sig) (d:builtinKind id=Wu .method) (k:Oa (.type T') (.type "module")=Nb Wx) (n:Manifest.varargsMethods.contains id=Wx)
  (l:Bind.checkArgs id {sig with full:=s!"{Bind.lastOf T'}.{Bind.lastOf id}" } ⟨.ref a::rest,[]⟩=Nb ())
  (slot:Slot T' name id) (i:PW table id=Wu F) (g:MeetsIn ab w (F ⟨.ref a::rest,[]⟩) S) (h:S A (wants Q E) s):LC (Ly ab w) A (call (.ref x) rest) Q E s:=by
 have r:s.TypeIs (.ref a) T':=⟨_,p,v⟩;refine NB (SM ?_);show LC _ A.in1 (TW (.ref x) ⟨rest,[]⟩) _ _ s;dsimp only[TW];refine KI (RX hx ?_);dsimp only[show (Ob "builtin_function_or_method" == Ob "method" || Ob "builtin_function_or_method" == Ob "builtin_function_or_method" || Ob "builtin_function_or_method" == Ob "method-wrapper")=Ww by decide,if_true];refine TO ⋯ ?_;refine KI ?_;unfold checkBoundCall;rw[j];dsimp only;rw[d];dsimp only;refine Mt ⋯ ?_;refine KI (MR (T:=T') (b:=Wx) r k ?_);refine Mt (by rw[n];rfl) ?_;refine KI ?_;unfold isType;refine KI (QY p ?_);have u:(match o.data with |.cls _=>Ww |_=>Wx)=Wx:=by
  cases q:o.data with
  |cls c=>exact absurd q (e c)
  |_=>rfl
 refine KN ?_;refine Mt u ?_;refine KI (QA r ?_);refine Mo l ?_;refine KI (KN (KN ?_));refine⟨QK slot.plain _,NQ i ?_⟩;rw[NO slot.plain];exact g A (wants Q E) s h
def aKk{c_:Ov ab w Int}{m:List (Int×AV)}{V:St}{a:Bool}(k:(d,aA c_ m)∈V.led)
  (h:R (.bm "dict.get" (.ref d)) V):F1 w A B z Val (λx=>QC x Ev a) (.ref d) V R:=F1.of λs Z S Q E p=>l6 <| by
 refine ag (S.own _ k) λo i n=>jH n λr u j hex l O O O O=>?_;dsimp only at i;refine CW (T' := "dict") (id := "dict.get") i hex.1 hex.2.1 (λc e=>by rw[l] at e;cases e) F.slot_dict_getattribute aGJ F.args_dict_getattribute_2 F.slot_dict_get.lookup F.type_dict_get (by decide +kernel) aCB aAS (by rw[Mm];kernel_rfl) ?_;have P:=S.toca.pushZ (o:={ cls:=.type "builtin_function_or_method",data:=.fields #[.builtin "dict.get",.ref d]}) rfl (s.toks+1);exact p _ _ _ _ _ h (S.after P.1 P.2) (.bm (l2 ..) (.ref d)) P.2.toF
def aJP{c_:Ov ab w Int}{m:List (Int×AV)}{dflt:AV}{k:Int}{V:St}(i:(d==Nl)=Wx)(t:∀Z x,Val Z v x->c_.is k x=Ww)(q:(d,aA c_ m)∈V.led)
  (h:R ((bo m k).getD dflt) V):FC w A B z (.bm "dict.get" (.ref d)) [v,dflt] [] V R:=λs Z fx W ks C b a S Q E H=>by
 cases a
 refine bA (Bd C) λJ X K e f=>?_;subst K
 (have N:=f.inv;subst N)
 refine Vals.un2 (P:=λW=>LC (Ly ab w) A (call (.ref J) W []) Q E s) (λr M G L=>?_) W b;refine ag (rH S.toca q) λY p j=>?_;refine fM (id p) λo es ep g hex D O=>?_;refine CX (T' := "dict") (id := "dict.get") (S.frozen _ _ e) g hex.1 (λc e=>by rw[D] at e;cases e) (sig:=(Sv "dict.get").getD ⟨.positional, "", "",.self,[]⟩) @_ @_ (by rw[Mm];kernel_rfl) (by decide +kernel) @_ Un F.entry_dict_get (VR c_ d (t Z r M) i G) ⟨_,p.mapOf,?_⟩;refine H _ _ _ Z V h (S.toks _) ?_ (.toks _);rcases j.find k with ⟨n,l⟩ |⟨u,y,n,l,U⟩
 ·exact(Eq.symm (n))▸(Eq.symm (l))▸L
 ·exact(Eq.symm (n))▸(Eq.symm (l))▸U
def aKl{V:St}{d:Bool}(j:(a,ed)∈V.led)
  (h:R (.bm "set.__contains__" (.ref a)) V):F1 w A B z Val (λx=>QC x Ex d) (.ref a) V R:=F1.of λs Z S Q E k=>l6 <| by
 obtain⟨o,i,l,rfl⟩:=S.own _ j;dsimp only at i;refine CW (T' := "set") (id := "set.__contains__") i rfl rfl (λc e=>by cases e) F.slot_set_getattribute aGF F.args_set_getattribute_2 F.slot_set_contains.lookup aAN (by decide +kernel) aCA aAR (by rw[Mm];kernel_rfl) ?_;have P:=S.toca.pushZ (o:={ cls:=.type "builtin_function_or_method",data:=.fields #[.builtin "set.__contains__",.ref a]}) rfl (s.toks+1);exact k _ _ _ _ _ h (S.after P.1 P.2) (.bm (l2 ..) (.ref a)) P.2.toF
def aIx{e:Expr}{K:dr->St->Prop}(i:PV z=Wx)(d:Sx e Wv a9.line z=Nb Wx)
  (h:T w A B z Val (ME e z) V λO di=>K .next di):T w A B z fv (exec (.Expr e a9) z) V K:=λs Z S Q E j =>
 wpAny_Expr_any (h s Z S _ _ λv x a l di k n H X=>j _ _ a l di k n .next X) i d
def aIz{K:dr->St->Prop}(h:K .brk V):T w A B z fv (exec (.Break a9) z) V K:=λs Z S Q E a=>wpAny_Break (a _ _ s Z V h S .brk .refl)
def Ju{K:dr->St->Prop}(h:K .cont V):T w A B z fv (exec (.Continue a9) z) V K:=λs Z S Q E a=>wpAny_Continue (a _ _ s Z V h S .cont .refl)
def aJ6{a b:Int}(e:b≠0)(d:b.natAbs<1073741824)(h:K (.int (a.fdiv b)) V):F2 w A B z Val (Ph .FloorDiv) (.int a) (.int b) V K:=l8 λs Z S Q E i=>oz λO=>oz λO=>PyProof.Rows.floordiv_int e (i _ _ _ Z V h (S.toks _) (.int _ _) (.toks _)) (.inl (PyProof.noPylong_small d))
def jw{K:Type}[DecidableEq K]{p:K×AV}{r:List (K×AV)}{x:K}:bo (p::r) x=if p.1=x then Wu p.2 else bo r x:=by
 unfold bo;rw[Nh];by_cases h:p.1=x
 ·rw[if_pos h,decide_eq_true h];rfl
 ·rw[if_neg h,decide_eq_false h]
def aGf{K:Type}[DecidableEq K](m:List (K×AV))(k:K)(v:AV)(x:K):bo (fj m k v) x=if x=k then Wu v else bo m x:=by
 unfold fj;by_cases q:x=k
 ·subst q;rw[if_pos rfl];cases d:(m.any λkv=>decide (kv.1=x)) with
  |true =>
   rw[if_pos rfl];induction m with
   |nil=>exact Qs d
   |cons p r a =>
    rw[Le,jw];by_cases e:p.1=x
    ·rw[if_pos e];exact if_pos e
    ·rw[if_neg e,if_neg e];exact a (by rwa [List.any_cons,decide_eq_false e,SZ] at d)
  |false =>
   rw[if_neg LZ];induction m with
   |nil=>exact jw.trans (if_pos rfl)
   |cons p r a =>
    rw[List.any_cons,Py] at d;rw[Lg,jw,if_neg (of_decide_eq_false d.1)];exact a d.2
 ·rw[if_neg q];cases(m.any λkv=>decide (kv.1=k)) with
  |true =>
   rw[if_pos rfl];induction m with
   |nil=>rfl
   |cons p r a =>
    rw[Le,jw,jw,a];by_cases e:p.1=k
    ·have h : ¬ p.1=x:=λz=>q (z.symm.trans e);rw[if_pos e,if_neg h,if_neg h]
    ·rw[if_neg e]
  |false =>
   rw[if_neg LZ];induction m with
   |nil=>exact jw.trans (if_neg λz=>q z.symm)
   |cons p r a=>rw[Lg,jw,jw,a]
def KV.out{K:Type}{k:K}{m:List (K×AV)}{P:List (K×Value)->Prop}(c:∀x r,Val Z v x->KV Z m r->P ((k,x)::r))(Xe:List (K×Value))(h:KV Z ((k,v)::m) Xe):P Xe:=by
 cases h with
 |cons d a=>exact c _ _ d a
def KV.recast{K:Type}{j:eb}(n:eb.le Z j)(hv:Val j (.lst W) (.ref a)){k:K}{d l:List (K×AV)}:∀ {Xe:List (K×Value)},KV Z (d++(k,.ref a)::l) Xe->KV j (d++(k,.lst W)::l) Xe:=by
 induction d with
 |nil=>exact KV.out (λx r i e=>i.inv▸.cons hv (e.mono n)) _
 |cons p d o=>exact KV.out (k:=p.1) (v:=p.2) (λx r i e => .cons (i.mono n) (o e)) _
def ca.freeze1{K:Type}[DecidableEq K]{c_:Ov ab w K}{i:LP}{k:K}{d1 j:List (K×AV)}{L:aa}(S:ca B s Z ((i,aA c_ (d1++(k,.ref a)::j))::(a,.list W)::L)):∃n,ca B s n ((i,aA c_ (d1++(k,.lst W)::j))::L)/\eb.le Z n/\hO (aj ((i,aA c_ (d1++(k,.ref a)::j))::(a,.list W)::L)) s Z s n (aj ((i,aA c_ (d1++(k,.lst W)::j))::L)):=by
 have x:=S.perm (Nc ..);refine gg x.freeze λv d u r X=>fL v ⟨d.base,d.frozen,d.nodup,λp l=>?_,λp l=>?_,d.gnodup,d.bare⟩ r (cB (Nc (i,aA c_ (d1++(k,.ref a)::j)) (a,.list W) L)▸X)
 ·exact(KZ.mp l).elim (λe=>e▸d.apart (i,aA c_ (d1++(k,.ref a)::j)) (KJ ..)) λh=>d.apart p (KP _ h)
 ·exact(KZ.mp l).elim (λe=>e▸((S.own _ (KJ ..)).imp λo h=>⟨h.1,h.2.imp λO h=>h.imp λO h=>h.imp λO h=>⟨h.1,h.2.1,h.2.2.1,h.2.2.2.1,h.2.2.2.2.1,h.2.2.2.2.2.recast r u⟩⟩)) λh=>d.own p (KP _ h)
def ca.freezes{K:Type}[DecidableEq K]{c_:Ov ab w K}{j:LP}{Y:aa}(d:List (K×LP×List AV)):∀(done:List (K×AV)) (Z:eb),
  ca B s Z ((j,aA c_ (done++d.map λe=>(e.1,.ref e.2.1)))::((d.map λe=>(e.2.1,el.list e.2.2))++Y)) ->
  ∃i,ca B s i ((j,aA c_ (done++d.map λe=>(e.1,.lst e.2.2)))::Y)/\eb.le Z i /\
   hO (aj ((j,aA c_ (done++d.map λe=>(e.1,.ref e.2.1)))::((d.map λe=>(e.2.1,el.list e.2.2))++Y))) s Z s i (aj ((j,aA c_ (done++d.map λe=>(e.1,.lst e.2.2)))::Y)):=by
 induction d with
 |nil=>exact λdone Z S=>⟨Z,S,.refl _,.refl⟩
 |cons e d p =>
  intro done Z S;refine bn (ca.freeze1 (d1:=done) (k:=e.1) (a:=e.2.1) (W:=e.2.2) S) λr v o X=>bn (p (done++[(e.1,.lst e.2.2)]) r (by rw[LH];exact v)) λi n l u=>?_;rw[LH] at n;exact fL i n (o.trans l) (X.trans u)
def T.freezes{K:Type}[DecidableEq K]{c_:Ov ab w K}{a:eb->α->β->Prop}{t:Sem β}{l:LP}{Y:aa}{R:α->St->Prop}(es:List (K×LP×List AV))
  (h:T w A B z a t ⟨a6,(l,aA c_ (es.map λe=>(e.1,.lst e.2.2)))::Y⟩ R):T w A B z a t ⟨a6,(l,aA c_ (es.map λe=>(e.1,.ref e.2.1)))::((es.map λe=>(e.2.1,el.list e.2.2))++Y)⟩ R:=λs Z S Q E o=>bn (ca.freezes es [] Z S.toca) λp y G X=>h s p (S.after y X) Q E λv x n i d k j u r=>o v x n i d k j u ((X.toF (V:=⟨a6,_⟩)).trans r)
abbrev Ln:=Option (Option Str)
abbrev rr(x:Ln):AV:=.ln x
def aC:Option Str->AV
 |some x => .str x
 |none => .typ "TypeError"
def az(x:Option (Option Str)):Bool:=x.elim Ww Option.isNone
def cj(f:Str->Str):Option (Option Str)->Option Str
 |some (Wu x)=>Wu (f x)
 |_=>Wv
def Hs(w:Lz):Ln->Int
 |none=>0xFCA86420
 |some Wv=>hashInt 7
 |some (Wu x)=>hashStr w x
def cO{v:Value}(h:cP Wv v=Ww):v=.none:=by cases v <;> first |rfl |exact absurd h LZ
section
variable{c:Ll}
def aFf{Q:Int->KY->Prop}(h:Q 0xFCA86420 {s with toks:=s.toks+1}):LC (Ly c w) A (pyHash .none) Q E s:=by
 unfold pyHash;refine KI (wpAny_cRoomFor_byValue rfl ?_);refine KI (Oj (name:=KX "__hash__") (QS s) F.slot_NoneType_hash.lookup ?_);show LC _ _ (if (Wu (SO "NoneType.__hash__")==Wu My)=Ww then _ else _) Q E s;rw[if_neg (by rw[beq_builtin_none];exact LZ)];refine KI (Oj (name:=KX "__hash__") (QS s) F.slot_NoneType_hash.lookup ?_);show LC _ _ (Ut .none "__hash__" _>>=_) Q E s;refine KI (wpAny_callSpecialIfBoundUnlessNone?_slot (QS s) We
  (Mb We (QS s) F.entry_NoneType_hash
   (show LC _ _ (do ret (← mkInt 0xFCA86420)) _ _ s from wpAny_ret_mkInt ?_) (F.args_NoneType_hash_1 _)))
 exact KN h
end
section
variable{c:Ll}
def Iw{a:Ln}{u v:Value}(i:cP a u=Ww)(hv:cP b v=Ww)(h:Q (.bool (decide (a=b))) s):LC (Ly c w) A (NE .Eq u v) Q E s:=by
 rcases a with _ |_ |x <;> rcases b with _ |_ |y
 ·rw[cO i,cO hv];exact EqNone.eq_none_none h
 ·refine al (OV hv) λt d=>?_;subst d;rw[cO i];exact EqNone.eq_none_int h
 ·refine al (OW hv) λt d=>?_;subst d;rw[cO i];exact EqNone.eq_none_str h
 ·refine al (OV i) λt d=>?_;subst d;rw[cO hv];exact EqNone.eq_int_none h
 ·refine al (OV i) λt d=>?_;subst d;refine al (OV hv) λj d=>?_;subst d;exact Ua h
 ·refine al (OV i) λt d=>?_;subst d;refine al (OW hv) λj d=>?_;subst d;exact EqMixed.eq_int_str h
 ·refine al (OW i) λt d=>?_;subst d;rw[cO hv];exact EqNone.eq_str_none h
 ·refine al (OW i) λt d=>?_;subst d;refine al (OV hv) λj d=>?_;subst d;exact EqMixed.eq_str_int h
 ·refine al (OW i) λt d=>?_;subst d;refine al (OW hv) λj d=>?_;subst d;refine TZ ?_;rw[show (x==y)=decide ((Wu (Wu x):Ln)=Wu (Wu y)) from by rw[NR,beq_iff_eq,decide_eq_true_iff];exact⟨λe=>e▸rfl,λe=>No (No e)⟩];exact h
def Hr(v:Value)(a b:Ln)(d:cP a v=Ww)(c:cP b v=Ww):a=b:=by
 rcases a with _ |_ |x <;> rcases b with _ |_ |y
 ·rfl
 ·rw[cO d] at c;cases c
 ·rw[cO d] at c;cases c
 ·rw[cO c] at d;cases d
 ·rfl
 ·obtain⟨t,rfl⟩:=OV d;cases c
 ·rw[cO c] at d;cases d
 ·obtain⟨t,rfl⟩:=OV c;cases d
 ·rw[Value.isStrOf_inj v x y d c]
def rv{x:Ln}{v:Value}(h:Val Z (.ln x) v):cP x v=Ww:=h.inv
end
def aGB{a:Ln}{u v:Value}{Q:Bool->KY->Prop}(d:cP a u=Ww)(hv:cP b v=Ww)(h:Q (decide (a=b)) s):LC (Ly c w) A (eqBool u v) Q E s:=by
 unfold eqBool;refine Lh ?_;by_cases q:(u==v)=Ww
 ·have e:=eq_of_beq q;subst e;have j:=Hr u a b d hv;subst j;rw[if_pos q];exact KI (MI (KN (by simpa using h)))
 ·rw[if_neg q];have k:LC (Ly c w) A (richCompare .Eq u v) (λr i=>LC (Ly c w) A (truthOfDropped r) Q E i) E s:=Iw d hv (PU h);rcases a with _ |_ |x
  ·rw[cO d] at k ⊢;exact KI k
  ·obtain⟨t,rfl⟩:=OV d;exact KI k
  ·obtain⟨t,rfl⟩:=OW d;exact KI k
def aFg{k:Ln}{v:Value}{Q:Int->KY->Prop}(hv:cP k v=Ww)(h:Q (Hs w k) {s with toks:=s.toks+1}):LC (Ly b w) A (PySem.pyHash v) Q E s:=by
 rcases k with _ |_ |x
 ·rw[cO hv];exact aFf h
 ·obtain⟨t,rfl⟩:=OV hv;exact wpAny_pyHash_int h
 ·obtain⟨t,rfl⟩:=OW hv;exact wpAny_pyHash_str h
def aEc(k:Ln)(v:Value)(h:cP k v=Ww):carriedByValue v=Ww:=by
 rcases k with _ |_ |x
 ·rw[cO h];rfl
 ·obtain⟨t,rfl⟩:=OV h;rfl
 ·obtain⟨t,rfl⟩:=OW h;rfl
def aD9(k:Ln)(x:Str)(t:Tok)(v:Value)(h:cP k (.str x t)=Ww):cP k v=v.isStr x:=by
 rcases k with _ |_ |y
 ·cases h
 ·cases h
 ·have e:x=y:=beq_iff_eq.mp h;subst e;cases v <;> rfl
def bZ(a:Ll)(w:Lz):Ov a w Ln where
 is:=cP
 hash:=Hs w
 inj:=Hr
 byValue:=aEc
 pyHash:=aFg
 eqBool:=aGB
 «strs» := aD9
def Hx(i:Ln):∀Z x,Val Z (rr i) x->(bZ ab w).is i x=Ww:=λZ x V=>rv V
def CE{a:Ln}(h:K (.bool (a==b)) V):F2 w A B z Val (NE .Eq) (rr a) (rr b) V K:=λs Z x y H U S Q E d =>
 Iw (rv H) (rv U) (by rw[show decide (a=b)=(a==b) from by rw[NR,beq_iff_eq,decide_eq_true_iff]];exact d _ _ s Z V h S (.bool _) .refl)
def iz{x:Ln}(h:K (.bool (!az x)) V):FC w A B z (.blt "isinstance") [rr x,.typ "str"] [] V K:=n5 λs Z S Q E e=>om λv d=>om <| Val.eTyp <| Zq <| by
 have d:=rv d;rcases x with _ |_ |x
 ·rw[cO d];exact IsiPair.NoneType_str (e _ _ _ Z V h (S.toks _) (.bool Wx) (.toks _))
 ·refine al (OV d) λt a=>?_;subst a;exact IsiPair.int_str (e _ _ _ Z V h (S.toks _) (.bool Wx) (.toks _))
 ·refine al (OW d) λt a=>?_;subst a;exact IsiPair.str_str (e _ _ _ Z V h S (.bool Ww) .refl)
def ev(b:List Ln)(k:Ln):List Nat:=(List.range b.length).filter λj=>b[j]?==Wu k
def tM(b:List Ln)(k:Ln):Bool:=decide (200<=b.length)&&decide (b.length / 100+1<(ev b k).length)
def bS(b:List Ln)(k:Ln):List Nat:=if tM b k then [] else ev b k
def eD:List (Ln×List Nat)->Ln->Nat->List (Ln×List Nat)
 | [],k,i=>[(k,[i])]
 |(x,a)::r,k,i=>if x=k then (x,a++[i])::r else (x,a)::eD r k i
def wR{x k:Ln}{a:List Nat}{r:List (Ln×List Nat)}:eD ((x,a)::r) k i=if x=k then (x,a++[i])::r else (x,a)::eD r k i:=rfl
def gE:List (Ln×List Nat)->Nat->List Ln->List (Ln×List Nat)
 |t,_,[]=>t
 |t,i,x::W=>gE (eD t x i) (i+1) W
def gx(t:List (Ln×List Nat))(k:Ln):Option (List Nat):=(t.find? λe=>e.1=k).map (·.2)
def aD1(k:Ln)(i:Nat)(x:Ln):∀t,gx (eD t k i) x=if x=k then Wu ((gx t k).getD []++[i]) else gx t x:=by
 intro a;induction a with
 |nil =>
  show gx [(k,[i])] x=_;unfold gx;by_cases e:x=k
  ·subst e;simp
  ·have : ¬ k=x:=λh=>e h.symm;simp[e,this]
 |cons j r d =>
  obtain⟨y,l⟩:=j;simp only[wR];by_cases q:y=k
  ·rw[if_pos q];subst q;unfold gx;by_cases e:x=y
   ·subst e;simp
   ·have : ¬ y=x:=λh=>e h.symm;simp[e,this]
  ·rw[if_neg q];unfold gx at *;by_cases e:y=x
   ·have : ¬ x=k:=λh=>q (e.trans h);simp[e,this]
   ·rw[Sl (by simpa using e),d];by_cases z:x=k
    ·rw[if_pos z,if_pos z,Sl (by simpa using q)]
    ·rw[if_neg z,if_neg z,Sl (by simpa using e)]
def aE7(b:List Ln)(x k:Ln):ev (b++[x]) k=if x=k then ev b k++[b.length] else ev b k:=by
 unfold ev;simp only[Lb,Np,List.range_succ,List.filter_append];have d:(List.range b.length).filter (λj=>(b++[x])[j]?==Wu k)=(List.range b.length).filter (λj=>b[j]?==Wu k):=List.filter_congr λj a=>by
  rw[Pr (Uc.mp a)]
 rw[d];by_cases e:x=k
 ·subst e;simp
 ·simp[e]
def aE8(k:Ln):ev [] k=[]:=rfl
def sh(t:List (Ln×List Nat))(b:List Ln):Prop:=∀k,gx t k=if ev b k=[] then Wv else Wu (ev b k)
def sh.nil:sh [] []:=λk=>by rw[aE8];rfl
def sh.add(h:sh t b)(x:Ln):sh (eD t x b.length) (b++[x]):=λk=>by
 rw[aD1,aE7];by_cases e:k=x
 ·subst e;rw[if_pos rfl,if_pos rfl,h k,if_neg (List.append_ne_nil_of_right_ne_nil _ (Wp _ _))];by_cases q:ev b k=[]
  ·rw[if_pos q,q];rfl
  ·rw[if_neg q];rfl
 ·have : ¬ x=k:=λq=>e q.symm;rw[if_neg e,if_neg this];exact h k
def sh.chain:∀(W:List Ln) {t:List (Ln×List Nat)} {b:List Ln},sh t b->sh (gE t b.length W) (b++W)
 | [],t,b,h=>by simp only[Ms];exact h
 |x::W,t,b,h=>by
  have:=sh.chain W (h.add x);simp only[Lb,LH] at this;exact this
def Jh(k:Ln)(i:Nat):∀t,(eD t k i).length<=t.length+1
 | []=>LK _
 |(y,a)::r=>by
  simp only[wR];split
  ·simp
  ·have:=Jh k i r;simp only[La];omega
def aHx(W:List Ln):∀(t:List (Ln×List Nat)) (i:Nat),(gE t i W).length<=t.length+W.length:=by
 induction W with
 |nil=>exact λO O=>LK _
 |cons x W a=>exact λt i=>Mc (a (eD t x i) (i+1)) (Mc (OK (Jh x i t) _) (Oz (Oy ..)))
abbrev ah:=Nat×Nat×Nat
def dX(D:Int->Nat)(i:Nat)(s:(Int->Nat)×ah)(j:Nat):(Int->Nat)×ah:=(λx=>if x=(j:Int) then D ((j:Int)-1)+1 else s.1 x,if s.2.2.2<D ((j:Int)-1)+1 then (i-D ((j:Int)-1),j-D ((j:Int)-1),D ((j:Int)-1)+1) else s.2)
def within(da dg:Nat)(a:List Nat):List Nat:=a.filter λj=>decide (da<=j)&&decide (j<dg)
def fk(a:List Nat)(da dg i:Nat)(s:(Int->Nat)×ah):(Int->Nat)×ah:=(within da dg a).foldl (dX s.1 i) (λO=>0,s.2)
def gm(idx:Nat->List Nat)(da dg:Nat)(a:List Nat)(s:(Int->Nat)×ah):(Int->Nat)×ah:=a.foldl (λs i=>fk (idx i) da dg i s) s
def cn(e:Nat->Nat->Bool)(b_ da:Nat):Nat->Nat->Nat->ah
 |i+1,j+1,k=>if decide (b_<i+1)&&(decide (da<j+1)&&e i j) then cn e b_ da i j (k+1) else (i+1,j+1,k)
 |i,j,k=>(i,j,k)
def ez(e:Nat->Nat->Bool)(du dg i j:Nat):Nat->Nat->Nat
 |0,k=>k
 |f+1,k=>if decide (i+k<du)&&(decide (j+k<dg)&&e (i+k) (j+k)) then ez e du dg i j f (k+1) else k
def cw(e:Nat->Nat->Bool)(idx:Nat->List Nat)(b_ du da dg:Nat):ah:=let s:=(gm idx da dg (Mu b_ (du-b_)) (λO=>0,(b_,da,0))).2
 let u:=cn e b_ da s.1 s.2.1 s.2.2
 (u.1,u.2.1,ez e du dg u.1 u.2.1 (du-(u.1+u.2.2)) u.2.2)
def aBx:Slot "dict" ED "dict.setdefault" := by
 rw[show (ED:Str)=KX "setdefault" from by decide +kernel];exact VC
def aBz:Slot "dict" Ev "dict.get" := by
 rw[show (Ev:Str)=KX "get" from by decide +kernel];exact Un
def iH:Slot "list" EC "list.append" := by
 rw[show (EC:Str)=KX "append" from by decide +kernel];exact F.slot_list_append
def aBy:Slot "list" EH "list.pop" := by
 rw[show (EH:Str)=KX "pop" from by decide +kernel];exact F.slot_list_pop
def aBw:Slot "list" Gq "list.sort" := by
 rw[show (Gq:Str)=KX "sort" from by decide +kernel];exact F.slot_list_sort
def yk:Slot "list" EZ "list.extend" := by
 rw[show (EZ:Str)=KX "extend" from by decide +kernel];exact F.slot_list_extend
def Upd.skip{o:el}{l:aa}(u:Upd a o o' l l'):∀ {r:aa},Upd a o o' (r++l) (r++l')
 | []=>u
 |_::r => .there (Upd.skip u (r:=r))
def lS{K:Type}[DecidableEq K]{c_:Ov ab w K}{m:List (K×AV)}{Y:aa}(j:(d,aA c_ m)∈Y):eE B (.ref d) Y "dict" := λs Z u V S=>by
 (have l:=V.inv;subst l)
 refine ag (S.own _ j) λo a k=>jH k λn p i hex O O O O O=>?_;exact⟨⟨_,a,hex.1⟩,λb e=>by cases e;exact cL _ a hex.2.1⟩
abbrev eJ:=List (Ln×LP×List AV)
def eC(a:List Nat):List AV:=a.map fun(j:Nat)=>AV.int (j:Int)
def fG(t:List (Ln×List Nat)):List (Ln×List AV):=t.map λe=>(e.1,eC e.2)
def dv(es:eJ):List (Ln×List AV):=es.map λe=>(e.1,e.2.2)
def eX:List (Ln×List AV)->Ln->AV->List (Ln×List AV)
 | [],k,i=>[(k,[i])]
 |(x,a)::r,k,i=>if x=k then (x,a++[i])::r else (x,a)::eX r k i
def wS{x k:Ln}{i:AV}{r:List (Ln×List AV)}:eX ((x,b)::r) k i=if x=k then (x,b++[i])::r else (x,b)::eX r k i:=rfl
def aGO(k:Ln)(i:Nat)(t:List (Ln×List Nat)):fG (eD t k i)=eX (fG t) k (.int i):=by
 induction t with
 |nil=>rfl
 |cons p r d =>
  obtain⟨x,a⟩:=p;simp only[wR];show fG (if x=k then _ else _)=eX ((x,eC a)::fG r) k (.int i);simp only[wS];by_cases e:x=k
  ·rw[if_pos e,if_pos e];simp[fG,eC]
  ·rw[if_neg e,if_neg e,<-d];rfl
def aIn{k:Ln}:(∀e∈b,e.1≠k)->eX (dv (b++(k,a,f)::c)) k v=dv (b++(k,a,f++[v])::c):=by
 induction b with
 |nil =>
  intro _;show eX ((k,f)::dv c) k v=_;rw[wS];rw[if_pos rfl];rfl
 |cons e b d =>
  intro h;show eX ((e.1,e.2.2)::dv (b++(k,a,f)::c)) k v=_;simp only[wS];rw[if_neg (h e (KJ ..)),d λj i=>h j (KP _ i)];rfl
def Ji{k:Ln}:∀ {es:eJ},(∀e∈es,e.1≠k)->eX (dv es) k v=dv (es++[(k,a,[v])])
 | [],_=>rfl
 |e::es,h=>by
  show eX ((e.1,e.2.2)::dv es) k v=_;simp only[wS];rw[if_neg (h e (KJ ..)),Ji λi d=>h i (KP _ d)];rfl
def dF(es:eJ):List (Ln×AV):=es.map λe=>(e.1,.ref e.2.1)
def fE(es:eJ):aa:=es.map λe=>(e.2.1,el.list e.2.2)
def aGg{k:Ln}:∀ {es:eJ},bo (dF es) k=Wu v->∃d a j i,es=d++(k,a,j)::i/\v=.ref a/\∀e∈d,e.1≠k:=by
 intro n;induction n with
 |nil =>
  intro h;cases h
 |cons r es o =>
  obtain⟨x,a,j⟩:=r;intro h;unfold bo dF at h;rw[Le,Nh] at h;by_cases e:x=k
  ·simp only[e,decide_true,Oq,MK] at h;exact iv [] a j es (by rw[e];rfl) h.symm (λO h=>by cases h)
  ·simp only[e,decide_false] at h;refine eK (o (show bo (dF es) k=Wu v from h)) λd u l i z y p=>?_;subst z;subst y;exact⟨(x,a,j)::d,u,l,i,rfl,rfl,λs he=>by
    rcases KZ.mp he with rfl |he
    ·exact e
    ·exact p s he⟩
def aGh{k:Ln}(h:bo (dF es) k=Wv):∀e∈es,e.1≠k:=λe a q=>by
 unfold bo dF at h;rw[Option.map_eq_none_iff,List.find?_eq_none] at h;exact h (e.1,.ref e.2.1) (Lv a) (by simpa using q)
def aIm(k:Ln)(i:Nat):(∀e∈t,e.2.length<=n)->∀e∈eD t k i,e.2.length<=n+1:=by
 induction t with
 |nil =>
  intro _ e he;rewrite (occs:=.all) [Lm.mp he];exact OH (Lq _)
 |cons p r d =>
  obtain⟨x,a⟩:=p;intro h e he;simp only[wR] at he;split at he
  ·rcases KZ.mp he with rfl |he
   ·exact Lb▸OH (h (x,a) (KJ ..))
   ·exact ON (h e (KP _ he))
  ·rcases KZ.mp he with rfl |he
   ·exact ON (h (x,a) (KJ ..))
   ·exact d (λl j=>h l (KP _ j)) e he
def aHw(W:List Ln):∀(t:List (Ln×List Nat)) (i n:Nat),(∀e∈t,e.2.length<=n)->∀e∈gE t i W,e.2.length<=n+W.length:=by
 induction W with
 |nil=>exact λO O O h=>h
 |cons x W a=>exact λt i n h e d=>Mc (a (eD t x i) (i+1) (n+1) (aIm x i h) e d) (Oz (Oy ..))
def IW(y:Ln):∀(W:List Ln) (t:List (Ln×List Nat)) (i:Nat),gE t i (W++[y])=eD (gE t i W) y (i+W.length)
 | [],_,_=>rfl
 |x::W,t,i=>(IW y W (eD t x i) (i+1)).trans (congrArg (eD _ y) (by simp only[La,OF,Qu 1]))
def rl(es:eJ):List (Ln×AV):=es.map λe=>(e.1,.lst e.2.2)
def aGi(h:dv es=fG t)(k:Ln):bo (rl es) k=(gx t k).map λa => .lst (eC a):=by
 have e:rl es=(fG t).map λe=>(e.1,AV.lst e.2):=by rw[<-h];simp[rl,dv]
 rw[e];clear h e;induction t with
 |nil=>rfl
 |cons p r d =>
  obtain⟨x,a⟩:=p;unfold bo gx fG at *;rw[Le,Le,Nh,Nh];by_cases q:x=k
  ·simp[q]
  ·simp only[q,decide_false];exact d
def aGj(h:dv es=fG (gE [] 0 b))(d:b.length<200)(k:Ln):(bo (rl es) k).getD (.lst [])=.lst (eC (bS b k)):=by
 have e:sh (gE [] 0 b) b:=by simpa using sh.chain b sh.nil
 have a:tM b k=Wx:=by unfold tM;simp[QH.mpr d]
 rw[aGi h,e k];unfold bS;rw[a];by_cases q:ev b k=[]
 ·rw[if_pos q,q];rfl
 ·rw[if_neg q];rfl
def FT(w:Lz)(A:Lk)(B:eb)(z:Env)(jb:List Expr)(vs:List AV)(V:St)(K:Unit->St->Prop):Prop:=FA w A B z (jb.map λe=>MM e z) vs V K
def aJg{K:Unit->St->Prop}(h:K () V):FT w A B z [] [] V K:=CC h
def aJh{vs:List AV}{K:Unit->St->Prop}(h:F1 w A B z aQ (MM t z) v V λO di=>FT w A B z ts vs di K):FT w A B z (t::ts) (v::vs) V K:=Ku h
def gf{i:Nat}{vs:List AV}{K:Unit->St->Prop}(k:A.handled=Wv)(d:(MV jb z).map (·.2)=jb.map λe=>MM e z)(j:jb.length=vs.length)(a:(MV jb z).findIdx? (·.1)=Wv)
  (h:FT w A B z jb vs V K):F1 w A B z aQ (MM (.Tuple jb i a9) z) (.tup vs) V K:=aKn k (by simp only[<-j,<-KR (f:=(·.2)) (as:=MV jb z),d,KR]) a (by exact(Eq.symm (d))▸h)
section
variable{Y a8:aa}
def Ce{K:Type}[DecidableEq K]{c_:Ov ab w K}(h:∀d,d∉keys Y->B d=Wv->R (.ref d) ⟨a6,(d,aA c_ [])::Y⟩):T w A B z Val (ME (.Dict [] [] a9) z) ⟨a6,Y⟩ R:=λs Z S Q E i=>by
 have P:=S.toca.push (o:={ cls:=.type "dict",data:=.dict #[]}) (ao:=aA c_ []) rfl s.toks (rG (SX s.heap) .nil);have j:B s.heap.objs.size=Wv:=by
  cases e:B s.heap.objs.size with
  |none=>rfl
  |some o=>have:=S.base _ _ e;rw[S.toca.zfresh] at this;cases this
 have a:=i _ _ _ _ _ (h _ S.toca.lfresh j) (S.after P.1 P.2) (.ref _) P.2.toF;simp only[eval_Dict_empty];exact KI (LN (KI (Ur (KN a))))
def cH(d:spliced (NF a9 (Mh [] z))=spliced [])(h:∀a,a∉keys Y->R (.ref a) ⟨a6,(a,.list [])::Y⟩):T w A B z Val (ME (.List [] a9) z) ⟨a6,Y⟩ R:=oD (iu ⟨by decide,h⟩)
def gJ(U:Upd a (.list W) (.list (W++[v])) Y a8)(d6:W.length<=LY)(h:K .none ⟨a6,a8⟩):FC w A B z (.blt "list.append") [.ref a,v] [] ⟨a6,Y⟩ K:=CB d6 U h
def Kn(h:∀a,a∉keys Y->R (.ref a) ⟨a6,(a,ed)::Y⟩):FC w A B z (.typ "set") [] [] ⟨a6,Y⟩ R:=aJn h
def aJl{K:Type}[DecidableEq K]{c_:Ov ab w K}{m:List (K×AV)}{k:K}(U:Upd d (aA c_ m) (aA c_ (m++[(k,u)])) Y a8)(a:(d==Nl)=Wx)(e:∀Z x,Val Z v x->c_.is k x=Ww)(d6:m.length<=LY)
  (j:∀x,bo m k=Wu x->R x ⟨a6,Y⟩) (i:bo m k=Wv->R u ⟨a6,a8⟩):FC w A B z (.blt "dict.setdefault") [.ref d,v,u] [] ⟨a6,Y⟩ R:=aJm a e d6 U j i
end
def fa{K:Frag}{R:Unit->St->Prop}(a:Wz K C)(e:takerIn K C name=Wu Wv)
  (U:Upd d (bO m) (bO m') Y a8) (i:bM m name v=m') (d6:m'.length<=1000) (h:R () ⟨a6,a8⟩):F2 w A (am K) z aQ (λx y=>setAttr x name y) (.inst C d) v ⟨a6,Y⟩ R:=Kz a e i d6 U h
section
variable{Y a8:aa}
def vi(l l':aa):Prop:=∃r,l.Perm (r++l')
def vi.refl(l:aa):vi l l:=⟨[],.refl _⟩
def vi.drop{p:LP×el}{l:aa}:vi (p::l) l:=⟨[p],.refl _⟩
def vi.perm{l:aa}(h:l.Perm l'):vi l l':=⟨[],h⟩
def ff.weak{l:aa}(S:ff B z s Z ⟨a6,l⟩)(h:vi l l'):ff B z s Z ⟨a6,l'⟩:=by
 obtain⟨r,p⟩:=h;exact(S.perm p).drop
def hO.weakF{o:vn}{l:aa}(X:hO o s Z s' b (ay z ⟨a6,l⟩))(h:vi l l'):hO o s Z s' b (ay z ⟨a6,l'⟩):=by
 obtain⟨r,p⟩:=h;rw[eu (z:=z) (a6:=a6) (ft:=a6) p] at X;exact hO.dropF X
def FC.weak(h:FC w A B z f args kw V K0)(o:∀v ft l,K0 v ⟨ft,l⟩->∃l',vi l l'/\K v ⟨ft,l'⟩):FC w A B z f args kw V K:=λs Z y W i r n p S Q E u=>h s Z y W i r n p S Q E λv x e G a k J H X=>by
  obtain⟨l',d,j⟩:=o v a.loc a.led k;exact u v x e G _ j (ff.weak (a6:=a.loc) (l:=a.led) J d) H (hO.weakF (a6:=a.loc) (l:=a.led) X d)
def T.weakPost{K:α->St->Prop}(h:T w A B z b t V K0)(j:∀v ft l,K0 v ⟨ft,l⟩->∃l',vi l l'/\K v ⟨ft,l'⟩):T w A B z b t V K:=λs Z S Q E n=>h s Z S Q E λv x e o a k p H X=>by
  obtain⟨l',d,i⟩:=j v a.loc a.led k;exact n v x e o _ i (ff.weak (a6:=a.loc) (l:=a.led) p d) H (hO.weakF (a6:=a.loc) (l:=a.led) X d)
def aJk{n:LP}{es:eJ}{y:Ln}{rest:aa}(u:(n==Nl)=Wx)(d6:es.length<=LY)
  (h:∀i o r d,(∀v,eX (dv es) y v=dv (i++(y,o,r++[v])::d))->R (.ref o) ⟨a6,(n,aA (bZ ab w) (dF (i++(y,o,r)::d)))::(fE i++(o,.list r)::(fE d++rest))⟩):FC w A B z (.blt "dict.setdefault") [.ref n,.ln y,.ref a] [] ⟨a6,(a,.list [])::(n,aA (bZ ab w) (dF es))::(fE es++rest)⟩ R:=by
 refine(aJl (c_:=bZ ab w) (k:=y) (m:=dF es) (a8:=(a,.list [])::(n,aA (bZ ab w) (dF es++[(y,.ref a)]))::(fE es++rest)) (R:=λv p=>∃x,vi p.led x/\R v ⟨p.loc,x⟩) (.there .here) u (Hx y) (by unfold dF;rw[KR];exact d6) (λv s=>?_) λs=>?_).weak λv ft l k=>k
 ·obtain⟨i,o,r,d,rfl,rfl,j⟩:=aGg s;refine⟨_,.drop,?_⟩
  have:=h i o r d λv=>aIn j;simpa[fE] using this
 ·have j:=aGh s;refine⟨(n,aA (bZ ab w) (dF (es++[(y,a,[])])))::(fE es++(a,.list [])::(fE []++rest)),.perm ?_,h es a [] [] λv=>Ji j⟩;have e:dF (es++[(y,a,[])])=dF es++[(y,.ref a)]:=by simp[dF]
  rw[e];refine(Nc ..).trans (.cons _ ?_);show Ml ((a,el.list [])::(fE es++rest)) (fE es++(a,el.list [])::rest);exact MT.symm
end
def ca.weak{l:aa}(S:ca B s Z l)(h:vi l l'):ca B s Z l':=by
 obtain⟨r,p⟩:=h;exact(S.perm p).drop
def hO.weakL{o:vn}{l:aa}(X:hO o s Z s' b (aj l))(h:vi l l'):hO o s Z s' b (aj l'):=by
 obtain⟨r,p⟩:=h;rw[cB p] at X;refine X.less (λa h=>?_) λa h=>?_
 ·show a∈keys (r++l');simp only[keys,LD];exact LJ _ h
 ·show a∈gkeys (r++l');unfold gkeys;rw[NJ];exact LJ _ h
def TC.weak{K:AV->aa->Prop}(h:TC w A B f args kw Y λv l=>∃l',vi l l'/\K v l'):TC w A B f args kw Y K:=λs Z r W e S o j n R p=>h s Z r W e S o j n R λv x d u a8 k y V X=>by
  obtain⟨l',a,i⟩:=k;exact p v x d u l' i (y.weak a) V (X.weakL a)
open TC renaming weak→m1
def TC.mono{K:AV->aa->Prop}(h:TC w A B f args kw Y K)(j:∀v l,K v l->K' v l):TC w A B f args kw Y K':=λs Z p W e S n i a R o=>h s Z p W e S n i a R λv x d r a8 k u V X=>o v x d r a8 (j _ _ k) u V X
def ge(h:TC w A B f args kw Y K0)(a:∀v a8,K0 v a8->K v ⟨a6,a8⟩):FC w A B z f args kw ⟨a6,Y⟩ K:=Ct (h.mono a)
def aEF{K:Frag}{k:Keeper}(e:Mi K ⟨ab,w.params⟩ (TT (.ref f))=Wu k):eH w (am K) (.ref f):=λA s Z l V a i Q E d=>by
 (have j:=V.inv;subst j)
 exact NX (M:=Ly ab w) (dK a i) e A Q E s (λb o e=>e) (d k)
def bw{K:Frag}(e:(Mi K ⟨ab,w.params⟩ (TT (.ref f))).isSome=Ww):eH w (am K) (.ref f):=by
 obtain⟨k,e⟩:=Pt.mp e;exact aEF e
def aJS{K:Type}[DecidableEq K]{c_:Ov ab w K}{m:List (K×AV)}{k:K}{Y a8:aa}{R:Unit->St->Prop}(U:Upd d (aA c_ m) (aA c_ (fj m k u)) Y a8)
  (a:∀Z x,Val Z v x->c_.is k x=Ww) (d6:m.length<=LY) (h:R () ⟨a6,a8⟩):F3 w A B z UH (.ref d) v u ⟨a6,Y⟩ R:=aJT a d6 rfl U h
def TC.perm{l:aa}{K:AV->aa->Prop}(p:l.Perm l')(h:TC w A B f args kw l' K):TC w A B f args kw l K:=λs Z o W d S j e i R n=>h s Z o W d (S.perm p) j e i R λv x a r a8 k u V X=>n v x a r a8 k u V (by exact(Eq.symm (cB p))▸X)
def aJo{f:AV}{args:List AV}{Y nt:aa}{K0:AV->Prop}(p:Y.Perm nt)(h:TC w A B f args kw nt λv l=>K0 v/\l=nt)(e:∀v,K0 v->K v ⟨a6,Y⟩):FC w A B z f args kw ⟨a6,Y⟩ K:=FC.weak (K0:=λv d=>K0 v/\d=⟨a6,nt⟩) (Ct ((TC.perm p h).mono λv l a=>⟨a.1,by rw[a.2]⟩)) λv ft l a=>by
  obtain⟨j,i⟩:=a;cases i
  exact⟨Y,.perm p.symm,e v j⟩
def aIC{u r:Expr}{R:dr->St->Prop}(p:Rw [t,u,r] c8 a9.line z=Nb Wx)(o:Qb [t,u,r] c8 z=Nb Wv)(y:MV [t,u,r] z=[(Wx,MM t z),(Wx,MM u z),(Wx,MM r z)])
  (h:T w A B z Val (ME c8 z) V λv fI=>F1 w A B z aQ (MM t z) v fI λO ia=>F1 w A B z aQ (MM u z) v ia λO e=>F1 w A B z aQ (MM r z) v e λO d=>R .next d):T w A B z fv (exec (.Assign [t,u,r] c8 a9) z) V R:=BU p o (by
  exact(Eq.symm (y))▸h.mono λv a k=>CK (λs Z x H S Q E G=>k s Z x H S Q E λj i l J a n=>G j i l J a (CK n)))
section
variable{K:Frag}
def dH{a:α}{Q:α->KY->Prop}(X:K.In s.heap)(e:Mi K ⟨ab,w.params⟩ t=Wu a)(h:Q a s):LC (Ly ab w) A t Q E s:=NX (M:=Ly ab w) X e A Q E s (λb o e=>e) h
structure Xc (w:Lz) (K:Frag) (C:LP):Prop where
 isT:Mi K ⟨ab,w.params⟩ (isType (.ref C))=Wu Ww
 sub:Mi K ⟨ab,w.params⟩ (Oa (.ref C) (.type "tuple"))=Wu Ww
 here:Mi K ⟨ab,w.params⟩ (Bind.madeHere "tuple.__new__" (.ref C))=Wu ()
 ini:Mi K ⟨ab,w.params⟩ (MF (.ref C) "__init__")=Wu (Wu (.builtin "object.__init__"))
 del:Mi K ⟨ab,w.params⟩ (classHasDel C)=Wu Wx
def aBS{P:QF->KY->Prop}(d:Xc w K C)(X:K.In s.heap)(k:s.heap.get? t=Wu o)(p:o.cls=.type "tuple")(l:o.data=.seq items n)(d6:items.size<=LY)
  (h:∀h':Heap,(∀b o',s.heap.get? b=Wu o'->h'.get? b=Wu o')->P (.done (.ret (.ref (h'.objs.size+1)))) {s with heap:=(h'.push {cls:=.type "dict",data:=.dict #[]}).push {cls:=.ref C,dict:=Wu h'.objs.size,data:=.seq items} }):LC (Ly ab w) A (Builtin.«tuple.__new__» ⟨[.ref C,.ref t],[]⟩) P E s:=by
 unfold Builtin.«tuple.__new__»;refine KI (dH X d.isT (Mt rfl (KI (dH X d.sub (Mt rfl (KI (dH X d.here (KI (dH X d.ini (TO (by decide +kernel) (KI (Mo (a:=()) rfl (KI (Mo (a:=()) @_ (Mt rfl (KI (wpAny_collect_seq t (.inr rfl) k p l (λh' j=>KI (KN (KI (Ur (KI ?_))))) d6)))))))))))))))));unfold newObj;dsimp only;refine ec (by simpa using OX.mpr d6) ?_;unfold newObjAsIs;refine KI (Ur ?_);dsimp only;have u:K.In ((h'.push {cls:=.type "dict",data:=.dict #[]}).push {cls:=.ref C,dict:=Wu h'.objs.size,data:=.seq items}):=λa o e=>Ld _ (Ld _ (j a o (X a o e)));have r:(h'.push {cls:=.type "dict",data:=.dict #[]}).objs.size=h'.objs.size+1:=Od ..;have i:=h h' j;rw[<-r] at i;refine KI (dH (K:=K) (by simpa using u) d.del (Mt rfl (KN (KN ?_))));simpa using i
end
section
variable{K:Frag}
def aFL{T' id:String}{Q:Value×List Value->KY->Prop}(X:K.In s.heap)(j:Tk T'=Wx)(i:Qw (.type T')=Nb (.type "type"))
  (k:TH K (.type "type") "__getattribute__" = Wu (Wu (.builtin "type.__getattribute__"))) (d:subIn K (.type "type") (.type "type")=Wu Ww)
  (e:Sh K (.type T') (.type "type") name=Wu (.val (.builtin id))) (n:handedOut (.builtin id)=Nb (.builtin id)) (h:Q (.builtin id,[]) {s with toks:=s.toks+1}):LC (Ly ab w) A (Ui (.type T') name b) Q E s:=by
 have a:QB (.type T')=Nb Wv:=by unfold QB;dsimp only;rw[j];rfl
 have l:Uv (Ly ab w) s.heap (Qw (.type T')) (.type "type"):=SR i;unfold Ui QT;refine KI (KI (l.here ((looks_findIn X k).here ?_)));dsimp only;rw[if_pos canon_tga];refine KI (Mg (Q:=λv=>Q (v,[])) (E:=E) ?_ (λO O z=>KN z) λO O z=>z);have o:Uv (Ly ab w) s.heap (QB (.type T')) Wv:=SR a;refine cls_open X o l k (looks_hook X (r:=Wv) (by rfl)) d e (KN ?_);show LC _ _ (handedOut (.builtin id)) _ _ _;rw[n];exact KN h
def Jz{o:Expr}{a:Pos}{T' id:String}
  (j:QM o name z (ME o z)=ME o z)
  (r:((NF a9 (Mh args z)).all (λx => !x.1)&&(QL a9 (PH [] z)).all (λx=>x.1.isSome)
   && decide (args.length+([]:List QE).length+(if ([]:List QE).isEmpty then 0 else 1)<30))=Ww)
  (d:(a.endLine==a9.line)=Ww) (J:Tk T'=Wx) (G:Qw (.type T')=Nb (.type "type"))
  (c:TH K (.type "type") "__getattribute__" = Wu (Wu (.builtin "type.__getattribute__"))) (n:subIn K (.type "type") (.type "type")=Wu Ww)
  (e:Sh K (.type T') (.type "type") name=Wu (.val (.builtin id))) (b:handedOut (.builtin id)=Nb (.builtin id))
  (h:T w A (am K) z Val (ME o z) V λv fI=>v=.typ T'/\CA w A (am K) z a9 (.blt id) [] args fI R):T w A (am K) z Val (ME (.Call (.Attribute o name a) args [] a9) z) V R:=λs Z S Q E g=>by
 simp only[Vo,j];refine KI (h s Z S _ _ λv x c5 q fI l W D C=>KI (LN ?_));obtain⟨rfl,f⟩:=l
 (have m:=D.inv;subst m)
 have i:UP (args.length+([]:List QE).length) (NF a9 (Mh args z)) (QL a9 (PH [] z))=Ww:=r;have p:Tz Ww o z a a9=Nb a9:=by unfold Tz;simp[d]
 unfold methodCall;rw[i];exact KI (Lh (aFL (K:=K) (dK W.base W.frozen) J G c n e b (KI (Mo p (f _ q (.builtin id) [] (.blt id) .nil (W.toks _) _ _ λv y Y t u k F H X=>g v y Y t u k F H ((C.trans (.toks _)).trans X))))))
def Kl(r:Xc w K C)(d6:W.length<=LY)(d:∀x,Mi K ⟨ab,w.params⟩ (Rp "tuple.__new__" ⟨[.ref C,x],[]⟩)=Wu ())(h:R (.mat C W) V):FC w A (am K) z (.blt "tuple.__new__") [.ref C,.tup W] [] V R:=n5 λs Z S Q E y=>om <| l6 <| om <| λO G=>Zq <| by
 refine bL (oh G) λa items n p e j=>?_;subst p;refine NB (Nj (b:=Builtin.«tuple.__new__») (by decide +kernel) (Nv @_) (dH (dK S.base S.frozen) (d _) (aBS (items:=items.toArray) r (dK S.base S.frozen) (S.frozen _ _ e) rfl rfl (by simpa[j.length] using d6) λh' v=>?_)));have i:=S.keepAll (h':=h') (tk:=s.toks) v;have l:=i.1.toca.push0 (o:={ cls:=.type "dict",data:=.dict #[]}) s.toks;have k:=l.1.pushZ (o:={ cls:=.ref C,dict:=Wu h'.objs.size,data:=.seq items.toArray}) rfl s.toks;have X:=l.2.trans k.2;have u:(h'.push {cls:=.type "dict",data:=.dict #[]}).objs.size=h'.objs.size+1:=Od ..;exact y _ _ _ _ _ h (i.1.after k.1 X) ((u)▸.mat (l2 ..) (j.mono X.le)) (i.2.trans X.toF)
end
structure WS (w:Lz) (K:Frag) (C fN:LP):Prop where
 obj:∃o cd,K.lookup C=Wu o/\o.data=.cls cd
 call:Mi K ⟨ab,w.params⟩ (QT (.ref C) "__call__")=Wu (Wu (.builtin "type.__call__"))
 typ:Mi K ⟨ab,w.params⟩ (isInstance (.ref C) (.type "type"))=Wu Ww
 mro:∃l,Mi K ⟨ab,w.params⟩ (mroOf (.ref C))=Wu l/\l.isEmpty=Wx
 made:Mi K ⟨ab,w.params⟩ (Bind.madeBy (.ref C))=Wu Wv
 reads:readsIn K C (.type "type")=Ww
 new:∃p rest,Sh K (.ref C) (.type "type") "__new__" = Wu (.get (.builtin "staticmethod.__get__") (.ref p) .none (.ref C))/\recIn K p "staticmethod" = Wu (.ref fN::rest)
 sub:Mi K ⟨ab,w.params⟩ (Oa (.ref C) (.ref C))=Wu Ww
 subo:Mi K ⟨ab,w.params⟩ (Oa (.ref C) (.type "object"))=Wu Ww
 ini:Mi K ⟨ab,w.params⟩ (MF (.ref C) "__init__")=Wu (Wu (.builtin "object.__init__"))
section
variable{K:Frag}
def aH6(a b c d:Value):Oo "object.__init__" ⟨[a,b,c,d],[]⟩:=by unfold Oo;kernel_rfl
def aIT{x y:AV}{R:AV->aa->Prop}(hA:dt A (k+1))(j:WS w K C fN)
  (h:∀A',dt A' k->TC w A' (am K) (.ref fN) [.ref C,x,y,H] [] Y λv a8=>v=.mat C W/\R (.mat C W) a8):TC w A (am K) (.ref C) [x,y,H] [] Y R:=λs Z fx vs g S U hx N Q hQ=>by
 have e:=U.inv;subst e;refine eR.un0 (P:=λg=>PA (Ly ab w) A (.call (.ref C) ⟨vs,g⟩) Q s) ?_ g N;refine Vals.un3 (P:=λvs=>Vals Z [x,y,H] vs->PA (Ly ab w) A (.call (.ref C) ⟨vs,[]⟩) Q s) (λG O E O z O q=>?_) vs hx hx;have X:=dK S.base S.frozen;refine bG j.obj λo cd ho hd=>?_;refine SM ?_;show LC _ _ (TW (.ref C) _) _ _ _;unfold TW;refine KI (RX (X _ _ ho) ?_);rw[hd];show LC _ _ (Va (.ref C) _) _ _ _;unfold Va;refine KI (dH X j.call ?_);dsimp only;rw[tc_bind];refine KI (KN (KI (KN ?_)));refine KN (a:=Fin.again (.call (.builtin "type.__call__") ⟨.ref C::[G,E,z],[]⟩)) (And.intro rfl ?_);refine codeAny_call_builtin_at (Tc _ (by decide +kernel)) entry_typeCall (TI tc_kind tc_split (NX X j.typ) (tc_args _ _ _) ?_);unfold Builtin.«type.__call__»;refine Mt rfl ?_;refine ag j.mro λl M L=>?_;refine KI (dH X M ?_);refine Mt L ?_;refine KI (dH X j.made ?_);dsimp only;refine bG j.new λp rest D t=>?_;refine KI (cls_bind X j.reads D (NB (sm_get (s:={ s with toks:=s.toks+1}) X t (handed_on rfl ?_))));refine KI (Lh (NB ?_));have S1:ca (am K) {s with toks:=s.toks+1} Z Y:=⟨S.base,S.frozen,S.nodup,S.apart,λp hp=>(S.own p hp).mono (.refl _) (λO e=>e) λO O O e=>e,S.gnodup,S.bare⟩;refine h (A.under (.builtin "type.__call__" ⟨.ref C::[G,E,z],[]⟩)) ⟨hA.h,?_,?_⟩ _ Z (.ref fN) _ [] S1 (.ref fN) (.cons (.ref C) q) .nil _ λv x' f Z' a8 k c V r=>?_
 ·have e:(Qr "type.__call__" ⟨.ref C::[G,E,z],[]⟩).weight=1:=@_
  have:=hA.d;show A.depth+(Qr "type.__call__" ⟨.ref C::[G,E,z],[]⟩).weight+k<=_;rw[e];omega
 ·have e:(Qr "type.__call__" ⟨.ref C::[G,E,z],[]⟩).cUnits=1:=@_
  have:=hA.u;show A.units+(Qr "type.__call__" ⟨.ref C::[G,E,z],[]⟩).cUnits+k<=_;rw[e];omega
 ·refine aD k ?_;clear k;intro O1 k;subst O1;have V0:=V;refine eK (Bb V) λa d m n qv e hv=>?_;subst qv;have J:=dK c.base c.frozen;have ha:=c.frozen _ _ e;have b:Uv (Ly ab w) f.heap (Qw (.ref a)) (.ref C):=(SA ha).andThen .now;refine KI (KI (b.here (dH J j.sub ?_)));refine Mt rfl ?_;refine KI (Lh ?_);unfold callSpecial? QT;refine KI (KI (b.here (dH J j.ini ?_)));dsimp only;refine Lh ?_;refine KI (Mo (F.slot_object_init.bind _) ?_);refine KI (NB (Nj F.slot_object_init.plain F.entry_object_init (TI (i := "object.__init__") (owner := "object") (n := "__init__") (by decide +kernel) (by decide +kernel) (b.andThen (NX J j.subo)) (aH6 _ _ _ _) ?_)));unfold Builtin.«object.__init__»;refine TO rfl ?_;refine KI (b.here ?_);refine KI (dH J j.ini ?_);dsimp only;refine KI (dH J j.made ?_);refine Mt (by decide +kernel) ?_;refine Mt (by decide +kernel) ?_;refine KN ?_;refine KN ?_;dsimp only;refine Mt rfl ?_;refine KN ?_;have X3:hO (aj Y) s Z f Z' (aj a8):=⟨r.le,r.kept,r.grow,r.zgrow,r.os,r.gkept,r.ggrow⟩;exact hQ _ _ f Z' a8 k c V0 X3
end
structure WR (w:Lz) (K:Frag) (C:LP):Prop where
 it:Mi K ⟨ab,w.params⟩ (MF (.ref C) "__iter__")=Wu (Wu (.builtin "tuple.__iter__"))
 sub:Mi K ⟨ab,w.params⟩ (Oa (.ref C) (.type "tuple"))=Wu Ww
section
variable{K:Frag}
def aAT{x:Value}{Q:Option Value->KY->Prop}(a:s.heap.IsTupleIter it t i)
  (j:s.heap.get? t=Wu ot) (k:ot.data=.seq items n) (hx:items[i]?=Wu x)
  (p:∀h',h'.IsTupleIter it t (i+1)->LL it s.heap h'->Q (Wu x) {s with heap:=h' }):LC (Ly ab w) A (Nr (.ref it)) Q E s:=by
 refine bn (id a) λo e l d=>?_;refine nS a.typeIs Nk Uy (Uo _) ?_;show LC _ _ (field (.ref it) 0>>=_) _ _ s;refine KI (NL e d (x:=.ref t) rfl ?_);refine Mt rfl ?_;refine KI (NL e d (x:=.int i 0) rfl ?_);refine KI (MY j k ?_);simp only[LX,hx];refine KI (PJ e d (by simp) (KN ⟨x,rfl,p _ ?_ (LR ..)⟩));exact⟨_,LV _ e (NG (Og d _)),(Tp ..).trans l,by
  rw[Og d];simp[MC]⟩
def aAU{Q:Option Value->KY->Prop}(p:A.handled=Wv)(a:s.heap.IsTupleIter it t i)
  (d:s.heap.get? t=Wu ot) (k:ot.data=.seq items n) (hx:items[i]?=Wv)
  (u:∀h',RW it s.heap h'->Q Wv {s with heap:=h' }):LC (Ly ab w) A (Nr (.ref it)) Q E s:=by
 refine bn (id a) λo j z l=>?_;refine nS a.typeIs Nk Uy (Uo _) ?_;show LC _ _ (field (.ref it) 0>>=_) _ _ s;refine KI (NL j l (x:=.ref t) rfl ?_);refine Mt rfl ?_;refine KI (NL j l (x:=.int i 0) rfl ?_);refine KI (MY d k ?_);simp only[LX,hx];refine KI (MI (KI (PJ j l (by simp) ?_)));show LC _ _ (VQ (.type "StopIteration") []>>=_) _ _ _;exact KI (vU λy v e r=>sW (A:=A.in1) p ⟨r,u _ (((LR ..).extBut.push _).push _)⟩)
def aAV{ot:Obj}{m:Nat}(p:t≠it)(r:ot.data=.seq items m):∀(n i:Nat) (s:KY) (Q:List Value->KY->Prop),s.heap.IsTupleIter it t i->s.heap.get? t=Wu ot->i+n<=items.size ->
  (∀h',h'.IsTupleIter it t (i+n)->LL it s.heap h'->Q ((items.toList.drop i).take n) {s with heap:=h' })->LC (Ly ab w) A (draw (.ref it) n) Q E s:=by
 intro v;induction v with
 |zero =>
  intro i s Q a _ _ u;exact KN (by simpa using u s.heap a (Um ..))
 |succ n y =>
  intro i s Q a e z u;have j:i<items.size:=by omega
  show LC _ _ (Nr (.ref it)>>=_) Q E s;refine KI (aAT a e r (x:=items[i]) (by simp[j]) λK l d=>?_);refine KI (Lh (y (i+1) _ _ l ((d.2 t p).trans e) ⋯ λJ k o=>KN ?_));have G:items.toList.drop i=items[i]::items.toList.drop (i+1):=by simp[MP,j]
  have:=u J (by simp only[show i+(n+1)=i+1+n by omega];exact k) (d.trans o);simp only[G,Vv] at this;exact this
def aDJ(p:WR w K C)(X:K.In s.heap)(G:s.heap.get? a=Wu {cls:=.ref C,dict:=Wu d,data:=.seq items n})
  (z:Q (.ref s.heap.objs.size) {s with heap:=s.heap.push {cls:=.type "tuple_iterator",data:=.fields #[.ref a,.int 0 0]} }):LC (Ly ab w) A (Pz (.ref a)) Q E s:=by
 have l:Uv (Ly ab w) s.heap (Qw (.ref a)) (.ref C):=(SA G).andThen .now;have y:LC (Ly ab w) A (call (.builtin "tuple.__iter__") [.ref a]) (λv o=>v=.ref s.heap.objs.size/\o={ s with heap:=s.heap.push {cls:=.type "tuple_iterator",data:=.fields #[.ref a,.int 0 0]} }) (λO O=>False) s:=by
  refine NB (Nj F.slot_tuple_iter.plain F.entry_tuple_iter (TI (i := "tuple.__iter__") (owner := "tuple") (n := "__iter__") (by decide +kernel) (by decide +kernel) (l.andThen (NX X p.sub)) (F.args_tuple_iter_1 _) ?_));show LC _ _ (do ret (← newFields "tuple_iterator" [.ref a,MC 0])) _ _ s;exact KI (Mk (KN ⟨rfl,rfl⟩))
 unfold Pz QT;refine KI (KI (l.here (dH X p.it ?_)));dsimp only;refine KI ?_;dsimp only[Ut,bindSpecialIfBound?];refine Lh (KI ?_);unfold QT;refine KI (KI (l.here (dH X p.it ?_)));dsimp only[F.slot_tuple_iter.bind];refine KI (Ug (Rm ?_));have k:∀r:Heap,r=s.heap.push {cls:=.type "tuple_iterator",data:=.fields #[.ref a,.int 0 0]}->({s with heap:=r}:KY).TypeIs (.ref s.heap.objs.size) "tuple_iterator" := λr e=>by subst e;exact cL _ (Lc _ rfl) rfl
 split
 ·refine KI (KN (KN ?_));refine Mt rfl (KI (Mg y (λv o j=>?_) λO O j=>j.elim));refine aD j λx u=>?_;clear j;subst x;subst u;exact KN (KI (Oj (k _ rfl) F.slot_tuple_iterator_next.lookup (KN z)))
 ·refine UL (KI (KN (KN ?_)));refine Mt rfl (KI (Mg y (λv o j=>?_) λO O j=>j.elim));refine aD j λx u=>?_;clear j;subst x;subst u;exact KN (KI (Oj (k _ rfl) F.slot_tuple_iterator_next.lookup (KN z)))
def aDI{Q:List Value->KY->Prop}(y:A.handled=Wv)(u:WR w K C)(X:K.In s.heap)(p:s.heap.get? a=Wu {cls:=.ref C,dict:=Wu d,data:=.seq items n})
  (z:∀h',RW s.heap.objs.size s.heap h'->Q items.toList {s with heap:=h' }):LC (Ly ab w) A (Us (.ref a) items.size Wv) Q E s:=by
 have x:Uv (Ly ab w) s.heap (Qw (.ref a)) (.ref C):=(SA p).andThen .now;have j:a≠s.heap.objs.size:=MA (Mf p);unfold Us;refine KI ?_;unfold notIterableAtAll QT;refine KI (KI (x.here (dH X u.it ?_)));refine TO rfl ?_;refine KN ?_;refine Mt rfl ?_;refine KI (Lh (aDJ u X p ?_));refine KI (Lh (aAV (ot:={ cls:=.ref C,dict:=Wu d,data:=.seq items n}) j rfl items.size 0 _ _ ⟨_,Lc _ rfl,rfl,rfl⟩ (Ld _ p) ⋯ λJ k i=>?_));have l:List.take items.size (List.drop 0 items.toList)=items.toList:=by rw[Ud];exact PC (by simp)
 rw[l];refine ec (by simp) ?_;refine KI (Lh (aAU y k ((i.2 a j).trans (Ld _ p)) rfl (by simp) λG r=>?_));refine Mt rfl ?_;exact KN (z G λb o v e=>r b o v (i.extBut b o v (Ld _ e)))
end
section
variable{K:Frag}
def CJ{W:Nat}{vs:List AV}{R:Unit->St->Prop}(q:A.handled=Wv)(b:WR w K C)(J:(MV jb z).map (·.2)=jb.map λe=>MM e z)(m:jb.length=vs.length)(j:(MV jb z).findIdx? (·.1)=Wv)
  (h:FT w A (am K) z jb vs V R):F1 w A (am K) z aQ (MM (.Tuple jb W a9) z) (.mat C vs) V R:=λs Z u H S Q E t=>by
 refine eK (Bb H) λa d i n Y e G=>?_;subst Y;have o:(MV jb z).length=i.toArray.size:=by
  simp only[<-KR (f:=(·.2)) (as:=MV jb z),J,KR,m,<-G.length];simp
 simp only[arm_assign_Tuple];unfold unpack;simp only[o,j,J];refine KI (LN (KI (Lh (aDI q b (dK S.base S.frozen) (S.frozen _ _ e) λM g=>?_))));refine aD (S.ext1 g) λL D=>?_;exact h _ Z _ (by simpa using G) L Q E λv x l p k c y F r=>t v x l p k c y F (D.trans r)
end
def aH(a b:List Ln)(i j:Nat):Bool:=a[i]?==b[j]?
def aR(a b:List Ln)(i:Nat):List Nat:=(a[i]?).elim [] (bS b)
def LO(m:List (Int×AV))(D:Int->Nat):Prop:=∀x,(bo m x).getD (.int 0)=.int (D x)
def LO.nil:LO [] (λO=>0):=λO=>rfl
def LO.store(h:LO m D)(j:Int)(k:Nat):LO (fj m j (.int k)) (λx=>if x=j then k else D x):=λx=>by
 rw[aGf];dsimp only;by_cases e:x=j
 ·rw[if_pos e,if_pos e];rfl
 ·rw[if_neg e,if_neg e];exact h x
structure li (b_ da dg i:Nat) (s:(Int->Nat)×ah):Prop where
 d1:∀x,s.1 x<=i-b_
 d2:∀x,0<s.1 x->(da:Int)<=x/\(s.1 x:Int)<=x+1-da
 b1:b_<=s.2.1
 b2:s.2.1+s.2.2.2<=i
 b3:da<=s.2.2.1
 b4:s.2.2.1+s.2.2.2<=dg
def li.start(h:da<=dg):li b_ da dg b_ (λO=>0,(b_,da,0)):=⟨λO=>Lq _,λO h=>absurd h (Nn _),LK _,LK _,LK _,h⟩
def li.row{s:(Int->Nat)×ah}(h:li b_ da dg i s):li b_ da dg (i+1) (λO=>0,s.2):=⟨λO=>Lq _,λO h=>absurd h (Nn _),h.b1,ON h.b2,h.b3,h.b4⟩
def li.len{s:(Int->Nat)×ah}(h:li b_ da dg i s)(a:b_<=i)(d:da<=j):s.1 ((j:Int)-1)<=i-b_/\s.1 ((j:Int)-1)<=j-da:=by
 refine⟨h.d1 _,?_⟩;by_cases q:0<s.1 ((j:Int)-1)
 ·have:=(h.d2 _ q).2;rw[Th] at this;exact Ri (Pb.mp (Int.add_le_of_le_sub_right this))
 ·exact Nat.eq_zero_of_not_pos q▸Lq _
def li.step{s:(Int->Nat)×ah}(h:li b_ da dg i s)(a:li b_ da dg (i+1) b)(o:b_<=i)(d:da<=j)(n:j<dg):li b_ da dg (i+1) (dX s.1 i b j):=by
 refine aD (h.len o d) λl k=>?_;unfold dX;generalize s.1 ((j:Int)-1)=D at l k;have u:∀x,(if x=(j:Int) then D+1 else b.1 x)<=i+1-b_:=λx=>if e:x=j then if_pos e▸Nat.succ_sub o▸OH l else if_neg e▸a.d1 x
 have r:∀x,0<(if x=(j:Int) then D+1 else b.1 x)->(da:Int)<=x/\((if x=(j:Int) then D+1 else b.1 x:Nat):Int)<=x+1-da:=λx p=>by
  by_cases e:x=j
  ·rw[if_pos e,e];exact⟨Pb.mpr d,Int.le_sub_right_of_add_le (Pb.mpr (Nat.succ_add .. ▸ OH (Nat.add_le_of_le_sub d k)))⟩
  ·rw[if_neg e] at p ⊢;exact a.d2 x p
 have y:=PF (Mc l (OL ..));have v:=PF (Mc k (OL ..));by_cases c:b.2.2.2<D+1
 ·rw[if_pos c];exact⟨u,r,Ri (Vc o l),OH (Oz y),Ri (Vc d k),Mc (OH (Oz v)) n⟩
 ·rw[if_neg c];exact⟨u,r,a.b1,a.b2,a.b3,a.b4⟩
def aE6(b:List Ln)(k:Ln):(ev b k).Pairwise (· < ·):=(List.pairwise_lt_range).filter _
def aE9{k:Ln}(h:j∈ev b k):j<b.length:=Uc.mp (Ng.mp h).1
def HK(b:List Ln)(k:Ln):(bS b k).Pairwise (· < ·):=by
 unfold bS;split
 ·exact .nil
 ·exact aE6 b k
def aE0{k:Ln}(h:j∈bS b k):j<b.length:=by
 unfold bS at h;split at h
 ·cases h
 ·exact aE9 h
def aE1(b:List Ln)(k:Ln):(bS b k).length<=b.length:=by
 unfold bS;split
 ·exact Lq _
 ·unfold ev;exact Mc (List.length_filter_le ..) (by rw[Wc];exact LK _)
def aAn{js:List Nat}(h:j<da):within da dg (j::js)=within da dg js:=by
 unfold within;rw[UD (by rw[decide_eq_false (QH.mpr h)];exact LZ)]
def aAo{js:List Nat}(h:da<=j)(h':j<dg):within da dg (j::js)=j::within da dg js:=by
 unfold within;rw[UC (by rw[decide_eq_true h,decide_eq_true h'];rfl)]
def aAm{a:List Nat}(d:(j::a).Pairwise (· < ·))(h':dg<=j):within da dg (j::a)=[]:=by
 unfold within;rw[List.filter_eq_nil_iff];intro x hx
 have:j<=x:=by
  rcases KZ.mp hx with rfl |hx
  ·exact LK _
  ·exact MW ((NI.mp d).1 x hx)
 simp only[decide_eq_false (OX.mpr (Mc h' this)),QO];exact LZ
def Ej(a b:Nat):fm (a:Int) (b:Int)=(Mu a (b-a)).map fun(i:Nat)=>AV.int (i:Int):=by
 unfold fm;simp only[List.range'_eq_map_range,MN];rw[show ((b:Int)-(a:Int)).toNat=b-a from Int.toNat_sub b a];refine Nm λi O=>?_;simp
def aGu(h : ¬ b_<i):cn e b_ da i j k=(i,j,k):=by
 cases i with
 |zero=>rfl
 |succ i=>cases j with
  |zero=>rfl
  |succ j=>exact if_neg (by rw[decide_eq_false h];exact LZ)
def aGt(h : ¬ da<j):cn e b_ da i j k=(i,j,k):=by
 cases i with
 |zero=>rfl
 |succ i=>cases j with
  |zero=>rfl
  |succ j=>exact if_neg (by simp only[decide_eq_false h,Bool.false_and,QO];exact LZ)
def aGs(h:e i j=Wx):cn e b_ da (i+1) (j+1) k=(i+1,j+1,k):=if_neg (by simp only[h,QO,QO];exact LZ)
def aGw(d:b_<i+1)(a:da<j+1)(h:e i j=Ww):cn e b_ da (i+1) (j+1) k=cn e b_ da i j (k+1):=if_pos (by simp only[h,decide_eq_true d,decide_eq_true a];rfl)
def Iv{du f:Nat}(h : ¬ (i+k<du/\j+k<dg/\e (i+k) (j+k)=Ww)):ez e du dg i j f k=k:=by
 cases f with
 |zero=>rfl
 |succ f =>
  exact if_neg λq=>h ((Mv ..).mp q |>.imp of_decide_eq_true λq=>((Mv ..).mp q).imp_left of_decide_eq_true)
def aGq{du f:Nat}(d:i+k<du)(a:j+k<dg)(h:e (i+k) (j+k)=Ww):ez e du dg i j (f+1) k=ez e du dg i j f (k+1):=if_pos (by simp only[h,decide_eq_true d,decide_eq_true a];rfl)
def wz{a:List Ln}{x y:Ln}(hx:a[i]?=Wu x)(d:b[j]?=Wu y):aH a b i j=(x==y):=by
 unfold aH;rw[hx,d];cases q:x==y with
 |true=>rw[beq_iff_eq.mp q];simp
 |false=>have:=beq_eq_false_iff_ne.mp q;simpa using this
def Dw:List LP:=[271,286]
def KB(P:KS):Frag:=(KO P).filter λp => !Dw.contains p.1
abbrev af(w:Lz):eb:=am (KB w.params)
def bq(w:Lz):hW (af w):=⟨λs h=>⟨λO=>Wv,by
 have e:=h 2 _ (show af w 2=Wu (boot_o_2 w.params) from @_);exact⟨_,#[],0,e,@_,λO h=>by simp at h,λO=>rfl⟩,rfl⟩⟩
def ak(o:Obj):Oi:=match o.data with |.func f=>f |_=>default
def aP(o:Obj):Array Value:=match o.data with |.fields f=>f |_ => #[]
def cy:Value->Tok
 |.str _ t=>t
 |_=>0
def aFU(P:KS):bJ (KB P) 82 Wx (ak (gT P)) (aI (au 3 4)) 81:=⟨⟨gT P,@_,@_⟩,@_,@_,@_,@_,@_,⟨ja P,aP (ja P),cy ((aP (ja P)).getD 1 .none),@_,@_,@_⟩,⟨@_,@_,@_⟩,@_⟩
def aFT(P:KS):bJ (KB P) 89 Wx (ak (gS P)) (aI (au 3 5)) 88:=⟨⟨gS P,@_,@_⟩,@_,@_,@_,@_,@_,⟨iZ P,aP (iZ P),cy ((aP (iZ P)).getD 1 .none),@_,@_,@_⟩,⟨@_,@_,@_⟩,@_⟩
def aGa(P:KS):bJ (KB P) 160 Wx (ak (jm P)) (aI (au 5 1)) 159:=⟨⟨jm P,@_,@_⟩,@_,@_,@_,@_,@_,⟨kM P,aP (kM P),cy ((aP (kM P)).getD 1 .none),@_,@_,@_⟩,⟨@_,@_,@_⟩,@_⟩
def aF9(P:KS):bJ (KB P) 167 Wx (ak (jl P)) (aI (au 5 2)) 166:=⟨⟨jl P,@_,@_⟩,@_,@_,@_,@_,@_,⟨kL P,aP (kL P),cy ((aP (kL P)).getD 1 .none),@_,@_,@_⟩,⟨@_,@_,@_⟩,@_⟩
def aF8(P:KS):bJ (KB P) 174 Wx (ak (ji P)) (aI (au 5 3)) 173:=⟨⟨ji P,@_,@_⟩,@_,@_,@_,@_,@_,⟨kK P,aP (kK P),cy ((aP (kK P)).getD 1 .none),@_,@_,@_⟩,⟨@_,@_,@_⟩,@_⟩
def aF7(P:KS):bJ (KB P) 181 Wx (ak (jh P)) (aI (au 5 4)) 180:=⟨⟨jh P,@_,@_⟩,@_,@_,@_,@_,@_,⟨kJ P,aP (kJ P),cy ((aP (kJ P)).getD 1 .none),@_,@_,@_⟩,⟨@_,@_,@_⟩,@_⟩
def aF6(P:KS):bJ (KB P) 188 Wx (ak (jg P)) (aI (au 5 5)) 187:=⟨⟨jg P,@_,@_⟩,@_,@_,@_,@_,@_,⟨kH P,aP (kH P),cy ((aP (kH P)).getD 1 .none),@_,@_,@_⟩,⟨@_,@_,@_⟩,@_⟩
def aF5(P:KS):bJ (KB P) 196 Wx (ak (gV P)) (aI (au 5 6)) 195:=⟨⟨gV P,@_,@_⟩,@_,@_,@_,@_,@_,⟨kG P,aP (kG P),cy ((aP (kG P)).getD 1 .none),@_,@_,@_⟩,⟨@_,@_,@_⟩,@_⟩
def aF4(P:KS):bJ (KB P) 203 Wx (ak (jf P)) (aI (au 5 7)) 202:=⟨⟨jf P,@_,@_⟩,@_,@_,@_,@_,@_,⟨kF P,aP (kF P),cy ((aP (kF P)).getD 1 .none),@_,@_,@_⟩,⟨@_,@_,@_⟩,@_⟩
def aF3(P:KS):bJ (KB P) 210 Wx (ak (je P)) (aI (au 5 8)) 209:=⟨⟨je P,@_,@_⟩,@_,@_,@_,@_,@_,⟨kC P,aP (kC P),cy ((aP (kC P)).getD 1 .none),@_,@_,@_⟩,⟨@_,@_,@_⟩,@_⟩
def aF2(P:KS):bJ (KB P) 218 Ww (ak (kA P)) (aI (au 5 9)) 217:=⟨⟨kA P,@_,@_⟩,@_,@_,@_,@_,@_,⟨kB P,aP (kB P),cy ((aP (kB P)).getD 1 .none),@_,@_,@_⟩,⟨@_,@_,@_⟩,@_⟩
def aF1(P:KS):bJ (KB P) 253 Wx (ak (kz P)) (aI (aq 6)) 252:=⟨⟨kz P,@_,@_⟩,@_,@_,@_,@_,@_,⟨nE P,aP (nE P),cy ((aP (nE P)).getD 1 .none),@_,@_,@_⟩,⟨@_,@_,@_⟩,@_⟩
def Il(P:KS):bJ (KB P) 261 Ww (ak (ej P)) (aI (aq 7)) 260:=⟨⟨ej P,@_,@_⟩,@_,@_,@_,@_,@_,⟨nC P,aP (nC P),cy ((aP (nC P)).getD 1 .none),@_,@_,@_⟩,⟨@_,@_,@_⟩,@_⟩
def aF0(P:KS):bJ (KB P) 268 Wx (ak (ky P)) (aI (aq 8)) 267:=⟨⟨ky P,@_,@_⟩,@_,@_,@_,@_,@_,⟨nB P,aP (nB P),cy ((aP (nB P)).getD 1 .none),@_,@_,@_⟩,⟨@_,@_,@_⟩,@_⟩
def Ik(P:KS):bJ (KB P) 276 Ww (ak (eh P)) (aI (aq 9)) 275:=⟨⟨eh P,@_,@_⟩,@_,@_,@_,@_,@_,⟨kx P,aP (kx P),cy ((aP (kx P)).getD 1 .none),@_,@_,@_⟩,⟨@_,@_,@_⟩,@_⟩
def Bp(P:KS):bJ (KB P) 283 Wx (ak (ef P)) (aI (aq 10)) 282:=⟨⟨ef P,@_,@_⟩,@_,@_,@_,@_,@_,⟨nw P,aP (nw P),cy ((aP (nw P)).getD 1 .none),@_,@_,@_⟩,⟨@_,@_,@_⟩,@_⟩
def aFZ(P:KS):bJ (KB P) 291 Ww (ak (dU P)) (aI (aq 11)) 290:=⟨⟨dU P,@_,@_⟩,@_,@_,@_,@_,@_,⟨ku P,aP (ku P),cy ((aP (ku P)).getD 1 .none),@_,@_,@_⟩,⟨@_,@_,@_⟩,@_⟩
def aFY(P:KS):bJ (KB P) 298 Wx (ak (gv P)) (aI (aq 13)) 297:=⟨⟨gv P,@_,@_⟩,@_,@_,@_,@_,@_,⟨nr P,aP (nr P),cy ((aP (nr P)).getD 1 .none),@_,@_,@_⟩,⟨@_,@_,@_⟩,@_⟩
def aFX(P:KS):bJ (KB P) 308 Wx (ak (fC P)) (aI (aq 15)) 307:=⟨⟨fC P,@_,@_⟩,@_,@_,@_,@_,@_,⟨ni P,aP (ni P),cy ((aP (ni P)).getD 1 .none),@_,@_,@_⟩,⟨@_,@_,@_⟩,@_⟩
def aFW(P:KS):bJ (KB P) 320 Wx (ak (ee P)) (aI (aq 17)) 319:=⟨⟨ee P,@_,@_⟩,@_,@_,@_,@_,@_,⟨nf P,aP (nf P),cy ((aP (nf P)).getD 1 .none),@_,@_,@_⟩,⟨@_,@_,@_⟩,@_⟩
def il(o:Obj):Array DictEntry:=match o.data with |.dict a _=>a |_ => #[]
def Ix(o:Obj):Nat:=match o.data with |.dict _ a=>a |_=>0
def aIi(es:Array DictEntry):Bool:=es.toList.all λe=>match e.key with |.str _ _=>Ww |_=>Wx
def DI(h:aIi es=Ww):Si es:=λe a=>by
 have:=LS.mp h e (by simpa using a);cases q:e.key with
 |str n t=>exact⟨n,t,rfl⟩
 |_=>rw[q] at this;cases this
def gM(w:Lz):af w ML=Wu (eQ w.params):=@_
def bD(P:KS):(eQ P).data=.dict (il (eQ P)) (Ix (eQ P)):=@_
def bC(P:KS):Si (il (eQ P)):=DI @_
def gU(w:Lz):af w Nt=Wu (boot_o_0 w.params):=@_
def dN(P:KS):(boot_o_0 P).data=.dict (il (boot_o_0 P)) (Ix (boot_o_0 P)):=@_
def dM(P:KS):Si (il (boot_o_0 P)):=DI @_
def Ic(w:Lz):bh (af w) fQ (.ref 242):=eW (u:=.ref 242) (gM w) (bD _) (bC _) @_ λZ => .ref _
def Ie(w:Lz):bh (af w) fw (.ref 135):=eW (u:=.ref 135) (gM w) (bD _) (bC _) @_ λZ => .ref _
def aFF(w:Lz):bh (af w) iX (.ref 253):=eW (u:=.ref 253) (gM w) (bD _) (bC _) @_ λZ => .ref _
def HU(w:Lz):bh (af w) iW (.ref 261):=eW (u:=.ref 261) (gM w) (bD _) (bC _) @_ λZ => .ref _
def aFG(w:Lz):bh (af w) iU (.ref 268):=eW (u:=.ref 268) (gM w) (bD _) (bC _) @_ λZ => .ref _
def Ib(w:Lz):bh (af w) iT (.ref 276):=eW (u:=.ref 276) (gM w) (bD _) (bC _) @_ λZ => .ref _
def wu(w:Lz):bh (af w) iV (.ref 283):=eW (u:=.ref 283) (gM w) (bD _) (bC _) @_ λZ => .ref _
def Ia(w:Lz):bh (af w) iS (.ref 291):=eW (u:=.ref 291) (gM w) (bD _) (bC _) @_ λZ => .ref _
def aFD(w:Lz):bh (af w) iR (.ref 298):=eW (u:=.ref 298) (gM w) (bD _) (bC _) @_ λZ => .ref _
def aFC(w:Lz):bh (af w) iQ (.ref 303):=eW (u:=.ref 303) (gM w) (bD _) (bC _) @_ λZ => .ref _
def aFE(w:Lz):bh (af w) iP (.ref 308):=eW (u:=.ref 308) (gM w) (bD _) (bC _) @_ λZ => .ref _
def HZ(w:Lz):bh (af w) iO (.ref 313):=eW (u:=.ref 313) (gM w) (bD _) (bC _) @_ λZ => .ref _
def HY(w:Lz):bh (af w) iN (.ref 320):=eW (u:=.ref 320) (gM w) (bD _) (bC _) @_ λZ => .ref _
def lp(w:Lz):bh (af w) FG (.blt "isinstance"):=dL (u:=.builtin "isinstance") (gM w) (bD _) (bC _) @_ (gU w) (dN _) (dM _) @_ λZ => .blt _
def lm(w:Lz):bh (af w) EL (.blt "len"):=dL (u:=.builtin "len") (gM w) (bD _) (bC _) @_ (gU w) (dN _) (dM _) @_ λZ => .blt _
def HW(w:Lz):bh (af w) Gk (.blt "min"):=dL (u:=.builtin "min") (gM w) (bD _) (bC _) @_ (gU w) (dN _) (dM _) @_ λZ => .blt _
def aFB(w:Lz):bh (af w) Gl (.blt "max"):=dL (u:=.builtin "max") (gM w) (bD _) (bC _) @_ (gU w) (dN _) (dM _) @_ λZ => .blt _
def aFJ(w:Lz):bh (af w) FI (.blt "any"):=dL (u:=.builtin "any") (gM w) (bD _) (bC _) @_ (gU w) (dN _) (dM _) @_ λZ => .blt _
def aFA(w:Lz):bh (af w) Fq (.blt "next"):=dL (u:=.builtin "next") (gM w) (bD _) (bC _) @_ (gU w) (dN _) (dM _) @_ λZ => .blt _
def fV(w:Lz):bh (af w) FF (.typ "str"):=dL (u:=.type "str") (gM w) (bD _) (bC _) @_ (gU w) (dN _) (dM _) @_ λZ => .typ _
def rB(w:Lz):bh (af w) EF (.typ "list"):=dL (u:=.type "list") (gM w) (bD _) (bC _) @_ (gU w) (dN _) (dM _) @_ λZ => .typ _
def wt(w:Lz):bh (af w) Ew (.typ "range"):=dL (u:=.type "range") (gM w) (bD _) (bC _) @_ (gU w) (dN _) (dM _) @_ λZ => .typ _
def aFH(w:Lz):bh (af w) EE (.typ "enumerate"):=dL (u:=.type "enumerate") (gM w) (bD _) (bC _) @_ (gU w) (dN _) (dM _) @_ λZ => .typ _
def aFz(w:Lz):bh (af w) EB (.typ "set"):=dL (u:=.type "set") (gM w) (bD _) (bC _) @_ (gU w) (dN _) (dM _) @_ λZ => .typ _
def aFI(w:Lz):bh (af w) FR (.typ "dict"):=dL (u:=.type "dict") (gM w) (bD _) (bC _) @_ (gU w) (dN _) (dM _) @_ λZ => .typ _
def Bl(w:Lz):bh (af w) EG (.typ "map"):=dL (u:=.type "map") (gM w) (bD _) (bC _) @_ (gU w) (dN _) (dM _) @_ λZ => .typ _
def HV(w:Lz):bh (af w) Gb (.typ "tuple"):=dL (u:=.type "tuple") (gM w) (bD _) (bC _) @_ (gU w) (dN _) (dM _) @_ λZ => .typ _
def Bk(w:Lz):bh (af w) Gd (.typ "type"):=dL (u:=.type "type") (gM w) (bD _) (bC _) @_ (gU w) (dN _) (dM _) @_ λZ => .typ _
def wv(w:Lz):bh (af w) EK (.typ "TypeError"):=dL (u:=.type "TypeError") (gM w) (bD _) (bC _) @_ (gU w) (dN _) (dM _) @_ λZ => .typ _
def aFK(w:Lz):bh (af w) Fw (.typ "AttributeError"):=dL (u:=.type "AttributeError") (gM w) (bD _) (bC _) @_ (gU w) (dN _) (dM _) @_ λZ => .typ _
inductive XI (B:eb) (o:AV) (Y:aa):Prop where
 |mk {T':String} {id:String} (h:MF (.type T') "__getitem__" = Nb (Wu (.builtin id))) (t:eE B o Y T')
def aIO
  (m:∀o i,subscripted b Wx o i=operate [o,i] (QN o i))
  (h:T w A B z Val (ME c8 z) V λl fI=>T w A B z Val (ME b z) fI λy ia=>XI B l ia.led/\F2 w A B z Val QN l y ia K):T w A B z Val (ME (.Subscript c8 b a9) z) V K:=λs Z S Q E t =>
 PyProof.Rows.Subscript_ (h s Z S _ _ λl j c5 C fI e M R F=>e c5 C M _ _ λy u s2 J ia a W L p=>by
  refine aD a λf a=>XI.rec (fun{P id} q g=>?_) f;have G:=(g s2 J j (R.mono p.le) W.toca).1;unfold PyProof.Rows.subscriptTail;refine KI ?_;rw[Wg G.not_modules];refine KI (Oj G q ?_);have d:LC (Ly ab w) A (subscripted b Wx j u) (λr Y=>LC (Ly ab w) A (UQ c8 j r>>=λO=>Nb r) Q E Y) E s2:=by
   rw[m];exact wpAny_operating (a s2 J j u (R.mono p.le) L W _ _ λv x c D n k N H X=>KI (Tf (KN (t v x c D n k N H ((F.trans p).trans X)))))
  first
   |exact KN (KI d)
   |exact KI (KN (KI d))
   |exact KI d)
def aII{x:Expr}{i:Int}(h:T w A B z Val (ME x z) V λv di=>v=.int i/\K (.int (-i)) di):T w A B z Val (ME (.UnaryOp .USub x a9) z) V K:=λs Z S Q E a=>by
 rw[show ME (.UnaryOp .USub x a9) z=(ME x z>>=λv=>PM a9>>=λO=>Ol [v] (unaryOp .USub v)) from rfl];refine KI (h s Z S _ _ λv y l d di k e H X=>?_);refine aD k ?_;clear k;intro j k;subst j;cases H
 exact KI (LN (Lh (PyProof.Rows.neg_int (a _ _ _ d di k (e.toks _) (.int _ _) (X.trans (.toks _))))))
def aIH{p:Pos}{i:Int}(h:K (.int (-i)) V):T w A B z Val (ME (.UnaryOp .USub (.Constant (.int i) k p) a9) z) V K:=aII (Jx ⟨rfl,h⟩)
def aAI:eE B (.tup W) Y "tuple" := λs Z u V S=>by
 refine bL (oh V) λO O O a e h=>?_;subst a;exact⟨⟨_,S.frozen _ _ e,rfl⟩,λb q=>by cases q;exact cL _ (S.frozen _ _ e) rfl⟩
def aI0{x:Expr}{rest:List Expr}{K:Bool->St->Prop}
  (h:T w A B z aM (isTrue x z (ME x z)) V λb di=>if b then K Ww di else T w A B z aM (SG .Or rest z) di K):T w A B z aM (SG .Or (x::rest) z) V K:=λs Z S Q E l =>
 wpAny_allTrue_Or_cons (h s Z S _ _ λb c j n di k o H X=>by
  unfold aM at H;subst H;cases c with
  |true=>exact l Ww Ww j n di k o rfl X
  |false=>exact k j n o Q E λu r d e a p i y v=>l u r d e a p i y (X.trans v))
def cK(a b:Str):Bool:=PySem.W.Fast.lEq a.cps.toList b.cps.toList
def wA{a:Str}:cK a b=Ww↔a=b:=by
 unfold cK;rw[PySem.W.Fast.lEq_iff];constructor
 ·intro h;cases a;cases b
  simp only[Str.mk.injEq];exact QW.mp h
 ·rintro rfl;rfl
def wB(a b:Str):(a==b)=cK a b:=by
 rw[NR,beq_iff_eq,wA]
def lk(x:Str)(l:List (Str×AV)):Option AV:=@List.rec _ (λO=>Option AV) Wv (λp O a=>@Bool.rec (λO=>Option AV) a (Wu p.2) (cK x p.1)) l
def sk(x:Str)(v:AV)(l:List (Str×AV)):List (Str×AV):=@List.rec _ (λO=>List (Str×AV)) [(x,v)] (λp r a=>@Bool.rec (λO=>List (Str×AV)) (p::a) ((p.1,v)::r) (cK x p.1)) l
def kW(x:Str):∀l,lk x l=l.lookup x
 | []=>rfl
 |(y,u)::l=>by
  show @Bool.rec (λO=>Option AV) (lk x l) (Wu u) (cK x y)=_;rw[Lu,wB,kW x l];cases cK x y <;> rfl
def yl(x:Str)(v:AV):∀l,sk x v l=bM l x v
 | []=>rfl
 |(y,u)::l=>by
  show @Bool.rec (λO=>List (Str×AV)) ((y,u)::sk x v l) ((y,v)::l) (cK x y)=_;rw[yn,wB,yl x v l];cases cK x y <;> rfl
set_option genCtorIdx false in set_option genInjectivity false in set_option genSizeOf false in
inductive Sm where
 |e (x:Expr) (K:AV->St->Prop)
 |es (a9:Pos) (W:List Expr) (K:List AV->St->Prop)
 |t (x:Expr) (K:Bool->St->Prop)
 |ts (op:BoolOp) (W:List Expr) (K:Bool->St->Prop)
 |s (x:Stmt) (K:dr->St->Prop)
 |ss (W:List Stmt) (K:dr->St->Prop)
def Sm.ctorIdx(x:Sm):Nat:=by cases x;exact 0;exact 1;exact 2;exact 3;exact 4;exact 5
inductive ax (P:Prop):Prop where
 |mk (h:P):ax P
def ax.out{P:Prop}(h:ax P):P:=by
 induction h with
 |mk h=>exact h
open ax renaming out→f1
set_option genInjectivity false in set_option genSizeOf false in
structure Bi where
 name:Str
 kind:Nat
 id:String
def nY:Nat->String
 |0 => "str"
 |1 => "list"
 |_ => "dict"
set_option genInjectivity false in set_option genSizeOf false in
structure Ctx where
 w:Lz
 A:Lk
 B:eb
 e:Env
 G:List (Str×AV)
 F:List LP
 M:List Bi
section
variable(q:Ctx)
def et(x:Expr)(K:AV->St->Prop)(V:St):Prop:=ax (T q.w q.A q.B q.e Val (ME x q.e) V K)
def CY(a9:Pos)(W:List Expr)(K:List AV->St->Prop)(V:St):Prop:=ax (T q.w q.A q.B q.e Vals (spliced (NF a9 (Mh W q.e))) V K)
def lR(x:Expr)(K:Bool->St->Prop)(V:St):Prop:=ax (T q.w q.A q.B q.e aM (isTrue x q.e (ME x q.e)) V K)
def aAy(a:BoolOp)(W:List Expr)(K:Bool->St->Prop)(V:St):Prop:=ax (T q.w q.A q.B q.e aM (SG a W q.e) V K)
def fO(x:Stmt)(K:dr->St->Prop)(V:St):Prop:=ax (T q.w q.A q.B q.e fv (exec x q.e) V K)
def aAz(W:List Stmt)(K:dr->St->Prop)(V:St):Prop:=ax (T q.w q.A q.B q.e fv (execs W q.e) V K)
def b2(f:Value->Value->Sem Value)(v u:AV)(K:AV->St->Prop)(V:St):Prop:=ax (F2 q.w q.A q.B q.e Val f v u V K)
def sV:Sm->St->Prop
 |.e x K,V=>et q x K V
 |.es a9 W K,V=>CY q a9 W K V
 |.t x K,V=>lR q x K V
 |.ts a W K,V=>aAy q a W K V
 |.s x K,V=>fO q x K V
 |.ss W K,V=>aAz q W K V
def pz(b:Bool)(P Q:Prop):Prop:=@Bool.rec (λO=>Prop) Q P b
def pk(b:Bool)(P Q:Prop):Prop:=@Bool.rec (λO=>Prop) Q P b
def oN(o:Option α)(P:Prop)(f:α->Prop):Prop:=@Option.rec α (λO=>Prop) P f o
set_option backward.match.sparseCases false
def GG:AV->Bool
 |.any=>Wx
 |_=>Ww
def Da(x:Str)(a9:Pos)(K:AV->St->Prop)(V:St):Prop:=oN (lk x V.loc) (oN (lk x q.G) (et q (.Name x a9) K V) λv=>K v V) λv=>pz (GG v && !cK x Wt) (K v V) (et q (.Name x a9) K V)
def fU(v u:AV)(d:Prop)(f:Int->Int->Prop):Prop:=match v with
 |.int a=>(match u with
  |.int b=>f a b
  |_=>d)
 |_=>d
def ye(v u:AV)(d:Prop)(f:Str->Str->Prop):Prop:=match v with
 |.str a=>(match u with
  |.str b=>f a b
  |_=>d)
 |_=>d
def AW(u:AV):Bool:=match u with
 |.none=>Ww
 |_=>Wx
def Dd(op:Operator)(v u:AV)(K:AV->St->Prop)(V:St):Prop:=match op with
 |.Add=>fU v u (b2 q (Ph .Add) v u K V) λa b=>K (.int (a+b)) V
 |.Sub=>fU v u (b2 q (Ph .Sub) v u K V) λa b=>K (.int (a-b)) V
 |op=>b2 q (Ph op) v u K V
def Db(op:Operator)(v u:AV)(K:AV->St->Prop)(V:St):Prop:=match op with
 |.Add=>fU v u (b2 q (Sy .Add) v u K V) λa b=>K (.int (a+b)) V
 |.Sub=>fU v u (b2 q (Sy .Sub) v u K V) λa b=>K (.int (a-b)) V
 |op=>b2 q (Sy op) v u K V
def xV(op:CmpOp)(v u:AV)(K:AV->St->Prop)(V:St):Prop:=match op with
 |.Eq=>fU v u (ye v u (b2 q (NE .Eq) v u K V) λa b=>K (.bool (a==b)) V) λa b=>K (.bool (a==b)) V
 |.NotEq=>fU v u (ye v u (b2 q (NE .NotEq) v u K V) λa b=>K (.bool (a != b)) V) λa b=>K (.bool (a != b)) V
 |.Lt=>fU v u (b2 q (NE .Lt) v u K V) λa b=>K (.bool (decide (a<b))) V
 |.Gt=>fU v u (b2 q (NE .Gt) v u K V) λa b=>K (.bool (decide (b<a))) V
 |.LtE=>fU v u (b2 q (NE .LtE) v u K V) λa b=>K (.bool (decide (a<=b))) V
 |.GtE=>fU v u (b2 q (NE .GtE) v u K V) λa b=>K (.bool (decide (b<=a))) V
 |.Is=>pz (AW u&&v.isNone.isSome) (K (.bool (v.isNone.getD Wx)) V) (b2 q (NE .Is) v u K V)
 |.IsNot=>pz (AW u&&v.isNone.isSome) (K (.bool (!v.isNone.getD Wx)) V) (b2 q (NE .IsNot) v u K V)
 |op=>b2 q (NE op) v u K V
def sF(v:AV)(K:Bool->St->Prop)(V:St):Prop:=match v with
 |.bool b=>K b V
 |.int i=>K (i != 0) V
 |.none=>K Wx V
 |v=>ax (F1 q.w q.A q.B q.e aM truthy v V K)
def aEL(o:AV):Bool:=match o with
 |.lst _ |.tup _ |.str _=>Ww
 |_=>Wx
def CZ(o k:AV)(K:AV->St->Prop)(V:St):Prop:=pz (aEL o) (b2 q QN o k K V) (XI q.B o V.led/\b2 q QN o k K V)
def HB:AV->Bool
 |.typ _ |.blt _ |.bm _ _=>Ww
 |.ref f=>q.F.any λg=>Nat.beq f g
 |_=>Wx
def wm(e:Expr):Bool:=swappedStores.match_5 (λO=>Bool) e (λO O=>Ww) λO=>Wx
def nR(e:Expr):Bool := !wm e
def Ay:Expr->Bool
 |.Call .. => Wx
 |_=>Ww
def Gs:Expr->Bool
 |.Name .. |.Constant .. |.BinOp .. |.UnaryOp .. |.Subscript .. => Ww
 |_=>Wx
def vS:Expr->Bool
 |.ListComp .. |.SetComp .. |.DictComp .. => Wx
 |_=>Ww
def aAB(c:Const)(K:AV->St->Prop)(V:St)(a:Prop):Prop:=match c with
 |.int i=>K (.int i) V
 |.str x=>K (.str x) V
 |.none=>K .none V
 |.bool b=>K (.bool b) V
 |_=>a
set_option genCtorIdx false in set_option genInjectivity false in set_option genSizeOf false in
inductive Vw where
 |name (x:Str) (p:Pos) |attr (e:Expr) (n:Str) (p:Pos) |tup (W:List Expr) (n:Nat) (p:Pos) |num (i:Int) (k:Nat) (p:Pos) |no
def Vw.ctorIdx(x:Vw):Nat:=by cases x;exact 0;exact 1;exact 2;exact 3;exact 4
def vw(e:Expr):Vw:=match e with
 |.Name x p => .name x p
 |.Attribute e n p => .attr e n p
 |.Tuple W n p => .tup W n p
 |.Constant (.int i) k p => .num i k p
 |_ => .no
def Vw.pick{α:Sort _}(v:Vw)(d:α)(f:Str->Pos->α)(g:Expr->Str->Pos->α)(h:List Expr->Nat->Pos->α)(k:Int->Nat->Pos->α):α:=@Vw.rec (λO=>α) f g h k d v
def sG(e:Expr):(vw e).pick True (λx p=>e=.Name x p) (λo n p=>e=.Attribute o n p) (λW n p=>e=.Tuple W n p) (λi k p=>e=.Constant (.int i) k p):=by
 cases e with
 |Name=>rfl
 |Attribute=>rfl
 |Tuple=>rfl
 |Constant c k p=>cases c <;> first |rfl |trivial
 |_=>trivial
def AC(x:Expr):Option Int:=(vw x).pick Wv (λO O=>Wv) (λO O O=>Wv) (λO O O=>Wv) λi O O=>Wu i
def aEP(o:UnaryOp):Bool:=match o with
 |.USub=>Ww
 |_=>Wx
def aER(o:UnaryOp):Bool:=match o with
 |.Not=>Ww
 |_=>Wx
def one(l:List α):Option α:=match l with
 | []=>Wv
 |x::r=>(match r with
  | []=>Wu x
  |_::_=>Wv)
def cD(x:Expr):Option Str:=(vw x).pick Wv (λn O=>Wu n) (λO O O=>Wv) (λO O O=>Wv) λO O O=>Wv
def AG(x:Expr):Option (Expr×Str×Pos):=(vw x).pick Wv (λO O=>Wv) (λo n p=>Wu (o,n,p)) (λO O O=>Wv) λO O O=>Wv
def mk(x:Str)(l:List Bi):Option Bi:=@List.rec _ (λO=>Option Bi) Wv (λp O a=>@Bool.rec (λO=>Option Bi) a (Wu p) (cK x p.name)) l
def HD(v:AV)(k:Nat):Bool:=match v with
 |.str _=>Nat.beq k 0
 |.lst _=>Nat.beq k 1
 |_=>Wx
def Dc(d:Sm->St->Prop)(f:Expr)(args:List Expr)(a9:Pos)(K:AV->St->Prop)(V:St)(j:Prop):Prop:=oN (AG f) (pz (cD f).isSome (d (.e f λi c5=>pz (HB q i&&args.all nR) (d (.es a9 args λvs a=>ax (FC q.w q.A q.B q.e i vs [] a K)) c5) (ax (CA q.w q.A q.B q.e a9 i [] args c5 K))) V) j) λm=>oN (mk m.2.1 q.M) j λt =>
  pz (Nat.ble args.length 25&&(args.all nR&&(Nat.beq m.2.2.endLine a9.line&&Ay m.1))) (d (.e m.1 λv c5=>pz (HD v t.kind) (d (.es a9 args λvs a=>ax (FC q.w q.A q.B q.e (.blt t.id) (v::vs) [] a K)) c5) (eE q.B v c5.led (nY t.kind)/\d (.es a9 args λvs a=>ax (FC q.w q.A q.B q.e (.blt t.id) (v::vs) [] a K)) c5)) V) j
def DM(d:Sm->St->Prop)(x:Expr)(K:AV->St->Prop)(V:St):Prop:=match x with
 |.Constant c k p=>aAB c K V (et q (.Constant c k p) K V)
 |.Name x a9=>Da q x a9 K V
 |.Tuple W n a9=>d (.es a9 W λvs G=>pz (Nat.ble vs.length 50) (K (.tup vs) G) False) V
 |.BinOp l E r _=>d (.e l λv c5=>d (.e r λu y=>Dd q E v u K y) c5) V
 |.Compare l j z a9=>oN (one j) (et q (.Compare l j z a9) K V) λE=>oN (one z) (et q (.Compare l j z a9) K V) λr =>
   pz (Ry E r) (et q (.Compare l j z a9) K V) (d (.e l λv c5=>d (.e r λu y=>xV q E v u K y) c5) V)
 |.IfExp t a b _=>d (.t t λc c5=>pk c (d (.e a K) c5) (d (.e b K) c5)) V
 |.UnaryOp o x a9=>pz (aEP o) (oN (AC x) (et q (.UnaryOp o x a9) K V) λi=>K (.int (-i)) V) (et q (.UnaryOp o x a9) K V)
 |.Subscript v i a9=>pz (Gs i) (d (.e v λo c5=>d (.e i λk y=>CZ q o k K y) c5) V) (et q (.Subscript v i a9) K V)
 |.Call f args s a9=>pz s.isEmpty (Dc q d f args a9 K V (et q (.Call f args s a9) K V)) (et q (.Call f args s a9) K V)
 |.Attribute o n a9=>pz (Ay o) (d (.e o λv c5=>ax (F1 q.w q.A q.B q.e Val (λx=>QC x n Ww) v c5 K)) V) (et q (.Attribute o n a9) K V)
 |x=>et q x K V
def aBk(a:Sm->St->Prop)(a9:Pos)(W:List Expr)(K:List AV->St->Prop)(V:St):Prop:=match W with
 | []=>K [] V
 |x::W=>pz (nR x) (a (.e x λv c5=>a (.es a9 W λvs d=>K (v::vs) d) c5) V) (CY q a9 (x::W) K V)
def aBf(d:Sm->St->Prop)(x:Expr)(K:Bool->St->Prop)(V:St):Prop:=match x with
 |.UnaryOp o x a9=>pz (aER o) (d (.t x λb c5=>K (!b) c5) V) (lR q (.UnaryOp o x a9) K V)
 |.BoolOp j W _=>d (.ts j W K) V
 |.Compare l a i a9=>oN (one a) (lR q (.Compare l a i a9) K V) λj=>oN (one i) (lR q (.Compare l a i a9) K V) λr =>
   pz (Ry j r) (lR q (.Compare l a i a9) K V) (d (.e l λv c5=>d (.e r λu p=>xV q j v u (λc n=>sF q c K n) p) c5) V)
 |.Name x a9=>d (.e (.Name x a9) λv c5=>sF q v K c5) V
 |.Call f args k a9=>d (.e (.Call f args k a9) λv c5=>sF q v K c5) V
 |x=>lR q x K V
set_option backward.match.sparseCases true
def HE(o:BoolOp):Bool:=match o with
 |.And=>Ww
 |.Or=>Wx
def aBh(d:Sm->St->Prop)(a:BoolOp)(W:List Expr)(K:Bool->St->Prop)(V:St):Prop:=match W with
 | []=>K (HE a) V
 |x::W=>d (.t x λb c5=>pz (HE a) (pk b (d (.ts a W K) c5) (K Wx c5)) (pk b (K Ww c5) (d (.ts a W K) c5))) V
def aES(f:dr):Bool:=match f with
 |.next=>Ww
 |_=>Wx
def aBi(a:Sm->St->Prop)(W:List Stmt)(K:dr->St->Prop)(V:St):Prop:=match W with
 | []=>K .next V
 |x::W=>a (.s x λf c5=>pz (aES f) (a (.ss W K) c5) (K f c5)) V
def mh(vs:List Expr):Bool := !(vs.any wm)&&(!(vs.all (Vn 8)) && !(vs.all (UT 8)))
def ow(l:List α)(d:Prop)(f:α->List α->Prop):Prop:=@List.rec α (λO=>Prop) d (λa r O=>f a r) l
def AA(l:List α)(a P:Prop):Prop:=@List.rec α (λO=>Prop) P (λO O O=>a) l
def xX(l:List α)(d:Prop)(f:α->α->Prop):Prop:=ow l d λa r=>ow r d λb r=>AA r d (f a b)
def ya(l:List α)(d:Prop)(f:α->α->α->Prop):Prop:=ow l d λa r=>ow r d λb r=>ow r d λc r=>AA r d (f a b c)
def rI{l:List α}{d P:Prop}(h:ow l d f)(i:d->P)(e:∀a r,l=a::r->f a r->P):P:=by
 cases l with
 |nil=>exact i h
 |cons a r=>exact e a r rfl h
def GP{l:List α}{d P Q:Prop}(h:AA l d P)(i:d->Q)(e:l=[]->P->Q):Q:=by
 cases l with
 |nil=>exact e rfl h
 |cons a r=>exact i h
def Di{l:List α}{i P:Prop}(h:xX l i f)(d:i->P)(j:∀a b,l=[a,b]->f a b->P):P:=rI h d λa O e h=>rI h d λb O n h=>GP h d λk h=>j a b (by simp only[e,n,k]) h
def Du{l:List α}{i P:Prop}(h:ya l i f)(d:i->P)(j:∀a b c,l=[a,b,c]->f a b c->P):P:=rI h d λa O e h=>rI h d λb O o h=>rI h d λc O k h=>GP h d λn h=>j a b c (by simp only[e,o,k,n]) h
def DB(j:Sm->St->Prop)(e d:Expr)(a9:Pos)(vs:List Expr)(K:dr->St->Prop)(V:St)(a:Prop):Prop:=oN (cD e) a λx=>oN (cD d) a λy=>pz (Nat.beq vs.length 2&&(mh vs&&(Nat.beq e.pos.line d.pos.line&&(!cK x y&&((lk x V.loc).isSome&&(lk y V.loc).isSome)))))
  (j (.es a9 vs λi c5=>xX i False λu v=>pz ((lk x c5.loc).isSome&&(lk y c5.loc).isSome) (K .next ⟨sk x u (sk y v c5.loc),c5.led⟩) False) V) a
def DA(k:Sm->St->Prop)(d i e:Expr)(a9:Pos)(vs:List Expr)(K:dr->St->Prop)(V:St)(a:Prop):Prop:=oN (cD d) a λx=>oN (cD i) a λy=>oN (cD e) a λz=>pz (Nat.beq vs.length 3&&(mh vs&&(Nat.beq d.pos.line i.pos.line&&(Nat.beq d.pos.line e.pos.line&&(!cK x y&&(!cK x z&&(!cK y z&&((lk x V.loc).isSome&&((lk y V.loc).isSome&&(lk z V.loc).isSome)))))))))
  (k (.es a9 vs λj c5=>ya j False λu v r=>pz ((lk x c5.loc).isSome&&((lk y c5.loc).isSome&&(lk z c5.loc).isSome)) (K .next ⟨sk x u (sk y v (sk z r c5.loc)),c5.led⟩) False) V) a
def sH(x:Expr):Option (List Expr×Nat×Pos):=(vw x).pick Wv (λO O=>Wv) (λO O O=>Wv) (λW n p=>Wu (W,n,p)) λO O O=>Wv
def DR(W:List Str):List AV->List (Str×AV)->List (Str×AV):=@List.rec _ (λO=>List AV->List (Str×AV)->List (Str×AV)) (λO l=>l) (λx O a vs l=>@List.rec _ (λO=>List (Str×AV)) l (λv r O=>a r (sk x v l)) vs) W
def aH1(d:Sm->St->Prop)(ts:List Expr)(a9:Pos)(vs:List Expr)(K:dr->St->Prop)(V:St)(e:Prop):Prop:=pz (Nat.ble 4 ts.length&&Nat.beq (ts.filterMap cD).length ts.length)
  (d (.es a9 vs λa c5=>pz (Nat.ble a.length 50&&(Nat.beq a.length ts.length&&(ts.filterMap cD).all λx=>(lk x c5.loc).isSome)) (K .next ⟨DR (ts.filterMap cD) a c5.loc,c5.led⟩) False) V) e
def Dz(e:Sm->St->Prop)(ts:List Expr)(a9:Pos)(vs:List Expr)(K:dr->St->Prop)(V:St)(i:Prop):Prop:=xX ts (ya ts (aH1 e ts a9 vs K V i) λd a j=>DA e d a j a9 vs K V i) λd a=>DB e d a a9 vs K V i
set_option backward.match.sparseCases false in
def DL(d:Sm->St->Prop)(x:Stmt)(K:dr->St->Prop)(V:St):Prop:=match x with
 |.If t a b _=>d (.t t λc c5=>pk c (d (.ss a K) c5) (d (.ss b K) c5)) V
 |.Return e _=>oN e (K (.ret .none) V) λe=>d (.e e λv c5=>K (.ret v) c5) V
 |.Pass _=>K .next V
 |.Break _=>K .brk V
 |.Continue _=>K .cont V
 |.Expr e a9=>pz (vS e) (d (.e e λO c5=>K .next c5) V) (fO q (.Expr e a9) K V)
 |.Assign i e a9=>oN (one i) (fO q (.Assign i e a9) K V) λt=>oN (cD t) (oN (sH t) (fO q (.Assign i e a9) K V) λa=>oN (sH e) (fO q (.Assign i e a9) K V) λb=>Dz d a.1 b.2.2 b.1 K V (fO q (.Assign i e a9) K V)) λx =>
   pz (vS e&&(lk x V.loc).isSome) (d (.e e λv c5=>pz (lk x c5.loc).isSome (K .next ⟨sk x v c5.loc,c5.led⟩) False) V) (fO q (.Assign i e a9) K V)
 |.AugAssign t j e a9=>oN (cD t) (fO q (.AugAssign t j e a9) K V) λx=>oN (lk x V.loc) (fO q (.AugAssign t j e a9) K V) λv=>pz (GG v)
   (d (.e e λu c5=>Db q j v u (λr k=>pz (lk x k.loc).isSome (K .next ⟨sk x r k.loc,k.led⟩) False) c5) V) (fO q (.AugAssign t j e a9) K V)
 |x=>fO q x K V
def step(a:Sm->St->Prop)(c:Sm)(V:St):Prop:=match c with
 |.e x K=>DM q a x K V
 |.es a9 W K=>aBk q a a9 W K V
 |.t x K=>aBf q a x K V
 |.ts d W K=>aBh a d W K V
 |.s x K=>DL q a x K V
 |.ss W K=>aBi a W K V
def wp:Nat->Sm->St->Prop
 |0=>sV q
 |n+1=>step q (wp n)
end
section
variable{D:Ctx}
def bY{b:Bool}{P Q R:Prop}(h:pk b P Q)(d:b=Ww->P->R)(a:b=Wx->Q->R):R:=by
 cases b with
 |true=>exact d rfl h
 |false=>exact a rfl h
def cA{b:Bool}{P Q:Prop}(d:b=Ww->P)(a:b=Wx->Q):pk b P Q:=by
 cases b with
 |true=>exact d rfl
 |false=>exact a rfl
def cU{o:Option α}{P R:Prop}(h:oN o P f)(d:P->R)(a:∀x,o=Wu x->f x->R):R:=by
 cases o with
 |none=>exact d h
 |some x=>exact a x rfl h
structure ve (D:Ctx):Prop where
 glob:∀p∈D.G,bh D.B p.1 p.2/\D.e.kindOf p.1=Wu .globalImplicit/\cK p.1 Wt=Wx
 gl:D.e.globals=ML
 bu:D.e.builtins=Nt
 kept:∀f∈D.F,eH D.w D.B (.ref f)
 act:PV D.e=Wx
 blk:D.e.blockKind=.function
 hh:D.A.handled=Wv
 meth:∀m∈D.M,Rq (nY m.kind)/\Slot (nY m.kind) m.name m.id/\Qw (.builtin m.id)=Nb (.type "method_descriptor")
def ve.g(h:ve ⟨w,A,B,z,G,F,M⟩)(j:bh B x v)(i:z.kindOf x=Wu .globalImplicit)(d:cK x Wt=Wx):ve ⟨w,A,B,z,(x,v)::G,F,M⟩:={ h with glob:=λp a=>(KZ.mp a).elim (λe=>by subst e;exact⟨j,i,d⟩) (h.glob p)}
def ve.f{F:List LP}{M:List Bi}(h:ve ⟨w,A,B,z,G,F,M⟩){f:LP}(d:eH w B (.ref f)):ve ⟨w,A,B,z,G,f::F,M⟩:={ h with kept:=λp a=>(KZ.mp a).elim (λe=>by subst e;exact d) (h.kept p)}
def ve.m(h:ve ⟨w,A,B,z,G,F,M⟩)(m:Bi)(j:Rq (nY m.kind))(i:Slot (nY m.kind) m.name m.id)(d:Qw (.builtin m.id)=Nb (.type "method_descriptor")):ve ⟨w,A,B,z,G,F,m::M⟩:={ h with meth:=λp a=>(KZ.mp a).elim (λe=>by subst e;exact⟨j,i,d⟩) (h.meth p)}
def dY(j:z.globals=ML)(i:z.builtins=Nt)(e:PV z=Wx)(d:z.blockKind=.function)(a:A.handled=Wv):ve ⟨w,A,B,z,[],[],[]⟩:={ glob:=λO h=>(gw h),gl:=j,bu:=i,kept:=λO h=>(gw h),act:=e,blk:=d,hh:=a,meth:=λO h=>(gw h)}
def Ht:∀ {l:List (Str×AV)},lk x l=Wu v->(x,v)∈l
 | [],h=>by cases h
 |(y,u)::l,h=>by
  have a:@Bool.rec (λO=>Option AV) (lk x l) (Wu u) (cK x y)=Wu v:=h;cases d:cK x y with
  |true =>
   rw[d] at a;obtain rfl:=wA.mp d;obtain rfl:u=v:=No a;exact KJ ..
  |false =>
   rw[d] at a;exact KP _ (Ht a)
def AF:∀ {l:List Bi},mk x l=Wu m->m∈l/\m.name=x
 | [],h=>by cases h
 |y::l,h=>by
  have a:@Bool.rec (λO=>Option Bi) (mk x l) (Wu y) (cK x y.name)=Wu m:=h;cases d:cK x y.name with
  |true =>
   rw[d] at a;obtain rfl:y=m:=No a;exact⟨KJ ..,(wA.mp d).symm⟩
  |false =>
   rw[d] at a;exact⟨KP _ (AF a).1,(AF a).2⟩
def aDm(g:ve D)(h:Da D x a9 K V):T D.w D.A D.B D.e Val (ME (.Name x a9) D.e) V K:=cU h (λh=>cU h f1 λv e h=>by
  exact jI (g.glob _ (Ht e)) λk j i=>oC k j g.gl g.bu (by rw[wB];exact i) h) λv e h=>bY h (λa d=>by
  rw[Mv,PP] at a;refine lE (by rw[<-kW];exact e) d (by rw[wB];exact a.2) ?_;cases v <;> first |rfl |exact(LZ a.1).elim) λO=>f1
def gz{e:Prop}{R:Prop}(h:fU v u e f)(d:e->R)(i:∀a b,v=.int a->u=.int b->f a b->R):R:=by
 cases v with
 |int a=>cases u with
  |int b=>exact i a b rfl rfl h
  |_=>exact d h
 |_=>exact d h
def DO{e:Prop}{R:Prop}(h:ye v u e f)(d:e->R)(i:∀a b,v=.str a->u=.str b->f a b->R):R:=by
 cases v with
 |str a=>cases u with
  |str b=>exact i a b rfl rfl h
  |_=>exact d h
 |_=>exact d h
def aHW(h:Dd D c v u K V):F2 D.w D.A D.B D.e Val (Ph c) v u V K:=by
 cases c with
 |Add=>exact gz h f1 λa b i d k=>by exact(Eq.symm (i))▸(Eq.symm (d))▸aKa k
 |Sub=>exact gz h f1 λa b i d k=>by exact(Eq.symm (i))▸(Eq.symm (d))▸aJU k
 |_=>exact f1 h
def aE2(h:Db D c v u K V):F2 D.w D.A D.B D.e Val (Sy c) v u V K:=by
 cases c with
 |Add=>exact gz h f1 λa b i d k=>by exact(Eq.symm (i))▸(Eq.symm (d))▸aJ2 k
 |Sub=>exact gz h f1 λa b i d k=>by exact(Eq.symm (i))▸(Eq.symm (d))▸aJ0 k
 |_=>exact f1 h
def GM(h:AW u=Ww):u=.none:=by
 cases u <;> first |rfl |exact(LZ h).elim
def IS(h:xV D c v u K V):F2 D.w D.A D.B D.e Val (NE c) v u V K:=by
 cases c with
 |Eq=>exact gz h (λh=>DO h f1 λa b i d k=>by exact(Eq.symm (i))▸(Eq.symm (d))▸CD k) λa b i d k=>by exact(Eq.symm (i))▸(Eq.symm (d))▸aJ8 k
 |NotEq=>exact gz h (λh=>DO h f1 λa b i d k=>by exact(Eq.symm (i))▸(Eq.symm (d))▸aJV k) λa b i d k=>by exact(Eq.symm (i))▸(Eq.symm (d))▸aJW k
 |Lt=>exact gz h f1 λa b i d k=>by exact(Eq.symm (i))▸(Eq.symm (d))▸aJX k
 |Gt=>exact gz h f1 λa b i d k=>by exact(Eq.symm (i))▸(Eq.symm (d))▸aJ4 k
 |LtE=>exact gz h f1 λa b i d k=>by exact(Eq.symm (i))▸(Eq.symm (d))▸aJY k
 |GtE=>exact gz h f1 λa b i d k=>by exact(Eq.symm (i))▸(Eq.symm (d))▸aJ5 k
 |Is =>
  refine bY h (λj k=>?_) λO=>f1;rw[Mv] at j;refine al (Pt.mp j.2) λq l=>?_;rw[GM j.1];rw[l] at k;exact lJ l k
 |IsNot =>
  refine bY h (λj k=>?_) λO=>f1;rw[Mv] at j;refine al (Pt.mp j.2) λq l=>?_;rw[GM j.1];rw[l] at k;exact aJ1 l k
 |_=>exact f1 h
def xY{K:Bool->St->Prop}(h:sF D v K V):F1 D.w D.A D.B D.e aM truthy v V K:=by
 cases v with
 |bool b=>exact gK h
 |int i=>exact aKe h
 |none=>exact aKd h
 |_=>exact f1 h
def aA5{o k:AV}(h:CZ D o k K V):XI D.B o V.led/\F2 D.w D.A D.B D.e Val QN o k V K:=by
 refine bY h (λa h=>?_) λO h=>⟨h.1,h.2.out⟩;cases o with
 |lst _=>exact⟨.mk Ps Dh,h.out⟩
 |tup _=>exact⟨.mk F.slot_tuple_getitem.lookup aAI,h.out⟩
 |str _=>exact⟨.mk F.slot_str_getitem.lookup oL,h.out⟩
 |_=>exact(LZ a).elim
def DK{x:Expr}{W:List Expr}(h:nR x=Ww):Mh (x::W) D.e=(Wx,ME x D.e)::Mh W D.e:=by
 cases x <;> first |rfl |exact(LZ h).elim
def Ja{o:Expr}{n:Str}(h:Ay o=Ww):QM o n D.e (ME o D.e)=ME o D.e:=by
 cases o <;> first |rfl |exact(LZ h).elim
def oP(a9:Pos):∀ {W:List Expr},W.all nR=Ww->((NF a9 (Mh W D.e)).all λx => !x.1)=Ww
 | [],_=>rfl
 |x::W,h=>by
  simp only[SW,Mv] at h;rw[DK h.1];show (!Wx&&((NF a9 (Mh W D.e)).all λx => !x.1))=Ww;rw[oP a9 h.2];rfl
def aEG(g:ve D)(h:HB D f=Ww):eH D.w D.B f:=by
 cases f with
 |typ n=>exact wf
 |blt n=>exact ic
 |bm i s=>exact aEI
 |ref a =>
  refine ag (Se.mp h) λb d e=>?_;obtain rfl:=Nat.eq_of_beq_eq_true e;exact g.kept _ d
 |_=>exact(LZ h).elim
def BD{e:Expr}(h:vS e=Ww):Sx e t n D.e=Nb Wx:=by
 cases e <;> first |rfl |exact(LZ h).elim
def aCn{e:Expr}(h:Gs e=Ww):∀o i,subscripted e Wx o i=operate [o,i] (QN o i):=by
 cases e <;> first |(intro _ _;rfl) |exact(LZ h).elim
def T.up{K:α->St->Prop}(h:T w A B z b t V K)(k:∀v s,K v s->K' v s):T w A B z b t V K':=h.mono k
def aW{V:St}{K:St->Prop}(d:(lk x V.loc).isSome=Ww)(h:K ⟨sk x v V.loc,V.led⟩):F1 w A B z aQ (Ok z x) v V λO s=>K s:=λs Z u H S Q E e=>by
 exact al (Pt.mp d) λq a=>oH (S.kinds x q (by rw[<-kW];exact a)) (yl ..).symm h s Z u H S Q E e
def F2.up2(h:F2 w A B z Val f v u V K)(k:∀v s,K v s->K' v s):F2 w A B z Val f v u V K':=λs Z e d p o S Q E l=>h s Z e d p o S Q E λv x i n a j=>l v x i n a (k v a j)
def ml{l:List α}{x:α}(h:one l=Wu x):l=[x]:=by
 cases l with
 |nil=>cases h
 |cons y r=>cases r with
  |nil=>cases h;rfl
  |cons z r=>cases h
def gW{x:Expr}{n:Str}(h:cD x=Wu n):∃p,x=.Name n p:=by
 have q:=sG x;revert h;unfold cD;cases e:vw x <;> intro h <;> first |(rw[e] at q;cases h;exact⟨_,q⟩) |cases h
def aDj{x:Expr}{i:Int}(h:AC x=Wu i):∃k p,x=.Constant (.int i) k p:=by
 have q:=sG x;revert h;unfold AC;cases e:vw x <;> intro h <;> first |(rw[e] at q;cases h;exact Cp _ _ q) |cases h
def aDr{x:Expr}(h:AG x=Wu m):x=.Attribute m.1 m.2.1 m.2.2:=by
 have q:=sG x;revert h;unfold AG;cases e:vw x <;> intro h <;> first |(rw[e] at q;cases h;exact q) |cases h
def aEQ(h:HD v k=Ww):eE D.B v Y (nY k):=by
 cases v with
 |str x=>obtain rfl:=Nat.eq_of_beq_eq_true h;exact oL
 |lst x=>obtain rfl:=Nat.eq_of_beq_eq_true h;exact Dh
 |_=>exact(LZ h).elim
def aGm(a9:Pos){args:List Expr}(d:args.all nR=Ww)(a:args.length<=25):((NF a9 (Mh args D.e)).all (λx => !x.1)&&(QL a9 (PH [] D.e)).all (λx=>x.1.isSome)
   && decide (args.length+([]:List QE).length+(if ([]:List QE).isEmpty then 0 else 1)<30))=Ww:=by
 rw[oP a9 d];exact decide_eq_true (Ox a ⋯)
def xa(D:Ctx)(a:Sm->St->Prop):Prop:=∀ {x:Expr} {K:AV->St->Prop} {V:St},a (.e x K) V->T D.w D.A D.B D.e Val (ME x D.e) V K
def Cg(D:Ctx)(a:Sm->St->Prop):Prop:=∀ {x:Expr} {K:Bool->St->Prop} {V:St},a (.t x K) V->T D.w D.A D.B D.e aM (isTrue x D.e (ME x D.e)) V K
def JW(D:Ctx)(a:Sm->St->Prop):Prop:=∀ {x:List Stmt} {K:dr->St->Prop} {V:St},a (.ss x K) V->T D.w D.A D.B D.e fv (execs x D.e) V K
def lG(D:Ctx)(a:Sm->St->Prop):Prop:=∀ {a9:Pos} {x:List Expr} {K:List AV->St->Prop} {V:St},a (.es a9 x K) V->T D.w D.A D.B D.e Vals (spliced (NF a9 (Mh x D.e))) V K
def aHG(g:ve D)(j:xa D b)
  (i:lG D b)
       {l:Prop} (d:l->T D.w D.A D.B D.e Val (ME (.Call f args [] a9) D.e) V K) (h:Dc D b f args a9 K V l):T D.w D.A D.B D.e Val (ME (.Call f args [] a9) D.e) V K:=cU h (λh=>bY h (λa h=>by
  refine al (Pt.mp a) λn r=>?_;refine al (gW r) λp E=>?_;subst E;exact wX rfl ((j h).up λv s k=>bY k (λa k=>by
   rw[Mv] at a;exact dd (oP _ a.2) (aEG g a.1) ((i k).up λO O k=>k.out)) λO=>f1)) λO=>d) λm z h=>cU h d λt y h=>bY h (λa h=>by
  simp only[Mv,Mv,Mv] at a;refine aD (AF y) λx u=>jI (g.meth t x) λq1 q2 q3=>?_;rw[aDr z];rw[u] at q2;refine wV (Ja a.2.2.2) (aGm a9 a.2.1 (Mx a.1)) (beq_iff_eq.mpr (Nat.eq_of_beq_eq_true a.2.2.1)) q1 q2 q3 ((j h).up λv s k=>bY k (λo k=>⟨aEQ o,?_⟩) λO k=>⟨k.1,?_⟩)
  ·exact dd (oP _ a.2.1) ic ((i k).up λO O k=>k.out)
  ·exact dd (oP _ a.2.1) ic ((i k.2).up λO O k=>k.out)) λO=>d
def aBj(g:ve D)(d:xa D m)
  (y:lG D m)
  (J:Cg D m) {x:Expr}   (h:DM D m x K V):T D.w D.A D.B D.e Val (ME x D.e) V K:=by
 cases x with
 |Constant c k p=>cases c with
  |int i=>exact Jx h
  |str i=>exact BY h
  |none=>exact jB h
  |bool i=>exact aIN h
  |_=>exact f1 h
 |Name x a9=>exact aDm g h
 |Tuple W n a9=>exact wU ((y h).up λvs s k=>bY k (λj k=>⟨Mc (Mx j) ⋯,k⟩) λO k=>QU k)
 |BinOp l E r a9=>exact JK ((d h).up λv s k=>(d k).up λu s k=>aHW k)
 |Compare l z Z a9 =>
  exact cU h f1 λE R h=>cU h f1 λr Q h=>by
   obtain rfl:=ml R;obtain rfl:=ml Q;exact bY h (λO=>f1) λj h=>JF ((d h).up λv s k=>(d k).up λu s k=>IS k) j
 |IfExp t a b a9=>exact aIQ ((J h).up λc s k=>by cases c with |true=>exact d k |false=>exact d k)
 |UnaryOp o x a9=>cases o with
  |USub =>
   exact cU h f1 λi e h=>by
    refine oK (aDj e) λk p Y=>?_;subst Y;exact aIH h
  |_=>exact f1 h
 |Subscript v i a9=>exact bY h (λj h=>aIO (aCn j) ((d h).up λv s k=>(d k).up λu s k=>aA5 k)) λO=>f1
 |Attribute o n a9=>exact bY h (λj h=>wY (Ja j) ((d h).up λO O k=>k.out)) λO=>f1
 |Call f args G a9 =>
  refine bY h (λj h=>?_) λO=>f1;obtain rfl:=Qa.mp j;exact aHG g d y f1 h
 |_=>exact f1 h
def Dk{x:Expr}{a:List Expr×Nat×Pos}(h:sH x=Wu a):x=.Tuple a.1 a.2.1 a.2.2:=by
 have q:=sG x;revert h;unfold sH;cases e:vw x <;> intro h <;> first |(rw[e] at q;cases h;exact q) |cases h
def vV(h:(!cK x y)=Ww):x≠y:=λe=>by
 rw[wA.mpr e] at h;cases h
def yf{e:Expr}(h:vS e=Ww):Rw [t] e n D.e=Nb Wx:=BD h
def De{vs:List Expr}(h:mh vs=Ww):vs.any wm=Wx/\vs.all (Vn 8)=Wx/\vs.all (UT 8)=Wx:=by
 unfold mh at h;simp only[Mv,Mv] at h;exact⟨PP _ |>.mp h.1,PP _ |>.mp h.2.1,PP _ |>.mp h.2.2⟩
def vW(z:Env)(a:Nat)(e:Expr):Option Str:=swappedStores.match_8 (λO=>Option Str) e (λid a9=>if z.kindOf id==Wu .local&&a9.line==a then Wu id else Wv) λO=>Wv
def rf{p:Pos}{a:Nat}(hx:D.e.kindOf x=Wu .local)(e:p.line=a):vW D.e a (.Name x p)=Wu x:=if_pos (by simp only[hx,e,beq_self_eq_true,beq_self_eq_true];rfl)
def Az{b:Bool}(h:b=Wx) : ¬ b=Ww:=λe=>LZ (h.symm.trans e)
def Dy{ts vs:List Expr}{d a:Nat}(h0 : ¬ (!(ts.length==2||ts.length==3)||vs.length != ts.length||D.e.blockKind != .function)=Ww)(l:vs.any wm=Wx)
  (k:vs.all (Vn 8)=Wx) (j:vs.all (UT 8)=Wx) (e:ts.filterMap (vW D.e ((ts.head?.map (·.pos.line)).getD 0))=names)
  (i : ¬ (names.length != ts.length||names.eraseDups.length != names.length)=Ww):Qb [.Tuple ts d c] (.Tuple vs a b) D.e=Nb (Wu names):=by
 subst e;exact(if_neg h0).trans ((if_neg (Az l)).trans ((if_neg i).trans ((if_neg (Az k)).trans (if_neg (Az j)))))
def aGR(h:x≠y):[x,y].eraseDups.length=2:=by
 have e:(y==x)=Wx:=beq_eq_false_iff_ne.mpr h.symm;rw[SU,Qq,e];rfl
def aGQ(h:x≠y)(d:x≠C)(a:y≠C):[x,y,C].eraseDups.length=3:=by
 have e:(y==x)=Wx:=beq_eq_false_iff_ne.mpr h.symm;have j:(C==x)=Wx:=beq_eq_false_iff_ne.mpr d.symm;have i:(C==y)=Wx:=beq_eq_false_iff_ne.mpr a.symm;simp only[SU,Qq,e,Qq,j];show (x::[y,C].eraseDups).length=3;rw[SU,Qq,i];rfl
def aA1{a i:Pos}{l k:Nat}{vs:List Expr}(r:D.e.blockKind=.function)(hx:D.e.kindOf x=Wu .local)(n:D.e.kindOf y=Wu .local)(p:a.line=i.line)(j:x≠y)(d:vs.length=2)
  (o:mh vs=Ww):Qb [.Tuple [.Name x a,.Name y i] l c] (.Tuple vs k b) D.e=Nb (Wu [x,y]):=by
 obtain⟨v,u,s⟩:=De o;have e:[Expr.Name x a,.Name y i].filterMap (vW D.e a.line)=[x,y]:=by
  rw[Pj (rf hx rfl),Pj (rf n p.symm)];rfl
 exact Dy (ts:=[.Name x a,.Name y i]) (by exact(Eq.symm (d))▸(Eq.symm (r))▸LZ) v u s e (by exact(Eq.symm (aGR j))▸LZ)
def aA0{a k pz:Pos}{p o:Nat}{vs:List Expr}(v:D.e.blockKind=.function)(hx:D.e.kindOf x=Wu .local)(r:D.e.kindOf y=Wu .local)(hz:D.e.kindOf C=Wu .local)(u:a.line=k.line)(n:a.line=pz.line)(l:x≠y)(i:x≠C)(d:y≠C)(j:vs.length=3)
  (s:mh vs=Ww):Qb [.Tuple [.Name x a,.Name y k,.Name C pz] p c] (.Tuple vs o b) D.e=Nb (Wu [x,y,C]):=by
 obtain⟨G,E,z⟩:=De s;have e:[Expr.Name x a,.Name y k,.Name C pz].filterMap (vW D.e a.line)=[x,y,C]:=by
  rw[Pj (rf hx rfl),Pj (rf r u.symm),Pj (rf hz n.symm)];rfl
 exact Dy (ts:=[.Name x a,.Name y k,.Name C pz]) (by exact(Eq.symm (j))▸(Eq.symm (v))▸LZ) G E z e (by exact(Eq.symm (aGQ l i d))▸LZ)
def oR(h:(lk x l).isSome=Ww):(lk x (sk y v l)).isSome=Ww:=by
 simp only[kW,yl,jp];rw[kW] at h;split
 ·rfl
 ·exact h
def Im(h:((t::ts).filterMap cD).length=(t::ts).length):∃x p,t=.Name x p/\(ts.filterMap cD).length=ts.length/\(t::ts).filterMap cD=x::ts.filterMap cD:=by
 cases e:cD t with
 |none =>
  rw[Ux e,La] at h
  have:=List.length_filterMap_le cD ts;omega
 |some x =>
  refine al (gW e) λp a=>?_;subst a;rw[Pj e] at h ⊢;exact Kg x p rfl (by simpa using h) rfl
def aH0(ts:List Expr):(ts.filterMap cD).length=ts.length->((MV ts z).map (·.2)=ts.map (λe=>MM e z)/\(MV ts z).findIdx? (·.1)=Wv)/\True:=by
 induction ts with
 |nil=>exact λO=>⟨⟨rfl,rfl⟩,trivial⟩
 |cons t ts a =>
  intro h;refine bA (Im h) λx p k j O=>?_;subst k;refine aD (a j) λl O=>?_;obtain⟨i,d⟩:=l;refine⟨⟨?_,?_⟩,trivial⟩
  ·show MM (.Name x p) z::(MV ts z).map (·.2)=_;rw[i];rfl
  ·show ((Wx,MM (.Name x p) z)::MV ts z).findIdx? (·.1)=Wv;rw[List.findIdx?_cons,d];rfl
def em:∀(ts:List Expr),(ts.filterMap cD).length=ts.length->∀(us:List AV) (s:St),ts.length=us.length->((ts.filterMap cD).all λx=>(lk x s.loc).isSome)=Ww->∀ {K:St->Prop},K ⟨DR (ts.filterMap cD) us s.loc,s.led⟩->FT w A B z ts us s λO s=>K s:=by
 intro d;induction d with
 |nil =>
  intro _ us s e _ K k;cases us with
  |nil=>exact aJg k
  |cons _ _=>cases e
 |cons t ts i =>
  intro h us s e a K k;refine bA (Im h) λx p o n l=>?_;subst o;rw[l] at a k;cases us with
  |nil=>cases e
  |cons u us =>
   simp only[SW,Mv] at a;refine aJh (bQ (aW (K:=λs=>FT w A B z ts us s λO s=>K s) a.1 (i n us _ (Re e) ?_ k)));rw[LS] at a ⊢;exact λy j=>oR (a.2 y j)
def oO{W:List (Value->Sem Unit)}{vs:List AV}{V:St}{K:dr->St->Prop}(a:(lk x V.loc).isSome=Ww)(h:FA w A B z W vs ⟨sk x v V.loc,V.led⟩ λO s=>K .next s):FA w A B z (bindName z x::W) (v::vs) V λO s=>K .next s:=Ku (aKm (aW (K:=λs=>FA w A B z W vs s λO s=>K .next s) a h))
def rx(S:ff B z s Z V)(h:(lk x V.loc).isSome=Ww):z.kindOf x=Wu .local:=by
 obtain⟨u,a⟩:=Pt.mp h;exact S.kinds x u (by rw[<-kW];exact a)
def aA4(g:ve D)
  (p:lG D q)
   {vs:List Expr} {n l:Nat}  {K:dr->St->Prop}  {o:Prop} (d:o->T D.w D.A D.B D.e fv (exec (.Assign [.Tuple [c,b] n m] (.Tuple vs l f) a9) D.e) V K)
  (h:DB q c b f vs K V o):T D.w D.A D.B D.e fv (exec (.Assign [.Tuple [c,b] n m] (.Tuple vs l f) a9) D.e) V K:=cU h d λx j h=>cU h d λy i h=>bY h (λa r=>(gW j).elim λY j=>(gW i).elim λW i=>by
  subst j;subst i;simp only[Mv] at a;refine aKv a λQ b2 J G E z=>?_;clear a;exact λs Z S=>Jv g.hh (yf rfl) (aA1 g.blk (rx S E) (rx S z) (Nat.eq_of_beq_eq_true J) (vV G) (Nat.eq_of_beq_eq_true Q) b2) (wU ((p r).up λR s k=>Di k QU λu v e k=>by
   subst e;exact⟨(by decide:2<=LY),_,rfl,rfl,bY k (λa k=>by
    rw[Mv] at a;exact oO a.2 (oO (oR a.1) (CC k))) λO k=>QU k⟩)) s Z S) λO=>d
def aA3(g:ve D)
  (Q:lG D t)
   {vs:List Expr} {G E:Nat}  {K:dr->St->Prop}  {J:Prop} (i:J->T D.w D.A D.B D.e fv (exec (.Assign [.Tuple [f,c,b] G q] (.Tuple vs E m) a9) D.e) V K)
  (h:DA t f c b m vs K V J):T D.w D.A D.B D.e fv (exec (.Assign [.Tuple [f,c,b] G q] (.Tuple vs E m) a9) D.e) V K:=cU h i λx n h=>cU h i λy l h=>cU h i λz j h=>bY h (λa R=>(gW n).elim λP n=>(gW l).elim λN l=>(gW j).elim λpz j=>by
  subst n;subst l;subst j;simp only[Mv] at a;refine aKw a λL b2 H p F o d C Y W=>?_;clear a;exact λs Z S=>Jv g.hh (yf rfl) (aA0 g.blk (rx S C) (rx S Y) (rx S W) (Nat.eq_of_beq_eq_true H) (Nat.eq_of_beq_eq_true p) (vV F) (vV o) (vV d) (Nat.eq_of_beq_eq_true L) b2) (wU ((Q R).up λM s k=>Du k QU λu v r e k=>by
   subst e;exact⟨(by decide:3<=LY),_,rfl,rfl,bY k (λa k=>by
    simp only[Mv,Mv] at a;exact oO a.2.2 (oO (oR a.2.1) (oO (oR (oR a.1)) (CC k)))) λO k=>QU k⟩)) s Z S) λO=>i
def aDd{ts vs:List Expr}{d a:Nat}(h:4<=ts.length):Qb [.Tuple ts d c] (.Tuple vs a b) D.e=Nb Wv:=by
 have j:(ts.length==2)=Wx:=by rw[beq_eq_false_iff_ne];omega
 have i:(ts.length==3)=Wx:=by rw[beq_eq_false_iff_ne];omega
 exact if_pos (by rw[j,i];rfl)
def aA2(g:ve D)
  (j:lG D f)
  {vs:List Expr} {n l:Nat}  {K:dr->St->Prop}  {o:Prop} (i:o->T D.w D.A D.B D.e fv (exec (.Assign [.Tuple ts n c] (.Tuple vs l b) a9) D.e) V K)
  (h:Dz f ts b vs K V o):T D.w D.A D.B D.e fv (exec (.Assign [.Tuple ts n c] (.Tuple vs l b) a9) D.e) V K:=Di h (λh=>Du h (λh=>bY h (λd v=>by
  simp only[Mv] at d;refine eF (yf rfl) (aDd (Mx d.1)) rfl (wU ((j v).up λp s k=>bY k (λa k=>?_) λO k=>QU k));simp only[Mv,Mv] at a;have q:=(aH0 (z:=D.e) ts (Nat.eq_of_beq_eq_true d.2)).1;exact⟨Mc (Mx a.1) ⋯,gf g.hh q.1 (Nat.eq_of_beq_eq_true a.2.1).symm q.2 (em ts (Nat.eq_of_beq_eq_true d.2) p s (Nat.eq_of_beq_eq_true a.2.1).symm a.2.2 k)⟩) λO=>i) λu r x e h=>by subst e;exact aA3 g j i h) λu r e h=>by subst e;exact aA4 g j i h
def aBg(g:ve D)(j:xa D f)
  (y:Cg D f)
  (o:JW D f)
  (z:lG D f) {x:Stmt} {K:dr->St->Prop}  (h:DL D f x K V):T D.w D.A D.B D.e fv (exec x D.e) V K:=by
 cases x with
 |If t a b a9=>exact bV ((y h).up λc s k=>by cases c with |true=>exact o k |false=>exact o k)
 |Return e a9=>cases e with
  |none=>exact aIu h
  |some e=>exact jy (j h)
 |Pass a9=>exact aIv h
 |Break a9=>exact aIz h
 |Continue a9=>exact Ju h
 |Expr e a9=>exact bY h (λd h=>aIx g.act (BD d) (j h)) λO=>f1
 |Assign G e a9 =>
  exact cU h f1 λt l h=>cU h (λh=>cU h f1 λa i h=>cU h f1 λb E h=>by
   obtain rfl:=ml l;rw[Dk i,Dk E] at h ⊢;exact aA2 g z f1 h) λx i h=>by
   obtain rfl:=ml l;refine al (gW i) λp n=>?_;subst n;refine bY h (λd h=>?_) λO=>f1;rw[Mv] at d;exact ir ((j h).up λv s k=>bY k (λd k=>aW d k) λO k=>QU k) (BD d.1)
 |AugAssign t J e a9 =>
  exact cU h f1 λx l h=>cU h f1 λv i h=>by
   refine al (gW l) λp n=>?_;subst n;refine bY h (λd h=>?_) λO=>f1;refine aIA (v₀:=v) (by rw[<-kW];exact i) (by cases v <;> first |rfl |cases d) ((j h).up λu s k=>(aE2 k).up2 λr s k=>?_);exact bY k (λd k=>aW d k) λO k=>QU k
 |_=>exact f1 h
def aBd(g:ve D)(i:∀c V,ih c V->sV D c V)(c:Sm)(V:St)(h:step D ih c V):sV D c V:=by
 have d:xa D ih:=λh=>(i _ _ h).out;have y:lG D ih:=λh=>(i _ _ h).out;have j:Cg D ih:=λh=>(i _ _ h).out;have p:∀ {a:BoolOp} {x:List Expr} {K:Bool->St->Prop} {V:St},ih (.ts a x K) V->T D.w D.A D.B D.e aM (SG a x D.e) V K:=λh=>(i _ _ h).out;have J:∀ {x:Stmt} {K:dr->St->Prop} {V:St},ih (.s x K) V->T D.w D.A D.B D.e fv (exec x D.e) V K:=λh=>(i _ _ h).out;have z:JW D ih:=λh=>(i _ _ h).out;cases c with
 |e x K=>exact ax.mk (aBj g d y j h)
 |es a9 W K =>
  cases W with
  |nil=>exact ax.mk (iu h)
  |cons x W=>exact bY h (λn h=>ax.mk (wZ (DK n) ((d h).up λv s k=>y k))) λO h=>h
 |t x K =>
  refine ax.mk ?_;cases x with
  |UnaryOp o x a9=>cases o with
   |Not=>exact aI1 (j h)
   |_=>exact f1 h
  |BoolOp a W a9=>exact aI2 (p h)
  |Compare l E Y a9 =>
   exact cU h f1 λa R h=>cU h f1 λr Q h=>by
    obtain rfl:=ml R;obtain rfl:=ml Q;exact bY h (λO=>f1) λn h=>lF ((d h).up λv s k=>(d k).up λu s k=>(IS k).up2 λc s k=>xY k) n
  |Name x a9=>exact rR ((d h).up λv s k=>xY k) rfl
  |Call f args G a9=>exact rR ((d h).up λv s k=>xY k) rfl
  |_=>exact f1 h
 |ts a W K =>
  refine ax.mk ?_;cases W with
  |nil=>cases a with
   |And=>exact aI3 h
   |Or=>exact aIZ h
  |cons x W=>cases a with
   |And=>exact aI4 ((j h).up λc s k=>by cases c with |true=>exact p k |false=>exact k)
   |Or=>exact aI0 ((j h).up λc s k=>by cases c with |true=>exact k |false=>exact p k)
 |s x K=>exact ax.mk (aBg g d j z y h)
 |ss W K =>
  refine ax.mk ?_;cases W with
  |nil=>exact aK h
  |cons x W=>exact aw ((J h).up λf s k=>by cases f with |next=>exact z k |_=>exact k)
def lP(g:ve D):∀(n:Nat) (c:Sm) (V:St),wp D n c V->sV D c V
 |0,c,V,h=>h
 |n+1,c,V,h=>aBd g (lP g n) c V h
def bE(g:ve ⟨w,A,B,z,G,F,M⟩)(n:Nat){W:List Stmt}{K:dr->St->Prop}(h:wp ⟨w,A,B,z,G,F,M⟩ n (.ss W K) V):T w A B z fv (execs W z) V K:=(lP g n _ _ h).out
def aN(g:ve ⟨w,A,B,z,G,F,M⟩)(n:Nat){x:Stmt}{K:dr->St->Prop}(h:wp ⟨w,A,B,z,G,F,M⟩ n (.s x K) V):T w A B z fv (exec x z) V K:=(lP g n _ _ h).out
def ba(g:ve ⟨w,A,B,z,G,F,M⟩)(n:Nat){x:Stmt}{K:dr->St->Prop}(h:wp ⟨w,A,B,z,G,F,M⟩ n (.s x (lW w A B z rest K)) V):T w A B z fv (execs (x::rest) z) V K:=aw (aN g n h)
def aO(g:ve ⟨w,A,B,z,G,F,M⟩)(n:Nat){W:List Expr}{K:List AV->St->Prop}(h:wp ⟨w,A,B,z,G,F,M⟩ n (.es a9 W K) V):T w A B z Vals (spliced (NF a9 (Mh W z))) V K:=(lP g n _ _ h).out
def ae(g:ve ⟨w,A,B,z,G,F,M⟩)(n:Nat){x:Expr}(h:wp ⟨w,A,B,z,G,F,M⟩ n (.e x K) V):T w A B z Val (ME x z) V K:=(lP g n _ _ h).out
def aV(g:ve ⟨w,A,B,z,G,F,M⟩)(n:Nat){x:Expr}{K:Bool->St->Prop}(h:wp ⟨w,A,B,z,G,F,M⟩ n (.t x K) V):T w A B z aM (isTrue x z (ME x z)) V K:=(lP g n _ _ h).out
end
def bN{p:Prop}[Decidable p]{P Q:Prop}(d:p->P)(a : ¬ p->Q):pk (decide p) P Q:=cA (λh=>d (of_decide_eq_true h)) λh=>a (of_decide_eq_false h)
def aCo{P Q:Prop}(h:P):pk Ww P Q:=h
def gu{P Q:Prop}(h:Q):pk Wx P Q:=h
def gQ{a b:Int}{P Q:Prop}(e:a=b->P)(d:a≠b->Q):pk (a==b) P Q:=cA (λh=>e (beq_iff_eq.mp h)) λh=>d (beq_eq_false_iff_ne.mp h)
def Gw{a b:Int}{P Q:Prop}(e:a≠b->P)(d:a=b->Q):pk (a != b) P Q:=cA (λh=>e (bne_iff_ne.mp h)) λh=>d (bne_eq_false_iff_eq.mp h)
def Gv{i:Int}{P Q:Prop}(d:i=0->P)(a:i≠0->Q):pk (!(i != 0)) P Q:=by
 by_cases h:i=0
 ·subst h;exact d rfl
 ·exact(Eq.symm (bne_iff_ne.mpr h))▸a h
section
variable{K:Frag}{fd:Oi}{c q D C N M L H F:AV}
def Binds.of1(h:∀Z a,Val Z c a->∃bs,Mi K ⟨ab,w.params⟩ (Ra fd ⟨[a],[]⟩)=Wu bs/\eR Z f8 bs):Binds w A (am K) fd [c] [] f8:=Binds.pk λZ=>om λa d=>Zq (h Z a d)
def Binds.of2(h:∀Z d a,Val Z c d->Val Z q a->∃bs,Mi K ⟨ab,w.params⟩ (Ra fd ⟨[d,a],[]⟩)=Wu bs/\eR Z f8 bs):Binds w A (am K) fd [c,q] [] f8:=Binds.pk λZ=>om λd i=>om λa e=>Zq (h Z d a i e)
def Binds.of4(h:∀Z i e d a,Val Z c i->Val Z q e->Val Z D d->Val Z C a->∃bs,Mi K ⟨ab,w.params⟩ (Ra fd ⟨[i,e,d,a],[]⟩)=Wu bs/\eR Z f8 bs):Binds w A (am K) fd [c,q,D,C] [] f8:=Binds.pk λZ=>om λi n=>om λe l=>om λd k=>om λa j=>Zq (h Z i e d a n l k j)
end
def nZ{b:Bool}{P Q:Prop}(d:b=Ww->P)(a:b=Wx->Q):if b=Ww then P else Q:=by
 cases b with
 |true=>exact d rfl
 |false=>exact a rfl
def Nx.id:Nx (λP=>P V) .next V:=⟨rfl,V,m6 _,λO y=>y⟩
def JL(a6:Int->Int->Int->List (Str×AV))(a:aa)(X:Int->Int->Int->Nat->Prop)(n:Nat)(P:St->Prop):Prop:=∀i e d,X i e d n->P ⟨a6 i e d,a⟩
def JL.mk{a6:Int->Int->Int->List (Str×AV)}{ti tj tk:Int}(h:X ti tj tk n):Lw (JL a6 b X) n ⟨a6 ti tj tk,b⟩:=⟨_,m6 _,λO y=>y _ _ _ h⟩
def KL(a6:Int->Int->Int->List (Str×AV))(a:aa)(X:Int->Int->Int->Prop)(P:St->Prop):Prop:=∀i e d,X i e d->P ⟨a6 i e d,a⟩
def KL.mk{a6:Int->Int->Int->List (Str×AV)}{ti tj tk:Int}(h:X ti tj tk):Nx (KL a6 b X) .next ⟨a6 ti tj tk,b⟩:=⟨rfl,_,m6 _,λO y=>y _ _ _ h⟩
def T.joinW{K:dr->St->Prop}(C:(St->Prop)->Prop)(h:T w A B z fv t V (Nx C))(k:C λdi=>∃l',vi di.led l'/\K .next ⟨di.loc,l'⟩):T w A B z fv t V K:=T.weakPost (l7 (K:=λf di=>∃l',vi di.led l'/\K f ⟨di.loc,l'⟩) C h k) λO O O h=>h
def aJO{c_:Ov ab w Int}{m:List (Int×AV)}{dflt:AV}{k:Int}{V:St}(a:(d==Nl)=Wx)(j:∀Z x,Val Z v x->c_.is k x=Ww)(i:(d,aA c_ m)∈V.led)
  (e:(bo m k).getD dflt=u) (h:R u V):FC w A B z (.bm "dict.get" (.ref d)) [v,dflt] [] V R:=aJP a j i (e.symm▸h)
def aJA{k:Ln}{V:St}(a:(d==Nl)=Wx)(j:∀Z x,Val Z v x->(bZ ab w).is k x=Ww)(i:(d,aA (bZ ab w) m)∈V.led)
  (e:(bo m k).getD dflt=u) (h:R u V):FC w A B z (.blt "dict.get") [.ref d,v,dflt] [] V R:=aJB a j i (e.symm▸h)
def aJr(e:ys=W++[v])(U:Upd a (.list ys) (.list W) Y a8)(d6:W.length<LY)(h:K v ⟨a6,a8⟩):FC w A B z (.blt "list.pop") [.ref a] [] ⟨a6,Y⟩ K:=by subst e;exact aJs d6 U h
def lH(e:W++[v]=ys)(U:Upd a (.list W) (.list ys) Y a8)(d6:W.length<=LY)(h:K .none ⟨a6,a8⟩):FC w A B z (.blt "list.append") [.ref a,v] [] ⟨a6,Y⟩ K:=by subst e;exact CB d6 U h
def BR(f:α->AV)(C:List α->(St->Prop)->Prop){K:dr->St->Prop}(i:dt A k)
  (d:T w A B z Val (ME iter z) V λv fI=>F1 w A B z Val Pz v fI (Xs w B [] k (.Name x b) (Lo f C)))
  (step:∀gl a as,C (a::as) λdi=>(lk x di.loc).isSome=Ww/\T w A B z fv (execs c6 z) ⟨sk x (f a) di.loc,di.led++gl⟩ (tb (Lo f C) K (as.map f) gl))
  (done:C [] (K .next)) (e:∀x,NP iter z x=Nb x):T w A B z fv (exec (.For (.Name x b) iter c6 [] a9) z) V K:=Js f C (λO O O O h=>bQ (aW h.1 h.2)) i d step (λO O O => .nil) done e
def iA(h:TC w A B f args kw Y λv l=>l=nt/\v=v0)(k:K v0 ⟨a6,nt⟩):FC w A B z f args kw ⟨a6,Y⟩ K:=ge h λv l q=>q.1.symm▸q.2.symm▸k
def rY(h:TC w A B f args kw Y λv l=>v=v0/\l=nt)(k:K v0 ⟨a6,nt⟩):FC w A B z f args kw ⟨a6,Y⟩ K:=iA (h.mono λO O q=>q.symm) k
def T.bool{p:Prop}{K:Bool->St->Prop}(h:T w A B z aM t V λb s=>s=V/\(b=Ww↔p))(d:p->K Ww V)(a : ¬ p->K Wx V):T w A B z aM t V K:=h.mono λb s k=>by
  refine aD k ?_;clear k;intro e k;subst e;cases b with
  |true=>exact d (k.mp rfl)
  |false=>exact a λq=>Qs (k.mpr q)
def ca.fixZ{s0:KY}(S:ca B s Z Y)(k:s.heap.get? c=Wu o)(h0:s0.heap.get? c=Wv)(j:c∉keys Y)(l:Z c=Wv)(X:hO (aj Y) s0 Z s Z (aj Y)):ca B s (Z.add c o) Y/\hO (aj Y) s0 Z s (Z.add c o) (aj Y):=by
 have i:=m9 (o:=o) l;refine⟨⟨S.base.trans i,λa x e=>?_,S.nodup,λp d=>?_,λp d=>(S.own p d).mono i (λO e=>e) λO O O e=>e,S.gnodup,S.bare⟩,⟨i,X.kept,X.grow,λa x e=>?_,X.os,X.gkept,X.ggrow⟩⟩
 ·unfold m8 at e;split at e
  ·rename_i q;cases e;exact(Eq.symm (q))▸k
  ·exact S.frozen a x e
 ·unfold m8;exact(Eq.symm (if_neg fun(q:p.1=c)=>j (q▸Lv d)))▸S.apart p d
 ·unfold m8 at e;split at e
  ·rename_i q;exact .inr (.inr (q▸h0))
  ·exact .inl e
def aEb{k:Ln}{v:Value}(h:cP k v=Ww):v.scannable=Ww:=by
 rcases k with _ |_ |x
 ·rw[cO h];rfl
 ·obtain⟨t,rfl⟩:=OV h;rfl
 ·obtain⟨t,rfl⟩:=OW h;rfl
def aDy{x:Ln}{v:Value}(d:cP x v=Ww):MeetsIn ab w (Builtin.«frozenset.__contains__» ⟨[.ref a,v],[]⟩) (λO R s=>s.heap.SetOf (bZ ab w) a (λO=>Wx) 0/\R (.ok (.ret (.bool Wx))) {s with toks:=s.toks+1}):=.of_wp λA R s q=>by
  unfold Builtin.«frozenset.__contains__» Builtin.Frozenset.oneOther;simp only[List.isEmpty_nil,bind_assoc];unfold Builtin.Frozenset.addrOf Builtin.Frozenset.withSetAsKey setContains;refine KI (KN ?_);try dsimp only
  refine KI (KN ?_);try dsimp only
  have d:(bZ ab w).is x v=Ww:=d;refine KI (UL (Lh (KI ((bZ ab w).pyHash d (KI (wpAny_setFind_of (s:={ s with toks:=s.toks+1}) d (aEb d) q.1 λr e=>KN ?_))))));show LC _ _ (ret (Value.bool r.isSome)) _ _ _;exact(Eq.symm (e))▸KN ⟨_,rfl,q.2⟩
def xi{x:Ln}{V:St}(r:(a,ed)∈V.led)
  (h:R (.bool Wx) V):FC w A B z (.bm "set.__contains__" (.ref a)) [rr x] [] V R:=λs Z Y W K u d j S Q E y=>by
 cases j
 refine bA (Bd u) λO O n e p=>?_;subst n
 (have l:=p.inv;subst l)
 cases d with
 |cons G d =>
  (have l:=d.inv;subst l)
  obtain⟨o,i,J,rfl⟩:=S.own _ r;dsimp only at i;refine CX (T' := "set") (id := "set.__contains__") (S.frozen _ _ e) i rfl (λc e=>by cases e) (sig:=(Sv "set.__contains__").getD ⟨.positional, "", "",.self,[]⟩) @_ @_ (by rw[Mm];kernel_rfl) (by decide +kernel) @_ F.slot_set_contains entry_set_contains (aDy (rv G)) ⟨?_,?_⟩
  ·exact aJa _ (#[]) 0 _ i ⟨rfl,rfl,rfl⟩ rfl (λe v=>by simp at v) (λk=>by simp) ⋯ (by rfl) rfl
  ·exact y _ _ _ Z V h (S.toks _) (.bool Wx) (.toks _)
def aCw{x y:α}{l:List α}:(x::y::C::l).Perm (C::y::x::l):=(Qk [x,y] [C] l).trans (.cons C (.swap y x l))

def gk(w:Lz)(A:Lk)(fd:Oi)(L f c:LP)(e:PV (av fd L f c)=Wx)(d:(av fd L f c).blockKind=.function)(a:A.handled=Wv):ve ⟨w,A,af w,av fd L f c,[],[],[]⟩:=dY rfl rfl e d a
def iY:Rq "str" := F.plainAttrs_str
def sP:Slot "str" Ge "str.format" := by
 rw[show (Ge:Str)=KX "format" from by decide +kernel];exact F.slot_str_format_m
def BH{a:AV}:Binds w A (af w) (ak (ef w.params)) [a,b,m,h,g,f,c] [] [(dT,a),(dG,b),(yZ,.tup [m,h,g,f,c])]:=λs Z Y W d S n p Q E r =>
 eR.un0 (P:=λd=>LC (Ly ab w) A (Ra (ak (ef w.params)) ⟨W,d⟩) Q E s) (om (P:=λW=>LC (Ly ab w) A (Ra (ak (ef w.params)) ⟨W,[]⟩) Q E s) (λj v=>om λi u k e=>by
  rw[WV.out e (λl=>Ra (ak (ef w.params)) ⟨j::i::l,[]⟩) (λl=>newTuple l>>=λt=>Nb [(dT,j),(dG,i),(yZ,t)]) λO O O O O=>@_];have P:=S.pushZ (o:={ cls:=.type "tuple",data:=.seq k.toArray}) rfl s.toks;exact KI (QX (KN (r _ _ _ P.1 (.cons (v.mono P.2.le) (.cons (u.mono P.2.le) (.cons (.tup (l2 ..) (e.mono P.2.le)) .nil))) P.2)) (by rw[e.length];exact(by decide:5<=LY)))) W n) d p
def rP{K:dr->St->Prop}
  (h:T w A B z aM (isTrue f z (ME f z)) V λb di=>b=Wx/\di=V) (a:T w A B z fv (execs c z) V K):T w A B z fv (exec (.If f c6 c a9) z) V K:=bV (h.mono λb di k=>by refine aD k λe d=>?_;clear k;subst e;subst d;simpa using a)
def Bt{a:List Ln}(c:(!(a.map AV.ln).isEmpty)=Ww):∃x,a.head?=Wu x/\(a.map AV.ln)[(0:Int).toNat]?=Wu (.ln x):=by
 cases a with
 |nil=>cases c
 |cons x W=>exact⟨x,rfl,rfl⟩
abbrev aD6(a b:List Ln)(r v:AV:=.any):List (Str×AV):=[(yZ,r),(dG,.lst (b.map .ln)),(dT,.lst (a.map .ln)),(yX,v)]
def IT{a b:List Ln}{r p o n j:Str}{Y:aa}(E:dt A 20)(u:∀x,a.head?=Wu x->az x=Wx)(s:∀x,b.head?=Wu x->az x=Wx)(K:a.length<10^6)(J:b.length<10^6):TC w A (af w) (.ref 283) [.lst (a.map .ln),.lst (b.map .ln),.str r,.str p,.str o,.str n,.str j] [] Y λv a8=>a8=Y/\v=.none:=by
 refine Cf (bq w) (Bp _) E.lt BH @_ λL Q=>?_;have e:=E.deeper (k:=17) (z:=av (ak (ef w.params)) L 283 282);have i:=((gk w (A.deeper _) (ak (ef w.params)) L 283 282 @_ @_ e.h).g (lp w) @_ @_).g (fV w) @_ @_;simp only[LI,LU,Lj,Lg];refine T.spare yX @_ ?_;simp only[Lg,Lj];refine aw (rP (aV i 20 (ax.mk (jG .frz (by rw[KR];omega) (cA (λc=>(Bt c).elim λx d=>?_) λc=>⟨rfl,rfl⟩)))) (aK ?_))
 ·exact ax.mk (aE .frz ⋯ ⋯ d.2 (ax.mk (iz (by rw[u x d.1];exact⟨rfl,rfl⟩))))
 refine aw (rP (aV i 20 (ax.mk (jG .frz (by rw[KR];omega) (cA (λc=>(Bt c).elim λx d=>?_) λc=>⟨rfl,rfl⟩)))) (aK ?_))
 ·exact ax.mk (aE .frz ⋯ ⋯ d.2 (ax.mk (iz (by rw[s x d.1];exact⟨rfl,rfl⟩))))
 refine aw (BR (k:=5) AV.str (λO P=>P ⟨aD6 a b (.tup [.str r,.str p,.str o,.str n,.str j]),Y⟩) (e.mono ⋯) (ae i 20 (aKg λit G h => .mk h (.mk (gs:=[r,p,o,n,j]) (λO y=>y) @_))) ?_ (aK ⟨rfl,rfl⟩) λO=>@_);exact λG y ys=>⟨rfl,aw (rP (aV i 20 (ax.mk (aJy F.isi_meta_str F.isi_self_str oL ⟨rfl,rfl⟩))) (aK (aK (.next (l:=Y) (.mk (λO y=>y) @_)))))⟩
def cr(a b:Int):Str:=if b-a=0 then KX (Of a) else if b-a=1 then KX (Of (a+1)) else KX (Of (a+1))++KX "," ++ KX (Of b)
def ci(a b:Int):Str:=if b-a=1 then KX (Of (a+1)) else if b-a=0 then KX (Of a)++KX "," ++ KX (Of (0:Int)) else KX (Of (a+1))++KX "," ++ KX (Of (b-a))
section
variable{a b:Int}
def aCc(h:b-a=0):AV.str (KX (Of (a+1-1)))=.str (cr a b):=by
 unfold cr;rw[if_pos h,PG]
def aCb(h:b-a≠0)(h':b-a<=1)(d:a<=b):AV.str (KX (Of (a+1)))=.str (cr a b):=by
 unfold cr;rw[if_neg h,if_pos (Int.le_antisymm h' (Int.add_one_le_of_lt (Int.lt_iff_le_and_ne.mpr ⟨Vz d,Ne.symm h⟩)))]
def yr:a+1+(b-a)-1=b:=by rw[Int.add_right_comm,PG,UY,Th]
def aCa(h:b-a≠0)(h' : ¬ b-a<=1):AV.str (KX (Of (a+1))++KX "," ++ KX (Of (a+1+(b-a)-1)))=.str (cr a b):=by
 unfold cr;rw[if_neg h,if_neg λe=>h' (Int.le_of_eq e),yr]
def aB9(h:b-a=0):AV.str (KX (Of (a+1-1))++KX "," ++ KX (Of (b-a)))=.str (ci a b):=by
 unfold ci;rw[if_neg ⋯,if_pos h,PG,h]
def aB8(h:b-a=1):AV.str (KX (Of (a+1)))=.str (ci a b):=by
 unfold ci;rw[if_pos h]
def aB7(h:b-a≠0)(h':b-a≠1):AV.str (KX (Of (a+1))++KX "," ++ KX (Of (b-a)))=.str (ci a b):=by
 unfold ci;rw[if_neg h',if_neg h]
end
section
variable{a b:Int}{Y:aa}(F:dt A 10)(D:0<=a)(C:a<=b)(H:b<10^9)
include F D C H
theorem En:TC w A (af w) (.ref 268) [.int a,.int b] [] Y λv a8=>a8=Y/\v=.str (cr a b):=by
 refine en [(tJ,.int b),(tK,.int a),(tI,.any),(pd,.any)] (bq w) F.lt (λO O=>@_) @_ @_ (aF0 _) λL j=>?_;have i:=(gk w (A.deeper (av (ak (ky w.params)) L 268 267)) (ak (ky w.params)) L 268 267 @_ @_ F.h).m ⟨Ge,0, "str.format"⟩ iY sP RJ;have d:b<10^10:=Tv H ⋯;have e:a+1<10^10:=RT (VB C 1) (Tv (VA H 1) ⋯);refine bE i 60 (Gv (λc=>bN (λO=>?_) λq=>?_) λc=>bN (λq=>?_) λq=>?_)
 ·exact ax.mk (Cy ((PG a 1).symm▸D) ((PG a 1).symm▸RT C d) ⟨rfl,aCc c⟩)
 ·exact absurd (c▸by decide) q
 ·exact ax.mk (Cy (Ul D) e ⟨rfl,aCb c q C⟩)
 ·exact ax.mk (Cx (Ul D) e (yr.symm▸RD D C) (yr.symm▸d) ⟨rfl,aCa c q⟩)
theorem Em:TC w A (af w) (.ref 253) [.int a,.int b] [] Y λv a8=>a8=Y/\v=.str (ci a b):=by
 refine en [(tJ,.int b),(tK,.int a),(tI,.any),(pd,.any)] (bq w) F.lt (λO O=>@_) @_ @_ (aF1 _) λL e=>?_;have d:=(gk w (A.deeper (av (ak (kz w.params)) L 253 252)) (ak (kz w.params)) L 253 252 @_ @_ F.h).m ⟨Ge,0, "str.format"⟩ iY sP RJ;refine bE d 60 (gQ (λc=>?_) λc=>Gv (λq=>?_) λq=>?_)
 ·exact ax.mk (Cy ⋯ ⋯ ⟨rfl,aB8 c⟩)
 ·exact ax.mk (Cx ⋯ ⋯ ⋯ ⋯ ⟨rfl,aB9 q⟩)
 ·exact ax.mk (Cx ⋯ ⋯ ⋯ ⋯ ⟨rfl,aB7 q c⟩)
end
set_option backward.match.sparseCases false in
def IX(o:Obj):ClassData:=match o.data with |.cls c=>c |_=>default
def bd(P:KS):Wz (KB P) 242:=⟨@_,@_,@_,@_,IX (qh P),@_,@_⟩
abbrev nA:Str:=dT
def lV(l:List (Str×AV))(x:Str)(v:AV):(bM l x v).length<=l.length+1:=by
 induction l with
 |nil=>exact LK _
 |cons p r a =>
  rw[yn];split
  ·exact Pp _
  ·simp only[La,La];exact OH a
def CG{K:Frag}{R:Unit->St->Prop}(a:Wz K C)(e:takerIn K C name=Wu Wv)
  (i:bM m name v=m') (d6:m'.length<=1000) (h:R () ⟨a6,(d,bO m')::Y⟩):F2 w A (am K) z aQ (λx y=>setAttr x name y) (.inst C d) v ⟨a6,(d,bO m)::Y⟩ R:=Kz a e i d6 (a8:=(d,bO m')::Y) .here h
def aBF{m:List (Str×AV)}(e:dt A 20)(i:m.lookup nA=Wu .none)(d6:m.length<=100):TC w A (af w) (.ref 174) [.inst 242 d,.lst W] [] ((d,bO m)::Y) λv a8=>v=.none/\a8=(d,bO (bM (bM (bM m nA (.lst W)) th .none) yM .none))::Y:=by
 refine en [(nA,.lst W),(q6,.inst 242 d)] (bq w) e.lt (λO O=>@_) @_ @_ (aF8 _) λL j=>?_;have a:=gk w (A.deeper (av (ak (ji w.params)) L 174 173)) (ak (ji w.params)) L 174 173 @_ @_ e.h;exact bE a 60 (ax.mk (eI (bd _) @_ (KJ ..) i rfl (ax.mk (eF rfl rfl rfl (ae a 5 (dZ (ae a 5 (CG (bd _) @_ rfl (Mc (lV ..) ⋯) (ax.mk (gG rfl rfl rfl (ae a 5 (dZ (ae a 5 (CG (bd _) @_ rfl (Mc (lV ..) (Wl (Ox (lV ..) ⋯))) (dZ (ae a 5 (CG (bd _) @_ rfl (Mc (lV ..) (Wl (Ox (lV ..) (Ox (OH (lV ..)) ⋯)))) ⟨rfl,rfl⟩)))))))))))))))))
abbrev oM:Expr:=.Name ⟨⟨[]⟩⟩ default
section
variable{N:aa}
def iD{Q:Unit->KY->Prop}(S:ca B s Z ((a,.list W)::Y))(l:s.heap.get? a=Wu {cls:=.type "list",data:=.seq c n})(hv:Vals Z ys (f c).toList)(hz:c.size<=LY)(j:(f c).size<=LY+1)
  (k:∀h' d,h'.get? a=Wu {cls:=.type "list",data:=.seq (f c) d }->ca B {s with heap:=h' } Z ((a,.list ys)::Y)->hO (aj ((a,.list W)::Y)) s Z {s with heap:=h' } Z (aj ((a,.list ys)::Y))->Q () {s with heap:=h' }):LC (Ly ab w) A (Ro a f) Q E s:=wpAny_updateSeq l rfl (al (⟨_,LV (Me f) l rfl⟩:∃d,(s.heap.update a (Me f)).get? a=Wu {cls:=.type "list",data:=.seq (f c) d }) λd i =>
   have P:=S.upd (a8:=(a,.list ys)::Y) .here (h':=s.heap.update a (Me f)) (tk:=s.toks) (λb o p e=>(LR ..).extBut b o p e) rfl rfl ⟨_,d,i,hv⟩;k _ d i P.1 P.2) hz j
def aGp{R:Result->KY->Prop}(Q:dt A (k+1))  (items:List AV):∀(d8:List AV) (gl Y:aa) (s:KY) (Z:eb),kn N Y->eg w B N k oM it items gl->d8.length+items.length<=LY ->
  ca B s Z ((S,.list d8)::(gl++Y))->(∀s' e,ca B s' e ((S,.list (d8++items))::Y)->hO (aj ((S,.list d8)::(gl++Y))) s Z s' e (aj ((S,.list (d8++items))::Y))->R (.ok (.ret b)) s') ->
  PA (Ly ab w) A (.builtin "list.extend.loop" ⟨[.ref S,.ref it,b],[]⟩) R s:=by
 induction items with
 |nil =>
  intro d8 gl Y s Z p z d6 G o;refine NQ RK ?_;rw[NO Pq _];refine z.last Q.in1 (p.cons _) (G.perm (MT.symm)) λs' e J r=>KN ?_;rw[Ms] at o;exact o s' e J (cB (MT (l₁:=gl) (l₂:=Y) (a:=(S,el.list d8)))▸r)
 |cons x items c =>
  intro d8 gl Y s Z p z d6 G o;refine NQ RK ?_;rw[NO Pq _];simp only[La] at d6;have K:d8.length<LY:=by omega
  refine z.draw Q.in1 (p.cons _) (G.perm (MT.symm)) (λO=>rfl) λs' e v d5 J V r y=>?_;rw[cB (MT (l₁:=gl) (l₂:=Y) (a:=(S,el.list d8))),cB (MT (l₁:=d5) (l₂:=Y) (a:=(S,el.list d8)))] at r;have W:=J.perm (MT (l₁:=d5) (l₂:=Y) (a:=(S,el.list d8)));refine bG (W.own _ (KJ ..)) λi n g vs=>?_;dsimp only at g;have d:i.size=d8.length:=vs.size;show LC _ A.in1 (Ro S (·.push v)>>=_) _ _ _;refine KI (iD (ys:=d8++[x]) W g (by simpa using vs.append (.cons V .nil)) (by rw[d];omega) (by show (i.push v).size<=LY+1;rw[Ws,d];omega) λq m O h f=>KN ⟨QK Pq _,c (d8++[x]) d5 Y _ e p y (by simp only[Lb,Np];omega) h λu E l j=>?_⟩);rw[LH] at l j;exact o u E l ((r.trans f).trans j)
def ij.same:∀a6:List (Str×AV),ij a W a6 a6
 | [] => .nil
 |_::l => .keep (ij.same l)
def xg{T':String}(f:dt A (k+3))(P:kn N Y)(S:eg w B N k oM it items gl)(d6:items.length<=LY)
  (p:∀s Z,ca B s Z (gl++Y)->s.TypeIs (.ref it) T') (R:(Ob T'==Ob "list")=Wx) (J:(Ob T'==Ob "tuple")=Wx)
  (i:∀(A:Lk) s Z,ca B s Z (gl++Y)->∀(Q:Value->KY->Prop) E,Q (.ref it) s->LC (Ly ab w) A (Pz (.ref it)) Q E s)
  (n:MF (.type T') "__len__" = Nb Wv) (j:MF (.type T') "__length_hint__" = Nb Wv)
  (h:K (.lst items) ⟨a6,Y⟩):FC w A B z (.typ "list") [.ref it] [] ⟨a6,gl++Y⟩ K:=FC.t λs Z q Q E M=>om <| l6 <| Zq <| by
 have SL:=q.toca;have D:=SL.push (o:={ cls:=.type "list",data:=.seq #[]}) (ao:=.list []) rfl s.toks ⟨#[],0,Lc _ rfl,.nil⟩;refine ag (p s Z SL) λoi y O=>?_;have G:s.heap.objs.size≠it:=λe=>by have:=Mf y;rw[<-e] at this;exact Nn _ this
 refine UV (Q₁:=λl c5=>l=.ref s.heap.objs.size/\c5={ s with heap:=s.heap.push {cls:=.type "list",data:=.seq #[]} }) F.called_list (F.typeCall_list_1 _) F.entry_list_init
  (code_list_new _ ⟨rfl,rfl⟩) λl c5 a=>?_
 refine aD a λO1 O2=>?_;clear a;subst O1;subst O2;have c:(s.heap.push {cls:=.type "list",data:=.seq #[]}).get? s.heap.objs.size=Wu {cls:=.type "list",data:=.seq #[]}:=Lc _ rfl;refine⟨⟨_,c,rfl⟩,F.args_list_init_2 _ _,?_⟩;show LC _ A.in1.in1 (do let x <-PR (.ref s.heap.objs.size);RB (.ref s.heap.objs.size) (λO => #[]);letGo x.toList.reverse;Pi (.ref s.heap.objs.size) (.ref it) .none) _ _ _;refine KI ?_;unfold PR;refine KI (MY c rfl (KN ?_));show LC _ A.in1.in1 (Ro s.heap.objs.size (λO => #[])>>=λO=>letGo (#[]:Array Value).toList.reverse>>=λO=>Pi (.ref s.heap.objs.size) (.ref it) .none) _ _ _;refine KI (iD (ys:=[]) D.1 c .nil (Lq _) (Lq _) λh2 n2 b r g=>?_);refine KI (Qv ?_);unfold Pi;have v:=r.drop1;refine KI (QA (p _ Z v) ?_);have U:Qm (.ref s.heap.objs.size) (.ref it)=Wx:=by simp[Qm,G]
 simp only[U,R,J,Uz,LW,if_false];refine KI (i _ _ Z v _ _ ?_);refine KI (Lh ?_);unfold SY;refine KI (Oj (p _ Z v) n ?_);show LC _ A.in1.in1 (QT (Pm it) (KX "__length_hint__")>>=_) _ _ _;refine KI (Oj (p _ Z v) j ?_);refine KN ?_;show LC _ A.in1.in1 (rule "list.extend.makes-room" >>= λO=>TD (.ref s.heap.objs.size)>>=λO =>
  again (.builtin "list.extend.loop" ⟨[.ref s.heap.objs.size,.ref it,.none],[]⟩)) _ _ _
 refine KI (MI ?_);refine KI ?_;show LC _ A.in1.in1 (Ro s.heap.objs.size (·.push .none)>>=λO=>Ro s.heap.objs.size (·.pop)) _ _ _;refine KI (iD (ys:=[.none]) r b (.cons .none .nil) (Lq _) (QG ..) λh3 n3 W S3 X3=>?_);refine iD (ys:=[]) S3 W .nil (by decide:1<=LY) (Lq _) λh4 n4 L S4 X4=>?_;refine KN ⟨QK Pq _,aGp (k:=k) ?_ items [] gl Y _ Z P S (by simpa using d6) S4 λH Z' C m=>?_⟩
 ·exact⟨f.h,by have:=f.d;show A.depth+(k+1)<=_;omega,by have:=f.u;show A.units+1+(k+1)<=_;omega⟩
 ·simp only[Lj] at C m;have X:=(((D.2.trans g).trans X3).trans X4).trans m;have SF:=q.after C X;refine bn (SF.freeze (ft:=a6) (ij.same a6)) λZ2 r V2 g=>?_;exact⟨rfl,M _ _ H Z2 _ h r V2 ((X.toF (V:=⟨a6,gl++Y⟩)).trans g)⟩
end
def aBt:Slot "map" "__init__" "object.__init__":=.of (owner := "object") (n := "__init__") (by rw[Mp,LQ];kernel_rfl) (by decide +kernel) (by decide +kernel) (by decide +kernel)
  (by first |exact .inl (by decide +kernel) |exact .inr (by decide +kernel)) (by rw[Mm];kernel_rfl)
def sO:Slot "map" "__next__" "map.__next__":=.of (owner := "map") (n := "__next__") (by rw[Mp,LQ];kernel_rfl) (by decide +kernel) (by decide +kernel) (by decide +kernel)
  (by first |exact .inl (by decide +kernel) |exact .inr (by decide +kernel)) (by rw[Mm];kernel_rfl)
def DQ:Slot "map" "__iter__" "map.__iter__":=.of (owner := "map") (n := "__iter__") (by rw[Mp,LQ];kernel_rfl) (by decide +kernel) (by decide +kernel) (by decide +kernel)
  (by first |exact .inl (by decide +kernel) |exact .inr (by decide +kernel)) (by rw[Mm];kernel_rfl)
def Bw:PW table "map.__next__" = Wu Builtin.«map.__next__» := Nv @_
def aGH:PW table "map.__new__" = Wu Builtin.«map.__new__» := Nv @_
def aGI:PW table "map.__iter__" = Wu Builtin.«dict_keyiterator.__iter__»:=Tg (id' := "dict_keyiterator.__iter__") @_ (by first |rfl |decide +kernel |(unfold String.splitOn;simp +decide [String.splitOnAux])) (by decide +kernel) @_
def BJ(a:Value):Oo "map.__next__" ⟨[a],[]⟩:=by unfold Oo;kernel_rfl
def aH8(a:Value):Oo "map.__iter__" ⟨[a],[]⟩:=by unfold Oo;kernel_rfl
def GY:mroOf (.type "map")=Nb [.type "map",.type "object"]:=by rw[mroOf_type];kernel_rfl
def aDT:MF (.type "map") "__new__" = Nb (Wu (.builtin "map.__new__")):=by rw[Mp,LQ];kernel_rfl
def aHE:TypeCalled "map" "map.__new__" "object.__init__":=⟨by decide +kernel,by decide +kernel,⟨_,_,GY⟩,madeBy_type GY aDT (by decide +kernel),by decide +kernel,by rw[Mm];kernel_rfl,aBt⟩
def aAM(a b:Value):TA "map" ⟨[a,b],[]⟩=Nb ():=@_
def aDi(a b:Value):Rp "map.__new__" ⟨[.type "map",a,b],[]⟩=Nb ():=@_
def aA8:Oa (.type "map") (.type "map")=Nb Ww:=by rw[Mm];kernel_rfl
def rh:MF (.type "map") "__len__" = Nb Wv:=by rw[Mp,LQ];kernel_rfl
def ri:MF (.type "map") "__length_hint__" = Nb Wv:=by rw[Mp,LQ];kernel_rfl
section
variable{c:Ll}
def aBW{l:LP}{P:QF->KY->Prop}(d:s.heap.IsList l items)
  (h:P (.done (.ret (.ref (s.heap.objs.size+2)))) {s with heap:=((s.heap.push {cls:=.type "list_iterator",data:=.fields #[.ref l,.int 0 0]}).push {cls:=.type "tuple",data:=.seq #[.ref s.heap.objs.size]}).push {cls:=.type "map",data:=.fields #[.ref (s.heap.objs.size+1),f]} }):LC (Ly c w) A (Builtin.«map.__new__» ⟨[.type "map",f,.ref l],[]⟩) P E s:=by
 unfold Builtin.«map.__new__»;refine KI ?_;unfold Builtin.SmallTypes.newClass;refine KI (Mo (a:=Ww) rfl (Mt rfl (KI (Mo (a:=Ww) aA8 (Mt rfl (KN (KI (Mo (a:=()) rfl ?_))))))));dsimp only;refine ec (by simp) (KI ?_);unfold Builtin.SmallTypes.iterAll;simp only[List.drop_succ_cons,Ud,QD,RI];refine KI (KI (KI (Lh (TS d (KN (KN (KN (KI (QX ?_ (by simp;decide))))))))));refine KI ?_;unfold Builtin.SmallTypes.newRecord;refine Mk (KN ?_);simpa[Od] using h
def Hv{l:LP}{x:Value}(a:s.heap.IsListIter it l i)(n:s.heap.IsList l items)(hx:items[i]?=Wu x)
  (r:∀h',h'.IsListIter it l (i+1)->LL it s.heap h'->Q x {s with heap:=h' }):LC (Ly c w) A (Qc (.ref it)) Q E s:=by
 refine bn (id a) λo e p d=>?_;obtain⟨u,j,_,nl,k⟩:=n;unfold Qc;refine KI (Mj (name:=KX "__next__") a.typeIs RZ (Mb RZ a.typeIs entry_listiter_next ?_ (args_listiter_next _)));show LC _ _ (field (.ref it) 0>>=_) _ _ s;refine KI (NL e d (x:=.ref l) rfl (Mt rfl (KI (NL e d (x:=.int i 0) rfl (KI (MY j k ?_))))));simp only[LX,hx];refine KI (PJ e d (by simp) (KN ⟨x,rfl,KN (r _ ?_ (LR ..))⟩));exact⟨_,LV _ e (NG (Og d _)),(Tp ..).trans p,by
  rw[Og d];simp[MC]⟩
def aEe{l:LP}(r:A.handled=Wv)(a:s.heap.IsListIter it l i)(p:s.heap.IsList l items)(hx:items[i]?=Wv)
  (v:∀h' e,RW it s.heap h'->({s with heap:=h' }:KY).TypeIs (.ref e) "StopIteration" -> E (.ref e) {s with heap:=h' }):LC (Ly c w) A (Qc (.ref it)) Q E s:=by
 refine bn (id a) λo j J n=>?_;obtain⟨y,d,_,nl,k⟩:=p;unfold Qc;refine KI (Mj (name:=KX "__next__") a.typeIs RZ (Mb RZ a.typeIs entry_listiter_next ?_ (args_listiter_next _)));show LC _ _ (field (.ref it) 0>>=_) _ _ s;refine KI (NL j n (x:=.ref l) rfl (Mt rfl (KI (NL j n (x:=.int i 0) rfl (KI (MY d k ?_))))));simp only[LX,hx];refine KI (MI (KI (PJ j n (by simp) ?_)));show LC _ _ (VQ (.type "StopIteration") []>>=_) _ _ _;exact KI (vU λG z e u=>sW (A:=A.in1) r (v _ _ (((LR ..).extBut.push _).push _) u))
def Hf{l:LP}{x:Value}{Q:Option Value->KY->Prop}(k:s.heap.get? m=Wu {cls:=.type "map",data:=.fields #[.ref b,f]})(p:s.heap.get? b=Wu {cls:=.type "tuple",data:=.seq #[.ref it]})
  (n:s.heap.IsListIter it l i) (r:s.heap.IsList l items) (hx:items[i]?=Wu x) (e:m≠it)
  (h:∀h',h'.IsListIter it l (i+1)->LL it s.heap h'->LC (Ly c w) A.in1 (call f [x]) (λv s'=>Q (Wu v) s') (λO O=>False) {s with heap:=h' }):LC (Ly c w) A (Nr (.ref m)) Q E s:=by
 have u:s.TypeIs (.ref m) "map" := ⟨_,k,rfl⟩;refine nS u sO Bw (BJ _) ?_;show LC _ _ (field (.ref m) 0>>=_) _ _ s;refine KI (NL k rfl (x:=.ref b) rfl (KI (MY p rfl ?_)));simp only[<-Ta,QD,RI];refine KI (KI (KI (Lh (Hv n r hx λh' d a=>KN (KN ?_)))));have j:h'.get? m=Wu {cls:=.type "map",data:=.fields #[.ref b,f]}:=(a.2 m e).trans k;refine KI (NL j rfl (x:=f) rfl (KI (Lh (Mg (h h' d a) (λv s' o=>KI (Qv (KN ⟨v,rfl,o⟩))) λO O z=>z.elim))))
def aDM{l:LP}{Q:Option Value->KY->Prop}(p:A.handled=Wv)(k:s.heap.get? m=Wu {cls:=.type "map",data:=.fields #[.ref b,f]})(n:s.heap.get? b=Wu {cls:=.type "tuple",data:=.seq #[.ref it]})
  (d:s.heap.IsListIter it l i) (o:s.heap.IsList l items) (hx:items[i]?=Wv)
  (u:∀h',RW it s.heap h'->Q Wv {s with heap:=h' }):LC (Ly c w) A (Nr (.ref m)) Q E s:=by
 have r:s.TypeIs (.ref m) "map" := ⟨_,k,rfl⟩;refine nS r sO Bw (BJ _) ?_;show LC _ _ (field (.ref m) 0>>=_) _ _ s;refine KI (NL k rfl (x:=.ref b) rfl (KI (MY n rfl ?_)));simp only[<-Ta,QD,RI];exact KI (KI (KI (Lh (aEe p d o hx λh' e a j=>⟨j,u h' a⟩))))
end
abbrev gy(a:AV)(b:List Ln):List (Str×AV):=[(oZ,.none),(dT,a),(dG,.lst (b.map .ln)),(tm,.bool Ww),(th,.none),(yM,.none),(yL,.none)]
abbrev HH(a:AV)(b:List Ln)(e d pp:LP):List (Str×AV):=gy a b++[(oX,.ref e),(yI,.ref d),(yG,.ref pp)]
def AD(h:af w b=Wv):(b==Nl)=Wx:=beq_eq_false_iff_ne.mpr λq=>by
 have:(af w Nl).isSome=Ww:=@_;rw[<-q,h] at this;cases this
structure WU (b pre rest:List Ln) (es:eJ):Prop where
 e:b=pre++rest
 es:dv es=fG (gE [] 0 pre)
section
variable{b c rest:List Ln}{es D C:eJ}{y:Ln}{F:List AV}{H:LP}
def WU.room(h:WU b c rest es):es.length<=b.length:=by
 have d:=congrArg NY h.es;simp only[dv,fG,KR] at d;have a:=aHx c [] 0;simp only[LA] at a;rw[h.e,Lb];omega
def WU.step(h:WU b c (y::rest) es)(a:∀v,eX (dv es) y v=dv (D++(y,H,F++[v])::C)):WU b (c++[y]) rest (D++(y,H,F++[.int c.length])::C):=⟨by rw[h.e,LH];rfl,by rw[IW,OJ,aGO,<-h.es,a]⟩
def WU.lens(h:WU b c rest es){e:Ln×LP×List AV}(i:e∈es):e.2.2.length<=c.length:=by
 have d:(e.1,e.2.2)∈fG (gE [] 0 c):=by rw[<-h.es];exact Lv (f:=λe:Ln×LP×List AV=>(e.1,e.2.2)) i
 refine ag (LG.mp d) λl a q=>?_;have k:=aHw c [] 0 0 (λO h=>by cases h) l a;have j:=congrArg (λp=>p.2.length) q;simp only[eC,KR] at k j;omega
def WU.lenjs(h:WU b c (y::rest) es)(a:∀v,eX (dv es) y v=dv (D++(y,H,F++[v])::C)):F.length<=b.length:=by
 have:=(h.step a).lens (e:=(y,H,F++[.int c.length])) (LJ _ (KJ ..));have e:=(h.step a).e;rw[e,Lb];simp only[Lb,Np] at this ⊢;omega
end
section
variable(w:Lz)(d c:LP)(h:AV)(b:List Ln)(Y:aa)
abbrev aD7(e h c o l n i k j a:AV:=.any):List (Str×AV):=[(q6,.inst 242 d),(lX,e),(yK,h),(yJ,c),(dG,.lst (b.map .ln)),(oX,o),(yH,l),(oZ,n),(yF,i),(jT,k),(yE,j),(yD,a)]
abbrev IA(p:Ln×Nat):AV:=.tup [.int p.2,.ln p.1]
def JB(gs:List (Ln×Nat))(P:St->Prop):Prop:=∀a rest e,gs=rest.zipIdx a.length->WU b a rest e->P ⟨aD7 d b .any .any .any (.ref c),(c,aA (bZ ab w) (dF e))::(fE e++(d,bO (gy h b++[(oX,.ref c)]))::Y)⟩
end
def aGC(l:List Ln)(n:Nat):wD n (l.map .ln)=(l.zipIdx n).map IA:=by
 induction l generalizing n with
 |nil=>rfl
 |cons x l a=>exact congrArg _ (a (n+1))
def aAb{p:Ln×Nat}{gs:List (Ln×Nat)}{rest:List Ln}(e:p::gs=rest.zipIdx n):∃r,rest=p.1::r/\n=p.2/\gs=r.zipIdx (n+1):=by
 cases rest with
 |nil=>cases e
 |cons y r=>cases e;exact⟨r,rfl,rfl,rfl⟩
def WU.all{b a rest:List Ln}{es:eJ}(h:WU b a rest es)(e:[]=rest.zipIdx n):WU b b [] es:=by
 cases rest with
 |nil =>
  have q:=h.e;rw[Ms] at q;exact q▸h
 |cons y r=>cases e
def rZ{a c r:Int}(h0:c≠0)(d:c.natAbs<1073741824)(e:a.fdiv c=r)(h:K (.int r) V):F2 w A B z Val (Ph .FloorDiv) (.int a) (.int c) V K:=aJ6 h0 d (e.symm▸h)
def aHv{b:List Ln}(q:dt A 20)(hb:b.length<200):TC w A (af w) (.ref 188) [.inst 242 d] [] ((d,bO (gy f b))::Y) λv a8=>v=.none/\∃j n pp V,a8=(d,bO (gy f b++[(oX,.ref j),(yI,.ref n),(yG,.ref pp)]))::(j,aA (bZ ab w) V)::(n,ed)::Y
   /\ (j==Nl)=Wx/\∀k,(bo V k).getD (.lst [])=.lst (eC (bS b k)):=by
 refine m1 (en [(q6,.inst 242 d),(lX,.any),(yK,.any),(yJ,.any),(dG,.any),(oX,.any),(yH,.any),(oZ,.any),(yF,.any),(jT,.any),(yE,.any),(yD,.any)] (bq w) q.lt (λO=>@_) @_ @_ (aF6 _) λL hL=>?_);have x:=q.deeper (k:=17) (z:=av (ak (jg w.params)) L 188 187);have Z:=x.h;have i:=((((((gk w (A.deeper _) (ak (jg w.params)) L 188 187 @_ @_ Z).g (lm w) @_ @_).g (aFH w) @_ @_).g (aFz w) @_ @_).m ⟨EC,1, "list.append"⟩ OQ iH OU).m ⟨ED,2, "dict.setdefault"⟩ F.plainAttrs_dict aBx F.type_dict_setdefault);refine ba i 20 (ax.mk (eI (bd _) @_ (KJ ..) (v:=.lst (b.map .ln)) @_ rfl ?_));refine aw (gG rfl rfl rfl (Ce (c_:=bZ ab w) λj H K=>dZ (ae i 5 (fa (m':=gy f b++[(oX,.ref j)]) (bd _) @_ (.there .here) rfl (Mx rfl) (bQ (aW rfl ?_))))));have u:=AD K;refine aw (jz (k:=5) IA (JB w d j f b Y) (x.mono ⋯) (ae i 20 (ax.mk (aJJ λe it=>aKi (k:=5) λM => .mk M (aGC b 0▸.mk (λO y=>y [] b [] rfl ⟨rfl,rfl⟩) @_)))) ?_ ?_ λO=>@_)
 ·intro gl p U s rest R e h;refine bn (aAb e) λr S P N=>?_;have h:=S▸h;have X:=h.room;refine gf Z @_ @_ @_ (em _ rfl _ _ rfl rfl ?_);simp only[Lg,LH];refine bE i 40 ⟨lS (c_:=bZ _ _) (KJ ..),ax.mk (cH rfl λa ha=>ax.mk (aJk u (by rw[Mz];omega) λG t J E o=>?_))⟩;have hj:=h.lenjs o;refine⟨bH (W:=J) (.tail _ (LJ _ (.head _))),ax.mk (gJ (W:=J) (.there (.skip .here)) (by rw[Mz];omega) ?_)⟩;refine .nextE (l:=(j,aA (bZ ab w) (dF (G++(p.1,t,J++[.int p.2])::E)))::(fE (G++(p.1,t,J++[.int p.2])::E)++(d,bO (gy f b++[(oX,.ref j)]))::Y)) (by simp[dF,fE]) (.mk (λO y=>y (s++[p.1]) r _ (N.trans (by rw[Lb];rfl)) (P▸h.step o)) @_)
 ·intro s rest R e h;have h:=h.all e;refine T.freezes (c_:=bZ ab w) R ?_;refine aw (gG rfl rfl rfl (ae i 20 (ax.mk (Kn λn D=>dZ (ae i 5 (fa (m':=gy f b++[(oX,.ref j),(yI,.ref n)]) (bd _) @_ (.there (.there .here)) rfl (Mx rfl) (bQ (aW rfl ?_))))))));refine ba i 20 (ax.mk (eI (bd _) @_ (by repeat constructor) (v:=.none) @_ rfl ?_));refine ba i 20 ?_;refine aw (gG rfl rfl rfl (ae i 20 (ax.mk (Kn λpp C=>dZ (ae i 5 (fa (m':=HH f b j n pp) (bd _) @_ (.there (.there (.there .here))) rfl (Mx rfl) (bQ (aW rfl ?_))))))));refine ba i 20 (ax.mk (rW .frz (by rw[KR];omega) ?_));rw[KR];refine bE i 20 (ax.mk (rR (ae i 5 (ax.mk (eI (bd _) @_ (by repeat constructor) (v:=.bool Ww) @_ rfl (gK ?_)))) rfl));refine aCo (Q:=True) (bN (λc=>?_) λc=>?_)
  ·exact absurd c ⋯
  ·refine⟨(d,bO (HH f b j n pp))::(j,aA (bZ ab w) (rl R))::(n,ed)::Y,⟨[(pp,ed)],.cons _ aCw⟩,rfl,j,n,pp,_,rfl,u,aGj h.es ⋯⟩
def oE(w:Lz)(d:LP)(a b:List Ln)(Y a8:aa):Prop:=∃e j pp i,a8=(d,bO (gy (.lst (a.map .ln)) b++[(oX,.ref e),(yI,.ref j),(yG,.ref pp)]))::(e,aA (bZ ab w) i)::(j,ed)::Y
   /\ (e==Nl)=Wx/\∀k,(bo i k).getD (.lst [])=.lst (eC (bS b k))
def aBE{a b:List Ln}(j:dt A 30)(l:b.length<200):TC w A (af w) (.ref 181) [.inst 242 d,.lst (b.map .ln)] [] ((d,bO [(oZ,.none),(dT,.lst (a.map .ln)),(dG,.none),(tm,.bool Ww),(th,.none),(yM,.none)])::Y) λv a8=>v=.none/\oE w d a b Y a8:=by
 refine m1 (en [(dG,.lst (b.map .ln)),(q6,.inst 242 d)] (bq w) j.lt (λO O=>@_) @_ @_ (aF7 _) λL n=>?_);have i:=j.deeper (k:=27) (z:=av (ak (jh w.params)) L 181 180);have e:=gk w (A.deeper _) (ak (jh w.params)) L 181 180 @_ @_ i.h;exact bE e 60 (ax.mk (eI (bd _) @_ (KJ ..) (v:=.none) @_ rfl (ax.mk (eF rfl rfl rfl (ae e 5 (dZ (ae e 5 (fa (m':=[(oZ,.none),(dT,.lst (a.map .ln)),(dG,.lst (b.map .ln)),(tm,.bool Ww),(th,.none),(yM,.none)]) (bd _) @_ .here rfl (Mx rfl) (ax.mk (gG rfl rfl rfl (ae e 5 (dZ (ae e 5 (fa (m':=[(oZ,.none),(dT,.lst (a.map .ln)),(dG,.lst (b.map .ln)),(tm,.bool Ww),(th,.none),(yM,.none)]) (bd _) @_ .here rfl (Mx rfl) (dZ (ae e 5 (fa (m':=[(oZ,.none),(dT,.lst (a.map .ln)),(dG,.lst (b.map .ln)),(tm,.bool Ww),(th,.none),(yM,.none)]) (bd _) @_ .here rfl (Mx rfl) (ax.mk (eF rfl rfl rfl (ae e 5 (dZ (ae e 5 (fa (m':=gy (.lst (a.map .ln)) b) (bd _) @_ .here rfl (Mx rfl) (ax.mk (jD (name:=te) (C:=242) (f:=188) @_ @_ @_ (bd _) @_ @_ (ae e 5 (.mk (KJ ..) @_ (dd @_ (bw @_) (aO e 10 (ge (aHv (i.mono ⋯) l) λv a8 h=>fL _ (.refl _) rfl h.2))))))))))))))))))))))))))))))
def aBD{a b:List Ln}(j:dt A 40)(l:b.length<200):TC w A (af w) (.ref 167) [.inst 242 d,.lst (a.map .ln),.lst (b.map .ln)] [] ((d,bO [(oZ,.none),(dT,.none),(dG,.none),(tm,.bool Ww)])::Y) λv a8=>v=.none/\oE w d a b Y a8:=by
 refine m1 (en [(dG,.lst (b.map .ln)),(dT,.lst (a.map .ln)),(q6,.inst 242 d)] (bq w) j.lt (λO O O=>@_) @_ @_ (aF9 _) λL p=>?_);have e:=j.deeper (k:=37) (z:=av (ak (jl w.params)) L 167 166);have i:=gk w (A.deeper _) (ak (jl w.params)) L 167 166 @_ @_ e.h;refine bE i 60 (ax.mk (jD (name:=jV) (C:=242) (f:=174) @_ @_ @_ (bd _) @_ @_ (ae i 5 (.mk (KJ ..) @_ (dd @_ (bw @_) (aO i 10 (ge (aBF (e.mono ⋯) rfl (Mx rfl)) λv a8 h=>?_)))))));refine aD h λo n=>?_;clear h;subst o;subst n;exact ax.mk (jD (name:=jU) (C:=242) (f:=181) @_ @_ @_ (bd _) @_ @_ (ae i 5 (.mk (KJ ..) @_ (dd @_ (bw @_) (aO i 10 (ge (K0:=λv a8=>v=.none/\oE w d a b Y a8) (aBE (e.mono ⋯) l) λv a8 h=>fL _ (.refl _) rfl h.2))))))
def init{a b:List Ln}(j:dt A 50)(l:b.length<200):TC w A (af w) (.ref 160) [.inst 242 d,.none,.lst (a.map .ln),.lst (b.map .ln)] [] ((d,bO [])::Y) λv a8=>v=.none/\oE w d a b Y a8:=by
 refine m1 (Cf (f8:=[(q6,.inst 242 d),(oZ,.none),(dT,.lst (a.map .ln)),(dG,.lst (b.map .ln)),(tm,.bool Ww)]) (bq w) (aGa _) j.lt (Binds.of4 λZ y x u s r p o n=>⟨_,@_,.cons r (.cons p (.cons o (.cons n (.cons (.bool Ww) .nil))))⟩) @_ λL E=>?_);have i:=j.deeper (k:=47) (z:=av (ak (jm w.params)) L 160 159);have e:=gk w (A.deeper _) (ak (jm w.params)) L 160 159 @_ @_ i.h;simp only[LI,LU,Lj,Lg];exact bE e 60 (ax.mk (eF rfl rfl rfl (ae e 5 (dZ (ae e 5 (fa (m':=[(oZ,.none)]) (bd _) @_ .here rfl (Mx rfl) (ax.mk (gG rfl rfl rfl (ae e 5 (dZ (ae e 5 (fa (m':=[(oZ,.none),(dT,.none)]) (bd _) @_ .here rfl (Mx rfl) (dZ (ae e 5 (fa (m':=[(oZ,.none),(dT,.none),(dG,.none)]) (bd _) @_ .here rfl (Mx rfl) (ax.mk (eF rfl rfl rfl (ae e 5 (dZ (ae e 5 (fa (m':=[(oZ,.none),(dT,.none),(dG,.none),(tm,.bool Ww)]) (bd _) @_ .here rfl (Mx rfl) (ax.mk (jD (name:=jW) (C:=242) (f:=167) @_ @_ @_ (bd _) @_ @_ (ae e 5 (.mk (KJ ..) @_ (dd @_ (bw @_) (aO e 10 (ge (aBD (i.mono ⋯) l) λv a8 h=>fL _ (.refl _) rfl h.2))))))))))))))))))))))))))))
def aDO{a b:List Ln}(j:dt A 60)(i:b.length<200):TC w A (af w) (.ref 242) [.none,.lst (a.map .ln),.lst (b.map .ln)] [] Y λv a8=>∃d,v=.inst 242 d/\oE w d a b Y a8:=aIX (k:=59) (j.mono ⋯) @_ @_ @_ λd o e n=>(init (e.mono ⋯) i).mono λv l h=>⟨h.1,d,rfl,h.2⟩
def aDQ{a:List Ln}{P:AV->aa->Prop}
  (k:∀d i l pp j,(i==Nl)=Wx->(∀k,(bo j k).getD (.lst [])=.lst (eC (bS b k)))->P (.inst 242 d) ((d,bO (gy (.lst (a.map .ln)) b++[(oX,.ref i),(yI,.ref l),(yG,.ref pp)]))::(i,aA (bZ ab w) j)::(l,ed)::Y))
  (v:AV) (a8:aa) (h:∃d,v=.inst 242 d/\oE w d a b Y a8):P v a8:=ag h λd e h=>eK h λi l pp j p o n=>e▸p▸k d i l pp j o n
def He(w:Lz):Xc w (KB w.params) 135:=⟨@_,@_,@_,@_,@_⟩
set_option backward.match.sparseCases false in
def GB(P:KS):LP:=match Sh (KB P) (.ref 135) (.type "type") "__new__" with |some (.get _ (.ref p) _ _)=>p |_=>0
def aCd(P:KS):List Value:=((recIn (KB P) (GB P) "staticmethod").getD []).tail
def aDo(w:Lz):List Value:=(Mi (KB w.params) ⟨ab,w.params⟩ (mroOf (.ref 135))).getD []
def aDK(w:Lz):WS w (KB w.params) 135 82:=⟨⟨kO w.params,IX (kO w.params),@_,@_⟩,@_,@_,⟨aDo w,@_,@_⟩,@_,@_,⟨GB w.params,aCd w.params,@_,@_⟩,@_,@_,@_⟩
def aDg{x y z:Int}(d:dt A 20):TC w A (af w) (.ref 82) [.ref 135,.int x,.int y,.int z] [] Y λv a8=>v=.mat 135 [.int x,.int y,.int z]/\a8=Y:=by
 refine en [(iL,.int z),(dG,.int y),(dT,.int x),(yQ,.ref 135)] (bq w) d.lt (λO O O O=>@_) @_ @_ (aFU _) λL e=>?_;have a:=(gk w (A.deeper (av (ak (gT w.params)) L 82 81)) (ak (gT w.params)) L 82 81 @_ @_ d.h).g (HV w) @_ @_;exact bE a 60 (ax.mk (Jz (name:=ke) (T' := "tuple") (id := "tuple.__new__") @_ @_ @_ (by decide +kernel) @_ @_ @_ @_ @_ (ae a 5 ⟨rfl,dd @_ ic (aO a 20 (Kl (He w) (by decide:3<=LY) (λO=>@_) ⟨rfl,rfl⟩))⟩)))
def aDP{x y z:Int}(d:dt A 30):TC w A (af w) (.ref 135) [.int x,.int y,.int z] [] Y λv a8=>v=.mat 135 [.int x,.int y,.int z]/\a8=Y:=aIT (k:=29) (W:=[.int x,.int y,.int z]) (d.mono ⋯) (aDK w) λe a=>(aDg (a.mono ⋯)).mono λv l h=>⟨h.1,rfl,h.2⟩
section
variable{a b:List Ln}{b_ du da dg:Nat}
def rT(s:ah)(ti tj tk:Int):Prop:=ti=s.1/\tj=s.2.1/\tk=s.2.2
structure WF (a b:List Ln) (b_ du da dg i0:Nat) (s:(Int->Nat)×ah) (m:List (Int×AV)) (ti tj tk:Int):Prop where
 g1:b_<=i0
 g2:i0<=du
 inv:li b_ da dg i0 s
 fold:gm (aR a b) da dg (Mu i0 (du-i0)) s=gm (aR a b) da dg (Mu b_ (du-b_)) (λO=>0,(b_,da,0))
 rel:LO m s.1
 e:rT s.2 ti tj tk
def WF.start(e:b_<=du)(d:da<=dg):WF a b b_ du da dg b_ (λO=>0,(b_,da,0)) [] b_ da 0:=⟨LK _,e,li.start d,rfl,LO.nil,rfl,rfl,rfl⟩
structure Wy (b:List Ln) (b_ da dg i0:Nat) (s:(Int->Nat)×ah) (la:Ln) (js:List Nat) (s2:(Int->Nat)×ah) (m2:List (Int×AV)) (ti tj tk:Int):Prop where
 sort:js.Pairwise (· < ·)
 lt:∀j∈js,j<b.length
 inv:li b_ da dg (i0+1) s2
 fold:(within da dg js).foldl (dX s.1 i0) s2=fk (bS b la) da dg i0 s
 rel:LO m2 s2.1
 len:m2.length+js.length<=b.length
 e:rT s2.2 ti tj tk
structure WD (b:List Ln) (b_ da dg i0:Nat) (s:(Int->Nat)×ah) (la:Ln) (m2:List (Int×AV)) (ti tj tk:Int):Prop where
 rel:LO m2 (fk (bS b la) da dg i0 s).1
 inv:li b_ da dg (i0+1) (fk (bS b la) da dg i0 s)
 e:rT (fk (bS b la) da dg i0 s).2 ti tj tk
def Ax{a b:Nat}(q : ¬ (a:Int)<b):b<=a:=OX.mp λh=>q (OR.mpr h)
def GL{a b:Nat}(q : ¬ (a:Int)<=b):b<a:=QH.mp λh=>q (Pb.mpr h)
def aEj{x m b:Nat}(d:x<=m+1)(a:m+(j+1)<=b):x+j<=b:=Mc (OK d _) (Mc (Oz (Oy ..)) a)
def DD{m:Nat}(h:m<n):n-m=n-(m+1)+1:=(QJ (QQ h)).symm
def DC{D:Nat}(h:D<=i):(i:Int)-((D:Int)+1)+1=((i-D:Nat):Int):=by rw[Int.ofNat_sub h,<-Int.sub_sub,Th]
variable{D:Nat}{s L:(Int->Nat)×ah}{m H:List (Int×AV)}{ti tj tk:Int}{F:Ln}{M:List Nat}
def WF.inn(h:WF a b b_ du da dg D s m ti tj tk):Wy b b_ da dg D s F (bS b F) (λO=>0,s.2) [] ti tj tk:=⟨HK b F,λj d=>aE0 d,h.inv.row,rfl,LO.nil,by simpa using aE1 b F,h.e⟩
def Wy.low(h:Wy b b_ da dg D s F (j::M) L H ti tj tk)(q:(j:Int)<da):Wy b b_ da dg D s F M L H ti tj tk:=⟨(NI.mp h.sort).2,λd a=>h.lt d (KP _ a),h.inv,by rw[<-h.fold,aAn (OR.mp q)],h.rel,Mc (OE (Pp _) _) h.len,h.e⟩
def Wy.done(h:Wy b b_ da dg D s F M L H ti tj tk)(q:within da dg M=[]):WD b b_ da dg D s F H ti tj tk:=by
 have f:=h.fold;rw[q] at f;have f:L=_:=f;exact⟨f▸h.rel,f▸h.inv,f▸h.e⟩
def Wy.out(h:Wy b b_ da dg D s F (j::M) L H ti tj tk)(q:(dg:Int)<=j):WD b b_ da dg D s F H ti tj tk:=h.done (aAm h.sort (Pb.mp q))
def Wy.room(h:Wy b b_ da dg D s F (j::M) L H ti tj tk):H.length<=b.length:=Mc (Ow _ _) h.len
def Wy.go(h:Wy b b_ da dg D s F (j::M) L H ti tj tk)(r:WF a b b_ du da dg D s m t g c)(q : ¬ (j:Int)<da)(k : ¬ (dg:Int)<=j){i e uk:Int}(n:rT (dX s.1 D L j).2 i e uk):Wy b b_ da dg D s F M (dX s.1 D L j) (fj H (j:Int) (.int (((s.1 ((j:Int)-1):Nat):Int)+1))) i e uk:=by
 have f:=h.fold;simp only[aAo (Ax q) (GL k),Mr] at f;exact⟨(NI.mp h.sort).2,λl d=>h.lt l (KP _ d),r.inv.step h.inv r.g1 (Ax q) (GL k),f,h.rel.store (j:Int) (s.1 ((j:Int)-1)+1),aEj (aBb ..) h.len,n⟩
def Wy.hit(h:Wy b b_ da dg D s F (j::M) L H ti tj tk)(r:WF a b b_ du da dg D s m g f c)(q : ¬ (j:Int)<da)(d : ¬ (dg:Int)<=j)(i:tk<((s.1 ((j:Int)-1):Nat):Int)+1):Wy b b_ da dg D s F M (dX s.1 D L j) (fj H (j:Int) (.int (((s.1 ((j:Int)-1):Nat):Int)+1))) (D-(((s.1 ((j:Int)-1):Nat):Int)+1)+1) (j-(((s.1 ((j:Int)-1):Nat):Int)+1)+1) (((s.1 ((j:Int)-1):Nat):Int)+1):=by
 refine aD (r.inv.len r.g1 (j:=j) (Ax q)) λl k=>h.go r q d ?_;unfold dX;rewrite (occs:=.all) [if_pos (OR.mp (h.e.2.2▸i))]
 exact⟨DC (Mc l (OL ..)),DC (Mc k (OL ..)),rfl⟩
def Wy.miss(h:Wy b b_ da dg D s F (j::M) L H ti tj tk)(r:WF a b b_ du da dg D s m t g f)(q : ¬ (j:Int)<da)(d : ¬ (dg:Int)<=j)(i : ¬ tk<((s.1 ((j:Int)-1):Nat):Int)+1):Wy b b_ da dg D s F M (dX s.1 D L j) (fj H (j:Int) (.int (((s.1 ((j:Int)-1):Nat):Int)+1))) ti tj tk:=by
 refine h.go r q d ?_;unfold dX;rw[if_neg λc=>i (h.e.2.2▸OR.mpr c)];exact h.e
def WF.next(r:WF a b b_ du da dg D s m g f c)(i:D<du)(d:a[D]?=Wu F)(h:WD b b_ da dg D s F H ti tj tk):WF a b b_ du da dg (D+1) (fk (bS b F) da dg D s) H ti tj tk:=by
 refine⟨ON r.g1,i,h.inv,?_,h.rel,h.e⟩;rw[<-r.fold,DD i,ND];show _=gm _ _ _ _ (fk (aR a b D) da dg D s);rw[show aR a b D=bS b F by unfold aR;rw[d];rfl]
structure iy (b:List Ln) (C:Int) (y:Ln):Prop where
 at':(b.map AV.ln)[C.toNat]?=Wu (.ln y)
 raw:b[C.toNat]?=Wu y
 pos:0<=C
 lt:C<b.length
def aEM{b:List Ln}{z:Int}(h0:0<=z)(d:z<b.length):∃y,iy b z y:=by
 have a:z.toNat<b.length:=(Int.toNat_lt h0).mpr d;exact⟨b[z.toNat],by rw[Ma,LF a];rfl,LF a,h0,d⟩
structure Lf (e:Nat->Nat->Bool) (b_ du da dg:Nat) (t:ah) (ti tj tk:Int) (n:Nat):Prop where
 run:∃i j k:Nat,ti=i/\tj=j/\tk=k/\n=i/\b_<=i/\da<=j/\i+k<=du/\j+k<=dg/\cn e b_ da i j k=t
structure Lx (b_ du da dg:Nat) (t:ah) (ti tj tk:Int):Prop where
 e:rT t ti tj tk
 h1:b_<=t.1
 h2:da<=t.2.1
 h3:t.1+t.2.2<=du
 h4:t.2.1+t.2.2<=dg
variable{t:ah}{x y:Ln}
def WF.lf(r:WF a b b_ du da dg du s m ti tj tk):Lf (aH a b) b_ du da dg (cn (aH a b) b_ da s.2.1 s.2.2.1 s.2.2.2) ti tj tk s.2.1:=⟨_,_,_,r.e.1,r.e.2.1,r.e.2.2,rfl,r.inv.b1,r.inv.b3,r.inv.b2,r.inv.b4,rfl⟩
def rz{b:List Ln}(h:j<b.length):∃y,iy b (j:Int) y:=⟨b[j],by simp only[LX,Ma,LF h];rfl,LF h,OG j,OR.mpr h⟩
def kr(j:Nat):((j+1:Nat):Int)-1=j:=PG j 1
def iy.nat{y:Ln}(h:iy b (j:Int) y):b[j]?=Wu y:=h.raw
def rk{m l:Nat}(h:j+1+k<=m)(a:m<=l):j<l:=OA (OA (NC j) (Mc (Ow _ k) h)) a
def re{m:Nat}{P:Prop}(q:(m:Int)<((0:Nat):Int)):P:=absurd (OR.mp q) (PN m)
def Lf.item(h:Lf e b_ du da dg t ti tj tk n)(d:dg<=b.length)(q:(da:Int)<tj):∃y,iy b (tj-1) y:=by
 refine xq h.run λi j k r m p v u s o l a=>?_;clear a;subst m;cases j with
 |zero=>exact re q
 |succ j=>rw[kr];exact rz (rk l d)
def Lf.itemA(h:Lf e b_ du da dg t ti tj tk n)(d:du<=a.length)(q:(b_:Int)<ti):∃y,iy a (ti-1) y:=by
 refine xq h.run λi j k m r p v u s l o b=>?_;clear b;subst m;cases i with
 |zero=>exact re q
 |succ i=>rw[kr];exact rz (rk l d)
def Lf.go(h:Lf (aH a b) b_ du da dg t ti tj tk n)(q1:(b_:Int)<ti)(q2:(da:Int)<tj)(e:iy a (ti-1) x)(d:iy b (tj-1) y)(p:(x==y)=Ww):(ti-1).toNat<n/\Lf (aH a b) b_ du da dg t (ti-1) (tj-1) (tk+1) (ti-1).toNat:=by
 refine xq h.run λi j k D z v u F E s r o=>?_;subst D;subst z;subst v;subst u;cases n with
 |zero=>exact re q1
 |succ i =>
  cases j with
  |zero=>exact re q2
  |succ j =>
   rw[kr] at e d;rw[kr,kr];have m:=OR.mp q1;have l:=OR.mp q2;exact⟨NC i,i,j,k+1,rfl,rfl,rfl,rfl,Pe m,Pe l,by rw[<-OF,Qi];exact s,by rw[<-OF,Qi];exact r,
    by rw[<-o,aGw m l ((wz e.nat d.nat).trans p)]⟩
def Lf.stop(h:Lf (aH a b) b_ du da dg t ti tj tk n)(q : ¬ ((b_:Int)<ti/\(da:Int)<tj/\∀x y,iy a (ti-1) x->iy b (tj-1) y->(x==y)=Ww))(F:du<=a.length)(E:dg<=b.length):Lx b_ du da dg t ti tj tk:=by
 refine xq h.run λi j k M L K J H G z v u=>?_;subst M;subst L;subst K;subst J;have f:cn (aH a b) b_ da n j k=(n,j,k):=by
  by_cases e:b_<n
  ·by_cases d:da<j
   ·cases n with
    |zero=>exact absurd e (PN _)
    |succ i =>
     cases j with
     |zero=>exact absurd d (PN _)
     |succ j =>
      have p:=rk z F;have l:=rk v E;refine aGs ?_;rw[wz (LF p) (LF l)];refine PQ.mpr λD=>q ⟨OR.mpr e,OR.mpr d,λx y o m=>?_⟩;rw[kr] at o m;have s:=o.nat;have r:=m.nat;rw[LF p] at s;rw[LF l] at r;cases s;cases r;exact D
   ·exact aGt d
  ·exact aGu e
 rw[f] at u;subst u;exact⟨⟨rfl,rfl,rfl⟩,H,G,z,v⟩
structure Rt (e:Nat->Nat->Bool) (du dg:Nat) (t:ah) (tk:Int) (n:Nat):Prop where
 run:∃k:Nat,tk=k/\n=du-(t.1+k)/\t.1+k<=du/\t.2.1+k<=dg/\ez e du dg t.1 t.2.1 (du-(t.1+k)) k=ez e du dg t.1 t.2.1 (du-(t.1+t.2.2)) t.2.2
structure Rx (e:Nat->Nat->Bool) (du dg:Nat) (t:ah) (tk:Int):Prop where
 e:tk=(ez e du dg t.1 t.2.1 (du-(t.1+t.2.2)) t.2.2:Nat)
 h3:t.1+tk<=du
 h4:t.2.1+tk<=dg
 h5:0<=tk
def Lx.rt(h:Lx b_ du da dg t ti tj tk):Rt e du dg t tk (du-(t.1+t.2.2)):=⟨t.2.2,h.e.2.2,rfl,h.h3,h.h4,rfl⟩
def Rt.item(h:Rt e du dg t tk n)(l:Lx b_ du da dg t ti tj c)(a:dg<=b.length)(q:tj+tk<dg):∃y,iy b (tj+tk) y:=by
 refine ag h.run λk d i=>?_;clear i;rw[l.e.2.1,d] at q ⊢;exact rz (OA (OR.mp q) a)
def Rt.itemA(h:Rt e du dg t tk n)(l:Lx b_ du da dg t ti tj c)(b:du<=a.length)(q:ti+tk<du):∃y,iy a (ti+tk) y:=by
 refine ag h.run λk d i=>?_;clear i;rw[l.e.1,d] at q ⊢;exact rz (OA (OR.mp q) b)
def Rt.go(h:Rt (aH a b) du dg t tk n)(l:Lx b_ du da dg t ti tj c)(q1:ti+tk<du)(q2:tj+tk<dg)(m:iy a (ti+tk) x)(j:iy b (tj+tk) y)(r:(x==y)=Ww):n-1<n/\Rt (aH a b) du dg t (tk+1) (n-1):=by
 refine CM h.run λk d s v u o=>?_;rw[l.e.1,d] at q1 m;rw[l.e.2.1,d] at q2 j;subst d;subst s;have i:t.1+k<du:=OR.mp q1;have p:t.2.1+k<dg:=OR.mp q2;have e:=DD i;rw[e] at o ⊢;exact⟨NC _,k+1,rfl,rfl,i,p,by rw[<-o,aGq i p ((wz (iy.nat (b:=a) m) (iy.nat j)).trans r)];rfl⟩
def Rt.stop(h:Rt (aH a b) du dg t tk n)(l:Lx b_ du da dg t ti tj g)(q : ¬ (ti+tk<du/\tj+tk<dg/\∀x y,iy a (ti+tk) x->iy b (tj+tk) y->(x==y)=Ww)):Rx (aH a b) du dg t tk:=by
 refine CM h.run λk i r p o d=>?_;rw[l.e.1,l.e.2.1,i] at q;have f:ez (aH a b) du dg t.1 t.2.1 (du-(t.1+k)) k=k:=Iv λc=>q ⟨OR.mpr c.1,OR.mpr c.2.1,λx y m j=>(wz (iy.nat (b:=a) m) (iy.nat j)).symm.trans c.2.2⟩
 rw[f] at d;subst i;exact⟨by rw[d],Pb.mpr p,Pb.mpr o,OG k⟩
def WF.last(r:WF a b b_ du da dg du s m ti tj tk):cw (aH a b) (aR a b) b_ du da dg=((cn (aH a b) b_ da s.2.1 s.2.2.1 s.2.2.2).1,(cn (aH a b) b_ da s.2.1 s.2.2.1 s.2.2.2).2.1,
  ez (aH a b) du dg (cn (aH a b) b_ da s.2.1 s.2.2.1 s.2.2.2).1 (cn (aH a b) b_ da s.2.1 s.2.2.1 s.2.2.2).2.1 (du-((cn (aH a b) b_ da s.2.1 s.2.2.1 s.2.2.2).1+(cn (aH a b) b_ da s.2.1 s.2.2.1 s.2.2.2).2.2)) (cn (aH a b) b_ da s.2.1 s.2.2.1 s.2.2.2).2.2):=by
 have f:=r.fold;rw[Tr] at f;have f:s=_:=f;unfold cw;rw[<-f]
def Lx.item(l:Lx b_ du da dg t ti tj tk)(d:dg<=b.length)(q:(da:Int)<tj):∃y,iy b (tj-1) y:=by
 rw[l.e.2.1] at q ⊢;have a:=l.h4;revert a q;cases t.2.1 with
 |zero=>exact λq O=>re q
 |succ j=>rw[kr];exact λO a=>rz (rk a d)
def Rx.item(x:Rx e du dg t tk)(l:Lx b_ du da dg t ti tj c)(a:dg<=b.length)(q:tj+tk<dg):∃y,iy b (tj+tk) y:=aEM (Int.add_nonneg (l.e.2.1▸OG _) x.h5) (RS q (Pb.mpr a))
def WF.res(r:WF a b b_ du da dg du s m q h g)(l:Lx b_ du da dg (cn (aH a b) b_ da s.2.1 s.2.2.1 s.2.2.2) ti tj f)(x:Rx (aH a b) du dg (cn (aH a b) b_ da s.2.1 s.2.2.1 s.2.2.2) tk)(c:LP):AV.mat c [.int ti,.int tj,.int tk]=.mat c [.int (cw (aH a b) (aR a b) b_ du da dg).1,.int (cw (aH a b) (aR a b) b_ du da dg).2.1,.int (cw (aH a b) (aR a b) b_ du da dg).2.2]:=by
 rw[r.last,l.e.1,l.e.2.1,x.e]
end
abbrev lh(a b:List Ln)(j i pp:LP)(e d:AV:=.any):List (Str×AV):=[(oZ,.none),(dT,.lst (a.map .ln)),(dG,.lst (b.map .ln)),(tm,.bool Ww),(th,e),(yM,d),(yL,.none),(oX,.ref j),(yI,.ref i),(yG,.ref pp)]
abbrev fD(d l k n:LP)(a b:List Ln)(b_ du da dg:Nat)(i j e:AV)(ti tj tk:Int):List (Str×AV):=[(sX,.int dg),(sY,.int da),(sZ,.int du),(tc,.int b_),(q6,.inst 242 d),(lX,i),(yw,j),(yv,e),(oW,.any),(q1,.any),(dT,.lst (a.map .ln)),(dG,.lst (b.map .ln)),(oX,.ref l),
  (yC,.bm "set.__contains__" (.ref k)),(yz,.int tk),(yA,.int tj),(yB,.int ti),(yy,.ref n),(yx,.lst [])]
abbrev HG(i:Nat):AV:=.int (i:Int)
section
variable(w:Lz)(d D q:LP)(a b:List Ln)(b_ du da dg:Nat)(c:aa)
def JI(n:List Nat)(P:St->Prop):Prop:=∀e s m i l k j,n=Mu e (du-e)->WF a b b_ du da dg e s m l k j->(i==Nl)=Wx ->
 P ⟨fD d D q i a b b_ du da dg .any .any .any l k j,(i,aA (NV ab w) m)::c⟩
variable(C:Nat)(s:(Int->Nat)×ah)(m:List (Int×AV))(F:Ln)(h d1:LP)(nt:aa)
def JJ(l:List Nat)(P:St->Prop):Prop:=∀k j i e c,Wy b b_ da dg C s F l k j i e c ->
 P ⟨fD d D q h a b b_ du da dg (.int C) (.bm "dict.get" (.ref h)) (.ref d1) i e c,(d1,aA (NV ab w) j)::(h,aA (NV ab w) m)::nt⟩
end
def aB5(h:i<=n)(e:[]=Mu i (n-i)):i=n:=PB h (Sz (List.range'_eq_nil_iff.mp e.symm))
def yt{a:List Nat}(e:j::a=Mu i (n-i)):i=j/\j<n/\a=Mu (j+1) (n-(j+1)):=have h:=List.range'_eq_cons_iff.mp e.symm
 ⟨h.1,h.1▸Ts h.2.1,h.2.2.trans (congrArg (Mu (j+1)) (h.1▸(Nat.sub_sub ..)))⟩
def aHZ(b_ du:Nat):fm (b_:Int) (du:Int)=eC (Mu b_ (du-b_)):=Ej b_ du
def jF{C:Int}{y:Ln}(i:iy b C y)(a:b.length<10^6)(h:K (.ln y) V):F2 w A B z Val QN (.lst (b.map .ln)) (.int C) V K:=aE .frz i.pos (by have:=i.lt;omega) i.at' h
def aGd{a b:List Ln}{du:Nat}(hA:dt A 60)(ha:a.length<10^6)(X:b.length<10^6)
  (h1:b_<=du) (h2:du<=a.length) (h3:da<=dg) (U:dg<=b.length) (XC:(t==Nl)=Wx) (Xy:∀k,(bo mm k).getD (.lst [])=.lst (eC (bS b k))):TC w A (af w) (.ref 196) [.inst 242 d,.int b_,.int du,.int da,.int dg] [] ((d,bO (lh a b t C pp vm vo))::(t,aA (bZ ab w) mm)::(C,ed)::Y) λv a8 =>
   v=.mat 135 [.int (cw (aH a b) (aR a b) b_ du da dg).1,.int (cw (aH a b) (aR a b) b_ du da dg).2.1,.int (cw (aH a b) (aR a b) b_ du da dg).2.2] /\
   a8=((d,bO (lh a b t C pp vm vo))::(t,aA (bZ ab w) mm)::(C,ed)::Y):=by
 refine m1 (en [(sX,.int dg),(sY,.int da),(sZ,.int du),(tc,.int b_),(q6,.inst 242 d),(lX,.any),(yw,.any),(yv,.any),(oW,.any),(q1,.any),(dT,.any),(dG,.any),(oX,.any),(yC,.any),(yz,.any),(yA,.any),(yB,.any),(yy,.any),(yx,.any)] (bq w) hA.lt (λO O O O O=>@_) @_ @_ (aF5 _) λL hL=>?_);have G:=hA.deeper (k:=57) (z:=av (ak (gV w.params)) L 196 195);have hh:=G.h;have p:=(((((gk w (A.deeper _) (ak (gV w.params)) L 196 195 @_ @_ hh).g (Ie w) @_ @_).g (wt w) @_ @_)).f (f:=135) (bw @_)).m ⟨Ev,2, "dict.get"⟩ F.plainAttrs_dict aBz F.type_dict_get;generalize E:((d,bO (lh a b t C pp vm vo))::(t,aA (bZ ab w) mm)::(C,ed)::Y)=qa;have R:(d,bO (lh a b t C pp vm vo))∈qa:=E▸KJ ..;have YD:(t,aA (bZ ab w) mm)∈qa:=E▸KP _ (KJ ..);have J:(C,ed)∈qa:=E▸KP _ (KP _ (KJ ..));clear E;generalize av (ak (gV w.params)) L 196 195=z at p G hh ⊢;generalize A.deeper z=A1 at p G hh ⊢;refine bE p 100 ?_;refine ax.mk (eI (bd _) @_ R (v:=.lst (a.map .ln)) @_ rfl ?_);refine ax.mk (eI (bd _) @_ R (v:=.lst (b.map .ln)) @_ rfl ?_);refine ax.mk (eI (bd _) @_ R (v:=.ref t) @_ rfl ?_);refine ax.mk (eI (bd _) @_ R (v:=.ref C) @_ rfl ?_);refine ax.mk (aKl J ?_);refine ax.mk (Ce (c_:=NV ab w) λo j5 ZT=>?_);refine ax.mk (cH rfl λnn g6=>?_);refine ax.mk (m5 (a:=nn) (W:=[]) (ft:=fD d t C o a b b_ du da dg .any .any .any b_ da 0) (by repeat constructor) ?_);refine BR (k:=5) HG (JI w d t C a b b_ du da dg qa) (G.mono ⋯) (ae p 60 (ax.mk (aJp (aKh (k:=5) ⋯ ⋯ ⋯ ⋯ λit H hI => .mk hI (aHZ b_ du▸.mk (λO y=>y _ _ _ o _ _ _ rfl (WF.start h1 h3) (AD ZT)) @_))))) ?_ ?_ λO=>@_
 ·intro H i0 is j0 s m o ti tj i e r hd;have hi:=(yt e).2.1;have r:=(yt e).1▸r;have e:=(yt e).2.2;refine al (⟨_,LF (OA hi h2)⟩:∃N,a[i0]?=Wu N) λN Xr=>⟨rfl,bE p 60 ?_⟩;refine ax.mk (aKk (c_:=NV ab w) (KJ ..) ?_);refine ax.mk (Ce (c_:=NV ab w) λK j4 ZS=>?_);refine ax.mk (T.joinW (λP=>∀M ti tj i,WD b b_ da dg i0 s N M ti tj i->P ⟨fD d t C o a b b_ du da dg (.int i0) (.bm "dict.get" (.ref o)) (.ref K) ti tj i,(K,aA (NV ab w) M)::(o,aA (NV ab w) m)::(qa++H)⟩) ?_ λM ti tj i h=>⟨(K,aA (NV ab w) M)::(qa++H),⟨[(o,aA (NV ab w) m)],Nc _ _ _⟩,.next (l:=(K,aA (NV ab w) M)::qa) (.mk (λO y=>y _ _ _ K _ _ _ e (r.next hi Xr h) (AD ZS)) @_)⟩);refine BR (k:=5) HG (JJ w d t C a b b_ du da dg i0 s m N o K (qa++H)) (G.mono ⋯) ?_ ?_ (λO O O O O h => .mk (λO y=>y _ _ _ _ (h.done rfl)) @_) λO=>@_
  ·refine ae p 60 ⟨lS (c_:=bZ _ _) (KP _ (KP _ (Mn _ YD))),?_⟩;refine ax.mk (aE .frz ⋯ ⋯ (x:=(.ln N)) (by simp[Xr]) ?_);exact ax.mk (aJA XC (Hx N) (KP _ (KP _ (Mn _ YD))) (Xy N) (fc (k:=5) λit d5 hI => .mk hI (.mk (λO y=>y _ _ _ _ _ r.inn) @_)))
  ·intro d5 j js s2 M ti tj i h;refine⟨rfl,bE p 60 (bN (λZ => .cont (l:=(K,_)::(o,aA (NV ab w) m)::(qa++H)) (.mk (λO y=>y _ _ _ _ _ (h.low Z)) @_)) λZ=>bN (λV => .brk (l:=(K,_)::(o,aA (NV ab w) m)::(qa++H)) (.mk (λO y=>y _ _ _ _ (h.out V)) @_)) λV=>?_)⟩;refine ax.mk (gG rfl rfl rfl (ae p 60 (ax.mk (aJO (c_:=NV ab w) (m:=m) hd (Hy _) (KP _ (KJ ..)) (r.rel _) (bQ (aW rfl (sd (ae p 20 (ae p 20 ?_)))))))));exact aJS (c_:=NV ab w) (m:=M) (k:=(j:Int)) .here (Hy _) (Mc h.room (by rw[Mz];omega)) (bN (λS => .next (l:=(K,_)::(o,aA (NV ab w) m)::(qa++H)) (.mk (λO y=>y _ _ _ _ _ (h.hit r Z V S)) @_)) λS => .next (l:=(K,_)::(o,aA (NV ab w) m)::(qa++H)) (.mk (λO y=>y _ _ _ _ _ (h.miss r Z V S)) @_))
 ·intro i0 s m o ti tj i e r _;have r:=aB5 r.g2 e▸r;refine ax.mk (T.drop (l7 (KL (fD d t C o a b b_ du da dg .any .any .any) qa (Lx b_ du da dg (cn (aH a b) b_ da s.2.1 s.2.2.1 s.2.2.2))) ?_ λti tj d3 l=>?_))
  ·refine oA (JL (fD d t C o a b b_ du da dg .any .any .any) qa (Lf (aH a b) b_ du da dg _)) (λn ti tj i h=>?_) (JL.mk r.lf);refine aV p 60 (bN (λq1=>bN (λq2=>?_) λq2=>KL.mk (h.stop (λc=>q2 c.2.1) h2 U)) λq1=>KL.mk (h.stop (λc=>q1 c.1) h2 U));refine(h.item U q2).elim λy u=>(h.itemA h2 q1).elim λx Q=>?_;refine ax.mk (jF u X (ax.mk (xi J (ax.mk (jF Q ha (ax.mk (jF u X (ax.mk (CE ?_)))))))));refine cA (λD=>bE p 60 ⟨_,(h.go q1 q2 Q u D).1,JL.mk (h.go q1 q2 Q u D).2⟩) λD=>KL.mk (h.stop (λc=>?_) h2 U);exact LZ (D.symm.trans (c.2.2 x y Q u))
  ·refine ax.mk (l7 (KL (λO O i=>fD d t C o a b b_ du da dg .any .any .any ti tj i) qa λO O i=>Rx (aH a b) du dg (cn (aH a b) b_ da s.2.1 s.2.2.1 s.2.2.2) i) ?_ λO O i x=>?_)
   ·refine oA (JL (λO O i=>fD d t C o a b b_ du da dg .any .any .any ti tj i) qa (λO O i=>Rt (aH a b) du dg _ i)) (λn O O i h=>?_) (JL.mk (ti:=0) (tj:=0) l.rt);refine aV p 60 (bN (λq1=>bN (λq2=>?_) λq2=>m3 (λO y=>y 0 0 _ (h.stop l λc=>q2 c.2.1)) @_) λq1=>m3 (λO y=>y 0 0 _ (h.stop l λc=>q1 c.1)) @_);refine(h.item l U q2).elim λy u=>(h.itemA l h2 q1).elim λx Q=>?_;refine ax.mk (jF u X (ax.mk (xi J (ax.mk (jF Q ha (ax.mk (jF u X (ax.mk (CE ?_)))))))));refine cA (λD=>bE p 60 ⟨_,(h.go l q1 q2 Q u D).1,JL.mk (ti:=0) (tj:=0) (h.go l q1 q2 Q u D).2⟩) λD=>m3 (λO q=>q 0 0 _ (h.stop l λc=>?_)) @_;exact LZ (D.symm.trans (c.2.2 x y Q u))
   ·refine ax.mk (l7 (λP=>P ⟨fD d t C o a b b_ du da dg .any .any .any ti tj i,qa⟩) ?_ ?_)
    ·refine oA (λO P=>P ⟨fD d t C o a b b_ du da dg .any .any .any ti tj i,qa⟩) (λO=>?_) (n:=0) ⟨_,m6 _,λO y=>y⟩;refine aV p 60 (bN (λq1=>bN (λq2=>?_) λq2=>Nx.id) λq1=>Nx.id);exact(l.item U q2).elim λy u=>ax.mk (jF u X (ax.mk (xi J Nx.id)))
    ·refine ax.mk (l7 (λP=>P ⟨fD d t C o a b b_ du da dg .any .any .any ti tj i,qa⟩) ?_ ?_)
     ·refine oA (λO P=>P ⟨fD d t C o a b b_ du da dg .any .any .any ti tj i,qa⟩) (λO=>?_) (n:=0) ⟨_,m6 _,λO y=>y⟩;refine aV p 60 (bN (λq1=>bN (λq2=>?_) λq2=>Nx.id) λq1=>Nx.id);exact(x.item l U q2).elim λy u=>ax.mk (jF u X (ax.mk (xi J Nx.id)))
     ·refine ax.mk (ge (aDP (G.mono ⋯)) λv a8 h=>?_);exact fL _ (.refl _) (h.1.trans (r.res l x 135)) h.2
section
variable{N:aa}
def jo(f:AV)(it:LP)(Z:eb)(o:Obj):Prop:=∃a d,o={ cls:=.type "map",data:=.fields #[.ref a,d]}/\Z a=Wu {cls:=.type "tuple",data:=.seq #[.ref it]}/\Val Z f d
def nV(Z a:eb)(o:Obj)(k:eb.le Z a)(x:jo f it Z o):jo f it a o:=x.imp λO h=>h.imp λO h=>⟨h.1,k _ _ h.2.1,h.2.2.mono k⟩
abbrev dp(m it:LP)(f:AV)(W:List AV)(i:Nat)(a:aa):aa:=(m,.obj (jo f it) nV)::(it,.obj (io W i) lu)::a
def rj(S:ca B s Z (dp m it f W i b++Y)):s.TypeIs (.ref m) "map":=ag (S.own _ (KJ ..)) λd a h=>h.elim λO h=>h.elim λO h=>cL d a (h.1▸rfl)
def zr{a:LP×el}{l r:aa}:(a::b::(l++r)).Perm (l++a::b::r):=(NN a (MT (l₁:=l) (l₂:=r) (a:=b)).symm).trans (MT (l₁:=l) (l₂:=b::r) (a:=a)).symm
def eg.map(z:ys.length=W.length)
  (hf:∀(i:Nat) x y,W[i]?=Wu x->ys[i]?=Wu y->∀A',dt A' k->∀Y,kn N Y->TC w A' B f [x] [] (c++Y) λv a8=>v=y/\a8=c++Y):∀(d i:Nat),i+d=W.length->eg w B N (k+1) oM m (ys.drop i) (dp m it f W i c):=by
 intro d;induction d with
 |zero =>
  intro i C;have C:i=ys.length:=((Tt i).symm.trans C).trans z.symm;subst C;rw[Sd];intro A hA Y hN s Z S Q E hQ;refine ag (S.own _ (KJ ..)) λom K t=>bA t λtt fx e_ J H=>?_;subst e_;refine ag (S.own _ (KP _ (KJ ..))) λX R t=>fM t λl j n hc hd L M=>aDM hA.h K (S.frozen _ _ J) ⟨X,R,hc,hd⟩ ⟨_,S.frozen _ _ L,rfl,n,rfl⟩ ((Pd ..).trans (MX (z▸Oz M.length))) λh' hx=>?_;have P:=ca.stepE (gl:=dp m it f W ys.length c) (s':={ s with heap:=h' }) S (λb o hb q=>hx b o (λy=>hb (y▸KP _ (KJ ..))) q) rfl rfl;exact hQ _ Z P.1 P.2
 |succ d ih =>
  intro i C;have g:i<W.length:=C▸OO (Pf d);have G:i<ys.length:=z▸g;rw[MP G];intro A hA Y hN s Z S Q E hQ;refine ag (S.own _ (KJ ..)) λom K t=>bA t λtt fx e_ J H=>?_;subst e_;refine ag (S.own _ (KP _ (KJ ..))) λX R t=>fM t λl j n hc hd L M=>?_;have Zm:m≠it:=λq=>(Lp.mp S.nodup).1 (q▸KJ ..);refine ag (M.get (LF g)) λu hu hV=>Hf K (S.frozen _ _ J) ⟨X,R,hc,hd⟩ ⟨_,S.frozen _ _ L,rfl,n,rfl⟩ (x:=u) ((Pd ..).trans hu) Zm λh' F Yh=>bn F λU D Xk ZC=>?_;have P:=S.upd (a8:=dp m it f W (i+1) c++Y) (.there .here) (h':=h') (tk:=s.toks) (λb ob hb e=>(Yh.2 b hb).trans e) rfl rfl ⟨U,D,l,j,n,Xk,ZC,L,M⟩;refine NB (hf i _ _ (LF g) (LF G) A.in1 hA.in1 ((m,.obj (jo f it) nV)::(it,.obj (io W (i+1)) lu)::Y) (λp hp=>KP _ (KP _ (hN p hp))) _ Z fx [u] [] (P.1.perm (zr (l:=c) (r:=Y))) H (.cons hV .nil) .nil _
   λv y s' Z' a8 kk S' V X'=>?_)
  have k1:=kk.1;have k2:=kk.2;subst k1;subst k2;exact KN (hQ s' Z' y (dp m it f W (i+1) c) (S'.perm (zr (l:=c) (r:=Y)).symm) V (P.2.trans ((cB (zr (a:=(m,el.obj (jo f it) nV)) (b:=(it,el.obj (io W (i+1)) lu)) (l:=c) (r:=Y)))▸X'))
   (ih (i+1) ((Oy i d).trans C)))
def rg(S:ca B s Z (dp m it f W i b++Y))(h:Q (.ref m) s):LC (Ly ab w) A (Pz (.ref m)) Q E s:=by
 refine ag (S.own _ (KJ ..)) λo a k=>bA k λn p l e j=>?_;subst l;have d:s.TypeIs (.ref m) "map" := ⟨_,a,rfl⟩;refine wpAny_pyIter_slot d DQ (Mb DQ d aGI ?_ (aH8 _));show LC _ _ (ret (.ref m)) _ _ s;exact KN ⟨_,rfl, "map",_,d,sO.lookup,h⟩
def oF(h:∀m it,R (.ref m) ⟨a6,dp m it f W 0 []++Y⟩):FC w A B z (.typ "map") [f,.lst W] [] ⟨a6,Y⟩ R:=FC.t λs Z S Q E J=>om <| λj N=>om <| λO K=>Zq <| by
 refine bL (rA K) λa d n v e x=>?_;subst v;have G:s.heap.IsList a d.toArray:=⟨_,S.frozen _ _ e,rfl,n,rfl⟩;refine callType_new aHE ⋯ (aAM _ _) (aDi _ _) (λi=>F.args_object_init_3 i _ _) aGH
  (Meets.of_wp (S:=λO R s=>s.heap.IsList a d.toArray/\R (.ok (.ret (.ref (s.heap.objs.size+2)))) {s with heap:=((s.heap.push {cls:=.type "list_iterator",data:=.fields #[.ref a,.int 0 0]}).push {cls:=.type "tuple",data:=.seq #[.ref s.heap.objs.size]}).push {cls:=.type "map",data:=.fields #[.ref (s.heap.objs.size+1),j]} })
   λab w A R s p=>aBW p.1 ⟨_,rfl,p.2⟩) ⟨G,?_⟩
 have l:=S.toca.push (o:={ cls:=.type "list_iterator",data:=.fields #[.ref a,.int 0 0]}) (ao:=.obj (io W 0) lu) rfl s.toks ⟨_,Lc _ rfl,a,d,n,rfl,rfl,e,x⟩;have k:=l.1.pushZ (o:={ cls:=.type "tuple",data:=.seq #[.ref s.heap.objs.size]}) rfl s.toks;have u:(s.heap.push {cls:=.type "list_iterator",data:=.fields #[.ref a,.int 0 0]}).objs.size=s.heap.objs.size+1:=Od ..;have r:((s.heap.push {cls:=.type "list_iterator",data:=.fields #[.ref a,.int 0 0]}).push {cls:=.type "tuple",data:=.seq #[.ref s.heap.objs.size]}).objs.size=s.heap.objs.size+2:=by rw[Od,u]
 have P3:=k.1.push (o:={ cls:=.type "map",data:=.fields #[.ref (s.heap.objs.size+1),j]}) (ao:=.obj (jo f s.heap.objs.size) nV) rfl s.toks ⟨_,Lc _ rfl,s.heap.objs.size+1,j,rfl,by rw[<-u];exact l2 ..,N.mono (l.2.le.trans k.2.le)⟩;have X:=(l.2.trans k.2).trans P3.2;have y:=J _ (.ref (((s.heap.push {cls:=.type "list_iterator",data:=.fields #[.ref a,.int 0 0]}).push {cls:=.type "tuple",data:=.seq #[.ref s.heap.objs.size]}).objs.size)) _ _ ⟨a6,dp _ s.heap.objs.size f W 0 []++Y⟩ (h _ _) (S.after P3.1 X) (.ref _) X.toF;refine⟨⟨_,by rw[<-r];exact Lc _ rfl,rfl⟩,?_⟩;rw[<-r];exact y
end
section
variable{K:Frag}
def aGE:PW table "tuple.__len__" = Wu Builtin.«tuple.__len__» := Nv @_
def aJx(l:Mi K ⟨ab,w.params⟩ (Oa (.ref C) (.type "tuple"))=Wu Ww)(p:Mi K ⟨ab,w.params⟩ (MF (.ref C) "__len__")=Wu (Wu (.builtin "tuple.__len__")))
  (J:W.length<2^62) (h:R (.int W.length) V):FC w A (am K) z (.blt "len") [.mat C W] [] V R:=n5 λs Z S Q E G=>om <| λO k=>Zq <| by
 refine eK (Bb k) λa d j n v e y=>?_;clear k;subst v;have X:=dK S.base S.frozen;have u:=S.frozen _ _ e;have r:Uv (Ly ab w) s.heap (Qw (.ref a)) (.ref C):=(SA u).andThen .now;have o:j.length=W.length:=y.length;refine RU kind_len plain_len entry_len (args_len1 _) ?_;unfold Builtin.«len»;refine KI (m:=oneArg "len" _) (KN (KI ?_));unfold callSpecial? QT;refine KI (KI (r.here (dH X p ?_)));dsimp only;refine Lh (KI (Mo (F.slot_tuple_len.bind _) (KI (NB (Nj F.slot_tuple_len.plain aGE (TI (i := "tuple.__len__") (owner := "tuple") (n := "__len__") (by decide +kernel) (by decide +kernel) (r.andThen (NX X l)) (F.args_tuple_len_1 _) ?_))))));show LC _ _ (do retInt (← Qd (.ref a)).size) _ _ s;unfold Qd;refine KI (KI (MY u rfl (KN (KI (wpAny_mkInt (KN (KN ?_)))))));dsimp only;refine KI (Lh (KN (KI (Qv ?_))));have x:((j.toArray.size:Nat):Int)=(W.length:Int):=by simp[o]
 show LC _ _ (if ((j.toArray.size:Nat):Int)<0 then _ else _) _ _ _;refine ec ⋯ ?_;show LC _ _ (if ((j.toArray.size:Nat):Int) ≥ 2^63 then _ else _) _ _ _;refine ec ⋯ (KI (wpAny_mkInt (KN ⟨_,rfl,G _ _ _ Z V h (S.toks _) ?_ (.toks _)⟩)));rw[x];exact .int _ _
def aKj{p:LP}{rest:List Value}{a:Bool}(d:readsIn K C (.type "type")=Ww)
  (e:Sh K (.ref C) (.type "type") name=Wu (.get (.builtin "classmethod.__get__") (.ref p) .none (.ref C))) (i:recIn K p "classmethod" = Wu (.ref f::rest))
  (h:∀q,R (.ref q) ⟨a6,(q,.raw (Tj (.ref f) (.ref C)))::Y⟩):F1 w A (am K) z Val (λx=>QC x name a) (.ref C) ⟨a6,Y⟩ R:=F1.of λs Z S Q E j=>l6 <| by
 have X:=dK S.base S.frozen;refine cls_bind X d e (NB (cm_get (s:={ s with toks:=s.toks+1}) X i (handed_on rfl ?_)));have P:=S.toca.push (o:=Tj (.ref f) (.ref C)) (ao:=.raw (Tj (.ref f) (.ref C))) rfl (s.toks+1) (Lc _ rfl);exact j _ _ _ _ _ (h _) (S.after P.1 P.2) (.ref _) P.2.toF
def aIS{R:AV->aa->Prop}(e:(q,.raw (Tj (.ref f) (.ref C)))∈Y)(h:TC w A B (.ref f) (.ref C::args) [] Y R):TC w A B (.ref q) args [] Y R:=λs Z n W l S j a i Q k=>by
 cases j
 cases i
 have d:s.heap.get? q=Wu (Tj (.ref f) (.ref C)):=S.own _ e;refine SM ?_;show LC _ A.in1 (TW (.ref q) ⟨W,[]⟩) _ _ s;dsimp only[TW];refine KI (RX d ?_);dsimp only;exact TO ⋯ (KN ⟨rfl,h s Z (.ref f) (.ref C::W) [] S (.ref f) (.cons (.ref C) a) .nil Q k⟩)
end
def AM(w:Lz):WR w (KB w.params) 135:=⟨@_,@_⟩
def zt(P:KS):LP:=match Sh (KB P) (.ref 135) (.type "type") iK with |some (.get _ (.ref p) _ _)=>p |_=>0
def aCe(P:KS):List Value:=((recIn (KB P) (zt P) "classmethod").getD []).tail
def aGn(P:KS):Sh (KB P) (.ref 135) (.type "type") iK=Wu (.get (.builtin "classmethod.__get__") (.ref (zt P)) .none (.ref 135)):=@_
def aFn(P:KS):recIn (KB P) (zt P) "classmethod" = Wu (.ref 89::aCe P):=@_
def aDN{x y z:Int}(d:dt A 20):TC w A (af w) (.ref 89) [.ref 135,.tup [.int x,.int y,.int z]] [] Y λv a8=>v=.mat 135 [.int x,.int y,.int z]/\a8=Y:=by
 refine en [(yO,.tup [.int x,.int y,.int z]),(yP,.ref 135),(tv,.any)] (bq w) d.lt (λO O=>@_) @_ @_ (aFT _) λL e=>?_;have a:=((gk w (A.deeper (av (ak (gS w.params)) L 89 88)) (ak (gS w.params)) L 89 88 @_ @_ d.h).g (HV w) @_ @_).g (lm w) @_ @_;refine bE a 60 (ax.mk (Jz (name:=ke) (T' := "tuple") (id := "tuple.__new__") @_ @_ @_ (by decide +kernel) @_ @_ @_ @_ @_ (ae a 5 ⟨rfl,dd @_ ic (aO a 20 (Kl (He w) (by decide:3<=LY) (λO=>@_) ?_))⟩)));exact ax.mk (aJx @_ @_ (by decide:3<2^62) ⟨rfl,rfl⟩)
def aEV{s:(Int->Nat)×ah}(h:li b_ da dg i s)(o:b_<=i)(a:List Nat):∀(d:(Int->Nat)×ah),(∀j∈a,da<=j/\j<dg)->li b_ da dg (i+1) d->li b_ da dg (i+1) (a.foldl (dX s.1 i) d):=by
 induction a with
 |nil=>exact λO O k=>k
 |cons j a n=>exact λd e k=>n _ (λl p=>e l (KP _ p)) (h.step k o (e j (KJ ..)).1 (e j (KJ ..)).2)
def xT{a:List Nat}(h:j∈within da dg a):da<=j/\j<dg:=by
 have:=(Ng.mp h).2;simpa using this
def yq{s:(Int->Nat)×ah}(a:List Nat)(h:li b_ da dg i s)(e:b_<=i):li b_ da dg (i+1) (fk a da dg i s):=aEV h e _ _ (λj d=>xT d) h.row
def aBQ(n:Nat):∀(i:Nat) (s:(Int->Nat)×ah),b_<=i->li b_ da dg i s->li b_ da dg (i+n) (gm idx da dg (Mu i n) s):=by
 induction n with
 |zero=>exact λO O O h=>h
 |succ n d=>exact λi s a h=>(Oy i n)▸d (i+1) (fk (idx i) da dg i s) (ON a) (yq (idx i) h a)
def LB(b_ da i j:Nat)(t:ah):Prop:=b_<=t.1/\da<=t.2.1/\t.1+t.2.2=i/\t.2.1+t.2.2=j
def aGx(i:Nat):∀(j k:Nat),b_<=i->da<=j->LB b_ da (i+k) (j+k) (cn e b_ da i j k):=by
 induction i with
 |zero=>exact λj k d a=>⟨d,a,rfl,rfl⟩
 |succ i n =>
  intro j k d a;cases j with
  |zero=>exact⟨d,a,rfl,rfl⟩
  |succ j=>exact iteInduction (motive:=LB b_ da (i+1+k) (j+1+k)) (λl=>(Oy i k).symm▸(Oy j k).symm▸n j (k+1) (Pe (of_decide_eq_true (Bool.and_eq_true_iff.mp l).1)) (Pe (of_decide_eq_true (Bool.and_eq_true_iff.mp (Bool.and_eq_true_iff.mp l).2).1))) λO=>⟨d,a,rfl,rfl⟩
def aGr{du:Nat}(f:Nat):∀(k:Nat),i+k<=du->j+k<=dg->k<=ez e du dg i j f k/\i+ez e du dg i j f k<=du/\j+ez e du dg i j f k<=dg:=by
 induction f with
 |zero=>exact λk d a=>⟨LK _,d,a⟩
 |succ f n =>
  intro k d a;exact iteInduction (motive:=λx=>k<=x/\i+x<=du/\j+x<=dg) (λl=>(n (k+1) (of_decide_eq_true (Bool.and_eq_true_iff.mp l).1) (of_decide_eq_true (Bool.and_eq_true_iff.mp (Bool.and_eq_true_iff.mp l).2).1)).imp_left Wn) λO=>⟨LK _,d,a⟩
def dR(fl:Nat->Nat->Nat->Nat->ah):Prop:=∀b_ a da dg,b_<=a->da<=dg->b_<=(fl b_ a da dg).1/\(fl b_ a da dg).1+(fl b_ a da dg).2.2<=a/\da<=(fl b_ a da dg).2.1/\(fl b_ a da dg).2.1+(fl b_ a da dg).2.2<=dg
def rD(e:Nat->Nat->Bool)(idx:Nat->List Nat):dR (cw e idx):=λb_ du da dg p o=>by
 have a:=aBQ (idx:=idx) (dg:=dg) (du-b_) b_ (λO=>0,(b_,da,0)) (LK _) (li.start o);simp only[Qz p] at a;unfold cw;dsimp only;generalize (gm idx da dg (Mu b_ (du-b_)) (λO=>0,(b_,da,0)))=s at a;obtain⟨D,k,d,sk⟩:=s;have q:=aGx (e:=e) k d sk a.b1 a.b3;have n:=a.b2;have l:=a.b4;dsimp only at n l q ⊢;generalize cn e b_ da k d sk=u at q;have f:=aGr (e:=e) (du:=du) (dg:=dg) (i:=u.1) (j:=u.2.1) (du-(u.1+u.2.2)) u.2.2 (q.2.2.1▸n) (q.2.2.2▸l);exact⟨q.1,f.2.1,q.2.1,f.2.2⟩
def dn(fl:Nat->Nat->Nat->Nat->ah):Nat->Nat->Nat->Nat->Nat->List ah
 |0,_,_,_,_=>[]
 |f+1,b_,a,da,dg =>
  let r:=fl b_ a da dg
  if r.2.2=0 then [] else
   (if b_<r.1/\da<r.2.1 then dn fl f b_ r.1 da r.2.1 else [])++r::(if r.1+r.2.2<a/\r.2.1+r.2.2<dg then dn fl f (r.1+r.2.2) a (r.2.1+r.2.2) dg else [])
def Hc(a:dR fl){du:Nat}(e:b_<=du)(d:da<=dg)(i:du<=b_):∀f,dn fl f b_ du da dg=[]
 |0=>rfl
 |f+1=>if_pos (Nat.le_zero.mp (Uu (Mc (a b_ du da dg e d).2.1 (Mc i (a b_ du da dg e d).1))))
def wl{c:Prop}[Decidable c]{x y:List α}(h:x=y):(if c then x else [])=if c then y else []:=h▸rfl
def Jd{x y u v:List α}(h:x=y)(h':u=v):x++t::u=y++t::v:=h▸h'▸rfl
def Bn{du f:Nat}(d:i+k<=du)(a : ¬ k=0)(h:du<=b_+(f+1)):i<=b_+f:=Pe (OA (OA (OO (RN a)) d) h)
def Bm{du f:Nat}(d:b_<=i)(a : ¬ k=0)(h:du<=b_+(f+1)):du<=i+k+f:=Mc h (Mc (Oz (Qi b_ f 1)) (OK (OM d (RN a)) f))
def AJ(fl:Nat->Nat->Nat->Nat->ah)(f b_ du da dg:Nat)(r:ah):List ah:=if r.2.2=0 then [] else (if b_<r.1/\da<r.2.1 then dn fl f b_ r.1 da r.2.1 else [])++r::(if r.1+r.2.2<du/\r.2.1+r.2.2<dg then dn fl f (r.1+r.2.2) du (r.2.1+r.2.2) dg else [])
def aDG{f g du:Nat}{r:ah}(e : ¬ r.2.2=0->dn fl f b_ r.1 da r.2.1=dn fl g b_ r.1 da r.2.1)(d : ¬ r.2.2=0->dn fl f (r.1+r.2.2) du (r.2.1+r.2.2) dg=dn fl g (r.1+r.2.2) du (r.2.1+r.2.2) dg):AJ fl f b_ du da dg r=AJ fl g b_ du da dg r:=if a:r.2.2=0 then (if_pos a).trans (if_pos a).symm else (if_neg a).trans ((Jd (wl (e a)) (wl (d a))).trans (if_neg a).symm)
def AL(k:dR fl)(f:Nat):∀(g b_ du da dg:Nat),b_<=du->da<=dg->du<=b_+f->du<=b_+g->dn fl f b_ du da dg=dn fl g b_ du da dg:=by
 induction f with
 |zero=>exact λg b_ du da dg j i e O=>(Hc k j i e g).symm
 |succ f n =>
  intro g b_ du da dg j i e l;cases g with
  |zero=>exact Hc k j i l _
  |succ g =>
   have a:=k b_ du da dg j i;exact aDG (λd=>n g _ _ _ _ a.1 a.2.2.1 (Bn a.2.1 d e) (Bn a.2.1 d l)) λd=>n g _ _ _ _ a.2.1 a.2.2.2 (Bm a.1 d e) (Bm a.1 d l)
def AK(u:dR fl){P:Nat->Nat->Nat->Nat->List ah->Prop}(d:∀b_ du da dg,b_<=du->da<=dg->P b_ du da dg [])
  (e:∀b_ du da dg i j k l r,b_<=du->da<=dg->fl b_ du da dg=(i,j,k+1)->b_<=i->i+(k+1)<=du->da<=j->j+(k+1)<=dg->P b_ i da j l->P (i+(k+1)) du (j+(k+1)) dg r->P b_ du da dg (l++(i,j,k+1)::r))
  (f:Nat):∀b_ du da dg:Nat,b_<=du->da<=dg->P b_ du da dg (dn fl f b_ du da dg):=by
 induction f with
 |zero=>exact d
 |succ f s =>
  intro b_ du da dg p o;have a:=u b_ du da dg p o;have n:=e b_ du da dg;show P _ _ _ _ (AJ fl f b_ du da dg (fl b_ du da dg));generalize fl b_ du da dg=r at a n;obtain⟨i,j,k⟩:=r;cases k with
  |zero=>exact d _ _ _ _ p o
  |succ k=>exact n i j k _ _ p o rfl a.1 a.2.1 a.2.2.1 a.2.2.2 (iteInduction (motive:=P b_ i da j) (λO=>s _ _ _ _ a.1 a.2.2.1) λO=>d _ _ _ _ a.1 a.2.2.1) (iteInduction (motive:=P (i+(k+1)) du (j+(k+1)) dg) (λO=>s _ _ _ _ a.2.1 a.2.2.2) λO=>d _ _ _ _ a.2.1 a.2.2.2)
abbrev dz:=Nat×Nat×Nat×Nat
def bf(fl:Nat->Nat->Nat->Nat->ah)(q:dz):List ah:=dn fl (q.2.1-q.1) q.1 q.2.1 q.2.2.1 q.2.2.2
def BM(d a:Nat)(q:dz):Prop:=q.1<=q.2.1/\q.2.1<=d/\q.2.2.1<=q.2.2.2/\q.2.2.2<=a
def AI{q:dz}(a:(fl q.1 q.2.1 q.2.2.1 q.2.2.2).2.2=0):bf fl q=[]:=by
 unfold bf;cases q.2.1-q.1 with
 |zero=>rfl
 |succ g=>exact if_pos a
def lU(n m:Nat):n<=m+(n-m):=Nat.sub_le_iff_le_add'.mp (LK _)
def GZ(e:dR fl){q:dz}(k:q.1<=q.2.1)(j:q.2.2.1<=q.2.2.2)(i:(fl q.1 q.2.1 q.2.2.1 q.2.2.2).2.2≠0):bf fl q=(if q.1<(fl q.1 q.2.1 q.2.2.1 q.2.2.2).1/\q.2.2.1<(fl q.1 q.2.1 q.2.2.1 q.2.2.2).2.1 then bf fl (q.1,(fl q.1 q.2.1 q.2.2.1 q.2.2.2).1,q.2.2.1,(fl q.1 q.2.1 q.2.2.1 q.2.2.2).2.1) else [])++fl q.1 q.2.1 q.2.2.1 q.2.2.2 ::
   (if (fl q.1 q.2.1 q.2.2.1 q.2.2.2).1+(fl q.1 q.2.1 q.2.2.1 q.2.2.2).2.2<q.2.1/\(fl q.1 q.2.1 q.2.2.1 q.2.2.2).2.1+(fl q.1 q.2.1 q.2.2.1 q.2.2.2).2.2<q.2.2.2 then bf fl ((fl q.1 q.2.1 q.2.2.1 q.2.2.2).1+(fl q.1 q.2.1 q.2.2.1 q.2.2.2).2.2,q.2.1,(fl q.1 q.2.1 q.2.2.1 q.2.2.2).2.1+(fl q.1 q.2.1 q.2.2.1 q.2.2.2).2.2,q.2.2.2) else []):=by
 obtain⟨b_,d,da,dg⟩:=q;dsimp only at *;have a:=e b_ d da dg k j;unfold bf;dsimp only;exact(AL e _ (d-b_+1) b_ d da dg k j (lU d b_) (ON (lU d b_))).trans ((if_neg i).trans (Jd (wl (AL e _ _ _ _ _ _ a.1 a.2.2.1 (Bn a.2.1 i (ON (lU d b_))) (lU _ b_))) (wl (AL e _ _ _ _ _ _ a.2.1 a.2.2.2 (Bm a.1 i (ON (lU d b_))) (lU d _)))))
def dy(s:ah×List ah)(t:ah):ah×List ah:=if s.1.1+s.1.2.2=t.1/\s.1.2.1+s.1.2.2=t.2.1 then ((s.1.1,s.1.2.1,s.1.2.2+t.2.2),s.2) else (t,if s.1.2.2=0 then s.2 else s.2++[s.1])
def fY(s:ah×List ah):List ah:=if s.1.2.2=0 then s.2 else s.2++[s.1]
def bb(fl:Nat->Nat->Nat->Nat->ah)(d a:Nat):List ah:=fY ((bf fl (0,d,0,a)).foldl dy ((0,0,0),[]))++[(d,a,0)]
def Cn(b_ du da dg:Nat)(t:ah):Prop:=b_<=t.1/\t.1+t.2.2<=du/\da<=t.2.1/\t.2.1+t.2.2<=dg/\0<t.2.2
def AH{P:α->Prop}{l r:List α}{x:α}(d:∀t∈l,P t)(hx:P x)(a:∀t∈r,P t)(t:α)(h:t∈l++x::r):P t:=(Md.mp h).elim (d t) λh=>(KZ.mp h).elim (λe=>e▸hx) (a t)
def Hb(s:dR fl):∀(f b_ du da dg:Nat),b_<=du->da<=dg->∀t∈dn fl f b_ du da dg,Cn b_ du da dg t:=AK s (P:=λb_ du da dg L=>∀t∈L,Cn b_ du da dg t) (λO O O O O O=>dh) λb_ du da dg i j k l r O O O p o n e a d =>
  AH (λt h=>⟨(a t h).1,Mc (a t h).2.1 (Mc (Ow ..) o),(a t h).2.2.1,Mc (a t h).2.2.2.1 (Mc (Ow ..) e),(a t h).2.2.2.2⟩) ⟨p,o,n,e,Pf _⟩
   λt h=>⟨Mc (Mc p (Ow ..)) (d t h).1,(d t h).2.1,Mc (Mc n (Ow ..)) (d t h).2.2.1,(d t h).2.2.2⟩
def BN(s t:ah):Prop:=s.1+s.2.2<=t.1/\s.2.1+s.2.2<=t.2.1
def Ha(v:dR fl)(f b_ du da dg:Nat)(z:b_<=du)(y:da<=dg):(dn fl f b_ du da dg).Pairwise BN:=(AK v (P:=λb_ du da dg L=>(∀t∈L,Cn b_ du da dg t)/\L.Pairwise BN) (λO O O O O O=>⟨dh,.nil⟩) (λb_ du da dg i j k l r O O O u p o n a d =>
  ⟨AH (λt h=>⟨(a.1 t h).1,Mc (a.1 t h).2.1 (Mc (Ow ..) p),(a.1 t h).2.2.1,Mc (a.1 t h).2.2.2.1 (Mc (Ow ..) n),(a.1 t h).2.2.2.2⟩) ⟨u,p,o,n,Pf _⟩
   λt h=>⟨Mc (Mc u (Ow ..)) (d.1 t h).1,(d.1 t h).2.1,Mc (Mc o (Ow ..)) (d.1 t h).2.2.1,(d.1 t h).2.2.2⟩,
  List.pairwise_append.mpr ⟨a.2,NI.mpr ⟨λt h=>⟨(d.1 t h).1,(d.1 t h).2.2.1⟩,d.2⟩,λs e=>AH (x:=(i,j,k+1)) (l:=[]) dh ⟨(a.1 s e).2.1,(a.1 s e).2.2.2.1⟩
   λt h=>⟨Mc (a.1 s e).2.1 (Mc (Ow ..) (d.1 t h).1),Mc (a.1 s e).2.2.2.1 (Mc (Ow ..) (d.1 t h).2.2.1)⟩⟩⟩) f b_ du da dg z y).2
def aDH(a:dR fl):∀(f b_ du da dg:Nat),b_<=du->da<=dg->(dn fl f b_ du da dg).length+b_<=du:=AK a (P:=λb_ du O O L=>L.length+b_<=du) (λO O O O h O=>(OJ _).symm▸h) λb_ du da dg i j k l r O O O o n e d s p=>by
  simp only[Lb,La];clear o n e d;omega
def Hd(a:dR fl)(f b_ du da dg:Nat)(e:b_<=du)(d:da<=dg):(dn fl f b_ du da dg).length<=du-b_:=Ri (aDH a f b_ du da dg e d)
def fq(qs:List dz):Nat:=(qs.map λq=>2 * (q.2.1-q.1)+1).sum
def Es(qs:List dz):qs.length<=fq qs:=by
 unfold fq;induction qs with
 |nil=>exact Lq _
 |cons q qs a=>simp only[Le,List.sum_cons,La];omega
def aCf(qs:List dz)(q:dz):fq (qs++[q])=fq qs+(2 * (q.2.1-q.1)+1):=by
 unfold fq;simp only[LD,List.sum_append];simp
def Eu(qs rs:List dz):fq (qs++rs)=fq qs+fq rs:=by
 unfold fq;simp only[LD,List.sum_append]
def aCv{qs T:List ah}(h:((b++qs)++(c++t::rw)).Perm T):((b++[t])++((qs++c)++rw)).Perm T:=by
 rw[<-LH] at h;refine Ml.trans ?_ (MT.symm.trans h);rw[LH b [t]];exact MT.trans (Vh (by rw[LH,LH,LH];rfl))
def Io{c:Prop}[Decidable c](f:α->List β)(x:α):(if c then [x] else []).flatMap f=if c then f x else []:=by
 split <;> simp
def aDF(a:dR fl){q:dz}(e:q.1<=q.2.1)(d:q.2.2.1<=q.2.2.2):(bf fl q).Pairwise λs t=>s.1<t.1:=(Ha a (q.2.1-q.1) q.1 q.2.1 q.2.2.1 q.2.2.2 e d).imp_of_mem fun{s t} i _ h=>OA (OO (Hb a _ _ _ _ _ e d s i).2.2.2.2) h.1
def BL(s:ah×List ah)(t:ah):(dy s t).2.length<=s.2.length+1:=by
 unfold dy;split
 ·exact Pp _
 ·dsimp only;split
  ·exact Pp _
  ·simp
section
open PySem PySem.W PyProof.Rows
def aI5(a:LP)(h h':Heap):Prop:=∀b o,b≠a->h.get? b=Wu o->h'.get? b=Wu o
def aBq:aI5 a h (sortedHeap h a vs c):=λb o d e=>by
 unfold sortedHeap;rw[Ru _ _ _ _ d];refine Ld _ (Ld _ ?_);rw[Ru _ _ _ _ d];exact e
def Iu(vs:List Value)(h:vs.length<2):(vs.toArray.zip vs.toArray).map (·.2)=vs.toArray:=by
 rcases vs with _ |⟨v,_ |⟨u,vs⟩⟩
 ·simp
 ·simp
 ·exact absurd h (OX.mpr (QG 2 _))
def aEd{P:QF->KY->Prop}(j:s.heap.get? a=Wu (seqObj "list" vs.toArray n))(e:vs.length<2)
  (h:P (.done (.ret .none)) {s with heap:=sortedHeap s.heap a vs vs.toArray}):LC (Ly ab w) A (Builtin.«list.sort» ⟨[.ref a],[]⟩) P E s:=by
 have i:vs.toArray.size<=LY:=Mc (MW e) ⋯;have k:vs.toArray.size<2:=e;rw[list_sort_plain];refine KI (listItems_at j rfl (KI (listUpdate_at j rfl ?_ i (Lq _))));have l:=get?_update_seq j λO=>(#[]:Array Value);refine KI (seqEpoch_at l rfl (KI (QX (KI (Vj (Lh ?_) (Lq _))) i)));have d:=Ld (seqObj "list" #[] 0) (Ld (seqObj "tuple" vs.toArray 0) l);rw[if_pos k,if_pos k];refine KI (KN (KI (KN (KI (seqEpoch_at d rfl (KI (listUpdate_at d rfl ?_ (Lq _) ?_)))))))
 ·simp only[bne_self_eq_false,LW,if_false];refine KN ?_;show P _ {s with heap:=sortedHeap s.heap a vs ((vs.toArray.zip vs.toArray).map (·.2))};rw[Iu vs e];exact h
 ·show ((vs.toArray.zip vs.toArray).map (·.2)).size<=_;rw[Iu vs e];exact ON i
def aJj(d6:W.length<2)
  (U:Upd a (.list W) (.list W) Y a8) (h:R .none ⟨a6,a8⟩):FC w A B z (.blt "list.sort") [.ref a] [] ⟨a6,Y⟩ R:=n5 λs Z S Q E l=>om <| l6 <| Zq <| by
 refine bG (S.own _ U.mem) λi n g vs=>?_;dsimp only at g;generalize j:i.toList=d at vs;have e:i=d.toArray:=by rw[<-j]
 subst e;refine Mb slot_list_sort ⟨_,g,rfl⟩ entry_list_sort (aEd g (vs.length▸d6) ?_) (args_list_sort _);have k:Holds Z {s with heap:=sortedHeap s.heap a d d.toArray,toks:=s.toks} a (.list W):=⟨_,_,get?_update_seq (Ld _ (Ld _ (get?_update_seq g _))) _,vs⟩
 have P:=S.toca.upd U (h':=sortedHeap s.heap a d d.toArray) (tk:=s.toks) aBq rfl rfl k;exact cL _ rfl (l .none .none _ Z ⟨a6,a8⟩ h (S.after P.1 P.2) .none P.2.toF)
end
abbrev cI(t:ah):AV:=.mat 135 [.int t.1,.int t.2.1,.int t.2.2]
def aJi{us:List ah}(j:dt A (k+10))(d:us.Perm ts)(i:us.Pairwise λs t=>s.1<t.1)(d6:ts.length<2)
  (U:Upd a (.list (ts.map cI)) (.list (us.map cI)) Y a8) (h:K .none ⟨a6,a8⟩):FC w A (af w) z (.blt "list.sort") [.ref a] [] ⟨a6,Y⟩ K:=by
 have e:us=ts:=by
  rcases ts with _ |⟨t,_ |⟨u,ts⟩⟩
  ·exact d.eq_nil
  ·exact List.perm_singleton.mp d
  ·exact absurd d6 (OX.mpr (QG 2 _))
 subst e;exact aJj (by rw[KR];exact d6) U h
section
abbrev jK(q:dz):AV:=.tup [.int (q.1:Nat),.int (q.2.1:Nat),.int (q.2.2.1:Nat),.int (q.2.2.2:Nat)]
abbrev gL(t:ah):AV:=.mat 135 [.int (t.1:Nat),.int (t.2.1:Nat),.int (t.2.2:Nat)]
abbrev xZ(t:ah):AV:=.tup [.int (t.1:Nat),.int (t.2.1:Nat),.int (t.2.2:Nat)]
structure WK (fl:Nat->Nat->Nat->Nat->ah) (la lb:Nat) (W ws:List AV) (n:Nat):Prop where
 run:∃(ms:List ah) (qs:List dz),W=ms.map gL/\ws=qs.map jK/\fq qs<=n/\n<=2 * la+1/\(∀q∈qs,BM la lb q)/\(ms++qs.flatMap (bf fl)).Perm (bf fl (0,la,0,lb))
structure Xb (fl:Nat->Nat->Nat->Nat->ah) (la lb:Nat) (W ws:List AV) (q:dz) (n:Nat):Prop where
 w:BM la lb q
 run:∃(ms:List ah) (qs:List dz),W=ms.map gL/\ws=qs.map jK/\fq qs+(2 * (q.2.1-q.1)+1)<=n/\n<=2 * la+1/\(∀q∈qs,BM la lb q)/\((ms++qs.flatMap (bf fl))++bf fl q).Perm (bf fl (0,la,0,lb))
variable{fl:Nat->Nat->Nat->Nat->ah}{C D n:Nat}{W F:List AV}{q:dz}
def WK.start:WK fl C D [] [.tup [.int 0,.int C,.int 0,.int D]] (2 * C+1):=⟨[],[(0,C,0,D)],rfl,rfl,LK _,LK _,λq a=>by rw[Lm.mp a];exact⟨Lq _,LK _,Lq _,LK _⟩,by simp only[OB,TB,Ms];exact List.Perm.refl _⟩
def WK.room(h:WK fl C D W F n):F.length<=2 * C+1:=by
 refine sn h.run λk qs j i d a e=>?_;clear j;subst i;clear e;rw[KR];exact Mc (Es qs) (Mc d a)
def WK.pop(h:WK fl C D W F n)(c:(!F.isEmpty)=Ww):∃a q,F=a++[jK q]/\Xb fl C D W a q n:=by
 refine iB h.run λk qs r p j o i e=>?_;subst r;subst p;rcases Os qs with rfl |⟨d,q,rfl⟩
 ·cases c
 rw[Ot] at *;rw[aCf] at j;refine⟨d.map jK,q,by rw[LD];rfl,i q (LJ _ (List.mem_singleton_self _)),k,d,rfl,rfl,j,o,λq l=>i q (Mn _ l),?_⟩;rw[OD,<-LH,OB,TB,Ms] at e;exact e
def WK.done(h:WK fl C D W F n)(c:(!F.isEmpty)=Wx):F=[]/\∃ms:List ah,W=ms.map gL/\(bf fl (0,C,0,D)).Perm ms:=by
 refine iB h.run λms qs k j i e d a=>?_;subst k;subst j;clear i;clear e;clear d;cases qs with
 |nil=>rw[TB,Ms] at a;exact⟨rfl,ms,rfl,a.symm⟩
 |cons q qs=>cases c
def Xb.room(a:dR fl)(h:Xb fl C D W F q n):F.length<=2 * C/\W.length<=C:=by
 refine iB h.run λp qs o l j i k d=>?_;subst o;subst l;clear k;have e:=d.length_eq;have f:(dn fl (C-0) 0 C 0 D).length<=C-0:=Hd a (C-0) 0 C 0 D (Lq _) (Lq _);have g:=Es qs;rw[Lb,Lb] at e;rw[KR,KR];exact⟨Sr (Mc (OH (Mc g (Ow _ _))) (Mc j i)),Mc (Mc (Ow _ _) (Ow _ _)) (Mc (Oz e) f)⟩
def Hg{a b:Nat}(h:a+(b+1)<=n):n-1<n:=Nat.sub_one_lt (Qg (OA (Pf _) h))
def aEi{a b:Nat}(h:a+(b+1)<=n):a<=n-1:=Vu (Ox (Ow _ b) h)
def Xb.zero(h:Xb fl C D W F q n)(c:(((fl q.1 q.2.1 q.2.2.1 q.2.2.2).2.2:Nat):Int)=0):n-1<n/\WK fl C D W F (n-1):=by
 refine iB h.run λe qs l k d j i a=>?_;subst l;subst k;rw[AI (QR.mp c),Ms] at a;exact⟨Hg d,e,qs,rfl,rfl,aEi d,Mc (OL ..) j,i,a⟩
def gi(q:dz)(r:ah):List AV:=if q.1<r.1/\q.2.2.1<r.2.1 then [jK (q.1,r.1,q.2.2.1,r.2.1)] else []
def lQ(q:dz)(r:ah):List AV:=if r.1+r.2.2<q.2.1/\r.2.1+r.2.2<q.2.2.2 then [jK (r.1+r.2.2,q.2.1,r.2.1+r.2.2,q.2.2.2)] else []
variable{r:ah}
def aAs(c1:(q.1:Int)<r.1)(a:(q.2.2.1:Int)<r.2.1):gi q r=[jK (q.1,r.1,q.2.2.1,r.2.1)]:=if_pos ⟨OR.mp c1,OR.mp a⟩
def aAu(c1 : ¬ (q.1:Int)<r.1):gi q r=[]:=if_neg λh=>c1 (OR.mpr h.1)
def aAt(c1 : ¬ (q.2.2.1:Int)<r.2.1):gi q r=[]:=if_neg λh=>c1 (OR.mpr h.2)
def aAp(c1:((r.1:Nat):Int)+(r.2.2:Nat)<(q.2.1:Nat))(a:((r.2.1:Nat):Int)+(r.2.2:Nat)<(q.2.2.2:Nat)):lQ q r=[.tup [.int ((r.1:Nat)+(r.2.2:Nat)),.int (q.2.1:Nat),.int ((r.2.1:Nat)+(r.2.2:Nat)),.int (q.2.2.2:Nat)]]:=if_pos ⟨OR.mp c1,OR.mp a⟩
def aAr(c1 : ¬ ((r.1:Nat):Int)+(r.2.2:Nat)<(q.2.1:Nat)):lQ q r=[]:=if_neg λh=>c1 (OR.mpr h.1)
def aAq(c1 : ¬ ((r.2.1:Nat):Int)+(r.2.2:Nat)<(q.2.2.2:Nat)):lQ q r=[]:=if_neg λh=>c1 (OR.mpr h.2)
def aAv:(gi q r).length<=1:=by unfold gi;split <;> exact Mx rfl
def HJ{c:Prop}[Decidable c](f:α->β)(x:α):(if c then [x] else []).map f=if c then [f x] else []:=by split <;> rfl
def Et{c:Prop}[Decidable c](q:dz):fq (if c then [q] else [])<=2 * (q.2.1-q.1)+1:=by
 split
 ·exact LK _
 ·exact Lq _
def aBB{S X Y a b c:Nat}(h:S+(2 * (b-a)+1)<=n)(hx:X<=2 * (c-a)+1)(i:Y<=2 * (b-(c+k))+1)(o:a<=c)(l:c+k<=b)(j:k≠0):S+X+Y<=n-1:=by
 obtain⟨d,rfl⟩:=Nat.le.dest o;obtain⟨e,rfl⟩:=Nat.le.dest l;rw[OC] at hx i;rw[OF,OF,OC] at h;refine Vu (Ox ?_ h);rw[OF];refine OE (Mc (OM hx i) ?_) S;rw[Nat.add_add_add_comm,<-Nat.mul_add];exact PY 2 (OE (Qu k e▸OE (RN j) e) d)
def Xb.go(k:dR fl)(h:Xb fl C D W F q n)(c:(((fl q.1 q.2.1 q.2.2.1 q.2.2.2).2.2:Nat):Int)≠0):n-1<n/\WK fl C D (W++[gL (fl q.1 q.2.1 q.2.2.1 q.2.2.2)]) (F++gi q (fl q.1 q.2.1 q.2.2.1 q.2.2.2)++lQ q (fl q.1 q.2.1 q.2.2.1 q.2.2.2)) (n-1):=by
 have o:(fl q.1 q.2.1 q.2.2.1 q.2.2.2).2.2≠0:=λe=>c (by rw[e];rfl);refine xu h.w λj i d a=>xu (k q.1 q.2.1 q.2.2.1 q.2.2.2 j d) λv b2 K u=>?_;have l:=GZ (fl:=fl) k j d o;refine iB h.run λy qs R Q s E z p=>?_;subst R;subst Q;rw[l] at p;clear l;generalize fl q.1 q.2.1 q.2.2.1 q.2.2.2=r at *;refine⟨Hg s,y++[r],(qs++if q.1<r.1/\q.2.2.1<r.2.1 then [(q.1,r.1,q.2.2.1,r.2.1)] else [])++(if r.1+r.2.2<q.2.1/\r.2.1+r.2.2<q.2.2.2 then [(r.1+r.2.2,q.2.1,r.2.1+r.2.2,q.2.2.2)] else []),?_,?_,?_,Mc (OL ..) E,?_,?_⟩
 ·rw[LD];rfl
 ·simp only[LD,LD,HJ,HJ];rfl
 ·rw[Eu,Eu];have J:=Et (c:=q.1<r.1/\q.2.2.1<r.2.1) (q.1,r.1,q.2.2.1,r.2.1);have G:=Et (c:=r.1+r.2.2<q.2.1/\r.2.1+r.2.2<q.2.2.2) (r.1+r.2.2,q.2.1,r.2.1+r.2.2,q.2.2.2);exact aBB s J G v b2 o
 ·intro x hx;rcases Md.mp hx with hx |hx
  ·rcases Md.mp hx with hx |hx
   ·exact z x hx
   ·split at hx
    ·rw[Lm.mp hx];exact⟨v,Mc (Mc (Ow _ _) b2) i,K,Mc (Mc (Ow _ _) u) a⟩
    ·cases hx
  ·split at hx
   ·rw[Lm.mp hx];exact⟨b2,i,u,a⟩
   ·cases hx
 ·simp only[OD,OD,Io,Io];exact aCv p
def Xb.goR(a:dR fl)(h:Xb fl C D W F q n)(e:fl q.1 q.2.1 q.2.2.1 q.2.2.2=r)(c:((r.2.2:Nat):Int)≠0):n-1<n/\WK fl C D (W++[gL r]) (F++gi q r++lQ q r) (n-1):=by
 subst e;exact h.go a c
def Xb.zeroR(h:Xb fl C D W F q n)(e:fl q.1 q.2.1 q.2.2.1 q.2.2.2=r)(c:((r.2.2:Nat):Int)=0):n-1<n/\WK fl C D W F (n-1):=by
 subst e;exact h.zero c
structure zk (us ts:List ah) (s:ah×List ah) (i j k:Int) (W:List AV):Prop where
 e1:i=s.1.1
 e2:j=s.1.2.1
 e3:k=s.1.2.2
 e4:W=s.2.map xZ
 fold:ts.foldl dy s=us.foldl dy ((0,0,0),[])
 len:s.2.length+ts.length<=us.length
variable{us ts:List ah}{s:ah×List ah}{i j k:Int}{t:ah}
def zk.start:zk us us ((0,0,0),[]) 0 0 0 []:=⟨rfl,rfl,rfl,rfl,rfl,Oz (OJ _)⟩
def zk.room(h:zk us ts s i j k W):W.length<=us.length:=by
 rw[h.e4,KR];exact Mc (Ow _ _) h.len
def zk.step(h:zk us (t::ts) s i j k W):(dy s t).2.length+ts.length<=us.length:=Mc (OK (BL s t) _) (Mc (Oz (Oy ..)) h.len)
def zk.join(h:zk us (t::ts) s i j k W)(c1:i+k=(t.1:Nat))(a:j+k=(t.2.1:Nat)):zk us ts (dy s t) i j (k+(t.2.2:Nat)) W:=by
 have e:dy s t=((s.1.1,s.1.2.1,s.1.2.2+t.2.2),s.2):=if_pos ⟨PS.mp (by simp only[Int.natCast_add,<-h.e1,<-h.e3];exact c1),PS.mp (by simp only[Int.natCast_add,<-h.e2,<-h.e3];exact a)⟩;refine⟨?_,?_,?_,?_,h.fold,h.step⟩
 ·rw[e];exact h.e1
 ·rw[e];exact h.e2
 ·rw[e,h.e3];rfl
 ·rw[e];exact h.e4
structure WW (s:ah×List ah) (ys:List AV):Prop where
 e:ys=(fY s).map xZ
def zk.put(h:zk us ts s i j k W)(c:k≠0):WW s (W++[.tup [.int i,.int j,.int k]]):=by
 have e:fY s=s.2++[s.1]:=if_neg λq=>c (by rw[h.e3,q];rfl);exact⟨by simp only[e,LD,h.e1,h.e2,h.e3,h.e4];rfl⟩
def zk.skip(h:zk us ts s i j k W)(c:k=0):WW s W:=by
 have e:fY s=s.2:=if_pos (QR.mp (h.e3▸c));exact⟨by rw[e,h.e4]⟩
def zk.roomM(h:zk us ts s i j k W)(m:WW s ys):ys.length<=us.length+1:=by
 have:=h.len;rw[m.e,KR];unfold fY;split
 ·omega
 ·simp only[Lb,Np];omega
def IY{fl:Nat->Nat->Nat->Nat->ah}(C D:Nat):(bb fl C D).length<=(bf fl (0,C,0,D)).length+2:=by
 have a:∀(ts:List ah) (s:ah×List ah),(ts.foldl dy s).2.length<=s.2.length+ts.length:=by
  intro ts;induction ts with
  |nil=>intro s;exact LK _
  |cons t ts d =>
   intro s;have i:=d (dy s t);have e:=BL s t;simp only[Mr,La];omega
 have a:=a (bf fl (0,C,0,D)) ((0,0,0),[]);unfold bb fY;rw[Lb];simp only[LA,La] at a ⊢;split
 ·omega
 ·simp only[Lb,Np];omega
def zk.new(h:zk us (t::ts) s i j k W)(c : ¬ (i+k=(t.1:Nat)/\j+k=(t.2.1:Nat)))(m:WW s ys):zk us ts (dy s t) (t.1:Nat) (t.2.1:Nat) (t.2.2:Nat) ys:=by
 have e:dy s t=(t,fY s):=if_neg λq=>c ⟨by simp only[h.e1,h.e3,<-q.1];rfl,by simp only[h.e2,h.e3,<-q.2];rfl⟩;refine⟨?_,?_,?_,?_,h.fold,h.step⟩
 ·rw[e]
 ·rw[e]
 ·rw[e]
 ·rw[e];exact m.e
def zk.last(h:zk (bf fl (0,C,0,D)) [] s i j k W)(m:WW s ys):ys++[.tup [.int C,.int D,.int 0]]=(bb fl C D).map xZ:=by
 have f:s=_:=h.fold;rw[m.e,f];unfold bb;rw[LD];rfl
end
def Dl(t:ah):AV:=.tup [.int t.1,.int t.2.1,.int t.2.2]
abbrev bR(w:Lz)(d i e pp:LP)(a b:List Ln)(l:List (Ln×AV))(k j:AV)(Y:aa):aa:=(d,bO (lh a b i e pp k j))::(i,aA (bZ ab w) l)::(e,ed)::Y
abbrev aY(a b:List Ln):Nat->Nat->Nat->Nat->ah:=cw (aH a b) (aR a b)
abbrev wb(d:LP)(s r p o n l k j i e a y z u x J G E v:AV:=.any):List (Str×AV):=[(q6,.inst 242 d),(tc,s),(sZ,r),(sY,p),(sX,o),(lX,n),(oW,l),(q1,k),(zm,j),(mc,i),(lZ,e),(zi,a),(zp,y),(zq,z),(zo,u),(th,x),(mf,J),(me,G),(zl,E),(zj,v)]
section
variable(d q C:LP)(F D:Nat)(rest:aa)(fl:Nat->Nat->Nat->Nat->ah)
abbrev rn(o n l k j i e a:AV:=.any):List (Str×AV):=wb d o n l k j i e a .any .any .any (.int D) (.int F) (.ref q) (.ref C)
def JQ(n:Nat)(P:St->Prop):Prop:=∀W a,WK fl F D W a n->P ⟨rn d q C F D,(C,.list W)::(q,.list a)::rest⟩
def KQ(P:St->Prop):Prop:=∀a,(bf fl (0,F,0,D)).Perm a->P ⟨rn d q C F D,(C,.list (a.map cI))::(q,.list [])::rest⟩
variable{d q C F D rest fl}
def KQ.of(h:WK fl F D W b n)(c:(!b.isEmpty)=Wx):Nx (KQ d q C F D rest fl) .next ⟨rn d q C F D,(C,.list W)::(q,.list b)::rest⟩:=by
 obtain⟨rfl,a,rfl,p⟩:=h.done c;exact .mk (λO y=>y _ p) @_
end
section
variable(d h c:LP)(C q:Nat)(us:List ah)(rest:aa)
abbrev AN(l e a:AV)(i j k:Int):List (Str×AV):=wb d .any .any .any .any .any .any .any .any l e a (.int q) (.int C) (.ref h) (.lst (us.map cI)) (.int i) (.int j) (.int k) (.ref c)
def JA(ts:List ah)(P:St->Prop):Prop:=∀s i j k W,zk us ts s i j k W->P ⟨AN d h c C q us .any .any .any i j k,(c,.list W)::rest⟩
def JY(l e a:AV)(i j k:Int)(s:ah×List ah)(P:St->Prop):Prop:=∀ys,WW s ys->P ⟨AN d h c C q us l e a i j k,(c,.list ys)::rest⟩
end
def KW(a6:List (Str×AV))(Y:el->aa)(E:List AV)(P:St->Prop):Prop:=P ⟨a6,Y (.list E)⟩
def KW.mk{E:List AV}(e:c=E)(h:fg ft a6=a6)(a:b=Y (.list c)):Nx (KW a6 Y E) .next ⟨ft,b⟩:=a▸.ld (di:=⟨a6,Y (.list c)⟩) (λO y=>e▸y) h
def blocks{a b:List Ln}(hA:dt A 80)(ha:a.length<10^5)(hb:b.length<10^5)(G:(bf (aY a b) (0,a.length,0,b.length)).length<2)
  (XC:(D==Nl)=Wx) (Xy:∀k,(bo M k).getD (.lst [])=.lst (eC (bS b k))):TC w A (af w) (.ref 203) [.inst 242 d] [] (bR w d D P pp a b M .none H Y) λv a8 =>
   v=.lst ((bb (aY a b) a.length b.length).map cI)/\a8=bR w d D P pp a b M (.lst ((bb (aY a b) a.length b.length).map cI)) H Y:=by
 refine m1 (en (wb d) (bq w) hA.lt (λO=>@_) @_ @_ (aF4 _) λL hL=>?_);have J:=hA.deeper (k:=77) (z:=av (ak (jf w.params)) L 203 202);have hh:=J.h;have e:=(((((((gk w (A.deeper _) (ak (jf w.params)) L 203 202 @_ @_ hh).g (lm w) @_ @_).g (rB w) @_ @_).g (Bl w) @_ @_).g (Ie w) @_ @_).m ⟨EC,1, "list.append"⟩ OQ iH OU).m ⟨EH,1, "list.pop"⟩ OQ aBy F.type_list_pop).m ⟨Gq,1, "list.sort"⟩ OQ aBw F.type_list_sort;have z1:∀ {n},n<=2 * a.length+1->n<LY:=λh=>Ox (Mc h (OH (PY 2 (MW ha)))) ⋯;have X:=rD (aH a b) (aR a b);refine ba e 20 ?_;refine ba e 20 (ax.mk (eI (bd _) @_ (KJ ..) (v:=.none) @_ rfl ?_));refine ba e 20 (ax.mk (eI (bd _) @_ (KJ ..) (v:=.lst (a.map .ln)) @_ rfl (ax.mk (rW .frz (by rw[KR];exact Pa ha ⋯) (ax.mk (eI (bd _) @_ (KJ ..) (v:=.lst (b.map .ln)) @_ rfl (ax.mk (rW .frz (by rw[KR];exact Pa hb ⋯) ?_))))))));rw[KR,KR];refine aw (ir (oD (aO e 20 ⟨(by decide:1<=LY),λu g3=>aW rfl ?_⟩)) @_);refine ba e 20 (ax.mk (cH rfl λma h6=>?_));refine aw (l7 (KQ d u ma a.length b.length (bR w d D P pp a b M .none H Y) (aY a b)) (oA (JQ d u ma a.length b.length (bR w d D P pp a b M .none H Y) (aY a b)) (λn W ws h=>?_) (.mk (λO y=>y _ _ WK.start) @_)) λms h=>?_)
 ·refine aV e 20 (ax.mk (jG (.own (KP _ (KJ ..))) (Ox h.room (Ox (OH (PY 2 (MW ha))) ⋯)) (nZ (λc=>?_) λc=>KQ.of h c)));refine(h.pop c).elim λV hp=>hp.elim λq p=>?_;have hr:=p.2.room X;have hw:=p.2.w;refine aw (eF rfl rfl rfl (ae e 20 ⟨bH (KP _ (KJ ..)),ax.mk (aJr p.1 (.there .here) (z1 (ON hr.1)) (gf (by assumption) @_ @_ @_ (em _ rfl _ _ rfl rfl ?_)))⟩));refine aw (gG rfl rfl rfl (jD (name:=jS) (C:=242) (f:=196) @_ @_ @_ (bd _) @_ @_ (ae e 20 (.mk (KP _ (KP _ (KJ ..))) @_ (dd @_ (bw @_) (aO e 20 ?_))))));refine aJo (nt:=bR w d D P pp a b M .none H ((ma,.list W)::(u,.list V)::Y)) (Qk [_,_] [_,_,_] _) (aGd (J.mono ⋯) ⋯ ⋯ hw.1 hw.2.1 hw.2.2.1 hw.2.2.2 XC Xy) λv hv=>?_;rw[hv];clear hv v;generalize U:cw (aH a b) (aR a b) q.1 q.2.1 q.2.2.1 q.2.2.2=r;refine CJ (by assumption) (AM _) @_ @_ @_ (em _ rfl _ _ rfl rfl (bQ (aW rfl ?_)));refine aw (bV (aV e 20 (nZ (λc=>?_) λc=>aK (aK ⟨_,(p.2.zeroR U (bne_eq_false_iff_eq.mp c)).1,.mk (λO y=>y _ _ (p.2.zeroR U (bne_eq_false_iff_eq.mp c)).2) @_⟩))));have hk:=bne_iff_ne.mp c;refine ba e 20 ⟨bH (KJ ..),ax.mk (gJ .here (MW (z1 (Mc hr.2 (Mc (Nat.le_mul_of_pos_left _ Nat.two_pos) (Pp _))))) ?_)⟩;refine aw (l7 (KW (rn d u ma a.length b.length (.int q.1) (.int q.2.1) (.int q.2.2.1) (.int q.2.2.2) (.int r.1) (.int r.2.1) (.int r.2.2) (gL r)) (λo=>(ma,.list (W++[gL r]))::(u,o)::bR w d D P pp a b M .none H Y) (V++gi q r)) (aN e 20 (bN (λR=>bN (λK=>⟨bH (KP _ (KJ ..)),ax.mk (gJ (.there .here) (MW (z1 (ON hr.1))) (KW.mk (by rw[aAs R K]) @_ rfl))⟩) λK=>gu (KW.mk (by rw[aAt K,Ms]) @_ rfl)) λR=>gu (KW.mk (by rw[aAu R,Ms]) @_ rfl))) ?_);have Ym:(V++gi q r).length<=2 * a.length+1:=by rw[Lb];exact OM hr.1 aAv
  refine aw (l7 (KW (rn d u ma a.length b.length (.int q.1) (.int q.2.1) (.int q.2.2.1) (.int q.2.2.2) (.int r.1) (.int r.2.1) (.int r.2.2) (gL r)) (λo=>(ma,.list (W++[gL r]))::(u,o)::bR w d D P pp a b M .none H Y) (V++gi q r++lQ q r)) (aN e 20 (bN (λR=>bN (λK=>⟨bH (KP _ (KJ ..)),ax.mk (gJ (.there .here) (MW (z1 Ym)) (KW.mk (by rw[aAp R K]) @_ rfl))⟩) λK=>gu (KW.mk (by rw[aAq K,Ms]) @_ rfl)) λR=>gu (KW.mk (by rw[aAr R,Ms]) @_ rfl))) ?_);exact aK (aK ⟨_,(p.2.goR X U hk).1,.mk (λO y=>y _ _ (p.2.goR X U hk).2) @_⟩)
 ·have YZ:=aDF X (q:=(0,a.length,0,b.length)) (Lq _) (Lq _);refine ba e 20 ⟨bH (KJ ..),ax.mk (aJi (k:=20) (ts:=ms) (us:=bf (aY a b) (0,a.length,0,b.length)) (J.mono ⋯) h YZ (h.length_eq▸G) .here ?_)⟩;refine aw (aIC rfl rfl rfl (ae e 20 (bQ (aW rfl (bQ (aW rfl (bQ (aW rfl ?_))))))));refine ba e 20 (ax.mk (cH rfl λna g7=>?_));refine T.perm (Nc _ _ _) (m5 (ft:=AN d u na a.length b.length (bf (aY a b) (0,a.length,0,b.length)) .any .any .any 0 0 0) (by repeat constructor) ?_);refine aw (jz (k:=5) cI (JA d u na a.length b.length (bf (aY a b) (0,a.length,0,b.length)) ((u,.list [])::bR w d D P pp a b M .none H Y)) (J.mono ⋯) (ae e 20 (fc (k:=5) λit gl hI => .mk hI (.mk (λO y=>y _ _ _ _ _ zk.start) @_))) ?_ ?_ λO=>@_)
  ·intro gl t ts s i j k W h;have hr:=h.room;refine CJ (by assumption) (AM _) @_ @_ @_ (em _ rfl _ _ rfl rfl ?_);refine aw (bV (T.bool (p:=i+k=(t.1:Nat)/\j+k=(t.2.1:Nat)) (aV e 20 (gQ (λR=>gQ (λK=>⟨rfl,iff_of_true rfl ⟨R,K⟩⟩) λK=>⟨rfl,iff_of_false LZ λq=>K q.2⟩) λR=>⟨rfl,iff_of_false LZ λq=>R q.1⟩)) (λc=>?_) λc=>?_))
   ·exact ba e 20 (aK (aK (.next (l:=(na,.list W)::(u,.list [])::bR w d D P pp a b M .none H Y) (.mk (λO y=>y _ _ _ _ _ (h.join c.1 c.2)) @_))))
   ·refine aw (l7 (JY d u na a.length b.length (bf (aY a b) (0,a.length,0,b.length)) (((u,.list [])::bR w d D P pp a b M .none H Y)++gl) (.int (t.1:Nat)) (.int (t.2.1:Nat)) (.int (t.2.2:Nat)) i j k s) (aN e 20 (Gw (λc=>⟨bH (KJ ..),ax.mk (gJ .here (Mc h.room (Mc (MW G) ⋯)) (.mk (λO y=>y _ (h.put c)) @_))⟩) λc => .mk (λO y=>y _ (h.skip c)) @_)) λys m=>?_);refine ba e 20 ?_;exact aK (aK (.next (l:=(na,.list ys)::(u,.list [])::bR w d D P pp a b M .none H Y) (.mk (λO y=>y _ _ _ _ _ (h.new c m)) @_)))
  ·intro s i j k W h;have hr:=h.room;refine aw (l7 (JY d u na a.length b.length (bf (aY a b) (0,a.length,0,b.length)) ((u,.list [])::bR w d D P pp a b M .none H Y) .any .any .any i j k s) (aN e 20 (Gw (λc=>⟨bH (KJ ..),ax.mk (gJ .here (Mc h.room (Mc (MW G) ⋯)) (.mk (λO y=>y _ (h.put c)) @_))⟩) λc => .mk (λO y=>y _ (h.skip c)) @_)) λys m=>?_);have YC:=h.roomM m;refine ba e 20 ⟨bH (KJ ..),ax.mk (lH (h.last m) .here (Mc (h.roomM m) (Mc G ⋯)) ?_)⟩;have YH:=IY (fl:=aY a b) a.length b.length;generalize bb (aY a b) a.length b.length=bs at *;refine m5 (ft:=wb d .any .any .any .any .any .any .any .any .any .any .any (.int b.length) (.int a.length) (.ref u) (.lst ((bf (aY a b) (0,a.length,0,b.length)).map cI)) (.int i) (.int j) (.int k) (.lst (bs.map Dl))) (by repeat constructor) ?_;refine aw (eF rfl rfl rfl (ae e 20 (ax.mk (aKj (f:=89) @_ (aGn _) (aFn _) λq=>ax.mk (oF λm it=>ax.mk ?_)))));refine xg (k:=31) (T' := "map") (items:=bs.map cI) (gl:=dp m it (.ref q) (bs.map Dl) 0 [(q,.raw (Tj (.ref 89) (.ref 135)))]) (Y:=(u,.list [])::bR w d D P pp a b M .none H Y) (N:=[]) (J.mono ⋯) .nil
    (eg.map (N:=[]) (k:=30) (ys:=bs.map cI) (by rw[KR,KR]) (λi x y hx hy A' Yv a8 O=>?_) bs.length 0 (by rw[KR,OJ])) (by rw[KR,Mz];omega) (λs Z S=>?_) ⋯ ⋯ (λA s Z S Q E h=>rg S h) rh ri ?_
   ·rw[Ma] at hx hy;refine ag (MB.mp hx) λt ht O3=>?_;subst O3;refine ag (MB.mp hy) λt' ht' O3=>?_;subst O3;rw[ht] at ht';cases ht'
    exact aIS (by repeat constructor) (aDN (Yv.mono ⋯))
   ·exact rj S
   ·refine dZ (ae e 20 (fa (m':=lh a b D P pp (.lst (bs.map cI)) H) (bd _) @_ (.there .here) rfl (Mx rfl) ?_));refine bE e 20 (ax.mk (eI (bd _) @_ (KP _ (KJ ..)) (v:=.lst (bs.map cI)) @_ rfl ?_));exact fL _ ⟨[(u,.list [])],.refl _⟩ rfl rfl
set_option genSizeOf false in set_option genInjectivity false in
structure Op where
 tag:Str
 i1:Nat
 i2:Nat
 j1:Nat
 j2:Nat
abbrev aT:Str:=Gm
abbrev cN:Str:=Gp
abbrev cZ:Str:=Go
abbrev cY:Str:=Gn
def aU(o:Op):AV:=.tup [.str o.tag,.int o.i1,.int o.i2,.int o.j1,.int o.j2]
def fH(i d j a:Nat):List Op:=if i<d/\j<a then [⟨cN,i,d,j,a⟩] else if i<d then [⟨cZ,i,d,j,a⟩] else if j<a then [⟨cY,i,d,j,a⟩] else []
def fF(t:ah):List Op:=if t.2.2=0 then [] else [⟨aT,t.1,t.1+t.2.2,t.2.1,t.2.1+t.2.2⟩]
def dI(s:(Nat×Nat)×List Op)(t:ah):(Nat×Nat)×List Op:=((t.1+t.2.2,t.2.1+t.2.2),s.2++fH s.1.1 t.1 s.1.2 t.2.1++fF t)
def cJ(bs:List ah):List Op:=(bs.foldl dI ((0,0),[])).2
def IV(i d j a:Nat):(fH i d j a).length<=1:=by
 unfold fH;split
 ·simp
 ·split
  ·simp
  ·split <;> simp
def aEK(t:ah):(fF t).length<=1:=by unfold fF;split <;> simp
def GD(s:(Nat×Nat)×List Op)(t:ah):(dI s t).2.length<=s.2.length+2:=by
 have d:=IV s.1.1 t.1 s.1.2 t.2.1;have a:=aEK t;unfold dI;simp only[Lb];omega
def aIk(ts:List ah):∀s:ah×List ah,(ts.foldl dy s).2.length<=s.2.length+ts.length:=by
 induction ts with
 |nil=>exact λs=>LK _
 |cons t ts a=>exact λs=>Mc (a (dy s t)) (Mc (OK (BL s t) _) (Oz (Oy ..)))
def IZ(d:dR fl)(la a:Nat):(bb fl la a).length<=la+2:=by
 have i:(bf fl (0,la,0,a)).length<=la:=Hd d (la-0) 0 la 0 a (Lq _) (Lq _);have e:=aIk (bf fl (0,la,0,a)) ((0,0,0),[]);unfold bb fY;rw[Lb];simp only[LA,La] at e ⊢;split
 ·omega
 ·rw[Lb];simp only[La,LA];omega
def sc{K:Bool->St->Prop}(d:x.length<2^62)(h:K ((x.length:Int) != 0) V):F1 w A B z aM truthy (.str x) V K:=F1.of λs Z S Q E a=>c2 λO=>PySem.P.truthy_str ⋯ (a _ _ _ Z V h (S.toks _) rfl (.toks _))
def Kr{Y:aa}(p:Y.Perm nt)(h:TC w A B f args kw nt K0)(j:∀v l,K0 v l->∃l',vi l l'/\K v ⟨a6,l'⟩):FC w A B z f args kw ⟨a6,Y⟩ K:=FC.weak (K0:=λv a=>K0 v a.led/\a.loc=a6) (Ct ((TC.perm p h).mono λv l d=>⟨d,rfl⟩)) λv ft l d=>by
  refine aD d λi e=>?_;clear d;dsimp only at i e;subst e;exact j v l i
section
structure mv (bs ts:List ah) (s:(Nat×Nat)×List Op) (i j:Int) (W:List AV):Prop where
 e1:i=s.1.1
 e2:j=s.1.2
 e3:W=s.2.map aU
 fold:ts.foldl dI s=bs.foldl dI ((0,0),[])
 len:s.2.length+2 * ts.length<=2 * bs.length
inductive sp (s:Nat×Nat) (t:ah):Str->Prop where
 |no (h:fH s.1 t.1 s.2 t.2.1=[]):sp s t ⟨⟨[]⟩⟩
 |yes {tag:Str} (h0:0<tag.length) (h1:tag.length<2^62) (h:fH s.1 t.1 s.2 t.2.1=[⟨tag,s.1,t.1,s.2,t.2.1⟩]):sp s t tag
variable{bs ts:List ah}{s:(Nat×Nat)×List Op}{i j:Int}{t:ah}{C:Str}{l:List Op}
def mv.rep(h:mv bs (t::ts) s i j W)(c1:i<(t.1:Int))(a:j<(t.2.1:Int)):sp s.1 t cN:=.yes ⋯ ⋯ (if_pos ⟨OR.mp (h.e1▸c1),OR.mp (h.e2▸a)⟩)
def mv.del(h:mv bs (t::ts) s i j W)(c1:i<(t.1:Int))(a : ¬ j<(t.2.1:Int)):sp s.1 t cZ:=.yes ⋯ ⋯ ((if_neg λq=>a (h.e2▸OR.mpr q.2)).trans (if_pos (OR.mp (h.e1▸c1))))
def mv.ins(h:mv bs (t::ts) s i j W)(c1 : ¬ i<(t.1:Int))(a:j<(t.2.1:Int)):sp s.1 t cY:=have n : ¬ s.1.1<t.1:=λq=>c1 (h.e1▸OR.mpr q)
 .yes ⋯ ⋯ ((if_neg λq=>n q.1).trans ((if_neg n).trans (if_pos (OR.mp (h.e2▸a)))))
def mv.none(h:mv bs (t::ts) s i j W)(c1 : ¬ i<(t.1:Int))(a : ¬ j<(t.2.1:Int)):sp s.1 t ⟨⟨[]⟩⟩:=have n : ¬ s.1.1<t.1:=λq=>c1 (h.e1▸OR.mpr q)
 .no ((if_neg λq=>n q.1).trans ((if_neg n).trans (if_neg λq=>a (h.e2▸OR.mpr q))))
def sp.small(h:sp s.1 t C):C.length<2^62:=by
 induction h with
 |no _=>decide
 |yes _ a _=>exact a
structure WL (s:(Nat×Nat)×List Op) (t:ah) (ys:List AV):Prop where
 e:ys=(s.2++fH s.1.1 t.1 s.1.2 t.2.1).map aU
def mv.put(h:mv bs (t::ts) s i j W)(g:sp s.1 t C)(c:((C.length:Int) != 0)=Ww):WL s t (W++[.tup [.str C,.int i,.int (t.1:Nat),.int j,.int (t.2.1:Nat)]]):=by
 cases g with
 |no _=>cases c
 |yes _ _ q=>exact⟨by simp only[q,LD,h.e1,h.e2,h.e3];rfl⟩
def mv.skip(h:mv bs (t::ts) s i j W)(g:sp s.1 t C)(c:((C.length:Int) != 0)=Wx):WL s t W:=by
 cases g with
 |no q=>exact⟨by rw[q,Ms,h.e3]⟩
 |yes a _ _=>exact absurd (QR.mp (bne_eq_false_iff_eq.mp c)) (Qg a)
def mv.room(h:mv bs (t::ts) s i j W):W.length+2<=2 * bs.length:=by
 have:=h.len;rw[h.e3,KR];simp only[La] at this;omega
def WL.room(h:mv bs (t::ts) s i j W)(m:WL s t ys):ys.length+1<=2 * bs.length:=by
 have:=h.len
 have:=IV s.1.1 t.1 s.1.2 t.2.1;rw[m.e,KR,Lb];simp only[La] at *;omega
def mv.step(h:mv bs (t::ts) s i j W):(dI s t).2.length+2 * ts.length<=2 * bs.length:=by
 have:=h.len
 have:=GD s t;simp only[La] at *;omega
def mv.keep(h:mv bs (t::ts) s i j W)(m:WL s t ys)(c:(((t.2.2:Nat):Int) != 0)=Ww):mv bs ts (dI s t) ((t.1:Nat)+(t.2.2:Nat)) ((t.2.1:Nat)+(t.2.2:Nat)) (ys++[.tup [.str aT,.int (t.1:Nat),.int ((t.1:Nat)+(t.2.2:Nat)),.int (t.2.1:Nat),.int ((t.2.1:Nat)+(t.2.2:Nat))]]):=by
 have k:fF t=[⟨aT,t.1,t.1+t.2.2,t.2.1,t.2.1+t.2.2⟩]:=if_neg λq=>bne_iff_ne.mp c (by rw[q];rfl);refine⟨rfl,rfl,?_,h.fold,h.step⟩;show _=List.map aU (s.2++_++fF t);rw[k,LD,m.e];rfl
def mv.pass(h:mv bs (t::ts) s i j W)(m:WL s t ys)(c:(((t.2.2:Nat):Int) != 0)=Wx):mv bs ts (dI s t) ((t.1:Nat)+(t.2.2:Nat)) ((t.2.1:Nat)+(t.2.2:Nat)) ys:=by
 have k:fF t=[]:=if_pos (QR.mp (bne_eq_false_iff_eq.mp c));refine⟨rfl,rfl,?_,h.fold,h.step⟩;show _=List.map aU (s.2++_++fF t);rw[k,Ms,m.e]
def mv.last(h:mv bs [] s i j W):W=(cJ bs).map aU:=by
 have f:s=_:=h.fold;rw[h.e3,f];rfl
end
section
variable(d c:LP)(bs:List ah)(l0:aa)
abbrev AO(l k e a:AV)(i j:Int):List (Str×AV):=[(q6,.inst 242 d),(zg,l),(zf,k),(iL,e),(lY,a),(lX,.int i),(oW,.int j),(zh,.ref c)]
def JO(ts:List ah)(P:St->Prop):Prop:=∀s i j W,mv bs ts s i j W->P ⟨AO d c .any .any .any .any i j,(c,.list W)::l0⟩
def KT(s:(Nat×Nat)×List Op)(t:ah)(i j:Int)(W:List AV)(P:St->Prop):Prop:=∀a,sp s.1 t a->P ⟨AO d c (.int (t.1:Nat)) (.int (t.2.1:Nat)) (.int (t.2.2:Nat)) (.str a) i j,(c,.list W)::l0⟩
def KM(s:(Nat×Nat)×List Op)(t:ah)(i j:Int)(a:Str)(P:St->Prop):Prop:=∀ys,WL s t ys->P ⟨AO d c (.int (t.1:Nat)) (.int (t.2.1:Nat)) (.int (t.2.2:Nat)) (.str a) i j,(c,.list ys)::l0⟩
end
def aCJ{a b:List Ln}(R:dt A 90)(P:a.length<10^5)(N:b.length<10^5)(x:(bf (aY a b) (0,a.length,0,b.length)).length<2)
  (J:(q==Nl)=Wx) (G:∀k,(bo D k).getD (.lst [])=.lst (eC (bS b k))):TC w A (af w) (.ref 210) [.inst 242 d] [] (bR w d q F pp a b D .none .none Y) λv a8 =>
   ∃e,v=.ref e/\a8=(e,.list ((cJ (bb (aY a b) a.length b.length)).map aU))::bR w d q F pp a b D (.lst ((bb (aY a b) a.length b.length).map cI)) (.ref e) Y:=by
 refine m1 (en [(q6,.inst 242 d),(zg,.any),(zf,.any),(iL,.any),(lY,.any),(lX,.any),(oW,.any),(zh,.any)] (bq w) R.lt (λO=>@_) @_ @_ (aF3 _) λL X=>?_);have o:=R.deeper (k:=87) (z:=av (ak (je w.params)) L 210 209);have H:=o.h;have n:=((gk w (A.deeper _) (ak (je w.params)) L 210 209 @_ @_ H)).m ⟨EC,1, "list.append"⟩ OQ iH OU;have M:=IZ (rD (aH a b) (aR a b)) a.length b.length;generalize K:bb (aY a b) a.length b.length=u at *;refine bE n 100 (ax.mk (eI (bd _) @_ (KJ ..) (v:=.none) @_ rfl (ax.mk (gG rfl rfl rfl (ae n 20 (bQ (aW rfl (bQ (aW rfl (ax.mk (gG rfl rfl rfl (ax.mk (cH rfl λe Z=>dZ (ae n 20 ?_))).out)))))))))));refine fa (m':=lh a b q F pp .none (.ref e)) (bd _) @_ (.there .here) rfl (Mx rfl) (bQ (aW rfl (ax.mk (jz (k:=5) cI (JO d e u (bR w d q F pp a b D (.lst (u.map cI)) (.ref e) Y)) (o.mono ⋯) ?_ ?_ ?_ λO=>@_))))
 ·refine jD (name:=ko) (C:=242) (f:=203) @_ @_ @_ (bd _) @_ @_ (ae n 20 (.mk (KP _ (KJ ..)) @_ (dd @_ (bw @_) (iu (Kr (nt:=bR w d q F pp a b D .none (.ref e) ((e,.list [])::Y)) (Qk [_] [_,_,_] _) (blocks (o.mono ⋯) P N x J G) λv l h=>?_)))));simp only[h.1,h.2,K];exact cL ((e,.list [])::bR w d q F pp a b D (.lst (u.map cI)) (.ref e) Y) (.perm (Qk [_,_,_] [_] _)) (fc (k:=5) λit Q S => .mk S (.mk (λO y=>y ((0,0),[]) _ _ _ ⟨rfl,rfl,rfl,rfl,Oz (OJ _)⟩) @_))
 ·intro Q t U s i j W h;have V:=h.room;refine CJ (by assumption) (AM _) @_ @_ @_ (em _ rfl _ _ rfl rfl (ba n 60 (aw (l7 (KT d e (bR w d q F pp a b D (.lst (u.map cI)) (.ref e) Y++Q) s t i j W) (aN n 60 (bN (λr=>bN (λp => .mk (λO y=>y _ (h.rep r p)) @_) λp=>gu (bN (λO => .mk (λO y=>y _ (h.del r p)) @_) λc=>(c r).elim)) λr=>gu (bN (λc=>(r c).elim) λO=>bN (λp => .mk (λO y=>y _ (h.ins r p)) @_) λp => .mk (λO y=>y _ (h.none r p)) @_))) λE g=>aw (l7 (KM d e (bR w d q F pp a b D (.lst (u.map cI)) (.ref e) Y++Q) s t i j E) (aN n 60 (ax.mk (sc g.small (cA (λc=>⟨bH (KJ ..),ax.mk (gJ .here (by rw[Mz];omega) (.mk (λO y=>y _ (h.put g c)) @_))⟩) λc => .mk (λO y=>y _ (h.skip g c)) @_)))) λys m=>?_)))));have V:=m.room h;refine bE n 60 (cA (λc=>⟨bH (KJ ..),ax.mk (gJ .here (by rw[Mz];omega) (.next (l:=(e,.list _)::bR w d q F pp a b D (.lst (u.map cI)) (.ref e) Y) (.mk (λO y=>y _ _ _ _ (h.keep m c)) @_)))⟩) λc => .next (l:=(e,.list _)::bR w d q F pp a b D (.lst (u.map cI)) (.ref e) Y) (.mk (λO y=>y _ _ _ _ (h.pass m c)) @_))
 ·intro s i j W h;exact⟨_,.refl _,e,rfl,h.last▸rfl⟩
def cX(n:Nat)(o:Op):Op:=if o.tag=aT then ⟨o.tag,max o.i1 (o.i2-n),o.i2,max o.j1 (o.j2-n),o.j2⟩ else o
def cQ(n:Nat)(o:Op):Op:=if o.tag=aT then ⟨o.tag,o.i1,min o.i2 (o.i1+n),o.j1,min o.j2 (o.j1+n)⟩ else o
def pv(f:Op->Op):List Op->List Op
 | []=>[]
 |o::os=>f o::os
def fB(f:Op->Op):List Op->List Op
 | []=>[]
 | [o]=>[f o]
 |o::p::os=>o::fB f (p::os)
def iE(n:Nat)(a:List Op):List Op:=fB (cQ n) (pv (cX n) (if a.isEmpty then [⟨aT,0,1,0,1⟩] else a))
def dc(n:Nat):List Op->List Op->List (List Op)
 |group,[]=>if group.isEmpty then [] else if group.length=1/\(group.head?.map (·.tag))=Wu aT then [] else [group]
 |group,o::os =>
  if o.tag=aT/\o.i1+(n+n)<o.i2 then
   (group++[⟨o.tag,o.i1,min o.i2 (o.i1+n),o.j1,min o.j2 (o.j1+n)⟩])::dc n [⟨o.tag,max o.i1 (o.i2-n),o.i2,max o.j1 (o.j2-n),o.j2⟩] os
  else dc n (group++[o]) os
def wq{g:List Op}{P:List (List Op)->Prop}(a:g.isEmpty=Ww->P [])(b:g.length=1/\(g.head?.map (·.tag))=Wu aT->P [])(c : ¬ g.isEmpty=Ww -> ¬ (g.length=1/\(g.head?.map (·.tag))=Wu aT)->P [g]):P (dc n g []):=iteInduction (motive:=P) a λh=>iteInduction (motive:=P) b (c h)
def aFy{g os:List Op}{o:Op}{P:List (List Op)->Prop}(a:o.tag=aT/\o.i1+(n+n)<o.i2->P ((g++[⟨o.tag,o.i1,min o.i2 (o.i1+n),o.j1,min o.j2 (o.j1+n)⟩])::dc n [⟨o.tag,max o.i1 (o.i2-n),o.i2,max o.j1 (o.j2-n),o.j2⟩] os))(b : ¬ (o.tag=aT/\o.i1+(n+n)<o.i2)->P (dc n (g++[o]) os)):P (dc n g (o::os)):=iteInduction (motive:=P) a b
def cF(n:Nat)(a:List Op):List (List Op):=dc n [] (iE n a)
def ce(g:List Op):AV:=.lst (g.map aU)
def aCE(ts:List ah):∀s:(Nat×Nat)×List Op,(ts.foldl dI s).2.length<=s.2.length+2 * ts.length:=by
 induction ts with
 |nil=>exact λs=>LK _
 |cons t ts a=>exact λs=>Mc (a (dI s t)) (Mc (OK (GD s t) _) (Oz (by rw[La,Nat.mul_succ,OF,Qu 2])))
def GC(bs:List ah):(cJ bs).length<=2 * bs.length:=by
 have:=aCE bs ((0,0),[]);unfold cJ;simp only[LA] at this;omega
section
variable{N:aa}{n m:Nat}{a7:List AV}{K:dr->St->List AV->Prop}{t:Sem Flow}{l l':aa}
def TG.freeze(k:ij a W a6 ft)(h:TG w B N n m z t ⟨ft,l⟩ a7 K):TG w B N n m z t ⟨a6,(a,.list W)::l⟩ a7 K:=λc E R H y i j o p u A x Y r v d c7 e s Z S X=>by
  refine bn (ff.freeze (Y:=l++Y) S k) λG Q V J=>?_;exact h c E R H y i j o p u A x Y r v d c7 e s G Q (X.trans J)
def TG.weak(i:vi l l')(h:TG w B N n m z t ⟨a6,l'⟩ a7 K):TG w B N n m z t ⟨a6,l⟩ a7 K:=λc J Q H G j k o u x A E Y v y a c7 e s Z S X=>by
  refine al i λr p=>?_;clear i;have d:vi (l++Y) (l'++Y):=⟨r,by rw[<-LH];exact p.append_right Y⟩;exact h c J Q H G j k o u x A E Y v y a c7 e s Z (S.weak d) (X.weakF d)
def TG.mono(h:TG w B N n m z t V a7 K)(i:∀f di a,K f di a->K' f di a):TG w B N n m z t V a7 K':=λc r s H p d e j l o=>h c r s H p d e j l λf x di a k=>o f x di a (i f di a k)
def aID{V:St}(h:∀A,dt A m->∀Y,kn N Y->T w A B z fv t ⟨V.loc,V.led++Y⟩ λf di=>f=.next/\∃ft l,di=⟨ft,l++Y⟩/\K .next ⟨ft,l⟩ a7):TG w B N n m z t V a7 K:=Jw λA d Y a=>(h A d Y a).mono λf di k=>by
  obtain⟨rfl,ft,l,rfl,k⟩:=k;exact fL l rfl trivial k
end
def dS{i:Int}{x:AV}{V:St}(h0:0<=i)(o:i<2^63)(hx:W[i.toNat]?=Wu x)(h:K x V):F2 w A B z Val QN (.tup W) (.int i) V K:=λs Z G y v r S Q E n=>by
 refine bL (oh v) λO O O j e vs=>?_;subst j
 (refine al r.inv λJ p=>?_;subst p)
 refine ag (vs.get hx) λu d l=>?_;have a:=(NM.mp d).1;exact P.getItem_tuple (k:=i.toNat) (S.frozen _ _ e) (RD ⋯ h0) o (seqIndex_of h0 ((Int.toNat_lt h0).mp a)) (by simpa using d) (n x u s Z V h S l .refl)
def GS{k:Int}(h:k+n=(j:Int)) : -(n:Int)<=k:=Int.zero_sub (n:Int)▸Int.sub_left_le_of_le_add (UY k n▸h.symm▸OG j)
def aBI{l:LP}{k:Int}{v:Value}{Q:Unit->KY->Prop}(e:s.heap.get? l=Wu {cls:=.type "list",data:=.seq items n})
  (y:k=j\/(k<0/\k+items.size=j)) (z:j<items.size) (d6:items.size<2^62)
  (h:Q () {s with heap:=s.heap.update l (Me (·.setIfInBounds j v))}):LC (Ly ab w) A (UH (.ref l) (.int k t) v) Q E s:=by
 have u:s.heap.IsList l items:=⟨_,e,rfl,n,rfl⟩;have p:({cls:=.type "list",data:=.seq items n}:Obj).data=.seq items n:=rfl;unfold UH;try with_reducible refine Lh ?_
 first |refine KI (KN ?_) |skip
 refine KI (wpAny_sequenceKey u.typeIs ⋯ ?_);refine KI (Mj (name:=KX "__setitem__") u.typeIs slot_list_setitem
  (Mb slot_list_setitem u.typeIs entry_list_setitem ?_ (args_list_setitem _ _ _)))
 have d:items[j]?=Wu items[j]:=MQ z;have a:Builtin.List.listFitsIndex k=Ww:=by
  rcases y with h |h
  ·exact h▸fitsIndex_of (OG j) (OR.mpr (Pa z (Pa d6 ⋯)))
  ·exact fitsIndex_neg h.1 (RD (Int.neg_le_neg (Pb.mpr (MW (Pa d6 ⋯)))) (GS h.2))
 show LC _ _ (Builtin.List.listSubscript? (.int k t)>>=_) _ _ s;refine KI (wpAny_listSubscript_int a ?_);clear a d6;rcases y with rfl |⟨J,G⟩
 ·skip
  show LC _ _ ((seqItemAt l j>>=λr=>Nb (r.map (j,·)))>>=_) _ _ s;refine KI (KI (wpAny_seqItemAt e p (KN ?_)));rw[d];show LC _ _ (setSeqItemAt l j v>>=_) _ _ s;refine KI (wpAny_setSeqItemAt e p ?_);first
   |exact KI (KN (KN ⟨.none,rfl,KN h⟩))
   |exact KN ⟨.none,rfl,KN h⟩
 ·have o:=seqIndex_neg (n:=items.size) J (GS G);have x:(k+items.size).toNat=j:=G.symm▸LX j;obtain⟨m,rfl⟩:∃j:Nat,k=Int.negSucc j:=by
   cases k with
   |ofNat n=>exact absurd J (Rd.mpr (OG n))
   |negSucc n=>exact⟨n,rfl⟩
  show LC _ _ ((PR (.ref l)>>=λW=>Nb ((seqIndex? (Int.negSucc m) W.size).bind λi=>W[i]?.map (i,·)))>>=_) _ _ s;refine KI (KI ?_);show LC _ _ (seqItems? (.ref l)>>=_) _ _ s;refine KI (MY e p (KN (KN ?_)));rw[o,x];simp only[VL,d,Oq];show LC _ _ (setSeqItemAt l j v>>=_) _ _ s;refine KI (wpAny_setSeqItemAt e p ?_);first
   |exact KI (KN (KN ⟨.none,rfl,KN h⟩))
   |exact KN ⟨.none,rfl,KN h⟩
def Vals.set{ys:List Value}(h:Vals Z W ys){x:AV}{y:Value}(hv:Val Z x y):∀(j:Nat),Vals Z (W.set j x) (ys.set j y):=by
 intro j;induction W generalizing ys j with
 |nil=>cases h;exact .nil
 |cons a W e =>
  cases h with
  |cons i d=>cases j with
   |zero=>exact .cons hv d
   |succ j=>exact .cons i (e d j)
def xj{k:Int}{R:Unit->St->Prop}(U:Upd a (.list W) (.list ys) Y a8)(y:ys=W.set j u)
  (G:k=j\/(k<0/\k+W.length=j)) (C:j<W.length) (d6:W.length<2^62) (h:R () ⟨a6,a8⟩):F3 w A B z UH (.ref a) (.int k) u ⟨a6,Y⟩ R:=λs Z q m o f c V S Q E K=>by
 (have v:=f.inv;subst v)
 (refine al c.inv λt v=>?_;subst v)
 subst y;refine bG (S.own _ U.mem) λd n g vs=>?_;dsimp only at g;have p:d.size=W.length:=by have:=vs.length;simpa using this
 refine aBI (j:=j) g (by exact(Eq.symm (p))▸G) ⋯ ⋯ ?_;have i:∃r,(s.heap.update a (Me (·.setIfInBounds j o))).get? a=Wu {cls:=.type "list",data:=.seq (d.setIfInBounds j o) r }:=⟨_,LV (Me (·.setIfInBounds j o)) g rfl⟩;refine al i ?_;clear i;intro r i;have l:Vals Z (W.set j u) (d.setIfInBounds j o).toList:=(Eq.symm (Array.toList_setIfInBounds))▸vs.set V j;have P:=S.toca.upd U (h':=s.heap.update a (Me (·.setIfInBounds j o))) (tk:=s.toks) (λb x J e=>(LR ..).extBut b x J e) rfl rfl ⟨_,r,i,l⟩;exact K () _ _ Z _ h (S.after P.1 P.2) trivial P.2.toF
def xl{x:AV}{V:St}(d:hZ V.led v ys)(a:ys=W++[x])(i:W.length<10^9)(h:K x V):F2 w A B z Val QN v (.int (-1)) V K:=by
 have e:ys.length=W.length+1:=a▸Lb;refine aJZ d ⋯ ⋯ ⋯ ?_ h;rw[e,a,show (-1+((W.length+1:Nat):Int)).toNat=W.length from congrArg Int.toNat (show -1+((W.length:Int)+1)=W.length by rw[UY,Int.add_neg_cancel_right])];exact List.getElem?_concat_length
section
abbrev be(o:Op):AV:=.tup [.str o.tag,.int (o.i1:Nat),.int (o.i2:Nat),.int (o.j1:Nat),.int (o.j2:Nat)]
def GF(f:Op->Op)(z:Op):∀(W:List Op),fB f (W++[z])=W++[f z]
 | []=>rfl
 | [x]=>rfl
 |x::y::W=>congrArg (x :: ·) (GF f z (y::W))
variable{o C:Op}{D F:List Op}
def vZ(a b n:Nat):max (a:Int) (b-n)=((max a (b-n):Nat):Int):=by
 rcases Sq n b with h |h
 ·rw[<-Int.ofNat_sub h];rcases Sq a (b-n) with q |q
  ·rw[Nat.max_eq_right q];exact Int.max_eq_right (Pb.mpr q)
  ·rw[Ub q];exact Rs (Pb.mpr q)
 ·rw[Nat.sub_eq_zero_of_le h,Ub (Lq a)];exact Rs (RD (Vy (Pb.mpr h)) (OG a))
def vY(a b n:Nat):min (a:Int) (b+n)=((min a (b+n):Nat):Int):=by
 rcases Sq a (b+n) with q |q
 ·rw[Pk q];exact Sw (Pb.mpr q)
 ·rw[TN q];exact Int.min_eq_right (Pb.mpr q)
def aFa(h:o.tag=aT):be (cX n o)=.tup [.str o.tag,.int (max (o.i1:Nat) ((o.i2:Nat)-(n:Nat))),.int (o.i2:Nat),.int (max (o.j1:Nat) ((o.j2:Nat)-(n:Nat))),.int (o.j2:Nat)]:=by
 unfold cX;rw[if_pos h,vZ,vZ]
def aFb(h:o.tag≠aT):cX n o=o:=if_neg h
def aEw(h:C.tag=aT):be (cQ n C)=.tup [.str C.tag,.int (C.i1:Nat),.int (min (C.i2:Nat) ((C.i1:Nat)+(n:Nat))),.int (C.j1:Nat),.int (min (C.j2:Nat) ((C.j1:Nat)+(n:Nat)))]:=by
 unfold cQ;rw[if_pos h,vY,vY]
def aEx(h:C.tag≠aT):cQ n C=C:=if_neg h
def rJ(a:List Op):List Op:=if a.isEmpty then [Op.mk aT 0 1 0 1] else a
def aHl(a:List Op):∃o D,rJ a=o::D/\D.length<=a.length:=by
 cases a with
 |nil=>exact eY _ _ rfl (LK _)
 |cons o D=>exact eY o D rfl (Pp _)
def aBr(o:Op)(D:List Op):∃F C,o::D=F++[C]/\F.length=D.length:=by
 rcases Os (o::D) with h |⟨l,x,h⟩
 ·cases h
 ·rw[Ot] at h;exact eY l x h (Re ((congrArg NY h).trans Lb).symm)
def aAP(h:rJ b=o::D)(h':cX n o::D=F++[C]):iE n b=F++[cQ n C]:=by
 show fB (cQ n) (pv (cX n) (rJ b))=_;rw[h];show fB (cQ n) (cX n o::D)=_;rw[h',GF]
structure WE (n:Nat) (ps:List Op) (W a7:List AV):Prop where
 run:∃g:List Op,W=g.map be/\a7=(dc n g ps).map ce/\W.length+2 * ps.length<10^7
structure WN (n:Nat) (p:Op) (ps:List Op) (qi qj:Int) (W a7:List AV):Prop where
 run:∃(g:List Op) (a b:Nat),qi=a/\qj=b/\W=g.map be/\a7=(dc n (g++[⟨p.tag,a,p.i2,b,p.j2⟩]) ps).map ce/\W.length+2+2 * ps.length<10^7
variable{p:Op}{H:List Op}{W a7:List AV}{M L:Int}
abbrev AX(n:Nat)(p:Op):Prop:=p.tag=aT/\((n:Nat):Int)+(n:Nat)<(p.i2:Nat)-(p.i1:Nat)
def WE.start{a:List Op}(h:a.length<10^6+10):WE n a [] ((dc n [] a).map ce):=⟨[],rfl,rfl,Ox (Oz (OJ _)) (Ox (PY 2 (MW h)) ⋯)⟩
def WE.room(h:WE n H W a7):W.length<10^7:=by
 refine bn h.run λg d a h=>?_;clear d;clear a;exact Ox (Ow ..) h
def WN.room(h:WN n p H M L W a7):W.length<10^7:=by
 refine lL h.run λg a b j i e d h=>?_;clear j;clear i;clear e;clear d;exact Ox (Mc (Ow _ 2) (Ow ..)) h
def WE.cut(h:WE n (p::H) W a7)(c:AX n p):∃rest,a7=.lst (W++[.tup [.str p.tag,.int (p.i1:Nat),.int (min (p.i2:Nat) ((p.i1:Nat)+(n:Nat))),.int (p.j1:Nat),.int (min (p.j2:Nat) ((p.j1:Nat)+(n:Nat)))]])::rest /\
  WN n p H (max (p.i1:Nat) ((p.i2:Nat)-(n:Nat))) (max (p.j1:Nat) ((p.j2:Nat)-(n:Nat))) [] rest:=by
 refine bn h.run λg i e a=>?_;subst i;subst e;refine⟨(dc n ([]++[⟨p.tag,max p.i1 (p.i2-n),p.i2,max p.j1 (p.j2-n),p.j2⟩]) H).map ce,?_,[],_,_,vZ ..,vZ ..,rfl,rfl,Ox (Mc (Oz (show 0+2+2 * H.length=2 * H.length+2 by rw[OJ,Qu])) (QG ..)) a⟩;have d:=c.2;rw[show dc n g (p::H)=_ from if_pos ⟨c.1,OR.mp (Int.add_lt_of_lt_sub_left d)⟩,Le,vY,vY];show AV.lst (List.map aU (g++_))::_=_;rw[LD];rfl
def WE.same(h:WE n (p::H) W a7)(c : ¬ AX n p):WN n p H (p.i1:Nat) (p.j1:Nat) W a7:=by
 refine bn h.run λg e d a=>?_;subst e;subst d;refine⟨g,p.i1,p.j1,rfl,rfl,rfl,?_,Ox (Oz (Qi ..)) a⟩;exact congrArg (List.map ce) (if_neg λq=>c ⟨q.1,Int.lt_sub_left_of_add_lt (OR.mpr q.2)⟩)
def WN.put(h:WN n p H M L W a7):WE n H (W++[.tup [.str p.tag,.int M,.int (p.i2:Nat),.int L,.int (p.j2:Nat)]]) a7:=by
 refine lL h.run λg a b k j i e d=>?_;subst k;subst j;subst i;subst e;exact⟨g++[⟨p.tag,a,p.i2,b,p.j2⟩],by rw[LD];rfl,rfl,by rw[Lb];exact Ox (OK (Pp (_+1)) _) d⟩
def WE.none(h:WE n [] W a7)(c:(!W.isEmpty)=Wx):a7=[]:=by
 refine bn h.run λg e d a=>?_;subst e;subst d;clear a;cases g with
 |nil=>rfl
 |cons q qs=>cases c
def WE.one(h:WE n [] W a7)(c:((W.length:Nat):Int)=1):∃q:Op,W=[be q]/\(q.tag=aT->a7=[])/\(q.tag≠aT->a7=[.lst W]):=by
 refine bn h.run λg a i d=>?_;subst a;subst i;clear d;rw[KR] at c;refine al (List.length_eq_one_iff.mp (PS.mp c)) λq a=>?_;subst a;exact fL q rfl (λe=>wq (P:=λl=>l.map ce=[]) (λO=>rfl) (λO=>rfl) λO c=>(c ⟨rfl,congrArg Wu e⟩).elim) λe=>wq (P:=λl=>l.map ce=[.lst [be q]]) (λc=>Qs c) (λc=>(e (No c.2)).elim) λO O=>rfl
def WE.many(h:WE n [] W a7)(c:(!W.isEmpty)=Ww)(a:((W.length:Nat):Int)≠1):a7=[.lst W]:=by
 refine bn h.run λg j i d=>?_;subst j;subst i;clear d;rw[KR] at a;cases g with
 |nil=>cases c
 |cons q qs =>
  have : ¬ (qs.length=0):=λe=>a (by rw[La,e];rfl);exact wq (P:=λl=>l.map ce=[.lst ((q::qs).map be)]) (λc=>Qs c) (λc=>(this (Re c.1)).elim) λO O=>rfl
def WE.last(h:WE n [] W a7):a7=[]\/a7=[.lst W]:=by
 cases c : !W.isEmpty with
 |false=>exact .inl (h.none c)
 |true =>
  by_cases a:((W.length:Nat):Int)=1
  ·refine bn (h.one a) λq j i d=>?_;clear j;by_cases e:q.tag=aT
   ·exact .inl (i e)
   ·exact .inr (d e)
  ·exact .inr (h.many c a)
def aHj{a:List Op}(c:(!!(a.map aU).isEmpty)=Ww)(d:rJ a=o::D):[AV.tup [.str aT,.int 0,.int 1,.int 0,.int 1]]=(o::D).map aU:=by
 cases a with
 |nil=>rw[<-d];rfl
 |cons p H=>cases c
def aHk{a:List Op}(c:(!!(a.map aU).isEmpty)=Wx)(d:rJ a=o::D):a.map aU=(o::D).map aU:=by
 cases a with
 |nil=>cases c
 |cons p H=>rw[<-d];rfl
def aBH(o o':Op)(D:List Op)(e:be o'=u):(o'::D).map aU=((o::D).map aU).set 0 u:=by rw[<-e];rfl
def aBG(C a:Op)(F:List Op)(e:be a=u):(F++[a]).map aU=((F++[C]).map aU).set F.length u:=by
 rw[<-e,LD,LD,List.set_append_right _ _ (by simp)];simp[aU]
end
section
variable{N:aa}{n m:Nat}{a7:List AV}{K:dr->St->List AV->Prop}{t:Sem Flow}{V:St}
inductive Xh (K:dr->St->List AV->Prop) (a7:List AV) (Y:aa):dr->St->Prop where
 |mk {a6:List (Str×AV)} (l:aa) (h:K .next ⟨a6,l⟩ a7):Xh K a7 Y .next ⟨a6,l++Y⟩
def dP(h:∀A,dt A m->∀Y,kn N Y->T w A B z fv t ⟨V.loc,V.led++Y⟩ (Xh K a7 Y)):TG w B N n m z t V a7 K:=aID λA e Y d=>(h A e Y d).mono λf a k=>by
  cases k with
  |mk l h=>exact⟨rfl,_,l,rfl,h⟩
inductive Yx (K:dr->St->List AV->Prop) (Y:aa):List AV->AV->St->Prop where
 |mk {a6:List (Str×AV)} {v:AV} {rest:List AV} (l:aa) (hb:v.bad=Wx) (h:K .next ⟨a6,l⟩ rest):Yx K Y (v::rest) v ⟨a6,l++Y⟩
def BX{e:Expr}(h:∀A,dt A m->∀Y,kn N Y->T w A B z Val (ME e z) ⟨V.loc,V.led++Y⟩ (Yx K Y a7))
  (d:z.scope.isCoroutine=Wx) (i:PV z=Wx):TG w B N n m z (exec (.Expr (.Yield (Wu e) b) a9) z) V a7 K:=aIE (λA p Y o=>(h A p Y o).mono λv a k =>
  Yx.casesOn (motive:=λa7 v a O=>∃l rest,a7=v::rest/\v.bad=Wx/\a.led=l++Y/\K .next ⟨a.loc,l⟩ rest) k λl j h=>⟨l,_,rfl,j,rfl,h⟩) d i
def WB.nextE{J:List AV->St->List AV->Prop}{K:dr->St->List AV->Prop}{l:aa}{a7:List AV}(e:l++gl=Y)(h:J W ⟨a6,l⟩ a7):WB J K W gl .next ⟨a6,Y⟩ a7:=e▸.next h
inductive Ends (a6:List (Str×AV)) (Y:aa):dr->St->Prop where
 |mk:Ends a6 Y .next ⟨a6,Y⟩
def bK{x:Stmt}(l:aa)(h:∀A,dt A m->∀Y,kn N Y->T w A B z fv (exec x z) ⟨V.loc,V.led++Y⟩ (Ends a6 (l++Y)))(k:TG w B N n m z (execs rest z) ⟨a6,l⟩ a7 K):TG w B N n m z (execs (x::rest) z) V a7 K:=bP (dP λA e Y d=>(h A e Y d).mono λf a q=>q.rec (.mk l k))
inductive Gives (a6:List (Str×AV)) (Y:aa) (v:AV):AV->St->Prop where
 |mk:Gives a6 Y v v ⟨a6,Y⟩
def gH{e:Expr}(l:aa)(h:∀A,dt A m->∀Y,kn N Y->T w A B z Val (ME e z) ⟨V.loc,V.led++Y⟩ (Gives a6 (l++Y) v))
  (k:TG w B N n m z (execs rest z) ⟨a6,l⟩ a7 K) (a:z.scope.isCoroutine=Wx) (i:PV z=Wx) (j:v.bad=Wx:=by rfl):TG w B N n m z (execs (.Expr (.Yield (Wu e) b) a9::rest) z) V (v::a7) K:=bP (BX (λA p Y o=>(h A p Y o).mono λf d q=>q.rec (.mk l j k)) a i)
def fZ{p:Prop}(h:∀A,dt A m->∀Y,kn N Y->T w A B z aM (isTrue f z (ME f z)) ⟨V.loc,V.led++Y⟩ λb s=>s=⟨V.loc,V.led++Y⟩/\(b=Ww↔p))
  (i:p->TG w B N n m z (execs c6 z) V a7 K) (e : ¬ p->TG w B N n m z (execs c z) V a7 K):TG w B N n m z (exec (.If f c6 c a9) z) V a7 K:=aIF λA d Y a=>(h A d Y a).mono λb s k=>by
  refine aD k ?_;clear k;intro j k;subst j;refine cL V.led rfl ?_;cases b with
  |true=>exact i (k.mp rfl)
  |false=>exact e λq=>Qs (k.mpr q)
inductive KE (K:St->Prop):dr->St->List AV->Prop where
 |mk {di:St} (h:K di):KE K .next di []
end
abbrev full(z:Env)(V:St):aa:=(z.locals,.ns V.loc)::V.led
section
variable{c:String}
def XQ(B:eb)(c:String)(z:Env)(g4:List Env)(V:St)(K:St->Prop)(s:KY)(Z:eb)(E:Value->KY->Prop):Prop:=∀e i d j a,K a->(∀x v,a.loc.lookup x=Wu v->z.kindOf x=Wu .local)->Kj z i->XP B c (aj (full z V)) s Z (z::g4) (full z a) e i d j->E (.ref e) d
def TX(w:Lz)(A:Lk)(B:eb)(c:String)(z:Env)(g4:List Env)(t:Sem β)(V:St)(K:St->Prop):Prop:=∀s Z,ff B z s Z V->∀(Q:β->KY->Prop) (E:Value->KY->Prop),XQ B c z g4 V K s Z E->LC (Ly ab w) A t Q E s
def XQ.after{K:St->Prop}(h:XQ B c z g4 V K s Z E)(X:hO (ay z V) s Z c5 b (ay z fI)):XQ B c z g4 fI K c5 b E:=λe l d n a k i j x=>h e l d n a k i j (x.rebase (by rw[bI,bI] at X;exact X))
def TX.mono{K:St->Prop}(h:TX w A B c z g4 t V K)(k:∀di,K di->K' di):TX w A B c z g4 t V K':=λs Z S Q E d=>h s Z S Q E λe i a j di q=>d e i a j di (k di q)
def TX.bind{a:Type}{t:Sem β}{f:β->Sem a}{V:St}{K:St->Prop}(h:TX w A B c z g4 t V K):TX w A B c z g4 (t>>=f) V K:=λs Z S Q E d=>KI (h s Z S _ E d)
def TX.stand{p:Pos}{K:St->Prop}(h:TX w A B c z g4 (t ()) V K):TX w A B c z g4 (PM p>>=t) V K:=λs Z S Q E a=>KI (LN (h s Z S _ E a))
def lD{x:Stmt}{K:St->Prop}(h:TX w A B c z g4 (exec x z) V K):TX w A B c z g4 (execs (x::rest) z) V K:=λs Z S Q E a=>Rn (Mg (h s Z S (λO O=>False) E a) (λO O x=>x.elim) λO O x=>x)
def aIq{x:Stmt}{K:St->Prop}(h:T w A B z fv (exec x z) V λf fI=>f=.next/\TX w A B c z g4 (execs rest z) fI K):TX w A B c z g4 (execs (x::rest) z) V K:=λs Z S Q E e =>
 Rn (h s Z S _ _ λf y d i a k j H X=>by
  obtain⟨rfl,k⟩:=k;cases H
  exact k d i j Q E (e.after X))
def Jo{K:St->Prop}
  (h:T w A B z aM (isTrue g z (ME g z)) V λb di=>TX w A B c z g4 (execs (@Bool.rec (λO=>List Stmt) f c6 b) z) di K):TX w A B c z g4 (exec (.If g c6 f a9) z) V K:=λs Z S Q E d =>
 wpAny_If (h s Z S _ _ λb c a e di k i H X=>by
  unfold aM at H;subst H;cases c <;> exact k a e i Q E (d.after X))
def Jp{e:Expr}{K:St->Prop}(h:TX w A B c z g4 (ME e z) V K)(d:PV z=Wx)(a:Sx e Wv a9.line z=Nb Wx):TX w A B c z g4 (exec (.Expr e a9) z) V K:=λs Z S Q E i =>
 wpAny_Expr_any (Mg (h s Z S (λO O=>False) E i) (λO O x=>x.elim) λO O x=>x) d a
def xo(w:Lz)(A:Lk)(B:eb)(c:String)(z:Env)(g4:List Env)(f:Value->Value->Sem β)(v u:AV)(V:St)(K:St->Prop):Prop:=∀s Z x y,Val Z v x->Val Z u y->ff B z s Z V->∀(Q:β->KY->Prop) (E:Value->KY->Prop),XQ B c z g4 V K s Z E->LC (Ly ab w) A (f x y) Q E s
def BP{l r:Expr}{K:St->Prop}
  (h:T w A B z Val (ME l z) V λi fI=>T w A B z Val (ME r z) fI λe ia=>xo w A B c z g4 (Ph b) i e ia K):TX w A B c z g4 (ME (.BinOp l b r a9) z) V K:=λs Z S Q E p =>
 wpAny_BinOp (h s Z S _ _ λi n c5 v fI d R G x=>d c5 v R _ _ λe k o u ia a J y j=>a o u n k (G.mono j.le) y J _ _ (p.after (x.trans j)))
def hB.push{V:St}(h:hB g4 V.led)(e:z.frame=Wu z.locals)(c:z.scope.kind ≠ .module):hB (z::g4) (full z V):=λf d=>(KZ.mp d).elim
 (λq=>q.symm▸⟨e,c,V.loc,KJ ..⟩) λq=>⟨(h f q).1,(h f q).2.1,al (h f q).2.2 λm a=>⟨m,KP _ a⟩⟩
def XQ.new{K:St->Prop}(h:XQ B c z g4 V K s Z E)(S:ff B z s Z V)(j:hB g4 V.led)(l:z.frame=Wu z.locals){h':Heap}{tk:Nat}{e:LP}{vs:Array Value}
  (k:∀a o,s.heap.get? a=Wu o->h'.get? a=Wu o) (i:s.heap.get? e=Wv) (d:h'.get? e=Wu b) (p:b.cls=.type c) (n:b.data=.fields vs) (v:vs[1]?=Wu .none) (h0:vs[0]?=Wu f) (r:K V) (u:c = "AttributeError" -> vs[2]?=Wu .none):E (.ref e) {s with heap:=h',toks:=tk}:=h e Wv _ Z V r S.kinds (.inl rfl) (.of_new S.toL (j.push l (by rw[S.fn];decide)) k i d p n v h0 u)
def XQ.newExc{K:St->Prop}(h:XQ B c z g4 V K s Z E)(S:ff B z s Z V)(a:hB g4 V.led)(d:z.frame=Wu z.locals){tk:Nat}{e:LP}(hx:Heap.NewExc s.heap h' e c)(i:K V):E (.ref e) {s with heap:=h',toks:=tk}:=by
 obtain⟨j,t,q1,q2,q3⟩:=hx.there;exact h.new S a d hx.keeps hx.new q1 q2 q3 rfl rfl i λO=>rfl
end
section
variable{c:String}{ea:vn}{c7 s s':KY}{hY Z D:eb}{Y a8:aa}{e:LP}{fl:Option Value}
def dW{x:Option α}{a:α}(h:x=Wv)(k:x=Wu a):False:=by rw[h] at k;cases k
def XP.nobody(b:WH c ea c7 g4 Y Z e fl s.heap g)(X:XP B c ea c7 hY g4 Y e fl s Z){vs:Array Value}(l:s.heap.get? a=Wu o)(u:o.data=.fields vs)(v:g.get? a=Wv):a∉dq g4/\Z a=Wv/\a∉keys Y/\(c7.heap.get? a≠Wv->ea.at_ a):=by
 have n:a∉dq g4:=λq=>al (X.fr.addr q) λm r=>ag (show pl Z s.heap a m from X.sim.own _ r) λf p O=>by
  refine bL p λx y z d i O=>?_;rw[l] at d;cases d
  rw[u] at i;cases i
 have j : ¬ (Z a≠Wv\/a∈keys Y\/(c7.heap.get? a≠Wv /\ ¬ ea.at_ a)):=λq=>dW v (b.most a o l n q);exact⟨n,Rv λq=>j (.inl q),λq=>j (.inr (.inl q)),λq=>Rv λk=>j (.inr (.inr ⟨q,k⟩))⟩
def XP.after(X:XP B c ea c7 hY g4 Y e fl s Z)(S:ca B s' D a8)(C:hO (aj Y) s Z s' D (aj a8))(f:hB g4 a8):XP B c ea c7 hY g4 a8 e fl s' D:=by
 refine⟨S,X.ext.trans C,f,al X.exc λbase b=>?_⟩;have mk:∀l:List LP,(∀a∈l,∃o vs,s.heap.get? a=Wu o/\o.data=.fields vs/\base.get? a=Wv)->e∈l->(xp c s'.heap (VU s'.heap (dq g4++l)) e fl)->∃base,WH c ea c7 g4 a8 D e fl s'.heap base:=λl H J F=>by
  refine⟨VU s'.heap (dq g4++l),λa o q=>UO _ q,RV _ (LJ _ J),f.fun S λa u=>RV _ (Mn _ u),F,λa o q u hc=>hideAll_get _ q λk=>(Md.mp k).elim u λk=>?_⟩;refine bA (H a k) λU vs i z m=>?_;refine xu (X.nobody b i z m) λf1 P g N=>?_;rcases hc with hc |hc |hc
  ·cases q2:D a with
   |none=>exact hc q2
   |some h=>exact(C.zgrow a h q2).elim (λq=>dW P q) λq=>q.elim g λq=>dW q i
  ·exact(C.grow a hc).elim g λq=>dW q i
  ·exact hc.2 (N hc.1)
 have j:∀a o vs,s.heap.get? a=Wu o->o.data=.fields vs->base.get? a=Wv->s'.heap.get? a=Wu o:=λa o vs q d n=>C.kept a o q (X.nobody b q d n).2.2.1;refine sn b.at_ λE vs G p x W t=>?_;cases fl with
 |none=>exact mk [e] (λa u=>(Lm.mp u)▸⟨E,vs,G,x,b.new⟩) (Lm.mpr rfl) ⟨E,vs,j _ _ _ G x b.new,p,x,W,t⟩
 |some v =>
  refine jH t λT R Q M y K V r L=>?_;exact mk [e,T] (λa u=>(KZ.mp u).elim (λq=>q▸⟨E,vs,G,x,b.new⟩) λq=>(Lm.mp q)▸⟨R,Q,V,r,y⟩) (KJ ..)
   ⟨E,vs,j _ _ _ G x b.new,p,x,W,T,R,Q,M,RV _ (LJ _ (KP _ (Lm.mpr rfl))),K,j _ _ _ V r y,r,L⟩
def XP.typ(X:XP B c ea c7 hY g4 Y e fl s Z):s.TypeIs (.ref e) c:=al X.exc λa b=>by
 refine bA b.at_ λd vs i j O=>?_;exact⟨d,i,j⟩
end
section
variable{c h:String}
def XP.step{e:LP}(X:XP B c ea c7 hY (z::g4) (full z V) e fl s Z)(S:ff B z c5 Z1 fI)(C:hO (ay z V) s Z c5 Z1 (ay z fI))(a:hB g4 fI.led)(d:z.frame=Wu z.locals):XP B c ea c7 hY (z::g4) (full z fI) e fl c5 Z1:=X.after S.toL (by rw[bI,bI] at C;exact C) (a.push d (by rw[S.fn];decide))
end
section
variable{c C:String}
def aIy{T':String}{K:dr->St->Prop}(o:A.frames=Wu (z::g4))(M:z.frame=Wu z.locals)
  (j:Oa (.type T') (.type "BaseException")=Nb Ww) (n:Oa (.type ((VM T').elim "type" λx=>x.metatype)) (.type "tuple")=Nb Wx) (i:Oa (.type c) (.type T')=Nb Ww)
  (h:TX w A B c z g4 (execs c6 z) V λdi=>∀e:LP,T w (A.mark (Wu (.ref e))) B z Val (ME (.Name x q) z) di λv fI=>v=.typ T'/\hB g4 fI.led/\T w (A.mark (Wu (.ref e))) B z fv (execs (t::g) z) fI K):T w A B z fv (exec (.Try c6 [.ExceptHandler (Wu (.Name x q)) Wv (t::g) m] [] [] a9) z) V K:=λs Z S Q E N=>by
 refine Uh (Mg (h s Z S (λO O=>False) (λe c5=>LC (Ly ab w) A (Qo e z) (λO F=>LC (Ly ab w) A (Ti e Wv) (λO u=>LC (Ly ab w) A (handleBy e z [.ExceptHandler (Wu (.Name x q)) Wv (t::g) m]) Q E u) E F) E c5) ?_) (λO O x=>x.elim) λO O x=>x);intro e fl c5 U fI k L p X;refine X.note o p λh1 X1=>X1.set Wv λh2 W=>?_;have S2:=l9 (V:=fI) W.sim L S.fn;refine wpAny_handleBy_builtin (b:=Ww) j n i (k e _ U S2 _ _ λv y u G d a Y V3 Y3=>?_);obtain⟨rfl,r,a⟩:=a;cases V3
 have R:=W.step Y Y3 r M;refine⟨rfl,R.typ,?_⟩;refine R.set Wv λC J=>?_;have S4:=l9 (V:=d) J.sim Y.kinds S.fn;exact a _ G S4 _ _ λf y D P l H S5 V5 Y5=>N f y D P l H S5 V5 ((by rw[bI,bI];exact J.ext:hO (ay z V) s Z _ G (ay z d)).trans Y5)
def aIo{n:Str}{K:Unit->St->Prop}(r:z.kindOf n=Wu .local)(h:K () ⟨bM a6 n .any,Y⟩):T w A B z aQ (do bindName z n .none;unbindBehindTheSuite z n a9) ⟨a6,Y⟩ K:=λs Z S Q E t=>by
 refine KI (UN (oH (v:=.none) (K:=λO j=>j=⟨bM a6 n .none,Y⟩) r rfl rfl s Z .none .none S _ _ λu y c5 F fI i c O H=>?_));subst i;unfold unbindBehindTheSuite;refine wpAny_onRaise ?_;refine ag c.loc λf g C=>?_;have D:∃v,f n=Wu v:=by
  have:=C n;rw[jp,if_pos rfl] at this;cases V:f n with
  |none=>rw[V] at this;cases this
  |some v=>exact⟨v,rfl⟩
 refine al D λv W=>wpAny_unbindName_local r g W (by rw[S.fn];rfl) λJ u l k=>?_;have d:∀b o,b≠z.locals->c5.heap.get? b=Wu o->J.get? b=Wu o:=λb o m e=>(k.2 b m).trans e;refine t () () {c5 with heap:=J } F ⟨bM a6 n .any,Y⟩ h ⟨⟨c.base,λa o e=>d a o (λq=>?_) (c.frozen a o e),c.nodup,c.apart,λp G=>(c.own p G).mono (.refl _) (λo e=>d _ o (λq=>?_) e) (λO O O e=>e),c.gnodup,c.bare⟩,c.locZ,c.locL,
  ⟨_,l,λy=>?_⟩,λy R e=>?_,S.fn⟩ trivial (H.trans ⟨.refl _,λa o e x=>d a o (λq=>x (.inl q)) e,λa x => .inl x,λO O e => .inl e,rfl,λO O e O=>e,λO h => .inl h⟩)
 ·exact dW c.locZ (q▸e)
 ·exact c.locL (q▸Lv G)
 ·have q:=C y;rw[jp] at q;rw[jp];by_cases e:y=n
  ·simp only[e,if_true];exact .any
  ·simp only[e,if_false] at q ⊢;exact q
 ·rw[jp] at e;by_cases q:y=n
  ·exact q▸r
  ·rw[if_neg q] at e;exact S.kinds y R e
end
def aAj{e:Sem α}{Q:α->KY->Prop}{c:Bool}(h:c=Wx)(k:LC M A e Q E s):LC M A (if c=Ww then t else e) Q E s:=by
 rw[h];exact k
def aHX{a:Value}{T U nm:String}{Q:Option Value->KY->Prop}(i:s.TypeIs a T)(e:s.TypeIs b U)(d:(Ob T==Ob U)=Wx)
  (k:SK (.type T) nm=Nb Wx) (j:SK (.type U) nm=Nb Wx) (h:Q Wv s):LC M A (binaryOp1 nm a b) Q E s:=KI (QA i (KI (QA e (KI (Mo k (aAj d (KI (Mo j (KI (KN (KN h)))))))))))
def Jg{U:String}(k:A.handled=Wv)(n:s.TypeIs b U)(l:asStr? b=Nb Wv)
  (d:(Ob U==Ob "builtin_function_or_method")=Wx) (i:((Of "can only concatenate str (not \"" ++ Of (shownName U)++Of "\") to str" : String):Str).length<=LY) (j:Oo "str.__add__" ⟨[.str x t,b],[]⟩)
  (h:∀h' tk e,Heap.NewExc s.heap h' e "TypeError" -> E (.ref e) {s with heap:=h',toks:=tk}):LC (Ly ab w) A (call (.builtin "str.__add__") [.str x t,b]) Q E s:=by
 refine Mb PyProof.Rows.slot_str_add (QP s x t) PyProof.Rows.entry_str_add ?_ j;unfold Builtin.«str.__add__»;refine KI (Mo (a:=(.str x t,x,[b])) rfl ?_);refine KI (Mo (a:=Wv) l ?_);exact KI (MI (KI (wpAny_typeNameOf' n d (wpAny_raiseTypeError k h i))))
def aGl:SK (.type "NoneType") "add" = Nb Wx:=by
 have d:MF (.type "NoneType") (dunder "add")=Nb Wv:=by rw[Mp,LQ];kernel_rfl
 have a:MF (.type "NoneType") (dunderR "add")=Nb Wv:=by rw[Mp,LQ];kernel_rfl
 simp only[SK,d,a,pure_bind];rfl
def aKb{V:St}{K:St->Prop}(d:A.handled=Wv)(i:hB g4 V.led)(j:z.frame=Wu z.locals)(k:K V):xo w A B "TypeError" z g4 (Ph .Add) (.str x) .none V K:=λs Z O O H U S Q E l=>by
 refine c2 (P:=λv=>LC (Ly ab w) A (Ph .Add v _) Q E s) (λt=>?_) _ H;cases U
 unfold Ph;refine Lh (KI (aHX (nm := "add") (T := "str") (U := "NoneType") (QP s x t) (QS s) ⋯ noFill_str_add aGl ?_));refine KI (QA (QP s x t) (KI (Mo seq_str_add (KI (MI ?_)))));exact Jg (U := "NoneType") d (QS s) rfl ⋯ (by decide +kernel) (Uj _ _) λo n e a=>l.newExc S i j a k
def aKc{i:Int}{V:St}{K:St->Prop}(j:A.handled=Wv)(k:hB g4 V.led)(l:z.frame=Wu z.locals)(n:K V):xo w A B "TypeError" z g4 (Ph .Add) (.str x) (.int i) V K:=λs Z O O H U S Q E o=>by
 refine c2 (P:=λv=>LC (Ly ab w) A (Ph .Add v _) Q E s) (λt=>?_) _ H;refine oz (P:=λu=>LC (Ly ab w) A (Ph .Add _ u) Q E s) (λa=>?_) _ U;unfold Ph;refine Lh (KI (wpAny_binaryOp1_right_declines (nm := "add") (T := "str") (U := "int") ⋯ (QP s x t) (TE s i a) noFill_str_add F.fills_int_add F.slot_int_radd (call_gives F.slot_int_radd (TE s i a) F.entry_int_radd (F.args_int_radd_2 _ _) (AutoIntG4.int___radd___int_str_0 i a x t) (show _/\_ from⟨rfl,?_⟩))));refine KI (QA (QP s x t) (KI (Mo seq_str_add (KI (MI ?_)))));exact Jg (U := "int") j (TE s i a) rfl ⋯ (by decide +kernel) (Uj _ _) λr p e d=>o.newExc S k l d n
section
variable{N:aa}{n m:Nat}{a7:List AV}{K:dr->St->List AV->Prop}{V:St}
def zn.raise{r:AV}(x:r.bad=Ww)(o:Sk n m z c b)(W:HX w B n z c H b)
  (h:∀A,dt A m->∀g4 Y,kn N Y->A.frames=Wu (z::g4)->hB g4 Y->TX w A B "TypeError" z g4 t ⟨V.loc,V.led++Y⟩ λdi=>∃l,di.led=l++Y):zn w B N n z c (t.wrap P H gd lv) b (r::a7) V:=λA y Y f g ea c7 hY s Z S X=>by
 refine ag (g (by simp[x])) λg4 v u=>?_;refine dD (h (A.over c b) (o.room A y) g4 Y f (by rw[o.frames,v];rfl) u s Z S _ _ λe C J F di k M i L=>?_);obtain⟨ft,a8⟩:=di;refine al k λl E=>?_;dsimp only at E;subst E;have j:=L.rebase (ea:=ea) (c7:=c7) (hY:=hY) (by rw[bI] at X;exact X);intro G p R d;refine bG (W A y Y g4 v u ea c7 hY J F ⟨ft,l⟩ e C i j G p R d) λD a K Q=>⟨D,a,K,λO=>Q,λq=>absurd (x.symm.trans q) ⋯⟩
def oB{t:Sem Flow}{r:AV}(d:r.bad=Ww)(h:∀A,dt A m->∀g4 Y,kn N Y->A.frames=Wu (z::g4)->hB g4 Y->TX w A B "TypeError" z g4 t ⟨V.loc,V.led++Y⟩ λdi=>∃l,di.led=l++Y):TG w B N n m z t V (r::a7) K:=λc p s H o i a j e k=>zn.raise d a e h
end
section
variable{c:String}
def aIp{e:Expr}{K:St->Prop}(h:TX w A B c z g4 (ME e z) V K)(a:PV z=Wx):TX w A B c z g4 (exec (.Expr (.Yield (Wu e) b) a9) z) V K:=by
 rw[exec_Expr z _ a9 a rfl];exact TX.stand (TX.bind (TX.bind h))
def aEa{v:Value}(h:Val Z (.ln (Wu (Wu x))) v):Val Z (.str x) v:=by
 refine al (OW h.inv) λt a=>?_;subst a;exact .str x t
def sb{a b:Str}(d6:a.length+b.length<10^6)(h:K (.str (a++b)) V):F2 w A B z Val (Ph .Add) (.str a) (.ln (Wu (Wu b))) V K:=λs Z x y H U S Q E c=>Kx (by rw[Mz];omega) h s Z x y H (aEa U) S Q E c
def CF{a:Str}{x:Option (Option Str)}{V:St}{K:St->Prop}(hx:az x=Ww)(c:A.handled=Wv)(d:hB g4 V.led)(i:z.frame=Wu z.locals)(k:K V):xo w A B "TypeError" z g4 (Ph .Add) (.str a) (.ln x) V K:=λs Z u v H U S Q E l=>by
 have j:cP x v=Ww:=U.inv;rcases x with _ |_ |x
 ·have e:v=.none:=cO j;subst e;exact aKb c d i k s Z u _ H .none S Q E l
 ·obtain⟨t,rfl⟩:=OV j;exact aKc c d i k s Z u _ H (.int _ _) S Q E l
 ·cases hx
end
section
variable{N:aa}
def hB.app(h:hB g4 Y)(l:aa):hB g4 (l++Y):=λz a=>⟨(h z a).1,(h z a).2.1,al (h z a).2.2 λm d=>⟨m,LJ _ d⟩⟩
def BV{m:Nat}{t:Pos}{e:Expr}{a d:Pos}{Z:List Stmt}{L:AV->List (Str×AV)}{l:aa}{W:List (Option (Option Str))}{f:Str->Str}{rest:List AV}{K:dr->St->List AV->Prop}(H:5<=m)
  (hx:z.kindOf x=Wu .local) (E:∀u v,bM (L u) x v=L v)
  (i:∀A,dt A m->∀Y,kn N Y->T w A B z Val (ME iter z) ⟨L u,l++Y⟩ (Gives (L u) (l++Y) (.lst (W.map .ln))))
  (J:∀A,dt A m->∀l',(∀p∈l,p∈l')->∀y,Wu (Wu y)∈W->T w A B z Val (ME e z) ⟨L (.ln (Wu (Wu y))),l'⟩ (Gives (L (.ln (Wu (Wu y)))) l' (.str (f y))))
  (hz:∀A,dt A m->∀g4 l',(∀p∈l,p∈l')->A.frames=Wu (z::g4)->hB g4 l'->∀y,az y=Ww->TX w A B "TypeError" z g4 (ME e z) ⟨L (.ln y),l'⟩ λdi=>di.led=l')
  (S:∀v,TG w B N n m z (execs Z z) ⟨L v,l⟩ rest K) (D:∀x,NP iter z x=Nb x) (R:z.scope.isCoroutine=Wx) (c:PV z=Wx):TG w B N n m z (execs (.For (.Name x t) iter [.Expr (.Yield (Wu e) a) d] [] a9::Z) z) ⟨L u,l⟩ ((W.map (cj f)).map aC++rest) K:=jA (k:=5) AV.ln (λys P=>∀v,(∀y∈ys,y∈W)->P ⟨L v,l⟩ ((ys.map (cj f)).map aC++rest)) H
  (λA j Y G=>(i A j Y G).mono λv fI q=>q.rec (fc (k:=5) λit V U => .mk U ⟨W,_,rfl,m6 ⟨L u,l⟩,λO k=>k u λy J=>J⟩))
  (λV y ys v o => .mk (λA j Y G=>bQ (oH hx (E v _) rfl)) (by
   have b:∀ {C:Option (Option Str)},az C=Ww->∀A,dt A m->∀g4 Y,kn N Y->A.frames=Wu (z::g4)->hB g4 Y->TX w A B "TypeError" z g4 (exec (.Expr (.Yield (Wu e) a) d) z) ⟨L (.ln C),(l++V)++Y⟩ λdi=>∃l',di.led=l'++Y :=
    λh A j g4 Y G M F=>aIp ((hz A j g4 _ (λp Q=>Mn _ (Mn _ Q)) M (F.app _) _ h).mono λdi e=>⟨_,e⟩) c
   rcases y with _ |_ |s
   ·exact bP (oB (r:=aC Wv) rfl (b rfl))
   ·exact bP (oB (r:=aC Wv) rfl (b rfl))
   ·exact gH (l++V) (λA j Y G=>J A j _ (λp Q=>Mn _ (Mn _ Q)) s (o _ (KJ ..)))
     (bv (.next ⟨ys,_,rfl,m6 ⟨L (.ln (Wu (Wu s))),l⟩,λO k=>k (.ln (Wu (Wu s))) λg X=>o g (KP _ X)⟩)) R c))
  (λv O=>S v) D
end
section
open PySem PySem.W PyProof.Rows
section
variable{K:Frag}
def Ky{T q:String}{d:Bool}(i:kitMeta T=Ww)(j:Tk T=Wx)
  (e:Sh K (.type T) (.type "type") "__name__" = Wu (.get (.builtin "getset_descriptor.__get__") (.builtin "type.__name__") (.type T) (.type "type"))) (k:ktynFast T=q) (hz:(KX q).length<=LY)
  (h:R (.str (KX q)) V):F1 w A (am K) z Val (λx=>QC x "__name__" d) (.typ T) V R:=λs Z x H S Q E n=>by
 cases H
 have X:K.In s.heap:=dK S.base S.frozen;have a:QB (.type T)=Nb Wv:=by unfold QB;dsimp only;rw[j];rfl
 have p:Uv (Ly ab w) s.heap (Qw (.type T)) (.type "type"):=SR (kitMeta_of i);have o:Uv (Ly ab w) s.heap (QB (.type T)) Wv:=SR a;have l:TH K (.type "type") "__getattribute__" = Wu (Wu (.builtin "type.__getattribute__")):=type_tga;refine cls_open X o p l (looks_hook X (r:=Wv) (by rfl)) (by show subIn K _ _=_;rfl) e ?_;show LC _ _ (do ret (← Ol [SO "type.__name__"] (call (.builtin "getset_descriptor.__get__") [.builtin "type.__name__",.type T,.type "type"]))) _ _ _;refine KI (Lh (NB (ktyn_get (s:={ s with toks:=s.toks+1}) (kitMeta_of i) k hz ?_)));exact KN (handed_on rfl (n _ _ _ Z V h (S.toks _) (.str _ _) (.toks _)))
end
end
section
variable{c:String}
def oG(w:Lz)(A:Lk)(B:eb)(c:String)(z:Env)(g4:List Env)(f:AV)(args:List AV)(V:St)(K:St->Prop):Prop:=∀s Z a W,Val Z f a->Vals Z args W->ff B z s Z V->∀(Q:Value->KY->Prop) (E:Value->KY->Prop),XQ B c z g4 V K s Z E->LC (Ly ab w) A (call a W []) Q E s
def jE(w:Lz)(A:Lk)(B:eb)(c:String)(g4:List Env)(f:AV)(args:List AV)(Y:aa):Prop:=∀s Z d W,ca B s Z Y->hB g4 Y->Val Z f d->Vals Z args W->∀R:Result->KY->Prop,(∀e a i,XP B c (aj Y) s Z g4 Y e (Wu .none) a i->R (.error (.ref e)) a)->PA (Ly ab w) A (.call d ⟨W,[]⟩) R s
def Ks{V:St}{K:St->Prop}(d:hB g4 V.led)(i:z.frame=Wu z.locals)(h:jE w A B c (z::g4) f args (full z V))(j:K V):oG w A B c z g4 f args V K:=λs Z l W H o S Q E k=>NB (h s Z l W S.toL (d.push i (by rw[S.fn];decide)) H o _ λe a n X=>k e (Wu .none) a n V j S.kinds (.inr (.inl rfl)) X)
def rO{K:St->Prop}(hc:ME (.Call g args [] a9) z=(do QZ a9 (← ME g z) [] (NF a9 (Mh args z)) []))
  (n:((NF a9 (Mh args z)).all λx => !x.1)=Ww)
  (h:T w A B z Val (ME g z) V λf fI=>eH w B f/\T w A B z Vals (spliced (NF a9 (Mh args z))) fI λvs ia=>oG w A B c z g4 f vs ia K):TX w A B c z g4 (ME (.Call g args [] a9) z) V K:=λs Z S Q E C=>by
 rw[hc];refine KI (h s Z S _ _ λf u c7 e R U S0 M X0=>?_);refine aD U λX h=>?_;have C:=C.after X0;unfold QZ;have o:∀ {J:Args->KY->Prop},(∀v x j D i,oG w A B c z g4 f v i K->ff B z j D i->Vals D v x->hO (ay z R) c7 e j D (ay z i)->J ⟨x,[]⟩ j) ->
   LC (Ly ab w) A (TV u Ww (NF a9 (Mh args z)) []) J E c7:=fun{J} q=>by
  have d:=h c7 e S0 (λx j=>J ⟨x,[]⟩ j) E q;revert d n;generalize NF a9 (Mh args z)=l;intro n d;cases l with
  |nil=>exact wy d
  |cons y r =>
   obtain⟨b,t⟩:=y
   have:b=Wx:=by simpa using (LS.mp n (b,t) (KJ ..))
   subst this;exact PK d
 refine KI (Lh (o λvs x c5 N fI G H V1 F=>KI (LN (KI (X A c5 N u (M.mono F.le) H.base H.frozen _ _ λk=>?_)))));have a:LC (Ly ab w) A (call u ([]++x) []) (λr j=>LC (Ly ab w) A (do Ol [r] point;Nb r) Q E j) E c5:=G c5 N u x (M.mono F.le) V1 H _ _ (C.after F);have Y:∀l,LC (Ly ab w) A (operate l (call u ([]++x) [])>>=λr=>(do Ol [r] point;Nb r)) Q E c5:=λl=>KI (λP p W=>by rw[RL];exact a P p W);have L:∀m,LC (Ly ab w) A (Qy m u ([]++x) []>>=λr=>(do Ol [r] point;Nb r)) Q E c5:=λm=>KI (by unfold Qy;exact QV a);generalize (((NF a9 (Mh args z)).any λx=>x.fst)||([]:List (Option Str×Sem Value)).any λx=>x.fst.isNone)=b;cases k <;> cases b <;> first
  |exact Y _
  |exact L _
  |exact KI a
  |exact Rm (by split <;> first |exact KI a |exact L _)
end
section
variable{K:Frag}{cl:String}
def DW{vs:Array Value}{W:List Value}{R:Result->KY->Prop}(hG:hW B)
  (E:s.heap.get? f=Wu o) (hd:o.data=.func fd) (h1:fd.scope.isCoroutine=Wx) (h2:fd.scope.isGenerator=Wx) (F:fd.scope.kind=.function) (p:fd.body=.stmts c6) (n:∀x∈fd.scope.names,x.2 ≠ .cell)
  (hc:fd.code=.ref c) (G:s.heap.get? c=Wu oc) (u:oc.data=.fields vs) (U:vs[1]?=Wu (.str fd.qualname tq)) (l:A.depth<Na) (hb:Binds w A.in1 B fd args [] f8) (K:A.frames=Wu g4)
  (j:∀x∈f8.map (·.1),fd.scope.names.lookup x=Wu .local)
  (h:hB g4 Y->∀L,L∉keys Y->TX w (A.deeper (bF fd.scope L fd.globals fd.closure fd.qualname f fd.code fd.builtins)) B cl (bF fd.scope L fd.globals fd.closure fd.qualname f fd.code fd.builtins) g4 (execs c6 (bF fd.scope L fd.globals fd.closure fd.qualname f fd.code fd.builtins)) ⟨f8.reverse,Y⟩ λdi=>di.led=Y)
  (S:ca B s Z Y) (C:hB g4 Y) (Vs:Vals Z args W) (hR:∀e s' t,XP B cl (aj Y) s Z g4 Y e (Wu .none) s' t->R (.error (.ref e)) s'):PA (Ly ab w) A (.call (.ref f) ⟨W,[]⟩) R s:=by
 refine SV l E hd h1 h2 p ⟨c,oc,vs,tq,hc,G,u,U⟩ (hb s Z Y W [] S Vs .nil _ _ λH c5 M r v X1=>?_);refine RC (around:=Wv) n (λx P=>j x.1 (v.keys▸Lv P)) (λi J y=>?_) F;have d:∀b o,c5.heap.get? b=Wu o->i.get? b=Wu o:=λb o e=>y.extBut b o (MA (Mf e)) (Ld _ e);have V:=gB c5;have D:c5.heap.objs.size∉keys Y:=r.lfree V;refine⟨hG.lim _ λa o e=>d a o (r.frozen a o (r.base a o e)),?_⟩;show PA _ A (.func c6 (bF fd.scope c5.heap.objs.size fd.globals fd.closure fd.qualname f fd.code fd.builtins)) R _;have SF:=ff.enter (z:=bF fd.scope c5.heap.objs.size fd.globals fd.closure fd.qualname f fd.code fd.builtins) (r.keep (c5:={ c5 with heap:=i,toks:=c5.toks+H.length}) d (λO O e=>e) r.bare) (r.zfree V) D J v j F;refine VX (h C _ D _ M SF _ _ λe fl s' t di k hk Q X=>?_);have hX:hO (aj Y) s Z {c5 with heap:=i,toks:=c5.toks+H.length} M (aj (full (bF fd.scope c5.heap.objs.size fd.globals fd.closure fd.qualname f fd.code fd.builtins) ⟨f8.reverse,Y⟩)):=X1.trans ⟨.refl _,λa o q O=>d a o q,λa ha=>(KZ.mp ha).elim (λq => .inr (q▸V)) .inl,λO O q => .inl q,rfl,λO O q O=>q,λO q => .inl q⟩
 have X:=X.rebase hX;refine X.leave (Qn K) Q λh' N=>?_;have hn:=(Lp.mp N.sim.nodup).1;obtain⟨ft,a8⟩:=di;dsimp only at k;subst k;exact hR e _ t (N.pop λg hg q=>hn (q▸al (C g hg).2.2 λm hm=>Lv (f:=(·.1)) hm))
def JS(g:hW (am K))(v:bJ K f Wx fd c6 c)(a:A.depth<Na)(J:Binds w A.in1 (am K) fd args [] f8)(p:A.frames=Wu g4)
  (i:((f8.map (·.1)).all λx=>decide (fd.scope.names.lookup x=Wu .local))=Ww)
  (h:hB g4 Y->∀L,L∉keys Y->TX w (A.deeper (av fd L f c)) (am K) cl (av fd L f c) g4 (execs c6 (av fd L f c)) ⟨f8.reverse,Y⟩ λdi=>di.led=Y):jE w A (am K) cl g4 (.ref f) args Y:=λs Z U W S n V D R Q=>by
 refine xt v λM d y r E u H F m=>?_;clear v;obtain⟨o,k,G⟩:=M;obtain⟨P,vs,N,l,e,z⟩:=H;obtain⟨C,t,q⟩:=F;have V:=V.inv;subst V;exact DW g (S.frozen _ _ (S.base _ _ k)) G C t q d (λx j=>of_decide_eq_true (LS.mp m x j)) y (S.frozen _ _ (S.base _ _ l)) e z a J p (λx j=>of_decide_eq_true (LS.mp i x j))
  (λn L b=>by rw[r,E,u,y];exact h n L b) S n D Q
end
section
open PySem PySem.W PyProof.Rows
section
variable{K:Frag}
def jq:Ln->String
 |none => "NoneType"
 |some Wv => "int"
 |_ => "str"
def aD8{y:Ln}{v:Value}(h:cP y v=Ww)(s:KY):s.TypeIs v (jq y):=by
 rcases y with _ |_ |x
 ·rw[cO h];exact QS s
 ·obtain⟨t,rfl⟩:=OV h;exact TE s 7 t
 ·obtain⟨t,rfl⟩:=OW h;exact QP s x t
def Cq{y:Ln}(h:R (.typ (jq y)) V):FC w A B z (.typ "type") [.ln y] [] V R:=FC.t λs Z S Q E d=>om λv a=>Zq (call_type_of (aD8 a.inv s) (by rcases y with _ |_ |x <;> rfl) (d _ _ s Z V h S (.typ _) .refl))
def DV:Str:=q2
def CH{y:Ln}{a:Bool}(e:∀T∈["NoneType", "int"],Sh K (.type T) (.type "type") "__name__" = Wu (.get (.builtin "getset_descriptor.__get__") (.builtin "type.__name__") (.type T) (.type "type")))
  (d:az y=Ww) (h:R (.str (KX (jq y))) V):F1 w A (am K) z Val (λx=>QC x DV a) (.typ (jq y)) V R:=by
 rw[show DV=KX "__name__" from by decide +kernel];rcases y with _ |_ |x
 ·exact Ky (by decide +kernel) (by decide +kernel) (e _ ⋯) (by decide +kernel) (by decide +kernel) h
 ·exact Ky (by decide +kernel) (by decide +kernel) (e _ ⋯) (by decide +kernel) (by decide +kernel) h
 ·cases d
def Jn{e:Expr}(J:A.handled=Wv)(R:z.frame=Wu z.locals)(l:Mh [e] z=(Wx,ME e z)::Mh [] z)
  (G:T w A B z Val (ME (.Name x c) z) V λv fI=>v=.typ "TypeError" /\ T w A B z Val (ME e z) fI λv ia=>hB g4 ia.led/\K' ia):TX w A B "TypeError" z g4 (exec (.Raise (Wu (.Call (.Name x c) [e] [] b)) Wv a9) z) V K':=λs Z S Q E n=>by
 have p:Mh [] z=[]:=rfl;refine wpAny_Raise_call TQ TL J (by rw[l,p];rfl) (G s Z S _ _ λv y c5 Y fI d F C g=>?_);obtain⟨rfl,d⟩:=d;cases C
 refine⟨rfl,?_⟩;have n:=n.after g;have u:=wZ (a9:=b) (K:=λvs ia=>vs.length=1/\hB g4 ia.led/\K' ia) l (d.mono λv ia k=>iu ⟨rfl,k⟩);have go:=u c5 Y F (λvs i=>vs.length<=LY/\∀o e,Heap.MadeExc i.heap o e "TypeError" vs->E (.ref e) {i with heap:=o }) E λvs W r H ia a D m f=>⟨by rw[m.length,a.1];decide,λo e j=>by
  obtain⟨t,q1,q2⟩:=j.there;exact(n.after f).new (tk:=r.toks) D a.2.1 R j.keeps j.new q1 rfl rfl rfl rfl a.2.2 λq=>absurd q ⋯⟩
 rw[l,p] at go ⊢;exact PK (Mg go (λvs i h=>⟨rfl,h.1,h.2⟩) λO O x=>x)
end
def ww{N:Str}(a:N.length<=LY)(h:∀t k,Q (.str N t) {s with toks:=k}):LC (Ly ab w) A (formatField (.str N t) Rb) Q E s:=wpAny_formatField_str (h t s.toks) (h _ _) a
def aGb{N:Str}(a:N.length<=LY)(h:∀t k,Q (.str N t) {s with toks:=k}):LC (Ly ab w) A (convS (.str N t)) (λr d=>LC (Ly ab w) A (formatField r Rb) Q E d) E s:=wpAny_habitSame_str (ww a h) (ww (s:={ s with toks:=s.toks+1}) a h) a
def Hq:Ln->Str
 |none=>KX "None"
 |_=>KX (Of (7:Int))
def Hp(y:Ln):(Hq y).length<=10:=by
 rcases y with _ |_ |x
 ·show (KX "None").length<=10;decide +kernel
 ·show (KX (Of (7:Int))).length<=10;decide +kernel
 ·show (KX (Of (7:Int))).length<=10;decide +kernel
def aGc{y:Ln}{v:Value}(hv:cP y v=Ww)(e:az y=Ww)(h:∀t k,Q (.str (Hq y) t) {s with toks:=k}):LC (Ly ab w) A (pyReprObj v) (λr d=>LC (Ly ab w) A (formatField r Rb) Q E d) E s:=by
 have a:=Mc (Hp y) (show 10<=LY by decide);rcases y with _ |_ |x
 ·rw[cO hv];exact pyReprObj_none (ww (s:={ s with toks:=s.toks+1}) a h)
 ·obtain⟨t,rfl⟩:=OV hv;exact pyReprObj_int (by decide +kernel) (ww (s:={ s with toks:=s.toks+1}) a h)
 ·cases e
def wP{a b:Str}{m:Nat}(h:a.length<=n)(k:b.length<=m):(a++b).length<=n+m:=by rw[Pg];omega
def Ca{c1 o l N:Str}{a i:Expr}{G u r:Nat}{p:Pos}{y:Ln}(K:az y=Ww)(h1:c1.length<=100)(g:o.length<=100)(f:l.length<=100)(c:N.length<=100)
  (Y:T w A B z Val (ME a z) V λv fI=>v=.str N/\fI=V) (W:T w A B z Val (ME i z) V λv fI=>v=.ln y/\fI=V) (h:∀X,R (.str X) V):T w A B z Val (ME (.JoinedStr [.Constant (.str c1) G p1,.FormattedValue a 115 Wv p2,.Constant (.str o) u p3,.FormattedValue i 114 Wv p4,.Constant (.str l) r p5] p) z) V R:=λs Z S Q E b=>by
 refine wpAny_JoinedStr ?_;have F:(Rb++c1).length<=100:=by rw[Pg];show 0+c1.length<=100;omega
 have C:∀n,n<=1000->n<=LY:=λn h=>Mc h ⋯;refine NK ⟨_,_,rfl,C _ ⋯,?_⟩;refine wpAny_FormattedValue_s (Y _ Z (S.toks _) _ _ λv x c5 L fI j S1 V1 P=>?_);obtain⟨rfl,rfl⟩:=j;refine al (aE3 V1) λt e=>?_;subst e;have D:=wP F c;refine aGb (C _ ⋯) λt k=>⟨_,_,rfl,C _ ⋯,?_⟩;have q:=wP D g;refine NK ⟨_,_,rfl,C _ ⋯,?_⟩;refine wpAny_FormattedValue_repr (W _ L ((S1.toks k).toks _) _ _ λv x s2 H ia d S2 U M=>?_);obtain⟨rfl,rfl⟩:=d;have m:=wP q (Hp y);refine aGc U.inv K λt' J=>⟨_,_,rfl,C _ ⋯,?_⟩;have e4:=wP m f;refine NK ⟨_,_,rfl,C _ ⋯,C _ ⋯,?_⟩;exact b (.str _) _ _ H _ (h _) (((S2.toks J).toks _).toks _) (.str _ _) (((((((hO.toks _).trans P).trans (.toks _)).trans (.toks _)).trans M).trans (.toks _)).trans ((hO.toks _).trans (.toks _)))
def Bu(P:KS):∀T∈["NoneType", "int"],Sh (KB P) (.type T) (.type "type") "__name__" = Wu (.get (.builtin "getset_descriptor.__get__") (.builtin "type.__name__") (.type T) (.type "type")):=λT h=>by
 rcases KZ.mp h with rfl |h
 ·kernel_rfl
 ·rcases Lm.mp h with rfl
  kernel_rfl
def AQ(y:Ln):(KX (jq y)).length<=100:=by
 rcases y with _ |_ |x
 ·show (KX "NoneType").length<=100;decide +kernel
 ·show (KX "int").length<=100;decide +kernel
 ·show (KX "str").length<=100;decide +kernel
def oj{a:List Ln}{y:Ln}(h:a.head?=Wu y):(a.map AV.ln)[(0:Int).toNat]?=Wu (.ln y):=by
 cases a with
 |nil=>cases h
 |cons x W=>exact(No h)▸rfl
def aHt{a b:List Ln}{y:Ln}(n:dt A 20)(l:A.frames=Wu g4)(e:a.head?=Wu y)(j:az y=Ww)(p:a.length<10^6):jE w A (af w) "TypeError" g4 (.ref 283) [.lst (a.map .ln),.lst (b.map .ln),.str C,.str t,.str q,.str m,.str f] Y:=by
 refine JS (bq w) (Bp _) n.lt BH l @_ λo L r=>?_;have d:=n.deeper (k:=17) (z:=av (ak (ef w.params)) L 283 282);have i:=((((gk w (A.deeper _) (ak (ef w.params)) L 283 282 @_ @_ d.h).g (lp w) @_ @_).g (fV w) @_ @_).g (Bk w) @_ @_).g (wv w) @_ @_;simp only[LI,LU,Lj,Lg];refine lD (Jo (aV i 20 (ax.mk (jG .frz (by rw[KR];omega) (cA (λc=>?_) λc=>?_)))))
 ·refine ax.mk (aE .frz ⋯ ⋯ (oj e) (ax.mk (iz ?_)));rw[j];refine lD (Jn d.h rfl rfl (ae i 5 ⟨rfl,?_⟩));refine Ca (N:=KX (jq y)) j (by decide +kernel) (by decide +kernel) (by decide +kernel) (AQ y) ?_ ?_ λO=>⟨o,rfl⟩
  ·exact wY @_ (ae i 20 (ax.mk (aE .frz ⋯ ⋯ (oj e) (ax.mk (Cq (CH (Bu _) j ⟨rfl,rfl⟩))))))
  ·exact ae i 20 (ax.mk (aE .frz ⋯ ⋯ (oj e) ⟨rfl,rfl⟩))
 ·cases a with
  |nil=>cases e
  |cons x W=>cases c
def aHs{a b:List Ln}{y:Ln}(p:dt A 20)(l:A.frames=Wu g4)(n:∀x,a.head?=Wu x->az x=Wx)(i:b.head?=Wu y)(j:az y=Ww)(u:a.length<10^6)(s:b.length<10^6):jE w A (af w) "TypeError" g4 (.ref 283) [.lst (a.map .ln),.lst (b.map .ln),.str C,.str t,.str q,.str m,.str f] Y:=by
 refine JS (bq w) (Bp _) p.lt BH l @_ λr L v=>?_;have e:=p.deeper (k:=17) (z:=av (ak (ef w.params)) L 283 282);have d:=((((gk w (A.deeper _) (ak (ef w.params)) L 283 282 @_ @_ e.h).g (lp w) @_ @_).g (fV w) @_ @_).g (Bk w) @_ @_).g (wv w) @_ @_;simp only[LI,LU,Lj,Lg];refine aIq (rP (aV d 20 (ax.mk (jG .frz (by rw[KR];omega) (cA (λc=>(Bt c).elim λx o=>?_) λc=>⟨rfl,rfl⟩)))) (aK ⟨rfl,?_⟩))
 ·exact ax.mk (aE .frz ⋯ ⋯ o.2 (ax.mk (iz (by rw[n x o.1];exact⟨rfl,rfl⟩))))
 refine lD (Jo (aV d 20 (ax.mk (jG .frz (by rw[KR];omega) (cA (λc=>?_) λc=>?_)))))
 ·refine ax.mk (aE .frz ⋯ ⋯ (oj i) (ax.mk (iz ?_)));rw[j];refine lD (Jn e.h rfl rfl (ae d 5 ⟨rfl,?_⟩));refine Ca (N:=KX (jq y)) j (by decide +kernel) (by decide +kernel) (by decide +kernel) (AQ y) ?_ ?_ λO=>⟨r,rfl⟩
  ·exact wY @_ (ae d 20 (ax.mk (aE .frz ⋯ ⋯ (oj i) (ax.mk (Cq (CH (Bu _) j ⟨rfl,rfl⟩))))))
  ·exact ae d 20 (ax.mk (aE .frz ⋯ ⋯ (oj i) ⟨rfl,rfl⟩))
 ·cases b with
  |nil=>cases i
  |cons x W=>cases c
end
section
open PySem PySem.W PyProof.Rows
def Er:RA "AttributeError" where
 isExc:=by rw[Mm];kernel_rfl
 plainMeta:=@_
section
variable{M:Model}
def CT{e:LP}{c a:String}(F:RA c)(k:s.heap.get? e=Wu o)(n:o.cls=.type c){vs:Array Value}(l:o.data=.fields vs)(h:Q (.ref e) s):LC M A (excFromValue (.ref e) a) Q E s:=by
 obtain⟨cl,d,p,sl⟩:=o;obtain rfl:cl=.type c:=n;obtain rfl:p=.fields vs:=l;obtain⟨u,g,v,r,os⟩:=s;have j:=F.isExc;have i:=F.plainMeta;unfold excFromValue isExcClass;repeat (first |refine QY k ?_ |wp_step)
 exact h
def aAf{e:LP}{c:String}(F:RA c)(j:s.heap.get? e=Wu o)(l:o.cls=.type c){vs:Array Value}(k:o.data=.fields vs)(h:Q (.ref e) s):LC M A (raisedInstance (.ref e)) Q E s:=by
 obtain⟨cl,d,n,sl⟩:=o;obtain rfl:cl=.type c:=l;obtain rfl:n=.fields vs:=k;obtain⟨r,g,u,p,os⟩:=s;have i:=F.isExc;have a:=F.plainMeta;unfold raisedInstance;repeat (first |refine QY j ?_ |wp_step)
 exact h
def aAg{e:LP}{c:String}{Q:Bool->KY->Prop}(F:RA c)(j:s.heap.get? e=Wu o)(l:o.cls=.type c){vs:Array Value}(k:o.data=.fields vs)(h:Q Wx s):LC M A (isType (.ref e)) Q E s:=by
 obtain⟨cl,d,n,sl⟩:=o;obtain rfl:cl=.type c:=l;obtain rfl:n=.fields vs:=k;obtain⟨r,g,u,p,os⟩:=s;have i:=F.isExc;have a:=F.plainMeta;repeat (first |refine QY j ?_ |wp_step)
 exact h
def aGD:PW table "proto.unchain" = Wu Builtin.«proto.unchain» := entryFor_of_fast (by rw[fastTable_eq_tree];kernel_rfl)
end
def xW{e:LP}{vs:Array Value}{v:Value}{Q:α->KY->Prop}(a:s.heap.get? e=Wu o)(d:o.data=.fields vs)(j:i<vs.size)
  (h:∀h',(∀b,b≠e->h'.get? b=s.heap.get? b)->h'.get? e=Wu (Nf (·.setIfInBounds i v) o)->LC M A (f ()) Q E {s with heap:=h' }):LC M A (updateField e i v>>=f) Q E s:=KI (PJ a d j (h _ (λb z=>Qf _ _ (Ne.symm z)) (LV _ a (NG (Og d _)))))
def aAl{c:String}(F:RA c)(G:RA "AttributeError"){x y:Expr}{Q:Flow->KY->Prop}(V:A.handled=Wu (.ref f))
  (h:LC (Ly ab w) A (ME x z) (λv c5=>∃e,v=.ref e/\LC (Ly ab w) A (ME y z) (λu d=>u=.ref f/\e≠f/\∃t oe vs,d.heap.get? e=Wu {cls:=.type c,data:=.fields #[.ref t,.none,.none,.none,.bool Wx,.none]} /\
   d.heap.get? f=Wu oe/\oe.cls=.type "AttributeError" /\ oe.data=.fields vs/\vs[2]?=Wu .none /\
   ∀h',(∀b,b≠e->h'.get? b=d.heap.get? b)->h'.get? e=Wu {cls:=.type c,data:=.fields #[.ref t,.none,.ref f,.ref f,.bool Ww,.none]}->E (.ref e) {d with heap:=h' }) E c5) E s):LC (Ly ab w) A (exec (.Raise (Wu x) (Wu y) a9) z) Q E s:=by
 rw[arm_exec_Raise];refine KI (LN ?_);unfold raiseStmt;refine KI (m:=do let v <-ME x z;PM a9;Nb v) (KI (Mg h (λv c5 o=>KI (LN (KN ?_))) λO O q=>q));obtain⟨e,rfl,o⟩:=o;refine KI (Lh (KI (Mg o (λu d i=>KI (LN (KN (KI (KN ?_))))) λO O q=>q)));obtain⟨rfl,a,t,oe,vs,J,k,W,K,D,Y⟩:=i;refine KI (Lh (CT F J rfl rfl ?_));dsimp only;rw[if_neg (show ¬ ((Pm f==My)=Ww) from LZ)];refine KI (Lh (CT G k W K ?_));show LC _ _ (updateField e 3 (.ref f)>>=_) _ _ _;refine xW J rfl (by simp) λM r L=>?_;show LC _ _ (updateField e 4 (.bool Ww)>>=_) _ _ _;refine xW L rfl (by simp) λg p l=>?_;refine KI (aAg F l rfl rfl ?_);rw[if_neg ⋯];refine KI (aAf F l rfl rfl ?_);unfold Ti;refine KI (KI (NL l rfl (x:=.none) rfl ?_));rw[if_neg ⋯];refine KN ?_;unfold raiseNew;refine KI (wpAny_handled ?_);rw[V];dsimp only;have n:Pm f≠Pm e:=λq=>a (VJ q).symm;rw[if_pos (bne_iff_ne.mpr n)];have j:g.get? f=Wu oe:=(p f (Ne.symm a)).trans ((r f (Ne.symm a)).trans k);refine KI (Lh (runValue_entry aGD ?_))
 ·unfold Builtin.«proto.unchain»;refine KI (NL j K D ?_);rw[if_pos ⋯];refine KN ⟨_,rfl,?_⟩;refine xW l rfl (by simp) λZ R H=>Te ?_;exact Y Z (λb C=>(R b C).trans ((p b C).trans (r b C))) H
end
section
open PySem PySem.W PyProof.Rows
section
variable{c:String}{ea:vn}{c7 s:KY}{hY Z:eb}{Y:aa}{e:LP}
def ca.other(S:ca B s Z Y)(d:e∉keys Y)(hz:Z e=Wv){h':Heap}(k:∀b,b≠e->h'.get? b=s.heap.get? b):ca B {s with heap:=h' } Z Y:=⟨S.base,λa o q=>(k a λz=>dW hz (z▸q)).trans (S.frozen a o q),S.nodup,S.apart,λp c=>(S.own p c).mono (.refl _) (λo q=>(k _ λz=>d (z▸Lv c)).trans q) (λO O O q=>q),S.gnodup,S.bare⟩
def XP.mk0{vs:Array Value}(S:ca B s Z Y)(C:hO ea c7 hY s Z (aj Y))(fr:hB g4 Y)(l:s.heap.get? e=Wu b)(p:b.cls=.type c)(n:b.data=.fields vs)(u:vs[1]?=Wu .none)(r:c = "AttributeError" -> vs[2]?=Wu .none)
  (j:e∉keys Y) (hz:Z e=Wv) (i:c7.heap.get? e≠Wv->ea.at_ e):XP B c ea c7 hY g4 Y e Wv s Z where
 sim:=S
 ext:=C
 fr:=fr
 exc:=⟨VU s.heap (dq g4++[e]),λa o q=>UO _ q,RV _ (LJ _ (Lm.mpr rfl)),fr.fun S λa d=>RV _ (Mn _ d),⟨b,vs,l,p,n,r,u⟩,λa o q d hx=>hideAll_get _ q λk=>(Md.mp k).elim d λk=>by
  rcases Lm.mp k with rfl
  rcases hx with hx |hx |hx
  ·exact hx hz
  ·exact j hx
  ·exact hx.2 (i hx.1)⟩
end
section
variable{c:String}{D:LP}
def xe(w:Lz)(A:Lk)(B:eb)(c:String)(z:Env)(g4:List Env)(D:LP)(t:Sem Flow)(V:St)(K:St->Prop):Prop:=∀a c7 d s Z e,XP B "AttributeError" a c7 d (z::g4) (full z V) D e s Z->ff B z s Z V->∀(Q:Flow->KY->Prop) (E:Value->KY->Prop),XQ B c z g4 V K s Z E->LC (Ly ab w) A t Q E s
def aJf{x:Stmt}{K:St->Prop}(n:z.frame=Wu z.locals)(h:T w A B z fv (exec x z) V λf fI=>f=.next/\hB g4 fI.led/\xe w A B c z g4 D (execs rest z) fI K):xe w A B c z g4 D (execs (x::rest) z) V K:=λa c7 d s Z p X S Q E o=>Rn (h s Z S _ _ λf y j r i k e H C=>by
  obtain⟨rfl,l,k⟩:=k;cases H
  exact k a c7 d j r p (X.step e C l n) e Q E (o.after C))
def XP.live(X:XP B "AttributeError" ea c7 hY g4 Y D fl s Z):∃a vs,s.heap.get? D=Wu a/\a.cls=.type "AttributeError" /\ a.data=.fields vs/\vs[2]?=Wu .none:=by
 refine al X.exc λc b=>?_;refine sn b.at_ λa vs d i e j O=>?_;exact⟨a,vs,d,i,e,j rfl⟩
def aJe{K:St->Prop}(hh:A.handled=Wu (.ref D))(U:z.frame=Wu z.locals)(N:Mh [arg] z=(Wx,ME arg z)::Mh [] z)
  (hn:T w A B z Val (ME (.Name x np) z) V λv fI=>v=.typ "TypeError" /\ T w A B z Val (ME arg z) fI λv ia=>hB g4 ia.led/\T w A B z Val (ME cz z) ia λu c=>u=.ref D/\hB g4 c.led/\K c):xe w A B "TypeError" z g4 D (execs [.Raise (Wu (.Call (.Name x np) [arg] [] f)) (Wu cz) a9] z) V K:=λh c7 hY s Z fl X S Q E hE=>by
 have h0:Mh [] z=[]:=rfl;refine Rn (aAl TL Er hh (wpAny_Call_ofName (hn s Z S _ _ λv y c5 Z1 fI j S1 V1 X1=>?_)));obtain⟨rfl,j⟩:=j;cases V1
 refine callWith_excType (by rw[N,h0];rfl) ?_;have ht:=wZ (a9:=f) (K:=λvs ia=>vs.length=1/\hB g4 ia.led/\T w A B z Val (ME cz z) ia λu c=>u=.ref D/\hB g4 c.led/\K c) N (j.mono λv ia k=>iu ⟨rfl,k⟩);rw[N,h0] at ht ⊢;refine PK (ht c5 Z1 S1 _ _ λvs W s2 Z2 ia i H V2 X2=>?_);have m:=X1.trans X2;have P2:=X.step H m i.2.1 U;show LC _ A (call (.type "TypeError") ([]++W) []) _ _ _;rw[Lj];refine wpAny_call_exc TQ (λh' e r=>?_) (by rw[V2.length,i.1];decide);refine bn r.there λt p O O=>?_;have n:e∉keys (full z ia):=H.toL.lfree r.new;have M:Z2 e=Wv:=H.toL.zfree r.new;refine aD (H.keepAll (tk:=s2.toks) r.keeps) λc4 b0=>⟨e,rfl,i.2.2 _ Z2 c4 _ _ λu y s3 Z3 c d F V3 g=>?_⟩;obtain⟨rfl,b,d⟩:=d;cases V3
 have l:=(m.trans b0).trans g;have P3:=X.step F l b U;rw[bI,bI] at g m l;have P:s3.heap.get? e=_:=g.kept e _ p n;have Y:e∉keys (full z c):=λq=>(g.grow e q).elim n λC=>dW C p;have J:Z3 e=Wv:=Pn.mpr λo q=>(g.zgrow e o q).elim (λC=>dW M C) λC=>C.elim n λC=>dW C p;have R:s.heap.get? e≠Wv->(aj (full z V)).at_ e:=λq=>Rv λC=>by
  cases q2:s.heap.get? e with
  |none=>exact q q2
  |some o=>exact dW r.new (m.kept e o q2 C)
 refine bG P2.live λO O G O=>?_;refine oJ P3.live λoe L l3 ZF ZB ZV=>?_;refine⟨rfl,λq=>dW r.new (q▸G),t,oe,L,P,l3,ZF,ZB,ZV,λh5 k5 e5=>?_⟩;have S5:=F.toL.other Y J k5;refine hE e Wv {s3 with heap:=h5} Z3 c d F.kinds (.inl rfl) (.mk0 S5 ⟨l.le,λa o q C=>(k5 a λy=>?_).trans (l.kept a o q C),l.grow,l.zgrow,l.os,l.gkept,l.ggrow⟩ (b.push U (by rw[F.fn];decide)) e5 rfl rfl rfl (λq=>absurd q ⋯) Y J R);exact C (y▸R λy'=>dW y' (y▸q))
def aIs{n:Str}{K:St->Prop}(j:A.frames=Wu (z::g4))(p:z.frame=Wu z.locals)(L:z.kindOf n=Wu .local)
  (u:Oa (.type ((VM "AttributeError").elim "type" λx=>x.metatype)) (.type "tuple")=Nb Wx)
  (M:∀a6 ft Y,K ⟨a6,Y⟩->hB g4 Y/\K ⟨ft,Y⟩)
  (h:TX w A B "AttributeError" z g4 (execs c6 z) V λdi=>∀e:LP,T w (A.mark (Wu (.ref e))) B z Val (ME (.Name x C) z) di λv fI=>v=.typ "AttributeError" /\ hB g4 fI.led /\
   xe w (A.mark (Wu (.ref e))) B c z g4 e (execs (P::f) z) ⟨bM fI.loc n (.ref e),fI.led⟩ K):TX w A B c z g4 (exec (.Try c6 [.ExceptHandler (Wu (.Name x C)) (Wu n) (P::f) g] [] [] a9) z) V K:=λs Z S Q E hE=>by
 refine Uh (Mg (h s Z S (λO O=>False) (λe c5=>LC (Ly ab w) A (Qo e z) (λO s2=>LC (Ly ab w) A (Ti e Wv) (λO t=>LC (Ly ab w) A (handleBy e z [.ExceptHandler (Wu (.Name x C)) (Wu n) (P::f) g]) Q E t) E s2) E c5) ?_) (λO O x=>x.elim) λO O x=>x);intro e fl c5 Z1 fI k hk G X;refine X.note j G λh1 X1=>X1.set Wv λh2 X2=>?_;have S2:=l9 (V:=fI) X2.sim hk S.fn;refine wpAny_handleBy_builtin_as (b:=Ww) Er.isExc u TF (k e _ Z1 S2 _ _ λv y t Z3 d i S3 V3 Y3=>?_);obtain⟨rfl,o,i⟩:=i;cases V3
 have X3:=X2.step S3 Y3 o p;refine⟨rfl,X3.typ,?_⟩;refine X3.set Wv λH X4=>?_;have S4:=l9 (V:=d) X4.sim S3.kinds S.fn;refine oH (v:=.ref e) (K:=λO di=>di=⟨bM d.loc n (.ref e),d.led⟩) L rfl rfl _ Z3 (.ref e) (.ref e) S4 _ _ λO O q U XM k5 S5 O Y5=>?_;subst k5;have X5:=X4.step S5 Y5 o p;have R:XQ B c z g4 ⟨bM d.loc n (.ref e),d.led⟩ K q U E:=hE.after (by rw[bI,bI];exact X5.ext);refine Mg (i _ _ _ q U _ X5 S5 (λO O=>False) _ ?_) (λO O x=>x.elim) λO O x=>x;intro x k0 s6 Z6 r F D l X6;obtain⟨WG,a⟩:=r;have J:=(M WG WG a F).1;refine X6.note j l λh7 X7=>?_;have S7:=l9 (V:=⟨WG,a⟩) X7.sim D S.fn;refine aIo (K:=λO di=>di=⟨bM WG n .any,a⟩) L rfl _ Z6 S7 _ _ λO O s8 Z8 e8 k8 S8 O Y8=>?_;subst k8;have X8:=X7.step S8 Y8 J p;unfold PySem.passOn;refine al X8.exc λN b=>?_;obtain⟨oe,vs,q1,q2,q3,q4,T,oT,ts,q5,q6⟩:=b.at_;refine KI (NL q1 q3 q5 ?_);rw[if_neg (show ¬ ((Pm T==My)=Ww) from LZ),p];refine KI (X8.set (Q:=λO s'=>LC (Ly ab w) _ (throw (Pm x):Sem Flow) _ _ s') (Wu z.locals) λh9 X9=>Te ?_);refine X9.note j (.inr (.inr rfl)) λXT m=>?_;exact m.back λXS W=>R x _ _ _ ⟨bM WG n .any,a⟩ (M _ _ _ F).2 S8.kinds (.inr (.inr rfl)) W
end
end
section
open PySem PySem.W PyProof.Rows
def aDp(a:MF (.type "NoneType") name=Nb Wv)(n:A.handled=Wv)
  (h:∀h' tk e,TR s.heap h' e .none name->E (.ref e) {s with heap:=h',toks:=tk}) (d6:name.length+100<=LY):LC (Ly ab w) A (QC (.none) name) Q E s:=by
 obtain⟨r,g,d,tk,os⟩:=s;have l:∀k:KY,k.TypeIs (.none) "NoneType" := λO=>rfl;have z:=TF;have y:=F.slot_NoneType_getattribute.lookup;have x:=F.slot_NoneType_getattribute.bind (.none);have v:=am_none_getattr_none;unfold QC getAttrBy;repeat (any_goals (first |assumption |((with_reducible show LC _ _ (call (SO "object.__getattribute__") _ _) _ _ _);refine TJ F.slot_NoneType_getattribute (l _) F.entry_object_getattribute (F.args_object_getattribute_2 _ _) (meets_getattribute_miss_none name _ a d6) ⟨n,λh' j e i=>?_⟩) |wp_step))
 refine oK i.there λp o u=>?_;show LC _ _ (Sa _ _ _ _ _ _ _) _ _ _;unfold Sa;repeat (any_goals (first |assumption |wp_step))
 exact h _ _ _ i
def aDq{n:Int}(a:MF (.type "int") name=Nb Wv)(o:A.handled=Wv)
  (h:∀h' tk e,TR s.heap h' e (.int n t) name->E (.ref e) {s with heap:=h',toks:=tk}) (d6:name.length+100<=LY):LC (Ly ab w) A (QC (.int n t) name) Q E s:=by
 obtain⟨u,g,d,tk,os⟩:=s;have l:∀k:KY,k.TypeIs (.int n t) "int" := λO=>rfl;have G:=TF;have z:=F.slot_int_getattribute.lookup;have y:=F.slot_int_getattribute.bind (.int n t);have x:=am_int_getattr_none;unfold QC getAttrBy;repeat (any_goals (first |assumption |((with_reducible show LC _ _ (call (SO "int.__getattribute__") _ _) _ _ _);refine TJ F.slot_int_getattribute (l _) am_entry_int_getattribute (F.args_int_getattribute_2 _ _) (meets_getattribute_miss_int n t name _ a d6) ⟨o,λh' j e i=>?_⟩) |wp_step))
 refine oK i.there λr p v=>?_;show LC _ _ (Sa _ _ _ _ _ _ _) _ _ _;unfold Sa;repeat (any_goals (first |assumption |wp_step))
 exact h _ _ _ i
def Ii{v:Value}{T':String}{Q:Value×List Value->KY->Prop}(e:s.TypeIs v T')(i:Rq T')(a:MF (.type T') name=Nb Wv)
  (h:LC (Ly ab w) A (QC v name) (λO O=>False) E s):LC (Ly ab w) A (Ui v name b) Q E s:=by
 refine ag i.ga λg j d=>?_;unfold Ui;refine KI (Oj e j ?_);show LC _ A (if (Manifest.canonical g != "object.__getattribute__")=Ww then _ else _) Q E s;rw[d,if_neg LZ];refine KI (Oj e i.noGetattr ?_);refine KI (Oj e a ?_);exact KI (Mg h (λO O x=>x.elim) λO O x=>x)
def aCx:Rq "NoneType":=⟨⟨"object.__getattribute__",by rw[Mp,LQ];kernel_rfl,by decide +kernel⟩,by rw[Mp,LQ];kernel_rfl⟩
def aCy:Rq "int":=⟨⟨"int.__getattribute__",by rw[Mp,LQ];kernel_rfl,by decide +kernel⟩,by rw[Mp,LQ];kernel_rfl⟩
def aIr{o:Expr}{K:St->Prop}(W:A.handled=Wv)(g:z.frame=Wu z.locals)(d:QM o name z (ME o z)=ME o z)
  (p:((NF a9 (Mh args z)).all (λx => !x.1)&&(QL a9 (PH [] z)).all (λx=>x.1.isSome)
   && decide (args.length+([]:List QE).length+(if ([]:List QE).isEmpty then 0 else 1)<30))=Ww)
  (n:MF (.type "NoneType") name=Nb Wv) (l:MF (.type "int") name=Nb Wv) (d6:name.length+100<=LY)
  (h:T w A B z Val (ME o z) V λv fI=>∃y,v=.ln y/\az y=Ww/\hB g4 fI.led/\K fI):TX w A B "AttributeError" z g4 (ME (.Call (.Attribute o name b) args [] a9) z) V K:=λs Z S Q E m=>by
 rw[Vo,d];refine KI (h s Z S _ _ λv x c5 L fI j H F D=>KI (LN ?_));refine gg j λy i c f k=>?_;subst i;have a:UP (args.length+([]:List QE).length) (NF a9 (Mh args z)) (QL a9 (PH [] z))=Ww:=p;have r:∀ {v:Value} J R e,TR c5.heap J e v name->E (.ref e) {c5 with heap:=J,toks:=R}:=fun{v} J R e G=>by
  refine oK G.there λt u q=>?_;exact(m.after D).new H f g G.keeps G.new q rfl rfl rfl rfl k λO=>rfl
 unfold methodCall;rw[a];refine KI (Lh ?_);show LC _ A (Ui x name _) _ _ _;have Y:cP y x=Ww:=F.inv;rcases y with _ |_ |C
 ·have e:x=.none:=cO Y;subst e;exact Ii (QS c5) aCx n (aDp n W r d6)
 ·refine al (OV Y) λt i=>?_;subst i;exact Ii (TE c5 _ _) aCy l (aDq l W r d6)
 ·cases c
def Jm{e:Expr}{c:String}{K:St->Prop}(h:TX w A B c z g4 (ME e z) V K):TX w A B c z g4 (exec (.Return (Wu e) a9) z) V K:=λs Z S Q E a =>
 wpAny_Return_some (Mg (h s Z S (λO O=>False) E a) (λO O x=>x.elim) λO O x=>x)
end
section
open PySem PySem.W PyProof.Rows
def AU:Oa (.type "TypeError") (.type "StopIteration")=Nb Wx:=by rw[Mm];kernel_rfl
def GQ{v:Value}{T' id:String}{Q:Option Value->KY->Prop}(i:s.TypeIs v T')(d:Slot T' (KX "__next__") id)(k:PW table id=Wu b)(l:Oo id ⟨[v],[]⟩)
  (j:LC (Ly ab w) A.in1 (b ⟨[v],[]⟩) (λa s'=>∃x,a=.done (.ret x)/\Q (Wu x) s') (λe s'=>s'.TypeIs e "TypeError" /\ E e s') s):LC (Ly ab w) A (Nr v) Q E s:=by
 unfold Nr;refine KI (Ny (Mj (name:=KX "__next__") i d (Mb d i k (Mg j (λa s' h=>?_) λe s' h=>?_) l)))
 ·exact ag h λx e q=>⟨x,e,KN q⟩
 ·exact KI (MR (T := "TypeError") (b:=Wx) h.1 AU (Te h.2))
def aDL{l:LP}{x:Value}{Q:Option Value->KY->Prop}(n:s.heap.get? m=Wu {cls:=.type "map",data:=.fields #[.ref b,f]})(r:s.heap.get? b=Wu {cls:=.type "tuple",data:=.seq #[.ref it]})
  (o:s.heap.IsListIter it l i) (u:s.heap.IsList l items) (hx:items[i]?=Wu x) (j:m≠it)
  (h:∀h',h'.IsListIter it l (i+1)->LL it s.heap h'->LC (Ly ab w) A.in1 (call f [x]) (λO O=>False) (λe s'=>s'.TypeIs e "TypeError" /\ E e s') {s with heap:=h' }):LC (Ly ab w) A (Nr (.ref m)) Q E s:=by
 have y:s.TypeIs (.ref m) "map" := ⟨_,n,rfl⟩;refine GQ y sO Bw (BJ _) ?_;show LC _ _ (field (.ref m) 0>>=_) _ _ s;refine KI (NL n rfl (x:=.ref b) rfl (KI (MY r rfl ?_)));simp only[<-Ta,QD,RI];refine KI (KI (KI (Lh (Hv o u hx λh' d a=>KN (KN ?_)))));have k:h'.get? m=Wu {cls:=.type "map",data:=.fields #[.ref b,f]}:=(a.2 m j).trans n;refine KI (NL k rfl (x:=f) rfl (KI (Lh (Mg (h h' d a) (λv s' p=>p.elim) λO O z=>z))))
section
variable{N:aa}
def Tn(w:Lz)(B:eb)(N:aa)(n:Nat)(it:LP):List AV->aa->Prop
 | [],d=>∀A,dt A n->∀Y g4,kn N Y->A.frames=Wu g4->hB g4 Y->∀s Z,ca B s Z (d++Y)->∀(Q:Option Value->KY->Prop) (E:Value->KY->Prop),(∀e a i,XP B "TypeError" (aj (d++Y)) s Z g4 Y e (Wu .none) a i->E (.ref e) a)->LC (Ly ab w) A (Nr (.ref it)) Q E s
 |x::W,d=>∀A,dt A n->∀Y,kn N Y->∀s Z,ca B s Z (d++Y)->∀(Q:Option Value->KY->Prop) (E:Value->KY->Prop),(∀a i v d5,ca B a i (d5++Y)->Val i x v->hO (aj (d++Y)) s Z a i (aj (d5++Y))->Tn w B N n it W d5->Q (Wu v) a)->LC (Ly ab w) A (Nr (.ref it)) Q E s
def XP.own{c:String}{e:LP}(X:XP B c ea c7 hY g4 Y e fl s Z)(h:ea=b):XP B c b c7 hY g4 Y e fl s Z:=h▸X
def aGo{R:Result->KY->Prop}(Q:dt A (k+1))(r:A.frames=Wu g4)(items:List AV):∀(d8:List AV) (gl Y:aa) (s:KY) (Z:eb),kn N Y->hB g4 Y->Tn w B N k it items gl->d8.length+items.length<=LY ->
  ca B s Z ((S,.list d8)::(gl++Y))->(∀e s' j,XP B "TypeError" (aj ((S,.list d8)::(gl++Y))) s Z g4 Y e (Wu .none) s' j->R (.error (.ref e)) s') ->
  PA (Ly ab w) A (.builtin "list.extend.loop" ⟨[.ref S,.ref it,c],[]⟩) R s:=by
 induction items with
 |nil =>
  intro d8 gl Y s Z o l z d6 J u;refine NQ RK ?_;rw[NO Pq _];refine KI (z A.in1 Q.in1 ((S,.list d8)::Y) g4 (o.cons _) r (l.app [_]) s Z (J.perm (MT.symm)) _ _ λe s' j X=>?_);exact u e s' j ((X.own (cB (MT (l₁:=gl) (l₂:=Y) (a:=(S,el.list d8))))).drop1 l)
 |cons x items f =>
  intro d8 gl Y s Z o l z d6 J u;refine NQ RK ?_;rw[NO Pq _];simp only[La] at d6;have K:d8.length<LY:=by omega
  refine KI (z A.in1 Q.in1 ((S,.list d8)::Y) (o.cons _) s Z (J.perm (MT.symm)) _ _ λs' j v d5 q V W y=>?_);rw[cB (MT (l₁:=gl) (l₂:=Y) (a:=(S,el.list d8))),cB (MT (l₁:=d5) (l₂:=Y) (a:=(S,el.list d8)))] at W;have b:=q.perm (MT (l₁:=d5) (l₂:=Y) (a:=(S,el.list d8)));refine bG (b.own _ (KJ ..)) λi n g vs=>?_;dsimp only at g;have d:i.size=d8.length:=vs.size;show LC _ A.in1 (Ro S (·.push v)>>=_) _ _ _;refine KI (iD (ys:=d8++[x]) b g (by simpa using vs.append (.cons V .nil)) (by rw[d];omega) (by show (i.push v).size<=LY+1;rw[Ws,d];omega) λC t O m h=>KN ⟨QK Pq _,f (d8++[x]) d5 Y _ j o l y (by simp only[Lb,Np];omega) m λe p E G=>?_⟩);exact u e p E (G.rebase (W.trans h))
def aJR{T':String}{K:St->Prop}(C:dt A (k+3))(R:A.frames=Wu (z::g4))(U:z.frame=Wu z.locals)(hN:kn N Y)(S:hB g4 Y)(hI:Tn w B N k it items gl)(d6:items.length<=LY)
  (r:∀s Z Y,ca B s Z (gl++Y)->s.TypeIs (.ref it) T') (c:(Ob T'==Ob "list")=Wx) (b:(Ob T'==Ob "tuple")=Wx)
  (i:∀(A:Lk) s Z Y,ca B s Z (gl++Y)->∀(Q:Value->KY->Prop) E,Q (.ref it) s->LC (Ly ab w) A (Pz (.ref it)) Q E s)
  (n:MF (.type T') "__len__" = Nb Wv) (j:MF (.type T') "__length_hint__" = Nb Wv)
  (h:K ⟨a6,Y⟩):oG w A B "TypeError" z g4 (.typ "list") [.ref it] ⟨a6,gl++Y⟩ K:=λs Z fx W Vf Vx D Q E t=>by
 cases Vf
 revert W;refine om <| l6 <| Zq <| ?_
 have L:full z ⟨a6,gl++Y⟩=(z.locals,.ns a6)::(gl++Y):=rfl;have H:((z.locals,el.ns a6)::(gl++Y)).Perm (gl++((z.locals,el.ns a6)::Y)):=MT.symm;have SL:=D.toL.perm H;have t:∀e s' p,XP B "TypeError" (aj (gl++((z.locals,el.ns a6)::Y))) s Z (z::g4) ((z.locals,el.ns a6)::Y) e (Wu .none) s' p->E (.ref e) s':=λe s' p X=>t e (Wu .none) s' p ⟨a6,Y⟩ h D.kinds (.inr (.inl rfl)) (X.own (cB H.symm));have G:hB (z::g4) ((z.locals,el.ns a6)::Y):=hB.push (V:=⟨a6,Y⟩) S U (by rw[D.fn];decide);have q:kn N ((z.locals,el.ns a6)::Y):=hN.cons _;generalize (z.locals,el.ns a6)::Y=a8 at *;have P:=SL.push (o:={ cls:=.type "list",data:=.seq #[]}) (ao:=.list []) rfl s.toks ⟨#[],0,Lc _ rfl,.nil⟩;refine ag (r s Z a8 SL) λoi y O=>?_;have J:s.heap.objs.size≠it:=λe=>by have:=Mf y;rw[<-e] at this;exact Nn _ this
 refine UV (Q₁:=λl c5=>l=.ref s.heap.objs.size/\c5={ s with heap:=s.heap.push {cls:=.type "list",data:=.seq #[]} }) F.called_list (F.typeCall_list_1 _) F.entry_list_init
  (code_list_new _ ⟨rfl,rfl⟩) λl c5 a=>?_
 refine aD a λO1 O2=>?_;clear a;subst O1;subst O2;have m:(s.heap.push {cls:=.type "list",data:=.seq #[]}).get? s.heap.objs.size=Wu {cls:=.type "list",data:=.seq #[]}:=Lc _ rfl;refine⟨⟨_,m,rfl⟩,F.args_list_init_2 _ _,?_⟩;show LC _ A.in1.in1 (do let x <-PR (.ref s.heap.objs.size);RB (.ref s.heap.objs.size) (λO => #[]);letGo x.toList.reverse;Pi (.ref s.heap.objs.size) (.ref it) .none) _ _ _;refine KI ?_;unfold PR;refine KI (MY m rfl (KN ?_));show LC _ A.in1.in1 (Ro s.heap.objs.size (λO => #[])>>=λO=>letGo (#[]:Array Value).toList.reverse>>=λO=>Pi (.ref s.heap.objs.size) (.ref it) .none) _ _ _;refine KI (iD (ys:=[]) P.1 m .nil (Lq _) (Lq _) λh2 n2 g M X2=>?_);refine KI (Qv ?_);unfold Pi;have v:=M.drop1;refine KI (QA (r _ Z _ v) ?_);have h1:Qm (.ref s.heap.objs.size) (.ref it)=Wx:=by simp[Qm,J]
 simp only[h1,c,b,Uz,LW,if_false];refine KI (i _ _ Z _ v _ _ ?_);refine KI (Lh ?_);unfold SY;refine KI (Oj (r _ Z _ v) n ?_);show LC _ A.in1.in1 (QT (Pm it) (KX "__length_hint__")>>=_) _ _ _;refine KI (Oj (r _ Z _ v) j ?_);refine KN ?_;show LC _ A.in1.in1 (rule "list.extend.makes-room" >>= λO=>TD (.ref s.heap.objs.size)>>=λO =>
  again (.builtin "list.extend.loop" ⟨[.ref s.heap.objs.size,.ref it,.none],[]⟩)) _ _ _
 refine KI (MI ?_);refine KI ?_;show LC _ A.in1.in1 (Ro s.heap.objs.size (·.push .none)>>=λO=>Ro s.heap.objs.size (·.pop)) _ _ _;refine KI (iD (ys:=[.none]) M g (.cons .none .nil) (Lq _) (QG ..) λh3 n3 f S3 X3=>?_);refine iD (ys:=[]) S3 f .nil (by decide:1<=LY) (Lq _) λh4 n4 j7 S4 X4=>?_;refine KN ⟨QK Pq _,aGo (A:=A.in1) (k:=k) ?_ (by exact R) items [] gl a8 _ Z q G hI (by simpa using d6) S4 λe s' p X'=>?_⟩
 ·exact⟨C.h,by have:=C.d;show A.depth+(k+1)<=_;omega,by have:=C.u;show A.units+1+(k+1)<=_;omega⟩
 ·exact t e s' p (X'.rebase (((P.2.trans X2).trans X3).trans X4))
end
end
section
variable(n:Nat)(d:LP)(R:List AV)
abbrev nW(k j i e a co l o:AV:=.any):List (Str×AV):=[(jT,.int n),(q6,.inst 242 d),(lY,k),(mf,j),(mc,i),(me,e),(lZ,a),(zd,co),(zc,l),(pr,o)]
def KC(e:List Op)(P:St->List AV->Prop):Prop:=∀a X,P ⟨nW n d .any .any .any .any .any (.ref a),(a,.list (e.map aU))::X⟩ R
variable{n d R} in
def KC.mk{a:List Op}(e:W=a.map aU):xr (KC n d R a) .next ⟨nW n d m h g f c (.ref b),(b,.list W)::X⟩ R:=e▸.mk (λO y=>y b X) @_
variable(c:List Op)(X:aa)
abbrev AP(k j i e a:AV)(l:LP):List (Str×AV):=nW n d k j i e a (.lst (c.map aU)) (.int ((n:Int)+(n:Int))) (.ref l)
def JG(e:List Op)(P:St->List AV->Prop):Prop:=∀W a7 a,WE n e W a7->P ⟨AP n d c .any .any .any .any .any a,(a,.list W)::X⟩ a7
def aI6(p:Op)(j:List Op)(P:St->List AV->Prop):Prop:=∀e a W a7 i,WN n p j e a W a7->P ⟨AP n d c (.str p.tag) (.int e) (.int (p.i2:Nat)) (.int a) (.int (p.j2:Nat)) i,(i,.list W)::X⟩ a7
end
def aFw{a b:List Ln}(hA:dt A 120)(hn:n<10^5)(ha:a.length<10^5)(hb:b.length<10^5)(H:(bf (aY a b) (0,a.length,0,b.length)).length<2)
  (XC:(dj==Nl)=Wx) (Xy:∀k,(bo U k).getD (.lst [])=.lst (eC (bS b k))):TC w A (af w) (.ref 218) [.inst 242 d,.int n] [] (bR w d dj jk pp a b U .none .none []++Y) (ol w (af w) N 103 ((cF n (cJ (bb (aY a b) a.length b.length))).map ce) Y):=by
 refine JM (m:=100) (nW n d) (bq w) hA.lt (λO O=>@_) @_ @_ (aF2 _) λL=>?_;have u:=fun(A:Lk) (hh:A.handled=Wv)=>((((gk w A (ak (kA w.params)) L 218 217 @_ @_ hh).g (lm w) @_ @_).g (HW w) @_ @_).g (aFB w) @_ @_).m ⟨EC,1, "list.append"⟩ OQ iH OU;refine bK _ (λr i a8 s=>aN (u r i.h) 20 .mk) ?_;refine bP (dP λr i a8 s=>ir (jD (name:=km) (C:=242) (f:=210) @_ @_ @_ (bd _) @_ @_ (ae (u r i.h) 20 (.mk (KJ ..) @_ (dd @_ (bw @_) (iu (ge (Y:=bR w d dj jk pp a b U .none .none a8) (aCJ (i.mono ⋯) ha hb H XC Xy) λv l h=>?_)))))) @_);refine ag h λS O2 O3=>?_;clear h;subst O2;subst O3;refine aW rfl (.mk ((S,.list ((cJ (bb (aY a b) a.length b.length)).map aU))::bR w d dj jk pp a b U (.lst ((bb (aY a b) a.length b.length).map cI)) (.ref S) []) ?_);have g5:(cJ (bb (aY a b) a.length b.length)).length<10^6:=by
  have h1:=GC (bb (aY a b) a.length b.length);have h2:=IY (fl:=aY a b) a.length b.length;omega
 generalize bR w d dj jk pp a b U (.lst ((bb (aY a b) a.length b.length).map cI)) (.ref S) []=X0;generalize cJ (bb (aY a b) a.length b.length)=E at *;refine bG (aHl E) λo os hc M=>?_;refine fJ (KC n d ((cF n E).map ce) (o::os)) (dP λr i a8 s=>aN (u r i.h) 20 (ax.mk (jG (.own (KJ ..)) (by rw[KR];omega) (cA (λc=>ax.mk (oD (aO (u r i.h) 20 ⟨(by decide:1<=LY),λP j6 => .mk ((P,.list _)::(S,.list (E.map aU))::X0) (KC.mk (aHj c hc))⟩))) λc => .mk _ (KC.mk (aHk c hc)))))) λP X=>?_;refine fJ (KC n d ((cF n E).map ce) (cX n o::os)) (dP λr i a8 s=>bV (T.bool (p:=o.tag=aT) (aV (u r i.h) 20 ⟨.mk Ps (bH (KJ ..)),ax.mk (aE (.own (KJ ..)) ⋯ ⋯ (x:=aU o) rfl (ax.mk (dS ⋯ ⋯ (x:=.str o.tag) rfl ⟨rfl,beq_iff_eq⟩)))⟩) (λc=>?_) λc=>aK (.mk _ (KC.mk (by rw[aFb c]))))) λP X=>?_
 ·refine aw (eF rfl rfl rfl (ae (u r i.h) 20 ⟨.mk Ps (bH (KJ ..)),ax.mk (aE (.own (KJ ..)) ⋯ ⋯ (x:=be o) rfl (gf i.h @_ @_ @_ (em _ rfl _ _ rfl rfl ?_)))⟩));refine aw (eF rfl rfl rfl (ae (u r i.h) 40 (ax.mk (xf i.h (ax.mk (xf i.h (sd (ae (u r i.h) 20 (ae (u r i.h) 20 ?_)))))))));refine xj (j:=0) .here (aBH o (cX n o) os (aFa c)) (.inl rfl) (by rw[KR];exact Pf _) (by rw[KR,La];omega) ?_;refine aK ?_;exact Xh.mk _ (KC.mk rfl)
 refine bG (aBr (cX n o) os) λJ z hz Zn=>?_;have G:=aAP (n:=n) hc hz;rw[hz];refine fJ (KC n d ((cF n E).map ce) (J++[cQ n z])) (dP λr i a8 s=>bV (T.bool (p:=z.tag=aT) (aV (u r i.h) 20 ⟨.mk Ps (bH (KJ ..)),ax.mk (xl (.own (KJ ..)) (W:=J.map aU) (x:=aU z) LD (by rw[KR];omega) (ax.mk (dS ⋯ ⋯ (x:=.str z.tag) rfl ⟨rfl,beq_iff_eq⟩)))⟩) (λc=>?_) λc=>aK (.mk _ (KC.mk (by rw[aEx c]))))) λP X=>?_
 ·refine aw (eF rfl rfl rfl (ae (u r i.h) 20 ⟨.mk Ps (bH (KJ ..)),ax.mk (xl (.own (KJ ..)) (W:=J.map aU) (x:=be z) LD (by rw[KR];omega) (gf i.h @_ @_ @_ (em _ rfl _ _ rfl rfl ?_)))⟩));refine aw (eF rfl rfl rfl (ae (u r i.h) 40 (ax.mk (rV i.h (ax.mk (rV i.h (sd (ae (u r i.h) 20 (ae (u r i.h) 20 ?_)))))))));refine xj (j:=J.length) .here (aBG z (cQ n z) J (aEw c)) (.inr ⟨by decide,by rw[KR,Lb,Np];omega⟩) (by rw[KR,Lb,Np];omega) (by rw[KR,Lb,Np];omega) ?_;refine aK ?_;exact Xh.mk _ (KC.mk rfl)
 rw[<-G];have XE:(iE n E).length<10^6+10:=by rw[G,Lb,Np];omega
 unfold cF;generalize iE n E=F at *;clear G hz hc M Zn;refine bK _ (λr i a8 s=>aN (u r i.h) 20 .mk) ?_;refine bP (dP λr i a8 s=>aN (u r i.h) 20 (ax.mk (cH rfl λQ i9 => .mk ((Q,.list [])::(P,.list (F.map aU))::X) ?_)));refine TG.weak (.perm (Nc _ _ _)) (TG.freeze (ft:=AP n d F .any .any .any .any .any Q) (by repeat constructor) ?_);refine jA (k:=5) aU (JG n d F X) ⋯ (λr i a8 s=>ae (u r i.h) 20 (fc (k:=5) λit R hI => .mk (l:=(Q,.list [])::X) hI (.mk (λO y=>y _ _ Q (WE.start XE)) @_))) ?_ ?_ (λO=>@_)
 ·intro R p ps W a7 Q h;have hr:=h.room;refine .mk (λr i a8 s=>gf i.h @_ @_ @_ (em _ rfl _ _ rfl rfl rfl)) ?_;refine fJ (aI6 n d F (X++R) p ps) (fZ (p:=AX n p) (λr i a8 s=>aV (u r i.h) 20 (cA (λD=>bN (λt=>⟨rfl,iff_of_true rfl ⟨beq_iff_eq.mp D,t⟩⟩) λt=>⟨rfl,iff_of_false LZ λq=>t q.2⟩) λD=>⟨rfl,iff_of_false LZ λq=>beq_eq_false_iff_ne.mp D q.1⟩)) (λc=>?_) λc=>bv (m0 (λO y=>y _ _ _ _ Q (h.same c)) @_)) λqi qj W a7 Z h=>?_
  ·refine ag (h.cut c) λrest O2 g=>?_;subst O2;refine bP (dP λr i a8 s=>aN (u r i.h) 40 ⟨bH (KJ ..),ax.mk (rV i.h (ax.mk (rV i.h (ax.mk (gJ .here (by rw[Mz];omega) (.mk ((Q,.list (W++[_]))::(X++R)) ?_))))))⟩);refine TG.freeze (ft:=nW n d (.str p.tag) (.int (p.i1:Nat)) (.int (p.i2:Nat)) (.int (p.j1:Nat)) (.int (p.j2:Nat)) (.lst (F.map aU)) (.int ((n:Int)+(n:Int))) (.lst (W++[_]))) (by repeat constructor) ?_;refine bP (BX (λr i a8 s=>ae (u r i.h) 20 (.mk (X++R) rfl ?_)) @_ @_);refine bP (dP λr i a8 s=>aN (u r i.h) 20 (ax.mk (cH rfl λZ h8 => .mk ((Z,.list [])::(X++R)) ?_)));exact bP (dP λr i a8 s=>aN (u r i.h) 40 (ax.mk (xf i.h (ax.mk (xf i.h (.mk ((Z,.list [])::(X++R)) (bv (m0 (λO y=>y _ _ _ _ Z g) @_))))))))
  ·have hr:=h.room;refine bP (dP λr i a8 s=>aN (u r i.h) 20 ⟨bH (KJ ..),ax.mk (gJ .here (by rw[Mz];omega) (.mk ((Z,.list (W++[_]))::(X++R)) ?_))⟩);exact bv (.next (l:=(Z,.list (W++[_]))::X) (.mk (λO y=>y _ _ Z h.put) @_))
 ·intro W a7 Q h;have hr:=h.room;refine bP (TG.mono (K:=KE λO=>True) (fZ (p:=a7=[.lst W]) (λr i a8 s=>?_) (λc=>?_) λc=>?_) λf V a7 h=>?_)
  ·refine aV (u r i.h) 40 (ax.mk (jG (.own (KJ ..)) ⋯ (cA (λD=>ax.mk (rW (.own (KJ ..)) ⋯ (gQ (λt=>?_) λt=>⟨rfl,iff_of_true rfl (h.many D t)⟩))) λD=>⟨rfl,iff_of_false LZ λq=>?_⟩)))
   ·refine bn (h.one t) λq e h1 h2=>?_;refine And.intro (.mk Ps (bH (KJ ..))) (ax.mk (aE (.own (KJ ..)) ⋯ ⋯ (x:=be q) (by rw[e];rfl) (ax.mk (dS ⋯ ⋯ (x:=.str q.tag) rfl (cA (λc3=>?_) λc3=>?_)))))
    ·exact⟨rfl,iff_of_false LZ λq'=>GO <| (h1 (beq_iff_eq.mp c3)).symm.trans q'⟩
    ·exact⟨rfl,iff_of_true rfl (h2 (beq_eq_false_iff_ne.mp c3))⟩
   ·rw[h.none D] at q;cases q
  ·subst c;refine TG.freeze (ft:=nW n d .any .any .any .any .any (.lst (F.map aU)) (.int ((n:Int)+(n:Int))) (.lst W)) (by repeat constructor) ?_;exact bP (BX (λr i a8 s=>ae (u r i.h) 20 (.mk X rfl (bv (KE.mk trivial)))) @_ @_)
  ·induction h.last with
   |inl e=>subst e;exact bv (KE.mk trivial)
   |inr e=>exact absurd e c
  ·induction h with
   |mk _=>exact bv rfl
def rC(x y z:Str):Str:=(((KX "--- " ++ x)++y)++z)
def aDv{z:Str}(hx:x.length<10^5)(d:y.length<10^5)(hz:z.length<10^5):SQ (Builtin.«str.format» ⟨[.str (Str.mk #[45,45,45,32,123,125,123,125,123,125]) t,.str x f,.str y c,.str z b],[]⟩) (λO R s=>∀a k,R (.ok (.ret (.str ((((KX "--- " ++ x)++y)++z)) a))) {s with toks:=k}):=jn (F:=[45,45,45,32,123,125,123,125,123,125]) (.field (l:=[45,45,45,32]) (rest:=[123,125,123,125]) (L:=KX "--- ") rfl (Mx rfl) rfl rfl (.str (MW hx)) (by decide +kernel) RQ (.field (l:=[]) (rest:=[123,125]) (L:=KX "") rfl (Mx rfl) rfl rfl (.str (MW d)) (by decide +kernel) Ss (.field (l:=[]) (rest:=[]) (L:=KX "") rfl (Mx rfl) rfl rfl (.str (MW hz)) (by decide +kernel) Ss .done))) (Mx rfl) (Mx rfl)
def Bq(x y z:Str):Str:=(((KX "+++ " ++ x)++y)++z)
def aDw{z:Str}(hx:x.length<10^5)(d:y.length<10^5)(hz:z.length<10^5):SQ (Builtin.«str.format» ⟨[.str (Str.mk #[43,43,43,32,123,125,123,125,123,125]) t,.str x f,.str y c,.str z b],[]⟩) (λO R s=>∀a k,R (.ok (.ret (.str ((((KX "+++ " ++ x)++y)++z)) a))) {s with toks:=k}):=jn (F:=[43,43,43,32,123,125,123,125,123,125]) (.field (l:=[43,43,43,32]) (rest:=[123,125,123,125]) (L:=KX "+++ ") rfl (Mx rfl) rfl rfl (.str (MW hx)) (by decide +kernel) RQ (.field (l:=[]) (rest:=[123,125]) (L:=KX "") rfl (Mx rfl) rfl rfl (.str (MW d)) (by decide +kernel) Ss (.field (l:=[]) (rest:=[]) (L:=KX "") rfl (Mx rfl) rfl rfl (.str (MW hz)) (by decide +kernel) Ss .done))) (Mx rfl) (Mx rfl)
def Bs(x y z:Str):Str:=(((((KX "@@ -" ++ x)++KX " +")++y)++KX " @@")++z)
def aDE{z:Str}(hx:x.length<10^5)(d:y.length<10^5)(hz:z.length<10^5):SQ (Builtin.«str.format» ⟨[.str (Str.mk #[64,64,32,45,123,125,32,43,123,125,32,64,64,123,125]) t,.str x f,.str y c,.str z b],[]⟩) (λO R s=>∀a k,R (.ok (.ret (.str ((((((KX "@@ -" ++ x)++KX " +")++y)++KX " @@")++z)) a))) {s with toks:=k}):=jn (F:=[64,64,32,45,123,125,32,43,123,125,32,64,64,123,125]) (.field (l:=[64,64,32,45]) (rest:=[32,43,123,125,32,64,64,123,125]) (L:=KX "@@ -") rfl (Mx rfl) rfl rfl (.str (MW hx)) (by decide +kernel) RQ (.field (l:=[32,43]) (rest:=[32,64,64,123,125]) (L:=KX " +") rfl (Mx rfl) rfl rfl (.str (MW d)) (by decide +kernel) rfl (.field (l:=[32,64,64]) (rest:=[]) (L:=KX " @@") rfl (Mx rfl) rfl rfl (.str (MW hz)) (by decide +kernel) rfl .done))) (Mx rfl) (Mx rfl)
def Br(x y z:Str):Str:=(((KX "*** " ++ x)++y)++z)
def aDB{z:Str}(hx:x.length<10^5)(d:y.length<10^5)(hz:z.length<10^5):SQ (Builtin.«str.format» ⟨[.str (Str.mk #[42,42,42,32,123,125,123,125,123,125]) t,.str x f,.str y c,.str z b],[]⟩) (λO R s=>∀a k,R (.ok (.ret (.str ((((KX "*** " ++ x)++y)++z)) a))) {s with toks:=k}):=jn (F:=[42,42,42,32,123,125,123,125,123,125]) (.field (l:=[42,42,42,32]) (rest:=[123,125,123,125]) (L:=KX "*** ") rfl (Mx rfl) rfl rfl (.str (MW hx)) (by decide +kernel) RQ (.field (l:=[]) (rest:=[123,125]) (L:=KX "") rfl (Mx rfl) rfl rfl (.str (MW d)) (by decide +kernel) Ss (.field (l:=[]) (rest:=[]) (L:=KX "") rfl (Mx rfl) rfl rfl (.str (MW hz)) (by decide +kernel) Ss .done))) (Mx rfl) (Mx rfl)
def wx(x y:Str):Str:=(((KX "*** " ++ x)++KX " ****")++y)
def aDD(hx:x.length<10^5)(d:y.length<10^5):SQ (Builtin.«str.format» ⟨[.str (Str.mk #[42,42,42,32,123,125,32,42,42,42,42,123,125]) t,.str x c,.str y b],[]⟩) (λO R s=>∀a k,R (.ok (.ret (.str ((((KX "*** " ++ x)++KX " ****")++y)) a))) {s with toks:=k}):=jn (F:=[42,42,42,32,123,125,32,42,42,42,42,123,125]) (.field (l:=[42,42,42,32]) (rest:=[32,42,42,42,42,123,125]) (L:=KX "*** ") rfl (Mx rfl) rfl rfl (.str (MW hx)) (by decide +kernel) RQ (.field (l:=[32,42,42,42,42]) (rest:=[]) (L:=KX " ****") rfl (Mx rfl) rfl rfl (.str (MW d)) (by decide +kernel) rfl .done)) (Mx rfl) (Mx rfl)
def lq(x y:Str):Str:=(((KX "--- " ++ x)++KX " ----")++y)
def aDC(hx:x.length<10^5)(d:y.length<10^5):SQ (Builtin.«str.format» ⟨[.str (Str.mk #[45,45,45,32,123,125,32,45,45,45,45,123,125]) t,.str x c,.str y b],[]⟩) (λO R s=>∀a k,R (.ok (.ret (.str ((((KX "--- " ++ x)++KX " ----")++y)) a))) {s with toks:=k}):=jn (F:=[45,45,45,32,123,125,32,45,45,45,45,123,125]) (.field (l:=[45,45,45,32]) (rest:=[32,45,45,45,45,123,125]) (L:=KX "--- ") rfl (Mx rfl) rfl rfl (.str (MW hx)) (by decide +kernel) RQ (.field (l:=[32,45,45,45,45]) (rest:=[]) (L:=KX " ----") rfl (Mx rfl) rfl rfl (.str (MW d)) (by decide +kernel) rfl .done)) (Mx rfl) (Mx rfl)
abbrev iG(w:Lz)(S:Str->Bool)(n:Nat):el:=.obj (λO o=>Obj.SetObjOf (LM ab w) o S n) λO O O O x=>x
def DN{Q:Bool->KY->Prop}(G:n+1<VE)
  (U:Upd d (iG w S n) (iG w (λk=>S k||decide (k=x)) (if S x then n else n+1)) Y a8)
  (u:ff B z s Z ⟨a6,Y⟩) (K:∀s',ff B z s' Z ⟨a6,a8⟩->hO (ay z ⟨a6,Y⟩) s Z s' Z (ay z ⟨a6,a8⟩)->Q (!S x) s'):LC (Ly ab w) A (setAdd d (.str x t)) Q E s:=by
 refine ag (u.own _ U.mem) λo v j=>?_;dsimp only at v;unfold setAdd;refine Lh (KI ((LM ab w).pyHash (strKind_is ab w x t) (wpAny_setAddHashed_of (s:={ s with toks:=s.toks+1}) (strKind_is ab w x t) rfl (j.setOf v ⋯) G λh' l r=>ag r.objOf λi p a=>?_)));have P:=u.toca.upd U (h':=h') (tk:=s.toks+1) (λb y J e=>l.extBut b y J e) rfl rfl ⟨i,p,a⟩;exact K _ (u.after P.1 P.2) P.2.toF
def aBl{Q:Unit->KY->Prop}(V:n<VE)
  (J:ff B z s Z ⟨a6,(d,iG w S n)::Y⟩) (f:∀s',ff B z s' Z ⟨a6,(d,iG w S n)::Y⟩->hO (ay z ⟨a6,(d,iG w S n)::Y⟩) s Z s' Z (ay z ⟨a6,(d,iG w S n)::Y⟩)->Q () s'):LC (Ly ab w) A (setUnled d) Q E s:=by
 refine ag (J.own _ (KJ ..)) λo l r=>?_;dsimp only at l;obtain⟨hex,G,g,t,y,x,j,i,K⟩:=r;have k:G.size<VE:=by rw[i];exact V
 have v:({t with led:=Wx}:SetTable).fits G.size=Ww:=by cases t;exact K
 unfold setUnled;refine KI (wpAny_setState_of l y K ?_);dsimp only;refine wpAny_storeSet_of l y (aD (SetOf_store (knd:=LM ab w) l hex y x j k v) λO c=>ag c.objOf λp u a=>?_) (fits_of_scanBound k);simp only[i] at a;have P:=J.toca.upd (Upd.here (o':=iG w S n)) (h':=s.heap.update d (Obj.putSet G {t with led:=Wx})) (tk:=s.toks) (λb R W e=>(LR ..).extBut b R W e) rfl rfl ⟨p,u,a⟩;exact f _ (J.after P.1 P.2) P.2.toF
def HI{K:Frag}{r j:Nat}{p:Pos}(q:∀s:KY,K.In s.heap->∀(Q:Bool->KY->Prop),(∀b,Q b s)->LC (Ly ab w) A (VT z) Q E s)
  (u:ff (am K) z s Z V) (C:∀s',ff (am K) z s' Z V->hO (ay z V) s Z s' Z (ay z V)->Q (.bool (x==c1||x==c)) s'):LC (Ly ab w) A (ME (.Set [.Constant (.str c1) r g,.Constant (.str c) j f] 0 p) z) (λb d=>KdiMark (Ly ab w) A E b (λa=>LC (Ly ab w) A (NE .In (.str x t) b) Q E a) d) E s:=by
 obtain⟨a6,Y⟩:=V;simp only[arm_eval_Set];refine KI (LN (KI (q s (dK u.base u.frozen) _ λb=>?_)));rw[kds_star [.Constant (.str c1) r g,.Constant (.str c) j f] rfl,MN];refine kds_core (ts:=(evalEach [.Constant (.str c1) r g,.Constant (.str c) j f] z).map λt=>do let v <-t;PM p;Nb v) rfl ?_ ?_ ?_ λJ=>?_
 ·refine List.findIdx?_eq_none_iff.mpr λx m=>?_;refine ag (LG.mp m) λt O U=>?_;subst U;rfl
 ·rw[KR,kds_len];show 2<=30;decide
 ·rw[MN];try rfl
 ·have P:=u.toca.push (o:={ cls:=.type "set",dict:=Wv,data:=.set #[] 0 (.fresh 0 0 J)}) (ao:=iG w (λO=>Wx) 0) rfl s.toks ⟨_,Lc _ rfl,PyProof.Rows.setObjOf_fresh J⟩;have S:=u.after P.1 P.2;refine kds_all p _ _ _ ?_;show LC (Ly ab w) A (ME (.Constant (.str c1) r g) z) (λv s'=>LC (Ly ab w) A (ME (.Constant (.str c) j f) z) (λh y=>KdsFill (Ly ab w) A E _ _ _ [v,h] y) E s') E _;refine NK (NK ?_);have N:=(S.toks (s.toks+1)).toks (s.toks+1+1);refine kds_fill_cons (DN (n:=0) ⋯ Upd.here N λs2 M H=>kds_fill_cons (DN (n:=1) ⋯ Upd.here M λs3 L F=>kds_fill_nil rfl (kdi_mark ?_)));have i:(if (Wx||decide (c=c1))=Ww then 1 else 1+1)<VE:=by split <;> decide
  refine aBl i L λs4 W D=>ag (W.own _ (KJ ..)) λo R G=>?_;dsimp only at R;refine wpAny_inSet_of (knd:=LM ab w) (k:=x) (strKind_is ab w x t) rfl (G.setOf R i) ?_;have e:((Wx||decide (x=c1))||decide (x=c))=(x==c1||x==c):=by
   rw[SZ,NR,PL,PL,decide_eq_true_eq,decide_eq_true_eq,beq_iff_eq,beq_iff_eq]
  rw[e];have X:=(((P.2.toF.trans (hO.toks (s.toks+1+1))).trans H).trans F).trans D;exact C _ (W.drop1.toks _) ((X.trans (hO.toks _)).dropF (l:=[_]))
def aEW{K:Frag}(a:VS K z.code=Ww):∀s:KY,K.In s.heap->∀(Q:Bool->KY->Prop),(∀b,Q b s)->LC (Ly ab w) A (VT z) Q E s:=λs X Q h=>kds_main X a h
def JT{K:Frag}{l:Expr}{d a:Nat}{p:Pos}{R:Bool->St->Prop}(j:VS K z.code=Ww)(i:Ry .In (.Set [.Constant (.str c1) d f,.Constant (.str b) a c] 0 p)=Ww)
  (h:T w A (am K) z Val (ME l z) V λv di=>∃x,v=.str x/\R (x==c1||x==b) di):T w A (am K) z aM (isTrue (.Compare l [.In] [.Set [.Constant (.str c1) d f,.Constant (.str b) a c] 0 p] a9) z whole) V R:=λs Z S Q E n=>by
 refine kdi_test i (h s Z S _ _ λv y m r aq k W H G=>?_);refine ag k ?_;clear k;intro x Y k;subst Y
 (refine al H.inv λg o=>?_;subst o)
 exact HI (aEW j) W λe J u=>PU (n _ _ e r aq k J rfl (G.trans u))
def JE{K:Frag}{l:Expr}{d a:Nat}{p:Pos}(j:∀ {E:Value->KY->Prop},∀s:KY,K.In s.heap->∀(Q:Bool->KY->Prop),(∀b,Q b s)->LC (Ly ab w) A (VT z) Q E s)(i:Ry .In (.Set [.Constant (.str c1) d g,.Constant (.str c) a f] 0 p)=Ww)
  (h:T w A (am K) z Val (ME l z) V λv di=>∃x,v=.str x/\R (.bool (x==c1||x==c)) di):T w A (am K) z Val (ME (.Compare l [.In] [.Set [.Constant (.str c1) d g,.Constant (.str c) a f] 0 p] a9) z) V R:=λs Z S Q E n=>by
 refine kdi_eval i (h s Z S _ _ λv y q r aq k W H G=>?_);refine ag k ?_;clear k;intro x Y k;subst Y
 (refine al H.inv λm o=>?_;subst o)
 exact HI j W λe J u=>n _ _ e r aq k J (.bool _) (G.trans u)
def Kp{C:Str}(hx:x.length<10^5)(a:y.length<10^5)(hz:C.length<10^5)(h:R (.str (rC x y C)) V):FC w A B z (.blt "str.format") [.str (Str.mk (MD [45,45,45,32,123,125,123,125,123,125])),.str x,.str y,.str C] [] V R:=xh (λZ t=>c2 λO=>c2 λO=>c2 λO=>aDv hx a hz) h
def aJD{C:Str}(hx:x.length<10^5)(a:y.length<10^5)(hz:C.length<10^5)(h:R (.str (Bq x y C)) V):FC w A B z (.blt "str.format") [.str (Str.mk (MD [43,43,43,32,123,125,123,125,123,125])),.str x,.str y,.str C] [] V R:=xh (λZ t=>c2 λO=>c2 λO=>c2 λO=>aDw hx a hz) h
def aJH{C:Str}(hx:x.length<10^5)(a:y.length<10^5)(hz:C.length<10^5)(h:R (.str (Bs x y C)) V):FC w A B z (.blt "str.format") [.str (Str.mk (MD [64,64,32,45,123,125,32,43,123,125,32,64,64,123,125])),.str x,.str y,.str C] [] V R:=xh (λZ t=>c2 λO=>c2 λO=>c2 λO=>aDE hx a hz) h
def aJE{C:Str}(hx:x.length<10^5)(a:y.length<10^5)(hz:C.length<10^5)(h:R (.str (Br x y C)) V):FC w A B z (.blt "str.format") [.str (Str.mk (MD [42,42,42,32,123,125,123,125,123,125])),.str x,.str y,.str C] [] V R:=xh (λZ t=>c2 λO=>c2 λO=>c2 λO=>aDB hx a hz) h
def aJG(hx:x.length<10^5)(a:y.length<10^5)(h:R (.str (wx x y)) V):FC w A B z (.blt "str.format") [.str (Str.mk (MD [42,42,42,32,123,125,32,42,42,42,42,123,125])),.str x,.str y] [] V R:=Cv (λZ t=>c2 λO=>c2 λO=>aDD hx a) h
def aJF(hx:x.length<10^5)(a:y.length<10^5)(h:R (.str (lq x y)) V):FC w A B z (.blt "str.format") [.str (Str.mk (MD [45,45,45,32,123,125,32,45,45,45,45,123,125])),.str x,.str y] [] V R:=Cv (λZ t=>c2 λO=>c2 λO=>aDC hx a) h
abbrev sE:Str:=⟨⟨[]⟩⟩
def bW(a:List Ln)(i j:Nat):List Ln:=(a.drop i).take (j-i)
def fy(a b:List Ln)(o:Op):List (Option Str):=if o.tag=aT then (bW a o.i1 o.i2).map (cj (FV ++ ·))
 else (if o.tag=cN\/o.tag=cZ then (bW a o.i1 o.i2).map (cj (FU ++ ·)) else [])++(if o.tag=cN\/o.tag=cY then (bW b o.j1 o.j2).map (cj (FS ++ ·)) else [])
def GE:Op:=⟨sE,0,0,0,0⟩
def aJ(g:List Op):Op:=g.headD GE
def aF(g:List Op):Op:=g.getLastD GE
def wn(a b:List Ln)(g:List Op):List (Option Str):=Wu (Bs (ci (aJ g).i1 (aF g).i2) (ci (aJ g).j1 (aF g).j2) sE)::g.flatMap (fy a b)
def Be:List (Option Str):=[Wu (rC sE sE sE),Wu (Bq sE sE sE)]
def gq(a b:List Ln):Bool->List (List Op)->List (Option Str)
 |_,[]=>[]
 |started,g::d=>(if started then [] else Be)++(wn a b g++gq a b Ww d)
structure sg (la lb:Nat) (g:List Op):Prop where
 ne:g≠[]
 i:∀o∈g,o.i1<=o.i2/\o.i2<=la
 j:∀o∈g,o.j1<=o.j2/\o.j2<=lb
 ii:(aJ g).i1<=(aF g).i2
 jj:(aJ g).j1<=(aF g).j2
 len:g.length<10^7
 tg:∀o∈g,o.tag=aT\/o.tag=cN\/o.tag=cZ\/o.tag=cY
def sg.last{e d:Nat}(h:sg e d g):∃os,g=os++[aF g]:=by
 rcases Os g with a |⟨l,x,a⟩
 ·exact absurd a h.ne
 ·refine⟨l,?_⟩;rw[Ot] at a;subst a;simp[aF,Uk]
def sg.i2{a lb:Nat}(h:sg a lb g):(aF g).i2<=a/\(aF g).j2<=lb:=by
 refine al h.last λos e=>?_;have d:aF g∈g:=by
  rw[e];simp
  exact .inr (by rw[<-e])
 exact⟨(h.i _ d).2,(h.j _ d).2⟩
def ta:Nat->Nat->List ah->Prop
 |_,_,[]=>True
 |i,j,t::a=>i<=t.1/\j<=t.2.1/\ta (t.1+t.2.2) (t.2.1+t.2.2) a
def ta.mono{d a:Nat}(h:ta i j ts)(k:d<=i)(e:a<=j):ta d a ts:=List.casesOn (motive:=λts=>ta i j ts->ta d a ts) ts (λO=>trivial) (λO O h=>⟨Mc k h.1,Mc e h.2.1,h.2.2⟩) h
def ta.app{W ys:List ah}(k:∀i j,ta i j ys->ta i j zs):∀ {i j:Nat},ta i j (W++ys)->ta i j (W++zs):=by
 induction W with
 |nil=>exact k _ _
 |cons x W a=>exact λh=>⟨h.1,h.2.1,a h.2.2⟩
def ta.cut{t:ah}{ys:List ah}(h0:t.2.2=0)(i j:Nat)(h:ta i j (t::ys)):ta i j ys:=h.2.2.mono (Mc h.1 (Ow ..)) (Mc h.2.1 (Ow ..))
def ta.join{s t:ah}{ys:List ah}(d:s.1+s.2.2=t.1)(a:s.2.1+s.2.2=t.2.1)(i j:Nat)(h:ta i j (s::t::ys)):ta i j ((s.1,s.2.1,s.2.2+t.2.2)::ys):=⟨h.1,h.2.1,h.2.2.2.2.mono (Oz (d▸(OF ..).symm)) (Oz (a▸(OF ..).symm))⟩
def ta.drop{s:ah×List ah}{r:List ah}(h:ta 0 0 (s.2++s.1::r)):ta 0 0 ((if s.1.2.2=0 then s.2 else s.2++[s.1])++r):=by
 split
 ·rename_i a;exact ta.app (ta.cut a) h
 ·rw[LH];exact h
def ta.adj(ts:List ah):∀(s:ah×List ah) (r:List ah),ta 0 0 (s.2++s.1::(ts++r))->ta 0 0 (fY (ts.foldl dy s)++r):=by
 induction ts with
 |nil=>exact λs r h=>h.drop
 |cons t ts d =>
  intro s r h;simp only[Mr];refine d _ r ?_;unfold dy;split
  ·rename_i a
   exact ta.app (ta.join a.1 a.2) h
  ·exact ta.drop (s:=s) h
def ta.of_pairwise{d a:Nat}{ts:List ah}:∀ {i j:Nat},ts.Pairwise BN->(∀t∈ts,i<=t.1/\j<=t.2.1)->(∀t∈ts,t.1+t.2.2<=d/\t.2.1+t.2.2<=a)->i<=d->j<=a->ta i j (ts++[(d,a,0)]):=by
 induction ts with
 |nil=>exact λO O O n l=>⟨n,l,trivial⟩
 |cons t ts o=>exact λr k e n l =>
  have p:=NI.mp r
  ⟨(k t (KJ ..)).1,(k t (KJ ..)).2,o p.2 p.1 (λu s=>e u (KP _ s)) (e t (KJ ..)).1 (e t (KJ ..)).2⟩
def aHP(d:dR fl)(a e:Nat):ta 0 0 (bb fl a e):=ta.adj _ ((0,0,0),[]) _ ⟨LK _,LK _,ta.of_pairwise (Ha d _ _ _ _ _ (Lq _) (Lq _)) (λt i=>⟨Lq _,Lq _⟩)
  (λt i=>have h:=Hb d (a-0) 0 a 0 e (Lq _) (Lq _) t i;⟨h.2.1,h.2.2.2.1⟩) (Lq _) (Lq _)⟩
def lw:Nat->Nat->List Op->Nat->Nat->Prop
 |i,j,[],d,a=>i=d/\j=a
 |i,j,o::os,d,a=>o.i1=i/\o.j1=j/\i<=o.i2/\j<=o.j2/\lw o.i2 o.j2 os d a
def lw.nil:lw i j [] i j:=⟨rfl,rfl⟩
def lw.append{W ys:List Op}{m a j':Nat}(h':lw m n ys a j'):∀ {i j:Nat},lw i j W m n->lw i j (W++ys) a j':=by
 induction W with
 |nil=>exact λh=>h.1▸h.2▸h'
 |cons x W d=>exact λh=>⟨h.1,h.2.1,h.2.2.1,h.2.2.2.1,d h.2.2.2.2⟩
def lw.snoc{W:List Op}{o:Op}{m:Nat}(p:lw i j W m k)(h:o.i1=m)(h':o.j1=k)(d:o.i1<=o.i2)(a:o.j1<=o.j2):lw i j (W++[o]) o.i2 o.j2:=lw.append (show lw m k [o] _ _ from⟨h,h',h▸d,h'▸a,rfl,rfl⟩) p
def lw.split{W ys:List Op}{a j':Nat}:∀ {i j:Nat},lw i j (W++ys) a j'->∃m n,lw i j W m n/\lw m n ys a j':=by
 induction W with
 |nil=>exact λh=>eY _ _ .nil h
 |cons x W d=>exact λh=>bG (d h.2.2.2.2) λm n k e=>eY m n ⟨h.1,h.2.1,h.2.2.1,h.2.2.2.1,k⟩ e
def lw.le{W:List Op}{d j':Nat}:∀ {i j:Nat},lw i j W d j'->i<=d/\j<=j':=by
 induction W with
 |nil=>exact λh=>⟨Oz h.1,Oz h.2⟩
 |cons x W a=>exact λh=>⟨Mc h.2.2.1 (a h.2.2.2.2).1,Mc h.2.2.2.1 (a h.2.2.2.2).2⟩
def lw.mem{W:List Op}{d j':Nat}:∀ {i j:Nat},lw i j W d j'->∀o∈W,i<=o.i1/\o.i1<=o.i2/\o.i2<=d/\j<=o.j1/\o.j1<=o.j2/\o.j2<=j':=by
 induction W with
 |nil=>exact λO=>dh
 |cons x W k=>exact λh o a=>(KZ.mp a).elim (λe=>e▸⟨Oz h.1.symm,h.1▸h.2.2.1,h.2.2.2.2.le.1,Oz h.2.1.symm,h.2.1▸h.2.2.2.1,h.2.2.2.2.le.2⟩) λa =>
  have r:=k h.2.2.2.2 o a
  ⟨Mc h.2.2.1 r.1,r.2.1,r.2.2.1,Mc h.2.2.2.1 r.2.2.2.1,r.2.2.2.2⟩
def aHu{e bj:Nat}(d:i<=e)(a:j<=bj):lw i j (fH i e j bj) e bj:=by
 unfold fH;split
 ·exact⟨rfl,rfl,d,a,rfl,rfl⟩
 ·split
  ·exact⟨rfl,rfl,d,a,rfl,rfl⟩
  ·split
   ·exact⟨rfl,rfl,d,a,rfl,rfl⟩
   ·rename_i q1 q2
    exact⟨PB d (OX.mp q1),PB a (OX.mp q2)⟩
def aEJ(t:ah):lw t.1 t.2.1 (fF t) (t.1+t.2.2) (t.2.1+t.2.2):=by
 unfold fF;split
 ·rename_i h
  exact⟨h▸rfl,h▸rfl⟩
 ·exact⟨rfl,rfl,Ow ..,Ow ..,rfl,rfl⟩
def aCD(ts:List ah):∀(s:(Nat×Nat)×List Op),ta s.1.1 s.1.2 ts->lw 0 0 s.2 s.1.1 s.1.2->lw 0 0 (ts.foldl dI s).2 (ts.foldl dI s).1.1 (ts.foldl dI s).1.2:=by
 induction ts with
 |nil=>exact λO O h=>h
 |cons t ts d=>exact λs a h=>d (dI s t) a.2.2 (lw.append (aEJ t) (lw.append (aHu a.1 a.2.1) h))
def aCF:∀(ts:List ah) (s:(Nat×Nat)×List Op) (d a:Nat),((ts++[(d,a,0)]).foldl dI s).1=(d,a):=λts s d a=>by
 rw[List.foldl_append];rfl
def aCH(d:dR fl)(a lb:Nat):lw 0 0 (cJ (bb fl a lb)) a lb:=by
 have h:=aCD (bb fl a lb) ((0,0),[]) (aHP d a lb) .nil;rw[show ((bb fl a lb).foldl dI ((0,0),[])).1=(a,lb) from aCF _ _ _ _] at h;exact h
def WM(k e:Nat)(g:List Op):Prop:=∃i j d a,lw i j g d a/\d<=k/\a<=e
def zu(f:Op->Op)(z:Op)(W:List Op):fB f (W++[z])=W++[f z]:=by
 induction W with
 |nil=>rfl
 |cons x W a =>
  cases W with
  |nil=>rfl
  |cons y W=>exact congrArg (Nw x) a
def yg{P:List α->Prop}(W:List α)(n:P [])(c:∀l x,P (l++[x])):P W:=(Os W).elim (λe=>e▸n) λh=>h.elim λl h=>h.elim λx e=>(e.trans (Ot ..))▸c l x
def max_le{a b:Nat}(h:a<=b):max a (b-n)<=b:=Nat.max_le.mpr ⟨h,OL ..⟩
def le_min{a b:Nat}(h:a<=b):a<=min b (a+n):=Nat.le_min.mpr ⟨h,Ow ..⟩
def WM.head{e d:Nat}(h:WM e d g):WM e d (pv (cX n) g):=by
 cases g with
 |nil=>exact h
 |cons o os =>
  refine eK h λi j l k a r p=>?_;show WM e d (cX n o::os);unfold cX;split
  ·exact iv _ _ l k ⟨rfl,rfl,max_le (a.1▸a.2.2.1),max_le (a.2.1▸a.2.2.2.1),a.2.2.2.2⟩ r p
  ·exact h
def WM.last{e d:Nat}:WM e d g->WM e d (fB (cQ n) g):=yg (P:=λg=>WM e d g->WM e d (fB (cQ n) g)) g (λh=>h) λl x h=>by
  rw[zu];refine eK h λi j v u p s r=>bG p.split λm k o a=>?_;unfold cQ;split
  ·exact iv i j _ _ (o.snoc a.1 a.2.1 (le_min (a.1▸a.2.2.1)) (le_min (a.2.1▸a.2.2.2.1))) (Mc (Rr ..) (Mc a.2.2.2.2.le.1 s)) (Mc (Rr ..) (Mc a.2.2.2.2.le.2 r))
  ·exact h
def Bh{Q:List Op->Prop}{I:List Op->List Op->Prop}(done:∀a,I a []->a≠[]->Q a)
  (j:∀a o os,I a (o::os)->Q (a++[⟨o.tag,o.i1,min o.i2 (o.i1+n),o.j1,min o.j2 (o.j1+n)⟩])/\I [⟨o.tag,max o.i1 (o.i2-n),o.i2,max o.j1 (o.j2-n),o.j2⟩] os)
  (i:∀a o os,I a (o::os)->I (a++[o]) os) (d:List Op):∀a,I a d->∀g∈dc n a d,Q g:=by
 induction d with
 |nil=>exact λa h=>wq (P:=λl=>∀g∈l,Q g) (λO=>dh) (λO=>dh) λk O g p=>Lm.mp p▸done a h λe=>k (e▸rfl)
 |cons o os r=>exact λa h=>aFy (P:=λl=>∀g∈l,Q g) (λO g p=>(KZ.mp p).elim (λe=>e▸(j a o os h).1) (r _ (j a o os h).2 g)) λO=>r _ (i a o os h)
def aId(W:List α)(y:α)(zs:List α):W++[y]++zs=W++y::zs:=LH ..
def aDl{W:List α}{y:α}:W++[y]≠[]:=λe=>aDf <| (List.append_eq_nil_iff.mp e).2
def aFv{l e:Nat}(h:WM l e b)(p:b≠[]):∀g∈cF n b,g≠[]/\WM l e g:=by
 unfold cF iE;rw[PI.mpr p];refine Bh (Q:=λg=>g≠[]/\WM l e g) (I:=λa b=>WM l e (a++b)) (λa h z=>⟨z,Ms a▸h⟩) (λa o os h=>eK h λi j x v y s r=>bG y.split λm k u d=>?_) (λa o os h=>(aId ..).symm▸h) _ [] ((h.head (n:=n)).last (n:=n));exact⟨⟨aDl,iv i j _ _ (u.snoc d.1 d.2.1 (le_min (d.1▸d.2.2.1)) (le_min (d.2.1▸d.2.2.2.1))) (Mc (Rr ..) (Mc d.2.2.2.2.le.1 s)) (Mc (Rr ..) (Mc d.2.2.2.2.le.2 r))⟩,
  iv _ _ x v ⟨rfl,rfl,max_le (d.1▸d.2.2.1),max_le (d.2.1▸d.2.2.2.1),d.2.2.2.2⟩ s r⟩
def aFx{l:Nat}:dc n [] [cQ n (cX n ⟨aT,i,k,j,l⟩)]=[]:=by
 unfold cX cQ;rw[if_pos rfl,if_pos rfl];exact if_neg λh=>OX.mpr (Mc (Pu ..) (OE (Ow ..) _)) h.2
def aFt:cF n []=[]:=aFx
def aFr(e:dR fl)(d a n:Nat):∀g∈cF n (cJ (bb fl d a)),g≠[]/\WM d a g:=by
 by_cases h:cJ (bb fl d a)=[]
 ·rw[h,aFt];exact dh
 ·exact aFv ⟨0,0,d,a,aCH e d a,LK _,LK _⟩ h
def aCY(f:Op->Op)(W:List Op):(fB f W).length=W.length:=yg (P:=λW=>(fB f W).length=W.length) W rfl λl x=>by simp only[zu,Lb,Lb];rfl
def aC0(f:Op->Op)(W:List Op):(pv f W).length=W.length:=by cases W <;> rfl
def aAQ(a:List Op):(iE n a).length<=a.length+1:=by
 unfold iE;simp only[aCY,aC0];split
 ·exact QG ..
 ·exact Pp _
def aFu:∀g∈cF n b,g.length<=b.length+2:=Bh (Q:=λg=>g.length<=b.length+2) (I:=λa d=>a.length+d.length<=b.length+1) (λa h O=>ON h)
  (λa o os h=>by
   rw[Lb];simp only[La] at h ⊢;exact⟨by show _+1<=_;omega,by show 1+_<=_;omega⟩)
  (λa o os h=>by
   rw[Lb];rw[La] at h;show _+1+_<=_;omega) _ [] (OJ _▸aAQ b)
def wT(t:Str):Prop:=t=aT\/t=cN\/t=cZ\/t=cY
def hU(os:List Op):Prop:=∀o∈os,wT o.tag
def hU.app{W ys:List Op}(h:hU W)(h':hU ys):hU (W++ys):=λo a=>(Md.mp a).elim (h o) (h' o)
def hU.one{o:Op}(h:wT o.tag):hU [o]:=λp a=>Lm.mp a▸h
def hU.none:hU []:=dh
def hU.hd{o:Op}{os:List Op}(h:hU (o::os)):wT o.tag:=h o (KJ ..)
def hU.tl{o:Op}{os:List Op}(h:hU (o::os)):hU os:=λp a=>h p (KP _ a)
def aCG(bs:List ah):hU (cJ bs):=by
 have c9:∀(a:List ah) (s:(Nat×Nat)×List Op),hU s.2->hU (a.foldl dI s).2:=by
  intro a;induction a with
  |nil=>intro s h;exact h
  |cons t a d =>
   intro s h;simp only[Mr];refine d _ ((h.app ?_).app ?_)
   ·unfold fH;split
    ·exact .one (.inr (.inl rfl))
    ·split
     ·exact .one (.inr (.inr (.inl rfl)))
     ·split
      ·exact .one (.inr (.inr (.inr rfl)))
      ·exact .none
   ·unfold fF;split
    ·exact .none
    ·exact .one (.inl rfl)
 exact c9 bs ((0,0),[]) .none
def aFe(n:Nat)(o:Op):(cX n o).tag=o.tag:=by unfold cX;split <;> rfl
def aEy(n:Nat)(o:Op):(cQ n o).tag=o.tag:=by unfold cQ;split <;> rfl
def aCZ{os:List Op}(h:hU os):hU (pv (cX n) os):=by
 cases os with
 |nil=>exact h
 |cons o os=>exact hU.app (.one (aFe n o▸h.hd)) h.tl
def aCX{os:List Op}:hU os->hU (fB (cQ n) os):=yg (P:=λos=>hU os->hU (fB (cQ n) os)) os (λh=>h) λl x h=>by
  rw[zu];exact hU.app (λo a=>h o (Mn _ a)) (.one (aEy n x▸h x (LJ _ (Lm.mpr rfl))))
def aFs(h:hU b):∀g∈cF n b,hU g:=by
 refine Bh (Q:=hU) (I:=λa d=>hU a/\hU d) (λa h O=>h.1) (λa o os h=>⟨h.1.app (.one h.2.hd),.one h.2.hd,h.2.tl⟩) (λa o os h=>⟨h.1.app (.one h.2.hd),h.2.tl⟩) _ [] ⟨.none,?_⟩;unfold iE;refine aCX (aCZ ?_);split
 ·exact .one (.inl rfl)
 ·exact h
section
variable{idx:Nat->List Nat}
def aFP{x:Int}(a:List Nat):∀s:(Int->Nat)×ah,(∀j∈a,x≠(j:Int))->(a.foldl (dX D i) s).1 x=s.1 x:=by
 induction a with
 |nil=>exact λO O=>rfl
 |cons j a e=>exact λs h=>(e _ λd k=>h d (KP _ k)).trans (if_neg (h j (KJ ..)))
def aFQ(a:List Nat):∀s:(Int->Nat)×ah,k∈a->(a.foldl (dX D i) s).1 (k:Int)=D ((k:Int)-1)+1:=by
 induction a with
 |nil=>exact λO=>nofun
 |cons j a l =>
  intro s h;by_cases c:k∈a
  ·exact l _ c
  ·have q:=(KZ.mp h).resolve_right c;subst q;exact(aFP a _ λd n e=>c ((Int.ofNat.inj e:k=d)▸n)).trans (if_pos rfl)
end
def ra(e:Nat->Nat->Bool)(t:ah):Prop:=∀d,d<t.2.2->e (t.1+d) (t.2.1+d)=Ww
section
variable{idx:Nat->List Nat}{b_ du da dg:Nat}
def ra.none:ra e (i,j,0):=nofun
def ra.snoc(h:ra e (i,j,k))(h':e (i+k) (j+k)=Ww):ra e (i,j,k+1):=λd a =>
 (Pw.mp a).elim (h d) λq=>q▸h'
def pg(e:Nat->Nat->Bool)(i:Nat)(D:Int->Nat):Prop:=∀y p q:Nat,p+D ((y:Int)-1)=i->q+D ((y:Int)-1)=y->ra e (p,q,D ((y:Int)-1))
def pg.start(h:∀x,D x=0):pg e i D:=λy p q O O=>(h ((y:Int)-1)).symm▸.none
def aHi{y:Nat}(h:(y:Int)-1=(j:Int)):y=j+1:=by omega
def pg.inner{s:(Int->Nat)×ah}(E:li b_ da dg i s)(u:pg e i s.1)(G:b_<=i)(d:List Nat):∀a:(Int->Nat)×ah,(∀j∈d,da<=j/\e i j=Ww)->pg e (i+1) a.1/\ra e a.2 ->
  pg e (i+1) (d.foldl (dX s.1 i) a).1/\ra e (d.foldl (dX s.1 i) a).2:=by
 induction d with
 |nil=>exact λO O h=>h
 |cons j d z =>
  intro a v h;have g:=v j (KJ ..);have l:=E.len G g.1;refine z _ (λx J=>v x (KP _ J)) ⟨λy p q=>?_,?_⟩
  ·show p+(if (y:Int)-1=(j:Int) then _ else _)=_->q+(if (y:Int)-1=(j:Int) then _ else _)=_->ra e (p,q,if (y:Int)-1=(j:Int) then _ else _);split
   ·rename_i c
    rw[aHi c];intro n k;have n:p+s.1 ((j:Int)-1)=i:=Re n;have k:q+s.1 ((j:Int)-1)=j:=Re k;exact .snoc (u j p q n k) (n.symm▸k.symm▸g.2)
   ·exact h.1 y p q
  ·show ra e (if _ then _ else _);have r:=PF (Mc l.1 (OL ..));have o:=PF (Mc l.2 (OL ..));split
   ·exact .snoc (u j _ _ r o) (r.symm▸o.symm▸g.2)
   ·exact h.2
def pg.scan(o:∀i j,j∈idx i->e i j=Ww)(n:Nat):∀(i:Nat) (s:(Int->Nat)×ah),b_<=i->li b_ da dg i s->pg e i s.1/\ra e s.2->ra e (gm idx da dg (Mu i n) s).2:=by
 induction n with
 |zero=>exact λO O O O h=>h.2
 |succ n l=>exact λi s a d h=>l (i+1) (fk (idx i) da dg i s) (ON a) (yq (idx i) d a) (pg.inner d h.1 a _ _ (λj k=>⟨(xT k).1,o i j (Ng.mp k).1⟩) ⟨.start λO=>rfl,h.2⟩)
def aBP(a:∀i j,j∈idx i->e i j=Ww)(h:da<=dg)(n:Nat):ra e (gm idx da dg (Mu b_ n) (λO=>0,(b_,da,0))).2:=pg.scan a n b_ _ (LK _) (li.start h) ⟨.start λO=>rfl,.none⟩
def aHf{a b:Prop}[Decidable a][Decidable b]{c:Bool}:((decide a&&(decide b&&c))=Ww)↔a/\b/\c=Ww:=by
 rw[Bool.and_eq_true_iff,Bool.and_eq_true_iff,decide_eq_true_iff,decide_eq_true_iff]
end
def aEY(a b:List Ln):∀i j,j∈aR a b i->aH a b i j=Ww:=λi j h=>by
 unfold aR at h;unfold aH;cases d:a[i]? with
 |none=>rw[d] at h;cases h
 |some x =>
  rw[d] at h;have h:j∈bS b x:=h;unfold bS at h;split at h
  ·cases h
  ·have:=(Ng.mp h).2;rw[beq_iff_eq] at this;rw[this];simp
def aEX(a b:List Ln):∀i,(aR a b i).Pairwise (· < ·):=λi=>by
 unfold aR;cases a[i]? with
 |none=>exact .nil
 |some x=>exact HK b x
structure nb (a b:List Ln) (b_ du da dg p q k:Nat):Prop where
 p1:b_<=p
 p2:p+k<=du
 q1:da<=q
 q2:q+k<=dg
 e:∀d,d<k->a[p+d]?=b[q+d]?
def xk(p q k a e d:Nat):Prop:=d<k\/(d=k/\(p<a\/(p=a/\q<=e)))
structure XJ (a b:List Ln) (b_ du da dg p q k:Nat):Prop where
 run:nb a b b_ du da dg p q k
 best:∀p' q' k',0<k'->nb a b b_ du da dg p' q' k'->xk p q k p' q' k'
def xk.more{q d a k' u v m:Nat}(h:xk p q k d a k')(e:k<m):xk u v m d a k':=.inl (h.elim (λc=>Pa c e) λc=>c.1▸e)
section
variable{a b:List Ln}{b_ du da dg:Nat}
def RM(a b:List Ln)(b_ du da dg i:Nat)(D:Int->Nat):Prop:=∀p q m,nb a b b_ du da dg p q m->p+m=i->m<=D (((q+m:Nat):Int)-1)
structure XK (a b:List Ln) (b_ du da dg i:Nat) (js:List Nat) (t:ah):Prop where
 le:t.1+t.2.2<=i+1
 col:t.1+t.2.2=i+1->∀j∈js,t.2.1+t.2.2<=j
 best:∀p q m,nb a b b_ du da dg p q (m+1)->(p+m<i\/(p+m=i/\q+m∉js))->xk t.1 t.2.1 t.2.2 p q (m+1)
def nb.pred{q m:Nat}(h:nb a b b_ du da dg p q (m+1)):nb a b b_ du da dg p q m:=⟨h.p1,Mc (OE (Pp m) p) h.p2,h.q1,Mc (OE (Pp m) q) h.q2,λd i=>h.e d (Wm i)⟩
def XK.fold(Y:RM a b b_ du da dg i D)(W:∀j,D j<=i)(n:List Nat):∀s:(Int->Nat)×ah,n.Pairwise (· < ·)->(∀j∈n,D ((j:Int)-1)<=j)->XK a b b_ du da dg i n s.2->XK a b b_ du da dg i [] (n.foldl (dX D i) s).2:=by
 induction n with
 |nil=>exact λO O O h=>h
 |cons j n R =>
  intro s V K e;have p:=NI.mp V;have Z:=K j (KJ ..);have f:=W ((j:Int)-1);refine R _ p.2 (λu x=>K u (KP _ x)) ?_;have J:∀p q m,nb a b b_ du da dg p q (m+1)->p+m=i->q+m=j->m<=D ((j:Int)-1):=λp q m o G y=>y▸Y p q m o.pred G;show XK a b b_ du da dg i n (if s.2.2.2<D ((j:Int)-1)+1 then (i-D ((j:Int)-1),j-D ((j:Int)-1),D ((j:Int)-1)+1) else s.2);generalize D ((j:Int)-1)=d at *;split
  ·rename_i c
   refine⟨Oz (by rw[<-OF,PF f]),λO u x=>Mc (Oz (by rw[<-OF,PF Z])) (p.1 u x),λl k m o E=>?_⟩;by_cases r:l+m=i/\k+m=j
   ·obtain⟨rfl,rfl⟩:=r;refine(RO (J l k m o rfl rfl)).imp TM λe=>?_;subst e;exact⟨rfl,.inr ⟨RP ..,Oz (RP ..)⟩⟩
   ·exact(e.best l k m o (E.imp id λz=>⟨z.1,λw=>(KZ.mp w).elim (λw=>r ⟨z.1,w⟩) z.2⟩)).more c
  ·rename_i c
   refine⟨e.le,λh u x=>e.col h u (KP _ x),λl k m o E=>?_⟩;by_cases r:l+m=i/\k+m=j
   ·have G:=J l k m o r.1 r.2;obtain⟨rfl,rfl⟩:=r;refine(RO (Mc (OH G) (OX.mp c))).imp id λw=>⟨w,?_⟩;have y:=e.le;rw[<-w] at y;refine(RO (Nat.le_of_add_le_add_right (show s.2.1+(m+1)<=l+(m+1) from y))).imp id λv=>⟨v,?_⟩;have Q:=e.col (by rw[<-w,v];rfl) _ (KJ ..);rw[<-w] at Q;exact MW (Nat.lt_of_add_lt_add_right (show s.2.2.1+m<k+m from Q))
   ·exact e.best l k m o (E.imp id λz=>⟨z.1,λw=>(KZ.mp w).elim (λw=>r ⟨z.1,w⟩) z.2⟩)
structure Xn (a b:List Ln) (b_ du da dg i:Nat) (s:(Int->Nat)×ah):Prop where
 inv:li b_ da dg i s
 rm:RM a b b_ du da dg i s.1
 le:s.2.1+s.2.2.2<=i
 best:∀p q m,nb a b b_ du da dg p q (m+1)->p+m<i->xk s.2.1 s.2.2.1 s.2.2.2 p q (m+1)
def aEZ(k:b.length<200){x:Ln}(e:a[i]?=Wu x)(d:b[j]?=Wu x):j∈aR a b i:=by
 unfold aR;rw[e];show j∈bS b x;unfold bS;rw[if_neg (by unfold tM;rw[decide_eq_false (QH.mpr k)];exact LZ)];exact Ng.mpr ⟨Uc.mpr (NM.mp d).1,beq_iff_eq.mpr d⟩
def Xn.row(v:b.length<200)(x:du<=a.length){s:(Int->Nat)×ah}(r:b_<=i)(h:Xn a b b_ du da dg i s):Xn a b b_ du da dg (i+1) (fk (aR a b i) da dg i s):=by
 have k:∀p q m,nb a b b_ du da dg p q (m+1)->p+m=i->q+m∈within da dg (aR a b i):=λp q m d n=>by
  have e:=d.e m (NC m);have l:i<a.length:=OA (n▸d.p2) x;rw[n,LF l] at e;exact Ng.mpr ⟨aEZ v (LF l) e.symm,Bool.and_eq_true_iff.mpr ⟨decide_eq_true (Mc d.q1 (Ow ..)),decide_eq_true d.q2⟩⟩
 have c:=XK.fold h.rm (λj=>Mc (h.inv.d1 j) (OL ..)) (within da dg (aR a b i)) (λO=>0,s.2) ((aEX a b i).filter _) (λj u=>Mc (h.inv.len r (xT u).1).2 (OL ..))
  ⟨ON h.le,λe=>absurd h.le (QH.mpr (e▸NC i)),λp q m d o=>o.elim (h.best p q m d) λz=>absurd (k p q m d z.1) z.2⟩
 refine⟨yq (aR a b i) h.inv r,λp q m d n=>?_,c.le,λp q m d o=>c.best p q m d ((RO (Pe o)).imp id λe=>⟨e,MU⟩)⟩;cases m with
 |zero=>exact Lq _
 |succ m =>
  have n:p+m=i:=Re n;rw[show ((q+(m+1):Nat):Int)-1=((q+m:Nat):Int) from PG ((q+m:Nat):Int) 1];rw[show (fk (aR a b i) da dg i s).1 ((q+m:Nat):Int)=s.1 (((q+m:Nat):Int)-1)+1 from aFQ _ _ (k p q m d n)];exact OH (h.rm p q m d.pred n)
def Xn.scan(j:b.length<200)(k:du<=a.length)(n:Nat):∀(i:Nat) (s:(Int->Nat)×ah),b_<=i->Xn a b b_ du da dg i s->Xn a b b_ du da dg (i+n) (gm (aR a b) da dg (Mu i n) s):=by
 induction n with
 |zero=>exact λO O O h=>h
 |succ n e=>exact λi s d h=>(Oy i n)▸e (i+1) _ (ON d) (h.row j k d)
def aGv(i j k:Nat)(h : ¬ (b_<i/\da<j/\e (i-1) (j-1)=Ww)):cn e b_ da i j k=(i,j,k):=by
 cases i with
 |zero=>rfl
 |succ i=>cases j with
  |zero=>rfl
  |succ j=>exact if_neg λc=>h (aHf.mp c)
def Ip(Z:b.length<200)(g:b_<=du)(v:da<=dg)(f:du<=a.length):XJ a b b_ du da dg (cw (aH a b) (aR a b) b_ du da dg).1 (cw (aH a b) (aR a b) b_ du da dg).2.1 (cw (aH a b) (aR a b) b_ du da dg).2.2:=by
 have h:=Xn.scan (a:=a) (b:=b) (b_:=b_) (du:=du) (da:=da) (dg:=dg) Z f (du-b_) b_ (λO=>0,(b_,da,0)) (LK _) ⟨li.start v,λp q m n V=>by
  exact Uu (show p+m<=p+0 from V▸n.p1),LK _,λp q m n W=>absurd W (OX.mpr (Mc n.p1 (Ow ..)))⟩
 have n:=aBP (e:=aH a b) (idx:=aR a b) (b_:=b_) (aEY a b) v (du-b_);rw[Qz g] at h;unfold cw;dsimp only;generalize gm (aR a b) da dg (Mu b_ (du-b_)) (λO=>0,(b_,da,0))=s at h n;obtain⟨D,i,j,k⟩:=s;have u:=h.inv;have E:b_<=i:=u.b1;have b2:i+k<=du:=u.b2;have y:da<=j:=u.b3;have x:j+k<=dg:=u.b4;have run:nb a b b_ du da dg i j k:=⟨E,b2,y,x,λd o=>beq_iff_eq.mp (n d o)⟩;have l:∀p q m,nb a b b_ du da dg p q (m+1)->xk i j k p q (m+1):=λp q m r=>h.best p q m r r.p2;dsimp only;have C:cn (aH a b) b_ da i j k=(i,j,k):=aGv i j k λc=>by
  obtain⟨i,rfl⟩:∃R,i=R+1:=⟨i-1,(QJ (Ox (Lq _) c.1)).symm⟩;obtain⟨j,rfl⟩:∃Q,j=Q+1:=⟨j-1,(QJ (Ox (Lq _) c.2.1)).symm⟩;have w:nb a b b_ du da dg i j (k+1):=⟨Pe c.1,Oy i k▸b2,Pe c.2.1,Oy j k▸x,λd o=>by
   cases d with
   |zero=>exact beq_iff_eq.mp c.2.2
   |succ d=>exact Oy i d▸Oy j d▸run.e d (Nat.lt_of_succ_lt_succ o)⟩
  exact(l i j k w).elim (λz=>OX.mpr (Pp k) z) λz=>Nat.succ_ne_self k z.1
 rw[C];dsimp only;have t:ez (aH a b) du dg i j (du-(i+k)) k=k:=Iv λc=>by
  have w:nb a b b_ du da dg i j (k+1):=⟨E,c.1,y,c.2.1,λd o=>(Pw.mp o).elim (run.e d) λz=>z▸beq_iff_eq.mp c.2.2⟩;exact(l i j k w).elim (λz=>OX.mpr (Pp k) z) λz=>Nat.succ_ne_self k z.1
 rw[t];refine⟨run,λJ G K Y r=>?_⟩;cases K with
 |zero=>exact absurd Y (Nn 0)
 |succ m=>exact l J G m r
end
section
variable{N:aa}
def KD{g:Nat}(k:hW B)(h0:ju w B N n a7 gl gs)(i:a7.any AV.bad=Wx)
  (h:(∀x p,eg w B N (n+1) (.Name x p) a a7 ((a,.gen g gs)::gl))->R (.ref a) ⟨a6,((a,.gen g gs)::gl)++Y⟩):F1 w A B z Val Pz (.ref a) ⟨a6,((a,.gen g gs)::gl)++Y⟩ R:=F1.of λs Z S Q E j=>l6 <| by
 have e:=(S.own _ (KJ ..)).1;exact wpAny_pyIter_gen e (j _ _ s Z _ (h (λx p=>eg.gen k (λO O O O O O O O A Q E d=>KN d) i h0)) S (.ref _) .refl)
def eZ{a b:Str}(d6:a.length+b.length<10^6)(h:K (.str (a++b)) V):F2 w A B z Val (Ph .Add) (.str a) (.str b) V K:=Kx (Mc (MW d6) ⋯) h
def T.to{K:α->St->Prop}(v0:α)(h:T w A B z b t V λv di=>v=v0/\di=V)(k:K v0 V):T w A B z b t V K:=h.mono λv di q=>by refine aD q λd a=>?_;clear q;subst d;subst a;exact k
end
def sg.of{s r:Nat}(d:g≠[])(h:WM s r g)(k:g.length<10^7)(l:hU g):sg s r g:=by
 refine eK h λi j J G n y x=>?_;clear h;have e:=n.mem;have u:(aJ g).i1<=(aF g).i2/\(aJ g).j1<=(aF g).j2:=by
  cases g with
  |nil=>exact absurd rfl d
  |cons o os =>
   have z:aJ (o::os)=o:=rfl;have v:aF (o::os)∈o::os:=by
    unfold aF;rw[List.getLastD_cons];cases os with
    |nil=>exact KJ ..
    |cons p E=>rw[Uk,List.getLast?_eq_some_getLast (Wp _ _)];exact KP _ (List.getLast_mem _)
   rw[z];refine CN n λq1 q2 q3 q4 q5=>?_;clear n;have m:=e _ v;exact⟨q1▸Mc m.1 m.2.1,q2▸Mc m.2.2.2.1 m.2.2.2.2.1⟩
 exact⟨d,λo a=>⟨(e o a).2.1,Mc (e o a).2.2.1 y⟩,λo a=>⟨(e o a).2.2.2.2.1,Mc (e o a).2.2.2.2.2 x⟩,u.1,u.2,k,l⟩
def HP(a b:List Ln)(n:Nat)(e:a.length<10^5):∀g∈cF n (cJ (bb (aY a b) a.length b.length)),sg a.length b.length g:=λg d =>
 have h:=aFr (rD (aH a b) (aR a b)) a.length b.length n g d
 .of h.1 h.2 (by
  have k:=aFu g d;have j:=GC (bb (aY a b) a.length b.length);have i:(bb (aY a b) a.length b.length).length<=a.length+2:=IZ (rD (aH a b) (aR a b)) a.length b.length;exact Ox (Mc k (OK (Mc j (PY 2 i)) 2)) (Ox (OK (PY 2 (OK (MW e) 2)) 2) ⋯)) (aFs (aCG _) g d)
def Eo{a b:Int}(h0:0<=a)(l:a<=b)(k:b<10^9):(ci a b).length<100:=by
 have o:(KX ",").length=1:=by decide +kernel
 have j:=Rf (n:=a) h0 ⋯;have i:=Rf (n:=a+1) ⋯ ⋯;have e:=Rf (n:=b-a) ⋯ ⋯;have d:=Rf (n:=0) ⋯ ⋯;unfold ci;split
 ·omega
 ·split
  ·simp only[Pg];omega
  ·simp only[Pg];omega
def Ep{a b:Int}(h0:0<=a)(e:a<=b)(j:b<10^9):(cr a b).length<100:=by
 have o:(KX ",").length=1:=by decide +kernel
 have d:b<10^10:=Tv j ⋯;have l:=Rf (n:=a) h0 (RT e d);have i:=Rf (n:=a+1) (Ul h0) (RT (VB e 1) (Tv (VA j 1) ⋯));have k:=Rf (n:=b) (RD h0 e) d;exact iteInduction (motive:=λx:Str=>x.length<100) (λO=>Ox l ⋯) λO=>iteInduction (motive:=λx:Str=>x.length<100) (λO=>Ox i ⋯) λO=>by
  rw[Pg,Pg,o];exact Ox (OM (OK i 1) k) ⋯
structure Sep (pre g c:List Ln):Prop where
 nod:pre.Nodup
 gp:∀x∈g,x∉pre
 cp:∀x∈c,x∉pre
 gc:∀x∈g,x∉c
section
variable{C g c:List Ln}(h:Sep C g c)
include h
theorem Sep.diag{x:Ln}(d:(C++g)[i]?=Wu x)(a:(C++c)[j]?=Wu x):i=j/\i<C.length:=by
 by_cases q:i<C.length
 ·rw[Pr q] at d;have e:x∈C:=Px d;by_cases r:j<C.length
  ·rw[Pr r] at a;exact⟨(List.getElem?_inj q h.nod).mp (d.trans a.symm),q⟩
  ·rw[RH (OX.mp r)] at a;exact absurd e (h.cp x (Px a))
 ·rw[RH (OX.mp q)] at d;have e:x∈g:=Px d;exact(Md.mp (Px a)).elim (λy=>absurd y (h.gp x e)) λy=>absurd y (h.gc x e)
theorem Sep.run{du:Nat}(o:du<=(C++g).length)(r:nb (C++g) (C++c) b_ du da dg i j (k+1)):i=j/\i+(k+1)<=C.length:=by
 have a:∀d,d<k+1->i+d=j+d/\i+d<C.length:=λd n=>by
  have l:i+d<(C++g).length:=OA (Nat.add_lt_add_left n i) (Mc r.p2 o);have e:=r.e d n;rw[LF l] at e;exact h.diag (LF l) e.symm
 exact⟨(a 0 (Pf k)).1,(a k (NC k)).2⟩
theorem Sep.first(u:(C++c).length<200)(l:0<C.length):cw (aH (C++g) (C++c)) (aR (C++g) (C++c)) 0 (C++g).length 0 (C++c).length=(0,0,C.length):=by
 have f:=Ip (a:=C++g) (b:=C++c) (b_:=0) (du:=(C++g).length) (da:=0) (dg:=(C++c).length) u (Lq _) (Lq _) (LK _);generalize cw (aH (C++g) (C++c)) (aR (C++g) (C++c)) 0 (C++g).length 0 (C++c).length=t at f ⊢;obtain⟨i,j,k⟩:=t;have w:nb (C++g) (C++c) 0 (C++g).length 0 (C++c).length 0 0 C.length:=⟨LK _,by rw[OJ,Lb];exact Ow ..,LK _,by rw[OJ,Lb];exact Ow ..,λd o=>by
  rw[OJ,Pr o,Pr o]⟩
 have r:=f.best 0 0 C.length l w;have p:=f.run;dsimp only at r p;have n:C.length<=k:=r.elim MW λz=>Oz z.1;cases k with
 |zero=>exact absurd l (OX.mpr n)
 |succ k =>
  have q:=h.run (LK _) p;have e:k+1=C.length:=PB (Mc (QG ..) q.2) n;have s:i=0:=by omega
  rw[<-q.1,s,e]
theorem Sep.none{x y:Nat}(hx:C.length<=x\/C.length=0)(d:(C++c).length<200)(l:x<=(C++g).length)(e:y<=(C++c).length):(cw (aH (C++g) (C++c)) (aR (C++g) (C++c)) x (C++g).length y (C++c).length).2.2=0:=by
 have f:=(Ip (a:=C++g) (b:=C++c) (b_:=x) (du:=(C++g).length) (da:=y) (dg:=(C++c).length) d l e (LK _)).run;generalize cw (aH (C++g) (C++c)) (aR (C++g) (C++c)) x (C++g).length y (C++c).length=t at f ⊢;obtain⟨i,j,k⟩:=t;dsimp only at f ⊢;cases k with
 |zero=>rfl
 |succ k =>
  have q:=h.run (LK _) f
  have:=f.p1;omega
theorem Sep.mb(a:(C++c).length<200):bf (cw (aH (C++g) (C++c)) (aR (C++g) (C++c))) (0,(C++g).length,0,(C++c).length)=if C.length=0 then [] else [(0,0,C.length)]:=by
 have d:=rD (aH (C++g) (C++c)) (aR (C++g) (C++c));split
 ·rename_i e
  exact AI (h.none (.inr e) a (Lq _) (Lq _))
 ·rename_i e
  have i:=RN e;have f:=h.first a i
  rw[GZ d (q:=(0,(C++g).length,0,(C++c).length)) (Lq _) (Lq _) (by dsimp only;rw[f];exact e)];dsimp only;rw[f];dsimp only;rw[if_neg (λz=>Nn 0 z.1),Lj,OJ];split
  ·rename_i z
   rw[AI (h.none (.inl (LK _)) a (MW z.1) (MW z.2))]
  ·rfl
theorem Sep.blocks(a:(C++c).length<200):bb (cw (aH (C++g) (C++c)) (aR (C++g) (C++c))) (C++g).length (C++c).length=(if C.length=0 then [] else [(0,0,C.length)])++[((C++g).length,(C++c).length,0)]:=by
 unfold bb;rw[h.mb a];split
 ·rfl
 ·rename_i e
  show fY (dy ((0,0,0),[]) (0,0,C.length))++_=_;rw[show dy ((0,0,0),[]) (0,0,C.length)=((0,0,0+C.length),[]) from if_pos ⟨rfl,rfl⟩,OJ];rw[show fY ((0,0,C.length),[])=[]++[(0,0,C.length)] from if_neg e];rfl
theorem Sep.mb_len(a:(C++c).length<200):(bf (cw (aH (C++g) (C++c)) (aR (C++g) (C++c))) (0,(C++g).length,0,(C++c).length)).length<2:=by
 rw[h.mb a];split
 ·exact Rc 1
 ·exact NC 1
def oy(p u v:Nat):List Op:=fH p (p+u) p (p+v)
def ov(p:Nat):List Op:=if p=0 then [] else [⟨aT,0,p,0,p⟩]
theorem Sep.ops(a:(C++c).length<200):cJ (bb (cw (aH (C++g) (C++c)) (aR (C++g) (C++c))) (C++g).length (C++c).length)=ov C.length++oy C.length g.length c.length:=by
 rw[h.blocks a,Lb,Lb];unfold ov oy;split
 ·rename_i e
  rw[e];exact Ms _
 ·rename_i e
  show ([]++fH 0 0 0 0++fF (0,0,C.length))++fH (0+C.length) _ (0+C.length) _++[]=_;rw[show fF (0,0,C.length)=[⟨aT,0,0+C.length,0,0+C.length⟩] from if_neg e,Ms,OJ];rfl
end
def gj(u v:Nat):Str:=if u=0 then (if v=0 then ⟨⟨[]⟩⟩ else cY) else if v=0 then cZ else cN
abbrev ek(p u v:Nat):Op:=⟨gj u v,p,p+u,p,p+v⟩
def Dv(u v:Nat) : ¬ gj u v=aT:=by
 cases u with
 |zero =>
  cases v with
  |zero=>show ¬ (⟨⟨[]⟩⟩:Str)=aT;decide
  |succ v=>show ¬ cY=aT;decide
 |succ u =>
  cases v with
  |zero=>show ¬ cZ=aT;decide
  |succ v=>show ¬ cN=aT;decide
def aHr(p:Nat):oy p 0 0=[]:=(if_neg λz=>Nn p z.1).trans ((if_neg (Nn p)).trans (if_neg (Nn p)))
def wa(p u:Nat):p<p+(u+1):=OO (Pf u)
def aHq{u v:Nat}(h : ¬ (u=0/\v=0)):oy p u v=[ek p u v]:=by
 cases u with
 |zero =>
  cases v with
  |zero=>exact absurd ⟨rfl,rfl⟩ h
  |succ v=>exact(if_neg λz=>Nn p z.1).trans ((if_neg (Nn p)).trans (if_pos (wa p v)))
 |succ u =>
  cases v with
  |zero=>exact(if_neg λz=>Nn p z.2).trans (if_pos (wa p u))
  |succ v=>exact if_pos ⟨wa p u,wa p v⟩
def wo{o:Op}{W:List Op}(h : ¬ (o.tag=aT/\o.i1+(n+n)<o.i2)):dc n g (o::W)=dc n (g++[o]) W:=if_neg h
def HT{g:List Op}(e:g.isEmpty=Wx)(h : ¬ (g.length=1/\(g.head?.map (·.tag))=Wu aT)):dc n g []=[g]:=(if_neg λz=>LZ (e.symm.trans z)).trans (if_neg h)
def aDk(n a b:Nat) : ¬ a+(n+n)<min b (a+n):=λz=>Nn _ (OA (Ox (OE (QG n n) a) z) (Pu ..))
def HS(n q:Nat):cF n [⟨aT,0,q,0,q⟩]=[]:=(wo λz=>aDk n _ _ z.2).trans ((if_neg LZ).trans (if_pos ⟨rfl,rfl⟩))
def aFp(n p:Nat):cF n (ov p++oy p 0 0)=[]:=by
 rw[aHr,Ms];unfold ov;split
 ·exact HS n 1
 ·exact HS n p
abbrev im(p m:Nat):Op:=⟨aT,p-m,p,p-m,p⟩
def fT(p m:Nat):List Op:=if p=0 then [] else [im p m]
def aA7(n p:Nat):max 0 (p-n)=p-min n p:=by omega
def aEH(n p:Nat) : ¬ p-min n p+(n+n)<p:=by omega
def aFo{u v:Nat}(h : ¬ (u=0/\v=0)):cF n (ov p++oy p u v)=[fT p (min n p)++[ek p u v]]:=by
 rw[aHq h];have a:=Dv u v;have e:cX n (ek p u v)=ek p u v:=if_neg a;have d:cQ n (ek p u v)=ek p u v:=if_neg a;unfold ov fT;split
 ·show dc n [] [cQ n (cX n (ek p u v))]=_;rw[e,d,wo λz=>a z.1];exact HT rfl λz=>a (No z.2)
 ·show dc n [] [⟨aT,max 0 (p-n),p,max 0 (p-n),p⟩,cQ n (ek p u v)]=_;rw[aA7,d,wo (o:=im p (min n p)) λz=>aEH n p z.2,wo λz=>a z.1];exact HT rfl λz=>absurd z.1 (λy=>Nat.succ_ne_zero 0 (Re y))
def WO(o:Obj):Prop:=o.cls=.none/\o.dict=Wv/\o.slots=#[]
def WO.map(h:WO o)(f:Array Value->Array Value):WO (Nf f o):=by
 obtain⟨c,d,a,sl⟩:=o;cases a <;> exact h
def sM(q:Str)(Z:eb)(o:Obj):Prop:=(o.isFreed=Wx/\WO o)/\∃a,o.data=.fields a/\TriplesOk a.toList/\∀a9 e,Om a9 a.toList=Wu e->∃c d vs t,e=.ref c/\Z c=Wu d/\d.data=.fields vs/\vs[1]?=Wu (.str q t)
def aAZ(Z d:eb)(o:Obj)(k:eb.le Z d)(x:sM q Z o):sM q d o:=by
 obtain⟨l,i,s,p,n⟩:=x;exact⟨l,i,s,p,λa9 u e=>eK (n a9 u e) λc j vs t a b r=>iv c j vs t a (k _ _ b) r⟩
abbrev dB(q:Str):el:=.obj (sM q) aAZ
def IR{a b:Int}(l:List Value)(h:TriplesOk l)(e:Om a9 (l++[MC a,MC b,c])=Wu f):Om a9 l=Wu f\/f=c:=by
 fun_induction TriplesOk l with
 |case1 =>
  simp only[Lj,MC,Om] at e;split at e
  ·right;cases e;rfl
  ·cases e
 |case2 o t n u x rest i =>
  simp only[Lg,Om] at e ⊢;split
  ·rename_i d;rw[if_pos d] at e;exact .inl e
  ·rename_i d;rw[if_neg d] at e;exact i h e
 |case3 l k j=>exact h.elim
set_option backward.match.sparseCases false in
def kX:Value->Nat
 |.str _ _=>1
 |.int _ _=>2
 |.bool _=>3
 |_=>0
def wI(vs:Array Value)(P:LP):Bool:=(vs.getD 11 .none==.ref P)&&(kX (vs.getD 18 .none)==1)&&(kX (vs.getD 7 .none)==2)&&(kX (vs.getD 9 .none)==3)&&(kX (vs.getD 10 .none)==2)
def lz(K:Frag)(c P:LP):Bool:=match K.lookup c with
 |some o=>match o.data with
  |.fields vs=>wI vs P
  |_=>Wx
 |none=>Wx
def aA9{v:Value}(h:(kX v==1)=Ww):∃x t,v=.str x t:=by
 cases v <;> first |exact Cp _ _ rfl |exact(LZ h).elim
def HF{v:Value}(h:(kX v==2)=Ww):∃x t,v=.int x t:=by
 cases v <;> first |exact Cp _ _ rfl |exact(LZ h).elim
def aHM{v:Value}(h:(kX v==3)=Ww):∃x,v=.bool x:=by
 cases v <;> first |exact⟨_,rfl⟩ |exact(LZ h).elim
def aG9{P:LP}{d:Data}(h:(match d with |.fields vs=>wI vs P |_=>Wx)=Ww):∃vs,d=.fields vs/\wI vs P=Ww:=by
 cases d <;> first |exact cL _ rfl h |exact(LZ h).elim
def IQ{K:Frag}{P:LP}(h:lz K c P=Ww):∃o vs j n a l k i tt,K.lookup c=Wu o/\o.data=.fields vs/\vs.getD 11 .none=.ref P/\vs.getD 18 .none=.str j n/\vs.getD 7 .none=.int a l/\vs.getD 9 .none=.bool k/\vs.getD 10 .none=.int i tt:=by
 unfold lz at h;cases e:K.lookup c with
 |none=>rw[e] at h;exact(LZ h).elim
 |some o =>
  rw[e] at h;refine ag (aG9 h) λvs d h=>?_;unfold wI at h;simp only[Mv] at h;refine aD h λx p=>?_;clear h;obtain⟨⟨⟨v,u⟩,s⟩,r⟩:=x;exact(aA9 u).elim λO q=>q.elim λO q2=>(HF s).elim λO q=>q.elim λO q3=>(aHM r).elim λO q4=>(HF p).elim λO q=>q.elim λO q5=>⟨o,vs,_,_,_,_,_,_,_,rfl,d,beq_iff_eq.mp v,q2,q3,q4,q5⟩
def Upd.same{o:el}:∀ {l:aa},(a,o)∈l->Upd a o o l l
 |p::l,h=>by
  rcases KZ.mp h with e |h
  ·subst e;exact .here
  ·exact .there (Upd.same h)
def ca.grow(S:ca B s Z Y){h':Heap}{tk:Nat}(d:∀b o,s.heap.get? b=Wu o->h'.get? b=Wu o):ca B {s with heap:=h',toks:=tk} Z Y/\hO (aj Y) s Z {s with heap:=h',toks:=tk} Z (aj Y):=⟨⟨S.base,λa o e=>d a o (S.frozen a o e),S.nodup,S.apart,λp i=>n0 (s:=s) (.refl _) (λo e=>d _ o e) (λO O O e=>e) (S.own p i),S.gnodup,S.bare⟩,
  ⟨.refl _,λa o e O=>d a o e,λO h => .inl h,λO O e => .inl e,rfl,λO O e O=>e,λO h => .inl h⟩⟩
section
variable{N:aa}
def fP{K:α->Sem β}{gd lv}
  (h:LC M (A.over c b) m (λa s'=>aS M A f c ((K a).wrap q g gd lv) b s') (λx s'=>aS M A f c (g x) b s') s):aS M A f c ((m>>=K).wrap q g gd lv) b s:=by
 rw[Mw,MS];exact dD h
abbrev cG(d7 ap iter:Expr)(a5:Scope)(a9:Pos):Expr:=.GeneratorExp d7 [⟨ap,iter,[],0⟩] a5 a9
def IP(d7 ap iter:Expr)(a5:Scope)(a9:Pos)(it d8:Value)(z:Env):compTurn (cG d7 ap iter a5 a9) 0 it d8 z=(PM iter.pos>>=λO=>Nr it>>=λr=>match r with
   |none=>Nb (.done .next)
   |some v=>Mq ap it v>>=λO=>MM ap z v>>=λO=>(ME d7 z>>=λv=>PM d7.pos>>=λO=>Td z v>>=λO=>Nb PUnit.unit)>>=λO=>again (.compLoop (cG d7 ap iter a5 a9) 0 it d8 z)):=by rfl
def Eh{c:Code}{m:Nat}(e:c.weight=1)(i:c.cUnits<=3)(a:dt A (m+3)):dt (A.over c []) m:=⟨a.h,by
  show A.depth+c.weight+m<=_;rw[e,OF,Qu 1 m];exact Mc (OE (OE ⋯ m) _) a.d,by
  show A.units+c.cUnits+m<=_;rw[OF,Qu c.cUnits m];exact Mc (OE (OE i m) _) a.u⟩
def aBK{m:Nat}(hk:k<=m)(P:z.scope.isCoroutine=Wx):∀(W a7:List AV),W.length=a7.length->a7.any AV.bad=Wx->(∀p∈W.zip a7,∀a6,J a6->∀A,dt A m->∀Y,F1 w A B z aQ (MM ap z) p.1 ⟨a6,Y⟩ λO H=>T w A B z Val (ME d7 z) H λv G=>v=p.2/\G.led=Y/\J G.loc) ->
   ∀(gl:aa) (a6:List (Str×AV)),eg w B N k ap it W gl->J a6 ->
   zn w B N (m+3) z (.compLoop (cG d7 ap iter a5 a9) 0 (.ref it) .none z) ((Ly ab w).den (.compLoop (cG d7 ap iter a5 a9) 0 (.ref it) .none z)) [] a7 ⟨a6,gl⟩:=by
 intro W;induction W with
 |nil =>
  intro a7 D U i gl a6 hI hJ A hA Y hN hF j c7 o s Z S X;cases a7 with
  |cons r M=>cases D
  |nil =>
   have t:=Eh (c:=.compLoop (cG d7 ap iter a5 a9) 0 (.ref it) .none z) rfl (by show 3<=3;omega) hA;show aS _ A _ _ ((compTurn (cG d7 ap iter a5 a9) 0 (.ref it) .none z).onRaise (leaving z)) [] s;rw[IP,NW];refine fP (LN ?_);have Sp:ff B z s Z ⟨a6,Y++gl⟩:=S.perm Li;refine fP (wj hI (t.mono hk) hN Sp λR K n X3=>?_);have X':hO (ay z ⟨a6,gl++Y⟩) s Z R K (ay z ⟨a6,Y⟩):=by
    rw[eu (z:=z) (a6:=a6) (ft:=a6) (l:=gl++Y) (l':=Y++gl) Li];exact X3
   refine yp (.ok .next) ⟨.inr rfl,K,n.toca,(X.trans X').less (λa h => .inr h) λa h=>h⟩
 |cons x W ih =>
  intro a7 D U i gl a6 hI hJ A hA Y hN hF j c7 o s Z S X;cases a7 with
  |nil=>cases D
  |cons q M =>
   have t:=Eh (c:=.compLoop (cG d7 ap iter a5 a9) 0 (.ref it) .none z) rfl (by show 3<=3;omega) hA;show aS _ A _ _ ((compTurn (cG d7 ap iter a5 a9) 0 (.ref it) .none z).onRaise (leaving z)) [] s;rw[IP,NW];refine fP (LN ?_);have Sp:ff B z s Z ⟨a6,Y++gl⟩:=S.perm Li;refine fP (Mg (wh hI (t.mono hk) hN Sp (Q:=λr c5=>match r with
    |none=>False
    |some v=>aS (Ly ab w) A (sf w B N (m+3) A (q::M) Y j c7 o) (.compLoop (cG d7 ap iter a5 a9) 0 (.ref it) .none z) ((MM ap z v>>=λO=>(ME d7 z>>=λv=>PM d7.pos>>=λO=>Td z v>>=λO=>Nb PUnit.unit)>>=λO=>again (.compLoop (cG d7 ap iter a5 a9) 0 (.ref it) .none z)).wrap .pure (λe=>(leaving z e).bind λO => .raise e) id id) [] c5)
    (E:=λO O=>False) λR K v d n V3 X3 f=>?_) (λr c5 h1=>?_) λO O h=>h.elim)
   ·dsimp only;have X':hO (ay z ⟨a6,gl++Y⟩) s Z R K (ay z ⟨a6,d++Y⟩):=by
     rw[eu (z:=z) (a6:=a6) (ft:=a6) (l:=gl++Y) (l':=Y++gl) Li,eu (z:=z) (a6:=a6) (ft:=a6) (l:=d++Y) (l':=Y++d) Li];exact X3
    have X2:=X.trans X';have S3:ff B z R K ⟨a6,d++Y⟩:=n.perm Li;refine fP (i (x,q) (by simp) a6 hJ _ t (d++Y) R K v V3 S3 _ _ λO O s4 Z4 G b S4 O X4=>?_);rw[Mw,Mw,MS,MS];refine dD (b s4 Z4 S4 _ _ λu y s5 Z5 F k5 S5 V5 X5=>?_);obtain⟨sj,Yc⟩:=F;refine jI k5 λO1 e g=>?_;clear k5;subst O1;dsimp only at e g;subst e;have hy:∀v,Td z v=yieldValue v:=λv=>by simp only[Td,P,LW,if_false]
    rw[hy];refine fP (LN ?_);show aS _ A _ _ (.yield y _ _ _) [] s5;refine DT rfl λp=>⟨λC=>absurd ((Py.mp U).1.symm.trans C) LZ,λO=>⟨rfl,y,Z5,(z.locals,.ns sj)::d,rfl,S5.toL,V5,?_,?_⟩⟩
    ·have:=X2.trans (X4.trans X5);rw[bI (V:=⟨sj,d++Y⟩)] at this;exact this
    ·rw[ju.iff];intro A' XR a8 Xl Yt L Z' Yy;have SF:ff B z L Z' ⟨sj,d++a8⟩:=l9 (V:=⟨sj,d++a8⟩) Yy S5.kinds S5.fn;refine oV rfl (ih M (by simpa using D) (Py.mp U).2 (λp hp=>i p (by simp only[NH];exact KP _ hp)) d sj f g A' XR a8 Xl Yt _ L Z' L Z' SF ?_);simp only[bI];exact .refl
   ·cases r with
    |none=>exact h1.elim
    |some v=>exact fP (Mg h1 (λO s2 h2=>h2) λO O h=>h.elim)
def ju.genexp{m:Nat}{a7:List AV}(r:k<=m)(l:z.scope.isCoroutine=Wx)
  (j:∀x v,a6.lookup x=Wu v->z.kindOf x=Wu .local) (u:z.scope.kind=.function) (o:W.length=a7.length) (y:a7.any AV.bad=Wx)
  (d:∀p∈W.zip a7,∀a6,J a6->∀A,dt A m->∀Y,F1 w A B z aQ (MM ap z) p.1 ⟨a6,Y⟩ λO i=>T w A B z Val (ME d7 z) i λv e=>v=p.2/\e.led=Y/\J e.loc)
  (K:eg w B N k ap it W gl) (n:gb w B it gl) (G:J a6):ju w B N (m+3) a7 ((z.locals,.ns a6)::gl) (.fresh (.compStart (cG d7 ap iter a5 a9) 0 (.ref it) .none z)):=by
 rw[ju.iff];intro A R Y E Q s Z S;have b:ff B z s Z ⟨a6,gl++Y⟩:=l9 (V:=⟨a6,gl++Y⟩) S j u;have a:=aBK (d7:=d7) (iter:=iter) (a5:=a5) (a9:=a9) r l W a7 o y d gl a6 K G A R Y E Q (aj ((z.locals,.ns a6)::gl++Y)) s Z s Z b (by simp only[bI];exact .refl);show aS _ A _ _ ((compStart (cG d7 ap iter a5 a9) 0 (.ref it) .none z).onRaise (leaving z)) [] s;unfold compStart;rw[NW];show aS _ A _ _ ((ask>>=_).wrap _ _ _ _) [] s;refine fP (Ug ?_);split
 ·exact oV rfl a
 ·refine fP (MI ?_);show aS _ A _ _ ((PM iter.pos>>=_).wrap _ _ _ _) [] s;exact fP (LN (fP (n _ ((z.locals,.ns a6)::Y) s Z (ca.perm S MT.symm) _ _ (oV rfl a))))
def aAh{K:Frag}{P:LP}(hc:z.code=.ref c)(M:lz K c P=Ww)(hP:(P,dB q)∈Y)(S:ca (am K) s Z Y)
  (hQ:∀a oc vs t s' Z',ca (am K) s' Z' Y->hO (aj Y) s Z s' Z' (aj Y)->Z' a=Wu oc->oc.data=.fields vs->vs[1]?=Wu (.str q t)->Q (.ref a) s'):LC (Ly ab w) A (genexprCode z a9 q a5) Q E s:=by
 obtain⟨o,vs,Yw,tf,XG,tg,YY,text,tt,R,hd,XS,h2,h7,h9,XT⟩:=IQ M;have ho:s.heap.get? c=Wu o:=S.frozen _ _ (S.base _ _ R);obtain⟨op,y,⟨XA,L⟩,m,v,u,j⟩:=S.own _ hP;dsimp only at y;have Ys:Z P=Wv:=S.apart _ hP;have ZE:c≠P:=λe=>by have:=S.base _ _ R;simp only[e,Ys] at this;cases this
 unfold genexprCode codeAt;rw[hc,if_neg (show ¬ ((Pm c==My)=Ww) from LZ)];refine KI (MZ ho hd ?_);rw[XS];refine KI (MZ y v ?_);cases G:Om a9 m.toList with
 |some cv =>
  refine sm (j a9 cv G) λa oc F t O5 hz X hq=>?_;subst O5;exact KN (hQ a oc F t s Z S .refl hz X hq)
 |none =>
  rw[h2,h7,h9,XT];refine KI (wpAny_newCode λa P' h' tk hk Xk ZL C k=>aD (S.grow (h':=h') (tk:=tk) hk) λS1 X1=>?_);refine sm k λc2 oc J t2 f W r r2=>?_;clear k;cases f
  have d:s.heap.get? a=Wv:=Rg Xk;have XE:a∉keys Y:=λhm=>by
   refine ag (LG.mp hm) λp hp e=>al ((S.own p hp).live) λob g=>?_;rw[e,d] at g;cases g
  have V:Z a=Wv:=by
   cases e:Z a with
   |none=>rfl
   |some x=>have:=S.frozen _ _ e;rw[d] at this;cases this
  refine aD (S1.fixZ (s0:=s) (c:=a) (o:=oc) W d XE V X1) λS2 X2=>?_;have l:=hk _ _ y;refine KI (UG l v ?_);have i:(Nf (λvs=>if (Om a9 vs.toList).isSome=Ww then vs else vs ++ #[MC a9.line,MC a9.col,.ref a]) op).data =
    .fields (m ++ #[MC a9.line,MC a9.col,.ref a]):=by
   rw[Og v,G];rfl
  have n:=LV (h:=h') (λo=>Nf (λvs=>if (Om a9 vs.toList).isSome=Ww then vs else
   vs ++ #[MC a9.line,MC a9.col,.ref a]) o) l (NG i)
  refine KI (MZ n i ?_);have U:(m ++ #[MC a9.line,MC a9.col,Pm a]).toList=m.toList++[MC a9.line,MC a9.col,.ref a]:=by simp
  rw[U,codeAmong_snoc _ u G];have P3:=S2.upd (Upd.same hP) (h':=h'.update P λo=>Nf (λvs=>if (Om a9 vs.toList).isSome=Ww then vs else vs ++ #[MC a9.line,MC a9.col,.ref a]) o) (tk:=tk) (λb ob hb e=>(LR ..).extBut b ob hb e) rfl rfl
   ⟨_,n,⟨NG i,L.map _⟩,_,i,by rw[U];exact TriplesOk_snoc _ _ _ _ u,λN cv e=>?_⟩
  ·exact KN (hQ a oc J t2 _ _ P3.1 (X2.trans P3.2) (l2 ..) r r2)
  ·rw[U] at e;rcases IR _ u e with e |rfl
   ·exact eK (j N cv e) λc3 H D t3 e3 z3 r3=>iv c3 H D t3 e3 (m9 V _ _ z3) r3
   ·exact Kd a oc J t2 rfl (l2 ..) r r2
end
section
variable{N:aa}
def Hu(h:Heap):h.get? h.objs.size=Wv:=by
 cases e:h.get? h.objs.size with
 |none=>rfl
 |some o=>exact absurd (Mf e) (Nn _)
def ca.newGen{gs:NZ}{k:Heap}{tk:Nat}(S:ca B s Z Y)
  (y:k.Ns s.heap.objs.size f) (G:LL s.heap.objs.size (s.heap.push {cls:=.type "frame",data:=.dict #[]}) k) (hv:∀x,ix Z (a6.lookup x) (f x)) (v:go={ cls:=.type "generator",data:=.fields #[.int s.gens.size 0,nm,qn]}) (z:gs.bare=Ww):ca B {s with gens:=s.gens.push gs,toks:=tk,heap:=k.push go} Z ((k.objs.size,.gen s.gens.size gs)::(s.heap.objs.size,.ns a6)::Y) /\
   hO (aj Y) s Z {s with gens:=s.gens.push gs,toks:=tk,heap:=k.push go} Z (aj ((k.objs.size,.gen s.gens.size gs)::(s.heap.objs.size,.ns a6)::Y)):=by
 have i:∀b o,s.heap.get? b=Wu o->k.get? b=Wu o:=λb o e=>G.extBut b o (MA (Mf e)) (Ld _ e);have l:=Hu s.heap;have h:s.heap.objs.size∉keys Y:=λq=>by
  refine ag (LG.mp q) λp hp e=>al ((S.own p hp).live) λob g=>?_;simp only[e,l] at g;cases g
 have c:Z s.heap.objs.size=Wv:=S.zfresh;have n:∃ob,k.get? s.heap.objs.size=Wu ob:=by refine fe y λob O O g O=>?_;clear y;exact⟨ob,g⟩
 refine al n λQ E=>?_;clear n;have J:s.heap.objs.size≠k.objs.size:=MA (Mf E);have d:=Hu k;have j:∀b o,k.get? b=Wu o->(k.push go).get? b=Wu o:=λb o e=>Ld go e;have N:(k.push go).get? k.objs.size=Wu go:=Lc _ (by subst v;rfl);have r:s.gens[s.gens.size]?=Wv:=by simp
 have K:s.gens.size∉gkeys Y:=λq=>by
  refine ag (RF.mp q) λp hp e=>?_
  have:=S.own p hp;obtain⟨a,ob⟩:=p;cases ob with
  |gen g gs =>
   (have e:g=s.gens.size:=No e);subst e
   have:=this.2;rw[r] at this;cases this
  |_=>cases e
 have u:∀g (gs x:NZ),s.gens[g]?=Wu gs->(s.gens.push x)[g]?=Wu gs:=λg gs x e=>by
  rw[Rl];refine al (OZ.mp e) λR O=>?_;rw[if_neg ⋯];exact e
 refine⟨⟨S.base,λa o e=>j a o (i a o (S.frozen a o e)),?_,λp hp=>?_,λp hp=>?_,?_,λx hx=>?_⟩,
  ⟨.refl _,λa o e O=>j a o (i a o e),λa W=>?_,λO O e => .inl e,rfl,λg gs e O=>u g gs _ e,λg V=>?_⟩⟩
 ·refine Lp.mpr ⟨λq=>?_,Lp.mpr ⟨h,S.nodup⟩⟩;rcases KZ.mp q with q |q
  ·exact J q.symm
  ·refine ag (LG.mp q) λp hp e=>al ((S.own p hp).live) λob g=>?_
   have:=i _ _ g;simp only[e,d] at this;cases this
 ·rcases KZ.mp hp with rfl |hp
  ·cases e:Z k.objs.size with
   |none=>rfl
   |some o =>
    have:=i _ _ (S.frozen _ _ e);rw[d] at this;cases this
  ·rcases KZ.mp hp with rfl |hp
   ·exact c
   ·exact S.apart p hp
 ·rcases KZ.mp hp with rfl |hp
  ·refine⟨⟨go,_,_,N,by subst v;rfl,by subst v;rfl,by subst v;rfl⟩,?_⟩;show (s.gens.push _)[s.gens.size]?=_;rw[Rl,if_pos rfl]
  ·rcases KZ.mp hp with rfl |hp
   ·exact n6 (.refl _) (λo e=>j _ o e) ⟨_,y,hv⟩
   ·exact(S.own p hp).mono (.refl _) (λo e=>j _ o (i _ o e)) λg gs O e=>u g gs _ e
 ·exact Lp.mpr ⟨K,S.gnodup⟩
 ·rcases Array.mem_push.mp hx with hx |hx
  ·exact S.bare x hx
  ·subst hx;exact z
 ·rcases KZ.mp W with q |q
  ·right
   cases e:s.heap.get? a with
   |none=>rfl
   |some o =>
    have:=i a o e;simp only[q,d] at this;cases this
  ·rcases KZ.mp q with q |q
   ·exact .inr (q▸l)
   ·exact .inl q
 ·rcases KZ.mp (show g∈s.gens.size::gkeys Y from V) with q |q
  ·exact .inr (q▸r)
  ·exact .inl q
def aIe{R:Result->KY->Prop}(y:dt A (k+1))  (bs:List Bool):∀(gl Y:aa) (s:KY) (Z:eb),kn N Y->eg w B N k oM it (bs.map .bool) gl->ca B s Z (gl++Y) ->
  (∀s' d,ca B s' d Y->hO (aj (gl++Y)) s Z s' d (aj Y)->R (.ok (.ret (.bool (bs.any id)))) s')->PA (Ly ab w) A (.builtin "any.loop" ⟨[.ref it],[]⟩) R s:=by
 induction bs with
 |nil =>
  intro gl Y s Z i p S e;refine NQ F.entry_any_loop ?_;rw[NO Su _];exact p.last y.in1 i S λs' d l j=>KI (MI (KN (e s' d l j)))
 |cons b bs z =>
  intro gl Y s Z i p S e;refine NQ F.entry_any_loop ?_;rw[NO Su _];refine p.draw y.in1 i S (λO=>rfl) λs' d v d5 l V j o=>KI (Lh ?_)
  (have E:=V.inv;subst E)
  refine PU (KI (Qv ?_));cases b with
  |true =>
   exact lO rfl (KI (MI (KN (e s' d l.drop (j.less (λa h=>by simp only[aj];show a∈keys (d5++Y);simp only[keys,LD];exact LJ _ h) λa h=>by
    show a∈gkeys (d5++Y);unfold gkeys;exact(Eq.symm (NJ))▸LJ _ h)))))
  |false=>exact ec LZ (KN ⟨QK Su _,z d5 Y s' d i o l λn r x u=>e n r x (j.trans u)⟩)
def aKz{id:String}(e:((NF a9 (Mh args z)).all λx => !x.1)=Ww)
  (h:∀s Z,ff B z s Z V->∀(Q:Value->KY->Prop) (E:Value->KY->Prop),HQ B z Val V K s Z Q ->
   LC (Ly ab w) A (spliced (NF a9 (Mh args z))) (λvs c5=>LC (Ly ab w) A (call (.builtin id) vs []) Q E c5) E s):CA w A B z a9 (.blt id) [] args V K:=λs Z F W c u S Q E f=>by
 (have q:=c.inv;subst q)
 cases u
 unfold QZ;have G:=h s Z S (λr j=>LC (Ly ab w) A (do Ol [r] point;Nb r) Q E j) E λv y j C n k D H X=>KI (Lh (Sf (KN (f v y j C n k D H X))));have i:∀ {Q':Args->KY->Prop},(∀vs c5,LC (Ly ab w) A (call (.builtin id) vs []) (λr j=>LC (Ly ab w) A (do Ol [r] point;Nb r) Q E j) E c5->Q' ⟨vs,[]⟩ c5) ->
   LC (Ly ab w) A (TV (.builtin id) Ww (NF a9 (Mh args z)) []) Q' E s:=fun{Q'} N=>by
  have d:=Mg G (Q':=λvs c5=>Q' ⟨vs,[]⟩ c5) (λvs c5 g=>N vs c5 g) λO O x=>x;revert d e;generalize NF a9 (Mh args z)=l;intro e d;cases l with
  |nil=>exact wy d
  |cons y r =>
   obtain⟨b,t⟩:=y
   have:b=Wx:=by simpa using (LS.mp e (b,t) (KJ ..))
   subst this;exact PK d
 refine KI (Lh (i λvs c5 a=>KI (LN (KI (KN ?_)))));have J:∀l,LC (Ly ab w) A (operate l (call (.builtin id) ([]++vs) [])>>=λr=>(do Ol [r] point;Nb r)) Q E c5:=λl=>KI (λY p o=>by rw[RL];exact a Y p o);have R:∀m,LC (Ly ab w) A (Qy m (.builtin id) ([]++vs) []>>=λr=>(do Ol [r] point;Nb r)) Q E c5:=λm=>KI (by unfold Qy;exact QV a);generalize (((NF a9 (Mh args z)).any λx=>x.fst)||([]:List (Option Str×Sem Value)).any λx=>x.fst.isNone)=b;cases b <;> first
  |exact J _
  |exact R _
  |exact KI a
  |exact Rm (by split <;> first |exact KI a |exact R _)
def aFM{K:Frag}(h:eb.le (am K) Z)(d:Z c=Wu oc):eb.le (am ((c,oc)::K)) Z:=λa o e=>by
 unfold am at e;rw[Lu] at e;by_cases q:a=c
 ·subst q;simp only[beq_self_eq_true,MK] at e;subst e;exact d
 ·have:(a==c)=Wx:=beq_eq_false_iff_ne.mpr q;rw[this] at e;exact h a o e
def aKA{K:Frag}{c P:LP}{q:Str}{a5:Scope}{i:Pos}{WA:List (Str×AV)}{Y:aa}{bs:List Bool}{m:Nat}{bi:LP}
  (hG:∀K',(∀a o,K.lookup a=Wu o->(am K') a=Wu o)->hW (am K')) (hm:5<=m) (hA:dt A (m+10))
  (Zd:((NF a9 (Mh [cG d7 ap iter a5 i] z)).all λx => !x.1)=Ww) (Ze:Mh [cG d7 ap iter a5 i] z=(Wx,ME (cG d7 ap iter a5 i) z)::Mh [] z)
  (XN:a5.isCoroutine=Wx) (XD:Sb a5 z=Nb []) (XF:∀y∈a5.names,y.2 ≠ .cell) (h0:a5.names.lookup (".0" : Str)=Wu NameKind.local) (n:a5.kind=.function) (XB:∀x,genFold iter z x=Nb x)
  (hc:z.code=.ref c) (Zi:lz K c P=Ww) (hq:z.qual ++ "<genexpr>" = q) (ZG:Mi K ⟨ab,w.params⟩ (builtinsFor z.globals z.builtins)=Wu bi) (hP:(P,dB q)∈Y)
  (Xz:T w A (am K) z Val (ME iter z) ⟨a6,Y⟩ λv fI=>v=.lst W/\fI=⟨a6,Y⟩) (hl:W.length=bs.length)
  (l:∀x v,WA.lookup x=Wu v->v=.any/\a5.names.lookup x=Wu .local) (YM:(WA.lookup (".0" : Str)).isSome=Ww) (hJ:J WA)
  (U:∀(K':Frag) C f L,(∀a o,K.lookup a=Wu o->(am K') a=Wu o)->C=VV a5 [] L (.ref f) bi z->VS K' (.ref f)=Ww->∀p∈W.zip (bs.map AV.bool),∀a6,J a6->∀A,dt A m->∀Y,
   F1 w A (am K') C aQ (MM ap C) p.1 ⟨a6,Y⟩ λO YR=>T w A (am K') C Val (ME d7 C) YR λv Xv=>v=p.2/\Xv.led=Y/\J Xv.loc)
  (h:R (.bool (bs.any id)) ⟨a6,Y⟩):CA w A (am K) z a9 (.blt "any") [] [cG d7 ap iter a5 i] ⟨a6,Y⟩ R:=aKz Zd λs Z S Q E hQ=>by
 rw[Ze];refine VD (wpAny_GeneratorExp_make XN XD XF h0 n hA.lt (Xz s Z S _ _ λv x c5 Z1 fI D S1 V1 X1=>?_) XB);refine aD D λO1 O2=>?_;clear D;subst O1;subst O2;refine CI (w:=w) (B:=am K) (ap:=ap) (V:=⟨a6,Y⟩) (k:=m) (K:=λu ia=>∃it gl,u=.ref it/\ia=⟨a6,gl++Y⟩/\(∀B' N,eg w B' N m ap it W gl)/\∀B',gb w B' it gl)
  (λit gl h1 h2=>⟨it,gl,rfl,rfl,h1,h2⟩) c5 Z1 x V1 S1 _ _ λu y s2 Z2 ia G S2 V2 X2=>?_
 refine oJ G λit gl O3 O4 hI Xx=>?_;clear G;subst O3;subst O4
 (have e_:=V2.inv;subst e_)
 have ZP:=hG K λa o e=>e;refine⟨ZP.lim _ λa o e=>S2.frozen a o (S2.base a o e),?_⟩;have b8:=S2.toL;rw[hq];refine aAh (Y:=(z.locals,.ns a6)::(gl++Y)) hc Zi (KP _ (LJ _ hP)) b8 λf H vs t j Z3 r X3 hz hd hr=>?_;have YH:=NX (M:=Ly ab w) (dK r.base r.frozen) ZG;refine YH A _ _ j (λb o e=>e) ?_;intro h' Zl Zf;have Yk:eb.le (am ((f,H)::K)) Z3:=aFM r.base hz;have YK:∀a o,K.lookup a=Wu o->(am ((f,H)::K)) a=Wu o:=λa o e=>by
  unfold am;rw[Lu];by_cases q:a=f
  ·subst q
   have:=r.base _ _ e;rw[hz] at this;cases this
   simp
  ·have:(a==f)=Wx:=beq_eq_false_iff_ne.mpr q;exact(Eq.symm (this))▸e
 have b7:ca (am ((f,H)::K)) j Z3 ((z.locals,.ns a6)::(gl++Y)):=⟨Yk,r.frozen,r.nodup,r.apart,r.own,r.gnodup,r.bare⟩;have ZD:VS ((f,H)::K) (.ref f)=Ww:=by
  obtain⟨a1,a2,a3,a4⟩:=H;dsimp only at hd;subst hd;show kdsCode.match_1 (λO=>Bool) (PO f ((f,_)::K)) _ _=Ww;rw[Lu,beq_self_eq_true]
 have N1:=b7.newGen (nm:=.str (KX "<genexpr>") (j.toks+1)) (qn:=.str q (j.toks+1+1)) (a6:=WA) (gs:=.fresh (.compStart (cG d7 ap iter a5 i) 0 (.ref it) .none (VV a5 [] j.heap.objs.size (.ref f) bi z))) (tk:=j.toks+1+1+1) Zl Zf (λx=>by
   cases e:WA.lookup x with
   |some v =>
    refine aD (l x v e) λO1 O2=>?_;subst O1;clear O2;exact .any
   |none =>
    have hx:x≠(".0" : Str):=λe'=>by rw[e'] at e;rw[e] at YM;cases YM
    exact(Eq.symm (if_neg hx))▸.none) rfl rfl
 refine aD N1 λS4 X4=>?_;clear N1;refine VO ?_;have Ye:=ju.genexp (w:=w) (B:=am ((f,H)::K)) (N:=[]) (z:=VV a5 [] j.heap.objs.size (.ref f) bi z) (d7:=d7) (ap:=ap) (iter:=iter) (a5:=a5) (a9:=i) (it:=it) (k:=m) (m:=m) (J:=J) (W:=W) (a7:=bs.map AV.bool) (gl:=gl) (a6:=WA) (LK _) XN
  (λx v e=>(l x v e).2) n (by simp only[KR];exact hl) (wL λO=>rfl) (U _ _ f _ YK rfl ZD) (hI _ _) (Xx _) hJ
 have hit:=eg.gen (w:=w) (B:=am ((f,H)::K)) (N:=[]) (ap:=oM) (a:=h'.objs.size) (g:=j.gens.size) (hG _ YK) (λO O O O O O O O A Q E hq=>KN hq) (wL λO=>rfl) Ye;have P4:((h'.objs.size,el.gen j.gens.size (.fresh (.compStart (cG d7 ap iter a5 i) 0 (.ref it) .none (VV a5 [] j.heap.objs.size (.ref f) bi z))))::(j.heap.objs.size,el.ns WA)::(z.locals,el.ns a6)::(gl++Y)).Perm
   (((h'.objs.size,el.gen j.gens.size (.fresh (.compStart (cG d7 ap iter a5 i) 0 (.ref it) .none (VV a5 [] j.heap.objs.size (.ref f) bi z))))::(j.heap.objs.size,el.ns WA)::gl)++((z.locals,el.ns a6)::Y)):=NN _ (NN _ MT.symm)
 have YN:=S4.perm P4;simp only[cB P4] at X4;refine TK F.kind_any F.plain_any F.entry_any (F.args_any1 _) ?_;unfold Builtin.«any»;refine KI (m:=oneArg "any" _) (KN (KI (wpAny_pyIter_gen (YN.own _ (KJ ..)).1 (KN ⟨QK Su _,aIe (k:=m+3+1) ?_ bs _ ((z.locals,.ns a6)::Y) _ Z3 .nil hit YN λs5 Z5 S5 X5=>?_⟩))))
 ·exact⟨hA.h,by have:=hA.d;show A.depth+(m+3+1+1)<=_;omega,by have:=hA.u;show A.units+(m+3+1+1)<=_;omega⟩
 ·have b6:ca (am K) s5 Z5 ((z.locals,.ns a6)::Y):=⟨r.base.trans (X4.le.trans X5.le),S5.frozen,S5.nodup,S5.apart,S5.own,S5.gnodup,S5.bare⟩;have XV:=X1.trans X2;have a0:=(X3.trans X4).trans X5;simp only[bI (V:=⟨a6,gl++Y⟩)] at XV;have X:=XV.trans a0;have e:=bI (z:=z) (V:=⟨a6,Y⟩);dsimp only at e;simp only[<-e] at X;exact hQ (.bool (bs.any id)) _ s5 Z5 ⟨a6,Y⟩ h (l9 (V:=⟨a6,Y⟩) b6 S2.kinds S2.fn) (.bool _) X
def aAa{a:Type}(f:α->β)(h:α->a)(g:List α):(g.map f).zip (g.map h)=g.map λo=>(f o,h o):=by
 induction g with
 |nil=>rfl
 |cons x W d=>simp only[Le,Le,NH,d,Le]
def KG{K:Frag}{P:LP}(d:List Str)(f:α->AV)(t:α->Bool){gs:List α}{m:Nat}
  (hG:∀i,(∀a o,K.lookup a=Wu o->(am i) a=Wu o)->hW (am i)) (hm:5<=m) (S:dt A (m+10))
  (Q:((NF a9 (Mh [cG d7 ap iter a5 g] z)).all λx => !x.1)=Ww) (V:Mh [cG d7 ap iter a5 g] z=(Wx,ME (cG d7 ap iter a5 g) z)::Mh [] z)
  (H:a5.isCoroutine=Wx) (s:Sb a5 z=Nb []) (u:(a5.names.all λx=>decide (x.2 ≠ .cell))=Ww) (h0:a5.names.lookup (".0" : Str)=Wu NameKind.local) (k:a5.kind=.function) (r:∀x,genFold iter z x=Nb x)
  (hc:z.code=.ref c) (W:lz K c P=Ww) (hq:z.qual ++ "<genexpr>" = q) (M:Mi K ⟨ab,w.params⟩ (builtinsFor z.globals z.builtins)=Wu bi)
  (Z:(d.all λx=>decide (a5.names.lookup x=Wu .local))=Ww) (U:d.contains (".0" : Str)=Ww)
  (hP:(P,dB q)∈Y)
  (n:T w A (am K) z Val (ME iter z) ⟨a6,Y⟩ λv fI=>v=.lst (gs.map f)/\fI=⟨a6,Y⟩)
  (j:∀(i:Frag) b C L,(∀a o,K.lookup a=Wu o->(am i) a=Wu o)->b=VV a5 [] L (.ref C) bi z->VS i (.ref C)=Ww->∀o∈gs,∀A,dt A m->∀Y,
   F1 w A (am i) b aQ (MM ap b) (f o) ⟨d.map λx=>(x,.any),Y⟩ λO N=>T w A (am i) b Val (ME d7 b) N λv E=>v=.bool (t o)/\E.led=Y/\fg E.loc (d.map λx=>(x,.any))=d.map λx=>(x,.any))
  (h:R (.bool ((gs.map t).any id)) ⟨a6,Y⟩):CA w A (am K) z a9 (.blt "any") [] [cG d7 ap iter a5 g] ⟨a6,Y⟩ R:=by
 have D:∀(l:List Str) x v,(l.map λx=>(x,AV.any)).lookup x=Wu v->v=.any/\x∈l:=by
  intro l;induction l with
  |nil=>intro x v h;cases h
  |cons y l G =>
   intro x v h;rw[Le,Lu] at h;by_cases e:x=y
   ·subst e;rw[beq_self_eq_true,MK] at h;exact⟨h.symm,KJ ..⟩
   ·have:(x==y)=Wx:=beq_eq_false_iff_ne.mpr e;rw[this] at h;exact⟨(G x v h).1,KP _ (G x v h).2⟩
 have F:∀(l:List Str) x,x∈l->((l.map λx=>(x,AV.any)).lookup x).isSome=Ww:=by
  intro l;induction l with
  |nil=>intro x h;cases h
  |cons y l G =>
   intro x h;rw[Le,Lu];by_cases e:x=y
   ·subst e;simp
   ·have:(x==y)=Wx:=beq_eq_false_iff_ne.mpr e;exact(Eq.symm (this))▸G x ((KZ.mp h).resolve_left e)
 refine aKA (WA:=d.map λx=>(x,.any)) hG hm S Q V H s (λy hy=>by have:=LS.mp u y hy;simpa using this) h0 k r hc W hq M hP n (bs:=gs.map t) (J:=λl=>fg l (d.map λx=>(x,.any))=d.map λx=>(x,.any)) (by simp only[KR,KR]) (λx v e=>?_) (F d _ (by simpa using U)) (Ir _) (λi b C L hK e hk p X a6 hJ A S Y=>?_) h
 ·refine aD (D d x v e) λO1 hx=>?_;subst O1;exact⟨rfl,by have:=LS.mp Z x hx;simpa using this⟩
 ·simp only[MN,aAa] at X;exact(LG.mp X).elim λo q=>q.2▸F1.fit hJ (j i b C L hK e hk o q.1 A S Y)
end
abbrev kI:Str:=Gn
abbrev kD:Str:=Go
abbrev kR:Str:=Gp
abbrev kE:Str:=Gm
def aEz(a b c d:Value):TA "dict" ⟨[],[(kI,a),(kD,b),(kR,c),(kE,d)]⟩=Nb ():=@_
def aEA(a b c d:Value):Rp "dict.__new__" ⟨[.type "dict"],[(kI,a),(kD,b),(kR,c),(kE,d)]⟩=Nb ():=@_
def aEC(x a b c d:Value):Oo "dict.__init__" ⟨[x],[(kI,a),(kD,b),(kR,c),(kE,d)]⟩:=by
 unfold Oo;rw[signature?_of (id := "dict.__init__") (n:=['_','_','t','i','n','i','_','_']) (o:=['t','c','i','d']) @_ F.owner_dict];kernel_rfl
def aEB(a:List (Str×Value))(j:Rp "dict.__new__" ⟨[.type "dict"],a⟩=Nb ())(h:Q₁ (.ref s.heap.objs.size) {s with heap:=s.heap.push {cls:=.type "dict",data:=.dict #[]} }):PA (Ly ab w) A (.call (.builtin "dict.__new__") ⟨[.type "dict"],a⟩) (wants Q₁ E) s:=by
 refine Nj F.kt_plain_dict_new F.kt_entry_dict_new (Mo j ?_);have e:=F.kt_sub_dict;have i:=F.kt_mro_dict;obtain⟨l,g,d,k,os⟩:=s;unfold Builtin.«dict.__new__»;wp_walk
 exact h
def aHK{T i d:String}(k:TypeCalled T i d)
  (Y:TA T ⟨[],b⟩=Nb ()) (l:PW table d=Wu q)
  (p:PA (Ly ab w) A.in1 (.call (.builtin i) ⟨[.type T],b⟩) (wants Q₁ E) s)
  (n:∀a c5,Q₁ a c5->c5.TypeIs a T/\Oo d ⟨[a],b⟩ /\
   LC (Ly ab w) A.in1.in1 (q ⟨[a],b⟩)
    (λG s'=>match G with |.done f=>wants (λr o=>r=.none/\Q a o) E (.ok f) s' |.again R=>R.quiet=Ww/\PA (Ly ab w) A.in1 R (wants (λr o=>r=.none/\Q a o) E) s')
    (λe s'=>wants (λr o=>r=.none/\Q a o) E (.error e) s') c5):LC (Ly ab w) A (call (.type T) [] b) Q E s:=by
 refine oK k.mro λc t K=>?_;have y:=k.made;have J:=k.sub;refine NB (SM ?_);show LC _ _ (TW (.type T) _) _ _ _;refine KN ⟨Tc _ (by decide +kernel),NQ F.entry_type_call ?_⟩;rw[Around.under_plain (weight_type_call_type T [] b) rfl];have H:=k.notType;have D:=k.canCreate;repeat (any_goals (first |assumption |wp_step))
 refine codeAny_mono p λr c5 v=>?_;cases r with
 |error e=>exact v
 |ok h =>
  cases h with
  |ret a =>
   refine jI (n _ _ v) λg x u=>?_;have W:=k.init.lookup;have Z:=k.init.bind a;repeat (any_goals (first |assumption |wp_step))
   refine codeAny_mono (Nj k.init.plain l (k.init.check _ _ _ _ _ _ _ _ g x u)) λV o j=>?_;cases V with
   |error e=>exact j
   |ok z =>
    cases z with
    |ret r =>
     refine aD j λm C=>?_;clear j;subst m;repeat (any_goals (first |assumption |wp_step))
    |_=>exact j.elim
  |_=>exact v.elim
def aBa{k:Str}{v:Value}:(stored b k v).length<=b.length+1:=by
 unfold stored;split
 ·rw[KR];exact Pp _
 ·exact Oz Lb
def aIb{m l:Nat}(h:n+(l+1)<=k)(h':m<=n+1):m+l<=k:=Mc (OK h' l) (Mc (Oz (Qi n 1 l)) h)
def aIl(L:List (Str×Value)):∀(i:List (Str×Value)) (s:KY) (Q:Unit->KY->Prop),(∀p∈L,p.1.length<=LY)->i.length+L.length<=LY->s.heap.DictOf (LM ab w) a i->LL a h0 s.heap ->
  (∀h' tk,h'.DictOf (LM ab w) a (L.foldl (λm p=>stored m p.1 p.2) i)->LL a h0 h'->Q () {s with heap:=h',toks:=tk})->LC (Ly ab w) A (Rk a L) Q E s:=by
 unfold Rk;intro i s Q r n u o y;refine KI ?_;have j:∀h' tk,h'.DictOf (LM ab w) a (L.foldl (λm p=>stored m p.1 p.2) i)->LL a h0 h'->(fun(_:PUnit) l=>LC (Ly ab w) A (Nb ()) Q E l) () {s with heap:=h',toks:=tk}:=λh' tk d e=>KN (y h' tk d e);generalize (fun(_:PUnit) l=>LC (Ly ab w) A (Nb ()) Q E l)=V at j ⊢;clear y Q;induction L generalizing i s with
 |nil=>exact KN (j s.heap s.toks u o)
 |cons p L G =>
  obtain⟨k,v⟩:=p;rw[QD];refine KI (KI (Nu (x:=k) (hx:=r (k,v) (KJ ..)) (KI ?_)));refine wpAny_dictSet_pairs (hsz:=Mc (Ow ..) n) (k:=k) (knd:=LM ab w) (by simp[LM,SN]) u λR K z=>?_;exact KN (G _ _ (λq J=>r q (KP _ J)) (aIb n aBa) K (o.trans z) j)
def aHI
  (h:∀h' tk,h'.DictOf (LM ab w) s.heap.objs.size [(kI,g),(kD,f),(kR,c),(kE,b)]->LL s.heap.objs.size (s.heap.push {cls:=.type "dict",data:=.dict #[]}) h'->Q (.ref s.heap.objs.size) {s with heap:=h',toks:=tk}):LC (Ly ab w) A (call (.type "dict") [] [(kI,g),(kD,f),(kR,c),(kE,b)]) Q E s:=by
 refine aHK (Q₁:=λi c5=>i=.ref s.heap.objs.size/\c5={ s with heap:=s.heap.push {cls:=.type "dict",data:=.dict #[]} }) F.kt_called_dict (aEz _ _ _ _) F.entry_dict_init (aEB _ (aEA _ _ _ _) ⟨rfl,rfl⟩) ?_;intro i c5 o;refine aD o λl k=>?_;clear o;subst l;subst k;have a:(s.heap.push {cls:=.type "dict",data:=.dict #[]}).DictOf (LM ab w) s.heap.objs.size []:=SX s.heap;refine⟨a.typeIs,aEC _ _ _ _ _,?_⟩;unfold Builtin.«dict.__init__»;refine KI ?_;unfold Builtin.Dict.selfAndRest;refine KI (Wf a.typeIs ?_);show LC _ _ (Nb (s.heap.objs.size,[])) _ _ _;refine KN ?_;show LC _ _ (Rk s.heap.objs.size [(kI,g),(kD,f),(kR,c),(kE,b)]>>=λO=>ret .none) _ _ _;refine KI ?_;refine aIl (h0:=s.heap.push {cls:=.type "dict",data:=.dict #[]}) _ [] _ _ (λp n=>?_) (by show 4<=_;rw[Mz];decide) a (.refl _ _) λh' tk d e=>KN ⟨rfl,h h' _ (show h'.DictOf (LM ab w) _ [(kI,g),(kD,f),(kR,c),(kE,b)] from d) e⟩;have j:∀x:Str,x.length<=20->x.length<=LY:=λx h=>Mc h (by rw[Mz];decide);simp only[KZ,MU,or_false] at n;rcases n with rfl |rfl |rfl |rfl
 ·exact j kI ⋯
 ·exact j kD ⋯
 ·exact j kR ⋯
 ·exact j kE ⋯
def aIK{q1 q2 q3 q4:Pos}{G y p l:Nat}
  (hc:ME (.Call (.Name x px) [] [⟨Wu kI,.Constant (.str m) G D,q1⟩,⟨Wu kD,.Constant (.str g) y C,q2⟩,⟨Wu kR,.Constant (.str f) p t,q3⟩,⟨Wu kE,.Constant (.str c) l q,q4⟩] a9) z =
   (do QZ a9 (← ME (.Name x px) z) [] (NF a9 (Mh [] z)) (QL a9 (PH [⟨Wu kI,.Constant (.str m) G D,q1⟩,⟨Wu kD,.Constant (.str g) y C,q2⟩,⟨Wu kR,.Constant (.str f) p t,q3⟩,⟨Wu kE,.Constant (.str c) l q,q4⟩] z))))
  (hx:bh B x (.typ "dict")) (hk:z.kindOf x=Wu .globalImplicit) (hg:z.globals=ML) (L:z.builtins=Nt) (hd:(x==("__debug__" : Str))=Wx)
  (h:∀d,d∉keys Y->R (.ref d) ⟨a6,(d,aA (LM ab w) [(kI,.str m),(kD,.str g),(kR,.str f),(kE,.str c)])::Y⟩):T w A B z Val (ME (.Call (.Name x px) [] [⟨Wu kI,.Constant (.str m) G D,q1⟩,⟨Wu kD,.Constant (.str g) y C,q2⟩,⟨Wu kR,.Constant (.str f) p t,q3⟩,⟨Wu kE,.Constant (.str c) l q,q4⟩] a9) z) ⟨a6,Y⟩ R:=λs Z S Q E hQ=>by
 rw[hc];refine KI (oC (K:=λv W=>v=.typ "dict" /\ W=⟨a6,Y⟩) hx hk hg L hd ⟨rfl,rfl⟩ s Z S _ _ λv u c5 J fI a S1 V1 X1=>?_);refine aD a λO1 O2=>?_;clear a;subst O1;subst O2
 (have e_:=V1.inv;subst e_)
 unfold QZ;have sz:∀n,n<10->n<=LY:=λn h=>by rw[Mz];omega
 refine KI (Lh (evalArgs_kw_nil rfl ?_));show LC (Ly ab w) A (evalAll [(do let v <-ME (.Constant (.str m) G D) z;PM a9;Nb v),(do let v <-ME (.Constant (.str g) y C) z;PM a9;Nb v),(do let v <-ME (.Constant (.str f) p t) z;PM a9;Nb v),(do let v <-ME (.Constant (.str c) l q) z;PM a9;Nb v)]) _ E c5;refine RY (KI (NK (KI (LN (KN ?_)))));refine RY (KI (NK (KI (LN (KN ?_)))));refine RY (KI (NK (KI (LN (KN ?_)))));refine RY (KI (NK (KI (LN (KN ?_)))));refine wpAny_evalAll_nil ?_;refine KI (LN (KI (KN ?_)));have M:∀s2:KY,ff B z s2 J ⟨a6,Y⟩->hO (ay z ⟨a6,Y⟩) s Z s2 J (ay z ⟨a6,Y⟩)->∀u1 u2 u3 X:Tok,
   LC (Ly ab w) A (call (.type "dict") [] [(kI,.str m u1),(kD,.str g u2),(kR,.str f u3),(kE,.str c X)]) (λr s'=>LC (Ly ab w) A (do Ol [r] point;Nb r) Q E s') E s2:=λs2 k N u1 u2 u3 X=>by
  refine aHI λh' tk H j=>?_;have keep:∀b o,s2.heap.get? b=Wu o->h'.get? b=Wu o:=λb o e=>j.extBut b o (MA (Mf e)) (Ld _ e);have U:=k.toca.push (o:={ cls:=.type "dict",data:=.dict #[]}) (ao:=aA (LM ab w) []) rfl s2.toks (rG (s:={ s2 with heap:=s2.heap.push {cls:=.type "dict",data:=.dict #[]} }) (SX s2.heap) .nil);have P:=U.1.upd (a8:=(s2.heap.objs.size,aA (LM ab w) [(kI,.str m),(kD,.str g),(kR,.str f),(kE,.str c)])::Y) .here (h':=h') (tk:=tk) (λb ob L e=>(j.2 b L).trans e) rfl rfl
   (rG (s:={ s2 with heap:=h',toks:=tk}) H (.cons (.str _ _) (.cons (.str _ _) (.cons (.str _ _) (.cons (.str _ _) .nil)))))
  have F:s2.heap.objs.size∉keys Y:=k.toca.lfresh;refine KI (Lh (Sf (KN (hQ (.ref s2.heap.objs.size) _ _ J _ (h _ F) (k.after P.1 (U.2.trans P.2)) (.ref _) (N.trans ((U.2.trans P.2).toF (V:=⟨a6,Y⟩)))))))
 have k:=S1.toks (c5.toks+1+1+1+1);have N:=X1.trans (hO.toks (d9:=ay z ⟨a6,Y⟩) (s:=c5) (Z:=J) (c5.toks+1+1+1+1));have i:=M _ k N c5.toks (c5.toks+1) (c5.toks+1+1) (c5.toks+1+1+1);exact KI i
def yi(i j:Nat)(W:List Ln):AV.lst (((W.map AV.ln).drop i).take (j-i))=.lst ((bW W i j).map AV.ln):=by unfold bW;rw[Uw,List.map_drop]
def yh{W:List Ln}{y:Ln}(h:y∈bW W i j):y∈W:=Vd (SB h)
section
variable(a b:List Ln)(n:Nat)
abbrev fS(s y x v u r p o l k j i e d:AV:=.any):List (Str×AV):=[(pf,.str sE),(jT,.int n),(ph,.str sE),(pi,.str sE),(pj,.str sE),(pn,.str sE),(dG,.lst (b.map .ln)),(dT,.lst (a.map .ln)),
  (pr,y),(tF,x),(tE,v),(tD,u),(tC,r),(tB,p),(tA,o),(lY,l),(mf,k),(mc,j),(me,i),(lZ,e),(pe,d),(tG,s)]
def JU(gs:List (List Op))(P:St->List AV->Prop):Prop:=∀s,(∀g∈gs,sg a.length b.length g)->P ⟨fS a b n (.bool s),[]⟩ ((gq a b s gs).map aC)
def KU(g:List Op)(gs:List (List Op))(Y:aa)(P:St->List AV->Prop):Prop:=P ⟨fS a b n (.bool Ww) (ce g),Y⟩ ((wn a b g++gq a b Ww gs).map aC)
end
def JV(f:Op->List (Option Str))(L:List (Str×AV))(Y:aa)(g:List Op)(rest:List (Option Str))(os:List Op)(P:St->List AV->Prop):Prop:=(∀o∈os,o∈g)->P ⟨L,Y⟩ ((os.flatMap f++rest).map aC)
def mj(a:List Ln)(o:Op):List (Option Str):=if o.tag=cN\/o.tag=cZ then (bW a o.i1 o.i2).map (cj (FU ++ ·)) else []
def kt(b:List Ln)(o:Op):List (Option Str):=if o.tag=cN\/o.tag=cY then (bW b o.j1 o.j2).map (cj (FS ++ ·)) else []
section
variable{a b:List Ln}{R:List (Option Str)}{o:Op}{h:List Op}
def aCM(c:o.tag=aT):((o::h).flatMap (fy a b)++R).map aC=((bW a o.i1 o.i2).map (cj (FV ++ ·))).map aC++(h.flatMap (fy a b)++R).map aC:=by
 rw[OB,LH,show fy a b o=(bW a o.i1 o.i2).map (cj (FV ++ ·)) from if_pos c,LD]
def aCK(c : ¬ o.tag=aT):((o::h).flatMap (fy a b)++R).map aC=(mj a o++(kt b o++(h.flatMap (fy a b)++R))).map aC:=by
 rw[OB,LH,show fy a b o=mj a o++kt b o from if_neg c,LH]
def aCP(c:o.tag=cN\/o.tag=cZ):(mj a o++R).map aC=((bW a o.i1 o.i2).map (cj (FU ++ ·))).map aC++R.map aC:=by unfold mj;rw[if_pos c,LD]
def aCQ(c : ¬ (o.tag=cN\/o.tag=cZ)):(mj a o++R).map aC=R.map aC:=by unfold mj;rw[if_neg c];rfl
def aCN(c:o.tag=cN\/o.tag=cY):(kt b o++R).map aC=((bW b o.j1 o.j2).map (cj (FS ++ ·))).map aC++R.map aC:=by unfold kt;rw[if_pos c,LD]
def aCO(c : ¬ (o.tag=cN\/o.tag=cY)):(kt b o++R).map aC=R.map aC:=by unfold kt;rw[if_neg c];rfl
end
def sg.at0{d a:Nat}(h:sg d a g):(g.map aU)[(0:Int).toNat]?=Wu (be (aJ g)):=by
 cases g with
 |nil=>exact absurd rfl h.ne
 |cons o os=>rfl
def sg.atL{d a:Nat}(h:sg d a g):∃os:List Op,g.map aU=os.map aU++[be (aF g)]/\(os.map aU).length<10^9:=by
 refine al h.last λos e=>?_;refine cL os ((congrArg (List.map aU) e).trans LD) ?_
 have:=h.len;rw[e,Lb,Np] at this;rw[KR];omega
section
variable{N:aa}{F:List LP}{M:List Bi}
def BW{b:List Stmt}{m:Nat}{c q M J:Str}{f p G e d s r g t o E:Pos}{L:AV->List (Str×AV)}{l:aa}{W:List Ln}{rest:List AV}{K:dr->St->List AV->Prop}(H:5<=m)(U:z.frame=Wu z.locals)
  (hx:z.kindOf x=Wu .local) (F:∀u v,bM (L u) x v=L v) (hc:c.length<=10)
  (q0:∀A l',A.handled=Wv->∀ {K:AV->St->Prop},K (.lst (W.map .ln)) ⟨L u,l'⟩->T w A B z Val (ME (.Name q G) z) ⟨L u,l'⟩ K)
  (q1:∀A l',A.handled=Wv->∀ {K:AV->St->Prop},K (.int i) ⟨L u,l'⟩->T w A B z Val (ME (.Name M e) z) ⟨L u,l'⟩ K)
  (q2:∀A l',A.handled=Wv->∀ {K:AV->St->Prop},K (.int j) ⟨L u,l'⟩->T w A B z Val (ME (.Name J d) z) ⟨L u,l'⟩ K)
  (q3:∀A l' y,A.handled=Wv->∀ {K:AV->St->Prop},K (.ln y) ⟨L (.ln y),l'⟩->T w A B z Val (ME (.Name x p) z) ⟨L (.ln y),l'⟩ K)
  (V:i<=j) (P:j<=W.length) (hl:W.length<=10^6) (R:∀y,Wu (Wu y)∈W->y.length<10^4) (X:∀v,TG w B N n m z (execs b z) ⟨L v,l⟩ rest K)
  (C:∀v,NP (.Subscript (.Name q G) (.Slice (Wu (.Name M e)) (Wu (.Name J d)) Wv s) r) z v=Nb v) (Z:z.scope.isCoroutine=Wx) (S:PV z=Wx):TG w B N n m z (execs (.For (.Name x f) (.Subscript (.Name q G) (.Slice (Wu (.Name M e)) (Wu (.Name J d)) Wv s) r) [.Expr (.Yield (Wu (.BinOp (.Constant (.str c) k g) .Add (.Name x p) t)) o) E] [] a9::b) z) ⟨L u,l⟩ (((bW W i j).map (cj (c ++ ·))).map aC++rest) K:=BV H hx F
  (λA a Y hN=>aIP (λO O=>rfl) (q0 _ _ a.h (q1 _ _ a.h (q2 _ _ a.h ⟨_,i,j,.frz,rfl,rfl,V,by rw[KR];exact P,by rw[KR,Mz];omega,yi .. ▸ .mk⟩))))
  (λA a l' O y Q=>JK (BY (q3 _ _ _ a.h (sb (by have:=R y (yh Q);omega) .mk))))
  (λA a g4 l' O hf D y Q=>BP (BY (q3 _ _ _ a.h (CF Q a.h D U rfl))))
  X C Z S
end
def Jy{o:Expr}{d:Pos}{a b:List Ln}{l:aa}{J:List AV->St->List AV->Prop}
  (u:dt A 150) (R:n<10^5) (c:a.length<10^5) (Z:b.length<200) (j:(bf (aY a b) (0,a.length,0,b.length)).length<2)
  (i:QM o kl z (ME o z)=ME o z)
  (k:((NF a9 (Mh args z)).all (λx => !x.1)&&(QL a9 (PH [] z)).all (λx=>x.1.isSome)
   && decide (args.length+([]:List QE).length+(if ([]:List QE).isEmpty then 0 else 1)<30))=Ww)
  (e:(d.endLine==a9.line)=Ww)
  (Q:∀K,FC w A (af w) z (.ref 242) [.none,.lst (a.map .ln),.lst (b.map .ln)] [] ⟨a6,l++Y⟩ K->T w A (af w) z Val (ME o z) ⟨a6,l++Y⟩ K)
  (W:∀v a8 K,FC w A (af w) z (.ref 218) [v,.int n] [] ⟨a6,a8⟩ K->CA w A (af w) z a9 (.ref 218) [v] args ⟨a6,a8⟩ K)
  (V:J ((cF n (cJ (bb (aY a b) a.length b.length))).map ce) ⟨a6,l⟩ a7):T w A (af w) z Val (ME (.Call (.Attribute o kl d) args [] a9) z) ⟨a6,l++Y⟩ λv fI=>F1 w A (af w) z Val Pz v fI (WZ w (af w) N 104 (.Name x m) Y J a7):=jD (K:=KB w.params) (C:=242) (f:=218) i k e (bd _) @_ @_ (Q _ (ge (aDO (u.mono ⋯) Z) (aDQ λE h G pp y s r =>
  Xo.mk (KJ ..) @_ (W _ _ _ (Kr (nt:=bR w E h G pp a b y .none .none []++(l++Y)) (.refl _) (aFw (N:=N) (u.mono ⋯) R c ⋯ j s r) (ol.elim λF t q D p =>
   cL _ (vi.refl _) (KD (bq w) p (wL λO=>rfl) λg => .mk (g _ _) V)))))))
def Dg{a b:List Ln}(hn:n<10^5)(ha:a.length<10^5)(hb:b.length<200)
  (Z:∀x,Wu (Wu x)∈a->x.length<10^4) (H:∀x,Wu (Wu x)∈b->x.length<10^4) (S:∀x,a.head?=Wu x->az x=Wx) (M:∀x,b.head?=Wu x->az x=Wx) (Y:(bf (aY a b) (0,a.length,0,b.length)).length<2):TG w (af w) N 153 150 (av (ak (ej w.params)) L 261 260) (execs (aI (aq 7)) (av (ak (ej w.params)) L 261 260)) ⟨fS a b n,[]⟩ ((gq a b Wx (cF n (cJ (bb (aY a b) a.length b.length)))).map aC) λO O R=>R=[]:=by
 have z:=fun(A:Lk) (E:A.handled=Wv)=>(((((((gk w A (ak (ej w.params)) L 261 260 @_ @_ E).g (wu w) @_ @_).g (Ic w) @_ @_).g (aFF w) @_ @_).f (f:=283) (bw @_)).f (f:=253) (bw @_)).f (f:=242) (bw @_)).m ⟨Ge,0, "str.format"⟩ iY sP RJ;refine bK [] (λr d a8 e=>aN (z r d.h) 20 .mk) ?_;refine bK [] (λr d a8 e=>aN (z r d.h) 40 (ax.mk (iA (IT (d.mono ⋯) S M ⋯ ⋯) .mk))) ?_;refine bK [] (λr d a8 e=>aN (z r d.h) 20 .mk) ?_;have Q:=HP a b n ha;refine jA (k:=104) ce (JU a b n) ⋯ ?_ ?_ (λO O=>bv rfl) (λO=>@_)
 ·intro r d a8 e;exact Jy (l:=[]) (d.mono ⋯) hn ha hb Y @_ @_ @_ (λO h=>ae (z r d.h) 40 (ax.mk h)) (λO O O h=>dd @_ (bw @_) (aO (z r d.h) 20 h)) (.mk (λO y=>y Wx Q) @_)
 ·intro G g D s Q;have V:=Q g (KJ ..);have q:=λg' U=>Q g' (KP _ U);clear Q;refine .mk (λr d a8 e=>bQ (aW rfl rfl)) ?_;refine fJ (KU a b n g D G) (fZ (p:=s=Wx) (λr d a8 e=>aV (z r d.h) 20 ⟨rfl,by cases s <;> decide⟩) (λc=>?_) λc=>?_) ?_
  ·subst c;refine bK G (λr d a8 e=>aN (z r d.h) 20 .mk) ?_;refine bK G (λr d a8 e=>aN (z r d.h) 20 (ax.mk (sc ⋯ (gu .mk)))) ?_;refine bK G (λr d a8 e=>aN (z r d.h) 20 (ax.mk (sc ⋯ (gu .mk)))) ?_;refine gH G (λr d a8 e=>ae (z r d.h) 20 (ax.mk (Kp ⋯ ⋯ ⋯ .mk))) ?_ @_ @_;refine gH G (λr d a8 e=>ae (z r d.h) 20 (ax.mk (aJD ⋯ ⋯ ⋯ .mk))) ?_ @_ @_;exact bv (m0 (λO y=>y) @_)
  ·cases s with
   |true=>exact bv (m0 (λO y=>y) @_)
   |false=>exact absurd rfl c
  ·have Zy:=V.ii;have Zx:=V.jj;refine aD V.i2 λZq Ym=>?_;refine ag V.atL λF eL nL=>?_;refine bK G (λr d a8 e=>aN (z r d.h) 40 (ax.mk (aE .frz ⋯ ⋯ (x:=be (aJ g)) V.at0 (ax.mk (xl (W:=F.map aU) (x:=be (aF g)) .frz eL nL .mk))))) ?_;refine bK G (λr d a8 e=>aN (z r d.h) 40 (ax.mk (dS ⋯ ⋯ (x:=.int (aJ g).i1) rfl (ax.mk (dS ⋯ ⋯ (x:=.int (aF g).i2) rfl (ax.mk (iA (Em (d.mono ⋯) ⋯ ⋯ ⋯) .mk))))))) ?_;refine bK G (λr d a8 e=>aN (z r d.h) 40 (ax.mk (dS ⋯ ⋯ (x:=.int (aJ g).j1) rfl (ax.mk (dS ⋯ ⋯ (x:=.int (aF g).j2) rfl (ax.mk (iA (Em (d.mono ⋯) ⋯ ⋯ ⋯) .mk))))))) ?_;have r1:=Eo (a:=(aJ g).i1) (b:=(aF g).i2) ⋯ ⋯ ⋯;have r2:=Eo (a:=(aJ g).j1) (b:=(aF g).j2) ⋯ ⋯ ⋯;refine gH G (λr d a8 e=>ae (z r d.h) 40 (ax.mk (aJH ⋯ ⋯ ⋯ .mk))) ?_ @_ @_;refine jA (k:=5) aU (JV (fy a b) (fS a b n (.bool Ww) (ce g) .any .any (be (aJ g)) (be (aF g)) (.str (ci (aJ g).i1 (aF g).i2)) (.str (ci (aJ g).j1 (aF g).j2))) G g (gq a b Ww D)) ⋯ (λr d a8 e=>ae (z r d.h) 20 (fc (k:=5) λit d5 hI => .mk (l:=G) hI (.mk (λO y=>y λo t=>t) @_))) ?_ (λO=>bv ?_) (λO=>@_);case refine_2=>exact .next (l:=[]) (.mk (λO y=>y Ww q) @_)
   intro d5 o os K;have t:=K o (KJ ..);have K:=λo' U=>K o' (KP _ U);have C:=V.i o t;have X:=V.j o t;refine .mk (λr d a8 e=>gf d.h @_ @_ @_ (em _ rfl _ _ rfl rfl rfl)) ?_;refine bP (fZ (p:=o.tag=aT) (λr d a8 e=>aV (z r d.h) 20 ⟨rfl,beq_iff_eq⟩) (λc=>?_) λc=>bv ?_)
   ·refine m4 (aCM c) ?_;refine BW (c:=FV) (W:=a) (i:=o.i1) (j:=o.i2) (L:=(λv=>fS a b n (.bool Ww) (ce g) .any .any (be (aJ g)) (be (aF g)) (.str (ci (aJ g).i1 (aF g).i2)) (.str (ci (aJ g).j1 (aF g).j2)) (.str o.tag) (.int (o.i1:Nat)) (.int (o.i2:Nat)) (.int (o.j1:Nat)) (.int (o.j2:Nat)) v)) (m:=150) ⋯ rfl ?_ ?_ ⋯ ?_ ?_ ?_ ?_ C.1 C.2 ?_ Z (λv=>?_) ?_ ?_ ?_
    ·kernel_rfl
    ·exact λu v=>@_
    ·exact λA J E {_} k=>ae (z A E) 5 k
    ·exact λA J E {_} k=>ae (z A E) 5 k
    ·exact λA J E {_} k=>ae (z A E) 5 k
    ·exact λA J y E {_} k=>ae (z A E) 5 k
    ·omega
    ·exact bP (Jw λr d a8 e=>Ju ⟨_,rfl,trivial,.cont (l:=G) (.mk (λO y=>y K) @_)⟩)
    ·exact λO=>@_
    ·kernel_rfl
    ·kernel_rfl
   ·refine m4 (aCK c) ?_;refine fJ (λP=>P ⟨fS a b n (.bool Ww) (ce g) .any .any (be (aJ g)) (be (aF g)) (.str (ci (aJ g).i1 (aF g).i2)) (.str (ci (aJ g).j1 (aF g).j2)) (.str o.tag) (.int (o.i1:Nat)) (.int (o.i2:Nat)) (.int (o.j1:Nat)) (.int (o.j2:Nat)),G++d5⟩ ((kt b o++(os.flatMap (fy a b)++gq a b Ww D)).map aC)) (fZ (p:=o.tag=cN\/o.tag=cZ) (λr d a8 e=>JT @_ @_ (ae (z r d.h) 20 (by exact fL o.tag rfl rfl (by rw[PL,beq_iff_eq,beq_iff_eq])))) (λc=>?_) λc=>m4 (aCQ c) (bv (m0 (λO y=>y) @_))) ?_
    ·refine m4 (aCP c) ?_;refine BW (c:=FU) (W:=a) (i:=o.i1) (j:=o.i2) (L:=(λv=>fS a b n (.bool Ww) (ce g) .any .any (be (aJ g)) (be (aF g)) (.str (ci (aJ g).i1 (aF g).i2)) (.str (ci (aJ g).j1 (aF g).j2)) (.str o.tag) (.int (o.i1:Nat)) (.int (o.i2:Nat)) (.int (o.j1:Nat)) (.int (o.j2:Nat)) v)) (m:=150) ⋯ rfl ?_ ?_ ⋯ ?_ ?_ ?_ ?_ C.1 C.2 ?_ Z (λv=>?_) ?_ ?_ ?_
     ·kernel_rfl
     ·exact λu v=>@_
     ·exact λA J E {_} k=>ae (z A E) 5 k
     ·exact λA J E {_} k=>ae (z A E) 5 k
     ·exact λA J E {_} k=>ae (z A E) 5 k
     ·exact λA J y E {_} k=>ae (z A E) 5 k
     ·omega
     ·exact bv (m0 (λO y=>y) @_)
     ·exact λO=>@_
     ·kernel_rfl
     ·kernel_rfl
    ·refine fJ (λP=>P ⟨fS a b n (.bool Ww) (ce g) .any .any (be (aJ g)) (be (aF g)) (.str (ci (aJ g).i1 (aF g).i2)) (.str (ci (aJ g).j1 (aF g).j2)) (.str o.tag) (.int (o.i1:Nat)) (.int (o.i2:Nat)) (.int (o.j1:Nat)) (.int (o.j2:Nat)),G++d5⟩ ((os.flatMap (fy a b)++gq a b Ww D).map aC)) (fZ (p:=o.tag=cN\/o.tag=cY) (λr d a8 e=>JT @_ @_ (ae (z r d.h) 20 (by exact fL o.tag rfl rfl (by rw[PL,beq_iff_eq,beq_iff_eq])))) (λc=>?_) λc=>m4 (aCO c) (bv (m0 (λO y=>y) @_))) (bv (.next (l:=G) (.mk (λO y=>y K) @_)));refine m4 (aCN c) ?_;refine BW (c:=FS) (W:=b) (i:=o.j1) (j:=o.j2) (L:=(λv=>fS a b n (.bool Ww) (ce g) .any .any (be (aJ g)) (be (aF g)) (.str (ci (aJ g).i1 (aF g).i2)) (.str (ci (aJ g).j1 (aF g).j2)) (.str o.tag) (.int (o.i1:Nat)) (.int (o.i2:Nat)) (.int (o.j1:Nat)) (.int (o.j2:Nat)) v)) (m:=150) ⋯ rfl ?_ ?_ ⋯ ?_ ?_ ?_ ?_ X.1 X.2 ?_ H (λv=>?_) ?_ ?_ ?_
     ·kernel_rfl
     ·exact λu v=>@_
     ·exact λA J E {_} k=>ae (z A E) 5 k
     ·exact λA J E {_} k=>ae (z A E) 5 k
     ·exact λA J E {_} k=>ae (z A E) 5 k
     ·exact λA J y E {_} k=>ae (z A E) 5 k
     ·omega
     ·exact bv (m0 (λO y=>y) @_)
     ·exact λO=>@_
     ·kernel_rfl
     ·kernel_rfl
def aAG{a b:List Ln}(r:dt A 200)(l:n<10^5)(p:a.length<10^5)(o:b.length<200)
  (i:∀x,Wu (Wu x)∈a->x.length<10^4) (e:∀x,Wu (Wu x)∈b->x.length<10^4) (k:∀x,a.head?=Wu x->az x=Wx) (j:∀x,b.head?=Wu x->az x=Wx) (d:(bf (aY a b) (0,a.length,0,b.length)).length<2):TC w A (af w) (.ref 261) [.lst (a.map .ln),.lst (b.map .ln),.str sE,.str sE,.str sE,.str sE,.int n,.str sE] [] Y
   (ol w (af w) N 153 ((gq a b Wx (cF n (cJ (bb (aY a b) a.length b.length)))).map aC) Y):=JN (m:=150) (fS a b n) (bq w) r.lt (λO O O O O O O O=>@_) @_ @_ (Il _) λL=>Dg l p o i e k j d
def Ij(w:Lz)(d:Frag)(h:∀a o,(KB w.params).lookup a=Wu o->(am d) a=Wu o):hW (am d):=⟨λs i=>⟨λO=>Wv,by
 have e:=i 2 _ (h 2 _ (show af w 2=Wu (boot_o_2 w.params) from @_));exact aJc _ (#[]) 0 e @_ (λO h=>by simp at h) (λO=>rfl),rfl⟩⟩
abbrev yu:Str:=⟨⟨[99,111,110,116,101,120,116,95,100,105,102,102,46,60,108,111,99,97,108,115,62,46,60,103,101,110,101,120,112,114,62]⟩⟩
abbrev fi:LP×el:=(271,dB yu)
def fR(t:Str):Str:=if t=cY then FQ else if t=cZ then FO else if t=cN then FN else FM
abbrev eP:List (Str×AV):=[(kI,.str FQ),(kD,.str FO),(kR,.str FN),(kE,.str FM)]
def tL(h:wT t):bo eP t=Wu (.str (fR t)):=by
 rcases h with rfl |rfl |rfl |rfl <;> rfl
def Gr(t:Str):(fR t).length=2:=by
 unfold fR;split
 ·rfl
 ·split
  ·rfl
  ·split <;> rfl
def wG:MF (.type "dict") "__getitem__" = Nb (Wu (.builtin "dict.__getitem__")):=F.slot_dict_getitem.lookup
def kZ(o:Op):Bool:=o.tag==cN||o.tag==cZ
def kY(o:Op):Bool:=o.tag==cN||o.tag==cY
def fA(a:List Ln)(o:Op):List (Option Str):=if o.tag=cY then [] else (bW a o.i1 o.i2).map (cj (fR o.tag ++ ·))
def fz(b:List Ln)(o:Op):List (Option Str):=if o.tag=cZ then [] else (bW b o.j1 o.j2).map (cj (fR o.tag ++ ·))
def ll(a:List Ln)(g:List Op):List (Option Str):=if (g.map kZ).any id then g.flatMap (fA a) else []
def gA(b:List Ln)(g:List Op):List (Option Str):=if (g.map kY).any id then g.flatMap (fz b) else []
abbrev DJ:Str:=FK
def oo(a b:List Ln)(g:List Op):List (Option Str):=Wu (DJ++sE)::Wu (wx (cr (aJ g).i1 (aF g).i2) sE)::(ll a g++Wu (lq (cr (aJ g).j1 (aF g).j2) sE)::gA b g)
def Bf:List (Option Str):=[Wu (Br sE sE sE),Wu (rC sE sE sE)]
def eN(a b:List Ln):Bool->List (List Op)->List (Option Str)
 |_,[]=>[]
 |started,g::d=>(if started then [] else Bf)++(oo a b g++eN a b Ww d)
section
variable{a b:List Ln}{R:List (Option Str)}{g h:List Op}{o:Op}
def aFq:(oo a b g++R).map aC=.str (DJ++sE) :: .str (wx (cr (aJ g).i1 (aF g).i2) sE)::(ll a g++(Wu (lq (cr (aJ g).j1 (aF g).j2) sE)::(gA b g++R))).map aC:=by
 unfold oo;rw[Lg,Lg,LH];rfl
def aFl(c:(g.map kZ).any id=Ww):(ll a g++R).map aC=(g.flatMap (fA a)++R).map aC:=by rw[show ll a g=_ from if_pos c]
def aFm(c : ¬ (g.map kZ).any id=Ww):(ll a g++R).map aC=R.map aC:=by rw[show ll a g=_ from if_neg c];rfl
def aFj(c:(g.map kY).any id=Ww):(gA b g++R).map aC=(g.flatMap (fz b)++R).map aC:=by rw[show gA b g=_ from if_pos c]
def aFk(c : ¬ (g.map kY).any id=Ww):(gA b g++R).map aC=R.map aC:=by rw[show gA b g=_ from if_neg c];rfl
def aCU(c:o.tag≠cY):((o::h).flatMap (fA a)++R).map aC=((bW a o.i1 o.i2).map (cj (fR o.tag ++ ·))).map aC++(h.flatMap (fA a)++R).map aC:=by rw[OB,LH,show fA a o=_ from if_neg c,LD]
def aCV(c : ¬ o.tag≠cY):((o::h).flatMap (fA a)++R).map aC=(h.flatMap (fA a)++R).map aC:=by rw[OB,LH,show fA a o=_ from if_pos (UK.mp c)];rfl
def aCR(c:o.tag≠cZ):((o::h).flatMap (fz b)++R).map aC=((bW b o.j1 o.j2).map (cj (fR o.tag ++ ·))).map aC++(h.flatMap (fz b)++R).map aC:=by rw[OB,LH,show fz b o=_ from if_neg c,LD]
def aCS(c : ¬ o.tag≠cZ):((o::h).flatMap (fz b)++R).map aC=(h.flatMap (fz b)++R).map aC:=by rw[OB,LH,show fz b o=_ from if_pos (UK.mp c)];rfl
end
section
variable(a b:List Ln)(n:Nat)(d:LP)(D:aa)
abbrev cV(s y x v u r p o l k j i e d:AV:=.any):List (Str×AV):=[(pf,.str sE),(jT,.int n),(ph,.str sE),(pi,.str sE),(pj,.str sE),(pn,.str sE),(dG,.lst (b.map .ln)),(dT,.lst (a.map .ln)),
  (pr,y),(tF,.any),(tE,.any),(tD,x),(tC,v),(tB,u),(tA,r),(lY,p),(mf,o),(mc,l),(za,k),(me,j),(lZ,i),(pe,e),(zb,d),(tG,s)]
def JC(gs:List (List Op))(P:St->List AV->Prop):Prop:=∀s,(∀g∈gs,sg a.length b.length g)->P ⟨cV a b n (.bool s) .any .any .any .any .any .any .any .any .any .any .any .any (.ref d),D⟩ ((eN a b s gs).map aC)
def KH(g:List Op)(gs:List (List Op))(Y:aa)(P:St->List AV->Prop):Prop:=P ⟨cV a b n (.bool Ww) (ce g) .any .any .any .any .any .any .any .any .any .any .any (.ref d),Y⟩ ((oo a b g++eN a b Ww gs).map aC)
abbrev nX(g:List Op)(p o l k j i e:AV:=.any):List (Str×AV):=cV a b n (.bool Ww) (ce g) (be (aJ g)) (be (aF g)) (.str (cr (aJ g).i1 (aF g).i2)) p o l k j i e .any (.ref d)
end
def IM{a b:List Ln}(XO:fi∈N)(hn:n<10^5)(ha:a.length<10^5)(hb:b.length<200)
  (Xr:∀x,Wu (Wu x)∈a->x.length<10^4) (Yl:∀x,Wu (Wu x)∈b->x.length<10^4) (ZJ:∀x,a.head?=Wu x->az x=Wx) (ZI:∀x,b.head?=Wu x->az x=Wx)
  (U:(bf (aY a b) (0,a.length,0,b.length)).length<2):TG w (af w) N 153 150 (av (ak (eh w.params)) L 276 275) (execs (aI (aq 9)) (av (ak (eh w.params)) L 276 275)) ⟨cV a b n,[]⟩ ((eN a b Wx (cF n (cJ (bb (aY a b) a.length b.length)))).map aC) λO O C=>C=[]:=by
 have E:=fun(A:Lk) (hh:A.handled=Wv)=>((((((((gk w A (ak (eh w.params)) L 276 275 @_ @_ hh).g (wu w) @_ @_).g (Ic w) @_ @_).g (aFG w) @_ @_).g (aFJ w) @_ @_).f (f:=283) (bw @_)).f (f:=268) (bw @_)).f (f:=242) (bw @_)).m ⟨Ge,0, "str.format"⟩ iY sP RJ;refine bK [] (λr e a8 z=>aN (E r e.h) 20 .mk) ?_;refine bK [] (λr e a8 z=>aN (E r e.h) 40 (ax.mk (iA (IT (e.mono ⋯) ZJ ZI ⋯ ⋯) .mk))) ?_;refine bP (dP λr e a8 z=>ir (aIK @_ (aFI w) @_ @_ @_ @_ λd hd=>aW rfl (.mk [(d,aA (LM ab w) eP)] ?_)) @_);refine bK [(d,aA (LM ab w) eP)] (λr e a8 z=>aN (E r e.h) 20 .mk) ?_;refine jA (k:=104) ce (JC a b n d [(d,aA (LM ab w) eP)]) ⋯ ?_ ?_ (λO O=>bv rfl) (λO=>@_)
 ·intro r e a8 z;exact Jy (l:=[(d,aA (LM ab w) eP)]) (e.mono ⋯) hn ha hb U @_ @_ @_ (λO h=>ae (E r e.h) 40 (ax.mk h)) (λO O O h=>dd @_ (bw @_) (aO (E r e.h) 20 h)) (.mk (λO y=>y Wx (HP a b n ha)) @_)
 ·intro gl g gs s M;have t:=M g (KJ ..);have Yo:=λg' h'=>M g' (KP _ h');clear M;refine .mk (λr e a8 z=>bQ (aW rfl rfl)) ?_;generalize hX:[(d,aA (LM ab w) eP)]++gl=X;have YE:(d,aA (LM ab w) eP)∈X:=hX▸KJ ..;refine fJ (KH a b n d g gs X) (fZ (p:=s=Wx) (λr e a8 z=>aV (E r e.h) 20 ⟨rfl,by cases s <;> decide⟩) (λc=>?_) λc=>?_) ?_
  ·subst c;refine bK X (λr e a8 z=>aN (E r e.h) 20 .mk) ?_;refine bK X (λr e a8 z=>aN (E r e.h) 20 (ax.mk (sc ⋯ (gu .mk)))) ?_;refine bK X (λr e a8 z=>aN (E r e.h) 20 (ax.mk (sc ⋯ (gu .mk)))) ?_;refine gH X (λr e a8 z=>ae (E r e.h) 20 (ax.mk (aJE ⋯ ⋯ ⋯ .mk))) ?_ @_ @_;refine gH X (λr e a8 z=>ae (E r e.h) 20 (ax.mk (Kp ⋯ ⋯ ⋯ .mk))) ?_ @_ @_;exact bv (m0 (λO y=>y) @_)
  ·cases s with
   |true=>exact bv (m0 (λO y=>y) @_)
   |false=>exact absurd rfl c
  ·have Zy:=t.ii;have Zx:=t.jj;refine aD t.i2 λZq Ym=>?_;refine ag t.atL λYS eL nL=>?_;have r1:=Ep (a:=(aJ g).i1) (b:=(aF g).i2) ⋯ ⋯ ⋯;have r2:=Ep (a:=(aJ g).j1) (b:=(aF g).j2) ⋯ ⋯ ⋯;refine m4 aFq ?_;refine bK X (λr e a8 z=>aN (E r e.h) 40 (ax.mk (aE .frz ⋯ ⋯ (x:=be (aJ g)) t.at0 (ax.mk (xl (W:=YS.map aU) (x:=be (aF g)) .frz eL nL .mk))))) ?_;refine gH X (λr e a8 z=>ae (E r e.h) 20 (ax.mk (eZ ⋯ .mk))) ?_ @_ @_;refine bK X (λr e a8 z=>aN (E r e.h) 40 (ax.mk (dS ⋯ ⋯ (x:=.int (aJ g).i1) rfl (ax.mk (dS ⋯ ⋯ (x:=.int (aF g).i2) rfl (ax.mk (iA (En (e.mono ⋯) ⋯ ⋯ ⋯) .mk))))))) ?_;refine gH X (λr e a8 z=>ae (E r e.h) 20 (ax.mk (aJG ⋯ ⋯ .mk))) ?_ @_ @_;refine fJ (λP=>P ⟨nX a b n d g,X⟩ ((Wu (lq (cr (aJ g).j1 (aF g).j2) sE)::(gA b g++eN a b Ww gs)).map aC)) (fZ (p:=(g.map kZ).any id=Ww) (λr e a8 z=>?_) (λc=>m4 (aFl c) ?_) λc=>m4 (aFm c) (bv (m0 (λO y=>y) @_))) ?_
   ·refine rR (wX @_ (ae (E r e.h) 5 (KG (K:=KB w.params) (c:=275) (P:=271) (q:=yu) [Gg,lY,za] aU kZ (gs:=g) (m:=100) (bi:=Nt) (Ij w) ⋯ (e.mono ⋯) @_ @_ @_ @_ @_ @_ @_ (λO=>@_) @_ @_ @_ @_ @_ @_ ?_ ?_ ?_ (gK ⟨rfl,Iff.rfl⟩)))) @_
    ·exact LJ _ (z _ XO)
    ·exact ae (E r e.h) 5 ⟨rfl,rfl⟩
    ·intro K' WC c' L' ZN Y S o Z d0 V D;subst Y;exact gf (vs:=[.str o.tag,.int o.i1,.int o.i2,.int o.j1,.int o.j2]) V.h @_ @_ @_ (em _ rfl _ _ rfl rfl (JE (λs X Q h=>kds_main X S h) @_ (ae (dY @_ @_ @_ @_ V.h) 5 ⟨o.tag,rfl,rfl,rfl,@_⟩)))
   ·refine jA (k:=5) aU (JV (fA a) (nX a b n d g) X g (Wu (lq (cr (aJ g).j1 (aF g).j2) sE)::(gA b g++eN a b Ww gs))) ⋯ (λr e a8 z=>ae (E r e.h) 20 (fc (k:=5) λit d5 hI => .mk (l:=X) hI (.mk (λO y=>y λo Z=>Z) @_))) ?_ (λO=>bv (m0 (λO y=>y) @_)) (λO=>@_);intro d5 o os J;have Z:=J o (KJ ..);have J:=λo' h'=>J o' (KP _ h');have hi:=t.i o Z;have R:(d,aA (LM ab w) eP)∈X++d5:=Mn _ YE;refine .mk (λr e a8 z=>gf e.h @_ @_ @_ (em _ rfl _ _ rfl rfl rfl)) ?_;refine fJ (λP=>P ⟨nX a b n d g .any (.str o.tag) (.int (o.i1:Nat)) (.int (o.i2:Nat)) (.int (o.j2:Nat)),X++d5⟩ ((os.flatMap (fA a)++(Wu (lq (cr (aJ g).j1 (aF g).j2) sE)::(gA b g++eN a b Ww gs))).map aC)) (fZ (p:=o.tag≠cY) (λr e a8 z=>aV (E r e.h) 20 ⟨rfl,bne_iff_ne⟩) (λc=>m4 (aCU c) ?_) λc=>m4 (aCV c) (bv (m0 (λO y=>y) @_))) (bv (.next (l:=X) (.mk (λO y=>y J) @_)));refine BV (W:=bW a o.i1 o.i2) (f:=λy=>fR o.tag++y) (L:=λv=>cV a b n (.bool Ww) (ce g) (be (aJ g)) (be (aF g)) (.str (cr (aJ g).i1 (aF g).i2)) .any (.str o.tag) (.int (o.i1:Nat)) (.int (o.i2:Nat)) (.int (o.j2:Nat)) .any .any v (.ref d)) ⋯ @_ (λu v=>@_) ?_ ?_ ?_ (λv=>bv (m0 (λO y=>y) @_)) (λO=>@_) @_ @_
    ·exact λr e a8 z=>Cc (ae (E r e.h) 5 (lC (ae (E r e.h) 5 (lC (ae (E r e.h) 5 ⟨a.map AV.ln,_,Wu ((o.i1:Nat):Int),Wu ((o.i2:Nat):Int),.frz,rfl,rfl,by rw[KR,Mz];omega,Gx _ _ hi.1,yi .. ▸ .mk⟩)))))
    ·exact λr e l' G y F=>ae (E r e.h) 20 ⟨.mk wG (lS (c_:=LM ab w) (m:=eP) (G _ R)),ax.mk (xm (c_:=LM ab w) (we o.tag) (G _ R) (tL (t.tg o Z)) (ax.mk (sb (by have:=Xr y (yh F);rw[Gr];omega) .mk)))⟩
    ·exact λr e Xm l' G Zz H y F=>BP (ae (E r e.h) 20 ⟨.mk wG (lS (c_:=LM ab w) (m:=eP) (G _ R)),ax.mk (xm (c_:=LM ab w) (we o.tag) (G _ R) (tL (t.tg o Z)) (ae (E r e.h) 5 (CF F e.h H rfl rfl)))⟩)
   refine bK X (λr e a8 z=>aN (E r e.h) 40 (ax.mk (dS ⋯ ⋯ (x:=.int (aJ g).j1) rfl (ax.mk (dS ⋯ ⋯ (x:=.int (aF g).j2) rfl (ax.mk (iA (En (e.mono ⋯) ⋯ ⋯ ⋯) .mk))))))) ?_;refine gH X (λr e a8 z=>ae (E r e.h) 20 (ax.mk (aJF ⋯ ⋯ .mk))) ?_ @_ @_;refine fJ (λP=>P ⟨nX a b n d g (.str (cr (aJ g).j1 (aF g).j2)),X⟩ ((eN a b Ww gs).map aC)) (fZ (p:=(g.map kY).any id=Ww) (λr e a8 z=>?_) (λc=>m4 (aFj c) ?_) λc=>m4 (aFk c) (bv (m0 (λO y=>y) @_))) (bv (.nextE hX (.mk (λO y=>y Ww Yo) @_)))
   ·refine rR (wX @_ (ae (E r e.h) 5 (KG (K:=KB w.params) (c:=275) (P:=271) (q:=yu) [Gg,lY,za] aU kY (gs:=g) (m:=100) (bi:=Nt) (Ij w) ⋯ (e.mono ⋯) @_ @_ @_ @_ @_ @_ @_ (λO=>@_) @_ @_ @_ @_ @_ @_ ?_ ?_ ?_ (gK ⟨rfl,Iff.rfl⟩)))) @_
    ·exact LJ _ (z _ XO)
    ·exact ae (E r e.h) 5 ⟨rfl,rfl⟩
    ·intro K' WC c' L' ZN Y S o Z d0 V D;subst Y;exact gf (vs:=[.str o.tag,.int o.i1,.int o.i2,.int o.j1,.int o.j2]) V.h @_ @_ @_ (em _ rfl _ _ rfl rfl (JE (λs X Q h=>kds_main X S h) @_ (ae (dY @_ @_ @_ @_ V.h) 5 ⟨o.tag,rfl,rfl,rfl,@_⟩)))
   ·refine jA (k:=5) aU (JV (fz b) (nX a b n d g (.str (cr (aJ g).j1 (aF g).j2))) X g (eN a b Ww gs)) ⋯ (λr e a8 z=>ae (E r e.h) 20 (fc (k:=5) λit d5 hI => .mk (l:=X) hI (.mk (λO y=>y λo Z=>Z) @_))) ?_ (λO=>bv (m0 (λO y=>y) @_)) (λO=>@_);intro d5 o os J;have Z:=J o (KJ ..);have J:=λo' h'=>J o' (KP _ h');have hi:=t.j o Z;have R:(d,aA (LM ab w) eP)∈X++d5:=Mn _ YE;refine .mk (λr e a8 z=>gf e.h @_ @_ @_ (em _ rfl _ _ rfl rfl rfl)) ?_;refine fJ (λP=>P ⟨nX a b n d g (.str (cr (aJ g).j1 (aF g).j2)) (.str o.tag) .any .any (.int (o.i2:Nat)) (.int (o.j1:Nat)) (.int (o.j2:Nat)),X++d5⟩ ((os.flatMap (fz b)++(eN a b Ww gs)).map aC)) (fZ (p:=o.tag≠cZ) (λr e a8 z=>aV (E r e.h) 20 ⟨rfl,bne_iff_ne⟩) (λc=>m4 (aCR c) ?_) λc=>m4 (aCS c) (bv (m0 (λO y=>y) @_))) (bv (.next (l:=X) (.mk (λO y=>y J) @_)));refine BV (W:=bW b o.j1 o.j2) (f:=λy=>fR o.tag++y) (L:=λv=>cV a b n (.bool Ww) (ce g) (be (aJ g)) (be (aF g)) (.str (cr (aJ g).i1 (aF g).i2)) (.str (cr (aJ g).j1 (aF g).j2)) (.str o.tag) .any .any (.int (o.i2:Nat)) (.int (o.j1:Nat)) (.int (o.j2:Nat)) v (.ref d)) ⋯ @_ (λu v=>@_) ?_ ?_ ?_ (λv=>bv (m0 (λO y=>y) @_)) (λO=>@_) @_ @_
    ·exact λr e a8 z=>Cc (ae (E r e.h) 5 (lC (ae (E r e.h) 5 (lC (ae (E r e.h) 5 ⟨b.map AV.ln,_,Wu ((o.j1:Nat):Int),Wu ((o.j2:Nat):Int),.frz,rfl,rfl,by rw[KR,Mz];omega,Gx _ _ hi.1,yi .. ▸ .mk⟩)))))
    ·exact λr e l' G y F=>ae (E r e.h) 20 ⟨.mk wG (lS (c_:=LM ab w) (m:=eP) (G _ R)),ax.mk (xm (c_:=LM ab w) (we o.tag) (G _ R) (tL (t.tg o Z)) (ax.mk (sb (by have:=Yl y (yh F);rw[Gr];omega) .mk)))⟩
    ·exact λr e Xm l' G Zz H y F=>BP (ae (E r e.h) 20 ⟨.mk wG (lS (c_:=LM ab w) (m:=eP) (G _ R)),ax.mk (xm (c_:=LM ab w) (we o.tag) (G _ R) (tL (t.tg o Z)) (ae (E r e.h) 5 (CF F e.h H rfl rfl)))⟩)
def aHe{a b:List Ln}(s:dt A 200)(l:fi∈N)(o:n<10^5)(r:a.length<10^5)(p:b.length<200)
  (i:∀x,Wu (Wu x)∈a->x.length<10^4) (e:∀x,Wu (Wu x)∈b->x.length<10^4) (k:∀x,a.head?=Wu x->az x=Wx) (j:∀x,b.head?=Wu x->az x=Wx)
  (d:(bf (aY a b) (0,a.length,0,b.length)).length<2):TC w A (af w) (.ref 276) [.lst (a.map .ln),.lst (b.map .ln),.str sE,.str sE,.str sE,.str sE,.int n,.str sE] [] Y
   (ol w (af w) N 153 ((eN a b Wx (cF n (cJ (bb (aY a b) a.length b.length)))).map aC) Y):=JN (m:=150) (cV a b n) (bq w) s.lt (λO O O O O O O O=>@_) @_ @_ (Ik _) λL=>IM l o r p i e k j d
def wN(a b:List Ln):Prop:=∃y,az y=Ww/\(a.head?=Wu y\/((∀x,a.head?=Wu x->az x=Wx)/\b.head?=Wu y))
def IU{a:List Ln}(j:dt A 20)(d:A.frames=Wu g4)(h:wN a b)(i:a.length<10^6)(l:b.length<10^6):jE w A (af w) "TypeError" g4 (.ref 283) [.lst (a.map .ln),.lst (b.map .ln),.str q,.str m,.str g,.str f,.str c] Y:=ag h λy e h=>h.elim (λk=>aHt j d k e i) λh=>aHs j d h.1 h.2 e i l
def aAF{a:List Ln}(h:wN a b)(r:a.length<10^6)(p:b.length<10^6):TG w (af w) N 153 150 (av (ak (ej w.params)) L 261 260) (execs (aI (aq 7)) (av (ak (ej w.params)) L 261 260)) ⟨fS a b n,[]⟩ [aC Wv] λO O e=>e=[]:=by
 have j:=fun(A:Lk) (l:A.handled=Wv)=>((gk w A (ak (ej w.params)) L 261 260 @_ @_ l).g (wu w) @_ @_).f (f:=283) (bw @_);refine bK [] (λi d a8 s=>aN (j i d.h) 20 .mk) ?_;refine bP (oB rfl λi d g4 Y u o k=>Jp (rO rfl rfl (ae (j i d.h) 5 ⟨bw @_,aO (j i d.h) 20 (Ks k rfl (IU (d.mono ⋯) o h r p) ⟨_,rfl⟩)⟩)) rfl rfl)
def aHd{a:List Ln}(h:wN a b)(r:a.length<10^6)(p:b.length<10^6):TG w (af w) N 153 150 (av (ak (eh w.params)) L 276 275) (execs (aI (aq 9)) (av (ak (eh w.params)) L 276 275)) ⟨cV a b n,[]⟩ [aC Wv] λO O e=>e=[]:=by
 have j:=fun(A:Lk) (l:A.handled=Wv)=>((gk w A (ak (eh w.params)) L 276 275 @_ @_ l).g (wu w) @_ @_).f (f:=283) (bw @_);refine bK [] (λi d a8 s=>aN (j i d.h) 20 .mk) ?_;refine bP (oB rfl λi d g4 Y u o k=>Jp (rO rfl rfl (ae (j i d.h) 5 ⟨bw @_,aO (j i d.h) 20 (Ks k rfl (IU (d.mono ⋯) o h r p) ⟨_,rfl⟩)⟩)) rfl rfl)
section
open PySem PySem.W PySem.Builtin
abbrev sA:Str:=Fy
abbrev sS:Str:=Fx
def aG3{d:Str}:Builtin.«_codecs.decode.text» ⟨[.bytes b t,.str sA g,.str sS f,.str d c],[]⟩ =
  (Builtin.Bytes.bytesLike d.toString (.bytes b t)>>=λa=>Builtin._codecs.dataHeld d.toString (.bytes b t)>>=λh=>SI d.toString a sA (Wu sS) h>>=λv=>ret v):=@_
def aG4{id:String}:SI id b sA (Wu sS) []=(Builtin._codecs.runDecoder id Builtin._codecs.asciiDecoder (Wu sS) Ww b 0 []>>=λr=>VF ⟨r.1⟩):=@_
def aG5:Builtin.«bytes.decode» ⟨[.bytes (c::b).toArray t,.str sA g,.str sS f],[]⟩ =
  (VF (Qt "utf-8")>>=λO=>VF sA>>=λe=>VF sS>>=λr=>VF (Qt "bytes.decode")>>=λd =>
  call (.builtin "_codecs.decode.text") [.bytes (c::b).toArray t,e,r,d]>>=λv=>ret v):=@_
def aG7:Builtin.«bytes.decode» ⟨[.bytes #[] t,.str sA c,.str sS b],[]⟩=(rule "bytes.decode.empty" >>= λO=>retStr Rb):=@_
def aH9(a b c:Value):Oo "bytes.decode" ⟨[a,b,c],[]⟩:=by
 unfold Oo;kernel_rfl
def cM(x:Str):Prop:=∀c∈x.cps,c<128
def xx(b:Array UInt8):Prop:=∀c∈b,c.toNat<128
abbrev KF(x:Str):Prop:=cM x
abbrev eG(b:Array UInt8):Prop:=xx b/\b.size<10^4
def pw:eG #[]:=⟨λc h=>(Array.not_mem_empty c h).elim,by decide⟩
def aZ(b:Array UInt8):Str:=⟨b.map UInt8.toNat⟩
def bx(x:Str):Array UInt8:=x.cps.map Nat.toUInt8
def rE(x:Str):(bx x).size=x.length:=PD ..
structure Lr (b:Array UInt8) (rest:List Nat) (p:Nat) (out:Array Nat):Prop where
 le:p<=b.size
 rest_eq:rest=Mu p (b.size-p) 1
 out_eq:out=(b.extract 0 p).map UInt8.toNat
section
variable{b:Array UInt8}{y p o:Nat}{rest:List Nat}{c:Array Nat}
def Lr.size(h:Lr b rest p c):c.size=p:=by
 rw[h.out_eq,PD,Array.size_extract,Nat.sub_zero];exact Pk h.le
def Lr.lt(h:Lr b (y::rest) p c):p<b.size:=by
 have e:=h.rest_eq;rcases Qh (b.size-p) with q |q
 ·rw[q] at e;cases e
 ·exact Ts q
def Lr.next(h:Lr b (y::rest) p c)(e:o=(b[p]'h.lt).toNat):Lr b rest (p+1) (c ++ #[o]):=by
 have a:=h.lt;have r:=h.rest_eq;have d:b.size-p=b.size-(p+1)+1:=by rw[Nat.sub_add_eq,PF (QQ a)]
 rw[d,ND] at r;have i:=h.out_eq;refine⟨a,(Ni r).2,?_⟩;rw[e];clear e;revert a;generalize h.lt=j;intro a;clear h;rw[i,Array.extract_succ_right (Rc p) a,Array.map_push,Array.push_eq_append]
def Lr.fin(h:Lr b [] p c):c=(aZ b).cps:=by
 have e:=h.rest_eq;have a:p=b.size:=by
  rcases Qh (b.size-p) with q |q
  ·exact PB h.le (Sz q)
  ·obtain⟨m,d⟩:=Nat.exists_eq_succ_of_ne_zero (Nat.pos_iff_ne_zero.mp q);rw[d,ND] at e;cases e
 rw[h.out_eq,a,Qe];rfl
def aGe(h:p<b.size):_codecs.asciiDecoder.find Ww b p=if b[p].toNat<128 then .char b[p].toNat (p+1) else .bad (p+1) "ordinal not in range(128)" Wx:=by
 show (if (b.getD p 0).toNat<128 then _codecs.Found.char (b.getD p 0).toNat (p+1) else .bad (p+1) "ordinal not in range(128)" Wx)=_;rw[show b.getD p 0=b[p] from by simp[Array.getD,h]]
end
def aAe{id:String}{Q:Array Nat×Nat->KY->Prop}(l:xx b)(j:b.size<2^20)(o:∀n,Q ((aZ b).cps,n) s):LC (Ly ab w) A (_codecs.runDecoder id _codecs.asciiDecoder (Wu sS) Ww b 0 []) Q E s:=by
 unfold _codecs.runDecoder;simp only[PX];have d6:([0:b.size]:SP).size=b.size:=by simp[Rz]
 rw[d6];refine KI (Uf _ (λrest r i=>Lr b rest r.1 r.2.1/\i=s) _ (λy rest r d h=>?_) (λr d h=>h.2.symm▸KN (h.1.fin.symm▸o r.1)) _ _ ⟨⟨Lq _,rfl,by simp⟩,rfl⟩);have a:=h.1.lt;have k:=l _ (VP a);refine ec (by rw[h.1.size,Mz];exact OX.mpr (MW (Pa a (OA j ⋯)))) (ec (λe=>QH.mpr a (by simpa using e)) ?_);rw[aGe a,if_pos k];exact KN ⟨h.1.next rfl,h.2⟩
def aHJ(k:xx b)(d:b.size<2^20)
  (e:∀u tk,Q (.str (aZ b) u) {s with toks:=tk}):LC (Ly ab w) A (call (.builtin "bytes.decode") [.bytes b t,.str sA g,.str sS f]) Q E s:=by
 refine Mb VN (typeIs_bytes _ _ _) FB.entry_bytes_decode ?_ (aH9 _ _ _);obtain⟨l⟩:=b;cases l with
 |nil =>
  rw[aG7];refine KI (MI ?_);unfold retStr;refine KI (Nu ?_ ⋯);have h:=e s.toks (s.toks+1);exact KN ⟨_,rfl,by rw[show Rb=aZ ⟨[]⟩ from by unfold aZ;simp[Rb]];exact h⟩
 |cons c i =>
  rw[aG5];refine KI (Nu ?_ ⋯);refine KI (Nu ?_ ⋯);refine KI (Nu ?_ ⋯);refine KI (Nu ?_ ⋯);refine KI (TK KBd.kind_text KBd.plain_text KBd.entry_text (KBd.args_text _ _ _ _) ?_);rw[aG3];refine KI (Mo KBd.like_eq ?_);refine KI (Mo KBd.held_eq ?_);rw[aG4];refine KI (KI (aAe k d λn=>?_));have a:(SE UInt8.toNat (c::i).toArray).size<=LY:=by
   have j:(c::i).toArray.size<2^20:=d;rw[PD,Mz];omega
  refine Nu ?_ a;exact KN (KN ⟨_,rfl,e _ _⟩)
def aGM:Builtin.«str.encode» ⟨[.str x t,.str sA c,.str sS b],[]⟩=(_codecs.encodeRoad "str.encode" (.str x t) x sA (Wu sS)>>=λv=>ret v):=@_
def aGL{v:Value}:_codecs.encodeRoad "str.encode" v x sA (Wu sS)=(_codecs.encodeNarrow "str.encode" _codecs.asciiCodec (Wu sS) v x>>=λb=>mkBytes b):=@_
def Bx:Slot "str" "encode" "str.encode":=.of (owner := "str") (n := "encode") (by rw[Mp,LQ];kernel_rfl) (by decide +kernel) (by decide +kernel) (by decide +kernel)
  (by first |exact .inl (by decide +kernel) |exact .inr (by decide +kernel)) (by rw[Mm];kernel_rfl)
def wE:Qw (.builtin "str.encode")=Nb (.type "method_descriptor"):=by show builtinType _=_;rw[Tm];kernel_rfl
def Iz:PW table "str.encode" = Wu Builtin.«str.encode» := Nv @_
def aGN(a b c:Value):Oo "str.encode" ⟨[a,b,c],[]⟩:=by
 unfold Oo;kernel_rfl
def aFR(l:List Nat)(f:Nat->UInt8)(g:Nat->List UInt8)(h:∀c∈l,g c=[f c]):∀d8:Array UInt8,
  l.foldl (λd8 y=>d8++(g y).toArray) d8=d8++(l.map f).toArray:=by
 induction l with
 |nil=>intro d8;simp
 |cons c i a =>
  intro d8;rw[Mr,a λd e=>h d (KP _ e),h c (KJ ..)];simp
def Jb{c:Nat}(h:c<128):c.toUInt8.toNat=c:=UInt8.toNat_ofNat_of_lt' (Pa h ⋯)
def By{s:Str}(h:cM s)(d:s.length<10^4):eG (bx s):=⟨λc i=>ag (Array.mem_map.mp i) λy a e=>e▸(Jb (h y a)).symm▸h y a,(rE s).symm▸d⟩
structure Low (c:_codecs.TextCodec):Prop where
 ok:∀x<128,c.bad x=Wx
 of:∀x<128,c.bytesOf x=[x.toUInt8]
def aDS:Low _codecs.asciiCodec:=⟨λx h=>by show decide (x ≥ 128)=Wx;exact decide_eq_false (QH.mpr h),λx h=>rfl⟩
def aDR:Low _codecs.utf8Codec:=⟨λx h=>by
 show (decide (0xD800<=x)&&decide (x<=0xDFFF))=Wx;rw[decide_eq_false (QH.mpr (Pa h ⋯))];rfl,λx h=>if_pos h⟩
def Xg(x:Str)(rest:List Nat)(i:Nat)(a:Array UInt8):Prop:=(0<x.cps.size/\rest≠[]/\i=0/\a=#[])\/(i=x.cps.size/\a=bx x)
def Xg.fin(h:Xg x [] i b):b=bx x:=h.elim (λh=>absurd rfl h.2.1) λh=>h.2
section
variable{c:_codecs.TextCodec}(h:Low c)(hx:cM x)
include h hx
theorem Df:(x.cps.extract 0 x.cps.size).findIdx? c.bad=Wv:=by
 rw[Array.findIdx?_eq_none_iff];intro y a;rw[Qe] at a;exact h.ok y (hx y a)
theorem aAD:UZ (λd8 y=>d8++(c.bytesOf y).toArray) #[] ((x.cps.extract 0 x.cps.size).extract 0 (x.cps.extract 0 x.cps.size).size)=bx x:=by
 rw[Qe,Qe,<-Array.foldl_toList,aFR _ Nat.toUInt8 _ λy a=>h.of y (hx y (Array.mem_toList_iff.mp a))];show #[]++_=SE Nat.toUInt8 x.cps;rw[Array.empty_append,<-QW,Array.toList_map]
end
def CU{v:Value}{Q:Array UInt8->KY->Prop}(d:Low c)(hx:cM x)(l:x.length<2^20)(j:Q (bx x) s):LC (Ly ab w) A (_codecs.encodeNarrow "str.encode" c b v x) Q E s:=by
 unfold _codecs.encodeNarrow;dsimp only;rw[PX];have d6:([0:x.length]:SP).size=x.length:=by simp[Rz]
 rw[d6];have n:Xg x (Mu 0 x.length 1) 0 #[]:=by
  rcases Qh x.cps.size with q |q
  ·refine .inr ⟨q.symm,?_⟩;rw[<-Array.size_eq_zero_iff.mp (show (bx x).size=0 from(rE x).trans q)]
  ·refine .inl ⟨q,λe=>?_,rfl,rfl⟩
   have:=congrArg NY e;rw[PE] at this;exact absurd q (OX.mpr (Oz this))
 refine KI (Uf _ (λrest r k=>k=s/\Xg x rest r.1 r.2.1) _ (λy rest r i h=>?_) (λr i h=>h.2.fin.symm▸h.1.symm▸KN j) _ _ ⟨rfl,n⟩);obtain⟨e,q⟩:=h;subst e;rcases q with ⟨q1,-,q3,q4⟩ |⟨q1,q2⟩
 ·have a : ¬ r.2.1.size > LY:=by rw[q4,Mz];decide
  refine ec a ?_;rw[MQ (by rw[q3];exact q1)];refine lO (by rw[d.ok _ (hx _ (VP ..))];rfl) (KN ⟨rfl,.inr ?_⟩);rw[q3,q4];refine⟨?_,?_⟩
  ·show 0+((x.cps.extract 0 x.cps.size).findIdx? c.bad).getD (x.cps.extract 0 x.cps.size).size=_;rw[Df d hx,OJ];show (x.cps.extract 0 x.cps.size).size=_;rw[Qe]
  ·show UZ (λd8 y=>d8++(c.bytesOf y).toArray) #[] ((x.cps.extract 0 x.cps.size).extract 0 (((x.cps.extract 0 x.cps.size).findIdx? c.bad).getD (x.cps.extract 0 x.cps.size).size))=_;rw[Df d hx];exact aAD d hx
 ·have a : ¬ r.2.1.size > LY:=by rw[q2,rE,Mz];exact OX.mpr (MW (OA l ⋯))
  refine ec a ?_;rw[Oe (Oz q1.symm)];exact KN (show LC _ A (Nb r.2.1) Q E i from q2.symm▸KN j)
def aHH(hx:cM x)(a:x.length<2^20)
  (d:∀u tk,Q (.bytes (bx x) u) {s with toks:=tk}):LC (Ly ab w) A (call (.builtin "str.encode") [.str x t,.str sA c,.str sS b]) Q E s:=by
 refine Mb Bx (QP _ _ _) Iz ?_ (aGN _ _ _);rw[aGM,aGL];refine KI (KI (CU aDS hx a (Vk ?_ ?_)))
 ·exact KN ⟨_,rfl,d _ _⟩
 ·rw[rE,Mz];omega
def aJM(e:xx b)(d:b.size<2^20)(h:K (.str (aZ b)) V):FC w A B z (.blt "bytes.decode") [.bytes b,.str sA,.str sS] [] V K:=n5 λs Z S Q E i=>om <| Val.eBytes λO=>om <| c2 λO=>om <| c2 λO=>Zq <| aHJ e d λu a=>i _ _ _ Z V h (S.toks a) (.str _ _) (.toks _)
def aJL(e:cM x)(d:x.length<2^20)(h:K (.bytes (bx x)) V):FC w A B z (.blt "str.encode") [.str x,.str sA,.str sS] [] V K:=n5 λs Z S Q E i=>om <| c2 λO=>om <| c2 λO=>om <| c2 λO=>Zq <| aHH e d λu a=>i _ _ _ Z V h (S.toks a) (.bytes _ _) (.toks _)
def aHF(hx:cM x)(a:x.length<2^20)
  (d:∀u tk,Q (.bytes (bx x) u) {s with toks:=tk}):LC (Ly ab w) A (call (.builtin "str.encode") [.str x t]) Q E s:=by
 refine Mb Bx (QP _ _ _) Iz ?_ (PySem.F.args_str_encode_1 _);rw[PySem.encode_tree,PySem.encodeRoad_utf8];refine KI (KI (CU aDR hx a (Vk ?_ ?_)))
 ·exact KN ⟨_,rfl,d _ _⟩
 ·rw[rE,Mz];omega
def Kk(e:cM x)(d:x.length<2^20)(h:K (.bytes (bx x)) V):FC w A B z (.blt "str.encode") [.str x] [] V K:=n5 λs Z S Q E i=>om <| c2 λO=>Zq <| aHF e d λu a=>i _ _ _ Z V h (S.toks a) (.bytes _ _) (.toks _)
def aAK{x:Array UInt8}:eE B (.bytes x) Y "bytes" := aAL λs t=>typeIs_bytes s x t
def Jr{K:dr->St->Prop}
  (h:T w A B z fv (execs c6 z) V K):T w A B z fv (exec (.Try c6 (h0::b) [] [] a9) z) V K:=λs Z S Q E e=>by
 refine Uh (h s Z S _ _ λv x d i a k j H X=>?_);cases x with
 |next=>exact KN (e v .next d i a k j H X)
 |_=>exact e v _ d i a k j H X
end
abbrev ou(name q:Str)(params:Arguments)(body:List Stmt)(scope:Scope)(c:LP)(pm:Value):Oi:={ name,qualname:=q,params,body:=.stmts body,scope,globals:=ML,closure:=[],closureTuple:=.none,code:=.ref c,builtins:=Nt,defaults:=.none,kwdefaults:=.none,annotations:=Wv,pyModule:=pm,doc:=.none}
def Bo(name q:Str)(d4:Arguments)(c6:List Stmt)(a5:Scope)(Z:eb)(o:Obj):Prop:=∃c d a vs t,o={ cls:=.type "function",data:=.func (ou name q d4 c6 a5 c d)}/\Z c=Wu a/\a.data=.fields vs/\vs[1]?=Wu (.str q t)
def aFS(Z a:eb)(o:Obj)(k:eb.le Z a)(x:Bo name q d4 c6 a5 Z o):Bo name q d4 c6 a5 a o:=by
 refine aKr x λc d e vs t n l j i=>?_;clear x;exact aI9 c d e vs t n (k _ _ l) j i
abbrev oq(name q:Str)(d4:Arguments)(c6:List Stmt)(a5:Scope):el:=.obj (Bo name q d4 c6 a5) aFS
def aIW{K:AV->aa->Prop}
  (J:hW B) (v:(f,oq name q d4 c6 a5)∈Y) (a:a5.isCoroutine=Wx/\a5.isGenerator=Wx/\a5.kind=.function)
  (e:(a5.names.all λx=>decide (x.2 ≠ .cell))=Ww) (d:A.depth<Na)
  (z:∀c l,Binds w A.in1 B (ou name q d4 c6 a5 c l) args kw f8) (k:((f8.map (·.1)).all λx=>decide (a5.names.lookup x=Wu .local))=Ww)
  (h:∀L c,L∉keys Y->T w (A.deeper (bF a5 L ML [] q f (.ref c) Nt)) B (bF a5 L ML [] q f (.ref c) Nt) fv
   (execs c6 (bF a5 L ML [] q f (.ref c) Nt)) ⟨f8.reverse,Y⟩ (fo K)):TC w A B (.ref f) args kw Y K:=λs Z m W g S y i p R E=>by
 (have Q:=y.inv;subst Q)
 obtain⟨o,u,c,l,b,vs,V,rfl,n,j,r⟩:=S.own _ v;exact DX (fd:=ou name q d4 c6 a5 c l) J u rfl a.1 a.2.1 a.2.2 rfl (λx i=>of_decide_eq_true (LS.mp e x i)) rfl (S.frozen _ _ n) j r d (z c l)
  (λx i=>of_decide_eq_true (LS.mp k x i)) (λL G=>h L c G) S i p E
def aAi{K:Frag}{P:LP}{fl:Nat}(hc:z.code=.ref c)(N:lz K c P=Ww)(hP:(P,dB q)∈Y)(S:ca (am K) s Z Y)
  (hQ:∀a oc vs t s' Z',ca (am K) s' Z' Y->hO (aj Y) s Z s' Z' (aj Y)->Z' a=Wu oc->oc.data=.fields vs->vs[1]?=Wu (.str q t)->Q (.ref a) s'):LC (Ly ab w) A (functionCode z a9 fl name q d4 a5 fb) Q E s:=by
 obtain⟨o,vs,Yw,tf,XG,tg,YY,text,tt,V,hd,XS,h2,h7,h9,XT⟩:=IQ N;have ho:s.heap.get? c=Wu o:=S.frozen _ _ (S.base _ _ V);obtain⟨op,y,⟨XA,M⟩,C,v,u,j⟩:=S.own _ hP;dsimp only at y;have Ys:Z P=Wv:=S.apart _ hP;have ZE:c≠P:=λe=>by have:=S.base _ _ V;rw[e,Ys] at this;cases this
 unfold functionCode codeAt;rw[hc,if_neg (show ¬ ((Pm c==My)=Ww) from LZ)];refine KI (MZ ho hd ?_);rw[XS];refine KI (MZ y v ?_);cases G:Om a9 C.toList with
 |some cv =>
  refine sm (j a9 cv G) λa oc H t O5 hz X hq=>?_;subst O5;exact KN (hQ a oc H t s Z S .refl hz X hq)
 |none =>
  rw[h2,h7,h9,XT];refine KI (wpAny_newCode λa P' h' tk hk Xk ZL D k=>?_);refine aD (S.grow (h':=h') (tk:=tk) hk) λS1 X1=>?_;refine sm k λc2 oc J t2 m f r r2=>?_;clear k;cases m
  have d:s.heap.get? a=Wv:=Rg Xk;have XE:a∉keys Y:=λhm=>by
   refine ag (LG.mp hm) λp hp e=>?_;refine al ((S.own p hp).live) λob g=>?_;rw[e,d] at g;cases g
  have W:Z a=Wv:=by
   cases e:Z a with
   |none=>rfl
   |some x=>have:=S.frozen _ _ e;rw[d] at this;cases this
  refine aD (S1.fixZ (s0:=s) (c:=a) (o:=oc) f d XE W X1) λS2 X2=>?_;have l:=hk _ _ y;refine KI (UG l v ?_);have i:(Nf (λvs=>if (Om a9 vs.toList).isSome=Ww then vs else vs ++ #[MC a9.line,MC a9.col,.ref a]) op).data =
    .fields (C ++ #[MC a9.line,MC a9.col,.ref a]):=by
   rw[Og v,G];rfl
  have n:=LV (h:=h') (λo=>Nf (λvs=>if (Om a9 vs.toList).isSome=Ww then vs else
   vs ++ #[MC a9.line,MC a9.col,.ref a]) o) l (NG i)
  refine KI (MZ n i ?_);have U:(C ++ #[MC a9.line,MC a9.col,Pm a]).toList=C.toList++[MC a9.line,MC a9.col,.ref a]:=by simp
  rw[U,codeAmong_snoc _ u G];have P3:=S2.upd (Upd.same hP) (h':=h'.update P λo=>Nf (λvs=>if (Om a9 vs.toList).isSome=Ww then vs else vs ++ #[MC a9.line,MC a9.col,.ref a]) o) (tk:=tk) (λb ob hb e=>(LR ..).extBut b ob hb e) rfl rfl
   ⟨_,n,⟨NG i,M.map _⟩,_,i,by rw[U];exact TriplesOk_snoc _ _ _ _ u,λR cv e=>?_⟩
  ·exact KN (hQ a oc J t2 _ _ P3.1 (X2.trans P3.2) (l2 ..) r r2)
  ·rw[U] at e;rcases IR _ u e with e |rfl
   ·refine eK (j R cv e) λc3 L F t3 e3 z3 r3=>?_;exact iv c3 L F t3 e3 (m9 W _ _ z3) r3
   ·exact Kd a oc J t2 rfl (l2 ..) r r2
def IJ(K:Frag):Prop:=∃o d i e a,K.lookup ML=Wu o/\o.data=.dict d i/\Si d/\So d "__builtins__" = Wu (.ref e)/\e≠Nt /\
 K.lookup e=Wu a/\a.cls=.type "module" /\ a.dict=Wu Nt/\a.data=.plain
def aHp{a5:Scope}(h:(a5.names.all λx=>decide (x.2 ≠ .free))=Ww):Sb a5 z=Nb []:=On λx a=>of_decide_eq_true (LS.mp h x a)
def Jt{K:Frag}{P:LP}{a5:Scope}{V:St}{R:dr->St->Prop}
  (u:defaultsOf d4 z=([],[])) (G:annTrees d4 Wv z=[]) (i:(a5.names.all λx=>decide (x.2 ≠ .free))=Ww) (r:docOf c6=Wv)
  (hq:qualnameIn z name name=q) (hg:z.globals=ML) (H:IJ K) (e:z.kindOf name=Wu .local)
  (hc:z.code=.ref c) (J:lz K c P=Ww) (hP:(P,dB q)∈V.led)
  (h:∀f,f∉keys V.led->R .next ⟨bM V.loc name (.ref f),(f,oq name q d4 c6 a5)::V.led⟩):T w A (am K) z fv (exec (.FunctionDef name d4 c6 [] Wv [] a5 Wv name a9) z) V R:=λs Z S Q E hQ=>by
 rw[exec_def,u,G,hq];refine KI (LN ?_);refine KI (Lh ?_);refine KI (KN ?_);refine KI (Lh (KN ?_));refine Lh ?_;refine KI (KN ?_);unfold makeFunction;rw[RE];refine lO rfl (KI (KN (lO rfl (KI (KN (lO rfl (KI (KN (KI (Mo (aHp i) (lO rfl (KI (KN ?_)))))))))))));refine KI (aAi hc J hP S.toca λL oc vs t c5 M n N hz hd hr=>?_);refine CL H λo es ep bm ob b m g D Y W y j l=>?_;clear H;have p:=vR (s:=c5) (Z:=M) b m g n.base n.frozen;rw[hg];refine KI (wpAny_builtinsFor p D Y (n.frozen _ _ (n.base _ _ W)) y j l ?_);refine KI (wpAny_nsGet p ?_);refine KI (Mo (a:=My) (by rw[r]) ?_);refine KI (Ur (KN ?_));have F:=n.push (o:={ cls:=.type "function",data:=.func (ou name q d4 c6 a5 L ((So es "__name__").getD .none))}) (ao:=oq name q d4 c6 a5) rfl c5.toks
  ⟨_,Lc _ rfl,L,_,oc,vs,t,rfl,hz,hd,hr⟩
 have SF:=S.after F.1 (N.trans F.2);refine KI (LN (KI (UN ?_)));have C:c5.heap.objs.size∉keys V.led:=n.lfresh;refine oH (v:=.ref c5.heap.objs.size) (K:=λO d=>R .next d) e rfl (h _ C) _ M (.ref c5.heap.objs.size) (.ref _) SF _ _ λO O U Z' d k S' O X=>?_;exact KN (hQ .next .next U Z' d k S' .next ((N.trans F.2).toF.trans X))
def Ch(w:Lz)(B:eb)(f:AV)(Y:aa):Prop:=∀(A:Lk) (s:KY) (Z:eb) (a:Value),Val Z f a->ca B s Z Y->∀(Q:Keeper->KY->Prop) (E:Value->KY->Prop),(∀k,Q k s)->LC (Ly ab w) A (TT a) Q E s
def ry(i:(f,oq name q d4 c6 a5)∈Y):Ch w B (.ref f) Y:=λA s Z u V S Q E j=>by
 (have k:=V.inv;subst k)
 obtain⟨o,e,c,n,p,vs,l,rfl,d,a,r⟩:=S.own _ i;unfold TT;exact KI (RX e (KN (j _)))
def so(n:((NF a9 (Mh args z)).all λx => !x.1)=Ww)
  (h:T w A B z Vals (spliced (NF a9 (Mh args z))) V λvs fI=>Ch w B f fI.led/\FC w A B z f (first++vs) [] fI K):CA w A B z a9 f first args V K:=λs Z u W D c S Q E N=>by
 unfold QZ;have o:∀ {R:Args->KY->Prop},(∀v x e G d,(Ch w B f d.led/\FC w A B z f (first++v) [] d K)->ff B z e G d->Vals G v x->hO (ay z V) s Z e G (ay z d)->R ⟨x,[]⟩ e) ->
   LC (Ly ab w) A (TV u Ww (NF a9 (Mh args z)) []) R E s:=fun{R} q=>by
  have i:=h s Z S (λx e=>R ⟨x,[]⟩ e) E q;revert i n;generalize NF a9 (Mh args z)=l;intro n i;cases l with
  |nil=>exact wy i
  |cons y r =>
   obtain⟨b,t⟩:=y
   have:b=Wx:=by simpa using (LS.mp n (b,t) (KJ ..))
   subst this;exact PK i
 refine KI (Lh (o λvs x c5 F fI j L P J=>KI (LN ?_)));refine KI (j.1 A c5 F u (D.mono J.le) L.toca _ _ λk=>?_);have a:LC (Ly ab w) A (call u (W++x) []) (λr e=>LC (Ly ab w) A (do Ol [r] point;Nb r) Q E e) E c5:=j.2 c5 F u _ [] (D.mono J.le) ((c.mono J.le).append P) .nil L _ _ λv y e G d k U H X=>KI (Lh (Sf (KN (N v y e G d k U H (J.trans X)))))
 have g:∀l,LC (Ly ab w) A (operate l (call u (W++x) [])>>=λr=>(do Ol [r] point;Nb r)) Q E c5:=λl=>KI (λM p Y=>by rw[RL];exact a M p Y);have C:∀m,LC (Ly ab w) A (Qy m u (W++x) []>>=λr=>(do Ol [r] point;Nb r)) Q E c5:=λm=>KI (by unfold Qy;exact QV a);generalize (((NF a9 (Mh args z)).any λx=>x.fst)||([]:List (Option Str×Sem Value)).any λx=>x.fst.isNone)=b;cases k <;> cases b <;> first
  |exact g _
  |exact C _
  |exact KI a
  |exact Rm (by split <;> first |exact KI a |exact C _)
def aCz:Rq "bytes":=⟨⟨"bytes.__getattribute__",by rw[Mp,LQ];kernel_rfl,by decide +kernel⟩,by rw[Mp,LQ];kernel_rfl⟩
def aAJ:Qw (.builtin "bytes.decode")=Nb (.type "method_descriptor"):=by show builtinType _=_;rw[Tm];kernel_rfl
def aBu:Slot "bytes" yV "bytes.decode" := by
 rw[show (yV:Str)=KX "decode" from by decide +kernel];exact VN
def sQ:Slot "str" Fs "str.encode" := by
 rw[show (Fs:Str)=KX "encode" from by decide +kernel];exact Bx
abbrev de:Str:=⟨⟨[100,105,102,102,95,98,121,116,101,115,46,60,108,111,99,97,108,115,62,46,100,101,99,111,100,101]⟩⟩
abbrev br:el:=oq yV de (rL (au 11 1)) (aI (au 11 1)) (gN (au 11 1))
def jx(e:dt A 10)(i:(f,br)∈Y)(d:eG b):TC w A (af w) (.ref f) [.bytes b] [] Y λv a8=>v=.str (aZ b)/\a8=Y:=by
 refine aIW (f8:=[(Fz,.bytes b)]) (bq w) i ⟨@_,@_,@_⟩ @_ e.lt (λc l=>Binds.of1 λZ k j=>⟨_,@_,.cons j .nil⟩) @_ λL c n=>?_;simp only[LI,LU,Lj,Lg];have a:=dY (w:=w) (B:=af w) (A:=A.deeper (bF (gN (au 11 1)) L ML [] de f (.ref c) Nt)) (z:=bF (gN (au 11 1)) L ML [] de f (.ref c) Nt) @_ @_ @_ @_ e.h;refine aw (Jr (bE a 10 (ax.mk (wV (T' := "bytes") (id := "bytes.decode") @_ @_ @_ aCz aBu aAJ (ae a 5 ⟨aAK,dd @_ ic (aO a 10 (aJM d.1 (Pa d.2 ⋯) ⟨rfl,rfl⟩))⟩)))))
abbrev ro(o:LP)(a b:AV)(l j fd k:AV)(n:Nat)(lt:AV)(i e d:AV:=.any):List (Str×AV):=[(pf,lt),(jT,.int n),(ph,k),(pi,fd),(pj,j),(pn,l),(dG,b),(dT,a),(yW,.ref o),(yV,i),(yU,e),(pe,d)]
def El:Option Value->LP
 |some (.ref a)=>a
 |_=>0
def objOf:Option Obj->Obj
 |some o=>o
 |none=>{ cls:=.none,data:=.plain}
def II(w:Lz):IJ (KB w.params):=⟨_,_,_,El (So (il (eQ w.params)) "__builtins__"),objOf ((KB w.params).lookup (El (So (il (eQ w.params)) "__builtins__"))),gM w,bD _,bC _,@_,beq_eq_false_iff_ne.mp @_,@_,@_,@_,@_⟩
def Xh.of{K:dr->St->List AV->Prop}{l:aa}(e:V=⟨a6,l++Y⟩)(h:K .next ⟨a6,l⟩ a7):Xh K a7 Y .next V:=by subst e;exact .mk l h
def JD(L:List (Str×AV))(l:aa)(a:List Str)(P:St->List AV->Prop):Prop:=(∀r∈a,KF r/\r.length<2^20)->P ⟨L,l⟩ (a.map λr => .bytes (bx r))
def aGV{a b:List (Array UInt8)}{a7:List Str}(XO:(286,dB de)∈N)
  (ha:a.length<10^5) (hb:b.length<10^5) (Xr:∀x∈a,eG x) (Yl:∀x∈b,eG x)
  (Zu:eG X) (Za:eG M) (Zv:eG fd) (Zb:eG U) (Zo:eG lt)
  (V:eH w (af w) (.ref df))
  (ZA:∀e,dt e 200->∀a8,kn N a8->TC w e (af w) (.ref df) [.lst ((a.map aZ).map .str),.lst ((b.map aZ).map .str),.str (aZ X),.str (aZ M),.str (aZ fd),.str (aZ U),.int n,.str (aZ lt)] [] a8
   (ol w (af w) N 153 (a7.map .str) a8))
  (R:∀r∈a7,KF r/\r.length<2^20):TG w (af w) N 204 201 (av (ak (dU w.params)) L 291 290) (execs (aI (aq 11)) (av (ak (dU w.params)) L 291 290)) ⟨ro df (.lst (a.map .bytes)) (.lst (b.map .bytes)) (.bytes X) (.bytes M) (.bytes fd) (.bytes U) n (.bytes lt),[]⟩ (a7.map λr => .bytes (bx r)) λO O J=>J=[]:=by
 have o:=fun(A:Lk) (hh:A.handled=Wv)=>(((gk w A (ak (dU w.params)) L 291 290 @_ @_ hh).g (rB w) @_ @_).g (Bl w) @_ @_).m ⟨Fs,0, "str.encode"⟩ iY sQ wE;refine bK [] (λe d a8 j=>aN (o e d.h) 20 .mk) ?_;refine bP (dP λe d a8 j=>Jt (K:=KB w.params) (c:=290) (P:=286) (name:=yV) (q:=de) (d4:=rL (au 11 1)) (c6:=aI (au 11 1)) (a5:=gN (au 11 1)) @_ @_ @_ @_ @_ @_ (II w) @_ @_ @_ (j _ XO) λf hf=>Xh.of (a6:=ro df (.lst (a.map .bytes)) (.lst (b.map .bytes)) (.bytes X) (.bytes M) (.bytes fd) (.bytes U) n (.bytes lt) (.ref f)) (l:=[(f,br)]) @_ ?_);refine bP (dP λe d a8 j=>aN (o e d.h) 40 (ax.mk (oF λm it=>ax.mk ?_)));refine xg (k:=31) (T' := "map") (items:=(a.map aZ).map .str) (gl:=dp m it (.ref f) (a.map .bytes) 0 []) (Y:=[(f,br)]++a8) (N:=[(f,br)]) (d.mono ⋯) (λp H=>Mn _ H)
  (eg.map (N:=[(f,br)]) (k:=30) (ys:=(a.map aZ).map .str) (by simp) (λi x y D C e G a8 z=>?_) a.length 0 (by simp)) (Mc (show _<=10^5 by simp only[KR];omega) (show 10^5<=LY by decide)) (λs Z S=>?_) ⋯ ⋯ (λA s Z S Q E h=>rg S h) rh ri ?_
 ·rw[Ma] at D C;refine ag (MB.mp D) λt F W=>?_;subst W;refine ag (MB.mp C) λt' u W=>?_;subst W;rw[Ma,F] at u;cases u
  exact jx (G.mono ⋯) (z _ (KJ ..)) (Xr t (Px F))
 ·exact rj S
 refine .mk [(f,br)] ?_;refine bP (dP λe d a8 j=>aN (o e d.h) 40 (ax.mk (oF λm it=>ax.mk ?_)));refine xg (k:=31) (T' := "map") (items:=(b.map aZ).map .str) (gl:=dp m it (.ref f) (b.map .bytes) 0 []) (Y:=[(f,br)]++a8) (N:=[(f,br)]) (d.mono ⋯) (λp H=>Mn _ H)
  (eg.map (N:=[(f,br)]) (k:=30) (ys:=(b.map aZ).map .str) (by simp) (λi x y D C e G a8 z=>?_) b.length 0 (by simp)) (Mc (show _<=10^5 by simp only[KR];omega) (show 10^5<=LY by decide)) (λs Z S=>?_) ⋯ ⋯ (λA s Z S Q E h=>rg S h) rh ri ?_
 ·rw[Ma] at D C;refine ag (MB.mp D) λt F W=>?_;subst W;refine ag (MB.mp C) λt' u W=>?_;subst W;rw[Ma,F] at u;cases u
  exact jx (G.mono ⋯) (z _ (KJ ..)) (Yl t (Px F))
 ·exact rj S
 refine .mk [(f,br)] ?_;refine bK [(f,br)] (λe d a8 j=>aN (o e d.h) 20 (ax.mk (so @_ (aO (o e d.h) 10 ⟨ry (KJ ..),rY (jx (d.mono ⋯) (KJ ..) Zu) .mk⟩)))) ?_;refine bK [(f,br)] (λe d a8 j=>aN (o e d.h) 20 (ax.mk (so @_ (aO (o e d.h) 10 ⟨ry (KJ ..),rY (jx (d.mono ⋯) (KJ ..) Za) .mk⟩)))) ?_;refine bK [(f,br)] (λe d a8 j=>aN (o e d.h) 20 (ax.mk (so @_ (aO (o e d.h) 10 ⟨ry (KJ ..),rY (jx (d.mono ⋯) (KJ ..) Zv) .mk⟩)))) ?_;refine bK [(f,br)] (λe d a8 j=>aN (o e d.h) 20 (ax.mk (so @_ (aO (o e d.h) 10 ⟨ry (KJ ..),rY (jx (d.mono ⋯) (KJ ..) Zb) .mk⟩)))) ?_;refine bK [(f,br)] (λe d a8 j=>aN (o e d.h) 20 (ax.mk (so @_ (aO (o e d.h) 10 ⟨ry (KJ ..),rY (jx (d.mono ⋯) (KJ ..) Zo) .mk⟩)))) ?_;refine bP (dP λe d a8 j=>aN (o e d.h) 20 (ax.mk (dd @_ V (aO (o e d.h) 20 (ge (Y:=[(f,br)]++a8) (ZA _ (d.mono ⋯) _ (j.app _)) λv l h=>?_)))));refine eK h λga gn gs gl O5 O6 Yg=>?_;clear h;subst O5;subst O6;refine Xh.of (l:=((ga,.gen gn gs)::gl)++[(f,br)]) (congrArg (St.mk _) (LH ..).symm) ?_;refine jA (k:=154) AV.str (JD (ro df (.lst ((a.map aZ).map .str)) (.lst ((b.map aZ).map .str)) (.str (aZ X)) (.str (aZ M)) (.str (aZ fd)) (.str (aZ U)) n (.str (aZ lt)) (.ref f) (.ref ga)) [(f,br)]) ⋯ (λe d a8 j=>ae (o e d.h) 5 ?_) ?_ (λO=>bv rfl) (λO=>@_)
 ·rw[LH];exact KD (bq w) Yg (wL λO=>rfl) λhI => .mk (l:=[(f,br)]) (hI _ _) (.mk (λO y=>y R) @_)
 ·refine λgl r rs h => .mk (λe d a8 j=>bQ (aW rfl rfl)) ?_;refine gH ([(f,br)]++gl) (λe d a8 j=>ae (o e d.h) 20 (ax.mk (aJL (h r (KJ ..)).1 (h r (KJ ..)).2 .mk))) ?_ @_ @_;exact bv (.next (l:=[(f,br)]) (.mk (λO y=>y λp H=>h p (KP _ H)) @_))
section
open PySem PySem.W PyProof.Rows
section
variable{N:aa}
def Jq{c:String}{K:St->Prop}(h:TX w A B c z g4 (ME c8 z) V K)(a:Sx c8 (Wu (.Name x b)) a9.line z=Nb Wx):TX w A B c z g4 (exec (.Assign [.Name x b] c8 a9) z) V K:=λs Z S Q E d =>
 wpAny_Assign_Name (Mg (h s Z S (λO O=>False) E d) (λO O x=>x.elim) λO O x=>x) a
def aIY{cl:String}
  (K:hW B) (y:(f,oq name q d4 c6 a5)∈Y) (a:a5.isCoroutine=Wx/\a5.isGenerator=Wx/\a5.kind=.function)
  (e:(a5.names.all λx=>decide (x.2 ≠ .cell))=Ww) (d:A.depth<Na) (u:A.frames=Wu g4)
  (E:∀c l,Binds w A.in1 B (ou name q d4 c6 a5 c l) args [] f8) (k:((f8.map (·.1)).all λx=>decide (a5.names.lookup x=Wu .local))=Ww)
  (h:hB g4 Y->∀L c,L∉keys Y->TX w (A.deeper (bF a5 L ML [] q f (.ref c) Nt)) B cl (bF a5 L ML [] q f (.ref c) Nt) g4
   (execs c6 (bF a5 L ML [] q f (.ref c) Nt)) ⟨f8.reverse,Y⟩ λdi=>di.led=Y):jE w A B cl g4 (.ref f) args Y:=λs Z b W S r z i R G=>by
 (have N:=z.inv;subst N)
 obtain⟨o,n,c,l,V,vs,Q,rfl,p,j,v⟩:=S.own _ y;exact DW (fd:=ou name q d4 c6 a5 c l) K n rfl a.1 a.2.1 a.2.2 rfl (λx i=>of_decide_eq_true (LS.mp e x i)) rfl (S.frozen _ _ p) j v d (E c l) u
  (λx i=>of_decide_eq_true (LS.mp k x i)) (λr L J=>h r L c J) S r i G
def Tn.map(r:ys.length<W.length)
  (hf:∀(i:Nat) x y,W[i]?=Wu x->ys[i]?=Wu y->∀H,dt H k->∀Y,kn N Y->TC w H B f [x] [] Y λv a8=>v=y/\a8=Y)
  (hb:∀x,W[ys.length]?=Wu x->∀H,dt H k->∀Y g4,kn N Y->H.frames=Wu g4->jE w H B "TypeError" g4 f [x] Y):∀(d i:Nat),i+d=ys.length->Tn w B N (k+1) m (ys.drop i) (dp m it f W i []):=by
 intro d;induction d with
 |zero =>
  intro i F;have F:i=ys.length:=(Tt i).symm.trans F;subst F;rw[Sd];intro A hA Y g4 hN XA ho s Z S Q E hE;refine ag (S.own _ (KJ ..)) λom R D=>bA D λtt fx e_ J h=>?_;subst e_;refine ag (S.own _ (KP _ (KJ ..))) λoi c D=>fM D λl a n hc hd L M=>?_;have g:m≠it:=λq=>(Lp.mp S.nodup).1 (q▸KJ ..);refine ag (M.get (LF r)) λu hu hV=>aDL R (S.frozen _ _ J) ⟨oi,c,hc,hd⟩ ⟨_,S.frozen _ _ L,rfl,n,rfl⟩ (x:=u) ((Pd ..).trans hu) g λh' z K=>bn z λG j C t=>?_;have P:=S.upd (a8:=dp m it f W (ys.length+1) []++Y) (.there .here) (h':=h') (tk:=s.toks) (λb ob hb e=>(K.2 b hb).trans e) rfl rfl ⟨G,j,l,a,n,C,t,L,M⟩;refine NB (hb _ (LF r) A.in1 hA.in1 ((m,.obj (jo f it) nV)::(it,.obj (io W (ys.length+1)) lu)::Y) g4 (λp hp=>KP _ (KP _ (hN p hp))) XA _ Z fx [u] P.1 (ho.app [_,_]) h (.cons hV .nil) _
   λe s' Z' X=>⟨X.typ,hE e s' Z' ((X.rebase P.2).drop (l:=[_,_]) ho)⟩)
 |succ d ih =>
  intro i F;have o:i<ys.length:=F▸OO (Pf d);have U:i<W.length:=Pa o r;rw[MP o];intro A hA Y hN s Z S Q E hQ;refine ag (S.own _ (KJ ..)) λom R D=>bA D λtt fx e_ J h=>?_;subst e_;refine ag (S.own _ (KP _ (KJ ..))) λoi c D=>fM D λl a n hc hd L M=>?_;have g:m≠it:=λq=>(Lp.mp S.nodup).1 (q▸KJ ..);refine ag (M.get (LF U)) λu hu hV=>Hf R (S.frozen _ _ J) ⟨oi,c,hc,hd⟩ ⟨_,S.frozen _ _ L,rfl,n,rfl⟩ (x:=u) ((Pd ..).trans hu) g λh' z K=>bn z λG j C t=>?_;have P:=S.upd (a8:=dp m it f W (i+1) []++Y) (.there .here) (h':=h') (tk:=s.toks) (λb ob hb e=>(K.2 b hb).trans e) rfl rfl ⟨G,j,l,a,n,C,t,L,M⟩;refine NB (hf i _ _ (LF U) (LF o) A.in1 hA.in1 ((m,.obj (jo f it) nV)::(it,.obj (io W (i+1)) lu)::Y) (λp hp=>KP _ (KP _ (hN p hp))) _ Z fx [u] [] P.1 h (.cons hV .nil) .nil _
   λv y s' Z' a8 kk S' V X'=>?_)
  obtain⟨rfl,rfl⟩:=kk;exact hQ s' Z' y (dp m it f W (i+1) []) S' V (P.2.trans X') (ih (i+1) ((Oy i d).trans F))
end
def aG2{y:Ln}(p:dt A 10)(n:A.frames=Wu g4)(r:(f,br)∈Y)(o:az y=Ww):jE w A (af w) "TypeError" g4 (.ref f) [.ln y] Y:=by
 refine aIY (f8:=[(Fz,.ln y)]) (bq w) r ⟨@_,@_,@_⟩ @_ p.lt n (λc J=>Binds.of1 λZ G E=>⟨_,@_,.cons E .nil⟩) @_ λl L c K=>?_;simp only[LI,LU,Lj,Lg];generalize a:bF (gN (au 11 1)) L ML [] de f (.ref c) Nt=z;have s:(A.deeper z).handled=Wv:=p.h;have u:=dY (w:=w) (B:=af w) (A:=A.deeper z) (z:=z) (by subst a;kernel_rfl) (by subst a;kernel_rfl) (by subst a;kernel_rfl) (by subst a;kernel_rfl) p.h;have d:∀x,z.kindOf x=(bF (gN (au 11 1)) L ML [] de f (.ref c) Nt).kindOf x:=λx=>a▸rfl;have i:z.frame=Wu z.locals:=by subst a;rfl
 have j:z.globals=ML:=by subst a;rfl
 have k:z.builtins=Nt:=by subst a;rfl
 refine lD (aIs (Qn n) i (by rw[d];kernel_rfl) (by rw[Mm];kernel_rfl) (λa6 ft a8 e=>⟨by rw[show a8=Y from e];exact l,e⟩)
  (lD (Jm (aIr s i (by subst a;kernel_rfl) (by subst a;kernel_rfl) (am_miss_of_fast @_) (am_miss_of_fast @_) (by decide +kernel) (ae u 5 ⟨y,rfl,o,l,λe=>?_⟩)))))
 refine oC (aFK w) (by rw[d];kernel_rfl) j k @_ ⟨rfl,l,?_⟩;refine aJf i (ir (Ca (N:=KX (jq y)) o (by decide +kernel) (by decide +kernel) (by decide +kernel) (AQ y) ?_ ?_ λX=>?_) (by subst a;kernel_rfl))
 ·refine wY (by subst a;kernel_rfl) (wX rfl (oC (Bk w) (by rw[d];kernel_rfl) j k @_ (dd (by subst a;kernel_rfl) wf (wZ rfl (lE (v:=.ln y) @_ (iu ?_) @_ rfl)))));exact Cq (CH (Bu _) o ⟨rfl,rfl⟩)
 ·exact lE (v:=.ln y) @_ ⟨rfl,rfl⟩ @_ rfl
 ·refine oH (by rw[d];kernel_rfl) rfl ⟨rfl,l,aJe rfl i rfl ?_⟩;refine oC (wv w) (by rw[d];kernel_rfl) j k @_ ⟨rfl,lE (v:=.str X) @_ ⟨l,lE (v:=.ref e) @_ ⟨rfl,l,rfl⟩ @_ rfl⟩ @_ rfl⟩
end
section
open PySem PySem.W PyProof.Rows
def wM(a:List AV):Prop:=∃(d:List (Array UInt8)) (y:Ln) (e:List AV),a=d.map .bytes ++ .ln y::e/\az y=Ww/\∀b∈d,eG b
def IK{f:LP}{N:aa}{a:List (Array UInt8)}{post:List AV}(o:(f,br)∈N)(n:∀b∈a,eG b){x y:AV}(hx:(a.map AV.bytes++post)[i]?=Wu x)(j:((a.map aZ).map AV.str)[i]?=Wu y){l:Lk}(s:dt l 30){Y:aa}(r:kn N Y):TC w l (af w) (.ref f) [x] [] Y λv a8=>v=y/\a8=Y:=by
 rw[Ma] at j;refine ag (MB.mp j) λt k e=>?_;subst e;rw[Ma] at k;refine ag (MB.mp k) λb d e=>?_;subst e;have p:i<(a.map AV.bytes).length:=by rw[KR];exact(NM.mp d).1
 rw[Pr p,Ma,d] at hx;cases hx
 exact jx (s.mono ⋯) (r _ o) (n b (Px d))
def Kt{K:St->Prop}(q:dt A 50)(n:A.frames=Wu (z::g4))(c:z.frame=Wu z.locals)(J:hB g4 Y)(R:(f,br)∈Y)(h:wM W)(V:W.length<10^5)(g:K ⟨a6,Y⟩):oG w A (af w) "TypeError" z g4 (.typ "list") [.ref m] ⟨a6,dp m it (.ref f) W 0 []++Y⟩ K:=by
 obtain⟨a,y,j,rfl,u,v⟩:=h;refine aJR (k:=31) (T' := "map") (N:=[(f,br)]) (items:=(a.map aZ).map .str) (gl:=dp m it (.ref f) (a.map .bytes ++ .ln y::j) 0 []) (q.mono ⋯) n c (λp G=>(Lm.mp G)▸R) J
  (Tn.map (N:=[(f,br)]) (k:=30) (ys:=(a.map aZ).map .str) (by simp) (λi x C l r t d Y o=>IK (Lm.mpr rfl) v l r d o) (λx l t d Y g4 o b=>?_) a.length 0 (by simp)) (Mc (show _<=10^5 by simp only[KR,Lb,La] at V ⊢;omega) (show 10^5<=LY by decide))
  (λs Z Y S=>rj S) ⋯ ⋯ (λA s Z Y S Q E h=>rg S h) rh ri g
 have e:((a.map aZ).map AV.str).length=(a.map AV.bytes).length:=by simp
 rw[e,RH (LK _),Tr] at l;cases l
 exact aG2 (d.mono ⋯) b (o _ (Lm.mpr rfl)) u
def aGW{a:List AV}(R:(286,dB de)∈N)(h:wM a\/((∃e:List (Array UInt8),a=e.map .bytes/\∀b∈e,eG b)/\wM b))(V:a.length<10^5)(U:b.length<10^5):TG w (af w) N 204 201 (av (ak (dU w.params)) L 291 290) (execs (aI (aq 11)) (av (ak (dU w.params)) L 291 290)) ⟨ro df (.lst a) (.lst b) (.bytes X) (.bytes t) (.bytes fd) (.bytes C) n (.bytes lt),[]⟩ [aC Wv] λO O r=>r=[]:=by
 have u:=fun(A:Lk) (M:A.handled=Wv)=>(((gk w A (ak (dU w.params)) L 291 290 @_ @_ M).g (rB w) @_ @_).g (Bl w) @_ @_).m ⟨Fs,0, "str.encode"⟩ iY sQ wE;refine bK [] (λo d a8 j=>aN (u o d.h) 20 .mk) ?_;refine bP (dP λo d a8 j=>Jt (K:=KB w.params) (c:=290) (P:=286) (name:=yV) (q:=de) (d4:=rL (au 11 1)) (c6:=aI (au 11 1)) (a5:=gN (au 11 1)) @_ @_ @_ @_ @_ @_ (II w) @_ @_ @_ (j _ R) λf G=>Xh.of (a6:=ro df (.lst a) (.lst b) (.bytes X) (.bytes t) (.bytes fd) (.bytes C) n (.bytes lt) (.ref f)) (l:=[(f,br)]) @_ ?_);rcases h with h |⟨⟨e,rfl,F⟩,h⟩
 ·exact bP (oB rfl λo d g4 a8 j G J=>Jq (rO rfl rfl (ae (u o d.h) 5 ⟨wf,aO (u o d.h) 40 (ax.mk (oF λm it=>Kt (d.mono ⋯) G rfl (J.app _) (KJ ..) h V ⟨[(f,br)],rfl⟩))⟩)) @_)
 ·refine bP (dP λo d a8 j=>aN (u o d.h) 40 (ax.mk (oF λm it=>ax.mk ?_)));refine xg (k:=31) (T' := "map") (items:=(e.map aZ).map .str) (gl:=dp m it (.ref f) (e.map .bytes) 0 []) (Y:=[(f,br)]++a8) (N:=[(f,br)]) (d.mono ⋯) (λp H=>Mn _ H)
   (eg.map (N:=[(f,br)]) (k:=30) (ys:=(e.map aZ).map .str) (by simp) (λi x y D W o z a8 v=>?_) e.length 0 (by simp)) (Mc (show _<=10^5 by simp only[KR] at V ⊢;omega) (show 10^5<=LY by decide)) (λs Z S=>rj S) ⋯ ⋯ (λA s Z S Q E h=>rg S h) rh ri ?_
  ·exact IK (post:=[]) (Lm.mpr rfl) F ((Ms _).symm▸D) W z v
  refine .mk [(f,br)] ?_;exact bP (oB rfl λo d g4 a8 j G J=>Jq (rO rfl rfl (ae (u o d.h) 5 ⟨wf,aO (u o d.h) 40 (ax.mk (oF λm it=>Kt (d.mono ⋯) G rfl (J.app _) (KJ ..) h U ⟨[(f,br)],rfl⟩))⟩)) @_)
end
section
open PySem PySem.W PyProof.Rows
section
variable{N:aa}
def dQ(w:Lz)(B:eb)(N:aa)(n:Nat)(a7:List AV)(gl:aa)(gs:NZ):Prop:=ju w B N n a7 gl gs\/(a7=[]/\gl=[]/\gs=.finished)
def XP.regen{c:String}{e:LP}{g:Nat}(X:XP B c (aj (gl++Y)) (s.setGen g .running) hY g4 Y e fl c5 Z1)(y:s.heap.IsGen a g)(n:s.gens[g]?=Wu gs)
  (d:a∉keys (gl++Y)) (p:g∉gkeys (gl++Y)) (V:hY a=Wv):XP B c (aj (((a,.gen g gs)::gl)++Y)) s hY g4 ((a,.gen g .finished)::Y) e fl (c5.setGen g .finished) Z1:=by
 refine fe y λo J E z r=>?_;have l:∀ {P:Prop},s.heap.get? a=Wv->P:=λq=>(dW q z).elim;have G:s.gens[g]?=Wv->False:=λq=>by rw[n] at q;cases q
 have run:(s.setGen g .running).gens[g]?=Wu .running:=eM n;have j:c5.heap.get? a=Wu o:=X.ext.kept a o z d;have u:a∉keys Y:=λq=>d (by rw[keys,LD];exact LJ _ q);have i:g∉gkeys Y:=λq=>p (by unfold gkeys;rw[NJ];exact LJ _ q);have W:Z1 a=Wv:=Pn.mpr λo q=>(X.ext.zgrow a o q).elim (λq=>dW V q) λq=>q.elim d l;refine⟨(X.sim.setGen (x:=.finished) i rfl).consGen (a:=a) (gs:=.finished) (xc o J E j r) (eM (X.ext.gkept g _ run p)) u i W,
  X.ext.unrun (x:=.finished) (λO O e=>e) rfl rfl (λb=>KP _) (λk=>KP _) (KJ ..) (λb Q=>(KZ.mp Q).imp (λe:b=a=>e▸KJ ..) id) (λk K q=>(KZ.mp K).resolve_left q),X.fr.app [_],al X.exc λv b=>⟨v,b.stays,b.new,b.frames,b.at_,λx q R N hx=>b.most x q R N ?_⟩⟩
 rcases hx with hx |hx |hx
 ·exact .inl hx
 ·rcases KZ.mp hx with e |e
  ·have e:x=a:=e;subst e;exact .inr (.inr ⟨λq=>l q,d⟩)
  ·exact .inr (.inl e)
 ·exact .inr (.inr ⟨hx.1,λq=>hx.2 (KP _ q)⟩)
section
variable(D:hW B){g:Nat}{gs:NZ}{gl Y:aa}{Q:Option Value->KY->Prop}(c:dt A (n+1))(C:kn N Y)(S:ca B s Z (((a,.gen g gs)::gl)++Y))
include D c C S
theorem aCh(h:dQ w B N n [] gl gs)(t:∀s' K,ca B s' K ((a,.gen g .finished)::Y)->hO (aj (((a,.gen g gs)::gl)++Y)) s Z s' K (aj ((a,.gen g .finished)::Y))->Q Wv s'):LC (Ly ab w) A (Nr (.ref a)) Q E s:=by
 have y:g∉gkeys (gl++Y):=(Lp.mp S.gnodup).1;have G:a∉keys (gl++Y):=(Lp.mp S.nodup).1;have M:=S.apart _ (KJ ..);refine aD (S.own _ (KJ ..)) λi j=>?_;rcases h with h |⟨-,rfl,rfl⟩
 ·refine sC c.h (D.lim s λa o e=>S.frozen a o (S.base a o e)) c.lt i j (h A.in1 c.in1 Y C .nil _ Z (S.drop1.setGen y rfl)) (λe c5 u=>u.1.elim (P:=λe=>e.quiet=Ww) rfl rfl) (λe c5 v u=>u.1.elim (P:=λe=>e.result=.yielded v->_) nofun nofun) λe c5 u => .inr ⟨u.1,λU d=>?_⟩;refine ag u.2 λK S' X=>?_;refine fe i λo L H m r=>?_;have J:a∉keys Y:=λq=>G (by rw[keys,LD];exact LJ _ q);have l:g∉gkeys Y:=λq=>y (by unfold gkeys;rw[NJ];exact LJ _ q);have ZZ:K a=Wv:=Pn.mpr λo q=>(X.zgrow a o q).elim (λq=>dW M q) λq=>q.elim G λz=>dW z m;have S2:=ca.more (s':={ c5.setGen g .finished with heap:=U }) (ca.setGen (x:=.finished) S' l rfl) d rfl;exact t _ K (S2.consGen (a:=a) (gs:=.finished) (xc o L H (d a o (X.kept a o m G)) r) (eM (X.gkept g _ (eM j) y)) J l ZZ)
   (X.unrun (x:=.finished) d rfl rfl (λb=>KP _) (λk=>KP _) (KJ ..) (λb V=>(KZ.mp V).imp (λe:b=a=>e▸KJ ..) id) λk d q=>(KZ.mp d).resolve_left q)
 ·refine nS i.typeIs Vm UR (Vp _) ?_;show LC _ _ (Pl (.ref a) (.send .none)) _ _ s;unfold Pl;refine KI (Lh (UA i (KI (UM j ?_))));have go:∀ {α:Type} {k:GenResult->Sem α} {Q:α->KY->Prop} {E:Value->KY->Prop},LC (Ly ab w) A.in1 (k .finished) Q E s->LC (Ly ab w) A.in1 (.resume g (.send .none) [] k) Q E s:=λd F p R=>by
   rw[Sem.wp_resume];exact⟨.finished,s,by unfold Wakes;rw[j];exact And.intro rfl rfl,d F p R⟩
  show LC _ _ (.resume g (.send .none) [] _) _ _ s;refine go ?_;show LC _ _ (VQ (.type "StopIteration") []>>=_) _ _ _;refine KI (vU λf W e u=>sW (A:=A.in1) c.h ⟨u,?_⟩);have d:∀b o,s.heap.get? b=Wu o->((s.heap.push f).push W).get? b=Wu o:=λb o V=>Ld _ (Ld _ V);exact t _ Z (S.keep (c5:={ s with heap:=(s.heap.push f).push W}) d (λO O e=>e) S.bare) ⟨.refl _,λb o q O=>d b o q,λO h => .inl h,λO O q => .inl q,rfl,λO O q O=>q,λO h => .inl h⟩
theorem aCg{r:AV}{rest:List AV}(h:dQ w B N n (r::rest) gl gs)(G:r.bad=Wx)(M:vl A (r::rest) Y)(L:∀s' z v d5 l,ca B s' z (((a,.gen g l)::d5)++Y)->Val z r v->dQ w B N n rest d5 l->hO (aj (((a,.gen g gs)::gl)++Y)) s Z s' z (aj (((a,.gen g l)::d5)++Y))->Q (Wu v) s'):LC (Ly ab w) A (Nr (.ref a)) Q E s:=by
 have h:ju w B N n (r::rest) gl gs:=h.resolve_right λq=>nomatch q.1;have i:g∉gkeys (gl++Y):=(Lp.mp S.gnodup).1;have j:a∉keys (gl++Y):=(Lp.mp S.nodup).1;have H:=S.apart _ (KJ ..);refine aD (S.own _ (KJ ..)) λy d=>sC c.h (D.lim s λa o e=>S.frozen a o (S.base a o e)) c.lt y d (h A.in1 c.in1 Y C M _ Z (S.drop1.setGen i rfl)) (λe c5 p=>(p.2 G).1) (λe c5 v p f=>lL (p.2 G).2 λv' z d5 J S' V X m=>?_) λe c5 p => .inl (fe (p.2 G).2 λv O O e O=>⟨v,e⟩);cases Tb (J.symm.trans f)
 refine fe y λo W R K r=>?_;have u:∀ {P:Prop},s.heap.get? a=Wv->P:=λq=>nomatch q.symm.trans K;have U:=(S'.setGen (x:=e.genState) (λq=>(X.ggrow g q).elim i λq=>nomatch q.symm.trans (eM d)) (Wq (p.2 G).1)).consGen (a:=a) (gs:=e.genState) (xc o W R (X.kept a o K j) r) (eM (X.gkept g _ (eM d) i)) (λq=>(X.grow a q).elim j u) (λq=>(X.ggrow g q).elim i λq=>nomatch q.symm.trans (eM d))
  (Pn.mpr λo e=>(X.zgrow a o e).elim (λq=>nomatch H.symm.trans q) λq=>q.elim j u)
 exact L _ z v d5 e.genState U V (.inl m) (X.unrun (x:=e.genState) (λO O e=>e) rfl rfl (λb=>KP _) (λk=>KP _) (KJ ..)
  (λb F=>(KZ.mp F).imp (λe:b=a=>e▸KJ ..) id) λk t q=>(KZ.mp t).resolve_left q)
theorem aCi{r:AV}{rest:List AV}(h:dQ w B N n (r::rest) gl gs)(H:r.bad=Ww)(J:A.frames=Wu g4)(L:hB g4 Y)(hE:∀e s' p,XP B "TypeError" (aj (((a,.gen g gs)::gl)++Y)) s Z g4 ((a,.gen g .finished)::Y) e (Wu .none) s' p->E (.ref e) s'):LC (Ly ab w) A (Nr (.ref a)) Q E s:=by
 have h:ju w B N n (r::rest) gl gs:=h.resolve_right λq=>nomatch q.1;have G:g∉gkeys (gl++Y):=(Lp.mp S.gnodup).1;have R:a∉keys (gl++Y):=(Lp.mp S.nodup).1;have P:=S.apart _ (KJ ..);refine aD (S.own _ (KJ ..)) λi k=>GQ i.typeIs Vm UR (Vp _) ?_;show LC _ _ (Pl (.ref a) (.send .none)) _ _ s;unfold Pl;refine KI (Lh (UA i (KI (UM k ?_))));have l:=h A.in1 c.in1 Y C (λO=>⟨g4,J,L⟩) _ Z (S.drop1.setGen (x:=.running) G rfl);have W:∀e c5,((r.bad=Ww->oI B A.in1 Y (aj (gl++Y)) (s.setGen g .running) Z e c5)/\(r.bad=Wx->e.quiet=Ww/\∃v p d,e.result=.yielded v/\ca B c5 p (d++Y)/\Val p r v/\hO (aj (gl++Y)) (s.setGen g .running) Z c5 p (aj (d++Y))/\ju w B N n rest d e.genState)) ->
   ∃x,e=.ret (.error (.ref x))/\c5.TypeIs (.ref x) "TypeError" /\ c5.heap.IsGen a g/\(∃o y u,c5.heap.get? a=Wu o/\o.data=.fields #[.int g 0,y,u])/\E (.ref x) (c5.setGen g .finished):=λe c5 K=>by
  refine bL (K.1 H) λx Xm p m f X=>?_;subst m;obtain rfl:g4=Xm:=No (J.symm.trans f);refine fe (id i) λo y u j z=>?_;have F:=X.ext.kept a o j R;exact⟨x,rfl,X.typ,⟨o,y,u,F,z⟩,⟨o,y,u,F,z.2.1⟩,hE x _ p (X.regen i k R G P)⟩
 cases gs with
 |running=>exact l.elim
 |finished=>exact l.elim
 |_ =>
  refine KI (wpAny_roomToWake (D.lim s λa o e=>S.frozen a o (S.base a o e)) c.lt ?_);show LC _ _ (.resume g (.send .none) [] _) _ _ s;refine CV k l (λe c5 K=>?_) λe c5 K=>?_
  ·refine ag (W e c5 K) λx t O=>?_;subst t;rfl
  ·obtain⟨x,rfl,V,-,⟨o,y,u,j,M⟩,U⟩:=W e c5 K;show LC _ _ (SD (.ref a) (.ref x)) _ _ (c5.setGen g .finished);have V:(c5.setGen g .finished).TypeIs (.ref x) "TypeError" := V;unfold SD Builtin.Generator.madeByALambda;refine KI ?_;show LC _ _ (load a>>=λo=>Nb _) _ _ _;refine KI (RX j (KN ?_));rw[M];refine KI (MR (T := "TypeError") (b:=Wx) V AU ?_);rw[QO,if_neg LZ];unfold Builtin.Generator.genEscaped;refine KI (MR (T := "TypeError") (b:=Wx) V AU ?_);exact Te ⟨V,U⟩
end
end
end
section
open PySem PySem.W PyProof.Rows
section
variable{N:aa}
def XP.perm{c:String}{e:LP}(X:XP B c ea c7 hY g4 Y e fl s Z)(p:Y.Perm a8):XP B c ea c7 hY g4 a8 e fl s Z:=X.after (X.sim.perm p) (cB p▸.refl) λf a=>⟨(X.fr f a).1,(X.fr f a).2.1,al (X.fr f a).2.2 λm d=>⟨m,p.mem_iff.mp d⟩⟩
section
variable{g:Nat}{gs:NZ}{gl Y:aa}{a7:List AV}{d:AV}
def aJt(W:hW B)(c:dt A (n+2))(R:kn N Y)(h:dQ w B N n a7 gl gs)(t:∀r rest,a7=r::rest->r.bad=Wx)(F:vl A a7 ((z.locals,.ns a6)::Y))
  (D:∀d5 e,dQ w B N n a7.tail d5 e->K (a7.headD d) ⟨a6,((a,.gen g e)::d5)++Y⟩):FC w A B z (.blt "next") [.ref a,d] [] ⟨a6,((a,.gen g gs)::gl)++Y⟩ K:=n5 λs Z S Q E C=>Vals.un2 (λx q y f=>by
 cases q
 refine RU (by decide +kernel) (by decide +kernel) kdk_entry_next (kdk_args_next2 _ _) ?_;unfold Builtin.«next»;refine KI (m:=someArgs "next" 1 2 _) (Mo (a:=[Pm a,y]) (by first |rfl |kernel_rfl!) ?_);dsimp only;have p:∀l:aa,((z.locals,el.ns a6)::(l++Y)).Perm (l++((z.locals,el.ns a6)::Y)):=λl=>MT.symm;have SL:=S.toL.perm (p _);refine KI (Oj (name:=KX "__next__") (show s.TypeIs (.ref a) "generator" from(SL.own _ (KJ ..)).1.typeIs) slot_gen_next.lookup ?_);refine SJ (λu=>absurd u ⋯) (λO=>?_);have k:∀s' i d5 e v,ca B s' i (((a,.gen g e)::d5)++((z.locals,.ns a6)::Y))->hO (aj (((a,.gen g gs)::gl)++((z.locals,.ns a6)::Y))) s Z s' i (aj (((a,.gen g e)::d5)++((z.locals,.ns a6)::Y)))->dQ w B N n a7.tail d5 e->Val i (a7.headD d) v->Q v s':=λs' i d5 e v o j G J=>by
  refine C _ v s' i _ (D d5 e G) (l9 (V:=⟨a6,((a,.gen g e)::d5)++Y⟩) (o.perm (p _).symm) S.kinds S.fn) J ?_;rw[bI,bI];rw[<-cB (p ((a,.gen g gs)::gl)),<-cB (p ((a,.gen g e)::d5))] at j;exact j
 cases a7 with
 |nil=>exact KI (aCh W c.in1 (R.cons _) SL h λs' i o j=>KN ⟨_,rfl,k s' i [] .finished y o j (.inr ⟨rfl,rfl,rfl⟩) (f.mono j.le)⟩)
 |cons r rest=>exact KI (aCg W c.in1 (R.cons _) SL h (t r rest rfl) F λs' i v d5 e o J G j=>KN ⟨_,rfl,k s' i d5 e v o j G J⟩))
def aJQ{r:AV}{rest:List AV}{K:St->Prop}(b:hW B)(f:dt A (n+2))(J:kn N Y)(h:dQ w B N n (r::rest) gl gs)(u:r.bad=Ww)(j:A.frames=Wu (z::g4))(G:z.frame=Wu z.locals)(v:hB g4 Y)
  (R:K ⟨a6,(a,.gen g .finished)::Y⟩):oG w A B "TypeError" z g4 (.blt "next") [.ref a,d] ⟨a6,((a,.gen g gs)::gl)++Y⟩ K:=λs Z D W t F S Q E c=>by
 cases t
 revert W;refine Vals.un2 λx p y C=>?_;cases p
 refine RU (by decide +kernel) (by decide +kernel) kdk_entry_next (kdk_args_next2 _ _) ?_;unfold Builtin.«next»;refine KI (m:=someArgs "next" 1 2 _) (Mo (a:=[Pm a,y]) (by first |rfl |kernel_rfl!) ?_);dsimp only;have i:∀l:aa,((z.locals,el.ns a6)::(l++Y)).Perm (l++((z.locals,el.ns a6)::Y)):=λl=>MT.symm;have SL:=S.toL.perm (i _);refine KI (Oj (name:=KX "__next__") (show s.TypeIs (.ref a) "generator" from(SL.own _ (KJ ..)).1.typeIs) slot_gen_next.lookup ?_);refine SJ (λk=>absurd k ⋯) (λO=>?_);refine KI (aCi b f.in1 (J.cons _) SL h u j (hB.push (V:=⟨a6,Y⟩) v G (by rw[S.fn];decide)) λe o q X=>?_);exact c e (Wu .none) o q ⟨a6,(a,.gen g .finished)::Y⟩ R S.kinds (.inr (.inl rfl)) ((X.own (cB (i _).symm)).perm (i [_]).symm)
end
end
end
section
open PySem PySem.W PyProof.Rows
def Ee:List AV->AV
 | [] => .str ⟨⟨[]⟩⟩
 |r::_=>if r.bad then .none else r
def Ec:List AV->List AV
 | []=>[]
 |r::rest=>if r.bad then [] else rest
def aEr{g:Nat}(u:dt A (n+8))(l:A.frames=Wu g4)(j:hB g4 Y)(s:kn N Y)(h:dQ w (af w) N n a7 gl gs):TC w A (af w) (.ref 298) [.ref a] [] (((a,.gen g gs)::gl)++Y) λv a8=>v=Ee a7/\∃d5 WP,a8=((a,.gen g WP)::d5)++Y/\dQ w (af w) N n (Ec a7) d5 WP:=by
 refine en [(yT,.ref a)] (bq w) u.lt (λO=>@_) @_ @_ (aFY _) λL E=>?_;have d:=u.deeper (k:=n+5) (z:=av (ak (gv w.params)) L 298 297);have p:=(gk w (A.deeper _) (ak (gv w.params)) L 298 297 @_ @_ d.h).g (aFA w) @_ @_;have y:(av (ak (gv w.params)) L 298 297).scope.kind ≠ .module:=by
  rw[show (av (ak (gv w.params)) L 298 297).scope.kind=.function from @_];decide
 have o:=Qn (env:=av (ak (gv w.params)) L 298 297) l;by_cases i:∀r rest,a7=r::rest->r.bad=Wx
 ·refine aw (Jr (bE p 10 (ax.mk (aJt (bq w) (d.mono (Ow _ 3)) s h i (λO=>⟨_,o,hB.push (V:=⟨_,Y⟩) j rfl y⟩) λd5 WP x=>?_))));cases a7 with
  |nil=>exact⟨rfl,d5,WP,rfl,x⟩
  |cons r rest =>
   have q:=i r rest rfl;exact⟨by show r=if r.bad then _ else _;rw[q];rfl,d5,WP,rfl,by show dQ _ _ _ _ (if r.bad then _ else _) _ _;rw[q];exact x⟩
 ·cases a7 with
  |nil=>exact absurd (λO O q=>nomatch q) i
  |cons r rest =>
   cases q:r.bad with
   |false=>exact absurd (λO O e=>(Ni e).1▸q) i
   |true =>
    refine aw (aIy (T' := "TypeError") (g4:=g4) (c := "TypeError") o rfl (by rw[Mm];kernel_rfl) (by rw[Mm];kernel_rfl) (by rw[Mm];kernel_rfl)
     (lD (Jm (rO rfl @_ (ae p 5 ⟨ic,aO p 10 (aJQ (bq w) (d.mono (Ow _ 3)) s h q o rfl j λe=>?_)⟩)))))
    refine oC (wv w) @_ @_ @_ @_ ⟨rfl,j.app [_],?_⟩;refine aw (jy (jB ⟨?_,[],.finished,rfl,?_⟩))
    ·show AV.none=if r.bad then _ else _
     rw[q];rfl
    ·show dQ _ _ _ _ (if r.bad then _ else _) _ _;rw[q];exact .inr ⟨rfl,rfl,rfl⟩
end
def ca.lose(S:ca B s Z ((C,ao)::Y))(i:LL C s.heap h'):ca B {s with heap:=h' } Z Y/\hO (aj ((C,ao)::Y)) s Z {s with heap:=h' } Z (aj Y):=by
 have l:C∉keys Y:=(Lp.mp S.nodup).1;have j:Z C=Wv:=S.apart _ (KJ ..);have d:=S.drop1;refine⟨⟨d.base,λa o e=>i.extBut a o (λq=>by rw[q,j] at e;cases e) (d.frozen a o e),d.nodup,d.apart,λp k=>(d.own p k).mono (.refl _) (λo e=>i.extBut _ o (λq=>l (q▸Lv k)) e) (λO O O e=>e),d.gnodup,d.bare⟩,
  ⟨.refl _,λa o e h=>i.extBut a o (λq=>h (q▸KJ ..)) e,λa h => .inl (KP _ h),λO O e => .inl e,rfl,λO O e O=>e,λg h => .inl (Ig h)⟩⟩
section
variable{N:aa}
abbrev lT(qu:List Expr)(z:Env):Sem Bool:=forIn qu Ww λc r=>if r=Ww then do let a <-isTrue c z (ME c z);Nb (Vi a) else Nb (Vi r)
def rN{K:Bool->St->Prop}(h:K Ww V):T w A B z aM (lT [] z) V K:=λs Z S Q E a=>KN (a Ww Ww s Z V h S rfl .refl)
def Jl{K:Bool->St->Prop}(h:T w A B z aM (isTrue c z (ME c z)) V K):T w A B z aM (lT [c] z) V K:=λs Z S Q E a =>
 wpAny_tests_one (h s Z S Q E a)
def aHo{R:Result->KY->Prop}{it:Value}(I:Nat->KY->Prop)
  (i:∀n s,I n s->LC (Ly ab w) A (Nr it) (λr c5=>match r with
   |none=>R (.ok .next) c5
   |some v=>LC (Ly ab w) A (Mq ap it v) (λO c5=>LC (Ly ab w) A (MM ap z v) (λO E =>
     LC (Ly ab w) A (lT qu z) (λo l =>
      if o=Ww then LC (Ly ab w) A (ME d7 z) (λx y =>
       LC (Ly ab w) A (call (.builtin "list.append") [d8,x]) (λO u=>∃m,m<n/\I m u) (Qp (Ly ab w) A z λe s'=>R (.error e) s') y) (Qp (Ly ab w) A z λe s'=>R (.error e) s') l
      else ∃m,m<n/\I m l) (Qp (Ly ab w) A z λe s'=>R (.error e) s') E) (Qp (Ly ab w) A z λe s'=>R (.error e) s') c5) (Qp (Ly ab w) A z λe s'=>R (.error e) s') c5) (Qp (Ly ab w) A z λe s'=>R (.error e) s') s)
  (n:Nat) (h:I n s):PA (Ly ab w) A (.compLoop (.ListComp d7 [⟨ap,iter,qu,0⟩] a5 a9) 0 it d8 z) R s:=by
 refine codeAny_loop rfl I (λn s K=>?_) n h;show LC _ A ((compTurn (.ListComp d7 [⟨ap,iter,qu,0⟩] a5 a9) 0 it d8 z).onRaise (λx=>do Qo x z;PT x)) _ _ s;refine wpAny_noted ?_;rw[compTurn_list];refine KI (LN (KI (Mg (i n s K) (λr c5 G=>?_) λO O a=>a)));cases r with
 |none=>exact KN G
 |some v =>
  refine KI (Mg G (λO J p=>KI (Mg p (λO E N=>KI (Mg N (λo l d=>?_) λO O a=>a)) λO O a=>a)) λO O a=>a);cases o with
  |false=>exact KN ⟨rfl,d⟩
  |true =>
   exact KI (KI (Mg d (λx y k=>KI (Mg k (λO u j=>KN (KN ⟨rfl,j⟩)) λO O a=>a)) λO O a=>a))
def iC(w:Lz)(A:Lk)(B:eb)(a:Env)(ap d7:Expr)(qu:List Expr)(N:aa)(J:List (Str×AV)->Prop)(x:AV)(y:Option AV):Prop:=∀a6,J a6->∀Y,kn N Y->F1 w A B a aQ (MM ap a) x ⟨a6,Y⟩ λO i=>T w A B a aM (lT qu a) i λb d =>
  if b then T w A B a Val (ME d7 a) d λv e=>y=Wu v/\e.led=Y/\J e.loc else y=Wv/\d.led=Y/\J d.loc
inductive WT (w:Lz) (A:Lk) (B:eb) (WC:Env) (ap d7:Expr) (qu:List Expr) (N:aa) (J:List (Str×AV)->Prop) (k:Nat) (it D:LP) (l0:aa) (YB:List AV) (o:vn) (s:KY) (Z:eb):Nat->KY->Prop
 |mk {s':KY} {Z':eb} {ft:List (Str×AV)} {d5:aa} {ps:List (AV×Option AV)} {d8:List AV} (ha:d8++ps.filterMap (·.2)=YB) (hz:d8.length+ps.length<=LY) (hJ:J ft) (S:ff B WC s' Z' ⟨ft,((D,.list d8)::l0)++d5⟩)
  (hI:eg w B [] k ap it (ps.map (·.1)) d5) (hs:∀p∈ps,iC w A B WC ap d7 qu N J p.1 p.2) (X:hO o s Z s' Z' (ay WC ⟨ft,((D,.list d8)::l0)++d5⟩)):WT w A B WC ap d7 qu N J k it D l0 YB o s Z ps.length s'
def aIc(W:List α)(y:α)(zs:List α):W++[y]++zs=W++y::zs:=LH ..
def aIa{a m:Nat}(h:a+(p+1)<=m):a+p<=m/\a+1+p<=m/\a<m:=⟨Wn h,Mc (Oz (Qi a 1 p)) h,OA (Nat.lt_succ_of_le (Ow a p)) h⟩
def aHh{R:Result->KY->Prop}(hA:dt A k)(hN:kn N l0)
   {ys:List (Option AV)} (i:W.length=ys.length) (d6:W.length<=LY)
  (hI:eg w B [] k ap it W gl) (d:∀p∈W.zip ys,iC w A B t ap d7 qu N J p.1 p.2) (hJ:J a6)
  (S:ff B t s Z ⟨a6,((D,.list [])::l0)++gl⟩)
  (hR:∀s' Z' ft,ff B t s' Z' ⟨ft,(D,.list (ys.filterMap id))::l0⟩->hO (ay t ⟨a6,((D,.list [])::l0)++gl⟩) s Z s' Z' (ay t ⟨ft,(D,.list (ys.filterMap id))::l0⟩)->R (.ok .next) s'):PA (Ly ab w) A (.compLoop (.ListComp d7 [⟨ap,iter,qu,0⟩] a5 a9) 0 (.ref it) (.ref D) t) R s:=by
 have e1:(W.zip ys).map (·.1)=W:=List.map_fst_zip (Oz i);have X:(W.zip ys).filterMap (·.2)=ys.filterMap id:=(Oh (f:=λp:AV×Option AV=>p.2) (g:=id)).symm.trans (congrArg (SC id) (List.map_snd_zip (Oz i.symm)));have e3:(W.zip ys).length=W.length:=by rw[List.length_zip,i,Nat.min_self]
 generalize ys.filterMap id=j at X hR;generalize W.zip ys=x at e1 X e3 d;subst e1;refine aHo (WT w A B t ap d7 qu N J k it D l0 j (ay t ⟨a6,((D,.list [])::l0)++gl⟩) s Z) ?_ x.length (.mk (d8:=[]) X (by simp only[LA,OJ,e3];exact d6) hJ S hI d .refl);clear hI d hJ S d6 e3 X i;intro n s' Y;induction Y with
 | @mk s' Z' ft d5 x d8 a C M S' o l X' =>
 cases x with
 |nil=>exact wj o hA .nil S' λK Z3 S3 X3=>(show d8=j from(Ms d8).symm.trans a)▸hR K Z3 ft (((show d8=j from(Ms d8).symm.trans a))▸S3) (((show d8=j from(Ms d8).symm.trans a))▸X'.trans X3)
 |cons p x =>
  have hz:=aIa C;refine Mg (wh o hA .nil S' (Q:=λr c5=>match r with
    |none=>False
    |some v=>LC (Ly ab w) A (MM ap t v) (λO s2 =>
     LC (Ly ab w) A (lT qu t) (λok K =>
      if ok=Ww then LC (Ly ab w) A (ME d7 t) (λx1 s4 =>
       LC (Ly ab w) A (call (.builtin "list.append") [.ref D,x1]) (λO s5=>∃m,m<(p::x).length/\WT w A B t ap d7 qu N J k it D l0 j (ay t ⟨a6,((D,.list [])::l0)++gl⟩) s Z m s5) (Qp (Ly ab w) A t λe s'=>R (.error e) s') s4) (Qp (Ly ab w) A t λe s'=>R (.error e) s') K
      else ∃m,m<(p::x).length/\WT w A B t ap d7 qu N J k it D l0 j (ay t ⟨a6,((D,.list [])::l0)++gl⟩) s Z m K) (Qp (Ly ab w) A t λe s'=>R (.error e) s') s2) (Qp (Ly ab w) A t λe s'=>R (.error e) s') c5)
    λK Z3 v P S3 V3 X3 E=>?_) (λr c5 h1=>?_) λO O h=>h
  ·refine l p (KJ ..) ft M _ (λp hp=>Mn _ (KP _ (hN p hp))) K Z3 v V3 S3 _ _ λO O s4 Z4 Xv y S4 O X4=>y s4 Z4 S4 _ _ λb c s5 Z5 XM V S5 V5 X5=>?_;have X6:=((X'.trans X3).trans X4).trans X5;have F:=λq hq=>l q (KP _ hq);clear X' X3 X4 X5 S3 V3 y S4 S' o l M hR;have hb:c=b:=V5;subst hb;clear V5;cases c with
   |false =>
    rw[if_neg LZ] at V ⊢;obtain⟨sj,Yc⟩:=XM;refine jI V λhy e L=>?_;clear V;dsimp only at e L;subst e;exact⟨x.length,NC _,.mk ((congrArg (d8 ++ ·) (Ux hy).symm).trans a) hz.1 L S5 E F X6⟩
   |true =>
    rw[if_pos rfl] at V ⊢;refine V s5 Z5 S5 _ _ λu z s6 Z6 YQ k6 S6 V6 G=>?_;have X7:=X6.trans G;clear X6 G S5 V;obtain⟨WG,YW⟩:=YQ;refine jI k6 λhy e H=>?_;clear k6;dsimp only at e H;subst e;have hf:FC w A B t (.blt "list.append") [.ref D,u] [] ⟨WG,((D,.list d8)::l0)++P⟩ λO di=>di=⟨WG,((D,.list (d8++[u]))::l0)++P⟩:=CB (W:=d8) (MW hz.2.2) .here rfl;refine hf s6 Z6 (.builtin "list.append") [.ref D,z] [] (.blt _) (.cons (.ref _) (.cons V6 .nil)) .nil S6 _ _ λO O s7 Z7 f0 k7 S7 O U=>?_;subst k7;exact⟨x.length,NC _,.mk (((aIc ..).trans (congrArg (d8 ++ ·) (Pj hy).symm)).trans a) ((Lb (as:=d8) (bs:=[u]))▸hz.2.1) H S7 E F (X7.trans U)⟩
  ·cases r with
   |none=>exact h1.elim
   |some v=>exact h1
end
section
variable{N:aa}
def aDX(vars:List Str)(y:Str):(vars.map λx=>(x,AV.any)).lookup y=Wv\/(vars.map λx=>(x,AV.any)).lookup y=Wu .any:=by
 induction vars with
 |nil=>exact .inl rfl
 |cons x vars a =>
  rw[Le,Lu];cases y==x with
  |true=>exact .inr rfl
  |false=>exact a
def aDW{vars:List Str}(h:(vars.map λx=>(x,AV.any)).lookup y=Wu v):y∈vars:=by
 induction vars with
 |nil=>cases h
 |cons x vars a =>
  rw[Le,Lu] at h;cases q:y==x with
  |true=>rw[beq_iff_eq.mp q];exact KJ ..
  |false=>rw[q] at h;exact KP _ (a h)
def ca.drops{l:aa}:∀ {X:aa},ca B s Z (X++l)->ca B s Z l
 | [],h=>h
 |_::_,h=>ca.drops h.drop1
def aHg{a5:Scope}{l:aa}{m:List (Str×AV)}
  (c:dt A k) (R:kn N l) (j:a5.kind=.function) (G:∀x v,m.lookup x=Wu v->(Qx a5 cl C z).kindOf x=Wu .local)
   {ys:List (Option AV)} (n:W.length=ys.length) (d6:W.length<=LY)
  (b:eg w B [] k ap it W gl) (i:gb w B it gl)
  (e:∀p∈W.zip ys,iC w A B (Qx a5 cl C z) ap d7 qu (X++N) J p.1 p.2) (Y:J m)
  (S:ca B s2 Z (X++(C,.ns m)::(D,.list [])::(z.locals,.ns a6)::(gl++l)))
  (f:hO (aj ((z.locals,.ns a6)::(gl++l))) s Z s2 Z (aj (X++(C,.ns m)::(D,.list [])::(z.locals,.ns a6)::(gl++l))))
  (y:∀s' o cV,ca B s' o ((C,.ns cV)::(D,.list (ys.filterMap id))::(z.locals,.ns a6)::l) ->
   hO (aj ((z.locals,.ns a6)::(gl++l))) s Z s' o (aj ((C,.ns cV)::(D,.list (ys.filterMap id))::(z.locals,.ns a6)::l))->RR (.ok .next) s'):PA (Ly ab w) A (.compStart (.ListComp d7 [⟨ap,iter,qu,0⟩] a5 a9) 0 (.ref it) (.ref D) (Qx a5 cl C z)) RR s2:=by
 have r:(X++(C,el.ns m)::(D,.list [])::(z.locals,.ns a6)::(gl++l)).Perm ((C,el.ns m)::(((D,.list [])::(X++(z.locals,.ns a6)::l))++gl)):=MT.trans (NN _ (MT.trans (NN _ (Ml.trans ((NN _ Li).append_left X) (Vh (LH X ((z.locals,el.ns a6)::l) gl).symm)))))
 have h:ff B (Qx a5 cl C z) s2 Z ⟨m,((D,.list [])::(X++(z.locals,.ns a6)::l))++gl⟩ :=
  l9 (z:=Qx a5 cl C z) (V:=⟨m,((D,.list [])::(X++(z.locals,.ns a6)::l))++gl⟩) (S.perm r) G j
 have d:PA (Ly ab w) A (.compLoop (.ListComp d7 [⟨ap,iter,qu,0⟩] a5 a9) 0 (.ref it) (.ref D) (Qx a5 cl C z)) RR s2:=by
  refine aHh c (N:=X++N) (l0:=X++(z.locals,.ns a6)::l) (λp u=>(Md.mp u).elim (Mn _) λu=>LJ _ (KP _ (R p u))) n d6 b e Y h λs' o ft q E=>y s' o ft (q.toL.perm ((NN _ MT.symm).trans MT.symm)).drops ?_;simp only[bI] at E;refine f.trans ?_;rw[cB r];have sub:((C,el.ns ft)::(D,.list (ys.filterMap id))::(z.locals,.ns a6)::l).Sublist ((C,.ns ft)::(D,.list (ys.filterMap id))::(X++(z.locals,.ns a6)::l)):=.cons₂ _ (.cons₂ _ (List.sublist_append_right X _));exact E.less (λa Q=>(sub.map _).subset Q) λg K=>(sub.filterMap _).subset K
 exact codeAny_compStart_list d (i A _ s2 Z (S.perm (r.trans (Li (l₁:=(C,el.ns m)::(D,.list [])::(X++(z.locals,.ns a6)::l)) (l₂:=gl)))) _ _ d)
def IN{RR:Value->LP->Result->KY->Prop}{a5:Scope}{l gl:aa}{vars:List Str}
  (M:dt A k) (t:kn N l) (n:∀y∈a5.names,y.2 ≠ .cell) (a:a5.kind=.function) (hv:∀x∈vars,a5.names.lookup x=Wu .local)
   {ys:List (Option AV)} (K:W.length=ys.length) (d6:W.length<=LY)
  (H:eg w B [] k ap it W gl) (j:gb w B it gl)
  (i:∀L,∀p∈W.zip ys,iC w A B (Qx a5 cl L z) ap d7 qu N J p.1 p.2) (F:J (vars.map λx=>(x,.any)))
  (S:ff B z s Z ⟨a6,gl++l⟩)
  (V:∀D C s' c cV,ca B s' c ((C,.ns cV)::(D,.list (ys.filterMap id))::(z.locals,.ns a6)::l) ->
   hO (aj ((z.locals,.ns a6)::(gl++l))) s Z s' c (aj ((C,.ns cV)::(D,.list (ys.filterMap id))::(z.locals,.ns a6)::l))->RR (.ref D) C (.ok .next) s'):LC (Ly ab w) A (newList []) (λd8 g=>LC (Ly ab w) A (newFunctionEnv a5 z.globals cl [] z.qual Wv .none (Wu z)) (λd f =>
   PA (Ly ab w) A (.compStart (.ListComp d7 [⟨ap,iter,qu,0⟩] a5 a9) 0 (.ref it) d8 {d with scope:=relabel a5 z}) (RR d8 d.locals) f) E g) E s:=by
 refine Mk ?_;have S0:=S.toL;have R:=S0.push (o:={ cls:=.type "list",dict:=Wv,data:=.seq ([]:List Value).toArray}) (ao:=.list []) rfl s.toks ⟨_,_,Lc _ rfl,.nil⟩;generalize q:({s with heap:=s.heap.push {cls:=.type "list",dict:=Wv,data:=.seq ([]:List Value).toArray},toks:=s.toks}:KY)=s1 at R;generalize s.heap.objs.size=D at R ⊢;refine aD R λS1 U=>?_;clear R;refine RC n (by intro y h;simp at h) (λY G u=>?_) a;have r:∀b o,s1.heap.get? b=Wu o->Y.get? b=Wu o:=λb o e=>u.extBut b o (MA (Mf e)) (Ld _ e);have Q:=S1.newAt (h':=Y) (ao:=.ns (vars.map λx=>(x,.any))) rfl (s1.toks+([]:List (Str×Value)).length) r ⟨_,G,λy=>by
  rcases aDX vars y with e |e
  ·rw[e];exact .none
  ·rw[e];exact .any⟩
 generalize m:({s1 with heap:=Y,toks:=s1.toks+([]:List (Str×Value)).length}:KY)=s2 at Q ⊢;generalize s1.heap.objs.size=C at Q ⊢;refine aD Q λS2 P=>?_;clear Q;exact aHg (X:=[]) M t a (λx v e=>lookup_relabel_local (hv x (aDW e))) K d6 H j (i C) F S2 (U.trans P) (V D C)
def xw(w:Lz)(A:Lk)(B:eb)(z:Env)(k:Nat)(N:aa)(vars:List Str)(a5:Scope)(cl:List (Str×LP))(d7 ap:Expr)(qu:List Expr)(J:List (Str×AV)->Prop)(K:List AV->St->Prop)(u:AV)(ia:St):Prop:=∃it a l W ys,u=.ref it/\ia.led=a++l/\eg w B [] k ap it W a/\gb w B it a/\kn N l/\W.length=ys.length/\W.length<=LY /\
  (∀L,∀p∈W.zip ys,iC w A B (Qx a5 cl L z) ap d7 qu N J p.1 p.2)/\K (ys.filterMap id) ⟨ia.loc,l⟩
def wW(vars:List Str)
  (hA:dt A k) (R:Sb a5 z=Nb cl) (Y:(a5.names.all λy=>y.2 != .cell)=Ww) (i:a5.kind=.function) (j:(a5.names.all λx=>x.2 != .local||a5.names.lookup x.1==Wu .local)=Ww)
  (hv:(vars.all λx=>a5.names.lookup x==Wu .local)=Ww) (hs:∀x,NP iter z x=Nb x) (hJ:J (vars.map λx=>(x,.any)))
  (h:T w A B z Val (ME iter z) V λv fI=>F1 w A B z Val Pz v fI λu ia=>xw w A B z k N vars a5 cl d7 ap qu J (λys p=>∀D,D∉keys p.led->K (.ref D) ⟨p.loc,(D,.list ys)::p.led⟩) u ia):T w A B z Val (ME (.ListComp d7 [⟨ap,iter,qu,0⟩] a5 a9) z) V K:=λs Z S Q E hQ=>by
 have n:∀y∈a5.names,y.2 ≠ .cell:=λy f=>by simpa using LS.mp Y y f
 have d:∀y∈a5.names,y.2=.local->a5.names.lookup y.1=Wu .local:=λy f e=>by
  have:=LS.mp j y f;simpa[e] using this
 have g:∀x∈vars,a5.names.lookup x=Wu .local:=λx X=>by simpa using LS.mp hv x X
 simp only[eval_ListComp];refine Vl (use:=Wv) rfl hs R i d (h s Z S _ _ λv x c5 Z1 fI b S1 V1 X1=>b c5 Z1 x V1 S1 _ _ λu y s2 Z2 ia o t V2 X2=>?_);obtain⟨a,F⟩:=ia;refine CL o λit gl l W ys O6 e hI G hN c d6 r H=>?_;clear o;subst O6;dsimp only at e H;subst e
 (have e_:=V2.inv;subst e_)
 refine IN (RR:=λd8 C=>compPost (Ly ab w) A E Wv Q d8 C) hA hN n i g c d6 hI G r hJ t λD C U L cV P X'=>ag (P.own _ (KJ ..)) λm hn O=>cL m hn (λh' q=>aD (P.lose q) λS3 X3=>?_);have S4:=S3.perm (l':=(z.locals,.ns a)::(D,.list (ys.filterMap id))::l) (Nc ..);have M:ff B z {U with heap:=h' } L ⟨a,(D,.list (ys.filterMap id))::l⟩:=l9 (V:=⟨a,(D,.list (ys.filterMap id))::l⟩) S4 t.kinds t.fn;refine hQ (.ref D) (.ref D) _ L _ (H D (Lp.mp M.nodup).1) M (.ref _) ((X1.trans X2).trans ?_);simp only[bI,bI];refine(X'.trans X3).trans ?_;rw[cB (l:=(D,.list (ys.filterMap id))::(z.locals,.ns a)::l) (l':=(z.locals,.ns a)::(D,.list (ys.filterMap id))::l) (Nc ..)];exact .refl
def aKy(w:Lz)(A:Lk)(B:eb)(Xj:Env)(N:aa)(elt ap iter:Expr)(qu:List Expr)(scope:Scope)(cl:List (Str×LP))(pos:Pos)(k:Nat)(Step:List AV->List (Option AV)->Prop):Prop:=∀ {RR:Value->LP->Result->KY->Prop} {E:Value->KY->Prop} {s:KY} {Z:eb} {it:LP} {l gl:aa} {loc:List (Str×AV)} {xs:List AV} {ys:List (Option AV)},kn N l->xs.length=ys.length->xs.length<=LY->eg w B [] k ap it xs gl->gb w B it gl->Step xs ys ->
  ff B Xj s Z ⟨loc,gl++l⟩->(∀D C s' Z' cV,ca B s' Z' ((C,.ns cV)::(D,.list (ys.filterMap id))::(Xj.locals,.ns loc)::l) ->
   hO (aj ((Xj.locals,.ns loc)::(gl++l))) s Z s' Z' (aj ((C,.ns cV)::(D,.list (ys.filterMap id))::(Xj.locals,.ns loc)::l))->RR (.ref D) C (.ok .next) s') ->
  LC (Ly ab w) A (newList []) (λacc s3=>LC (Ly ab w) A (newFunctionEnv scope Xj.globals cl [] Xj.qual Wv .none (Wu Xj)) (λWC s4 =>
   PA (Ly ab w) A (.compStart (.ListComp elt [⟨ap,iter,qu,0⟩] scope pos) 0 (.ref it) acc {WC with scope:=relabel scope Xj}) (RR acc WC.locals) s4) E s3) E s
def aKx(w:Lz)(B:eb)(k:Nat)(N:aa)(ap:Expr)(Step:List AV->List (Option AV)->Prop)(K:List AV->St->Prop)(u:AV)(ia:St):Prop:=∃it a l W ys,u=.ref it/\ia.led=a++l/\eg w B [] k ap it W a/\gb w B it a/\kn N l/\W.length=ys.length/\W.length<=LY/\Step W ys/\K (ys.filterMap id) ⟨ia.loc,l⟩
def aIB{X Y:Pos}{a5:Scope}{Step:List AV->List (Option AV)->Prop}{V:St}{K:dr->St->Prop}
  (Zc:Sx (.ListComp d7 [⟨ap,iter,qu,0⟩] a5 a9) (Wu (.Name x X)) Y.line z=Nb Ww)
  (Yp:aKy w A B z N d7 ap iter qu a5 cl a9 k Step) (P:Sb a5 z=Nb cl) (M:a5.kind=.function) (R:(a5.names.all λx=>x.2 != .local||a5.names.lookup x.1==Wu .local)=Ww)
  (hs:∀x,NP iter z x=Nb x)
  (h:T w A B z Val (ME iter z) V λv fI=>F1 w A B z Val Pz v fI λu ia=>aKx w B k N ap Step (λys f=>∀D,D∉keys f.led->F1 w A B z aQ (Ok z x) (.ref D) ⟨f.loc,(D,.list ys)::f.led⟩ λO G=>K .next G) u ia):T w A B z fv (exec (.Assign [.Name x X] (.ListComp d7 [⟨ap,iter,qu,0⟩] a5 a9) Y) z) V K:=λs Z S Q E hQ=>by
 have r:∀y∈a5.names,y.2=.local->a5.names.lookup y.1=Wu .local:=λy hy e=>by
  have:=LS.mp R y hy;simpa[e] using this
 rw[exec_Assign_Name_used _ _ _ _ Zc];refine KI (LN (KI ?_));show LC _ A (do let _ <-comprehension (.ListComp d7 [⟨ap,iter,qu,0⟩] a5 a9) a5 z _ (newList []) Wx (ME iter z) (Wu (MM (.Name x X) z))) _ _ s;refine KI (Mg (Vl (use:=Wu (MM (.Name x X) z)) (Q:=λO J=>Q .next J) rfl hs P M r
  (h s Z S _ _ λv x c5 Z1 fI k₁ S1 V1 X1=>k₁ c5 Z1 x V1 S1 _ _ λu y s2 Z2 ia c S2 V2 X2=>?_)) (λO J hq=>KN (KN hq)) λO O e=>e)
 obtain⟨i,YX⟩:=ia;refine CL c λit gl l W ys O6 e hI F hN Yj d6 t hK=>?_;clear c;subst O6;dsimp only at e hK;subst e
 (have e_:=V2.inv;subst e_)
 refine Yp (RR:=λd8 C=>compPost (Ly ab w) A E (Wu (MM (.Name _ X) z)) (λO J=>Q .next J) d8 C) hN Yj d6 hI F t S2 λD C J Z' cV S' X'=>?_;have S3:=S'.drop1;have S4:=S3.perm (l':=(z.locals,.ns i)::(D,.list (ys.filterMap id))::l) (Nc ..);have SF:ff B z J Z' ⟨i,(D,.list (ys.filterMap id))::l⟩:=l9 (V:=⟨i,(D,.list (ys.filterMap id))::l⟩) S4 S2.kinds S2.fn;refine ag (S'.own _ (KJ ..)) λm hn O=>?_;dsimp only at hn;have hC:C∉keys ((D,.list (ys.filterMap id))::(z.locals,.ns i)::l):=(Lp.mp S'.nodup).1;have ZR:Z' C=Wv:=S'.apart _ (KJ ..);have j : ¬ (ay z ⟨i,(D,.list (ys.filterMap id))::l⟩).at_ C:=by
  rintro (q |q)
  ·exact hC (q▸KP _ (KJ ..))
  ·rcases KZ.mp q with q |q
   ·exact hC (q▸KJ ..)
   ·exact hC (KP _ (KP _ q))
 have Xf:hO (ay z V) s Z J Z' (aj ((C,.ns cV)::(D,.list (ys.filterMap id))::(z.locals,.ns i)::l)):=by
  have:=X1.trans X2;simp only[bI (z:=z) ⟨i,gl++l⟩] at this;exact this.trans X'
 have ZQ:(ay z V).at_ C\/s.heap.get? C=Wv:=Xf.grow C (KJ ..);have Xa:hO (ay z V) s Z J Z' (ay z ⟨i,(D,.list (ys.filterMap id))::l⟩):=by
  refine(X1.trans X2).trans ?_;simp only[bI,bI];refine X'.less (λa ha=>?_) λg hg=>?_
  ·rcases KZ.mp ha with q |ha
   ·exact q▸KP _ (KP _ (KJ ..))
   ·rcases KZ.mp ha with q |ha
    ·exact q▸KP _ (KJ ..)
    ·exact KP _ (KP _ (KP _ ha))
  ·exact hg
 show LC _ A (MM (.Name _ X) z (.ref D)) _ _ _;refine wpAny_assign_Name (hK D (Lp.mp SF.nodup).1 J Z' (.ref D) (.ref _) SF _ _ λO O s4 Z4 G Yd d O X4=>fe (id hn) λoc YT YU L H=>?_);have Yi:=X4.kept _ _ L j;refine cL m ⟨oc,YT,YU,Yi,H⟩ (λh' Yh=>?_);have Xq:∀a,(ay z G).at_ a->a≠C:=λa ha q=>by
  subst q;rcases X4.grow a ha with q |q
  ·exact j q
  ·rw[L] at q;cases q
 have ZK:Z4 C=Wv:=by
  cases e:Z4 C with
  |none=>rfl
  |some o =>
   rcases X4.zgrow C o e with q |q |q
   ·rw[ZR] at q;cases q
   ·exact(j q).elim
   ·rw[L] at q;cases q
 have n:∀b o,b≠C->s4.heap.get? b=Wu o->h'.get? b=Wu o:=λb o hb e=>Yh.extBut b o hb e;refine hQ _ _ _ Z4 G Yd ⟨⟨d.base,λa o e=>n a o (λq=>by rw[q,ZK] at e;cases e) (d.frozen a o e),d.nodup,d.apart,λp hp=>(d.own p hp).mono (.refl _) (λo e=>n _ o (Xq _ (.inr (Lv hp))) e) (λO O O e=>e),d.gnodup,d.bare⟩,
  d.locZ,d.locL,n6 (.refl _) (λo e=>n _ o (Xq _ (.inl rfl)) e) d.loc,d.kinds,d.fn⟩ .next ?_
 have U:=Xa.trans X4;refine⟨U.le,λa o e h=>n a o (λq=>?_) (U.kept a o e h),U.grow,U.zgrow,U.os,U.gkept,U.ggrow⟩;subst q;rcases ZQ with q |q
 ·exact h q
 ·rw[q] at e;cases e
def BS{e:Pos}{K:dr->St->Prop}(vars:List Str)
  (E:Sx (.ListComp d7 [⟨ap,iter,qu,0⟩] a5 a9) (Wu (.Name x b)) e.line z=Nb Ww)
  (f:dt A k) (n:Sb a5 z=Nb cl) (o:(a5.names.all λy=>y.2 != .cell)=Ww) (a:a5.kind=.function) (d:(a5.names.all λx=>x.2 != .local||a5.names.lookup x.1==Wu .local)=Ww)
  (hv:(vars.all λx=>a5.names.lookup x==Wu .local)=Ww) (R:∀x,NP iter z x=Nb x) (Z:J (vars.map λx=>(x,.any)))
  (h:T w A B z Val (ME iter z) V λv fI=>F1 w A B z Val Pz v fI λu ia=>xw w A B z k N vars a5 cl d7 ap qu J (λys i=>∀D,D∉keys i.led->F1 w A B z aQ (Ok z x) (.ref D) ⟨i.loc,(D,.list ys)::i.led⟩ λO s=>K .next s) u ia):T w A B z fv (exec (.Assign [.Name x b] (.ListComp d7 [⟨ap,iter,qu,0⟩] a5 a9) e) z) V K:=aIB (Step:=λW ys=>∀L,∀p∈W.zip ys,iC w A B (Qx a5 cl L z) ap d7 qu N J p.1 p.2) E
  (λY r d6 c l j S h=>IN f Y (λy G=>by simpa using LS.mp o y G) a (λx Q=>by simpa using LS.mp hv x Q) r d6 c l j Z S h) n a d R h
end
def BG(v:AV)(Z:eb)(o:Obj):Prop:=∃x,o.data=.cell (Wu x)/\Val Z v x
def aHB(Z a:eb)(o:Obj)(k:eb.le Z a)(x:BG v Z o):BG v a o:=x.imp λO h=>⟨h.1,h.2.mono k⟩
abbrev fX(v:AV):el:=.obj (BG v) aHB
def aHC(Z:eb)(o:Obj):Prop:=∃x,o.data=.cell x
abbrev aHD:el:=.obj aHC (λO O O O x=>x)
section
variable{N:aa}
def aIL{V:St}(i:z.kindOf x=Wu .cell)(k:z.cells.lookup x=Wu c)(e:(c,fX v)∈V.led)(j:(x==("__debug__" : Str))=Wx)(h:K v V):T w A B z Val (ME (.Name x a9) z) V K:=λs Z S Q E l=>by
 obtain⟨o,d,y,a,H⟩:=S.own _ e;exact wpAny_Name (wpAny_loadName_cell S.fn i k ⟨o,d,a⟩ (l _ _ s Z V h S H .refl)) j
end
def Xi:List Str->(List (Str×LP)->Prop)->Prop
 | [],P=>P []
 |x::r,P=>∀c,Xi r λa=>P ((x,c)::a)
def Xi.out{W:List Str}:∀ {P:List (Str×LP)->Prop} {cs:List (Str×LP)},Xi W P->cs.map (·.1)=W->P cs:=by
 induction W with
 |nil=>exact λh e=>List.map_eq_nil_iff.mp e▸h
 |cons x W a =>
  intro P cs h e;cases cs with
  |nil=>exact GO e
  |cons p cs =>
   obtain⟨y,c⟩:=p;cases(Ni e).1
   exact a (P:=λcs=>P ((y,c)::cs)) (h c) (Ni e).2
def Hj{c:LP}{a:List (Str×LP)}(j:(a.map (·.1)).Nodup)(h:(x,c)∈a):a.lookup x=Wu c:=by
 induction a with
 |nil=>exact gw h
 |cons p a i =>
  rw[Lu];have d:=Lp.mp j;refine(KZ.mp h).elim (λe=>e▸by rw[beq_self_eq_true]) λh=>?_;rw[show (x==p.1)=Wx from beq_eq_false_iff_ne.mpr λe=>d.1 (show p.1∈a.map (·.1) from e▸LG.mpr ⟨(x,c),h,rfl⟩)];exact i d.2 h
section
variable{N:aa}
def aHS{k:Str->Option NameKind}(bs:List (Str×Value))(h:∀p∈bs,k p.1=Wu .local):VG k bs (λO=>Wv)=λy=>bs.reverse.lookup y:=by
 have o:∀(y:Str) (d a:List (Str×Value)),(d++a).lookup y=(d.lookup y).or (a.lookup y):=λy d=>by
  induction d with
  |nil=>exact λa=>(Wj).symm
  |cons q d i =>
   intro a;rw[Lg,Lu,Lu];cases y==q.1 with
   |true=>rfl
   |false=>exact i a
 have j:∀(l:List (Str×Value)) (m:Str->Option Value),(∀p∈l,k p.1=Wu .local)->VG k l m=λy=>(l.reverse.lookup y).or (m y):=λl=>by
  induction l with
  |nil=>exact λm O=>rfl
  |cons p l r =>
   intro m n;rw[show VG k (p::l) m=VG k l (λy=>if y=p.1 then Wu p.2 else m y) from congrArg (VG k l) (if_pos (n p (KJ ..))),r _ λq s=>n q (KP _ s)];funext y
   rw[LI,o,VZ];congr 1
   rw[Lu];by_cases e:y=p.1
   ·rw[if_pos e,beq_iff_eq.mpr e];rfl
   ·rw[if_neg e,beq_eq_false_iff_ne.mpr e];rfl
 rw[j bs _ h];funext y
 exact Wi
def cel{V:St}(a:(z.kindOf x,z.cells.lookup x,x==("__debug__" : Str))=(Wu .cell,Wu c,Wx))(d:(c,fX v)∈V.led)(h:K v V):ax (T w A B z Val (ME (.Name x a9) z) V K):=.mk (aIL (congrArg (·.1) a) (congrArg (·.2.1) a) d (congrArg (·.2.2) a) h)
end
abbrev cellsW(f:Str->el)(a:List (Str×LP)):aa:=a.map λp=>(p.2,f p.1)
def BE(h:a∈keys (cellsW f b++Y)):(∃x,(x,a)∈b)\/a∈keys Y:=by
 unfold keys at h;rw[LD] at h;refine(Md.mp h).imp_left λh=>?_;rw[MN] at h;obtain⟨p,d,e⟩:=LG.mp h;exact⟨p.1,e▸d⟩
def BF(e:∀x,(f x).gnum=Wv)(a:List (Str×LP))(Y:aa):gkeys (cellsW f a++Y)=gkeys Y:=by
 induction a with
 |nil=>rfl
 |cons p a d =>
  refine Eq.trans ?_ d;show SC _ ((p.2,f p.1)::(cellsW f a++Y))=_;simp only[MG,e]
def ca.cellsW(i:∀x,(f x).gnum=Wv)(S:ca B s Z Y)(a:List (Str×LP))(d:a.Pairwise λx y=>x.2≠y.2)(h:∀p∈a,p.2∉keys Y/\Z p.2=Wv/\Holds Z s p.2 (f p.1)):ca B s Z (cellsW f a++Y):=by
 induction a with
 |nil=>exact S
 |cons p a k =>
  have e:=h p (KJ ..);have j:=k (NI.mp d).2 λq l=>h q (KP _ l);have n:(gkeys (Internal.cellsW f (p::a)++Y)).Nodup:=by
   rw[BF i,<-BF i a Y];exact j.gnodup
  exact ca.cons j (λq=>(BE q).elim (λh=>h.elim λO q=>(NI.mp d).1 _ q rfl) e.1) e.2.1 e.2.2 n
inductive sv (names:List (Str×NameKind)) (W:List Str):List (Str×AV)->List (Str×AV)->List (Str×AV)->Prop
 |nil:sv names W [] [] []
 |loc {x:Str} {v:AV} {b r c:List (Str×AV)}:names.lookup x=Wu .local->sv names W b r c->sv names W ((x,v)::b) ((x,v)::r) c
 |cel {x:Str} {v:AV} {b r c:List (Str×AV)}:names.lookup x=Wu .cell->x∈W->sv names W b r c->sv names W ((x,v)::b) r ((x,v)::c)
def mi(cb:List (Str×AV))(x:Str):el:=match cb.lookup x with
 |some v=>fX v
 |none=>aHD
def GA(cb:List (Str×AV))(x:Str):(mi cb x).gnum=Wv:=by unfold mi;split <;> rfl
def eR.look(h:eR Z l r)(y:Str)(hv:l.lookup y=Wu v):∃x,r.lookup y=Wu x/\Val Z v x:=by
 induction h with
 |nil=>cases hv
 | @cons k u x l r d _ a =>
  rw[Lu] at hv ⊢;cases e:(y==k) with
  |true=>rw[e] at hv;cases hv;exact⟨_,rfl,d⟩
  |false=>rw[e] at hv;exact a hv
def aHV{k:Str->Option NameKind}(bs:List (Str×Value)):∀m:Str->Option Value,(∀p∈bs,k p.1≠Wu .local)->VH k bs m=λy=>(bs.reverse.lookup y).or (m y):=by
 have j:∀(y:Str) (d a:List (Str×Value)),(d++a).lookup y=(d.lookup y).or (a.lookup y):=λy d=>by
  induction d with
  |nil=>exact λa=>(Wj).symm
  |cons q d i =>
   intro a;rw[Lg,Lu,Lu];cases y==q.1 with
   |true=>rfl
   |false=>exact i a
 induction bs with
 |nil=>exact λm O=>rfl
 |cons p bs l =>
  intro m h;rw[show VH k (p::bs) m=VH k bs (λy=>if y=p.1 then Wu p.2 else m y) from congrArg (VH k bs) (if_neg (h p (KJ ..))),l _ λq n=>h q (KP _ n)];funext y
  rw[LI,j,VZ];congr 1
  rw[Lu];by_cases e:y=p.1
  ·rw[if_pos e,beq_iff_eq.mpr e];rfl
  ·rw[if_neg e,beq_eq_false_iff_ne.mpr e];rfl
def sv.vals{W:List Str}{r:List (Str×AV)}(h:sv names W b r c):∀ {bs:List (Str×Value)},eR Z b bs->∃j l,eR Z r j/\eR Z c l/\(∀y∈bs,names.lookup y.1=Wu .local\/(names.lookup y.1=Wu .cell/\y.1∈W))/\(∀y∈j,names.lookup y.1=Wu .local)/\(∀y∈l,names.lookup y.1=Wu .cell) /\
  ∀k:Str->Option NameKind,(∀y,k y=names.lookup y)->∀m,VG k bs m=VG k j m/\VH k bs m=VH k l m:=by
 induction h with
 |nil=>exact λh=>(by cases h;exact⟨[],[],.nil,.nil,λO q=>gw q,λO q=>gw q,λO q=>gw q,λO O O=>⟨rfl,rfl⟩⟩)
 | @loc x v b r c d _ E =>
  intro bs J;cases J with
  |cons Q K =>
   refine iB (E K) λj l z u s p o n=>?_;refine⟨_::j,l,.cons Q z,u,λy a=>(KZ.mp a).elim (λe => .inl (e▸d)) (s y),λy a=>(KZ.mp a).elim (λe=>e▸d) (p y),o,λk i m=>?_⟩;have G:k x=Wu .local:=(i x).trans d;refine⟨(n k i _).1,?_⟩;show VH k _ (if k x=Wu .local then m else _)=_;rw[if_pos G];exact(n k i m).2
 | @cel x v b r c d R _ E =>
  intro bs J;cases J with
  |cons Q K =>
   refine iB (E K) λj l z u s p o n=>?_;refine⟨j,_::l,z,.cons Q u,λy a=>(KZ.mp a).elim (λe => .inr (e▸⟨d,R⟩)) (s y),p,λy a=>(KZ.mp a).elim (λe=>e▸d) (o y),λk i m=>?_⟩;have G : ¬ k x=Wu .local:=λe=>nomatch ((i x).symm.trans e).symm.trans d;refine⟨?_,(n k i _).2⟩;show VG k _ (if k x=Wu .local then _ else m)=_;rw[if_neg G];exact(n k i m).1
section
variable{N:aa}
def JR{rest:List (Str×AV)}{K:AV->aa->Prop}{vs:Array Value}(W:List Str)
  (hG:hW B) (ho:B f=Wu o) (b:o.data=.func fd) (XN:fd.scope.isCoroutine=Wx) (U:fd.scope.isGenerator=Wx) (hk:fd.scope.kind=.function) (N:fd.body=.stmts c6)
  (i:∀n,(cellsFrom n fd.scope.names []).map (·.1)=W) (m:W.Nodup) (X:fd.closure=[])
  (hc:fd.code=.ref c) (Zj:B c=Wu oc) (D:oc.data=.fields vs) (t:vs[1]?=Wu (.str fd.qualname tq)) (J:A.depth<Na)
  (hb:Binds w A.in1 B fd args kw f8) (Yg:sv fd.scope.names W f8 rest cb)
  (h:∀L,Xi W λl=>T w (A.deeper (bF fd.scope L fd.globals l fd.qualname f fd.code fd.builtins)) B (bF fd.scope L fd.globals l fd.qualname f fd.code fd.builtins) fv
   (execs c6 (bF fd.scope L fd.globals l fd.qualname f fd.code fd.builtins)) ⟨rest.reverse,cellsW (mi cb.reverse) l++Y⟩ (fo K)):TC w A B (.ref f) args kw Y K:=λs Z fx vx ks S hf G Zr R hR=>by
 (have e_:=hf.inv;subst e_)
 refine SV J (S.frozen _ _ (S.base _ _ ho)) b XN U N ⟨c,oc,vs,tq,hc,S.frozen _ _ (S.base _ _ Zj),D,t⟩ (hb s Z Y vx ks S G Zr _ _ λbs c5 Z1 S1 YG X1=>?_);have hR:=hR.after X1;clear X1 S;revert c5 Z1;intro s Z S YG hR;rw[X];refine iB (Yg.vals YG) λbt bc YF ZH M F Zp ZM=>?_;have H:∀n x,x∈W->((cellsFrom n fd.scope.names []).lookup x).isSome=Ww:=λn x G=>by
  rw[<-i n] at G;refine ag (LG.mp G) λq t e2=>?_;rw[<-e2,Hj (c:=q.2) (i n▸m) t];rfl
 refine wpAny_newFunctionEnv_cells hk (λy hy=>(M y hy).imp_right λh=>⟨h.1,H _ _ h.2⟩) λenv' he s' P=>?_;have i:=i (s.heap.objs.size+1);clear H;generalize cellsFrom (s.heap.objs.size+1) fd.scope.names []=l at he i;rw[he] at P;obtain⟨⟨⟨h1,g,rfl⟩,E,j,XA⟩,z,YI,Q⟩:=P;dsimp only[newEnv] at E j z YI Q XA;have kk:∀y,Up (newEnv fd.scope s.heap.objs.size fd.globals l fd.qualname (Wu f) fd.code Wv fd.builtins) y=fd.scope.names.lookup y:=λO=>rfl;refine aD (ZM _ kk λO=>Wv) λYJ Yu=>?_;rw[aHS (k:=Up (newEnv fd.scope s.heap.objs.size fd.globals l fd.qualname (Wu f) fd.code Wv fd.builtins)) bt λp r=>(kk _).trans (F p r)] at YJ;rw[aHV (k:=Up (newEnv fd.scope s.heap.objs.size fd.globals l fd.qualname (Wu f) fd.code Wv fd.builtins)) bc (λO=>Wv) λp r e=>nomatch ((kk _).symm.trans e).symm.trans (Zp p r)] at Yu;have E:h1.Ns s.heap.objs.size (λy=>bt.reverse.lookup y):=YJ▸E;have d:∀p∈l,s.heap.get? p.2=Wv:=λp r=>Rg (MW (Q p.1 p.2 r));have hL:s.heap.objs.size∉keys Y:=S.lfresh;subst he;refine⟨hG.lim _ λa o e=>j a o (S.frozen a o (S.base a o e)),?_⟩;show PA _ A (.func c6 (bF fd.scope s.heap.objs.size fd.globals l fd.qualname f fd.code fd.builtins)) R _;refine VX ?_;have C:∀p∈l,Holds Z {s with heap:=h1,toks:=g} p.2 (mi cb.reverse p.1):=λp r=>by
  have q:h1.IsCell p.2 (VH (Up (newEnv fd.scope s.heap.objs.size fd.globals l fd.qualname (Wu f) fd.code Wv fd.builtins)) bs (λO=>Wv) p.1):=z p.1 p.2 (Hj (i▸m) r);rw[Yu] at q;refine ag q λo ho b=>?_;replace b:o.data=.cell (bc.reverse.lookup p.1):=b.trans (congrArg _ Wi)
  unfold mi;cases e:cb.reverse.lookup p.1 with
  |none=>exact⟨o,ho,_,b⟩
  |some v =>
   refine ag (ZH.reverse.look p.1 e) λu hu V=>?_;exact⟨o,ho,u,hu▸b,V⟩
 refine(h s.heap.objs.size).out i _ Z (ff.enter (ca.cellsW (GA _) (S.keep (c5:={ s with heap:=h1,toks:=g}) j (λO O e=>e) S.bare) l YI λp r=>⟨S.lfree (d p r),S.zfree (d p r),C p r⟩) S.zfresh (λq=>(BE q).elim (λh=>h.elim λx q=>Nn _ (Q x _ q)) hL) E YF (λx G=>by
   refine ag (LG.mp G) λp r e=>?_
   have:x∈bt.map (·.1):=by rw[YF.keys];exact G
   refine ag (LG.mp this) λq t e2=>?_;exact e2▸F q t) hk) _ _
  (Hw hR j (λa q=>q.elim (λe => .inr (e▸gB s)) λq=>(BE q).elim (λh=>h.elim λO q => .inr (d _ q)) .inl) (BF (GA _) l Y) (λO O h=>h) λO h=>⟨h,h,h⟩)
end
section
open PySem PySem.W PySem.SeqAt
section
variable{N:aa}
def aJI{V:St}(N:hZ V.led v ys)(d6:W.length+ys.length<=2^20)(U:Upd a (.list W) (.list (W++ys)) V.led a8)(h:K .none ⟨V.loc,a8⟩):FC w A B z (.blt "list.extend") [.ref a,v] [] V K:=λs Z L C D Y o R S Q E f=>by
 cases Y
 cases R
 cases o with
 |cons q o =>
  cases o with
  |cons m o =>
   (have y:=o.inv;subst y)
   (have y:=q.inv;subst y)
   refine bL (N.get m S.toca) λb d J t l p=>?_;subst t;refine bG (S.own _ U.mem) λi n g vs=>?_;dsimp only at g;have r:i.size=W.length:=vs.size;have k:d.size=ys.length:=by simpa using p.length
   have H:(2:Nat)^20<=LY:=by decide
   refine TJ F.slot_list_extend (⟨_,g,rfl⟩) F.entry_list_extend (F.args_list_extend_2 _ _) (PySem.AutoSeq1.list_extend_list_list_0 a i n b d J (by simp[Builtin.List.listTooLong,r,k];intro _;omega) ⋯ ⋯) ⟨g,l,?_⟩;have j:∃u,(s.heap.update a (Me λx=>x++d)).get? a=Wu {cls:=.type "list",data:=.seq (i++d) u }:=⟨_,LV (Me λx=>x++d) g rfl⟩;refine al j ?_;clear j;intro u j;have P:=S.toca.upd U (h':=s.heap.update a (Me λx=>x++d)) (tk:=s.toks) (λb G c e=>(LR ..).extBut b G c e) rfl rfl ⟨_,u,j,by simpa using vs.append p⟩;exact f _ _ _ Z _ h (S.after P.1 P.2) .none P.2.toF
def Xd[DecidableEq β](f:β->AV):Prop:=∀(Z:eb) (x y:β) (u v:Value),Val Z (f x) u->Val Z (f y) v->∀(A:Lk) (s:KY),EqAt A s u v (decide (x=y))
def aGy:Xd AV.str:=λZ x y u v i d A s=>by
 refine al i.inv λt e=>?_;subst e;refine al d.inv λa e=>?_;subst e
 have:=EqAt.str_str (A:=A) (s:=s) x t y a;rwa [show (x==y)=decide (x=y) from by rw[NR,beq_iff_eq,decide_eq_true_eq]] at this
def aGz:Xd AV.int:=λZ x y u v i d A s=>by
 refine al i.inv λt e=>?_;subst e;refine al d.inv λa e=>?_;subst e
 have:=EqAt.int_int (A:=A) (s:=s) x t y a;rwa [show (x==y)=decide (x=y) from by rw[NR,beq_iff_eq,decide_eq_true_eq]] at this
def aGA:Xd AV.bytes:=λZ x y u v j i A s=>by
 refine al j.inv λt e=>?_;subst e;refine al i.inv λd e=>?_;subst e;have e:(x.toList==y.toList)=decide (x=y):=by rw[NR,beq_iff_eq,decide_eq_true_eq];exact QW
 intro ab w E Q h;unfold eqBool;refine Lh (SJ (λa=>?_) (λO=>?_))
 ·have:x=y:=by have:=eq_of_beq a;injection this
  rw[decide_eq_true this] at h;exact KI (MI (KN h))
 ·exact KI (Vr (by rw[e];exact PU h))
def hZ.isList(h:hZ Y v W){x:Value}(V:Val Z v x)(S:ca B s Z Y):∃a items,x=.ref a/\s.heap.IsList a items/\Vals Z W items.toList:=by
 refine bL (h.get V S) λa items n i d e=>?_;subst i;exact Kg a items rfl ⟨_,d,rfl,n,rfl⟩ e
def aGS(o:t≠it):∀(n i:Nat) (s:KY) (Q:List Value->KY->Prop),s.heap.IsListIter it t i->s.heap.IsList t items->i+n<=items.size ->
  (∀h',h'.IsListIter it t (i+n)->LL it s.heap h'->Q ((items.toList.drop i).take n) {s with heap:=h' })->LC (Ly ab w) A (draw (.ref it) n) Q E s:=by
 intro u;induction u with
 |zero =>
  intro i s Q a _ _ p;show LC _ _ (Nb []) Q E s;exact KN (by simpa using p s.heap a (Um ..))
 |succ n v =>
  intro i s Q a r y p;have e:i<items.size:=by omega
  show LC _ _ (Nr (.ref it)>>=_) Q E s;refine KI (wpAny_pyNext_list_item a r (x:=items[i]) (by simp[e]) λJ k d=>KI (Lh (v (i+1) _ _ k (r.extBut d.extBut o) ⋯ λG j l=>KN ?_)));have z:items.toList.drop i=items[i]::items.toList.drop (i+1):=by simp[MP,e]
  have:=p G (by simp only[show i+(n+1)=i+1+n by omega];exact j) (d.trans l);simp only[z,Vv] at this;exact this
def aAE{Q:List Value->KY->Prop}(u:A.handled=Wv)(a:s.heap.IsList t items)
  (v:∀h',RW s.heap.objs.size s.heap h'->Q items.toList {s with heap:=h' }):LC (Ly ab w) A (Us (.ref t) items.size Wv) Q E s:=by
 have i:t≠s.heap.objs.size:=by refine ag a λo r O=>?_;clear a;exact MA (Mf r)
 unfold Us;refine KI ?_
 ·unfold notIterableAtAll;refine KI (Oj a.typeIs slot_list_iter.lookup (KN ?_));simp only[LW,if_false];refine KI (Lh (TS a (KI (Lh (aGS i items.size 0 _ _ ⟨_,Lc _ rfl,rfl,rfl⟩ (a.push _) ⋯ λy j d=>?_)))));have k:List.take items.size (List.drop 0 items.toList)=items.toList:=by
   rw[Ud];exact PC (by simp)
  rw[k];refine ec (by simp) ?_;have l:y.IsList t items:=(a.push _).extBut d.extBut i;refine KI (Lh (wpAny_pyNext_list_end u j l (by simp) λx n=>?_));simp only[Option.isSome_none,LW,if_false];refine KN (v x λb o p e=>n b o p (d.extBut b o p (Ld _ e)))
def aKp{p:Nat}{vs:List AV}{V:St}{K:Unit->St->Prop}(R:A.handled=Wv)(J:hZ V.led v vs)(G:(MV jb z).length=vs.length)(e:(MV jb z).findIdx? (·.1)=Wv)
  (h:FA w A B z ((MV jb z).map (·.2)) vs V K):F1 w A B z aQ (MM (.Tuple jb p a9) z) v V K:=λs Z u H S Q E Y=>by
 refine bA (J.isList H S.toca) λa d g N o=>?_;subst g;have r:d.size=vs.length:=by simpa using o.length
 simp only[arm_assign_Tuple];refine KI (LN ?_);unfold unpack;simp only[G,e,<-r];exact KI (Lh (aAE R N λm W=>aD (S.ext1 W) λf b=>h _ Z _ o f Q E λv x j k i y n c l=>Y v x j k i y n c (b.trans l)))
end
end
section
open PySem PySem.W PySem.SeqAt
section
variable{N:aa}
def aKo{i:Nat}{vs:List AV}{V:St}{K:Unit->St->Prop}(k:A.handled=Wv)(j:hZ V.led v vs)(d:(MV jb z).map (·.2)=jb.map λe=>MM e z)(l:jb.length=vs.length)(a:(MV jb z).findIdx? (·.1)=Wv)
  (h:FT w A B z jb vs V K):F1 w A B z aQ (MM (.Tuple jb i a9) z) v V K:=aKp k j (by have:=congrArg NY d;simp only[KR] at this;omega) a (by exact(Eq.symm (d))▸h)
end
end
inductive td (a:LP) (W:List AV):List AV->List AV->Prop
 |nil:td a W [] []
 |keep {v:AV} {l l':List AV}:td a W l l'->td a W (v::l) (v::l')
 |cast {l l':List AV}:td a W l l'->td a W (.ref a::l) (.lst W::l')
def td.refl:∀l:List AV,td a W l l
 | [] => .nil
 |_::l => .keep (td.refl l)
def td.vals(V:Val Z (.lst W) (.ref a)){l:List AV}(h:td a W l l'):∀ {vs:List Value},Vals Z l vs->Vals Z l' vs:=by
 induction h with
 |nil=>exact λh=>h
 |keep _ d=>intro vs h;cases h with |cons i e=>exact .cons i (d e)
 |cast _ d =>
  intro vs h;cases h with
  |cons i e =>
   cases i
   exact .cons V (d e)
inductive md (a:LP) (W:List AV):aa->aa->Prop
 |refl (l:aa):md a W l l
 |keep {p:LP×el} {l l':aa}:md a W l l'->md a W (p::l) (p::l')
 |lst {b:LP} {ys YA:List AV} {l l':aa}:td a W ys YA->md a W l l'->md a W ((b,.list ys)::l) ((b,.list YA)::l')
 |ns {b:LP} {m m':List (Str×AV)} {l l':aa}:ij a W m m'->md a W l l'->md a W ((b,.ns m)::l) ((b,.ns m')::l')
def ij.ns(V:Val Z (.lst W) (.ref a))(i:ij a W m m')(k:pl Z h b m):pl Z h b m':=ag k λf j e=>cL f j λy=>by
 rcases i.look y with q |⟨n,l⟩
 ·exact q.symm▸e y
 ·have d:=e y;rw[n] at d;rw[l];generalize f y=q at d;cases d with
  |some d=>cases d;exact .some V
def md.keys{l:aa}(h:md a W l l'):keys l'=keys l/\gkeys l'=gkeys l:=by
 induction h with
 |refl=>exact⟨rfl,rfl⟩
 |keep _ d=>exact⟨congrArg (_ :: ·) d.1,by unfold gkeys;rw[MG,MG];have:=d.2;unfold gkeys at this;rw[this]⟩
 |lst _ _ d=>exact⟨congrArg (_ :: ·) d.1,d.2⟩
 |ns _ _ d=>exact⟨congrArg (_ :: ·) d.1,d.2⟩
def md.own(V:Val Z (.lst W) (.ref a)){l:aa}(h:md a W l l'):(∀p∈l,Z p.1=Wv/\Holds Z s p.1 p.2)->∀p∈l',Z p.1=Wv/\Holds Z s p.1 p.2:=by
 induction h with
 |refl=>exact id
 |keep _ i=>exact λk p o=>(KZ.mp o).elim (λe=>k p (e▸KJ ..)) (i (λq j=>k q (KP _ j)) p)
 |lst r _ i =>
  refine λk p o=>(KZ.mp o).elim (λe=>e▸?_) (i (λq j=>k q (KP _ j)) p);obtain⟨u,d,n,g,v⟩:=k _ (KJ ..);exact⟨u,d,n,g,r.vals V v⟩
 |ns r _ i =>
  refine λk p o=>(KZ.mp o).elim (λe=>e▸?_) (i (λq j=>k q (KP _ j)) p);exact⟨(k _ (KJ ..)).1,r.ns V (k _ (KJ ..)).2⟩
def ca.freezeL(S:ca B s Z ((a,.list W)::Y))(i:md a W Y a8):∃j,ca B s j a8/\hO (aj ((a,.list W)::Y)) s Z s j (aj a8):=by
 refine gg S.freeze λj e V k X=>?_;refine⟨j,⟨e.base,e.frozen,i.keys.1▸e.nodup,λp d=>(i.own V (λp d=>⟨e.apart p d,e.own p d⟩) p d).1,λp d=>(i.own V (λp d=>⟨e.apart p d,e.own p d⟩) p d).2,i.keys.2▸e.gnodup,e.bare⟩,?_⟩;rw[show aj a8=aj Y from by unfold aj;rw[i.keys.1,i.keys.2]];exact X
def Kq{l:aa}(h:TC w A B f args [] (l++((z.locals,.ns a6)::Y)) K0)
  (p:∀v l₁,K0 v l₁->∃l',l₁=l'++((z.locals,.ns a6)::Y)/\K v ⟨a6,l'++Y⟩):FC w A B z f args [] ⟨a6,l++Y⟩ K:=λs Z y W j r o d S Q E u=>by
 have a:∀l:aa,((z.locals,el.ns a6)::(l++Y)).Perm (l++((z.locals,el.ns a6)::Y)):=λl=>MT.symm;refine NB (h s Z y W j (S.toL.perm (a l)) r o d _ λv x i G a8 k L H X=>?_);refine ag (p v a8 k) λl' e n=>?_;subst e;refine u v x i G _ n (l9 (V:=⟨a6,l'++Y⟩) (L.perm (a l').symm) S.kinds S.fn) H ?_;rw[bI,bI];rw[<-cB (a l),<-cB (a l')] at X;exact X
def aJN{d l:aa}(p:d.Perm (l++Y))(h:TC w A B f args [] (l++((z.locals,.ns a6)::Y)) K0)
  (n:∀v l₁,K0 v l₁->∃l',l₁=l'++((z.locals,.ns a6)::Y)/\K v ⟨a6,l'++Y⟩):FC w A B z f args [] ⟨a6,d⟩ K:=λs Z r W j a b c S Q E o =>
 Kq (K:=K) h n s Z r W j a b c (S.perm p) Q E λv x i u e k y V X=>o v x i u e k y V (by rw[eu (ft:=a6) p];exact X)
section
open PySem PySem.W PySem.SeqAt
end
section
open PySem PySem.W PySem.SeqAt
end
section
variable{N:aa}{V:St}
def aCp(n:Nat):rS W (W.drop n) (Wu n) Wv Wv:=λZ vs h=>⟨_,slicePick_from' ..,h.drop n⟩
def Gu(n:Nat):rS W (W.take n) Wv (Wu n) Wv:=λZ vs h=>⟨_,slicePick_upto' ..,h.take n⟩
def Cd{p:Pos}{i j:Option Int}(hv:T w A B z Val (ME c8 z) V λv s=>v=v0/\s=V)(r:T w A B z Val (TU lo z) V λl s=>l=pu i/\s=V)
  (o:T w A B z Val (TU b z) V λu s=>u=pu j/\s=V) (n:hZ V.led v0 W) (a:W.length<=LY) (d:rS W ys i j Wv) (k:R (.lst ys) V):T w A B z Val (ME (.Subscript c8 (.Slice lo b Wv p) a9) z) V R:=Cc (hv.mono λv s e=>e.1.symm▸e.2.symm▸r.mono λl s e=>e.1.symm▸e.2.symm▸o.mono λu s e=>e.1.symm▸e.2.symm▸⟨W,ys,i,j,n,rfl,rfl,a,d,k⟩)
end
section
variable{N:aa}{V:St}
def lK(p:hZ V.led v W)(l:hZ V.led u ys)(d6:W.length+ys.length<=LY)(h:K (.lst (W++ys)) V):F2 w A B z Val (Ph .Add) v u V K:=l8 λs Z S Q E r x J y G=>by
 refine bL (p.get J S.toca) λa items n e g vs=>?_;subst e;refine bL (l.get G S.toca) λb d k e j i=>?_;subst e;refine concat_meets ⟨_,g,rfl⟩ ⟨_,j,rfl⟩ noFill_list_add seq_list_add F.slot_list_add F.entry_list_add (F.args_list_add_2 _ _) (PyProof.Rows.list_addW a b items d n k Wv Wv #[] #[] (vs.size▸i.size▸d6)) ⟨g,j,?_⟩;have P:=S.toca.pushZ (o:={ cls:=.type "list",data:=.seq (items++d)}) rfl s.toks;exact r _ _ _ _ _ h (S.after P.1 P.2) (.lst (items:=items.toList++d.toList) (by rw[<-List.append_toArray];exact l2 ..) ((vs.append i).mono P.2.le)) P.2.toF
end
def CP{a:Type}(f:α->β)(h:α->a)(g:List α):(g.map f).zip (g.map h)=g.map λo=>(f o,h o):=by
 induction g with
 |nil=>rfl
 |cons x g d=>exact congrArg (_ :: ·) d
def ij.refl:∀l:List (Str×AV),ij a W l l
 | [] => .nil
 |(_,_)::l => .keep (ij.refl l)
inductive Xp (K:AV->St->Prop) (v:AV):St->Prop
 |mk (a:LP) (W:List AV) (a8:aa) {a6:List (Str×AV)} {Y:aa} (e:v=.ref a) (e2:Y=(a,.list W)::a8) (k:K (.lst W) ⟨a6,a8⟩):Xp K v ⟨a6,Y⟩
section
variable{N:aa}{V:St}
def T.frz(h:T w A B z Val t V (Xp K)):T w A B z Val t V K:=λs Z S Q E n =>
 h s Z S Q E λv x u y l k r H X=>by
  cases k with
  |mk a W a8 e o k =>
   subst e;subst o;exact bn (r.freeze (ij.refl _)) λp j i d=>n _ _ _ _ _ k j ((show x=.ref a from H.inv)▸i) (X.trans d)
def rX(a:hZ V.led v W)(e:W.length=n)(hz:n<2^62)(h:K (.int n) V):FC w A B z (.blt "len") [v] [] V K:=rW a (e.symm▸hz) (e.symm▸h)
def oQ{a:Type}(f:a->AV)(g:β->a)(W:List β):(W.map λy=>Wu (f (g y))).filterMap id=(W.map g).map f:=by simp only[Oh,MN];exact List.filterMap_eq_map▸rfl
def jN{a:AV}{y:Option AV}(h:∀v Y,kn N Y->F1 w A B c aQ (MM ap c) a ⟨[(x,v)],Y⟩ λO k=>T w A B c aM (lT qu c) k λb d =>
  if b then T w A B c Val (ME d7 c) d λv i=>y=Wu v/\i.led=Y/\∃v,i.loc=[(x,v)] else y=Wv/\d.led=Y/\∃v,d.loc=[(x,v)]):iC w A B c ap d7 qu N (λa6=>∃v,a6=[(x,v)]) a y:=λa6 j Y l=>j.elim λv e=>e.symm▸h v Y l
def wH{W:List β}{K:List AV->St->Prop}(e:(W.map g).filterMap id=ys)(d6:W.length<=LY)(l:kn N V.led)
  (i:∀L,∀y∈W,iC w A B (Qx a5 cl L z) ap d7 qu N J (f y) (g y)) (h:K ys V):F1 w A B z Val Pz (.lst (W.map f)) V λu ia=>xw w A B z k N vars a5 cl d7 ap qu J K u ia:=CI λit o n j=>⟨it,o,_,W.map f,W.map g,rfl,rfl,n _ _,j _,l,by rw[KR,KR],by rw[KR];exact d6,λL p a=>by
  rw[CP] at a;refine ag (LG.mp a) λy d r=>?_;subst r;exact i L y d,e▸h⟩
def BC{K:List AV->St->Prop}(e:((Mu 0 n).map g).filterMap id=ys)(d6:n<=10^6)(o:kn N V.led)
  (j:∀L,∀i,i<n->iC w A B (Qx a5 cl L z) ap d7 qu N J (.int (i:Nat)) (g i)) (h:K ys V):F1 w A B z Val Pz (.rng 0 (n:Nat)) V λu ia=>xw w A B z k N vars a5 cl d7 ap qu J K u ia:=KA ⋯ ⋯ ⋯ ⋯ λit s r l=>⟨it,s,_,(Mu 0 n).map λi:Nat => .int (i:Nat),(Mu 0 n).map g,rfl,rfl,(show fm 0 (n:Int)=(Mu 0 n).map λi:Nat=>AV.int (i:Int) from Ej 0 n)▸r _ _ _,l _,o,by rw[KR,KR],by rw[KR,PE,Mz];omega,λL p a=>by
  rw[CP] at a;refine ag (LG.mp a) λy d v=>?_;subst v;exact j L y (QI (Wb.mp d).2 (OJ _)),e▸h⟩
end
open T renaming frz→m7
section
open PySem PySem.W PySem.SeqAt
section
variable{V:St}
def iw{a:Int}(d:a.natAbs.log2<1920)(h:K (.str (KX (Of a))) V):FC w A B z (.typ "str") [.int a] [] V K:=FC.t λs Z S Q E e=>om <| oz λt=>Zq <|
 PySem.P.str_of_int d (e _ _ _ Z V h (S.toks _) (.str _ _) (.toks _))
def lI(G:dt A 1)(Y:hZ V.led v W)(R:hZ V.led u [])(h:K (.bool (!W.isEmpty)) V):F2 w A B z Val (NE .NotEq) v u V K:=λs Z m g f c S Q E y=>by
 refine bA (Y.isList f S.toca) λa i o r J=>?_;subst o;refine bA (R.isList c S.toca) λb d o k n=>?_;subst o;have l:i.size=W.length:=by simpa using J.length
 have p:d.size=0:=by simpa using n.length
 cases W with
 |nil=>exact RcNeAt.lists (e:=λO=>Ww) r k (l.trans p.symm) G.ult (λj q=>absurd (QI q l) (PN j)) ab w E _ (by rw[l];exact y _ _ s Z V h S (.bool _) .refl)
 |cons x W=>exact RcNeAt.lists_lengths r k (by rw[l,p];rfl) G.ult ab w E _ (y _ _ s Z V h S (.bool _) .refl)
end
end
section
open PySem PySem.W PySem.SeqAt
def Wk(v u:AV):Prop:=∀Z x,Val Z v x->Val Z u x
def WQ(W ys:List AV):Prop:=∀Z vs,Vals Z W vs->Vals Z ys vs
def Wk.refl(v:AV):Wk v v:=λO O h=>h
def Wk.ln(s:Str):Wk (.str s) (.ln (Wu (Wu s))):=λZ=>c2 λt => .ln (by show (s==s)=Ww;exact beq_self_eq_true _)
def Wk.nul:Wk .none (.ln Wv):=λZ=>Val.eNone (.ln rfl)
def Wk.sev:Wk (.int 7) (.ln (Wu Wv)):=λZ=>oz λt => .ln rfl
def Wk.str(s:Str):Wk (.ln (Wu (Wu s))) (.str s):=λZ x h=>by
 refine al (OW (show SN s x=Ww from h.inv)) λt a=>?_;subst a;exact .str _ _
def WQ.nil:WQ [] []:=λO O h=>h
def WQ.cons(h:Wk v u)(k:WQ W ys):WQ (v::W) (u::ys):=λZ=>om λx a r d => .cons (h Z x a) (k Z r d)
def WQ.refl(W:List AV):WQ W W:=λO O h=>h
def WQ.map(h:∀y,Wk (f y) (g y)):∀l:List β,WQ (l.map f) (l.map g)
 | [] => .nil
 |y::l => .cons (h y) (WQ.map h l)
def Wk.lst(h:WQ W ys):Wk (.lst W) (.lst ys):=λZ=>Val.eLst λa d n e v => .lst e (h Z _ v)
def T.sub(h:T w A B z Val t V λv fI=>∃u,Wk v u/\K u fI):T w A B z Val t V K:=λs Z S Q E e =>
 h s Z S Q E λv x d i a k j H X=>k.elim λu k=>e u x d i a k.2 j (k.1 _ _ H) X
def TC.args{K:AV->aa->Prop}(e:WQ W ys)(h:TC w A B f ys kw Y K):TC w A B f W kw Y K:=λs Z l vs a S j d i R k=>h s Z l vs a S j (e _ _ d) i R k
def fK(h:T w A B z Vals (spliced (NF a9 (Mh jb z))) V λvs di=>vs.length<=LY/\K (.lst vs) di):T w A B z Val (ME (.List jb a9) z) V K:=λs Z S Q E e=>by
 rw[arm_eval_List];refine KI (LN (KI (h s Z S _ _ λvs W d i di k a H X=>?_)));refine Vj ?_ (by rw[H.length];exact k.1);have P:=a.toca.pushZ (o:={ cls:=.type "list",data:=.seq W.toArray}) rfl d.toks;exact e _ _ _ _ _ k.2 (a.after P.1 P.2) (.lst (l2 ..) (H.mono P.2.le)) (X.trans P.2.toF)
def BQ{K:dr->St->Prop}(h:T w A B z fv t V λf di=>f=.next/\∃a W a6 ft a8,di=⟨a6,(a,.list W)::a8⟩/\ij a W a6 ft/\K .next ⟨ft,a8⟩):T w A B z fv t V K:=λs Z S Q E j =>
 h s Z S Q E λv x p r di k o H X=>by
  obtain⟨rfl,a,W,a6,ft,a8,rfl,i,k⟩:=k;refine bn (o.freeze i) λl e n d=>?_;cases H
  exact j _ _ _ _ _ k e .next (X.trans d)
def Iq{a:Type}(p:β->Bool)(f:a->AV)(g:β->a)(W:List β):(W.map λy=>if p y=Ww then Wu (f (g y)) else Wv).filterMap id=((W.filter p).map g).map f:=by
 induction W with
 |nil=>rfl
 |cons x W d =>
  rw[Le,Qq];by_cases h:p x=Ww
  ·rw[if_pos h,if_pos h];exact congrArg (f (g x) :: ·) d
  ·rw[if_neg h,if_neg h];exact d
def Cz{V:St}(d:hZ V.led v ys)(d6:W.length+ys.length<=2^20)(e:W++ys=zs)(U:Upd a (.list W) (.list zs) V.led a8)(h:K .none ⟨V.loc,a8⟩):FC w A B z (.blt "list.extend") [.ref a,v] [] V K:=aJI d d6 (e.symm▸U) h
def nU{W:List β}{y:β}:W.map f++[f y]=(W++[y]).map f:=by rw[LD];rfl
def aD5{a:Int}(h0:0<=a)(d:a<10^9):a.natAbs.log2<1920:=by
 by_cases c:a.natAbs=0
 ·rw[c];decide
 ·exact(Nat.log2_lt c).mpr (OA (OA (Int.natAbs_lt_natAbs_of_nonneg_of_lt h0 d) (show _<=2^32 by decide)) (Nat.pow_le_pow_right ⋯ ⋯))
def gY(h:n<=10^6):((n:Nat):Int).natAbs.log2<1920:=aD5 (OG n) (OR.mpr (Ox h ⋯))
def se(v:AV):Prop:=∀(Z:eb) (x y:Value),Val Z v x->Val Z v y->∀(A:Lk) (s:KY),EqAt A s x y Ww
def Xd.same[DecidableEq β](h:Xd f)(x:β):se (f x):=λZ u v d a A s=>by
 have:=h Z x x u v d a A s;rwa [decide_eq_true rfl] at this
def Bv(y:Ln):se (.ln y):=λZ u v d a A s=>by
 have d:=d.inv;have a:=a.inv;rcases y with _ |_ |x
 ·rw[cO d,cO a];exact EqAt.same _
 ·exact aGz.same 7 Z u v (by obtain⟨t,rfl⟩:=OV d;exact .int _ _) (by obtain⟨t,rfl⟩:=OV a;exact .int _ _) A s
 ·exact aGy.same x Z u v (by obtain⟨t,rfl⟩:=OW d;exact .str _ _) (by obtain⟨t,rfl⟩:=OW a;exact .str _ _) A s
def xn{V:St}(G:dt A 1)(Y:hZ V.led v W)(R:hZ V.led u [])(h:K (.bool W.isEmpty) V):F2 w A B z Val (NE .Eq) v u V K:=λs Z m g f c S Q E y=>by
 refine bA (Y.isList f S.toca) λa i o r J=>?_;subst o;refine bA (R.isList c S.toca) λb d o k n=>?_;subst o;have l:i.size=W.length:=J.size;have p:d.size=0:=n.size;cases W with
 |nil=>exact PySem.SeqAt.eq_listAt (e:=λO=>Ww) r k (l.trans p.symm) G.ult (λj q=>absurd (QI q l) (PN j)) (by rw[l];exact y _ _ s Z V h S (.bool _) .refl)
 |cons x W=>exact PySem.SeqAt.eq_list_lengthsAt r k (by rw[l,p];rfl) G.ult (y _ _ s Z V h S (.bool _) .refl)
def Kv{V:St}(q:∀x∈W,se x)(C:dt A 1)(g:hZ V.led v W)(f:hZ V.led u W)(h:K (.bool Wx) V):F2 w A B z Val (NE .NotEq) v u V K:=λs Z L H o n S Q E t=>by
 refine bA (g.isList o S.toca) λa k y m J=>?_;subst y;refine bA (f.isList n S.toca) λb d y r l=>?_;subst y;have G:k.size=W.length:=J.size;have c:d.size=W.length:=l.size;refine RcNeAt.lists (e:=λO=>Ww) m r (G.trans c.symm) C.ult (λj q1 q2=>?_) ab w E _ ?_
 ·have p:j<W.length:=G▸q1;refine ag (J.get (i:=j) (LF p)) λu Y F=>?_;refine ag (l.get (i:=j) (LF p)) λv R D=>?_;rw[Nq,MQ q1] at Y;rw[Nq,MQ q2] at R;rw[No Y,No R];exact q _ (Pc p) Z u v F D _ s
 ·rw[LS.mpr λO O=>rfl];exact t _ _ s Z V h S (.bool _) .refl
end
def sT(n:Nat):Str:=KX (Of (n:Int))
def jQ(h:n<=10^6):(sT n).length<=10:=Rf (n:=(n:Int)) (OG n) ⋯
abbrev tx(s:Str):Ln:=Wu (Wu s)
abbrev eT:Str:=⟨⟨[]⟩⟩
def cS(e9:Nat):Ln->AV
 |some (Wu s)=>if 1<e9 then .bytes (bx s) else .ln (Wu (Wu s))
 |y => .ln y
def bg(a n:Nat):List Ln:=(Mu 0 n).map λk=>tx (sT (a+k))
def bX(c1:Nat)(x:List Ln):Nat:=c1+x.length
def bk(d:Bool)(c0 a:Nat):Str:=let first:=if a=0 then c0 else c0+1
 if d then (if a<2 then sT first else sT first++Fh++sT (c0+a)) else (if a=1 then sT first else sT first++Fh++sT a)
abbrev bz:=Str×Ln
def cu(s:Str):bz:=(s,tx eT)
def jL(d a:Str)(kept a_ b9:List Ln):List bz:=[cu Fe,cu Fd,cu (Fc++d++Fb++a++Fa)] ++
  kept.map (λl=>(FV,l))++a_.map (λl=>(FU,l))++b9.map λl=>(FS,l)
def bU(mark:Str)(kept x y:List Ln):List bz:=if x=[] then [] else kept.map (λl=>((FM:Str),l))++x.map λl=>(if y=[] then mark else FN,l)
abbrev yd:Str:=FK
def ly(d a:Str)(kept a_ b9:List Ln):List bz:=[cu EY,cu Fe,cu yd,cu (EY++d++EX)]++bU FO kept a_ b9 ++
  [cu (Fe++a++EW)]++bU FQ kept b9 a_
def eO(hv:Bool)(c0 c1:Nat)(a_ b9:List Ln):List bz:=(if hv then ly else jL) (bk hv c0 (bX c1 a_)) (bk hv c0 (bX c1 b9)) (bg c0 c1) a_ b9
def eB:List bz->List (Option Str)
 | []=>[]
 |(m,Wu (Wu l))::r=>Wu (m++l)::eB r
 |_::_=>[Wv]
def cx(f6 n:Nat)(a_ b9:List Ln)(e9:Nat):List (Option Str):=if 1<e9/\(a_++b9).any az=Ww then [Wv]
 else if f6=0/\(a_.take 1++b9.take 1).any az=Ww then [Wv]
 else if a_=[]/\b9=[] then []
 else eB (eO (e9 % 2==1) (f6-min n f6) (min n f6) a_ b9)
def bl(e9:Nat):Option Str->AV
 |some s=>if e9<2 then .str s else .bytes (bx s)
 |none => .none
def aH4(hx:cM x)(a:cM y):cM (x++y):=λc d=>(Array.mem_append.mp d).elim (hx c) (a c)
def aH2(h:(x.cps.all λc=>decide (c<128))=Ww):cM x:=λc a=>of_decide_eq_true (Array.all_eq_true_iff_forall_mem.mp h c a)
def aH3(n:Nat):cM (sT n):=λc a=>by
 by_cases h:c<128
 ·exact h
 ·exact absurd (by simpa[sT] using a) (PyProof.Rows.int_text_free' c ⟨by omega,by omega⟩ (n:Int))
def pb(n:Nat)(s:Str):Prop:=cM s/\s.length<=n
def pb.app{a:Str}{m:Nat}(h:pb m a)(k:pb n b):pb (m+n) (a++b):=⟨aH4 h.1 k.1,by rw[Pg];exact OM h.2 k.2⟩
def pb.le{a:Str}{m:Nat}(h:pb m a)(k:m<=n):pb n a:=⟨h.1,Mc h.2 k⟩
def sL(h:n<=10^6):pb 10 (sT n):=⟨aH3 n,jQ h⟩
def cq(l:List Nat)(h:(l.all λc=>decide (c<128))=Ww):pb l.length ⟨⟨l⟩⟩:=⟨aH2 (by rw[List.all_toArray];exact h),LK _⟩
def Dt{hv:Bool}{c0 s:Nat}(h:c0<=10^4)(k:s<=10^4):pb 21 (bk hv c0 s):=by
 have f:(if s=0 then c0 else c0+1)<=10^6:=by split <;> omega
 have a:=sL f;have b:=sL (n:=c0+s) ⋯;have d:=sL (n:=s) ⋯;have one:=cq [44] rfl;cases hv with
 |true =>
  show pb 21 (if s<2 then sT (if s=0 then c0 else c0+1) else _);split
  ·exact a.le ⋯
  ·exact(a.app one).app b
 |false =>
  show pb 21 (if s=1 then sT (if s=0 then c0 else c0+1) else _);split
  ·exact a.le ⋯
  ·exact(a.app one).app d
def po(l:Ln):Prop:=∀s,l=tx s->pb 100 s
def gI(r:bz):Prop:=pb 60 r.1/\po r.2
def po.of{s:Str}(h:pb 100 s):po (tx s):=λt e=>No (No e)▸h
def iI{s:Str}(h:pb n s)(a:n<=60):gI (cu s):=⟨h.le a,.of ⟨λc d=>absurd d (by simp),Lq _⟩⟩
def rF{a:Nat}(h:a+n<=10^6):∀l∈bg a n,po l:=λl d=>by
 refine ag (LG.mp d) λk i e=>?_
 have:=(Wb.mp i).2;rw[<-e];exact .of ((sL (n:=a+k) ⋯).le ⋯)
def nT(h:pb n m)(d:n<=60){W:List Ln}(hx:∀l∈W,po l):∀r∈W.map λl=>((m,l):bz),gI r:=λr a=>by
 refine ag (LG.mp a) λl i e=>?_;rw[<-e];exact⟨h.le d,hx l i⟩
def lB{W ys:List bz}(h:∀r∈W,gI r)(k:∀r∈ys,gI r):∀r∈W++ys,gI r:=λr a=>(Md.mp a).elim (h r) (k r)
def HM(h:pb n m)(d:n<=60){x y:List Ln}(e:∀l∈kept,po l)(hx:∀l∈x,po l):∀r∈bU m kept x y,gI r:=by
 unfold bU;split
 ·exact λr a=>absurd a (by simp)
 ·refine lB (nT (cq [32,32] rfl) ⋯ e) ?_;split
  ·exact nT h d hx
  ·exact nT (cq [33,32] rfl) ⋯ hx
def DZ{hv:Bool}{c0 c1:Nat}{a_ b9:List Ln}(h0:c0<=10^3)(v:c1<=10^3)(p:a_.length<=10^3)(u:b9.length<=10^3)(k:∀l∈a_,po l)(oc:∀l∈b9,po l):∀r∈eO hv c0 c1 a_ b9,gI r:=by
 have j:=Dt (hv:=hv) (c0:=c0) (s:=bX c1 a_) (Mc h0 ⋯) (by unfold bX;omega);have i:=Dt (hv:=hv) (c0:=c0) (s:=bX c1 b9) (Mc h0 ⋯) (by unfold bX;omega);have e:=rF (a:=c0) (n:=c1) ⋯;have d:∀r∈([]:List bz),gI r:=λr o=>absurd o (by simp);unfold eO;cases hv with
 |false =>
  exact lB (lB (lB (OP.mpr ⟨iI (cq _ rfl) ⋯,OP.mpr ⟨iI (cq _ rfl) ⋯,OP.mpr ⟨iI ((((((cq [64,64,32,45] rfl).app j).app (cq [32,43] rfl)).app i).app (cq [32,64,64] rfl))) ⋯,d⟩⟩⟩)
   (nT (cq [32] rfl) ⋯ e)) (nT (cq [45] rfl) ⋯ k)) (nT (cq [43] rfl) ⋯ oc)
 |true =>
  exact lB (lB (lB (OP.mpr ⟨iI (cq _ rfl) ⋯,OP.mpr ⟨iI (cq _ rfl) ⋯,OP.mpr ⟨iI (cq _ rfl) ⋯,OP.mpr ⟨iI (((cq [42,42,42,32] rfl).app j).app (cq [32,42,42,42,42] rfl)) ⋯,d⟩⟩⟩⟩)
   (HM (cq [45,32] rfl) ⋯ e k)) (OP.mpr ⟨iI (((cq [45,45,45,32] rfl).app i).app (cq [32,45,45,45,45] rfl)) ⋯,d⟩)) (HM (cq [43,32] rfl) ⋯ e oc)
def Bg(m:Str){kept x y:List Ln}(a:kept.length<=10^3)(hx:x.length<=10^3):(bU m kept x y).length<=2000:=by
 unfold bU;split
 ·exact Lq _
 ·rw[Lb,KR,KR];omega
def gC(a n:Nat):(bg a n).length=n:=by rw[bg,KR,PE]
def Ea{hv:Bool}{c0 c1:Nat}{a_ b9:List Ln}(j:c1<=10^3)(e:a_.length<=10^3)(i:b9.length<=10^3):(eO hv c0 c1 a_ b9).length<=10^4:=by
 have d:(bg c0 c1).length<=10^3:=(gC c0 c1).symm▸j;unfold eO;cases hv with
 |false =>
  show (jL ..).length<=_;unfold jL;simp only[Lb,KR,La,LA];omega
 |true =>
  show (ly ..).length<=_;unfold ly;have a:=Bg FO d e (y:=b9);have b:=Bg FQ d i (y:=a_);simp only[Lb,La,LA];omega
def aHb(a:List bz):(eB a).length<=a.length:=by
 induction a with
 |nil=>exact LK 0
 |cons r a d =>
  obtain⟨m,l⟩:=r;rcases l with _ |_ |s
  ·exact OH (Lq _)
  ·exact OH (Lq _)
  ·exact OH d
def cR(r:bz):Option Str:=cj (r.1 ++ ·) r.2
def jR(m:Str)(W:List Ln):(W.map λl=>((m,l):bz)).map cR=W.map (cj (m ++ ·)):=MN
def dC(x:Str):x++eT=x:=congrArg Str.mk (Array.append_empty)
def iJ(s:Str):cR (cu s)=Wu s:=congrArg Wu (dC s)
def Ei(c0 s:Nat):ci (c0:Nat) ((c0+s:Nat):Int)=bk Wx c0 s:=by
 have e:((c0+s:Nat):Int)-(c0:Int)=(s:Int):=by omega
 unfold ci;rw[e];show _=if s=1 then sT (if s=0 then c0 else c0+1) else sT (if s=0 then c0 else c0+1)++_++sT s
 rw[show (KX ",")=Fh from by decide +kernel];by_cases d:s=1
 ·rw[if_pos d,if_neg (show ¬ s=0 by omega),if_pos ⋯];rfl
 ·rw[if_neg d,if_neg (show ¬ (s:Int)=1 by omega)];by_cases a:s=0
  ·rw[if_pos a,if_pos ⋯,a];rfl
  ·rw[if_neg a,if_neg ⋯];rfl
def Ek(c0 s:Nat):cr (c0:Nat) ((c0+s:Nat):Int)=bk Ww c0 s:=by
 have e:((c0+s:Nat):Int)-(c0:Int)=(s:Int):=by omega
 unfold cr;rw[e];show _=if s<2 then sT (if s=0 then c0 else c0+1) else sT (if s=0 then c0 else c0+1)++_++sT (c0+s)
 rw[show (KX ",")=Fh from by decide +kernel];by_cases a:s=0
 ·rw[if_pos ⋯,if_pos ⋯,if_pos a];rfl
 ·rw[if_neg (show ¬ (s:Int)=0 by omega),if_neg a];by_cases d:s=1
  ·rw[if_pos ⋯,if_pos ⋯];rfl
  ·rw[if_neg ⋯,if_neg ⋯];rfl
section
variable{C g c:List Ln}
def yj(a:C.length=p):bW (C++g) (p-min n p) p=C.drop (p-min n p):=by
 have c:=Pu n p;unfold bW;rw[List.drop_append_of_le_length (a▸OL ..),List.take_append_of_le_length (Oz (by rw[OI,a])),PC (Oz (by rw[OI,a]))]
def sR(a:C.length=p):bW (C++g) p (p+g.length)=g:=by
 unfold bW;rw[<-a,List.drop_left,OC,List.take_length]
def AS(a:C.length=p)(e:f (im p (min n p))=(C.drop (p-min n p)).map h)(o:Op):(fT p (min n p)++[o]).flatMap f=(C.drop (p-min n p)).map h++f o:=by
 unfold fT;split
 ·rename_i z
  rw[OS.mp (a.trans z),List.drop_nil];exact Ms _
 ·show f (im p (min n p))++(f o++[])=_;rw[e,Ms]
def HA{m:Nat}(e:q (im p m)=Wx)(o:Op):((fT p m++[o]).map q).any id=q o:=by
 unfold fT;split
 ·exact Uz _
 ·show (q (im p m)||(q o||false))=q o;rw[e,Uz];rfl
def Hz{m:Nat}(u v:Nat):(aJ (fT p m++[ek p u v])).i1=p-m/\(aJ (fT p m++[ek p u v])).j1=p-m/\aF (fT p m++[ek p u v])=ek p u v:=by
 unfold fT;split
 ·rename_i z
  subst z;exact⟨(Tq m).symm,(Tq m).symm,rfl⟩
 ·exact⟨rfl,rfl,rfl⟩
def wg(n p u:Nat):p+u=p-min n p+(min n p+u):=by rw[<-OF,PF (Pu ..)]
def DY(h:Sep C g c)(d:(C++c).length<200)(a:C.length=p){R:List (List Op)->List (Option Str)}(j:R []=[])(i:R [fT p (min n p)++[ek p g.length c.length]]=rs):R (cF n (cJ (bb (aY (C++g) (C++c)) (C++g).length (C++c).length)))=if g=[]/\c=[] then [] else rs:=by
 rw[h.ops d,a];split
 ·rename_i e
  rw[e.1,e.2];exact(congrArg R (aFp n p)).trans j
 ·rename_i e
  exact(congrArg R (aFo λz=>e ⟨OS.mp z.1,OS.mp z.2⟩)).trans i
def aHy{k:Ln->Option Str}(g c:List Ln):(if gj g.length c.length=cN\/gj g.length c.length=cZ then g.map k else [])++(if gj g.length c.length=cN\/gj g.length c.length=cY then c.map h else [])=g.map k++c.map h:=by
 cases g <;> cases c <;> kernel_rfl
def aCL{a:List Ln}{m:Nat}:fy a b (im p m)=(bW a (p-m) p).map (cj (FV ++ ·)):=if_pos rfl
def aCW{a:List Ln}{m:Nat}:fA a (im p m)=(bW a (p-m) p).map (cj (FM ++ ·)):=@_
def aCT{a:List Ln}{m:Nat}:fz a (im p m)=(bW a (p-m) p).map (cj (FM ++ ·)):=@_
def aHA(g c:List Ln):(if kZ (ek p g.length c.length)=Ww then (C.map (cj (FM ++ ·))++if gj g.length c.length=cY then [] else g.map (cj (fR (gj g.length c.length) ++ ·))) else [])=(bU FO C g c).map cR:=by
 cases g with
 |nil=>cases c <;> kernel_rfl
 |cons x g =>
  refine((LD ..).trans ?_).symm;rw[jR,jR];cases c <;> kernel_rfl
def aHz(g c:List Ln):(if kY (ek p g.length c.length)=Ww then (C.map (cj (FM ++ ·))++if gj g.length c.length=cZ then [] else c.map (cj (fR (gj g.length c.length) ++ ·))) else [])=(bU FQ C c g).map cR:=by
 cases c with
 |nil=>cases g <;> kernel_rfl
 |cons x c =>
  refine((LD ..).trans ?_).symm;rw[jR,jR];cases g <;> kernel_rfl
variable(h:Sep C g c)(F:(C++c).length<200)(D:C.length=p)
include h F D
theorem Eb:gq (C++g) (C++c) Wx (cF n (cJ (bb (aY (C++g) (C++c)) (C++g).length (C++c).length))) =
  if g=[]/\c=[] then [] else (jL (bk Wx (p-min n p) (min n p+g.length)) (bk Wx (p-min n p) (min n p+c.length)) (C.drop (p-min n p)) g c).map cR:=by
 refine DY (R:=gq (C++g) (C++c) Wx) h F D rfl ?_;show Be++(wn _ _ _++[])=_;have k:=Hz (p:=p) (m:=min n p) g.length c.length;unfold wn;rw[Ms,k.1,k.2.1,k.2.2,AS D (aCL.trans (congrArg (List.map _) (yj D)))];dsimp only;rw[wg n p,wg n p,Ei,Ei];unfold fy;rw[if_neg (Dv ..)];dsimp only;rw[sR D,sR D,aHy];unfold jL;rw[LD,LD,LD,jR,jR,jR];show _=([cR _,cR _,cR _]++_++_)++_;rw[iJ,iJ,iJ];unfold Be rC Bq Bs;rw[dC,dC,dC,dC,dC,dC,dC];rw[show KX "--- " = Fe from by decide +kernel,show KX "+++ " = Fd from by decide +kernel,show KX "@@ -" = Fc from by decide +kernel,show KX " +" = Fb from by decide +kernel,show KX " @@" = Fa from by decide +kernel];simp only[LH,Lg,Lj]
theorem Ed:eN (C++g) (C++c) Wx (cF n (cJ (bb (aY (C++g) (C++c)) (C++g).length (C++c).length))) =
  if g=[]/\c=[] then [] else (ly (bk Ww (p-min n p) (min n p+g.length)) (bk Ww (p-min n p) (min n p+c.length)) (C.drop (p-min n p)) g c).map cR:=by
 refine DY (R:=eN (C++g) (C++c) Wx) h F D rfl ?_;show Bf++(oo _ _ _++[])=_;have k:=Hz (p:=p) (m:=min n p) g.length c.length;unfold oo ll gA;rw[Ms,k.1,k.2.1,k.2.2,HA (q:=kZ) rfl,HA (q:=kY) rfl,AS D (aCW.trans (congrArg (List.map _) (yj D))),AS D (aCT.trans (congrArg (List.map _) (yj D)))];dsimp only;rw[wg n p,wg n p,Ek,Ek];unfold fA fz;dsimp only;rw[sR D,sR D,aHA,aHz];unfold ly;rw[LD,LD,LD];show _=(([cR _,cR _,cR _,cR _]++_)++[cR _])++_;rw[iJ,iJ,iJ,iJ,iJ];unfold Bf rC Br wx lq;rw[dC,dC,dC,dC,dC,dC,dC,dC,dC];rw[show KX "*** " = EY from by decide +kernel,show KX "--- " = Fe from by decide +kernel,show KX " ****" = EX from by decide +kernel,show KX " ----" = EW from by decide +kernel];simp only[LH,Lg,Lj]
end
def lx:List (Option Str)->List (Option Str)
 | []=>[]
 |some s::r=>Wu s::lx r
 |none::_=>[Wv]
def IL(rs:List bz):lx (rs.map cR)=eB rs:=by
 induction rs with
 |nil=>rfl
 |cons r rs a =>
  obtain⟨m,l⟩:=r;rcases l with _ |_ |s
  ·rfl
  ·rfl
  ·exact congrArg (_ :: ·) a
section
variable{M:Model}{D C:End->KY->Prop}
def vg.mono(h:vg M A D gs s)(k:∀e s,D e s->C e s):vg M A C gs s:=by
 cases gs with
 |fresh c=>exact λi p a b=>bG (h i p a b) λe d r q=>⟨e,d,r,k e d q⟩
 |suspended=>exact λi p a b=>bG (h i p a b) λe d r q=>⟨e,d,r,k e d q⟩
 |running=>exact h
 |finished=>exact h
end
section
variable{N:aa}{f:Option Str->AV}(C:(f Wv).bad=Ww)
include C
theorem aIf(D:List (Option Str)):((lx D).map f).any AV.bad=(D.map f).any AV.bad:=by
 induction D with
 |nil=>rfl
 |cons o D a =>
  cases o with
  |none=>show ((f Wv).bad||_)=((f Wv).bad||_);rw[C];rfl
  |some s=>show ((f (Wu s)).bad||_)=((f (Wu s)).bad||_);exact congrArg (_ || ·) a
theorem ju.cut(D:List (Option Str)):∀gl gs,ju w B N n (D.map f) gl gs->ju w B N n ((lx D).map f) gl gs:=by
 induction D with
 |nil=>exact λO O h=>h
 |cons o D r =>
  intro gl gs h;have l:∀ {A:Lk} {Y:aa},vl A ((lx (o::D)).map f) Y->vl A ((o::D).map f) Y:=λh q=>h ((aIf C (o::D)).trans q);cases o with
  |none=>exact λA k Y j i s Z S=>(h A k Y j (l i) s Z S).mono λe p q=>⟨q.1,λz=>absurd (C.symm.trans z).symm LZ⟩
  |some x=>exact λA k Y j i s Z S=>(h A k Y j (l i) s Z S).mono λe p q=>⟨q.1,λz=>⟨(q.2 z).1,lL (q.2 z).2 λv u d5 a b c d e=>⟨v,u,d5,a,b,c,d,r _ _ e⟩⟩⟩
end
section
open PySem PySem.W PyProof.Rows
abbrev wC(o:Obj)(f L:LP)(a:List (Str×LP)):Env:=bF (ak o).scope L (ak o).globals a (ak o).qualname f (ak o).code (ak o).builtins
def aC4{s:Str}(h:1<e9):AV.bytes (bx s)=cS e9 (tx s):=(if_pos h).symm
def GJ{y:Ln}(h : ¬ 1<e9):AV.ln y=cS e9 y:=by rcases y with _ |_ |s <;> first |rfl |exact(if_neg h).symm
def aEs{W:List Ln}(r:dt A 40)(x:W.length<=10^3)(hx:∀s,tx s∈W->cM s/\s.length<2^20):TC w A (af w) (.ref 313) [.lst (W.map .ln),.int (e9:Nat)] [] Y λv a8=>∃D,v=.ref D/\a8=(D,.list (W.map (cS e9)))::Y:=by
 refine m1 (JR [EU] (rest:=[(yU,.lst (W.map .ln))]) (cb:=[(EU,.int (e9:Nat))]) (o:=jd w.params) (fd:=ak (jd w.params)) (c6:=aI (aq 16)) (c:=312) (oc:=ng w.params) (vs:=aP (ng w.params)) (tq:=cy ((aP (ng w.params)).getD 1 .none)) (bq w)
  @_ @_ @_ @_ @_ @_ (λn=>@_) ⋯ @_ @_ @_ @_ @_ r.lt (Binds.of2 λZ K G j i=>⟨_,@_,.cons j (.cons i .nil)⟩) (.loc @_ (.cel @_ (.head _) .nil)) λL d=>?_)
 have a:=r.deeper (k:=37) (z:=wC (jd w.params) 313 L [(EU,d)]);have l:=a.h;have p:=dY (w:=w) (B:=af w) (A:=A.deeper (wC (jd w.params) 313 L [(EU,d)])) (z:=wC (jd w.params) 313 L [(EU,d)]) @_ @_ @_ @_ l;have E:mi [(EU,.int (e9:Nat))] EU=fX (.int (e9:Nat)):=rfl;simp only[cellsW,Le,NU,Lg,Lj,LI,LU,E];refine bE p 20 (ax.mk (wW (k:=5) (N:=[(d,fX (.int (e9:Nat)))]) (cl:=[(EU,d)]) (J:=λa6=>∃v,a6=[(pe,v)]) [pe] (a.mono ⋯) @_ @_ @_ @_ @_ (λO=>@_) ⟨_,rfl⟩ (ae p 20 ?_)));refine wH (f:=AV.ln) (g:=λy=>Wu (cS e9 y)) (oQ id (cS e9) W) (Mc x ⋯) (OP.mpr ⟨.head _,dh⟩) (λR y u=>?_) λD Q=>⟨_,⟨[_],Nc ..⟩,D,rfl,by rw[Ve];rfl⟩;refine jN λv a8 e=>bQ (aW rfl (rN (ae (((dY @_ @_ @_ @_ l).g (lp w) @_ @_).g (fV w) @_ @_) 40 ?_)));refine cel (v:=.int (e9:Nat)) @_ (e _ (.head _)) (bN (λc=>?_) λc=>?_)
 ·refine ax.mk (iz ?_);rcases y with _ |_ |s
  ·exact⟨rfl,rfl,_,rfl⟩
  ·exact⟨rfl,rfl,_,rfl⟩
  ·refine aD (hx s u) λj i=>?_;refine ax.mk (wV (T' := "str") (id := "str.encode") @_ @_ @_ iY sQ wE (T.sub (lE (v:=.ln (tx s)) @_ ⟨.str s,Wk.str s,oL,dd @_ ic (iu (Kk j i ⟨?_,rfl,_,rfl⟩))⟩ @_ rfl)));exact congrArg Wu (aC4 (OR.mp c)).symm
 ·exact⟨congrArg Wu (GJ λq=>c (OR.mpr q)).symm,rfl,_,rfl⟩
def rU{W:List Ln}(d:dt A 40)(a:W.length<=10^3)(hx:∀s,tx s∈W->cM s/\s.length<2^20)
  (k:∀D,K (.ref D) ⟨a6,(D,.list (W.map (cS e9)))::Y⟩):FC w A (af w) z (.ref 313) [.lst (W.map .ln),.int (e9:Nat)] [] ⟨a6,Y⟩ K:=ge (aEs d a hx) λv l q=>ag q λD i e=>i▸e▸k D
end
section
open PySem PySem.W PyProof.Rows
def aX(r:bz):AV:=.lst [.str r.1,.ln r.2]
section
variable(hv:Bool)(c0 c1:Nat)(a_ b9:List Ln)(c cc cg co:LP)(l0:aa)
abbrev dx:aa:=(cc,fX (.lst (b9.map .ln)))::(cg,fX (.lst (a_.map .ln)))::(co,fX (.lst [.int (c0:Nat),.int (c1:Nat)]))::l0
abbrev cW(a d c i e rw:AV:=.any):List (Str×AV):=[(Fl,.bool hv),(Fk,a),(Fj,d),(iL,c),(tD,i),(Fg,e),(Ff,rw)]
def Cm(a:List Nat)(P:St->Prop):Prop:=∀(d:List Str),d++a.map (bk hv c0)=[bk hv c0 (bX c1 a_),bk hv c0 (bX c1 b9)]->(∀s∈a,s<=10^4)->P ⟨cW hv .any (.ref c),(c,.list (d.map .str))::dx c0 c1 a_ b9 cc cg co l0⟩
def Cj(P:St->Prop):Prop:=P ⟨cW hv .any (.ref c),(c,.list [.str (bk hv c0 (bX c1 a_)),.str (bk hv c0 (bX c1 b9))])::dx c0 c1 a_ b9 cc cg co l0⟩
end
def aBp{c0 s a:Nat}(h:a=if s=0 then c0 else c0+1)(c:(s:Int)<2):sT a=bk Ww c0 s:=by
 have c:s<2:=OR.mp c;show _=if s<2 then sT (if s=0 then c0 else c0+1) else _
 rw[if_pos c,h]
def aBo{c0 s a:Nat}(h:a=if s=0 then c0 else c0+1)(c : ¬ (s:Int)<2):sT a++Fh++sT (c0+s)=bk Ww c0 s:=by
 have c : ¬ s<2:=λq=>c (OR.mpr q);show _=if s<2 then _ else sT (if s=0 then c0 else c0+1)++_++_
 rw[if_neg c,h]
def aBn{c0 s a:Nat}(h:a=if s=0 then c0 else c0+1)(c:(s:Int)=1):sT a=bk Wx c0 s:=by
 have c:s=1:=PS.mp c;show _=if s=1 then sT (if s=0 then c0 else c0+1) else _
 rw[if_pos c,h]
def aBm{c0 s a:Nat}(h:a=if s=0 then c0 else c0+1)(c:(s:Int)≠1):sT a++Fh++sT s=bk Wx c0 s:=by
 have c : ¬ s=1:=λq=>c (PS.mpr q);show _=if s=1 then _ else sT (if s=0 then c0 else c0+1)++_++_
 rw[if_neg c,h]
def iq{a b:Str}{m:Nat}(h:a.length<=m)(k:b.length<=n):(a++b).length<=m+n:=by rw[Pg];exact OM h k
def DP{hv:Bool}{c0 s:Nat}(h:c0<=10^4)(k:s<=10^4):(bk hv c0 s).length<=21:=by
 have f:(if s=0 then c0 else c0+1)<=10^6:=by split <;> omega
 have a:=jQ f;have b:=jQ (n:=c0+s) ⋯;have d:=jQ (n:=s) ⋯;have one:(Fh:Str).length<=1:=LK 1;cases hv with
 |true =>
  show (if s<2 then sT (if s=0 then c0 else c0+1) else _).length<=21;split
  ·exact Mc a ⋯
  ·exact iq (iq a one) b
 |false =>
  show (if s=1 then sT (if s=0 then c0 else c0+1) else _).length<=21;split
  ·exact Mc a ⋯
  ·exact iq (iq a one) d
abbrev dk(m:Str)(l:Ln):bz:=(m,l)
def HO{R:List bz}{x y:List Ln}(e:x≠[]):R++bU m kept x y=R++kept.map (dk FM)++x.map (dk (if y=[] then m else FN)):=by
 unfold bU;rw[if_neg e,LH]
def HN{R:List bz}{x y:List Ln}(e:x=[]):R++bU m kept x y=R:=by
 unfold bU;rw[if_pos e,Ms]
def jC(s:Str)(h:T w A B z Vals (spliced (NF a9 (Mh jb z))) V λvs di=>vs=[.str s,.str eT]/\K (aX (cu s)) di):T w A B z Val (ME (.List jb a9) z) V K:=T.sub (fK (h.mono λvs di k=>⟨by rw[k.1];exact Mx rfl,_,by rw[k.1];exact .lst (.cons (.refl _) (.cons (.ln _) .nil)),k.2⟩))
def BZ(s:Str)(l:Ln)(h:T w A B z Vals (spliced (NF a9 (Mh jb z))) V λvs di=>vs=[.str s,.ln l]/\K (aX (s,l)) di):T w A B z Val (ME (.List jb a9) z) V K:=fK (h.mono λvs di k=>⟨by rw[k.1];exact Mx rfl,by rw[k.1];exact k.2⟩)
def gD(a:Str):List bz:=[cu EY,cu Fe,cu yd,cu (EY++a++EX)]
def jM(d a:Str):List bz:=[cu Fe,cu Fd,cu (Fc++d++Fb++a++Fa)]
def cE{b c:Bool}{P Q:Prop}(e:c=b)(h:if b=Ww then P else Q):if c=Ww then P else Q:=e▸h
def sU{K:dr->St->Prop}{b:Bool}{Q:Prop}(a:b=Ww)(e:V=di)(h:T w A B z fv (execs rest z) di K):pz b (lW w A B z rest K .next V) Q:=by
 subst a;subst e;exact h
def aIJ{p:Pos}{mk:Ln->bz}{W:List Ln}(r:dt A 5)(n:Sb a5 z=Nb cl)(Q:(a5.names.all λy=>y.2 != .cell)=Ww)(G:a5.kind=.function)
  (E:(a5.names.all λx=>x.2 != .local||a5.names.lookup x.1==Wu .local)=Ww) (u:([(pe:Str)].all λx=>a5.names.lookup x==Wu .local)=Ww) (i:∀x,NP iter z x=Nb x) (d:T w A (af w) z Val (ME iter z) V λv s=>v=.lst (W.map .ln)/\s=V) (hz:W.length<=10^4) (o:kn N V.led)
  (j:∀a l a8,kn N a8->T w A (af w) (Qx a5 cl a z) Val (ME d7 (Qx a5 cl a z)) ⟨[(pe,.ln l)],a8⟩ λv s=>v=aX (mk l)/\s=⟨[(pe,.ln l)],a8⟩) (k:K (.lst ((W.map mk).map aX)) V):T w A (af w) z Val (ME (.ListComp d7 [⟨.Name pe p,iter,[],0⟩] a5 a9) z) V K:=m7 (wW (k:=5) (N:=N) (cl:=cl) (J:=λa6=>∃v,a6=[(pe,v)]) [pe] r n Q G E u i ⟨_,rfl⟩ (T.to _ d (wH (f:=AV.ln) (g:=λl=>Wu (aX (mk l))) (oQ aX mk W) (Mc hz ⋯) o
  (λa l R=>jN λv a8 e=>bQ (aW rfl (rN ((j a l a8 e).mono λv s q=>⟨congrArg Wu q.1.symm,congrArg St.led q.2,_,congrArg St.loc q.2⟩)))) λD Y => .mk D _ _ rfl rfl k)))
abbrev cf(w:Lz)(L cc cg co:LP):Env:=wC (nj w.params) 303 L [(Fm,cc),(Fo,cg),(Fp,co)]
def gR{L cc cg co:LP}(a:A.handled=Wv):=(((((dY (w:=w) (B:=af w) (A:=A) (z:=cf w L cc cg co) @_ @_ @_ @_ a).g (lm w) @_ @_).g (fV w) @_ @_).g (wt w) @_ @_).m ⟨EC,1, "list.append"⟩ OQ iH OU).m ⟨EZ,1, "list.extend"⟩ OQ yk OY
section
variable{L cc cg co D:LP}{a5:Scope}{N:aa}{ys:Str}{p q a9 C:Pos}{W:List Ln}{R:List bz}{Y:aa}{c:LP}
def Bj(h:A.handled=Wv)(a:a5.kind=.function):ve ⟨w,A,af w,Qx a5 cl D (cf w L cc cg co),[],[],[]⟩:=dY @_ @_ (by show (a5.kind==.module&&_)=Wx;rw[a];rfl) (by show (if a5.kind.isAnnotationScope then _ else a5.kind)=_;rw[a];rfl) h
def GH(a5:Scope):Bool:=(a5.names.all λy=>y.2 != .cell)&&((a5.names.all λx=>x.2 != .local||a5.names.lookup x.1==Wu .local)&&([(pe:Str)].all λx=>a5.names.lookup x==Wu .local))
def wc{R:List bz}{W:List Ln}{m:Nat}(f:Ln->bz)(h:R.length<=m)(a:W.length<=k):(R++W.map f).length<=m+k:=by rw[Lb,KR];exact OM h a
def Cb(mk:Ln->bz)(o:dt A 5)(h:GH a5=Ww)(r:a5.kind=.function)(i:Sb a5 (cf w L cc cg co)=Nb cl)(a:T w A (af w) (cf w L cc cg co) Val (ME (.Name ys q) (cf w L cc cg co)) ⟨a6,(c,.list (R.map aX))::Y⟩ λv s=>v=.lst (W.map .ln)/\s=⟨a6,(c,.list (R.map aX))::Y⟩)
  (hz:W.length<=10^3) (j:R.length<=10^5) (n:kn N ((c,.list (R.map aX))::Y)) (e:∀D l a8,kn N a8->T w A (af w) (Qx a5 cl D (cf w L cc cg co)) Val (ME d7 (Qx a5 cl D (cf w L cc cg co))) ⟨[(pe,.ln l)],a8⟩ λv s=>v=aX (mk l)/\s=⟨[(pe,.ln l)],a8⟩)
  (k:K .none ⟨a6,(c,.list ((R++W.map mk).map aX))::Y⟩):eE (af w) (.ref c) ((c,.list (R.map aX))::Y) "list" /\ ax (T w A (af w) (cf w L cc cg co) Val (ME (.ListComp d7 [⟨.Name pe p,.Name ys q,[],0⟩] a5 a9) (cf w L cc cg co)) ⟨a6,(c,.list (R.map aX))::Y⟩ λv s=>ax (FC w A (af w) (cf w L cc cg co) (.blt "list.extend") [.ref c,v] [] s K)):=aD (Bool.and_eq_true_iff.mp h) λy d=>aD (Bool.and_eq_true_iff.mp d) λx u =>
 ⟨bH (by repeat constructor),.mk (aIJ (N:=N) (mk:=mk) o i y r x u (λO=>rfl) a (Mc hz ⋯) n e (.mk (Cz (W:=R.map aX) (zs:=(R++W.map mk).map aX) .frz (by rw[KR,KR,KR];exact Mc (OM j hz) ⋯) (LD ..).symm .here k)))⟩
def rQ(m:Str){u:Nat}(e:dt A 5)(h:(GH a5&&a5.names.all λx=>decide (x.2 ≠ .free))=Ww)(i:a5.kind=.function)(d:T w A (af w) (cf w L cc cg co) Val (ME (.Name ys q) (cf w L cc cg co)) ⟨a6,(c,.list (R.map aX))::Y⟩ λv s=>v=.lst (W.map .ln)/\s=⟨a6,(c,.list (R.map aX))::Y⟩)
  (hz:W.length<=10^3) (n:R.length<=10^5) (k:K .none ⟨a6,(c,.list ((R++W.map (dk m)).map aX))::Y⟩):eE (af w) (.ref c) ((c,.list (R.map aX))::Y) "list" /\ ax (T w A (af w) (cf w L cc cg co) Val (ME (.ListComp (.List [.Constant (.str m) u g,.Name pe f] C) [⟨.Name pe p,.Name ys q,[],0⟩] a5 a9) (cf w L cc cg co)) ⟨a6,(c,.list (R.map aX))::Y⟩ λv s=>ax (FC w A (af w) (cf w L cc cg co) (.blt "list.extend") [.ref c,v] [] s K)):=aD (Bool.and_eq_true_iff.mp h) λa b =>
 Cb (N:=[]) (cl:=[]) (dk m) e a i (On λx j=>of_decide_eq_true (LS.mp b x j)) d hz n dh (λD l a8 O=>BZ m l (aO (Bj e.h i) 20 ⟨rfl,rfl,rfl⟩)) k
end
section
variable{c0 c1:Nat}{C D:Str}{c a_ b9:List Ln}{Y:aa}{L cc cg co:LP}(F:dt A 37)
 (H:c.length<=10^3)
include F H
theorem aFh(o:a_.length<=10^3){R:List bz}(k:R.length<=10^4):T w A (af w) (cf w L cc cg co) fv (exec (((aI (aq 14)).getD 6 default)) (cf w L cc cg co))
  ⟨cW Ww .any (.lst [.str C,.str D]) .any .any (.lst (c.map .ln)) (.ref f),(f,.list ((R).map aX))::dx c0 c1 a_ b9 cc cg co Y⟩ (Nx λP=>P ⟨cW Ww .any (.lst [.str C,.str D]) .any .any (.lst (c.map .ln)) (.ref f),(f,.list ((R++bU FO c a_ b9).map aX))::dx c0 c1 a_ b9 cc cg co Y⟩):=by
 have a:=gR (w:=w) (L:=L) (cc:=cc) (cg:=cg) (co:=co) F.h;refine bV (aV a 60 (cel (v:=.lst (a_.map .ln)) @_ (.tail _ (.tail _ (.head _))) (ax.mk (m7 (cH rfl λn i=>⟨_,_,_,rfl,rfl,ax.mk (lI (F.mono ⋯) .frz .frz ?_)⟩)))));by_cases e:a_=[]
 ·rw[HN e];exact cE (b:=Wx) (by rw[e];rfl) (aK (m3 (λO y=>y) @_))
 ·rw[HO e];refine cE (b:=Ww) (by rw[Po,PP,PI];exact e) ?_;have d:dt A 5:=F.mono ⋯;refine ba a 60 (rQ FM (R:=R) (W:=c) d @_ @_ (ae a 20 ⟨rfl,rfl⟩) H (Mc k ⋯) ?_);refine bE a 60 (Cb (cl:=[(Fm,cc)]) (N:=[(cc,fX (.lst (b9.map .ln)))]) (dk (if b9=[] then FO else FN)) (R:=R++c.map (dk FM)) (W:=a_) d @_ @_ @_ (ae a 20 (cel (v:=.lst (a_.map .ln)) @_ (.tail _ (.tail _ (.head _))) ⟨rfl,rfl⟩)) o (Mc (wc _ k H) ⋯) (OP.mpr ⟨.tail _ (.head _),dh⟩) (λp l a8 j=>BZ (if b9=[] then FO else FN) l (aO (Bj F.h @_) 20 ?_)) (m3 (λO y=>y) @_));refine cel (v:=.lst (b9.map .ln)) @_ (j _ (.head _)) (ax.mk (m7 (cH rfl λn i=>⟨_,_,_,rfl,rfl,ax.mk (xn (F.mono ⋯) .frz .frz ?_)⟩)));refine cA (λq=>?_) λq=>?_
  ·rw[Po,Qa] at q;exact⟨by rw[if_pos q],rfl,rfl⟩
  ·rw[Po,PI] at q;exact⟨by rw[if_neg q],rfl,rfl⟩
theorem aFi(o:b9.length<=10^3){R:List bz}(k:R.length<=10^4):T w A (af w) (cf w L cc cg co) fv (exec (((aI (aq 14)).getD 8 default)) (cf w L cc cg co))
  ⟨cW Ww .any (.lst [.str C,.str D]) .any .any (.lst (c.map .ln)) (.ref f),(f,.list ((R).map aX))::dx c0 c1 a_ b9 cc cg co Y⟩ (Nx λP=>P ⟨cW Ww .any (.lst [.str C,.str D]) .any .any (.lst (c.map .ln)) (.ref f),(f,.list ((R++bU FQ c b9 a_).map aX))::dx c0 c1 a_ b9 cc cg co Y⟩):=by
 have a:=gR (w:=w) (L:=L) (cc:=cc) (cg:=cg) (co:=co) F.h;refine bV (aV a 60 (cel (v:=.lst (b9.map .ln)) @_ (.tail _ (.head _)) (ax.mk (m7 (cH rfl λn i=>⟨_,_,_,rfl,rfl,ax.mk (lI (F.mono ⋯) .frz .frz ?_)⟩)))));by_cases e:b9=[]
 ·rw[HN e];exact cE (b:=Wx) (by rw[e];rfl) (aK (m3 (λO y=>y) @_))
 ·rw[HO e];refine cE (b:=Ww) (by rw[Po,PP,PI];exact e) ?_;have d:dt A 5:=F.mono ⋯;refine ba a 60 (rQ FM (R:=R) (W:=c) d @_ @_ (ae a 20 ⟨rfl,rfl⟩) H (Mc k ⋯) ?_);refine bE a 60 (Cb (cl:=[(Fo,cg)]) (N:=[(cg,fX (.lst (a_.map .ln)))]) (dk (if a_=[] then FQ else FN)) (R:=R++c.map (dk FM)) (W:=b9) d @_ @_ @_ (ae a 20 (cel (v:=.lst (b9.map .ln)) @_ (.tail _ (.head _)) ⟨rfl,rfl⟩)) o (Mc (wc _ k H) ⋯) (OP.mpr ⟨.tail _ (.tail _ (.head _)),dh⟩) (λp l a8 j=>BZ (if a_=[] then FQ else FN) l (aO (Bj F.h @_) 20 ?_)) (m3 (λO y=>y) @_));refine cel (v:=.lst (a_.map .ln)) @_ (j _ (.head _)) (ax.mk (m7 (cH rfl λn i=>⟨_,_,_,rfl,rfl,ax.mk (xn (F.mono ⋯) .frz .frz ?_)⟩)));refine cA (λq=>?_) λq=>?_
  ·rw[Po,Qa] at q;exact⟨by rw[if_pos q],rfl,rfl⟩
  ·rw[Po,PI] at q;exact⟨by rw[if_neg q],rfl,rfl⟩
variable(N:a_.length<=10^3)(S:b9.length<=10^3)(M:C.length<=21)(q:D.length<=21)
include N S M q
theorem aBY:T w A (af w) (cf w L cc cg co) fv (execs ((aI (aq 14)).drop 4) (cf w L cc cg co))
  ⟨cW Wx .any (.lst [.str C,.str D]) .any .any (.lst (c.map .ln)),dx c0 c1 a_ b9 cc cg co Y⟩ (fo λv l=>∃l',vi l l'/\l'=Y/\v=.lst ((jL C D c a_ b9).map aX)):=by
 have d:=gR (w:=w) (L:=L) (cc:=cc) (cg:=cg) (co:=co) F.h;refine aw (bV (T.to Ww (aV d 20 ⟨rfl,rfl⟩) ?_));rw[if_pos rfl];have p:(Fc:Str).length<=4:=LK 4;have o:(Fb:Str).length<=2:=LK 2;have u:(Fa:Str).length<=3:=LK 3;have n:=iq p M;have b2:=iq n o;have s:=iq b2 q;refine ba d 60 ?_;refine ax.mk (oD ?_);refine aO d 60 ?_;refine ax.mk (jC Fe (aO d 60 ⟨rfl,ax.mk (jC Fd (aO d 60 ⟨rfl,?_⟩))⟩));refine ax.mk (jC (Fc++C++Fb++D++Fa) (aO d 60 ?_));refine ax.mk (aE (x:=.str C) .frz ⋯ ⋯ rfl (ax.mk (eZ (Ox (OM p M) ⋯) (ax.mk (eZ (Ox (OM n o) ⋯) ?_)))));refine ax.mk (aE (x:=.str D) .frz ⋯ ⋯ rfl (ax.mk (eZ (Ox (OM b2 q) ⋯) (ax.mk (eZ (Ox (OM s u) ⋯) ?_)))));refine⟨rfl,⟨Mx rfl,λj r=>?_⟩⟩;refine sU (di:=⟨cW Wx .any (.lst [.str C,.str D]) .any .any (.lst (c.map .ln)) (.ref j),(j,.list ((jM C D).map aX))::dx c0 c1 a_ b9 cc cg co Y⟩) rfl rfl ?_;have i:(jM C D).length=3:=rfl;have e:dt A 5:=F.mono ⋯;have k:=wc (dk FV) (Oz i) H;refine ba d 60 (rQ FV (R:=jM C D) (W:=c) e @_ @_ (ae d 20 ⟨rfl,rfl⟩) H (Mc (Oz i) ⋯) ?_);refine ba d 60 (rQ FU (R:=jM C D++c.map (dk FV)) (W:=a_) e @_ @_ (ae d 20 (cel (v:=.lst (a_.map .ln)) @_ (.tail _ (.tail _ (.head _))) ⟨rfl,rfl⟩)) N (Mc k ⋯) ?_);refine ba d 60 (rQ FS (R:=jM C D++c.map (dk FV)++a_.map (dk FU)) (W:=b9) e @_ @_ (ae d 20 (cel (v:=.lst (b9.map .ln)) @_ (.tail _ (.head _)) ⟨rfl,rfl⟩)) S (Mc (wc _ k N) ⋯) ?_);exact m5 (a:=j) (W:=(((jM C D++c.map (dk FV))++a_.map (dk FU))++b9.map (dk FS)).map aX) (ft:=cW Wx .any (.lst [.str C,.str D]) .any .any (.lst (c.map .ln)) (.lst ((((jM C D++c.map (dk FV))++a_.map (dk FU))++b9.map (dk FS)).map aX))) (by repeat constructor) (bE d 20 ⟨Y,⟨[_,_,_],.refl _⟩,rfl,rfl⟩)
theorem aB1:T w A (af w) (cf w L cc cg co) fv (execs ((aI (aq 14)).drop 4) (cf w L cc cg co))
  ⟨cW Ww .any (.lst [.str C,.str D]) .any .any (.lst (c.map .ln)),dx c0 c1 a_ b9 cc cg co Y⟩ (fo λv l=>∃l',vi l l'/\l'=Y/\v=.lst ((ly C D c a_ b9).map aX)):=by
 have k:(EY:Str).length<=4:=LK 4;have u:(EX:Str).length<=5:=LK 5;have r:=iq k M;have i:(gD C).length=4:=rfl;have z:=Bg FO H N (y:=b9);have o:(gD C++bU FO c a_ b9).length<=3000:=by rw[Lb,i];omega
 have n:(gD C++bU FO c a_ b9++[cu (Fe++D++EW)]).length<=4000:=by rw[Lb,Np];omega
 have j:(Fe:Str).length<=4:=LK 4;have b2:=iq j q;have s:(EW:Str).length<=5:=LK 5;have d:=gR (w:=w) (L:=L) (cc:=cc) (cg:=cg) (co:=co) F.h;refine aw (rP (aV d 20 ⟨rfl,rfl⟩) (aK ?_));refine ba d 60 ?_;refine ax.mk (oD ?_);refine aO d 60 ?_;refine ax.mk (jC EY (aO d 60 ⟨rfl,ax.mk (jC Fe (aO d 60 ⟨rfl,ax.mk (jC yd (aO d 60 ⟨rfl,?_⟩))⟩))⟩));refine ax.mk (jC (EY++C++EX) (aO d 60 ?_));refine ax.mk (aE (x:=.str C) .frz ⋯ ⋯ rfl (ax.mk (eZ (Ox (OM k M) ⋯) (ax.mk (eZ (Ox (OM r u) ⋯) ?_)))));refine⟨rfl,⟨Mx rfl,λe p=>?_⟩⟩;refine sU (di:=⟨cW Ww .any (.lst [.str C,.str D]) .any .any (.lst (c.map .ln)) (.ref e),(e,.list ((gD C).map aX))::dx c0 c1 a_ b9 cc cg co Y⟩) rfl rfl ?_;refine aw (l7 (λP=>P ⟨cW Ww .any (.lst [.str C,.str D]) .any .any (.lst (c.map .ln)) (.ref e),(e,.list ((gD C++bU FO c a_ b9).map aX))::dx c0 c1 a_ b9 cc cg co Y⟩) (aFh F H N (Mc (Oz i) ⋯)) ?_);refine ba d 60 ⟨bH (by repeat constructor),?_⟩;refine ax.mk (jC (Fe++D++EW) (aO d 60 ?_));refine ax.mk (aE (x:=.str D) .frz ⋯ ⋯ rfl (ax.mk (eZ (Ox (OM j q) ⋯) (ax.mk (eZ (Ox (OM b2 s) ⋯) ?_)))));refine⟨rfl,ax.mk (lH (W:=(gD C++bU FO c a_ b9).map aX) (ys:=(gD C++bU FO c a_ b9++[cu (Fe++D++EW)]).map aX) (nU (f:=aX)) .here (by rw[KR];exact Mc o ⋯) ?_)⟩;refine aw (l7 (λP=>P ⟨cW Ww .any (.lst [.str C,.str D]) .any .any (.lst (c.map .ln)) (.ref e),(e,.list ((gD C++bU FO c a_ b9++[cu (Fe++D++EW)]++bU FQ c b9 a_).map aX))::dx c0 c1 a_ b9 cc cg co Y⟩) (aFi F H S (Mc n ⋯)) ?_);exact m5 (a:=e) (W:=(gD C++bU FO c a_ b9++[cu (Fe++D++EW)]++bU FQ c b9 a_).map aX) (ft:=cW Ww .any (.lst [.str C,.str D]) .any .any (.lst (c.map .ln)) (.lst ((gD C++bU FO c a_ b9++[cu (Fe++D++EW)]++bU FQ c b9 a_).map aX))) (by repeat constructor) (bE d 20 ⟨Y,⟨[_,_,_],.refl _⟩,rfl,rfl⟩)
end
def aB2{hv:Bool}{c0 c1:Nat}{a_ b9:List Ln}(E:dt A 37)(h0:c0<=10^3)(h1:c1<=10^3)(hg:a_.length<=10^3)(hc:b9.length<=10^3):T w A (af w) (cf w L cc cg co) fv (execs (aI (aq 14)) (cf w L cc cg co)) ⟨[(Fl,.bool hv)],dx c0 c1 a_ b9 cc cg co Y⟩ (fo λv l=>∃l',vi l l'/\l'=Y/\v=.lst ((eO hv c0 c1 a_ b9).map aX)):=by
 have z:=gR (w:=w) (L:=L) (cc:=cc) (cg:=cg) (co:=co) E.h;refine T.spares [Fk,Fj,iL,tD,Fg,Ff] @_ ?_;show T _ _ _ _ _ _ ⟨cW hv,dx c0 c1 a_ b9 cc cg co Y⟩ _;refine ba z 60 (ax.mk (fK (aO z 60 (cel (v:=.lst [.int (c0:Nat),.int (c1:Nat)]) @_ (.tail _ (.tail _ (.head _))) (ax.mk (aE (x:=.int (c1:Nat)) .frz ⋯ ⋯ rfl
  (cel (v:=.lst (a_.map .ln)) @_ (.tail _ (.head _)) (ax.mk (rX (n:=a_.length) .frz (KR ..) ⋯ ?_)))))))))
 refine cel (v:=.lst [.int (c0:Nat),.int (c1:Nat)]) @_ (.tail _ (.tail _ (.head _))) (ax.mk (aE (x:=.int (c1:Nat)) .frz ⋯ ⋯ rfl
  (cel (v:=.lst (b9.map .ln)) @_ (.head _) (ax.mk (rX (n:=b9.length) .frz (KR ..) ⋯ ?_)))))
 refine⟨Mx rfl,?_⟩;refine ba z 20 (ax.mk (cH rfl λj f4=>?_));refine aw (l7 (Cj hv c0 c1 a_ b9 j cc cg co Y) (jz (k:=5) (λi:Nat=>AV.int (i:Int)) (Cm hv c0 c1 a_ b9 j cc cg co Y) (E.mono ⋯) (ae z 20 (fc λit G hI => .mk hI (.mk (gs:=[bX c1 a_,bX c1 b9]) (λO y=>y [] rfl ?_) @_))) ?_ ?_ λO=>@_) ?_)
 ·exact OP.mpr ⟨by unfold bX;omega,OP.mpr ⟨by unfold bX;omega,dh⟩⟩
 ·intro G s b o V K;have hs:=K s (KJ ..);have m:o.length<=2:=by have:=congrArg NY V;rw[Lb] at this;exact Mc (Ow ..) (Oz this)
  refine bQ (aW rfl ?_);obtain⟨u,d⟩:∃u:Nat,u=if s=0 then c0 else c0+1:=⟨_,rfl⟩
  have p:u<=10^6:=by rw[d];split <;> omega
  refine aw (l7 (λP=>P ⟨cW hv .any (.ref j) (.int (s:Nat)) (.int (u:Nat)),((j,.list (o.map .str))::dx c0 c1 a_ b9 cc cg co Y)++G⟩) (aN z 60 (gQ (λc=>?_) λc=>?_)) ?_)
  ·refine cel (v:=.lst [.int (c0:Nat),.int (c1:Nat)]) @_ (.tail _ (.tail _ (.tail _ (.head _)))) (ax.mk (aE (x:=.int (c0:Nat)) .frz ⋯ ⋯ rfl ?_));rw[if_pos (PS.mp c)] at d;exact m3 (λO y=>y) (by subst d;kernel_rfl)
  ·refine cel (v:=.lst [.int (c0:Nat),.int (c1:Nat)]) @_ (.tail _ (.tail _ (.tail _ (.head _)))) (ax.mk (aE (x:=.int (c0:Nat)) .frz ⋯ ⋯ rfl ?_));rw[if_neg λe=>c (PS.mpr e)] at d;exact m3 (λO y=>y) (by subst d;kernel_rfl)
  have t:(o.map AV.str).length<=LY:=by rw[KR];exact Mc m ⋯
  have Q:=jQ p;have F:(sT s).length<=10:=jQ (Mc hs ⋯);have C:(sT (c0+s)).length<=10:=jQ ⋯;have M:∀x,x=bk hv c0 s->tb (Lo (λi:Nat=>AV.int (i:Int)) (Cm hv c0 c1 a_ b9 j cc cg co Y)) (Nx (Cj hv c0 c1 a_ b9 j cc cg co Y)) (b.map λi:Nat=>AV.int (i:Int)) G .next ⟨cW hv .any (.ref j) (.int (s:Nat)) (.int (u:Nat)),(j,.list ((o++[x]).map .str))::(dx c0 c1 a_ b9 cc cg co Y++G)⟩:=λx e=>by
   subst e;exact .next (l:=(j,.list ((o++[bk hv c0 s]).map .str))::dx c0 c1 a_ b9 cc cg co Y) (.mk (gs:=b) (λO y=>y (o++[bk hv c0 s]) (by rw[LH];exact V) λx hx=>K x (KP _ hx)) @_)
  have l1:(sT u).length+(Fh:Str).length<10^6:=Ox (OK Q 1) ⋯;have X:∀y:Str,y.length<=10->(sT u++Fh:Str).length+y.length<10^6:=λy hy=>by rw[Pg];exact Ox (OM (OK Q 1) hy) ⋯
  have r:∀x,x=bk hv c0 s->ax (FC w A (af w) (cf w L cc cg co) (.blt "list.append") [.ref j,.str x] [] ⟨cW hv .any (.ref j) (.int (s:Nat)) (.int (u:Nat)),(j,.list (o.map .str))::(dx c0 c1 a_ b9 cc cg co Y++G)⟩ λO Z=>tb (Lo (λi:Nat=>AV.int (i:Int)) (Cm hv c0 c1 a_ b9 j cc cg co Y)) (Nx (Cj hv c0 c1 a_ b9 j cc cg co Y)) (b.map λi:Nat=>AV.int (i:Int)) G .next Z):=λx e =>
   ax.mk (lH (W:=o.map .str) (ys:=(o++[x]).map .str) (nU (f:=AV.str) (y:=x)) .here t (M x e))
  refine bE z 60 (cA (λq=>⟨bH (by repeat constructor),bN (λc=>?_) λc=>?_⟩) λq=>⟨bH (by repeat constructor),gQ (λc=>?_) λc=>?_⟩)
  ·refine ax.mk (iw (gY p) (r _ ?_));subst q;exact aBp d c
  ·refine ax.mk (iw (gY p) (ax.mk (eZ l1 ?_)));refine cel (v:=.lst [.int (c0:Nat),.int (c1:Nat)]) @_ (.tail _ (.tail _ (.tail _ (.head _)))) (ax.mk (aE (x:=.int (c0:Nat)) .frz ⋯ ⋯ rfl ?_));refine ax.mk (iw (gY (n:=c0+s) ⋯) (ax.mk (eZ (X _ C) (r _ ?_))));subst q;exact aBo d c
  ·refine ax.mk (iw (gY p) (r _ ?_));subst q;exact aBn d c
  ·refine ax.mk (iw (gY p) (ax.mk (eZ l1 (ax.mk (iw (gY (Mc hs ⋯)) (ax.mk (eZ (X _ F) (r _ ?_))))))));subst q;exact aBm d c
 ·exact λo V O=>Nx.mkE (λO y=>y) (by rw[show o=[bk hv c0 (bX c1 a_),bk hv c0 (bX c1 b9)] from(Ms o).symm.trans V];rfl) @_
 refine m5 (a:=j) (W:=[.str (bk hv c0 (bX c1 a_)),.str (bk hv c0 (bX c1 b9))]) (ft:=cW hv .any (.lst [.str (bk hv c0 (bX c1 a_)),.str (bk hv c0 (bX c1 b9))])) (by repeat constructor) ?_;refine aw (BQ (BS (k:=5) (N:=[(co,fX (.lst [.int (c0:Nat),.int (c1:Nat)]))]) (cl:=[(Fp,co)]) (J:=λa6=>∃v,a6=[(q1,v)]) [q1] @_ (E.mono ⋯) @_ @_ @_ @_ @_ (λO=>@_) ⟨_,rfl⟩
  (ae z 20 (cel (v:=.lst [.int (c0:Nat),.int (c1:Nat)]) @_ (.tail _ (.tail _ (.head _))) (ax.mk (aE (x:=.int (c1:Nat)) .frz ⋯ ⋯ rfl (ax.mk (Cs (BC (g:=λk=>Wu (.ln (tx (sT (c0+k))))) (oQ AV.ln (λk=>tx (sT (c0+k))) _) ⋯ (OP.mpr ⟨.tail _ (.tail _ (.head _)),dh⟩) (λL2 k hk=>?_) λD hD=>aW rfl ?_)))))))))
 ·exact jN λv a8 H=>bQ (aW rfl (rN (T.sub (ae ((dY @_ @_ @_ @_ E.h).g (fV w) @_ @_) 40 (cel (v:=.lst [.int (c0:Nat),.int (c1:Nat)]) @_ (H _ (.head _)) (ax.mk (aE (x:=.int (c0:Nat)) .frz ⋯ ⋯ rfl (ax.mk (iw (gY (n:=c0+k) ⋯) ⟨_,Wk.ln _,rfl,rfl,_,rfl⟩)))))))))
 have R:(bg c0 c1).length=c1:=by rw[bg,KR,PE]
 refine⟨rfl,D,_,_,cW hv .any (.lst [.str (bk hv c0 (bX c1 a_)),.str (bk hv c0 (bX c1 b9))]) .any .any (.lst ((bg c0 c1).map .ln)),_,rfl,by repeat constructor,?_⟩;have g1:bX c1 a_<=10^4:=by unfold bX;omega
 have g2:bX c1 b9<=10^4:=by unfold bX;omega
 have U:=DP (hv:=hv) (Mc h0 ⋯) g1;have S:=DP (hv:=hv) (Mc h0 ⋯) g2;cases hv with
 |false=>exact aBY E (by rw[R];exact h1) hg hc U S
 |true=>exact aB1 E (by rw[R];exact h1) hg hc U S
def aEq{hv:Bool}{c0 c1:Nat}{a_ b9:List Ln}(d:dt A 40)(h0:c0<=10^3)(a:c1<=10^3)(e:a_.length<=10^3)(i:b9.length<=10^3):TC w A (af w) (.ref 303) [.lst [.int (c0:Nat),.int (c1:Nat)],.lst (a_.map .ln),.lst (b9.map .ln),.bool hv] [] Y λv a8=>a8=Y/\v=.lst ((eO hv c0 c1 a_ b9).map aX):=by
 refine m1 (JR [Fm,Fo,Fp] (rest:=[(Fl,.bool hv)]) (cb:=[(Fp,.lst [.int (c0:Nat),.int (c1:Nat)]),(Fo,.lst (a_.map .ln)),(Fm,.lst (b9.map .ln))]) (o:=nj w.params) (fd:=ak (nj w.params)) (c6:=aI (aq 14)) (c:=302) (oc:=nk w.params) (vs:=aP (nk w.params)) (tq:=cy ((aP (nk w.params)).getD 1 .none)) (bq w)
  @_ @_ @_ @_ @_ @_ (λn=>@_) ⋯ @_ @_ @_ @_ @_ d.lt (Binds.of4 λZ u s r p a l k j=>⟨_,@_,.cons a (.cons l (.cons k (.cons j .nil)))⟩)
  (.cel @_ (.tail _ (.tail _ (.head _))) (.cel @_ (.tail _ (.head _)) (.cel @_ (.head _) (.loc @_ .nil)))) λL z y x=>aB2 d.deeper h0 a e i)
end
section
open PySem PySem.W PyProof.Rows
section
variable(f6 n e9:Nat)(a_ b9:List Ln)(F:LP)(l0:aa)
abbrev rq(d a e i mk:AV:=.any):List (Str×AV):=[(EU,.int (e9:Nat)),(Fm,.lst (b9.map .ln)),(Fo,.lst (a_.map .ln)),(jT,.int (n:Nat)),(Fp,.int (f6:Nat)),(pe,d),(ES,a),(Fg,e),(yS,i),(ER,mk)]
def aJu{a b:Nat}(d:A.handled=Wv)(h:R (.int (min a b:Nat)) V):FC w A B z (.blt "min") [.int (a:Nat),.int (b:Nat)] [] V R:=rV d (by rw[show min (a:Int) (b:Int)=((min a b:Nat):Int) from by omega];exact h)
def Jf(p:α->Bool)(W:List α):(!(W.filter p).isEmpty)=W.any p:=by
 induction W with
 |nil=>rfl
 |cons x W a =>
  rw[Qq,List.any_cons];cases h:p x with
  |true=>rfl
  |false=>exact a
def Kb(all:List (Option Str))(a:List bz)(P:St->Prop):Prop:=∀(d8:List (Option Str)),d8++eB a=all->(∀r∈a,gI r)->d8.length+a.length<=10^4->P ⟨rq f6 n e9 a_ b9 .any .any .any (.ref F),(F,.list (d8.map (bl e9)))::l0⟩
def aEu(hA:dt A 60)(h0:f6<=10^3)(hk:e9<4)(K:a_.length<=10^3)(Q:b9.length<=10^3)(og:∀l∈a_,po l)(oc:∀l∈b9,po l):TC w A (af w) (.ref 308) [.int (f6:Nat),.int (n:Nat),.lst (a_.map .ln),.lst (b9.map .ln),.int (e9:Nat)] [] Y λv a8=>a8=Y/\v=.lst ((cx f6 n a_ b9 e9).map (bl e9)):=by
 refine m1 (en (rq f6 n e9 a_ b9) (bq w) hA.lt (λO O O O O=>@_) @_ @_ (aFX _) λL hL=>?_);have o:=hA.deeper (k:=57) (z:=av (ak (fC w.params)) L 308 307);have u:=o.h;have d:=((((((gk w (A.deeper _) (ak (fC w.params)) L 308 307 @_ @_ u).g (HW w) @_ @_).g (lp w) @_ @_).g (fV w) @_ @_).g (aFC w) @_ @_).f (f:=303) (bw @_)).m ⟨EC,1, "list.append"⟩ OQ iH OU;have d6:(a_.map AV.ln).length+(b9.map AV.ln).length<=LY:=by rw[KR,KR];exact Mc (OM K Q) ⋯
 refine aw (BQ (BS (k:=5) (N:=[]) (cl:=[]) (J:=λa6=>∃v,a6=[(pe,v)]) [pe] @_ (o.mono ⋯) (On ⋯) @_ @_ @_ @_ (λO=>@_) ⟨_,rfl⟩
  (ae d 20 (ax.mk (lK .frz .frz d6 ?_)))))
 rw[<-LD];refine wH (f:=AV.ln) (g:=λl=>if az l=Ww then Wu (.ln l) else Wv) (Iq az AV.ln (λl=>l) _) (by rw[Lb];exact Mc (OM K Q) ⋯) dh (λL2 l S=>?_) λD hD=>aW rfl ?_
 ·refine jN λv a8 Xl=>bQ (aW rfl (Jl (aV (((dY @_ @_ @_ @_ u).g (lp w) @_ @_).g (fV w) @_ @_) 20 (ax.mk (iz ?_)))));refine nZ (λc=>?_) λc=>⟨if_neg λq=>LZ (((Sn _).symm.trans c).symm.trans q),rfl,_,rfl⟩;exact ae (dY @_ @_ @_ @_ u) 20 ⟨if_pos ((Sn _).symm.trans c),rfl,_,rfl⟩
 rw[List.map_id'];refine⟨rfl,D,_,_,rq f6 n e9 a_ b9 .any (.lst (((a_++b9).filter az).map .ln)),_,rfl,by repeat constructor,?_⟩;refine aw (bV (T.to (decide (1<e9/\(a_++b9).any az=Ww)) (aV d 60 (bN (λc=>?_) λc=>?_)) ?_))
 ·refine ax.mk (m7 (cH rfl λX p=>⟨_,_,_,rfl,rfl,ax.mk (lI (o.mono ⋯) .frz .frz ?_)⟩));rw[Po,Jf];exact cA (λq=>⟨(decide_eq_true ⟨OR.mp c,q⟩).symm,rfl⟩) λq=>⟨(decide_eq_false λC=>LZ (q.symm.trans C.2)).symm,rfl⟩
 ·exact⟨(decide_eq_false λq=>c (OR.mpr q.1)).symm,rfl⟩
 by_cases q1:1<e9/\(a_++b9).any az=Ww
 ·refine cE (b:=Ww) (decide_eq_true q1) (aw (jy (fK (aO d 5 ⟨Mx rfl,Y,.refl _,rfl,?_⟩))));unfold cx;rw[if_pos q1];rfl
 refine cE (b:=Wx) (decide_eq_false q1) (aK ?_);refine aw (bV (T.to (decide (f6=0/\(a_.take 1++b9.take 1).any az=Ww)) (aV d 60 (gQ (λc=>?_) λc=>?_)) ?_))
 ·have C:∀l:List Ln,l.length<=10^3->(l.map AV.ln).length<=LY:=λl h=>by rw[KR];exact Mc h ⋯
  refine ax.mk (m7 (wW (k:=5) (N:=[]) (cl:=[]) (J:=λa6=>∃v,a6=[(pe,v)]) [pe] (o.mono ⋯) (On ⋯) @_ @_ @_ @_ (λO=>@_) ⟨_,rfl⟩ (ae d 40 (ax.mk (Cd (i:=Wv) (j:=Wu ((1:Nat):Int)) (ae d 5 ⟨rfl,rfl⟩) (BO ⟨rfl,rfl⟩) (lC (ae d 5 ⟨rfl,rfl⟩)) .frz (C _ K) (Gu _) ?_)))));refine ax.mk (Cd (i:=Wv) (j:=Wu ((1:Nat):Int)) (ae d 5 ⟨rfl,rfl⟩) (BO ⟨rfl,rfl⟩) (lC (ae d 5 ⟨rfl,rfl⟩)) .frz (C _ Q) (Gu _) ?_);rw[<-Uw,<-Uw];have P:∀l:List Ln,(l.take 1).length<=1:=λl=>List.length_take_le ..;refine ax.mk (lK .frz .frz (by rw[KR,KR];exact Mc (OM (P _) (P _)) ⋯) ?_);rw[<-LD];refine wH (f:=AV.ln) (g:=λl=>if az l=Ww then Wu (.ln l) else Wv) (Iq az AV.ln (λl=>l) _) (by rw[Lb];exact Mc (OM (P _) (P _)) ⋯) dh (λL2 l S=>?_) λD hD=>⟨_,_,_,rfl,rfl,ax.mk (m7 (cH rfl λX p=>⟨_,_,_,rfl,rfl,ax.mk (lI (o.mono ⋯) .frz .frz ?_)⟩))⟩
  ·refine jN λv a8 Xl=>bQ (aW rfl (Jl (aV (((dY @_ @_ @_ @_ u).g (lp w) @_ @_).g (fV w) @_ @_) 20 (ax.mk (iz ?_)))));refine nZ (λc=>?_) λc=>⟨if_neg λq=>LZ (((Sn _).symm.trans c).symm.trans q),rfl,_,rfl⟩;exact ae (dY @_ @_ @_ @_ u) 20 ⟨if_pos ((Sn _).symm.trans c),rfl,_,rfl⟩
  ·rw[List.map_id',Po,Jf];exact cA (λq=>⟨(decide_eq_true ⟨PS.mp c,q⟩).symm,rfl⟩) λq=>⟨(decide_eq_false λC=>LZ (q.symm.trans C.2)).symm,rfl⟩
 ·exact⟨(decide_eq_false λq=>c (PS.mpr q.1)).symm,rfl⟩
 by_cases q2:f6=0/\(a_.take 1++b9.take 1).any az=Ww
 ·refine cE (b:=Ww) (decide_eq_true q2) (aw (jy (fK (aO d 5 ⟨Mx rfl,Y,.refl _,rfl,?_⟩))));unfold cx;rw[if_neg q1,if_pos q2];rfl
 refine cE (b:=Wx) (decide_eq_false q2) (aK ?_);refine aw (bV (T.to (decide (a_=[]/\b9=[])) (aV d 60 ?_) ?_))
 ·refine ax.mk (m7 (cH rfl λX p=>⟨_,_,_,rfl,rfl,ax.mk (xn (o.mono ⋯) .frz .frz ?_)⟩));rw[Po];refine cA (λc=>?_) λc=>⟨(decide_eq_false λq=>LZ (c.symm.trans (Qa.mpr q.1))).symm,rfl⟩;refine ax.mk (m7 (cH rfl λX p=>⟨_,_,_,rfl,rfl,ax.mk (xn (o.mono ⋯) .frz .frz ?_)⟩));rw[Po];exact cA (λq=>⟨(decide_eq_true ⟨Qa.mp c,Qa.mp q⟩).symm,rfl⟩) λq=>⟨(decide_eq_false λC=>LZ (q.symm.trans (Qa.mpr C.2))).symm,rfl⟩
 by_cases q3:a_=[]/\b9=[]
 ·refine cE (b:=Ww) (decide_eq_true q3) (aw (jy (fK (aO d 5 ⟨Mx rfl,Y,.refl _,rfl,?_⟩))));unfold cx;rw[if_neg q1,if_neg q2,if_pos q3];rfl
 refine cE (b:=Wx) (decide_eq_false q3) (aK ?_);have Z:cx f6 n a_ b9 e9=eB (eO (e9 % 2==1) (f6-min n f6) (min n f6) a_ b9):=by
  unfold cx;rw[if_neg q1,if_neg q2,if_neg q3]
 rw[Z];refine al (show ∃m,min n f6=m from⟨_,rfl⟩) λm hm=>?_;have g9:m<=f6:=hm▸Pu ..;rw[hm];refine ba d 20 (ax.mk (aJu u ?_));rw[hm];refine ba d 20 (ax.mk (cH rfl λF j3=>?_));refine al (show ∃rs,eO (e9 % 2==1) (f6-m) m a_ b9=rs from⟨_,rfl⟩) λrs Zh=>?_;have ok:=DZ (hv:=e9 % 2==1) (c0:=f6-m) (c1:=m) ⋯ ⋯ K Q og oc;have ln:=Ea (hv:=e9 % 2==1) (c0:=f6-m) (c1:=m) (a_:=a_) (b9:=b9) ⋯ K Q;have call:=aEq (w:=w) (A:=A.deeper (av (ak (fC w.params)) L 308 307)) (hv:=e9 % 2==1) (c0:=f6-m) (c1:=m) (Y:=(F,.list [])::Y) (o.mono ⋯) ⋯ ⋯ K Q;rw[Zh] at ok ln call ⊢;have e1:((f6-m:Nat):Int)=(f6:Int)-(m:Nat):=by omega
 have e2:(e9 % 2==1)=((e9:Int).fmod 2==1):=by
  rw[Int.fmod_eq_emod_of_nonneg _ ⋯,NR,beq_iff_eq,beq_iff_eq];omega
 rw[e1,e2] at call;refine aw (jz (k:=5) aX (Kb f6 n e9 a_ b9 F Y (eB rs)) (o.mono ⋯) (ae d 60 ?_) ?_ ?_ λO=>@_)
 ·refine ax.mk (fK (aO d 20 ⟨Mx rfl,?_⟩));refine ax.mk (Kw ⋯ ?_);exact ax.mk (iA call (fc λit gl hI => .mk hI (.mk (gs:=rs) (λO y=>y [] rfl ok (by rw[LA,OJ];exact ln)) @_)))
 ·intro gl r R d8 E H S;refine aD (H r (KJ ..)) λt YC=>?_;have G:(d8.map (bl e9)).length<=10^4:=by rw[KR];exact Mc (Ow ..) S
  refine aKo u (vs:=[.str r.1,.ln r.2]) .frz @_ @_ @_ (em _ rfl _ _ rfl rfl ?_);obtain⟨mk,l⟩:=r;refine aw (bV (T.to (az l) (aV d 20 (ax.mk (iz ⟨Sn _,rfl⟩))) ?_));rcases l with _ |_ |s
  ·refine cE (b:=Ww) rfl (aw (jy (ae d 20 (ax.mk (fK (aO d 5 ⟨Mx rfl,ax.mk (lK (.own (KJ ..)) .frz (Mc (OH G) ⋯) ?_)⟩))))));exact .ret (l:=(F,.list (d8.map (bl e9)))::Y) ⟨Y,⟨[_],.refl _⟩,rfl,congrArg AV.lst (by rw[<-E,LD];rfl)⟩
  ·refine cE (b:=Ww) rfl (aw (jy (ae d 20 (ax.mk (fK (aO d 5 ⟨Mx rfl,ax.mk (lK (.own (KJ ..)) .frz (Mc (OH G) ⋯) ?_)⟩))))));exact .ret (l:=(F,.list (d8.map (bl e9)))::Y) ⟨Y,⟨[_],.refl _⟩,rfl,congrArg AV.lst (by rw[<-E,LD];rfl)⟩
  ·refine aD (YC s rfl) λZg V=>?_;have tk:=t.app ⟨Zg,V⟩;have sz:mk.length+s.length<10^6:=Ox (OM t.2 V) ⋯;refine cE (b:=Wx) rfl (aK ?_);have M:∀x,x=bl e9 (Wu (mk++s))->ax (FC w (A.deeper (av (ak (fC w.params)) L 308 307)) (af w) (av (ak (fC w.params)) L 308 307) (.blt "list.append") [.ref F,x] [] ⟨rq f6 n e9 a_ b9 (.ln (tx s)) .any .any (.ref F) (.str mk),(F,.list (d8.map (bl e9)))::(Y++gl)⟩ λO U=>tb (Lo aX (Kb f6 n e9 a_ b9 F Y (eB rs))) (lW w (A.deeper (av (ak (fC w.params)) L 308 307)) (af w) (av (ak (fC w.params)) L 308 307) ((aI (aq 15)).drop 7) (fo λv l=>∃l',vi l l'/\l'=Y/\v=.lst ((eB rs).map (bl e9)))) (R.map aX) gl .next U):=λx e=>by
    subst e;refine ax.mk (lH (W:=d8.map (bl e9)) (ys:=(d8++[Wu (mk++s)]).map (bl e9)) (nU (f:=bl e9)) .here (Mc G ⋯) ?_);exact .next (l:=(F,.list ((d8++[Wu (mk++s)]).map (bl e9)))::Y) (.mk (gs:=R) (λO y=>y (d8++[Wu (mk++s)]) (by rw[LH];exact E) (λr hr=>H r (KP _ hr)) (by rw[Lb,Np,OF,Qu 1];exact S)) @_)
   refine bE d 60 ⟨bH (by repeat constructor),bN (λc=>?_) λc=>?_⟩
   ·exact ax.mk (sb sz (M _ (if_pos (OR.mp c)).symm))
   ·refine ax.mk (wV (T' := "str") (id := "str.encode") @_ @_ @_ iY sQ wE (ae d 20 (ax.mk (sb sz ⟨oL,dd @_ ic (iu (Kk tk.1 (Ox tk.2 ⋯) ?_))⟩))));exact M _ (if_neg λq=>c (OR.mpr q)).symm
 ·intro d8 E _ _;have E:d8=eB rs:=(Ms d8).symm.trans E;subst E;exact m5 (a:=F) (W:=(eB rs).map (bl e9)) (ft:=rq f6 n e9 a_ b9 .any .any .any (.lst ((eB rs).map (bl e9)))) (by repeat constructor) (bE d 20 ⟨Y,.refl _,rfl,rfl⟩)
end
end
section
open PySem PySem.W PyProof.Rows
section
variable{V:St}
def F2.wk(e:Wk v b)(d:Wk u c)(h:F2 w A B z Val f b c V K):F2 w A B z Val f v u V K:=λs Z x y H U S Q E a=>h s Z x y (e _ _ H) (d _ _ U) S Q E a
def aJ7(h:K (.bool Ww) V):F2 w A B z Val (NE .Eq) .none .none V K:=.wk Wk.nul Wk.nul (CE (by rw[beq_self_eq_true];exact h))
def aJ9{x:Array UInt8}(h:K (.bool Ww) V):F2 w A B z Val (NE .Eq) (.bytes x) (.bytes x) V K:=l8 λs Z S Q E a=>Val.eBytes λO=>Val.eBytes λO=>Vr (by rw[beq_self_eq_true];exact a _ _ s Z V h S (.bool _) .refl)
end
def bp(h:(a,.list W)∈Y):XI B (.ref a) Y:=.mk Ps (bH h)
def dE(e9:Nat):Option Str->AV
 |some s=>bl e9 (Wu s)
 |none=>aC Wv
def lj(e9:Nat)(D:List (Option Str)):AV:=(D.head?.map (bl e9)).getD (.str eT)
def IC(e9:Nat)(s:Str):(bl e9 (Wu s)).bad=Wx:=by
 show (if e9<2 then AV.str s else .bytes (bx s)).bad=Wx;split <;> rfl
def aB3(e9:Nat)(D:List (Option Str)):Ee (D.map (dE e9))=lj e9 D:=by
 rcases D with _ |⟨_ |s,D⟩
 ·rfl
 ·rfl
 ·show (if (bl e9 (Wu s)).bad then AV.none else bl e9 (Wu s))=_;rw[IC];rfl
def aFd(e9:Nat)(D:List (Option Str)):(lj e9 D).isAny=Wx:=by
 rcases D with _ |⟨_ |s,D⟩
 ·rfl
 ·rfl
 ·show (if e9<2 then AV.str s else .bytes (bx s)).isAny=Wx;split <;> rfl
def CO(D:List (Option Str)):Prop:=∀r,D=Wv::r->r=[]
def aB0(h:CO D):Ec (D.map (dE e9))=D.tail.map (dE e9):=by
 rcases D with _ |⟨_ |s,D⟩
 ·rfl
 ·cases h D rfl
  rfl
 ·show (if (bl e9 (Wu s)).bad then [] else D.map (dE e9))=_;rw[IC];rfl
def aJ3(e9:Nat)(D:List (Option Str))(h:K (.bool Ww) V):F2 w A B z Val (NE .Eq) (lj e9 D) (lj e9 D) V K:=by
 rcases D with _ |⟨_ |s,D⟩
 ·exact CD (by rw[beq_self_eq_true];exact h)
 ·exact aJ7 h
 ·show F2 w A B z Val _ (if e9<2 then AV.str s else .bytes (bx s)) (if e9<2 then AV.str s else .bytes (bx s)) V K;split
  ·exact CD (by rw[beq_self_eq_true];exact h)
  ·exact aJ9 h
def eA(e9:Nat):Option (List (Option Str))->AV
 |none => .none
 |some D => .lst (D.map (bl e9))
abbrev dw(f9:LP)(d a:AV)(a_ b9:List Ln)(WX:AV)(f6 n e9:Nat):List AV:=[.ref f9,d,a,.lst (a_.map .ln),.lst (b9.map .ln),WX,.int (f6:Nat),.int (n:Nat),.int (e9:Nat)]
def aEp{r:Nat}{one:LP}{f6:Nat}{g:Nat}(Z:dt A 300)(M:r<=210)(K:A.frames=Wu g4)(H:hB g4 Y)(hN:kn N Y)
  (u:(WX=Wv/\D=cx f6 n a_ b9 e9)\/WX=Wu D) (E:CO D) (s:D.length<=10^5) (h0:f6<=10^3) (S:e9<4) (X:a_.length<=10^3) (hc:b9.length<=10^3) (C:∀l∈a_,po l) (oc:∀l∈b9,po l)
  (h:dQ w (af w) N r (D.map (dE e9)) gl gs):TC w A (af w) (.ref 320) [.ref one] [] (((one,.list (dw f9 m c a_ b9 (eA e9 WX) f6 n e9))::(f9,.gen g gs)::gl)++Y) λv a8=>v=.bool Ww /\
   ∃d5 WP,a8=((one,.list (dw f9 m c a_ b9 (eA e9 (Wu D.tail)) f6 n e9))::(f9,.gen g WP)::d5)++Y/\dQ w (af w) N r (D.tail.map (dE e9)) d5 WP:=by
 refine m1 (en [(yR,.ref one),(yS,.any)] (bq w) Z.lt (λO=>@_) @_ @_ (aFW _) λL hL=>?_);have e:=Z.deeper (k:=297) (z:=av (ak (ee w.params)) L 320 319);have U:=e.h;have d:=((((gk w (A.deeper _) (ak (ee w.params)) L 320 319 @_ @_ U).g (aFE w) @_ @_).g (aFD w) @_ @_).f (f:=308) (bw @_)).f (f:=298) (bw @_);have G:(av (ak (ee w.params)) L 320 319).scope.kind ≠ .module:=by
  rw[show (av (ak (ee w.params)) L 320 319).scope.kind=.function from @_];decide
 have hf:=Qn (env:=av (ak (ee w.params)) L 320 319) K;refine aw (l7 (λP=>P ⟨[(yR,.ref one),(yS,.any)],((one,.list (dw f9 m c a_ b9 (eA e9 (Wu D)) f6 n e9))::(f9,.gen g gs)::gl)++Y⟩) ?_ ?_)
 ·rcases u with ⟨rfl,hD⟩ |rfl
  ·refine bV (lF (ae d 20 ⟨bp (KJ ..),ax.mk (aE (x:=.none) (.own (KJ ..)) ⋯ ⋯ rfl (jB (lJ rfl (gK ?_))))⟩) @_);refine cE (b:=Ww) rfl ?_;have call:=aEu (w:=w) (A:=A.deeper (av (ak (ee w.params)) L 320 319)) (Y:=((one,.list (dw f9 m c a_ b9 (.none) f6 n e9))::(f9,.gen g gs)::gl)++Y) f6 n e9 a_ b9 (e.mono ⋯) h0 S X hc C oc;rw[<-hD] at call;refine aw (eF rfl rfl rfl (ae d 40 ⟨bp (KJ ..),ax.mk (aE (x:=.int (f6:Nat)) (.own (KJ ..)) ⋯ ⋯ rfl ⟨bp (KJ ..),ax.mk (aE (x:=.int (n:Nat)) (.own (KJ ..)) ⋯ ⋯ rfl ⟨bp (KJ ..),ax.mk (aE (x:=.lst (a_.map .ln)) (.own (KJ ..)) ⋯ ⋯ rfl ⟨bp (KJ ..),ax.mk (aE (x:=.lst (b9.map .ln)) (.own (KJ ..)) ⋯ ⋯ rfl ⟨bp (KJ ..),ax.mk (aE (x:=.int (e9:Nat)) (.own (KJ ..)) ⋯ ⋯ rfl ?_)⟩)⟩)⟩)⟩)⟩));refine ax.mk (iA call (sd (ae d 5 (ae d 5 (xj (j:=5) (ys:=dw f9 m c a_ b9 (eA e9 (Wu D)) f6 n e9) .here ?_ (.inl rfl) (by show 5<9;decide) (by show 9<2^62;decide) ?_)))))
   ·rfl
   ·exact aK (m3 (λO y=>y) @_)
  ·refine bV (lF (ae d 20 ⟨bp (KJ ..),ax.mk (aE (x:=.lst (D.map (bl e9))) (.own (KJ ..)) ⋯ ⋯ rfl (jB (lJ rfl (gK ?_))))⟩) @_);exact cE (b:=Wx) rfl (aK (m3 (λO y=>y) @_))
 have Q:(D.map (bl e9)).length<=LY:=by rw[KR];exact Mc s ⋯
 have rest:T w (A.deeper (av (ak (ee w.params)) L 320 319)) (af w) (av (ak (ee w.params)) L 320 319) fv (execs ((aI (aq 17)).drop 2) (av (ak (ee w.params)) L 320 319)) ⟨[(yR,.ref one),(yS,lj e9 D)],((one,.list (dw f9 m c a_ b9 (eA e9 (Wu D)) f6 n e9))::(f9,.gen g gs)::gl)++Y⟩
   (fo λv l=>∃R,vi l R/\v=.bool Ww/\∃d5 WP,R=((one,.list (dw f9 m c a_ b9 (eA e9 (Wu D.tail)) f6 n e9))::(f9,.gen g WP)::d5)++Y/\dQ w (af w) N r (D.tail.map (dE e9)) d5 WP):=by
  refine aw (eF rfl rfl rfl (Cd (v0:=.lst (D.map (bl e9))) (W:=D.map (bl e9)) (i:=Wu ((1:Nat):Int)) (j:=Wv) (ae d 20 ⟨bp (KJ ..),ax.mk (aE (x:=.lst (D.map (bl e9))) (.own (KJ ..)) ⋯ ⋯ rfl ⟨rfl,rfl⟩)⟩) (lC (ae d 5 ⟨rfl,rfl⟩)) (BO ⟨rfl,rfl⟩) .frz Q (aCp _) (sd (ae d 5 (ae d 5 (xj (j:=5) (ys:=dw f9 m c a_ b9 (eA e9 (Wu D.tail)) f6 n e9) .here ?_ (.inl rfl) (by show 5<9;decide) (by show 9<2^62;decide) ?_))))))
  ·show dw f9 m c a_ b9 (.lst (D.tail.map (bl e9))) f6 n e9=dw f9 m c a_ b9 (.lst ((D.map (bl e9)).drop 1)) f6 n e9;rw[<-List.map_drop,List.drop_one]
  refine aw (jy (JF (ae d 40 ⟨bp (KJ ..),ax.mk (aE (x:=.ref f9) (.own (KJ ..)) ⋯ ⋯ rfl ?_)⟩) @_));have p:=aEr (a:=f9) (g:=g) (a7:=D.map (dE e9)) (gl:=gl) (gs:=gs) (Y:=((av (ak (ee w.params)) L 320 319).locals,.ns [(yR,.ref one),(yS,lj e9 D)])::(one,.list (dw f9 m c a_ b9 (eA e9 (Wu D.tail)) f6 n e9))::Y) (e.mono (show r+8<=297 by omega)) hf (hB.push (V:=⟨_,(one,_)::Y⟩) (H.app [_]) rfl G) ((hN.cons _).cons _) h;refine ax.mk (aJN (l:=(f9,.gen g gs)::gl) (Y:=(one,.list (dw f9 m c a_ b9 (eA e9 (Wu D.tail)) f6 n e9))::Y) (MT (a:=((one,.list (dw f9 m c a_ b9 (eA e9 (Wu D.tail)) f6 n e9)):LP×el)) (l₁:=(f9,.gen g gs)::gl) (l₂:=Y)).symm p λv l₁ q=>?_);obtain⟨rfl,d5,WP,rfl,t⟩:=q;rw[aB0 E] at t;refine⟨_,rfl,?_⟩;rw[aB3];refine lE (v:=lj e9 D) @_ (aJ3 e9 D ?_) @_ (aFd e9 D);exact⟨_,.perm (MT (a:=((one,.list (dw f9 m c a_ b9 (eA e9 (Wu D.tail)) f6 n e9)):LP×el)) (l₁:=(f9,.gen g WP)::d5) (l₂:=Y)),rfl,d5,WP,rfl,t⟩
 refine aw ?_;rcases D with _ |⟨o,D⟩
 ·refine aN d 40 ⟨bp (KJ ..),ax.mk (aE (x:=.lst []) (.own (KJ ..)) ⋯ ⋯ rfl (ax.mk (m7 (cH rfl λF J=>⟨_,_,_,rfl,rfl,ax.mk (lI (e.mono ⋯) .frz .frz ?_)⟩))))⟩;exact rest
 ·refine aN d 40 ⟨bp (KJ ..),ax.mk (aE (x:=.lst ((o::D).map (bl e9))) (.own (KJ ..)) ⋯ ⋯ rfl (ax.mk (m7 (cH rfl λF J=>⟨_,_,_,rfl,rfl,ax.mk (lI (e.mono ⋯) .frz .frz ?_)⟩))))⟩;exact⟨bp (KJ ..),ax.mk (aE (x:=.lst ((o::D).map (bl e9))) (.own (KJ ..)) ⋯ ⋯ rfl (ax.mk (aE (x:=bl e9 o) .frz ⋯ ⋯ rfl rest)))⟩
end
abbrev ik:Str:=Fo
abbrev ip:Str:=Fm
def ui(g:List Ln):Prop:=∀l∈g,l=tx ik\/l=Wv
def uj(c:List Ln):Prop:=∀l∈c,l=tx ip\/l=Wu Wv
def ui.ln(h:ui g):∀l∈g,po l:=λl a s e=>(h l a).elim (λq=>by rw[q] at e;cases e;exact(cq _ rfl).le ⋯) λq=>by rw[q] at e;cases e
def uj.ln(h:uj c):∀l∈c,po l:=λl a s e=>(h l a).elim (λq=>by rw[q] at e;cases e;exact(cq _ rfl).le ⋯) λq=>by rw[q] at e;cases e
def aGU(a:p<=3):(bg 0 p).Nodup/\tx ik∉bg 0 p/\tx ip∉bg 0 p/\Wv∉bg 0 p/\Wu Wv∉bg 0 p:=by
 rcases p with _ |_ |_ |_ |p
 ·decide +kernel
 ·decide +kernel
 ·decide +kernel
 ·decide +kernel
 ·omega
def oU(j:p<=3)(d:ui g)(oc:uj c):Sep (bg 0 p) g c:=by
 refine CN (aGU j) λr o n l k=>?_;refine⟨r,λx a=>(d x a).elim (λe=>e▸o) λe=>e▸l,λx a=>(oc x a).elim (λe=>e▸n) λe=>e▸k,λx a i=>?_⟩;rcases d x a with e |e <;> rcases oc x i with e' |e' <;> rw[e] at e'
 ·exact absurd e' ⋯
 ·cases e'
 ·cases e'
 ·cases e'
def wF{m:Nat}(h:m<=p):(bg 0 p).drop (p-m)=bg (p-m) m:=by
 refine List.ext_getElem? λi=>?_;unfold bg;rw[RG,Ma,Ma];by_cases q:i<m
 ·rw[Vg ⋯,Vg q];show Wu (tx (sT _))=Wu (tx (sT _));rw[show 0+(0+1 * (p-m+i))=p-m+(0+1 * i) by omega]
 ·rw[MX (by rw[PE];omega),MX (by rw[PE];omega)];rfl
def aFc(h:p≠0)(g:List Ln):∃s,(bg 0 p++g).head?=Wu (tx s):=by
 cases p with
 |zero=>exact absurd rfl h
 |succ p=>exact⟨_,rfl⟩
def rM(g:List Ln):(g.take 1).any az=Ww↔∃y,g.head?=Wu y/\az y=Ww:=by
 cases g with
 |nil=>simp
 |cons y g=>simp
def jt{g c:List Ln}(h : ¬ (p=0/\(g.take 1++c.take 1).any az=Ww)):(∀x,(bg 0 p++g).head?=Wu x->az x=Wx)/\∀x,(bg 0 p++c).head?=Wu x->az x=Wx:=by
 by_cases d:p=0
 ·subst d;have h:=λq=>h ⟨rfl,q⟩;rw[Qj,PL] at h;exact⟨λx a=>PQ.mpr λz=>h (.inl ((rM g).mpr ⟨x,a,z⟩)),λx a=>PQ.mpr λz=>h (.inr ((rM c).mpr ⟨x,a,z⟩))⟩
 ·have k:∀g:List Ln,∀x,(bg 0 p++g).head?=Wu x->az x=Wx:=λg x a=>by
   refine al (aFc d g) λs e=>?_;rw[e] at a;cases a
   rfl
  exact⟨k g,k c⟩
def HL{g c:List Ln}(h:p=0/\(g.take 1++c.take 1).any az=Ww):wN (bg 0 p++g) (bg 0 p++c):=by
 obtain⟨rfl,h⟩:=h;rw[Qj,PL] at h;by_cases q:(g.take 1).any az=Ww
 ·refine ag ((rM g).mp q) λy d a=>?_;exact⟨y,a,.inl d⟩
 ·refine ag ((rM c).mp (h.resolve_left q)) λy d a=>?_;exact⟨y,a,.inr ⟨λx e=>PQ.mpr λz=>q ((rM g).mpr ⟨x,e,z⟩),d⟩⟩
abbrev lA(a b:AV)(n:Nat):List (Str×AV):=[(dT,a),(dG,b),(pn,.str eT),(pj,.str eT),(pi,.str eT),(ph,.str eT),(jT,.int n),(pf,.str eT)]
abbrev bB(p:Nat)(g:List Ln):List Ln:=bg 0 p++g
def gZ{g:List Ln}(a:p<=3)(d:g.length<=100):(bB p g).length<=103:=by rw[Lb,gC];omega
def jr(e:p<=3)(h:∀l∈g,po l):∀x,Wu (Wu x)∈bB p g->x.length<10^4:=λx d=>Ox ((Md.mp d).elim (λq=>rF (a:=0) (n:=p) ⋯ _ q x rfl) λq=>h _ q x rfl).2 ⋯
def Eg:dE 0=aC:=funext λo=>by cases o <;> rfl
def Ef:dE 1=aC:=funext λo=>by cases o <;> rfl
def IB{g c:List Ln}(a:k<2)(h : ¬ (p=0/\(g.take 1++c.take 1).any az=Ww)):cx p n g c k=lx (if g=[]/\c=[] then [] else (eO (k % 2==1) (p-min n p) (min n p) g c).map cR):=by
 unfold cx;rw[if_neg (λq=>by omega),if_neg h];split
 ·rfl
 ·exact(IL _).symm
def ID{g c:List Ln}(a:k<2)(h:p=0/\(g.take 1++c.take 1).any az=Ww):cx p n g c k=[Wv]:=by
 unfold cx;rw[if_neg (λq=>by omega),if_pos h]
section
variable{N:aa}{L:LP}{g c:List Ln}(C:p<=3)(F:n<=3)(H:g.length<=90)(M:c.length<=90)(D:ui g)(oc:uj c)
include C F H M D oc
theorem aAH:ju w (af w) N 153 ((cx p n g c 0).map (dE 0)) [(L,.ns (lA (.lst ((bB p g).map .ln)) (.lst ((bB p c).map .ln)) n).reverse)] (.fresh (.func (aI (aq 7)) (av (ak (ej w.params)) L 261 260))):=by
 have i:=gZ (g:=g) C ⋯;have a:=gZ (g:=c) C ⋯;have d:=λa7 h=>ju.fresh (w:=w) (B:=af w) (N:=N) (m:=150) (l:=[]) (a7:=a7) (z:=av (ak (ej w.params)) L 261 260) (c6:=aI (aq 7)) (a6:=(lA (.lst ((bB p g).map .ln)) (.lst ((bB p c).map .ln)) n).reverse) (wd @_) @_ (TG.spares [pr,tF,tE,tD,tC,tB,tA,lY,mf,mc,me,lZ,pe,tG] @_ h);by_cases q:p=0/\(g.take 1++c.take 1).any az=Ww
 ·rw[ID ⋯ q,Eg];exact d _ (aAF (HL q) ⋯ ⋯)
 ·rw[IB ⋯ q,Eg];refine ju.cut (f:=aC) rfl _ _ _ ?_;have e:=Eb (n:=n) (oU C D oc) (Ox a ⋯) (gC 0 p);rw[wF (Pu n p)] at e;show ju w (af w) N 153 ((if g=[]/\c=[] then [] else ((jL) (bk Wx (p-min n p) (min n p+g.length)) (bk Wx (p-min n p) (min n p+c.length)) (bg (p-min n p) (min n p)) g c).map cR).map aC) _ _;rw[<-e];exact d _ (Dg ⋯ ⋯ ⋯ (jr C D.ln) (jr C oc.ln) (jt q).1 (jt q).2 ((oU C D oc).mb_len (Ox a ⋯)))
theorem aHc(i:fi∈N):ju w (af w) N 153 ((cx p n g c 1).map (dE 1)) [(L,.ns (lA (.lst ((bB p g).map .ln)) (.lst ((bB p c).map .ln)) n).reverse)] (.fresh (.func (aI (aq 9)) (av (ak (eh w.params)) L 276 275))):=by
 have j:=gZ (g:=g) C ⋯;have a:=gZ (g:=c) C ⋯;have d:=λa7 h=>ju.fresh (w:=w) (B:=af w) (N:=N) (m:=150) (l:=[]) (a7:=a7) (z:=av (ak (eh w.params)) L 276 275) (c6:=aI (aq 9)) (a6:=(lA (.lst ((bB p g).map .ln)) (.lst ((bB p c).map .ln)) n).reverse) (wd @_) @_ (TG.spares [pr,tF,tE,tD,tC,tB,tA,lY,mf,mc,za,me,lZ,pe,zb,tG] @_ h);by_cases q:p=0/\(g.take 1++c.take 1).any az=Ww
 ·rw[ID ⋯ q,Ef];exact d _ (aHd (HL q) ⋯ ⋯)
 ·rw[IB ⋯ q,Ef];refine ju.cut (f:=aC) rfl _ _ _ ?_;have e:=Ed (n:=n) (oU C D oc) (Ox a ⋯) (gC 0 p);rw[wF (Pu n p)] at e;show ju w (af w) N 153 ((if g=[]/\c=[] then [] else ((ly) (bk Ww (p-min n p) (min n p+g.length)) (bk Ww (p-min n p) (min n p+c.length)) (bg (p-min n p) (min n p)) g c).map cR).map aC) _ _;rw[<-e];exact d _ (IM i ⋯ ⋯ ⋯ (jr C D.ln) (jr C oc.ln) (jt q).1 (jt q).2 ((oU C D oc).mb_len (Ox a ⋯)))
end
def aBZ{hv:Bool}{c0 c1:Nat}(v:∀l∈a_,az l=Wx)(E:∀l∈b9,az l=Wx):∀r∈eO hv c0 c1 a_ b9,az r.2=Wx:=by
 have o:∀(m:Str) (W:List Ln),(∀l∈W,az l=Wx)->∀r∈W.map λl=>((m,l):bz),az r.2=Wx:=λm W h r d=>by
  refine ag (LG.mp d) λl p e=>?_;rw[<-e];exact h l p
 have s:∀a n,∀l∈bg a n,az l=Wx:=λa n l p=>by
  refine ag (LG.mp p) λk O e=>?_;rw[<-e];rfl
 have z:∀(m:Str) (kept x y:List Ln),(∀l∈kept,az l=Wx)->(∀l∈x,az l=Wx)->∀r∈bU m kept x y,az r.2=Wx:=λm kept x y J G=>by
  unfold bU;split
  ·exact λr d=>absurd d (by simp)
  ·exact λr d=>(Md.mp d).elim (o _ _ J r) (o _ _ G r)
 have i:∀u:List Str,∀r∈u.map cu,az r.2=Wx:=λu r d=>by
  refine ag (LG.mp d) λl O e=>?_;rw[<-e];rfl
 have j:∀W ys:List bz,(∀r∈W,az r.2=Wx)->(∀r∈ys,az r.2=Wx)->∀r∈W++ys,az r.2=Wx:=λW ys h k r d=>(Md.mp d).elim (h r) (k r);unfold eO;cases hv with
 |false=>exact j _ _ (j _ _ (j _ _ (i [_,_,_]) (o _ _ (s _ _))) (o _ _ v)) (o _ _ E)
 |true=>exact j _ _ (j _ _ (j _ _ (i [_,_,_,_]) (z _ _ _ _ (s _ _) v)) (i [_])) (z _ _ _ _ (s _ _) E)
def aB6{a:List bz}(h:∀r∈a,gI r)(k:∀r∈a,az r.2=Wx):∃W:List Str,a.map cR=W.map Wu/\∀x∈W,pb 160 x:=by
 induction a with
 |nil=>exact⟨[],rfl,λx d=>absurd d (by simp)⟩
 |cons r a o =>
  refine ag (o (λr i=>h r (KP _ i)) λr i=>k r (KP _ i)) λW e d=>?_;have n:=h r (KJ ..);have j:=k r (KJ ..);obtain⟨m,l⟩:=r;rcases l with _ |_ |s
  ·cases j
  ·cases j
  ·exact⟨(m++s)::W,congrArg (Wu (m++s) :: ·) e,OP.mpr ⟨n.1.app (n.2 s rfl),d⟩⟩
def aHa(W:List Str):lx (W.map Wu)=W.map Wu:=by
 induction W with
 |nil=>rfl
 |cons x W a=>exact congrArg (Wu x :: ·) a
def yb{W:List Ln}(h:∀l∈W,az l=Wx):∃ts:List Str,W=ts.map tx:=by
 induction W with
 |nil=>exact⟨[],rfl⟩
 |cons l W a =>
  refine al (a λl d=>h l (KP _ d)) λts e=>?_;have k:=h l (KJ ..);rcases l with _ |_ |s
  ·cases k
  ·cases k
  ·exact⟨s::ts,congrArg (tx s :: ·) e⟩
def aG6{s:Str}(h:cM s):aZ (bx s)=s:=by
 show Str.mk (SE UInt8.toNat (SE Nat.toUInt8 s.cps))=s;rw[Array.map_map,Array.map_congr_left (g:=id) (λc a=>?_),Array.map_id];exact Jb (h c a)
def pA(a:1<e9)(ts:List Str):(ts.map tx).map (cS e9)=(ts.map bx).map .bytes:=by
 rw[MN,MN];exact Nm λs O=>if_pos a
def GK(r:1<e9){W:List Ln}(j:∀l∈W,po l)(h:W.any az=Ww):wM (W.map (cS e9)):=by
 induction W with
 |nil=>cases h
 |cons l W k =>
  by_cases q:az l=Ww
  ·refine⟨[],l,W.map (cS e9),?_,q,λb u=>absurd u (by simp)⟩;show cS e9 l::_=.ln l::_;rcases l with _ |_ |s
   ·rfl
   ·rfl
   ·cases q
  ·rw[List.any_cons,PL] at h;refine bL (k (λl p=>j l (KP _ p)) (h.resolve_left q)) λi y a e n o=>?_;have d:=j l (KJ ..);rcases l with _ |_ |s
   ·exact absurd rfl q
   ·exact absurd rfl q
   ·exact⟨bx s::i,y,a,by rw[Le,e,show cS e9 (Wu (Wu s))=.bytes (bx s) from if_pos r];rfl,n,OP.mpr ⟨By (d s rfl).1 (Ox (d s rfl).2 ⋯),o⟩⟩
abbrev rK(d:LP)(a b:AV)(n:Nat):List (Str×AV):=[(yW,.ref d),(dT,a),(dG,b),(pn,.bytes #[]),(pj,.bytes #[]),(pi,.bytes #[]),(ph,.bytes #[]),(jT,.int n),(pf,.bytes #[])]
def kU(e:p<=3)(h:∀l∈g,po l):∀l∈bB p g,po l:=λl d=>(Md.mp d).elim (rF (a:=0) (n:=p) ⋯ l) (h l)
def ru:(bB p g).any az=g.any az:=by
 unfold bB;rw[Qj]
 have:(bg 0 p).any az=Wx:=Tl.mpr λl a=>by
  refine ag (LG.mp a) λk O e=>?_;rw[<-e];exact LZ
 rw[this];rfl
section
variable{N:aa}{L:LP}{g c:List Ln}(D:p<=3)(M:n<=3)(X:g.length<=90)(hc:c.length<=90)(H:ui g)(oc:uj c)(F:1<e9)(P:e9<4)(U:fi∈N)(S:(286,dB de)∈N)
include D M X hc H oc F P U S
theorem aHL:ju w (af w) N 204 ((cx p n g c e9).map (dE e9)) [(L,.ns (rK (if e9 % 2=1 then 276 else 261) (.lst ((bB p g).map (cS e9))) (.lst ((bB p c).map (cS e9))) n).reverse)] (.fresh (.func (aI (aq 11)) (av (ak (dU w.params)) L 291 290))):=by
 have la:=gZ (g:=g) D ⋯;have lb:=gZ (g:=c) D ⋯;have v:=λdf a7 h=>ju.fresh (w:=w) (B:=af w) (N:=N) (m:=201) (l:=[]) (a7:=a7) (z:=av (ak (dU w.params)) L 291 290) (c6:=aI (aq 11)) (a6:=(rK df (.lst ((bB p g).map (cS e9))) (.lst ((bB p c).map (cS e9))) n).reverse) (wd @_) @_ (TG.spares [yV,yU,pe] @_ h);by_cases q:(g++c).any az=Ww
 ·have hd:cx p n g c e9=[Wv]:=by unfold cx;rw[if_pos ⟨F,q⟩]
  rw[hd];refine v _ _ (aGW S ?_ (by rw[KR];omega) (by rw[KR];omega));by_cases X:g.any az=Ww
  ·exact .inl (GK F (kU D H.ln) (ru.trans X))
  ·rw[Qj,PL] at q;refine .inr ⟨?_,GK F (kU D oc.ln) (ru.trans (q.resolve_left X))⟩;refine al (yb (W:=bB p g) λl o=>PQ.mpr λC=>X (ru.symm.trans (Se.mpr ⟨l,o,C⟩))) λts e=>?_;refine⟨ts.map bx,by rw[e,pA F],λb hb=>?_⟩;refine ag (LG.mp hb) λs d i=>?_;subst i;have t:=kU D H.ln (tx s) (e▸LG.mpr ⟨s,d,rfl⟩) s rfl;exact By t.1 (Ox t.2 ⋯)
 ·have j:∀ {x:List Ln},x.any az=Wx->∀l∈x,az l=Wx:=λh l o=>PQ.mpr λC=>LZ (h.symm.trans (Se.mpr ⟨l,o,C⟩));rw[Wr,Qj,Py] at q;refine al (yb (W:=bB p g) (j (ru.trans q.1))) λQ G=>?_;refine al (yb (W:=bB p c) (j (ru.trans q.2))) λK E=>?_;have oa:=kU D H.ln;have ob:=kU D oc.ln;have q2 : ¬ (p=0/\(g.take 1++c.take 1).any az=Ww):=λC=>by
   refine ag (Se.mp C.2) λl o M=>?_;exact LZ ((Md.mp o).elim (λh=>(j q.1 l (SB h)).symm.trans M) λh=>(j q.2 l (SB h)).symm.trans M)
  refine ag (aB6 (DZ (hv:=e9 % 2==1) (c0:=p-min n p) (c1:=min n p) (a_:=g) (b9:=c) ⋯ ⋯ ⋯ ⋯ H.ln oc.ln) (aBZ (j q.1) (j q.2))) λW ex k=>?_;obtain⟨ys,y,hy⟩:∃ys:List Str,(if g=[]/\c=[] then [] else (eO (e9 % 2==1) (p-min n p) (min n p) g c).map cR)=ys.map Wu/\∀x∈ys,pb 160 x:=by
   split
   ·exact⟨[],rfl,λx k=>absurd k (by simp)⟩
   ·exact⟨W,ex,k⟩
  have hd:cx p n g c e9=ys.map Wu:=by
   unfold cx;rw[if_neg (λC=>by rw[Qj,q.1,q.2] at C;exact LZ C.2),if_neg q2];by_cases C:g=[]/\c=[]
   ·rw[if_pos C] at y ⊢;exact y
   ·rw[if_neg C] at y ⊢;rw[<-IL,y,aHa]
  have er:(ys.map Wu).map (dE e9)=ys.map λr => .bytes (bx r):=by
   rw[MN];exact Nm λs O=>if_neg ⋯
  have dm:∀ts:List Str,(∀s∈ts,cM s)->(ts.map bx).map aZ=ts:=λts h=>by
   rw[MN];exact(Nm (g:=id) λs d=>(aG6 (h s d):(aZ ∘ bx) s=id s)).trans (Ve ts)
  have J:∀ {x:List Ln} {ts:List Str},x=ts.map tx->(∀l∈x,po l)->∀s∈ts,pb 100 s:=λe h s d=>h (tx s) (e▸LG.mpr ⟨s,d,rfl⟩) s rfl;have sz:∀ {ts:List Str},(∀s∈ts,pb 100 s)->∀x∈ts.map bx,eG x:=λh x k=>by
   refine ag (LG.mp k) λs d i=>?_;subst i;exact By (h s d).1 (Ox (h s d).2 ⋯)
  have ka:=J G oa;have kb:=J E ob;have f3:Q.length=(bB p g).length:=by rw[G,KR]
  have f2:K.length=(bB p c).length:=by rw[E,KR]
  have wk:∀ts:List Str,Wk (.lst (ts.map .str)) (.lst ((ts.map tx).map .ln)):=λts => .lst (by rw[MN];exact WQ.map (f:=AV.str) (g:=λs => .ln (tx s)) Wk.ln ts);have R:=oU D H oc;have a:(bB p c).length<200:=by omega
  rw[hd,er,G,E,pA F,pA F];have Z:∀A',dt A' 200->∀a8,kn N a8->TC w A' (af w) (.ref (if e9 % 2=1 then 276 else 261)) [.lst (((Q.map bx).map aZ).map .str),.lst (((K.map bx).map aZ).map .str),.str (aZ #[]),.str (aZ #[]),.str (aZ #[]),.str (aZ #[]),.int n,.str (aZ #[])] [] a8 (ol w (af w) N 153 (ys.map .str) a8):=λA' u a8 Xl=>by
   rw[dm Q λs d=>(ka s d).1,dm K λs d=>(kb s d).1,show aZ #[]=eT from by decide +kernel];refine TC.args (ys:=[.lst ((bB p g).map .ln),.lst ((bB p c).map .ln),.str eT,.str eT,.str eT,.str eT,.int n,.str eT]) (G▸E▸.cons (wk Q) (.cons (wk K) (WQ.refl _))) ?_;have ei:(ys.map .str:List AV)=(ys.map Wu).map aC:=by rw[MN];rfl
   rw[ei,<-y];by_cases V:e9 % 2=1
   ·rw[if_pos V,show (e9 % 2==1)=Ww from beq_iff_eq.mpr V];have e:=Ed (n:=n) R a (gC 0 p);rw[wF (Pu n p)] at e;have t:=aHe (w:=w) (n:=n) (N:=N) (Y:=a8) u U ⋯ (show (bB p g).length<10^5 by omega) a (jr D H.ln) (jr D oc.ln) (jt q2).1 (jt q2).2 (R.mb_len a);rw[e] at t;exact t
   ·rw[if_neg V,show (e9 % 2==1)=Wx from beq_eq_false_iff_ne.mpr V];have e:=Eb (n:=n) R a (gC 0 p);rw[wF (Pu n p)] at e;have t:=aAG (w:=w) (n:=n) (N:=N) (Y:=a8) u ⋯ (show (bB p g).length<10^5 by omega) a (jr D H.ln) (jr D oc.ln) (jt q2).1 (jt q2).2 (R.mb_len a);rw[e] at t;exact t
  have v:=v (if e9 % 2=1 then 276 else 261);rw[G,E,pA F,pA F] at v;refine v _ (aGV S (by rw[KR];omega) (by rw[KR];omega) (sz ka) (sz kb) pw pw pw pw pw ?_ Z λr hr=>⟨(hy r hr).1,Ox (hy r hr).2 ⋯⟩);split
  ·exact bw @_
  ·exact bw @_
end
def JH{e:Expr}{rest:List Expr}
  (hc:ME (.Call c (e::rest) [⟨Wu q,C,M⟩,⟨Wu g,t,L⟩] a9) z=(do QZ a9 (← ME c z) [] (NF a9 (Mh (e::rest) z)) (QL a9 (PH [⟨Wu q,C,M⟩,⟨Wu g,t,L⟩] z))))
  (he:Mh (e::rest) z=(Wx,ME e z)::Mh rest z)
  (h:T w A B z Val (ME c z) V λf fI=>eH w B f/\T w A B z Vals (spliced (NF a9 (Mh (e::rest) z))) fI λvs ia=>T w A B z Val (ME C z) ia λu j=>T w A B z Val (ME t z) j λv i=>FC w A B z f vs [(q,u),(g,v)] i K):T w A B z Val (ME (.Call c (e::rest) [⟨Wu q,C,M⟩,⟨Wu g,t,L⟩] a9) z) V K:=λs Z S Q E hQ=>by
 rw[hc];refine KI (h s Z S _ _ λf J c5 Z1 fI d S1 V1 X1=>?_);refine aD d λhk d=>?_;unfold QZ;refine KI (Lh (PyProof.Rows.evalArgs_kw2 rfl (d c5 Z1 S1 _ _ λvs x s2 Z2 ia G S2 V2 U=>To (G s2 Z2 S2 _ _ λu y s3 Z3 j o S3 V3 Y=>To (o s3 Z3 S3 _ _ λu' W s4 Z4 i n S4 V4 R=>PyProof.Rows.kwAll_nil (KI (LN ?_))))) he));refine KI (hk A s4 Z4 J (V1.mono ((U.le.trans Y.le).trans R.le)) S4.base S4.frozen _ _ λk=>?_);have a:LC (Ly ab w) A (call J ([]++x) [(q,y),(g,W)]) (λr F=>LC (Ly ab w) A (do Ol [r] point;Nb r) Q E F) E s4:=n s4 Z4 J _ [(q,y),(g,W)] (V1.mono ((U.le.trans Y.le).trans R.le)) (V2.mono (Y.le.trans R.le)) (.cons (V3.mono R.le) (.cons V4 .nil)) S4 _ _ λv y F Z' D k S' H X=>KI (Lh (Sf (KN (hQ v y F Z' D k S' H (X1.trans (U.trans (Y.trans (R.trans X))))))))
 have P:∀l,LC (Ly ab w) A (operate l (call J ([]++x) [(q,y),(g,W)])>>=λr=>(do Ol [r] point;Nb r)) Q E s4:=λl=>KI (λΓ p N=>by rw[RL];exact a Γ p N);have hm:∀m,LC (Ly ab w) A (Qy m J ([]++x) [(q,y),(g,W)]>>=λr=>(do Ol [r] point;Nb r)) Q E s4:=λm=>KI (by unfold Qy;exact QV a);generalize (((NF a9 (Mh (e::rest) z)).any λx=>x.fst)||(QL a9 (PH [⟨Wu q,C,M⟩,⟨Wu g,t,L⟩] z)).any λx=>x.fst.isNone)=b;cases k <;> cases b <;> first
  |exact P _
  |exact hm _
  |exact KI a
  |exact Rm (by split <;> first |exact KI a |exact hm _)
section
variable{K:Frag}{f c:LP}{fd:Oi}{args:List AV}{Y:aa}
def aIR(J:hW (am K))(r:bJ K f Ww fd c6 c)(d:A.depth<Na)(G:Binds w A.in1 (am K) fd args kw f8)(j:((f8.map (·.1)).all λx=>decide (fd.scope.names.lookup x=Wu .local))=Ww):TC w A (am K) (.ref f) args kw Y λv a8=>∃L a g,v=.ref a/\a8=(a,.gen g (.fresh (.func c6 (av fd L f c))))::(L,.ns f8.reverse)::Y:=by
 refine xt r λh e s n z p b Z Q=>?_;clear r;obtain⟨o,y,E⟩:=h;obtain⟨q,vs,m,l,i,u⟩:=b;obtain⟨W,V,R⟩:=Z;exact JP J y E W V R e (λx k=>of_decide_eq_true (LS.mp Q x k)) s l i u d G (λx k=>of_decide_eq_true (LS.mp j x k)) λL a g=>by
  rw[n,z,p,s];exact⟨L,a,g,rfl,rfl⟩
end
section
variable{x y:AV}{Y:aa}
def eR.un2{P:List (Str×Value)->Prop}(c:∀x y,Val Z u x->Val Z v y->P [(f,x),(b,y)])(W:List (Str×Value))(h:eR Z [(f,u),(b,v)] W):P W:=by
 obtain _ |⟨d,h⟩:=h
 obtain _ |⟨a,h⟩:=h
 cases h
 exact c _ _ d a
def Binds.k2{K:Frag}(h:∀Z i e d a,Val Z x i->Val Z y e->Val Z u d->Val Z v a->∃bs,Mi K ⟨ab,w.params⟩ (Ra fd ⟨[i,e],[(c,d),(b,a)]⟩)=Wu bs/\eR Z f8 bs):Binds w A (am K) fd [x,y] [(c,u),(b,v)] f8:=Binds.peek λZ W j k l=>eR.un2 (P:=λj=>∃bs,Mi K ⟨ab,w.params⟩ (Ra fd ⟨W,j⟩)=Wu bs/\eR Z f8 bs) (λd a o n=>om (P:=λW=>∃bs,Mi K ⟨ab,w.params⟩ (Ra fd ⟨W,[(c,d),(b,a)]⟩)=Wu bs/\eR Z f8 bs) (λi r=>om λe p=>Zq (h Z i e d a r p o n)) W k) j l
def Binds.k3{K:Frag}{d:AV}(h:∀Z v0 j i e a,Val Z d v0->Val Z x j->Val Z y i->Val Z u e->Val Z v a->∃bs,Mi K ⟨ab,w.params⟩ (Ra fd ⟨[v0,j,i],[(c,e),(b,a)]⟩)=Wu bs/\eR Z f8 bs):Binds w A (am K) fd [d,x,y] [(c,u),(b,v)] f8:=Binds.peek λZ W k l n=>eR.un2 (P:=λk=>∃bs,Mi K ⟨ab,w.params⟩ (Ra fd ⟨W,k⟩)=Wu bs/\eR Z f8 bs) (λe a p o=>om (P:=λW=>∃bs,Mi K ⟨ab,w.params⟩ (Ra fd ⟨W,[(c,e),(b,a)]⟩)=Wu bs/\eR Z f8 bs) (λv0 z=>om λj s=>om λi r=>Zq (h Z v0 j i e a z s r p o)) W l) k n
def aHR:Binds w A (af w) (ak (ej w.params)) [x,y] [(jT,.int n),(pf,.str eT)] (lA x y n):=Binds.k2 λZ o l k j i e d a =>
 ⟨_,@_,.cons i (.cons e (.cons (.str _ 603) (.cons (.str _ 604) (.cons (.str _ 605) (.cons (.str _ 606) (.cons d (.cons a .nil)))))))⟩
def aHT:Binds w A (af w) (ak (eh w.params)) [x,y] [(jT,.int n),(pf,.str eT)] (lA x y n):=Binds.k2 λZ o l k j i e d a =>
 ⟨_,@_,.cons i (.cons e (.cons (.str _ 649) (.cons (.str _ 650) (.cons (.str _ 651) (.cons (.str _ 652) (.cons d (.cons a .nil)))))))⟩
def aHU:Binds w A (af w) (ak (dU w.params)) [.ref b,x,y] [(jT,.int n),(pf,.bytes #[])] (rK b x y n):=Binds.k3 λZ r p o l k j i e d a =>
 ⟨_,@_,.cons j (.cons i (.cons e (.cons (.bytes _ 696) (.cons (.bytes _ 697) (.cons (.bytes _ 698) (.cons (.bytes _ 699) (.cons d (.cons a .nil))))))))⟩
def dO(w:Lz)(e9:Nat)(L:LP):NZ:=if e9=0 then .fresh (.func (aI (aq 7)) (av (ak (ej w.params)) L 261 260))
 else if e9=1 then .fresh (.func (aI (aq 9)) (av (ak (eh w.params)) L 276 275))
 else .fresh (.func (aI (aq 11)) (av (ak (dU w.params)) L 291 290))
def cC(e9 n:Nat)(a b:AV):List (Str×AV):=if e9<2 then (lA a b n).reverse else (rK (if e9 % 2=1 then 276 else 261) a b n).reverse
def Cu{K:Frag}(n:hW (am K))(i:bJ K f Ww fd c6 c)(d:A.depth<Na)(j:Binds w A.in1 (am K) fd args kw f8)(e:((f8.map (·.1)).all λx=>decide (fd.scope.names.lookup x=Wu .local))=Ww)
  (k:∀L a g,R (.ref a) ⟨a6,(a,.gen g (.fresh (.func c6 (av fd L f c))))::(L,.ns f8.reverse)::Y⟩):FC w A (am K) z (.ref f) args kw ⟨a6,Y⟩ R:=ge (aIR n i d j e) λv l q=>fe q λL a g p o=>p▸o▸k L a g
def aED{P:Nat->Prop}(h:e9<2)(h0:P 0)(a:P 1):P e9:=(Nat.le_one_iff_eq_zero_or_eq_one.mp (Pe h)).elim (λe=>e▸h0) λe=>e▸a
abbrev gh(e9:Nat):LP:=if e9 % 2=1 then 276 else 261
def aEE(e9:Nat):eH w (af w) (.ref (gh e9)):=iteInduction (motive:=λf=>eH w (af w) (.ref f)) (λO=>bw @_) λO=>bw @_
def aJv(e:e9<2)(d:A.depth<Na)
  (k:∀L a g,R (.ref a) ⟨a6,(a,.gen g (dO w e9 L))::(L,.ns (cC e9 n x y))::Y⟩):FC w A (af w) z (.ref (gh e9)) [x,y] [(jT,.int n),(pf,.str eT)] ⟨a6,Y⟩ R:=aED (P:=λe9=>(∀L a g,R (.ref a) ⟨a6,(a,.gen g (dO w e9 L))::(L,.ns (cC e9 n x y))::Y⟩)->FC w A (af w) z (.ref (gh e9)) [x,y] [(jT,.int n),(pf,.str eT)] ⟨a6,Y⟩ R) e
  (Cu (bq w) (Il _) d aHR @_) (Cu (bq w) (Ik _) d aHT @_) k
def aHm(a : ¬ e9<2)(L:LP):dO w e9 L=.fresh (.func (aI (aq 11)) (av (ak (dU w.params)) L 291 290)):=by
 unfold dO;rw[if_neg fun(q:e9=0)=>a (q▸Nat.zero_lt_two),if_neg fun(q:e9=1)=>a (q▸Nat.one_lt_two)]
def aJz(e : ¬ e9<2)(d:A.depth<Na)
  (k:∀L a g,R (.ref a) ⟨a6,(a,.gen g (dO w e9 L))::(L,.ns (cC e9 n x y))::Y⟩):FC w A (af w) z (.ref 291) [.ref (gh e9),x,y] [(jT,.int n),(pf,.bytes #[])] ⟨a6,Y⟩ R:=Cu (bq w) (aFZ _) d aHU @_ λL a g=>aHm e L▸(show (cC e9 n x y)=(rK (gh e9) x y n).reverse from if_neg e)▸k L a g
def Dj(i:Nat)(h:e9=i\/e9=i+1)(e:i % 2=0):([.ref 261,.ref 276]:List AV)[((e9:Int)-(i:Nat)).toNat]?=Wu (.ref (gh e9)):=by
 rcases h with rfl |rfl
 ·rw[Int.sub_self,show gh e9=261 from if_neg ⋯];rfl
 ·rw[show ((i+1:Nat):Int)-(i:Nat)=1 by omega,show gh (i+1)=276 from if_pos ⋯];rfl
def aL(e9 p:Nat)(g:List Ln):List AV:=(bB p g).map (cS e9)
def kS(e9:Nat):Nat:=if e9<2 then 153 else 204
def aDn(e9:Nat):kS e9<=210:=by unfold kS;split <;> decide
def Hn(h:e9<2)(p:Nat)(g:List Ln):aL e9 p g=(bB p g).map .ln:=Nm λl O=>(GJ ⋯).symm
def aCj{g c:List Ln}(d:p<=3)(e:n<=3)(i:g.length<=90)(j:c.length<=90)(a:ui g)(oc:uj c)(l:e9<4)(k:fi∈N)(o:(286,dB de)∈N):ju w (af w) N (kS e9) ((cx p n g c e9).map (dE e9)) [(L,.ns (cC e9 n (.lst (aL e9 p g)) (.lst (aL e9 p c))))] (dO w e9 L):=by
 by_cases h:e9<2
 ·unfold cC kS;rw[if_pos h,if_pos h,Hn h,Hn h];obtain rfl |rfl:e9=0\/e9=1:=by omega
  ·exact aAH d e i j a oc
  ·exact aHc d e i j a oc k
 ·unfold cC kS dO;rw[if_neg h,if_neg h,if_neg (show ¬ e9=0 by omega),if_neg (show ¬ e9=1 by omega)];exact aHL d e i j a oc ⋯ l k o
end
structure si where
 kind:Nat
 n:Nat
 common:Nat
 gone:List Ln
 come:List Ln
 st:Option (List (Option Str))
def si.rows(e:si):List (Option Str):=e.st.getD (cx e.common e.n e.gone e.come e.kind)
def si.step(e:si):si:={ e with st:=Wu e.rows.tail}
def pa(D:List (Option Str)):Prop:=∀a r,D=a++Wv::r->r=[]
structure gr (m:Nat) (e:si):Prop where
 k4:e.kind<4
 n3:e.n<=3
 p3:e.common<=3
 lg:e.gone.length<=m
 lc:e.come.length<=m
 og:ui e.gone
 oc:uj e.come
 cut:∀D,e.st=Wu D->pa D/\D.length<=10^4
def BB(d:List bz):pa (eB d):=by
 induction d with
 |nil=>exact λa r h=>absurd (congrArg NY h) (by simp[eB])
 |cons x d e =>
  obtain⟨m,l⟩:=x;have one:pa [Wv]:=λa r h=>by
   cases a with
   |nil=>exact(Ni h).2.symm
   |cons y a=>exact absurd (congrArg NY (Ni h).2) (by simp)
  rcases l with _ |_ |s
  ·exact one
  ·exact one
  ·intro a r h;cases a with
   |nil=>cases(Ni h).1
   |cons y a=>exact e a r (Ni h).2
def pa.tail(h:pa D):pa D.tail:=by
 cases D with
 |nil=>exact h
 |cons x D=>exact λa r e=>h (x::a) r (congrArg (x :: ·) e)
def pa.cut(h:pa D):CO D:=λr e=>h [] r e
def gr.rows{m:Nat}{e:si}(h:gr m e)(k:m<=100):pa e.rows/\e.rows.length<=10^4:=by
 obtain⟨e9,n,f6,a_,b9,V⟩:=e;cases V with
 |some D=>exact h.cut D rfl
 |none =>
  have i:=h.lg;have j:=h.lc;have a:=h.p3;have d:=h.n3;dsimp only at i j a d;show pa (cx f6 n a_ b9 e9)/\(cx f6 n a_ b9 e9).length<=10^4;have one:pa [Wv]:=BB [(eT,Wv)];unfold cx;split
  ·exact⟨one,Mx rfl⟩
  ·split
   ·exact⟨one,Mx rfl⟩
   ·split
    ·exact⟨BB [],Lq _⟩
    ·exact⟨BB _,Mc (aHb _) (Ea ⋯ ⋯ ⋯)⟩
def gr.step{m:Nat}{e:si}(h:gr m e)(a:m<=100):gr m e.step:=⟨h.k4,h.n3,h.p3,h.lg,h.lc,h.og,h.oc,λD q=>No q▸⟨(h.rows a).1.tail,Mc (Mc (Oz Sc) (OL ..)) (h.rows a).2⟩⟩
section
variable(w:Lz)(N:aa)
inductive pq:si->LP->aa->Prop
 |fresh {e9 n f6:Nat} {a_ b9:List Ln} {one f9 F S G C L:LP} {g:Nat}:pq ⟨e9,n,f6,a_,b9,Wv⟩ one
   [(F,.list (aL e9 f6 a_)),(S,.list (aL e9 f6 b9)),(G,.list (a_.map .ln)),(C,.list (b9.map .ln)),(one,.list [.ref f9,.ref F,.ref S,.ref G,.ref C,.none,.int (f6:Nat),.int (n:Nat),.int (e9:Nat)]),(f9,.gen g (dO w e9 L)),(L,.ns (cC e9 n (.ref F) (.ref S)))]
 |pulled {e9 n f6:Nat} {a_ b9:List Ln} {D:List (Option Str)} {one f9:LP} {g:Nat} {gs:NZ} {gl:aa} (h:dQ w (af w) N (kS e9) (D.map (dE e9)) gl gs):pq ⟨e9,n,f6,a_,b9,Wu D⟩ one
   ((one,.list (dw f9 (.lst (aL e9 f6 a_)) (.lst (aL e9 f6 b9)) a_ b9 (eA e9 (Wu D)) f6 n e9))::(f9,.gen g gs)::gl)
inductive pc:List si->List LP->aa->Prop
 |nil:pc [] [] []
 |cons {e:si} {a:LP} {l L:aa} {es:List si} {as:List LP} (h:pq w N e a l) (t:pc es as L):pc (e::es) (a::as) (l++L)
end
section
variable{N:aa}
def pc.len(h:pc w N es as L):as.length=es.length:=by
 induction h with
 |nil=>rfl
 |cons _ _ a=>exact congrArg Nat.succ a
def pc.app{l:aa}{e:si}(h:pc w N es as L)(k:pq w N e a l):pc w N (es++[e]) (as++[a]) (L++l):=by
 induction h with
 |nil =>
  have:=pc.cons k .nil;rwa [Ms] at this
 |cons h _ d=>rw[LH];exact .cons h d
def pc.pick(h:pc w N es as L):∀ {i:Nat} {e:si},es[i]?=Wu e->∃a l R,as[i]?=Wu a/\pq w N e a l/\L.Perm (l++R)/\∀e' l',pq w N e' a l'->∃L',pc w N (es.set i e') as L'/\(l'++R).Perm L':=by
 induction h with
 |nil=>exact λe=>nomatch e
 | @cons y x d L es as h t o =>
  intro i e j;cases i with
  |zero =>
   cases j
   exact⟨x,d,L,rfl,h,.refl _,λe' l' k=>⟨_,.cons k t,.refl _⟩⟩
  |succ i =>
   refine fM (o j) λa l R u r p s=>?_;refine⟨a,l,d++R,u,r,?_,λe' l' k=>?_⟩
   ·exact(Ou d p).trans (by rw[<-LH,<-LH];exact OT R Li)
   ·refine ag (s e' l' k) λL' v n=>?_;refine⟨d++L',.cons h v,?_⟩;exact(by rw[<-LH,<-LH];exact OT R Li:(l'++(d++R)).Perm (d++(l'++R))).trans (Ou d n)
def pc.pickA{e:si}(h:pc w N es as L)(d:es[i]?=Wu e)(j:as[i]?=Wu a):∃l R,pq w N e a l/\L.Perm (l++R)/\∀e' l',pq w N e' a l'->∃L',pc w N (es.set i e') as L'/\(l'++R).Perm L':=fM (h.pick d) λr l R p o n k=>No (p.symm.trans j)▸⟨l,R,o,n,k⟩
def aDc{A:List AV}:ij F A (cC e9 n (.ref F) (.ref S)) (cC e9 n (.lst A) (.ref S)):=by
 unfold cC;split
 ·exact .keep (.keep (.keep (.keep (.keep (.keep (.keep (.cast .nil)))))))
 ·exact .keep (.keep (.keep (.keep (.keep (.keep (.keep (.cast (.keep .nil))))))))
def aDb{x:AV}{B:List AV}:ij S B (cC e9 n x (.ref S)) (cC e9 n x (.lst B)):=by
 unfold cC;split
 ·exact .keep (.keep (.keep (.keep (.keep (.keep (.cast (.keep .nil)))))))
 ·exact .keep (.keep (.keep (.keep (.keep (.keep (.cast (.keep (.keep .nil))))))))
end
def FC.freezeL(o:md a W Y a8)(h:FC w A B z f args [] ⟨a6,a8⟩ K):FC w A B z f args [] ⟨a6,(a,.list W)::Y⟩ K:=λs Z y vs l r n p S Q E u=>by
 refine ag (S.toca.freezeL o) λG b X=>?_;exact h s G y vs l (r.mono X.le) (n.mono X.le) (p.mono X.le) (S.after b X) Q E λv x j e d k i R J=>u v x j e d k i R ((X.toF (V:=⟨a6,(a,.list W)::Y⟩)).trans J)
def FC.permL{l:aa}(p:l.Perm l')(h:FC w A B z f args [] ⟨a6,l'⟩ K):FC w A B z f args [] ⟨a6,l⟩ K:=λs Z r vs e n i j S Q E o =>
 h s Z r vs e n i j (S.perm p) Q E λv x d u a k y V X=>o v x d u a k y V (by rw[eu (ft:=a6) p];exact X)
section
variable{N rest:aa}(X:dt A 300)(H:A.frames=Wu (z::g4))(P:z.frame=Wu z.locals)(c:z.scope.kind ≠ .module)(M:hB g4 rest)(U:kn N rest)(hT:fi∈N)(hE:(286,dB de)∈N)
include X H P c M U
theorem Ko{f6:Nat}{one:LP}{g:Nat}(d:gr 90 ⟨e9,n,f6,a_,b9,WX⟩)(a:WX.getD (cx f6 n a_ b9 e9)=D)(h:dQ w (af w) N (kS e9) (D.map (dE e9)) gl gs)
  (k:∀l',pq w N ⟨e9,n,f6,a_,b9,Wu D.tail⟩ one l'->K (.bool Ww) ⟨a6,l'++rest⟩):FC w A (af w) z (.ref 320) [.ref one] [] ⟨a6,((one,.list (dw f9 (.lst (aL e9 f6 a_)) (.lst (aL e9 f6 b9)) a_ b9 (eA e9 WX) f6 n e9))::(f9,.gen g gs)::gl)++rest⟩ K:=by
 have i:=d.rows ⋯;have e:(si.mk e9 n f6 a_ b9 WX).rows=D:=a;rw[e] at i;have s:=d.p3;have l:=d.lg;have o:=d.lc;dsimp only at s l o;refine Kq (aEp (g4:=z::g4) (WX:=WX) (D:=D) (Y:=(z.locals,.ns a6)::rest) X (aDn e9) H (hB.push (V:=⟨a6,rest⟩) M P c) (U.cons _) ?_ i.1.cut (Mc i.2 ⋯) ⋯ d.k4 ⋯ ⋯ d.og.ln d.oc.ln h) λv j q=>?_
 ·cases WX with
  |none=>exact .inl ⟨rfl,a.symm⟩
  |some u=>exact .inr (congrArg Wu a)
 ·obtain⟨rfl,d5,r,rfl,p⟩:=q;exact⟨_,rfl,k _ (.pulled p)⟩
include hT hE
theorem aJK{e:si}{one:LP}{l:aa}(a:gr 90 e)(d:pq w N e one l)(k:∀l',pq w N e.step one l'->K (.bool Ww) ⟨a6,l'++rest⟩):FC w A (af w) z (.ref 320) [.ref one] [] ⟨a6,l++rest⟩ K:=by
 cases d with
 |pulled h=>exact Ko X H P c M U a rfl h k
 | @fresh e9 n f6 a_ b9 _ f9 F S G C L g =>
  refine FC.freezeL (a8:=(S,.list (aL e9 f6 b9))::(G,.list (a_.map .ln))::(C,.list (b9.map .ln))::(one,.list [.ref f9,.lst (aL e9 f6 a_),.ref S,.ref G,.ref C,.none,.int (f6:Nat),.int (n:Nat),.int (e9:Nat)])::(f9,.gen g (dO w e9 L))::(L,.ns (cC e9 n (.lst (aL e9 f6 a_)) (.ref S)))::rest)
   (.keep (.keep (.keep (.lst (.keep (.cast (td.refl _))) (.keep (.ns aDc (.refl _))))))) ?_
  refine FC.freezeL (a8:=(G,.list (a_.map .ln))::(C,.list (b9.map .ln))::(one,.list [.ref f9,.lst (aL e9 f6 a_),.lst (aL e9 f6 b9),.ref G,.ref C,.none,.int (f6:Nat),.int (n:Nat),.int (e9:Nat)])::(f9,.gen g (dO w e9 L))::(L,.ns (cC e9 n (.lst (aL e9 f6 a_)) (.lst (aL e9 f6 b9))))::rest)
   (.keep (.keep (.lst (.keep (.keep (.cast (td.refl _)))) (.keep (.ns aDb (.refl _)))))) ?_
  refine FC.freezeL (a8:=(C,.list (b9.map .ln))::(one,.list [.ref f9,.lst (aL e9 f6 a_),.lst (aL e9 f6 b9),.lst (a_.map .ln),.ref C,.none,.int (f6:Nat),.int (n:Nat),.int (e9:Nat)])::(f9,.gen g (dO w e9 L))::(L,.ns (cC e9 n (.lst (aL e9 f6 a_)) (.lst (aL e9 f6 b9))))::rest)
   (.keep (.lst (.keep (.keep (.keep (.cast (td.refl _))))) (.refl _))) ?_
  refine FC.freezeL (a8:=(one,.list (dw f9 (.lst (aL e9 f6 a_)) (.lst (aL e9 f6 b9)) a_ b9 .none f6 n e9))::(f9,.gen g (dO w e9 L))::(L,.ns (cC e9 n (.lst (aL e9 f6 a_)) (.lst (aL e9 f6 b9))))::rest)
   (.lst (.keep (.keep (.keep (.keep (.cast (td.refl _)))))) (.refl _)) ?_
  exact Ko (WX:=Wv) (f9:=f9) (g:=g) (gs:=dO w e9 L) (gl:=[(L,.ns (cC e9 n (.lst (aL e9 f6 a_)) (.lst (aL e9 f6 b9))))]) X H P c M U a rfl (.inl (aCj a.p3 a.n3 a.lg a.lc a.og a.oc a.k4 hT hE)) k
theorem Km{e:si}(h:pc w N es as L)(J:es[i]?=Wu e)(Q:as[i]?=Wu a)(u:gr 90 e)(k:∀d,pc w N (es.set i e.step) as d->K (.bool Ww) ⟨a6,d++rest⟩):FC w A (af w) z (.ref 320) [.ref a] [] ⟨a6,L++rest⟩ K:=by
 refine fM (h.pick J) λr l R j E y G=>?_;obtain rfl:r=a:=No (j.symm.trans Q);refine FC.permL (l':=l++(R++rest)) (by rw[<-LH];exact OT rest y) (FC.weak (aJK (K:=λv V=>∃l',pq w N e.step r l'/\v=.bool Ww/\V=⟨a6,l'++(R++rest)⟩) X H P c (M.app R) (U.app R) hT hE u E λl' n=>⟨l',n,rfl,rfl⟩) λv ft p q=>?_);refine bn q λl' n o W=>?_;subst o;refine ag (G _ _ n) λd x s=>?_;cases W
 exact⟨d++rest,.perm (by rw[<-LH];exact OT rest s),k d x⟩
end
section
open PySem PySem.W PyProof.Rows
section
variable{V:St}
def aJw(k:hZ V.led v W)(hz:W.length<=LY)(h:∀D,D∉keys V.led->K (.ref D) ⟨V.loc,(D,.list W)::V.led⟩):FC w A B z (.typ "list") [v] [] V K:=FC.t λs Z S Q E o=>om λx j=>Zq <| by
 refine bL (k.get j S.toca) λa d n i g vs=>?_;subst i;refine call_list_seq a (.inl rfl) g rfl rfl (λh' p e l=>?_) (by rw[vs.size];exact hz);have P:=S.toca.newAt (h':=h') (ao:=.list W) rfl s.toks e ⟨d,p,l,vs⟩;exact o _ _ _ _ _ (h _ S.toca.lfresh) (S.after P.1 P.2) (.ref _) P.2.toF
def dA{a b c:Int}(d:b≠0)(e:a.fmod b=c)(h:K (.int c) V):F2 w A B z Val (Ph .Mod) (.int a) (.int b) V K:=Kw d (e▸h)
end
def FC.frz(h:FC w A B z f args [] V (Xp K)):FC w A B z f args [] V K:=λs Z y vs n r o p S Q E u =>
 h s Z y vs n r o p S Q E λv x Y b l k R H X=>by
  cases k with
  |mk a W a8 e G k =>
   subst e;subst G;exact bn (R.freeze (ij.refl _)) λJ j i d=>u _ _ _ _ _ k j ((show x=.ref a from H.inv)▸i) (X.trans d)
def Ho(e9 p:Nat)(g:List Ln)(l:Ln):aL e9 p (g++[l])=aL e9 p g++[cS e9 l]:=by
 unfold aL bB;rw[<-LH,LD];rfl
def T.st{K:α->St->Prop}(e:V=di)(h:T w A B z b t di K):T w A B z b t V K:=e▸h
def aBC(o c g r l s f h:LP×el)(a l0 gl:aa):(o::c::g::r::l::s::f::h::((a++l0)++gl)).Perm (h::((a++[f,s,g,c,o,r,l])++l0)++gl):=by
 have d:([o,c,g,r,l,s,f]:aa).Perm [f,s,g,c,o,r,l]:=by
  refine(Li (l₁:=[o,c,g,r,l]) (l₂:=[s,f])).trans ?_;refine List.Perm.append (Wa [f,s]) ?_;exact OT [r,l] (Wa [g,c,o])
 have e:((h::((a++[f,s,g,c,o,r,l])++l0)++gl):aa)=h::(a++([f,s,g,c,o,r,l]++(l0++gl))):=by simp only[LH,Lg,Lj]
 rw[e,LH];show ([o,c,g,r,l,s,f]++h::(a++(l0++gl))).Perm _;refine MT.trans (NN _ ((OT _ d).trans ?_));generalize ([f,s,g,c,o,r,l]:aa)=Y;generalize l0++gl=R;rw[<-LH Y,<-LH a];exact OT R Li
def lr(a:Int){b:Nat}(d:0<b):∃k:Nat,a.fmod (b:Int)=(k:Int)/\k<b:=by
 have i:=Int.fmod_nonneg_of_pos a (show (0:Int)<b by omega);have e:=Int.fmod_lt_of_pos a (show (0:Int)<b by omega);exact⟨(a.fmod b).toNat,by omega,by omega⟩
abbrev eS(f7:List Int)(a d:AV:=.any):List (Str×AV):=[(EQ,.lst (f7.map .int)),(EP,a),(zm,.any),(EO,.any),(EU,.any),(jT,.any),(Fp,.any),(tD,.any),(EN,.any),(yT,.any),(yR,.any),(pe,.any),(EM,d),(tK,.any)]
abbrev db(f7:List Int)(a e x y i n j f s r o d:AV:=.any):List (Str×AV):=[(EQ,.lst (f7.map .int)),(EP,a),(zm,x),(EO,y),(EU,i),(jT,n),(Fp,j),(tD,f),(EN,s),(yT,r),(yR,o),(pe,d),(EM,e),(tK,.any)]
section
variable(w:Lz)(N:aa)(f7:List Int)(c:LP)(l0:aa)
def JZ(W:List Int)(P:St->Prop):Prop:=∀(a:List si) (as:List LP) (L:aa) (m:Nat),pc w N a as L->(∀e∈a,gr m e)->m+W.length<=90->a.length+W.length<=90->(a≠[]\/W.head?=Wu 144)->P ⟨eS f7 (.ref c),(c,.list (as.map .ref))::(L++l0)⟩
def Ci(P:St->Prop):Prop:=∀(a:List si) (as:List LP) (L:aa),pc w N a as L->(∀e∈a,gr 90 e)->a.length<=90->a≠[]->P ⟨eS f7 (.ref c),(c,.list (as.map .ref))::(L++l0)⟩
end
def gr.le{m:Nat}{e:si}(h:gr m e)(q:m<=k):gr k e:=⟨h.k4,h.n3,h.p3,Mc h.lg q,Mc h.lc q,h.og,h.oc,h.cut⟩
abbrev aB(w:Lz)(L:LP):Env:=av (ak (jc w.params)) L 325 324
def aFV(P:KS):bJ (KB P) 325 Wx (ak (jc P)) (aI (aq 18)) 324:=⟨⟨jc P,@_,@_⟩,@_,@_,@_,@_,@_,⟨mZ P,aP (mZ P),cy ((aP (mZ P)).getD 1 .none),@_,@_,@_⟩,⟨@_,@_,@_⟩,@_⟩
def Gy(s:Stmt):List Stmt×List Stmt:=by
 cases s with
 |For _ _ b o _=>exact(b,o)
 |While _ b o _=>exact(b,o)
 |If _ b o _=>exact(b,o)
 |_=>exact([],[])
abbrev jv(s:Stmt):List Stmt:=(Gy s).1
abbrev Ba(s:Stmt):List Stmt:=(Gy s).2
abbrev aHN:List Stmt:=jv ((Ba ((jv ((aI (aq 18)).getD 1 default)).getD 1 default)).getD 0 default)
def gX{L:LP}(a:dt (A.deeper (aB w L)) 340):=(((((((((((((gk w (A.deeper (aB w L)) (ak (jc w.params)) L 325 324 @_ @_ a.h).g (lm w) @_ @_).g (HZ w) @_ @_).g (wt w) @_ @_).g (rB w) @_ @_).g (HU w) @_ @_).g (Ib w) @_ @_).g (Ia w) @_ @_).g (HY w) @_ @_).f (f:=320) (bw @_)).f (f:=313) (bw @_)).m ⟨EC,1, "list.append"⟩ OQ iH OU).m ⟨EZ,1, "list.extend"⟩ OQ yk OY)
section
variable{N:aa}{f7:List Int}{H L:LP}{l0:aa}(M:dt (A.deeper (aB w L)) 340)(U:(A.deeper (aB w L)).frames=Wu [aB w L])(hN:kn N l0)(hT:fi∈N)(hE:(286,dB de)∈N)
include M U hN hT hE
theorem aJq(x:pc w N es as b)(u:∀e∈es,gr 90 e)(s:i<es.length)(z:as[i]?=Wu a)
  (k:∀d,pc w N (es.set i es[i].step) as d->K (.bool Ww) ⟨a6,(H,.list (as.map .ref))::(d++l0)++gl⟩):FC w (A.deeper (aB w L)) (af w) (aB w L) (.ref 320) [.ref a] [] ⟨a6,(H,.list (as.map .ref))::(b++l0)++gl⟩ K:=by
 have o:∀X:aa,((H,el.list (as.map .ref))::(X++l0)++gl).Perm (X++((H,.list (as.map .ref))::(l0++gl))):=λX=>by
  rw[Lg,LH];exact MT.symm
 have j:(aB w L).scope.kind ≠ .module:=by
  rw[show (aB w L).scope.kind=.function from @_];decide
 refine FC.permL (o b) (FC.weak (Km (K:=λv V=>∃d,pc w N (es.set i es[i].step) as d/\v=.bool Ww/\V=⟨a6,d++((H,.list (as.map .ref))::(l0++gl))⟩) (g4:=[]) (M.mono ⋯) U rfl j (λO h=>nomatch h) (λp y=>KP _ (Mn _ (hN p y))) hT hE x (LF s) z (u _ (Pc s)) λd l=>⟨d,l,rfl,rfl⟩) λv ft r q=>?_);refine bn q λd l n E=>?_;subst n;cases E
 exact⟨_,.perm (o d).symm,k d l⟩
theorem aG0{x y:Int}{K:dr->St->Prop}(o:pc w N es as f)(r:∀e∈es,gr 90 e)(z:es.length<=90)(d:es≠[])
  (k:∀i (p:i<es.length) c,pc w N (es.set i es[i].step) as c->K .next ⟨db f7 (.ref H) .any (.int x) (.int y),(H,.list (as.map .ref))::(c++l0)++gl⟩):T w (A.deeper (aB w L)) (af w) (aB w L) fv (execs aHN (aB w L)) ⟨db f7 (.ref H) .any (.int x) (.int y),(H,.list (as.map .ref))::(f++l0)++gl⟩ K:=by
 have u:=gX M;have j:=o.len;refine ag (lr y (b:=es.length) (SS.mpr d)) λi p a=>?_;have l:as[i]?=Wu as[i]:=LF ⋯;have s:y.fmod ((es.length:Nat):Int)=((i:Nat):Int):=p;refine aw (bV (aV u 40 (ax.mk (rX (n:=es.length) (.own (KJ ..)) (by rw[KR];exact j) ⋯ (ax.mk (dA ⋯ s ⟨bp (KJ ..),ax.mk (aE (x:=.ref as[i]) (.own (KJ ..)) ⋯ ⋯ (by rw[LX,Ma,l];rfl) (ax.mk (aJq M U hN hT hE o r a l λc v=>?_)))⟩))))));exact aK (aK (k i a c v))
abbrev wK:List Stmt:=Ba ((Ba ((jv ((aI (aq 18)).getD 1 default)).getD 1 default)).getD 0 default)
theorem aGZ{x y:Int}{K:dr->St->Prop}(V:pc w N es as t)(hl:es.length<=90)(Xq:es≠[])(ok:∀e∈es,gr 89 e)(hx:x.fmod 4=2)
  (k:∀i (hi:i<es.length) c e' o m,pc w N (es.set i e') as c->(e'=es[i]\/∃l,(l=tx ik\/l=Wv)/\e'={ es[i] with gone:=es[i].gone++[l]}/\es[i].st=Wv)->K .next ⟨db f7 (.ref H) .any (.int x) (.int y) .any .any .any .any .any .any o m,(H,.list (as.map .ref))::(c++l0)++gl⟩):T w (A.deeper (aB w L)) (af w) (aB w L) fv (execs wK (aB w L)) ⟨db f7 (.ref H) .any (.int x) (.int y),(H,.list (as.map .ref))::(t++l0)++gl⟩ K:=by
 have v:=gX M;have Yq:=V.len;refine ag (lr y (b:=es.length) (SS.mpr Xq)) λi hi u=>?_;have hz:as[i]?=Wu as[i]:=LF ⋯;have hy:y.fmod ((es.length:Nat):Int)=((i:Nat):Int):=hi;refine ba v 40 (ax.mk (rX (n:=es.length) (.own (KJ ..)) (by rw[KR];exact Yq) ⋯ (ax.mk (dA ⋯ hy ⟨bp (KJ ..),ax.mk (aE (x:=.ref as[i]) (.own (KJ ..)) ⋯ ⋯ (by rw[LX,Ma,hz];rfl) ?_)⟩))));refine bA (V.pickA (LF u) hz) λl R r hp hk=>?_;have pm:∀X Y:aa,X.Perm (Y++R)->((H,el.list (as.map .ref))::(X++l0)++gl).Perm (Y++((H,.list (as.map .ref))::(R++l0)++gl)):=λX Y h=>by
  refine(NN _ (OT gl (OT l0 h))).trans ?_;simp only[LH,Lg];exact MT.symm
 have p:=ok _ (Pc u);have d:∀e' j,pq w N e' as[i] j->∃c,pc w N (es.set i e') as c/\(j++((H,el.list (as.map .ref))::(R++l0)++gl)).Perm ((H,.list (as.map .ref))::(c++l0)++gl):=λe' j h=>by
  refine ag (hk e' j h) λc h1 h2=>?_;exact⟨c,h1,(pm c j h2.symm).symm⟩
 have k2:=λc e' o m=>k i u c e' o m;generalize es[i]=e at r p k2;generalize Yr:((H,el.list (as.map .ref))::(R++l0)++gl)=XX at d;have Z:((H,el.list (as.map .ref))::(t++l0)++gl).Perm (l++XX):=Yr▸pm t l hp;generalize as[i]=one at r d;refine sU (di:=⟨db f7 (.ref H) .any (.int x) (.int y) .any .any .any .any .any .any (.ref one),(H,.list (as.map .ref))::(t++l0)++gl⟩) rfl rfl (T.perm Z ?_);have U:∀e' j o m,pq w N e' one j->(e'=e\/∃l,(l=tx ik\/l=Wv)/\e'={ e with gone:=e.gone++[l]}/\e.st=Wv)->T w (A.deeper (aB w L)) (af w) (aB w L) fv (execs [] (aB w L)) ⟨db f7 (.ref H) .any (.int x) (.int y) .any .any .any .any .any .any o m,j++XX⟩ K:=λe' j o m h he=>by
  refine ag (d e' j h) λc h1 h2=>?_;exact T.perm h2 (aK (k2 c e' o m h1 he))
 cases r with
 | @pulled e9 n f6 a_ b9 D _ f9 g gs d5 h =>
  refine aw (bV (lF (ae v 20 ⟨bp (KJ ..),ax.mk (aE (x:=.lst (D.map (bl e9))) (.own (KJ ..)) ⋯ ⋯ rfl (jB (lJ rfl (gK ?_))))⟩) @_));exact cE (b:=Wx) rfl (aK (U _ _ _ _ (.pulled h) (.inl rfl)))
 | @fresh e9 n f6 a_ b9 _ f9 F S G C c g =>
  refine aw (bV (lF (ae v 20 ⟨bp (KP _ (KP _ (KP _ (KP _ (KJ ..))))),ax.mk (aE (x:=.none) (.own (KP _ (KP _ (KP _ (KP _ (KJ ..)))))) ⋯ ⋯ rfl (jB (lJ rfl (gK ?_))))⟩) @_));refine cE (b:=Ww) rfl ?_;have Q:a_.length<=89:=p.lg;obtain⟨l,E,J⟩:∃l:Ln,(l=tx ik\/l=Wv)/\(((x.fdiv 256).fmod 8=7->l=Wv)/\(¬ (x.fdiv 256).fmod 8=7->l=tx ik)):=by
   by_cases q:(x.fdiv 256).fmod 8=7
   ·exact⟨Wv,.inr rfl,λO=>rfl,λz=>absurd q z⟩
   ·exact⟨tx ik,.inl rfl,λz=>absurd z q,λO=>rfl⟩
  have P:∀s,tx s∈[l]->cM s/\s.length<2^20:=λs V=>by
   have e:=Lm.mp V;rcases E with q |q
   ·rw[q] at e;cases e;exact⟨(cq _ rfl).1,by decide⟩
   ·rw[q] at e;cases e
  have rest:T w (A.deeper (aB w L)) (af w) (aB w L) fv (execs ((jv (wK.getD 1 default)).drop 1) (aB w L)) ⟨db f7 (.ref H) .any (.int x) (.int y) .any .any .any .any .any .any (.ref one) (.ln l),[(F,.list (aL e9 f6 a_)),(S,.list (aL e9 f6 b9)),(G,.list (a_.map .ln)),(C,.list (b9.map .ln)),(one,.list [.ref f9,.ref F,.ref S,.ref G,.ref C,.none,.int (f6:Nat),.int (n:Nat),.int (e9:Nat)]),(f9,.gen g (dO w e9 c)),(c,.ns (cC e9 n (.ref F) (.ref S)))]++XX⟩ (lW w (A.deeper (aB w L)) (af w) (aB w L) [] K):=by
   refine ba v 60 (ax.mk (dA ⋯ hx ⟨bp (KP _ (KP _ (KP _ (KP _ (KJ ..))))),ax.mk (aE (x:=.ref G) (.own (KP _ (KP _ (KP _ (KP _ (KJ ..)))))) ⋯ ⋯ rfl ⟨bH (KP _ (KP _ (KJ ..))),ax.mk (lH (a:=G) (W:=a_.map .ln) (ys:=(a_++[l]).map .ln) (nU (f:=AV.ln)) ((.there (.there .here))) (by rw[KR];exact Mc Q ⋯) ?_)⟩)⟩));refine ba v 60 (ax.mk (dA ⋯ hx ⟨bp (KP _ (KP _ (KP _ (KP _ (KJ ..))))),ax.mk (aE (x:=.ref F) (.own (KP _ (KP _ (KP _ (KP _ (KJ ..)))))) ⋯ ⋯ rfl ⟨bH (KJ ..),?_⟩)⟩));refine ax.mk (fK (aO v 5 ⟨Mx rfl,⟨bp (KP _ (KP _ (KP _ (KP _ (KJ ..))))),ax.mk (aE (x:=.int (e9:Nat)) (.own (KP _ (KP _ (KP _ (KP _ (KJ ..)))))) ⋯ ⋯ rfl (ax.mk (FC.frz (rU (W:=[l]) (e9:=e9) (M.mono ⋯) (by show 1<=10^3;decide) P λD=>?_))))⟩⟩));refine .mk D _ _ rfl rfl (ax.mk (Cz (a:=F) (W:=aL e9 f6 a_) (ys:=[cS e9 l]) (zs:=aL e9 f6 (a_++[l])) .frz ?_ (Ho ..).symm (.here) ?_))
   ·rw[aL,KR];exact Mc (OH (gZ p.p3 (Mc Q ⋯))) (by show 104<=2^20;decide)
   ·exact aK (U ⟨e9,n,f6,a_++[l],b9,Wv⟩ _ _ _ .fresh (.inr ⟨l,E,rfl,rfl⟩))
  refine aw (ir (T.sub (ae v 60 ?_)) @_)
  ·refine ax.mk (rZ ⋯ ⋯ rfl (ax.mk (dA ⋯ rfl (gQ (λq=>?_) λq=>?_))))
   ·refine ax.mk (dA ⋯ hx (ax.mk (dS (x:=.none) ⋯ ⋯ rfl ⟨.ln l,?_,?_⟩)))
    ·rw[J.1 q];exact Wk.nul
    ·exact aW rfl rest
   ·refine ax.mk (dA ⋯ hx (ax.mk (dS (x:=.str ik) ⋯ ⋯ rfl ⟨.ln l,?_,?_⟩)))
    ·rw[J.2 q];exact Wk.ln _
    ·exact aW rfl rest
theorem aGY{x y:Int}{K:dr->St->Prop}(V:pc w N es as t)(hl:es.length<=90)(Xq:es≠[])(ok:∀e∈es,gr 89 e)(hx:x.fmod 4=3)
  (k:∀i (hi:i<es.length) c e' o m,pc w N (es.set i e') as c->(e'=es[i]\/∃l,(l=tx ip\/l=Wu Wv)/\e'={ es[i] with come:=es[i].come++[l]}/\es[i].st=Wv)->K .next ⟨db f7 (.ref H) .any (.int x) (.int y) .any .any .any .any .any .any o m,(H,.list (as.map .ref))::(c++l0)++gl⟩):T w (A.deeper (aB w L)) (af w) (aB w L) fv (execs wK (aB w L)) ⟨db f7 (.ref H) .any (.int x) (.int y),(H,.list (as.map .ref))::(t++l0)++gl⟩ K:=by
 have v:=gX M;have Yq:=V.len;refine ag (lr y (b:=es.length) (SS.mpr Xq)) λi hi u=>?_;have hz:as[i]?=Wu as[i]:=LF ⋯;have hy:y.fmod ((es.length:Nat):Int)=((i:Nat):Int):=hi;refine ba v 40 (ax.mk (rX (n:=es.length) (.own (KJ ..)) (by rw[KR];exact Yq) ⋯ (ax.mk (dA ⋯ hy ⟨bp (KJ ..),ax.mk (aE (x:=.ref as[i]) (.own (KJ ..)) ⋯ ⋯ (by rw[LX,Ma,hz];rfl) ?_)⟩))));refine bA (V.pickA (LF u) hz) λl R r hp hk=>?_;have pm:∀X Y:aa,X.Perm (Y++R)->((H,el.list (as.map .ref))::(X++l0)++gl).Perm (Y++((H,.list (as.map .ref))::(R++l0)++gl)):=λX Y h=>by
  refine(NN _ (OT gl (OT l0 h))).trans ?_;simp only[LH,Lg];exact MT.symm
 have p:=ok _ (Pc u);have d:∀e' j,pq w N e' as[i] j->∃c,pc w N (es.set i e') as c/\(j++((H,el.list (as.map .ref))::(R++l0)++gl)).Perm ((H,.list (as.map .ref))::(c++l0)++gl):=λe' j h=>by
  refine ag (hk e' j h) λc h1 h2=>?_;exact⟨c,h1,(pm c j h2.symm).symm⟩
 have k2:=λc e' o m=>k i u c e' o m;generalize es[i]=e at r p k2;generalize Yr:((H,el.list (as.map .ref))::(R++l0)++gl)=XX at d;have Z:((H,el.list (as.map .ref))::(t++l0)++gl).Perm (l++XX):=Yr▸pm t l hp;generalize as[i]=one at r d;refine sU (di:=⟨db f7 (.ref H) .any (.int x) (.int y) .any .any .any .any .any .any (.ref one),(H,.list (as.map .ref))::(t++l0)++gl⟩) rfl rfl (T.perm Z ?_);have U:∀e' j o m,pq w N e' one j->(e'=e\/∃l,(l=tx ip\/l=Wu Wv)/\e'={ e with come:=e.come++[l]}/\e.st=Wv)->T w (A.deeper (aB w L)) (af w) (aB w L) fv (execs [] (aB w L)) ⟨db f7 (.ref H) .any (.int x) (.int y) .any .any .any .any .any .any o m,j++XX⟩ K:=λe' j o m h he=>by
  refine ag (d e' j h) λc h1 h2=>?_;exact T.perm h2 (aK (k2 c e' o m h1 he))
 cases r with
 | @pulled e9 n f6 a_ b9 D _ f9 g gs d5 h =>
  refine aw (bV (lF (ae v 20 ⟨bp (KJ ..),ax.mk (aE (x:=.lst (D.map (bl e9))) (.own (KJ ..)) ⋯ ⋯ rfl (jB (lJ rfl (gK ?_))))⟩) @_));exact cE (b:=Wx) rfl (aK (U _ _ _ _ (.pulled h) (.inl rfl)))
 | @fresh e9 n f6 a_ b9 _ f9 F S G C c g =>
  refine aw (bV (lF (ae v 20 ⟨bp (KP _ (KP _ (KP _ (KP _ (KJ ..))))),ax.mk (aE (x:=.none) (.own (KP _ (KP _ (KP _ (KP _ (KJ ..)))))) ⋯ ⋯ rfl (jB (lJ rfl (gK ?_))))⟩) @_));refine cE (b:=Ww) rfl ?_;have Q:b9.length<=89:=p.lc;obtain⟨l,E,J⟩:∃l:Ln,(l=tx ip\/l=Wu Wv)/\(((x.fdiv 256).fmod 8=7->l=Wu Wv)/\(¬ (x.fdiv 256).fmod 8=7->l=tx ip)):=by
   by_cases q:(x.fdiv 256).fmod 8=7
   ·exact⟨Wu Wv,.inr rfl,λO=>rfl,λz=>absurd q z⟩
   ·exact⟨tx ip,.inl rfl,λz=>absurd z q,λO=>rfl⟩
  have P:∀s,tx s∈[l]->cM s/\s.length<2^20:=λs V=>by
   have e:=Lm.mp V;rcases E with q |q
   ·rw[q] at e;cases e;exact⟨(cq _ rfl).1,by decide⟩
   ·rw[q] at e;cases e
  have rest:T w (A.deeper (aB w L)) (af w) (aB w L) fv (execs ((jv (wK.getD 1 default)).drop 1) (aB w L)) ⟨db f7 (.ref H) .any (.int x) (.int y) .any .any .any .any .any .any (.ref one) (.ln l),[(F,.list (aL e9 f6 a_)),(S,.list (aL e9 f6 b9)),(G,.list (a_.map .ln)),(C,.list (b9.map .ln)),(one,.list [.ref f9,.ref F,.ref S,.ref G,.ref C,.none,.int (f6:Nat),.int (n:Nat),.int (e9:Nat)]),(f9,.gen g (dO w e9 c)),(c,.ns (cC e9 n (.ref F) (.ref S)))]++XX⟩ (lW w (A.deeper (aB w L)) (af w) (aB w L) [] K):=by
   refine ba v 60 (ax.mk (dA ⋯ hx ⟨bp (KP _ (KP _ (KP _ (KP _ (KJ ..))))),ax.mk (aE (x:=.ref C) (.own (KP _ (KP _ (KP _ (KP _ (KJ ..)))))) ⋯ ⋯ rfl ⟨bH (KP _ (KP _ (KP _ (KJ ..)))),ax.mk (lH (a:=C) (W:=b9.map .ln) (ys:=(b9++[l]).map .ln) (nU (f:=AV.ln)) ((.there (.there (.there .here)))) (by rw[KR];exact Mc Q ⋯) ?_)⟩)⟩));refine ba v 60 (ax.mk (dA ⋯ hx ⟨bp (KP _ (KP _ (KP _ (KP _ (KJ ..))))),ax.mk (aE (x:=.ref S) (.own (KP _ (KP _ (KP _ (KP _ (KJ ..)))))) ⋯ ⋯ rfl ⟨bH (KP _ (KJ ..)),?_⟩)⟩));refine ax.mk (fK (aO v 5 ⟨Mx rfl,⟨bp (KP _ (KP _ (KP _ (KP _ (KJ ..))))),ax.mk (aE (x:=.int (e9:Nat)) (.own (KP _ (KP _ (KP _ (KP _ (KJ ..)))))) ⋯ ⋯ rfl (ax.mk (FC.frz (rU (W:=[l]) (e9:=e9) (M.mono ⋯) (by show 1<=10^3;decide) P λD=>?_))))⟩⟩));refine .mk D _ _ rfl rfl (ax.mk (Cz (a:=S) (W:=aL e9 f6 b9) (ys:=[cS e9 l]) (zs:=aL e9 f6 (b9++[l])) .frz ?_ (Ho ..).symm ((.there .here)) ?_))
   ·rw[aL,KR];exact Mc (OH (gZ p.p3 (Mc Q ⋯))) (by show 104<=2^20;decide)
   ·exact aK (U ⟨e9,n,f6,a_,b9++[l],Wv⟩ _ _ _ .fresh (.inr ⟨l,E,rfl,rfl⟩))
  refine aw (ir (T.sub (ae v 60 ?_)) @_)
  ·refine ax.mk (rZ ⋯ ⋯ rfl (ax.mk (dA ⋯ rfl (gQ (λq=>?_) λq=>?_))))
   ·refine ax.mk (dA ⋯ hx (ax.mk (dS (x:=.int 7) ⋯ ⋯ rfl ⟨.ln l,?_,?_⟩)))
    ·rw[J.1 q];exact Wk.sev
    ·exact aW rfl rest
   ·refine ax.mk (dA ⋯ hx (ax.mk (dS (x:=.str ip) ⋯ ⋯ rfl ⟨.ln l,?_,?_⟩)))
    ·rw[J.2 q];exact Wk.ln _
    ·exact aW rfl rest
abbrev aHO:List Stmt:=jv ((jv ((aI (aq 18)).getD 1 default)).getD 1 default)
omit hT hE U hN in
theorem aG1{x y:Int}{K:dr->St->Prop}(i:pc w N es as m)(t:es.length<=90)
  (k:∀a l e (V n cm f s r:AV),pc w N (es++[e]) (as++[a]) l->gr 0 e->K .next ⟨db f7 (.ref H) .any (.int x) (.int y) V n cm f s r,(H,.list ((as++[a]).map .ref))::(l++l0)++gl⟩):T w (A.deeper (aB w L)) (af w) (aB w L) fv (execs aHO (aB w L)) ⟨db f7 (.ref H) .any (.int x) (.int y),(H,el.list (as.map .ref))::(m++l0)++gl⟩ K:=by
 have d:=gX M;have E:=i.len;refine ag (lr y (b:=4) ⋯) λe9 h1 z=>?_;refine ag (lr (y.fdiv 4) (b:=4) ⋯) λn h2 Z=>?_;refine ag (lr (y.fdiv 16) (b:=4) ⋯) λp h3 Y=>?_;refine ba d 60 (ax.mk (dA ⋯ h1 (ax.mk (rZ ⋯ ⋯ rfl (ax.mk (dA ⋯ h2 (ax.mk (rZ ⋯ ⋯ rfl (ax.mk (dA ⋯ h3 ?_))))))))));refine T.st (di:=⟨db f7 (.ref H) .any (.int x) (.int y) (.int (e9:Nat)) (.int (n:Nat)) (.int (p:Nat)),(H,el.list (as.map .ref))::(m++l0)++gl⟩) rfl ?_;refine ba d 60 (ax.mk (m7 (wW (k:=5) (N:=[]) (cl:=[]) (J:=λa6=>∃v,a6=[(q1,v)]) [q1] (M.mono ⋯) (On ⋯) @_ @_ @_ @_ (λO=>@_) ⟨_,rfl⟩ (ae d 20 (ax.mk (Cs (BC (g:=λk=>Wu (.ln (tx (sT (0+k))))) (oQ AV.ln (λk=>tx (sT (0+k))) _) ⋯ dh (λL2 k hk=>?_) λD hD => .mk D _ _ rfl rfl ?_)))))))
 ·exact jN λv a8 X=>bQ (aW rfl (rN (T.sub (ae ((dY @_ @_ @_ @_ M.h).g (fV w) @_ @_) 40 (ax.mk (iw (gY (n:=k) ⋯) ⟨.ln (tx (sT k)),Wk.ln _,by rw[OJ],rfl,_,rfl⟩))))))
 have U:∀s,tx s∈bg 0 p->cM s/\s.length<2^20:=λs i=>⟨(rF (a:=0) (n:=p) ⋯ _ i s rfl).1,Ox (rF (a:=0) (n:=p) ⋯ _ i s rfl).2 ⋯⟩;refine ax.mk (rU (W:=bg 0 p) (e9:=e9) (M.mono ⋯) (by rw[gC];omega) U λF=>?_);have e0:(bg 0 p).map (cS e9)=aL e9 p []:=by rw[aL,bB,Ms]
 rw[e0];have u:(aL e9 p []).length<=LY:=by rw[aL,KR];exact Mc (gZ (g:=[]) ⋯ ⋯) ⋯
 refine ba d 60 (ax.mk (aJw (.own (KJ ..)) u λS hS=>?_));refine aw (l7 (λP=>∀(f9 o:LP) (g:Nat),P ⟨db f7 (.ref H) .any (.int x) (.int y) (.int (e9:Nat)) (.int (n:Nat)) (.int (p:Nat)) (.ref F) (.ref S) (.ref f9),(f9,.gen g (dO w e9 o))::(o,.ns (cC e9 n (.ref F) (.ref S)))::(S,.list (aL e9 p []))::(F,.list (aL e9 p []))::((H,.list (as.map .ref))::(m++l0)++gl)⟩) ?_ ?_)
 ·refine bV (aV d 20 ?_);refine nZ (λc=>?_) λc=>?_
  ·have c:e9<2:=OR.mp (of_decide_eq_true c);exact aw (ir (JH rfl rfl (ae d 20 (ax.mk (dS (x:=.ref (gh e9)) (OG _) (Tv (OR.mpr c) ⋯) (by have:=Dj 0 (by omega:e9=0\/e9=0+1) rfl;rwa [Int.natCast_zero,Int.sub_zero] at this) ⟨aEE e9,aO d 20 (ae d 5 (ae d 5 (aJv c M.lt λQ a g=>aW rfl (aK (m3 (λO y=>y a Q g) @_)))))⟩)))) @_)
  ·have c : ¬ e9<2:=λq=>of_decide_eq_false c (OR.mpr q);exact aw (ir (JH rfl rfl (ae d 20 ⟨bw @_,aO d 20 (ax.mk (dS (x:=.ref (gh e9)) ⋯ ⋯ (Dj 2 ⋯ rfl) (ae d 5 (aIM (aJz c M.lt λQ a g=>aW rfl (aK (m3 (λO y=>y a Q g) @_)))))))⟩)) @_)
 intro f9 o g;refine ba d 60 ⟨bH (by repeat constructor),?_⟩;refine ax.mk (oD ?_);refine aO d 60 ?_;refine ax.mk (cH rfl λG j8=>?_);refine ax.mk (cH rfl λC Yu=>?_);refine⟨Mx rfl,λone R=>?_⟩;refine ax.mk (lH (a:=H) (W:=as.map .ref) (ys:=(as++[one]).map .ref) (nU (f:=AV.ref)) (.there (.there (.there (.there (.there (.there (.there .here))))))) (by rw[KR,E];exact Mc t ⋯) ?_);have j:pq w N ⟨e9,n,p,[],[],Wv⟩ one [(F,.list (aL e9 p [])),(S,.list (aL e9 p [])),(G,.list []),(C,.list []),(one,.list [.ref f9,.ref F,.ref S,.ref G,.ref C,.none,.int (p:Nat),.int (n:Nat),.int (e9:Nat)]),(f9,.gen g (dO w e9 o)),(o,.ns (cC e9 n (.ref F) (.ref S)))]:=.fresh;refine T.perm (aBC _ _ _ _ _ _ _ _ m l0 gl) (aK (k one _ _ _ _ _ _ _ _ (i.app j) ⟨z,by show n<=3;omega,by show p<=3;omega,LK _,LK _,λO h=>gw h,λO h=>gw h,λO h=>nomatch h⟩))
end
end
section
open PySem PySem.W PyProof.Rows
def gr.gone{m:Nat}{e:si}{l:Ln}(h:gr m e)(d:l=tx ik\/l=Wv):gr (m+1) {e with gone:=e.gone++[l]}:=⟨h.k4,h.n3,h.p3,by show (e.gone++[l]).length<=m+1;rw[Lb];exact OH h.lg,ON h.lc,λx a=>(Md.mp a).elim (h.og x) λq=>Lm.mp q▸d,h.oc,h.cut⟩
def gr.come{m:Nat}{e:si}{l:Ln}(h:gr m e)(d:l=tx ip\/l=Wu Wv):gr (m+1) {e with come:=e.come++[l]}:=⟨h.k4,h.n3,h.p3,ON h.lg,by show (e.come++[l]).length<=m+1;rw[Lb];exact OH h.lc,h.og,λx a=>(Md.mp a).elim (h.oc x) λq=>Lm.mp q▸d,h.cut⟩
def jO{m:Nat}{es:List si}{e:si}(h:∀e∈es,gr m e)(d:gr m e):∀x∈es.set i e,gr m x:=λx a=>(List.mem_or_eq_of_mem_set a).elim (h x) λq=>q▸d
def ym{e:si}(h:es≠[]):es.set i e≠[]:=λq=>h (by have:=congrArg NY q;rw[Rj] at this;exact OS.mp this)
abbrev sN(i:Nat):Stmt:=(aI (aq 18)).getD i default
section
variable{N:aa}{f7:List Int}{C L:LP}{l0:aa}(D:dt (A.deeper (aB w L)) 340)(c:(A.deeper (aB w L)).frames=Wu [aB w L])(H:kn N l0)(F:fi∈N)(M:(286,dB de)∈N)
include D c H F M
theorem aEt(t:f7.length<=63):T w (A.deeper (aB w L)) (af w) (aB w L) fv (exec (sN 1) (aB w L)) ⟨eS f7 (.ref C),(C,.list [])::l0⟩ (Nx (Ci w N f7 C l0)):=by
 have P:=gX D;refine jz (k:=5) (λi:Int=>AV.int i) (JZ w N f7 C l0) (D.mono ⋯) (ae P 20 ?_) ?_ ?_ λO=>@_
 ·refine ax.mk (fK (aO P 20 ⟨Mx rfl,ax.mk (lK .frz .frz (by rw[KR];exact Mc (OE t 4) ⋯) ?_)⟩));exact fc λit gl hI => .mk hI (.mk (gs:=[144,2,3,100]++f7) (λO y=>y [] [] [] 0 .nil (λO h=>gw h) (by rw[Lb];show 0+(4+_)<=90;omega) (by rw[Lb];show 0+(4+_)<=90;omega) (.inr rfl)) @_)
 ·intro gl x W V as Ls m Y v hm Z Q;rw[La] at hm Z;refine bQ (aW rfl ?_);refine ba P 20 (ax.mk (rZ ⋯ ⋯ rfl ?_));obtain⟨r,J,f5⟩:=lr x (b:=4) ⋯;have J:x.fmod 4=(r:Int):=J;have g:∀e∈V,gr 90 e:=λe p=>(v e p).le ⋯;refine aw (bV (T.to (x.fmod 4==0) (aV P 20 (ax.mk (dA ⋯ rfl ⟨rfl,rfl⟩))) ?_));have E:∀j u K U (xv y kd n cm f s rp o X:AV),pc w N j u K->(∀e∈j,gr U e)->U+W.length<=90->j.length+W.length<=90->j≠[]->tb (Lo (λi:Int=>AV.int i) (JZ w N f7 C l0)) (Nx (Ci w N f7 C l0)) (W.map λi:Int=>AV.int i) gl .next ⟨db f7 (.ref C) .any xv y kd n cm f s rp o X,(C,.list (u.map .ref))::(K++l0)++gl⟩:=λj u K U xv y kd n cm f s rp o X h1 h2 h3 h4 h5 =>
   .next (l:=(C,.list (u.map .ref))::(K++l0)) (.mk (gs:=W) (λO y=>y j u K U h1 h2 h3 h4 (.inl h5)) @_)
  by_cases r0:r=0
  ·refine cE (b:=Ww) (by rw[J,r0];rfl) (aG1 D Y ⋯ λa l5 e kd n cm f s rp h1 h2=>?_);exact aK (E _ _ _ m _ _ _ _ _ _ _ _ _ _ h1 (λx hx=>(Md.mp hx).elim (v x) λq=>Lm.mp q▸h2.le (Lq _)) ⋯ (by rw[Lb];show V.length+1+_<=90;omega) (by simp))
  ·have d:V≠[]:=Q.resolve_right λq=>by
    obtain rfl:x=144:=No q
    have:(144:Int).fmod 4=0:=by decide
    omega
   refine cE (b:=Wx) (by rw[J];exact beq_eq_false_iff_ne.mpr ⋯) ?_;refine aw (bV (T.to (x.fmod 4==1) (aV P 20 (ax.mk (dA ⋯ rfl ⟨rfl,rfl⟩))) ?_));by_cases r1:r=1
   ·refine cE (b:=Ww) (by rw[J,r1];rfl) (aG0 D c H F M Y g ⋯ d λi R K S=>?_);exact aK (aK (E _ _ _ m _ _ _ _ _ _ _ _ _ _ S (jO v ((v _ (Pc R)).step ⋯)) ⋯ (by rw[Rj];omega) (ym d)))
   ·refine cE (b:=Wx) (by rw[J];exact beq_eq_false_iff_ne.mpr ⋯) ?_;have G:∀e∈V,gr 89 e:=λe p=>(v e p).le ⋯;have z:∀e∈V,gr (m+1) e:=λe p=>(v e p).le (Pp m);by_cases r2:r=2
    ·refine aGZ D c H F M Y ⋯ d G (by rw[J,r2];rfl) λi R K e' o X S p=>?_;refine aK (aK (E _ _ _ (m+1) _ _ _ _ _ _ _ _ _ _ S (jO z ?_) ⋯ (by rw[Rj];omega) (ym d)));rcases p with e |⟨l,Z,e,-⟩
     ·rw[e];exact z _ (Pc R)
     ·rw[e];exact(v _ (Pc R)).gone Z
    ·refine aGY D c H F M Y ⋯ d G (by rw[J,show r=3 by omega];rfl) λi R K e' o X S p=>?_;refine aK (aK (E _ _ _ (m+1) _ _ _ _ _ _ _ _ _ _ S (jO z ?_) ⋯ (by rw[Rj];omega) (ym d)));rcases p with e |⟨l,Z,e,-⟩
     ·rw[e];exact z _ (Pc R)
     ·rw[e];exact(v _ (Pc R)).come Z
 ·intro V as Ls m Y v hm Z Q;exact m3 (λO y=>y V as Ls Y (λe p=>(v e p).le ⋯) ⋯ (Q.resolve_right λq=>nomatch q)) @_
end
end
section
open PySem PySem.W PyProof.Rows
def mu(es:List si):Nat:=(es.map λe=>e.rows.length).sum
def GX:∀ {i:Nat} {e e':si},es[i]?=Wu e->mu (es.set i e')+e.rows.length=mu es+e'.rows.length:=by
 induction es with
 |nil=>exact λh=>nomatch h
 |cons x es a =>
  intro i e e' h;cases i with
  |zero =>
   cases h
   show e'.rows.length+mu es+x.rows.length=x.rows.length+mu es+e'.rows.length;omega
  |succ i =>
   have:=a (e':=e') h;show x.rows.length+mu (es.set i e')+_=x.rows.length+mu es+_;omega
def yc(e:si):e.step.rows=e.rows.tail:=rfl
def IF{rest:List LP}(e:rest.length+1<=as.length)(d:as.drop (as.length-(rest.length+1))=a::rest):∃i:Nat,as[i]?=Wu a/\as.drop (as.length-rest.length)=rest:=by
 refine⟨as.length-(rest.length+1),?_,?_⟩
 ·have:=congrArg (λl:List LP=>l[0]?) d;simpa[RG] using this
 ·rw[show as.length-rest.length=as.length-(rest.length+1)+1 by omega,<-Ue,d];rfl
def aBc(n:∀e∈es,gr 90 e)(j:i<es.length):∃d o D,(es.set i es[i].step).set i es[i].step.step=d/\d[i]?=Wu o/\(∀e∈d,gr 90 e)/\o.st=Wu D/\mu d<=mu es/\(D.length≠0->mu d<mu es):=by
 have k:=n _ (Pc j);have u:es[i].step.rows.length=es[i].rows.length-1:=by rw[yc,Sc]
 have s:es[i].step.step.rows.length=es[i].rows.length-1-1:=by rw[yc,yc,Sc,Sc]
 have r:=GX (e':=es[i].step) (LF j);have p:=GX (e':=es[i].step.step) (Sj (l:=es) (a:=es[i].step) j);refine⟨_,_,_,rfl,Sj (by rw[Rj];exact j),jO (jO n (k.step ⋯)) ((k.step ⋯).step ⋯),rfl,by omega,λz=>?_⟩;have z:es[i].step.step.rows.length≠0:=z;omega
def pq.at5{e:si}{one:LP}{l:aa}(h:pq w N e one l)(a:e.st=Wu D):∃W e9,(one,el.list W)∈l/\W[(5:Int).toNat]?=Wu (.lst (D.map (bl e9))):=by
 cases h with
 |fresh=>cases a
 |pulled=>cases a;exact⟨_,_,.head _,rfl⟩
section
variable{N:aa}{f7:List Int}{L:LP}{l0:aa}(F:dt (A.deeper (aB w L)) 340)(C:(A.deeper (aB w L)).frames=Wu [aB w L])(M:kn N l0)(H:fi∈N)(S:(286,dB de)∈N)
def Ka(w:Lz)(N:aa)(f7:List Int)(l0:aa)(as:List LP)(d:Nat)(rest:List LP)(P:St->Prop):Prop:=∀(a:List si) (j:aa) (i:Bool),pc w N a as j->(∀e∈a,gr 90 e)->rest.length<=as.length->as.drop (as.length-rest.length)=rest->mu a<=d->(i=Ww->mu a<d)->P ⟨eS f7 (.lst (as.map .ref)) (.bool i),j++l0⟩
def Ck(w:Lz)(N:aa)(f7:List Int)(l0:aa)(as:List LP)(j:Nat)(P:St->Prop):Prop:=∀(a:List si) (i:aa) (d:Bool),pc w N a as i->(∀e∈a,gr 90 e)->(d=Ww->mu a<j)->P ⟨eS f7 (.lst (as.map .ref)) (.bool d),i++l0⟩
include F C M H S
theorem Cr(o:pc w N es as b)(n:∀e∈es,gr 90 e)(l:i<es.length)(s:as[i]?=Wu a)
  (k:∀d,pc w N (es.set i es[i].step) as d->K (.bool Ww) ⟨a6,(d++l0)++gl⟩):FC w (A.deeper (aB w L)) (af w) (aB w L) (.ref 320) [.ref a] [] ⟨a6,(b++l0)++gl⟩ K:=by
 have j:(aB w L).scope.kind ≠ .module:=by
  rw[show (aB w L).scope.kind=.function from @_];decide
 rw[LH];exact Km (g4:=[]) (F.mono ⋯) C rfl j (λO h=>nomatch h) (λp r=>Mn _ (M p r)) H S o (LF l) s (n _ (Pc l)) λd u=>LH d l0 gl▸k d u
theorem aAO{r:Nat}(s:pc w N es as b)(j:∀e∈es,gr 90 e)(u:mu es=r):T w (A.deeper (aB w L)) (af w) (aB w L) fv (exec ((jv (sN 3)).getD 1 default) (aB w L)) ⟨eS f7 (.lst (as.map .ref)) (.bool Wx),b++l0⟩ (Nx (Ck w N f7 l0 as r)):=by
 have Z:=gX F;refine jz (k:=5) (λa:LP=>AV.ref a) (Ka w N f7 l0 as r) (F.mono ⋯) (ae Z 20 (fc λit gl hI => .mk hI (.mk (gs:=as) (λO y=>y es b Wx s j (LK _) (by rw[Tr];rfl) (Oz u) (λq=>nomatch q)) @_))) ?_ ?_ λO=>@_
 ·intro gl a rest es b V s j v t o p;refine ag (IF v t) λi Y E=>?_;have d:i<es.length:=s.len▸(NM.mp Y).1;have n:i<(es.set i es[i].step).length:=by rw[Rj];exact d
  refine bQ (aW rfl ?_);refine aw (bV (aV Z 40 (ax.mk (Cr F C M H S s j d Y λL1 h1=>?_))));refine ax.mk (Cr F C M H S h1 (jO j ((j _ (Pc d)).step ⋯)) n Y λK f=>?_);rw[List.getElem_set_self n] at f;refine jH (aBc j d) λJ e2 D e m g hD P U=>?_;rw[e] at f;refine bA (f.pickA m Y) λl R hl hp O=>?_;refine bG (hl.at5 hD) λW e9 u X=>?_;have u:(a,el.list W)∈K++l0++gl:=Mn _ (Mn _ (hp.mem_iff.mpr (Mn _ u)));have G:∀Q,(Q=Ww->mu J<r)->tb (Lo (λa=>AV.ref a) (Ka w N f7 l0 as r)) (Nx (Ck w N f7 l0 as r)) (rest.map λa=>AV.ref a) gl .next ⟨db f7 (.lst (as.map .ref)) (.bool Q) .any .any .any .any .any .any .any .any (.ref a),K++l0++gl⟩:=λQ h =>
   .next (l:=K++l0) (.mk (gs:=rest) (λO y=>y J K Q f g (Wn v) E (Mc P o) h) @_)
  refine aK (aw (T.st (di:=⟨db f7 (.lst (as.map .ref)) (.bool V) .any .any .any .any .any .any .any .any (.ref a),K++l0++gl⟩) rfl ?_));refine bV (aV Z 40 ⟨bp u,ax.mk (aE (x:=.lst (D.map (bl e9))) (.own u) ⋯ ⋯ X (ax.mk (m7 (cH rfl λn2 g8=>⟨_,_,_,rfl,rfl,ax.mk (lI (F.mono ⋯) .frz .frz ?_)⟩))))⟩);refine nZ (λc=>bE Z 20 (aK (G Ww λO=>OA (U λz=>?_) o))) λc=>aK (aK (G V λq=>Ox P (p q)));rw[OS.mp z] at c;exact LZ c
 ·intro es b V s j _ _ o p;exact m3 (λO y=>y es b V s j p) @_
omit F C M H S in
theorem aAw{J:Nat->St->Prop}{K:dr->St->Prop}{m:Nat}(h:m<n)(k:J m V):xU J K n .next V:=⟨m,h,k⟩
def aI7(w:Lz)(N:aa)(f7:List Int)(l0:aa)(as:List LP)(n:Nat)(P:St->Prop):Prop:=∀(a:List si) (i:aa) (d:Bool),pc w N a as i->(∀e∈a,gr 90 e)->n=(if d=Ww then mu a+1 else 0)->P ⟨eS f7 (.lst (as.map .ref)) (.bool d),i++l0⟩
def xb(w:Lz)(N:aa)(f7:List Int)(l0:aa)(as:List LP)(P:St->Prop):Prop:=∀(a:List si) (d:aa),pc w N a as d->(∀e∈a,gr 90 e)->P ⟨eS f7 (.lst (as.map .ref)),d++l0⟩
theorem aEn(j:pc w N es as b)(i:∀e∈es,gr 90 e):T w (A.deeper (aB w L)) (af w) (aB w L) fv (exec (sN 3) (aB w L)) ⟨eS f7 (.lst (as.map .ref)) (.bool Ww),b++l0⟩ (Nx (xb w N f7 l0 as)):=by
 have p:=gX F;refine oA (aI7 w N f7 l0 as) (λn es b s j i u=>?_) (n:=mu es+1) (.mk (λO y=>y es b Ww j i rfl) @_);cases s with
 |false=>exact aV p 10 (m3 (λO y=>y es b j i) @_)
 |true =>
  refine aV p 10 ?_;refine ba p 10 ?_;refine aw (l7 (Ck w N f7 l0 as (mu es)) (aAO F C M H S j i rfl) λd r a l k o=>aK (aAw (m:=if a=Ww then mu d+1 else 0) ?_ (.mk (λO y=>y d r a l k rfl) @_)));rw[u,if_pos rfl];cases a with
  |false=>exact Pf _
  |true=>exact TM (o rfl)
end
end
section
open PySem PySem.W PyProof.Rows
def pq.at6{e:si}{one:LP}{l:aa}(h:pq w N e one l):∃W,(one,el.list W)∈l/\W[(6:Int).toNat]?=Wu (.int (e.common:Nat)):=by
 cases h with
 |fresh=>exact⟨_,.tail _ (.tail _ (.tail _ (.tail _ (.head _)))),rfl⟩
 |pulled=>exact⟨_,.head _,rfl⟩
def GI(e9 p:Nat)(g:List Ln):∀x∈aL e9 p g,se x:=λx d=>by
 refine ag (LG.mp d) λl O a=>?_;subst a;rcases l with _ |_ |s
 ·exact Bv _
 ·exact Bv _
 ·show se (if 1<e9 then .bytes (bx s) else .ln (tx s));split
  ·exact aGA.same _
  ·exact Bv _
section
variable{N:aa}{f7:List Int}{L:LP}{l0:aa}(c:dt (A.deeper (aB w L)) 340)(q:(A.deeper (aB w L)).frames=Wu [aB w L])(F:kn N l0)(C:fi∈N)(H:(286,dB de)∈N)
def aI8(w:Lz)(N:aa)(f7:List Int)(l0:aa)(as:List LP)(rest:List LP)(P:St->Prop):Prop:=∀(a:List si) (c:aa),pc w N a as c->(∀e∈a,gr 90 e)->rest.length<=as.length->as.drop (as.length-rest.length)=rest->P ⟨eS f7 (.lst (as.map .ref)),c++l0⟩
include c q F C H
theorem aEv(o:pc w N es as b)(z:∀e∈es,gr 90 e):T w (A.deeper (aB w L)) (af w) (aB w L) fv (exec (sN 4) (aB w L)) ⟨eS f7 (.lst (as.map .ref)),b++l0⟩ (Nx (xb w N f7 l0 as)):=by
 have m:=gX c;refine jz (k:=5) (λa:LP=>AV.ref a) (aI8 w N f7 l0 as) (c.mono ⋯) (ae m 20 (fc λit gl hI => .mk hI (.mk (gs:=as) (λO y=>y es b o z (LK _) (by rw[Tr];rfl)) @_))) ?_ ?_ λO=>@_
 ·intro gl a rest es b o z K S;refine ag (IF K S) λi f V=>?_;have r:i<es.length:=o.len▸(NM.mp f).1;have u:=z _ (Pc r);have E:=u.p3;refine bA (o.pickA (LF r) f) λl R P hp O=>?_;refine ag P.at6 λW p t=>?_;have p:(a,el.list W)∈b++l0++gl:=Mn _ (Mn _ (hp.mem_iff.mpr (Mn _ p)));refine bQ (aW rfl ?_);refine aw (BQ (BS (k:=5) (N:=[]) (cl:=[]) (J:=λa6=>∃v,a6=[(q1,v)]) [q1] @_ (c.mono ⋯) (On ⋯) @_ @_ @_ @_ (λO=>@_) ⟨_,rfl⟩ (ae m 20 ⟨bp p,ax.mk (aE (x:=.int (es[i].common:Nat)) (.own p) ⋯ ⋯ t (ax.mk (Cs (BC (g:=λk=>Wu (.ln (tx (sT (0+k))))) (oQ AV.ln (λk=>tx (sT (0+k))) _) ⋯ dh (λL2 k hk=>?_) λD hD=>aW rfl ?_))))⟩)))
  ·exact jN λv a8 Xl=>bQ (aW rfl (rN (T.sub (ae ((dY @_ @_ @_ @_ c.h).g (fV w) @_ @_) 40 (ax.mk (iw (gY (n:=k) ⋯) ⟨.ln (tx (sT k)),Wk.ln _,by rw[OJ],rfl,_,rfl⟩))))))
  refine⟨rfl,D,_,_,[(EQ,.lst (f7.map .int)),(EP,.lst (as.map .ref)),(zm,.any),(EO,.any),(EU,.any),(jT,.any),(Fp,.any),(tD,.any),(EN,.any),(yT,.any),(yR,.ref a),(pe,.any),(EM,.any),(tK,.lst ((bg 0 es[i].common).map .ln))],_,rfl,by repeat constructor,?_⟩;refine aw (bV (aV m 60 (ax.mk (Cr c q F C H o z r f λL1 U=>?_))));have G:=jO (i:=i) z (u.step ⋯);refine bA (U.pickA (Sj (l:=es) (a:=es[i].step) r) f) λl2 R2 Q M O=>?_;obtain⟨D2,Y⟩:∃D,es[i].step.st=Wu D:=⟨_,rfl⟩;have hc:es[i].common=es[i].step.common:=rfl;have d:=u.step ⋯;rw[hc];rw[hc] at E;generalize es.set i es[i].step=X at U G;generalize es[i].step=e1 at Q Y d E;cases Q with
  |fresh=>exact absurd Y (by simp)
  | @pulled e9 n f6 a_ b9 D3 _ f9 g gs d5 h =>
   have j:(a,el.list (dw f9 (.lst (aL e9 f6 a_)) (.lst (aL e9 f6 b9)) a_ b9 (eA e9 (Wu D3)) f6 n e9))∈L1++l0++gl:=Mn _ (Mn _ (M.mem_iff.mpr (Mn _ (KJ ..))));have lg:a_.length<=90:=d.lg;have lc:b9.length<=90:=d.lc;have c3:f6<=3:=E;have sz:∀g:List Ln,g.length<=90->((bg 0 f6).map AV.ln).length+(g.map AV.ln).length<=LY:=λg Z=>by rw[KR,KR,gC];exact Mc (OM c3 Z) ⋯
   have ox:∀g:List Ln,(∀l∈g,po l)->∀s,tx s∈bg 0 f6++g->cM s/\s.length<2^20:=λg Z s o=>⟨(kU c3 Z _ o s rfl).1,Ox (kU c3 Z _ o s rfl).2 ⋯⟩;have og:=d.og.ln;have oc:=d.oc.ln;refine⟨bp j,ax.mk (aE (x:=.lst (aL e9 f6 a_)) (.own j) ⋯ ⋯ rfl ?_)⟩;refine⟨bp j,ax.mk (aE (x:=.lst (a_.map .ln)) (.own j) ⋯ ⋯ rfl (ax.mk (lK .frz .frz (sz a_ lg) ?_)))⟩;rw[<-LD];refine⟨bp j,ax.mk (aE (x:=.int (e9:Nat)) (.own j) ⋯ ⋯ rfl (ax.mk (FC.frz (rU (W:=bg 0 f6++a_) (e9:=e9) (c.mono ⋯) (by rw[Lb,gC];omega) (ox a_ og) λD4=>?_))))⟩;refine .mk D4 _ _ rfl rfl (ax.mk (Kv (GI e9 f6 a_) (c.mono ⋯) .frz .frz ?_));refine aK ?_;refine aw (bV (aV m 60 ⟨bp j,ax.mk (aE (x:=.lst (aL e9 f6 b9)) (.own j) ⋯ ⋯ rfl ?_)⟩));refine⟨bp j,ax.mk (aE (x:=.lst (b9.map .ln)) (.own j) ⋯ ⋯ rfl (ax.mk (lK .frz .frz (sz b9 lc) ?_)))⟩;rw[<-LD];refine⟨bp j,ax.mk (aE (x:=.int (e9:Nat)) (.own j) ⋯ ⋯ rfl (ax.mk (FC.frz (rU (W:=bg 0 f6++b9) (e9:=e9) (c.mono ⋯) (by rw[Lb,gC];omega) (ox b9 oc) λD5=>?_))))⟩;refine .mk D5 _ _ rfl rfl (ax.mk (Kv (GI e9 f6 b9) (c.mono ⋯) .frz .frz ?_));refine aK (aK ?_);exact .next (l:=L1++l0) (.mk (gs:=rest) (λO y=>y X L1 U G (Wn K) V) @_)
 ·intro es b o z _ _;exact m3 (λO y=>y es b o z) @_
end
end
section
open PySem PySem.W PyProof.Rows
abbrev eo:aa:=[fi,(286,dB de)]
def aEo{f7:List Int}(i:dt A 400)(s:A.frames=Wu [])(e:f7.length<=63):TC w A (af w) (.ref 325) [.lst (f7.map .int)] [] (eo++Y) λv a8=>v=.bool Ww/\kn eo a8:=by
 refine en (eS f7) (bq w) i.lt (λO=>@_) @_ @_ (aFV _) λL V=>?_;have o:dt (A.deeper (aB w L)) 340:=(i.deeper (k:=397) (z:=aB w L)).mono ⋯;have d:(A.deeper (aB w L)).frames=Wu [aB w L]:=Qn s;have n:kn eo (eo++Y):=λp r=>Mn _ r;have u:fi∈eo:=.head _;have y:(286,dB de)∈eo:=.tail _ (.head _);have x:=(((((((((((((gk w (A.deeper (aB w L)) (ak (jc w.params)) L 325 324 @_ @_ o.h).g (lm w) @_ @_).g (HZ w) @_ @_).g (wt w) @_ @_).g (rB w) @_ @_).g (HU w) @_ @_).g (Ib w) @_ @_).g (Ia w) @_ @_).g (HY w) @_ @_).f (f:=320) (bw @_)).f (f:=313) (bw @_)).m ⟨EC,1, "list.append"⟩ OQ iH OU).m ⟨EZ,1, "list.extend"⟩ OQ yk OY);refine ba x 20 (ax.mk (cH rfl λG Q=>?_));refine aw (l7 (Ci w eo f7 G (eo++Y)) (aEt o d n u y e) λE as J l j R K=>?_);refine m5 (a:=G) (W:=as.map .ref) (ft:=eS f7 (.lst (as.map .ref))) (by repeat constructor) ?_;refine ba x 10 ?_;refine aw (l7 (xb w eo f7 (eo++Y) as) (aEn o d n u y l j) λE J l j=>?_);refine aw (l7 (xb w eo f7 (eo++Y) as) (aEv o d n u y l j) λE J l j=>?_);exact bE x 10 ⟨rfl,λp r=>LJ _ (n p r)⟩
end
def aDV(ts:List LP)(K:Frag)(a:LP)(o:Obj):(K.filter λp => !ts.contains p.1).lookup a=Wu o->K.lookup a=Wu o/\ts.contains a=Wx:=by
 induction K with
 |nil=>exact nofun
 |cons p K j =>
  intro h;rw[Lu];by_cases d:ts.contains p.1=Ww
  ·rw[UD (by simpa using d)] at h;have r:=j h;have i:(a==p.1)=Wx:=beq_eq_false_iff_ne.mpr λe=>LZ (r.2.symm.trans (e▸d));exact i.symm▸r
  ·rw[UC (by simpa using d),Lu] at h;cases q:a==p.1 with
   |true =>
    rw[q] at h;exact⟨h,beq_iff_eq.mp q▸PQ.mpr d⟩
   |false =>
    rw[q] at h;exact j h
def aET{R:WRecords}{W:List WData}:VY R W .int=Ww->∃a:List Int,W=a.map .int:=by
 induction W with
 |nil=>exact λO=>⟨[],rfl⟩
 |cons x W d =>
  intro h;rw[VY,Mv] at h;exact al (hasW_int h.1) λi e=>al (d h.2) λa j=>⟨i::a,e▸j▸rfl⟩
def aBO{l:OpenLaw}(o:l.most=Wu 63)(p:l.bound=Wv)(h:l.row.toRowW.claim.pre args=Ww):∃f7:List Int,args=[.list (f7.map .int)]/\f7.length<=63:=by
 refine aD (pre_splitW h) λx j=>?_;refine bA (hasAllW_cons (e:=.list .int) (es:=[]) x) λd r E v u=>?_;subst E;obtain rfl:=hasAllW_nil u;refine ag (hasW_list v) λW k s=>?_;subst k;refine al (aET s) λi k=>?_;subst k;refine cL i rfl ?_;have j:WTm.holds l.row.toRowW.records l.pre {args:=[.list (i.map .int)]}=Ww:=j;unfold OpenLaw.pre at j;rw[o,p] at j;by_cases q:i.length<=63
 ·exact q
 ·exfalso
  have z:(WTm.len (.arg 0)).value l.row.toRowW.records {args:=[.list (i.map .int)]}=Wu (.int i.length):=by simp[WTm.value]
  have n:=w_lt (a:=.lit (.int (63:Nat))) (b:=.len (.arg 0)) (R:=l.row.toRowW.records) (e:={ args:=[.list (i.map .int)]}) rfl z;rw[decide_eq_true ⋯] at n;have y:(WTm.not (.lt (.lit (.int (63:Nat))) (.len (.arg 0)))).value l.row.toRowW.records {args:=[.list (i.map .int)]}=Wu (.bool Wx):=by rw[WTm.value,n];rfl
  unfold WTm.holds at j;rw[WTm.value,y] at j;cases j
def WI(P:KS)(h:Heap)(v:Value):WData->Prop
 |.int n=>∃t,v=.int n t
 |.list d=>∃b a,v=.ref b/\h.get? b=Wu {cls:=.type "list",data:=.seq a.toArray}/\UI P h a d
 |_=>True
def wi{P:KS}{v:Value}{d:WData}(w:Well P h v d):WI P h v d:=Well.casesOn (motive_1:=λv d O=>WI P h v d) w trivial (λO=>trivial) (λO t=>⟨t,rfl⟩) (λO O=>trivial) (λO O=>trivial) (λO O=>trivial) (λO=>trivial) (λg w=>⟨_,_,rfl,g,w⟩) (λO O=>trivial) (λO O=>trivial) (λO O O O=>trivial) (λO O O O=>trivial) (λO O O O=>trivial)
def Jj(P:KS)(h:Heap)(vs:List Value):List WData->Prop
 | []=>vs=[]
 |d::e=>∃v a,vs=v::a/\Well P h v d/\UI P h a e
def sD{P:KS}(w:UI P h vs ds):Jj P h vs ds:=WellAll.casesOn (motive_2:=λvs ds O=>Jj P h vs ds) w rfl λa b=>⟨_,_,rfl,a,b⟩
def aAC{P:KS}{h:Heap}{a:List Int}:∀ {vs:List Value},UI P h vs (a.map .int)->Vals Z (a.map .int) vs:=by
 induction a with
 |nil=>exact λw=>(show _=[] from sD w)▸.nil
 |cons n a j=>exact λw=>bA (sD w) λv l e i d=>al (wi i) λt k=>e▸k▸.cons (.int _ _) (j d)
def HC{K:Frag}{P:LP}(a:K.In h)(j:K.lookup c=Wu o)(i:o.cls=.type "code")(e:o.data=.fields (aP o))(d:(aP o)[11]?=Wu (.ref P)):isCodeTable h P:=⟨c,o,_,a _ _ j,i,e,d⟩
def Dx{h':Heap}(n:o=⟨.none,Wv,.fields ⟨[]⟩,⟨[]⟩⟩)(r:isCodeTable h b)(p:h'.get? b=Wu o')(l:sM q Z o'):asItWas h h' b o:=by
 obtain⟨⟨_,j,i,e⟩,k,a,_⟩:=l;subst n;refine .inr (.inl ⟨r,rfl,#[],k,rfl,?_⟩);rw[p];obtain⟨c,d,s,sl⟩:=o';dsimp only at j i e a;subst j i e a;simp
def aB4:dt callerA 400:=⟨rfl,by decide +kernel,by decide +kernel⟩
def GT{h:Heap}{b:LP}{o':Obj}(j:h.get? a=Wu o)(i:h.get? b=Wu o')(d:o.cls≠o'.cls):a≠b:=λe=>d (congrArg Obj.cls (No (j.symm.trans (e▸i))))
def aBe(o:(KO w.params).In s.heap)(a:s.heap.get? b=Wu {cls:=.type "list",data:=.seq vs.toArray})(j:s.gens=#[]):ca (af w) s ((af w).add b {cls:=.type "list",data:=.seq vs.toArray}) eo:=by
 have i:s.heap.get? 271=Wu (aDa w.params):=o _ _ @_;have d:s.heap.get? 286=Wu (aDa w.params):=o _ _ @_;have l:(271:LP)≠b:=GT i a ((by kernel_rfl:(aDa w.params).cls=.none)▸λe=>nomatch e);have k:(286:LP)≠b:=GT d a ((by kernel_rfl:(aDa w.params).cls=.none)▸λe=>nomatch e);have r:∀x ox,af w x=Wu ox->s.heap.get? x=Wu ox:=λx ox e=>o _ _ (aDV Dw _ _ _ e).1;have n:eb.le (af w) ((af w).add b {cls:=.type "list",data:=.seq vs.toArray}):=λx ox e=>by
  unfold m8;by_cases q:x=b
  ·rw[if_pos q];exact(q▸a:s.heap.get? x=_).symm.trans (r _ _ e)
  ·rw[if_neg q];exact e
 have v:ca (af w) s ((af w).add b {cls:=.type "list",data:=.seq vs.toArray}) []:=⟨n,λx ox e=>(eb.add_inv e).elim (r x ox) λq=>q.1▸q.2▸a,PZ,λO h=>absurd h MU,λO h=>absurd h MU,PZ,λx p=>by rw[j] at p;simp at p⟩;exact ca.cons (ca.cons v MU ((if_neg k).trans @_) ⟨_,d,⟨@_,@_,@_,@_⟩,#[],@_,trivial,λa9 u e=>nomatch e⟩ PZ)
  ⋯ ((if_neg l).trans @_) ⟨_,i,⟨@_,@_,@_,@_⟩,#[],@_,trivial,λa9 u e=>nomatch e⟩ PZ
def aGK(a:(KO w.params).In s.heap)(l:ca (af w) s' b a8)(k:kn eo a8)(X:hO (aj eo) s Z s' b (aj a8))(x:LP)(d:Obj)(e:s.heap.get? x=Wu d):asItWas s.heap s'.heap x d/\∃o',s'.heap.get? x=Wu o':=by
 by_cases j:x=271
 ·refine ag (l.own _ (k _ (KJ ..))) λp q r=>?_;subst j;have q1:=No ((a _ _ @_:s.heap.get? 271=Wu (aDa w.params)).symm.trans e);exact⟨Dx (q1.symm.trans @_) (HC (c:=275) (o:=kx w.params) a @_ @_ @_ @_) q r,_,q⟩
 ·by_cases i:x=286
  ·refine ag (l.own _ (k _ (KP _ (KJ ..)))) λp q r=>?_;subst i;have q1:=No ((a _ _ @_:s.heap.get? 286=Wu (aDa w.params)).symm.trans e);exact⟨Dx (q1.symm.trans @_) (HC (c:=290) (o:=ku w.params) a @_ @_ @_ @_) q r,_,q⟩
  ·have g:=X.kept x d e λh=>(KZ.mp h).elim j λh=>i (Lm.mp h);exact⟨.inl g,_,g⟩
def aAx{P:KS}(w:UI P h vs [.list ds]):∃b us,vs=[.ref b]/\h.get? b=Wu {cls:=.type "list",data:=.seq us.toArray}/\UI P h us ds:=bA (sD w) λv us e i d=>bA (wi i) λb a k g j=>⟨b,a,by rw[e,k,show us=[] from sD d],g,j⟩
def aAA:WalkO qV kT (λO O=>True) eV.says PySem.Challenge.rw_dm0049_05.row.toRowW hM [] (λf vs=>PySem.call f vs):=by
 intro w c7 c5 mg mb G C a o U cd doc dV kV ho q L D y i args Q as j W m d R;have J:(KO w.params).In c5.heap:=kIn_of C;refine fM (id G.T.g) λog es ep p H hk t=>?_;have n:c5.heap.get? ML=Wu (eQ w.params):=J _ _ @_;rw[n] at p;obtain rfl:=No p;have z:il (eQ w.params)=es:=by unfold il;rw[H]
 have E:a=325:=by
  have Z:=t hM.name;rw[y,<-z] at Z;exact VJ (No (Z.symm.trans (by kernel_rfl:So (il (eQ w.params)) hM.name=Wu (.ref 325))))
 subst E;refine ag (aBO (l:=PySem.Challenge.rw_dm0049_05) rfl rfl j) λf7 K h=>?_;subst K;refine bA (aAx d) λb vs K r u=>?_;subst K;have S:=aBe J r i;refine NB (aEo (f7:=f7) (Y:=[]) aB4 rfl h c5 _ (.ref 325) [.ref b] [] S (.ref _) (.cons (.lst (l2 ..) (aAC u)) .nil) .nil _ λv x P Z' a8 k c V X=>?_);refine aD k λN M=>?_;clear k;subst N;cases V
 have F:=aGK J c M X;refine⟨.inl ⟨.bool Ww,.bool Ww,[],rfl,λO=>rfl,.bool Ww,?_,λO=>⟨PZ,λa E=>by cases E⟩⟩,⟨λx s e=>(F x s e).1,λx s e=>(F x s e).2⟩,X.os,c.bare⟩
 ·show (WShape.has PySem.Challenge.rw_dm0049_05.row.toRowW.records (.bool Ww) .bool&&WTm.holds PySem.Challenge.rw_dm0049_05.row.toRowW.records (.eq .res (.lit (.bool Ww))) _)=Ww;exact @_
def aKC:PySem.Challenge.rw_dm0049_05.Holds:=aE5 aAA
end Mine.Internal
theorem PySem.Challenge.cw_dm0049_05_holds : PySem.Challenge.rw_dm0049_05.Holds :=
  Mine.Internal.aKC
