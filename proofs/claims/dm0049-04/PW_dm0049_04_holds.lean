import PyProof.Rows.All
import Wide.All
import OpenK.AllK
import Wide.FinOn
import PyProof.DictItems
import PyProof.Rows.SortShellK
import KE.KSetIn
import KE.KBytesWalk
import KE.BytesMake
import PyProof.Rows.ReprOcc
import Lean
import PySem.Challenge.RW_dm0049_04
open PySem renaming wpAny_bind → Xwe, wpAny_pure → Xwg, Params → Xwj, Shared → Xwl, wpAny_holding → Xwt, Around → Xww, Program → Xwx, model → XwD, World → XwE, wpAny → XwG, strKind → XwP, wpAny_standAt → XwQ, Addr → XwR, builtinLookup_eq_fast → XwS, sizeLine → XwZ, SetTable → Xw2, wpAny_call_entry → Xw3, wpAny_mono → Xw8, starEach → Xw9, wpAny_callSpecial?_slot → Xxb, wpAny_newObj_type → Xxc, isSubtype_type → Xxe, wpAny_of_eq → Xxg, typeLookup_type → Xxh, letOwnedTupleGo → Xxi, sizeLine_eq → Xxs, wpAny_setState_of → Xxt, rawInt → Xxw, eval → Xxy, typeLookup → Xxz, wpAny_rule → XxC, mainGlobals → XxF, assign → XxG, wpAny_isInstance → XxL, assignEach → XxP, wpAny_seqItems → XxT, wpAny_fieldsOf → XxU, recursionLimit → XxV, Builtin → XxY, codeAny_call_builtin → Xx3, sysModules → Xx5, pyNext → Xyc, builtinsNs → Xyd, wpAny_mkStr → Xye, entryFor_of_tree → Xyf, wpAny_attempt → Xyg, firstArgMember → Xyh, wpAny_call → Xyl, compareOp → Xyo, backTo → Xyp, wpAny_field → Xyv, foldedSetIterable → Xyz, codeAny_builtin → XyA, intKind → XyD, GenState → XyH, isSubtype → XyI, wpAny_setField_rec → XyO, FuncData → XyS, wpAny_specialOf → XyT, storeName → XyU, holding → XyV, codeAmong → XyW, closureFor_none → XyX, argsOk → XyY, KeyKind → Xy4
open List renaming mem_cons_self → Xwf, mem_cons_of_mem → Xwh, length_map → Xwi, mem_cons → Xwm, length_cons → Xwn, length_append → Xwo, map_cons → Xwr, cons_append → Xws, perm_append_comm → Xwu, nil_append → Xwv, mem_singleton → Xwy, nodup_cons → Xwz, lookup_cons → XwB, mem_map_of_mem → XwC, length_nil → XwF, map_append → XwH, getElem?_eq_getElem → XwI, mem_map → XwJ, append_assoc → XwK, reverse_cons → XwL, mem_append_right → XwM, all_eq_true → XwU, reverse_nil → XwV, getElem?_map → Xw1, mem_append → Xw5, Perm → Xxd, mem_append_left → Xxf, foldl_cons → Xxj, append_nil → Xxk, range' → Xxm, filterMap_cons → XxA, map_map → XxH, drop_of_length_le → XxI, drop_eq_getElem_cons → XxJ, perm_middle → XxN, not_mem_nil → XxO, getElem?_eq_none → XxR, mem_filter → Xx0, find?_cons → Xx1, map_congr_left → Xx6, length_singleton → Xya, replicate → Xyi, range'_succ → Xyn, zip_cons_cons → Xyr, pairwise_cons → Xys, filterMap_append → Xyt, getElem?_eq_some_iff → Xyw, map_nil → XyC, length → XyG, filterMap_map → XyR, length_replicate → Xy0, eq_nil_or_concat → Xy1, concat_eq_append → Xy2
open PySem.Str renaming ofString → Xwk
open PySem.Heap renaming get?_push_size → Xwp, get?_push_of_some → Xwq, SameBut → XwO, get?_update_self → XwW, lt_size → Xw7, size_push → XyM
open Nat renaming zero_le → XwA, le_refl → XwN, le_trans → Xw4, lt_or_ge → Xxp, le_of_ble_eq_true → Xxq, ne_of_lt → Xxu, le_of_lt → XxQ, lt_irrefl → Xx8, lt_succ_self → Xym
open PySem.Heap.SameBut renaming update → XwT
open Bool renaming false_eq_true → XwX, false_ne_true → Xw0, and_eq_true → Xxn, eq_iff_iff → XyB
open Int renaming toNat_natCast → XwY
open PySem.Obj renaming mapSeq → Xw6, mapFields → XxZ, isFreed_of_fields → Xyq, data_mapFields → XyQ
open PySem.W renaming peek → Xxa, boot_drawn → XxD
open PySem.W.KFB renaming if_not → Xxl
open PySem.Sem renaming bind_eq_wrap' → Xxo, wrap_wrap → XxM, onRaise_eq_wrap → XyE
open PySem.Value renaming none → Xxr, type → XyJ
open Option renaming map_eq_some_iff → Xxv, map_some → XyZ
open Array renaming mk → Xxx, length_toList → XxB, getElem?_eq_getElem → XxK, getElem?_toList → Xyb, perm_iff_toList_perm → Xyk, getElem?_eq_none → XyN
open Option.some renaming injEq → XxE, inj → Xx9
open PySem.Challenge renaming pw_dm0049_04 → XxS
open Pure renaming pure → XxW
open List.Perm renaming swap → XxX, cons → Xyx, append_left → Xy3
open List.cons renaming inj → Xx2
open PySem.F renaming slot_tuple_iterator_next → Xx4
open PySem.SetTable renaming below → Xx7, grown → XyL
open PySem.W.Fast renaming te10110043849684766642 → Xyj
open PySem.Calls renaming Constant_str → Xyu
open PySem.Around renaming under_plainId → Xyy
open PySem.W.Looks renaming of_peek → XyF
open PySem.W.SharedT renaming mk → XyK
open ToString renaming toString → XyP
open PySem PySem.W
set_option Elab.async false
set_option linter.all false
set_option maxRecDepth 100000
set_option maxHeartbeats 0
local macro_rules | `(@_) => `(by kernel_rfl)
local macro_rules | `(nofun) => `(by omega)
namespace Mine
abbrev Xy5:Str:=⟨⟨[107]⟩⟩
abbrev Xy6:Str:=⟨⟨[115,101,108,102]⟩⟩
abbrev Xy7:Str:=⟨⟨[95,95,110,101,119,95,95]⟩⟩
abbrev Xy8:Str:=⟨⟨[95,109,97,107,101]⟩⟩
abbrev Xy9:Str:=⟨⟨[97]⟩⟩
abbrev Xza:Str:=⟨⟨[98]⟩⟩
abbrev Xzb:Str:=⟨⟨[115,105,122,101]⟩⟩
abbrev Xzc:Str:=⟨⟨[105,116,101,114,97,98,108,101]⟩⟩
abbrev Xzd:Str:=⟨⟨[83,101,113,117,101,110,99,101,77,97,116,99,104,101,114]⟩⟩
abbrev Xze:Str:=⟨⟨[115,101,116,95,115,101,113,115]⟩⟩
abbrev Xzf:Str:=⟨⟨[115,101,116,95,115,101,113,49]⟩⟩
abbrev Xzg:Str:=⟨⟨[115,101,116,95,115,101,113,50]⟩⟩
abbrev Xzh:Str:=⟨⟨[95,83,101,113,117,101,110,99,101,77,97,116,99,104,101,114,95,95,99,104,97,105,110,95,98]⟩⟩
abbrev Xzi:Str:=⟨⟨[102,105,110,100,95,108,111,110,103,101,115,116,95,109,97,116,99,104]⟩⟩
abbrev Xzj:Str:=⟨⟨[103,101,116,95,109,97,116,99,104,105,110,103,95,98,108,111,99,107,115]⟩⟩
abbrev Xzk:Str:=⟨⟨[103,101,116,95,111,112,99,111,100,101,115]⟩⟩
abbrev Xzl:Str:=⟨⟨[103,101,116,95,103,114,111,117,112,101,100,95,111,112,99,111,100,101,115]⟩⟩
abbrev Xzm:Str:=⟨⟨[105,115,106,117,110,107]⟩⟩
abbrev Xzn:Str:=⟨⟨[97,117,116,111,106,117,110,107]⟩⟩
abbrev Xzo:Str:=⟨⟨[98,50,106]⟩⟩
abbrev Xzp:Str:=⟨⟨[105]⟩⟩
abbrev Xzq:Str:=⟨⟨[101,108,116]⟩⟩
abbrev Xzr:Str:=⟨⟨[105,110,100,105,99,101,115]⟩⟩
abbrev Xzs:Str:=⟨⟨[112,111,112,117,108,97,114]⟩⟩
abbrev Xzt:Str:=⟨⟨[110]⟩⟩
abbrev Xzu:Str:=⟨⟨[110,116,101,115,116]⟩⟩
abbrev Xzv:Str:=⟨⟨[105,100,120,115]⟩⟩
abbrev Xzw:Str:=⟨⟨[97,108,111]⟩⟩
abbrev Xzx:Str:=⟨⟨[97,104,105]⟩⟩
abbrev Xzy:Str:=⟨⟨[98,108,111]⟩⟩
abbrev Xzz:Str:=⟨⟨[98,104,105]⟩⟩
abbrev XzA:Str:=⟨⟨[105,115,98,106,117,110,107]⟩⟩
abbrev XzB:Str:=⟨⟨[98,101,115,116,115,105,122,101]⟩⟩
abbrev XzC:Str:=⟨⟨[110,111,116,104,105,110,103]⟩⟩
abbrev XzD:Str:=⟨⟨[106,50,108,101,110,103,101,116]⟩⟩
abbrev XzE:Str:=⟨⟨[110,101,119,106,50,108,101,110]⟩⟩
abbrev XzF:Str:=⟨⟨[106]⟩⟩
abbrev XzG:Str:=⟨⟨[108,97]⟩⟩
abbrev XzH:Str:=⟨⟨[108,98]⟩⟩
abbrev XzI:Str:=⟨⟨[113,117,101,117,101]⟩⟩
abbrev XzJ:Str:=⟨⟨[109,97,116,99,104,105,110,103,95,98,108,111,99,107,115]⟩⟩
abbrev XzK:Str:=⟨⟨[120]⟩⟩
abbrev XzL:Str:=⟨⟨[105,49]⟩⟩
abbrev XzM:Str:=⟨⟨[106,49]⟩⟩
abbrev XzN:Str:=⟨⟨[110,111,110,95,97,100,106,97,99,101,110,116]⟩⟩
abbrev XzO:Str:=⟨⟨[105,50]⟩⟩
abbrev XzP:Str:=⟨⟨[106,50]⟩⟩
abbrev XzQ:Str:=⟨⟨[107,50]⟩⟩
abbrev XzR:Str:=⟨⟨[97,110,115,119,101,114]⟩⟩
abbrev XzS:Str:=⟨⟨[97,105]⟩⟩
abbrev XzT:Str:=⟨⟨[98,106]⟩⟩
abbrev XzU:Str:=⟨⟨[116,97,103]⟩⟩
abbrev XzV:Str:=⟨⟨[99,111,100,101,115]⟩⟩
abbrev XzW:Str:=⟨⟨[110,110]⟩⟩
abbrev XzX:Str:=⟨⟨[103,114,111,117,112]⟩⟩
abbrev XzY:Str:=⟨⟨[98,106,117,110,107]⟩⟩
abbrev XzZ:Str:=⟨⟨[98,112,111,112,117,108,97,114]⟩⟩
abbrev Xz0:Str:=⟨⟨[102,117,108,108,98,99,111,117,110,116]⟩⟩
abbrev Xz1:Str:=⟨⟨[111,112,99,111,100,101,115]⟩⟩
abbrev Xz2:Str:=⟨⟨[95,102,111,114,109,97,116,95,114,97,110,103,101,95,117,110,105,102,105,101,100]⟩⟩
abbrev Xz3:Str:=⟨⟨[117,110,105,102,105,101,100,95,100,105,102,102]⟩⟩
abbrev Xz4:Str:=⟨⟨[95,102,111,114,109,97,116,95,114,97,110,103,101,95,99,111,110,116,101,120,116]⟩⟩
abbrev Xz5:Str:=⟨⟨[99,111,110,116,101,120,116,95,100,105,102,102]⟩⟩
abbrev Xz6:Str:=⟨⟨[95,99,104,101,99,107,95,116,121,112,101,115]⟩⟩
abbrev Xz7:Str:=⟨⟨[100,105,102,102,95,98,121,116,101,115]⟩⟩
abbrev Xz8:Str:=⟨⟨[95,108,97,119,95,111,99,116,101,116,115]⟩⟩
abbrev Xz9:Str:=⟨⟨[95,108,97,119,95,116,101,120,116]⟩⟩
abbrev XAa:Str:=⟨⟨[95,108,97,119,95,97,103,97,105,110]⟩⟩
abbrev XAb:Str:=⟨⟨[115,116,97,114,116]⟩⟩
abbrev XAc:Str:=⟨⟨[115,116,111,112]⟩⟩
abbrev XAd:Str:=⟨⟨[102,114,111,109,102,105,108,101]⟩⟩
abbrev XAe:Str:=⟨⟨[116,111,102,105,108,101]⟩⟩
abbrev XAf:Str:=⟨⟨[102,114,111,109,102,105,108,101,100,97,116,101]⟩⟩
abbrev XAg:Str:=⟨⟨[116,111,102,105,108,101,100,97,116,101]⟩⟩
abbrev XAh:Str:=⟨⟨[108,105,110,101,116,101,114,109]⟩⟩
abbrev XAi:Str:=⟨⟨[115,116,97,114,116,101,100]⟩⟩
abbrev XAj:Str:=⟨⟨[102,114,111,109,100,97,116,101]⟩⟩
abbrev XAk:Str:=⟨⟨[116,111,100,97,116,101]⟩⟩
abbrev XAl:Str:=⟨⟨[102,105,114,115,116]⟩⟩
abbrev XAm:Str:=⟨⟨[108,97,115,116]⟩⟩
abbrev XAn:Str:=⟨⟨[102,105,108,101,49,95,114,97,110,103,101]⟩⟩
abbrev XAo:Str:=⟨⟨[102,105,108,101,50,95,114,97,110,103,101]⟩⟩
abbrev XAp:Str:=⟨⟨[108,105,110,101]⟩⟩
abbrev XAq:Str:=⟨⟨[112,114,101,102,105,120]⟩⟩
abbrev XAr:Str:=⟨⟨[95]⟩⟩
abbrev XAs:Str:=⟨⟨[97,114,103,115]⟩⟩
abbrev XAt:Str:=⟨⟨[97,114,103]⟩⟩
abbrev XAu:Str:=⟨⟨[100,102,117,110,99]⟩⟩
abbrev XAv:Str:=⟨⟨[100,101,99,111,100,101]⟩⟩
abbrev XAw:Str:=⟨⟨[108,105,110,101,115]⟩⟩
abbrev XAx:Str:=⟨⟨[111,99,116,101,116,115]⟩⟩
abbrev XAy:Str:=⟨⟨[103,101,116]⟩⟩
abbrev XAz:Str:=⟨⟨[115,101,116,100,101,102,97,117,108,116]⟩⟩
abbrev XAA:Str:=⟨⟨[105,116,101,109,115]⟩⟩
abbrev XAB:Str:=⟨⟨[97,112,112,101,110,100]⟩⟩
abbrev XAC:Str:=⟨⟨[101,120,116,101,110,100]⟩⟩
abbrev XAD:Str:=⟨⟨[114,101,112,108,97,99,101]⟩⟩
abbrev XAE:Str:=⟨⟨[100,101,108,101,116,101]⟩⟩
abbrev XAF:Str:=⟨⟨[105,110,115,101,114,116]⟩⟩
abbrev XAG:Str:=⟨⟨[46,48]⟩⟩
abbrev XAH:Str:=⟨⟨[101,110,99,111,100,101]⟩⟩
abbrev XAI:Str:=⟨⟨[111,110,101]⟩⟩
abbrev XAJ:Str:=⟨⟨[115,99,114,105,112,116]⟩⟩
abbrev XAK:Str:=⟨⟨[111,108,100,100,97,116,101]⟩⟩
abbrev XAL:Str:=⟨⟨[110,101,119,100,97,116,101]⟩⟩
abbrev XAM:Str:=⟨⟨[99,111,109,112,97,114,101]⟩⟩
abbrev XAN:Str:=⟨⟨[114,111,119]⟩⟩
abbrev XAO:Str:=⟨⟨[102,111,114,109,97,116]⟩⟩
section
noncomputable def Xhf{α:Type _}(p:α->Bool)(l:List α):Bool :=
 @List.rec α (fun _=>Bool) false (fun a _ ih=>@Bool.rec (fun _=>Bool) ih true (p a)) l
theorem XpG{α:Type _}(p:α->Bool)(l:List α):Xhf p l=l.any p:=by
 induction l with
 | nil=>rfl
 | cons a l ih =>
  show @Bool.rec (fun _=>Bool) (Xhf p l) true (p a)=_
  rw [List.any_cons,← ih]
  cases p a <;> rfl
noncomputable def Xsh{α:Type _}(as:Array α)(p:α->Bool)(start stop:Nat):Bool :=
 @Bool.rec (fun _=>Bool) (Array.any as p start stop) (Xhf p as.toList) (Nat.beq start 0 && Nat.beq stop as.size)
theorem Xtt:@Array.any=@Xsh:=by
 funext α as p start stop
 unfold Xsh
 cases h:(Nat.beq start 0 && Nat.beq stop as.size) with
 | false=>rfl
 | true =>
  obtain ⟨h1,h2⟩:=Bool.and_eq_true_iff.mp h
  have e1:=Nat.eq_of_beq_eq_true h1
  have e2:=Nat.eq_of_beq_eq_true h2
  subst e1;subst e2
  show _=Xhf p as.toList
  rw [XpG,Array.any_toList]
inductive EqT {α:Type _} (a:α):α->Type
 | refl:EqT a a
theorem EqT.eq{α:Type _}{a b:α}(h:EqT a b):a=b:=by cases h;rfl
noncomputable def Xrt:Σ' F:_->Builtin,EqT PySem.W.Fast.tw4202317264376624991 (F @Array.any.{0}):=by
 refine ⟨?F,?h⟩
 case h =>
  delta PySem.W.Fast.tw4202317264376624991
  generalize @Array.any.{0}=z
  exact .refl
noncomputable def Xui:Builtin:=Xrt.1 @Xsh.{0}
theorem Xuh:Builtin.«type.__new__» = Xui:=PySem.W.Fast.te4202317264376624991.trans (Xrt.2.eq.trans (congrArg Xrt.1 Xtt))
noncomputable def XcR(id:String):Option Builtin :=
 @Bool.rec (fun _=>Option Builtin) (PySem.W.Fast.tw14364793385576792824 id) (some Xui) (Nat.beq (PySem.code id) (PySem.code "type.__new__"))
theorem XsK:treeTable "type.__new__" = some Builtin.«type.__new__» := by kernel_rfl
theorem Xt6:treeTable=XcR:=by
 funext id
 unfold XcR
 cases h:Nat.beq (PySem.code id) (PySem.code "type.__new__") with
 | false=>exact congrFun PySem.W.Fast.te14364793385576792824 id
 | true =>
  have e:=PySem.code_inj _ _ (Nat.eq_of_beq_eq_true h)
  subst e
  exact XsK.trans (congrArg some Xuh)
end
section
theorem touch:(Nat.beq PySem.Challenge.pw_dm0049_04.main.body.length 17)=true:=by k_qdec
noncomputable abbrev TP:Xwx:=PySem.W.Fast.tw2751166438461228403
theorem Xmt:XxS=TP:=PySem.W.Fast.te2751166438461228403
abbrev nd:=BT.node
abbrev nl:=BT.nil
noncomputable def kv(P:Xwj)(k:Str)(t:Nat)(v:Value):DictEntry:=⟨PyData.keyHash P k,.str k t,v⟩
noncomputable def XD:Stmt->List Stmt
 | .FunctionDef _ _ b _ _ _ _ _ _ _=>b
 | .ClassDef _ _ _ b _ _ _ _ _ _ _=>b
 | _=>[]
noncomputable def Xfv:Stmt->Arguments
 | .FunctionDef _ a _ _ _ _ _ _ _ _=>a
 | _=>⟨[],[],none,[],[],none,[]⟩
noncomputable def Xed:Stmt->Scope
 | .FunctionDef _ _ _ _ _ _ s _ _ _=>s
 | _=>default
noncomputable def Xrs:List Stmt->Nat->Stmt
 | [],_ => .Pass ⟨0,0,0,0⟩
 | s::_,0=>s
 | _::r,n+1=>Xrs r n
noncomputable def st1(i:Nat):Stmt:=Xrs TP.main.body i
noncomputable def st2(i j:Nat):Stmt:=Xrs (XD (st1 i)) j
noncomputable def XaW(s:Stmt):Str:=match docOf (XD s) with
 | some d=>d
 | none=>⟨⟨[]⟩⟩
noncomputable def fnD(st:Stmt)(name qual:Str)(g:XwR)(cl:List (Str × XwR))(d k doc m:Value)(an:Option XwR)(cd ct:Value)(b:XwR):XyS :=
 ⟨name,qual,Xfv st,.stmts (XD st),Xed st,g,cl,d,k,doc,m,an,cd,ct,b⟩
noncomputable def XbE:Life:={}
abbrev I(n:Int):Value := .int n 0
abbrev Tu(l:List Value):Obj:=⟨.type "tuple",none,.seq ⟨l⟩ 0,⟨[]⟩⟩
abbrev Co(l:List Value):Obj:=⟨.type "code",none,.fields ⟨l⟩,⟨[]⟩⟩
abbrev cd(a:Str)(n1:Nat)(b:Str)(n2:Nat)(c:Str)(n3 i1 i2 i3 i4 i5 r1:Nat)(t:Bool)(i6 r2:Nat)(x y z:Value)(i7 i8:Nat)(e:Str)(n4:Nat):Obj:=Co [.str a n1,.str b n2,.str c n3,I i1,I i2,I i3,I i4,I i5,.ref r1,.bool t,I i6,.ref r2,.none,x,y,z,I i7,I i8,.str e n4]
abbrev Fu(d:XyS):Obj:=⟨.type "function",none,.func d,⟨[]⟩⟩
abbrev Fn(d:XyS):Obj:=⟨.none,none,.func d,⟨[]⟩⟩
abbrev Fi(l:List Value):Obj:=⟨.none,none,.fields ⟨l⟩,⟨[]⟩⟩
noncomputable abbrev fnN(s:Stmt)(z:Str):XyS:=fnD s z z 0 [] .none .none .none .none none .none .none 0
noncomputable def z0:Str:=⟨⟨[60,109,111,100,117,108,101,62]⟩⟩
noncomputable def z1:Str:=⟨⟨[47,99,108,97,105,109,47,99,117,116,46,112,121]⟩⟩
noncomputable def z2:Str:=⟨⟨[95,95,109,97,105,110,95,95]⟩⟩
noncomputable def z3:Str:=⟨⟨[95,95,110,97,109,101,95,95]⟩⟩
noncomputable def z4:Str:=⟨⟨[99,112,121,51,49,51,46,100,105,102,102,108,105,98]⟩⟩
noncomputable def z5:Str:=⟨⟨[95,95,100,111,99,95,95]⟩⟩
noncomputable def z6:Str:=⟨⟨[95,95,112,97,99,107,97,103,101,95,95]⟩⟩
noncomputable def z7:Str:=⟨⟨[95,95,108,111,97,100,101,114,95,95]⟩⟩
noncomputable def z8:Str:=⟨⟨[95,95,115,112,101,99,95,95]⟩⟩
noncomputable def z9:Str:=⟨⟨[95,95,97,110,110,111,116,97,116,105,111,110,115,95,95]⟩⟩
noncomputable def z10:Str:=⟨⟨[95,95,98,117,105,108,116,105,110,115,95,95]⟩⟩
noncomputable def z11:Str:=⟨⟨[95,95,102,105,108,101,95,95]⟩⟩
noncomputable def z12:Str:=⟨⟨[95,95,99,97,99,104,101,100,95,95]⟩⟩
noncomputable def z13:Str:=⟨⟨[95,119,97,108,108]⟩⟩
noncomputable def z14:Str:=⟨⟨[95,116,117,112,108,101,103,101,116,116,101,114]⟩⟩
noncomputable def z15:Str:=⟨⟨[107]⟩⟩
noncomputable def z16:Str:=⟨⟨[95,95,109,111,100,117,108,101,95,95]⟩⟩
noncomputable def z17:Str:=⟨⟨[95,95,113,117,97,108,110,97,109,101,95,95]⟩⟩
noncomputable def z18:Str:=⟨⟨[95,95,102,105,114,115,116,108,105,110,101,110,111,95,95]⟩⟩
noncomputable def z19:Str:=⟨⟨[95,95,105,110,105,116,95,95]⟩⟩
noncomputable def z20:Str:=⟨⟨[95,95,103,101,116,95,95]⟩⟩
noncomputable def z21:Str:=⟨⟨[95,95,115,101,116,95,95]⟩⟩
noncomputable def z22:Str:=⟨⟨[95,95,100,101,108,101,116,101,95,95]⟩⟩
noncomputable def z23:Str:=⟨⟨[95,95,115,116,97,116,105,99,95,97,116,116,114,105,98,117,116,101,115,95,95]⟩⟩
noncomputable def z24:Str:=⟨⟨[115,101,108,102]⟩⟩
noncomputable def z25:Str:=⟨⟨[105,110,100,101,120]⟩⟩
noncomputable def z26:Str:=⟨⟨[100,111,99]⟩⟩
noncomputable def z27:Str:=⟨⟨[95,116,117,112,108,101,103,101,116,116,101,114,46,95,95,105,110,105,116,95,95]⟩⟩
noncomputable def z28:Str:=⟨⟨[111,98,106]⟩⟩
noncomputable def z29:Str:=⟨⟨[111,98,106,116,121,112,101]⟩⟩
noncomputable def z30:Str:=⟨⟨[95,116,117,112,108,101,103,101,116,116,101,114,46,95,95,103,101,116,95,95]⟩⟩
noncomputable def z31:Str:=⟨⟨[118,97,108,117,101]⟩⟩
noncomputable def z32:Str:=⟨⟨[95,116,117,112,108,101,103,101,116,116,101,114,46,95,95,115,101,116,95,95]⟩⟩
noncomputable def z33:Str:=⟨⟨[95,116,117,112,108,101,103,101,116,116,101,114,46,95,95,100,101,108,101,116,101,95,95]⟩⟩
noncomputable def z34:Str:=⟨⟨[95,95,100,105,99,116,95,95]⟩⟩
noncomputable def z35:Str:=⟨⟨[95,95,119,101,97,107,114,101,102,95,95]⟩⟩
noncomputable def z36:Str:=⟨⟨[77,97,116,99,104]⟩⟩
noncomputable def z37:Str:=⟨⟨[95,95,115,108,111,116,115,95,95]⟩⟩
noncomputable def z38:Str:=⟨⟨[95,102,105,101,108,100,115]⟩⟩
noncomputable def z39:Str:=⟨⟨[95,102,105,101,108,100,95,100,101,102,97,117,108,116,115]⟩⟩
noncomputable def z40:Str:=⟨⟨[95,95,110,101,119,95,95]⟩⟩
noncomputable def z41:Str:=⟨⟨[95,109,97,107,101]⟩⟩
noncomputable def z42:Str:=⟨⟨[95,114,101,112,108,97,99,101]⟩⟩
noncomputable def z43:Str:=⟨⟨[95,95,114,101,112,108,97,99,101,95,95]⟩⟩
noncomputable def z44:Str:=⟨⟨[95,95,114,101,112,114,95,95]⟩⟩
noncomputable def z45:Str:=⟨⟨[95,97,115,100,105,99,116]⟩⟩
noncomputable def z46:Str:=⟨⟨[95,95,103,101,116,110,101,119,97,114,103,115,95,95]⟩⟩
noncomputable def z47:Str:=⟨⟨[95,95,109,97,116,99,104,95,97,114,103,115,95,95]⟩⟩
noncomputable def z48:Str:=⟨⟨[97]⟩⟩
noncomputable def z49:Str:=⟨⟨[98]⟩⟩
noncomputable def z50:Str:=⟨⟨[115,105,122,101]⟩⟩
noncomputable def z51:Str:=⟨⟨[95,95,99,108,97,115,115,99,101,108,108,95,95]⟩⟩
noncomputable def z52:Str:=⟨⟨[95,99,108,115]⟩⟩
noncomputable def z53:Str:=⟨⟨[77,97,116,99,104,46,95,95,110,101,119,95,95]⟩⟩
noncomputable def z54:Str:=⟨⟨[99,108,115]⟩⟩
noncomputable def z55:Str:=⟨⟨[105,116,101,114,97,98,108,101]⟩⟩
noncomputable def z56:Str:=⟨⟨[114,101,115,117,108,116]⟩⟩
noncomputable def z57:Str:=⟨⟨[77,97,116,99,104,46,95,109,97,107,101]⟩⟩
noncomputable def z58:Str:=⟨⟨[95,95,99,108,97,115,115,95,95]⟩⟩
noncomputable def z59:Str:=⟨⟨[107,119,100,115]⟩⟩
noncomputable def z60:Str:=⟨⟨[77,97,116,99,104,46,95,114,101,112,108,97,99,101]⟩⟩
noncomputable def z61:Str:=⟨⟨[77,97,116,99,104,46,95,95,114,101,112,114,95,95]⟩⟩
noncomputable def z62:Str:=⟨⟨[77,97,116,99,104,46,95,97,115,100,105,99,116]⟩⟩
noncomputable def z63:Str:=⟨⟨[77,97,116,99,104,46,95,95,103,101,116,110,101,119,97,114,103,115,95,95]⟩⟩
noncomputable def z64:Str:=⟨⟨[65,108,105,97,115,32,102,111,114,32,102,105,101,108,100,32,110,117,109,98,101,114,32,48]⟩⟩
noncomputable def z65:Str:=⟨⟨[65,108,105,97,115,32,102,111,114,32,102,105,101,108,100,32,110,117,109,98,101,114,32,49]⟩⟩
noncomputable def z66:Str:=⟨⟨[65,108,105,97,115,32,102,111,114,32,102,105,101,108,100,32,110,117,109,98,101,114,32,50]⟩⟩
noncomputable def z67:Str:=⟨⟨[95,99,97,108,99,117,108,97,116,101,95,114,97,116,105,111]⟩⟩
noncomputable def z68:Str:=⟨⟨[83,101,113,117,101,110,99,101,77,97,116,99,104,101,114]⟩⟩
noncomputable def z69:Str:=⟨⟨[109,97,116,99,104,101,115]⟩⟩
noncomputable def z70:Str:=⟨⟨[108,101,110,103,116,104]⟩⟩
noncomputable def z71:Str:=⟨⟨[115,101,116,95,115,101,113,115]⟩⟩
noncomputable def z72:Str:=⟨⟨[115,101,116,95,115,101,113,49]⟩⟩
noncomputable def z73:Str:=⟨⟨[115,101,116,95,115,101,113,50]⟩⟩
noncomputable def z74:Str:=⟨⟨[95,83,101,113,117,101,110,99,101,77,97,116,99,104,101,114,95,95,99,104,97,105,110,95,98]⟩⟩
noncomputable def z75:Str:=⟨⟨[102,105,110,100,95,108,111,110,103,101,115,116,95,109,97,116,99,104]⟩⟩
noncomputable def z76:Str:=⟨⟨[103,101,116,95,109,97,116,99,104,105,110,103,95,98,108,111,99,107,115]⟩⟩
noncomputable def z77:Str:=⟨⟨[103,101,116,95,111,112,99,111,100,101,115]⟩⟩
noncomputable def z78:Str:=⟨⟨[103,101,116,95,103,114,111,117,112,101,100,95,111,112,99,111,100,101,115]⟩⟩
noncomputable def z79:Str:=⟨⟨[114,97,116,105,111]⟩⟩
noncomputable def z80:Str:=⟨⟨[113,117,105,99,107,95,114,97,116,105,111]⟩⟩
noncomputable def z81:Str:=⟨⟨[114,101,97,108,95,113,117,105,99,107,95,114,97,116,105,111]⟩⟩
noncomputable def z82:Str:=⟨⟨[]⟩⟩
noncomputable def z83:Str:=⟨⟨[105,115,106,117,110,107]⟩⟩
noncomputable def z84:Str:=⟨⟨[97,117,116,111,106,117,110,107]⟩⟩
noncomputable def z85:Str:=⟨⟨[83,101,113,117,101,110,99,101,77,97,116,99,104,101,114,46,95,95,105,110,105,116,95,95]⟩⟩
noncomputable def z86:Str:=⟨⟨[83,101,113,117,101,110,99,101,77,97,116,99,104,101,114,46,115,101,116,95,115,101,113,115]⟩⟩
noncomputable def z87:Str:=⟨⟨[83,101,113,117,101,110,99,101,77,97,116,99,104,101,114,46,115,101,116,95,115,101,113,49]⟩⟩
noncomputable def z88:Str:=⟨⟨[83,101,113,117,101,110,99,101,77,97,116,99,104,101,114,46,115,101,116,95,115,101,113,50]⟩⟩
noncomputable def z89:Str:=⟨⟨[98,50,106]⟩⟩
noncomputable def z90:Str:=⟨⟨[105]⟩⟩
noncomputable def z91:Str:=⟨⟨[101,108,116]⟩⟩
noncomputable def z92:Str:=⟨⟨[105,110,100,105,99,101,115]⟩⟩
noncomputable def z93:Str:=⟨⟨[106,117,110,107]⟩⟩
noncomputable def z94:Str:=⟨⟨[112,111,112,117,108,97,114]⟩⟩
noncomputable def z95:Str:=⟨⟨[110]⟩⟩
noncomputable def z96:Str:=⟨⟨[110,116,101,115,116]⟩⟩
noncomputable def z97:Str:=⟨⟨[105,100,120,115]⟩⟩
noncomputable def z98:Str:=⟨⟨[95,95,99,104,97,105,110,95,98]⟩⟩
noncomputable def z99:Str:=⟨⟨[83,101,113,117,101,110,99,101,77,97,116,99,104,101,114,46,95,95,99,104,97,105,110,95,98]⟩⟩
noncomputable def Xt4:Str:=⟨⟨[97,108,111]⟩⟩
noncomputable def Xt3:Str:=⟨⟨[97,104,105]⟩⟩
noncomputable def Xt2:Str:=⟨⟨[98,108,111]⟩⟩
noncomputable def Xt1:Str:=⟨⟨[98,104,105]⟩⟩
noncomputable def Xv3:Str:=⟨⟨[105,115,98,106,117,110,107]⟩⟩
noncomputable def Xv2:Str:=⟨⟨[98,101,115,116,105]⟩⟩
noncomputable def Xv1:Str:=⟨⟨[98,101,115,116,106]⟩⟩
noncomputable def Xv0:Str:=⟨⟨[98,101,115,116,115,105,122,101]⟩⟩
noncomputable def XvZ:Str:=⟨⟨[106,50,108,101,110]⟩⟩
noncomputable def XvY:Str:=⟨⟨[110,111,116,104,105,110,103]⟩⟩
noncomputable def XvX:Str:=⟨⟨[106,50,108,101,110,103,101,116]⟩⟩
noncomputable def XvW:Str:=⟨⟨[110,101,119,106,50,108,101,110]⟩⟩
noncomputable def Xqp:Str:=⟨⟨[106]⟩⟩
noncomputable def Xqo:Str:=⟨⟨[83,101,113,117,101,110,99,101,77,97,116,99,104,101,114,46,102,105,110,100,95,108,111,110,103,101,115,116,95,109,97,116,99,104]⟩⟩
noncomputable def XvV:Str:=⟨⟨[108,97]⟩⟩
noncomputable def XvU:Str:=⟨⟨[108,98]⟩⟩
noncomputable def XvT:Str:=⟨⟨[113,117,101,117,101]⟩⟩
noncomputable def Xt0:Str:=⟨⟨[109,97,116,99,104,105,110,103,95,98,108,111,99,107,115]⟩⟩
noncomputable def XtZ:Str:=⟨⟨[120]⟩⟩
noncomputable def Xmo:Str:=⟨⟨[105,49]⟩⟩
noncomputable def Xmn:Str:=⟨⟨[106,49]⟩⟩
noncomputable def XvS:Str:=⟨⟨[107,49]⟩⟩
noncomputable def XvR:Str:=⟨⟨[110,111,110,95,97,100,106,97,99,101,110,116]⟩⟩
noncomputable def Xmm:Str:=⟨⟨[105,50]⟩⟩
noncomputable def Xml:Str:=⟨⟨[106,50]⟩⟩
noncomputable def XvQ:Str:=⟨⟨[107,50]⟩⟩
noncomputable def Xqn:Str:=⟨⟨[83,101,113,117,101,110,99,101,77,97,116,99,104,101,114,46,103,101,116,95,109,97,116,99,104,105,110,103,95,98,108,111,99,107,115]⟩⟩
noncomputable def XvP:Str:=⟨⟨[97,110,115,119,101,114]⟩⟩
noncomputable def XvO:Str:=⟨⟨[97,105]⟩⟩
noncomputable def XvN:Str:=⟨⟨[98,106]⟩⟩
noncomputable def Xmk:Str:=⟨⟨[116,97,103]⟩⟩
noncomputable def Xqm:Str:=⟨⟨[83,101,113,117,101,110,99,101,77,97,116,99,104,101,114,46,103,101,116,95,111,112,99,111,100,101,115]⟩⟩
noncomputable def XvM:Str:=⟨⟨[99,111,100,101,115]⟩⟩
noncomputable def XvL:Str:=⟨⟨[110,110]⟩⟩
noncomputable def Xql:Str:=⟨⟨[103,114,111,117,112]⟩⟩
noncomputable def Xqk:Str:=⟨⟨[83,101,113,117,101,110,99,101,77,97,116,99,104,101,114,46,103,101,116,95,103,114,111,117,112,101,100,95,111,112,99,111,100,101,115]⟩⟩
noncomputable def Xqj:Str:=⟨⟨[83,101,113,117,101,110,99,101,77,97,116,99,104,101,114,46,114,97,116,105,111]⟩⟩
noncomputable def Xqi:Str:=⟨⟨[83,101,113,117,101,110,99,101,77,97,116,99,104,101,114,46,113,117,105,99,107,95,114,97,116,105,111]⟩⟩
noncomputable def Xqh:Str:=⟨⟨[83,101,113,117,101,110,99,101,77,97,116,99,104,101,114,46,114,101,97,108,95,113,117,105,99,107,95,114,97,116,105,111]⟩⟩
noncomputable def XvK:Str:=⟨⟨[98,106,117,110,107]⟩⟩
noncomputable def XvJ:Str:=⟨⟨[98,112,111,112,117,108,97,114]⟩⟩
noncomputable def XvI:Str:=⟨⟨[102,117,108,108,98,99,111,117,110,116]⟩⟩
noncomputable def XvH:Str:=⟨⟨[111,112,99,111,100,101,115]⟩⟩
noncomputable def Xjj:Str:=⟨⟨[108,97,119,95,100,109,48,48,52,57,95,48,52]⟩⟩
noncomputable def XhG:Str:=⟨⟨[95,102,111,114,109,97,116,95,114,97,110,103,101,95,117,110,105,102,105,101,100]⟩⟩
noncomputable def XhF:Str:=⟨⟨[117,110,105,102,105,101,100,95,100,105,102,102]⟩⟩
noncomputable def XhE:Str:=⟨⟨[95,102,111,114,109,97,116,95,114,97,110,103,101,95,99,111,110,116,101,120,116]⟩⟩
noncomputable def XhD:Str:=⟨⟨[99,111,110,116,101,120,116,95,100,105,102,102]⟩⟩
noncomputable def XhC:Str:=⟨⟨[95,99,104,101,99,107,95,116,121,112,101,115]⟩⟩
noncomputable def XhB:Str:=⟨⟨[100,105,102,102,95,98,121,116,101,115]⟩⟩
noncomputable def XhA:Str:=⟨⟨[95,108,97,119,95,111,99,116,101,116,115]⟩⟩
noncomputable def Xhz:Str:=⟨⟨[95,108,97,119,95,116,101,120,116]⟩⟩
noncomputable def Xhy:Str:=⟨⟨[95,108,97,119,95,97,103,97,105,110]⟩⟩
noncomputable def Xhx:Str:=⟨⟨[108,97,119]⟩⟩
noncomputable def XtY:Str:=⟨⟨[115,116,97,114,116]⟩⟩
noncomputable def XtX:Str:=⟨⟨[115,116,111,112]⟩⟩
noncomputable def XtW:Str:=⟨⟨[98,101,103,105,110,110,105,110,103]⟩⟩
noncomputable def XtV:Str:=⟨⟨[10]⟩⟩
noncomputable def Xqg:Str:=⟨⟨[102,114,111,109,102,105,108,101]⟩⟩
noncomputable def Xqf:Str:=⟨⟨[116,111,102,105,108,101]⟩⟩
noncomputable def Xqe:Str:=⟨⟨[102,114,111,109,102,105,108,101,100,97,116,101]⟩⟩
noncomputable def Xqd:Str:=⟨⟨[116,111,102,105,108,101,100,97,116,101]⟩⟩
noncomputable def Xqc:Str:=⟨⟨[108,105,110,101,116,101,114,109]⟩⟩
noncomputable def XtU:Str:=⟨⟨[115,116,97,114,116,101,100]⟩⟩
noncomputable def XtT:Str:=⟨⟨[102,114,111,109,100,97,116,101]⟩⟩
noncomputable def XtS:Str:=⟨⟨[116,111,100,97,116,101]⟩⟩
noncomputable def XtR:Str:=⟨⟨[102,105,114,115,116]⟩⟩
noncomputable def XtQ:Str:=⟨⟨[108,97,115,116]⟩⟩
noncomputable def XtP:Str:=⟨⟨[102,105,108,101,49,95,114,97,110,103,101]⟩⟩
noncomputable def XtO:Str:=⟨⟨[102,105,108,101,50,95,114,97,110,103,101]⟩⟩
noncomputable def Xqb:Str:=⟨⟨[108,105,110,101]⟩⟩
noncomputable def XvG:Str:=⟨⟨[112,114,101,102,105,120]⟩⟩
noncomputable def XvF:Str:=⟨⟨[95]⟩⟩
noncomputable def XvE:Str:=⟨⟨[97,114,103,115]⟩⟩
noncomputable def XvD:Str:=⟨⟨[97,114,103]⟩⟩
noncomputable def XvC:Str:=⟨⟨[100,102,117,110,99]⟩⟩
noncomputable def XvB:Str:=⟨⟨[100,101,99,111,100,101]⟩⟩
noncomputable def XvA:Str:=⟨⟨[108,105,110,101,115]⟩⟩
noncomputable def Xvz:Str:=⟨⟨[111,99,116,101,116,115]⟩⟩
noncomputable def o11(P:Xwj):Obj:=Tu []
noncomputable def o12(P:Xwj):Obj:=Fi []
noncomputable def o13(P:Xwj):Obj:=cd z0 182 z0 183 z1 184 1 0 0 0 0 11 false 181 12 .none .none .none 185 1 z1 186
noncomputable def o14(P:Xwj):Obj:=⟨(.type "frame"),none,.plain,⟨[some (.ref 13),some (.ref 3),some (.ref 3),none,some (.str z2 164),none,some (.ref 0)]⟩⟩
noncomputable def o3(P:Xwj):Obj:=⟨(.type "dict"),none,.dict ⟨[kv P z3 165 (.str z4 194),kv P z5 166 .none,kv P z6 167 .none,kv P z7 168 (.builtin "__main__.__loader__#opaque"),kv P z8 169 .none,kv P z9 170 (.ref 6),kv P z10 171 (.ref 4),kv P z11 173 (.str z1 172),kv P z12 174 .none,kv P z13 193 (.ref 21),kv P z14 252 (.ref 60)]⟩ 11,⟨[]⟩⟩
noncomputable def Xu4(P:Xwj):Obj:=Fi [(I 1),(I 0),(.ref 20),(I 5),(I 0),(.ref 27)]
noncomputable def o15(P:Xwj):Obj:=Tu []
noncomputable def o16(P:Xwj):Obj:=Fi []
noncomputable def o17(P:Xwj):Obj:=Tu [(.str z15 190)]
noncomputable def o18(P:Xwj):Obj:=Tu []
noncomputable def o19(P:Xwj):Obj:=Fn (fnN (st1 0) z13)
noncomputable def o20(P:Xwj):Obj:=cd z13 187 z13 188 z1 189 1 1 0 0 3 15 true 181 16 (.ref 17) (.ref 18) (.ref 19) 191 1 z1 192
noncomputable def o21(P:Xwj):Obj:=Fu (fnD (st1 0) z13 z13 3 [] .none .none .none (.str z2 164) none (.ref 20) .none 0)
noncomputable def o22(P:Xwj):Obj:=Tu []
noncomputable def o23(P:Xwj):Obj:=⟨(.type "builtin_function_or_method"),none,.fields ⟨[(.builtin "type.__prepare__"),(.type "type")]⟩,⟨[]⟩⟩
noncomputable def o24(P:Xwj):Obj:=⟨(.type "dict"),none,.dict ⟨[kv P z16 203 (.str z4 194),kv P z17 205 (.str z14 204),kv P z18 207 (.int 5 206),kv P z19 216 (.ref 35),kv P z20 225 (.ref 43),kv P z21 234 (.ref 50),kv P z22 242 (.ref 57),kv P z23 245 (.ref 58)]⟩ 8,⟨[]⟩⟩
noncomputable def o25(P:Xwj):Obj:=Tu []
noncomputable def o26(P:Xwj):Obj:=Fi [(I 7),(I 4),(.ref 34),(I 11),(I 4),(.ref 42),(I 18),(I 4),(.ref 49),(I 21),(I 4),(.ref 56)]
noncomputable def o27(P:Xwj):Obj:=cd z14 198 z14 199 z1 200 5 0 0 0 0 25 false 181 26 .none .none .none 201 5 z1 202
noncomputable def o28(P:Xwj):Obj:=⟨(.type "frame"),none,.plain,⟨[some (.ref 27),some (.ref 3),some (.ref 24),none,some (.str z4 194),none,some (.ref 0)]⟩⟩
noncomputable def o29(P:Xwj):Obj:=Tu []
noncomputable def o30(P:Xwj):Obj:=Fi []
noncomputable def o31(P:Xwj):Obj:=Tu [(.str z24 211),(.str z25 212),(.str z26 213)]
noncomputable def o32(P:Xwj):Obj:=Tu []
noncomputable def o33(P:Xwj):Obj:=Fn (fnD (st2 2 0) z19 z27 0 [] .none .none .none .none none .none .none 0)
noncomputable def o34(P:Xwj):Obj:=cd z19 208 z27 209 z1 210 7 3 0 0 3 29 true 181 30 (.ref 31) (.ref 32) (.ref 33) 214 7 z1 215
noncomputable def o35(P:Xwj):Obj:=Fu (fnD (st2 2 0) z19 z27 3 [] .none .none .none (.str z4 194) none (.ref 34) .none 0)
noncomputable def o36(P:Xwj):Obj:=Tu [.none]
noncomputable def o37(P:Xwj):Obj:=Tu []
noncomputable def o38(P:Xwj):Obj:=Fi []
noncomputable def o39(P:Xwj):Obj:=Tu [(.str z24 220),(.str z28 221),(.str z29 222)]
noncomputable def o40(P:Xwj):Obj:=Tu []
noncomputable def o41(P:Xwj):Obj:=Fn (fnD (st2 2 1) z20 z30 0 [] .none .none .none .none none .none .none 0)
noncomputable def o42(P:Xwj):Obj:=cd z20 217 z30 218 z1 219 11 3 0 0 3 37 true 181 38 (.ref 39) (.ref 40) (.ref 41) 223 11 z1 224
noncomputable def o43(P:Xwj):Obj:=Fu (fnD (st2 2 1) z20 z30 3 [] (.ref 36) .none .none (.str z4 194) none (.ref 42) .none 0)
noncomputable def o44(P:Xwj):Obj:=Tu []
noncomputable def o45(P:Xwj):Obj:=Fi []
noncomputable def o46(P:Xwj):Obj:=Tu [(.str z24 229),(.str z28 230),(.str z31 231)]
noncomputable def o47(P:Xwj):Obj:=Tu []
noncomputable def o48(P:Xwj):Obj:=Fn (fnD (st2 2 2) z21 z32 0 [] .none .none .none .none none .none .none 0)
noncomputable def o49(P:Xwj):Obj:=cd z21 226 z32 227 z1 228 18 3 0 0 3 44 true 181 45 (.ref 46) (.ref 47) (.ref 48) 232 18 z1 233
noncomputable def o50(P:Xwj):Obj:=Fu (fnD (st2 2 2) z21 z32 3 [] .none .none .none (.str z4 194) none (.ref 49) .none 0)
noncomputable def o51(P:Xwj):Obj:=Tu []
noncomputable def o52(P:Xwj):Obj:=Fi []
noncomputable def o53(P:Xwj):Obj:=Tu [(.str z24 238),(.str z28 239)]
noncomputable def o54(P:Xwj):Obj:=Tu []
noncomputable def o55(P:Xwj):Obj:=Fn (fnD (st2 2 3) z22 z33 0 [] .none .none .none .none none .none .none 0)
noncomputable def o56(P:Xwj):Obj:=cd z22 235 z33 236 z1 237 21 2 0 0 3 51 true 181 52 (.ref 53) (.ref 54) (.ref 55) 240 21 z1 241
noncomputable def o57(P:Xwj):Obj:=Fu (fnD (st2 2 3) z22 z33 3 [] .none .none .none (.str z4 194) none (.ref 56) .none 0)
noncomputable def o58(P:Xwj):Obj:=Tu [(.str z5 243),(.str z25 244)]
noncomputable def o59(P:Xwj):Obj:=⟨(.type "dict"),none,.dict ⟨[kv P z16 203 (.str z4 194),kv P z18 207 (.int 5 206),kv P z19 216 (.ref 35),kv P z20 225 (.ref 43),kv P z21 234 (.ref 50),kv P z22 242 (.ref 57),kv P z23 245 (.ref 58),kv P z34 247 (.ref 61),kv P z35 249 (.ref 62),kv P z5 250 .none]⟩ 4,⟨[]⟩⟩
noncomputable def o60(P:Xwj):Obj:=⟨(.type "type"),none,.cls ⟨z14,[(.type "object")],[(.ref 60),(.type "object")],59,z14,true,[],[],false,none,false⟩,⟨[none,none,some (.str z14 196),some (.str z14 204),some (.builtin "object.__new__"),some (.bool true)]⟩⟩
noncomputable def o61(P:Xwj):Obj:=⟨(.type "getset_descriptor"),none,.fields ⟨[(.str z34 246),(.ref 60),(.builtin "function.__dict__"),(.builtin "function.__dict__#set")]⟩,⟨[]⟩⟩
noncomputable def o62(P:Xwj):Obj:=⟨(.type "getset_descriptor"),none,.fields ⟨[(.str z35 248),(.ref 60),(.builtin "ExceptionGroup.__weakref__"),.none]⟩,⟨[]⟩⟩
noncomputable def o63(P:Xwj):Obj:=⟨(.type "super"),none,.fields ⟨[(.ref 60),(.ref 60),(.ref 60)]⟩,⟨[]⟩⟩
noncomputable def o64(P:Xwj):Obj:=⟨(.type "builtin_function_or_method"),none,.fields ⟨[(.builtin "object.__init_subclass__"),(.ref 60)]⟩,⟨[]⟩⟩
noncomputable def Xv7(P:Xwj):Obj:=⟨(.type "dict"),none,.dict ⟨[kv P z3 165 (.str z4 194),kv P z5 166 .none,kv P z6 167 .none,kv P z7 168 (.builtin "__main__.__loader__#opaque"),kv P z8 169 .none,kv P z9 170 (.ref 6),kv P z10 171 (.ref 4),kv P z11 173 (.str z1 172),kv P z12 174 .none,kv P z13 193 (.ref 21),kv P z14 252 (.ref 60),kv P z36 380 (.ref 135)]⟩ 12,⟨[]⟩⟩
noncomputable def Xu3(P:Xwj):Obj:=Fi [(I 1),(I 0),(.ref 20),(I 5),(I 0),(.ref 27),(I 23),(I 0),(.ref 71)]
noncomputable def o65(P:Xwj):Obj:=Tu [(.type "tuple")]
noncomputable def o66(P:Xwj):Obj:=⟨(.type "builtin_function_or_method"),none,.fields ⟨[(.builtin "type.__prepare__"),(.type "type")]⟩,⟨[]⟩⟩
noncomputable def o67(P:Xwj):Obj:=⟨(.type "dict"),none,.dict ⟨[kv P z16 260 (.str z4 194),kv P z17 262 (.str z36 261),kv P z18 264 (.int 23 263),kv P z5 266 (.str (XaW (st1 3)) 265),kv P z37 268 (.ref 73),kv P z38 272 (.ref 74),kv P z39 273 (.ref 75),kv P z40 284 (.ref 82),kv P z41 306 (.ref 91),kv P z42 317 (.ref 100),kv P z43 318 (.ref 100),kv P z44 326 (.ref 107),kv P z45 333 (.ref 114),kv P z46 341 (.ref 121),kv P z47 345 (.ref 122),kv P z48 355 (.ref 124),kv P z49 365 (.ref 127),kv P z50 375 (.ref 130),kv P z23 376 (.ref 132),kv P z51 377 (.ref 68)]⟩ 20,⟨[]⟩⟩
noncomputable def o68(P:Xwj):Obj:=⟨(.type "cell"),none,.cell (some (.ref 135)),⟨[]⟩⟩
noncomputable def o69(P:Xwj):Obj:=Tu []
noncomputable def o70(P:Xwj):Obj:=Fi [(I 29),(I 4),(.ref 81),(I 34),(I 4),(.ref 88),(I 41),(I 4),(.ref 99),(I 52),(I 4),(.ref 106),(I 56),(I 4),(.ref 113),(I 59),(I 4),(.ref 120)]
noncomputable def o71(P:Xwj):Obj:=cd z36 255 z36 256 z1 257 23 0 0 0 0 69 false 181 70 .none .none .none 258 23 z1 259
noncomputable def o72(P:Xwj):Obj:=⟨(.type "frame"),none,.plain,⟨[some (.ref 71),some (.ref 3),some (.ref 67),none,some (.str z4 194),none,some (.ref 0)]⟩⟩
noncomputable def o73(P:Xwj):Obj:=Tu []
noncomputable def o74(P:Xwj):Obj:=Tu [(.str z48 269),(.str z49 270),(.str z50 271)]
noncomputable def o75(P:Xwj):Obj:=⟨(.type "dict"),none,.dict ⟨[]⟩ 0,⟨[]⟩⟩
noncomputable def o76(P:Xwj):Obj:=Tu []
noncomputable def o77(P:Xwj):Obj:=Fi []
noncomputable def o78(P:Xwj):Obj:=Tu [(.str z52 277),(.str z48 278),(.str z49 279),(.str z50 280)]
noncomputable def o79(P:Xwj):Obj:=Tu []
noncomputable def o80(P:Xwj):Obj:=Fn (fnD (st2 3 4) z40 z53 0 [] .none .none .none .none none .none .none 0)
noncomputable def o81(P:Xwj):Obj:=cd z40 274 z53 275 z1 276 29 4 0 0 3 76 true 181 77 (.ref 78) (.ref 79) (.ref 80) 281 29 z1 282
noncomputable def o82(P:Xwj):Obj:=Fu (fnD (st2 3 4) z40 z53 3 [] .none .none (.str (XaW (st2 3 4)) 283) (.str z4 194) none (.ref 81) .none 0)
noncomputable def o83(P:Xwj):Obj:=Tu []
noncomputable def o84(P:Xwj):Obj:=Fi []
noncomputable def o85(P:Xwj):Obj:=Tu [(.str z54 288),(.str z55 289),(.str z56 290)]
noncomputable def o86(P:Xwj):Obj:=Tu []
noncomputable def o87(P:Xwj):Obj:=Fn (fnD (st2 3 5) z41 z57 0 [] .none .none .none .none none .none .none 0)
noncomputable def o88(P:Xwj):Obj:=cd z41 285 z57 286 z1 287 33 2 0 0 3 83 true 181 84 (.ref 85) (.ref 86) (.ref 87) 291 33 z1 292
noncomputable def o89(P:Xwj):Obj:=Fu (fnD (st2 3 5) z41 z57 3 [] .none .none (.str (XaW (st2 3 5)) 293) (.str z4 194) (some 92) (.ref 88) .none 0)
noncomputable def o90(P:Xwj):Obj:=⟨(.type "dict"),none,.dict ⟨[kv P z16 295 (.str z4 194),kv P z3 298 (.str z41 297),kv P z17 301 (.str z57 300),kv P z5 303 (.str (XaW (st2 3 5)) 293),kv P z9 305 (.ref 92)]⟩ 5,⟨[]⟩⟩
noncomputable def o91(P:Xwj):Obj:=⟨(.type "classmethod"),some 90,.fields ⟨[(.ref 89),(.bool false)]⟩,⟨[]⟩⟩
noncomputable def o92(P:Xwj):Obj:=⟨(.type "dict"),none,.dict ⟨[]⟩ 0,⟨[]⟩⟩
noncomputable def o93(P:Xwj):Obj:=Tu [(.ref 68)]
noncomputable def o94(P:Xwj):Obj:=Tu [(.str z58 310)]
noncomputable def o95(P:Xwj):Obj:=Fi []
noncomputable def o96(P:Xwj):Obj:=Tu [(.str z24 311),(.str z59 312),(.str z56 313)]
noncomputable def o97(P:Xwj):Obj:=Tu []
noncomputable def o98(P:Xwj):Obj:=Fn (fnD (st2 3 6) z42 z60 0 [] .none .none .none .none none .none .none 0)
noncomputable def o99(P:Xwj):Obj:=cd z42 307 z60 308 z1 309 41 1 1 0 11 94 true 181 95 (.ref 96) (.ref 97) (.ref 98) 314 41 z1 315
noncomputable def Xkl(P:Xwj):Obj:=Fu (fnD (st2 3 6) z42 z60 3 [(z58,68)] .none .none (.str (XaW (st2 3 6)) 316) (.str z4 194) none (.ref 99) (.ref 93) 0)
noncomputable def Xkk(P:Xwj):Obj:=Tu []
noncomputable def Xkj(P:Xwj):Obj:=Fi []
noncomputable def Xki(P:Xwj):Obj:=Tu [(.str z24 322)]
noncomputable def Xkh(P:Xwj):Obj:=Tu []
noncomputable def Xkg(P:Xwj):Obj:=Fn (fnD (st2 3 8) z44 z61 0 [] .none .none .none .none none .none .none 0)
noncomputable def Xkf(P:Xwj):Obj:=cd z44 319 z61 320 z1 321 52 1 0 0 3 101 true 181 102 (.ref 103) (.ref 104) (.ref 105) 323 52 z1 324
noncomputable def Xke(P:Xwj):Obj:=Fu (fnD (st2 3 8) z44 z61 3 [] .none .none (.str (XaW (st2 3 8)) 325) (.str z4 194) none (.ref 106) .none 0)
noncomputable def Xkd(P:Xwj):Obj:=Tu []
noncomputable def Xkc(P:Xwj):Obj:=Fi []
noncomputable def Xkb(P:Xwj):Obj:=Tu [(.str z24 330)]
noncomputable def Xka(P:Xwj):Obj:=Tu []
noncomputable def Xj9(P:Xwj):Obj:=Fn (fnD (st2 3 9) z45 z62 0 [] .none .none .none .none none .none .none 0)
noncomputable def Xj8(P:Xwj):Obj:=cd z45 327 z62 328 z1 329 56 1 0 0 3 108 true 181 109 (.ref 110) (.ref 111) (.ref 112) 331 56 z1 332
noncomputable def Xj7(P:Xwj):Obj:=Fu (fnD (st2 3 9) z45 z62 3 [] .none .none .none (.str z4 194) none (.ref 113) .none 0)
noncomputable def Xj6(P:Xwj):Obj:=Tu []
noncomputable def Xj5(P:Xwj):Obj:=Fi []
noncomputable def Xj4(P:Xwj):Obj:=Tu [(.str z24 337)]
noncomputable def Xj3(P:Xwj):Obj:=Tu []
noncomputable def Xj2(P:Xwj):Obj:=Fn (fnD (st2 3 10) z46 z63 0 [] .none .none .none .none none .none .none 0)
noncomputable def Xj1(P:Xwj):Obj:=cd z46 334 z63 335 z1 336 59 1 0 0 3 115 true 181 116 (.ref 117) (.ref 118) (.ref 119) 338 59 z1 339
noncomputable def Xj0(P:Xwj):Obj:=Fu (fnD (st2 3 10) z46 z63 3 [] .none .none (.str (XaW (st2 3 10)) 340) (.str z4 194) none (.ref 120) .none 0)
noncomputable def XjZ(P:Xwj):Obj:=Tu [(.str z48 342),(.str z49 343),(.str z50 344)]
noncomputable def XjY(P:Xwj):Obj:=⟨(.type "dict"),none,.dict ⟨[kv P z25 352 (.int 0 346),kv P z5 354 (.str z64 347)]⟩ 2,⟨[]⟩⟩
noncomputable def XjX(P:Xwj):Obj:=⟨(.ref 60),some 123,.plain,⟨[]⟩⟩
noncomputable def XjW(P:Xwj):Obj:=⟨(.type "frame"),none,.dict ⟨[kv P z24 348 (.ref 124),kv P z25 349 (.int 0 346),kv P z26 350 (.str z64 347)]⟩ 3,⟨[]⟩⟩
noncomputable def XjV(P:Xwj):Obj:=⟨(.type "dict"),none,.dict ⟨[kv P z25 362 (.int 1 356),kv P z5 364 (.str z65 357)]⟩ 2,⟨[]⟩⟩
noncomputable def XjU(P:Xwj):Obj:=⟨(.ref 60),some 126,.plain,⟨[]⟩⟩
noncomputable def XjT(P:Xwj):Obj:=⟨(.type "frame"),none,.dict ⟨[kv P z24 358 (.ref 127),kv P z25 359 (.int 1 356),kv P z26 360 (.str z65 357)]⟩ 3,⟨[]⟩⟩
noncomputable def XjS(P:Xwj):Obj:=⟨(.type "dict"),none,.dict ⟨[kv P z25 372 (.int 2 366),kv P z5 374 (.str z66 367)]⟩ 2,⟨[]⟩⟩
noncomputable def XjR(P:Xwj):Obj:=⟨(.ref 60),some 129,.plain,⟨[]⟩⟩
noncomputable def XjQ(P:Xwj):Obj:=⟨(.type "frame"),none,.dict ⟨[kv P z24 368 (.ref 130),kv P z25 369 (.int 2 366),kv P z26 370 (.str z66 367)]⟩ 3,⟨[]⟩⟩
noncomputable def XjP(P:Xwj):Obj:=Tu []
noncomputable def XjO(P:Xwj):Obj:=⟨(.type "list"),none,.seq ⟨[]⟩ 0,⟨[]⟩⟩
noncomputable def XjN(P:Xwj):Obj:=⟨(.type "dict"),none,.dict ⟨[kv P z16 260 (.str z4 194),kv P z18 264 (.int 23 263),kv P z5 266 (.str (XaW (st1 3)) 265),kv P z37 268 (.ref 73),kv P z38 272 (.ref 74),kv P z39 273 (.ref 75),kv P z40 284 (.ref 136),kv P z41 306 (.ref 91),kv P z42 317 (.ref 100),kv P z43 318 (.ref 100),kv P z44 326 (.ref 107),kv P z45 333 (.ref 114),kv P z46 341 (.ref 121),kv P z47 345 (.ref 122),kv P z48 355 (.ref 124),kv P z49 365 (.ref 127),kv P z50 375 (.ref 130),kv P z23 376 (.ref 132)]⟩ 2,⟨[]⟩⟩
noncomputable def Xgs(P:Xwj):Obj:=⟨(.type "type"),none,.cls ⟨z36,[(.type "tuple")],[(.ref 135),(.type "tuple"),(.type "object")],134,z36,false,[],[],false,none,false⟩,⟨[some (.ref 65),none,some (.str z36 253),some (.str z36 261),some .none,some (.bool false)]⟩⟩
noncomputable def XjM(P:Xwj):Obj:=⟨(.type "staticmethod"),none,.fields ⟨[(.ref 82)]⟩,⟨[]⟩⟩
noncomputable def XjL(P:Xwj):Obj:=⟨(.type "super"),none,.fields ⟨[(.ref 135),(.ref 135),(.ref 135)]⟩,⟨[]⟩⟩
noncomputable def XjK(P:Xwj):Obj:=⟨(.type "builtin_function_or_method"),none,.fields ⟨[(.builtin "object.__init_subclass__"),(.ref 135)]⟩,⟨[]⟩⟩
noncomputable def Xv6(P:Xwj):Obj:=⟨(.type "dict"),none,.dict ⟨[kv P z3 165 (.str z4 194),kv P z5 166 .none,kv P z6 167 .none,kv P z7 168 (.builtin "__main__.__loader__#opaque"),kv P z8 169 .none,kv P z9 170 (.ref 6),kv P z10 171 (.ref 4),kv P z11 173 (.str z1 172),kv P z12 174 .none,kv P z13 193 (.ref 21),kv P z14 252 (.ref 60),kv P z36 380 (.ref 135),kv P z67 388 (.ref 145),kv P z68 591 (.ref 242)]⟩ 14,⟨[]⟩⟩
noncomputable def Xu2(P:Xwj):Obj:=Fi [(I 1),(I 0),(.ref 20),(I 5),(I 0),(.ref 27),(I 23),(I 0),(.ref 71),(I 66),(I 0),(.ref 144),(I 70),(I 0),(.ref 151)]
noncomputable def Xn4(P:Xwj):Obj:=Tu []
noncomputable def Xn3(P:Xwj):Obj:=Fi []
noncomputable def Xn2(P:Xwj):Obj:=Tu [(.str z69 384),(.str z70 385)]
noncomputable def Xn1(P:Xwj):Obj:=Tu []
noncomputable def Xn0(P:Xwj):Obj:=Fn (fnN (st1 4) z67)
noncomputable def XnZ(P:Xwj):Obj:=cd z67 381 z67 382 z1 383 66 2 0 0 3 139 true 181 140 (.ref 141) (.ref 142) (.ref 143) 386 66 z1 387
noncomputable def XnY(P:Xwj):Obj:=Fu (fnD (st1 4) z67 z67 3 [] .none .none .none (.str z4 194) none (.ref 144) .none 0)
noncomputable def XnX(P:Xwj):Obj:=Tu []
noncomputable def XnW(P:Xwj):Obj:=⟨(.type "builtin_function_or_method"),none,.fields ⟨[(.builtin "type.__prepare__"),(.type "type")]⟩,⟨[]⟩⟩
noncomputable def XnV(P:Xwj):Obj:=⟨(.type "dict"),none,.dict ⟨[kv P z16 396 (.str z4 194),kv P z17 398 (.str z68 397),kv P z18 400 (.int 70 399),kv P z5 402 (.str (XaW (st1 5)) 401),kv P z19 417 (.ref 160),kv P z71 427 (.ref 167),kv P z72 436 (.ref 174),kv P z73 445 (.ref 181),kv P z74 463 (.ref 188),kv P z75 491 (.ref 196),kv P z76 518 (.ref 203),kv P z77 533 (.ref 210),kv P z78 551 (.ref 218),kv P z79 560 (.ref 225),kv P z80 567 (.ref 232),kv P z81 574 (.ref 239),kv P z23 585 (.ref 240)]⟩ 17,⟨[]⟩⟩
noncomputable def XnU(P:Xwj):Obj:=Tu []
noncomputable def XnT(P:Xwj):Obj:=Fi [(I 145),(I 4),(.ref 159),(I 173),(I 4),(.ref 166),(I 184),(I 4),(.ref 173),(I 209),(I 4),(.ref 180),(I 236),(I 4),(.ref 187),(I 260),(I 4),(.ref 195),(I 335),(I 4),(.ref 202),(I 383),(I 4),(.ref 209),(I 430),(I 4),(.ref 217),(I 475),(I 4),(.ref 224),(I 499),(I 4),(.ref 231),(I 502),(I 4),(.ref 238)]
noncomputable def XnS(P:Xwj):Obj:=cd z68 391 z68 392 z1 393 70 0 0 0 0 149 false 181 150 .none .none .none 394 70 z1 395
noncomputable def XnR(P:Xwj):Obj:=⟨(.type "frame"),none,.plain,⟨[some (.ref 151),some (.ref 3),some (.ref 148),none,some (.str z4 194),none,some (.ref 0)]⟩⟩
noncomputable def XnQ(P:Xwj):Obj:=Tu [.none,(.str z82 404),(.str z82 405),(.bool true)]
noncomputable def XnP(P:Xwj):Obj:=Tu []
noncomputable def XnO(P:Xwj):Obj:=Fi []
noncomputable def XnN(P:Xwj):Obj:=Tu [(.str z24 409),(.str z83 410),(.str z48 411),(.str z49 412),(.str z84 413)]
noncomputable def XnM(P:Xwj):Obj:=Tu []
noncomputable def XnL(P:Xwj):Obj:=Fn (fnD (st2 5 1) z19 z85 0 [] .none .none .none .none none .none .none 0)
noncomputable def Xgr(P:Xwj):Obj:=cd z19 406 z85 407 z1 408 145 5 0 0 3 154 true 181 155 (.ref 156) (.ref 157) (.ref 158) 414 145 z1 415
noncomputable def Xgq(P:Xwj):Obj:=Fu (fnD (st2 5 1) z19 z85 3 [] (.ref 153) .none (.str (XaW (st2 5 1)) 416) (.str z4 194) none (.ref 159) .none 0)
noncomputable def XnK(P:Xwj):Obj:=Tu []
noncomputable def XnJ(P:Xwj):Obj:=Fi []
noncomputable def XnI(P:Xwj):Obj:=Tu [(.str z24 421),(.str z48 422),(.str z49 423)]
noncomputable def XnH(P:Xwj):Obj:=Tu []
noncomputable def XnG(P:Xwj):Obj:=Fn (fnD (st2 5 2) z71 z86 0 [] .none .none .none .none none .none .none 0)
noncomputable def Xgp(P:Xwj):Obj:=cd z71 418 z86 419 z1 420 173 3 0 0 3 161 true 181 162 (.ref 163) (.ref 164) (.ref 165) 424 173 z1 425
noncomputable def Xgo(P:Xwj):Obj:=Fu (fnD (st2 5 2) z71 z86 3 [] .none .none (.str (XaW (st2 5 2)) 426) (.str z4 194) none (.ref 166) .none 0)
noncomputable def XnF(P:Xwj):Obj:=Tu []
noncomputable def XnE(P:Xwj):Obj:=Fi []
noncomputable def XnD(P:Xwj):Obj:=Tu [(.str z24 431),(.str z48 432)]
noncomputable def XnC(P:Xwj):Obj:=Tu []
noncomputable def XnB(P:Xwj):Obj:=Fn (fnD (st2 5 3) z72 z87 0 [] .none .none .none .none none .none .none 0)
noncomputable def Xgn(P:Xwj):Obj:=cd z72 428 z87 429 z1 430 184 2 0 0 3 168 true 181 169 (.ref 170) (.ref 171) (.ref 172) 433 184 z1 434
noncomputable def XhZ(P:Xwj):Obj:=Fu (fnD (st2 5 3) z72 z87 3 [] .none .none (.str (XaW (st2 5 3)) 435) (.str z4 194) none (.ref 173) .none 0)
noncomputable def XnA(P:Xwj):Obj:=Tu []
noncomputable def Xnz(P:Xwj):Obj:=Fi []
noncomputable def Xny(P:Xwj):Obj:=Tu [(.str z24 440),(.str z49 441)]
noncomputable def Xnx(P:Xwj):Obj:=Tu []
noncomputable def Xnw(P:Xwj):Obj:=Fn (fnD (st2 5 4) z73 z88 0 [] .none .none .none .none none .none .none 0)
noncomputable def Xgm(P:Xwj):Obj:=cd z73 437 z88 438 z1 439 209 2 0 0 3 175 true 181 176 (.ref 177) (.ref 178) (.ref 179) 442 209 z1 443
noncomputable def Xgl(P:Xwj):Obj:=Fu (fnD (st2 5 4) z73 z88 3 [] .none .none (.str (XaW (st2 5 4)) 444) (.str z4 194) none (.ref 180) .none 0)
noncomputable def Xnv(P:Xwj):Obj:=Tu []
noncomputable def Xnu(P:Xwj):Obj:=Fi []
noncomputable def Xnt(P:Xwj):Obj:=Tu [(.str z24 449),(.str z49 450),(.str z89 451),(.str z90 452),(.str z91 453),(.str z92 454),(.str z93 455),(.str z83 456),(.str z94 457),(.str z95 458),(.str z96 459),(.str z97 460)]
noncomputable def Xns(P:Xwj):Obj:=Tu []
noncomputable def Xnr(P:Xwj):Obj:=Fn (fnD (st2 5 5) z98 z99 0 [] .none .none .none .none none .none .none 0)
noncomputable def Xgk(P:Xwj):Obj:=cd z98 446 z99 447 z1 448 236 1 0 0 3 182 true 181 183 (.ref 184) (.ref 185) (.ref 186) 461 236 z1 462
noncomputable def Xgj(P:Xwj):Obj:=Fu (fnD (st2 5 5) z98 z99 3 [] .none .none .none (.str z4 194) none (.ref 187) .none 0)
noncomputable def Xnq(P:Xwj):Obj:=Tu [(.int 0 464),.none,(.int 0 465),.none]
noncomputable def Xnp(P:Xwj):Obj:=Tu []
noncomputable def Xno(P:Xwj):Obj:=Fi []
noncomputable def Xnn(P:Xwj):Obj:=Tu [(.str z24 469),(.str Xt4 470),(.str Xt3 471),(.str Xt2 472),(.str Xt1 473),(.str z48 474),(.str z49 475),(.str z89 476),(.str Xv3 477),(.str Xv2 478),(.str Xv1 479),(.str Xv0 480),(.str XvZ 481),(.str XvY 482),(.str z90 483),(.str XvX 484),(.str XvW 485),(.str Xqp 486),(.str z15 487)]
noncomputable def Xnm(P:Xwj):Obj:=Tu []
noncomputable def Xnl(P:Xwj):Obj:=Fn (fnD (st2 5 6) z75 Xqo 0 [] .none .none .none .none none .none .none 0)
noncomputable def Xgi(P:Xwj):Obj:=cd z75 466 Xqo 467 z1 468 260 5 0 0 3 190 true 181 191 (.ref 192) (.ref 193) (.ref 194) 488 260 z1 489
noncomputable def Xgh(P:Xwj):Obj:=Fu (fnD (st2 5 6) z75 Xqo 3 [] (.ref 189) .none (.str (XaW (st2 5 6)) 490) (.str z4 194) none (.ref 195) .none 0)
noncomputable def Xnk(P:Xwj):Obj:=Tu []
noncomputable def Xnj(P:Xwj):Obj:=Fi []
noncomputable def Xni(P:Xwj):Obj:=Tu [(.str z24 495),(.str XvV 496),(.str XvU 497),(.str XvT 498),(.str Xt0 499),(.str Xt4 500),(.str Xt3 501),(.str Xt2 502),(.str Xt1 503),(.str z90 504),(.str Xqp 505),(.str z15 506),(.str XtZ 507),(.str Xmo 508),(.str Xmn 509),(.str XvS 510),(.str XvR 511),(.str Xmm 512),(.str Xml 513),(.str XvQ 514)]
noncomputable def Xnh(P:Xwj):Obj:=Tu []
noncomputable def Xng(P:Xwj):Obj:=Fn (fnD (st2 5 7) z76 Xqn 0 [] .none .none .none .none none .none .none 0)
noncomputable def Xgg(P:Xwj):Obj:=cd z76 492 Xqn 493 z1 494 335 1 0 0 3 197 true 181 198 (.ref 199) (.ref 200) (.ref 201) 515 335 z1 516
noncomputable def Xgf(P:Xwj):Obj:=Fu (fnD (st2 5 7) z76 Xqn 3 [] .none .none (.str (XaW (st2 5 7)) 517) (.str z4 194) none (.ref 202) .none 0)
noncomputable def Xnf(P:Xwj):Obj:=Tu []
noncomputable def Xne(P:Xwj):Obj:=Fi []
noncomputable def Xnd(P:Xwj):Obj:=Tu [(.str z24 522),(.str z90 523),(.str Xqp 524),(.str XvP 525),(.str XvO 526),(.str XvN 527),(.str z50 528),(.str Xmk 529)]
noncomputable def Xnc(P:Xwj):Obj:=Tu []
noncomputable def Xnb(P:Xwj):Obj:=Fn (fnD (st2 5 8) z77 Xqm 0 [] .none .none .none .none none .none .none 0)
noncomputable def Xge(P:Xwj):Obj:=cd z77 519 Xqm 520 z1 521 383 1 0 0 3 204 true 181 205 (.ref 206) (.ref 207) (.ref 208) 530 383 z1 531
noncomputable def Xgd(P:Xwj):Obj:=Fu (fnD (st2 5 8) z77 Xqm 3 [] .none .none (.str (XaW (st2 5 8)) 532) (.str z4 194) none (.ref 209) .none 0)
noncomputable def Xna(P:Xwj):Obj:=Tu [(.int 3 534)]
noncomputable def Xm9(P:Xwj):Obj:=Tu []
noncomputable def Xm8(P:Xwj):Obj:=Fi []
noncomputable def Xm7(P:Xwj):Obj:=Tu [(.str z24 538),(.str z95 539),(.str XvM 540),(.str Xmk 541),(.str Xmo 542),(.str Xmm 543),(.str Xmn 544),(.str Xml 545),(.str XvL 546),(.str Xql 547)]
noncomputable def Xm6(P:Xwj):Obj:=Tu []
noncomputable def Xm5(P:Xwj):Obj:=Fn (fnD (st2 5 9) z78 Xqk 0 [] .none .none .none .none none .none .none 0)
noncomputable def Xgc(P:Xwj):Obj:=cd z78 535 Xqk 536 z1 537 430 2 0 0 35 212 true 181 213 (.ref 214) (.ref 215) (.ref 216) 548 430 z1 549
noncomputable def XhY(P:Xwj):Obj:=Fu (fnD (st2 5 9) z78 Xqk 3 [] (.ref 211) .none (.str (XaW (st2 5 9)) 550) (.str z4 194) none (.ref 217) .none 0)
noncomputable def Xm4(P:Xwj):Obj:=Tu []
noncomputable def Xm3(P:Xwj):Obj:=Fi []
noncomputable def Xm2(P:Xwj):Obj:=Tu [(.str z24 555),(.str z69 556)]
noncomputable def Xm1(P:Xwj):Obj:=Tu []
noncomputable def Xm0(P:Xwj):Obj:=Fn (fnD (st2 5 10) z79 Xqj 0 [] .none .none .none .none none .none .none 0)
noncomputable def XmZ(P:Xwj):Obj:=cd z79 552 Xqj 553 z1 554 475 1 0 0 3 219 true 181 220 (.ref 221) (.ref 222) (.ref 223) 557 475 z1 558
noncomputable def XmY(P:Xwj):Obj:=Fu (fnD (st2 5 10) z79 Xqj 3 [] .none .none (.str (XaW (st2 5 10)) 559) (.str z4 194) none (.ref 224) .none 0)
noncomputable def XmX(P:Xwj):Obj:=Tu []
noncomputable def XmW(P:Xwj):Obj:=Fi []
noncomputable def XmV(P:Xwj):Obj:=Tu [(.str z24 564)]
noncomputable def XmU(P:Xwj):Obj:=Tu []
noncomputable def XmT(P:Xwj):Obj:=Fn (fnD (st2 5 11) z80 Xqi 0 [] .none .none .none .none none .none .none 0)
noncomputable def XmS(P:Xwj):Obj:=cd z80 561 Xqi 562 z1 563 499 1 0 0 3 226 true 181 227 (.ref 228) (.ref 229) (.ref 230) 565 499 z1 566
noncomputable def XmR(P:Xwj):Obj:=Fu (fnD (st2 5 11) z80 Xqi 3 [] .none .none .none (.str z4 194) none (.ref 231) .none 0)
noncomputable def XmQ(P:Xwj):Obj:=Tu []
noncomputable def XmP(P:Xwj):Obj:=Fi []
noncomputable def XmO(P:Xwj):Obj:=Tu [(.str z24 571)]
noncomputable def XmN(P:Xwj):Obj:=Tu []
noncomputable def XmM(P:Xwj):Obj:=Fn (fnD (st2 5 12) z81 Xqh 0 [] .none .none .none .none none .none .none 0)
noncomputable def XmL(P:Xwj):Obj:=cd z81 568 Xqh 569 z1 570 502 1 0 0 3 233 true 181 234 (.ref 235) (.ref 236) (.ref 237) 572 502 z1 573
noncomputable def XmK(P:Xwj):Obj:=Fu (fnD (st2 5 12) z81 Xqh 3 [] .none .none .none (.str z4 194) none (.ref 238) .none 0)
noncomputable def XmJ(P:Xwj):Obj:=Tu [(.str z48 575),(.str z84 576),(.str z49 577),(.str z89 578),(.str XvK 579),(.str XvJ 580),(.str XvI 581),(.str z83 582),(.str Xt0 583),(.str XvH 584)]
noncomputable def XmI(P:Xwj):Obj:=⟨(.type "dict"),none,.dict ⟨[kv P z16 396 (.str z4 194),kv P z18 400 (.int 70 399),kv P z5 402 (.str (XaW (st1 5)) 401),kv P z19 417 (.ref 160),kv P z71 427 (.ref 167),kv P z72 436 (.ref 174),kv P z73 445 (.ref 181),kv P z74 463 (.ref 188),kv P z75 491 (.ref 196),kv P z76 518 (.ref 203),kv P z77 533 (.ref 210),kv P z78 551 (.ref 218),kv P z79 560 (.ref 225),kv P z80 567 (.ref 232),kv P z81 574 (.ref 239),kv P z23 585 (.ref 240),kv P z34 587 (.ref 243),kv P z35 589 (.ref 244)]⟩ 3,⟨[]⟩⟩
noncomputable def XjJ(P:Xwj):Obj:=⟨(.type "type"),none,.cls ⟨z68,[(.type "object")],[(.ref 242),(.type "object")],241,z68,true,[],[],false,none,false⟩,⟨[none,none,some (.str z68 389),some (.str z68 397),some (.builtin "object.__new__"),some (.bool true)]⟩⟩
noncomputable def XmH(P:Xwj):Obj:=⟨(.type "getset_descriptor"),none,.fields ⟨[(.str z34 586),(.ref 242),(.builtin "function.__dict__"),(.builtin "function.__dict__#set")]⟩,⟨[]⟩⟩
noncomputable def XmG(P:Xwj):Obj:=⟨(.type "getset_descriptor"),none,.fields ⟨[(.str z35 588),(.ref 242),(.builtin "ExceptionGroup.__weakref__"),.none]⟩,⟨[]⟩⟩
noncomputable def XmF(P:Xwj):Obj:=⟨(.type "super"),none,.fields ⟨[(.ref 242),(.ref 242),(.ref 242)]⟩,⟨[]⟩⟩
noncomputable def XmE(P:Xwj):Obj:=⟨(.type "builtin_function_or_method"),none,.fields ⟨[(.builtin "object.__init_subclass__"),(.ref 242)]⟩,⟨[]⟩⟩
noncomputable def Xcq(P:Xwj):Obj:=⟨(.type "dict"),none,.dict ⟨[kv P z3 165 (.str Xjj 721),kv P z5 166 .none,kv P z6 167 .none,kv P z7 168 (.builtin "__main__.__loader__#opaque"),kv P z8 169 .none,kv P z9 170 (.ref 6),kv P z10 171 (.ref 4),kv P z11 173 (.str z1 172),kv P z12 174 .none,kv P z13 193 (.ref 21),kv P z14 252 (.ref 60),kv P z36 380 (.ref 135),kv P z67 388 (.ref 145),kv P z68 591 (.ref 242),kv P XhG 602 (.ref 253),kv P XhF 637 (.ref 261),kv P XhE 648 (.ref 268),kv P XhD 685 (.ref 276),kv P XhC 695 (.ref 283),kv P XhB 720 (.ref 291),kv P XhA 730 (.ref 298),kv P Xhz 736 (.ref 303),kv P Xhy 742 (.ref 308),kv P Xhx 748 (.ref 313)]⟩ 24,⟨[]⟩⟩
noncomputable def Xn5(P:Xwj):Obj:=Fi [(I 1),(I 0),(.ref 20),(I 5),(I 0),(.ref 27),(I 23),(I 0),(.ref 71),(I 66),(I 0),(.ref 144),(I 70),(I 0),(.ref 151),(I 504),(I 0),(.ref 252),(I 513),(I 0),(.ref 260),(I 576),(I 0),(.ref 267),(I 585),(I 0),(.ref 275),(I 653),(I 0),(.ref 282),(I 661),(I 0),(.ref 290),(I 689),(I 0),(.ref 297),(I 695),(I 0),(.ref 302),(I 697),(I 0),(.ref 307),(I 699),(I 0),(.ref 312)]
noncomputable def Xrr(P:Xwj):Obj:=Tu []
noncomputable def Xrq(P:Xwj):Obj:=Fi []
noncomputable def Xrp(P:Xwj):Obj:=Tu [(.str XtY 595),(.str XtX 596),(.str XtW 597),(.str z70 598)]
noncomputable def Xro(P:Xwj):Obj:=Tu []
noncomputable def Xrn(P:Xwj):Obj:=Fn (fnN (st1 6) XhG)
noncomputable def XhX(P:Xwj):Obj:=cd XhG 592 XhG 593 z1 594 504 2 0 0 3 247 true 181 248 (.ref 249) (.ref 250) (.ref 251) 599 504 z1 600
noncomputable def XjI(P:Xwj):Obj:=Fu (fnD (st1 6) XhG XhG 3 [] .none .none (.str (XaW (st1 6)) 601) (.str z4 194) none (.ref 252) .none 0)
noncomputable def Xrm(P:Xwj):Obj:=Tu [(.str z82 603),(.str z82 604),(.str z82 605),(.str z82 606),(.int 3 607),(.str XtV 608)]
noncomputable def Xrl(P:Xwj):Obj:=Tu []
noncomputable def Xrk(P:Xwj):Obj:=Fi []
noncomputable def Xrj(P:Xwj):Obj:=Tu [(.str z48 612),(.str z49 613),(.str Xqg 614),(.str Xqf 615),(.str Xqe 616),(.str Xqd 617),(.str z95 618),(.str Xqc 619),(.str XtU 620),(.str Xql 621),(.str XtT 622),(.str XtS 623),(.str XtR 624),(.str XtQ 625),(.str XtP 626),(.str XtO 627),(.str Xmk 628),(.str Xmo 629),(.str Xmm 630),(.str Xmn 631),(.str Xml 632),(.str Xqb 633)]
noncomputable def Xri(P:Xwj):Obj:=Tu []
noncomputable def Xrh(P:Xwj):Obj:=Fn (fnN (st1 7) XhF)
noncomputable def XhW(P:Xwj):Obj:=cd XhF 609 XhF 610 z1 611 513 8 0 0 35 255 true 181 256 (.ref 257) (.ref 258) (.ref 259) 634 513 z1 635
noncomputable def XjH(P:Xwj):Obj:=Fu (fnD (st1 7) XhF XhF 3 [] (.ref 254) .none (.str (XaW (st1 7)) 636) (.str z4 194) none (.ref 260) .none 0)
noncomputable def Xrg(P:Xwj):Obj:=Tu []
noncomputable def Xrf(P:Xwj):Obj:=Fi []
noncomputable def Xre(P:Xwj):Obj:=Tu [(.str XtY 641),(.str XtX 642),(.str XtW 643),(.str z70 644)]
noncomputable def Xrd(P:Xwj):Obj:=Tu []
noncomputable def Xrc(P:Xwj):Obj:=Fn (fnN (st1 8) XhE)
noncomputable def XhV(P:Xwj):Obj:=cd XhE 638 XhE 639 z1 640 576 2 0 0 3 262 true 181 263 (.ref 264) (.ref 265) (.ref 266) 645 576 z1 646
noncomputable def XjG(P:Xwj):Obj:=Fu (fnD (st1 8) XhE XhE 3 [] .none .none (.str (XaW (st1 6)) 647) (.str z4 194) none (.ref 267) .none 0)
noncomputable def Xrb(P:Xwj):Obj:=Tu [(.str z82 649),(.str z82 650),(.str z82 651),(.str z82 652),(.int 3 653),(.str XtV 654)]
noncomputable def Xra(P:Xwj):Obj:=Tu []
noncomputable def XjF(P:Xwj):Obj:=Fi []
noncomputable def Xq9(P:Xwj):Obj:=Tu [(.str z48 658),(.str z49 659),(.str Xqg 660),(.str Xqf 661),(.str Xqe 662),(.str Xqd 663),(.str z95 664),(.str Xqc 665),(.str XvG 666),(.str XtU 667),(.str Xql 668),(.str XtT 669),(.str XtS 670),(.str XtR 671),(.str XtQ 672),(.str XtP 673),(.str Xmk 674),(.str Xmo 675),(.str Xmm 676),(.str XvF 677),(.str Xqb 678),(.str XtO 679),(.str Xmn 680),(.str Xml 681)]
noncomputable def Xq8(P:Xwj):Obj:=Tu []
noncomputable def Xq7(P:Xwj):Obj:=Fn (fnN (st1 9) XhD)
noncomputable def Xgb(P:Xwj):Obj:=cd XhD 655 XhD 656 z1 657 585 8 0 0 35 270 true 181 271 (.ref 272) (.ref 273) (.ref 274) 682 585 z1 683
noncomputable def XjE(P:Xwj):Obj:=Fu (fnD (st1 9) XhD XhD 3 [] (.ref 269) .none (.str (XaW (st1 9)) 684) (.str z4 194) none (.ref 275) .none 0)
noncomputable def Xq6(P:Xwj):Obj:=Tu []
noncomputable def Xq5(P:Xwj):Obj:=Fi []
noncomputable def Xq4(P:Xwj):Obj:=Tu [(.str z48 689),(.str z49 690),(.str XvE 691),(.str XvD 692)]
noncomputable def Xq3(P:Xwj):Obj:=Tu []
noncomputable def Xq2(P:Xwj):Obj:=Fn (fnN (st1 10) XhC)
noncomputable def XhU(P:Xwj):Obj:=cd XhC 686 XhC 687 z1 688 653 2 0 0 7 277 true 181 278 (.ref 279) (.ref 280) (.ref 281) 693 653 z1 694
noncomputable def XeV(P:Xwj):Obj:=Fu (fnD (st1 10) XhC XhC 3 [] .none .none .none (.str z4 194) none (.ref 282) .none 0)
noncomputable def Xq1(P:Xwj):Obj:=Tu [(.bytes ⟨[]⟩ 696),(.bytes ⟨[]⟩ 697),(.bytes ⟨[]⟩ 698),(.bytes ⟨[]⟩ 699),(.int 3 700),(.bytes ⟨[10]⟩ 701)]
noncomputable def Xq0(P:Xwj):Obj:=Tu []
noncomputable def XjD(P:Xwj):Obj:=Fi []
noncomputable def XqZ(P:Xwj):Obj:=Tu [(.str XvC 705),(.str z48 706),(.str z49 707),(.str Xqg 708),(.str Xqf 709),(.str Xqe 710),(.str Xqd 711),(.str z95 712),(.str Xqc 713),(.str XvB 714),(.str XvA 715),(.str Xqb 716)]
noncomputable def XqY(P:Xwj):Obj:=Tu []
noncomputable def XqX(P:Xwj):Obj:=Fn (fnN (st1 11) XhB)
noncomputable def Xga(P:Xwj):Obj:=cd XhB 702 XhB 703 z1 704 661 9 0 0 35 285 true 181 286 (.ref 287) (.ref 288) (.ref 289) 717 661 z1 718
noncomputable def XjC(P:Xwj):Obj:=Fu (fnD (st1 11) XhB XhB 3 [] (.ref 284) .none (.str (XaW (st1 11)) 719) (.str z4 194) none (.ref 290) .none 0)
noncomputable def XqW(P:Xwj):Obj:=Tu []
noncomputable def XqV(P:Xwj):Obj:=Fi []
noncomputable def XqU(P:Xwj):Obj:=Tu [(.str XtZ 726),(.str Xvz 727)]
noncomputable def XqT(P:Xwj):Obj:=Tu []
noncomputable def XqS(P:Xwj):Obj:=Fn (fnN (st1 13) XhA)
noncomputable def XhT(P:Xwj):Obj:=cd XhA 723 XhA 724 z1 725 689 1 0 0 3 292 true 181 293 (.ref 294) (.ref 295) (.ref 296) 728 689 z1 729
noncomputable def XhS(P:Xwj):Obj:=Fu (fnD (st1 13) XhA XhA 3 [] .none .none .none (.str Xjj 721) none (.ref 297) .none 0)
noncomputable def XqR(P:Xwj):Obj:=Tu []
noncomputable def XqQ(P:Xwj):Obj:=Fi []
noncomputable def XqP(P:Xwj):Obj:=Fn (fnN (st1 14) Xhz)
noncomputable def XhR(P:Xwj):Obj:=cd Xhz 731 Xhz 732 z1 733 695 1 0 0 3 299 true 181 300 .none .none (.ref 301) 734 695 z1 735
noncomputable def XhQ(P:Xwj):Obj:=Fu (fnD (st1 14) Xhz Xhz 3 [] .none .none .none (.str Xjj 721) none (.ref 302) .none 0)
noncomputable def XqO(P:Xwj):Obj:=Tu []
noncomputable def XqN(P:Xwj):Obj:=Fi []
noncomputable def XqM(P:Xwj):Obj:=Fn (fnN (st1 15) Xhy)
noncomputable def XhP(P:Xwj):Obj:=cd Xhy 737 Xhy 738 z1 739 697 1 0 0 3 304 true 181 305 .none .none (.ref 306) 740 697 z1 741
noncomputable def XhO(P:Xwj):Obj:=Fu (fnD (st1 15) Xhy Xhy 3 [] .none .none .none (.str Xjj 721) none (.ref 307) .none 0)
noncomputable def XqL(P:Xwj):Obj:=Tu []
noncomputable def XqK(P:Xwj):Obj:=Fi []
noncomputable def XqJ(P:Xwj):Obj:=Fn (fnN (st1 16) Xhx)
noncomputable def XhN(P:Xwj):Obj:=cd Xhx 743 Xhx 744 z1 745 699 1 0 0 3 309 true 181 310 .none .none (.ref 311) 746 699 z1 747
noncomputable def Xf9(P:Xwj):Obj:=Fu (fnD (st1 16) Xhx Xhx 3 [] .none .none .none (.str Xjj 721) none (.ref 312) .none 0)
noncomputable def XgQ(P:Xwj):BT:=(nd (boot_o_0 P) (nd (boot_o_1 P) (nd (boot_o_3 P) (nd (boot_o_7 P) nl nl) (nd (o11 P) nl nl)) (nd (boot_o_5 P) (nd (boot_o_9 P) nl nl) (nd (o13 P) nl nl))) (nd (boot_o_2 P) (nd (boot_o_4 P) (nd (boot_o_8 P) nl nl) (nd (o12 P) nl nl)) (nd (boot_o_6 P) (nd (boot_o_10 P) nl nl) (nd (o14 P) nl nl))))
noncomputable def n_a:Nat:=15
noncomputable def XgR:Nat:=187
noncomputable def XoT(P:Xwj):BT:=(nd (boot_o_0 P) (nd (boot_o_1 P) (nd (o3 P) (nd (boot_o_7 P) (nd (o15 P) (nd (o31 P) (nd (o63 P) nl nl) nl) (nd (o47 P) nl nl)) (nd (o23 P) (nd (o39 P) nl nl) (nd (o55 P) nl nl))) (nd (o11 P) (nd (o19 P) (nd (o35 P) nl nl) (nd (o51 P) nl nl)) (nd (o27 P) (nd (o43 P) nl nl) (nd (o59 P) nl nl)))) (nd (boot_o_5 P) (nd (boot_o_9 P) (nd (o17 P) (nd (o33 P) nl nl) (nd (o49 P) nl nl)) (nd (o25 P) (nd (o41 P) nl nl) (nd (o57 P) nl nl))) (nd (o13 P) (nd (o21 P) (nd (o37 P) nl nl) (nd (o53 P) nl nl)) (nd (o29 P) (nd (o45 P) nl nl) (nd (o61 P) nl nl))))) (nd (boot_o_2 P) (nd (boot_o_4 P) (nd (boot_o_8 P) (nd (o16 P) (nd (o32 P) (nd (o64 P) nl nl) nl) (nd (o48 P) nl nl)) (nd (o24 P) (nd (o40 P) nl nl) (nd (o56 P) nl nl))) (nd (Xu4 P) (nd (o20 P) (nd (o36 P) nl nl) (nd (o52 P) nl nl)) (nd (o28 P) (nd (o44 P) nl nl) (nd (o60 P) nl nl)))) (nd (boot_o_6 P) (nd (boot_o_10 P) (nd (o18 P) (nd (o34 P) nl nl) (nd (o50 P) nl nl)) (nd (o26 P) (nd (o42 P) nl nl) (nd (o58 P) nl nl))) (nd (o14 P) (nd (o22 P) (nd (o38 P) nl nl) (nd (o54 P) nl nl)) (nd (o30 P) (nd (o46 P) nl nl) (nd (o62 P) nl nl))))))
noncomputable def n_0:Nat:=65
noncomputable def XoW:Nat:=253
noncomputable def XoS(P:Xwj):BT:=(nd (boot_o_0 P) (nd (boot_o_1 P) (nd (Xv7 P) (nd (boot_o_7 P) (nd (o15 P) (nd (o31 P) (nd (o63 P) (nd (XjU P) nl nl) nl) (nd (o95 P) nl nl)) (nd (o47 P) (nd (o79 P) nl nl) (nd (Xka P) nl nl))) (nd (o23 P) (nd (o39 P) (nd (o71 P) (nd (Xgs P) nl nl) nl) (nd (Xki P) nl nl)) (nd (o55 P) (nd (o87 P) nl nl) (nd (Xj2 P) nl nl)))) (nd (o11 P) (nd (o19 P) (nd (o35 P) (nd (o67 P) (nd (XjQ P) nl nl) nl) (nd (o99 P) nl nl)) (nd (o51 P) (nd (o83 P) nl nl) (nd (Xj6 P) nl nl))) (nd (o27 P) (nd (o43 P) (nd (o75 P) nl nl) (nd (Xke P) nl nl)) (nd (o59 P) (nd (o91 P) nl nl) (nd (XjY P) nl nl))))) (nd (boot_o_5 P) (nd (boot_o_9 P) (nd (o17 P) (nd (o33 P) (nd (o65 P) (nd (XjS P) nl nl) nl) (nd (o97 P) nl nl)) (nd (o49 P) (nd (o81 P) nl nl) (nd (Xj8 P) nl nl))) (nd (o25 P) (nd (o41 P) (nd (o73 P) (nd (XjL P) nl nl) nl) (nd (Xkg P) nl nl)) (nd (o57 P) (nd (o89 P) nl nl) (nd (Xj0 P) nl nl)))) (nd (o13 P) (nd (o21 P) (nd (o37 P) (nd (o69 P) (nd (XjO P) nl nl) nl) (nd (Xkk P) nl nl)) (nd (o53 P) (nd (o85 P) nl nl) (nd (Xj4 P) nl nl))) (nd (o29 P) (nd (o45 P) (nd (o77 P) nl nl) (nd (Xkc P) nl nl)) (nd (o61 P) (nd (o93 P) nl nl) (nd (XjW P) nl nl)))))) (nd (boot_o_2 P) (nd (boot_o_4 P) (nd (boot_o_8 P) (nd (o16 P) (nd (o32 P) (nd (o64 P) (nd (XjT P) nl nl) nl) (nd (o96 P) nl nl)) (nd (o48 P) (nd (o80 P) nl nl) (nd (Xj9 P) nl nl))) (nd (o24 P) (nd (o40 P) (nd (o72 P) (nd (XjM P) nl nl) nl) (nd (Xkh P) nl nl)) (nd (o56 P) (nd (o88 P) nl nl) (nd (Xj1 P) nl nl)))) (nd (Xu3 P) (nd (o20 P) (nd (o36 P) (nd (o68 P) (nd (XjP P) nl nl) nl) (nd (Xkl P) nl nl)) (nd (o52 P) (nd (o84 P) nl nl) (nd (Xj5 P) nl nl))) (nd (o28 P) (nd (o44 P) (nd (o76 P) nl nl) (nd (Xkd P) nl nl)) (nd (o60 P) (nd (o92 P) nl nl) (nd (XjX P) nl nl))))) (nd (boot_o_6 P) (nd (boot_o_10 P) (nd (o18 P) (nd (o34 P) (nd (o66 P) (nd (XjR P) nl nl) nl) (nd (o98 P) nl nl)) (nd (o50 P) (nd (o82 P) nl nl) (nd (Xj7 P) nl nl))) (nd (o26 P) (nd (o42 P) (nd (o74 P) (nd (XjK P) nl nl) nl) (nd (Xkf P) nl nl)) (nd (o58 P) (nd (o90 P) nl nl) (nd (XjZ P) nl nl)))) (nd (o14 P) (nd (o22 P) (nd (o38 P) (nd (o70 P) (nd (XjN P) nl nl) nl) (nd (Xkj P) nl nl)) (nd (o54 P) (nd (o86 P) nl nl) (nd (Xj3 P) nl nl))) (nd (o30 P) (nd (o46 P) (nd (o78 P) nl nl) (nd (Xkb P) nl nl)) (nd (o62 P) (nd (o94 P) nl nl) (nd (XjV P) nl nl)))))))
noncomputable def n_1:Nat:=139
noncomputable def XoV:Nat:=381
noncomputable def XoR(P:Xwj):BT:=(nd (boot_o_0 P) (nd (boot_o_1 P) (nd (Xv6 P) (nd (boot_o_7 P) (nd (o15 P) (nd (o31 P) (nd (o63 P) (nd (XjU P) nl nl) (nd (Xno P) nl nl)) (nd (o95 P) (nd (Xgr P) nl nl) (nd (Xm0 P) nl nl))) (nd (o47 P) (nd (o79 P) (nd (Xn0 P) nl nl) (nd (Xnc P) nl nl)) (nd (Xka P) (nd (XnA P) nl nl) (nd (XmK P) nl nl)))) (nd (o23 P) (nd (o39 P) (nd (o71 P) (nd (Xgs P) nl nl) (nd (Xni P) nl nl)) (nd (Xki P) (nd (Xgo P) nl nl) (nd (XmS P) nl nl))) (nd (o55 P) (nd (o87 P) (nd (XnS P) nl nl) (nd (Xm6 P) nl nl)) (nd (Xj2 P) (nd (Xnu P) nl nl) nl)))) (nd (o11 P) (nd (o19 P) (nd (o35 P) (nd (o67 P) (nd (XjQ P) nl nl) (nd (Xgi P) nl nl)) (nd (o99 P) (nd (XnI P) nl nl) (nd (XmW P) nl nl))) (nd (o51 P) (nd (o83 P) (nd (XnW P) nl nl) (nd (Xna P) nl nl)) (nd (Xj6 P) (nd (Xnw P) nl nl) (nd (XmH P) nl nl)))) (nd (o27 P) (nd (o43 P) (nd (o75 P) (nd (Xn4 P) nl nl) (nd (Xgf P) nl nl)) (nd (Xke P) (nd (XnC P) nl nl) (nd (XmO P) nl nl))) (nd (o59 P) (nd (o91 P) (nd (XnO P) nl nl) (nd (Xm4 P) nl nl)) (nd (XjY P) (nd (Xgk P) nl nl) nl))))) (nd (boot_o_5 P) (nd (boot_o_9 P) (nd (o17 P) (nd (o33 P) (nd (o65 P) (nd (XjS P) nl nl) (nd (Xnm P) nl nl)) (nd (o97 P) (nd (XnK P) nl nl) (nd (XmY P) nl nl))) (nd (o49 P) (nd (o81 P) (nd (XnY P) nl nl) (nd (Xge P) nl nl)) (nd (Xj8 P) (nd (Xny P) nl nl) (nd (XmI P) nl nl)))) (nd (o25 P) (nd (o41 P) (nd (o73 P) (nd (XjL P) nl nl) (nd (Xng P) nl nl)) (nd (Xkg P) (nd (XnE P) nl nl) (nd (XmQ P) nl nl))) (nd (o57 P) (nd (o89 P) (nd (XnQ P) nl nl) (nd (Xgc P) nl nl)) (nd (Xj0 P) (nd (Xns P) nl nl) nl)))) (nd (o13 P) (nd (o21 P) (nd (o37 P) (nd (o69 P) (nd (XjO P) nl nl) (nd (Xnk P) nl nl)) (nd (Xkk P) (nd (XnG P) nl nl) (nd (XmU P) nl nl))) (nd (o53 P) (nd (o85 P) (nd (XnU P) nl nl) (nd (Xm8 P) nl nl)) (nd (Xj4 P) (nd (Xgl P) nl nl) (nd (XmF P) nl nl)))) (nd (o29 P) (nd (o45 P) (nd (o77 P) (nd (Xn2 P) nl nl) (nd (Xne P) nl nl)) (nd (Xkc P) (nd (Xgn P) nl nl) (nd (XmM P) nl nl))) (nd (o61 P) (nd (o93 P) (nd (XnM P) nl nl) (nd (Xm2 P) nl nl)) (nd (XjW P) (nd (Xnq P) nl nl) nl)))))) (nd (boot_o_2 P) (nd (boot_o_4 P) (nd (boot_o_8 P) (nd (o16 P) (nd (o32 P) (nd (o64 P) (nd (XjT P) nl nl) (nd (Xnn P) nl nl)) (nd (o96 P) (nd (Xgq P) nl nl) (nd (XmZ P) nl nl))) (nd (o48 P) (nd (o80 P) (nd (XnZ P) nl nl) (nd (Xnb P) nl nl)) (nd (Xj9 P) (nd (Xnz P) nl nl) (nd (XmJ P) nl nl)))) (nd (o24 P) (nd (o40 P) (nd (o72 P) (nd (XjM P) nl nl) (nd (Xnh P) nl nl)) (nd (Xkh P) (nd (XnF P) nl nl) (nd (XmR P) nl nl))) (nd (o56 P) (nd (o88 P) (nd (XnR P) nl nl) (nd (Xm5 P) nl nl)) (nd (Xj1 P) (nd (Xnt P) nl nl) nl)))) (nd (Xu2 P) (nd (o20 P) (nd (o36 P) (nd (o68 P) (nd (XjP P) nl nl) (nd (Xgh P) nl nl)) (nd (Xkl P) (nd (XnH P) nl nl) (nd (XmV P) nl nl))) (nd (o52 P) (nd (o84 P) (nd (XnV P) nl nl) (nd (Xm9 P) nl nl)) (nd (Xj5 P) (nd (Xgm P) nl nl) (nd (XmG P) nl nl)))) (nd (o28 P) (nd (o44 P) (nd (o76 P) (nd (Xn3 P) nl nl) (nd (Xnf P) nl nl)) (nd (Xkd P) (nd (XnB P) nl nl) (nd (XmN P) nl nl))) (nd (o60 P) (nd (o92 P) (nd (XnN P) nl nl) (nd (Xm3 P) nl nl)) (nd (XjX P) (nd (Xgj P) nl nl) nl))))) (nd (boot_o_6 P) (nd (boot_o_10 P) (nd (o18 P) (nd (o34 P) (nd (o66 P) (nd (XjR P) nl nl) (nd (Xnl P) nl nl)) (nd (o98 P) (nd (XnJ P) nl nl) (nd (XmX P) nl nl))) (nd (o50 P) (nd (o82 P) (nd (XnX P) nl nl) (nd (Xgd P) nl nl)) (nd (Xj7 P) (nd (Xnx P) nl nl) (nd (XjJ P) nl nl)))) (nd (o26 P) (nd (o42 P) (nd (o74 P) (nd (XjK P) nl nl) (nd (Xgg P) nl nl)) (nd (Xkf P) (nd (XnD P) nl nl) (nd (XmP P) nl nl))) (nd (o58 P) (nd (o90 P) (nd (XnP P) nl nl) (nd (XhY P) nl nl)) (nd (XjZ P) (nd (Xnr P) nl nl) nl)))) (nd (o14 P) (nd (o22 P) (nd (o38 P) (nd (o70 P) (nd (XjN P) nl nl) (nd (Xnj P) nl nl)) (nd (Xkj P) (nd (Xgp P) nl nl) (nd (XmT P) nl nl))) (nd (o54 P) (nd (o86 P) (nd (XnT P) nl nl) (nd (Xm7 P) nl nl)) (nd (Xj3 P) (nd (Xnv P) nl nl) (nd (XmE P) nl nl)))) (nd (o30 P) (nd (o46 P) (nd (o78 P) (nd (Xn1 P) nl nl) (nd (Xnd P) nl nl)) (nd (Xkb P) (nd (XhZ P) nl nl) (nd (XmL P) nl nl))) (nd (o62 P) (nd (o94 P) (nd (XnL P) nl nl) (nd (Xm1 P) nl nl)) (nd (XjV P) (nd (Xnp P) nl nl) nl)))))))
noncomputable def n_2:Nat:=247
noncomputable def XoU:Nat:=592
noncomputable def XoQ(P:Xwj):BT:=(nd (boot_o_0 P) (nd (boot_o_1 P) (nd (Xcq P) (nd (boot_o_7 P) (nd (o15 P) (nd (o31 P) (nd (o63 P) (nd (XjU P) (nd (Xrl P) nl nl) nl) (nd (Xno P) nl nl)) (nd (o95 P) (nd (Xgr P) (nd (XqZ P) nl nl) nl) (nd (Xm0 P) nl nl))) (nd (o47 P) (nd (o79 P) (nd (Xn0 P) (nd (XjF P) nl nl) nl) (nd (Xnc P) nl nl)) (nd (Xka P) (nd (XnA P) (nd (XhQ P) nl nl) nl) (nd (XmK P) nl nl)))) (nd (o23 P) (nd (o39 P) (nd (o71 P) (nd (Xgs P) (nd (Xrf P) nl nl) nl) (nd (Xni P) nl nl)) (nd (Xki P) (nd (Xgo P) (nd (XqT P) nl nl) nl) (nd (XmS P) nl nl))) (nd (o55 P) (nd (o87 P) (nd (XnS P) (nd (Xq4 P) nl nl) nl) (nd (Xm6 P) nl nl)) (nd (Xj2 P) (nd (Xnu P) (nd (XqJ P) nl nl) nl) (nd (Xrr P) nl nl))))) (nd (o11 P) (nd (o19 P) (nd (o35 P) (nd (o67 P) (nd (XjQ P) (nd (Xrh P) nl nl) nl) (nd (Xgi P) nl nl)) (nd (o99 P) (nd (XnI P) (nd (XjC P) nl nl) nl) (nd (XmW P) nl nl))) (nd (o51 P) (nd (o83 P) (nd (XnW P) (nd (Xgb P) nl nl) nl) (nd (Xna P) nl nl)) (nd (Xj6 P) (nd (Xnw P) (nd (XhP P) nl nl) nl) (nd (XmH P) nl nl)))) (nd (o27 P) (nd (o43 P) (nd (o75 P) (nd (Xn4 P) (nd (XhV P) nl nl) nl) (nd (Xgf P) nl nl)) (nd (Xke P) (nd (XnC P) (nd (XqR P) nl nl) nl) (nd (XmO P) nl nl))) (nd (o59 P) (nd (o91 P) (nd (XnO P) (nd (XeV P) nl nl) nl) (nd (Xm4 P) nl nl)) (nd (XjY P) (nd (Xgk P) nl nl) (nd (Xrn P) nl nl)))))) (nd (boot_o_5 P) (nd (boot_o_9 P) (nd (o17 P) (nd (o33 P) (nd (o65 P) (nd (XjS P) (nd (Xrj P) nl nl) nl) (nd (Xnm P) nl nl)) (nd (o97 P) (nd (XnK P) (nd (XqX P) nl nl) nl) (nd (XmY P) nl nl))) (nd (o49 P) (nd (o81 P) (nd (XnY P) (nd (Xq8 P) nl nl) nl) (nd (Xge P) nl nl)) (nd (Xj8 P) (nd (Xny P) (nd (XqN P) nl nl) nl) (nd (XmI P) nl nl)))) (nd (o25 P) (nd (o41 P) (nd (o73 P) (nd (XjL P) (nd (Xrd P) nl nl) nl) (nd (Xng P) nl nl)) (nd (Xkg P) (nd (XnE P) (nd (XhT P) nl nl) nl) (nd (XmQ P) nl nl))) (nd (o57 P) (nd (o89 P) (nd (XnQ P) (nd (Xq2 P) nl nl) nl) (nd (Xgc P) nl nl)) (nd (Xj0 P) (nd (Xns P) (nd (Xf9 P) nl nl) nl) (nd (Xrp P) nl nl))))) (nd (o13 P) (nd (o21 P) (nd (o37 P) (nd (o69 P) (nd (XjO P) (nd (XjH P) nl nl) nl) (nd (Xnk P) nl nl)) (nd (Xkk P) (nd (XnG P) (nd (XqV P) nl nl) nl) (nd (XmU P) nl nl))) (nd (o53 P) (nd (o85 P) (nd (XnU P) (nd (Xq6 P) nl nl) nl) (nd (Xm8 P) nl nl)) (nd (Xj4 P) (nd (Xgl P) (nd (XqL P) nl nl) nl) (nd (XmF P) nl nl)))) (nd (o29 P) (nd (o45 P) (nd (o77 P) (nd (Xn2 P) (nd (Xrb P) nl nl) nl) (nd (Xne P) nl nl)) (nd (Xkc P) (nd (Xgn P) (nd (XqP P) nl nl) nl) (nd (XmM P) nl nl))) (nd (o61 P) (nd (o93 P) (nd (XnM P) (nd (Xq0 P) nl nl) nl) (nd (Xm2 P) nl nl)) (nd (XjW P) (nd (Xnq P) nl nl) (nd (XjI P) nl nl))))))) (nd (boot_o_2 P) (nd (boot_o_4 P) (nd (boot_o_8 P) (nd (o16 P) (nd (o32 P) (nd (o64 P) (nd (XjT P) (nd (Xrk P) nl nl) nl) (nd (Xnn P) nl nl)) (nd (o96 P) (nd (Xgq P) (nd (XqY P) nl nl) nl) (nd (XmZ P) nl nl))) (nd (o48 P) (nd (o80 P) (nd (XnZ P) (nd (Xq9 P) nl nl) nl) (nd (Xnb P) nl nl)) (nd (Xj9 P) (nd (Xnz P) (nd (XqO P) nl nl) nl) (nd (XmJ P) nl nl)))) (nd (o24 P) (nd (o40 P) (nd (o72 P) (nd (XjM P) (nd (Xre P) nl nl) nl) (nd (Xnh P) nl nl)) (nd (Xkh P) (nd (XnF P) (nd (XqS P) nl nl) nl) (nd (XmR P) nl nl))) (nd (o56 P) (nd (o88 P) (nd (XnR P) (nd (Xq3 P) nl nl) nl) (nd (Xm5 P) nl nl)) (nd (Xj1 P) (nd (Xnt P) (nd (XhN P) nl nl) nl) (nd (Xrq P) nl nl))))) (nd (Xn5 P) (nd (o20 P) (nd (o36 P) (nd (o68 P) (nd (XjP P) (nd (XhW P) nl nl) nl) (nd (Xgh P) nl nl)) (nd (Xkl P) (nd (XnH P) (nd (XqW P) nl nl) nl) (nd (XmV P) nl nl))) (nd (o52 P) (nd (o84 P) (nd (XnV P) (nd (XjE P) nl nl) nl) (nd (Xm9 P) nl nl)) (nd (Xj5 P) (nd (Xgm P) (nd (XhO P) nl nl) nl) (nd (XmG P) nl nl)))) (nd (o28 P) (nd (o44 P) (nd (o76 P) (nd (Xn3 P) (nd (XjG P) nl nl) nl) (nd (Xnf P) nl nl)) (nd (Xkd P) (nd (XnB P) (nd (XqQ P) nl nl) nl) (nd (XmN P) nl nl))) (nd (o60 P) (nd (o92 P) (nd (XnN P) (nd (Xq1 P) nl nl) nl) (nd (Xm3 P) nl nl)) (nd (XjX P) (nd (Xgj P) nl nl) (nd (XhX P) nl nl)))))) (nd (boot_o_6 P) (nd (boot_o_10 P) (nd (o18 P) (nd (o34 P) (nd (o66 P) (nd (XjR P) (nd (Xri P) nl nl) nl) (nd (Xnl P) nl nl)) (nd (o98 P) (nd (XnJ P) (nd (Xga P) nl nl) nl) (nd (XmX P) nl nl))) (nd (o50 P) (nd (o82 P) (nd (XnX P) (nd (Xq7 P) nl nl) nl) (nd (Xgd P) nl nl)) (nd (Xj7 P) (nd (Xnx P) (nd (XqM P) nl nl) nl) (nd (XjJ P) nl nl)))) (nd (o26 P) (nd (o42 P) (nd (o74 P) (nd (XjK P) (nd (Xrc P) nl nl) nl) (nd (Xgg P) nl nl)) (nd (Xkf P) (nd (XnD P) (nd (XhS P) nl nl) nl) (nd (XmP P) nl nl))) (nd (o58 P) (nd (o90 P) (nd (XnP P) (nd (XhU P) nl nl) nl) (nd (XhY P) nl nl)) (nd (XjZ P) (nd (Xnr P) nl nl) (nd (Xro P) nl nl))))) (nd (o14 P) (nd (o22 P) (nd (o38 P) (nd (o70 P) (nd (XjN P) (nd (Xrg P) nl nl) nl) (nd (Xnj P) nl nl)) (nd (Xkj P) (nd (Xgp P) (nd (XqU P) nl nl) nl) (nd (XmT P) nl nl))) (nd (o54 P) (nd (o86 P) (nd (XnT P) (nd (Xq5 P) nl nl) nl) (nd (Xm7 P) nl nl)) (nd (Xj3 P) (nd (Xnv P) (nd (XqK P) nl nl) nl) (nd (XmE P) nl nl)))) (nd (o30 P) (nd (o46 P) (nd (o78 P) (nd (Xn1 P) (nd (Xra P) nl nl) nl) (nd (Xnd P) nl nl)) (nd (Xkb P) (nd (XhZ P) (nd (XhR P) nl nl) nl) (nd (XmL P) nl nl))) (nd (o62 P) (nd (o94 P) (nd (XnL P) (nd (XjD P) nl nl) nl) (nd (Xm1 P) nl nl)) (nd (XjV P) (nd (Xnp P) nl nl) (nd (Xrm P) nl nl))))))))
noncomputable def n_3:Nat:=314
noncomputable def XcG:Nat:=749
noncomputable def Xc7(P:Xwj):Heap:=⟨⟨[boot_o_0 P,boot_o_1 P,boot_o_2 P,Xcq P,boot_o_4 P,boot_o_5 P,boot_o_6 P,boot_o_7 P,boot_o_8 P,boot_o_9 P,boot_o_10 P,o11 P,Xn5 P,o13 P,o14 P,o15 P,o16 P,o17 P,o18 P,o19 P,o20 P,o21 P,o22 P,o23 P,o24 P,o25 P,o26 P,o27 P,o28 P,o29 P,o30 P,o31 P,o32 P,o33 P,o34 P,o35 P,o36 P,o37 P,o38 P,o39 P,o40 P,o41 P,o42 P,o43 P,o44 P,o45 P,o46 P,o47 P,o48 P,o49 P,o50 P,o51 P,o52 P,o53 P,o54 P,o55 P,o56 P,o57 P,o58 P,o59 P,o60 P,o61 P,o62 P,o63 P,o64 P,o65 P,o66 P,o67 P,o68 P,o69 P,o70 P,o71 P,o72 P,o73 P,o74 P,o75 P,o76 P,o77 P,o78 P,o79 P,o80 P,o81 P,o82 P,o83 P,o84 P,o85 P,o86 P,o87 P,o88 P,o89 P,o90 P,o91 P,o92 P,o93 P,o94 P,o95 P,o96 P,o97 P,o98 P,o99 P,Xkl P,Xkk P,Xkj P,Xki P,Xkh P,Xkg P,Xkf P,Xke P,Xkd P,Xkc P,Xkb P,Xka P,Xj9 P,Xj8 P,Xj7 P,Xj6 P,Xj5 P,Xj4 P,Xj3 P,Xj2 P,Xj1 P,Xj0 P,XjZ P,XjY P,XjX P,XjW P,XjV P,XjU P,XjT P,XjS P,XjR P,XjQ P,XjP P,XjO P,XjN P,Xgs P,XjM P,XjL P,XjK P,Xn4 P,Xn3 P,Xn2 P,Xn1 P,Xn0 P,XnZ P,XnY P,XnX P,XnW P,XnV P,XnU P,XnT P,XnS P,XnR P,XnQ P,XnP P,XnO P,XnN P,XnM P,XnL P,Xgr P,Xgq P,XnK P,XnJ P,XnI P,XnH P,XnG P,Xgp P,Xgo P,XnF P,XnE P,XnD P,XnC P,XnB P,Xgn P,XhZ P,XnA P,Xnz P,Xny P,Xnx P,Xnw P,Xgm P,Xgl P,Xnv P,Xnu P,Xnt P,Xns P,Xnr P,Xgk P,Xgj P,Xnq P,Xnp P,Xno P,Xnn P,Xnm P,Xnl P,Xgi P,Xgh P,Xnk P,Xnj P,Xni P,Xnh P,Xng P,Xgg P,Xgf P,Xnf P,Xne P,Xnd P,Xnc P,Xnb P,Xge P,Xgd P,Xna P,Xm9 P,Xm8 P,Xm7 P,Xm6 P,Xm5 P,Xgc P,XhY P,Xm4 P,Xm3 P,Xm2 P,Xm1 P,Xm0 P,XmZ P,XmY P,XmX P,XmW P,XmV P,XmU P,XmT P,XmS P,XmR P,XmQ P,XmP P,XmO P,XmN P,XmM P,XmL P,XmK P,XmJ P,XmI P,XjJ P,XmH P,XmG P,XmF P,XmE P,Xrr P,Xrq P,Xrp P,Xro P,Xrn P,XhX P,XjI P,Xrm P,Xrl P,Xrk P,Xrj P,Xri P,Xrh P,XhW P,XjH P,Xrg P,Xrf P,Xre P,Xrd P,Xrc P,XhV P,XjG P,Xrb P,Xra P,XjF P,Xq9 P,Xq8 P,Xq7 P,Xgb P,XjE P,Xq6 P,Xq5 P,Xq4 P,Xq3 P,Xq2 P,XhU P,XeV P,Xq1 P,Xq0 P,XjD P,XqZ P,XqY P,XqX P,Xga P,XjC P,XqW P,XqV P,XqU P,XqT P,XqS P,XhT P,XhS P,XqR P,XqQ P,XqP P,XhR P,XhQ P,XqO P,XqN P,XqM P,XhP P,XhO P,XqL P,XqK P,XqJ P,XhN P,Xf9 P]⟩,XbE⟩
noncomputable def Xwb(P:Xwj):List (XwR × Obj):=[(0,boot_o_0 P),(1,boot_o_1 P),(2,boot_o_2 P),(3,Xcq P),(4,boot_o_4 P),(5,boot_o_5 P),(6,boot_o_6 P),(7,boot_o_7 P),(8,boot_o_8 P),(9,boot_o_9 P),(10,boot_o_10 P),(11,o11 P),(12,Xn5 P),(13,o13 P),(14,o14 P),(15,o15 P),(16,o16 P),(17,o17 P),(18,o18 P),(19,o19 P),(20,o20 P),(21,o21 P),(22,o22 P),(23,o23 P),(24,o24 P),(25,o25 P),(26,o26 P),(27,o27 P),(28,o28 P),(29,o29 P),(30,o30 P),(31,o31 P),(32,o32 P),(33,o33 P),(34,o34 P),(35,o35 P),(36,o36 P),(37,o37 P),(38,o38 P),(39,o39 P),(40,o40 P),(41,o41 P),(42,o42 P),(43,o43 P),(44,o44 P),(45,o45 P),(46,o46 P),(47,o47 P),(48,o48 P),(49,o49 P),(50,o50 P),(51,o51 P),(52,o52 P),(53,o53 P),(54,o54 P),(55,o55 P),(56,o56 P),(57,o57 P),(58,o58 P),(59,o59 P),(60,o60 P),(61,o61 P),(62,o62 P),(63,o63 P),(64,o64 P),(65,o65 P),(66,o66 P),(67,o67 P),(68,o68 P),(69,o69 P),(70,o70 P),(71,o71 P),(72,o72 P),(73,o73 P),(74,o74 P),(75,o75 P),(76,o76 P),(77,o77 P),(78,o78 P),(79,o79 P),(80,o80 P),(81,o81 P),(82,o82 P),(83,o83 P),(84,o84 P),(85,o85 P),(86,o86 P),(87,o87 P),(88,o88 P),(89,o89 P),(90,o90 P),(91,o91 P),(92,o92 P),(93,o93 P),(94,o94 P),(95,o95 P),(96,o96 P),(97,o97 P),(98,o98 P),(99,o99 P),(100,Xkl P),(101,Xkk P),(102,Xkj P),(103,Xki P),(104,Xkh P),(105,Xkg P),(106,Xkf P),(107,Xke P),(108,Xkd P),(109,Xkc P),(110,Xkb P),(111,Xka P),(112,Xj9 P),(113,Xj8 P),(114,Xj7 P),(115,Xj6 P),(116,Xj5 P),(117,Xj4 P),(118,Xj3 P),(119,Xj2 P),(120,Xj1 P),(121,Xj0 P),(122,XjZ P),(123,XjY P),(124,XjX P),(125,XjW P),(126,XjV P),(127,XjU P),(128,XjT P),(129,XjS P),(130,XjR P),(131,XjQ P),(132,XjP P),(133,XjO P),(134,XjN P),(135,Xgs P),(136,XjM P),(137,XjL P),(138,XjK P),(139,Xn4 P),(140,Xn3 P),(141,Xn2 P),(142,Xn1 P),(143,Xn0 P),(144,XnZ P),(145,XnY P),(146,XnX P),(147,XnW P),(148,XnV P),(149,XnU P),(150,XnT P),(151,XnS P),(152,XnR P),(153,XnQ P),(154,XnP P),(155,XnO P),(156,XnN P),(157,XnM P),(158,XnL P),(159,Xgr P),(160,Xgq P),(161,XnK P),(162,XnJ P),(163,XnI P),(164,XnH P),(165,XnG P),(166,Xgp P),(167,Xgo P),(168,XnF P),(169,XnE P),(170,XnD P),(171,XnC P),(172,XnB P),(173,Xgn P),(174,XhZ P),(175,XnA P),(176,Xnz P),(177,Xny P),(178,Xnx P),(179,Xnw P),(180,Xgm P),(181,Xgl P),(182,Xnv P),(183,Xnu P),(184,Xnt P),(185,Xns P),(186,Xnr P),(187,Xgk P),(188,Xgj P),(189,Xnq P),(190,Xnp P),(191,Xno P),(192,Xnn P),(193,Xnm P),(194,Xnl P),(195,Xgi P),(196,Xgh P),(197,Xnk P),(198,Xnj P),(199,Xni P),(200,Xnh P),(201,Xng P),(202,Xgg P),(203,Xgf P),(204,Xnf P),(205,Xne P),(206,Xnd P),(207,Xnc P),(208,Xnb P),(209,Xge P),(210,Xgd P),(211,Xna P),(212,Xm9 P),(213,Xm8 P),(214,Xm7 P),(215,Xm6 P),(216,Xm5 P),(217,Xgc P),(218,XhY P),(219,Xm4 P),(220,Xm3 P),(221,Xm2 P),(222,Xm1 P),(223,Xm0 P),(224,XmZ P),(225,XmY P),(226,XmX P),(227,XmW P),(228,XmV P),(229,XmU P),(230,XmT P),(231,XmS P),(232,XmR P),(233,XmQ P),(234,XmP P),(235,XmO P),(236,XmN P),(237,XmM P),(238,XmL P),(239,XmK P),(240,XmJ P),(241,XmI P),(242,XjJ P),(243,XmH P),(244,XmG P),(245,XmF P),(246,XmE P),(247,Xrr P),(248,Xrq P),(249,Xrp P),(250,Xro P),(251,Xrn P),(252,XhX P),(253,XjI P),(254,Xrm P),(255,Xrl P),(256,Xrk P),(257,Xrj P),(258,Xri P),(259,Xrh P),(260,XhW P),(261,XjH P),(262,Xrg P),(263,Xrf P),(264,Xre P),(265,Xrd P),(266,Xrc P),(267,XhV P),(268,XjG P),(269,Xrb P),(270,Xra P),(271,XjF P),(272,Xq9 P),(273,Xq8 P),(274,Xq7 P),(275,Xgb P),(276,XjE P),(277,Xq6 P),(278,Xq5 P),(279,Xq4 P),(280,Xq3 P),(281,Xq2 P),(282,XhU P),(283,XeV P),(284,Xq1 P),(285,Xq0 P),(286,XjD P),(287,XqZ P),(288,XqY P),(289,XqX P),(290,Xga P),(291,XjC P),(292,XqW P),(293,XqV P),(294,XqU P),(295,XqT P),(296,XqS P),(297,XhT P),(298,XhS P),(299,XqR P),(300,XqQ P),(301,XqP P),(302,XhR P),(303,XhQ P),(304,XqO P),(305,XqN P),(306,XqM P),(307,XhP P),(308,XhO P),(309,XqL P),(310,XqK P),(311,XqJ P),(312,XhN P),(313,Xf9 P)]
noncomputable def Xgw:Env:={ scope:=TP.main.scope,locals:=mainNs,globals:=mainNs,cells:=[],code := .ref 13,frame:=some 14}
noncomputable def bT:List Stmt:=behindTheImports TP
noncomputable def cT:Code := .body bT Xgw
noncomputable def qT:Pos:=⟨0,0,0,0⟩
noncomputable def XdS:Option Value:=some (.ref 6)
theorem Xud(w:XwE)(os:OsState):topGo XcR TP w 11 XdS 12 ⟨boot_heap w.params,Xxx [],XxD,boot_toks,os⟩ (topStub TP) =
  some (SharedT.abs (XyK (XgQ w.params) n_a XbE (Xxx []) XxD XgR os),⟨denote XcR cT,cT,⟨0,0,0,0⟩,[topFrame qT]⟩):=by
 rw [PySem.W.Fast.te15667345088766844465,PySem.W.Fast.te11892475500146522536]
 kernel_rfl
theorem Xse(w:XwE)(os:OsState):segRun XcR TP w 11 XdS 1 1 (SharedT.abs (XyK (XgQ w.params) n_a XbE (Xxx []) XxD XgR os)) (blockOf bT Xgw cT ⟨0,0,0,0⟩ [topFrame qT]) =
  some (.next,SharedT.abs (XyK (XgQ w.params) n_a XbE (Xxx []) XxD XgR os),cT,⟨0,0,0,0⟩):=by
 rw [PySem.W.Fast.te14374325043358763698]
 kernel_rfl
noncomputable def Xsy:List Stmt:=(bT.drop 0).take 3
theorem XsW(w:XwE)(os:OsState):segRunT XcR TP w 11 XdS 1 362 (XyK (XgQ w.params) n_a XbE (Xxx []) XxD XgR os) (piecesOf Xsy Xgw cT ⟨0,0,0,0⟩ [topFrame qT]) =
  some (.next,(XyK (XoT w.params) n_0 XbE (Xxx []) XxD XoW os),cT,⟨5,0,22,54⟩):=by
 rw [Xyj]
 kernel_rfl
noncomputable def Xsx:List Stmt:=(bT.drop 3).take 1
theorem XsV(w:XwE)(os:OsState):segRunT XcR TP w 11 XdS 1 1047 (XyK (XoT w.params) n_0 XbE (Xxx []) XxD XoW os) (piecesOf Xsx Xgw cT ⟨5,0,22,54⟩ [topFrame qT]) =
  some (.next,(XyK (XoS w.params) n_1 XbE (Xxx []) XxD XoV os),cT,⟨23,0,65,54⟩):=by
 rw [Xyj]
 kernel_rfl
noncomputable def Xsw:List Stmt:=(bT.drop 4).take 2
theorem XsU(w:XwE)(os:OsState):segRunT XcR TP w 11 XdS 1 696 (XyK (XoS w.params) n_1 XbE (Xxx []) XxD XoV os) (piecesOf Xsw Xgw cT ⟨23,0,65,54⟩ [topFrame qT]) =
  some (.next,(XyK (XoR w.params) n_2 XbE (Xxx []) XxD XoU os),cT,⟨70,0,503,16⟩):=by
 rw [Xyj]
 kernel_rfl
noncomputable def Xsv:List Stmt:=(bT.drop 6).take 11
theorem XsT(w:XwE)(os:OsState):segRunT XcR TP w 11 XdS 1 382 (XyK (XoR w.params) n_2 XbE (Xxx []) XxD XoU os) (piecesOf Xsv Xgw cT ⟨70,0,503,16⟩ [topFrame qT]) =
  some (.next,(XyK (XoQ w.params) n_3 XbE (Xxx []) XxD XcG os),cT,⟨699,0,719,15⟩):=by
 rw [Xyj]
 kernel_rfl
theorem XuA(w:XwE)(os:OsState):topRun XcR TP w 11 XdS 2 (SharedT.abs (XyK (XoQ w.params) n_3 XbE (Xxx []) XxD XcG os)) ⟨doneF .next,cT,⟨699,0,719,15⟩,[topFrame qT]⟩ =
  some ⟨Xc7 w.params,Xxx [],XxD,XcG,os⟩:=by
 rw [PySem.W.Fast.te14082659384304107361]
 kernel_rfl
theorem Xts:bT=Xsy++(Xsx++(Xsw++(Xsv++[]))):=by kernel_rfl
noncomputable def mT:Nat:=12+(1+(362+(1047+(696+(382+2)))))
theorem Xuc(w:XwE)(os:OsState):topRun XcR TP w 11 XdS mT ⟨boot_heap w.params,Xxx [],XxD,boot_toks,os⟩ (topStub TP) =
  some ⟨Xc7 w.params,Xxx [],XxD,XcG,os⟩:=by
 refine go_top (Xud w os) (piece_block (Xse w os) ?_)
 show topRun XcR TP w 11 XdS _ _ (restOf bT Xgw cT _ [topFrame qT])=_
 rw [Xts]
 exact (piece_app (segRun_of (XsW w os)) (piece_app (segRun_of (XsV w os)) (piece_app (segRun_of (XsU w os)) (piece_app (segRun_of (XsT w os)) (piece_nil (XuA w os))))))
noncomputable def qV:Xwx:={ TP with main:={ TP.main with body:=[st1 16]} }
noncomputable def Xdi:List Str:=[Xwk "_wall",Xwk "_tuplegetter",Xwk "Match",Xwk "_calculate_ratio",Xwk "SequenceMatcher",Xwk "_format_range_unified",Xwk "unified_diff",Xwk "_format_range_context",Xwk "context_diff",Xwk "_check_types",Xwk "diff_bytes",Xwk "_law_octets",Xwk "_law_text",Xwk "_law_again"]
noncomputable def asT:List XwR:=(List.range n_3)
noncomputable def KO:Xwj->Frag:=Xwb
theorem XuJ(P:Xwj):asT=(KO P).map (·.1):=by kernel_rfl
noncomputable def XbF:Hook:=kHook KO asT XuJ
noncomputable def NT:Nat:=6000
theorem Xs0:∀ w:XwE,(fencedOpening treeTable TP w NT).map (fun s=>(s.heap,s.gens,s.drawn,s.toks))=some (boot_heap w.params,Xxx [],XxD,boot_toks) :=
 boot_open (by kernel_rfl) (by kernel_rfl) (fun s=>by kernel_rfl)
theorem XsN:∀ w:XwE,((boot_heap w.params).isNs XxF && (Xxx []:Array XyH).size == 0,(boot_heap w.params).objs.size,(boot_heap w.params).nsMap XxF "__annotations__")=(true,11,XdS):=by
 intro w
 kernel_rfl
theorem Xva:Nat.ble mT NT=true:=by kernel_rfl
theorem Xu9(w:XwE)(os:OsState):(staticsOk (importedModules TP.main.body) (boot_heap w.params) (Xc7 w.params) && namesBound TP (Xc7 w.params) && gensDone ⟨Xc7 w.params,Xxx [],XxD,XcG,os⟩ && laidKept (boot_heap w.params) (Xc7 w.params))=true:=by
 kernel_rfl
theorem Xu8(w:XwE)(os:OsState):openSeen qV Xdi (importedModules TP.main.body) (fun _=>true) true ⟨Xc7 w.params,Xxx [],XxD,XcG,os⟩=openGood qV Xdi:=by
 rw [PySem.W.Fast.te4187177175401517315]
 kernel_rfl
theorem Xu7(w:XwE)(os:OsState):XbF.obs ⟨Xc7 w.params,Xxx [],XxD,XcG,os⟩=XbF.val w:=by
 kernel_rfl
theorem Xtc:LeftO TP qV Xdi (fun _=>true) XbF.obs XbF.val NT:=by
 refine LeftO.of_pieces (H₁:=Xc7) (gs₁:=Xxx []) (d₁:=XxD) (k₁:=XcG) Xs0 XsN (fun w os=>?_) Xva (fun w=>?_)
 ·rw [Xt6]
  exact Xuc w os
 ·funext os
  rw [Xu9,Xu8,Xu7]
end
section
open PySem PySem.W PyProof.Rows
def Xue:Stmt->Pos
 | .FunctionDef _ _ _ _ _ _ _ _ _ p=>p
 | _=>⟨0,0,0,0⟩
noncomputable def Xem:DefRec:=⟨Xwk "law",Xfv (st1 16),XD (st1 16),Xed (st1 16),Xue (st1 16)⟩
theorem Xto:defOf qV (Xwk "law")=some (Xem,[]):=by kernel_rfl
theorem Xtd:LeftO XxS qV Xdi (fun _=>true) XbF.obs XbF.val NT:=by
 rw [Xmt]
 exact Xtc
theorem XoX:PySem.Challenge.pw_dm0049_04.theDef (Xwk "law")=some (Xem.params,Xem.body,Xem.scope):=by
 rw [Xmt]
 kernel_rfl
theorem Xu1:(chainsOk qV && opensWell XxS && (frees PySem.Challenge.rw_dm0049_04.row.toRowW && PySem.Challenge.rw_dm0049_04.row.toRowW.within.isEmpty))=true:=by
 rw [Xmt]
 kernel_rfl
theorem XrN(walk:WalkO qV Xdi (fun _ _=>True) XbF.says PySem.Challenge.rw_dm0049_04.row.toRowW Xem [] (fun f vs=>PySem.call f vs)):PySem.Challenge.rw_dm0049_04.Holds:=by
 o_law
 refine PySem.W.holds_open (q:=qV) (loose:=Xdi) (Xt:=fun _=>true) (XP:=fun _ _=>True) (Yf:=XbF.obs) (Ya:=XbF.val) (YP:=XbF.says) (N:=NT) (d:=Xem) (kwd:=[])
  Xtd XbF.of XbF.keeps (fun _ _=>trivial) (fun _ _ _ _ _=>trivial) Xto XoX (by kernel_rfl) (fun s _=>recFacts_of (by kernel_rfl)) (by kernel_rfl) (by assumption) Xu1 ⟨rfl,rfl,rfl,rfl,rfl,by decide +kernel⟩ ?hw walk
 w_witness2
end
section
inductive AV where
 | none
 | bool (b:Bool)
 | int (i:Int)
 | str (s:Str)
 | bytes (b:Array UInt8)
 | typ (n:String)
 | blt (id:String)
 | ref (a:XwR)
 | tup (xs:List AV)
 | lst (xs:List AV)
 | mat (c:XwR) (xs:List AV)
 | bm (id:String) (self:AV)
 | inst (c d:XwR)
 | rng (a b:Int)
 | any
 deriving Inhabited
def AV.isAny:AV->Bool
 | .any=>true
 | _=>false
abbrev Frz:=XwR->Option Obj
mutual
inductive Val (Z:Frz):AV->Value->Prop
 | none:Val Z .none .none
 | bool (b:Bool):Val Z (.bool b) (.bool b)
 | int (i:Int) (t:Tok):Val Z (.int i) (.int i t)
 | str (x:Str) (t:Tok):Val Z (.str x) (.str x t)
 | bytes (b:Array UInt8) (t:Tok):Val Z (.bytes b) (.bytes b t)
 | typ (n:String):Val Z (.typ n) (.type n)
 | blt (n:String):Val Z (.blt n) (.builtin n)
 | ref (a:XwR):Val Z (.ref a) (.ref a)
 | tup {a:XwR} {xs:List AV} {items:List Value} {n:Nat}:Z a=some {cls := .type "tuple",data := .seq items.toArray n}->Vals Z xs items->Val Z (.tup xs) (.ref a)
 | lst {a:XwR} {xs:List AV} {items:List Value} {n:Nat}:Z a=some {cls := .type "list",data := .seq items.toArray n}->Vals Z xs items->Val Z (.lst xs) (.ref a)
 | mat {a c d:XwR} {xs:List AV} {items:List Value} {n:Nat}:Z a=some {cls := .ref c,dict:=some d,data := .seq items.toArray n}->Vals Z xs items->Val Z (.mat c xs) (.ref a)
 | bm {a:XwR} {id:String} {self:AV} {v:Value}:Z a=some {cls := .type "builtin_function_or_method",data := .fields #[.builtin id,v]}->Val Z self v->Val Z (.bm id self) (.ref a)
 | inst {a c d:XwR}:Z a=some {cls := .ref c,dict:=some d,data := .plain}->Val Z (.inst c d) (.ref a)
 | rng {r:XwR} {a b:Int} {t u v:Tok}:Z r=some {cls := .type "range",dict:=none,data := .fields #[.int a t,.int b u,.int 1 v],slots := #[]}->Val Z (.rng a b) (.ref r)
 | any (x:Value):Val Z .any x
inductive Vals (Z:Frz):List AV->List Value->Prop
 | nil:Vals Z [] []
 | cons {x:AV} {v:Value} {xs:List AV} {vs:List Value}:Val Z x v->Vals Z xs vs->Vals Z (x::xs) (v::vs)
end
def Frz.le(Z Z':Frz):Prop:=∀ a o,Z a=some o->Z' a=some o
theorem Frz.le.refl(Z:Frz):Frz.le Z Z:=fun _ _ e=>e
theorem Frz.le.trans{Z Z' Z'':Frz}(x:Frz.le Z Z')(y:Frz.le Z' Z''):Frz.le Z Z'':=fun a o e=>y a o (x a o e)
mutual
theorem Val.mono{Z Z':Frz}(k:Frz.le Z Z'):∀ {v:AV} {x:Value},Val Z v x->Val Z' v x
 | _,_,.none => .none
 | _,_,.bool b => .bool b
 | _,_,.int i t => .int i t
 | _,_,.str x t => .str x t
 | _,_,.bytes b t => .bytes b t
 | _,_,.typ n => .typ n
 | _,_,.blt n => .blt n
 | _,_,.ref a => .ref a
 | _,_,.tup e h => .tup (k _ _ e) (h.mono k)
 | _,_,.lst e h => .lst (k _ _ e) (h.mono k)
 | _,_,.mat e h => .mat (k _ _ e) (h.mono k)
 | _,_,.bm e h => .bm (k _ _ e) (h.mono k)
 | _,_,.inst e => .inst (k _ _ e)
 | _,_,.rng e => .rng (k _ _ e)
 | _,_,.any x => .any x
theorem Vals.mono{Z Z':Frz}(k:Frz.le Z Z'):∀ {v:List AV} {x:List Value},Vals Z v x->Vals Z' v x
 | _,_,.nil => .nil
 | _,_,.cons h t => .cons (h.mono k) (t.mono k)
end
theorem Vals.length{Z:Frz}:∀ {xs:List AV} {vs:List Value},Vals Z xs vs->vs.length=xs.length
 | _,_,.nil=>rfl
 | _,_,.cons _ t=>by rw [Xwn,Xwn,t.length]
theorem Vals.append{Z:Frz}:∀ {xs ys:List AV} {vs us:List Value},Vals Z xs vs->Vals Z ys us->Vals Z (xs++ys) (vs++us)
 | _,_,_,_,.nil,h=>h
 | _,_,_,_,.cons h t,h' => .cons h (t.append h')
theorem Vals.get{Z:Frz}:∀ {xs:List AV} {vs:List Value},Vals Z xs vs->∀ {i:Nat} {x:AV},xs[i]? = some x->∃ v,vs[i]? = some v/\Val Z x v
 | _,_,.nil,_,_,e=>by cases e
 | _,_,.cons h t,0,x,e=>by
  simp only [List.getElem?_cons_zero,XxE] at e
  subst e
  exact ⟨_,rfl,h⟩
 | _,_,.cons h t,i+1,x,e=>by
  simp only [List.getElem?_cons_succ] at e ⊢
  exact t.get e
theorem Vals.take{Z:Frz}:∀ {xs:List AV} {vs:List Value},Vals Z xs vs->∀ n,Vals Z (xs.take n) (vs.take n)
 | _,_,.nil,n=>by simpa using Vals.nil
 | _,_,.cons h t,0 => .nil
 | _,_,.cons h t,n+1=>by simpa using Vals.cons h (t.take n)
theorem Vals.drop{Z:Frz}:∀ {xs:List AV} {vs:List Value},Vals Z xs vs->∀ n,Vals Z (xs.drop n) (vs.drop n)
 | _,_,.nil,n=>by simpa using Vals.nil
 | _,_,.cons h t,0 => .cons h t
 | _,_,.cons h t,n+1=>by simpa using t.drop n
inductive AObj where
 | list (xs:List AV)
 | ns (m:List (Str × AV))
 | gen (g:Nat) (gs:XyH)
 | raw (o:Obj)
 | obj (P:Frz->Obj->Prop) (mono:∀ Z Z' o,Frz.le Z Z'->P Z o->P Z' o)
abbrev Led:=List (XwR × AObj)
inductive OptVal (Z:Frz):Option AV->Option Value->Prop
 | none:OptVal Z .none .none
 | some {v:AV} {x:Value}:Val Z v x->OptVal Z (.some v) (.some x)
 | any {x:Option Value}:OptVal Z (.some .any) x
theorem OptVal.mono{Z Z':Frz}(k:Frz.le Z Z'){v:Option AV}{x:Option Value}(h:OptVal Z v x):OptVal Z' v x:=by
 cases h with
 | none=>exact .none
 | some h=>exact .some (h.mono k)
 | any=>exact .any
def NsIs(Z:Frz)(h:Heap)(a:XwR)(m:List (Str × AV)):Prop:=∃ f,h.Ns a f/\∀ x,OptVal Z (m.lookup x) (f x)
theorem NsIs.mono{Z Z':Frz}{h h':Heap}{a:XwR}{m:List (Str × AV)}(k:Frz.le Z Z')(e:∀ o,h.get? a=some o->h'.get? a=some o)(x:NsIs Z h a m):NsIs Z' h' a m :=
 let ⟨f,n,r⟩:=x;⟨f,n.at' e,fun y=>(r y).mono k⟩
theorem NsIs.set{Z:Frz}{h h':Heap}{a:XwR}{m:List (Str × AV)}{x:Str}{v:AV}{u:Value}(hm:NsIs Z h a m)(hv:Val Z v u)
  (hn:∀ f,h.Ns a f->h'.Ns a (fun y=>if y=x then some u else f y)):NsIs Z h' a ((x,v)::m):=by
 obtain ⟨f,n,r⟩:=hm
 refine ⟨_,hn f n,fun y=>?_⟩
 rw [XwB]
 by_cases e:y=x
 ·subst e
  simp only [beq_self_eq_true,if_true]
  exact .some hv
 ·have:(y == x)=false:=beq_eq_false_iff_ne.mpr e
  simp only [this,e,if_false]
  exact r y
def Holds(Z:Frz)(s:Xwl)(a:XwR):AObj->Prop
 | .list xs=>∃ items n,s.heap.get? a=some {cls := .type "list",data := .seq items n}/\Vals Z xs items.toList
 | .ns m=>NsIs Z s.heap a m
 | .gen g gs=>s.heap.IsGen a g/\s.gens[g]? = some gs
 | .raw o=>s.heap.get? a=some o
 | .obj P _=>∃ o,s.heap.get? a=some o/\P Z o
def AObj.gnum:AObj->Option Nat
 | .gen g _=>some g
 | _=>none
theorem Holds.mono{Z Z':Frz}{s s':Xwl}{a:XwR}{o:AObj}(k:Frz.le Z Z')(e:∀ o,s.heap.get? a=some o->s'.heap.get? a=some o)
  (eg:∀ g gs,o.gnum=some g->s.gens[g]? = some gs->s'.gens[g]? = some gs) (x:Holds Z s a o):Holds Z' s' a o:=by
 cases o with
 | list xs=>obtain ⟨i,n,g,v⟩:=x;exact ⟨i,n,e _ g,v.mono k⟩
 | ns m=>exact NsIs.mono k e x
 | gen g gs =>
  obtain ⟨⟨o,nm,qn,ho,r⟩,y⟩:=x
  exact ⟨⟨o,nm,qn,e _ ho,r⟩,eg g gs rfl y⟩
 | raw o=>exact e _ x
 | obj P m=>obtain ⟨o,h,p⟩:=x;exact ⟨o,e _ h,m _ _ _ k p⟩
theorem Holds.live{Z:Frz}{s:Xwl}{a:XwR}{o:AObj}(x:Holds Z s a o):∃ ob,s.heap.get? a=some ob:=by
 cases o with
 | list xs=>obtain ⟨i,n,g,v⟩:=x;exact ⟨_,g⟩
 | ns m=>obtain ⟨f,⟨ob,_,_,g,_⟩,_⟩:=x;exact ⟨_,g⟩
 | gen g gs=>obtain ⟨⟨o,nm,qn,ho,r⟩,y⟩:=x;exact ⟨_,ho⟩
 | raw o=>exact ⟨_,x⟩
 | obj P m=>obtain ⟨o,h,p⟩:=x;exact ⟨o,h⟩
structure St where
 loc:List (Str × AV)
 led:Led
abbrev keys(l:Led):List XwR:=l.map (·.1)
abbrev gkeys(l:Led):List Nat:=l.filterMap fun p=>p.2.gnum
theorem Xpi{l:Led}{p:XwR × AObj}{g:Nat}(h:p∈l)(e:p.2.gnum=some g):g∈gkeys l:=List.mem_filterMap.mpr ⟨p,h,e⟩
structure SimL (B:Frz) (s:Xwl) (Z:Frz) (led:Led):Prop where
 base:Frz.le B Z
 frozen:∀ a o,Z a=some o->s.heap.get? a=some o
 nodup:(keys led).Nodup
 apart:∀ p∈led,Z p.1=none
 own:∀ p∈led,Holds Z s p.1 p.2
 gnodup:(gkeys led).Nodup
 bare:∀ x∈s.gens,x.bare=true
structure SimF (B:Frz) (env:Env) (s:Xwl) (Z:Frz) (st:St):Prop extends SimL B s Z st.led where
 locZ:Z env.locals=none
 locL:env.locals∉keys st.led
 loc:NsIs Z s.heap env.locals st.loc
 kinds:∀ x v,st.loc.lookup x=some v->env.kindOf x=some .local
 fn:env.scope.kind = .function
structure Own where
 at_:XwR->Prop
 gn:Nat->Prop
structure Ext (own:Own) (s:Xwl) (Z:Frz) (s':Xwl) (Z':Frz) (own':Own):Prop where
 le:Frz.le Z Z'
 kept:∀ a o,s.heap.get? a=some o -> ¬ own.at_ a->s'.heap.get? a=some o
 grow:∀ a,own'.at_ a->own.at_ a∨s.heap.get? a=none
 zgrow:∀ a o,Z' a=some o->Z a=some o∨own.at_ a∨s.heap.get? a=none
 os:s'.os=s.os
 gkept:∀ g gs,s.gens[g]? = some gs -> ¬ own.gn g->s'.gens[g]? = some gs
 ggrow:∀ g,own'.gn g->own.gn g∨s.gens[g]? = none
theorem Ext.refl{own:Own}{s:Xwl}{Z:Frz}:Ext own s Z s Z own:=⟨.refl _,fun _ _ e _=>e,fun _ h => .inl h,fun _ _ e => .inl e,rfl,fun _ _ e _=>e,fun _ h => .inl h⟩
theorem Ext.trans{o₁ o₂ o₃:Own}{s₁ s₂ s₃:Xwl}{Z₁ Z₂ Z₃:Frz}(x:Ext o₁ s₁ Z₁ s₂ Z₂ o₂)(y:Ext o₂ s₂ Z₂ s₃ Z₃ o₃):Ext o₁ s₁ Z₁ s₃ Z₃ o₃ where
 le:=x.le.trans y.le
 kept:=fun a o e h=>y.kept a o (x.kept a o e h) fun h'=>(x.grow a h').elim h fun n=>by rw [e] at n;cases n
 grow:=fun a h=>by
  rcases y.grow a h with h' | h'
  ·exact x.grow a h'
  ·by_cases q:o₁.at_ a
   ·exact .inl q
   ·right
    cases e:s₁.heap.get? a with
    | none=>rfl
    | some o=>rw [x.kept a o e q] at h';cases h'
 zgrow:=fun a o e=>by
  rcases y.zgrow a o e with h | h | h
  ·exact x.zgrow a o h
  ·exact .inr (x.grow a h)
  ·by_cases q:o₁.at_ a
   ·exact .inr (.inl q)
   ·refine .inr (.inr ?_)
    cases e':s₁.heap.get? a with
    | none=>rfl
    | some o=>rw [x.kept a o e' q] at h;cases h
 os:=y.os.trans x.os
 gkept:=fun a o e h=>y.gkept a o (x.gkept a o e h) fun h'=>(x.ggrow a h').elim h fun n=>by rw [e] at n;cases n
 ggrow:=fun a h=>by
  rcases y.ggrow a h with h' | h'
  ·exact x.ggrow a h'
  ·by_cases q:o₁.gn a
   ·exact .inl q
   ·right
    cases e:s₁.gens[a]? with
    | none=>rfl
    | some o=>rw [x.gkept a o e q] at h';cases h'
def Xk(env:Env)(st:St):Own:=⟨fun a=>a=env.locals∨a∈keys st.led,(· ∈ gkeys st.led)⟩
def Xh(led:Led):Own:=⟨(· ∈ keys led),(· ∈ gkeys led)⟩
section
variable{prog:Xwx}{w:XwE}{A:Xww}{B:Frz}{env:Env}
def T(prog:Xwx)(w:XwE)(A:Xww)(B:Frz)(env:Env){α β:Type}(rel:Frz->α->β->Prop)(t:Sem β)(st:St)(K:α->St->Prop):Prop :=
 ∀ (s:Xwl) (Z:Frz),SimF B env s Z st->∀ (Q:β->Xwl->Prop) (E:Value->Xwl->Prop),
  (∀ v x s' Z' st',K v st'->SimF B env s' Z' st'->rel Z' v x->Ext (Xk env st) s Z s' Z' (Xk env st')->Q x s')->XwG (XwD prog w) A t Q E s
inductive AFlow where
 | next | brk | cont
 | ret (v:AV)
inductive FVal (Z:Frz):AFlow->Flow->Prop
 | next:FVal Z .next .next
 | brk:FVal Z .brk .brk
 | cont:FVal Z .cont .cont
 | ret {v:AV} {x:Value}:Val Z v x->FVal Z (.ret v) (.ret x)
def XQ(_:Frz)(b c:Bool):Prop:=c=b
def XE(_:Frz)(_ _:Unit):Prop:=True
def F1(prog:Xwx)(w:XwE)(A:Xww)(B:Frz)(env:Env){α β:Type}(rel:Frz->α->β->Prop)(f:Value->Sem β)(v:AV)(st:St)(K:α->St->Prop):Prop :=
 ∀ (s:Xwl) (Z:Frz) (x:Value),Val Z v x->SimF B env s Z st->∀ (Q:β->Xwl->Prop) (E:Value->Xwl->Prop),
  (∀ v x s' Z' st',K v st'->SimF B env s' Z' st'->rel Z' v x->Ext (Xk env st) s Z s' Z' (Xk env st')->Q x s')->XwG (XwD prog w) A (f x) Q E s
def F2(prog:Xwx)(w:XwE)(A:Xww)(B:Frz)(env:Env){α β:Type}(rel:Frz->α->β->Prop)(f:Value->Value->Sem β)(v₁ v₂:AV)(st:St)(K:α->St->Prop):Prop :=
 ∀ (s:Xwl) (Z:Frz) (x₁ x₂:Value),Val Z v₁ x₁->Val Z v₂ x₂->SimF B env s Z st->∀ (Q:β->Xwl->Prop) (E:Value->Xwl->Prop),
  (∀ v x s' Z' st',K v st'->SimF B env s' Z' st'->rel Z' v x->Ext (Xk env st) s Z s' Z' (Xk env st')->Q x s')->XwG (XwD prog w) A (f x₁ x₂) Q E s
theorem SimF.toks{s:Xwl}{Z:Frz}{st:St}(h:SimF B env s Z st)(tk:Nat):SimF B env {s with toks:=tk} Z st :=
 ⟨⟨h.base,h.frozen,h.nodup,h.apart,fun p hp=>(h.own p hp).mono (.refl _) (fun _ e=>e) fun _ _ _ e=>e,h.gnodup,h.bare⟩,h.locZ,h.locL,h.loc,h.kinds,h.fn⟩
theorem Ext.toks{own:Own}{s:Xwl}{Z:Frz}(tk:Nat):Ext own s Z {s with toks:=tk} Z own:=⟨.refl _,fun _ _ e _=>e,fun _ h => .inl h,fun _ _ e => .inl e,rfl,fun _ _ e _=>e,fun _ h => .inl h⟩
theorem T.mono{α β:Type}{rel:Frz->α->β->Prop}{t:Sem β}{st:St}{K K':α->St->Prop}(h:T prog w A B env rel t st K)(k:∀ v st',K v st'->K' v st'):T prog w A B env rel t st K' :=
 fun s Z S Q E hQ=>h s Z S Q E fun v x s' Z' st' hk=>hQ v x s' Z' st' (k v st' hk)
theorem XpK{i:Int}{k:Nat}{pos:Pos}{st:St}{K:AV->St->Prop}(h:K (.int i) st):T prog w A B env Val (Xxy (.Constant (.int i) k pos) env) st K :=
 fun s Z S Q E hQ=>wpAny_Constant_int (hQ _ _ _ Z st h (S.toks _) (.int _ _) (.toks _))
theorem XpJ{x:Str}{k:Nat}{pos:Pos}{st:St}{K:AV->St->Prop}(h:K (.str x) st):T prog w A B env Val (Xxy (.Constant (.str x) k pos) env) st K :=
 fun s Z S Q E hQ=>Xyu (hQ _ _ _ Z st h (S.toks _) (.str _ _) (.toks _))
theorem Xey{x:List UInt8}{k:Nat}{pos:Pos}{st:St}{K:AV->St->Prop}(h:K (.bytes x.toArray) st):T prog w A B env Val (Xxy (.Constant (.bytes x) k pos) env) st K :=
 fun s Z S Q E hQ=>(fun _ _ _=>hQ _ (.bytes x.toArray s.toks) {s with toks:=s.toks+1} Z st h (S.toks _) (.bytes _ _) (.toks _))
theorem Xtv{k:Nat}{pos:Pos}{st:St}{K:AV->St->Prop}(h:K .none st):T prog w A B env Val (Xxy (.Constant .none k pos) env) st K :=
 fun s Z S Q E hQ=>Xwg (hQ _ _ s Z st h S .none .refl)
theorem Xtx{b:Bool}{k:Nat}{pos:Pos}{st:St}{K:AV->St->Prop}(h:K (.bool b) st):T prog w A B env Val (Xxy (.Constant (.bool b) k pos) env) st K :=
 fun s Z S Q E hQ=>Xwg (hQ _ _ s Z st h S (.bool b) .refl)
theorem Xsm{x:Str}{pos:Pos}{loc:List (Str × AV)}{led:Led}{v:AV}{K:AV->St->Prop}(hx:loc.lookup x=some v)(h:K v ⟨loc,led⟩)
  (hd:(x == ("__debug__" : Str))=false) (hany:v.isAny=false):T prog w A B env Val (Xxy (.Name x pos) env) ⟨loc,led⟩ K:=fun s Z S Q E hQ=>by
 obtain ⟨f,hn,hr⟩:=S.loc
 have hrx:=hr x
 dsimp only at hrx
 rw [hx] at hrx
 cases hfx:f x with
 | none =>
  rw [hfx] at hrx
  cases hrx
  cases hany
 | some u =>
  rw [hfx] at hrx
  cases hrx with
  | any=>cases hany
  | some hv=>exact wpAny_Name (wpAny_loadName_local S.fn (S.kinds x v hx) hn hfx (hQ v u s Z ⟨loc,led⟩ h S hv .refl)) hd
theorem Xsp{l r:Expr}{op:Operator}{pos:Pos}{st:St}{K:AV->St->Prop}
  (h:T prog w A B env Val (Xxy l env) st fun v₁ st₁=>T prog w A B env Val (Xxy r env) st₁ fun v₂ st₂=>F2 prog w A B env Val (binaryOp op) v₁ v₂ st₂ K) :
  T prog w A B env Val (Xxy (.BinOp l op r pos) env) st K:=fun s Z S Q E hQ =>
 wpAny_BinOp (h s Z S _ _ fun v₁ x₁ s₁ Z₁ st₁ k₁ S₁ V₁ X₁=>k₁ s₁ Z₁ S₁ _ _ fun v₂ x₂ s₂ Z₂ st₂ k₂ S₂ V₂ X₂ =>
  k₂ s₂ Z₂ x₁ x₂ (V₁.mono X₂.le) V₂ S₂ _ _ fun v x s' Z' st' k S' V X=>hQ v x s' Z' st' k S' V ((X₁.trans X₂).trans X))
theorem XfV{l r:Expr}{op:CmpOp}{pos:Pos}{st:St}{K:AV->St->Prop}
  (h:T prog w A B env Val (Xxy l env) st fun v₁ st₁=>T prog w A B env Val (Xxy r env) st₁ fun v₂ st₂=>F2 prog w A B env Val (Xyo op) v₁ v₂ st₂ K)
  (hm:behindInMarks op r=false) :
  T prog w A B env Val (Xxy (.Compare l [op] [r] pos) env) st K:=fun s Z S Q E hQ =>
 wpAny_Compare1 (h s Z S _ _ fun v₁ x₁ s₁ Z₁ st₁ k₁ S₁ V₁ X₁=>k₁ s₁ Z₁ S₁ _ _ fun v₂ x₂ s₂ Z₂ st₂ k₂ S₂ V₂ X₂ =>
  k₂ s₂ Z₂ x₁ x₂ (V₁.mono X₂.le) V₂ S₂ _ _ fun v x s' Z' st' k S' V X=>hQ v x s' Z' st' k S' V ((X₁.trans X₂).trans X)) hm
theorem XdT{l r:Expr}{op:CmpOp}{pos:Pos}{whole:Sem Value}{st:St}{K:Bool->St->Prop}
  (h:T prog w A B env Val (Xxy l env) st fun v₁ st₁=>T prog w A B env Val (Xxy r env) st₁ fun v₂ st₂=>F2 prog w A B env Val (Xyo op) v₁ v₂ st₂ fun c st₃=>F1 prog w A B env XQ truthy c st₃ K)
  (hm:behindInMarks op r=false) :
  T prog w A B env XQ (isTrue (.Compare l [op] [r] pos) env whole) st K:=fun s Z S Q E hQ =>
 wpAny_isTrue_Compare1 (h s Z S _ _ fun v₁ x₁ s₁ Z₁ st₁ k₁ S₁ V₁ X₁=>k₁ s₁ Z₁ S₁ _ _ fun v₂ x₂ s₂ Z₂ st₂ k₂ S₂ V₂ X₂ =>
  k₂ s₂ Z₂ x₁ x₂ (V₁.mono X₂.le) V₂ S₂ _ _ fun v₃ x₃ s₃ Z₃ st₃ k₃ S₃ V₃ X₃=>k₃ s₃ Z₃ x₃ V₃ S₃ _ _ fun v x s' Z' st' k S' V X=>hQ v x s' Z' st' k S' V (((X₁.trans X₂).trans X₃).trans X)) hm
theorem Xsr{e:Expr}{st:St}{K:Bool->St->Prop}(h:T prog w A B env Val (Xxy e env) st fun v st₁=>F1 prog w A B env XQ truthy v st₁ K)
  (he:isTrue e env (Xxy e env)=(do let v ← Xxy e env;standAt e.pos;XyV [v] (truthy v)):=by rfl):T prog w A B env XQ (isTrue e env (Xxy e env)) st K:=fun s Z S Q E hQ =>
 wpAny_isTrue_value (h s Z S _ _ fun v₁ x₁ s₁ Z₁ st₁ k₁ S₁ V₁ X₁=>k₁ s₁ Z₁ x₁ V₁ S₁ _ _ fun v x s' Z' st' k S' V X=>hQ v x s' Z' st' k S' V (X₁.trans X)) he
theorem XuS{x:Expr}{pos:Pos}{whole:Sem Value}{st:St}{K:Bool->St->Prop}(h:T prog w A B env XQ (isTrue x env (Xxy x env)) st fun b st'=>K (!b) st') :
  T prog w A B env XQ (isTrue (.UnaryOp .Not x pos) env whole) st K:=fun s Z S Q E hQ =>
 wpAny_isTrue_Not (h s Z S _ _ fun b c s' Z' st' k S' V X=>hQ (!b) (!c) s' Z' st' k S' (by unfold XQ at V ⊢;rw [V]) X)
theorem Xoy{st:St}{K:Bool->St->Prop}(h:K true st):T prog w A B env XQ (allTrue .And [] env) st K:=fun s Z S Q E hQ=>wpAny_allTrue_And_nil (hQ true true s Z st h S rfl .refl)
theorem XiK{st:St}{K:Bool->St->Prop}(h:K false st):T prog w A B env XQ (allTrue .Or [] env) st K:=fun s Z S Q E hQ=>wpAny_allTrue_Or_nil (hQ false false s Z st h S rfl .refl)
theorem XlQ{x:Expr}{rest:List Expr}{st:St}{K:Bool->St->Prop}
  (h:T prog w A B env XQ (isTrue x env (Xxy x env)) st fun b st'=>if b then T prog w A B env XQ (allTrue .And rest env) st' K else K false st'):T prog w A B env XQ (allTrue .And (x::rest) env) st K:=fun s Z S Q E hQ =>
 wpAny_allTrue_And_cons (h s Z S _ _ fun b c s' Z' st' k S' V X=>by
  unfold XQ at V
  subst V
  cases c with
  | true=>exact k s' Z' S' Q E fun b' c' s'' Z'' st'' k' S'' V' X'=>hQ b' c' s'' Z'' st'' k' S'' V' (X.trans X')
  | false=>exact hQ false false s' Z' st' k S' rfl X)
theorem XpP{op:BoolOp}{values:List Expr}{pos:Pos}{whole:Sem Value}{st:St}{K:Bool->St->Prop}(h:T prog w A B env XQ (allTrue op values env) st K) :
  T prog w A B env XQ (isTrue (.BoolOp op values pos) env whole) st K:=fun s Z S Q E hQ=>wpAny_isTrue_BoolOp (h s Z S Q E hQ)
theorem Xso{test body orelse:Expr}{pos:Pos}{st:St}{K:AV->St->Prop}
  (h:T prog w A B env XQ (isTrue test env (Xxy test env)) st fun b st'=>if b then T prog w A B env Val (Xxy body env) st' K else T prog w A B env Val (Xxy orelse env) st' K) :
  T prog w A B env Val (Xxy (.IfExp test body orelse pos) env) st K:=fun s Z S Q E hQ =>
 wpAny_IfExp (h s Z S _ _ fun b c s' Z' st' k S' V X=>by
  unfold XQ at V
  subst V
  cases c <;> exact k s' Z' S' Q E fun v x s'' Z'' st'' k' S'' V' X'=>hQ v x s'' Z'' st'' k' S'' V' (X.trans X'))
theorem XoJ{a b:Int}{st:St}{K:AV->St->Prop}(h:K (.int (a+b)) st):F2 prog w A B env Val (binaryOp .Add) (.int a) (.int b) st K:=fun s Z x₁ x₂ V₁ V₂ S Q E hQ=>by
 cases V₁;cases V₂;exact PyProof.Rows.add_int (hQ _ _ _ Z st h (S.toks _) (.int _ _) (.toks _))
theorem XoD{a b:Int}{st:St}{K:AV->St->Prop}(h:K (.int (a - b)) st):F2 prog w A B env Val (binaryOp .Sub) (.int a) (.int b) st K:=fun s Z x₁ x₂ V₁ V₂ S Q E hQ=>by
 cases V₁;cases V₂;exact PyProof.Rows.sub_int (hQ _ _ _ Z st h (S.toks _) (.int _ _) (.toks _))
theorem XoH{a b:Int}{st:St}{K:AV->St->Prop}(hb:b≠0)(h:K (.int (a.fmod b)) st):F2 prog w A B env Val (binaryOp .Mod) (.int a) (.int b) st K:=fun s Z x₁ x₂ V₁ V₂ S Q E hQ=>by
 cases V₁;cases V₂;exact PyProof.Rows.mod_int hb (hQ _ _ _ Z st h (S.toks _) (.int _ _) (.toks _))
theorem Xp9{a b:Int}{st:St}{K:AV->St->Prop}(h:K (.bool (a == b)) st):F2 prog w A B env Val (Xyo .Eq) (.int a) (.int b) st K:=fun s Z x₁ x₂ V₁ V₂ S Q E hQ=>by
 cases V₁;cases V₂;exact PyProof.Rows.eq_int (hQ _ _ _ Z st h S (.bool _) .refl)
theorem Xp3{a b:Int}{st:St}{K:AV->St->Prop}(h:K (.bool (a != b)) st):F2 prog w A B env Val (Xyo .NotEq) (.int a) (.int b) st K:=fun s Z x₁ x₂ V₁ V₂ S Q E hQ=>by
 cases V₁;cases V₂;exact PyProof.Rows.ne_int (hQ _ _ _ Z st h S (.bool _) .refl)
theorem Xp4{a b:Int}{st:St}{K:AV->St->Prop}(h:K (.bool (decide (a<b))) st):F2 prog w A B env Val (Xyo .Lt) (.int a) (.int b) st K:=fun s Z x₁ x₂ V₁ V₂ S Q E hQ=>by
 cases V₁;cases V₂;exact PyProof.Rows.lt_int (hQ _ _ _ Z st h S (.bool _) .refl)
theorem Xp6{a b:Int}{st:St}{K:AV->St->Prop}(h:K (.bool (decide (b<a))) st):F2 prog w A B env Val (Xyo .Gt) (.int a) (.int b) st K:=fun s Z x₁ x₂ V₁ V₂ S Q E hQ=>by
 cases V₁;cases V₂;exact PyProof.Rows.gt_int (hQ _ _ _ Z st h S (.bool _) .refl)
theorem Xp5{a b:Int}{st:St}{K:AV->St->Prop}(h:K (.bool (decide (a<=b))) st):F2 prog w A B env Val (Xyo .LtE) (.int a) (.int b) st K:=fun s Z x₁ x₂ V₁ V₂ S Q E hQ=>by
 cases V₁;cases V₂;exact PyProof.Rows.le_int (hQ _ _ _ Z st h S (.bool _) .refl)
theorem Xp7{a b:Int}{st:St}{K:AV->St->Prop}(h:K (.bool (decide (b<=a))) st):F2 prog w A B env Val (Xyo .GtE) (.int a) (.int b) st K:=fun s Z x₁ x₂ V₁ V₂ S Q E hQ=>by
 cases V₁;cases V₂;exact PyProof.Rows.ge_int (hQ _ _ _ Z st h S (.bool _) .refl)
theorem Xp8{a b:Str}{st:St}{K:AV->St->Prop}(h:K (.bool (a == b)) st):F2 prog w A B env Val (Xyo .Eq) (.str a) (.str b) st K:=fun s Z x₁ x₂ V₁ V₂ S Q E hQ=>by
 cases V₁;cases V₂;exact PyProof.Rows.eq_str (hQ _ _ _ Z st h S (.bool _) .refl)
theorem Xp2{a b:Str}{st:St}{K:AV->St->Prop}(h:K (.bool (a != b)) st):F2 prog w A B env Val (Xyo .NotEq) (.str a) (.str b) st K:=fun s Z x₁ x₂ V₁ V₂ S Q E hQ=>by
 cases V₁;cases V₂;exact PyProof.Rows.ne_str (hQ _ _ _ Z st h S (.bool _) .refl)
theorem XoI{a b:Str}{st:St}{K:AV->St->Prop}(hsz:a.length+b.length<=XwZ)(h:K (.str (a++b)) st):F2 prog w A B env Val (binaryOp .Add) (.str a) (.str b) st K:=fun s Z x₁ x₂ V₁ V₂ S Q E hQ=>by
 cases V₁;cases V₂;exact PyProof.Rows.add_str (fun t' tk=>hQ _ _ _ Z st h (S.toks _) (.str _ _) (.toks _)) hsz
theorem XbM{b:Bool}{st:St}{K:Bool->St->Prop}(h:K b st):F1 prog w A B env XQ truthy (.bool b) st K:=fun s Z x V S Q E hQ=>by
 cases V;exact wpAny_truthy_bool (hQ _ _ s Z st h S rfl .refl)
theorem Xjb{i:Int}{st:St}{K:Bool->St->Prop}(h:K (i != 0) st):F1 prog w A B env XQ truthy (.int i) st K:=fun s Z x V S Q E hQ=>by
 cases V;exact PySem.P.truthy_int (hQ _ _ s Z st h S rfl .refl)
theorem Xce{st:St}{K:AFlow->St->Prop}(h:K .next st):T prog w A B env FVal (execs [] env) st K:=fun s Z S Q E hQ=>wpAny_execs_nil (hQ _ _ s Z st h S .next .refl)
theorem XI{x:Stmt}{rest:List Stmt}{st:St}{K:AFlow->St->Prop}
  (h:T prog w A B env FVal (exec x env) st fun f st'=>match f with | .next=>T prog w A B env FVal (execs rest env) st' K | f=>K f st'):T prog w A B env FVal (execs (x::rest) env) st K:=fun s Z S Q E hQ =>
 wpAny_execs_cons (h s Z S _ _ fun f x s' Z' st' k S' V X=>by
  cases V with
  | next=>exact k s' Z' S' Q E fun v y s'' Z'' st'' k' S'' V' X'=>hQ v y s'' Z'' st'' k' S'' V' (X.trans X')
  | brk=>exact hQ _ _ s' Z' st' k S' .brk X
  | cont=>exact hQ _ _ s' Z' st' k S' .cont X
  | ret hv=>exact hQ _ _ s' Z' st' k S' (.ret hv) X)
theorem Xji{test:Expr}{body orelse:List Stmt}{pos:Pos}{st:St}{K:AFlow->St->Prop}
  (h:T prog w A B env XQ (isTrue test env (Xxy test env)) st fun b st'=>if b then T prog w A B env FVal (execs body env) st' K else T prog w A B env FVal (execs orelse env) st' K) :
  T prog w A B env FVal (exec (.If test body orelse pos) env) st K:=fun s Z S Q E hQ =>
 wpAny_If (h s Z S _ _ fun b c s' Z' st' k S' V X=>by
  unfold XQ at V
  subst V
  cases c <;> exact k s' Z' S' Q E fun v y s'' Z'' st'' k' S'' V' X'=>hQ v y s'' Z'' st'' k' S'' V' (X.trans X'))
theorem XpI{e:Expr}{pos:Pos}{st:St}{K:AFlow->St->Prop}(h:T prog w A B env Val (Xxy e env) st fun v st'=>K (.ret v) st'):T prog w A B env FVal (exec (.Return (some e) pos) env) st K:=fun s Z S Q E hQ =>
 wpAny_Return_some (h s Z S _ _ fun v x s' Z' st' k S' V X=>hQ _ _ s' Z' st' k S' (.ret V) X)
theorem Xot{pos:Pos}{st:St}{K:AFlow->St->Prop}(h:K (.ret .none) st):T prog w A B env FVal (exec (.Return none pos) env) st K:=fun s Z S Q E hQ =>
 wpAny_Return_none (hQ _ _ s Z st h S (.ret .none) .refl)
def XaQ:List (Str × AV)->Str->AV->List (Str × AV)
 | [],x,v=>[(x,v)]
 | (y,u)::r,x,v=>if x == y then (y,v)::r else (y,u)::XaQ r x v
theorem XcC(x:Str)(v:AV):∀ (l:List (Str × AV)) (y:Str),(XaQ l x v).lookup y=if y=x then some v else l.lookup y
 | [],y=>by
  unfold XaQ
  rw [XwB]
  by_cases e:y=x
  ·subst e;simp
  ·have:(y == x)=false:=beq_eq_false_iff_ne.mpr e
   simp [this,e]
 | (z,u)::r,y=>by
  unfold XaQ
  by_cases q:x=z
  ·subst q
   simp only [beq_self_eq_true,if_true]
   rw [XwB,XwB]
   by_cases e:y=x
   ·subst e;simp
   ·have:(y == x)=false:=beq_eq_false_iff_ne.mpr e
    simp [this,e]
  ·have hq:(x == z)=false:=beq_eq_false_iff_ne.mpr q
   simp only [hq,XwX,if_false]
   rw [XwB,XwB,XcC x v r y]
   by_cases e:y=z
   ·subst e
    have:y≠x:=fun h=>q h.symm
    simp [this]
   ·have:(y == z)=false:=beq_eq_false_iff_ne.mpr e
    simp [this]
theorem XqB{x:Str}{u v:AV}{r:List (Str × AV)}:XaQ ((x,u)::r) x v=(x,v)::r:=by unfold XaQ;rw [beq_self_eq_true,if_pos rfl]
theorem Xo3{x y:Str}{u v:AV}{r r':List (Str × AV)}(h:(x == y)=false)(e:XaQ r x v=r'):XaQ ((y,u)::r) x v=(y,u)::r':=by
 rw [← e]
 show (if (x == y)=true then _ else _)=_
 rw [h,if_neg Xw0]
theorem XqA{x:Str}{v:AV}:XaQ [] x v=[(x,v)]:=rfl
theorem XgL{x:Str}{v:AV}{loc:List (Str × AV)}{led:Led}{K:Unit->St->Prop}(hk:env.kindOf x=some .local){l:List (Str × AV)}(hl:XaQ loc x v=l)(h:K () ⟨l,led⟩) :
  F1 prog w A B env XE (XyU env x) v ⟨loc,led⟩ K:=fun s Z u V S Q E hQ=>by
 subst hl
 generalize hst:(⟨loc,led⟩:St)=st at *
 have h:K () ⟨XaQ st.loc x v,st.led⟩:=by subst hst;exact h
 obtain ⟨f,hn,hr⟩:=S.loc
 refine wpAny_storeName_local hk hn (fun h' hn' hsb=>?_) (by rw [S.fn];rfl)
 have keep:∀ b o,b≠env.locals->s.heap.get? b=some o->h'.get? b=some o:=fun b o hb e=>(hsb.2 b hb).trans e
 refine hQ () () _ Z ⟨XaQ st.loc x v,st.led⟩ h ⟨⟨S.base,fun a o e=>keep a o (fun q=>?_) (S.frozen a o e),S.nodup,S.apart,fun p hp=>(S.own p hp).mono (.refl _) (fun o e=>keep _ o (fun q=>?_) e) (fun _ _ _ e=>e),S.gnodup,S.bare⟩,S.locZ,S.locL,
  ⟨_,hn',fun y=>?_⟩,fun y u' e=>?_,S.fn⟩ trivial ⟨.refl _,fun a o e ha=>keep a o (fun q=>ha (.inl q)) e,fun a ha => .inl ha,fun _ _ e => .inl e,rfl,fun _ _ e _=>e,fun _ h => .inl h⟩
 ·rw [q,S.locZ] at e;cases e
 ·exact S.locL (q ▸ XwC hp)
 ·rw [XcC]
  by_cases e:y=x
  ·simp only [e,if_true];exact .some V
  ·simp only [e,if_false];exact hr y
 ·rw [XcC] at e
  by_cases q:y=x
  ·rw [q];exact hk
  ·simp only [q,if_false] at e;exact S.kinds y u' e
theorem Xi7{x:Str}{pos' pos:Pos}{value:Expr}{st:St}{K:AFlow->St->Prop}
  (h:T prog w A B env Val (Xxy value env) st fun v st₁=>F1 prog w A B env XE (XyU env x) v st₁ fun _ st₂=>K .next st₂)
  (hs:swapsWith value (some (.Name x pos')) pos.line env=XxW false) :
  T prog w A B env FVal (exec (.Assign [.Name x pos'] value pos) env) st K:=fun s Z S Q E hQ =>
 wpAny_Assign_Name (h s Z S _ _ fun v x₁ s₁ Z₁ st₁ k₁ S₁ V₁ X₁=>k₁ s₁ Z₁ x₁ V₁ S₁ _ _ fun _ _ s' Z' st' k S' _ X=>hQ _ _ s' Z' st' k S' .next (X₁.trans X)) hs
theorem Xov{x:Str}{pos' pos:Pos}{op:Operator}{value:Expr}{loc:List (Str × AV)}{led:Led}{v₀:AV}{K:AFlow->St->Prop}(hx:loc.lookup x=some v₀)(hany:v₀.isAny=false)
  (h:T prog w A B env Val (Xxy value env) ⟨loc,led⟩ fun v st₁=>F2 prog w A B env Val (inplaceOp op) v₀ v st₁ fun r st₂=>F1 prog w A B env XE (XyU env x) r st₂ fun _ st₃=>K .next st₃) :
  T prog w A B env FVal (exec (.AugAssign (.Name x pos') op value pos) env) ⟨loc,led⟩ K:=fun s Z S Q E hQ=>by
 obtain ⟨f,hn,hr⟩:=S.loc
 have hrx:=hr x
 dsimp only at hrx
 rw [hx] at hrx
 cases hfx:f x with
 | none =>
  rw [hfx] at hrx
  cases hrx
  cases hany
 | some u =>
  rw [hfx] at hrx
  cases hrx with
  | any=>cases hany
  | some hv =>
   exact wpAny_AugAssign_Name (wpAny_loadName_local S.fn (S.kinds x v₀ hx) hn hfx (h s Z S _ _ fun v x₁ s₁ Z₁ st₁ k₁ S₁ V₁ X₁=>k₁ s₁ Z₁ u x₁ (hv.mono X₁.le) V₁ S₁ _ _
    fun v₂ x₂ s₂ Z₂ st₂ k₂ S₂ V₂ X₂=>k₂ s₂ Z₂ x₂ V₂ S₂ _ _ fun _ _ s' Z' st' k S' _ X=>hQ _ _ s' Z' st' k S' .next ((X₁.trans X₂).trans X)))
theorem XlT{a b:Int}{st:St}{K:AV->St->Prop}(h:K (.int (a+b)) st):F2 prog w A B env Val (inplaceOp .Add) (.int a) (.int b) st K:=fun s Z x₁ x₂ V₁ V₂ S Q E hQ=>by
 cases V₁;cases V₂;exact PyProof.Rows.iadd_int (hQ _ _ _ Z st h (S.toks _) (.int _ _) (.toks _))
theorem XlS{a b:Int}{st:St}{K:AV->St->Prop}(h:K (.int (a - b)) st):F2 prog w A B env Val (inplaceOp .Sub) (.int a) (.int b) st K:=fun s Z x₁ x₂ V₁ V₂ S Q E hQ=>by
 cases V₁;cases V₂;exact PyProof.Rows.isub_int (hQ _ _ _ Z st h (S.toks _) (.int _ _) (.toks _))
theorem Xdj(x y:Str):∀ loc:List (Str × AV),(loc++[(x,AV.any)]).lookup y=loc.lookup y∨(y=x/\(loc++[(x,AV.any)]).lookup y=some .any)
 | []=>by
  by_cases e:y=x
  ·subst e
   right
   refine ⟨rfl,?_⟩
   show List.lookup y [(y,AV.any)]=_
   rw [XwB,beq_self_eq_true]
  ·left
   have:(y == x)=false:=beq_eq_false_iff_ne.mpr e
   show List.lookup y [(x,AV.any)]=_
   rw [XwB,this]
 | p::l=>by
  rw [Xws,XwB,XwB]
  cases y == p.1 with
  | true=>exact .inl rfl
  | false=>exact Xdj x y l
theorem SimF.spare{s:Xwl}{Z:Frz}{loc:List (Str × AV)}{led:Led}(x:Str)(hk:env.kindOf x=some .local)(S:SimF B env s Z ⟨loc,led⟩):SimF B env s Z ⟨loc++[(x,.any)],led⟩:=by
 refine ⟨S.toSimL,S.locZ,S.locL,?_,fun y v e=>?_,S.fn⟩
 ·obtain ⟨f,hn,hr⟩:=S.loc
  refine ⟨f,hn,fun y=>?_⟩
  rcases Xdj x y loc with h | ⟨_,h⟩
  ·show OptVal Z ((loc++[(x,AV.any)]).lookup y) (f y)
   rw [h];exact hr y
  ·show OptVal Z ((loc++[(x,AV.any)]).lookup y) (f y)
   rw [h];exact .any
 ·rcases Xdj x y loc with h | ⟨h,_⟩
  ·exact S.kinds y v (by rw [← h];exact e)
  ·rw [h];exact hk
theorem T.spare{α β:Type}{rel:Frz->α->β->Prop}{t:Sem β}{loc:List (Str × AV)}{led:Led}{K:α->St->Prop}(x:Str)(hk:env.kindOf x=some .local)(h:T prog w A B env rel t ⟨loc++[(x,.any)],led⟩ K):T prog w A B env rel t ⟨loc,led⟩ K :=
 fun s Z S Q E hQ=>h s Z (S.spare x hk) Q E hQ
end
end
section
variable{prog:Xwx}{w:XwE}{A:Xww}{B:Frz}{env:Env}
inductive KwVals (Z:Frz):List (Str × AV)->List (Str × Value)->Prop
 | nil:KwVals Z [] []
 | cons {k:Str} {v:AV} {x:Value} {l:List (Str × AV)} {r:List (Str × Value)}:Val Z v x->KwVals Z l r->KwVals Z ((k,v)::l) ((k,x)::r)
theorem KwVals.mono{Z Z':Frz}(k:Frz.le Z Z'){l:List (Str × AV)}{r:List (Str × Value)}(h:KwVals Z l r):KwVals Z' l r:=by
 induction h with
 | nil=>exact .nil
 | cons v _ ih=>exact .cons (v.mono k) ih
theorem KwVals.lookup{Z:Frz}{l:List (Str × AV)}{r:List (Str × Value)}(h:KwVals Z l r)(y:Str):OptVal Z (l.lookup y) (r.lookup y):=by
 induction h with
 | nil=>exact .none
 | @cons k v x l r hv _ ih =>
  rw [XwB,XwB]
  cases e:(y == k) with
  | true=>exact .some hv
  | false=>exact ih
theorem KwVals.keys{Z:Frz}{l:List (Str × AV)}{r:List (Str × Value)}(h:KwVals Z l r):r.map (·.1)=l.map (·.1):=by
 induction h with
 | nil=>rfl
 | cons _ _ ih=>simp only [Xwr,ih]
theorem KwVals.append{Z:Frz}{l l':List (Str × AV)}{r r':List (Str × Value)}(h:KwVals Z l r)(h':KwVals Z l' r'):KwVals Z (l++l') (r++r'):=by
 induction h with
 | nil=>exact h'
 | cons v _ ih=>exact .cons v ih
theorem KwVals.reverse{Z:Frz}{l:List (Str × AV)}{r:List (Str × Value)}(h:KwVals Z l r):KwVals Z l.reverse r.reverse:=by
 induction h with
 | nil=>exact .nil
 | cons v _ ih=>rw [XwL,XwL];exact ih.append (.cons v .nil)
theorem KwVals.zip{Z:Frz}:∀ (ks:List Str) {vs:List AV} {xs:List Value},Vals Z vs xs->KwVals Z (ks.zip vs) (ks.zip xs)
 | [],_,_,_=>by simpa using KwVals.nil
 | _::_,_,_,.nil=>by simpa using KwVals.nil
 | _::ks,_,_,.cons h t=>by simpa using KwVals.cons h (KwVals.zip ks t)
def TC(prog:Xwx)(w:XwE)(A:Xww)(B:Frz)(f:AV)(args:List AV)(kw:List (Str × AV))(led:Led)(K:AV->Led->Prop):Prop :=
 ∀ (s:Xwl) (Z:Frz) (fx:Value) (xs:List Value) (ks:List (Str × Value)),SimL B s Z led->Val Z f fx->Vals Z args xs->KwVals Z kw ks->∀ (R:Result->Xwl->Prop),
  (∀ v x s' Z' led',K v led'->SimL B s' Z' led'->Val Z' v x->Ext (Xh led) s Z s' Z' (Xh led')->R (.ok (.ret x)) s')->codeAny (XwD prog w) A (.call fx ⟨xs,ks⟩) R s
theorem SimF.after{s s':Xwl}{Z Z':Frz}{st:St}{led':Led}(S:SimF B env s Z st)(L:SimL B s' Z' led')(X:Ext (Xh st.led) s Z s' Z' (Xh led')):SimF B env s' Z' ⟨st.loc,led'⟩:=by
 obtain ⟨f,hn,hr⟩:=S.loc
 obtain ⟨ob,es,ep,g,_⟩:=id hn
 refine ⟨L,?_,fun h=>?_,NsIs.mono X.le (fun o e=>X.kept _ o e S.locL) S.loc,S.kinds,S.fn⟩
 ·cases e:Z' env.locals with
  | none=>rfl
  | some o =>
   rcases X.zgrow _ o e with q | q | q
   ·rw [S.locZ] at q;cases q
   ·exact absurd q S.locL
   ·rw [g] at q;cases q
 ·rcases X.grow _ h with q | q
  ·exact S.locL q
  ·rw [g] at q;cases q
theorem Ext.toF{s s':Xwl}{Z Z':Frz}{st:St}{led':Led}(X:Ext (Xh st.led) s Z s' Z' (Xh led')):Ext (Xk env st) s Z s' Z' (Xk env ⟨st.loc,led'⟩) where
 le:=X.le
 kept:=fun a o e h=>X.kept a o e fun q=>h (.inr q)
 grow:=fun a h=>by
  rcases h with h | h
  ·exact .inl (.inl h)
  ·exact (X.grow a h).imp .inr id
 zgrow:=fun a o e=>(X.zgrow a o e).imp id (Or.imp .inr id)
 os:=X.os
 gkept:=X.gkept
 ggrow:=X.ggrow
structure Ground0 (B:Frz):Prop where
 lim:∀ s:Xwl,(∀ a o,B a=some o->s.heap.get? a=some o)->s.heap.NoLimit
def XaV(scope:Scope)(L g:XwR)(cells:List (Str × XwR))(qual:Str)(f:XwR)(cd:Value)(bi:XwR):Env :=
 { scope,locals:=L,globals:=g,cells,qual:=qual ++ ".<locals>.",func:=some f,code:=cd,frame:=some L,builtins:=bi}
def Binds(prog:Xwx)(w:XwE)(A:Xww)(B:Frz)(fd:XyS)(args:List AV)(kw binds:List (Str × AV)):Prop :=
 ∀ (s:Xwl) (Z:Frz) (led:Led) (xs:List Value) (ks:List (Str × Value)),SimL B s Z led->Vals Z args xs->KwVals Z kw ks ->
  ∀ (Q:List (Str × Value)->Xwl->Prop) (E:Value->Xwl->Prop),(∀ bs s' Z',SimL B s' Z' led->KwVals Z' binds bs->Ext (Xh led) s Z s' Z' (Xh led)->Q bs s')->XwG (XwD prog w) A (bindArgs fd ⟨xs,ks⟩) Q E s
theorem XuQ{f:XwR}{o:Obj}{fd:XyS}{body:List Stmt}{args:List AV}{kw binds:List (Str × AV)}{led:Led}{K:AV->Led->Prop}{c:XwR}{oc:Obj}{vs:Array Value}{tq:Tok}
  (hG:Ground0 B) (ho:B f=some o) (hd:o.data = .func fd) (hco:fd.scope.isCoroutine=false) (hgen:fd.scope.isGenerator=false) (hk:fd.scope.kind = .function) (hbody:fd.body = .stmts body)
  (hcell:∀ x∈fd.scope.names,x.2 ≠ .cell)
  (hc:fd.code = .ref c) (hoc:B c=some oc) (hocd:oc.data = .fields vs) (hq:vs[1]? = some (.str fd.qualname tq)) (hroom:A.depth<XxV)
  (hb:Binds prog w A.in1 B fd args kw binds) (hloc:∀ x∈binds.map (·.1),fd.scope.names.lookup x=some .local)
  (h:∀ L,L∉keys led->T prog w (A.deeper (XaV fd.scope L fd.globals fd.closure fd.qualname f fd.code fd.builtins)) B (XaV fd.scope L fd.globals fd.closure fd.qualname f fd.code fd.builtins) FVal
   (execs body (XaV fd.scope L fd.globals fd.closure fd.qualname f fd.code fd.builtins)) ⟨binds.reverse,led⟩ fun fl st'=>match fl with
    | .ret v=>K v st'.led
    | _=>K .none st'.led) :
  TC prog w A B (.ref f) args kw led K:=fun s Z fx xs ks S hf hx hkw R hR=>by
 cases hf
 refine codeAny_call_function hroom (S.frozen _ _ (S.base _ _ ho)) hd hco hgen hbody ⟨c,oc,vs,tq,hc,S.frozen _ _ (S.base _ _ hoc),hocd,hq⟩ ?_
 refine hb s Z led xs ks S hx hkw _ _ fun bs s₁ Z₁ S₁ hbs X₁=>?_
 have hR₁:∀ v x s' Z' led',K v led'->SimL B s' Z' led'->Val Z' v x->Ext (Xh led) s₁ Z₁ s' Z' (Xh led')->R (.ok (.ret x)) s':=fun v x s' Z' led' k S' V X=>hR v x s' Z' led' k S' V (X₁.trans X)
 clear hR X₁
 revert s₁ Z₁
 intro s Z S hbs hR
 have hlocs:∀ x∈bs,fd.scope.names.lookup x.1=some .local:=fun x hx=>hloc x.1 (by rw [← hbs.keys];exact XwC hx)
 refine wpAny_newFunctionEnv (around:=none) hcell hlocs (fun h₁ hns hsb=>?_) hk
 have keep:∀ b o,s.heap.get? b=some o->h₁.get? b=some o:=fun b o e=>hsb.extBut b o (Xxu (Xw7 e)) (Xwq _ e)
 have hfresh:s.heap.get? s.heap.objs.size=none:=by
  cases e:s.heap.get? s.heap.objs.size with
  | none=>rfl
  | some o=>exact absurd (Xw7 e) (Xx8 _)
 have hL:s.heap.objs.size∉keys led:=fun q=>by
  obtain ⟨p,hp,e⟩:=XwJ.mp q
  obtain ⟨ob,g⟩:=(S.own p hp).live
  rw [e,hfresh] at g;cases g
 have hZ:Z s.heap.objs.size=none:=by
  cases e:Z s.heap.objs.size with
  | none=>rfl
  | some o=>rw [S.frozen _ _ e] at hfresh;cases hfresh
 refine ⟨hG.lim _ fun a o e=>keep a o (S.frozen a o (S.base a o e)),?_⟩
 show codeAny _ A (.func body (XaV fd.scope s.heap.objs.size fd.globals fd.closure fd.qualname f fd.code fd.builtins)) R _
 refine codeAny_func ?_
 have SF:SimF B (XaV fd.scope s.heap.objs.size fd.globals fd.closure fd.qualname f fd.code fd.builtins) {s with heap:=h₁,toks:=s.toks+bs.length} Z ⟨binds.reverse,led⟩:=by
  refine ⟨⟨S.base,fun a o e=>keep a o (S.frozen a o e),S.nodup,S.apart,fun p hp=>(S.own p hp).mono (.refl _) (fun o e=>keep _ o e) (fun _ _ _ e=>e),S.gnodup,S.bare⟩,hZ,hL,⟨_,hns,fun y=>hbs.reverse.lookup y⟩,fun x v e=>?_,hk⟩
  have hm:x∈binds.map (·.1):=by
   have:∀ (l:List (Str × AV)),l.lookup x=some v->x∈l.map (·.1):=fun l=>by
    induction l with
    | nil=>intro e;cases e
    | cons p l ih =>
     intro e
     rw [XwB] at e
     cases q:(x == p.1) with
     | true=>rw [beq_iff_eq.mp q];simp
     | false=>rw [q] at e;exact Xwh _ (ih e)
   have:=this _ e
   simpa using this
  exact hloc x hm
 refine h s.heap.objs.size hL _ Z SF _ _ fun fl x s' Z' st' k S' V X=>?_
 have X':Ext (Xh led) s Z s' Z' (Xh st'.led):=by
  refine ⟨X.le,fun a o e ha=>X.kept a o (keep a o e) fun q=>?_,fun a ha=>?_,fun a o e=>?_,X.os,X.gkept,X.ggrow⟩
  ·rcases q with q | q
   ·rw [q] at e
    rw [show (XaV fd.scope s.heap.objs.size fd.globals fd.closure fd.qualname f fd.code fd.builtins).locals=s.heap.objs.size from rfl,hfresh] at e;cases e
   ·exact ha q
  ·rcases X.grow a (.inr ha) with q | q
   ·rcases q with q | q
    ·exact .inr (q ▸ hfresh)
    ·exact .inl q
   ·right
    cases e:s.heap.get? a with
    | none=>rfl
    | some o=>rw [show h₁.get? a=some o from keep a o e] at q;cases q
  ·rcases X.zgrow a o e with q | q | q
   ·exact .inl q
   ·rcases q with q | q
    ·exact .inr (.inr (q ▸ hfresh))
    ·exact .inr (.inl q)
   ·refine .inr (.inr ?_)
    cases e':s.heap.get? a with
    | none=>rfl
    | some o=>rw [show h₁.get? a=some o from keep a o e'] at q;cases q
 cases V with
 | next=>exact hR _ _ s' Z' st'.led k S'.toSimL .none X'
 | brk=>exact hR _ _ s' Z' st'.led k S'.toSimL .none X'
 | cont=>exact hR _ _ s' Z' st'.led k S'.toSimL .none X'
 | ret hv=>exact hR _ _ s' Z' st'.led k S'.toSimL hv X'
end
section
variable{prog:Xwx}{w:XwE}{A:Xww}{B:Frz}{env:Env}
theorem Xls{x:Str}{v:AV}{l:List (Str × AV)}:List.lookup x ((x,v)::l)=some v:=by rw [XwB,beq_self_eq_true]
theorem Xlr{x y:Str}{v u:AV}{l:List (Str × AV)}(h:(x == y)=false)(e:List.lookup x l=some v):List.lookup x ((y,u)::l)=some v:=by rw [XwB,h];exact e
def XF(B:Frz)(x:Str)(v:AV):Prop :=
 ∀ (M:Model) (A:Xww) (s:Xwl) (Z:Frz) (env:Env),Frz.le B Z->(∀ a o,Z a=some o->s.heap.get? a=some o)->env.globals=XxF->env.builtins=Xyd->∀ (Q:Value->Xwl->Prop) (E:Value->Xwl->Prop),
  (∀ u,Val Z v u->Q u s)->XwG M A (loadGlobal env x) Q E s
theorem Xc4{B:Frz}{a:XwR}{o:Obj}{es:Array DictEntry}{ep:Nat}{s:Xwl}{Z:Frz}(hB:B a=some o)(hd:o.data = .dict es ep)(hk:StrKeys es)(le:Frz.le B Z)(fr:∀ a o,Z a=some o->s.heap.get? a=some o) :
  s.heap.Ns a (nsFind es):=⟨o,es,ep,fr _ _ (le _ _ hB),hd,hk,fun _=>rfl⟩
theorem Xbc{x:Str}{v:AV}{u:Value}{o:Obj}{es:Array DictEntry}{ep:Nat}(hB:B XxF=some o)(hd:o.data = .dict es ep)(hk:StrKeys es)(e:nsFind es x=some u)(hv:∀ Z,Val Z v u):XF B x v :=
 fun M A s Z env le fr hg hb Q E hQ=>Calls.loadGlobal_global (by rw [hg];exact Xc4 hB hd hk le fr) e (hQ u (hv Z))
theorem Xx{x:Str}{v:AV}{u:Value}{o o':Obj}{es es':Array DictEntry}{ep ep':Nat}(hB:B XxF=some o)(hd:o.data = .dict es ep)(hk:StrKeys es)(e:nsFind es x=none)
  (hB':B Xyd=some o') (hd':o'.data = .dict es' ep') (hk':StrKeys es') (e':nsFind es' x=some u) (hv:∀ Z,Val Z v u):XF B x v :=
 fun M A s Z env le fr hg hb Q E hQ=>Calls.loadGlobal_builtin (by rw [hg];exact Xc4 hB hd hk le fr) e (by rw [hb];exact Xc4 hB' hd' hk' le fr) e' (hQ u (hv Z))
theorem Xn{x:Str}{pos:Pos}{st:St}{v:AV}{K:AV->St->Prop}(hx:XF B x v)(hk:env.kindOf x=some .globalImplicit)(hg:env.globals=XxF)(hb:env.builtins=Xyd)
  (hd:(x == ("__debug__" : Str))=false) (h:K v st):T prog w A B env Val (Xxy (.Name x pos) env) st K:=fun s Z S Q E hQ =>
 Calls.Name_function_global S.fn hk (hx _ _ s Z env S.base S.frozen hg hb _ _ fun u V=>hQ v u s Z st h S V .refl) hd
theorem Xhh{pos:Pos}{st:St}{K:List AV->St->Prop}(h:K [] st):T prog w A B env Vals (spliced (Xyp pos (Xw9 [] env))) st K:=fun s Z S Q E hQ=>Calls.spliced_nil (hQ _ _ s Z st h S .nil .refl)
theorem Xde{e:Expr}{rest:List Expr}{pos:Pos}{st:St}{K:List AV->St->Prop}(hs:Xw9 (e::rest) env=(false,Xxy e env)::Xw9 rest env)
  (h:T prog w A B env Val (Xxy e env) st fun v st₁=>T prog w A B env Vals (spliced (Xyp pos (Xw9 rest env))) st₁ fun vs st₂=>K (v::vs) st₂) :
  T prog w A B env Vals (spliced (Xyp pos (Xw9 (e::rest) env))) st K:=fun s Z S Q E hQ=>by
 rw [hs]
 exact Calls.spliced_cons (h s Z S _ _ fun v₁ x₁ s₁ Z₁ st₁ k₁ S₁ V₁ X₁=>k₁ s₁ Z₁ S₁ _ _ fun v₂ x₂ s₂ Z₂ st₂ k₂ S₂ V₂ X₂=>hQ _ _ s₂ Z₂ st₂ k₂ S₂ (.cons (V₁.mono X₂.le) V₂) (X₁.trans X₂))
def FC(prog:Xwx)(w:XwE)(A:Xww)(B:Frz)(env:Env)(f:AV)(args:List AV)(kw:List (Str × AV))(st:St)(K:AV->St->Prop):Prop :=
 ∀ (s:Xwl) (Z:Frz) (fx:Value) (xs:List Value) (ks:List (Str × Value)),Val Z f fx->Vals Z args xs->KwVals Z kw ks->SimF B env s Z st->∀ (Q:Value->Xwl->Prop) (E:Value->Xwl->Prop),
  (∀ v x s' Z' st',K v st'->SimF B env s' Z' st'->Val Z' v x->Ext (Xk env st) s Z s' Z' (Xk env st')->Q x s')->XwG (XwD prog w) A (call fx xs ks) Q E s
theorem XgG{f:AV}{args:List AV}{kw:List (Str × AV)}{st:St}{K:AV->St->Prop}(h:TC prog w A B f args kw st.led fun v led'=>K v ⟨st.loc,led'⟩):FC prog w A B env f args kw st K :=
 fun s Z fx xs ks hf hx hk S Q E hQ=>Xyl (h s Z fx xs ks S.toSimL hf hx hk _ fun v x s' Z' led' k L V X=>hQ v x s' Z' ⟨st.loc,led'⟩ k (S.after L X) V X.toF)
def XdU(prog:Xwx)(w:XwE)(B:Frz)(f:AV):Prop :=
 ∀ (A:Xww) (s:Xwl) (Z:Frz) (fx:Value),Val Z f fx->Frz.le B Z->(∀ a o,Z a=some o->s.heap.get? a=some o)->∀ (Q:Keeper->Xwl->Prop) (E:Value->Xwl->Prop),(∀ k,Q k s)->XwG (XwD prog w) A (keeperOf fx) Q E s
theorem XrI{id:String}:XdU prog w B (.blt id):=fun A s Z fx V le fr Q E hQ=>by cases V;exact Xwg (hQ _)
theorem XrH{n:String}:XdU prog w B (.typ n):=fun A s Z fx V le fr Q E hQ=>by cases V;exact Xwg (hQ _)
theorem Xtf{f:XwR}{o:Obj}{fd:XyS}(ho:B f=some o)(hd:o.data = .func fd):XdU prog w B (.ref f):=fun A s Z fx V le fr Q E hQ=>by
 cases V
 unfold keeperOf
 refine Xwe (wpAny_load (fr _ _ (le _ _ ho)) ?_)
 rw [hd]
 exact Xwg (hQ _)
theorem Xtg{id:String}{self:AV}:XdU prog w B (.bm id self):=fun A s Z fx V le fr Q E hQ=>by
 cases V with
 | bm e h =>
  unfold keeperOf
  refine Xwe (wpAny_load (fr _ _ e) ?_)
  exact Xwg (hQ _)
theorem Xdq{fx:Value}{s:Xwl}{Q:Args->Xwl->Prop}{E:Value->Xwl->Prop}(h:XwG (XwD prog w) A (spliced []) (fun vs s'=>Q ⟨vs,[]⟩ s') E s):XwG (XwD prog w) A (evalArgs fx true [] []) Q E s:=by
 unfold evalArgs
 show XwG _ A (spliced [] >>= _) Q E s
 refine Xwe (Xw8 h (fun vs s' h'=>?_) fun _ _ x=>x)
 refine Xwe (Xwg ?_)
 refine Xwt ?_
 exact Xwe (Xwg (Xwe (Xwg (Xwg h'))))
def CA(prog:Xwx)(w:XwE)(A:Xww)(B:Frz)(env:Env)(pos:Pos)(f:AV)(first:List AV)(args:List Expr)(st:St)(K:AV->St->Prop):Prop :=
 ∀ (s:Xwl) (Z:Frz) (fx:Value) (xs:List Value),Val Z f fx->Vals Z first xs->SimF B env s Z st->∀ (Q:Value->Xwl->Prop) (E:Value->Xwl->Prop),
  (∀ v x s' Z' st',K v st'->SimF B env s' Z' st'->Val Z' v x->Ext (Xk env st) s Z s' Z' (Xk env st')->Q x s')->XwG (XwD prog w) A (callWith pos fx xs (Xyp pos (Xw9 args env)) []) Q E s
theorem Xcy{pos:Pos}{f:AV}{first:List AV}{args:List Expr}{st:St}{K:AV->St->Prop}(hst:((Xyp pos (Xw9 args env)).all fun x => !x.1)=true)(hk:XdU prog w B f)
  (h:T prog w A B env Vals (spliced (Xyp pos (Xw9 args env))) st fun vs st₁=>FC prog w A B env f (first++vs) [] st₁ K):CA prog w A B env pos f first args st K:=fun s Z fx xs hf hxs S Q E hQ=>by
 unfold callWith
 have hargs:∀ {Q':Args->Xwl->Prop},(∀ v x s' Z' st',FC prog w A B env f (first++v) [] st' K->SimF B env s' Z' st'->Vals Z' v x->Ext (Xk env st) s Z s' Z' (Xk env st')->Q' ⟨x,[]⟩ s') ->
   XwG (XwD prog w) A (evalArgs fx true (Xyp pos (Xw9 args env)) []) Q' E s:=fun {Q'} hQ'=>by
  have hsp:=h s Z S (fun x s'=>Q' ⟨x,[]⟩ s') E hQ'
  revert hsp hst
  generalize Xyp pos (Xw9 args env)=l
  intro hst hsp
  cases l with
  | nil=>exact Xdq hsp
  | cons y r =>
   obtain ⟨b,t⟩:=y
   have:b=false:=by simpa using (XwU.mp hst (b,t) (Xwf ..))
   subst this
   exact Calls.evalArgs_plain hsp
 refine Xwe (Xwt (hargs fun vs x s₁ Z₁ st₁ k₁ S₁ V₁ X₁=>Xwe (XwQ ?_)))
 refine Xwe (hk A s₁ Z₁ fx (hf.mono X₁.le) S₁.base S₁.frozen _ _ fun k=>?_)
 have hcall:XwG (XwD prog w) A (call fx (xs++x) []) (fun r s'=>XwG (XwD prog w) A (do XyV [r] point;XxW r) Q E s') E s₁ :=
  k₁ s₁ Z₁ fx _ [] (hf.mono X₁.le) ((hxs.mono X₁.le).append V₁) .nil S₁ _ _ fun v y s' Z' st' k S' V X=>Xwe (Xwt (wpAny_point (Xwg (hQ v y s' Z' st' k S' V (X₁.trans X)))))
 have hop:∀ l,XwG (XwD prog w) A (operate l (call fx (xs++x) []) >>= fun r=>(do XyV [r] point;XxW r)) Q E s₁:=fun l=>Xwe (fun Γ p hΓ=>by rw [Sem.wp_operate];exact hcall Γ p hΓ)
 have hm:∀ m,XwG (XwD prog w) A (callMarked m fx (xs++x) [] >>= fun r=>(do XyV [r] point;XxW r)) Q E s₁:=fun m=>Xwe (by unfold callMarked;exact Calls.wpAny_keep hcall)
 generalize (((Xyp pos (Xw9 args env)).any fun x=>x.fst) || ([]:List (Option Str × Sem Value)).any fun x=>x.fst.isNone)=b
 cases k <;> cases b <;> first
  | exact hop _
  | exact hm _
  | exact Xwe hcall
  | exact wpAny_ite (by split <;> first | exact Xwe hcall | exact hm _)
theorem Xty{func:Expr}{args:List Expr}{pos:Pos}{st:St}{K:AV->St->Prop}(hc:Xxy (.Call func args [] pos) env=(do callWith pos (← Xxy func env) [] (Xyp pos (Xw9 args env)) []))
  (h:T prog w A B env Val (Xxy func env) st fun f st₁=>CA prog w A B env pos f [] args st₁ K):T prog w A B env Val (Xxy (.Call func args [] pos) env) st K:=fun s Z S Q E hQ=>by
 rw [hc]
 exact Xwe (h s Z S _ _ fun f x s₁ Z₁ st₁ k₁ S₁ V₁ X₁=>k₁ s₁ Z₁ x [] V₁ .nil S₁ _ _ fun v y s' Z' st' k S' V X=>hQ v y s' Z' st' k S' V (X₁.trans X))
def Xat(B:Frz)(v:AV)(led:Led)(T:String):Prop :=
 ∀ (s:Xwl) (Z:Frz) (x:Value),Val Z v x->SimL B s Z led->s.TypeIs x T/\∀ a,x = .ref a->∃ o,s.heap.get? a=some o/\o.dict=none
theorem Xcn{x:Str}{led:Led}:Xat B (.str x) led "str" := fun s Z u V S=>by cases V;exact ⟨typeIs_str s x _,fun a e=>nomatch e⟩
theorem Xms{x:Array UInt8}{led:Led}(h:∀ (s:Xwl) t,s.TypeIs (.bytes x t) "bytes"):Xat B (.bytes x) led "bytes" := fun s Z u V S=>by cases V;exact ⟨h s _,fun a e=>nomatch e⟩
theorem XeP{a:XwR}{xs:List AV}{led:Led}(hm:(a,.list xs)∈led):Xat B (.ref a) led "list" := fun s Z u V S=>by
 cases V
 obtain ⟨items,n,g,_⟩:=S.own _ hm
 exact ⟨⟨_,g,rfl⟩,fun b e=>by cases e;exact ⟨_,g,rfl⟩⟩
theorem Xf0{xs:List AV}{led:Led}:Xat B (.lst xs) led "list" := fun s Z u V S=>by
 cases V with
 | lst e h=>exact ⟨⟨_,S.frozen _ _ e,rfl⟩,fun b q=>by cases q;exact ⟨_,S.frozen _ _ e,rfl⟩⟩
theorem Xau{o:Expr}{name:Str}{apos pos:Pos}{args:List Expr}{T' id:String}{st:St}{K:AV->St->Prop}
  (hbase:attributeBase o name env (Xxy o env)=Xxy o env)
  (hfew:((Xyp pos (Xw9 args env)).all (fun x => !x.1) && (backToKw pos (keywordEach [] env)).all (fun x=>x.1.isSome)
   && decide (args.length+([]:List Keyword).length+(if ([]:List Keyword).isEmpty then 0 else 1)<30))=true)
  (hline:(apos.endLine == pos.line)=true) (pa:PlainAttrs T') (slot:Slot T' name id) (hty:typeOf (.builtin id)=XxW (.type "method_descriptor"))
  (h:T prog w A B env Val (Xxy o env) st fun v st₁=>Xat B v st₁.led T'/\CA prog w A B env pos (.blt id) [v] args st₁ K) :
  T prog w A B env Val (Xxy (.Call (.Attribute o name apos) args [] pos) env) st K:=fun s Z S Q E hQ =>
 wpAny_Call_method hbase hfew hline pa slot hty (h s Z S _ _ fun v x s₁ Z₁ st₁ k₁ S₁ V₁ X₁ =>
  ⟨(k₁.1 s₁ Z₁ x V₁ S₁.toSimL).1,(k₁.1 s₁ Z₁ x V₁ S₁.toSimL).2,k₁.2 s₁ Z₁ _ [x] (.blt id) (.cons V₁ .nil) S₁ _ _ fun v y s' Z' st' k S' V X=>hQ v y s' Z' st' k S' V (X₁.trans X)⟩)
end
section
theorem Xs3{n:Int}{t u:Tok}(h0:0<=n)(h1:n<10 ^ 10):Meets (Builtin.«str.format» ⟨[.str (Str.mk #[123,125]) t,.int n u],[]⟩) (fun _ R s=>∀ t' k,R (.ok (.ret (.str (Xwk (XyP n)) t'))) {s with toks:=k}):=by
 kfm_run
theorem Xrx{n m:Int}{t u u':Tok}(h0:0<=n)(h1:n<10 ^ 10)(h2:0<=m)(h3:m<10 ^ 10):Meets (Builtin.«str.format» ⟨[.str (Str.mk #[123,125,44,123,125]) t,.int n u,.int m u'],[]⟩)
  (fun _ R s=>∀ t' k,R (.ok (.ret (.str ((Xwk (XyP n)++Xwk ",")++Xwk (XyP m)) t'))) {s with toks:=k}):=by
 kfm_run
end
section
def Xg(K:Frag):Frz:=fun a=>K.lookup a
theorem XT{K:Frag}{Z:Frz}{s:Xwl}(le:Frz.le (Xg K) Z)(fr:∀ a o,Z a=some o->s.heap.get? a=some o):K.In s.heap:=fun a o e=>fr a o (le a o e)
section
variable{prog:Xwx}{w:XwE}{A:Xww}{K:Frag}{env:Env}
theorem Binds.peek{fd:XyS}{args:List AV}{kw binds:List (Str × AV)}
  (h:∀ (Z:Frz) (xs:List Value) (ks:List (Str × Value)),Vals Z args xs->KwVals Z kw ks->∃ bs,Xxa K ⟨prog,w.params⟩ (bindArgs fd ⟨xs,ks⟩)=some bs/\KwVals Z binds bs) :
  Binds prog w A (Xg K) fd args kw binds:=fun s Z led xs ks S hx hk Q E hQ=>by
 obtain ⟨bs,e,hb⟩:=h Z xs ks hx hk
 exact XyF (M:=XwD prog w) (XT S.base S.frozen) e A Q E s (fun b o e=>e) (hQ bs s Z S hb .refl)
def XaT(K:Frag)(f:XwR)(gen:Bool)(fd:XyS)(body:List Stmt)(c:XwR):Prop :=
 (∃ o,K.lookup f=some o/\o.data = .func fd)/\fd.body = .stmts body/\fd.code = .ref c/\fd.closure=[]/\fd.globals=XxF/\fd.builtins=Xyd /\
 (∃ oc vs tq,K.lookup c=some oc/\oc.data = .fields vs/\vs[1]? = some (.str fd.qualname tq)) /\
 (fd.scope.isCoroutine=false/\fd.scope.isGenerator=gen/\fd.scope.kind = .function)/\(fd.scope.names.all fun x=>decide (x.2 ≠ .cell))=true
abbrev Xa0(fd:XyS)(L f c:XwR):Env:=XaV fd.scope L XxF [] fd.qualname f (.ref c) Xyd
theorem XaO{f c:XwR}{fd:XyS}{body:List Stmt}{args:List AV}{kw binds:List (Str × AV)}{led:Led}{R:AV->Led->Prop}
  (hG:Ground0 (Xg K)) (ok:XaT K f false fd body c) (hroom:A.depth<XxV) (hb:Binds prog w A.in1 (Xg K) fd args kw binds)
  (hloc:((binds.map (·.1)).all fun x=>decide (fd.scope.names.lookup x=some .local))=true)
  (h:∀ L,L∉keys led->T prog w (A.deeper (Xa0 fd L f c)) (Xg K) (Xa0 fd L f c) FVal (execs body (Xa0 fd L f c)) ⟨binds.reverse,led⟩ fun fl st'=>match fl with
    | .ret v=>R v st'.led
    | _=>R .none st'.led) :
  TC prog w A (Xg K) (.ref f) args kw led R:=by
 obtain ⟨⟨o,ho,hd⟩,hbody,hc,hcl,hg,hbi,⟨oc,vs,tq,hoc,hocd,hq⟩,⟨h1,h2,h3⟩,h4⟩:=ok
 refine XuQ hG ho hd h1 h2 h3 hbody (fun x hx=>of_decide_eq_true (XwU.mp h4 x hx)) hc hoc hocd hq hroom hb (fun x hx=>of_decide_eq_true (XwU.mp hloc x hx)) fun L hL=>?_
 rw [hcl,hg,hbi,hc]
 exact h L hL
theorem Xko{f c:XwR}{gen:Bool}{fd:XyS}{body:List Stmt}(ok:XaT K f gen fd body c):XdU prog w (Xg K) (.ref f):=by
 obtain ⟨⟨o,ho,hd⟩,_⟩:=ok
 exact Xtf ho hd
theorem Xfl{X:Str}{vs:List AV}{T':Str}{st:St}{R:AV->St->Prop}{B:Frz}
  (ha:∀ t (xs:List Value),xs.length=vs.length->XyY "str.format" ⟨.str X t::xs,[]⟩)
  (hm:∀ Z t xs,Vals Z vs xs->Meets (Builtin.«str.format» ⟨.str X t::xs,[]⟩) (fun _ R s=>∀ t' k,R (.ok (.ret (.str T' t'))) {s with toks:=k}))
  (h:R (.str T') st):FC prog w A B env (.blt "str.format") (.str X::vs) [] st R:=fun s Z fx xs ks hf hx hk S Q E hQ=>by
 cases hf
 cases hk
 cases hx with
 | cons hv ht =>
  cases hv
  exact KFm.call_k rfl (ha _ _ ht.length) (hm Z _ _ ht) fun t' k=>hQ _ _ _ Z st h (S.toks _) (.str _ _) (.toks _)
theorem Xhn{X:Str}{v:AV}{T':Str}{st:St}{R:AV->St->Prop}{B:Frz}
  (hm:∀ Z t x,Val Z v x->Meets (Builtin.«str.format» ⟨[.str X t,x],[]⟩) (fun _ R s=>∀ t' k,R (.ok (.ret (.str T' t'))) {s with toks:=k}))
  (h:R (.str T') st):FC prog w A B env (.blt "str.format") [.str X,v] [] st R :=
 Xfl (fun t xs hl=>by
  match xs,hl with
  | [x],_=>exact KFm.args_2 _ _) (fun Z t xs hx=>by
  cases hx with
  | cons a b=>cases b;exact hm Z t _ a) h
theorem XeA{X:Str}{v u:AV}{T':Str}{st:St}{R:AV->St->Prop}{B:Frz}
  (hm:∀ Z t x y,Val Z v x->Val Z u y->Meets (Builtin.«str.format» ⟨[.str X t,x,y],[]⟩) (fun _ R s=>∀ t' k,R (.ok (.ret (.str T' t'))) {s with toks:=k}))
  (h:R (.str T') st):FC prog w A B env (.blt "str.format") [.str X,v,u] [] st R :=
 Xfl (fun t xs hl=>by
  match xs,hl with
  | [x,y],_=>exact KFm.args_3 _ _ _) (fun Z t xs hx=>by
  cases hx with
  | cons a b=>cases b with
   | cons b c=>cases c;exact hm Z t _ _ a b) h
theorem Xdb{X:Str}{v u r:AV}{T':Str}{st:St}{R:AV->St->Prop}{B:Frz}
  (hm:∀ Z t x y z,Val Z v x->Val Z u y->Val Z r z->Meets (Builtin.«str.format» ⟨[.str X t,x,y,z],[]⟩) (fun _ R s=>∀ t' k,R (.ok (.ret (.str T' t'))) {s with toks:=k}))
  (h:R (.str T') st):FC prog w A B env (.blt "str.format") [.str X,v,u,r] [] st R :=
 Xfl (fun t xs hl=>by
  match xs,hl with
  | [x,y,z],_=>exact KFm.args_4 _ _ _ _) (fun Z t xs hx=>by
  cases hx with
  | cons a b=>cases b with
   | cons b c=>cases c with
    | cons c d=>cases d;exact hm Z t _ _ _ a b c) h
end
end
section
variable{prog:Xwx}{w:XwE}{A:Xww}{B:Frz}{env:Env}
theorem XkN{c:Const}{k:Nat}{p pos:Pos}{st:St}{K:AFlow->St->Prop}(hi:interactive env=false)
  (h:T prog w A B env Val (Xxy (.Constant c k p) env) st fun v st'=>(match v with | .ref _=>False | .tup _=>False | .lst _=>False | .mat _ _=>False | .bm _ _=>False | .any=>False | .inst _ _=>False | .rng _ _=>False | _=>True)/\K .next st') :
  T prog w A B env FVal (exec (.Expr (.Constant c k p) pos) env) st K:=fun s Z S Q E hQ =>
 wpAny_Expr (h s Z S _ _ fun v x s' Z' st' k S' V X=>by
  obtain ⟨k1,k2⟩:=k
  have:=hQ _ _ s' Z' st' k2 S' .next X
  cases V <;> first | exact this | exact k1.elim) hi (by rfl)
theorem XuL{x:Str}{k:Nat}{p pos:Pos}{st:St}{K:AFlow->St->Prop}(hi:interactive env=false)(h:K .next st) :
  T prog w A B env FVal (exec (.Expr (.Constant (.str x) k p) pos) env) st K:=XkN hi (XpJ ⟨trivial,h⟩)
theorem XgH{n:Int}{st:St}{R:AV->St->Prop}(h0:0<=n)(h1:n<10 ^ 10)(h:R (.str (Xwk (XyP n))) st):FC prog w A B env (.blt "str.format") [.str (Str.mk (Xxx [123,125])),.int n] [] st R :=
 Xhn (fun Z t x V=>by cases V;exact Xs3 h0 h1) h
theorem Xfm{n m:Int}{st:St}{R:AV->St->Prop}(h0:0<=n)(h1:n<10 ^ 10)(h2:0<=m)(h3:m<10 ^ 10)(h:R (.str ((Xwk (XyP n)++Xwk ",")++Xwk (XyP m))) st) :
  FC prog w A B env (.blt "str.format") [.str (Str.mk (Xxx [123,125,44,123,125])),.int n,.int m] [] st R :=
 XeA (fun Z t x y V V'=>by cases V;cases V';exact Xrx h0 h1 h2 h3) h
end
section
structure Room (A:Xww) (k:Nat):Prop where
 h:A.handled=none
 d:A.depth+k<=XxV
 u:A.units+k<=cLine
theorem Room.mono{A:Xww}{k j:Nat}(r:Room A k)(h:j<=k):Room A j:=⟨r.h,Xw4 (Nat.add_le_add_left h _) r.d,Xw4 (Nat.add_le_add_left h _) r.u⟩
theorem Room.in1{A:Xww}{k:Nat}(r:Room A (k+1)):Room A.in1 k:=⟨r.h,Xw4 (Nat.add_le_add_left (Nat.le_succ k) _) r.d,by have:=r.u;show A.units+1+k<=cLine;omega⟩
theorem Room.deeper{A:Xww}{env:Env}{k:Nat}(r:Room A (k+3)):Room (A.deeper env) k:=⟨r.h,by have:=r.d;show A.depth+1+k<=_;omega,by have:=r.u;show A.units+3+k<=cLine;omega⟩
theorem Room.lt{A:Xww}{k:Nat}(r:Room A (k+1)):A.depth<XxV:=by have:=r.d;omega
theorem Room.ult{A:Xww}{k:Nat}(r:Room A (k+1)):A.units<cLine:=by have:=r.u;omega
section
variable{M:Model}{A:Xww}{Φ:End->Xwl->Prop}{c:Code}{fs:List Frame}{s:Xwl}
def XX(M:Model)(A:Xww)(Φ:End->Xwl->Prop)(c:Code)(t:Sem Fin)(fs:List Frame)(s:Xwl):Prop :=
 ∀ Γ p,Γ.code=c->Γ.Woken A->∃ e s',Runs M Γ p t fs s e s'/\Φ e s'
theorem Xai{α:Type}{m:Sem α}{K:α->Sem Fin}{H:Value->Sem Fin}{gd lv}
  (h:XwG M (A.over c fs) m (fun a s'=>XX M A Φ c (K a) fs s') (fun x s'=>XX M A Φ c (H x) fs s') s):XX M A Φ c (m.wrap K H gd lv) fs s:=by
 rintro Γ p rfl hΓ
 exact runs_wrap_of_wp K H gd lv m (h (Γ.over fs) p (hΓ.over fs)) (fun a p' s' h'=>h' Γ p' rfl hΓ) (fun x p' s' h'=>h' Γ p' rfl hΓ)
theorem Xco{p':Pos}{k:Unit->Sem Fin}(h:XX M A Φ c (k ()) fs s):XX M A Φ c (.at p' k) fs s :=
 Xai (m:=standAt p') (K:=k) (H := .raise) (gd:=id) (lv:=id) (XwQ h)
theorem Xmz{l:List Value}{k:Unit->Sem Fin}(h:XX M A Φ c (k ()) fs s):XX M A Φ c (.point l k) fs s :=
 Xai (m:=point) (K:=k) (H := .raise) (gd:=id) (lv:=fun _=>l) (wpAny_point h)
theorem Xo5{c':Code}{h g l}{k:Result->Sem Fin}(hc:∀ p,XX M A Φ c' (M.den c') (.ret k h g l c p []::fs) s):XX M A Φ c (.call c' h g l k) fs s:=by
 rintro Γ p rfl hΓ
 obtain ⟨e,s',hr,he⟩:=hc p (Γ.goto c') p rfl (hΓ.goto c')
 exact ⟨e,s',runs_call_seg hr,he⟩
theorem Xo4{k h g l c₁ p₁ kp}(r:Result)(hk:XX M A Φ c₁ (k r) fs s):XX M A Φ c (leafOf r) (.ret k h g l c₁ p₁ kp::fs) s:=by
 rintro Γ p rfl hΓ
 obtain ⟨e,s',hr,he⟩:=hk (Γ.goto c₁) p₁ rfl (hΓ.goto c₁)
 exact ⟨e,s',Runs.pop r hr,he⟩
theorem Xb5{c':Code}(hq:c'.quiet=true)(hc:XX M A Φ c' (M.den c') fs s):XX M A Φ c (.pure (.again c')) fs s:=by
 rintro Γ p rfl hΓ
 obtain ⟨e,s',hr,he⟩:=hc (Γ.goto c') p rfl (hΓ.goto c')
 exact ⟨e,s',Runs.head (c₁:=c') (fun _ _ x => .again hq x) hr,he⟩
theorem Xjt(r:Result)(h:Φ (.ret r) s):XX M A Φ c (leafOf r) [] s:=by
 rintro Γ p rfl _
 exact ⟨.ret r,s,Runs.leaf r,h⟩
theorem XgT{v g l}{k:Resume->Sem Fin}(hfs:splitAtGen fs=none)(h:∀ p,Φ (.susp v g l k c p fs) s):XX M A Φ c (.yield v g l k) fs s:=by
 rintro Γ p rfl _
 exact ⟨_,s,Runs.yield' fs hfs,h p⟩
def Xhk(M:Model)(A:Xww)(Φ:End->Xwl->Prop)(gs:XyH)(s:Xwl):Prop :=
 match gs with
 | .fresh c=>XX M A Φ c (M.den c) [] s
 | .suspended k _ c _ fs _=>XX M A Φ c (k (.send .none)) fs s
 | _=>False
theorem XiQ{E:Value->Xwl->Prop}{g:Nat}{gs:XyH}{l:List Value}{α:Type}{k:GenResult->Sem α}{Q:α->Xwl->Prop}(hg:s.gens[g]? = some gs)
  (hgo:Xhk M A Φ gs (s.setGen g .running)) (hq:∀ e s₁,Φ e s₁->e.quiet=true)
  (hR:∀ e s₁,Φ e s₁->XwG M A (k e.result) Q E (s₁.setGen g e.genState)):XwG M A (.resume g (.send .none) l k) Q E s:=by
 intro Γ p hΓ
 rw [Sem.wp_resume]
 cases gs with
 | fresh c =>
  obtain ⟨e₁,s₁,hr,he⟩:=hgo (Γ.wake c p) p rfl (hΓ.wake c p)
  exact ⟨_,_,by unfold Wakes;rw [hg];exact ⟨e₁,s₁,hr,hq e₁ s₁ he,rfl,rfl⟩,hR e₁ s₁ he Γ p hΓ⟩
 | suspended k₀ l₀ c₀ p₀ fs₀ cl =>
  obtain ⟨e₁,s₁,hr,he⟩:=hgo (Γ.wake c₀ p) p₀ rfl (hΓ.wake c₀ p)
  exact ⟨_,_,by unfold Wakes;rw [hg];exact ⟨e₁,s₁,hr,hq e₁ s₁ he,rfl,rfl⟩,hR e₁ s₁ he Γ p hΓ⟩
 | running=>exact hgo.elim
 | finished=>exact hgo.elim
end
section
variable{prog:Xwx}{w:XwE}{A:Xww}{E:Value->Xwl->Prop}{s:Xwl}
def XkU(e:End):Prop:=e = .ret (.ok (.ret .none))∨e = .ret (.ok .next)
theorem XcZ{a:XwR}{g:Nat}{gs:XyH}{Φ:End->Xwl->Prop}{Q:Option Value->Xwl->Prop}(hh:A.handled=none)
  (hl:s.heap.NoLimit) (hroom:A.depth<XxV) (hg:s.heap.IsGen a g) (hgs:s.gens[g]? = some gs)
  (hgo:Xhk (XwD prog w) A.in1 Φ gs (s.setGen g .running)) (hq:∀ e s₁,Φ e s₁->e.quiet=true)
  (hY:∀ e s₁ v,Φ e s₁->e.result = .yielded v->Q (some v) (s₁.setGen g e.genState))
  (hP:∀ e s₁,Φ e s₁->(∃ v,e.result = .yielded v)∨(XkU e/\∀ h',(∀ b o,s₁.heap.get? b=some o->h'.get? b=some o)->Q none {s₁.setGen g .finished with heap:=h' })) :
  XwG (XwD prog w) A (Xyc (.ref a)) Q E s:=by
 unfold Xyc
 refine Xwe (Xyg (Xxb (name:=Xwk "__next__") hg.typeIs slot_gen_next
  (Xw3 slot_gen_next hg.typeIs entry_gen_next ?_ (args_gen_next _))))
 show XwG _ _ (Builtin.Generator.genWake (.ref a) (.send .none)) _ _ s
 unfold Builtin.Generator.genWake
 refine Xwe (Xwt (wpAny_genNumber hg (Xwe (wpAny_genState hgs ?_))))
 cases gs with
 | running=>exact hgo.elim
 | finished=>exact hgo.elim
 | _ =>
  refine Xwe (wpAny_roomToWake hl hroom ?_)
  show XwG _ _ (.resume g (.send .none) [] _) _ _ s
  refine XiQ hgs hgo hq fun e s₁ hx=>?_
  rcases hP e s₁ hx with ⟨v,hv⟩ | ⟨he,hp⟩
  ·rw [hv]
   exact Xwg ⟨v,rfl,Xwg (hY e s₁ v hx hv)⟩
  ·rcases he with rfl | rfl
   all_goals
    show XwG _ _ (newExc (.type "StopIteration") [] >>= _) _ _ _
    refine Xwe ?_
    simp only [newExc,newTuple]
    refine Xwe (Xxc ?_ (by size_fits))
    refine Xwe (m:=Xyh _ _) (Xxg (a:=Xxr) (by first | rfl | (simp only [Xyh];rfl)) ?_)
    refine Xxc ?_ (by size_fits)
    simp only [raiseNew]
    refine Xwe (Xwe (wpAny_handled ?_))
    rw [show A.in1.handled=none from hh]
    refine wpAny_throw ?_
    refine Xwe (XxL (T := "StopIteration") (b:=true) ⟨_,Xwp _ rfl,rfl⟩ isSubtype_stop ?_)
    exact Xwg (hp _ fun b o hb=>Xwq _ (Xwq _ hb))
end
section
variable{prog:Xwx}{w:XwE}{B:Frz}{env:Env}
theorem Xay(st:St):Xk env st=Xh ((env.locals,.ns st.loc)::st.led):=by
 unfold Xk Xh
 congr 1
 funext a
 simp only [keys,Xwr,Xwm]
theorem SimF.toL{s:Xwl}{Z:Frz}{st:St}(S:SimF B env s Z st):SimL B s Z ((env.locals,.ns st.loc)::st.led) where
 base:=S.base
 frozen:=S.frozen
 nodup:=Xwz.mpr ⟨S.locL,S.nodup⟩
 apart:=fun p hp=>by
  rcases Xwm.mp hp with rfl | hp
  ·exact S.locZ
  ·exact S.apart p hp
 own:=fun p hp=>by
  rcases Xwm.mp hp with rfl | hp
  ·exact S.loc
  ·exact S.own p hp
 gnodup:=S.gnodup
 bare:=S.bare
theorem SimL.drop1{s:Xwl}{Z:Frz}{p:XwR × AObj}{led:Led}(S:SimL B s Z (p::led)):SimL B s Z led where
 base:=S.base
 frozen:=S.frozen
 nodup:=(Xwz.mp S.nodup).2
 apart:=fun q hq=>S.apart q (Xwh _ hq)
 own:=fun q hq=>S.own q (Xwh _ hq)
 gnodup:=by
  have:=S.gnodup
  unfold gkeys at this ⊢
  rw [XxA] at this
  split at this
  ·exact this
  ·exact (Xwz.mp this).2
 bare:=S.bare
theorem SimL.toF{s:Xwl}{Z:Frz}{st:St}(S:SimL B s Z ((env.locals,.ns st.loc)::st.led))(hk:∀ x v,st.loc.lookup x=some v->env.kindOf x=some .local)(hf:env.scope.kind = .function):SimF B env s Z st where
 toSimL:=S.drop1
 locZ:=S.apart _ (Xwf ..)
 locL:=(Xwz.mp S.nodup).1
 loc:=S.own _ (Xwf ..)
 kinds:=hk
 fn:=hf
def NIn(N led:Led):Prop:=∀ p∈N,p∈led
theorem NIn.app{N led:Led}(h:NIn N led)(l:Led):NIn N (l++led):=fun p hp=>XwM _ (h p hp)
theorem NIn.cons{N led:Led}(h:NIn N led)(q:XwR × AObj):NIn N (q::led):=fun p hp=>Xwh _ (h p hp)
theorem NIn.nil{led:Led}:NIn [] led:=fun p hp=>by cases hp
variable{N:Led}
def Susp(prog:Xwx)(w:XwE)(B:Frz)(N:Led)(n:Nat):List AV->Led->XyH->Prop
 | [],gled,gs=>∀ A,Room A n->∀ led,NIn N led->∀ s Z,SimL B s Z (gled++led) ->
   Xhk (XwD prog w) A (fun e s'=>XkU e/\∃ Z',SimL B s' Z' led/\Ext (Xh (gled++led)) s Z s' Z' (Xh led)) gs s
 | row::rest,gled,gs=>∀ A,Room A n->∀ led,NIn N led->∀ s Z,SimL B s Z (gled++led) ->
   Xhk (XwD prog w) A (fun e s'=>e.quiet=true/\∃ v Z' gled',e.result = .yielded v/\SimL B s' Z' (gled'++led)/\Val Z' row v/\Ext (Xh (gled++led)) s Z s' Z' (Xh (gled'++led))/\Susp prog w B N n rest gled' e.genState) gs s
def Xhv(prog:Xwx)(w:XwE)(B:Frz)(N:Led)(n:Nat)(rows:List AV)(led:Led)(own₀:Own)(s₀:Xwl)(Z₀:Frz)(e:End)(s':Xwl):Prop :=
 match rows with
 | []=>XkU e/\∃ Z',SimL B s' Z' led/\Ext own₀ s₀ Z₀ s' Z' (Xh led)
 | row::rest=>e.quiet=true/\∃ v Z' gled',e.result = .yielded v/\SimL B s' Z' (gled'++led)/\Val Z' row v/\Ext own₀ s₀ Z₀ s' Z' (Xh (gled'++led))/\Susp prog w B N n rest gled' e.genState
theorem Susp.iff{n:Nat}{rows:List AV}{gled:Led}{gs:XyH}:Susp prog w B N n rows gled gs↔∀ A,Room A n->∀ led,NIn N led->∀ s Z,SimL B s Z (gled++led)->Xhk (XwD prog w) A (Xhv prog w B N n rows led (Xh (gled++led)) s Z) gs s:=by
 cases rows <;> rfl
def XgE(prog:Xwx)(w:XwE)(B:Frz)(N:Led)(n:Nat)(env:Env)(c:Code)(t:Sem Fin)(fs:List Frame)(rows:List AV)(st:St):Prop :=
 ∀ A,Room A n->∀ led,NIn N led->∀ own₀ s₀ Z₀ s Z,SimF B env s Z ⟨st.loc,st.led++led⟩->Ext own₀ s₀ Z₀ s Z (Xk env ⟨st.loc,st.led++led⟩)->XX (XwD prog w) A (Xhv prog w B N n rows led own₀ s₀ Z₀) c t fs s
structure Sk (n m:Nat) (c:Code) (fs:List Frame):Prop where
 room:∀ A,Room A n->Room (A.over c fs) m
 split:splitAtGen fs=none
 quiet:fs.any Frame.guarded=false
def XoA:AFlow->Flow->Prop
 | .next,.next=>True
 | .brk,.brk=>True
 | .cont,.cont=>True
 | .ret .none,.ret .none=>True
 | _,_=>False
def TG(prog:Xwx)(w:XwE)(B:Frz)(N:Led)(n m:Nat)(env:Env)(t:Sem Flow)(st:St)(rows:List AV)(K:AFlow->St->List AV->Prop):Prop :=
 ∀ c fs (Kc:Flow->Sem Fin) H gd lv,Sk n m c fs->gd false=false->(∀ f x st' rows',K f st' rows'->XoA f x->XgE prog w B N n env c (Kc x) fs rows' st')->XgE prog w B N n env c (t.wrap Kc H gd lv) fs rows st
variable{n m:Nat}{st:St}{rows:List AV}{K:AFlow->St->List AV->Prop}
theorem Xme{t:Sem Flow}(h:∀ A,Room A m->∀ led,NIn N led->T prog w A B env FVal t ⟨st.loc,st.led++led⟩ fun f st'=>∃ l,st'.led=l++led/\(match f with | .ret v=>v = .none | _=>True)/\K f ⟨st'.loc,l⟩ rows):TG prog w B N n m env t st rows K :=
 fun c fs Kc H gd lv hs hg hK A hA led hN own₀ s₀ Z₀ s Z S X=>Xai (h _ (hs.room A hA) led hN s Z S _ _ fun f x s' Z' st' k S' V X'=>by
  obtain ⟨loc',led'⟩:=st'
  obtain ⟨l,e,p,k⟩:=k
  dsimp only at e k
  subst e
  refine hK f x ⟨loc',l⟩ rows k ?_ A hA led hN own₀ s₀ Z₀ s' Z' S' (X.trans X')
  cases V with
  | next=>trivial
  | brk=>trivial
  | cont=>trivial
  | ret hv=>dsimp only at p;subst p;cases hv;trivial)
theorem TG.spare{t:Sem Flow}{loc:List (Str × AV)}{led:Led}(x:Str)(hk:env.kindOf x=some .local)(h:TG prog w B N n m env t ⟨loc++[(x,.any)],led⟩ rows K):TG prog w B N n m env t ⟨loc,led⟩ rows K :=
 fun c fs Kc H gd lv hs hg hK A hA led' hN own₀ s₀ Z₀ s Z S X=>h c fs Kc H gd lv hs hg hK A hA led' hN own₀ s₀ Z₀ s Z (S.spare x hk) X
theorem Xv(h:K .next st rows):TG prog w B N n m env (execs [] env) st rows K:=fun c fs Kc H gd lv hs hg hK=>hK .next .next st rows h trivial
theorem Xd{x:Stmt}{rest:List Stmt}(h:TG prog w B N n m env (exec x env) st rows fun f st' rows'=>match f with | .next=>TG prog w B N n m env (execs rest env) st' rows' K | f=>K f st' rows') :
  TG prog w B N n m env (execs (x::rest) env) st rows K:=fun c fs Kc H gd lv hs hg hK=>by
 rw [execs_cons_wrap]
 refine h c fs _ H gd lv hs hg fun f y st' rows' k p=>?_
 cases f with
 | next=>cases y <;> first | exact p.elim | exact k c fs Kc H gd lv hs hg hK
 | brk=>cases y <;> first | exact p.elim | exact hK _ _ st' rows' k p
 | cont=>cases y <;> first | exact p.elim | exact hK _ _ st' rows' k p
 | ret v=>cases y <;> first | (cases v <;> exact p.elim) | exact hK _ _ st' rows' k p
theorem XbL{test:Expr}{body orelse:List Stmt}{pos:Pos}
  (h:∀ A,Room A m->∀ led,NIn N led->T prog w A B env XQ (isTrue test env (Xxy test env)) ⟨st.loc,st.led++led⟩ fun b st'=>∃ l,st'.led=l++led /\
   if b then TG prog w B N n m env (execs body env) ⟨st'.loc,l⟩ rows K else TG prog w B N n m env (execs orelse env) ⟨st'.loc,l⟩ rows K) :
  TG prog w B N n m env (exec (.If test body orelse pos) env) st rows K:=fun c fs Kc H gd lv hs hg hK A hA led hN own₀ s₀ Z₀ s Z S X=>by
 rw [show exec (.If test body orelse pos) env=(standAt pos >>= fun _=>isTrue test env (Xxy test env) >>= fun b=>if b=true then execs body env else execs orelse env) from rfl]
 refine Xco ?_
 show XX _ A _ c ((isTrue test env (Xxy test env) >>= fun b=>if b=true then execs body env else execs orelse env).wrap Kc H gd lv) fs s
 rw [Xxo,XxM]
 refine Xai (h _ (hs.room A hA) led hN s Z S _ _ fun b x s' Z' st' k S' V X'=>?_)
 obtain ⟨loc',led'⟩:=st'
 obtain ⟨l,e,k⟩:=k
 dsimp only at e k
 subst e
 unfold XQ at V
 subst V
 cases x with
 | true=>exact k c fs Kc H gd lv hs hg hK A hA led hN own₀ s₀ Z₀ s' Z' S' (X.trans X')
 | false=>exact k c fs Kc H gd lv hs hg hK A hA led hN own₀ s₀ Z₀ s' Z' S' (X.trans X')
theorem XaC{e:Expr}{ypos pos:Pos}
  (h:∀ A,Room A m->∀ led,NIn N led->T prog w A B env Val (Xxy e env) ⟨st.loc,st.led++led⟩ fun v st'=>∃ l rest,rows=v::rest/\st'.led=l++led/\K .next ⟨st'.loc,l⟩ rest)
  (hco:env.scope.isCoroutine=false) (hi:interactive env=false):TG prog w B N n m env (exec (.Expr (.Yield (some e) ypos) pos) env) st rows K:=fun c fs Kc H gd lv hs hg hK A hA led hN own₀ s₀ Z₀ s Z S X=>by
 rw [exec_Expr env _ pos hi rfl]
 have hy:∀ v,yieldOut env v=yieldValue v:=fun v=>by simp only [yieldOut,hco,XwX,if_false]
 show XX _ A _ c (.at pos fun _=>((Xxy e env >>= fun v=>(standAt ypos >>= fun _=>yieldOut env v)) >>= fun x=>dropValue (.Yield (some e) ypos) pos x).wrap Kc H gd lv) fs s
 simp only [hy]
 refine Xco ?_
 rw [Xxo,Xxo,XxM,XxM]
 refine Xai (h _ (hs.room A hA) led hN s Z S _ _ fun v x s' Z' st' k S' V X'=>?_)
 obtain ⟨loc',led'⟩:=st'
 obtain ⟨l,rest,e₁,e₂,k⟩:=k
 dsimp only at e₂ k
 subst e₁
 subst e₂
 refine Xco (XgT hs.split fun p=>?_)
 refine ⟨by simp [End.quiet,hg,hs.quiet],x,Z',(env.locals,.ns loc')::l,rfl,S'.toL,V,?_,?_⟩
 ·have:=X.trans X'
  rw [Xay] at this
  exact this
 ·rw [Susp.iff]
  intro A' hA' led' hN' s' Z' S''
  have SF:SimF B env s' Z' ⟨loc',l++led'⟩:=SimL.toF (st:=⟨loc',l++led'⟩) S'' S'.kinds S'.fn
  refine hK .next .next ⟨loc',l⟩ rest k trivial A' hA' led' hN' _ s' Z' s' Z' SF ?_
  rw [Xay]
  exact .refl
def IterOk(prog:Xwx)(w:XwE)(B:Frz)(N:Led)(n:Nat)(target:Expr)(it:XwR):List AV->Led->Prop
 | [],gl=>∀ A,Room A n->∀ led,NIn N led->∀ s Z,SimL B s Z (gl++led)->∀ (Q:Option Value->Xwl->Prop) (E:Value->Xwl->Prop),(∀ s' Z',SimL B s' Z' led->Ext (Xh (gl++led)) s Z s' Z' (Xh led)->Q none s') ->
   XwG (XwD prog w) A (Xyc (.ref it)) Q E s
 | x::xs,gl=>∀ A,Room A n->∀ led,NIn N led->∀ s Z,SimL B s Z (gl++led)->∀ (Q:Option Value->Xwl->Prop) (E:Value->Xwl->Prop),
   (∀ s' Z' v gl',SimL B s' Z' (gl'++led)->Val Z' x v->Ext (Xh (gl++led)) s Z s' Z' (Xh (gl'++led))->IterOk prog w B N n target it xs gl'->Q (some v) s') ->
   XwG (XwD prog w) A (Xyc (.ref it)) (fun r s₁=>match r with | none=>False | some v=>XwG (XwD prog w) A (Xxi target (.ref it) v) (fun _ s₂=>Q (some v) s₂) E s₁) E s
end
end
section
variable{prog:Xwx}{w:XwE}{B:Frz}{N:Led}{env:Env}
theorem SimL.perm{s:Xwl}{Z:Frz}{l l':Led}(S:SimL B s Z l)(p:l.Perm l'):SimL B s Z l' where
 base:=S.base
 frozen:=S.frozen
 nodup:=(p.map _).nodup_iff.mp S.nodup
 apart:=fun q hq=>S.apart q (p.mem_iff.mpr hq)
 own:=fun q hq=>S.own q (p.mem_iff.mpr hq)
 gnodup:=(p.filterMap _).nodup_iff.mp S.gnodup
 bare:=S.bare
theorem Xaj{l l':Led}(p:l.Perm l'):Xh l=Xh l':=by
 unfold Xh
 congr 1
 ·funext a;exact propext (p.map _).mem_iff
 ·funext a;exact propext (p.filterMap _).mem_iff
theorem SimL.drop{s:Xwl}{Z:Frz}:∀ {l l':Led},SimL B s Z (l++l')->SimL B s Z l'
 | [],_,S=>S
 | _::l,_,S=>SimL.drop (l:=l) S.drop1
theorem Ext.less{o o' o'':Own}{s s':Xwl}{Z Z':Frz}(X:Ext o s Z s' Z' o')(h1:∀ a,o''.at_ a->o'.at_ a)(h2:∀ a,o''.gn a->o'.gn a):Ext o s Z s' Z' o'' :=
 ⟨X.le,X.kept,fun a h=>X.grow a (h1 a h),X.zgrow,X.os,X.gkept,fun g h=>X.ggrow g (h2 g h)⟩
theorem Xc1{s:Xwl}{g:Nat}{gs x:XyH}(h:s.gens[g]? = some gs):(s.setGen g x).gens[g]? = some x:=setGen_self h
theorem XaF{s:Xwl}{g k:Nat}{x:XyH}(h:k≠g):(s.setGen g x).gens[k]? = s.gens[k]? := by
 show (s.gens.setIfInBounds g x)[k]? = _
 rw [Array.getElem?_setIfInBounds]
 simp [Ne.symm h]
theorem Xn7{s:Xwl}{g:Nat}{x y:XyH}(h:y∈(s.setGen g x).gens):y=x∨y∈s.gens:=by
 obtain ⟨i,hi⟩:=Array.mem_iff_getElem?.mp h
 by_cases e:i=g
 ·subst e
  by_cases hb:i<s.gens.size
  ·have:=Xc1 (x:=x) (XxK hb)
   rw [this] at hi
   exact .inl (Xx9 hi).symm
  ·rw [show (s.setGen i x).gens[i]? = none from by
    show (s.gens.setIfInBounds i x)[i]? = none
    rw [Array.getElem?_eq_none_iff,Array.size_setIfInBounds];omega] at hi
   cases hi
 ·rw [XaF e] at hi
  exact .inr (Array.mem_iff_getElem?.mpr ⟨i,hi⟩)
theorem SimL.setGen{s:Xwl}{Z:Frz}{l:Led}{g:Nat}{x:XyH}(S:SimL B s Z l)(hg:g∉gkeys l)(hx:x.bare=true):SimL B (s.setGen g x) Z l where
 base:=S.base
 frozen:=S.frozen
 nodup:=S.nodup
 apart:=S.apart
 own:=fun p hp=>Holds.mono (s:=s) (s':=s.setGen g x) (.refl _) (fun _ e=>e) (x:=S.own p hp) fun k gs e h=>by
  rw [XaF]
  ·exact h
  ·intro q;subst q;exact hg (Xpi hp e)
 gnodup:=S.gnodup
 bare:=fun y hy=>by
  rcases Xn7 hy with rfl | h
  ·exact hx
  ·exact S.bare y h
theorem IterOk.gen{n:Nat}{target:Expr}{a:XwR}(hG:Ground0 B)(ht:∀ led s Z v g gs gl,SimL B s Z ((a,.gen g gs)::gl++led)->∀ A (Q:Unit->Xwl->Prop) E,Q () s->XwG (XwD prog w) A (Xxi target (.ref a) v) Q E s) :
  ∀ {rows:List AV} {g:Nat} {gs:XyH} {gl:Led},Susp prog w B N n rows gl gs->IterOk prog w B N (n+1) target a rows ((a,.gen g gs)::gl)
 | [],g,gs,gl,h=>fun A hA led hN s Z S Q E hQ=>by
  have hgn:g∉gkeys (gl++led):=(Xwz.mp S.gnodup).1
  obtain ⟨hig,hgs⟩:=S.own _ (Xwf ..)
  have hnl:=hG.lim s fun a o e=>S.frozen a o (S.base a o e)
  have S₁:SimL B (s.setGen g .running) Z (gl++led):=S.drop1.setGen hgn rfl
  refine XcZ hA.h hnl hA.lt hig hgs (h A.in1 hA.in1 led hN _ Z S₁) (fun e s₁ he=>by obtain ⟨rfl | rfl,_⟩:=he <;> rfl) (fun e s₁ v he hv=>by obtain ⟨rfl | rfl,_⟩:=he <;> cases hv) fun e s₁ he => .inr ?_
  obtain ⟨he,Z',S',X⟩:=he
  refine ⟨he,fun h' hk=>?_⟩
  have hgl:g∉gkeys led:=fun q=>hgn (by unfold gkeys;rw [Xyt];exact XwM _ q)
  have S'':SimL B (s₁.setGen g .finished) Z' led:=S'.setGen hgl rfl
  refine hQ _ Z' ⟨S''.base,fun b o e=>hk b o (S''.frozen b o e),S''.nodup,S''.apart,fun p hp=>Holds.mono (s:=s₁.setGen g .finished) (.refl _) (fun o e=>hk _ o e) (fun _ _ _ e=>e) (S''.own p hp),S''.gnodup,S''.bare⟩ ?_
  refine ⟨X.le,fun b o e hb=>hk b o (X.kept b o e fun q=>hb (Xwh _ q)),fun b hb=>(X.grow b hb).imp (Xwh _) id,fun b o e=>(X.zgrow b o e).imp id (Or.imp (Xwh _) id),X.os,fun k gs' e hk'=>?_,fun k hk'=>?_⟩
  ·have hkg:k≠g:=fun q=>hk' (q ▸ Xwf ..)
   show (s₁.setGen g .finished).gens[k]? = some gs'
   rw [XaF hkg]
   exact X.gkept k gs' (by rw [XaF hkg];exact e) fun q=>hk' (Xwh _ q)
  ·rcases X.ggrow k hk' with q | q
   ·exact .inl (Xwh _ q)
   ·by_cases hkg:k=g
    ·exact .inl (hkg ▸ Xwf ..)
    ·rw [XaF hkg] at q;exact .inr q
 | row::rest,g,gs,gl,h=>fun A hA led hN s Z S Q E hQ=>by
  have hgn:g∉gkeys (gl++led):=(Xwz.mp S.gnodup).1
  obtain ⟨hig,hgs⟩:=S.own _ (Xwf ..)
  have hnl:=hG.lim s fun a o e=>S.frozen a o (S.base a o e)
  have S₁:SimL B (s.setGen g .running) Z (gl++led):=S.drop1.setGen hgn rfl
  have hal:a∉keys (gl++led):=(Xwz.mp S.nodup).1
  refine XcZ hA.h hnl hA.lt hig hgs (h A.in1 hA.in1 led hN _ Z S₁) (fun e s₁ he=>he.1) (fun e s₁ v he hv=>?_) fun e s₁ he => .inl (by obtain ⟨_,v,_,_,e,_⟩:=he;exact ⟨v,e⟩)
  obtain ⟨hq,v',Z',gl',hv',S',V,X,hs⟩:=he
  have:v'=v:=by rw [hv'] at hv;injection hv
  subst this
  have hgn':g∉gkeys (gl'++led):=fun q=>by
   rcases X.ggrow g q with q | q
   ·exact hgn q
   ·rw [Xc1 hgs] at q;cases q
  have hrun:s₁.gens[g]? = some .running:=X.gkept g _ (Xc1 hgs) hgn
  have hal':a∉keys (gl'++led):=fun q=>by
   rcases X.grow a q with q | q
   ·exact hal q
   ·obtain ⟨o,_,_,ho,_⟩:=hig
    rw [show (s.setGen g .running).heap.get? a=some o from ho] at q;cases q
  have hig':(s₁.setGen g e.genState).heap.IsGen a g:=by
   obtain ⟨o,nm,qn,ho,r⟩:=hig
   exact ⟨o,nm,qn,X.kept a o ho hal,r⟩
  have hZa:Z' a=none:=by
   cases e:Z' a with
   | none=>rfl
   | some o =>
    obtain ⟨ob,_,_,ho,_⟩:=id hig
    rcases X.zgrow a o e with q | q | q
    ·have:=S.apart _ (Xwf ..)
     rw [this] at q;cases q
    ·exact absurd q hal
    ·rw [show (s.setGen g .running).heap.get? a=some ob from ho] at q;cases q
  have S₂:SimL B (s₁.setGen g e.genState) Z' ((a,.gen g e.genState)::gl'++led):=by
   have S₃:=S'.setGen hgn' (End.bare_of_quiet hq)
   refine ⟨S₃.base,S₃.frozen,Xwz.mpr ⟨hal',S₃.nodup⟩,fun p hp=>?_,fun p hp=>?_,Xwz.mpr ⟨hgn',S₃.gnodup⟩,S₃.bare⟩
   ·rcases Xwm.mp hp with rfl | hp
    ·exact hZa
    ·exact S₃.apart p hp
   ·rcases Xwm.mp hp with rfl | hp
    ·exact ⟨hig',Xc1 hrun⟩
    ·exact S₃.own p hp
  refine ht led _ Z' v' g e.genState gl' S₂ A _ _ ?_
  refine hQ _ Z' v' ((a,.gen g e.genState)::gl') S₂ V ?_ (IterOk.gen hG ht hs)
  refine ⟨X.le,fun b o e hb=>X.kept b o e fun q=>hb (Xwh _ q),fun b hb=>?_,fun b o e=>(X.zgrow b o e).imp id (Or.imp (Xwh _) id),X.os,fun k gs' e hk'=>?_,fun k hk'=>?_⟩
  ·rcases Xwm.mp hb with rfl | hb
   ·exact .inl (Xwf ..)
   ·exact (X.grow b hb).imp (Xwh _) id
  ·have hkg:k≠g:=fun q=>hk' (q ▸ Xwf ..)
   rw [XaF hkg]
   exact X.gkept k gs' (by rw [XaF hkg];exact e) fun q=>hk' (Xwh _ q)
  ·by_cases hkg:k=g
   ·exact .inl (hkg ▸ Xwf ..)
   ·rcases Xwm.mp (show k∈g::gkeys (gl'++led) from hk') with q | q
    ·exact absurd q hkg
    ·rcases X.ggrow k q with q | q
     ·exact .inl (Xwh _ q)
     ·rw [XaF hkg] at q;exact .inr q
end
section
variable{prog:Xwx}{w:XwE}{A:Xww}{B:Frz}{env:Env}{N:Led}
def itP(I:XwR)(fp:List XwR)(Pv:Nat->Value->Prop)(xs:List AV)(St:Nat->Heap->Prop)(i:Nat)(Z:Frz)(o:Obj):Prop :=
 (∀ b∈fp,b=I∨∃ o,Z b=some o)/\(∀ i x v,xs[i]? = some x->Pv i v->Val Z x v)/\(∀ h:Heap,h.get? I=some o->(∀ a o,Z a=some o->h.get? a=some o)->St i h)
theorem XrK{I:XwR}{fp:List XwR}{Pv:Nat->Value->Prop}{xs:List AV}{St:Nat->Heap->Prop}{i:Nat}(Z Z':Frz)(o:Obj)(k:Frz.le Z Z')(x:itP I fp Pv xs St i Z o):itP I fp Pv xs St i Z' o :=
 ⟨fun b hb=>(x.1 b hb).imp id fun ⟨o,h⟩=>⟨o,k _ _ h⟩,fun i y v h1 h2=>(x.2.1 i y v h1 h2).mono k,fun h h1 h2=>x.2.2 h h1 fun a o e=>h2 a o (k a o e)⟩
abbrev itE(I:XwR)(fp:List XwR)(Pv:Nat->Value->Prop)(xs:List AV)(St:Nat->Heap->Prop)(i:Nat):AObj := .obj (itP I fp Pv xs St i) XrK
theorem IterOk.walks{target:Expr}{I:XwR}{fp:List XwR}{Pv:Nat->Value->Prop}{St:Nat->Heap->Prop}{xs:List AV}
  (hW:∀ A:Xww,A.handled=none->Walks prog w A I fp [I] xs.length Pv St)
  (hlet:∀ (A:Xww) i (s:Xwl) v Q E,St i s.heap->Q () s->XwG (XwD prog w) A (Xxi target (.ref I) v) Q E s) (hlive:∀ i h,St i h->∃ o,h.get? I=some o) (k:Nat) :
  ∀ (d i:Nat),i+d=xs.length->IterOk prog w B N k target I (xs.drop i) [(I,itE I fp Pv xs St i)]
 | 0,i,hi=>by
  rw [XxI nofun]
  intro A hA led hN s Z S Q E hQ
  obtain ⟨o,ho,h1,h2,h3⟩:=S.own _ (Xwf ..)
  have hst:St i s.heap:=h3 _ ho S.frozen
  have W:=(hW A hA.h).toS
  have:i=xs.length:=by omega
  subst this
  refine W.done s _ _ hst fun s' mv=>?_
  have keep:∀ b o,b≠I->s.heap.get? b=some o->s'.heap.get? b=some o:=fun b o hb e=>mv.heap b o (by simpa using hb) e
  have hIl:I∉keys led:=(Xwz.mp S.nodup).1
  have hIZ:Z I=none:=S.apart _ (Xwf ..)
  have hg:s'.gens=s.gens:=mv.gens
  refine hQ s' Z ⟨S.base,fun a o e=>keep a o (fun q=>?_) (S.frozen a o e),S.drop1.nodup,S.drop1.apart,fun p hp=>(S.drop1.own p hp).mono (.refl _) (fun o e=>keep _ o (fun q=>?_) e) (fun _ _ _ e=>by rw [hg];exact e),S.drop1.gnodup,by rw [hg];exact S.bare⟩
   ⟨.refl _,fun a o e ha=>keep a o (fun q=>ha (q ▸ Xwf ..)) e,fun a ha => .inl (Xwh _ ha),fun _ _ e => .inl e,mv.os,fun _ _ e _=>by rw [hg];exact e,fun _ h => .inl h⟩
  ·rw [q,hIZ] at e;cases e
  ·exact hIl (q ▸ XwC hp)
 | d+1,i,hi=>by
  have hlt:i<xs.length:=by omega
  rw [XxJ hlt]
  intro A hA led hN s Z S Q E hQ
  obtain ⟨o,ho,h1,h2,h3⟩:=S.own _ (Xwf ..)
  have hst:St i s.heap:=h3 _ ho S.frozen
  have W:=(hW A hA.h).toS
  refine W.item i s _ _ hlt hst fun v s' hP st' mv=>?_
  refine hlet A (i+1) s' v _ _ st' ?_
  have keep:∀ b o,b≠I->s.heap.get? b=some o->s'.heap.get? b=some o:=fun b o hb e=>mv.heap b o (by simpa using hb) e
  have hIl:I∉keys led:=(Xwz.mp S.nodup).1
  have hIZ:Z I=none:=S.apart _ (Xwf ..)
  have hg:s'.gens=s.gens:=mv.gens
  have fro:∀ a o,Z a=some o->s'.heap.get? a=some o:=fun a o e=>keep a o (fun q=>by rw [q,hIZ] at e;cases e) (S.frozen a o e)
  obtain ⟨o',ho'⟩:=hlive _ _ st'
  have hst':∀ h:Heap,h.get? I=some o'->(∀ a o,Z a=some o->h.get? a=some o)->St (i+1) h:=fun h e1 e2=>W.frame (i+1) s' h s'.toks st' (XwN _) fun b hb ob e=>by
   rcases h1 b hb with q | ⟨oz,q⟩
   ·subst q;rw [ho'] at e;rw [e1,← e]
   ·rw [fro _ _ q] at e;rw [e2 _ _ q,← e]
  refine hQ s' Z v [(I,itE I fp Pv xs St (i+1))] ⟨S.base,fro,S.nodup,fun p hp=>?_,fun p hp=>?_,S.gnodup,by rw [hg];exact S.bare⟩ (h2 i _ v (XwI hlt) hP)
   ⟨.refl _,fun a o e ha=>keep a o (fun q=>ha (q ▸ Xwf ..)) e,fun a ha => .inl ha,fun _ _ e => .inl e,mv.os,fun _ _ e _=>by rw [hg];exact e,fun _ h => .inl h⟩
   (IterOk.walks hW hlet hlive k d (i+1) nofun)
  ·rcases Xwm.mp hp with rfl | hp
   ·exact hIZ
   ·exact S.drop1.apart p hp
  ·rcases Xwm.mp hp with rfl | hp
   ·exact ⟨o',ho',h1,h2,hst'⟩
   ·exact (S.drop1.own p hp).mono (.refl _) (fun o e=>keep _ o (fun q=>hIl (q ▸ XwC hp)) e) (fun _ _ _ e=>by rw [hg];exact e)
theorem SimL.push{s:Xwl}{Z:Frz}{led:Led}(S:SimL B s Z led){o:Obj}{ao:AObj}(hgn:ao.gnum=none)(tk:Nat)(hh:Holds Z {s with heap:=s.heap.push o,toks:=tk} s.heap.objs.size ao) :
  SimL B {s with heap:=s.heap.push o,toks:=tk} Z ((s.heap.objs.size,ao)::led)/\Ext (Xh led) s Z {s with heap:=s.heap.push o,toks:=tk} Z (Xh ((s.heap.objs.size,ao)::led)):=by
 have hfresh:s.heap.get? s.heap.objs.size=none:=by
  cases e:s.heap.get? s.heap.objs.size with
  | none=>rfl
  | some o=>exact absurd (Xw7 e) (Xx8 _)
 have keep:∀ b ob,s.heap.get? b=some ob->(s.heap.push o).get? b=some ob:=fun b ob e=>Xwq o e
 refine ⟨⟨S.base,fun a ob e=>keep a ob (S.frozen a ob e),Xwz.mpr ⟨fun q=>?_,S.nodup⟩,fun p hp=>?_,fun p hp=>?_,?_,S.bare⟩,
  ⟨.refl _,fun a ob e _=>keep a ob e,fun a ha=>?_,fun _ _ e => .inl e,rfl,fun _ _ e _=>e,fun g hg=>?_⟩⟩
 ·obtain ⟨p,hp,e⟩:=XwJ.mp q
  obtain ⟨ob,g⟩:=(S.own p hp).live
  rw [e,hfresh] at g;cases g
 ·rcases Xwm.mp hp with rfl | hp
  ·cases e:Z s.heap.objs.size with
   | none=>rfl
   | some o=>rw [S.frozen _ _ e] at hfresh;cases hfresh
  ·exact S.apart p hp
 ·rcases Xwm.mp hp with rfl | hp
  ·exact hh
  ·exact (S.own p hp).mono (.refl _) (fun ob e=>keep _ ob e) fun _ _ _ e=>e
 ·show (gkeys _).Nodup
  unfold gkeys
  rw [XxA,hgn]
  exact S.gnodup
 ·rcases Xwm.mp ha with q | q
  ·exact .inr (q ▸ hfresh)
  ·exact .inl q
 ·left
  show g∈gkeys led
  have hg':g∈gkeys ((s.heap.objs.size,ao)::led):=hg
  unfold gkeys at hg'
  rw [XxA,hgn] at hg'
  exact hg'
theorem XeY{target:Expr}{I ax:XwR}{i:Nat}{A:Xww}{s:Xwl}{v:Value}{Q:Unit->Xwl->Prop}{E:Value->Xwl->Prop}(h:s.heap.IsListIter I ax i)(hQ:Q () s) :
  XwG (XwD prog w) A (Xxi target (.ref I) v) Q E s:=by
 obtain ⟨o,ho,hc,hd⟩:=h
 unfold Xxi
 split
 all_goals first
  | exact Xwg hQ
  | (cases v <;> first
    | exact Xwg hQ
    | (refine Xwe (wpAny_load ho ?_);rw [hc,hd];dsimp only;rw [if_neg (by simp)];exact Xwg hQ))
theorem XfI{s:Xwl}{Z:Frz}{a:XwR}{items:List Value}{n:Nat}(fr:∀ a o,Z a=some o->s.heap.get? a=some o)(e:Z a=some {cls := .type "list",data := .seq items.toArray n}):s.heap.IsList a items.toArray :=
 ⟨_,fr _ _ e,rfl,n,rfl⟩
theorem XaE{xs:List AV}{target:Expr}{st:St}{k:Nat}{K:AV->St->Prop}(h:∀ it gl,IterOk prog w B N k target it xs gl->K (.ref it) ⟨st.loc,gl++st.led⟩):F1 prog w A B env Val pyIter (.lst xs) st K:=fun s Z x V S Q E hQ=>by
 cases V with
 | @lst a _ items n e hv =>
  have hl:=XfI S.frozen e
  refine wpAny_pyIter_list hl ?_
  have hne:a≠s.heap.objs.size:=Xxu (Xw7 (S.frozen _ _ e))
  have hlen:items.toArray.size=xs.length:=by simp [hv.length]
  have hI:Heap.IsListIter (s.heap.push {cls := .type "list_iterator",data := .fields #[.ref a,.int 0 0]}) s.heap.objs.size a 0:=⟨_,Xwp _ rfl,rfl,rfl⟩
  have P:=S.toSimL.push (o:={ cls := .type "list_iterator",data := .fields #[.ref a,.int 0 0]}) (ao:=itE s.heap.objs.size [s.heap.objs.size,a] (fun i v=>items.toArray[i]? = some v) xs (fun i h=>h.IsListIter s.heap.objs.size a i/\h.IsList a items.toArray) 0) rfl s.toks
   ⟨_,Xwp _ rfl,fun b hb=>by
    simp only [Xwm,XxO,or_false] at hb
    rcases hb with rfl | rfl
    ·exact .inl rfl
    ·exact .inr ⟨_,e⟩,fun i y v h1 h2=>by
    obtain ⟨u,e1,e2⟩:=hv.get h1
    simp only [List.getElem?_toArray] at h2
    rw [e1] at h2
    cases h2
    exact e2,fun h e1 e2=>⟨⟨_,e1,rfl,rfl⟩,_,e2 _ _ e,rfl,n,rfl⟩⟩
  refine hQ _ _ _ Z _ (h s.heap.objs.size _ (IterOk.walks (prog:=prog) (w:=w) (B:=B) (target:=target) (xs:=xs) (fun A hA=>by rw [← hlen];exact Walks.list hA s.heap.objs.size a hne items.toArray) (fun A i s v Q E hst hq=>XeY hst.1 hq) (fun i h hst=>by obtain ⟨o,ho,_⟩:=hst.1;exact ⟨o,ho⟩) k xs.length 0 nofun)) (S.after P.1 P.2) (.ref _) P.2.toF
end
section
variable{prog:Xwx}{w:XwE}{A:Xww}{B:Frz}{env:Env}{N:Led}
theorem SimF.perm{s:Xwl}{Z:Frz}{loc:List (Str × AV)}{l l':Led}(S:SimF B env s Z ⟨loc,l⟩)(p:l.Perm l'):SimF B env s Z ⟨loc,l'⟩ :=
 ⟨S.toSimL.perm p,S.locZ,fun h=>S.locL ((p.map _).mem_iff.mpr h),S.loc,S.kinds,S.fn⟩
theorem XY{loc loc':List (Str × AV)}{l l':Led}(p:l.Perm l'):Xk env ⟨loc,l⟩=Xk env ⟨loc',l'⟩:=by
 unfold Xk
 congr 1
 ·funext a;exact propext ⟨Or.imp id (p.map _).mem_iff.mp,Or.imp id (p.map _).mem_iff.mpr⟩
 ·funext a;exact propext (p.filterMap _).mem_iff
theorem T.perm{α β:Type}{rel:Frz->α->β->Prop}{t:Sem β}{loc:List (Str × AV)}{l l':Led}{K:α->St->Prop}(p:l.Perm l')(h:T prog w A B env rel t ⟨loc,l'⟩ K):T prog w A B env rel t ⟨loc,l⟩ K :=
 fun s Z S Q E hQ=>h s Z (S.perm p) Q E fun v x s' Z' st' k S' V X=>hQ v x s' Z' st' k S' V (by rw [XY (env:=env) (loc:=loc) (loc':=loc) p];exact X)
theorem SimF.drop{s:Xwl}{Z:Frz}{loc:List (Str × AV)}{l l':Led}(S:SimF B env s Z ⟨loc,l++l'⟩):SimF B env s Z ⟨loc,l'⟩ :=
 ⟨S.toSimL.drop,S.locZ,fun h=>S.locL (by rw [keys,XwH];exact XwM _ h),S.loc,S.kinds,S.fn⟩
theorem Ext.dropF{o:Own}{s s':Xwl}{Z Z':Frz}{loc loc':List (Str × AV)}{l l':Led}(X:Ext o s Z s' Z' (Xk env ⟨loc,l++l'⟩)):Ext o s Z s' Z' (Xk env ⟨loc',l'⟩) :=
 X.less (fun a h=>h.imp id fun h=>by rw [keys,XwH];exact XwM _ h) fun a h=>by
  show a∈gkeys (l++l')
  unfold gkeys
  rw [Xyt]
  exact XwM _ h
theorem XcJ{k:Nat}{target:Expr}{it:XwR}{x:AV}{xs:List AV}{gl l:Led}{loc:List (Str × AV)}(h:IterOk prog w B N k target it (x::xs) gl)(hA:Room A k)(hN:NIn N l){s:Xwl}{Z:Frz}(S:SimF B env s Z ⟨loc,l++gl⟩)
  {Q:Option Value->Xwl->Prop} {E:Value->Xwl->Prop}
  (hQ:∀ s' Z' v gl',SimF B env s' Z' ⟨loc,l++gl'⟩->Val Z' x v->Ext (Xk env ⟨loc,l++gl⟩) s Z s' Z' (Xk env ⟨loc,l++gl'⟩)->IterOk prog w B N k target it xs gl'->Q (some v) s') :
  XwG (XwD prog w) A (Xyc (.ref it)) (fun r s₁=>match r with | none=>False | some v=>XwG (XwD prog w) A (Xxi target (.ref it) v) (fun _ s₂=>Q (some v) s₂) E s₁) E s :=
 h A hA l hN s Z (S.toSimL.perm Xwu) Q E fun s' Z' v gl' S' V X hi=>by
  have S'':=S'.perm (Xwu (l₁:=gl') (l₂:=l))
  have X':Ext (Xh (l++gl)) s Z s' Z' (Xh (l++gl')):=by
   rw [Xaj (Xwu (l₁:=l) (l₂:=gl)),Xaj (Xwu (l₁:=l) (l₂:=gl'))];exact X
  exact hQ s' Z' v gl' (S.after S'' X') V X'.toF hi
theorem Xdn{k:Nat}{target:Expr}{it:XwR}{gl l:Led}{loc:List (Str × AV)}(h:IterOk prog w B N k target it [] gl)(hA:Room A k)(hN:NIn N l){s:Xwl}{Z:Frz}(S:SimF B env s Z ⟨loc,l++gl⟩)
  {Q:Option Value->Xwl->Prop} {E:Value->Xwl->Prop}
  (hQ:∀ s' Z',SimF B env s' Z' ⟨loc,l⟩->Ext (Xk env ⟨loc,l++gl⟩) s Z s' Z' (Xk env ⟨loc,l⟩)->Q none s'):XwG (XwD prog w) A (Xyc (.ref it)) Q E s :=
 h A hA l hN s Z (S.toSimL.perm Xwu) Q E fun s' Z' S' X=>by
  have X':Ext (Xh (l++gl)) s Z s' Z' (Xh l):=by
   rw [Xaj (Xwu (l₁:=l) (l₂:=gl))];exact X
  exact hQ s' Z' (S.after S' X') X'.toF
theorem Xds{R:Result->Xwl->Prop}{target it body env}{s:Xwl}(I:Nat->Xwl->Prop)
  (turn:∀ n s,I n s->XwG (XwD prog w) A (Xyc it) (fun r s₁=>match r with
   | none=>R (.ok .next) s₁
   | some v=>XwG (XwD prog w) A (Xxi target it v) (fun _ s₁=>XwG (XwD prog w) A (XxG target env v) (fun _ s₂=>XwG (XwD prog w) A (execs body env) (fun f s₃=>match f with
     | .next | .cont=>∃ m,m<n/\I m s₃
     | .brk=>R (.ok .next) s₃
     | .ret v=>R (.ok (.ret v)) s₃) (notedBy (XwD prog w) A env fun e s'=>R (.error e) s') s₂) (notedBy (XwD prog w) A env fun e s'=>R (.error e) s') s₁) (notedBy (XwD prog w) A env fun e s'=>R (.error e) s') s₁)
    (notedBy (XwD prog w) A env fun e s'=>R (.error e) s') s)
  (n:Nat) (h:I n s):codeAny (XwD prog w) A (.forLoop target it body [] env) R s:=by
 refine codeAny_loop' rfl I (fun n s hI=>?_) n h
 show XwG _ _ ((forTurn target it body [] env).onRaise (fun x=>do noteFrame x env;theTreesLotGoes x)) _ _ s
 refine wpAny_noted ?_
 simp only [forTurn]
 refine Xwe (XwQ (Xwe (wpAny_onRaise (Xw8 (turn n s hI) (fun r s₁ h₁=>?_) fun _ _ h'=>XwQ h'))))
 cases r with
 | none=>exact Xwg (.inr ⟨rfl,codeAny_block (wpAny_execs_nil h₁)⟩)
 | some v =>
  refine Xwe (Xw8 h₁ (fun _ s₁ h₁=>?_) fun _ _ h'=>h')
  refine Xwe (Xw8 h₁ (fun _ s₂ h₂=>Xwe (Xw8 h₂ (fun f s₃ h₃=>?_) fun _ _ h'=>h')) fun _ _ h'=>h')
  cases f with
  | next=>exact Xwg (.inl ⟨rfl,h₃⟩)
  | cont=>exact Xwg (.inl ⟨rfl,h₃⟩)
  | brk=>exact Xwg h₃
  | ret v=>exact Xwg h₃
theorem XcM{target iter:Expr}{body:List Stmt}{pos:Pos}{st:St}{k:Nat}{J:List AV->St->Prop}{K:AFlow->St->Prop}(hA:Room A k)
  (hiter:T prog w A B env Val (Xxy iter env) st fun v st₁=>F1 prog w A B env Val pyIter v st₁ fun u st₂=>∃ it gl l items,u = .ref it/\st₂.led=gl++l/\IterOk prog w B [] k target it items gl/\J items ⟨st₂.loc,l⟩)
  (step:∀ x xs st' gl,J (x::xs) st'->F1 prog w A B env XE (XxG target env) x ⟨st'.loc,st'.led++gl⟩ fun _ st₃=>T prog w A B env FVal (execs body env) st₃ fun f st₄=>∃ l,st₄.led=l++gl/\match f with
   | .next | .cont=>J xs ⟨st₄.loc,l⟩
   | .brk=>K .next ⟨st₄.loc,l⟩
   | .ret v=>K (.ret v) ⟨st₄.loc,l⟩)
  (done:∀ st',J [] st'->K .next st') (hs:∀ x,Xyz iter env x=XxW x) :
  T prog w A B env FVal (exec (.For target iter body [] pos) env) st K:=fun s Z S Q E hQ=>by
 refine wpAny_For (hiter s Z S _ _ fun v x s₁ Z₁ st₁ k₁ S₁ V₁ X₁=>k₁ s₁ Z₁ x V₁ S₁ _ _ fun u y s₂ Z₂ st₂ k₂ S₂ V₂ X₂=>?_) hs
 obtain ⟨loc₂,led₂⟩:=st₂
 obtain ⟨it,gl,l,items,rfl,e,hit,hJ⟩:=k₂
 dsimp only at e hJ
 subst e
 cases V₂
 have X₀:=X₁.trans X₂
 refine Xds (fun n s'=>∃ Z' loc' l' gl' xs,n=xs.length/\SimF B env s' Z' ⟨loc',l'++gl'⟩/\IterOk prog w B [] k target it xs gl'/\J xs ⟨loc',l'⟩/\Ext (Xk env st) s Z s' Z' (Xk env ⟨loc',l'++gl'⟩)) ?_ items.length
  ⟨Z₂,loc₂,l,gl,items,rfl,S₂.perm Xwu,hit,hJ,by rw [XY (env:=env) (loc:=loc₂) (loc':=loc₂) (Xwu (l₁:=l) (l₂:=gl))];exact X₀⟩
 rintro n s' ⟨Z',loc',l',gl',xs,rfl,S',hit',hJ',X'⟩
 cases xs with
 | nil =>
  refine Xdn hit' hA .nil S' fun s₃ Z₃ S₃ X₃=>?_
  exact hQ .next .next s₃ Z₃ _ (done _ hJ') S₃ .next (X'.trans X₃)
 | cons x xs =>
  refine Xw8 (XcJ hit' hA .nil S' (Q:=fun r s₁=>match r with
   | none=>False
   | some v=>XwG (XwD prog w) A (XxG target env v) (fun _ s₂=>XwG (XwD prog w) A (execs body env) (fun f s₃=>match f with
     | .next | .cont=>∃ m,m<(x::xs).length/\∃ Z' loc' l' gl' xs,m=xs.length/\SimF B env s₃ Z' ⟨loc',l'++gl'⟩/\IterOk prog w B [] k target it xs gl'/\J xs ⟨loc',l'⟩/\Ext (Xk env st) s Z s₃ Z' (Xk env ⟨loc',l'++gl'⟩)
     | .brk=>Q .next s₃
     | .ret v=>Q (.ret v) s₃) (notedBy (XwD prog w) A env fun e s'=>cameBackBy (XwD prog w) A env E e s') s₂) (notedBy (XwD prog w) A env fun e s'=>cameBackBy (XwD prog w) A env E e s') s₁) fun s₃ Z₃ v gl₃ S₃ V₃ X₃ hit₃=>?_) (fun r s₁ h₁=>?_) fun _ _ h=>h
  ·refine step x xs ⟨loc',l'⟩ gl₃ hJ' s₃ Z₃ v V₃ S₃ _ _ fun _ _ s₄ Z₄ st₄ k₄ S₄ _ X₄=>k₄ s₄ Z₄ S₄ _ _ fun f y s₅ Z₅ st₅ k₅ S₅ V₅ X₅=>?_
   obtain ⟨loc₅,led₅⟩:=st₅
   obtain ⟨l₅,e,k₅⟩:=k₅
   dsimp only at e k₅
   subst e
   have X₆:=((X'.trans X₃).trans X₄).trans X₅
   cases V₅ with
   | next=>exact ⟨xs.length,Xym _,Z₅,loc₅,l₅,gl₃,xs,rfl,S₅,hit₃,k₅,X₆⟩
   | cont=>exact ⟨xs.length,Xym _,Z₅,loc₅,l₅,gl₃,xs,rfl,S₅,hit₃,k₅,X₆⟩
   | brk =>
    refine hQ .next .next s₅ Z₅ ⟨loc₅,l₅⟩ k₅ (S₅.perm Xwu).drop .next (Ext.dropF (loc:=loc₅) (l:=gl₃) ?_)
    rw [XY (env:=env) (loc:=loc₅) (loc':=loc₅) (Xwu (l₁:=gl₃) (l₂:=l₅))];exact X₆
   | ret hv =>
    refine hQ _ _ s₅ Z₅ ⟨loc₅,l₅⟩ k₅ (S₅.perm Xwu).drop (.ret hv) (Ext.dropF (loc:=loc₅) (l:=gl₃) ?_)
    rw [XY (env:=env) (loc:=loc₅) (loc':=loc₅) (Xwu (l₁:=gl₃) (l₂:=l₅))];exact X₆
  ·cases r with
   | none=>exact h₁.elim
   | some v=>exact h₁
end
section
variable{prog:Xwx}{w:XwE}{A:Xww}{B:Frz}{env:Env}{N:Led}{n m:Nat}
theorem Sk.push{c c':Code}{fs:List Frame}{k:Result->Sem PySem.Fin}{l:List Value}{p:Pos}(h:Sk n m c fs)(h1:c'.weight=0)(h2:c'.cUnits=0):Sk n m c' (.ret k none false l c p []::fs) where
 room:=fun A hA=>by
  have R:=h.room A hA
  refine ⟨?_,?_,?_⟩
  ·show (marksOver (.ret k none false l c p []::fs) (A.handled,A.handled)).1=none
   have:=R.h
   simpa [Around.over,marksOver,Frame.marks,markOver] using this
  ·have:=R.d
   simp only [Around.over,Xwr,Frame.where_,frameCount_cons,h1] at this ⊢
   omega
  ·have:=R.u
   simp only [Around.over,Xwr,Frame.where_,unitsOf_cons,h2] at this ⊢
   omega
 split:=by simp only [splitAtGen,h.split,Option.map_none]
 quiet:=by simp only [List.any_cons,Frame.guarded,h.quiet,Bool.or_false]
def Xeu(target:Expr)(it:Value)(body:List Stmt)(env:Env)(v:Value):Sem PySem.Fin :=
 XxG target env v >>= fun _=>execs body env >>= fun f=>match f with
  | .next | .cont => .pure (.again (.forLoop target it body [] env))
  | .brk => .pure (.done .next)
  | .ret v => .pure (.done (.ret v))
def Xei(target:Expr)(it:Value)(body:List Stmt)(env:Env)(r:Option Value):Sem PySem.Fin :=
 match r with
 | none => .pure (.again (.block [] env))
 | some v=>Xxi target it v >>= fun _=>Xeu target it body env v
theorem Xok{target:Expr}{it:Value}{body:List Stmt}:forTurn target it body [] env=(standAt target.pos >>= fun _=>((Xyc it).onRaise (fun _=>standAt {target.pos with line:=0})) >>= Xei target it body env):=by
 unfold forTurn Xei Xeu
 congr 1
theorem XfN{target:Expr}{it:Value}{body:List Stmt}:∃ H,(XwD prog w).den (.forLoop target it body [] env) =
  .at target.pos fun _=>(Xyc it).wrap (fun r=>(Xei target it body env r).wrap .pure (fun e=>(do noteFrame e env;theTreesLotGoes e:Sem Unit).bind fun _ => .raise e) id id) H id id:=by
 apply Exists.intro
 ·show (forTurn target it body [] env).onRaise (fun x=>do noteFrame x env;theTreesLotGoes x)=_
  rw [Xok,XyE]
  show Sem.at target.pos (fun _=>Sem.wrap _ _ _ _ (((Xyc it).onRaise (fun _=>standAt {target.pos with line:=0})) >>= Xei target it body env))=_
  rw [Xxo,XyE,XxM,XxM]
  rfl
theorem Xlh{target:Expr}{body:List Stmt}{it:XwR}{k:Nat}{K:AFlow->St->List AV->Prop}{J:List AV->St->List AV->Prop}(hk:k<=m)
  (step:∀ x xs st' rows' gl,J (x::xs) st' rows'->∀ A,Room A m->∀ led,NIn N led->F1 prog w A B env XE (XxG target env) x ⟨st'.loc,(st'.led++gl)++led⟩ fun _ st₃=>∃ l₃,st₃.led=(l₃++gl)++led /\
   TG prog w B N n m env (execs body env) ⟨st₃.loc,l₃++gl⟩ rows' fun f st₄ rows₄=>∃ l,st₄.led=l++gl/\match f with
   | .next | .cont=>J xs ⟨st₄.loc,l⟩ rows₄
   | .brk=>K .next ⟨st₄.loc,l⟩ rows₄
   | .ret v=>K (.ret v) ⟨st₄.loc,l⟩ rows₄)
  (done:∀ st' rows',J [] st' rows'->K .next st' rows') {fs:List Frame} (hs:Sk n m (.forLoop target (.ref it) body [] env) fs) (hb:Sk n m (.block [] env) fs)
  (hK:∀ f x st' rows',K f st' rows'->XoA f x->∀ c,XgE prog w B N n env c (.pure (.done x)) fs rows' st') :
  ∀ (xs:List AV) (st:St) (rows:List AV) (gl:Led),IterOk prog w B N k target it xs gl->J xs st rows ->
   XgE prog w B N n env (.forLoop target (.ref it) body [] env) ((XwD prog w).den (.forLoop target (.ref it) body [] env)) fs rows ⟨st.loc,st.led++gl⟩:=by
 intro xs
 induction xs with
 | nil =>
  intro st rows gl hit hJ A hA led hN own₀ s₀ Z₀ s Z S X
  obtain ⟨H,hH⟩:=XfN (prog:=prog) (w:=w) (env:=env) (target:=target) (it := .ref it) (body:=body)
  rw [hH]
  refine Xco ?_
  have Sp:SimF B env s Z ⟨st.loc,(st.led++led)++gl⟩:=S.perm (by
   simp only [XwK];exact Xy3 _ Xwu)
  refine Xai (Xdn hit ((hs.room A hA).mono hk) (hN.app _) Sp fun s₃ Z₃ S₃ X₃=>?_)
  show XX _ A _ _ (.pure (.again (.block [] env))) fs s₃
  refine Xb5 rfl ?_
  show XX _ A _ _ (.pure (.done .next)) fs s₃
  refine hK .next .next st rows (done st rows hJ) trivial _ A hA led hN own₀ s₀ Z₀ s₃ Z₃ S₃ (X.trans ?_)
  rw [XY (env:=env) (loc:=st.loc) (loc':=st.loc) (l:=(st.led++gl)++led) (l':=(st.led++led)++gl) (by
   simp only [XwK];exact Xy3 _ Xwu)]
  exact X₃
 | cons x xs ih =>
  intro st rows gl hit hJ A hA led hN own₀ s₀ Z₀ s Z S X
  obtain ⟨H,hH⟩:=XfN (prog:=prog) (w:=w) (env:=env) (target:=target) (it := .ref it) (body:=body)
  rw [hH]
  refine Xco ?_
  have P:((st.led++gl)++led).Perm ((st.led++led)++gl):=by
   simp only [XwK];exact Xy3 _ Xwu
  have Sp:SimF B env s Z ⟨st.loc,(st.led++led)++gl⟩:=S.perm P
  rw [XY (env:=env) (loc:=st.loc) (loc':=st.loc) P] at X
  refine Xai (Xw8 (XcJ hit ((hs.room A hA).mono hk) (hN.app _) Sp (Q:=fun r s₁=>match r with
   | none=>False
   | some v=>XX (XwD prog w) A (Xhv prog w B N n rows led own₀ s₀ Z₀) (.forLoop target (.ref it) body [] env) ((Xeu target (.ref it) body env v).wrap .pure (fun e=>(do noteFrame e env;theTreesLotGoes e:Sem Unit).bind fun _ => .raise e) id id) fs s₁)
   (E:=fun _ _=>False) fun s₃ Z₃ v gl₃ S₃ V₃ X₃ hit₃=>?_) (fun r s₁ h₁=>?_) fun _ _ h=>h.elim)
  ·dsimp only
   unfold Xeu
   rw [Xxo,XxM]
   have P₃:((st.led++led)++gl₃).Perm ((st.led++gl₃)++led):=by
    simp only [XwK];exact Xy3 _ Xwu
   have X':=X.trans X₃
   rw [XY (env:=env) (loc:=st.loc) (loc':=st.loc) P₃] at X'
   refine Xai (step x xs st rows gl₃ hJ _ (hs.room A hA) led hN s₃ Z₃ v V₃ (S₃.perm P₃) _ _ fun _ _ s₄ Z₄ st₄ k₄ S₄ _ X₄=>?_)
   obtain ⟨loc₄,led₄⟩:=st₄
   obtain ⟨l₃,e,k₄⟩:=k₄
   dsimp only at e k₄
   subst e
   rw [Xxo,XxM]
   refine k₄ _ fs _ _ _ _ hs rfl (fun f y st₅ rows₅ k₅ p=>?_) A hA led hN own₀ s₀ Z₀ s₄ Z₄ S₄ (X'.trans X₄)
   obtain ⟨loc₅,led₅⟩:=st₅
   obtain ⟨l₅,e,k₅⟩:=k₅
   dsimp only at e k₅
   subst e
   have hagain:J xs ⟨loc₅,l₅⟩ rows₅->XgE prog w B N n env (.forLoop target (.ref it) body [] env) (.pure (.again (.forLoop target (.ref it) body [] env))) fs rows₅ ⟨loc₅,l₅++gl₃⟩:=fun hJ' A' hA' led' hN' own' s' Z' s'' Z'' S'' X'' =>
    Xb5 rfl (ih ⟨loc₅,l₅⟩ rows₅ gl₃ hit₃ hJ' A' hA' led' hN' own' s' Z' s'' Z'' S'' X'')
   have hout:∀ {f' x'},K f' ⟨loc₅,l₅⟩ rows₅->XoA f' x'->XgE prog w B N n env (.forLoop target (.ref it) body [] env) (.pure (.done x')) fs rows₅ ⟨loc₅,l₅++gl₃⟩:=fun {f' x'} hk' p' A' hA' led' hN' own' s' Z' s'' Z'' S'' X''=>by
    have P₅:((l₅++gl₃)++led').Perm (gl₃++(l₅++led')):=by
     have:((l₅++gl₃)++led').Perm ((gl₃++l₅)++led'):=List.Perm.append_right _ Xwu
     rwa [XwK gl₃] at this
    refine hK f' x' ⟨loc₅,l₅⟩ rows₅ hk' p' _ A' hA' led' hN' own' s' Z' s'' Z'' ((S''.perm P₅).drop) (Ext.dropF (loc:=loc₅) (l:=gl₃) ?_)
    rw [← XY (env:=env) (loc:=loc₅) (loc':=loc₅) P₅]
    exact X''
   cases f with
   | next=>cases y <;> first | exact p.elim | exact hagain k₅
   | cont=>cases y <;> first | exact p.elim | exact hagain k₅
   | brk=>cases y <;> first | exact p.elim | exact hout (f' := .next) k₅ trivial
   | ret v=>cases y <;> first | (cases v <;> exact p.elim) | exact hout (f' := .ret v) k₅ p
  ·cases r with
   | none=>exact h₁.elim
   | some v =>
    show XX _ A _ _ (Sem.wrap _ _ _ _ (Xxi target (.ref it) v >>= _)) fs s₁
    rw [Xxo,XxM]
    exact Xai (Xw8 h₁ (fun _ s₂ h₂=>h₂) fun _ _ h=>h.elim)
end
section
variable{prog:Xwx}{w:XwE}{A:Xww}{B:Frz}{env:Env}{N:Led}{n m:Nat}
theorem XcN{target iter:Expr}{body:List Stmt}{pos:Pos}{st:St}{rows:List AV}{k:Nat}{J:List AV->St->List AV->Prop}{K:AFlow->St->List AV->Prop}(hk:k<=m)
  (hiter:∀ A,Room A m->∀ led,NIn N led->T prog w A B env Val (Xxy iter env) ⟨st.loc,st.led++led⟩ fun v st₁=>F1 prog w A B env Val pyIter v st₁ fun u st₂=>∃ it gl l items,u = .ref it/\st₂.led=gl++(l++led)/\IterOk prog w B N k target it items gl/\J items ⟨st₂.loc,l⟩ rows)
  (step:∀ x xs st' rows' gl,J (x::xs) st' rows'->∀ A,Room A m->∀ led,NIn N led->F1 prog w A B env XE (XxG target env) x ⟨st'.loc,(st'.led++gl)++led⟩ fun _ st₃=>∃ l₃,st₃.led=(l₃++gl)++led /\
   TG prog w B N n m env (execs body env) ⟨st₃.loc,l₃++gl⟩ rows' fun f st₄ rows₄=>∃ l,st₄.led=l++gl/\match f with
   | .next | .cont=>J xs ⟨st₄.loc,l⟩ rows₄
   | .brk=>K .next ⟨st₄.loc,l⟩ rows₄
   | .ret v=>K (.ret v) ⟨st₄.loc,l⟩ rows₄)
  (done:∀ st' rows',J [] st' rows'->K .next st' rows') (hs:∀ x,Xyz iter env x=XxW x) :
  TG prog w B N n m env (exec (.For target iter body [] pos) env) st rows K:=fun c fs Kc H gd lv hsk hg hK A hA led hN own₀ s₀ Z₀ s Z S X=>by
 rw [exec_For]
 refine Xco ?_
 show XX _ A _ c ((Xxy iter env >>= fun x=>Xyz iter env x >>= fun x=>standAt iter.pos >>= fun _=>XyV [x] (pyIter x) >>= fun it=>runOwn (.forLoop target it body [] env) env).wrap Kc H gd lv) fs s
 rw [Xxo,XxM]
 refine Xai (hiter _ (hsk.room A hA) led hN s Z S _ _ fun v x s₁ Z₁ st₁ k₁ S₁ V₁ X₁=>?_)
 rw [hs x]
 refine Xco ?_
 show XX _ A _ c ((XyV [x] (pyIter x) >>= fun it=>runOwn (.forLoop target it body [] env) env).wrap Kc H gd lv) fs s₁
 rw [Xxo,XxM]
 refine Xai (Xwt (k₁ s₁ Z₁ x V₁ S₁ _ _ fun u y s₂ Z₂ st₂ k₂ S₂ V₂ X₂=>?_))
 obtain ⟨loc₂,led₂⟩:=st₂
 obtain ⟨it,gl,l,items,rfl,e,hit,hJ⟩:=k₂
 dsimp only at e hJ
 subst e
 cases V₂
 refine Xo5 fun p=>?_
 have hgf:gd false=false:=hg
 rw [hgf]
 have hs1:=hsk.push (c' := .forLoop target (.ref it) body [] env) (k:=(fun r=>((match r with | .ok f=>(.pure f:Sem Flow) | .error e => .raise e).onRaise fun (x:Value)=>do
    if (← field x 1) == Xxr then unsupported "frame.own-activation:exception-without-traceback"
    setFlight x env.frame).wrap Kc H gd lv)) (l:=lv []) (p:=p) rfl rfl
 have hs2:=hsk.push (c' := .block [] env) (k:=(fun r=>((match r with | .ok f=>(.pure f:Sem Flow) | .error e => .raise e).onRaise fun (x:Value)=>do
    if (← field x 1) == Xxr then unsupported "frame.own-activation:exception-without-traceback"
    setFlight x env.frame).wrap Kc H gd lv)) (l:=lv []) (p:=p) rfl rfl
 have P:(gl++(l++led)).Perm ((l++gl)++led):=by
  rw [← XwK]
  exact List.Perm.append_right _ Xwu
 have X':=(X.trans X₁).trans X₂
 rw [XY (env:=env) (loc:=loc₂) (loc':=loc₂) P] at X'
 refine Xlh (K:=K) (J:=J) hk step done hs1 hs2 (fun f x st' rows' k' p' c' A' hA' led' hN' own' s' Z' s'' Z'' S'' X''=>?_) items ⟨loc₂,l⟩ rows gl hit hJ A hA led hN own₀ s₀ Z₀ s₂ Z₂ (S₂.perm P) X'
 refine Xo4 (.ok x) ?_
 exact hK f x st' rows' k' p' A' hA' led' hN' own' s' Z' s'' Z'' S'' X''
theorem Sk.func{body:List Stmt}:Sk (m+3) m (.func body env) [] where
 room:=fun A hA=>⟨hA.h,by
  have:=hA.d
  show A.depth+0+1+m<=_
  omega,by
  have:=hA.u
  show A.units+0+3+m<=_
  omega⟩
 split:=rfl
 quiet:=rfl
theorem Susp.fresh{body:List Stmt}{loc:List (Str × AV)}{l:Led}{rows:List AV}(hk:∀ x v,loc.lookup x=some v->env.kindOf x=some .local)(hf:env.scope.kind = .function)
  (h:TG prog w B N (m+3) m env (execs body env) ⟨loc,l⟩ rows fun f st rows'=>rows'=[]):Susp prog w B N (m+3) rows ((env.locals,.ns loc)::l) (.fresh (.func body env)):=by
 rw [Susp.iff]
 intro A hA led hN s Z S
 show XX _ A _ _ (.point [] fun _=>((execs body env).onRaise (leaving env)) >>= _) [] s
 refine Xmz ?_
 have SF:SimF B env s Z ⟨loc,l++led⟩:=SimL.toF (st:=⟨loc,l++led⟩) S hk hf
 rw [XyE,Xxo,XxM]
 refine h _ [] _ _ _ _ Sk.func rfl (fun f x st' rows' k p A' hA' led' hN' own' s' Z' s'' Z'' S'' X''=>?_) A hA led hN _ s Z s Z SF (by rw [Xay];exact .refl)
 subst k
 have fin:XX (XwD prog w) A' (Xhv prog w B N (m+3) [] led' own' s' Z') (.func body env) (.pure (.done (.ret .none))) [] s'':=by
  refine Xjt (.ok (.ret .none)) ⟨.inl rfl,Z'',(S''.toSimL).drop (l:=st'.led),?_⟩
  refine X''.less (fun a h => .inr ?_) fun a h=>?_
  ·show a∈keys (st'.led++led')
   rw [keys,XwH];exact XwM _ h
  ·show a∈gkeys (st'.led++led')
   unfold gkeys;rw [Xyt];exact XwM _ h
 cases x with
 | next=>exact fin
 | brk=>exact fin
 | cont=>exact fin
 | ret v =>
  cases f <;> try exact p.elim
  rename_i u
  cases u <;> cases v <;> first | exact p.elim | exact fin
theorem Xmh{f:XwR}{o:Obj}{fd:XyS}{body:List Stmt}{args:List AV}{kw binds:List (Str × AV)}{led:Led}{K:AV->Led->Prop}{c:XwR}{oc:Obj}{vs:Array Value}{tq:Tok}
  (hG:Ground0 B) (ho:B f=some o) (hd:o.data = .func fd) (hco:fd.scope.isCoroutine=false) (hgen:fd.scope.isGenerator=true) (hk:fd.scope.kind = .function) (hbody:fd.body = .stmts body)
  (hcell:∀ x∈fd.scope.names,x.2 ≠ .cell)
  (hc:fd.code = .ref c) (hoc:B c=some oc) (hocd:oc.data = .fields vs) (hq:vs[1]? = some (.str fd.qualname tq)) (hroom:A.depth<XxV)
  (hb:Binds prog w A.in1 B fd args kw binds) (hloc:∀ x∈binds.map (·.1),fd.scope.names.lookup x=some .local)
  (h:∀ L a g,K (.ref a) ((a,.gen g (.fresh (.func body (XaV fd.scope L fd.globals fd.closure fd.qualname f fd.code fd.builtins))))::(L,.ns binds.reverse)::led)) :
  TC prog w A B (.ref f) args kw led K:=fun s Z fx xs ks S hf hx hkw R hR=>by
 cases hf
 refine codeAny_call_generator hroom (S.frozen _ _ (S.base _ _ ho)) hd hco hgen hbody ⟨c,oc,vs,tq,hc,S.frozen _ _ (S.base _ _ hoc),hocd,hq⟩ ?_
 refine hb s Z led xs ks S hx hkw _ _ fun bs s₁ Z₁ S₁ hbs X₁=>?_
 have hR₁:∀ v x s' Z' led',K v led'->SimL B s' Z' led'->Val Z' v x->Ext (Xh led) s₁ Z₁ s' Z' (Xh led')->R (.ok (.ret x)) s':=fun v x s' Z' led' k S' V X=>hR v x s' Z' led' k S' V (X₁.trans X)
 clear hR X₁
 revert s₁ Z₁
 intro s Z S hbs hR
 have hlocs:∀ x∈bs,fd.scope.names.lookup x.1=some .local:=fun x hx=>hloc x.1 (by rw [← hbs.keys];exact XwC hx)
 refine wpAny_newFunctionEnv (around:=none) hcell hlocs (fun h₁ hns hsb=>?_) hk
 have keep:∀ b o,s.heap.get? b=some o->h₁.get? b=some o:=fun b o e=>hsb.extBut b o (Xxu (Xw7 e)) (Xwq _ e)
 refine ⟨hG.lim _ fun a o e=>keep a o (S.frozen a o (S.base a o e)),?_⟩
 have hfresh:s.heap.get? s.heap.objs.size=none:=by
  cases e:s.heap.get? s.heap.objs.size with
  | none=>rfl
  | some o=>exact absurd (Xw7 e) (Xx8 _)
 have hL:s.heap.objs.size∉keys led:=fun q=>by
  obtain ⟨p,hp,e⟩:=XwJ.mp q
  obtain ⟨ob,g⟩:=(S.own p hp).live
  rw [e,hfresh] at g;cases g
 have hZ:Z s.heap.objs.size=none:=by
  cases e:Z s.heap.objs.size with
  | none=>rfl
  | some o=>rw [S.frozen _ _ e] at hfresh;cases hfresh
 have hLlive:∃ ob,h₁.get? s.heap.objs.size=some ob:=by obtain ⟨ob,_,_,g,_⟩:=hns;exact ⟨ob,g⟩
 obtain ⟨obL,hobL⟩:=hLlive
 have hne:s.heap.objs.size≠h₁.objs.size:=Xxu (Xw7 hobL)
 generalize hgo:({cls := .type "generator",data := .fields #[.int s.gens.size 0,.str fd.name (s.toks+bs.length),.str fd.qualname (s.toks+bs.length+1)]}:Obj)=go
 have hfresh₁:h₁.get? h₁.objs.size=none:=by
  cases e:h₁.get? h₁.objs.size with
  | none=>rfl
  | some o=>exact absurd (Xw7 e) (Xx8 _)
 have keep₂:∀ b o,h₁.get? b=some o->(h₁.push go).get? b=some o:=fun b o e=>Xwq go e
 have hga:(h₁.push go).get? h₁.objs.size=some go:=Xwp _ (by subst hgo;rfl)
 have hgnew:s.gens[s.gens.size]? = none:=by simp
 have hgl:s.gens.size∉gkeys led:=fun q=>by
  obtain ⟨p,hp,e⟩:=List.mem_filterMap.mp q
  have:=S.own p hp
  obtain ⟨a,ob⟩:=p
  cases ob with
  | gen g gs =>
   simp only [AObj.gnum,XxE] at e
   subst e
   have:=this.2
   rw [hgnew] at this;cases this
  | _=>cases e
 have gkeep:∀ g (gs x:XyH),s.gens[g]? = some gs->(s.gens.push x)[g]? = some gs:=fun g gs x e=>by
  rw [Array.getElem?_push]
  have:g<s.gens.size:=by
   obtain ⟨hlt,_⟩:=Array.getElem?_eq_some_iff.mp e
   exact hlt
  rw [if_neg nofun];exact e
 refine hR (.ref h₁.objs.size) _ _ Z _ (h s.heap.objs.size h₁.objs.size s.gens.size) ⟨S.base,fun a o e=>keep₂ a o (keep a o (S.frozen a o e)),?_,fun p hp=>?_,fun p hp=>?_,?_,fun x hx=>?_⟩ (.ref _)
  ⟨.refl _,fun a o e _=>keep₂ a o (keep a o e),fun a ha=>?_,fun _ _ e => .inl e,rfl,fun g gs e _=>gkeep g gs _ e,fun g hg=>?_⟩
 ·refine Xwz.mpr ⟨fun q=>?_,Xwz.mpr ⟨hL,S.nodup⟩⟩
  rcases Xwm.mp q with q | q
  ·exact hne q.symm
  ·obtain ⟨p,hp,e⟩:=XwJ.mp q
   obtain ⟨ob,g⟩:=(S.own p hp).live
   have:=keep _ _ g
   rw [e,hfresh₁] at this;cases this
 ·rcases Xwm.mp hp with rfl | hp
  ·cases e:Z h₁.objs.size with
   | none=>rfl
   | some o =>
    have:=keep _ _ (S.frozen _ _ e)
    rw [hfresh₁] at this;cases this
  ·rcases Xwm.mp hp with rfl | hp
   ·exact hZ
   ·exact S.apart p hp
 ·rcases Xwm.mp hp with rfl | hp
  ·refine ⟨⟨go,_,_,hga,by subst hgo;rfl,by subst hgo;rfl,by subst hgo;rfl⟩,?_⟩
   show (s.gens.push _)[s.gens.size]? = _
   rw [Array.getElem?_push,if_pos rfl]
   rfl
  ·rcases Xwm.mp hp with rfl | hp
   ·exact NsIs.mono (.refl _) (fun o e=>keep₂ _ o e) ⟨_,hns,fun y=>hbs.reverse.lookup y⟩
   ·exact (S.own p hp).mono (.refl _) (fun o e=>keep₂ _ o (keep _ o e)) fun g gs _ e=>gkeep g gs _ e
 ·exact Xwz.mpr ⟨hgl,S.gnodup⟩
 ·rcases Array.mem_push.mp hx with hx | hx
  ·exact S.bare x hx
  ·subst hx;rfl
 ·rcases Xwm.mp ha with q | q
  ·right
   cases e:s.heap.get? a with
   | none=>rfl
   | some o =>
    have:=keep a o e
    rw [q,hfresh₁] at this;cases this
  ·rcases Xwm.mp q with q | q
   ·exact .inr (q ▸ hfresh)
   ·exact .inl q
 ·rcases Xwm.mp (show g∈s.gens.size::gkeys led from hg) with q | q
  ·exact .inr (q ▸ hgnew)
  ·exact .inl q
theorem XeZ{fd:XyS}{binds:List (Str × AV)}{L f c:XwR}(hloc:((binds.map (·.1)).all fun x=>decide (fd.scope.names.lookup x=some .local))=true) :
  ∀ x v,binds.reverse.lookup x=some v->(Xa0 fd L f c).kindOf x=some .local:=fun x v e=>by
 have hm:x∈binds.map (·.1):=by
  have:∀ (l:List (Str × AV)),l.lookup x=some v->x∈l.map (·.1):=fun l=>by
   induction l with
   | nil=>intro e;cases e
   | cons p l ih =>
    intro e
    rw [XwB] at e
    cases q:(x == p.1) with
    | true=>rw [beq_iff_eq.mp q];simp
    | false=>rw [q] at e;exact Xwh _ (ih e)
  have:=this _ e
  simpa using this
 exact of_decide_eq_true (XwU.mp hloc x hm)
def Xcg(prog:Xwx)(w:XwE)(B:Frz)(N:Led)(n:Nat)(rows:List AV)(led:Led)(v:AV)(led':Led):Prop :=
 ∃ a g gs gl,v = .ref a/\led'=((a,.gen g gs)::gl)++led/\Susp prog w B N n rows gl gs
theorem XkQ{K:Frag}{f c:XwR}{fd:XyS}{body:List Stmt}{args:List AV}{kw binds:List (Str × AV)}{led:Led}{rows:List AV}
  (hG:Ground0 (Xg K)) (ok:XaT K f true fd body c) (hroom:A.depth<XxV) (hb:Binds prog w A.in1 (Xg K) fd args kw binds)
  (hloc:((binds.map (·.1)).all fun x=>decide (fd.scope.names.lookup x=some .local))=true)
  (h:∀ L,TG prog w (Xg K) N (m+3) m (Xa0 fd L f c) (execs body (Xa0 fd L f c)) ⟨binds.reverse,[]⟩ rows fun _ _ rows'=>rows'=[]) :
  TC prog w A (Xg K) (.ref f) args kw led (Xcg prog w (Xg K) N (m+3) rows led):=by
 obtain ⟨⟨o,ho,hd⟩,hbody,hc,hcl,hg,hbi,⟨oc,vs,tq,hoc,hocd,hq⟩,⟨h1,h2,h3⟩,h4⟩:=ok
 refine Xmh hG ho hd h1 h2 h3 hbody (fun x hx=>of_decide_eq_true (XwU.mp h4 x hx)) hc hoc hocd hq hroom hb (fun x hx=>of_decide_eq_true (XwU.mp hloc x hx)) fun L a g=>?_
 rw [hcl,hg,hbi,hc]
 exact ⟨a,g,_,[(L,.ns binds.reverse)],rfl,rfl,Susp.fresh (env:=Xa0 fd L f c) (XeZ hloc) h3 (h L)⟩
end
section
variable{prog:Xwx}{w:XwE}{A:Xww}{B:Frz}{env:Env}
theorem XbH(s:Xwl):s.heap.get? s.heap.objs.size=none:=by
 cases e:s.heap.get? s.heap.objs.size with
 | none=>rfl
 | some o=>exact absurd (Xw7 e) (Xx8 _)
def Frz.add(Z:Frz)(a:XwR)(o:Obj):Frz:=fun b=>if b=a then some o else Z b
theorem Frz.add_at(Z:Frz)(a:XwR)(o:Obj):Z.add a o a=some o:=if_pos rfl
theorem Frz.le_add{Z:Frz}{a:XwR}{o:Obj}(h:Z a=none):Frz.le Z (Z.add a o):=fun b ob e=>by
 unfold Frz.add
 by_cases q:b=a
 ·subst q;rw [h] at e;cases e
 ·rw [if_neg q];exact e
theorem SimL.zfresh{s:Xwl}{Z:Frz}{led:Led}(S:SimL B s Z led):Z s.heap.objs.size=none:=by
 cases e:Z s.heap.objs.size with
 | none=>rfl
 | some o=>have:=S.frozen _ _ e;rw [XbH] at this;cases this
theorem SimL.lfresh{s:Xwl}{Z:Frz}{led:Led}(S:SimL B s Z led):s.heap.objs.size∉keys led:=fun q=>by
 obtain ⟨p,hp,e⟩:=XwJ.mp q
 obtain ⟨ob,g⟩:=(S.own p hp).live
 rw [e,XbH] at g;cases g
theorem SimL.pushZ{s:Xwl}{Z:Frz}{led:Led}(S:SimL B s Z led){o:Obj}(hfr:o.isFreed=false)(tk:Nat) :
  SimL B {s with heap:=s.heap.push o,toks:=tk} (Z.add s.heap.objs.size o) led/\Ext (Xh led) s Z {s with heap:=s.heap.push o,toks:=tk} (Z.add s.heap.objs.size o) (Xh led):=by
 have le:=Frz.le_add (o:=o) S.zfresh
 have keep:∀ b ob,s.heap.get? b=some ob->(s.heap.push o).get? b=some ob:=fun b ob e=>Xwq o e
 refine ⟨⟨S.base.trans le,fun a ob e=>?_,S.nodup,fun p hp=>?_,fun p hp=>(S.own p hp).mono le (fun ob e=>keep _ ob e) fun _ _ _ e=>e,S.gnodup,S.bare⟩,
  ⟨le,fun a ob e _=>keep a ob e,fun a ha => .inl ha,fun a ob e=>?_,rfl,fun _ _ e _=>e,fun g hg => .inl hg⟩⟩
 ·unfold Frz.add at e
  by_cases q:a=s.heap.objs.size
  ·rw [if_pos q] at e
   cases e
   rw [q]
   exact Xwp _ hfr
  ·rw [if_neg q] at e
   exact keep a ob (S.frozen a ob e)
 ·unfold Frz.add
  have hn:p.1≠s.heap.objs.size:=fun q=>S.lfresh (q ▸ XwC hp)
  rw [if_neg hn]
  exact S.apart p hp
 ·unfold Frz.add at e
  by_cases q:a=s.heap.objs.size
  ·exact .inr (.inr (q ▸ XbH s))
  ·rw [if_neg q] at e;exact .inl e
theorem XgD{elts:List Expr}{x1:Nat}{pos:Pos}{st:St}{K:AV->St->Prop}(h:T prog w A B env Vals (spliced (Xyp pos (Xw9 elts env))) st fun vs st'=>vs.length<=XwZ/\K (.tup vs) st') :
  T prog w A B env Val (Xxy (.Tuple elts x1 pos) env) st K:=fun s Z S Q E hQ=>by
 rw [arm_eval_Tuple]
 refine Xwe (XwQ (Xwe (h s Z S _ _ fun vs xs s' Z' st' k S' V X=>?_)))
 refine wpAny_newTuple ?_ (by rw [V.length];exact k.1)
 have P:=S'.toSimL.pushZ (o:={ cls := .type "tuple",data := .seq xs.toArray}) rfl s'.toks
 exact hQ _ _ _ _ _ k.2 (S'.after P.1 P.2) (.tup (Frz.add_at ..) (V.mono P.2.le)) (X.trans P.2.toF)
theorem Xmg{elts:List Expr}{pos:Pos}{st:St}{K:AV->St->Prop}(h:T prog w A B env Vals (spliced (Xyp pos (Xw9 elts env))) st fun vs st'=>vs.length<=XwZ/\∀ a,a∉keys st'.led->K (.ref a) ⟨st'.loc,(a,.list vs)::st'.led⟩) :
  T prog w A B env Val (Xxy (.List elts pos) env) st K:=fun s Z S Q E hQ=>by
 rw [arm_eval_List]
 refine Xwe (XwQ (Xwe (h s Z S _ _ fun vs xs s' Z' st' k S' V X=>?_)))
 refine wpAny_newList ?_ (by rw [V.length];exact k.1)
 have P:=S'.toSimL.push (o:={ cls := .type "list",data := .seq xs.toArray}) (ao := .list vs) rfl s'.toks ⟨_,_,Xwp _ rfl,V⟩
 exact hQ _ _ _ _ _ (k.2 _ S'.toSimL.lfresh) (S'.after P.1 P.2) (.ref _) (X.trans P.2.toF)
theorem Xcf{value slice:Expr}{pos:Pos}{T' id:String}{st:St}{K:AV->St->Prop}(hl:Xxz (.type T') "__getitem__" = XxW (some (.builtin id)))
  (hs:∀ o i,subscripted slice false o i=operate [o,i] (getItem o i))
  (h:T prog w A B env Val (Xxy value env) st fun v₁ st₁=>T prog w A B env Val (Xxy slice env) st₁ fun v₂ st₂=>Xat B v₁ st₂.led T'/\F2 prog w A B env Val getItem v₁ v₂ st₂ K) :
  T prog w A B env Val (Xxy (.Subscript value slice pos) env) st K:=fun s Z S Q E hQ =>
 PyProof.Rows.Subscript_ (h s Z S _ _ fun v₁ x₁ s₁ Z₁ st₁ k₁ S₁ V₁ X₁=>k₁ s₁ Z₁ S₁ _ _ fun v₂ x₂ s₂ Z₂ st₂ k₂ S₂ V₂ X₂=>by
  have hT:=(k₂.1 s₂ Z₂ x₁ (V₁.mono X₂.le) S₂.toSimL).1
  unfold PyProof.Rows.subscriptTail
  refine Xwe ?_
  rw [getitemInPython_of_ne hT.not_modules]
  refine Xwe (XyT hT hl ?_)
  have fin:XwG (XwD prog w) A (subscripted slice false x₁ x₂) (fun r s₃=>XwG (XwD prog w) A (letTemporaryGo value x₁ r >>= fun _=>XxW r) Q E s₃) E s₂:=by
   rw [hs]
   exact wpAny_operating (k₂.2 s₂ Z₂ x₁ x₂ (V₁.mono X₂.le) V₂ S₂ _ _ fun v x s' Z' st' k S' V X=>Xwe (wpAny_letTemporaryGo (Xwg (hQ v x s' Z' st' k S' V ((X₁.trans X₂).trans X)))))
  first
   | exact Xwg (Xwe fin)
   | exact Xwe (Xwg (Xwe fin))
   | exact Xwe fin)
inductive ListAt (led:Led):AV->List AV->Prop
 | own {a:XwR} {xs:List AV}:(a,.list xs)∈led->ListAt led (.ref a) xs
 | frz {xs:List AV}:ListAt led (.lst xs) xs
theorem ListAt.type{v:AV}{xs:List AV}{led:Led}(h:ListAt led v xs):Xat B v led "list" := by
 cases h with
 | own h=>exact XeP h
 | frz=>exact Xf0
theorem ListAt.get{v:AV}{xs:List AV}{led:Led}(h:ListAt led v xs){s:Xwl}{Z:Frz}{x:Value}(V:Val Z v x)(S:SimL B s Z led):∃ a items n,x = .ref a/\s.heap.get? a=some {cls := .type "list",data := .seq items n}/\Vals Z xs items.toList:=by
 cases h with
 | own h =>
  cases V
  obtain ⟨items,n,g,v⟩:=S.own _ h
  exact ⟨_,items,n,rfl,g,v⟩
 | frz =>
  cases V with
  | lst e h=>exact ⟨_,_,_,rfl,S.frozen _ _ e,by simpa using h⟩
theorem Xy{v:AV}{xs:List AV}{i:Int}{x:AV}{st:St}{K:AV->St->Prop}(hl:ListAt st.led v xs)(h0:0<=i)(h1:i<2 ^ 63)(hx:xs[i.toNat]? = some x)(h:K x st) :
  F2 prog w A B env Val getItem v (.int i) st K:=fun s Z x₁ x₂ V₁ V₂ S Q E hQ=>by
 obtain ⟨a,items,n,rfl,g,vs⟩:=hl.get V₁ S.toSimL
 cases V₂
 obtain ⟨u,e,hu⟩:=vs.get hx
 exact wpAny_getItem_list ⟨_,g,rfl,n,rfl⟩ h0 h1 (by simpa using e) (hQ x u s Z st h S hu .refl)
theorem XgK{v:AV}{xs:List AV}{i:Int}{x:AV}{st:St}{K:AV->St->Prop}(hl:ListAt st.led v xs)(h0:i<0)(h1 : -(xs.length:Int)<=i)(h2:xs.length<2 ^ 62)(hx:xs[(i+xs.length).toNat]? = some x)(h:K x st) :
  F2 prog w A B env Val getItem v (.int i) st K:=fun s Z x₁ x₂ V₁ V₂ S Q E hQ=>by
 obtain ⟨a,items,n,rfl,g,vs⟩:=hl.get V₁ S.toSimL
 cases V₂
 have hlen:items.size=xs.length:=by simpa using vs.length
 obtain ⟨u,e,hu⟩:=vs.get hx
 exact wpAny_getItem_list_neg ⟨_,g,rfl,n,rfl⟩ h0 nofun nofun (by rw [hlen];simpa using e) (hQ x u s Z st h S hu .refl)
theorem Xbd{v:AV}{xs:List AV}{st:St}{K:Bool->St->Prop}(hl:ListAt st.led v xs)(h1:xs.length<2 ^ 62)(h:K (!xs.isEmpty) st):F1 prog w A B env XQ truthy v st K:=fun s Z x V S Q E hQ=>by
 obtain ⟨a,items,n,rfl,g,vs⟩:=hl.get V S.toSimL
 have hlen:items.size=xs.length:=by simpa using vs.length
 have he:items.isEmpty=xs.isEmpty:=by
  cases xs with
  | nil=>simp only [XwF] at hlen;simp [Array.isEmpty,hlen]
  | cons y ys=>simp only [Xwn] at hlen;simp [Array.isEmpty,hlen]
 exact wpAny_truthy_list ⟨_,g,rfl,n,rfl⟩ nofun (hQ _ _ _ Z st h (S.toks _) (by rw [he];rfl) (.toks _))
end
section
variable{prog:Xwx}{w:XwE}{A:Xww}{B:Frz}{env:Env}{N:Led}
inductive Upd (a:XwR) (o o':AObj):Led->Led->Prop
 | here {l:Led}:Upd a o o' ((a,o)::l) ((a,o')::l)
 | there {p:XwR × AObj} {l l':Led}:Upd a o o' l l'->Upd a o o' (p::l) (p::l')
theorem Upd.mem{a:XwR}{o o':AObj}{l l':Led}(u:Upd a o o' l l'):(a,o)∈l:=by
 induction u with
 | here=>exact Xwf ..
 | there _ ih=>exact Xwh _ ih
theorem Upd.keys{a:XwR}{o o':AObj}{l l':Led}(u:Upd a o o' l l'):keys l'=keys l:=by
 induction u with
 | here=>rfl
 | @there p l l' _ ih=>show p.1::Mine.keys l'=p.1::Mine.keys l;rw [ih]
theorem Upd.gkeys{a:XwR}{o o':AObj}{l l':Led}(u:Upd a o o' l l')(h:o.gnum=none)(h':o'.gnum=none):gkeys l'=gkeys l:=by
 induction u with
 | here=>unfold Mine.gkeys;rw [XxA,XxA,h,h']
 | @there p l l' _ ih =>
  have ih:List.filterMap (fun p:XwR × AObj=>p.2.gnum) l'=List.filterMap (fun p:XwR × AObj=>p.2.gnum) l:=ih
  unfold Mine.gkeys
  rw [XxA,XxA,ih]
theorem Upd.out{a:XwR}{o o':AObj}{l l':Led}(u:Upd a o o' l l')(nd:(Mine.keys l).Nodup):∀ p∈l',p=(a,o')∨(p∈l/\p.1≠a):=by
 induction u with
 | @here l =>
  intro p hp
  rcases Xwm.mp hp with rfl | hp
  ·exact .inl rfl
  ·exact .inr ⟨Xwh _ hp,fun e=>(Xwz.mp nd).1 (by show a∈_;rw [← e];exact XwC (f:=fun x:XwR × AObj=>x.1) hp)⟩
 | @there q l l' u ih =>
  intro p hp
  rcases Xwm.mp hp with rfl | hp
  ·exact .inr ⟨Xwf ..,fun e=>(Xwz.mp nd).1 (by show p.1∈_;rw [e];exact XwC (f:=fun x:XwR × AObj=>x.1) u.mem)⟩
  ·rcases ih (Xwz.mp nd).2 p hp with h | ⟨h,h'⟩
   ·exact .inl h
   ·exact .inr ⟨Xwh _ h,h'⟩
theorem SimL.upd{s:Xwl}{Z:Frz}{led led':Led}{a:XwR}{o o':AObj}(U:Upd a o o' led led')(S:SimL B s Z led){h':Heap}{tk:Nat}(hs:∀ b ob,b≠a->s.heap.get? b=some ob->h'.get? b=some ob)(g1:o.gnum=none)(g2:o'.gnum=none)
  (hh:Holds Z {s with heap:=h',toks:=tk} a o'):SimL B {s with heap:=h',toks:=tk} Z led'/\Ext (Xh led) s Z {s with heap:=h',toks:=tk} Z (Xh led'):=by
 have hown:Xh led'=Xh led:=by unfold Xh;rw [U.keys,U.gkeys g1 g2]
 have hZ:Z a=none:=S.apart _ U.mem
 refine ⟨⟨S.base,fun b ob e=>hs b ob (fun q=>by rw [q,hZ] at e;cases e) (S.frozen b ob e),by rw [U.keys];exact S.nodup,fun p hp=>?_,fun p hp=>?_,by rw [U.gkeys g1 g2];exact S.gnodup,S.bare⟩,?_⟩
 ·rcases U.out S.nodup p hp with rfl | ⟨h,_⟩
  ·exact hZ
  ·exact S.apart p h
 ·rcases U.out S.nodup p hp with rfl | ⟨h,hne⟩
  ·exact hh
  ·exact (S.own p h).mono (.refl _) (fun ob e=>hs _ ob hne e) fun _ _ _ e=>e
 ·rw [hown]
  exact ⟨.refl _,fun b ob e hb=>hs b ob (fun q=>hb (q ▸ XwC U.mem)) e,fun b hb => .inl hb,fun _ _ e => .inl e,rfl,fun _ _ e _=>e,fun g hg => .inl hg⟩
theorem XbU{v:AV}{st:St}{K:AV->St->Prop}{T' Tx:String}(hty:typeOf (.type T')=XxW (.type "type"))(hsub:XyI (.type Tx) (.type T')=XxW true)(hv:Xat B v st.led Tx)(h:K (.bool true) st) :
  FC prog w A B env (.blt "isinstance") [v,.typ T'] [] st K:=fun s Z fx xs ks hf hx hk S Q E hQ=>by
 cases hf
 cases hk
 cases hx with
 | cons h1 hx=>cases hx with
  | cons h2 hx =>
   cases hx
   cases h2
   exact call_isinstance (isinstance_true (Tx:=Tx) hty hsub) ⟨(hv s Z _ h1 S.toSimL).1,hQ _ _ s Z st h S (.bool true) .refl⟩
theorem XaY{v:AV}{xs:List AV}{st:St}{K:AV->St->Prop}(hl:ListAt st.led v xs)(h1:xs.length<2 ^ 62)(h:K (.int xs.length) st):FC prog w A B env (.blt "len") [v] [] st K:=fun s Z fx ys ks hf hx hk S Q E hQ=>by
 cases hf
 cases hk
 cases hx with
 | cons hv hx =>
  cases hx
  obtain ⟨a,items,n,rfl,g,vs⟩:=hl.get hv S.toSimL
  have hlen:items.size=xs.length:=by simpa using vs.length
  refine Calls.call_len_list ⟨_,g,rfl,n,rfl⟩ nofun (hQ _ _ _ Z st h (S.toks _) ?_ (.toks _))
  rw [hlen];exact .int _ _
theorem Xfo{a:XwR}{xs:List AV}{v:AV}{st:St}{led':Led}{K:AV->St->Prop}(hsz:xs.length<=XwZ)(U:Upd a (.list xs) (.list (xs++[v])) st.led led')(h:K .none ⟨st.loc,led'⟩) :
  FC prog w A B env (.blt "list.append") [.ref a,v] [] st K:=fun s Z fx ys ks hf hx hk S Q E hQ=>by
 cases hf
 cases hk
 cases hx with
 | cons hv hx=>cases hx with
  | @cons _ u _ _ hv2 hx =>
   cases hx
   cases hv
   obtain ⟨items,n,g,vs⟩:=S.own _ U.mem
   dsimp only at g
   have hlen:items.size=xs.length:=by simpa using vs.length
   refine call_meets F.slot_list_append (⟨_,g,rfl⟩) F.entry_list_append (F.args_list_append_2 _ _) (list_append a items n u nofun) ⟨g,?_⟩
   have hg':∃ n',(s.heap.update a (Xw6 fun x=>x.push u)).get? a=some {cls := .type "list",data := .seq (items.push u) n' }:=⟨_,XwW (Xw6 fun x=>x.push u) g rfl⟩
   obtain ⟨n',hg'⟩:=hg'
   have P:=S.toSimL.upd U (h':=s.heap.update a (Xw6 fun x=>x.push u)) (tk:=s.toks) (fun b ob hb e=>(XwT ..).extBut b ob hb e) rfl rfl ⟨_,n',hg',by simpa using vs.append (.cons hv2 .nil)⟩
   exact hQ _ _ _ Z _ h (S.after P.1 P.2) .none P.2.toF
def FA(prog:Xwx)(w:XwE)(A:Xww)(B:Frz)(env:Env)(ts:List (Value->Sem Unit))(vs:List AV)(st:St)(K:Unit->St->Prop):Prop :=
 ∀ (s:Xwl) (Z:Frz) (xs:List Value),Vals Z vs xs->SimF B env s Z st->∀ (Q:Unit->Xwl->Prop) (E:Value->Xwl->Prop),
  (∀ v x s' Z' st',K v st'->SimF B env s' Z' st'->XE Z' v x->Ext (Xk env st) s Z s' Z' (Xk env st')->Q x s')->XwG (XwD prog w) A (assignInOrder ts xs) Q E s
theorem XkZ{st:St}{K:Unit->St->Prop}(h:K () st):FA prog w A B env [] [] st K:=fun s Z xs hx S Q E hQ=>by
 cases hx
 exact Xwg (hQ () () s Z st h S trivial .refl)
theorem Xdg{t:Value->Sem Unit}{ts:List (Value->Sem Unit)}{v:AV}{vs:List AV}{st:St}{K:Unit->St->Prop}(h:F1 prog w A B env XE t v st fun _ st'=>FA prog w A B env ts vs st' K):FA prog w A B env (t::ts) (v::vs) st K:=fun s Z xs hx S Q E hQ=>by
 cases hx with
 | cons hv hx =>
  show XwG _ A (XyV _ (t _) >>= fun _=>assignInOrder ts _) Q E s
  exact Xwe (Xwt (h s Z _ hv S _ _ fun _ _ s' Z' st' k S' _ X=>k s' Z' _ (hx.mono X.le) S' Q E fun v x s'' Z'' st'' k' S'' V' X'=>hQ v x s'' Z'' st'' k' S'' V' (X.trans X')))
theorem Xcw{x:Str}{pos:Pos}{v:AV}{st:St}{K:Unit->St->Prop}(h:F1 prog w A B env XE (XyU env x) v st K):F1 prog w A B env XE (XxG (.Name x pos) env) v st K:=fun s Z u V S Q E hQ =>
 wpAny_assign_Name (h s Z u V S Q E hQ)
theorem SimF.ext1{s:Xwl}{Z:Frz}{st:St}(S:SimF B env s Z st){h':Heap}(he:Heap.ExtBut s.heap.objs.size s.heap h'):SimF B env {s with heap:=h' } Z st/\Ext (Xk env st) s Z {s with heap:=h' } Z (Xk env st):=by
 have keep:∀ b o,s.heap.get? b=some o->h'.get? b=some o:=fun b o e=>he b o (Xxu (Xw7 e)) e
 exact ⟨⟨⟨S.base,fun a o e=>keep a o (S.frozen a o e),S.nodup,S.apart,fun p hp=>(S.own p hp).mono (.refl _) (fun o e=>keep _ o e) (fun _ _ _ e=>e),S.gnodup,S.bare⟩,S.locZ,S.locL,NsIs.mono (.refl _) (fun o e=>keep _ o e) S.loc,S.kinds,S.fn⟩,
  ⟨.refl _,fun a o e _=>keep a o e,fun a h => .inl h,fun _ _ e => .inl e,rfl,fun _ _ e _=>e,fun _ h => .inl h⟩⟩
theorem Xht{elts:List Expr}{x1:Nat}{pos:Pos}{vs:List AV}{st:St}{K:Unit->St->Prop}(hh:A.handled=none)(hn:(XxP elts env).length=vs.length)(hstar:(XxP elts env).findIdx? (·.1)=none)
  (h:FA prog w A B env ((XxP elts env).map (·.2)) vs st K):F1 prog w A B env XE (XxG (.Tuple elts x1 pos) env) (.tup vs) st K:=fun s Z u V S Q E hQ=>by
 cases V with
 | @tup a _ items n e hv =>
  refine PySem.wpAny_assign_Tuple hh (items:=items.toArray) ⟨_,S.frozen _ _ e,rfl,n,rfl⟩ (by rw [hn];simp [hv.length]) hstar fun h' he=>?_
  obtain ⟨S',X'⟩:=S.ext1 he
  exact h _ Z _ (by simpa using hv) S' Q E fun v x s'' Z'' st'' k' S'' V' X''=>hQ v x s'' Z'' st'' k' S'' V' (X'.trans X'')
theorem Xlw{target:Expr}{I ax:XwR}{i:Nat}{A:Xww}{s:Xwl}{v:Value}{Q:Unit->Xwl->Prop}{E:Value->Xwl->Prop}(h:s.heap.IsTupleIter I ax i)(hQ:Q () s) :
  XwG (XwD prog w) A (Xxi target (.ref I) v) Q E s:=by
 obtain ⟨o,ho,hc,hd⟩:=h
 unfold Xxi
 split
 all_goals first
  | exact Xwg hQ
  | (cases v <;> first
    | exact Xwg hQ
    | (refine Xwe (wpAny_load ho ?_);rw [hc,hd];dsimp only;rw [if_neg (by simp)];exact Xwg hQ))
theorem XfX{xs:List AV}{target:Expr}{st:St}{k:Nat}{K:AV->St->Prop}(h:∀ it gl,IterOk prog w B N k target it xs gl->K (.ref it) ⟨st.loc,gl++st.led⟩):F1 prog w A B env Val pyIter (.tup xs) st K:=fun s Z x V S Q E hQ=>by
 cases V with
 | @tup a _ items n e hv =>
  have hl:s.heap.IsTuple a items.toArray:=⟨_,S.frozen _ _ e,rfl,n,rfl⟩
  refine wpAny_pyIter_tuple hl ?_
  have hne:a≠s.heap.objs.size:=Xxu (Xw7 (S.frozen _ _ e))
  have hlen:items.toArray.size=xs.length:=by simp [hv.length]
  have P:=S.toSimL.push (o:={ cls := .type "tuple_iterator",data := .fields #[.ref a,.int 0 0]}) (ao:=itE s.heap.objs.size [s.heap.objs.size,a] (fun i v=>items.toArray[i]? = some v) xs (fun i h=>h.IsTupleIter s.heap.objs.size a i/\h.IsTuple a items.toArray) 0) rfl s.toks
   ⟨_,Xwp _ rfl,fun b hb=>by
    simp only [Xwm,XxO,or_false] at hb
    rcases hb with rfl | rfl
    ·exact .inl rfl
    ·exact .inr ⟨_,e⟩,fun i y v h1 h2=>by
    obtain ⟨u,e1,e2⟩:=hv.get h1
    simp only [List.getElem?_toArray] at h2
    rw [e1] at h2
    cases h2
    exact e2,fun h e1 e2=>⟨⟨_,e1,rfl,rfl⟩,_,e2 _ _ e,rfl,n,rfl⟩⟩
  refine hQ _ _ _ Z _ (h s.heap.objs.size _ (IterOk.walks (prog:=prog) (w:=w) (B:=B) (target:=target) (xs:=xs) (fun A hA=>by rw [← hlen];exact Walks.tuple hA s.heap.objs.size a hne items.toArray) (fun A i s v Q E hst hq=>Xlw hst.1 hq) (fun i h hst=>by obtain ⟨o,ho,_⟩:=hst.1;exact ⟨o,ho⟩) k xs.length 0 nofun)) (S.after P.1 P.2) (.ref _) P.2.toF
end
section
variable{prog:Xwx}{w:XwE}{A:Xww}{K:Frag}{env:Env}
theorem Xix{o:Obj}{es:Array DictEntry}{ep:Nat}{name:Str}(hd:o.data = .dict es ep)(hk:StrKeys es):lookIn name o=some (nsFind es name):=by
 unfold lookIn nsFind findBy
 rw [hd]
 dsimp only
 have e:es.find? (fun e=>e.key.isStr name)=es.toList.find? (fun e=>e.key.isStr name):=by rw [Array.find?_toList]
 rw [e]
 cases q:es.toList.find? (fun e=>e.key.isStr name) with
 | some e=>rfl
 | none =>
  dsimp only
  rw [if_neg]
  ·rfl
  ·rw [Bool.not_eq_true,List.any_eq_false]
   intro e he
   obtain ⟨n,t,hn⟩:=hk e (by simpa using he)
   unfold DictEntry.refKey
   rw [hn]
   exact Xw0
def XrL(m:List (Str × AV))(Z:Frz)(o:Obj):Prop:=∃ f:Str->Option Value,(∃ es ep,o.data = .dict es ep/\StrKeys es/\UniqKeys es/\∀ n,nsFind es n=f n)/\∀ x,OptVal Z (m.lookup x) (f x)
theorem Xpo{m:List (Str × AV)}(Z Z':Frz)(o:Obj)(k:Frz.le Z Z')(x:XrL m Z o):XrL m Z' o:=let ⟨f,a,b⟩:=x;⟨f,a,fun y=>(b y).mono k⟩
abbrev X7(m:List (Str × AV)):AObj := .obj (XrL m) Xpo
theorem XiX{m:List (Str × AV)}{x:Str}(h:m.lookup x≠none):x∈m.map (·.1):=by
 induction m with
 | nil=>exact absurd rfl h
 | cons p l ih =>
  rw [XwB] at h
  cases q:(x == p.1) with
  | true=>rw [beq_iff_eq.mp q];simp
  | false=>rw [q] at h;exact Xwh _ (ih h)
structure ClsOk (K:Frag) (C:XwR):Prop where
 ga:findIn K (.ref C) "__getattribute__" = some (some (.builtin "object.__getattribute__"))
 gt:findIn K (.ref C) "__getattr__" = some none
 sa:findIn K (.ref C) "__setattr__" = some (some (.builtin "object.__setattr__"))
 plain:plainOver K C=true
 cd:∃ c,clsIn K C=some c/\c.hasDict=true
def AV.handed:AV->Bool
 | .blt _=>false
 | .any=>false
 | _=>true
theorem Val.handed{Z:Frz}{v:AV}{x:Value}(h:Val Z v x)(e:v.handed=true):handedIn x=true:=by
 cases h <;> first | rfl | cases e
theorem Xh4{s:Xwl}{Z:Frz}{a C d:XwR}{od:Obj}(fr:∀ a o,Z a=some o->s.heap.get? a=some o)(e:Z a=some {cls := .ref C,dict:=some d,data := .plain})(hd:s.heap.get? d=some od) :
  InstAt s.heap a {cls := .ref C,dict:=some d,data := .plain} C (some od):=⟨fr _ _ e,rfl,rfl,hd⟩
theorem Xhs{C d:XwR}{name:Str}{m:List (Str × AV)}{v:AV}{st:St}{expr:Bool}{R:AV->St->Prop}(ok:ClsOk K C)(hn:findIn K (.ref C) name=some none)(hm:(d,X7 m)∈st.led)(hv:m.lookup name=some v)(hh:v.handed=true)
  (h:R v st):F1 prog w A (Xg K) env Val (fun x=>getAttr x name expr) (.inst C d) st R:=fun s Z x V S Q E hQ=>by
 cases V with
 | inst e =>
  obtain ⟨od,hod,f,⟨es,ep,hdata,hkeys,huniq,hf⟩,hr⟩:=S.own _ hm
  dsimp only at hod
  have I:=Xh4 S.frozen e hod
  have hrx:=hr name
  rw [hv] at hrx
  obtain ⟨c,hc,hdct⟩:=ok.cd
  cases hfx:f name with
  | none =>
   rw [hfx] at hrx
   cases hrx
   cases hh
  | some u =>
   rw [hfx] at hrx
   have V:Val Z v u:=by
    cases hrx with
    | some h=>exact h
    | any=>cases hh
   refine get_value (K:=K) (XT S.base S.frozen) I ok.ga (v:=u) ?_ (V.handed hh) (hQ v u _ Z st h (S.toks _) V (.toks _))
   unfold findObj
   rw [hc,hn]
   simp only [Option.bind_some]
   unfold ownOf
   rw [hdct,if_pos rfl]
   dsimp only
   rw [Xix hdata hkeys,hf,hfx]
   rfl
theorem Xhr{C d:XwR}{name:Str}{m m':List (Str × AV)}{v:AV}{st:St}{led':Led}{R:Unit->St->Prop}(ok:ClsOk K C)(ht:takerIn K C name=some none)(hm:XaQ m name v=m')(hsz:m'.length<=1000)(U:Upd d (X7 m) (X7 m') st.led led')
  (h:R () ⟨st.loc,led'⟩):F2 prog w A (Xg K) env XE (fun x y=>setAttr x name y) (.inst C d) v st R:=fun s Z x y V V' S Q E hQ=>by
 cases V with
 | @inst a _ _ e =>
  subst hm
  obtain ⟨od,hod,f,⟨es,ep,hdata,hkeys,huniq,hf⟩,hr⟩:=S.own _ U.mem
  dsimp only at hod
  have hns:s.heap.Ns1 d f:=⟨od,es,ep,hod,hdata,hkeys,huniq,hf⟩
  have X:=XT S.base S.frozen
  have I:=Xh4 S.frozen e hod
  obtain ⟨c,hc,hdct⟩:=ok.cd
  refine set_plain (K:=K) X I ok.sa ?_
  refine osa_open (s:={ s with toks:=s.toks+1}) X I ok.plain ht fun b=>?_
  refine Xwe (Xwg (Xwe (Xwe (wpAny_loadPart I.at_ (Xwe (looks_clsIn X hc _ _ _ _ (fun _ _ e=>e) ?_))))))
  rw [hdct]
  refine Xwg (a:=some d) (Xwe (Xwg (Xwe ?_)))
  refine wpAny_nsSet1 (s:={ s with toks:=s.toks+1}) hns fun h' hn' hsb=>?_
  have hr':∀ z,OptVal Z ((XaQ m name v).lookup z) (if z=name then some y else f z):=fun z=>by
   rw [XcC]
   by_cases q:z=name
   ·simp only [q,if_true];exact .some V'
   ·simp only [q,if_false];exact hr z
  have hw:Within (fun z=>if z=name then some y else f z) ((XaQ m name v).map (·.1)):=fun z hz=>XiX fun e=>by
   have:=hr' z
   rw [e] at this
   have hz':(if z=name then some y else f z)≠none:=hz
   revert hz' this
   generalize (if z=name then some y else f z)=q
   intro this hz'
   cases this
   exact hz' rfl
  obtain ⟨o',es',ep',ho',hd',hc'⟩:=hn'.count hw
  have hline:o'.data.pastItsLine=none:=by
   rw [hd']
   refine pastItsLine_dict ?_
   rw [Xwi] at hc'
   have h1000:(1000:Nat)<=XwZ:=by decide
   omega
  refine Xwe (wpAny_lookBehind (s:={ s with heap:=h',toks:=s.toks+1+1}) ho' hline (Xwg ?_))
  obtain ⟨o2,es2,ep2,ho2,hd2,hk2,hu2,hf2⟩:=hn'
  have P:=S.toSimL.upd U (h':=h') (tk:=s.toks+1+1) (fun b ob hb e=>hsb.extBut b ob hb e) rfl rfl ⟨o2,ho2,_,⟨es2,ep2,hd2,hk2,hu2,hf2⟩,hr'⟩
  exact hQ () () _ Z _ h (S.after P.1 P.2) trivial P.2.toF
end
section
variable{prog:Xwx}{w:XwE}{A:Xww}{B:Frz}{K:Frag}{env:Env}
theorem XkP{value:Expr}{attr:Str}{pos:Pos}{st:St}{R:AV->St->Prop}(hbase:attributeBase value attr env (Xxy value env)=Xxy value env)
  (h:T prog w A B env Val (Xxy value env) st fun v st₁=>F1 prog w A B env Val (fun x=>getAttr x attr true) v st₁ R):T prog w A B env Val (Xxy (.Attribute value attr pos) env) st R:=fun s Z S Q E hQ=>by
 rw [arm_eval_Attribute,hbase]
 exact Xwe (h s Z S _ _ fun v x s₁ Z₁ st₁ k₁ S₁ V₁ X₁=>Xwe (XwQ (Xwe (Xwt (k₁ s₁ Z₁ x V₁ S₁ _ _ fun u y s' Z' st' k S' V X =>
  Xwe (wpAny_letTemporaryGo (Xwg (hQ u y s' Z' st' k S' V (X₁.trans X)))))))))
theorem XeO{o:Expr}{attr:Str}{pos:Pos}{v:AV}{st:St}{R:Unit->St->Prop}
  (h:T prog w A B env Val (Xxy o env) st fun u st₁=>F2 prog w A B env XE (fun x y=>setAttr x attr y) u v st₁ R):F1 prog w A B env XE (XxG (.Attribute o attr pos) env) v st R:=fun s Z x V S Q E hQ=>by
 rw [arm_assign_Attribute]
 refine Xwe (Xwt (h s Z S _ _ fun u y s₁ Z₁ st₁ k₁ S₁ V₁ X₁=>Xwe (XwQ (Xwe (Xwt (k₁ s₁ Z₁ y x V₁ (V.mono X₁.le) S₁ _ _ fun _ _ s' Z' st' k S' _ X=>?_))))))
 exact PySem.wpAny_release (hQ () () s' Z' st' k S' trivial (X₁.trans X))
theorem XaI{o:Expr}{name:Str}{apos pos:Pos}{args:List Expr}{C f:XwR}{st:St}{R:AV->St->Prop}
  (hbase:attributeBase o name env (Xxy o env)=Xxy o env)
  (hfew:((Xyp pos (Xw9 args env)).all (fun x => !x.1) && (backToKw pos (keywordEach [] env)).all (fun x=>x.1.isSome)
   && decide (args.length+([]:List Keyword).length+(if ([]:List Keyword).isEmpty then 0 else 1)<30))=true)
  (hline:(apos.endLine == pos.line)=true) (ok:ClsOk K C) (hf:findIn K (.ref C) name=some (some (.ref f))) (ht:typeIn K (.ref f)=some (.type "function"))
  (h:T prog w A (Xg K) env Val (Xxy o env) st fun v st₁=>∃ d m,v = .inst C d/\(d,X7 m)∈st₁.led/\m.lookup name=none/\CA prog w A (Xg K) env pos (.ref f) [.inst C d] args st₁ R) :
  T prog w A (Xg K) env Val (Xxy (.Call (.Attribute o name apos) args [] pos) env) st R:=fun s Z S Q E hQ=>by
 rw [arm_eval_Call,hbase]
 refine Xwe (h s Z S _ _ fun v x s₁ Z₁ st₁ k₁ S₁ V₁ X₁=>Xwe (XwQ ?_))
 obtain ⟨d,m,rfl,hm,hl,hc⟩:=k₁
 have V₂:=V₁
 cases V₁ with
 | @inst a _ _ e =>
  obtain ⟨od,hod,g,⟨es,ep,hdata,hkeys,huniq,hg⟩,hr⟩:=S₁.own _ hm
  dsimp only at hod
  have I:=Xh4 S₁.frozen e hod
  have hr1:=hr name
  rw [hl] at hr1
  have hgn:g name=none:=by cases q:g name with | none=>rfl | some u=>rw [q] at hr1;cases hr1
  have hform:methodCallForm (args.length+([]:List Keyword).length) (Xyp pos (Xw9 args env)) (backToKw pos (keywordEach [] env))=true:=hfew
  have hpos:methodCallPos true o env apos pos=XxW pos:=by unfold methodCallPos;simp [hline]
  unfold methodCall
  rw [hform]
  refine Xwe (Xwt (method_fn (K:=K) (XT S₁.base S₁.frozen) I ok.ga ok.gt hf ht (by unfold shadowIn;dsimp only;rw [Xix hdata hkeys,hg,hgn];rfl) ?_))
  refine Xwe (Xxg hpos ?_)
  exact hc s₁ Z₁ (.ref f) [.ref a] (.ref f) (.cons V₂ .nil) S₁ _ _ fun v y s' Z' st' k S' V X=>hQ v y s' Z' st' k S' V (X₁.trans X)
theorem Xsq{C fI:XwR}{args:List AV}{kw:List (Str × AV)}{led:Led}{R:AV->Led->Prop}{k:Nat}(hA:Room A (k+1))(hmk:makesIn K C=true)(hi:findIn K (.ref C) "__init__" = some (some (.ref fI)))(hf:typeIn K (.ref fI)=some (.type "function"))
  (h:∀ d A',Room A' k->d∉keys led->TC prog w A' (Xg K) (.ref fI) (.inst C d::args) kw ((d,X7 [])::led) fun v led'=>v = .none/\R (.inst C d) led') :
  TC prog w A (Xg K) (.ref C) args kw led R:=fun s Z fx xs ks S hfx hx hkw Q hQ=>by
 cases hfx
 obtain ⟨hp,g,dr,t,os⟩:=s
 have X:=XT S.base S.frozen
 refine make_core (init := .ref fI) (makes_of X hmk) (looks_findIn X hi) (fun self=>bind_fn X self hf) (.inl rfl) ?_
 have P1:=S.push (o:=emptyDict) (ao:=X7 []) rfl t ⟨_,Xwp _ rfl,fun _=>none,⟨#[],0,rfl,fun _ h=>by simp at h,by unfold UniqKeys;simp,fun _=>rfl⟩,fun _ => .none⟩
 have P2:=P1.1.pushZ (o:=instObj C hp.objs.size) rfl t
 have hsz:(hp.push emptyDict).objs.size=hp.objs.size+1:=XyM ..
 have hV:Val (Frz.add Z (hp.push emptyDict).objs.size (instObj C hp.objs.size)) (.inst C hp.objs.size) (.ref (hp.objs.size+1)):=by rw [hsz];exact .inst (Frz.add_at ..)
 have X12:=P1.2.trans P2.2
 refine h hp.objs.size (A.under (.builtin "type.__call__" ⟨.ref C::xs,ks⟩)) ⟨hA.h,?_,?_⟩ S.lfresh _ _ (.ref fI) _ ks P2.1 (.ref fI) (.cons hV (hx.mono X12.le)) (hkw.mono X12.le) _ fun v x s' Z' led' k S' V X'=>?_
 ·have e:(Code.builtin "type.__call__" ⟨.ref C::xs,ks⟩).weight=1:=@_
  have:=hA.d
  show A.depth+(Code.builtin "type.__call__" ⟨.ref C::xs,ks⟩).weight+k<=_
  rw [e];omega
 ·have e:(Code.builtin "type.__call__" ⟨.ref C::xs,ks⟩).cUnits=1:=@_
  have:=hA.u
  show A.units+(Code.builtin "type.__call__" ⟨.ref C::xs,ks⟩).cUnits+k<=_
  rw [e];omega
 ·obtain ⟨rfl,k⟩:=k
  cases V
  exact ⟨rfl,hQ _ _ s' Z' led' k S' (hV.mono X'.le) (X12.trans X')⟩
end
section
variable{prog:Xwx}{w:XwE}{A:Xww}{B:Frz}{env:Env}{K:Type}[DecidableEq K]
inductive KV (Z:Frz):List (K × AV)->List (K × Value)->Prop
 | nil:KV Z [] []
 | cons {k:K} {v:AV} {x:Value} {l:List (K × AV)} {r:List (K × Value)}:Val Z v x->KV Z l r->KV Z ((k,v)::l) ((k,x)::r)
omit [DecidableEq K] in
theorem KV.mono{Z Z':Frz}(k:Frz.le Z Z'){l:List (K × AV)}{r:List (K × Value)}(h:KV Z l r):KV Z' l r:=by
 induction h with
 | nil=>exact .nil
 | cons v _ ih=>exact .cons (v.mono k) ih
omit [DecidableEq K] in
theorem KV.length{Z:Frz}{l:List (K × AV)}{r:List (K × Value)}(h:KV Z l r):r.length=l.length:=by
 induction h with
 | nil=>rfl
 | cons v _ ih=>rw [Xwn,Xwn,ih]
def Xz(m:List (K × AV))(k:K):Option AV:=(m.find? fun kv=>kv.1=k).map (·.2)
def Xbb(m:List (K × AV))(k:K)(v:AV):List (K × AV) :=
 if m.any (fun kv=>kv.1=k) then m.map (fun kv=>if kv.1=k then (kv.1,v) else kv) else m++[(k,v)]
theorem KV.find{Z:Frz}{l:List (K × AV)}{r:List (K × Value)}(h:KV Z l r)(k:K):(Xz l k=none/\valueAt r k=none)∨∃ v x,Xz l k=some v/\valueAt r k=some x/\Val Z v x:=by
 induction h with
 | nil=>exact .inl ⟨rfl,rfl⟩
 | @cons k' v x l r hv _ ih =>
  unfold Xz valueAt at *
  rw [Xx1,Xx1]
  by_cases e:k'=k
  ·simp only [e,decide_true]
   exact .inr ⟨v,x,rfl,rfl,hv⟩
  ·simp only [e,decide_false]
   exact ih
theorem KV.any{Z:Frz}{l:List (K × AV)}{r:List (K × Value)}(h:KV Z l r)(k:K):(r.any fun kv=>kv.1=k)=(l.any fun kv=>kv.1=k):=by
 induction h with
 | nil=>rfl
 | cons v _ ih=>rw [List.any_cons,List.any_cons,ih]
theorem KV.stored{Z:Frz}{l:List (K × AV)}{r:List (K × Value)}(h:KV Z l r){k:K}{v:AV}{x:Value}(hv:Val Z v x):KV Z (Xbb l k v) (PySem.stored r k x):=by
 unfold Xbb PySem.stored
 rw [h.any k]
 generalize (l.any fun kv=>kv.1=k)=b
 cases b with
 | true =>
  rw [if_pos rfl,if_pos rfl]
  induction h with
  | nil=>exact .nil
  | @cons k' v' x' l r hv' _ ih =>
   rw [Xwr,Xwr]
   dsimp only
   by_cases e:k'=k
   ·rw [if_pos e,if_pos e];exact .cons hv ih
   ·rw [if_neg e,if_neg e];exact .cons hv' ih
 | false =>
  rw [if_neg Xw0,if_neg Xw0]
  induction h with
  | nil=>exact .cons hv .nil
  | cons hv' _ ih=>exact .cons hv' ih
theorem XdY(l:List (K × AV))(k:K)(v:AV):(Xbb l k v).length<=l.length+1:=by
 unfold Xbb
 split
 ·rw [Xwi];omega
 ·rw [Xwo];exact XwN _
def Xes(knd:Xy4 prog w K)(m:List (K × AV))(Z:Frz)(o:Obj):Prop:=∃ es ep kvs,o.ExactDict/\o.data = .dict es ep/\KeysOf knd es/\Pairs knd es.toList kvs/\(kvs.map (·.1)).Nodup/\KV Z m kvs
theorem XcL{knd:Xy4 prog w K}{m:List (K × AV)}(Z Z':Frz)(o:Obj)(k:Frz.le Z Z')(x:Xes knd m Z o):Xes knd m Z' o :=
 let ⟨es,ep,kvs,a,b,c,d,e,f⟩:=x;⟨es,ep,kvs,a,b,c,d,e,f.mono k⟩
abbrev Xl(knd:Xy4 prog w K)(m:List (K × AV)):AObj := .obj (Xes knd m) XcL
theorem Xd5{knd:Xy4 prog w K}{m:List (K × AV)}{s:Xwl}{Z:Frz}{led:Led}{d:XwR}(S:SimL B s Z led)(h:(d,Xl knd m)∈led):∃ kvs,s.heap.DictOf knd d kvs/\KV Z m kvs:=by
 obtain ⟨o,ho,es,ep,kvs,a,b,c,e,f,g⟩:=S.own _ h
 exact ⟨kvs,⟨o,es,ep,ho,a,b,c,e,f⟩,g⟩
theorem Xd4{knd:Xy4 prog w K}{m:List (K × AV)}{s:Xwl}{Z:Frz}{d:XwR}{kvs:List (K × Value)}(h:s.heap.DictOf knd d kvs)(g:KV Z m kvs):Holds Z s d (Xl knd m):=by
 obtain ⟨o,es,ep,ho,a,b,c,e,f⟩:=h
 exact ⟨o,ho,es,ep,kvs,a,b,c,e,f,g⟩
theorem Xl4(i:Int):∀ Z x,Val Z (.int i) x->(XyD prog w).is i x=true:=fun Z x V=>by
 cases V
 show (decide _)=true
 simp
theorem Xfs(i:Str):∀ Z x,Val Z (.str i) x->(XwP prog w).is i x=true:=fun Z x V=>by
 cases V
 simp [XwP,Value.isStrOf]
theorem XtM{knd:Xy4 prog w K}{d:XwR}{m:List (K × AV)}{v dflt:AV}{k:K}{st:St}{R:AV->St->Prop}(hds:(d == Xx5)=false)(hk:∀ Z x,Val Z v x->knd.is k x=true)(hm:(d,Xl knd m)∈st.led)
  (h:R ((Xz m k).getD dflt) st):FC prog w A B env (.blt "dict.get") [.ref d,v,dflt] [] st R:=fun s Z fx xs ks hf hx hkw S Q E hQ=>by
 cases hf
 cases hkw
 cases hx with
 | cons h1 hx=>cases hx with
  | @cons _ xk _ _ h2 hx=>cases hx with
   | @cons _ xd _ _ h3 hx =>
    cases hx
    cases h1
    obtain ⟨kvs,hD,hKV⟩:=Xd5 S.toSimL hm
    refine call_meetsIn F.slot_dict_get hD.typeIs F.entry_dict_get (F.args_dict_get_3 _ _ _) (meets_dict_get_default knd d (hk Z xk h2) hds xd) ⟨_,hD.mapOf,?_⟩
    refine hQ _ _ _ Z st h (S.toks _) ?_ (.toks _)
    rcases hKV.find k with ⟨e1,e2⟩ | ⟨u,y,e1,e2,e3⟩
    ·rw [e1,e2];exact h3
    ·rw [e1,e2];exact e3
end
section
variable{prog:Xwx}{w:XwE}{A:Xww}{B:Frz}{env:Env}{K:Type}[DecidableEq K]
def F3(prog:Xwx)(w:XwE)(A:Xww)(B:Frz)(env:Env)(f:Value->Value->Value->Sem Unit)(v₁ v₂ v₃:AV)(st:St)(R:Unit->St->Prop):Prop :=
 ∀ (s:Xwl) (Z:Frz) (x₁ x₂ x₃:Value),Val Z v₁ x₁->Val Z v₂ x₂->Val Z v₃ x₃->SimF B env s Z st->∀ (Q:Unit->Xwl->Prop) (E:Value->Xwl->Prop),
  (∀ v x s' Z' st',R v st'->SimF B env s' Z' st'->XE Z' v x->Ext (Xk env st) s Z s' Z' (Xk env st')->Q x s')->XwG (XwD prog w) A (f x₁ x₂ x₃) Q E s
theorem XeN{o i:Expr}{pos:Pos}{v:AV}{st:St}{R:Unit->St->Prop}
  (h:T prog w A B env Val (Xxy o env) st fun u st₁=>T prog w A B env Val (Xxy i env) st₁ fun j st₂=>F3 prog w A B env setItem u j v st₂ R):F1 prog w A B env XE (XxG (.Subscript o i pos) env) v st R:=fun s Z x V S Q E hQ=>by
 rw [arm_assign_Subscript]
 refine Xwe (Xwt (h s Z S _ _ fun u y s₁ Z₁ st₁ k₁ S₁ V₁ X₁=>Xwe (Xwt (k₁ s₁ Z₁ S₁ _ _ fun j z s₂ Z₂ st₂ k₂ S₂ V₂ X₂=>Xwe (XwQ (Xwe (Xwt
  (k₂ s₂ Z₂ y z x (V₁.mono X₂.le) V₂ (V.mono (X₁.le.trans X₂.le)) S₂ _ _ fun _ _ s' Z' st' k S' _ X=>?_))))))))
 exact PySem.wpAny_release (hQ () () s' Z' st' k S' trivial ((X₁.trans X₂).trans X))
theorem Xho{knd:Xy4 prog w K}{d:XwR}{m m':List (K × AV)}{v u:AV}{k:K}{st:St}{led':Led}{R:Unit->St->Prop}(hk:∀ Z x,Val Z v x->knd.is k x=true)(hsz:m.length<=XwZ)(hm:Xbb m k u=m')
  (U:Upd d (Xl knd m) (Xl knd m') st.led led') (h:R () ⟨st.loc,led'⟩):F3 prog w A B env setItem (.ref d) v u st R:=fun s Z x₁ x₂ x₃ V₁ V₂ V₃ S Q E hQ=>by
 cases V₁
 subst hm
 obtain ⟨kvs,hD,hKV⟩:=Xd5 S.toSimL U.mem
 refine wpAny_setItem_pairs (hk Z x₂ V₂) hD (fun h' hD' hs'=>?_) (by rw [hKV.length];exact hsz)
 have P:=S.toSimL.upd U (h':=h') (tk:=s.toks+1) (fun b ob hb e=>hs'.extBut b ob hb e) rfl rfl (Xd4 hD' (hKV.stored V₃))
 exact hQ () () _ Z _ h (S.after P.1 P.2) trivial P.2.toF
theorem Xfp{knd:Xy4 prog w K}{d:XwR}{m:List (K × AV)}{v u:AV}{k:K}{st:St}{R:AV->St->Prop}(hk:∀ Z x,Val Z v x->knd.is k x=true)(hm:(d,Xl knd m)∈st.led)(hu:Xz m k=some u)
  (h:R u st):F2 prog w A B env Val getItem (.ref d) v st R:=fun s Z x₁ x₂ V₁ V₂ S Q E hQ=>by
 cases V₁
 obtain ⟨kvs,hD,hKV⟩:=Xd5 S.toSimL hm
 rcases hKV.find k with ⟨e1,e2⟩ | ⟨u',y,e1,e2,e3⟩
 ·rw [hu] at e1;cases e1
 ·rw [hu] at e1
  cases e1
  exact wpAny_getItem_of (hk Z x₂ V₂) hD.mapOf e2 (hQ _ _ _ Z st h (S.toks _) e3 (.toks _))
theorem XcQ{s:Xwl}{E:Value->Xwl->Prop}{knd:Xy4 prog w K}{d:XwR}{kvs:List (K × Value)}{k:K}{key dflt:Value}{Q:Value->Xwl->Prop}(hkey:knd.is k key=true)(hm:s.heap.DictOf knd d kvs)
  (hthere:∀ v,valueAt kvs k=some v->Q v {s with toks:=s.toks+1})
  (hnew:valueAt kvs k=none->∀ h',h'.DictOf knd d (kvs++[(k,dflt)])->XwO d s.heap h'->Q dflt {s with heap:=h',toks:=s.toks+1})
  (hsz:kvs.length<=XwZ):XwG (XwD prog w) A (dictSetDefault d key dflt) Q E s:=by
 have hmap:=hm.mapOf
 obtain ⟨o,es,ep,ho,hc,hd,hk,hp,hn⟩:=hm
 have hes:es.size<=XwZ:=by
  have e1:=hp.length
  have e2:es.toList.length=es.size:=by simp
  omega
 have hidx:(es.findIdx? fun e=>knd.is k e.key)=kvs.findIdx? fun kv=>decide (kv.1=k):=by
  rw [← hp.findIdx k];obtain ⟨l⟩:=es;simp
 have hf:findBy knd.is es k=valueAt kvs k:=by
  rw [← hp.find k]
  unfold findBy
  obtain ⟨l⟩:=es
  simp
 unfold dictSetDefault
 try with_reducible refine Xwt ?_
 refine Xwe (knd.pyHash hkey ?_)
 refine Xwe (wpAny_dictFind_of (s:={ s with toks:=s.toks+1}) hkey ho hd hk ?_)
 cases hi:es.findIdx? fun e=>knd.is k e.key with
 | some i =>
  have hfk:valueAt kvs k=(es[i]?).map (·.val):=by rw [← hf,findBy_of_findIdx?,hi]
  refine Xwe (wpAny_dictEntries (s:={ s with toks:=s.toks+1}) ho hd ?_)
  cases he:es[i]? with
  | none =>
   exfalso
   have:=Array.findIdx?_eq_some_iff_findIdx_eq.mp hi
   have hlt:i<es.size:=this.1
   rw [XxK hlt] at he
   exact nomatch he
  | some e =>
   rw [he] at hfk
   exact Xwe (XxC (Xwg (hthere e.val hfk)))
 | none =>
  have hfk:valueAt kvs k=none:=by rw [← hf,findBy_of_findIdx?,hi]
  have hnot:k∉kvs.map (·.1):=not_mem_of_findIdx_none (hidx ▸ hi)
  refine Xwe (XxC (Xwe (wpAny_updateDictKeys (hz:=hes) (s:={ s with toks:=s.toks+1}) ho hd (Xwg (hnew hfk _ ⟨_,_,ep+1,XwW _ ho (Obj.isFreed_of_dict (Obj.data_mapDictKeys hd _)),
   hc.mapDictKeys _,Obj.data_mapDictKeys hd _,hk.push hkey _,?_,?_⟩ (XwT ..))))))
  ·have:=hp.append hkey (knd.hash k) dflt
   obtain ⟨l⟩:=es
   simpa using this
  ·rw [XwH,List.nodup_append]
   refine ⟨hn,by simp,?_⟩
   intro a ha b hb
   simp only [Xwr,XyC,Xwy] at hb
   subst hb
   exact fun e=>hnot (e ▸ ha)
end
section
variable{prog:Xwx}{w:XwE}{A:Xww}{B:Frz}{env:Env}{K:Type}[DecidableEq K]
theorem XdN(knd:Xy4 prog w K){d:XwR}{k:K}{key:Value}(hkey:knd.is k key=true)(hd:(d == Xx5)=false)(dflt:Value) :
  MeetsIn prog w (Builtin.«dict.setdefault» ⟨[.ref d,key,dflt],[]⟩) (fun _ R s=>∃ kvs,s.heap.DictOf knd d kvs/\kvs.length<=XwZ /\
   (∀ v,valueAt kvs k=some v->R (.ok (.ret v)) {s with toks:=s.toks+1}) /\
   (valueAt kvs k=none->∀ h',h'.DictOf knd d (kvs++[(k,dflt)])->XwO d s.heap h'->R (.ok (.ret dflt)) {s with heap:=h',toks:=s.toks+1})) :=
 .of_wp fun A R s ⟨kvs,hm,hz,h1,h2⟩=>by
  unfold Builtin.«dict.setdefault»
  refine Xwe ?_
  unfold Builtin.Dict.keyAndDefault
  refine Xwe (wpAny_notOrdered_dict hm.typeIs ?_)
  show XwG _ _ (XxW (d,key,some dflt)) _ _ s
  refine Xwg ?_
  show XwG _ _ (if (d == Xx5)=true then _ else (dictSetDefault d key dflt >>= _)) _ _ s
  rw [if_neg (by rw [hd];exact Xw0)]
  exact Xwe (XcQ hkey hm (fun v hv=>Xwg ⟨v,rfl,h1 v hv⟩) (fun hn h' hm' hs'=>Xwg ⟨dflt,rfl,h2 hn h' hm' hs'⟩) hz)
omit [DecidableEq K] in
theorem KV.snoc{Z:Frz}{l:List (K × AV)}{r:List (K × Value)}(h:KV Z l r){k:K}{v:AV}{x:Value}(hv:Val Z v x):KV Z (l++[(k,v)]) (r++[(k,x)]):=by
 induction h with
 | nil=>exact .cons hv .nil
 | cons hv' _ ih=>exact .cons hv' ih
theorem Xi9{knd:Xy4 prog w K}{d:XwR}{m:List (K × AV)}{v u:AV}{k:K}{st:St}{led':Led}{R:AV->St->Prop}(hds:(d == Xx5)=false)(hk:∀ Z x,Val Z v x->knd.is k x=true)(hsz:m.length<=XwZ)
  (U:Upd d (Xl knd m) (Xl knd (m++[(k,u)])) st.led led') (h1:∀ x,Xz m k=some x->R x st) (h2:Xz m k=none->R u ⟨st.loc,led'⟩) :
  FC prog w A B env (.blt "dict.setdefault") [.ref d,v,u] [] st R:=fun s Z fx xs ks hf hx hkw S Q E hQ=>by
 cases hf
 cases hkw
 cases hx with
 | cons g1 hx=>cases hx with
  | @cons _ xk _ _ g2 hx=>cases hx with
   | @cons _ xd _ _ g3 hx =>
    cases hx
    cases g1
    obtain ⟨kvs,hD,hKV⟩:=Xd5 S.toSimL U.mem
    refine call_meetsIn F.slot_dict_setdefault hD.typeIs F.entry_dict_setdefault (F.args_dict_setdefault_3 _ _ _) (XdN knd (hk Z xk g2) hds xd) ⟨kvs,hD,by rw [hKV.length];exact hsz,fun y hy=>?_,fun hn h' hD' hs'=>?_⟩
    ·rcases hKV.find k with ⟨e1,e2⟩ | ⟨u',y',e1,e2,e3⟩
     ·rw [hy] at e2;cases e2
     ·rw [hy] at e2
      cases e2
      exact hQ _ _ _ Z st (h1 _ e1) (S.toks _) e3 (.toks _)
    ·rcases hKV.find k with ⟨e1,e2⟩ | ⟨u',y',e1,e2,e3⟩
     ·have P:=S.toSimL.upd U (h':=h') (tk:=s.toks+1) (fun b ob hb e=>hs'.extBut b ob hb e) rfl rfl (Xd4 hD' (hKV.snoc g3))
      exact hQ _ _ _ Z _ (h2 e1) (S.after P.1 P.2) g3 P.2.toF
     ·rw [hn] at e2;cases e2
end
section
variable{prog:Xwx}{w:XwE}{A:Xww}{B:Frz}{env:Env}{N:Led}
def Xfu:Nat->List AV->List AV
 | _,[]=>[]
 | i,x::xs => .tup [.int i,x]::Xfu (i+1) xs
def enP(it:XwR)(i:Nat)(_:Frz)(o:Obj):Prop:=∃ old,o={ cls := .type "enumerate",dict:=none,data := .fields #[.none,.bool false,.ref it,Xxw i,.none,old],slots := #[]}
def enI(xs:List AV)(i:Nat)(Z:Frz)(o:Obj):Prop:=∃ l items n,o.cls = .type "list_iterator" /\ o.data = .fields #[.ref l,.int i 0]/\Z l=some {cls := .type "list",data := .seq (items:List Value).toArray n}/\Vals Z xs items
theorem Xr8{it:XwR}{i:Nat}(Z Z':Frz)(o:Obj)(k:Frz.le Z Z')(x:enP it i Z o):enP it i Z' o:=x
theorem Xdr{xs:List AV}{i:Nat}(Z Z':Frz)(o:Obj)(k:Frz.le Z Z')(x:enI xs i Z o):enI xs i Z' o:=let ⟨l,its,n,a,b,c,d⟩:=x;⟨l,its,n,a,b,k _ _ c,d.mono k⟩
abbrev enL(e it:XwR)(xs:List AV)(i:Nat):Led:=[(e,.obj (enP it i) Xr8),(it,.obj (enI xs i) Xdr)]
theorem IterOk.enum{elts:List Expr}{x1:Nat}{tpos:Pos}{e it:XwR}{xs:List AV}(k:Nat):∀ (d i:Nat),i+d=xs.length->IterOk prog w B N k (.Tuple elts x1 tpos) e (Xfu i (xs.drop i)) (enL e it xs i)
 | 0,i,hi=>by
  rw [XxI nofun]
  intro A hA led hN s Z S Q E hQ
  obtain ⟨oe,hoe,old,rfl⟩:=S.own _ (Xwf ..)
  obtain ⟨oi,hoi,l,items,n,hc,hd,hz,hv⟩:=S.own _ (Xwh _ (Xwf ..))
  dsimp only at hoe hoi
  have hl:s.heap.IsList l items.toArray:=⟨_,S.frozen _ _ hz,rfl,n,rfl⟩
  refine wpAny_pyNext_enum_end hA.h hoe ⟨oi,hoi,hc,hd⟩ hl (by simp [hv.length];omega) fun h' hx=>?_
  have keep:∀ b o,b≠it->s.heap.get? b=some o->h'.get? b=some o:=fun b o hb q=>hx b o hb q
  have nd:=S.nodup
  have hZ:Z it=none:=S.apart _ (Xwh _ (Xwf ..))
  have hnl:it∉keys led:=(Xwz.mp (Xwz.mp nd).2).1
  have S2:SimL B s Z led:=S.drop (l:=enL e it xs i)
  refine hQ _ Z ⟨S.base,fun a o q=>keep a o (fun z=>by rw [z,hZ] at q;cases q) (S.frozen a o q),S2.nodup,S2.apart,fun p hp=>Holds.mono (s:=s) (.refl _) (fun o q=>keep _ o (fun z=>hnl (z ▸ XwC hp)) q) (fun _ _ _ q=>q) (S2.own p hp),S2.gnodup,S2.bare⟩
   ⟨.refl _,fun a o q ha=>keep a o (fun z=>ha (z ▸ Xwh _ (Xwf ..))) q,fun a ha => .inl (Xwh _ (Xwh _ ha)),fun _ _ q => .inl q,rfl,fun _ _ q _=>q,fun _ h => .inl h⟩
 | d+1,i,hi=>by
  have hlt:i<xs.length:=by omega
  rw [XxJ hlt]
  intro A hA led hN s Z S Q E hQ
  obtain ⟨oe,hoe,old,rfl⟩:=S.own _ (Xwf ..)
  obtain ⟨oi,hoi,l,items,n,hc,hd,hz,hv⟩:=S.own _ (Xwh _ (Xwf ..))
  dsimp only at hoe hoi
  have hl:s.heap.IsList l items.toArray:=⟨_,S.frozen _ _ hz,rfl,n,rfl⟩
  have nd:=S.nodup
  have hei:e≠it:=fun q=>(Xwz.mp nd).1 (q ▸ Xwf ..)
  obtain ⟨u,hu,hV⟩:=hv.get (XwI hlt)
  refine wpAny_pyNext_enum_item hoe ⟨oi,hoi,hc,hd⟩ hl (x:=u) (by simpa using hu) hei fun h' ho hit' hT hsz hk=>?_
  refine wpAny_letOwnedTupleGo_enum ho fun h'' he'' hs''=>?_
  have hZe:Z e=none:=S.apart _ (Xwf ..)
  have hZi:Z it=none:=S.apart _ (Xwh _ (Xwf ..))
  have hne:e∉keys led:=fun q=>(Xwz.mp nd).1 (Xwh _ q)
  have hni:it∉keys led:=(Xwz.mp (Xwz.mp nd).2).1
  have S2:SimL B s Z led:=S.drop (l:=enL e it xs i)
  have keep:∀ b o,b≠e->b≠it->s.heap.get? b=some o->h''.get? b=some o:=fun b o h1 h2 q=>(hs''.2 b h1).trans (hk b o h1 h2 q)
  have le:=Frz.le_add (o:={ cls := .type "tuple",data := .seq #[.int i s.toks,u]}) S2.zfresh
  have hTe:s.heap.objs.size≠e:=fun q=>by have:=Xw7 hoe;rw [q] at this;exact Xx8 _ this
  have hTi:s.heap.objs.size≠it:=fun q=>by have:=Xw7 hoi;rw [q] at this;exact Xx8 _ this
  obtain ⟨oi',hoi',hc',hd'⟩:=hit'
  have fro:∀ a o,Z.add s.heap.objs.size {cls := .type "tuple",data := .seq #[.int i s.toks,u]} a=some o->h''.get? a=some o:=fun a o q=>by
   unfold Frz.add at q
   by_cases z:a=s.heap.objs.size
   ·rw [if_pos z] at q
    cases q
    rw [z]
    exact (hs''.2 _ hTe).trans hT
   ·rw [if_neg z] at q
    exact keep a o (fun y=>by rw [y,hZe] at q;cases q) (fun y=>by rw [y,hZi] at q;cases q) (S.frozen a o q)
  have apz:∀ a,a∈keys (enL e it xs (i+1)++led)->Z.add s.heap.objs.size {cls := .type "tuple",data := .seq #[.int i s.toks,u]} a=none:=fun a ha=>by
   have ha':a∈keys (enL e it xs i++led):=ha
   have hn:a≠s.heap.objs.size:=fun y=>S.lfresh (y ▸ ha')
   unfold Frz.add
   rw [if_neg hn]
   obtain ⟨p,hp,rfl⟩:=XwJ.mp ha'
   exact S.apart p hp
  refine hQ _ (Z.add s.heap.objs.size {cls := .type "tuple",data := .seq #[.int i s.toks,u]}) _ (enL e it xs (i+1)) ⟨S.base.trans le,fro,S.nodup,fun p hp=>apz _ (XwC hp),fun p hp=>?_,S.gnodup,S.bare⟩
   (.tup (items:=[.int i s.toks,u]) (Frz.add_at ..) (.cons (.int _ _) (.cons (hV.mono le) .nil)))
   ⟨le,fun a o q ha=>keep a o (fun y=>ha (y ▸ Xwf ..)) (fun y=>ha (y ▸ Xwh _ (Xwf ..))) q,fun a ha => .inl ha,fun a o q=>?_,rfl,fun _ _ q _=>q,fun _ h => .inl h⟩
   (IterOk.enum k d (i+1) nofun)
  ·rcases Xwm.mp hp with rfl | hp
   ·exact ⟨_,he'',_,rfl⟩
   ·rcases Xwm.mp hp with rfl | hp
    ·exact ⟨oi',(hs''.2 it hei.symm).trans hoi',l,items,n,hc',hd',le _ _ hz,hv.mono le⟩
    ·exact Holds.mono (s:=s) le (fun o q=>keep _ o (fun y=>hne (y ▸ XwC hp)) (fun y=>hni (y ▸ XwC hp)) q) (fun _ _ _ q=>q) (S2.own p hp)
  ·unfold Frz.add at q
   by_cases y:a=s.heap.objs.size
   ·exact .inr (.inr (y ▸ XbH s))
   ·rw [if_neg y] at q;exact .inl q
end
section
variable{prog:Xwx}{w:XwE}{A:Xww}{B:Frz}{env:Env}{N:Led}
theorem XpS{a b:Int}{st:St}{R:AV->St->Prop}(h:R (.rng a b) st):FC prog w A B env (.typ "range") [.int a,.int b] [] st R:=fun s Z fx xs ks hf hx hk S Q E hQ=>by
 cases hf
 cases hk
 cases hx with
 | cons h1 hx=>cases hx with
  | cons h2 hx =>
   cases hx
   cases h1
   cases h2
   rename_i t1 t2
   refine call_range_2 ?_
   have P:=S.toSimL.pushZ (o:={ cls := .type "range",data := .fields #[.int a t1,.int b t2,.int 1 s.toks]}) rfl (s.toks+1)
   exact hQ _ _ _ _ _ h (S.after P.1 P.2) (.rng (Frz.add_at ..)) P.2.toF
theorem XpT{b:Int}{st:St}{R:AV->St->Prop}(h:R (.rng 0 b) st):FC prog w A B env (.typ "range") [.int b] [] st R:=fun s Z fx xs ks hf hx hk S Q E hQ=>by
 cases hf
 cases hk
 cases hx with
 | cons h1 hx =>
  cases hx
  cases h1
  rename_i t1
  refine call_range_1 ?_
  have P:=S.toSimL.pushZ (o:={ cls := .type "range",data := .fields #[.int 0 s.toks,.int b t1,.int 1 (s.toks+1)]}) rfl (s.toks+1+1)
  exact hQ _ _ _ _ _ h (S.after P.1 P.2) (.rng (Frz.add_at ..)) P.2.toF
def Xbw(a b:Int):List AV:=(List.range (b - a).toNat).map fun (i:Nat) => .int (a+(i:Int))
theorem XfF{target:Expr}{I:XwR}{x l c:Int}{A:Xww}{s:Xwl}{v:Value}{Q:Unit->Xwl->Prop}{E:Value->Xwl->Prop}(ho:IsRangeIter s.heap I x l c)(hQ:Q () s) :
  XwG (XwD prog w) A (Xxi target (.ref I) v) Q E s:=by
 unfold Xxi
 split
 all_goals first
  | exact Xwg hQ
  | (cases v <;> first
    | exact Xwg hQ
    | (refine Xwe (wpAny_load ho ?_);dsimp only;rw [if_neg (by simp)];exact Xwg hQ))
theorem XlW{a b:Int}{target:Expr}{st:St}{k:Nat}{R:AV->St->Prop}(ha : -(2 ^ 62)<=a)(ha':a<2 ^ 62)(hb : -(2 ^ 62)<=b)(hb':b<2 ^ 62)
  (h:∀ it gl,IterOk prog w B N k target it (Xbw a b) gl->R (.ref it) ⟨st.loc,gl++st.led⟩):F1 prog w A B env Val pyIter (.rng a b) st R:=fun s Z x V S Q E hQ=>by
 cases V with
 | @rng r _ _ t u v e =>
  refine wpAny_pyIter_range (S.frozen _ _ e) (small_one ha ha' hb hb') ?_
  have hlen:(Xbw a b).length=(b - a).toNat:=by unfold Xbw;rw [Xwi,List.length_range]
  have hsz:Builtin.Range.rangeSize a b 1=((b - a).toNat:Int):=by
   rw [rangeSize_one]
   split <;> omega
  rw [hsz]
  have P:=S.toSimL.push (o:={ cls := .type "range_iterator",data := .fields #[Xxw a,Xxw ((b - a).toNat:Int),Xxw 1]})
   (ao:=itE s.heap.objs.size [s.heap.objs.size] (fun i v=>∃ t,v = .int (a+i * 1) t) (Xbw a b) (fun i h=>IsRangeIter h s.heap.objs.size (a+(i:Nat) * 1) (((b - a).toNat:Int) - (i:Nat)) 1) 0) rfl s.toks
   ⟨_,Xwp _ rfl,fun c hc => .inl (by simpa using hc),fun i y v h1 h2=>by
    obtain ⟨t,rfl⟩:=h2
    unfold Xbw at h1
    rw [Xw1] at h1
    obtain ⟨j,hj,rfl⟩:=Xxv.mp h1
    have hj':j=i:=by
     obtain ⟨h1,h2⟩:=Xyw.mp hj
     rw [← h2,List.getElem_range]
    rw [hj',Int.mul_one]
    exact .int _ _,fun h e1 e2=>by
    show h.get? s.heap.objs.size=_
    rw [e1]
    simp⟩
  refine hQ _ _ _ Z _ (h s.heap.objs.size _ (IterOk.walks (prog:=prog) (w:=w) (B:=B) (target:=target) (xs:=Xbw a b) (fun A hA=>by rw [hlen];exact Walks.range hA s.heap.objs.size a 1 (b - a).toNat) (fun A i s v Q E hst hq=>XfF hst hq) (fun i h hst=>⟨_,hst⟩) k (Xbw a b).length 0 nofun)) (S.after P.1 P.2) (.ref _) P.2.toF
end
section
variable{prog:Xwx}{w:XwE}{A:Xww}{B:Frz}{env:Env}
theorem SimL.freeze{s:Xwl}{Z:Frz}{a:XwR}{xs:List AV}{led:Led}(S:SimL B s Z ((a,.list xs)::led)):∃ Z',SimL B s Z' led/\Val Z' (.lst xs) (.ref a)/\Frz.le Z Z'/\Ext (Xh ((a,.list xs)::led)) s Z s Z' (Xh led):=by
 obtain ⟨items,n,g,v⟩:=S.own _ (Xwf ..)
 dsimp only at g
 have hZ:Z a=none:=S.apart _ (Xwf ..)
 have le:=Frz.le_add (o:={ cls := .type "list",data := .seq items n}) hZ
 have S1:=S.drop1
 have hal:a∉keys led:=(Xwz.mp S.nodup).1
 refine ⟨Z.add a {cls := .type "list",data := .seq items n},⟨S.base.trans le,fun b o e=>?_,S1.nodup,fun p hp=>?_,fun p hp=>(S1.own p hp).mono le (fun _ e=>e) (fun _ _ _ e=>e),S1.gnodup,S1.bare⟩,?_,le,
  ⟨le,fun _ _ e _=>e,fun b hb => .inl (Xwh _ hb),fun b o e=>?_,rfl,fun _ _ e _=>e,fun _ h => .inl h⟩⟩
 ·unfold Frz.add at e
  by_cases q:b=a
  ·rw [if_pos q] at e;cases e;rw [q];exact g
  ·rw [if_neg q] at e;exact S.frozen b o e
 ·have hn:p.1≠a:=fun q=>hal (q ▸ XwC hp)
  unfold Frz.add
  rw [if_neg hn]
  exact S1.apart p hp
 ·obtain ⟨l⟩:=items
  exact .lst (Frz.add_at ..) (v.mono le)
 ·unfold Frz.add at e
  by_cases q:b=a
  ·exact .inr (.inl (q ▸ Xwf ..))
  ·rw [if_neg q] at e;exact .inl e
inductive Recast (a:XwR) (xs:List AV):List (Str × AV)->List (Str × AV)->Prop
 | nil:Recast a xs [] []
 | keep {x:Str} {v:AV} {l l':List (Str × AV)}:Recast a xs l l'->Recast a xs ((x,v)::l) ((x,v)::l')
 | cast {x:Str} {l l':List (Str × AV)}:Recast a xs l l'->Recast a xs ((x,.ref a)::l) ((x,.lst xs)::l')
theorem Recast.look{a:XwR}{xs:List AV}{l l':List (Str × AV)}(h:Recast a xs l l')(y:Str):l'.lookup y=l.lookup y∨(l.lookup y=some (.ref a)/\l'.lookup y=some (.lst xs)):=by
 induction h with
 | nil=>exact .inl rfl
 | keep _ ih =>
  rw [XwB,XwB]
  split
  ·exact .inl rfl
  ·exact ih
 | cast _ ih =>
  rw [XwB,XwB]
  split
  ·exact .inr ⟨rfl,rfl⟩
  ·exact ih
theorem SimF.freeze{s:Xwl}{Z:Frz}{a:XwR}{xs:List AV}{led:Led}{loc loc':List (Str × AV)}(S:SimF B env s Z ⟨loc,(a,.list xs)::led⟩)(hr:Recast a xs loc loc') :
  ∃ Z',SimF B env s Z' ⟨loc',led⟩/\Val Z' (.lst xs) (.ref a)/\Ext (Xk env ⟨loc,(a,.list xs)::led⟩) s Z s Z' (Xk env ⟨loc',led⟩):=by
 obtain ⟨Z',S',V,le,X⟩:=S.toSimL.freeze
 have SF:=S.after S' X
 refine ⟨Z',⟨S',SF.locZ,SF.locL,?_,fun x v e=>?_,S.fn⟩,V,X.toF (st:=⟨loc,(a,.list xs)::led⟩)⟩
 ·obtain ⟨f,hn,hv⟩:=SF.loc
  refine ⟨f,hn,fun y=>?_⟩
  rcases hr.look y with h | ⟨h1,h2⟩
  ·show OptVal Z' (loc'.lookup y) (f y)
   rw [h];exact hv y
  ·show OptVal Z' (loc'.lookup y) (f y)
   have hy:=hv y
   dsimp only at hy
   rw [h1] at hy
   rw [h2]
   revert hy
   generalize f y=q
   intro hy
   cases hy with
   | some hy=>cases hy;exact .some V
 ·rcases hr.look x with h | ⟨h1,h2⟩
  ·exact S.kinds x v (by rw [← h];exact e)
  ·exact S.kinds x _ h1
theorem T.freeze{α β:Type}{rel:Frz->α->β->Prop}{t:Sem β}{a:XwR}{xs:List AV}{led:Led}{loc loc':List (Str × AV)}{K:α->St->Prop}(hr:Recast a xs loc loc')(h:T prog w A B env rel t ⟨loc',led⟩ K) :
  T prog w A B env rel t ⟨loc,(a,.list xs)::led⟩ K:=fun s Z S Q E hQ=>by
 obtain ⟨Z',S',V,X⟩:=S.freeze hr
 exact h s Z' S' Q E fun v x s' Z'' st' k S'' V' X'=>hQ v x s' Z'' st' k S'' V' (X.trans X')
end
section
variable{prog:Xwx}{w:XwE}{A:Xww}{B:Frz}{env:Env}{N:Led}
theorem XkX{xs:List AV}{st:St}{R:AV->St->Prop}(h:∀ e it,R (.ref e) ⟨st.loc,enL e it xs 0++st.led⟩):FC prog w A B env (.typ "enumerate") [.lst xs] [] st R:=fun s Z fx ys ks hf hx hk S Q E hQ=>by
 cases hf
 cases hk
 cases hx with
 | cons h1 hx =>
  cases hx
  cases h1 with
  | @lst a _ items n e hv =>
   refine call_enumerate_1 (S.frozen _ _ e) fun h' he hit hsz hk=>?_
   obtain ⟨oi,hoi,hc,hd⟩:=hit
   have L:=S.toSimL
   have fr1:∀ b o,s.heap.get? b=some o->b≠s.heap.objs.size/\b≠s.heap.objs.size+1:=fun b o q=>by
    have:=Xw7 q
    exact ⟨Xxu this,Xxu (Nat.lt_succ_of_lt this)⟩
   have hnl:∀ b∈keys st.led,b≠s.heap.objs.size/\b≠s.heap.objs.size+1:=fun b hb=>by
    obtain ⟨p,hp,rfl⟩:=XwJ.mp hb
    obtain ⟨ob,g⟩:=(L.own p hp).live
    exact fr1 _ _ g
   have hz:∀ b o,Z b=some o->b≠s.heap.objs.size/\b≠s.heap.objs.size+1:=fun b o q=>fr1 b o (L.frozen _ _ q)
   have none_at:∀ b,(b=s.heap.objs.size∨b=s.heap.objs.size+1)->Z b=none:=fun b hb=>by
    cases q:Z b with
    | none=>rfl
    | some o=>obtain ⟨q1,q2⟩:=hz b o q;rcases hb with hb | hb <;> contradiction
   have fresh2:∀ b,(b=s.heap.objs.size∨b=s.heap.objs.size+1)->s.heap.get? b=none:=fun b hb=>by
    cases q:s.heap.get? b with
    | none=>rfl
    | some o=>obtain ⟨q1,q2⟩:=fr1 b o q;rcases hb with hb | hb <;> contradiction
   have SL:SimL B {s with heap:=h' } Z (enL (s.heap.objs.size+1) s.heap.objs.size xs 0++st.led):=by
    refine ⟨L.base,fun b o q=>hk b o (L.frozen b o q),?_,fun p hp=>?_,fun p hp=>?_,L.gnodup,L.bare⟩
    ·refine Xwz.mpr ⟨fun q=>?_,Xwz.mpr ⟨fun q=>(hnl _ q).1 rfl,L.nodup⟩⟩
     rcases Xwm.mp q with q | q
     ·exact absurd q (Nat.ne_of_gt (Xym _))
     ·exact (hnl _ q).2 rfl
    ·rcases Xwm.mp hp with rfl | hp
     ·exact none_at _ (.inr rfl)
     ·rcases Xwm.mp hp with rfl | hp
      ·exact none_at _ (.inl rfl)
      ·exact L.apart p hp
    ·rcases Xwm.mp hp with rfl | hp
     ·exact ⟨_,he,_,rfl⟩
     ·rcases Xwm.mp hp with rfl | hp
      ·exact ⟨oi,hoi,a,items,n,hc,hd,e,hv⟩
      ·exact Holds.mono (s:=s) (.refl _) (fun o q=>hk _ o q) (fun _ _ _ q=>q) (L.own p hp)
   have X:Ext (Xh st.led) s Z {s with heap:=h' } Z (Xh (enL (s.heap.objs.size+1) s.heap.objs.size xs 0++st.led)):=by
    refine ⟨.refl _,fun b o q _=>hk b o q,fun b hb=>?_,fun _ _ q => .inl q,rfl,fun _ _ q _=>q,fun _ h => .inl h⟩
    rcases Xwm.mp hb with hb | hb
    ·exact .inr (fresh2 b (.inr hb))
    ·rcases Xwm.mp hb with hb | hb
     ·exact .inr (fresh2 b (.inl hb))
     ·exact .inl hb
   exact hQ _ _ _ Z _ (h (s.heap.objs.size+1) s.heap.objs.size) (S.after SL X) (.ref _) X.toF
theorem Xk2{elts:List Expr}{x1:Nat}{tpos:Pos}{e it:XwR}{xs:List AV}{led:Led}{loc:List (Str × AV)}{k:Nat}{R:AV->St->Prop}
  (h:IterOk prog w B N k (.Tuple elts x1 tpos) e (Xfu 0 xs) (enL e it xs 0)->R (.ref e) ⟨loc,enL e it xs 0++led⟩):F1 prog w A B env Val pyIter (.ref e) ⟨loc,enL e it xs 0++led⟩ R:=fun s Z x V S Q E hQ=>by
 cases V
 obtain ⟨oe,hoe,old,rfl⟩:=S.own _ (Xwf ..)
 dsimp only at hoe
 exact wpAny_pyIter_enum hoe (hQ _ _ s Z _ (h (IterOk.enum k xs.length 0 nofun)) S (.ref _) .refl)
end
section
variable{prog:Xwx}{w:XwE}{A:Xww}{B:Frz}{env:Env}
def AV.isNone:AV->Option Bool
 | .none=>some true
 | .any=>Option.none
 | .blt _=>Option.none
 | _=>some false
theorem Val.isNone{Z:Frz}{v:AV}{x:Value}{b:Bool}(h:Val Z v x)(e:v.isNone=some b):(x == Xxr)=b/\plainIs x .none=true:=by
 cases h <;> cases e <;> exact ⟨rfl,rfl⟩
theorem Xhp{v:AV}{b:Bool}{st:St}{R:AV->St->Prop}(hb:v.isNone=some b)(h:R (.bool b) st):F2 prog w A B env Val (Xyo .Is) v .none st R:=fun s Z x₁ x₂ V₁ V₂ S Q E hQ=>by
 cases V₂
 obtain ⟨h1,h2⟩:=V₁.isNone hb
 exact wpAny_is_plain h2 (by rw [h1];exact hQ _ _ s Z st h S (.bool b) .refl)
theorem Xja{v:AV}{b:Bool}{st:St}{R:AV->St->Prop}(hb:v.isNone=some b)(h:R (.bool (!b)) st):F2 prog w A B env Val (Xyo .IsNot) v .none st R:=fun s Z x₁ x₂ V₁ V₂ S Q E hQ=>by
 cases V₂
 obtain ⟨h1,h2⟩:=V₁.isNone hb
 exact wpAny_isNot_plain h2 (by rw [h1];exact hQ _ _ s Z st h S (.bool (!b)) .refl)
theorem Xij{st:St}{R:Bool->St->Prop}(h:R false st):F1 prog w A B env XQ truthy .none st R:=fun s Z x V S Q E hQ=>by
 cases V
 exact (fun _ _ _=>hQ false false s Z st h S rfl .refl:XwG (XwD prog w) A (truthy Xxr) Q E s)
end
section
variable{prog:Xwx}{w:XwE}{A:Xww}{B:Frz}{env:Env}
theorem XdX{t t':Value->Sem Unit}{ts:List (Value->Sem Unit)}{v:AV}{st:St}{R:Unit->St->Prop}(h:F1 prog w A B env XE t v st fun _ st'=>F1 prog w A B env XE (fun x=>assignAll x (t'::ts)) v st' R) :
  F1 prog w A B env XE (fun x=>assignAll x (t::t'::ts)) v st R:=fun s Z x V S Q E hQ =>
 Xwe (Xwt (h s Z x V S _ _ fun _ _ s₁ Z₁ st₁ k₁ S₁ _ X₁=>k₁ s₁ Z₁ x (V.mono X₁.le) S₁ _ _ fun v y s' Z' st' k S' V' X=>hQ v y s' Z' st' k S' V' (X₁.trans X)))
theorem Xfh{targets:List Expr}{value:Expr}{pos:Pos}{st:St}{R:AFlow->St->Prop}(hs:swapsWithSole targets value pos.line env=XxW false)(hw:swappedStores targets value env=XxW none)
  (h:T prog w A B env Val (Xxy value env) st fun v st₁=>F1 prog w A B env XE (fun x=>assignAll x ((XxP targets env).map (·.2))) v st₁ fun _ st₂=>R .next st₂) :
  T prog w A B env FVal (exec (.Assign targets value pos) env) st R:=fun s Z S Q E hQ=>by
 rw [arm_exec_Assign,hs]
 refine Xwe (XwQ (Xwe (Xwg ?_)))
 rw [if_neg Xw0]
 refine Xwe (h s Z S _ _ fun v x s₁ Z₁ st₁ k₁ S₁ V₁ X₁=>?_)
 rw [hw]
 refine Xwe (Xwg ?_)
 exact Xwe (k₁ s₁ Z₁ x V₁ S₁ _ _ fun _ _ s' Z' st' k S' _ X=>Xwg (hQ _ _ s' Z' st' k S' .next (X₁.trans X)))
theorem Xbj{t value:Expr}{pos:Pos}{st:St}{R:AFlow->St->Prop}(hs:swapsWithSole [t] value pos.line env=XxW false)(hw:swappedStores [t] value env=XxW none)(he:XxP [t] env=[(false,XxG t env)])
  (h:T prog w A B env Val (Xxy value env) st fun v st₁=>F1 prog w A B env XE (XxG t env) v st₁ fun _ st₂=>R .next st₂):T prog w A B env FVal (exec (.Assign [t] value pos) env) st R :=
 Xfh hs hw (by rw [he];exact h)
theorem Xox{t u value:Expr}{pos:Pos}{st:St}{R:AFlow->St->Prop}(hs:swapsWithSole [t,u] value pos.line env=XxW false)(hw:swappedStores [t,u] value env=XxW none)(he:XxP [t,u] env=[(false,XxG t env),(false,XxG u env)])
  (h:T prog w A B env Val (Xxy value env) st fun v st₁=>F1 prog w A B env XE (XxG t env) v st₁ fun _ st₂=>F1 prog w A B env XE (XxG u env) v st₂ fun _ st₃=>R .next st₃):T prog w A B env FVal (exec (.Assign [t,u] value pos) env) st R :=
 Xfh hs hw (by rw [he];exact h.mono fun v st' k=>XdX k)
theorem Vals.reverse{Z:Frz}:∀ {xs:List AV} {vs:List Value},Vals Z xs vs->Vals Z xs.reverse vs.reverse
 | _,_,.nil => .nil
 | _,_,.cons h t=>by rw [XwL,XwL];exact t.reverse.append (.cons h .nil)
theorem XeJ{targets:List Expr}{value:Expr}{pos:Pos}{st:St}{names:List Str}{R:AFlow->St->Prop}(hh:A.handled=none)(hs:swapsWithSole targets value pos.line env=XxW false)(hw:swappedStores targets value env=XxW (some names))
  (h:T prog w A B env Val (Xxy value env) st fun v st₁=>∃ vs,v = .tup vs/\vs.length=names.length/\FA prog w A B env (names.reverse.map fun n=>bindName env n) vs.reverse st₁ fun _ st₂=>R .next st₂) :
  T prog w A B env FVal (exec (.Assign targets value pos) env) st R:=fun s Z S Q E hQ=>by
 rw [arm_exec_Assign,hs]
 refine Xwe (XwQ (Xwe (Xwg ?_)))
 rw [if_neg Xw0]
 refine Xwe (h s Z S _ _ fun v x s₁ Z₁ st₁ k₁ S₁ V₁ X₁=>?_)
 rw [hw]
 refine Xwe (Xwg ?_)
 obtain ⟨vs,rfl,hl,k⟩:=k₁
 cases V₁ with
 | @tup a _ items n e hv =>
  show XwG _ A (rule _ >>= _) Q E s₁
  refine Xwe (XxC ?_)
  have hlen:names.length=items.toArray.size:=by rw [← hl,← hv.length];simp
  rw [hlen]
  refine Xwe (wpAny_unpackItems_tuple hh (items:=items.toArray) ⟨_,S₁.frozen _ _ e,rfl,n,rfl⟩ fun h' he=>?_)
  obtain ⟨S',X'⟩:=S₁.ext1 he
  refine Xwe (k _ Z₁ _ (by simpa using hv.reverse) S' _ _ fun _ _ s' Z' st' k S'' _ X=>Xwg (hQ _ _ s' Z' st' k S'' .next ((X₁.trans X').trans X)))
theorem Xd8{x:Str}{v:AV}{st:St}{R:Unit->St->Prop}(h:F1 prog w A B env XE (XyU env x) v st R):F1 prog w A B env XE (bindName env x) v st R:=fun s Z u V S Q E hQ=>wpAny_bindName (h s Z u V S Q E hQ)
end
section
variable{prog:Xwx}{w:XwE}{A:Xww}{B:Frz}{env:Env}
theorem SimF.drop1{s:Xwl}{Z:Frz}{loc:List (Str × AV)}{p:XwR × AObj}{led:Led}(S:SimF B env s Z ⟨loc,p::led⟩):SimF B env s Z ⟨loc,led⟩ :=
 ⟨S.toSimL.drop1,S.locZ,fun h=>S.locL (Xwh _ h),S.loc,S.kinds,S.fn⟩
theorem XiB{p:XwR × AObj}{led:Led}{g:Nat}(h:g∈gkeys led):g∈gkeys (p::led):=by
 unfold gkeys at *
 rw [XxA]
 split
 ·exact h
 ·exact Xwh _ h
theorem Ext.more{o₁ o₂ o:Own}{s s':Xwl}{Z Z':Frz}(X:Ext o₁ s Z s' Z' o)(h1:∀ a,o₁.at_ a->o₂.at_ a)(h2:∀ g,o₁.gn g->o₂.gn g):Ext o₂ s Z s' Z' o :=
 ⟨X.le,fun a ob e h=>X.kept a ob e fun q=>h (h1 a q),fun a h=>(X.grow a h).imp (h1 a) id,fun a ob e=>(X.zgrow a ob e).imp id (Or.imp (h1 a) id),X.os,fun g gs e h=>X.gkept g gs e fun q=>h (h2 g q),fun g h=>(X.ggrow g h).imp (h2 g) id⟩
theorem T.drop{α β:Type}{rel:Frz->α->β->Prop}{t:Sem β}{p:XwR × AObj}{led:Led}{loc:List (Str × AV)}{K:α->St->Prop}(h:T prog w A B env rel t ⟨loc,led⟩ K):T prog w A B env rel t ⟨loc,p::led⟩ K :=
 fun s Z S Q E hQ=>h s Z S.drop1 Q E fun v x s' Z' st' k S' V X=>hQ v x s' Z' st' k S' V (X.more (fun a ha=>ha.imp id (Xwh _)) fun g hg=>XiB hg)
end
section
variable{prog:Xwx}{w:XwE}{A:Xww}{B:Frz}{env:Env}
def Xmy(_:Frz)(o:Obj):Prop:=∃ led:Bool,o={ cls := .type "set",dict:=none,data := .set #[] 0 (.fresh 0 0 led)}
theorem Xmx(Z Z':Frz)(o:Obj)(k:Frz.le Z Z')(x:Xmy Z o):Xmy Z' o:=x
abbrev Xav:AObj := .obj Xmy Xmx
theorem XtI{st:St}{R:AV->St->Prop}(h:∀ a,a∉keys st.led->R (.ref a) ⟨st.loc,(a,Xav)::st.led⟩):FC prog w A B env (.typ "set") [] [] st R:=fun s Z fx xs ks hf hx hk S Q E hQ=>by
 cases hf
 cases hk
 cases hx
 refine call_set_0 fun lb=>?_
 have P:=S.toSimL.push (o:={ cls := .type "set",dict:=none,data := .set #[] 0 (.fresh 0 0 lb)}) (ao:=Xav) rfl s.toks ⟨_,Xwp _ rfl,lb,rfl⟩
 exact hQ _ _ _ _ _ (h _ S.toSimL.lfresh) (S.after P.1 P.2) (.ref _) P.2.toF
end
section
variable{prog:Xwx}{w:XwE}{A:Xww}{B:Frz}{env:Env}
theorem XuX{a:XwR}{xs:List AV}{v:AV}{st:St}{led':Led}{K:AV->St->Prop}(hsz:xs.length<XwZ)(U:Upd a (.list (xs++[v])) (.list xs) st.led led')(h:K v ⟨st.loc,led'⟩) :
  FC prog w A B env (.blt "list.pop") [.ref a] [] st K:=fun s Z fx ys ks hf hx hk S Q E hQ=>by
 cases hf
 cases hk
 cases hx with
 | cons hv hx =>
  cases hx
  cases hv
  obtain ⟨items,n,g,vs⟩:=S.own _ U.mem
  dsimp only at g
  have hlen:items.size=xs.length+1:=by have:=vs.length;simpa using this
  obtain ⟨y,hy,hV⟩:=vs.get (i:=xs.length) (x:=v) (by simp)
  have hy':items[items.size - 1]? = some y:=by rw [hlen];simpa using hy
  refine call_meets F.slot_list_pop (⟨_,g,rfl⟩) F.entry_list_pop (F.args_list_pop_1 _) (PySem.MeetsSeq.list_pop_last a items n y hy' nofun) ⟨g,?_⟩
  have hg':∃ n',(s.heap.update a (Xw6 fun x=>x.eraseIdxIfInBounds (items.size - 1))).get? a=some {cls := .type "list",data := .seq (items.eraseIdxIfInBounds (items.size - 1)) n' }:=⟨_,XwW (Xw6 fun x=>x.eraseIdxIfInBounds (items.size - 1)) g rfl⟩
  obtain ⟨n',hg'⟩:=hg'
  have hitems:(items.eraseIdxIfInBounds (items.size - 1)).toList=items.toList.take xs.length:=by
   have h1:items.size - 1<items.size:=by omega
   rw [Array.eraseIdxIfInBounds,dif_pos h1,Array.toList_eraseIdx,List.eraseIdx_eq_take_drop_succ]
   have h2:items.size - 1=xs.length:=by omega
   rw [h2,XxI (by simp [hlen]),Xxk]
  have hvals:Vals Z xs (items.eraseIdxIfInBounds (items.size - 1)).toList:=by
   rw [hitems]
   have:=vs.take xs.length
   simpa using this
  have P:=S.toSimL.upd U (h':=s.heap.update a (Xw6 fun x=>x.eraseIdxIfInBounds (items.size - 1))) (tk:=s.toks) (fun b ob hb e=>(XwT ..).extBut b ob hb e) rfl rfl ⟨_,n',hg',hvals⟩
  exact hQ _ _ _ Z _ h (S.after P.1 P.2) hV P.2.toF
end
section
variable{prog:Xwx}{w:XwE}{A:Xww}{B:Frz}{env:Env}
theorem SimL.push0{s:Xwl}{Z:Frz}{led:Led}(S:SimL B s Z led){o:Obj}(tk:Nat) :
  SimL B {s with heap:=s.heap.push o,toks:=tk} Z led/\Ext (Xh led) s Z {s with heap:=s.heap.push o,toks:=tk} Z (Xh led):=by
 have keep:∀ b ob,s.heap.get? b=some ob->(s.heap.push o).get? b=some ob:=fun b ob e=>Xwq o e
 exact ⟨⟨S.base,fun a ob e=>keep a ob (S.frozen a ob e),S.nodup,S.apart,fun p hp=>(S.own p hp).mono (.refl _) (fun ob e=>keep _ ob e) fun _ _ _ e=>e,S.gnodup,S.bare⟩,
  ⟨.refl _,fun a ob e _=>keep a ob e,fun a ha => .inl ha,fun _ _ e => .inl e,rfl,fun _ _ e _=>e,fun g hg => .inl hg⟩⟩
theorem Xdu{value lo hi:Expr}{p pos:Pos}{st:St}{R:AV->St->Prop}(ht:∀ o r,letTemporaryGo value o r=XxW ())
  (h:T prog w A B env Val (Xxy value env) st fun v st₁=>T prog w A B env Val (Xxy lo env) st₁ fun l st₂=>T prog w A B env Val (Xxy hi env) st₂ fun u st₃ =>
   ∃ xs:List AV,∃ i j:Nat,ListAt st₃.led v xs/\l = .int i/\u = .int j/\i<=j/\j<=xs.length/\xs.length<=XwZ/\R (.lst ((xs.drop i).take (j - i))) st₃) :
  T prog w A B env Val (Xxy (.Subscript value (.Slice (some lo) (some hi) none p) pos) env) st R:=fun s Z S Q E hQ=>by
 refine wpAny_Subscript_list_slice (h s Z S _ _ fun v x s₁ Z₁ st₁ k₁ S₁ V₁ X₁=>k₁ s₁ Z₁ S₁ _ _ fun l y s₂ Z₂ st₂ k₂ S₂ V₂ X₂=>k₂ s₂ Z₂ S₂ _ _ fun u z s₃ Z₃ st₃ k₃ S₃ V₃ X₃=>?_) ht
 obtain ⟨xs,i,j,hl,rfl,rfl,hij,hj,hsz,k⟩:=k₃
 obtain ⟨a,items,n,rfl,g,vs⟩:=hl.get (V₁.mono (X₂.le.trans X₃.le)) S₃.toSimL
 have hlen:items.size=xs.length:=by simpa using vs.length
 cases V₂
 cases V₃
 rename_i t1 t2
 refine ⟨a,items,some i,some j,rfl,⟨_,g,rfl,n,rfl⟩,by omega,.int _ _,.int _ _,?_⟩
 rw [slicePick_run items i j nofun hij]
 have P1:=S₃.toSimL.push0 (o:={ cls := .type "slice",data := .fields #[.int i t1,.int j t2,.none]}) s₃.toks
 have P2:=P1.1.pushZ (o:={ cls := .type "list",data := .seq ((items.toList.drop i).take (j - i)).toArray}) rfl s₃.toks
 have X:=P1.2.trans P2.2
 have hs:(s₃.heap.push {cls := .type "slice",data := .fields #[.int i t1,.int j t2,.none]}).objs.size=s₃.heap.objs.size+1:=XyM ..
 refine hQ _ _ _ _ _ k (S₃.after P2.1 X) ?_ (((X₁.trans X₂).trans X₃).trans X.toF)
 rw [← hs]
 exact .lst (Frz.add_at ..) (((vs.drop i).take (j - i)).mono X.le)
end
section
variable{prog:Xwx}{w:XwE}{A:Xww}{B:Frz}{env:Env}
theorem SimF.keepAll{s:Xwl}{Z:Frz}{st:St}(S:SimF B env s Z st){h':Heap}{tk:Nat}(keep:∀ b o,s.heap.get? b=some o->h'.get? b=some o):SimF B env {s with heap:=h',toks:=tk} Z st/\Ext (Xk env st) s Z {s with heap:=h',toks:=tk} Z (Xk env st) :=
 ⟨⟨⟨S.base,fun a o e=>keep a o (S.frozen a o e),S.nodup,S.apart,fun p hp=>(S.own p hp).mono (.refl _) (fun o e=>keep _ o e) (fun _ _ _ e=>e),S.gnodup,S.bare⟩,S.locZ,S.locL,NsIs.mono (.refl _) (fun o e=>keep _ o e) S.loc,S.kinds,S.fn⟩,
  ⟨.refl _,fun a o e _=>keep a o e,fun a h => .inl h,fun _ _ e => .inl e,rfl,fun _ _ e _=>e,fun _ h => .inl h⟩⟩
theorem Xhm{a b:Int}{st:St}{R:AV->St->Prop}(hh:A.handled=none)(h:R (.int (max a b)) st):FC prog w A B env (.blt "max") [.int a,.int b] [] st R:=fun s Z fx xs ks hf hx hk S Q E hQ=>by
 cases hf
 cases hk
 cases hx with
 | cons h1 hx=>cases hx with
  | cons h2 hx =>
   cases hx
   cases h1
   cases h2
   refine max_two_ints hh fun h' tk hkeep=>?_
   have P:=S.keepAll (h':=h') (tk:=tk) hkeep
   refine hQ _ _ _ Z st h P.1 ?_ P.2
   split
   ·rw [show max a b=b from by omega];exact .int _ _
   ·rw [show max a b=a from by omega];exact .int _ _
theorem Xhl{a b:Int}{st:St}{R:AV->St->Prop}(hh:A.handled=none)(h:R (.int (min a b)) st):FC prog w A B env (.blt "min") [.int a,.int b] [] st R:=fun s Z fx xs ks hf hx hk S Q E hQ=>by
 cases hf
 cases hk
 cases hx with
 | cons h1 hx=>cases hx with
  | cons h2 hx =>
   cases hx
   cases h1
   cases h2
   refine min_two_ints hh fun h' tk hkeep=>?_
   have P:=S.keepAll (h':=h') (tk:=tk) hkeep
   refine hQ _ _ _ Z st h P.1 ?_ P.2
   split
   ·rw [show min a b=b from by omega];exact .int _ _
   ·rw [show min a b=a from by omega];exact .int _ _
end
section
variable{prog:Xwx}{w:XwE}{A:Xww}{B:Frz}{env:Env}
theorem Xcv{test:Expr}{body:List Stmt}{pos:Pos}{J:Nat->St->Prop}{K:AFlow->St->Prop}
  (turn:∀ n st,J n st->T prog w A B env XQ (isTrue test env (Xxy test env)) st fun b st₁=>if b then T prog w A B env FVal (execs body env) st₁ fun f st₂=>match f with
    | .next | .cont=>∃ m,m<n/\J m st₂
    | .brk=>K .next st₂
    | .ret v=>K (.ret v) st₂
   else K .next st₁) {n:Nat} {st:St} (h:J n st):T prog w A B env FVal (exec (.While test body [] pos) env) st K:=fun s Z S Q E hQ=>by
 refine wpAny_While ?_
 refine codeAny_whileLoop (fun n s'=>∃ Z' st',J n st'/\SimF B env s' Z' st'/\Ext (Xk env st) s Z s' Z' (Xk env st')) ?_ n ⟨Z,st,h,S,.refl⟩
 rintro n s' ⟨Z',st',hJ,S',X'⟩
 refine turn n st' hJ s' Z' S' _ _ fun b c s₁ Z₁ st₁ k₁ S₁ V₁ X₁=>?_
 unfold XQ at V₁
 subst V₁
 cases c with
 | true =>
  rw [if_pos rfl] at k₁ ⊢
  refine k₁ s₁ Z₁ S₁ _ _ fun f y s₂ Z₂ st₂ k₂ S₂ V₂ X₂=>?_
  have X:=(X'.trans X₁).trans X₂
  cases V₂ with
  | next=>obtain ⟨m,hm,hJ⟩:=k₂;exact ⟨m,hm,Z₂,st₂,hJ,S₂,X⟩
  | cont=>obtain ⟨m,hm,hJ⟩:=k₂;exact ⟨m,hm,Z₂,st₂,hJ,S₂,X⟩
  | brk=>exact hQ _ _ s₂ Z₂ st₂ k₂ S₂ .next X
  | ret hv=>exact hQ _ _ s₂ Z₂ st₂ k₂ S₂ (.ret hv) X
 | false =>
  rw [if_neg Xw0] at k₁ ⊢
  exact wpAny_execs_nil (hQ _ _ s₁ Z₁ st₁ k₁ S₁ .next (X'.trans X₁))
end
section
theorem XqI:(kfb_private% "ownerAndName") "dict.get" = ("dict", "get"):=by first | decide +kernel | kernel_rfl
theorem XqH:(kfb_private% "ownerAndName") "set.__contains__" = ("set", "__contains__"):=by first | decide +kernel | kernel_rfl
theorem XsI:(Manifest.toldItsClass.contains "dict.get")=false:=by decide +kernel
theorem XsH:(Manifest.toldItsClass.contains "set.__contains__")=false:=by decide +kernel
theorem XuZ:typeOf (.builtin "set.__contains__")=XxW (.type "method_descriptor"):=by show builtinType _=_;rw [builtinType_eq_fast];kernel_rfl
theorem Xo8{M:Model}{A:Xww}{E:Value->Xwl->Prop}{s:Xwl}{a:XwR}{id T' nm:String}{P:PySem.Fin->Xwl->Prop}(ho:(kfb_private% "ownerAndName") id=(T',nm))(ht:Manifest.toldItsClass.contains id=false)
  (hT:s.TypeIs (.ref a) T') (hsub:XyI (.type T') (.type T')=XxW true) (h:P (.done (.ret (.ref s.heap.objs.size))) {s with heap:=s.heap.push {cls := .type "builtin_function_or_method",data := .fields #[.builtin id,.ref a]} }) :
  XwG M A (Builtin.«method_descriptor.__get__» ⟨[.builtin id,.ref a,.type T'],[]⟩) P E s:=by
 unfold Builtin.«method_descriptor.__get__»
 refine Xwe (Xxg (a:=(.builtin id,some (.ref a),some (.type T'))) (by first | rfl | kernel_rfl) ?_)
 dsimp only
 rw [ht]
 simp only [XwX,if_false]
 show XwG M A ((kfb_private% "checkInstance") (.builtin id) (.ref a) >>= fun _=>newFields "builtin_function_or_method" [.builtin id,.ref a] >>= fun v=>ret v) P E s
 refine Xwe ?_
 show XwG M A (((kfb_private% "nameAndClass") (.builtin id)) >>= fun p=>_) _ E s
 have hn:(kfb_private% "nameAndClass") (.builtin id)=XxW (Xwk nm,XyJ T'):=by
  show (match (kfb_private% "ownerAndName") id with | (owner,name)=>(XxW (Xwk name,XyJ owner):Sem (Str × Value)))=_
  rw [ho]
 rw [hn]
 refine Xwe (Xwg ?_)
 dsimp only
 refine Xwe (XxL (T:=T') (b:=true) hT hsub ?_)
 simp only [Bool.not_true,XwX,if_false]
 refine Xwg ?_
 exact Xwe (Xxc (Xwg h))
theorem Xlu:Xxz (.type "method_descriptor") "__get__" = XxW (some (.builtin "method_descriptor.__get__")):=by rw [Xxh,XwS];kernel_rfl
theorem Xlt:Xxz (.type "method_descriptor") "__set__" = XxW none:=by rw [Xxh,XwS];kernel_rfl
theorem Xlv:Xxz (.type "method_descriptor") "__delete__" = XxW none:=by rw [Xxh,XwS];kernel_rfl
theorem Xmw:Slot "method_descriptor" "__get__" "method_descriptor.__get__" :=
 .of (owner := "method_descriptor") (n := "__get__") (by rw [Xxh,XwS];kernel_rfl) (by decide +kernel) (by decide +kernel) (by decide +kernel)
  (by first | exact .inl (by decide +kernel) | exact .inr (by decide +kernel)) (by rw [Xxe];kernel_rfl)
theorem XlE:entryFor table "method_descriptor.__get__" = some Builtin.«method_descriptor.__get__» := Xyf @_
theorem Xos(a b c:Value):XyY "method_descriptor.__get__" ⟨[a,b,c],[]⟩:=by unfold XyY;kernel_rfl
theorem XsR{prog:Xwx}{w:XwE}{A:Xww}{E:Value->Xwl->Prop}{s:Xwl}{a:XwR}{o:Obj}{id T':String}{name:Str}{u:Tok}{P:PySem.Fin->Xwl->Prop}
  (ho:s.heap.get? a=some o) (hc:o.cls = .type T') (hdict:o.dict=none) (hdata:∀ c,o.data ≠ .cls c)
  (hlk:Xxz (.type T') name=XxW (some (.builtin id))) (hty:typeOf (.builtin id)=XxW (.type "method_descriptor"))
  (hnm:(["__module__", "__name__", "__qualname__", "__doc__", "__annotations__"]:List Str).contains name=false)
  (h:XwG (XwD prog w) A (call (.builtin "method_descriptor.__get__") [.builtin id,.ref a,.type T']) (fun v s'=>P (.done (.ret v)) s') E s) :
  XwG (XwD prog w) A (Builtin.«object.__getattribute__» ⟨[.ref a,.str name u],[]⟩) P E s:=by
 have hT:s.TypeIs (.ref a) T':=⟨_,ho,hc⟩
 obtain ⟨hp,g,d,tk,os⟩:=s
 have f3:=Xlu
 have f4:=Xlt
 have f5:=Xlv
 unfold Builtin.«object.__getattribute__»
 repeat (any_goals (first | assumption | wp_step))
 split
 ·rename_i c q
  exact absurd q (hdata c)
 unfold instanceDict
 refine Xwe (wpAny_loadPart ho ?_)
 rw [hc,hdict]
 refine Xwe (Xwg ?_)
 refine Xwg ?_
 refine Xwg ?_
 refine Xwe ?_
 unfold Builtin.ObjectAttr.copiedAttributeGuard
 dsimp only
 rw [hnm]
 refine Xwg ?_
 refine Xwe (XxC (Xwg ?_))
 exact Xwe (Xwt (Xw8 h (fun v s' h'=>Xwg h') fun _ _ h'=>h'))
theorem Xpz:entryFor table "dict.__getattribute__" = some Builtin.«object.__getattribute__» := entryFor_alias (id' := "object.__getattribute__") @_ rfl (by decide +kernel) @_
theorem Xpy:entryFor table "set.__getattribute__" = some Builtin.«object.__getattribute__» := entryFor_alias (id' := "object.__getattribute__") @_ rfl (by decide +kernel) @_
section
variable{prog:Xwx}{w:XwE}{A:Xww}{B:Frz}{env:Env}
theorem Xcl{E:Value->Xwl->Prop}{s:Xwl}{a:XwR}{o:Obj}{id T' nm gid:String}{name:Str}{expr:Bool}{Q:Value->Xwl->Prop}
  (ho:s.heap.get? a=some o) (hc:o.cls = .type T') (hdict:o.dict=none) (hdata:∀ c,o.data ≠ .cls c)
  (hga:Slot T' "__getattribute__" gid) (hge:entryFor table gid=some Builtin.«object.__getattribute__») (hgar:∀ a b,XyY gid ⟨[a,b],[]⟩)
  (hlk:Xxz (.type T') name=XxW (some (.builtin id))) (hty:typeOf (.builtin id)=XxW (.type "method_descriptor"))
  (hnm:(["__module__", "__name__", "__qualname__", "__doc__", "__annotations__"]:List Str).contains name=false)
  (hown:(kfb_private% "ownerAndName") id=(T',nm)) (ht:Manifest.toldItsClass.contains id=false) (hsub:XyI (.type T') (.type T')=XxW true)
  (h:Q (.ref s.heap.objs.size) {s with heap:=s.heap.push {cls := .type "builtin_function_or_method",data := .fields #[.builtin id,.ref a]},toks:=s.toks+1}) :
  XwG (XwD prog w) A (getAttr (.ref a) name expr) Q E s:=by
 have hT:∀ t',({s with toks:=t' }:Xwl).TypeIs (.ref a) T':=fun t'=>⟨o,ho,hc⟩
 unfold getAttr getAttrBy
 refine Xwe (wpAny_mkText (Xwt (Xwe (wpAny_typeOf (hT _) (Xwe (Xxg hga.lookup ?_))))))
 show XwG _ _ (getAttrByItsOwn (.ref a) (.str name s.toks) (.type T') (.builtin gid) true expr) _ _ _
 unfold getAttrByItsOwn hookBefore callGetattribute
 refine Xwe (Xxg (show (if onTheHeap (.type T') then Xxz (.type T') "__getattr__" else XxW none)=XxW none from rfl) ?_)
 refine Xwe (Xyg (Xwt ?_))
 rw [show (expr && onTheHeap (.builtin gid))=false from Bool.and_false _]
 unfold boundAndCalled
 simp only [XwX,if_false]
 refine Xwe (Xxg (hga.bind _) ?_)
 refine Xw8 (Q:=fun v s'=>v = .ref s.heap.objs.size/\s'={ s with heap:=s.heap.push {cls := .type "builtin_function_or_method",data := .fields #[.builtin id,.ref a]},toks:=s.toks+1}) (E:=fun _ _=>False)
  (Xw3 hga (hT _) hge ?_ (hgar _ _)) (fun v s' hv=>?_) fun _ _ z=>z.elim
 ·refine XsR (s:={ s with toks:=s.toks+1}) ho hc hdict hdata hlk hty hnm ?_
  refine Xw3 Xmw hty XlE ?_ (Xos _ _ _)
  refine Xo8 hown ht (hT _) hsub ?_
  exact ⟨_,rfl,_,rfl,rfl,rfl⟩
 ·obtain ⟨rfl,rfl⟩:=hv
  exact Xwg h
end
end
section
variable{prog:Xwx}{w:XwE}{A:Xww}{B:Frz}{env:Env}
theorem XeC{E:Value->Xwl->Prop}{s:Xwl}{x a:XwR}{o:Obj}{id T':String}{name:Str}{sig:_}{rest:List Value}{F:Builtin}{S:Spec}{Q:Value->Xwl->Prop}
  (hx:s.heap.get? x=some {cls := .type "builtin_function_or_method",data := .fields #[.builtin id,.ref a]})
  (ho:s.heap.get? a=some o) (hc:o.cls = .type T') (hdata:∀ c,o.data ≠ .cls c)
  (hsig:Manifest.signature? id=some sig) (hkind:builtinKind id=some .method) (hmod:XyI (.type T') (.type "module")=XxW false) (hva:Manifest.varargsMethods.contains id=false)
  (hchk:Bind.checkArgs id {sig with full:=s!"{Bind.lastOf T'}.{Bind.lastOf id}" } ⟨.ref a::rest,[]⟩=XxW ())
  (slot:Slot T' name id) (entry:entryFor table id=some F) (g:MeetsIn prog w (F ⟨.ref a::rest,[]⟩) S) (h:S A (wants Q E) s) :
  XwG (XwD prog w) A (call (.ref x) rest) Q E s:=by
 have hT:s.TypeIs (.ref a) T':=⟨_,ho,hc⟩
 refine Xyl (codeAny_of_tree ?_)
 show XwG _ A.in1 (callAny (.ref x) ⟨rest,[]⟩) _ _ s
 simp only [callAny]
 refine Xwe (wpAny_load hx ?_)
 simp only [show (XyJ "builtin_function_or_method" == XyJ "method" || XyJ "builtin_function_or_method" == XyJ "builtin_function_or_method" || XyJ "builtin_function_or_method" == XyJ "method-wrapper")=true by decide,if_true]
 refine KFB.if_so (by decide) ?_
 refine Xwe ?_
 unfold checkBoundCall
 rw [hsig]
 dsimp only
 rw [hkind]
 dsimp only
 refine Xxl (by decide) ?_
 refine Xwe (XxL (T:=T') (b:=false) hT hmod ?_)
 refine Xxl (by rw [hva];rfl) ?_
 refine Xwe ?_
 unfold isType
 refine Xwe (wpAny_loadPart ho ?_)
 have hn:(match o.data with | .cls _=>true | _=>false)=false:=by
  cases q:o.data with
  | cls c=>exact absurd q (hdata c)
  | _=>rfl
 refine Xwg ?_
 refine Xxl hn ?_
 refine Xwe (wpAny_typeOf hT ?_)
 refine Xxg hchk ?_
 refine Xwe (Xwg (Xwg ?_))
 refine ⟨plainId_quiet slot.plain _,XyA entry ?_⟩
 rw [Xyy slot.plain]
 exact g A (wants Q E) s h
theorem Xk3{knd:Xy4 prog w Int}{d:XwR}{m:List (Int × AV)}{st:St}{expr:Bool}{R:AV->St->Prop}(hm:(d,Xl knd m)∈st.led)
  (h:R (.bm "dict.get" (.ref d)) st):F1 prog w A B env Val (fun x=>getAttr x XAy expr) (.ref d) st R:=fun s Z x V S Q E hQ=>by
 cases V
 obtain ⟨o,ho,es,ep,kvs,hex,hd,_⟩:=S.own _ hm
 dsimp only at ho
 refine Xcl (T' := "dict") (id := "dict.get") ho hex.1 hex.2.1 (fun c e=>by rw [hd] at e;cases e) F.slot_dict_getattribute Xpz F.args_dict_getattribute_2 F.slot_dict_get.lookup F.type_dict_get (by decide +kernel) XqI XsI (by rw [Xxe];kernel_rfl) ?_
 have P:=S.toSimL.pushZ (o:={ cls := .type "builtin_function_or_method",data := .fields #[.builtin "dict.get",.ref d]}) rfl (s.toks+1)
 exact hQ _ _ _ _ _ h (S.after P.1 P.2) (.bm (Frz.add_at ..) (.ref d)) P.2.toF
theorem XoC{knd:Xy4 prog w Int}{d:XwR}{m:List (Int × AV)}{v dflt:AV}{k:Int}{st:St}{R:AV->St->Prop}(hds:(d == Xx5)=false)(hk:∀ Z x,Val Z v x->knd.is k x=true)(hm:(d,Xl knd m)∈st.led)
  (h:R ((Xz m k).getD dflt) st):FC prog w A B env (.bm "dict.get" (.ref d)) [v,dflt] [] st R:=fun s Z fx xs ks hf hx hkw S Q E hQ=>by
 cases hkw
 cases hf with
 | bm e hs =>
  cases hs
  cases hx with
  | @cons _ xk _ _ h2 hx=>cases hx with
   | @cons _ xd _ _ h3 hx =>
    cases hx
    obtain ⟨kvs,hD,hKV⟩:=Xd5 S.toSimL hm
    obtain ⟨o,es,ep,ho,hex,hd,_⟩:=id hD
    refine XeC (T' := "dict") (id := "dict.get") (S.frozen _ _ e) ho hex.1 (fun c e=>by rw [hd] at e;cases e) (sig:=(Manifest.signature? "dict.get").getD ⟨.positional, "", "",.self,[]⟩) @_ @_ (by rw [Xxe];kernel_rfl) (by decide +kernel) @_ F.slot_dict_get F.entry_dict_get (meets_dict_get_default knd d (hk Z xk h2) hds xd) ⟨_,hD.mapOf,?_⟩
    refine hQ _ _ _ Z st h (S.toks _) ?_ (.toks _)
    rcases hKV.find k with ⟨e1,e2⟩ | ⟨u,y,e1,e2,e3⟩
    ·rw [e1,e2];exact h3
    ·rw [e1,e2];exact e3
end
section
variable{prog:Xwx}{w:XwE}{A:Xww}{B:Frz}{env:Env}
theorem Xfz{a:XwR}{st:St}{expr:Bool}{R:AV->St->Prop}(hm:(a,Xav)∈st.led)
  (h:R (.bm "set.__contains__" (.ref a)) st):F1 prog w A B env Val (fun x=>getAttr x ⟨⟨[95,95,99,111,110,116,97,105,110,115,95,95]⟩⟩ expr) (.ref a) st R:=fun s Z x V S Q E hQ=>by
 cases V
 obtain ⟨o,ho,lb,rfl⟩:=S.own _ hm
 dsimp only at ho
 refine Xcl (T' := "set") (id := "set.__contains__") ho rfl rfl (fun c e=>by cases e) F.slot_set_getattribute Xpy F.args_set_getattribute_2 F.slot_set_contains.lookup XuZ (by decide +kernel) XqH XsH (by rw [Xxe];kernel_rfl) ?_
 have P:=S.toSimL.pushZ (o:={ cls := .type "builtin_function_or_method",data := .fields #[.builtin "set.__contains__",.ref a]}) rfl (s.toks+1)
 exact hQ _ _ _ _ _ h (S.after P.1 P.2) (.bm (Frz.add_at ..) (.ref a)) P.2.toF
theorem XeM{a:XwR}{x:Str}{t:Tok}:MeetsIn prog w (Builtin.«frozenset.__contains__» ⟨[.ref a,.str x t],[]⟩) (fun _ R s=>s.heap.SetOf (XwP prog w) a (fun _=>false) 0/\R (.ok (.ret (.bool false))) {s with toks:=s.toks+1}) :=
 .of_wp fun A R s ⟨hS,h⟩=>by
  unfold Builtin.«frozenset.__contains__» Builtin.Frozenset.oneOther
  simp only [List.isEmpty_nil,bind_assoc]
  unfold Builtin.Frozenset.addrOf Builtin.Frozenset.withSetAsKey setContains
  refine Xwe (Xwg ?_)
  try dsimp only
  refine Xwe (Xwg ?_)
  try dsimp only
  have hkey:(XwP prog w).is x (.str x t)=true:=by simp [XwP,Value.isStrOf]
  refine Xwe (wpAny_tryCatch ?_)
  refine Xwt ?_
  refine Xwe ((XwP prog w).pyHash hkey ?_)
  refine Xwe (wpAny_setFind_of (s:={ s with toks:=s.toks+1}) hkey rfl hS fun r hr=>?_)
  refine Xwg ?_
  show XwG _ _ (ret (Value.bool r.isSome)) _ _ _
  rw [hr]
  exact Xwg ⟨_,rfl,h⟩
theorem Xbu{a:XwR}{x:Str}{st:St}{R:AV->St->Prop}(hm:(a,Xav)∈st.led)
  (h:R (.bool false) st):FC prog w A B env (.bm "set.__contains__" (.ref a)) [.str x] [] st R:=fun s Z fx xs ks hf hx hkw S Q E hQ=>by
 cases hkw
 cases hf with
 | bm e hs =>
  cases hs
  cases hx with
  | cons h2 hx =>
   cases hx
   cases h2
   obtain ⟨o,ho,lb,rfl⟩:=S.own _ hm
   dsimp only at ho
   refine XeC (T' := "set") (id := "set.__contains__") (S.frozen _ _ e) ho rfl (fun c e=>by cases e) (sig:=(Manifest.signature? "set.__contains__").getD ⟨.positional, "", "",.self,[]⟩) @_ @_ (by rw [Xxe];kernel_rfl) (by decide +kernel) @_ F.slot_set_contains entry_set_contains XeM ⟨?_,?_⟩
   ·exact ⟨_,#[],0,_,ho,⟨rfl,rfl,rfl⟩,rfl,fun e he=>by simp at he,fun k=>by simp,by decide,by rfl,rfl⟩
   ·exact hQ _ _ _ Z st h (S.toks _) (.bool false) (.toks _)
end
section
variable{prog:Xwx}{w:XwE}{A:Xww}{B:Frz}{env:Env}
theorem Xtu{e:Expr}{pos:Pos}{st:St}{K:AFlow->St->Prop}(hi:interactive env=false)(hs:swapsWith e none pos.line env=XxW false)
  (h:T prog w A B env Val (Xxy e env) st fun _ st'=>K .next st'):T prog w A B env FVal (exec (.Expr e pos) env) st K:=fun s Z S Q E hQ =>
 wpAny_Expr_any (h s Z S _ _ fun v x s' Z' st' k S' V X=>hQ _ _ s' Z' st' k S' .next X) hi hs
theorem Xsl{pos:Pos}{st:St}{K:AFlow->St->Prop}(h:K .brk st):T prog w A B env FVal (exec (.Break pos) env) st K:=fun s Z S Q E hQ=>wpAny_Break (hQ _ _ s Z st h S .brk .refl)
theorem XfU{pos:Pos}{st:St}{K:AFlow->St->Prop}(h:K .cont st):T prog w A B env FVal (exec (.Continue pos) env) st K:=fun s Z S Q E hQ=>wpAny_Continue (hQ _ _ s Z st h S .cont .refl)
theorem XdI{a b:Int}{st:St}{K:AV->St->Prop}(hb:b≠0)(hs:b.natAbs<1073741824)(h:K (.int (a.fdiv b)) st):F2 prog w A B env Val (binaryOp .FloorDiv) (.int a) (.int b) st K:=fun s Z x₁ x₂ V₁ V₂ S Q E hQ=>by
 cases V₁;cases V₂;exact PyProof.Rows.floordiv_int hb (hQ _ _ _ Z st h (S.toks _) (.int _ _) (.toks _)) (.inl (PyProof.noPylong_small hs))
theorem Upd.app{a:XwR}{o o':AObj}:∀ {l l':Led},Upd a o o' (l++(a,o)::l') (l++(a,o')::l')
 | [],_ => .here
 | _::l,_ => .there (Upd.app (l:=l))
theorem Upd.append{a:XwR}{o o':AObj}{l l' r:Led}(u:Upd a o o' l l'):Upd a o o' (l++r) (l'++r):=by
 induction u with
 | here=>exact .here
 | there _ ih=>exact .there ih
theorem Xi1{K:Type}[DecidableEq K](m:List (K × AV))(k:K)(v:AV)(x:K):Xz (Xbb m k v) x=if x=k then some v else Xz m x:=by
 unfold Xbb
 cases hb:(m.any fun kv=>decide (kv.1=k)) with
 | true =>
  rw [if_pos rfl]
  induction m with
  | nil=>simp at hb
  | cons p r ih =>
   unfold Xz at *
   rw [Xwr,Xx1,Xx1]
   by_cases e:p.1=k
   ·simp only [e,if_true]
    by_cases q:x=k
    ·subst q;simp
    ·have q' : ¬ (k=x):=fun h=>q h.symm
     simp only [q,q',decide_false,if_false]
     cases hr:(r.any fun kv=>decide (kv.1=k)) with
     | true =>
      have:=ih hr
      simp only [q,if_false] at this
      exact this
     | false =>
      rw [Xx6 (g:=id)]
      ·simp
      ·intro y hy
       have:=List.any_eq_false.mp hr y hy
       simp only [decide_eq_true_eq] at this
       rw [if_neg this];rfl
   ·simp only [e,if_false]
    by_cases q:p.1=x
    ·have : ¬ (x=k):=fun h=>e (q.trans h)
     simp [q,this]
    ·simp only [q,decide_false]
     exact ih (by simpa [e] using hb)
 | false =>
  rw [if_neg Xw0]
  unfold Xz
  rw [List.find?_append]
  by_cases q:x=k
  ·subst q
   have:List.find? (fun kv:K × AV=>decide (kv.1=x)) m=none:=List.find?_eq_none.mpr fun y hy=>by
    have:=List.any_eq_false.mp hb y hy
    exact this
   rw [this];simp
  ·have q' : ¬ (k=x):=fun h=>q h.symm
   cases hf:List.find? (fun kv:K × AV=>decide (kv.1=x)) m <;> simp [q,q']
theorem KV.recast{K:Type}{Z Z':Frz}(le:Frz.le Z Z'){a:XwR}{xs:List AV}(hv:Val Z' (.lst xs) (.ref a)){k:K}:∀ {m1 m2:List (K × AV)} {kvs:List (K × Value)},KV Z (m1++(k,.ref a)::m2) kvs->KV Z' (m1++(k,.lst xs)::m2) kvs
 | [],m2,_,h=>by
  cases h with
  | cons h1 h2=>cases h1;exact .cons hv (h2.mono le)
 | p::m1,m2,_,h=>by
  cases h with
  | cons h1 h2=>exact .cons (h1.mono le) (KV.recast le hv h2)
theorem SimL.freezes{K:Type}[DecidableEq K]{knd:Xy4 prog w K}{s:Xwl}{dj:XwR}{led:Led}:∀ (todo:List (K × XwR × List AV)) (done:List (K × AV)) (Z:Frz),
  SimL B s Z ((dj,Xl knd (done++todo.map fun e=>(e.1,.ref e.2.1)))::((todo.map fun e=>(e.2.1,AObj.list e.2.2))++led)) ->
  ∃ Z',SimL B s Z' ((dj,Xl knd (done++todo.map fun e=>(e.1,.lst e.2.2)))::led)/\Frz.le Z Z' /\
   Ext (Xh ((dj,Xl knd (done++todo.map fun e=>(e.1,.ref e.2.1)))::((todo.map fun e=>(e.2.1,AObj.list e.2.2))++led))) s Z s Z' (Xh ((dj,Xl knd (done++todo.map fun e=>(e.1,.lst e.2.2)))::led))
 | [],done,Z,S=>⟨Z,S,.refl _,.refl⟩
 | (k,a,xs)::todo,done,Z,S=>by
  have S1:SimL B s Z ((a,AObj.list xs)::(dj,Xl knd (done++(k,.ref a)::todo.map fun e=>(e.1,.ref e.2.1)))::((todo.map fun e=>(e.2.1,AObj.list e.2.2))++led)):=S.perm (XxX ..)
  obtain ⟨Z1,S2,hv,le,X⟩:=S1.freeze
  have S3:SimL B s Z1 ((dj,Xl knd ((done++[(k,.lst xs)])++todo.map fun e=>(e.1,.ref e.2.1)))::((todo.map fun e=>(e.2.1,AObj.list e.2.2))++led)):=by
   refine ⟨S2.base,S2.frozen,S2.nodup,fun p hp=>?_,fun p hp=>?_,S2.gnodup,S2.bare⟩
   ·rcases Xwm.mp hp with rfl | hp
    ·exact S2.apart (dj,Xl knd (done++(k,.ref a)::todo.map fun e=>(e.1,.ref e.2.1))) (Xwf ..)
    ·exact S2.apart p (Xwh _ hp)
   ·rcases Xwm.mp hp with rfl | hp
    ·obtain ⟨o,ho,es,ep,kvs,h1,h2,h3,h4,h5,_⟩:=S2.own _ (Xwf ..)
     obtain ⟨o',ho',es',ep',kvs',h1',h2',h3',h4',h5',h6'⟩:=S1.own _ (Xwh _ (Xwf ..))
     exact ⟨o',ho',es',ep',kvs',h1',h2',h3',h4',h5',by rw [XwK];exact h6'.recast le hv⟩
    ·exact S2.own p (Xwh _ hp)
  obtain ⟨Z',S4,le',X'⟩:=SimL.freezes todo (done++[(k,.lst xs)]) Z1 S3
  rw [XwK] at S4
  refine ⟨Z',S4,le.trans le',?_⟩
  have e1:Xh ((dj,Xl knd (done++((k,a,xs)::todo).map fun e=>(e.1,.ref e.2.1)))::((((k,a,xs)::todo).map fun e=>(e.2.1,AObj.list e.2.2))++led))=Xh ((a,AObj.list xs)::(dj,Xl knd (done++(k,.ref a)::todo.map fun e=>(e.1,.ref e.2.1)))::((todo.map fun e=>(e.2.1,AObj.list e.2.2))++led)):=Xaj (XxX ..)
  rw [e1]
  exact X.trans X'
theorem T.freezes{K:Type}[DecidableEq K]{knd:Xy4 prog w K}{α β:Type}{rel:Frz->α->β->Prop}{t:Sem β}{dj:XwR}{led:Led}{loc:List (Str × AV)}{R:α->St->Prop}(es:List (K × XwR × List AV))
  (h:T prog w A B env rel t ⟨loc,(dj,Xl knd (es.map fun e=>(e.1,.lst e.2.2)))::led⟩ R) :
  T prog w A B env rel t ⟨loc,(dj,Xl knd (es.map fun e=>(e.1,.ref e.2.1)))::((es.map fun e=>(e.2.1,AObj.list e.2.2))++led)⟩ R:=fun s Z S Q E hQ=>by
 obtain ⟨Z',S',le,X⟩:=SimL.freezes es [] Z S.toSimL
 exact h s Z' (S.after S' X) Q E fun v x s' Z'' st' k S'' V' X'=>hQ v x s' Z'' st' k S'' V' ((X.toF (st:=⟨loc,_⟩)).trans X')
end
def Xa9(b:List Str)(k:Str):List Nat:=(List.range b.length).filter fun j=>b[j]? == some k
def Xdd(b:List Str)(k:Str):Bool:=decide (200<=b.length) && decide (b.length / 100+1<(Xa9 b k).length)
def XM(b:List Str)(k:Str):List Nat:=if Xdd b k then [] else Xa9 b k
def XaH:List (Str × List Nat)->Str->Nat->List (Str × List Nat)
 | [],k,i=>[(k,[i])]
 | (x,js)::r,k,i=>if x=k then (x,js++[i])::r else (x,js)::XaH r k i
def XaN:List (Str × List Nat)->Nat->List Str->List (Str × List Nat)
 | t,_,[]=>t
 | t,i,x::xs=>XaN (XaH t x i) (i+1) xs
def Xc6(t:List (Str × List Nat))(k:Str):Option (List Nat):=(t.find? fun e=>e.1=k).map (·.2)
theorem XeX(k:Str)(i:Nat)(x:Str):∀ t,Xc6 (XaH t k i) x=if x=k then some ((Xc6 t k).getD []++[i]) else Xc6 t x
 | []=>by
  unfold XaH Xc6
  by_cases e:x=k
  ·subst e;simp
  ·have : ¬ k=x:=fun h=>e h.symm
   simp [e,this]
 | (y,js)::r=>by
  unfold XaH
  by_cases q:y=k
  ·rw [if_pos q]
   subst q
   unfold Xc6
   by_cases e:x=y
   ·subst e;simp
   ·have : ¬ y=x:=fun h=>e h.symm
    simp [e,this]
  ·rw [if_neg q]
   have ih:=XeX k i x r
   unfold Xc6 at *
   by_cases e:y=x
   ·have : ¬ x=k:=fun h=>q (e.trans h)
    simp [e,this]
   ·rw [List.find?_cons_of_neg (by simpa using e),ih]
    by_cases z:x=k
    ·rw [if_pos z,if_pos z,List.find?_cons_of_neg (by simpa using q)]
    ·rw [if_neg z,if_neg z,List.find?_cons_of_neg (by simpa using e)]
theorem Xpq(b:List Str)(x k:Str):Xa9 (b++[x]) k=if x=k then Xa9 b k++[b.length] else Xa9 b k:=by
 unfold Xa9
 rw [Xwo,Xya,List.range_succ,List.filter_append]
 have h1:(List.range b.length).filter (fun j=>(b++[x])[j]? == some k)=(List.range b.length).filter (fun j=>b[j]? == some k):=List.filter_congr fun j hj=>by
  rw [List.getElem?_append_left (List.mem_range.mp hj)]
 rw [h1]
 by_cases e:x=k
 ·subst e;simp
 ·simp [e]
theorem XrO(k:Str):Xa9 [] k=[]:=rfl
def TabOk(t:List (Str × List Nat))(b:List Str):Prop:=∀ k,Xc6 t k=if Xa9 b k=[] then none else some (Xa9 b k)
theorem TabOk.nil:TabOk [] []:=fun k=>by rw [XrO];rfl
theorem TabOk.add{t:List (Str × List Nat)}{b:List Str}(h:TabOk t b)(x:Str):TabOk (XaH t x b.length) (b++[x]):=fun k=>by
 rw [XeX,Xpq]
 by_cases e:k=x
 ·subst e
  rw [if_pos rfl,if_pos rfl,h k,if_neg (List.append_ne_nil_of_right_ne_nil _ (List.cons_ne_nil _ _))]
  by_cases q:Xa9 b k=[]
  ·rw [if_pos q,q];rfl
  ·rw [if_neg q];rfl
 ·have : ¬ x=k:=fun q=>e q.symm
  rw [if_neg e,if_neg this];exact h k
theorem TabOk.chain:∀ (xs:List Str) {t:List (Str × List Nat)} {b:List Str},TabOk t b->TabOk (XaN t b.length xs) (b++xs)
 | [],t,b,h=>by rw [Xxk];exact h
 | x::xs,t,b,h=>by
  have:=TabOk.chain xs (h.add x)
  rw [Xwo,XwK] at this
  exact this
theorem XeI(k:Str)(i:Nat):∀ t,(XaH t k i).length<=t.length+1
 | []=>by simp [XaH]
 | (y,js)::r=>by
  unfold XaH
  split
  ·simp
  ·have:=XeI k i r
   simp only [Xwn];omega
theorem XbT:∀ (xs:List Str) (t:List (Str × List Nat)) (i:Nat),(XaN t i xs).length<=t.length+xs.length
 | [],_,_=>XwN _
 | x::xs,t,i=>by
  have h1:=XbT xs (XaH t x i) (i+1)
  have h2:=XeI x i t
  rw [Xwn]
  unfold XaN
  omega
abbrev Tri:=Nat × Nat × Nat
def XaM(D:Int->Nat)(i:Nat)(s:(Int->Nat) × Tri)(j:Nat):(Int->Nat) × Tri :=
 (fun x=>if x=(j:Int) then D ((j:Int) - 1)+1 else s.1 x,if s.2.2.2<D ((j:Int) - 1)+1 then (i - D ((j:Int) - 1),j - D ((j:Int) - 1),D ((j:Int) - 1)+1) else s.2)
def within(blo bhi:Nat)(js:List Nat):List Nat:=js.filter fun j=>decide (blo<=j) && decide (j<bhi)
def XcS(js:List Nat)(blo bhi i:Nat)(s:(Int->Nat) × Tri):(Int->Nat) × Tri:=(within blo bhi js).foldl (XaM s.1 i) (fun _=>0,s.2)
def Xbg(idx:Nat->List Nat)(blo bhi:Nat)(is:List Nat)(s:(Int->Nat) × Tri):(Int->Nat) × Tri:=is.foldl (fun s i=>XcS (idx i) blo bhi i s) s
def X8(e:Nat->Nat->Bool)(alo blo:Nat):Nat->Nat->Nat->Tri
 | i+1,j+1,k=>if decide (alo<i+1) && (decide (blo<j+1) && e i j) then X8 e alo blo i j (k+1) else (i+1,j+1,k)
 | i,j,k=>(i,j,k)
def XaU(e:Nat->Nat->Bool)(ahi bhi i j:Nat):Nat->Nat->Nat
 | 0,k=>k
 | f+1,k=>if decide (i+k<ahi) && (decide (j+k<bhi) && e (i+k) (j+k)) then XaU e ahi bhi i j f (k+1) else k
def flm(e:Nat->Nat->Bool)(idx:Nat->List Nat)(alo ahi blo bhi:Nat):Tri :=
 let s:=(Xbg idx blo bhi (Xxm alo (ahi - alo)) (fun _=>0,(alo,blo,0))).2
 let u:=X8 e alo blo s.1 s.2.1 s.2.2
 (u.1,u.2.1,XaU e ahi bhi u.1 u.2.1 (ahi - (u.1+u.2.2)) u.2.2)
section
theorem XiU:Slot "dict" XAz "dict.setdefault" := by
 rw [show (XAz:Str)=Xwk "setdefault" from by decide +kernel];exact F.slot_dict_setdefault
theorem Xt9:Slot "dict" XAy "dict.get" := by
 rw [show (XAy:Str)=Xwk "get" from by decide +kernel];exact F.slot_dict_get
theorem Xqv:Slot "dict" XAA "dict.items" := by
 rw [show (XAA:Str)=Xwk "items" from by decide +kernel];exact F.slot_dict_items
theorem Xo2:Slot "list" XAB "list.append" := by
 rw [show (XAB:Str)=Xwk "append" from by decide +kernel];exact F.slot_list_append
theorem Xt8:Slot "list" ⟨⟨[112,111,112]⟩⟩ "list.pop" := by
 rw [show (⟨⟨[112,111,112]⟩⟩:Str)=Xwk "pop" from by decide +kernel];exact F.slot_list_pop
theorem XsM:Slot "list" ⟨⟨[115,111,114,116]⟩⟩ "list.sort" := by
 rw [show (⟨⟨[115,111,114,116]⟩⟩:Str)=Xwk "sort" from by decide +kernel];exact F.slot_list_sort
theorem Xo1:Slot "list" XAC "list.extend" := by
 rw [show (XAC:Str)=Xwk "extend" from by decide +kernel];exact F.slot_list_extend
theorem Xua:Slot "set" ⟨⟨[97,100,100]⟩⟩ "set.add" := by
 rw [show (⟨⟨[97,100,100]⟩⟩:Str)=Xwk "add" from by decide +kernel];exact F.slot_set_add
section
variable{prog:Xwx}{w:XwE}{A:Xww}{B:Frz}{env:Env}
theorem Upd.skip{a:XwR}{o o':AObj}{l l':Led}(u:Upd a o o' l l'):∀ {r:Led},Upd a o o' (r++l) (r++l')
 | []=>u
 | _::r => .there (Upd.skip u (r:=r))
theorem Xea{K:Type}[DecidableEq K]{knd:Xy4 prog w K}{d:XwR}{m:List (K × AV)}{led:Led}(hm:(d,Xl knd m)∈led):Xat B (.ref d) led "dict" := fun s Z u V S=>by
 cases V
 obtain ⟨o,ho,es,ep,kvs,hex,_⟩:=S.own _ hm
 exact ⟨⟨_,ho,hex.1⟩,fun b e=>by cases e;exact ⟨_,ho,hex.2.1⟩⟩
end
abbrev EsT:=List (Str × XwR × List AV)
def avs(js:List Nat):List AV:=js.map fun (j:Nat)=>AV.int (j:Int)
def Xbz(t:List (Str × List Nat)):List (Str × List AV):=t.map fun e=>(e.1,avs e.2)
def X9(es:EsT):List (Str × List AV):=es.map fun e=>(e.1,e.2.2)
def XbK:List (Str × List AV)->Str->AV->List (Str × List AV)
 | [],k,i=>[(k,[i])]
 | (x,js)::r,k,i=>if x=k then (x,js++[i])::r else (x,js)::XbK r k i
theorem XfM(k:Str)(i:Nat):∀ t,Xbz (XaH t k i)=XbK (Xbz t) k (.int i)
 | []=>rfl
 | (x,js)::r=>by
  unfold XaH
  show Xbz (if x=k then _ else _)=XbK ((x,avs js)::Xbz r) k (.int i)
  unfold XbK
  by_cases e:x=k
  ·rw [if_pos e,if_pos e];simp [Xbz,avs]
  ·rw [if_neg e,if_neg e,← XfM k i r];rfl
theorem XfT{k:Str}{v:AV}{a:XwR}{js:List AV}:∀ {es1 es2:EsT},(∀ e∈es1,e.1≠k)->XbK (X9 (es1++(k,a,js)::es2)) k v=X9 (es1++(k,a,js++[v])::es2)
 | [],es2,_=>by
  show XbK ((k,js)::X9 es2) k v=_
  unfold XbK
  rw [if_pos rfl];rfl
 | e::es1,es2,h=>by
  show XbK ((e.1,e.2.2)::X9 (es1++(k,a,js)::es2)) k v=_
  unfold XbK
  rw [if_neg (h e (Xwf ..)),XfT fun e' h'=>h e' (Xwh _ h')];rfl
theorem XiJ{k:Str}{v:AV}{a:XwR}:∀ {es:EsT},(∀ e∈es,e.1≠k)->XbK (X9 es) k v=X9 (es++[(k,a,[v])])
 | [],_=>rfl
 | e::es,h=>by
  show XbK ((e.1,e.2.2)::X9 es) k v=_
  unfold XbK
  rw [if_neg (h e (Xwf ..)),XiJ (a:=a) fun e' h'=>h e' (Xwh _ h')];rfl
def Xa3(es:EsT):List (Str × AV):=es.map fun e=>(e.1,.ref e.2.1)
def XcW(es:EsT):Led:=es.map fun e=>(e.2.1,AObj.list e.2.2)
theorem XdF{k:Str}{v:AV}:∀ {es:EsT},Xz (Xa3 es) k=some v->∃ es1 a js es2,es=es1++(k,a,js)::es2/\v = .ref a/\∀ e∈es1,e.1≠k
 | [],h=>by cases h
 | (x,a,js)::es,h=>by
  unfold Xz Xa3 at h
  rw [Xwr,Xx1] at h
  by_cases e:x=k
  ·simp only [e,decide_true,XyZ,XxE] at h
   exact ⟨[],a,js,es,by rw [e];rfl,h.symm,fun _ h=>by cases h⟩
  ·simp only [e,decide_false] at h
   obtain ⟨es1,a',js',es2,rfl,rfl,h'⟩:=XdF (es:=es) (show Xz (Xa3 es) k=some v from h)
   exact ⟨(x,a,js)::es1,a',js',es2,rfl,rfl,fun e' he=>by
    rcases Xwm.mp he with rfl | he
    ·exact e
    ·exact h' e' he⟩
theorem Xg7{k:Str}{es:EsT}(h:Xz (Xa3 es) k=none):∀ e∈es,e.1≠k:=fun e he q=>by
 unfold Xz Xa3 at h
 rw [Option.map_eq_none_iff,List.find?_eq_none] at h
 exact h (e.1,.ref e.2.1) (XwC he) (by simpa using q)
theorem XfS{n:Nat}(k:Str)(i:Nat):∀ {t:List (Str × List Nat)},(∀ e∈t,e.2.length<=n)->∀ e∈XaH t k i,e.2.length<=n+1
 | [],_,e,he=>by
  simp only [XaH,Xwy] at he
  subst he;simp
 | (x,js)::r,h,e,he=>by
  unfold XaH at he
  split at he
  ·rcases Xwm.mp he with rfl | he
   ·have:=h (x,js) (Xwf ..)
    simp only [Xwo,Xya] at this ⊢;omega
   ·exact Nat.le_succ_of_le (h e (Xwh _ he))
  ·rcases Xwm.mp he with rfl | he
   ·exact Nat.le_succ_of_le (h (x,js) (Xwf ..))
   ·exact XfS k i (fun e' h'=>h e' (Xwh _ h')) e he
theorem XdR:∀ (xs:List Str) (t:List (Str × List Nat)) (i n:Nat),(∀ e∈t,e.2.length<=n)->∀ e∈XaN t i xs,e.2.length<=n+xs.length
 | [],_,_,_,h,e,he=>h e he
 | x::xs,t,i,n,h,e,he=>by
  have:=XdR xs (XaH t x i) (i+1) (n+1) (XfS x i h) e he
  rw [Xwn];omega
theorem XfP(y:Str):∀ (xs:List Str) (t:List (Str × List Nat)) (i:Nat),XaN t i (xs++[y])=XaH (XaN t i xs) y (i+xs.length)
 | [],_,_=>rfl
 | x::xs,t,i=>by
  rw [Xws]
  unfold XaN
  rw [XfP y xs,Xwn]
  congr 1;omega
def XO(es:EsT):List (Str × AV):=es.map fun e=>(e.1,.lst e.2.2)
theorem Xg8{es:EsT}{t:List (Str × List Nat)}(h:X9 es=Xbz t)(k:Str):Xz (XO es) k=(Xc6 t k).map fun js => .lst (avs js):=by
 have e:XO es=(Xbz t).map fun e=>(e.1,AV.lst e.2):=by rw [← h];simp [XO,X9]
 rw [e]
 clear h e
 induction t with
 | nil=>rfl
 | cons p r ih =>
  obtain ⟨x,js⟩:=p
  unfold Xz Xc6 Xbz at *
  rw [Xwr,Xwr,Xx1,Xx1]
  by_cases q:x=k
  ·simp [q]
  ·simp only [q,decide_false];exact ih
theorem Xpw{es:EsT}{b:List Str}(h:X9 es=Xbz (XaN [] 0 b))(hb:b.length<200)(k:Str):(Xz (XO es) k).getD (.lst []) = .lst (avs (XM b k)):=by
 have hT:TabOk (XaN [] 0 b) b:=by simpa using TabOk.chain b TabOk.nil
 have hp:Xdd b k=false:=by unfold Xdd;simp [Nat.not_le.mpr hb]
 rw [Xg8 h,hT k]
 unfold XM
 rw [hp]
 by_cases q:Xa9 b k=[]
 ·rw [if_pos q,q];rfl
 ·rw [if_neg q];rfl
end
section
variable{prog:Xwx}{w:XwE}{A:Xww}{B:Frz}{env:Env}
def FT(prog:Xwx)(w:XwE)(A:Xww)(B:Frz)(env:Env)(elts:List Expr)(vs:List AV)(st:St)(K:Unit->St->Prop):Prop:=FA prog w A B env (elts.map fun e=>XxG e env) vs st K
theorem XuW{st:St}{K:Unit->St->Prop}(h:K () st):FT prog w A B env [] [] st K:=XkZ h
theorem XtG{t:Expr}{ts:List Expr}{v:AV}{vs:List AV}{st:St}{K:Unit->St->Prop}(h:F1 prog w A B env XE (XxG t env) v st fun _ st'=>FT prog w A B env ts vs st' K):FT prog w A B env (t::ts) (v::vs) st K:=Xdg h
theorem XgM{elts:List Expr}{x1:Nat}{pos:Pos}{vs:List AV}{st:St}{K:Unit->St->Prop}(hh:A.handled=none)(he:(XxP elts env).map (·.2)=elts.map fun e=>XxG e env)(hn:elts.length=vs.length)(hstar:(XxP elts env).findIdx? (·.1)=none)
  (h:FT prog w A B env elts vs st K):F1 prog w A B env XE (XxG (.Tuple elts x1 pos) env) (.tup vs) st K :=
 Xht hh (by rw [← hn,← Xwi (f:=(·.2)) (as:=XxP elts env),he,Xwi]) hstar (by rw [he];exact h)
end
section
variable{prog:Xwx}{w:XwE}{A:Xww}{B:Frz}{env:Env}{loc:List (Str × AV)}{led led':Led}
theorem Xfi{K:Type}[DecidableEq K]{knd:Xy4 prog w K}{pos:Pos}{R:AV->St->Prop}(h:∀ d,d∉keys led->B d=none->R (.ref d) ⟨loc,(d,Xl knd [])::led⟩):T prog w A B env Val (Xxy (.Dict [] [] pos) env) ⟨loc,led⟩ R:=fun s Z S Q E hQ=>by
 have P:=S.toSimL.push (o:={ cls := .type "dict",data := .dict #[]}) (ao:=Xl knd []) rfl s.toks (Xd4 (Heap.DictOf.new s.heap) .nil)
 have hB:B s.heap.objs.size=none:=by
  cases e:B s.heap.objs.size with
  | none=>rfl
  | some o=>have:=S.base _ _ e;rw [S.toSimL.zfresh] at this;cases this
 have hq:=hQ _ _ _ _ _ (h _ S.toSimL.lfresh hB) (S.after P.1 P.2) (.ref _) P.2.toF
 rw [eval_Dict_empty]
 exact Xwe (XwQ (Xwe (wpAny_alloc (Xwg hq))))
theorem XpM{pos:Pos}{R:AV->St->Prop}(hs:spliced (Xyp pos (Xw9 [] env))=spliced [])(h:∀ a,a∉keys led->R (.ref a) ⟨loc,(a,.list [])::led⟩):T prog w A B env Val (Xxy (.List [] pos) env) ⟨loc,led⟩ R :=
 Xmg (Xhh ⟨by decide,h⟩)
theorem XN{a:XwR}{xs:List AV}{v:AV}{K:AV->St->Prop}(U:Upd a (.list xs) (.list (xs++[v])) led led')(hsz:xs.length<=XwZ)(h:K .none ⟨loc,led'⟩) :
  FC prog w A B env (.blt "list.append") [.ref a,v] [] ⟨loc,led⟩ K:=Xfo hsz U h
theorem Xst{R:AV->St->Prop}(h:∀ a,a∉keys led->R (.ref a) ⟨loc,(a,Xav)::led⟩):FC prog w A B env (.typ "set") [] [] ⟨loc,led⟩ R:=XtI h
theorem Xii{K:Type}[DecidableEq K]{knd:Xy4 prog w K}{d:XwR}{m:List (K × AV)}{v u:AV}{k:K}{R:AV->St->Prop}(U:Upd d (Xl knd m) (Xl knd (m++[(k,u)])) led led')(hds:(d == Xx5)=false)(hk:∀ Z x,Val Z v x->knd.is k x=true)(hsz:m.length<=XwZ)
  (h1:∀ x,Xz m k=some x->R x ⟨loc,led⟩) (h2:Xz m k=none->R u ⟨loc,led'⟩) :
  FC prog w A B env (.blt "dict.setdefault") [.ref d,v,u] [] ⟨loc,led⟩ R:=Xi9 hds hk hsz U h1 h2
end
theorem XlU{prog:Xwx}{w:XwE}{A:Xww}{K:Frag}{env:Env}{C d:XwR}{name:Str}{m m':List (Str × AV)}{v:AV}{loc:List (Str × AV)}{led led':Led}{R:Unit->St->Prop}(ok:ClsOk K C)(ht:takerIn K C name=some none)
  (U:Upd d (X7 m) (X7 m') led led') (hm:XaQ m name v=m') (hsz:m'.length<=1000) (h:R () ⟨loc,led'⟩):F2 prog w A (Xg K) env XE (fun x y=>setAttr x name y) (.inst C d) v ⟨loc,led⟩ R:=Xhr ok ht hm hsz U h
section
variable{prog:Xwx}{w:XwE}{A:Xww}{B:Frz}{env:Env}{loc:List (Str × AV)}{led led':Led}
def WkL(l l':Led):Prop:=∃ r,l.Perm (r++l')
theorem WkL.refl(l:Led):WkL l l:=⟨[],.refl _⟩
theorem WkL.drop{p:XwR × AObj}{l:Led}:WkL (p::l) l:=⟨[p],.refl _⟩
theorem WkL.perm{l l':Led}(h:l.Perm l'):WkL l l':=⟨[],h⟩
theorem SimF.weak{s:Xwl}{Z:Frz}{l l':Led}(S:SimF B env s Z ⟨loc,l⟩)(h:WkL l l'):SimF B env s Z ⟨loc,l'⟩:=by
 obtain ⟨r,p⟩:=h
 exact (S.perm p).drop
theorem Ext.weakF{o:Own}{s s':Xwl}{Z Z':Frz}{l l':Led}(X:Ext o s Z s' Z' (Xk env ⟨loc,l⟩))(h:WkL l l'):Ext o s Z s' Z' (Xk env ⟨loc,l'⟩):=by
 obtain ⟨r,p⟩:=h
 rw [XY (env:=env) (loc:=loc) (loc':=loc) p] at X
 exact Ext.dropF X
theorem FC.weak{f:AV}{args:List AV}{kw:List (Str × AV)}{st:St}{K K0:AV->St->Prop}(h:FC prog w A B env f args kw st K0)(hw:∀ v loc' l,K0 v ⟨loc',l⟩->∃ l',WkL l l'/\K v ⟨loc',l'⟩):FC prog w A B env f args kw st K :=
 fun s Z fx xs ks hf hx hk S Q E hQ=>h s Z fx xs ks hf hx hk S Q E fun v x s' Z' st' k S' V X=>by
  obtain ⟨l',hl,k'⟩:=hw v st'.loc st'.led k
  exact hQ v x s' Z' _ k' (SimF.weak (loc:=st'.loc) (l:=st'.led) S' hl) V (Ext.weakF (loc:=st'.loc) (l:=st'.led) X hl)
theorem T.weakPost{α β:Type}{rel:Frz->α->β->Prop}{t:Sem β}{st:St}{K K0:α->St->Prop}(h:T prog w A B env rel t st K0)(hw:∀ v loc' l,K0 v ⟨loc',l⟩->∃ l',WkL l l'/\K v ⟨loc',l'⟩):T prog w A B env rel t st K :=
 fun s Z S Q E hQ=>h s Z S Q E fun v x s' Z' st' k S' V X=>by
  obtain ⟨l',hl,k'⟩:=hw v st'.loc st'.led k
  exact hQ v x s' Z' _ k' (SimF.weak (loc:=st'.loc) (l:=st'.led) S' hl) V (Ext.weakF (loc:=st'.loc) (l:=st'.led) X hl)
theorem Xih{dj a:XwR}{es:EsT}{y:Str}{R:AV->St->Prop}{rest:Led}(hds:(dj == Xx5)=false)(hsz:es.length<=XwZ)
  (h:∀ es1 a' js es2,(∀ v,XbK (X9 es) y v=X9 (es1++(y,a',js++[v])::es2))->R (.ref a') ⟨loc,(dj,Xl (XwP prog w) (Xa3 (es1++(y,a',js)::es2)))::(XcW es1++(a',.list js)::(XcW es2++rest))⟩) :
  FC prog w A B env (.blt "dict.setdefault") [.ref dj,.str y,.ref a] [] ⟨loc,(a,.list [])::(dj,Xl (XwP prog w) (Xa3 es))::(XcW es++rest)⟩ R:=by
 refine (Xii (knd:=XwP prog w) (k:=y) (m:=Xa3 es) (led':=(a,.list [])::(dj,Xl (XwP prog w) (Xa3 es++[(y,.ref a)]))::(XcW es++rest)) (R:=fun v st'=>∃ l',WkL st'.led l'/\R v ⟨st'.loc,l'⟩) (.there .here) hds (Xfs y) (by unfold Xa3;rw [Xwi];exact hsz) (fun v hv=>?_) fun hv=>?_).weak fun v loc' l k=>k
 ·obtain ⟨es1,a',js,es2,rfl,rfl,hne⟩:=XdF hv
  refine ⟨_,.drop,?_⟩
  have:=h es1 a' js es2 fun v=>XfT hne
  simpa [XcW] using this
 ·have hne:=Xg7 hv
  refine ⟨(dj,Xl (XwP prog w) (Xa3 (es++[(y,a,[])])))::(XcW es++(a,.list [])::(XcW []++rest)),.perm ?_,h es a [] [] fun v=>XiJ hne⟩
  have e:Xa3 (es++[(y,a,[])])=Xa3 es++[(y,.ref a)]:=by simp [Xa3]
  rw [e]
  refine (XxX ..).trans (.cons _ ?_)
  show Xxd ((a,AObj.list [])::(XcW es++rest)) (XcW es++(a,AObj.list [])::rest)
  exact XxN.symm
end
theorem XgX{P Q:Prop}(h:Q):if false=true then P else Q:=h
theorem Xuf{P Q:Prop}(h:P):if true=true then P else Q:=h
theorem XsX{P Q:Prop}(h:Q):if (!true)=true then P else Q:=h
theorem XsY{P Q:Prop}(h:P):if (!false)=true then P else Q:=h
section
variable{prog:Xwx}{w:XwE}{A:Xww}{B:Frz}{env:Env}
theorem SimL.weak{s:Xwl}{Z:Frz}{l l':Led}(S:SimL B s Z l)(h:WkL l l'):SimL B s Z l':=by
 obtain ⟨r,p⟩:=h
 exact (S.perm p).drop
theorem Ext.weakL{o:Own}{s s':Xwl}{Z Z':Frz}{l l':Led}(X:Ext o s Z s' Z' (Xh l))(h:WkL l l'):Ext o s Z s' Z' (Xh l'):=by
 obtain ⟨r,p⟩:=h
 rw [Xaj p] at X
 refine X.less (fun a h=>?_) fun a h=>?_
 ·show a∈keys (r++l')
  rw [keys,XwH];exact XwM _ h
 ·show a∈gkeys (r++l')
  unfold gkeys;rw [Xyt];exact XwM _ h
theorem TC.weak{f:AV}{args:List AV}{kw:List (Str × AV)}{led:Led}{K:AV->Led->Prop}(h:TC prog w A B f args kw led fun v l=>∃ l',WkL l l'/\K v l'):TC prog w A B f args kw led K :=
 fun s Z fx xs ks S hf hx hk R hR=>h s Z fx xs ks S hf hx hk R fun v x s' Z' led' k S' V X=>by
  obtain ⟨l',hl,k'⟩:=k
  exact hR v x s' Z' l' k' (S'.weak hl) V (X.weakL hl)
theorem TC.mono{f:AV}{args:List AV}{kw:List (Str × AV)}{led:Led}{K K':AV->Led->Prop}(h:TC prog w A B f args kw led K)(hk:∀ v l,K v l->K' v l):TC prog w A B f args kw led K' :=
 fun s Z fx xs ks S hf hx hkw R hR=>h s Z fx xs ks S hf hx hkw R fun v x s' Z' led' k S' V X=>hR v x s' Z' led' (hk _ _ k) S' V X
end
section
variable{prog:Xwx}{w:XwE}{A:Xww}{B:Frz}{env:Env}
theorem Xsk{x y:Str}{px py p1 p2 pos:Pos}{n1 n2:Nat}{e1 e2:Expr}{st:St}{R:AFlow->St->Prop}(hh:A.handled=none)
  (hs:swapsWithSole [.Tuple [.Name x px,.Name y py] n1 p1] (.Tuple [e1,e2] n2 p2) pos.line env=XxW false) (hw:swappedStores [.Tuple [.Name x px,.Name y py] n1 p1] (.Tuple [e1,e2] n2 p2) env=XxW (some [x,y]))
  (hst:Xw9 [e1,e2] env=(false,Xxy e1 env)::Xw9 [e2] env) (hst':Xw9 [e2] env=(false,Xxy e2 env)::Xw9 [] env)
  (h:T prog w A B env Val (Xxy e1 env) st fun v1 st₁=>T prog w A B env Val (Xxy e2 env) st₁ fun v2 st₂=>F1 prog w A B env XE (XyU env y) v2 st₂ fun _ st₃=>F1 prog w A B env XE (XyU env x) v1 st₃ fun _ st₄=>R .next st₄) :
  T prog w A B env FVal (exec (.Assign [.Tuple [.Name x px,.Name y py] n1 p1] (.Tuple [e1,e2] n2 p2) pos) env) st R:=by
 refine XeJ hh hs hw (XgD ?_)
 refine Xde hst (h.mono fun v1 st₁ h₁=>Xde (rest:=[]) hst' (h₁.mono fun v2 st₂ h₂=>Xhh ⟨(by decide:2<=XwZ),[v1,v2],rfl,rfl,?_⟩))
 exact Xdg (Xd8 fun s Z u V S Q E hQ=>h₂ s Z u V S Q E fun v x s' Z' st' k=>hQ v x s' Z' st' (Xdg (Xd8 fun s Z u V S Q E hQ=>k s Z u V S Q E fun v x s' Z' st' k=>hQ v x s' Z' st' (XkZ k))))
theorem Xsj{x y z:Str}{px py pz p1 p2 pos:Pos}{n1 n2:Nat}{e1 e2 e3:Expr}{st:St}{R:AFlow->St->Prop}(hh:A.handled=none)
  (hs:swapsWithSole [.Tuple [.Name x px,.Name y py,.Name z pz] n1 p1] (.Tuple [e1,e2,e3] n2 p2) pos.line env=XxW false) (hw:swappedStores [.Tuple [.Name x px,.Name y py,.Name z pz] n1 p1] (.Tuple [e1,e2,e3] n2 p2) env=XxW (some [x,y,z]))
  (hst:Xw9 [e1,e2,e3] env=(false,Xxy e1 env)::Xw9 [e2,e3] env) (hst':Xw9 [e2,e3] env=(false,Xxy e2 env)::Xw9 [e3] env) (hst'':Xw9 [e3] env=(false,Xxy e3 env)::Xw9 [] env)
  (h:T prog w A B env Val (Xxy e1 env) st fun v1 st₁=>T prog w A B env Val (Xxy e2 env) st₁ fun v2 st₂=>T prog w A B env Val (Xxy e3 env) st₂ fun v3 st₃=>F1 prog w A B env XE (XyU env z) v3 st₃ fun _ st₄=>F1 prog w A B env XE (XyU env y) v2 st₄ fun _ st₅=>F1 prog w A B env XE (XyU env x) v1 st₅ fun _ st₆=>R .next st₆) :
  T prog w A B env FVal (exec (.Assign [.Tuple [.Name x px,.Name y py,.Name z pz] n1 p1] (.Tuple [e1,e2,e3] n2 p2) pos) env) st R:=by
 refine XeJ hh hs hw (XgD ?_)
 refine Xde hst (h.mono fun v1 st₁ h₁=>Xde (rest:=[e3]) hst' (h₁.mono fun v2 st₂ h₂=>Xde (rest:=[]) hst'' (h₂.mono fun v3 st₃ h₃=>Xhh ⟨(by decide:3<=XwZ),[v1,v2,v3],rfl,rfl,?_⟩)))
 exact Xdg (Xd8 fun s Z u V S Q E hQ=>h₃ s Z u V S Q E fun v x s' Z' st' k=>hQ v x s' Z' st' (Xdg (Xd8 fun s Z u V S Q E hQ=>k s Z u V S Q E fun v x s' Z' st' k=>hQ v x s' Z' st' (Xdg (Xd8 fun s Z u V S Q E hQ=>k s Z u V S Q E fun v x s' Z' st' k=>hQ v x s' Z' st' (XkZ k))))))
end
section
variable{prog:Xwx}{w:XwE}{A:Xww}{B:Frz}{env:Env}
theorem Xr{f:AV}{args:List AV}{kw:List (Str × AV)}{loc:List (Str × AV)}{led:Led}{K:AV->St->Prop}{K0:AV->Led->Prop}(h:TC prog w A B f args kw led K0)(hk:∀ v led',K0 v led'->K v ⟨loc,led'⟩):FC prog w A B env f args kw ⟨loc,led⟩ K :=
 XgG (h.mono hk)
theorem Xpm{K:Frag}{f:XwR}{k:Keeper}(e:Xxa K ⟨prog,w.params⟩ (keeperOf (.ref f))=some k):XdU prog w (Xg K) (.ref f):=fun A s Z fx V le fr Q E hQ=>by
 cases V
 exact XyF (M:=XwD prog w) (XT le fr) e A Q E s (fun b o e=>e) (hQ k)
theorem Xpl{K:Frag}{f:XwR}(e:(Xxa K ⟨prog,w.params⟩ (keeperOf (.ref f))).isSome=true):XdU prog w (Xg K) (.ref f):=by
 obtain ⟨k,e⟩:=Option.isSome_iff_exists.mp e
 exact Xpm e
end
theorem XgJ{prog:Xwx}{w:XwE}{A:Xww}{B:Frz}{env:Env}{K:Type}[DecidableEq K]{knd:Xy4 prog w K}{d:XwR}{m:List (K × AV)}{v u:AV}{k:K}{loc:List (Str × AV)}{led led':Led}{R:Unit->St->Prop}(U:Upd d (Xl knd m) (Xl knd (Xbb m k u)) led led')
  (hk:∀ Z x,Val Z v x->knd.is k x=true) (hsz:m.length<=XwZ) (h:R () ⟨loc,led'⟩):F3 prog w A B env setItem (.ref d) v u ⟨loc,led⟩ R:=Xho hk hsz rfl U h
section
variable{prog:Xwx}{w:XwE}{A:Xww}{B:Frz}{env:Env}
theorem TC.perm{f:AV}{args:List AV}{kw:List (Str × AV)}{l l':Led}{K:AV->Led->Prop}(p:l.Perm l')(h:TC prog w A B f args kw l' K):TC prog w A B f args kw l K :=
 fun s Z fx xs ks S hf hx hk R hR=>h s Z fx xs ks (S.perm p) hf hx hk R fun v x s' Z' led' k S' V X=>hR v x s' Z' led' k S' V (by rw [Xaj p];exact X)
theorem XtJ{f:AV}{args:List AV}{kw:List (Str × AV)}{loc:List (Str × AV)}{led led1:Led}{K:AV->St->Prop}{K0:AV->Prop}(p:led.Perm led1)(h:TC prog w A B f args kw led1 fun v l=>K0 v/\l=led1)(hk:∀ v,K0 v->K v ⟨loc,led⟩):FC prog w A B env f args kw ⟨loc,led⟩ K :=
 FC.weak (K0:=fun v st'=>K0 v/\st'=⟨loc,led1⟩) (XgG ((TC.perm p h).mono fun v l h'=>⟨h'.1,by rw [h'.2]⟩)) fun v loc' l h'=>by
  obtain ⟨h1,h2⟩:=h'
  cases h2
  exact ⟨led,.perm p.symm,hk v h1⟩
theorem XtK{a:XwR}{xs:List AV}{v:AV}{loc:List (Str × AV)}{led led':Led}{K:AV->St->Prop}(U:Upd a (.list (xs++[v])) (.list xs) led led')(hsz:xs.length<XwZ)(h:K v ⟨loc,led'⟩) :
  FC prog w A B env (.blt "list.pop") [.ref a] [] ⟨loc,led⟩ K:=XuX hsz U h
theorem Xow{t u r value:Expr}{pos:Pos}{st:St}{R:AFlow->St->Prop}(hs:swapsWithSole [t,u,r] value pos.line env=XxW false)(hw:swappedStores [t,u,r] value env=XxW none)(he:XxP [t,u,r] env=[(false,XxG t env),(false,XxG u env),(false,XxG r env)])
  (h:T prog w A B env Val (Xxy value env) st fun v st₁=>F1 prog w A B env XE (XxG t env) v st₁ fun _ st₂=>F1 prog w A B env XE (XxG u env) v st₂ fun _ st₃=>F1 prog w A B env XE (XxG r env) v st₃ fun _ st₄=>R .next st₄):T prog w A B env FVal (exec (.Assign [t,u,r] value pos) env) st R :=
 Xfh hs hw (by
  rw [he]
  exact h.mono fun v st' k=>XdX (fun s Z x V S Q E hQ=>k s Z x V S Q E fun v' x' s' Z' st' k'=>hQ v' x' s' Z' st' (XdX k')))
end
section
variable{prog:Xwx}{w:XwE}{A:Xww}{K:Frag}{E:Value->Xwl->Prop}{s:Xwl}
theorem XaS{α:Type}{t:Sem α}{a:α}{Q:α->Xwl->Prop}(X:K.In s.heap)(e:Xxa K ⟨prog,w.params⟩ t=some a)(h:Q a s):XwG (XwD prog w) A t Q E s :=
 XyF (M:=XwD prog w) X e A Q E s (fun b o e=>e) h
structure MatOk (prog:Xwx) (w:XwE) (K:Frag) (C:XwR):Prop where
 isT:Xxa K ⟨prog,w.params⟩ (isType (.ref C))=some true
 sub:Xxa K ⟨prog,w.params⟩ (XyI (.ref C) (.type "tuple"))=some true
 here:Xxa K ⟨prog,w.params⟩ (Bind.madeHere "tuple.__new__" (.ref C))=some ()
 ini:Xxa K ⟨prog,w.params⟩ (Xxz (.ref C) "__init__")=some (some (.builtin "object.__init__"))
 del:Xxa K ⟨prog,w.params⟩ (classHasDel C)=some false
theorem XiW{C t:XwR}{o:Obj}{items:Array Value}{n:Nat}{P:PySem.Fin->Xwl->Prop}(ok:MatOk prog w K C)(X:K.In s.heap)(ho:s.heap.get? t=some o)(hc:o.cls = .type "tuple")(hd:o.data = .seq items n)(hsz:items.size<=XwZ)
  (h:∀ h':Heap,(∀ b o',s.heap.get? b=some o'->h'.get? b=some o')->P (.done (.ret (.ref (h'.objs.size+1)))) {s with heap:=(h'.push {cls := .type "dict",data := .dict #[]}).push {cls := .ref C,dict:=some h'.objs.size,data := .seq items} }) :
  XwG (XwD prog w) A (Builtin.«tuple.__new__» ⟨[.ref C,.ref t],[]⟩) P E s:=by
 unfold Builtin.«tuple.__new__»
 refine Xwe (XaS X ok.isT ?_)
 refine Xxl rfl ?_
 refine Xwe (XaS X ok.sub ?_)
 refine Xxl rfl ?_
 refine Xwe (XaS X ok.here ?_)
 refine Xwe (XaS X ok.ini ?_)
 refine KFB.if_so (by decide +kernel) ?_
 refine Xwe (Xxg (a:=()) rfl ?_)
 refine Xwe (Xxg (a:=()) @_ ?_)
 refine Xxl rfl ?_
 refine Xwe (wpAny_collect_seq t (.inr rfl) ho hc hd (fun h' hk=>?_) hsz)
 refine Xwe (Xwg ?_)
 refine Xwe (wpAny_alloc ?_)
 refine Xwe ?_
 unfold newObj
 dsimp only
 rw [if_neg (by simpa using Nat.not_lt.mpr hsz)]
 unfold newObjAsIs
 refine Xwe (wpAny_alloc ?_)
 dsimp only
 have X':K.In ((h'.push {cls := .type "dict",data := .dict #[]}).push {cls := .ref C,dict:=some h'.objs.size,data := .seq items}):=fun a o e=>Xwq _ (Xwq _ (hk a o (X a o e)))
 have e1:(h'.push {cls := .type "dict",data := .dict #[]}).objs.size=h'.objs.size+1:=XyM ..
 have fin:=h h' hk
 rw [← e1] at fin
 refine Xwe (XaS (K:=K) (by simpa using X') ok.del ?_)
 refine Xxl rfl ?_
 refine Xwg ?_
 refine Xwg ?_
 simpa using fin
end
section
variable{prog:Xwx}{w:XwE}{A:Xww}{K:Frag}{env:Env}
theorem XrU{E:Value->Xwl->Prop}{s:Xwl}{T' id:String}{name:Str}{pl:Sem Bool}{Q:Value × List Value->Xwl->Prop}(X:K.In s.heap)(hst:Manifest.isStub T'=false)(hty:typeOf (.type T')=XxW (.type "type"))
  (hg:findIn K (.type "type") "__getattribute__" = some (some (.builtin "type.__getattribute__"))) (hsub:subIn K (.type "type") (.type "type")=some true)
  (e:findCls K (.type T') (.type "type") name=some (.val (.builtin id))) (hh:handedOut (.builtin id)=XxW (.builtin id)) (h:Q (.builtin id,[]) {s with toks:=s.toks+1}):XwG (XwD prog w) A (getMethod (.type T') name pl) Q E s:=by
 have hstub:opaqueClassAbove (.type T')=XxW none:=by unfold opaqueClassAbove;dsimp only;rw [hst];rfl
 have L0:Looks (XwD prog w) s.heap (typeOf (.type T')) (.type "type"):=Looks.of_pure hty
 unfold getMethod specialOf
 refine Xwe (Xwe (L0.here ((looks_findIn X hg).here ?_)))
 dsimp only
 rw [if_pos canon_tga]
 refine Xwe (Xw8 (Q:=fun v=>Q (v,[])) (E:=E) ?_ (fun _ _ z=>Xwg z) fun _ _ z=>z)
 have LO:Looks (XwD prog w) s.heap (opaqueClassAbove (.type T')) none:=Looks.of_pure hstub
 refine cls_open X LO L0 hg (looks_hook X (r:=none) (by rfl)) hsub e ?_
 refine Xwg ?_
 show XwG _ _ (handedOut (.builtin id)) _ _ _
 rw [hh]
 exact Xwg h
theorem XkO{o:Expr}{name:Str}{apos pos:Pos}{args:List Expr}{T' id:String}{st:St}{R:AV->St->Prop}
  (hbase:attributeBase o name env (Xxy o env)=Xxy o env)
  (hfew:((Xyp pos (Xw9 args env)).all (fun x => !x.1) && (backToKw pos (keywordEach [] env)).all (fun x=>x.1.isSome)
   && decide (args.length+([]:List Keyword).length+(if ([]:List Keyword).isEmpty then 0 else 1)<30))=true)
  (hline:(apos.endLine == pos.line)=true) (hst:Manifest.isStub T'=false) (hty:typeOf (.type T')=XxW (.type "type"))
  (hg:findIn K (.type "type") "__getattribute__" = some (some (.builtin "type.__getattribute__"))) (hsub:subIn K (.type "type") (.type "type")=some true)
  (e:findCls K (.type T') (.type "type") name=some (.val (.builtin id))) (hh:handedOut (.builtin id)=XxW (.builtin id))
  (h:T prog w A (Xg K) env Val (Xxy o env) st fun v st₁=>v = .typ T'/\CA prog w A (Xg K) env pos (.blt id) [] args st₁ R) :
  T prog w A (Xg K) env Val (Xxy (.Call (.Attribute o name apos) args [] pos) env) st R:=fun s Z S Q E hQ=>by
 rw [arm_eval_Call,hbase]
 refine Xwe (h s Z S _ _ fun v x s₁ Z₁ st₁ k₁ S₁ V₁ X₁=>Xwe (XwQ ?_))
 obtain ⟨rfl,hc⟩:=k₁
 cases V₁
 have hform:methodCallForm (args.length+([]:List Keyword).length) (Xyp pos (Xw9 args env)) (backToKw pos (keywordEach [] env))=true:=hfew
 have hpos:methodCallPos true o env apos pos=XxW pos:=by unfold methodCallPos;simp [hline]
 unfold methodCall
 rw [hform]
 refine Xwe (Xwt (XrU (K:=K) (XT S₁.base S₁.frozen) hst hty hg hsub e hh ?_))
 refine Xwe (Xxg hpos ?_)
 exact hc _ Z₁ (.builtin id) [] (.blt id) .nil (S₁.toks _) _ _ fun v y s' Z' st' k S' V X=>hQ v y s' Z' st' k S' V ((X₁.trans (.toks _)).trans X)
theorem Xfk{C:XwR}{xs:List AV}{st:St}{R:AV->St->Prop}(ok:MatOk prog w K C)(hsz:xs.length<=XwZ)(hchk:∀ x,Xxa K ⟨prog,w.params⟩ (checkBuiltinCall "tuple.__new__" ⟨[.ref C,x],[]⟩)=some ())(h:R (.mat C xs) st) :
  FC prog w A (Xg K) env (.blt "tuple.__new__") [.ref C,.tup xs] [] st R:=fun s Z fx ys ks hf hx hk S Q E hQ=>by
 cases hf
 cases hk
 cases hx with
 | cons h1 hx=>cases hx with
  | cons h2 hx =>
   cases hx
   cases h1
   cases h2 with
   | @tup a _ items n e hv =>
    refine Xyl (Xx3 (b:=Builtin.«tuple.__new__») (by decide +kernel) (Xyf @_) (XaS (XT S.base S.frozen) (hchk _) ?_))
    refine XiW (items:=items.toArray) ok (XT S.base S.frozen) (S.frozen _ _ e) rfl rfl (by simpa [hv.length] using hsz) fun h' hk=>?_
    have P0:=S.keepAll (h':=h') (tk:=s.toks) hk
    have P1:=P0.1.toSimL.push0 (o:={ cls := .type "dict",data := .dict #[]}) s.toks
    have P2:=P1.1.pushZ (o:={ cls := .ref C,dict:=some h'.objs.size,data := .seq items.toArray}) rfl s.toks
    have X:=P1.2.trans P2.2
    have hs:(h'.push {cls := .type "dict",data := .dict #[]}).objs.size=h'.objs.size+1:=XyM ..
    refine hQ _ _ _ _ _ h (P0.1.after P2.1 X) ?_ (P0.2.trans X.toF)
    rw [← hs]
    exact .mat (Frz.add_at ..) (hv.mono X.le)
end
section
structure MatCall (prog:Xwx) (w:XwE) (K:Frag) (C fN:XwR):Prop where
 obj:∃ o cd,K.lookup C=some o/\o.data = .cls cd
 call:Xxa K ⟨prog,w.params⟩ (specialOf (.ref C) "__call__")=some (some (.builtin "type.__call__"))
 typ:Xxa K ⟨prog,w.params⟩ (isInstance (.ref C) (.type "type"))=some true
 mro:∃ l,Xxa K ⟨prog,w.params⟩ (mroOf (.ref C))=some l/\l.isEmpty=false
 made:Xxa K ⟨prog,w.params⟩ (Bind.madeBy (.ref C))=some none
 reads:readsIn K C (.type "type")=true
 new:∃ p rest,findCls K (.ref C) (.type "type") "__new__" = some (.get (.builtin "staticmethod.__get__") (.ref p) .none (.ref C))/\recIn K p "staticmethod" = some (.ref fN::rest)
 sub:Xxa K ⟨prog,w.params⟩ (XyI (.ref C) (.ref C))=some true
 subo:Xxa K ⟨prog,w.params⟩ (XyI (.ref C) (.type "object"))=some true
 ini:Xxa K ⟨prog,w.params⟩ (Xxz (.ref C) "__init__")=some (some (.builtin "object.__init__"))
section
variable{prog:Xwx}{w:XwE}{A:Xww}{K:Frag}{env:Env}
theorem Xfy(a b c d:Value):XyY "object.__init__" ⟨[a,b,c,d],[]⟩:=by unfold XyY;kernel_rfl
theorem XuP{C fN:XwR}{x y z:AV}{xs:List AV}{led:Led}{R:AV->Led->Prop}{k:Nat}(hA:Room A (k+1))(ok:MatCall prog w K C fN)
  (h:∀ A',Room A' k->TC prog w A' (Xg K) (.ref fN) [.ref C,x,y,z] [] led fun v led'=>v = .mat C xs/\R (.mat C xs) led') :
  TC prog w A (Xg K) (.ref C) [x,y,z] [] led R:=fun s Z fx vs ks S hfx hx hkw Q hQ=>by
 cases hfx
 cases hkw
 have hx0:=hx
 cases hx with
 | @cons _ x1 _ _ h1 hx=>cases hx with
  | @cons _ x2 _ _ h2 hx=>cases hx with
   | @cons _ x3 _ _ h3 hx =>
    cases hx
    have X:=XT S.base S.frozen
    obtain ⟨o,cd,ho,hd⟩:=ok.obj
    refine codeAny_of_tree ?_
    show XwG _ _ (callAny (.ref C) _) _ _ _
    unfold callAny
    refine Xwe (wpAny_load (X _ _ ho) ?_)
    rw [hd]
    show XwG _ _ (callAny.viaDunder (.ref C) _) _ _ _
    unfold callAny.viaDunder
    refine Xwe (XaS X ok.call ?_)
    dsimp only
    rw [tc_bind]
    refine Xwe (Xwg (Xwe (Xwg ?_)))
    refine Xwg (a:=Fin.again (.call (.builtin "type.__call__") ⟨.ref C::[x1,x2,x3],[]⟩)) (And.intro rfl ?_)
    refine codeAny_call_builtin_at (Code.quiet_builtin _ (by decide +kernel)) entry_typeCall (check_slot tc_kind tc_split (XyF X ok.typ) (tc_args _ _ _) ?_)
    unfold Builtin.«type.__call__»
    refine Xxl rfl ?_
    obtain ⟨l,hl1,hl2⟩:=ok.mro
    refine Xwe (XaS X hl1 ?_)
    refine Xxl hl2 ?_
    refine Xwe (XaS X ok.made ?_)
    dsimp only
    obtain ⟨p,rest,hn1,hn2⟩:=ok.new
    refine Xwe (cls_bind X ok.reads hn1 (Xyl (sm_get (s:={ s with toks:=s.toks+1}) X hn2 (handed_on rfl ?_))))
    refine Xwe (Xwt (Xyl ?_))
    have S1:SimL (Xg K) {s with toks:=s.toks+1} Z led:=⟨S.base,S.frozen,S.nodup,S.apart,fun p hp=>(S.own p hp).mono (.refl _) (fun _ e=>e) fun _ _ _ e=>e,S.gnodup,S.bare⟩
    refine h (A.under (.builtin "type.__call__" ⟨.ref C::[x1,x2,x3],[]⟩)) ⟨hA.h,?_,?_⟩ _ Z (.ref fN) _ [] S1 (.ref fN) (.cons (.ref C) hx0) .nil _ fun v x' s' Z' led' k S' V X'=>?_
    ·have e:(Code.builtin "type.__call__" ⟨.ref C::[x1,x2,x3],[]⟩).weight=1:=@_
     have:=hA.d
     show A.depth+(Code.builtin "type.__call__" ⟨.ref C::[x1,x2,x3],[]⟩).weight+k<=_
     rw [e];omega
    ·have e:(Code.builtin "type.__call__" ⟨.ref C::[x1,x2,x3],[]⟩).cUnits=1:=@_
     have:=hA.u
     show A.units+(Code.builtin "type.__call__" ⟨.ref C::[x1,x2,x3],[]⟩).cUnits+k<=_
     rw [e];omega
    ·obtain ⟨rfl,k⟩:=k
     have V0:=V
     cases V with
     | @mat a _ d _ items n e hv =>
      have X2:=XT S'.base S'.frozen
      have ha:=S'.frozen _ _ e
      have tl:Looks (XwD prog w) s'.heap (typeOf (.ref a)) (.ref C):=(Looks.ld ha).andThen .now
      refine Xwe (Xwe (tl.here (XaS X2 ok.sub ?_)))
      refine Xxl rfl ?_
      refine Xwe (Xwt ?_)
      unfold callSpecial? specialOf
      refine Xwe (Xwe (tl.here (XaS X2 ok.ini ?_)))
      dsimp only
      refine Xwt ?_
      refine Xwe (Xxg (F.slot_object_init.bind _) ?_)
      refine Xwe (Xyl (Xx3 F.slot_object_init.plain F.entry_object_init (check_slot (i := "object.__init__") (owner := "object") (n := "__init__") (by decide +kernel) (by decide +kernel) (tl.andThen (XyF X2 ok.subo)) (Xfy _ _ _ _) ?_)))
      unfold Builtin.«object.__init__»
      refine KFB.if_so rfl ?_
      refine Xwe (tl.here ?_)
      refine Xwe (XaS X2 ok.ini ?_)
      dsimp only
      refine Xwe (XaS X2 ok.made ?_)
      refine Xxl (by decide +kernel) ?_
      refine Xxl (by decide +kernel) ?_
      refine Xwg ?_
      refine Xwg ?_
      dsimp only
      refine Xxl rfl ?_
      refine Xwg ?_
      have X3:Ext (Xh led) s Z s' Z' (Xh led'):=⟨X'.le,X'.kept,X'.grow,X'.zgrow,X'.os,X'.gkept,X'.ggrow⟩
      exact hQ _ _ s' Z' led' k S' V0 X3
end
end
section
structure MatIt (prog:Xwx) (w:XwE) (K:Frag) (C:XwR):Prop where
 it:Xxa K ⟨prog,w.params⟩ (Xxz (.ref C) "__iter__")=some (some (.builtin "tuple.__iter__"))
 sub:Xxa K ⟨prog,w.params⟩ (XyI (.ref C) (.type "tuple"))=some true
section
variable{prog:Xwx}{w:XwE}{A:Xww}{K:Frag}{E:Value->Xwl->Prop}{s:Xwl}
theorem Xqt{it t:XwR}{i:Nat}{ot:Obj}{items:Array Value}{n:Nat}{x:Value}{Q:Option Value->Xwl->Prop}(hit:s.heap.IsTupleIter it t i)
  (hot:s.heap.get? t=some ot) (hdt:ot.data = .seq items n) (hx:items[i]? = some x)
  (hQ:∀ h',h'.IsTupleIter it t (i+1)->XwO it s.heap h'->Q (some x) {s with heap:=h' }) :
  XwG (XwD prog w) A (Xyc (.ref it)) Q E s:=by
 obtain ⟨o,ho,hc,hd⟩:=id hit
 unfold Xyc
 refine Xwe (Xyg (Xxb (name:=Xwk "__next__") hit.typeIs Xx4
  (Xw3 Xx4 hit.typeIs F.entry_tuple_iterator_next ?_ (F.args_tuple_iterator_next_1 _))))
 show XwG _ _ (field (.ref it) 0 >>= _) _ _ s
 refine Xwe (Xyv ho hd (x := .ref t) rfl ?_)
 refine Xxl rfl ?_
 refine Xwe (Xyv ho hd (x := .int i 0) rfl ?_)
 refine Xwe (XxT hot hdt ?_)
 simp only [XwY,hx]
 refine Xwe (wpAny_setField ho hd (by simp) (Xwg ⟨x,rfl,Xwg (hQ _ ?_ (XwT ..))⟩))
 exact ⟨_,XwW _ ho (Xyq (XyQ hd _)),(Obj.cls_mapFields ..).trans hc,by
  rw [XyQ hd];simp [Xxw]⟩
theorem XsJ{it t:XwR}{i:Nat}{ot:Obj}{items:Array Value}{n:Nat}{Q:Option Value->Xwl->Prop}(hh:A.handled=none)(hit:s.heap.IsTupleIter it t i)
  (hot:s.heap.get? t=some ot) (hdt:ot.data = .seq items n) (hx:items[i]? = none)
  (hQ:∀ h',Heap.ExtBut it s.heap h'->Q none {s with heap:=h' }):XwG (XwD prog w) A (Xyc (.ref it)) Q E s:=by
 obtain ⟨o,ho,hc,hd⟩:=id hit
 unfold Xyc
 refine Xwe (Xyg (Xxb (name:=Xwk "__next__") hit.typeIs Xx4
  (Xw3 Xx4 hit.typeIs F.entry_tuple_iterator_next ?_ (F.args_tuple_iterator_next_1 _))))
 show XwG _ _ (field (.ref it) 0 >>= _) _ _ s
 refine Xwe (Xyv ho hd (x := .ref t) rfl ?_)
 refine Xxl rfl ?_
 refine Xwe (Xyv ho hd (x := .int i 0) rfl ?_)
 refine Xwe (XxT hot hdt ?_)
 simp only [XwY,hx]
 refine Xwe (XxC (Xwe (wpAny_setField ho hd (by simp) ?_)))
 show XwG _ _ (newExc (.type "StopIteration") [] >>= _) _ _ _
 refine Xwe ?_
 simp only [newExc,newTuple]
 refine Xwe (Xxc ?_ (by size_fits))
 refine Xwe (m:=Xyh _ _) (Xxg (a:=Xxr) (by first | rfl | (simp only [Xyh];rfl)) ?_)
 refine Xxc ?_ (by size_fits)
 simp only [raiseNew]
 refine Xwe (wpAny_handled ?_)
 rw [show A.in1.handled=none from hh]
 refine Xwe (Xwg (wpAny_throw ?_))
 refine Xwe (XxL (T := "StopIteration") (b:=true) ⟨_,Xwp _ rfl,rfl⟩ isSubtype_stop ?_)
 exact Xwg (hQ _ (((XwT ..).extBut.push _).push _))
theorem Xjq{it t:XwR}{ot:Obj}{items:Array Value}{m:Nat}(hne:t≠it)(hdt:ot.data = .seq items m):∀ (n i:Nat) (s:Xwl) (Q:List Value->Xwl->Prop),s.heap.IsTupleIter it t i->s.heap.get? t=some ot->i+n<=items.size ->
  (∀ h',h'.IsTupleIter it t (i+n)->XwO it s.heap h'->Q ((items.toList.drop i).take n) {s with heap:=h' })->XwG (XwD prog w) A (draw (.ref it) n) Q E s
 | 0,i,s,Q,hit,_,_,hQ=>Xwg (by simpa using hQ s.heap hit (Heap.SameBut.refl ..))
 | n+1,i,s,Q,hit,hot,hle,hQ=>by
  have hlt:i<items.size:=by omega
  show XwG _ _ (Xyc (.ref it) >>= _) Q E s
  refine Xwe (Xqt hit hot hdt (x:=items[i]) (by simp [hlt]) fun h₁ hit₁ hs₁=>?_)
  refine Xwe (Xwt (Xjq hne hdt n (i+1) _ _ hit₁ ((hs₁.2 t hne).trans hot) nofun fun h₂ hit₂ hs₂=>Xwg ?_))
  have hd:items.toList.drop i=items[i]::items.toList.drop (i+1):=by simp [XxJ,hlt]
  have:=hQ h₂ (by rw [show i+(n+1)=i+1+n by omega];exact hit₂) (hs₁.trans hs₂)
  rw [hd,List.take_succ_cons] at this
  exact this
theorem XrC{C a d:XwR}{items:Array Value}{n:Nat}{Q:Value->Xwl->Prop}(ok:MatIt prog w K C)(X:K.In s.heap)(ha:s.heap.get? a=some {cls := .ref C,dict:=some d,data := .seq items n})
  (hQ:Q (.ref s.heap.objs.size) {s with heap:=s.heap.push {cls := .type "tuple_iterator",data := .fields #[.ref a,.int 0 0]} }) :
  XwG (XwD prog w) A (pyIter (.ref a)) Q E s:=by
 have tl:Looks (XwD prog w) s.heap (typeOf (.ref a)) (.ref C):=(Looks.ld ha).andThen .now
 have hc:XwG (XwD prog w) A (call (.builtin "tuple.__iter__") [.ref a]) (fun v s'=>v = .ref s.heap.objs.size/\s'={ s with heap:=s.heap.push {cls := .type "tuple_iterator",data := .fields #[.ref a,.int 0 0]} }) (fun _ _=>False) s:=by
  refine Xyl (Xx3 F.slot_tuple_iter.plain F.entry_tuple_iter (check_slot (i := "tuple.__iter__") (owner := "tuple") (n := "__iter__") (by decide +kernel) (by decide +kernel) (tl.andThen (XyF X ok.sub)) (F.args_tuple_iter_1 _) ?_))
  show XwG _ _ (do ret (← newFields "tuple_iterator" [.ref a,Xxw 0])) _ _ s
  exact Xwe (Xxc (Xwg ⟨rfl,rfl⟩))
 unfold pyIter specialOf
 refine Xwe (Xwe (tl.here (XaS X ok.it ?_)))
 dsimp only
 refine Xwe ?_
 simp only [callSpecialIfBoundUnlessNone?,bindSpecialIfBound?]
 refine Xwt (Xwe ?_)
 unfold specialOf
 refine Xwe (Xwe (tl.here (XaS X ok.it ?_)))
 simp only [F.slot_tuple_iter.bind]
 refine Xwe (wpAny_askSetting (wpAny_ite ?_))
 have hT':∀ hp:Heap,hp=s.heap.push {cls := .type "tuple_iterator",data := .fields #[.ref a,.int 0 0]}->({s with heap:=hp}:Xwl).TypeIs (.ref s.heap.objs.size) "tuple_iterator" := fun hp e=>by subst e;exact ⟨_,Xwp _ rfl,rfl⟩
 split
 ·refine Xwe (Xwg (Xwg ?_))
  refine Xxl rfl (Xwe (Xw8 hc (fun v s' h'=>?_) fun _ _ h'=>h'.elim))
  obtain ⟨rfl,rfl⟩:=h'
  exact Xwg (Xwe (XyT (hT' _ rfl) F.slot_tuple_iterator_next.lookup (Xwg hQ)))
 ·refine wpAny_tryCatch (Xwe (Xwg (Xwg ?_)))
  refine Xxl rfl (Xwe (Xw8 hc (fun v s' h'=>?_) fun _ _ h'=>h'.elim))
  obtain ⟨rfl,rfl⟩:=h'
  exact Xwg (Xwe (XyT (hT' _ rfl) F.slot_tuple_iterator_next.lookup (Xwg hQ)))
theorem Xn9{C a d:XwR}{items:Array Value}{n:Nat}{Q:List Value->Xwl->Prop}(hh:A.handled=none)(ok:MatIt prog w K C)(X:K.In s.heap)(ha:s.heap.get? a=some {cls := .ref C,dict:=some d,data := .seq items n})
  (hQ:∀ h',Heap.ExtBut s.heap.objs.size s.heap h'->Q items.toList {s with heap:=h' }):XwG (XwD prog w) A (unpackItems (.ref a) items.size none) Q E s:=by
 have tl:Looks (XwD prog w) s.heap (typeOf (.ref a)) (.ref C):=(Looks.ld ha).andThen .now
 have hlt:a≠s.heap.objs.size:=Xxu (Xw7 ha)
 unfold unpackItems
 refine Xwe ?_
 unfold notIterableAtAll specialOf
 refine Xwe (Xwe (tl.here (XaS X ok.it ?_)))
 refine KFB.if_so rfl ?_
 refine Xwg ?_
 refine Xxl rfl ?_
 refine Xwe (Xwt (XrC ok X ha ?_))
 refine Xwe (Xwt (Xjq (ot:={ cls := .ref C,dict:=some d,data := .seq items n}) hlt rfl items.size 0 _ _ ⟨_,Xwp _ rfl,rfl,rfl⟩ (Xwq _ ha) nofun fun h₁ hit₁ hs₁=>?_))
 have hall:List.take items.size (List.drop 0 items.toList)=items.toList:=by rw [List.drop_zero];exact List.take_of_length_le (by simp)
 rw [hall]
 rw [if_neg (by simp)]
 refine Xwe (Xwt (XsJ hh hit₁ ((hs₁.2 a hlt).trans (Xwq _ ha)) rfl (by simp) fun h₂ he₂=>?_))
 refine Xxl rfl ?_
 exact Xwg (hQ h₂ fun b o hb e=>he₂ b o hb (hs₁.extBut b o hb (Xwq _ e)))
end
section
variable{prog:Xwx}{w:XwE}{A:Xww}{K:Frag}{env:Env}
theorem Xje{elts:List Expr}{x1:Nat}{pos:Pos}{C:XwR}{vs:List AV}{st:St}{R:Unit->St->Prop}(hh:A.handled=none)(ok:MatIt prog w K C)(he:(XxP elts env).map (·.2)=elts.map fun e=>XxG e env)(hn:elts.length=vs.length)(hstar:(XxP elts env).findIdx? (·.1)=none)
  (h:FT prog w A (Xg K) env elts vs st R):F1 prog w A (Xg K) env XE (XxG (.Tuple elts x1 pos) env) (.mat C vs) st R:=fun s Z u V S Q E hQ=>by
 cases V with
 | @mat a _ d _ items n e hv =>
  have hln:(XxP elts env).length=items.toArray.size:=by
   rw [← Xwi (f:=(·.2)) (as:=XxP elts env),he,Xwi,hn,← hv.length];simp
  rw [arm_assign_Tuple]
  unfold unpack
  rw [hln,hstar,he]
  refine Xwe (XwQ (Xwe (Xwt (Xn9 hh ok (XT S.base S.frozen) (S.frozen _ _ e) fun h' hx=>?_))))
  obtain ⟨S',X'⟩:=S.ext1 hx
  exact h _ Z _ (by simpa using hv) S' Q E fun v x s'' Z'' st'' k' S'' V' X''=>hQ v x s'' Z'' st'' k' S'' V' (X'.trans X'')
end
end
def eqs(a b:List Str)(i j:Nat):Bool:=a[i]? == b[j]?
def XS(a b:List Str)(i:Nat):List Nat:=(a[i]?).elim [] (XM b)
def DRel(m:List (Int × AV))(D:Int->Nat):Prop:=∀ x,(Xz m x).getD (.int 0) = .int (D x)
theorem DRel.nil:DRel [] (fun _=>0):=fun _=>rfl
theorem DRel.store{m:List (Int × AV)}{D:Int->Nat}(h:DRel m D)(j:Int)(k:Nat):DRel (Xbb m j (.int k)) (fun x=>if x=j then k else D x):=fun x=>by
 rw [Xi1]
 dsimp only
 by_cases e:x=j
 ·rw [if_pos e,if_pos e];rfl
 ·rw [if_neg e,if_neg e];exact h x
structure SInv (alo blo bhi i:Nat) (s:(Int->Nat) × Tri):Prop where
 d1:∀ x,s.1 x<=i - alo
 d2:∀ x,0<s.1 x->(blo:Int)<=x/\(s.1 x:Int)<=x+1 - blo
 b1:alo<=s.2.1
 b2:s.2.1+s.2.2.2<=i
 b3:blo<=s.2.2.1
 b4:s.2.2.1+s.2.2.2<=bhi
theorem SInv.start{alo blo bhi:Nat}(h:blo<=bhi):SInv alo blo bhi alo (fun _=>0,(alo,blo,0)):=⟨fun _=>XwA _,fun _ h=>absurd h (Xx8 _),XwN _,XwN _,XwN _,h⟩
theorem SInv.row{alo blo bhi i:Nat}{s:(Int->Nat) × Tri}(h:SInv alo blo bhi i s):SInv alo blo bhi (i+1) (fun _=>0,s.2):=⟨fun _=>XwA _,fun _ h=>absurd h (Xx8 _),h.b1,Nat.le_succ_of_le h.b2,h.b3,h.b4⟩
theorem SInv.len{alo blo bhi i:Nat}{s:(Int->Nat) × Tri}(h:SInv alo blo bhi i s)(hi:alo<=i){j:Nat}(h1:blo<=j):s.1 ((j:Int) - 1)<=i - alo/\s.1 ((j:Int) - 1)<=j - blo:=by
 refine ⟨h.d1 _,?_⟩
 by_cases q:0<s.1 ((j:Int) - 1)
 ·have:=h.d2 _ q;omega
 ·omega
theorem SInv.step{alo blo bhi i:Nat}{s s2:(Int->Nat) × Tri}(h:SInv alo blo bhi i s)(h2:SInv alo blo bhi (i+1) s2)(hi:alo<=i){j:Nat}(hj:blo<=j)(hj':j<bhi):SInv alo blo bhi (i+1) (XaM s.1 i s2 j):=by
 obtain ⟨e1,e2⟩:=h.len hi hj
 unfold XaM
 generalize s.1 ((j:Int) - 1)=D at e1 e2
 refine ⟨fun x=>?_,fun x hx=>?_,?_,?_,?_,?_⟩
 ·dsimp only
  split
  ·omega
  ·exact h2.d1 x
 ·dsimp only at hx ⊢
  split at hx
  ·rename_i q;rw [if_pos q];subst q;omega
  ·rename_i q;rw [if_neg q];exact h2.d2 x hx
 ·dsimp only;split
  ·dsimp only;omega
  ·exact h2.b1
 ·dsimp only;split
  ·dsimp only;omega
  ·exact h2.b2
 ·dsimp only;split
  ·dsimp only;omega
  ·exact h2.b3
 ·dsimp only;split
  ·dsimp only;omega
  ·exact h2.b4
theorem Xly(b:List Str)(k:Str):(Xa9 b k).Pairwise (· < ·):=(List.pairwise_lt_range).filter _
theorem Xth{b:List Str}{k:Str}{j:Nat}(h:j∈Xa9 b k):j<b.length:=List.mem_range.mp (Xx0.mp h).1
theorem Xe3(b:List Str)(k:Str):(XM b k).Pairwise (· < ·):=by
 unfold XM;split
 ·exact .nil
 ·exact Xly b k
theorem Xkt{b:List Str}{k:Str}{j:Nat}(h:j∈XM b k):j<b.length:=by
 unfold XM at h;split at h
 ·cases h
 ·exact Xth h
theorem Xku(b:List Str)(k:Str):(XM b k).length<=b.length:=by
 unfold XM;split
 ·exact XwA _
 ·unfold Xa9;exact Xw4 (List.length_filter_le ..) (by rw [List.length_range];exact XwN _)
theorem XgP{blo bhi j:Nat}{js:List Nat}(h:j<blo):within blo bhi (j::js)=within blo bhi js:=by
 unfold within;rw [List.filter_cons_of_neg (by simp;omega)]
theorem XhJ{blo bhi j:Nat}{js:List Nat}(h:blo<=j)(h':j<bhi):within blo bhi (j::js)=j::within blo bhi js:=by
 unfold within;rw [List.filter_cons_of_pos (by simp;omega)]
theorem XgO{blo bhi j:Nat}{js:List Nat}(hs:(j::js).Pairwise (· < ·))(h':bhi<=j):within blo bhi (j::js)=[]:=by
 unfold within
 rw [List.filter_eq_nil_iff]
 intro x hx
 have:j<=x:=by
  rcases Xwm.mp hx with rfl | hx
  ·exact XwN _
  ·exact XxQ ((Xys.mp hs).1 x hx)
 simp;omega
theorem Xjx(a b:Nat):Xbw (a:Int) (b:Int)=(Xxm a (b - a)).map fun (i:Nat)=>AV.int (i:Int):=by
 unfold Xbw
 rw [List.range'_eq_map_range,XxH]
 have:((b:Int) - (a:Int)).toNat=b - a:=by omega
 rw [this]
 refine Xx6 fun i _=>?_
 simp
theorem Xb1{b:List Str}{z:Int}{j:Nat}{y:Str}(hz:z=j)(hy:b[j]? = some y):(b.map AV.str)[z.toNat]? = some (.str y):=by
 subst hz;simp [hy]
theorem Xr3{e:Nat->Nat->Bool}{alo blo i j k:Nat}(h : ¬ alo<i):X8 e alo blo i j k=(i,j,k):=by
 cases i with
 | zero=>rfl
 | succ i=>cases j with
  | zero=>rfl
  | succ j=>unfold X8;simp [h]
theorem Xpx{e:Nat->Nat->Bool}{alo blo i j k:Nat}(h : ¬ blo<j):X8 e alo blo i j k=(i,j,k):=by
 cases i with
 | zero=>rfl
 | succ i=>cases j with
  | zero=>rfl
  | succ j=>unfold X8;simp [h]
theorem Xtm{e:Nat->Nat->Bool}{alo blo i j k:Nat}(h:e i j=false):X8 e alo blo (i+1) (j+1) k=(i+1,j+1,k):=by
 unfold X8;simp [h]
theorem Xtn{e:Nat->Nat->Bool}{alo blo i j k:Nat}(h1:alo<i+1)(h2:blo<j+1)(h:e i j=true):X8 e alo blo (i+1) (j+1) k=X8 e alo blo i j (k+1):=by
 rw [X8];simp [h,h1,h2]
theorem Xfb{e:Nat->Nat->Bool}{ahi bhi i j f k:Nat}(h : ¬ (i+k<ahi/\j+k<bhi/\e (i+k) (j+k)=true)):XaU e ahi bhi i j f k=k:=by
 cases f with
 | zero=>rfl
 | succ f =>
  rw [XaU,if_neg]
  simpa using h
theorem Xtl{e:Nat->Nat->Bool}{ahi bhi i j f k:Nat}(h1:i+k<ahi)(h2:j+k<bhi)(h:e (i+k) (j+k)=true):XaU e ahi bhi i j (f+1) k=XaU e ahi bhi i j f (k+1):=by
 rw [XaU];simp [h,h1,h2]
theorem Xha{a b:List Str}{i j:Nat}{x y:Str}(hx:a[i]? = some x)(hy:b[j]? = some y):eqs a b i j=(x == y):=by
 unfold eqs;rw [hx,hy]
 cases q:x == y with
 | true=>rw [beq_iff_eq.mp q];simp
 | false=>have:=beq_eq_false_iff_ne.mp q;simpa using this
section
abbrev P04:Xwx:=XxS
def XoY:List XwR:=[271,286]
noncomputable def KB(P:Xwj):Frag:=(KO P).filter fun p => !XoY.contains p.1
noncomputable abbrev B04(w:XwE):Frz:=Xg (KB w.params)
theorem g04(w:XwE):Ground0 (B04 w):=⟨fun s h=>⟨fun _=>none,by
 have e:=h 2 _ (show B04 w 2=some (boot_o_2 w.params) from @_)
 exact ⟨_,#[],0,e,@_,fun _ h=>by simp at h,fun _=>rfl⟩,rfl⟩⟩
noncomputable def XW(o:Obj):XyS:=match o.data with | .func f=>f | _=>default
noncomputable def Xs(o:Obj):Array Value:=match o.data with | .fields f=>f | _ => #[]
def XaD:Value->Tok
 | .str _ t=>t
 | _=>0
theorem Xwa(P:Xwj):XaT (KB P) 82 false (XW (o82 P)) (XD (st2 3 4)) 81 :=
 ⟨⟨o82 P,@_,@_⟩,@_,@_,@_,@_,@_,⟨o81 P,Xs (o81 P),XaD ((Xs (o81 P)).getD 1 .none),@_,@_,@_⟩,⟨@_,@_,@_⟩,@_⟩
theorem Xv9(P:Xwj):XaT (KB P) 89 false (XW (o89 P)) (XD (st2 3 5)) 88 :=
 ⟨⟨o89 P,@_,@_⟩,@_,@_,@_,@_,@_,⟨o88 P,Xs (o88 P),XaD ((Xs (o88 P)).getD 1 .none),@_,@_,@_⟩,⟨@_,@_,@_⟩,@_⟩
theorem Xvr(P:Xwj):XaT (KB P) 160 false (XW (Xgq P)) (XD (st2 5 1)) 159 :=
 ⟨⟨Xgq P,@_,@_⟩,@_,@_,@_,@_,@_,⟨Xgr P,Xs (Xgr P),XaD ((Xs (Xgr P)).getD 1 .none),@_,@_,@_⟩,⟨@_,@_,@_⟩,@_⟩
theorem Xvq(P:Xwj):XaT (KB P) 167 false (XW (Xgo P)) (XD (st2 5 2)) 166 :=
 ⟨⟨Xgo P,@_,@_⟩,@_,@_,@_,@_,@_,⟨Xgp P,Xs (Xgp P),XaD ((Xs (Xgp P)).getD 1 .none),@_,@_,@_⟩,⟨@_,@_,@_⟩,@_⟩
theorem Xvp(P:Xwj):XaT (KB P) 174 false (XW (XhZ P)) (XD (st2 5 3)) 173 :=
 ⟨⟨XhZ P,@_,@_⟩,@_,@_,@_,@_,@_,⟨Xgn P,Xs (Xgn P),XaD ((Xs (Xgn P)).getD 1 .none),@_,@_,@_⟩,⟨@_,@_,@_⟩,@_⟩
theorem Xvo(P:Xwj):XaT (KB P) 181 false (XW (Xgl P)) (XD (st2 5 4)) 180 :=
 ⟨⟨Xgl P,@_,@_⟩,@_,@_,@_,@_,@_,⟨Xgm P,Xs (Xgm P),XaD ((Xs (Xgm P)).getD 1 .none),@_,@_,@_⟩,⟨@_,@_,@_⟩,@_⟩
theorem Xvn(P:Xwj):XaT (KB P) 188 false (XW (Xgj P)) (XD (st2 5 5)) 187 :=
 ⟨⟨Xgj P,@_,@_⟩,@_,@_,@_,@_,@_,⟨Xgk P,Xs (Xgk P),XaD ((Xs (Xgk P)).getD 1 .none),@_,@_,@_⟩,⟨@_,@_,@_⟩,@_⟩
theorem Xvm(P:Xwj):XaT (KB P) 196 false (XW (Xgh P)) (XD (st2 5 6)) 195 :=
 ⟨⟨Xgh P,@_,@_⟩,@_,@_,@_,@_,@_,⟨Xgi P,Xs (Xgi P),XaD ((Xs (Xgi P)).getD 1 .none),@_,@_,@_⟩,⟨@_,@_,@_⟩,@_⟩
theorem Xvl(P:Xwj):XaT (KB P) 203 false (XW (Xgf P)) (XD (st2 5 7)) 202 :=
 ⟨⟨Xgf P,@_,@_⟩,@_,@_,@_,@_,@_,⟨Xgg P,Xs (Xgg P),XaD ((Xs (Xgg P)).getD 1 .none),@_,@_,@_⟩,⟨@_,@_,@_⟩,@_⟩
theorem Xvk(P:Xwj):XaT (KB P) 210 false (XW (Xgd P)) (XD (st2 5 8)) 209 :=
 ⟨⟨Xgd P,@_,@_⟩,@_,@_,@_,@_,@_,⟨Xge P,Xs (Xge P),XaD ((Xs (Xge P)).getD 1 .none),@_,@_,@_⟩,⟨@_,@_,@_⟩,@_⟩
theorem Xvj(P:Xwj):XaT (KB P) 218 true (XW (XhY P)) (XD (st2 5 9)) 217 :=
 ⟨⟨XhY P,@_,@_⟩,@_,@_,@_,@_,@_,⟨Xgc P,Xs (Xgc P),XaD ((Xs (Xgc P)).getD 1 .none),@_,@_,@_⟩,⟨@_,@_,@_⟩,@_⟩
theorem Xvi(P:Xwj):XaT (KB P) 253 false (XW (XjI P)) (XD (st1 6)) 252 :=
 ⟨⟨XjI P,@_,@_⟩,@_,@_,@_,@_,@_,⟨XhX P,Xs (XhX P),XaD ((Xs (XhX P)).getD 1 .none),@_,@_,@_⟩,⟨@_,@_,@_⟩,@_⟩
theorem XsE(P:Xwj):XaT (KB P) 261 true (XW (XjH P)) (XD (st1 7)) 260 :=
 ⟨⟨XjH P,@_,@_⟩,@_,@_,@_,@_,@_,⟨XhW P,Xs (XhW P),XaD ((Xs (XhW P)).getD 1 .none),@_,@_,@_⟩,⟨@_,@_,@_⟩,@_⟩
theorem Xvh(P:Xwj):XaT (KB P) 268 false (XW (XjG P)) (XD (st1 8)) 267 :=
 ⟨⟨XjG P,@_,@_⟩,@_,@_,@_,@_,@_,⟨XhV P,Xs (XhV P),XaD ((Xs (XhV P)).getD 1 .none),@_,@_,@_⟩,⟨@_,@_,@_⟩,@_⟩
theorem XsD(P:Xwj):XaT (KB P) 276 true (XW (XjE P)) (XD (st1 9)) 275 :=
 ⟨⟨XjE P,@_,@_⟩,@_,@_,@_,@_,@_,⟨Xgb P,Xs (Xgb P),XaD ((Xs (Xgb P)).getD 1 .none),@_,@_,@_⟩,⟨@_,@_,@_⟩,@_⟩
theorem Xvg(P:Xwj):XaT (KB P) 283 false (XW (XeV P)) (XD (st1 10)) 282 :=
 ⟨⟨XeV P,@_,@_⟩,@_,@_,@_,@_,@_,⟨XhU P,Xs (XhU P),XaD ((Xs (XhU P)).getD 1 .none),@_,@_,@_⟩,⟨@_,@_,@_⟩,@_⟩
theorem Xvf(P:Xwj):XaT (KB P) 291 true (XW (XjC P)) (XD (st1 11)) 290 :=
 ⟨⟨XjC P,@_,@_⟩,@_,@_,@_,@_,@_,⟨Xga P,Xs (Xga P),XaD ((Xs (Xga P)).getD 1 .none),@_,@_,@_⟩,⟨@_,@_,@_⟩,@_⟩
theorem Xve(P:Xwj):XaT (KB P) 298 false (XW (XhS P)) (XD (st1 13)) 297 :=
 ⟨⟨XhS P,@_,@_⟩,@_,@_,@_,@_,@_,⟨XhT P,Xs (XhT P),XaD ((Xs (XhT P)).getD 1 .none),@_,@_,@_⟩,⟨@_,@_,@_⟩,@_⟩
theorem Xvd(P:Xwj):XaT (KB P) 303 false (XW (XhQ P)) (XD (st1 14)) 302 :=
 ⟨⟨XhQ P,@_,@_⟩,@_,@_,@_,@_,@_,⟨XhR P,Xs (XhR P),XaD ((Xs (XhR P)).getD 1 .none),@_,@_,@_⟩,⟨@_,@_,@_⟩,@_⟩
theorem Xvc(P:Xwj):XaT (KB P) 308 false (XW (XhO P)) (XD (st1 15)) 307 :=
 ⟨⟨XhO P,@_,@_⟩,@_,@_,@_,@_,@_,⟨XhP P,Xs (XhP P),XaD ((Xs (XhP P)).getD 1 .none),@_,@_,@_⟩,⟨@_,@_,@_⟩,@_⟩
noncomputable def Xeq(o:Obj):Array DictEntry:=match o.data with | .dict es _=>es | _ => #[]
noncomputable def XuC(o:Obj):Nat:=match o.data with | .dict _ ep=>ep | _=>0
def XuK(es:Array DictEntry):Bool:=es.toList.all fun e=>match e.key with | .str _ _=>true | _=>false
theorem XgS{es:Array DictEntry}(h:XuK es=true):StrKeys es:=fun e he=>by
 have:=XwU.mp h e (by simpa using he)
 cases q:e.key with
 | str n t=>exact ⟨n,t,rfl⟩
 | _=>rw [q] at this;cases this
theorem gM(w:XwE):B04 w XxF=some (Xcq w.params):=@_
theorem gMd(P:Xwj):(Xcq P).data = .dict (Xeq (Xcq P)) (XuC (Xcq P)):=@_
theorem gMk(P:Xwj):StrKeys (Xeq (Xcq P)):=XgS @_
theorem gU(w:XwE):B04 w Xyd=some (boot_o_0 w.params):=@_
theorem gUd(P:Xwj):(boot_o_0 P).data = .dict (Xeq (boot_o_0 P)) (XuC (boot_o_0 P)):=@_
theorem gUk(P:Xwj):StrKeys (Xeq (boot_o_0 P)):=XgS @_
theorem Xe6(w:XwE):XF (B04 w) Xzd (.ref 242):=Xbc (u := .ref 242) (gM w) (gMd _) (gMk _) @_ fun Z => .ref _
theorem XrT(w:XwE):XF (B04 w) ⟨⟨[77,97,116,99,104]⟩⟩ (.ref 135):=Xbc (u := .ref 135) (gM w) (gMd _) (gMk _) @_ fun Z => .ref _
theorem Xdw(w:XwE):XF (B04 w) Xz2 (.ref 253):=Xbc (u := .ref 253) (gM w) (gMd _) (gMk _) @_ fun Z => .ref _
theorem Xg2(w:XwE):XF (B04 w) Xz3 (.ref 261):=Xbc (u := .ref 261) (gM w) (gMd _) (gMk _) @_ fun Z => .ref _
theorem Xdx(w:XwE):XF (B04 w) Xz4 (.ref 268):=Xbc (u := .ref 268) (gM w) (gMd _) (gMk _) @_ fun Z => .ref _
theorem Xg3(w:XwE):XF (B04 w) Xz5 (.ref 276):=Xbc (u := .ref 276) (gM w) (gMd _) (gMk _) @_ fun Z => .ref _
theorem Xh6(w:XwE):XF (B04 w) Xz6 (.ref 283):=Xbc (u := .ref 283) (gM w) (gMd _) (gMk _) @_ fun Z => .ref _
theorem Xi0(w:XwE):XF (B04 w) Xz7 (.ref 291):=Xbc (u := .ref 291) (gM w) (gMd _) (gMk _) @_ fun Z => .ref _
theorem XiY(w:XwE):XF (B04 w) Xz8 (.ref 298):=Xbc (u := .ref 298) (gM w) (gMd _) (gMk _) @_ fun Z => .ref _
theorem XlA(w:XwE):XF (B04 w) Xz9 (.ref 303):=Xbc (u := .ref 303) (gM w) (gMd _) (gMk _) @_ fun Z => .ref _
theorem Xkz(w:XwE):XF (B04 w) XAa (.ref 308):=Xbc (u := .ref 308) (gM w) (gMd _) (gMk _) @_ fun Z => .ref _
theorem XiZ(w:XwE):XF (B04 w) ⟨⟨[105,115,105,110,115,116,97,110,99,101]⟩⟩ (.blt "isinstance"):=Xx (u := .builtin "isinstance") (gM w) (gMd _) (gMk _) @_ (gU w) (gUd _) (gUk _) @_ fun Z => .blt _
theorem Xuu(w:XwE):XF (B04 w) ⟨⟨[108,101,110]⟩⟩ (.blt "len"):=Xx (u := .builtin "len") (gM w) (gMd _) (gMk _) @_ (gU w) (gUd _) (gUk _) @_ fun Z => .blt _
theorem Xur(w:XwE):XF (B04 w) ⟨⟨[109,105,110]⟩⟩ (.blt "min"):=Xx (u := .builtin "min") (gM w) (gMd _) (gMk _) @_ (gU w) (gUd _) (gUk _) @_ fun Z => .blt _
theorem Xus(w:XwE):XF (B04 w) ⟨⟨[109,97,120]⟩⟩ (.blt "max"):=Xx (u := .builtin "max") (gM w) (gMd _) (gMk _) @_ (gU w) (gUd _) (gUk _) @_ fun Z => .blt _
theorem Xuw(w:XwE):XF (B04 w) ⟨⟨[97,110,121]⟩⟩ (.blt "any"):=Xx (u := .builtin "any") (gM w) (gMd _) (gMk _) @_ (gU w) (gUd _) (gUk _) @_ fun Z => .blt _
theorem Xux(w:XwE):XF (B04 w) ⟨⟨[97,98,115]⟩⟩ (.blt "abs"):=Xx (u := .builtin "abs") (gM w) (gMd _) (gMk _) @_ (gU w) (gUd _) (gUk _) @_ fun Z => .blt _
theorem Xuv(w:XwE):XF (B04 w) ⟨⟨[99,104,114]⟩⟩ (.blt "chr"):=Xx (u := .builtin "chr") (gM w) (gMd _) (gMk _) @_ (gU w) (gUd _) (gUk _) @_ fun Z => .blt _
theorem Xuq(w:XwE):XF (B04 w) ⟨⟨[111,114,100]⟩⟩ (.blt "ord"):=Xx (u := .builtin "ord") (gM w) (gMd _) (gMk _) @_ (gU w) (gUd _) (gUk _) @_ fun Z => .blt _
theorem Xuo(w:XwE):XF (B04 w) ⟨⟨[115,116,114]⟩⟩ (.typ "str"):=Xx (u := .type "str") (gM w) (gMd _) (gMk _) @_ (gU w) (gUd _) (gUk _) @_ fun Z => .typ _
theorem Xti(w:XwE):XF (B04 w) ⟨⟨[108,105,115,116]⟩⟩ (.typ "list"):=Xx (u := .type "list") (gM w) (gMd _) (gMk _) @_ (gU w) (gUd _) (gUk _) @_ fun Z => .typ _
theorem XrR(w:XwE):XF (B04 w) ⟨⟨[114,97,110,103,101]⟩⟩ (.typ "range"):=Xx (u := .type "range") (gM w) (gMd _) (gMk _) @_ (gU w) (gUd _) (gUk _) @_ fun Z => .typ _
theorem XkA(w:XwE):XF (B04 w) ⟨⟨[101,110,117,109,101,114,97,116,101]⟩⟩ (.typ "enumerate"):=Xx (u := .type "enumerate") (gM w) (gMd _) (gMk _) @_ (gU w) (gUd _) (gUk _) @_ fun Z => .typ _
theorem Xup(w:XwE):XF (B04 w) ⟨⟨[115,101,116]⟩⟩ (.typ "set"):=Xx (u := .type "set") (gM w) (gMd _) (gMk _) @_ (gU w) (gUd _) (gUk _) @_ fun Z => .typ _
theorem Xl7(w:XwE):XF (B04 w) ⟨⟨[100,105,99,116]⟩⟩ (.typ "dict"):=Xx (u := .type "dict") (gM w) (gMd _) (gMk _) @_ (gU w) (gUd _) (gUk _) @_ fun Z => .typ _
theorem Xut(w:XwE):XF (B04 w) ⟨⟨[109,97,112]⟩⟩ (.typ "map"):=Xx (u := .type "map") (gM w) (gMd _) (gMk _) @_ (gU w) (gUd _) (gUk _) @_ fun Z => .typ _
theorem XrQ(w:XwE):XF (B04 w) ⟨⟨[116,117,112,108,101]⟩⟩ (.typ "tuple"):=Xx (u := .type "tuple") (gM w) (gMd _) (gMk _) @_ (gU w) (gUd _) (gUk _) @_ fun Z => .typ _
theorem XrS(w:XwE):XF (B04 w) ⟨⟨[98,121,116,101,115]⟩⟩ (.typ "bytes"):=Xx (u := .type "bytes") (gM w) (gMd _) (gMk _) @_ (gU w) (gUd _) (gUk _) @_ fun Z => .typ _
end
section
variable{prog:Xwx}{w:XwE}{A:Xww}{B:Frz}{env:Env}{N:Led}
theorem Xjz:PlainAttrs "str" := F.plainAttrs_str
theorem Xlc:Slot "str" XAO "str.format" := by
 rw [show (XAO:Str)=Xwk "format" from by decide +kernel]
 exact F.slot_str_format_m
noncomputable def XuG(o:Obj):ClassData:=match o.data with | .cls c=>c | _=>default
theorem Xa6(P:Xwj):ClsOk (KB P) 242:=⟨@_,@_,@_,@_,XuG (XjJ P),@_,@_⟩
theorem Xu6(w:XwE):MatIt P04 w (KB w.params) 135:=⟨@_,@_⟩
theorem Xjo{xs:List AV}{led:Led}:Xat B (.tup xs) led "tuple" := fun s Z u V S=>by
 cases V with
 | tup e h=>exact ⟨⟨_,S.frozen _ _ e,rfl⟩,fun b q=>by cases q;exact ⟨_,S.frozen _ _ e,rfl⟩⟩
theorem XaP:Xxz (.type "tuple") "__getitem__" = XxW (some (.builtin "tuple.__getitem__")):=F.slot_tuple_getitem.lookup
theorem XuO{x:Expr}{i:Int}{pos:Pos}{st:St}{K:AV->St->Prop}(h:T prog w A B env Val (Xxy x env) st fun v st'=>v = .int i/\K (.int (-i)) st'):T prog w A B env Val (Xxy (.UnaryOp .USub x pos) env) st K:=fun s Z S Q E hQ=>by
 rw [show Xxy (.UnaryOp .USub x pos) env=(Xxy x env >>= fun v=>standAt pos >>= fun _=>XyV [v] (unaryOp .USub v)) from rfl]
 refine Xwe (h s Z S _ _ fun v y s' Z' st' k S' V X=>?_)
 obtain ⟨rfl,k⟩:=k
 cases V
 exact Xwe (XwQ (Xwt (PyProof.Rows.neg_int (hQ _ _ _ Z' st' k (S'.toks _) (.int _ _) (X.trans (.toks _))))))
theorem Xtw{k:Nat}{p pos:Pos}{i:Int}{st:St}{K:AV->St->Prop}(h:K (.int (-i)) st):T prog w A B env Val (Xxy (.UnaryOp .USub (.Constant (.int i) k p) pos) env) st K :=
 XuO (XpK ⟨rfl,h⟩)
theorem Xi8{value slice:Expr}{pos:Pos}{st:St}{K:AV->St->Prop}
  (hs:∀ o i,subscripted slice false o i=operate [o,i] (getItem o i))
  (h:T prog w A B env Val (Xxy value env) st fun v₁ st₁=>T prog w A B env Val (Xxy slice env) st₁ fun v₂ st₂=>∃ T' id,Xxz (.type T') "__getitem__" = XxW (some (.builtin id))/\Xat B v₁ st₂.led T'/\F2 prog w A B env Val getItem v₁ v₂ st₂ K) :
  T prog w A B env Val (Xxy (.Subscript value slice pos) env) st K:=fun s Z S Q E hQ =>
 PyProof.Rows.Subscript_ (h s Z S _ _ fun v₁ x₁ s₁ Z₁ st₁ k₁ S₁ V₁ X₁=>k₁ s₁ Z₁ S₁ _ _ fun v₂ x₂ s₂ Z₂ st₂ k₂ S₂ V₂ X₂=>by
  obtain ⟨T',id,hl,k₂⟩:=k₂
  have hT:=(k₂.1 s₂ Z₂ x₁ (V₁.mono X₂.le) S₂.toSimL).1
  unfold PyProof.Rows.subscriptTail
  refine Xwe ?_
  rw [getitemInPython_of_ne hT.not_modules]
  refine Xwe (XyT hT hl ?_)
  have fin:XwG (XwD prog w) A (subscripted slice false x₁ x₂) (fun r s₃=>XwG (XwD prog w) A (letTemporaryGo value x₁ r >>= fun _=>XxW r) Q E s₃) E s₂:=by
   rw [hs]
   exact wpAny_operating (k₂.2 s₂ Z₂ x₁ x₂ (V₁.mono X₂.le) V₂ S₂ _ _ fun v x s' Z' st' k S' V X=>Xwe (wpAny_letTemporaryGo (Xwg (hQ v x s' Z' st' k S' V ((X₁.trans X₂).trans X)))))
  first
   | exact Xwg (Xwe fin)
   | exact Xwe (Xwg (Xwe fin))
   | exact Xwe fin)
end
section
local macro_rules | `(tactic| walk_at "mem") => `(tactic| first | exact Xwf .. | assumption | (refine' Xwh _ ?fu;(case fu=>walk_at "mem")) | (refine' XwM _ ?fu;(case fu=>walk_at "mem")) | (refine' Xxf _ ?fu;(case fu=>walk_at "mem")))
local macro_rules | `(tactic| walk_at "upd") => `(tactic| first | exact Upd.here | (refine' Upd.there ?fu;(case fu=>walk_at "upd")) | (refine' Upd.skip ?fu;(case fu=>walk_at "upd")))
local macro_rules | `(tactic| walk_at "rot") => `(tactic| first | exact List.Perm.refl _ | (refine' Xxd.trans (Xyx _ ?fr) (XxX _ _ _);(case fr=>walk_at "rot")))
local macro_rules | `(tactic| walk_at "perm") => `(tactic| first | exact List.Perm.refl _ | (refine' Xyx _ ?fp;(case fp=>walk_at "perm")) | (refine' Xxd.trans ?fq (Xyx _ ?fp);(case fq=>walk_at "rot");(case fp=>walk_at "perm")))
local macro_rules | `(tactic| fold_lay) => `(tactic| first | exact Xls | (refine' Xlr ?fa ?fb;(case fa=>kernel_rfl);(case fb=>fold_lay)))
local macro_rules | `(tactic| fold_depth) => `(tactic| first | exact XqA | exact XqB | (refine' Xo3 ?fa ?fb;(case fa=>kernel_rfl);(case fb=>fold_depth)))
local macro_rules | `(tactic| got_up) => `(tactic| first
 | ((with_reducible show T _ _ _ _ _ FVal _ _ _);(first
   | with_reducible refine Xce ?_
   | with_reducible refine XI ?_
   | ((with_reducible show T _ _ _ _ _ FVal (exec (Stmt.Assign _ _ _) _) _ _);(first
     | with_reducible refine Xi7 ?_ @_
     | ((with_reducible show T _ _ _ _ _ FVal (exec (Stmt.Assign [Expr.Attribute _ _ _] _ _) _) _ _);(with_reducible refine Xbj @_ @_ @_ ?_))
     | ((with_reducible show T _ _ _ _ _ FVal (exec (Stmt.Assign [Expr.Subscript _ _ _] _ _) _) _ _);(with_reducible refine Xbj @_ @_ @_ ?_))
     | ((with_reducible show T _ _ _ _ _ FVal (exec (Stmt.Assign [Expr.Tuple _ _ _] (Expr.Subscript _ _ _) _) _) _ _);(with_reducible refine Xbj @_ @_ @_ ?_))
     | ((with_reducible show T _ _ _ _ _ FVal (exec (Stmt.Assign [Expr.Tuple _ _ _] (Expr.Call _ _ _ _) _) _) _ _);(with_reducible refine Xbj @_ @_ @_ ?_))
     | ((with_reducible show T _ _ _ _ _ FVal (exec (Stmt.Assign [Expr.Tuple [_,_,_,_] _ _] (Expr.Tuple _ _ _) _) _) _ _);(with_reducible refine Xbj @_ @_ @_ ?_))
     | with_reducible refine Xsk (by assumption) @_ @_ @_ @_ ?_
     | with_reducible refine Xsj (by assumption) @_ @_ @_ @_ @_ ?_
     | with_reducible refine Xow @_ @_ @_ ?_
     | with_reducible refine Xox @_ @_ @_ ?_))
   | with_reducible refine Xji ?_
   | with_reducible refine XuL @_ ?_
   | with_reducible refine XpI ?_
   | with_reducible refine Xtu @_ @_ ?_
   | with_reducible refine Xot ?_
   | ((with_reducible show T _ _ _ _ _ FVal (exec (Stmt.AugAssign (Expr.Name _ _) _ _ _) _) _ _);(with_reducible refine' Xov ?fk ?fm ?_);(case fk=>fold_lay);(case fm=>rfl))
   | with_reducible refine Xsl ?_
   | with_reducible refine XfU ?_))
 | ((with_reducible show T _ _ _ _ _ Val _ _ _);(first
   | ((with_reducible show T _ _ _ _ _ Val (Xxy (Expr.Name _ _) _) _ _);(first
     | ((with_reducible show T _ _ _ _ _ Val (Xxy (Expr.Name _ _) _) _ _);(with_reducible refine' Xsm ?fk ?_ ?fl ?fm);(case fk=>fold_lay);(case fl=>kernel_rfl);(case fm=>rfl))
     | with_reducible refine Xn (XiZ _) @_ @_ @_ @_ ?_
     | with_reducible refine Xn (Xuo _) @_ @_ @_ @_ ?_
     | with_reducible refine Xn (Xuu _) @_ @_ @_ @_ ?_
     | with_reducible refine Xn (XrQ _) @_ @_ @_ @_ ?_
     | with_reducible refine Xn (Xti _) @_ @_ @_ @_ ?_
     | with_reducible refine Xn (Xut _) @_ @_ @_ @_ ?_
     | with_reducible refine Xn (Xl7 _) @_ @_ @_ @_ ?_
     | with_reducible refine Xn (Xuw _) @_ @_ @_ @_ ?_
     | with_reducible refine Xn (Xe6 _) @_ @_ @_ @_ ?_
     | with_reducible refine Xn (Xdw _) @_ @_ @_ @_ ?_
     | with_reducible refine Xn (Xdx _) @_ @_ @_ @_ ?_
     | with_reducible refine Xn (Xh6 _) @_ @_ @_ @_ ?_
     | with_reducible refine Xn (Xg2 _) @_ @_ @_ @_ ?_
     | with_reducible refine Xn (Xg3 _) @_ @_ @_ @_ ?_
     | with_reducible refine Xn (Xi0 _) @_ @_ @_ @_ ?_
     | with_reducible refine Xn (XiY _) @_ @_ @_ @_ ?_
     | with_reducible refine Xn (XlA _) @_ @_ @_ @_ ?_
     | with_reducible refine Xn (Xkz _) @_ @_ @_ @_ ?_
     | with_reducible refine Xn (XrS _) @_ @_ @_ @_ ?_
     | with_reducible refine Xn (Xux _) @_ @_ @_ @_ ?_
     | with_reducible refine Xn (Xuv _) @_ @_ @_ @_ ?_
     | with_reducible refine Xn (Xuq _) @_ @_ @_ @_ ?_
     | with_reducible refine Xn (XkA _) @_ @_ @_ @_ ?_
     | with_reducible refine Xn (Xup _) @_ @_ @_ @_ ?_
     | with_reducible refine Xn (XrR _) @_ @_ @_ @_ ?_
     | with_reducible refine Xn (XrT _) @_ @_ @_ @_ ?_
     | with_reducible refine Xn (Xur _) @_ @_ @_ @_ ?_
     | with_reducible refine Xn (Xus _) @_ @_ @_ @_ ?_))
   | ((with_reducible show T _ _ _ _ _ Val (Xxy (Expr.Constant _ _ _) _) _ _);(first
     | with_reducible refine XpK ?_
     | with_reducible refine XpJ ?_
     | with_reducible refine Xtv ?_
     | with_reducible refine Xtx ?_))
   | ((with_reducible show T _ _ _ _ _ Val (Xxy (Expr.Call (Expr.Attribute _ _ _) _ _ _) _) _ _);(first
     | (with_reducible refine Xau (T' := "str") (id := "str.format") @_ @_ @_ Xjz Xlc F.type_str_format_m ?_)
     | (with_reducible refine Xau (T' := "dict") (id := "dict.setdefault") @_ @_ @_ F.plainAttrs_dict XiU F.type_dict_setdefault ?_)
     | (with_reducible refine Xau (T' := "dict") (id := "dict.get") @_ @_ @_ F.plainAttrs_dict Xt9 F.type_dict_get ?_)
     | (with_reducible refine Xau (T' := "list") (id := "list.append") @_ @_ @_ F.plainAttrs_list Xo2 F.type_list_append ?_)
     | (with_reducible refine Xau (T' := "list") (id := "list.sort") @_ @_ @_ F.plainAttrs_list XsM F.type_list_sort ?_)
     | (with_reducible refine Xau (T' := "list") (id := "list.pop") @_ @_ @_ F.plainAttrs_list Xt8 F.type_list_pop ?_)
     | (with_reducible refine Xau (T' := "list") (id := "list.extend") @_ @_ @_ F.plainAttrs_list Xo1 F.type_list_extend ?_)
     | (with_reducible refine XkO (name:=Xy7) (T' := "tuple") (id := "tuple.__new__") @_ @_ @_ (by decide +kernel) @_ @_ @_ @_ @_ ?_)
     | (with_reducible refine XaI (name:=Xze) (C:=242) (f:=167) @_ @_ @_ (Xa6 _) @_ @_ ?_)
     | (with_reducible refine XaI (name:=Xzf) (C:=242) (f:=174) @_ @_ @_ (Xa6 _) @_ @_ ?_)
     | (with_reducible refine XaI (name:=Xzg) (C:=242) (f:=181) @_ @_ @_ (Xa6 _) @_ @_ ?_)
     | (with_reducible refine XaI (name:=Xzh) (C:=242) (f:=188) @_ @_ @_ (Xa6 _) @_ @_ ?_)
     | (with_reducible refine XaI (name:=Xzi) (C:=242) (f:=196) @_ @_ @_ (Xa6 _) @_ @_ ?_)
     | (with_reducible refine XaI (name:=Xzj) (C:=242) (f:=203) @_ @_ @_ (Xa6 _) @_ @_ ?_)
     | (with_reducible refine XaI (name:=Xzk) (C:=242) (f:=210) @_ @_ @_ (Xa6 _) @_ @_ ?_)
     | (with_reducible refine XaI (name:=Xzl) (C:=242) (f:=218) @_ @_ @_ (Xa6 _) @_ @_ ?_)))
   | ((with_reducible show T _ _ _ _ _ Val (Xxy (Expr.Call (Expr.Name _ _) _ _ _) _) _ _);(with_reducible refine Xty @_ ?_))
   | with_reducible refine Xso ?_
   | with_reducible refine Xsp ?_
   | with_reducible refine XkP @_ ?_
   | with_reducible refine XgD ?_
   | with_reducible refine XpM @_ ?_
   | with_reducible refine Xmg ?_
   | with_reducible refine Xtw ?_
   | with_reducible refine Xi8 (fun _ _=>@_) ?_
   | ((with_reducible show T _ _ _ _ _ Val (Xxy (Expr.Subscript (Expr.Subscript _ _ _) _ _) _) _ _);(with_reducible refine Xcf (T' := "tuple") XaP (fun _ _=>@_) ?_))
   | with_reducible refine Xcf (T' := "list") list_getitem_lookup (fun _ _=>@_) ?_))
 | ((with_reducible show T _ _ _ _ _ XQ _ _ _);(first
   | with_reducible refine XuS ?_
   | with_reducible refine XpP ?_
   | with_reducible refine Xoy ?_
   | with_reducible refine XlQ ?_
   | with_reducible refine XdT ?_ @_
   | with_reducible refine Xsr ?_ @_))
 | ((with_reducible show T _ _ _ _ _ Vals _ _ _);(first
   | with_reducible refine Xhh ?_
   | with_reducible refine Xde @_ ?_))
 | ((with_reducible show F1 _ _ _ _ _ XE _ _ _ _);(first
   | with_reducible refine Xcw ?_
   | with_reducible refine XeO ?_
   | with_reducible refine XeN ?_
   | with_reducible refine XgM (by assumption) @_ @_ @_ ?_
   | with_reducible refine Xje (by assumption) (Xu6 _) @_ @_ @_ ?_
   | ((with_reducible show F1 _ _ _ _ _ _ (XyU _ _) _ _ _);(with_reducible refine' XgL ?fk ?fl ?_);(case fk=>kernel_rfl);(case fl=>fold_depth))))
 | ((with_reducible show F1 _ _ _ _ _ XQ _ _ _ _);(first
   | with_reducible refine XbM ?_
   | with_reducible refine Xjb ?_
   | with_reducible refine Xij ?_))
 | ((with_reducible show F1 _ _ _ _ _ Val _ _ _ _);(first
   | ((with_reducible refine' Xhs (Xa6 _) @_ ?gm ?gl ?gh ?_);(case gm=>walk_at "mem");(case gl=>fold_lay);(case gh=>rfl))
   | ((with_reducible refine' Xk3 (knd:=XyD _ _) ?gm ?_);(case gm=>walk_at "mem"))
   | ((with_reducible refine' Xfz ?gm ?_);(case gm=>walk_at "mem"))))
 | ((with_reducible show F2 _ _ _ _ _ _ _ _ _ _ _);(first
   | with_reducible refine XoJ ?_
   | with_reducible refine XoD ?_
   | with_reducible refine Xp5 ?_
   | with_reducible refine Xp8 ?_
   | with_reducible refine Xp3 ?_
   | with_reducible refine Xp2 ?_
   | with_reducible refine Xp9 ?_
   | with_reducible refine Xp4 ?_
   | with_reducible refine Xp6 ?_
   | with_reducible refine Xp7 ?_
   | with_reducible refine XlS ?_
   | ((with_reducible refine' XlU (Xa6 _) @_ ?su ?sm ?sz ?_);(case su=>walk_at "upd");(case sm=>fold_depth);(case sz=>simp))
   | with_reducible refine Xhp rfl ?_
   | with_reducible refine Xja rfl ?_
   | with_reducible refine XlT ?_))
 | ((with_reducible show CA _ _ _ _ _ _ _ _ _ _ _);(first
   | with_reducible refine Xcy @_ XrH ?_
   | with_reducible refine Xcy @_ Xtg ?_
   | with_reducible refine Xcy @_ XrI ?_
   | with_reducible refine Xcy @_ (Xpl @_) ?_))
 | with_reducible refine XtG ?_
 | with_reducible refine XuW ?_
 | ((with_reducible refine' ⟨Xea (knd:=XwP _ _) ?tm,?_⟩);(case tm=>walk_at "mem"))
 | ((with_reducible refine' ⟨Xea (knd:=XyD _ _) ?tm,?_⟩);(case tm=>walk_at "mem"))
 | ((with_reducible refine' ⟨XeP ?tm,?_⟩);(case tm=>walk_at "mem"))
 | ((with_reducible show AV.typ _=AV.typ _/\CA _ _ _ _ _ _ _ _ _ _ _);(refine ⟨rfl,?_⟩))
 | ((with_reducible show XyG _<=XwZ/\_);(refine ⟨?fl,?_⟩);(case fl=>(simp only [Xwn,XwF,Xwo];decide)))
 | ((with_reducible refine' ⟨_,_,rfl,?om,?ol,?_⟩);(case om=>walk_at "mem");(case ol=>kernel_rfl))
 | with_reducible refine ⟨_,_,list_getitem_lookup,Xf0,?_⟩
 | with_reducible refine ⟨_,_,XaP,Xjo,?_⟩
 | ((with_reducible refine' ⟨_,_,list_getitem_lookup,XeP ?tm,?_⟩);(case tm=>walk_at "mem"))
 | with_reducible refine ⟨Xcn,?_⟩
 | with_reducible refine ⟨Xf0,?_⟩
 | with_reducible refine ⟨Xjo,?_⟩
 | with_reducible refine XgX ?_
 | with_reducible refine Xuf ?_
 | with_reducible refine XsX ?_
 | with_reducible refine XsY ?_
 | (with_reducible refine PyProof.Rows.split_bool (fun hc=>?_) (fun hc=>?_))
 )
section
theorem XlP{w:XwE}{A:Xww}{a b r1 r2 r3 r4 r5:AV} :
  Binds P04 w A (B04 w) (XW (XeV w.params)) [a,b,r1,r2,r3,r4,r5] [] [(Xy9,a),(Xza,b),(XAs,.tup [r1,r2,r3,r4,r5])]:=fun s Z led xs ks S hx hk Q E hQ=>by
 cases hk
 cases hx with
 | @cons _ x1 _ _ h1 hx=>cases hx with
  | @cons _ x2 _ xr h2 hx =>
   have hx':=hx
   cases hx' with
   | @cons _ x3 _ _ h3 hx'=>cases hx' with
    | @cons _ x4 _ _ h4 hx'=>cases hx' with
     | @cons _ x5 _ _ h5 hx'=>cases hx' with
      | @cons _ x6 _ _ h6 hx'=>cases hx' with
       | @cons _ x7 _ _ h7 hx' =>
        cases hx'
        rw [show bindArgs (XW (XeV w.params)) ⟨[x1,x2,x3,x4,x5,x6,x7],[]⟩=(newTuple [x3,x4,x5,x6,x7] >>= fun t=>XxW [(Xy9,x1),(Xza,x2),(XAs,t)]) from @_]
        refine Xwe (wpAny_newTuple ?_ (by simp only [Xwn,XwF];decide))
        have P:=S.pushZ (o:={ cls := .type "tuple",data := .seq [x3,x4,x5,x6,x7].toArray}) rfl s.toks
        exact Xwg (hQ _ _ _ P.1 (.cons (h1.mono P.2.le) (.cons (h2.mono P.2.le) (.cons (.tup (Frz.add_at ..) (hx.mono P.2.le)) .nil))) P.2)
theorem XgC{prog:Xwx}{w:XwE}{A:Xww}{B:Frz}{env:Env}{test:Expr}{body orelse:List Stmt}{pos:Pos}{st:St}{K:AFlow->St->Prop}
  (h:T prog w A B env XQ (isTrue test env (Xxy test env)) st fun b st'=>b=false/\st'=st) (h2:T prog w A B env FVal (execs orelse env) st K):T prog w A B env FVal (exec (.If test body orelse pos) env) st K :=
 Xji (h.mono fun b st' k=>by obtain ⟨rfl,rfl⟩:=k;simpa using h2)
theorem XfO{w:XwE}{A:Xww}{a b:List Str}{r1 r2 r3 r4 r5:Str}{led:Led}(hA:Room A 20)(ha:a.length<10 ^ 6)(hb:b.length<10 ^ 6) :
  TC P04 w A (B04 w) (.ref 283) [.lst (a.map .str),.lst (b.map .str),.str r1,.str r2,.str r3,.str r4,.str r5] [] led fun v led'=>led'=led/\v = .none:=by
 refine XaO (g04 w) (Xvg _) hA.lt XlP @_ fun L hL=>?_
 have hA':=hA.deeper (k:=17) (env:=Xa0 (XW (XeV w.params)) L 283 282)
 simp only [XwL,XwV,Xwv,Xws]
 refine T.spare XAt @_ ?_
 simp only [Xws,Xwv]
 refine XI (XgC ?_ (Xce (XI (XgC ?_ (Xce (XI (XcM (k:=5) (J:=fun xs st'=>(∀ x∈xs,∃ y,x=AV.str y)/\∃ v,st'=⟨[(XAs,AV.tup [.str r1,.str r2,.str r3,.str r4,.str r5]),(Xza,.lst (b.map .str)),(Xy9,.lst (a.map .str)),(XAt,v)],led⟩) (hA'.mono nofun) ?_ ?_ ?_ (fun _=>@_))))))))
 ·repeat' got_up
  refine Xbd .frz (by rw [Xwi];omega) ?_
  cases a with
  | nil=>exact ⟨rfl,rfl⟩
  | cons x xs =>
   simp only [Xwr,List.isEmpty_cons,Bool.not_false,if_true]
   repeat' got_up
   refine Xy .frz nofun nofun rfl ?_
   repeat' got_up
   refine XbU F.isi_meta_str F.isi_self_str Xcn ?_
   repeat' got_up
   all_goals first | exact ⟨rfl,rfl⟩ | exact absurd ‹(!true)=true› (by decide)
 ·repeat' got_up
  refine Xbd .frz (by rw [Xwi];omega) ?_
  cases b with
  | nil=>exact ⟨rfl,rfl⟩
  | cons x xs =>
   simp only [Xwr,List.isEmpty_cons,Bool.not_false,if_true]
   repeat' got_up
   refine Xy .frz nofun nofun rfl ?_
   repeat' got_up
   refine XbU F.isi_meta_str F.isi_self_str Xcn ?_
   repeat' got_up
   all_goals first | exact ⟨rfl,rfl⟩ | exact absurd ‹(!true)=true› (by decide)
 ·repeat' got_up
  refine XfX fun it gl h=>⟨it,gl,led,_,rfl,rfl,h,?_,_,rfl⟩
  simp
 ·intro x xs st' gl hJ
  obtain ⟨h2,v,rfl⟩:=hJ
  obtain ⟨y,rfl⟩:=h2 x (Xwf ..)
  refine Xcw ?_
  got_up
  refine XI (XgC ?_ ?_)
  ·repeat' got_up
   refine XbU F.isi_meta_str F.isi_self_str Xcn ?_
   repeat' got_up
   exact ⟨rfl,rfl⟩
  ·refine Xce ?_
   refine Xce ?_
   exact ⟨led,rfl,fun x hx=>h2 x (Xwh _ hx),_,rfl⟩
 ·intro st' hJ
  obtain ⟨_,v,rfl⟩:=hJ
  exact Xce ⟨rfl,trivial⟩
end
section
def Xp(a b:Int):Str:=if b - a=0 then Xwk (XyP a) else if b - a=1 then Xwk (XyP (a+1)) else Xwk (XyP (a+1))++Xwk "," ++ Xwk (XyP b)
theorem Xir{w:XwE}{A:Xww}{a b:Int}{led:Led}(hroom:A.depth<XxV)(ha:0<=a)(hab:a<=b)(hb:b<10 ^ 9) :
  TC P04 w A (B04 w) (.ref 268) [.int a,.int b] [] led fun v led'=>led'=led/\v = .str (Xp a b):=by
 refine XaO (binds:=[(XAb,.int a),(XAc,.int b)]) (g04 w) (Xvh _) hroom (Binds.peek fun Z xs ks hx hk=>?_) @_ fun L hL=>?_
 ·cases hk
  cases hx with
  | cons h1 hx=>cases hx with
   | cons h2 hx =>
    cases hx
    exact ⟨_,@_,.cons h1 (.cons h2 .nil)⟩
 ·simp only [XwL,XwV,Xwv,Xws]
  refine XI ?_
  repeat' got_up
  all_goals simp only [Bool.not_eq_true',bne_eq_false_iff_eq,Bool.not_eq_false',bne_iff_ne,ne_eq,decide_eq_true_eq,decide_eq_false_iff_not,Xws,Xwv] at *
  ·refine XgH nofun nofun ⟨rfl,?_⟩
   have:b - a=0:=by omega
   simp only [Xp,this,if_true,Int.add_sub_cancel]
  ·omega
  ·refine XgH nofun nofun ⟨rfl,?_⟩
   have h0 : ¬ (b - a=0):=by omega
   have:b - a=1:=by omega
   simp only [Xp,h0,this,if_true,if_false]
   rfl
  ·refine Xfm nofun nofun nofun nofun ⟨rfl,?_⟩
   have h0 : ¬ (b - a=0):=by omega
   have h1 : ¬ (b - a=1):=by omega
   simp only [Xp,h0,h1,if_false]
   rw [show a+1+(b - a) - 1=b from by omega]
def XA(a b:Int):Str:=if b - a=1 then Xwk (XyP (a+1)) else if b - a=0 then Xwk (XyP a)++Xwk "," ++ Xwk (XyP (0:Int)) else Xwk (XyP (a+1))++Xwk "," ++ Xwk (XyP (b - a))
theorem Xiq{w:XwE}{A:Xww}{a b:Int}{led:Led}(hroom:A.depth<XxV)(ha:0<=a)(hab:a<=b)(hb:b<10 ^ 9) :
  TC P04 w A (B04 w) (.ref 253) [.int a,.int b] [] led fun v led'=>led'=led/\v = .str (XA a b):=by
 refine XaO (binds:=[(XAb,.int a),(XAc,.int b)]) (g04 w) (Xvi _) hroom (Binds.peek fun Z xs ks hx hk=>?_) @_ fun L hL=>?_
 ·cases hk
  cases hx with
  | cons h1 hx=>cases hx with
   | cons h2 hx =>
    cases hx
    exact ⟨_,@_,.cons h1 (.cons h2 .nil)⟩
 ·simp only [XwL,XwV,Xwv,Xws]
  refine XI ?_
  repeat' got_up
  all_goals simp only [Bool.not_eq_true',bne_eq_false_iff_eq,Bool.not_eq_false',bne_iff_ne,ne_eq,decide_eq_true_eq,decide_eq_false_iff_not,Xws,Xwv,beq_iff_eq,beq_eq_false_iff_ne] at *
  ·refine XgH nofun nofun ⟨rfl,?_⟩
   have:b - a=1:=by omega
   simp only [XA,this,if_true]
  ·refine Xfm nofun nofun nofun nofun ⟨rfl,?_⟩
   have h0:b - a=0:=by omega
   have h1 : ¬ (b - a=1):=by omega
   simp only [XA,h0,h1,if_true,if_false,Int.add_sub_cancel]
   rfl
  ·refine Xfm nofun nofun nofun nofun ⟨rfl,?_⟩
   have h0 : ¬ (b - a=0):=by omega
   have h1 : ¬ (b - a=1):=by omega
   simp only [XA,h0,h1,if_false]
end
section
abbrev nA:Str:=Xy9
theorem XbY:∀ (l:List (Str × AV)) (x:Str) (v:AV),(XaQ l x v).length<=l.length+1
 | [],_,_=>XwN _
 | (y,u)::r,x,v=>by
  unfold XaQ
  split
  ·exact Nat.le_succ _
  ·rw [Xwn,Xwn];exact Nat.succ_le_succ (XbY r x v)
theorem XdV{prog:Xwx}{w:XwE}{A:Xww}{K:Frag}{env:Env}{C d:XwR}{name:Str}{m m':List (Str × AV)}{v:AV}{loc:List (Str × AV)}{led:Led}{R:Unit->St->Prop}(ok:ClsOk K C)(ht:takerIn K C name=some none)
  (hm:XaQ m name v=m') (hsz:m'.length<=1000) (h:R () ⟨loc,(d,X7 m')::led⟩):F2 prog w A (Xg K) env XE (fun x y=>setAttr x name y) (.inst C d) v ⟨loc,(d,X7 m)::led⟩ R :=
 Xhr ok ht hm hsz (led':=(d,X7 m')::led) .here h
theorem Xqz{w:XwE}{A:Xww}{d:XwR}{m:List (Str × AV)}{xs:List AV}{led:Led}(hA:Room A 20)(hm:m.lookup nA=some .none)(hsz:m.length<=100) :
  TC P04 w A (B04 w) (.ref 174) [.inst 242 d,.lst xs] [] ((d,X7 m)::led) fun v led'=>v = .none/\led'=(d,X7 (XaQ (XaQ (XaQ m nA (.lst xs)) XzJ .none) Xz1 .none))::led:=by
 refine XaO (binds:=[(Xy6,.inst 242 d),(nA,.lst xs)]) (g04 w) (Xvp _) hA.lt (Binds.peek fun Z xs ks hx hk=>?_) @_ fun L hL=>?_
 ·cases hk
  cases hx with
  | cons h1 hx=>cases hx with
   | cons h2 hx =>
    cases hx
    exact ⟨_,@_,.cons h1 (.cons h2 .nil)⟩
 ·simp only [XwL,XwV,Xwv,Xws]
  refine XI ?_
  repeat' got_up
  refine Xhs (Xa6 _) @_ (Xwf ..) hm rfl ?_
  refine Xhp rfl ?_
  repeat' got_up
  ·refine XdV (Xa6 _) @_ rfl ?hz ?_
   case hz=>exact Xw4 (XbY ..) nofun
   repeat' got_up
   refine XdV (Xa6 _) @_ rfl ?hz ?_
   case hz=>exact Xw4 (XbY ..) (Nat.succ_le_of_lt (Nat.lt_of_le_of_lt (XbY ..) nofun))
   repeat' got_up
   refine XdV (Xa6 _) @_ rfl ?hz ?_
   case hz=>exact Xw4 (XbY ..) (Nat.succ_le_of_lt (Nat.lt_of_le_of_lt (XbY ..) (Nat.lt_of_le_of_lt (Nat.succ_le_succ (XbY ..)) nofun)))
   repeat' got_up
   exact ⟨trivial,rfl⟩
end
section
def XmA(P:Frz->Obj->Prop)(o:Obj)(Z:Frz)(o':Obj):Prop:=o'=o/\P Z o'
theorem Xiu{P:Frz->Obj->Prop}{o:Obj}(m:∀ Z Z' o,Frz.le Z Z'->P Z o->P Z' o)(Z Z':Frz)(o':Obj)(k:Frz.le Z Z')(x:XmA P o Z o'):XmA P o Z' o':=⟨x.1,m Z Z' o' k x.2⟩
abbrev XmB(P:Frz->Obj->Prop)(m:∀ Z Z' o,Frz.le Z Z'->P Z o->P Z' o)(o:Obj):AObj := .obj (XmA P o) (Xiu m)
theorem SimL.fixZ{B:Frz}{s s0:Xwl}{Z:Frz}{led:Led}(S:SimL B s Z led){c:XwR}{o:Obj}(hc:s.heap.get? c=some o)(h0:s0.heap.get? c=none)(hl:c∉keys led)(hZ:Z c=none)(X:Ext (Xh led) s0 Z s Z (Xh led)) :
  SimL B s (Z.add c o) led/\Ext (Xh led) s0 Z s (Z.add c o) (Xh led):=by
 have le:=Frz.le_add (o:=o) hZ
 refine ⟨⟨S.base.trans le,fun a x e=>?_,S.nodup,fun p hp=>?_,fun p hp=>(S.own p hp).mono le (fun _ e=>e) fun _ _ _ e=>e,S.gnodup,S.bare⟩,⟨le,X.kept,X.grow,fun a x e=>?_,X.os,X.gkept,X.ggrow⟩⟩
 ·unfold Frz.add at e
  split at e
  ·rename_i q;cases e;rw [q];exact hc
  ·exact S.frozen a x e
 ·unfold Frz.add
  rw [if_neg fun (q:p.1=c)=>hl (q ▸ XwC hp)]
  exact S.apart p hp
 ·unfold Frz.add at e
  split at e
  ·rename_i q;exact .inr (.inr (q ▸ h0))
  ·exact .inl e
section
variable{prog:Xwx}{w:XwE}{A:Xww}{B:Frz}{env:Env}
theorem Xmd{N:Led}{target iter:Expr}{body:List Stmt}{pos:Pos}{st:St}{k:Nat}{J:List AV->St->Prop}{K:AFlow->St->Prop}(hA:Room A k)
  (hiter:T prog w A B env Val (Xxy iter env) st fun v st₁=>F1 prog w A B env Val pyIter v st₁ fun u st₂=>∃ it gl l items,u = .ref it/\st₂.led=gl++l/\IterOk prog w B N k target it items gl/\J items ⟨st₂.loc,l⟩)
  (step:∀ x xs st' gl,J (x::xs) st'->F1 prog w A B env XE (XxG target env) x ⟨st'.loc,st'.led++gl⟩ fun _ st₃=>T prog w A B env FVal (execs body env) st₃ fun f st₄=>∃ l,st₄.led=l++gl/\match f with
   | .next | .cont=>J xs ⟨st₄.loc,l⟩
   | .brk=>K .next ⟨st₄.loc,l⟩
   | .ret v=>K (.ret v) ⟨st₄.loc,l⟩)
  (hN:∀ items st',J items st'->NIn N st'.led) (done:∀ st',J [] st'->K .next st') (hs:∀ x,Xyz iter env x=XxW x) :
  T prog w A B env FVal (exec (.For target iter body [] pos) env) st K:=fun s Z S Q E hQ=>by
 refine wpAny_For (hiter s Z S _ _ fun v x s₁ Z₁ st₁ k₁ S₁ V₁ X₁=>k₁ s₁ Z₁ x V₁ S₁ _ _ fun u y s₂ Z₂ st₂ k₂ S₂ V₂ X₂=>?_) hs
 obtain ⟨loc₂,led₂⟩:=st₂
 obtain ⟨it,gl,l,items,rfl,e,hit,hJ⟩:=k₂
 dsimp only at e hJ
 subst e
 cases V₂
 have X₀:=X₁.trans X₂
 refine Xds (fun n s'=>∃ Z' loc' l' gl' xs,n=xs.length/\SimF B env s' Z' ⟨loc',l'++gl'⟩/\IterOk prog w B N k target it xs gl'/\J xs ⟨loc',l'⟩/\Ext (Xk env st) s Z s' Z' (Xk env ⟨loc',l'++gl'⟩)) ?_ items.length
  ⟨Z₂,loc₂,l,gl,items,rfl,S₂.perm Xwu,hit,hJ,by rw [XY (env:=env) (loc:=loc₂) (loc':=loc₂) (Xwu (l₁:=l) (l₂:=gl))];exact X₀⟩
 rintro n s' ⟨Z',loc',l',gl',xs,rfl,S',hit',hJ',X'⟩
 cases xs with
 | nil =>
  refine Xdn hit' hA (hN _ _ hJ') S' fun s₃ Z₃ S₃ X₃=>?_
  exact hQ .next .next s₃ Z₃ _ (done _ hJ') S₃ .next (X'.trans X₃)
 | cons x xs =>
  refine Xw8 (XcJ hit' hA (hN _ _ hJ') S' (Q:=fun r s₁=>match r with
   | none=>False
   | some v=>XwG (XwD prog w) A (XxG target env v) (fun _ s₂=>XwG (XwD prog w) A (execs body env) (fun f s₃=>match f with
     | .next | .cont=>∃ m,m<(x::xs).length/\∃ Z' loc' l' gl' xs,m=xs.length/\SimF B env s₃ Z' ⟨loc',l'++gl'⟩/\IterOk prog w B N k target it xs gl'/\J xs ⟨loc',l'⟩/\Ext (Xk env st) s Z s₃ Z' (Xk env ⟨loc',l'++gl'⟩)
     | .brk=>Q .next s₃
     | .ret v=>Q (.ret v) s₃) (notedBy (XwD prog w) A env fun e s'=>cameBackBy (XwD prog w) A env E e s') s₂) (notedBy (XwD prog w) A env fun e s'=>cameBackBy (XwD prog w) A env E e s') s₁) fun s₃ Z₃ v gl₃ S₃ V₃ X₃ hit₃=>?_) (fun r s₁ h₁=>?_) fun _ _ h=>h
  ·refine step x xs ⟨loc',l'⟩ gl₃ hJ' s₃ Z₃ v V₃ S₃ _ _ fun _ _ s₄ Z₄ st₄ k₄ S₄ _ X₄=>k₄ s₄ Z₄ S₄ _ _ fun f y s₅ Z₅ st₅ k₅ S₅ V₅ X₅=>?_
   obtain ⟨loc₅,led₅⟩:=st₅
   obtain ⟨l₅,e,k₅⟩:=k₅
   dsimp only at e k₅
   subst e
   have X₆:=((X'.trans X₃).trans X₄).trans X₅
   cases V₅ with
   | next=>exact ⟨xs.length,Xym _,Z₅,loc₅,l₅,gl₃,xs,rfl,S₅,hit₃,k₅,X₆⟩
   | cont=>exact ⟨xs.length,Xym _,Z₅,loc₅,l₅,gl₃,xs,rfl,S₅,hit₃,k₅,X₆⟩
   | brk =>
    refine hQ .next .next s₅ Z₅ ⟨loc₅,l₅⟩ k₅ (S₅.perm Xwu).drop .next (Ext.dropF (loc:=loc₅) (l:=gl₃) ?_)
    rw [XY (env:=env) (loc:=loc₅) (loc':=loc₅) (Xwu (l₁:=gl₃) (l₂:=l₅))];exact X₆
   | ret hv =>
    refine hQ _ _ s₅ Z₅ ⟨loc₅,l₅⟩ k₅ (S₅.perm Xwu).drop (.ret hv) (Ext.dropF (loc:=loc₅) (l:=gl₃) ?_)
    rw [XY (env:=env) (loc:=loc₅) (loc':=loc₅) (Xwu (l₁:=gl₃) (l₂:=l₅))];exact X₆
  ·cases r with
   | none=>exact h₁.elim
   | some v=>exact h₁
end
end
section
open PySem PySem.W PySem.Builtin
def Xar(w:XwE):Bool:=w.params.followText "set-order"
section
variable{prog:Xwx}{w:XwE}{A:Xww}{E:Value->Xwl->Prop}{s:Xwl}
theorem Xi4{Q₁:Value->Xwl->Prop}
  (h:Q₁ (.ref s.heap.objs.size) {s with heap:=s.heap.push {cls := .type "set",dict:=none,data := .set #[] 0 (.fresh 0 0 (!Xar w))} }) :
  codeAny (XwD prog w) A (.call (.builtin "set.__new__") ⟨[.type "set"],[]⟩) (wants Q₁ E) s:=by
 refine codeAny_of_tree ?_
 show XwG _ A.in1 (do checkBuiltinCall "set.__new__" ⟨[.type "set"],[]⟩;again (.builtin "set.__new__" ⟨[.type "set"],[]⟩)) _ _ s
 refine Xwe (Xxg F.newCall_set_0 (Xwg ⟨plainId_quiet F.plain_set_new _,XyA F.entry_set_new ?_⟩))
 rw [Xyy F.plain_set_new _]
 unfold Builtin.«set.__new__» Builtin.Frozenset.newClass
 have hsub:=sub_set_self
 obtain ⟨hp,g,d,tk,os⟩:=s
 dsimp only
 wp_walk
 refine wpAny_askSetting (Xwg ?_)
 dsimp only
 simp only [newObj]
 refine Xwe (wpAny_alloc (Xwg ?_))
 exact Xwg h
theorem XlJ{Q:Value->Xwl->Prop}
  (h:Q (.ref s.heap.objs.size) {s with heap:=s.heap.push {cls := .type "set",dict:=none,data := .set #[] 0 (.fresh 0 0 (!Xar w))} }) :
  XwG (XwD prog w) A (call (.type "set") []) Q E s:=by
 obtain ⟨c,tl,hmro⟩:=F.called_set.mro
 have hmade:=F.called_set.made
 have hsub:=F.called_set.sub
 refine Xyl (codeAny_of_tree ?_)
 show XwG _ _ (callAny (.type "set") _) _ _ _
 refine Xwg ⟨Code.quiet_builtin _ (by decide +kernel),XyA F.entry_type_call ?_⟩
 rw [Around.under_plain (weight_type_call_type "set" [] []) rfl]
 have h1:=F.called_set.notType
 have h2:=F.called_set.canCreate
 have hct:=F.typeCall_set_0
 repeat (any_goals (first | assumption | wp_step))
 refine codeAny_mono (Xi4 (E:=E) (Q₁:=fun obj s₁=>obj = .ref s.heap.objs.size/\s₁={ s with heap:=s.heap.push {cls := .type "set",dict:=none,data := .set #[] 0 (.fresh 0 0 (!Xar w))} }) ⟨rfl,rfl⟩) fun r s₁ hr=>?_
 cases r with
 | error e=>exact hr
 | ok fl =>
  cases fl with
  | ret obj =>
   obtain ⟨rfl,rfl⟩:=hr
   have hS:(s.heap.push {cls := .type "set",dict:=none,data := .set #[] 0 (.fresh 0 0 (!Xar w))}).get? s.heap.objs.size=some {cls := .type "set",dict:=none,data := .set #[] 0 (.fresh 0 0 (!Xar w))}:=Xwp _ rfl
   have hT:Shared.TypeIs {s with heap:=s.heap.push {cls := .type "set",dict:=none,data := .set #[] 0 (.fresh 0 0 (!Xar w))} } (.ref s.heap.objs.size) "set" := ⟨_,hS,rfl⟩
   have hli:=F.called_set.init.lookup
   have hbi:=F.called_set.init.bind (.ref s.heap.objs.size)
   repeat (any_goals (first | assumption | wp_step))
   refine codeAny_mono (Xx3 (R:=wants (fun r s₂=>r = .none/\Q (.ref s.heap.objs.size) s₂) E) F.called_set.init.plain F.entry_set_init (check_set_init hT ?_)) fun r₂ s₂ hr₂=>?_
   ·unfold Builtin.«set.__init__» noKeywords
    wp_walk
    exact ⟨rfl,h⟩
   ·cases r₂ with
    | error e=>exact hr₂
    | ok fl₂ =>
     cases fl₂ with
     | ret r =>
      obtain ⟨rfl,hq⟩:=hr₂
      repeat (any_goals (first | assumption | wp_step))
     | _=>exact hr₂.elim
  | _=>exact hr.elim
end
def Xeb:Value->Str
 | .str x _=>x
 | _=>⟨⟨[]⟩⟩
def StrEl(w:XwE)(e:Int × Value):Prop:=∃ x t,e=(hashStr w x,.str x t)
def Xc0(w:XwE)(ks:List Str)(_:Frz)(o:Obj):Prop:=∃ es ep t,o={ cls := .type "set",dict:=none,data := .set es ep t}/\(es.toList.map fun e=>Xeb e.2).Perm ks/\(∀ e∈es.toList,StrEl w e) /\
 es.size<scanBound/\t.fits es.size=true/\t.led=(!Xar w)/\(ks=[]∨t.plain=false)
theorem Xec{w:XwE}{ks:List Str}(Z Z':Frz)(o:Obj)(k:Frz.le Z Z')(x:Xc0 w ks Z o):Xc0 w ks Z' o:=x
abbrev XcA(w:XwE)(ks:List Str):AObj := .obj (Xc0 w ks) Xec
section
variable{prog:Xwx}{w:XwE}{A:Xww}{B:Frz}{env:Env}
theorem XtH{loc:List (Str × AV)}{led:Led}{R:AV->St->Prop}(h:∀ a,a∉keys led->R (.ref a) ⟨loc,(a,XcA w [])::led⟩):FC prog w A B env (.typ "set") [] [] ⟨loc,led⟩ R:=fun s Z fx xs ks hf hx hk S Q E hQ=>by
 cases hf
 cases hk
 cases hx
 refine XlJ ?_
 have P:=S.toSimL.push (o:={ cls := .type "set",dict:=none,data := .set #[] 0 (.fresh 0 0 (!Xar w))}) (ao:=XcA w []) rfl s.toks
  ⟨_,Xwp _ rfl,#[],0,_,rfl,.refl _,(fun e he=>by simp at he),(by decide),(by cases Xar w <;> decide),rfl,.inl rfl⟩
 exact hQ _ _ _ _ _ (h _ S.toSimL.lfresh) (S.after P.1 P.2) (.ref _) P.2.toF
end
theorem Xof(t:Xw2)(es:Array (Int × Value))(h:Int)(x:Value):(layNew t es h x).2.1.led=t.led:=by
 unfold layNew
 split
 ·dsimp only
  unfold SetTable.orStandIn
  split <;> rfl
 ·rfl
theorem Xjy(t:Xw2)(es:Array (Int × Value))(n:Nat):(relayAll t es n).2.1.led=t.led:=by
 unfold relayAll
 split
 ·rename_i t' order hr
  dsimp only
  split
  ·unfold SetTable.relaid SetTable.laid at hr
   cases hl:SetTable.layClean (SetTable.sizeAbove n - 1) (es.map (·.1)) with
   | none=>rw [hl] at hr;cases hr
   | some ow =>
    rw [hl] at hr
    have hr:=Xx9 hr
    have:=congrArg (fun p=>p.1.led) hr
    exact this.symm
  ·rfl
 ·rfl
theorem XhL(t:Xw2)(es:Array (Int × Value))(n:Nat)(h:t.plain=false):(relayAll t es n).2.1.plain=false:=by
 unfold relayAll
 split
 ·rename_i t' order hr
  dsimp only
  split
  ·unfold SetTable.relaid SetTable.laid at hr
   cases hl:SetTable.layClean (SetTable.sizeAbove n - 1) (es.map (·.1)) with
   | none=>rw [hl] at hr;cases hr
   | some ow =>
    rw [hl] at hr
    have hr:=Xx9 hr
    have:=congrArg (fun p=>p.1.plain) hr
    exact this.symm.trans h
  ·rfl
 ·rfl
section
variable{prog:Xwx}{w:XwE}{A:Xww}{E:Value->Xwl->Prop}{s:Xwl}
theorem StrEl.elems{l:List (Int × Value)}(h:∀ e∈l,StrEl w e):ElemsOf (XwP prog w) l:=fun e he=>by
 obtain ⟨x,t,rfl⟩:=h e he
 exact ⟨⟨x,by simp [XwP,Value.isStrOf],rfl⟩,rfl⟩
theorem Xe0{x y:Str}{t:Tok}:(XwP prog w).is x (.str y t)=true↔x=y:=by
 constructor
 ·intro h
  have h':(y == x)=true:=h
  exact (beq_iff_eq.mp h').symm
 ·rintro rfl
  show (x == x)=true
  exact beq_self_eq_true x
theorem XgV{h:Heap}{a:XwR}{es es':Array (Int × Value)}{ep:Nat}{t t':Xw2}(ho:h.get? a=some {cls := .type "set",dict:=none,data := .set es ep t}) :
  (h.update a (Obj.putSet es' t')).get? a=some {cls := .type "set",dict:=none,data := .set es' (ep+1) t' }:=by
 have:=XwW (Obj.putSet es' t') ho (by rw [putSet_of es' t' rfl];rfl)
 rw [putSet_of es' t' rfl] at this;exact this
theorem XiI{g:Bool->Sem Unit}(hg:∀ (b:Bool) (s₁:Xwl) (Q':Unit->Xwl->Prop),Q' () s₁->XwG (XwD prog w) A (g b) Q' E s₁)
  {a:XwR} {es:Array (Int × Value)} {ep:Nat} {t:Xw2} (ho:s.heap.get? a=some {cls := .type "set",dict:=none,data := .set es ep t}) {ks:List Str} {Z:Frz}
  {es1:Array (Int × Value)} {t2:Xw2} (hel1:∀ e∈es1.toList,StrEl w e) (hperm:(es1.toList.map fun e=>Xeb e.2).Perm ks)
  (hb1:es1.size<scanBound) (hf2:t2.fits es1.size=true) (hled:t2.led=(!Xar w)) (hpl:t2.plain=false) {wasDummy:Bool} {R:Option Bool->Xwl->Prop}
  (h:∀ h' o',XwO a s.heap h'->h'.get? a=some o'->Xc0 w ks Z o'->R (some true) {s with heap:=h' }) :
  XwG (XwD prog w) A (do
    storeSet a es1 t2
    if (!wasDummy && t2.tooFull)=true then do
      g (relayAll t2 es1 (XyL es1.size)).2.2
      storeSet a (relayAll t2 es1 (XyL es1.size)).1 (relayAll t2 es1 (XyL es1.size)).2.1
      XxW (some true)
     else XxW (some true)) R E s:=by
 refine Xwe (wpAny_storeSet_of ho rfl ?_ (fits_of_scanBound hb1))
 have ho1:=XgV (es':=es1) (t':=t2) ho
 have hsb1:=XwT s.heap a (Obj.putSet es1 t2)
 split
 ·have hp:=relayAll_perm t2 es1 (XyL es1.size)
  have hfr:=relayAll_fits t2 es1 (XyL es1.size)
  have hlr:=Xjy t2 es1 (XyL es1.size)
  have hpr:=XhL t2 es1 (XyL es1.size) hpl
  generalize hRl:relayAll t2 es1 (XyL es1.size)=Rl at hp hfr hlr hpr ⊢
  obtain ⟨es2,t3,gave2⟩:=Rl
  dsimp only at hp hfr hlr hpr ⊢
  have hsz:es2.size=es1.size:=by rw [← XxB,hp.length_eq,XxB]
  have hb2:es2.size<scanBound:=by rw [hsz];exact hb1
  refine Xwe (hg _ _ _ ?_)
  refine Xwe (wpAny_storeSet_of ho1 rfl ?_ (fits_of_scanBound hb2))
  have ho2:=XgV (es':=es2) (t':=t3) ho1
  exact Xwg (h _ _ (hsb1.trans (XwT _ a _)) ho2 ⟨es2,_,t3,rfl,(hp.map _).trans hperm,fun e he=>hel1 e (hp.mem_iff.mp he),hb2,hfr,hlr.trans hled,.inr hpr⟩)
 ·exact Xwg (h _ _ hsb1 ho1 ⟨es1,_,t2,rfl,hperm,hel1,hb1,hf2,hled,.inr hpl⟩)
theorem XpF{a:XwR}{x:Str}{t:Tok}{ks:List Str}{Z:Frz}{o:Obj}{Q:Value->Xwl->Prop}(ho:s.heap.get? a=some o)(hP:Xc0 w ks Z o)(hx:x∉ks)(hsz:ks.length+1<scanBound)
  (h:∀ h' o',XwO a s.heap h'->h'.get? a=some o'->Xc0 w (ks++[x]) Z o'->Q .none {s with heap:=h',toks:=s.toks+1}) :
  XwG (XwD prog w) A (call (.builtin "set.add") [.ref a,.str x t]) Q E s:=by
 obtain ⟨es,ep,tb,rfl,hperm,hel,hb,hf,hled,hpl⟩:=hP
 have hT:s.TypeIs (.ref a) "set" := ⟨_,ho,rfl⟩
 have hlen:es.size=ks.length:=by rw [← hperm.length_eq];simp
 refine Xw3 F.slot_set_add hT F.entry_set_add ?_ (F.args_set_add_2 _ _)
 unfold Builtin.«set.add» Builtin.Frozenset.oneOther
 simp only [List.isEmpty_nil,bind_assoc]
 unfold Builtin.Frozenset.addrOf setAdd
 refine Xwe (Xwg ?_)
 try dsimp only
 refine Xwe (Xwg ?_)
 try dsimp only
 refine Xwe ?_
 refine Xwt ?_
 have hkey:(XwP prog w).is x (.str x t)=true:=Xe0.mpr rfl
 refine Xwe ((XwP prog w).pyHash hkey ?_)
 unfold setAddHashed setAddHashedIn
 refine Xwt (Xwe (Xxt ho rfl hf ?_))
 dsimp only
 have helE:ElemsOf (XwP prog w) es.toList:=StrEl.elems hel
 rw [byScan_of rfl hb helE]
 simp only [↓reduceIte]
 unfold setAddByScan
 refine Xwe ?_
 refine Xwe (XxC ?_)
 refine Xwe (wpAny_setScan_of (k:=x) hkey ho rfl hf helE ?_)
 have hnone:List.findIdx? (fun e=>(XwP prog w).is x e.2) es.toList=none:=by
  rw [List.findIdx?_eq_none_iff]
  intro e he
  obtain ⟨y,u,rfl⟩:=hel e he
  rw [Bool.eq_false_iff]
  intro hq
  have:x=y:=Xe0.mp hq
  subst this
  exact hx (hperm.mem_iff.mp (XwC (f:=fun e:Int × Value=>Xeb e.2) he))
 rw [hnone]
 dsimp only
 have hgw:∀ (b:Bool) {s₁:Xwl} {Q':Unit->Xwl->Prop} {E':Value->Xwl->Prop},Q' () s₁->XwG (XwD prog w) A.in1 (match b with | true=>rule "set.scan.the-table-gave-way" | false=>XxW ()) Q' E' s₁ :=
  fun b s₁ Q' E' hq=>by cases b <;> first | exact Xwg hq | exact XxC hq
 have hperm1:=layNew_perm tb es ((XwP prog w).hash x) (.str x t)
 have hfits1:=layNew_fits tb es ((XwP prog w).hash x) (.str x t)
 have hled1:=Xof tb es ((XwP prog w).hash x) (.str x t)
 generalize hL:layNew tb es ((XwP prog w).hash x) (.str x t)=L at hperm1 hfits1 hled1 ⊢
 obtain ⟨es1,t1,wasDummy,gave⟩:=L
 dsimp only at hperm1 hfits1 hled1 ⊢
 rw [Array.toList_push] at hperm1
 have hel1:∀ e∈es1.toList,StrEl w e:=fun e he=>by
  rcases Xw5.mp (hperm1.mem_iff.mp he) with q | q
  ·exact hel e q
  ·rw [Xwy] at q;subst q;exact ⟨x,t,rfl⟩
 have hperm2:(es1.toList.map fun e=>Xeb e.2).Perm (ks++[x]):=by
  refine (hperm1.map _).trans ?_
  rw [XwH]
  exact hperm.append (.refl _)
 have hb1:es1.size<scanBound:=by
  rw [← XxB,hperm1.length_eq,Xwo,XxB,hlen]
  simpa using hsz
 refine Xwe (hgw _ ?_)
 have hfin:∀ h' o',XwO a s.heap h'->h'.get? a=some o'->Xc0 w (ks++[x]) Z o'->Q .none {s with heap:=h',toks:=s.toks+1}:=h
 split
 ·refine Xwe ?_
  rw [hashByValue_scannable 8 rfl]
  refine Xwg ?_
  refine XiI (s:={ s with toks:=s.toks+1}) (Z:=Z) (ks:=ks++[x]) ?_ ho hel1 hperm2 hb1 ?_ ?_ ?_ ?_
  ·intro b s₁ Q' hq;cases b <;> first | exact Xwg hq | exact XxC hq
  ·exact SetTable.fits_plain_off hfits1
  ·exact hled1.trans hled
  ·rfl
  ·intro h' o' hsb hg hS
   dsimp only
   exact Xwg (Xwg ⟨_,rfl,hfin h' o' hsb hg hS⟩)
 ·rename_i hpf
  refine Xwe (Xwg ?_)
  simp only [↓reduceIte]
  refine XiI (s:={ s with toks:=s.toks+1}) (Z:=Z) (ks:=ks++[x]) ?_ ho hel1 hperm2 hb1 hfits1 (hled1.trans hled) (by simpa using hpf) ?_
  ·intro b s₁ Q' hq;cases b <;> first | exact Xwg hq | exact XxC hq
  ·intro h' o' hsb hg hS
   dsimp only
   exact Xwg (Xwg ⟨_,rfl,hfin h' o' hsb hg hS⟩)
end
end
section
abbrev Xf2:Expr := .Name ⟨⟨[]⟩⟩ default
section
variable{prog:Xwx}{w:XwE}{A:Xww}{B:Frz}{env:Env}{N:Led}
theorem XfJ{it S:XwR}{k:Nat}{res:Value}{R:Result->Xwl->Prop}(hA:Room A (k+1)):∀ (items acc:List AV) (gl led:Led) (s:Xwl) (Z:Frz),NIn N led->IterOk prog w B N k Xf2 it items gl->acc.length+items.length<=XwZ ->
  SimL B s Z ((S,.list acc)::(gl++led))->(∀ s' Z',SimL B s' Z' ((S,.list (acc++items))::led)->Ext (Xh ((S,.list acc)::(gl++led))) s Z s' Z' (Xh ((S,.list (acc++items))::led))->R (.ok (.ret res)) s') ->
  codeAny (XwD prog w) A (.builtin "list.extend.loop" ⟨[.ref S,.ref it,res],[]⟩) R s
 | [],acc,gl,led,s,Z,hN,hI,hsz,S1,hR=>by
  refine XyA F.entry_extend_loop ?_
  rw [Xyy F.plain_extend_loop _]
  show XwG _ A.in1 (Xyc (.ref it) >>= _) _ _ s
  refine Xwe (hI A.in1 hA.in1 ((S,.list acc)::led) (hN.cons _) s Z (S1.perm (XxN.symm)) _ _ fun s' Z' S' X'=>?_)
  rw [Xxk] at hR
  rw [Xaj (XxN (l₁:=gl) (l₂:=led) (a:=(S,AObj.list acc)))] at X'
  exact Xwg (hR s' Z' S' X')
 | x::items,acc,gl,led,s,Z,hN,hI,hsz,S1,hR=>by
  refine XyA F.entry_extend_loop ?_
  rw [Xyy F.plain_extend_loop _]
  rw [Xwn] at hsz
  have hacc:acc.length<XwZ:=by omega
  show XwG _ A.in1 (Xyc (.ref it) >>= fun r=>match r with
   | none=>ret res
   | some v=>Xxi Xf2 (.ref it) v >>= fun _=>(Builtin.List.listUpdate (.ref S) (·.push v) >>= fun _=>again (.builtin "list.extend.loop" ⟨[.ref S,.ref it,res],[]⟩))) _ _ s
  refine Xwe (Xw8 (hI A.in1 hA.in1 ((S,.list acc)::led) (hN.cons _) s Z (S1.perm (XxN.symm)) (fun r s₁=>match r with
   | none=>False
   | some v=>XwG (XwD prog w) A.in1 (Builtin.List.listUpdate (.ref S) (·.push v) >>= fun _=>again (.builtin "list.extend.loop" ⟨[.ref S,.ref it,res],[]⟩)) (fun fin s'=>match fin with | .done f=>R (.ok f) s' | .again c'=>c'.quiet=true/\codeAny (XwD prog w) A c' R s') (fun e s'=>R (.error e) s') s₁) (fun e s'=>R (.error e) s') fun s' Z' v gl' S' V X' hI'=>?_) (fun r s₁ h₁=>?_) fun _ _ h=>h)
  ·rw [Xaj (XxN (l₁:=gl) (l₂:=led) (a:=(S,AObj.list acc))),Xaj (XxN (l₁:=gl') (l₂:=led) (a:=(S,AObj.list acc)))] at X'
   have S2:=S'.perm (XxN (l₁:=gl') (l₂:=led) (a:=(S,AObj.list acc)))
   obtain ⟨its,n,g,vs⟩:=S2.own _ (Xwf ..)
   dsimp only at g
   have hlen:its.size=acc.length:=by simpa using vs.length
   show XwG _ A.in1 (updateSeq S (·.push v) >>= _) _ _ _
   have hg':∃ n',(s'.heap.update S (Xw6 fun x=>x.push v)).get? S=some {cls := .type "list",data := .seq (its.push v) n' }:=⟨_,XwW (Xw6 fun x=>x.push v) g rfl⟩
   obtain ⟨n',hg'⟩:=hg'
   have P:=S2.upd (led':=(S,.list (acc++[x]))::(gl'++led)) .here (h':=s'.heap.update S (Xw6 fun x=>x.push v)) (tk:=s'.toks) (fun b ob hb e=>(XwT ..).extBut b ob hb e) rfl rfl ⟨_,n',hg',by simpa using vs.append (.cons V .nil)⟩
   refine Xwe (wpAny_updateSeq g rfl (Xwg ⟨plainId_quiet F.plain_extend_loop _,XfJ hA items (acc++[x]) gl' led _ Z' hN hI' (by simp only [Xwo,Xya];omega) P.1 fun s'' Z'' S'' X''=>?_⟩) (by rw [hlen];omega) (by show (its.push v).size<=XwZ+1;rw [Array.size_push,hlen];omega))
   rw [XwK] at S'' X''
   exact hR s'' Z'' S'' ((X'.trans P.2).trans X'')
  ·cases r with
   | none=>exact h₁.elim
   | some v=>exact Xwe (Xw8 h₁ (fun _ s₂ h₂=>h₂) fun _ _ h=>h)
theorem Recast.same{a:XwR}{xs:List AV}:∀ loc:List (Str × AV),Recast a xs loc loc
 | [] => .nil
 | _::l => .keep (Recast.same l)
theorem Xci{it:XwR}{k:Nat}{T':String}{items:List AV}{gl led:Led}{loc:List (Str × AV)}{K:AV->St->Prop}(hA:Room A (k+3))(hN:NIn N led)(hI:IterOk prog w B N k Xf2 it items gl)(hsz:items.length<=XwZ)
  (hT:∀ s Z,SimL B s Z (gl++led)->s.TypeIs (.ref it) T') (hT1:(XyJ T' == XyJ "list")=false) (hT2:(XyJ T' == XyJ "tuple")=false)
  (hself:∀ (A:Xww) s Z,SimL B s Z (gl++led)->∀ (Q:Value->Xwl->Prop) E,Q (.ref it) s->XwG (XwD prog w) A (pyIter (.ref it)) Q E s)
  (hlen:Xxz (.type T') "__len__" = XxW none) (hhint:Xxz (.type T') "__length_hint__" = XxW none)
  (h:K (.lst items) ⟨loc,led⟩):FC prog w A B env (.typ "list") [.ref it] [] ⟨loc,gl++led⟩ K:=fun s Z fx xs ks hf hx hk S0 Q E hQ=>by
 cases hf
 cases hk
 cases hx with
 | cons hv hx =>
  cases hx
  cases hv
  have SL:=S0.toSimL
  have P1:=SL.push (o:={ cls := .type "list",data := .seq #[]}) (ao := .list []) rfl s.toks ⟨#[],0,Xwp _ rfl,.nil⟩
  obtain ⟨oi,hoi,_⟩:=hT s Z SL
  have hne:s.heap.objs.size≠it:=fun e=>by have:=Xw7 hoi;rw [← e] at this;exact Xx8 _ this
  refine callType_codes (Q₁:=fun obj s₁=>obj = .ref s.heap.objs.size/\s₁={ s with heap:=s.heap.push {cls := .type "list",data := .seq #[]} }) F.called_list (F.typeCall_list_1 _) F.entry_list_init
   (code_list_new _ ⟨rfl,rfl⟩) fun obj s₁ h₁=>?_
  obtain ⟨rfl,rfl⟩:=h₁
  have hS:(s.heap.push {cls := .type "list",data := .seq #[]}).get? s.heap.objs.size=some {cls := .type "list",data := .seq #[]}:=Xwp _ rfl
  refine ⟨⟨_,hS,rfl⟩,F.args_list_init_2 _ _,?_⟩
  show XwG _ A.in1.in1 (do let old ← Builtin.List.listItems (.ref s.heap.objs.size);Builtin.List.listUpdate (.ref s.heap.objs.size) (fun _ => #[]);letGo old.toList.reverse;Builtin.List.listExtendWith (.ref s.heap.objs.size) (.ref it) .none) _ _ _
  refine Xwe ?_
  unfold Builtin.List.listItems
  refine Xwe (XxT hS rfl (Xwg ?_))
  show XwG _ A.in1.in1 (updateSeq s.heap.objs.size (fun _ => #[]) >>= fun _=>letGo (#[]:Array Value).toList.reverse >>= fun _=>Builtin.List.listExtendWith (.ref s.heap.objs.size) (.ref it) .none) _ _ _
  refine Xwe (wpAny_updateSeq hS rfl ?_)
  obtain ⟨n2,hS₂⟩:∃ n2,((s.heap.push {cls := .type "list",data := .seq #[]}).update s.heap.objs.size (Xw6 (fun _=>(#[]:Array Value)))).get? s.heap.objs.size=some {cls := .type "list",data := .seq #[] n2}:=⟨_,XwW (Xw6 (fun _=>(#[]:Array Value))) hS rfl⟩
  have P2:=P1.1.upd (led':=(s.heap.objs.size,.list [])::(gl++led)) .here (h':=(s.heap.push {cls := .type "list",data := .seq #[]}).update s.heap.objs.size (Xw6 (fun _=>(#[]:Array Value)))) (tk:=s.toks) (fun b ob hb e=>(XwT ..).extBut b ob hb e) rfl rfl ⟨_,n2,hS₂,.nil⟩
  refine Xwe (wpAny_letGo ?_)
  unfold Builtin.List.listExtendWith
  have D2:=P2.1.drop1
  refine Xwe (wpAny_typeOf (hT _ Z D2) ?_)
  have h1:Builtin.List.listSameRef (.ref s.heap.objs.size) (.ref it)=false:=by simp [Builtin.List.listSameRef,hne]
  simp only [h1,hT1,hT2,Bool.or_false,XwX,if_false]
  refine Xwe (hself _ _ Z D2 _ _ ?_)
  refine Xwe (Xwt ?_)
  unfold Builtin.List.listLengthHint
  refine Xwe (XyT (hT _ Z D2) hlen ?_)
  show XwG _ A.in1.in1 (specialOf (Value.ref it) (Xwk "__length_hint__") >>= _) _ _ _
  refine Xwe (XyT (hT _ Z D2) hhint ?_)
  refine Xwg ?_
  show XwG _ A.in1.in1 (rule "list.extend.makes-room" >>= fun _=>Builtin.List.listTouch (.ref s.heap.objs.size) >>= fun _ =>
   again (.builtin "list.extend.loop" ⟨[.ref s.heap.objs.size,.ref it,.none],[]⟩)) _ _ _
  refine Xwe (XxC ?_)
  refine Xwe ?_
  show XwG _ A.in1.in1 (updateSeq s.heap.objs.size (·.push .none) >>= fun _=>updateSeq s.heap.objs.size (·.pop)) _ _ _
  refine Xwe (wpAny_updateSeq hS₂ rfl ?_)
  obtain ⟨n3,hS₃⟩:∃ n3,(((s.heap.push {cls := .type "list",data := .seq #[]}).update s.heap.objs.size (Xw6 (fun _=>(#[]:Array Value)))).update s.heap.objs.size (Xw6 (·.push Xxr))).get? s.heap.objs.size=some {cls := .type "list",data := .seq #[Xxr] n3}:=⟨_,XwW (Xw6 (·.push Xxr)) hS₂ rfl⟩
  refine wpAny_updateSeq (hz:=by seq_fits) hS₃ rfl ?_
  obtain ⟨n4,hS₄⟩:∃ n4,((((s.heap.push {cls := .type "list",data := .seq #[]}).update s.heap.objs.size (Xw6 (fun _=>(#[]:Array Value)))).update s.heap.objs.size (Xw6 (·.push Xxr))).update s.heap.objs.size (Xw6 (·.pop))).get? s.heap.objs.size=some {cls := .type "list",data := .seq #[] n4}:=⟨_,XwW (Xw6 (·.pop)) hS₃ rfl⟩
  have P3:=P2.1.upd (led':=(s.heap.objs.size,.list [])::(gl++led)) .here (h':=(((s.heap.push {cls := .type "list",data := .seq #[]}).update s.heap.objs.size (Xw6 (fun _=>(#[]:Array Value)))).update s.heap.objs.size (Xw6 (·.push Xxr))).update s.heap.objs.size (Xw6 (·.pop))) (tk:=s.toks)
   (fun b ob hb e=>(XwT ..).extBut b ob hb ((XwT ..).extBut b ob hb e)) rfl rfl ⟨_,n4,hS₄,.nil⟩
  refine Xwg ⟨plainId_quiet F.plain_extend_loop _,XfJ (k:=k) ?_ items [] gl led _ Z hN hI (by simpa using hsz) P3.1 fun s' Z' S' X'=>?_⟩
  ·exact ⟨hA.h,by have:=hA.d;show A.depth+(k+1)<=_;omega,by have:=hA.u;show A.units+1+(k+1)<=_;omega⟩
  ·rw [Xwv] at S' X'
   have X:=((P1.2.trans P2.2).trans P3.2).trans X'
   have SF:=S0.after S' X
   obtain ⟨Z2,S2,V2,X2⟩:=SF.freeze (loc':=loc) (Recast.same loc)
   exact ⟨rfl,hQ _ _ s' Z2 _ h S2 V2 ((X.toF (st:=⟨loc,gl++led⟩)).trans X2)⟩
end
end
section
theorem XiT:Slot "map" "__init__" "object.__init__" :=
 .of (owner := "object") (n := "__init__") (by rw [Xxh,XwS];kernel_rfl) (by decide +kernel) (by decide +kernel) (by decide +kernel)
  (by first | exact .inl (by decide +kernel) | exact .inr (by decide +kernel)) (by rw [Xxe];kernel_rfl)
theorem Xbn:Slot "map" "__next__" "map.__next__" :=
 .of (owner := "map") (n := "__next__") (by rw [Xxh,XwS];kernel_rfl) (by decide +kernel) (by decide +kernel) (by decide +kernel)
  (by first | exact .inl (by decide +kernel) | exact .inr (by decide +kernel)) (by rw [Xxe];kernel_rfl)
theorem XeD:Slot "map" "__iter__" "map.__iter__" :=
 .of (owner := "map") (n := "__iter__") (by rw [Xxh,XwS];kernel_rfl) (by decide +kernel) (by decide +kernel) (by decide +kernel)
  (by first | exact .inl (by decide +kernel) | exact .inr (by decide +kernel)) (by rw [Xxe];kernel_rfl)
theorem Xd3:entryFor table "map.__next__" = some Builtin.«map.__next__» := Xyf @_
theorem Xi2:entryFor table "map.__new__" = some Builtin.«map.__new__» := Xyf @_
theorem Xia:entryFor table "map.__iter__" = some Builtin.«dict_keyiterator.__iter__» :=
 entryFor_alias (id' := "dict_keyiterator.__iter__") @_ (by first | rfl | decide +kernel | (unfold String.splitOn;simp +decide [String.splitOnAux])) (by decide +kernel) @_
theorem XeH(a:Value):XyY "map.__next__" ⟨[a],[]⟩:=by unfold XyY;kernel_rfl
theorem Xi6(a:Value):XyY "map.__iter__" ⟨[a],[]⟩:=by unfold XyY;kernel_rfl
theorem Xl2:mroOf (.type "map")=XxW [.type "map",.type "object"]:=by rw [mroOf_type];kernel_rfl
theorem Xh1:Xxz (.type "map") "__new__" = XxW (some (.builtin "map.__new__")):=by rw [Xxh,XwS];kernel_rfl
theorem Xoq:TypeCalled "map" "map.__new__" "object.__init__" :=
 ⟨by decide +kernel,by decide +kernel,⟨_,_,Xl2⟩,madeBy_type Xl2 Xh1 (by decide +kernel),by decide +kernel,by rw [Xxe];kernel_rfl,XiT⟩
theorem Xjp(a b:Value):checkTypeCall "map" ⟨[a,b],[]⟩=XxW ():=@_
theorem Xlq(a b:Value):checkBuiltinCall "map.__new__" ⟨[.type "map",a,b],[]⟩=XxW ():=@_
theorem XsL:XyI (.type "map") (.type "map")=XxW true:=by rw [Xxe];kernel_rfl
theorem Xej:Xxz (.type "map") "__len__" = XxW none:=by rw [Xxh,XwS];kernel_rfl
theorem XdO:Xxz (.type "map") "__length_hint__" = XxW none:=by rw [Xxh,XwS];kernel_rfl
section
variable{prog:Xwx}{w:XwE}{A:Xww}{E:Value->Xwl->Prop}{s:Xwl}
theorem Xli{l:XwR}{f:Value}{items:Array Value}{P:PySem.Fin->Xwl->Prop}(hl:s.heap.IsList l items)
  (h:P (.done (.ret (.ref (s.heap.objs.size+2)))) {s with heap:=((s.heap.push {cls := .type "list_iterator",data := .fields #[.ref l,.int 0 0]}).push {cls := .type "tuple",data := .seq #[.ref s.heap.objs.size]}).push {cls := .type "map",data := .fields #[.ref (s.heap.objs.size+1),f]} }) :
  XwG (XwD prog w) A (Builtin.«map.__new__» ⟨[.type "map",f,.ref l],[]⟩) P E s:=by
 unfold Builtin.«map.__new__»
 refine Xwe ?_
 unfold Builtin.SmallTypes.newClass
 refine Xwe (Xxg (a:=true) rfl ?_)
 refine Xxl rfl ?_
 refine Xwe (Xxg (a:=true) XsL ?_)
 refine Xxl rfl ?_
 refine Xwg ?_
 refine Xwe (Xxg (a:=()) rfl ?_)
 dsimp only
 rw [if_neg (by simp)]
 refine Xwe ?_
 unfold Builtin.SmallTypes.iterAll
 simp only [List.drop_succ_cons,List.drop_zero,List.forIn_cons,List.forIn_nil]
 refine Xwe (Xwe (Xwe (Xwt (wpAny_pyIter_list hl ?_))))
 refine Xwg (Xwg (Xwg ?_))
 refine Xwe (wpAny_newTuple ?_ (by simp;decide))
 refine Xwe ?_
 unfold Builtin.SmallTypes.newRecord
 refine Xxc ?_
 refine Xwg ?_
 simpa [XyM] using h
theorem Xs9{it l:XwR}{i:Nat}{items:Array Value}{x:Value}{Q:Value->Xwl->Prop}(hit:s.heap.IsListIter it l i)(hl:s.heap.IsList l items)(hx:items[i]? = some x)
  (hQ:∀ h',h'.IsListIter it l (i+1)->XwO it s.heap h'->Q x {s with heap:=h' }):XwG (XwD prog w) A (Builtin.SmallTypes.nextOf (.ref it)) Q E s:=by
 obtain ⟨o,ho,hc,hd⟩:=id hit
 obtain ⟨ol,hol,_,nl,hdl⟩:=hl
 unfold Builtin.SmallTypes.nextOf
 refine Xwe (Xxb (name:=Xwk "__next__") hit.typeIs slot_listiter_next (Xw3 slot_listiter_next hit.typeIs entry_listiter_next ?_ (args_listiter_next _)))
 show XwG _ _ (field (.ref it) 0 >>= _) _ _ s
 refine Xwe (Xyv ho hd (x := .ref l) rfl ?_)
 refine Xxl rfl ?_
 refine Xwe (Xyv ho hd (x := .int i 0) rfl ?_)
 refine Xwe (XxT hol hdl ?_)
 simp only [XwY,hx]
 refine Xwe (wpAny_setField ho hd (by simp) (Xwg ⟨x,rfl,Xwg (hQ _ ?_ (XwT ..))⟩))
 exact ⟨_,XwW _ ho (Xyq (XyQ hd _)),(Obj.cls_mapFields ..).trans hc,by
  rw [XyQ hd];simp [Xxw]⟩
theorem Xum{it l:XwR}{i:Nat}{items:Array Value}{Q:Value->Xwl->Prop}(hh:A.handled=none)(hit:s.heap.IsListIter it l i)(hl:s.heap.IsList l items)(hx:items[i]? = none)
  (hQ:∀ h' e,Heap.ExtBut it s.heap h'->({s with heap:=h' }:Xwl).TypeIs (.ref e) "StopIteration" -> E (.ref e) {s with heap:=h' }):XwG (XwD prog w) A (Builtin.SmallTypes.nextOf (.ref it)) Q E s:=by
 obtain ⟨o,ho,hc,hd⟩:=id hit
 obtain ⟨ol,hol,_,nl,hdl⟩:=hl
 unfold Builtin.SmallTypes.nextOf
 refine Xwe (Xxb (name:=Xwk "__next__") hit.typeIs slot_listiter_next (Xw3 slot_listiter_next hit.typeIs entry_listiter_next ?_ (args_listiter_next _)))
 show XwG _ _ (field (.ref it) 0 >>= _) _ _ s
 refine Xwe (Xyv ho hd (x := .ref l) rfl ?_)
 refine Xxl rfl ?_
 refine Xwe (Xyv ho hd (x := .int i 0) rfl ?_)
 refine Xwe (XxT hol hdl ?_)
 simp only [XwY,hx]
 refine Xwe (XxC (Xwe (wpAny_setField ho hd (by simp) ?_)))
 show XwG _ _ (newExc (.type "StopIteration") [] >>= _) _ _ _
 refine Xwe ?_
 simp only [newExc,newTuple]
 refine Xwe (Xxc ?_ (by size_fits))
 refine Xwe (m:=Xyh _ _) (Xxg (a:=Xxr) (by first | rfl | (simp only [Xyh];rfl)) ?_)
 refine Xxc ?_ (by size_fits)
 simp only [raiseNew]
 refine Xwe (wpAny_handled ?_)
 rw [show A.in1.handled=none from hh]
 refine Xwe (Xwg (wpAny_throw ?_))
 exact hQ _ _ (((XwT ..).extBut.push _).push _) ⟨_,Xwp _ rfl,rfl⟩
theorem XrD{m tt it l:XwR}{f x:Value}{i:Nat}{items:Array Value}{Q:Option Value->Xwl->Prop}(hm:s.heap.get? m=some {cls := .type "map",data := .fields #[.ref tt,f]})(ht:s.heap.get? tt=some {cls := .type "tuple",data := .seq #[.ref it]})
  (hit:s.heap.IsListIter it l i) (hl:s.heap.IsList l items) (hx:items[i]? = some x) (hmi:m≠it)
  (h:∀ h',h'.IsListIter it l (i+1)->XwO it s.heap h'->XwG (XwD prog w) A.in1 (call f [x]) (fun v s'=>Q (some v) s') (fun _ _=>False) {s with heap:=h' }) :
  XwG (XwD prog w) A (Xyc (.ref m)) Q E s:=by
 have hT:s.TypeIs (.ref m) "map" := ⟨_,hm,rfl⟩
 unfold Xyc
 refine Xwe (Xyg (Xxb (name:=Xwk "__next__") hT Xbn (Xw3 Xbn hT Xd3 ?_ (XeH _))))
 show XwG _ _ (field (.ref m) 0 >>= _) _ _ s
 refine Xwe (Xyv hm rfl (x := .ref tt) rfl ?_)
 refine Xwe (XxT ht rfl ?_)
 simp only [← Array.forIn_toList,List.forIn_cons,List.forIn_nil]
 refine Xwe (Xwe (Xwe (Xwt (Xs9 hit hl hx fun h' hit' hs'=>?_))))
 refine Xwg (Xwg ?_)
 have hm':h'.get? m=some {cls := .type "map",data := .fields #[.ref tt,f]}:=(hs'.2 m hmi).trans hm
 refine Xwe (Xyv hm' rfl (x:=f) rfl ?_)
 refine Xwe (Xwt (Xw8 (h h' hit' hs') (fun v s' hv=>?_) fun _ _ z=>z.elim))
 refine Xwe (wpAny_letGo (Xwg ⟨v,rfl,Xwg hv⟩))
theorem Xs7{m tt it l:XwR}{f:Value}{i:Nat}{items:Array Value}{Q:Option Value->Xwl->Prop}(hh:A.handled=none)(hm:s.heap.get? m=some {cls := .type "map",data := .fields #[.ref tt,f]})(ht:s.heap.get? tt=some {cls := .type "tuple",data := .seq #[.ref it]})
  (hit:s.heap.IsListIter it l i) (hl:s.heap.IsList l items) (hx:items[i]? = none)
  (hQ:∀ h',Heap.ExtBut it s.heap h'->Q none {s with heap:=h' }):XwG (XwD prog w) A (Xyc (.ref m)) Q E s:=by
 have hT:s.TypeIs (.ref m) "map" := ⟨_,hm,rfl⟩
 unfold Xyc
 refine Xwe (Xyg (Xxb (name:=Xwk "__next__") hT Xbn (Xw3 Xbn hT Xd3 ?_ (XeH _))))
 show XwG _ _ (field (.ref m) 0 >>= _) _ _ s
 refine Xwe (Xyv hm rfl (x := .ref tt) rfl ?_)
 refine Xwe (XxT ht rfl ?_)
 simp only [← Array.forIn_toList,List.forIn_cons,List.forIn_nil]
 refine Xwe (Xwe (Xwe (Xwt (Xum hh hit hl hx fun h' e hx' hT'=>?_))))
 refine Xwe (XxL (T := "StopIteration") (b:=true) hT' isSubtype_stop ?_)
 exact Xwg (hQ h' hx')
end
end
section
open PySem PySem.W PySem.Builtin
theorem Xag:Slot "set_iterator" "__next__" "set_iterator.__next__" :=
 .of (owner := "set_iterator") (n := "__next__") (by rw [Xxh,XwS];kernel_rfl) (by decide +kernel) (by decide +kernel) (by decide +kernel)
  (by first | exact .inl (by decide +kernel) | exact .inr (by decide +kernel)) (by rw [Xxe];kernel_rfl)
theorem XbS:entryFor table "set_iterator.__next__" = some Builtin.«set_iterator.__next__» := Xyf @_
theorem Xcd(a:Value):XyY "set_iterator.__next__" ⟨[a],[]⟩:=by unfold XyY;kernel_rfl
theorem Xh9:entryFor table "set.__iter__" = some Builtin.«frozenset.__iter__» :=
 entryFor_alias (id' := "frozenset.__iter__") @_ rfl (by decide +kernel) @_
theorem Xi5(a:Value):XyY "set.__iter__" ⟨[a],[]⟩:=by unfold XyY;kernel_rfl
theorem Xcb{α:Type}:∀ (l:List α) (i:Nat) (h:i<l.length),(l[i]::l.eraseIdx i).Perm l
 | x::xs,0,h => .refl _
 | x::xs,i+1,h=>(XxX x _ _).trans ((Xcb xs i (Nat.lt_of_succ_lt_succ h)).cons x)
section
variable{prog:Xwx}{w:XwE}{A:Xww}{E:Value->Xwl->Prop}{s:Xwl}
theorem Xjl{src:Source}{n:Nat}{Q:Nat->Xwl->Prop}(hn:n≠0)(h:∀ i d,i<n->Q i {s with drawn:=d}):XwG (XwD prog w) A (choose src n) Q E s :=
 fun Γ p hΓ=>⟨hn,h _ _ (Nat.mod_lt _ (Nat.pos_of_ne_zero hn))⟩
theorem Xdy{α:Type}:∀ (n:Nat) (xs:List α) {s:Xwl} {Q:List α->Xwl->Prop},xs.length<=n->(∀ l d,l.Perm xs->Q l {s with drawn:=d})->XwG (XwD prog w) A (drawOrder n xs) Q E s
 | 0,xs,s,Q,hl,h=>by
  have:xs=[]:=List.length_eq_zero_iff.mp nofun
  subst this
  exact Xwg (h [] s.drawn (.refl _))
 | n+1,[],s,Q,hl,h=>Xwg (h [] s.drawn (.refl _))
 | n+1,x::xs,s,Q,hl,h=>by
  unfold drawOrder
  refine Xwe (Xjl (by simp) fun i d hi=>?_)
  rw [XwI hi]
  dsimp only
  refine Xwe (Xdy n _ (by rw [List.length_eraseIdx];simp only [Xwn] at hl hi ⊢;split <;> omega) fun l d' hp=>?_)
  refine Xwg (h _ d' ?_)
  exact (hp.cons _).trans (Xcb _ _ hi)
theorem XhM{α:Type}(next:Nat->Nat)(xs:Array α):(pickOrder next xs).toList.Perm xs.toList:=by
 have:∀ (fuel k:Nat) (left:List α) (out:Array α),left.length<=fuel->(pickOrder.go next fuel k left out).toList.Perm (out.toList++left):=by
  intro fuel
  induction fuel with
  | zero =>
   intro k left out hl
   have:left=[]:=List.length_eq_zero_iff.mp nofun
   subst this
   unfold pickOrder.go
   simp
  | succ n ih =>
   intro k left out hl
   unfold pickOrder.go
   cases left with
   | nil=>simp
   | cons y ys =>
    have hi:next k % (y::ys).length<(y::ys).length:=Nat.mod_lt _ (by simp)
    rw [XwI hi]
    dsimp only
    refine (ih (k+1) _ _ (by rw [List.length_eraseIdx];simp only [Xwn] at hl hi ⊢;split <;> omega)).trans ?_
    rw [Array.toList_push,XwK]
    exact Xy3 _ (by rw [List.singleton_append];exact Xcb _ _ hi)
 have h:=this xs.size 0 xs.toList #[] (by simp)
 simpa [pickOrder] using h
theorem Xbf{Q:Bool->Xwl->Prop}(h:Q (Xar w) s):XwG (XwD prog w) A setsByText Q E s:=by
 unfold setsByText
 exact Xwe (wpAny_askSetting (Xwg h))
abbrev Xbs(first:Value)(i:Nat)(a:XwR)(n ep:Nat):Obj:={ cls := .type "set_iterator",dict:=none,data := .fields #[first,.int i 0,.ref a,.int n 0,.int ep 0],slots := #[]}
theorem XiV{it a tp:XwR}{i n ep j:Nat}{places:Array Value}{np:Nat}{es:Array (Int × Value)}{t:Xw2}{h:Int}{x:Value}{Q:Option Value->Xwl->Prop}
  (hit:s.heap.get? it=some (Xbs (.ref tp) i a n ep)) (htp:s.heap.get? tp=some {cls := .type "tuple",data := .seq places np})
  (ha:s.heap.get? a=some {cls := .type "set",dict:=none,data := .set es ep t}) (hf:t.fits es.size=true) (hn:es.size=n) (hj:places[i]? = some (.int j 0)) (hx:es[j]? = some (h,x))
  (hQ:∀ h',h'.get? it=some (Xbs (.ref tp) (i+1) a n ep)->XwO it s.heap h'->Q (some x) {s with heap:=h' }):XwG (XwD prog w) A (Xyc (.ref it)) Q E s:=by
 have hT:s.TypeIs (.ref it) "set_iterator" := ⟨_,hit,rfl⟩
 unfold Xyc
 refine Xwe (Xyg (Xxb (name:=Xwk "__next__") hT Xag (Xw3 Xag hT XbS ?_ (Xcd _))))
 unfold Builtin.«set_iterator.__next__»
 refine Xwe (Xwg ?_)
 refine Xwe (XxU hit rfl ?_)
 dsimp only
 refine Xwe ?_
 unfold setEntries
 refine Xwe (Xxt ha rfl hf (Xwg ?_))
 dsimp only
 rw [if_neg (by simp [hn])]
 refine Xwe (XxT htp rfl ?_)
 dsimp only
 rw [XwY,hj]
 dsimp only
 refine Xwe ?_
 unfold setNextDrawn
 refine Xwe (Xxt ha rfl hf ?_)
 dsimp only
 rw [if_neg (by simp),XwY,hx]
 refine Xwg ?_
 refine Xwe (XyO hit (by simp) fun h' hg hsb=>?_)
 refine Xwg ⟨x,rfl,Xwg (hQ h' ?_ hsb)⟩
 rw [hg]
 simp [Xxw]
theorem XeR{it a:XwR}{i n ep j j':Nat}{es:Array (Int × Value)}{t:Xw2}{x:Value}{Q:Option Value->Xwl->Prop}
  (hit:s.heap.get? it=some (Xbs (.int j 0) i a n ep))
  (ha:s.heap.get? a=some {cls := .type "set",dict:=none,data := .set es ep t}) (hf:t.fits es.size=true) (hn:es.size=n)
  (hnext:∀ (A:Xww) (Q:Option (Value × Nat)->Xwl->Prop) (E:Value->Xwl->Prop),Q (some (x,j')) s->XwG (XwD prog w) A (setNext a j i ep) Q E s)
  (hQ:∀ h',h'.get? it=some (Xbs (.int j' 0) (i+1) a n ep)->XwO it s.heap h'->Q (some x) {s with heap:=h' }):XwG (XwD prog w) A (Xyc (.ref it)) Q E s:=by
 have hT:s.TypeIs (.ref it) "set_iterator" := ⟨_,hit,rfl⟩
 unfold Xyc
 refine Xwe (Xyg (Xxb (name:=Xwk "__next__") hT Xag (Xw3 Xag hT XbS ?_ (Xcd _))))
 unfold Builtin.«set_iterator.__next__»
 refine Xwe (Xwg ?_)
 refine Xwe (XxU hit rfl ?_)
 dsimp only
 refine Xwe ?_
 unfold setEntries
 refine Xwe (Xxt ha rfl hf (Xwg ?_))
 dsimp only
 rw [if_neg (by simp [hn])]
 refine Xwe ?_
 rw [XwY,XwY,XwY]
 refine hnext _ _ _ ?_
 dsimp only
 refine Xwe (XyO hit (by simp) fun h1 hg1 hsb1=>?_)
 refine Xwe (XyO hg1 (by simp) fun h2 hg2 hsb2=>?_)
 refine Xwg ⟨x,rfl,Xwg (hQ h2 ?_ (hsb1.trans hsb2))⟩
 rw [hg2]
 simp [Xxw]
theorem XdJ{it a:XwR}{i n ep j:Nat}{es:Array (Int × Value)}{t:Xw2}{Q:Option Value->Xwl->Prop}(hh:A.handled=none)
  (hit:s.heap.get? it=some (Xbs (.int j 0) i a n ep))
  (ha:s.heap.get? a=some {cls := .type "set",dict:=none,data := .set es ep t}) (hf:t.fits es.size=true) (hn:es.size=n)
  (hnext:∀ (A:Xww) (Q:Option (Value × Nat)->Xwl->Prop) (E:Value->Xwl->Prop),Q none s->XwG (XwD prog w) A (setNext a j i ep) Q E s)
  (hQ:∀ h',Heap.ExtBut it s.heap h'->Q none {s with heap:=h' }):XwG (XwD prog w) A (Xyc (.ref it)) Q E s:=by
 have hT:s.TypeIs (.ref it) "set_iterator" := ⟨_,hit,rfl⟩
 unfold Xyc
 refine Xwe (Xyg (Xxb (name:=Xwk "__next__") hT Xag (Xw3 Xag hT XbS ?_ (Xcd _))))
 unfold Builtin.«set_iterator.__next__»
 refine Xwe (Xwg ?_)
 refine Xwe (XxU hit rfl ?_)
 dsimp only
 refine Xwe ?_
 unfold setEntries
 refine Xwe (Xxt ha rfl hf (Xwg ?_))
 dsimp only
 rw [if_neg (by simp [hn])]
 refine Xwe ?_
 rw [XwY,XwY,XwY]
 refine hnext _ _ _ ?_
 dsimp only
 refine Xwe (XyO hit (by simp) fun h1 hg1 hsb1=>?_)
 refine Xwe ?_
 simp only [newExc,newTuple]
 refine Xwe (Xxc ?_ (by size_fits))
 refine Xwe (m:=Xyh _ _) (Xxg (a:=Xxr) (by first | rfl | (simp only [Xyh];rfl)) ?_)
 refine Xxc ?_ (by size_fits)
 simp only [raiseNew]
 refine Xwe (wpAny_handled ?_)
 rw [show A.in1.handled=none from hh]
 refine Xwe (Xwg (wpAny_throw ?_))
 refine Xwe (XxL (T := "StopIteration") (b:=true) ⟨_,Xwp _ rfl,rfl⟩ isSubtype_stop ?_)
 exact Xwg (hQ _ ((hsb1.extBut.push _).push _))
theorem Xjs{it a tp:XwR}{i n ep:Nat}{places:Array Value}{np:Nat}{es:Array (Int × Value)}{t:Xw2}{Q:Option Value->Xwl->Prop}(hh:A.handled=none)
  (hit:s.heap.get? it=some (Xbs (.ref tp) i a n ep)) (htp:s.heap.get? tp=some {cls := .type "tuple",data := .seq places np})
  (ha:s.heap.get? a=some {cls := .type "set",dict:=none,data := .set es ep t}) (hf:t.fits es.size=true) (hn:es.size=n) (hj:places[i]? = none)
  (hQ:∀ h',Heap.ExtBut it s.heap h'->Q none {s with heap:=h' }):XwG (XwD prog w) A (Xyc (.ref it)) Q E s:=by
 have hT:s.TypeIs (.ref it) "set_iterator" := ⟨_,hit,rfl⟩
 unfold Xyc
 refine Xwe (Xyg (Xxb (name:=Xwk "__next__") hT Xag (Xw3 Xag hT XbS ?_ (Xcd _))))
 unfold Builtin.«set_iterator.__next__»
 refine Xwe (Xwg ?_)
 refine Xwe (XxU hit rfl ?_)
 dsimp only
 refine Xwe ?_
 unfold setEntries
 refine Xwe (Xxt ha rfl hf (Xwg ?_))
 dsimp only
 rw [if_neg (by simp [hn])]
 refine Xwe ?_
 refine XxT htp rfl ?_
 dsimp only
 rw [XwY,hj]
 dsimp only
 refine Xwe (XyO hit (by simp) fun h1 hg1 hsb1=>?_)
 refine Xwe (XyO hg1 (by simp) fun h2 hg2 hsb2=>?_)
 refine Xwe ?_
 simp only [newExc,newTuple]
 refine Xwe (Xxc ?_ (by size_fits))
 refine Xwe (m:=Xyh _ _) (Xxg (a:=Xxr) (by first | rfl | (simp only [Xyh];rfl)) ?_)
 refine Xxc ?_ (by size_fits)
 simp only [raiseNew]
 refine Xwe (wpAny_handled ?_)
 rw [show A.in1.handled=none from hh]
 refine Xwe (Xwg (wpAny_throw ?_))
 refine Xwe (XxL (T := "StopIteration") (b:=true) ⟨_,Xwp _ rfl,rfl⟩ isSubtype_stop ?_)
 exact Xwg (hQ _ (((hsb1.trans hsb2).extBut.push _).push _))
end
end
section
open PySem PySem.W PySem.Builtin
section
variable{prog:Xwx}{w:XwE}{A:Xww}{E:Value->Xwl->Prop}{s:Xwl}{B:Frz}
theorem XdZ{a:XwR}{i ep j:Nat}{es:Array (Int × Value)}{t:Xw2}{Q:Option (Value × Nat)->Xwl->Prop}(hb:Xar w=true)
  (ha:s.heap.get? a=some {cls := .type "set",dict:=none,data := .set es ep t}) (hf:t.fits es.size=true)
  (h:Q ((pickOrder (w.params.setOrder a ep) es)[i]?.map fun e=>(e.2,j)) s):XwG (XwD prog w) A (setNext a j i ep) Q E s:=by
 unfold setNext
 refine Xwe (Xxt ha rfl hf ?_)
 dsimp only
 refine Xwe (Xbf ?_)
 rw [hb,if_pos rfl,if_neg (by simp)]
 refine Xwe ?_
 unfold setWalk
 refine Xwe (Xxt ha rfl hf ?_)
 dsimp only
 refine Xwe (Xbf ?_)
 rw [hb,if_pos rfl]
 exact Xwe (wpAny_askSetting (Xwg (Xwg h)))
theorem XdK{a:XwR}{i ep j:Nat}{es:Array (Int × Value)}{t:Xw2}{Q:Option (Value × Nat)->Xwl->Prop}(hb:Xar w=false)(hl:t.led=true)(hsz:es.size<=1)
  (ha:s.heap.get? a=some {cls := .type "set",dict:=none,data := .set es ep t}) (hf:t.fits es.size=true)
  (h:Q (match es[Xx7 t.place j]?,t.place[Xx7 t.place j]? with | some (_,x),some k=>some (x,k+1) | _,_=>none) s):XwG (XwD prog w) A (setNext a j i ep) Q E s:=by
 unfold setNext
 refine Xwe (Xxt ha rfl hf ?_)
 dsimp only
 refine Xwe (Xbf ?_)
 rw [hb]
 simp only [XwX,if_false]
 have hd : ¬ ((!t.plain && decide (es.size > 1))=true):=by
  rw [Xxn,decide_eq_true_eq]
  omega
 split
 ·rename_i hdr
  exact absurd hdr hd
 ·refine Xwe (Xxg (a:=()) ?_ (Xwg h))
  show (if (!t.led && !es.isEmpty)=true then _ else XxW ())=XxW ()
  rw [if_neg (by rw [hl];simp)]
theorem Xsg{pl:Array Nat}(h:pl.size=1):Xx7 pl 0=0:=by
 unfold Xx7
 rw [h]
 simp [SetTable.below.go]
theorem XuI{pl:Array Nat}{j:Nat}(h:pl.size=0):Xx7 pl j=0:=by
 unfold Xx7
 rw [h]
 simp [SetTable.below.go]
theorem Xsf{pl:Array Nat}{j:Nat}(h:pl.size=1)(hj:pl[0]? = some j):Xx7 pl (j+1)=1:=by
 unfold Xx7
 rw [h]
 have:pl.getD 0 0=j:=by rw [Array.getD_eq_getD_getElem?,hj];rfl
 have h2:pl.getD 0 (j+1)=j:=by rw [Array.getD_eq_getD_getElem?,hj];rfl
 simp [SetTable.below.go,hj]
end
def siP(w:XwE)(a:XwR)(es:Array (Int × Value))(ep:Nat)(t:Xw2)(vs:List (Int × Value))(i:Nat)(Z:Frz)(o:Obj):Prop :=
 (Xar w=true/\o=Xbs (.int 0 0) i a es.size ep/\(pickOrder (w.params.setOrder a ep) es).toList=vs) ∨
 (Xar w=false/\∃ (tp:XwR) (n:Nat) (js:List Nat),o=Xbs (.ref tp) i a es.size ep/\Z tp=some {cls := .type "tuple",data := .seq (js.map fun j:Nat=>Value.int j 0).toArray n}/\js.map (fun j:Nat=>es[j]?)=vs.map some) ∨
 (Xar w=false/\es.size<=1/\t.led=true/\vs=es.toList/\((i=0/\o=Xbs (.int 0 0) 0 a es.size ep)∨(i=1/\es.size=1/\∃ j,t.place[0]? = some j/\o=Xbs (.int ((j+1:Nat):Int) 0) 1 a es.size ep)))
theorem Xqw{w:XwE}{a:XwR}{es:Array (Int × Value)}{ep:Nat}{t:Xw2}{vs:List (Int × Value)}{i:Nat}(Z Z':Frz)(o:Obj)(k:Frz.le Z Z')(x:siP w a es ep t vs i Z o):siP w a es ep t vs i Z' o:=by
 rcases x with x | x | x
 ·exact .inl x
 ·obtain ⟨h1,tp,n,js,h2,h3,h4⟩:=x
  exact .inr (.inl ⟨h1,tp,n,js,h2,k _ _ h3,h4⟩)
 ·exact .inr (.inr x)
abbrev siE(w:XwE)(a:XwR)(es:Array (Int × Value))(ep:Nat)(t:Xw2)(vs:List (Int × Value))(i:Nat):AObj := .obj (siP w a es ep t vs i) Xqw
section
variable{prog:Xwx}{w:XwE}{A:Xww}{E:Value->Xwl->Prop}{s:Xwl}{B:Frz}
theorem XsO{a it:XwR}{es:Array (Int × Value)}{ep:Nat}{t:Xw2}{vs:List (Int × Value)}{i:Nat}{Z:Frz}{oi:Obj}{h:Int}{x:Value}{Q:Option Value->Xwl->Prop}
  (ha:s.heap.get? a=some {cls := .type "set",dict:=none,data := .set es ep t}) (hf:t.fits es.size=true) (hit:s.heap.get? it=some oi) (hP:siP w a es ep t vs i Z oi) (hZ:∀ b o,Z b=some o->s.heap.get? b=some o)
  (hx:vs[i]? = some (h,x)) (hQ:∀ h' oi',h'.get? it=some oi'->siP w a es ep t vs (i+1) Z oi'->XwO it s.heap h'->Q (some x) {s with heap:=h' }):XwG (XwD prog w) A (Xyc (.ref it)) Q E s:=by
 rcases hP with ⟨hb,rfl,hv⟩ | ⟨hb,tp,n,js,rfl,htp,hjs⟩ | ⟨hb,hsz,hl,rfl,hm⟩
 ·refine XeR (j:=0) (j':=0) hit ha hf rfl (fun A Q E hq=>XdZ hb ha hf ?_) fun h' hg hsb=>hQ h' _ hg (.inl ⟨hb,rfl,hv⟩) hsb
  rw [← Xyb,hv,hx]
  exact hq
 ·have hlen:=congrArg XyG hjs
  simp only [Xwi] at hlen
  have hi:i<vs.length:=by
   rcases Xxp i vs.length with q | q
   ·exact q
   ·rw [XxR q] at hx;cases hx
  have hij:i<js.length:=by omega
  have h1:es[js[i]]? = some (h,x):=by
   have:=congrArg (fun l=>l[i]?) hjs
   simp only [Xw1,XwI hij,hx,XyZ] at this
   exact Xx9 this
  exact XiV (j:=js[i]) hit (hZ _ _ htp) ha hf rfl (by simp [hij]) h1 fun h' hg hsb=>hQ h' _ hg (.inr (.inl ⟨hb,tp,n,js,rfl,htp,hjs⟩)) hsb
 ·have hi:i<es.size:=by
   rcases Xxp i es.size with q | q
   ·exact q
   ·rw [XxR (by simpa using q)] at hx;cases hx
  have hi0:i=0:=by omega
  subst hi0
  have hone:es.size=1:=by omega
  have hpl:t.place.size=1:=by
   simp only [SetTable.fits,Xxn,beq_iff_eq] at hf
   rw [hf.1,hone]
  rcases hm with ⟨-,rfl⟩ | ⟨q,_⟩
  ·obtain ⟨j,hj⟩:∃ j,t.place[0]? = some j:=⟨t.place[0],XxK nofun⟩
   refine XeR (j:=0) (j':=j+1) hit ha hf rfl (fun A Q E hq=>XdK hb hl hsz ha hf ?_) fun h' hg hsb=>hQ h' _ hg (.inr (.inr ⟨hb,hsz,hl,rfl,.inr ⟨rfl,hone,j,hj,rfl⟩⟩)) hsb
   rw [Xsg hpl,hj,← Xyb,hx]
   exact hq
  ·omega
theorem Xub{a it:XwR}{es:Array (Int × Value)}{ep:Nat}{t:Xw2}{vs:List (Int × Value)}{i:Nat}{Z:Frz}{oi:Obj}{Q:Option Value->Xwl->Prop}(hh:A.handled=none)
  (ha:s.heap.get? a=some {cls := .type "set",dict:=none,data := .set es ep t}) (hf:t.fits es.size=true) (hit:s.heap.get? it=some oi) (hP:siP w a es ep t vs i Z oi) (hZ:∀ b o,Z b=some o->s.heap.get? b=some o)
  (hx:vs[i]? = none) (hQ:∀ h',Heap.ExtBut it s.heap h'->Q none {s with heap:=h' }):XwG (XwD prog w) A (Xyc (.ref it)) Q E s:=by
 rcases hP with ⟨hb,rfl,hv⟩ | ⟨hb,tp,n,js,rfl,htp,hjs⟩ | ⟨hb,hsz,hl,rfl,hm⟩
 ·refine XdJ hh (j:=0) hit ha hf rfl (fun A Q E hq=>XdZ hb ha hf ?_) hQ
  rw [← Xyb,hv,hx]
  exact hq
 ·have hlen:=congrArg XyG hjs
  simp only [Xwi] at hlen
  have hi:vs.length<=i:=List.getElem?_eq_none_iff.mp hx
  exact Xjs hh hit (hZ _ _ htp) ha hf rfl (by simp;omega) hQ
 ·have hi:es.size<=i:=by have:=List.getElem?_eq_none_iff.mp hx;simpa using this
  have hps:t.place.size=es.size:=by
   simp only [SetTable.fits,Xxn,beq_iff_eq] at hf
   exact hf.1
  rcases hm with ⟨rfl,rfl⟩ | ⟨rfl,hone,j,hj,rfl⟩
  ·refine XdJ hh (j:=0) hit ha hf rfl (fun A Q E hq=>XdK hb hl hsz ha hf ?_) hQ
   rw [XuI nofun,XyN nofun]
   exact hq
  ·refine XdJ hh (j:=j+1) hit ha hf rfl (fun A Q E hq=>XdK hb hl hsz ha hf ?_) hQ
   rw [Xsf nofun hj,XyN nofun]
   exact hq
end
end
section
open PySem PySem.W PySem.Builtin
abbrev Xv4(es:Array (Int × Value))(ep:Nat)(t:Xw2):Obj:={ cls := .type "set",dict:=none,data := .set es ep t}
abbrev Xb4(w:XwE)(ks:List Str)(o:Obj):AObj:=XmB (Xc0 w ks) Xec o
section
variable{prog:Xwx}{w:XwE}{A:Xww}{B:Frz}{env:Env}
theorem IterOk.setS{a it:XwR}{ks:List Str}{es:Array (Int × Value)}{ep:Nat}{t:Xw2}{vs:List (Int × Value)}{k:Nat}{x:Str}{p:Pos}(hf:t.fits es.size=true)(hv:∀ e∈vs,StrEl w e) :
  ∀ (d i:Nat),i+d=vs.length->IterOk prog w B [(a,Xb4 w ks (Xv4 es ep t))] k (.Name x p) it ((vs.drop i).map fun e => .str (Xeb e.2)) [(it,siE w a es ep t vs i)]
 | 0,i,hi=>by
  rw [XxI nofun]
  intro A hA led hN s Z S Q E hQ
  obtain ⟨oi,hoi,hP⟩:=S.own _ (Xwf ..)
  obtain ⟨os,hos,rfl,hSP⟩:=S.own _ (Xwh _ (hN _ (Xwf ..)))
  dsimp only at hoi hos
  refine Xub hA.h hos hf hoi hP S.frozen (XxR nofun) fun h' hx=>?_
  have keep:∀ b o,b≠it->s.heap.get? b=some o->h'.get? b=some o:=fun b o hb q=>hx b o hb q
  have nd:=S.nodup
  have hZ:Z it=none:=S.apart _ (Xwf ..)
  have S2:SimL B s Z led:=S.drop (l:=[(it,siE w a es ep t vs i)])
  have hnl':it∉keys led:=(Xwz.mp nd).1
  refine hQ _ Z ⟨S.base,fun b o q=>keep b o (fun z=>by rw [z,hZ] at q;cases q) (S.frozen b o q),S2.nodup,S2.apart,fun p hp=>Holds.mono (s:=s) (.refl _) (fun o q=>keep _ o (fun z=>hnl' (z ▸ XwC hp)) q) (fun _ _ _ q=>q) (S2.own p hp),S2.gnodup,S2.bare⟩
   ⟨.refl _,fun b o q hb=>keep b o (fun z=>hb (z ▸ Xwf ..)) q,fun b hb => .inl (Xwh _ hb),fun _ _ q => .inl q,rfl,fun _ _ q _=>q,fun g h => .inl h⟩
 | d+1,i,hi=>by
  have hlt:i<vs.length:=by omega
  rw [XxJ hlt,Xwr]
  intro A hA led hN s Z S Q E hQ
  obtain ⟨oi,hoi,hP⟩:=S.own _ (Xwf ..)
  obtain ⟨os,hos,rfl,hSP⟩:=S.own _ (Xwh _ (hN _ (Xwf ..)))
  dsimp only at hoi hos
  obtain ⟨y,tk,hy⟩:=hv _ (List.getElem_mem hlt)
  refine XsO hos hf hoi hP S.frozen (h:=hashStr w y) (x := .str y tk) (by rw [XwI hlt,hy]) fun h' oi' hg hP' hsb=>?_
  have P:=S.upd (led':=(it,siE w a es ep t vs (i+1))::led) .here (h':=h') (tk:=s.toks) (fun b ob hb e=>(hsb.2 b hb).trans e) rfl rfl ⟨oi',hg,hP'⟩
  refine Xwg (hQ _ Z (.str y tk) [(it,siE w a es ep t vs (i+1))] P.1 ?_ P.2 (IterOk.setS hf hv d (i+1) nofun))
  rw [hy]
  exact .str _ _
theorem SimL.drawn{s:Xwl}{Z:Frz}{led:Led}(S:SimL B s Z led)(d:Drawn):SimL B {s with drawn:=d} Z led/\Ext (Xh led) s Z {s with drawn:=d} Z (Xh led) :=
 ⟨⟨S.base,S.frozen,S.nodup,S.apart,fun p hp=>(S.own p hp).mono (.refl _) (fun _ e=>e) fun _ _ _ e=>e,S.gnodup,S.bare⟩,
  ⟨.refl _,fun a o e _=>e,fun _ h => .inl h,fun _ _ e => .inl e,rfl,fun _ _ e _=>e,fun _ h => .inl h⟩⟩
theorem Xk0{a:XwR}{ks:List Str}{o:Obj}{st:St}{k:Nat}{K:AV->St->Prop}(hm:(a,Xb4 w ks o)∈st.led)
  (h:∀ (it:XwR) (xs:List Str) (gl:Led),xs.Perm ks->(∀ x p,IterOk prog w B [(a,Xb4 w ks o)] k (.Name x p) it (xs.map .str) gl)->K (.ref it) ⟨st.loc,gl++st.led⟩):F1 prog w A B env Val pyIter (.ref a) st K:=fun s Z u V S Q E hQ=>by
 cases V
 obtain ⟨o',ho,hpin⟩:=S.own _ hm
 dsimp only at ho
 obtain ⟨rfl,es,ep,t,rfl,hperm,hel,hb,hf,hled,hpl⟩:=hpin
 have hT:s.TypeIs (.ref a) "set" := ⟨_,ho,rfl⟩
 refine wpAny_pyIter_slot hT F.slot_set_iter (Xw3 F.slot_set_iter hT Xh9 ?_ (Xi5 _))
 unfold Builtin.«frozenset.__iter__»
 refine Xwe (Xwg ?_)
 refine Xwe ?_
 unfold Builtin.Frozenset.sizeOf setEntries
 refine Xwe (Xwe (Xxt ho rfl hf (Xwg (Xwg ?_))))
 refine Xwe ?_
 unfold setDrawn
 refine Xwe (Xxt ho rfl hf ?_)
 dsimp only
 refine Xwe (Xbf (Xwg ?_))
 have hlen:es.size=ks.length:=by rw [← hperm.length_eq];simp
 split
 ·rename_i hdr
  have hdr':(!Xar w && (!t.plain && decide (es.size > 1)))=true:=hdr
  simp only [Xxn,Bool.not_eq_true'] at hdr'
  refine Xwe (Xdy _ _ (by simp) fun js d hjp=>?_)
  refine Xwe (wpAny_newTuple ?_ (by rw [Xwi,hjp.length_eq,List.length_range];exact fits_of_scanBound hb))
  refine Xwe (wpAny_setEpoch_of (Xwq _ ho) rfl hf ?_)
  obtain ⟨S0,X0⟩:=S.toSimL.drawn d
  have P1:=S0.pushZ (o:={ cls := .type "tuple",data := .seq (js.map fun j:Nat=>Xxw j).toArray}) rfl s.toks
  have hjlt:∀ j∈js,j<es.size:=fun j hj=>by simpa using hjp.mem_iff.mp hj
  have hvs:js.map (fun j:Nat=>es[j]?)=(js.map fun j=>es.toList.getD j (0,.none)).map some:=by
   rw [XxH]
   refine Xx6 fun j hj=>?_
   have:=hjlt j hj
   simp [this]
  have hvp:(js.map fun j=>es.toList.getD j (0,.none)).Perm es.toList:=by
   refine (hjp.map _).trans ?_
   rw [show (List.range es.size).map (fun j=>es.toList.getD j (0,.none))=es.toList from ?_]
   refine List.ext_getElem (by simp) fun j h1 h2=>?_
   simp at h1 h2
   simp [h2]
  have hve:∀ e∈(js.map fun j=>es.toList.getD j (0,.none)),StrEl w e:=fun e he=>hel e (hvp.mem_iff.mp he)
  generalize (js.map fun j=>es.toList.getD j (0,.none))=vs at hvs hvp hve
  refine Xwe ?_
  unfold newFields
  refine Xxc (Xwg ⟨_,rfl, "set_iterator",_,⟨_,Xwp _ rfl,rfl⟩,Xag.lookup,?_⟩) (by size_fits)
  have P2:=P1.1.push (o:=Xbs (.ref s.heap.objs.size) 0 a es.size ep) (ao:=siE w a es ep t vs 0) rfl s.toks
   ⟨_,Xwp _ rfl,.inr (.inl ⟨hdr'.1,s.heap.objs.size,0,js,rfl,Frz.add_at ..,hvs⟩)⟩
  have X:=(X0.trans P1.2).trans P2.2
  have hI:=fun x p=>IterOk.setS (prog:=prog) (w:=w) (B:=B) (a:=a) (it:=(s.heap.push {cls := .type "tuple",data := .seq (js.map fun j:Nat=>Xxw j).toArray}).objs.size) (ks:=ks) (es:=es) (ep:=ep) (t:=t) (vs:=vs) (k:=k) (x:=x) (p:=p) hf hve vs.length 0 nofun
  simp only [List.drop_zero] at hI
  exact hQ _ _ _ _ _ (h _ (vs.map fun e=>Xeb e.2) [(_,siE w a es ep t vs 0)] ((hvp.map _).trans hperm) (fun x p=>by rw [XxH];exact hI x p)) (S.after P2.1 X) (.ref _) X.toF
 ·rename_i hdr
  have hdr' : ¬ ((!Xar w && (!t.plain && decide (es.size > 1)))=true):=hdr
  refine Xwe (Xwg ?_)
  refine Xwe (wpAny_setEpoch_of ho rfl hf ?_)
  refine Xwe ?_
  unfold newFields
  refine Xxc (Xwg ⟨_,rfl, "set_iterator",_,⟨_,Xwp _ rfl,rfl⟩,Xag.lookup,?_⟩) (by size_fits)
  have fin:∀ vs,vs.Perm es.toList->siP w a es ep t vs 0 Z (Xbs (.int 0 0) 0 a es.size ep)->Q (.ref s.heap.objs.size) {s with heap:=s.heap.push (Xbs (.int 0 0) 0 a es.size ep)}:=by
   intro vs hvp hP
   have hve:∀ e∈vs,StrEl w e:=fun e he=>hel e (hvp.mem_iff.mp he)
   have P2:=S.toSimL.push (o:=Xbs (.int 0 0) 0 a es.size ep) (ao:=siE w a es ep t vs 0) rfl s.toks ⟨_,Xwp _ rfl,hP⟩
   have hI:=fun x p=>IterOk.setS (prog:=prog) (w:=w) (B:=B) (a:=a) (it:=s.heap.objs.size) (ks:=ks) (es:=es) (ep:=ep) (t:=t) (vs:=vs) (k:=k) (x:=x) (p:=p) hf hve vs.length 0 nofun
   simp only [List.drop_zero] at hI
   exact hQ _ _ _ _ _ (h _ (vs.map fun e=>Xeb e.2) [(_,siE w a es ep t vs 0)] ((hvp.map _).trans hperm) (fun x p=>by rw [XxH];exact hI x p)) (S.after P2.1 P2.2) (.ref _) P2.2.toF
  cases hbt:Xar w with
  | true=>exact fin _ (XhM _ _) (.inl ⟨hbt,rfl,rfl⟩)
  | false =>
   refine fin _ (.refl _) (.inr (.inr ⟨hbt,?_,by rw [hled,hbt];rfl,rfl,.inl ⟨rfl,rfl⟩⟩))
   rcases hpl with rfl | hpl
   ·rw [hlen];exact XwA _
   ·rw [hbt,hpl] at hdr'
    simp at hdr'
    exact hdr'
end
end
section
open PySem PySem.W PySem.Builtin
section
variable{prog:Xwx}{w:XwE}{A:Xww}{B:Frz}{env:Env}
theorem KV.at{K:Type}{Z:Frz}{l:List (K × AV)}{r:List (K × Value)}(h:KV Z l r):∀ {i:Nat} {k:K} {v:AV},l[i]? = some (k,v)->∃ x,r[i]? = some (k,x)/\Val Z v x:=by
 induction h with
 | nil=>intro i k v e;simp at e
 | @cons k' v' x l r hv _ ih =>
  intro i k v e
  cases i with
  | zero =>
   simp only [List.getElem?_cons_zero,XxE,Prod.mk.injEq] at e
   obtain ⟨rfl,rfl⟩:=e
   exact ⟨x,rfl,hv⟩
  | succ i=>exact ih (by simpa using e)
abbrev Xfd(w:XwE)(m:List (Str × AV))(o:Obj):AObj:=XmB (Xes (XwP prog w) m) XcL o
def ivP(d:XwR)(_:Frz)(o:Obj):Prop:=o={ cls := .type "dict_items",data := .fields #[.ref d]}
theorem XrJ{d:XwR}(Z Z':Frz)(o:Obj)(k:Frz.le Z Z')(x:ivP d Z o):ivP d Z' o:=x
abbrev ivE(d:XwR):AObj := .obj (ivP d) XrJ
def diP(d:XwR)(od:Obj)(n i:Nat)(_:Frz)(o:Obj):Prop:=∃ es ep ok ov,od.data = .dict es ep /\
 o={ cls := .type "dict_itemiterator",dict:=none,data := .fields #[.none,.bool false,.ref d,.int i 0,.int n 0,.int ep 0,ok,ov],slots := #[]}
theorem Xr9{d:XwR}{od:Obj}{n i:Nat}(Z Z':Frz)(o:Obj)(k:Frz.le Z Z')(x:diP d od n i Z o):diP d od n i Z' o:=x
abbrev diE(d:XwR)(od:Obj)(n i:Nat):AObj := .obj (diP d od n i) Xr9
theorem IterOk.items{d it:XwR}{od:Obj}{m:List (Str × AV)}{k:Nat}{elts:List Expr}{x1}{pos:Pos} :
  ∀ (c i:Nat),i+c=m.length->IterOk prog w B [(d,Xfd (prog:=prog) w m od)] k (.Tuple elts x1 pos) it ((m.drop i).map fun e => .tup [.str e.1,e.2]) [(it,diE d od m.length i)]
 | 0,i,hi=>by
  rw [XxI nofun]
  intro A hA led hN s Z S Q E hQ
  obtain ⟨oi,hoi,es,ep,ok,ov,hod,rfl⟩:=S.own _ (Xwf ..)
  obtain ⟨os,hos,rfl,es',ep',kvs,a1,a2,a3,a4,a5,a6⟩:=S.own _ (Xwh _ (hN _ (Xwf ..)))
  dsimp only at hoi hos
  rw [hod] at a2
  obtain ⟨rfl,rfl⟩:=Data.dict.inj a2
  have hl:=a6.length
  have hit:IsItemIter s.heap it d i kvs.length ep ok ov:=by unfold IsItemIter;rw [hl];exact hoi
  refine wpAny_pyNext_items_end (knd:=XwP prog w) hA.h hit ⟨os,es,hos,a1,hod,a3,a4,a5⟩ (XxR nofun) fun h' hx=>?_
  have keep:∀ b o,b≠it->s.heap.get? b=some o->h'.get? b=some o:=fun b o hb q=>hx b o hb q
  have nd:=S.nodup
  have hZ:Z it=none:=S.apart _ (Xwf ..)
  have S2:SimL B s Z led:=S.drop (l:=[(it,diE d os m.length i)])
  have hnl':it∉keys led:=(Xwz.mp nd).1
  refine hQ _ Z ⟨S.base,fun b o q=>keep b o (fun z=>by rw [z,hZ] at q;cases q) (S.frozen b o q),S2.nodup,S2.apart,fun p hp=>Holds.mono (s:=s) (.refl _) (fun o q=>keep _ o (fun z=>hnl' (z ▸ XwC hp)) q) (fun _ _ _ q=>q) (S2.own p hp),S2.gnodup,S2.bare⟩
   ⟨.refl _,fun b o q hb=>keep b o (fun z=>hb (z ▸ Xwf ..)) q,fun b hb => .inl (Xwh _ hb),fun _ _ q => .inl q,rfl,fun _ _ q _=>q,fun g h => .inl h⟩
 | c+1,i,hi=>by
  have hlt:i<m.length:=by omega
  rw [XxJ hlt,Xwr]
  intro A hA led hN s Z S Q E hQ
  obtain ⟨oi,hoi,es,ep,ok,ov,hod,rfl⟩:=S.own _ (Xwf ..)
  obtain ⟨os,hos,rfl,es',ep',kvs,a1,a2,a3,a4,a5,a6⟩:=S.own _ (Xwh _ (hN _ (Xwf ..)))
  dsimp only at hoi hos
  rw [hod] at a2
  obtain ⟨rfl,rfl⟩:=Data.dict.inj a2
  have hl:=a6.length
  have hit:IsItemIter s.heap it d i kvs.length ep ok ov:=by unfold IsItemIter;rw [hl];exact hoi
  obtain ⟨x,hx,hv⟩:=a6.at (i:=i) (k:=m[i].1) (v:=m[i].2) (XwI hlt)
  refine wpAny_pyNext_items_item (knd:=XwP prog w) hit ⟨os,es,hos,a1,hod,a3,a4,a5⟩ hx fun key h' hkey hout htup hsz hkeep=>?_
  obtain ⟨tk,rfl⟩:=Value.isStrOf_shape hkey
  refine wpAny_letOwnedTupleGo_items hout fun h'' hin hsb=>?_
  have hitlt:it<s.heap.objs.size:=Xw7 hoi
  have htup':h''.get? s.heap.objs.size=some {cls := .type "tuple",data := .seq #[.str m[i].1 tk,x]}:=(hsb.2 _ (Nat.ne_of_gt hitlt)).trans htup
  have keep:∀ b o,b≠it->s.heap.get? b=some o->h''.get? b=some o:=fun b o hb q=>(hsb.2 b hb).trans (hkeep b o hb q)
  have P:=S.upd (led':=(it,diE d os m.length (i+1))::led) .here (h':=h'') (tk:=s.toks) (fun b ob hb e=>keep b ob hb e) rfl rfl ⟨_,hin,es,ep,.str m[i].1 tk,x,hod,by rw [hl]⟩
  have hfree:s.heap.get? s.heap.objs.size=none:=Heap.get?_none_of_le (XwN _)
  have hZf:Z s.heap.objs.size=none:=by
   cases e:Z s.heap.objs.size with
   | none=>rfl
   | some o=>rw [S.frozen _ _ e] at hfree;cases hfree
  have hkf:s.heap.objs.size∉keys ((it,diE d os m.length (i+1))::led):=fun q=>by
   have q':s.heap.objs.size∈keys ((it,diE d os m.length i)::led):=q
   exact S.lfresh q'
  obtain ⟨S3,X3⟩:=SimL.fixZ P.1 (s0:=s) (c:=s.heap.objs.size) htup' hfree hkf hZf P.2
  refine hQ _ _ (.ref s.heap.objs.size) [(it,diE d os m.length (i+1))] S3 ?_ X3 (IterOk.items c (i+1) nofun)
  exact .tup (items:=[.str m[i].1 tk,x]) (Frz.add_at ..) (.cons (.str _ _) (.cons (hv.mono X3.le) .nil))
end
end
section
open PySem PySem.W PySem.Builtin
section
variable{prog:Xwx}{w:XwE}{A:Xww}{B:Frz}{env:Env}
theorem Xjc{v d:XwR}{od:Obj}{m:List (Str × AV)}{st:St}{k:Nat}{K:AV->St->Prop}(hm:(d,Xfd (prog:=prog) w m od)∈st.led)(hv:(v,ivE d)∈st.led)
  (h:∀ (it:XwR),(∀ elts x1 pos,IterOk prog w B [(d,Xfd (prog:=prog) w m od)] k (.Tuple elts x1 pos) it (m.map fun e => .tup [.str e.1,e.2]) [(it,diE d od m.length 0)])->K (.ref it) ⟨st.loc,[(it,diE d od m.length 0)]++st.led⟩) :
  F1 prog w A B env Val pyIter (.ref v) st K:=fun s Z u V S Q E hQ=>by
 cases V
 obtain ⟨ov,hov,rfl⟩:=S.own _ hv
 obtain ⟨os,hos,rfl,es,ep,kvs,a1,a2,a3,a4,a5,a6⟩:=S.own _ hm
 dsimp only at hov hos
 have hl:=a6.length
 refine wpAny_pyIter_items (knd:=XwP prog w) (d:=d) (kvs:=kvs) (ep:=ep) ⟨_,hov,rfl,rfl⟩ ⟨os,es,hos,a1,a2,a3,a4,a5⟩ ?_
 rw [hl]
 have P:=S.toSimL.push (o:={ cls := .type "dict_itemiterator",data := .fields #[.none,.bool false,.ref d,.int 0 0,.int m.length 0,.int ep 0,.none,.none]}) (ao:=diE d os m.length 0) rfl s.toks
  ⟨_,Xwp _ rfl,es,ep,.none,.none,a2,rfl⟩
 have hI:=fun elts x1 pos=>IterOk.items (prog:=prog) (w:=w) (B:=B) (d:=d) (it:=s.heap.objs.size) (od:=os) (m:=m) (k:=k) (elts:=elts) (x1:=x1) (pos:=pos) m.length 0 nofun
 simp only [List.drop_zero] at hI
 exact hQ _ _ _ _ _ (h _ hI) (S.after P.1 P.2) (.ref _) P.2.toF
theorem Xsu{d:XwR}{P:Frz->Obj->Prop}{mm}{m:List (Str × AV)}{loc:List (Str × AV)}{led:Led}{R:AV->St->Prop}(hds:(d == Xx5)=false)(hm:(d,.obj P mm)∈led)(hP:∀ Z o,P Z o->Xes (XwP prog w) m Z o)
  (h:∀ v,v∉keys led->R (.ref v) ⟨loc,(v,ivE d)::led⟩):FC prog w A B env (.blt "dict.items") [.ref d] [] ⟨loc,led⟩ R:=fun s Z fx xs ks hf hx hk S Q E hQ=>by
 cases hf
 cases hk
 cases hx with
 | cons h1 hx =>
  cases hx
  cases h1
  obtain ⟨os,hos,hp⟩:=S.own _ hm
  dsimp only at hos
  obtain ⟨es,ep,kvs,a1,a2,a3,a4,a5,a6⟩:=hP _ _ hp
  have hD:s.heap.DictOf (XwP prog w) d kvs:=⟨os,es,ep,hos,a1,a2,a3,a4,a5⟩
  have PP:=S.toSimL.push (o:={ cls := .type "dict_items",data := .fields #[.ref d]}) (ao:=ivE d) rfl s.toks ⟨_,Xwp _ rfl,rfl⟩
  refine call_meetsIn F.slot_dict_items hD.typeIs F.entry_dict_items (F.args_dict_items_1 _) (meets_dict_items (XwP prog w) d hds) ⟨⟨kvs,hD⟩,?_⟩
  exact hQ _ _ _ _ _ (h _ S.toSimL.lfresh) (S.after PP.1 PP.2) (.ref _) PP.2.toF
theorem XtN{a:XwR}{ks:List Str}{x:Str}{st:St}{led':Led}{K:AV->St->Prop}(hx:x∉ks)(hsz:ks.length+1<scanBound)(U:Upd a (XcA w ks) (XcA w (ks++[x])) st.led led')(h:K .none ⟨st.loc,led'⟩) :
  FC prog w A B env (.blt "set.add") [.ref a,.str x] [] st K:=fun s Z fx ys kw hf hxs hk S Q E hQ=>by
 cases hf
 cases hk
 cases hxs with
 | cons h1 hxs=>cases hxs with
  | cons h2 hxs =>
   cases hxs;cases h1;cases h2
   obtain ⟨o,ho,hP⟩:=S.own _ U.mem
   dsimp only at ho
   refine XpF (Z:=Z) ho hP hx hsz fun h' o' hsb hg hP'=>?_
   have P:=S.toSimL.upd U (h':=h') (tk:=s.toks+1) (fun b ob hb e=>(hsb.2 b hb).trans e) rfl rfl ⟨o',hg,hP'⟩
   exact hQ _ _ _ Z _ h (S.after P.1 P.2) .none P.2.toF
def Xab(m:List (Str × AV))(k:Str):List (Str × AV):=m.filter fun kv=>decide (kv.1≠k)
theorem KV.without{Z:Frz}{l:List (Str × AV)}{r:List (Str × Value)}(h:KV Z l r)(k:Str):KV Z (Xab l k) (PySem.without r k):=by
 unfold Xab PySem.without
 induction h with
 | nil=>exact .nil
 | @cons k' v x l r hv _ ih =>
  rw [List.filter_cons,List.filter_cons]
  dsimp only
  split
  ·exact .cons hv ih
  ·exact ih
theorem Xou{o i:Expr}{pos' pos:Pos}{st:St}{K:AFlow->St->Prop}
  (h:T prog w A B env Val (Xxy o env) st fun v st₁=>T prog w A B env Val (Xxy i env) st₁ fun u st₂=>∃ d m x led',v = .ref d/\u = .str x/\Upd d (Xl (XwP prog w) m) (Xl (XwP prog w) (Xab m x)) st₂.led led' /\
   (Xz m x).isSome=true/\m.length<=XwZ/\K .next ⟨st₂.loc,led'⟩):T prog w A B env FVal (exec (.Delete [.Subscript o i pos'] pos) env) st K:=fun s Z S Q E hQ=>by
 refine wpAny_Delete (wpAny_deleteEach_cons (wpAny_delete_Subscript (h s Z S _ _ fun v vx s₁ Z₁ st₁ k₁ S₁ V₁ X₁=>k₁ s₁ Z₁ S₁ _ _ fun u ux s₂ Z₂ st₂ k₂ S₂ V₂ X₂=>?_)))
 obtain ⟨d,m,x,led',rfl,rfl,U,hthere,hsz,hk⟩:=k₂
 cases V₁;cases V₂
 obtain ⟨kvs,hD,hKV⟩:=Xd5 S₂.toSimL U.mem
 refine wpAny_delItem_slot hD.typeIs (by decide) F.slot_dict_delitem ?_
 refine call_meetsIn F.slot_dict_delitem hD.typeIs F.entry_dict_delitem (F.args_dict_delitem_2 _ _) (meets_dict_delitem_pairs (XwP prog w) d (k:=x) (Xe0.mpr rfl)) ⟨kvs,hD,by rw [hKV.length];exact hsz,?_,fun h' hD' hs'=>?_⟩
 ·rcases hKV.find x with ⟨e1,e2⟩ | ⟨u',y',e1,e2,e3⟩
  ·rw [e1] at hthere;cases hthere
  ·rw [e2];rfl
 ·have P:=S₂.toSimL.upd U (h':=h') (tk:=s₂.toks+1) (fun b ob hb e=>hs'.extBut b ob hb e) rfl rfl (Xd4 hD' (hKV.without x))
  refine wpAny_deleteEach_nil ?_
  exact hQ .next .next _ Z₂ _ hk (S₂.after P.1 P.2) .next ((X₁.trans X₂).trans P.2.toF)
end
end
section
open PySem PySem.W PySem.Builtin
section
variable{prog:Xwx}{w:XwE}{A:Xww}{B:Frz}{env:Env}
theorem T.pinU{α β:Type}{rel:Frz->α->β->Prop}{t:Sem β}{a:XwR}{P:Frz->Obj->Prop}{m}{led:Led}{loc:List (Str × AV)}{K:α->St->Prop}(hm:(a,.obj P m)∈led)
  (h:∀ o Z,P Z o->∃ led',Upd a (.obj P m) (XmB P m o) led led'/\T prog w A B env rel t ⟨loc,led'⟩ K):T prog w A B env rel t ⟨loc,led⟩ K:=fun s Z S Q E hQ=>by
 obtain ⟨o,ho,hP⟩:=S.own _ hm
 dsimp only at ho
 obtain ⟨led',U,k⟩:=h o Z hP
 have X:=S.toSimL.upd U (h':=s.heap) (tk:=s.toks) (fun b ob hb e=>e) rfl rfl ⟨o,ho,rfl,hP⟩
 exact k s Z (S.after X.1 X.2) Q E fun v x s' Z' st' kk S' V X'=>hQ v x s' Z' st' kk S' V (X.2.toF.trans X')
theorem T.unpinU{α β:Type}{rel:Frz->α->β->Prop}{t:Sem β}{a:XwR}{o:Obj}{P:Frz->Obj->Prop}{m}{led led':Led}{loc:List (Str × AV)}{K:α->St->Prop}(U:Upd a (XmB P m o) (.obj P m) led led')
  (h:T prog w A B env rel t ⟨loc,led'⟩ K):T prog w A B env rel t ⟨loc,led⟩ K:=fun s Z S Q E hQ=>by
 obtain ⟨o',ho,hP⟩:=S.own _ U.mem
 dsimp only at ho
 have X:=S.toSimL.upd U (h':=s.heap) (tk:=s.toks) (fun b ob hb e=>e) rfl rfl ⟨o',ho,hP.2⟩
 exact h s Z (S.after X.1 X.2) Q E fun v x s' Z' st' kk S' V X'=>hQ v x s' Z' st' kk S' V (X.2.toF.trans X')
theorem XoP{a:XwR}{ks:List Str}{led:Led}(hm:(a,XcA w ks)∈led):Xat B (.ref a) led "set" := fun s Z u V S=>by
 cases V
 obtain ⟨o,ho,es,ep,t,rfl,_⟩:=S.own _ hm
 dsimp only at ho
 exact ⟨⟨_,ho,rfl⟩,fun b e=>by cases e;exact ⟨_,ho,rfl⟩⟩
theorem KV.keys{Z:Frz}{l:List (Str × AV)}{r:List (Str × Value)}(h:KV Z l r):r.map (·.1)=l.map (·.1):=by
 induction h with
 | nil=>rfl
 | cons v _ ih=>rw [Xwr,Xwr,ih]
theorem Xon{m:List (Str × AV)}{Z:Frz}{o:Obj}(h:Xes (XwP prog w) m Z o):(m.map (·.1)).Nodup:=by
 obtain ⟨es,ep,kvs,a,b,c,d,e,f⟩:=h
 rw [← f.keys];exact e
end
theorem Xh7(m:List (Str × AV))(x k:Str):Xz (Xab m x) k=if k=x then none else Xz m k:=by
 unfold Xz Xab
 induction m with
 | nil=>simp
 | cons p r ih =>
  rw [List.filter_cons]
  by_cases e:p.1=x
  ·rw [if_neg (by simp [e]),ih,Xx1]
   by_cases q:k=x
   ·rw [if_pos q,if_pos q]
   ·rw [if_neg q,if_neg q]
    have : ¬ p.1=k:=fun z=>q (z ▸ e)
    simp [this]
  ·rw [if_pos (by simp [e]),Xx1,Xx1]
   by_cases q:p.1=k
   ·have : ¬ k=x:=fun z=>e (q ▸ z)
    simp [q,this]
   ·simp only [q,decide_false]
    exact ih
theorem Xg9(xs:List Str):∀ (m:List (Str × AV)) (k:Str),Xz (xs.foldl Xab m) k=if k∈xs then none else Xz m k:=by
 induction xs with
 | nil=>intro m k;simp
 | cons x xs ih =>
  intro m k
  rw [Xxj,ih,Xh7]
  by_cases q:k∈xs
  ·simp [q]
  ·by_cases e:k=x <;> simp [q,e]
def Xaa(nt:Nat)(es:EsT):List Str:=(es.filter fun e=>decide (nt<e.2.2.length)).map (·.1)
theorem Xjm(m:List (Str × AV))(x:Str):(Xab m x).length<=m.length:=List.length_filter_le ..
theorem XrW(xs:List Str):∀ (m:List (Str × AV)),(xs.foldl Xab m).length<=m.length:=by
 induction xs with
 | nil=>intro m;exact XwN _
 | cons x xs ih=>intro m;exact Xw4 (ih _) (Xjm m x)
theorem Xlm{nt:Nat}{es:EsT}(h:((XO es).map (·.1)).Nodup):(Xaa nt es).Nodup:=by
 have e:(XO es).map (·.1)=es.map (·.1):=by simp [XO]
 rw [e] at h
 unfold Xaa
 exact (List.Sublist.map _ (List.filter_sublist ..)).nodup h
theorem Xlk{nt:Nat}{es:EsT}{k:Str}(h:k∈Xaa nt es):(Xz (XO es) k).isSome=true:=by
 obtain ⟨e,he,rfl⟩:=XwJ.mp h
 have he:=Xx0.mp he
 unfold Xz
 rw [Option.isSome_map,List.find?_isSome]
 exact ⟨(e.1,.lst e.2.2),XwC (f:=fun e:Str × XwR × List AV=>(e.1,AV.lst e.2.2)) he.1,by simp⟩
theorem Xh8{m:List (Str × AV)}(h:(m.map (·.1)).Nodup){k:Str}{v:AV}(hm:(k,v)∈m):Xz m k=some v:=by
 unfold Xz
 induction m with
 | nil=>cases hm
 | cons p r ih =>
  rw [Xwr,Xwz] at h
  rw [Xx1]
  rcases Xwm.mp hm with e | hm
  ·subst e;simp
  ·have : ¬ p.1=k:=fun z=>h.1 (z ▸ XwC (f:=fun p:Str × AV=>p.1) hm)
   simp only [this,decide_false]
   exact ih h.2 hm
theorem Xpv{es:EsT}{b xs:List Str}(h:X9 es=Xbz (XaN [] 0 b))(hb:200<=b.length)(hnd:((XO es).map (·.1)).Nodup)(hx:xs.Perm (Xaa (b.length / 100+1) es))(k:Str) :
  (Xz (xs.foldl Xab (XO es)) k).getD (.lst []) = .lst (avs (XM b k)):=by
 have hT:TabOk (XaN [] 0 b) b:=by simpa using TabOk.chain b TabOk.nil
 have hf:=Xg8 h k
 rw [hT k] at hf
 have hlen:(avs (Xa9 b k)).length=(Xa9 b k).length:=by simp [avs]
 have hk:k∈xs↔Xdd b k=true:=by
  rw [hx.mem_iff]
  unfold Xdd
  rw [decide_eq_true hb,Bool.true_and,decide_eq_true_eq]
  constructor
  ·intro hm
   obtain ⟨e,he,rfl⟩:=XwJ.mp hm
   obtain ⟨he,hl⟩:=Xx0.mp he
   have hl:=of_decide_eq_true hl
   have:=Xh8 hnd (k:=e.1) (v := .lst e.2.2) (XwC (f:=fun e:Str × XwR × List AV=>(e.1,AV.lst e.2.2)) he)
   rw [hf] at this
   split at this
   ·cases this
   ·rw [XyZ] at this
    injection this with this
    injection this with this
    rw [← hlen,this];exact hl
  ·intro hl
   have hne : ¬ Xa9 b k=[]:=fun q=>by rw [q] at hl;simp at hl
   rw [if_neg hne,XyZ] at hf
   unfold Xz at hf
   rw [Xxv] at hf
   obtain ⟨p,hp,hv⟩:=hf
   have hpm:=List.mem_of_find?_eq_some hp
   have hpk:=List.find?_some hp
   obtain ⟨e,he,rfl⟩:=XwJ.mp hpm
   have hek:e.1=k:=by simpa using hpk
   have hv:AV.lst e.2.2 = .lst (avs (Xa9 b k)):=hv
   injection hv with hv
   exact XwJ.mpr ⟨e,Xx0.mpr ⟨he,by rw [hv,hlen];exact decide_eq_true hl⟩,hek⟩
 rw [Xg9]
 unfold XM
 by_cases q:k∈xs
 ·rw [if_pos q,if_pos (hk.mp q)];rfl
 ·rw [if_neg q,if_neg (fun z=>q (hk.mpr z)),hf]
  by_cases q:Xa9 b k=[]
  ·rw [if_pos q,q];rfl
  ·rw [if_neg q];rfl
end
section
abbrev Xe2(va:AV)(b:List Str):List (Str × AV) :=
 [(Xzm,.none),(Xy9,va),(Xza,.lst (b.map .str)),(Xzn,.bool true),(XzJ,.none),(Xz1,.none),(Xz0,.none)]
abbrev Xoc(d dj jk pp:XwR)(b:List Str)(nt:Nat)(vi ve vx vz:AV):List (Str × AV) :=
 [(Xy6,.inst 242 d),(Xzp,vi),(Xzq,ve),(Xzr,vx),(Xza,.lst (b.map .str)),(Xzo,.ref dj),(⟨⟨[106,117,110,107]⟩⟩,.ref jk),(Xzm,.none),(Xzs,.ref pp),(Xzt,.int b.length),(Xzu,.int nt),(Xzv,vz)]
abbrev Xe1(va:AV)(b:List Str)(dj jk pp:XwR):List (Str × AV):=Xe2 va b++[(Xzo,.ref dj),(XzY,.ref jk),(XzZ,.ref pp)]
theorem Xk9{w:XwE}{B:Frz}{d:XwR}{m:List (Str × AV)}{od:Obj}{led:Led}(hm:(d,Xfd (prog:=P04) w m od)∈led):Xat B (.ref d) led "dict" := fun s Z u V S=>by
 cases V
 obtain ⟨o,ho,rfl,es,ep,kvs,a,b,c,e,f,g⟩:=S.own _ hm
 dsimp only at ho
 have hD:s.heap.DictOf (XwP P04 w) d kvs:=⟨o,es,ep,ho,a,b,c,e,f⟩
 exact ⟨hD.typeIs,hD.mapOf.noDict⟩
theorem XgW(nt:Nat)(p:EsT)(e:Str × XwR × List AV):Xaa nt (p++[e])=Xaa nt p++(if nt<e.2.2.length then [e.1] else []):=by
 unfold Xaa
 rw [List.filter_append,XwH]
 congr 1
 by_cases h:nt<e.2.2.length <;> simp [h]
theorem Xll{nt:Nat}{p r:EsT}{e:Str × XwR × List AV}(h:((XO (p++e::r)).map (·.1)).Nodup):e.1∉Xaa nt p:=fun q=>by
 obtain ⟨e',he,hk⟩:=XwJ.mp q
 have he:=(Xx0.mp he).1
 have e2:(XO (p++e::r)).map (·.1)=p.map (·.1)++(e.1::r.map (·.1)):=by simp [XO,Function.comp_def]
 rw [e2,List.nodup_append] at h
 exact h.2.2 _ (XwC (f:=fun e:Str × XwR × List AV=>e.1) he) e.1 (Xwf ..) hk
theorem Xpd(nt:Nat)(p:EsT):(Xaa nt p).length<=p.length:=by
 unfold Xaa
 rw [Xwi]
 exact List.length_filter_le ..
abbrev dP(w:XwE)(m:List (Str × AV))(od:Obj):AObj:=Xfd (prog:=P04) w m od
theorem Xkm{w:XwE}{dj:XwR}(h:B04 w dj=none):(dj == Xx5)=false:=beq_eq_false_iff_ne.mpr fun q=>by
 have:(B04 w Xx5).isSome=true:=@_
 rw [← q,h] at this
 cases this
theorem Xtq{w:XwE}{A:Xww}{d:XwR}{va:AV}{b:List Str}{led:Led}(hA:Room A 20)(hb:b.length<4000) :
  TC P04 w A (B04 w) (.ref 188) [.inst 242 d] [] ((d,X7 (Xe2 va b))::led) fun v led'=>v = .none/\∃ dj jk pp mm,led'=(d,X7 (Xe2 va b++[(Xzo,.ref dj),(XzY,.ref jk),(XzZ,.ref pp)]))::(dj,Xl (XwP P04 w) mm)::(jk,Xav)::led
   /\ (dj == Xx5)=false/\∀ k,(Xz mm k).getD (.lst []) = .lst (avs (XM b k)):=by
 refine TC.weak (XaO (binds:=[(Xy6,.inst 242 d)]) (g04 w) (Xvn _) hA.lt (Binds.peek fun Z xs ks hx hk=>?_) @_ fun L hL=>?_)
 ·cases hk
  cases hx with
  | cons h1 hx =>
   cases hx
   exact ⟨_,@_,.cons h1 .nil⟩
 ·have hA':=hA.deeper (k:=17) (env:=Xa0 (XW (Xgj w.params)) L 188 187)
  simp only [XwL,XwV,Xwv,Xws]
  refine T.spare Xzp @_ ?_
  refine T.spare Xzq @_ ?_
  refine T.spare Xzr @_ ?_
  simp only [Xws,Xwv]
  refine XI ?_
  repeat' got_up
  refine Xfi (knd:=XwP P04 w) fun dj hdj hdB=>?_
  have hds:=Xkm hdB
  repeat' got_up
  refine XcM (k:=5) (J:=fun xs st'=>∃ es:EsT,∃ pre rest:List Str,∃ vi ve vx:AV,b=pre++rest/\xs=Xfu pre.length (rest.map .str)/\X9 es=Xbz (XaN [] 0 pre) /\
   st'=⟨[(Xy6,.inst 242 d),(Xzp,vi),(Xzq,ve),(Xzr,vx),(Xza,.lst (b.map .str)),(Xzo,.ref dj)],(dj,Xl (XwP P04 w) (Xa3 es))::(XcW es++(d,X7 (Xe2 va b++[(Xzo,.ref dj)]))::led)⟩) (hA'.mono nofun) ?_ ?_ ?_ (fun _=>@_)
  ·repeat' got_up
   refine XkX fun e it=>?_
   refine Xk2 (k:=5) fun hI=>⟨e,_,_,_,rfl,rfl,hI,[],[],b,_,_,_,rfl,rfl,rfl,rfl⟩
  ·rintro x xs st' gl ⟨es,pre,rest,vi,ve,vx,hpr,hxs,hes,rfl⟩
   cases rest with
   | nil=>cases hxs
   | cons y rest =>
    rw [Xwr] at hxs
    unfold Xfu at hxs
    rw [List.cons.injEq] at hxs
    obtain ⟨rfl,rfl⟩:=hxs
    have hh:=hA'.h
    simp only [Xws,XwK,Xwv]
    repeat' got_up
    intro a ha
    repeat' got_up
    have hel:es.length<=pre.length:=by
     have h1:=congrArg XyG hes
     simp only [X9,Xbz,Xwi] at h1
     have h2:=XbT pre [] 0
     simp only [XwF] at h2
     omega
    have hpl:pre.length<10 ^ 6:=by rw [hpr,Xwo] at hb;omega
    have hsl:10 ^ 6<=XwZ:=by decide
    refine Xih hds nofun fun es1 a' js es2 hadd=>?_
    repeat' got_up
    have hstep:X9 (es1++(y,a',js++[.int pre.length])::es2)=Xbz (XaN [] 0 (pre++[y])):=by
     rw [XfP,Nat.zero_add,XfM,← hes,hadd]
    have hjs:js.length<=pre.length:=by
     have hm:(y,js++[.int pre.length])∈Xbz (XaN [] 0 (pre++[y])):=by
      rw [← hstep];simp [X9]
     obtain ⟨e,he,q⟩:=XwJ.mp hm
     have h1:=XdR (pre++[y]) [] 0 0 (fun _ h=>by cases h) e he
     have h2:=congrArg (fun p=>p.2.length) q
     simp only [avs,Xwi,Xwo,Xya] at h1 h2
     omega
    refine' XN (xs:=js) ?hU nofun ?_
    case hU=>walk_at "upd"
    repeat' got_up
    refine ⟨(dj,Xl (XwP P04 w) (Xa3 (es1++(y,a',js++[.int pre.length])::es2)))::(XcW (es1++(y,a',js++[.int pre.length])::es2)++(d,X7 (Xe2 va b++[(Xzo,.ref dj)]))::led),by simp [Xa3,XcW],_,pre++[y],rest,_,_,_,by simp [hpr],by rw [Xwo];rfl,hstep,rfl⟩
  ·rintro st' ⟨es,pre,rest,vi,ve,vx,hpr,hxs,hes,rfl⟩
   have hr:rest=[]:=by
    cases rest with
    | nil=>rfl
    | cons y r=>rw [Xwr] at hxs;unfold Xfu at hxs;cases hxs
   subst hr
   rw [Xxk] at hpr
   subst hpr
   have hh:=hA'.h
   refine T.freezes (knd:=XwP P04 w) es ?_
   repeat' got_up
   refine Xst fun jk hjk=>?_
   repeat' got_up
   refine XtH fun pp hpp=>?_
   repeat' got_up
   refine XaY .frz (by rw [Xwi];omega) ?_
   repeat' got_up
   all_goals simp only [Xwi,decide_eq_true_eq,decide_eq_false_iff_not] at *
   ·rename_i hc200
    have h200:200<=b.length:=by omega
    have hnt:((b.length:Int)).fdiv 100+1=((b.length / 100+1:Nat):Int):=by
     rw [Int.fdiv_eq_ediv_of_nonneg _ (by decide)];omega
    refine XdI (by decide) (by decide) ?_
    repeat' got_up
    rw [hnt]
    generalize hN:b.length / 100+1=nt
    refine T.spare Xzv @_ ?_
    simp only [Xws,Xwv]
    refine T.pinU (a:=dj) (P:=Xes (XwP P04 w) (XO es)) (m:=XcL) (by walk_at "mem") fun od Z hod=>⟨_,by walk_at "upd",?_⟩
    have hnd:=Xon hod
    refine T.mono (K:=fun f st''=>f=AFlow.next/\∃ ve' vz' vv,st''=⟨Xoc d dj jk pp b nt vi ve' vx vz',(vv,ivE dj)::(pp,XcA w (Xaa nt es))::(jk,Xav)::(dj,dP w (XO es) od)::(d,X7 (Xe1 va b dj jk pp))::led⟩) ?_ ?_
    ·refine Xmd (N:=[(dj,dP w (XO es) od)]) (k:=5) (J:=fun xs st'=>∃ (p r:EsT) (ve' vz':AV) (vv:XwR),es=p++r/\xs=(XO r).map (fun e => .tup [.str e.1,e.2]) /\
      st'=⟨Xoc d dj jk pp b nt vi ve' vx vz',(vv,ivE dj)::(pp,XcA w (Xaa nt p))::(jk,Xav)::(dj,dP w (XO es) od)::(d,X7 (Xe1 va b dj jk pp))::led⟩) (hA'.mono nofun) ?_ ?_ ?_ ?_ (fun _=>@_)
     ·refine Xau (T' := "dict") (id := "dict.items") @_ @_ @_ F.plainAttrs_dict Xqv F.type_dict_items ?_
      repeat' got_up
      refine ⟨Xk9 (by walk_at "mem"),?_⟩
      repeat' got_up
      refine Xsu hds (P:=XmA (Xes (XwP P04 w) (XO es)) od) (mm:=Xiu XcL) (m:=XO es) (by walk_at "mem") (fun Z o h=>h.2) fun vv hvv=>?_
      refine Xjc (d:=dj) (od:=od) (m:=XO es) (k:=5) (by walk_at "mem") (by walk_at "mem") fun it hI=>?_
      exact ⟨it,_,_,_,rfl,rfl,hI _ _ _,[],es,_,_,vv,rfl,rfl,rfl⟩
     ·rintro x xs st' gl ⟨p,r,ve',vz',vv,hpr,hxs,rfl⟩
      cases r with
      | nil=>cases hxs
      | cons e r =>
       obtain ⟨y,ya,js⟩:=e
       have hxs:x::xs = .tup [.str y,.lst js]::(XO r).map (fun e => .tup [.str e.1,e.2]):=hxs
       obtain ⟨rfl,rfl⟩:=Xx2 hxs
       have hjs:js.length<=b.length:=by
        have hm:(y,js)∈Xbz (XaN [] 0 b):=by
         rw [← hes,hpr];simp [X9]
        obtain ⟨e,he,q⟩:=XwJ.mp hm
        have h1:=XdR b [] 0 0 (fun _ h=>by cases h) e he
        have h2:=congrArg (fun p=>p.2.length) q
        simp only [avs,Xwi] at h1 h2
        omega
       have hel:es.length<=b.length:=by
        have h1:=congrArg XyG hes
        simp only [X9,Xbz,Xwi] at h1
        have h2:=XbT b [] 0
        simp only [XwF] at h2
        omega
       have hpl:p.length<4000:=by
        have:=congrArg XyG hpr
        simp only [Xwo,Xwn] at this
        omega
       have hpk:=Xpd nt p
       have hnot:y∉Xaa nt p:=Xll (r:=r) (e:=(y,ya,js)) (by rw [← hpr];exact hnd)
       simp only [Xws]
       repeat' got_up
       refine XaY .frz nofun ?_
       repeat' got_up
       ·rename_i hgt
        have hgt':nt<js.length:=by simpa using hgt
        refine Xau (T' := "set") (id := "set.add") @_ @_ @_ F.plainAttrs_set Xua F.type_set_add ?_
        repeat' got_up
        refine ⟨XoP (ks:=Xaa nt p) (by walk_at "mem"),?_⟩
        repeat' got_up
        refine' XtN (ks:=Xaa nt p) hnot (by show _<4096;omega) ?hU2 ?_
        case hU2=>walk_at "upd"
        repeat' got_up
        exact ⟨(vv,ivE dj)::(pp,XcA w (Xaa nt p++[y]))::(jk,Xav)::(dj,dP w (XO es) od)::(d,X7 (Xe1 va b dj jk pp))::led,rfl,p++[(y,ya,js)],r,.str y,.lst js,vv,by simp [hpr],rfl,by rw [XgW,if_pos hgt'];rfl⟩
       ·rename_i hgt
        have hgt' : ¬ nt<js.length:=by simpa using hgt
        exact ⟨(vv,ivE dj)::(pp,XcA w (Xaa nt p))::(jk,Xav)::(dj,dP w (XO es) od)::(d,X7 (Xe1 va b dj jk pp))::led,rfl,p++[(y,ya,js)],r,.str y,.lst js,vv,by simp [hpr],rfl,by rw [XgW,if_neg hgt',Xxk];rfl⟩
     ·rintro items st' ⟨p,r,ve',vz',vv,hpr,hxs,rfl⟩ q hq
      rw [Xwy] at hq
      subst hq
      walk_at "mem"
     ·rintro st' ⟨p,r,ve',vz',vv,hpr,hxs,rfl⟩
      have hr:r=[]:=by
       cases r with
       | nil=>rfl
       | cons e r=>cases hxs
      subst hr
      rw [Xxk] at hpr
      subst hpr
      exact ⟨rfl,ve',vz',vv,rfl⟩
    ·rintro f st'' ⟨rfl,ve',vz',vv,rfl⟩
     have hel:es.length<=b.length:=by
      have h1:=congrArg XyG hes
      simp only [X9,Xbz,Xwi] at h1
      have h2:=XbT b [] 0
      simp only [XwF] at h2
      omega
     have hks:=Xlm (nt:=nt) hnd
     refine T.unpinU (a:=dj) (o:=od) (P:=Xes (XwP P04 w) (XO es)) (m:=XcL) (by walk_at "upd") ?_
     refine T.pinU (a:=pp) (P:=Xc0 w (Xaa nt es)) (m:=Xec) (by walk_at "mem") fun os Z hos=>⟨_,by walk_at "upd",?_⟩
     got_up
     refine T.mono (K:=fun f st''=>f=AFlow.next/\∃ (xs:List Str) (ve'':AV),xs.Perm (Xaa nt es)/\st''=⟨Xoc d dj jk pp b nt vi ve'' vx vz',(vv,ivE dj)::(pp,Xb4 w (Xaa nt es) os)::(jk,Xav)::(dj,Xl (XwP P04 w) (xs.foldl Xab (XO es)))::(d,X7 (Xe1 va b dj jk pp))::led⟩) ?_ ?_
     ·refine Xmd (N:=[(pp,Xb4 w (Xaa nt es) os)]) (k:=5) (J:=fun xs st'=>∃ (p r:List Str) (ve'':AV),(p++r).Perm (Xaa nt es)/\xs=r.map AV.str /\
       st'=⟨Xoc d dj jk pp b nt vi ve'' vx vz',(vv,ivE dj)::(pp,Xb4 w (Xaa nt es) os)::(jk,Xav)::(dj,Xl (XwP P04 w) (p.foldl Xab (XO es)))::(d,X7 (Xe1 va b dj jk pp))::led⟩) (hA'.mono nofun) ?_ ?_ ?_ ?_ (fun _=>@_)
      ·repeat' got_up
       refine Xk0 (k:=5) (ks:=Xaa nt es) (o:=os) (by walk_at "mem") fun it xs gl hp hI=>?_
       exact ⟨it,gl,_,_,rfl,rfl,hI _ _,[],xs,_,hp,rfl,rfl⟩
      ·rintro x xs st' gl ⟨p,r,ve'',hp,hxs,rfl⟩
       cases r with
       | nil=>cases hxs
       | cons y r =>
        obtain ⟨rfl,rfl⟩:=Xx2 hxs
        have hh:=hA'.h
        have hnod:(p++y::r).Nodup:=hp.nodup_iff.mpr hks
        have hyp:y∉p:=fun q=>(List.nodup_append.mp hnod).2.2 _ q y (Xwf ..) rfl
        have hyk:y∈Xaa nt es:=hp.mem_iff.mp (XwM _ (Xwf ..))
        simp only [Xws]
        repeat' got_up
        refine Xou ?_
        repeat' got_up
        refine ⟨dj,p.foldl Xab (XO es),y,(vv,ivE dj)::(pp,Xb4 w (Xaa nt es) os)::(jk,Xav)::(dj,Xl (XwP P04 w) (Xab (p.foldl Xab (XO es)) y))::(d,X7 (Xe1 va b dj jk pp))::(led++gl),rfl,rfl,by walk_at "upd",?_,?_,?_⟩
        ·rw [Xg9,if_neg hyp]
         exact Xlk hyk
        ·have h1:=XrW p (XO es)
         have h2:(XO es).length=es.length:=by simp [XO]
         have h3:4000<=XwZ:=by decide
         omega
        ·repeat' got_up
         exact ⟨(vv,ivE dj)::(pp,Xb4 w (Xaa nt es) os)::(jk,Xav)::(dj,Xl (XwP P04 w) (Xab (p.foldl Xab (XO es)) y))::(d,X7 (Xe1 va b dj jk pp))::led,rfl,p++[y],r,_,by simpa using hp,rfl,by rw [List.foldl_append];rfl⟩
      ·rintro items st' ⟨p,r,ve'',hp,hxs,rfl⟩ q hq
       rw [Xwy] at hq
       subst hq
       walk_at "mem"
      ·rintro st' ⟨p,r,ve'',hp,hxs,rfl⟩
       have hr:r=[]:=by
        cases r with
        | nil=>rfl
        | cons e r=>cases hxs
       subst hr
       rw [Xxk] at hp
       exact ⟨rfl,p,ve'',hp,rfl⟩
     ·rintro f st'' ⟨rfl,xs,ve'',hp,rfl⟩
      repeat' got_up
      subst hN
      exact ⟨(d,X7 (Xe2 va b++[(Xzo,.ref dj),(XzY,.ref jk),(XzZ,.ref pp)]))::(dj,Xl (XwP P04 w) (xs.foldl Xab (XO es)))::(jk,Xav)::led,⟨[(vv,ivE dj),(pp,Xb4 w (Xaa (b.length / 100+1) es) os)],by walk_at "perm"⟩,trivial,dj,jk,pp,_,rfl,hds,fun k=>Xpv hes h200 hnd hp k⟩
   ·refine ⟨(d,X7 (Xe2 va b++[(Xzo,.ref dj),(XzY,.ref jk),(XzZ,.ref pp)]))::(dj,Xl (XwP P04 w) (es.map fun e=>(e.1,.lst e.2.2)))::(jk,Xav)::led,⟨[(pp,XcA w [])],by walk_at "perm"⟩,trivial,dj,jk,pp,_,rfl,hds,fun k=>?_⟩
    exact Xpw hes nofun k
end
section
def Xdv(w:XwE)(d:XwR)(a b:List Str)(led led':Led):Prop:=∃ dj jk pp mm,led'=(d,X7 (Xe2 (.lst (a.map .str)) b++[(Xzo,.ref dj),(XzY,.ref jk),(XzZ,.ref pp)]))::(dj,Xl (XwP P04 w) mm)::(jk,Xav)::led
   /\ (dj == Xx5)=false/\∀ k,(Xz mm k).getD (.lst []) = .lst (avs (XM b k))
theorem Xqy{w:XwE}{A:Xww}{d:XwR}{a b:List Str}{led:Led}(hA:Room A 30)(hb:b.length<4000) :
  TC P04 w A (B04 w) (.ref 181) [.inst 242 d,.lst (b.map .str)] [] ((d,X7 [(Xzm,.none),(Xy9,.lst (a.map .str)),(Xza,.none),(Xzn,.bool true),(XzJ,.none),(Xz1,.none)])::led) fun v led'=>v = .none/\Xdv w d a b led led':=by
 refine TC.weak (XaO (binds:=[(Xy6,.inst 242 d),(Xza,.lst (b.map .str))]) (g04 w) (Xvo _) hA.lt (Binds.peek fun Z xs ks hx hk=>?_) @_ fun L hL=>?_)
 ·cases hk
  cases hx with
  | cons h1 hx=>cases hx with
   | cons h2 hx =>
    cases hx
    exact ⟨_,@_,.cons h1 (.cons h2 .nil)⟩
 ·have hA':=hA.deeper (k:=27) (env:=Xa0 (XW (Xgl w.params)) L 181 180)
  simp only [XwL,XwV,Xwv,Xws]
  refine XI ?_
  repeat' got_up
  refine Xr (Xtq (hA'.mono nofun) hb) fun v led' h=>?_
  obtain ⟨rfl,dj,jk,pp,mm,rfl,hds,hmm⟩:=h
  repeat' got_up
  exact ⟨_,.refl _,trivial,dj,jk,pp,mm,rfl,hds,hmm⟩
theorem Xqx{w:XwE}{A:Xww}{d:XwR}{a b:List Str}{led:Led}(hA:Room A 40)(hb:b.length<4000) :
  TC P04 w A (B04 w) (.ref 167) [.inst 242 d,.lst (a.map .str),.lst (b.map .str)] [] ((d,X7 [(Xzm,.none),(Xy9,.none),(Xza,.none),(Xzn,.bool true)])::led) fun v led'=>v = .none/\Xdv w d a b led led':=by
 refine TC.weak (XaO (binds:=[(Xy6,.inst 242 d),(Xy9,.lst (a.map .str)),(Xza,.lst (b.map .str))]) (g04 w) (Xvq _) hA.lt (Binds.peek fun Z xs ks hx hk=>?_) @_ fun L hL=>?_)
 ·cases hk
  cases hx with
  | cons h1 hx=>cases hx with
   | cons h2 hx=>cases hx with
    | cons h3 hx =>
     cases hx
     exact ⟨_,@_,.cons h1 (.cons h2 (.cons h3 .nil))⟩
 ·have hA':=hA.deeper (k:=37) (env:=Xa0 (XW (Xgo w.params)) L 167 166)
  simp only [XwL,XwV,Xwv,Xws]
  refine XI ?_
  repeat' got_up
  refine Xr (Xqz (hA'.mono nofun) rfl (by simp)) fun v led' h=>?_
  obtain ⟨rfl,rfl⟩:=h
  repeat' got_up
  refine Xr (K0:=fun v led'=>v = .none/\Xdv w d a b led led') (Xqy (hA'.mono nofun) hb) fun v led' h=>?_
  obtain ⟨rfl,h⟩:=h
  repeat' got_up
  exact ⟨_,.refl _,trivial,h⟩
theorem init{w:XwE}{A:Xww}{d:XwR}{a b:List Str}{led:Led}(hA:Room A 50)(hb:b.length<4000) :
  TC P04 w A (B04 w) (.ref 160) [.inst 242 d,.none,.lst (a.map .str),.lst (b.map .str)] [] ((d,X7 [])::led) fun v led'=>v = .none/\Xdv w d a b led led':=by
 refine TC.weak (XaO (binds:=[(Xy6,.inst 242 d),(Xzm,.none),(Xy9,.lst (a.map .str)),(Xza,.lst (b.map .str)),(Xzn,.bool true)]) (g04 w) (Xvr _) hA.lt (Binds.peek fun Z xs ks hx hk=>?_) @_ fun L hL=>?_)
 ·cases hk
  cases hx with
  | cons h1 hx=>cases hx with
   | cons h2 hx=>cases hx with
    | cons h3 hx=>cases hx with
     | cons h4 hx =>
      cases hx
      exact ⟨_,@_,.cons h1 (.cons h2 (.cons h3 (.cons h4 (.cons (.bool true) .nil))))⟩
 ·have hA':=hA.deeper (k:=47) (env:=Xa0 (XW (Xgq w.params)) L 160 159)
  simp only [XwL,XwV,Xwv,Xws]
  refine XI ?_
  repeat' got_up
  refine Xr (Xqx (hA'.mono nofun) hb) fun v led' h=>?_
  obtain ⟨rfl,h⟩:=h
  repeat' got_up
  exact ⟨_,.refl _,trivial,h⟩
theorem XeW{w:XwE}{A:Xww}{a b:List Str}{led:Led}(hA:Room A 60)(hb:b.length<4000) :
  TC P04 w A (B04 w) (.ref 242) [.none,.lst (a.map .str),.lst (b.map .str)] [] led fun v led'=>∃ d,v = .inst 242 d/\Xdv w d a b led led' :=
 Xsq (k:=59) (hA.mono nofun) @_ @_ @_ fun d A' hA' hd=>(init (hA'.mono nofun) hb).mono fun v l h=>⟨h.1,d,rfl,h.2⟩
end
section
theorem XsA(w:XwE):MatOk P04 w (KB w.params) 135:=⟨@_,@_,@_,@_,@_⟩
noncomputable def Xug(P:Xwj):XwR:=match findCls (KB P) (.ref 135) (.type "type") "__new__" with | some (.get _ (.ref p) _ _)=>p | _=>0
noncomputable def Xv5(P:Xwj):List Value:=((recIn (KB P) (Xug P) "staticmethod").getD []).tail
noncomputable def Xv8(w:XwE):List Value:=(Xxa (KB w.params) ⟨P04,w.params⟩ (mroOf (.ref 135))).getD []
theorem Xs5(w:XwE):MatCall P04 w (KB w.params) 135 82 :=
 ⟨⟨Xgs w.params,XuG (Xgs w.params),@_,@_⟩,@_,@_,⟨Xv8 w,@_,@_⟩,@_,@_,⟨Xug w.params,Xv5 w.params,@_,@_⟩,@_,@_,@_⟩
theorem Xph{w:XwE}{A:Xww}{x y z:Int}{led:Led}(hA:Room A 20) :
  TC P04 w A (B04 w) (.ref 82) [.ref 135,.int x,.int y,.int z] [] led fun v led'=>v = .mat 135 [.int x,.int y,.int z]/\led'=led:=by
 refine XaO (binds:=[(⟨⟨[95,99,108,115]⟩⟩,.ref 135),(Xy9,.int x),(Xza,.int y),(Xzb,.int z)]) (g04 w) (Xwa _) hA.lt (Binds.peek fun Z xs ks hx hk=>?_) @_ fun L hL=>?_
 ·cases hk
  cases hx with
  | cons h1 hx=>cases hx with
   | cons h2 hx=>cases hx with
    | cons h3 hx=>cases hx with
     | cons h4 hx =>
      cases hx
      exact ⟨_,@_,.cons h1 (.cons h2 (.cons h3 (.cons h4 .nil)))⟩
 ·have hA':=hA.deeper (k:=17) (env:=Xa0 (XW (o82 w.params)) L 82 81)
  simp only [XwL,XwV,Xwv,Xws]
  refine XI ?_
  repeat' got_up
  refine Xfk (XsA w) (by simp only [Xwn,XwF];decide) (fun _=>@_) ?_
  exact ⟨rfl,rfl⟩
theorem Xoa{w:XwE}{A:Xww}{x y z:Int}{led:Led}(hA:Room A 30) :
  TC P04 w A (B04 w) (.ref 135) [.int x,.int y,.int z] [] led fun v led'=>v = .mat 135 [.int x,.int y,.int z]/\led'=led :=
 XuP (k:=29) (xs:=[.int x,.int y,.int z]) (hA.mono nofun) (Xs5 w) fun A' hA'=>(Xph (hA'.mono nofun)).mono fun v l h=>⟨h.1,rfl,h.2⟩
end
section
local macro_rules | `(tactic| walk_at "recast") => `(tactic| first | exact Recast.nil | (refine' Recast.cast ?fc;(case fc=>walk_at "recast")) | (refine' Recast.keep ?fc;(case fc=>walk_at "recast")))
abbrev Xkq(a b:List Str)(dj jk pp:XwR)(vm vo:AV):List (Str × AV) :=
 [(Xzm,.none),(Xy9,.lst (a.map .str)),(Xza,.lst (b.map .str)),(Xzn,.bool true),(XzJ,vm),(Xz1,vo),(Xz0,.none),(Xzo,.ref dj),(XzY,.ref jk),(XzZ,.ref pp)]
abbrev Xdk(d dj jk d0:XwR)(a b:List Str)(alo ahi blo bhi:Nat)(ti tj tk:Nat)(vi vg vn vj vk:AV):List (Str × AV) :=
 [(Xzz,.int bhi),(Xzy,.int blo),(Xzx,.int ahi),(Xzw,.int alo),(Xy6,.inst 242 d),(Xzp,vi),(XzD,vg),(XzE,vn),(XzF,vj),(Xy5,vk),(Xy9,.lst (a.map .str)),(Xza,.lst (b.map .str)),(Xzo,.ref dj),
  (XzA,.bm "set.__contains__" (.ref jk)),(XzB,.int tk),(⟨⟨[98,101,115,116,106]⟩⟩,.int tj),(⟨⟨[98,101,115,116,105]⟩⟩,.int ti),(⟨⟨[106,50,108,101,110]⟩⟩,.ref d0),(XzC,.lst [])]
theorem XkE{w:XwE}{A:Xww}{d dj jk pp:XwR}{vm vo:AV}{a b:List Str}{mm:List (Str × AV)}{led:Led}{alo ahi blo bhi:Nat}(hA:Room A 60)(ha:a.length<10 ^ 6)(hb:b.length<10 ^ 6)
  (h1:alo<=ahi) (h2:ahi<=a.length) (h3:blo<=bhi) (h4:bhi<=b.length) (hds:(dj == Xx5)=false) (hmm:∀ k,(Xz mm k).getD (.lst []) = .lst (avs (XM b k))) :
  TC P04 w A (B04 w) (.ref 196) [.inst 242 d,.int alo,.int ahi,.int blo,.int bhi] [] ((d,X7 (Xkq a b dj jk pp vm vo))::(dj,Xl (XwP P04 w) mm)::(jk,Xav)::led) fun v led' =>
   v = .mat 135 [.int (flm (eqs a b) (XS a b) alo ahi blo bhi).1,.int (flm (eqs a b) (XS a b) alo ahi blo bhi).2.1,.int (flm (eqs a b) (XS a b) alo ahi blo bhi).2.2] /\
   led'=((d,X7 (Xkq a b dj jk pp vm vo))::(dj,Xl (XwP P04 w) mm)::(jk,Xav)::led):=by
 refine TC.weak (XaO (binds:=[(Xy6,.inst 242 d),(Xzw,.int alo),(Xzx,.int ahi),(Xzy,.int blo),(Xzz,.int bhi)]) (g04 w) (Xvm _) hA.lt (Binds.peek fun Z xs ks hx hk=>?_) @_ fun L hL=>?_)
 ·cases hk
  cases hx with
  | cons h1 hx=>cases hx with
   | cons h2 hx=>cases hx with
    | cons h3 hx=>cases hx with
     | cons h4 hx=>cases hx with
      | cons h5 hx =>
       cases hx
       exact ⟨_,@_,.cons h1 (.cons h2 (.cons h3 (.cons h4 (.cons h5 .nil))))⟩
 ·have hA':=hA.deeper (k:=57) (env:=Xa0 (XW (Xgh w.params)) L 196 195)
  have hh:=hA'.h
  have hsl:10 ^ 6<=XwZ:=by decide
  simp only [XwL,XwV,Xwv,Xws]
  refine T.spare Xzp @_ ?_
  refine T.spare XzD @_ ?_
  refine T.spare XzE @_ ?_
  refine T.spare XzF @_ ?_
  refine T.spare Xy5 @_ ?_
  simp only [Xws,Xwv]
  refine XI ?_
  repeat' got_up
  refine Xfi (knd:=XyD P04 w) fun d0 hd0 hB0=>?_
  repeat' got_up
  intro nn hnn
  repeat' got_up
  refine T.freeze (a:=nn) (xs:=[]) (by walk_at "recast") ?_
  generalize hled:((d,X7 (Xkq a b dj jk pp vm vo))::(dj,Xl (XwP P04 w) mm)::(jk,Xav)::led)=led0
  have hmd:(d,X7 (Xkq a b dj jk pp vm vo))∈led0:=by rw [← hled];walk_at "mem"
  have hmj:(dj,Xl (XwP P04 w) mm)∈led0:=by rw [← hled];walk_at "mem"
  have hmk:(jk,Xav)∈led0:=by rw [← hled];walk_at "mem"
  refine XcM (k:=5) (J:=fun xs st'=>∃ i0 s m d0 vi vg vn vj vk,alo<=i0/\i0<=ahi/\xs=((Xxm i0 (ahi - i0)).map fun (i:Nat)=>AV.int (i:Int))/\SInv alo blo bhi i0 s /\
    Xbg (XS a b) blo bhi (Xxm i0 (ahi - i0)) s=Xbg (XS a b) blo bhi (Xxm alo (ahi - alo)) (fun _=>0,(alo,blo,0))/\DRel m s.1/\(d0 == Xx5)=false /\
    st'=⟨Xdk d dj jk d0 a b alo ahi blo bhi s.2.1 s.2.2.1 s.2.2.2 vi vg vn vj vk,(d0,Xl (XyD P04 w) m)::led0⟩) (hA'.mono nofun) ?_ ?_ ?_ (fun _=>@_)
  ·repeat' got_up
   refine XpS ?_
   refine XlW (k:=5) nofun nofun nofun nofun fun it gl hI=>⟨it,gl,_,_,rfl,rfl,hI,alo,(fun _=>0,(alo,blo,0)),[],d0,_,_,_,_,_,XwN _,h1,Xjx alo ahi,SInv.start h3,rfl,DRel.nil,Xkm hB0,rfl⟩
  ·rintro x xs st' gl ⟨i0,s,m,d0,vi,vg,vn,vj,vk,g1,g2,hxs,hinv,hfold,hrel,hd0s,rfl⟩
   obtain ⟨n,hn⟩:∃ n,ahi - i0=n+1:=by
    cases q:ahi - i0 with
    | zero=>rw [q] at hxs;cases hxs
    | succ n=>exact ⟨n,rfl⟩
   rw [hn,Xyn,Xwr,List.cons.injEq] at hxs
   rw [hn,Xyn] at hfold
   obtain ⟨rfl,rfl⟩:=hxs
   have hn':ahi - (i0+1)=n:=by omega
   obtain ⟨la,hla⟩:∃ x,a[i0]? = some x:=⟨a[i0]'nofun,XwI nofun⟩
   simp only [Xws,XwK,Xwv]
   repeat' got_up
   refine Xfi (knd:=XyD P04 w) fun d1 hd1 hB1=>?_
   repeat' got_up
   refine T.mono (K:=fun f st''=>f=AFlow.next/\∃ m2 vj vk,DRel m2 (XcS (XM b la) blo bhi i0 s).1/\SInv alo blo bhi (i0+1) (XcS (XM b la) blo bhi i0 s) /\
     st''=⟨Xdk d dj jk d0 a b alo ahi blo bhi (XcS (XM b la) blo bhi i0 s).2.1 (XcS (XM b la) blo bhi i0 s).2.2.1 (XcS (XM b la) blo bhi i0 s).2.2.2 (.int i0) (.bm "dict.get" (.ref d0)) (.ref d1) vj vk,(d1,Xl (XyD P04 w) m2)::(d0,Xl (XyD P04 w) m)::(led0++gl)⟩) ?_ ?_
   rotate_left
   ·rintro f st'' ⟨rfl,m2,vj,vk,hrel2,hinv2,rfl⟩
    refine T.perm (XxX _ _ _) (T.drop ?_)
    repeat' got_up
    have hidx:XS a b i0=XM b la:=by unfold XS;rw [hla];rfl
    refine ⟨(d1,Xl (XyD P04 w) m2)::led0,by simp,i0+1,XcS (XM b la) blo bhi i0 s,m2,d1,_,_,_,_,_,by omega,by omega,by rw [hn'],hinv2,?_,hrel2,Xkm hB1,rfl⟩
    rw [hn',← hfold,← hidx]
    rfl
   refine XcM (k:=5) (J:=fun ys st''=>∃ js s2 m2 vj vk,ys=avs js/\js.Pairwise (· < ·)/\(∀ j∈js,j<b.length)/\SInv alo blo bhi (i0+1) s2 /\
     (within blo bhi js).foldl (XaM s.1 i0) s2=XcS (XM b la) blo bhi i0 s/\DRel m2 s2.1/\m2.length+js.length<=b.length /\
     st''=⟨Xdk d dj jk d0 a b alo ahi blo bhi s2.2.1 s2.2.2.1 s2.2.2.2 (.int i0) (.bm "dict.get" (.ref d0)) (.ref d1) vj vk,(d1,Xl (XyD P04 w) m2)::(d0,Xl (XyD P04 w) m)::(led0++gl)⟩) (hA'.mono nofun) ?_ ?_ ?_ (fun _=>@_)
   ·repeat' got_up
    refine Xy .frz nofun nofun (x := .str la) (by simp [hla]) ?_
    repeat' got_up
    refine XtM hds (Xfs la) (by walk_at "mem") ?_
    rw [hmm]
    exact XaE (k:=5) fun it gl' hI=>⟨it,gl',_,_,rfl,rfl,hI,XM b la,(fun _=>0,s.2),[],_,_,rfl,Xe3 b la,fun j hj=>Xkt hj,hinv.row,rfl,DRel.nil,by simpa using Xku b la,rfl⟩
   ·rintro x xs st'' gl' ⟨js,s2,m2,vj,vk,hxs,hsort,hlt,hinv2,hfold2,hrel2,hlen2,rfl⟩
    cases js with
    | nil=>cases hxs
    | cons j js =>
     simp only [avs,Xwr,List.cons.injEq] at hxs
     obtain ⟨rfl,rfl⟩:=hxs
     have hjl:=hlt j (Xwf ..)
     simp only [Xws,XwK,Xwv]
     repeat' got_up
     ·refine ⟨(d1,Xl (XyD P04 w) m2)::(d0,Xl (XyD P04 w) m)::(led0++gl),by simp,js,s2,m2,_,_,rfl,(Xys.mp hsort).2,fun j' hj'=>hlt j' (Xwh _ hj'),hinv2,?_,hrel2,by simp only [Xwn] at hlen2;omega,rfl⟩
      rw [← hfold2,XgP (by simp only [decide_eq_true_eq] at *;omega)]
     ·rw [XgO hsort (by simp only [decide_eq_true_eq] at *;omega),List.foldl_nil] at hfold2
      rw [← hfold2]
      exact ⟨(d1,Xl (XyD P04 w) m2)::(d0,Xl (XyD P04 w) m)::(led0++gl),by simp,trivial,m2,_,_,hrel2,hinv2,rfl⟩
     ·simp only [decide_eq_true_eq,decide_eq_false_iff_not,Int.not_lt,Int.not_le] at *
      obtain ⟨e1,e2⟩:=hinv.len g1 (j:=j) nofun
      refine XoC (knd:=XyD P04 w) (m:=m) hd0s (Xl4 _) (by walk_at "mem") ?_
      rw [hrel]
      repeat' got_up
      refine' XgJ (knd:=XyD P04 w) (m:=m2) (k:=(j:Int)) ?hU (Xl4 _) nofun ?_
      case hU=>walk_at "upd"
      repeat' got_up
      all_goals simp only [decide_eq_true_eq,decide_eq_false_iff_not,Int.not_lt,Int.not_le] at *
      all_goals
       have hstep:=hinv.step hinv2 g1 (j:=j) nofun nofun
       rw [XhJ nofun nofun,Xxj] at hfold2
       have hrel3:=hrel2.store (j:Int) (s.1 ((j:Int) - 1)+1)
      ·have hin:XaM s.1 i0 s2 j=(fun x=>if x=(j:Int) then s.1 ((j:Int) - 1)+1 else s2.1 x,(i0 - s.1 ((j:Int) - 1),j - s.1 ((j:Int) - 1),s.1 ((j:Int) - 1)+1)):=by unfold XaM;rw [if_pos nofun]
       rw [hin] at hstep hfold2
       rw [show ((i0:Int) - ((s.1 ((j:Int) - 1):Int)+1)+1)=((i0 - s.1 ((j:Int) - 1):Nat):Int) from by omega,show ((j:Int) - ((s.1 ((j:Int) - 1):Int)+1)+1)=((j - s.1 ((j:Int) - 1):Nat):Int) from by omega]
       exact ⟨(d1,Xl (XyD P04 w) (Xbb m2 j (.int ((s.1 ((j:Int) - 1)+1:Nat):Int))))::(d0,Xl (XyD P04 w) m)::(led0++gl),by simp,js,_,_,.int j,.int ((s.1 ((j:Int) - 1)+1:Nat):Int),rfl,(Xys.mp hsort).2,fun j' hj'=>hlt j' (Xwh _ hj'),hstep,hfold2,hrel3,by
        have:=XdY m2 (j:Int) (.int ((s.1 ((j:Int) - 1)+1:Nat):Int))
        simp only [Xwn] at hlen2
        omega,rfl⟩
      ·have hin:XaM s.1 i0 s2 j=(fun x=>if x=(j:Int) then s.1 ((j:Int) - 1)+1 else s2.1 x,s2.2):=by unfold XaM;rw [if_neg nofun]
       rw [hin] at hstep hfold2
       exact ⟨(d1,Xl (XyD P04 w) (Xbb m2 j (.int ((s.1 ((j:Int) - 1)+1:Nat):Int))))::(d0,Xl (XyD P04 w) m)::(led0++gl),by simp,js,_,_,.int j,.int ((s.1 ((j:Int) - 1)+1:Nat):Int),rfl,(Xys.mp hsort).2,fun j' hj'=>hlt j' (Xwh _ hj'),hstep,hfold2,hrel3,by
        have:=XdY m2 (j:Int) (.int ((s.1 ((j:Int) - 1)+1:Nat):Int))
        simp only [Xwn] at hlen2
        omega,rfl⟩
   ·rintro st'' ⟨js,s2,m2,vj,vk,hxs,hsort,hlt,hinv2,hfold2,hrel2,hlen2,rfl⟩
    have hjs:js=[]:=by
     cases js with
     | nil=>rfl
     | cons j js=>cases hxs
    subst hjs
    have hfold2:s2=XcS (XM b la) blo bhi i0 s:=hfold2
    rw [← hfold2]
    exact ⟨rfl,m2,_,_,hrel2,hinv2,rfl⟩
  ·rintro st' ⟨i0,s,m,d0,vi,vg,vn,vj,vk,g1,g2,hxs,hinv,hfold,hrel,hd0s,rfl⟩
   have hend:ahi - i0=0:=by
    cases q:ahi - i0 with
    | zero=>rfl
    | succ n=>rw [q] at hxs;cases hxs
   have hi0:i0=ahi:=by omega
   subst hi0
   rw [Nat.sub_self] at hfold
   have hfold:s=Xbg (XS a b) blo bhi (Xxm alo (i0 - alo)) (fun _=>0,(alo,blo,0)):=hfold
   refine T.drop ?_
   repeat' got_up
   obtain ⟨Ds,bi,bj,bk⟩:=s
   have c1:=hinv.b1
   have c2:=hinv.b2
   have c3:=hinv.b3
   have c4:=hinv.b4
   dsimp only at c1 c2 c3 c4
   refine T.mono (K:=fun f st''=>f=AFlow.next/\∃ u:Tri,u=X8 (eqs a b) alo blo bi bj bk/\alo<=u.1/\blo<=u.2.1/\u.1+u.2.2<=i0/\u.2.1+u.2.2<=bhi/\st''=⟨Xdk d dj jk d0 a b alo i0 blo bhi u.1 u.2.1 u.2.2 vi vg vn vj vk,led0⟩) ?_ ?_
   ·refine Xcv (J:=fun n st''=>∃ i j k,n=i/\alo<=i/\blo<=j/\i+k<=i0/\j+k<=bhi/\X8 (eqs a b) alo blo i j k=X8 (eqs a b) alo blo bi bj bk/\st''=⟨Xdk d dj jk d0 a b alo i0 blo bhi i j k vi vg vn vj vk,led0⟩) ?_ ⟨bi,bj,bk,rfl,c1,c3,c2,c4,rfl,rfl⟩
    rintro n st'' ⟨i,j,k,rfl,e1,e2,e3,e4,hext,rfl⟩
    repeat' got_up
    ·simp only [decide_eq_true_eq] at *
     obtain ⟨n,rfl⟩:∃ i',n=i'+1:=⟨n - 1,by omega⟩
     obtain ⟨j,rfl⟩:∃ j',j=j'+1:=⟨j - 1,by omega⟩
     obtain ⟨y,hy⟩:∃ y,b[j]? = some y:=⟨b[j]'nofun,XwI nofun⟩
     obtain ⟨x,hx⟩:∃ x,a[n]? = some x:=⟨a[n]'nofun,XwI nofun⟩
     refine Xy .frz nofun nofun (x := .str y) (Xb1 nofun hy) ?_
     repeat' got_up
     refine Xbu (by walk_at "mem") ?_
     repeat' got_up
     refine Xy .frz nofun nofun (x := .str x) (Xb1 nofun hx) ?_
     repeat' got_up
     refine Xy .frz nofun nofun (x := .str y) (Xb1 nofun hy) ?_
     repeat' got_up
     ·rename_i hc
      rw [Xtn nofun nofun ((Xha hx hy).trans hc)] at hext
      rw [show (((n+1:Nat):Int) - 1)=(n:Int) from by omega,show (((j+1:Nat):Int) - 1)=(j:Int) from by omega]
      exact ⟨n,by omega,n,j,k+1,rfl,by omega,by omega,by omega,by omega,hext,rfl⟩
     ·rename_i hc
      rw [Xtm ((Xha hx hy).trans hc)] at hext
      exact ⟨trivial,_,hext,by omega,by omega,by omega,by omega,rfl⟩
    ·simp only [decide_eq_true_eq,decide_eq_false_iff_not] at *
     rw [Xpx nofun] at hext
     exact ⟨trivial,_,hext,by omega,by omega,by omega,by omega,rfl⟩
    ·simp only [decide_eq_true_eq,decide_eq_false_iff_not] at *
     rw [Xr3 nofun] at hext
     exact ⟨trivial,_,hext,by omega,by omega,by omega,by omega,rfl⟩
   ·rintro f st'' ⟨rfl,⟨ui,uj,uk⟩,hu,d1,d2,d3,d4,rfl⟩
    dsimp only at d1 d2 d3 d4
    repeat' got_up
    refine T.mono (K:=fun f st''=>f=AFlow.next/\∃ k,k=XaU (eqs a b) i0 bhi ui uj (i0 - (ui+uk)) uk/\ui+k<=i0/\uj+k<=bhi/\st''=⟨Xdk d dj jk d0 a b alo i0 blo bhi ui uj k vi vg vn vj vk,led0⟩) ?_ ?_
    ·refine Xcv (J:=fun n st''=>∃ k,n=i0 - (ui+k)/\ui+k<=i0/\uj+k<=bhi/\XaU (eqs a b) i0 bhi ui uj (i0 - (ui+k)) k=XaU (eqs a b) i0 bhi ui uj (i0 - (ui+uk)) uk/\st''=⟨Xdk d dj jk d0 a b alo i0 blo bhi ui uj k vi vg vn vj vk,led0⟩) ?_ ⟨uk,rfl,d3,d4,rfl,rfl⟩
     rintro n st'' ⟨k,rfl,e3,e4,hext,rfl⟩
     repeat' got_up
     ·simp only [decide_eq_true_eq] at *
      obtain ⟨y,hy⟩:∃ y,b[uj+k]? = some y:=⟨b[uj+k]'nofun,XwI nofun⟩
      obtain ⟨x,hx⟩:∃ x,a[ui+k]? = some x:=⟨a[ui+k]'nofun,XwI nofun⟩
      refine Xy .frz nofun nofun (x := .str y) (Xb1 nofun hy) ?_
      repeat' got_up
      refine Xbu (by walk_at "mem") ?_
      repeat' got_up
      refine Xy .frz nofun nofun (x := .str x) (Xb1 nofun hx) ?_
      repeat' got_up
      refine Xy .frz nofun nofun (x := .str y) (Xb1 nofun hy) ?_
      repeat' got_up
      ·rename_i hc
       obtain ⟨f,hf⟩:∃ f,i0 - (ui+k)=f+1:=⟨i0 - (ui+k) - 1,by omega⟩
       rw [hf,Xtl nofun nofun ((Xha hx hy).trans hc)] at hext
       exact ⟨f,by omega,k+1,by omega,by omega,by omega,by rw [show i0 - (ui+(k+1))=f from by omega];exact hext,rfl⟩
      ·rename_i hc
       rw [Xfb (fun h=>by rw [Xha hx hy,hc] at h;exact Xw0 h.2.2)] at hext
       exact ⟨trivial,_,hext,by omega,by omega,rfl⟩
     ·simp only [decide_eq_true_eq,decide_eq_false_iff_not] at *
      rw [Xfb (fun h=>by omega)] at hext
      exact ⟨trivial,_,hext,by omega,by omega,rfl⟩
     ·simp only [decide_eq_true_eq,decide_eq_false_iff_not] at *
      rw [Xfb (fun h=>by omega)] at hext
      exact ⟨trivial,_,hext,by omega,by omega,rfl⟩
    ·rintro f st'' ⟨rfl,k,hk,f1,f2,rfl⟩
     repeat' got_up
     refine T.mono (K:=fun f st''=>f=AFlow.next/\st''=⟨Xdk d dj jk d0 a b alo i0 blo bhi ui uj k vi vg vn vj vk,led0⟩) ?_ ?_
     ·refine Xcv (J:=fun n st''=>st''=⟨Xdk d dj jk d0 a b alo i0 blo bhi ui uj k vi vg vn vj vk,led0⟩) ?_ (n:=0) rfl
      rintro n st'' rfl
      repeat' got_up
      ·simp only [decide_eq_true_eq] at *
       obtain ⟨j,hj⟩:∃ j',uj=j'+1:=⟨uj - 1,by omega⟩
       obtain ⟨y,hy⟩:∃ y,b[j]? = some y:=⟨b[j]'nofun,XwI nofun⟩
       refine Xy .frz nofun nofun (x := .str y) (Xb1 nofun hy) ?_
       repeat' got_up
       refine Xbu (by walk_at "mem") ?_
       repeat' got_up
       exact ⟨trivial,rfl⟩
      ·exact ⟨rfl,rfl⟩
      ·exact ⟨rfl,rfl⟩
     ·rintro f st'' ⟨rfl,rfl⟩
      repeat' got_up
      refine T.mono (K:=fun f st''=>f=AFlow.next/\st''=⟨Xdk d dj jk d0 a b alo i0 blo bhi ui uj k vi vg vn vj vk,led0⟩) ?_ ?_
      ·refine Xcv (J:=fun n st''=>st''=⟨Xdk d dj jk d0 a b alo i0 blo bhi ui uj k vi vg vn vj vk,led0⟩) ?_ (n:=0) rfl
       rintro n st'' rfl
       repeat' got_up
       ·simp only [decide_eq_true_eq] at *
        obtain ⟨y,hy⟩:∃ y,b[uj+k]? = some y:=⟨b[uj+k]'nofun,XwI nofun⟩
        refine Xy .frz nofun nofun (x := .str y) (Xb1 nofun hy) ?_
        repeat' got_up
        refine Xbu (by walk_at "mem") ?_
        repeat' got_up
        exact ⟨trivial,rfl⟩
       ·exact ⟨rfl,rfl⟩
       ·exact ⟨rfl,rfl⟩
      ·rintro f st'' ⟨rfl,rfl⟩
       repeat' got_up
       refine Xr (Xoa (hA'.mono nofun)) fun v led' h=>?_
       obtain ⟨rfl,rfl⟩:=h
       refine ⟨_,.refl _,?_,rfl⟩
       have hf:flm (eqs a b) (XS a b) alo i0 blo bhi=(ui,uj,k):=by
        unfold flm
        rw [← hfold]
        dsimp only
        rw [← hu]
        dsimp only
        rw [← hk]
       rw [hf]
end
section
section
variable{prog:Xwx}{w:XwE}{A:Xww}{B:Frz}{env:Env}{N:Led}
def Xh0(f:AV)(it:XwR)(Z:Frz)(o:Obj):Prop:=∃ tt fx,o={ cls := .type "map",data := .fields #[.ref tt,fx]}/\Z tt=some {cls := .type "tuple",data := .seq #[.ref it]}/\Val Z f fx
theorem XdC{f:AV}{it:XwR}(Z Z':Frz)(o:Obj)(k:Frz.le Z Z')(x:Xh0 f it Z o):Xh0 f it Z' o:=let ⟨tt,fx,a,b,c⟩:=x;⟨tt,fx,a,k _ _ b,c.mono k⟩
abbrev XcU(m it:XwR)(f:AV)(xs:List AV)(i:Nat)(glf:Led):Led:=(m,.obj (Xh0 f it) XdC)::(it,.obj (enI xs i) Xdr)::glf
theorem Xf6{a b:XwR × AObj}{l r:Led}:(a::b::(l++r)).Perm (l++a::b::r) :=
 (Xyx a (XxN (l₁:=l) (l₂:=r) (a:=b)).symm).trans (XxN (l₁:=l) (l₂:=b::r) (a:=a)).symm
theorem IterOk.map{f:AV}{m it:XwR}{xs ys:List AV}{glf:Led}{k:Nat}(hlen:ys.length=xs.length)
  (hf:∀ (i:Nat) x y,xs[i]? = some x->ys[i]? = some y->∀ A',Room A' k->∀ led,NIn N led->TC prog w A' B f [x] [] (glf++led) fun v led'=>v=y/\led'=glf++led) :
  ∀ (d i:Nat),i+d=xs.length->IterOk prog w B N (k+1) Xf2 m (ys.drop i) (XcU m it f xs i glf)
 | 0,i,hi=>by
  rw [XxI nofun]
  intro A hA led hN s Z S Q E hQ
  obtain ⟨om,hom,tt,fx,rfl,htt,hfx⟩:=S.own _ (Xwf ..)
  obtain ⟨oi,hoi,l,items,n,hc,hd,hz,hv⟩:=S.own _ (Xwh _ (Xwf ..))
  dsimp only at hom hoi
  have hl:s.heap.IsList l items.toArray:=⟨_,S.frozen _ _ hz,rfl,n,rfl⟩
  refine Xs7 hA.h hom (S.frozen _ _ htt) ⟨oi,hoi,hc,hd⟩ hl (by simp [hv.length];omega) fun h' hx=>?_
  have keep:∀ b o,b≠it->s.heap.get? b=some o->h'.get? b=some o:=fun b o hb q=>hx b o hb q
  have nd:=S.nodup
  have hZ:Z it=none:=S.apart _ (Xwh _ (Xwf ..))
  have S2:SimL B s Z led:=S.drop (l:=XcU m it f xs i glf)
  have hnl:it∉keys (glf++led):=(Xwz.mp (Xwz.mp nd).2).1
  have hnl':it∉keys led:=fun q=>hnl (by rw [keys,XwH];exact XwM _ q)
  refine hQ _ Z ⟨S.base,fun a o q=>keep a o (fun z=>by rw [z,hZ] at q;cases q) (S.frozen a o q),S2.nodup,S2.apart,fun p hp=>Holds.mono (s:=s) (.refl _) (fun o q=>keep _ o (fun z=>hnl' (z ▸ XwC hp)) q) (fun _ _ _ q=>q) (S2.own p hp),S2.gnodup,S2.bare⟩
   ⟨.refl _,fun a o q ha=>keep a o (fun z=>ha (z ▸ Xwh _ (Xwf ..))) q,fun a ha => .inl ?_,fun _ _ q => .inl q,rfl,fun _ _ q _=>q,fun g h => .inl ?_⟩
  ·show a∈keys (XcU m it f xs i glf++led)
   rw [keys,XwH];exact XwM _ ha
  ·show g∈gkeys (XcU m it f xs i glf++led)
   unfold gkeys;rw [Xyt];exact XwM _ h
 | d+1,i,hi=>by
  have hlt:i<xs.length:=by omega
  have hlt':i<ys.length:=by omega
  rw [XxJ hlt']
  intro A hA led hN s Z S Q E hQ
  obtain ⟨om,hom,tt,fx,rfl,htt,hfx⟩:=S.own _ (Xwf ..)
  obtain ⟨oi,hoi,l,items,n,hc,hd,hz,hv⟩:=S.own _ (Xwh _ (Xwf ..))
  dsimp only at hom hoi
  have hl:s.heap.IsList l items.toArray:=⟨_,S.frozen _ _ hz,rfl,n,rfl⟩
  have hmi:m≠it:=fun q=>(Xwz.mp S.nodup).1 (q ▸ Xwf ..)
  obtain ⟨u,hu,hV⟩:=hv.get (XwI hlt)
  refine XrD hom (S.frozen _ _ htt) ⟨oi,hoi,hc,hd⟩ hl (x:=u) (by simpa using hu) hmi fun h' hit' hs'=>?_
  obtain ⟨oi',hoi',hc',hd'⟩:=hit'
  have P:=S.upd (led':=XcU m it f xs (i+1) glf++led) (.there .here) (h':=h') (tk:=s.toks) (fun b ob hb e=>(hs'.2 b hb).trans e) rfl rfl ⟨oi',hoi',l,items,n,hc',hd',hz,hv⟩
  have P1:=P.1.perm (Xf6 (l:=glf) (r:=led))
  refine Xyl (hf i _ _ (XwI hlt) (XwI hlt') A.in1 hA.in1 ((m,.obj (Xh0 f it) XdC)::(it,.obj (enI xs (i+1)) Xdr)::led) (fun p hp=>Xwh _ (Xwh _ (hN p hp))) _ Z fx [u] [] P1 hfx (.cons hV .nil) .nil _ fun v y s' Z' led' kk S' V X'=>?_)
  obtain ⟨rfl,rfl⟩:=kk
  refine Xwg ?_
  refine hQ s' Z' y (XcU m it f xs (i+1) glf) (S'.perm (Xf6 (l:=glf) (r:=led)).symm) V ?_ (IterOk.map hlen hf d (i+1) nofun)
  have e:=Xaj (Xf6 (a:=(m,AObj.obj (Xh0 f it) XdC)) (b:=(it,AObj.obj (enI xs (i+1)) Xdr)) (l:=glf) (r:=led))
  rw [← e] at X'
  exact P.2.trans X'
theorem Xgu{m it:XwR}{f:AV}{xs:List AV}{i:Nat}{glf led:Led}{s:Xwl}{Z:Frz}{Q:Value->Xwl->Prop}{E:Value->Xwl->Prop}(S:SimL B s Z (XcU m it f xs i glf++led))(h:Q (.ref m) s):XwG (XwD prog w) A (pyIter (.ref m)) Q E s:=by
 obtain ⟨om,hom,tt,fx,rfl,htt,hfx⟩:=S.own _ (Xwf ..)
 have hT:s.TypeIs (.ref m) "map" := ⟨_,hom,rfl⟩
 refine wpAny_pyIter_slot hT XeD (Xw3 XeD hT Xia ?_ (Xi6 _))
 show XwG _ _ (ret (.ref m)) _ _ s
 exact Xwg ⟨_,rfl, "map",_,hT,Xbn.lookup,h⟩
theorem XkW{f:AV}{xs:List AV}{loc:List (Str × AV)}{led:Led}{R:AV->St->Prop}(h:∀ m it,R (.ref m) ⟨loc,XcU m it f xs 0 []++led⟩):FC prog w A B env (.typ "map") [f,.lst xs] [] ⟨loc,led⟩ R:=fun s Z fx ys ks hf hx hk S Q E hQ=>by
 cases hf
 cases hk
 cases hx with
 | @cons _ fv _ _ h0 hx=>cases hx with
  | cons h1 hx =>
   cases hx
   cases h1 with
   | @lst a _ items n e hv =>
    have hl:s.heap.IsList a items.toArray:=⟨_,S.frozen _ _ e,rfl,n,rfl⟩
    refine callType_new Xoq (by decide) (Xjp _ _) (Xlq _ _) (fun obj=>F.args_object_init_3 obj _ _) Xi2
     (Meets.of_wp (S:=fun _ R s=>s.heap.IsList a items.toArray/\R (.ok (.ret (.ref (s.heap.objs.size+2)))) {s with heap:=((s.heap.push {cls := .type "list_iterator",data := .fields #[.ref a,.int 0 0]}).push {cls := .type "tuple",data := .seq #[.ref s.heap.objs.size]}).push {cls := .type "map",data := .fields #[.ref (s.heap.objs.size+1),fv]} })
      fun prog w A R s hs=>Xli hs.1 ⟨_,rfl,hs.2⟩) ⟨hl,?_⟩
    have P1:=S.toSimL.push (o:={ cls := .type "list_iterator",data := .fields #[.ref a,.int 0 0]}) (ao := .obj (enI xs 0) Xdr) rfl s.toks ⟨_,Xwp _ rfl,a,items,n,rfl,rfl,e,hv⟩
    have P2:=P1.1.pushZ (o:={ cls := .type "tuple",data := .seq #[.ref s.heap.objs.size]}) rfl s.toks
    have e1:(s.heap.push {cls := .type "list_iterator",data := .fields #[.ref a,.int 0 0]}).objs.size=s.heap.objs.size+1:=XyM ..
    have e2:((s.heap.push {cls := .type "list_iterator",data := .fields #[.ref a,.int 0 0]}).push {cls := .type "tuple",data := .seq #[.ref s.heap.objs.size]}).objs.size=s.heap.objs.size+2:=by rw [XyM,e1]
    have P3:=P2.1.push (o:={ cls := .type "map",data := .fields #[.ref (s.heap.objs.size+1),fv]}) (ao := .obj (Xh0 f s.heap.objs.size) XdC) rfl s.toks ⟨_,Xwp _ rfl,s.heap.objs.size+1,fv,rfl,by rw [← e1];exact Frz.add_at ..,h0.mono (P1.2.le.trans P2.2.le)⟩
    have X:=(P1.2.trans P2.2).trans P3.2
    have hq:=hQ _ (.ref (((s.heap.push {cls := .type "list_iterator",data := .fields #[.ref a,.int 0 0]}).push {cls := .type "tuple",data := .seq #[.ref s.heap.objs.size]}).objs.size)) _ _ ⟨loc,XcU _ s.heap.objs.size f xs 0 []++led⟩ (h _ _) (S.after P3.1 X) (.ref _) X.toF
    refine ⟨⟨_,by rw [← e2];exact Xwp _ rfl,rfl⟩,?_⟩
    rw [← e2]
    exact hq
end
end
section
section
variable{prog:Xwx}{w:XwE}{A:Xww}{K:Frag}{env:Env}
theorem Xhc:entryFor table "tuple.__len__" = some Builtin.«tuple.__len__» := Xyf @_
theorem XoB{C:XwR}{xs:List AV}{st:St}{R:AV->St->Prop}(hsub:Xxa K ⟨prog,w.params⟩ (XyI (.ref C) (.type "tuple"))=some true)(hln:Xxa K ⟨prog,w.params⟩ (Xxz (.ref C) "__len__")=some (some (.builtin "tuple.__len__")))
  (h1:xs.length<2 ^ 62) (h:R (.int xs.length) st):FC prog w A (Xg K) env (.blt "len") [.mat C xs] [] st R:=fun s Z fx ys ks hf hx hk S Q E hQ=>by
 cases hf
 cases hk
 cases hx with
 | cons hv hx =>
  cases hx
  cases hv with
  | @mat a _ d _ items n e hv =>
   have X:=XT S.base S.frozen
   have ha:=S.frozen _ _ e
   have tl:Looks (XwD prog w) s.heap (typeOf (.ref a)) (.ref C):=(Looks.ld ha).andThen .now
   have hlen:items.length=xs.length:=hv.length
   refine Calls.call_function_entry kind_len plain_len entry_len (args_len1 _) ?_
   unfold Builtin.«len»
   refine Xwe (m:=oneArg "len" _) (Xwg ?_)
   refine Xwe ?_
   unfold callSpecial? specialOf
   refine Xwe (Xwe (tl.here (XaS X hln ?_)))
   dsimp only
   refine Xwt ?_
   refine Xwe (Xxg (F.slot_tuple_len.bind _) ?_)
   refine Xwe (Xyl (Xx3 F.slot_tuple_len.plain Xhc (check_slot (i := "tuple.__len__") (owner := "tuple") (n := "__len__") (by decide +kernel) (by decide +kernel) (tl.andThen (XyF X hsub)) (F.args_tuple_len_1 _) ?_)))
   show XwG _ _ (do retInt (← Builtin.Tuple.tupleItemsOf (.ref a)).size) _ _ s
   unfold Builtin.Tuple.tupleItemsOf
   refine Xwe (Xwe (XxT ha rfl (Xwg ?_)))
   refine Xwe (wpAny_mkInt (Xwg ?_))
   refine Xwg ?_
   dsimp only
   refine Xwe (Xwt (Xwg ?_))
   refine Xwe (wpAny_letGo ?_)
   have hz:((items.toArray.size:Nat):Int)=(xs.length:Int):=by simp [hlen]
   show XwG _ _ (if ((items.toArray.size:Nat):Int)<0 then _ else _) _ _ _
   rw [if_neg nofun]
   show XwG _ _ (if ((items.toArray.size:Nat):Int) ≥ 2 ^ 63 then _ else _) _ _ _
   rw [if_neg nofun]
   refine Xwe (wpAny_mkInt (Xwg ⟨_,rfl,hQ _ _ _ Z st h (S.toks _) ?_ (.toks _)⟩))
   rw [hz]
   exact .int _ _
theorem XoK{C p f:XwR}{name:Str}{rest:List Value}{loc:List (Str × AV)}{led:Led}{expr:Bool}{R:AV->St->Prop}(hr:readsIn K C (.type "type")=true)
  (e:findCls K (.ref C) (.type "type") name=some (.get (.builtin "classmethod.__get__") (.ref p) .none (.ref C))) (hp:recIn K p "classmethod" = some (.ref f::rest))
  (h:∀ q,R (.ref q) ⟨loc,(q,.raw (methodObj (.ref f) (.ref C)))::led⟩):F1 prog w A (Xg K) env Val (fun x=>getAttr x name expr) (.ref C) ⟨loc,led⟩ R:=fun s Z x V S Q E hQ=>by
 cases V
 have X:=XT S.base S.frozen
 refine cls_bind X hr e (Xyl (cm_get (s:={ s with toks:=s.toks+1}) X hp (handed_on rfl ?_)))
 have P:=S.toSimL.push (o:=methodObj (.ref f) (.ref C)) (ao := .raw (methodObj (.ref f) (.ref C))) rfl (s.toks+1) (Xwp _ rfl)
 exact hQ _ _ _ _ _ (h _) (S.after P.1 P.2) (.ref _) P.2.toF
theorem Xtz{B:Frz}{q f:XwR}{C:XwR}{args:List AV}{led:Led}{R:AV->Led->Prop}(hm:(q,.raw (methodObj (.ref f) (.ref C)))∈led)(h:TC prog w A B (.ref f) (.ref C::args) [] led R):TC prog w A B (.ref q) args [] led R:=fun s Z fx xs ks S hf hx hk Q hQ=>by
 cases hf
 cases hk
 have hq:s.heap.get? q=some (methodObj (.ref f) (.ref C)):=S.own _ hm
 refine codeAny_of_tree ?_
 show XwG _ A.in1 (callAny (.ref q) ⟨xs,[]⟩) _ _ s
 simp only [callAny]
 refine Xwe (wpAny_load hq ?_)
 dsimp only
 refine KFB.if_so (by decide) ?_
 refine Xwg ⟨rfl,?_⟩
 exact h s Z (.ref f) (.ref C::xs) [] S (.ref f) (.cons (.ref C) hx) .nil Q hQ
end
end
section
noncomputable def XmC(P:Xwj):XwR:=match findCls (KB P) (.ref 135) (.type "type") Xy8 with | some (.get _ (.ref p) _ _)=>p | _=>0
noncomputable def Xu0(P:Xwj):List Value:=((recIn (KB P) (XmC P) "classmethod").getD []).tail
theorem Xvs(P:Xwj):findCls (KB P) (.ref 135) (.type "type") Xy8=some (.get (.builtin "classmethod.__get__") (.ref (XmC P)) .none (.ref 135)):=@_
theorem Xvb(P:Xwj):recIn (KB P) (XmC P) "classmethod" = some (.ref 89::Xu0 P):=@_
theorem Xs8{w:XwE}{A:Xww}{x y z:Int}{led:Led}(hA:Room A 20) :
  TC P04 w A (B04 w) (.ref 89) [.ref 135,.tup [.int x,.int y,.int z]] [] led fun v led'=>v = .mat 135 [.int x,.int y,.int z]/\led'=led:=by
 refine XaO (binds:=[(⟨⟨[99,108,115]⟩⟩,.ref 135),(Xzc,.tup [.int x,.int y,.int z])]) (g04 w) (Xv9 _) hA.lt (Binds.peek fun Z xs ks hx hk=>?_) @_ fun L hL=>?_
 ·cases hk
  cases hx with
  | cons h1 hx=>cases hx with
   | cons h2 hx =>
    cases hx
    exact ⟨_,@_,.cons h1 (.cons h2 .nil)⟩
 ·have hA':=hA.deeper (k:=17) (env:=Xa0 (XW (o89 w.params)) L 89 88)
  simp only [XwL,XwV,Xwv,Xws]
  refine XI ?_
  repeat' got_up
  refine Xfk (XsA w) (by simp only [Xwn,XwF];decide) (fun _=>@_) ?_
  repeat' got_up
  refine XoB @_ @_ (by simp only [Xwn,XwF];decide) ?_
  repeat' got_up
  ·rename_i hc;exact absurd (show ((3:Int) != 3)=true from hc) (by decide)
  ·exact ⟨rfl,rfl⟩
end
theorem Xd2{alo blo bhi i:Nat}{s:(Int->Nat) × Tri}(h:SInv alo blo bhi i s)(hi:alo<=i):∀ (js:List Nat) (s2:(Int->Nat) × Tri),(∀ j∈js,blo<=j/\j<bhi)->SInv alo blo bhi (i+1) s2->SInv alo blo bhi (i+1) (js.foldl (XaM s.1 i) s2)
 | [],s2,_,h2=>h2
 | j::js,s2,hj,h2=>by
  rw [Xxj]
  exact Xd2 h hi js _ (fun j' h'=>hj j' (Xwh _ h')) (h.step h2 hi (hj j (Xwf ..)).1 (hj j (Xwf ..)).2)
theorem Xd9{blo bhi j:Nat}{js:List Nat}(h:j∈within blo bhi js):blo<=j/\j<bhi:=by
 have:=(Xx0.mp h).2
 simpa using this
theorem XsS{alo blo bhi i:Nat}{s:(Int->Nat) × Tri}(js:List Nat)(h:SInv alo blo bhi i s)(hi:alo<=i):SInv alo blo bhi (i+1) (XcS js blo bhi i s) :=
 Xd2 h hi _ _ (fun j hj=>Xd9 hj) h.row
theorem Xf3{idx:Nat->List Nat}{alo blo bhi:Nat}:∀ (n i:Nat) (s:(Int->Nat) × Tri),alo<=i->SInv alo blo bhi i s->SInv alo blo bhi (i+n) (Xbg idx blo bhi (Xxm i n) s)
 | 0,i,s,_,h=>h
 | n+1,i,s,hi,h=>by
  rw [Xyn]
  have:=Xf3 (idx:=idx) n (i+1) (XcS (idx i) blo bhi i s) nofun (XsS (idx i) h hi)
  rw [show i+(n+1)=i+1+n from by omega]
  exact this
theorem XfL{e:Nat->Nat->Bool}{alo blo:Nat}:∀ (i j k:Nat),alo<=i->blo<=j->alo<=(X8 e alo blo i j k).1/\blo<=(X8 e alo blo i j k).2.1/\(X8 e alo blo i j k).1+(X8 e alo blo i j k).2.2=i+k/\(X8 e alo blo i j k).2.1+(X8 e alo blo i j k).2.2=j+k
 | 0,j,k,h1,h2=>by unfold X8;exact ⟨h1,h2,rfl,rfl⟩
 | i+1,0,k,h1,h2=>by unfold X8;exact ⟨h1,h2,rfl,rfl⟩
 | i+1,j+1,k,h1,h2=>by
  rw [X8]
  split
  ·rename_i hc
   simp only [Xxn,decide_eq_true_eq] at hc
   have:=XfL (e:=e) (alo:=alo) (blo:=blo) i j (k+1) nofun nofun
   obtain ⟨a1,a2,a3,a4⟩:=this
   exact ⟨a1,a2,by omega,by omega⟩
  ·exact ⟨h1,h2,rfl,rfl⟩
theorem XfK{e:Nat->Nat->Bool}{ahi bhi i j:Nat}:∀ (f k:Nat),i+k<=ahi->j+k<=bhi->k<=XaU e ahi bhi i j f k/\i+XaU e ahi bhi i j f k<=ahi/\j+XaU e ahi bhi i j f k<=bhi
 | 0,k,h1,h2=>⟨XwN _,h1,h2⟩
 | f+1,k,h1,h2=>by
  rw [XaU]
  split
  ·rename_i hc
   simp only [Xxn,decide_eq_true_eq] at hc
   obtain ⟨a1,a2,a3⟩:=XfK (e:=e) (ahi:=ahi) (bhi:=bhi) (i:=i) (j:=j) f (k+1) nofun nofun
   exact ⟨by omega,a2,a3⟩
  ·exact ⟨XwN _,h1,h2⟩
def Xch(fl:Nat->Nat->Nat->Nat->Tri):Prop:=∀ alo ahi blo bhi,alo<=ahi->blo<=bhi->alo<=(fl alo ahi blo bhi).1/\(fl alo ahi blo bhi).1+(fl alo ahi blo bhi).2.2<=ahi/\blo<=(fl alo ahi blo bhi).2.1/\(fl alo ahi blo bhi).2.1+(fl alo ahi blo bhi).2.2<=bhi
theorem XbP(e:Nat->Nat->Bool)(idx:Nat->List Nat):Xch (flm e idx):=fun alo ahi blo bhi h1 h2=>by
 have hs:=Xf3 (idx:=idx) (bhi:=bhi) (ahi - alo) alo (fun _=>0,(alo,blo,0)) (XwN _) (SInv.start h2)
 rw [show alo+(ahi - alo)=ahi from by omega] at hs
 unfold flm
 dsimp only
 generalize (Xbg idx blo bhi (Xxm alo (ahi - alo)) (fun _=>0,(alo,blo,0)))=s at hs
 obtain ⟨D,si,sj,sk⟩:=s
 have c1:=hs.b1
 have c2:=hs.b2
 have c3:=hs.b3
 have c4:=hs.b4
 dsimp only at c1 c2 c3 c4 ⊢
 obtain ⟨e1,e2,e3,e4⟩:=XfL (e:=e) si sj sk c1 c3
 generalize X8 e alo blo si sj sk=u at e1 e2 e3 e4
 obtain ⟨ui,uj,uk⟩:=u
 dsimp only at e1 e2 e3 e4 ⊢
 obtain ⟨f1,f2,f3⟩:=XfK (e:=e) (ahi:=ahi) (bhi:=bhi) (i:=ui) (j:=uj) (ahi - (ui+uk)) uk nofun nofun
 exact ⟨e1,f2,e2,f3⟩
def mbF(fl:Nat->Nat->Nat->Nat->Tri):Nat->Nat->Nat->Nat->Nat->List Tri
 | 0,_,_,_,_=>[]
 | f+1,alo,ahi,blo,bhi =>
  let r:=fl alo ahi blo bhi
  if r.2.2=0 then [] else
   (if alo<r.1/\blo<r.2.1 then mbF fl f alo r.1 blo r.2.1 else [])++r::(if r.1+r.2.2<ahi/\r.2.1+r.2.2<bhi then mbF fl f (r.1+r.2.2) ahi (r.2.1+r.2.2) bhi else [])
theorem Xcr{fl:Nat->Nat->Nat->Nat->Tri}(ok:Xch fl):∀ (f alo ahi blo bhi:Nat),alo<=ahi->blo<=bhi->ahi - alo<=f->mbF fl f alo ahi blo bhi=mbF fl (ahi - alo) alo ahi blo bhi
 | 0,alo,ahi,blo,bhi,_,_,h=>by rw [show ahi - alo=0 from by omega]
 | f+1,alo,ahi,blo,bhi,h1,h2,h=>by
  obtain ⟨a1,a2,a3,a4⟩:=ok alo ahi blo bhi h1 h2
  cases q:ahi - alo with
  | zero =>
   rw [mbF,mbF]
   rw [if_pos nofun]
  | succ g =>
   rw [mbF,mbF]
   split
   ·rfl
   ·rename_i hk
    congr 1
    ·split
     ·rw [Xcr ok f _ _ _ _ nofun nofun nofun,Xcr ok g _ _ _ _ nofun nofun nofun]
     ·rfl
    ·congr 1
     split
     ·rw [Xcr ok f _ _ _ _ nofun nofun nofun,Xcr ok g _ _ _ _ nofun nofun nofun]
     ·rfl
abbrev Win:=Nat × Nat × Nat × Nat
def mbW(fl:Nat->Nat->Nat->Nat->Tri)(q:Win):List Tri:=mbF fl (q.2.1 - q.1) q.1 q.2.1 q.2.2.1 q.2.2.2
def Xvx(la lb:Nat)(q:Win):Prop:=q.1<=q.2.1/\q.2.1<=la/\q.2.2.1<=q.2.2.2/\q.2.2.2<=lb
theorem Xkn{fl:Nat->Nat->Nat->Nat->Tri}{q:Win}(hk:(fl q.1 q.2.1 q.2.2.1 q.2.2.2).2.2=0):mbW fl q=[]:=by
 unfold mbW
 cases q.2.1 - q.1 with
 | zero=>rfl
 | succ g=>rw [mbF];rw [if_pos hk]
theorem Xiw{fl:Nat->Nat->Nat->Nat->Tri}(ok:Xch fl){q:Win}(h1:q.1<=q.2.1)(h2:q.2.2.1<=q.2.2.2)(hk:(fl q.1 q.2.1 q.2.2.1 q.2.2.2).2.2≠0) :
  mbW fl q=(if q.1<(fl q.1 q.2.1 q.2.2.1 q.2.2.2).1/\q.2.2.1<(fl q.1 q.2.1 q.2.2.1 q.2.2.2).2.1 then mbW fl (q.1,(fl q.1 q.2.1 q.2.2.1 q.2.2.2).1,q.2.2.1,(fl q.1 q.2.1 q.2.2.1 q.2.2.2).2.1) else [])++fl q.1 q.2.1 q.2.2.1 q.2.2.2 ::
   (if (fl q.1 q.2.1 q.2.2.1 q.2.2.2).1+(fl q.1 q.2.1 q.2.2.1 q.2.2.2).2.2<q.2.1/\(fl q.1 q.2.1 q.2.2.1 q.2.2.2).2.1+(fl q.1 q.2.1 q.2.2.1 q.2.2.2).2.2<q.2.2.2 then mbW fl ((fl q.1 q.2.1 q.2.2.1 q.2.2.2).1+(fl q.1 q.2.1 q.2.2.1 q.2.2.2).2.2,q.2.1,(fl q.1 q.2.1 q.2.2.1 q.2.2.2).2.1+(fl q.1 q.2.1 q.2.2.1 q.2.2.2).2.2,q.2.2.2) else []):=by
 obtain ⟨alo,ahi,blo,bhi⟩:=q
 dsimp only at *
 obtain ⟨a1,a2,a3,a4⟩:=ok alo ahi blo bhi h1 h2
 obtain ⟨g,hg⟩:∃ g,ahi - alo=g+1:=⟨ahi - alo - 1,by omega⟩
 unfold mbW
 dsimp only
 rw [hg,mbF]
 rw [if_neg hk]
 congr 1
 ·split
  ·exact Xcr ok g _ _ _ _ nofun nofun nofun
  ·rfl
 ·congr 1
  split
  ·exact Xcr ok g _ _ _ _ nofun nofun nofun
  ·rfl
def XB(s:Tri × List Tri)(t:Tri):Tri × List Tri :=
 if s.1.1+s.1.2.2=t.1/\s.1.2.1+s.1.2.2=t.2.1 then ((s.1.1,s.1.2.1,s.1.2.2+t.2.2),s.2) else (t,if s.1.2.2=0 then s.2 else s.2++[s.1])
def Xas(s:Tri × List Tri):List Tri:=if s.1.2.2=0 then s.2 else s.2++[s.1]
def Xj(fl:Nat->Nat->Nat->Nat->Tri)(la lb:Nat):List Tri:=Xas ((mbW fl (0,la,0,lb)).foldl XB ((0,0,0),[]))++[(la,lb,0)]
theorem XaX{fl:Nat->Nat->Nat->Nat->Tri}(ok:Xch fl):∀ (f alo ahi blo bhi:Nat),alo<=ahi->blo<=bhi->∀ t∈mbF fl f alo ahi blo bhi,alo<=t.1/\t.1+t.2.2<=ahi/\blo<=t.2.1/\t.2.1+t.2.2<=bhi/\0<t.2.2
 | 0,_,_,_,_,_,_,t,ht=>by cases ht
 | f+1,alo,ahi,blo,bhi,h1,h2,t,ht=>by
  obtain ⟨a1,a2,a3,a4⟩:=ok alo ahi blo bhi h1 h2
  rw [mbF] at ht
  split at ht
  ·cases ht
  ·rename_i hk
   rcases Xw5.mp ht with ht | ht
   ·split at ht
    ·have:=XaX ok f _ _ _ _ nofun nofun t ht;omega
    ·cases ht
   ·rcases Xwm.mp ht with rfl | ht
    ·omega
    ·split at ht
     ·have:=XaX ok f _ _ _ _ nofun nofun t ht;omega
     ·cases ht
def Xhg(s t:Tri):Prop:=s.1+s.2.2<=t.1/\s.2.1+s.2.2<=t.2.1
theorem Xc5{fl:Nat->Nat->Nat->Nat->Tri}(ok:Xch fl):∀ (f alo ahi blo bhi:Nat),alo<=ahi->blo<=bhi->(mbF fl f alo ahi blo bhi).Pairwise Xhg
 | 0,_,_,_,_,_,_ => .nil
 | f+1,alo,ahi,blo,bhi,h1,h2=>by
  obtain ⟨a1,a2,a3,a4⟩:=ok alo ahi blo bhi h1 h2
  rw [mbF]
  split
  ·exact .nil
  ·rename_i hk
   refine List.pairwise_append.mpr ⟨?_,Xys.mpr ⟨?_,?_⟩,?_⟩
   ·split
    ·exact Xc5 ok f _ _ _ _ nofun nofun
    ·exact .nil
   ·intro t ht
    split at ht
    ·have:=XaX ok f _ _ _ _ nofun nofun t ht;unfold Xhg;omega
    ·cases ht
   ·split
    ·exact Xc5 ok f _ _ _ _ nofun nofun
    ·exact .nil
   ·intro s hs t ht
    split at hs
    ·have hs:=XaX ok f _ _ _ _ nofun nofun s hs
     rcases Xwm.mp ht with rfl | ht
     ·unfold Xhg;omega
     ·split at ht
      ·have:=XaX ok f _ _ _ _ nofun nofun t ht;unfold Xhg;omega
      ·cases ht
    ·cases hs
theorem Xd1{fl:Nat->Nat->Nat->Nat->Tri}(ok:Xch fl):∀ (f alo ahi blo bhi:Nat),alo<=ahi->blo<=bhi->(mbF fl f alo ahi blo bhi).length<=ahi - alo
 | 0,_,_,_,_,_,_=>XwA _
 | f+1,alo,ahi,blo,bhi,h1,h2=>by
  obtain ⟨a1,a2,a3,a4⟩:=ok alo ahi blo bhi h1 h2
  rw [mbF]
  split
  ·exact XwA _
  ·rename_i hk
   rw [Xwo,Xwn]
   have l1:(if alo<(fl alo ahi blo bhi).1/\blo<(fl alo ahi blo bhi).2.1 then mbF fl f alo (fl alo ahi blo bhi).1 blo (fl alo ahi blo bhi).2.1 else []).length<=(fl alo ahi blo bhi).1 - alo:=by
    split
    ·exact Xd1 ok f _ _ _ _ nofun nofun
    ·exact XwA _
   have l2:(if (fl alo ahi blo bhi).1+(fl alo ahi blo bhi).2.2<ahi/\(fl alo ahi blo bhi).2.1+(fl alo ahi blo bhi).2.2<bhi then mbF fl f ((fl alo ahi blo bhi).1+(fl alo ahi blo bhi).2.2) ahi ((fl alo ahi blo bhi).2.1+(fl alo ahi blo bhi).2.2) bhi else []).length<=ahi - ((fl alo ahi blo bhi).1+(fl alo ahi blo bhi).2.2):=by
    split
    ·exact Xd1 ok f _ _ _ _ nofun nofun
    ·exact XwA _
   omega
def XaK(qs:List Win):Nat:=(qs.map fun q=>2 * (q.2.1 - q.1)+1).sum
theorem Xpc(qs:List Win):qs.length<=XaK qs:=by
 unfold XaK
 induction qs with
 | nil=>exact XwA _
 | cons q qs ih=>rw [Xwr,List.sum_cons,Xwn];omega
theorem Xb6(qs:List Win)(q:Win):XaK (qs++[q])=XaK qs+(2 * (q.2.1 - q.1)+1):=by
 unfold XaK
 rw [XwH,List.sum_append];simp
theorem Xis(qs rs:List Win):XaK (qs++rs)=XaK qs+XaK rs:=by
 unfold XaK
 rw [XwH,List.sum_append]
theorem Xpe{ms qs lw rw T:List Tri}{t:Tri}(h:((ms++qs)++(lw++t::rw)).Perm T):((ms++[t])++((qs++lw)++rw)).Perm T:=by
 refine Xxd.trans (List.perm_iff_count.mpr fun x=>?_) h
 simp only [List.count_append,List.count_cons,List.count_nil]
 omega
theorem Xg6{c:Prop}[Decidable c]{α β:Type}(f:α->List β)(x:α):(if c then [x] else []).flatMap f=if c then f x else []:=by
 split <;> simp
theorem Xn8{fl:Nat->Nat->Nat->Nat->Tri}(ok:Xch fl){q:Win}(h1:q.1<=q.2.1)(h2:q.2.2.1<=q.2.2.2):(mbW fl q).Pairwise fun s t=>s.1<t.1 :=
 (Xc5 ok (q.2.1 - q.1) q.1 q.2.1 q.2.2.1 q.2.2.2 h1 h2).imp_of_mem fun {s t} hs _ h=>by
  have:=XaX ok _ _ _ _ _ h1 h2 s hs
  have:=h.1
  omega
theorem XfR(s:Tri × List Tri)(t:Tri):(XB s t).2.length<=s.2.length+1:=by
 unfold XB
 split
 ·exact Nat.le_succ _
 ·dsimp only
  split
  ·exact Nat.le_succ _
  ·simp
section
open PySem PyProof.Rows
section
variable{prog:Xwx}{w:XwE}{A:Xww}{E:Value->Xwl->Prop}{s:Xwl}{a₀:Array Keyed}{key:Keyed->Nat}
def Xez(prog:Xwx)(w:XwE)(A:Xww)(E:Value->Xwl->Prop)(s:Xwl)(a₀:Array Keyed)(key:Keyed->Nat):Prop :=
 ∀ x∈a₀.toList,∀ y∈a₀.toList,∀ (Q:Option Bool->SortSt->Prop) (st:SortSt),kindOf st=oneType'->Q (some (decide (key x<key y))) st->wpS (XwD prog w) A E s (lt' x y) Q st
def Kat(key:Keyed->Nat)(xs:Array Keyed)(i:Nat):Nat:=match xs[i]? with
 | some p=>key p
 | none=>0
theorem XcO{xs ys:Array Keyed}{i j:Nat}(h:xs[i]? = ys[j]?):Kat key xs i=Kat key ys j:=by unfold Kat;rw [h]
def Up(key:Keyed->Nat)(xs:Array Keyed)(k:Nat):Prop:=∀ i j,i<j->j<k->Kat key xs i<Kat key xs j
def Down(key:Keyed->Nat)(xs:Array Keyed)(k:Nat):Prop:=∀ i j,i<j->j<k->Kat key xs j<Kat key xs i
def Xck(key:Keyed->Nat)(xs:Array Keyed):Prop:=∀ i j,i<j->j<xs.size->Kat key xs i≠Kat key xs j
theorem XfQ{xs:Array Keyed}:Xck key xs↔(xs.toList.map key).Nodup:=by
 have hk:∀ i (h:i<xs.size),Kat key xs i=key xs[i]:=fun i h=>by unfold Kat;rw [getElem?_pos xs i h]
 unfold List.Nodup
 rw [List.pairwise_iff_getElem]
 constructor
 ·intro h i j hi hj hij
  simp only [Xwi,XxB] at hi hj
  have:=h i j hij hj
  rw [hk i hi,hk j hj] at this
  simpa using this
 ·intro h i j hij hj
  have:=h i j (by simp;omega) (by simp;omega) hij
  rw [hk i nofun,hk j hj]
  simpa using this
theorem SBase.apart{st:SortSt}(h:SBase a₀ st)(hd:Xck key a₀):Xck key (arrOf st):=by
 rw [XfQ] at hd ⊢
 exact ((Xyk.mp h.perm).map key).nodup_iff.mpr hd
theorem XcF{st:SortSt}{i j:Nat}{Q:Option Bool->SortSt->Prop}(hL:Xez prog w A E s a₀ key)(hB:SBase a₀ st)(hi:i<a₀.size)(hj:j<a₀.size)
  (h:Q (some (decide (Kat key (arrOf st) i<Kat key (arrOf st) j))) st):wpS (XwD prog w) A E s (ltAt' i j) Q st:=by
 have hi':i<(arrOf st).size:=by rw [hB.size];exact hi
 have hj':j<(arrOf st).size:=by rw [hB.size];exact hj
 have mi:(arrOf st)[i]∈a₀.toList:=(Xyk.mp hB.perm).mem_iff.mp (by simp)
 have mj:(arrOf st)[j]∈a₀.toList:=(Xyk.mp hB.perm).mem_iff.mp (by simp)
 have e1:(arrOf st)[i]? = some (arrOf st)[i]:=getElem?_pos _ i hi'
 have e2:(arrOf st)[j]? = some (arrOf st)[j]:=getElem?_pos _ j hj'
 unfold Kat at h
 rw [e1,e2] at h
 rw [ltAt'_eq]
 refine wpS_bind (wpS_get ?_)
 show wpS _ _ _ _ (do let x ← elem' (arrOf st) i;let y ← elem' (arrOf st) j;lt' x y) Q st
 rw [elem'_eq,elem'_eq,e1,e2]
 exact wpS_bind (wpS_pure (wpS_bind (wpS_pure (hL _ mi _ mj _ _ hB.kind h))))
theorem Xhj{xs:Array Keyed}{src d:Nat}(hs:src<xs.size)(hd:d<=src)(k:Nat) :
  Kat key (bubble xs src d) k=if k=src - d then Kat key xs src else if src - d<k/\k<=src then Kat key xs (k - 1) else Kat key xs k:=by
 by_cases h1:k=src - d
 ·rw [if_pos h1]
  exact XcO ((getElem?_bubble hs d hd k).trans (if_pos h1))
 ·rw [if_neg h1]
  by_cases h2:src - d<k/\k<=src
  ·rw [if_pos h2]
   exact XcO ((getElem?_bubble hs d hd k).trans ((if_neg h1).trans (if_pos h2)))
  ·rw [if_neg h2]
   exact XcO ((getElem?_bubble hs d hd k).trans ((if_neg h1).trans (if_neg h2)))
theorem Xhi{xs:Array Keyed}{i j:Nat}(hj:j<=xs.size)(k:Nat):Kat key (mirror xs i j ((j - i) / 2)) k=if i<=k/\k<j then Kat key xs (i+j - 1 - k) else Kat key xs k:=by
 by_cases h1:i<=k/\k<j
 ·rw [if_pos h1]
  exact XcO ((getElem?_mirror_all hj k).trans (if_pos h1))
 ·rw [if_neg h1]
  exact XcO ((getElem?_mirror_all hj k).trans (if_neg h1))
theorem Up.bubble{xs:Array Keyed}{k l:Nat}(hk:k<xs.size)(hl:l<=k)(hu:Up key xs k)(h1:∀ i,i<l->Kat key xs i<Kat key xs k)(h2:∀ i,l<=i->i<k->Kat key xs k<Kat key xs i):Up key (bubble xs k (k - l)) (k+1):=by
 intro i j hij hj
 rw [Xhj hk nofun,Xhj hk nofun]
 have e:k - (k - l)=l:=by omega
 rw [e]
 by_cases c1:i=l
 ·rw [if_pos c1,if_neg nofun,if_pos nofun]
  exact h2 _ nofun nofun
 ·rw [if_neg c1]
  by_cases c2:j=l
  ·rw [if_pos c2,if_neg nofun]
   exact h1 _ nofun
  ·rw [if_neg c2]
   by_cases c3:l<i/\i<=k
   ·rw [if_pos c3,if_pos nofun]
    exact hu _ _ nofun nofun
   ·rw [if_neg c3]
    by_cases c4:l<j/\j<=k
    ·rw [if_pos c4]
     exact hu _ _ nofun nofun
    ·rw [if_neg c4]
     exact hu _ _ nofun nofun
theorem Xk6{st:SortSt}{n ok:Nat}{Q:Bool->SortSt->Prop}(hL:Xez prog w A E s a₀ key)(hd:Xck key a₀)(hn:n<=a₀.size)(hok:1<=ok)(hokn:ok<=n)(hB:SBase a₀ st)(hs:Up key (arrOf st) ok)
  (h:∀ st',SBase a₀ st'->Up key (arrOf st') n->Q true st'):wpS (XwD prog w) A E s (binarySort' 0 n ok) Q st:=by
 rw [binarySort'_eq]
 refine wpS_bind (wpS_mono (wpS_forRange (β:=Option Bool × Unit) (fun k c st'=>c.fst=none/\SBase a₀ st'/\Up key (arrOf st') k) (Q:=fun c st'=>c.fst=none/\SBase a₀ st'/\Up key (arrOf st') n) ?_ ?_ ?_) ?_)
 ·rintro k ⟨c,u⟩ st' hk1 hk2 ⟨rfl,hB',hu⟩
  have hap:=SBase.apart hB' hd
  refine wpS_bind (wpS_mono (wpS_forRange (β:=Option Bool × Nat × Nat) (fun t c st''=>c.fst=none/\st''=st'/\c.snd.fst<=c.snd.snd/\c.snd.snd<=k/\c.snd.snd<=c.snd.fst+(k - t)/\(∀ i,i<c.snd.fst->Kat key (arrOf st') i<Kat key (arrOf st') k)/\(∀ i,c.snd.snd<=i->i<k->Kat key (arrOf st') k<Kat key (arrOf st') i))
   (Q:=fun c st''=>c.fst=none/\st''=st'/\c.snd.fst=c.snd.snd/\c.snd.snd<=k/\(∀ i,i<c.snd.fst->Kat key (arrOf st') i<Kat key (arrOf st') k)/\(∀ i,c.snd.snd<=i->i<k->Kat key (arrOf st') k<Kat key (arrOf st') i)) ?_ ?_ ?_) ?_)
  ·rintro t ⟨c,l,r⟩ st'' ht1 ht2 ⟨rfl,rfl,h1,h2,h3,h4,h5⟩
   dsimp only at h1 h2 h3 h4 h5 ⊢
   split
   ·rename_i hge
    exact wpS_pure ⟨rfl,rfl,by dsimp only;omega,h2,h4,h5⟩
   ·rename_i hlt
    refine wpS_bind (XcF hL hB' nofun nofun ?_)
    dsimp only
    simp only [Nat.zero_add]
    by_cases hc:Kat key (arrOf st'') k<Kat key (arrOf st'') ((l+r) / 2)
    ·rw [if_pos (by simpa using hc)]
     refine wpS_pure ⟨rfl,rfl,by dsimp only;omega,by dsimp only;omega,by dsimp only;omega,h4,fun i hi hik=>?_⟩
     rcases Xxp i r with hr | hr
     ·rcases Nat.eq_or_lt_of_le hi with rfl | hi
      ·exact hc
      ·exact Nat.lt_trans hc (hu _ _ hi hik)
     ·exact h5 i hr hik
    ·rw [if_neg (by simpa using hc)]
     refine wpS_pure ⟨rfl,rfl,by dsimp only;omega,by dsimp only;omega,by dsimp only;omega,fun i hi=>?_,h5⟩
     have hne:=hap ((l+r) / 2) k nofun (by rw [hB'.size];omega)
     have hlt:Kat key (arrOf st'') ((l+r) / 2)<Kat key (arrOf st'') k:=by omega
     dsimp only at hi
     rcases Xxp i ((l+r) / 2) with hr | hr
     ·exact Nat.lt_trans (hu _ _ hr nofun) hlt
     ·have:i=(l+r) / 2:=by omega
      subst this
      exact hlt
  ·rintro ⟨c,l,r⟩ st'' ⟨rfl,rfl,h1,h2,h3,h4,h5⟩
   dsimp only at h1 h2 h3 h4 h5 ⊢
   exact ⟨rfl,rfl,by omega,h2,h4,h5⟩
  ·exact ⟨rfl,rfl,by dsimp only;omega,by dsimp only;omega,by dsimp only;omega,fun i hi=>by dsimp only at hi;omega,fun i h1 h2=>by dsimp only at h1;omega⟩
  ·rintro ⟨c,l,r⟩ st'' ⟨rfl,rfl,h1,h2,h4,h5⟩
   dsimp only at h1 h2 h4 h5 ⊢
   subst h1
   rw [moveDown'_eq]
   refine wpS_bind (wpS_modify (wpS_pure ⟨rfl,hB'.setArr (bubble_perm ..),?_⟩))
   simp only [Nat.zero_add]
   exact Up.bubble (by rw [hB'.size];omega) h2 hu h4 h5
 ·rintro ⟨c,u⟩ st' ⟨rfl,hB',hu⟩
  have e:max (max ok 1) n=n:=by omega
  rw [e] at hu
  exact ⟨rfl,hB',hu⟩
 ·have e:max ok 1=ok:=by omega
  rw [e]
  exact ⟨rfl,hB,hs⟩
 ·rintro ⟨c,u⟩ st' ⟨rfl,hB',hu⟩
  exact wpS_pure (h st' hB' hu)
end
end
section
open PySem PyProof.Rows
section
variable{prog:Xwx}{w:XwE}{A:Xww}{E:Value->Xwl->Prop}{s:Xwl}{a₀:Array Keyed}{key:Keyed->Nat}
theorem Up.one{xs:Array Keyed}:Up key xs 1:=fun i j h1 h2=>by omega
theorem Down.mirror{xs:Array Keyed}{n:Nat}(hn:n<=xs.size)(h:Down key xs n):Up key (mirror xs 0 n ((n - 0) / 2)) n:=fun i j hij hj=>by
 rw [Xhi hn,Xhi hn,if_pos ⟨XwA _,by omega⟩,if_pos ⟨XwA _,by omega⟩]
 exact h _ _ nofun nofun
theorem Xjk{st:SortSt}{a nrem:Nat}{Q:AscSt->SortSt->Prop}(hL:Xez prog w A E s a₀ key)(hd:Xck key a₀)(hn:nrem<=a₀.size)(ha:1<=a)(han:a<=nrem)(hB:SBase a₀ st)(hs:Up key (arrOf st) a)
  (h:∀ n,a<=n->n<=nrem->Up key (arrOf st) n->(n=nrem∨Kat key (arrOf st) n<Kat key (arrOf st) (n - 1))->Q (none,n) st):wpS (XwD prog w) A E s (ascLoop a nrem) Q st:=by
 have hap:=SBase.apart hB hd
 unfold ascLoop
 refine wpS_forRange (fun x c st'=>c=(none,x)/\st'=st/\Up key (arrOf st) x) ?_ ?_ ⟨rfl,rfl,hs⟩
 ·rintro x c st' h1 h2 ⟨rfl,rfl,hu⟩
  refine wpS_bind (XcF hL hB nofun (by dsimp only;omega) ?_)
  dsimp only
  by_cases hc:Kat key (arrOf st') x<Kat key (arrOf st') (x - 1)
  ·rw [decide_eq_true hc]
   exact wpS_pure (h x h1 nofun hu (.inr hc))
  ·rw [decide_eq_false hc]
   refine wpS_pure ⟨rfl,rfl,fun i j hij hj=>?_⟩
   rcases Xxp j x with hx | hx
   ·exact hu i j hij hx
   ·have:j=x:=by omega
    subst this
    have hne:=hap (j - 1) j nofun (by rw [hB.size];omega)
    have hlt:Kat key (arrOf st') (j - 1)<Kat key (arrOf st') j:=by omega
    rcases Xxp i (j - 1) with hi | hi
    ·exact Nat.lt_trans (hu i (j - 1) hi nofun) hlt
    ·have:i=j - 1:=by omega
     subst this;exact hlt
 ·rintro c st' ⟨rfl,rfl,hu⟩
  have e:max a nrem=nrem:=by omega
  rw [e] at hu ⊢
  exact h nrem han (XwN _) hu (.inl rfl)
theorem XoN{st:SortSt}{n nrem:Nat}{Q:Option Nat->SortSt->Prop}(hL:Xez prog w A E s a₀ key)(hd:Xck key a₀)(hn:nrem<=a₀.size)(h1:1<=n)(hnn:n<=nrem)(hB:SBase a₀ st)(hs:Down key (arrOf st) n)
  (h:∀ m st',SBase a₀ st'->1<=m->m<=nrem->Up key (arrOf st') m->Q (some m) st'):wpS (XwD prog w) A E s (tail3 n nrem) Q st:=by
 unfold tail3
 have hB':SBase a₀ (setArr st (mirror (arrOf st) 0 n ((n - 0) / 2))):=hB.setArr (mirror_perm _ _ _ _)
 exact wpS_bind (wpS_reverse (wpS_bind (Xjk hL hd hn h1 hnn hB' (Down.mirror (by rw [hB.size];omega) hs) fun m a b c _=>wpS_pure (h m _ hB' nofun b c))))
theorem XoO{st:SortSt}{n nrem:Nat}{Q:DescSt->SortSt->Prop}(hL:Xez prog w A E s a₀ key)(hd:Xck key a₀)(hn:nrem<=a₀.size)(h1:1<=n)(hnn:n<=nrem)(hB:SBase a₀ st)(hs:Down key (arrOf st) n)
  (h:∀ m,n<=m->m<=nrem->Down key (arrOf st) m->Q (none,m,0) st):wpS (XwD prog w) A E s (descLoop n nrem) Q st:=by
 have hap:=SBase.apart hB hd
 unfold descLoop
 refine wpS_forRange (fun x c st'=>c=(none,x,0)/\st'=st/\Down key (arrOf st) x) ?_ ?_ ⟨rfl,rfl,hs⟩
 ·rintro x c st' h2 h3 ⟨rfl,rfl,hu⟩
  refine wpS_bind (XcF hL hB (by dsimp only;omega) (by dsimp only;omega) ?_)
  dsimp only
  by_cases hc:Kat key (arrOf st') x<Kat key (arrOf st') (x - 1)
  ·rw [decide_eq_true hc]
   simp only [if_true]
   rw [if_neg nofun]
   refine wpS_pure ⟨rfl,rfl,fun i j hij hj=>?_⟩
   rcases Xxp j x with hx | hx
   ·exact hu i j hij hx
   ·have:j=x:=by omega
    subst this
    rcases Xxp i (j - 1) with hi | hi
    ·exact Nat.lt_trans hc (hu i (j - 1) hi nofun)
    ·have:i=j - 1:=by omega
     subst this;exact hc
  ·rw [decide_eq_false hc]
   simp only [XwX,if_false]
   refine wpS_bind (XcF hL hB nofun nofun ?_)
   have hne:=hap (x - 1) x nofun (by rw [hB.size];omega)
   have hlt:Kat key (arrOf st') (x - 1)<Kat key (arrOf st') x:=by omega
   dsimp only
   rw [decide_eq_true hlt]
   simp only [if_true]
   exact wpS_pure (h x h2 nofun hu)
 ·rintro c st' ⟨rfl,rfl,hu⟩
  have e:max n nrem=nrem:=by omega
  rw [e] at hu ⊢
  exact h nrem hnn (XwN _) hu
theorem XiO{st:SortSt}{n nrem:Nat}{Q:Option Nat->SortSt->Prop}(hL:Xez prog w A E s a₀ key)(hd:Xck key a₀)(hn:nrem<=a₀.size)(hnn:n+1<=nrem)(hB:SBase a₀ st)(hs:Down key (arrOf st) (n+1))
  (h:∀ m st',SBase a₀ st'->1<=m->m<=nrem->Up key (arrOf st') m->Q (some m) st'):wpS (XwD prog w) A E s (descPart n nrem) Q st:=by
 unfold descPart
 refine wpS_bind (wpS_lift (XxC ⟨rfl,wpS_bind (XoO hL hd hn nofun hnn hB hs fun m a b c=>?_)⟩))
 dsimp only
 rw [if_neg nofun]
 exact XoN hL hd hn nofun b hB c h
theorem XiP{st:SortSt}{nrem:Nat}{Q:Option Nat->SortSt->Prop}(hL:Xez prog w A E s a₀ key)(hd:Xck key a₀)(hn:nrem<=a₀.size)(h1:1<=nrem)(hB:SBase a₀ st)
  (h:∀ m st',SBase a₀ st'->1<=m->m<=nrem->Up key (arrOf st') m->Q (some m) st'):wpS (XwD prog w) A E s (countRun' 0 nrem) Q st:=by
 rw [countRun0_eq]
 refine wpS_bind (Xjk hL hd hn (XwN _) h1 hB Up.one fun n a b c e=>?_)
 dsimp only
 by_cases hnn:n=nrem
 ·rw [if_pos (by simpa using hnn)]
  exact wpS_pure (h n st hB a b c)
 ·rw [if_neg (by simpa using hnn)]
  have hlt:=e.resolve_left hnn
  by_cases hgt:n > 1
  ·rw [if_pos hgt]
   refine wpS_bind (XcF hL hB nofun nofun ?_)
   rw [decide_eq_true (c 0 (n - 1) nofun nofun)]
   dsimp only
   simp only [if_true]
   exact wpS_pure (h n st hB a b c)
  ·rw [if_neg hgt]
   have:n=1:=by omega
   subst this
   refine XiO hL hd hn nofun hB (fun i j hij hj=>?_) h
   have hi:i=0:=by omega
   have hj:j=1:=by omega
   subst hi;subst hj;exact hlt
def OneRun(key:Keyed->Nat)(a₀:Array Keyed)(st:SortSt):Prop:=(arrOf st).Perm a₀/\failedOf st=none/\pendingOf st = #[(0,a₀.size,0)]/\Up key (arrOf st) a₀.size
theorem OneRun.of{st:SortSt}(hB:SBase a₀ st)(hs:Up key (arrOf st) a₀.size):OneRun key a₀ (setPending st ((pendingOf st).push (0,a₀.size,0))):=⟨hB.perm,hB.failed,by
 show (pendingOf st).push (0,a₀.size,0)=_
 rw [hB.pend];rfl,hs⟩
theorem Xn6{n:Nat}(h2:2<=n)(h64:n<64):minRun' n n 0=n:=by
 cases n with
 | zero=>omega
 | succ f=>rw [minRun'_succ,if_pos h64]
theorem XiN{st:SortSt}{Q:Unit->SortSt->Prop}(hL:Xez prog w A E s a₀ key)(hd:Xck key a₀)(hB:SBase a₀ st)(h2:2<=a₀.size)(h64:a₀.size<64)
  (h:∀ st',(arrOf st').Perm a₀->failedOf st'=none->Up key (arrOf st') a₀.size->Q () st'):wpS (XwD prog w) A E s sortRuns' Q st:=by
 rw [sortRuns'_eq]
 refine wpS_bind (wpS_get ?_)
 simp only [hB.size,Xn6 h2 h64]
 refine wpS_bind (wpS_mono (wpS_forRange (Q:=fun c st'=>c=(none,a₀.size)/\OneRun key a₀ st')
  (fun x c st'=>(c=(none,0)/\x=0/\SBase a₀ st')∨(c=(none,a₀.size)/\1<=x/\OneRun key a₀ st')) ?_ ?_ (.inl ⟨rfl,rfl,hB⟩)) ?_)
 ·rintro x c st' _ hx (⟨rfl,rfl,hB'⟩ | ⟨rfl,hx1,hO⟩)
  ·dsimp only
   rw [if_neg nofun]
   simp only [Nat.sub_zero,Nat.zero_add,Nat.min_self]
   refine wpS_bind (XiP hL hd (XwN _) nofun hB' fun m st1 hB1 m1 m2 hs1=>?_)
   dsimp only
   by_cases hlt:m<a₀.size
   ·rw [if_pos hlt]
    refine wpS_bind (wpS_lift (XxC ⟨rfl,wpS_bind (Xk6 hL hd (XwN _) m1 m2 hB1 hs1 fun st2 hB2 hs2=>?_)⟩))
    simp only [Bool.not_true,XwX,if_false]
    refine wpS_bind (wpS_get ?_)
    rw [show (pendingOf st2).back? = none from by rw [hB2.pend];rfl]
    exact wpS_bind (wpS_modify (wpS_pure (.inr ⟨rfl,by omega,.of hB2 hs2⟩)))
   ·rw [if_neg hlt]
    have:m=a₀.size:=by omega
    subst this
    refine wpS_bind (wpS_get ?_)
    rw [show (pendingOf st1).back? = none from by rw [hB1.pend];rfl]
    exact wpS_bind (wpS_modify (wpS_pure (.inr ⟨rfl,by omega,.of hB1 hs1⟩)))
  ·dsimp only
   rw [if_pos (XwN _)]
   exact wpS_pure ⟨rfl,hO⟩
 ·rintro c st' (⟨_,hx,_⟩ | ⟨hc,_,hO⟩)
  ·omega
  ·exact ⟨hc,hO⟩
 ·rintro c st' ⟨rfl,hO⟩
  dsimp only
  refine wpS_bind (wpS_mono (wpS_forRange (Q:=fun c st''=>c=(none,())/\st''=st') (fun _ c st''=>c=(none,())/\st''=st') ?_ (fun _ _ q=>q) ⟨rfl,rfl⟩) ?_)
  ·rintro x c st'' _ _ ⟨rfl,rfl⟩
   refine wpS_bind (wpS_get ?_)
   rw [if_pos (by rw [hO.2.2.1];exact XwN 1)]
   exact wpS_pure ⟨rfl,rfl⟩
  ·rintro c st'' ⟨rfl,rfl⟩
   exact wpS_pure (h _ hO.1 hO.2.1 hO.2.2.2)
end
end
section
open PySem PySem.W PyProof.Rows
structure MatLt (prog:Xwx) (w:XwE) (K:Frag) (C:XwR):Prop where
 lt:Xxa K ⟨prog,w.params⟩ (Xxz (.ref C) "__lt__")=some (some (.builtin "tuple.__lt__"))
 sub:Xxa K ⟨prog,w.params⟩ (XyI (.ref C) (.type "tuple"))=some true
theorem Xla(x y:Value):Builtin.«tuple.__lt__» ⟨[x,y],[]⟩=(do
  if !(← isInstance y (.type "tuple")) then return ← ret .notImplemented
  let xs ← Builtin.Tuple.tupleItemsOf x
  let ys ← Builtin.Tuple.tupleItemsOf y
  for (p,q) in xs.toList.zip ys.toList do
   if !(← eqBool p q) then
    rule "tuple.compare.by-the-first-pair-that-differs";return ← ret (← richCompare .Lt p q)
  ret (Builtin.Tuple.tupleCompareSizes .Lt xs.size ys.size)):=rfl
section
variable{prog:Xwx}{w:XwE}{A:Xww}{K:Frag}{E:Value->Xwl->Prop}{s:Xwl}
theorem Xuj{C a b d e:XwR}{i j k i' j' k':Int}{t1 t2 t3 u1 u2 u3:Tok}{n m:Nat}{Q:Bool->Xwl->Prop}(ok:MatLt prog w K C)(X:K.In s.heap)(hu:A.units<cLine)
  (ha:s.heap.get? a=some {cls := .ref C,dict:=some d,data := .seq #[.int i t1,.int j t2,.int k t3] n})
  (hb:s.heap.get? b=some {cls := .ref C,dict:=some e,data := .seq #[.int i' u1,.int j' u2,.int k' u3] m})
  (hne:i=i'->j=j'/\k=k') (hQ:Q (decide (i<i')) s):XwG (XwD prog w) A (oneLt' true (.ref a) (.ref b)) Q E s:=by
 have tl:Looks (XwD prog w) s.heap (typeOf (.ref a)) (.ref C):=(Looks.ld ha).andThen .now
 have tb:Looks (XwD prog w) s.heap (typeOf (.ref b)) (.ref C):=(Looks.ld hb).andThen .now
 have hc:XwG (XwD prog w) A (call (.builtin "tuple.__lt__") [.ref a,.ref b]) (fun v s'=>v = .bool (decide (i<i'))/\s'=s) (fun _ _=>False) s:=by
  refine Xyl (Xx3 F.slot_tuple_lt.plain F.entry_tuple_lt (check_slot (i := "tuple.__lt__") (owner := "tuple") (n := "__lt__") (by decide +kernel) (by decide +kernel) (tl.andThen (XyF X ok.sub)) (F.args_tuple_lt_2 _ _) ?_))
  rw [Xla]
  refine Xwe ?_
  unfold isInstance
  refine Xwe (tb.here (XaS X ok.sub ?_))
  refine Xxl rfl ?_
  refine Xwe (wpAny_tupleItemsOf ha rfl (Xwe (wpAny_tupleItemsOf hb rfl ?_)))
  simp only [Xyr,List.zip_nil_right,List.forIn_cons,List.forIn_nil]
  refine Xwe (Xwe (Xwe (wpAny_eqBool_int ?_)))
  by_cases q:i=i'
  ·obtain ⟨rfl,rfl⟩:=hne q
   subst q
   simp only [beq_self_eq_true,Bool.not_true,XwX,if_false]
   refine Xwg ?_
   dsimp only
   refine Xwe (Xwe (wpAny_eqBool_int ?_))
   simp only [beq_self_eq_true,Bool.not_true,XwX,if_false]
   refine Xwg ?_
   dsimp only
   refine Xwe (Xwe (wpAny_eqBool_int ?_))
   simp only [beq_self_eq_true,Bool.not_true,XwX,if_false]
   refine Xwg ?_
   dsimp only
   refine Xwg (Xwg ⟨?_,rfl⟩)
   rw [decide_eq_false nofun]
   rfl
  ·have hq:(i == i')=false:=beq_eq_false_iff_ne.mpr q
   simp only [hq,Bool.not_false,if_true]
   refine Xwe (XxC (Xwe (PyProof.Rows.lt_int ?_)))
   exact Xwe (Xwg (Xwg (Xwg (Xwg ⟨rfl,rfl⟩))))
 rw [oneLt'_eq]
 simp only [if_true]
 refine Xwe (wpAny_cRoomFor hu ?_)
 simp only [callSpecialIfBound?,bindSpecialIfBound?]
 refine Xwe (Xwt (Xwe ?_))
 unfold specialOf
 refine Xwe (Xwe (tl.here (XaS X ok.lt ?_)))
 simp only [F.slot_tuple_lt.bind]
 refine Xwe (wpAny_askSetting (wpAny_ite ?_))
 split
 ·refine Xwe (Xwg (Xwg ?_))
  refine Xwe (Xw8 hc (fun v s' h'=>?_) fun _ _ h'=>h'.elim)
  obtain ⟨rfl,rfl⟩:=h'
  exact Xwg (wpAny_truthy_bool hQ)
 ·refine wpAny_tryCatch (Xwe (Xwg (Xwg ?_)))
  refine Xwe (Xw8 hc (fun v s' h'=>?_) fun _ _ h'=>h'.elim)
  obtain ⟨rfl,rfl⟩:=h'
  exact Xwg (wpAny_truthy_bool hQ)
end
end
section
open PySem PySem.W PyProof.Rows
section
variable{prog:Xwx}{w:XwE}{A:Xww}{E:Value->Xwl->Prop}{s:Xwl}{key:Keyed->Nat}
def Xdf(a:XwR)(h h':Heap):Prop:=∀ b o,b≠a->h.get? b=some o->h'.get? b=some o
theorem Xlb{h:Heap}{a:XwR}{vs:List Value}{out:Array Value}:Xdf a h (sortedHeap h a vs out):=fun b o hb e=>by
 unfold sortedHeap
 rw [Heap.get?_update_ne _ _ _ _ hb]
 refine Xwq _ (Xwq _ ?_)
 rw [Heap.get?_update_ne _ _ _ _ hb]
 exact e
theorem Xoe{a:XwR}{vs:List Value}{n:Nat}{P:PySem.Fin->Xwl->Prop}(ho:s.heap.get? a=some (seqObj "list" vs.toArray n))(hsz:vs.length<64)(hd:Xck key (pairsOf vs))
  (hL:∀ h',Xdf a s.heap h'->Xez prog w A E {s with heap:=h' } (pairsOf vs) key)
  (hK:∀ h',Xdf a s.heap h'->2<=vs.length->∀ Q:SortKind->Xwl->Prop,Q oneType' { s with heap:=h' }->XwG (XwD prog w) A (keyKind' vs.toArray) Q E {s with heap:=h' })
  (h:∀ out:Array Keyed,out.Perm (pairsOf vs)->Up key out (pairsOf vs).size->P (.done (.ret .none)) {s with heap:=sortedHeap s.heap a vs (out.map (·.2))}) :
  XwG (XwD prog w) A (Builtin.«list.sort» ⟨[.ref a],[]⟩) P E s:=by
 have hlt:=Xw7 ho
 have hps:(pairsOf vs).size=vs.length:=pairsOf_size vs
 rw [list_sort_plain]
 refine Xwe (listItems_at ho rfl (Xwe (listUpdate_at ho rfl ?_ (by rw [List.size_toArray,Xxs];omega) (XwA _))))
 obtain ⟨e,he⟩:∃ e,(s.heap.update a (Xw6 fun _=>(#[]:Array Value))).get? a=some (seqObj "list" #[] e):=⟨_,get?_update_seq ho _⟩
 refine Xwe (seqEpoch_at he rfl (Xwe (wpAny_newTuple (Xwe (wpAny_newList (Xwt ?_) (XwA _))) (by show vs.length<=_;rw [Xxs];omega))))
 have hk:Xdf a s.heap (((s.heap.update a (Xw6 fun _=>(#[]:Array Value))).push (seqObj "tuple" vs.toArray 0)).push (seqObj "list" #[] 0)):=fun b o hb q=>by
  refine Xwq _ (Xwq _ ?_)
  rw [Heap.get?_update_ne _ _ _ _ hb]
  exact q
 have he':(((s.heap.update a (Xw6 fun _=>(#[]:Array Value))).push (seqObj "tuple" vs.toArray 0)).push (seqObj "list" #[] 0)).get? a=some (seqObj "list" #[] e):=Xwq _ (Xwq _ he)
 show XwG (XwD prog w) A _ P E {s with heap:=((s.heap.update a (Xw6 fun _=>(#[]:Array Value))).push (seqObj "tuple" vs.toArray 0)).push (seqObj "list" #[] 0)}
 have fin:∀ st':SortSt,failedOf st'=none->(arrOf st').Perm (pairsOf vs)->Up key (arrOf st') (pairsOf vs).size ->
   XwG (XwD prog w) A (do
    let touched:=(← seqEpoch a) != e
    Builtin.List.listUpdate (.ref a) fun _=>(arrOf st').map (·.2)
    if let some x:=failedOf st' then rule "list.sort.comparison-raised";throw x
    if touched then rule "list.sort.modified";raiseError "ValueError" "list modified during sort"
    ret .none) P E {s with heap:=((s.heap.update a (Xw6 fun _=>(#[]:Array Value))).push (seqObj "tuple" vs.toArray 0)).push (seqObj "list" #[] 0)}:=fun st' hf hp hu=>by
  refine Xwe (seqEpoch_at he' rfl (Xwe (listUpdate_at he' rfl ?_ (XwA _) (by rw [Array.size_map,hp.size_eq,hps,Xxs];omega))))
  rw [hf]
  simp only [bne_self_eq_false,XwX,if_false]
  exact Xwg (h _ hp hu)
 dsimp only at fin ⊢
 by_cases h2:vs.length<2
 ·have h2':vs.toArray.size<2:=by rw [List.size_toArray];exact h2
  rw [if_pos h2',if_pos h2']
  refine Xwe (Xwg ?_)
  rw [StateT.run_pure]
  exact Xwe (Xwg (fin (SortSt.mk' general' (pairsOf vs) #[] 7 none) rfl (Array.Perm.refl _) fun i j hij hj=>by omega))
 ·have h2' : ¬ vs.toArray.size<2:=by rw [List.size_toArray];exact h2
  rw [if_neg h2',if_neg h2']
  refine Xwe (hK _ hk nofun _ ?_)
  refine Xwe (Xw8 (XiN (st:=SortSt.mk' oneType' (pairsOf vs) #[] 7 none) (Q:=fun _ st'=>failedOf st'=none/\(arrOf st').Perm (pairsOf vs)/\Up key (arrOf st') (pairsOf vs).size)
   (hL _ hk) hd ⟨Array.Perm.refl _,rfl,rfl,rfl⟩ nofun nofun fun st' a1 a2 a3=>⟨a2,a1,a3⟩) ?_ fun _ _ q=>q)
  rintro ⟨⟨⟩,st'⟩ s' ⟨rfl,hf,hp,hu⟩
  exact fin st' hf hp hu
end
theorem XdL(vs:List Value):(pairsOf vs).toList=vs.map fun v=>(v,v):=by
 rw [pairsOf_toList]
 induction vs with
 | nil=>rfl
 | cons v vs ih=>rw [Xyr,Xwr,ih]
theorem Vals.mem{Z:Frz}:∀ {xs:List AV} {vs:List Value},Vals Z xs vs->∀ v∈vs,∃ x∈xs,Val Z x v
 | _,_,.nil,v,h=>by cases h
 | _,_,.cons h t,v,hv=>by
  rcases Xwm.mp hv with rfl | hv
  ·exact ⟨_,Xwf ..,h⟩
  ·obtain ⟨x,hx,q⟩:=t.mem v hv
   exact ⟨x,Xwh _ hx,q⟩
theorem Vals.perm{Z:Frz}{α:Type}{f:α->AV}{vs us:List Value}(p:vs.Perm us):∀ {ts:List α},Vals Z (ts.map f) vs->∃ rs:List α,rs.Perm ts/\Vals Z (rs.map f) us:=by
 induction p with
 | nil=>intro ts h;exact ⟨ts,.refl _,h⟩
 | cons x p ih =>
  intro ts h
  cases ts with
  | nil=>cases h
  | cons t ts =>
   rw [Xwr] at h
   cases h with
   | cons h1 h2 =>
    obtain ⟨rs,pr,hr⟩:=ih h2
    exact ⟨t::rs,pr.cons _,.cons h1 hr⟩
 | swap x y l =>
  intro ts h
  cases ts with
  | nil=>cases h
  | cons t ts=>cases ts with
   | nil=>rw [Xwr] at h;cases h with | cons h1 h2=>cases h2
   | cons r ts =>
    rw [Xwr,Xwr] at h
    cases h with
    | cons h1 h2=>cases h2 with
     | cons h2 h3=>exact ⟨r::t::ts,.swap ..,.cons h2 (.cons h1 h3)⟩
 | trans p q ih1 ih2 =>
  intro ts h
  obtain ⟨rs,pr,hr⟩:=ih1 h
  obtain ⟨qs,pq,hq⟩:=ih2 hr
  exact ⟨qs,pq.trans pr,hq⟩
theorem Xtj{ts:List Tri}(hn:(ts.map (·.1)).Nodup):∀ {t r:Tri},t∈ts->r∈ts->t.1=r.1->t=r:=by
 induction ts with
 | nil=>intro t r ht;cases ht
 | cons x xs ih =>
  intro t r ht hr e
  rw [Xwr,Xwz] at hn
  rcases Xwm.mp ht with rfl | ht' <;> rcases Xwm.mp hr with rfl | hr'
  ·rfl
  ·exact absurd (e ▸ XwC hr') hn.1
  ·exact absurd (e ▸ XwC ht') hn.1
  ·exact ih hn.2 ht' hr' e
def XcB(C:XwR)(t:Tri):AV := .mat C [.int t.1,.int t.2.1,.int t.2.2]
def Xh3(Z:Frz)(p:Keyed):Nat:=match p.1 with
 | .ref x=>match Z x with
  | some o=>match o.data with
   | Data.seq items _=>match items[0]? with
    | some (Value.int i _)=>i.toNat
    | _=>0
   | _=>0
  | none=>0
 | _=>0
theorem Xfr{Z:Frz}{C:XwR}{t:Tri}{v:Value}(h:Val Z (XcB C t) v):∃ a d n t1 t2 t3,v = .ref a/\Z a=some {cls := .ref C,dict:=some d,data := .seq #[.int t.1 t1,.int t.2.1 t2,.int t.2.2 t3] n}:=by
 unfold XcB at h
 cases h with
 | mat e hv =>
  cases hv with
  | cons h1 hv=>cases hv with
   | cons h2 hv=>cases hv with
    | cons h3 hv =>
     cases hv
     cases h1;cases h2;cases h3
     exact ⟨_,_,_,_,_,_,rfl,e⟩
theorem Xgv{Z:Frz}{C:XwR}{t:Tri}{v u:Value}(h:Val Z (XcB C t) v):Xh3 Z (v,u)=t.1:=by
 obtain ⟨a,d,n,t1,t2,t3,rfl,e⟩:=Xfr h
 unfold Xh3
 simp only [e]
 rfl
section
variable{prog:Xwx}{w:XwE}{A:Xww}{K:Frag}{env:Env}
theorem XpR{C a:XwR}{ts us:List Tri}{loc:List (Str × AV)}{led led':Led}{R:AV->St->Prop}{k:Nat}(ok:MatLt prog w K C)(hA:Room A (k+10))(hp:us.Perm ts)(hs:us.Pairwise fun s t=>s.1<t.1)(hsz:ts.length<64)
  (U:Upd a (.list (ts.map (XcB C))) (.list (us.map (XcB C))) led led') (h:R .none ⟨loc,led'⟩):FC prog w A (Xg K) env (.blt "list.sort") [.ref a] [] ⟨loc,led⟩ R:=fun s Z fx ys ks hf hx hk S Q E hQ=>by
 cases hf
 cases hk
 cases hx with
 | cons hv hx =>
  cases hx
  cases hv
  obtain ⟨arr,n,g,vs⟩:=S.own _ U.mem
  dsimp only at g
  have hn:(ts.map (·.1)).Nodup:=by
   have:(us.map (·.1)).Nodup:=by
    rw [List.nodup_iff_pairwise_ne,List.pairwise_map]
    exact hs.imp fun h=>Xxu h
   exact (hp.map _).nodup_iff.mp this
  generalize hvs:arr.toList=vl at vs
  have harr:arr=vl.toArray:=by rw [← hvs]
  subst harr
  have hvl:vl.length=ts.length:=by simpa using vs.length
  have hkeys:∀ (rs:List Tri) (ul:List Value),Vals Z (rs.map (XcB C)) ul->ul.map (fun v=>Xh3 Z (v,v))=rs.map (·.1):=by
   intro rs
   induction rs with
   | nil=>intro ul h;cases h;rfl
   | cons r rs ih =>
    intro ul h
    rw [Xwr] at h
    cases h with
    | cons h1 h2=>rw [Xwr,Xwr,Xgv h1,ih _ h2]
  have hpairs:∀ p∈(pairsOf vl).toList,∃ v t,p=(v,v)/\t∈ts/\Val Z (XcB C t) v:=fun p hp=>by
   have e:=XdL vl
   rw [e] at hp
   obtain ⟨v,hv,rfl⟩:=XwJ.mp hp
   obtain ⟨x,hx,q⟩:=vs.mem v hv
   obtain ⟨t,ht,rfl⟩:=XwJ.mp hx
   exact ⟨v,t,rfl,ht,q⟩
  have haZ:Z a=none:=S.apart _ U.mem
  have hfr:∀ h',Xdf a s.heap h'->∀ b o,Z b=some o->h'.get? b=some o:=fun h' hk b o e=>hk b o (fun q=>by rw [q,haZ] at e;cases e) (S.frozen b o e)
  refine Xw3 slot_list_sort ⟨_,g,rfl⟩ entry_list_sort (Xoe (key:=Xh3 Z) g nofun ?_ ?_ ?_ ?_) (args_list_sort _)
  ·rw [XfQ]
   have e:(pairsOf vl).toList.map (Xh3 Z)=vl.map fun v=>Xh3 Z (v,v):=by rw [XdL,XxH];rfl
   rw [e,hkeys ts vl vs]
   exact hn
  ·intro h' hk x hx y hy Q' st hkd hq
   obtain ⟨v,t,rfl,ht,hv⟩:=hpairs x hx
   obtain ⟨u,r,rfl,hr,hu⟩:=hpairs y hy
   rw [Xgv hv,Xgv hu] at hq
   obtain ⟨a1,d1,n1,q1,q2,q3,rfl,e1⟩:=Xfr hv
   obtain ⟨a2,d2,n2,p1,p2,p3,rfl,e2⟩:=Xfr hu
   rw [lt'_eq]
   refine wpS_bind (wpS_get ?_)
   dsimp only
   rw [hkd,keyLt'_oneType]
   refine wpS_bind (wpS_lift (Xyg (Xuj ok (XT S.base (hfr h' hk)) ?_ (hfr h' hk _ _ e1) (hfr h' hk _ _ e2) (fun q=>?_) ⟨rfl,?_⟩)))
   ·have:=hA.u
    show A.units+1<cLine
    omega
   ·have q':t.1=r.1:=by exact_mod_cast q
    have:t=r:=Xtj hn ht hr q'
    subst this
    exact ⟨rfl,rfl⟩
   ·have e:decide ((t.1:Int)<(r.1:Int))=decide (t.1<r.1):=by simp
    rw [e]
    exact wpS_pure hq
  ·intro h' hk h2 Q' hq
   refine kas_kind (T := .ref C) h2 (fun v hv=>?_) rfl (by simp) hq
   obtain ⟨x,hx,q⟩:=vs.mem v hv
   obtain ⟨t,ht,rfl⟩:=XwJ.mp hx
   obtain ⟨a1,d1,n1,q1,q2,q3,rfl,e1⟩:=Xfr q
   exact (Looks.ld (hfr h' hk _ _ e1)).andThen .now
  ·intro out hperm hup
   have hpl:(out.map (·.2)).toList.Perm vl:=by
    have e:(pairsOf vl).toList.map (·.2)=vl:=by rw [XdL,XxH];exact List.map_id vl
    have:=(Xyk.mp hperm).map (fun p:Keyed=>p.2)
    rw [e] at this
    simpa using this
   obtain ⟨rs,pr,hr⟩:=Vals.perm (f:=XcB C) hpl.symm vs
   have hk1:∀ i (hi:i<out.size),out[i]=(out[i].2,out[i].2):=fun i hi=>by
    have:out[i]∈(pairsOf vl).toList:=(Xyk.mp hperm).mem_iff.mp (by simp)
    obtain ⟨v,t,e,_⟩:=hpairs _ this
    rw [e]
   have hrk:=hkeys rs _ hr
   have hsorted:rs.Pairwise fun s t=>s.1<t.1:=by
    have:(rs.map (·.1)).Pairwise (· < ·):=by
     rw [← hrk,List.pairwise_iff_getElem]
     intro i j hi hj hij
     simp only [Xwi,XxB,Array.size_map] at hi hj
     simp only [List.getElem_map,Array.getElem_toList,Array.getElem_map]
     have:=hup i j hij (by rw [← hperm.size_eq];exact hj)
     unfold Kat at this
     rw [getElem?_pos out i hi,getElem?_pos out j hj] at this
     dsimp only at this
     rw [← hk1 i hi,← hk1 j hj]
     exact this
    rw [List.pairwise_map] at this
    exact this
   have hru:rs=us:=List.Perm.eq_of_pairwise (le:=fun s t:Tri=>s.1<t.1) (fun a b _ _ h1 h2=>by omega) hsorted hs (pr.trans hp.symm)
   subst hru
   have hg':∃ n',(sortedHeap s.heap a vl (out.map (·.2))).get? a=some {cls := .type "list",data := .seq (out.map (·.2)) n' }:=by
    obtain ⟨e,he⟩:∃ e,(s.heap.update a (Xw6 fun _=>(#[]:Array Value))).get? a=some (seqObj "list" #[] e):=⟨_,get?_update_seq g _⟩
    exact ⟨_,get?_update_seq (Xwq _ (Xwq _ he)) _⟩
   obtain ⟨n',hg'⟩:=hg'
   have hkp:Xdf a s.heap (sortedHeap s.heap a vl (out.map (·.2))):=Xlb
   generalize sortedHeap s.heap a vl (out.map (·.2))=h' at hg' hkp ⊢
   generalize out.map (·.2)=ov at hg' hr
   have hh:Holds Z {s with heap:=h',toks:=s.toks} a (.list (rs.map (XcB C))):=⟨ov,n',hg',hr⟩
   have P:=S.toSimL.upd U (h':=h') (tk:=s.toks) hkp rfl rfl hh
   exact ⟨_,rfl,hQ .none .none _ Z ⟨loc,led'⟩ h (S.after P.1 P.2) .none P.2.toF⟩
end
end
abbrev Xq(t:Tri):AV:=XcB 135 t
theorem Xu5(w:XwE):MatLt P04 w (KB w.params) 135:=⟨@_,@_⟩
theorem Xss{w:XwE}{A:Xww}{env:Env}{a:XwR}{ts us:List Tri}{loc:List (Str × AV)}{led led':Led}{K:AV->St->Prop}{k:Nat}(hA:Room A (k+10))(hp:us.Perm ts)(hs:us.Pairwise fun s t=>s.1<t.1)(hsz:ts.length<64)
  (U:Upd a (.list (ts.map Xq)) (.list (us.map Xq)) led led') (h:K .none ⟨loc,led'⟩):FC P04 w A (B04 w) env (.blt "list.sort") [.ref a] [] ⟨loc,led⟩ K:=XpR (Xu5 w) hA hp hs hsz U h
section
local macro_rules | `(tactic| walk_at "recast") => `(tactic| first | exact Recast.nil | (refine' Recast.cast ?fc;(case fc=>walk_at "recast")) | (refine' Recast.keep ?fc;(case fc=>walk_at "recast")))
def Xb3(q:Win):AV := .tup [.int q.1,.int q.2.1,.int q.2.2.1,.int q.2.2.2]
def Xbv(t:Tri):AV := .tup [.int t.1,.int t.2.1,.int t.2.2]
abbrev XJ(w:XwE)(d dj jk pp:XwR)(a b:List Str)(mm:List (Str × AV))(vm vo:AV)(led:Led):Led:=(d,X7 (Xkq a b dj jk pp vm vo))::(dj,Xl (XwP P04 w) mm)::(jk,Xav)::led
abbrev XH(a b:List Str):Nat->Nat->Nat->Nat->Tri:=flm (eqs a b) (XS a b)
abbrev Xod(d qa ma:XwR)(la lb:Nat)(v1 v2 v3 v4 v5 v6 v7 v8 v9 v10 v11:AV):List (Str × AV) :=
 [(Xy6,.inst 242 d),(Xzw,v1),(Xzx,v2),(Xzy,v3),(Xzz,v4),(Xzp,v5),(XzF,v6),(Xy5,v7),(XzK,v8),(XzO,v9),(XzP,v10),(XzQ,v11),(XzH,.int lb),(XzG,.int la),(XzI,.ref qa),(XzJ,.ref ma)]
abbrev Xel(d qa na:XwR)(la lb:Nat)(us:List Tri)(t:Tri)(v1 v2 v3 v4 v5 v6 v7 v8 v9 v10 v11:AV):List (Str × AV) :=
 [(Xy6,.inst 242 d),(Xzw,v1),(Xzx,v2),(Xzy,v3),(Xzz,v4),(Xzp,v5),(XzF,v6),(Xy5,v7),(XzK,v8),(XzO,v9),(XzP,v10),(XzQ,v11),(XzH,.int lb),(XzG,.int la),(XzI,.ref qa),(XzJ,.lst (us.map Xq)),
  (XzL,.int t.1),(XzM,.int t.2.1),(⟨⟨[107,49]⟩⟩,.int t.2.2),(XzN,.ref na)]
theorem XuH{w:XwE}{A:Xww}{d dj jk pp:XwR}{vo:AV}{a b:List Str}{mm:List (Str × AV)}{led:Led}(hA:Room A 80)(ha:a.length<10 ^ 5)(hb:b.length<10 ^ 5)(hraw:(mbW (XH a b) (0,a.length,0,b.length)).length<64)
  (hds:(dj == Xx5)=false) (hmm:∀ k,(Xz mm k).getD (.lst []) = .lst (avs (XM b k))) :
  TC P04 w A (B04 w) (.ref 203) [.inst 242 d] [] (XJ w d dj jk pp a b mm .none vo led) fun v led' =>
   v = .lst ((Xj (XH a b) a.length b.length).map Xq)/\led'=XJ w d dj jk pp a b mm (.lst ((Xj (XH a b) a.length b.length).map Xq)) vo led:=by
 refine TC.weak (XaO (binds:=[(Xy6,.inst 242 d)]) (g04 w) (Xvl _) hA.lt (Binds.peek fun Z xs ks hx hk=>?_) @_ fun L hL=>?_)
 ·cases hk
  cases hx with
  | cons h1 hx =>
   cases hx
   exact ⟨_,@_,.cons h1 .nil⟩
 ·have hA':=hA.deeper (k:=77) (env:=Xa0 (XW (Xgf w.params)) L 203 202)
  have hh:=hA'.h
  have hsl:10 ^ 6<=XwZ:=by decide
  simp only [XwL,XwV,Xwv,Xws]
  refine T.spare Xzw @_ ?_
  refine T.spare Xzx @_ ?_
  refine T.spare Xzy @_ ?_
  refine T.spare Xzz @_ ?_
  refine T.spare Xzp @_ ?_
  refine T.spare XzF @_ ?_
  refine T.spare Xy5 @_ ?_
  refine T.spare XzK @_ ?_
  refine T.spare XzO @_ ?_
  refine T.spare XzP @_ ?_
  refine T.spare XzQ @_ ?_
  simp only [Xws,Xwv]
  refine XI ?_
  repeat' got_up
  refine XaY .frz (by rw [Xwi];omega) ?_
  repeat' got_up
  refine XaY .frz (by rw [Xwi];omega) ?_
  repeat' got_up
  intro qa hqa
  repeat' got_up
  intro ma hma
  repeat' got_up
  simp only [Xwi]
  have hfl:=XbP (eqs a b) (XS a b)
  refine T.mono (K:=fun f st''=>f=AFlow.next/\∃ ms:List Tri,∃ v1 v2 v3 v4 v5 v6 v7 v8 v9 v10 v11:AV,ms.Perm (mbW (XH a b) (0,a.length,0,b.length)) /\
   st''=⟨Xod d qa ma a.length b.length v1 v2 v3 v4 v5 v6 v7 v8 v9 v10 v11,(ma,.list (ms.map Xq))::(qa,.list [])::XJ w d dj jk pp a b mm .none vo led⟩) ?_ ?_
  ·refine Xcv (J:=fun n st''=>∃ ms:List Tri,∃ qs:List Win,∃ v1 v2 v3 v4 v5 v6 v7 v8 v9 v10 v11:AV,n=XaK qs/\(∀ q∈qs,Xvx a.length b.length q)/\(ms++qs.flatMap (mbW (XH a b))).Perm (mbW (XH a b) (0,a.length,0,b.length))/\XaK qs<=2 * a.length+1 /\
    st''=⟨Xod d qa ma a.length b.length v1 v2 v3 v4 v5 v6 v7 v8 v9 v10 v11,(ma,.list (ms.map Xq))::(qa,.list (qs.map Xb3))::XJ w d dj jk pp a b mm .none vo led⟩) ?_ (n:=XaK [(0,a.length,0,b.length)]) ?_
   ·rintro n st'' ⟨ms,qs,v1,v2,v3,v4,v5,v6,v7,v8,v9,v10,v11,rfl,hok,hperm,hlen,rfl⟩
    have hq1:=Xpc qs
    have hm1:ms.length<=a.length:=by
     have h1:=hperm.length_eq
     have h2:(mbF (XH a b) (a.length - 0) 0 a.length 0 b.length).length<=a.length - 0:=Xd1 hfl (a.length - 0) 0 a.length 0 b.length nofun nofun
     rw [Xwo] at h1
     unfold mbW at h1
     dsimp only at h1
     omega
    repeat' got_up
    refine Xbd (.own (xs:=qs.map Xb3) (by walk_at "mem")) (by rw [Xwi];omega) ?_
    repeat' got_up
    ·rename_i hc
     rcases Xy1 qs with rfl | ⟨qs',⟨alo,ahi,blo,bhi⟩,rfl⟩
     ·cases hc
     rw [Xy2] at *
     have hw:=hok (alo,ahi,blo,bhi) (by simp)
     obtain ⟨w1,w2,w3,w4⟩:=hw
     dsimp only at w1 w2 w3 w4
     simp only [XwH,Xwr,XyC]
     have hq2:(qs'.map Xb3).length<XwZ:=by
      rw [Xwi]
      rw [Xwo] at hq1
      omega
     refine' XtK (xs:=qs'.map Xb3) (v:=Xb3 (alo,ahi,blo,bhi)) ?hU hq2 ?_
     case hU=>walk_at "upd"
     rw [show Xb3 (alo,ahi,blo,bhi) = .tup [.int alo,.int ahi,.int blo,.int bhi] from rfl]
     repeat' got_up
     refine XtJ (led1:=XJ w d dj jk pp a b mm .none vo ((ma,.list (ms.map Xq))::(qa,.list (qs'.map Xb3))::led)) (by walk_at "perm") (XkE (hA'.mono nofun) nofun nofun w1 w2 w3 w4 hds hmm) fun v hv=>?_
     subst hv
     have hb4:=hfl alo ahi blo bhi w1 w3
     obtain ⟨b1,b2,b3,b4⟩:=hb4
     have hperm2:((ms++qs'.flatMap (mbW (XH a b)))++mbW (XH a b) (alo,ahi,blo,bhi)).Perm (mbW (XH a b) (0,a.length,0,b.length)):=by
      rw [List.flatMap_append,← XwK] at hperm
      simpa using hperm
     have hz:=Xkn (fl:=XH a b) (q:=(alo,ahi,blo,bhi))
     have hsp:=Xiw (fl:=XH a b) hfl (q:=(alo,ahi,blo,bhi)) w1 w3
     rw [Xb6] at hlen
     dsimp only at hlen hz hsp
     have hr0:XH a b alo ahi blo bhi=flm (eqs a b) (XS a b) alo ahi blo bhi:=rfl
     rw [hr0] at hz hsp
     clear hr0
     generalize hr:flm (eqs a b) (XS a b) alo ahi blo bhi=r at *
     obtain ⟨i,j,k⟩:=r
     dsimp only at *
     repeat' got_up
     ·rename_i hc
      have hk:k≠0:=fun q=>by subst q;exact absurd hc (by decide)
      have hm2:(ms.map Xq).length<=XwZ:=by rw [Xwi];omega
      have hq3:qs'.length+1<=XaK (qs'++[(alo,ahi,blo,bhi)]):=by simpa using hq1
      rw [Xb6] at hq3
      dsimp only at hq3
      have hq4:qs'.length<=2 * a.length+1:=by omega
      refine' XN (xs:=ms.map Xq) ?hU hm2 ?_
      case hU=>walk_at "upd"
      refine XI (T.mono (K:=fun f st''=>f=AFlow.next/\st''=⟨Xod d qa ma a.length b.length (.int alo) (.int ahi) (.int blo) (.int bhi) (.int i) (.int j) (.int k) (Xq (i,j,k)) v9 v10 v11,
       (ma,.list ((ms++[(i,j,k)]).map Xq))::(qa,.list ((qs'++if alo<i/\blo<j then [(alo,i,blo,j)] else []).map Xb3))::XJ w d dj jk pp a b mm .none vo led⟩) ?_ ?_)
      ·have hms:ms.map Xq++[AV.mat 135 [.int i,.int j,.int k]]=(ms++[(i,j,k)]).map Xq:=by rw [XwH];rfl
       rw [hms]
       repeat' got_up
       ·simp only [decide_eq_true_eq] at *
        rw [if_pos nofun]
        refine' XN (xs:=qs'.map Xb3) ?hU (by rw [Xwi];omega) ?_
        case hU=>walk_at "upd"
        repeat' got_up
        exact ⟨by first | rfl | trivial,by rw [XwH (l₁:=qs')];rfl⟩
       ·simp only [decide_eq_true_eq,decide_eq_false_iff_not] at *
        rw [if_neg nofun,Xxk]
        exact ⟨trivial,rfl⟩
       ·simp only [decide_eq_true_eq,decide_eq_false_iff_not] at *
        rw [if_neg nofun,Xxk]
        exact ⟨trivial,rfl⟩
      ·rintro f st'' ⟨rfl,rfl⟩
       have hL:(if alo<i/\blo<j then [(alo,i,blo,j)] else []:List Win).length<=1:=by split <;> simp
       generalize hLw:(if alo<i/\blo<j then [(alo,i,blo,j)] else []:List Win)=Lw at *
       refine XI (T.mono (K:=fun f st''=>f=AFlow.next/\st''=⟨Xod d qa ma a.length b.length (.int alo) (.int ahi) (.int blo) (.int bhi) (.int i) (.int j) (.int k) (Xq (i,j,k)) v9 v10 v11,
        (ma,.list ((ms++[(i,j,k)]).map Xq))::(qa,.list (((qs'++Lw)++if i+k<ahi/\j+k<bhi then [(i+k,ahi,j+k,bhi)] else []).map Xb3))::XJ w d dj jk pp a b mm .none vo led⟩) ?_ ?_)
       ·repeat' got_up
        ·simp only [decide_eq_true_eq] at *
         rw [if_pos nofun]
         refine' XN (xs:=(qs'++Lw).map Xb3) ?hU (by rw [Xwi,Xwo];omega) ?_
         case hU=>walk_at "upd"
         repeat' got_up
         exact ⟨by first | rfl | trivial,by rw [XwH (l₁:=qs'++Lw)];rfl⟩
        ·simp only [decide_eq_true_eq,decide_eq_false_iff_not] at *
         rw [if_neg nofun,Xxk]
         exact ⟨trivial,rfl⟩
        ·simp only [decide_eq_true_eq,decide_eq_false_iff_not] at *
         rw [if_neg nofun,Xxk]
         exact ⟨trivial,rfl⟩
       ·rintro f st'' ⟨rfl,rfl⟩
        repeat' got_up
        have hq5:XaK ((qs'++Lw)++if i+k<ahi/\j+k<bhi then [(i+k,ahi,j+k,bhi)] else [])<XaK (qs'++[(alo,ahi,blo,bhi)]):=by
         rw [Xb6,Xis,Xis,← hLw]
         dsimp only
         have e1:XaK (if alo<i/\blo<j then [(alo,i,blo,j)] else [])<=2 * (i - alo)+1:=by split <;> simp [XaK]
         have e2:XaK (if i+k<ahi/\j+k<bhi then [(i+k,ahi,j+k,bhi)] else [])<=2 * (ahi - (i+k))+1:=by split <;> simp [XaK]
         omega
        refine ⟨_,hq5,ms++[(i,j,k)],(qs'++Lw)++if i+k<ahi/\j+k<bhi then [(i+k,ahi,j+k,bhi)] else [],_,_,_,_,_,_,_,_,_,_,_,rfl,fun q hq=>?_,?_,?_,rfl⟩
        ·rcases Xw5.mp hq with hq | hq
         ·rcases Xw5.mp hq with hq | hq
          ·exact hok q (Xxf _ hq)
          ·rw [← hLw] at hq
           split at hq
           ·rw [Xwy] at hq;subst hq;exact ⟨by dsimp only;omega,by dsimp only;omega,by dsimp only;omega,by dsimp only;omega⟩
           ·cases hq
         ·split at hq
          ·rw [Xwy] at hq;subst hq;exact ⟨by dsimp only;omega,by dsimp only;omega,by dsimp only;omega,by dsimp only;omega⟩
          ·cases hq
        ·rw [List.flatMap_append,List.flatMap_append,← hLw,Xg6,Xg6]
         refine Xpe ?_
         rw [← hsp hk]
         exact hperm2
        ·have:=Xb6 qs' (alo,ahi,blo,bhi)
         dsimp only at this
         omega
     ·rename_i hc
      have hk:k=0:=by simpa using hc
      rw [hz hk,Xxk] at hperm2
      refine ⟨_,?_,ms,qs',_,_,_,_,_,_,_,_,_,_,_,rfl,fun q hq=>hok q (Xxf _ hq),hperm2,by omega,rfl⟩
      rw [Xb6];omega
    ·rename_i hc
     have hq0:qs=[]:=by
      cases qs with
      | nil=>rfl
      | cons q qs=>cases hc
     subst hq0
     rw [List.flatMap_nil,Xxk] at hperm
     exact ⟨rfl,ms,_,_,_,_,_,_,_,_,_,_,_,hperm,rfl⟩
   ·refine ⟨[],[(0,a.length,0,b.length)],_,_,_,_,_,_,_,_,_,_,_,rfl,fun q hq=>?_,by simp,by simp [XaK],rfl⟩
    rw [Xwy] at hq
    subst hq
    exact ⟨XwA _,XwN _,XwA _,XwN _⟩
  ·rintro f st'' ⟨rfl,ms,v1,v2,v3,v4,v5,v6,v7,v8,v9,v10,v11,hperm,rfl⟩
   have hus:=Xn8 hfl (q:=(0,a.length,0,b.length)) (XwA _) (XwA _)
   have hul:(mbW (XH a b) (0,a.length,0,b.length)).length<=a.length:=Xd1 hfl (a.length - 0) 0 a.length 0 b.length nofun nofun
   generalize hU:mbW (XH a b) (0,a.length,0,b.length)=us at *
   repeat' got_up
   refine' Xss (k:=20) (ts:=ms) (us:=us) (hA'.mono nofun) hperm.symm hus (by have:=hperm.length_eq;omega) ?hU ?_
   case hU=>walk_at "upd"
   repeat' got_up
   intro na hna
   repeat' got_up
   refine T.perm (XxX _ _ _) (T.freeze (loc' := ?lc) ?rc ?_)
   case rc=>walk_at "recast"
   refine T.mono (K:=fun f st''=>f=AFlow.next/\∃ s:Tri × List Tri,∃ v1 v2 v3 v4 v5 v6 v7 v8 v9 v10 v11:AV,s=us.foldl XB ((0,0,0),[])/\s.2.length<=us.length /\
    st''=⟨Xel d qa na a.length b.length us s.1 v1 v2 v3 v4 v5 v6 v7 v8 v9 v10 v11,(na,.list (s.2.map Xbv))::(qa,.list [])::XJ w d dj jk pp a b mm .none vo led⟩) ?_ ?_
   ·refine XcM (k:=5) (J:=fun xs st''=>∃ ts:List Tri,∃ s:Tri × List Tri,∃ v1 v2 v3 v4 v5 v6 v7 v8 v9 v10 v11:AV,xs=ts.map Xq/\ts.foldl XB s=us.foldl XB ((0,0,0),[])/\s.2.length+ts.length<=us.length /\
     st''=⟨Xel d qa na a.length b.length us s.1 v1 v2 v3 v4 v5 v6 v7 v8 v9 v10 v11,(na,.list (s.2.map Xbv))::(qa,.list [])::XJ w d dj jk pp a b mm .none vo led⟩) (hA'.mono nofun) ?_ ?_ ?_ (fun _=>@_)
    ·repeat' got_up
     exact XaE (k:=5) fun it gl hI=>⟨it,gl,_,_,rfl,rfl,hI,us,((0,0,0),[]),_,_,_,_,_,_,_,_,_,_,_,rfl,rfl,by simp,rfl⟩
    ·rintro x xs st'' gl ⟨ts,s,v1,v2,v3,v4,v5,v6,v7,v8,v9,v10,v11,hxs,hfold,hlen,rfl⟩
     cases ts with
     | nil=>cases hxs
     | cons t ts =>
      rw [Xwr,List.cons.injEq] at hxs
      obtain ⟨rfl,rfl⟩:=hxs
      obtain ⟨ti,tj,tk⟩:=t
      obtain ⟨⟨si,sj,sk⟩,out⟩:=s
      rw [Xxj] at hfold
      have hsl2:=XfR ((si,sj,sk),out) (ti,tj,tk)
      rw [Xwn] at hlen
      dsimp only at hlen hsl2
      rw [show Xq (ti,tj,tk) = .mat 135 [.int ti,.int tj,.int tk] from rfl]
      simp only [Xws,XwK,Xwv]
      repeat' got_up
      ·rename_i c1 c2
       have e1:si+sk=ti:=by have:=beq_iff_eq.mp c1;dsimp only at this;omega
       have e2:sj+sk=tj:=by have:=beq_iff_eq.mp c2;dsimp only at this;omega
       have hst:XB ((si,sj,sk),out) (ti,tj,tk)=((si,sj,sk+tk),out):=by unfold XB;rw [if_pos ⟨e1,e2⟩]
       rw [hst] at hfold
       exact ⟨(na,.list (out.map Xbv))::(qa,.list [])::XJ w d dj jk pp a b mm .none vo led,by simp,ts,((si,sj,sk+tk),out),_,_,_,_,_,_,_,_,_,_,_,rfl,hfold,by dsimp only;omega,rfl⟩
      ·rename_i c1 c2 c3
       have hne : ¬ (si+sk=ti/\sj+sk=tj):=fun q=>by have:=beq_eq_false_iff_ne.mp c2;dsimp only at this;omega
       have hk : ¬ sk=0:=fun q=>by have:=bne_iff_ne.mp c3;dsimp only at this;omega
       have hst:XB ((si,sj,sk),out) (ti,tj,tk)=((ti,tj,tk),out++[(si,sj,sk)]):=by unfold XB;rw [if_neg hne,if_neg hk]
       rw [hst] at hfold hsl2
       refine' XN (xs:=out.map Xbv) ?hU (by rw [Xwi];omega) ?_
       case hU=>walk_at "upd"
       repeat' got_up
       exact ⟨(na,.list ((out++[(si,sj,sk)]).map Xbv))::(qa,.list [])::XJ w d dj jk pp a b mm .none vo led,by simp [Xbv],ts,((ti,tj,tk),out++[(si,sj,sk)]),_,_,_,_,_,_,_,_,_,_,_,rfl,hfold,by dsimp only at hsl2 ⊢;omega,rfl⟩
      ·rename_i c1 c2 c3
       have hne : ¬ (si+sk=ti/\sj+sk=tj):=fun q=>by have:=beq_eq_false_iff_ne.mp c2;dsimp only at this;omega
       have hk:sk=0:=by have:=bne_eq_false_iff_eq.mp c3;dsimp only at this;omega
       have hst:XB ((si,sj,sk),out) (ti,tj,tk)=((ti,tj,tk),out):=by unfold XB;rw [if_neg hne,if_pos hk]
       rw [hst] at hfold
       exact ⟨(na,.list (out.map Xbv))::(qa,.list [])::XJ w d dj jk pp a b mm .none vo led,by simp,ts,((ti,tj,tk),out),_,_,_,_,_,_,_,_,_,_,_,rfl,hfold,by dsimp only;omega,rfl⟩
      ·rename_i c1 c3
       have hne : ¬ (si+sk=ti/\sj+sk=tj):=fun q=>by have:=beq_eq_false_iff_ne.mp c1;dsimp only at this;omega
       have hk : ¬ sk=0:=fun q=>by have:=bne_iff_ne.mp c3;dsimp only at this;omega
       have hst:XB ((si,sj,sk),out) (ti,tj,tk)=((ti,tj,tk),out++[(si,sj,sk)]):=by unfold XB;rw [if_neg hne,if_neg hk]
       rw [hst] at hfold hsl2
       refine' XN (xs:=out.map Xbv) ?hU (by rw [Xwi];omega) ?_
       case hU=>walk_at "upd"
       repeat' got_up
       exact ⟨(na,.list ((out++[(si,sj,sk)]).map Xbv))::(qa,.list [])::XJ w d dj jk pp a b mm .none vo led,by simp [Xbv],ts,((ti,tj,tk),out++[(si,sj,sk)]),_,_,_,_,_,_,_,_,_,_,_,rfl,hfold,by dsimp only at hsl2 ⊢;omega,rfl⟩
      ·rename_i c1 c3
       have hne : ¬ (si+sk=ti/\sj+sk=tj):=fun q=>by have:=beq_eq_false_iff_ne.mp c1;dsimp only at this;omega
       have hk:sk=0:=by have:=bne_eq_false_iff_eq.mp c3;dsimp only at this;omega
       have hst:XB ((si,sj,sk),out) (ti,tj,tk)=((ti,tj,tk),out):=by unfold XB;rw [if_neg hne,if_pos hk]
       rw [hst] at hfold
       exact ⟨(na,.list (out.map Xbv))::(qa,.list [])::XJ w d dj jk pp a b mm .none vo led,by simp,ts,((ti,tj,tk),out),_,_,_,_,_,_,_,_,_,_,_,rfl,hfold,by dsimp only;omega,rfl⟩
    ·rintro st'' ⟨ts,s,v1,v2,v3,v4,v5,v6,v7,v8,v9,v10,v11,hxs,hfold,hlen,rfl⟩
     have hts:ts=[]:=by
      cases ts with
      | nil=>rfl
      | cons t ts=>cases hxs
     subst hts
     exact ⟨rfl,s,_,_,_,_,_,_,_,_,_,_,_,hfold,by simpa using hlen,rfl⟩
   ·rintro f st'' ⟨rfl,s,v1,v2,v3,v4,v5,v6,v7,v8,v9,v10,v11,hs,hlen,rfl⟩
    obtain ⟨⟨si,sj,sk⟩,out⟩:=s
    dsimp only at hlen
    have hend:Xj (XH a b) a.length b.length=Xas ((si,sj,sk),out)++[(a.length,b.length,0)]:=by
     unfold Xj
     rw [hU,← hs]
    refine XI (T.mono (K:=fun f st''=>f=AFlow.next/\st''=⟨Xel d qa na a.length b.length us (si,sj,sk) v1 v2 v3 v4 v5 v6 v7 v8 v9 v10 v11,(na,.list ((Xas ((si,sj,sk),out)).map Xbv))::(qa,.list [])::XJ w d dj jk pp a b mm .none vo led⟩) ?_ ?_)
    ·repeat' got_up
     ·rename_i c3
      have hk : ¬ sk=0:=fun q=>by have:=bne_iff_ne.mp c3;dsimp only at this;omega
      refine' XN (xs:=out.map Xbv) ?hU (by rw [Xwi];omega) ?_
      case hU=>walk_at "upd"
      repeat' got_up
      refine ⟨rfl,?_⟩
      have:Xas ((si,sj,sk),out)=out++[(si,sj,sk)]:=by unfold Xas;rw [if_neg hk]
      rw [this,XwH]
      rfl
     ·rename_i c3
      have hk:sk=0:=by have:=bne_eq_false_iff_eq.mp c3;dsimp only at this;omega
      have:Xas ((si,sj,sk),out)=out:=by unfold Xas;rw [if_pos hk]
      rw [this]
      exact ⟨rfl,rfl⟩
    ·rintro f st'' ⟨rfl,rfl⟩
     have hae:(Xas ((si,sj,sk),out)).length<=us.length+1:=by
      unfold Xas
      split
      ·dsimp only;omega
      ·simp;omega
     repeat' got_up
     refine' XN (xs:=(Xas ((si,sj,sk),out)).map Xbv) ?hU (by rw [Xwi];omega) ?_
     case hU=>walk_at "upd"
     have hbl:(Xas ((si,sj,sk),out)).map Xbv++[AV.tup [.int a.length,.int b.length,.int 0]]=(Xj (XH a b) a.length b.length).map Xbv:=by rw [hend,XwH];rfl
     rw [hbl]
     have hbsl:(Xj (XH a b) a.length b.length).length<=us.length+2:=by
      rw [hend,Xwo]
      simp only [Xwn,XwF]
      omega
     generalize Xj (XH a b) a.length b.length=bs at *
     refine T.freeze (loc' := ?lc2) ?rc2 ?_
     case rc2=>walk_at "recast"
     repeat' got_up
     refine XoK (f:=89) @_ (Xvs _) (Xvb _) fun q=>?_
     repeat' got_up
     refine XkW fun m it=>?_
     repeat' got_up
     refine Xci (k:=31) (T' := "map") (items:=bs.map Xq) (gl:=XcU m it (.ref q) (bs.map Xbv) 0 [(q,.raw (methodObj (.ref 89) (.ref 135)))]) (led:=(qa,.list [])::XJ w d dj jk pp a b mm .none vo led) (N:=[]) (hA'.mono nofun) .nil
      (IterOk.map (N:=[]) (k:=30) (ys:=bs.map Xq) (by simp) (fun i x y hx hy A' hA'' led' _=>?_) bs.length 0 (by simp)) (by rw [Xwi];omega) (fun s Z S=>?_) (by decide) (by decide) (fun A s Z S Q E h=>Xgu S h) Xej XdO ?_
     ·rw [Xw1] at hx hy
      obtain ⟨t,ht,rfl⟩:=Xxv.mp hx
      obtain ⟨t',ht',rfl⟩:=Xxv.mp hy
      rw [ht] at ht'
      cases ht'
      exact Xtz (by walk_at "mem") (Xs8 (hA''.mono nofun))
     ·obtain ⟨om,hom,tt,fx,rfl,_⟩:=S.own _ (Xwf ..)
      exact ⟨_,hom,rfl⟩
     ·repeat' got_up
      exact ⟨_,⟨[(qa,.list [])],.refl _⟩,rfl,rfl⟩
end
structure Op where
 tag:Str
 i1:Nat
 i2:Nat
 j1:Nat
 j2:Nat
abbrev Xo:Str:=⟨⟨[101,113,117,97,108]⟩⟩
abbrev XR:Str:=XAD
abbrev Xaf:Str:=XAE
abbrev Xad:Str:=XAF
def Xc(o:Op):AV := .tup [.str o.tag,.int o.i1,.int o.i2,.int o.j1,.int o.j2]
def Xal(i ai j bj:Nat):List Op :=
 if i<ai/\j<bj then [⟨XR,i,ai,j,bj⟩] else if i<ai then [⟨Xaf,i,ai,j,bj⟩] else if j<bj then [⟨Xad,i,ai,j,bj⟩] else []
def Xam(t:Tri):List Op:=if t.2.2=0 then [] else [⟨Xo,t.1,t.1+t.2.2,t.2.1,t.2.1+t.2.2⟩]
def Xu(s:(Nat × Nat) × List Op)(t:Tri):(Nat × Nat) × List Op:=((t.1+t.2.2,t.2.1+t.2.2),s.2++Xal s.1.1 t.1 s.1.2 t.2.1++Xam t)
def Xaz(bs:List Tri):List Op:=(bs.foldl Xu ((0,0),[])).2
theorem XlI(i ai j bj:Nat):(Xal i ai j bj).length<=1:=by
 unfold Xal
 split
 ·simp
 ·split
  ·simp
  ·split <;> simp
theorem Xpn(t:Tri):(Xam t).length<=1:=by unfold Xam;split <;> simp
theorem XmD(s:(Nat × Nat) × List Op)(t:Tri):(Xu s t).2.length<=s.2.length+2:=by
 have h1:=XlI s.1.1 t.1 s.1.2 t.2.1
 have h2:=Xpn t
 unfold Xu
 simp only [Xwo]
 omega
theorem Xfg:∀ (ts:List Tri) (s:Tri × List Tri),(ts.foldl XB s).2.length<=s.2.length+ts.length
 | [],s=>XwN _
 | t::ts,s=>by
  have h1:=Xfg ts (XB s t)
  have h2:=XfR s t
  rw [Xxj,Xwn]
  omega
theorem XcE{fl:Nat->Nat->Nat->Nat->Tri}(ok:Xch fl)(la lb:Nat):(Xj fl la lb).length<=la+2:=by
 have h1:(mbW fl (0,la,0,lb)).length<=la:=Xd1 ok (la - 0) 0 la 0 lb (XwA _) (XwA _)
 have h2:=Xfg (mbW fl (0,la,0,lb)) ((0,0,0),[])
 unfold Xj Xas
 rw [Xwo]
 simp only [XwF,Xwn] at h2 ⊢
 split
 ·omega
 ·rw [Xwo];simp only [Xwn,XwF];omega
section
variable{prog:Xwx}{w:XwE}{A:Xww}{B:Frz}{env:Env}
theorem Xbo{x:Str}{st:St}{K:Bool->St->Prop}(hl:x.length<2 ^ 62)(h:K ((x.length:Int) != 0) st):F1 prog w A B env XQ truthy (.str x) st K:=fun s Z u V S Q E hQ=>by
 cases V
 exact PySem.P.truthy_str nofun (hQ _ _ _ Z st h (S.toks _) rfl (.toks _))
theorem XgI{f:AV}{args:List AV}{kw:List (Str × AV)}{loc:List (Str × AV)}{led led1:Led}{K:AV->St->Prop}{K0:AV->Led->Prop}(p:led.Perm led1)(h:TC prog w A B f args kw led1 K0)(hk:∀ v l,K0 v l->∃ l',WkL l l'/\K v ⟨loc,l'⟩):FC prog w A B env f args kw ⟨loc,led⟩ K :=
 FC.weak (K0:=fun v st'=>K0 v st'.led/\st'.loc=loc) (XgG ((TC.perm p h).mono fun v l h'=>⟨h',rfl⟩)) fun v loc' l h'=>by
  obtain ⟨h1,h2⟩:=h'
  dsimp only at h1 h2
  subst h2
  exact hk v l h1
theorem XbV{x:Str}{b:Bool}{st:St}{K:Bool->St->Prop}(hl:x.length<2 ^ 62)(hb:((x.length:Int) != 0)=b)(h:K b st):F1 prog w A B env XQ truthy (.str x) st K:=Xbo hl (by rw [hb];exact h)
end
section
theorem Xs1{w:XwE}{A:Xww}{d dj jk pp:XwR}{a b:List Str}{mm:List (Str × AV)}{led:Led}(hA:Room A 90)(ha:a.length<10 ^ 5)(hb:b.length<10 ^ 5)(hraw:(mbW (XH a b) (0,a.length,0,b.length)).length<64)
  (hds:(dj == Xx5)=false) (hmm:∀ k,(Xz mm k).getD (.lst []) = .lst (avs (XM b k))) :
  TC P04 w A (B04 w) (.ref 210) [.inst 242 d] [] (XJ w d dj jk pp a b mm .none .none led) fun v led' =>
   ∃ oa,v = .ref oa/\led'=(oa,.list ((Xaz (Xj (XH a b) a.length b.length)).map Xc))::XJ w d dj jk pp a b mm (.lst ((Xj (XH a b) a.length b.length).map Xq)) (.ref oa) led:=by
 refine TC.weak (XaO (binds:=[(Xy6,.inst 242 d)]) (g04 w) (Xvk _) hA.lt (Binds.peek fun Z xs ks hx hk=>?_) @_ fun L hL=>?_)
 ·cases hk
  cases hx with
  | cons h1 hx =>
   cases hx
   exact ⟨_,@_,.cons h1 .nil⟩
 ·have hA':=hA.deeper (k:=87) (env:=Xa0 (XW (Xgd w.params)) L 210 209)
  have hh:=hA'.h
  have hsl:10 ^ 6<=XwZ:=by decide
  simp only [XwL,XwV,Xwv,Xws]
  refine T.spare XzS @_ ?_
  refine T.spare XzT @_ ?_
  refine T.spare Xzb @_ ?_
  refine T.spare XzU @_ ?_
  simp only [Xws,Xwv]
  refine XI ?_
  repeat' got_up
  intro oa hoa
  repeat' got_up
  have hbl:=XcE (XbP (eqs a b) (XS a b)) a.length b.length
  generalize hbs:Xj (XH a b) a.length b.length=bs at *
  refine XcM (k:=5) (J:=fun xs st''=>∃ ts:List Tri,∃ s:(Nat × Nat) × List Op,∃ v1 v2 v3 v4:AV,xs=ts.map Xq/\ts.foldl Xu s=bs.foldl Xu ((0,0),[])/\s.2.length+2 * ts.length<=2 * bs.length /\
   st''=⟨[(Xy6,.inst 242 d),(XzS,v1),(XzT,v2),(Xzb,v3),(XzU,v4),(Xzp,.int s.1.1),(XzF,.int s.1.2),(XzR,.ref oa)],(oa,.list (s.2.map Xc))::XJ w d dj jk pp a b mm (.lst (bs.map Xq)) (.ref oa) led⟩) (hA'.mono nofun) ?_ ?_ ?_ (fun _=>@_)
  ·repeat' got_up
   refine XgI (led1:=XJ w d dj jk pp a b mm .none (.ref oa) ((oa,.list [])::led)) (by walk_at "perm") (XuH (hA'.mono nofun) ha hb hraw hds hmm) fun v l h=>?_
   obtain ⟨rfl,rfl⟩:=h
   rw [hbs]
   refine ⟨(oa,.list [])::XJ w d dj jk pp a b mm (.lst (bs.map Xq)) (.ref oa) led,.perm (by walk_at "perm"),?_⟩
   exact XaE (k:=5) fun it gl hI=>⟨it,gl,_,_,rfl,rfl,hI,bs,((0,0),[]),_,_,_,_,rfl,rfl,by simp,rfl⟩
  ·rintro x xs st'' gl ⟨ts,s,v1,v2,v3,v4,hxs,hfold,hlen,rfl⟩
   cases ts with
   | nil=>cases hxs
   | cons t ts =>
    rw [Xwr,List.cons.injEq] at hxs
    obtain ⟨rfl,rfl⟩:=hxs
    obtain ⟨ti,tj,tk⟩:=t
    obtain ⟨⟨si,sj⟩,out⟩:=s
    rw [Xxj] at hfold
    rw [Xwn] at hlen
    dsimp only at hlen
    rw [show Xq (ti,tj,tk) = .mat 135 [.int ti,.int tj,.int tk] from rfl]
    simp only [Xws,XwK,Xwv]
    repeat' got_up
    all_goals simp only [decide_eq_true_eq,decide_eq_false_iff_not] at *
    all_goals first | (exfalso;omega) | skip
    ·have hch:Xal si ti sj tj=[(Op.mk XR si ti sj tj)]:=by unfold Xal;rw [if_pos nofun]
     refine XbV (b:=true) (by decide) (by decide) ?_
     repeat' got_up
     refine' XN (xs:=out.map Xc) ?hU (by rw [Xwi];omega) ?_
     case hU=>walk_at "upd"
     repeat' got_up
     ·rename_i c3
      have hk : ¬ tk=0:=fun q=>by have:=bne_iff_ne.mp c3;omega
      refine' XN (xs:=out.map Xc++[Xc (Op.mk XR si ti sj tj)]) ?hU (by simp;omega) ?_
      case hU=>walk_at "upd"
      repeat' got_up
      have hst:Xu ((si,sj),out) (ti,tj,tk)=((ti+tk,tj+tk),out++[(Op.mk XR si ti sj tj)]++[(Op.mk Xo ti (ti+tk) tj (tj+tk))]):=by
       have h1:Xam (ti,tj,tk)=[(Op.mk Xo ti (ti+tk) tj (tj+tk))]:=by unfold Xam;rw [if_neg hk]
       unfold Xu
       rw [h1]
       dsimp only
       rw [hch]
      rw [hst] at hfold
      exact ⟨(oa,.list ((out++[(Op.mk XR si ti sj tj)]++[(Op.mk Xo ti (ti+tk) tj (tj+tk))]).map Xc))::XJ w d dj jk pp a b mm (.lst (bs.map Xq)) (.ref oa) led,by simp [Xc],ts,((ti+tk,tj+tk),out++[(Op.mk XR si ti sj tj)]++[(Op.mk Xo ti (ti+tk) tj (tj+tk))]),_,_,_,_,rfl,hfold,by simp only [Xwo,Xwn,XwF];omega,rfl⟩
     ·rename_i c3
      have hk:tk=0:=by have:=bne_eq_false_iff_eq.mp c3;omega
      have hst:Xu ((si,sj),out) (ti,tj,tk)=((ti+tk,tj+tk),out++[(Op.mk XR si ti sj tj)]):=by
       have h1:Xam (ti,tj,tk)=[]:=by unfold Xam;rw [if_pos hk]
       unfold Xu
       rw [h1]
       dsimp only
       rw [hch];simp
      rw [hst] at hfold
      exact ⟨(oa,.list ((out++[(Op.mk XR si ti sj tj)]).map Xc))::XJ w d dj jk pp a b mm (.lst (bs.map Xq)) (.ref oa) led,by simp [Xc],ts,((ti+tk,tj+tk),out++[(Op.mk XR si ti sj tj)]),_,_,_,_,rfl,hfold,by simp only [Xwo,Xwn,XwF];omega,rfl⟩
    ·have hch:Xal si ti sj tj=[(Op.mk Xaf si ti sj tj)]:=by unfold Xal;rw [if_neg nofun,if_pos nofun]
     refine XbV (b:=true) (by decide) (by decide) ?_
     repeat' got_up
     refine' XN (xs:=out.map Xc) ?hU (by rw [Xwi];omega) ?_
     case hU=>walk_at "upd"
     repeat' got_up
     ·rename_i c3
      have hk : ¬ tk=0:=fun q=>by have:=bne_iff_ne.mp c3;omega
      refine' XN (xs:=out.map Xc++[Xc (Op.mk Xaf si ti sj tj)]) ?hU (by simp;omega) ?_
      case hU=>walk_at "upd"
      repeat' got_up
      have hst:Xu ((si,sj),out) (ti,tj,tk)=((ti+tk,tj+tk),out++[(Op.mk Xaf si ti sj tj)]++[(Op.mk Xo ti (ti+tk) tj (tj+tk))]):=by
       have h1:Xam (ti,tj,tk)=[(Op.mk Xo ti (ti+tk) tj (tj+tk))]:=by unfold Xam;rw [if_neg hk]
       unfold Xu
       rw [h1]
       dsimp only
       rw [hch]
      rw [hst] at hfold
      exact ⟨(oa,.list ((out++[(Op.mk Xaf si ti sj tj)]++[(Op.mk Xo ti (ti+tk) tj (tj+tk))]).map Xc))::XJ w d dj jk pp a b mm (.lst (bs.map Xq)) (.ref oa) led,by simp [Xc],ts,((ti+tk,tj+tk),out++[(Op.mk Xaf si ti sj tj)]++[(Op.mk Xo ti (ti+tk) tj (tj+tk))]),_,_,_,_,rfl,hfold,by simp only [Xwo,Xwn,XwF];omega,rfl⟩
     ·rename_i c3
      have hk:tk=0:=by have:=bne_eq_false_iff_eq.mp c3;omega
      have hst:Xu ((si,sj),out) (ti,tj,tk)=((ti+tk,tj+tk),out++[(Op.mk Xaf si ti sj tj)]):=by
       have h1:Xam (ti,tj,tk)=[]:=by unfold Xam;rw [if_pos hk]
       unfold Xu
       rw [h1]
       dsimp only
       rw [hch];simp
      rw [hst] at hfold
      exact ⟨(oa,.list ((out++[(Op.mk Xaf si ti sj tj)]).map Xc))::XJ w d dj jk pp a b mm (.lst (bs.map Xq)) (.ref oa) led,by simp [Xc],ts,((ti+tk,tj+tk),out++[(Op.mk Xaf si ti sj tj)]),_,_,_,_,rfl,hfold,by simp only [Xwo,Xwn,XwF];omega,rfl⟩
    ·have hch:Xal si ti sj tj=[(Op.mk Xad si ti sj tj)]:=by unfold Xal;rw [if_neg nofun,if_neg nofun,if_pos nofun]
     refine XbV (b:=true) (by decide) (by decide) ?_
     repeat' got_up
     refine' XN (xs:=out.map Xc) ?hU (by rw [Xwi];omega) ?_
     case hU=>walk_at "upd"
     repeat' got_up
     ·rename_i c3
      have hk : ¬ tk=0:=fun q=>by have:=bne_iff_ne.mp c3;omega
      refine' XN (xs:=out.map Xc++[Xc (Op.mk Xad si ti sj tj)]) ?hU (by simp;omega) ?_
      case hU=>walk_at "upd"
      repeat' got_up
      have hst:Xu ((si,sj),out) (ti,tj,tk)=((ti+tk,tj+tk),out++[(Op.mk Xad si ti sj tj)]++[(Op.mk Xo ti (ti+tk) tj (tj+tk))]):=by
       have h1:Xam (ti,tj,tk)=[(Op.mk Xo ti (ti+tk) tj (tj+tk))]:=by unfold Xam;rw [if_neg hk]
       unfold Xu
       rw [h1]
       dsimp only
       rw [hch]
      rw [hst] at hfold
      exact ⟨(oa,.list ((out++[(Op.mk Xad si ti sj tj)]++[(Op.mk Xo ti (ti+tk) tj (tj+tk))]).map Xc))::XJ w d dj jk pp a b mm (.lst (bs.map Xq)) (.ref oa) led,by simp [Xc],ts,((ti+tk,tj+tk),out++[(Op.mk Xad si ti sj tj)]++[(Op.mk Xo ti (ti+tk) tj (tj+tk))]),_,_,_,_,rfl,hfold,by simp only [Xwo,Xwn,XwF];omega,rfl⟩
     ·rename_i c3
      have hk:tk=0:=by have:=bne_eq_false_iff_eq.mp c3;omega
      have hst:Xu ((si,sj),out) (ti,tj,tk)=((ti+tk,tj+tk),out++[(Op.mk Xad si ti sj tj)]):=by
       have h1:Xam (ti,tj,tk)=[]:=by unfold Xam;rw [if_pos hk]
       unfold Xu
       rw [h1]
       dsimp only
       rw [hch];simp
      rw [hst] at hfold
      exact ⟨(oa,.list ((out++[(Op.mk Xad si ti sj tj)]).map Xc))::XJ w d dj jk pp a b mm (.lst (bs.map Xq)) (.ref oa) led,by simp [Xc],ts,((ti+tk,tj+tk),out++[(Op.mk Xad si ti sj tj)]),_,_,_,_,rfl,hfold,by simp only [Xwo,Xwn,XwF];omega,rfl⟩
    ·have hch:Xal si ti sj tj=[]:=by unfold Xal;rw [if_neg nofun,if_neg nofun,if_neg nofun]
     refine XbV (b:=false) (by decide) (by decide) ?_
     repeat' got_up
     ·rename_i c3
      have hk : ¬ tk=0:=fun q=>by have:=bne_iff_ne.mp c3;omega
      refine' XN (xs:=(out).map Xc) ?hU (by simp;omega) ?_
      case hU=>walk_at "upd"
      repeat' got_up
      have hst:Xu ((si,sj),out) (ti,tj,tk)=((ti+tk,tj+tk),out++[(Op.mk Xo ti (ti+tk) tj (tj+tk))]):=by
       have h1:Xam (ti,tj,tk)=[(Op.mk Xo ti (ti+tk) tj (tj+tk))]:=by unfold Xam;rw [if_neg hk]
       unfold Xu
       rw [h1]
       dsimp only
       rw [hch];simp
      rw [hst] at hfold
      exact ⟨(oa,.list ((out++[(Op.mk Xo ti (ti+tk) tj (tj+tk))]).map Xc))::XJ w d dj jk pp a b mm (.lst (bs.map Xq)) (.ref oa) led,by simp [Xc],ts,((ti+tk,tj+tk),out++[(Op.mk Xo ti (ti+tk) tj (tj+tk))]),_,_,_,_,rfl,hfold,by simp only [Xwo,Xwn,XwF];omega,rfl⟩
     ·rename_i c3
      have hk:tk=0:=by have:=bne_eq_false_iff_eq.mp c3;omega
      have hst:Xu ((si,sj),out) (ti,tj,tk)=((ti+tk,tj+tk),out):=by
       have h1:Xam (ti,tj,tk)=[]:=by unfold Xam;rw [if_pos hk]
       unfold Xu
       rw [h1]
       dsimp only
       rw [hch];simp
      rw [hst] at hfold
      exact ⟨(oa,.list ((out).map Xc))::XJ w d dj jk pp a b mm (.lst (bs.map Xq)) (.ref oa) led,by simp [Xc],ts,((ti+tk,tj+tk),out),_,_,_,_,rfl,hfold,by simp only [Xwo,Xwn,XwF];omega,rfl⟩
  ·rintro st'' ⟨ts,s,v1,v2,v3,v4,hxs,hfold,hlen,rfl⟩
   have hts:ts=[]:=by
    cases ts with
    | nil=>rfl
    | cons t ts=>cases hxs
   subst hts
   repeat' got_up
   have hfold:s=bs.foldl Xu ((0,0),[]):=hfold
   refine ⟨_,.refl _,oa,rfl,?_⟩
   rw [hfold]
   rfl
end
def XaL(n:Nat)(o:Op):Op:=if o.tag=Xo then ⟨o.tag,max o.i1 (o.i2 - n),o.i2,max o.j1 (o.j2 - n),o.j2⟩ else o
def Xa5(n:Nat)(o:Op):Op:=if o.tag=Xo then ⟨o.tag,o.i1,min o.i2 (o.i1+n),o.j1,min o.j2 (o.j1+n)⟩ else o
def Xb7(f:Op->Op):List Op->List Op
 | []=>[]
 | o::os=>f o::os
def Xa4(f:Op->Op):List Op->List Op
 | []=>[]
 | [o]=>[f o]
 | o::p::os=>o::Xa4 f (p::os)
def Xbr(n:Nat)(codes:List Op):List Op:=Xa4 (Xa5 n) (Xb7 (XaL n) (if codes.isEmpty then [⟨Xo,0,1,0,1⟩] else codes))
def Xi(n:Nat):List Op->List Op->List (List Op)
 | group,[]=>if group.isEmpty then [] else if group.length=1/\(group.head?.map (·.tag))=some Xo then [] else [group]
 | group,o::os =>
  if o.tag=Xo/\o.i1+(n+n)<o.i2 then
   (group++[⟨o.tag,o.i1,min o.i2 (o.i1+n),o.j1,min o.j2 (o.j1+n)⟩])::Xi n [⟨o.tag,max o.i1 (o.i2 - n),o.i2,max o.j1 (o.j2 - n),o.j2⟩] os
  else Xi n (group++[o]) os
def XC(n:Nat)(codes:List Op):List (List Op):=Xi n [] (Xbr n codes)
def Xae(g:List Op):AV := .lst (g.map Xc)
theorem XeT:∀ (ts:List Tri) (s:(Nat × Nat) × List Op),(ts.foldl Xu s).2.length<=s.2.length+2 * ts.length
 | [],s=>XwN _
 | t::ts,s=>by
  have h1:=XeT ts (Xu s t)
  have h2:=XmD s t
  rw [Xxj,Xwn]
  omega
theorem Xf7(bs:List Tri):(Xaz bs).length<=2 * bs.length:=by
 have:=XeT bs ((0,0),[])
 unfold Xaz
 simp only [XwF] at this
 omega
section
variable{prog:Xwx}{w:XwE}{B:Frz}{N:Led}{env:Env}{n m:Nat}{rows:List AV}{K:AFlow->St->List AV->Prop}{t:Sem Flow}{loc loc':List (Str × AV)}{l l':Led}
theorem TG.freeze{a:XwR}{xs:List AV}(hr:Recast a xs loc loc')(h:TG prog w B N n m env t ⟨loc',l⟩ rows K):TG prog w B N n m env t ⟨loc,(a,.list xs)::l⟩ rows K :=
 fun c fs Kc H gd lv hs hg hK A hA led hN own₀ s₀ Z₀ s Z S X=>by
  obtain ⟨Z',S',V,X'⟩:=SimF.freeze (led:=l++led) S hr
  exact h c fs Kc H gd lv hs hg hK A hA led hN own₀ s₀ Z₀ s Z' S' (X.trans X')
theorem TG.weak(hw:WkL l l')(h:TG prog w B N n m env t ⟨loc,l'⟩ rows K):TG prog w B N n m env t ⟨loc,l⟩ rows K :=
 fun c fs Kc H gd lv hs hg hK A hA led hN own₀ s₀ Z₀ s Z S X=>by
  obtain ⟨r,p⟩:=hw
  have hw':WkL (l++led) (l'++led):=⟨r,by rw [← XwK];exact p.append_right led⟩
  exact h c fs Kc H gd lv hs hg hK A hA led hN own₀ s₀ Z₀ s Z (S.weak hw') (X.weakF hw')
theorem TG.mono{st:St}{K':AFlow->St->List AV->Prop}(h:TG prog w B N n m env t st rows K)(hk:∀ f st' rows',K f st' rows'->K' f st' rows'):TG prog w B N n m env t st rows K' :=
 fun c fs Kc H gd lv hs hg hK=>h c fs Kc H gd lv hs hg fun f x st' rows' k=>hK f x st' rows' (hk f st' rows' k)
theorem Xm{st:St}(h:∀ A,Room A m->∀ led,NIn N led->T prog w A B env FVal t ⟨st.loc,st.led++led⟩ fun f st'=>f = .next/\∃ loc' l,st'=⟨loc',l++led⟩/\K .next ⟨loc',l⟩ rows):TG prog w B N n m env t st rows K :=
 Xme fun A hA led hN=>(h A hA led hN).mono fun f st' k=>by
  obtain ⟨rfl,loc',l,rfl,k⟩:=k
  exact ⟨l,rfl,trivial,k⟩
end
section
variable{prog:Xwx}{w:XwE}{A:Xww}{m:Nat}
theorem XtA{K:Frag}{f c:XwR}{fd:XyS}{body:List Stmt}{args:List AV}{kw binds:List (Str × AV)}{l0 led:Led}{rows:List AV}
  (hG:Ground0 (Xg K)) (ok:XaT K f true fd body c) (hroom:A.depth<XxV) (hb:Binds prog w A.in1 (Xg K) fd args kw binds)
  (hloc:((binds.map (·.1)).all fun x=>decide (fd.scope.names.lookup x=some .local))=true)
  (h:∀ L,TG prog w (Xg K) N (m+3) m (Xa0 fd L f c) (execs body (Xa0 fd L f c)) ⟨binds.reverse,l0⟩ rows fun _ _ rows'=>rows'=[]) :
  TC prog w A (Xg K) (.ref f) args kw (l0++led) (Xcg prog w (Xg K) N (m+3) rows led):=by
 obtain ⟨⟨o,ho,hd⟩,hbody,hc,hcl,hg,hbi,⟨oc,vs,tq,hoc,hocd,hq⟩,⟨h1,h2,h3⟩,h4⟩:=ok
 refine Xmh hG ho hd h1 h2 h3 hbody (fun x hx=>of_decide_eq_true (XwU.mp h4 x hx)) hc hoc hocd hq hroom hb (fun x hx=>of_decide_eq_true (XwU.mp hloc x hx)) fun L a g=>?_
 rw [hcl,hg,hbi,hc]
 exact ⟨a,g,_,(L,.ns binds.reverse)::l0,rfl,rfl,Susp.fresh (env:=Xa0 fd L f c) (XeZ hloc) h3 (h L)⟩
end
section
variable{prog:Xwx}{w:XwE}{A:Xww}{B:Frz}{env:Env}
theorem Xah{xs:List AV}{i:Int}{x:AV}{st:St}{K:AV->St->Prop}(h0:0<=i)(h1:i<2 ^ 63)(hx:xs[i.toNat]? = some x)(h:K x st) :
  F2 prog w A B env Val getItem (.tup xs) (.int i) st K:=fun s Z x₁ x₂ V₁ V₂ S Q E hQ=>by
 cases V₁ with
 | tup e vs =>
  cases V₂
  obtain ⟨u,e',hu⟩:=vs.get hx
  have hlt:=(Xyw.mp e').1
  exact P.getItem_tuple (k:=i.toNat) (S.frozen _ _ e) nofun h1 (by
   unfold seqIndex?
   simp only [List.size_toArray]
   split <;> first | (rename_i hh;simp only [Xxn,decide_eq_true_eq,XxE] at *;omega) | skip
   all_goals grind) (by simpa using e') (hQ x u s Z st h S hu .refl)
theorem Xlg{l:XwR}{s:Xwl}{items:Array Value}{n:Nat}{k:Int}{t:Tok}{v:Value}{Q:Unit->Xwl->Prop}{E:Value->Xwl->Prop}{j:Nat}(ho:s.heap.get? l=some {cls := .type "list",data := .seq items n})
  (hk:k=j∨(k<0/\k+items.size=j)) (hj:j<items.size) (hsz:items.size<2 ^ 62)
  (h:Q () {s with heap:=s.heap.update l (Xw6 (·.setIfInBounds j v))}) :
  XwG (XwD prog w) A (setItem (.ref l) (.int k t) v) Q E s:=by
 have hl:s.heap.IsList l items:=⟨_,ho,rfl,n,rfl⟩
 have hd:({cls := .type "list",data := .seq items n}:Obj).data = .seq items n:=rfl
 unfold setItem
 try with_reducible refine Xwt ?_
 first | refine Xwe (Xwg ?_) | skip
 refine Xwe (wpAny_sequenceKey hl.typeIs (by decide) ?_)
 refine Xwe (Xxb (name:=Xwk "__setitem__") hl.typeIs slot_list_setitem
  (Xw3 slot_list_setitem hl.typeIs entry_list_setitem ?_ (args_list_setitem _ _ _)))
 have hx':items[j]? = some items[j]:=XxK hj
 have hfit:Builtin.List.listFitsIndex k=true:=by
  rcases hk with h | h
  ·exact fitsIndex_of nofun nofun
  ·exact fitsIndex_neg h.1 nofun
 show XwG _ _ (Builtin.List.listSubscript? (.int k t) >>= _) _ _ s
 refine Xwe (wpAny_listSubscript_int hfit ?_)
 clear hfit hsz
 rcases hk with rfl | ⟨h0,h1⟩
 ·skip
  show XwG _ _ ((seqItemAt l j >>= fun r=>XxW (r.map (j,·))) >>= _) _ _ s
  refine Xwe (Xwe (wpAny_seqItemAt ho hd (Xwg ?_)))
  rw [hx']
  show XwG _ _ (setSeqItemAt l j v >>= _) _ _ s
  refine Xwe (wpAny_setSeqItemAt ho hd ?_)
  first
   | exact Xwe (Xwg (Xwg ⟨.none,rfl,Xwg h⟩))
   | exact Xwg ⟨.none,rfl,Xwg h⟩
 ·have hidx:=seqIndex_neg (n:=items.size) h0 nofun
  have hj':(k+items.size).toNat=j:=by omega
  obtain ⟨m,rfl⟩:∃ j:Nat,k=Int.negSucc j:=by
   cases k with
   | ofNat n=>exact absurd h0 (Int.not_lt.mpr (Int.natCast_nonneg n))
   | negSucc n=>exact ⟨n,rfl⟩
  show XwG _ _ ((Builtin.List.listItems (.ref l) >>= fun xs=>XxW ((seqIndex? (Int.negSucc m) xs.size).bind fun i=>xs[i]?.map (i,·))) >>= _) _ _ s
  refine Xwe (Xwe ?_)
  show XwG _ _ (seqItems? (.ref l) >>= _) _ _ s
  refine Xwe (XxT ho hd (Xwg (Xwg ?_)))
  rw [hidx,hj']
  simp only [Option.bind_some,hx',XyZ]
  show XwG _ _ (setSeqItemAt l j v >>= _) _ _ s
  refine Xwe (wpAny_setSeqItemAt ho hd ?_)
  first
   | exact Xwe (Xwg (Xwg ⟨.none,rfl,Xwg h⟩))
   | exact Xwg ⟨.none,rfl,Xwg h⟩
theorem Vals.set{Z:Frz}{xs:List AV}{ys:List Value}(h:Vals Z xs ys){x:AV}{y:Value}(hv:Val Z x y):∀ (j:Nat),Vals Z (xs.set j x) (ys.set j y):=by
 intro j
 induction xs generalizing ys j with
 | nil=>cases h;exact .nil
 | cons a xs ih =>
  cases h with
  | cons h1 h2=>cases j with
   | zero=>exact .cons hv h2
   | succ j=>exact .cons h1 (ih h2 j)
theorem XdH{a:XwR}{xs ys:List AV}{k:Int}{u:AV}{j:Nat}{loc:List (Str × AV)}{led led':Led}{R:Unit->St->Prop}(U:Upd a (.list xs) (.list ys) led led')(hy:ys=xs.set j u)
  (hk:k=j∨(k<0/\k+xs.length=j)) (hj:j<xs.length) (hsz:xs.length<2 ^ 62) (h:R () ⟨loc,led'⟩):F3 prog w A B env setItem (.ref a) (.int k) u ⟨loc,led⟩ R:=fun s Z x₁ x₂ x₃ V₁ V₂ V₃ S Q E hQ=>by
 cases V₁
 cases V₂
 subst hy
 obtain ⟨items,n,g,vs⟩:=S.own _ U.mem
 dsimp only at g
 have hlen:items.size=xs.length:=by have:=vs.length;simpa using this
 refine Xlg (j:=j) g (by rw [hlen];exact hk) nofun nofun ?_
 have hg':∃ n',(s.heap.update a (Xw6 (·.setIfInBounds j x₃))).get? a=some {cls := .type "list",data := .seq (items.setIfInBounds j x₃) n' }:=⟨_,XwW (Xw6 (·.setIfInBounds j x₃)) g rfl⟩
 obtain ⟨n',hg'⟩:=hg'
 have hvals:Vals Z (xs.set j u) (items.setIfInBounds j x₃).toList:=by
  rw [Array.toList_setIfInBounds]
  exact vs.set V₃ j
 have P:=S.toSimL.upd U (h':=s.heap.update a (Xw6 (·.setIfInBounds j x₃))) (tk:=s.toks) (fun b ob hb e=>(XwT ..).extBut b ob hb e) rfl rfl ⟨_,n',hg',hvals⟩
 exact hQ () _ _ Z _ h (S.after P.1 P.2) trivial P.2.toF
theorem Xcj{v:AV}{xs ys:List AV}{x:AV}{st:St}{K:AV->St->Prop}(hl:ListAt st.led v ys)(hy:ys=xs++[x])(h2:xs.length<10 ^ 9)(h:K x st):F2 prog w A B env Val getItem v (.int (-1)) st K:=by
 have e:ys.length=xs.length+1:=by rw [hy];simp
 refine XgK hl nofun nofun nofun ?_ h
 have e2:(-1+(ys.length:Int)).toNat=xs.length:=by omega
 rw [e2,hy]
 simp
end
section
local macro_rules | `(tactic| walk_at "recast") => `(tactic| first | exact Recast.nil | (refine' Recast.cast ?fc;(case fc=>walk_at "recast")) | (refine' Recast.keep ?fc;(case fc=>walk_at "recast")))
theorem XeE(f:Op->Op)(z:Op):∀ (xs:List Op),Xa4 f (xs++[z])=xs++[f z]
 | []=>rfl
 | [x]=>rfl
 | x::y::xs=>by
  show x::Xa4 f (y::xs++[z])=_
  rw [XeE f z (y::xs)]
  rfl
theorem Xl6{w:XwE}{A:Xww}{d dj jk pp:XwR}{a b:List Str}{mm:List (Str × AV)}{n:Nat}{led N:Led}(hA:Room A 120)(hn:n<10 ^ 5)(ha:a.length<10 ^ 5)(hb:b.length<10 ^ 5)(hraw:(mbW (XH a b) (0,a.length,0,b.length)).length<64)
  (hds:(dj == Xx5)=false) (hmm:∀ k,(Xz mm k).getD (.lst []) = .lst (avs (XM b k))) :
  TC P04 w A (B04 w) (.ref 218) [.inst 242 d,.int n] [] (XJ w d dj jk pp a b mm .none .none []++led) (Xcg P04 w (B04 w) N 103 ((XC n (Xaz (Xj (XH a b) a.length b.length))).map Xae) led):=by
 refine XtA (m:=100) (binds:=[(Xy6,.inst 242 d),(Xzt,.int n)]) (g04 w) (Xvj _) hA.lt (Binds.peek fun Z xs ks hx hk=>?_) @_ fun L=>?_
 ·cases hk
  cases hx with
  | cons h1 hx=>cases hx with
   | cons h2 hx =>
    cases hx
    exact ⟨_,@_,.cons h1 (.cons h2 .nil)⟩
 ·simp only [XwL,XwV,Xwv,Xws]
  refine TG.spare XzU @_ ?_
  refine TG.spare XzL @_ ?_
  refine TG.spare XzO @_ ?_
  refine TG.spare XzM @_ ?_
  refine TG.spare XzP @_ ?_
  simp only [Xws,Xwv]
  refine Xd (Xm fun A' hA' led' hN'=>?_)
  got_up
  refine ⟨rfl,_,_,rfl,?_⟩
  refine Xd (Xm fun A' hA' led' hN'=>?_)
  repeat' got_up
  refine Xr (led:=XJ w d dj jk pp a b mm .none .none led') (Xs1 (hA'.mono nofun) ha hb hraw hds hmm) fun v l h=>?_
  obtain ⟨oa,rfl,rfl⟩:=h
  have hol:(Xaz (Xj (XH a b) a.length b.length)).length<10 ^ 6:=by
   have h1:=Xf7 (Xj (XH a b) a.length b.length)
   have h2:=XcE (XbP (eqs a b) (XS a b)) a.length b.length
   have h3:(Xj (XH a b) a.length b.length).length<=a.length+2:=h2
   omega
  generalize hops:Xaz (Xj (XH a b) a.length b.length)=ops at *
  generalize hbs:Xj (XH a b) a.length b.length=bs
  repeat' got_up
  refine ⟨rfl,_,(oa,.list (ops.map Xc))::XJ w d dj jk pp a b mm (.lst (bs.map Xq)) (.ref oa) [],rfl,?_⟩
  generalize hc0:(if ops.isEmpty then [Op.mk Xo 0 1 0 1] else ops)=codes0
  refine Xd (TG.mono (K:=fun f st' rows'=>f=AFlow.next/\rows'=(XC n ops).map Xae/\∃ ca,st'=⟨[(Xzt,.int n),(Xy6,.inst 242 d),(XzU,.any),(XzL,.any),(XzO,.any),(XzM,.any),(XzP,.any),(XzV,.ref ca)],(ca,.list (codes0.map Xc))::XJ w d dj jk pp a b mm (.lst (bs.map Xq)) (.ref oa) []⟩) ?_ ?_)
  ·refine Xm fun A' hA' led' hN'=>?_
   repeat' got_up
   refine Xbd (.own (xs:=ops.map Xc) (by walk_at "mem")) (by rw [Xwi];omega) ?_
   repeat' got_up
   ·rename_i hc
    have he:ops=[]:=by
     cases ops with
     | nil=>rfl
     | cons o os=>cases hc
    subst he
    intro ca hca
    got_up
    refine T.perm (XxX _ _ _) (T.drop ?_)
    subst hc0
    refine Xce ?_
    exact ⟨rfl,_,(ca,.list ([Op.mk Xo 0 1 0 1].map Xc))::XJ w d dj jk pp a b mm (.lst (bs.map Xq)) (.ref oa) [],rfl,rfl,rfl,ca,rfl⟩
   ·rename_i hc
    have he:ops.isEmpty=false:=by
     cases ops with
     | nil=>cases hc
     | cons o os=>rfl
    rw [he] at hc0
    have hc0:ops=codes0:=hc0
    subst hc0
    exact ⟨rfl,_,(oa,.list (ops.map Xc))::XJ w d dj jk pp a b mm (.lst (bs.map Xq)) (.ref oa) [],rfl,rfl,rfl,oa,rfl⟩
  ·rintro f st' rows' ⟨rfl,rfl,ca,rfl⟩
   have hc1:∃ o os,codes0=o::os:=by
    subst hc0
    cases ops with
    | nil=>exact ⟨_,_,rfl⟩
    | cons o os=>exact ⟨o,os,rfl⟩
   obtain ⟨o,os,hc2⟩:=hc1
   have hlen0:os.length<10 ^ 6:=by
    have:codes0.length<=ops.length+1:=by
     subst hc0
     split
     ·simp
     ·omega
    rw [hc2] at this
    simp only [Xwn] at this
    omega
   refine Xd (TG.mono (K:=fun f st' rows'=>f=AFlow.next/\rows'=(XC n ops).map Xae/\∃ v1 v2 v3 v4 v5,st'=⟨[(Xzt,.int n),(Xy6,.inst 242 d),(XzU,v1),(XzL,v2),(XzO,v3),(XzM,v4),(XzP,v5),(XzV,.ref ca)],(ca,.list ((XaL n o::os).map Xc))::XJ w d dj jk pp a b mm (.lst (bs.map Xq)) (.ref oa) []⟩) ?_ ?_)
   ·refine Xm fun A' hA' led' hN'=>?_
    subst hc2
    refine Xji ?_
    refine XdT ?_ @_
    refine Xcf (T' := "tuple") XaP (fun _ _=>@_) ?_
    repeat' got_up
    refine Xy (.own (xs:=(o::os).map Xc) (by walk_at "mem")) nofun nofun (x:=Xc o) rfl ?_
    repeat' got_up
    refine Xah nofun nofun (x := .str o.tag) rfl ?_
    repeat' got_up
    ·rename_i hc
     have htag:o.tag=Xo:=by simpa using hc
     have hh:=hA'.h
     refine Xy (.own (xs:=(o::os).map Xc) (by walk_at "mem")) nofun nofun (x:=Xc o) rfl ?_
     unfold Xc
     repeat' got_up
     refine Xhm hh ?_
     repeat' got_up
     refine Xhm hh ?_
     repeat' got_up
     refine' XdH (j:=0) (xs:=(o::os).map Xc) (ys:=(XaL n o::os).map Xc) ?hU1 ?_ (.inl rfl) (by simp) (by simp;omega) ?_
     case hU1=>walk_at "upd"
     ·unfold XaL
      rw [if_pos htag]
      simp only [Xwr,List.set_cons_zero,Xc]
      congr 5
      ·omega
      ·congr 3
       omega
     refine Xce ?_
     exact ⟨rfl,_,(ca,.list ((XaL n o::os).map Xc))::XJ w d dj jk pp a b mm (.lst (bs.map Xq)) (.ref oa) [],rfl,rfl,rfl,_,_,_,_,_,rfl⟩
    ·rename_i hc
     have hho:XaL n o=o:=by
      unfold XaL
      rw [if_neg (by simpa using hc)]
     rw [hho]
     exact ⟨rfl,_,(ca,.list ((o::os).map Xc))::XJ w d dj jk pp a b mm (.lst (bs.map Xq)) (.ref oa) [],rfl,rfl,rfl,_,_,_,_,_,rfl⟩
   ·rintro f st' rows' ⟨rfl,rfl,v1,v2,v3,v4,v5,rfl⟩
    have hz:∃ ini z,XaL n o::os=ini++[z]:=by
     rcases Xy1 (XaL n o::os) with h | ⟨l,x,h⟩
     ·cases h
     ·exact ⟨l,x,by rw [h,Xy2]⟩
    obtain ⟨ini,z,hz⟩:=hz
    have htrim:Xbr n ops=ini++[Xa5 n z]:=by
     unfold Xbr
     rw [hc0,hc2]
     show Xa4 (Xa5 n) (XaL n o::os)=_
     rw [hz,XeE]
    have hilen:ini.length<10 ^ 6:=by
     have:=congrArg XyG hz
     simp only [Xwn,Xwo,XwF] at this
     omega
    rw [hz]
    refine Xd (TG.mono (K:=fun f st' rows'=>f=AFlow.next/\rows'=(XC n ops).map Xae/\∃ v1 v2 v3 v4 v5,st'=⟨[(Xzt,.int n),(Xy6,.inst 242 d),(XzU,v1),(XzL,v2),(XzO,v3),(XzM,v4),(XzP,v5),(XzV,.ref ca)],(ca,.list ((ini++[Xa5 n z]).map Xc))::XJ w d dj jk pp a b mm (.lst (bs.map Xq)) (.ref oa) []⟩) ?_ ?_)
    ·refine Xm fun A' hA' led' hN'=>?_
     have hh:=hA'.h
     refine Xji ?_
     refine XdT ?_ @_
     refine Xcf (T' := "tuple") XaP (fun _ _=>@_) ?_
     repeat' got_up
     refine Xcj (.own (xs:=(ini++[z]).map Xc) (by walk_at "mem")) (xs:=ini.map Xc) (x:=Xc z) (by simp) (by simp;omega) ?_
     repeat' got_up
     refine Xah nofun nofun (x := .str z.tag) rfl ?_
     repeat' got_up
     ·rename_i hc
      have htag:z.tag=Xo:=by simpa using hc
      refine Xcj (.own (xs:=(ini++[z]).map Xc) (by walk_at "mem")) (xs:=ini.map Xc) (x:=Xc z) (by simp) (by simp;omega) ?_
      unfold Xc
      repeat' got_up
      refine Xhl hh ?_
      repeat' got_up
      refine Xhl hh ?_
      repeat' got_up
      refine' XdH (j:=ini.length) (xs:=(ini++[z]).map Xc) (ys:=(ini++[Xa5 n z]).map Xc) ?hU2 ?_ (.inr ⟨by omega,by rw [Xwi,Xwo,Xwn,XwF];omega⟩) (by simp) (by simp;omega) ?_
      case hU2=>walk_at "upd"
      ·unfold Xa5
       rw [if_pos htag]
       have e1:((min z.i2 (z.i1+n):Nat):Int)=min (z.i2:Int) (z.i1+n):=by omega
       have e2:((min z.j2 (z.j1+n):Nat):Int)=min (z.j2:Int) (z.j1+n):=by omega
       rw [XwH,XwH,List.set_append_right _ _ (by simp)]
       simp only [Xwi,Nat.sub_self,Xwr,XyC,List.set_cons_zero,Xc,e1,e2]
      refine Xce ?_
      exact ⟨rfl,_,(ca,.list ((ini++[Xa5 n z]).map Xc))::XJ w d dj jk pp a b mm (.lst (bs.map Xq)) (.ref oa) [],rfl,rfl,rfl,_,_,_,_,_,rfl⟩
     ·rename_i hc
      have hho:Xa5 n z=z:=by
       unfold Xa5
       rw [if_neg (by simpa using hc)]
      rw [hho]
      exact ⟨rfl,_,(ca,.list ((ini++[z]).map Xc))::XJ w d dj jk pp a b mm (.lst (bs.map Xq)) (.ref oa) [],rfl,rfl,rfl,_,_,_,_,_,rfl⟩
    ·rintro f st' rows' ⟨rfl,rfl,v1,v2,v3,v4,v5,rfl⟩
     rw [← htrim]
     have hcl:(Xbr n ops).length<10 ^ 6+1:=by
      rw [htrim]
      simp only [Xwo,Xwn,XwF]
      omega
     unfold XC
     generalize Xbr n ops=cs at *
     refine Xd (Xm fun A' hA' led' hN'=>?_)
     repeat' got_up
     refine ⟨rfl,_,(ca,.list (cs.map Xc))::XJ w d dj jk pp a b mm (.lst (bs.map Xq)) (.ref oa) [],rfl,?_⟩
     refine Xd (Xm fun A' hA' led' hN'=>?_)
     repeat' got_up
     intro ga hga
     repeat' got_up
     refine ⟨rfl,_,(ga,.list [])::(ca,.list (cs.map Xc))::XJ w d dj jk pp a b mm (.lst (bs.map Xq)) (.ref oa) [],rfl,?_⟩
     refine TG.weak (.perm (XxX _ _ _)) (TG.freeze (loc' := ?lc3) ?rc3 ?_)
     case rc3=>walk_at "recast"
     dsimp only
     generalize XJ w d dj jk pp a b mm (.lst (bs.map Xq)) (.ref oa) []=X
     refine Xd (TG.mono (K:=fun f st' rows'=>f=AFlow.next/\∃ g v1 v2 v3 v4 v5 ga,rows'=(Xi n g []).map Xae/\g.length<10 ^ 7/\st'=⟨[(Xzt,.int n),(Xy6,.inst 242 d),(XzU,v1),(XzL,v2),(XzO,v3),(XzM,v4),(XzP,v5),(XzV,.lst (cs.map Xc)),(XzW,.int (n+n)),(XzX,.ref ga)],(ga,.list (g.map Xc))::X⟩) ?_ ?_)
     ·refine XcN (k:=5) nofun (J:=fun items st' rows'=>∃ g os v1 v2 v3 v4 v5 ga,items=os.map Xc/\rows'=(Xi n g os).map Xae/\g.length+2 * os.length<10 ^ 7/\st'=⟨[(Xzt,.int n),(Xy6,.inst 242 d),(XzU,v1),(XzL,v2),(XzO,v3),(XzM,v4),(XzP,v5),(XzV,.lst (cs.map Xc)),(XzW,.int (n+n)),(XzX,.ref ga)],(ga,.list (g.map Xc))::X⟩) ?_ ?_ ?_ (fun _=>@_)
      ·intro A' hA' led' hN'
       repeat' got_up
       exact XaE (k:=5) fun it gl hI=>⟨it,gl,(ga,.list [])::X,_,rfl,rfl,hI,[],cs,_,_,_,_,_,ga,rfl,rfl,by simp only [XwF];omega,rfl⟩
      ·rintro x xs st' rows' gl ⟨g,os',u1,u2,u3,u4,u5,gb,hxs,rfl,hgl,rfl⟩ A' hA' led' hN'
       cases os' with
       | nil=>cases hxs
       | cons p ps =>
        obtain ⟨rfl,rfl⟩:=Xx2 hxs
        have hh:=hA'.h
        obtain ⟨ptag,pi1,pi2,pj1,pj2⟩:=p
        rw [show Xc (Op.mk ptag pi1 pi2 pj1 pj2)=AV.tup [.str ptag,.int pi1,.int pi2,.int pj1,.int pj2] from rfl]
        repeat' got_up
        refine ⟨(gb,.list (g.map Xc))::X,rfl,?_⟩
        dsimp only
        simp only [Xwn] at hgl
        generalize hX:X++gl=Y
        show TG _ _ _ _ _ _ _ _ ⟨_,(gb,.list (g.map Xc))::(X++gl)⟩ _ _
        rw [hX]
        refine Xd (TG.mono (K:=fun f st' rows'=>f=AFlow.next/\∃ g',∃ qi qj:Nat,∃ gc,rows'=(Xi n (g'++[⟨ptag,qi,pi2,qj,pj2⟩]) ps).map Xae/\g'.length<=g.length/\st'=⟨[(Xzt,.int n),(Xy6,.inst 242 d),(XzU,.str ptag),(XzL,.int qi),(XzO,.int pi2),(XzM,.int qj),(XzP,.int pj2),(XzV,.lst (cs.map Xc)),(XzW,.int (n+n)),(XzX,.ref gc)],(gc,.list (g'.map Xc))::Y⟩) ?_ ?_)
        ·refine XbL fun A' hA' led' hN'=>?_
         repeat' got_up
         ·rename_i hc1 hc2
          have e1:ptag=Xo:=by simpa using hc1
          have e2:pi1+(n+n)<pi2:=by have:=of_decide_eq_true hc2;omega
          have eg:Xi n g (⟨ptag,pi1,pi2,pj1,pj2⟩::ps)=(g++[⟨ptag,pi1,min pi2 (pi1+n),pj1,min pj2 (pj1+n)⟩])::Xi n ([]++[⟨ptag,max pi1 (pi2 - n),pi2,max pj1 (pj2 - n),pj2⟩]) ps:=by
           rw [Xi,if_pos ⟨e1,e2⟩]
           rfl
          rw [eg]
          refine ⟨(gb,.list (g.map Xc))::Y,rfl,?_⟩
          rw [if_pos rfl]
          refine Xd (Xm fun A' hA' led' hN'=>?_)
          have hh:=hA'.h
          repeat' got_up
          refine Xhl hh ?_
          repeat' got_up
          refine Xhl hh ?_
          repeat' got_up
          refine' XN (xs:=g.map Xc) ?hU5 (by rw [Xwi,Xxs];omega) ?_
          case hU5=>walk_at "upd"
          repeat' got_up
          refine ⟨rfl,_,(gb,.list (g.map Xc++[_]))::Y,rfl,?_⟩
          refine TG.freeze (loc' := ?lc6) ?rc6 ?_
          case rc6=>walk_at "recast"
          refine Xd (XaC (fun A' hA' led' hN'=>?_) @_ @_)
          repeat' got_up
          refine ⟨Y,(Xi n ([]++[⟨ptag,max pi1 (pi2 - n),pi2,max pj1 (pj2 - n),pj2⟩]) ps).map Xae,?_,rfl,?_⟩
          ·rw [Xwr]
           congr 1
           have f1:((min pi2 (pi1+n):Nat):Int)=min (pi2:Int) (pi1+n):=by omega
           have f2:((min pj2 (pj1+n):Nat):Int)=min (pj2:Int) (pj1+n):=by omega
           simp only [Xae,XwH,Xwr,XyC,Xc,f1,f2]
          ·refine Xd (Xm fun A' hA' led' hN'=>?_)
           repeat' got_up
           intro gc hgc
           repeat' got_up
           refine ⟨rfl,_,(gc,.list [])::Y,rfl,?_⟩
           refine Xd (Xm fun A' hA' led' hN'=>?_)
           have hh:=hA'.h
           repeat' got_up
           refine Xhm hh ?_
           repeat' got_up
           refine Xhm hh ?_
           have f1:max (pi1:Int) (pi2 - n)=((max pi1 (pi2 - n):Nat):Int):=by omega
           have f2:max (pj1:Int) (pj2 - n)=((max pj1 (pj2 - n):Nat):Int):=by omega
           rw [f1,f2]
           repeat' got_up
           refine ⟨rfl,_,(gc,.list [])::Y,rfl,?_⟩
           refine Xv ?_
           exact ⟨rfl,[],max pi1 (pi2 - n),max pj1 (pj2 - n),gc,rfl,XwA _,rfl⟩
         ·rename_i hc1 hc2
          have eg:Xi n g (⟨ptag,pi1,pi2,pj1,pj2⟩::ps)=Xi n (g++[⟨ptag,pi1,pi2,pj1,pj2⟩]) ps:=by
           rw [Xi,if_neg]
           rintro ⟨-,h2⟩
           have:=of_decide_eq_false hc2
           dsimp only at h2
           omega
          rw [eg]
          refine ⟨(gb,.list (g.map Xc))::Y,rfl,?_⟩
          rw [if_neg (by simp)]
          refine Xv ?_
          exact ⟨rfl,g,pi1,pj1,gb,rfl,XwN _,rfl⟩
         ·rename_i hc1
          have eg:Xi n g (⟨ptag,pi1,pi2,pj1,pj2⟩::ps)=Xi n (g++[⟨ptag,pi1,pi2,pj1,pj2⟩]) ps:=by
           rw [Xi,if_neg]
           rintro ⟨h2,-⟩
           dsimp only at h2
           rw [h2] at hc1
           simp at hc1
          rw [eg]
          refine ⟨(gb,.list (g.map Xc))::Y,rfl,?_⟩
          rw [if_neg (by simp)]
          refine Xv ?_
          exact ⟨rfl,g,pi1,pj1,gb,rfl,XwN _,rfl⟩
        ·rintro f st' rows' ⟨rfl,g',qi,qj,gc,rfl,hg',rfl⟩
         refine Xd (Xm fun A' hA' led' hN'=>?_)
         repeat' got_up
         refine' XN (xs:=g'.map Xc) ?hU4 (by rw [Xwi,Xxs];omega) ?_
         case hU4=>walk_at "upd"
         repeat' got_up
         refine ⟨rfl,_,(gc,.list (g'.map Xc++[_]))::Y,rfl,?_⟩
         refine Xv ?_
         subst hX
         refine ⟨(gc,.list ((g'++[Op.mk ptag qi pi2 qj pj2]).map Xc))::X,by simp only [XwH,Xwr,XyC,Xc,Xws],?_⟩
         exact ⟨g'++[⟨ptag,qi,pi2,qj,pj2⟩],ps,_,_,_,_,_,gc,rfl,rfl,by simp only [Xwo,Xwn,XwF];omega,rfl⟩
      ·rintro st' rows' ⟨g,os',u1,u2,u3,u4,u5,gb,hxs,rfl,hgl,rfl⟩
       cases os' with
       | cons p ps=>cases hxs
       | nil=>exact ⟨rfl,g,_,_,_,_,_,gb,rfl,by simp only [XwF] at hgl;omega,rfl⟩
     ·rintro f st' rows' ⟨rfl,g,u1,u2,u3,u4,u5,gb,rfl,hgl,rfl⟩
      refine Xd (TG.mono (K:=fun f st' rows'=>f=AFlow.next/\rows'=[]) ?_ ?_)
      ·refine XbL fun A' hA' led' hN'=>?_
       repeat' got_up
       refine Xbd (.own (xs:=g.map Xc) (by walk_at "mem")) (by rw [Xwi];omega) ?_
       repeat' got_up
       ·rename_i hc1
        refine XaY (.own (xs:=g.map Xc) (by walk_at "mem")) (by rw [Xwi];omega) ?_
        repeat' got_up
        ·rename_i hc2
         have hg1:∃ q,g=[q]:=by
          have:g.length=1:=by simp at hc2;omega
          exact List.length_eq_one_iff.mp this
         obtain ⟨q,rfl⟩:=hg1
         refine Xy (.own (xs:=[q].map Xc) (by walk_at "mem")) nofun nofun (x:=Xc q) rfl ?_
         repeat' got_up
         refine Xah nofun nofun (x := .str q.tag) rfl ?_
         repeat' got_up
         ·rename_i hc3
          refine ⟨(gb,.list ([q].map Xc))::X,rfl,?_⟩
          have e1:q.tag=Xo:=by simpa using hc3
          have eg:Xi n [q] []=[]:=by simp [Xi,e1]
          rw [eg,if_neg (by simp)]
          exact Xv ⟨rfl,rfl⟩
         ·rename_i hc3
          refine ⟨(gb,.list ([q].map Xc))::X,rfl,?_⟩
          have e1 : ¬ q.tag=Xo:=by simpa using hc3
          have eg:Xi n [q] []=[[q]]:=by simp [Xi,e1]
          rw [eg,if_pos rfl]
          refine TG.freeze (loc' := ?lc7) ?rc7 ?_
          case rc7=>walk_at "recast"
          refine Xd (XaC (fun A' hA' led' hN'=>?_) @_ @_)
          repeat' got_up
          refine ⟨X,[],rfl,rfl,Xv ⟨rfl,rfl⟩⟩
        ·rename_i hc2
         refine ⟨(gb,.list (g.map Xc))::X,rfl,?_⟩
         have e1 : ¬ g.length=1:=by simp at hc2;omega
         have e2:g≠[]:=by
          rintro rfl
          simp at hc1
         have eg:Xi n g []=[g]:=by simp [Xi,e1,e2]
         rw [eg,if_pos rfl]
         refine TG.freeze (loc' := ?lc8) ?rc8 ?_
         case rc8=>walk_at "recast"
         refine Xd (XaC (fun A' hA' led' hN'=>?_) @_ @_)
         repeat' got_up
         refine ⟨X,[],rfl,rfl,Xv ⟨rfl,rfl⟩⟩
       ·rename_i hc1
        refine ⟨(gb,.list (g.map Xc))::X,rfl,?_⟩
        have e2:g=[]:=by
         cases g with
         | nil=>rfl
         | cons q qs=>simp at hc1
        subst e2
        have eg:Xi n [] []=[]:=rfl
        rw [eg,if_neg (by simp)]
        exact Xv ⟨rfl,rfl⟩
      ·rintro f st' rows' ⟨rfl,rfl⟩
       exact Xv rfl
end
section
def Xft(x:Str):Str:=(Xwk "\t" ++ x)
theorem Xpj{x:Str}{t u1:Tok}(hx:x.length<10 ^ 5):Meets (Builtin.«str.format» ⟨[.str (Str.mk #[9,123,125]) t,.str x u1],[]⟩) (fun _ R s=>∀ t' k,R (.ok (.ret (.str ((Xwk "\t" ++ x)) t'))) {s with toks:=k}):=by
 kfm_run
def Xe9(x y z:Str):Str:=(((Xwk "--- " ++ x)++y)++z)
theorem Xrv{x y z:Str}{t u1 u2 u3:Tok}(hx:x.length<10 ^ 5)(hy:y.length<10 ^ 5)(hz:z.length<10 ^ 5):Meets (Builtin.«str.format» ⟨[.str (Str.mk #[45,45,45,32,123,125,123,125,123,125]) t,.str x u1,.str y u2,.str z u3],[]⟩) (fun _ R s=>∀ t' k,R (.ok (.ret (.str ((((Xwk "--- " ++ x)++y)++z)) t'))) {s with toks:=k}):=by
 kfm_run
def XkB(x y z:Str):Str:=(((Xwk "+++ " ++ x)++y)++z)
theorem Xrw{x y z:Str}{t u1 u2 u3:Tok}(hx:x.length<10 ^ 5)(hy:y.length<10 ^ 5)(hz:z.length<10 ^ 5):Meets (Builtin.«str.format» ⟨[.str (Str.mk #[43,43,43,32,123,125,123,125,123,125]) t,.str x u1,.str y u2,.str z u3],[]⟩) (fun _ R s=>∀ t' k,R (.ok (.ret (.str ((((Xwk "+++ " ++ x)++y)++z)) t'))) {s with toks:=k}):=by
 kfm_run
def Xg5(x y z:Str):Str:=(((((Xwk "@@ -" ++ x)++Xwk " +")++y)++Xwk " @@")++z)
theorem XrB{x y z:Str}{t u1 u2 u3:Tok}(hx:x.length<10 ^ 5)(hy:y.length<10 ^ 5)(hz:z.length<10 ^ 5):Meets (Builtin.«str.format» ⟨[.str (Str.mk #[64,64,32,45,123,125,32,43,123,125,32,64,64,123,125]) t,.str x u1,.str y u2,.str z u3],[]⟩) (fun _ R s=>∀ t' k,R (.ok (.ret (.str ((((((Xwk "@@ -" ++ x)++Xwk " +")++y)++Xwk " @@")++z)) t'))) {s with toks:=k}):=by
 kfm_run
def XkC(x y z:Str):Str:=(((Xwk "*** " ++ x)++y)++z)
theorem Xry{x y z:Str}{t u1 u2 u3:Tok}(hx:x.length<10 ^ 5)(hy:y.length<10 ^ 5)(hz:z.length<10 ^ 5):Meets (Builtin.«str.format» ⟨[.str (Str.mk #[42,42,42,32,123,125,123,125,123,125]) t,.str x u1,.str y u2,.str z u3],[]⟩) (fun _ R s=>∀ t' k,R (.ok (.ret (.str ((((Xwk "*** " ++ x)++y)++z)) t'))) {s with toks:=k}):=by
 kfm_run
def Xg4(x y:Str):Str:=(((Xwk "*** " ++ x)++Xwk " ****")++y)
theorem XrA{x y:Str}{t u1 u2:Tok}(hx:x.length<10 ^ 5)(hy:y.length<10 ^ 5):Meets (Builtin.«str.format» ⟨[.str (Str.mk #[42,42,42,32,123,125,32,42,42,42,42,123,125]) t,.str x u1,.str y u2],[]⟩) (fun _ R s=>∀ t' k,R (.ok (.ret (.str ((((Xwk "*** " ++ x)++Xwk " ****")++y)) t'))) {s with toks:=k}):=by
 kfm_run
def XcK(x y:Str):Str:=(((Xwk "--- " ++ x)++Xwk " ----")++y)
theorem Xrz{x y:Str}{t u1 u2:Tok}(hx:x.length<10 ^ 5)(hy:y.length<10 ^ 5):Meets (Builtin.«str.format» ⟨[.str (Str.mk #[45,45,45,32,123,125,32,45,45,45,45,123,125]) t,.str x u1,.str y u2],[]⟩) (fun _ R s=>∀ t' k,R (.ok (.ret (.str ((((Xwk "--- " ++ x)++Xwk " ----")++y)) t'))) {s with toks:=k}):=by
 kfm_run
end
section
variable{prog:Xwx}{w:XwE}{A:Xww}{B:Frz}{env:Env}
abbrev Xdz(prog:Xwx)(w:XwE)(S:Str->Bool)(n:Nat):AObj := .obj (fun _ o=>Obj.SetObjOf (XwP prog w) o S n) fun _ _ _ _ x=>x
theorem Xjr{d:XwR}{S:Str->Bool}{n:Nat}{x:Str}{t:Tok}{s:Xwl}{Z:Frz}{loc:List (Str × AV)}{led led':Led}{Q:Bool->Xwl->Prop}{E:Value->Xwl->Prop}(hn:n+1<scanBound)
  (U:Upd d (Xdz prog w S n) (Xdz prog w (fun k=>S k || decide (k=x)) (if S x then n else n+1)) led led')
  (Sm:SimF B env s Z ⟨loc,led⟩) (hQ:∀ s',SimF B env s' Z ⟨loc,led'⟩->Ext (Xk env ⟨loc,led⟩) s Z s' Z (Xk env ⟨loc,led'⟩)->Q (!S x) s'):XwG (XwD prog w) A (setAdd d (.str x t)) Q E s:=by
 obtain ⟨o,ho,hso⟩:=Sm.own _ U.mem
 dsimp only at ho
 unfold setAdd
 refine Xwt (Xwe ((XwP prog w).pyHash (strKind_is prog w x t) ?_))
 refine wpAny_setAddHashed_of (s:={ s with toks:=s.toks+1}) (strKind_is prog w x t) rfl (hso.setOf ho nofun) hn fun h' hsb hS'=>?_
 obtain ⟨so',ho',hso'⟩:=hS'.objOf
 have P:=Sm.toSimL.upd U (h':=h') (tk:=s.toks+1) (fun b ob hb e=>hsb.extBut b ob hb e) rfl rfl ⟨so',ho',hso'⟩
 exact hQ _ (Sm.after P.1 P.2) P.2.toF
theorem Xmv{d:XwR}{S:Str->Bool}{n:Nat}{s:Xwl}{Z:Frz}{loc:List (Str × AV)}{led:Led}{Q:Unit->Xwl->Prop}{E:Value->Xwl->Prop}(hn:n<scanBound)
  (Sm:SimF B env s Z ⟨loc,(d,Xdz prog w S n)::led⟩) (hQ:∀ s',SimF B env s' Z ⟨loc,(d,Xdz prog w S n)::led⟩->Ext (Xk env ⟨loc,(d,Xdz prog w S n)::led⟩) s Z s' Z (Xk env ⟨loc,(d,Xdz prog w S n)::led⟩)->Q () s'):XwG (XwD prog w) A (setUnled d) Q E s:=by
 obtain ⟨o,ho,hso⟩:=Sm.own _ (Xwf ..)
 dsimp only at ho
 obtain ⟨hex,es,ep,t,hd,hel,hmem,hn',hf⟩:=hso
 have hb':es.size<scanBound:=by rw [hn'];exact hn
 have hf':({t with led:=false}:Xw2).fits es.size=true:=by cases t;exact hf
 unfold setUnled
 refine Xwe (Xxt ho hd hf ?_)
 dsimp only
 refine wpAny_storeSet_of ho hd ?_ (fits_of_scanBound hb')
 obtain ⟨_,hS⟩:=SetOf_store (knd:=XwP prog w) ho hex hd hel hmem hb' hf'
 obtain ⟨so',ho',hso'⟩:=hS.objOf
 rw [hn'] at hso'
 have P:=Sm.toSimL.upd (Upd.here (o':=Xdz prog w S n)) (h':=s.heap.update d (Obj.putSet es {t with led:=false})) (tk:=s.toks) (fun b ob hb e=>(XwT ..).extBut b ob hb e) rfl rfl ⟨so',ho',hso'⟩
 exact hQ _ (Sm.after P.1 P.2) P.2.toF
theorem Xkr{K:Frag}{c1 c2 x:Str}{k1 k2:Nat}{p1 p2 p:Pos}{t:Tok}{s:Xwl}{Z:Frz}{st:St}{Q:Value->Xwl->Prop}{E:Value->Xwl->Prop}(hc:∀ s:Xwl,K.In s.heap->∀ (Q:Bool->Xwl->Prop),(∀ b,Q b s)->XwG (XwD prog w) A (inMainModule env) Q E s)
  (Sm:SimF (Xg K) env s Z st) (hQ:∀ s',SimF (Xg K) env s' Z st->Ext (Xk env st) s Z s' Z (Xk env st)->Q (.bool (x == c1 || x == c2)) s') :
  XwG (XwD prog w) A (Xxy (.Set [.Constant (.str c1) k1 p1,.Constant (.str c2) k2 p2] 0 p) env) (fun b s₂=>KdiMark (XwD prog w) A E b (fun s₃=>XwG (XwD prog w) A (Xyo .In (.str x t) b) Q E s₃) s₂) E s:=by
 obtain ⟨loc,led⟩:=st
 rw [arm_eval_Set]
 refine Xwe (XwQ ?_)
 refine Xwe (hc s (XT Sm.base Sm.frozen) _ fun b=>?_)
 rw [kds_star [.Constant (.str c1) k1 p1,.Constant (.str c2) k2 p2] rfl,XxH]
 refine kds_core (ts:=(evalEach [.Constant (.str c1) k1 p1,.Constant (.str c2) k2 p2] env).map fun t=>do let v ← t;standAt p;XxW v) rfl ?_ ?_ ?_ fun lb=>?_
 ·refine List.findIdx?_eq_none_iff.mpr fun x hx=>?_
  obtain ⟨t,_,rfl⟩:=XwJ.mp hx
  rfl
 ·rw [Xwi,kds_len];show 2<=30;decide
 ·rw [XxH];try rfl
 ·have P:=Sm.toSimL.push (o:={ cls := .type "set",dict:=none,data := .set #[] 0 (.fresh 0 0 lb)}) (ao:=Xdz prog w (fun _=>false) 0) rfl s.toks ⟨_,Xwp _ rfl,PyProof.Rows.setObjOf_fresh lb⟩
  have S0:=Sm.after P.1 P.2
  refine kds_all p _ _ _ ?_
  show XwG (XwD prog w) A (Xxy (.Constant (.str c1) k1 p1) env) (fun v s'=>XwG (XwD prog w) A (Xxy (.Constant (.str c2) k2 p2) env) (fun v' s''=>KdsFill (XwD prog w) A E _ _ _ [v,v'] s'') E s') E _
  refine Xyu (Xyu ?_)
  have S1:=(S0.toks (s.toks+1)).toks (s.toks+1+1)
  refine kds_fill_cons (Xjr (n:=0) (by decide) Upd.here S1 fun s2 S2 X2=>?_)
  refine kds_fill_cons (Xjr (n:=1) (by decide) Upd.here S2 fun s3 S3 X3=>?_)
  refine kds_fill_nil rfl (kdi_mark ?_)
  have hn2:(if (false || decide (c2=c1))=true then 1 else 1+1)<scanBound:=by split <;> decide
  refine Xmv hn2 S3 fun s4 S4 X4=>?_
  obtain ⟨o,ho,hso⟩:=S4.own _ (Xwf ..)
  dsimp only at ho
  refine wpAny_inSet_of (knd:=XwP prog w) (k:=x) (strKind_is prog w x t) rfl (hso.setOf ho hn2) ?_
  have e:((false || decide (x=c1)) || decide (x=c2))=(x == c1 || x == c2):=by
   rw [Bool.false_or,XyB,Bool.or_eq_true,Bool.or_eq_true,decide_eq_true_eq,decide_eq_true_eq,beq_iff_eq,beq_iff_eq]
  rw [e]
  have X:=(((P.2.toF.trans (Ext.toks (s.toks+1+1))).trans X2).trans X3).trans X4
  exact hQ _ (S4.drop1.toks _) ((X.trans (Ext.toks _)).dropF (l:=[_]))
theorem Xpp{K:Frag}(hc:kdsCode K env.code=true){E:Value->Xwl->Prop}:∀ s:Xwl,K.In s.heap->∀ (Q:Bool->Xwl->Prop),(∀ b,Q b s)->XwG (XwD prog w) A (inMainModule env) Q E s:=fun s X Q h=>kds_main X hc h
theorem XpO{K:Frag}{l:Expr}{c1 c2:Str}{k1 k2:Nat}{p1 p2 p pos:Pos}{whole:Sem Value}{st:St}{R:Bool->St->Prop}(hc:kdsCode K env.code=true)(hm:behindInMarks .In (.Set [.Constant (.str c1) k1 p1,.Constant (.str c2) k2 p2] 0 p)=true)
  (h:T prog w A (Xg K) env Val (Xxy l env) st fun v st'=>∃ x,v = .str x/\R (x == c1 || x == c2) st'):T prog w A (Xg K) env XQ (isTrue (.Compare l [.In] [.Set [.Constant (.str c1) k1 p1,.Constant (.str c2) k2 p2] 0 p] pos) env whole) st R:=fun s Z S Q E hQ=>by
 refine kdi_test hm (h s Z S _ _ fun v y s1 Z1 st1 k S1 V X1=>?_)
 obtain ⟨x,rfl,k⟩:=k
 cases V
 refine Xkr (Xpp hc) S1 fun s2 S2 X2=>?_
 exact wpAny_truthy_bool (hQ _ _ s2 Z1 st1 k S2 rfl (X1.trans X2))
theorem XpN{K:Frag}{l:Expr}{c1 c2:Str}{k1 k2:Nat}{p1 p2 p pos:Pos}{st:St}{R:AV->St->Prop}(hc:∀ {E:Value->Xwl->Prop},∀ s:Xwl,K.In s.heap->∀ (Q:Bool->Xwl->Prop),(∀ b,Q b s)->XwG (XwD prog w) A (inMainModule env) Q E s)(hm:behindInMarks .In (.Set [.Constant (.str c1) k1 p1,.Constant (.str c2) k2 p2] 0 p)=true)
  (h:T prog w A (Xg K) env Val (Xxy l env) st fun v st'=>∃ x,v = .str x/\R (.bool (x == c1 || x == c2)) st'):T prog w A (Xg K) env Val (Xxy (.Compare l [.In] [.Set [.Constant (.str c1) k1 p1,.Constant (.str c2) k2 p2] 0 p] pos) env) st R:=fun s Z S Q E hQ=>by
 refine kdi_eval hm (h s Z S _ _ fun v y s1 Z1 st1 k S1 V X1=>?_)
 obtain ⟨x,rfl,k⟩:=k
 cases V
 refine Xkr hc S1 fun s2 S2 X2=>?_
 exact hQ _ _ s2 Z1 st1 k S2 (.bool _) (X1.trans X2)
end
section
section
variable{prog:Xwx}{w:XwE}{A:Xww}{B:Frz}{env:Env}
theorem Xdc{x:Str}{st:St}{R:AV->St->Prop}(hx:x.length<10 ^ 5)(h:R (.str (Xft x)) st):FC prog w A B env (.blt "str.format") [.str (Str.mk (Xxx [9,123,125])),.str x] [] st R :=
 Xhn (fun Z t p0 V0=>by cases V0;exact Xpj hx) h
theorem XiL{x y z:Str}{st:St}{R:AV->St->Prop}(hx:x.length<10 ^ 5)(hy:y.length<10 ^ 5)(hz:z.length<10 ^ 5)(h:R (.str (Xe9 x y z)) st):FC prog w A B env (.blt "str.format") [.str (Str.mk (Xxx [45,45,45,32,123,125,123,125,123,125])),.str x,.str y,.str z] [] st R :=
 Xdb (fun Z t p0 p1 p2 V0 V1 V2=>by cases V0;cases V1;cases V2;exact Xrv hx hy hz) h
theorem XpU{x y z:Str}{st:St}{R:AV->St->Prop}(hx:x.length<10 ^ 5)(hy:y.length<10 ^ 5)(hz:z.length<10 ^ 5)(h:R (.str (XkB x y z)) st):FC prog w A B env (.blt "str.format") [.str (Str.mk (Xxx [43,43,43,32,123,125,123,125,123,125])),.str x,.str y,.str z] [] st R :=
 Xdb (fun Z t p0 p1 p2 V0 V1 V2=>by cases V0;cases V1;cases V2;exact Xrw hx hy hz) h
theorem XpY{x y z:Str}{st:St}{R:AV->St->Prop}(hx:x.length<10 ^ 5)(hy:y.length<10 ^ 5)(hz:z.length<10 ^ 5)(h:R (.str (Xg5 x y z)) st):FC prog w A B env (.blt "str.format") [.str (Str.mk (Xxx [64,64,32,45,123,125,32,43,123,125,32,64,64,123,125])),.str x,.str y,.str z] [] st R :=
 Xdb (fun Z t p0 p1 p2 V0 V1 V2=>by cases V0;cases V1;cases V2;exact XrB hx hy hz) h
theorem XpV{x y z:Str}{st:St}{R:AV->St->Prop}(hx:x.length<10 ^ 5)(hy:y.length<10 ^ 5)(hz:z.length<10 ^ 5)(h:R (.str (XkC x y z)) st):FC prog w A B env (.blt "str.format") [.str (Str.mk (Xxx [42,42,42,32,123,125,123,125,123,125])),.str x,.str y,.str z] [] st R :=
 Xdb (fun Z t p0 p1 p2 V0 V1 V2=>by cases V0;cases V1;cases V2;exact Xry hx hy hz) h
theorem XpX{x y:Str}{st:St}{R:AV->St->Prop}(hx:x.length<10 ^ 5)(hy:y.length<10 ^ 5)(h:R (.str (Xg4 x y)) st):FC prog w A B env (.blt "str.format") [.str (Str.mk (Xxx [42,42,42,32,123,125,32,42,42,42,42,123,125])),.str x,.str y] [] st R :=
 XeA (fun Z t p0 p1 V0 V1=>by cases V0;cases V1;exact XrA hx hy) h
theorem XpW{x y:Str}{st:St}{R:AV->St->Prop}(hx:x.length<10 ^ 5)(hy:y.length<10 ^ 5)(h:R (.str (XcK x y)) st):FC prog w A B env (.blt "str.format") [.str (Str.mk (Xxx [45,45,45,32,123,125,32,45,45,45,45,123,125])),.str x,.str y] [] st R :=
 XeA (fun Z t p0 p1 V0 V1=>by cases V0;cases V1;exact Xrz hx hy) h
end
abbrev sE:Str:=⟨⟨[]⟩⟩
def Xaq(d:Str):Str:=if d.length=0 then sE else Xft d
def Xaw(a:List Str)(i j:Nat):List Str:=(a.drop i).take (j - i)
def opU(a b:List Str)(o:Op):List Str :=
 if o.tag=Xo then (Xaw a o.i1 o.i2).map (⟨⟨[32]⟩⟩ ++ ·)
 else (if o.tag=XR∨o.tag=Xaf then (Xaw a o.i1 o.i2).map (⟨⟨[45]⟩⟩ ++ ·) else [])++(if o.tag=XR∨o.tag=Xad then (Xaw b o.j1 o.j2).map (⟨⟨[43]⟩⟩ ++ ·) else [])
def op0:Op:=⟨sE,0,0,0,0⟩
def Xak(g:List Op):Op:=g.headD op0
def XV(g:List Op):Op:=g.getLastD op0
def Xeo(a b:List Str)(lt:Str)(g:List Op):List Str:=Xg5 (XA (Xak g).i1 (XV g).i2) (XA (Xak g).j1 (XV g).j2) lt::g.flatMap (opU a b)
def Xe4(ff tf fd td lt:Str):List Str:=[Xe9 ff (Xaq fd) lt,XkB tf (Xaq td) lt]
def Xao(a b:List Str)(ff tf fd td lt:Str):Bool->List (List Op)->List Str
 | _,[]=>[]
 | started,g::gs=>(if started then [] else Xe4 ff tf fd td lt)++(Xeo a b lt g++Xao a b ff tf fd td lt true gs)
structure GrpOk (la lb:Nat) (g:List Op):Prop where
 ne:g≠[]
 i:∀ o∈g,o.i1<=o.i2/\o.i2<=la
 j:∀ o∈g,o.j1<=o.j2/\o.j2<=lb
 ii:(Xak g).i1<=(XV g).i2
 jj:(Xak g).j1<=(XV g).j2
 len:g.length<10 ^ 7
 tg:∀ o∈g,o.tag=Xo∨o.tag=XR∨o.tag=Xaf∨o.tag=Xad
theorem GrpOk.split{la lb:Nat}{g:List Op}(h:GrpOk la lb g):∃ os,g=Xak g::os:=by
 cases g with
 | nil=>exact absurd rfl h.ne
 | cons o os=>exact ⟨os,rfl⟩
theorem GrpOk.last{la lb:Nat}{g:List Op}(h:GrpOk la lb g):∃ os,g=os++[XV g]:=by
 rcases Xy1 g with h' | ⟨l,x,h'⟩
 ·exact absurd h' h.ne
 ·refine ⟨l,?_⟩
  rw [Xy2] at h'
  subst h'
  simp [XV,List.getLastD_eq_getLast?]
theorem GrpOk.i2{la lb:Nat}{g:List Op}(h:GrpOk la lb g):(XV g).i2<=la/\(XV g).j2<=lb:=by
 obtain ⟨os,e⟩:=h.last
 have hm:XV g∈g:=by
  rw [e]
  simp
  exact .inr (by rw [← e])
 exact ⟨(h.i _ hm).2,(h.j _ hm).2⟩
end
def Asc:Nat->Nat->List Tri->Prop
 | _,_,[]=>True
 | i,j,t::ts=>i<=t.1/\j<=t.2.1/\Asc (t.1+t.2.2) (t.2.1+t.2.2) ts
theorem Asc.mono{i j i' j':Nat}:∀ {ts:List Tri},Asc i j ts->i'<=i->j'<=j->Asc i' j' ts
 | [],_,_,_=>trivial
 | t::ts,h,h1,h2=>⟨Xw4 h1 h.1,Xw4 h2 h.2.1,h.2.2⟩
theorem Asc.cut:∀ {xs:List Tri} {i j:Nat} {t:Tri} {ys:List Tri},t.2.2=0->Asc i j (xs++t::ys)->Asc i j (xs++ys)
 | [],i,j,t,ys,h0,h=>by
  obtain ⟨h1,h2,h3⟩:=h
  exact h3.mono nofun nofun
 | x::xs,i,j,t,ys,h0,h=>⟨h.1,h.2.1,Asc.cut h0 h.2.2⟩
theorem Asc.join:∀ {xs:List Tri} {i j:Nat} {s t:Tri} {ys:List Tri},s.1+s.2.2=t.1->s.2.1+s.2.2=t.2.1->Asc i j (xs++s::t::ys)->Asc i j (xs++(s.1,s.2.1,s.2.2+t.2.2)::ys)
 | [],i,j,s,t,ys,e1,e2,h=>by
  obtain ⟨h1,h2,h3,h4,h5⟩:=h
  exact ⟨h1,h2,h5.mono (by dsimp only;omega) (by dsimp only;omega)⟩
 | x::xs,i,j,s,t,ys,e1,e2,h=>⟨h.1,h.2.1,Asc.join e1 e2 h.2.2⟩
theorem Asc.adj:∀ (ts:List Tri) (s:Tri × List Tri) (r:List Tri),Asc 0 0 (s.2++s.1::(ts++r))->Asc 0 0 (Xas (ts.foldl XB s)++r)
 | [],s,r,h=>by
  show Asc 0 0 (Xas s++r)
  unfold Xas
  split
  ·rename_i h0;exact Asc.cut h0 h
  ·rw [XwK];exact h
 | t::ts,s,r,h=>by
  rw [Xxj]
  refine Asc.adj ts _ r ?_
  unfold XB
  split
  ·rename_i hc
   exact Asc.join hc.1 hc.2 h
  ·dsimp only
   split
   ·rename_i h0
    exact Asc.cut h0 h
   ·rw [XwK];exact h
theorem Asc.of_pairwise{la lb:Nat}:∀ {ts:List Tri} {i j:Nat},ts.Pairwise Xhg->(∀ t∈ts,i<=t.1/\j<=t.2.1)->(∀ t∈ts,t.1+t.2.2<=la/\t.2.1+t.2.2<=lb)->i<=la->j<=lb->Asc i j (ts++[(la,lb,0)])
 | [],i,j,_,_,_,h1,h2=>⟨h1,h2,trivial⟩
 | t::ts,i,j,hp,hl,hu,h1,h2=>by
  obtain ⟨p1,p2⟩:=Xys.mp hp
  have:=hl t (Xwf ..)
  have hu':=hu t (Xwf ..)
  exact ⟨this.1,this.2,Asc.of_pairwise p2 (fun u hm=>p1 u hm) (fun u hm=>hu u (Xwh _ hm)) hu'.1 hu'.2⟩
theorem XlO{fl:Nat->Nat->Nat->Nat->Tri}(ok:Xch fl)(la lb:Nat):Asc 0 0 (Xj fl la lb):=by
 unfold Xj
 refine Asc.adj _ _ _ ?_
 show Asc 0 0 ((0,0,0)::(mbW fl (0,la,0,lb)++[(la,lb,0)]))
 have hr:=fun t ht=>XaX ok (la - 0) 0 la 0 lb (XwA _) (XwA _) t ht
 exact ⟨XwN _,XwN _,Asc.of_pairwise (Xc5 ok _ _ _ _ _ (XwA _) (XwA _)) (fun t ht=>⟨XwA _,XwA _⟩) (fun t ht=>by have:=hr t ht;omega) (XwA _) (XwA _)⟩
def Path:Nat->Nat->List Op->Nat->Nat->Prop
 | i,j,[],i',j'=>i=i'/\j=j'
 | i,j,o::os,i',j'=>o.i1=i/\o.j1=j/\i<=o.i2/\j<=o.j2/\Path o.i2 o.j2 os i' j'
theorem Path.append:∀ {xs ys:List Op} {i j m n i' j':Nat},Path i j xs m n->Path m n ys i' j'->Path i j (xs++ys) i' j'
 | [],_,_,_,_,_,_,_,h,h'=>by obtain ⟨rfl,rfl⟩:=h;exact h'
 | x::xs,_,_,_,_,_,_,_,h,h'=>⟨h.1,h.2.1,h.2.2.1,h.2.2.2.1,h.2.2.2.2.append h'⟩
theorem Path.split:∀ {xs ys:List Op} {i j i' j':Nat},Path i j (xs++ys) i' j'->∃ m n,Path i j xs m n/\Path m n ys i' j'
 | [],_,i,j,_,_,h=>⟨i,j,⟨rfl,rfl⟩,h⟩
 | x::xs,_,i,j,_,_,h=>by
  obtain ⟨m,n,h1,h2⟩:=Path.split (xs:=xs) h.2.2.2.2
  exact ⟨m,n,⟨h.1,h.2.1,h.2.2.1,h.2.2.2.1,h1⟩,h2⟩
theorem Path.le:∀ {xs:List Op} {i j i' j':Nat},Path i j xs i' j'->i<=i'/\j<=j'
 | [],_,_,_,_,h=>by obtain ⟨rfl,rfl⟩:=h;exact ⟨XwN _,XwN _⟩
 | x::xs,_,_,_,_,h=>by
  have:=Path.le h.2.2.2.2
  have h1:=h.2.2.1
  have h2:=h.2.2.2.1
  omega
theorem Path.mem:∀ {xs:List Op} {i j i' j':Nat},Path i j xs i' j'->∀ o∈xs,i<=o.i1/\o.i1<=o.i2/\o.i2<=i'/\j<=o.j1/\o.j1<=o.j2/\o.j2<=j'
 | x::xs,i,j,i',j',h,o,ho=>by
  obtain ⟨h1,h2,h3,h4,h5⟩:=h
  have hl:=h5.le
  rcases Xwm.mp ho with rfl | ho
  ·omega
  ·have:=Path.mem h5 o ho
   omega
theorem XjA:∀ (ts:List Tri) (s:(Nat × Nat) × List Op),Asc s.1.1 s.1.2 ts->Path 0 0 s.2 s.1.1 s.1.2->Path 0 0 (ts.foldl Xu s).2 (ts.foldl Xu s).1.1 (ts.foldl Xu s).1.2
 | [],s,_,h=>h
 | t::ts,s,ha,h=>by
  rw [Xxj]
  obtain ⟨a1,a2,a3⟩:=ha
  refine XjA ts _ a3 ?_
  unfold Xu
  dsimp only
  rw [XwK]
  refine h.append ?_
  have h1:Path s.1.1 s.1.2 (Xal s.1.1 t.1 s.1.2 t.2.1) t.1 t.2.1:=by
   unfold Xal
   split
   ·exact ⟨rfl,rfl,a1,a2,rfl,rfl⟩
   ·split
    ·exact ⟨rfl,rfl,a1,a2,rfl,rfl⟩
    ·split
     ·exact ⟨rfl,rfl,a1,a2,rfl,rfl⟩
     ·exact ⟨by omega,by omega⟩
  have h2:Path t.1 t.2.1 (Xam t) (t.1+t.2.2) (t.2.1+t.2.2):=by
   unfold Xam
   split
   ·exact ⟨by omega,by omega⟩
   ·exact ⟨rfl,rfl,by dsimp only;omega,by dsimp only;omega,rfl,rfl⟩
  exact h1.append h2
theorem XsZ:∀ (ts:List Tri) (s:(Nat × Nat) × List Op) (la lb:Nat),((ts++[(la,lb,0)]).foldl Xu s).1=(la,lb):=fun ts s la lb=>by
 rw [List.foldl_append];rfl
theorem Xiv{fl:Nat->Nat->Nat->Nat->Tri}(ok:Xch fl)(la lb:Nat):Path 0 0 (Xaz (Xj fl la lb)) la lb:=by
 have h:=XjA (Xj fl la lb) ((0,0),[]) (XlO ok la lb) ⟨rfl,rfl⟩
 have e:((Xj fl la lb).foldl Xu ((0,0),[])).1=(la,lb):=by unfold Xj;exact XsZ _ _ _ _
 rw [e] at h
 exact h
def InP(la lb:Nat)(g:List Op):Prop:=∃ i j i' j',Path i j g i' j'/\i'<=la/\j'<=lb
theorem XdM(f:Op->Op)(z:Op):∀ (xs:List Op),Xa4 f (xs++[z])=xs++[f z]
 | []=>rfl
 | [x]=>rfl
 | x::y::xs=>by
  show x::Xa4 f (y::xs++[z])=_
  rw [XdM f z (y::xs)]
  rfl
theorem InP.head{la lb n:Nat}{g:List Op}(h:InP la lb g):InP la lb (Xb7 (XaL n) g):=by
 cases g with
 | nil=>exact h
 | cons o os =>
  obtain ⟨i,j,i',j',hp,h1,h2⟩:=h
  obtain ⟨p1,p2,p3,p4,p5⟩:=hp
  show InP la lb (XaL n o::os)
  unfold XaL
  split
  ·exact ⟨_,_,i',j',⟨rfl,rfl,by dsimp only;omega,by dsimp only;omega,p5⟩,h1,h2⟩
  ·exact ⟨i,j,i',j',⟨p1,p2,p3,p4,p5⟩,h1,h2⟩
theorem InP.last{la lb n:Nat}{g:List Op}(h:InP la lb g):InP la lb (Xa4 (Xa5 n) g):=by
 rcases Xy1 g with h' | ⟨l,x,h'⟩
 ·subst h';exact h
 ·rw [Xy2] at h'
  subst h'
  rw [XdM]
  obtain ⟨i,j,i',j',hp,h1,h2⟩:=h
  obtain ⟨m,k,p1,p2⟩:=hp.split
  obtain ⟨q1,q2,q3,q4,q5,q6⟩:=p2
  unfold Xa5
  split
  ·refine ⟨i,j,_,_,p1.append ⟨q1,q2,?_,?_,rfl,rfl⟩,?_,?_⟩ <;> dsimp only <;> omega
  ·exact ⟨i,j,i',j',p1.append ⟨q1,q2,q3,q4,q5,q6⟩,h1,h2⟩
theorem XdQ{la lb n:Nat}:∀ (codes group:List Op) (i j m k i' j':Nat),Path i j group m k->Path m k codes i' j'->i'<=la->j'<=lb->∀ g∈Xi n group codes,g≠[]/\InP la lb g
 | [],group,i,j,m,k,i',j',h1,h2,h3,h4,g,hg=>by
  obtain ⟨rfl,rfl⟩:=h2
  unfold Xi at hg
  split at hg
  ·cases hg
  ·rename_i hne
   split at hg
   ·cases hg
   ·rw [Xwy] at hg
    subst hg
    exact ⟨by rintro rfl;exact hne rfl,i,j,m,k,h1,h3,h4⟩
 | o::os,group,i,j,m,k,i',j',h1,h2,h3,h4,g,hg=>by
  obtain ⟨q1,q2,q3,q4,q5⟩:=h2
  have hl:=q5.le
  rw [Xi] at hg
  split at hg
  ·rename_i hc
   rcases Xwm.mp hg with rfl | hg
   ·refine ⟨by simp,i,j,min o.i2 (o.i1+n),min o.j2 (o.j1+n),h1.append ⟨q1,q2,?_,?_,rfl,rfl⟩,?_,?_⟩ <;> (try dsimp only) <;> omega
   ·exact XdQ os [⟨o.tag,max o.i1 (o.i2 - n),o.i2,max o.j1 (o.j2 - n),o.j2⟩] (max o.i1 (o.i2 - n)) (max o.j1 (o.j2 - n)) o.i2 o.j2 i' j' ⟨rfl,rfl,by dsimp only;omega,by dsimp only;omega,rfl,rfl⟩ q5 h3 h4 g hg
  ·exact XdQ os (group++[o]) i j o.i2 o.j2 i' j' (h1.append ⟨q1,q2,q3,q4,rfl,rfl⟩) q5 h3 h4 g hg
theorem Xoi{la lb n:Nat}{codes:List Op}(h:InP la lb codes):codes≠[]->∀ g∈XC n codes,g≠[]/\InP la lb g:=fun hne g hg=>by
 unfold XC Xbr at hg
 have he:codes.isEmpty=false:=by cases codes with
  | nil=>exact absurd rfl hne
  | cons _ _=>rfl
 rw [he] at hg
 obtain ⟨i,j,i',j',hp,h1,h2⟩:=(h.head (n:=n)).last (n:=n)
 exact XdQ _ [] i j i j i' j' ⟨rfl,rfl⟩ hp h1 h2 g hg
theorem XfH{n:Nat}:XC n []=[]:=by
 unfold XC Xbr
 show Xi n [] [Xa5 n (XaL n ⟨Xo,0,1,0,1⟩)]=[]
 unfold XaL Xa5
 dsimp only
 rw [if_pos rfl]
 dsimp only
 rw [if_pos rfl]
 unfold Xi
 rw [if_neg (by dsimp only;omega)]
 simp [Xi]
theorem Xpt{fl:Nat->Nat->Nat->Nat->Tri}(ok:Xch fl)(la lb n:Nat):∀ g∈XC n (Xaz (Xj fl la lb)),g≠[]/\InP la lb g:=by
 by_cases h:Xaz (Xj fl la lb)=[]
 ·rw [h,XfH];intro g hg;cases hg
 ·exact Xoi ⟨0,0,la,lb,Xiv ok la lb,XwN _,XwN _⟩ h
theorem Xdo{n:Nat}:∀ (codes group:List Op),∀ g∈Xi n group codes,g.length<=group.length+codes.length+1
 | [],group,g,hg=>by
  unfold Xi at hg
  split at hg
  ·cases hg
  ·split at hg
   ·cases hg
   ·rw [Xwy] at hg
    subst hg;simp
 | o::os,group,g,hg=>by
  rw [Xi] at hg
  split at hg
  ·rcases Xwm.mp hg with rfl | hg
   ·simp only [Xwo,Xwn,XwF];omega
   ·have:=Xdo os _ g hg
    simp only [Xwn,XwF] at this ⊢;omega
  ·have:=Xdo os _ g hg
   simp only [Xwo,Xwn,XwF] at this ⊢;omega
theorem Xeh(f:Op->Op):∀ xs,(Xa4 f xs).length=xs.length
 | []=>rfl
 | [x]=>rfl
 | x::y::xs=>by rw [Xa4,Xwn,Xeh f (y::xs)];rfl
theorem Xlz{n:Nat}{codes:List Op}:∀ g∈XC n codes,g.length<=codes.length+2:=fun g hg=>by
 have h:=Xdo _ _ g hg
 unfold Xbr at h
 rw [Xeh] at h
 have:∀ xs,(Xb7 (XaL n) xs).length=xs.length:=fun xs=>by cases xs <;> rfl
 rw [this] at h
 split at h
 ·simp only [Xwn,XwF] at h;omega
 ·simp only [XwF] at h;omega
def Xjh(t:Str):Prop:=t=Xo∨t=XR∨t=Xaf∨t=Xad
def TagsOk(os:List Op):Prop:=∀ o∈os,Xjh o.tag
theorem TagsOk.app{xs ys:List Op}(h:TagsOk xs)(h':TagsOk ys):TagsOk (xs++ys):=fun o ho=>(Xw5.mp ho).elim (h o) (h' o)
theorem Xpf(bs:List Tri):TagsOk (Xaz bs):=by
 have key:∀ (ts:List Tri) (s:(Nat × Nat) × List Op),TagsOk s.2->TagsOk (ts.foldl Xu s).2:=by
  intro ts
  induction ts with
  | nil=>intro s h;exact h
  | cons t ts ih =>
   intro s h
   rw [Xxj]
   refine ih _ ?_
   unfold Xu
   dsimp only
   refine (h.app ?_).app ?_
   ·unfold Xal TagsOk Xjh
    intro o ho
    split at ho
    ·rw [Xwy] at ho;subst ho;simp
    ·split at ho
     ·rw [Xwy] at ho;subst ho;simp
     ·split at ho
      ·rw [Xwy] at ho;subst ho;simp
      ·cases ho
   ·unfold Xam TagsOk Xjh
    intro o ho
    split at ho
    ·cases ho
    ·rw [Xwy] at ho;subst ho;simp
 exact key bs ((0,0),[]) (fun o ho=>by cases ho)
theorem XiA(n:Nat)(o:Op):(XaL n o).tag=o.tag:=by unfold XaL;split <;> rfl
theorem Xiz(n:Nat)(o:Op):(Xa5 n o).tag=o.tag:=by unfold Xa5;split <;> rfl
theorem Xlo{n:Nat}{os:List Op}(h:TagsOk os):TagsOk (Xb7 (XaL n) os):=by
 cases os with
 | nil=>exact h
 | cons o os =>
  intro p hp
  rcases Xwm.mp hp with rfl | hp
  ·rw [XiA];exact h o (Xwf ..)
  ·exact h p (Xwh _ hp)
theorem Xln{n:Nat}{os:List Op}(h:TagsOk os):TagsOk (Xa4 (Xa5 n) os):=by
 rcases Xy1 os with h' | ⟨l,x,h'⟩
 ·subst h';exact h
 ·rw [Xy2] at h'
  subst h'
  rw [XdM]
  refine TagsOk.app (fun o ho=>h o (Xxf _ ho)) fun o ho=>?_
  rw [Xwy] at ho
  subst ho
  rw [Xiz]
  exact h x (XwM _ (Xwy.mpr rfl))
theorem XcY{n:Nat}:∀ (codes group:List Op),TagsOk codes->TagsOk group->∀ g∈Xi n group codes,TagsOk g
 | [],group,_,h2,g,hg=>by
  unfold Xi at hg
  split at hg
  ·cases hg
  ·split at hg
   ·cases hg
   ·rw [Xwy] at hg
    subst hg;exact h2
 | o::os,group,h1,h2,g,hg=>by
  have ho:=h1 o (Xwf ..)
  have hos:TagsOk os:=fun p hp=>h1 p (Xwh _ hp)
  rw [Xi] at hg
  split at hg
  ·rcases Xwm.mp hg with rfl | hg
   ·exact h2.app fun p hp=>by rw [Xwy] at hp;subst hp;exact ho
   ·exact XcY os _ hos (fun p hp=>by rw [Xwy] at hp;subst hp;exact ho) g hg
  ·exact XcY os _ hos (h2.app fun p hp=>by rw [Xwy] at hp;subst hp;exact ho) g hg
theorem Xkw{n:Nat}{codes:List Op}(h:TagsOk codes):∀ g∈XC n codes,TagsOk g:=by
 unfold XC Xbr
 refine XcY _ _ (Xln (Xlo ?_)) fun o ho=>by cases ho
 split
 ·intro o ho;rw [Xwy] at ho;subst ho;exact .inl rfl
 ·exact h
def XG(idx:Nat->List Nat)(alo blo bhi:Nat):Nat->Nat->Nat
 | 0,j=>if alo<=0/\blo<=j/\j<bhi/\j∈idx 0 then 1 else 0
 | i+1,0=>if alo<=i+1/\blo<=0/\0<bhi/\0∈idx (i+1) then 1 else 0
 | i+1,j+1=>if alo<=i+1/\blo<=j+1/\j+1<bhi/\j+1∈idx (i+1) then XG idx alo blo bhi i j+1 else 0
theorem XcH{idx:Nat->List Nat}{alo blo bhi i j:Nat}(h : ¬ (alo<=i/\blo<=j/\j<bhi/\j∈idx i)):XG idx alo blo bhi i j=0:=by
 cases i with
 | zero=>unfold XG;exact if_neg h
 | succ i=>cases j with
  | zero=>unfold XG;exact if_neg h
  | succ j=>unfold XG;exact if_neg h
theorem Xf4{idx:Nat->List Nat}{alo blo bhi i j:Nat}(h:alo<=i/\blo<=j/\j<bhi/\j∈idx i):0<XG idx alo blo bhi i j:=by
 cases i with
 | zero=>unfold XG;rw [if_pos h];exact Nat.one_pos
 | succ i=>cases j with
  | zero=>unfold XG;rw [if_pos h];exact Nat.one_pos
  | succ j=>unfold XG;rw [if_pos h];exact Nat.succ_pos _
theorem XdB{idx:Nat->List Nat}{alo blo bhi i j:Nat}(h:alo<=i+1/\blo<=j+1/\j+1<bhi/\j+1∈idx (i+1)):XG idx alo blo bhi (i+1) (j+1)=XG idx alo blo bhi i j+1:=by
 rw [XG,if_pos h]
structure BestOf (f:Nat->Nat->Nat) (alo blo:Nat) (p:Nat->Nat->Prop) (t:Tri):Prop where
 ge:∀ i j,p i j->f i j<=t.2.2
 at_:t.2.2=0->t.1=alo/\t.2.1=blo
 hit:t.2.2≠0->∃ i j,p i j/\f i j=t.2.2/\t.1+t.2.2=i+1/\t.2.1+t.2.2=j+1/\∀ i' j',p i' j'->(i'<i∨(i'=i/\j'<j))->f i' j'<t.2.2
def Xcc(alo i j:Nat)(i' j':Nat):Prop:=alo<=i'/\(i'<i∨(i'=i/\j'<j))
structure RowOk (idx:Nat->List Nat) (alo blo bhi i:Nat) (D:Int->Nat):Prop where
 at_:∀ j:Nat,D (j:Int)=if alo<i then XG idx alo blo bhi (i - 1) j else 0
 neg:D (-1)=0
theorem Xip{idx:Nat->List Nat}{alo blo bhi i j:Nat}{D:Int->Nat}(hD:RowOk idx alo blo bhi i D)(hi:alo<=i)(h1:blo<=j)(h2:j<bhi)(h3:j∈idx i):D ((j:Int) - 1)+1=XG idx alo blo bhi i j:=by
 cases j with
 | zero =>
  rw [show ((0:Nat):Int) - 1 = -1 from rfl,hD.neg]
  cases i with
  | zero=>unfold XG;rw [if_pos ⟨hi,h1,h2,h3⟩]
  | succ i=>unfold XG;rw [if_pos ⟨hi,h1,h2,h3⟩]
 | succ j =>
  rw [show ((j+1:Nat):Int) - 1=(j:Int) from by omega,hD.at_]
  cases i with
  | zero=>rw [if_neg nofun];unfold XG;rw [if_pos ⟨hi,h1,h2,h3⟩]
  | succ i =>
   rw [XdB ⟨hi,h1,h2,h3⟩]
   by_cases q:alo<i+1
   ·rw [if_pos q];rfl
   ·rw [if_neg q,XcH nofun]
theorem Xl0{idx:Nat->List Nat}{alo blo bhi:Nat}:∀ (i j:Nat),XG idx alo blo bhi i j<=i+1/\XG idx alo blo bhi i j<=j+1
 | 0,j=>by unfold XG;split <;> omega
 | i+1,0=>by unfold XG;split <;> omega
 | i+1,j+1=>by
  have:=Xl0 (idx:=idx) (alo:=alo) (blo:=blo) (bhi:=bhi) i j
  rw [XG]
  split <;> omega
theorem BestOf.step{idx:Nat->List Nat}{alo blo bhi i j:Nat}{D:Int->Nat}{s2:(Int->Nat) × Tri}{j0:Nat}(hD:RowOk idx alo blo bhi i D)(hi:alo<=i)(h1:blo<=j)(h2:j<bhi)(h3:j∈idx i)(hj0:j0<=j)
  (hgap:∀ j',j0<=j'->j'<j->XG idx alo blo bhi i j'=0) (hB:BestOf (XG idx alo blo bhi) alo blo (Xcc alo i j0) s2.2):BestOf (XG idx alo blo bhi) alo blo (Xcc alo i (j+1)) (XaM D i s2 j).2:=by
 have e:=Xip hD hi h1 h2 h3
 have hl:=Xl0 (idx:=idx) (alo:=alo) (blo:=blo) (bhi:=bhi) i j
 have hup:∀ i' j',Xcc alo i (j+1) i' j'->Xcc alo i j0 i' j'∨(i'=i/\j'=j)∨XG idx alo blo bhi i' j'=0:=fun i' j' hb=>by
  obtain ⟨q1,q2⟩:=hb
  rcases q2 with q2 | ⟨rfl,q3⟩
  ·exact .inl ⟨q1,.inl q2⟩
  ·rcases Xxp j' j0 with q4 | q4
   ·exact .inl ⟨q1,.inr ⟨rfl,q4⟩⟩
   ·rcases Xxp j' j with q5 | q5
    ·exact .inr (.inr (hgap j' q4 q5))
    ·exact .inr (.inl ⟨rfl,by omega⟩)
 unfold XaM
 dsimp only
 by_cases hc:s2.2.2.2<D ((j:Int) - 1)+1
 ·rw [if_pos hc]
  refine ⟨fun i' j' hb=>?_,fun h0=>by dsimp only at h0;omega,fun _=>⟨i,j,⟨hi,.inr ⟨rfl,by omega⟩⟩,by rw [← e],by dsimp only;omega,by dsimp only;omega,fun i' j' hb hlt=>?_⟩⟩
  ·dsimp only
   rcases hup i' j' hb with h | ⟨rfl,rfl⟩ | h
   ·have:=hB.ge i' j' h;omega
   ·omega
   ·omega
  ·dsimp only
   rcases hup i' j' hb with h | ⟨rfl,rfl⟩ | h
   ·have:=hB.ge i' j' h;omega
   ·omega
   ·omega
 ·rw [if_neg hc]
  refine ⟨fun i' j' hb=>?_,hB.at_,fun h0=>?_⟩
  ·rcases hup i' j' hb with h | ⟨rfl,rfl⟩ | h
   ·exact hB.ge i' j' h
   ·omega
   ·omega
  ·obtain ⟨i1,j1,p1,p2,p3,p4,p5⟩:=hB.hit h0
   refine ⟨i1,j1,⟨p1.1,?_⟩,p2,p3,p4,fun i' j' hb hlt=>?_⟩
   ·rcases p1.2 with q | ⟨q,r⟩
    ·exact .inl q
    ·exact .inr ⟨q,by omega⟩
   ·rcases hup i' j' hb with h | ⟨rfl,rfl⟩ | h
    ·exact p5 i' j' h hlt
    ·rcases p1.2 with q | ⟨q,r⟩
     ·rcases hlt with z | ⟨z,z'⟩ <;> omega
     ·rcases hlt with z | ⟨z,z'⟩ <;> omega
    ·omega
theorem Xg1{idx:Nat->List Nat}{alo blo bhi i:Nat}{D:Int->Nat}(hD:RowOk idx alo blo bhi i D)(hi:alo<=i):∀ (js:List Nat) (j0:Nat) (s2:(Int->Nat) × Tri),js.Pairwise (· < ·)->(∀ j∈js,j0<=j/\blo<=j/\j<bhi/\j∈idx i) ->
  (∀ j,j0<=j->blo<=j->j<bhi->j∈idx i->j∈js)->(∀ j:Nat,s2.1 (j:Int)=if j<j0 then XG idx alo blo bhi i j else 0)->s2.1 (-1)=0->BestOf (XG idx alo blo bhi) alo blo (Xcc alo i j0) s2.2 ->
  (∀ j:Nat,(js.foldl (XaM D i) s2).1 (j:Int)=XG idx alo blo bhi i j)/\(js.foldl (XaM D i) s2).1 (-1)=0/\BestOf (XG idx alo blo bhi) alo blo (Xcc alo (i+1) 0) (js.foldl (XaM D i) s2).2
 | [],j0,s2,_,_,hall,hs,hn,hB=>by
  have hz:∀ j,j0<=j->XG idx alo blo bhi i j=0:=fun j hj=>XcH fun h=>by cases hall j hj h.2.1 h.2.2.1 h.2.2.2
  refine ⟨fun j=>?_,hn,⟨fun i' j' hb=>?_,hB.at_,fun h0=>?_⟩⟩
  ·show s2.1 (j:Int)=_
   rw [hs]
   split
   ·rfl
   ·rw [hz j nofun]
  ·show XG idx alo blo bhi i' j'<=s2.2.2.2
   by_cases q:i'=i
   ·subst q
    rcases Xxp j' j0 with q4 | q4
    ·exact hB.ge i' j' ⟨hi,.inr ⟨rfl,q4⟩⟩
    ·rw [hz j' q4];exact XwA _
   ·obtain ⟨q1,q2⟩:=hb
    exact hB.ge i' j' ⟨q1,.inl nofun⟩
  ·obtain ⟨i1,j1,p1,p2,p3,p4,p5⟩:=hB.hit h0
   refine ⟨i1,j1,⟨p1.1,.inl ?_⟩,p2,p3,p4,fun i' j' hb hlt=>?_⟩
   ·rcases p1.2 with q | ⟨q,r⟩ <;> omega
   ·by_cases q:i'=i
    ·subst q
     rcases Xxp j' j0 with q4 | q4
     ·exact p5 i' j' ⟨hi,.inr ⟨rfl,q4⟩⟩ hlt
     ·rw [hz j' q4];exact Nat.pos_of_ne_zero h0
    ·obtain ⟨q1,q2⟩:=hb
     exact p5 i' j' ⟨q1,.inl nofun⟩ hlt
 | j::js,j0,s2,hp,hm,hall,hs,hn,hB=>by
  obtain ⟨p1,p2⟩:=Xys.mp hp
  obtain ⟨m1,m2,m3,m4⟩:=hm j (Xwf ..)
  have hgap:∀ j',j0<=j'->j'<j->XG idx alo blo bhi i j'=0:=fun j' h1 h2=>XcH fun h=>by
   rcases Xwm.mp (hall j' h1 h.2.1 h.2.2.1 h.2.2.2) with q | q
   ·omega
   ·have:=p1 j' q;omega
  rw [Xxj]
  refine Xg1 hD hi js (j+1) _ p2 (fun j' h'=>?_) (fun j' h1 h2 h3 h4=>?_) (fun j'=>?_) ?_ (hB.step hD hi m2 m3 m4 m1 hgap)
  ·have:=hm j' (Xwh _ h')
   exact ⟨p1 j' h',this.2⟩
  ·rcases Xwm.mp (hall j' nofun h2 h3 h4) with q | q
   ·omega
   ·exact q
  ·unfold XaM
   dsimp only
   by_cases q:(j':Int)=(j:Int)
   ·rw [if_pos q,Xip hD hi m2 m3 m4]
    have:j'=j:=by omega
    subst this
    rw [if_pos nofun]
   ·rw [if_neg q,hs]
    by_cases q1:j'<j0
    ·rw [if_pos q1,if_pos nofun]
    ·rw [if_neg q1]
     by_cases q2:j'<j+1
     ·rw [if_pos q2,hgap j' nofun nofun]
     ·rw [if_neg q2]
  ·unfold XaM
   dsimp only
   rw [if_neg nofun]
   exact hn
theorem Xmp{blo bhi j:Nat}{js:List Nat}(h1:blo<=j)(h2:j<bhi)(h3:j∈js):j∈within blo bhi js:=by
 unfold within
 exact Xx0.mpr ⟨h3,by simp;omega⟩
theorem Xin{idx:Nat->List Nat}{alo blo bhi:Nat}(hsort:∀ i,(idx i).Pairwise (· < ·)):∀ (n i:Nat) (s:(Int->Nat) × Tri),alo<=i->RowOk idx alo blo bhi i s.1->BestOf (XG idx alo blo bhi) alo blo (Xcc alo i 0) s.2 ->
  BestOf (XG idx alo blo bhi) alo blo (Xcc alo (i+n) 0) (Xbg idx blo bhi (Xxm i n) s).2
 | 0,i,s,_,_,hB=>hB
 | n+1,i,s,hi,hD,hB=>by
  rw [Xyn,show i+(n+1)=i+1+n from by omega]
  obtain ⟨h1,h2,h3⟩:=Xg1 hD hi (within blo bhi (idx i)) 0 (fun _=>0,s.2) ((hsort i).filter _) (fun j hj=>⟨XwA _,(Xd9 hj).1,(Xd9 hj).2,(Xx0.mp hj).1⟩) (fun j _ a b c=>Xmp a b c) (fun j=>by rw [if_neg nofun]) rfl hB
  exact Xin hsort n (i+1) (XcS (idx i) blo bhi i s) nofun ⟨fun j=>by rw [if_pos nofun,Nat.add_sub_cancel];exact h1 j,h2⟩ h3
theorem Xio{idx:Nat->List Nat}{alo ahi blo bhi:Nat}(hsort:∀ i,(idx i).Pairwise (· < ·))(h:alo<=ahi):BestOf (XG idx alo blo bhi) alo blo (Xcc alo ahi 0) (Xbg idx blo bhi (Xxm alo (ahi - alo)) (fun _=>0,(alo,blo,0))).2:=by
 have:=Xin (idx:=idx) (alo:=alo) (blo:=blo) (bhi:=bhi) hsort (ahi - alo) alo (fun _=>0,(alo,blo,0)) (XwN _) ⟨fun j=>by rw [if_neg nofun],rfl⟩
  ⟨fun i j hb=>by obtain ⟨q1,q2⟩:=hb;omega,fun _=>⟨rfl,rfl⟩,fun h0=>absurd rfl h0⟩
 rw [show alo+(ahi - alo)=ahi from by omega] at this
 exact this
theorem XgU{e:Nat->Nat->Bool}{idx:Nat->List Nat}{alo blo bhi:Nat}(h:∀ i j,j∈idx i->e i j=true):∀ (i j d:Nat),d<XG idx alo blo bhi i j->e (i - d) (j - d)=true
 | 0,j,d,hd=>by
  unfold XG at hd
  split at hd
  ·rename_i hc
   have:d=0:=by omega
   subst this
   exact h _ _ hc.2.2.2
  ·omega
 | i+1,0,d,hd=>by
  unfold XG at hd
  split at hd
  ·rename_i hc
   have:d=0:=by omega
   subst this
   exact h _ _ hc.2.2.2
  ·omega
 | i+1,j+1,d,hd=>by
  rw [XG] at hd
  split at hd
  ·rename_i hc
   cases d with
   | zero=>exact h _ _ hc.2.2.2
   | succ d =>
    rw [Nat.add_sub_add_right,Nat.add_sub_add_right]
    exact XgU (alo:=alo) (blo:=blo) (bhi:=bhi) h i j d nofun
  ·omega
def Xbt(e:Nat->Nat->Bool)(t:Tri):Prop:=∀ d,d<t.2.2->e (t.1+d) (t.2.1+d)=true
theorem XkG{e:Nat->Nat->Bool}{alo blo:Nat}:∀ (i j k:Nat),Xbt e (i,j,k)->Xbt e (X8 e alo blo i j k) /\ ¬ (alo<(X8 e alo blo i j k).1/\blo<(X8 e alo blo i j k).2.1/\e ((X8 e alo blo i j k).1 - 1) ((X8 e alo blo i j k).2.1 - 1)=true)
 | 0,j,k,h=>by unfold X8;exact ⟨h,fun q=>by dsimp only at q;omega⟩
 | i+1,0,k,h=>by unfold X8;exact ⟨h,fun q=>by dsimp only at q;omega⟩
 | i+1,j+1,k,h=>by
  rw [X8]
  split
  ·rename_i hc
   simp only [Xxn,decide_eq_true_eq] at hc
   refine XkG i j (k+1) fun d hd=>?_
   cases d with
   | zero=>exact hc.2.2
   | succ d =>
    have:=h d (by dsimp only at hd ⊢;omega)
    dsimp only at this ⊢
    rw [show i+(d+1)=i+1+d from by omega,show j+(d+1)=j+1+d from by omega]
    exact this
  ·rename_i hc
   simp only [Xxn,decide_eq_true_eq] at hc
   exact ⟨h,hc⟩
theorem XkF{e:Nat->Nat->Bool}{ahi bhi i j:Nat}:∀ (f k:Nat),ahi<=i+k+f->Xbt e (i,j,k)->Xbt e (i,j,XaU e ahi bhi i j f k) /\ ¬ (i+XaU e ahi bhi i j f k<ahi/\j+XaU e ahi bhi i j f k<bhi/\e (i+XaU e ahi bhi i j f k) (j+XaU e ahi bhi i j f k)=true)
 | 0,k,hf,h=>⟨h,fun q=>by have:=q.1;unfold XaU at this;omega⟩
 | f+1,k,hf,h=>by
  rw [XaU]
  split
  ·rename_i hc
   simp only [Xxn,decide_eq_true_eq] at hc
   refine XkF f (k+1) nofun fun d hd=>?_
   dsimp only at hd ⊢
   by_cases q:d=k
   ·subst q;exact hc.2.2
   ·exact h d (by dsimp only;omega)
  ·rename_i hc
   simp only [Xxn,decide_eq_true_eq] at hc
   exact ⟨h,hc⟩
structure FlMax (e:Nat->Nat->Bool) (fl:Nat->Nat->Nat->Nat->Tri):Prop where
 run:∀ alo ahi blo bhi,alo<=ahi->blo<=bhi->Xbt e (fl alo ahi blo bhi)
 left:∀ alo ahi blo bhi,alo<=ahi->blo<=bhi -> ¬ (alo<(fl alo ahi blo bhi).1/\blo<(fl alo ahi blo bhi).2.1/\e ((fl alo ahi blo bhi).1 - 1) ((fl alo ahi blo bhi).2.1 - 1)=true)
 right:∀ alo ahi blo bhi,alo<=ahi->blo<=bhi -> ¬ ((fl alo ahi blo bhi).1+(fl alo ahi blo bhi).2.2<ahi/\(fl alo ahi blo bhi).2.1+(fl alo ahi blo bhi).2.2<bhi/\e ((fl alo ahi blo bhi).1+(fl alo ahi blo bhi).2.2) ((fl alo ahi blo bhi).2.1+(fl alo ahi blo bhi).2.2)=true)
theorem XqF{e:Nat->Nat->Bool}{idx:Nat->List Nat}(hi:∀ i j,j∈idx i->e i j=true)(hsort:∀ i,(idx i).Pairwise (· < ·)){alo ahi blo bhi:Nat}(h:alo<=ahi):Xbt e (Xbg idx blo bhi (Xxm alo (ahi - alo)) (fun _=>0,(alo,blo,0))).2:=by
 have hB:=Xio (blo:=blo) (bhi:=bhi) hsort h
 generalize (Xbg idx blo bhi (Xxm alo (ahi - alo)) (fun _=>0,(alo,blo,0))).2=t at hB
 intro d hd
 obtain ⟨i,j,p1,p2,p3,p4,p5⟩:=hB.hit nofun
 have:=XgU (e:=e) (alo:=alo) (blo:=blo) (bhi:=bhi) hi i j (t.2.2 - 1 - d) nofun
 rw [show i - (t.2.2 - 1 - d)=t.1+d from by omega,show j - (t.2.2 - 1 - d)=t.2.1+d from by omega] at this
 exact this
theorem Xtk{e:Nat->Nat->Bool}{idx:Nat->List Nat}(hi:∀ i j,j∈idx i->e i j=true)(hsort:∀ i,(idx i).Pairwise (· < ·)):FlMax e (flm e idx):=by
 have key:∀ alo ahi blo bhi,alo<=ahi->blo<=bhi->Xbt e (flm e idx alo ahi blo bhi) /\ ¬ (alo<(flm e idx alo ahi blo bhi).1/\blo<(flm e idx alo ahi blo bhi).2.1/\e ((flm e idx alo ahi blo bhi).1 - 1) ((flm e idx alo ahi blo bhi).2.1 - 1)=true) /\
   ¬ ((flm e idx alo ahi blo bhi).1+(flm e idx alo ahi blo bhi).2.2<ahi/\(flm e idx alo ahi blo bhi).2.1+(flm e idx alo ahi blo bhi).2.2<bhi/\e ((flm e idx alo ahi blo bhi).1+(flm e idx alo ahi blo bhi).2.2) ((flm e idx alo ahi blo bhi).2.1+(flm e idx alo ahi blo bhi).2.2)=true):=fun alo ahi blo bhi h1 h2=>by
  have hr:=XqF (blo:=blo) (bhi:=bhi) hi hsort h1
  unfold flm
  dsimp only
  generalize (Xbg idx blo bhi (Xxm alo (ahi - alo)) (fun _=>0,(alo,blo,0))).2=s at hr
  obtain ⟨u1,u2⟩:=XkG (alo:=alo) (blo:=blo) s.1 s.2.1 s.2.2 hr
  generalize X8 e alo blo s.1 s.2.1 s.2.2=u at u1 u2
  obtain ⟨v1,v2⟩:=XkF (ahi:=ahi) (bhi:=bhi) (ahi - (u.1+u.2.2)) u.2.2 nofun u1
  exact ⟨v1,u2,v2⟩
 exact ⟨fun a b c d h1 h2=>(key a b c d h1 h2).1,fun a b c d h1 h2=>(key a b c d h1 h2).2.1,fun a b c d h1 h2=>(key a b c d h1 h2).2.2⟩
theorem XrM(a b:List Str):∀ i j,j∈XS a b i->eqs a b i j=true:=fun i j h=>by
 unfold XS at h
 unfold eqs
 cases hx:a[i]? with
 | none=>rw [hx] at h;cases h
 | some x =>
  rw [hx] at h
  have h:j∈XM b x:=h
  unfold XM at h
  split at h
  ·cases h
  ·have:=(Xx0.mp h).2
   rw [beq_iff_eq] at this
   rw [this]
   simp
theorem XfG(a b:List Str):∀ i,(XS a b i).Pairwise (· < ·):=fun i=>by
 unfold XS
 cases a[i]? with
 | none=>exact .nil
 | some x=>exact Xe3 b x
theorem XkD(a b:List Str):FlMax (eqs a b) (flm (eqs a b) (XS a b)):=Xtk (XrM a b) (XfG a b)
theorem Xo9{idx:Nat->List Nat}{n:Nat}(h:∀ i j,j∈idx i->i∈idx i/\j∈idx j)(hb:∀ i j,j∈idx i->j<n):∀ (i j:Nat),XG idx 0 0 n i j<=XG idx 0 0 n i i/\XG idx 0 0 n i j<=XG idx 0 0 n j j:=by
 intro i
 induction i with
 | zero =>
  intro j
  by_cases hc:0<=0/\0<=j/\j<n/\j∈idx 0
  ·obtain ⟨h1,h2⟩:=h _ _ hc.2.2.2
   have p1:=Xf4 (idx:=idx) (alo:=0) (blo:=0) (bhi:=n) (i:=0) (j:=0) ⟨XwN _,XwN _,hb _ _ h1,h1⟩
   have p2:=Xf4 (idx:=idx) (alo:=0) (blo:=0) (bhi:=n) (i:=j) (j:=j) ⟨XwA _,XwA _,hb _ _ h2,h2⟩
   have p3:XG idx 0 0 n 0 j=1:=by unfold XG;rw [if_pos hc]
   omega
  ·rw [XcH hc];omega
 | succ i ih =>
  intro j
  by_cases hc:0<=i+1/\0<=j/\j<n/\j∈idx (i+1)
  ·obtain ⟨h1,h2⟩:=h _ _ hc.2.2.2
   have p1:=XdB (idx:=idx) (alo:=0) (blo:=0) (bhi:=n) (i:=i) (j:=i) ⟨XwA _,XwA _,hb _ _ h1,h1⟩
   cases j with
   | zero =>
    have p2:=Xf4 (idx:=idx) (alo:=0) (blo:=0) (bhi:=n) (i:=0) (j:=0) ⟨XwA _,XwA _,hb _ _ h2,h2⟩
    have p3:XG idx 0 0 n (i+1) 0=1:=by unfold XG;rw [if_pos hc]
    omega
   | succ j =>
    have p2:=XdB (idx:=idx) (alo:=0) (blo:=0) (bhi:=n) (i:=j) (j:=j) ⟨XwA _,XwA _,hb _ _ h2,h2⟩
    have p3:=XdB (idx:=idx) (alo:=0) (blo:=0) (bhi:=n) (i:=i) (j:=j) hc
    have:=ih j
    omega
  ·rw [XcH hc];omega
theorem Xo7{idx:Nat->List Nat}{n:Nat}(hsort:∀ i,(idx i).Pairwise (· < ·))(h:∀ i j,j∈idx i->i∈idx i/\j∈idx j)(hb:∀ i j,j∈idx i->j<n) :
  (Xbg idx 0 n (Xxm 0 (n - 0)) (fun _=>0,(0,0,0))).2.1=(Xbg idx 0 n (Xxm 0 (n - 0)) (fun _=>0,(0,0,0))).2.2.1:=by
 have hB:=Xio (blo:=0) (bhi:=n) hsort (XwA n)
 generalize (Xbg idx 0 n (Xxm 0 (n - 0)) (fun _=>0,(0,0,0))).2=t at hB
 by_cases h0:t.2.2=0
 ·obtain ⟨q1,q2⟩:=hB.at_ h0
  omega
 ·obtain ⟨i,j,p1,p2,p3,p4,p5⟩:=hB.hit h0
  have hd:=Xo9 h hb i j
  rcases Nat.lt_trichotomy i j with q | q | q
  ·have:=p5 i i ⟨XwA _,by rcases p1.2 with z | z <;> omega⟩ (.inr ⟨rfl,q⟩)
   omega
  ·omega
  ·have:=p5 j j ⟨XwA _,by rcases p1.2 with z | z <;> omega⟩ (.inl q)
   omega
theorem XiD{e:Nat->Nat->Bool}(he:∀ i,e i i=true):∀ (i k:Nat),X8 e 0 0 i i k=(0,0,k+i)
 | 0,k=>by unfold X8;rfl
 | i+1,k=>by
  rw [X8]
  rw [if_pos (by simp [he]),XiD he i (k+1)]
  rw [show k+1+i=k+(i+1) from by omega]
theorem XiC{e:Nat->Nat->Bool}{n:Nat}(he:∀ i,e i i=true):∀ (f k:Nat),k+f=n->XaU e n n 0 0 f k=n
 | 0,k,h=>by unfold XaU;omega
 | f+1,k,h=>by
  rw [XaU,if_pos (by simp [he];omega)]
  exact XiC he f (k+1) nofun
theorem XrY{e:Nat->Nat->Bool}{idx:Nat->List Nat}{n:Nat}(he:∀ i,e i i=true)(hsort:∀ i,(idx i).Pairwise (· < ·))(h:∀ i j,j∈idx i->i∈idx i/\j∈idx j)(hb:∀ i j,j∈idx i->j<n):flm e idx 0 n 0 n=(0,0,n):=by
 have hd:=Xo7 hsort h hb
 have hs:=Xf3 (idx:=idx) (bhi:=n) (n - 0) 0 (fun _=>0,(0,0,0)) (XwN _) (SInv.start (XwA n))
 unfold flm
 dsimp only
 generalize (Xbg idx 0 n (Xxm 0 (n - 0)) (fun _=>0,(0,0,0)))=s at hd hs
 obtain ⟨D,si,sj,sk⟩:=s
 have c2:=hs.b2
 dsimp only at hd c2 ⊢
 subst hd
 rw [XiD he]
 dsimp only
 rw [XiC he _ _ nofun]
theorem Xpu(a:List Str):flm (eqs a a) (XS a a) 0 a.length 0 a.length=(0,0,a.length):=by
 refine XrY (fun i=>by unfold eqs;simp) (XfG a a) (fun i j h=>?_) fun i j h=>?_
 ·have h':=h
  unfold XS at h
  cases hx:a[i]? with
  | none=>rw [hx] at h;cases h
  | some x =>
   rw [hx] at h
   have h:j∈XM a x:=h
   unfold XM at h
   split at h
   ·cases h
   ·rename_i hp
    have hj:=(Xx0.mp h).2
    rw [beq_iff_eq] at hj
    have hi:i<a.length:=(Xyw.mp hx).1
    have hj':j<a.length:=(Xyw.mp hj).1
    have m:∀ y,a[y]? = some x->y<a.length->y∈XS a a y:=fun y hy hl=>by
     unfold XS
     rw [hy]
     show y∈XM a x
     unfold XM
     rw [if_neg hp]
     exact Xx0.mpr ⟨List.mem_range.mpr hl,by rw [hy];simp⟩
    exact ⟨m i hx hi,m j hj hj'⟩
 ·unfold XS at h
  cases hx:a[i]? with
  | none=>rw [hx] at h;cases h
  | some x=>rw [hx] at h;exact Xkt h
section
section
variable{prog:Xwx}{w:XwE}{A:Xww}{B:Frz}{env:Env}{N:Led}
theorem XdW{a:XwR}{g n:Nat}{gs:XyH}{gl led:Led}{rows:List AV}{loc:List (Str × AV)}{R:AV->St->Prop}(hG:Ground0 B)(h0:Susp prog w B N n rows gl gs)
  (h:(∀ x p,IterOk prog w B N (n+1) (.Name x p) a rows ((a,.gen g gs)::gl))->R (.ref a) ⟨loc,((a,.gen g gs)::gl)++led⟩) :
  F1 prog w A B env Val pyIter (.ref a) ⟨loc,((a,.gen g gs)::gl)++led⟩ R:=fun s Z u V S Q E hQ=>by
 cases V
 have hg:=(S.own _ (Xwf ..)).1
 exact wpAny_pyIter_gen hg (hQ _ _ s Z _ (h (fun x p=>IterOk.gen hG (fun _ _ _ _ _ _ _ _ A Q E hq=>Xwg hq) h0)) S (.ref _) .refl)
theorem Xbp{a b:Str}{st:St}{K:AV->St->Prop}(hsz:a.length+b.length<10 ^ 6)(h:K (.str (a++b)) st):F2 prog w A B env Val (binaryOp .Add) (.str a) (.str b) st K :=
 XoI (Xw4 (XxQ hsz) (by decide)) h
theorem T.to{α β:Type}{rel:Frz->α->β->Prop}{t:Sem β}{st:St}{K:α->St->Prop}(v0:α)(h:T prog w A B env rel t st fun v st'=>v=v0/\st'=st)(k:K v0 st):T prog w A B env rel t st K :=
 h.mono fun v st' q=>by obtain ⟨rfl,rfl⟩:=q;exact k
theorem Xdt{n m:Nat}{x:Str}{px:Pos}{iter e:Expr}{ypos ppos pos:Pos}{L:AV->List (Str × AV)}{l:Led}{xs:List Str}{f:Str->Str}{rest:List AV}{u:AV}{K:AFlow->St->List AV->Prop}(hm:5<=m)
  (hx:env.kindOf x=some .local) (hset:∀ u v,XaQ (L u) x v=L v)
  (hiter:∀ A,Room A m->∀ led,NIn N led->T prog w A B env Val (Xxy iter env) ⟨L u,l++led⟩ fun v st₁=>v = .lst (xs.map .str)/\st₁=⟨L u,l++led⟩)
  (hy:∀ A,Room A m->∀ l',(∀ p∈l,p∈l')->∀ y,y∈xs->T prog w A B env Val (Xxy e env) ⟨L (.str y),l'⟩ fun v st₁=>v = .str (f y)/\st₁=⟨L (.str y),l'⟩)
  (hd:∀ v,K .next ⟨L v,l⟩ rest) (hs:∀ x,Xyz iter env x=XxW x) (hco:env.scope.isCoroutine=false) (hi:interactive env=false) :
  TG prog w B N n m env (exec (.For (.Name x px) iter [.Expr (.Yield (some e) ypos) ppos] [] pos) env) ⟨L u,l⟩ ((xs.map f).map .str++rest) K:=by
 refine XcN (k:=5) hm (J:=fun items st' rows'=>∃ (ys:List Str) (v:AV),items=ys.map AV.str/\(∀ y∈ys,y∈xs)/\rows'=(ys.map f).map .str++rest/\st'=⟨L v,l⟩) ?_ ?_ ?_ hs
 ·intro A' hA' led' hN'
  refine (hiter A' hA' led' hN').mono fun v st₁ q=>?_
  obtain ⟨rfl,rfl⟩:=q
  exact XaE (k:=5) fun it gl hI=>⟨it,gl,l,_,rfl,rfl,hI,xs,u,rfl,fun y hy=>hy,rfl,rfl⟩
 ·rintro z zs st' rows' gl ⟨ys,v,hz,hys,rfl,rfl⟩ A' hA' led' hN'
  cases ys with
  | nil=>cases hz
  | cons y ys =>
   obtain ⟨rfl,rfl⟩:=Xx2 hz
   refine Xcw (XgL hx (hset v _) ⟨l,rfl,?_⟩)
   refine Xd (XaC (fun A' hA' led' hN'=>?_) hco hi)
   refine (hy A' hA' ((l++gl)++led') (fun p hp=>Xxf _ (Xxf _ hp)) y (hys y (Xwf ..))).mono fun v st₁ q=>?_
   obtain ⟨rfl,rfl⟩:=q
   exact ⟨l++gl,(ys.map f).map .str++rest,rfl,rfl,Xv ⟨l,rfl,ys,_,rfl,fun y' h'=>hys y' (Xwh _ h'),rfl,rfl⟩⟩
 ·rintro st' rows' ⟨ys,v,hz,hys,rfl,rfl⟩
  cases ys with
  | cons y ys=>cases hz
  | nil=>exact hd v
end
theorem GrpOk.of{la lb:Nat}{g:List Op}(hne:g≠[])(h:InP la lb g)(hlen:g.length<10 ^ 7)(htg:TagsOk g):GrpOk la lb g:=by
 obtain ⟨i,j,i',j',hp,h1,h2⟩:=h
 have hm:=hp.mem
 have ii:(Xak g).i1<=(XV g).i2/\(Xak g).j1<=(XV g).j2:=by
  cases g with
  | nil=>exact absurd rfl hne
  | cons o os =>
   have e1:Xak (o::os)=o:=rfl
   have hl:XV (o::os)∈o::os:=by
    unfold XV
    rw [List.getLastD_cons]
    cases os with
    | nil=>exact Xwf ..
    | cons p ps=>rw [List.getLastD_eq_getLast?,List.getLast?_eq_some_getLast (List.cons_ne_nil _ _)];exact Xwh _ (List.getLast_mem _)
   rw [e1]
   obtain ⟨q1,q2,q3,q4,q5⟩:=hp
   have:=hm _ hl
   omega
 exact ⟨hne,fun o ho=>by have:=hm o ho;omega,fun o ho=>by have:=hm o ho;omega,ii.1,ii.2,hlen,htg⟩
theorem XdD(a b:List Str)(n:Nat)(ha:a.length<10 ^ 5):∀ g∈XC n (Xaz (Xj (XH a b) a.length b.length)),GrpOk a.length b.length g:=fun g hg =>
 have h:=Xpt (XbP (eqs a b) (XS a b)) a.length b.length n g hg
 .of h.1 h.2 (by
  have h1:=Xlz g hg
  have h2:=Xf7 (Xj (XH a b) a.length b.length)
  have h3:(Xj (XH a b) a.length b.length).length<=a.length+2:=XcE (XbP (eqs a b) (XS a b)) a.length b.length
  omega) (Xkw (Xpf _) g hg)
theorem Xc2{a b:Int}(h0:0<=a)(h1:a<=b)(h2:b<10 ^ 9):(XA a b).length<100:=by
 have e1:(Xwk ",").length=1:=by decide +kernel
 have k1:=KT.len_num (n:=a) h0 nofun
 have k2:=KT.len_num (n:=a+1) nofun nofun
 have k3:=KT.len_num (n:=b - a) nofun nofun
 have k4:=KT.len_num (n:=0) nofun nofun
 unfold XA
 split
 ·omega
 ·split
  ·simp only [Str.length_append];omega
  ·simp only [Str.length_append];omega
theorem Xc3{a b:Int}(h0:0<=a)(h1:a<=b)(h2:b<10 ^ 9):(Xp a b).length<100:=by
 have e1:(Xwk ",").length=1:=by decide +kernel
 have k1:=KT.len_num (n:=a) h0 nofun
 have k2:=KT.len_num (n:=a+1) nofun nofun
 have k3:=KT.len_num (n:=b) nofun nofun
 unfold Xp
 split
 ·omega
 ·split
  ·omega
  ·simp only [Str.length_append];omega
end
section
def tabSh(o:Obj):Prop:=o.cls = .none/\o.dict=none/\o.slots = #[]
theorem tabSh.map{o:Obj}(h:tabSh o)(f:Array Value->Array Value):tabSh (XxZ f o):=by
 obtain ⟨c,d,dt,sl⟩:=o
 cases dt <;> exact h
def Xmu(q:Str)(Z:Frz)(o:Obj):Prop:=(o.isFreed=false/\tabSh o)/\∃ ps,o.data = .fields ps/\TriplesOk ps.toList/\∀ pos cv,XyW pos ps.toList=some cv->∃ c oc vs t,cv = .ref c/\Z c=some oc/\oc.data = .fields vs/\vs[1]? = some (.str q t)
theorem XoZ{q:Str}(Z Z':Frz)(o:Obj)(k:Frz.le Z Z')(x:Xmu q Z o):Xmu q Z' o:=by
 obtain ⟨hf,ps,h1,h2,h3⟩:=x
 refine ⟨hf,ps,h1,h2,fun pos cv e=>?_⟩
 obtain ⟨c,oc,vs,t,a,b,r⟩:=h3 pos cv e
 exact ⟨c,oc,vs,t,a,k _ _ b,r⟩
abbrev Xac(q:Str):AObj := .obj (Xmu q) XoZ
theorem XeG{pos:Pos}{a b:Int}{c cv:Value}(l:List Value)(h:TriplesOk l)(e:XyW pos (l++[Xxw a,Xxw b,c])=some cv):XyW pos l=some cv∨cv=c:=by
 fun_induction TriplesOk l with
 | case1 =>
  simp only [Xwv,Xxw,XyW] at e
  split at e
  ·right;cases e;rfl
  ·cases e
 | case2 a' t b' u x rest ih =>
  simp only [Xws,XyW] at e ⊢
  split
  ·rename_i hc;rw [if_pos hc] at e;exact .inl e
  ·rename_i hc;rw [if_neg hc] at e;exact ih h e
 | case3 l h1 h2=>exact h.elim
def Xib(vs:Array Value)(P:XwR):Bool:=(vs.getD 11 .none == .ref P) && (match vs.getD 18 .none with | .str _ _=>true | _=>false) && (match vs.getD 7 .none with | .int _ _=>true | _=>false) && (match vs.getD 9 .none with | .bool _=>true | _=>false) && (match vs.getD 10 .none with | .int _ _=>true | _=>false)
def Xet(K:Frag)(c P:XwR):Bool:=match K.lookup c with
 | some o=>match o.data with
  | .fields vs=>Xib vs P
  | _=>false
 | none=>false
theorem XiG{K:Frag}{c P:XwR}(h:Xet K c P=true):∃ o vs file tf flags tg inF text tt,K.lookup c=some o/\o.data = .fields vs/\vs.getD 11 .none = .ref P/\vs.getD 18 .none = .str file tf/\vs.getD 7 .none = .int flags tg/\vs.getD 9 .none = .bool inF/\vs.getD 10 .none = .int text tt:=by
 unfold Xet at h
 cases e:K.lookup c with
 | none=>rw [e] at h;cases h
 | some o =>
  rw [e] at h
  dsimp only at h
  cases d:o.data with
  | fields vs =>
   rw [d] at h
   have h:Xib vs P=true:=h
   unfold Xib at h
   simp only [Xxn,beq_iff_eq] at h
   obtain ⟨⟨⟨⟨h1,h2⟩,h3⟩,h4⟩,h5⟩:=h
   cases q2:vs.getD 18 .none <;> rw [q2] at h2 <;> first | (cases h2;done) | skip
   cases q3:vs.getD 7 .none <;> rw [q3] at h3 <;> first | (cases h3;done) | skip
   cases q4:vs.getD 9 .none <;> rw [q4] at h4 <;> first | (cases h4;done) | skip
   cases q5:vs.getD 10 .none <;> rw [q5] at h5 <;> first | (cases h5;done) | skip
   exact ⟨o,vs,_,_,_,_,_,_,_,rfl,d,h1,q2,q3,q4,q5⟩
  | _=>rw [d] at h;cases h
theorem Upd.same{a:XwR}{o:AObj}:∀ {l:Led},(a,o)∈l->Upd a o o l l
 | p::l,h=>by
  rcases Xwm.mp h with e | h
  ·subst e;exact .here
  ·exact .there (Upd.same h)
theorem SimL.grow{B:Frz}{s:Xwl}{Z:Frz}{led:Led}(S:SimL B s Z led){h':Heap}{tk:Nat}(hk:∀ b o,s.heap.get? b=some o->h'.get? b=some o):SimL B {s with heap:=h',toks:=tk} Z led/\Ext (Xh led) s Z {s with heap:=h',toks:=tk} Z (Xh led) :=
 ⟨⟨S.base,fun a o e=>hk a o (S.frozen a o e),S.nodup,S.apart,fun p hp=>Holds.mono (s:=s) (.refl _) (fun o e=>hk _ o e) (fun _ _ _ e=>e) (S.own p hp),S.gnodup,S.bare⟩,
  ⟨.refl _,fun a o e _=>hk a o e,fun _ h => .inl h,fun _ _ e => .inl e,rfl,fun _ _ e _=>e,fun _ h => .inl h⟩⟩
def Xbk(prog:Xwx)(w:XwE)(B:Frz)(it:XwR)(gl:Led):Prop :=
 ∀ (A:Xww) (led:Led) s Z,SimL B s Z (gl++led)->∀ (Q:Value->Xwl->Prop) E,Q (.ref it) s->XwG (XwD prog w) A (pyIter (.ref it)) Q E s
section
variable{prog:Xwx}{w:XwE}{A:Xww}{B:Frz}{env:Env}{N:Led}{n:Nat}
theorem XbD{xs:List AV}{target:Expr}{st:St}{k:Nat}{K:AV->St->Prop}(h:∀ it gl,(∀ B' N,IterOk prog w B' N k target it xs gl)->(∀ B',Xbk prog w B' it gl)->K (.ref it) ⟨st.loc,gl++st.led⟩):F1 prog w A B env Val pyIter (.lst xs) st K:=fun s Z x V S Q E hQ=>by
 cases V with
 | @lst a _ items n e hv =>
  have hl:=XfI S.frozen e
  refine wpAny_pyIter_list hl ?_
  have hne:a≠s.heap.objs.size:=Xxu (Xw7 (S.frozen _ _ e))
  have hlen:items.toArray.size=xs.length:=by simp [hv.length]
  have P:=S.toSimL.push (o:={ cls := .type "list_iterator",data := .fields #[.ref a,.int 0 0]}) (ao:=itE s.heap.objs.size [s.heap.objs.size,a] (fun i v=>items.toArray[i]? = some v) xs (fun i h=>h.IsListIter s.heap.objs.size a i/\h.IsList a items.toArray) 0) rfl s.toks
   ⟨_,Xwp _ rfl,fun b hb=>by
    simp only [Xwm,XxO,or_false] at hb
    rcases hb with rfl | rfl
    ·exact .inl rfl
    ·exact .inr ⟨_,e⟩,fun i y v h1 h2=>by
    obtain ⟨u,e1,e2⟩:=hv.get h1
    simp only [List.getElem?_toArray] at h2
    rw [e1] at h2
    cases h2
    exact e2,fun h e1 e2=>⟨⟨_,e1,rfl,rfl⟩,_,e2 _ _ e,rfl,n,rfl⟩⟩
  refine hQ _ _ _ Z _ (h s.heap.objs.size _ (fun B' N=>IterOk.walks (prog:=prog) (w:=w) (B:=B') (target:=target) (xs:=xs) (fun A hA=>by rw [← hlen];exact Walks.list hA s.heap.objs.size a hne items.toArray) (fun A i s v Q E hst hq=>XeY hst.1 hq) (fun i h hst=>by obtain ⟨o,ho,_⟩:=hst.1;exact ⟨o,ho⟩) k xs.length 0 nofun) ?_) (S.after P.1 P.2) (.ref _) P.2.toF
  intro B' A' led' s' Z' S' Q' E' hq
  obtain ⟨o,ho,h1,h2,h3⟩:=S'.own _ (Xwf ..)
  exact wpAny_pyIter_listiter (h3 _ ho S'.frozen).1 hq
theorem XaG{Φ:End->Xwl->Prop}{c:Code}{fs:List Frame}{s:Xwl}{M:Model}{α β:Type}{m:Sem α}{K:α->Sem β}{K':β->Sem PySem.Fin}{H':Value->Sem PySem.Fin}{gd lv}
  (h:XwG M (A.over c fs) m (fun a s'=>XX M A Φ c ((K a).wrap K' H' gd lv) fs s') (fun x s'=>XX M A Φ c (H' x) fs s') s):XX M A Φ c ((m >>= K).wrap K' H' gd lv) fs s:=by
 rw [Xxo,XxM];exact Xai h
abbrev XaZ(elt target iter:Expr)(scope:Scope)(pos:Pos):Expr := .GeneratorExp elt [⟨target,iter,[],0⟩] scope pos
theorem XiF(elt target iter:Expr)(scope:Scope)(pos:Pos)(it acc:Value)(env:Env) :
  compTurn (XaZ elt target iter scope pos) 0 it acc env=(standAt iter.pos >>= fun _=>Xyc it >>= fun r=>match r with
   | none=>XxW (.done .next)
   | some v=>Xxi target it v >>= fun _=>XxG target env v >>= fun _=>(Xxy elt env >>= fun v=>standAt elt.pos >>= fun _=>yieldOut env v >>= fun _=>XxW PUnit.unit) >>= fun _=>again (.compLoop (XaZ elt target iter scope pos) 0 it acc env)):=by rfl
theorem Xjw{c:Code}{m:Nat}(hw:c.weight=1)(hu:c.cUnits<=3)(hA:Room A (m+3)):Room (A.over c []) m:=⟨hA.h,by
  have:=hA.d
  show A.depth+0+c.weight+m<=_
  omega,by
  have:=hA.u
  show A.units+0+c.cUnits+m<=_
  omega⟩
theorem XqC{elt target iter:Expr}{scope:Scope}{pos:Pos}{it:XwR}{k m:Nat}{J:List (Str × AV)->Prop}(hk:k<=m)(hco:env.scope.isCoroutine=false) :
  ∀ (xs rows:List AV),xs.length=rows.length->(∀ p∈xs.zip rows,∀ loc,J loc->∀ A,Room A m->∀ led,F1 prog w A B env XE (XxG target env) p.1 ⟨loc,led⟩ fun _ st₃=>T prog w A B env Val (Xxy elt env) st₃ fun v st₄=>v=p.2/\st₄.led=led/\J st₄.loc) ->
   ∀ (gl:Led) (loc:List (Str × AV)),IterOk prog w B N k target it xs gl->J loc ->
   XgE prog w B N (m+3) env (.compLoop (XaZ elt target iter scope pos) 0 (.ref it) .none env) ((XwD prog w).den (.compLoop (XaZ elt target iter scope pos) 0 (.ref it) .none env)) [] rows ⟨loc,gl⟩:=by
 intro xs
 induction xs with
 | nil =>
  intro rows hl hstep gl loc hI hJ A hA led hN own₀ s₀ Z₀ s Z S X
  cases rows with
  | cons r rs=>cases hl
  | nil =>
   have hr:=Xjw (c := .compLoop (XaZ elt target iter scope pos) 0 (.ref it) .none env) rfl (by show 3<=3;omega) hA
   show XX _ A _ _ ((compTurn (XaZ elt target iter scope pos) 0 (.ref it) .none env).onRaise (leaving env)) [] s
   rw [XiF,XyE]
   refine XaG (XwQ ?_)
   have Sp:SimF B env s Z ⟨loc,led++gl⟩:=S.perm Xwu
   refine XaG (Xdn hI (hr.mono hk) hN Sp fun s₃ Z₃ S₃ X₃=>?_)
   have X':Ext (Xk env ⟨loc,gl++led⟩) s Z s₃ Z₃ (Xk env ⟨loc,led⟩):=by
    rw [XY (env:=env) (loc:=loc) (loc':=loc) (l:=gl++led) (l':=led++gl) Xwu];exact X₃
   refine Xjt (.ok .next) ⟨.inr rfl,Z₃,S₃.toSimL,(X.trans X').less (fun a h => .inr h) fun a h=>h⟩
 | cons x xs ih =>
  intro rows hl hstep gl loc hI hJ A hA led hN own₀ s₀ Z₀ s Z S X
  cases rows with
  | nil=>cases hl
  | cons q rs =>
   have hr:=Xjw (c := .compLoop (XaZ elt target iter scope pos) 0 (.ref it) .none env) rfl (by show 3<=3;omega) hA
   show XX _ A _ _ ((compTurn (XaZ elt target iter scope pos) 0 (.ref it) .none env).onRaise (leaving env)) [] s
   rw [XiF,XyE]
   refine XaG (XwQ ?_)
   have Sp:SimF B env s Z ⟨loc,led++gl⟩:=S.perm Xwu
   refine XaG (Xw8 (XcJ hI (hr.mono hk) hN Sp (Q:=fun r s₁=>match r with
    | none=>False
    | some v=>XX (XwD prog w) A (Xhv prog w B N (m+3) (q::rs) led own₀ s₀ Z₀) (.compLoop (XaZ elt target iter scope pos) 0 (.ref it) .none env) ((XxG target env v >>= fun _=>(Xxy elt env >>= fun v=>standAt elt.pos >>= fun _=>yieldOut env v >>= fun _=>XxW PUnit.unit) >>= fun _=>again (.compLoop (XaZ elt target iter scope pos) 0 (.ref it) .none env)).wrap .pure (fun e=>(leaving env e).bind fun _ => .raise e) id id) [] s₁)
    (E:=fun _ _=>False) fun s₃ Z₃ v gl₃ S₃ V₃ X₃ hit₃=>?_) (fun r s₁ h₁=>?_) fun _ _ h=>h.elim)
   ·dsimp only
    have X':Ext (Xk env ⟨loc,gl++led⟩) s Z s₃ Z₃ (Xk env ⟨loc,gl₃++led⟩):=by
     rw [XY (env:=env) (loc:=loc) (loc':=loc) (l:=gl++led) (l':=led++gl) Xwu,XY (env:=env) (loc:=loc) (loc':=loc) (l:=gl₃++led) (l':=led++gl₃) Xwu];exact X₃
    have X2:=X.trans X'
    have S3:SimF B env s₃ Z₃ ⟨loc,gl₃++led⟩:=S₃.perm Xwu
    refine XaG (hstep (x,q) (by simp) loc hJ _ hr (gl₃++led) s₃ Z₃ v V₃ S3 _ _ fun _ _ s₄ Z₄ st₄ k₄ S₄ _ X₄=>?_)
    rw [Xxo,Xxo,XxM,XxM]
    refine Xai (k₄ s₄ Z₄ S₄ _ _ fun u y s₅ Z₅ st₅ k₅ S₅ V₅ X₅=>?_)
    obtain ⟨loc₅,led₅⟩:=st₅
    obtain ⟨rfl,e,hJ₅⟩:=k₅
    dsimp only at e hJ₅
    subst e
    have hy:∀ v,yieldOut env v=yieldValue v:=fun v=>by simp only [yieldOut,hco,XwX,if_false]
    simp only [hy]
    refine XaG (XwQ ?_)
    show XX _ A _ _ (.yield y _ _ _) [] s₅
    refine XgT rfl fun p=>?_
    refine ⟨rfl,y,Z₅,(env.locals,.ns loc₅)::gl₃,rfl,S₅.toL,V₅,?_,?_⟩
    ·have:=X2.trans (X₄.trans X₅)
     rw [Xay (st:=⟨loc₅,gl₃++led⟩)] at this
     exact this
    ·rw [Susp.iff]
     intro A' hA' led' hN' s' Z' S''
     have SF:SimF B env s' Z' ⟨loc₅,gl₃++led'⟩:=SimL.toF (st:=⟨loc₅,gl₃++led'⟩) S'' S₅.kinds S₅.fn
     refine Xb5 rfl (ih rs (by simpa using hl) (fun p hp=>hstep p (by rw [Xyr];exact Xwh _ hp)) gl₃ loc₅ hit₃ hJ₅ A' hA' led' hN' _ s' Z' s' Z' SF ?_)
     rw [Xay]
     exact .refl
   ·cases r with
    | none=>exact h₁.elim
    | some v=>exact XaG (Xw8 h₁ (fun _ s₂ h₂=>h₂) fun _ _ h=>h.elim)
theorem Susp.genexp{elt target iter:Expr}{scope:Scope}{pos:Pos}{it:XwR}{k m:Nat}{J:List (Str × AV)->Prop}{xs rows:List AV}{gl:Led}{loc:List (Str × AV)}(hk:k<=m)(hco:env.scope.isCoroutine=false)
  (hkd:∀ x v,loc.lookup x=some v->env.kindOf x=some .local) (hf:env.scope.kind = .function) (hl:xs.length=rows.length)
  (hstep:∀ p∈xs.zip rows,∀ loc,J loc->∀ A,Room A m->∀ led,F1 prog w A B env XE (XxG target env) p.1 ⟨loc,led⟩ fun _ st₃=>T prog w A B env Val (Xxy elt env) st₃ fun v st₄=>v=p.2/\st₄.led=led/\J st₄.loc)
  (hI:IterOk prog w B N k target it xs gl) (hs:Xbk prog w B it gl) (hJ:J loc) :
  Susp prog w B N (m+3) rows ((env.locals,.ns loc)::gl) (.fresh (.compStart (XaZ elt target iter scope pos) 0 (.ref it) .none env)):=by
 rw [Susp.iff]
 intro A hA led hN s Z S
 have SF:SimF B env s Z ⟨loc,gl++led⟩:=SimL.toF (st:=⟨loc,gl++led⟩) S hkd hf
 have loop:=XqC (elt:=elt) (iter:=iter) (scope:=scope) (pos:=pos) hk hco xs rows hl hstep gl loc hI hJ A hA led hN (Xh ((env.locals,.ns loc)::gl++led)) s Z s Z SF (by rw [Xay];exact .refl)
 show XX _ A _ _ ((compStart (XaZ elt target iter scope pos) 0 (.ref it) .none env).onRaise (leaving env)) [] s
 unfold compStart
 rw [XyE]
 show XX _ A _ _ ((ask >>= _).wrap _ _ _ _) [] s
 refine XaG (wpAny_askSetting ?_)
 split
 ·exact Xb5 rfl loop
 ·refine XaG (XxC ?_)
  show XX _ A _ _ ((standAt iter.pos >>= _).wrap _ _ _ _) [] s
  exact XaG (XwQ (XaG (hs _ ((env.locals,.ns loc)::led) s Z (SimL.perm S XxN.symm) _ _ (Xb5 rfl loop))))
theorem XhH{K:Frag}{c P:XwR}{pos:Pos}{q:Str}{scope:Scope}{led:Led}{s:Xwl}{Z:Frz}{E:Value->Xwl->Prop}{Q:Value->Xwl->Prop}(hc:env.code = .ref c)(hok:Xet K c P=true)(hP:(P,Xac q)∈led)(S:SimL (Xg K) s Z led)
  (hQ:∀ c' oc vs t s' Z',SimL (Xg K) s' Z' led->Ext (Xh led) s Z s' Z' (Xh led)->Z' c'=some oc->oc.data = .fields vs->vs[1]? = some (.str q t)->Q (.ref c') s'):XwG (XwD prog w) A (genexprCode env pos q scope) Q E s:=by
 obtain ⟨o,vs,file,tf,flags,tg,inF,text,tt,hlk,hd,h11,h2,h7,h9,h10⟩:=XiG hok
 have ho:s.heap.get? c=some o:=S.frozen _ _ (S.base _ _ hlk)
 obtain ⟨op,hop,⟨hfr,hsh⟩,ps,hpd,htr,hfound⟩:=S.own _ hP
 dsimp only at hop
 have hPZ:Z P=none:=S.apart _ hP
 have hcP:c≠P:=fun e=>by have:=S.base _ _ hlk;rw [e,hPZ] at this;cases this
 unfold genexprCode codeAt
 rw [hc,if_neg (show ¬ ((Value.ref c == Xxr)=true) from Xw0)]
 refine Xwe (XxU ho hd ?_)
 rw [h11]
 refine Xwe (XxU hop hpd ?_)
 cases hnf:XyW pos ps.toList with
 | some cv =>
  obtain ⟨c',oc,vs',t,rfl,hz,hdc,hq⟩:=hfound pos cv hnf
  exact Xwg (hQ c' oc vs' t s Z S .refl hz hdc hq)
 | none =>
  rw [h2,h7,h9,h10]
  refine Xwe (wpAny_newCode fun c' P' h' tk hk hc' hP' hcode' hrec'=>?_)
  obtain ⟨S1,X1⟩:=S.grow (h':=h') (tk:=tk) hk
  obtain ⟨c₂,oc,vs₂,t₂,e₂,g₂,d₂,r₂⟩:=hrec'
  cases e₂
  have hnone:s.heap.get? c'=none:=Heap.get?_none_of_le hc'
  have hcl:c'∉keys led:=fun hm=>by
   obtain ⟨p,hp,e⟩:=XwJ.mp hm
   obtain ⟨ob,g⟩:=(S.own p hp).live
   rw [e,hnone] at g;cases g
  have hcz:Z c'=none:=by
   cases e:Z c' with
   | none=>rfl
   | some x=>have:=S.frozen _ _ e;rw [hnone] at this;cases this
  obtain ⟨S2,X2⟩:=S1.fixZ (s0:=s) (c:=c') (o:=oc) g₂ hnone hcl hcz X1
  have hop':=hk _ _ hop
  refine Xwe (wpAny_updateFieldsOfTheText hop' hpd ?_)
  have hnew:(XxZ (fun vs=>if (XyW pos vs.toList).isSome=true then vs else vs ++ #[Xxw pos.line,Xxw pos.col,.ref c']) op).data =
    .fields (ps ++ #[Xxw pos.line,Xxw pos.col,.ref c']):=by
   rw [XyQ hpd,hnf];rfl
  have hget:=XwW (h:=h') (fun o=>XxZ (fun vs=>if (XyW pos vs.toList).isSome=true then vs else
   vs ++ #[Xxw pos.line,Xxw pos.col,.ref c']) o) hop' (Xyq hnew)
  refine Xwe (XxU hget hnew ?_)
  have hl:(ps ++ #[Xxw pos.line,Xxw pos.col,Value.ref c']).toList=ps.toList++[Xxw pos.line,Xxw pos.col,.ref c']:=by simp
  rw [hl,codeAmong_snoc _ htr hnf]
  have P3:=S2.upd (Upd.same hP) (h':=h'.update P fun o=>XxZ (fun vs=>if (XyW pos vs.toList).isSome=true then vs else vs ++ #[Xxw pos.line,Xxw pos.col,.ref c']) o) (tk:=tk) (fun b ob hb e=>(XwT ..).extBut b ob hb e) rfl rfl
   ⟨_,hget,⟨Xyq hnew,hsh.map _⟩,_,hnew,by rw [hl];exact TriplesOk_snoc _ _ _ _ htr,fun pos' cv e=>?_⟩
  ·exact Xwg (hQ c' oc vs₂ t₂ _ _ P3.1 (X2.trans P3.2) (Frz.add_at ..) d₂ r₂)
  ·rw [hl] at e
   rcases XeG _ htr e with e | rfl
   ·obtain ⟨c3,oc3,vs3,t3,e3,z3,r3⟩:=hfound pos' cv e
    exact ⟨c3,oc3,vs3,t3,e3,Frz.le_add hcz _ _ z3,r3⟩
   ·exact ⟨c',oc,vs₂,t₂,rfl,Frz.add_at ..,d₂,r₂⟩
end
end
section
section
variable{prog:Xwx}{w:XwE}{A:Xww}{B:Frz}{env:Env}{N:Led}
theorem Xiy(h:Heap):h.get? h.objs.size=none:=by
 cases e:h.get? h.objs.size with
 | none=>rfl
 | some o=>exact absurd (Xw7 e) (Xx8 _)
theorem SimL.newGen{s:Xwl}{Z:Frz}{led:Led}{loc:List (Str × AV)}{f:Str->Option Value}{gs:XyH}{go:Obj}{nm qn:Value}{h₁:Heap}{tk:Nat}(S:SimL B s Z led)
  (hns:h₁.Ns s.heap.objs.size f) (hsb:XwO s.heap.objs.size (s.heap.push {cls := .type "frame",data := .dict #[]}) h₁) (hv:∀ x,OptVal Z (loc.lookup x) (f x)) (hgo:go={ cls := .type "generator",data := .fields #[.int s.gens.size 0,nm,qn]}) (hbare:gs.bare=true) :
  SimL B {s with gens:=s.gens.push gs,toks:=tk,heap:=h₁.push go} Z ((h₁.objs.size,.gen s.gens.size gs)::(s.heap.objs.size,.ns loc)::led) /\
   Ext (Xh led) s Z {s with gens:=s.gens.push gs,toks:=tk,heap:=h₁.push go} Z (Xh ((h₁.objs.size,.gen s.gens.size gs)::(s.heap.objs.size,.ns loc)::led)):=by
 have keep:∀ b o,s.heap.get? b=some o->h₁.get? b=some o:=fun b o e=>hsb.extBut b o (Xxu (Xw7 e)) (Xwq _ e)
 have hfresh:=Xiy s.heap
 have hL:s.heap.objs.size∉keys led:=fun q=>by
  obtain ⟨p,hp,e⟩:=XwJ.mp q
  obtain ⟨ob,g⟩:=(S.own p hp).live
  rw [e,hfresh] at g;cases g
 have hZ:Z s.heap.objs.size=none:=S.zfresh
 have hLlive:∃ ob,h₁.get? s.heap.objs.size=some ob:=by obtain ⟨ob,_,_,g,_⟩:=hns;exact ⟨ob,g⟩
 obtain ⟨obL,hobL⟩:=hLlive
 have hne:s.heap.objs.size≠h₁.objs.size:=Xxu (Xw7 hobL)
 have hfresh₁:=Xiy h₁
 have keep₂:∀ b o,h₁.get? b=some o->(h₁.push go).get? b=some o:=fun b o e=>Xwq go e
 have hga:(h₁.push go).get? h₁.objs.size=some go:=Xwp _ (by subst hgo;rfl)
 have hgnew:s.gens[s.gens.size]? = none:=by simp
 have hgl:s.gens.size∉gkeys led:=fun q=>by
  obtain ⟨p,hp,e⟩:=List.mem_filterMap.mp q
  have:=S.own p hp
  obtain ⟨a,ob⟩:=p
  cases ob with
  | gen g gs =>
   simp only [AObj.gnum,XxE] at e
   subst e
   have:=this.2
   rw [hgnew] at this;cases this
  | _=>cases e
 have gkeep:∀ g (gs x:XyH),s.gens[g]? = some gs->(s.gens.push x)[g]? = some gs:=fun g gs x e=>by
  rw [Array.getElem?_push]
  obtain ⟨hlt,_⟩:=Array.getElem?_eq_some_iff.mp e
  rw [if_neg nofun];exact e
 refine ⟨⟨S.base,fun a o e=>keep₂ a o (keep a o (S.frozen a o e)),?_,fun p hp=>?_,fun p hp=>?_,?_,fun x hx=>?_⟩,
  ⟨.refl _,fun a o e _=>keep₂ a o (keep a o e),fun a ha=>?_,fun _ _ e => .inl e,rfl,fun g gs e _=>gkeep g gs _ e,fun g hg=>?_⟩⟩
 ·refine Xwz.mpr ⟨fun q=>?_,Xwz.mpr ⟨hL,S.nodup⟩⟩
  rcases Xwm.mp q with q | q
  ·exact hne q.symm
  ·obtain ⟨p,hp,e⟩:=XwJ.mp q
   obtain ⟨ob,g⟩:=(S.own p hp).live
   have:=keep _ _ g
   rw [e,hfresh₁] at this;cases this
 ·rcases Xwm.mp hp with rfl | hp
  ·cases e:Z h₁.objs.size with
   | none=>rfl
   | some o =>
    have:=keep _ _ (S.frozen _ _ e)
    rw [hfresh₁] at this;cases this
  ·rcases Xwm.mp hp with rfl | hp
   ·exact hZ
   ·exact S.apart p hp
 ·rcases Xwm.mp hp with rfl | hp
  ·refine ⟨⟨go,_,_,hga,by subst hgo;rfl,by subst hgo;rfl,by subst hgo;rfl⟩,?_⟩
   show (s.gens.push _)[s.gens.size]? = _
   rw [Array.getElem?_push,if_pos rfl]
  ·rcases Xwm.mp hp with rfl | hp
   ·exact NsIs.mono (.refl _) (fun o e=>keep₂ _ o e) ⟨_,hns,hv⟩
   ·exact (S.own p hp).mono (.refl _) (fun o e=>keep₂ _ o (keep _ o e)) fun g gs _ e=>gkeep g gs _ e
 ·exact Xwz.mpr ⟨hgl,S.gnodup⟩
 ·rcases Array.mem_push.mp hx with hx | hx
  ·exact S.bare x hx
  ·subst hx;exact hbare
 ·rcases Xwm.mp ha with q | q
  ·right
   cases e:s.heap.get? a with
   | none=>rfl
   | some o =>
    have:=keep a o e
    rw [q,hfresh₁] at this;cases this
  ·rcases Xwm.mp q with q | q
   ·exact .inr (q ▸ hfresh)
   ·exact .inl q
 ·rcases Xwm.mp (show g∈s.gens.size::gkeys led from hg) with q | q
  ·exact .inr (q ▸ hgnew)
  ·exact .inl q
theorem XkM{it:XwR}{k:Nat}{R:Result->Xwl->Prop}(hA:Room A (k+1)):∀ (bs:List Bool) (gl led:Led) (s:Xwl) (Z:Frz),NIn N led->IterOk prog w B N k Xf2 it (bs.map .bool) gl->SimL B s Z (gl++led) ->
  (∀ s' Z',SimL B s' Z' led->Ext (Xh (gl++led)) s Z s' Z' (Xh led)->R (.ok (.ret (.bool (bs.any id)))) s')->codeAny (XwD prog w) A (.builtin "any.loop" ⟨[.ref it],[]⟩) R s
 | [],gl,led,s,Z,hN,hI,S,hR=>by
  refine XyA F.entry_any_loop ?_
  rw [Xyy F.plain_any_loop _]
  show XwG _ A.in1 (Xyc (.ref it) >>= _) _ _ s
  exact Xwe (hI A.in1 hA.in1 led hN s Z S _ _ fun s' Z' S' X'=>Xwe (XxC (Xwg (hR s' Z' S' X'))))
 | b::bs,gl,led,s,Z,hN,hI,S,hR=>by
  refine XyA F.entry_any_loop ?_
  rw [Xyy F.plain_any_loop _]
  show XwG _ A.in1 (Xyc (.ref it) >>= fun r=>match r with
   | none=>rule "any.exhausted" >>= fun _=>ret (.bool false)
   | some v=>Xxi Xf2 (.ref it) v >>= fun _=>XyV [v] (truthy v) >>= fun yes=>letGo [v] >>= fun _=>if yes=true then rule "any.true-item" >>= fun _=>ret (.bool true) else again (.builtin "any.loop" ⟨[.ref it],[]⟩)) _ _ s
  refine Xwe (Xw8 (hI A.in1 hA.in1 led hN s Z S (fun r s₁=>match r with
   | none=>False
   | some v=>XwG (XwD prog w) A.in1 (XyV [v] (truthy v) >>= fun yes=>letGo [v] >>= fun _=>if yes=true then rule "any.true-item" >>= fun _=>ret (.bool true) else again (.builtin "any.loop" ⟨[.ref it],[]⟩))
     (fun fin s'=>match fin with | .done f=>R (.ok f) s' | .again c'=>c'.quiet=true/\codeAny (XwD prog w) A c' R s') (fun e s'=>R (.error e) s') s₁) (fun e s'=>R (.error e) s') fun s' Z' v gl' S' V X' hI'=>?_) (fun r s₁ h₁=>?_) fun _ _ h=>h)
  ·dsimp only
   cases V
   refine Xwe (Xwt (wpAny_truthy_bool (Xwe (wpAny_letGo ?_))))
   cases b with
   | true =>
    refine wpAny_ite ?_
    simp only [if_true]
    refine Xwe (XxC (Xwg ?_))
    have:=hR s' Z' (SimL.drop (l:=gl') S') (X'.less (fun a h=>by rw [Xh];show a∈keys (gl'++led);rw [keys,XwH];exact XwM _ h) fun a h=>by
     show a∈gkeys (gl'++led)
     unfold gkeys;rw [Xyt];exact XwM _ h)
    simpa using this
   | false =>
    refine wpAny_ite ?_
    simp only [XwX,if_false]
    refine Xwg ⟨plainId_quiet F.plain_any_loop _,XkM hA bs gl' led s' Z' hN hI' S' fun s'' Z'' S'' X''=>?_⟩
    have:=hR s'' Z'' S'' (X'.trans X'')
    simpa using this
  ·cases r with
   | none=>exact h₁.elim
   | some v=>exact Xwe (Xw8 h₁ (fun _ s₂ h₂=>h₂) fun _ _ h=>h)
theorem XuY{id:String}{pos:Pos}{args:List Expr}{st:St}{K:AV->St->Prop}(hst:((Xyp pos (Xw9 args env)).all fun x => !x.1)=true)
  (h:∀ s Z,SimF B env s Z st->∀ (Q:Value->Xwl->Prop) (E:Value->Xwl->Prop),(∀ v x s' Z' st',K v st'->SimF B env s' Z' st'->Val Z' v x->Ext (Xk env st) s Z s' Z' (Xk env st')->Q x s') ->
   XwG (XwD prog w) A (spliced (Xyp pos (Xw9 args env))) (fun vs s₁=>XwG (XwD prog w) A (call (.builtin id) vs []) Q E s₁) E s):CA prog w A B env pos (.blt id) [] args st K:=fun s Z fx xs hf hxs S Q E hQ=>by
 cases hf
 cases hxs
 unfold callWith
 have hsp:=h s Z S (fun r s'=>XwG (XwD prog w) A (do XyV [r] point;XxW r) Q E s') E fun v y s' Z' st' k S' V X=>Xwe (Xwt (wpAny_point (Xwg (hQ v y s' Z' st' k S' V X))))
 have hargs:∀ {Q':Args->Xwl->Prop},(∀ vs s₁,XwG (XwD prog w) A (call (.builtin id) vs []) (fun r s'=>XwG (XwD prog w) A (do XyV [r] point;XxW r) Q E s') E s₁->Q' ⟨vs,[]⟩ s₁) ->
   XwG (XwD prog w) A (evalArgs (.builtin id) true (Xyp pos (Xw9 args env)) []) Q' E s:=fun {Q'} hQ'=>by
  have hsp':=Xw8 hsp (Q':=fun vs s₁=>Q' ⟨vs,[]⟩ s₁) (fun vs s₁ h'=>hQ' vs s₁ h') fun _ _ x=>x
  revert hsp' hst
  generalize Xyp pos (Xw9 args env)=l
  intro hst hsp'
  cases l with
  | nil=>exact Xdq hsp'
  | cons y r =>
   obtain ⟨b,t⟩:=y
   have:b=false:=by simpa using (XwU.mp hst (b,t) (Xwf ..))
   subst this
   exact Calls.evalArgs_plain hsp'
 refine Xwe (Xwt (hargs fun vs s₁ hcall=>Xwe (XwQ (Xwe (Xwg ?_)))))
 have hop:∀ l,XwG (XwD prog w) A (operate l (call (.builtin id) ([]++vs) []) >>= fun r=>(do XyV [r] point;XxW r)) Q E s₁:=fun l=>Xwe (fun Γ p hΓ=>by rw [Sem.wp_operate];exact hcall Γ p hΓ)
 have hm:∀ m,XwG (XwD prog w) A (callMarked m (.builtin id) ([]++vs) [] >>= fun r=>(do XyV [r] point;XxW r)) Q E s₁:=fun m=>Xwe (by unfold callMarked;exact Calls.wpAny_keep hcall)
 generalize (((Xyp pos (Xw9 args env)).any fun x=>x.fst) || ([]:List (Option Str × Sem Value)).any fun x=>x.fst.isNone)=b
 cases b <;> first
  | exact hop _
  | exact hm _
  | exact Xwe hcall
  | exact wpAny_ite (by split <;> first | exact Xwe hcall | exact hm _)
theorem XrV{K:Frag}{Z:Frz}{c:XwR}{oc:Obj}(h:Frz.le (Xg K) Z)(hc:Z c=some oc):Frz.le (Xg ((c,oc)::K)) Z:=fun a o e=>by
 unfold Xg at e
 rw [XwB] at e
 by_cases q:a=c
 ·subst q
  simp only [beq_self_eq_true,XxE] at e
  subst e;exact hc
 ·have:(a == c)=false:=beq_eq_false_iff_ne.mpr q
  rw [this] at e
  exact h a o e
theorem Xqa{K:Frag}{c P:XwR}{q:Str}{elt target iter:Expr}{scope:Scope}{gpos pos:Pos}{loc loc0:List (Str × AV)}{led:Led}{xs:List AV}{bs:List Bool}{J:List (Str × AV)->Prop}{m:Nat}{bi:XwR}{R:AV->St->Prop}
  (hG:∀ K',(∀ a o,K.lookup a=some o->(Xg K') a=some o)->Ground0 (Xg K')) (hm:5<=m) (hA:Room A (m+10))
  (hst:((Xyp pos (Xw9 [XaZ elt target iter scope gpos] env)).all fun x => !x.1)=true) (hse:Xw9 [XaZ elt target iter scope gpos] env=(false,Xxy (XaZ elt target iter scope gpos) env)::Xw9 [] env)
  (hco:scope.isCoroutine=false) (hclos:closureFor scope env=XxW []) (hcell:∀ y∈scope.names,y.2 ≠ .cell) (h0:scope.names.lookup (".0" : Str)=some NameKind.local) (hkind:scope.kind = .function) (hfold:∀ x,genFold iter env x=XxW x)
  (hc:env.code = .ref c) (hok:Xet K c P=true) (hq:env.qual ++ "<genexpr>" = q) (hbi:Xxa K ⟨prog,w.params⟩ (builtinsFor env.globals env.builtins)=some bi) (hP:(P,Xac q)∈led)
  (hiter:T prog w A (Xg K) env Val (Xxy iter env) ⟨loc,led⟩ fun v st₁=>v = .lst xs/\st₁=⟨loc,led⟩) (hl:xs.length=bs.length)
  (hloc0:∀ x v,loc0.lookup x=some v->v = .any/\scope.names.lookup x=some .local) (h00:(loc0.lookup (".0" : Str)).isSome=true) (hJ:J loc0)
  (hstep:∀ (K':Frag) cenv c' L,(∀ a o,K.lookup a=some o->(Xg K') a=some o)->cenv=genEnv scope [] L (.ref c') bi env->kdsCode K' (.ref c')=true->∀ p∈xs.zip (bs.map AV.bool),∀ loc,J loc->∀ A,Room A m->∀ led,
   F1 prog w A (Xg K') cenv XE (XxG target cenv) p.1 ⟨loc,led⟩ fun _ st₃=>T prog w A (Xg K') cenv Val (Xxy elt cenv) st₃ fun v st₄=>v=p.2/\st₄.led=led/\J st₄.loc)
  (h:R (.bool (bs.any id)) ⟨loc,led⟩):CA prog w A (Xg K) env pos (.blt "any") [] [XaZ elt target iter scope gpos] ⟨loc,led⟩ R:=XuY hst fun s Z S Q E hQ=>by
 rw [hse]
 refine Calls.spliced_cons ?_
 refine wpAny_GeneratorExp_make hco hclos hcell h0 hkind hA.lt ?_ hfold
 refine hiter s Z S _ _ fun v x s₁ Z₁ st₁ k₁ S₁ V₁ X₁=>?_
 obtain ⟨rfl,rfl⟩:=k₁
 refine XbD (prog:=prog) (w:=w) (B:=Xg K) (target:=target) (st:=⟨loc,led⟩) (k:=m) (K:=fun u st₂=>∃ it gl,u = .ref it/\st₂=⟨loc,gl++led⟩/\(∀ B' N,IterOk prog w B' N m target it xs gl)/\∀ B',Xbk prog w B' it gl)
  (fun it gl h1 h2=>⟨it,gl,rfl,rfl,h1,h2⟩) s₁ Z₁ x V₁ S₁ _ _ fun u y s₂ Z₂ st₂ k₂ S₂ V₂ X₂=>?_
 obtain ⟨it,gl,rfl,rfl,hI,hself⟩:=k₂
 cases V₂
 have hGK:=hG K fun a o e=>e
 refine ⟨hGK.lim _ fun a o e=>S₂.frozen a o (S₂.base a o e),?_⟩
 have S₂L:=S₂.toL
 rw [hq]
 refine XhH (led:=(env.locals,.ns loc)::(gl++led)) hc hok (Xwh _ (XwM _ hP)) S₂L fun c' oc vs t s₃ Z₃ S₃ X₃ hz hd hr=>?_
 have hbl:=XyF (M:=XwD prog w) (XT S₃.base S₃.frozen) hbi
 refine hbl A _ _ s₃ (fun b o e=>e) ?_
 intro h' hns hsb
 have hle':Frz.le (Xg ((c',oc)::K)) Z₃:=XrV S₃.base hz
 have hKK:∀ a o,K.lookup a=some o->(Xg ((c',oc)::K)) a=some o:=fun a o e=>by
  unfold Xg
  rw [XwB]
  by_cases q:a=c'
  ·subst q
   have:=S₃.base _ _ e
   rw [hz] at this
   cases this
   simp
  ·have:(a == c')=false:=beq_eq_false_iff_ne.mpr q
   rw [this];exact e
 have S₃':SimL (Xg ((c',oc)::K)) s₃ Z₃ ((env.locals,.ns loc)::(gl++led)):=⟨hle',S₃.frozen,S₃.nodup,S₃.apart,S₃.own,S₃.gnodup,S₃.bare⟩
 have hcd:kdsCode ((c',oc)::K) (.ref c')=true:=by
  obtain ⟨a1,a2,a3,a4⟩:=oc
  dsimp only at hd
  subst hd
  simp [kdsCode,XwB]
 have N1:=S₃'.newGen (nm := .str (Xwk "<genexpr>") (s₃.toks+1)) (qn := .str q (s₃.toks+1+1)) (loc:=loc0) (gs := .fresh (.compStart (XaZ elt target iter scope gpos) 0 (.ref it) .none (genEnv scope [] s₃.heap.objs.size (.ref c') bi env))) (tk:=s₃.toks+1+1+1) hns hsb (fun x=>by
   cases e:loc0.lookup x with
   | some v =>
    obtain ⟨rfl,-⟩:=hloc0 x v e
    exact .any
   | none =>
    have hx:x≠(".0" : Str):=fun e'=>by rw [e'] at e;rw [e] at h00;cases h00
    rw [if_neg hx]
    exact .none) rfl rfl
 obtain ⟨S4,X4⟩:=N1
 refine Calls.spliced_nil ?_
 have hsus:=Susp.genexp (prog:=prog) (w:=w) (B:=Xg ((c',oc)::K)) (N:=[]) (env:=genEnv scope [] s₃.heap.objs.size (.ref c') bi env) (elt:=elt) (target:=target) (iter:=iter) (scope:=scope) (pos:=gpos) (it:=it) (k:=m) (m:=m) (J:=J) (xs:=xs) (rows:=bs.map AV.bool) (gl:=gl) (loc:=loc0) (XwN _) hco
  (fun x v e=>(hloc0 x v e).2) hkind (by rw [Xwi];exact hl) (hstep _ _ c' _ hKK rfl hcd) (hI _ _) (hself _) hJ
 have hit:=IterOk.gen (prog:=prog) (w:=w) (B:=Xg ((c',oc)::K)) (N:=[]) (target:=Xf2) (a:=h'.objs.size) (g:=s₃.gens.size) (hG _ hKK) (fun _ _ _ _ _ _ _ _ A Q E hq=>Xwg hq) hsus
 have P4:((h'.objs.size,AObj.gen s₃.gens.size (.fresh (.compStart (XaZ elt target iter scope gpos) 0 (.ref it) .none (genEnv scope [] s₃.heap.objs.size (.ref c') bi env))))::(s₃.heap.objs.size,AObj.ns loc0)::(env.locals,AObj.ns loc)::(gl++led)).Perm
   (((h'.objs.size,AObj.gen s₃.gens.size (.fresh (.compStart (XaZ elt target iter scope gpos) 0 (.ref it) .none (genEnv scope [] s₃.heap.objs.size (.ref c') bi env))))::(s₃.heap.objs.size,AObj.ns loc0)::gl)++((env.locals,AObj.ns loc)::led)) :=
  Xyx _ (Xyx _ XxN.symm)
 have S4':=S4.perm P4
 rw [Xaj P4] at X4
 refine call_function_tree F.kind_any F.plain_any F.entry_any (F.args_any1 _) ?_
 unfold Builtin.«any»
 refine Xwe (m:=oneArg "any" _) (Xwg ?_)
 refine Xwe (wpAny_pyIter_gen (S4'.own _ (Xwf ..)).1 ?_)
 refine Xwg ⟨plainId_quiet F.plain_any_loop _,XkM (k:=m+3+1) ?_ bs _ ((env.locals,.ns loc)::led) _ Z₃ .nil hit S4' fun s5 Z5 S5 X5=>?_⟩
 ·exact ⟨hA.h,by have:=hA.d;show A.depth+(m+3+1+1)<=_;omega,by have:=hA.u;show A.units+(m+3+1+1)<=_;omega⟩
 ·have S5K:SimL (Xg K) s5 Z5 ((env.locals,.ns loc)::led):=⟨S₃.base.trans (X4.le.trans X5.le),S5.frozen,S5.nodup,S5.apart,S5.own,S5.gnodup,S5.bare⟩
  have X12:=X₁.trans X₂
  have X35:=(X₃.trans X4).trans X5
  rw [Xay (st:=⟨loc,gl++led⟩)] at X12
  have X:=X12.trans X35
  have e:=Xay (env:=env) (st:=⟨loc,led⟩)
  dsimp only at e
  rw [← e] at X
  exact hQ (.bool (bs.any id)) _ s5 Z5 ⟨loc,led⟩ h (SimL.toF (st:=⟨loc,led⟩) S5K S₂.kinds S₂.fn) (.bool _) X
theorem Xmj{K:Frag}{c P:XwR}{q:Str}{elt target iter:Expr}{scope:Scope}{gpos pos:Pos}{loc:List (Str × AV)}(ns:List Str){led:Led}{xs:List AV}{bs:List Bool}{J:List (Str × AV)->Prop}{m:Nat}{bi:XwR}{R:AV->St->Prop}
  (hG:∀ K',(∀ a o,K.lookup a=some o->(Xg K') a=some o)->Ground0 (Xg K')) (hm:5<=m) (hA:Room A (m+10))
  (hst:((Xyp pos (Xw9 [XaZ elt target iter scope gpos] env)).all fun x => !x.1)=true) (hse:Xw9 [XaZ elt target iter scope gpos] env=(false,Xxy (XaZ elt target iter scope gpos) env)::Xw9 [] env)
  (hco:scope.isCoroutine=false) (hclos:closureFor scope env=XxW []) (hcell:(scope.names.all fun x=>decide (x.2 ≠ .cell))=true) (h0:scope.names.lookup (".0" : Str)=some NameKind.local) (hkind:scope.kind = .function) (hfold:∀ x,genFold iter env x=XxW x)
  (hc:env.code = .ref c) (hok:Xet K c P=true) (hq:env.qual ++ "<genexpr>" = q) (hbi:Xxa K ⟨prog,w.params⟩ (builtinsFor env.globals env.builtins)=some bi)
  (hns:(ns.all fun x=>decide (scope.names.lookup x=some .local))=true) (h00:ns.contains (".0" : Str)=true)
  (hP:(P,Xac q)∈led)
  (hiter:T prog w A (Xg K) env Val (Xxy iter env) ⟨loc,led⟩ fun v st₁=>v = .lst xs/\st₁=⟨loc,led⟩) (hl:xs.length=bs.length)
  (hJ:J (ns.map fun x=>(x,.any)))
  (hstep:∀ (K':Frag) cenv c' L,(∀ a o,K.lookup a=some o->(Xg K') a=some o)->cenv=genEnv scope [] L (.ref c') bi env->kdsCode K' (.ref c')=true->∀ p∈xs.zip (bs.map AV.bool),∀ loc,J loc->∀ A,Room A m->∀ led,
   F1 prog w A (Xg K') cenv XE (XxG target cenv) p.1 ⟨loc,led⟩ fun _ st₃=>T prog w A (Xg K') cenv Val (Xxy elt cenv) st₃ fun v st₄=>v=p.2/\st₄.led=led/\J st₄.loc)
  (h:R (.bool (bs.any id)) ⟨loc,led⟩):CA prog w A (Xg K) env pos (.blt "any") [] [XaZ elt target iter scope gpos] ⟨loc,led⟩ R:=by
 have hlk:∀ (l:List Str) x v,(l.map fun x=>(x,AV.any)).lookup x=some v->v = .any/\x∈l:=by
  intro l
  induction l with
  | nil=>intro x v h;cases h
  | cons y l ih =>
   intro x v h
   rw [Xwr,XwB] at h
   by_cases e:x=y
   ·subst e
    simp only [beq_self_eq_true,XxE] at h
    exact ⟨h.symm,Xwf ..⟩
   ·have:(x == y)=false:=beq_eq_false_iff_ne.mpr e
    rw [this] at h
    exact ⟨(ih x v h).1,Xwh _ (ih x v h).2⟩
 have hin:∀ (l:List Str) x,x∈l->((l.map fun x=>(x,AV.any)).lookup x).isSome=true:=by
  intro l
  induction l with
  | nil=>intro x h;cases h
  | cons y l ih =>
   intro x h
   rw [Xwr,XwB]
   by_cases e:x=y
   ·subst e;simp
   ·have:(x == y)=false:=beq_eq_false_iff_ne.mpr e
    rw [this]
    exact ih x ((Xwm.mp h).resolve_left e)
 refine Xqa (loc0:=ns.map fun x=>(x,.any)) hG hm hA hst hse hco hclos (fun y hy=>by have:=XwU.mp hcell y hy;simpa using this) h0 hkind hfold hc hok hq hbi hP hiter hl (fun x v e=>?_) (hin ns _ (by simpa using h00)) hJ hstep h
 obtain ⟨rfl,hx⟩:=hlk ns x v e
 exact ⟨rfl,by have:=XwU.mp hns x hx;simpa using this⟩
end
end
section
abbrev kI:Str:=XAF
abbrev kD:Str:=XAE
abbrev kR:Str:=XAD
abbrev kE:Str:=⟨⟨[101,113,117,97,108]⟩⟩
theorem Xlx(a b c d:Value):checkTypeCall "dict" ⟨[],[(kI,a),(kD,b),(kR,c),(kE,d)]⟩=XxW ():=@_
theorem Xog(a b c d:Value):checkBuiltinCall "dict.__new__" ⟨[.type "dict"],[(kI,a),(kD,b),(kR,c),(kE,d)]⟩=XxW ():=@_
theorem Xte(x a b c d:Value):XyY "dict.__init__" ⟨[x],[(kI,a),(kD,b),(kR,c),(kE,d)]⟩:=by
 unfold XyY;rw [signature?_of (id := "dict.__init__") (n:=['_','_','t','i','n','i','_','_']) (o:=['t','c','i','d']) @_ F.owner_dict];kernel_rfl
section
variable{prog:Xwx}{w:XwE}{A:Xww}{E:Value->Xwl->Prop}{s:Xwl}
theorem Xun(kws:List (Str × Value))(hk:checkBuiltinCall "dict.__new__" ⟨[.type "dict"],kws⟩=XxW ()){Q₁:Value->Xwl->Prop}(h:Q₁ (.ref s.heap.objs.size) {s with heap:=s.heap.push {cls := .type "dict",data := .dict #[]} }) :
  codeAny (XwD prog w) A (.call (.builtin "dict.__new__") ⟨[.type "dict"],kws⟩) (wants Q₁ E) s:=by
 refine Xx3 F.kt_plain_dict_new F.kt_entry_dict_new (Xxg hk ?_)
 have hsub:=F.kt_sub_dict
 have hmro:=F.kt_mro_dict
 obtain ⟨hp,g,d,tk,os⟩:=s
 unfold Builtin.«dict.__new__»
 wp_walk
 exact h
theorem XlM{T newId initId:String}{Bi:Builtin}{kws:List (Str × Value)}{Q Q₁:Value->Xwl->Prop}(ft:TypeCalled T newId initId)
  (hct:checkTypeCall T ⟨[],kws⟩=XxW ()) (entryI:entryFor table initId=some Bi)
  (hnew:codeAny (XwD prog w) A.in1 (.call (.builtin newId) ⟨[.type T],kws⟩) (wants Q₁ E) s)
  (hnext:∀ obj s₁,Q₁ obj s₁->s₁.TypeIs obj T/\XyY initId ⟨[obj],kws⟩ /\
   XwG (XwD prog w) A.in1.in1 (Bi ⟨[obj],kws⟩)
    (fun fin s'=>match fin with | .done f=>wants (fun r s₂=>r = .none/\Q obj s₂) E (.ok f) s' | .again c'=>c'.quiet=true/\codeAny (XwD prog w) A.in1 c' (wants (fun r s₂=>r = .none/\Q obj s₂) E) s')
    (fun e s'=>wants (fun r s₂=>r = .none/\Q obj s₂) E (.error e) s') s₁) :
  XwG (XwD prog w) A (call (.type T) [] kws) Q E s:=by
 obtain ⟨c,tl,hmro⟩:=ft.mro
 have hmade:=ft.made
 have hsub:=ft.sub
 refine Xyl (codeAny_of_tree ?_)
 show XwG _ _ (callAny (.type T) _) _ _ _
 refine Xwg ⟨Code.quiet_builtin _ (by decide +kernel),XyA F.entry_type_call ?_⟩
 rw [Around.under_plain (weight_type_call_type T [] kws) rfl]
 have h1:=ft.notType
 have h2:=ft.canCreate
 repeat (any_goals (first | assumption | wp_step))
 refine codeAny_mono hnew fun r s₁ hr=>?_
 cases r with
 | error e=>exact hr
 | ok fl =>
  cases fl with
  | ret obj =>
   obtain ⟨hT,hok,hsi⟩:=hnext _ _ hr
   have hli:=ft.init.lookup
   have hbi:=ft.init.bind obj
   repeat (any_goals (first | assumption | wp_step))
   refine codeAny_mono (Xx3 ft.init.plain entryI (ft.init.check _ _ _ _ _ _ _ _ hT hok hsi)) fun r₂ s₂ hr₂=>?_
   cases r₂ with
   | error e=>exact hr₂
   | ok fl₂ =>
    cases fl₂ with
    | ret r =>
     obtain ⟨rfl,hq⟩:=hr₂
     repeat (any_goals (first | assumption | wp_step))
    | _=>exact hr₂.elim
  | _=>exact hr.elim
theorem Xor{v1 v2 v3 v4:Value}{Q:Value->Xwl->Prop}
  (h:∀ h' tk,h'.DictOf (XwP prog w) s.heap.objs.size [(kI,v1),(kD,v2),(kR,v3),(kE,v4)]->XwO s.heap.objs.size (s.heap.push {cls := .type "dict",data := .dict #[]}) h'->Q (.ref s.heap.objs.size) {s with heap:=h',toks:=tk}) :
  XwG (XwD prog w) A (call (.type "dict") [] [(kI,v1),(kD,v2),(kR,v3),(kE,v4)]) Q E s:=by
 refine XlM (Q₁:=fun obj s₁=>obj = .ref s.heap.objs.size/\s₁={ s with heap:=s.heap.push {cls := .type "dict",data := .dict #[]} }) F.kt_called_dict (Xlx _ _ _ _) F.entry_dict_init (Xun _ (Xog _ _ _ _) ⟨rfl,rfl⟩) ?_
 rintro obj s₁ ⟨rfl,rfl⟩
 have hnew:(s.heap.push {cls := .type "dict",data := .dict #[]}).DictOf (XwP prog w) s.heap.objs.size []:=Heap.DictOf.new s.heap
 refine ⟨hnew.typeIs,Xte _ _ _ _ _,?_⟩
 unfold Builtin.«dict.__init__»
 refine Xwe ?_
 unfold Builtin.Dict.selfAndRest
 refine Xwe (wpAny_notOrdered_dict hnew.typeIs ?_)
 show XwG _ _ (XxW (s.heap.objs.size,[])) _ _ _
 refine Xwg ?_
 show XwG _ _ (Builtin.Dict.addKeywords s.heap.objs.size [(kI,v1),(kD,v2),(kR,v3),(kE,v4)] >>= fun _=>ret .none) _ _ _
 refine Xwe ?_
 unfold Builtin.Dict.addKeywords
 simp only [List.forIn_cons,List.forIn_nil]
 have sz:∀ n,n<10->n<=XwZ:=fun n h=>by rw [Xxs];omega
 refine Xwe (Xwe (Xwe (Xye (x:=kI) (hx:=by rw [Xxs];decide) (Xwe ?_))))
 refine wpAny_dictSet_pairs (hsz:=sz 0 (by decide)) (k:=kI) (knd:=XwP prog w) (by simp [XwP,Value.isStrOf]) hnew fun h1 d1 s1=>?_
 refine Xwg ?_
 refine Xwe (Xwe (Xye (x:=kD) (hx:=by rw [Xxs];decide) (Xwe ?_)))
 refine wpAny_dictSet_pairs (hsz:=sz 1 (by decide)) (k:=kD) (knd:=XwP prog w) (by simp [XwP,Value.isStrOf]) d1 fun h2 d2 s2=>?_
 refine Xwg ?_
 refine Xwe (Xwe (Xye (x:=kR) (hx:=by rw [Xxs];decide) (Xwe ?_)))
 refine wpAny_dictSet_pairs (hsz:=sz 2 (by decide)) (k:=kR) (knd:=XwP prog w) (by simp [XwP,Value.isStrOf]) d2 fun h3 d3 s3=>?_
 refine Xwg ?_
 refine Xwe (Xwe (Xye (x:=kE) (hx:=by rw [Xxs];decide) (Xwe ?_)))
 refine wpAny_dictSet_pairs (hsz:=sz 3 (by decide)) (k:=kE) (knd:=XwP prog w) (by simp [XwP,Value.isStrOf]) d3 fun h4 d4 s4=>?_
 refine Xwg (Xwg (Xwg (Xwg ⟨rfl,h h4 _ ?_ (((s1.trans s2).trans s3).trans s4)⟩)))
 have e:stored (stored (stored (stored [] kI v1) kD v2) kR v3) kE v4=[(kI,v1),(kD,v2),(kR,v3),(kE,v4)]:=by
  simp [stored]
 rw [← e];exact d4
theorem Xsn{B:Frz}{env:Env}{x:Str}{px pos p1 p2 p3 p4:Pos}{q1 q2 q3 q4:Pos}{n1 n2 n3 n4:Nat}{t1 t2 t3 t4:Str}{loc:List (Str × AV)}{led:Led}{R:AV->St->Prop}
  (hc:Xxy (.Call (.Name x px) [] [⟨some kI,.Constant (.str t1) n1 p1,q1⟩,⟨some kD,.Constant (.str t2) n2 p2,q2⟩,⟨some kR,.Constant (.str t3) n3 p3,q3⟩,⟨some kE,.Constant (.str t4) n4 p4,q4⟩] pos) env =
   (do callWith pos (← Xxy (.Name x px) env) [] (Xyp pos (Xw9 [] env)) (backToKw pos (keywordEach [⟨some kI,.Constant (.str t1) n1 p1,q1⟩,⟨some kD,.Constant (.str t2) n2 p2,q2⟩,⟨some kR,.Constant (.str t3) n3 p3,q3⟩,⟨some kE,.Constant (.str t4) n4 p4,q4⟩] env))))
  (hx:XF B x (.typ "dict")) (hk:env.kindOf x=some .globalImplicit) (hg:env.globals=XxF) (hb:env.builtins=Xyd) (hd:(x == ("__debug__" : Str))=false)
  (h:∀ d,d∉keys led->R (.ref d) ⟨loc,(d,Xl (XwP prog w) [(kI,.str t1),(kD,.str t2),(kR,.str t3),(kE,.str t4)])::led⟩) :
  T prog w A B env Val (Xxy (.Call (.Name x px) [] [⟨some kI,.Constant (.str t1) n1 p1,q1⟩,⟨some kD,.Constant (.str t2) n2 p2,q2⟩,⟨some kR,.Constant (.str t3) n3 p3,q3⟩,⟨some kE,.Constant (.str t4) n4 p4,q4⟩] pos) env) ⟨loc,led⟩ R:=fun s Z S Q E hQ=>by
 rw [hc]
 refine Xwe (Xn (K:=fun v st'=>v = .typ "dict" /\ st'=⟨loc,led⟩) hx hk hg hb hd ⟨rfl,rfl⟩ s Z S _ _ fun v u s₁ Z₁ st₁ k₁ S₁ V₁ X₁=>?_)
 obtain ⟨rfl,rfl⟩:=k₁
 cases V₁
 unfold callWith
 have sz:∀ n,n<10->n<=XwZ:=fun n h=>by rw [Xxs];omega
 refine Xwe (Xwt (evalArgs_kw_nil rfl ?_))
 show XwG (XwD prog w) A (evalAll [(do let v ← Xxy (.Constant (.str t1) n1 p1) env;standAt pos;XxW v),(do let v ← Xxy (.Constant (.str t2) n2 p2) env;standAt pos;XxW v),(do let v ← Xxy (.Constant (.str t3) n3 p3) env;standAt pos;XxW v),(do let v ← Xxy (.Constant (.str t4) n4 p4) env;standAt pos;XxW v)]) _ E s₁
 refine wpAny_evalAll_cons (Xwe (Xyu (Xwe (XwQ (Xwg ?_)))))
 refine wpAny_evalAll_cons (Xwe (Xyu (Xwe (XwQ (Xwg ?_)))))
 refine wpAny_evalAll_cons (Xwe (Xyu (Xwe (XwQ (Xwg ?_)))))
 refine wpAny_evalAll_cons (Xwe (Xyu (Xwe (XwQ (Xwg ?_)))))
 refine wpAny_evalAll_nil ?_
 refine Xwe (XwQ (Xwe (Xwg ?_)))
 have fin:∀ s₂:Xwl,SimF B env s₂ Z₁ ⟨loc,led⟩->Ext (Xk env ⟨loc,led⟩) s Z s₂ Z₁ (Xk env ⟨loc,led⟩)->∀ u1 u2 u3 u4:Tok,
   XwG (XwD prog w) A (call (.type "dict") [] [(kI,.str t1 u1),(kD,.str t2 u2),(kR,.str t3 u3),(kE,.str t4 u4)]) (fun r s'=>XwG (XwD prog w) A (do XyV [r] point;XxW r) Q E s') E s₂:=fun s₂ S₂ X₂ u1 u2 u3 u4=>by
  refine Xor fun h' tk hd' hsb=>?_
  have keep:∀ b o,s₂.heap.get? b=some o->h'.get? b=some o:=fun b o e=>hsb.extBut b o (Xxu (Xw7 e)) (Xwq _ e)
  have P1:=S₂.toSimL.push (o:={ cls := .type "dict",data := .dict #[]}) (ao:=Xl (XwP prog w) []) rfl s₂.toks (Xd4 (s:={ s₂ with heap:=s₂.heap.push {cls := .type "dict",data := .dict #[]} }) (Heap.DictOf.new s₂.heap) .nil)
  have P2:=P1.1.upd (led':=(s₂.heap.objs.size,Xl (XwP prog w) [(kI,.str t1),(kD,.str t2),(kR,.str t3),(kE,.str t4)])::led) .here (h':=h') (tk:=tk) (fun b ob hb e=>(hsb.2 b hb).trans e) rfl rfl
   (Xd4 (s:={ s₂ with heap:=h',toks:=tk}) hd' (.cons (.str _ _) (.cons (.str _ _) (.cons (.str _ _) (.cons (.str _ _) .nil)))))
  have hfr:s₂.heap.objs.size∉keys led:=S₂.toSimL.lfresh
  refine Xwe (Xwt (wpAny_point (Xwg (hQ (.ref s₂.heap.objs.size) _ _ Z₁ _ (h _ hfr) (S₂.after P2.1 (P1.2.trans P2.2)) (.ref _) (X₂.trans ((P1.2.trans P2.2).toF (st:=⟨loc,led⟩)))))))
 have S₂:=S₁.toks (s₁.toks+1+1+1+1)
 have X₂:=X₁.trans (Ext.toks (own:=Xk env ⟨loc,led⟩) (s:=s₁) (Z:=Z₁) (s₁.toks+1+1+1+1))
 have hcall:=fin _ S₂ X₂ s₁.toks (s₁.toks+1) (s₁.toks+1+1) (s₁.toks+1+1+1)
 exact Xwe hcall
end
end
section
local macro_rules | `(tactic| walk_at "recast") => `(tactic| first | exact Recast.nil | (refine' Recast.cast ?fc;(case fc=>walk_at "recast")) | (refine' Recast.keep ?fc;(case fc=>walk_at "recast")))
abbrev XcV(a b:List Str)(ff tf fd td lt:Str)(n:Nat)(s:Bool)(v1 v2 v3 v4 v5 v6 v7 v8 v9 v10 v11 v12 v13:AV):List (Str × AV) :=
 [(XAh,.str lt),(Xzt,.int n),(XAg,.str td),(XAf,.str fd),(XAe,.str tf),(XAd,.str ff),(Xza,.lst (b.map .str)),(Xy9,.lst (a.map .str)),
  (XzX,v1),(XAj,v2),(XAk,v3),(XAl,v4),(XAm,v5),(XAn,v6),(XAo,v7),(XzU,v8),(XzL,v9),(XzO,v10),(XzM,v11),(XzP,v12),(XAp,v13),(XAi,.bool s)]
theorem XdG{d:Str}(h:d.length<10 ^ 4):(Xaq d).length<10 ^ 5:=by
 unfold Xaq
 split
 ·show (sE).length<_;decide
 ·unfold Xft
  rw [Str.length_append,show (Xwk "\t").length=1 from by decide +kernel]
  omega
theorem XlY{w:XwE}{A:Xww}{a b:List Str}{ff tf fd td lt:Str}{n:Nat}{led N:Led}(hA:Room A 200)(hn:n<10 ^ 5)(ha:a.length<10 ^ 5)(hb:b.length<4000)
  (hff:ff.length<10 ^ 4) (htf:tf.length<10 ^ 4) (hfd:fd.length<10 ^ 4) (htd:td.length<10 ^ 4) (hlt:lt.length<10 ^ 4) (hla:∀ x∈a,x.length<10 ^ 4) (hlb:∀ x∈b,x.length<10 ^ 4) (hraw:(mbW (XH a b) (0,a.length,0,b.length)).length<64) :
  TC P04 w A (B04 w) (.ref 261) [.lst (a.map .str),.lst (b.map .str),.str ff,.str tf,.str fd,.str td,.int n,.str lt] [] led
   (Xcg P04 w (B04 w) N 153 ((Xao a b ff tf fd td lt false (XC n (Xaz (Xj (XH a b) a.length b.length)))).map .str) led):=by
 refine XkQ (m:=150) (binds:=[(Xy9,.lst (a.map .str)),(Xza,.lst (b.map .str)),(XAd,.str ff),(XAe,.str tf),(XAf,.str fd),(XAg,.str td),(Xzt,.int n),(XAh,.str lt)]) (g04 w) (XsE _) hA.lt (Binds.peek fun Z xs ks hx hk=>?_) @_ fun L=>?_
 ·cases hk
  obtain _ | ⟨h1,hx⟩:=hx
  obtain _ | ⟨h2,hx⟩:=hx
  obtain _ | ⟨h3,hx⟩:=hx
  obtain _ | ⟨h4,hx⟩:=hx
  obtain _ | ⟨h5,hx⟩:=hx
  obtain _ | ⟨h6,hx⟩:=hx
  obtain _ | ⟨h7,hx⟩:=hx
  obtain _ | ⟨h8,hx⟩:=hx
  cases hx
  exact ⟨_,@_,.cons h1 (.cons h2 (.cons h3 (.cons h4 (.cons h5 (.cons h6 (.cons h7 (.cons h8 .nil)))))))⟩
 ·simp only [XwL,XwV,Xwv,Xws]
  refine TG.spare XzX @_ ?_
  refine TG.spare XAj @_ ?_
  refine TG.spare XAk @_ ?_
  refine TG.spare XAl @_ ?_
  refine TG.spare XAm @_ ?_
  refine TG.spare XAn @_ ?_
  refine TG.spare XAo @_ ?_
  refine TG.spare XzU @_ ?_
  refine TG.spare XzL @_ ?_
  refine TG.spare XzO @_ ?_
  refine TG.spare XzM @_ ?_
  refine TG.spare XzP @_ ?_
  refine TG.spare XAp @_ ?_
  simp only [Xws,Xwv]
  refine Xd (Xm fun A' hA' led' hN'=>?_)
  got_up
  refine ⟨rfl,_,[],rfl,?_⟩
  refine Xd (Xm fun A' hA' led' hN'=>?_)
  repeat' got_up
  refine Xr (led:=led') (XfO (hA'.mono nofun) nofun nofun) fun v l h=>?_
  obtain ⟨rfl,rfl⟩:=h
  repeat' got_up
  refine ⟨rfl,_,[],rfl,?_⟩
  refine Xd (Xm fun A' hA' led' hN'=>?_)
  repeat' got_up
  refine ⟨rfl,_,[],rfl,?_⟩
  have hgs:=XdD a b n ha
  generalize hG:XC n (Xaz (Xj (XH a b) a.length b.length))=gs0 at *
  refine Xd (TG.mono (K:=fun f st' rows'=>f=AFlow.next/\rows'=[]) ?_ ?_)
  ·refine XcN (k:=104) nofun (J:=fun items st' rows'=>∃ s gs v1 v2 v3 v4 v5 v6 v7 v8 v9 v10 v11 v12 v13,items=gs.map Xae/\rows'=(Xao a b ff tf fd td lt s gs).map AV.str/\(∀ g∈gs,GrpOk a.length b.length g) /\
    st'=⟨XcV a b ff tf fd td lt n s v1 v2 v3 v4 v5 v6 v7 v8 v9 v10 v11 v12 v13,[]⟩) ?_ ?_ ?_ (fun _=>@_)
   ·intro A' hA' led' hN'
    repeat' got_up
    refine Xr (led:=led') (XeW (hA'.mono nofun) nofun) fun v l h=>?_
    obtain ⟨d,rfl,dj,jk,pp,mm,rfl,hds,hmm⟩:=h
    repeat' got_up
    refine XgI (led1:=XJ w d dj jk pp a b mm .none .none []++led') (by walk_at "perm") (Xl6 (N:=N) (hA'.mono nofun) hn ha nofun hraw hds hmm) fun v l h=>?_
    obtain ⟨ga,gn,gs,gl,rfl,rfl,hsp⟩:=h
    refine ⟨_,WkL.refl _,?_⟩
    refine XdW (g04 w) hsp fun hI=>?_
    rw [hG] at hI
    exact ⟨ga,_,[],_,rfl,rfl,hI _ _,false,gs0,_,_,_,_,_,_,_,_,_,_,_,_,_,rfl,rfl,hgs,rfl⟩
   ·rintro x xs st' rows' gl ⟨s,gs,v1,v2,v3,v4,v5,v6,v7,v8,v9,v10,v11,v12,v13,hxs,rfl,hok,rfl⟩ A' hA' led' hN'
    cases gs with
    | nil=>cases hxs
    | cons g gs =>
     obtain ⟨rfl,rfl⟩:=Xx2 hxs
     have hgo:=hok g (Xwf ..)
     have hok':∀ g'∈gs,GrpOk a.length b.length g':=fun g' h'=>hok g' (Xwh _ h')
     have hh:=hA'.h
     repeat' got_up
     refine ⟨[],rfl,?_⟩
     simp only [Xwv]
     refine Xd (TG.mono (K:=fun f st' rows'=>f=AFlow.next/\rows'=(Xeo a b lt g++Xao a b ff tf fd td lt true gs).map AV.str/\∃ u2 u3,st'=⟨XcV a b ff tf fd td lt n true (Xae g) u2 u3 v4 v5 v6 v7 v8 v9 v10 v11 v12 v13,gl⟩) ?_ ?_)
     ·cases s with
      | true =>
       refine XbL fun A' hA' led' hN'=>?_
       repeat' got_up
       refine ⟨gl,rfl,?_⟩
       rw [if_neg (by simp)]
       exact Xv ⟨rfl,rfl,_,_,rfl⟩
      | false =>
       refine XbL fun A' hA' led' hN'=>?_
       repeat' got_up
       refine ⟨gl,rfl,?_⟩
       rw [if_pos (by rfl)]
       refine Xd (Xm fun A' hA' led' hN'=>?_)
       repeat' got_up
       refine ⟨rfl,_,gl,rfl,?_⟩
       refine Xd (Xm fun A' hA' led' hN'=>?_)
       got_up
       refine T.to (.str (Xaq fd)) ?_ ?_
       ·repeat' got_up
        refine Xbo nofun ?_
        repeat' got_up
        ·rename_i hc
         refine Xdc nofun ⟨?_,rfl⟩
         unfold Xaq
         rw [if_neg (by simp at hc;omega)]
        ·rename_i hc
         refine ⟨?_,rfl⟩
         unfold Xaq
         rw [if_pos (by simp at hc;omega)]
       repeat' got_up
       refine ⟨rfl,_,gl,rfl,?_⟩
       refine Xd (Xm fun A' hA' led' hN'=>?_)
       got_up
       refine T.to (.str (Xaq td)) ?_ ?_
       ·repeat' got_up
        refine Xbo nofun ?_
        repeat' got_up
        ·rename_i hc
         refine Xdc nofun ⟨?_,rfl⟩
         unfold Xaq
         rw [if_neg (by simp at hc;omega)]
        ·rename_i hc
         refine ⟨?_,rfl⟩
         unfold Xaq
         rw [if_pos (by simp at hc;omega)]
       repeat' got_up
       refine ⟨rfl,_,gl,rfl,?_⟩
       have d1:=XdG hfd
       have d2:=XdG htd
       refine Xd (XaC (fun A' hA' led' hN'=>?_) @_ @_)
       repeat' got_up
       refine XiL nofun d1 nofun ⟨gl,_,rfl,rfl,?_⟩
       refine Xd (XaC (fun A' hA' led' hN'=>?_) @_ @_)
       repeat' got_up
       refine XpU nofun d2 nofun ⟨gl,_,rfl,rfl,?_⟩
       exact Xv ⟨rfl,rfl,_,_,rfl⟩
     ·rintro f st' rows' ⟨rfl,rfl,u2,u3,rfl⟩
      obtain ⟨os0,hg0⟩:=hgo.split
      obtain ⟨os1,hg1⟩:=hgo.last
      obtain ⟨hl1,hl2⟩:=hgo.i2
      have hf1:=hgo.ii
      have hf2:=hgo.jj
      have hglen:=hgo.len
      generalize hrest:Xao a b ff tf fd td lt true gs=rest
      rw [show Xeo a b lt g=Xg5 (XA (Xak g).i1 (XV g).i2) (XA (Xak g).j1 (XV g).j2) lt::g.flatMap (opU a b) from rfl]
      generalize Xak g=go at *
      generalize XV g=gz at *
      refine Xd (Xm fun A' hA' led' hN'=>?_)
      have hh:=hA'.h
      unfold Xae
      repeat' got_up
      refine Xy .frz nofun nofun (x:=Xc go) (by rw [hg0];rfl) ?_
      repeat' got_up
      refine Xcj (xs:=os1.map Xc) (x:=Xc gz) .frz (by rw [hg1];simp) (by rw [hg1] at hglen;simp at hglen ⊢;omega) ?_
      repeat' got_up
      refine ⟨rfl,_,gl,rfl,?_⟩
      unfold Xc
      refine Xd (Xm fun A' hA' led' hN'=>?_)
      repeat' got_up
      refine Xah nofun nofun (x := .int go.i1) rfl ?_
      repeat' got_up
      refine Xah nofun nofun (x := .int gz.i2) rfl ?_
      repeat' got_up
      refine Xr (Xiq hA'.lt nofun nofun nofun) fun v l h=>?_
      obtain ⟨rfl,rfl⟩:=h
      repeat' got_up
      refine ⟨rfl,_,gl,rfl,?_⟩
      refine Xd (Xm fun A' hA' led' hN'=>?_)
      repeat' got_up
      refine Xah nofun nofun (x := .int go.j1) rfl ?_
      repeat' got_up
      refine Xah nofun nofun (x := .int gz.j2) rfl ?_
      repeat' got_up
      refine Xr (Xiq hA'.lt nofun nofun nofun) fun v l h=>?_
      obtain ⟨rfl,rfl⟩:=h
      repeat' got_up
      refine ⟨rfl,_,gl,rfl,?_⟩
      have r1:=Xc2 (a:=go.i1) (b:=gz.i2) nofun nofun nofun
      have r2:=Xc2 (a:=go.j1) (b:=gz.j2) nofun nofun nofun
      refine Xd (XaC (fun A' hA' led' hN'=>?_) @_ @_)
      repeat' got_up
      refine XpY nofun nofun nofun ⟨gl,_,rfl,rfl,?_⟩
      refine Xd (TG.mono (K:=fun f st' rows'=>f=AFlow.next/\rows'=rest.map AV.str/\∃ w8 w9 w10 w11 w12 w13,st'=⟨XcV a b ff tf fd td lt n true (Xae g) u2 u3 (Xc go) (Xc gz) (.str (XA go.i1 gz.i2)) (.str (XA go.j1 gz.j2)) w8 w9 w10 w11 w12 w13,gl⟩) ?_ ?_)
      ·refine XcN (k:=5) nofun (J:=fun items st' rows'=>∃ (os:List Op) (w8 w9 w10 w11 w12 w13:AV),items=os.map Xc/\(∀ o∈os,o∈g)/\rows'=(os.flatMap (opU a b)++rest).map AV.str /\
        st'=⟨XcV a b ff tf fd td lt n true (Xae g) u2 u3 (Xc go) (Xc gz) (.str (XA go.i1 gz.i2)) (.str (XA go.j1 gz.j2)) w8 w9 w10 w11 w12 w13,gl⟩) ?_ ?_ ?_ (fun _=>@_)
       ·intro A' hA' led' hN'
        unfold Xae
        repeat' got_up
        exact XaE (k:=5) fun it gl' hI=>⟨it,gl',gl,_,rfl,rfl,hI,g,v8,v9,v10,v11,v12,v13,rfl,fun o ho=>ho,rfl,rfl⟩
       ·rintro x xs st' rows' gl' ⟨os,w8,w9,w10,w11,w12,w13,hxs,hos,rfl,rfl⟩ A' hA' led' hN'
        cases os with
        | nil=>cases hxs
        | cons o os =>
         obtain ⟨rfl,rfl⟩:=Xx2 hxs
         have ho:=hos o (Xwf ..)
         have hos':∀ o∈os,o∈g:=fun o' h'=>hos o' (Xwh _ h')
         obtain ⟨oi1,oi2⟩:=hgo.i o ho
         obtain ⟨oj1,oj2⟩:=hgo.j o ho
         have hh:=hA'.h
         obtain ⟨otag,i1,i2,j1,j2⟩:=o
         dsimp only at oi1 oi2 oj1 oj2
         rw [show Xc ⟨otag,i1,i2,j1,j2⟩=AV.tup [.str otag,.int i1,.int i2,.int j1,.int j2] from rfl]
         repeat' got_up
         refine ⟨gl,rfl,?_⟩
         dsimp only
         generalize hY:gl++gl'=Y
         have hY':Y=gl++gl':=hY.symm
         have ssl:∀ (i j:Nat) (xs:List Str),(((xs.map AV.str).drop i).take (j - i))=(Xaw xs i j).map AV.str:=fun i j xs=>by unfold Xaw;rw [List.map_take,List.map_drop]
         have smem:∀ (i j:Nat) (xs:List Str) y,y∈Xaw xs i j->y∈xs:=fun i j xs y hy=>List.mem_of_mem_drop (List.mem_of_mem_take hy)
         have hsl:10 ^ 6<=XwZ:=by decide
         rw [List.flatMap_cons,XwK]
         generalize hr2:os.flatMap (opU a b)++rest=rest2
         have fin:∀ w13,∃ l,(St.mk (XcV a b ff tf fd td lt n true (Xae g) u2 u3 (Xc go) (Xc gz) (.str (XA go.i1 gz.i2)) (.str (XA go.j1 gz.j2)) (.str otag) (.int i1) (.int i2) (.int j1) (.int j2) w13) Y).led=l++gl' /\
           ∃ (os':List Op) (w8 w9 w10 w11 w12 w13':AV),os.map Xc=os'.map Xc/\(∀ o∈os',o∈g)/\rest2.map AV.str=(os'.flatMap (opU a b)++rest).map AV.str /\
            St.mk (XcV a b ff tf fd td lt n true (Xae g) u2 u3 (Xc go) (Xc gz) (.str (XA go.i1 gz.i2)) (.str (XA go.j1 gz.j2)) (.str otag) (.int i1) (.int i2) (.int j1) (.int j2) w13) l =
             ⟨XcV a b ff tf fd td lt n true (Xae g) u2 u3 (Xc go) (Xc gz) (.str (XA go.i1 gz.i2)) (.str (XA go.j1 gz.j2)) w8 w9 w10 w11 w12 w13',gl⟩:=fun w13 =>
          ⟨gl,hY',os,_,_,_,_,_,_,rfl,hos',by rw [hr2],rfl⟩
         unfold opU
         dsimp only
         refine Xd ?_
         refine XbL fun A' hA' led' hN'=>?_
         repeat' got_up
         refine ⟨Y,rfl,?_⟩
         by_cases ht:otag=Xo
         ·rw [if_pos (by simpa using ht),if_pos ht,XwH]
          refine Xd (Xdt (L:=fun v=>XcV a b ff tf fd td lt n true (Xae g) u2 u3 (Xc go) (Xc gz) (.str (XA go.i1 gz.i2)) (.str (XA go.j1 gz.j2)) (.str otag) (.int i1) (.int i2) (.int j1) (.int j2) v) nofun @_ (fun u v=>by fold_depth) ?_ ?_ ?_ (fun _=>@_) @_ @_)
          ·intro A' hA' led' hN'
           refine Xdu (fun _ _=>@_) ?_
           repeat' got_up
           exact ⟨a.map AV.str,i1,i2,.frz,rfl,rfl,oi1,by rw [Xwi];exact oi2,by rw [Xwi];omega,by rw [ssl],rfl⟩
          ·intro A' hA' l' hl' y hy
           repeat' got_up
           have:=hla y (smem _ _ _ _ hy)
           exact Xbp (by show 1+y.length<_;omega) ⟨rfl,rfl⟩
          ·intro v
           refine Xd (Xme fun A' hA' led' hN'=>?_)
           refine XfU ⟨Y,rfl,trivial,fin v⟩
         ·rw [if_neg (by simpa using ht),if_neg ht,XwK,XwH]
          refine Xv ?_
          dsimp only
          generalize hr3:(if otag=XR∨otag=Xad then (Xaw b j1 j2).map (⟨⟨[43]⟩⟩ ++ ·) else [])=rI
          refine Xd (TG.mono (K:=fun f st' rows'=>f=AFlow.next/\rows'=(rI++rest2).map AV.str/\∃ w,st'=⟨XcV a b ff tf fd td lt n true (Xae g) u2 u3 (Xc go) (Xc gz) (.str (XA go.i1 gz.i2)) (.str (XA go.j1 gz.j2)) (.str otag) (.int i1) (.int i2) (.int j1) (.int j2) w,Y⟩) ?_ ?_)
          ·refine XbL fun A' hA' led' hN'=>?_
           refine XpO @_ @_ ?_
           repeat' got_up
           refine ⟨otag,rfl,Y,rfl,?_⟩
           by_cases h2:otag=XR∨otag=Xaf
           ·rw [if_pos (by simpa using h2),if_pos h2]
            refine Xd (Xdt (L:=fun v=>XcV a b ff tf fd td lt n true (Xae g) u2 u3 (Xc go) (Xc gz) (.str (XA go.i1 gz.i2)) (.str (XA go.j1 gz.j2)) (.str otag) (.int i1) (.int i2) (.int j1) (.int j2) v) nofun @_ (fun u v=>by fold_depth) ?_ ?_ ?_ (fun _=>@_) @_ @_)
            ·intro A' hA' led' hN'
             refine Xdu (fun _ _=>@_) ?_
             repeat' got_up
             exact ⟨a.map AV.str,i1,i2,.frz,rfl,rfl,oi1,by rw [Xwi];exact oi2,by rw [Xwi];omega,by rw [ssl],rfl⟩
            ·intro A' hA' l' hl' y hy
             repeat' got_up
             have:=hla y (smem _ _ _ _ hy)
             exact Xbp (by show 1+y.length<_;omega) ⟨rfl,rfl⟩
            ·intro v
             exact Xv ⟨rfl,rfl,_,rfl⟩
           ·rw [if_neg (by simpa using h2),if_neg h2]
            exact Xv ⟨rfl,rfl,_,rfl⟩
          ·rintro f st' rows' ⟨rfl,rfl,w,rfl⟩
           subst hr3
           rw [XwH]
           refine Xd (TG.mono (K:=fun f st' rows'=>f=AFlow.next/\rows'=rest2.map AV.str/\∃ w,st'=⟨XcV a b ff tf fd td lt n true (Xae g) u2 u3 (Xc go) (Xc gz) (.str (XA go.i1 gz.i2)) (.str (XA go.j1 gz.j2)) (.str otag) (.int i1) (.int i2) (.int j1) (.int j2) w,Y⟩) ?_ ?_)
           ·refine XbL fun A' hA' led' hN'=>?_
            refine XpO @_ @_ ?_
            repeat' got_up
            refine ⟨otag,rfl,Y,rfl,?_⟩
            by_cases h2:otag=XR∨otag=Xad
            ·rw [if_pos (by simpa using h2),if_pos h2]
             refine Xd (Xdt (L:=fun v=>XcV a b ff tf fd td lt n true (Xae g) u2 u3 (Xc go) (Xc gz) (.str (XA go.i1 gz.i2)) (.str (XA go.j1 gz.j2)) (.str otag) (.int i1) (.int i2) (.int j1) (.int j2) v) nofun @_ (fun u v=>by fold_depth) ?_ ?_ ?_ (fun _=>@_) @_ @_)
             ·intro A' hA' led' hN'
              refine Xdu (fun _ _=>@_) ?_
              repeat' got_up
              exact ⟨b.map AV.str,j1,j2,.frz,rfl,rfl,oj1,by rw [Xwi];exact oj2,by rw [Xwi];omega,by rw [ssl],rfl⟩
             ·intro A' hA' l' hl' y hy
              repeat' got_up
              have:=hlb y (smem _ _ _ _ hy)
              exact Xbp (by show 1+y.length<_;omega) ⟨rfl,rfl⟩
             ·intro v
              exact Xv ⟨rfl,rfl,_,rfl⟩
            ·rw [if_neg (by simpa using h2),if_neg h2]
             exact Xv ⟨rfl,rfl,_,rfl⟩
           ·rintro f st' rows' ⟨rfl,rfl,w,rfl⟩
            exact Xv (fin w)
       ·rintro st' rows' ⟨os,w8,w9,w10,w11,w12,w13,hxs,hos,rfl,rfl⟩
        cases os with
        | cons o os=>cases hxs
        | nil=>exact ⟨rfl,rfl,_,_,_,_,_,_,rfl⟩
      ·rintro f st' rows' ⟨rfl,rfl,w8,w9,w10,w11,w12,w13,rfl⟩
       refine Xv ?_
       subst hrest
       exact ⟨[],rfl,true,gs,_,_,_,_,_,_,_,_,_,_,_,_,_,rfl,rfl,hok',rfl⟩
   ·rintro st' rows' ⟨s,gs,v1,v2,v3,v4,v5,v6,v7,v8,v9,v10,v11,v12,v13,hxs,rfl,hok,rfl⟩
    cases gs with
    | cons g gs=>cases hxs
    | nil=>exact ⟨rfl,rfl⟩
  ·rintro f st' rows' ⟨rfl,rfl⟩
   exact Xv rfl
end
section
theorem Xuz(w:XwE)(K':Frag)(h:∀ a o,(KB w.params).lookup a=some o->(Xg K') a=some o):Ground0 (Xg K'):=⟨fun s hs=>⟨fun _=>none,by
 have e:=hs 2 _ (h 2 _ (show B04 w 2=some (boot_o_2 w.params) from @_))
 exact ⟨_,#[],0,e,@_,fun _ h=>by simp at h,fun _=>rfl⟩,rfl⟩⟩
abbrev Xbx:Str:=⟨⟨[99,111,110,116,101,120,116,95,100,105,102,102,46,60,108,111,99,97,108,115,62,46,60,103,101,110,101,120,112,114,62]⟩⟩
abbrev Xt7:XwR × AObj:=(271,Xac Xbx)
def Xf5(t:Str):Str:=if t=Xad then ⟨⟨[43,32]⟩⟩ else if t=Xaf then ⟨⟨[45,32]⟩⟩ else if t=XR then ⟨⟨[33,32]⟩⟩ else ⟨⟨[32,32]⟩⟩
abbrev Xef:List (Str × AV):=[(kI,.str ⟨⟨[43,32]⟩⟩),(kD,.str ⟨⟨[45,32]⟩⟩),(kR,.str ⟨⟨[33,32]⟩⟩),(kE,.str ⟨⟨[32,32]⟩⟩)]
theorem Xit{t:Str}(h:Xjh t):Xz Xef t=some (.str (Xf5 t)):=by
 rcases h with rfl | rfl | rfl | rfl <;> rfl
theorem Xeg(t:Str):(Xf5 t).length=2:=by
 unfold Xf5
 split
 ·rfl
 ·split
  ·rfl
  ·split <;> rfl
theorem Xcm:Xxz (.type "dict") "__getitem__" = XxW (some (.builtin "dict.__getitem__")):=F.slot_dict_getitem.lookup
def isA(o:Op):Bool:=o.tag == XR || o.tag == Xaf
def isB(o:Op):Bool:=o.tag == XR || o.tag == Xad
def opA(a:List Str)(o:Op):List Str:=if o.tag=Xad then [] else (Xaw a o.i1 o.i2).map (Xf5 o.tag ++ ·)
def opB(b:List Str)(o:Op):List Str:=if o.tag=Xaf then [] else (Xaw b o.j1 o.j2).map (Xf5 o.tag ++ ·)
def XbR(a:List Str)(g:List Op):List Str:=if (g.map isA).any id then g.flatMap (opA a) else []
def XbG(b:List Str)(g:List Op):List Str:=if (g.map isB).any id then g.flatMap (opB b) else []
abbrev Xjf:Str:=⟨⟨[42,42,42,42,42,42,42,42,42,42,42,42,42,42,42]⟩⟩
def Xep(a b:List Str)(lt:Str)(g:List Op):List Str :=
 (Xjf++lt)::Xg4 (Xp (Xak g).i1 (XV g).i2) lt::(XbR a g++XcK (Xp (Xak g).j1 (XV g).j2) lt::XbG b g)
def Xe5(ff tf fd td lt:Str):List Str:=[XkC ff (Xaq fd) lt,Xe9 tf (Xaq td) lt]
def XaR(a b:List Str)(ff tf fd td lt:Str):Bool->List (List Op)->List Str
 | _,[]=>[]
 | started,g::gs=>(if started then [] else Xe5 ff tf fd td lt)++(Xep a b lt g++XaR a b ff tf fd td lt true gs)
abbrev Xbq(a b:List Str)(ff tf fd td lt:Str)(n:Nat)(d:XwR)(s:Bool)(v1 v2 v3 v4 v5 v6 v7 v8 v9 v10 v11 v12 v13 v14:AV):List (Str × AV) :=
 [(XAh,.str lt),(Xzt,.int n),(XAg,.str td),(XAf,.str fd),(XAe,.str tf),(XAd,.str ff),(Xza,.lst (b.map .str)),(Xy9,.lst (a.map .str)),
  (XzX,v1),(XAj,v2),(XAk,v3),(XAl,v4),(XAm,v5),(XAn,v6),(XAo,v7),(XzU,v8),(XzL,v9),(XzO,v10),(XAr,v11),(XzM,v12),(XzP,v13),(XAp,v14),(XAq,.ref d),(XAi,.bool s)]
theorem XfY{α β γ:Type}(f:α->β)(h:α->γ):∀ (g:List α),(g.map f).zip (g.map h)=g.map fun o=>(f o,h o)
 | []=>rfl
 | x::xs=>by rw [Xwr,Xwr,Xyr,XfY f h xs,Xwr]
abbrev Xuk(v1 v2:AV):List (Str × AV):=[(XAG,.any),(XzU,v1),(XAr,v2)]
theorem Xl9{w:XwE}{A:Xww}{a b:List Str}{ff tf fd td lt:Str}{n:Nat}{led N:Led}(hA:Room A 200)(hNt:Xt7∈N)(hn:n<10 ^ 5)(ha:a.length<10 ^ 5)(hb:b.length<4000)
  (hff:ff.length<10 ^ 4) (htf:tf.length<10 ^ 4) (hfd:fd.length<10 ^ 4) (htd:td.length<10 ^ 4) (hlt:lt.length<10 ^ 4) (hla:∀ x∈a,x.length<10 ^ 4) (hlb:∀ x∈b,x.length<10 ^ 4)
  (hraw:(mbW (XH a b) (0,a.length,0,b.length)).length<64) :
  TC P04 w A (B04 w) (.ref 276) [.lst (a.map .str),.lst (b.map .str),.str ff,.str tf,.str fd,.str td,.int n,.str lt] [] led
   (Xcg P04 w (B04 w) N 153 ((XaR a b ff tf fd td lt false (XC n (Xaz (Xj (XH a b) a.length b.length)))).map .str) led):=by
 refine XkQ (m:=150) (binds:=[(Xy9,.lst (a.map .str)),(Xza,.lst (b.map .str)),(XAd,.str ff),(XAe,.str tf),(XAf,.str fd),(XAg,.str td),(Xzt,.int n),(XAh,.str lt)]) (g04 w) (XsD _) hA.lt (Binds.peek fun Z xs ks hx hk=>?_) @_ fun L=>?_
 ·cases hk
  obtain _ | ⟨h1,hx⟩:=hx
  obtain _ | ⟨h2,hx⟩:=hx
  obtain _ | ⟨h3,hx⟩:=hx
  obtain _ | ⟨h4,hx⟩:=hx
  obtain _ | ⟨h5,hx⟩:=hx
  obtain _ | ⟨h6,hx⟩:=hx
  obtain _ | ⟨h7,hx⟩:=hx
  obtain _ | ⟨h8,hx⟩:=hx
  cases hx
  exact ⟨_,@_,.cons h1 (.cons h2 (.cons h3 (.cons h4 (.cons h5 (.cons h6 (.cons h7 (.cons h8 .nil)))))))⟩
 ·simp only [XwL,XwV,Xwv,Xws]
  refine TG.spare XzX @_ ?_
  refine TG.spare XAj @_ ?_
  refine TG.spare XAk @_ ?_
  refine TG.spare XAl @_ ?_
  refine TG.spare XAm @_ ?_
  refine TG.spare XAn @_ ?_
  refine TG.spare XAo @_ ?_
  refine TG.spare XzU @_ ?_
  refine TG.spare XzL @_ ?_
  refine TG.spare XzO @_ ?_
  refine TG.spare XAr @_ ?_
  refine TG.spare XzM @_ ?_
  refine TG.spare XzP @_ ?_
  refine TG.spare XAp @_ ?_
  simp only [Xws,Xwv]
  refine Xd (Xm fun A' hA' led' hN'=>?_)
  got_up
  refine ⟨rfl,_,[],rfl,?_⟩
  refine Xd (Xm fun A' hA' led' hN'=>?_)
  repeat' got_up
  refine Xr (led:=led') (XfO (hA'.mono nofun) nofun nofun) fun v l h=>?_
  obtain ⟨rfl,rfl⟩:=h
  repeat' got_up
  refine ⟨rfl,_,[],rfl,?_⟩
  refine Xd (Xm fun A' hA' led' hN'=>?_)
  got_up
  refine Xsn @_ (Xl7 w) @_ @_ @_ @_ fun d hd=>?_
  repeat' got_up
  refine ⟨rfl,_,[(d,Xl (XwP P04 w) Xef)],rfl,?_⟩
  generalize hD:[(d,Xl (XwP P04 w) Xef)]=D
  have hdm:(d,Xl (XwP P04 w) Xef)∈D:=by rw [← hD];exact Xwf ..
  refine Xd (Xm fun A' hA' led' hN'=>?_)
  repeat' got_up
  refine ⟨rfl,_,D,rfl,?_⟩
  have hgs:=XdD a b n ha
  generalize hG:XC n (Xaz (Xj (XH a b) a.length b.length))=gs0 at *
  refine Xd (TG.mono (K:=fun f st' rows'=>f=AFlow.next/\rows'=[]) ?_ ?_)
  ·refine XcN (k:=104) nofun (J:=fun items st' rows'=>∃ s gs v1 v2 v3 v4 v5 v6 v7 v8 v9 v10 v11 v12 v13 v14,items=gs.map Xae/\rows'=(XaR a b ff tf fd td lt s gs).map AV.str/\(∀ g∈gs,GrpOk a.length b.length g) /\
    st'=⟨Xbq a b ff tf fd td lt n d s v1 v2 v3 v4 v5 v6 v7 v8 v9 v10 v11 v12 v13 v14,D⟩) ?_ ?_ ?_ (fun _=>@_)
   ·intro A' hA' led' hN'
    repeat' got_up
    refine Xr (led:=D++led') (XeW (hA'.mono nofun) nofun) fun v l h=>?_
    obtain ⟨md,rfl,dj,jk,pp,mm,rfl,hds,hmm⟩:=h
    repeat' got_up
    refine XgI (led1:=XJ w md dj jk pp a b mm .none .none []++(D++led')) (by walk_at "perm") (Xl6 (N:=N) (hA'.mono nofun) hn ha nofun hraw hds hmm) fun v l h=>?_
    obtain ⟨ga,gn,gs,gl,rfl,rfl,hsp⟩:=h
    refine ⟨_,WkL.refl _,?_⟩
    refine XdW (g04 w) hsp fun hI=>?_
    rw [hG] at hI
    exact ⟨ga,_,D,_,rfl,rfl,hI _ _,false,gs0,_,_,_,_,_,_,_,_,_,_,_,_,_,_,rfl,rfl,hgs,rfl⟩
   ·rintro x xs st' rows' gl ⟨s,gs,v1,v2,v3,v4,v5,v6,v7,v8,v9,v10,v11,v12,v13,v14,hxs,rfl,hok,rfl⟩ A' hA' led' hN'
    cases gs with
    | nil=>cases hxs
    | cons g gs =>
     obtain ⟨rfl,rfl⟩:=Xx2 hxs
     have hgo:=hok g (Xwf ..)
     have hok':∀ g'∈gs,GrpOk a.length b.length g':=fun g' h'=>hok g' (Xwh _ h')
     have hh:=hA'.h
     repeat' got_up
     refine ⟨D,rfl,?_⟩
     generalize hX:D++gl=X
     have hX':X=D++gl:=hX.symm
     have hdX:(d,Xl (XwP P04 w) Xef)∈X:=by rw [hX'];exact Xxf _ hdm
     refine Xd (TG.mono (K:=fun f st' rows'=>f=AFlow.next/\rows'=(Xep a b lt g++XaR a b ff tf fd td lt true gs).map AV.str/\∃ u2 u3,st'=⟨Xbq a b ff tf fd td lt n d true (Xae g) u2 u3 v4 v5 v6 v7 v8 v9 v10 v11 v12 v13 v14,X⟩) ?_ ?_)
     ·cases s with
      | true =>
       refine XbL fun A' hA' led' hN'=>?_
       repeat' got_up
       refine ⟨X,rfl,?_⟩
       rw [if_neg (by simp)]
       exact Xv ⟨rfl,rfl,_,_,rfl⟩
      | false =>
       refine XbL fun A' hA' led' hN'=>?_
       repeat' got_up
       refine ⟨X,rfl,?_⟩
       rw [if_pos (by rfl)]
       refine Xd (Xm fun A' hA' led' hN'=>?_)
       repeat' got_up
       refine ⟨rfl,_,X,rfl,?_⟩
       refine Xd (Xm fun A' hA' led' hN'=>?_)
       got_up
       refine T.to (.str (Xaq fd)) ?_ ?_
       ·repeat' got_up
        refine Xbo nofun ?_
        repeat' got_up
        ·rename_i hc
         refine Xdc nofun ⟨?_,rfl⟩
         unfold Xaq
         rw [if_neg (by simp at hc;omega)]
        ·rename_i hc
         refine ⟨?_,rfl⟩
         unfold Xaq
         rw [if_pos (by simp at hc;omega)]
       repeat' got_up
       refine ⟨rfl,_,X,rfl,?_⟩
       refine Xd (Xm fun A' hA' led' hN'=>?_)
       got_up
       refine T.to (.str (Xaq td)) ?_ ?_
       ·repeat' got_up
        refine Xbo nofun ?_
        repeat' got_up
        ·rename_i hc
         refine Xdc nofun ⟨?_,rfl⟩
         unfold Xaq
         rw [if_neg (by simp at hc;omega)]
        ·rename_i hc
         refine ⟨?_,rfl⟩
         unfold Xaq
         rw [if_pos (by simp at hc;omega)]
       repeat' got_up
       refine ⟨rfl,_,X,rfl,?_⟩
       have d1:=XdG hfd
       have d2:=XdG htd
       refine Xd (XaC (fun A' hA' led' hN'=>?_) @_ @_)
       repeat' got_up
       refine XpV nofun d1 nofun ⟨X,_,rfl,rfl,?_⟩
       refine Xd (XaC (fun A' hA' led' hN'=>?_) @_ @_)
       repeat' got_up
       refine XiL nofun d2 nofun ⟨X,_,rfl,rfl,?_⟩
       exact Xv ⟨rfl,rfl,_,_,rfl⟩
     ·rintro f st' rows' ⟨rfl,rfl,u2,u3,rfl⟩
      obtain ⟨os0,hg0⟩:=hgo.split
      obtain ⟨os1,hg1⟩:=hgo.last
      obtain ⟨hl1,hl2⟩:=hgo.i2
      have hf1:=hgo.ii
      have hf2:=hgo.jj
      have hglen:=hgo.len
      generalize hrest:XaR a b ff tf fd td lt true gs=rest
      rw [show Xep a b lt g=(Xjf++lt)::Xg4 (Xp (Xak g).i1 (XV g).i2) lt::(XbR a g++XcK (Xp (Xak g).j1 (XV g).j2) lt::XbG b g) from rfl]
      generalize Xak g=go at *
      generalize XV g=gz at *
      refine Xd (Xm fun A' hA' led' hN'=>?_)
      have hh:=hA'.h
      unfold Xae
      repeat' got_up
      refine Xy .frz nofun nofun (x:=Xc go) (by rw [hg0];rfl) ?_
      repeat' got_up
      refine Xcj (xs:=os1.map Xc) (x:=Xc gz) .frz (by rw [hg1];simp) (by rw [hg1] at hglen;simp at hglen ⊢;omega) ?_
      repeat' got_up
      refine ⟨rfl,_,X,rfl,?_⟩
      refine Xd (XaC (fun A' hA' led' hN'=>?_) @_ @_)
      repeat' got_up
      refine Xbp (by show 15+lt.length<_;omega) ⟨X,_,rfl,rfl,?_⟩
      unfold Xc
      refine Xd (Xm fun A' hA' led' hN'=>?_)
      repeat' got_up
      refine Xah nofun nofun (x := .int go.i1) rfl ?_
      repeat' got_up
      refine Xah nofun nofun (x := .int gz.i2) rfl ?_
      repeat' got_up
      refine Xr (Xir hA'.lt nofun nofun nofun) fun v l h=>?_
      obtain ⟨rfl,rfl⟩:=h
      repeat' got_up
      refine ⟨rfl,_,X,rfl,?_⟩
      have r1:=Xc3 (a:=go.i1) (b:=gz.i2) nofun nofun nofun
      have r2:=Xc3 (a:=go.j1) (b:=gz.j2) nofun nofun nofun
      refine Xd (XaC (fun A' hA' led' hN'=>?_) @_ @_)
      repeat' got_up
      refine XpX nofun nofun ⟨X,_,rfl,rfl,?_⟩
      dsimp only
      show TG _ _ _ _ _ _ _ _ _ (List.map AV.str ((XbR a g++XcK (Xp go.j1 gz.j2) lt::XbG b g)++rest)) _
      rw [show (XbR a g++XcK (Xp go.j1 gz.j2) lt::XbG b g)++rest=XbR a g++(XcK (Xp go.j1 gz.j2) lt::(XbG b g++rest)) from by simp]
      generalize hH:XcK (Xp go.j1 gz.j2) lt::(XbG b g++rest)=H
      have ssl:∀ (i j:Nat) (xs:List Str),(((xs.map AV.str).drop i).take (j - i))=(Xaw xs i j).map AV.str:=fun i j xs=>by unfold Xaw;rw [List.map_take,List.map_drop]
      have smem:∀ (i j:Nat) (xs:List Str) y,y∈Xaw xs i j->y∈xs:=fun i j xs y hy=>List.mem_of_mem_drop (List.mem_of_mem_take hy)
      refine Xd (TG.mono (K:=fun f st' rows'=>f=AFlow.next/\rows'=H.map AV.str/\∃ w8 w9 w10 w11 w12 w13 w14,st'=⟨Xbq a b ff tf fd td lt n d true (.lst (g.map Xc)) u2 u3 (Xc go) (Xc gz) (.str (Xp go.i1 gz.i2)) v7 w8 w9 w10 w11 w12 w13 w14,X⟩) ?_ ?_)
      ·unfold XbR
       refine XbL fun A' hA' led' hN'=>?_
       have hh:=hA'.h
       got_up
       got_up
       got_up
       refine Xmj (K:=KB w.params) (c:=275) (P:=271) (q:=Xbx) [XAG,XzU,XAr] (xs:=g.map Xc) (bs:=g.map isA) (J:=fun loc=>∃ v1 v2,loc=Xuk v1 v2) (m:=100) (bi:=Xyd) (Xuz w) nofun (hA'.mono nofun) @_ @_ @_ @_ @_ @_ @_ (fun _=>@_) @_ @_ @_ @_ @_ @_ ?_ ?_ (by rw [Xwi,Xwi]) ⟨_,_,rfl⟩ ?_ ?_
       ·exact XwM _ (hN' _ hNt)
       ·repeat' got_up
        exact ⟨rfl,rfl⟩
       ·intro K' cenv c' L' hK' hcenv hcd p hp loc hJ A'' hA'' led''
        subst hcenv
        obtain ⟨x1,x2,rfl⟩:=hJ
        rw [XxH,XfY] at hp
        obtain ⟨o,ho,rfl⟩:=XwJ.mp hp
        have hh:=hA''.h
        obtain ⟨otag,i1,i2,j1,j2⟩:=o
        dsimp only
        rw [show Xc ⟨otag,i1,i2,j1,j2⟩=AV.tup [.str otag,.int i1,.int i2,.int j1,.int j2] from rfl]
        repeat' got_up
        refine XpN (fun s X Q h=>kds_main X hcd h) @_ ?_
        repeat' got_up
        exact ⟨otag,rfl,rfl,rfl,_,_,rfl⟩
       ·repeat' got_up
        refine ⟨X,rfl,?_⟩
        by_cases hany:(g.map isA).any id=true
        ·rw [if_pos hany,if_pos hany,XwH]
         refine Xd (TG.mono (K:=fun f st' rows'=>f=AFlow.next/\rows'=H.map AV.str/\∃ w8 w9 w10 w11 w12 w13 w14,st'=⟨Xbq a b ff tf fd td lt n d true (.lst (g.map Xc)) u2 u3 (Xc go) (Xc gz) (.str (Xp go.i1 gz.i2)) v7 w8 w9 w10 w11 w12 w13 w14,X⟩) ?_ ?_)
         ·refine XcN (k:=5) nofun (J:=fun items st' rows'=>∃ (os:List Op) (w8 w9 w10 w11 w12 w13 w14:AV),items=os.map Xc/\(∀ o∈os,o∈g)/\rows'=(os.flatMap (opA a)).map AV.str++H.map AV.str/\st'=⟨Xbq a b ff tf fd td lt n d true (.lst (g.map Xc)) u2 u3 (Xc go) (Xc gz) (.str (Xp go.i1 gz.i2)) v7 w8 w9 w10 w11 w12 w13 w14,X⟩) ?_ ?_ ?_ (fun _=>@_)
          ·intro A' hA' led' hN'
           repeat' got_up
           exact XaE (k:=5) fun it gl' hI=>⟨it,gl',X,_,rfl,rfl,hI,g,v8,v9,v10,v11,v12,v13,v14,rfl,fun o ho=>ho,rfl,rfl⟩
          ·rintro x xs st' rows' gl' ⟨os,w8,w9,w10,w11,w12,w13,w14,hxs,hos,rfl,rfl⟩ A' hA' led' hN'
           cases os with
           | nil=>cases hxs
           | cons o os =>
            obtain ⟨rfl,rfl⟩:=Xx2 hxs
            have ho:=hos o (Xwf ..)
            have hos':∀ o∈os,o∈g:=fun o' h'=>hos o' (Xwh _ h')
            obtain ⟨oi1,oi2⟩:=hgo.i o ho
            obtain ⟨oj1,oj2⟩:=hgo.j o ho
            have hot:=hgo.tg o ho
            have hh:=hA'.h
            obtain ⟨otag,i1,i2,j1,j2⟩:=o
            dsimp only at oi1 oi2 oj1 oj2 hot
            rw [show Xc ⟨otag,i1,i2,j1,j2⟩=AV.tup [.str otag,.int i1,.int i2,.int j1,.int j2] from rfl]
            repeat' got_up
            refine ⟨X,rfl,?_⟩
            dsimp only
            generalize hY:X++gl'=Y
            have hY':Y=X++gl':=hY.symm
            have hdY:(d,Xl (XwP P04 w) Xef)∈Y:=by rw [hY'];exact Xxf _ hdX
            have hsl:10 ^ 6<=XwZ:=by decide
            rw [List.flatMap_cons,XwH,XwK]
            generalize hr2:(os.flatMap (opA a)).map AV.str++H.map AV.str=rest2
            have fin:∀ w14,∃ l,(St.mk (Xbq a b ff tf fd td lt n d true (.lst (g.map Xc)) u2 u3 (Xc go) (Xc gz) (.str (Xp go.i1 gz.i2)) v7 (.str otag) (.int i1) (.int i2) (.int j2) w12 w13 w14) Y).led=l++gl' /\
              ∃ (os':List Op) (z8 z9 z10 z11 z12 z13 z14:AV),os.map Xc=os'.map Xc/\(∀ o∈os',o∈g)/\rest2=(os'.flatMap (opA a)).map AV.str++H.map AV.str /\
               St.mk (Xbq a b ff tf fd td lt n d true (.lst (g.map Xc)) u2 u3 (Xc go) (Xc gz) (.str (Xp go.i1 gz.i2)) v7 (.str otag) (.int i1) (.int i2) (.int j2) w12 w13 w14) l=⟨Xbq a b ff tf fd td lt n d true (.lst (g.map Xc)) u2 u3 (Xc go) (Xc gz) (.str (Xp go.i1 gz.i2)) v7 z8 z9 z10 z11 z12 z13 z14,X⟩:=fun w14=>⟨X,hY',os,_,_,_,_,_,_,_,rfl,hos',by rw [hr2],rfl⟩
            unfold opA
            dsimp only
            refine Xd (TG.mono (K:=fun f st' rows'=>f=AFlow.next/\rows'=rest2/\∃ w,st'=⟨Xbq a b ff tf fd td lt n d true (.lst (g.map Xc)) u2 u3 (Xc go) (Xc gz) (.str (Xp go.i1 gz.i2)) v7 (.str otag) (.int i1) (.int i2) (.int j2) w12 w13 w,Y⟩) ?_ ?_)
            ·refine XbL fun A' hA' led' hN'=>?_
             repeat' got_up
             refine ⟨Y,rfl,?_⟩
             by_cases ht:otag=Xad
             ·rw [if_neg (by simpa using ht),if_pos ht]
              exact Xv ⟨rfl,rfl,_,rfl⟩
             ·rw [if_pos (by simpa using ht),if_neg ht]
              refine Xd (Xdt (L:=fun v=>Xbq a b ff tf fd td lt n d true (.lst (g.map Xc)) u2 u3 (Xc go) (Xc gz) (.str (Xp go.i1 gz.i2)) v7 (.str otag) (.int i1) (.int i2) (.int j2) w12 w13 v) nofun @_ (fun u v=>by fold_depth) ?_ ?_ ?_ (fun _=>@_) @_ @_)
              ·intro A' hA' led' hN'
               refine Xdu (fun _ _=>@_) ?_
               repeat' got_up
               exact ⟨a.map AV.str,i1,i2,.frz,rfl,rfl,oi1,by rw [Xwi];exact oi2,by rw [Xwi];omega,by rw [ssl],rfl⟩
              ·intro A' hA' l' hl' y hy
               repeat' got_up
               refine ⟨_,_,Xcm,Xea (knd:=XwP P04 w) (m:=Xef) (hl' _ hdY),Xfp (knd:=XwP P04 w) (Xfs otag) (hl' _ hdY) (Xit hot) ?_⟩
               repeat' got_up
               have hyl:=hla y (smem _ _ _ _ hy)
               exact Xbp (by rw [Xeg];omega) ⟨rfl,rfl⟩
              ·intro v
               exact Xv ⟨rfl,rfl,_,rfl⟩
            ·rintro f st' rows' ⟨rfl,rfl,w,rfl⟩
             exact Xv (fin w)
          ·rintro st' rows' ⟨os,w8,w9,w10,w11,w12,w13,w14,hxs,hos,rfl,rfl⟩
           cases os with
           | cons o os=>cases hxs
           | nil=>exact ⟨rfl,rfl,_,_,_,_,_,_,_,rfl⟩
         ·rintro f st' rows' ⟨rfl,rfl,w8,w9,w10,w11,w12,w13,w14,rfl⟩
          exact Xv ⟨rfl,rfl,_,_,_,_,_,_,_,rfl⟩
        ·rw [if_neg hany,if_neg hany]
         exact Xv ⟨rfl,rfl,_,_,_,_,_,_,_,rfl⟩
      ·rintro f st' rows' ⟨rfl,rfl,w8,w9,w10,w11,w12,w13,w14,rfl⟩
       subst hH
       refine Xd (Xm fun A' hA' led' hN'=>?_)
       repeat' got_up
       refine Xah nofun nofun (x := .int go.j1) rfl ?_
       repeat' got_up
       refine Xah nofun nofun (x := .int gz.j2) rfl ?_
       repeat' got_up
       refine Xr (Xir hA'.lt nofun nofun nofun) fun v l h=>?_
       obtain ⟨rfl,rfl⟩:=h
       repeat' got_up
       refine ⟨rfl,_,X,rfl,?_⟩
       refine Xd (XaC (fun A' hA' led' hN'=>?_) @_ @_)
       repeat' got_up
       refine XpW nofun nofun ⟨X,_,rfl,rfl,?_⟩
       dsimp only
       refine Xd (TG.mono (K:=fun f st' rows'=>f=AFlow.next/\rows'=rest.map AV.str/\∃ w8 w9 w10 w11 w12 w13 w14,st'=⟨Xbq a b ff tf fd td lt n d true (.lst (g.map Xc)) u2 u3 (Xc go) (Xc gz) (.str (Xp go.i1 gz.i2)) (.str (Xp go.j1 gz.j2)) w8 w9 w10 w11 w12 w13 w14,X⟩) ?_ ?_)
       ·unfold XbG
        refine XbL fun A' hA' led' hN'=>?_
        have hh:=hA'.h
        got_up
        got_up
        got_up
        refine Xmj (K:=KB w.params) (c:=275) (P:=271) (q:=Xbx) [XAG,XzU,XAr] (xs:=g.map Xc) (bs:=g.map isB) (J:=fun loc=>∃ v1 v2,loc=Xuk v1 v2) (m:=100) (bi:=Xyd) (Xuz w) nofun (hA'.mono nofun) @_ @_ @_ @_ @_ @_ @_ (fun _=>@_) @_ @_ @_ @_ @_ @_ ?_ ?_ (by rw [Xwi,Xwi]) ⟨_,_,rfl⟩ ?_ ?_
        ·exact XwM _ (hN' _ hNt)
        ·repeat' got_up
         exact ⟨rfl,rfl⟩
        ·intro K' cenv c' L' hK' hcenv hcd p hp loc hJ A'' hA'' led''
         subst hcenv
         obtain ⟨x1,x2,rfl⟩:=hJ
         rw [XxH,XfY] at hp
         obtain ⟨o,ho,rfl⟩:=XwJ.mp hp
         have hh:=hA''.h
         obtain ⟨otag,i1,i2,j1,j2⟩:=o
         dsimp only
         rw [show Xc ⟨otag,i1,i2,j1,j2⟩=AV.tup [.str otag,.int i1,.int i2,.int j1,.int j2] from rfl]
         repeat' got_up
         refine XpN (fun s X Q h=>kds_main X hcd h) @_ ?_
         repeat' got_up
         exact ⟨otag,rfl,rfl,rfl,_,_,rfl⟩
        ·repeat' got_up
         refine ⟨X,rfl,?_⟩
         by_cases hany:(g.map isB).any id=true
         ·rw [if_pos hany,if_pos hany,XwH]
          refine Xd (TG.mono (K:=fun f st' rows'=>f=AFlow.next/\rows'=rest.map AV.str/\∃ w8 w9 w10 w11 w12 w13 w14,st'=⟨Xbq a b ff tf fd td lt n d true (.lst (g.map Xc)) u2 u3 (Xc go) (Xc gz) (.str (Xp go.i1 gz.i2)) (.str (Xp go.j1 gz.j2)) w8 w9 w10 w11 w12 w13 w14,X⟩) ?_ ?_)
          ·refine XcN (k:=5) nofun (J:=fun items st' rows'=>∃ (os:List Op) (w8 w9 w10 w11 w12 w13 w14:AV),items=os.map Xc/\(∀ o∈os,o∈g)/\rows'=(os.flatMap (opB b)).map AV.str++rest.map AV.str/\st'=⟨Xbq a b ff tf fd td lt n d true (.lst (g.map Xc)) u2 u3 (Xc go) (Xc gz) (.str (Xp go.i1 gz.i2)) (.str (Xp go.j1 gz.j2)) w8 w9 w10 w11 w12 w13 w14,X⟩) ?_ ?_ ?_ (fun _=>@_)
           ·intro A' hA' led' hN'
            repeat' got_up
            exact XaE (k:=5) fun it gl' hI=>⟨it,gl',X,_,rfl,rfl,hI,g,w8,w9,w10,w11,w12,w13,w14,rfl,fun o ho=>ho,rfl,rfl⟩
           ·rintro x xs st' rows' gl' ⟨os,w8,w9,w10,w11,w12,w13,w14,hxs,hos,rfl,rfl⟩ A' hA' led' hN'
            cases os with
            | nil=>cases hxs
            | cons o os =>
             obtain ⟨rfl,rfl⟩:=Xx2 hxs
             have ho:=hos o (Xwf ..)
             have hos':∀ o∈os,o∈g:=fun o' h'=>hos o' (Xwh _ h')
             obtain ⟨oi1,oi2⟩:=hgo.i o ho
             obtain ⟨oj1,oj2⟩:=hgo.j o ho
             have hot:=hgo.tg o ho
             have hh:=hA'.h
             obtain ⟨otag,i1,i2,j1,j2⟩:=o
             dsimp only at oi1 oi2 oj1 oj2 hot
             rw [show Xc ⟨otag,i1,i2,j1,j2⟩=AV.tup [.str otag,.int i1,.int i2,.int j1,.int j2] from rfl]
             repeat' got_up
             refine ⟨X,rfl,?_⟩
             dsimp only
             generalize hY:X++gl'=Y
             have hY':Y=X++gl':=hY.symm
             have hdY:(d,Xl (XwP P04 w) Xef)∈Y:=by rw [hY'];exact Xxf _ hdX
             have hsl:10 ^ 6<=XwZ:=by decide
             rw [List.flatMap_cons,XwH,XwK]
             generalize hr2:(os.flatMap (opB b)).map AV.str++rest.map AV.str=rest2
             have fin:∀ w14,∃ l,(St.mk (Xbq a b ff tf fd td lt n d true (.lst (g.map Xc)) u2 u3 (Xc go) (Xc gz) (.str (Xp go.i1 gz.i2)) (.str (Xp go.j1 gz.j2)) (.str otag) w9 w10 (.int i2) (.int j1) (.int j2) w14) Y).led=l++gl' /\
               ∃ (os':List Op) (z8 z9 z10 z11 z12 z13 z14:AV),os.map Xc=os'.map Xc/\(∀ o∈os',o∈g)/\rest2=(os'.flatMap (opB b)).map AV.str++rest.map AV.str /\
                St.mk (Xbq a b ff tf fd td lt n d true (.lst (g.map Xc)) u2 u3 (Xc go) (Xc gz) (.str (Xp go.i1 gz.i2)) (.str (Xp go.j1 gz.j2)) (.str otag) w9 w10 (.int i2) (.int j1) (.int j2) w14) l=⟨Xbq a b ff tf fd td lt n d true (.lst (g.map Xc)) u2 u3 (Xc go) (Xc gz) (.str (Xp go.i1 gz.i2)) (.str (Xp go.j1 gz.j2)) z8 z9 z10 z11 z12 z13 z14,X⟩:=fun w14=>⟨X,hY',os,_,_,_,_,_,_,_,rfl,hos',by rw [hr2],rfl⟩
             unfold opB
             dsimp only
             refine Xd (TG.mono (K:=fun f st' rows'=>f=AFlow.next/\rows'=rest2/\∃ w,st'=⟨Xbq a b ff tf fd td lt n d true (.lst (g.map Xc)) u2 u3 (Xc go) (Xc gz) (.str (Xp go.i1 gz.i2)) (.str (Xp go.j1 gz.j2)) (.str otag) w9 w10 (.int i2) (.int j1) (.int j2) w,Y⟩) ?_ ?_)
             ·refine XbL fun A' hA' led' hN'=>?_
              repeat' got_up
              refine ⟨Y,rfl,?_⟩
              by_cases ht:otag=Xaf
              ·rw [if_neg (by simpa using ht),if_pos ht]
               exact Xv ⟨rfl,rfl,_,rfl⟩
              ·rw [if_pos (by simpa using ht),if_neg ht]
               refine Xd (Xdt (L:=fun v=>Xbq a b ff tf fd td lt n d true (.lst (g.map Xc)) u2 u3 (Xc go) (Xc gz) (.str (Xp go.i1 gz.i2)) (.str (Xp go.j1 gz.j2)) (.str otag) w9 w10 (.int i2) (.int j1) (.int j2) v) nofun @_ (fun u v=>by fold_depth) ?_ ?_ ?_ (fun _=>@_) @_ @_)
               ·intro A' hA' led' hN'
                refine Xdu (fun _ _=>@_) ?_
                repeat' got_up
                exact ⟨b.map AV.str,j1,j2,.frz,rfl,rfl,oj1,by rw [Xwi];exact oj2,by rw [Xwi];omega,by rw [ssl],rfl⟩
               ·intro A' hA' l' hl' y hy
                repeat' got_up
                refine ⟨_,_,Xcm,Xea (knd:=XwP P04 w) (m:=Xef) (hl' _ hdY),Xfp (knd:=XwP P04 w) (Xfs otag) (hl' _ hdY) (Xit hot) ?_⟩
                repeat' got_up
                have hyl:=hlb y (smem _ _ _ _ hy)
                exact Xbp (by rw [Xeg];omega) ⟨rfl,rfl⟩
               ·intro v
                exact Xv ⟨rfl,rfl,_,rfl⟩
             ·rintro f st' rows' ⟨rfl,rfl,w,rfl⟩
              exact Xv (fin w)
           ·rintro st' rows' ⟨os,w8,w9,w10,w11,w12,w13,w14,hxs,hos,rfl,rfl⟩
            cases os with
            | cons o os=>cases hxs
            | nil=>exact ⟨rfl,rfl,_,_,_,_,_,_,_,rfl⟩
          ·rintro f st' rows' ⟨rfl,rfl,w8,w9,w10,w11,w12,w13,w14,rfl⟩
           exact Xv ⟨rfl,rfl,_,_,_,_,_,_,_,rfl⟩
         ·rw [if_neg hany,if_neg hany]
          exact Xv ⟨rfl,rfl,_,_,_,_,_,_,_,rfl⟩
       ·rintro f st' rows' ⟨rfl,rfl,w8,w9,w10,w11,w12,w13,w14,rfl⟩
        refine Xv ?_
        subst hrest
        subst hX
        exact ⟨D,rfl,true,gs,_,_,_,_,_,_,_,_,_,_,_,_,_,_,rfl,rfl,hok',rfl⟩
   ·rintro st' rows' ⟨s,gs,v1,v2,v3,v4,v5,v6,v7,v8,v9,v10,v11,v12,v13,v14,hxs,rfl,hok,rfl⟩
    cases gs with
    | cons g gs=>cases hxs
    | nil=>exact ⟨rfl,rfl⟩
  ·rintro f st' rows' ⟨rfl,rfl⟩
   exact Xv rfl
end
section
abbrev UDE:String := "UnicodeDecodeError"
theorem XsG:mroOf (.type UDE)=XxW [.type UDE,.type "UnicodeError",.type "ValueError",.type "Exception",.type "BaseException",.type "object"]:=by rw [mroOf_type];kernel_rfl
theorem XiR:Slot UDE "__init__" "UnicodeDecodeError.__init__" :=
 .of (owner:=UDE) (n := "__init__") (by rw [Xxh,XwS];kernel_rfl) (by decide +kernel) (by decide +kernel) (by decide +kernel)
  (by first | exact .inl (by decide +kernel) | exact .inr (by decide +kernel)) (by rw [Xxe];kernel_rfl)
theorem Xqr:Bind.madeBy (.type UDE)=XxW (some "UnicodeDecodeError.__new__"):=@_
theorem Xmr:TypeCalled UDE "UnicodeDecodeError.__new__" "UnicodeDecodeError.__init__" :=
 ⟨by decide +kernel,by decide +kernel,⟨_,_,XsG⟩,Xqr,by decide +kernel,by rw [Xxe];kernel_rfl,XiR⟩
theorem XsF:ExcNewFacts UDE "UnicodeDecodeError.__new__" where
 ends:=by decide +kernel
 owner:=by decide +kernel
 entry:=entryFor_alias (id' := "BaseException.__new__") (by rw [fastTable_eq_tree];kernel_rfl) (by first | rfl | decide +kernel) (by decide +kernel) (by rw [fastTable_eq_tree];kernel_rfl)
 sub:=by rw [Xxe];kernel_rfl
 notAttr:=by rw [Xxe];kernel_rfl
 notName:=by rw [Xxe];kernel_rfl
 made:=@_
theorem Xjn(a b c d e:Value):checkTypeCall UDE ⟨[a,b,c,d,e],[]⟩=XxW ():=@_
theorem Xk8(a b c d e:Value):checkBuiltinCall "UnicodeDecodeError.__new__" ⟨[.type UDE,a,b,c,d,e],[]⟩=XxW ():=@_
theorem XhK:entryFor table "UnicodeDecodeError.__init__" = some Builtin.«UnicodeDecodeError.__init__» := Xyf @_
theorem XiS(x a b c d e:Value):XyY "UnicodeDecodeError.__init__" ⟨[x,a,b,c,d,e],[]⟩:=by unfold XyY;kernel_rfl
theorem Xk7:XyI (.type UDE) (.type "UnicodeEncodeError")=XxW false:=by rw [Xxe];kernel_rfl
theorem Xqq:XyI (.type UDE) (.type UDE)=XxW true:=by rw [Xxe];kernel_rfl
theorem XqE:entryFor table "_codecs.lookup_error.surrogateescape" = some Builtin.«_codecs.lookup_error.surrogateescape» := Xyf @_
theorem XsP:builtinKind "_codecs.lookup_error.surrogateescape" = none:=by decide +kernel
theorem XqD:plainId "_codecs.lookup_error.surrogateescape" = true:=by decide +kernel
theorem XsQ(a:Value):XyY "_codecs.lookup_error.surrogateescape" ⟨[a],[]⟩:=by unfold XyY;kernel_rfl
abbrev sA:Str:=⟨⟨[97,115,99,105,105]⟩⟩
abbrev sS:Str:=⟨⟨[115,117,114,114,111,103,97,116,101,101,115,99,97,112,101]⟩⟩
theorem Xsa{u1 u2 u3:Tok}{b:Array UInt8}{t:Tok}{d:Str}:Builtin.«_codecs.decode.text» ⟨[.bytes b t,.str sA u1,.str sS u2,.str d u3],[]⟩ =
  (Builtin.Bytes.bytesLike d.toString (.bytes b t) >>= fun b'=>Builtin._codecs.dataHeld d.toString (.bytes b t) >>= fun h=>Builtin._codecs.decodeRoad d.toString b' sA (some sS) h >>= fun v=>ret v):=@_
theorem Xsb{id:String}{b:Array UInt8}:Builtin._codecs.decodeRoad id b sA (some sS) []=(Builtin._codecs.runDecoder id Builtin._codecs.asciiDecoder (some sS) true b 0 [] >>= fun r=>mkStr ⟨r.1⟩):=@_
theorem XpC{c:UInt8}{cs:List UInt8}{t u1 u2:Tok}:Builtin.«bytes.decode» ⟨[.bytes (c::cs).toArray t,.str sA u1,.str sS u2],[]⟩ =
  (mkStr (PySem.Str.ofString "utf-8") >>= fun _=>mkStr sA >>= fun e=>mkStr sS >>= fun r=>mkStr (PySem.Str.ofString "bytes.decode") >>= fun d =>
  call (.builtin "_codecs.decode.text") [.bytes (c::cs).toArray t,e,r,d] >>= fun v=>ret v):=@_
theorem XpD{t u1 u2:Tok}:Builtin.«bytes.decode» ⟨[.bytes #[] t,.str sA u1,.str sS u2],[]⟩=(rule "bytes.decode.empty" >>= fun _=>retStr Str.empty):=@_
end
section
open PySem PySem.W PySem.Builtin
abbrev Xb8(m:UnicodeEncodeError.Members):Array Value := #[m.encoding,m.object,Xxw m.start,Xxw m.stop,m.reason]
def ExcIs(h:Heap)(e:XwR)(own:Array Value):Prop:=∃ v0,h.get? e=some {cls := .type UDE,data := .fields (#[v0,.none,.none,.none,.bool false,.none]++own)}
section
variable{prog:Xwx}{w:XwE}{A:Xww}{E:Value->Xwl->Prop}{s:Xwl}
theorem Xru{e:XwR}{Q:UnicodeEncodeError.Members->Xwl->Prop}(h:ExcIs s.heap e #[])(hQ:Q {} s):XwG (XwD prog w) A (UnicodeEncodeError.members (.ref e)) Q E s:=by
 obtain ⟨v0,ho⟩:=h
 unfold UnicodeEncodeError.members
 refine Xwe (XxU ho rfl ?_)
 exact Xwg hQ
theorem Xbh{e:XwR}{m:UnicodeEncodeError.Members}{Q:UnicodeEncodeError.Members->Xwl->Prop}(h:ExcIs s.heap e (Xb8 m))(hQ:Q m s):XwG (XwD prog w) A (UnicodeEncodeError.members (.ref e)) Q E s:=by
 obtain ⟨v0,ho⟩:=h
 unfold UnicodeEncodeError.members
 refine Xwe (XxU ho rfl ?_)
 exact Xwg hQ
theorem Xax{e:XwR}{own:Array Value}{m:UnicodeEncodeError.Members}{Q:Unit->Xwl->Prop}(h:ExcIs s.heap e own)(hs:own.size<10)
  (hQ:∀ h',ExcIs h' e (Xb8 m)->XwO e s.heap h'->Q () {s with heap:=h' }):XwG (XwD prog w) A (UnicodeEncodeError.setMembers (.ref e) m) Q E s:=by
 obtain ⟨v0,ho⟩:=h
 unfold UnicodeEncodeError.setMembers
 have hext:(#[v0,Xxr,Xxr,Xxr,Value.bool false,Xxr]++own).extract 0 6 ++ #[m.encoding,m.object,Xxw m.start,Xxw m.stop,m.reason] = #[v0,.none,.none,.none,.bool false,.none]++Xb8 m:=by
  rw [Array.extract_append]
  simp
 refine wpAny_updateFields ho rfl (hQ _ ⟨v0,?_⟩ (XwT ..)) (by
  show (((#[v0,Xxr,Xxr,Xxr,Value.bool false,Xxr]++own).extract 0 6 ++ #[m.encoding,m.object,Xxw m.start,Xxw m.stop,m.reason]).size<=_)
  rw [hext,Xxs];exact Xxq rfl)
 have:=XwW (XxZ fun vs=>vs.extract 0 6 ++ #[m.encoding,m.object,Xxw m.start,Xxw m.stop,m.reason]) ho rfl
 rw [this]
 show some (XxZ (fun vs=>vs.extract 0 6 ++ #[m.encoding,m.object,Xxw m.start,Xxw m.stop,m.reason]) _)=_
 unfold XxZ
 dsimp only
 rw [hext]
theorem Xsd{cd rs:Str}{b:Array UInt8}{t u0 u1 u2 u3:Tok}{i j:Nat}{Q:Value->Xwl->Prop}(hi:(i:Int)<2 ^ 62)(hj:(j:Int)<2 ^ 62)
  (hQ:∀ e h',s.heap.get? e=none->(∀ a o,s.heap.get? a=some o->h'.get? a=some o)->ExcIs h' e (Xb8 ⟨.str cd u0,.bytes b t,i,j,.str rs u3⟩)->Q (.ref e) {s with heap:=h' }) :
  XwG (XwD prog w) A (call (.type UDE) [.str cd u0,.bytes b t,.int i u1,.int j u2,.str rs u3]) Q E s:=by
 obtain ⟨hp,g,d,tk,os⟩:=s
 refine callType_codes (Q₁:=fun obj s₁=>obj = .ref (hp.objs.size+1)/\s₁=(⟨(hp.push {cls := .type "tuple",data := .seq [Value.str cd u0,.bytes b t,.int i u1,.int j u2,.str rs u3].toArray}).push
   { cls := .type UDE,data := .fields #[.ref hp.objs.size,.none,.none,.none,.bool false,.none]},g,d,tk,os⟩:Xwl)) Xmr (Xjn _ _ _ _ _) XhK
  (codeAny_call_builtin_code (Code.quiet_builtin _ (by decide +kernel)) (Xxg (Xk8 _ _ _ _ _) (codeAny_exc_new XsF ⟨rfl,rfl⟩ (by rw [Xxs];exact Xxq rfl)))) ?_
 rintro obj s₁ ⟨rfl,rfl⟩
 have hget:((hp.push {cls := .type "tuple",data := .seq [Value.str cd u0,.bytes b t,.int i u1,.int j u2,.str rs u3].toArray}).push {cls := .type UDE,data := .fields #[.ref hp.objs.size,.none,.none,.none,.bool false,.none]}).get? (hp.objs.size+1)=some
   { cls := .type UDE,data := .fields #[.ref hp.objs.size,.none,.none,.none,.bool false,.none]}:=by heap_get
 refine ⟨⟨_,hget,rfl⟩,XiS _ _ _ _ _ _,?_⟩
 have keep0:∀ a o,hp.get? a=some o->((hp.push {cls := .type "tuple",data := .seq [Value.str cd u0,.bytes b t,.int i u1,.int j u2,.str rs u3].toArray}).push {cls := .type UDE,data := .fields #[.ref hp.objs.size,.none,.none,.none,.bool false,.none]}).get? a=some o:=fun a o e=>Xwq _ (Xwq _ e)
 have hnone:hp.get? (hp.objs.size+1)=none:=Heap.get?_none_of_le nofun
 generalize hp.objs.size+1=e at *
 generalize ((hp.push {cls := .type "tuple",data := .seq [Value.str cd u0,.bytes b t,.int i u1,.int j u2,.str rs u3].toArray}).push {cls := .type UDE,data := .fields #[.ref hp.objs.size,.none,.none,.none,.bool false,.none]})=h0 at *
 unfold Builtin.«UnicodeDecodeError.__init__»
 show XwG _ _ (UnicodeEncodeError.beginInit "UnicodeDecodeError.__init__" 5 ⟨[.ref e,.str cd u0,.bytes b t,.int i u1,.int j u2,.str rs u3],[]⟩ >>= _) _ _ _
 refine Xwe ?_
 unfold UnicodeEncodeError.beginInit
 dsimp only
 rw [if_neg (by simp)]
 refine Xwe (Xyv hget rfl rfl ?_)
 refine Xwe (wpAny_newTuple ?_ (by rw [Xxs];exact Xxq rfl))
 refine Xwe (wpAny_setField (Xwq _ hget) rfl (Nat.lt_of_lt_of_eq (Nat.zero_lt_succ 5) rfl) (Xwe (wpAny_letGo ?_)))
 have E1:ExcIs ((h0.push {cls := .type "tuple",data := .seq [Value.str cd u0,.bytes b t,.int i u1,.int j u2,.str rs u3].toArray}).update e (XxZ (·.setIfInBounds 0 (.ref h0.objs.size)))) e #[]:=⟨.ref h0.objs.size,by
  rw [XwW _ (Xwq _ hget) rfl];rfl⟩
 have K1:∀ a o,a≠e->h0.get? a=some o->((h0.push {cls := .type "tuple",data := .seq [Value.str cd u0,.bytes b t,.int i u1,.int j u2,.str rs u3].toArray}).update e (XxZ (·.setIfInBounds 0 (.ref h0.objs.size)))).get? a=some o:=fun a o hn q=>by
  rw [Heap.get?_update_ne _ _ _ _ hn];exact Xwq _ q
 dsimp only
 generalize ((h0.push {cls := .type "tuple",data := .seq [Value.str cd u0,.bytes b t,.int i u1,.int j u2,.str rs u3].toArray}).update e (XxZ (·.setIfInBounds 0 (.ref h0.objs.size))))=h1 at *
 rw [if_pos (by rfl)]
 refine Xwe (Xru E1 (Xwe (Xax E1 (Nat.zero_lt_succ 9) fun h2 E2 B2=>Xwe (wpAny_letGo ?_))))
 refine Xwe (Xbh E2 (Xwe (Xax E2 (show (Xb8 _).size<10 from Xxq rfl) fun h3 E3 B3=>Xwe (wpAny_letGo ?_))))
 refine Xwe (Xbh E3 (Xwe (Xax E3 (show (Xb8 _).size<10 from Xxq rfl) fun h4 E4 B4=>Xwe (wpAny_letGo ?_))))
 rw [if_neg (by simp)]
 refine Xwg ?_
 dsimp only
 refine Xwe ?_
 unfold UnicodeEncodeError.strArgument
 refine Xwe (Xwg ?_)
 rw [if_neg (by simp)]
 refine Xwg ?_
 refine Xwe ?_
 unfold UnicodeEncodeError.initRange
 refine Xwe ?_
 unfold UnicodeEncodeError.sizeArgument asIndex
 refine Xwe (Xwe (Xwg ?_))
 refine Xwg ?_
 rw [if_neg (by simp;omega)]
 refine Xwg ?_
 refine Xwe (Xbh E4 (Xwe (Xax E4 (show (Xb8 _).size<10 from Xxq rfl) fun h5 E5 B5=>?_)))
 refine Xwe ?_
 refine Xwe (Xwe (Xwg ?_))
 refine Xwg ?_
 rw [if_neg (by simp;omega)]
 refine Xwg ?_
 refine Xwe (Xbh E5 (Xax E5 (show (Xb8 _).size<10 from Xxq rfl) fun h6 E6 B6=>?_))
 refine Xwe (Xwe (Xwg ?_))
 rw [if_neg (by simp)]
 refine Xwg ?_
 refine Xwe ?_
 unfold UnicodeDecodeError.bytesOf?
 refine Xwg ?_
 rw [if_pos (by rfl)]
 refine Xwe (Xwg ?_)
 rw [if_pos (by rfl)]
 refine Xwe (Xwg ?_)
 rw [if_neg (by rw [show UnicodeEncodeError.isUnset (.bytes b t)=false from rfl];exact Xw0)]
 refine Xwe (Xbh E6 (Xwe (Xax E6 (show (Xb8 _).size<10 from Xxq rfl) fun h7 E7 B7=>Xwg ?_)))
 refine ⟨rfl,hQ e h7 hnone (fun a o q=>?_) E7⟩
 have hne:a≠e:=fun z=>by
  have q':hp.get? a=some o:=q
  rw [z,hnone] at q';cases q'
 exact (B7.2 a hne).trans ((B6.2 a hne).trans ((B5.2 a hne).trans ((B4.2 a hne).trans ((B3.2 a hne).trans ((B2.2 a hne).trans (K1 a o hne (keep0 a o q)))))))
end
end
section
open PySem PySem.W PySem.Builtin
theorem Xmq:XyI (.type UDE) (.type "UnicodeTranslateError")=XxW false:=by rw [Xxe];kernel_rfl
section
variable{prog:Xwx}{w:XwE}{A:Xww}{E:Value->Xwl->Prop}{s:Xwl}
theorem ExcIs.typeIs{e:XwR}{own:Array Value}(h:ExcIs s.heap e own):s.TypeIs (.ref e) UDE:=let ⟨_,ho⟩:=h;⟨_,ho,rfl⟩
theorem Xtr{e:XwR}{enc rs:Value}{b:Array UInt8}{t:Tok}{i:Nat}{x:UInt8}{Q:Value->Xwl->Prop}(h:ExcIs s.heap e (Xb8 ⟨enc,.bytes b t,i,(i+1:Nat),rs⟩))(hx:b[i]? = some x)(hx2:128<=x.toNat)(hi:b.size<2 ^ 60)
  (hQ:∀ u1 u2,Q (.ref s.heap.objs.size) {s with heap:=s.heap.push {cls := .type "tuple",data := .seq #[.str ⟨#[0xDC00+x.toNat]⟩ u1,.int (i+1:Nat) u2]},toks:=s.toks+1+1}) :
  XwG (XwD prog w) A (call (.builtin "_codecs.lookup_error.surrogateescape") [.ref e]) Q E s:=by
 have hlt:i<b.size:=by
  rcases Xxp i b.size with q | q
  ·exact q
  ·rw [XyN q] at hx;cases hx
 have hbx:b[i]=x:=by rw [getElem?_pos b i hlt] at hx;exact Xx9 hx
 refine call_function_tree XsP XqD XqE (XsQ _) ?_
 unfold «_codecs.lookup_error.surrogateescape»
 refine Xwe (m:=oneArg "surrogateescape" _) (Xwg ?_)
 refine Xwe ?_
 unfold _codecs.seen
 refine Xwe (XxL h.typeIs Xk7 ?_)
 refine Xwe (XxL h.typeIs Xqq ?_)
 refine Xwe (XxL h.typeIs Xmq ?_)
 rw [if_neg Xw0,if_pos rfl]
 refine Xwe (Xwg ?_)
 dsimp only
 rw [if_neg (by decide)]
 refine Xwe (Xbh h ?_)
 dsimp only
 rw [if_neg (by rw [show UnicodeEncodeError.isUnset (.bytes b t)=false from rfl];exact Xw0)]
 rw [if_pos (by decide)]
 refine Xwe (Xwg ?_)
 have hsz:(b.map (·.toNat)).isEmpty=false:=by
  have:0<(b.map (·.toNat)).size:=by rw [Array.size_map];omega
  simpa [Array.isEmpty] using Nat.ne_of_gt this
 rw [hsz,if_neg Xw0]
 refine Xwg ?_
 dsimp only
 have e1:min (max (i:Int) 0) (((b.map (·.toNat)).size:Int) - 1)=i:=by rw [Array.size_map];omega
 have e2:min (max ((i+1:Nat):Int) 1) ((b.map (·.toNat)).size:Int)=(i+1:Nat):=by rw [Array.size_map];omega
 rw [e1,e2]
 have e3:((((b.map (·.toNat)).extract (i:Int).toNat ((i+1:Nat):Int).toNat).toList.take 4).takeWhile fun x=>decide (x ≥ 128)).toArray = #[x.toNat]:=by
  have:(((b.map (·.toNat)).extract (i:Int).toNat ((i+1:Nat):Int).toNat)).toList=[x.toNat]:=by
   rw [XwY,XwY]
   apply List.ext_getElem
   ·simp;omega
   ·intro j h1 h2
    simp only [Xya] at h2
    have:j=0:=by omega
    subst this
    simp [hbx]
  rw [this]
  simp [hx2]
 rw [e3]
 rw [if_neg (by simp)]
 unfold _codecs.answer
 rw [show Array.map (fun x=>x+0xDC00) #[x.toNat] = #[0xDC00+x.toNat] from by simp [Nat.add_comm],show ((i:Int)+((#[x.toNat]:Array Nat).size:Int))=((i+1:Nat):Int) from by simp]
 refine Xwe (Xye ?_ (by show 1<=XwZ;rw [Xxs];decide))
 refine Xwe (wpAny_mkInt ?_)
 refine Xwe (wpAny_newTuple ?_ (by rw [Xxs];exact Xxq rfl))
 exact Xwg (hQ _ _)
end
end
section
open PySem PySem.W PySem.Builtin
abbrev seH:Value := .builtin "_codecs.lookup_error.surrogateescape"
structure FOk (h0 h:Heap) (b:Array UInt8) (st:_codecs.Faults):Prop where
 held:st.held=[]
 hand:st.handler=none∨st.handler=some seH
 exc:st.exc=none∨∃ e enc t i j rs,st.exc=some (.ref e)/\h0.get? e=none/\ExcIs h e (Xb8 ⟨enc,.bytes b t,i,j,rs⟩)
section
variable{prog:Xwx}{w:XwE}{A:Xww}{E:Value->Xwl->Prop}{s:Xwl}
theorem XhI{id:String}{h0:Heap}{b:Array UInt8}{st:_codecs.Faults}{i:Nat}{x:UInt8}{Q:_codecs.Faults × Array Nat × Nat->Xwl->Prop}(hk:∀ a o,h0.get? a=some o->s.heap.get? a=some o)(hst:FOk h0 s.heap b st)
  (hx:b[i]? = some x) (hx2:128<=x.toNat) (hi:b.size<2 ^ 20)
  (hQ:∀ st' s',(∃ h' tk,s'={ s with heap:=h',toks:=tk})->(∀ a o,h0.get? a=some o->s'.heap.get? a=some o)->FOk h0 s'.heap b st'->Q (st',#[0xDC00+x.toNat],i+1) s') :
  XwG (XwD prog w) A (_codecs.decodeFault id st (some sS) ["ignore", "replace", "surrogateescape"] "ascii" b i (i+1) "ordinal not in range(128)") Q E s:=by
 have hlt:i<b.size:=by
  rcases Xxp i b.size with q | q
  ·exact q
  ·rw [XyN q] at hx;cases hx
 obtain ⟨hd,ex,hl⟩:=st
 obtain ⟨h1,h2,h3⟩:=hst
 dsimp only at h1 h2 h3
 subst h1
 unfold _codecs.decodeFault
 refine Xwe (Xxg (a:=seH) ?_ ?_)
 ·rcases h2 with rfl | rfl
  ·kernel_rfl
  ·rfl
 refine Xwe (Xwt (Xw8 (Q:=fun exc s1=>∃ e enc t rs,exc = .ref e/\(∃ h' tk,s1={ s with heap:=h',toks:=tk})/\(∀ a o,h0.get? a=some o->s1.heap.get? a=some o)/\h0.get? e=none /\
  ExcIs s1.heap e (Xb8 ⟨enc,.bytes b t,(i:Nat),((i+1:Nat):Int),rs⟩)) ?_ ?_ fun _ _ h=>h))
 ·rcases h3 with rfl | ⟨e,enc,t,i',j',rs,rfl,hn,hE⟩
  ·show XwG (XwD prog w) A (mkStr (PySem.Str.ofString "ascii") >>= fun c=>mkBytes b >>= fun o=>mkInt i >>= fun i1=>mkInt (i+1:Nat) >>= fun i2=>mkStr (PySem.Str.ofString "ordinal not in range(128)") >>= fun r=>call (.type UDE) [c,o,i1,i2,r]) _ E s
   refine Xwe (Xye ?_ (by decide))
   refine Xwe (wpAny_mkBytes ?_ (by rw [Xxs];omega))
   refine Xwe (wpAny_mkInt (Xwe (wpAny_mkInt ?_)))
   refine Xwe (Xye ?_ (by decide))
   refine Xsd nofun nofun fun e h' hn hkeep hE=>⟨e,_,_,_,rfl,⟨_,_,rfl⟩,fun a o q=>hkeep a o (hk a o q),?_,hE⟩
   cases q:h0.get? e with
   | none=>rfl
   | some o=>have:=hk e o q;have hn':s.heap.get? e=none:=hn;rw [this] at hn';cases hn'
  ·show XwG (XwD prog w) A (UnicodeEncodeError.members (.ref e) >>= fun m=>mkStr (PySem.Str.ofString "ordinal not in range(128)") >>= fun r=>UnicodeEncodeError.setMembers (.ref e) {m with start:=i,stop:=(i+1:Nat),reason:=r} >>= fun _=>XxW (Value.ref e)) _ E s
   refine Xwe (Xbh hE (Xwe (Xye ?_ (by decide))))
   refine Xwe (Xax (s:={ s with toks:=s.toks+1}) hE (show (Xb8 _).size<10 from Xxq rfl) fun h' hE' hB=>Xwg ?_)
   refine ⟨e,enc,t,_,rfl,⟨h',_,rfl⟩,fun a o q=>(hB.2 a fun z=>?_).trans (hk a o q),hn,hE'⟩
   rw [z,hn] at q;cases q
 ·rintro exc s1 ⟨e,enc,t,rs,rfl,⟨h',tk,rfl⟩,hk1,hn,hE⟩
  refine Xwe ?_
  show XwG (XwD prog w) A (UnicodeEncodeError.members (.ref e) >>= fun m=>XyV [seH,.ref e] (call seH [.ref e]) >>= fun r=>UnicodeEncodeError.members (.ref e) >>= fun m'=>_) _ E _
  refine Xwe (Xbh hE (Xwe (Xwt (Xtr hE hx hx2 nofun fun u1 u2=>?_))))
  have hE2:ExcIs (h'.push {cls := .type "tuple",data := .seq #[.str ⟨#[0xDC00+x.toNat]⟩ u1,.int (i+1:Nat) u2]}) e (Xb8 ⟨enc,.bytes b t,(i:Nat),((i+1:Nat):Int),rs⟩):=by
   obtain ⟨v0,ho⟩:=hE
   exact ⟨v0,Xwq _ ho⟩
  refine Xwe (Xbh (s:={ s with heap:=h'.push {cls := .type "tuple",data := .seq #[.str ⟨#[0xDC00+x.toNat]⟩ u1,.int (i+1:Nat) u2]},toks:=tk+1+1}) hE2 ?_)
  dsimp only
  refine Xxl (by show (!(t == t && b == b))=false;simp) ?_
  refine Xwg ?_
  have htup:(h'.push {cls := .type "tuple",data := .seq #[.str ⟨#[0xDC00+x.toNat]⟩ u1,.int (i+1:Nat) u2]}).get? h'.objs.size=some {cls := .type "tuple",data := .seq #[.str ⟨#[0xDC00+x.toNat]⟩ u1,.int (i+1:Nat) u2]}:=Xwp _ rfl
  refine Xwt (Xwe ?_)
  show XwG (XwD prog w) A (isInstance (.ref h'.objs.size) (.type "tuple") >>= fun y=>_) _ E _
  refine Xwe (XxL (T := "tuple") ⟨_,htup,rfl⟩ isSubtype_tuple_tuple ?_)
  refine Xxl rfl ?_
  refine Xwe (XxT htup rfl ?_)
  refine Xwg ?_
  dsimp only
  refine Xwe (Xwg ?_)
  dsimp only
  refine Xwe ?_
  show XwG (XwD prog w) A (asIndex (.int (i+1:Nat) u2) >>= fun y=>_) _ E _
  unfold asIndex
  refine Xwe (Xwe (Xwg (Xwg ?_)))
  refine Xxl (by simp;omega) ?_
  refine Xwg ?_
  refine Xwe ?_
  have hp:(if ((i+1:Nat):Int)<0 then ((i+1:Nat):Int)+(b.size:Int) else ((i+1:Nat):Int))=((i+1:Nat):Int):=if_neg nofun
  refine Xxl (c:=decide ((if ((i+1:Nat):Int)<0 then ((i+1:Nat):Int)+(b.size:Int) else ((i+1:Nat):Int))<0) || decide ((if ((i+1:Nat):Int)<0 then ((i+1:Nat):Int)+(b.size:Int) else ((i+1:Nat):Int)) > (b.size:Int))) (by rw [hp];simp;omega) ?_
  dsimp only
  rw [hp]
  rw [if_neg nofun]
  refine Xwg (Xwg ?_)
  rw [XwY]
  refine hQ _ _ ⟨_,_,rfl⟩ (fun a o q=>Xwq _ (hk1 a o q)) ⟨rfl,.inr rfl,.inr ⟨e,enc,t,_,_,_,rfl,hn,hE2⟩⟩
end
end
section
open PySem PySem.W PySem.Builtin
theorem XkL(a b c:Value):XyY "bytes.decode" ⟨[a,b,c],[]⟩:=by
 unfold XyY;kernel_rfl
def Xbi(x:UInt8):Nat:=if x.toNat<128 then x.toNat else 0xDC00+x.toNat
def Xe(b:Array UInt8):Str:=⟨b.map Xbi⟩
section
variable{prog:Xwx}{w:XwE}{A:Xww}{E:Value->Xwl->Prop}{s:Xwl}
theorem XiM{id:String}{b:Array UInt8}{Q:Array Nat × Nat->Xwl->Prop}(hi:b.size<2 ^ 20)
  (hQ:∀ n s',(∃ h' tk,s'={ s with heap:=h',toks:=tk})->(∀ a o,s.heap.get? a=some o->s'.heap.get? a=some o)->Q ((Xe b).cps,n) s') :
  XwG (XwD prog w) A (_codecs.runDecoder id _codecs.asciiDecoder (some sS) true b 0 []) Q E s:=by
 unfold _codecs.runDecoder
 simp only [Std.Legacy.Range.forIn_eq_forIn_range']
 have hsz:([0:b.size]:Std.Legacy.Range).size=b.size:=by simp [Std.Legacy.Range.size]
 rw [hsz]
 refine Xwe (wpAny_forIn_list _ (fun rest r s'=>∃ k,rest=Xxm k (b.size - k) 1/\k<=b.size/\r.1=k/\r.2.1=(b.extract 0 k).map Xbi/\(∃ h' tk,s'={ s with heap:=h',toks:=tk})/\(∀ a o,s.heap.get? a=some o->s'.heap.get? a=some o)/\FOk s.heap s'.heap b r.2.2) _ ?_ ?_ _ _ ?_)
 ·rintro y rest ⟨p,out,st⟩ s1 ⟨k,hr,hk,rfl,ho,⟨h',tk,rfl⟩,hkeep,hF⟩
  dsimp only at ho hF hkeep ⊢
  have hlt:p<b.size:=by
   rcases Xxp p b.size with q | q
   ·exact q
   ·rw [show b.size - p=0 by omega] at hr;cases hr
  obtain ⟨m,hm⟩:∃ m,b.size - p=m+1:=⟨b.size - p - 1,by omega⟩
  rw [hm,Xyn] at hr
  obtain ⟨-,hr⟩:=Xx2 hr
  have hos:out.size=p:=by rw [ho];simp;omega
  have hx:b[p]? = some b[p]:=getElem?_pos b p hlt
  have hnext:(b.extract 0 p).map Xbi ++ #[Xbi b[p]]=(b.extract 0 (p+1)).map Xbi:=by
   rw [show #[Xbi b[p]]=(#[b[p]]).map Xbi from by simp,← Array.map_append]
   congr 1
   apply Array.ext
   ·simp
   ·intro j h1 h2
    rw [Array.getElem_append]
    simp only [Array.size_extract] at h1 h2 ⊢
    split
    ·simp
    ·have:j=p:=by simp at h1;omega
     subst this
     simp
  rw [if_neg (by rw [hos,Xxs];omega),if_neg nofun]
  have hfind:_codecs.asciiDecoder.find true b p=if b[p].toNat<128 then .char b[p].toNat (p+1) else .bad (p+1) "ordinal not in range(128)" false:=by
   show (if (b.getD p 0).toNat<128 then _codecs.Found.char (b.getD p 0).toNat (p+1) else .bad (p+1) "ordinal not in range(128)" false)=_
   rw [show b.getD p 0=b[p] from by simp [Array.getD,hlt]]
  rw [hfind]
  by_cases hc:b[p].toNat<128
  ·rw [if_pos hc]
   unfold _codecs.Found.char
   dsimp only
   refine Xwg ⟨p+1,by rw [hr];congr 1;omega,by omega,rfl,?_,⟨_,_,rfl⟩,hkeep,hF⟩
   dsimp only
   rw [ho,← hnext]
   congr 1
   unfold Xbi
   rw [if_pos hc]
  ·rw [if_neg hc]
   dsimp only
   rw [if_neg (by simp)]
   refine Xwe (XxC (Xwe ?_))
   refine XhI (h0:=s.heap) hkeep hF hx nofun hi fun st' s' hs' hk' hF'=>?_
   obtain ⟨h2,tk2,rfl⟩:=hs'
   refine Xwg ⟨p+1,by rw [hr];congr 1;omega,by omega,rfl,?_,⟨_,_,rfl⟩,hk',hF'⟩
   dsimp only
   rw [ho,← hnext]
   congr 2
   unfold Xbi
   rw [if_neg hc]
 ·rintro ⟨p,out,st⟩ s1 ⟨k,hr,hk,rfl,ho,hs',hkeep,hF⟩
  dsimp only at ho hr ⊢
  have hp:p=b.size:=by
   rcases Xxp p b.size with q | q
   ·obtain ⟨m,hm⟩:∃ m,b.size - p=m+1:=⟨b.size - p - 1,by omega⟩
    rw [hm,Xyn] at hr;cases hr
   ·omega
  refine Xwg ?_
  have e:out=(Xe b).cps:=by
   rw [ho,hp]
   unfold Xe
   simp
  rw [e]
  exact hQ p s1 hs' hkeep
 ·exact ⟨0,by simp,XwA _,rfl,by simp,⟨_,_,rfl⟩,fun a o q=>q,⟨rfl,.inl rfl,.inl rfl⟩⟩
theorem XlL{b:Array UInt8}{t u1 u2:Tok}{Q:Value->Xwl->Prop}(hi:b.size<2 ^ 20)
  (hQ:∀ u h' tk,(∀ a o,s.heap.get? a=some o->h'.get? a=some o)->Q (.str (Xe b) u) {s with heap:=h',toks:=tk}) :
  XwG (XwD prog w) A (call (.builtin "bytes.decode") [.bytes b t,.str sA u1,.str sS u2]) Q E s:=by
 refine Xw3 FB.slot_bytes_decode (typeIs_bytes _ _ _) FB.entry_bytes_decode ?_ (XkL _ _ _)
 obtain ⟨l⟩:=b
 cases l with
 | nil =>
  rw [XpD]
  refine Xwe (XxC ?_)
  unfold retStr
  refine Xwe (Xye ?_ (by decide))
  have h:=hQ s.toks s.heap (s.toks+1) fun a o q=>q
  exact Xwg ⟨_,rfl,by rw [show Str.empty=Xe ⟨[]⟩ from by unfold Xe;simp [Str.empty]];exact h⟩
 | cons c cs =>
  rw [XpC]
  refine Xwe (Xye ?_ (by decide))
  refine Xwe (Xye ?_ (by decide))
  refine Xwe (Xye ?_ (by decide))
  refine Xwe (Xye ?_ (by decide))
  refine Xwe (call_function_tree KBd.kind_text KBd.plain_text KBd.entry_text (KBd.args_text _ _ _ _) ?_)
  rw [Xsa]
  refine Xwe (Xxg KBd.like_eq ?_)
  refine Xwe (Xxg KBd.held_eq ?_)
  rw [Xsb]
  refine Xwe (Xwe (XiM hi fun n s' hs' hk'=>?_))
  obtain ⟨h',tk,rfl⟩:=hs'
  have hsl:(Array.map Xbi (c::cs).toArray).size<=XwZ:=by
   have hi':(c::cs).toArray.size<2 ^ 20:=hi
   rw [Array.size_map,Xxs]
   omega
  refine Xye ?_ hsl
  exact Xwg (Xwg ⟨_,rfl,hQ _ _ _ fun a o q=>hk' a o q⟩)
end
end
section
open PySem PySem.W PySem.Builtin
theorem XpA{x:Str}{t u1 u2:Tok}:Builtin.«str.encode» ⟨[.str x t,.str sA u1,.str sS u2],[]⟩=(_codecs.encodeRoad "str.encode" (.str x t) x sA (some sS) >>= fun v=>ret v):=@_
theorem Xr6{x:Str}{v:Value}:_codecs.encodeRoad "str.encode" v x sA (some sS)=(_codecs.encodeNarrow "str.encode" _codecs.asciiCodec (some sS) v x >>= fun b=>mkBytes b):=@_
theorem XkI:Slot "str" "encode" "str.encode" :=
 .of (owner := "str") (n := "encode") (by rw [Xxh,XwS];kernel_rfl) (by decide +kernel) (by decide +kernel) (by decide +kernel)
  (by first | exact .inl (by decide +kernel) | exact .inr (by decide +kernel)) (by rw [Xxe];kernel_rfl)
theorem Xr5:typeOf (.builtin "str.encode")=XxW (.type "method_descriptor"):=by show builtinType _=_;rw [builtinType_eq_fast];kernel_rfl
theorem XkJ:entryFor table "str.encode" = some Builtin.«str.encode» := Xyf @_
theorem Xr7(a b c:Value):XyY "str.encode" ⟨[a,b,c],[]⟩:=by
 unfold XyY;kernel_rfl
def Xfc(x:Nat):UInt8:=if x<128 then x.toUInt8 else (x - 0xDC00).toUInt8
def Xa1(x:Str):Array UInt8:=x.cps.map Xfc
def Xbm(x:Str):Prop:=∀ c∈x.cps,c<128∨(0xDC80<=c/\c<=0xDCFF)
theorem XlZ(l:Array Nat)(q:Nat->Bool)(i:Nat)(hi:i<l.size)(h0:q l[i]=false) :
  ∀ n,n=((l.extract i l.size).findIdx? q).getD (l.size - i)->1<=n/\i+n<=l.size/\∀ j (hj:j<l.size),i<=j->j<i+n->q l[j]=false:=by
 intro n hn
 cases hf:(l.extract i l.size).findIdx? q with
 | none =>
  rw [hf] at hn
  have hn':n=l.size - i:=hn
  refine ⟨by omega,by omega,fun j hj h1 h2=>?_⟩
  rw [Array.findIdx?_eq_none_iff] at hf
  have hm:l[j]∈l.extract i l.size:=by
   rw [Array.mem_extract_iff_getElem]
   exact ⟨j - i,by omega,by congr 1;omega⟩
  have:=hf _ hm
  simpa using this
 | some k =>
  rw [hf] at hn
  have hn':n=k:=hn
  subst hn'
  rw [Array.findIdx?_eq_some_iff_getElem] at hf
  obtain ⟨hk,hqk,hlt⟩:=hf
  simp only [Array.size_extract] at hk
  have hle:i+n<=l.size:=by omega
  refine ⟨?_,hle,fun j hj h1 h2=>?_⟩
  ·rcases Nat.eq_zero_or_pos n with z | z
   ·subst z
    simp [h0] at hqk
   ·exact z
  ·have:=hlt (j - i) nofun
   simp only [Array.getElem_extract] at this
   have e:i+(j - i)=j:=by omega
   simp only [e] at this
   simpa using this
theorem Xfa(l:Array Nat)(f:Nat->UInt8)(i n:Nat)(h:i+n<=l.size) :
  (l.extract 0 (i+n)).map f=(l.extract 0 i).map f++(l.extract i (i+n)).map f:=by
 rw [← Array.map_append]
 congr 1
 rw [Array.extract_append_extract]
 congr 1 <;> omega
theorem Xol(l:List Nat)(f:Nat->UInt8)(g:Nat->List UInt8)(h:∀ c∈l,g c=[f c]):∀ acc:Array UInt8,
  l.foldl (fun acc y=>acc++(g y).toArray) acc=acc++(l.map f).toArray:=by
 induction l with
 | nil=>intro acc;simp
 | cons c cs ih =>
  intro acc
  rw [Xxj,ih fun d hd=>h d (Xwh _ hd),h c (Xwf ..)]
  simp
theorem Xqu{α:Type}(l:List α)(p:α->Bool)(h:∀ c∈l,p c=true):l.takeWhile p=l:=by
 induction l with
 | nil=>rfl
 | cons c cs ih=>rw [List.takeWhile_cons,if_pos (h c (Xwf ..)),ih fun d hd=>h d (Xwh _ hd)]
theorem Xs2:((some sS).getD (Xwk "strict")).toString = "surrogateescape" := by decide +kernel
section
variable{prog:Xwx}{w:XwE}{A:Xww}{E:Value->Xwl->Prop}{s:Xwl}
theorem XoM{x:Str}{v:Value}{Q:Array UInt8->Xwl->Prop}(hx:Xbm x)(hi:x.length<2 ^ 20)(hQ:Q (Xa1 x) s) :
  XwG (XwD prog w) A (_codecs.encodeNarrow "str.encode" _codecs.asciiCodec (some sS) v x) Q E s:=by
 unfold _codecs.encodeNarrow
 simp only [Std.Legacy.Range.forIn_eq_forIn_range',Xs2]
 have hsz:([0:x.length]:Std.Legacy.Range).size=x.length:=by simp [Std.Legacy.Range.size]
 rw [hsz]
 have hlen:x.length=x.cps.size:=rfl
 refine Xwe (wpAny_forIn_list _ (fun rest r s'=>s'=s/\∃ k,rest=Xxm k (x.length - k) 1/\k<=x.length/\k<=r.1/\r.1<=x.length/\r.2.1=(x.cps.extract 0 r.1).map Xfc) _ ?_ ?_ _ _ ?_)
 ·rintro y rest ⟨i,out,st⟩ s1 ⟨hs1,k,hr,hk,hki,hil,ho⟩
  rw [hs1]
  clear hs1
  dsimp only at ho hki hil ⊢
  obtain ⟨m,hm⟩:∃ m,x.length - k=m+1:=by
   rcases Xxp k x.length with q | q
   ·exact ⟨x.length - k - 1,by omega⟩
   ·rw [show x.length - k=0 by omega] at hr;cases hr
  rw [hm,Xyn] at hr
  obtain ⟨-,hr⟩:=Xx2 hr
  have hr':rest=Xxm (k+1) (x.length - (k+1)) 1:=by rw [hr];congr 1;omega
  have hos:out.size=i:=by rw [ho];simp;omega
  rw [if_neg (by rw [hos,Xxs];omega)]
  rcases Xxp i x.cps.size with hlt | hge
  ·rw [XxK hlt]
   dsimp only
   by_cases hc:x.cps[i]<128
   ·rw [if_pos (by simp [_codecs.asciiCodec];omega)]
    obtain ⟨h1,h2,h3⟩:=XlZ x.cps _codecs.asciiCodec.bad i hlt (by simp [_codecs.asciiCodec];omega) _ rfl
    have hes:(x.cps.extract i).size=x.cps.size - i:=by simp
    rw [hes]
    generalize hn:((x.cps.extract i).findIdx? _codecs.asciiCodec.bad).getD (x.cps.size - i)=n at h1 h2 h3 ⊢
    refine Xwg ⟨rfl,k+1,hr',by omega,by dsimp only;omega,by dsimp only;omega,?_⟩
    dsimp only
    rw [Xfa _ _ _ _ h2,← ho]
    rw [← Array.foldl_toList,Xol _ Xfc]
    ·congr 1
     rw [← Array.toList_inj]
     simp only [Array.toList_map]
     rw [Array.extract_extract]
     congr 3
     omega
    ·intro c hcm
     rw [Array.mem_toList_iff,Array.mem_extract_iff_getElem] at hcm
     obtain ⟨j,hj,rfl⟩:=hcm
     simp only [Array.size_extract] at hj
     have:=h3 (i+j) nofun nofun nofun
     simp only [Array.getElem_extract]
     simp [_codecs.asciiCodec] at this ⊢
     unfold Xfc
     rw [if_pos this]
   ·rw [if_neg (by simp [_codecs.asciiCodec];omega)]
    obtain ⟨h1,h2,h3⟩:=XlZ x.cps (fun y => !_codecs.asciiCodec.bad y) i hlt (by simp [_codecs.asciiCodec];omega) _ rfl
    generalize hn:((x.cps.extract i).findIdx? (fun y => !_codecs.asciiCodec.bad y)).getD (x.cps.size - i)=n at h1 h2 h3 ⊢
    have hall:∀ c∈(x.cps.extract i (i+n)).toList,(decide (56448<=c) && decide (c<=56575))=true:=by
     intro c hcm
     rw [Array.mem_toList_iff,Array.mem_extract_iff_getElem] at hcm
     obtain ⟨j,hj,rfl⟩:=hcm
     have hb:=h3 (i+j) nofun nofun nofun
     simp [_codecs.asciiCodec] at hb
     have:=hx x.cps[i+j] (Array.getElem_mem ..)
     simp
     omega
    have htk:=Xqu _ _ hall
    refine Xwe (XxC ?_)
    have e1:("surrogateescape" == "surrogateescape")=true:=by decide +kernel
    have e2:("surrogateescape" == "strict" && !_codecs.asciiCodec.name == "utf-8")=false:=by decide +kernel
    rw [e2,e1]
    simp only [if_true,htk,if_false,XwX]
    have hsz2:(x.cps.extract i (i+n)).toList.length=n:=by simp;omega
    rw [hsz2]
    simp only [beq_self_eq_true,if_true]
    refine Xwg ⟨rfl,k+1,hr',by omega,by dsimp only;omega,by dsimp only;omega,?_⟩
    dsimp only
    rw [Xfa _ _ _ _ h2,← ho]
    congr 1
    rw [← Array.toList_inj]
    simp only [Array.toList_map]
    refine Xx6 fun c hcm=>?_
    have:=hall c hcm
    simp at this
    unfold Xfc
    rw [if_neg nofun]
  ·rw [XyN hge]
   dsimp only
   refine Xwg ?_
   dsimp only
   have e:out=Xa1 x:=by
    rw [ho,show i=x.cps.size by omega]
    unfold Xa1
    simp
   rw [e]
   exact Xwg hQ
 ·rintro ⟨i,out,st⟩ s1 ⟨hs1,k,hr,hk,hki,hil,ho⟩
  dsimp only at ho hki hil ⊢
  rw [hs1]
  have hkx:k=x.length:=by
   rcases Xxp k x.length with q | q
   ·obtain ⟨m,hm⟩:∃ m,x.length - k=m+1:=⟨x.length - k - 1,by omega⟩
    rw [hm,Xyn] at hr;cases hr
   ·omega
  have e:out=Xa1 x:=by
   rw [ho,show i=x.cps.size by omega]
   unfold Xa1
   simp
  rw [e]
  exact Xwg hQ
 ·exact ⟨rfl,0,by simp,XwA _,XwA _,XwA _,by simp⟩
end
end
section
open PySem PySem.W PySem.Builtin
theorem Xa2(b:Array UInt8):(Xe b).length=b.size:=by show (Array.map Xbi b).size=_;simp
theorem XpB(x:Str):(Xa1 x).size=x.length:=by unfold Xa1;rw [Array.size_map];rfl
section
variable{prog:Xwx}{w:XwE}{A:Xww}{B:Frz}{env:Env}
theorem XlK{E:Value->Xwl->Prop}{s:Xwl}{x:Str}{t u1 u2:Tok}{Q:Value->Xwl->Prop}(hx:Xbm x)(hi:x.length<2 ^ 20)
  (hQ:∀ u tk,Q (.bytes (Xa1 x) u) {s with toks:=tk}) :
  XwG (XwD prog w) A (call (.builtin "str.encode") [.str x t,.str sA u1,.str sS u2]) Q E s:=by
 refine Xw3 XkI (typeIs_str _ _ _) XkJ ?_ (Xr7 _ _ _)
 rw [XpA,Xr6]
 refine Xwe (Xwe (XoM hx hi (wpAny_mkBytes ?_ ?_)))
 ·exact Xwg ⟨_,rfl,hQ _ _⟩
 ·rw [XpB,Xxs];omega
theorem Xp0{b:Array UInt8}{st:St}{K:AV->St->Prop}(hi:b.size<2 ^ 20)(h:K (.str (Xe b)) st):FC prog w A B env (.blt "bytes.decode") [.bytes b,.str sA,.str sS] [] st K:=fun s Z fx ys ks hf hx hk S Q E hQ=>by
 cases hf
 cases hk
 cases hx with
 | cons h1 hx=>cases hx with
  | cons h2 hx=>cases hx with
   | cons h3 hx =>
    cases hx;cases h1;cases h2;cases h3
    refine XlL hi fun u h' tk hk=>?_
    obtain ⟨S',X'⟩:=S.keepAll (tk:=tk) hk
    exact hQ _ _ _ Z st h S' (.str _ _) X'
theorem XpZ{x:Str}{st:St}{K:AV->St->Prop}(he:Xbm x)(hi:x.length<2 ^ 20)(h:K (.bytes (Xa1 x)) st):FC prog w A B env (.blt "str.encode") [.str x,.str sA,.str sS] [] st K:=fun s Z fx ys ks hf hx hk S Q E hQ=>by
 cases hf
 cases hk
 cases hx with
 | cons h1 hx=>cases hx with
  | cons h2 hx=>cases hx with
   | cons h3 hx =>
    cases hx;cases h1;cases h2;cases h3
    exact XlK he hi fun u tk=>hQ _ _ _ Z st h (S.toks tk) (.bytes _ _) (.toks _)
theorem XfA{x:Array UInt8}{led:Led}:Xat B (.bytes x) led "bytes" := Xms fun s t=>typeIs_bytes s x t
theorem XuM{body:List Stmt}{h0:ExceptHandler}{hs:List ExceptHandler}{pos:Pos}{st:St}{K:AFlow->St->Prop}
  (h:T prog w A B env FVal (execs body env) st K):T prog w A B env FVal (exec (.Try body (h0::hs) [] [] pos) env) st K:=fun s Z S Q E hQ=>by
 refine wpAny_Try_except (h s Z S _ _ fun v x s' Z' st' k S' V X=>?_)
 cases x with
 | next=>exact Xwg (hQ v .next s' Z' st' k S' V X)
 | _=>exact hQ v _ s' Z' st' k S' V X
end
end
section
abbrev fdE(name q:Str)(params:Arguments)(body:List Stmt)(scope:Scope)(c:XwR)(pm:Value):XyS :=
 { name,qualname:=q,params,body := .stmts body,scope,globals:=XxF,closure:=[],closureTuple := .none,code := .ref c,builtins:=Xyd,defaults := .none,kwdefaults := .none,annotations:=none,pyModule:=pm,doc := .none}
def fnP(name q:Str)(params:Arguments)(body:List Stmt)(scope:Scope)(Z:Frz)(o:Obj):Prop :=
 ∃ c pm oc vs t,o={ cls := .type "function",data := .func (fdE name q params body scope c pm)}/\Z c=some oc/\oc.data = .fields vs/\vs[1]? = some (.str q t)
theorem XrX{name q:Str}{params:Arguments}{body:List Stmt}{scope:Scope}(Z Z':Frz)(o:Obj)(k:Frz.le Z Z')(x:fnP name q params body scope Z o):fnP name q params body scope Z' o:=by
 obtain ⟨c,pm,oc,vs,t,h1,h2,h3,h4⟩:=x
 exact ⟨c,pm,oc,vs,t,h1,k _ _ h2,h3,h4⟩
abbrev fnE(name q:Str)(params:Arguments)(body:List Stmt)(scope:Scope):AObj := .obj (fnP name q params body scope) XrX
section
variable{prog:Xwx}{w:XwE}{A:Xww}{B:Frz}{env:Env}
theorem XuR{f:XwR}{name q:Str}{params:Arguments}{body:List Stmt}{scope:Scope}{args:List AV}{kw binds:List (Str × AV)}{led:Led}{K:AV->Led->Prop}
  (hG:Ground0 B) (hm:(f,fnE name q params body scope)∈led) (hsc:scope.isCoroutine=false/\scope.isGenerator=false/\scope.kind = .function)
  (hcell:(scope.names.all fun x=>decide (x.2 ≠ .cell))=true) (hroom:A.depth<XxV)
  (hb:∀ c pm,Binds prog w A.in1 B (fdE name q params body scope c pm) args kw binds) (hloc:((binds.map (·.1)).all fun x=>decide (scope.names.lookup x=some .local))=true)
  (h:∀ L c,L∉keys led->T prog w (A.deeper (XaV scope L XxF [] q f (.ref c) Xyd)) B (XaV scope L XxF [] q f (.ref c) Xyd) FVal
   (execs body (XaV scope L XxF [] q f (.ref c) Xyd)) ⟨binds.reverse,led⟩ fun fl st'=>match fl with
    | .ret v=>K v st'.led
    | _=>K .none st'.led) :
  TC prog w A B (.ref f) args kw led K:=fun s Z fx xs ks S hf hx hkw R hR=>by
 cases hf
 obtain ⟨o,ho,c,pm,oc,vs,tq,rfl,hoc,hocd,hq⟩:=S.own _ hm
 obtain ⟨hco,hgen,hk⟩:=hsc
 have hcell:∀ x∈scope.names,x.2 ≠ .cell:=fun x hx=>of_decide_eq_true (XwU.mp hcell x hx)
 have hloc:∀ x∈binds.map (·.1),scope.names.lookup x=some .local:=fun x hx=>of_decide_eq_true (XwU.mp hloc x hx)
 generalize hfd:fdE name q params body scope c pm=fd at ho
 have hb:=hb c pm
 rw [hfd] at hb
 have hd:({cls := .type "function",data := .func fd}:Obj).data = .func fd:=rfl
 have hbody:fd.body = .stmts body:=by subst hfd;rfl
 have hc:fd.code = .ref c:=by subst hfd;rfl
 have hq:vs[1]? = some (.str fd.qualname tq):=by subst hfd;exact hq
 have hco:fd.scope.isCoroutine=false:=by subst hfd;exact hco
 have hgen:fd.scope.isGenerator=false:=by subst hfd;exact hgen
 have hk:fd.scope.kind = .function:=by subst hfd;exact hk
 have hcell:∀ x∈fd.scope.names,x.2 ≠ .cell:=by subst hfd;exact hcell
 have hloc:∀ x∈binds.map (·.1),fd.scope.names.lookup x=some .local:=by subst hfd;exact hloc
 have h:∀ L,L∉keys led->T prog w (A.deeper (XaV fd.scope L fd.globals fd.closure fd.qualname f fd.code fd.builtins)) B (XaV fd.scope L fd.globals fd.closure fd.qualname f fd.code fd.builtins) FVal
   (execs body (XaV fd.scope L fd.globals fd.closure fd.qualname f fd.code fd.builtins)) ⟨binds.reverse,led⟩ fun fl st'=>match fl with
    | .ret v=>K v st'.led
    | _=>K .none st'.led:=by subst hfd;exact fun L hL=>h L c hL
 clear hfd
 refine codeAny_call_function hroom ho hd hco hgen hbody ⟨c,oc,vs,tq,hc,S.frozen _ _ hoc,hocd,hq⟩ ?_
 refine hb s Z led xs ks S hx hkw _ _ fun bs s₁ Z₁ S₁ hbs X₁=>?_
 have hR₁:∀ v x s' Z' led',K v led'->SimL B s' Z' led'->Val Z' v x->Ext (Xh led) s₁ Z₁ s' Z' (Xh led')->R (.ok (.ret x)) s':=fun v x s' Z' led' k S' V X=>hR v x s' Z' led' k S' V (X₁.trans X)
 clear hR X₁
 revert s₁ Z₁
 intro s Z S hbs hR
 have hlocs:∀ x∈bs,fd.scope.names.lookup x.1=some .local:=fun x hx=>hloc x.1 (by rw [← hbs.keys];exact XwC hx)
 refine wpAny_newFunctionEnv (around:=none) hcell hlocs (fun h₁ hns hsb=>?_) hk
 have keep:∀ b o,s.heap.get? b=some o->h₁.get? b=some o:=fun b o e=>hsb.extBut b o (Xxu (Xw7 e)) (Xwq _ e)
 have hfresh:s.heap.get? s.heap.objs.size=none:=by
  cases e:s.heap.get? s.heap.objs.size with
  | none=>rfl
  | some o=>exact absurd (Xw7 e) (Xx8 _)
 have hL:s.heap.objs.size∉keys led:=fun q=>by
  obtain ⟨p,hp,e⟩:=XwJ.mp q
  obtain ⟨ob,g⟩:=(S.own p hp).live
  rw [e,hfresh] at g;cases g
 have hZ:Z s.heap.objs.size=none:=by
  cases e:Z s.heap.objs.size with
  | none=>rfl
  | some o=>rw [S.frozen _ _ e] at hfresh;cases hfresh
 refine ⟨hG.lim _ fun a o e=>keep a o (S.frozen a o (S.base a o e)),?_⟩
 show codeAny _ A (.func body (XaV fd.scope s.heap.objs.size fd.globals fd.closure fd.qualname f fd.code fd.builtins)) R _
 refine codeAny_func ?_
 have SF:SimF B (XaV fd.scope s.heap.objs.size fd.globals fd.closure fd.qualname f fd.code fd.builtins) {s with heap:=h₁,toks:=s.toks+bs.length} Z ⟨binds.reverse,led⟩:=by
  refine ⟨⟨S.base,fun a o e=>keep a o (S.frozen a o e),S.nodup,S.apart,fun p hp=>(S.own p hp).mono (.refl _) (fun o e=>keep _ o e) (fun _ _ _ e=>e),S.gnodup,S.bare⟩,hZ,hL,⟨_,hns,fun y=>hbs.reverse.lookup y⟩,fun x v e=>?_,hk⟩
  have hm:x∈binds.map (·.1):=by
   have:∀ (l:List (Str × AV)),l.lookup x=some v->x∈l.map (·.1):=fun l=>by
    induction l with
    | nil=>intro e;cases e
    | cons p l ih =>
     intro e
     rw [XwB] at e
     cases q:(x == p.1) with
     | true=>rw [beq_iff_eq.mp q];simp
     | false=>rw [q] at e;exact Xwh _ (ih e)
   have:=this _ e
   simpa using this
  exact hloc x hm
 refine h s.heap.objs.size hL _ Z SF _ _ fun fl x s' Z' st' k S' V X=>?_
 have X':Ext (Xh led) s Z s' Z' (Xh st'.led):=by
  refine ⟨X.le,fun a o e ha=>X.kept a o (keep a o e) fun q=>?_,fun a ha=>?_,fun a o e=>?_,X.os,X.gkept,X.ggrow⟩
  ·rcases q with q | q
   ·rw [q] at e
    rw [show (XaV fd.scope s.heap.objs.size fd.globals fd.closure fd.qualname f fd.code fd.builtins).locals=s.heap.objs.size from rfl,hfresh] at e;cases e
   ·exact ha q
  ·rcases X.grow a (.inr ha) with q | q
   ·rcases q with q | q
    ·exact .inr (q ▸ hfresh)
    ·exact .inl q
   ·right
    cases e:s.heap.get? a with
    | none=>rfl
    | some o=>rw [show h₁.get? a=some o from keep a o e] at q;cases q
  ·rcases X.zgrow a o e with q | q | q
   ·exact .inl q
   ·rcases q with q | q
    ·exact .inr (.inr (q ▸ hfresh))
    ·exact .inr (.inl q)
   ·refine .inr (.inr ?_)
    cases e':s.heap.get? a with
    | none=>rfl
    | some o=>rw [show h₁.get? a=some o from keep a o e'] at q;cases q
 cases V with
 | next=>exact hR _ _ s' Z' st'.led k S'.toSimL .none X'
 | brk=>exact hR _ _ s' Z' st'.led k S'.toSimL .none X'
 | cont=>exact hR _ _ s' Z' st'.led k S'.toSimL .none X'
 | ret hv=>exact hR _ _ s' Z' st'.led k S'.toSimL hv X'
theorem XgN{K:Frag}{c P:XwR}{pos:Pos}{q:Str}{scope:Scope}{fl:Nat}{name:Str}{params:Arguments}{fb:FuncBody}{led:Led}{s:Xwl}{Z:Frz}{E:Value->Xwl->Prop}{Q:Value->Xwl->Prop}(hc:env.code = .ref c)(hok:Xet K c P=true)(hP:(P,Xac q)∈led)(S:SimL (Xg K) s Z led)
  (hQ:∀ c' oc vs t s' Z',SimL (Xg K) s' Z' led->Ext (Xh led) s Z s' Z' (Xh led)->Z' c'=some oc->oc.data = .fields vs->vs[1]? = some (.str q t)->Q (.ref c') s'):XwG (XwD prog w) A (functionCode env pos fl name q params scope fb) Q E s:=by
 obtain ⟨o,vs,file,tf,flags,tg,inF,text,tt,hlk,hd,h11,h2,h7,h9,h10⟩:=XiG hok
 have ho:s.heap.get? c=some o:=S.frozen _ _ (S.base _ _ hlk)
 obtain ⟨op,hop,⟨hfr,hsh⟩,ps,hpd,htr,hfound⟩:=S.own _ hP
 dsimp only at hop
 have hPZ:Z P=none:=S.apart _ hP
 have hcP:c≠P:=fun e=>by have:=S.base _ _ hlk;rw [e,hPZ] at this;cases this
 unfold functionCode codeAt
 rw [hc,if_neg (show ¬ ((Value.ref c == Xxr)=true) from Xw0)]
 refine Xwe (XxU ho hd ?_)
 rw [h11]
 refine Xwe (XxU hop hpd ?_)
 cases hnf:XyW pos ps.toList with
 | some cv =>
  obtain ⟨c',oc,vs',t,rfl,hz,hdc,hq⟩:=hfound pos cv hnf
  exact Xwg (hQ c' oc vs' t s Z S .refl hz hdc hq)
 | none =>
  rw [h2,h7,h9,h10]
  refine Xwe (wpAny_newCode fun c' P' h' tk hk hc' hP' hcode' hrec'=>?_)
  obtain ⟨S1,X1⟩:=S.grow (h':=h') (tk:=tk) hk
  obtain ⟨c₂,oc,vs₂,t₂,e₂,g₂,d₂,r₂⟩:=hrec'
  cases e₂
  have hnone:s.heap.get? c'=none:=Heap.get?_none_of_le hc'
  have hcl:c'∉keys led:=fun hm=>by
   obtain ⟨p,hp,e⟩:=XwJ.mp hm
   obtain ⟨ob,g⟩:=(S.own p hp).live
   rw [e,hnone] at g;cases g
  have hcz:Z c'=none:=by
   cases e:Z c' with
   | none=>rfl
   | some x=>have:=S.frozen _ _ e;rw [hnone] at this;cases this
  obtain ⟨S2,X2⟩:=S1.fixZ (s0:=s) (c:=c') (o:=oc) g₂ hnone hcl hcz X1
  have hop':=hk _ _ hop
  refine Xwe (wpAny_updateFieldsOfTheText hop' hpd ?_)
  have hnew:(XxZ (fun vs=>if (XyW pos vs.toList).isSome=true then vs else vs ++ #[Xxw pos.line,Xxw pos.col,.ref c']) op).data =
    .fields (ps ++ #[Xxw pos.line,Xxw pos.col,.ref c']):=by
   rw [XyQ hpd,hnf];rfl
  have hget:=XwW (h:=h') (fun o=>XxZ (fun vs=>if (XyW pos vs.toList).isSome=true then vs else
   vs ++ #[Xxw pos.line,Xxw pos.col,.ref c']) o) hop' (Xyq hnew)
  refine Xwe (XxU hget hnew ?_)
  have hl:(ps ++ #[Xxw pos.line,Xxw pos.col,Value.ref c']).toList=ps.toList++[Xxw pos.line,Xxw pos.col,.ref c']:=by simp
  rw [hl,codeAmong_snoc _ htr hnf]
  have P3:=S2.upd (Upd.same hP) (h':=h'.update P fun o=>XxZ (fun vs=>if (XyW pos vs.toList).isSome=true then vs else vs ++ #[Xxw pos.line,Xxw pos.col,.ref c']) o) (tk:=tk) (fun b ob hb e=>(XwT ..).extBut b ob hb e) rfl rfl
   ⟨_,hget,⟨Xyq hnew,hsh.map _⟩,_,hnew,by rw [hl];exact TriplesOk_snoc _ _ _ _ htr,fun pos' cv e=>?_⟩
  ·exact Xwg (hQ c' oc vs₂ t₂ _ _ P3.1 (X2.trans P3.2) (Frz.add_at ..) d₂ r₂)
  ·rw [hl] at e
   rcases XeG _ htr e with e | rfl
   ·obtain ⟨c3,oc3,vs3,t3,e3,z3,r3⟩:=hfound pos' cv e
    exact ⟨c3,oc3,vs3,t3,e3,Frz.le_add hcz _ _ z3,r3⟩
   ·exact ⟨c',oc,vs₂,t₂,rfl,Frz.add_at ..,d₂,r₂⟩
def XuE(K:Frag):Prop:=∃ o es ep bm ob,K.lookup XxF=some o/\o.data = .dict es ep/\StrKeys es/\nsFind es "__builtins__" = some (.ref bm)/\bm≠Xyd /\
 K.lookup bm=some ob/\ob.cls = .type "module" /\ ob.dict=some Xyd/\ob.data = .plain
theorem Xic{scope:Scope}(h:(scope.names.all fun x=>decide (x.2 ≠ .free))=true):closureFor scope env=XxW [] :=
 XyX fun x hx=>of_decide_eq_true (XwU.mp h x hx)
theorem XuN{K:Frag}{c P:XwR}{name q:Str}{params:Arguments}{body:List Stmt}{scope:Scope}{pos:Pos}{st:St}{R:AFlow->St->Prop}
  (hdef:defaultsOf params env=([],[])) (hann:annTrees params none env=[]) (hfree:(scope.names.all fun x=>decide (x.2 ≠ .free))=true) (hdoc:docOf body=none)
  (hq:qualnameIn env name name=q) (hg:env.globals=XxF) (hK:XuE K) (hkind:env.kindOf name=some .local)
  (hc:env.code = .ref c) (hok:Xet K c P=true) (hP:(P,Xac q)∈st.led)
  (h:∀ f,f∉keys st.led->R .next ⟨XaQ st.loc name (.ref f),(f,fnE name q params body scope)::st.led⟩) :
  T prog w A (Xg K) env FVal (exec (.FunctionDef name params body [] none [] scope none name pos) env) st R:=fun s Z S Q E hQ=>by
 rw [exec_def,hdef,hann,hq]
 refine Xwe (XwQ ?_)
 refine Xwe (Xwt ?_)
 refine Xwe (Xwg ?_)
 refine Xwe (Xwt (Xwg ?_))
 refine Xwt ?_
 refine Xwe (Xwg ?_)
 simp only [makeFunction,List.zip_nil_right,List.filterMap_nil,List.isEmpty_nil,if_true,pure_bind,Xic hfree,hdoc]
 refine Xwe (XgN hc hok hP S.toSimL fun c' oc vs t s₁ Z₁ S₁ X₁ hz hd hr=>?_)
 obtain ⟨o,es,ep,bm,ob,hlg,hgd,hgk,hbm,hne,hob,hcls,hdict,hdata⟩:=hK
 have hns:=Xc4 (s:=s₁) (Z:=Z₁) hlg hgd hgk S₁.base S₁.frozen
 rw [hg]
 refine Xwe (wpAny_builtinsFor hns hbm hne (S₁.frozen _ _ (S₁.base _ _ hob)) hcls hdict hdata ?_)
 refine Xwe (wpAny_nsGet hns ?_)
 simp only [newObj]
 refine Xwe (wpAny_alloc (Xwg ?_))
 have P1:=S₁.push (o:={ cls := .type "function",data := .func (fdE name q params body scope c' ((nsFind es "__name__").getD .none))}) (ao:=fnE name q params body scope) rfl s₁.toks
  ⟨_,Xwp _ rfl,c',_,oc,vs,t,rfl,hz,hd,hr⟩
 have SF:=S.after P1.1 (X₁.trans P1.2)
 refine Xwe (XwQ (Xwe (wpAny_bindName ?_)))
 have hfr:s₁.heap.objs.size∉keys st.led:=S₁.lfresh
 refine XgL (v := .ref s₁.heap.objs.size) (K:=fun _ st'=>R .next st') hkind rfl (h _ hfr) _ Z₁ (.ref s₁.heap.objs.size) (.ref _) SF _ _ fun _ _ s' Z' st' k S' _ X=>?_
 exact Xwg (hQ .next .next s' Z' st' k S' .next ((X₁.trans P1.2).toF.trans X))
end
end
section
def Xoz(prog:Xwx)(w:XwE)(B:Frz)(f:AV)(led:Led):Prop :=
 ∀ (A:Xww) (s:Xwl) (Z:Frz) (fx:Value),Val Z f fx->SimL B s Z led->∀ (Q:Keeper->Xwl->Prop) (E:Value->Xwl->Prop),(∀ k,Q k s)->XwG (XwD prog w) A (keeperOf fx) Q E s
section
variable{prog:Xwx}{w:XwE}{A:Xww}{B:Frz}{env:Env}
theorem Xdm{f:XwR}{name q:Str}{params:Arguments}{body:List Stmt}{scope:Scope}{led:Led}(hm:(f,fnE name q params body scope)∈led):Xoz prog w B (.ref f) led:=fun A s Z fx V S Q E hQ=>by
 cases V
 obtain ⟨o,ho,c,pm,oc,vs,tq,rfl,hoc,hocd,hq⟩:=S.own _ hm
 unfold keeperOf
 exact Xwe (wpAny_load ho (Xwg (hQ _)))
theorem XcP{pos:Pos}{f:AV}{first:List AV}{args:List Expr}{st:St}{K:AV->St->Prop}(hst:((Xyp pos (Xw9 args env)).all fun x => !x.1)=true)
  (h:T prog w A B env Vals (spliced (Xyp pos (Xw9 args env))) st fun vs st₁=>Xoz prog w B f st₁.led/\FC prog w A B env f (first++vs) [] st₁ K):CA prog w A B env pos f first args st K:=fun s Z fx xs hf hxs S Q E hQ=>by
 unfold callWith
 have hargs:∀ {Q':Args->Xwl->Prop},(∀ v x s' Z' st',(Xoz prog w B f st'.led/\FC prog w A B env f (first++v) [] st' K)->SimF B env s' Z' st'->Vals Z' v x->Ext (Xk env st) s Z s' Z' (Xk env st')->Q' ⟨x,[]⟩ s') ->
   XwG (XwD prog w) A (evalArgs fx true (Xyp pos (Xw9 args env)) []) Q' E s:=fun {Q'} hQ'=>by
  have hsp:=h s Z S (fun x s'=>Q' ⟨x,[]⟩ s') E hQ'
  revert hsp hst
  generalize Xyp pos (Xw9 args env)=l
  intro hst hsp
  cases l with
  | nil=>exact Xdq hsp
  | cons y r =>
   obtain ⟨b,t⟩:=y
   have:b=false:=by simpa using (XwU.mp hst (b,t) (Xwf ..))
   subst this
   exact Calls.evalArgs_plain hsp
 refine Xwe (Xwt (hargs fun vs x s₁ Z₁ st₁ k₁ S₁ V₁ X₁=>Xwe (XwQ ?_)))
 refine Xwe (k₁.1 A s₁ Z₁ fx (hf.mono X₁.le) S₁.toSimL _ _ fun k=>?_)
 have hcall:XwG (XwD prog w) A (call fx (xs++x) []) (fun r s'=>XwG (XwD prog w) A (do XyV [r] point;XxW r) Q E s') E s₁ :=
  k₁.2 s₁ Z₁ fx _ [] (hf.mono X₁.le) ((hxs.mono X₁.le).append V₁) .nil S₁ _ _ fun v y s' Z' st' k S' V X=>Xwe (Xwt (wpAny_point (Xwg (hQ v y s' Z' st' k S' V (X₁.trans X)))))
 have hop:∀ l,XwG (XwD prog w) A (operate l (call fx (xs++x) []) >>= fun r=>(do XyV [r] point;XxW r)) Q E s₁:=fun l=>Xwe (fun Γ p hΓ=>by rw [Sem.wp_operate];exact hcall Γ p hΓ)
 have hm:∀ m,XwG (XwD prog w) A (callMarked m fx (xs++x) [] >>= fun r=>(do XyV [r] point;XxW r)) Q E s₁:=fun m=>Xwe (by unfold callMarked;exact Calls.wpAny_keep hcall)
 generalize (((Xyp pos (Xw9 args env)).any fun x=>x.fst) || ([]:List (Option Str × Sem Value)).any fun x=>x.fst.isNone)=b
 cases k <;> cases b <;> first
  | exact hop _
  | exact hm _
  | exact Xwe hcall
  | exact wpAny_ite (by split <;> first | exact Xwe hcall | exact hm _)
end
end
section
theorem XqG:PlainAttrs "bytes" :=
 ⟨⟨"bytes.__getattribute__",by rw [Xxh,XwS];kernel_rfl,by decide +kernel⟩,by rw [Xxh,XwS];kernel_rfl⟩
theorem Xfw:typeOf (.builtin "bytes.decode")=XxW (.type "method_descriptor"):=by show builtinType _=_;rw [builtinType_eq_fast];kernel_rfl
theorem Xle:Slot "bytes" XAv "bytes.decode" := by
 rw [show (XAv:Str)=Xwk "decode" from by decide +kernel]
 exact FB.slot_bytes_decode
theorem Xld:Slot "str" XAH "str.encode" := by
 rw [show (XAH:Str)=Xwk "encode" from by decide +kernel]
 exact XkI
abbrev Xby:Str:=⟨⟨[100,105,102,102,95,98,121,116,101,115,46,60,108,111,99,97,108,115,62,46,100,101,99,111,100,101]⟩⟩
noncomputable abbrev XaB:AObj:=fnE XAv Xby (Xfv (st2 11 1)) (XD (st2 11 1)) (Xed (st2 11 1))
theorem Xba{w:XwE}{A:Xww}{b:Array UInt8}{f:XwR}{led:Led}(hA:Room A 10)(hm:(f,XaB)∈led)(hb:b.size<2 ^ 20) :
  TC P04 w A (B04 w) (.ref f) [.bytes b] [] led fun v led'=>v = .str (Xe b)/\led'=led:=by
 refine XuR (binds:=[(⟨⟨[115]⟩⟩,.bytes b)]) (g04 w) hm ⟨@_,@_,@_⟩ @_ hA.lt (fun c pm=>Binds.peek fun Z xs ks hx hk=>?_) @_ fun L c hL=>?_
 ·cases hk
  obtain _ | ⟨h1,hx⟩:=hx
  cases hx
  exact ⟨_,@_,.cons h1 .nil⟩
 ·simp only [XwL,XwV,Xwv,Xws]
  refine XI (XuM ?_)
  got_up
  got_up
  refine Xau (T' := "bytes") (id := "bytes.decode") @_ @_ @_ XqG Xle Xfw ?_
  got_up
  refine ⟨XfA,?_⟩
  repeat' got_up
  refine Xp0 hb ?_
  exact ⟨rfl,rfl⟩
abbrev Xul(df:XwR)(a b:AV)(ff tf fd td:AV)(n:Nat)(lt:AV)(v1 v2 v3:AV):List (Str × AV) :=
 [(XAh,lt),(Xzt,.int n),(XAg,td),(XAf,fd),(XAe,tf),(XAd,ff),(Xza,b),(Xy9,a),(XAu,.ref df),(XAv,v1),(XAw,v2),(XAp,v3)]
noncomputable def Xsz:Option Value->XwR
 | some (.ref a)=>a
 | _=>0
noncomputable def objOf:Option Obj->Obj
 | some o=>o
 | none=>{ cls := .none,data := .plain}
theorem XuD(w:XwE):XuE (KB w.params) :=
 ⟨_,_,_,Xsz (nsFind (Xeq (Xcq w.params)) "__builtins__"),objOf ((KB w.params).lookup (Xsz (nsFind (Xeq (Xcq w.params)) "__builtins__"))),gM w,gMd _,gMk _,@_,beq_eq_false_iff_ne.mp @_,@_,@_,@_,@_⟩
theorem Xi3{w:XwE}{A:Xww}{df:XwR}{a b:List (Array UInt8)}{ff tf fd td lt:Array UInt8}{n:Nat}{led N:Led}{rows:List Str}(hA:Room A 10)(hNt:(286,Xac Xby)∈N)
  (ha:a.length<10 ^ 5) (hb:b.length<10 ^ 5) (hla:∀ x∈a,x.size<10 ^ 4) (hlb:∀ x∈b,x.size<10 ^ 4)
  (hff:ff.size<10 ^ 4) (htf:tf.size<10 ^ 4) (hfd:fd.size<10 ^ 4) (htd:td.size<10 ^ 4) (hlt:lt.size<10 ^ 4)
  (hkept:XdU P04 w (B04 w) (.ref df))
  (hdf:∀ A',Room A' 200->∀ led',NIn N led'->TC P04 w A' (B04 w) (.ref df) [.lst ((a.map Xe).map .str),.lst ((b.map Xe).map .str),.str (Xe ff),.str (Xe tf),.str (Xe fd),.str (Xe td),.int n,.str (Xe lt)] [] led'
   (Xcg P04 w (B04 w) N 153 (rows.map .str) led'))
  (hrows:∀ r∈rows,Xbm r/\r.length<2 ^ 20) :
  TC P04 w A (B04 w) (.ref 291) [.ref df,.lst (a.map .bytes),.lst (b.map .bytes),.bytes ff,.bytes tf,.bytes fd,.bytes td,.int n,.bytes lt] [] led
   (Xcg P04 w (B04 w) N 204 (rows.map fun r => .bytes (Xa1 r)) led):=by
 refine XkQ (m:=201) (binds:=[(XAu,.ref df),(Xy9,.lst (a.map .bytes)),(Xza,.lst (b.map .bytes)),(XAd,.bytes ff),(XAe,.bytes tf),(XAf,.bytes fd),(XAg,.bytes td),(Xzt,.int n),(XAh,.bytes lt)]) (g04 w) (Xvf _) hA.lt (Binds.peek fun Z xs ks hx hk=>?_) @_ fun L=>?_
 ·cases hk
  obtain _ | ⟨h1,hx⟩:=hx
  obtain _ | ⟨h2,hx⟩:=hx
  obtain _ | ⟨h3,hx⟩:=hx
  obtain _ | ⟨h4,hx⟩:=hx
  obtain _ | ⟨h5,hx⟩:=hx
  obtain _ | ⟨h6,hx⟩:=hx
  obtain _ | ⟨h7,hx⟩:=hx
  obtain _ | ⟨h8,hx⟩:=hx
  obtain _ | ⟨h9,hx⟩:=hx
  cases hx
  exact ⟨_,@_,.cons h1 (.cons h2 (.cons h3 (.cons h4 (.cons h5 (.cons h6 (.cons h7 (.cons h8 (.cons h9 .nil))))))))⟩
 ·simp only [XwL,XwV,Xwv,Xws]
  refine TG.spare XAv @_ ?_
  refine TG.spare XAw @_ ?_
  refine TG.spare XAp @_ ?_
  simp only [Xws,Xwv]
  refine Xd (Xm fun A' hA' led' hN'=>?_)
  got_up
  refine ⟨rfl,_,[],rfl,?_⟩
  refine Xd (Xm fun A' hA' led' hN'=>?_)
  refine XuN (K:=KB w.params) (c:=290) (P:=286) (name:=XAv) (q:=Xby) (params:=Xfv (st2 11 1)) (body:=XD (st2 11 1)) (scope:=Xed (st2 11 1)) @_ @_ @_ @_ @_ @_ (XuD w) @_ @_ @_ (hN' _ hNt) fun f hf=>?_
  refine ⟨rfl,Xul df (.lst (a.map .bytes)) (.lst (b.map .bytes)) (.bytes ff) (.bytes tf) (.bytes fd) (.bytes td) n (.bytes lt) (.ref f) .any .any,[(f,XaB)],@_,?_⟩
  refine Xd (Xm fun A' hA' led' hN'=>?_)
  repeat' got_up
  refine XkW fun m it=>?_
  repeat' got_up
  refine Xci (k:=31) (T' := "map") (items:=(a.map Xe).map .str) (gl:=XcU m it (.ref f) (a.map .bytes) 0 []) (led:=[(f,XaB)]++led') (N:=[(f,XaB)]) (hA'.mono nofun) (fun p hp=>Xxf _ hp)
   (IterOk.map (N:=[(f,XaB)]) (k:=30) (ys:=(a.map Xe).map .str) (by simp) (fun i x y hx hy A' hA'' led' hN''=>?_) a.length 0 (by simp)) (Xw4 (show _<=10 ^ 5 by simp only [Xwi];omega) (show 10 ^ 5<=XwZ by decide)) (fun s Z S=>?_) (by decide) (by decide) (fun A s Z S Q E h=>Xgu S h) Xej XdO ?_
  ·rw [Xw1] at hx hy
   obtain ⟨t,ht,rfl⟩:=Xxv.mp hx
   obtain ⟨t',ht',rfl⟩:=Xxv.mp hy
   rw [Xw1,ht] at ht'
   cases ht'
   have:=hla t (List.mem_of_getElem? ht)
   exact Xba (hA''.mono nofun) (hN'' _ (Xwf ..)) nofun
  ·obtain ⟨om,hom,tt,fx,rfl,_⟩:=S.own _ (Xwf ..)
   exact ⟨_,hom,rfl⟩
  repeat' got_up
  refine ⟨rfl,_,[(f,XaB)],rfl,?_⟩
  refine Xd (Xm fun A' hA' led' hN'=>?_)
  repeat' got_up
  refine XkW fun m it=>?_
  repeat' got_up
  refine Xci (k:=31) (T' := "map") (items:=(b.map Xe).map .str) (gl:=XcU m it (.ref f) (b.map .bytes) 0 []) (led:=[(f,XaB)]++led') (N:=[(f,XaB)]) (hA'.mono nofun) (fun p hp=>Xxf _ hp)
   (IterOk.map (N:=[(f,XaB)]) (k:=30) (ys:=(b.map Xe).map .str) (by simp) (fun i x y hx hy A' hA'' led' hN''=>?_) b.length 0 (by simp)) (Xw4 (show _<=10 ^ 5 by simp only [Xwi];omega) (show 10 ^ 5<=XwZ by decide)) (fun s Z S=>?_) (by decide) (by decide) (fun A s Z S Q E h=>Xgu S h) Xej XdO ?_
  ·rw [Xw1] at hx hy
   obtain ⟨t,ht,rfl⟩:=Xxv.mp hx
   obtain ⟨t',ht',rfl⟩:=Xxv.mp hy
   rw [Xw1,ht] at ht'
   cases ht'
   have:=hlb t (List.mem_of_getElem? ht)
   exact Xba (hA''.mono nofun) (hN'' _ (Xwf ..)) nofun
  ·obtain ⟨om,hom,tt,fx,rfl,_⟩:=S.own _ (Xwf ..)
   exact ⟨_,hom,rfl⟩
  repeat' got_up
  refine ⟨rfl,_,[(f,XaB)],rfl,?_⟩
  refine Xd (Xm fun A' hA' led' hN'=>?_)
  got_up
  got_up
  got_up
  refine XcP @_ ?_
  repeat' got_up
  refine ⟨Xdm (Xwf ..),Xr (led:=[(f,XaB)]++led') (Xba (hA'.mono nofun) (Xwf ..) nofun) fun v l h=>?_⟩
  obtain ⟨rfl,rfl⟩:=h
  repeat' got_up
  refine ⟨rfl,_,[(f,XaB)],rfl,?_⟩
  refine Xd (Xm fun A' hA' led' hN'=>?_)
  got_up
  got_up
  got_up
  refine XcP @_ ?_
  repeat' got_up
  refine ⟨Xdm (Xwf ..),Xr (led:=[(f,XaB)]++led') (Xba (hA'.mono nofun) (Xwf ..) nofun) fun v l h=>?_⟩
  obtain ⟨rfl,rfl⟩:=h
  repeat' got_up
  refine ⟨rfl,_,[(f,XaB)],rfl,?_⟩
  refine Xd (Xm fun A' hA' led' hN'=>?_)
  got_up
  got_up
  got_up
  refine XcP @_ ?_
  repeat' got_up
  refine ⟨Xdm (Xwf ..),Xr (led:=[(f,XaB)]++led') (Xba (hA'.mono nofun) (Xwf ..) nofun) fun v l h=>?_⟩
  obtain ⟨rfl,rfl⟩:=h
  repeat' got_up
  refine ⟨rfl,_,[(f,XaB)],rfl,?_⟩
  refine Xd (Xm fun A' hA' led' hN'=>?_)
  got_up
  got_up
  got_up
  refine XcP @_ ?_
  repeat' got_up
  refine ⟨Xdm (Xwf ..),Xr (led:=[(f,XaB)]++led') (Xba (hA'.mono nofun) (Xwf ..) nofun) fun v l h=>?_⟩
  obtain ⟨rfl,rfl⟩:=h
  repeat' got_up
  refine ⟨rfl,_,[(f,XaB)],rfl,?_⟩
  refine Xd (Xm fun A' hA' led' hN'=>?_)
  got_up
  got_up
  got_up
  refine XcP @_ ?_
  repeat' got_up
  refine ⟨Xdm (Xwf ..),Xr (led:=[(f,XaB)]++led') (Xba (hA'.mono nofun) (Xwf ..) nofun) fun v l h=>?_⟩
  obtain ⟨rfl,rfl⟩:=h
  repeat' got_up
  refine ⟨rfl,_,[(f,XaB)],rfl,?_⟩
  refine Xd (Xm fun A' hA' led' hN'=>?_)
  got_up
  got_up
  got_up
  refine Xcy @_ hkept ?_
  repeat' got_up
  refine Xr (led:=[(f,XaB)]++led') (hdf _ (hA'.mono nofun) _ (hN'.app _)) fun v l h=>?_
  obtain ⟨ga,gn,gs,gl,rfl,rfl,hsp⟩:=h
  repeat' got_up
  refine ⟨rfl,_,((ga,.gen gn gs)::gl)++[(f,XaB)],by rw [XwK],?_⟩
  refine Xd (TG.mono (K:=fun f st' rows'=>f=AFlow.next/\rows'=[]) ?_ ?_)
  ·refine XcN (k:=154) nofun (J:=fun items st' rows'=>∃ (rs:List Str) (v:AV),items=rs.map AV.str/\rows'=(rs.map fun r=>AV.bytes (Xa1 r))/\(∀ r∈rs,Xbm r/\r.length<2 ^ 20) /\
    st'=⟨Xul df (.lst ((a.map Xe).map .str)) (.lst ((b.map Xe).map .str)) (.str (Xe ff)) (.str (Xe tf)) (.str (Xe fd)) (.str (Xe td)) n (.str (Xe lt)) (.ref f) (.ref ga) v,[(f,XaB)]⟩) ?_ ?_ ?_ (fun _=>@_)
   ·intro A' hA' led' hN'
    repeat' got_up
    rw [XwK]
    refine XdW (g04 w) hsp fun hI=>?_
    exact ⟨ga,_,[(f,XaB)],_,rfl,rfl,hI _ _,rows,_,rfl,rfl,hrows,rfl⟩
   ·rintro x xs st' rows' gl ⟨rs,v,hxs,rfl,hok,rfl⟩ A' hA' led' hN'
    cases rs with
    | nil=>cases hxs
    | cons r rs =>
     obtain ⟨rfl,rfl⟩:=Xx2 hxs
     have hro:=hok r (Xwf ..)
     repeat' got_up
     refine ⟨[(f,XaB)],rfl,?_⟩
     refine Xd (XaC (fun A' hA' led' hN'=>?_) @_ @_)
     refine Xau (T' := "str") (id := "str.encode") @_ @_ @_ Xjz Xld Xr5 ?_
     got_up
     refine ⟨Xcn,?_⟩
     repeat' got_up
     refine XpZ hro.1 hro.2 ⟨[(f,XaB)]++gl,_,rfl,rfl,?_⟩
     exact Xv ⟨[(f,XaB)],rfl,rs,_,rfl,rfl,fun q hq=>hok q (Xwh _ hq),rfl⟩
   ·rintro st' rows' ⟨rs,v,hxs,rfl,hok,rfl⟩
    cases rs with
    | nil=>exact ⟨rfl,rfl⟩
    | cons r rs=>cases hxs
  ·rintro f' st' rows' ⟨rfl,rfl⟩
   exact Xv rfl
end
section
def chg{α:Type}[DecidableEq α](a:List α):Nat->Nat
 | 0=>0
 | n+1=>chg a n+if a[n+1]? = a[n]? then 0 else 1
section
variable{α:Type}[DecidableEq α]
theorem XbA(a:List α)(n:Nat):chg a (n+1)=chg a n+if a[n+1]? = a[n]? then 0 else 1:=rfl
theorem Xgy(a:List α)(m:Nat):∀ d,chg a m<=chg a (m+d)
 | 0=>XwN _
 | d+1=>by rw [show m+(d+1)=(m+d)+1 from rfl,XbA];have:=Xgy a m d;omega
theorem Xa7(a:List α){m n:Nat}(h:m<=n):chg a m<=chg a n:=by
 obtain ⟨d,rfl⟩:=Nat.le.dest h
 exact Xgy a m d
theorem Xgx(a:List α)(m:Nat):∀ d,(chg a (m+d)=chg a m->a[m+d]? = a[m]?)/\(chg a (m+d)=chg a m+1->a[m+d]? ≠ a[m]?)
 | 0=>⟨fun _=>rfl,fun h=>by simp at h⟩
 | d+1=>by
  have ih:=Xgx a m d
  have hm:=Xgy a m d
  rw [show m+(d+1)=(m+d)+1 from rfl,XbA]
  by_cases e:a[m+d+1]? = a[m+d]?
  ·rw [if_pos e,e,Nat.add_zero];exact ih
  ·rw [if_neg e]
   refine ⟨fun h=>by omega,fun h=>?_⟩
   have:=ih.1 nofun
   rw [← this];exact e
theorem Xd6(a:List α){m n:Nat}(h:m<=n)(e:chg a n=chg a m):a[n]? = a[m]? := by
 obtain ⟨d,rfl⟩:=Nat.le.dest h
 exact (Xgx a m d).1 e
theorem Xmb(a:List α){m n:Nat}(h:m<=n)(e:chg a n=chg a m+1):a[n]? ≠ a[m]? := by
 obtain ⟨d,rfl⟩:=Nat.le.dest h
 exact (Xgx a m d).2 e
theorem Xmc(a:List α)(b:List α):∀ n,n<a.length->chg (a++b) n=chg a n
 | 0,_=>rfl
 | n+1,h=>by
  rw [XbA,XbA,Xmc a b n nofun,List.getElem?_append_left h,List.getElem?_append_left nofun]
theorem Xma(a:List α)(y:α)(m:Nat):∀ d,d<m->chg (a++Xyi m y) (a.length+d)<=chg a (a.length - 1)+1
 | 0,h=>by
  rw [Nat.add_zero]
  cases hl:a.length with
  | zero=>exact XwA _
  | succ n =>
   rw [XbA,Xmc a _ n nofun,show n+1 - 1=n from rfl]
   split <;> omega
 | d+1,h=>by
  have ih:=Xma a y m d nofun
  rw [show a.length+(d+1)=(a.length+d)+1 from rfl,XbA,if_pos]
  ·exact ih
  ·rw [List.getElem?_append_right nofun,List.getElem?_append_right nofun,List.getElem?_replicate,List.getElem?_replicate,if_pos nofun,if_pos nofun]
theorem Xsc(a:List α)(y:α)(m:Nat):chg (a++Xyi m y) ((a++Xyi m y).length - 1)<=chg a (a.length - 1)+1:=by
 cases m with
 | zero=>simp
 | succ m =>
  rw [Xwo,Xy0,show a.length+(m+1) - 1=a.length+m from by omega]
  exact Xma a y (m+1) m nofun
theorem Xuy(a b:List α){p q i j:Nat}(hp:p<i)(hq:q<j)(h0:a[p]? = b[q]?)(h1:a[i]? = b[j]?)
  (hno : ¬ (a[i - 1]? = b[j - 1]?) ∨ ¬ (a[p+1]? = b[q+1]?)):chg a p+chg b q+2<=chg a i+chg b j:=by
 have ma:=Xa7 a (XxQ hp)
 have mb:=Xa7 b (XxQ hq)
 by_cases da:chg a i=chg a p
 ·by_cases db:chg b j=chg b q
  ·exfalso
   rcases hno with hno | hno
   ·have ha1:=Xa7 a (show p<=i - 1 from by omega)
    have ha2:=Xa7 a (show i - 1<=i from by omega)
    have hb1:=Xa7 b (show q<=j - 1 from by omega)
    have hb2:=Xa7 b (show j - 1<=j from by omega)
    exact hno (by rw [Xd6 a (show p<=i - 1 from by omega) nofun,Xd6 b (show q<=j - 1 from by omega) nofun];exact h0)
   ·have ha1:=Xa7 a (show p<=p+1 from by omega)
    have ha2:=Xa7 a (show p+1<=i from by omega)
    have hb1:=Xa7 b (show q<=q+1 from by omega)
    have hb2:=Xa7 b (show q+1<=j from by omega)
    exact hno (by rw [Xd6 a (show p<=p+1 from by omega) nofun,Xd6 b (show q<=q+1 from by omega) nofun];exact h0)
  ·by_cases db1:chg b j=chg b q+1
   ·exfalso
    refine Xmb b (XxQ hq) db1 ?_
    rw [← h1,← h0]
    exact Xd6 a (XxQ hp) da
   ·omega
 ·by_cases db:chg b j=chg b q
  ·by_cases da1:chg a i=chg a p+1
   ·exfalso
    refine Xmb a (XxQ hp) da1 ?_
    rw [h1,h0]
    exact Xd6 b (XxQ hq) db
   ·omega
  ·omega
end
theorem Xd0{e:Nat->Nat->Bool}{fl:Nat->Nat->Nat->Nat->Tri}(ok:Xch fl)(mx:FlMax e fl):∀ (f alo ahi blo bhi:Nat),alo<=ahi->blo<=bhi->∀ t∈mbF fl f alo ahi blo bhi,Xbt e t
 | 0,_,_,_,_,_,_,t,ht=>by cases ht
 | f+1,alo,ahi,blo,bhi,h1,h2,t,ht=>by
  obtain ⟨a1,a2,a3,a4⟩:=ok alo ahi blo bhi h1 h2
  rw [mbF] at ht
  split at ht
  ·cases ht
  ·rename_i hk
   rcases Xw5.mp ht with ht | ht
   ·split at ht
    ·exact Xd0 ok mx f _ _ _ _ nofun nofun t ht
    ·cases ht
   ·rcases Xwm.mp ht with rfl | ht
    ·exact mx.run _ _ _ _ h1 h2
    ·split at ht
     ·exact Xd0 ok mx f _ _ _ _ nofun nofun t ht
     ·cases ht
def Xwc(a b:List Str)(L:List Tri):Prop:=L=[]∨∃ s∈L,∃ t∈L,2 * (L.length - 1)+chg a s.1+chg b s.2.1<=chg a (t.1+t.2.2 - 1)+chg b (t.2.1+t.2.2 - 1)
theorem Xgt(a b:List Str){fl:Nat->Nat->Nat->Nat->Tri}(ok:Xch fl)(mx:FlMax (eqs a b) fl):∀ (f alo ahi blo bhi:Nat),alo<=ahi->blo<=bhi->Xwc a b (mbF fl f alo ahi blo bhi)
 | 0,_,_,_,_,_,_ => .inl rfl
 | f+1,alo,ahi,blo,bhi,h1,h2=>by
  obtain ⟨a1,a2,a3,a4⟩:=ok alo ahi blo bhi h1 h2
  have hrun:=mx.run _ _ _ _ h1 h2
  have hleft:=mx.left _ _ _ _ h1 h2
  have hright:=mx.right _ _ _ _ h1 h2
  rw [mbF]
  generalize fl alo ahi blo bhi=r at a1 a2 a3 a4 hrun hleft hright
  obtain ⟨i,j,k⟩:=r
  dsimp only at a1 a2 a3 a4 hleft hright ⊢
  split
  ·exact .inl rfl
  ·rename_i hk
   have e0:a[i]? = b[j]? := by have:=hrun 0 (by show 0<k;omega);simpa [eqs] using this
   have e1:a[i+k - 1]? = b[j+k - 1]? := by
    have:=hrun (k - 1) (by show k - 1<k;omega)
    simp only [eqs,beq_iff_eq] at this
    rwa [show i+(k - 1)=i+k - 1 from by omega,show j+(k - 1)=j+k - 1 from by omega] at this
   have mid:chg a i+chg b j<=chg a (i+k - 1)+chg b (j+k - 1):=by
    have:=Xa7 a (show i<=i+k - 1 from by omega)
    have:=Xa7 b (show j<=j+k - 1 from by omega)
    omega
   generalize hX:(if alo<i/\blo<j then mbF fl f alo i blo j else [])=X
   generalize hY:(if i+k<ahi/\j+k<bhi then mbF fl f (i+k) ahi (j+k) bhi else [])=Y
   have hXc:∃ s∈X++[(i,j,k)],2 * X.length+chg a s.1+chg b s.2.1<=chg a i+chg b j:=by
    by_cases hc:alo<i/\blo<j
    ·rw [if_pos hc] at hX
     rcases Xgt a b ok mx f alo i blo j nofun nofun with h | ⟨s,hs,t,ht,hle⟩
     ·rw [← hX,h];exact ⟨(i,j,k),by simp,by simp⟩
     ·rw [hX] at hs ht hle
      have hr:=XaX ok f alo i blo j nofun nofun t (by rw [hX];exact ht)
      have hR:=Xd0 ok mx f alo i blo j nofun nofun t (by rw [hX];exact ht)
      obtain ⟨ti,tj,tk⟩:=t
      dsimp only at hr hle
      have g:=hR (tk - 1) (by show tk - 1<tk;omega)
      simp only [eqs,beq_iff_eq] at g
      rw [show ti+(tk - 1)=ti+tk - 1 from by omega,show tj+(tk - 1)=tj+tk - 1 from by omega] at g
      have:=Xuy a b (p:=ti+tk - 1) (q:=tj+tk - 1) (i:=i) (j:=j) nofun nofun g e0 (.inl fun h=>hleft ⟨by omega,by omega,by simp [eqs,h]⟩)
      have hl:0<X.length:=List.length_pos_of_mem hs
      exact ⟨s,by simp [hs],by omega⟩
    ·rw [if_neg hc] at hX
     rw [← hX];exact ⟨(i,j,k),by simp,by simp⟩
   have hYc:∃ t∈(i,j,k)::Y,2 * Y.length+chg a (i+k - 1)+chg b (j+k - 1)<=chg a (t.1+t.2.2 - 1)+chg b (t.2.1+t.2.2 - 1):=by
    by_cases hc:i+k<ahi/\j+k<bhi
    ·rw [if_pos hc] at hY
     rcases Xgt a b ok mx f (i+k) ahi (j+k) bhi nofun nofun with h | ⟨s,hs,t,ht,hle⟩
     ·rw [← hY,h];exact ⟨(i,j,k),by simp,by simp⟩
     ·rw [hY] at hs ht hle
      have hr:=XaX ok f (i+k) ahi (j+k) bhi nofun nofun s (by rw [hY];exact hs)
      have hR:=Xd0 ok mx f (i+k) ahi (j+k) bhi nofun nofun s (by rw [hY];exact hs)
      obtain ⟨si,sj,sk⟩:=s
      dsimp only at hr hle
      have g:=hR 0 (by show 0<sk;omega)
      simp only [eqs,beq_iff_eq,Nat.add_zero] at g
      have:=Xuy a b (p:=i+k - 1) (q:=j+k - 1) (i:=si) (j:=sj) nofun nofun e1 g (.inr fun h=>hright ⟨by omega,by omega,by
       rw [show i+k - 1+1=i+k from by omega,show j+k - 1+1=j+k from by omega] at h
       simp [eqs,h]⟩)
      have hl:0<Y.length:=List.length_pos_of_mem ht
      exact ⟨t,by simp [ht],by omega⟩
    ·rw [if_neg hc] at hY
     rw [← hY];exact ⟨(i,j,k),by simp,by simp⟩
   obtain ⟨s,hs,hs'⟩:=hXc
   obtain ⟨t,ht,ht'⟩:=hYc
   refine .inr ⟨s,?_,t,?_,?_⟩
   ·simp only [Xw5,Xwm,Xwy] at hs ⊢
    rcases hs with h | h
    ·exact .inl h
    ·simp only [XxO,or_false] at h;exact .inr (.inl h)
   ·simp only [Xw5,Xwm] at ht ⊢
    exact .inr ht
   ·rw [Xwo,Xwn]
    omega
theorem Xs4(a b:List Str)(hc:chg a (a.length - 1)+chg b (b.length - 1)<126):(mbW (flm (eqs a b) (XS a b)) (0,a.length,0,b.length)).length<64:=by
 have ok:=XbP (eqs a b) (XS a b)
 unfold mbW
 dsimp only
 rcases Xgt a b ok (XkD a b) (a.length - 0) 0 a.length 0 b.length (XwA _) (XwA _) with h | ⟨s,hs,t,ht,hle⟩
 ·rw [h];decide
 ·have hr:=XaX ok (a.length - 0) 0 a.length 0 b.length (XwA _) (XwA _) t ht
  have ha:=Xa7 a (show t.1+t.2.2 - 1<=a.length - 1 from by omega)
  have hb:=Xa7 b (show t.2.1+t.2.2 - 1<=b.length - 1 from by omega)
  omega
section
variable{β:Type}[DecidableEq β]
def XuB(a b:List β)(i j:Nat):Bool:=decide (a[i]? = b[j]?)
def Xjg(b:List β)(k:β):List Nat:=(List.range b.length).filter fun j=>decide (b[j]? = some k)
def XsC(a b:List β)(i:Nat):List Nat:=(a[i]?).elim [] fun k=>if decide (200<=b.length) && decide (b.length / 100+1<(Xjg b k).length) then [] else Xjg b k
theorem Xb9{f:β->Str}(hf:∀ x y,f x=f y->x=y)(u v:Option β):(u.map f=v.map f)↔u=v:=by
 cases u <;> cases v <;> simp
 exact ⟨hf _ _,fun h=>h ▸ rfl⟩
theorem Xl8{f:β->Str}(hf:∀ x y,f x=f y->x=y)(a b:List β):eqs (a.map f) (b.map f)=XuB a b:=by
 funext i j
 unfold eqs XuB
 rw [Xw1,Xw1,XyB,beq_iff_eq,decide_eq_true_eq]
 exact Xb9 hf _ _
theorem XrP{f:β->Str}(hf:∀ x y,f x=f y->x=y)(b:List β)(k:β):Xa9 (b.map f) (f k)=Xjg b k:=by
 unfold Xa9 Xjg
 rw [Xwi]
 refine List.filter_congr fun j _=>?_
 rw [Xw1,XyB,beq_iff_eq,decide_eq_true_eq]
 exact Xb9 hf (b[j]?) (some k)
theorem Xks{f:β->Str}(hf:∀ x y,f x=f y->x=y)(a b:List β):XS (a.map f) (b.map f)=XsC a b:=by
 funext i
 unfold XS XsC
 rw [Xw1]
 cases a[i]? with
 | none=>rfl
 | some x =>
  show XM (b.map f) (f x)=_
  unfold XM Xdd
  rw [XrP hf,Xwi]
  rfl
theorem XrZ{f g:β->Str}(hf:∀ x y,f x=f y->x=y)(hg:∀ x y,g x=g y->x=y)(a b:List β):flm (eqs (a.map f) (b.map f)) (XS (a.map f) (b.map f))=flm (eqs (a.map g) (b.map g)) (XS (a.map g) (b.map g)):=by
 rw [Xl8 hf,Xl8 hg,Xks hf,Xks hg]
theorem Xid{f:β->Str}(hf:∀ x y,f x=f y->x=y)(a:List β):∀ n,chg (a.map f) n=chg a n
 | 0=>rfl
 | n+1=>by
  rw [XbA,XbA,Xid hf a n,Xw1,Xw1]
  congr 1
  simp only [Xb9 hf]
end
end
theorem Xif{e:Nat->Nat->Bool}:∀ (ts:List Tri) (s:Tri × List Tri),Xbt e s.1->(∀ t∈s.2,Xbt e t)->(∀ t∈ts,Xbt e t)->∀ t∈Xas (ts.foldl XB s),Xbt e t
 | [],s,h1,h2,_,t,ht=>by
  unfold Xas at ht
  rw [List.foldl_nil] at ht
  split at ht
  ·exact h2 t ht
  ·rcases Xw5.mp ht with h | h
   ·exact h2 t h
   ·rw [Xwy] at h;rw [h];exact h1
 | x::ts,s,h1,h2,h3,t,ht=>by
  rw [Xxj] at ht
  have hx:=h3 x (Xwf ..)
  have h3':=fun t ht=>h3 t (Xwh _ ht)
  by_cases hc:s.1.1+s.1.2.2=x.1/\s.1.2.1+s.1.2.2=x.2.1
  ·refine Xif ts (XB s x) ?_ ?_ h3' t ht
   ·unfold XB
    rw [if_pos hc]
    intro d hd
    dsimp only at hd ⊢
    by_cases q:d<s.1.2.2
    ·exact h1 d q
    ·have:=hx (d - s.1.2.2) nofun
     rw [← hc.1,← hc.2] at this
     rw [show s.1.1+d=s.1.1+s.1.2.2+(d - s.1.2.2) from by omega,show s.1.2.1+d=s.1.2.1+s.1.2.2+(d - s.1.2.2) from by omega]
     exact this
   ·unfold XB;rw [if_pos hc];exact h2
  ·refine Xif ts (XB s x) ?_ ?_ h3' t ht
   ·unfold XB;rw [if_neg hc];exact hx
   ·unfold XB
    rw [if_neg hc]
    dsimp only
    split
    ·exact h2
    ·intro t ht
     rcases Xw5.mp ht with h | h
     ·exact h2 t h
     ·rw [Xwy] at h;rw [h];exact h1
theorem XlN{e:Nat->Nat->Bool}{fl:Nat->Nat->Nat->Nat->Tri}(ok:Xch fl)(mx:FlMax e fl)(la lb:Nat):∀ t∈Xj fl la lb,Xbt e t:=fun t ht=>by
 unfold Xj at ht
 rcases Xw5.mp ht with h | h
 ·refine Xif _ _ (fun d hd=>absurd hd (Nat.not_lt_zero d)) (fun t ht=>by cases ht) (fun t ht=>?_) t h
  exact Xd0 ok mx _ _ _ _ _ (XwA _) (XwA _) t ht
 ·rw [Xwy] at h
  subst h
  exact fun d hd=>absurd hd (Nat.not_lt_zero d)
def Xk4(e:Nat->Nat->Bool)(o:Op):Prop:=o.tag=Xo->o.i2 - o.i1=o.j2 - o.j1/\∀ d,d<o.i2 - o.i1->e (o.i1+d) (o.j1+d)=true
theorem XlH{i ai j bj:Nat}{o:Op}(h:o∈Xal i ai j bj):o.tag≠Xo:=by
 unfold Xal at h
 split at h
 ·rw [Xwy] at h;subst h;exact (by decide:XR≠Xo)
 ·split at h
  ·rw [Xwy] at h;subst h;exact (by decide:Xaf≠Xo)
  ·split at h
   ·rw [Xwy] at h;subst h;exact (by decide:Xad≠Xo)
   ·cases h
theorem XjB{e:Nat->Nat->Bool}:∀ (ts:List Tri) (s:(Nat × Nat) × List Op),(∀ t∈ts,Xbt e t)->(∀ o∈s.2,Xk4 e o)->∀ o∈(ts.foldl Xu s).2,Xk4 e o
 | [],s,_,h,o,ho=>h o ho
 | t::ts,s,h1,h2,o,ho=>by
  rw [Xxj] at ho
  refine XjB ts (Xu s t) (fun u hu=>h1 u (Xwh _ hu)) (fun u hu=>?_) o ho
  unfold Xu at hu
  dsimp only at hu
  rcases Xw5.mp hu with hu | hu
  ·rcases Xw5.mp hu with hu | hu
   ·exact h2 u hu
   ·exact fun q=>absurd q (XlH hu)
  ·unfold Xam at hu
   split at hu
   ·cases hu
   ·rw [Xwy] at hu
    subst hu
    refine fun _=>⟨by dsimp only;omega,fun d hd=>h1 t (Xwf ..) d (by dsimp only at hd;omega)⟩
theorem Xpg(a b:List Str):∀ o∈Xaz (Xj (flm (eqs a b) (XS a b)) a.length b.length),Xk4 (eqs a b) o :=
 XjB _ _ (XlN (XbP _ _) (XkD a b) _ _) (fun o ho=>by cases ho)
def XcX(o:Op):Prop:=o.tag=Xo
theorem XeF{n:Nat}:∀ (codes group:List Op),(∃ o∈group++codes,¬ XcX o)->Xi n group codes≠[]
 | [],group,⟨o,ho,hne⟩=>by
  rw [Xxk] at ho
  unfold Xi
  have hn:group≠[]:=fun q=>by rw [q] at ho;cases ho
  rw [if_neg (by simpa using hn)]
  split
  ·rename_i hc
   exfalso
   obtain ⟨h1,h2⟩:=hc
   obtain ⟨x,rfl⟩:=List.length_eq_one_iff.mp h1
   rw [Xwy] at ho
   subst ho
   have h3:o.tag=Xo:=by simpa using h2
   exact hne h3
  ·exact List.cons_ne_nil _ _
 | o::os,group,⟨p,hp,hne⟩=>by
  rw [Xi]
  split
  ·exact List.cons_ne_nil _ _
  ·exact XeF os (group++[o]) ⟨p,by rw [XwK];exact hp,hne⟩
theorem Xlp{f:Op->Op}(hf:∀ o,(f o).tag=o.tag){os:List Op}(h:∃ o∈os,¬ XcX o):∃ o∈Xb7 f os,¬ XcX o:=by
 obtain ⟨o,ho,hne⟩:=h
 cases os with
 | nil=>cases ho
 | cons x xs =>
  rcases Xwm.mp ho with rfl | ho
  ·exact ⟨f o,Xwf ..,by unfold XcX;rw [hf];exact hne⟩
  ·exact ⟨o,Xwh _ ho,hne⟩
theorem XfD{f:Op->Op}(hf:∀ o,(f o).tag=o.tag):∀ {os:List Op},(∃ o∈os,¬ XcX o)->∃ o∈Xa4 f os,¬ XcX o
 | [],⟨o,ho,_⟩=>by cases ho
 | [x],⟨o,ho,hne⟩=>by
  rw [Xwy] at ho
  subst ho
  exact ⟨f o,List.mem_singleton_self _,by unfold XcX;rw [hf];exact hne⟩
 | x::y::os,⟨o,ho,hne⟩=>by
  rw [Xa4]
  rcases Xwm.mp ho with rfl | ho
  ·exact ⟨o,Xwf ..,hne⟩
  ·obtain ⟨p,hp,hq⟩:=XfD hf ⟨o,ho,hne⟩
   exact ⟨p,Xwh _ hp,hq⟩
theorem Xkx{n:Nat}{codes:List Op}(h:∃ o∈codes,¬ XcX o):XC n codes≠[]:=by
 have hne:codes≠[]:=by rintro rfl;obtain ⟨o,ho,_⟩:=h;cases ho
 unfold XC Xbr
 rw [if_neg (by simpa using hne)]
 exact XeF _ _ (by rw [Xwv];exact XfD (Xiz n) (Xlp (XiA n) h))
theorem XfC{a b:List Str}:∀ (os:List Op) (i i' j':Nat),Path i i os i' j'->(∀ o∈os,Xk4 (eqs a b) o/\XcX o)->i'=j'/\∀ d,i<=d->d<i'->a[d]? = b[d]?
 | [],i,i',j',h,_=>by obtain ⟨rfl,rfl⟩:=h;exact ⟨rfl,fun d h1 h2=>by omega⟩
 | o::os,i,i',j',h,hall=>by
  obtain ⟨h1,h2,h3,h4,h5⟩:=h
  obtain ⟨q1,q2⟩:=hall o (Xwf ..)
  obtain ⟨e1,e2⟩:=q1 q2
  have:o.i2=o.j2:=by omega
  rw [← this] at h5
  obtain ⟨r1,r2⟩:=XfC os o.i2 i' j' h5 fun p hp=>hall p (Xwh _ hp)
  refine ⟨r1,fun d hd1 hd2=>?_⟩
  by_cases q:d<o.i2
  ·have:=e2 (d - i) nofun
   rw [h1,h2,show i+(d - i)=d from by omega] at this
   simpa [eqs] using this
  ·exact r2 d nofun hd2
theorem Xh5(a b:List Str)(n:Nat):XC n (Xaz (Xj (flm (eqs a b) (XS a b)) a.length b.length))=[]↔a=b:=by
 constructor
 ·intro h
  by_cases hex:∃ o∈Xaz (Xj (flm (eqs a b) (XS a b)) a.length b.length),¬ XcX o
  ·exact absurd h (Xkx hex)
  ·have hall:∀ o∈Xaz (Xj (flm (eqs a b) (XS a b)) a.length b.length),Xk4 (eqs a b) o/\XcX o:=fun o ho=>⟨Xpg a b o ho,by
    by_cases q:XcX o
    ·exact q
    ·exact absurd ⟨o,ho,q⟩ hex⟩
   obtain ⟨r1,r2⟩:=XfC _ 0 _ _ (Xiv (XbP _ _) a.length b.length) hall
   refine List.ext_getElem? fun d=>?_
   by_cases q:d<a.length
   ·exact r2 d (XwA _) q
   ·rw [XxR nofun,XxR nofun]
 ·rintro rfl
  have hs:=Xpu a
  have ok:=XbP (eqs a a) (XS a a)
  generalize flm (eqs a a) (XS a a)=fl at hs ok
  generalize a.length=m at hs
  cases m with
  | zero =>
   have:mbW fl (0,0,0,0)=[]:=Xkn (by show (fl 0 0 0 0).2.2=0;rw [hs])
   unfold Xj
   rw [this]
   show XC n (Xaz [(0,0,0)])=[]
   rw [show Xaz [(0,0,0)]=[] from rfl]
   exact XfH
  | succ m =>
   have h1:=Xiw (q:=(0,m+1,0,m+1)) ok (XwA _) (XwA _) (by dsimp only;rw [hs];exact Nat.succ_ne_zero _)
   dsimp only at h1
   rw [hs] at h1
   dsimp only at h1
   rw [if_neg nofun,if_neg nofun] at h1
   unfold Xj
   rw [h1]
   have e1:Xaz (Xas (([]++[(0,0,m+1)]).foldl XB ((0,0,0),[]))++[(m+1,m+1,0)])=[⟨Xo,0,0+(m+1),0,0+(m+1)⟩]:=by
    simp [XB,Xas,Xaz,Xu,Xal,Xam]
   rw [e1]
   unfold XC Xbr
   rw [if_neg (by simp)]
   simp only [Xb7,Xa4,XaL,Xa5,if_true]
   rw [Xi,if_neg]
   ·rw [Xi,if_neg (by simp),if_pos (by simp)]
   ·rintro ⟨_,h⟩
    dsimp only at h
    omega
section
theorem SimL.newAt{B:Frz}{s:Xwl}{Z:Frz}{led:Led}(S:SimL B s Z led){h':Heap}{ao:AObj}(hgn:ao.gnum=none)(tk:Nat)(keep:∀ b o,s.heap.get? b=some o->h'.get? b=some o)
  (hh:Holds Z {s with heap:=h',toks:=tk} s.heap.objs.size ao) :
  SimL B {s with heap:=h',toks:=tk} Z ((s.heap.objs.size,ao)::led)/\Ext (Xh led) s Z {s with heap:=h',toks:=tk} Z (Xh ((s.heap.objs.size,ao)::led)):=by
 have hfresh:s.heap.get? s.heap.objs.size=none:=XbH s
 refine ⟨⟨S.base,fun a ob e=>keep a ob (S.frozen a ob e),Xwz.mpr ⟨S.lfresh,S.nodup⟩,fun p hp=>?_,fun p hp=>?_,?_,S.bare⟩,
  ⟨.refl _,fun a ob e _=>keep a ob e,fun a ha=>?_,fun _ _ e => .inl e,rfl,fun _ _ e _=>e,fun g hg=>?_⟩⟩
 ·rcases Xwm.mp hp with rfl | hp
  ·exact S.zfresh
  ·exact S.apart p hp
 ·rcases Xwm.mp hp with rfl | hp
  ·exact hh
  ·exact (S.own p hp).mono (.refl _) (fun ob e=>keep _ ob e) fun _ _ _ e=>e
 ·show (gkeys _).Nodup
  unfold gkeys
  rw [XxA,hgn]
  exact S.gnodup
 ·rcases Xwm.mp ha with q | q
  ·exact .inr (q ▸ hfresh)
  ·exact .inl q
 ·left
  show g∈gkeys led
  have hg':g∈gkeys ((s.heap.objs.size,ao)::led):=hg
  unfold gkeys at hg'
  rw [XxA,hgn] at hg'
  exact hg'
theorem SimL.lose{B:Frz}{s:Xwl}{Z:Frz}{C:XwR}{ao:AObj}{led:Led}(S:SimL B s Z ((C,ao)::led)){h':Heap}(hs:XwO C s.heap h') :
  SimL B {s with heap:=h' } Z led/\Ext (Xh ((C,ao)::led)) s Z {s with heap:=h' } Z (Xh led):=by
 have hC:C∉keys led:=(Xwz.mp S.nodup).1
 have hCZ:Z C=none:=S.apart _ (Xwf ..)
 have S1:=S.drop1
 refine ⟨⟨S1.base,fun a o e=>hs.extBut a o (fun q=>by rw [q,hCZ] at e;cases e) (S1.frozen a o e),S1.nodup,S1.apart,fun p hp=>(S1.own p hp).mono (.refl _) (fun o e=>hs.extBut _ o (fun q=>hC (q ▸ XwC hp)) e) (fun _ _ _ e=>e),S1.gnodup,S1.bare⟩,
  ⟨.refl _,fun a o e h=>hs.extBut a o (fun q=>h (q ▸ Xwf ..)) e,fun a h => .inl (Xwh _ h),fun _ _ e => .inl e,rfl,fun _ _ e _=>e,fun g h => .inl (XiB h)⟩⟩
section
variable{prog:Xwx}{w:XwE}{A:Xww}{B:Frz}{env:Env}{N:Led}
abbrev XeQ(ifs:List Expr)(env:Env):Sem Bool:=forIn ifs true fun c r=>if r=true then do let ok ← isTrue c env (Xxy c env);XxW (ForInStep.yield ok) else XxW (ForInStep.yield r)
theorem Xcu{st:St}{K:Bool->St->Prop}(h:K true st):T prog w A B env XQ (XeQ [] env) st K:=fun s Z S Q E hQ=>Xwg (hQ true true s Z st h S rfl .refl)
theorem Xsi{c:Expr}{st:St}{K:Bool->St->Prop}(h:T prog w A B env XQ (isTrue c env (Xxy c env)) st K):T prog w A B env XQ (XeQ [c] env) st K:=fun s Z S Q E hQ =>
 wpAny_tests_one (h s Z S Q E hQ)
theorem Xfx{R:Result->Xwl->Prop}{s:Xwl}{elt target iter:Expr}{ifs:List Expr}{scope:Scope}{pos:Pos}{it acc:Value}{env:Env}(I:Nat->Xwl->Prop)
  (turn:∀ n s,I n s->XwG (XwD prog w) A (Xyc it) (fun r s₁=>match r with
   | none=>R (.ok .next) s₁
   | some v=>XwG (XwD prog w) A (Xxi target it v) (fun _ s₁=>XwG (XwD prog w) A (XxG target env v) (fun _ s₂ =>
     XwG (XwD prog w) A (XeQ ifs env) (fun ok s₃ =>
      if ok=true then XwG (XwD prog w) A (Xxy elt env) (fun x s₄ =>
       XwG (XwD prog w) A (call (.builtin "list.append") [acc,x]) (fun _ s₅=>∃ m,m<n/\I m s₅) (notedBy (XwD prog w) A env fun e s'=>R (.error e) s') s₄) (notedBy (XwD prog w) A env fun e s'=>R (.error e) s') s₃
      else ∃ m,m<n/\I m s₃) (notedBy (XwD prog w) A env fun e s'=>R (.error e) s') s₂) (notedBy (XwD prog w) A env fun e s'=>R (.error e) s') s₁) (notedBy (XwD prog w) A env fun e s'=>R (.error e) s') s₁) (notedBy (XwD prog w) A env fun e s'=>R (.error e) s') s)
  (n:Nat) (h:I n s) :
  codeAny (XwD prog w) A (.compLoop (.ListComp elt [⟨target,iter,ifs,0⟩] scope pos) 0 it acc env) R s:=by
 refine codeAny_loop rfl I (fun n s hI=>?_) n h
 show XwG _ A ((compTurn (.ListComp elt [⟨target,iter,ifs,0⟩] scope pos) 0 it acc env).onRaise (fun x=>do noteFrame x env;theTreesLotGoes x)) _ _ s
 refine wpAny_noted ?_
 rw [compTurn_list]
 refine Xwe (XwQ (Xwe (Xw8 (turn n s hI) (fun r s₁ h₁=>?_) fun _ _ h'=>h')))
 cases r with
 | none=>exact Xwg h₁
 | some v =>
  refine Xwe (Xw8 h₁ (fun _ s₁' h₁'=>?_) fun _ _ h'=>h')
  refine Xwe (Xw8 h₁' (fun _ s₂ h₂=>Xwe (Xw8 h₂ (fun ok s₃ h₃=>?_) fun _ _ h'=>h')) fun _ _ h'=>h')
  cases ok with
  | false=>exact Xwg ⟨rfl,h₃⟩
  | true =>
   exact Xwe (Xwe (Xw8 h₃ (fun x s₄ h₄=>Xwe (Xw8 h₄ (fun _ s₅ h₅=>Xwg (Xwg ⟨rfl,h₅⟩)) fun _ _ h'=>h')) fun _ _ h'=>h'))
def Xcx(prog:Xwx)(w:XwE)(A:Xww)(B:Frz)(cenv:Env)(target elt:Expr)(ifs:List Expr)(N:Led)(J:List (Str × AV)->Prop)(x:AV)(y:Option AV):Prop :=
 ∀ loc,J loc->∀ led,NIn N led->F1 prog w A B cenv XE (XxG target cenv) x ⟨loc,led⟩ fun _ st₃=>T prog w A B cenv XQ (XeQ ifs cenv) st₃ fun b st₄ =>
  if b then T prog w A B cenv Val (Xxy elt cenv) st₄ fun v st₅=>y=some v/\st₅.led=led/\J st₅.loc else y=none/\st₄.led=led/\J st₄.loc
theorem XpE{R:Result->Xwl->Prop}{s:Xwl}{Z:Frz}{cenv:Env}{elt target iter:Expr}{ifs:List Expr}{scope:Scope}{pos:Pos}{it D:XwR}{k:Nat}{J:List (Str × AV)->Prop}{l0 gl:Led}{loc:List (Str × AV)}(hA:Room A k)(hN:NIn N l0)
  {xs:List AV} {ys:List (Option AV)} (hlen:xs.length=ys.length) (hsz:xs.length<=XwZ)
  (hI:IterOk prog w B [] k target it xs gl) (hstep:∀ p∈xs.zip ys,Xcx prog w A B cenv target elt ifs N J p.1 p.2) (hJ:J loc)
  (S:SimF B cenv s Z ⟨loc,((D,.list [])::l0)++gl⟩)
  (hR:∀ s' Z' loc',SimF B cenv s' Z' ⟨loc',(D,.list (ys.filterMap id))::l0⟩->Ext (Xk cenv ⟨loc,((D,.list [])::l0)++gl⟩) s Z s' Z' (Xk cenv ⟨loc',(D,.list (ys.filterMap id))::l0⟩)->R (.ok .next) s') :
  codeAny (XwD prog w) A (.compLoop (.ListComp elt [⟨target,iter,ifs,0⟩] scope pos) 0 (.ref it) (.ref D) cenv) R s:=by
 refine Xfx (fun n s'=>∃ Z' loc' gl' xs' ys' acc,n=xs'.length/\xs'.length=ys'.length/\acc++ys'.filterMap id=ys.filterMap id/\acc.length+xs'.length<=xs.length/\J loc'/\SimF B cenv s' Z' ⟨loc',((D,.list acc)::l0)++gl'⟩/\IterOk prog w B [] k target it xs' gl' /\
   (∀ p∈xs'.zip ys',Xcx prog w A B cenv target elt ifs N J p.1 p.2)/\Ext (Xk cenv ⟨loc,((D,.list [])::l0)++gl⟩) s Z s' Z' (Xk cenv ⟨loc',((D,.list acc)::l0)++gl'⟩)) ?_ xs.length
  ⟨Z,loc,gl,xs,ys,[],rfl,hlen,rfl,by simp,hJ,S,hI,hstep,.refl⟩
 rintro n s' ⟨Z',loc',gl',xs',ys',acc,rfl,hl',hacc,hsz',hJ',S',hit',hst',X'⟩
 cases xs' with
 | nil =>
  cases ys' with
  | cons _ _=>cases hl'
  | nil =>
   refine Xdn hit' hA .nil S' fun s₃ Z₃ S₃ X₃=>?_
   simp only [List.filterMap_nil,Xxk] at hacc
   subst hacc
   exact hR s₃ Z₃ loc' S₃ (X'.trans X₃)
 | cons x xs' =>
  cases ys' with
  | nil=>cases hl'
  | cons y ys' =>
   refine Xw8 (XcJ hit' hA .nil S' (Q:=fun r s₁=>match r with
    | none=>False
    | some v=>XwG (XwD prog w) A (XxG target cenv v) (fun _ s₂ =>
     XwG (XwD prog w) A (XeQ ifs cenv) (fun ok s₃ =>
      if ok=true then XwG (XwD prog w) A (Xxy elt cenv) (fun x₁ s₄ =>
       XwG (XwD prog w) A (call (.builtin "list.append") [.ref D,x₁]) (fun _ s₅=>∃ m,m<(x::xs').length/\∃ Z' loc' gl' xs' ys' acc,m=xs'.length/\xs'.length=ys'.length/\acc++ys'.filterMap id=ys.filterMap id/\acc.length+xs'.length<=xs.length/\J loc'/\SimF B cenv s₅ Z' ⟨loc',((D,.list acc)::l0)++gl'⟩/\IterOk prog w B [] k target it xs' gl' /\
   (∀ p∈xs'.zip ys',Xcx prog w A B cenv target elt ifs N J p.1 p.2)/\Ext (Xk cenv ⟨loc,((D,.list [])::l0)++gl⟩) s Z s₅ Z' (Xk cenv ⟨loc',((D,.list acc)::l0)++gl'⟩)) (notedBy (XwD prog w) A cenv fun e s'=>R (.error e) s') s₄) (notedBy (XwD prog w) A cenv fun e s'=>R (.error e) s') s₃
      else ∃ m,m<(x::xs').length/\∃ Z' loc' gl' xs' ys' acc,m=xs'.length/\xs'.length=ys'.length/\acc++ys'.filterMap id=ys.filterMap id/\acc.length+xs'.length<=xs.length/\J loc'/\SimF B cenv s₃ Z' ⟨loc',((D,.list acc)::l0)++gl'⟩/\IterOk prog w B [] k target it xs' gl' /\
   (∀ p∈xs'.zip ys',Xcx prog w A B cenv target elt ifs N J p.1 p.2)/\Ext (Xk cenv ⟨loc,((D,.list [])::l0)++gl⟩) s Z s₃ Z' (Xk cenv ⟨loc',((D,.list acc)::l0)++gl'⟩)) (notedBy (XwD prog w) A cenv fun e s'=>R (.error e) s') s₂) (notedBy (XwD prog w) A cenv fun e s'=>R (.error e) s') s₁)
    fun s₃ Z₃ v gl₃ S₃ V₃ X₃ hit₃=>?_) (fun r s₁ h₁=>?_) fun _ _ h=>h
   ·have hin:NIn N (((D,.list acc)::l0)++gl₃):=fun p hp=>Xxf _ (Xwh _ (hN p hp))
    refine hst' (x,y) (by simp) loc' hJ' _ hin s₃ Z₃ v V₃ S₃ _ _ fun _ _ s₄ Z₄ st₄ k₄ S₄ _ X₄=>k₄ s₄ Z₄ S₄ _ _ fun b c s₅ Z₅ st₅ k₅ S₅ V₅ X₅=>?_
    have X6:=((X'.trans X₃).trans X₄).trans X₅
    unfold XQ at V₅
    subst V₅
    cases c with
    | false =>
     rw [if_neg Xw0] at k₅ ⊢
     obtain ⟨loc₅,led₅⟩:=st₅
     obtain ⟨hy,e,hJ₅⟩:=k₅
     dsimp only at hy e hJ₅
     subst hy e
     exact ⟨xs'.length,Xym _,Z₅,loc₅,gl₃,xs',ys',acc,rfl,by simpa using hl',by simpa using hacc,by simp only [Xwn] at hsz';omega,hJ₅,S₅,hit₃,
      fun p hp=>hst' p (by rw [Xyr];exact Xwh _ hp),X6⟩
    | true =>
     rw [if_pos rfl] at k₅ ⊢
     refine k₅ s₅ Z₅ S₅ _ _ fun u z s₆ Z₆ st₆ k₆ S₆ V₆ X₆=>?_
     obtain ⟨loc₆,led₆⟩:=st₆
     obtain ⟨hy,e,hJ₆⟩:=k₆
     dsimp only at hy e hJ₆
     subst hy e
     have hf:FC prog w A B cenv (.blt "list.append") [.ref D,u] [] ⟨loc₆,((D,.list acc)::l0)++gl₃⟩ fun _ st'=>st'=⟨loc₆,((D,.list (acc++[u]))::l0)++gl₃⟩ :=
      Xfo (xs:=acc) (by simp only [Xwn] at hsz';omega) .here rfl
     refine hf s₆ Z₆ (.builtin "list.append") [.ref D,z] [] (.blt _) (.cons (.ref _) (.cons V₆ .nil)) .nil S₆ _ _ fun _ _ s₇ Z₇ st₇ k₇ S₇ _ X₇=>?_
     subst k₇
     exact ⟨xs'.length,Xym _,Z₇,loc₆,gl₃,xs',ys',acc++[u],rfl,by simpa using hl',by simpa using hacc,by simp only [Xwn,Xwo,XwF] at hsz' ⊢;omega,hJ₆,S₇,hit₃,
      fun p hp=>hst' p (by rw [Xyr];exact Xwh _ hp),(X6.trans X₆).trans X₇⟩
   ·cases r with
    | none=>exact h₁.elim
    | some v=>exact h₁
end
end
section
section
variable{prog:Xwx}{w:XwE}{A:Xww}{B:Frz}{env:Env}{N:Led}
theorem Xob(vars:List Str)(y:Str):(vars.map fun x=>(x,AV.any)).lookup y=none∨(vars.map fun x=>(x,AV.any)).lookup y=some .any:=by
 induction vars with
 | nil=>exact .inl rfl
 | cons x vars ih =>
  rw [Xwr,XwB]
  cases y == x with
  | true=>exact .inr rfl
  | false=>exact ih
theorem Xh2{vars:List Str}{y:Str}{v:AV}(h:(vars.map fun x=>(x,AV.any)).lookup y=some v):y∈vars:=by
 induction vars with
 | nil=>cases h
 | cons x vars ih =>
  rw [Xwr,XwB] at h
  cases q:y == x with
  | true=>rw [beq_iff_eq.mp q];exact Xwf ..
  | false=>rw [q] at h;exact Xwh _ (ih h)
theorem Xhe{RR:Value->XwR->Result->Xwl->Prop}{E:Value->Xwl->Prop}{s:Xwl}{Z:Frz}{elt target iter:Expr}{ifs:List Expr}{scope:Scope}{cl:List (Str × XwR)}{pos:Pos}{it:XwR}{k:Nat}{J:List (Str × AV)->Prop}{l gl:Led}{loc:List (Str × AV)}{vars:List Str}
  (hA:Room A k) (hN:NIn N l) (hcell:∀ y∈scope.names,y.2 ≠ .cell) (hkind:scope.kind = .function) (hv:∀ x∈vars,scope.names.lookup x=some .local)
  {xs:List AV} {ys:List (Option AV)} (hlen:xs.length=ys.length) (hsz:xs.length<=XwZ)
  (hI:IterOk prog w B [] k target it xs gl) (hself:Xbk prog w B it gl)
  (hstep:∀ L,∀ p∈xs.zip ys,Xcx prog w A B (compEnvC scope cl L env) target elt ifs N J p.1 p.2) (hJ:J (vars.map fun x=>(x,.any)))
  (S:SimF B env s Z ⟨loc,gl++l⟩)
  (hRR:∀ D C s' Z' Xel,SimL B s' Z' ((C,.ns Xel)::(D,.list (ys.filterMap id))::(env.locals,.ns loc)::l) ->
   Ext (Xh ((env.locals,.ns loc)::(gl++l))) s Z s' Z' (Xh ((C,.ns Xel)::(D,.list (ys.filterMap id))::(env.locals,.ns loc)::l))->RR (.ref D) C (.ok .next) s') :
  XwG (XwD prog w) A (newList []) (fun acc s₃=>XwG (XwD prog w) A (newFunctionEnv scope env.globals cl [] env.qual none .none (some env)) (fun cenv s₄ =>
   codeAny (XwD prog w) A (.compStart (.ListComp elt [⟨target,iter,ifs,0⟩] scope pos) 0 (.ref it) acc {cenv with scope:=relabel scope env}) (RR acc cenv.locals) s₄) E s₃) E s:=by
 refine Xxc ?_
 have S0:=S.toL
 have P1:=S0.push (o:={ cls := .type "list",dict:=none,data := .seq ([]:List Value).toArray}) (ao := .list []) rfl s.toks ⟨_,_,Xwp _ rfl,.nil⟩
 generalize hs1:({s with heap:=s.heap.push {cls := .type "list",dict:=none,data := .seq ([]:List Value).toArray},toks:=s.toks}:Xwl)=s1 at P1
 generalize s.heap.objs.size=D at P1 ⊢
 obtain ⟨S1,X1⟩:=P1
 refine wpAny_newFunctionEnv hcell (by intro y hy;simp at hy) (fun h₁ hns₁ hsb₁=>?_) hkind
 have keep:∀ b o,s1.heap.get? b=some o->h₁.get? b=some o:=fun b o e=>hsb₁.extBut b o (Xxu (Xw7 e)) (Xwq _ e)
 have P2:=S1.newAt (h':=h₁) (ao := .ns (vars.map fun x=>(x,.any))) rfl (s1.toks+([]:List (Str × Value)).length) keep ⟨_,hns₁,fun y=>by
  rcases Xob vars y with e | e
  ·rw [e];exact .none
  ·rw [e];exact .any⟩
 generalize hs2:({s1 with heap:=h₁,toks:=s1.toks+([]:List (Str × Value)).length}:Xwl)=s2 at P2 ⊢
 generalize s1.heap.objs.size=C at P2 ⊢
 obtain ⟨S2,X2⟩:=P2
 have X12:=X1.trans X2
 have hkin:∀ x v,(vars.map fun x=>(x,AV.any)).lookup x=some v->(compEnvC scope cl C env).kindOf x=some .local:=fun x v e=>lookup_relabel_local (hv x (Xh2 e))
 have pm:((C,AObj.ns (vars.map fun x=>(x,.any)))::(D,.list [])::(env.locals,.ns loc)::(gl++l)).Perm ((C,AObj.ns (vars.map fun x=>(x,.any)))::(((D,.list [])::(env.locals,.ns loc)::l)++gl)) :=
  Xyx _ (Xyx _ (Xyx _ Xwu))
 have S3:SimF B (compEnvC scope cl C env) s2 Z ⟨vars.map fun x=>(x,.any),((D,.list [])::(env.locals,.ns loc)::l)++gl⟩ :=
  SimL.toF (env:=compEnvC scope cl C env) (st:=⟨vars.map fun x=>(x,.any),((D,.list [])::(env.locals,.ns loc)::l)++gl⟩) (S2.perm pm) hkin hkind
 have loop:codeAny (XwD prog w) A (.compLoop (.ListComp elt [⟨target,iter,ifs,0⟩] scope pos) 0 (.ref it) (.ref D) (compEnvC scope cl C env)) (RR (.ref D) C) s2:=by
  refine XpE hA (N:=N) (l0:=(env.locals,.ns loc)::l) (hN.cons _) hlen hsz hI (hstep C) hJ S3 fun s' Z' loc' S' X'=>?_
  refine hRR D C s' Z' loc' S'.toL ?_
  rw [Xay,Xay] at X'
  refine X12.trans ?_
  rw [Xaj pm]
  exact X'
 have pm2:((C,AObj.ns (vars.map fun x=>(x,.any)))::(D,.list [])::(env.locals,.ns loc)::(gl++l)).Perm (gl++((C,AObj.ns (vars.map fun x=>(x,.any)))::(D,.list [])::(env.locals,.ns loc)::l)):=by
  refine Xxd.trans pm ?_
  exact Xwu (l₁:=(C,AObj.ns (vars.map fun x=>(x,.any)))::(D,.list [])::(env.locals,.ns loc)::l) (l₂:=gl)
 exact codeAny_compStart_list loop (hself A _ s2 Z (S2.perm pm2) _ _ loop)
def Xmi(prog:Xwx)(w:XwE)(A:Xww)(B:Frz)(env:Env)(k:Nat)(N:Led)(vars:List Str)(scope:Scope)(cl:List (Str × XwR))(elt target:Expr)(ifs:List Expr)(J:List (Str × AV)->Prop)(K:List AV->St->Prop)(u:AV)(st₂:St):Prop :=
 ∃ it gl l xs ys,u = .ref it/\st₂.led=gl++l/\IterOk prog w B [] k target it xs gl/\Xbk prog w B it gl/\NIn N l/\xs.length=ys.length/\xs.length<=XwZ /\
  (∀ L,∀ p∈xs.zip ys,Xcx prog w A B (compEnvC scope cl L env) target elt ifs N J p.1 p.2)/\K (ys.filterMap id) ⟨st₂.loc,l⟩
theorem XbQ{elt target iter:Expr}{ifs:List Expr}{scope:Scope}{cl:List (Str × XwR)}{pos:Pos}{k:Nat}{J:List (Str × AV)->Prop}{st:St}{K:AV->St->Prop}(vars:List Str)
  (hA:Room A k) (hclos:closureFor scope env=XxW cl) (hcell:(scope.names.all fun y=>y.2 != .cell)=true) (hkind:scope.kind = .function) (hnames:(scope.names.all fun x=>x.2 != .local || scope.names.lookup x.1 == some .local)=true)
  (hv:(vars.all fun x=>scope.names.lookup x == some .local)=true) (hs:∀ x,Xyz iter env x=XxW x) (hJ:J (vars.map fun x=>(x,.any)))
  (h:T prog w A B env Val (Xxy iter env) st fun v st₁=>F1 prog w A B env Val pyIter v st₁ fun u st₂=>Xmi prog w A B env k N vars scope cl elt target ifs J (fun ys st₃=>∀ D,D∉keys st₃.led->K (.ref D) ⟨st₃.loc,(D,.list ys)::st₃.led⟩) u st₂) :
  T prog w A B env Val (Xxy (.ListComp elt [⟨target,iter,ifs,0⟩] scope pos) env) st K:=fun s Z S Q E hQ=>by
 have hcell':∀ y∈scope.names,y.2 ≠ .cell:=fun y hy=>by simpa using XwU.mp hcell y hy
 have hnames':∀ y∈scope.names,y.2 = .local->scope.names.lookup y.1=some .local:=fun y hy e=>by
  have:=XwU.mp hnames y hy
  simpa [e] using this
 have hv':∀ x∈vars,scope.names.lookup x=some .local:=fun x hx=>by simpa using XwU.mp hv x hx
 rw [eval_ListComp]
 refine wpAny_comprehension_free (use:=none) rfl hs hclos hkind hnames' (h s Z S _ _ fun v x s₁ Z₁ st₁ k₁ S₁ V₁ X₁=>k₁ s₁ Z₁ x V₁ S₁ _ _ fun u y s₂ Z₂ st₂ k₂ S₂ V₂ X₂=>?_)
 obtain ⟨loc₂,led₂⟩:=st₂
 obtain ⟨it,gl,l,xs,ys,rfl,e,hI,hself,hN,hlen,hsz,hstep,hK⟩:=k₂
 dsimp only at e hK
 subst e
 cases V₂
 refine Xhe (RR:=fun acc C=>compPost (XwD prog w) A E none Q acc C) hA hN hcell' hkind hv' hlen hsz hI hself hstep hJ S₂ fun D C s' Z' Xel S' X'=>?_
 obtain ⟨m,hn,_⟩:=S'.own _ (Xwf ..)
 refine ⟨m,hn,fun h' hs'=>?_⟩
 obtain ⟨S3,X3⟩:=S'.lose hs'
 have S4:=S3.perm (l':=(env.locals,.ns loc₂)::(D,.list (ys.filterMap id))::l) (XxX ..)
 have SF:SimF B env {s' with heap:=h' } Z' ⟨loc₂,(D,.list (ys.filterMap id))::l⟩:=SimL.toF (st:=⟨loc₂,(D,.list (ys.filterMap id))::l⟩) S4 S₂.kinds S₂.fn
 refine hQ (.ref D) (.ref D) _ Z' _ (hK D (Xwz.mp SF.nodup).1) SF (.ref _) ((X₁.trans X₂).trans ?_)
 rw [Xay,Xay]
 refine (X'.trans X3).trans ?_
 rw [Xaj (l:=(D,.list (ys.filterMap id))::(env.locals,.ns loc₂)::l) (l':=(env.locals,.ns loc₂)::(D,.list (ys.filterMap id))::l) (XxX ..)]
 exact .refl
theorem XeK{x:Str}{px spos:Pos}{elt target iter:Expr}{ifs:List Expr}{scope:Scope}{cl:List (Str × XwR)}{pos:Pos}{k:Nat}{J:List (Str × AV)->Prop}{st:St}{K:AFlow->St->Prop}(vars:List Str)
  (hsw:swapsWith (.ListComp elt [⟨target,iter,ifs,0⟩] scope pos) (some (.Name x px)) spos.line env=XxW true)
  (hA:Room A k) (hclos:closureFor scope env=XxW cl) (hcell:(scope.names.all fun y=>y.2 != .cell)=true) (hkind:scope.kind = .function) (hnames:(scope.names.all fun x=>x.2 != .local || scope.names.lookup x.1 == some .local)=true)
  (hv:(vars.all fun x=>scope.names.lookup x == some .local)=true) (hs:∀ x,Xyz iter env x=XxW x) (hJ:J (vars.map fun x=>(x,.any)))
  (h:T prog w A B env Val (Xxy iter env) st fun v st₁=>F1 prog w A B env Val pyIter v st₁ fun u st₂=>Xmi prog w A B env k N vars scope cl elt target ifs J (fun ys st₃=>∀ D,D∉keys st₃.led->F1 prog w A B env XE (XyU env x) (.ref D) ⟨st₃.loc,(D,.list ys)::st₃.led⟩ fun _ st₄=>K .next st₄) u st₂) :
  T prog w A B env FVal (exec (.Assign [.Name x px] (.ListComp elt [⟨target,iter,ifs,0⟩] scope pos) spos) env) st K:=fun s Z S Q E hQ=>by
 have hcell':∀ y∈scope.names,y.2 ≠ .cell:=fun y hy=>by simpa using XwU.mp hcell y hy
 have hnames':∀ y∈scope.names,y.2 = .local->scope.names.lookup y.1=some .local:=fun y hy e=>by
  have:=XwU.mp hnames y hy
  simpa [e] using this
 have hv':∀ x∈vars,scope.names.lookup x=some .local:=fun x hx=>by simpa using XwU.mp hv x hx
 rw [exec_Assign_Name_used _ _ _ _ hsw]
 refine Xwe (XwQ (Xwe ?_))
 show XwG _ A (do let _ ← comprehension (.ListComp elt [⟨target,iter,ifs,0⟩] scope pos) scope env _ (newList []) false (Xxy iter env) (some (XxG (.Name x px) env))) _ _ s
 refine Xwe (Xw8 (wpAny_comprehension_free (use:=some (XxG (.Name x px) env)) (Q:=fun _ s'=>Q .next s') rfl hs hclos hkind hnames'
  (h s Z S _ _ fun v x s₁ Z₁ st₁ k₁ S₁ V₁ X₁=>k₁ s₁ Z₁ x V₁ S₁ _ _ fun u y s₂ Z₂ st₂ k₂ S₂ V₂ X₂=>?_)) (fun _ s' hq=>Xwg (Xwg hq)) fun _ _ e=>e)
 obtain ⟨loc₂,led₂⟩:=st₂
 obtain ⟨it,gl,l,xs,ys,rfl,e,hI,hself,hN,hlen,hsz,hstep,hK⟩:=k₂
 dsimp only at e hK
 subst e
 cases V₂
 refine Xhe (RR:=fun acc C=>compPost (XwD prog w) A E (some (XxG (.Name _ px) env)) (fun _ s'=>Q .next s') acc C) hA hN hcell' hkind hv' hlen hsz hI hself hstep hJ S₂ fun D C s' Z' Xel S' X'=>?_
 have S3:=S'.drop1
 have S4:=S3.perm (l':=(env.locals,.ns loc₂)::(D,.list (ys.filterMap id))::l) (XxX ..)
 have SF:SimF B env s' Z' ⟨loc₂,(D,.list (ys.filterMap id))::l⟩:=SimL.toF (st:=⟨loc₂,(D,.list (ys.filterMap id))::l⟩) S4 S₂.kinds S₂.fn
 obtain ⟨m,hn,_⟩:=S'.own _ (Xwf ..)
 dsimp only at hn
 have hC:C∉keys ((D,.list (ys.filterMap id))::(env.locals,.ns loc₂)::l):=(Xwz.mp S'.nodup).1
 have hCZ:Z' C=none:=S'.apart _ (Xwf ..)
 have hCown : ¬ (Xk env ⟨loc₂,(D,.list (ys.filterMap id))::l⟩).at_ C:=by
  rintro (q | q)
  ·exact hC (q ▸ Xwh _ (Xwf ..))
  ·rcases Xwm.mp q with q | q
   ·exact hC (q ▸ Xwf ..)
   ·exact hC (Xwh _ (Xwh _ q))
 have Xf:Ext (Xk env st) s Z s' Z' (Xh ((C,.ns Xel)::(D,.list (ys.filterMap id))::(env.locals,.ns loc₂)::l)):=by
  have:=X₁.trans X₂
  rw [Xay (env:=env) ⟨loc₂,gl++l⟩] at this
  exact this.trans X'
 have hCs:(Xk env st).at_ C∨s.heap.get? C=none:=Xf.grow C (Xwf ..)
 have Xa:Ext (Xk env st) s Z s' Z' (Xk env ⟨loc₂,(D,.list (ys.filterMap id))::l⟩):=by
  refine (X₁.trans X₂).trans ?_
  rw [Xay,Xay]
  refine X'.less (fun a ha=>?_) fun g hg=>?_
  ·rcases Xwm.mp ha with q | ha
   ·exact q ▸ Xwh _ (Xwh _ (Xwf ..))
   ·rcases Xwm.mp ha with q | ha
    ·exact q ▸ Xwh _ (Xwf ..)
    ·exact Xwh _ (Xwh _ (Xwh _ ha))
  ·exact hg
 show XwG _ A (XxG (.Name _ px) env (.ref D)) _ _ _
 refine wpAny_assign_Name (hK D (Xwz.mp SF.nodup).1 s' Z' (.ref D) (.ref _) SF _ _ fun _ _ s₄ Z₄ st₄ k₄ S₄ _ X₄=>?_)
 obtain ⟨oc,oes,oep,hoc,hrest⟩:=id hn
 have hoc':=X₄.kept _ _ hoc hCown
 refine ⟨m,⟨oc,oes,oep,hoc',hrest⟩,fun h' hs'=>?_⟩
 have hne:∀ a,(Xk env st₄).at_ a->a≠C:=fun a ha q=>by
  subst q
  rcases X₄.grow a ha with q | q
  ·exact hCown q
  ·rw [hoc] at q;cases q
 have hZC:Z₄ C=none:=by
  cases e:Z₄ C with
  | none=>rfl
  | some o =>
   rcases X₄.zgrow C o e with q | q | q
   ·rw [hCZ] at q;cases q
   ·exact (hCown q).elim
   ·rw [hoc] at q;cases q
 have keep:∀ b o,b≠C->s₄.heap.get? b=some o->h'.get? b=some o:=fun b o hb e=>hs'.extBut b o hb e
 refine hQ _ _ _ Z₄ st₄ k₄ ⟨⟨S₄.base,fun a o e=>keep a o (fun q=>by rw [q,hZC] at e;cases e) (S₄.frozen a o e),S₄.nodup,S₄.apart,fun p hp=>(S₄.own p hp).mono (.refl _) (fun o e=>keep _ o (hne _ (.inr (XwC hp))) e) (fun _ _ _ e=>e),S₄.gnodup,S₄.bare⟩,
  S₄.locZ,S₄.locL,NsIs.mono (.refl _) (fun o e=>keep _ o (hne _ (.inl rfl)) e) S₄.loc,S₄.kinds,S₄.fn⟩ .next ?_
 have Xb:=Xa.trans X₄
 refine ⟨Xb.le,fun a o e h=>keep a o (fun q=>?_) (Xb.kept a o e h),Xb.grow,Xb.zgrow,Xb.os,Xb.gkept,Xb.ggrow⟩
 subst q
 rcases hCs with q | q
 ·exact h q
 ·rw [q] at e;cases e
end
end
section
def Xdh(b:Array UInt8):List AV:=b.toList.map fun c => .int (c.toNat:Int)
def XbX(x:Str):List AV:=x.cps.toList.map fun c => .str ⟨#[c]⟩
section
variable{prog:Xwx}{w:XwE}{A:Xww}{B:Frz}{env:Env}{N:Led}
theorem Xen{it:XwR}{fp:List XwR}{Pv:Nat->Value->Prop}{xs:List AV}{St:Nat->Heap->Prop}{i:Nat}(hself:∀ (A:Xww) (s:Xwl) (Q:Value->Xwl->Prop) E,St i s.heap->Q (.ref it) s->XwG (XwD prog w) A (pyIter (.ref it)) Q E s) :
  Xbk prog w B it [(it,itE it fp Pv xs St i)]:=fun A led s Z S Q E hq=>by
 obtain ⟨o,ho,_,_,h3⟩:=S.own _ (Xwf ..)
 exact hself A s Q E (h3 _ ho S.frozen) hq
theorem Xjd{b:Array UInt8}{x:Str}{px:Pos}{st:St}{k:Nat}{K:AV->St->Prop}
  (h:∀ it gl,(∀ B' N,IterOk prog w B' N k (.Name x px) it (Xdh b) gl)->(∀ B',Xbk prog w B' it gl)->K (.ref it) ⟨st.loc,gl++st.led⟩):F1 prog w A B env Val pyIter (.bytes b) st K:=fun s Z x V S Q E hQ=>by
 cases V with
 | bytes b t =>
  refine KBw.pyIter_bytes ?_
  have hlen:(Xdh b).length=b.size:=by unfold Xdh;simp
  have P:=S.toSimL.push (o:={ cls := .type "bytes_iterator",data := .fields #[.bytes b t,.int 0 0]})
   (ao:=itE s.heap.objs.size [s.heap.objs.size] (fun i v=>∃ c u,b[i]? = some c/\v = .int (c.toNat:Int) u) (Xdh b) (fun i h=>KBw.IsBytesIter h s.heap.objs.size b t i) 0) rfl s.toks
   ⟨_,Xwp _ rfl,fun c hc => .inl (by simpa using hc),fun i y v h1 h2=>by
    obtain ⟨c,u,hc,rfl⟩:=h2
    unfold Xdh at h1
    rw [Xw1,Xyb,hc] at h1
    simp only [XyZ,XxE] at h1
    subst h1
    exact .int _ _,fun h e1 e2=>⟨_,e1,rfl,rfl⟩⟩
  refine hQ _ _ _ Z _ (h s.heap.objs.size _ (fun B' N=>IterOk.walks (prog:=prog) (w:=w) (B:=B') (xs:=Xdh b) (fun A hA=>by rw [hlen];exact KBw.walks hA s.heap.objs.size b t) (fun A i s v Q E hst hq=>Xwg hq) (fun i h hst=>by obtain ⟨o,ho,_⟩:=hst;exact ⟨o,ho⟩) k (Xdh b).length 0 nofun) fun B'=>Xen fun A s Q E hst hq=>KBw.pyIter_self hst hq) (S.after P.1 P.2) (.ref _) P.2.toF
theorem XlV{y:Str}{x:Str}{px:Pos}{st:St}{k:Nat}{K:AV->St->Prop}
  (h:∀ it gl,(∀ B' N,IterOk prog w B' N k (.Name x px) it (XbX y) gl)->(∀ B',Xbk prog w B' it gl)->K (.ref it) ⟨st.loc,gl++st.led⟩):F1 prog w A B env Val pyIter (.str y) st K:=fun s Z x V S Q E hQ=>by
 cases V with
 | str y t =>
  have hlen:(XbX y).length=y.cps.size:=by unfold XbX;simp
  have hval:∀ {Z:Frz} (i:Nat) (z:AV) (v:Value),(XbX y)[i]? = some z->SignAt y i v->Val Z z v:=fun i z v h1 h2=>by
   obtain ⟨c,u,hc,rfl⟩:=h2
   unfold XbX at h1
   rw [Xw1,Xyb,hc] at h1
   simp only [XyZ,XxE] at h1
   subst h1
   exact .str _ _
  cases ha:y.cps.all (· < 128)
  ·refine wpAny_pyIter_wide ha ?_
   have P:=S.toSimL.push (o:={ cls := .type "str_iterator",data := .fields #[.str y t,.int 0 0]})
    (ao:=itE s.heap.objs.size [s.heap.objs.size] (SignAt y) (XbX y) (fun i h=>h.IsStrIter s.heap.objs.size "str_iterator" y t i) 0) rfl s.toks
    ⟨_,Xwp _ rfl,fun c hc => .inl (by simpa using hc),hval,fun h e1 e2=>⟨_,e1,rfl,rfl⟩⟩
   exact hQ _ _ _ Z _ (h s.heap.objs.size _ (fun B' N=>IterOk.walks (prog:=prog) (w:=w) (B:=B') (xs:=XbX y) (fun A hA=>by rw [hlen];exact Walks.strWide hA s.heap.objs.size y t) (fun A i s v Q E hst hq=>Xwg hq) (fun i h hst=>by obtain ⟨o,ho,_⟩:=hst;exact ⟨o,ho⟩) k (XbX y).length 0 nofun) fun B'=>Xen fun A s Q E hst hq=>wpAny_pyIter_striter_wide hst hq) (S.after P.1 P.2) (.ref _) P.2.toF
  ·refine wpAny_pyIter_ascii ha ?_
   have P:=S.toSimL.push (o:={ cls := .type "str_ascii_iterator",data := .fields #[.str y t,.int 0 0]})
    (ao:=itE s.heap.objs.size [s.heap.objs.size] (SignAt y) (XbX y) (fun i h=>h.IsStrIter s.heap.objs.size "str_ascii_iterator" y t i) 0) rfl s.toks
    ⟨_,Xwp _ rfl,fun c hc => .inl (by simpa using hc),hval,fun h e1 e2=>⟨_,e1,rfl,rfl⟩⟩
   exact hQ _ _ _ Z _ (h s.heap.objs.size _ (fun B' N=>IterOk.walks (prog:=prog) (w:=w) (B:=B') (xs:=XbX y) (fun A hA=>by rw [hlen];exact Walks.strAscii hA s.heap.objs.size y t) (fun A i s v Q E hst hq=>Xwg hq) (fun i h hst=>by obtain ⟨o,ho,_⟩:=hst;exact ⟨o,ho⟩) k (XbX y).length 0 nofun) fun B'=>Xen fun A s Q E hst hq=>wpAny_pyIter_striter_ascii hst hq) (S.after P.1 P.2) (.ref _) P.2.toF
theorem Xk1{a b:Int}{st:St}{k:Nat}{R:AV->St->Prop}(ha : -(2 ^ 62)<=a)(ha':a<2 ^ 62)(hb : -(2 ^ 62)<=b)(hb':b<2 ^ 62)
  (h:∀ it gl,(∀ target B' N,IterOk prog w B' N k target it (Xbw a b) gl)->(∀ B',Xbk prog w B' it gl)->R (.ref it) ⟨st.loc,gl++st.led⟩):F1 prog w A B env Val pyIter (.rng a b) st R:=fun s Z x V S Q E hQ=>by
 cases V with
 | @rng r _ _ t u v e =>
  refine wpAny_pyIter_range (S.frozen _ _ e) (small_one ha ha' hb hb') ?_
  have hlen:(Xbw a b).length=(b - a).toNat:=by unfold Xbw;rw [Xwi,List.length_range]
  have hsz:Builtin.Range.rangeSize a b 1=((b - a).toNat:Int):=by
   rw [rangeSize_one]
   split <;> omega
  rw [hsz]
  have P:=S.toSimL.push (o:={ cls := .type "range_iterator",data := .fields #[Xxw a,Xxw ((b - a).toNat:Int),Xxw 1]})
   (ao:=itE s.heap.objs.size [s.heap.objs.size] (fun i v=>∃ t,v = .int (a+i * 1) t) (Xbw a b) (fun i h=>IsRangeIter h s.heap.objs.size (a+(i:Nat) * 1) (((b - a).toNat:Int) - (i:Nat)) 1) 0) rfl s.toks
   ⟨_,Xwp _ rfl,fun c hc => .inl (by simpa using hc),fun i y v h1 h2=>by
    obtain ⟨t,rfl⟩:=h2
    unfold Xbw at h1
    rw [Xw1] at h1
    obtain ⟨j,hj,rfl⟩:=Xxv.mp h1
    have hj':j=i:=by
     obtain ⟨h1,h2⟩:=Xyw.mp hj
     rw [← h2,List.getElem_range]
    rw [hj',Int.mul_one]
    exact .int _ _,fun h e1 e2=>by
    show h.get? s.heap.objs.size=_
    rw [e1]
    simp⟩
  exact hQ _ _ _ Z _ (h s.heap.objs.size _ (fun target B' N=>IterOk.walks (prog:=prog) (w:=w) (B:=B') (target:=target) (xs:=Xbw a b) (fp:=[s.heap.objs.size]) (Pv:=fun i v=>∃ t,v = .int (a+i * 1) t) (St:=fun i h=>IsRangeIter h s.heap.objs.size (a+(i:Nat) * 1) (((b - a).toNat:Int) - (i:Nat)) 1) (fun A hA=>by rw [hlen];exact Walks.range hA s.heap.objs.size a 1 (b - a).toNat) (fun A i s v Q E hst hq=>XfF hst hq) (fun i h hst=>⟨_,hst⟩) k (Xbw a b).length 0 nofun) fun B'=>Xen fun A s Q E hst hq=>wpAny_pyIter_rangeiter hst hq) (S.after P.1 P.2) (.ref _) P.2.toF
end
end
section
def Xop(v:AV)(Z:Frz)(o:Obj):Prop:=∃ x,o.data = .cell (some x)/\Val Z v x
theorem Xoo{v:AV}(Z Z':Frz)(o:Obj)(k:Frz.le Z Z')(x:Xop v Z o):Xop v Z' o:=let ⟨y,h,V⟩:=x;⟨y,h,V.mono k⟩
abbrev XcD(v:AV):AObj := .obj (Xop v) Xoo
def XuF(Z:Frz)(o:Obj):Prop:=∃ x,o.data = .cell x
abbrev Xfe:AObj := .obj XuF (fun _ _ _ _ x=>x)
section
variable{prog:Xwx}{w:XwE}{A:Xww}{B:Frz}{env:Env}{N:Led}
theorem Xmf{x:Str}{c:XwR}{pos:Pos}{v:AV}{st:St}{K:AV->St->Prop}(hk:env.kindOf x=some .cell)(hc:env.cells.lookup x=some c)(hm:(c,XcD v)∈st.led)(hd:(x == ("__debug__" : Str))=false)(h:K v st) :
  T prog w A B env Val (Xxy (.Name x pos) env) st K:=fun s Z S Q E hQ=>by
 obtain ⟨o,ho,y,hy,V⟩:=S.own _ hm
 exact wpAny_Name (wpAny_loadName_cell S.fn hk hc ⟨o,ho,hy⟩ (hQ _ _ s Z st h S V .refl)) hd
theorem XeL{x:Str}{c:XwR}{v:AV}{e0:AObj}{loc:List (Str × AV)}{led led':Led}{K:Unit->St->Prop}(hk:env.kindOf x=some .cell)(hc:env.cells.lookup x=some c)(h0:∀ Z s,Holds Z s c e0->∃ u,s.heap.IsCell c u)(g0:e0.gnum=none)
  (U:Upd c e0 (XcD v) led led') (h:K () ⟨loc,led'⟩):F1 prog w A B env XE (XyU env x) v ⟨loc,led⟩ K:=fun s Z u V S Q E hQ=>by
 obtain ⟨u0,hu⟩:=h0 _ _ (S.own _ U.mem)
 refine wpAny_storeName_cell S.fn hk hc hu fun h' hc' hs'=>?_
 obtain ⟨o',ho',hd'⟩:=hc'
 have P:=S.toSimL.upd U (h':=h') (tk:=s.toks) (fun b ob hb e=>hs'.extBut b ob hb e) g0 rfl ⟨o',ho',u,hd',V⟩
 exact hQ () () _ Z _ h (S.after P.1 P.2) trivial P.2.toF
theorem XkK(Z:Frz)(s:Xwl)(c:XwR)(h:Holds Z s c Xfe):∃ u,s.heap.IsCell c u:=by
 obtain ⟨o,ho,x,hx⟩:=h
 exact ⟨x,o,ho,hx⟩
theorem XtB{f:XwR}{o:Obj}{fd:XyS}{body:List Stmt}{args:List AV}{kw binds:List (Str × AV)}{led:Led}{K:AV->Led->Prop}{c:XwR}{oc:Obj}{vs:Array Value}{tq:Tok}{x:Str}
  (hG:Ground0 B) (ho:B f=some o) (hd:o.data = .func fd) (hco:fd.scope.isCoroutine=false) (hgen:fd.scope.isGenerator=false) (hk:fd.scope.kind = .function) (hbody:fd.body = .stmts body)
  (hcs:∀ n,cellsFrom n fd.scope.names []=[(x,n)]) (hclo:fd.closure=[])
  (hc:fd.code = .ref c) (hoc:B c=some oc) (hocd:oc.data = .fields vs) (hq:vs[1]? = some (.str fd.qualname tq)) (hroom:A.depth<XxV)
  (hb:Binds prog w A.in1 B fd args kw binds) (hloc:∀ x∈binds.map (·.1),fd.scope.names.lookup x=some .local)
  (h:∀ L C,L∉keys led->C∉keys led->T prog w (A.deeper (XaV fd.scope L fd.globals [(x,C)] fd.qualname f fd.code fd.builtins)) B (XaV fd.scope L fd.globals [(x,C)] fd.qualname f fd.code fd.builtins) FVal
   (execs body (XaV fd.scope L fd.globals [(x,C)] fd.qualname f fd.code fd.builtins)) ⟨binds.reverse,(C,Xfe)::led⟩ fun fl st'=>match fl with
    | .ret v=>K v st'.led
    | _=>K .none st'.led) :
  TC prog w A B (.ref f) args kw led K:=fun s Z fx xs ks S hf hx hkw R hR=>by
 cases hf
 refine codeAny_call_function hroom (S.frozen _ _ (S.base _ _ ho)) hd hco hgen hbody ⟨c,oc,vs,tq,hc,S.frozen _ _ (S.base _ _ hoc),hocd,hq⟩ ?_
 refine hb s Z led xs ks S hx hkw _ _ fun bs s₁ Z₁ S₁ hbs X₁=>?_
 have hR₁:∀ v x s' Z' led',K v led'->SimL B s' Z' led'->Val Z' v x->Ext (Xh led) s₁ Z₁ s' Z' (Xh led')->R (.ok (.ret x)) s':=fun v x s' Z' led' k S' V X=>hR v x s' Z' led' k S' V (X₁.trans X)
 clear hR X₁
 revert s₁ Z₁
 intro s Z S hbs hR
 have hlocs:∀ x∈bs,fd.scope.names.lookup x.1=some .local:=fun x hx=>hloc x.1 (by rw [← hbs.keys];exact XwC hx)
 rw [hclo]
 refine wpAny_newFunctionEnv_cells hk (fun y hy => .inl (hlocs y hy)) fun env' he s' hin=>?_
 rw [hcs] at he
 have hin':=hin
 rw [he] at hin
 obtain ⟨⟨⟨h₁,tk₁,rfl⟩,hns,keep,hfr⟩,hcell,hap,hab⟩:=hin
 dsimp only [newEnv] at hns keep hcell hap hab hfr
 have hfresh:s.heap.get? s.heap.objs.size=none:=XbH s
 have hfresh1:s.heap.get? (s.heap.objs.size+1)=none:=Heap.get?_none_of_le (Nat.le_succ _)
 have hL:s.heap.objs.size∉keys led:=S.lfresh
 have hC:s.heap.objs.size+1∉keys led:=fun q=>by
  obtain ⟨p,hp,e⟩:=XwJ.mp q
  obtain ⟨ob,g⟩:=(S.own p hp).live
  rw [e,hfresh1] at g;cases g
 have hZ:Z s.heap.objs.size=none:=S.zfresh
 have hZ1:Z (s.heap.objs.size+1)=none:=by
  cases e:Z (s.heap.objs.size+1) with
  | none=>rfl
  | some o=>rw [S.frozen _ _ e] at hfresh1;cases hfresh1
 have hbl:bindL (Env.kindOf (newEnv fd.scope s.heap.objs.size fd.globals [(x,s.heap.objs.size+1)] fd.qualname (some f) fd.code none fd.builtins)) bs (fun _=>none)=fun y=>bs.reverse.lookup y:=by
  have gen:∀ (l:List (Str × Value)) (m:Str->Option Value),(∀ p∈l,fd.scope.names.lookup p.1=some .local) ->
    bindL (Env.kindOf (newEnv fd.scope s.heap.objs.size fd.globals [(x,s.heap.objs.size+1)] fd.qualname (some f) fd.code none fd.builtins)) l m=fun y=>(l.reverse.lookup y).or (m y):=by
   intro l
   induction l with
   | nil=>intro m _;funext y;simp [bindL]
   | cons p l ih =>
    intro m hm
    obtain ⟨n,v⟩:=p
    have hn:Env.kindOf (newEnv fd.scope s.heap.objs.size fd.globals [(x,s.heap.objs.size+1)] fd.qualname (some f) fd.code none fd.builtins) n=some .local:=hm (n,v) (Xwf ..)
    rw [bindL,if_pos hn,ih _ fun q hq=>hm q (Xwh _ hq)]
    funext y
    rw [XwL]
    have la:∀ (l1 l2:List (Str × Value)),(l1++l2).lookup y=(l1.lookup y).or (l2.lookup y):=by
     intro l1
     induction l1 with
     | nil=>intro l2;simp
     | cons q l1 ih1 =>
      intro l2
      rw [Xws,XwB,XwB]
      cases y == q.1 with
      | true=>rfl
      | false=>exact ih1 l2
    rw [la]
    by_cases e:y=n
    ·subst e
     simp [XwB]
    ·have:(y == n)=false:=beq_eq_false_iff_ne.mpr e
     simp [XwB,this,e]
  rw [gen bs _ hlocs]
  funext y
  simp
 have hns:h₁.Ns s.heap.objs.size (fun y=>bs.reverse.lookup y):=by rw [← hbl];exact hns
 obtain ⟨ocl,hocl,hocld⟩:=hcell x (s.heap.objs.size+1) (by rw [XwB,beq_self_eq_true])
 subst he
 refine ⟨hG.lim _ fun a o e=>keep a o (S.frozen a o (S.base a o e)),?_⟩
 show codeAny _ A (.func body (XaV fd.scope s.heap.objs.size fd.globals [(x,s.heap.objs.size+1)] fd.qualname f fd.code fd.builtins)) R _
 refine codeAny_func ?_
 have SF:SimF B (XaV fd.scope s.heap.objs.size fd.globals [(x,s.heap.objs.size+1)] fd.qualname f fd.code fd.builtins) {s with heap:=h₁,toks:=tk₁} Z ⟨binds.reverse,(s.heap.objs.size+1,Xfe)::led⟩:=by
  refine ⟨⟨S.base,fun a o e=>keep a o (S.frozen a o e),Xwz.mpr ⟨hC,S.nodup⟩,fun p hp=>?_,fun p hp=>?_,S.gnodup,S.bare⟩,hZ,fun q=>?_,⟨_,hns,fun y=>hbs.reverse.lookup y⟩,fun y v e=>?_,hk⟩
  ·rcases Xwm.mp hp with rfl | hp
   ·exact hZ1
   ·exact S.apart p hp
  ·rcases Xwm.mp hp with rfl | hp
   ·exact ⟨ocl,hocl,_,hocld⟩
   ·exact (S.own p hp).mono (.refl _) (fun o e=>keep _ o e) (fun _ _ _ e=>e)
  ·rcases Xwm.mp q with q | q
   ·exact absurd q (Xxu (Xym _))
   ·exact hL q
  ·have hm:y∈binds.map (·.1):=by
    have:∀ (l:List (Str × AV)),l.lookup y=some v->y∈l.map (·.1):=fun l=>by
     induction l with
     | nil=>intro e;cases e
     | cons p l ih =>
      intro e
      rw [XwB] at e
      cases q:(y == p.1) with
      | true=>rw [beq_iff_eq.mp q];simp
      | false=>rw [q] at e;exact Xwh _ (ih e)
    have:=this _ e
    simpa using this
   exact hloc y hm
 refine h s.heap.objs.size (s.heap.objs.size+1) hL hC _ Z SF _ _ fun fl x' s' Z' st' k S' V X=>?_
 have X':Ext (Xh led) s Z s' Z' (Xh st'.led):=by
  refine ⟨X.le,fun a o e ha=>X.kept a o (keep a o e) fun q=>?_,fun a ha=>?_,fun a o e=>?_,X.os,X.gkept,X.ggrow⟩
  ·rcases q with q | q
   ·rw [q] at e
    rw [show (XaV fd.scope s.heap.objs.size fd.globals [(x,s.heap.objs.size+1)] fd.qualname f fd.code fd.builtins).locals=s.heap.objs.size from rfl,hfresh] at e;cases e
   ·rcases Xwm.mp q with q | q
    ·rw [show a=s.heap.objs.size+1 from q,hfresh1] at e;cases e
    ·exact ha q
  ·rcases X.grow a (.inr ha) with q | q
   ·rcases q with q | q
    ·exact .inr (q ▸ hfresh)
    ·rcases Xwm.mp q with q | q
     ·exact .inr ((show a=s.heap.objs.size+1 from q) ▸ hfresh1)
     ·exact .inl q
   ·right
    cases e:s.heap.get? a with
    | none=>rfl
    | some o=>rw [show h₁.get? a=some o from keep a o e] at q;cases q
  ·rcases X.zgrow a o e with q | q | q
   ·exact .inl q
   ·rcases q with q | q
    ·exact .inr (.inr (q ▸ hfresh))
    ·rcases Xwm.mp q with q | q
     ·exact .inr (.inr ((show a=s.heap.objs.size+1 from q) ▸ hfresh1))
     ·exact .inr (.inl q)
   ·refine .inr (.inr ?_)
    cases e':s.heap.get? a with
    | none=>rfl
    | some o=>rw [show h₁.get? a=some o from keep a o e'] at q;cases q
 cases V with
 | next=>exact hR _ _ s' Z' st'.led k S'.toSimL .none X'
 | brk=>exact hR _ _ s' Z' st'.led k S'.toSimL .none X'
 | cont=>exact hR _ _ s' Z' st'.led k S'.toSimL .none X'
 | ret hv=>exact hR _ _ s' Z' st'.led k S'.toSimL hv X'
end
end
section
open PySem PySem.W PySem.SeqAt
section
variable{prog:Xwx}{w:XwE}{A:Xww}{B:Frz}{env:Env}{N:Led}
theorem Xd7{a:Int}{st:St}{K:AV->St->Prop}(h:K (.int a.natAbs) st):FC prog w A B env (.blt "abs") [.int a] [] st K:=fun s Z fx xs ks hf hx hk S Q E hQ=>by
 cases hf
 cases hk
 cases hx with
 | cons h1 hx =>
  cases hx
  cases h1
  refine PyProof.Rows.call_abs_int fun u tk=>?_
  have e:(if a<0 then -a else a)=(a.natAbs:Int):=by split <;> omega
  rw [e]
  exact hQ _ _ _ Z st h (S.toks _) (.int _ _) (.toks _)
theorem Xp1{n:Nat}{st:St}{K:AV->St->Prop}(hn:n<=0x10FFFF)(h:K (.str ⟨#[n]⟩) st):FC prog w A B env (.blt "chr") [.int n] [] st K:=fun s Z fx xs ks hf hx hk S Q E hQ=>by
 cases hf
 cases hk
 cases hx with
 | cons h1 hx =>
  cases hx
  cases h1
  refine P.chr_of_int (by simp only [Bool.or_eq_false_iff,decide_eq_false_iff_not];omega) ?_
  exact hQ _ _ _ Z st h (S.toks _) (.str _ _) (.toks _)
theorem XkV{c:Nat}{st:St}{K:AV->St->Prop}(h:K (.int c) st):FC prog w A B env (.blt "ord") [.str ⟨#[c]⟩] [] st K:=fun s Z fx xs ks hf hx hk S Q E hQ=>by
 cases hf
 cases hk
 cases hx with
 | cons h1 hx =>
  cases hx
  cases h1
  exact P.ord_of_char (hQ _ _ _ Z st h (S.toks _) (.int _ _) (.toks _))
theorem XoF{a n:Int}{st:St}{K:AV->St->Prop}(hn:0<=n)(hn2:n<=1000000)(ha:a.natAbs<2 ^ 64)(h:K (.int (a ^ n.toNat)) st):F2 prog w A B env Val (binaryOp .Pow) (.int a) (.int n) st K:=fun s Z x₁ x₂ V₁ V₂ S Q E hQ=>by
 cases V₁;cases V₂;exact PyProof.Rows.pow_int_small hn hn2 ha (hQ _ _ _ Z st h (S.toks _) (.int _ _) (.toks _))
theorem Xim{Z:Frz}:∀ {ns:List Int} {vs:List Value},Vals Z (ns.map .int) vs->PyProof.Rows.IntsAre vs ns
 | [],_,h=>by cases h;exact .nil
 | n::ns,_,h=>by
  cases h with
  | cons h1 h2=>cases h1;exact .cons _ _ (Xim h2)
theorem XkY{v:AV}{ns:List Int}{st:St}{K:AV->St->Prop}(hA:A.handled=none)(hl:ListAt st.led v (ns.map .int))(hr:∀ n∈ns,0<=n/\n<256)(hz:ns.length<=XwZ)(h:K (.bytes (byteArr ns)) st) :
  FC prog w A B env (.typ "bytes") [v] [] st K:=fun s Z fx xs ks hf hx hk S Q E hQ=>by
 cases hf
 cases hk
 cases hx with
 | cons h1 hx =>
  cases hx
  obtain ⟨a,items,n,rfl,hget,hv⟩:=hl.get h1 S.toSimL
  refine call_bytes_ints (l:=a) (vs:=items.toList) (ns:=ns) ⟨_,hget,rfl,n,rfl⟩ (Xim hv) hr (by rw [hv.length,Xwi];exact hz) hA fun h' t k hk=>?_
  have P:=S.toSimL.grow (h':=h') (tk:=k) hk
  exact hQ _ _ _ Z st h (S.after P.1 P.2) (.bytes _ _) P.2.toF
theorem Xil{Z:Frz}:∀ {ns:List Str} {vs:List Value},Vals Z (ns.map .str) vs->∃ l:List (Str × Tok),strValues l=vs/\l.map (·.1)=ns
 | [],_,h=>by cases h;exact ⟨[],rfl,rfl⟩
 | n::ns,_,h=>by
  cases h with
  | cons h1 h2 =>
   cases h1
   obtain ⟨l,e1,e2⟩:=Xil h2
   rename_i t
   exact ⟨(n,t)::l,by rw [← e1];rfl,by rw [← e2];rfl⟩
theorem XtL{x:Str}{v:AV}{ts:List Str}{st:St}{K:AV->St->Prop}(hl:ListAt st.led v (ts.map .str))(hok:JoinOk x ts=true)(h:K (.str (Txt.join x ts)) st) :
  FC prog w A B env (.blt "str.join") [.str x,v] [] st K:=fun s Z fx xs ks hf hx hk S Q E hQ=>by
 cases hf
 cases hk
 cases hx with
 | cons h1 hx =>
  cases hx with
  | cons h2 hx =>
   cases hx
   cases h1
   obtain ⟨a,items,n,rfl,hget,hv⟩:=hl.get h2 S.toSimL
   obtain ⟨l,e1,e2⟩:=Xil hv
   refine SC.join (D:=a) (l:=l) (texts:=ts) ⟨_,hget,rfl,n,by rw [e1]⟩ e2 hok fun t' k=>?_
   exact hQ _ _ _ Z st h (S.toks _) (.str _ _) (.toks _)
theorem Vals.rep{Z:Frz}{xs:List AV}{vs:List Value}(h:Vals Z xs vs):∀ k,Vals Z (Xyi k xs).flatten (Xyi k vs).flatten
 | 0 => .nil
 | k+1=>by
  rw [List.replicate_succ,List.flatten_cons,List.replicate_succ,List.flatten_cons]
  exact h.append (Vals.rep h k)
theorem XlR{v:AV}{xs:List AV}{x:Int}{st:St}{K:AV->St->Prop}(hl:ListAt st.led v xs)(h0:0<=x)(h1:x<2 ^ 20)(hsz:xs.length * x.toNat<=2 ^ 24)
  (h:∀ a,a∉keys st.led->K (.ref a) ⟨st.loc,(a,.list (Xyi x.toNat xs).flatten)::st.led⟩):F2 prog w A B env Val (binaryOp .Mult) v (.int x) st K:=fun s Z x₁ x₂ V₁ V₂ S Q E hQ=>by
 cases V₂
 obtain ⟨a,items,n,rfl,hget,hv⟩:=hl.get V₁ S.toSimL
 rename_i u
 have hlen:items.size=xs.length:=by simpa using hv.length
 refine wpAny_binaryOp_repeat_ref (T := "list") (U := "int") (by decide) ⟨_,hget,rfl⟩ (fun s'=>typeIs_int s' x u) noFill_list_mul F.fills_int_mul F.slot_int_rmul repeat_list F.slot_int_index.lookup
  (call_meets F.slot_int_rmul (typeIs_int s x u) F.entry_int_rmul (F.args_int_rmul_2 _ _) (lm_int_rmul_list_any x u a items n none #[])
   ⟨hget,rfl,⟨_,hget,rfl⟩,call_meets F.slot_list_mul ⟨_,hget,rfl⟩ F.entry_list_mul (F.args_list_mul_2 _ _)
    (lm_list_mul_any a items n none #[] x u (by simp [Builtin.List.listFitsIndex];omega) (by rw [hlen];omega) (by rw [hlen];simp [Builtin.List.listTooLong,XwZ];omega))
    ⟨hget,?_⟩⟩)
 have P:=S.toSimL.push (o:={ cls := .type "list",data := .seq (List.foldl (fun x1 x2=>x1++x2) #[] (Xyi (if items.isEmpty=true then 0 else x.toNat) items))}) (ao := .list (Xyi x.toNat xs).flatten) rfl s.toks
  ⟨_,_,Xwp _ rfl,by rw [PyProof.Rows.listMul_foldl_if];exact hv.rep _⟩
 exact hQ _ _ _ _ _ (h _ S.toSimL.lfresh) (S.after P.1 P.2) (.ref _) P.2.toF
theorem Xfn{a:XwR}{v:AV}{xs ys:List AV}{st:St}{led':Led}{K:AV->St->Prop}(hl:ListAt st.led v ys)(hsz:xs.length+ys.length<=2 ^ 20)(U:Upd a (.list xs) (.list (xs++ys)) st.led led')(h:K .none ⟨st.loc,led'⟩) :
  FC prog w A B env (.blt "list.extend") [.ref a,v] [] st K:=fun s Z fx zs ks hf hx hk S Q E hQ=>by
 cases hf
 cases hk
 cases hx with
 | cons h1 hx =>
  cases hx with
  | cons h2 hx =>
   cases hx
   cases h1
   obtain ⟨b,items2,n2,rfl,hget2,hv2⟩:=hl.get h2 S.toSimL
   obtain ⟨items,n,g,vs⟩:=S.own _ U.mem
   dsimp only at g
   have hlen:items.size=xs.length:=by simpa using vs.length
   have hlen2:items2.size=ys.length:=by simpa using hv2.length
   have hs:(2:Nat) ^ 20<=XwZ:=by decide
   refine call_meets F.slot_list_extend (⟨_,g,rfl⟩) F.entry_list_extend (F.args_list_extend_2 _ _) (PySem.AutoSeq1.list_extend_list_list_0 a items n b items2 n2 (by simp [Builtin.List.listTooLong,hlen,hlen2];intro _;omega) nofun nofun) ⟨g,hget2,?_⟩
   have hg':∃ n',(s.heap.update a (Xw6 fun x=>x++items2)).get? a=some {cls := .type "list",data := .seq (items++items2) n' }:=⟨_,XwW (Xw6 fun x=>x++items2) g rfl⟩
   obtain ⟨n',hg'⟩:=hg'
   have P:=S.toSimL.upd U (h':=s.heap.update a (Xw6 fun x=>x++items2)) (tk:=s.toks) (fun b ob hb e=>(XwT ..).extBut b ob hb e) rfl rfl ⟨_,n',hg',by simpa using vs.append hv2⟩
   exact hQ _ _ _ Z _ h (S.after P.1 P.2) .none P.2.toF
def Xk5{β:Type}[DecidableEq β](f:β->AV):Prop:=∀ (Z:Frz) (x y:β) (u v:Value),Val Z (f x) u->Val Z (f y) v->∀ (A:Xww) (s:Xwl),EqAt A s u v (decide (x=y))
theorem Xr4:Xk5 AV.int:=fun Z x y u v h1 h2 A s=>by
 cases h1
 cases h2
 rename_i t t'
 have:=EqAt.int_int (A:=A) (s:=s) x t y t'
 rwa [show (x == y)=decide (x=y) from by rw [XyB,beq_iff_eq,decide_eq_true_eq]] at this
theorem Xc8:Xk5 AV.bytes:=fun Z x y u v h1 h2 A s=>by
 cases h1
 cases h2
 rename_i t t'
 have e:(x.toList == y.toList)=decide (x=y):=by rw [XyB,beq_iff_eq,decide_eq_true_eq];exact Array.toList_inj
 intro prog w E Q h
 unfold eqBool
 refine Xwt ?_
 refine wpAny_ite_split (fun hab=>?_) (fun _=>?_)
 ·have:x=y:=by have:=eq_of_beq hab;injection this
  rw [decide_eq_true this] at h
  exact Xwe (XxC (Xwg h))
 ·exact Xwe (PySem.W.eq_bytes (by rw [e];exact wpAny_truthy_bool h))
theorem Xff{β:Type}[DecidableEq β](as bs:List β)(h:as.length=bs.length):(List.range as.length).all (fun j=>decide (as[j]? = bs[j]?))=decide (as=bs):=by
 rw [XyB,XwU,decide_eq_true_eq]
 constructor
 ·intro h1
  refine List.ext_getElem? fun j=>?_
  by_cases q:j<as.length
  ·simpa using h1 j (List.mem_range.mpr q)
  ·rw [XxR nofun,XxR nofun]
 ·rintro rfl j _
  simp
theorem ListAt.isList{led:Led}{v:AV}{xs:List AV}(h:ListAt led v xs){s:Xwl}{Z:Frz}{x:Value}(V:Val Z v x)(S:SimL B s Z led):∃ a items,x = .ref a/\s.heap.IsList a items/\Vals Z xs items.toList:=by
 obtain ⟨a,items,n,rfl,hget,hv⟩:=h.get V S
 exact ⟨a,items,rfl,⟨_,hget,rfl,n,rfl⟩,hv⟩
theorem Xhb{β:Type}[DecidableEq β]{f:β->AV}(hf:Xk5 f){as bs:List β}{Z:Frz}{items items2:Array Value}(h1:Vals Z (as.map f) items.toList)(h2:Vals Z (bs.map f) items2.toList)(hsz:as.length=bs.length)(A:Xww)(s:Xwl) :
  ∀ j (q1:j<items.size) (q2:j<items2.size),EqAt A s items[j] items2[j] (decide (as[j]? = bs[j]?)):=fun j q1 q2=>by
 have l1:items.size=as.length:=by simpa using h1.length
 have l2:items2.size=bs.length:=by simpa using h2.length
 obtain ⟨u,e1,V1⟩:=h1.get (i:=j) (x:=f (as[j]'nofun)) (by rw [Xw1,XwI nofun];rfl)
 obtain ⟨v,e2,V2⟩:=h2.get (i:=j) (x:=f (bs[j]'nofun)) (by rw [Xw1,XwI nofun];rfl)
 have g1:items[j]=u:=by rw [Xyb,XxK q1] at e1;exact Xx9 e1
 have g2:items2[j]=v:=by rw [Xyb,XxK q2] at e2;exact Xx9 e2
 rw [g1,g2]
 have:=hf Z _ _ u v V1 V2 A s
 rwa [show decide (as[j]'nofun=bs[j]'nofun)=decide (as[j]? = bs[j]?) from by
  rw [XwI (show j<as.length by omega),XwI (show j<bs.length by omega),XyB,decide_eq_true_eq,decide_eq_true_eq,XxE]] at this
theorem Xhq{β:Type}[DecidableEq β]{f:β->AV}(hf:Xk5 f){v u:AV}{as bs:List β}{st:St}{K:AV->St->Prop}(hA:Room A 1)(hl:ListAt st.led v (as.map f))(hr:ListAt st.led u (bs.map f))(h:K (.bool (decide (as=bs))) st) :
  F2 prog w A B env Val (Xyo .Eq) v u st K:=fun s Z x₁ x₂ V₁ V₂ S Q E hQ=>by
 obtain ⟨a,items,rfl,hi,hv⟩:=hl.isList V₁ S.toSimL
 obtain ⟨b,items2,rfl,hi2,hv2⟩:=hr.isList V₂ S.toSimL
 have l1:items.size=as.length:=by simpa using hv.length
 have l2:items2.size=bs.length:=by simpa using hv2.length
 by_cases hsz:as.length=bs.length
 ·refine PySem.SeqAt.eq_listAt (e:=fun j=>decide (as[j]? = bs[j]?)) hi hi2 nofun hA.ult (Xhb hf hv hv2 hsz _ _) ?_
  rw [l1,Xff as bs hsz]
  exact hQ _ _ s Z st h S (.bool _) .refl
 ·refine PySem.SeqAt.eq_list_lengthsAt hi hi2 (by simp;omega) hA.ult ?_
  rw [decide_eq_false (fun e=>hsz (by rw [e]))] at h
  exact hQ _ _ s Z st h S (.bool _) .refl
theorem XeB{β:Type}[DecidableEq β]{f:β->AV}(hf:Xk5 f){v u:AV}{as bs:List β}{st:St}{K:AV->St->Prop}(hA:Room A 1)(hl:ListAt st.led v (as.map f))(hr:ListAt st.led u (bs.map f))(h:K (.bool (!decide (as=bs))) st) :
  F2 prog w A B env Val (Xyo .NotEq) v u st K:=fun s Z x₁ x₂ V₁ V₂ S Q E hQ=>by
 obtain ⟨a,items,rfl,hi,hv⟩:=hl.isList V₁ S.toSimL
 obtain ⟨b,items2,rfl,hi2,hv2⟩:=hr.isList V₂ S.toSimL
 have l1:items.size=as.length:=by simpa using hv.length
 have l2:items2.size=bs.length:=by simpa using hv2.length
 by_cases hsz:as.length=bs.length
 ·refine RcNeAt.lists (e:=fun j=>decide (as[j]? = bs[j]?)) hi hi2 nofun hA.ult (Xhb hf hv hv2 hsz _ _) prog w E _ ?_
  rw [l1,Xff as bs hsz]
  exact hQ _ _ s Z st h S (.bool _) .refl
 ·refine RcNeAt.lists_lengths hi hi2 (by simp;omega) hA.ult prog w E _ ?_
  rw [decide_eq_false (fun e=>hsz (by rw [e]))] at h
  exact hQ _ _ s Z st h S (.bool _) .refl
theorem XoG{a b:Bool}{st:St}{K:AV->St->Prop}(h:K (.bool (!(a == b))) st):F2 prog w A B env Val (Xyo .NotEq) (.bool a) (.bool b) st K:=fun s Z x₁ x₂ V₁ V₂ S Q E hQ=>by
 cases V₁;cases V₂;exact RcNeAt.bool_bool a b prog w E _ (hQ _ _ s Z st h S (.bool _) .refl)
theorem XiE{E:Value->Xwl->Prop}{it t:XwR}{items:Array Value}(hne:t≠it):∀ (n i:Nat) (s:Xwl) (Q:List Value->Xwl->Prop),s.heap.IsListIter it t i->s.heap.IsList t items->i+n<=items.size ->
  (∀ h',h'.IsListIter it t (i+n)->XwO it s.heap h'->Q ((items.toList.drop i).take n) {s with heap:=h' })->XwG (XwD prog w) A (draw (.ref it) n) Q E s
 | 0,i,s,Q,hit,_,_,hQ=>by
  show XwG _ _ (XxW []) Q E s
  exact Xwg (by simpa using hQ s.heap hit (Heap.SameBut.refl ..))
 | n+1,i,s,Q,hit,ht,hle,hQ=>by
  have hlt:i<items.size:=by omega
  show XwG _ _ (Xyc (.ref it) >>= _) Q E s
  refine Xwe (wpAny_pyNext_list_item hit ht (x:=items[i]) (by simp [hlt]) fun h₁ hit₁ hs₁=>?_)
  refine Xwe (Xwt (XiE hne n (i+1) _ _ hit₁ (ht.extBut hs₁.extBut hne) nofun fun h₂ hit₂ hs₂=>Xwg ?_))
  have hd:items.toList.drop i=items[i]::items.toList.drop (i+1):=by simp [XxJ,hlt]
  have:=hQ h₂ (by rw [show i+(n+1)=i+1+n by omega];exact hit₂) (hs₁.trans hs₂)
  rw [hd,List.take_succ_cons] at this
  exact this
theorem XfZ{E:Value->Xwl->Prop}{s:Xwl}{t:XwR}{items:Array Value}{Q:List Value->Xwl->Prop}(hh:A.handled=none)(ht:s.heap.IsList t items)
  (hQ:∀ h',Heap.ExtBut s.heap.objs.size s.heap h'->Q items.toList {s with heap:=h' }):XwG (XwD prog w) A (unpackItems (.ref t) items.size none) Q E s:=by
 have hlt:t≠s.heap.objs.size:=by obtain ⟨o,ho,_⟩:=ht;exact Xxu (Xw7 ho)
 unfold unpackItems
 refine Xwe ?_
 ·unfold notIterableAtAll
  refine Xwe (XyT ht.typeIs slot_list_iter.lookup ?_)
  refine Xwg ?_
  simp only [XwX,if_false]
  refine Xwe (Xwt (wpAny_pyIter_list ht ?_))
  refine Xwe (Xwt (XiE hlt items.size 0 _ _ ⟨_,Xwp _ rfl,rfl,rfl⟩ (ht.push _) nofun fun h₁ hit₁ hs₁=>?_))
  have hall:List.take items.size (List.drop 0 items.toList)=items.toList:=by
   rw [List.drop_zero];exact List.take_of_length_le (by simp)
  rw [hall]
  rw [if_neg (by simp)]
  have ht₁:h₁.IsList t items:=(ht.push _).extBut hs₁.extBut hlt
  refine Xwe (Xwt (wpAny_pyNext_list_end hh hit₁ ht₁ (by simp) fun h₂ he₂=>?_))
  simp only [Option.isSome_none,XwX,if_false]
  refine Xwg (hQ h₂ fun b o hb e=>he₂ b o hb (hs₁.extBut b o hb (Xwq _ e)))
theorem Xik{elts:List Expr}{x1:Nat}{pos:Pos}{v:AV}{vs:List AV}{st:St}{K:Unit->St->Prop}(hh:A.handled=none)(hl:ListAt st.led v vs)(hn:(XxP elts env).length=vs.length)(hstar:(XxP elts env).findIdx? (·.1)=none)
  (h:FA prog w A B env ((XxP elts env).map (·.2)) vs st K):F1 prog w A B env XE (XxG (.Tuple elts x1 pos) env) v st K:=fun s Z u V S Q E hQ=>by
 obtain ⟨a,items,rfl,hi,hv⟩:=hl.isList V S.toSimL
 have l1:items.size=vs.length:=by simpa using hv.length
 rw [arm_assign_Tuple]
 refine Xwe (XwQ ?_)
 unfold unpack
 rw [hn,hstar,← l1]
 refine Xwe (Xwt (XfZ hh hi fun h' he=>?_))
 obtain ⟨S',X'⟩:=S.ext1 he
 exact h _ Z _ hv S' Q E fun v x s'' Z'' st'' k' S'' V' X''=>hQ v x s'' Z'' st'' k' S'' V' (X'.trans X'')
end
end
section
def Xcp:Nat->Nat->List Nat
 | 0,_=>[]
 | f+1,x=>if x=0 then [] else x % 256::Xcp f (x / 256)
def XcT(x:Nat):Array UInt8:=byteArr ((Xcp 4 x).map fun n:Nat=>(n:Int))
theorem Xl1:∀ f x,∀ n∈Xcp f x,n<256
 | 0,_,n,h=>by cases h
 | f+1,x,n,h=>by
  unfold Xcp at h
  split at h
  ·cases h
  ·rcases Xwm.mp h with rfl | h
   ·exact Nat.mod_lt _ nofun
   ·exact Xl1 f _ n h
theorem Xf8:∀ f x,(Xcp f x).length<=f
 | 0,_=>XwN _
 | f+1,x=>by
  unfold Xcp
  split
  ·exact XwA _
  ·have:=Xf8 f (x / 256)
   rw [Xwn];omega
theorem XeU(x:Nat):(XcT x).size<=4:=by
 unfold XcT
 rw [byteArr_size,Xwi]
 exact Xf8 4 x
section
variable{prog:Xwx}{w:XwE}{A:Xww}{B:Frz}{env:Env}
theorem Xbl{a b:Nat}{st:St}{K:AV->St->Prop}(hb:b≠0)(h:K (.int (a % b:Nat)) st):F2 prog w A B env Val (binaryOp .Mod) (.int a) (.int b) st K :=
 XoH nofun (by rw [Int.fmod_eq_emod_of_nonneg _ nofun,← Int.natCast_emod];exact h)
theorem Xa8{a b:Nat}{st:St}{K:AV->St->Prop}(hb:b≠0)(hs:b<1073741824)(h:K (.int (a / b:Nat)) st):F2 prog w A B env Val (binaryOp .FloorDiv) (.int a) (.int b) st K :=
 XdI nofun nofun (by rw [Int.fdiv_eq_ediv_of_nonneg _ nofun,← Int.natCast_ediv];exact h)
end
theorem Xg0{w:XwE}{A:Xww}{x:Nat}{led:Led}(hA:Room A 20):TC P04 w A (B04 w) (.ref 298) [.int x] [] led fun v led'=>led'=led/\v = .bytes (XcT x):=by
 refine TC.weak (XaO (binds:=[(XzK,.int x)]) (g04 w) (Xve _) hA.lt (Binds.peek fun Z xs ks hx hk=>?_) @_ fun L hL=>?_)
 ·cases hk
  obtain _ | ⟨h1,hx⟩:=hx
  cases hx
  exact ⟨_,@_,.cons h1 .nil⟩
 ·have hA':=hA.deeper (k:=17) (env:=Xa0 (XW (XhS w.params)) L 298 297)
  simp only [XwL,XwV,Xwv,Xws]
  refine T.spare XAx @_ ?_
  simp only [Xws,Xwv]
  refine XI ?_
  repeat' got_up
  intro o ho
  repeat' got_up
  refine T.mono (K:=fun f st'=>f=AFlow.next/\∃ v,st'=⟨[(XzK,v),(XAx,.ref o)],(o,.list (((Xcp 4 x).map fun n:Nat=>(n:Int)).map .int))::led⟩) ?_ ?_
  ·refine Xcv (J:=fun n st'=>∃ (acc:List Nat) (x':Nat),n=x'/\acc.length<=4/\acc++Xcp (4 - acc.length) x'=Xcp 4 x/\st'=⟨[(XzK,.int x'),(XAx,.ref o)],(o,.list ((acc.map fun n:Nat=>(n:Int)).map .int))::led⟩) ?_ (n:=x) ⟨[],x,rfl,by simp,by simp,rfl⟩
   rintro n st' ⟨acc,x',rfl,hl,hacc,rfl⟩
   repeat' got_up
   ·refine XaY (xs:=(acc.map fun n:Nat=>(n:Int)).map .int) (ListAt.own (Xwf ..)) (by simp only [Xwi];omega) ?_
    repeat' got_up
    ·refine Xbl (a:=n) (b:=256) nofun ?_
     repeat' got_up
     refine Xfo (xs:=(acc.map fun n:Nat=>(n:Int)).map .int) (by simp only [Xwi];exact Xw4 hl (by decide)) (by walk_at "upd") ?_
     repeat' got_up
     refine Xa8 (a:=n) (b:=256) nofun nofun ?_
     repeat' got_up
     simp only [decide_eq_true_eq,Xwi] at *
     have hlt:acc.length<4:=by omega
     refine ⟨n / 256,Nat.div_lt_self nofun nofun,acc++[n % 256],n / 256,rfl,by simp only [Xwo,Xya];omega,?_,by simp only [XwH,Xwr,XyC]⟩
     rw [← hacc,XwK]
     congr 1
     rw [Xwo,Xya]
     obtain ⟨m,hm⟩:∃ m,4 - acc.length=m+1:=⟨4 - acc.length - 1,by omega⟩
     rw [hm,show 4 - (acc.length+1)=m from by omega,Xcp,if_neg nofun]
     rfl
    ·simp only [decide_eq_false_iff_not,Xwi] at *
     have h4:acc.length=4:=by omega
     rw [h4,show 4 - 4=0 from rfl,Xcp,Xxk] at hacc
     rw [hacc]
     exact ⟨trivial,_,rfl⟩
   ·simp only [decide_eq_false_iff_not] at *
    have h0:n=0:=by omega
    subst h0
    have:Xcp (4 - acc.length) 0=[]:=by
     cases 4 - acc.length with
     | zero=>rfl
     | succ m=>rw [Xcp,if_pos rfl]
    rw [this,Xxk] at hacc
    rw [hacc]
    exact ⟨trivial,_,rfl⟩
  ·rintro f st' ⟨rfl,v,rfl⟩
   dsimp only
   repeat' got_up
   refine XkY hA'.h (ListAt.own (Xwf ..)) (fun n hn=>?_) (by rw [Xwi];exact Xw4 (Xf8 4 x) (by decide)) ?_
   ·obtain ⟨m,hm,rfl⟩:=XwJ.mp hn
    have:=Xl1 4 x m hm
    omega
   ·exact ⟨_,.drop,rfl,rfl⟩
end
section
def XbW(c:Nat):Nat:=if c<128 then c else 1383 - c
def XU(b:Array UInt8):Str:=⟨b.map fun c=>XbW c.toNat⟩
theorem Xkp:∀ cs:List Nat,Str.join ⟨#[]⟩ (cs.map fun c=>(⟨#[c]⟩:Str))=⟨cs.toArray⟩
 | []=>rfl
 | [c]=>rfl
 | c::d::cs=>by
  have ih:=Xkp (d::cs)
  rw [Xwr,Xwr,Str.join,← Xwr (f:=fun c=>(⟨#[c]⟩:Str)),ih]
  case x_2=>exact fun h=>nomatch h
  show Str.mk (_++_)=_
  congr 1
  simp [Array.append]
  rfl
theorem Xbe{α β γ:Type}(f:α->β)(h:α->γ):∀ (g:List α),(g.map f).zip (g.map h)=g.map fun o=>(f o,h o)
 | []=>rfl
 | _::g=>by rw [Xwr,Xwr,Xyr,Xbe f h g,Xwr]
theorem Xo0:Slot "str" ⟨⟨[106,111,105,110]⟩⟩ "str.join" := by
 rw [show (⟨⟨[106,111,105,110]⟩⟩:Str)=Xwk "join" from by decide +kernel]
 exact F.slot_str_join
theorem Xqs(b:Array UInt8):((b.toList.map fun c=>(some (AV.str ⟨#[XbW c.toNat]⟩):Option AV)).filterMap id)=(((b.toList.map fun c=>XbW c.toNat).map fun c=>(⟨#[c]⟩:Str)).map .str):=by
 simp [XyR]
theorem XbZ{w:XwE}{A:Xww}{b:Array UInt8}{led:Led}(hA:Room A 20)(hb:b.size<2 ^ 20):TC P04 w A (B04 w) (.ref 303) [.bytes b] [] led fun v led'=>led'=led/\v = .str (XU b):=by
 refine TC.weak (XaO (binds:=[(XAx,.bytes b)]) (g04 w) (Xvd _) hA.lt (Binds.peek fun Z xs ks hx hk=>?_) @_ fun L hL=>?_)
 ·cases hk
  obtain _ | ⟨h1,hx⟩:=hx
  cases hx
  exact ⟨_,@_,.cons h1 .nil⟩
 ·have hA':=hA.deeper (k:=17) (env:=Xa0 (XW (XhQ w.params)) L 303 302)
  simp only [XwL,XwV,Xwv,Xws]
  refine XI ?_
  got_up
  refine Xau (T' := "str") (id := "str.join") @_ @_ @_ Xjz Xo0 F.type_str_join ?_
  got_up
  refine ⟨Xcn,?_⟩
  got_up
  got_up
  refine XbQ (k:=5) (N:=[]) (cl:=[]) (J:=fun loc=>∃ v,loc=[(XAI,v)]) [XAI] (hA'.mono nofun) (XyX (by decide)) @_ @_ @_ @_ (fun _=>@_) ⟨_,rfl⟩ ?_
  got_up
  refine Xjd fun it gl hI hS=>⟨it,gl,_,Xdh b,b.toList.map fun c=>some (.str ⟨#[XbW c.toNat]⟩),rfl,rfl,hI _ _,hS _,.nil,by simp [Xdh],by simp only [Xdh,Xwi,XxB];exact Xw4 (XxQ hb) (by decide),fun L' p hp=>?_,fun D hD=>?_⟩
  ·rintro loc ⟨v,rfl⟩ led' hN'
   obtain ⟨c,hc,rfl⟩:∃ c:UInt8,c∈b.toList/\p=(.int (c.toNat:Int),some (.str ⟨#[XbW c.toNat]⟩)):=by
    unfold Xdh at hp
    rw [Xbe] at hp
    obtain ⟨c,hc,rfl⟩:=XwJ.mp hp
    exact ⟨c,hc,rfl⟩
   have hlt:=c.toNat_lt
   repeat' got_up
   refine Xcu ?_
   repeat' got_up
   ·refine Xp1 (n:=c.toNat) nofun ?_
    simp only [decide_eq_true_eq] at *
    exact ⟨by rw [XbW,if_pos nofun],trivial,_,rfl⟩
   ·rw [show ((1383:Int) - (c.toNat:Int))=((1383 - c.toNat:Nat):Int) from by omega]
    refine Xp1 (n:=1383 - c.toNat) nofun ?_
    simp only [decide_eq_false_iff_not] at *
    exact ⟨by rw [XbW,if_neg nofun],trivial,_,rfl⟩
  ·rw [Xqs]
   repeat' got_up
   refine XtL (ListAt.own (Xwf ..)) ?_ ?_
   ·unfold JoinOk
    have hf:Builtin.Str.tooLong (((b.toList.map fun c=>XbW c.toNat).map fun c=>(⟨#[c]⟩:Str)).toArray.foldl (fun a p=>a+p.length+(⟨⟨[]⟩⟩:Str).length) 0)=false:=StrLaws.joinFits (B:=1) (fun y hy=>by
     obtain ⟨c,_,rfl⟩:=XwJ.mp hy
     exact XwN 1) (by
     simp only [Xwi,XxB]
     show b.size * 1+b.size * 0<=_
     omega)
    rw [hf]
    rfl
   ·refine ⟨_,.drop,rfl,?_⟩
    congr 1
    unfold Txt.join
    rw [StrLaws.glued_eq_join]
    show Str.join ⟨#[]⟩ _=_
    rw [Xkp,XU]
    congr 1
    apply Array.toList_inj.mp
    simp
def agO(c:Nat):Int:=if c<128 then c else 1383 - c
def agB(x:Str):Array UInt8:=byteArr (x.cps.toList.map agO)
def XoL(x:Str):Prop:=∀ c∈x.cps,c<128∨(1128<=c/\c<=1255)
theorem Xpk{w:XwE}{A:Xww}{x:Str}{led:Led}(hA:Room A 20)(hx:XoL x)(hb:x.length<2 ^ 20):TC P04 w A (B04 w) (.ref 308) [.str x] [] led fun v led'=>led'=led/\v = .bytes (agB x):=by
 refine TC.weak (XaO (binds:=[(⟨⟨[116,101,120,116]⟩⟩,.str x)]) (g04 w) (Xvc _) hA.lt (Binds.peek fun Z xs ks hx hk=>?_) @_ fun L hL=>?_)
 ·cases hk
  obtain _ | ⟨h1,hx⟩:=hx
  cases hx
  exact ⟨_,@_,.cons h1 .nil⟩
 ·have hA':=hA.deeper (k:=17) (env:=Xa0 (XW (XhO w.params)) L 308 307)
  have hsz:x.cps.size<2 ^ 20:=hb
  simp only [XwL,XwV,Xwv,Xws]
  refine XI ?_
  repeat' got_up
  refine XbQ (k:=5) (N:=[]) (cl:=[]) (J:=fun loc=>∃ v,loc=[(⟨⟨[115,105,103,110]⟩⟩,v)]) [⟨⟨[115,105,103,110]⟩⟩] (hA'.mono nofun) (XyX (by decide)) @_ @_ @_ @_ (fun _=>@_) ⟨_,rfl⟩ ?_
  got_up
  refine XlV fun it gl hI hS=>⟨it,gl,_,XbX x,x.cps.toList.map fun c=>some (.int (agO c)),rfl,rfl,hI _ _,hS _,.nil,by simp [XbX],by simp only [XbX,Xwi,XxB];exact Xw4 (XxQ hsz) (by decide),fun L' p hp=>?_,fun D hD=>?_⟩
  ·rintro loc ⟨v,rfl⟩ led' hN'
   obtain ⟨c,hc,rfl⟩:∃ c:Nat,c∈x.cps.toList/\p=(.str ⟨#[c]⟩,some (.int (agO c))):=by
    unfold XbX at hp
    rw [Xbe] at hp
    obtain ⟨c,hc,rfl⟩:=XwJ.mp hp
    exact ⟨c,hc,rfl⟩
   repeat' got_up
   refine Xcu ?_
   repeat' got_up
   refine XkV ?_
   repeat' got_up
   ·refine XkV ?_
    simp only [decide_eq_true_eq] at *
    exact ⟨by rw [agO,if_pos nofun],trivial,_,rfl⟩
   ·refine XkV ?_
    repeat' got_up
    simp only [decide_eq_false_iff_not] at *
    exact ⟨by rw [agO,if_neg nofun],trivial,_,rfl⟩
  ·have e:(x.cps.toList.map fun c=>(some (AV.int (agO c)):Option AV)).filterMap id=(x.cps.toList.map agO).map .int:=by
    simp [XyR]
   rw [e]
   repeat' got_up
   refine XkY hA'.h (ListAt.own (Xwf ..)) (fun n hn=>?_) (by simp only [Xwi,XxB];exact Xw4 (XxQ hsz) (by decide)) ?_
   ·obtain ⟨c,hc,rfl⟩:=XwJ.mp hn
    have:=hx c (by simpa using hc)
    unfold agO
    split <;> omega
   ·exact ⟨_,.drop,rfl,rfl⟩
end
section
open PySem PySem.W PySem.SeqAt
theorem Xoj:Xxz (.type "generator") "__len__" = XxW none:=by rw [Xxh,XwS];kernel_rfl
theorem XlB:Xxz (.type "generator") "__length_hint__" = XxW none:=by rw [Xxh,XwS];kernel_rfl
theorem isi_meta_bytes:typeOf (.type "bytes")=XxW (.type "type"):=by first | exact F.isi_meta_bytes | kernel_rfl
theorem Xlf(items:Array Value)(a b:Nat)(hab:a<=b):slicePick items (some a) (some b) none=((items.toList.drop a).take (b - a)).toArray:=by
 rw [slicePick_plain]
 simp only [Option.elim,clipAt_nat]
 congr 1
 have hl:items.toList.length=items.size:=by simp
 rcases Nat.le_total b items.size with h | h
 ·rw [Nat.min_eq_left h,Nat.min_eq_left (Xw4 hab h)]
 ·rw [Nat.min_eq_right h]
  rcases Nat.le_total a items.size with h' | h'
  ·rw [Nat.min_eq_left h',List.take_of_length_le (by rw [List.length_drop];omega),List.take_of_length_le (by rw [List.length_drop];omega)]
  ·rw [Nat.min_eq_right h',XxI nofun,XxI nofun,List.take_nil,List.take_nil]
section
variable{prog:Xwx}{w:XwE}{A:Xww}{B:Frz}{env:Env}{N:Led}
theorem Xc9{x:Expr}{rest:List Expr}{st:St}{K:Bool->St->Prop}
  (h:T prog w A B env XQ (isTrue x env (Xxy x env)) st fun b st'=>if b then K true st' else T prog w A B env XQ (allTrue .Or rest env) st' K):T prog w A B env XQ (allTrue .Or (x::rest) env) st K:=fun s Z S Q E hQ =>
 wpAny_allTrue_Or_cons (h s Z S _ _ fun b c s' Z' st' k S' V X=>by
  unfold XQ at V
  subst V
  cases c with
  | true=>exact hQ true true s' Z' st' k S' rfl X
  | false=>exact k s' Z' S' Q E fun b' c' s'' Z'' st'' k' S'' V' X'=>hQ b' c' s'' Z'' st'' k' S'' V' (X.trans X'))
theorem XpL{value lo hi:Expr}{p pos:Pos}{st:St}{R:AV->St->Prop}(ht:∀ o r,letTemporaryGo value o r=XxW ())
  (h:T prog w A B env Val (Xxy value env) st fun v st₁=>T prog w A B env Val (Xxy lo env) st₁ fun l st₂=>T prog w A B env Val (Xxy hi env) st₂ fun u st₃ =>
   ∃ xs:List AV,∃ i j:Nat,ListAt st₃.led v xs/\l = .int i/\u = .int j/\i<=j/\xs.length<=XwZ/\R (.lst ((xs.drop i).take (j - i))) st₃) :
  T prog w A B env Val (Xxy (.Subscript value (.Slice (some lo) (some hi) none p) pos) env) st R:=fun s Z S Q E hQ=>by
 refine wpAny_Subscript_list_slice (h s Z S _ _ fun v x s₁ Z₁ st₁ k₁ S₁ V₁ X₁=>k₁ s₁ Z₁ S₁ _ _ fun l y s₂ Z₂ st₂ k₂ S₂ V₂ X₂=>k₂ s₂ Z₂ S₂ _ _ fun u z s₃ Z₃ st₃ k₃ S₃ V₃ X₃=>?_) ht
 obtain ⟨xs,i,j,hl,rfl,rfl,hij,hsz,k⟩:=k₃
 obtain ⟨a,items,n,rfl,g,vs⟩:=hl.get (V₁.mono (X₂.le.trans X₃.le)) S₃.toSimL
 have hlen:items.size=xs.length:=by simpa using vs.length
 cases V₂
 cases V₃
 rename_i t1 t2
 refine ⟨a,items,some i,some j,rfl,⟨_,g,rfl,n,rfl⟩,by omega,.int _ _,.int _ _,?_⟩
 rw [Xlf items i j hij]
 have P1:=S₃.toSimL.push0 (o:={ cls := .type "slice",data := .fields #[.int i t1,.int j t2,.none]}) s₃.toks
 have P2:=P1.1.pushZ (o:={ cls := .type "list",data := .seq ((items.toList.drop i).take (j - i)).toArray}) rfl s₃.toks
 have X:=P1.2.trans P2.2
 have hs:(s₃.heap.push {cls := .type "slice",data := .fields #[.int i t1,.int j t2,.none]}).objs.size=s₃.heap.objs.size+1:=XyM ..
 refine hQ _ _ _ _ _ k (S₃.after P2.1 X) ?_ (((X₁.trans X₂).trans X₃).trans X.toF)
 rw [← hs]
 exact .lst (Frz.add_at ..) (((vs.drop i).take (j - i)).mono X.le)
theorem Xhu{elts:List Expr}{x1:Nat}{pos:Pos}{v:AV}{vs:List AV}{st:St}{K:Unit->St->Prop}(hh:A.handled=none)(hl:ListAt st.led v vs)(he:(XxP elts env).map (·.2)=elts.map fun e=>XxG e env)(hn:elts.length=vs.length)(hstar:(XxP elts env).findIdx? (·.1)=none)
  (h:FT prog w A B env elts vs st K):F1 prog w A B env XE (XxG (.Tuple elts x1 pos) env) v st K :=
 Xik hh hl (by have:=congrArg XyG he;simp only [Xwi] at this;omega) hstar (by rw [he];exact h)
theorem XoE{a n:Nat}{st:St}{K:AV->St->Prop}(hn2:n<=1000000)(ha:a<2 ^ 64)(h:K (.int ((a ^ n:Nat):Int)) st):F2 prog w A B env Val (binaryOp .Pow) (.int a) (.int n) st K :=
 XoF nofun nofun nofun (by rw [XwY,← Int.natCast_pow];exact h)
theorem XfW{ga g n:Nat}{gs:XyH}{gl led:Led}{rows:List AV}{loc:List (Str × AV)}{R:AV->St->Prop}(hG:Ground0 B)(hA:Room A (n+4))(hN:NIn N led)(h0:Susp prog w B N n rows gl gs)(hsz:rows.length<=XwZ)(h:R (.lst rows) ⟨loc,led⟩) :
  FC prog w A B env (.typ "list") [.ref ga] [] ⟨loc,((ga,.gen g gs)::gl)++led⟩ R:=by
 refine Xci (k:=n+1) (T' := "generator") hA hN (IterOk.gen hG (fun _ _ _ _ _ _ _ _ A Q E hq=>Xwg hq) h0) hsz (fun s Z S=>?_) (by decide) (by decide) (fun A s Z S Q E hq=>?_) Xoj XlB h
 ·exact (S.own _ (Xwf ..)).1.typeIs
 ·exact wpAny_pyIter_gen (S.own _ (Xwf ..)).1 hq
end
end
section
local macro_rules | `(tactic| walk_at "recast") => `(tactic| first | exact Recast.nil | (refine' Recast.cast ?fc;(case fc=>walk_at "recast")) | (refine' Recast.keep ?fc;(case fc=>walk_at "recast")))
noncomputable abbrev XkH(w:XwE)(L C:XwR):Env:=XaV (XW (Xf9 w.params)).scope L XxF [(XAl,C)] (XW (Xf9 w.params)).qualname 313 (.ref 312) Xyd
def XaA:List Int->Nat
 | []=>0
 | x::_=>x.natAbs
def nOf(script:List Int):Nat:=XaA script % 8
def Xw(script:List Int)(k:Nat):Array UInt8:=XcT (XaA script / 8 / 3 ^ k)
def XK(script:List Int):List (Array UInt8) × List (Array UInt8):=if script.length % 2=0∨script.length=1 then ([#[228]],[#[246]]) else ([],[])
def XL(x:Int):List (Array UInt8):=Xyi (x.natAbs / 3 % 4+1) (XcT (x.natAbs / 12))
def Xct(a:List (Array UInt8))(x:Int):List (Array UInt8):=if x.natAbs % 3≠2 then a++XL x else a
def XbB(b:List (Array UInt8))(x:Int):List (Array UInt8):=if x.natAbs % 3≠1 then b++XL x else b
def restOf(script:List Int):List Int:=(script.drop 1).take 62
def aOf(script:List Int):List (Array UInt8):=(restOf script).foldl Xct (XK script).1
def bOf(script:List Int):List (Array UInt8):=(restOf script).foldl XbB (XK script).2
abbrev Xek(script:List Int)(v1 v2 v3 v4 v5 v6 va vb vx vl v7 v8 v9 v10 v11:AV):List (Str × AV) :=
 [(XAJ,.lst (script.map .int)),(Xzt,v1),(⟨⟨[111,108,100]⟩⟩,v2),(⟨⟨[110,101,119]⟩⟩,v3),(XAK,v4),(XAL,v5),(⟨⟨[101,110,100]⟩⟩,v6),(Xy9,va),(Xza,vb),(XzK,vx),(XAw,vl),(XAI,v7),(⟨⟨[116,119,111]⟩⟩,v8),(XAM,v9),(⟨⟨[116,111,108,100]⟩⟩,v10),(⟨⟨[114,111,119,115]⟩⟩,v11)]
def Xhw(w:XwE)(N:Led)(a b:List (Array UInt8))(old new od nd lt:Array UInt8)(n:Nat)(x:AV):Prop :=
 ∃ (df:XwR) (R1 R2:List Str),x = .ref df/\XdU P04 w (B04 w) (.ref df) /\
  (∀ A',Room A' 200->∀ led',NIn N led'->TC P04 w A' (B04 w) (.ref df) [.lst ((a.map Xe).map .str),.lst ((b.map Xe).map .str),.str (Xe old),.str (Xe new),.str (Xe od),.str (Xe nd),.int n,.str (Xe lt)] [] led' (Xcg P04 w (B04 w) N 153 (R1.map .str) led')) /\
  (∀ A',Room A' 200->∀ led',NIn N led'->TC P04 w A' (B04 w) (.ref df) [.lst ((a.map XU).map .str),.lst ((b.map XU).map .str),.str (XU old),.str (XU new),.str (XU od),.str (XU nd),.int n,.str (XU lt)] [] led' (Xcg P04 w (B04 w) N 153 (R2.map .str) led')) /\
  (∀ r∈R1,Xbm r/\r.length<2 ^ 20)/\(∀ r∈R2,XoL r/\r.length<2 ^ 20)/\R2.map agB=R1.map Xa1/\(R1=[]↔a=b)/\R1.length<=2 ^ 20
theorem XgZ{x:Int}:∀ y∈XL x,y.size<=4:=fun y hy=>by
 rw [(List.mem_replicate.mp hy).2]
 exact XeU _
theorem Xe7{f:List (Array UInt8)->Int->List (Array UInt8)}(hf:∀ a x,(∀ y∈a,y.size<=4)->∀ y∈f a x,y.size<=4):∀ (xs:List Int) (a:List (Array UInt8)),(∀ y∈a,y.size<=4)->∀ y∈xs.foldl f a,y.size<=4
 | [],a,h=>h
 | x::xs,a,h=>Xe7 hf xs (f a x) (hf a x h)
theorem XgB(script:List Int):∀ y∈aOf script,y.size<=4:=by
 refine Xe7 (fun a x h y hy=>?_) _ _ fun y hy=>?_
 ·unfold Xct at hy
  split at hy
  ·exact (Xw5.mp hy).elim (h y) (XgZ y)
  ·exact h y hy
 ·unfold XK at hy
  split at hy
  ·rw [Xwy] at hy;rw [hy];decide
  ·cases hy
theorem XgA(script:List Int):∀ y∈bOf script,y.size<=4:=by
 refine Xe7 (fun a x h y hy=>?_) _ _ fun y hy=>?_
 ·unfold XbB at hy
  split at hy
  ·exact (Xw5.mp hy).elim (h y) (XgZ y)
  ·exact h y hy
 ·unfold XK at hy
  split at hy
  ·rw [Xwy] at hy;rw [hy];decide
  ·cases hy
theorem Xe8{f:List (Array UInt8)->Int->List (Array UInt8)}(hf:∀ a x,(f a x).length<=a.length+4):∀ (xs:List Int) (a:List (Array UInt8)),(xs.foldl f a).length<=a.length+4 * xs.length
 | [],a=>XwN _
 | x::xs,a=>by
  have h1:=Xe8 hf xs (f a x)
  have h2:=hf a x
  rw [Xxj,Xwn]
  omega
theorem XfE(x:Int):(XL x).length<=4:=by
 have h4:x.natAbs / 3 % 4<4:=Nat.mod_lt _ nofun
 rw [XL,Xy0];omega
theorem Xee(script:List Int):(restOf script).length<=62:=by unfold restOf;rw [List.length_take];omega
theorem Xig(script:List Int):(aOf script).length<=249:=by
 have h:=Xe8 (f:=Xct) (fun a x=>by have:=XfE x;unfold Xct;split <;> (try rw [Xwo]) <;> omega) (restOf script) (XK script).1
 have h1:=Xee script
 have h2:(XK script).1.length<=1:=by unfold XK;split <;> simp
 unfold aOf
 omega
theorem Xie(script:List Int):(bOf script).length<=249:=by
 have h:=Xe8 (f:=XbB) (fun a x=>by have:=XfE x;unfold XbB;split <;> (try rw [Xwo]) <;> omega) (restOf script) (XK script).2
 have h1:=Xee script
 have h2:(XK script).2.length<=1:=by unfold XK;split <;> simp
 unfold bOf
 omega
theorem WkL.drop2{p q:XwR × AObj}{l:Led}:WkL (p::q::l) l:=⟨[p,q],.refl _⟩
theorem XrF{w:XwE}{A:Xww}{script:List Int}{led:Led}(hA:Room A 400)(hs:script.length<=63)
  (hq1:Xhw w [(271,Xac Xbx),(286,Xac Xby)] (aOf script) (bOf script) (Xw script 0) (Xw script 1) (Xw script 2) (Xw script 3) (Xw script 4) (nOf script) (.ref 261))
  (hq2:Xhw w [(271,Xac Xbx),(286,Xac Xby)] (aOf script) (bOf script) (Xw script 0) (Xw script 1) (Xw script 2) (Xw script 3) (Xw script 4) (nOf script) (.ref 276)) :
  TC P04 w A (B04 w) (.ref 313) [.lst (script.map .int)] [] ((271,Xac Xbx)::(286,Xac Xby)::led) fun v led'=>v = .bool true/\NIn [(271,Xac Xbx),(286,Xac Xby)] led':=by
 refine XtB (x:=XAl) (binds:=[(XAJ,.lst (script.map .int))]) (o:=Xf9 w.params) (fd:=XW (Xf9 w.params)) (body:=XD (st1 16)) (c:=312) (oc:=XhN w.params) (vs:=Xs (XhN w.params)) (tq:=XaD ((Xs (XhN w.params)).getD 1 .none)) (g04 w)
  @_ @_ @_ @_ @_ @_ (fun n=>@_) @_ @_ @_ @_ @_ hA.lt (Binds.peek fun Z xs ks hx hk=>?_) (fun x hx=>?_) fun L C hL hC=>?_
 ·cases hk
  obtain _ | ⟨h1,hx⟩:=hx
  cases hx
  exact ⟨_,@_,.cons h1 .nil⟩
 ·rw [Xwr,XyC,Xwy] at hx
  subst hx
  kernel_rfl
 ·have hA':=hA.deeper (k:=397) (env:=XkH w L C)
  show T P04 w (A.deeper (XkH w L C)) (B04 w) (XkH w L C) FVal (execs (XD (st1 16)) (XkH w L C)) _ _
  generalize hAA:A.deeper (XkH w L C)=A1 at hA' ⊢
  have hh:=hA'.h
  simp only [XwL,XwV,Xwv,Xws]
  refine T.spare Xzt @_ ?_
  refine T.spare ⟨⟨[111,108,100]⟩⟩ @_ ?_
  refine T.spare ⟨⟨[110,101,119]⟩⟩ @_ ?_
  refine T.spare XAK @_ ?_
  refine T.spare XAL @_ ?_
  refine T.spare ⟨⟨[101,110,100]⟩⟩ @_ ?_
  refine T.spare Xy9 @_ ?_
  refine T.spare Xza @_ ?_
  refine T.spare XzK @_ ?_
  refine T.spare XAw @_ ?_
  refine T.spare XAI @_ ?_
  refine T.spare ⟨⟨[116,119,111]⟩⟩ @_ ?_
  refine T.spare XAM @_ ?_
  refine T.spare ⟨⟨[116,111,108,100]⟩⟩ @_ ?_
  refine T.spare ⟨⟨[114,111,119,115]⟩⟩ @_ ?_
  simp only [Xws,Xwv]
  generalize hled:((271,Xac Xbx)::(286,Xac Xby)::led:Led)=led0
  refine XI (T.weakPost (K0:=fun f st'=>f=AFlow.next/\∃ nn,st'=⟨Xek script .any .any .any .any .any .any .any .any .any .any .any .any .any .any .any,(nn,.list [])::(C,XcD (.int (XaA script)))::led0⟩) ?_ ?_)
  ·repeat' got_up
   intro nn hnn
   refine XeB (f:=AV.int) Xr4 (as:=script) (bs:=[]) (hA'.mono nofun) .frz (.own (Xwf ..)) ?_
   got_up
   got_up
   ·rename_i hc
    obtain ⟨x,xs,rfl⟩:∃ x xs,script=x::xs:=by
     cases script with
     | nil=>simp at hc
     | cons x xs=>exact ⟨x,xs,rfl⟩
    got_up
    repeat' got_up
    refine Xy (x := .int x) .frz nofun nofun rfl ?_
    repeat' got_up
    refine Xd7 ?_
    refine XeL (c:=C) (e0:=Xfe) @_ @_ (fun Z s h=>XkK Z s C h) rfl (by walk_at "upd") ?_
    exact ⟨rfl,nn,rfl⟩
   ·rename_i hc
    have:script=[]:=by simpa using hc
    subst this
    got_up
    refine XeL (c:=C) (e0:=Xfe) @_ @_ (fun Z s h=>XkK Z s C h) rfl (by walk_at "upd") ?_
    exact ⟨rfl,nn,rfl⟩
  ·rintro f loc' l ⟨rfl,nn,h⟩
   cases h
   refine ⟨_,.drop,?_⟩
   dsimp only
   got_up
   got_up
   got_up
   refine Xmf (c:=C) (v := .int (XaA script)) @_ @_ (Xwf ..) @_ ?_
   repeat' got_up
   refine Xbl (a:=XaA script) (b:=8) nofun ?_
   repeat' got_up
   refine Xbj @_ @_ @_ ?_
   refine XbQ (k:=5) (N:=[(C,XcD (.int (XaA script)))]) (cl:=[(XAl,C)]) (J:=fun loc=>∃ v,loc=[(Xy5,v)]) [Xy5] (hA'.mono nofun) @_ @_ @_ @_ @_ (fun _=>@_) ⟨_,rfl⟩ ?_
   repeat' got_up
   refine XpT ?_
   refine Xk1 (k:=5) nofun nofun nofun nofun fun it gl hI hS=>?_
   have e5:Xbw 0 5=(Xxm 0 5).map fun (i:Nat)=>AV.int (i:Int):=Xjx 0 5
   refine ⟨it,gl,_,(Xxm 0 5).map fun (i:Nat)=>AV.int (i:Int),(Xxm 0 5).map fun (i:Nat)=>some (AV.bytes (Xw script i)),rfl,rfl,e5 ▸ hI _ _ _,hS _,(fun p hp=>by rw [Xwy] at hp;rw [hp];exact Xwf ..),by simp,by simp;decide,fun L' p hp=>?_,fun D hD=>?_⟩
   ·rintro loc ⟨v,rfl⟩ led' hN'
    rw [Xbe] at hp
    obtain ⟨i,hi,rfl⟩:=XwJ.mp hp
    have hi5:i<5:=by simpa using hi
    repeat' got_up
    refine Xcu ?_
    repeat' got_up
    refine Xmf (c:=C) (v := .int (XaA script)) @_ @_ (hN' _ (Xwf ..)) @_ ?_
    repeat' got_up
    refine Xa8 (a:=XaA script) (b:=8) nofun nofun ?_
    repeat' got_up
    refine XoE (a:=3) (n:=i) nofun nofun ?_
    refine Xa8 (a:=XaA script / 8) (b:=3 ^ i) (Nat.pos_iff_ne_zero.mp (Nat.pow_pos nofun)) (Nat.lt_of_le_of_lt (Nat.pow_le_pow_right nofun (show i<=4 by omega)) (by decide)) ?_
    repeat' got_up
    refine Xr (Xg0 (hA'.mono nofun)) fun v l h=>?_
    obtain ⟨rfl,rfl⟩:=h
    exact ⟨rfl,rfl,_,rfl⟩
   ·rw [show ((Xxm 0 5).map fun (i:Nat)=>some (AV.bytes (Xw script i))).filterMap id=[.bytes (Xw script 0),.bytes (Xw script 1),.bytes (Xw script 2),.bytes (Xw script 3),.bytes (Xw script 4)] from rfl]
    refine Xhu hh (.own (Xwf ..)) @_ @_ @_ ?_
    repeat' got_up
    refine T.drop ?_
    refine T.mono (K:=fun f st'=>f=AFlow.next/\∃ al bl,st'=⟨Xek script (.int (nOf script:Nat)) (.bytes (Xw script 0)) (.bytes (Xw script 1)) (.bytes (Xw script 2)) (.bytes (Xw script 3)) (.bytes (Xw script 4)) (.ref al) (.ref bl) .any .any .any .any .any .any .any,
     (bl,.list ((XK script).2.map .bytes))::(al,.list ((XK script).1.map .bytes))::(C,XcD (.int (XaA script)))::led0⟩) ?_ ?_
    ·refine Xbj @_ @_ @_ ?_
     got_up
     got_up
     refine Xc9 ?_
     repeat' got_up
     refine XaY (xs:=script.map .int) .frz (by rw [Xwi];omega) ?_
     rw [Xwi]
     repeat' got_up
     refine Xbl (a:=script.length) (b:=2) nofun ?_
     repeat' got_up
     ·rename_i hc
      have hst:XK script=([#[228]],[#[246]]):=if_pos (.inl (by have:=eq_of_beq hc;omega))
      refine Xey ?_
      repeat' got_up
      intro al hal
      repeat' got_up
      refine Xey ?_
      repeat' got_up
      intro bl hbl
      repeat' got_up
      exact ⟨rfl,al,bl,by rw [hst];rfl⟩
     ·rename_i hc
      refine Xc9 ?_
      repeat' got_up
      refine XaY (xs:=script.map .int) .frz (by rw [Xwi];omega) ?_
      rw [Xwi]
      repeat' got_up
      ·rename_i hc2
       have hst:XK script=([#[228]],[#[246]]):=if_pos (.inr (by have:=eq_of_beq hc2;omega))
       refine Xey ?_
       repeat' got_up
       intro al hal
       repeat' got_up
       refine Xey ?_
       repeat' got_up
       intro bl hbl
       repeat' got_up
       exact ⟨rfl,al,bl,by rw [hst];rfl⟩
      ·rename_i hc2
       have hst:XK script=([],[]):=if_neg (by simp only [beq_eq_false_iff_ne,ne_eq] at hc hc2;omega)
       refine XiK ?_
       repeat' got_up
       intro al hal
       repeat' got_up
       intro bl hbl
       repeat' got_up
       exact ⟨rfl,al,bl,by rw [hst];rfl⟩
    ·rintro f st' ⟨rfl,al,bl,rfl⟩
     dsimp only
     refine XI (T.mono (K:=fun f st'=>f=AFlow.next/\∃ vx vl l,st'=⟨Xek script (.int (nOf script:Nat)) (.bytes (Xw script 0)) (.bytes (Xw script 1)) (.bytes (Xw script 2)) (.bytes (Xw script 3)) (.bytes (Xw script 4)) (.ref al) (.ref bl) vx vl .any .any .any .any .any,
      (bl,.list ((bOf script).map .bytes))::(al,.list ((aOf script).map .bytes))::(l++(C,XcD (.int (XaA script)))::led0)⟩) ?_ ?_)
     ·refine XcM (k:=5) (J:=fun xs st'=>∃ (ys:List Int) (av bv:List (Array UInt8)) (vx vl:AV) (l:Led),xs=ys.map .int/\ys.foldl Xct av=aOf script/\ys.foldl XbB bv=bOf script/\av.length+4 * ys.length<=249/\bv.length+4 * ys.length<=249 /\
       st'=⟨Xek script (.int (nOf script:Nat)) (.bytes (Xw script 0)) (.bytes (Xw script 1)) (.bytes (Xw script 2)) (.bytes (Xw script 3)) (.bytes (Xw script 4)) (.ref al) (.ref bl) vx vl .any .any .any .any .any,
        (bl,.list (bv.map .bytes))::(al,.list (av.map .bytes))::(l++(C,XcD (.int (XaA script)))::led0)⟩) (hA'.mono nofun) ?_ ?_ ?_ (fun _=>@_)
      ·refine XpL (fun _ _=>@_) ?_
       repeat' got_up
       refine ⟨script.map .int,1,63,.frz,rfl,rfl,by omega,by rw [Xwi];exact Xw4 hs (by decide),?_⟩
       rw [← List.map_drop,← List.map_take]
       refine XaE (k:=5) fun it gl hI=>⟨it,gl,_,_,rfl,rfl,hI,restOf script,_,_,_,_,[],rfl,rfl,rfl,?_,?_,rfl⟩
       ·have:(restOf script).length<=62:=by unfold restOf;rw [List.length_take];omega
        have:(XK script).1.length<=1:=by unfold XK;split <;> simp
        omega
       ·have:(restOf script).length<=62:=by unfold restOf;rw [List.length_take];omega
        have:(XK script).2.length<=1:=by unfold XK;split <;> simp
        omega
      ·rintro x xs st' gl ⟨ys,av,bv,vx,vl,l,hxs,ha,hb,hla,hlb,rfl⟩
       cases ys with
       | nil=>cases hxs
       | cons y ys =>
        obtain ⟨rfl,rfl⟩:=Xx2 hxs
        simp only [Xxj] at ha hb
        simp only [Xwn] at hla hlb
        got_up
        got_up
        refine T.weakPost (K0:=fun f st'=>f=AFlow.next/\∃ ln1 ln2 X1 X2,st'=⟨Xek script (.int (nOf script:Nat)) (.bytes (Xw script 0)) (.bytes (Xw script 1)) (.bytes (Xw script 2)) (.bytes (Xw script 3)) (.bytes (Xw script 4)) (.ref al) (.ref bl) (.int y) (.ref ln2) .any .any .any .any .any,
         (ln2,X2)::(ln1,X1)::(((bl,.list ((XbB bv y).map .bytes))::(al,.list ((Xct av y).map .bytes))::(l++(C,XcD (.int (XaA script)))::led0))++gl)⟩) ?_ ?_
        ·repeat' got_up
         refine Xd7 ?_
         repeat' got_up
         refine Xa8 (a:=y.natAbs) (b:=12) nofun nofun ?_
         repeat' got_up
         refine Xr (Xg0 (hA'.mono nofun)) fun v l' h=>?_
         obtain ⟨rfl,rfl⟩:=h
         repeat' got_up
         intro ln1 hln1
         repeat' got_up
         refine Xd7 ?_
         repeat' got_up
         refine Xa8 (a:=y.natAbs) (b:=3) nofun nofun ?_
         repeat' got_up
         refine Xbl (a:=y.natAbs / 3) (b:=4) nofun ?_
         repeat' got_up
         rw [show ((y.natAbs / 3 % 4:Nat):Int)+1=((y.natAbs / 3 % 4+1:Nat):Int) from rfl]
         have h4:y.natAbs / 3 % 4<4:=Nat.mod_lt _ nofun
         refine XlR (xs:=[.bytes (XcT (y.natAbs / 12))]) (.own (Xwf ..)) nofun nofun (by simp only [Xwn,XwF,XwY];omega) fun ln2 hln2=>?_
         rw [XwY,PyProof.Rows.lm_rep_flat_one]
         have hL:Xyi (y.natAbs / 3 % 4+1) (AV.bytes (XcT (y.natAbs / 12)))=(XL y).map .bytes:=by rw [XL,List.map_replicate]
         rw [hL]
         have hLl:(XL y).length<=4:=by rw [XL,Xy0];omega
         repeat' got_up
         refine Xd7 ?_
         repeat' got_up
         refine Xbl (a:=y.natAbs) (b:=3) nofun ?_
         repeat' got_up
         ·rename_i hc
          have eA:(Xct av y).map AV.bytes=av.map .bytes++(XL y).map .bytes:=by rw [Xct,if_pos (fun e=>by rw [e] at hc;exact absurd hc (by decide)),XwH]
          refine Xfn (xs:=av.map .bytes) (ys:=(XL y).map .bytes) (.own (Xwf ..)) (by simp only [Xwi];omega) (by walk_at "upd") ?_
          repeat' got_up
          refine Xd7 ?_
          repeat' got_up
          refine Xbl (a:=y.natAbs) (b:=3) nofun ?_
          repeat' got_up
          ·rename_i hc'
           have eB:(XbB bv y).map AV.bytes=bv.map .bytes++(XL y).map .bytes:=by rw [XbB,if_pos (fun e=>by rw [e] at hc';exact absurd hc' (by decide)),XwH]
           refine Xfn (xs:=bv.map .bytes) (ys:=(XL y).map .bytes) (.own (Xwf ..)) (by simp only [Xwi];omega) (by walk_at "upd") ?_
           repeat' got_up
           refine ⟨rfl,ln1,ln2,.list [.bytes (XcT (y.natAbs / 12))],.list ((XL y).map .bytes),?_⟩
           rw [eA,eB]
           rfl
          ·rename_i hc'
           have eB:(XbB bv y).map AV.bytes=bv.map .bytes:=by rw [XbB,if_neg (fun h=>h (by have:=bne_eq_false_iff_eq.mp hc';omega))]
           refine ⟨rfl,ln1,ln2,.list [.bytes (XcT (y.natAbs / 12))],.list ((XL y).map .bytes),?_⟩
           rw [eA,eB]
           rfl
         ·rename_i hc
          have eA:(Xct av y).map AV.bytes=av.map .bytes:=by rw [Xct,if_neg (fun h=>h (by have:=bne_eq_false_iff_eq.mp hc;omega))]
          refine Xd7 ?_
          repeat' got_up
          refine Xbl (a:=y.natAbs) (b:=3) nofun ?_
          repeat' got_up
          ·rename_i hc'
           have eB:(XbB bv y).map AV.bytes=bv.map .bytes++(XL y).map .bytes:=by rw [XbB,if_pos (fun e=>by rw [e] at hc';exact absurd hc' (by decide)),XwH]
           refine Xfn (xs:=bv.map .bytes) (ys:=(XL y).map .bytes) (.own (Xwf ..)) (by simp only [Xwi];omega) (by walk_at "upd") ?_
           repeat' got_up
           refine ⟨rfl,ln1,ln2,.list [.bytes (XcT (y.natAbs / 12))],.list ((XL y).map .bytes),?_⟩
           rw [eA,eB]
           rfl
          ·rename_i hc'
           have eB:(XbB bv y).map AV.bytes=bv.map .bytes:=by rw [XbB,if_neg (fun h=>h (by have:=bne_eq_false_iff_eq.mp hc';omega))]
           refine ⟨rfl,ln1,ln2,.list [.bytes (XcT (y.natAbs / 12))],.list ((XL y).map .bytes),?_⟩
           rw [eA,eB]
        ·rintro f loc' l' ⟨rfl,ln1,ln2,X1,X2,h⟩
         cases h
         refine ⟨_,WkL.drop2,_,rfl,?_⟩
         refine ⟨ys,_,_,_,_,l,rfl,ha,hb,?_,?_,rfl⟩
         ·unfold Xct
          have hLl:(XL y).length<=4:=by rw [XL,Xy0];have h4:y.natAbs / 3 % 4<4:=Nat.mod_lt _ nofun;omega
          split
          ·rw [Xwo];omega
          ·omega
         ·unfold XbB
          have hLl:(XL y).length<=4:=by rw [XL,Xy0];have h4:y.natAbs / 3 % 4<4:=Nat.mod_lt _ nofun;omega
          split
          ·rw [Xwo];omega
          ·omega
      ·rintro st' ⟨ys,av,bv,vx,vl,l,hxs,ha,hb,hla,hlb,rfl⟩
       cases ys with
       | nil=>exact ⟨rfl,vx,vl,l,by rw [← ha,← hb];rfl⟩
       | cons y ys=>cases hxs
     ·rintro f st' ⟨rfl,vx,vl,l,rfl⟩
      dsimp only
      refine T.freeze (a:=bl) (xs:=(bOf script).map .bytes) (loc':=Xek script (.int (nOf script:Nat)) (.bytes (Xw script 0)) (.bytes (Xw script 1)) (.bytes (Xw script 2)) (.bytes (Xw script 3)) (.bytes (Xw script 4)) (.ref al) (.lst ((bOf script).map .bytes)) vx vl .any .any .any .any .any) (by walk_at "recast") ?_
      refine T.freeze (a:=al) (xs:=(aOf script).map .bytes) (loc':=Xek script (.int (nOf script:Nat)) (.bytes (Xw script 0)) (.bytes (Xw script 1)) (.bytes (Xw script 2)) (.bytes (Xw script 3)) (.bytes (Xw script 4)) (.lst ((aOf script).map .bytes)) (.lst ((bOf script).map .bytes)) vx vl .any .any .any .any .any) (by walk_at "recast") ?_
      have hN1:NIn [(271,Xac Xbx),(286,Xac Xby)] (l++(C,XcD (.int (XaA script)))::led0):=fun p hp=>by
       refine XwM _ (Xwh _ ?_)
       rw [← hled]
       simp only [Xwm,XxO,or_false] at hp
       rcases hp with rfl | rfl
       ·exact Xwf ..
       ·exact Xwh _ (Xwf ..)
      generalize (l++(C,XcD (.int (XaA script)))::led0)=led1 at hN1
      have hal:=Xig script
      have hbl:=Xie script
      have has:=XgB script
      have hbs:=XgA script
      have h20:∀ n:Nat,n<=249->n<=XwZ:=fun n h=>Xw4 h (by decide)
      generalize aOf script=a at *
      generalize bOf script=b at *
      got_up
      refine XeK (k:=5) (N:=[]) (cl:=[]) (J:=fun loc=>∃ v,loc=[(XAp,v)]) [XAp] @_ (hA'.mono nofun) (XyX (by decide)) @_ @_ @_ @_ (fun _=>@_) ⟨_,rfl⟩ ?_
      got_up
      refine XbD fun it gl hI hS=>⟨it,gl,_,a.map .bytes,a.map fun y=>some (.str (XU y)),rfl,rfl,hI _ _,hS _,.nil,by simp,by rw [Xwi];exact h20 _ hal,fun L' p hp=>?_,fun D hD=>?_⟩
      ·rintro loc ⟨v,rfl⟩ led' hN'
       rw [Xbe] at hp
       obtain ⟨y,hy,rfl⟩:=XwJ.mp hp
       repeat' got_up
       refine Xcu ?_
       repeat' got_up
       refine Xr (XbZ (hA'.mono nofun) (by have:=has y hy;omega)) fun v l h=>?_
       obtain ⟨rfl,rfl⟩:=h
       exact ⟨rfl,rfl,_,rfl⟩
      rw [show (a.map fun y=>(some (AV.str (XU y)):Option AV)).filterMap id=(a.map XU).map .str from by simp [XyR]]
      got_up
      refine T.freeze (a:=D) (xs:=(a.map XU).map .str) (by walk_at "recast") ?_
      got_up
      refine XeK (k:=5) (N:=[]) (cl:=[]) (J:=fun loc=>∃ v,loc=[(XAp,v)]) [XAp] @_ (hA'.mono nofun) (XyX (by decide)) @_ @_ @_ @_ (fun _=>@_) ⟨_,rfl⟩ ?_
      got_up
      refine XbD fun it gl hI hS=>⟨it,gl,_,b.map .bytes,b.map fun y=>some (.str (XU y)),rfl,rfl,hI _ _,hS _,.nil,by simp,by rw [Xwi];exact h20 _ hbl,fun L' p hp=>?_,fun D hD=>?_⟩
      ·rintro loc ⟨v,rfl⟩ led' hN'
       rw [Xbe] at hp
       obtain ⟨y,hy,rfl⟩:=XwJ.mp hp
       repeat' got_up
       refine Xcu ?_
       repeat' got_up
       refine Xr (XbZ (hA'.mono nofun) (by have:=hbs y hy;omega)) fun v l h=>?_
       obtain ⟨rfl,rfl⟩:=h
       exact ⟨rfl,rfl,_,rfl⟩
      rw [show (b.map fun y=>(some (AV.str (XU y)):Option AV)).filterMap id=(b.map XU).map .str from by simp [XyR]]
      got_up
      refine T.freeze (a:=D) (xs:=(b.map XU).map .str) (by walk_at "recast") ?_
      have ho:∀ k,(Xw script k).size<=4:=fun k=>XeU _
      have ho0:=ho 0
      have ho1:=ho 1
      have ho2:=ho 2
      have ho3:=ho 3
      have ho4:=ho 4
      clear ho
      generalize Xw script 0=o0 at *
      generalize Xw script 1=o1 at *
      generalize Xw script 2=o2 at *
      generalize Xw script 3=o3 at *
      generalize Xw script 4=o4 at *
      generalize nOf script=n at *
      refine XI (T.weakPost (K0:=fun f st'=>f=AFlow.next/\∃ v9 v10 v11 l,NIn [(271,Xac Xbx),(286,Xac Xby)] l/\st'=⟨Xek script (.int n) (.bytes o0) (.bytes o1) (.bytes o2) (.bytes o3) (.bytes o4) (.lst (a.map .bytes)) (.lst (b.map .bytes)) vx vl (.lst ((a.map XU).map .str)) (.lst ((b.map XU).map .str)) v9 v10 v11,l⟩) ?_ ?_)
      ·refine XcM (k:=5) (J:=fun xs st'=>(∀ x∈xs,Xhw w [(271,Xac Xbx),(286,Xac Xby)] a b o0 o1 o2 o3 o4 n x)/\∃ v9 v10 v11 l,st'=⟨Xek script (.int n) (.bytes o0) (.bytes o1) (.bytes o2) (.bytes o3) (.bytes o4) (.lst (a.map .bytes)) (.lst (b.map .bytes)) vx vl (.lst ((a.map XU).map .str)) (.lst ((b.map XU).map .str)) v9 v10 v11,l++led1⟩) (hA'.mono nofun) ?_ ?_ ?_ (fun _=>@_)
       ·repeat' got_up
        refine XfX (k:=5) fun it gl hI=>⟨it,gl,_,_,rfl,rfl,hI,fun x hx=>?_,_,_,_,[],rfl⟩
        simp only [Xwm,XxO,or_false] at hx
        rcases hx with rfl | rfl
        ·exact hq1
        ·exact hq2
       ·rintro x xs st' gl ⟨hok,v9,v10,v11,l,rfl⟩
        obtain ⟨df,R1,R2,rfl,hkept,hdf1,hdf2,hr1,hr2,hag,hiff,hlen⟩:=hok x (Xwf ..)
        have hN2:NIn [(271,Xac Xbx),(286,Xac Xby)] ((l++led1)++gl):=fun p hp=>Xxf _ (hN1.app l p hp)
        generalize hl2:(l++led1)=led2 at hN2 ⊢
        repeat' got_up
        refine Xr (Xi3 (N:=[(271,Xac Xbx),(286,Xac Xby)]) (rows:=R1) (hA'.mono nofun) (Xwh _ (Xwf ..)) nofun nofun (fun y hy=>by have:=has y hy;omega) (fun y hy=>by have:=hbs y hy;omega) nofun nofun nofun nofun nofun hkept hdf1 hr1) fun v l' h=>?_
        obtain ⟨ga,gn,gs,gl',rfl,rfl,hsp⟩:=h
        repeat' got_up
        refine XfW (g04 w) (hA'.mono nofun) hN2 hsp (by rw [Xwi];exact Xw4 hlen (by decide)) ?_
        got_up
        got_up
        got_up
        got_up
        got_up
        got_up
        got_up
        got_up
        got_up
        refine Xcy @_ hkept ?_
        repeat' got_up
        refine Xr (XbZ (hA'.mono nofun) nofun) fun v l h=>?_
        obtain ⟨rfl,rfl⟩:=h
        repeat' got_up
        refine Xr (XbZ (hA'.mono nofun) nofun) fun v l h=>?_
        obtain ⟨rfl,rfl⟩:=h
        repeat' got_up
        refine Xr (XbZ (hA'.mono nofun) nofun) fun v l h=>?_
        obtain ⟨rfl,rfl⟩:=h
        repeat' got_up
        refine Xr (XbZ (hA'.mono nofun) nofun) fun v l h=>?_
        obtain ⟨rfl,rfl⟩:=h
        repeat' got_up
        refine Xr (XbZ (hA'.mono nofun) nofun) fun v l h=>?_
        obtain ⟨rfl,rfl⟩:=h
        repeat' got_up
        refine Xr (hdf2 _ (hA'.mono nofun) _ hN2) fun v l' h=>?_
        obtain ⟨ga,gn,gs,gl',rfl,rfl,hsp⟩:=h
        repeat' got_up
        have hlen2:R2.length=R1.length:=by have:=congrArg XyG hag;simpa using this
        refine XfW (g04 w) (hA'.mono nofun) hN2 hsp (by rw [Xwi,hlen2];exact Xw4 hlen (by decide)) ?_
        got_up
        got_up
        got_up
        got_up
        refine Xc9 ?_
        got_up
        got_up
        refine XbQ (k:=5) (N:=[]) (cl:=[]) (J:=fun loc=>∃ v,loc=[(XAN,v)]) [XAN] (hA'.mono nofun) (XyX (by decide)) @_ @_ @_ @_ (fun _=>@_) ⟨_,rfl⟩ ?_
        got_up
        refine XbD fun it gl hI hS=>⟨it,gl,_,R2.map .str,R2.map fun y=>some (.bytes (agB y)),rfl,rfl,hI _ _,hS _,.nil,by simp,by rw [Xwi,hlen2];exact Xw4 hlen (by decide),fun L' p hp=>?_,fun D hD=>?_⟩
        ·rintro loc ⟨v,rfl⟩ led' hN'
         rw [Xbe] at hp
         obtain ⟨y,hy,rfl⟩:=XwJ.mp hp
         repeat' got_up
         refine Xcu ?_
         repeat' got_up
         refine Xr (Xpk (hA'.mono nofun) (hr2 y hy).1 (hr2 y hy).2) fun v l h=>?_
         obtain ⟨rfl,rfl⟩:=h
         exact ⟨rfl,rfl,_,rfl⟩
        rw [show (R2.map fun y=>(some (AV.bytes (agB y)):Option AV)).filterMap id=(R2.map agB).map .bytes from by simp [XyR]]
        have hT:(R1.map fun r=>AV.bytes (Xa1 r))=(R1.map Xa1).map .bytes:=by rw [XxH];rfl
        refine XeB (f:=AV.bytes) Xc8 (as:=R1.map Xa1) (bs:=R2.map agB) (hA'.mono nofun) (by rw [← hT];exact .frz) (.own (Xwf ..)) ?_
        rw [hag,decide_eq_true rfl]
        refine XbM ?_
        refine XgX ?_
        refine Xc9 ?_
        got_up
        refine XbQ (k:=5) (N:=[]) (cl:=[]) (J:=fun loc=>∃ v,loc=[(XAN,v)]) [XAN] (hA'.mono nofun) (XyX (by decide)) @_ @_ @_ @_ (fun _=>@_) ⟨_,rfl⟩ ?_
        got_up
        refine XbD fun it gl hI hS=>⟨it,gl,_,R1.map (fun r=>AV.bytes (Xa1 r)),R1.map fun _=>none,rfl,rfl,hI _ _,hS _,.nil,by simp,by rw [Xwi];exact Xw4 hlen (by decide),fun L' p hp=>?_,fun D' hD'=>?_⟩
        ·rintro loc ⟨v,rfl⟩ led' hN'
         rw [Xbe] at hp
         obtain ⟨y,hy,rfl⟩:=XwJ.mp hp
         repeat' got_up
         refine Xsi ?_
         repeat' got_up
         refine XbU isi_meta_bytes F.sub_bytes_bytes XfA ?_
         repeat' got_up
         exact ⟨rfl,rfl,_,rfl⟩
        rw [show (R1.map fun _=>(none:Option AV)).filterMap id=[] from by simp [XyR]]
        repeat' got_up
        intro e1 he1
        refine' XeB (f:=AV.bytes) Xc8 (as:=[]) (bs:=[]) (hA'.mono nofun) ?fl ?fr ?_
        case fl=>exact .own (Xwh _ (Xwf ..))
        case fr=>exact .own (Xwf ..)
        rw [decide_eq_true rfl]
        refine XbM ?_
        refine XgX ?_
        refine XiK ?_
        repeat' got_up
        refine XfV ?_ @_
        repeat' got_up
        intro e2 he2
        refine' Xhq (f:=AV.bytes) Xc8 (as:=R1.map Xa1) (bs:=[]) (hA'.mono nofun) ?fl ?fr ?_
        case fl=>rw [← hT];exact .frz
        case fr=>exact .own (Xwf ..)
        refine XfV ?_ @_
        repeat' got_up
        refine Xhq (f:=AV.bytes) Xc8 (as:=a) (bs:=b) (hA'.mono nofun) .frz .frz ?_
        refine XoG ?_
        have hfin:(decide (R1.map Xa1=[]) == decide (a=b))=true:=by
         rw [beq_iff_eq,XyB,decide_eq_true_eq,decide_eq_true_eq,List.map_eq_nil_iff]
         exact hiff
        rw [hfin]
        refine XbM ?_
        refine XgX ?_
        repeat' got_up
        refine ⟨_::_::_::_::led2,rfl,fun x hx=>hok x (Xwh _ hx),.ref df,.lst (R1.map fun r=>AV.bytes (Xa1 r)),.lst (R2.map AV.str),(e2,.list [])::(e1,.list [])::(D',.list [])::(D,.list ((R1.map Xa1).map .bytes))::l,?_⟩
        rw [← hl2]
        rfl
       ·rintro st' ⟨_,v9,v10,v11,l,rfl⟩
        exact ⟨rfl,v9,v10,v11,_,hN1.app l,rfl⟩
      ·rintro f loc' l' ⟨rfl,v9,v10,v11,l,hNl,h⟩
       cases h
       refine ⟨_,.refl _,?_⟩
       dsimp only
       repeat' got_up
       exact ⟨rfl,hNl⟩
end
theorem Xhd(x y:Str):(x++y).cps=x.cps++y.cps:=rfl
def Xcz(x:Str):Prop:=∀ c∈x.cps,c<128
theorem XbJ{x y:Str}(hx:Xcz x)(hy:Xcz y):Xcz (x++y):=fun c hc=>by
 rw [Xhd,Array.mem_append] at hc
 exact hc.elim (hx c) (hy c)
theorem XbI(n:Int):Xcz (Xwk (XyP n)):=fun c hc=>by
 by_cases h:c<128
 ·exact h
 ·exact absurd (by simpa using hc) (PyProof.Rows.int_text_free' c ⟨by omega,by omega⟩ n)
theorem XZ{x:Str}(h:(x.cps.all fun c=>decide (c<128))=true):Xcz x:=fun c hc=>by
 have:=Array.all_eq_true_iff_forall_mem.mp h c hc
 simpa using this
theorem Xev(a b:Int):Xcz (XA a b):=by
 have hc:Xcz (Xwk ","):=XZ (by decide +kernel)
 unfold XA
 split
 ·exact XbI _
 ·split
  ·exact XbJ (XbJ (XbI _) hc) (XbI _)
  ·exact XbJ (XbJ (XbI _) hc) (XbI _)
theorem Xew(a b:Int):Xcz (Xp a b):=by
 have hc:Xcz (Xwk ","):=XZ (by decide +kernel)
 unfold Xp
 split
 ·exact XbI _
 ·split
  ·exact XbI _
  ·exact XbJ (XbJ (XbI _) hc) (XbI _)
def rho(c:Nat):Nat:=if c<128 then c else 1383 - (c - 0xDC00)
def RS(x:Str):Str:=⟨x.cps.map rho⟩
theorem Xb2(x y:Str):RS (x++y)=RS x++RS y:=by
 show Str.mk ((x.cps++y.cps).map rho)=Str.mk (x.cps.map rho++y.cps.map rho)
 rw [Array.map_append]
theorem XaJ{x:Str}(h:Xcz x):RS x=x:=by
 obtain ⟨a⟩:=x
 unfold RS
 congr 1
 apply Array.ext
 ·simp
 ·intro i h1 h2
  rw [Array.getElem_map,rho,if_pos (h _ (Array.getElem_mem h2))]
theorem XpQ(x:Str):(RS x).length=x.length:=by show (x.cps.map rho).size=x.cps.size;simp
theorem XbC(b:Array UInt8):RS (Xe b)=XU b:=by
 unfold RS Xe XU
 dsimp only
 rw [Array.map_map]
 congr 2
 funext c
 have:=c.toNat_lt
 show rho (Xbi c)=XbW c.toNat
 unfold Xbi rho XbW
 split
 ·simp [*]
 ·rw [if_neg nofun];omega
theorem Xvy:RS sE=sE:=XaJ (XZ (by decide +kernel))
theorem Xvw{x:Str}(h:Xbm x):agB (RS x)=Xa1 x:=by
 unfold agB Xa1 byteArr
 apply Array.toList_inj.mp
 simp only [RS,Array.toList_map,XxH,List.toList_toArray]
 refine Xx6 fun c hc=>?_
 show (agO (rho c)).toNat.toUInt8=Xfc c
 have:=h c (by simpa using hc)
 by_cases q:c<128
 ·have e1:rho c=c:=if_pos q
  have e2:agO c=(c:Int):=if_pos q
  have e3:Xfc c=c.toUInt8:=if_pos q
  rw [e1,e2,e3,XwY]
 ·have e1:rho c=1383 - (c - 0xDC00):=if_neg q
  have e2:agO (1383 - (c - 0xDC00))=1383 - ((1383 - (c - 0xDC00):Nat):Int):=if_neg nofun
  have e3:Xfc c=(c - 0xDC00).toUInt8:=if_neg q
  have e4:(1383 - ((1383 - (c - 0xDC00):Nat):Int)).toNat=c - 0xDC00:=by omega
  rw [e1,e2,e3,e4]
theorem Xvv{x:Str}(h:Xbm x):XoL (RS x):=fun c hc=>by
 obtain ⟨d,hd,rfl⟩:=Array.mem_map.mp hc
 have:=h d hd
 unfold rho
 split
 ·left;assumption
 ·right;omega
theorem Xtp(b:Array UInt8):Xbm (Xe b):=fun c hc=>by
 obtain ⟨d,hd,rfl⟩:=Array.mem_map.mp hc
 have:=d.toNat_lt
 unfold Xbi
 split
 ·left;assumption
 ·right;omega
theorem Xer(x y:Array UInt8)(h:Xe x=Xe y):x=y:=by
 have h1:x.map Xbi=y.map Xbi:=by simpa [Xe] using h
 have hs:x.size=y.size:=by have:=congrArg Array.size h1;simpa using this
 apply Array.ext hs
 intro i h2 h3
 have h4:Xbi x[i]=Xbi y[i]:=by
  have:=congrArg (fun a=>a[i]?) h1
  simpa [h2,h3] using this
 have a1:=x[i].toNat_lt
 have a2:=y[i].toNat_lt
 unfold Xbi at h4
 apply UInt8.toNat_inj.mp
 split at h4 <;> split at h4 <;> omega
theorem Xf1(x y:Array UInt8)(h:XU x=XU y):x=y:=by
 have h1:(x.map fun c=>XbW c.toNat)=y.map fun c=>XbW c.toNat:=by simpa [XU] using h
 have hs:x.size=y.size:=by have:=congrArg Array.size h1;simpa using this
 apply Array.ext hs
 intro i h2 h3
 have h4:XbW x[i].toNat=XbW y[i].toNat:=by
  have:=congrArg (fun a=>a[i]?) h1
  simpa [h2,h3] using this
 have a1:=x[i].toNat_lt
 have a2:=y[i].toNat_lt
 unfold XbW at h4
 apply UInt8.toNat_inj.mp
 split at h4 <;> split at h4 <;> omega
theorem Xan(b:Array UInt8):(XU b).length=b.size:=by show (b.map _).size=_;simp
theorem XkT(d:Str):Xaq (RS d)=RS (Xaq d):=by
 unfold Xaq
 rw [XpQ]
 split
 ·exact Xvy.symm
 ·unfold Xft
  rw [Xb2,XaJ (XZ (x:=Xwk "\t") (by decide +kernel))]
theorem XgF(a:List Str)(i j:Nat):Xaw (a.map RS) i j=(Xaw a i j).map RS:=by
 unfold Xaw
 rw [List.map_take,List.map_drop]
theorem Xfj{p:Str}(hp:Xcz p)(xs:List Str):(xs.map RS).map (p ++ ·)=(xs.map (p ++ ·)).map RS:=by
 rw [XxH,XxH]
 refine Xx6 fun x _=>?_
 show p++RS x=RS (p++x)
 rw [Xb2,XaJ hp]
theorem XuT(a b:List Str)(o:Op):opU (a.map RS) (b.map RS) o=(opU a b o).map RS:=by
 unfold opU
 simp only [XgF]
 split
 ·exact Xfj (XZ (by decide +kernel)) _
 ·rw [XwH]
  congr 1
  ·split
   ·exact Xfj (XZ (by decide +kernel)) _
   ·rfl
  ·split
   ·exact Xfj (XZ (by decide +kernel)) _
   ·rfl
theorem Xda{f g:Op->List Str}(h:∀ o,f o=(g o).map RS):∀ os:List Op,os.flatMap f=(os.flatMap g).map RS
 | []=>rfl
 | o::os=>by rw [List.flatMap_cons,List.flatMap_cons,XwH,h,Xda h os]
theorem XtC(ff tf fd td lt:Str):Xe4 (RS ff) (RS tf) (RS fd) (RS td) (RS lt)=(Xe4 ff tf fd td lt).map RS:=by
 unfold Xe4 Xe9 XkB
 simp only [Xwr,XyC,Xb2,XkT,XaJ (XZ (x:=Xwk "--- ") (by decide +kernel)),XaJ (XZ (x:=Xwk "+++ ") (by decide +kernel))]
theorem XtE(a b:List Str)(lt:Str)(g:List Op):Xeo (a.map RS) (b.map RS) (RS lt) g=(Xeo a b lt g).map RS:=by
 unfold Xeo Xg5
 simp only [Xwr,Xb2,Xda (XuT a b),XaJ (Xev _ _),XaJ (XZ (x:=Xwk "@@ -") (by decide +kernel)),XaJ (XZ (x:=Xwk " +") (by decide +kernel)),XaJ (XZ (x:=Xwk " @@") (by decide +kernel))]
theorem XkR(a b:List Str)(ff tf fd td lt:Str):∀ (gs:List (List Op)) (s:Bool),Xao (a.map RS) (b.map RS) (RS ff) (RS tf) (RS fd) (RS td) (RS lt) s gs=(Xao a b ff tf fd td lt s gs).map RS
 | [],_=>by cases ‹Bool› <;> rfl
 | g::gs,s=>by
  rw [Xao,Xao,XkR a b ff tf fd td lt gs true,XtE,XtC]
  cases s <;> simp
theorem Xex(t:Str):Xcz (Xf5 t):=by
 unfold Xf5
 split
 ·exact XZ (by decide +kernel)
 ·split
  ·exact XZ (by decide +kernel)
  ·split
   ·exact XZ (by decide +kernel)
   ·exact XZ (by decide +kernel)
theorem XuV(a:List Str)(o:Op):opA (a.map RS) o=(opA a o).map RS:=by
 unfold opA
 split
 ·rfl
 ·rw [XgF];exact Xfj (Xex _) _
theorem XuU(a:List Str)(o:Op):opB (a.map RS) o=(opB a o).map RS:=by
 unfold opB
 split
 ·rfl
 ·rw [XgF];exact Xfj (Xex _) _
theorem XtD(ff tf fd td lt:Str):Xe5 (RS ff) (RS tf) (RS fd) (RS td) (RS lt)=(Xe5 ff tf fd td lt).map RS:=by
 unfold Xe5 Xe9 XkC
 simp only [Xwr,XyC,Xb2,XkT,XaJ (XZ (x:=Xwk "--- ") (by decide +kernel)),XaJ (XZ (x:=Xwk "*** ") (by decide +kernel))]
theorem XtF(a b:List Str)(lt:Str)(g:List Op):Xep (a.map RS) (b.map RS) (RS lt) g=(Xep a b lt g).map RS:=by
 have hA:XbR (a.map RS) g=(XbR a g).map RS:=by
  unfold XbR
  split
  ·exact Xda (XuV a) g
  ·rfl
 have hB:XbG (b.map RS) g=(XbG b g).map RS:=by
  unfold XbG
  split
  ·exact Xda (XuU b) g
  ·rfl
 unfold Xep Xg4 XcK
 simp only [Xwr,XwH,Xb2,hA,hB,XaJ (Xew _ _),XaJ (XZ (x:=Xjf) (by decide +kernel)),XaJ (XZ (x:=Xwk "*** ") (by decide +kernel)),XaJ (XZ (x:=Xwk " ****") (by decide +kernel)),XaJ (XZ (x:=Xwk "--- ") (by decide +kernel)),XaJ (XZ (x:=Xwk " ----") (by decide +kernel))]
theorem XkS(a b:List Str)(ff tf fd td lt:Str):∀ (gs:List (List Op)) (s:Bool),XaR (a.map RS) (b.map RS) (RS ff) (RS tf) (RS fd) (RS td) (RS lt) s gs=(XaR a b ff tf fd td lt s gs).map RS
 | [],_=>by cases ‹Bool› <;> rfl
 | g::gs,s=>by
  rw [XaR,XaR,XkS a b ff tf fd td lt gs true,XtF,XtD]
  cases s <;> simp
theorem Xom{x y:Str}(hx:Xbm x)(hy:Xbm y):Xbm (x++y):=fun c hc=>by
 rw [Xhd,Array.mem_append] at hc
 exact hc.elim (hx c) (hy c)
theorem Xcs{x:Str}(h:Xcz x):Xbm x:=fun c hc => .inl (h c hc)
def Fine(k:Nat)(x:Str):Prop:=Xbm x/\x.length<=k
theorem Fine.app{x y:Str}{k m:Nat}(hx:Fine k x)(hy:Fine m y):Fine (k+m) (x++y):=⟨Xom hx.1 hy.1,by rw [Str.length_append];have:=hx.2;have:=hy.2;omega⟩
theorem Fine.mono{x:Str}{k m:Nat}(hx:Fine k x)(h:k<=m):Fine m x:=⟨hx.1,Xw4 hx.2 h⟩
theorem Xb0{x:Str}{k:Nat}(h:(x.cps.all fun c=>decide (c<128))=true)(hk:decide (x.length<=k)=true):Fine k x:=⟨Xcs (XZ h),of_decide_eq_true hk⟩
theorem XdE{d:Str}(h:Fine 4 d):Fine 8 (Xaq d):=by
 unfold Xaq
 split
 ·exact Xb0 (by decide +kernel) (by decide +kernel)
 ·exact ((Xb0 (k:=1) (x:=Xwk "\t") (by decide +kernel) (by decide +kernel)).app h).mono nofun
theorem XcI{a:List Str}{i j:Nat}{x:Str}(h:x∈Xaw a i j):x∈a:=List.mem_of_mem_drop (List.mem_of_mem_take h)
theorem XdA(a:List Str)(i j:Nat):(Xaw a i j).length<=a.length:=by unfold Xaw;rw [List.length_take,List.length_drop];omega
theorem Xdp{p:Str}{k:Nat}(hp:Fine k p){xs:List Str}(h:∀ x∈xs,Fine 4 x):∀ r∈xs.map (p ++ ·),Fine (k+4) r:=fun r hr=>by
 obtain ⟨x,hx,rfl⟩:=XwJ.mp hr
 exact hp.app (h x hx)
theorem Xr0{a b:List Str}(ha:∀ x∈a,Fine 4 x)(hb:∀ x∈b,Fine 4 x)(o:Op):∀ r∈opU a b o,Fine 8 r:=fun r hr=>by
 unfold opU at hr
 split at hr
 ·exact (Xdp (k:=1) (Xb0 (by decide +kernel) (by decide +kernel)) (fun x hx=>ha x (XcI hx)) r hr).mono nofun
 ·rcases Xw5.mp hr with hr | hr
  ·split at hr
   ·exact (Xdp (k:=1) (Xb0 (by decide +kernel) (by decide +kernel)) (fun x hx=>ha x (XcI hx)) r hr).mono nofun
   ·cases hr
  ·split at hr
   ·exact (Xdp (k:=1) (Xb0 (by decide +kernel) (by decide +kernel)) (fun x hx=>hb x (XcI hx)) r hr).mono nofun
   ·cases hr
theorem Xl3(a b:List Str)(o:Op):(opU a b o).length<=a.length+b.length:=by
 have h1:=XdA a o.i1 o.i2
 have h2:=XdA b o.j1 o.j2
 unfold opU
 split
 ·rw [Xwi];omega
 ·rw [Xwo]
  split <;> split <;> simp only [XwF,Xwi] <;> omega
theorem Xdl{f:Op->List Str}{M:Nat}(h:∀ o,(f o).length<=M):∀ os:List Op,(os.flatMap f).length<=M * os.length
 | []=>by simp
 | o::os=>by
  have h1:=h o
  have h2:=Xdl h os
  rw [List.flatMap_cons,Xwo,Xwn,Nat.mul_succ]
  omega
theorem XeS{f:Op->List Str}{P:Str->Prop}(h:∀ o,∀ r∈f o,P r){os:List Op}:∀ r∈os.flatMap f,P r:=fun r hr=>by
 obtain ⟨o,_,ho⟩:=List.mem_flatMap.mp hr
 exact h o r ho
def XbN(gs:List (List Op)):Nat:=(gs.map XyG).sum
theorem Xky(n:Nat):∀ (codes group:List Op),(Xi n group codes).length<=codes.length+1/\XbN (Xi n group codes)<=group.length+2 * codes.length
 | [],group=>by
  unfold Xi
  split
  ·simp [XbN]
  ·split
   ·simp [XbN]
   ·simp [XbN]
 | o::os,group=>by
  rw [Xi]
  split
  ·have:=Xky n os [⟨o.tag,max o.i1 (o.i2 - n),o.i2,max o.j1 (o.j2 - n),o.j2⟩]
   simp only [XbN,Xwr,List.sum_cons,Xwn,Xwo,XwF] at this ⊢
   omega
  ·have:=Xky n os (group++[o])
   simp only [Xwo,Xwn,XwF] at this ⊢
   omega
theorem Xoh(n:Nat)(codes:List Op):(XC n codes).length<=codes.length+2/\XbN (XC n codes)<=2 * (codes.length+1):=by
 have h:=Xky n (Xbr n codes) []
 have hl:(Xbr n codes).length<=codes.length+1:=by
  unfold Xbr
  rw [Xeh]
  split
  ·rename_i he
   simp [Xb7]
  ·cases codes with
   | nil=>simp [Xb7]
   | cons o os=>simp [Xb7]
 unfold XC
 simp only [XwF] at h
 omega
theorem XlC{a b:List Str}{g:List Op}(h:GrpOk a.length b.length g)(ha:a.length<10 ^ 5)(hb:b.length<10 ^ 5):Fine 100 (XA (Xak g).i1 (XV g).i2)/\Fine 100 (XA (Xak g).j1 (XV g).j2):=by
 have hi:=h.i2
 have h1:=h.ii
 have h2:=h.jj
 exact ⟨⟨Xcs (Xev _ _),XxQ (Xc2 nofun nofun nofun)⟩,⟨Xcs (Xev _ _),XxQ (Xc2 nofun nofun nofun)⟩⟩
theorem XlD{a b:List Str}{g:List Op}(h:GrpOk a.length b.length g)(ha:a.length<10 ^ 5)(hb:b.length<10 ^ 5):Fine 100 (Xp (Xak g).i1 (XV g).i2)/\Fine 100 (Xp (Xak g).j1 (XV g).j2):=by
 have hi:=h.i2
 have h1:=h.ii
 have h2:=h.jj
 exact ⟨⟨Xcs (Xew _ _),XxQ (Xc3 nofun nofun nofun)⟩,⟨Xcs (Xew _ _),XxQ (Xc3 nofun nofun nofun)⟩⟩
theorem Xca(s:String)(h:((Xwk s).cps.all fun c=>decide (c<128))=true)(hk:decide ((Xwk s).length<=20)=true):Fine 20 (Xwk s):=Xb0 h hk
theorem Xju{a b:List Str}{ff tf fd td lt:Str}(ha:∀ x∈a,Fine 4 x)(hb:∀ x∈b,Fine 4 x)(hff:Fine 4 ff)(htf:Fine 4 tf)(hfd:Fine 4 fd)(htd:Fine 4 td)(hlt:Fine 4 lt)(hal:a.length<10 ^ 5)(hbl:b.length<10 ^ 5) :
  ∀ (gs:List (List Op)) (s:Bool),(∀ g∈gs,GrpOk a.length b.length g)->(∀ r∈Xao a b ff tf fd td lt s gs,Fine 400 r)/\(Xao a b ff tf fd td lt s gs).length<=2+3 * gs.length+(a.length+b.length) * XbN gs
 | [],s,_=>by
  refine ⟨fun r hr=>?_,?_⟩
  ·rw [Xao] at hr;cases hr
  ·rw [Xao];simp
 | g::gs,s,hg=>by
  obtain ⟨h1,h2⟩:=Xju ha hb hff htf hfd htd hlt hal hbl gs true fun g hg'=>hg g (Xwh _ hg')
  obtain ⟨r1,r2⟩:=XlC (hg g (Xwf ..)) hal hbl
  have hl:(Xao a b ff tf fd td lt true gs).length<=3 * gs.length+(a.length+b.length) * XbN gs:=by
   clear h1 h2
   have key:∀ gs:List (List Op),(Xao a b ff tf fd td lt true gs).length<=3 * gs.length+(a.length+b.length) * XbN gs:=by
    intro gs
    induction gs with
    | nil=>rw [Xao];simp
    | cons g gs ih =>
     rw [Xao,if_pos rfl,Xwv,Xwo]
     have hf:=Xdl (Xl3 a b) g
     unfold Xeo
     rw [Xwn]
     simp only [XbN,Xwr,List.sum_cons,Xwn,Nat.mul_add] at ih ⊢
     omega
   exact key gs
  rw [Xao]
  refine ⟨fun r hr=>?_,?_⟩
  ·rcases Xw5.mp hr with hr | hr
   ·split at hr
    ·cases hr
    ·unfold Xe4 at hr
     simp only [Xwm,XxO,or_false] at hr
     rcases hr with rfl | rfl
     ·exact ((((Xca "--- " (by decide +kernel) (by decide +kernel)).app hff).app (XdE hfd)).app hlt).mono nofun
     ·exact ((((Xca "+++ " (by decide +kernel) (by decide +kernel)).app htf).app (XdE htd)).app hlt).mono nofun
   ·rcases Xw5.mp hr with hr | hr
    ·unfold Xeo at hr
     rcases Xwm.mp hr with rfl | hr
     ·exact ((((((Xca "@@ -" (by decide +kernel) (by decide +kernel)).app r1).app (Xca " +" (by decide +kernel) (by decide +kernel))).app r2).app (Xca " @@" (by decide +kernel) (by decide +kernel))).app hlt).mono nofun
     ·exact (XeS (Xr0 ha hb) r hr).mono nofun
    ·exact h1 r hr
  ·rw [Xwo,Xwo]
   have hf:=Xdl (Xl3 a b) g
   have hh:(if s=true then [] else Xe4 ff tf fd td lt).length<=2:=by split <;> simp [Xe4]
   unfold Xeo
   rw [Xwn]
   simp only [XbN,Xwr,List.sum_cons,Xwn,Nat.mul_add] at hl ⊢
   omega
theorem Xr2{a:List Str}(ha:∀ x∈a,Fine 4 x)(o:Op):∀ r∈opA a o,Fine 8 r:=fun r hr=>by
 unfold opA at hr
 split at hr
 ·cases hr
 ·exact (Xdp (k:=2) ⟨Xcs (Xex _),Nat.le_of_eq (Xeg _)⟩ (fun x hx=>ha x (XcI hx)) r hr).mono nofun
theorem Xr1{a:List Str}(ha:∀ x∈a,Fine 4 x)(o:Op):∀ r∈opB a o,Fine 8 r:=fun r hr=>by
 unfold opB at hr
 split at hr
 ·cases hr
 ·exact (Xdp (k:=2) ⟨Xcs (Xex _),Nat.le_of_eq (Xeg _)⟩ (fun x hx=>ha x (XcI hx)) r hr).mono nofun
theorem Xtb(a:List Str)(o:Op):(opA a o).length<=a.length:=by
 have h1:=XdA a o.i1 o.i2
 unfold opA
 split
 ·simp
 ·rw [Xwi];exact h1
theorem Xta(a:List Str)(o:Op):(opB a o).length<=a.length:=by
 have h1:=XdA a o.j1 o.j2
 unfold opB
 split
 ·simp
 ·rw [Xwi];exact h1
theorem XrE(a b:List Str)(lt:Str)(g:List Op):(Xep a b lt g).length<=3+(a.length+b.length) * g.length:=by
 have h1:=Xdl (Xtb a) g
 have h2:=Xdl (Xta b) g
 have h3:(XbR a g).length<=a.length * g.length:=by
  unfold XbR
  split
  ·exact h1
  ·exact XwA _
 have h4:(XbG b g).length<=b.length * g.length:=by
  unfold XbG
  split
  ·exact h2
  ·exact XwA _
 unfold Xep
 simp only [Xwn,Xwo,Nat.add_mul]
 omega
theorem Xjv{a b:List Str}{ff tf fd td lt:Str}(ha:∀ x∈a,Fine 4 x)(hb:∀ x∈b,Fine 4 x)(hff:Fine 4 ff)(htf:Fine 4 tf)(hfd:Fine 4 fd)(htd:Fine 4 td)(hlt:Fine 4 lt)(hal:a.length<10 ^ 5)(hbl:b.length<10 ^ 5) :
  ∀ (gs:List (List Op)) (s:Bool),(∀ g∈gs,GrpOk a.length b.length g)->(∀ r∈XaR a b ff tf fd td lt s gs,Fine 400 r)/\(XaR a b ff tf fd td lt s gs).length<=(if s then 0 else 2)+3 * gs.length+(a.length+b.length) * XbN gs
 | [],s,_=>by
  refine ⟨fun r hr=>?_,?_⟩
  ·rw [XaR] at hr;cases hr
  ·rw [XaR];simp
 | g::gs,s,hg=>by
  obtain ⟨h1,h2⟩:=Xjv ha hb hff htf hfd htd hlt hal hbl gs true fun g hg'=>hg g (Xwh _ hg')
  obtain ⟨r1,r2⟩:=XlD (hg g (Xwf ..)) hal hbl
  rw [XaR]
  refine ⟨fun r hr=>?_,?_⟩
  ·rcases Xw5.mp hr with hr | hr
   ·split at hr
    ·cases hr
    ·unfold Xe5 at hr
     simp only [Xwm,XxO,or_false] at hr
     rcases hr with rfl | rfl
     ·exact ((((Xca "*** " (by decide +kernel) (by decide +kernel)).app hff).app (XdE hfd)).app hlt).mono nofun
     ·exact ((((Xca "--- " (by decide +kernel) (by decide +kernel)).app htf).app (XdE htd)).app hlt).mono nofun
   ·rcases Xw5.mp hr with hr | hr
    ·unfold Xep at hr
     rcases Xwm.mp hr with rfl | hr
     ·exact ((Xb0 (k:=20) (x:=Xjf) (by decide +kernel) (by decide +kernel)).app hlt).mono nofun
     rcases Xwm.mp hr with rfl | hr
     ·exact ((((Xca "*** " (by decide +kernel) (by decide +kernel)).app r1).app (Xca " ****" (by decide +kernel) (by decide +kernel))).app hlt).mono nofun
     rcases Xw5.mp hr with hr | hr
     ·unfold XbR at hr
      split at hr
      ·exact (XeS (Xr2 ha) r hr).mono nofun
      ·cases hr
     rcases Xwm.mp hr with rfl | hr
     ·exact ((((Xca "--- " (by decide +kernel) (by decide +kernel)).app r2).app (Xca " ----" (by decide +kernel) (by decide +kernel))).app hlt).mono nofun
     ·unfold XbG at hr
      split at hr
      ·exact (XeS (Xr1 hb) r hr).mono nofun
      ·cases hr
    ·exact h1 r hr
  ·rw [Xwo,Xwo]
   have hf:=XrE a b lt g
   have hh:(if s=true then [] else Xe5 ff tf fd td lt).length<=(if s then 0 else 2):=by split <;> simp [Xe5]
   simp only [if_pos,Nat.zero_add] at h2
   simp only [XbN,Xwr,List.sum_cons,Xwn,Nat.mul_add] at h2 ⊢
   omega
section
theorem Xgz{f:List (Array UInt8)->Int->List (Array UInt8)}(hf:∀ a x,f a x=a∨f a x=a++XL x):∀ (xs:List Int) (a:List (Array UInt8)),chg (xs.foldl f a) ((xs.foldl f a).length - 1)<=chg a (a.length - 1)+xs.length
 | [],a=>XwN _
 | x::xs,a=>by
  have h1:=Xgz hf xs (f a x)
  rw [Xxj,Xwn]
  rcases hf a x with e | e
  ·rw [e] at h1 ⊢;omega
  ·have h2:=Xsc a (XcT (x.natAbs / 12)) (x.natAbs / 3 % 4+1)
   rw [e] at h1 ⊢
   unfold XL at h1 ⊢
   omega
theorem XiH{a:List (Array UInt8)}(h:a.length<=1):chg a (a.length - 1)=0:=by
 rw [show a.length - 1=0 from by omega]
 rfl
theorem Xvu(script:List Int):chg (aOf script) ((aOf script).length - 1)<=62:=by
 have h:=Xgz (f:=Xct) (fun a x=>by unfold Xct;split <;> simp) (restOf script) (XK script).1
 have h1:=Xee script
 rw [XiH (a:=(XK script).1) (by unfold XK;split <;> simp)] at h
 exact Xw4 h nofun
theorem Xvt(script:List Int):chg (bOf script) ((bOf script).length - 1)<=62:=by
 have h:=Xgz (f:=XbB) (fun a x=>by unfold XbB;split <;> simp) (restOf script) (XK script).2
 have h1:=Xee script
 rw [XiH (a:=(XK script).2) (by unfold XK;split <;> simp)] at h
 exact Xw4 h nofun
theorem Xfq{f:Array UInt8->Str}(hf:∀ x y,f x=f y->x=y){a b:List (Array UInt8)}(h:chg a (a.length - 1)+chg b (b.length - 1)<126) :
  (mbW (XH (a.map f) (b.map f)) (0,(a.map f).length,0,(b.map f).length)).length<64 :=
 Xs4 _ _ (by rw [Xid hf,Xid hf,Xwi,Xwi];exact h)
theorem Xap{x:Array UInt8}(h:x.size<=4):Fine 4 (Xe x):=⟨Xtp x,by rw [Xa2];exact h⟩
theorem XgY(a:List (Array UInt8)):a.map XU=(a.map Xe).map RS:=by
 rw [XxH]
 exact Xx6 fun x _=>(XbC x).symm
noncomputable abbrev XbO(a b:List (Array UInt8))(n:Nat):List (List Op):=XC n (Xaz (Xj (XH (a.map Xe) (b.map Xe)) (a.map Xe).length (b.map Xe).length))
theorem Xpr(a b:List (Array UInt8))(n:Nat):XC n (Xaz (Xj (XH (a.map XU) (b.map XU)) (a.map XU).length (b.map XU).length))=XbO a b n:=by
 have e:XH (a.map XU) (b.map XU)=XH (a.map Xe) (b.map Xe):=XrZ Xf1 Xer a b
 rw [e,Xwi,Xwi,XbO,Xwi,Xwi]
theorem Xs6{a b:List (Array UInt8)}:a.map Xe=b.map Xe↔a=b:=by
 constructor
 ·intro h
  refine List.ext_getElem? fun i=>?_
  have:=congrArg (fun l=>l[i]?) h
  simp only [Xw1] at this
  exact (Xb9 Xer _ _).mp this
 ·rintro rfl;rfl
theorem Xps(a b:List (Array UInt8))(n:Nat):XbO a b n=[]↔a=b:=(Xh5 (a.map Xe) (b.map Xe) n).trans Xs6
theorem Xpa(a b:List Str)(ff tf fd td lt:Str)(gs:List (List Op)):Xao a b ff tf fd td lt false gs=[]↔gs=[]:=by
 cases gs with
 | nil=>simp [Xao]
 | cons g gs=>simp [Xao,Xe4]
theorem Xpb(a b:List Str)(ff tf fd td lt:Str)(gs:List (List Op)):XaR a b ff tf fd td lt false gs=[]↔gs=[]:=by
 cases gs with
 | nil=>simp [XaR]
 | cons g gs=>simp [XaR,Xe5]
section
variable{w:XwE}{N:Led}{a b:List (Array UInt8)}{o0 o1 o2 o3 o4:Array UInt8}{n:Nat}
theorem Xkv(hal:a.length<=249)(hbl:b.length<=249):2+3 * (XbO a b n).length+(a.length+b.length) * XbN (XbO a b n)<=2 ^ 20:=by
 have h1:=Xoh n (Xaz (Xj (XH (a.map Xe) (b.map Xe)) (a.map Xe).length (b.map Xe).length))
 have h2:=Xf7 (Xj (XH (a.map Xe) (b.map Xe)) (a.map Xe).length (b.map Xe).length)
 have h3:(Xj (XH (a.map Xe) (b.map Xe)) (a.map Xe).length (b.map Xe).length).length<=(a.map Xe).length+2:=XcE (XbP (eqs (a.map Xe) (b.map Xe)) (XS (a.map Xe) (b.map Xe))) (a.map Xe).length (b.map Xe).length
 have h4:(a.map Xe).length=a.length:=Xwi _
 have h5:(Xaz (Xj (XH (a.map Xe) (b.map Xe)) (a.map Xe).length (b.map Xe).length)).length<=502:=by omega
 have h6:XbN (XbO a b n)<=1006:=by unfold XbO;omega
 have h7:(XbO a b n).length<=504:=by unfold XbO;omega
 have h8:(a.length+b.length) * XbN (XbO a b n)<=498 * 1006:=Nat.mul_le_mul nofun h6
 omega
theorem XpH{R:List Str}(h:∀ r∈R,Fine 400 r):(∀ r∈R,Xbm r/\r.length<2 ^ 20)/\(∀ r∈R.map RS,XoL r/\r.length<2 ^ 20)/\(R.map RS).map agB=R.map Xa1:=by
 refine ⟨fun r hr=>⟨(h r hr).1,by have:=(h r hr).2;omega⟩,fun r hr=>?_,?_⟩
 ·obtain ⟨x,hx,rfl⟩:=XwJ.mp hr
  exact ⟨Xvv (h x hx).1,by rw [XpQ];have:=(h x hx).2;omega⟩
 ·rw [XxH]
  exact Xx6 fun x hx=>Xvw (h x hx).1
theorem XlF(hn:n<10 ^ 5)(hal:a.length<=249)(hbl:b.length<=249)(has:∀ y∈a,y.size<=4)(hbs:∀ y∈b,y.size<=4)(h0:o0.size<=4)(h1:o1.size<=4)(h2:o2.size<=4)(h3:o3.size<=4)(h4:o4.size<=4)
  (hc:chg a (a.length - 1)+chg b (b.length - 1)<126):Xhw w N a b o0 o1 o2 o3 o4 n (.ref 261):=by
 have hla:∀ x∈a.map Xe,Fine 4 x:=fun x hx=>by
  obtain ⟨y,hy,rfl⟩:=XwJ.mp hx
  exact Xap (has y hy)
 have hlb:∀ x∈b.map Xe,Fine 4 x:=fun x hx=>by
  obtain ⟨y,hy,rfl⟩:=XwJ.mp hx
  exact Xap (hbs y hy)
 have l1:(a.map Xe).length=a.length:=Xwi _
 have l2:(b.map Xe).length=b.length:=Xwi _
 have ok:=Xju hla hlb (Xap h0) (Xap h1) (Xap h2) (Xap h3) (Xap h4) nofun nofun (XbO a b n) false (XdD (a.map Xe) (b.map Xe) n nofun)
 have ag:=XpH ok.1
 refine ⟨261,Xao (a.map Xe) (b.map Xe) (Xe o0) (Xe o1) (Xe o2) (Xe o3) (Xe o4) false (XbO a b n),(Xao (a.map Xe) (b.map Xe) (Xe o0) (Xe o1) (Xe o2) (Xe o3) (Xe o4) false (XbO a b n)).map RS,rfl,Xko (XsE _),fun A' hA' led' hN'=>?_,fun A' hA' led' hN'=>?_,ag.1,ag.2.1,ag.2.2,?_,?_⟩
 ·exact XlY hA' hn nofun nofun (by rw [Xa2];omega) (by rw [Xa2];omega) (by rw [Xa2];omega) (by rw [Xa2];omega) (by rw [Xa2];omega) (fun x hx=>by have:=(hla x hx).2;omega) (fun x hx=>by have:=(hlb x hx).2;omega) (Xfq Xer hc)
 ·rw [← XkR,← XgY,← XgY,XbC,XbC,XbC,XbC,XbC,← Xpr]
  have m1:(a.map XU).length=a.length:=Xwi _
  have m2:(b.map XU).length=b.length:=Xwi _
  exact XlY hA' hn nofun nofun (by rw [Xan];omega) (by rw [Xan];omega) (by rw [Xan];omega) (by rw [Xan];omega) (by rw [Xan];omega)
   (fun x hx=>by obtain ⟨y,hy,rfl⟩:=XwJ.mp hx;rw [Xan];have:=has y hy;omega) (fun x hx=>by obtain ⟨y,hy,rfl⟩:=XwJ.mp hx;rw [Xan];have:=hbs y hy;omega) (Xfq Xf1 hc)
 ·exact (Xpa ..).trans (Xps a b n)
 ·have:=Xkv (a:=a) (b:=b) (n:=n) hal hbl
  have h:=ok.2
  rw [l1,l2] at h
  omega
theorem XlG(hNt:Xt7∈N)(hn:n<10 ^ 5)(hal:a.length<=249)(hbl:b.length<=249)(has:∀ y∈a,y.size<=4)(hbs:∀ y∈b,y.size<=4)(h0:o0.size<=4)(h1:o1.size<=4)(h2:o2.size<=4)(h3:o3.size<=4)(h4:o4.size<=4)
  (hc:chg a (a.length - 1)+chg b (b.length - 1)<126):Xhw w N a b o0 o1 o2 o3 o4 n (.ref 276):=by
 have hla:∀ x∈a.map Xe,Fine 4 x:=fun x hx=>by
  obtain ⟨y,hy,rfl⟩:=XwJ.mp hx
  exact Xap (has y hy)
 have hlb:∀ x∈b.map Xe,Fine 4 x:=fun x hx=>by
  obtain ⟨y,hy,rfl⟩:=XwJ.mp hx
  exact Xap (hbs y hy)
 have l1:(a.map Xe).length=a.length:=Xwi _
 have l2:(b.map Xe).length=b.length:=Xwi _
 have ok:=Xjv hla hlb (Xap h0) (Xap h1) (Xap h2) (Xap h3) (Xap h4) nofun nofun (XbO a b n) false (XdD (a.map Xe) (b.map Xe) n nofun)
 have ag:=XpH ok.1
 refine ⟨276,XaR (a.map Xe) (b.map Xe) (Xe o0) (Xe o1) (Xe o2) (Xe o3) (Xe o4) false (XbO a b n),(XaR (a.map Xe) (b.map Xe) (Xe o0) (Xe o1) (Xe o2) (Xe o3) (Xe o4) false (XbO a b n)).map RS,rfl,Xko (XsD _),fun A' hA' led' hN'=>?_,fun A' hA' led' hN'=>?_,ag.1,ag.2.1,ag.2.2,?_,?_⟩
 ·exact Xl9 hA' hNt hn nofun nofun (by rw [Xa2];omega) (by rw [Xa2];omega) (by rw [Xa2];omega) (by rw [Xa2];omega) (by rw [Xa2];omega) (fun x hx=>by have:=(hla x hx).2;omega) (fun x hx=>by have:=(hlb x hx).2;omega) (Xfq Xer hc)
 ·rw [← XkS,← XgY,← XgY,XbC,XbC,XbC,XbC,XbC,← Xpr]
  have m1:(a.map XU).length=a.length:=Xwi _
  have m2:(b.map XU).length=b.length:=Xwi _
  exact Xl9 hA' hNt hn nofun nofun (by rw [Xan];omega) (by rw [Xan];omega) (by rw [Xan];omega) (by rw [Xan];omega) (by rw [Xan];omega)
   (fun x hx=>by obtain ⟨y,hy,rfl⟩:=XwJ.mp hx;rw [Xan];have:=has y hy;omega) (fun x hx=>by obtain ⟨y,hy,rfl⟩:=XwJ.mp hx;rw [Xan];have:=hbs y hy;omega) (Xfq Xf1 hc)
 ·exact (Xpb ..).trans (Xps a b n)
 ·have:=Xkv (a:=a) (b:=b) (n:=n) hal hbl
  have h:=ok.2
  rw [l1,l2] at h
  simp only [XwX,if_false] at h
  omega
end
theorem XrG{w:XwE}{A:Xww}{script:List Int}{led:Led}(hA:Room A 400)(hs:script.length<=63) :
  TC P04 w A (B04 w) (.ref 313) [.lst (script.map .int)] [] ((271,Xac Xbx)::(286,Xac Xby)::led) fun v led'=>v = .bool true/\NIn [(271,Xac Xbx),(286,Xac Xby)] led':=by
 have ho:∀ k,(Xw script k).size<=4:=fun k=>XeU _
 have hn:nOf script<10 ^ 5:=Nat.lt_of_lt_of_le (Nat.mod_lt _ nofun) nofun
 have hc:chg (aOf script) ((aOf script).length - 1)+chg (bOf script) ((bOf script).length - 1)<126:=by
  have:=Xvu script
  have:=Xvt script
  omega
 exact XrF hA hs (XlF hn (Xig _) (Xie _) (XgB _) (XgA _) (ho _) (ho _) (ho _) (ho _) (ho _) hc)
  (XlG (Xwf ..) hn (Xig _) (Xie _) (XgB _) (XgA _) (ho _) (ho _) (ho _) (ho _) (ho _) hc)
end
section
theorem XdP(ts:List XwR):∀ (K:Frag) (a:XwR) (o:Obj),(K.filter fun p => !ts.contains p.1).lookup a=some o->K.lookup a=some o/\ts.contains a=false
 | [],a,o,h=>by cases h
 | p::K,a,o,h=>by
  rw [XwB]
  by_cases hp:ts.contains p.1
  ·rw [List.filter_cons_of_neg (by simpa using hp)] at h
   obtain ⟨h1,h2⟩:=XdP ts K a o h
   have hne:(a == p.1)=false:=by
    rw [beq_eq_false_iff_ne]
    rintro rfl
    rw [hp] at h2;cases h2
   rw [hne]
   exact ⟨h1,h2⟩
  ·rw [List.filter_cons_of_pos (by simpa using hp),XwB] at h
   cases q:a == p.1 with
   | true =>
    rw [q] at h
    rw [beq_iff_eq.mp q]
    exact ⟨h,by simpa using hp⟩
   | false =>
    rw [q] at h
    exact XdP ts K a o h
theorem Xl5{R:WRecords}:∀ {xs:List WData},WShape.hasItems R xs .int=true->∃ ns:List Int,xs=ns.map .int
 | [],_=>⟨[],rfl⟩
 | x::xs,h=>by
  simp only [WShape.hasItems,Xxn] at h
  obtain ⟨i,rfl⟩:=hasW_int h.1
  obtain ⟨ns,rfl⟩:=Xl5 h.2
  exact ⟨i::ns,rfl⟩
theorem Xo6{l:OpenLaw}(hm:l.most=some 63)(hb:l.bound=none){args:List WData}(h:l.row.toRowW.claim.pre args=true):∃ script:List Int,args=[.list (script.map .int)]/\script.length<=63:=by
 obtain ⟨h1,h2⟩:=pre_splitW h
 obtain ⟨d,r,rfl,h3,h4⟩:=hasAllW_cons (e := .list .int) (es:=[]) h1
 obtain rfl:=hasAllW_nil h4
 obtain ⟨xs,rfl,h5⟩:=hasW_list h3
 obtain ⟨ns,rfl⟩:=Xl5 h5
 refine ⟨ns,rfl,?_⟩
 have h2:WTm.holds l.row.toRowW.records l.pre {args:=[.list (ns.map .int)]}=true:=h2
 unfold OpenLaw.pre at h2
 rw [hm,hb] at h2
 by_cases q:ns.length<=63
 ·exact q
 ·exfalso
  have e0:(WTm.len (.arg 0)).value l.row.toRowW.records {args:=[.list (ns.map .int)]}=some (.int ns.length):=by simp [WTm.value]
  have e1:=w_lt (a := .lit (.int (63:Nat))) (b := .len (.arg 0)) (R:=l.row.toRowW.records) (e:={ args:=[.list (ns.map .int)]}) rfl e0
  rw [decide_eq_true nofun] at e1
  have e2:(WTm.not (.lt (.lit (.int (63:Nat))) (.len (.arg 0)))).value l.row.toRowW.records {args:=[.list (ns.map .int)]}=some (.bool false):=by rw [WTm.value,e1];rfl
  unfold WTm.holds at h2
  rw [WTm.value,e2] at h2
  cases h2
theorem XlX{P:Xwj}{h:Heap}{Z:Frz}:∀ {ns:List Int} {vs:List Value},WellAll P h vs (ns.map .int)->Vals Z (ns.map .int) vs
 | [],_,w=>by cases w;exact .nil
 | n::ns,_,w=>by
  cases w with
  | cons w1 w2=>cases w1;exact .cons (.int _ _) (XlX w2)
theorem XsB{K:Frag}{h:Heap}{c P:XwR}{o:Obj}(hK:K.In h)(h1:K.lookup c=some o)(h2:o.cls = .type "code")(h3:o.data = .fields (Xs o))(h4:(Xs o)[11]? = some (.ref P)):isCodeTable h P:=⟨c,o,_,hK _ _ h1,h2,h3,h4⟩
theorem XfB{h h':Heap}{b:XwR}{o o':Obj}{q:Str}{Z:Frz}(ho:o=⟨.none,none,.fields ⟨[]⟩,⟨[]⟩⟩)(hT:isCodeTable h b)(hg:h'.get? b=some o')(hp:Xmu q Z o'):asItWas h h' b o:=by
 obtain ⟨⟨_,h1,h2,h3⟩,ps,h4,_⟩:=hp
 subst ho
 refine .inr (.inl ⟨hT,rfl,#[],ps,rfl,?_⟩)
 rw [hg]
 obtain ⟨c,d,dt,sl⟩:=o'
 dsimp only at h1 h2 h3 h4
 subst h1 h2 h3 h4
 simp
theorem Xlj:Room callerA 400:=⟨rfl,by decide +kernel,by decide +kernel⟩
theorem Xt5:WalkO qV Xdi (fun _ _=>True) XbF.says PySem.Challenge.rw_dm0049_04.row.toRowW Xem [] (fun f vs=>PySem.call f vs):=by
 intro w s₀ s₁ mg mb G Y a o pm cd doc dV kV ho hod hcr hdf hmg hgens args vals as hpre hlay hrd hwell hsys
 have hK:(KO w.params).In s₁.heap:=kIn_of Y
 obtain ⟨og,es,ep,hog,hd,hk,hm⟩:=id G.T.g
 have hog':s₁.heap.get? XxF=some (Xcq w.params):=hK _ _ @_
 rw [hog'] at hog
 obtain rfl:=Xx9 hog
 have hes:Xeq (Xcq w.params)=es:=by unfold Xeq;rw [hd]
 have ha:a=313:=by
  have h1:=hm Xem.name
  rw [hmg,← hes] at h1
  have h2:nsFind (Xeq (Xcq w.params)) Xem.name=some (.ref 313):=@_
  rw [h2] at h1
  injection h1 with h1
  injection h1 with h1
  exact h1.symm
 subst ha
 obtain ⟨script,rfl,hs⟩:=Xo6 (l:=PySem.Challenge.rw_dm0049_04) rfl rfl hpre
 obtain _ | ⟨w1,w2⟩:=hwell
 cases w2
 cases w1 with
 | @list b vs _ hget hwv =>
  have h271:s₁.heap.get? 271=some (XjF w.params):=hK _ _ @_
  have h286:s₁.heap.get? 286=some (XjD w.params):=hK _ _ @_
  have n271:(271:XwR)≠b:=fun e=>by
   rw [e,hget] at h271
   have:=congrArg (fun o=>o.map Obj.cls) h271
   have e2:(XjF w.params).cls = .none:=@_
   simp [e2] at this
  have n286:(286:XwR)≠b:=fun e=>by
   rw [e,hget] at h286
   have:=congrArg (fun o=>o.map Obj.cls) h286
   have e2:(XjD w.params).cls = .none:=@_
   simp [e2] at this
  have hB:∀ x ox,B04 w x=some ox->s₁.heap.get? x=some ox:=fun x ox e=>hK _ _ (XdP XoY _ _ _ e).1
  have b271:B04 w 271=none:=@_
  have b286:B04 w 286=none:=@_
  have hle:Frz.le (B04 w) ((B04 w).add b {cls := .type "list",data := .seq vs.toArray}):=fun x ox e=>by
   unfold Frz.add
   by_cases q:x=b
   ·rw [if_pos q]
    have:=hB _ _ e
    rw [q,hget] at this
    exact this
   ·rw [if_neg q];exact e
  have S:SimL (B04 w) s₁ ((B04 w).add b {cls := .type "list",data := .seq vs.toArray}) [(271,Xac Xbx),(286,Xac Xby)]:=by
   refine ⟨hle,fun x ox e=>?_,by simp [keys],fun p hp=>?_,fun p hp=>?_,by simp [gkeys,AObj.gnum],fun x hx=>by rw [hgens] at hx;simp at hx⟩
   ·unfold Frz.add at e
    by_cases q:x=b
    ·rw [if_pos q] at e;cases e;rw [q];exact hget
    ·rw [if_neg q] at e;exact hB _ _ e
   ·simp only [Xwm,XxO,or_false] at hp
    unfold Frz.add
    rcases hp with rfl | rfl
    ·rw [if_neg n271];exact b271
    ·rw [if_neg n286];exact b286
   ·simp only [Xwm,XxO,or_false] at hp
    rcases hp with rfl | rfl
    ·exact ⟨_,h271,⟨@_,@_,@_,@_⟩,#[],@_,trivial,fun pos cv e=>by cases e⟩
    ·exact ⟨_,h286,⟨@_,@_,@_,@_⟩,#[],@_,trivial,fun pos cv e=>by cases e⟩
  refine Xyl (XrG (script:=script) (led:=[]) Xlj hs s₁ _ (.ref 313) [.ref b] [] S (.ref _) (.cons (.lst (Frz.add_at ..) (XlX hwv)) .nil) .nil _ fun v x s' Z' led' k S' V X=>?_)
  obtain ⟨rfl,hN⟩:=k
  cases V
  have g271:=S'.own _ (hN _ (Xwf ..))
  have g286:=S'.own _ (hN _ (Xwh _ (Xwf ..)))
  obtain ⟨p271,q271,r271⟩:=g271
  obtain ⟨p286,q286,r286⟩:=g286
  have kept:∀ x ox,x≠271->x≠286->s₁.heap.get? x=some ox->s'.heap.get? x=some ox:=fun x ox n1 n2 e=>X.kept x ox e fun h=>by
   have h:x∈keys [((271:XwR),Xac Xbx),((286:XwR),Xac Xby)]:=h
   simp only [keys,Xwr,XyC,Xwm,XxO,or_false] at h
   exact h.elim n1 n2
  refine ⟨.inl ⟨.bool true,.bool true,[],rfl,fun _=>rfl,.bool true,?_,fun _=>⟨List.nodup_nil,fun a ha=>by cases ha⟩⟩,⟨fun x ox e=>?_,fun x ox e=>?_⟩,X.os,S'.bare⟩
  ·show (WShape.has PySem.Challenge.rw_dm0049_04.row.toRowW.records (.bool true) .bool && WTm.holds PySem.Challenge.rw_dm0049_04.row.toRowW.records (.eq .res (.lit (.bool true))) _)=true
   rw [Xxn]
   exact ⟨by simp [WShape.has,WShape.arms],by simp [WTm.holds,WTm.value,same]⟩
  ·by_cases n1:x=271
   ·subst n1
    rw [h271] at e
    obtain rfl:=Xx9 e
    exact XfB @_ (XsB (c:=275) (o:=Xgb w.params) hK @_ @_ @_ @_) q271 r271
   ·by_cases n2:x=286
    ·subst n2
     rw [h286] at e
     obtain rfl:=Xx9 e
     exact XfB @_ (XsB (c:=290) (o:=Xga w.params) hK @_ @_ @_ @_) q286 r286
    ·exact .inl (kept x ox n1 n2 e)
  ·by_cases n1:x=271
   ·subst n1;exact ⟨_,q271⟩
   ·by_cases n2:x=286
    ·subst n2;exact ⟨_,q286⟩
    ·exact ⟨_,kept x ox n1 n2 e⟩
theorem Xwd:PySem.Challenge.rw_dm0049_04.Holds:=XrN Xt5
end
end
end Mine
theorem PySem.Challenge.cw_dm0049_04_holds : PySem.Challenge.rw_dm0049_04.Holds :=
  Mine.Xwd
