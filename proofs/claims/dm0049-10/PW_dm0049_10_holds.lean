import PyProof.Rows.All
import Wide.All
import OpenK.AllK
import Wide.FinOn
import PyProof.DictItems
import PyProof.Rows.SortShellK
import KE.KSetIn
import KE.KBytesWalk
import KE.BytesMake
import PyProof.Rows.CallKw2
import PyProof.SliceMore
import KE.KIntText
import Lean
import PySem.Challenge.RW_dm0049_10
open PySem renaming wpAny_bind → Yh, wpAny_pure → Yj, Params → Ym, Shared → Yo, wpAny_holding → Yw, Around → Yz, Program → YA, model → YG, World → YH, wpAny → YJ, strKind → YT, wpAny_standAt → YU, Addr → YV, builtinLookup_eq_fast → YW, sizeLine → Zc, wpAny_call_entry → Zf, wpAny_mono → Zk, starEach → Zl, wpAny_callSpecial?_slot → Zn, wpAny_newObj_type → Zo, isSubtype_type → Zp, wpAny_of_eq → Zr, typeLookup_type → Zs, letOwnedTupleGo → Zt, sizeLine_eq → ZD, rawInt → ZG, eval → ZI, typeLookup → ZJ, wpAny_rule → ZM, mainGlobals → ZP, assign → ZQ, wpAny_isInstance → ZV, assignEach → ZZ, wpAny_seqItems → a8, wpAny_fieldsOf → a9, recursionLimit → b0, Builtin → c5, codeAny_call_builtin → d3, sysModules → d5, pyNext → e9, builtinsNs → f0, entryFor_of_tree → f1, wpAny_attempt → f2, firstArgMember → f6, wpAny_call → f9, compareOp → g5, backTo → g6, wpAny_field → j4, foldedSetIterable → j8, codeAny_builtin → j9, intKind → k6, GenState → l3, isSubtype → l4, FuncData → m3, wpAny_specialOf → m4, storeName → m5, holding → m6, codeAmong → m7, closureFor_none → m8, argsOk → m9, KeyKind → n8
open List renaming mem_cons_self → Yi, mem_cons_of_mem → Yk, length_map → Yl, mem_cons → Yp, length_cons → Yq, length_append → Yr, map_cons → Yu, cons_append → Yv, perm_append_comm → Yx, nil_append → Yy, mem_singleton → YB, nodup_cons → YC, lookup_cons → YE, mem_map_of_mem → YF, length_nil → YI, map_append → YK, getElem?_eq_getElem → YL, mem_map → YM, append_assoc → YN, reverse_cons → YO, mem_append_right → YQ, all_eq_true → YY, getElem?_map → Ze, mem_append → Zh, mem_append_left → Zq, foldl_cons → Zu, append_nil → Zv, range' → Zx, filterMap_cons → ZK, map_map → ZR, drop_of_length_le → ZS, drop_eq_getElem_cons → ZT, perm_middle → ZX, not_mem_nil → ZY, getElem?_eq_none → a7, mem_filter → c7, find?_cons → c8, map_congr_left → d6, length_singleton → d9, zip_cons_cons → g8, pairwise_cons → g9, filterMap_append → i9, getElem?_eq_some_iff → j5, map_nil → k5, length → k9, filterMap_map → m0, eq_nil_or_concat → n5, concat_eq_append → n6, flatMap_cons → o7, flatMap_append → o9, length_drop → p9, forall_mem_cons → s7
open PySem.Str renaming ofString → Yn
open PySem.Heap renaming get?_push_size → Ys, get?_push_of_some → Yt, SameBut → YS, get?_update_self → YZ, lt_size → Zj, size_push → l7
open Nat renaming zero_le → YD, le_refl → YR, le_trans → Zg, lt_or_ge → ZA, le_of_ble_eq_true → ZB, ne_of_lt → ZE, le_of_lt → a6, lt_irrefl → d7, lt_succ_self → g4, le_add_right → n9, lt_of_le_of_lt → o0, succ_add_eq_add_succ → o4, le_of_eq → o5, lt_of_lt_of_le → o6, add_sub_cancel_left → o8, add_le_add_left → p5, add_assoc → p6, succ_le_succ → p8, zero_add → r0, add_le_add_right → r6, sub_le → r7, add_le_add → r8, le_succ_of_le → r9, lt_add_of_pos_right → s6
open PySem.Heap.SameBut renaming update → YX
open Bool renaming false_eq_true → Za, false_ne_true → Zd, and_eq_true → Zy, eq_iff_iff → k4
open Int renaming toNat_natCast → Zb, natCast_nonneg → p7
open PySem.Obj renaming mapSeq → Zi, mapFields → c6, isFreed_of_fields → g7, data_mapFields → l9
open PySem.W renaming peek → Zm, boot_drawn → ZN
open PySem.W.KFB renaming if_not → Zw
open PySem.Sem renaming bind_eq_wrap' → Zz, wrap_wrap → ZW, onRaise_eq_wrap → k7
open PySem.Value renaming none → ZC, type → l5
open Option renaming map_eq_some_iff → ZF
open Array renaming mk → ZH, length_toList → ZL, getElem?_eq_getElem → ZU, getElem?_toList → e8, perm_iff_toList_perm → f8
open Option.some renaming injEq → ZO, inj → d8
open Pure renaming pure → b9
open List.Perm renaming swap → c0, cons → j6, append_left → n7
open List.cons renaming inj → c9
open PySem.F renaming slot_tuple_iterator_next → d4
open PySem.W.Fast renaming te10110043849684766642 → f7
open PySem.Calls renaming Constant_str → j3
open PySem.Around renaming under_plainId → j7
open PySem.W.Looks renaming of_peek → k8
open PySem.W.SharedT renaming mk → l6
open ToString renaming toString → l8
open PySem PySem.W
set_option Elab.async false
set_option linter.all false
set_option maxRecDepth 100000
set_option maxHeartbeats 0
set_option tactic.hygienic false
set_option compiler.extract_closed false
local macro_rules | `(@_) => `(by kernel_rfl)
local macro_rules | `(⋯) => `(by omega)
local macro_rules |`($a:term → $b)=>`(∀$(Lean.mkIdent `O):ident:$a,$b)
local macro_rules |`(tactic|omega)=>`(tactic|first|exact Nat.le_of_ble_eq_true rfl|with_reducible assumption|exact Nat.lt_of_lt_of_le (by with_reducible assumption) (Nat.le_of_ble_eq_true (by rfl))|exact Nat.le_of_lt (Nat.lt_of_lt_of_le (by with_reducible assumption) (Nat.le_of_ble_eq_true (by rfl)))|exact Nat.lt_of_le_of_lt (by with_reducible assumption) (Nat.le_of_ble_eq_true (by rfl))|lia|omega (splitNatSub:=true))
namespace Mine.Internal
noncomputable abbrev s8:Str:=⟨⟨[95,95,100,101,98,117,103,95,95]⟩⟩
section
set_option autoImplicit true
variable{P:Prop}
theorem aL{p q:Prop}(h:p/\q)(c:p->q->P):P:=c h.1 h.2
theorem dM{p q r:Prop}(h:p/\q/\r)(c:p->q->r->P):P:=c h.1 h.2.1 h.2.2
theorem tZ{p q r s:Prop}(h:p/\q/\r/\s)(c:p->q->r->s->P):P:=c h.1 h.2.1 h.2.2.1 h.2.2.2
theorem Hq{p q r s t:Prop}(h:p/\q/\r/\s/\t)(c:p->q->r->s->t->P):P:=c h.1 h.2.1 h.2.2.1 h.2.2.2.1 h.2.2.2.2
theorem XY{p q r s t k:Prop}(h:p/\q/\r/\s/\t/\k)(c:p->q->r->s->t->k->P):P:=c h.1 h.2.1 h.2.2.1 h.2.2.2.1 h.2.2.2.2.1 h.2.2.2.2.2
theorem Hp{p q r s t k l m n:Prop}(h:p/\q/\r/\s/\t/\k/\l/\m/\n)(c:p->q->r->s->t->k->l->m->n->P):P:=c h.1 h.2.1 h.2.2.1 h.2.2.2.1 h.2.2.2.2.1 h.2.2.2.2.2.1 h.2.2.2.2.2.2.1 h.2.2.2.2.2.2.2.1 h.2.2.2.2.2.2.2.2
theorem XZ{p q r s t k l m n o:Prop}(h:p/\q/\r/\s/\t/\k/\l/\m/\n/\o)(c:p->q->r->s->t->k->l->m->n->o->P):P:=c h.1 h.2.1 h.2.2.1 h.2.2.2.1 h.2.2.2.2.1 h.2.2.2.2.2.1 h.2.2.2.2.2.2.1 h.2.2.2.2.2.2.2.1 h.2.2.2.2.2.2.2.2.1 h.2.2.2.2.2.2.2.2.2
theorem aq{p:a->Prop}(h:∃x,p x)(c:∀x,p x->P):P:=h.elim fun x h=>c x h
theorem ae{p q:a->Prop}(h:∃x,p x/\q x)(c:∀x,p x->q x->P):P:=h.elim fun x h=>aL h (c x)
theorem aZ{p q r:a->Prop}(h:∃x,p x/\q x/\r x)(c:∀x,p x->q x->r x->P):P:=h.elim fun x h=>dM h (c x)
theorem iT{p q r s:a->Prop}(h:∃x,p x/\q x/\r x/\s x)(c:∀x,p x->q x->r x->s x->P):P:=h.elim fun x h=>tZ h (c x)
theorem zx{p q r s t:a->Prop}(h:∃x,p x/\q x/\r x/\s x/\t x)(c:∀x,p x->q x->r x->s x->t x->P):P:=h.elim fun x h=>Hq h (c x)
theorem zw{p:a->b->Prop}(h:∃x y,p x y)(c:∀x y,p x y->P):P:=h.elim fun x h=>aq h (c x)
theorem bK{p q:a->b->Prop}(h:∃x y,p x y/\q x y)(c:∀x y,p x y->q x y->P):P:=h.elim fun x h=>ae h (c x)
theorem bw{p q r:a->b->Prop}(h:∃x y,p x y/\q x y/\r x y)(c:∀x y,p x y->q x y->r x y->P):P:=h.elim fun x h=>aZ h (c x)
theorem pH{p q r s:a->b->Prop}(h:∃x y,p x y/\q x y/\r x y/\s x y)(c:∀x y,p x y->q x y->r x y->s x y->P):P:=h.elim fun x h=>iT h (c x)
theorem Ho{p q r s t:a->b->Prop}(h:∃x y,p x y/\q x y/\r x y/\s x y/\t x y)(c:∀x y,p x y->q x y->r x y->s x y->t x y->P):P:=h.elim fun x h=>zx h (c x)
theorem my{p q r s t k:a->b->Prop}(h:∃x y,p x y/\q x y/\r x y/\s x y/\t x y/\k x y)(c:∀x y,p x y->q x y->r x y->s x y->t x y->k x y->P):P:=h.elim fun x h=>h.elim fun y h=>c x y h.1 h.2.1 h.2.2.1 h.2.2.2.1 h.2.2.2.2.1 h.2.2.2.2.2
theorem kj{p q:a->b->c->Prop}(h:∃x y z,p x y z/\q x y z)(c:∀x y z,p x y z->q x y z->P):P:=h.elim fun x h=>bK h (c x)
theorem bv{p q r:a->b->c->Prop}(h:∃x y z,p x y z/\q x y z/\r x y z)(c:∀x y z,p x y z->q x y z->r x y z->P):P:=h.elim fun x h=>bw h (c x)
theorem ki{p q r s:a->b->c->Prop}(h:∃x y z,p x y z/\q x y z/\r x y z/\s x y z)(c:∀x y z,p x y z->q x y z->r x y z->s x y z->P):P:=h.elim fun x h=>pH h (c x)
theorem pG{p q r s t:a->b->c->Prop}(h:∃x y z,p x y z/\q x y z/\r x y z/\s x y z/\t x y z)(c:∀x y z,p x y z->q x y z->r x y z->s x y z->t x y z->P):P:=h.elim fun x h=>Ho h (c x)
theorem pF{p q r s t k:a->b->c->Prop}(h:∃x y z,p x y z/\q x y z/\r x y z/\s x y z/\t x y z/\k x y z)(c:∀x y z,p x y z->q x y z->r x y z->s x y z->t x y z->k x y z->P):P:=h.elim fun x h=>my h (c x)
theorem XW{p q r s t k l:a->b->c->Prop}(h:∃x y z,p x y z/\q x y z/\r x y z/\s x y z/\t x y z/\k x y z/\l x y z)(c:∀x y z,p x y z->q x y z->r x y z->s x y z->t x y z->k x y z->l x y z->P):P:=h.elim fun x h=>h.elim fun y h=>h.elim fun z h=>c x y z h.1 h.2.1 h.2.2.1 h.2.2.2.1 h.2.2.2.2.1 h.2.2.2.2.2.1 h.2.2.2.2.2.2
theorem tY{p q r s t k l m n:a->b->c->Prop}(h:∃x y z,p x y z/\q x y z/\r x y z/\s x y z/\t x y z/\k x y z/\l x y z/\m x y z/\n x y z)(c:∀x y z,p x y z->q x y z->r x y z->s x y z->t x y z->k x y z->l x y z->m x y z->n x y z->P):P:=h.elim fun x h=>h.elim fun y h=>h.elim fun z h=>c x y z h.1 h.2.1 h.2.2.1 h.2.2.2.1 h.2.2.2.2.1 h.2.2.2.2.2.1 h.2.2.2.2.2.2.1 h.2.2.2.2.2.2.2.1 h.2.2.2.2.2.2.2.2
theorem Hn{p q:a->b->c->d->Prop}(h:∃x y z u,p x y z u/\q x y z u)(c:∀x y z u,p x y z u->q x y z u->P):P:=h.elim fun x h=>kj h (c x)
theorem ed{p q r:a->b->c->d->Prop}(h:∃x y z u,p x y z u/\q x y z u/\r x y z u)(c:∀x y z u,p x y z u->q x y z u->r x y z u->P):P:=h.elim fun x h=>bv h (c x)
theorem Hm{p q r s:a->b->c->d->Prop}(h:∃x y z u,p x y z u/\q x y z u/\r x y z u/\s x y z u)(c:∀x y z u,p x y z u->q x y z u->r x y z u->s x y z u->P):P:=h.elim fun x h=>ki h (c x)
theorem XV{p q r s t:a->b->c->d->Prop}(h:∃x y z u,p x y z u/\q x y z u/\r x y z u/\s x y z u/\t x y z u)(c:∀x y z u,p x y z u->q x y z u->r x y z u->s x y z u->t x y z u->P):P:=h.elim fun x h=>pG h (c x)
theorem XU{p q r s t:a->b->c->d->e->Prop}(h:∃x y z u v,p x y z u v/\q x y z u v/\r x y z u v/\s x y z u v/\t x y z u v)(c:∀x y z u v,p x y z u v->q x y z u v->r x y z u v->s x y z u v->t x y z u v->P):P:=h.elim fun x h=>XV h (c x)
theorem Hl{p q r s t k l m n:a->b->c->d->e->Prop}(h:∃x y z u v,p x y z u v/\q x y z u v/\r x y z u v/\s x y z u v/\t x y z u v/\k x y z u v/\l x y z u v/\m x y z u v/\n x y z u v)(c:∀x y z u v,p x y z u v->q x y z u v->r x y z u v->s x y z u v->t x y z u v->k x y z u v->l x y z u v->m x y z u v->n x y z u v->P):P:=h.elim fun x h=>h.elim fun y h=>h.elim fun z h=>h.elim fun u h=>h.elim fun v h=>c x y z u v h.1 h.2.1 h.2.2.1 h.2.2.2.1 h.2.2.2.2.1 h.2.2.2.2.2.1 h.2.2.2.2.2.2.1 h.2.2.2.2.2.2.2.1 h.2.2.2.2.2.2.2.2
theorem tX{p q:a->b->c->d->e->f->Prop}(h:∃x y z u v w,p x y z u v w/\q x y z u v w)(c:∀x y z u v w,p x y z u v w->q x y z u v w->P):P:=h.elim fun x h=>h.elim fun y h=>h.elim fun z h=>h.elim fun u h=>h.elim fun v h=>h.elim fun w h=>c x y z u v w h.1 h.2
theorem bQ{p q:a->Prop}(x)(h0:p x)(h1:q x):∃x,p x/\q x:=⟨x,h0,h1⟩
theorem gJ{p q r:a->Prop}(x)(h0:p x)(h1:q x)(h2:r x):∃x,p x/\q x/\r x:=⟨x,h0,h1,h2⟩
theorem WA{p q r s:a->Prop}(x)(h0:p x)(h1:q x)(h2:r x)(h3:s x):∃x,p x/\q x/\r x/\s x:=⟨x,h0,h1,h2,h3⟩
theorem ze{p:a->b->Prop}(x)(y)(h0:p x y):∃x y,p x y:=⟨x,y,h0⟩
theorem dZ{p q:a->b->Prop}(x)(y)(h0:p x y)(h1:q x y):∃x y,p x y/\q x y:=⟨x,y,h0,h1⟩
theorem tQ{p q r:a->b->Prop}(x)(y)(h0:p x y)(h1:q x y)(h2:r x y):∃x y,p x y/\q x y/\r x y:=⟨x,y,h0,h1,h2⟩
theorem GP{p q r s:a->b->Prop}(x)(y)(h0:p x y)(h1:q x y)(h2:r x y)(h3:s x y):∃x y,p x y/\q x y/\r x y/\s x y:=⟨x,y,h0,h1,h2,h3⟩
theorem Wz{p q:a->b->c->Prop}(x)(y)(z)(h0:p x y z)(h1:q x y z):∃x y z,p x y z/\q x y z:=⟨x,y,z,h0,h1⟩
theorem GO{p q r:a->b->c->Prop}(x)(y)(z)(h0:p x y z)(h1:q x y z)(h2:r x y z):∃x y z,p x y z/\q x y z/\r x y z:=⟨x,y,z,h0,h1,h2⟩
theorem Wy{p q r s:a->b->c->Prop}(x)(y)(z)(h0:p x y z)(h1:q x y z)(h2:r x y z)(h3:s x y z):∃x y z,p x y z/\q x y z/\r x y z/\s x y z:=⟨x,y,z,h0,h1,h2,h3⟩
theorem iP{p q r:a->b->c->d->Prop}(x)(y)(z)(u)(h0:p x y z u)(h1:q x y z u)(h2:r x y z u):∃x y z u,p x y z u/\q x y z u/\r x y z u:=⟨x,y,z,u,h0,h1,h2⟩
theorem Wx{p q r s:a->b->c->d->Prop}(x)(y)(z)(u)(h0:p x y z u)(h1:q x y z u)(h2:r x y z u)(h3:s x y z u):∃x y z u,p x y z u/\q x y z u/\r x y z u/\s x y z u:=⟨x,y,z,u,h0,h1,h2,h3⟩
theorem Ww{p q r s t k:a->b->c->d->Prop}(x)(y)(z)(u)(h0:p x y z u)(h1:q x y z u)(h2:r x y z u)(h3:s x y z u)(h4:t x y z u)(h5:k x y z u):∃x y z u,p x y z u/\q x y z u/\r x y z u/\s x y z u/\t x y z u/\k x y z u:=⟨x,y,z,u,h0,h1,h2,h3,h4,h5⟩
theorem Wv{p q r s t k l m:a->b->c->d->Prop}(x)(y)(z)(u)(h0:p x y z u)(h1:q x y z u)(h2:r x y z u)(h3:s x y z u)(h4:t x y z u)(h5:k x y z u)(h6:l x y z u)(h7:m x y z u):∃x y z u,p x y z u/\q x y z u/\r x y z u/\s x y z u/\t x y z u/\k x y z u/\l x y z u/\m x y z u:=⟨x,y,z,u,h0,h1,h2,h3,h4,h5,h6,h7⟩
end
theorem aG{α:Type}{P:α->Prop}(x:α)(h:x∈[]):P x:=(ZY h).elim
noncomputable def tJ{α:Type _}(p:α->Bool)(l:List α):Bool :=
 @List.rec α (fun O=>Bool) false (fun a O ih=>@Bool.rec (fun O=>Bool) ih true (p a)) l
theorem UU{α:Type _}(p:α->Bool)(l:List α):tJ p l=l.any p:=by
 induction l with
 |nil=>rfl
 |cons a l ih =>
  show @Bool.rec (fun O=>Bool) (tJ p l) true (p a)=_
  rw[List.any_cons,← ih]
  cases p a <;> rfl
noncomputable def yS{α:Type _}(as:Array α)(p:α->Bool)(start stop:Nat):Bool :=
 @Bool.rec (fun O=>Bool) (Array.any as p start stop) (tJ p as.toList) (Nat.beq start 0&&Nat.beq stop as.size)
theorem UT:@Array.any=@yS:=by
 funext α as p start stop
 unfold yS
 cases h:(Nat.beq start 0&&Nat.beq stop as.size) with
 |false=>rfl
 |true =>
  obtain⟨h1,h2⟩:=Bool.and_eq_true_iff.mp h
  have e1:=Nat.eq_of_beq_eq_true h1
  have e2:=Nat.eq_of_beq_eq_true h2
  subst e1;subst e2
  show _=tJ p as.toList
  rw[UU,Array.any_toList]
set_option genSizeOf false in set_option genInjectivity false in
inductive Ħ {α:Type _} (a:α):α->Type
 |refl:Ħ a a
theorem Ħ.eq{α:Type _}{a b:α}(h:Ħ a b):a=b:=by cases h;rfl
noncomputable def xP:Σ' F:_->Builtin,Ħ PySem.W.Fast.tw4202317264376624991 (F @Array.any.{0}):=by
 refine⟨?F,?h⟩
 case h =>
  delta PySem.W.Fast.tw4202317264376624991
  generalize @Array.any.{0}=z
  exact .refl
noncomputable def DG:Builtin:=xP.1 @yS.{0}
theorem Ow:Builtin.«type.__new__» = DG:=PySem.W.Fast.te4202317264376624991.trans (xP.2.eq.trans (congrArg xP.1 UT))
noncomputable def eO(id:String):Option Builtin :=
 @Bool.rec (fun O=>Option Builtin) (PySem.W.Fast.tw14364793385576792824 id) (some DG) (Nat.beq (PySem.code id) (PySem.code "type.__new__"))
theorem IE:treeTable "type.__new__" = some Builtin.«type.__new__» := by kernel_rfl
theorem IF:treeTable=eO:=by
 funext id
 unfold eO
 cases h:Nat.beq (PySem.code id) (PySem.code "type.__new__") with
 |false=>exact congrFun PySem.W.Fast.te14364793385576792824 id
 |true =>
  have e:=PySem.code_inj _ _ (Nat.eq_of_beq_eq_true h)
  subst e
  exact IE.trans (congrArg some Ow)
noncomputable section
noncomputable abbrev NS(l:List Nat):Str:=⟨⟨l⟩⟩
set_option backward.match.sparseCases false in
noncomputable def cg:Stmt->List Stmt
 |.FunctionDef _ _ b _ _ _ _ _ _ _=>b
 |.ClassDef _ _ _ b _ _ _ _ _ _ _=>b
 |_=>[]
noncomputable def oE:List Stmt->Nat->Stmt
 | [],_ => .Pass ⟨0,0,0,0⟩
 |s::_,0=>s
 |_::r,n+1=>oE r n
set_option backward.match.sparseCases false in
 def cz(s:Stmt):Str:=match docOf (cg s) with
 |some d=>d
 |none=>⟨⟨[]⟩⟩
noncomputable abbrev Ye:List Str:=[]
 abbrev q0:Str:=NS [95,119,97,108,108]
 abbrev q1:Str:=NS [107]
 abbrev q2:Str:=NS [95,95,110,97,109,101,95,95]
 abbrev q3:Str:=NS [99,112,121,51,49,51,46,100,105,102,102,108,105,98]
 abbrev q4:Str:=NS [95,116,117,112,108,101,103,101,116,116,101,114]
 abbrev q5:Str:=NS [95,95,105,110,105,116,95,95]
 abbrev q6:Str:=NS [115,101,108,102]
 abbrev q7:Str:=NS [105,110,100,101,120]
 abbrev q8:Str:=NS [100,111,99]
 abbrev q9:Str:=NS [95,95,100,111,99,95,95]
 abbrev lj:Str:=NS [95,95,103,101,116,95,95]
 abbrev qC:Str:=NS [111,98,106]
 abbrev Cj:Str:=NS [111,98,106,116,121,112,101]
 abbrev MP:Str:=NS [105,115,115,117,98,99,108,97,115,115]
 abbrev MK:Str:=NS [116,121,112,101]
 abbrev MI:Str:=NS [116,117,112,108,101]
 abbrev MA:Str:=NS [95,95,103,101,116,105,116,101,109,95,95]
 abbrev kU:Str:=NS [95,95,115,101,116,95,95]
 abbrev BK:Str:=NS [118,97,108,117,101]
 abbrev Mg:Str:=NS [65,116,116,114,105,98,117,116,101,69,114,114,111,114]
 abbrev kT:Str:=NS [95,95,100,101,108,101,116,101,95,95]
 abbrev fC:Str:=NS [77,97,116,99,104]
 abbrev LA:Str:=NS [77,97,116,99,104,40,97,44,32,98,44,32,115,105,122,101,41]
 abbrev vD:Str:=NS [95,95,115,108,111,116,115,95,95]
 abbrev vC:Str:=NS [95,102,105,101,108,100,115]
 abbrev eo:Str:=NS [97]
 abbrev dO:Str:=NS [98]
 abbrev ji:Str:=NS [115,105,122,101]
 abbrev vB:Str:=NS [95,102,105,101,108,100,95,100,101,102,97,117,108,116,115]
 abbrev kS:Str:=NS [95,95,110,101,119,95,95]
 abbrev BJ:Str:=NS [95,99,108,115]
 abbrev jh:Str:=NS [95,109,97,107,101]
 abbrev BH:Str:=NS [99,108,115]
 abbrev BG:Str:=NS [105,116,101,114,97,98,108,101]
 abbrev vA:Str:=NS [114,101,115,117,108,116]
 abbrev Ls:Str:=NS [108,101,110]
 abbrev Lr:Str:=NS [84,121,112,101,69,114,114,111,114]
 abbrev Lq:Str:=NS [99,108,97,115,115,109,101,116,104,111,100]
 abbrev kQ:Str:=NS [95,114,101,112,108,97,99,101]
 abbrev BF:Str:=NS [107,119,100,115]
 abbrev vy:Str:=NS [95,95,99,108,97,115,115,95,95]
 abbrev Lp:Str:=NS [95,95,108,101,110,95,95]
 abbrev Ln:Str:=NS [112,111,112]
 abbrev Lm:Str:=NS [109,97,112]
 abbrev Ll:Str:=NS [108,105,115,116]
 abbrev vu:Str:=NS [95,95,114,101,112,108,97,99,101,95,95]
 abbrev kP:Str:=NS [95,95,114,101,112,114,95,95]
 abbrev kO:Str:=NS [95,97,115,100,105,99,116]
 abbrev kN:Str:=NS [95,95,103,101,116,110,101,119,97,114,103,115,95,95]
 abbrev vt:Str:=NS [95,95,109,97,116,99,104,95,97,114,103,115,95,95]
 abbrev iv:Str:=NS [95,99,97,108,99,117,108,97,116,101,95,114,97,116,105,111]
 abbrev vr:Str:=NS [109,97,116,99,104,101,115]
 abbrev vq:Str:=NS [108,101,110,103,116,104]
 abbrev ge:Str:=NS [83,101,113,117,101,110,99,101,77,97,116,99,104,101,114]
 abbrev qy:Str:=NS [105,115,106,117,110,107]
 abbrev vp:Str:=NS [97,117,116,111,106,117,110,107]
 abbrev jg:Str:=NS []
 abbrev kM:Str:=NS [115,101,116,95,115,101,113,115]
 abbrev kL:Str:=NS [115,101,116,95,115,101,113,49]
 abbrev kK:Str:=NS [115,101,116,95,115,101,113,50]
 abbrev vk:Str:=NS [109,97,116,99,104,105,110,103,95,98,108,111,99,107,115]
 abbrev BE:Str:=NS [111,112,99,111,100,101,115]
 abbrev BD:Str:=NS [102,117,108,108,98,99,111,117,110,116]
 abbrev vj:Str:=NS [95,83,101,113,117,101,110,99,101,77,97,116,99,104,101,114,95,95,99,104,97,105,110,95,98]
 abbrev qx:Str:=NS [95,95,99,104,97,105,110,95,98]
 abbrev qw:Str:=NS [98,50,106]
 abbrev mN:Str:=NS [105]
 abbrev BC:Str:=NS [101,108,116]
 abbrev Lk:Str:=NS [101,110,117,109,101,114,97,116,101]
 abbrev BB:Str:=NS [105,110,100,105,99,101,115]
 abbrev Lj:Str:=NS [115,101,116,100,101,102,97,117,108,116]
 abbrev Li:Str:=NS [97,112,112,101,110,100]
 abbrev BA:Str:=NS [98,106,117,110,107]
 abbrev Bz:Str:=NS [106,117,110,107]
 abbrev Lh:Str:=NS [115,101,116]
 abbrev Lg:Str:=NS [107,101,121,115]
 abbrev Le:Str:=NS [97,100,100]
 abbrev By:Str:=NS [98,112,111,112,117,108,97,114]
 abbrev Bx:Str:=NS [112,111,112,117,108,97,114]
 abbrev qt:Str:=NS [110]
 abbrev Bw:Str:=NS [110,116,101,115,116]
 abbrev Bv:Str:=NS [105,100,120,115]
 abbrev Ld:Str:=NS [105,116,101,109,115]
 abbrev kJ:Str:=NS [102,105,110,100,95,108,111,110,103,101,115,116,95,109,97,116,99,104]
 abbrev vh:Str:=NS [97,108,111]
 abbrev vf:Str:=NS [97,104,105]
 abbrev vd:Str:=NS [98,108,111]
 abbrev vc:Str:=NS [98,104,105]
 abbrev Bu:Str:=NS [105,115,98,106,117,110,107]
 abbrev Lc:Str:=NS [95,95,99,111,110,116,97,105,110,115,95,95]
 abbrev Bt:Str:=NS [98,101,115,116,105]
 abbrev Bs:Str:=NS [98,101,115,116,106]
 abbrev Br:Str:=NS [98,101,115,116,115,105,122,101]
 abbrev Bq:Str:=NS [106,50,108,101,110]
 abbrev Bp:Str:=NS [110,111,116,104,105,110,103]
 abbrev Lb:Str:=NS [114,97,110,103,101]
 abbrev Bo:Str:=NS [106,50,108,101,110,103,101,116]
 abbrev La:Str:=NS [103,101,116]
 abbrev Bn:Str:=NS [110,101,119,106,50,108,101,110]
 abbrev qr:Str:=NS [106]
 abbrev li:Str:=NS [103,101,116,95,109,97,116,99,104,105,110,103,95,98,108,111,99,107,115]
 abbrev Cu:Str:=NS [108,97]
 abbrev Ct:Str:=NS [108,98]
 abbrev Cs:Str:=NS [113,117,101,117,101]
 abbrev Cr:Str:=NS [120]
 abbrev MX:Str:=NS [115,111,114,116]
 abbrev qE:Str:=NS [105,49]
 abbrev qD:Str:=NS [106,49]
 abbrev Cq:Str:=NS [107,49]
 abbrev Cp:Str:=NS [110,111,110,95,97,100,106,97,99,101,110,116]
 abbrev qB:Str:=NS [105,50]
 abbrev qA:Str:=NS [106,50]
 abbrev Cn:Str:=NS [107,50]
 abbrev lh:Str:=NS [103,101,116,95,111,112,99,111,100,101,115]
 abbrev Cm:Str:=NS [97,110,115,119,101,114]
 abbrev Cl:Str:=NS [97,105]
 abbrev Ck:Str:=NS [98,106]
 abbrev qz:Str:=NS [116,97,103]
 abbrev MW:Str:=NS [114,101,112,108,97,99,101]
 abbrev MV:Str:=NS [100,101,108,101,116,101]
 abbrev MU:Str:=NS [105,110,115,101,114,116]
 abbrev MT:Str:=NS [101,113,117,97,108]
 abbrev kZ:Str:=NS [103,101,116,95,103,114,111,117,112,101,100,95,111,112,99,111,100,101,115]
 abbrev Ci:Str:=NS [99,111,100,101,115]
 abbrev MS:Str:=NS [109,97,120]
 abbrev MR:Str:=NS [109,105,110]
 abbrev Ch:Str:=NS [110,110]
 abbrev vE:Str:=NS [103,114,111,117,112]
 abbrev kY:Str:=NS [114,97,116,105,111]
 abbrev MQ:Str:=NS [115,117,109]
 abbrev MO:Str:=NS [116,114,105,112,108,101]
 abbrev MN:Str:=NS [46,48]
 abbrev kX:Str:=NS [113,117,105,99,107,95,114,97,116,105,111]
 abbrev kW:Str:=NS [114,101,97,108,95,113,117,105,99,107,95,114,97,116,105,111]
 abbrev jv:Str:=NS [95,102,111,114,109,97,116,95,114,97,110,103,101,95,99,111,110,116,101,120,116]
 abbrev Cg:Str:=NS [115,116,97,114,116]
 abbrev Cf:Str:=NS [115,116,111,112]
 abbrev Ce:Str:=NS [98,101,103,105,110,110,105,110,103]
 abbrev MM:Str:=NS [123,125]
 abbrev ML:Str:=NS [102,111,114,109,97,116]
 abbrev MJ:Str:=NS [123,125,44,123,125]
 abbrev jt:Str:=NS [99,111,110,116,101,120,116,95,100,105,102,102]
 abbrev Cd:Str:=NS [102,114,111,109,102,105,108,101]
 abbrev Cc:Str:=NS [116,111,102,105,108,101]
 abbrev Cb:Str:=NS [102,114,111,109,102,105,108,101,100,97,116,101]
 abbrev Ca:Str:=NS [116,111,102,105,108,101,100,97,116,101]
 abbrev BZ:Str:=NS [108,105,110,101,116,101,114,109]
 abbrev BY:Str:=NS [10]
 abbrev jr:Str:=NS [95,99,104,101,99,107,95,116,121,112,101,115]
 abbrev BX:Str:=NS [112,114,101,102,105,120]
 abbrev MH:Str:=NS [100,105,99,116]
 abbrev MG:Str:=NS [43,32]
 abbrev MF:Str:=NS [45,32]
 abbrev ME:Str:=NS [33,32]
 abbrev MD:Str:=NS [32,32]
 abbrev BW:Str:=NS [115,116,97,114,116,101,100]
 abbrev BV:Str:=NS [102,114,111,109,100,97,116,101]
 abbrev MC:Str:=NS [9,123,125]
 abbrev BU:Str:=NS [116,111,100,97,116,101]
 abbrev MB:Str:=NS [42,42,42,32,123,125,123,125,123,125]
 abbrev Mz:Str:=NS [45,45,45,32,123,125,123,125,123,125]
 abbrev BS:Str:=NS [102,105,114,115,116]
 abbrev BR:Str:=NS [108,97,115,116]
 abbrev My:Str:=NS [42,42,42,42,42,42,42,42,42,42,42,42,42,42,42]
 abbrev BQ:Str:=NS [102,105,108,101,49,95,114,97,110,103,101]
 abbrev Mx:Str:=NS [42,42,42,32,123,125,32,42,42,42,42,123,125]
 abbrev Mw:Str:=NS [97,110,121]
 abbrev BP:Str:=NS [95]
 abbrev BO:Str:=NS [108,105,110,101]
 abbrev BN:Str:=NS [102,105,108,101,50,95,114,97,110,103,101]
 abbrev Mv:Str:=NS [45,45,45,32,123,125,32,45,45,45,45,123,125]
 abbrev BM:Str:=NS [97,114,103,115]
 abbrev Mu:Str:=NS [105,115,105,110,115,116,97,110,99,101]
 abbrev Mt:Str:=NS [115,116,114]
 abbrev Ms:Str:=NS [32,40]
 abbrev Mr:Str:=NS [41]
 abbrev BL:Str:=NS [97,114,103]
 abbrev jq:Str:=NS [108,97,119,95,100,109,48,48,52,57,95,49,48]
 abbrev jp:Str:=NS [95,108,97,119,95,118,101,114,115,105,111,110,115]
 abbrev Mq:Str:=NS [115,99,114,105,112,116]
 abbrev Mp:Str:=NS [108,105,110,101,115]
 abbrev Mo:Str:=NS [118,101,114,115,105,111,110,115]
 abbrev Mn:Str:=NS [112,97,115,116]
 abbrev Mm:Str:=NS [97,116]
 abbrev Ml:Str:=NS [102,114,101,115,104]
 abbrev Mk:Str:=NS [102,97,115,116]
 abbrev jo:Str:=NS [95,108,97,119,95,99,117,116]
 abbrev Mj:Str:=NS [98,101,115,116]
 abbrev Mi:Str:=NS [98,101,104,105,110,100]
 abbrev Mh:Str:=NS [112,97,105,114,115]
 abbrev Mf:Str:=NS [109]
 abbrev Me:Str:=NS [112]
 abbrev Md:Str:=NS [113]
 abbrev jn:Str:=NS [95,108,97,119,95,104,97,108,118,101,115]
 abbrev Mc:Str:=NS [114,111,119,115]
 abbrev Mb:Str:=NS [104,97,108,118,101,115]
 abbrev Ma:Str:=NS [104,101,97,100,115]
 abbrev LZ:Str:=NS [114,111,119]
 abbrev LY:Str:=NS [32]
 abbrev LX:Str:=NS [105,110,116]
 abbrev LW:Str:=NS [111,110,101]
 abbrev LV:Str:=NS [115,112,108,105,116]
 abbrev LU:Str:=NS [44]
 abbrev LS:Str:=NS [102,111,114,109,115]
 abbrev jm:Str:=NS [95,108,97,119,95,102,111,108,100]
 abbrev LR:Str:=NS [110,111,119]
 abbrev LQ:Str:=NS [118,101,114,115,105,111,110]
 abbrev LP:Str:=NS [97,102,116,101,114]
 abbrev LN:Str:=NS [103,111,110,101]
 abbrev LM:Str:=NS [104,101,114,101]
 abbrev LL:Str:=NS [111,108,100]
 abbrev LK:Str:=NS [116,104,101,114,101]
 abbrev LJ:Str:=NS [110,101,119]
 abbrev LI:Str:=NS [122,105,112]
 abbrev LH:Str:=NS [101,110,100,115]
 abbrev LG:Str:=NS [104,97,108,102]
 abbrev LF:Str:=NS [101,120,116,101,110,100]
 abbrev jl:Str:=NS [108,97,119]
 abbrev LD:Str:=NS [116,111,108,100]
 abbrev LC:Str:=NS [100,117,101]
 abbrev Lz:Str:=NS [111,117,116]
 abbrev Ly:Str:=NS [112,108,97,105,110]
 abbrev Lv:Str:=NS [114,101,112,111,114,116]
 abbrev Lu:Str:=NS [114,101,97,100]
 abbrev au:Str:=NS [47,99,108,97,105,109,47,99,117,116,46,112,121]
noncomputable def FP(x0 x1 x2 x3 x4 x5 x6 x7 x8 x9 x10 x11 x12 x13 x14 x15 x16 x17 x18 x19 x20 x21 x22 x23 x24 x25 x26 x27 x28 x29 x30 x31 x32 x33 x34 x35 x36 x37 x38 x39 x40 x41 x42 x43 x44 x45 x46 x47 x48 x49 x50 x51 x52 x53 x54 x55 x56 x57 x58 x59 x60 x61 x62 x63 x64 x65 x66 x67 x68 x69 x70 x71 x72 x73 x74 x75 x76 x77 x78 x79 x80 x81 x82 x83 x84 x85 x86 x87 x88 x89 x90 x91 x92 x93 x94 x95 x96 x97 x98 x99 x100 x101 x102 x103 x104 x105 x106 x107 x108 x109 x110 x111 x112 x113 x114 x115 x116 x117 x118 x119 x120 x121 x122 x123 x124 x125 x126 x127 x128 x129 x130 x131 x132 x133 x134 x135 x136 x137 x138 x139 ž Ž ż Ż ź Ź Ÿ ŷ Ŷ ŵ Ŵ ų Ų ű Ű ů Ů ŭ Ŭ ū Ū ũ Ũ ŧ Ŧ ť Ť ţ Ţ š Š ş Ş ŝ Ŝ ś Ś ř Ř ŗ Ŗ ŕ Ŕ œ Œ ő Ő ŏ Ŏ ō Ō ŋ Ŋ ň Ň ņ Ņ ń Ń ł Ł ŀ Ŀ ľ Ľ ļ Ļ ĺ Ĺ ĸ ķ Ķ ĵ Ĵ ĳ Ĳ į Į ĭ Ĭ ī Ī ĩ Ĩ ħ d:Str):YA:=by
 refine' (?f:(p:YA)->((∀a b s u p r e1 e2 e3 e4 e5 e6 e7 v,Stmt.ClassDef (Yn "SequenceMatcher") a b (.Expr (.Constant (.str s) u v) p::r) e1 e2 e3 e4 e5 e6 e7=.ClassDef x53 a b (.Expr (.Constant (.str d) u v) p::r) e1 e2 e3 e4 e5 e6 e7)->("_wall":Str)=x0->("k":Str)=x1->("__name__":Str)=x2->("cpy313.difflib":Str)=x3->("_tuplegetter":Str)=x4->("__init__":Str)=x5->("self":Str)=x6->("index":Str)=x7->("doc":Str)=x8->("__doc__":Str)=x9->("__get__":Str)=x10->("obj":Str)=x11->("objtype":Str)=x12->("issubclass":Str)=x13->("type":Str)=x14->("tuple":Str)=x15->("__getitem__":Str)=x16->("__set__":Str)=x17->("value":Str)=x18->("AttributeError":Str)=x19->("__delete__":Str)=x20->("Match":Str)=x21->("Match(a, b, size)":Str)=x22->("__slots__":Str)=x23->("_fields":Str)=x24->("a":Str)=x25->("b":Str)=x26->("size":Str)=x27->("_field_defaults":Str)=x28->("__new__":Str)=x29->("_cls":Str)=x30->("_make":Str)=x31->("cls":Str)=x32->("iterable":Str)=x33->("result":Str)=x34->("len":Str)=x35->("TypeError":Str)=x36->("classmethod":Str)=x37->("_replace":Str)=x38->("kwds":Str)=x39->("__class__":Str)=x40->("__len__":Str)=x41->("pop":Str)=x42->("map":Str)=x43->("list":Str)=x44->("__replace__":Str)=x45->("__repr__":Str)=x46->("_asdict":Str)=x47->("__getnewargs__":Str)=x48->("__match_args__":Str)=x49->("_calculate_ratio":Str)=x50->("matches":Str)=x51->("length":Str)=x52->("SequenceMatcher":Str)=x53->("isjunk":Str)=x54->("autojunk":Str)=x55->("":Str)=x56->("set_seqs":Str)=x57->("set_seq1":Str)=x58->("set_seq2":Str)=x59->("matching_blocks":Str)=x60->("opcodes":Str)=x61->("fullbcount":Str)=x62->("_SequenceMatcher__chain_b":Str)=x63->("__chain_b":Str)=x64->("b2j":Str)=x65->("i":Str)=x66->("elt":Str)=x67->("enumerate":Str)=x68->("indices":Str)=x69->("setdefault":Str)=x70->("append":Str)=x71->("bjunk":Str)=x72->("junk":Str)=x73->("set":Str)=x74->("keys":Str)=x75->("add":Str)=x76->("bpopular":Str)=x77->("popular":Str)=x78->("n":Str)=x79->("ntest":Str)=x80->("idxs":Str)=x81->("items":Str)=x82->("find_longest_match":Str)=x83->("alo":Str)=x84->("ahi":Str)=x85->("blo":Str)=x86->("bhi":Str)=x87->("isbjunk":Str)=x88->("__contains__":Str)=x89->("besti":Str)=x90->("bestj":Str)=x91->("bestsize":Str)=x92->("j2len":Str)=x93->("nothing":Str)=x94->("range":Str)=x95->("j2lenget":Str)=x96->("get":Str)=x97->("newj2len":Str)=x98->("j":Str)=x99->("get_matching_blocks":Str)=x100->("la":Str)=x101->("lb":Str)=x102->("queue":Str)=x103->("x":Str)=x104->("sort":Str)=x105->("i1":Str)=x106->("j1":Str)=x107->("k1":Str)=x108->("non_adjacent":Str)=x109->("i2":Str)=x110->("j2":Str)=x111->("k2":Str)=x112->("get_opcodes":Str)=x113->("answer":Str)=x114->("ai":Str)=x115->("bj":Str)=x116->("tag":Str)=x117->("replace":Str)=x118->("delete":Str)=x119->("insert":Str)=x120->("equal":Str)=x121->("get_grouped_opcodes":Str)=x122->("codes":Str)=x123->("max":Str)=x124->("min":Str)=x125->("nn":Str)=x126->("group":Str)=x127->("ratio":Str)=x128->("sum":Str)=x129->("triple":Str)=x130->(".0":Str)=x131->("quick_ratio":Str)=x132->("real_quick_ratio":Str)=x133->("_format_range_context":Str)=x134->("start":Str)=x135->("stop":Str)=x136->("beginning":Str)=x137->("{}":Str)=x138->("format":Str)=x139->("{},{}":Str)=ž->("context_diff":Str)=Ž->("fromfile":Str)=ż->("tofile":Str)=Ż->("fromfiledate":Str)=ź->("tofiledate":Str)=Ź->("lineterm":Str)=Ÿ->("\n":Str)=ŷ->("_check_types":Str)=Ŷ->("prefix":Str)=ŵ->("dict":Str)=Ŵ->("+ ":Str)=ų->("- ":Str)=Ų->("! ":Str)=ű->("  ":Str)=Ű->("started":Str)=ů->("fromdate":Str)=Ů->("\t{}":Str)=ŭ->("todate":Str)=Ŭ->("*** {}{}{}":Str)=ū->("--- {}{}{}":Str)=Ū->("first":Str)=ũ->("last":Str)=Ũ->("***************":Str)=ŧ->("file1_range":Str)=Ŧ->("*** {} ****{}":Str)=ť->("any":Str)=Ť->("_":Str)=ţ->("line":Str)=Ţ->("file2_range":Str)=š->("--- {} ----{}":Str)=Š->("args":Str)=ş->("isinstance":Str)=Ş->("str":Str)=ŝ->(" (":Str)=Ŝ->(")":Str)=ś->("arg":Str)=Ś->("law_dm0049_10":Str)=ř->("_law_versions":Str)=Ř->("script":Str)=ŗ->("lines":Str)=Ŗ->("versions":Str)=ŕ->("past":Str)=Ŕ->("at":Str)=œ->("fresh":Str)=Œ->("fast":Str)=ő->("_law_cut":Str)=Ő->("best":Str)=ŏ->("behind":Str)=Ŏ->("pairs":Str)=ō->("m":Str)=Ō->("p":Str)=ŋ->("q":Str)=Ŋ->("_law_halves":Str)=ň->("rows":Str)=Ň->("halves":Str)=ņ->("heads":Str)=Ņ->("row":Str)=ń->(" ":Str)=Ń->("int":Str)=ł->("one":Str)=Ł->("split":Str)=ŀ->(",":Str)=Ŀ->("forms":Str)=ľ->("_law_fold":Str)=Ľ->("now":Str)=ļ->("version":Str)=Ļ->("after":Str)=ĺ->("gone":Str)=Ĺ->("here":Str)=ĸ->("old":Str)=ķ->("there":Str)=Ķ->("new":Str)=ĵ->("zip":Str)=Ĵ->("ends":Str)=ĳ->("half":Str)=Ĳ->("extend":Str)=į->("law":Str)=Į->("told":Str)=ĭ->("due":Str)=Ĭ->("out":Str)=ī->("plain":Str)=Ī->("report":Str)=ĩ->("read":Str)=Ĩ->("/claim/cut.py":Str)=ħ->PySem.Challenge.pw_dm0049_10=p)->YA) _ ?h
 case h =>
  intro hD
  delta PySem.Challenge.pw_dm0049_10
  rw[hD]
  clear hD
  intros
  refine' Eq.trans (b:=_) ?_ rfl
  simp only[*];rfl
 case f=>exact fun p O=>p
noncomputable def TA:Str:=by
 refine' (?f:(d:Str)->(cz (oE PySem.Challenge.pw_dm0049_10.main.body 5)=d)->Str) _ ?h
 case h =>
  show Yn _=_
  exact PySem.W.Fast.ofString_ofList _
 case f=>exact fun d O=>d
 def TP:YA:=FP q0 q1 q2 q3 q4 q5 q6 q7 q8 q9 lj qC Cj MP MK MI MA kU BK Mg kT fC LA vD vC eo dO ji vB kS BJ jh BH BG vA Ls Lr Lq kQ BF vy Lp Ln Lm Ll vu kP kO kN vt iv vr vq ge qy vp jg kM kL kK vk BE BD vj qx qw mN BC Lk BB Lj Li BA Bz Lh Lg Le By Bx qt Bw Bv Ld kJ vh vf vd vc Bu Lc Bt Bs Br Bq Bp Lb Bo La Bn qr li Cu Ct Cs Cr MX qE qD Cq Cp qB qA Cn lh Cm Cl Ck qz MW MV MU MT kZ Ci MS MR Ch vE kY MQ MO MN kX kW jv Cg Cf Ce MM ML MJ jt Cd Cc Cb Ca BZ BY jr BX MH MG MF ME MD BW BV MC BU MB Mz BS BR My BQ Mx Mw BP BO BN Mv BM Mu Mt Ms Mr BL jq jp Mq Mp Mo Mn Mm Ml Mk jo Mj Mi Mh Mf Me Md jn Mc Mb Ma LZ LY LX LW LV LU LS jm LR LQ LP LN LM LL LK LJ LI LH LG LF jl LD LC Lz Ly Lv Lu au TA
theorem pY:PySem.Challenge.pw_dm0049_10=TP:=by
 refine(show PySem.Challenge.pw_dm0049_10=FP "_wall" "k" "__name__" "cpy313.difflib" "_tuplegetter" "__init__" "self" "index" "doc" "__doc__" "__get__" "obj" "objtype" "issubclass" "type" "tuple" "__getitem__" "__set__" "value" "AttributeError" "__delete__" "Match" "Match(a, b, size)" "__slots__" "_fields" "a" "b" "size" "_field_defaults" "__new__" "_cls" "_make" "cls" "iterable" "result" "len" "TypeError" "classmethod" "_replace" "kwds" "__class__" "__len__" "pop" "map" "list" "__replace__" "__repr__" "_asdict" "__getnewargs__" "__match_args__" "_calculate_ratio" "matches" "length" "SequenceMatcher" "isjunk" "autojunk" "" "set_seqs" "set_seq1" "set_seq2" "matching_blocks" "opcodes" "fullbcount" "_SequenceMatcher__chain_b" "__chain_b" "b2j" "i" "elt" "enumerate" "indices" "setdefault" "append" "bjunk" "junk" "set" "keys" "add" "bpopular" "popular" "n" "ntest" "idxs" "items" "find_longest_match" "alo" "ahi" "blo" "bhi" "isbjunk" "__contains__" "besti" "bestj" "bestsize" "j2len" "nothing" "range" "j2lenget" "get" "newj2len" "j" "get_matching_blocks" "la" "lb" "queue" "x" "sort" "i1" "j1" "k1" "non_adjacent" "i2" "j2" "k2" "get_opcodes" "answer" "ai" "bj" "tag" "replace" "delete" "insert" "equal" "get_grouped_opcodes" "codes" "max" "min" "nn" "group" "ratio" "sum" "triple" ".0" "quick_ratio" "real_quick_ratio" "_format_range_context" "start" "stop" "beginning" "{}" "format" "{},{}" "context_diff" "fromfile" "tofile" "fromfiledate" "tofiledate" "lineterm" "\n" "_check_types" "prefix" "dict" "+ " "- " "! " "  " "started" "fromdate" "\t{}" "todate" "*** {}{}{}" "--- {}{}{}" "first" "last" "***************" "file1_range" "*** {} ****{}" "any" "_" "line" "file2_range" "--- {} ----{}" "args" "isinstance" "str" " (" ")" "arg" "law_dm0049_10" "_law_versions" "script" "lines" "versions" "past" "at" "fresh" "fast" "_law_cut" "best" "behind" "pairs" "m" "p" "q" "_law_halves" "rows" "halves" "heads" "row" " " "int" "one" "split" "," "forms" "_law_fold" "now" "version" "after" "gone" "here" "old" "there" "new" "zip" "ends" "half" "extend" "law" "told" "due" "out" "plain" "report" "read" "/claim/cut.py" (cz (oE PySem.Challenge.pw_dm0049_10.main.body 5)) from by kernel_rfl).trans ?_
 unfold TP
 repeat' first |exact PySem.W.Fast.ofString_ofList _ |with_reducible rfl |refine congr ?_ ?_
noncomputable abbrev nd:=BT.node
noncomputable abbrev nl:=BT.nil
noncomputable abbrev u5(o:Obj):BT:=.node o nl nl
noncomputable def kv(P:Ym)(k:Str)(t:Nat)(v:Value):DictEntry:=⟨PyData.keyHash P k,.str k t,v⟩
set_option backward.match.sparseCases false in
noncomputable def Gi:Stmt->Arguments
 |.FunctionDef _ a _ _ _ _ _ _ _ _=>a
 |_=>⟨[],[],none,[],[],none,[]⟩
set_option backward.match.sparseCases false in
noncomputable def AT:Stmt->Scope
 |.FunctionDef _ _ _ _ _ _ s _ _ _=>s
 |_=>default
 def aS(i:Nat):Stmt:=oE TP.main.body i
 def aw(i j:Nat):Stmt:=oE (cg (aS i)) j
noncomputable def aK(st:Stmt)(name qual:Str)(g:YV)(cl:List (Str×YV))(d k doc m:Value)(an:Option YV)(cd ct:Value)(b:YV):m3 :=
 ⟨name,qual,Gi st,.stmts (cg st),AT st,g,cl,d,k,doc,m,an,cd,ct,b⟩
noncomputable def ez:Life:={}
noncomputable abbrev I(n:Int):Value:=.int n 0
noncomputable abbrev Tu(l:List Value):Obj:=⟨.type "tuple",none,.seq ⟨l⟩ 0,⟨[]⟩⟩
noncomputable abbrev Co(l:List Value):Obj:=⟨.type "code",none,.fields ⟨l⟩,⟨[]⟩⟩
 abbrev cd(a:Str)(n1:Nat)(b:Str)(n2:Nat)(c:Str)(n3 i1 i2 i3 i4 i5 r1:Nat)(t:Bool)(i6 r2:Nat)(x y z:Value)(i7 i8:Nat)(e:Str)(n4:Nat):Obj:=Co [.str a n1,.str b n2,.str c n3,I i1,I i2,I i3,I i4,I i5,.ref r1,.bool t,I i6,.ref r2,.none,x,y,z,I i7,I i8,.str e n4]
noncomputable abbrev Fu(d:m3):Obj:=⟨.type "function",none,.func d,⟨[]⟩⟩
noncomputable abbrev Fn(d:m3):Obj:=⟨.none,none,.func d,⟨[]⟩⟩
noncomputable abbrev Fi(l:List Value):Obj:=⟨.none,none,.fields ⟨l⟩,⟨[]⟩⟩
 abbrev gA(s:Stmt)(z:Str):m3:=aK s z z 0 [] .none .none .none .none none .none .none 0
 def z0:Str:=NS [60,109,111,100,117,108,101,62]
 def z2:Str:=NS [95,95,109,97,105,110,95,95]
 def z6:Str:=NS [95,95,112,97,99,107,97,103,101,95,95]
 def z7:Str:=NS [95,95,108,111,97,100,101,114,95,95]
 def z8:Str:=NS [95,95,115,112,101,99,95,95]
 def z9:Str:=NS [95,95,97,110,110,111,116,97,116,105,111,110,115,95,95]
 def pQ:Str:=NS [95,95,98,117,105,108,116,105,110,115,95,95]
 def pP:Str:=NS [95,95,102,105,108,101,95,95]
 def pO:Str:=NS [95,95,99,97,99,104,101,100,95,95]
 def iU:Str:=NS [95,95,109,111,100,117,108,101,95,95]
 def pN:Str:=NS [95,95,113,117,97,108,110,97,109,101,95,95]
 def ko:Str:=NS [95,95,102,105,114,115,116,108,105,110,101,110,111,95,95]
 def km:Str:=NS [95,95,115,116,97,116,105,99,95,97,116,116,114,105,98,117,116,101,115,95,95]
 def uu:Str:=NS [95,116,117,112,108,101,103,101,116,116,101,114,46,95,95,105,110,105,116,95,95]
 def ut:Str:=NS [95,116,117,112,108,101,103,101,116,116,101,114,46,95,95,103,101,116,95,95]
 def ur:Str:=NS [95,116,117,112,108,101,103,101,116,116,101,114,46,95,95,115,101,116,95,95]
 def uq:Str:=NS [95,116,117,112,108,101,103,101,116,116,101,114,46,95,95,100,101,108,101,116,101,95,95]
 def pM:Str:=NS [95,95,100,105,99,116,95,95]
 def pL:Str:=NS [95,95,119,101,97,107,114,101,102,95,95]
 def Hx:Str:=NS [95,95,99,108,97,115,115,99,101,108,108,95,95]
 def uo:Str:=NS [77,97,116,99,104,46,95,95,110,101,119,95,95]
 def pK:Str:=NS [77,97,116,99,104,46,95,109,97,107,101]
 def um:Str:=NS [77,97,116,99,104,46,95,114,101,112,108,97,99,101]
 def uh:Str:=NS [77,97,116,99,104,46,95,95,114,101,112,114,95,95]
 def ug:Str:=NS [77,97,116,99,104,46,95,97,115,100,105,99,116]
 def uf:Str:=NS [77,97,116,99,104,46,95,95,103,101,116,110,101,119,97,114,103,115,95,95]
 def zD:Str:=NS [65,108,105,97,115,32,102,111,114,32,102,105,101,108,100,32,110,117,109,98,101,114,32,48]
 def zC:Str:=NS [65,108,105,97,115,32,102,111,114,32,102,105,101,108,100,32,110,117,109,98,101,114,32,49]
 def zB:Str:=NS [65,108,105,97,115,32,102,111,114,32,102,105,101,108,100,32,110,117,109,98,101,114,32,50]
 def ue:Str:=NS [83,101,113,117,101,110,99,101,77,97,116,99,104,101,114,46,95,95,105,110,105,116,95,95]
 def ud:Str:=NS [83,101,113,117,101,110,99,101,77,97,116,99,104,101,114,46,115,101,116,95,115,101,113,115]
 def uc:Str:=NS [83,101,113,117,101,110,99,101,77,97,116,99,104,101,114,46,115,101,116,95,115,101,113,49]
 def ub:Str:=NS [83,101,113,117,101,110,99,101,77,97,116,99,104,101,114,46,115,101,116,95,115,101,113,50]
 def ua:Str:=NS [83,101,113,117,101,110,99,101,77,97,116,99,104,101,114,46,95,95,99,104,97,105,110,95,98]
 def uB:Str:=NS [83,101,113,117,101,110,99,101,77,97,116,99,104,101,114,46,102,105,110,100,95,108,111,110,103,101,115,116,95,109,97,116,99,104]
 def uA:Str:=NS [83,101,113,117,101,110,99,101,77,97,116,99,104,101,114,46,103,101,116,95,109,97,116,99,104,105,110,103,95,98,108,111,99,107,115]
 def uz:Str:=NS [83,101,113,117,101,110,99,101,77,97,116,99,104,101,114,46,103,101,116,95,111,112,99,111,100,101,115]
 def uy:Str:=NS [83,101,113,117,101,110,99,101,77,97,116,99,104,101,114,46,103,101,116,95,103,114,111,117,112,101,100,95,111,112,99,111,100,101,115]
 def ux:Str:=NS [83,101,113,117,101,110,99,101,77,97,116,99,104,101,114,46,114,97,116,105,111]
 def uw:Str:=NS [83,101,113,117,101,110,99,101,77,97,116,99,104,101,114,46,113,117,105,99,107,95,114,97,116,105,111]
 def uv:Str:=NS [83,101,113,117,101,110,99,101,77,97,116,99,104,101,114,46,114,101,97,108,95,113,117,105,99,107,95,114,97,116,105,111]
 def lF(P:Ym):Obj:=Tu []
 def Om(P:Ym):Obj:=Fi []
 def lE(P:Ym):Obj:=cd z0 182 z0 183 au 184 1 0 0 0 0 11 false 181 12 .none .none .none 185 1 au 186
 def ly(P:Ym):Obj:=⟨(.type "frame"),none,.plain,⟨[some (.ref 13),some (.ref 3),some (.ref 3),none,some (.str z2 164),none,some (.ref 0)]⟩⟩
 def o3(P:Ym):Obj:=⟨(.type "dict"),none,.dict ⟨[kv P q2 165 (.str q3 194),kv P q9 166 .none,kv P z6 167 .none,kv P z7 168 (.builtin "__main__.__loader__#opaque"),kv P z8 169 .none,kv P z9 170 (.ref 6),kv P pQ 171 (.ref 4),kv P pP 173 (.str au 172),kv P pO 174 .none,kv P q0 193 (.ref 21),kv P q4 252 (.ref 60)]⟩ 11,⟨[]⟩⟩
 def Ol(P:Ym):Obj:=Fi [(I 1),(I 0),(.ref 20),(I 5),(I 0),(.ref 27)]
 def oD(P:Ym):Obj:=Tu []
 def oC(P:Ym):Obj:=Fi []
 def oB(P:Ym):Obj:=Tu [(.str q1 190)]
 def oA(P:Ym):Obj:=Tu []
 def oy(P:Ym):Obj:=Fn (gA (aS 0) q0)
 def ow(P:Ym):Obj:=cd q0 187 q0 188 au 189 1 1 0 0 3 15 true 181 16 (.ref 17) (.ref 18) (.ref 19) 191 1 au 192
 def ou(P:Ym):Obj:=Fu (aK (aS 0) q0 q0 3 [] .none .none .none (.str z2 164) none (.ref 20) .none 0)
 def oq(P:Ym):Obj:=Tu []
noncomputable def oj(P:Ym):Obj:=⟨(.type "builtin_function_or_method"),none,.fields ⟨[(.builtin "type.__prepare__"),(.type "type")]⟩,⟨[]⟩⟩
 def oh(P:Ym):Obj:=⟨(.type "dict"),none,.dict ⟨[kv P iU 203 (.str q3 194),kv P pN 205 (.str q4 204),kv P ko 207 (.int 5 206),kv P q5 216 (.ref 35),kv P lj 225 (.ref 43),kv P kU 234 (.ref 50),kv P kT 242 (.ref 57),kv P km 245 (.ref 58)]⟩ 8,⟨[]⟩⟩
 def nZ(P:Ym):Obj:=Tu []
 def nX(P:Ym):Obj:=Fi [(I 7),(I 4),(.ref 34),(I 11),(I 4),(.ref 42),(I 18),(I 4),(.ref 49),(I 21),(I 4),(.ref 56)]
 def nW(P:Ym):Obj:=cd q4 198 q4 199 au 200 5 0 0 0 0 25 false 181 26 .none .none .none 201 5 au 202
 def nT(P:Ym):Obj:=⟨(.type "frame"),none,.plain,⟨[some (.ref 27),some (.ref 3),some (.ref 24),none,some (.str q3 194),none,some (.ref 0)]⟩⟩
 def nR(P:Ym):Obj:=Tu []
 def nP(P:Ym):Obj:=Fi []
 def nO(P:Ym):Obj:=Tu [(.str q6 211),(.str q7 212),(.str q8 213)]
 def nN(P:Ym):Obj:=Tu []
 def nM(P:Ym):Obj:=Fn (aK (aw 2 0) q5 uu 0 [] .none .none .none .none none .none .none 0)
 def nK(P:Ym):Obj:=cd q5 208 uu 209 au 210 7 3 0 0 3 29 true 181 30 (.ref 31) (.ref 32) (.ref 33) 214 7 au 215
 def nJ(P:Ym):Obj:=Fu (aK (aw 2 0) q5 uu 3 [] .none .none .none (.str q3 194) none (.ref 34) .none 0)
 def nI(P:Ym):Obj:=Tu [.none]
 def nH(P:Ym):Obj:=Tu []
 def nG(P:Ym):Obj:=Fi []
 def nF(P:Ym):Obj:=Tu [(.str q6 220),(.str qC 221),(.str Cj 222)]
 def nE(P:Ym):Obj:=Tu []
 def nD(P:Ym):Obj:=Fn (aK (aw 2 1) lj ut 0 [] .none .none .none .none none .none .none 0)
 def nC(P:Ym):Obj:=cd lj 217 ut 218 au 219 11 3 0 0 3 37 true 181 38 (.ref 39) (.ref 40) (.ref 41) 223 11 au 224
 def nB(P:Ym):Obj:=Fu (aK (aw 2 1) lj ut 3 [] (.ref 36) .none .none (.str q3 194) none (.ref 42) .none 0)
 def nz(P:Ym):Obj:=Tu []
 def ny(P:Ym):Obj:=Fi []
 def nv(P:Ym):Obj:=Tu [(.str q6 229),(.str qC 230),(.str BK 231)]
 def nu(P:Ym):Obj:=Tu []
 def nr(P:Ym):Obj:=Fn (aK (aw 2 2) kU ur 0 [] .none .none .none .none none .none .none 0)
 def nq(P:Ym):Obj:=cd kU 226 ur 227 au 228 18 3 0 0 3 44 true 181 45 (.ref 46) (.ref 47) (.ref 48) 232 18 au 233
 def np(P:Ym):Obj:=Fu (aK (aw 2 2) kU ur 3 [] .none .none .none (.str q3 194) none (.ref 49) .none 0)
 def nk(P:Ym):Obj:=Tu []
 def nj(P:Ym):Obj:=Fi []
 def ni(P:Ym):Obj:=Tu [(.str q6 238),(.str qC 239)]
 def nh(P:Ym):Obj:=Tu []
 def ng(P:Ym):Obj:=Fn (aK (aw 2 3) kT uq 0 [] .none .none .none .none none .none .none 0)
 def nf(P:Ym):Obj:=cd kT 235 uq 236 au 237 21 2 0 0 3 51 true 181 52 (.ref 53) (.ref 54) (.ref 55) 240 21 au 241
 def nc(P:Ym):Obj:=Fu (aK (aw 2 3) kT uq 3 [] .none .none .none (.str q3 194) none (.ref 56) .none 0)
 def nb(P:Ym):Obj:=Tu [(.str q9 243),(.str q7 244)]
 def mZ(P:Ym):Obj:=⟨(.type "dict"),none,.dict ⟨[kv P iU 203 (.str q3 194),kv P ko 207 (.int 5 206),kv P q5 216 (.ref 35),kv P lj 225 (.ref 43),kv P kU 234 (.ref 50),kv P kT 242 (.ref 57),kv P km 245 (.ref 58),kv P pM 247 (.ref 61),kv P pL 249 (.ref 62),kv P q9 250 .none]⟩ 4,⟨[]⟩⟩
 def mY(P:Ym):Obj:=⟨(.type "type"),none,.cls ⟨q4,[(.type "object")],[(.ref 60),(.type "object")],59,q4,true,[],[],false,none,false⟩,⟨[none,none,some (.str q4 196),some (.str q4 204),some (.builtin "object.__new__"),some (.bool true)]⟩⟩
 def mX(P:Ym):Obj:=⟨(.type "getset_descriptor"),none,.fields ⟨[(.str pM 246),(.ref 60),(.builtin "function.__dict__"),(.builtin "function.__dict__#set")]⟩,⟨[]⟩⟩
 def mW(P:Ym):Obj:=⟨(.type "getset_descriptor"),none,.fields ⟨[(.str pL 248),(.ref 60),(.builtin "ExceptionGroup.__weakref__"),.none]⟩,⟨[]⟩⟩
noncomputable def mV(P:Ym):Obj:=⟨(.type "super"),none,.fields ⟨[(.ref 60),(.ref 60),(.ref 60)]⟩,⟨[]⟩⟩
noncomputable def mU(P:Ym):Obj:=⟨(.type "builtin_function_or_method"),none,.fields ⟨[(.builtin "object.__init_subclass__"),(.ref 60)]⟩,⟨[]⟩⟩
 def Oi(P:Ym):Obj:=⟨(.type "dict"),none,.dict ⟨[kv P q2 165 (.str q3 194),kv P q9 166 .none,kv P z6 167 .none,kv P z7 168 (.builtin "__main__.__loader__#opaque"),kv P z8 169 .none,kv P z9 170 (.ref 6),kv P pQ 171 (.ref 4),kv P pP 173 (.str au 172),kv P pO 174 .none,kv P q0 193 (.ref 21),kv P q4 252 (.ref 60),kv P fC 380 (.ref 135)]⟩ 12,⟨[]⟩⟩
 def Ok(P:Ym):Obj:=Fi [(I 1),(I 0),(.ref 20),(I 5),(I 0),(.ref 27),(I 23),(I 0),(.ref 71)]
 def rx(P:Ym):Obj:=Tu [(.type "tuple")]
noncomputable def rv(P:Ym):Obj:=⟨(.type "builtin_function_or_method"),none,.fields ⟨[(.builtin "type.__prepare__"),(.type "type")]⟩,⟨[]⟩⟩
 def ru(P:Ym):Obj:=⟨(.type "dict"),none,.dict ⟨[kv P iU 260 (.str q3 194),kv P pN 262 (.str fC 261),kv P ko 264 (.int 23 263),kv P q9 266 (.str (cz (aS 3)) 265),kv P vD 268 (.ref 73),kv P vC 272 (.ref 74),kv P vB 273 (.ref 75),kv P kS 284 (.ref 82),kv P jh 306 (.ref 91),kv P kQ 317 (.ref 100),kv P vu 318 (.ref 100),kv P kP 326 (.ref 107),kv P kO 333 (.ref 114),kv P kN 341 (.ref 121),kv P vt 345 (.ref 122),kv P eo 355 (.ref 124),kv P dO 365 (.ref 127),kv P ji 375 (.ref 130),kv P km 376 (.ref 132),kv P Hx 377 (.ref 68)]⟩ 20,⟨[]⟩⟩
noncomputable def rr(P:Ym):Obj:=⟨(.type "cell"),none,.cell (some (.ref 135)),⟨[]⟩⟩
 def rq(P:Ym):Obj:=Tu []
 def rp(P:Ym):Obj:=Fi [(I 29),(I 4),(.ref 81),(I 34),(I 4),(.ref 88),(I 41),(I 4),(.ref 99),(I 52),(I 4),(.ref 106),(I 56),(I 4),(.ref 113),(I 59),(I 4),(.ref 120)]
 def rn(P:Ym):Obj:=cd fC 255 fC 256 au 257 23 0 0 0 0 69 false 181 70 .none .none .none 258 23 au 259
 def rl(P:Ym):Obj:=⟨(.type "frame"),none,.plain,⟨[some (.ref 71),some (.ref 3),some (.ref 67),none,some (.str q3 194),none,some (.ref 0)]⟩⟩
 def rj(P:Ym):Obj:=Tu []
 def ri(P:Ym):Obj:=Tu [(.str eo 269),(.str dO 270),(.str ji 271)]
noncomputable def rh(P:Ym):Obj:=⟨(.type "dict"),none,.dict ⟨[]⟩ 0,⟨[]⟩⟩
 def rg(P:Ym):Obj:=Tu []
 def rf(P:Ym):Obj:=Fi []
 def re(P:Ym):Obj:=Tu [(.str BJ 277),(.str eo 278),(.str dO 279),(.str ji 280)]
 def rc(P:Ym):Obj:=Tu []
 def rb(P:Ym):Obj:=Fn (aK (aw 3 4) kS uo 0 [] .none .none .none .none none .none .none 0)
 def mS(P:Ym):Obj:=cd kS 274 uo 275 au 276 29 4 0 0 3 76 true 181 77 (.ref 78) (.ref 79) (.ref 80) 281 29 au 282
 def iC(P:Ym):Obj:=Fu (aK (aw 3 4) kS uo 3 [] .none .none (.str (cz (aw 3 4)) 283) (.str q3 194) none (.ref 81) .none 0)
 def ra(P:Ym):Obj:=Tu []
 def qZ(P:Ym):Obj:=Fi []
 def qY(P:Ym):Obj:=Tu [(.str BH 288),(.str BG 289),(.str vA 290)]
 def qX(P:Ym):Obj:=Tu []
 def qW(P:Ym):Obj:=Fn (aK (aw 3 5) jh pK 0 [] .none .none .none .none none .none .none 0)
 def mR(P:Ym):Obj:=cd jh 285 pK 286 au 287 33 2 0 0 3 83 true 181 84 (.ref 85) (.ref 86) (.ref 87) 291 33 au 292
 def iB(P:Ym):Obj:=Fu (aK (aw 3 5) jh pK 3 [] .none .none (.str (cz (aw 3 5)) 293) (.str q3 194) (some 92) (.ref 88) .none 0)
 def qU(P:Ym):Obj:=⟨(.type "dict"),none,.dict ⟨[kv P iU 295 (.str q3 194),kv P q2 298 (.str jh 297),kv P pN 301 (.str pK 300),kv P q9 303 (.str (cz (aw 3 5)) 293),kv P z9 305 (.ref 92)]⟩ 5,⟨[]⟩⟩
noncomputable def qS(P:Ym):Obj:=⟨(.type "classmethod"),some 90,.fields ⟨[(.ref 89),(.bool false)]⟩,⟨[]⟩⟩
noncomputable def qR(P:Ym):Obj:=⟨(.type "dict"),none,.dict ⟨[]⟩ 0,⟨[]⟩⟩
 def qQ(P:Ym):Obj:=Tu [(.ref 68)]
 def qP(P:Ym):Obj:=Tu [(.str vy 310)]
 def qO(P:Ym):Obj:=Fi []
 def qN(P:Ym):Obj:=Tu [(.str q6 311),(.str BF 312),(.str vA 313)]
 def qM(P:Ym):Obj:=Tu []
 def qL(P:Ym):Obj:=Fn (aK (aw 3 6) kQ um 0 [] .none .none .none .none none .none .none 0)
 def qK(P:Ym):Obj:=cd kQ 307 um 308 au 309 41 1 1 0 11 94 true 181 95 (.ref 96) (.ref 97) (.ref 98) 314 41 au 315
 def sC(P:Ym):Obj:=Fu (aK (aw 3 6) kQ um 3 [(vy,68)] .none .none (.str (cz (aw 3 6)) 316) (.str q3 194) none (.ref 99) (.ref 93) 0)
 def sB(P:Ym):Obj:=Tu []
 def sA(P:Ym):Obj:=Fi []
 def sy(P:Ym):Obj:=Tu [(.str q6 322)]
 def sx(P:Ym):Obj:=Tu []
 def sw(P:Ym):Obj:=Fn (aK (aw 3 8) kP uh 0 [] .none .none .none .none none .none .none 0)
 def sv(P:Ym):Obj:=cd kP 319 uh 320 au 321 52 1 0 0 3 101 true 181 102 (.ref 103) (.ref 104) (.ref 105) 323 52 au 324
 def su(P:Ym):Obj:=Fu (aK (aw 3 8) kP uh 3 [] .none .none (.str (cz (aw 3 8)) 325) (.str q3 194) none (.ref 106) .none 0)
 def sr(P:Ym):Obj:=Tu []
 def sq(P:Ym):Obj:=Fi []
 def sp(P:Ym):Obj:=Tu [(.str q6 330)]
 def so(P:Ym):Obj:=Tu []
 def sn(P:Ym):Obj:=Fn (aK (aw 3 9) kO ug 0 [] .none .none .none .none none .none .none 0)
 def sm(P:Ym):Obj:=cd kO 327 ug 328 au 329 56 1 0 0 3 108 true 181 109 (.ref 110) (.ref 111) (.ref 112) 331 56 au 332
 def sh(P:Ym):Obj:=Fu (aK (aw 3 9) kO ug 3 [] .none .none .none (.str q3 194) none (.ref 113) .none 0)
 def sg(P:Ym):Obj:=Tu []
 def sf(P:Ym):Obj:=Fi []
 def se(P:Ym):Obj:=Tu [(.str q6 337)]
 def sd(P:Ym):Obj:=Tu []
 def sc(P:Ym):Obj:=Fn (aK (aw 3 10) kN uf 0 [] .none .none .none .none none .none .none 0)
 def sb(P:Ym):Obj:=cd kN 334 uf 335 au 336 59 1 0 0 3 115 true 181 116 (.ref 117) (.ref 118) (.ref 119) 338 59 au 339
 def rZ(P:Ym):Obj:=Fu (aK (aw 3 10) kN uf 3 [] .none .none (.str (cz (aw 3 10)) 340) (.str q3 194) none (.ref 120) .none 0)
 def rY(P:Ym):Obj:=Tu [(.str eo 342),(.str dO 343),(.str ji 344)]
 def rX(P:Ym):Obj:=⟨(.type "dict"),none,.dict ⟨[kv P q7 352 (.int 0 346),kv P q9 354 (.str zD 347)]⟩ 2,⟨[]⟩⟩
noncomputable def rW(P:Ym):Obj:=⟨(.ref 60),some 123,.plain,⟨[]⟩⟩
 def rV(P:Ym):Obj:=⟨(.type "frame"),none,.dict ⟨[kv P q6 348 (.ref 124),kv P q7 349 (.int 0 346),kv P q8 350 (.str zD 347)]⟩ 3,⟨[]⟩⟩
 def rU(P:Ym):Obj:=⟨(.type "dict"),none,.dict ⟨[kv P q7 362 (.int 1 356),kv P q9 364 (.str zC 357)]⟩ 2,⟨[]⟩⟩
noncomputable def rT(P:Ym):Obj:=⟨(.ref 60),some 126,.plain,⟨[]⟩⟩
 def rS(P:Ym):Obj:=⟨(.type "frame"),none,.dict ⟨[kv P q6 358 (.ref 127),kv P q7 359 (.int 1 356),kv P q8 360 (.str zC 357)]⟩ 3,⟨[]⟩⟩
 def rR(P:Ym):Obj:=⟨(.type "dict"),none,.dict ⟨[kv P q7 372 (.int 2 366),kv P q9 374 (.str zB 367)]⟩ 2,⟨[]⟩⟩
noncomputable def rQ(P:Ym):Obj:=⟨(.ref 60),some 129,.plain,⟨[]⟩⟩
 def rP(P:Ym):Obj:=⟨(.type "frame"),none,.dict ⟨[kv P q6 368 (.ref 130),kv P q7 369 (.int 2 366),kv P q8 370 (.str zB 367)]⟩ 3,⟨[]⟩⟩
 def rO(P:Ym):Obj:=Tu []
noncomputable def rN(P:Ym):Obj:=⟨(.type "list"),none,.seq ⟨[]⟩ 0,⟨[]⟩⟩
 def rM(P:Ym):Obj:=⟨(.type "dict"),none,.dict ⟨[kv P iU 260 (.str q3 194),kv P ko 264 (.int 23 263),kv P q9 266 (.str (cz (aS 3)) 265),kv P vD 268 (.ref 73),kv P vC 272 (.ref 74),kv P vB 273 (.ref 75),kv P kS 284 (.ref 136),kv P jh 306 (.ref 91),kv P kQ 317 (.ref 100),kv P vu 318 (.ref 100),kv P kP 326 (.ref 107),kv P kO 333 (.ref 114),kv P kN 341 (.ref 121),kv P vt 345 (.ref 122),kv P eo 355 (.ref 124),kv P dO 365 (.ref 127),kv P ji 375 (.ref 130),kv P km 376 (.ref 132)]⟩ 2,⟨[]⟩⟩
 def lC(P:Ym):Obj:=⟨(.type "type"),none,.cls ⟨fC,[(.type "tuple")],[(.ref 135),(.type "tuple"),(.type "object")],134,fC,false,[],[],false,none,false⟩,⟨[some (.ref 65),none,some (.str fC 253),some (.str fC 261),some .none,some (.bool false)]⟩⟩
noncomputable def rL(P:Ym):Obj:=⟨(.type "staticmethod"),none,.fields ⟨[(.ref 82)]⟩,⟨[]⟩⟩
noncomputable def rK(P:Ym):Obj:=⟨(.type "super"),none,.fields ⟨[(.ref 135),(.ref 135),(.ref 135)]⟩,⟨[]⟩⟩
noncomputable def rJ(P:Ym):Obj:=⟨(.type "builtin_function_or_method"),none,.fields ⟨[(.builtin "object.__init_subclass__"),(.ref 135)]⟩,⟨[]⟩⟩
 def Oh(P:Ym):Obj:=⟨(.type "dict"),none,.dict ⟨[kv P q2 165 (.str q3 194),kv P q9 166 .none,kv P z6 167 .none,kv P z7 168 (.builtin "__main__.__loader__#opaque"),kv P z8 169 .none,kv P z9 170 (.ref 6),kv P pQ 171 (.ref 4),kv P pP 173 (.str au 172),kv P pO 174 .none,kv P q0 193 (.ref 21),kv P q4 252 (.ref 60),kv P fC 380 (.ref 135),kv P iv 388 (.ref 145),kv P ge 591 (.ref 242)]⟩ 14,⟨[]⟩⟩
 def Oj(P:Ym):Obj:=Fi [(I 1),(I 0),(.ref 20),(I 5),(I 0),(.ref 27),(I 23),(I 0),(.ref 71),(I 66),(I 0),(.ref 144),(I 70),(I 0),(.ref 151)]
 def xI(P:Ym):Obj:=Tu []
 def xH(P:Ym):Obj:=Fi []
 def xG(P:Ym):Obj:=Tu [(.str vr 384),(.str vq 385)]
 def xF(P:Ym):Obj:=Tu []
 def xE(P:Ym):Obj:=Fn (gA (aS 4) iv)
 def xD(P:Ym):Obj:=cd iv 381 iv 382 au 383 66 2 0 0 3 139 true 181 140 (.ref 141) (.ref 142) (.ref 143) 386 66 au 387
 def xC(P:Ym):Obj:=Fu (aK (aS 4) iv iv 3 [] .none .none .none (.str q3 194) none (.ref 144) .none 0)
 def xB(P:Ym):Obj:=Tu []
noncomputable def xA(P:Ym):Obj:=⟨(.type "builtin_function_or_method"),none,.fields ⟨[(.builtin "type.__prepare__"),(.type "type")]⟩,⟨[]⟩⟩
 def xz(P:Ym):Obj:=⟨(.type "dict"),none,.dict ⟨[kv P iU 396 (.str q3 194),kv P pN 398 (.str ge 397),kv P ko 400 (.int 70 399),kv P q9 402 (.str (cz (aS 5)) 401),kv P q5 417 (.ref 160),kv P kM 427 (.ref 167),kv P kL 436 (.ref 174),kv P kK 445 (.ref 181),kv P vj 463 (.ref 188),kv P kJ 491 (.ref 196),kv P li 518 (.ref 203),kv P lh 533 (.ref 210),kv P kZ 551 (.ref 218),kv P kY 560 (.ref 225),kv P kX 567 (.ref 232),kv P kW 574 (.ref 239),kv P km 585 (.ref 240)]⟩ 17,⟨[]⟩⟩
 def xy(P:Ym):Obj:=Tu []
 def xx(P:Ym):Obj:=Fi [(I 145),(I 4),(.ref 159),(I 173),(I 4),(.ref 166),(I 184),(I 4),(.ref 173),(I 209),(I 4),(.ref 180),(I 236),(I 4),(.ref 187),(I 260),(I 4),(.ref 195),(I 335),(I 4),(.ref 202),(I 383),(I 4),(.ref 209),(I 430),(I 4),(.ref 217),(I 475),(I 4),(.ref 224),(I 499),(I 4),(.ref 231),(I 502),(I 4),(.ref 238)]
 def xw(P:Ym):Obj:=cd ge 391 ge 392 au 393 70 0 0 0 0 149 false 181 150 .none .none .none 394 70 au 395
 def xv(P:Ym):Obj:=⟨(.type "frame"),none,.plain,⟨[some (.ref 151),some (.ref 3),some (.ref 148),none,some (.str q3 194),none,some (.ref 0)]⟩⟩
 def xu(P:Ym):Obj:=Tu [.none,(.str jg 404),(.str jg 405),(.bool true)]
 def xt(P:Ym):Obj:=Tu []
 def xq(P:Ym):Obj:=Fi []
 def xp(P:Ym):Obj:=Tu [(.str q6 409),(.str qy 410),(.str eo 411),(.str dO 412),(.str vp 413)]
 def xo(P:Ym):Obj:=Tu []
 def xn(P:Ym):Obj:=Fn (aK (aw 5 1) q5 ue 0 [] .none .none .none .none none .none .none 0)
 def rI(P:Ym):Obj:=cd q5 406 ue 407 au 408 145 5 0 0 3 154 true 181 155 (.ref 156) (.ref 157) (.ref 158) 414 145 au 415
 def jJ(P:Ym):Obj:=Fu (aK (aw 5 1) q5 ue 3 [] (.ref 153) .none (.str (cz (aw 5 1)) 416) (.str q3 194) none (.ref 159) .none 0)
 def xm(P:Ym):Obj:=Tu []
 def xl(P:Ym):Obj:=Fi []
 def xj(P:Ym):Obj:=Tu [(.str q6 421),(.str eo 422),(.str dO 423)]
 def xi(P:Ym):Obj:=Tu []
 def xh(P:Ym):Obj:=Fn (aK (aw 5 2) kM ud 0 [] .none .none .none .none none .none .none 0)
 def rH(P:Ym):Obj:=cd kM 418 ud 419 au 420 173 3 0 0 3 161 true 181 162 (.ref 163) (.ref 164) (.ref 165) 424 173 au 425
 def jI(P:Ym):Obj:=Fu (aK (aw 5 2) kM ud 3 [] .none .none (.str (cz (aw 5 2)) 426) (.str q3 194) none (.ref 166) .none 0)
 def xg(P:Ym):Obj:=Tu []
 def xf(P:Ym):Obj:=Fi []
 def xe(P:Ym):Obj:=Tu [(.str q6 431),(.str eo 432)]
 def xc(P:Ym):Obj:=Tu []
 def xb(P:Ym):Obj:=Fn (aK (aw 5 3) kL uc 0 [] .none .none .none .none none .none .none 0)
 def rG(P:Ym):Obj:=cd kL 428 uc 429 au 430 184 2 0 0 3 168 true 181 169 (.ref 170) (.ref 171) (.ref 172) 433 184 au 434
 def jH(P:Ym):Obj:=Fu (aK (aw 5 3) kL uc 3 [] .none .none (.str (cz (aw 5 3)) 435) (.str q3 194) none (.ref 173) .none 0)
 def xa(P:Ym):Obj:=Tu []
 def wZ(P:Ym):Obj:=Fi []
 def wY(P:Ym):Obj:=Tu [(.str q6 440),(.str dO 441)]
 def wX(P:Ym):Obj:=Tu []
 def wW(P:Ym):Obj:=Fn (aK (aw 5 4) kK ub 0 [] .none .none .none .none none .none .none 0)
 def rF(P:Ym):Obj:=cd kK 437 ub 438 au 439 209 2 0 0 3 175 true 181 176 (.ref 177) (.ref 178) (.ref 179) 442 209 au 443
 def jG(P:Ym):Obj:=Fu (aK (aw 5 4) kK ub 3 [] .none .none (.str (cz (aw 5 4)) 444) (.str q3 194) none (.ref 180) .none 0)
 def wV(P:Ym):Obj:=Tu []
 def wU(P:Ym):Obj:=Fi []
 def wT(P:Ym):Obj:=Tu [(.str q6 449),(.str dO 450),(.str qw 451),(.str mN 452),(.str BC 453),(.str BB 454),(.str Bz 455),(.str qy 456),(.str Bx 457),(.str qt 458),(.str Bw 459),(.str Bv 460)]
 def wS(P:Ym):Obj:=Tu []
 def wR(P:Ym):Obj:=Fn (aK (aw 5 5) qx ua 0 [] .none .none .none .none none .none .none 0)
 def rE(P:Ym):Obj:=cd qx 446 ua 447 au 448 236 1 0 0 3 182 true 181 183 (.ref 184) (.ref 185) (.ref 186) 461 236 au 462
 def jF(P:Ym):Obj:=Fu (aK (aw 5 5) qx ua 3 [] .none .none .none (.str q3 194) none (.ref 187) .none 0)
 def wQ(P:Ym):Obj:=Tu [(.int 0 464),.none,(.int 0 465),.none]
 def wP(P:Ym):Obj:=Tu []
 def wO(P:Ym):Obj:=Fi []
 def wN(P:Ym):Obj:=Tu [(.str q6 469),(.str vh 470),(.str vf 471),(.str vd 472),(.str vc 473),(.str eo 474),(.str dO 475),(.str qw 476),(.str Bu 477),(.str Bt 478),(.str Bs 479),(.str Br 480),(.str Bq 481),(.str Bp 482),(.str mN 483),(.str Bo 484),(.str Bn 485),(.str qr 486),(.str q1 487)]
 def wM(P:Ym):Obj:=Tu []
 def wL(P:Ym):Obj:=Fn (aK (aw 5 6) kJ uB 0 [] .none .none .none .none none .none .none 0)
 def rD(P:Ym):Obj:=cd kJ 466 uB 467 au 468 260 5 0 0 3 190 true 181 191 (.ref 192) (.ref 193) (.ref 194) 488 260 au 489
 def iD(P:Ym):Obj:=Fu (aK (aw 5 6) kJ uB 3 [] (.ref 189) .none (.str (cz (aw 5 6)) 490) (.str q3 194) none (.ref 195) .none 0)
 def wK(P:Ym):Obj:=Tu []
 def wJ(P:Ym):Obj:=Fi []
 def wI(P:Ym):Obj:=Tu [(.str q6 495),(.str Cu 496),(.str Ct 497),(.str Cs 498),(.str vk 499),(.str vh 500),(.str vf 501),(.str vd 502),(.str vc 503),(.str mN 504),(.str qr 505),(.str q1 506),(.str Cr 507),(.str qE 508),(.str qD 509),(.str Cq 510),(.str Cp 511),(.str qB 512),(.str qA 513),(.str Cn 514)]
 def wH(P:Ym):Obj:=Tu []
 def wG(P:Ym):Obj:=Fn (aK (aw 5 7) li uA 0 [] .none .none .none .none none .none .none 0)
 def rC(P:Ym):Obj:=cd li 492 uA 493 au 494 335 1 0 0 3 197 true 181 198 (.ref 199) (.ref 200) (.ref 201) 515 335 au 516
 def jE(P:Ym):Obj:=Fu (aK (aw 5 7) li uA 3 [] .none .none (.str (cz (aw 5 7)) 517) (.str q3 194) none (.ref 202) .none 0)
 def wF(P:Ym):Obj:=Tu []
 def wE(P:Ym):Obj:=Fi []
 def wD(P:Ym):Obj:=Tu [(.str q6 522),(.str mN 523),(.str qr 524),(.str Cm 525),(.str Cl 526),(.str Ck 527),(.str ji 528),(.str qz 529)]
 def wC(P:Ym):Obj:=Tu []
 def wB(P:Ym):Obj:=Fn (aK (aw 5 8) lh uz 0 [] .none .none .none .none none .none .none 0)
 def rB(P:Ym):Obj:=cd lh 519 uz 520 au 521 383 1 0 0 3 204 true 181 205 (.ref 206) (.ref 207) (.ref 208) 530 383 au 531
 def jD(P:Ym):Obj:=Fu (aK (aw 5 8) lh uz 3 [] .none .none (.str (cz (aw 5 8)) 532) (.str q3 194) none (.ref 209) .none 0)
 def wA(P:Ym):Obj:=Tu [(.int 3 534)]
 def wz(P:Ym):Obj:=Tu []
 def wy(P:Ym):Obj:=Fi []
 def wx(P:Ym):Obj:=Tu [(.str q6 538),(.str qt 539),(.str Ci 540),(.str qz 541),(.str qE 542),(.str qB 543),(.str qD 544),(.str qA 545),(.str Ch 546),(.str vE 547)]
 def ww(P:Ym):Obj:=Tu []
 def wv(P:Ym):Obj:=Fn (aK (aw 5 9) kZ uy 0 [] .none .none .none .none none .none .none 0)
 def rA(P:Ym):Obj:=cd kZ 535 uy 536 au 537 430 2 0 0 35 212 true 181 213 (.ref 214) (.ref 215) (.ref 216) 548 430 au 549
 def lx(P:Ym):Obj:=Fu (aK (aw 5 9) kZ uy 3 [] (.ref 211) .none (.str (cz (aw 5 9)) 550) (.str q3 194) none (.ref 217) .none 0)
 def wu(P:Ym):Obj:=Tu []
 def wt(P:Ym):Obj:=Fi []
 def wq(P:Ym):Obj:=Tu [(.str q6 555),(.str vr 556)]
 def wo(P:Ym):Obj:=Tu []
 def wn(P:Ym):Obj:=Fn (aK (aw 5 10) kY ux 0 [] .none .none .none .none none .none .none 0)
 def wm(P:Ym):Obj:=cd kY 552 ux 553 au 554 475 1 0 0 3 219 true 181 220 (.ref 221) (.ref 222) (.ref 223) 557 475 au 558
 def wl(P:Ym):Obj:=Fu (aK (aw 5 10) kY ux 3 [] .none .none (.str (cz (aw 5 10)) 559) (.str q3 194) none (.ref 224) .none 0)
 def wk(P:Ym):Obj:=Tu []
 def wj(P:Ym):Obj:=Fi []
 def wi(P:Ym):Obj:=Tu [(.str q6 564)]
 def wh(P:Ym):Obj:=Tu []
 def wg(P:Ym):Obj:=Fn (aK (aw 5 11) kX uw 0 [] .none .none .none .none none .none .none 0)
 def wf(P:Ym):Obj:=cd kX 561 uw 562 au 563 499 1 0 0 3 226 true 181 227 (.ref 228) (.ref 229) (.ref 230) 565 499 au 566
 def we(P:Ym):Obj:=Fu (aK (aw 5 11) kX uw 3 [] .none .none .none (.str q3 194) none (.ref 231) .none 0)
 def wd(P:Ym):Obj:=Tu []
 def wc(P:Ym):Obj:=Fi []
 def wb(P:Ym):Obj:=Tu [(.str q6 571)]
 def wa(P:Ym):Obj:=Tu []
 def vZ(P:Ym):Obj:=Fn (aK (aw 5 12) kW uv 0 [] .none .none .none .none none .none .none 0)
 def vY(P:Ym):Obj:=cd kW 568 uv 569 au 570 502 1 0 0 3 233 true 181 234 (.ref 235) (.ref 236) (.ref 237) 572 502 au 573
 def vX(P:Ym):Obj:=Fu (aK (aw 5 12) kW uv 3 [] .none .none .none (.str q3 194) none (.ref 238) .none 0)
 def vW(P:Ym):Obj:=Tu [(.str eo 575),(.str vp 576),(.str dO 577),(.str qw 578),(.str BA 579),(.str By 580),(.str BD 581),(.str qy 582),(.str vk 583),(.str BE 584)]
 def vV(P:Ym):Obj:=⟨(.type "dict"),none,.dict ⟨[kv P iU 396 (.str q3 194),kv P ko 400 (.int 70 399),kv P q9 402 (.str (cz (aS 5)) 401),kv P q5 417 (.ref 160),kv P kM 427 (.ref 167),kv P kL 436 (.ref 174),kv P kK 445 (.ref 181),kv P vj 463 (.ref 188),kv P kJ 491 (.ref 196),kv P li 518 (.ref 203),kv P lh 533 (.ref 210),kv P kZ 551 (.ref 218),kv P kY 560 (.ref 225),kv P kX 567 (.ref 232),kv P kW 574 (.ref 239),kv P km 585 (.ref 240),kv P pM 587 (.ref 243),kv P pL 589 (.ref 244)]⟩ 3,⟨[]⟩⟩
 def rz(P:Ym):Obj:=⟨(.type "type"),none,.cls ⟨ge,[(.type "object")],[(.ref 242),(.type "object")],241,ge,true,[],[],false,none,false⟩,⟨[none,none,some (.str ge 389),some (.str ge 397),some (.builtin "object.__new__"),some (.bool true)]⟩⟩
 def vU(P:Ym):Obj:=⟨(.type "getset_descriptor"),none,.fields ⟨[(.str pM 586),(.ref 242),(.builtin "function.__dict__"),(.builtin "function.__dict__#set")]⟩,⟨[]⟩⟩
 def vT(P:Ym):Obj:=⟨(.type "getset_descriptor"),none,.fields ⟨[(.str pL 588),(.ref 242),(.builtin "ExceptionGroup.__weakref__"),.none]⟩,⟨[]⟩⟩
noncomputable def vS(P:Ym):Obj:=⟨(.type "super"),none,.fields ⟨[(.ref 242),(.ref 242),(.ref 242)]⟩,⟨[]⟩⟩
noncomputable def vR(P:Ym):Obj:=⟨(.type "builtin_function_or_method"),none,.fields ⟨[(.builtin "object.__init_subclass__"),(.ref 242)]⟩,⟨[]⟩⟩
 def et(P:Ym):Obj:=⟨(.type "dict"),none,.dict ⟨[kv P q2 165 (.str jq 650),kv P q9 166 .none,kv P z6 167 .none,kv P z7 168 (.builtin "__main__.__loader__#opaque"),kv P z8 169 .none,kv P z9 170 (.ref 6),kv P pQ 171 (.ref 4),kv P pP 173 (.str au 172),kv P pO 174 .none,kv P q0 193 (.ref 21),kv P q4 252 (.ref 60),kv P fC 380 (.ref 135),kv P iv 388 (.ref 145),kv P ge 591 (.ref 242),kv P jv 602 (.ref 253),kv P jt 639 (.ref 261),kv P jr 649 (.ref 268),kv P jp 657 (.ref 273),kv P jo 663 (.ref 278),kv P jn 669 (.ref 283),kv P jm 675 (.ref 288),kv P jl 681 (.ref 293)]⟩ 22,⟨[]⟩⟩
 def DA(P:Ym):Obj:=Fi [(I 1),(I 0),(.ref 20),(I 5),(I 0),(.ref 27),(I 23),(I 0),(.ref 71),(I 66),(I 0),(.ref 144),(I 70),(I 0),(.ref 151),(I 504),(I 0),(.ref 252),(I 513),(I 0),(.ref 260),(I 581),(I 0),(.ref 267),(I 590),(I 0),(.ref 272),(I 602),(I 0),(.ref 277),(I 617),(I 0),(.ref 282),(I 632),(I 0),(.ref 287),(I 674),(I 0),(.ref 292)]
 def Dz(P:Ym):Obj:=Tu []
 def Dy(P:Ym):Obj:=Fi []
 def Dx(P:Ym):Obj:=Tu [(.str Cg 595),(.str Cf 596),(.str Ce 597),(.str vq 598)]
 def Dw(P:Ym):Obj:=Tu []
 def Dv(P:Ym):Obj:=Fn (gA (aS 6) jv)
 def vQ(P:Ym):Obj:=cd jv 592 jv 593 au 594 504 2 0 0 3 247 true 181 248 (.ref 249) (.ref 250) (.ref 251) 599 504 au 600
 def lu(P:Ym):Obj:=Fu (aK (aS 6) jv jv 3 [] .none .none (.str (cz (aS 6)) 601) (.str q3 194) none (.ref 252) .none 0)
 def Du(P:Ym):Obj:=Tu [(.str jg 603),(.str jg 604),(.str jg 605),(.str jg 606),(.int 3 607),(.str BY 608)]
 def Dt(P:Ym):Obj:=Tu []
 def nY(P:Ym):Obj:=Fi []
 def Ds(P:Ym):Obj:=Tu [(.str eo 612),(.str dO 613),(.str Cd 614),(.str Cc 615),(.str Cb 616),(.str Ca 617),(.str qt 618),(.str BZ 619),(.str BX 620),(.str BW 621),(.str vE 622),(.str BV 623),(.str BU 624),(.str BS 625),(.str BR 626),(.str BQ 627),(.str qz 628),(.str qE 629),(.str qB 630),(.str BP 631),(.str BO 632),(.str BN 633),(.str qD 634),(.str qA 635)]
 def Dr(P:Ym):Obj:=Tu []
 def Dq(P:Ym):Obj:=Fn (gA (aS 7) jt)
 def ry(P:Ym):Obj:=cd jt 609 jt 610 au 611 513 8 0 0 35 255 true 181 256 (.ref 257) (.ref 258) (.ref 259) 636 513 au 637
 def jC(P:Ym):Obj:=Fu (aK (aS 7) jt jt 3 [] (.ref 254) .none (.str (cz (aS 7)) 638) (.str q3 194) none (.ref 260) .none 0)
 def Dp(P:Ym):Obj:=Tu []
 def Do(P:Ym):Obj:=Fi []
 def Dn(P:Ym):Obj:=Tu [(.str eo 643),(.str dO 644),(.str BM 645),(.str BL 646)]
 def Dm(P:Ym):Obj:=Tu []
 def Dl(P:Ym):Obj:=Fn (gA (aS 8) jr)
 def vP(P:Ym):Obj:=cd jr 640 jr 641 au 642 581 2 0 0 7 262 true 181 263 (.ref 264) (.ref 265) (.ref 266) 647 581 au 648
 def gf(P:Ym):Obj:=Fu (aK (aS 8) jr jr 3 [] .none .none .none (.str q3 194) none (.ref 267) .none 0)
 def Dk(P:Ym):Obj:=Tu []
 def Dj(P:Ym):Obj:=Fi []
 def Di(P:Ym):Obj:=Fn (gA (aS 10) jp)
 def nV(P:Ym):Obj:=cd jp 652 jp 653 au 654 590 1 0 0 3 269 true 181 270 .none .none (.ref 271) 655 590 au 656
 def jB(P:Ym):Obj:=Fu (aK (aS 10) jp jp 3 [] .none .none .none (.str jq 650) none (.ref 272) .none 0)
 def Dh(P:Ym):Obj:=Tu []
 def Dg(P:Ym):Obj:=Fi []
 def Df(P:Ym):Obj:=Fn (gA (aS 11) jo)
 def nU(P:Ym):Obj:=cd jo 658 jo 659 au 660 602 2 0 0 3 274 true 181 275 .none .none (.ref 276) 661 602 au 662
 def eu(P:Ym):Obj:=Fu (aK (aS 11) jo jo 3 [] .none .none .none (.str jq 650) none (.ref 277) .none 0)
 def De(P:Ym):Obj:=Tu []
 def Dd(P:Ym):Obj:=Fi []
 def Dc(P:Ym):Obj:=Fn (gA (aS 12) jn)
 def nS(P:Ym):Obj:=cd jn 664 jn 665 au 666 617 1 0 0 3 279 true 181 280 .none .none (.ref 281) 667 617 au 668
 def jA(P:Ym):Obj:=Fu (aK (aS 12) jn jn 3 [] .none .none .none (.str jq 650) none (.ref 282) .none 0)
 def Db(P:Ym):Obj:=Tu []
 def Da(P:Ym):Obj:=Fi []
 def CZ(P:Ym):Obj:=Fn (gA (aS 13) jm)
 def vO(P:Ym):Obj:=cd jm 670 jm 671 au 672 632 3 0 0 3 284 true 181 285 .none .none (.ref 286) 673 632 au 674
 def ls(P:Ym):Obj:=Fu (aK (aS 13) jm jm 3 [] .none .none .none (.str jq 650) none (.ref 287) .none 0)
 def CY(P:Ym):Obj:=Tu []
 def CX(P:Ym):Obj:=Fi []
 def CW(P:Ym):Obj:=Fn (gA (aS 14) jl)
 def nQ(P:Ym):Obj:=cd jl 676 jl 677 au 678 674 1 0 0 3 289 true 181 290 .none .none (.ref 291) 679 674 au 680
 def gN(P:Ym):Obj:=Fu (aK (aS 14) jl jl 3 [] .none .none .none (.str jq 650) none (.ref 292) .none 0)
 def pX(P:Ym):BT:=(nd (boot_o_0 P) (nd (boot_o_1 P) (nd (boot_o_3 P) (u5 (boot_o_7 P)) (u5 (lF P))) (nd (boot_o_5 P) (u5 (boot_o_9 P)) (u5 (lE P)))) (nd (boot_o_2 P) (nd (boot_o_4 P) (u5 (boot_o_8 P)) (u5 (Om P))) (nd (boot_o_6 P) (u5 (boot_o_10 P)) (u5 (ly P)))))
noncomputable def sL:Nat:=15
noncomputable def pZ:Nat:=187
 def Ab(P:Ym):BT:=(nd (boot_o_0 P) (nd (boot_o_1 P) (nd (o3 P) (nd (boot_o_7 P) (nd (oD P) (nd (nO P) (u5 (mV P)) nl) (u5 (nu P))) (nd (oj P) (u5 (nF P)) (u5 (ng P)))) (nd (lF P) (nd (oy P) (u5 (nJ P)) (u5 (nk P))) (nd (nW P) (u5 (nB P)) (u5 (mZ P))))) (nd (boot_o_5 P) (nd (boot_o_9 P) (nd (oB P) (u5 (nM P)) (u5 (nq P))) (nd (nZ P) (u5 (nD P)) (u5 (nc P)))) (nd (lE P) (nd (ou P) (u5 (nH P)) (u5 (ni P))) (nd (nR P) (u5 (ny P)) (u5 (mX P)))))) (nd (boot_o_2 P) (nd (boot_o_4 P) (nd (boot_o_8 P) (nd (oC P) (nd (nN P) (u5 (mU P)) nl) (u5 (nr P))) (nd (oh P) (u5 (nE P)) (u5 (nf P)))) (nd (Ol P) (nd (ow P) (u5 (nI P)) (u5 (nj P))) (nd (nT P) (u5 (nz P)) (u5 (mY P))))) (nd (boot_o_6 P) (nd (boot_o_10 P) (nd (oA P) (u5 (nK P)) (u5 (np P))) (nd (nX P) (u5 (nC P)) (u5 (nb P)))) (nd (ly P) (nd (oq P) (u5 (nG P)) (u5 (nh P))) (nd (nP P) (u5 (nv P)) (u5 (mW P)))))))
noncomputable def DK:Nat:=65
noncomputable def Ae:Nat:=253
 def Aa(P:Ym):BT:=(nd (boot_o_0 P) (nd (boot_o_1 P) (nd (Oi P) (nd (boot_o_7 P) (nd (oD P) (nd (nO P) (nd (mV P) (u5 (rT P)) nl) (u5 (qO P))) (nd (nu P) (u5 (rc P)) (u5 (so P)))) (nd (oj P) (nd (nF P) (nd (rn P) (u5 (lC P)) nl) (u5 (sy P))) (nd (ng P) (u5 (qW P)) (u5 (sc P))))) (nd (lF P) (nd (oy P) (nd (nJ P) (nd (ru P) (u5 (rP P)) nl) (u5 (qK P))) (nd (nk P) (u5 (ra P)) (u5 (sg P)))) (nd (nW P) (nd (nB P) (u5 (rh P)) (u5 (su P))) (nd (mZ P) (u5 (qS P)) (u5 (rX P)))))) (nd (boot_o_5 P) (nd (boot_o_9 P) (nd (oB P) (nd (nM P) (nd (rx P) (u5 (rR P)) nl) (u5 (qM P))) (nd (nq P) (u5 (mS P)) (u5 (sm P)))) (nd (nZ P) (nd (nD P) (nd (rj P) (u5 (rK P)) nl) (u5 (sw P))) (nd (nc P) (u5 (iB P)) (u5 (rZ P))))) (nd (lE P) (nd (ou P) (nd (nH P) (nd (rq P) (u5 (rN P)) nl) (u5 (sB P))) (nd (ni P) (u5 (qY P)) (u5 (se P)))) (nd (nR P) (nd (ny P) (u5 (rf P)) (u5 (sq P))) (nd (mX P) (u5 (qQ P)) (u5 (rV P))))))) (nd (boot_o_2 P) (nd (boot_o_4 P) (nd (boot_o_8 P) (nd (oC P) (nd (nN P) (nd (mU P) (u5 (rS P)) nl) (u5 (qN P))) (nd (nr P) (u5 (rb P)) (u5 (sn P)))) (nd (oh P) (nd (nE P) (nd (rl P) (u5 (rL P)) nl) (u5 (sx P))) (nd (nf P) (u5 (mR P)) (u5 (sb P))))) (nd (Ok P) (nd (ow P) (nd (nI P) (nd (rr P) (u5 (rO P)) nl) (u5 (sC P))) (nd (nj P) (u5 (qZ P)) (u5 (sf P)))) (nd (nT P) (nd (nz P) (u5 (rg P)) (u5 (sr P))) (nd (mY P) (u5 (qR P)) (u5 (rW P)))))) (nd (boot_o_6 P) (nd (boot_o_10 P) (nd (oA P) (nd (nK P) (nd (rv P) (u5 (rQ P)) nl) (u5 (qL P))) (nd (np P) (u5 (iC P)) (u5 (sh P)))) (nd (nX P) (nd (nC P) (nd (ri P) (u5 (rJ P)) nl) (u5 (sv P))) (nd (nb P) (u5 (qU P)) (u5 (rY P))))) (nd (ly P) (nd (oq P) (nd (nG P) (nd (rp P) (u5 (rM P)) nl) (u5 (sA P))) (nd (nh P) (u5 (qX P)) (u5 (sd P)))) (nd (nP P) (nd (nv P) (u5 (re P)) (u5 (sp P))) (nd (mW P) (u5 (qP P)) (u5 (rU P))))))))
noncomputable def DJ:Nat:=139
noncomputable def Ad:Nat:=381
 def zZ(P:Ym):BT:=(nd (boot_o_0 P) (nd (boot_o_1 P) (nd (Oh P) (nd (boot_o_7 P) (nd (oD P) (nd (nO P) (nd (mV P) (u5 (rT P)) (u5 (wO P))) (nd (qO P) (u5 (rI P)) (u5 (wn P)))) (nd (nu P) (nd (rc P) (u5 (xE P)) (u5 (wC P))) (nd (so P) (u5 (xa P)) (u5 (vX P))))) (nd (oj P) (nd (nF P) (nd (rn P) (u5 (lC P)) (u5 (wI P))) (nd (sy P) (u5 (jI P)) (u5 (wf P)))) (nd (ng P) (nd (qW P) (u5 (xw P)) (u5 (ww P))) (nd (sc P) (u5 (wU P)) nl)))) (nd (lF P) (nd (oy P) (nd (nJ P) (nd (ru P) (u5 (rP P)) (u5 (rD P))) (nd (qK P) (u5 (xj P)) (u5 (wj P)))) (nd (nk P) (nd (ra P) (u5 (xA P)) (u5 (wA P))) (nd (sg P) (u5 (wW P)) (u5 (vU P))))) (nd (nW P) (nd (nB P) (nd (rh P) (u5 (xI P)) (u5 (jE P))) (nd (su P) (u5 (xc P)) (u5 (wb P)))) (nd (mZ P) (nd (qS P) (u5 (xq P)) (u5 (wu P))) (nd (rX P) (u5 (rE P)) nl))))) (nd (boot_o_5 P) (nd (boot_o_9 P) (nd (oB P) (nd (nM P) (nd (rx P) (u5 (rR P)) (u5 (wM P))) (nd (qM P) (u5 (xm P)) (u5 (wl P)))) (nd (nq P) (nd (mS P) (u5 (xC P)) (u5 (rB P))) (nd (sm P) (u5 (wY P)) (u5 (vV P))))) (nd (nZ P) (nd (nD P) (nd (rj P) (u5 (rK P)) (u5 (wG P))) (nd (sw P) (u5 (xf P)) (u5 (wd P)))) (nd (nc P) (nd (iB P) (u5 (xu P)) (u5 (rA P))) (nd (rZ P) (u5 (wS P)) nl)))) (nd (lE P) (nd (ou P) (nd (nH P) (nd (rq P) (u5 (rN P)) (u5 (wK P))) (nd (sB P) (u5 (xh P)) (u5 (wh P)))) (nd (ni P) (nd (qY P) (u5 (xy P)) (u5 (wy P))) (nd (se P) (u5 (jG P)) (u5 (vS P))))) (nd (nR P) (nd (ny P) (nd (rf P) (u5 (xG P)) (u5 (wE P))) (nd (sq P) (u5 (rG P)) (u5 (vZ P)))) (nd (mX P) (nd (qQ P) (u5 (xo P)) (u5 (wq P))) (nd (rV P) (u5 (wQ P)) nl)))))) (nd (boot_o_2 P) (nd (boot_o_4 P) (nd (boot_o_8 P) (nd (oC P) (nd (nN P) (nd (mU P) (u5 (rS P)) (u5 (wN P))) (nd (qN P) (u5 (jJ P)) (u5 (wm P)))) (nd (nr P) (nd (rb P) (u5 (xD P)) (u5 (wB P))) (nd (sn P) (u5 (wZ P)) (u5 (vW P))))) (nd (oh P) (nd (nE P) (nd (rl P) (u5 (rL P)) (u5 (wH P))) (nd (sx P) (u5 (xg P)) (u5 (we P)))) (nd (nf P) (nd (mR P) (u5 (xv P)) (u5 (wv P))) (nd (sb P) (u5 (wT P)) nl)))) (nd (Oj P) (nd (ow P) (nd (nI P) (nd (rr P) (u5 (rO P)) (u5 (iD P))) (nd (sC P) (u5 (xi P)) (u5 (wi P)))) (nd (nj P) (nd (qZ P) (u5 (xz P)) (u5 (wz P))) (nd (sf P) (u5 (rF P)) (u5 (vT P))))) (nd (nT P) (nd (nz P) (nd (rg P) (u5 (xH P)) (u5 (wF P))) (nd (sr P) (u5 (xb P)) (u5 (wa P)))) (nd (mY P) (nd (qR P) (u5 (xp P)) (u5 (wt P))) (nd (rW P) (u5 (jF P)) nl))))) (nd (boot_o_6 P) (nd (boot_o_10 P) (nd (oA P) (nd (nK P) (nd (rv P) (u5 (rQ P)) (u5 (wL P))) (nd (qL P) (u5 (xl P)) (u5 (wk P)))) (nd (np P) (nd (iC P) (u5 (xB P)) (u5 (jD P))) (nd (sh P) (u5 (wX P)) (u5 (rz P))))) (nd (nX P) (nd (nC P) (nd (ri P) (u5 (rJ P)) (u5 (rC P))) (nd (sv P) (u5 (xe P)) (u5 (wc P)))) (nd (nb P) (nd (qU P) (u5 (xt P)) (u5 (lx P))) (nd (rY P) (u5 (wR P)) nl)))) (nd (ly P) (nd (oq P) (nd (nG P) (nd (rp P) (u5 (rM P)) (u5 (wJ P))) (nd (sA P) (u5 (rH P)) (u5 (wg P)))) (nd (nh P) (nd (qX P) (u5 (xx P)) (u5 (wx P))) (nd (sd P) (u5 (wV P)) (u5 (vR P))))) (nd (nP P) (nd (nv P) (nd (re P) (u5 (xF P)) (u5 (wD P))) (nd (sp P) (u5 (jH P)) (u5 (vY P)))) (nd (mW P) (nd (qP P) (u5 (xn P)) (u5 (wo P))) (nd (rU P) (u5 (wP P)) nl)))))))
noncomputable def DI:Nat:=247
noncomputable def Ac:Nat:=592
 def zY(P:Ym):BT:=(nd (boot_o_0 P) (nd (boot_o_1 P) (nd (et P) (nd (boot_o_7 P) (nd (oD P) (nd (nO P) (nd (mV P) (nd (rT P) (u5 (Dt P)) nl) (u5 (wO P))) (nd (qO P) (nd (rI P) (u5 (vO P)) nl) (u5 (wn P)))) (nd (nu P) (nd (rc P) (nd (xE P) (u5 (Di P)) nl) (u5 (wC P))) (nd (so P) (u5 (xa P)) (u5 (vX P))))) (nd (oj P) (nd (nF P) (nd (rn P) (nd (lC P) (u5 (Do P)) nl) (u5 (wI P))) (nd (sy P) (u5 (jI P)) (u5 (wf P)))) (nd (ng P) (nd (qW P) (nd (xw P) (u5 (De P)) nl) (u5 (ww P))) (nd (sc P) (u5 (wU P)) (u5 (Dz P)))))) (nd (lF P) (nd (oy P) (nd (nJ P) (nd (ru P) (nd (rP P) (u5 (Dq P)) nl) (u5 (rD P))) (nd (qK P) (nd (xj P) (u5 (CW P)) nl) (u5 (wj P)))) (nd (nk P) (nd (ra P) (nd (xA P) (u5 (Dg P)) nl) (u5 (wA P))) (nd (sg P) (u5 (wW P)) (u5 (vU P))))) (nd (nW P) (nd (nB P) (nd (rh P) (nd (xI P) (u5 (vP P)) nl) (u5 (jE P))) (nd (su P) (u5 (xc P)) (u5 (wb P)))) (nd (mZ P) (nd (qS P) (nd (xq P) (u5 (jA P)) nl) (u5 (wu P))) (nd (rX P) (u5 (rE P)) (u5 (Dv P))))))) (nd (boot_o_5 P) (nd (boot_o_9 P) (nd (oB P) (nd (nM P) (nd (rx P) (nd (rR P) (u5 (Ds P)) nl) (u5 (wM P))) (nd (qM P) (nd (xm P) (u5 (CY P)) nl) (u5 (wl P)))) (nd (nq P) (nd (mS P) (nd (xC P) (u5 (jB P)) nl) (u5 (rB P))) (nd (sm P) (u5 (wY P)) (u5 (vV P))))) (nd (nZ P) (nd (nD P) (nd (rj P) (nd (rK P) (u5 (Dm P)) nl) (u5 (wG P))) (nd (sw P) (u5 (xf P)) (u5 (wd P)))) (nd (nc P) (nd (iB P) (nd (xu P) (u5 (Dc P)) nl) (u5 (rA P))) (nd (rZ P) (u5 (wS P)) (u5 (Dx P)))))) (nd (lE P) (nd (ou P) (nd (nH P) (nd (rq P) (nd (rN P) (u5 (jC P)) nl) (u5 (wK P))) (nd (sB P) (nd (xh P) (u5 (gN P)) nl) (u5 (wh P)))) (nd (ni P) (nd (qY P) (nd (xy P) (u5 (nU P)) nl) (u5 (wy P))) (nd (se P) (u5 (jG P)) (u5 (vS P))))) (nd (nR P) (nd (ny P) (nd (rf P) (nd (xG P) (u5 (Dk P)) nl) (u5 (wE P))) (nd (sq P) (u5 (rG P)) (u5 (vZ P)))) (nd (mX P) (nd (qQ P) (nd (xo P) (u5 (Da P)) nl) (u5 (wq P))) (nd (rV P) (u5 (wQ P)) (u5 (lu P)))))))) (nd (boot_o_2 P) (nd (boot_o_4 P) (nd (boot_o_8 P) (nd (oC P) (nd (nN P) (nd (mU P) (nd (rS P) (u5 (nY P)) nl) (u5 (wN P))) (nd (qN P) (nd (jJ P) (u5 (ls P)) nl) (u5 (wm P)))) (nd (nr P) (nd (rb P) (nd (xD P) (u5 (nV P)) nl) (u5 (wB P))) (nd (sn P) (u5 (wZ P)) (u5 (vW P))))) (nd (oh P) (nd (nE P) (nd (rl P) (nd (rL P) (u5 (Dn P)) nl) (u5 (wH P))) (nd (sx P) (u5 (xg P)) (u5 (we P)))) (nd (nf P) (nd (mR P) (nd (xv P) (u5 (Dd P)) nl) (u5 (wv P))) (nd (sb P) (u5 (wT P)) (u5 (Dy P)))))) (nd (DA P) (nd (ow P) (nd (nI P) (nd (rr P) (nd (rO P) (u5 (ry P)) nl) (u5 (iD P))) (nd (sC P) (nd (xi P) (u5 (nQ P)) nl) (u5 (wi P)))) (nd (nj P) (nd (qZ P) (nd (xz P) (u5 (Df P)) nl) (u5 (wz P))) (nd (sf P) (u5 (rF P)) (u5 (vT P))))) (nd (nT P) (nd (nz P) (nd (rg P) (nd (xH P) (u5 (gf P)) nl) (u5 (wF P))) (nd (sr P) (u5 (xb P)) (u5 (wa P)))) (nd (mY P) (nd (qR P) (nd (xp P) (u5 (Db P)) nl) (u5 (wt P))) (nd (rW P) (u5 (jF P)) (u5 (vQ P))))))) (nd (boot_o_6 P) (nd (boot_o_10 P) (nd (oA P) (nd (nK P) (nd (rv P) (nd (rQ P) (u5 (Dr P)) nl) (u5 (wL P))) (nd (qL P) (nd (xl P) (u5 (CX P)) nl) (u5 (wk P)))) (nd (np P) (nd (iC P) (nd (xB P) (u5 (Dh P)) nl) (u5 (jD P))) (nd (sh P) (u5 (wX P)) (u5 (rz P))))) (nd (nX P) (nd (nC P) (nd (ri P) (nd (rJ P) (u5 (Dl P)) nl) (u5 (rC P))) (nd (sv P) (u5 (xe P)) (u5 (wc P)))) (nd (nb P) (nd (qU P) (nd (xt P) (u5 (nS P)) nl) (u5 (lx P))) (nd (rY P) (u5 (wR P)) (u5 (Dw P)))))) (nd (ly P) (nd (oq P) (nd (nG P) (nd (rp P) (nd (rM P) (u5 (Dp P)) nl) (u5 (wJ P))) (nd (sA P) (u5 (rH P)) (u5 (wg P)))) (nd (nh P) (nd (qX P) (nd (xx P) (u5 (eu P)) nl) (u5 (wx P))) (nd (sd P) (u5 (wV P)) (u5 (vR P))))) (nd (nP P) (nd (nv P) (nd (re P) (nd (xF P) (u5 (Dj P)) nl) (u5 (wD P))) (nd (sp P) (u5 (jH P)) (u5 (vY P)))) (nd (mW P) (nd (qP P) (nd (xn P) (u5 (CZ P)) nl) (u5 (wo P))) (nd (rU P) (u5 (wP P)) (u5 (Du P)))))))))
noncomputable def xT:Nat:=294
noncomputable def io:Nat:=682
 def Gm(P:Ym):List (YV×Obj):=[(0,boot_o_0 P),(1,boot_o_1 P),(2,boot_o_2 P),(3,et P),(4,boot_o_4 P),(5,boot_o_5 P),(6,boot_o_6 P),(7,boot_o_7 P),(8,boot_o_8 P),(9,boot_o_9 P),(10,boot_o_10 P),(11,lF P),(12,DA P),(13,lE P),(14,ly P),(15,oD P),(16,oC P),(17,oB P),(18,oA P),(19,oy P),(20,ow P),(21,ou P),(22,oq P),(23,oj P),(24,oh P),(25,nZ P),(26,nX P),(27,nW P),(28,nT P),(29,nR P),(30,nP P),(31,nO P),(32,nN P),(33,nM P),(34,nK P),(35,nJ P),(36,nI P),(37,nH P),(38,nG P),(39,nF P),(40,nE P),(41,nD P),(42,nC P),(43,nB P),(44,nz P),(45,ny P),(46,nv P),(47,nu P),(48,nr P),(49,nq P),(50,np P),(51,nk P),(52,nj P),(53,ni P),(54,nh P),(55,ng P),(56,nf P),(57,nc P),(58,nb P),(59,mZ P),(60,mY P),(61,mX P),(62,mW P),(63,mV P),(64,mU P),(65,rx P),(66,rv P),(67,ru P),(68,rr P),(69,rq P),(70,rp P),(71,rn P),(72,rl P),(73,rj P),(74,ri P),(75,rh P),(76,rg P),(77,rf P),(78,re P),(79,rc P),(80,rb P),(81,mS P),(82,iC P),(83,ra P),(84,qZ P),(85,qY P),(86,qX P),(87,qW P),(88,mR P),(89,iB P),(90,qU P),(91,qS P),(92,qR P),(93,qQ P),(94,qP P),(95,qO P),(96,qN P),(97,qM P),(98,qL P),(99,qK P),(100,sC P),(101,sB P),(102,sA P),(103,sy P),(104,sx P),(105,sw P),(106,sv P),(107,su P),(108,sr P),(109,sq P),(110,sp P),(111,so P),(112,sn P),(113,sm P),(114,sh P),(115,sg P),(116,sf P),(117,se P),(118,sd P),(119,sc P),(120,sb P),(121,rZ P),(122,rY P),(123,rX P),(124,rW P),(125,rV P),(126,rU P),(127,rT P),(128,rS P),(129,rR P),(130,rQ P),(131,rP P),(132,rO P),(133,rN P),(134,rM P),(135,lC P),(136,rL P),(137,rK P),(138,rJ P),(139,xI P),(140,xH P),(141,xG P),(142,xF P),(143,xE P),(144,xD P),(145,xC P),(146,xB P),(147,xA P),(148,xz P),(149,xy P),(150,xx P),(151,xw P),(152,xv P),(153,xu P),(154,xt P),(155,xq P),(156,xp P),(157,xo P),(158,xn P),(159,rI P),(160,jJ P),(161,xm P),(162,xl P),(163,xj P),(164,xi P),(165,xh P),(166,rH P),(167,jI P),(168,xg P),(169,xf P),(170,xe P),(171,xc P),(172,xb P),(173,rG P),(174,jH P),(175,xa P),(176,wZ P),(177,wY P),(178,wX P),(179,wW P),(180,rF P),(181,jG P),(182,wV P),(183,wU P),(184,wT P),(185,wS P),(186,wR P),(187,rE P),(188,jF P),(189,wQ P),(190,wP P),(191,wO P),(192,wN P),(193,wM P),(194,wL P),(195,rD P),(196,iD P),(197,wK P),(198,wJ P),(199,wI P),(200,wH P),(201,wG P),(202,rC P),(203,jE P),(204,wF P),(205,wE P),(206,wD P),(207,wC P),(208,wB P),(209,rB P),(210,jD P),(211,wA P),(212,wz P),(213,wy P),(214,wx P),(215,ww P),(216,wv P),(217,rA P),(218,lx P),(219,wu P),(220,wt P),(221,wq P),(222,wo P),(223,wn P),(224,wm P),(225,wl P),(226,wk P),(227,wj P),(228,wi P),(229,wh P),(230,wg P),(231,wf P),(232,we P),(233,wd P),(234,wc P),(235,wb P),(236,wa P),(237,vZ P),(238,vY P),(239,vX P),(240,vW P),(241,vV P),(242,rz P),(243,vU P),(244,vT P),(245,vS P),(246,vR P),(247,Dz P),(248,Dy P),(249,Dx P),(250,Dw P),(251,Dv P),(252,vQ P),(253,lu P),(254,Du P),(255,Dt P),(256,nY P),(257,Ds P),(258,Dr P),(259,Dq P),(260,ry P),(261,jC P),(262,Dp P),(263,Do P),(264,Dn P),(265,Dm P),(266,Dl P),(267,vP P),(268,gf P),(269,Dk P),(270,Dj P),(271,Di P),(272,nV P),(273,jB P),(274,Dh P),(275,Dg P),(276,Df P),(277,nU P),(278,eu P),(279,De P),(280,Dd P),(281,Dc P),(282,nS P),(283,jA P),(284,Db P),(285,Da P),(286,CZ P),(287,vO P),(288,ls P),(289,CY P),(290,CX P),(291,CW P),(292,nQ P),(293,gN P)]
 def gV(P:Ym):Heap:=⟨⟨(Gm P).map (·.2)⟩,ez⟩
 def jU:Env:={ scope:=TP.main.scope,locals:=mainNs,globals:=mainNs,cells:=[],code:=.ref 13,frame:=some 14}
 def bT:List Stmt:=behindTheImports TP
 def cT:Code:=.body bT jU
noncomputable def qT:Pos:=⟨0,0,0,0⟩
noncomputable def gE:Option Value:=some (.ref 6)
theorem MY(w:YH)(os:OsState):topGo eO TP w 11 gE 12 ⟨boot_heap w.params,ZH [],ZN,boot_toks,os⟩ (topStub TP) =
  some (SharedT.abs (l6 (pX w.params) sL ez (ZH []) ZN pZ os),⟨denote eO cT,cT,⟨0,0,0,0⟩,[topFrame qT]⟩):=by
 rw[PySem.W.Fast.te15667345088766844465,PySem.W.Fast.te11892475500146522536]
 kernel_rfl
theorem Uz(w:YH)(os:OsState):segRun eO TP w 11 gE 1 1 (SharedT.abs (l6 (pX w.params) sL ez (ZH []) ZN pZ os)) (blockOf bT jU cT ⟨0,0,0,0⟩ [topFrame qT]) =
  some (.next,SharedT.abs (l6 (pX w.params) sL ez (ZH []) ZN pZ os),cT,⟨0,0,0,0⟩):=by
 rw[PySem.W.Fast.te14374325043358763698]
 kernel_rfl
 def Au:List Stmt:=(bT.drop 0).take 3
theorem Nr(w:YH)(os:OsState):segRunT eO TP w 11 gE 1 362 (l6 (pX w.params) sL ez (ZH []) ZN pZ os) (piecesOf Au jU cT ⟨0,0,0,0⟩ [topFrame qT]) =
  some (.next,(l6 (Ab w.params) DK ez (ZH []) ZN Ae os),cT,⟨5,0,22,54⟩):=by
 rw[f7]
 kernel_rfl
 def At:List Stmt:=(bT.drop 3).take 1
theorem Nq(w:YH)(os:OsState):segRunT eO TP w 11 gE 1 1047 (l6 (Ab w.params) DK ez (ZH []) ZN Ae os) (piecesOf At jU cT ⟨5,0,22,54⟩ [topFrame qT]) =
  some (.next,(l6 (Aa w.params) DJ ez (ZH []) ZN Ad os),cT,⟨23,0,65,54⟩):=by
 rw[f7]
 kernel_rfl
 def As:List Stmt:=(bT.drop 4).take 2
theorem Np(w:YH)(os:OsState):segRunT eO TP w 11 gE 1 696 (l6 (Aa w.params) DJ ez (ZH []) ZN Ad os) (piecesOf As jU cT ⟨23,0,65,54⟩ [topFrame qT]) =
  some (.next,(l6 (zZ w.params) DI ez (ZH []) ZN Ac os),cT,⟨70,0,503,16⟩):=by
 rw[f7]
 kernel_rfl
 def Ar:List Stmt:=(bT.drop 6).take 9
theorem No(w:YH)(os:OsState):segRunT eO TP w 11 gE 1 265 (l6 (zZ w.params) DI ez (ZH []) ZN Ac os) (piecesOf Ar jU cT ⟨70,0,503,16⟩ [topFrame qT]) =
  some (.next,(l6 (zY w.params) xT ez (ZH []) ZN io os),cT,⟨674,0,692,22⟩):=by
 rw[f7]
 kernel_rfl
theorem SP(w:YH)(os:OsState):topRun eO TP w 11 gE 2 (SharedT.abs (l6 (zY w.params) xT ez (ZH []) ZN io os)) ⟨doneF .next,cT,⟨674,0,692,22⟩,[topFrame qT]⟩ =
  some ⟨gV w.params,ZH [],ZN,io,os⟩:=by
 rw[PySem.W.Fast.te14082659384304107361]
 kernel_rfl
theorem UG:bT=Au++(At++(As++(Ar++[]))):=by kernel_rfl
noncomputable def mT:Nat:=12+(1+(362+(1047+(696+(265+2)))))
theorem Kj(w:YH)(os:OsState):topRun eO TP w 11 gE mT ⟨boot_heap w.params,ZH [],ZN,boot_toks,os⟩ (topStub TP) =
  some ⟨gV w.params,ZH [],ZN,io,os⟩:=by
 refine go_top (MY w os) (piece_block (Uz w os) ?_)
 show topRun eO TP w 11 gE _ _ (restOf bT jU cT _ [topFrame qT])=_
 rw[UG]
 exact(piece_app (segRun_of (Nr w os)) (piece_app (segRun_of (Nq w os)) (piece_app (segRun_of (Np w os)) (piece_app (segRun_of (No w os)) (piece_nil (SP w os))))))
 def qV:YA:={ TP with main:={ TP.main with body:=[aS 14]} }
noncomputable def jN:List Str:=[Yn "_wall",Yn "_tuplegetter",Yn "Match",Yn "_calculate_ratio",Yn "SequenceMatcher",Yn "_format_range_context",Yn "context_diff",Yn "_check_types",Yn "_law_versions",Yn "_law_cut",Yn "_law_halves",Yn "_law_fold"]
 def Gg:List YV:=(List.range xT)
 def KO:Ym->Frag:=Gm
theorem UL(P:Ym):Gg=(KO P).map (·.1):=by kernel_rfl
 def eA:Hook:=kHook KO Gg UL
noncomputable def NT:Nat:=6000
theorem NL:∀w:YH,(fencedOpening treeTable TP w NT).map (fun s=>(s.heap,s.gens,s.drawn,s.toks))=some (boot_heap w.params,ZH [],ZN,boot_toks) :=
 boot_open (by kernel_rfl) (by kernel_rfl) (fun s=>by kernel_rfl)
theorem Jx:∀w:YH,((boot_heap w.params).isNs ZP&&(ZH []:Array l3).size==0,(boot_heap w.params).objs.size,(boot_heap w.params).nsMap ZP "__annotations__")=(true,11,gE):=by
 intro w
 kernel_rfl
theorem PR:Nat.ble mT NT=true:=by kernel_rfl
theorem PG(w:YH)(os:OsState):(staticsOk (importedModules TP.main.body) (boot_heap w.params) (gV w.params)&&namesBound TP (gV w.params)&&gensDone ⟨gV w.params,ZH [],ZN,io,os⟩&&laidKept (boot_heap w.params) (gV w.params))=true:=by
 kernel_rfl
theorem PF(w:YH)(os:OsState):openSeen qV jN (importedModules TP.main.body) (fun O=>true) true ⟨gV w.params,ZH [],ZN,io,os⟩=openGood qV jN:=by
 rw[PySem.W.Fast.te4187177175401517315]
 kernel_rfl
theorem PE(w:YH)(os:OsState):eA.obs ⟨gV w.params,ZH [],ZN,io,os⟩=eA.val w:=by
 kernel_rfl
theorem PP:LeftO TP qV jN (fun O=>true) eA.obs eA.val NT:=by
 refine LeftO.of_pieces (H₁:=gV) (gs₁:=ZH []) (d₁:=ZN) (k₁:=io) NL Jx (fun w os=>?_) PR (fun w=>?_)
 ·rw[IF]
  exact Kj w os
 ·funext os
  rw[PG,PF,PE]
end
section
open PySem PySem.W PyProof.Rows
set_option backward.match.sparseCases false in
noncomputable def Nb:Stmt->Pos
 |.FunctionDef _ _ _ _ _ _ _ _ _ p=>p
 |_=>⟨0,0,0,0⟩
noncomputable def gS:DefRec:=⟨Yn "law",Gi (aS 14),cg (aS 14),AT (aS 14),Nb (aS 14)⟩
theorem TB:defOf qV (Yn "law")=some (gS,[]):=by kernel_rfl
theorem PQ:LeftO PySem.Challenge.pw_dm0049_10 qV jN (fun O=>true) eA.obs eA.val NT:=by
 rw[pY]
 exact PP
theorem IA:PySem.Challenge.pw_dm0049_10.theDef (Yn "law")=some (gS.params,gS.body,gS.scope):=by
 rw[pY]
 kernel_rfl
theorem Od:(chainsOk qV&&opensWell PySem.Challenge.pw_dm0049_10&&(frees PySem.Challenge.rw_dm0049_10.row.toRowW&&PySem.Challenge.rw_dm0049_10.row.toRowW.within.isEmpty))=true:=by
 rw[pY]
 kernel_rfl
theorem Kh:OpenLaw.wellSaid PySem.Challenge.rw_dm0049_10=true:=by
 delta PySem.Challenge.rw_dm0049_10
 rw[pY]
 kernel_rfl
theorem QL(walk:WalkO qV jN (fun O O=>True) eA.says PySem.Challenge.rw_dm0049_10.row.toRowW gS [] (fun f vs=>PySem.call f vs)):PySem.Challenge.rw_dm0049_10.Holds:=by
 refine holds_law Kh fun said=>?_
 refine PySem.W.holds_open (q:=qV) (loose:=jN) (Xt:=fun O=>true) (XP:=fun O O=>True) (Yf:=eA.obs) (Ya:=eA.val) (YP:=eA.says) (N:=NT) (d:=gS) (kwd:=[])
  PQ eA.of eA.keeps (fun O O=>trivial) (fun O O O O O=>trivial) TB IA (by kernel_rfl) (fun s O=>recFacts_of (by kernel_rfl)) (by kernel_rfl) said Od ⟨rfl,rfl,rfl,rfl,rfl,by decide +kernel⟩ ?hw walk
 w_witness2
end
set_option genCtorIdx false in set_option genSizeOf false in
inductive AV where
 |none
 |bool (b:Bool)
 |int (i:Int)
 |str (s:Str)
 |bytes (b:Array UInt8)
 |typ (n:String)
 |blt (id:String)
 |ref (a:YV)
 |tup (xs:List AV)
 |lst (xs:List AV)
 |mat (c:YV) (xs:List AV)
 |bm (id:String) (self:AV)
 |inst (c d:YV)
 |rng (a b:Int)
 |any
 deriving Inhabited
noncomputable def AV.ctorIdx(x:AV):Nat:=by cases x;exact 0;exact 1;exact 2;exact 3;exact 4;exact 5;exact 6;exact 7;exact 8;exact 9;exact 10;exact 11;exact 12;exact 13;exact 14
set_option backward.match.sparseCases false in
noncomputable def AV.isAny:AV->Bool
 |.any=>true
 |_=>false
noncomputable abbrev u6:=YV->Option Obj
mutual
inductive Val (Z:u6):AV->Value->Prop
 |none:Val Z .none .none
 |bool (b:Bool):Val Z (.bool b) (.bool b)
 |int (i:Int) (t:Tok):Val Z (.int i) (.int i t)
 |str (x:Str) (t:Tok):Val Z (.str x) (.str x t)
 |bytes (b:Array UInt8) (t:Tok):Val Z (.bytes b) (.bytes b t)
 |typ (n:String):Val Z (.typ n) (.type n)
 |blt (n:String):Val Z (.blt n) (.builtin n)
 |ref (a:YV):Val Z (.ref a) (.ref a)
 |tup {a:YV} {xs:List AV} {items:List Value} {n:Nat}:Z a=some {cls:=.type "tuple",data:=.seq items.toArray n}->Vals Z xs items->Val Z (.tup xs) (.ref a)
 |lst {a:YV} {xs:List AV} {items:List Value} {n:Nat}:Z a=some {cls:=.type "list",data:=.seq items.toArray n}->Vals Z xs items->Val Z (.lst xs) (.ref a)
 |mat {a c d:YV} {xs:List AV} {items:List Value} {n:Nat}:Z a=some {cls:=.ref c,dict:=some d,data:=.seq items.toArray n}->Vals Z xs items->Val Z (.mat c xs) (.ref a)
 |bm {a:YV} {id:String} {self:AV} {v:Value}:Z a=some {cls:=.type "builtin_function_or_method",data:=.fields #[.builtin id,v]}->Val Z self v->Val Z (.bm id self) (.ref a)
 |inst {a c d:YV}:Z a=some {cls:=.ref c,dict:=some d,data:=.plain}->Val Z (.inst c d) (.ref a)
 |rng {r:YV} {a b:Int} {t u v:Tok}:Z r=some {cls:=.type "range",dict:=none,data:=.fields #[.int a t,.int b u,.int 1 v],slots:=#[]}->Val Z (.rng a b) (.ref r)
 |any (x:Value):Val Z .any x
inductive Vals (Z:u6):List AV->List Value->Prop
 |nil:Vals Z [] []
 |cons {x:AV} {v:Value} {xs:List AV} {vs:List Value}:Val Z x v->Vals Z xs vs->Vals Z (x::xs) (v::vs)
end
def VI(Z:u6)(x:Value):AV->Prop
 |.none=>x=.none
 |.bool b=>x=.bool b
 |.int i=>∃t,x=.int i t
 |.str y=>∃t,x=.str y t
 |.bytes y=>∃t,x=.bytes y t
 |.typ n=>x=.type n
 |.blt n=>x=.builtin n
 |.ref a=>x=.ref a
 |.tup xs=>∃a items n,x=.ref a/\Z a=some {cls:=.type "tuple",data:=.seq (List.toArray items) n}/\Vals Z xs items
 |.lst xs=>∃a items n,x=.ref a/\Z a=some {cls:=.type "list",data:=.seq (List.toArray items) n}/\Vals Z xs items
 |.mat c xs=>∃a d items n,x=.ref a/\Z a=some {cls:=.ref c,dict:=some d,data:=.seq (List.toArray items) n}/\Vals Z xs items
 |.bm id self=>∃a v,x=.ref a/\Z a=some {cls:=.type "builtin_function_or_method",data:=.fields #[.builtin id,v]}/\Val Z self v
 |.inst c d=>∃a,x=.ref a/\Z a=some {cls:=.ref c,dict:=some d,data:=.plain}
 |.rng a b=>∃r t u v,x=.ref r/\Z r=some {cls:=.type "range",dict:=none,data:=.fields #[.int a t,.int b u,.int 1 v],slots:=#[]}
 |.any=>True
theorem Val.inv{Z:u6}{v:AV}{x:Value}(h:Val Z v x):VI Z x v :=
 Val.casesOn (motive_1:=fun v x O=>VI Z x v) h rfl (fun O=>rfl) (fun O t=>⟨t,rfl⟩) (fun O t=>⟨t,rfl⟩) (fun O t=>⟨t,rfl⟩) (fun O=>rfl) (fun O=>rfl) (fun O=>rfl) (fun e v=>⟨_,_,_,rfl,e,v⟩) (fun e v=>⟨_,_,_,rfl,e,v⟩)
  (fun e v=>⟨_,_,_,_,rfl,e,v⟩) (fun e v=>⟨_,_,rfl,e,v⟩) (fun e=>⟨_,rfl,e⟩) (fun e=>⟨_,_,_,_,rfl,e⟩) (fun O=>⟨⟩)
section
variable{Z:u6}{P:Value->Prop}
theorem Val.eNone(k:P .none)(x:Value)(h:Val Z .none x):P x:=(show _=_ from h.inv)▸k
theorem Val.eBool{b:Bool}(k:P (.bool b))(x:Value)(h:Val Z (.bool b) x):P x:=(show _=_ from h.inv)▸k
theorem Val.eInt{i:Int}(k:∀t,P (.int i t))(x:Value)(h:Val Z (.int i) x):P x:=aq h.inv fun t e=>e▸k t
theorem Val.eStr{y:Str}(k:∀t,P (.str y t))(x:Value)(h:Val Z (.str y) x):P x:=aq h.inv fun t e=>e▸k t
theorem Val.eTyp{n:String}(k:P (.type n))(x:Value)(h:Val Z (.typ n) x):P x:=(show _=_ from h.inv)▸k
theorem Val.eRef{a:YV}(k:P (.ref a))(x:Value)(h:Val Z (.ref a) x):P x:=(show _=_ from h.inv)▸k
theorem Val.eTup{xs:List AV}(k:∀a items n,Z a=some {cls:=.type "tuple",data:=.seq (List.toArray items) n}->Vals Z xs items->P (.ref a))(x:Value)(h:Val Z (.tup xs) x):P x :=
 bv h.inv fun a i n e g v=>e▸k a i n g v
end
theorem iF{Z:u6}{xs:List AV}{x:Value}(h:Val Z (.tup xs) x):∃a items n,x=.ref a/\Z a=some {cls:=.type "tuple",data:=.seq (List.toArray items) n}/\Vals Z xs items:=h.inv
theorem iH{Z:u6}{xs:List AV}{x:Value}(h:Val Z (.lst xs) x):∃a items n,x=.ref a/\Z a=some {cls:=.type "list",data:=.seq (List.toArray items) n}/\Vals Z xs items:=h.inv
theorem tp{Z:u6}{c:YV}{xs:List AV}{x:Value}(h:Val Z (.mat c xs) x):∃a d items n,x=.ref a/\Z a=some {cls:=.ref c,dict:=some d,data:=.seq (List.toArray items) n}/\Vals Z xs items:=h.inv
theorem yr{Z:u6}{id:String}{self:AV}{x:Value}(h:Val Z (.bm id self) x):∃a v,x=.ref a/\Z a=some {cls:=.type "builtin_function_or_method",data:=.fields #[.builtin id,v]}/\Val Z self v:=h.inv
theorem yq{Z:u6}{c d:YV}{x:Value}(h:Val Z (.inst c d) x):∃a,x=.ref a/\Z a=some {cls:=.ref c,dict:=some d,data:=.plain}:=h.inv
theorem EE{Z:u6}{a b:Int}{x:Value}(h:Val Z (.rng a b) x):∃r t u v,x=.ref r/\Z r=some {cls:=.type "range",dict:=none,data:=.fields #[.int a t,.int b u,.int 1 v],slots:=#[]}:=h.inv
def Gr(Z:u6)(xs:List Value):List AV->Prop
 | []=>xs=[]
 |a::as=>∃y ys,xs=y::ys/\Val Z a y/\Vals Z as ys
theorem Vals.inv{Z:u6}{vs:List AV}{xs:List Value}(h:Vals Z vs xs):Gr Z xs vs :=
 Vals.casesOn (motive_2:=fun v x O=>Gr Z x v) h rfl fun h t=>⟨_,_,rfl,h,t⟩
theorem Vals.un{Z:u6}{a:AV}{as:List AV}{P:List Value->Prop}(k:∀x,Val Z a x->∀ys,Vals Z as ys->P (x::ys))(xs:List Value)(h:Vals Z (a::as) xs):P xs :=
 bw h.inv fun y ys e h t=>e▸k y h ys t
theorem Vals.un0{Z:u6}{P:List Value->Prop}(k:P [])(xs:List Value)(h:Vals Z [] xs):P xs:=(show _=_ from h.inv)▸k
theorem Vals.un2{Z:u6}{a b:AV}{P:List Value->Prop}(k:∀x,Val Z a x->∀y,Val Z b y->P [x,y])(xs:List Value)(h:Vals Z [a,b] xs):P xs:=Vals.un (P:=P) (fun x hx=>Vals.un fun y hy=>Vals.un0 (k x hx y hy)) xs h
theorem Vals.un3{Z:u6}{a b c:AV}{P:List Value->Prop}(k:∀x,Val Z a x->∀y,Val Z b y->∀z,Val Z c z->P [x,y,z])(xs:List Value)(h:Vals Z [a,b,c] xs):P xs:=Vals.un (P:=P) (fun x hx=>Vals.un2 (k x hx)) xs h
def u6.le(Z Z':u6):Prop:=∀a o,Z a=some o->Z' a=some o
theorem u6.le.refl(Z:u6):u6.le Z Z:=fun O O e=>e
theorem u6.le.trans{Z Z' E8:u6}(x:u6.le Z Z')(y:u6.le Z' E8):u6.le Z E8:=fun a o e=>y a o (x a o e)
theorem Val.mono{Z Z':u6}(k:u6.le Z Z'){v:AV}{x:Value}(h:Val Z v x):Val Z' v x :=
 Val.rec (motive_1:=fun v x O=>Val Z' v x) (motive_2:=fun v x O=>Vals Z' v x) .none .bool .int .str .bytes .typ .blt .ref (fun e O => .tup (k _ _ e)) (fun e O => .lst (k _ _ e))
  (fun e O => .mat (k _ _ e)) (fun e O => .bm (k _ _ e)) (fun e => .inst (k _ _ e)) (fun e => .rng (k _ _ e)) .any .nil (fun O O => .cons) h
theorem Vals.mono{Z Z':u6}(k:u6.le Z Z'){v:List AV}{x:List Value}(h:Vals Z v x):Vals Z' v x :=
 Vals.rec (motive_1:=fun v x O=>Val Z' v x) (motive_2:=fun v x O=>Vals Z' v x) .none .bool .int .str .bytes .typ .blt .ref (fun e O => .tup (k _ _ e)) (fun e O => .lst (k _ _ e))
  (fun e O => .mat (k _ _ e)) (fun e O => .bm (k _ _ e)) (fun e => .inst (k _ _ e)) (fun e => .rng (k _ _ e)) .any .nil (fun O O => .cons) h
theorem Vals.ind{Z:u6}{P:List AV->List Value->Prop}(n:P [] [])(c:∀ {x v xs vs},Val Z x v->Vals Z xs vs->P xs vs->P (x::xs) (v::vs)){xs:List AV}{vs:List Value}(h:Vals Z xs vs):P xs vs :=
 Vals.rec (motive_1:=fun O O O=>True) (motive_2:=fun x v O=>P x v) ⟨⟩ (fun O=>⟨⟩) (fun O O=>⟨⟩) (fun O O=>⟨⟩) (fun O O=>⟨⟩) (fun O=>⟨⟩) (fun O=>⟨⟩) (fun O=>⟨⟩) (fun O O O=>⟨⟩) (fun O O O=>⟨⟩)
  (fun O O O=>⟨⟩) (fun O O O=>⟨⟩) (fun O=>⟨⟩) (fun O=>⟨⟩) (fun O=>⟨⟩) n (fun h t O=>c h t) h
theorem Vals.length{Z:u6}{xs:List AV}{vs:List Value}(h:Vals Z xs vs):vs.length=xs.length :=
 h.ind (P:=fun xs vs=>vs.length=xs.length) rfl fun O O=>congrArg Nat.succ
theorem Vals.size{Z:u6}{xs:List AV}{items:Array Value}(h:Vals Z xs items.toList):items.size=xs.length:=ZL.symm.trans h.length
theorem Vals.append{Z:u6}{xs ys:List AV}{vs us:List Value}(h:Vals Z xs vs)(h':Vals Z ys us):Vals Z (xs++ys) (vs++us) :=
 h.ind (P:=fun xs vs=>Vals Z (xs++ys) (vs++us)) h' fun h O => .cons h
theorem Vals.get{Z:u6}{xs:List AV}{vs:List Value}(h:Vals Z xs vs):∀ {i:Nat} {x:AV},xs[i]?=some x->∃v,vs[i]?=some v/\Val Z x v :=
 h.ind (P:=fun xs vs=>∀ {i:Nat} {x:AV},xs[i]?=some x->∃v,vs[i]?=some v/\Val Z x v) nofun fun{x v _ _} h _ t i y e =>
  match i with
  |0=>bQ _ rfl (d8 e▸h)
  |_+1=>t e
theorem Vals.take{Z:u6}{xs:List AV}{vs:List Value}(h:Vals Z xs vs):∀n,Vals Z (xs.take n) (vs.take n) :=
 h.ind (P:=fun xs vs=>∀n,Vals Z (xs.take n) (vs.take n)) (fun |0 => .nil |_+1 => .nil) fun h O t n =>
  match n with
  |0 => .nil
  |n+1 => .cons h (t n)
theorem Vals.drop{Z:u6}{xs:List AV}{vs:List Value}(h:Vals Z xs vs):∀n,Vals Z (xs.drop n) (vs.drop n) :=
 h.ind (P:=fun xs vs=>∀n,Vals Z (xs.drop n) (vs.drop n)) (fun |0 => .nil |_+1 => .nil) fun h ht t n =>
  match n with
  |0 => .cons h ht
  |n+1=>t n
set_option genCtorIdx false in set_option genSizeOf false in
inductive y1 where
 |list (xs:List AV)
 |ns (m:List (Str×AV))
 |gen (g:Nat) (gs:l3)
 |raw (o:Obj)
 |obj (P:u6->Obj->Prop) (mono:∀Z Z' o,u6.le Z Z'->P Z o->P Z' o)
noncomputable def y1.ctorIdx(x:y1):Nat:=by cases x;exact 0;exact 1;exact 2;exact 3;exact 4
noncomputable abbrev aa:=List (YV×y1)
inductive y9 (Z:u6):Option AV->Option Value->Prop
 |none:y9 Z .none .none
 |some {v:AV} {x:Value}:Val Z v x->y9 Z (.some v) (.some x)
 |any {x:Option Value}:y9 Z (.some .any) x
theorem y9.mono{Z Z':u6}(k:u6.le Z Z'){v:Option AV}{x:Option Value}(h:y9 Z v x):y9 Z' v x :=
 y9.casesOn (motive:=fun v x O=>y9 Z' v x) h .none (fun h => .some (h.mono k)) .any
def GF(Z:u6)(x:Option Value):Option AV->Prop
 |.none=>x=.none
 |.some v=>v.isAny=true∨∃y,x=.some y/\Val Z v y
theorem y9.inv{Z:u6}{v:Option AV}{x:Option Value}(h:y9 Z v x):GF Z x v :=
 y9.casesOn (motive:=fun v x O=>GF Z x v) h rfl (fun h => .inr ⟨_,rfl,h⟩) (.inl rfl)
theorem y9.val{Z:u6}{v:AV}{x:Option Value}(h:y9 Z (.some v) x)(w':v.isAny=false):∃y,x=.some y/\Val Z v y :=
 h.inv.resolve_left fun e=>Bool.noConfusion (w'.symm.trans e)
def I7(Z:u6)(h:Heap)(a:YV)(m:List (Str×AV)):Prop:=∃f,h.Ns a f/\∀x,y9 Z (m.lookup x) (f x)
theorem I7.mono{Z Z':u6}{h h':Heap}{a:YV}{m:List (Str×AV)}(k:u6.le Z Z')(e:∀o,h.get? a=some o->h'.get? a=some o)(x:I7 Z h a m):I7 Z' h' a m :=
 x.imp fun O h=>⟨h.1.at' e,fun y=>(h.2 y).mono k⟩
def Holds(Z:u6)(s:Yo)(a:YV):y1->Prop
 |.list xs=>∃items n,s.heap.get? a=some {cls:=.type "list",data:=.seq items n}/\Vals Z xs items.toList
 |.ns m=>I7 Z s.heap a m
 |.gen g gs=>s.heap.IsGen a g/\s.gens[g]?=some gs
 |.raw o=>s.heap.get? a=some o
 |.obj P _=>∃o,s.heap.get? a=some o/\P Z o
noncomputable def y1.gnum:y1->Option Nat
 |.gen g _=>some g
 |_=>none
theorem Holds.mono{Z Z':u6}{s s':Yo}{a:YV}{o:y1}(k:u6.le Z Z')(e:∀o,s.heap.get? a=some o->s'.heap.get? a=some o)
  (eg:∀g gs,o.gnum=some g->s.gens[g]?=some gs->s'.gens[g]?=some gs) (x:Holds Z s a o):Holds Z' s' a o:=by
 cases o with
 |list xs=>refine bK x fun i n g v=>?_;clear x;exact dZ i n (e _ g) (v.mono k)
 |ns m=>exact I7.mono k e x
 |gen g gs =>
  refine aL x fun O1 y=>?_;clear x;obtain⟨o,nm,qn,ho,r⟩:=O1
  exact⟨⟨o,nm,qn,e _ ho,r⟩,eg g gs rfl y⟩
 |raw o=>exact e _ x
 |obj P m=>refine ae x fun o h p=>?_;clear x;exact bQ o (e _ h) (m _ _ _ k p)
theorem Holds.live{Z:u6}{s:Yo}{a:YV}{o:y1}(x:Holds Z s a o):∃ob,s.heap.get? a=some ob:=by
 cases o with
 |list xs=>refine bK x fun i n g v=>?_;clear x;exact⟨_,g⟩
 |ns m=>refine ae x fun f O2 O=>?_;clear x;obtain⟨ob,_,_,g,_⟩:=O2;exact⟨_,g⟩
 |gen g gs=>refine aL x fun O1 y=>?_;clear x;obtain⟨o,nm,qn,ho,r⟩:=O1;exact⟨_,ho⟩
 |raw o=>exact⟨_,x⟩
 |obj P m=>refine ae x fun o h p=>?_;clear x;exact⟨o,h⟩
set_option genSizeOf false in
structure St where
 loc:List (Str×AV)
 led:aa
noncomputable abbrev keys(l:aa):List YV:=l.map (·.1)
noncomputable abbrev gkeys(l:aa):List Nat:=l.filterMap fun p=>p.2.gnum
theorem OQ{l:aa}{p:YV×y1}{g:Nat}(h:p∈l)(e:p.2.gnum=some g):g∈gkeys l:=List.mem_filterMap.mpr ⟨p,h,e⟩
structure t8 (B:u6) (s:Yo) (Z:u6) (led:aa):Prop where
 base:u6.le B Z
 frozen:∀a o,Z a=some o->s.heap.get? a=some o
 nodup:(keys led).Nodup
 apart:∀p∈led,Z p.1=none
 own:∀p∈led,Holds Z s p.1 p.2
 gnodup:(gkeys led).Nodup
 bare:∀x∈s.gens,x.bare=true
structure w5 (B:u6) (s9:Env) (s:Yo) (Z:u6) (st:St):Prop extends t8 B s Z st.led where
 locZ:Z s9.locals=none
 locL:s9.locals∉keys st.led
 loc:I7 Z s.heap s9.locals st.loc
 kinds:∀x v,st.loc.lookup x=some v->s9.kindOf x=some .local
 fn:s9.scope.kind=.function
set_option genSizeOf false in set_option genInjectivity false in
structure R0 where
 at_:YV->Prop
 gn:Nat->Prop
structure y8 (own:R0) (s:Yo) (Z:u6) (s':Yo) (Z':u6) (G6:R0):Prop where
 le:u6.le Z Z'
 kept:∀a o,s.heap.get? a=some o -> ¬ own.at_ a->s'.heap.get? a=some o
 grow:∀a,G6.at_ a->own.at_ a∨s.heap.get? a=none
 zgrow:∀a o,Z' a=some o->Z a=some o∨own.at_ a∨s.heap.get? a=none
 os:s'.os=s.os
 gkept:∀g gs,s.gens[g]?=some gs -> ¬ own.gn g->s'.gens[g]?=some gs
 ggrow:∀g,G6.gn g->own.gn g∨s.gens[g]?=none
theorem y8.refl{own:R0}{s:Yo}{Z:u6}:y8 own s Z s Z own:=⟨.refl _,fun O O e O=>e,fun O h => .inl h,fun O O e => .inl e,rfl,fun O O e O=>e,fun O h => .inl h⟩
theorem y8.trans{o1 o2 W4:R0}{s₁ s2 w7:Yo}{Z1 Z2 Z3:u6}(x:y8 o1 s₁ Z1 s2 Z2 o2)(y:y8 o2 s2 Z2 w7 Z3 W4):y8 o1 s₁ Z1 w7 Z3 W4 where
 le:=x.le.trans y.le
 kept:=fun a o e h=>y.kept a o (x.kept a o e h) fun h'=>(x.grow a h').elim h fun n=>by rw[e] at n;cases n
 grow:=fun a h=>by
  rcases y.grow a h with h' |h'
  ·exact x.grow a h'
  ·by_cases q:o1.at_ a
   ·exact .inl q
   ·right
    cases e:s₁.heap.get? a with
    |none=>rfl
    |some o=>rw[x.kept a o e q] at h';cases h'
 zgrow:=fun a o e=>by
  rcases y.zgrow a o e with h |h |h
  ·exact x.zgrow a o h
  ·exact .inr (x.grow a h)
  ·by_cases q:o1.at_ a
   ·exact .inr (.inl q)
   ·refine .inr (.inr ?_)
    cases e':s₁.heap.get? a with
    |none=>rfl
    |some o=>rw[x.kept a o e' q] at h;cases h
 os:=y.os.trans x.os
 gkept:=fun a o e h=>y.gkept a o (x.gkept a o e h) fun h'=>(x.ggrow a h').elim h fun n=>by rw[e] at n;cases n
 ggrow:=fun a h=>by
  rcases y.ggrow a h with h' |h'
  ·exact x.ggrow a h'
  ·by_cases q:o1.gn a
   ·exact .inl q
   ·right
    cases e:s₁.gens[a]? with
    |none=>rfl
    |some o=>rw[x.gkept a o e q] at h';cases h'
noncomputable def aD(s9:Env)(st:St):R0:=⟨fun a=>a=s9.locals∨a∈keys st.led,(· ∈ gkeys st.led)⟩
noncomputable def aj(led:aa):R0:=⟨(· ∈ keys led),(· ∈ gkeys led)⟩
section
variable{vv:YA}{w:YH}{A:Yz}{B:u6}{s9:Env}
def HQ(B:u6)(s9:Env){α β:Type}(rel:u6->α->β->Prop)(st:St)(K:α->St->Prop)(s:Yo)(Z:u6)(Q:β->Yo->Prop):Prop :=
 ∀v x s' Z' t5,K v t5->w5 B s9 s' Z' t5->rel Z' v x->y8 (aD s9 st) s Z s' Z' (aD s9 t5)->Q x s'
def T(vv:YA)(w:YH)(A:Yz)(B:u6)(s9:Env){α β:Type}(rel:u6->α->β->Prop)(t:Sem β)(st:St)(K:α->St->Prop):Prop :=
 ∀(s:Yo) (Z:u6),w5 B s9 s Z st->∀(Q:β->Yo->Prop) (E:Value->Yo->Prop),
  HQ B s9 rel st K s Z Q->YJ (YG vv w) A t Q E s
set_option genCtorIdx false in set_option genSizeOf false in set_option genInjectivity false in
inductive u7 where
 |next |brk |cont
 |ret (v:AV)
noncomputable def u7.ctorIdx(x:u7):Nat:=by cases x;exact 0;exact 1;exact 2;exact 3
inductive y0 (Z:u6):u7->Flow->Prop
 |next:y0 Z .next .next
 |brk:y0 Z .brk .brk
 |cont:y0 Z .cont .cont
 |ret {v:AV} {x:Value}:Val Z v x->y0 Z (.ret v) (.ret x)
def aM(_:u6)(b c:Bool):Prop:=c=b
def aV(_:u6)(_ _:Unit):Prop:=True
def F1(vv:YA)(w:YH)(A:Yz)(B:u6)(s9:Env){α β:Type}(rel:u6->α->β->Prop)(f:Value->Sem β)(v:AV)(st:St)(K:α->St->Prop):Prop :=
 ∀(s:Yo) (Z:u6) (x:Value),Val Z v x->w5 B s9 s Z st->∀(Q:β->Yo->Prop) (E:Value->Yo->Prop),
  HQ B s9 rel st K s Z Q->YJ (YG vv w) A (f x) Q E s
def F2(vv:YA)(w:YH)(A:Yz)(B:u6)(s9:Env){α β:Type}(rel:u6->α->β->Prop)(f:Value->Value->Sem β)(v1 v2:AV)(st:St)(K:α->St->Prop):Prop :=
 ∀(s:Yo) (Z:u6) (x1 x2:Value),Val Z v1 x1->Val Z v2 x2->w5 B s9 s Z st->∀(Q:β->Yo->Prop) (E:Value->Yo->Prop),
  HQ B s9 rel st K s Z Q->YJ (YG vv w) A (f x1 x2) Q E s
theorem fW{α:Type}{M:Model}{A:Yz}{E:Value->Yo->Prop}{s:Yo}{c:Prop}[Decidable c]{a b:Sem α}{Q:α->Yo->Prop}(h : ¬ c)(k:YJ M A b Q E s):YJ M A (if c then a else b) Q E s:=by rw[if_neg h];exact k
theorem Hz{α:Type}{M:Model}{A:Yz}{E:Value->Yo->Prop}{s:Yo}{c:Prop}[Decidable c]{a b:Sem α}{Q:α->Yo->Prop}(h:c)(k:YJ M A a Q E s):YJ M A (if c then a else b) Q E s:=by rw[if_pos h];exact k
theorem F1.of{α β:Type}{rel:u6->α->β->Prop}{f:Value->Sem β}{v:AV}{st:St}{K:α->St->Prop}
  (h:∀s Z,w5 B s9 s Z st->∀Q E,HQ B s9 rel st K s Z Q->∀x,Val Z v x->YJ (YG vv w) A (f x) Q E s):F1 vv w A B s9 rel f v st K :=
 fun s Z x V S Q E hQ=>h s Z S Q E hQ x V
theorem F2.of{α β:Type}{rel:u6->α->β->Prop}{f:Value->Value->Sem β}{v u:AV}{st:St}{K:α->St->Prop}
  (h:∀s Z,w5 B s9 s Z st->∀Q E,HQ B s9 rel st K s Z Q->∀x,Val Z v x->∀y,Val Z u y->YJ (YG vv w) A (f x y) Q E s):F2 vv w A B s9 rel f v u st K :=
 fun s Z x y V U S Q E hQ=>h s Z S Q E hQ x V y U
theorem w5.toks{s:Yo}{Z:u6}{st:St}(h:w5 B s9 s Z st)(tk:Nat):w5 B s9 {s with toks:=tk} Z st :=
 ⟨⟨h.base,h.frozen,h.nodup,h.apart,fun p hp=>(h.own p hp).mono (.refl _) (fun O e=>e) fun O O O e=>e,h.gnodup,h.bare⟩,h.locZ,h.locL,h.loc,h.kinds,h.fn⟩
theorem y8.toks{own:R0}{s:Yo}{Z:u6}(tk:Nat):y8 own s Z {s with toks:=tk} Z own:=⟨.refl _,fun O O e O=>e,fun O h => .inl h,fun O O e => .inl e,rfl,fun O O e O=>e,fun O h => .inl h⟩
theorem T.mono{α β:Type}{rel:u6->α->β->Prop}{t:Sem β}{st:St}{K K':α->St->Prop}(h:T vv w A B s9 rel t st K)(k:∀v t5,K v t5->K' v t5):T vv w A B s9 rel t st K' :=
 fun s Z S Q E hQ=>h s Z S Q E fun v x s' Z' t5 hk=>hQ v x s' Z' t5 (k v t5 hk)
theorem Gw{i:Int}{k:Nat}{pos:Pos}{st:St}{K:AV->St->Prop}(h:K (.int i) st):T vv w A B s9 Val (ZI (.Constant (.int i) k pos) s9) st K :=
 fun s Z S Q E hQ=>wpAny_Constant_int (hQ _ _ _ Z st h (S.toks _) (.int _ _) (.toks _))
theorem Vu{x:Str}{k:Nat}{pos:Pos}{st:St}{K:AV->St->Prop}(h:K (.str x) st):T vv w A B s9 Val (ZI (.Constant (.str x) k pos) s9) st K :=
 fun s Z S Q E hQ=>j3 (hQ _ _ _ Z st h (S.toks _) (.str _ _) (.toks _))
theorem Vv{k:Nat}{pos:Pos}{st:St}{K:AV->St->Prop}(h:K .none st):T vv w A B s9 Val (ZI (.Constant .none k pos) s9) st K :=
 fun s Z S Q E hQ=>Yj (hQ _ _ s Z st h S .none .refl)
theorem VD{b:Bool}{k:Nat}{pos:Pos}{st:St}{K:AV->St->Prop}(h:K (.bool b) st):T vv w A B s9 Val (ZI (.Constant (.bool b) k pos) s9) st K :=
 fun s Z S Q E hQ=>Yj (hQ _ _ s Z st h S (.bool b) .refl)
theorem Vz{x:Str}{pos:Pos}{loc:List (Str×AV)}{led:aa}{v:AV}{K:AV->St->Prop}(hx:loc.lookup x=some v)(h:K v ⟨loc,led⟩)
  (hd:(x==("__debug__" : Str))=false) (w':v.isAny=false):T vv w A B s9 Val (ZI (.Name x pos) s9) ⟨loc,led⟩ K:=fun s Z S Q E hQ =>
 ae S.loc fun f hn hr=>ae (y9.val (hx▸hr x) w') fun u T0 hv=>wpAny_Name (wpAny_loadName_local S.fn (S.kinds x v hx) hn T0 (hQ v u s Z ⟨loc,led⟩ h S hv .refl)) hd
theorem VK{l r:Expr}{op:Operator}{pos:Pos}{st:St}{K:AV->St->Prop}
  (h:T vv w A B s9 Val (ZI l s9) st fun v1 y6=>T vv w A B s9 Val (ZI r s9) y6 fun v2 A5=>F2 vv w A B s9 Val (binaryOp op) v1 v2 A5 K) :
  T vv w A B s9 Val (ZI (.BinOp l op r pos) s9) st K:=fun s Z S Q E hQ =>
 wpAny_BinOp (h s Z S _ _ fun v1 x1 s₁ Z1 y6 k₁ S1 V1 X1=>k₁ s₁ Z1 S1 _ _ fun v2 x2 s2 Z2 A5 k2 S2 V2 X2 =>
  k2 s2 Z2 x1 x2 (V1.mono X2.le) V2 S2 _ _ fun v x s' Z' t5 k S' V X=>hQ v x s' Z' t5 k S' V ((X1.trans X2).trans X))
theorem VH{l r:Expr}{op:CmpOp}{pos:Pos}{st:St}{K:AV->St->Prop}
  (h:T vv w A B s9 Val (ZI l s9) st fun v1 y6=>T vv w A B s9 Val (ZI r s9) y6 fun v2 A5=>F2 vv w A B s9 Val (g5 op) v1 v2 A5 K)
  (hm:behindInMarks op r=false) :
  T vv w A B s9 Val (ZI (.Compare l [op] [r] pos) s9) st K:=fun s Z S Q E hQ =>
 wpAny_Compare1 (h s Z S _ _ fun v1 x1 s₁ Z1 y6 k₁ S1 V1 X1=>k₁ s₁ Z1 S1 _ _ fun v2 x2 s2 Z2 A5 k2 S2 V2 X2 =>
  k2 s2 Z2 x1 x2 (V1.mono X2.le) V2 S2 _ _ fun v x s' Z' t5 k S' V X=>hQ v x s' Z' t5 k S' V ((X1.trans X2).trans X)) hm
theorem VW{l r:Expr}{op:CmpOp}{pos:Pos}{whole:Sem Value}{st:St}{K:Bool->St->Prop}
  (h:T vv w A B s9 Val (ZI l s9) st fun v1 y6=>T vv w A B s9 Val (ZI r s9) y6 fun v2 A5=>F2 vv w A B s9 Val (g5 op) v1 v2 A5 fun c D1=>F1 vv w A B s9 aM truthy c D1 K)
  (hm:behindInMarks op r=false) :
  T vv w A B s9 aM (isTrue (.Compare l [op] [r] pos) s9 whole) st K:=fun s Z S Q E hQ =>
 wpAny_isTrue_Compare1 (h s Z S _ _ fun v1 x1 s₁ Z1 y6 k₁ S1 V1 X1=>k₁ s₁ Z1 S1 _ _ fun v2 x2 s2 Z2 A5 k2 S2 V2 X2 =>
  k2 s2 Z2 x1 x2 (V1.mono X2.le) V2 S2 _ _ fun v3 x3 w7 Z3 D1 k3 S3 V3 X3=>k3 w7 Z3 x3 V3 S3 _ _ fun v x s' Z' t5 k S' V X=>hQ v x s' Z' t5 k S' V (((X1.trans X2).trans X3).trans X)) hm
theorem pn{e:Expr}{st:St}{K:Bool->St->Prop}(h:T vv w A B s9 Val (ZI e s9) st fun v y6=>F1 vv w A B s9 aM truthy v y6 K)
  (he:isTrue e s9 (ZI e s9)=(do let v ← ZI e s9;standAt e.pos;m6 [v] (truthy v)):=by rfl):T vv w A B s9 aM (isTrue e s9 (ZI e s9)) st K:=fun s Z S Q E hQ =>
 wpAny_isTrue_value (h s Z S _ _ fun v1 x1 s₁ Z1 y6 k₁ S1 V1 X1=>k₁ s₁ Z1 x1 V1 S1 _ _ fun v x s' Z' t5 k S' V X=>hQ v x s' Z' t5 k S' V (X1.trans X)) he
theorem VV{x:Expr}{pos:Pos}{whole:Sem Value}{st:St}{K:Bool->St->Prop}(h:T vv w A B s9 aM (isTrue x s9 (ZI x s9)) st fun b t5=>K (!b) t5) :
  T vv w A B s9 aM (isTrue (.UnaryOp .Not x pos) s9 whole) st K:=fun s Z S Q E hQ =>
 wpAny_isTrue_Not (h s Z S _ _ fun b c s' Z' t5 k S' V X=>hQ (!b) (!c) s' Z' t5 k S' (by unfold aM at V ⊢;rw[V]) X)
theorem VY{st:St}{K:Bool->St->Prop}(h:K true st):T vv w A B s9 aM (allTrue .And [] s9) st K:=fun s Z S Q E hQ=>wpAny_allTrue_And_nil (hQ true true s Z st h S rfl .refl)
theorem VT{st:St}{K:Bool->St->Prop}(h:K false st):T vv w A B s9 aM (allTrue .Or [] s9) st K:=fun s Z S Q E hQ=>wpAny_allTrue_Or_nil (hQ false false s Z st h S rfl .refl)
theorem VZ{x:Expr}{rest:List Expr}{st:St}{K:Bool->St->Prop}
  (h:T vv w A B s9 aM (isTrue x s9 (ZI x s9)) st fun b t5=>if b then T vv w A B s9 aM (allTrue .And rest s9) t5 K else K false t5):T vv w A B s9 aM (allTrue .And (x::rest) s9) st K:=fun s Z S Q E hQ =>
 wpAny_allTrue_And_cons (h s Z S _ _ fun b c s' Z' t5 k S' V X=>by
  unfold aM at V
  subst V
  cases c with
  |true=>exact k s' Z' S' Q E fun b' c' G5 E8 A3 k' D7 V' X'=>hQ b' c' G5 E8 A3 k' D7 V' (X.trans X')
  |false=>exact hQ false false s' Z' t5 k S' rfl X)
theorem VX{op:BoolOp}{Y7:List Expr}{pos:Pos}{whole:Sem Value}{st:St}{K:Bool->St->Prop}(h:T vv w A B s9 aM (allTrue op Y7 s9) st K) :
  T vv w A B s9 aM (isTrue (.BoolOp op Y7 pos) s9 whole) st K:=fun s Z S Q E hQ=>wpAny_isTrue_BoolOp (h s Z S Q E hQ)
theorem VG{B1 body B3:Expr}{pos:Pos}{st:St}{K:AV->St->Prop}
  (h:T vv w A B s9 aM (isTrue B1 s9 (ZI B1 s9)) st fun b t5=>if b then T vv w A B s9 Val (ZI body s9) t5 K else T vv w A B s9 Val (ZI B3 s9) t5 K) :
  T vv w A B s9 Val (ZI (.IfExp B1 body B3 pos) s9) st K:=fun s Z S Q E hQ =>
 wpAny_IfExp (h s Z S _ _ fun b c s' Z' t5 k S' V X=>by
  unfold aM at V
  subst V
  cases c <;> exact k s' Z' S' Q E fun v x G5 E8 A3 k' D7 V' X'=>hQ v x G5 E8 A3 k' D7 V' (X.trans X'))
theorem XG{a b:Int}{st:St}{K:AV->St->Prop}(h:K (.int (a+b)) st):F2 vv w A B s9 Val (binaryOp .Add) (.int a) (.int b) st K:=F2.of fun s Z S Q E hQ=>Val.eInt fun O=>Val.eInt fun O=>PyProof.Rows.add_int (hQ _ _ _ Z st h (S.toks _) (.int _ _) (.toks _))
theorem Xk{a b:Int}{st:St}{K:AV->St->Prop}(h:K (.int (a-b)) st):F2 vv w A B s9 Val (binaryOp .Sub) (.int a) (.int b) st K:=F2.of fun s Z S Q E hQ=>Val.eInt fun O=>Val.eInt fun O=>PyProof.Rows.sub_int (hQ _ _ _ Z st h (S.toks _) (.int _ _) (.toks _))
theorem il{a b:Int}{st:St}{K:AV->St->Prop}(hb:b≠0)(h:K (.int (a.fmod b)) st):F2 vv w A B s9 Val (binaryOp .Mod) (.int a) (.int b) st K:=F2.of fun s Z S Q E hQ=>Val.eInt fun O=>Val.eInt fun O=>PyProof.Rows.mod_int hb (hQ _ _ _ Z st h (S.toks _) (.int _ _) (.toks _))
theorem XE{a b:Int}{st:St}{K:AV->St->Prop}(h:K (.bool (a==b)) st):F2 vv w A B s9 Val (g5 .Eq) (.int a) (.int b) st K:=F2.of fun s Z S Q E hQ=>Val.eInt fun O=>Val.eInt fun O=>PyProof.Rows.eq_int (hQ _ _ _ Z st h S (.bool _) .refl)
theorem Xq{a b:Int}{st:St}{K:AV->St->Prop}(h:K (.bool (a != b)) st):F2 vv w A B s9 Val (g5 .NotEq) (.int a) (.int b) st K:=F2.of fun s Z S Q E hQ=>Val.eInt fun O=>Val.eInt fun O=>PyProof.Rows.ne_int (hQ _ _ _ Z st h S (.bool _) .refl)
theorem Xs{a b:Int}{st:St}{K:AV->St->Prop}(h:K (.bool (decide (a<b))) st):F2 vv w A B s9 Val (g5 .Lt) (.int a) (.int b) st K:=F2.of fun s Z S Q E hQ=>Val.eInt fun O=>Val.eInt fun O=>PyProof.Rows.lt_int (hQ _ _ _ Z st h S (.bool _) .refl)
theorem Xz{a b:Int}{st:St}{K:AV->St->Prop}(h:K (.bool (decide (b<a))) st):F2 vv w A B s9 Val (g5 .Gt) (.int a) (.int b) st K:=F2.of fun s Z S Q E hQ=>Val.eInt fun O=>Val.eInt fun O=>PyProof.Rows.gt_int (hQ _ _ _ Z st h S (.bool _) .refl)
theorem Xu{a b:Int}{st:St}{K:AV->St->Prop}(h:K (.bool (decide (a<=b))) st):F2 vv w A B s9 Val (g5 .LtE) (.int a) (.int b) st K:=F2.of fun s Z S Q E hQ=>Val.eInt fun O=>Val.eInt fun O=>PyProof.Rows.le_int (hQ _ _ _ Z st h S (.bool _) .refl)
theorem XA{a b:Int}{st:St}{K:AV->St->Prop}(h:K (.bool (decide (b<=a))) st):F2 vv w A B s9 Val (g5 .GtE) (.int a) (.int b) st K:=F2.of fun s Z S Q E hQ=>Val.eInt fun O=>Val.eInt fun O=>PyProof.Rows.ge_int (hQ _ _ _ Z st h S (.bool _) .refl)
theorem XD{a b:Str}{st:St}{K:AV->St->Prop}(h:K (.bool (a==b)) st):F2 vv w A B s9 Val (g5 .Eq) (.str a) (.str b) st K:=F2.of fun s Z S Q E hQ=>Val.eStr fun O=>Val.eStr fun O=>PyProof.Rows.eq_str (hQ _ _ _ Z st h S (.bool _) .refl)
theorem Xo{a b:Str}{st:St}{K:AV->St->Prop}(h:K (.bool (a != b)) st):F2 vv w A B s9 Val (g5 .NotEq) (.str a) (.str b) st K:=F2.of fun s Z S Q E hQ=>Val.eStr fun O=>Val.eStr fun O=>PyProof.Rows.ne_str (hQ _ _ _ Z st h S (.bool _) .refl)
theorem XF{a b:Str}{st:St}{K:AV->St->Prop}(hsz:a.length+b.length<=Zc)(h:K (.str (a++b)) st):F2 vv w A B s9 Val (binaryOp .Add) (.str a) (.str b) st K:=F2.of fun s Z S Q E hQ=>Val.eStr fun O=>Val.eStr fun O=>PyProof.Rows.add_str (fun t' tk=>hQ _ _ _ Z st h (S.toks _) (.str _ _) (.toks _)) hsz
theorem tU{b:Bool}{st:St}{K:Bool->St->Prop}(h:K b st):F1 vv w A B s9 aM truthy (.bool b) st K:=F1.of fun s Z S Q E hQ=>Val.eBool <| wpAny_truthy_bool (hQ _ _ s Z st h S rfl .refl)
theorem XI{i:Int}{st:St}{K:Bool->St->Prop}(h:K (i != 0) st):F1 vv w A B s9 aM truthy (.int i) st K:=fun s Z x V S Q E hQ=>by
 cases V;exact PySem.P.truthy_int (hQ _ _ s Z st h S rfl .refl)
theorem bP{st:St}{K:u7->St->Prop}(h:K .next st):T vv w A B s9 y0 (execs [] s9) st K:=fun s Z S Q E hQ=>wpAny_execs_nil (hQ _ _ s Z st h S .next .refl)
def JW(vv:YA)(w:YH)(A:Yz)(B:u6)(s9:Env)(rest:List Stmt)(K:u7->St->Prop)(f:u7)(t5:St):Prop :=
 match f with
 |.next=>T vv w A B s9 y0 (execs rest s9) t5 K
 |f=>K f t5
theorem ah{x:Stmt}{rest:List Stmt}{st:St}{K:u7->St->Prop}
  (h:T vv w A B s9 y0 (exec x s9) st (JW vv w A B s9 rest K)):T vv w A B s9 y0 (execs (x::rest) s9) st K:=fun s Z S Q E hQ =>
 wpAny_execs_cons (h s Z S _ _ fun f x s' Z' t5 k S' V X=>by
  induction V with
  |next=>exact k s' Z' S' Q E fun v y G5 E8 A3 k' D7 V' X'=>hQ v y G5 E8 A3 k' D7 V' (X.trans X')
  |brk=>exact hQ _ _ s' Z' t5 k S' .brk X
  |cont=>exact hQ _ _ s' Z' t5 k S' .cont X
  |ret hv=>exact hQ _ _ s' Z' t5 k S' (.ret hv) X)
theorem jX{B1:Expr}{body B3:List Stmt}{pos:Pos}{st:St}{K:u7->St->Prop}
  (h:T vv w A B s9 aM (isTrue B1 s9 (ZI B1 s9)) st fun b t5=>if b then T vv w A B s9 y0 (execs body s9) t5 K else T vv w A B s9 y0 (execs B3 s9) t5 K) :
  T vv w A B s9 y0 (exec (.If B1 body B3 pos) s9) st K:=fun s Z S Q E hQ =>
 wpAny_If (h s Z S _ _ fun b c s' Z' t5 k S' V X=>by
  unfold aM at V
  subst V
  cases c <;> exact k s' Z' S' Q E fun v y G5 E8 A3 k' D7 V' X'=>hQ v y G5 E8 A3 k' D7 V' (X.trans X'))
theorem Vg{e:Expr}{pos:Pos}{st:St}{K:u7->St->Prop}(h:T vv w A B s9 Val (ZI e s9) st fun v t5=>K (.ret v) t5):T vv w A B s9 y0 (exec (.Return (some e) pos) s9) st K:=fun s Z S Q E hQ =>
 wpAny_Return_some (h s Z S _ _ fun v x s' Z' t5 k S' V X=>hQ _ _ s' Z' t5 k S' (.ret V) X)
theorem Vf{pos:Pos}{st:St}{K:u7->St->Prop}(h:K (.ret .none) st):T vv w A B s9 y0 (exec (.Return none pos) s9) st K:=fun s Z S Q E hQ =>
 wpAny_Return_none (hQ _ _ s Z st h S (.ret .none) .refl)
theorem Vh{pos:Pos}{st:St}{K:u7->St->Prop}(h:K .next st):T vv w A B s9 y0 (exec (.Pass pos) s9) st K:=fun s Z S Q E hQ =>
 wpAny_Pass (hQ _ _ s Z st h S .next .refl)
noncomputable def df:List (Str×AV)->Str->AV->List (Str×AV)
 | [],x,v=>[(x,v)]
 |(y,u)::r,x,v=>if x==y then (y,v)::r else (y,u)::df r x v
theorem uQ{y x:Str}{u v:AV}{r:List (Str×AV)}:df ((y,u)::r) x v=if x==y then (y,v)::r else (y,u)::df r x v:=rfl
theorem sU(x:Str)(v:AV):∀(l:List (Str×AV)) (y:Str),(df l x v).lookup y=if y=x then some v else l.lookup y:=by
 intro t_
 induction t_ with
 |nil =>
  intro y
  show List.lookup y [(x,v)]=_
  rw[YE]
  by_cases e:y=x
  ·subst e;simp
  ·have:(y==x)=false:=beq_eq_false_iff_ne.mpr e
   simp[this,e]
 |cons e_ r ih =>
  obtain⟨z,u⟩:=e_
  intro y
  rw[uQ]
  by_cases q:x=z
  ·subst q
   simp only[beq_self_eq_true,if_true]
   rw[YE,YE]
   by_cases e:y=x
   ·subst e;simp
   ·have:(y==x)=false:=beq_eq_false_iff_ne.mpr e
    simp[this,e]
  ·have hq:(x==z)=false:=beq_eq_false_iff_ne.mpr q
   simp only[hq,Za,if_false]
   rw[YE,YE,ih y]
   by_cases e:y=z
   ·subst e
    have:y≠x:=fun h=>q h.symm
    simp[this]
   ·have:(y==z)=false:=beq_eq_false_iff_ne.mpr e
    simp[this]
theorem Hi{x:Str}{v:AV}{loc:List (Str×AV)}{led:aa}{K:Unit->St->Prop}(hk:s9.kindOf x=some .local){l:List (Str×AV)}(hl:df loc x v=l)(h:K () ⟨l,led⟩) :
  F1 vv w A B s9 aV (m5 s9 x) v ⟨loc,led⟩ K:=fun s Z u V S Q E hQ=>by
 subst hl
 generalize E2:(⟨loc,led⟩:St)=st at *
 have h:K () ⟨df st.loc x v,st.led⟩:=by subst E2;exact h
 refine ae S.loc fun f hn hr=>?_
 refine wpAny_storeName_local hk hn (fun h' U8 Q7=>?_) (by rw[S.fn];rfl)
 have keep:∀b o,b≠s9.locals->s.heap.get? b=some o->h'.get? b=some o:=fun b o hb e=>(Q7.2 b hb).trans e
 refine hQ () () _ Z ⟨df st.loc x v,st.led⟩ h ⟨⟨S.base,fun a o e=>keep a o (fun q=>?_) (S.frozen a o e),S.nodup,S.apart,fun p hp=>(S.own p hp).mono (.refl _) (fun o e=>keep _ o (fun q=>?_) e) (fun O O O e=>e),S.gnodup,S.bare⟩,S.locZ,S.locL,
  ⟨_,U8,fun y=>?_⟩,fun y u' e=>?_,S.fn⟩ trivial ⟨.refl _,fun a o e ha=>keep a o (fun q=>ha (.inl q)) e,fun a ha => .inl ha,fun O O e => .inl e,rfl,fun O O e O=>e,fun O h => .inl h⟩
 ·rw[q,S.locZ] at e;cases e
 ·exact S.locL (q▸YF hp)
 ·rw[sU]
  by_cases e:y=x
  ·simp only[e,if_true];exact .some V
  ·simp only[e,if_false];exact hr y
 ·rw[sU] at e
  by_cases q:y=x
  ·exact(Eq.symm (q))▸hk
  ·simp only[q,if_false] at e;exact S.kinds y u' e
theorem me{x:Str}{O0 pos:Pos}{value:Expr}{st:St}{K:u7->St->Prop}
  (h:T vv w A B s9 Val (ZI value s9) st fun v y6=>F1 vv w A B s9 aV (m5 s9 x) v y6 fun O A5=>K .next A5)
  (hs:swapsWith value (some (.Name x O0)) pos.line s9=b9 false) :
  T vv w A B s9 y0 (exec (.Assign [.Name x O0] value pos) s9) st K:=fun s Z S Q E hQ =>
 wpAny_Assign_Name (h s Z S _ _ fun v x1 s₁ Z1 y6 k₁ S1 V1 X1=>k₁ s₁ Z1 x1 V1 S1 _ _ fun O O s' Z' t5 k S' O X=>hQ _ _ s' Z' t5 k S' .next (X1.trans X)) hs
theorem Vm{x:Str}{O0 pos:Pos}{op:Operator}{value:Expr}{loc:List (Str×AV)}{led:aa}{v₀:AV}{K:u7->St->Prop}(hx:loc.lookup x=some v₀)(w':v₀.isAny=false)
  (h:T vv w A B s9 Val (ZI value s9) ⟨loc,led⟩ fun v y6=>F2 vv w A B s9 Val (inplaceOp op) v₀ v y6 fun r A5=>F1 vv w A B s9 aV (m5 s9 x) r A5 fun O D1=>K .next D1) :
  T vv w A B s9 y0 (exec (.AugAssign (.Name x O0) op value pos) s9) ⟨loc,led⟩ K:=fun s Z S Q E hQ =>
 ae S.loc fun f hn hr=>ae (y9.val (hx▸hr x) w') fun u T0 hv =>
 wpAny_AugAssign_Name (wpAny_loadName_local S.fn (S.kinds x v₀ hx) hn T0 (h s Z S _ _ fun O x1 s₁ Z1 O k₁ S1 V1 X1=>k₁ s₁ Z1 u x1 (hv.mono X1.le) V1 S1 _ _
  fun O x2 s2 Z2 O k2 S2 V2 X2=>k2 s2 Z2 x2 V2 S2 _ _ fun O O s' Z' t5 k S' O X=>hQ _ _ s' Z' t5 k S' .next ((X1.trans X2).trans X)))
theorem He{a b:Int}{st:St}{K:AV->St->Prop}(h:K (.int (a+b)) st):F2 vv w A B s9 Val (inplaceOp .Add) (.int a) (.int b) st K:=F2.of fun s Z S Q E hQ=>Val.eInt fun O=>Val.eInt fun O=>PyProof.Rows.iadd_int (hQ _ _ _ Z st h (S.toks _) (.int _ _) (.toks _))
theorem Xw{a b:Int}{st:St}{K:AV->St->Prop}(h:K (.int (a-b)) st):F2 vv w A B s9 Val (inplaceOp .Sub) (.int a) (.int b) st K:=F2.of fun s Z S Q E hQ=>Val.eInt fun O=>Val.eInt fun O=>PyProof.Rows.isub_int (hQ _ _ _ Z st h (S.toks _) (.int _ _) (.toks _))
theorem DW(x y:Str)(loc:List (Str×AV)):(loc++[(x,AV.any)]).lookup y=loc.lookup y∨(y=x/\(loc++[(x,AV.any)]).lookup y=some .any):=by
 induction loc with
 |nil =>
  by_cases e:y=x
  ·subst e
   right
   refine⟨rfl,?_⟩
   show List.lookup y [(y,AV.any)]=_
   rw[YE,beq_self_eq_true]
  ·left
   have:(y==x)=false:=beq_eq_false_iff_ne.mpr e
   show List.lookup y [(x,AV.any)]=_
   rw[YE,this]
 |cons p l ih =>
  rw[Yv,YE,YE]
  cases y==p.1 with
  |true=>exact .inl rfl
  |false=>exact ih
theorem w5.spare{s:Yo}{Z:u6}{loc:List (Str×AV)}{led:aa}(x:Str)(hk:s9.kindOf x=some .local)(S:w5 B s9 s Z ⟨loc,led⟩):w5 B s9 s Z ⟨loc++[(x,.any)],led⟩:=by
 refine⟨S.tot8,S.locZ,S.locL,?_,fun y v e=>?_,S.fn⟩
 ·refine ae S.loc fun f hn hr=>?_
  refine bQ f hn (fun y=>?_)
  rcases DW x y loc with h |⟨_,h⟩
  ·show y9 Z ((loc++[(x,AV.any)]).lookup y) (f y)
   exact(Eq.symm (h))▸hr y
  ·show y9 Z ((loc++[(x,AV.any)]).lookup y) (f y)
   exact(Eq.symm (h))▸.any
 ·rcases DW x y loc with h |⟨h,_⟩
  ·exact S.kinds y v (by exact(h)▸e)
  ·exact(Eq.symm (h))▸hk
theorem T.spare{α β:Type}{rel:u6->α->β->Prop}{t:Sem β}{loc:List (Str×AV)}{led:aa}{K:α->St->Prop}(x:Str)(hk:s9.kindOf x=some .local)(h:T vv w A B s9 rel t ⟨loc++[(x,.any)],led⟩ K):T vv w A B s9 rel t ⟨loc,led⟩ K :=
 fun s Z S Q E hQ=>h s Z (S.spare x hk) Q E hQ
theorem T.spares{α β:Type}{rel:u6->α->β->Prop}{t:Sem β}{led:aa}{K:α->St->Prop}(xs:List Str){loc:List (Str×AV)}(hk:(xs.all fun x=>decide (s9.kindOf x=some .local))=true)(h:T vv w A B s9 rel t ⟨loc++xs.map fun x=>(x,.any),led⟩ K):T vv w A B s9 rel t ⟨loc,led⟩ K:=by
 induction xs generalizing loc with
 |nil=>rw[k5,Zv] at h;exact h
 |cons x xs ih =>
  rw[List.all_cons,Zy] at hk
  exact T.spare x (of_decide_eq_true hk.1) (ih hk.2 (by rw[YN];exact h))
end
variable {st:St}{w:YH}{A:Yz}{Z B:u6}{vv:YA}{i n k j blo alo t7:Nat}{s:Yo}{s9:Env}{v u:AV}{pos:Pos}{xs args ys:List AV}{x y name:Str}{α β:Type}{loc kw binds l G w6:List (Str×AV)}{K R:AV->St->Prop}{a d it C:YV}{t0 iter value elt:Expr}{E Q:Value->Yo->Prop}{o:Op}{body:List Stmt}{e:Nat->Nat->Bool}{P:Prop}{os:List Op}{vs:List Value}{J:List (Str×AV)->Prop}{F0 elts:List Expr}
inductive w8 (Z:u6):List (Str×AV)->List (Str×Value)->Prop
 |nil:w8 Z [] []
 |cons {k:Str} {v:AV} {x:Value} {l:List (Str×AV)} {r:List (Str×Value)}:Val Z v x->w8 Z l r->w8 Z ((k,v)::l) ((k,x)::r)
theorem w8.un0{P:List (Str×Value)->Prop}(k:P [])(xs:List (Str×Value))(h:w8 Z [] xs):P xs:=by cases h;exact k
theorem w8.mono{Z':u6}(k:u6.le Z Z'){r:List (Str×Value)}(h:w8 Z l r):w8 Z' l r:=by
 induction h with
 |nil=>exact .nil
 |cons v _ ih=>exact .cons (v.mono k) ih
theorem w8.lookup{r:List (Str×Value)}(h:w8 Z l r)(y:Str):y9 Z (l.lookup y) (r.lookup y):=by
 induction h with
 |nil=>exact .none
 | @cons k v x l r hv _ ih =>
  rw[YE,YE];cases e:(y==k) with
  |true=>exact .some hv
  |false=>exact ih
theorem w8.keys{r:List (Str×Value)}(h:w8 Z l r):r.map (·.1)=l.map (·.1):=by
 induction h with
 |nil=>rfl
 |cons _ _ ih=>simp only[Yu,ih]
theorem w8.append{l':List (Str×AV)}{r r':List (Str×Value)}(h:w8 Z l r)(h':w8 Z l' r'):w8 Z (l++l') (r++r'):=by
 induction h with
 |nil=>exact h'
 |cons v _ ih=>exact .cons v ih
theorem w8.reverse{r:List (Str×Value)}(h:w8 Z l r):w8 Z l.reverse r.reverse:=by
 induction h with
 |nil=>exact .nil
 |cons v _ ih=>rw[YO,YO];exact ih.append (.cons v .nil)
theorem w8.zip(ks:List Str){vs:List AV}{xs:List Value}(h:Vals Z vs xs):w8 Z (ks.zip vs) (ks.zip xs) :=
 h.ind (P:=fun vs xs=>∀ks:List Str,w8 Z (ks.zip vs) (ks.zip xs)) (fun ks=>by rw[List.zip_nil_right,List.zip_nil_right];exact .nil) (fun h O t ks=>by
  cases ks with
  |nil=>exact .nil
  |cons k ks=>exact .cons h (t ks)) ks
def HR(B:u6)(led:aa)(K:AV->aa->Prop)(s:Yo)(Z:u6)(R:Result->Yo->Prop):Prop :=
 ∀v x s' Z' led',K v led'->t8 B s' Z' led'->Val Z' v x->y8 (aj led) s Z s' Z' (aj led')->R (.ok (.ret x)) s'
def TC(vv:YA)(w:YH)(A:Yz)(B:u6)(f:AV)(args:List AV)(kw:List (Str×AV))(led:aa)(K:AV->aa->Prop):Prop :=
 ∀(s:Yo) (Z:u6) (fx:Value) (xs:List Value) (ks:List (Str×Value)),t8 B s Z led->Val Z f fx->Vals Z args xs->w8 Z kw ks->∀(R:Result->Yo->Prop),
  HR B led K s Z R->codeAny (YG vv w) A (.call fx ⟨xs,ks⟩) R s
def kH(R:AV->aa->Prop)(fl:u7)(t5:St):Prop :=
 match fl with
 |.ret v=>R v t5.led
 |_=>R .none t5.led
theorem w5.after{s':Yo}{Z':u6}{led':aa}(S:w5 B s9 s Z st)(L:t8 B s' Z' led')(X:y8 (aj st.led) s Z s' Z' (aj led')):w5 B s9 s' Z' ⟨st.loc,led'⟩:=by
 refine ae S.loc fun f hn hr=>?_;refine kj (id hn) fun ob es ep g O=>?_;refine⟨L,?_,fun h=>?_,I7.mono X.le (fun o e=>X.kept _ o e S.locL) S.loc,S.kinds,S.fn⟩
 ·cases e:Z' s9.locals with
  |none=>rfl
  |some o =>
   rcases X.zgrow _ o e with q |q |q
   ·rw[S.locZ] at q;cases q
   ·exact absurd q S.locL
   ·rw[g] at q;cases q
 ·rcases X.grow _ h with q |q
  ·exact S.locL q
  ·rw[g] at q;cases q
theorem y8.toF{s':Yo}{Z':u6}{led':aa}(X:y8 (aj st.led) s Z s' Z' (aj led')):y8 (aD s9 st) s Z s' Z' (aD s9 ⟨st.loc,led'⟩) where
 le:=X.le
 kept:=fun a o e h=>X.kept a o e fun q=>h (.inr q)
 grow:=fun a h=>by
  rcases h with h |h
  ·exact .inl (.inl h)
  ·exact(X.grow a h).imp .inr id
 zgrow:=fun a o e=>(X.zgrow a o e).imp id (Or.imp .inr id)
 os:=X.os
 gkept:=X.gkept
 ggrow:=X.ggrow
structure A7 (B:u6):Prop where
 lim:∀s:Yo,(∀a o,B a=some o->s.heap.get? a=some o)->s.heap.NoLimit
noncomputable def dS(scope:Scope)(L g:YV)(cells:List (Str×YV))(qual:Str)(f:YV)(cd:Value)(bi:YV):Env :=
 { scope,locals:=L,globals:=g,cells,qual:=qual ++ ".<locals>.",func:=some f,code:=cd,frame:=some L,builtins:=bi}
def Binds(vv:YA)(w:YH)(A:Yz)(B:u6)(fd:m3)(args:List AV)(kw binds:List (Str×AV)):Prop :=
 ∀(s:Yo) (Z:u6) (led:aa) (xs:List Value) (ks:List (Str×Value)),t8 B s Z led->Vals Z args xs->w8 Z kw ks ->
  ∀(Q:List (Str×Value)->Yo->Prop) (E:Value->Yo->Prop),(∀bs s' Z',t8 B s' Z' led->w8 Z' binds bs->y8 (aj led) s Z s' Z' (aj led)->Q bs s')->YJ (YG vv w) A (bindArgs fd ⟨xs,ks⟩) Q E s
theorem gz(s:Yo):s.heap.get? s.heap.objs.size=none:=by
 cases e:s.heap.get? s.heap.objs.size with
 |none=>rfl
 |some o=>exact absurd (Zj e) (d7 _)
section
variable{s s₁:Yo}{led:aa}
theorem t8.zfree(S:t8 B s Z led)(h:s.heap.get? a=none):Z a=none:=by
 cases e:Z a with
 |none=>rfl
 |some o=>exact nomatch h.symm.trans (S.frozen a o e)
theorem t8.lfree(S:t8 B s Z led)(h:s.heap.get? a=none):a∉keys led:=fun q =>
 ae (YM.mp q) fun p hp e=>aq (S.own p hp).live fun ob g=>nomatch (show none=some ob from(e.symm▸h:s.heap.get? p.1=none).symm.trans g)
theorem t8.zfresh(S:t8 B s Z led):Z s.heap.objs.size=none:=S.zfree (gz s)
theorem t8.lfresh(S:t8 B s Z led):s.heap.objs.size∉keys led:=S.lfree (gz s)
theorem t8.keep(S:t8 B s Z led)(k:∀b o,s.heap.get? b=some o->s₁.heap.get? b=some o)(g:∀(n:Nat) (gs:l3),s.gens[n]?=some gs->s₁.gens[n]?=some gs)(b:∀x∈s₁.gens,x.bare=true):t8 B s₁ Z led :=
 ⟨S.base,fun a o e=>k a o (S.frozen a o e),S.nodup,S.apart,fun p hp=>(S.own p hp).mono (.refl _) (fun o e=>k _ o e) fun n gs O e=>g n gs e,S.gnodup,b⟩
theorem t8.cons{o:y1}(S:t8 B s Z led)(ha:a∉keys led)(hz:Z a=none)(hh:Holds Z s a o)(hg:(gkeys ((a,o)::led)).Nodup):t8 B s Z ((a,o)::led) :=
 ⟨S.base,S.frozen,YC.mpr ⟨ha,S.nodup⟩,fun p hp=>(Yp.mp hp).elim (fun e=>e▸hz) (S.apart p),fun p hp=>(Yp.mp hp).elim (fun e=>e▸hh) (S.own p),hg,S.bare⟩
theorem yO(k:∀b o,s.heap.get? b=some o->s₁.heap.get? b=some o)(h:s₁.heap.get? a=none):s.heap.get? a=none:=by
 cases e:s.heap.get? a with
 |none=>rfl
 |some o=>exact nomatch h.symm.trans (k a o e)
theorem Pu(e:l.lookup x=some v):x∈l.map (·.1):=by
 induction l with
 |nil=>exact nomatch e
 |cons p l ih =>
  rw[YE] at e;cases q:(x==p.1) with
  |true=>exact beq_iff_eq.mp q▸Yi ..
  |false=>rw[q] at e;exact Yk _ (ih e)
theorem DX(e:l.reverse.lookup x=some v):x∈l.map (·.1):=List.mem_reverse.mp (List.map_reverse▸Pu e)
theorem w5.enter{bs:List (Str×Value)}(L:t8 B s Z led)(hZ:Z s9.locals=none)(hL:s9.locals∉keys led)(H4:s.heap.Ns s9.locals fun y=>bs.reverse.lookup y)(U9:w8 Z binds bs)
  (E3:∀x∈binds.map (·.1),s9.kindOf x=some .local) (hk:s9.scope.kind=.function):w5 B s9 s Z ⟨binds.reverse,led⟩ :=
 ⟨L,hZ,hL,⟨_,H4,fun y=>U9.reverse.lookup y⟩,fun x O e=>E3 x (DX e),hk⟩
theorem y8.inner{C7:aa}{h1:Heap}{tk:Nat}{s':Yo}{Z':u6}{t5:St}(X:y8 (aD s9 ⟨loc,C7⟩) {s with heap:=h1,toks:=tk} Z s' Z' (aD s9 t5))(k:∀b o,s.heap.get? b=some o->h1.get? b=some o)
  (own:∀a,a=s9.locals∨a∈keys C7->a∈keys led∨s.heap.get? a=none) (g:gkeys C7=gkeys led):y8 (aj led) s Z s' Z' (aj t5.led) where
 le:=X.le
 kept:=fun a o e ha=>X.kept a o (k a o e) fun q=>(own a q).elim ha fun n=>nomatch n.symm.trans e
 grow:=fun a ha=>(X.grow a (.inr ha)).elim (own a) fun n => .inr (yO (s₁:={ s with heap:=h1,toks:=tk}) k n)
 zgrow:=fun a o e=>(X.zgrow a o e).elim .inl fun q => .inr (q.elim (own a) fun n => .inr (yO (s₁:={ s with heap:=h1,toks:=tk}) k n))
 os:=X.os
 gkept:=fun n gs e h=>X.gkept n gs e fun q=>h (show n∈gkeys led from g▸(show n∈gkeys C7 from q))
 ggrow:=fun n h=>(X.ggrow n h).imp_left fun q=>(show n∈gkeys led from g▸(show n∈gkeys C7 from q))
theorem HR.after{s':Yo}{Z':u6}{K:AV->aa->Prop}{R:Result->Yo->Prop}(hR:HR B led K s Z R)(X:y8 (aj led) s Z s' Z' (aj led)):HR B led K s' Z' R:=fun v x O O led' k S' V X'=>hR v x _ _ led' k S' V (X.trans X')
theorem El{C7:aa}{h1:Heap}{tk:Nat}{K:AV->aa->Prop}{R:Result->Yo->Prop}{Q:Flow->Yo->Prop}(hR:HR B led K s Z R)(k:∀b o,s.heap.get? b=some o->h1.get? b=some o)
  (own:∀a,a=s9.locals∨a∈keys C7->a∈keys led∨s.heap.get? a=none) (g:gkeys C7=gkeys led) (hq:∀x s',R (.ok (.ret x)) s'->Q (.ret x) s') (hn:∀s',R (.ok (.ret .none)) s'->Q .next s'/\Q .brk s'/\Q .cont s') :
  HQ B s9 y0 ⟨loc,C7⟩ (kH K) {s with heap:=h1,toks:=tk} Z Q:=fun fl x s' Z' t5 k' S' V X=>by
 have X':=y8.inner X k own g;induction V with
 |next=>exact(hn _ (hR _ _ s' Z' t5.led k' S'.tot8 .none X')).1
 |brk=>exact(hn _ (hR _ _ s' Z' t5.led k' S'.tot8 .none X')).2.1
 |cont=>exact(hn _ (hR _ _ s' Z' t5.led k' S'.tot8 .none X')).2.2
 |ret hv=>exact hq _ _ (hR _ _ s' Z' t5.led k' S'.tot8 hv X')
end
theorem Kn{f:YV}{o:Obj}{fd:m3}{led:aa}{K:AV->aa->Prop}{c:YV}{oc:Obj}{vs:Array Value}{tq:Tok}{xs:List Value}{ks:List (Str×Value)}{R:Result->Yo->Prop}
  (hG:A7 B) (ho:s.heap.get? f=some o) (hd:o.data=.func fd) (J0:fd.scope.isCoroutine=false) (S8:fd.scope.isGenerator=false) (hk:fd.scope.kind=.function) (F8:fd.body=.stmts body)
  (C4:∀x∈fd.scope.names,x.2 ≠ .cell)
  (hc:fd.code=.ref c) (R7:s.heap.get? c=some oc) (J4:oc.data=.fields vs) (hq:vs[1]?=some (.str fd.qualname tq)) (B9:A.depth<b0)
  (hb:Binds vv w A.in1 B fd args kw binds) (E3:∀x∈binds.map (·.1),fd.scope.names.lookup x=some .local)
  (h:∀L,L∉keys led->T vv w (A.deeper (dS fd.scope L fd.globals fd.closure fd.qualname f fd.code fd.builtins)) B (dS fd.scope L fd.globals fd.closure fd.qualname f fd.code fd.builtins) y0
   (execs body (dS fd.scope L fd.globals fd.closure fd.qualname f fd.code fd.builtins)) ⟨binds.reverse,led⟩ (kH K))
  (S:t8 B s Z led) (hx:Vals Z args xs) (P9:w8 Z kw ks) (hR:HR B led K s Z R):codeAny (YG vv w) A (.call (.ref f) ⟨xs,ks⟩) R s:=by
 refine codeAny_call_function B9 ho hd J0 S8 F8 ⟨c,oc,vs,tq,hc,R7,J4,hq⟩ (hb s Z led xs ks S hx P9 _ _ fun bs s₁ Z1 S1 U9 X1=>?_);have hR1:=hR.after X1;refine wpAny_newFunctionEnv (around:=none) C4 (fun x hx=>E3 x.1 (U9.keys▸YF hx)) (fun h1 H4 Q7=>?_) hk;have keep:∀b o,s₁.heap.get? b=some o->h1.get? b=some o:=fun b o e=>Q7.extBut b o (ZE (Zj e)) (Yt _ e);have hf:=gz s₁;exact⟨hG.lim _ fun a o e=>keep a o (S1.frozen a o (S1.base a o e)),show codeAny _ A (.func body (dS fd.scope s₁.heap.objs.size fd.globals fd.closure fd.qualname f fd.code fd.builtins)) R _ from
  codeAny_func (h _ (S1.lfree hf) _ Z1 (w5.enter (S1.keep (s₁:={ s₁ with heap:=h1,toks:=s₁.toks+bs.length}) keep (fun O O e=>e) S1.bare) (S1.zfree hf) (S1.lfree hf) H4 U9 E3 hk) _ _ (El hR1 keep (fun a q=>q.elim (fun e => .inr (e▸hf)) .inl) rfl (fun O O h=>h) fun O h=>⟨h,h,h⟩))⟩
theorem VR{f:YV}{o:Obj}{fd:m3}{led:aa}{K:AV->aa->Prop}{c:YV}{oc:Obj}{vs:Array Value}{tq:Tok}
  (hG:A7 B) (ho:B f=some o) (hd:o.data=.func fd) (J0:fd.scope.isCoroutine=false) (S8:fd.scope.isGenerator=false) (hk:fd.scope.kind=.function) (F8:fd.body=.stmts body)
  (C4:∀x∈fd.scope.names,x.2 ≠ .cell)
  (hc:fd.code=.ref c) (R7:B c=some oc) (J4:oc.data=.fields vs) (hq:vs[1]?=some (.str fd.qualname tq)) (B9:A.depth<b0)
  (hb:Binds vv w A.in1 B fd args kw binds) (E3:∀x∈binds.map (·.1),fd.scope.names.lookup x=some .local)
  (h:∀L,L∉keys led->T vv w (A.deeper (dS fd.scope L fd.globals fd.closure fd.qualname f fd.code fd.builtins)) B (dS fd.scope L fd.globals fd.closure fd.qualname f fd.code fd.builtins) y0
   (execs body (dS fd.scope L fd.globals fd.closure fd.qualname f fd.code fd.builtins)) ⟨binds.reverse,led⟩ (kH K)) :
  TC vv w A B (.ref f) args kw led K:=fun s Z fx xs ks S hf hx P9 R hR=>by
 exact Val.eRef (P:=fun fx=>codeAny (YG vv w) A (.call fx ⟨xs,ks⟩) R s) (Kn hG (S.frozen _ _ (S.base _ _ ho)) hd J0 S8 hk F8 C4 hc (S.frozen _ _ (S.base _ _ R7)) J4 hq B9 hb E3 h S hx P9 hR) fx hf
section
variable{s s':Yo}{Z Z':u6}{gl gl' led:aa}
theorem gT:a∈keys (gl++led)↔a∈keys gl∨a∈keys led:=by unfold keys;rw[YK,Zh]
theorem EV:gkeys (gl++led)=gkeys gl++gkeys led:=i9
theorem t8.live(S:t8 B s Z led)(h:a∈keys led):∃ob,s.heap.get? a=some ob:=ae (YM.mp h) fun p hp e=>e▸(S.own p hp).live
theorem t8.zkey(S:t8 B s Z led)(h:a∈keys led):Z a=none:=ae (YM.mp h) fun p hp e=>e▸S.apart p hp
theorem t8.tail(S:t8 B s Z (gl++led))(h:a∈keys led):a∉keys gl:=fun q =>
 (List.nodup_append.mp (YK▸S.nodup:(keys gl++keys led).Nodup)).2.2 a q a h rfl
theorem t8.step(S:t8 B s Z (gl++led))(le:u6.le Z Z')(keep:∀b o,b∉keys gl->s.heap.get? b=some o->s'.heap.get? b=some o)
  (zn:∀a o,Z' a=some o->Z a=some o∨(s.heap.get? a=none/\s'.heap.get? a=some o)) (own:∀p∈gl',Holds Z' s' p.1 p.2)
  (kn:∀a∈keys gl',a∈keys gl∨(s.heap.get? a=none/\Z' a=none)) (nd:(keys gl').Nodup) (hg:(gkeys gl').Sublist (gkeys gl)) (S9:s'.gens=s.gens) (M3:s'.os=s.os) :
  t8 B s' Z' (gl'++led)/\y8 (aj (gl++led)) s Z s' Z' (aj (gl'++led)):=by
 have zk:∀a,a∈keys (gl++led)->Z' a=none:=fun a h=>by
  cases e:Z' a with
  |none=>rfl
  |some o=>exact(zn a o e).elim (fun q=>nomatch (S.zkey h).symm.trans q) fun q=>aq (S.live h) fun ob g=>nomatch q.1.symm.trans g
 have hgk:(gkeys (gl'++led)).Sublist (gkeys (gl++led)):=by rw[EV,EV];exact hg.append (.refl _)
 have nd2:=List.nodup_append.mp (YK▸S.nodup:(keys gl++keys led).Nodup);refine⟨⟨S.base.trans le,fun a o e=>(zn a o e).elim (fun q=>keep a o (fun y=>nomatch (S.zkey (gT.mpr (.inl y))).symm.trans q) (S.frozen a o q)) And.right,?_,fun p hp=>?_,fun p hp=>?_,hgk.nodup S.gnodup,S9▸S.bare⟩,
  ⟨le,fun a o e ha=>keep a o (fun y=>ha (gT.mpr (.inl y))) e,fun a ha=>(gT.mp ha).elim (fun q=>(kn a q).imp (fun y=>gT.mpr (.inl y)) And.left) fun q => .inl (gT.mpr (.inr q)),
   fun a o e=>(zn a o e).imp id fun q => .inr q.1,M3,fun g gs e O=>S9▸e,fun g h => .inl (show g∈gkeys (gl++led) from hgk.subset (show g∈gkeys (gl'++led) from h))⟩⟩
 ·unfold keys;rw[YK];exact List.nodup_append.mpr ⟨nd,nd2.2.1,fun a ha b hb e=>(kn a ha).elim (fun q=>nd2.2.2 a q b hb e) fun q=>aq (S.live (gT.mpr (.inr (e▸hb)))) fun ob g=>nomatch q.1.symm.trans g⟩
 ·exact(Zh.mp hp).elim (fun q=>(kn _ (YF q)).elim (fun y=>zk _ (gT.mpr (.inl y))) And.right) fun q=>zk _ (gT.mpr (.inr (YF q)))
 ·exact(Zh.mp hp).elim (own p) fun q=>Holds.mono (s:=s) le (fun o e=>keep _ o (S.tail (YF q)) e) (fun O O O e=>S9▸e) (S.own p (YQ _ q))
theorem t8.stepS(S:t8 B s Z (gl++led))(keep:∀b o,b∉keys gl->s.heap.get? b=some o->s'.heap.get? b=some o)(own:∀p∈gl',Holds Z s' p.1 p.2)(hk:keys gl'=keys gl)(hg:gkeys gl'=gkeys gl)(S9:s'.gens=s.gens)(M3:s'.os=s.os) :
  t8 B s' Z (gl'++led)/\y8 (aj (gl++led)) s Z s' Z (aj (gl'++led)) :=
 S.step (.refl _) keep (fun O O e => .inl e) own (fun O h => .inl (hk▸h)) (hk▸(List.nodup_append.mp (YK▸S.nodup:(keys gl++keys led).Nodup)).1) (hg▸.refl _) S9 M3
theorem t8.stepE(S:t8 B s Z (gl++led))(keep:∀b o,b∉keys gl->s.heap.get? b=some o->s'.heap.get? b=some o)(S9:s'.gens=s.gens)(M3:s'.os=s.os) :
  t8 B s' Z led/\y8 (aj (gl++led)) s Z s' Z (aj led) :=
 S.step (gl':=[]) (.refl _) keep (fun O O e => .inl e) (fun O h=>absurd h ZY) (fun O h=>absurd h ZY) List.nodup_nil (List.nil_sublist _) S9 M3
end
theorem t8.newAt{led:aa}(S:t8 B s Z led){h':Heap}{ao:y1}(M7:ao.gnum=none)(tk:Nat)(keep:∀b o,s.heap.get? b=some o->h'.get? b=some o)
  (hh:Holds Z {s with heap:=h',toks:=tk} s.heap.objs.size ao) :
  t8 B {s with heap:=h',toks:=tk} Z ((s.heap.objs.size,ao)::led)/\y8 (aj led) s Z {s with heap:=h',toks:=tk} Z (aj ((s.heap.objs.size,ao)::led)) :=
 t8.step (gl:=[]) (gl':=[(s.heap.objs.size,ao)]) S (.refl _) (fun b o O=>keep b o) (fun O O e => .inl e) (fun p hp=>YB.mp hp▸hh) (fun a ha => .inr (YB.mp ha▸⟨gz s,S.zfresh⟩))
  (YC.mpr ⟨ZY,List.nodup_nil⟩) (by unfold gkeys;rw[ZK,M7];exact .refl _) rfl rfl
theorem yi{I:YV}{v:Value}{o:Obj}{n:String}{vs:Array Value}{Q:Unit->Yo->Prop}(ho:s.heap.get? I=some o)(hc:o.cls=.type n)(hd:o.data=.fields vs)
  (hn:n = "list_iterator" ∨ n = "tuple_iterator" ∨ n = "range_iterator") (hQ:Q () s):YJ (YG vv w) A (Zt t0 (.ref I) v) Q E s:=by
 have key:∀a,YJ (YG vv w) A (Zt (.Tuple [] 0 default) (.ref I) (.ref a)) Q E s:=fun a=>by
  refine Yh (wpAny_load ho ?_);rw[hc,hd];refine fW (fun q=>?_) (Yj hQ);rcases hn with rfl |rfl |rfl <;> exact absurd (Bool.and_eq_true_iff.mp q).1 (by decide)
 cases t0
 case Tuple=>cases v <;> first |exact Yj hQ |exact key _
 case List=>cases v <;> first |exact Yj hQ |exact key _
 all_goals exact Yj hQ
def bo(B:u6)(x:Str)(v:AV):Prop :=
 ∀(M:Model) (A:Yz) (s:Yo) (Z:u6) (s9:Env),u6.le B Z->(∀a o,Z a=some o->s.heap.get? a=some o)->s9.globals=ZP->s9.builtins=f0->∀(Q:Value->Yo->Prop) (E:Value->Yo->Prop),
  (∀u,Val Z v u->Q u s)->YJ M A (loadGlobal s9 x) Q E s
theorem xJ{o:Obj}{es:Array DictEntry}{ep:Nat}(hB:B a=some o)(hd:o.data=.dict es ep)(hk:StrKeys es)(le:u6.le B Z)(fr:∀a o,Z a=some o->s.heap.get? a=some o) :
  s.heap.Ns a (nsFind es):=⟨o,es,ep,fr _ _ (le _ _ hB),hd,hk,fun O=>rfl⟩
theorem RB{u:Value}{o:Obj}{es:Array DictEntry}{ep:Nat}(hB:B ZP=some o)(hd:o.data=.dict es ep)(hk:StrKeys es)(e:nsFind es x=some u)(hv:∀Z,Val Z v u):bo B x v :=
 fun M A s Z s9 le fr hg hb Q E hQ=>Calls.loadGlobal_global (by rw[hg];exact xJ hB hd hk le fr) e (hQ u (hv Z))
theorem EN{u:Value}{o o':Obj}{es es':Array DictEntry}{ep ep':Nat}(hB:B ZP=some o)(hd:o.data=.dict es ep)(hk:StrKeys es)(e:nsFind es x=none)
  (V4:B f0=some o') (r_:o'.data=.dict es' ep') (ï:StrKeys es') (e':nsFind es' x=some u) (hv:∀Z,Val Z v u):bo B x v :=
 fun M A s Z s9 le fr hg hb Q E hQ=>Calls.loadGlobal_builtin (by rw[hg];exact xJ hB hd hk le fr) e (by rw[hb];exact xJ V4 r_ ï le fr) e' (hQ u (hv Z))
theorem Gx(hx:bo B x v)(hk:s9.kindOf x=some .globalImplicit)(hg:s9.globals=ZP)(hb:s9.builtins=f0)
  (hd:(x==("__debug__" : Str))=false) (h:K v st):T vv w A B s9 Val (ZI (.Name x pos) s9) st K:=fun s Z S Q E hQ =>
 Calls.Name_function_global S.fn hk (hx _ _ s Z s9 S.base S.frozen hg hb _ _ fun u V=>hQ v u s Z st h S V .refl) hd
theorem tP{K:List AV->St->Prop}(h:K [] st):T vv w A B s9 Vals (spliced (g6 pos (Zl [] s9))) st K:=fun s Z S Q E hQ=>Calls.spliced_nil (hQ _ _ s Z st h S .nil .refl)
theorem Wa{e:Expr}{rest:List Expr}{K:List AV->St->Prop}(hs:Zl (e::rest) s9=(false,ZI e s9)::Zl rest s9)
  (h:T vv w A B s9 Val (ZI e s9) st fun v y6=>T vv w A B s9 Vals (spliced (g6 pos (Zl rest s9))) y6 fun vs A5=>K (v::vs) A5) :
  T vv w A B s9 Vals (spliced (g6 pos (Zl (e::rest) s9))) st K:=fun s Z S Q E hQ=>by
 exact(Eq.symm (hs))▸Calls.spliced_cons (h s Z S _ _ fun v1 x1 s₁ Z1 y6 k₁ S1 V1 X1=>k₁ s₁ Z1 S1 _ _ fun v2 x2 s2 Z2 A5 k2 S2 V2 X2=>hQ _ _ s2 Z2 A5 k2 S2 (.cons (V1.mono X2.le) V2) (X1.trans X2))
def FC(vv:YA)(w:YH)(A:Yz)(B:u6)(s9:Env)(f:AV)(args:List AV)(kw:List (Str×AV))(st:St)(K:AV->St->Prop):Prop :=
 ∀(s:Yo) (Z:u6) (fx:Value) (xs:List Value) (ks:List (Str×Value)),Val Z f fx->Vals Z args xs->w8 Z kw ks->w5 B s9 s Z st->∀(Q:Value->Yo->Prop) (E:Value->Yo->Prop),
  HQ B s9 Val st K s Z Q->YJ (YG vv w) A (call fx xs ks) Q E s
theorem FC.b{n:String}
  (h:∀s Z,w5 B s9 s Z st->∀Q E,HQ B s9 Val st K s Z Q->∀xs,Vals Z args xs->YJ (YG vv w) A (call (.builtin n) xs []) Q E s):FC vv w A B s9 (.blt n) args [] st K :=
 fun s Z fx xs ks hf hx hk S Q E hQ=>by
  cases hf
  cases hk
  exact h s Z S Q E hQ xs hx
theorem FC.t{n:String}
  (h:∀s Z,w5 B s9 s Z st->∀Q E,HQ B s9 Val st K s Z Q->∀xs,Vals Z args xs->YJ (YG vv w) A (call (.type n) xs []) Q E s):FC vv w A B s9 (.typ n) args [] st K :=
 fun s Z fx xs ks hf hx hk S Q E hQ=>by
  cases hf
  cases hk
  exact h s Z S Q E hQ xs hx
theorem zg{f:AV}(h:TC vv w A B f args kw st.led fun v led'=>K v ⟨st.loc,led'⟩):FC vv w A B s9 f args kw st K :=
 fun s Z fx xs ks hf hx hk S Q E hQ=>f9 (h s Z fx xs ks S.tot8 hf hx hk _ fun v x s' Z' led' k L V X=>hQ v x s' Z' ⟨st.loc,led'⟩ k (S.after L X) V X.toF)
def gI(vv:YA)(w:YH)(B:u6)(f:AV):Prop :=
 ∀(A:Yz) (s:Yo) (Z:u6) (fx:Value),Val Z f fx->u6.le B Z->(∀a o,Z a=some o->s.heap.get? a=some o)->∀(Q:Keeper->Yo->Prop) (E:Value->Yo->Prop),(∀k,Q k s)->YJ (YG vv w) A (keeperOf fx) Q E s
theorem oO{id:String}:gI vv w B (.blt id):=fun A s Z fx V le fr Q E hQ=>by cases V;exact Yj (hQ _)
theorem Qg{n:String}:gI vv w B (.typ n):=fun A s Z fx V le fr Q E hQ=>by cases V;exact Yj (hQ _)
theorem Qj{id:String}{self:AV}:gI vv w B (.bm id self):=fun A s Z fx V le fr Q E hQ=>by
 refine bw (yr V) fun O O qv e h=>?_;subst qv;unfold keeperOf;refine Yh (wpAny_load (fr _ _ e) ?_);exact Yj (hQ _)
theorem Fq{fx:Value}{Q:Args->Yo->Prop}(h:YJ (YG vv w) A (spliced []) (fun vs s'=>Q ⟨vs,[]⟩ s') E s):YJ (YG vv w) A (evalArgs fx true [] []) Q E s:=by
 unfold evalArgs;show YJ _ A (spliced []>>=_) Q E s;refine Yh (Zk h (fun vs s' h'=>?_) fun O O x=>x);refine Yh (Yj ?_);refine Yw ?_;exact Yh (Yj (Yh (Yj (Yj h'))))
def CA(vv:YA)(w:YH)(A:Yz)(B:u6)(s9:Env)(pos:Pos)(f:AV)(first:List AV)(args:List Expr)(st:St)(K:AV->St->Prop):Prop :=
 ∀(s:Yo) (Z:u6) (fx:Value) (xs:List Value),Val Z f fx->Vals Z first xs->w5 B s9 s Z st->∀(Q:Value->Yo->Prop) (E:Value->Yo->Prop),
  HQ B s9 Val st K s Z Q->YJ (YG vv w) A (callWith pos fx xs (g6 pos (Zl args s9)) []) Q E s
theorem eK{f:AV}{first:List AV}{args:List Expr}(E2:((g6 pos (Zl args s9)).all fun x => !x.1)=true)(hk:gI vv w B f)
  (h:T vv w A B s9 Vals (spliced (g6 pos (Zl args s9))) st fun vs y6=>FC vv w A B s9 f (first++vs) [] y6 K):CA vv w A B s9 pos f first args st K:=fun s Z fx xs hf Ó S Q E hQ=>by
 unfold callWith;have u_:∀ {Q':Args->Yo->Prop},(∀v x s' Z' t5,FC vv w A B s9 f (first++v) [] t5 K->w5 B s9 s' Z' t5->Vals Z' v x->y8 (aD s9 st) s Z s' Z' (aD s9 t5)->Q' ⟨x,[]⟩ s') ->
   YJ (YG vv w) A (evalArgs fx true (g6 pos (Zl args s9)) []) Q' E s:=fun{Q'} Ζ=>by
  have U4:=h s Z S (fun x s'=>Q' ⟨x,[]⟩ s') E Ζ;revert U4 E2;generalize g6 pos (Zl args s9)=l;intro E2 U4;cases l with
  |nil=>exact Fq U4
  |cons y r =>
   obtain⟨b,t⟩:=y
   have:b=false:=by simpa using (YY.mp E2 (b,t) (Yi ..))
   subst this;exact Calls.evalArgs_plain U4
 refine Yh (Yw (u_ fun vs x s₁ Z1 y6 k₁ S1 V1 X1=>Yh (YU ?_)));refine Yh (hk A s₁ Z1 fx (hf.mono X1.le) S1.base S1.frozen _ _ fun k=>?_);have D0:YJ (YG vv w) A (call fx (xs++x) []) (fun r s'=>YJ (YG vv w) A (do m6 [r] point;b9 r) Q E s') E s₁ :=
  k₁ s₁ Z1 fx _ [] (hf.mono X1.le) ((Ó.mono X1.le).append V1) .nil S1 _ _ fun v y s' Z' t5 k S' V X=>Yh (Yw (wpAny_point (Yj (hQ v y s' Z' t5 k S' V (X1.trans X)))))
 have R_:∀l,YJ (YG vv w) A (operate l (call fx (xs++x) [])>>=fun r=>(do m6 [r] point;b9 r)) Q E s₁:=fun l=>Yh (fun Γ p K9=>by rw[Sem.wp_operate];exact D0 Γ p K9);have hm:∀m,YJ (YG vv w) A (callMarked m fx (xs++x) []>>=fun r=>(do m6 [r] point;b9 r)) Q E s₁:=fun m=>Yh (by unfold callMarked;exact Calls.wpAny_keep D0);generalize (((g6 pos (Zl args s9)).any fun x=>x.fst)||([]:List (Option Str×Sem Value)).any fun x=>x.fst.isNone)=b;cases k <;> cases b <;> first
  |exact R_ _
  |exact hm _
  |exact Yh D0
  |exact wpAny_ite (by split <;> first |exact Yh D0 |exact hm _)
theorem zb{func:Expr}{args:List Expr}(hc:ZI (.Call func args [] pos) s9=(do callWith pos (← ZI func s9) [] (g6 pos (Zl args s9)) []))
  (h:T vv w A B s9 Val (ZI func s9) st fun f y6=>CA vv w A B s9 pos f [] args y6 K):T vv w A B s9 Val (ZI (.Call func args [] pos) s9) st K:=fun s Z S Q E hQ=>by
 rw[hc];exact Yh (h s Z S _ _ fun f x s₁ Z1 y6 k₁ S1 V1 X1=>k₁ s₁ Z1 x [] V1 .nil S1 _ _ fun v y s' Z' t5 k S' V X=>hQ v y s' Z' t5 k S' V (X1.trans X))
def gF(B:u6)(v:AV)(led:aa)(T:String):Prop :=
 ∀(s:Yo) (Z:u6) (x:Value),Val Z v x->t8 B s Z led->s.TypeIs x T/\∀a,x=.ref a->∃o,s.heap.get? a=some o/\o.dict=none
theorem mA{led:aa}:gF B (.str x) led "str" := fun s Z u V S=>by cases V;exact⟨typeIs_str s x _,fun a e=>nomatch e⟩
theorem br{led:aa}(hm:(a,.list xs)∈led):gF B (.ref a) led "list" := fun s Z u V S=>by
 (have e_:=V.inv;subst e_)
 refine bK (S.own _ hm) fun items n g O=>?_;exact⟨⟨_,g,rfl⟩,fun b e=>by cases e;exact bQ _ g rfl⟩
theorem zS{led:aa}:gF B (.lst xs) led "list" := fun s Z u V S=>by
 refine bv (iH V) fun O O O qv e h=>?_;subst qv;exact⟨⟨_,S.frozen _ _ e,rfl⟩,fun b q=>by cases q;exact bQ _ (S.frozen _ _ e) rfl⟩
theorem VF{o:Expr}{I0:Pos}{args:List Expr}{T' id:String}
  (H0:attributeBase o name s9 (ZI o s9)=ZI o s9)
  (T2:((g6 pos (Zl args s9)).all (fun x => !x.1)&&(backToKw pos (keywordEach [] s9)).all (fun x=>x.1.isSome)
   && decide (args.length+([]:List Keyword).length+(if ([]:List Keyword).isEmpty then 0 else 1)<30))=true)
  (G7:(I0.endLine==pos.line)=true) (pa:PlainAttrs T') (slot:Slot T' name id) (Z9:typeOf (.builtin id)=b9 (.type "method_descriptor"))
  (h:T vv w A B s9 Val (ZI o s9) st fun v y6=>gF B v y6.led T'/\CA vv w A B s9 pos (.blt id) [v] args y6 K) :
  T vv w A B s9 Val (ZI (.Call (.Attribute o name I0) args [] pos) s9) st K:=fun s Z S Q E hQ =>
 wpAny_Call_method H0 T2 G7 pa slot Z9 (h s Z S _ _ fun v x s₁ Z1 y6 k₁ S1 V1 X1 =>
  ⟨(k₁.1 s₁ Z1 x V1 S1.tot8).1,(k₁.1 s₁ Z1 x V1 S1.tot8).2,k₁.2 s₁ Z1 _ [x] (.blt id) (.cons V1 .nil) S1 _ _ fun v y s' Z' t5 k S' V X=>hQ v y s' Z' t5 k S' V (X1.trans X)⟩)
section
open PySem PySem.W PySem.Builtin PySem.Builtin.Str
inductive K1:Value->Str->Nat->Prop
 |str {x:Str} {t:Tok} {k:Nat} (h:x.length<=k):K1 (.str x t) x k
 |int {n:Int} {u:Tok} (h0:0<=n) (h1:n<10^10):K1 (.int n u) (Yn (l8 n)) 10
theorem K1.len{v:Value}(h:K1 v x k):x.length<=k:=by
 cases h with
 |str h=>exact h
 |int h0 h1=>exact PyProof.Rows.toString_length_le h0 (by decide) h1
inductive Q5 (n:Nat):List Nat->List Value->Str->Nat->Str->Nat->Nat->Prop
 |done {T:Str} {N:Nat}:Q5 n [] [] T N T N 0
 |lit {r l rest:List Nat} {vs:List Value} {T T1 T':Str} {N N' c:Nat} (hr:r.isEmpty=false) (hN:N<=16777216) (hl:(l.length==n)=false) (h:nextMarkup r=.ok (l,none,rest)) {L:Str} (hL:⟨l.toArray⟩=L) (e:T++L=T1) (p:Q5 n rest vs T1 (N+l.length) T' N' c):Q5 n r vs T N T' N' (c+1)
 |field {r l rest:List Nat} {v:Value} {vs:List Value} {x T T1 T':Str} {k N N' c:Nat} (hr:r.isEmpty=false) (hN:N<=16777216) (hl:(l.length==n)=false) (h:nextMarkup r=.ok (l,some ⟨[],none,[],false⟩,rest))
   (hx:K1 v x k) {L:Str} (hL:⟨l.toArray⟩=L) (e:(T++L)++x=T1) (p:Q5 n rest vs T1 (N+l.length+k) T' N' c):Q5 n r (v::vs) T N T' N' (c+1)
theorem Hy{v:Value}(h:K1 v x k)(hQ:∀t m,Q (.str x t) {s with toks:=m}):YJ (YG vv w) A (formatOf v ⟨[].toArray⟩) Q E s:=by
 cases h with
 |str h=>exact Zr (KFm.formatOf_str _ _) (hQ _ s.toks)
 |int h0 h1=>exact KFm.formatOf_int (PyProof.Rows.shown (N:=2^1920) (Int.lt_of_lt_of_le (by decide +kernel) h0) (Int.lt_of_lt_of_le h1 (by decide +kernel)) (Int.le_refl _)) hQ
theorem Fy{xs ys:List α}{x:α}(h:xs.drop i=x::ys):xs.toArray[i]?=some x/\xs.drop (i+1)=ys:=by
 have e:(xs.drop i)[0]?=some x:=h▸rfl;rw[List.getElem?_drop] at e;exact⟨(List.getElem?_toArray ..).trans e,List.drop_drop.symm.trans (h▸rfl)⟩
section
variable{È:List Value}{f:Nat->Writer×Numbering×List Nat->Sem (ForInStep (Writer×Numbering×List Nat))}
structure Body (vv:YA) (w:YH) (A:Yz) (E:Value->Yo->Prop) (n:Nat) (È:List Value) (f:Nat->Writer×Numbering×List Nat->Sem (ForInStep (Writer×Numbering×List Nat))):Prop where
 stop:∀x wr num,f x (wr,num,[])=b9 (.done (wr,num,[]))
 lit:∀ {x wr num r l rest},r.isEmpty=false -> ¬ tooLong wr.total=true->(l.length==n)=false->nextMarkup r=.ok (l,none,rest)->f x (wr,num,r)=b9 (.yield (wr.add ⟨l.toArray⟩ none,num,rest))
 field:∀ {x wr num r l rest v y k i} {s:Yo} {Q:ForInStep (Writer×Numbering×List Nat)->Yo->Prop},r.isEmpty=false -> ¬ tooLong wr.total=true->(l.length==n)=false->nextMarkup r=.ok (l,some ⟨[],none,[],false⟩,rest) ->
  K1 v y k->È.toArray[i]?=some v->(num=.unset/\i=0∨num=.auto i)->(∀o m,KPc.Obj o y->Q (.yield ((wr.add ⟨l.toArray⟩ none).add y o,.auto (i+1),rest)) {s with toks:=m})->YJ (YG vv w) A (f x (wr,num,r)) Q E s
theorem Ko(hf:Body vv w A E n È f){r:List Nat}{T T':Str}{N N' c:Nat}(hp:Q5 n r vs T N T' N' c):∀ {l:List Nat} {wr:Writer} {num:Numbering} {i:Nat} {s:Yo} {Q:Writer×Numbering×List Nat->Yo->Prop},c<=l.length->KPc.Good wr T N->È.drop i=vs ->
  (num=.unset/\i=0∨num=.auto i)->(∀wr' Ì m,KPc.Good wr' T' N'->Q (wr',Ì,[]) {s with toks:=m})->YJ (YG vv w) A (forIn l (wr,num,r) f) Q E s:=by
 induction hp with
 |done =>
  intro l wr num i s Q _ g _ _ hQ;cases l with
  |nil=>exact Yj (hQ wr num s.toks g)
  |cons x l=>exact KPc.turn (hf.stop x wr num▸Yj (hQ wr num s.toks g))
 |lit hr hN0 hl0 h hL e p ih =>
  subst hL;intro l wr num i s Q hl g hi hn hQ;cases l with
  |nil=>exact absurd hl (Nat.not_succ_le_zero _)
  |cons x l=>exact KPc.turn (hf.lit hr (KPc.short_good g hN0) hl0 h▸Yj (ih (Nat.le_of_succ_le_succ hl) (e▸KPc.good_add g (KPc.obj_none rfl)) hi hn hQ))
 |field hr hN0 hl0 h hx hL e p ih =>
  subst hL;intro l wr num i s Q hl g hi hn hQ;cases l with
  |nil=>exact absurd hl (Nat.not_succ_le_zero _)
  |cons x l=>exact KPc.turn (hf.field hr (KPc.short_good g hN0) hl0 h hx (Fy hi).1 hn fun o m ho=>ih (Nat.le_of_succ_le_succ hl) (e▸KPc.good_mono (KPc.good_add (KPc.good_add g (KPc.obj_none rfl)) ho) (p5 hx.len _)) (Fy hi).2 (.inr rfl) hQ)
end
theorem Nc{byName:Str->Sem Value}{self:Value}{ą:List Nat}{N' c:Nat}{T':Str}{Q:PySem.Fin->Yo->Prop}
  (hp:Q5 ą.length ą vs Str.empty 0 T' N' c) (hc:c<=ą.length) (hN:N'<=16777216) (hQ:∀t m,Q (.done (.ret (.str T' t))) {s with toks:=m}) :
  YJ (YG vv w) A (buildString "str.format" (some vs.toArray) byName 2 ą (some self) .unset>>=fun r=>r.1.finish "str.format") Q E s:=by
 refine Yh (Yh ?_);rw[KPc.range_list];refine KFm.start fun wr g=>Ko (n:=ą.length) (È:=vs) ⟨fun x wr num=>rfl,fun hr ht hl h=>?_,fun hr ht hl h hx hv hn hQ=>?_⟩ hp (Zg hc (o5 (List.length_range' ..).symm)) g rfl (.inl ⟨rfl,rfl⟩) fun wr' Ì m g=>Yj (KPc.finish_ok g hN rfl fun t k=>hQ t k)
 ·dsimp only;rw[if_neg fun q=>Zd (hr.symm.trans q),if_neg ht,h];dsimp only;rw[if_neg fun q=>Zd (hl.symm.trans q)]
 ·refine wpAny_ite (KPc.ite_no (fun q=>Zd (hr.symm.trans q)) ?_);refine wpAny_ite (KPc.ite_no ht ?_);dsimp only;rw[h];dsimp only;rw[if_neg fun q=>Zd (hl.symm.trans q)];refine Yh (KFm.field_auto hn hv ?_);refine Yh (Yw (Zr (a:=_) rfl ?_));refine wpAny_ite (KPc.ite_no Zd ?_);refine Yh (Yj ?_);refine Yh (Yw (Hy hx fun t m=>?_));refine Yh (Zr (a:=some _) rfl ?_);refine Yj (hQ _ m ?_);intro u hu;split at hu
  ·exact⟨_,(d8 hu).symm⟩
  ·exact nomatch hu
theorem jM{F:List Nat}{t:Tok}{T':Str}{N' c:Nat}(hp:Q5 F.length F vs Str.empty 0 T' N' c)(hc:c<=F.length)(hN:N'<=16777216) :
  Meets (Builtin.«str.format» ⟨.str ⟨F.toArray⟩ t::vs,[]⟩) (fun O R s=>∀t' k,R (.ok (.ret (.str T' t'))) {s with toks:=k}) :=
 KPc.meets_of fun vv w A s Q E hQ=>Yh (m:=strSelf ⟨.str ⟨F.toArray⟩ t::vs,[]⟩) (Zr (a:=(_,_,_)) rfl (Nc hp hc hN hQ))
theorem OW{n:Int}{t u:Tok}(h0:0<=n)(h1:n<10^10):Meets (Builtin.«str.format» ⟨[.str (Str.mk #[123,125]) t,.int n u],[]⟩) (fun O R s=>∀t' k,R (.ok (.ret (.str (Yn (l8 n)) t'))) {s with toks:=k}) :=
 jM (F:=[123,125]) (.field (l:=[]) (rest:=[]) (L:=Yn "") rfl (ZB rfl) rfl rfl (.int h0 h1) (by decide +kernel) KFm.cat_ee .done) (ZB rfl) (ZB rfl)
theorem OV{n m:Int}{t u u':Tok}(h0:0<=n)(h1:n<10^10)(h2:0<=m)(h3:m<10^10):Meets (Builtin.«str.format» ⟨[.str (Str.mk #[123,125,44,123,125]) t,.int n u,.int m u'],[]⟩)
  (fun O R s=>∀t' k,R (.ok (.ret (.str ((Yn (l8 n)++Yn ",")++Yn (l8 m)) t'))) {s with toks:=k}) :=
 jM (F:=[123,125,44,123,125]) (.field (l:=[]) (rest:=[44,123,125]) (L:=Yn "") rfl (ZB rfl) rfl rfl (.int h0 h1) (by decide +kernel) KFm.cat_ee
  (.field (l:=[44]) (rest:=[]) (L:=Yn ",") rfl (ZB rfl) rfl rfl (.int h2 h3) (by decide +kernel) rfl .done)) (ZB rfl) (ZB rfl)
end
noncomputable def ap(K:Frag):u6:=fun a=>K.lookup a
theorem dA{K:Frag}(le:u6.le (ap K) Z)(fr:∀a o,Z a=some o->s.heap.get? a=some o):K.In s.heap:=fun a o e=>fr a o (le a o e)
section
variable{K:Frag}
theorem Binds.peek{fd:m3}
  (h:∀(Z:u6) (xs:List Value) (ks:List (Str×Value)),Vals Z args xs->w8 Z kw ks->∃bs,Zm K ⟨vv,w.params⟩ (bindArgs fd ⟨xs,ks⟩)=some bs/\w8 Z binds bs) :
  Binds vv w A (ap K) fd args kw binds:=fun s Z led xs ks S hx hk Q E hQ=>by
 refine ae (h Z xs ks hx hk) fun bs e hb=>?_;exact k8 (M:=YG vv w) (dA S.base S.frozen) e A Q E s (fun b o e=>e) (hQ bs s Z S hb .refl)
theorem Binds.pk{fd:m3}
  (h:∀(Z:u6) (xs:List Value),Vals Z args xs->∃bs,Zm K ⟨vv,w.params⟩ (bindArgs fd ⟨xs,[]⟩)=some bs/\w8 Z binds bs) :
  Binds vv w A (ap K) fd args [] binds:=Binds.peek fun Z xs ks hx hk=>w8.un0 (P:=fun ks=>∃bs,Zm K ⟨vv,w.params⟩ (bindArgs fd ⟨xs,ks⟩)=some bs/\w8 Z binds bs) (h Z xs hx) ks hk
def cM(K:Frag)(f:YV)(gen:Bool)(fd:m3)(body:List Stmt)(c:YV):Prop :=
 (∃o,K.lookup f=some o/\o.data=.func fd)/\fd.body=.stmts body/\fd.code=.ref c/\fd.closure=[]/\fd.globals=ZP/\fd.builtins=f0 /\
 (∃oc vs tq,K.lookup c=some oc/\oc.data=.fields vs/\vs[1]?=some (.str fd.qualname tq)) /\
 (fd.scope.isCoroutine=false/\fd.scope.isGenerator=gen/\fd.scope.kind=.function)/\(fd.scope.names.all fun x=>decide (x.2 ≠ .cell))=true
noncomputable abbrev bz(fd:m3)(L f c:YV):Env:=dS fd.scope L ZP [] fd.qualname f (.ref c) f0
theorem zc{f c:YV}{fd:m3}{led:aa}{R:AV->aa->Prop}
  (hG:A7 (ap K)) (ok:cM K f false fd body c) (B9:A.depth<b0) (hb:Binds vv w A.in1 (ap K) fd args kw binds)
  (E3:((binds.map (·.1)).all fun x=>decide (fd.scope.names.lookup x=some .local))=true)
  (h:∀L,L∉keys led->T vv w (A.deeper (bz fd L f c)) (ap K) (bz fd L f c) y0 (execs body (bz fd L f c)) ⟨binds.reverse,led⟩ (kH R)) :
  TC vv w A (ap K) (.ref f) args kw led R:=by
 refine Hp ok fun O1 F8 hc Β hg θ O7 O8 h4=>?_;clear ok;obtain⟨o,ho,hd⟩:=O1;obtain⟨oc,vs,tq,R7,J4,hq⟩:=O7;obtain⟨h1,h2,h3⟩:=O8;refine VR hG ho hd h1 h2 h3 F8 (fun x hx=>of_decide_eq_true (YY.mp h4 x hx)) hc R7 J4 hq B9 hb (fun x hx=>of_decide_eq_true (YY.mp E3 x hx)) fun L hL=>?_;exact(Eq.symm (Β))▸(Eq.symm (hg))▸(Eq.symm (θ))▸(Eq.symm (hc))▸h L hL
theorem zj{X:Str}{vs:List AV}{T':Str}
  (hm:∀Z t xs,Vals Z vs xs->m9 "str.format" ⟨.str X t::xs,[]⟩/\Meets (Builtin.«str.format» ⟨.str X t::xs,[]⟩) (fun O R s=>∀t' k,R (.ok (.ret (.str T' t'))) {s with toks:=k}))
  (h:R (.str T') st):FC vv w A B s9 (.blt "str.format") (.str X::vs) [] st R:=FC.b fun s Z S Q E hQ=>Vals.un <| Val.eStr fun t xs ht =>
 KFm.call_k rfl (hm Z t xs ht).1 (hm Z t xs ht).2 fun t' k=>hQ _ _ _ Z st h (S.toks _) (.str _ _) (.toks _)
theorem GW{X:Str}{T':Str}
  (hm:∀Z t x,Val Z v x->Meets (Builtin.«str.format» ⟨[.str X t,x],[]⟩) (fun O R s=>∀t' k,R (.ok (.ret (.str T' t'))) {s with toks:=k}))
  (h:R (.str T') st):FC vv w A B s9 (.blt "str.format") [.str X,v] [] st R :=
 zj (fun Z t=>Vals.un fun x hx=>Vals.un0 ⟨KFm.args_2 _ _,hm Z t x hx⟩) h
theorem zi{X:Str}{T':Str}
  (hm:∀Z t x,Val Z v x->∀y,Val Z u y->Meets (Builtin.«str.format» ⟨[.str X t,x,y],[]⟩) (fun O R s=>∀t' k,R (.ok (.ret (.str T' t'))) {s with toks:=k}))
  (h:R (.str T') st):FC vv w A B s9 (.blt "str.format") [.str X,v,u] [] st R :=
 zj (fun Z t=>Vals.un fun x hx=>Vals.un fun y hy=>Vals.un0 ⟨KFm.args_3 _ _ _,hm Z t x hx y hy⟩) h
theorem GV{X:Str}{r:AV}{T':Str}
  (hm:∀Z t x,Val Z v x->∀y,Val Z u y->∀z,Val Z r z->Meets (Builtin.«str.format» ⟨[.str X t,x,y,z],[]⟩) (fun O R s=>∀t' k,R (.ok (.ret (.str T' t'))) {s with toks:=k}))
  (h:R (.str T') st):FC vv w A B s9 (.blt "str.format") [.str X,v,u,r] [] st R :=
 zj (fun Z t=>Vals.un fun x hx=>Vals.un fun y hy=>Vals.un fun z hz=>Vals.un0 ⟨KFm.args_4 _ _ _ _,hm Z t x hx y hy z hz⟩) h
end
theorem GY{n:Int}(h0:0<=n)(h1:n<10^10)(h:R (.str (Yn (l8 n))) st):FC vv w A B s9 (.blt "str.format") [.str (Str.mk (ZH [123,125])),.int n] [] st R :=
 GW (fun Z t=>Val.eInt fun O=>OW h0 h1) h
theorem WV{n m:Int}(h0:0<=n)(h1:n<10^10)(h2:0<=m)(h3:m<10^10)(h:R (.str ((Yn (l8 n)++Yn ",")++Yn (l8 m))) st) :
  FC vv w A B s9 (.blt "str.format") [.str (Str.mk (ZH [123,125,44,123,125])),.int n,.int m] [] st R :=
 zi (fun Z t=>Val.eInt fun O=>Val.eInt fun O=>OV h0 h1 h2 h3) h
structure w0 (A:Yz) (k:Nat):Prop where
 h:A.handled=none
 d:A.depth+k<=b0
 u:A.units+k<=cLine
theorem w0.mono(r:w0 A k)(h:j<=k):w0 A j:=⟨r.h,Zg (p5 h _) r.d,Zg (p5 h _) r.u⟩
theorem w0.in1(r:w0 A (k+1)):w0 A.in1 k:=⟨r.h,Zg (p5 (Nat.le_succ k) _) r.d,by have:=r.u;show A.units+1+k<=cLine;omega⟩
theorem w0.deeper(r:w0 A (k+3)):w0 (A.deeper s9) k:=⟨r.h,by have:=r.d;show A.depth+1+k<=_;omega,by have:=r.u;show A.units+3+k<=cLine;omega⟩
theorem w0.lt(r:w0 A (k+1)):A.depth<b0:=by have:=r.d;omega
theorem w0.ult(r:w0 A (k+1)):A.units<cLine:=by have:=r.u;omega
section
variable{M:Model}{Φ:End->Yo->Prop}{c:Code}{fs:List Frame}
def bb(M:Model)(A:Yz)(Φ:End->Yo->Prop)(c:Code)(t:Sem Fin)(fs:List Frame)(s:Yo):Prop :=
 ∀Γ p,Γ.code=c->Γ.Woken A->∃e s',Runs M Γ p t fs s e s'/\Φ e s'
theorem ef{m:Sem α}{K:α->Sem Fin}{H:Value->Sem Fin}{gd lv}
  (h:YJ M (A.over c fs) m (fun a s'=>bb M A Φ c (K a) fs s') (fun x s'=>bb M A Φ c (H x) fs s') s):bb M A Φ c (m.wrap K H gd lv) fs s:=by
 rintro Γ p rfl K9
 exact runs_wrap_of_wp K H gd lv m (h (Γ.over fs) p (K9.over fs)) (fun a p' s' h'=>h' Γ p' rfl K9) (fun x p' s' h'=>h' Γ p' rfl K9)
theorem je{p':Pos}{k:Unit->Sem Fin}(h:bb M A Φ c (k ()) fs s):bb M A Φ c (.at p' k) fs s :=
 ef (m:=standAt p') (K:=k) (H:=.raise) (gd:=id) (lv:=id) (YU h)
theorem Ka{l:List Value}{k:Unit->Sem Fin}(h:bb M A Φ c (k ()) fs s):bb M A Φ c (.point l k) fs s :=
 ef (m:=point) (K:=k) (H:=.raise) (gd:=id) (lv:=fun O=>l) (wpAny_point h)
theorem Kd{c':Code}{h g l}{k:Result->Sem Fin}(hc:∀p,bb M A Φ c' (M.den c') (.ret k h g l c p []::fs) s):bb M A Φ c (.call c' h g l k) fs s:=by
 rintro Γ p rfl K9
 refine bK (hc p (Γ.goto c') p rfl (K9.goto c')) fun e s' hr he=>?_;exact dZ e s' (runs_call_seg hr) he
theorem Kb{k h g l c₁ Ë kp}(r:Result)(hk:bb M A Φ c₁ (k r) fs s):bb M A Φ c (leafOf r) (.ret k h g l c₁ Ë kp::fs) s:=by
 rintro Γ p rfl K9
 refine bK (hk (Γ.goto c₁) Ë rfl (K9.goto c₁)) fun e s' hr he=>?_;exact dZ e s' (Runs.pop r hr) he
theorem mK{c':Code}(hq:c'.quiet=true)(hc:bb M A Φ c' (M.den c') fs s):bb M A Φ c (.pure (.again c')) fs s:=by
 rintro Γ p rfl K9
 refine bK (hc (Γ.goto c') p rfl (K9.goto c')) fun e s' hr he=>?_;exact dZ e s' (Runs.head (c₁:=c') (fun O O x => .again hq x) hr) he
theorem AS(r:Result)(h:Φ (.ret r) s):bb M A Φ c (leafOf r) [] s:=by
 rintro Γ p rfl _
 exact dZ (.ret r) s (Runs.leaf r) h
theorem AR{v g l}{k:Resume->Sem Fin}(hfs:splitAtGen fs=none)(h:∀p,Φ (.susp v g l k c p fs) s):bb M A Φ c (.yield v g l k) fs s:=by
 rintro Γ p rfl _
 exact dZ _ s (Runs.yield' fs hfs) (h p)
set_option backward.match.sparseCases false in
def pw(M:Model)(A:Yz)(Φ:End->Yo->Prop)(gs:l3)(s:Yo):Prop :=
 match gs with
 |.fresh c=>bb M A Φ c (M.den c) [] s
 |.suspended k _ c _ fs _=>bb M A Φ c (k (.send .none)) fs s
 |_=>False
theorem HH{g:Nat}{gs:l3}{l:List Value}{k:GenResult->Sem α}{Q:α->Yo->Prop}(hg:s.gens[g]?=some gs)
  (L1:pw M A Φ gs (s.setGen g .running)) (hq:∀e s₁,Φ e s₁->e.quiet=true)
  (hR:∀e s₁,Φ e s₁->YJ M A (k e.result) Q E (s₁.setGen g e.genState)):YJ M A (.resume g (.send .none) l k) Q E s:=by
 intro Γ p K9;rw[Sem.wp_resume];cases gs with
 |fresh c =>
  refine bK (L1 (Γ.wake c p) p rfl (K9.wake c p)) fun N2 s₁ hr he=>?_;exact dZ _ _ (by unfold Wakes;exact(Eq.symm (hg))▸GP N2 s₁ hr (hq N2 s₁ he) rfl rfl) (hR N2 s₁ he Γ p K9)
 |suspended k0 l₀ Ĉ p0 fs0 cl =>
  refine bK (L1 (Γ.wake Ĉ p) p0 rfl (K9.wake Ĉ p)) fun N2 s₁ hr he=>?_;exact dZ _ _ (by unfold Wakes;exact(Eq.symm (hg))▸GP N2 s₁ hr (hq N2 s₁ he) rfl rfl) (hR N2 s₁ he Γ p K9)
 |running=>exact L1.elim
 |finished=>exact L1.elim
end
def K2(e:End):Prop:=e=.ret (.ok (.ret .none))∨e=.ret (.ok .next)
theorem zF{g:Nat}{gs:l3}{Φ:End->Yo->Prop}{Q:Option Value->Yo->Prop}(hh:A.handled=none)
  (hl:s.heap.NoLimit) (B9:A.depth<b0) (hg:s.heap.IsGen a g) (R9:s.gens[g]?=some gs)
  (L1:pw (YG vv w) A.in1 Φ gs (s.setGen g .running)) (hq:∀e s₁,Φ e s₁->e.quiet=true)
  (hY:∀e s₁ v,Φ e s₁->e.result=.yielded v->Q (some v) (s₁.setGen g e.genState))
  (hP:∀e s₁,Φ e s₁->(∃v,e.result=.yielded v)∨(K2 e/\∀h',(∀b o,s₁.heap.get? b=some o->h'.get? b=some o)->Q none {s₁.setGen g .finished with heap:=h' })) :
  YJ (YG vv w) A (e9 (.ref a)) Q E s:=by
 unfold e9;refine Yh (f2 (Zn (name:=Yn "__next__") hg.typeIs slot_gen_next
  (Zf slot_gen_next hg.typeIs entry_gen_next ?_ (args_gen_next _))))
 show YJ _ _ (Builtin.Generator.genWake (.ref a) (.send .none)) _ _ s;unfold Builtin.Generator.genWake;refine Yh (Yw (wpAny_genNumber hg (Yh (wpAny_genState R9 ?_))));cases gs with
 |running=>exact L1.elim
 |finished=>exact L1.elim
 |_ =>
  refine Yh (wpAny_roomToWake hl B9 ?_);show YJ _ _ (.resume g (.send .none) [] _) _ _ s;refine HH R9 L1 hq fun e s₁ hx=>?_;rcases hP e s₁ hx with ⟨v,hv⟩ |⟨he,hp⟩
  ·exact(Eq.symm (hv))▸Yj ⟨v,rfl,Yj (hY e s₁ v hx hv)⟩
  ·rcases he with rfl |rfl
   all_goals
    show YJ _ _ (newExc (.type "StopIteration") []>>=_) _ _ _;refine Yh ?_;dsimp only[newExc,newTuple];refine Yh (Zo ?_ (by size_fits));refine Yh (m:=f6 _ _) (Zr (a:=ZC) (by first |rfl |(dsimp only[f6];rfl)) ?_);refine Zo ?_ (by size_fits);dsimp only[raiseNew];refine Yh (Yh (wpAny_handled ?_));rw[show A.in1.handled=none from hh];refine wpAny_throw ?_;refine Yh (ZV (T := "StopIteration") (b:=true) ⟨_,Ys _ rfl,rfl⟩ isSubtype_stop ?_);exact Yj (hp _ fun b o hb=>Yt _ (Yt _ hb))
section
theorem dI(st:St):aD s9 st=aj ((s9.locals,.ns st.loc)::st.led):=by
 unfold aD aj;congr 1
 funext a
 simp only[keys,Yu,Yp]
theorem w5.toL(S:w5 B s9 s Z st):t8 B s Z ((s9.locals,.ns st.loc)::st.led) where
 base:=S.base
 frozen:=S.frozen
 nodup:=YC.mpr ⟨S.locL,S.nodup⟩
 apart:=fun p hp=>by
  rcases Yp.mp hp with rfl |hp
  ·exact S.locZ
  ·exact S.apart p hp
 own:=fun p hp=>by
  rcases Yp.mp hp with rfl |hp
  ·exact S.loc
  ·exact S.own p hp
 gnodup:=S.gnodup
 bare:=S.bare
theorem t8.drop1{p:YV×y1}{led:aa}(S:t8 B s Z (p::led)):t8 B s Z led where
 base:=S.base
 frozen:=S.frozen
 nodup:=(YC.mp S.nodup).2
 apart:=fun q hq=>S.apart q (Yk _ hq)
 own:=fun q hq=>S.own q (Yk _ hq)
 gnodup:=by
  have:=S.gnodup;unfold gkeys at this ⊢;rw[ZK] at this;split at this
  ·exact this
  ·exact(YC.mp this).2
 bare:=S.bare
theorem t8.toF(S:t8 B s Z ((s9.locals,.ns st.loc)::st.led))(hk:∀x v,st.loc.lookup x=some v->s9.kindOf x=some .local)(hf:s9.scope.kind=.function):w5 B s9 s Z st where
 tot8:=S.drop1
 locZ:=S.apart _ (Yi ..)
 locL:=(YC.mp S.nodup).1
 loc:=S.own _ (Yi ..)
 kinds:=hk
 fn:=hf
def D4(N led:aa):Prop:=∀p∈N,p∈led
theorem D4.app{N led:aa}(h:D4 N led)(l:aa):D4 N (l++led):=fun p hp=>YQ _ (h p hp)
theorem D4.cons{N led:aa}(h:D4 N led)(q:YV×y1):D4 N (q::led):=fun p hp=>Yk _ (h p hp)
theorem D4.nil{led:aa}:D4 [] led:=fun p hp=>by cases hp
variable{N:aa}
def D6(vv:YA)(w:YH)(B:u6)(N:aa)(n:Nat):List AV->aa->l3->Prop
 | [],M9,gs=>∀A,w0 A n->∀led,D4 N led->∀s Z,t8 B s Z (M9++led) ->
   pw (YG vv w) A (fun e s'=>K2 e/\∃Z',t8 B s' Z' led/\y8 (aj (M9++led)) s Z s' Z' (aj led)) gs s
 |row::rest,M9,gs=>∀A,w0 A n->∀led,D4 N led->∀s Z,t8 B s Z (M9++led) ->
   pw (YG vv w) A (fun e s'=>e.quiet=true/\∃v Z' J6,e.result=.yielded v/\t8 B s' Z' (J6++led)/\Val Z' row v/\y8 (aj (M9++led)) s Z s' Z' (aj (J6++led))/\D6 vv w B N n rest J6 e.genState) gs s
def pE(vv:YA)(w:YH)(B:u6)(N:aa)(n:Nat)(rows:List AV)(led:aa)(B8:R0)(B7:Yo)(Z0:u6)(e:End)(s':Yo):Prop :=
 match rows with
 | []=>K2 e/\∃Z',t8 B s' Z' led/\y8 B8 B7 Z0 s' Z' (aj led)
 |row::rest=>e.quiet=true/\∃v Z' J6,e.result=.yielded v/\t8 B s' Z' (J6++led)/\Val Z' row v/\y8 B8 B7 Z0 s' Z' (aj (J6++led))/\D6 vv w B N n rest J6 e.genState
theorem D6.iff{rows:List AV}{M9:aa}{gs:l3}:D6 vv w B N n rows M9 gs↔∀A,w0 A n->∀led,D4 N led->∀s Z,t8 B s Z (M9++led)->pw (YG vv w) A (pE vv w B N n rows led (aj (M9++led)) s Z) gs s:=by
 cases rows <;> rfl
def kd(vv:YA)(w:YH)(B:u6)(N:aa)(n:Nat)(s9:Env)(c:Code)(t:Sem Fin)(fs:List Frame)(rows:List AV)(st:St):Prop :=
 ∀A,w0 A n->∀led,D4 N led->∀B8 B7 Z0 s Z,w5 B s9 s Z ⟨st.loc,st.led++led⟩->y8 B8 B7 Z0 s Z (aD s9 ⟨st.loc,st.led++led⟩)->bb (YG vv w) A (pE vv w B N n rows led B8 B7 Z0) c t fs s
structure Sk (n m:Nat) (c:Code) (fs:List Frame):Prop where
 room:∀A,w0 A n->w0 (A.over c fs) m
 split:splitAtGen fs=none
 quiet:fs.any Frame.guarded=false
inductive H3:u7->Flow->Prop
 |next:H3 .next .next
 |brk:H3 .brk .brk
 |cont:H3 .cont .cont
 |ret:H3 (.ret .none) (.ret .none)
theorem H3.of{f:u7}{x:Flow}(p:match f with |.ret v=>v=.none |_=>True)(V:y0 Z f x):H3 f x:=by
 induction V with
 |next=>exact .next
 |brk=>exact .brk
 |cont=>exact .cont
 |ret hv =>
  dsimp only at p;subst p;exact(show _=_ from hv.inv)▸.ret
def TG(vv:YA)(w:YH)(B:u6)(N:aa)(n m:Nat)(s9:Env)(t:Sem Flow)(st:St)(rows:List AV)(K:u7->St->List AV->Prop):Prop :=
 ∀c fs (Kc:Flow->Sem Fin) H gd lv,Sk n m c fs->gd false=false->(∀f x t5 y2,K f t5 y2->H3 f x->kd vv w B N n s9 c (Kc x) fs y2 t5)->kd vv w B N n s9 c (t.wrap Kc H gd lv) fs rows st
variable{n m:Nat}{rows:List AV}{K:u7->St->List AV->Prop}
theorem Vq{t:Sem Flow}(h:∀A,w0 A m->∀led,D4 N led->T vv w A B s9 y0 t ⟨st.loc,st.led++led⟩ fun f t5=>∃l,t5.led=l++led/\(match f with |.ret v=>v=.none |_=>True)/\K f ⟨t5.loc,l⟩ rows):TG vv w B N n m s9 t st rows K :=
 fun c fs Kc H gd lv hs hg hK A hA led hN B8 B7 Z0 s Z S X=>ef (h _ (hs.room A hA) led hN s Z S _ _ fun f x s' Z' t5 k S' V X'=>by
  obtain⟨w6,led'⟩:=t5;refine aZ k ?_;clear k;intro l e p k;dsimp only at e k;subst e;refine hK f x ⟨w6,l⟩ rows k ?_ A hA led hN B8 B7 Z0 s' Z' S' (X.trans X');exact .of p V)
theorem TG.spare{t:Sem Flow}{led:aa}(x:Str)(hk:s9.kindOf x=some .local)(h:TG vv w B N n m s9 t ⟨loc++[(x,.any)],led⟩ rows K):TG vv w B N n m s9 t ⟨loc,led⟩ rows K :=
 fun c fs Kc H gd lv hs hg hK A hA led' hN B8 B7 Z0 s Z S X=>h c fs Kc H gd lv hs hg hK A hA led' hN B8 B7 Z0 s Z (S.spare x hk) X
theorem TG.spares{t:Sem Flow}{led:aa}(xs:List Str)(hk:(xs.all fun x=>decide (s9.kindOf x=some .local))=true)(h:TG vv w B N n m s9 t ⟨loc++xs.map fun x=>(x,.any),led⟩ rows K):TG vv w B N n m s9 t ⟨loc,led⟩ rows K:=by
 induction xs generalizing loc with
 |nil=>rw[k5,Zv] at h;exact h
 |cons x xs ih =>
  rw[List.all_cons,Zy] at hk;exact TG.spare x (of_decide_eq_true hk.1) (ih hk.2 (by rw[YN];exact h))
theorem cP(h:K .next st rows):TG vv w B N n m s9 (execs [] s9) st rows K:=fun c fs Kc H gd lv hs hg hK=>hK .next .next st rows h .next
def AQ(vv:YA)(w:YH)(B:u6)(N:aa)(n m:Nat)(s9:Env)(rest:List Stmt)(K:u7->St->List AV->Prop)(f:u7)(t5:St)(y2:List AV):Prop :=
 match f with
 |.next=>TG vv w B N n m s9 (execs rest s9) t5 y2 K
 |f=>K f t5 y2
theorem dY{x:Stmt}{rest:List Stmt}(h:TG vv w B N n m s9 (exec x s9) st rows (AQ vv w B N n m s9 rest K)) :
  TG vv w B N n m s9 (execs (x::rest) s9) st rows K:=fun c fs Kc H gd lv hs hg hK=>by
 rw[execs_cons_wrap];refine h c fs _ H gd lv hs hg fun f y t5 y2 k p=>?_;induction p with
 |next=>exact k c fs Kc H gd lv hs hg hK
 |brk=>exact hK _ _ t5 y2 k .brk
 |cont=>exact hK _ _ t5 y2 k .cont
 |ret=>exact hK _ _ t5 y2 k .ret
theorem Vs{B1:Expr}{B3:List Stmt}
  (h:∀A,w0 A m->∀led,D4 N led->T vv w A B s9 aM (isTrue B1 s9 (ZI B1 s9)) ⟨st.loc,st.led++led⟩ fun b t5=>∃l,t5.led=l++led /\
   if b then TG vv w B N n m s9 (execs body s9) ⟨t5.loc,l⟩ rows K else TG vv w B N n m s9 (execs B3 s9) ⟨t5.loc,l⟩ rows K) :
  TG vv w B N n m s9 (exec (.If B1 body B3 pos) s9) st rows K:=fun c fs Kc H gd lv hs hg hK A hA led hN B8 B7 Z0 s Z S X=>by
 rw[show exec (.If B1 body B3 pos) s9=(standAt pos>>=fun O=>isTrue B1 s9 (ZI B1 s9)>>=fun b=>if b=true then execs body s9 else execs B3 s9) from rfl];refine je ?_;show bb _ A _ c ((isTrue B1 s9 (ZI B1 s9)>>=fun b=>if b=true then execs body s9 else execs B3 s9).wrap Kc H gd lv) fs s;rw[Zz,ZW];refine ef (h _ (hs.room A hA) led hN s Z S _ _ fun b x s' Z' t5 k S' V X'=>?_);obtain⟨w6,led'⟩:=t5;refine ae k ?_;clear k;intro l e k;dsimp only at e k;subst e;unfold aM at V;subst V;cases x with
 |true=>exact k c fs Kc H gd lv hs hg hK A hA led hN B8 B7 Z0 s' Z' S' (X.trans X')
 |false=>exact k c fs Kc H gd lv hs hg hK A hA led hN B8 B7 Z0 s' Z' S' (X.trans X')
theorem Vr{e:Expr}{L8:Pos}
  (h:∀A,w0 A m->∀led,D4 N led->T vv w A B s9 Val (ZI e s9) ⟨st.loc,st.led++led⟩ fun v t5=>∃l rest,rows=v::rest/\t5.led=l++led/\K .next ⟨t5.loc,l⟩ rest)
  (J0:s9.scope.isCoroutine=false) (hi:interactive s9=false):TG vv w B N n m s9 (exec (.Expr (.Yield (some e) L8) pos) s9) st rows K:=fun c fs Kc H gd lv hs hg hK A hA led hN B8 B7 Z0 s Z S X=>by
 rw[exec_Expr s9 _ pos hi rfl];have hy:∀v,yieldOut s9 v=yieldValue v:=fun v=>by simp only[yieldOut,J0,Za,if_false]
 show bb _ A _ c (.at pos fun O=>((ZI e s9>>=fun v=>(standAt L8>>=fun O=>yieldOut s9 v))>>=fun x=>dropValue (.Yield (some e) L8) pos x).wrap Kc H gd lv) fs s;simp only[hy];refine je ?_;rw[Zz,Zz,ZW,ZW];refine ef (h _ (hs.room A hA) led hN s Z S _ _ fun v x s' Z' t5 k S' V X'=>?_);obtain⟨w6,led'⟩:=t5;refine bw k ?_;clear k;intro l rest N2 W' k;dsimp only at W' k;subst N2;subst W';refine je (AR hs.split fun p=>?_);refine⟨by simp[End.quiet,hg,hs.quiet],x,Z',(s9.locals,.ns w6)::l,rfl,S'.toL,V,?_,?_⟩
 ·have:=X.trans X';rw[dI] at this;exact this
 ·rw[D6.iff];intro A' u9 led' A8 s' Z' D7;have SF:w5 B s9 s' Z' ⟨w6,l++led'⟩:=t8.toF (st:=⟨w6,l++led'⟩) D7 S'.kinds S'.fn;refine hK .next .next ⟨w6,l⟩ rest k .next A' u9 led' A8 _ s' Z' s' Z' SF ?_;rw[dI];exact .refl
def u8(vv:YA)(w:YH)(B:u6)(N:aa)(n:Nat)(t0:Expr)(it:YV):List AV->aa->Prop
 | [],gl=>∀A,w0 A n->∀led,D4 N led->∀s Z,t8 B s Z (gl++led)->∀(Q:Option Value->Yo->Prop) (E:Value->Yo->Prop),(∀s' Z',t8 B s' Z' led->y8 (aj (gl++led)) s Z s' Z' (aj led)->Q none s') ->
   YJ (YG vv w) A (e9 (.ref it)) Q E s
 |x::xs,gl=>∀A,w0 A n->∀led,D4 N led->∀s Z,t8 B s Z (gl++led)->∀(Q:Option Value->Yo->Prop) (E:Value->Yo->Prop),
   (∀s' Z' v gl',t8 B s' Z' (gl'++led)->Val Z' x v->y8 (aj (gl++led)) s Z s' Z' (aj (gl'++led))->u8 vv w B N n t0 it xs gl'->Q (some v) s') ->
   YJ (YG vv w) A (e9 (.ref it)) (fun r s₁=>match r with |none=>False |some v=>YJ (YG vv w) A (Zt t0 (.ref it) v) (fun O s2=>Q (some v) s2) E s₁) E s
theorem u8.last{gl led:aa}{f:Option Value->Sem α}{Q:α->Yo->Prop}(hI:u8 vv w B N n t0 it [] gl)(hA:w0 A n)(hN:D4 N led)(S:t8 B s Z (gl++led))
  (h:∀s' Z',t8 B s' Z' led->y8 (aj (gl++led)) s Z s' Z' (aj led)->YJ (YG vv w) A (f none) Q E s'):YJ (YG vv w) A (e9 (.ref it)>>=f) Q E s:=Yh (hI A hA led hN s Z S _ _ h)
theorem u8.draw{x:AV}{gl led:aa}{f:Option Value->Sem α}{g:Value->Sem α}{Q:α->Yo->Prop}(hI:u8 vv w B N n t0 it (x::xs) gl)(hA:w0 A n)(hN:D4 N led)(S:t8 B s Z (gl++led))
  (hf:∀v,f (some v)=Zt t0 (.ref it) v>>=fun O=>g v) (h:∀s' Z' v gl',t8 B s' Z' (gl'++led)->Val Z' x v->y8 (aj (gl++led)) s Z s' Z' (aj (gl'++led))->u8 vv w B N n t0 it xs gl'->YJ (YG vv w) A (g v) Q E s') :
  YJ (YG vv w) A (e9 (.ref it)>>=f) Q E s :=
 Yh (Zk (hI A hA led hN s Z S (fun r s₁=>match r with |none=>False |some v=>YJ (YG vv w) A (g v) Q E s₁) E h) (fun r s₁ k=>by
  cases r with
  |none=>exact k.elim
  |some v=>rw[hf];exact Yh k) fun O O h=>h)
end
section
variable{N:aa}
theorem t8.perm{l l':aa}(S:t8 B s Z l)(p:l.Perm l'):t8 B s Z l' where
 base:=S.base
 frozen:=S.frozen
 nodup:=(p.map _).nodup_iff.mp S.nodup
 apart:=fun q hq=>S.apart q (p.mem_iff.mpr hq)
 own:=fun q hq=>S.own q (p.mem_iff.mpr hq)
 gnodup:=(p.filterMap _).nodup_iff.mp S.gnodup
 bare:=S.bare
theorem er{l l':aa}(p:l.Perm l'):aj l=aj l':=by
 unfold aj;congr 1
 ·funext a;exact propext (p.map _).mem_iff
 ·funext a;exact propext (p.filterMap _).mem_iff
theorem t8.drop:∀ {l l':aa},t8 B s Z (l++l')->t8 B s Z l'
 | [],_,S=>S
 |_::l,_,S=>t8.drop (l:=l) S.drop1
theorem y8.less{o o' o'':R0}{s':Yo}{Z':u6}(X:y8 o s Z s' Z' o')(h1:∀a,o''.at_ a->o'.at_ a)(h2:∀a,o''.gn a->o'.gn a):y8 o s Z s' Z' o'' :=
 ⟨X.le,X.kept,fun a h=>X.grow a (h1 a h),X.zgrow,X.os,X.gkept,fun g h=>X.ggrow g (h2 g h)⟩
theorem mJ{g:Nat}{gs x:l3}(h:s.gens[g]?=some gs):(s.setGen g x).gens[g]?=some x:=setGen_self h
theorem mI{g:Nat}{x:l3}(h:k≠g):(s.setGen g x).gens[k]?=s.gens[k]?:=by
 show (s.gens.setIfInBounds g x)[k]?=_;rw[Array.getElem?_setIfInBounds];simp[Ne.symm h]
theorem OO{g:Nat}{x y:l3}(h:y∈(s.setGen g x).gens):y=x∨y∈s.gens:=by
 refine aq (Array.mem_iff_getElem?.mp h) fun i hi=>?_;by_cases e:i=g
 ·subst e;by_cases hb:i<s.gens.size
  ·have:=mJ (x:=x) (ZU hb);rw[this] at hi;exact .inl (d8 hi).symm
  ·rw[show (s.setGen i x).gens[i]?=none from by
    show (s.gens.setIfInBounds i x)[i]?=none;rw[Array.getElem?_eq_none_iff,Array.size_setIfInBounds];omega] at hi
   cases hi
 ·rw[mI e] at hi;exact .inr (Array.mem_iff_getElem?.mpr ⟨i,hi⟩)
theorem t8.setGen{l:aa}{g:Nat}{x:l3}(S:t8 B s Z l)(hg:g∉gkeys l)(hx:x.bare=true):t8 B (s.setGen g x) Z l where
 base:=S.base
 frozen:=S.frozen
 nodup:=S.nodup
 apart:=S.apart
 own:=fun p hp=>Holds.mono (s:=s) (s':=s.setGen g x) (.refl _) (fun O e=>e) (x:=S.own p hp) fun k gs e h=>by
  rw[mI]
  ·exact h
  ·intro q;subst q;exact hg (OQ hp e)
 gnodup:=S.gnodup
 bare:=fun y hy=>by
  rcases OO hy with rfl |h
  ·exact hx
  ·exact S.bare y h
theorem K2.elim{P:End->Prop}{e:End}(h:K2 e)(a:P (.ret (.ok (.ret .none))))(b:P (.ret (.ok .next))):P e:=Or.elim h (fun h=>h▸a) fun h=>h▸b
theorem y8.unrun{own G6 o2 W4:R0}{s₁ s2:Yo}{Z':u6}{g:Nat}{x y:l3}(X:y8 own (s.setGen g y) Z s₁ Z' G6)(hh:∀b o,s₁.heap.get? b=some o->s2.heap.get? b=some o)(M3:s2.os=s₁.os)(hg:s2.gens=(s₁.setGen g x).gens)
  (ha:∀b,own.at_ b->o2.at_ b) (hn:∀k,own.gn k->o2.gn k) (M7:o2.gn g) (h3:∀b,W4.at_ b->o2.at_ b∨G6.at_ b) (h3n:∀k,W4.gn k->k≠g->G6.gn k):y8 o2 s Z s2 Z' W4 where
 le:=X.le
 kept:=fun b o e hb=>hh b o (X.kept b o e fun q=>hb (ha b q))
 grow:=fun b hb=>(h3 b hb).elim .inl fun q=>(X.grow b q).imp_left (ha b)
 zgrow:=fun b o e=>(X.zgrow b o e).imp_right (Or.imp_left (ha b))
 os:=M3.trans X.os
 gkept:=fun k gs e hk =>
  have Á:k≠g:=fun q=>hk (q▸M7);hg▸(mI Á).trans (X.gkept k gs ((mI Á).trans e) fun q=>hk (hn k q))
 ggrow:=fun k hk=>if Á:k=g then .inl (Á▸M7) else (X.ggrow k (h3n k hk Á)).imp (hn k) (mI Á).symm.trans
theorem t8.consGen{l:aa}{g:Nat}{gs:l3}(S:t8 B s Z l)(Â:s.heap.IsGen a g)(R9:s.gens[g]?=some gs)(Ε:a∉keys l)(M7:g∉gkeys l)(hZ:Z a=none):t8 B s Z ((a,.gen g gs)::l) where
 base:=S.base
 frozen:=S.frozen
 nodup:=YC.mpr ⟨Ε,S.nodup⟩
 apart:=fun p hp=>(Yp.mp hp).elim (fun e=>e▸hZ) (S.apart p)
 own:=fun p hp=>(Yp.mp hp).elim (fun e=>e▸⟨Â,R9⟩) (S.own p)
 gnodup:=YC.mpr ⟨M7,S.gnodup⟩
 bare:=S.bare
theorem t8.more{s':Yo}{l:aa}(S:t8 B s Z l)(hk:∀b o,s.heap.get? b=some o->s'.heap.get? b=some o)(hg:s'.gens=s.gens):t8 B s' Z l where
 base:=S.base
 frozen:=fun b o e=>hk b o (S.frozen b o e)
 nodup:=S.nodup
 apart:=S.apart
 own:=fun p hp=>Holds.mono (s:=s) (.refl _) (fun o e=>hk _ o e) (fun O O O e=>hg▸e) (S.own p hp)
 gnodup:=S.gnodup
 bare:=hg▸S.bare
section
variable(hG:A7 B)
include hG
theorem u8.gen_last{g:Nat}{gs:l3}{gl:aa}(h:D6 vv w B N n [] gl gs):u8 vv w B N (n+1) t0 a [] ((a,.gen g gs)::gl):=fun A hA led hN s Z S Q E hQ =>
 have M7:g∉gkeys (gl++led):=(YC.mp S.gnodup).1;aL (S.own _ (Yi ..)) fun Â R9 =>
 zF hA.h (hG.lim s fun a o e=>S.frozen a o (S.base a o e)) hA.lt Â R9 (h A.in1 hA.in1 led hN _ Z (S.drop1.setGen M7 rfl)) (fun e s₁ he=>he.1.elim (P:=fun e=>e.quiet=true) rfl rfl) (fun e s₁ v he=>he.1.elim (P:=fun e=>e.result=.yielded v->_) nofun nofun) fun e s₁ he => .inr ⟨he.1,fun h' hk =>
  ae he.2 fun Z' S' X=>hQ _ Z' (t8.more (t8.setGen (x:=.finished) S' (fun q=>M7 (by unfold gkeys;rw[i9];exact YQ _ q)) rfl) hk rfl)
   (X.unrun (x:=.finished) hk rfl rfl (fun b=>Yk _) (fun k=>Yk _) (Yi ..) (fun b => .inr) fun k q O=>q)⟩
theorem u8.gen_draw(ht:∀led s Z v g gs gl,t8 B s Z ((a,.gen g gs)::gl++led)->∀A (Q:Unit->Yo->Prop) E,Q () s->YJ (YG vv w) A (Zt t0 (.ref a) v) Q E s){row:AV}{rest:List AV}
  (ih:∀ {g:Nat} {gs:l3} {gl:aa},D6 vv w B N n rest gl gs->u8 vv w B N (n+1) t0 a rest ((a,.gen g gs)::gl)) {g:Nat} {gs:l3} {gl:aa} (h:D6 vv w B N n (row::rest) gl gs):u8 vv w B N (n+1) t0 a (row::rest) ((a,.gen g gs)::gl):=fun A hA led hN s Z S Q E hQ=>by
 have M7:g∉gkeys (gl++led):=(YC.mp S.gnodup).1;have Ε:a∉keys (gl++led):=(YC.mp S.nodup).1;have hZ:=S.apart _ (Yi ..);refine aL (S.own _ (Yi ..)) fun Â R9=>?_;refine zF hA.h (hG.lim s fun a o e=>S.frozen a o (S.base a o e)) hA.lt Â R9 (h A.in1 hA.in1 led hN _ Z (S.drop1.setGen M7 rfl)) (fun e s₁ he=>he.1) (fun e s₁ v he hv=>?_) fun e s₁ he => .inl (kj he.2 fun v O O e O=>⟨v,e⟩);refine pG he.2 fun v' Z' gl' Y9 S' V X hs=>?_;cases GenResult.yielded.inj (Y9.symm.trans hv)
 refine kj Â fun o nm qn ho r=>?_;have hno:∀ {P:Prop},s.heap.get? a=none->P:=fun q=>nomatch q.symm.trans ho;have S2:=(S'.setGen (x:=e.genState) (fun q=>(X.ggrow g q).elim M7 fun q=>nomatch q.symm.trans (mJ R9)) (End.bare_of_quiet he.1)).consGen (a:=a) (gs:=e.genState) (Wz o nm qn (X.kept a o ho Ε) r) (mJ (X.gkept g _ (mJ R9) M7)) (fun q=>(X.grow a q).elim Ε hno) (fun q=>(X.ggrow g q).elim M7 fun q=>nomatch q.symm.trans (mJ R9))
  (Option.eq_none_iff_forall_ne_some.mpr fun o e=>(X.zgrow a o e).elim (fun q=>nomatch hZ.symm.trans q) fun q=>q.elim Ε hno)
 exact ht led _ Z' v g e.genState gl' S2 A _ _ (hQ _ Z' v ((a,.gen g e.genState)::gl') S2 V (X.unrun (x:=e.genState) (fun O O e=>e) rfl rfl (fun b=>Yk _) (fun k=>Yk _) (Yi ..)
  (fun b hb=>(Yp.mp hb).imp (fun e:b=a=>e▸Yi ..) id) fun k hk q=>(Yp.mp hk).resolve_left q) (ih hs))
end
theorem u8.gen(hG:A7 B)(ht:∀led s Z v g gs gl,t8 B s Z ((a,.gen g gs)::gl++led)->∀A (Q:Unit->Yo->Prop) E,Q () s->YJ (YG vv w) A (Zt t0 (.ref a) v) Q E s){rows:List AV} :
  ∀ {g:Nat} {gs:l3} {gl:aa},D6 vv w B N n rows gl gs->u8 vv w B N (n+1) t0 a rows ((a,.gen g gs)::gl):=by
 induction rows with
 |nil=>exact fun h=>u8.gen_last hG h
 |cons row rest ih=>exact fun h=>u8.gen_draw hG ht ih h
end
section
variable{N:aa}
def yl(I:YV)(fp:List YV)(Pv:Nat->Value->Prop)(xs:List AV)(St:Nat->Heap->Prop)(i:Nat)(Z:u6)(o:Obj):Prop :=
 (∀b∈fp,b=I∨∃o,Z b=some o)/\(∀i x v,xs[i]?=some x->Pv i v->Val Z x v)/\(∀h:Heap,h.get? I=some o->(∀a o,Z a=some o->h.get? a=some o)->St i h)
theorem Qr{I:YV}{fp:List YV}{Pv:Nat->Value->Prop}{St:Nat->Heap->Prop}(Z Z':u6)(o:Obj)(k:u6.le Z Z')(x:yl I fp Pv xs St i Z o):yl I fp Pv xs St i Z' o :=
 ⟨fun b hb=>(x.1 b hb).imp id fun⟨o,h⟩=>⟨o,k _ _ h⟩,fun i y v h1 h2=>(x.2.1 i y v h1 h2).mono k,fun h h1 h2=>x.2.2 h h1 fun a o e=>h2 a o (k a o e)⟩
noncomputable abbrev fH(I:YV)(fp:List YV)(Pv:Nat->Value->Prop)(xs:List AV)(St:Nat->Heap->Prop)(i:Nat):y1:=.obj (yl I fp Pv xs St i) Qr
theorem u8.walks{I:YV}{fp:List YV}{Pv:Nat->Value->Prop}{St:Nat->Heap->Prop}
  (hW:∀A:Yz,A.handled=none->Walks vv w A I fp [I] xs.length Pv St)
  (hlet:∀(A:Yz) i (s:Yo) v Q E,St i s.heap->Q () s->YJ (YG vv w) A (Zt t0 (.ref I) v) Q E s) (ê:∀i h,St i h->∃o,h.get? I=some o) (k:Nat) :
  ∀(d i:Nat),i+d=xs.length->u8 vv w B N k t0 I (xs.drop i) [(I,fH I fp Pv xs St i)]:=by
 intro d;induction d with
 |zero =>
  intro i hi;have hi:i=xs.length:=hi;subst hi;rw[List.drop_length];intro A hA led hN s Z S Q E hQ;refine iT (S.own _ (Yi ..)) fun o ho h1 h2 h3=>?_;refine(hW A hA.h).toS.done s _ _ (h3 _ ho S.frozen) fun s' mv=>?_;have P:=t8.stepE (gl:=[(I,fH I fp Pv xs St xs.length)]) S mv.heap mv.gens mv.os;exact hQ s' Z P.1 P.2
 |succ d ih =>
  intro i hi;have C5:i<xs.length:=hi▸s6 (Nat.succ_pos d);rw[ZT C5];intro A hA led hN s Z S Q E hQ;refine iT (S.own _ (Yi ..)) fun o ho h1 h2 h3=>?_;have W:=(hW A hA.h).toS;refine W.item i s _ _ C5 (h3 _ ho S.frozen) fun v s' hP t5 mv=>hlet A (i+1) s' v _ _ t5 ?_;refine aq (ê _ _ t5) fun o' I'=>?_;have fro:∀a o,Z a=some o->s'.heap.get? a=some o:=fun a o e=>mv.heap a o (fun q=>nomatch (S.zkey (gT.mpr (.inl q)):Z a=none).symm.trans e) (S.frozen a o e);have b_:∀h:Heap,h.get? I=some o'->(∀a o,Z a=some o->h.get? a=some o)->St (i+1) h:=fun h e1 e2=>W.frame (i+1) s' h s'.toks t5 (YR _) fun b hb ob e =>
   (h1 b hb).elim (fun q=>by subst q;exact e1.trans (I'.symm.trans e)) fun q=>aq q fun oz q=>(e2 _ _ q).trans ((fro _ _ q).symm.trans e)
  have P:=t8.stepS (gl:=[(I,fH I fp Pv xs St i)]) (gl':=[(I,fH I fp Pv xs St (i+1))]) S mv.heap (fun p hp=>YB.mp hp▸WA o' I' h1 h2 b_) rfl rfl mv.gens mv.os;exact hQ s' Z v [(I,fH I fp Pv xs St (i+1))] P.1 (h2 i _ v (YL C5) hP) P.2 (ih (i+1) ((o4 i d).trans hi))
theorem t8.push{led:aa}(S:t8 B s Z led){o:Obj}{ao:y1}(M7:ao.gnum=none)(tk:Nat)(hh:Holds Z {s with heap:=s.heap.push o,toks:=tk} s.heap.objs.size ao) :
  t8 B {s with heap:=s.heap.push o,toks:=tk} Z ((s.heap.objs.size,ao)::led)/\y8 (aj led) s Z {s with heap:=s.heap.push o,toks:=tk} Z (aj ((s.heap.objs.size,ao)::led)) :=
 S.newAt M7 tk (fun O O e=>Yt o e) hh
theorem Ei{I ax:YV}{v:Value}{Q:Unit->Yo->Prop}(h:s.heap.IsListIter I ax i)(hQ:Q () s) :
  YJ (YG vv w) A (Zt t0 (.ref I) v) Q E s :=
 aZ h fun o ho hc hd=>yi ho hc hd (.inl rfl) hQ
theorem EZ{items:List Value}(fr:∀a o,Z a=some o->s.heap.get? a=some o)(e:Z a=some {cls:=.type "list",data:=.seq items.toArray n}):s.heap.IsList a items.toArray :=
 ⟨_,fr _ _ e,rfl,n,rfl⟩
theorem eJ(h:∀it gl,u8 vv w B N k t0 it xs gl->K (.ref it) ⟨st.loc,gl++st.led⟩):F1 vv w A B s9 Val pyIter (.lst xs) st K:=fun s Z x V S Q E hQ=>by
 refine bv (iH V) fun a items n qv e hv=>?_;subst qv;have hl:=EZ S.frozen e;refine wpAny_pyIter_list hl ?_;have C8:a≠s.heap.objs.size:=ZE (Zj (S.frozen _ _ e));have y4:items.toArray.size=xs.length:=by simp[hv.length]
 have hI:Heap.IsListIter (s.heap.push {cls:=.type "list_iterator",data:=.fields #[.ref a,.int 0 0]}) s.heap.objs.size a 0:=⟨_,Ys _ rfl,rfl,rfl⟩;have P:=S.tot8.push (o:={ cls:=.type "list_iterator",data:=.fields #[.ref a,.int 0 0]}) (ao:=fH s.heap.objs.size [s.heap.objs.size,a] (fun i v=>items.toArray[i]?=some v) xs (fun i h=>h.IsListIter s.heap.objs.size a i/\h.IsList a items.toArray) 0) rfl s.toks
  ⟨_,Ys _ rfl,fun b hb=>by
   simp only[Yp,ZY,or_false] at hb;rcases hb with rfl |rfl
   ·exact .inl rfl
   ·exact .inr ⟨_,e⟩,fun i y v h1 h2=>by
   refine ae (hv.get h1) fun u e1 e2=>?_;simp only[List.getElem?_toArray] at h2;rw[e1] at h2;cases h2
   exact e2,fun h e1 e2=>⟨⟨_,e1,rfl,rfl⟩,_,e2 _ _ e,rfl,n,rfl⟩⟩
 refine hQ _ _ _ Z _ (h s.heap.objs.size _ (u8.walks (vv:=vv) (w:=w) (B:=B) (t0:=t0) (xs:=xs) (fun A hA=>by exact(y4)▸Walks.list hA s.heap.objs.size a C8 items.toArray) (fun A i s v Q E E2 hq=>Ei E2.1 hq) (fun i h E2=>by refine ae E2.1 fun o ho O=>?_;exact⟨o,ho⟩) k xs.length 0 ⋯)) (S.after P.1 P.2) (.ref _) P.2.toF
end
section
variable{N:aa}
theorem w5.perm{l l':aa}(S:w5 B s9 s Z ⟨loc,l⟩)(p:l.Perm l'):w5 B s9 s Z ⟨loc,l'⟩ :=
 ⟨S.tot8.perm p,S.locZ,fun h=>S.locL ((p.map _).mem_iff.mpr h),S.loc,S.kinds,S.fn⟩
theorem eT{l l':aa}(p:l.Perm l'):aD s9 ⟨loc,l⟩=aD s9 ⟨w6,l'⟩:=by
 unfold aD;congr 1
 ·funext a;exact propext ⟨Or.imp id (p.map _).mem_iff.mp,Or.imp id (p.map _).mem_iff.mpr⟩
 ·funext a;exact propext (p.filterMap _).mem_iff
theorem T.perm{rel:u6->α->β->Prop}{t:Sem β}{l l':aa}{K:α->St->Prop}(p:l.Perm l')(h:T vv w A B s9 rel t ⟨loc,l'⟩ K):T vv w A B s9 rel t ⟨loc,l⟩ K :=
 fun s Z S Q E hQ=>h s Z (S.perm p) Q E fun v x s' Z' t5 k S' V X=>hQ v x s' Z' t5 k S' V (by rw[eT (s9:=s9) (loc:=loc) (w6:=loc) p];exact X)
theorem w5.drop{l l':aa}(S:w5 B s9 s Z ⟨loc,l++l'⟩):w5 B s9 s Z ⟨loc,l'⟩ :=
 ⟨S.tot8.drop,S.locZ,fun h=>S.locL (by rw[keys,YK];exact YQ _ h),S.loc,S.kinds,S.fn⟩
theorem y8.dropF{o:R0}{s':Yo}{Z':u6}{l l':aa}(X:y8 o s Z s' Z' (aD s9 ⟨loc,l++l'⟩)):y8 o s Z s' Z' (aD s9 ⟨w6,l'⟩) :=
 X.less (fun a h=>h.imp id fun h=>by rw[keys,YK];exact YQ _ h) fun a h=>by
  show a∈gkeys (l++l');unfold gkeys;rw[i9];exact YQ _ h
theorem ta{x:AV}{gl l:aa}(h:u8 vv w B N k t0 it (x::xs) gl)(hA:w0 A k)(hN:D4 N l)(S:w5 B s9 s Z ⟨loc,l++gl⟩)
  {Q:Option Value->Yo->Prop} 
  (hQ:∀s' Z' v gl',w5 B s9 s' Z' ⟨loc,l++gl'⟩->Val Z' x v->y8 (aD s9 ⟨loc,l++gl⟩) s Z s' Z' (aD s9 ⟨loc,l++gl'⟩)->u8 vv w B N k t0 it xs gl'->Q (some v) s') :
  YJ (YG vv w) A (e9 (.ref it)) (fun r s₁=>match r with |none=>False |some v=>YJ (YG vv w) A (Zt t0 (.ref it) v) (fun O s2=>Q (some v) s2) E s₁) E s :=
 h A hA l hN s Z (S.tot8.perm Yx) Q E fun s' Z' v gl' S' V X hi=>by
  have D7:=S'.perm (Yx (l₁:=gl') (l₂:=l));have X':y8 (aj (l++gl)) s Z s' Z' (aj (l++gl')):=by
   rw[er (Yx (l₁:=l) (l₂:=gl)),er (Yx (l₁:=l) (l₂:=gl'))];exact X
  exact hQ s' Z' v gl' (S.after D7 X') V X'.toF hi
theorem tc{gl l:aa}(h:u8 vv w B N k t0 it [] gl)(hA:w0 A k)(hN:D4 N l)(S:w5 B s9 s Z ⟨loc,l++gl⟩)
  {Q:Option Value->Yo->Prop} 
  (hQ:∀s' Z',w5 B s9 s' Z' ⟨loc,l⟩->y8 (aD s9 ⟨loc,l++gl⟩) s Z s' Z' (aD s9 ⟨loc,l⟩)->Q none s'):YJ (YG vv w) A (e9 (.ref it)) Q E s :=
 h A hA l hN s Z (S.tot8.perm Yx) Q E fun s' Z' S' X=>by
  have X':y8 (aj (l++gl)) s Z s' Z' (aj l):=by
   rw[er (Yx (l₁:=l) (l₂:=gl))];exact X
  exact hQ s' Z' (S.after S' X') X'.toF
theorem TW{R:Result->Yo->Prop}{t0 it body s9}(I:Nat->Yo->Prop)
  (turn:∀n s,I n s->YJ (YG vv w) A (e9 it) (fun r s₁=>match r with
   |none=>R (.ok .next) s₁
   |some v=>YJ (YG vv w) A (Zt t0 it v) (fun O s₁=>YJ (YG vv w) A (ZQ t0 s9 v) (fun O s2=>YJ (YG vv w) A (execs body s9) (fun f w7=>match f with
     |.next |.cont=>∃m,m<n/\I m w7
     |.brk=>R (.ok .next) w7
     |.ret v=>R (.ok (.ret v)) w7) (notedBy (YG vv w) A s9 fun e s'=>R (.error e) s') s2) (notedBy (YG vv w) A s9 fun e s'=>R (.error e) s') s₁) (notedBy (YG vv w) A s9 fun e s'=>R (.error e) s') s₁)
    (notedBy (YG vv w) A s9 fun e s'=>R (.error e) s') s)
  (n:Nat) (h:I n s):codeAny (YG vv w) A (.forLoop t0 it body [] s9) R s:=by
 refine codeAny_loop' rfl I (fun n s hI=>?_) n h;show YJ _ _ ((forTurn t0 it body [] s9).onRaise (fun x=>do noteFrame x s9;theTreesLotGoes x)) _ _ s;refine wpAny_noted ?_;simp only[forTurn];refine Yh (YU (Yh (wpAny_onRaise (Zk (turn n s hI) (fun r s₁ h1=>?_) fun O O h'=>YU h'))));cases r with
 |none=>exact Yj (.inr ⟨rfl,codeAny_block (wpAny_execs_nil h1)⟩)
 |some v =>
  refine Yh (Zk h1 (fun O s₁ h1=>?_) fun O O h'=>h');refine Yh (Zk h1 (fun O s2 h2=>Yh (Zk h2 (fun f w7 M1=>?_) fun O O h'=>h')) fun O O h'=>h');cases f with
  |next=>exact Yj (.inl ⟨rfl,M1⟩)
  |cont=>exact Yj (.inl ⟨rfl,M1⟩)
  |brk=>exact Yj M1
  |ret v=>exact Yj M1
inductive J7 (J:List AV->St->Prop) (K:u7->St->Prop) (xs:List AV) (gl:aa):u7->St->Prop
 |next {loc:List (Str×AV)} {l:aa} (h:J xs ⟨loc,l⟩):J7 J K xs gl .next ⟨loc,l++gl⟩
 |cont {loc:List (Str×AV)} {l:aa} (h:J xs ⟨loc,l⟩):J7 J K xs gl .cont ⟨loc,l++gl⟩
 |brk {loc:List (Str×AV)} {l:aa} (h:K .next ⟨loc,l⟩):J7 J K xs gl .brk ⟨loc,l++gl⟩
 |ret {v:AV} {loc:List (Str×AV)} {l:aa} (h:K (.ret v) ⟨loc,l⟩):J7 J K xs gl (.ret v) ⟨loc,l++gl⟩
theorem J7.nextE{J:List AV->St->Prop}{K:u7->St->Prop}{gl l led:aa}(e:led=l++gl)(h:J xs ⟨loc,l⟩):J7 J K xs gl .next ⟨loc,led⟩:=e▸.next h
inductive Æ (vv:YA) (w:YH) (B:u6) (N:aa) (k:Nat) (t0:Expr) (J:List AV->St->Prop):AV->St->Prop
 |mk {it:YV} {gl l:aa} {items:List AV} {loc:List (Str×AV)} (hI:u8 vv w B N k t0 it items gl) (hJ:J items ⟨loc,l⟩):Æ vv w B N k t0 J (.ref it) ⟨loc,gl++l⟩
def GQ(vv:YA)(w:YH)(B:u6)(s9:Env)(N:aa)(k:Nat)(t0:Expr)(it:YV)(J:List AV->St->Prop)(st:St)(s:Yo)(Z:u6)(n:Nat)(s':Yo):Prop :=
 ∃Z' w6 l' gl' xs,n=xs.length/\w5 B s9 s' Z' ⟨w6,l'++gl'⟩/\u8 vv w B N k t0 it xs gl'/\J xs ⟨w6,l'⟩/\y8 (aD s9 st) s Z s' Z' (aD s9 ⟨w6,l'++gl'⟩)
theorem w5.front{l gl:aa}(S:w5 B s9 s Z ⟨loc,l++gl⟩):w5 B s9 s Z ⟨loc,l⟩:=(S.perm Yx).drop
theorem y8.front{o:R0}{s':Yo}{Z':u6}{l gl:aa}(X:y8 o s Z s' Z' (aD s9 ⟨loc,l++gl⟩)):y8 o s Z s' Z' (aD s9 ⟨loc,l⟩) :=
 y8.dropF (loc:=loc) (l:=gl) (eT (s9:=s9) (loc:=loc) (w6:=loc) (Yx (l₁:=l) (l₂:=gl))▸X)
theorem Vi{J:List AV->St->Prop}{K:u7->St->Prop}(hA:w0 A k)
  (C3:T vv w A B s9 Val (ZI iter s9) st fun v y6=>F1 vv w A B s9 Val pyIter v y6 (Æ vv w B N k t0 J))
  (step:∀x xs t5 gl,J (x::xs) t5->F1 vv w A B s9 aV (ZQ t0 s9) x ⟨t5.loc,t5.led++gl⟩ fun O D1=>T vv w A B s9 y0 (execs body s9) D1 (J7 J K xs gl))
  (hN:∀items t5,J items t5->D4 N t5.led) (done:∀t5,J [] t5->K .next t5) (hs:∀x,j8 iter s9 x=b9 x) :
  T vv w A B s9 y0 (exec (.For t0 iter body [] pos) s9) st K:=fun s Z S Q E hQ=>by
 refine wpAny_For (C3 s Z S _ _ fun v x s₁ Z1 y6 k₁ S1 V1 X1=>k₁ s₁ Z1 x V1 S1 _ _ fun u y s2 Z2 A5 k2 S2 V2 X2=>Æ.rec (motive:=fun u A5 O=>w5 B s9 s2 Z2 A5->Val Z2 u y->y8 (aD s9 st) s Z s2 Z2 (aD s9 A5)->_) (fun{it gl l items D8} hit hJ S2 V2 X0=>?_) k2 S2 V2 (X1.trans X2)) hs;have ey:y=.ref it:=V2.inv;subst ey;clear V2 k2 k₁ V1 S1 X1 X2;refine TW (GQ vv w B s9 N k t0 it J st s Z) ?_ items.length ⟨Z2,D8,l,gl,items,rfl,S2.perm Yx,hit,hJ,eT (s9:=s9) (loc:=D8) (w6:=D8) (Yx (l₁:=gl) (l₂:=l))▸X0⟩;clear X0 S2 hit hJ;intro n s' Y3;refine XU Y3 fun Z' w6 l' gl' xs e S' H7 J_ X'=>?_;clear Y3;subst e;cases xs with
 |nil=>exact tc H7 hA (hN _ _ J_) S' fun w7 Z3 S3 X3=>hQ .next .next w7 Z3 _ (done _ J_) S3 .next (X'.trans X3)
 |cons x xs =>
  refine Zk (ta H7 hA (hN _ _ J_) S' (Q:=fun r s₁=>match r with
   |none=>False
   |some v=>YJ (YG vv w) A (ZQ t0 s9 v) (fun O s2=>YJ (YG vv w) A (execs body s9) (fun f w7=>match f with
     |.next |.cont=>∃m,m<(x::xs).length/\GQ vv w B s9 N k t0 it J st s Z m w7
     |.brk=>Q .next w7
     |.ret v=>Q (.ret v) w7) (notedBy (YG vv w) A s9 fun e s'=>cameBackBy (YG vv w) A s9 E e s') s2) (notedBy (YG vv w) A s9 fun e s'=>cameBackBy (YG vv w) A s9 E e s') s₁)
   fun w7 Z3 v gl3 S3 V3 X3 M6=>step x xs ⟨w6,l'⟩ gl3 J_ w7 Z3 v V3 S3 _ _ fun O O s4 Z4 F4 M0 S4 O X4=>M0 s4 Z4 S4 _ _ fun f y s5 Z5 U2 E6 S5 V5 X5=>?_) (fun r s₁ h1=>?_) fun O O h=>h
  ·have X6:=((X'.trans X3).trans X4).trans X5;clear M0 S4 X4 X5 X3 S3 V3 X' S' H7 J_ step C3 done;induction V5 with
   |next=>cases E6 with |next k=>exact⟨xs.length,g4 _,Z5,_,_,gl3,xs,rfl,S5,M6,k,X6⟩
   |cont=>cases E6 with |cont k=>exact⟨xs.length,g4 _,Z5,_,_,gl3,xs,rfl,S5,M6,k,X6⟩
   |brk=>cases E6 with |brk k=>exact hQ .next .next s5 Z5 _ k S5.front .next X6.front
   |ret hv=>cases E6 with |ret k=>exact hQ _ _ s5 Z5 _ k S5.front (.ret hv) X6.front
  ·cases r with
   |none=>exact h1.elim
   |some v=>exact h1
end
section
variable{N:aa}{n m:Nat}
theorem Sk.push{c c':Code}{fs:List Frame}{k:Result->Sem PySem.Fin}{l:List Value}{p:Pos}(h:Sk n m c fs)(h1:c'.weight=0)(h2:c'.cUnits=0):Sk n m c' (.ret k none false l c p []::fs) where
 room:=fun A hA=>by
  have R:=h.room A hA;refine⟨?_,?_,?_⟩
  ·show (marksOver (.ret k none false l c p []::fs) (A.handled,A.handled)).1=none
   have:=R.h;simpa[Around.over,marksOver,Frame.marks,markOver] using this
  ·have:=R.d;simp only[Around.over,Yu,Frame.where_,frameCount_cons,h1] at this ⊢;omega
  ·have:=R.u;simp only[Around.over,Yu,Frame.where_,unitsOf_cons,h2] at this ⊢;omega
 split:=by simp only[splitAtGen,h.split,Option.map_none]
 quiet:=by simp only[List.any_cons,Frame.guarded,h.quiet,Bool.or_false]
noncomputable def tG(t0:Expr)(it:Value)(body:List Stmt)(s9:Env)(v:Value):Sem PySem.Fin :=
 ZQ t0 s9 v>>=fun O=>execs body s9>>=fun f=>match f with
  |.next |.cont => .pure (.again (.forLoop t0 it body [] s9))
  |.brk => .pure (.done .next)
  |.ret v => .pure (.done (.ret v))
noncomputable def sI(t0:Expr)(it:Value)(body:List Stmt)(s9:Env)(r:Option Value):Sem PySem.Fin :=
 match r with
 |none => .pure (.again (.block [] s9))
 |some v=>Zt t0 it v>>=fun O=>tG t0 it body s9 v
theorem Se{it:Value}:forTurn t0 it body [] s9=(standAt t0.pos>>=fun O=>((e9 it).onRaise (fun O=>standAt {t0.pos with line:=0}))>>=sI t0 it body s9):=by
 unfold forTurn sI tG;congr 1
theorem FD{it:Value}:∃H,(YG vv w).den (.forLoop t0 it body [] s9) =
  .at t0.pos fun O=>(e9 it).wrap (fun r=>(sI t0 it body s9 r).wrap .pure (fun e=>(do noteFrame e s9;theTreesLotGoes e:Sem Unit).bind fun O => .raise e) id id) H id id:=by
 apply Exists.intro
 ·show (forTurn t0 it body [] s9).onRaise (fun x=>do noteFrame x s9;theTreesLotGoes x)=_;rw[Se,k7];show Sem.at t0.pos (fun O=>Sem.wrap _ _ _ _ (((e9 it).onRaise (fun O=>standAt {t0.pos with line:=0}))>>=sI t0 it body s9))=_;rw[Zz,k7,ZW,ZW];rfl
inductive N0 (J:List AV->St->List AV->Prop) (K:u7->St->List AV->Prop) (xs:List AV) (gl:aa):u7->St->List AV->Prop
 |next {loc:List (Str×AV)} {l:aa} {rows:List AV} (h:J xs ⟨loc,l⟩ rows):N0 J K xs gl .next ⟨loc,l++gl⟩ rows
 |cont {loc:List (Str×AV)} {l:aa} {rows:List AV} (h:J xs ⟨loc,l⟩ rows):N0 J K xs gl .cont ⟨loc,l++gl⟩ rows
 |brk {loc:List (Str×AV)} {l:aa} {rows:List AV} (h:K .next ⟨loc,l⟩ rows):N0 J K xs gl .brk ⟨loc,l++gl⟩ rows
 |ret {v:AV} {loc:List (Str×AV)} {l:aa} {rows:List AV} (h:K (.ret v) ⟨loc,l⟩ rows):N0 J K xs gl (.ret v) ⟨loc,l++gl⟩ rows
inductive B_ (vv:YA) (w:YH) (B:u6) (N:aa) (n m:Nat) (s9:Env) (t0:Expr) (v:AV) (body:List Stmt) (gl:aa) (K:u7->St->List AV->Prop) (st:St) (rows:List AV):Prop
 |mk {loc:List (Str×AV)} (h:∀A,w0 A m->∀led,D4 N led->F1 vv w A B s9 aV (ZQ t0 s9) v ⟨st.loc,(st.led++gl)++led⟩ fun O s=>s=⟨loc,(st.led++gl)++led⟩) (k:TG vv w B N n m s9 (execs body s9) ⟨loc,st.led++gl⟩ rows K):B_ vv w B N n m s9 t0 v body gl K st rows
theorem JZ{K:u7->St->List AV->Prop}{J:List AV->St->List AV->Prop}(hk:k<=m)
  (step:∀x xs t5 y2 gl,J (x::xs) t5 y2->B_ vv w B N n m s9 t0 x body gl (N0 J K xs gl) t5 y2)
  (done:∀t5 y2,J [] t5 y2->K .next t5 y2) {fs:List Frame} (hs:Sk n m (.forLoop t0 (.ref it) body [] s9) fs) (hb:Sk n m (.block [] s9) fs)
  (hK:∀f x t5 y2,K f t5 y2->H3 f x->∀c,kd vv w B N n s9 c (.pure (.done x)) fs y2 t5) :
  ∀(xs:List AV) (st:St) (rows:List AV) (gl:aa),u8 vv w B N k t0 it xs gl->J xs st rows ->
   kd vv w B N n s9 (.forLoop t0 (.ref it) body [] s9) ((YG vv w).den (.forLoop t0 (.ref it) body [] s9)) fs rows ⟨st.loc,st.led++gl⟩:=by
 intro xs;induction xs with
 |nil =>
  intro st rows gl hit hJ A hA led hN B8 B7 Z0 s Z S X;refine aq (FD (vv:=vv) (w:=w) (s9:=s9) (t0:=t0) (it:=.ref it) (body:=body)) fun H hH=>?_;rw[hH];refine je ?_;have Sp:w5 B s9 s Z ⟨st.loc,(st.led++led)++gl⟩:=S.perm (by
   simp only[YN];exact n7 _ Yx)
  refine ef (tc hit ((hs.room A hA).mono hk) (hN.app _) Sp fun w7 Z3 S3 X3=>?_);show bb _ A _ _ (.pure (.again (.block [] s9))) fs w7;refine mK rfl ?_;show bb _ A _ _ (.pure (.done .next)) fs w7;refine hK .next .next st rows (done st rows hJ) .next _ A hA led hN B8 B7 Z0 w7 Z3 S3 (X.trans ?_);exact(Eq.symm (eT (s9:=s9) (loc:=st.loc) (w6:=st.loc) (l:=(st.led++gl)++led) (l':=(st.led++led)++gl) (by
   simp only[YN];exact n7 _ Yx)))▸X3
 |cons x xs ih =>
  intro st rows gl hit hJ A hA led hN B8 B7 Z0 s Z S X;refine aq (FD (vv:=vv) (w:=w) (s9:=s9) (t0:=t0) (it:=.ref it) (body:=body)) fun H hH=>?_;rw[hH];refine je ?_;have P:((st.led++gl)++led).Perm ((st.led++led)++gl):=by
   simp only[YN];exact n7 _ Yx
  have Sp:w5 B s9 s Z ⟨st.loc,(st.led++led)++gl⟩:=S.perm P;rw[eT (s9:=s9) (loc:=st.loc) (w6:=st.loc) P] at X;refine ef (Zk (ta hit ((hs.room A hA).mono hk) (hN.app _) Sp (Q:=fun r s₁=>match r with
   |none=>False
   |some v=>bb (YG vv w) A (pE vv w B N n rows led B8 B7 Z0) (.forLoop t0 (.ref it) body [] s9) ((tG t0 (.ref it) body s9 v).wrap .pure (fun e=>(do noteFrame e s9;theTreesLotGoes e:Sem Unit).bind fun O => .raise e) id id) fs s₁)
   (E:=fun O O=>False) fun w7 Z3 v gl3 S3 V3 X3 M6=>?_) (fun r s₁ h1=>?_) fun O O h=>h.elim)
  ·dsimp only;unfold tG;rw[Zz,ZW];have P3:((st.led++led)++gl3).Perm ((st.led++gl3)++led):=by
    simp only[YN];exact n7 _ Yx
   have X':=X.trans X3;rw[eT (s9:=s9) (loc:=st.loc) (w6:=st.loc) P3] at X';refine B_.rec (fun{loc4} h k=>?_) (step x xs st rows gl3 hJ);refine ef (h _ (hs.room A hA) led hN w7 Z3 v V3 (S3.perm P3) _ _ fun O O s4 Z4 F4 e S4 O X4=>?_);subst e;rw[Zz,ZW];refine k _ fs _ _ _ _ hs rfl (fun f y U2 K8 E6 p=>?_) A hA led hN B8 B7 Z0 s4 Z4 S4 (X'.trans X4);clear k h S4 X4 X' S3 V3 X3 X Sp P P3 S hJ step;have w_:∀ {F5 l₅},J xs ⟨F5,l₅⟩ K8->kd vv w B N n s9 (.forLoop t0 (.ref it) body [] s9) (.pure (.again (.forLoop t0 (.ref it) body [] s9))) fs K8 ⟨F5,l₅++gl3⟩:=fun J_ A' u9 led' A8 G6 s' Z' G5 E8 D7 L4 =>
    mK rfl (ih ⟨_,_⟩ K8 gl3 M6 J_ A' u9 led' A8 G6 s' Z' G5 E8 D7 L4)
   have Þ:∀ {F5 l₅ f' x'},K f' ⟨F5,l₅⟩ K8->H3 f' x'->kd vv w B N n s9 (.forLoop t0 (.ref it) body [] s9) (.pure (.done x')) fs K8 ⟨F5,l₅++gl3⟩:=fun{F5 l₅ f' x'} ï p' A' u9 led' A8 G6 s' Z' G5 E8 D7 L4=>by
    have P5:((l₅++gl3)++led').Perm (gl3++(l₅++led')):=by
     have:((l₅++gl3)++led').Perm ((gl3++l₅)++led'):=List.Perm.append_right _ Yx;rwa [YN gl3] at this
    refine hK f' x' ⟨F5,l₅⟩ K8 ï p' _ A' u9 led' A8 G6 s' Z' G5 E8 ((D7.perm P5).drop) (y8.dropF (loc:=F5) (l:=gl3) ?_);exact(eT (s9:=s9) (loc:=F5) (w6:=F5) P5)▸L4
   induction p with
   |next=>cases E6 with |next k=>exact w_ k
   |cont=>cases E6 with |cont k=>exact w_ k
   |brk=>cases E6 with |brk k=>exact Þ (f':=.next) k .next
   |ret=>cases E6 with |ret k=>exact Þ (f':=.ret .none) k .ret
  ·cases r with
   |none=>exact h1.elim
   |some v =>
    show bb _ A _ _ (Sem.wrap _ _ _ _ (Zt t0 (.ref it) v>>=_)) fs s₁;rw[Zz,ZW];exact ef (Zk h1 (fun O s2 h2=>h2) fun O O h=>h.elim)
end
section
variable{N:aa}{n m:Nat}
inductive C' (vv:YA) (w:YH) (B:u6) (N:aa) (k:Nat) (t0:Expr) (led:aa) (J:List AV->St->List AV->Prop) (rows:List AV):AV->St->Prop
 |mk {it:YV} {gl l:aa} {items:List AV} {loc:List (Str×AV)} (hI:u8 vv w B N k t0 it items gl) (hJ:J items ⟨loc,l⟩ rows):C' vv w B N k t0 led J rows (.ref it) ⟨loc,gl++(l++led)⟩
theorem Vt{rows:List AV}{J:List AV->St->List AV->Prop}{K:u7->St->List AV->Prop}(hk:k<=m)
  (C3:∀A,w0 A m->∀led,D4 N led->T vv w A B s9 Val (ZI iter s9) ⟨st.loc,st.led++led⟩ fun v y6=>F1 vv w A B s9 Val pyIter v y6 (C' vv w B N k t0 led J rows))
  (step:∀x xs t5 y2 gl,J (x::xs) t5 y2->B_ vv w B N n m s9 t0 x body gl (N0 J K xs gl) t5 y2)
  (done:∀t5 y2,J [] t5 y2->K .next t5 y2) (hs:∀x,j8 iter s9 x=b9 x) :
  TG vv w B N n m s9 (exec (.For t0 iter body [] pos) s9) st rows K:=fun c fs Kc H gd lv hsk hg hK A hA led hN B8 B7 Z0 s Z S X=>by
 rw[exec_For];refine je ?_;show bb _ A _ c ((ZI iter s9>>=fun x=>j8 iter s9 x>>=fun x=>standAt iter.pos>>=fun O=>m6 [x] (pyIter x)>>=fun it=>runOwn (.forLoop t0 it body [] s9) s9).wrap Kc H gd lv) fs s;rw[Zz,ZW];refine ef (C3 _ (hsk.room A hA) led hN s Z S _ _ fun v x s₁ Z1 y6 k₁ S1 V1 X1=>?_);rw[hs x];refine je ?_;show bb _ A _ c ((m6 [x] (pyIter x)>>=fun it=>runOwn (.forLoop t0 it body [] s9) s9).wrap Kc H gd lv) fs s₁;rw[Zz,ZW];refine ef (Yw (k₁ s₁ Z1 x V1 S1 _ _ fun u y s2 Z2 A5 k2 S2 V2 X2=>C'.rec (motive:=fun u A5 O=>w5 B s9 s2 Z2 A5->Val Z2 u y->y8 (aD s9 ⟨st.loc,st.led++led⟩) s Z s2 Z2 (aD s9 A5)->_) (fun{it gl l items D8} hit hJ S2 V2 K_=>?_) k2 S2 V2 (X1.trans X2)));have ey:y=.ref it:=V2.inv;subst ey;refine Kd fun p=>?_;have Ę:gd false=false:=hg;rw[Ę];have Q8:=hsk.push (c':=.forLoop t0 (.ref it) body [] s9) (k:=(fun r=>((match r with |.ok f=>(.pure f:Sem Flow) |.error e => .raise e).onRaise fun(x:Value)=>do
    if (← field x 1)==ZC then unsupported "frame.own-activation:exception-without-traceback"
    setFlight x s9.frame).wrap Kc H gd lv)) (l:=lv []) (p:=p) rfl rfl
 have U5:=hsk.push (c':=.block [] s9) (k:=(fun r=>((match r with |.ok f=>(.pure f:Sem Flow) |.error e => .raise e).onRaise fun(x:Value)=>do
    if (← field x 1)==ZC then unsupported "frame.own-activation:exception-without-traceback"
    setFlight x s9.frame).wrap Kc H gd lv)) (l:=lv []) (p:=p) rfl rfl
 have P:(gl++(l++led)).Perm ((l++gl)++led):=by
  rw[← YN];exact List.Perm.append_right _ Yx
 have X':=X.trans K_;rw[eT (s9:=s9) (loc:=D8) (w6:=D8) P] at X';refine JZ (K:=K) (J:=J) hk step done Q8 U5 (fun f x t5 y2 k' p' c' A' u9 led' A8 G6 s' Z' G5 E8 D7 L4=>?_) items ⟨D8,l⟩ rows gl hit hJ A hA led hN B8 B7 Z0 s2 Z2 (S2.perm P) X';refine Kb (.ok x) ?_;exact hK f x t5 y2 k' p' A' u9 led' A8 G6 s' Z' G5 E8 D7 L4
theorem Sk.func:Sk (m+3) m (.func body s9) [] where
 room:=fun A hA=>⟨hA.h,by
  have:=hA.d;show A.depth+0+1+m<=_;omega,by
  have:=hA.u;show A.units+0+3+m<=_;omega⟩
 split:=rfl
 quiet:=rfl
theorem D6.fresh{l:aa}{rows:List AV}(hk:∀x v,loc.lookup x=some v->s9.kindOf x=some .local)(hf:s9.scope.kind=.function)
  (h:TG vv w B N (m+3) m s9 (execs body s9) ⟨loc,l⟩ rows fun f st y2=>y2=[]):D6 vv w B N (m+3) rows ((s9.locals,.ns loc)::l) (.fresh (.func body s9)):=by
 rw[D6.iff];intro A hA led hN s Z S;show bb _ A _ _ (.point [] fun O=>((execs body s9).onRaise (leaving s9))>>=_) [] s;refine Ka ?_;have SF:w5 B s9 s Z ⟨loc,l++led⟩:=t8.toF (st:=⟨loc,l++led⟩) S hk hf;rw[k7,Zz,ZW];refine h _ [] _ _ _ _ Sk.func rfl (fun f x t5 y2 k p A' u9 led' A8 G6 s' Z' G5 E8 D7 L4=>?_) A hA led hN _ s Z s Z SF (by rw[dI];exact .refl);subst k;have fin:bb (YG vv w) A' (pE vv w B N (m+3) [] led' G6 s' Z') (.func body s9) (.pure (.done (.ret .none))) [] G5:=by
  refine AS (.ok (.ret .none)) ⟨.inl rfl,E8,(D7.tot8).drop (l:=t5.led),?_⟩;refine L4.less (fun a h => .inr ?_) fun a h=>?_
  ·show a∈keys (t5.led++led');rw[keys,YK];exact YQ _ h
  ·show a∈gkeys (t5.led++led');unfold gkeys;rw[i9];exact YQ _ h
 induction p with
 |next=>exact fin
 |brk=>exact fin
 |cont=>exact fin
 |ret=>exact fin
theorem VQ{f:YV}{o:Obj}{fd:m3}{led:aa}{K:AV->aa->Prop}{c:YV}{oc:Obj}{vs:Array Value}{tq:Tok}
  (hG:A7 B) (ho:B f=some o) (hd:o.data=.func fd) (J0:fd.scope.isCoroutine=false) (S8:fd.scope.isGenerator=true) (hk:fd.scope.kind=.function) (F8:fd.body=.stmts body)
  (C4:∀x∈fd.scope.names,x.2 ≠ .cell)
  (hc:fd.code=.ref c) (R7:B c=some oc) (J4:oc.data=.fields vs) (hq:vs[1]?=some (.str fd.qualname tq)) (B9:A.depth<b0)
  (hb:Binds vv w A.in1 B fd args kw binds) (E3:∀x∈binds.map (·.1),fd.scope.names.lookup x=some .local)
  (h:∀L a g,K (.ref a) ((a,.gen g (.fresh (.func body (dS fd.scope L fd.globals fd.closure fd.qualname f fd.code fd.builtins))))::(L,.ns binds.reverse)::led)) :
  TC vv w A B (.ref f) args kw led K:=fun s Z fx xs ks S hf hx P9 R hR=>by
 cases hf
 refine codeAny_call_generator B9 (S.frozen _ _ (S.base _ _ ho)) hd J0 S8 F8 ⟨c,oc,vs,tq,hc,S.frozen _ _ (S.base _ _ R7),J4,hq⟩ ?_;refine hb s Z led xs ks S hx P9 _ _ fun bs s₁ Z1 S1 U9 X1=>?_;have hR:=hR.after X1;clear X1 S;revert s₁ Z1;intro s Z S U9 hR;refine wpAny_newFunctionEnv (around:=none) C4 (fun x hx=>E3 x.1 (U9.keys▸YF hx)) (fun h1 H4 Q7=>?_) hk;have keep:∀b o,s.heap.get? b=some o->h1.get? b=some o:=fun b o e=>Q7.extBut b o (ZE (Zj e)) (Yt _ e);refine⟨hG.lim _ fun a o e=>keep a o (S.frozen a o (S.base a o e)),?_⟩;have hf:=gz s;have hf1:=gz {s with heap:=h1};have C8:h1.objs.size≠s.heap.objs.size:=kj H4 fun ob O O g O=>Nat.ne_of_gt (Zj g);generalize L1:({cls:=.type "generator",data:=.fields #[.int s.gens.size 0,.str fd.name (s.toks+bs.length),.str fd.qualname (s.toks+bs.length+1)]}:Obj)=go;have J3:∀b o,s.heap.get? b=some o->(h1.push go).get? b=some o:=fun b o e=>Yt go (keep b o e);have η:(h1.push go).get? h1.objs.size=some go:=Ys _ (by subst L1;rfl);have Q2:s.gens[s.gens.size]?=none:=Array.getElem?_eq_none (YR _);have hfb:=yO (s:=s) (s₁:={ s with heap:=h1}) keep hf1;have ñ:s.gens.size∉gkeys led:=fun q=>by
  refine ae (List.mem_filterMap.mp q) fun p hp e=>?_
  have:=S.own p hp;obtain⟨a,ob⟩:=p;cases ob with
  |gen g gs=>exact nomatch Q2.symm.trans (show s.gens[s.gens.size]?=some gs from(d8 e:g=s.gens.size)▸this.2)
  |_=>exact nomatch e
 have Q4:∀g (gs x:l3),s.gens[g]?=some gs->(s.gens.push x)[g]?=some gs:=fun g gs x e=>by
  rw[Array.getElem?_push,if_neg (aq (Array.getElem?_eq_some_iff.mp e) fun C5 O=>ZE C5)];exact e
 refine hR (.ref h1.objs.size) _ _ Z _ (h s.heap.objs.size h1.objs.size s.gens.size) (t8.cons (t8.cons (S.keep J3 (fun g gs e=>Q4 g gs _ e) fun x hx=>(Array.mem_push.mp hx).elim (S.bare x) fun e=>e▸rfl) (S.lfree hf) (S.zfree hf)
   (I7.mono (.refl _) (fun o e=>Yt go e) ⟨_,H4,fun y=>U9.reverse.lookup y⟩) S.gnodup) (fun q=>(Yp.mp q).elim C8 (S.lfree hfb)) (S.zfree hfb)
   ⟨⟨go,_,_,η,by subst L1;rfl,by subst L1;rfl,by subst L1;rfl⟩,(Array.getElem?_push ..).trans ((if_pos rfl).trans rfl)⟩ (YC.mpr ⟨ñ,S.gnodup⟩)) (.ref _)
  ⟨.refl _,fun a o e O=>J3 a o e,fun a ha=>(Yp.mp ha).elim (fun e => .inr (e▸hfb)) fun q=>(Yp.mp q).elim (fun e => .inr (e▸hf)) .inl,fun O O e => .inl e,rfl,fun g gs e O=>Q4 g gs _ e,
   fun g hg=>(Yp.mp (show g∈s.gens.size::gkeys led from hg)).elim (fun e => .inr (e▸Q2)) .inl⟩
theorem Qf{fd:m3}{L f c:YV}(E3:((binds.map (·.1)).all fun x=>decide (fd.scope.names.lookup x=some .local))=true) :
  ∀x v,binds.reverse.lookup x=some v->(bz fd L f c).kindOf x=some .local:=fun x v e=>of_decide_eq_true (YY.mp E3 x (DX e))
def E7(vv:YA)(w:YH)(B:u6)(N:aa)(n:Nat)(rows:List AV)(led:aa)(v:AV)(led':aa):Prop :=
 ∃a g gs gl,v=.ref a/\led'=((a,.gen g gs)::gl)++led/\D6 vv w B N n rows gl gs
theorem E7.elim{N:aa}{rows:List AV}{led:aa}{P:AV->aa->Prop}(k:∀a g gs gl,D6 vv w B N n rows gl gs->P (.ref a) (((a,.gen g gs)::gl)++led))(v:AV)(led':aa)(h:E7 vv w B N n rows led v led'):P v led' :=
 ed h fun a g gs gl e el hs=>e▸el▸k a g gs gl hs
theorem GD{K:Frag}{f c:YV}{fd:m3}{l0 led:aa}{rows:List AV}
  (hG:A7 (ap K)) (ok:cM K f true fd body c) (B9:A.depth<b0) (hb:Binds vv w A.in1 (ap K) fd args kw binds)
  (E3:((binds.map (·.1)).all fun x=>decide (fd.scope.names.lookup x=some .local))=true)
  (h:∀L,TG vv w (ap K) N (m+3) m (bz fd L f c) (execs body (bz fd L f c)) ⟨binds.reverse,l0⟩ rows fun O O y2=>y2=[]) :
  TC vv w A (ap K) (.ref f) args kw (l0++led) (E7 vv w (ap K) N (m+3) rows led):=by
 refine Hp ok fun O1 F8 hc Β hg θ O7 O8 h4=>?_;clear ok;obtain⟨o,ho,hd⟩:=O1;obtain⟨oc,vs,tq,R7,J4,hq⟩:=O7;obtain⟨h1,h2,h3⟩:=O8;refine VQ hG ho hd h1 h2 h3 F8 (fun x hx=>of_decide_eq_true (YY.mp h4 x hx)) hc R7 J4 hq B9 hb (fun x hx=>of_decide_eq_true (YY.mp E3 x hx)) fun L a g=>?_;exact(Eq.symm (Β))▸(Eq.symm (hg))▸(Eq.symm (θ))▸(Eq.symm (hc))▸iP a g _ ((L,.ns binds.reverse)::l0) rfl rfl (D6.fresh (s9:=bz fd L f c) (Qf E3) h3 (h L))
end
noncomputable def u6.add(Z:u6)(a:YV)(o:Obj):u6:=fun b=>if b=a then some o else Z b
theorem u6.add_at(Z:u6)(a:YV)(o:Obj):Z.add a o a=some o:=if_pos rfl
theorem u6.le_add{o:Obj}(h:Z a=none):u6.le Z (Z.add a o):=fun b ob e=>by
 unfold u6.add;by_cases q:b=a
 ·subst q;rw[h] at e;cases e
 ·rw[if_neg q];exact e
theorem u6.add_inv{b:YV}{o ob:Obj}(e:Z.add a o b=some ob):Z b=some ob∨(b=a/\o=ob):=by
 unfold u6.add at e;by_cases q:b=a
 ·rw[if_pos q] at e;exact .inr ⟨q,d8 e⟩
 ·rw[if_neg q] at e;exact .inl e
theorem t8.stepN{s':Yo}{gl gl' led:aa}{o:Obj}(S:t8 B s Z (gl++led))(keep:∀b o,b∉keys gl->s.heap.get? b=some o->s'.heap.get? b=some o)(ha:s.heap.get? a=none)(h':s'.heap.get? a=some o)
  (own:u6.le Z (Z.add a o)->∀p∈gl',Holds (Z.add a o) s' p.1 p.2) (hk:keys gl'=keys gl) (hg:gkeys gl'=gkeys gl) (S9:s'.gens=s.gens) (M3:s'.os=s.os) :
  u6.le Z (Z.add a o)/\t8 B s' (Z.add a o) (gl'++led)/\y8 (aj (gl++led)) s Z s' (Z.add a o) (aj (gl'++led)) :=
 have le:=u6.le_add (o:=o) (S.zfree ha)
 ⟨le,S.step le keep (fun b ob e=>(u6.add_inv e).elim .inl fun q => .inr (q.1▸q.2▸⟨ha,h'⟩)) (own le) (fun O h => .inl (hk▸h)) (hk▸(List.nodup_append.mp (YK▸S.nodup:(keys gl++keys led).Nodup)).1) (hg▸.refl _) S9 M3⟩
theorem t8.pushZ{led:aa}(S:t8 B s Z led){o:Obj}(m_:o.isFreed=false)(tk:Nat) :
  t8 B {s with heap:=s.heap.push o,toks:=tk} (Z.add s.heap.objs.size o) led/\y8 (aj led) s Z {s with heap:=s.heap.push o,toks:=tk} (Z.add s.heap.objs.size o) (aj led) :=
 t8.step (gl:=[]) (gl':=[]) S (u6.le_add S.zfresh) (fun O O O e=>Yt o e) (fun a ob e=>(u6.add_inv e).elim .inl fun q => .inr (q.1▸q.2▸⟨gz s,Ys _ m_⟩)) (fun O h=>absurd h ZY) (fun O h=>absurd h ZY) List.nodup_nil (.refl _) rfl rfl
theorem tN{x1:Nat}(h:T vv w A B s9 Vals (spliced (g6 pos (Zl elts s9))) st fun vs t5=>vs.length<=Zc/\K (.tup vs) t5) :
  T vv w A B s9 Val (ZI (.Tuple elts x1 pos) s9) st K:=fun s Z S Q E hQ=>by
 rw[arm_eval_Tuple];refine Yh (YU (Yh (h s Z S _ _ fun vs xs s' Z' t5 k S' V X=>?_)));refine wpAny_newTuple ?_ (by rw[V.length];exact k.1);have P:=S'.tot8.pushZ (o:={ cls:=.type "tuple",data:=.seq xs.toArray}) rfl s'.toks;exact hQ _ _ _ _ _ k.2 (S'.after P.1 P.2) (.tup (u6.add_at ..) (V.mono P.2.le)) (X.trans P.2.toF)
theorem fu(h:T vv w A B s9 Vals (spliced (g6 pos (Zl elts s9))) st fun vs t5=>vs.length<=Zc/\∀a,a∉keys t5.led->K (.ref a) ⟨t5.loc,(a,.list vs)::t5.led⟩) :
  T vv w A B s9 Val (ZI (.List elts pos) s9) st K:=fun s Z S Q E hQ=>by
 rw[arm_eval_List];refine Yh (YU (Yh (h s Z S _ _ fun vs xs s' Z' t5 k S' V X=>?_)));refine wpAny_newList ?_ (by rw[V.length];exact k.1);have P:=S'.tot8.push (o:={ cls:=.type "list",data:=.seq xs.toArray}) (ao:=.list vs) rfl s'.toks ⟨_,_,Ys _ rfl,V⟩;exact hQ _ _ _ _ _ (k.2 _ S'.tot8.lfresh) (S'.after P.1 P.2) (.ref _) (X.trans P.2.toF)
inductive w9 (led:aa):AV->List AV->Prop
 |own {a:YV} {xs:List AV}:(a,.list xs)∈led->w9 led (.ref a) xs
 |frz {xs:List AV}:w9 led (.lst xs) xs
theorem w9.get{led:aa}(h:w9 led v xs){x:Value}(V:Val Z v x)(S:t8 B s Z led):∃a items n,x=.ref a/\s.heap.get? a=some {cls:=.type "list",data:=.seq items n}/\Vals Z xs items.toList:=by
 induction h with
 |own h =>
  cases V
  refine bK (S.own _ h) fun items n g v=>?_;exact GO _ items n rfl g v
 |frz =>
  refine bv (iH V) fun O O O qv e h=>?_;subst qv;exact GO _ _ _ rfl (S.frozen _ _ e) (by simpa using h)
theorem bG{i:Int}{x:AV}(hl:w9 st.led v xs)(h0:0<=i)(h1:i<2^63)(hx:xs[i.toNat]?=some x)(h:K x st) :
  F2 vv w A B s9 Val getItem v (.int i) st K:=fun s Z x1 x2 V1 V2 S Q E hQ=>by
 refine bv (hl.get V1 S.tot8) fun a items n O4 g vs=>?_;subst O4;cases V2
 refine ae (vs.get hx) fun u e hu=>?_;exact wpAny_getItem_list ⟨_,g,rfl,n,rfl⟩ h0 h1 (by simpa using e) (hQ x u s Z st h S hu .refl)
theorem Xv{i:Int}{x:AV}(hl:w9 st.led v xs)(h0:i<0)(h1 : -(xs.length:Int)<=i)(h2:xs.length<2^62)(hx:xs[(i+xs.length).toNat]?=some x)(h:K x st) :
  F2 vv w A B s9 Val getItem v (.int i) st K:=fun s Z x1 x2 V1 V2 S Q E hQ=>by
 refine bv (hl.get V1 S.tot8) fun a items n O4 g vs=>?_;subst O4;cases V2
 have y4:items.size=xs.length:=vs.size;refine ae (vs.get hx) fun u e hu=>?_;exact wpAny_getItem_list_neg ⟨_,g,rfl,n,rfl⟩ h0 ⋯ ⋯ (by rw[y4];simpa using e) (hQ x u s Z st h S hu .refl)
theorem pB{K:Bool->St->Prop}(hl:w9 st.led v xs)(h1:xs.length<2^62)(h:K (!xs.isEmpty) st):F1 vv w A B s9 aM truthy v st K:=fun s Z x V S Q E hQ=>by
 refine bv (hl.get V S.tot8) fun a items n O4 g vs=>?_;subst O4;have y4:items.size=xs.length:=vs.size;have he:items.isEmpty=xs.isEmpty:=by
  cases xs with
  |nil=>simp only[YI] at y4;simp[Array.isEmpty,y4]
  |cons y ys=>simp only[Yq] at y4;simp[Array.isEmpty,y4]
 exact wpAny_truthy_list ⟨_,g,rfl,n,rfl⟩ ⋯ (hQ _ _ _ Z st h (S.toks _) (by rw[he];rfl) (.toks _))
section
variable{N:aa}
inductive Upd (a:YV) (o o':y1):aa->aa->Prop
 |here {l:aa}:Upd a o o' ((a,o)::l) ((a,o')::l)
 |there {p:YV×y1} {l l':aa}:Upd a o o' l l'->Upd a o o' (p::l) (p::l')
theorem Upd.mem{o o':y1}{l l':aa}(u:Upd a o o' l l'):(a,o)∈l:=by
 induction u with
 |here=>exact Yi ..
 |there _ ih=>exact Yk _ ih
theorem Upd.keys{o o':y1}{l l':aa}(u:Upd a o o' l l'):keys l'=keys l:=by
 induction u with
 |here=>rfl
 | @there p l l' _ ih=>show p.1::Internal.keys l'=p.1::Internal.keys l;rw[ih]
theorem Upd.gkeys{o o':y1}{l l':aa}(u:Upd a o o' l l')(h:o.gnum=none)(h':o'.gnum=none):gkeys l'=gkeys l:=by
 induction u with
 |here=>unfold Internal.gkeys;rw[ZK,ZK,h,h']
 | @there p l l' _ ih =>
  have ih:List.filterMap (fun p:YV×y1=>p.2.gnum) l'=List.filterMap (fun p:YV×y1=>p.2.gnum) l:=ih;unfold Internal.gkeys;rw[ZK,ZK,ih]
theorem Upd.out{o o':y1}{l l':aa}(u:Upd a o o' l l')(nd:(Internal.keys l).Nodup):∀p∈l',p=(a,o')∨(p∈l/\p.1≠a):=by
 induction u with
 | @here l =>
  intro p hp;rcases Yp.mp hp with rfl |hp
  ·exact .inl rfl
  ·exact .inr ⟨Yk _ hp,fun e=>(YC.mp nd).1 (by show a∈_;exact(e)▸YF (f:=fun x:YV×y1=>x.1) hp)⟩
 | @there q l l' u ih =>
  intro p hp;rcases Yp.mp hp with rfl |hp
  ·exact .inr ⟨Yi ..,fun e=>(YC.mp nd).1 (by show p.1∈_;exact(Eq.symm (e))▸YF (f:=fun x:YV×y1=>x.1) u.mem)⟩
  ·rcases ih (YC.mp nd).2 p hp with h |⟨h,h'⟩
   ·exact .inl h
   ·exact .inr ⟨Yk _ h,h'⟩
theorem t8.upd{led led':aa}{o o':y1}(U:Upd a o o' led led')(S:t8 B s Z led){h':Heap}{tk:Nat}(hs:∀b ob,b≠a->s.heap.get? b=some ob->h'.get? b=some ob)(g1:o.gnum=none)(g2:o'.gnum=none)
  (hh:Holds Z {s with heap:=h',toks:=tk} a o'):t8 B {s with heap:=h',toks:=tk} Z led'/\y8 (aj led) s Z {s with heap:=h',toks:=tk} Z (aj led'):=by
 have π:aj led'=aj led:=by unfold aj;rw[U.keys,U.gkeys g1 g2]
 have hZ:Z a=none:=S.apart _ U.mem;refine⟨⟨S.base,fun b ob e=>hs b ob (fun q=>by rw[q,hZ] at e;cases e) (S.frozen b ob e),by rw[U.keys];exact S.nodup,fun p hp=>?_,fun p hp=>?_,by rw[U.gkeys g1 g2];exact S.gnodup,S.bare⟩,?_⟩
 ·rcases U.out S.nodup p hp with rfl |⟨h,_⟩
  ·exact hZ
  ·exact S.apart p h
 ·rcases U.out S.nodup p hp with rfl |⟨h,C8⟩
  ·exact hh
  ·exact(S.own p h).mono (.refl _) (fun ob e=>hs _ ob C8 e) fun O O O e=>e
 ·rw[π];exact⟨.refl _,fun b ob e hb=>hs b ob (fun q=>hb (q▸YF U.mem)) e,fun b hb => .inl hb,fun O O e => .inl e,rfl,fun O O e O=>e,fun g hg => .inl hg⟩
theorem zh{T' Tx:String}(Z9:typeOf (.type T')=b9 (.type "type"))(H6:l4 (.type Tx) (.type T')=b9 true)(hv:gF B v st.led Tx)(h:K (.bool true) st) :
  FC vv w A B s9 (.blt "isinstance") [v,.typ T'] [] st K:=FC.b fun s Z S Q E hQ=>Vals.un <| fun O h1=>Vals.un <| Val.eTyp <| Vals.un0 <| call_isinstance (isinstance_true (Tx:=Tx) Z9 H6) ⟨(hv s Z _ h1 S.tot8).1,hQ _ _ s Z st h S (.bool true) .refl⟩
theorem mt(hl:w9 st.led v xs)(h1:xs.length<2^62)(h:K (.int xs.length) st):FC vv w A B s9 (.blt "len") [v] [] st K:=FC.b fun s Z S Q E hQ=>Vals.un <| fun O hv=>Vals.un0 <| by
 refine bv (hl.get hv S.tot8) fun a items n O4 g vs=>?_;subst O4;have y4:items.size=xs.length:=vs.size;refine Calls.call_len_list ⟨_,g,rfl,n,rfl⟩ ⋯ (hQ _ _ _ Z st h (S.toks _) ?_ (.toks _));rw[y4];exact .int _ _
theorem zl{led':aa}(hsz:xs.length<=Zc)(U:Upd a (.list xs) (.list (xs++[v])) st.led led')(h:K .none ⟨st.loc,led'⟩) :
  FC vv w A B s9 (.blt "list.append") [.ref a,v] [] st K:=FC.b fun s Z S Q E hQ=>Vals.un <| Val.eRef <| Vals.un fun u Q6=>Vals.un0 <| by
 refine bK (S.own _ U.mem) fun items n g vs=>?_;dsimp only at g;have y4:items.size=xs.length:=vs.size;refine call_meets F.slot_list_append (⟨_,g,rfl⟩) F.entry_list_append (F.args_list_append_2 _ _) (list_append a items n u (y4.symm▸hsz)) ⟨g,?_⟩;have G9:∃n',(s.heap.update a (Zi fun x=>x.push u)).get? a=some {cls:=.type "list",data:=.seq (items.push u) n' }:=⟨_,YZ (Zi fun x=>x.push u) g rfl⟩;refine aq G9 ?_;clear G9;intro n' G9;have P:=S.tot8.upd U (h':=s.heap.update a (Zi fun x=>x.push u)) (tk:=s.toks) (fun b ob hb e=>(YX ..).extBut b ob hb e) rfl rfl ⟨_,n',G9,by simpa using vs.append (.cons Q6 .nil)⟩;exact hQ _ _ _ Z _ h (S.after P.1 P.2) .none P.2.toF
def FA(vv:YA)(w:YH)(A:Yz)(B:u6)(s9:Env)(ts:List (Value->Sem Unit))(vs:List AV)(st:St)(K:Unit->St->Prop):Prop :=
 ∀(s:Yo) (Z:u6) (xs:List Value),Vals Z vs xs->w5 B s9 s Z st->∀(Q:Unit->Yo->Prop) (E:Value->Yo->Prop),
  HQ B s9 aV st K s Z Q->YJ (YG vv w) A (assignInOrder ts xs) Q E s
theorem zm{K:Unit->St->Prop}(h:K () st):FA vv w A B s9 [] [] st K:=fun s Z xs hx S Q E hQ=>by
 (have e_:=hx.inv;subst e_)
 exact Yj (hQ () () s Z st h S trivial .refl)
theorem Ha{t:Value->Sem Unit}{ts:List (Value->Sem Unit)}{vs:List AV}{K:Unit->St->Prop}(h:F1 vv w A B s9 aV t v st fun O t5=>FA vv w A B s9 ts vs t5 K):FA vv w A B s9 (t::ts) (v::vs) st K:=fun s Z xs hx S Q E hQ=>by
 cases hx with
 |cons hv hx =>
  show YJ _ A (m6 _ (t _)>>=fun O=>assignInOrder ts _) Q E s;exact Yh (Yw (h s Z _ hv S _ _ fun O O s' Z' t5 k S' O X=>k s' Z' _ (hx.mono X.le) S' Q E fun v x G5 E8 A3 k' D7 V' X'=>hQ v x G5 E8 A3 k' D7 V' (X.trans X')))
theorem bX{K:Unit->St->Prop}(h:F1 vv w A B s9 aV (m5 s9 x) v st K):F1 vv w A B s9 aV (ZQ (.Name x pos) s9) v st K:=fun s Z u V S Q E hQ =>
 wpAny_assign_Name (h s Z u V S Q E hQ)
theorem w5.ext1(S:w5 B s9 s Z st){h':Heap}(he:Heap.ExtBut s.heap.objs.size s.heap h'):w5 B s9 {s with heap:=h' } Z st/\y8 (aD s9 st) s Z {s with heap:=h' } Z (aD s9 st):=by
 have keep:∀b o,s.heap.get? b=some o->h'.get? b=some o:=fun b o e=>he b o (ZE (Zj e)) e;exact⟨⟨⟨S.base,fun a o e=>keep a o (S.frozen a o e),S.nodup,S.apart,fun p hp=>(S.own p hp).mono (.refl _) (fun o e=>keep _ o e) (fun O O O e=>e),S.gnodup,S.bare⟩,S.locZ,S.locL,I7.mono (.refl _) (fun o e=>keep _ o e) S.loc,S.kinds,S.fn⟩,
  ⟨.refl _,fun a o e O=>keep a o e,fun a h => .inl h,fun O O e => .inl e,rfl,fun O O e O=>e,fun O h => .inl h⟩⟩
theorem XT{x1:Nat}{vs:List AV}{K:Unit->St->Prop}(hh:A.handled=none)(hn:(ZZ elts s9).length=vs.length)(P7:(ZZ elts s9).findIdx? (·.1)=none)
  (h:FA vv w A B s9 ((ZZ elts s9).map (·.2)) vs st K):F1 vv w A B s9 aV (ZQ (.Tuple elts x1 pos) s9) (.tup vs) st K:=fun s Z u V S Q E hQ=>by
 refine bv (iF V) fun a items n qv e hv=>?_;subst qv;refine PySem.wpAny_assign_Tuple hh (items:=items.toArray) ⟨_,S.frozen _ _ e,rfl,n,rfl⟩ (by rw[hn];simp[hv.length]) P7 fun h' he=>?_;refine aL (S.ext1 he) fun S' X'=>?_;exact h _ Z _ (by simpa using hv) S' Q E fun v x G5 E8 A3 k' D7 V' L4=>hQ v x G5 E8 A3 k' D7 V' (X'.trans L4)
theorem PM{I ax:YV}{v:Value}{Q:Unit->Yo->Prop}(h:s.heap.IsTupleIter I ax i)(hQ:Q () s) :
  YJ (YG vv w) A (Zt t0 (.ref I) v) Q E s :=
 aZ h fun o ho hc hd=>yi ho hc hd (.inr (.inl rfl)) hQ
theorem XK(h:∀it gl,u8 vv w B N k t0 it xs gl->K (.ref it) ⟨st.loc,gl++st.led⟩):F1 vv w A B s9 Val pyIter (.tup xs) st K:=fun s Z x V S Q E hQ=>by
 refine bv (iF V) fun a items n qv e hv=>?_;subst qv;have hl:s.heap.IsTuple a items.toArray:=⟨_,S.frozen _ _ e,rfl,n,rfl⟩;refine wpAny_pyIter_tuple hl ?_;have C8:a≠s.heap.objs.size:=ZE (Zj (S.frozen _ _ e));have y4:items.toArray.size=xs.length:=by simp[hv.length]
 have P:=S.tot8.push (o:={ cls:=.type "tuple_iterator",data:=.fields #[.ref a,.int 0 0]}) (ao:=fH s.heap.objs.size [s.heap.objs.size,a] (fun i v=>items.toArray[i]?=some v) xs (fun i h=>h.IsTupleIter s.heap.objs.size a i/\h.IsTuple a items.toArray) 0) rfl s.toks
  ⟨_,Ys _ rfl,fun b hb=>by
   simp only[Yp,ZY,or_false] at hb;rcases hb with rfl |rfl
   ·exact .inl rfl
   ·exact .inr ⟨_,e⟩,fun i y v h1 h2=>by
   refine ae (hv.get h1) fun u e1 e2=>?_;simp only[List.getElem?_toArray] at h2;rw[e1] at h2;cases h2
   exact e2,fun h e1 e2=>⟨⟨_,e1,rfl,rfl⟩,_,e2 _ _ e,rfl,n,rfl⟩⟩
 refine hQ _ _ _ Z _ (h s.heap.objs.size _ (u8.walks (vv:=vv) (w:=w) (B:=B) (t0:=t0) (xs:=xs) (fun A hA=>by exact(y4)▸Walks.tuple hA s.heap.objs.size a C8 items.toArray) (fun A i s v Q E E2 hq=>PM E2.1 hq) (fun i h E2=>by refine ae E2.1 fun o ho O=>?_;exact⟨o,ho⟩) k xs.length 0 ⋯)) (S.after P.1 P.2) (.ref _) P.2.toF
end
section
variable{K:Frag}
theorem DY{o:Obj}{es:Array DictEntry}{ep:Nat}(hd:o.data=.dict es ep)(hk:StrKeys es):lookIn name o=some (nsFind es name):=by
 unfold lookIn nsFind findBy;rw[hd];dsimp only;have e:es.find? (fun e=>e.key.isStr name)=es.toList.find? (fun e=>e.key.isStr name):=by rw[Array.find?_toList]
 rw[e];cases q:es.toList.find? (fun e=>e.key.isStr name) with
 |some e=>rfl
 |none =>
  dsimp only;rw[if_neg]
  ·rfl
  ·rw[Bool.not_eq_true,List.any_eq_false];intro e he;refine zw (hk e (by simpa using he)) fun n t hn=>?_;unfold DictEntry.refKey;exact(Eq.symm (hn))▸Zd
def yp(m:List (Str×AV))(Z:u6)(o:Obj):Prop:=∃f:Str->Option Value,(∃es ep,o.data=.dict es ep/\StrKeys es/\UniqKeys es/\∀n,nsFind es n=f n)/\∀x,y9 Z (m.lookup x) (f x)
theorem QC{m:List (Str×AV)}(Z Z':u6)(o:Obj)(k:u6.le Z Z')(x:yp m Z o):yp m Z' o:=x.imp fun O h=>⟨h.1,fun y=>(h.2 y).mono k⟩
noncomputable abbrev bI(m:List (Str×AV)):y1:=.obj (yp m) QC
theorem OP{m:List (Str×AV)}(h:m.lookup x≠none):x∈m.map (·.1):=by
 induction m with
 |nil=>exact absurd rfl h
 |cons p l ih =>
  rw[YE] at h;cases q:(x==p.1) with
  |true=>rw[beq_iff_eq.mp q];simp
  |false=>rw[q] at h;exact Yk _ (ih h)
structure L7 (K:Frag) (C:YV):Prop where
 ga:findIn K (.ref C) "__getattribute__" = some (some (.builtin "object.__getattribute__"))
 gt:findIn K (.ref C) "__getattr__" = some none
 sa:findIn K (.ref C) "__setattr__" = some (some (.builtin "object.__setattr__"))
 plain:plainOver K C=true
 cd:∃c,clsIn K C=some c/\c.hasDict=true
set_option backward.match.sparseCases false in
noncomputable def AV.handed:AV->Bool
 |.blt _=>false
 |.any=>false
 |_=>true
theorem Val.handed{x:Value}(h:Val Z v x)(e:v.handed=true):handedIn x=true:=by
 revert e;refine Val.casesOn (motive_1:=fun v x O=>v.handed=true->handedIn x=true) h ?_ ?_ ?_ ?_ ?_ ?_ ?_ ?_ ?_ ?_ ?_ ?_ ?_ ?_ ?_ <;> intros <;> first |rfl |exact(Zd (by assumption)).elim
theorem yo{od:Obj}(fr:∀a o,Z a=some o->s.heap.get? a=some o)(e:Z a=some {cls:=.ref C,dict:=some d,data:=.plain})(hd:s.heap.get? d=some od) :
  InstAt s.heap a {cls:=.ref C,dict:=some d,data:=.plain} C (some od):=⟨fr _ _ e,rfl,rfl,hd⟩
theorem ec{m:List (Str×AV)}{J8:Bool}(ok:L7 K C)(hn:findIn K (.ref C) name=some none)(hm:(d,bI m)∈st.led)(hv:m.lookup name=some v)(hh:v.handed=true)
  (h:R v st):F1 vv w A (ap K) s9 Val (fun x=>getAttr x name J8) (.inst C d) st R:=fun s Z x V S Q E hQ=>by
 refine ae (yq V) fun O qv e=>?_;subst qv;refine ae (S.own _ hm) fun od H_ h_=>ae h_ fun f h_ hr=>pH h_ fun es ep F7 Q0 Z8 hf=>?_;dsimp only at H_;have I:=yo S.frozen e H_;have Ú:=hr name;rw[hv] at Ú;refine ae ok.cd fun c hc ω=>?_;cases T0:f name with
 |none =>
  rw[T0] at Ú;cases Ú
  cases hh
 |some u =>
  rw[T0] at Ú;have V:Val Z v u:=by
   cases Ú with
   |some h=>exact h
   |any=>cases hh
  refine get_value (K:=K) (dA S.base S.frozen) I ok.ga (v:=u) ?_ (V.handed hh) (hQ v u _ Z st h (S.toks _) V (.toks _));unfold findObj;rw[hc,hn];dsimp only[Option.bind_some];unfold ownOf;rw[ω,if_pos rfl];dsimp only;rw[DY F7 Q0,hf,T0];rfl
theorem Hj{m m':List (Str×AV)}{led':aa}{R:Unit->St->Prop}(ok:L7 K C)(ht:takerIn K C name=some none)(hm:df m name v=m')(hsz:m'.length<=1000)(U:Upd d (bI m) (bI m') st.led led')
  (h:R () ⟨st.loc,led'⟩):F2 vv w A (ap K) s9 aV (fun x y=>setAttr x name y) (.inst C d) v st R:=fun s Z x y V V' S Q E hQ=>by
 refine ae (yq V) fun a qv e=>?_;subst qv;subst hm;refine ae (S.own _ U.mem) fun od H_ h_=>ae h_ fun f h_ hr=>pH h_ fun es ep F7 Q0 Z8 hf=>?_;dsimp only at H_;have H4:s.heap.Ns1 d f:=⟨od,es,ep,H_,F7,Q0,Z8,hf⟩;have X:=dA S.base S.frozen;have I:=yo S.frozen e H_;refine ae ok.cd fun c hc ω=>?_;refine set_plain (K:=K) X I ok.sa ?_;refine osa_open (s:={ s with toks:=s.toks+1}) X I ok.plain ht fun b=>?_;refine Yh (Yj (Yh (Yh (wpAny_loadPart I.at_ (Yh (looks_clsIn X hc _ _ _ _ (fun O O e=>e) ?_))))));rw[ω];refine Yj (a:=some d) (Yh (Yj (Yh ?_)));refine wpAny_nsSet1 (s:={ s with toks:=s.toks+1}) H4 fun h' U8 Q7=>?_;have hr':∀z,y9 Z ((df m name v).lookup z) (if z=name then some y else f z):=fun z=>by
  rw[sU];by_cases q:z=name
  ·simp only[q,if_true];exact .some V'
  ·simp only[q,if_false];exact hr z
 have hw:Within (fun z=>if z=name then some y else f z) ((df m name v).map (·.1)):=fun z hz=>OP fun e=>by
  have:=hr' z;rw[e] at this;have ξ:(if z=name then some y else f z)≠none:=hz;revert ξ this;generalize (if z=name then some y else f z)=q;intro this ξ;cases this
  exact ξ rfl
 refine bv (U8.count hw) fun o' es' ep' I' r_ J'=>?_;have G7:o'.data.pastItsLine=none:=by
  rw[r_];refine pastItsLine_dict ?_;rw[Yl] at J';have h1000:(1000:Nat)<=Zc:=by decide
  omega
 refine Yh (wpAny_lookBehind (s:={ s with heap:=h',toks:=s.toks+1+1}) I' G7 (Yj ?_));refine pG U8 fun o2 J9 ep2 â hd2 í hu2 Q3=>?_;clear U8;have P:=S.tot8.upd U (h':=h') (tk:=s.toks+1+1) (fun b ob hb e=>Q7.extBut b ob hb e) rfl rfl ⟨o2,â,_,⟨J9,ep2,hd2,í,hu2,Q3⟩,hr'⟩;exact hQ () () _ Z _ h (S.after P.1 P.2) trivial P.2.toF
end
section
variable{K:Frag}
theorem VL{attr:Str}(H0:attributeBase value attr s9 (ZI value s9)=ZI value s9)
  (h:T vv w A B s9 Val (ZI value s9) st fun v y6=>F1 vv w A B s9 Val (fun x=>getAttr x attr true) v y6 R):T vv w A B s9 Val (ZI (.Attribute value attr pos) s9) st R:=fun s Z S Q E hQ=>by
 rw[arm_eval_Attribute,H0];exact Yh (h s Z S _ _ fun v x s₁ Z1 y6 k₁ S1 V1 X1=>Yh (YU (Yh (Yw (k₁ s₁ Z1 x V1 S1 _ _ fun u y s' Z' t5 k S' V X =>
  Yh (wpAny_letTemporaryGo (Yj (hQ u y s' Z' t5 k S' V (X1.trans X)))))))))
theorem dG{o:Expr}{attr:Str}{R:Unit->St->Prop}
  (h:T vv w A B s9 Val (ZI o s9) st fun u y6=>F2 vv w A B s9 aV (fun x y=>setAttr x attr y) u v y6 R):F1 vv w A B s9 aV (ZQ (.Attribute o attr pos) s9) v st R:=fun s Z x V S Q E hQ=>by
 rw[arm_assign_Attribute];refine Yh (Yw (h s Z S _ _ fun u y s₁ Z1 y6 k₁ S1 V1 X1=>Yh (YU (Yh (Yw (k₁ s₁ Z1 y x V1 (V.mono X1.le) S1 _ _ fun O O s' Z' t5 k S' O X=>?_))))));exact PySem.wpAny_release (hQ () () s' Z' t5 k S' trivial (X1.trans X))
inductive Ξ (vv:YA) (w:YH) (A:Yz) (B:u6) (s9:Env) (pos:Pos) (name:Str) (C f:YV) (args:List Expr) (R:AV->St->Prop):AV->St->Prop
 |mk {d:YV} {m:List (Str×AV)} {st:St} (hm:(d,bI m)∈st.led) (hl:m.lookup name=none) (h:CA vv w A B s9 pos (.ref f) [.inst C d] args st R):Ξ vv w A B s9 pos name C f args R (.inst C d) st
theorem iO{o:Expr}{I0:Pos}{args:List Expr}{f:YV}
  (H0:attributeBase o name s9 (ZI o s9)=ZI o s9)
  (T2:((g6 pos (Zl args s9)).all (fun x => !x.1)&&(backToKw pos (keywordEach [] s9)).all (fun x=>x.1.isSome)
   && decide (args.length+([]:List Keyword).length+(if ([]:List Keyword).isEmpty then 0 else 1)<30))=true)
  (G7:(I0.endLine==pos.line)=true) (ok:L7 K C) (hf:findIn K (.ref C) name=some (some (.ref f))) (ht:typeIn K (.ref f)=some (.type "function"))
  (h:T vv w A (ap K) s9 Val (ZI o s9) st (Ξ vv w A (ap K) s9 pos name C f args R)) :
  T vv w A (ap K) s9 Val (ZI (.Call (.Attribute o name I0) args [] pos) s9) st R:=fun s Z S Q E hQ=>by
 rw[arm_eval_Call,H0];refine Yh (h s Z S _ _ fun v x s₁ Z1 y6 k₁ S1 V1 X1=>Yh (YU ?_));revert S1 V1 X1;refine k₁.rec fun{d m y6} hm hl hc S1 V1 X1=>?_;have V2:=V1;refine ae (yq V1) fun a qv e=>?_;subst qv;refine ae (S1.own _ hm) fun od H_ h_=>ae h_ fun g h_ hr=>pH h_ fun es ep F7 Q0 Z8 hg=>?_;dsimp only at H_;have I:=yo S1.frozen e H_;have hr1:=hr name;rw[hl] at hr1;have M7:g name=none:=by cases q:g name with |none=>rfl |some u=>rw[q] at hr1;cases hr1
 have o_:methodCallForm (args.length+([]:List Keyword).length) (g6 pos (Zl args s9)) (backToKw pos (keywordEach [] s9))=true:=T2;have W5:methodCallPos true o s9 I0 pos=b9 pos:=by unfold methodCallPos;simp[G7]
 unfold methodCall;rw[o_];refine Yh (Yw (method_fn (K:=K) (dA S1.base S1.frozen) I ok.ga ok.gt hf ht (by unfold shadowIn;dsimp only;rw[DY F7 Q0,hg,M7];rfl) ?_));refine Yh (Zr W5 ?_);exact hc s₁ Z1 (.ref f) [.ref a] (.ref f) (.cons V2 .nil) S1 _ _ fun v y s' Z' t5 k S' V X=>hQ v y s' Z' t5 k S' V (X1.trans X)
theorem VS{fI:YV}{led:aa}{R:AV->aa->Prop}(hA:w0 A (k+1))(I_:makesIn K C=true)(hi:findIn K (.ref C) "__init__" = some (some (.ref fI)))(hf:typeIn K (.ref fI)=some (.type "function"))
  (h:∀d A',w0 A' k->d∉keys led->TC vv w A' (ap K) (.ref fI) (.inst C d::args) kw ((d,bI [])::led) fun v led'=>v=.none/\R (.inst C d) led') :
  TC vv w A (ap K) (.ref C) args kw led R:=fun s Z fx xs ks S T0 hx P9 Q hQ=>by
 cases T0
 obtain⟨hp,g,dr,t,os⟩:=s;have X:=dA S.base S.frozen;refine make_core (init:=.ref fI) (makes_of X I_) (looks_findIn X hi) (fun self=>bind_fn X self hf) (.inl rfl) ?_;have P1:=S.push (o:=emptyDict) (ao:=bI []) rfl t ⟨_,Ys _ rfl,fun O=>none,⟨#[],0,rfl,fun O h=>by simp at h,by unfold UniqKeys;simp,fun O=>rfl⟩,fun O => .none⟩;have P2:=P1.1.pushZ (o:=instObj C hp.objs.size) rfl t;have hsz:(hp.push emptyDict).objs.size=hp.objs.size+1:=l7 ..;have hV:Val (u6.add Z (hp.push emptyDict).objs.size (instObj C hp.objs.size)) (.inst C hp.objs.size) (.ref (hp.objs.size+1)):=by rw[hsz];exact .inst (u6.add_at ..)
 have K_:=P1.2.trans P2.2;refine h hp.objs.size (A.under (.builtin "type.__call__" ⟨.ref C::xs,ks⟩)) ⟨hA.h,?_,?_⟩ S.lfresh _ _ (.ref fI) _ ks P2.1 (.ref fI) (.cons hV (hx.mono K_.le)) (P9.mono K_.le) _ fun v x s' Z' led' k S' V X'=>?_
 ·have e:(Code.builtin "type.__call__" ⟨.ref C::xs,ks⟩).weight=1:=@_
  have:=hA.d;show A.depth+(Code.builtin "type.__call__" ⟨.ref C::xs,ks⟩).weight+k<=_;rw[e];omega
 ·have e:(Code.builtin "type.__call__" ⟨.ref C::xs,ks⟩).cUnits=1:=@_
  have:=hA.u;show A.units+(Code.builtin "type.__call__" ⟨.ref C::xs,ks⟩).cUnits+k<=_;rw[e];omega
 ·refine aL k ?_;clear k;intro O1 k;subst O1
  (have e_:=V.inv;subst e_)
  exact⟨rfl,hQ _ _ s' Z' led' k S' (hV.mono X'.le) (K_.trans X')⟩
end
section
variable{K:Type}[DecidableEq K]
inductive KV (Z:u6):List (K×AV)->List (K×Value)->Prop
 |nil:KV Z [] []
 |cons {k:K} {v:AV} {x:Value} {l:List (K×AV)} {r:List (K×Value)}:Val Z v x->KV Z l r->KV Z ((k,v)::l) ((k,x)::r)
omit [DecidableEq K] in
theorem KV.mono{Z':u6}(k:u6.le Z Z'){l:List (K×AV)}{r:List (K×Value)}(h:KV Z l r):KV Z' l r:=by
 induction h with
 |nil=>exact .nil
 |cons v _ ih=>exact .cons (v.mono k) ih
omit [DecidableEq K] in
theorem KV.length{l:List (K×AV)}{r:List (K×Value)}(h:KV Z l r):r.length=l.length:=by
 induction h with
 |nil=>rfl
 |cons v _ ih=>rw[Yq,Yq,ih]
noncomputable def bn(m:List (K×AV))(k:K):Option AV:=(m.find? fun kv=>kv.1=k).map (·.2)
noncomputable def eP(m:List (K×AV))(k:K)(v:AV):List (K×AV) :=
 if m.any (fun kv=>kv.1=k) then m.map (fun kv=>if kv.1=k then (kv.1,v) else kv) else m++[(k,v)]
theorem KV.find{l:List (K×AV)}{r:List (K×Value)}(h:KV Z l r)(k:K):(bn l k=none/\valueAt r k=none)∨∃v x,bn l k=some v/\valueAt r k=some x/\Val Z v x:=by
 induction h with
 |nil=>exact .inl ⟨rfl,rfl⟩
 | @cons k' v x l r hv _ ih =>
  unfold bn valueAt at *;rw[c8,c8];by_cases e:k'=k
  ·simp only[e,decide_true];exact .inr ⟨v,x,rfl,rfl,hv⟩
  ·simp only[e,decide_false];exact ih
theorem KV.any{l:List (K×AV)}{r:List (K×Value)}(h:KV Z l r)(k:K):(r.any fun kv=>kv.1=k)=(l.any fun kv=>kv.1=k):=by
 induction h with
 |nil=>rfl
 |cons v _ ih=>rw[List.any_cons,List.any_cons,ih]
theorem KV.stored{l:List (K×AV)}{r:List (K×Value)}(h:KV Z l r){k:K}{x:Value}(hv:Val Z v x):KV Z (eP l k v) (PySem.stored r k x):=by
 unfold eP PySem.stored;rw[h.any k];generalize (l.any fun kv=>kv.1=k)=b;cases b with
 |true =>
  rw[if_pos rfl,if_pos rfl];induction h with
  |nil=>exact .nil
  | @cons k' v' x' l r Y9 _ ih =>
   rw[Yu,Yu];dsimp only;by_cases e:k'=k
   ·rw[if_pos e,if_pos e];exact .cons hv ih
   ·rw[if_neg e,if_neg e];exact .cons Y9 ih
 |false =>
  rw[if_neg Zd,if_neg Zd];induction h with
  |nil=>exact .cons hv .nil
  |cons Y9 _ ih=>exact .cons Y9 ih
theorem IS(l:List (K×AV))(k:K)(v:AV):(eP l k v).length<=l.length+1:=by
 unfold eP;split
 ·rw[Yl];omega
 ·rw[Yr];exact YR _
def yF(knd:n8 vv w K)(m:List (K×AV))(Z:u6)(o:Obj):Prop:=∃es ep kvs,o.ExactDict/\o.data=.dict es ep/\KeysOf knd es/\Pairs knd es.toList kvs/\(kvs.map (·.1)).Nodup/\KV Z m kvs
theorem TF{knd:n8 vv w K}{m:List (K×AV)}(Z Z':u6)(o:Obj)(k:u6.le Z Z')(x:yF knd m Z o):yF knd m Z' o :=
 x.imp fun O h=>h.imp fun O h=>h.imp fun O h=>⟨h.1,h.2.1,h.2.2.1,h.2.2.2.1,h.2.2.2.2.1,h.2.2.2.2.2.mono k⟩
noncomputable abbrev aB(knd:n8 vv w K)(m:List (K×AV)):y1:=.obj (yF knd m) TF
theorem oW{knd:n8 vv w K}{m:List (K×AV)}{led:aa}(S:t8 B s Z led)(h:(d,aB knd m)∈led):∃kvs,s.heap.DictOf knd d kvs/\KV Z m kvs:=by
 refine ae (S.own _ h) fun o ho h_=>pF h_ fun es ep kvs a b c e f g=>?_;exact bQ kvs ⟨o,es,ep,ho,a,b,c,e,f⟩ g
theorem oV{knd:n8 vv w K}{m:List (K×AV)}{kvs:List (K×Value)}(h:s.heap.DictOf knd d kvs)(g:KV Z m kvs):Holds Z s d (aB knd m):=by
 refine pF h fun o es ep ho a b c e f=>?_;clear h;exact⟨o,ho,es,ep,kvs,a,b,c,e,f,g⟩
theorem Eo(i:Int):∀Z x,Val Z (.int i) x->(k6 vv w).is i x=true:=fun Z x V=>by
 cases V
 show (decide _)=true;simp
theorem sZ(i:Str):∀Z x,Val Z (.str i) x->(YT vv w).is i x=true:=fun Z x V=>by
 cases V
 simp[YT,Value.isStrOf]
theorem WT{knd:n8 vv w K}{m:List (K×AV)}{dflt:AV}{k:K}(H5:(d==d5)=false)(hk:∀Z x,Val Z v x->knd.is k x=true)(hm:(d,aB knd m)∈st.led)
  (h:R ((bn m k).getD dflt) st):FC vv w A B s9 (.blt "dict.get") [.ref d,v,dflt] [] st R:=FC.b fun s Z S Q E hQ=>Vals.un <| Val.eRef <| Vals.un <| fun xk h2=>Vals.un <| fun xd h3=>Vals.un0 <| by
 refine ae (oW S.tot8 hm) fun kvs hD X8=>?_;refine call_meetsIn F.slot_dict_get hD.typeIs F.entry_dict_get (F.args_dict_get_3 _ _ _) (meets_dict_get_default knd d (hk Z xk h2) H5 xd) ⟨_,hD.mapOf,?_⟩;refine hQ _ _ _ Z st h (S.toks _) ?_ (.toks _);rcases X8.find k with ⟨e1,e2⟩ |⟨u,y,e1,e2,e3⟩
 ·exact(Eq.symm (e1))▸(Eq.symm (e2))▸h3
 ·exact(Eq.symm (e1))▸(Eq.symm (e2))▸e3
end
section
variable{K:Type}[DecidableEq K]
def F3(vv:YA)(w:YH)(A:Yz)(B:u6)(s9:Env)(f:Value->Value->Value->Sem Unit)(v1 v2 v3:AV)(st:St)(R:Unit->St->Prop):Prop :=
 ∀(s:Yo) (Z:u6) (x1 x2 x3:Value),Val Z v1 x1->Val Z v2 x2->Val Z v3 x3->w5 B s9 s Z st->∀(Q:Unit->Yo->Prop) (E:Value->Yo->Prop),
  HQ B s9 aV st R s Z Q->YJ (YG vv w) A (f x1 x2 x3) Q E s
theorem tW{o i:Expr}{R:Unit->St->Prop}
  (h:T vv w A B s9 Val (ZI o s9) st fun u y6=>T vv w A B s9 Val (ZI i s9) y6 fun j A5=>F3 vv w A B s9 setItem u j v A5 R):F1 vv w A B s9 aV (ZQ (.Subscript o i pos) s9) v st R:=fun s Z x V S Q E hQ=>by
 rw[arm_assign_Subscript];refine Yh (Yw (h s Z S _ _ fun u y s₁ Z1 y6 k₁ S1 V1 X1=>Yh (Yw (k₁ s₁ Z1 S1 _ _ fun j z s2 Z2 A5 k2 S2 V2 X2=>Yh (YU (Yh (Yw
  (k2 s2 Z2 y z x (V1.mono X2.le) V2 (V.mono (X1.le.trans X2.le)) S2 _ _ fun O O s' Z' t5 k S' O X=>?_))))))))
 exact PySem.wpAny_release (hQ () () s' Z' t5 k S' trivial ((X1.trans X2).trans X))
theorem Xj{knd:n8 vv w K}{m m':List (K×AV)}{k:K}{led':aa}{R:Unit->St->Prop}(hk:∀Z x,Val Z v x->knd.is k x=true)(hsz:m.length<=Zc)(hm:eP m k u=m')
  (U:Upd d (aB knd m) (aB knd m') st.led led') (h:R () ⟨st.loc,led'⟩):F3 vv w A B s9 setItem (.ref d) v u st R:=fun s Z x1 x2 x3 V1 V2 V3 S Q E hQ=>by
 (have e_:=V1.inv;subst e_)
 subst hm;refine ae (oW S.tot8 U.mem) fun kvs hD X8=>?_;refine wpAny_setItem_pairs (hk Z x2 V2) hD (fun h' hD' Q9=>?_) (by rw[X8.length];exact hsz);have P:=S.tot8.upd U (h':=h') (tk:=s.toks+1) (fun b ob hb e=>Q9.extBut b ob hb e) rfl rfl (oV hD' (X8.stored V3));exact hQ () () _ Z _ h (S.after P.1 P.2) trivial P.2.toF
theorem Hd{knd:n8 vv w K}{m:List (K×AV)}{k:K}(hk:∀Z x,Val Z v x->knd.is k x=true)(hm:(d,aB knd m)∈st.led)(hu:bn m k=some u)
  (h:R u st):F2 vv w A B s9 Val getItem (.ref d) v st R:=F2.of fun s Z S Q E hQ=>Val.eRef <| fun x2 V2=>by
 refine ae (oW S.tot8 hm) fun kvs hD X8=>?_;rcases X8.find k with ⟨e1,e2⟩ |⟨u',y,e1,e2,e3⟩
 ·rw[hu] at e1;cases e1
 ·rw[hu] at e1;cases e1
  exact wpAny_getItem_of (hk Z x2 V2) hD.mapOf e2 (hQ _ _ _ Z st h (S.toks _) e3 (.toks _))
theorem HI{knd:n8 vv w K}{kvs:List (K×Value)}{k:K}{key dflt:Value}(M5:knd.is k key=true)(hm:s.heap.DictOf knd d kvs)
  (ο:∀v,valueAt kvs k=some v->Q v {s with toks:=s.toks+1})
  (I4:valueAt kvs k=none->∀h',h'.DictOf knd d (kvs++[(k,dflt)])->YS d s.heap h'->Q dflt {s with heap:=h',toks:=s.toks+1})
  (hsz:kvs.length<=Zc):YJ (YG vv w) A (dictSetDefault d key dflt) Q E s:=by
 have hmap:=hm.mapOf;refine pF hm fun o es ep ho hc hd hk hp hn=>?_;clear hm;have hes:es.size<=Zc:=by
  have e1:=hp.length;have e2:es.toList.length=es.size:=by simp
  omega
 have χ:(es.findIdx? fun e=>knd.is k e.key)=kvs.findIdx? fun kv=>decide (kv.1=k):=by
  rw[← hp.findIdx k];obtain⟨l⟩:=es;simp
 have hf:findBy knd.is es k=valueAt kvs k:=by
  rw[← hp.find k];unfold findBy;obtain⟨l⟩:=es;simp
 unfold dictSetDefault;try with_reducible refine Yw ?_
 refine Yh (knd.pyHash M5 ?_);refine Yh (wpAny_dictFind_of (s:={ s with toks:=s.toks+1}) M5 ho hd hk ?_);cases hi:es.findIdx? fun e=>knd.is k e.key with
 |some i =>
  have Ě:valueAt kvs k=(es[i]?).map (·.val):=by rw[← hf,findBy_of_findIdx?,hi]
  refine Yh (wpAny_dictEntries (s:={ s with toks:=s.toks+1}) ho hd ?_);cases he:es[i]? with
  |none =>
   exfalso
   have:=Array.findIdx?_eq_some_iff_findIdx_eq.mp hi;have C5:i<es.size:=this.1;rw[ZU C5] at he;exact nomatch he
  |some e =>
   rw[he] at Ě;exact Yh (ZM (Yj (ο e.val Ě)))
 |none =>
  have Ě:valueAt kvs k=none:=by rw[← hf,findBy_of_findIdx?,hi]
  have hnot:k∉kvs.map (·.1):=not_mem_of_findIdx_none (χ▸hi);refine Yh (ZM (Yh (wpAny_updateDictKeys (hz:=hes) (s:={ s with toks:=s.toks+1}) ho hd (Yj (I4 Ě _ ⟨_,_,ep+1,YZ _ ho (Obj.isFreed_of_dict (Obj.data_mapDictKeys hd _)),
   hc.mapDictKeys _,Obj.data_mapDictKeys hd _,hk.push M5 _,?_,?_⟩ (YX ..))))))
  ·have:=hp.append M5 (knd.hash k) dflt;obtain⟨l⟩:=es;simpa using this
  ·rw[YK,List.nodup_append];refine⟨hn,by simp,?_⟩;intro a ha b hb;rw[Yu,k5,YB] at hb;subst hb;exact fun e=>hnot (e▸ha)
end
section
variable{K:Type}[DecidableEq K]
theorem OT(knd:n8 vv w K){k:K}{key:Value}(M5:knd.is k key=true)(hd:(d==d5)=false)(dflt:Value) :
  MeetsIn vv w (Builtin.«dict.setdefault» ⟨[.ref d,key,dflt],[]⟩) (fun O R s=>∃kvs,s.heap.DictOf knd d kvs/\kvs.length<=Zc /\
   (∀v,valueAt kvs k=some v->R (.ok (.ret v)) {s with toks:=s.toks+1}) /\
   (valueAt kvs k=none->∀h',h'.DictOf knd d (kvs++[(k,dflt)])->YS d s.heap h'->R (.ok (.ret dflt)) {s with heap:=h',toks:=s.toks+1})) :=
 .of_wp fun A R s h_=>iT h_ fun kvs hm hz h1 h2=>by
  unfold Builtin.«dict.setdefault»;refine Yh ?_;unfold Builtin.Dict.keyAndDefault;refine Yh (wpAny_notOrdered_dict hm.typeIs ?_);show YJ _ _ (b9 (d,key,some dflt)) _ _ s;refine Yj ?_;show YJ _ _ (if (d==d5)=true then _ else (dictSetDefault d key dflt>>=_)) _ _ s;refine fW (by rw[hd];exact Zd) ?_;exact Yh (HI M5 hm (fun v hv=>Yj ⟨v,rfl,h1 v hv⟩) (fun hn h' ç Q9=>Yj ⟨dflt,rfl,h2 hn h' ç Q9⟩) hz)
omit [DecidableEq K] in
theorem KV.snoc{l:List (K×AV)}{r:List (K×Value)}(h:KV Z l r){k:K}{x:Value}(hv:Val Z v x):KV Z (l++[(k,v)]) (r++[(k,x)]):=by
 induction h with
 |nil=>exact .cons hv .nil
 |cons Y9 _ ih=>exact .cons Y9 ih
theorem WJ{knd:n8 vv w K}{m:List (K×AV)}{k:K}{led':aa}(H5:(d==d5)=false)(hk:∀Z x,Val Z v x->knd.is k x=true)(hsz:m.length<=Zc)
  (U:Upd d (aB knd m) (aB knd (m++[(k,u)])) st.led led') (h1:∀x,bn m k=some x->R x st) (h2:bn m k=none->R u ⟨st.loc,led'⟩) :
  FC vv w A B s9 (.blt "dict.setdefault") [.ref d,v,u] [] st R:=FC.b fun s Z S Q E hQ=>Vals.un <| Val.eRef <| Vals.un <| fun xk g2=>Vals.un <| fun xd g3=>Vals.un0 <| by
 refine ae (oW S.tot8 U.mem) fun kvs hD X8=>?_;refine call_meetsIn F.slot_dict_setdefault hD.typeIs F.entry_dict_setdefault (F.args_dict_setdefault_3 _ _ _) (OT knd (hk Z xk g2) H5 xd) ⟨kvs,hD,by rw[X8.length];exact hsz,fun y hy=>?_,fun hn h' hD' Q9=>?_⟩
 ·rcases X8.find k with ⟨e1,e2⟩ |⟨u',y',e1,e2,e3⟩
  ·rw[hy] at e2;cases e2
  ·rw[hy] at e2;cases e2
   exact hQ _ _ _ Z st (h1 _ e1) (S.toks _) e3 (.toks _)
 ·rcases X8.find k with ⟨e1,e2⟩ |⟨u',y',e1,e2,e3⟩
  ·have P:=S.tot8.upd U (h':=h') (tk:=s.toks+1) (fun b ob hb e=>Q9.extBut b ob hb e) rfl rfl (oV hD' (X8.snoc g3));exact hQ _ _ _ Z _ (h2 e1) (S.after P.1 P.2) g3 P.2.toF
  ·rw[hn] at e2;cases e2
end
section
variable{N:aa}
noncomputable def tD:Nat->List AV->List AV
 |_,[]=>[]
 |i,x::xs => .tup [.int i,x]::tD (i+1) xs
def yD(it:YV)(i:Nat)(_:u6)(o:Obj):Prop:=∃old,o={ cls:=.type "enumerate",dict:=none,data:=.fields #[.none,.bool false,.ref it,ZG i,.none,old],slots:=#[]}
def gY(xs:List AV)(i:Nat)(Z:u6)(o:Obj):Prop:=∃l items n,o.cls=.type "list_iterator" /\ o.data=.fields #[.ref l,.int i 0]/\Z l=some {cls:=.type "list",data:=.seq (items:List Value).toArray n}/\Vals Z xs items
theorem Tv(Z Z':u6)(o:Obj)(k:u6.le Z Z')(x:yD it i Z o):yD it i Z' o:=x
theorem jV(Z Z':u6)(o:Obj)(k:u6.le Z Z')(x:gY xs i Z o):gY xs i Z' o:=x.imp fun O h=>h.imp fun O h=>h.imp fun O h=>⟨h.1,h.2.1,k _ _ h.2.2.1,h.2.2.2.mono k⟩
noncomputable abbrev fP(e it:YV)(xs:List AV)(i:Nat):aa:=[(e,.obj (yD it i) Tv),(it,.obj (gY xs i) jV)]
theorem u8.enum{x1:Nat}{R5:Pos}{e:YV}(k:Nat):∀(d i:Nat),i+d=xs.length->u8 vv w B N k (.Tuple elts x1 R5) e (tD i (xs.drop i)) (fP e it xs i):=by
 intro d;induction d with
 |zero =>
  intro i hi;have hi:i=xs.length:=(Nat.add_zero i).symm.trans hi;subst hi;rw[List.drop_length];intro A hA led hN s Z S Q E hQ;refine ae (S.own _ (Yi ..)) fun oe σ h_=>aq h_ fun old e_=>?_;subst e_;refine ae (S.own _ (Yk _ (Yi ..))) fun oi g_ h_=>ki h_ fun l items n hc hd hz hv=>?_;refine wpAny_pyNext_enum_end hA.h σ ⟨oi,g_,hc,hd⟩ ⟨_,S.frozen _ _ hz,rfl,n,rfl⟩ ((List.getElem?_toArray ..).trans (a7 (o5 hv.length))) fun h' hx=>?_;have P:=t8.stepE (gl:=fP e it xs xs.length) (s':={ s with heap:=h' }) S (fun b o hb q=>hx b o (fun y=>hb (y▸Yk _ (Yi ..))) q) rfl rfl;exact hQ _ Z P.1 P.2
 |succ d ih =>
  intro i hi;have C5:i<xs.length:=hi▸s6 (Nat.succ_pos d);rw[ZT C5];intro A hA led hN s Z S Q E hQ;refine ae (S.own _ (Yi ..)) fun oe σ h_=>aq h_ fun old e_=>?_;subst e_;refine ae (S.own _ (Yk _ (Yi ..))) fun oi g_ h_=>ki h_ fun l items n hc hd hz hv=>?_;have hei:e≠it:=fun q=>(YC.mp S.nodup).1 (q▸Yi ..);refine ae (hv.get (YL C5)) fun u hu hV=>wpAny_pyNext_enum_item σ ⟨oi,g_,hc,hd⟩ ⟨_,S.frozen _ _ hz,rfl,n,rfl⟩ (x:=u) ((List.getElem?_toArray ..).trans hu) hei fun h' ho H7 hT hsz hk=>?_;refine wpAny_letOwnedTupleGo_enum ho fun h'' ψ K5=>?_;refine aZ H7 fun oi' ς J' r_=>?_;have hTe:s.heap.objs.size≠e:=Nat.ne_of_gt (Zj σ);refine dM (t8.stepN (gl:=fP e it xs i) (gl':=fP e it xs (i+1)) (s':={ s with heap:=h'',toks:=s.toks+1}) S (fun b o hb q=>(K5.2 b fun y=>hb (y▸Yi ..)).trans (hk b o (fun y=>hb (y▸Yi ..)) (fun y=>hb (y▸Yk _ (Yi ..))) q))
   (gz s) ((K5.2 _ hTe).trans hT) (fun le p hp=>(Yp.mp hp).elim (fun y=>y▸⟨_,ψ,_,rfl⟩) fun y=>YB.mp y▸⟨oi',(K5.2 it hei.symm).trans ς,l,items,n,J',r_,le _ _ hz,hv.mono le⟩) rfl rfl rfl rfl) fun le P1 P2=>?_
  exact hQ _ _ _ (fP e it xs (i+1)) P1 (.tup (items:=[.int i s.toks,u]) (u6.add_at ..) (.cons (.int _ _) (.cons (hV.mono le) .nil))) P2 (ih (i+1) ((o4 i d).trans hi))
end
section
variable{N:aa}
theorem GT{a b:Int}(h:R (.rng a b) st):FC vv w A B s9 (.typ "range") [.int a,.int b] [] st R:=FC.t fun s Z S Q E hQ=>Vals.un <| Val.eInt fun t1=>Vals.un <| Val.eInt fun t2=>Vals.un0 <| by
 refine call_range_2 ?_;have P:=S.tot8.pushZ (o:={ cls:=.type "range",data:=.fields #[.int a t1,.int b t2,.int 1 s.toks]}) rfl (s.toks+1);exact hQ _ _ _ _ _ h (S.after P.1 P.2) (.rng (u6.add_at ..)) P.2.toF
theorem kg{b:Int}(h:R (.rng 0 b) st):FC vv w A B s9 (.typ "range") [.int b] [] st R:=FC.t fun s Z S Q E hQ=>Vals.un <| Val.eInt fun t1=>Vals.un0 <| by
 refine call_range_1 ?_;have P:=S.tot8.pushZ (o:={ cls:=.type "range",data:=.fields #[.int 0 s.toks,.int b t1,.int 1 (s.toks+1)]}) rfl (s.toks+1+1);exact hQ _ _ _ _ _ h (S.after P.1 P.2) (.rng (u6.add_at ..)) P.2.toF
noncomputable def cI(a b:Int):List AV:=(List.range (b-a).toNat).map fun(i:Nat) => .int (a+(i:Int))
theorem Eh{I:YV}{x l c:Int}{v:Value}{Q:Unit->Yo->Prop}(ho:IsRangeIter s.heap I x l c)(hQ:Q () s) :
  YJ (YG vv w) A (Zt t0 (.ref I) v) Q E s :=
 yi ho rfl rfl (.inr (.inr rfl)) hQ
theorem tV{a b:Int}(ha : -(2^62)<=a)(ha':a<2^62)(hb : -(2^62)<=b)(Ä:b<2^62)
  (h:∀it gl,u8 vv w B N k t0 it (cI a b) gl->R (.ref it) ⟨st.loc,gl++st.led⟩):F1 vv w A B s9 Val pyIter (.rng a b) st R:=fun s Z x V S Q E hQ=>by
 refine Hn (EE V) fun r t u v qv e=>?_;subst qv;refine wpAny_pyIter_range (S.frozen _ _ e) (small_one ha ha' hb Ä) ?_;have y4:(cI a b).length=(b-a).toNat:=by unfold cI;rw[Yl,List.length_range]
 have hsz:Builtin.Range.rangeSize a b 1=((b-a).toNat:Int):=by
  rw[rangeSize_one];exact if h:a<b then (if_pos h).trans (Int.toNat_of_nonneg (Int.sub_nonneg_of_le (Int.le_of_lt h))).symm else (if_neg h).trans (congrArg Int.ofNat (Int.toNat_of_nonpos (Int.sub_nonpos_of_le (Int.not_lt.mp h)))).symm
 rw[hsz];have P:=S.tot8.push (o:={ cls:=.type "range_iterator",data:=.fields #[ZG a,ZG ((b-a).toNat:Int),ZG 1]})
  (ao:=fH s.heap.objs.size [s.heap.objs.size] (fun i v=>∃t,v=.int (a+i * 1) t) (cI a b) (fun i h=>IsRangeIter h s.heap.objs.size (a+(i:Nat) * 1) (((b-a).toNat:Int)-(i:Nat)) 1) 0) rfl s.toks
  ⟨_,Ys _ rfl,fun c hc => .inl (by simpa using hc),fun i y v h1 h2=>by
   refine aq h2 fun t O2=>?_;clear h2;subst O2;unfold cI at h1;rw[Ze] at h1;refine ae (ZF.mp h1) fun j hj O3=>?_;subst O3;have W7:j=i:=by
    refine aq (j5.mp hj) fun h1 h2=>?_;rw[← h2,List.getElem_range]
   rw[W7,Int.mul_one];exact .int _ _,fun h e1 e2=>by
   show h.get? s.heap.objs.size=_;rw[e1];simp⟩
 refine hQ _ _ _ Z _ (h s.heap.objs.size _ (u8.walks (vv:=vv) (w:=w) (B:=B) (t0:=t0) (xs:=cI a b) (fun A hA=>by exact(Eq.symm (y4))▸Walks.range hA s.heap.objs.size a 1 (b-a).toNat) (fun A i s v Q E E2 hq=>Eh E2 hq) (fun i h E2=>⟨_,E2⟩) k (cI a b).length 0 ⋯)) (S.after P.1 P.2) (.ref _) P.2.toF
end
theorem t8.freeze{led:aa}(S:t8 B s Z ((a,.list xs)::led)):∃Z',t8 B s Z' led/\Val Z' (.lst xs) (.ref a)/\u6.le Z Z'/\y8 (aj ((a,.list xs)::led)) s Z s Z' (aj led):=by
 refine bK (S.own _ (Yi ..)) fun items n g v=>?_;dsimp only at g;have hZ:Z a=none:=S.apart _ (Yi ..);have le:=u6.le_add (o:={ cls:=.type "list",data:=.seq items n}) hZ;have S1:=S.drop1;have Ε:a∉keys led:=(YC.mp S.nodup).1;refine⟨Z.add a {cls:=.type "list",data:=.seq items n},⟨S.base.trans le,fun b o e=>?_,S1.nodup,fun p hp=>?_,fun p hp=>(S1.own p hp).mono le (fun O e=>e) (fun O O O e=>e),S1.gnodup,S1.bare⟩,?_,le,
  ⟨le,fun O O e O=>e,fun b hb => .inl (Yk _ hb),fun b o e=>?_,rfl,fun O O e O=>e,fun O h => .inl h⟩⟩
 ·unfold u6.add at e;by_cases q:b=a
  ·rw[if_pos q] at e;cases e;exact(Eq.symm (q))▸g
  ·rw[if_neg q] at e;exact S.frozen b o e
 ·have hn:p.1≠a:=fun q=>Ε (q▸YF hp);unfold u6.add;exact(Eq.symm (if_neg hn))▸S1.apart p hp
 ·obtain⟨l⟩:=items;exact .lst (u6.add_at ..) (v.mono le)
 ·unfold u6.add at e;by_cases q:b=a
  ·exact .inr (.inl (q▸Yi ..))
  ·rw[if_neg q] at e;exact .inl e
inductive A9 (a:YV) (xs:List AV):List (Str×AV)->List (Str×AV)->Prop
 |nil:A9 a xs [] []
 |cast {x:Str} {l l':List (Str×AV)}:A9 a xs l l'->A9 a xs ((x,.ref a)::l) ((x,.lst xs)::l')
 |keep {x:Str} {v:AV} {l l':List (Str×AV)}:A9 a xs l l'->A9 a xs ((x,v)::l) ((x,v)::l')
theorem A9.look{l':List (Str×AV)}(h:A9 a xs l l')(y:Str):l'.lookup y=l.lookup y∨(l.lookup y=some (.ref a)/\l'.lookup y=some (.lst xs)):=by
 induction h with
 |nil=>exact .inl rfl
 |keep _ ih =>
  rw[YE,YE];split
  ·exact .inl rfl
  ·exact ih
 |cast _ ih =>
  rw[YE,YE];split
  ·exact .inr ⟨rfl,rfl⟩
  ·exact ih
theorem w5.freeze{led:aa}(S:w5 B s9 s Z ⟨loc,(a,.list xs)::led⟩)(hr:A9 a xs loc w6) :
  ∃Z',w5 B s9 s Z' ⟨w6,led⟩/\Val Z' (.lst xs) (.ref a)/\y8 (aD s9 ⟨loc,(a,.list xs)::led⟩) s Z s Z' (aD s9 ⟨w6,led⟩):=by
 refine iT S.tot8.freeze fun Z' S' V le X=>?_;have SF:=S.after S' X;refine gJ Z' ⟨S',SF.locZ,SF.locL,?_,fun x v e=>?_,S.fn⟩ V (X.toF (st:=⟨loc,(a,.list xs)::led⟩))
 ·refine ae SF.loc fun f hn hv=>?_;refine bQ f hn (fun y=>?_);rcases hr.look y with h |⟨h1,h2⟩
  ·show y9 Z' (w6.lookup y) (f y);exact(Eq.symm (h))▸hv y
  ·show y9 Z' (w6.lookup y) (f y);have hy:=hv y;dsimp only at hy;rw[h1] at hy;rw[h2];revert hy;generalize f y=q;intro hy;cases hy with
   |some hy=>cases hy;exact .some V
 ·rcases hr.look x with h |⟨h1,h2⟩
  ·exact S.kinds x v (by exact(h)▸e)
  ·exact S.kinds x _ h1
theorem T.freeze{rel:u6->α->β->Prop}{t:Sem β}{led:aa}{K:α->St->Prop}(hr:A9 a xs loc w6)(h:T vv w A B s9 rel t ⟨w6,led⟩ K) :
  T vv w A B s9 rel t ⟨loc,(a,.list xs)::led⟩ K:=fun s Z S Q E hQ=>by
 refine aZ (S.freeze hr) fun Z' S' V X=>?_;exact h s Z' S' Q E fun v x s' E8 t5 k D7 V' X'=>hQ v x s' E8 t5 k D7 V' (X.trans X')
section
variable{N:aa}
theorem Xd(h:∀e it,R (.ref e) ⟨st.loc,fP e it xs 0++st.led⟩):FC vv w A B s9 (.typ "enumerate") [.lst xs] [] st R:=FC.t fun s Z S Q E hQ=>Vals.un <| fun O h1=>Vals.un0 <| by
 refine bv (iH h1) fun a items n qv e hv=>?_;subst qv;refine call_enumerate_1 (S.frozen _ _ e) fun h' he hit hsz hk=>?_;refine aZ hit fun oi g_ hc hd=>?_;clear hit;have L:=S.tot8;have fr1:∀b o,s.heap.get? b=some o->b≠s.heap.objs.size/\b≠s.heap.objs.size+1:=fun b o q=>by
  have:=Zj q;exact⟨ZE this,ZE (Nat.lt_succ_of_lt this)⟩
 have Ψ:∀b∈keys st.led,b≠s.heap.objs.size/\b≠s.heap.objs.size+1:=fun b hb=>by
  refine ae (YM.mp hb) fun p hp O3=>?_;subst O3;refine aq ((L.own p hp).live) fun ob g=>?_;exact fr1 _ _ g
 have hz:∀b o,Z b=some o->b≠s.heap.objs.size/\b≠s.heap.objs.size+1:=fun b o q=>fr1 b o (L.frozen _ _ q);have U3:∀b,(b=s.heap.objs.size∨b=s.heap.objs.size+1)->Z b=none:=fun b hb=>by
  cases q:Z b with
  |none=>rfl
  |some o=>refine aL (hz b o q) fun q1 q2=>?_;rcases hb with hb |hb <;> contradiction
 have z_:∀b,(b=s.heap.objs.size∨b=s.heap.objs.size+1)->s.heap.get? b=none:=fun b hb=>by
  cases q:s.heap.get? b with
  |none=>rfl
  |some o=>refine aL (fr1 b o q) fun q1 q2=>?_;rcases hb with hb |hb <;> contradiction
 have SL:t8 B {s with heap:=h' } Z (fP (s.heap.objs.size+1) s.heap.objs.size xs 0++st.led):=by
  refine⟨L.base,fun b o q=>hk b o (L.frozen b o q),?_,fun p hp=>?_,fun p hp=>?_,L.gnodup,L.bare⟩
  ·refine YC.mpr ⟨fun q=>?_,YC.mpr ⟨fun q=>(Ψ _ q).1 rfl,L.nodup⟩⟩;rcases Yp.mp q with q |q
   ·exact absurd q (Nat.ne_of_gt (g4 _))
   ·exact(Ψ _ q).2 rfl
  ·rcases Yp.mp hp with rfl |hp
   ·exact U3 _ (.inr rfl)
   ·rcases Yp.mp hp with rfl |hp
    ·exact U3 _ (.inl rfl)
    ·exact L.apart p hp
  ·rcases Yp.mp hp with rfl |hp
   ·exact⟨_,he,_,rfl⟩
   ·rcases Yp.mp hp with rfl |hp
    ·exact⟨oi,g_,a,items,n,hc,hd,e,hv⟩
    ·exact Holds.mono (s:=s) (.refl _) (fun o q=>hk _ o q) (fun O O O q=>q) (L.own p hp)
 have X:y8 (aj st.led) s Z {s with heap:=h' } Z (aj (fP (s.heap.objs.size+1) s.heap.objs.size xs 0++st.led)):=by
  refine⟨.refl _,fun b o q O=>hk b o q,fun b hb=>?_,fun O O q => .inl q,rfl,fun O O q O=>q,fun O h => .inl h⟩;rcases Yp.mp hb with hb |hb
  ·exact .inr (z_ b (.inr hb))
  ·rcases Yp.mp hb with hb |hb
   ·exact .inr (z_ b (.inl hb))
   ·exact .inl hb
 exact hQ _ _ _ Z _ (h (s.heap.objs.size+1) s.heap.objs.size) (S.after SL X) (.ref _) X.toF
theorem XN{x1:Nat}{R5:Pos}{e:YV}{led:aa}
  (h:u8 vv w B N k (.Tuple elts x1 R5) e (tD 0 xs) (fP e it xs 0)->R (.ref e) ⟨loc,fP e it xs 0++led⟩):F1 vv w A B s9 Val pyIter (.ref e) ⟨loc,fP e it xs 0++led⟩ R:=F1.of fun s Z S Q E hQ=>Val.eRef <| by
 refine ae (S.own _ (Yi ..)) fun oe σ h_=>aq h_ fun old e_=>?_;subst e_;dsimp only at σ;exact wpAny_pyIter_enum σ (hQ _ _ s Z _ (h (u8.enum k xs.length 0 ⋯)) S (.ref _) .refl)
end
section
variable{N:aa}
noncomputable def pJ:List AV->List AV->List AV
 |x::xs,y::ys => .tup [x,y]::pJ xs ys
 |_,_=>[]
def Iu(_:u6)(o:Obj):Prop:=∃a b:Value,o={ cls:=.type "tuple",data:=.seq #[a,b]}
noncomputable abbrev eM(z TI TO i1 i2:YV)(xs ys:List AV)(i:Nat):aa:=[(z,.raw {cls:=.type "zip",dict:=none,data:=.fields #[.none,.bool false,.bool false,.ref TI,.ref TO],slots:=#[]}),(TI,.raw {cls:=.type "tuple",data:=.seq #[.ref i1,.ref i2]}),(TO,.obj Iu fun O O O O x=>x),
 (i1,.obj (gY xs i) jV),(i2,.obj (gY ys i) jV)]
theorem Hw{z TI TO i1 i2 l1 l2:YV}{r:List YV}(h:(z::TI::TO::i1::i2::r).Nodup)(h1:l1∉z::TI::TO::i1::i2::r)(h2:l2∉z::TI::TO::i1::i2::r):ZipApart z TI TO i1 i2 l1 l2:=by
 simp only[YC,Yp,not_or] at h h1 h2;exact⟨Ne.symm h.1.1,Ne.symm h.1.2.1,Ne.symm h.1.2.2.1,Ne.symm h.1.2.2.2.1,h.2.1.1,h.2.1.2.1,h.2.1.2.2.1,h.2.2.1.1,h.2.2.1.2.1,h.2.2.2.1.1,h1.1,h1.2.2.1,h1.2.2.2.1,h1.2.2.2.2.1,h2.1,h2.2.2.1,h2.2.2.2.1,h2.2.2.2.2.1⟩
theorem t8.notKey{led:aa}(S:t8 B s Z led){o:Obj}(h:Z a=some o):a∉keys led:=fun q=>nomatch (S.zkey q).symm.trans h
inductive ZipParts (s:Yo) (Z:u6) (z TI TO i1 i2:YV) (xs ys:List AV) (i:Nat):Prop
 |mk (l1 l2:YV) (vs us:List Value) (n m:Nat) (a b:Value) (D:ZipApart z TI TO i1 i2 l1 l2) (Å:IsPair s.heap TO a b) (h1:s.heap.IsListIter i1 l1 i) (h2:s.heap.IsListIter i2 l2 i)
  (z1:Z l1=some {cls:=.type "list",data:=.seq (List.toArray vs) n}) (z2:Z l2=some {cls:=.type "list",data:=.seq (List.toArray us) m}) (v1:Vals Z xs vs) (v2:Vals Z ys us):ZipParts s Z z TI TO i1 i2 xs ys i
theorem zy{z TI TO i1 i2:YV}{led:aa}(S:t8 B s Z (eM z TI TO i1 i2 xs ys i++led)):ZipParts s Z z TI TO i1 i2 xs ys i:=by
  obtain⟨oo,ho,a,b,rfl⟩:=S.own _ (Yk _ (Yk _ (Yi ..)));obtain⟨o1,h1,l1,vs,n,c1,d1,z1,v1⟩:=S.own _ (Yk _ (Yk _ (Yk _ (Yi ..))));obtain⟨o2,h2,l2,us,m,c2,d2,z2,v2⟩:=S.own _ (Yk _ (Yk _ (Yk _ (Yk _ (Yi ..)))));exact⟨l1,l2,vs,us,n,m,a,b,Hw S.nodup (S.notKey z1) (S.notKey z2),ho,⟨o1,h1,c1,d1⟩,⟨o2,h2,c2,d2⟩,z1,z2,v1,v2⟩
theorem zA{z TI TO i1 i2 b:YV}(hb:b∉keys (eM z TI TO i1 i2 xs ys i)):b≠z/\b≠TO/\b≠i1/\b≠i2 :=
 ⟨fun e=>hb (e▸Yi ..),fun e=>hb (e▸Yk _ (Yk _ (Yi ..))),fun e=>hb (e▸Yk _ (Yk _ (Yk _ (Yi ..)))),fun e=>hb (e▸Yk _ (Yk _ (Yk _ (Yk _ (Yi ..)))))⟩
theorem u8.zip{x1:Nat}{R5:Pos}{z TI TO i1 i2:YV}(he:xs.length=ys.length)(k:Nat):∀(d i:Nat),i+d=xs.length->u8 vv w B N k (.Tuple elts x1 R5) z (pJ (xs.drop i) (ys.drop i)) (eM z TI TO i1 i2 xs ys i):=by
 intro d;induction d with
 |zero =>
  intro i hi;have hi:i=xs.length:=(Nat.add_zero i).symm.trans hi;subst hi;rw[List.drop_length];intro A hA led hN s Z S Q E hQ;obtain⟨l1,l2,vs,us,n,m,a,b,D,Å,h1,h2,z1,z2,v1,v2⟩:=zy S;refine wpAny_pyNext_zip_end hA.h D (S.own _ (Yi ..)) (S.own _ (Yk _ (Yi ..))) Å h1 h2 ⟨_,S.frozen _ _ z1,rfl,n,rfl⟩ ⟨_,S.frozen _ _ z2,rfl,m,rfl⟩ (.inl ((List.getElem?_toArray ..).trans (a7 (o5 v1.length)))) fun h' hk=>?_;have P:=t8.stepE (gl:=eM z TI TO i1 i2 xs ys xs.length) (s':={ s with heap:=h' }) S (fun b o hb q =>
   have hb:=zA hb;hk b o hb.1 hb.2.1 hb.2.2.1 hb.2.2.2 q) rfl rfl
  exact hQ _ Z P.1 P.2
 |succ d ih =>
  intro i hi;have C5:i<xs.length:=hi▸s6 (Nat.succ_pos d);have è:i<ys.length:=he▸C5;rw[ZT C5,ZT è];intro A hA led hN s Z S Q E hQ;obtain⟨l1,l2,vs,us,n,m,a,b,D,Å,h1,h2,z1,z2,v1,v2⟩:=zy S;refine ae (v1.get (YL C5)) fun u hu hU=>ae (v2.get (YL è)) fun v hv hV=>?_;have ğ:=S.own _ (Yk _ (Yi ..));refine wpAny_pyNext_zip_item D (S.own _ (Yi ..)) ğ Å h1 h2 ⟨_,S.frozen _ _ z1,rfl,n,rfl⟩ ⟨_,S.frozen _ _ z2,rfl,m,rfl⟩ (x:=u) (y:=v) ((List.getElem?_toArray ..).trans hu) ((List.getElem?_toArray ..).trans hv) fun h' ξ hTO' h1' Θ hT hsz hk=>?_;refine wpAny_letOwnedTupleGo_zip ξ fun h'' ψ K5=>?_;obtain⟨o1,ho1,c1,d1⟩:=h1';obtain⟨o2,â,c2,d2⟩:=Θ;have hTz:s.heap.objs.size≠z:=Nat.ne_of_gt (Zj (S.own _ (Yi ..)));refine dM (t8.stepN (gl:=eM z TI TO i1 i2 xs ys i) (gl':=eM z TI TO i1 i2 xs ys (i+1)) (s':={ s with heap:=h'' }) S (fun b o hb q =>
    have hb:=zA hb
    (K5.2 b hb.1).trans (hk b o hb.1 hb.2.1 hb.2.2.1 hb.2.2.2 q))
   (gz s) ((K5.2 _ hTz).trans hT) (fun le=>s7.mpr ⟨ψ,s7.mpr ⟨(K5.2 _ D.TIz).trans (hk _ _ D.TIz D.TITO D.TIi1 D.TIi2 ğ),s7.mpr ⟨⟨_,(K5.2 _ D.TOz).trans hTO',u,v,rfl⟩,s7.mpr ⟨⟨o1,(K5.2 _ D.i1z).trans ho1,l1,vs,n,c1,d1,le _ _ z1,v1.mono le⟩,s7.mpr ⟨⟨o2,(K5.2 _ D.i2z).trans â,l2,us,m,c2,d2,le _ _ z2,v2.mono le⟩,aG⟩⟩⟩⟩⟩) rfl rfl rfl rfl) fun le P1 P2=>?_
  exact hQ _ _ _ (eM z TI TO i1 i2 xs ys (i+1)) P1 (.tup (items:=[u,v]) (u6.add_at ..) (.cons (hU.mono le) (.cons (hV.mono le) .nil))) P2 (ih (i+1) ((o4 i d).trans hi))
theorem WC(h:∀z TI TO i1 i2,R (.ref z) ⟨st.loc,eM z TI TO i1 i2 xs ys 0++st.led⟩):FC vv w A B s9 (.typ "zip") [.lst xs,.lst ys] [] st R:=FC.t fun s Z S Q E hQ=>Vals.un2 <| fun O hx1 O hx2=>by
 refine bv (iH hx1) fun a vs n qv z1 v1=>?_;subst qv;refine bv (iH hx2) fun b us m qv z2 v2=>?_;subst qv;have L:=S.tot8;refine call_zip_2 ⟨_,S.frozen _ _ z1,rfl,n,rfl⟩ ⟨_,S.frozen _ _ z2,rfl,m,rfl⟩ fun h' hz ğ Å h1 h2 hsz hk=>?_;obtain⟨o1,ho1,c1,d1⟩:=h1;obtain⟨o2,â,c2,d2⟩:=h2;have fr:∀j,s.heap.get? (s.heap.objs.size+j)=none/\Z (s.heap.objs.size+j)=none:=fun j=>⟨Heap.get?_none_of_le (n9 ..),L.zfree (Heap.get?_none_of_le (n9 ..))⟩;have ne:∀ {i j:Nat},i≠j->s.heap.objs.size+i≠s.heap.objs.size+j:=fun h q=>h (Nat.add_left_cancel q);have P:=t8.step (gl:=[]) (gl':=eM (s.heap.objs.size+4) (s.heap.objs.size+2) (s.heap.objs.size+3) s.heap.objs.size (s.heap.objs.size+1) xs ys 0) (s':={ s with heap:=h' }) L (.refl _) (fun b o O=>hk b o) (fun O O e => .inl e)
  (s7.mpr ⟨hz,s7.mpr ⟨ğ,s7.mpr ⟨⟨_,Å,_,_,rfl⟩,s7.mpr ⟨⟨o1,ho1,a,vs,n,c1,d1,z1,v1⟩,s7.mpr ⟨⟨o2,â,b,us,m,c2,d2,z2,v2⟩,aG⟩⟩⟩⟩⟩)
  (s7.mpr ⟨.inr (fr 4),s7.mpr ⟨.inr (fr 2),s7.mpr ⟨.inr (fr 3),s7.mpr ⟨.inr (fr 0),s7.mpr ⟨.inr (fr 1),aG⟩⟩⟩⟩⟩)
  (by
   show [s.heap.objs.size+4,s.heap.objs.size+2,s.heap.objs.size+3,s.heap.objs.size+0,s.heap.objs.size+1].Nodup;simp) (.refl _) rfl rfl
 exact hQ _ _ _ Z _ (h ..) (S.after P.1 P.2) (.ref _) P.2.toF
theorem XJ{x1:Nat}{R5:Pos}{z TI TO i1 i2:YV}{led:aa}(he:xs.length=ys.length)
  (h:u8 vv w B N k (.Tuple elts x1 R5) z (pJ xs ys) (eM z TI TO i1 i2 xs ys 0)->R (.ref z) ⟨loc,eM z TI TO i1 i2 xs ys 0++led⟩):F1 vv w A B s9 Val pyIter (.ref z) ⟨loc,eM z TI TO i1 i2 xs ys 0++led⟩ R:=F1.of fun s Z S Q E hQ=>Val.eRef <|
 wpAny_pyIter_zip (S.own _ (Yi ..)) (hQ _ _ s Z _ (h (u8.zip he k xs.length 0 (r0 _))) S (.ref _) .refl)
end
set_option backward.match.sparseCases false in
noncomputable def AV.isNone:AV->Option Bool
 |.none=>some true
 |.any=>Option.none
 |.blt _=>Option.none
 |_=>some false
theorem Val.isNone{x:Value}{b:Bool}(h:Val Z v x)(e:v.isNone=some b):(x==ZC)=b/\plainIs x .none=true :=
 Val.casesOn (motive_1:=fun v x O=>v.isNone=some b->(x==ZC)=b/\plainIs x .none=true) h (fun e=>⟨d8 e,rfl⟩) (fun O e=>⟨d8 e,rfl⟩) (fun O O e=>⟨d8 e,rfl⟩) (fun O O e=>⟨d8 e,rfl⟩) (fun O O e=>⟨d8 e,rfl⟩)
  (fun O e=>⟨d8 e,rfl⟩) (fun O e=>nomatch e) (fun O e=>⟨d8 e,rfl⟩) (fun O O e=>⟨d8 e,rfl⟩) (fun O O e=>⟨d8 e,rfl⟩) (fun O O e=>⟨d8 e,rfl⟩) (fun O O e=>⟨d8 e,rfl⟩) (fun O e=>⟨d8 e,rfl⟩)
  (fun O e=>⟨d8 e,rfl⟩) (fun O e=>nomatch e) e
theorem Xy{b:Bool}(hb:v.isNone=some b)(h:R (.bool b) st):F2 vv w A B s9 Val (g5 .Is) v .none st R:=F2.of fun s Z S Q E hQ=>fun x1 V1=>Val.eNone <| by
 refine aL (V1.isNone hb) fun h1 h2=>?_;exact wpAny_is_plain h2 (by rw[h1];exact hQ _ _ s Z st h S (.bool b) .refl)
theorem Xx{b:Bool}(hb:v.isNone=some b)(h:R (.bool (!b)) st):F2 vv w A B s9 Val (g5 .IsNot) v .none st R:=F2.of fun s Z S Q E hQ=>fun x1 V1=>Val.eNone <| by
 refine aL (V1.isNone hb) fun h1 h2=>?_;exact wpAny_isNot_plain h2 (by rw[h1];exact hQ _ _ s Z st h S (.bool (!b)) .refl)
theorem XH{R:Bool->St->Prop}(h:R false st):F1 vv w A B s9 aM truthy .none st R:=F1.of fun s Z S Q E hQ=>Val.eNone <| (fun O O O=>hQ false false s Z st h S rfl .refl:YJ (YG vv w) A (truthy ZC) Q E s)
theorem zv{t t':Value->Sem Unit}{ts:List (Value->Sem Unit)}{R:Unit->St->Prop}(h:F1 vv w A B s9 aV t v st fun O t5=>F1 vv w A B s9 aV (fun x=>assignAll x (t'::ts)) v t5 R) :
  F1 vv w A B s9 aV (fun x=>assignAll x (t::t'::ts)) v st R:=fun s Z x V S Q E hQ =>
 Yh (Yw (h s Z x V S _ _ fun O O s₁ Z1 y6 k₁ S1 O X1=>k₁ s₁ Z1 x (V.mono X1.le) S1 _ _ fun v y s' Z' t5 k S' V' X=>hQ v y s' Z' t5 k S' V' (X1.trans X)))
theorem yY{D9:List Expr}{R:u7->St->Prop}(hs:swapsWithSole D9 value pos.line s9=b9 false)(hw:swappedStores D9 value s9=b9 none)
  (h:T vv w A B s9 Val (ZI value s9) st fun v y6=>F1 vv w A B s9 aV (fun x=>assignAll x ((ZZ D9 s9).map (·.2))) v y6 fun O A5=>R .next A5) :
  T vv w A B s9 y0 (exec (.Assign D9 value pos) s9) st R:=fun s Z S Q E hQ=>by
 rw[arm_exec_Assign,hs];refine Yh (YU (Yh (Yj ?_)));refine fW Zd ?_;refine Yh (h s Z S _ _ fun v x s₁ Z1 y6 k₁ S1 V1 X1=>?_);rw[hw];refine Yh (Yj ?_);exact Yh (k₁ s₁ Z1 x V1 S1 _ _ fun O O s' Z' t5 k S' O X=>Yj (hQ _ _ s' Z' t5 k S' .next (X1.trans X)))
theorem cH{t:Expr}{R:u7->St->Prop}(hs:swapsWithSole [t] value pos.line s9=b9 false)(hw:swappedStores [t] value s9=b9 none)(he:ZZ [t] s9=[(false,ZQ t s9)])
  (h:T vv w A B s9 Val (ZI value s9) st fun v y6=>F1 vv w A B s9 aV (ZQ t s9) v y6 fun O A5=>R .next A5):T vv w A B s9 y0 (exec (.Assign [t] value pos) s9) st R :=
 yY hs hw (by exact(Eq.symm (he))▸h)
theorem gG{t u:Expr}{R:u7->St->Prop}(hs:swapsWithSole [t,u] value pos.line s9=b9 false)(hw:swappedStores [t,u] value s9=b9 none)(he:ZZ [t,u] s9=[(false,ZQ t s9),(false,ZQ u s9)])
  (h:T vv w A B s9 Val (ZI value s9) st fun v y6=>F1 vv w A B s9 aV (ZQ t s9) v y6 fun O A5=>F1 vv w A B s9 aV (ZQ u s9) v A5 fun O D1=>R .next D1):T vv w A B s9 y0 (exec (.Assign [t,u] value pos) s9) st R :=
 yY hs hw (by exact(Eq.symm (he))▸h.mono fun v t5 k=>zv k)
theorem Vals.reverse(h:Vals Z xs vs):Vals Z xs.reverse vs.reverse :=
 h.ind (P:=fun xs vs=>Vals Z xs.reverse vs.reverse) .nil fun h O t=>by rw[YO,YO];exact t.append (.cons h .nil)
theorem Gu{D9:List Expr}{names:List Str}{R:u7->St->Prop}(hh:A.handled=none)(hs:swapsWithSole D9 value pos.line s9=b9 false)(hw:swappedStores D9 value s9=b9 (some names))
  (h:T vv w A B s9 Val (ZI value s9) st fun v y6=>∃vs,v=.tup vs/\vs.length=names.length/\FA vv w A B s9 (names.reverse.map fun n=>bindName s9 n) vs.reverse y6 fun O A5=>R .next A5) :
  T vv w A B s9 y0 (exec (.Assign D9 value pos) s9) st R:=fun s Z S Q E hQ=>by
 rw[arm_exec_Assign,hs];refine Yh (YU (Yh (Yj ?_)));refine fW Zd ?_;refine Yh (h s Z S _ _ fun v x s₁ Z1 y6 k₁ S1 V1 X1=>?_);rw[hw];refine Yh (Yj ?_);refine aZ k₁ fun vs O2 hl k=>?_;clear k₁;subst O2;refine bv (iF V1) fun a items n qv e hv=>?_;subst qv;show YJ _ A (rule _>>=_) Q E s₁;refine Yh (ZM ?_);have y4:names.length=items.toArray.size:=by rw[← hl,← hv.length];simp
 rw[y4];refine Yh (wpAny_unpackItems_tuple hh (items:=items.toArray) ⟨_,S1.frozen _ _ e,rfl,n,rfl⟩ fun h' he=>?_);refine aL (S1.ext1 he) fun S' X'=>?_;refine Yh (k _ Z1 _ (by simpa using hv.reverse) S' _ _ fun O O s' Z' t5 k D7 O X=>Yj (hQ _ _ s' Z' t5 k D7 .next ((X1.trans X').trans X)))
theorem XS{R:Unit->St->Prop}(h:F1 vv w A B s9 aV (m5 s9 x) v st R):F1 vv w A B s9 aV (bindName s9 x) v st R:=fun s Z u V S Q E hQ=>wpAny_bindName (h s Z u V S Q E hQ)
theorem w5.drop1{p:YV×y1}{led:aa}(S:w5 B s9 s Z ⟨loc,p::led⟩):w5 B s9 s Z ⟨loc,led⟩ :=
 ⟨S.tot8.drop1,S.locZ,fun h=>S.locL (Yk _ h),S.loc,S.kinds,S.fn⟩
theorem EU{p:YV×y1}{led:aa}{g:Nat}(h:g∈gkeys led):g∈gkeys (p::led):=by
 unfold gkeys at *;rw[ZK];split
 ·exact h
 ·exact Yk _ h
theorem y8.more{o1 o2 o:R0}{s':Yo}{Z':u6}(X:y8 o1 s Z s' Z' o)(h1:∀a,o1.at_ a->o2.at_ a)(h2:∀g,o1.gn g->o2.gn g):y8 o2 s Z s' Z' o :=
 ⟨X.le,fun a ob e h=>X.kept a ob e fun q=>h (h1 a q),fun a h=>(X.grow a h).imp (h1 a) id,fun a ob e=>(X.zgrow a ob e).imp id (Or.imp (h1 a) id),X.os,fun g gs e h=>X.gkept g gs e fun q=>h (h2 g q),fun g h=>(X.ggrow g h).imp (h2 g) id⟩
theorem T.drop{rel:u6->α->β->Prop}{t:Sem β}{p:YV×y1}{led:aa}{K:α->St->Prop}(h:T vv w A B s9 rel t ⟨loc,led⟩ K):T vv w A B s9 rel t ⟨loc,p::led⟩ K :=
 fun s Z S Q E hQ=>h s Z S.drop1 Q E fun v x s' Z' t5 k S' V X=>hQ v x s' Z' t5 k S' V (X.more (fun a ha=>ha.imp id (Yk _)) fun g hg=>EU hg)
def uS(_:u6)(o:Obj):Prop:=∃led:Bool,o={ cls:=.type "set",dict:=none,data:=.set #[] 0 (.fresh 0 0 led)}
theorem JU(Z Z':u6)(o:Obj)(k:u6.le Z Z')(x:uS Z o):uS Z' o:=x
noncomputable abbrev dH:y1:=.obj uS JU
theorem WK(h:∀a,a∉keys st.led->R (.ref a) ⟨st.loc,(a,dH)::st.led⟩):FC vv w A B s9 (.typ "set") [] [] st R:=FC.t fun s Z S Q E hQ =>  Vals.un0 <| by
 refine call_set_0 fun lb=>?_;have P:=S.tot8.push (o:={ cls:=.type "set",dict:=none,data:=.set #[] 0 (.fresh 0 0 lb)}) (ao:=dH) rfl s.toks ⟨_,Ys _ rfl,lb,rfl⟩;exact hQ _ _ _ _ _ (h _ S.tot8.lfresh) (S.after P.1 P.2) (.ref _) P.2.toF
theorem WN{led':aa}(hsz:xs.length<Zc)(U:Upd a (.list (xs++[v])) (.list xs) st.led led')(h:K v ⟨st.loc,led'⟩) :
  FC vv w A B s9 (.blt "list.pop") [.ref a] [] st K:=FC.b fun s Z S Q E hQ=>Vals.un <| Val.eRef <| Vals.un0 <| by
 refine bK (S.own _ U.mem) fun items n g vs=>?_;dsimp only at g;have y4:items.size=xs.length+1:=vs.size.trans Yr;refine ae (vs.get (i:=xs.length) (x:=v) (by simp)) fun y hy hV=>?_;have hy':items[items.size-1]?=some y:=by rw[y4];simpa using hy
 refine call_meets F.slot_list_pop (⟨_,g,rfl⟩) F.entry_list_pop (F.args_list_pop_1 _) (PySem.MeetsSeq.list_pop_last a items n y hy' (y4.symm▸hsz)) ⟨g,?_⟩;have G9:∃n',(s.heap.update a (Zi fun x=>x.eraseIdxIfInBounds (items.size-1))).get? a=some {cls:=.type "list",data:=.seq (items.eraseIdxIfInBounds (items.size-1)) n' }:=⟨_,YZ (Zi fun x=>x.eraseIdxIfInBounds (items.size-1)) g rfl⟩;refine aq G9 ?_;clear G9;intro n' G9;have υ:(items.eraseIdxIfInBounds (items.size-1)).toList=items.toList.take xs.length:=by
  have h1:items.size-1<items.size:=by rw[y4];exact g4 _
  rw[Array.eraseIdxIfInBounds,dif_pos h1,Array.toList_eraseIdx,List.eraseIdx_eq_take_drop_succ];have h2:items.size-1=xs.length:=by rw[y4];rfl
  rw[h2,ZS (by simp[y4]),Zv]
 have Y8:Vals Z xs (items.eraseIdxIfInBounds (items.size-1)).toList:=by
  rw[υ]
  have:=vs.take xs.length;simpa using this
 have P:=S.tot8.upd U (h':=s.heap.update a (Zi fun x=>x.eraseIdxIfInBounds (items.size-1))) (tk:=s.toks) (fun b ob hb e=>(YX ..).extBut b ob hb e) rfl rfl ⟨_,n',G9,Y8⟩;exact hQ _ _ _ Z _ h (S.after P.1 P.2) hV P.2.toF
theorem t8.push0{led:aa}(S:t8 B s Z led){o:Obj}(tk:Nat) :
  t8 B {s with heap:=s.heap.push o,toks:=tk} Z led/\y8 (aj led) s Z {s with heap:=s.heap.push o,toks:=tk} Z (aj led):=by
 have keep:∀b ob,s.heap.get? b=some ob->(s.heap.push o).get? b=some ob:=fun b ob e=>Yt o e;exact⟨⟨S.base,fun a ob e=>keep a ob (S.frozen a ob e),S.nodup,S.apart,fun p hp=>(S.own p hp).mono (.refl _) (fun ob e=>keep _ ob e) fun O O O e=>e,S.gnodup,S.bare⟩,
  ⟨.refl _,fun a ob e O=>keep a ob e,fun a ha => .inl ha,fun O O e => .inl e,rfl,fun O O e O=>e,fun g hg => .inl hg⟩⟩
theorem GA{lo hi:Expr}{p:Pos}(ht:∀o r,letTemporaryGo value o r=b9 ())
  (h:T vv w A B s9 Val (ZI value s9) st fun v y6=>T vv w A B s9 Val (ZI lo s9) y6 fun l A5=>T vv w A B s9 Val (ZI hi s9) A5 fun u D1 =>
   ∃xs:List AV,∃i j:Nat,w9 D1.led v xs/\l=.int i/\u=.int j/\i<=j/\j<=xs.length/\xs.length<=Zc/\R (.lst ((xs.drop i).take (j-i))) D1) :
  T vv w A B s9 Val (ZI (.Subscript value (.Slice (some lo) (some hi) none p) pos) s9) st R:=fun s Z S Q E hQ=>by
 refine wpAny_Subscript_list_slice (h s Z S _ _ fun v x s₁ Z1 y6 k₁ S1 V1 X1=>k₁ s₁ Z1 S1 _ _ fun l y s2 Z2 A5 k2 S2 V2 X2=>k2 s2 Z2 S2 _ _ fun u z w7 Z3 D1 k3 S3 V3 X3=>?_) ht;refine XW k3 fun xs i j hl O5 O6 G8 hj hsz k=>?_;clear k3;subst O5;subst O6;refine bv (hl.get (V1.mono (X2.le.trans X3.le)) S3.tot8) fun a items n O4 g vs=>?_;subst O4;have y4:items.size=xs.length:=vs.size;refine aq V2.inv fun t e=>?_;subst e;refine aq V3.inv fun Τ e=>?_;subst e;refine Ww a items (some i) (some j) rfl ⟨_,g,rfl,n,rfl⟩ ⋯ (.int _ _) (.int _ _) ?_;rw[slicePick_run items i j ⋯ G8];have P1:=S3.tot8.push0 (o:={ cls:=.type "slice",data:=.fields #[.int i t,.int j Τ,.none]}) w7.toks;have P2:=P1.1.pushZ (o:={ cls:=.type "list",data:=.seq ((items.toList.drop i).take (j-i)).toArray}) rfl w7.toks;have X:=P1.2.trans P2.2;have hs:(w7.heap.push {cls:=.type "slice",data:=.fields #[.int i t,.int j Τ,.none]}).objs.size=w7.heap.objs.size+1:=l7 ..;refine hQ _ _ _ _ _ k (S3.after P2.1 X) ?_ (((X1.trans X2).trans X3).trans X.toF);rw[← hs];exact .lst (u6.add_at ..) (((vs.drop i).take (j-i)).mono X.le)
theorem w5.keepAll(S:w5 B s9 s Z st){h':Heap}{tk:Nat}(keep:∀b o,s.heap.get? b=some o->h'.get? b=some o):w5 B s9 {s with heap:=h',toks:=tk} Z st/\y8 (aD s9 st) s Z {s with heap:=h',toks:=tk} Z (aD s9 st) :=
 ⟨⟨⟨S.base,fun a o e=>keep a o (S.frozen a o e),S.nodup,S.apart,fun p hp=>(S.own p hp).mono (.refl _) (fun o e=>keep _ o e) (fun O O O e=>e),S.gnodup,S.bare⟩,S.locZ,S.locL,I7.mono (.refl _) (fun o e=>keep _ o e) S.loc,S.kinds,S.fn⟩,
  ⟨.refl _,fun a o e O=>keep a o e,fun a h => .inl h,fun O O e => .inl e,rfl,fun O O e O=>e,fun O h => .inl h⟩⟩
theorem kh{a b:Int}(hh:A.handled=none)(h:R (.int (max a b)) st):FC vv w A B s9 (.blt "max") [.int a,.int b] [] st R:=FC.b fun s Z S Q E hQ=>Vals.un <| Val.eInt fun O=>Vals.un <| Val.eInt fun O=>Vals.un0 <| by
 refine max_two_ints hh fun h' tk k_=>?_;have P:=S.keepAll (h':=h') (tk:=tk) k_;refine hQ _ _ _ Z st h P.1 ?_ P.2;split
 ·rename_i c
  rw[Int.max_eq_right (Int.le_of_lt c)];exact .int _ _
 ·rename_i c
  rw[Int.max_eq_left (Int.not_lt.mp c)];exact .int _ _
theorem mr{a b:Int}(hh:A.handled=none)(h:R (.int (min a b)) st):FC vv w A B s9 (.blt "min") [.int a,.int b] [] st R:=FC.b fun s Z S Q E hQ=>Vals.un <| Val.eInt fun O=>Vals.un <| Val.eInt fun O=>Vals.un0 <| by
 refine min_two_ints hh fun h' tk k_=>?_;have P:=S.keepAll (h':=h') (tk:=tk) k_;refine hQ _ _ _ Z st h P.1 ?_ P.2;split
 ·rename_i c
  rw[Int.min_eq_right (Int.le_of_lt c)];exact .int _ _
 ·rename_i c
  rw[Int.min_eq_left (Int.not_lt.mp c)];exact .int _ _
def zI(J:Nat->St->Prop)(K:u7->St->Prop)(n:Nat)(f:u7)(A5:St):Prop :=
 match f with
 |.next |.cont=>∃m,m<n/\J m A5
 |.brk=>K .next A5
 |.ret v=>K (.ret v) A5
theorem Ve{B1:Expr}{J:Nat->St->Prop}{K:u7->St->Prop}
  (turn:∀n st,J n st->T vv w A B s9 aM (isTrue B1 s9 (ZI B1 s9)) st fun b y6=>if b then T vv w A B s9 y0 (execs body s9) y6 (zI J K n)
   else K .next y6)   (h:J n st):T vv w A B s9 y0 (exec (.While B1 body [] pos) s9) st K:=fun s Z S Q E hQ=>by
 refine wpAny_While ?_;refine codeAny_whileLoop (fun n s'=>∃Z' t5,J n t5/\w5 B s9 s' Z' t5/\y8 (aD s9 st) s Z s' Z' (aD s9 t5)) ?_ n ⟨Z,st,h,S,.refl⟩;intro n s' Y3;refine bw Y3 fun Z' t5 hJ S' X'=>?_;clear Y3;refine turn n t5 hJ s' Z' S' _ _ fun b c s₁ Z1 y6 k₁ S1 V1 X1=>?_;unfold aM at V1;subst V1;cases c with
 |true =>
  rw[if_pos rfl] at k₁ ⊢;refine k₁ s₁ Z1 S1 _ _ fun f y s2 Z2 A5 k2 S2 V2 X2=>?_;have X:=(X'.trans X1).trans X2;induction V2 with
  |next=>refine ae k2 fun m hm hJ=>?_;clear k2;exact⟨m,hm,Z2,A5,hJ,S2,X⟩
  |cont=>refine ae k2 fun m hm hJ=>?_;clear k2;exact⟨m,hm,Z2,A5,hJ,S2,X⟩
  |brk=>exact hQ _ _ s2 Z2 A5 k2 S2 .next X
  |ret hv=>exact hQ _ _ s2 Z2 A5 k2 S2 (.ret hv) X
 |false =>
  rw[if_neg Zd] at k₁ ⊢;exact wpAny_execs_nil (hQ _ _ s₁ Z1 y6 k₁ S1 .next (X'.trans X1))
noncomputable def fg(l:List (Str×AV)):List (Str×AV)->List (Str×AV) :=
 List.rec (motive:=fun O=>List (Str×AV)->List (Str×AV)) (fun O=>[]) (fun p O ih m=>(p.1,bif (m.headD p).2.isAny then .any else p.2)::ih m.tail) l
theorem Fm(x:Str)(l m:List (Str×AV)):(fg l m).lookup x=l.lookup x∨(fg l m).lookup x=some .any/\∃v,l.lookup x=some v:=by
 induction l generalizing m with
 |nil=>exact .inl rfl
 |cons p l ih =>
  show List.lookup x ((p.1,bif (m.headD p).2.isAny then .any else p.2)::fg l m.tail)=_∨_/\_;show List.lookup x ((p.1,bif (m.headD p).2.isAny then .any else p.2)::fg l m.tail)=List.lookup x ((p.1,p.2)::l)∨List.lookup x ((p.1,bif (m.headD p).2.isAny then .any else p.2)::fg l m.tail)=_/\∃v,List.lookup x ((p.1,p.2)::l)=some v;rw[YE,YE];cases x==p.1 with
  |false=>exact ih _
  |true=>cases(m.headD p).2.isAny with
   |false=>exact .inl rfl
   |true=>exact .inr ⟨rfl,_,rfl⟩
theorem Fl(l:List (Str×AV)):fg l l=l:=by
 induction l with
 |nil=>rfl
 |cons p l ih =>
  show (p.1,bif p.2.isAny then .any else p.2)::fg l l=p::l;rw[ih];obtain⟨x,v⟩:=p;cases v <;> rfl
def B2(st t5:St):Prop:=(⟨fg st.loc t5.loc,st.led⟩:St)=t5
theorem B2.self(st:St):B2 st st:=congrArg (fun l=>(⟨l,st.led⟩:St)) (Fl st.loc)
theorem B2.lc{t5:St}(h:B2 st t5):fg st.loc t5.loc=t5.loc:=(congrArg St.loc (show (⟨fg st.loc t5.loc,st.led⟩:St)=t5 from h) :)
theorem B2.ld{t5:St}(h:B2 st t5):st.led=t5.led:=(congrArg St.led (show (⟨fg st.loc t5.loc,st.led⟩:St)=t5 from h) :)
theorem B2.app{t5:St}(h:B2 st t5)(l:aa):B2 ⟨st.loc,st.led++l⟩ ⟨t5.loc,t5.led++l⟩:=congr (congrArg St.mk h.lc) (congrArg (· ++ l) h.ld)
theorem w5.fit{t5:St}(S:w5 B s9 s Z st)(h:B2 st t5):w5 B s9 s Z t5:=by
 obtain⟨loc,led⟩:=st;obtain⟨w6,led'⟩:=t5;cases(show led=led' from h.ld)
 have e:fg loc w6=w6:=h.lc;refine⟨S.tot8,S.locZ,S.locL,ae S.loc fun f hn hr=>bQ f hn fun y=>?_,fun y v q=>?_,S.fn⟩
 ·show y9 Z (List.lookup y w6) (f y);rw[← e];exact(Fm y loc w6).elim (fun q=>q▸hr y) fun q=>q.1▸.any
 ·exact(Fm y loc w6).elim (fun h=>S.kinds y v (h.symm.trans ((congrArg (List.lookup y) e).trans q))) fun h=>h.2.elim fun u hu=>S.kinds y u hu
theorem B2.own{t5:St}(h:B2 st t5):aD s9 t5=aD s9 st:=by unfold aD;rw[show t5.led=st.led from h.ld.symm]
theorem T.fit{rel:u6->α->β->Prop}{t:Sem β}{t5:St}{K:α->St->Prop}(h:B2 st t5)(k:T vv w A B s9 rel t t5 K):T vv w A B s9 rel t st K :=
 fun s Z S Q E hQ=>k s Z (S.fit h) Q E fun v x s' Z' A3 k S' V X=>hQ v x s' Z' A3 k S' V (h.own▸X)
theorem F1.fit{rel:u6->α->β->Prop}{f:Value->Sem β}{led:aa}{K:α->St->Prop}(h:fg loc w6=w6)(k:F1 vv w A B s9 rel f v ⟨w6,led⟩ K):F1 vv w A B s9 rel f v ⟨loc,led⟩ K :=
 have h:B2 ⟨loc,led⟩ ⟨w6,led⟩:=congrArg (fun l=>(⟨l,led⟩:St)) h
 fun s Z x V S Q E hQ=>k s Z x V (S.fit h) Q E fun v x s' Z' A3 k S' V X=>hQ v x s' Z' A3 k S' V (h.own▸X)
theorem T.fitPost{rel:u6->α->β->Prop}{t:Sem β}{K K':α->St->Prop}(k:T vv w A B s9 rel t st K)(h:∀v t5,K v t5->∃A3,B2 t5 A3/\K' v A3):T vv w A B s9 rel t st K' :=
 fun s Z S Q E hQ=>k s Z S Q E fun v x s' Z' t5 k S' V X=>(h v t5 k).elim fun A3 q=>hQ v x s' Z' A3 q.2 (S'.fit q.1) V (q.1.own▸X)
def Nx(Y:(St->Prop)->Prop)(f:u7)(st:St):Prop:=f=.next/\∃t5,B2 st t5/\∀P,Y P->P t5
theorem Nx.mk{Y:(St->Prop)->Prop}{led:aa}{t5:St}(h:∀P,Y P->P t5)(e:(⟨fg loc t5.loc,led⟩:St)=t5):Nx Y .next ⟨loc,led⟩:=⟨rfl,t5,e,h⟩
theorem Nx.ld{Y:(St->Prop)->Prop}{t5:St}(h:∀P,Y P->P t5)(e:fg loc t5.loc=t5.loc):Nx Y .next ⟨loc,t5.led⟩:=⟨rfl,t5,congrArg (fun l=>(⟨l,t5.led⟩:St)) e,h⟩
theorem Nx.mkE{Y:(St->Prop)->Prop}{led:aa}{t5:St}(h:∀P,Y P->P t5)(el:led=t5.led)(e:fg loc t5.loc=t5.loc):Nx Y .next ⟨loc,led⟩:=el▸.ld h e
theorem T.join{t:Sem Flow}{K:u7->St->Prop}(Y:(St->Prop)->Prop)(h:T vv w A B s9 y0 t st (Nx Y))(k:Y (K .next)):T vv w A B s9 y0 t st K :=
 h.fitPost fun f t5 q=>q.1▸q.2.elim fun A3 q=>⟨A3,q.1,q.2 _ k⟩
def Lo(f:α->AV)(Y:List α->(St->Prop)->Prop)(l:List AV)(st:St):Prop:=∃gs t5,l=gs.map f/\B2 st t5/\∀P,Y gs P->P t5
theorem Lo.mk{f:α->AV}{Y:List α->(St->Prop)->Prop}{gs:List α}{led:aa}{t5:St}(h:∀P,Y gs P->P t5)(e:(⟨fg loc t5.loc,led⟩:St)=t5):Lo f Y (gs.map f) ⟨loc,led⟩:=⟨gs,t5,rfl,e,h⟩
theorem Gs{N:aa}(f:α->AV)(Y:List α->(St->Prop)->Prop){K:u7->St->Prop}{Tn:aa->α->List α->St->Prop}
  (ht:∀gl a as t5,Tn gl a as t5->F1 vv w A B s9 aV (ZQ t0 s9) (f a) ⟨t5.loc,t5.led++gl⟩ fun O D1=>T vv w A B s9 y0 (execs body s9) D1 (J7 (Lo f Y) K (as.map f) gl)) (hA:w0 A k)
  (C3:T vv w A B s9 Val (ZI iter s9) st fun v y6=>F1 vv w A B s9 Val pyIter v y6 (Æ vv w B N k t0 (Lo f Y)))
  (step:∀gl a as,Y (a::as) (Tn gl a as)) (hN:∀gs t5,(∀P,Y gs P->P t5)->D4 N t5.led) (done:Y [] (K .next)) (hs:∀x,j8 iter s9 x=b9 x) :
  T vv w A B s9 y0 (exec (.For t0 iter body [] pos) s9) st K :=
 T.fitPost (K:=fun f st=>∃A3,B2 st A3/\K f A3) (Vi hA C3 (fun x xs st gl q s Z v V S Q E hQ=>q.elim fun gs q=>q.elim fun t5 q=>by
   cases gs with
   |nil=>cases q.1
   |cons a as =>
    cases q.1
    have q2:=B2.app q.2.1 gl;exact ht _ _ _ _ (q.2.2 _ (step gl a as)) s Z v V (S.fit q2) Q E fun v x s' Z' A3 k S' V X=>hQ v x s' Z' A3 (k.mono fun f F4 k=>k.rec .next .cont (fun k => .brk ⟨_,B2.self _,k⟩) fun k => .ret ⟨_,B2.self _,k⟩) S' V (q2.own▸X))
  (fun xs st q=>q.elim fun gs q=>q.elim fun t5 q=>(show t5.led=st.led from q.2.1.ld.symm)▸hN gs t5 q.2.2) (fun st q=>q.elim fun gs q=>q.elim fun t5 q=>by
   cases gs with
   |nil=>exact⟨t5,q.2.1,q.2.2 _ done⟩
   |cons a as=>cases q.1) hs) fun v t5 q=>q
theorem hF(f:α->AV)(Y:List α->(St->Prop)->Prop){K:u7->St->Prop}(hA:w0 A k)
  (C3:T vv w A B s9 Val (ZI iter s9) st fun v y6=>F1 vv w A B s9 Val pyIter v y6 (Æ vv w B [] k t0 (Lo f Y)))
  (step:∀gl a as,Y (a::as) fun t5=>F1 vv w A B s9 aV (ZQ t0 s9) (f a) ⟨t5.loc,t5.led++gl⟩ fun O D1=>T vv w A B s9 y0 (execs body s9) D1 (J7 (Lo f Y) K (as.map f) gl))
  (done:Y [] (K .next)) (hs:∀x,j8 iter s9 x=b9 x) :
  T vv w A B s9 y0 (exec (.For t0 iter body [] pos) s9) st K:=Gs f Y (fun O O O O h=>h) hA C3 step (fun O O O => .nil) done hs
def Lw(Y:Nat->(St->Prop)->Prop)(n:Nat)(st:St):Prop:=∃t5,B2 st t5/\∀P,Y n P->P t5
theorem Lw.mk{Y:Nat->(St->Prop)->Prop}{led:aa}{t5:St}(h:∀P,Y n P->P t5)(e:(⟨fg loc t5.loc,led⟩:St)=t5):Lw Y n ⟨loc,led⟩:=⟨t5,e,h⟩
theorem jW{B1:Expr}(Y:Nat->(St->Prop)->Prop){K:u7->St->Prop}
  (turn:∀n,Y n fun st=>T vv w A B s9 aM (isTrue B1 s9 (ZI B1 s9)) st fun b y6=>if b then T vv w A B s9 y0 (execs body s9) y6 (zI (Lw Y) K n) else K .next y6)
    (h:Lw Y n st):T vv w A B s9 y0 (exec (.While B1 body [] pos) s9) st K :=
 Ve (J:=Lw Y) (fun n st q=>q.elim fun t5 q=>T.fit q.1 (q.2 _ (turn n))) h
section
variable{N:aa}{n m:Nat}{rows:List AV}{K:u7->St->List AV->Prop}
theorem TG.eq{t:Sem Flow}{y2:List AV}(e:rows=y2)(k:TG vv w B N n m s9 t st y2 K):TG vv w B N n m s9 t st rows K:=e▸k
theorem TG.fit{t:Sem Flow}{t5:St}(h:B2 st t5)(k:TG vv w B N n m s9 t t5 rows K):TG vv w B N n m s9 t st rows K :=
 fun c fs Kc H gd lv hs hg hK A hA led' hN B8 B7 Z0 s Z S X =>
  have q:=h.app led';k c fs Kc H gd lv hs hg hK A hA led' hN B8 B7 Z0 s Z (S.fit q) (q.own▸X)
def R1(Y:(St->List AV->Prop)->Prop)(f:u7)(st:St)(rows:List AV):Prop:=f=.next/\∃t5,B2 st t5/\∀P,Y P->P t5 rows
theorem R1.mk{Y:(St->List AV->Prop)->Prop}{led:aa}{t5:St}(h:∀P,Y P->P t5 rows)(e:(⟨fg loc t5.loc,led⟩:St)=t5):R1 Y .next ⟨loc,led⟩ rows:=⟨rfl,t5,e,h⟩
theorem hM{x:Stmt}{rest:List Stmt}(Y:(St->List AV->Prop)->Prop)(h:TG vv w B N n m s9 (exec x s9) st rows (R1 Y))(k:Y fun st rows=>TG vv w B N n m s9 (execs rest s9) st rows K):TG vv w B N n m s9 (execs (x::rest) s9) st rows K:=dY <|
 fun c fs Kc H gd lv hs hg hK=>h c fs Kc H gd lv hs hg fun f x t5 y2 q=>hK f x t5 y2 (q.1▸q.2.elim fun A3 q=>TG.fit q.1 (q.2 _ k))
def Ĥ(f:α->AV)(Y:List α->(St->List AV->Prop)->Prop)(l:List AV)(st:St)(rows:List AV):Prop:=∃gs t5,l=gs.map f/\B2 st t5/\∀P,Y gs P->P t5 rows
theorem Ĥ.mk{f:α->AV}{Y:List α->(St->List AV->Prop)->Prop}{gs:List α}{led:aa}{t5:St}(h:∀P,Y gs P->P t5 rows)(e:(⟨fg loc t5.loc,led⟩:St)=t5):Ĥ f Y (gs.map f) ⟨loc,led⟩ rows:=⟨gs,t5,rfl,e,h⟩
theorem pj(f:α->AV){rest:List Stmt}(Y:List α->(St->List AV->Prop)->Prop)(hk:k<=m)
  (C3:∀A,w0 A m->∀led,D4 N led->T vv w A B s9 Val (ZI iter s9) ⟨st.loc,st.led++led⟩ fun v y6=>F1 vv w A B s9 Val pyIter v y6 (C' vv w B N k t0 led (Ĥ f Y) rows))
  (step:∀gl a as,Y (a::as) (B_ vv w B N n m s9 t0 (f a) body gl (N0 (Ĥ f Y) (AQ vv w B N n m s9 rest K) (as.map f) gl)))
  (done:Y [] fun st rows=>TG vv w B N n m s9 (execs rest s9) st rows K) (hs:∀x,j8 iter s9 x=b9 x) :
  TG vv w B N n m s9 (execs (.For t0 iter body [] pos::rest) s9) st rows K :=
 dY (Vt hk C3 (fun x xs st rows gl q=>q.elim fun gs q=>q.elim fun t5 q=>by
   cases gs with
   |nil=>cases q.1
   |cons a as =>
    cases q.1
    have ⟨h,k⟩:=q.2.2 _ (step gl a as);refine .mk (fun A hA led hN=>show F1 vv w A B s9 aV (ZQ t0 s9) (f a) ⟨st.loc,(st.led++gl)++led⟩ _ from(show t5.led=st.led from q.2.1.ld.symm)▸F1.fit q.2.1.lc (h A hA led hN)) ((show t5.led=st.led from q.2.1.ld.symm)▸k))
  (fun st rows q=>q.elim fun gs q=>q.elim fun t5 q=>by
   cases gs with
   |nil=>exact TG.fit q.2.1 (q.2.2 _ done)
   |cons a as=>cases q.1) hs)
end
def Y0{γ:Type}(l:List AV):(List Value->γ)->(List Value->γ)->Prop :=
 List.rec (motive:=fun O=>(List Value->γ)->(List Value->γ)->Prop) (fun f g=>f []=g []) (fun O O ih f g=>∀v,ih (fun l=>f (v::l)) fun l=>g (v::l)) l
theorem Y0.out{γ:Type}{l:List AV}(h:Vals Z l vs):∀(f g:List Value->γ),Y0 l f g->f vs=g vs :=
 h.ind (P:=fun l vs=>∀f g:List Value->γ,Y0 l f g->f vs=g vs) (fun f g k=>k) fun O O ih f g k=>ih _ _ (k _)
section
variable{K:Frag}{f c:YV}{fd:m3}(loc:List (Str×AV)){l0 led N:aa}{rows:List AV}{m:Nat}{R:AV->aa->Prop}
noncomputable abbrev tH(args:List AV):List Str:=((loc.take args.length).map Prod.fst).reverse
variable(hG:A7 (ap K))(B9:A.depth<b0)
 (hb:Y0 args (fun vs=>Zm K ⟨vv,w.params⟩ (bindArgs fd ⟨vs,[]⟩)) fun vs=>some ((tH loc args).zip vs))
 (hx:(loc.all fun p=>decide (fd.scope.names.lookup p.1=some .local))=true) (hl:((tH loc args).zip args).reverse++(loc.drop args.length).map (fun p=>(p.1,AV.any))=loc)
include hb in
theorem Binds.zip:Binds vv w A (ap K) fd args [] ((tH loc args).zip args):=Binds.pk fun Z xs h=>⟨_,Y0.out h _ _ hb,w8.zip _ h⟩
include hx hl in
theorem Ea:((((tH loc args).zip args).map (·.1)).all fun x=>decide (fd.scope.names.lookup x=some .local))=true:=by
 rw[YY] at hx ⊢;intro x h;refine(YM.mp h).elim fun p q=>?_;exact q.2▸hx p (hl▸Zq _ (List.mem_reverse.mpr q.1))
include hx in
theorem DZ:(((loc.drop args.length).map Prod.fst).all fun x=>decide (fd.scope.names.lookup x=some .local))=true:=by
 rw[YY] at hx ⊢;intro x h;refine(YM.mp h).elim fun p q=>?_;exact q.2▸hx p (List.mem_of_mem_drop q.1)
include hG B9 hb hx hl
theorem VO(ok:cM K f true fd body c)(h:∀L,TG vv w (ap K) N (m+3) m (bz fd L f c) (execs body (bz fd L f c)) ⟨loc,l0⟩ rows fun O O y2=>y2=[]):TC vv w A (ap K) (.ref f) args [] (l0++led) (E7 vv w (ap K) N (m+3) rows led) :=
 GD hG ok B9 (Binds.zip loc hb) (Ea loc hx hl) fun L=>TG.spares _ (DZ loc (args:=args) hx) (by rw[ZR];exact(show _=loc from hl).symm▸h L)
theorem fU(ok:cM K f false fd body c)(h:∀L,L∉keys led->T vv w (A.deeper (bz fd L f c)) (ap K) (bz fd L f c) y0 (execs body (bz fd L f c)) ⟨loc,led⟩ (kH R)):TC vv w A (ap K) (.ref f) args [] led R :=
 zc hG ok B9 (Binds.zip loc hb) (Ea loc hx hl) fun L hL=>T.spares _ (DZ loc (args:=args) hx) (by rw[ZR];exact(show _=loc from hl).symm▸h L hL)
end
theorem VJ{func e Ñ:Expr}{rest:List Expr}{p:Pos}
  (hc:ZI (.Call func (e::rest) [⟨some name,Ñ,p⟩] pos) s9=(do callWith pos (← ZI func s9) [] (g6 pos (Zl (e::rest) s9)) (backToKw pos (keywordEach [⟨some name,Ñ,p⟩] s9))))
  (he:Zl (e::rest) s9=(false,ZI e s9)::Zl rest s9)
  (h:T vv w A B s9 Val (ZI func s9) st fun f y6=>gI vv w B f/\T vv w A B s9 Vals (spliced (g6 pos (Zl (e::rest) s9))) y6 fun vs A5=>T vv w A B s9 Val (ZI Ñ s9) A5 fun u D1=>FC vv w A B s9 f vs [(name,u)] D1 K) :
  T vv w A B s9 Val (ZI (.Call func (e::rest) [⟨some name,Ñ,p⟩] pos) s9) st K:=fun s Z S Q E hQ=>by
 rw[hc];refine Yh (h s Z S _ _ fun f fx s₁ Z1 y6 k₁ S1 V1 X1=>?_);refine aL k₁ fun hk k₁=>?_;unfold callWith;refine Yh (Yw (PyProof.Rows.evalArgs_kw2 rfl (k₁ s₁ Z1 S1 _ _ fun vs x s2 Z2 A5 k2 S2 V2 X2=>PyProof.Rows.kwAll_cons (k2 s2 Z2 S2 _ _ fun u y w7 Z3 D1 k3 S3 V3 X3=>PyProof.Rows.kwAll_nil (Yh (YU ?_)))) he));refine Yh (hk A w7 Z3 fx (V1.mono (X2.le.trans X3.le)) S3.base S3.frozen _ _ fun k=>?_);have D0:YJ (YG vv w) A (call fx ([]++x) [(name,y)]) (fun r s'=>YJ (YG vv w) A (do m6 [r] point;b9 r) Q E s') E w7 :=
  k3 w7 Z3 fx _ [(name,y)] (V1.mono (X2.le.trans X3.le)) (V2.mono X3.le) (.cons V3 .nil) S3 _ _ fun v y s' Z' t5 k S' V X=>Yh (Yw (wpAny_point (Yj (hQ v y s' Z' t5 k S' V (X1.trans (X2.trans (X3.trans X)))))))
 have R_:∀l,YJ (YG vv w) A (operate l (call fx ([]++x) [(name,y)])>>=fun r=>(do m6 [r] point;b9 r)) Q E w7:=fun l=>Yh (fun Γ p K9=>by rw[Sem.wp_operate];exact D0 Γ p K9);have hm:∀m,YJ (YG vv w) A (callMarked m fx ([]++x) [(name,y)]>>=fun r=>(do m6 [r] point;b9 r)) Q E w7:=fun m=>Yh (by unfold callMarked;exact Calls.wpAny_keep D0);generalize (((g6 pos (Zl (e::rest) s9)).any fun x=>x.fst)||(backToKw pos (keywordEach [⟨some name,Ñ,p⟩] s9)).any fun x=>x.fst.isNone)=b;cases k <;> cases b <;> first
  |exact R_ _
  |exact hm _
  |exact Yh D0
  |exact wpAny_ite (by split <;> first |exact Yh D0 |exact hm _)
section
variable{K:Frag}{f c:YV}{fd:m3}(loc:List (Str×AV)){led N:aa}{rows:List AV}{m:Nat}
theorem VP(hG:A7 (ap K))(B9:A.depth<b0)(hb:Binds vv w A.in1 (ap K) fd args kw binds)(E3:((binds.map (·.1)).all fun x=>decide (fd.scope.names.lookup x=some .local))=true)
  (U4:(((loc.drop binds.length).map Prod.fst).all fun x=>decide (fd.scope.names.lookup x=some .local))=true) (hl:binds.reverse++(loc.drop binds.length).map (fun p=>(p.1,AV.any))=loc) (ok:cM K f true fd body c)
  (h:∀L,TG vv w (ap K) N (m+3) m (bz fd L f c) (execs body (bz fd L f c)) ⟨loc,[]⟩ rows fun O O y2=>y2=[]):TC vv w A (ap K) (.ref f) args kw led (E7 vv w (ap K) N (m+3) rows led) :=
 GD (l0:=[]) hG ok B9 hb E3 fun L=>TG.spares _ U4 (by rw[ZR];exact(show _=loc from hl).symm▸h L)
end
theorem NA:(kfb_private% "ownerAndName") "dict.get" = ("dict", "get"):=by first |decide +kernel |kernel_rfl
theorem Nz:(kfb_private% "ownerAndName") "set.__contains__" = ("set", "__contains__"):=by first |decide +kernel |kernel_rfl
theorem It:(Manifest.toldItsClass.contains "dict.get")=false:=by decide +kernel
theorem Ir:(Manifest.toldItsClass.contains "set.__contains__")=false:=by decide +kernel
theorem Il:typeOf (.builtin "set.__contains__")=b9 (.type "method_descriptor"):=by show builtinType _=_;rw[builtinType_eq_fast];kernel_rfl
theorem Kl{M:Model}{id T' nm:String}{P:PySem.Fin->Yo->Prop}(ho:(kfb_private% "ownerAndName") id=(T',nm))(ht:Manifest.toldItsClass.contains id=false)
  (hT:s.TypeIs (.ref a) T') (H6:l4 (.type T') (.type T')=b9 true) (h:P (.done (.ret (.ref s.heap.objs.size))) {s with heap:=s.heap.push {cls:=.type "builtin_function_or_method",data:=.fields #[.builtin id,.ref a]} }) :
  YJ M A (Builtin.«method_descriptor.__get__» ⟨[.builtin id,.ref a,.type T'],[]⟩) P E s:=by
 unfold Builtin.«method_descriptor.__get__»;refine Yh (Zr (a:=(.builtin id,some (.ref a),some (.type T'))) (by first |rfl |kernel_rfl) ?_);dsimp only;rw[ht];simp only[Za,if_false];show YJ M A ((kfb_private% "checkInstance") (.builtin id) (.ref a)>>=fun O=>newFields "builtin_function_or_method" [.builtin id,.ref a]>>=fun v=>ret v) P E s;refine Yh ?_;show YJ M A (((kfb_private% "nameAndClass") (.builtin id))>>=fun p=>_) _ E s;have hn:(kfb_private% "nameAndClass") (.builtin id)=b9 (Yn nm,l5 T'):=by
  show (match (kfb_private% "ownerAndName") id with |(owner,name)=>(b9 (Yn name,l5 owner):Sem (Str×Value)))=_;rw[ho]
 rw[hn];refine Yh (Yj ?_);dsimp only;refine Yh (ZV (T:=T') (b:=true) hT H6 ?_);simp only[Bool.not_true,Za,if_false];refine Yj ?_;exact Yh (Zo (Yj h))
theorem PB:ZJ (.type "method_descriptor") "__get__" = b9 (some (.builtin "method_descriptor.__get__")):=by rw[Zs,YW];kernel_rfl
theorem PA:ZJ (.type "method_descriptor") "__set__" = b9 none:=by rw[Zs,YW];kernel_rfl
theorem PC:ZJ (.type "method_descriptor") "__delete__" = b9 none:=by rw[Zs,YW];kernel_rfl
theorem Jg:Slot "method_descriptor" "__get__" "method_descriptor.__get__" :=
 .of (owner := "method_descriptor") (n := "__get__") (by rw[Zs,YW];kernel_rfl) (by decide +kernel) (by decide +kernel) (by decide +kernel)
  (by first |exact .inl (by decide +kernel) |exact .inr (by decide +kernel)) (by rw[Zp];kernel_rfl)
theorem To:entryFor table "method_descriptor.__get__" = some Builtin.«method_descriptor.__get__» := f1 @_
theorem UN(a b c:Value):m9 "method_descriptor.__get__" ⟨[a,b,c],[]⟩:=by unfold m9;kernel_rfl
theorem Kk{o:Obj}{id T':String}{u:Tok}{P:PySem.Fin->Yo->Prop}
  (ho:s.heap.get? a=some o) (hc:o.cls=.type T') (q_:o.dict=none) (F7:∀c,o.data ≠ .cls c)
  (τ:ZJ (.type T') name=b9 (some (.builtin id))) (Z9:typeOf (.builtin id)=b9 (.type "method_descriptor"))
  (hnm:(["__module__", "__name__", "__qualname__", "__doc__", "__annotations__"]:List Str).contains name=false)
  (h:YJ (YG vv w) A (call (.builtin "method_descriptor.__get__") [.builtin id,.ref a,.type T']) (fun v s'=>P (.done (.ret v)) s') E s) :
  YJ (YG vv w) A (Builtin.«object.__getattribute__» ⟨[.ref a,.str name u],[]⟩) P E s:=by
 have hT:s.TypeIs (.ref a) T':=⟨_,ho,hc⟩;obtain⟨hp,g,d,tk,os⟩:=s;have f3:=PB;have f4:=PA;have f5:=PC;unfold Builtin.«object.__getattribute__»;repeat (any_goals (first |assumption |wp_step))
 split
 ·rename_i q
  exact absurd q (F7 c)
 unfold instanceDict;refine Yh (wpAny_loadPart ho ?_);rw[hc,q_];refine Yh (Yj ?_);refine Yj ?_;refine Yj ?_;refine Yh ?_;unfold Builtin.ObjectAttr.copiedAttributeGuard;dsimp only;rw[hnm];refine Yj ?_;refine Yh (ZM (Yj ?_));exact Yh (Yw (Zk h (fun v s' h'=>Yj h') fun O O h'=>h'))
theorem Tr:entryFor table "dict.__getattribute__" = some Builtin.«object.__getattribute__» := entryFor_alias (id' := "object.__getattribute__") @_ rfl (by decide +kernel) @_
theorem Tm:entryFor table "set.__getattribute__" = some Builtin.«object.__getattribute__» := entryFor_alias (id' := "object.__getattribute__") @_ rfl (by decide +kernel) @_
theorem zG{o:Obj}{id T' nm Ą:String}{J8:Bool}
  (ho:s.heap.get? a=some o) (hc:o.cls=.type T') (q_:o.dict=none) (F7:∀c,o.data ≠ .cls c)
  (η:Slot T' "__getattribute__" Ą) (S9:entryFor table Ą=some Builtin.«object.__getattribute__») (hgar:∀a b,m9 Ą ⟨[a,b],[]⟩)
  (τ:ZJ (.type T') name=b9 (some (.builtin id))) (Z9:typeOf (.builtin id)=b9 (.type "method_descriptor"))
  (hnm:(["__module__", "__name__", "__qualname__", "__doc__", "__annotations__"]:List Str).contains name=false)
  (π:(kfb_private% "ownerAndName") id=(T',nm)) (ht:Manifest.toldItsClass.contains id=false) (H6:l4 (.type T') (.type T')=b9 true)
  (h:Q (.ref s.heap.objs.size) {s with heap:=s.heap.push {cls:=.type "builtin_function_or_method",data:=.fields #[.builtin id,.ref a]},toks:=s.toks+1}) :
  YJ (YG vv w) A (getAttr (.ref a) name J8) Q E s:=by
 have hT:∀t',({s with toks:=t' }:Yo).TypeIs (.ref a) T':=fun t'=>⟨o,ho,hc⟩;unfold getAttr getAttrBy;refine Yh (wpAny_mkText (Yw (Yh (wpAny_typeOf (hT _) (Yh (Zr η.lookup ?_))))));show YJ _ _ (getAttrByItsOwn (.ref a) (.str name s.toks) (.type T') (.builtin Ą) true J8) _ _ _;unfold getAttrByItsOwn hookBefore callGetattribute;refine Yh (Zr (show (if onTheHeap (.type T') then ZJ (.type T') "__getattr__" else b9 none)=b9 none from rfl) ?_);refine Yh (f2 (Yw ?_));rw[show (J8&&onTheHeap (.builtin Ą))=false from Bool.and_false _];unfold boundAndCalled;dsimp only[Za,if_false];refine Yh (Zr (η.bind _) ?_);refine Zk (Q:=fun v s'=>v=.ref s.heap.objs.size/\s'={ s with heap:=s.heap.push {cls:=.type "builtin_function_or_method",data:=.fields #[.builtin id,.ref a]},toks:=s.toks+1}) (E:=fun O O=>False)
  (Zf η (hT _) S9 ?_ (hgar _ _)) (fun v s' hv=>?_) fun O O z=>z.elim
 ·refine Kk (s:={ s with toks:=s.toks+1}) ho hc q_ F7 τ Z9 hnm ?_;refine Zf Jg Z9 To ?_ (UN _ _ _);refine Kl π ht (hT _) H6 ?_;exact⟨_,rfl,_,rfl,rfl,rfl⟩
 ·refine aL hv fun O1 O2=>?_;clear hv;subst O1;subst O2;exact Yj h
theorem zH{x:YV}{o:Obj}{id T':String}{sig:_}{rest:List Value}{F:Builtin}{S:Spec}
  (hx:s.heap.get? x=some {cls:=.type "builtin_function_or_method",data:=.fields #[.builtin id,.ref a]})
  (ho:s.heap.get? a=some o) (hc:o.cls=.type T') (F7:∀c,o.data ≠ .cls c)
  (hsig:Manifest.signature? id=some sig) (D5:builtinKind id=some .method) (hmod:l4 (.type T') (.type "module")=b9 false) (ď:Manifest.varargsMethods.contains id=false)
  (Δ:Bind.checkArgs id {sig with full:=s!"{Bind.lastOf T'}.{Bind.lastOf id}" } ⟨.ref a::rest,[]⟩=b9 ())
  (slot:Slot T' name id) (entry:entryFor table id=some F) (g:MeetsIn vv w (F ⟨.ref a::rest,[]⟩) S) (h:S A (wants Q E) s) :
  YJ (YG vv w) A (call (.ref x) rest) Q E s:=by
 have hT:s.TypeIs (.ref a) T':=⟨_,ho,hc⟩;refine f9 (codeAny_of_tree ?_);show YJ _ A.in1 (callAny (.ref x) ⟨rest,[]⟩) _ _ s;dsimp only[callAny];refine Yh (wpAny_load hx ?_);dsimp only[show (l5 "builtin_function_or_method" == l5 "method" || l5 "builtin_function_or_method" == l5 "builtin_function_or_method" || l5 "builtin_function_or_method" == l5 "method-wrapper")=true by decide,if_true];refine KFB.if_so (by decide) ?_;refine Yh ?_;unfold checkBoundCall;rw[hsig];dsimp only;rw[D5];dsimp only;refine Zw (by decide) ?_;refine Yh (ZV (T:=T') (b:=false) hT hmod ?_);refine Zw (by rw[ď];rfl) ?_;refine Yh ?_;unfold isType;refine Yh (wpAny_loadPart ho ?_);have hn:(match o.data with |.cls _=>true |_=>false)=false:=by
  cases q:o.data with
  |cls c=>exact absurd q (F7 c)
  |_=>rfl
 refine Yj ?_;refine Zw hn ?_;refine Yh (wpAny_typeOf hT ?_);refine Zr Δ ?_;refine Yh (Yj (Yj ?_));refine⟨plainId_quiet slot.plain _,j9 entry ?_⟩;rw[j7 slot.plain];exact g A (wants Q E) s h
theorem XQ{knd:n8 vv w Int}{m:List (Int×AV)}{J8:Bool}(hm:(d,aB knd m)∈st.led)
  (h:R (.bm "dict.get" (.ref d)) st):F1 vv w A B s9 Val (fun x=>getAttr x La J8) (.ref d) st R:=F1.of fun s Z S Q E hQ=>Val.eRef <| by
 refine ae (S.own _ hm) fun o ho h_=>pF h_ fun es ep kvs hex hd O O O O=>?_;dsimp only at ho;refine zG (T' := "dict") (id := "dict.get") ho hex.1 hex.2.1 (fun c e=>by rw[hd] at e;cases e) F.slot_dict_getattribute Tr F.args_dict_getattribute_2 F.slot_dict_get.lookup F.type_dict_get (by decide +kernel) NA It (by rw[Zp];kernel_rfl) ?_;have P:=S.tot8.pushZ (o:={ cls:=.type "builtin_function_or_method",data:=.fields #[.builtin "dict.get",.ref d]}) rfl (s.toks+1);exact hQ _ _ _ _ _ h (S.after P.1 P.2) (.bm (u6.add_at ..) (.ref d)) P.2.toF
theorem Xh{knd:n8 vv w Int}{m:List (Int×AV)}{dflt:AV}{k:Int}(H5:(d==d5)=false)(hk:∀Z x,Val Z v x->knd.is k x=true)(hm:(d,aB knd m)∈st.led)
  (h:R ((bn m k).getD dflt) st):FC vv w A B s9 (.bm "dict.get" (.ref d)) [v,dflt] [] st R:=fun s Z fx xs ks hf hx P9 S Q E hQ=>by
 cases P9
 refine bw (yr hf) fun u1 u2 qv e hs=>?_;subst qv
 (have e_:=hs.inv;subst e_)
 refine Vals.un2 (P:=fun xs=>YJ (YG vv w) A (call (.ref u1) xs []) Q E s) (fun xk h2 xd h3=>?_) xs hx;refine ae (oW S.tot8 hm) fun kvs hD X8=>?_;refine ki (id hD) fun o es ep ho hex hd O=>?_;refine zH (T' := "dict") (id := "dict.get") (S.frozen _ _ e) ho hex.1 (fun c e=>by rw[hd] at e;cases e) (sig:=(Manifest.signature? "dict.get").getD ⟨.positional, "", "",.self,[]⟩) @_ @_ (by rw[Zp];kernel_rfl) (by decide +kernel) @_ F.slot_dict_get F.entry_dict_get (meets_dict_get_default knd d (hk Z xk h2) H5 xd) ⟨_,hD.mapOf,?_⟩;refine hQ _ _ _ Z st h (S.toks _) ?_ (.toks _);rcases X8.find k with ⟨e1,e2⟩ |⟨u,y,e1,e2,e3⟩
 ·exact(Eq.symm (e1))▸(Eq.symm (e2))▸h3
 ·exact(Eq.symm (e1))▸(Eq.symm (e2))▸e3
theorem XR{J8:Bool}(hm:(a,dH)∈st.led)
  (h:R (.bm "set.__contains__" (.ref a)) st):F1 vv w A B s9 Val (fun x=>getAttr x Lc J8) (.ref a) st R:=F1.of fun s Z S Q E hQ=>Val.eRef <| by
 obtain⟨o,ho,lb,rfl⟩:=S.own _ hm;dsimp only at ho;refine zG (T' := "set") (id := "set.__contains__") ho rfl rfl (fun c e=>by cases e) F.slot_set_getattribute Tm F.args_set_getattribute_2 F.slot_set_contains.lookup Il (by decide +kernel) Nz Ir (by rw[Zp];kernel_rfl) ?_;have P:=S.tot8.pushZ (o:={ cls:=.type "builtin_function_or_method",data:=.fields #[.builtin "set.__contains__",.ref a]}) rfl (s.toks+1);exact hQ _ _ _ _ _ h (S.after P.1 P.2) (.bm (u6.add_at ..) (.ref a)) P.2.toF
theorem OU{t:Tok}:MeetsIn vv w (Builtin.«frozenset.__contains__» ⟨[.ref a,.str x t],[]⟩) (fun O R s=>s.heap.SetOf (YT vv w) a (fun O=>false) 0/\R (.ok (.ret (.bool false))) {s with toks:=s.toks+1}) :=
 .of_wp fun A R s ⟨hS,h⟩=>by
  unfold Builtin.«frozenset.__contains__» Builtin.Frozenset.oneOther;simp only[List.isEmpty_nil,bind_assoc];unfold Builtin.Frozenset.addrOf Builtin.Frozenset.withSetAsKey setContains;refine Yh (Yj ?_);try dsimp only
  refine Yh (Yj ?_);try dsimp only
  have M5:(YT vv w).is x (.str x t)=true:=by simp[YT,Value.isStrOf]
  refine Yh (wpAny_tryCatch ?_);refine Yw ?_;refine Yh ((YT vv w).pyHash M5 ?_);refine Yh (wpAny_setFind_of (s:={ s with toks:=s.toks+1}) M5 rfl hS fun r hr=>?_);refine Yj ?_;show YJ _ _ (ret (Value.bool r.isSome)) _ _ _;exact(Eq.symm (hr))▸Yj ⟨_,rfl,h⟩
theorem tR(hm:(a,dH)∈st.led)
  (h:R (.bool false) st):FC vv w A B s9 (.bm "set.__contains__" (.ref a)) [.str x] [] st R:=fun s Z fx xs ks hf hx P9 S Q E hQ=>by
 cases P9
 refine bw (yr hf) fun O O qv e hs=>?_;subst qv
 (have e_:=hs.inv;subst e_)
 cases hx with
 |cons h2 hx =>
  (have e_:=hx.inv;subst e_)
  (refine aq h2.inv fun t_ e_=>?_;subst e_)
  obtain⟨o,ho,lb,rfl⟩:=S.own _ hm;dsimp only at ho;refine zH (T' := "set") (id := "set.__contains__") (S.frozen _ _ e) ho rfl (fun c e=>by cases e) (sig:=(Manifest.signature? "set.__contains__").getD ⟨.positional, "", "",.self,[]⟩) @_ @_ (by rw[Zp];kernel_rfl) (by decide +kernel) @_ F.slot_set_contains entry_set_contains OU ⟨?_,?_⟩
  ·exact Wv _ (#[]) 0 _ ho ⟨rfl,rfl,rfl⟩ rfl (fun e he=>by simp at he) (fun k=>by simp) (by decide) (by rfl) rfl
  ·exact hQ _ _ _ Z st h (S.toks _) (.bool false) (.toks _)
theorem Vj{e:Expr}{K:u7->St->Prop}(hi:interactive s9=false)(hs:swapsWith e none pos.line s9=b9 false)
  (h:T vv w A B s9 Val (ZI e s9) st fun O t5=>K .next t5):T vv w A B s9 y0 (exec (.Expr e pos) s9) st K:=fun s Z S Q E hQ =>
 wpAny_Expr_any (h s Z S _ _ fun v x s' Z' t5 k S' V X=>hQ _ _ s' Z' t5 k S' .next X) hi hs
theorem Vl{K:u7->St->Prop}(h:K .brk st):T vv w A B s9 y0 (exec (.Break pos) s9) st K:=fun s Z S Q E hQ=>wpAny_Break (hQ _ _ s Z st h S .brk .refl)
theorem Vk{K:u7->St->Prop}(h:K .cont st):T vv w A B s9 y0 (exec (.Continue pos) s9) st K:=fun s Z S Q E hQ=>wpAny_Continue (hQ _ _ s Z st h S .cont .refl)
theorem tS{a b:Int}(hb:b≠0)(hs:b.natAbs<1073741824)(h:K (.int (a.fdiv b)) st):F2 vv w A B s9 Val (binaryOp .FloorDiv) (.int a) (.int b) st K:=F2.of fun s Z S Q E hQ=>Val.eInt fun O=>Val.eInt fun O=>PyProof.Rows.floordiv_int hb (hQ _ _ _ Z st h (S.toks _) (.int _ _) (.toks _)) (.inl (PyProof.noPylong_small hs))
theorem iL{K:Type}[DecidableEq K]{p:K×AV}{r:List (K×AV)}{x:K}:bn (p::r) x=if p.1=x then some p.2 else bn r x:=by
 unfold bn;rw[c8];by_cases h:p.1=x
 ·rw[if_pos h,decide_eq_true h];rfl
 ·rw[if_neg h,decide_eq_false h]
theorem SJ{K:Type}[DecidableEq K](m:List (K×AV))(k:K)(v:AV)(x:K):bn (eP m k v) x=if x=k then some v else bn m x:=by
 unfold eP;by_cases q:x=k
 ·subst q;rw[if_pos rfl];cases hb:(m.any fun kv=>decide (kv.1=x)) with
  |true =>
   rw[if_pos rfl];induction m with
   |nil=>exact nomatch hb
   |cons p r ih =>
    rw[Yu,iL];by_cases e:p.1=x
    ·rw[if_pos e];exact if_pos e
    ·rw[if_neg e,if_neg e];exact ih (by rwa [List.any_cons,decide_eq_false e,Bool.false_or] at hb)
  |false =>
   rw[if_neg Zd];induction m with
   |nil=>exact iL.trans (if_pos rfl)
   |cons p r ih =>
    rw[List.any_cons,Bool.or_eq_false_iff] at hb;rw[Yv,iL,if_neg (of_decide_eq_false hb.1)];exact ih hb.2
 ·rw[if_neg q];cases(m.any fun kv=>decide (kv.1=k)) with
  |true =>
   rw[if_pos rfl];induction m with
   |nil=>rfl
   |cons p r ih =>
    rw[Yu,iL,iL,ih];by_cases e:p.1=k
    ·have h : ¬ p.1=x:=fun z=>q (z.symm.trans e);rw[if_pos e,if_neg h,if_neg h]
    ·rw[if_neg e]
  |false =>
   rw[if_neg Zd];induction m with
   |nil=>exact iL.trans (if_neg fun z=>q z.symm)
   |cons p r ih=>rw[Yv,iL,iL,ih]
theorem KV.out{K:Type}{k:K}{m:List (K×AV)}{P:List (K×Value)->Prop}(c:∀x r,Val Z v x->KV Z m r->P ((k,x)::r))(kvs:List (K×Value))(h:KV Z ((k,v)::m) kvs):P kvs:=by
 cases h with
 |cons h1 h2=>exact c _ _ h1 h2
theorem KV.recast{K:Type}{Z':u6}(le:u6.le Z Z')(hv:Val Z' (.lst xs) (.ref a)){k:K}{m1 m2:List (K×AV)}:∀ {kvs:List (K×Value)},KV Z (m1++(k,.ref a)::m2) kvs->KV Z' (m1++(k,.lst xs)::m2) kvs:=by
 induction m1 with
 |nil=>exact KV.out (fun x r h1 h2=>h1.inv▸.cons hv (h2.mono le)) _
 |cons p m1 ih=>exact KV.out (k:=p.1) (v:=p.2) (fun x r h1 h2 => .cons (h1.mono le) (ih h2)) _
theorem t8.freeze1{K:Type}[DecidableEq K]{knd:n8 vv w K}{dj:YV}{k:K}{d1 d2:List (K×AV)}{L:aa}(S:t8 B s Z ((dj,aB knd (d1++(k,.ref a)::d2))::(a,.list xs)::L)) :
  ∃Z',t8 B s Z' ((dj,aB knd (d1++(k,.lst xs)::d2))::L)/\u6.le Z Z'/\y8 (aj ((dj,aB knd (d1++(k,.ref a)::d2))::(a,.list xs)::L)) s Z s Z' (aj ((dj,aB knd (d1++(k,.lst xs)::d2))::L)):=by
 have S1:=S.perm (c0 ..);refine iT S1.freeze fun Z1 S2 hv le X=>gJ Z1 ⟨S2.base,S2.frozen,S2.nodup,fun p hp=>?_,fun p hp=>?_,S2.gnodup,S2.bare⟩ le (er (c0 (dj,aB knd (d1++(k,.ref a)::d2)) (a,.list xs) L)▸X)
 ·exact(Yp.mp hp).elim (fun e=>e▸S2.apart (dj,aB knd (d1++(k,.ref a)::d2)) (Yi ..)) fun h=>S2.apart p (Yk _ h)
 ·refine(Yp.mp hp).elim (fun e=>e▸?_) fun h=>S2.own p (Yk _ h);exact(S.own _ (Yi ..)).imp fun o h=>⟨h.1,h.2.imp fun O h=>h.imp fun O h=>h.imp fun O h=>⟨h.1,h.2.1,h.2.2.1,h.2.2.2.1,h.2.2.2.2.1,h.2.2.2.2.2.recast le hv⟩⟩
theorem t8.freezes{K:Type}[DecidableEq K]{knd:n8 vv w K}{dj:YV}{led:aa}(N9:List (K×YV×List AV)):∀(done:List (K×AV)) (Z:u6),
  t8 B s Z ((dj,aB knd (done++N9.map fun e=>(e.1,.ref e.2.1)))::((N9.map fun e=>(e.2.1,y1.list e.2.2))++led)) ->
  ∃Z',t8 B s Z' ((dj,aB knd (done++N9.map fun e=>(e.1,.lst e.2.2)))::led)/\u6.le Z Z' /\
   y8 (aj ((dj,aB knd (done++N9.map fun e=>(e.1,.ref e.2.1)))::((N9.map fun e=>(e.2.1,y1.list e.2.2))++led))) s Z s Z' (aj ((dj,aB knd (done++N9.map fun e=>(e.1,.lst e.2.2)))::led)):=by
 induction N9 with
 |nil=>exact fun done Z S=>⟨Z,S,.refl _,.refl⟩
 |cons e N9 ih =>
  intro done Z S;refine aZ (t8.freeze1 (d1:=done) (k:=e.1) (a:=e.2.1) (xs:=e.2.2) S) fun Z1 S1 le X=>?_;refine aZ (ih (done++[(e.1,.lst e.2.2)]) Z1 (by rw[YN];exact S1)) fun Z' S' le' X'=>?_;rw[YN] at S';exact gJ Z' S' (le.trans le') (X.trans X')
theorem T.freezes{K:Type}[DecidableEq K]{knd:n8 vv w K}{rel:u6->α->β->Prop}{t:Sem β}{dj:YV}{led:aa}{R:α->St->Prop}(es:List (K×YV×List AV))
  (h:T vv w A B s9 rel t ⟨loc,(dj,aB knd (es.map fun e=>(e.1,.lst e.2.2)))::led⟩ R) :
  T vv w A B s9 rel t ⟨loc,(dj,aB knd (es.map fun e=>(e.1,.ref e.2.1)))::((es.map fun e=>(e.2.1,y1.list e.2.2))++led)⟩ R:=fun s Z S Q E hQ=>by
 refine aZ (t8.freezes es [] Z S.tot8) fun Z' S' le X=>?_;exact h s Z' (S.after S' X) Q E fun v x s' E8 t5 k D7 V' X'=>hQ v x s' E8 t5 k D7 V' ((X.toF (st:=⟨loc,_⟩)).trans X')
noncomputable def dQ(b:List Str)(k:Str):List Nat:=(List.range b.length).filter fun j=>b[j]?==some k
noncomputable def qF(b:List Str)(k:Str):Bool:=decide (200<=b.length)&&decide (b.length / 100+1<(dQ b k).length)
noncomputable def bO(b:List Str)(k:Str):List Nat:=if qF b k then [] else dQ b k
noncomputable def dX:List (Str×List Nat)->Str->Nat->List (Str×List Nat)
 | [],k,i=>[(k,[i])]
 |(x,js)::r,k,i=>if x=k then (x,js++[i])::r else (x,js)::dX r k i
theorem tK{k:Str}{js:List Nat}{r:List (Str×List Nat)}:dX ((x,js)::r) k i=if x=k then (x,js++[i])::r else (x,js)::dX r k i:=rfl
noncomputable def gB:List (Str×List Nat)->Nat->List Str->List (Str×List Nat)
 |t,_,[]=>t
 |t,i,x::xs=>gB (dX t x i) (i+1) xs
noncomputable def gi(t:List (Str×List Nat))(k:Str):Option (List Nat):=(t.find? fun e=>e.1=k).map (·.2)
theorem PD(k:Str)(i:Nat)(x:Str):∀t,gi (dX t k i) x=if x=k then some ((gi t k).getD []++[i]) else gi t x:=by
 intro t_;induction t_ with
 |nil =>
  show gi [(k,[i])] x=_;unfold gi;by_cases e:x=k
  ·subst e;simp
  ·have : ¬ k=x:=fun h=>e h.symm;simp[e,this]
 |cons e_ r ih =>
  obtain⟨y,js⟩:=e_;rw[tK];by_cases q:y=k
  ·rw[if_pos q];subst q;unfold gi;by_cases e:x=y
   ·subst e;simp
   ·have : ¬ y=x:=fun h=>e h.symm;simp[e,this]
  ·rw[if_neg q];unfold gi at *;by_cases e:y=x
   ·have : ¬ x=k:=fun h=>q (e.trans h);simp[e,this]
   ·rw[List.find?_cons_of_neg (by simpa using e),ih];by_cases z:x=k
    ·rw[if_pos z,if_pos z,List.find?_cons_of_neg (by simpa using q)]
    ·rw[if_neg z,if_neg z,List.find?_cons_of_neg (by simpa using e)]
theorem QN(b:List Str)(x k:Str):dQ (b++[x]) k=if x=k then dQ b k++[b.length] else dQ b k:=by
 unfold dQ;rw[Yr,d9,List.range_succ,List.filter_append];have h1:(List.range b.length).filter (fun j=>(b++[x])[j]?==some k)=(List.range b.length).filter (fun j=>b[j]?==some k):=List.filter_congr fun j hj=>by
  rw[List.getElem?_append_left (List.mem_range.mp hj)]
 rw[h1];by_cases e:x=k
 ·subst e;simp
 ·simp[e]
theorem QO(k:Str):dQ [] k=[]:=rfl
def E9(t:List (Str×List Nat))(b:List Str):Prop:=∀k,gi t k=if dQ b k=[] then none else some (dQ b k)
theorem E9.nil:E9 [] []:=fun k=>by rw[QO];rfl
theorem E9.add{t:List (Str×List Nat)}{b:List Str}(h:E9 t b)(x:Str):E9 (dX t x b.length) (b++[x]):=fun k=>by
 rw[PD,QN];by_cases e:k=x
 ·subst e;rw[if_pos rfl,if_pos rfl,h k,if_neg (List.append_ne_nil_of_right_ne_nil _ (List.cons_ne_nil _ _))];by_cases q:dQ b k=[]
  ·rw[if_pos q,q];rfl
  ·rw[if_neg q];rfl
 ·have : ¬ x=k:=fun q=>e q.symm;rw[if_neg e,if_neg this];exact h k
theorem E9.chain:∀(xs:List Str) {t:List (Str×List Nat)} {b:List Str},E9 t b->E9 (gB t b.length xs) (b++xs)
 | [],t,b,h=>by rw[Zv];exact h
 |x::xs,t,b,h=>by
  have:=E9.chain xs (h.add x);rw[Yr,YN] at this;exact this
theorem Gp(k:Str)(i:Nat):∀t,(dX t k i).length<=t.length+1
 | []=>YR _
 |(y,js)::r=>by
  rw[tK];split
  ·simp
  ·have:=Gp k i r;simp only[Yq];omega
theorem Uj(xs:List Str):∀(t:List (Str×List Nat)) (i:Nat),(gB t i xs).length<=t.length+xs.length:=by
 induction xs with
 |nil=>exact fun O O=>YR _
 |cons x xs ih=>exact fun t i=>Zg (ih (dX t x i) (i+1)) (Zg (r6 (Gp x i t) _) (o5 (o4 ..)))
noncomputable abbrev ab:=Nat×Nat×Nat
noncomputable def dF(D:Int->Nat)(i:Nat)(s:(Int->Nat)×ab)(j:Nat):(Int->Nat)×ab :=
 (fun x=>if x=(j:Int) then D ((j:Int)-1)+1 else s.1 x,if s.2.2.2<D ((j:Int)-1)+1 then (i-D ((j:Int)-1),j-D ((j:Int)-1),D ((j:Int)-1)+1) else s.2)
noncomputable def within(blo t7:Nat)(js:List Nat):List Nat:=js.filter fun j=>decide (blo<=j)&&decide (j<t7)
noncomputable def eQ(js:List Nat)(blo t7 i:Nat)(s:(Int->Nat)×ab):(Int->Nat)×ab:=(within blo t7 js).foldl (dF s.1 i) (fun O=>0,s.2)
noncomputable def gb(idx:Nat->List Nat)(blo t7:Nat)(is:List Nat)(s:(Int->Nat)×ab):(Int->Nat)×ab:=is.foldl (fun s i=>eQ (idx i) blo t7 i s) s
noncomputable def bF(e:Nat->Nat->Bool)(alo blo:Nat):Nat->Nat->Nat->ab
 |i+1,j+1,k=>if decide (alo<i+1)&&(decide (blo<j+1)&&e i j) then bF e alo blo i j (k+1) else (i+1,j+1,k)
 |i,j,k=>(i,j,k)
noncomputable def cN(e:Nat->Nat->Bool)(t9 t7 i j:Nat):Nat->Nat->Nat
 |0,k=>k
 |f+1,k=>if decide (i+k<t9)&&(decide (j+k<t7)&&e (i+k) (j+k)) then cN e t9 t7 i j f (k+1) else k
noncomputable def bq(e:Nat->Nat->Bool)(idx:Nat->List Nat)(alo t9 blo t7:Nat):ab :=
 let s:=(gb idx blo t7 (Zx alo (t9-alo)) (fun O=>0,(alo,blo,0))).2
 let u:=bF e alo blo s.1 s.2.1 s.2.2
 (u.1,u.2.1,cN e t9 t7 u.1 u.2.1 (t9-(u.1+u.2.2)) u.2.2)
theorem Jr:Slot "dict" Lj "dict.setdefault" := by
 rw[show (Lj:Str)=Yn "setdefault" from by decide +kernel];exact F.slot_dict_setdefault
theorem Jt:Slot "dict" La "dict.get" := by
 rw[show (La:Str)=Yn "get" from by decide +kernel];exact F.slot_dict_get
theorem jc:Slot "list" Li "list.append" := by
 rw[show (Li:Str)=Yn "append" from by decide +kernel];exact F.slot_list_append
theorem Js:Slot "list" Ln "list.pop" := by
 rw[show (Ln:Str)=Yn "pop" from by decide +kernel];exact F.slot_list_pop
theorem Jq:Slot "list" MX "list.sort" := by
 rw[show (MX:Str)=Yn "sort" from by decide +kernel];exact F.slot_list_sort
theorem Ju:Slot "list" LF "list.extend" := by
 rw[show (LF:Str)=Yn "extend" from by decide +kernel];exact F.slot_list_extend
theorem Upd.skip{o o':y1}{l l':aa}(u:Upd a o o' l l'):∀ {r:aa},Upd a o o' (r++l) (r++l')
 | []=>u
 |_::r => .there (Upd.skip u (r:=r))
theorem pV{K:Type}[DecidableEq K]{knd:n8 vv w K}{m:List (K×AV)}{led:aa}(hm:(d,aB knd m)∈led):gF B (.ref d) led "dict" := fun s Z u V S=>by
 (have e_:=V.inv;subst e_)
 refine ae (S.own _ hm) fun o ho h_=>pF h_ fun es ep kvs hex O O O O O=>?_;exact⟨⟨_,ho,hex.1⟩,fun b e=>by cases e;exact bQ _ ho hex.2.1⟩
noncomputable abbrev dL:=List (Str×YV×List AV)
noncomputable def dU(js:List Nat):List AV:=js.map fun(j:Nat)=>AV.int (j:Int)
noncomputable def fj(t:List (Str×List Nat)):List (Str×List AV):=t.map fun e=>(e.1,dU e.2)
noncomputable def dn(es:dL):List (Str×List AV):=es.map fun e=>(e.1,e.2.2)
noncomputable def eG:List (Str×List AV)->Str->AV->List (Str×List AV)
 | [],k,i=>[(k,[i])]
 |(x,js)::r,k,i=>if x=k then (x,js++[i])::r else (x,js)::eG r k i
theorem tL{k:Str}{js:List AV}{i:AV}{r:List (Str×List AV)}:eG ((x,js)::r) k i=if x=k then (x,js++[i])::r else (x,js)::eG r k i:=rfl
theorem Tt(k:Str)(i:Nat)(t:List (Str×List Nat)):fj (dX t k i)=eG (fj t) k (.int i):=by
 induction t with
 |nil=>rfl
 |cons p r ih =>
  obtain⟨x,js⟩:=p;rw[tK];show fj (if x=k then _ else _)=eG ((x,dU js)::fj r) k (.int i);rw[tL];by_cases e:x=k
  ·rw[if_pos e,if_pos e];simp[fj,dU]
  ·rw[if_neg e,if_neg e,← ih];rfl
theorem Vd{k:Str}{js:List AV}{J1 J9:dL}:(∀e∈J1,e.1≠k)->eG (dn (J1++(k,a,js)::J9)) k v=dn (J1++(k,a,js++[v])::J9):=by
 induction J1 with
 |nil =>
  intro _;show eG ((k,js)::dn J9) k v=_;rw[tL];rw[if_pos rfl];rfl
 |cons e J1 ih =>
  intro h;show eG ((e.1,e.2.2)::dn (J1++(k,a,js)::J9)) k v=_;rw[tL];rw[if_neg (h e (Yi ..)),ih fun e' h'=>h e' (Yk _ h')];rfl
theorem Gq{k:Str}:∀ {es:dL},(∀e∈es,e.1≠k)->eG (dn es) k v=dn (es++[(k,a,[v])])
 | [],_=>rfl
 |e::es,h=>by
  show eG ((e.1,e.2.2)::dn es) k v=_;rw[tL];rw[if_neg (h e (Yi ..)),Gq fun e' h'=>h e' (Yk _ h')];rfl
noncomputable def dx(es:dL):List (Str×AV):=es.map fun e=>(e.1,.ref e.2.1)
noncomputable def eY(es:dL):aa:=es.map fun e=>(e.2.1,y1.list e.2.2)
theorem SK{k:Str}:∀ {es:dL},bn (dx es) k=some v->∃J1 a js J9,es=J1++(k,a,js)::J9/\v=.ref a/\∀e∈J1,e.1≠k:=by
 intro t_;induction t_ with
 |nil =>
  intro h;cases h
 |cons e_ es ih =>
  obtain⟨x,a,js⟩:=e_;intro h;unfold bn dx at h;rw[Yu,c8] at h;by_cases e:x=k
  ·simp only[e,decide_true,Option.map_some,ZO] at h;exact iP [] a js es (by rw[e];rfl) h.symm (fun O h=>by cases h)
  ·simp only[e,decide_false] at h;refine ed (ih (show bn (dx es) k=some v from h)) fun J1 a' js' J9 O5 O6 h'=>?_;subst O5;subst O6;exact⟨(x,a,js)::J1,a',js',J9,rfl,rfl,fun e' he=>by
    rcases Yp.mp he with rfl |he
    ·exact e
    ·exact h' e' he⟩
theorem SM{k:Str}{es:dL}(h:bn (dx es) k=none):∀e∈es,e.1≠k:=fun e he q=>by
 unfold bn dx at h;rw[Option.map_eq_none_iff,List.find?_eq_none] at h;exact h (e.1,.ref e.2.1) (YF he) (by simpa using q)
theorem Vc(k:Str)(i:Nat){t:List (Str×List Nat)}:(∀e∈t,e.2.length<=n)->∀e∈dX t k i,e.2.length<=n+1:=by
 induction t with
 |nil =>
  intro _ e he;rw[YB.mp he];exact p8 (YD _)
 |cons p r ih =>
  obtain⟨x,js⟩:=p;intro h e he;rw[tK] at he;split at he
  ·rcases Yp.mp he with rfl |he
   ·exact Yr▸p8 (h (x,js) (Yi ..))
   ·exact r9 (h e (Yk _ he))
  ·rcases Yp.mp he with rfl |he
   ·exact r9 (h (x,js) (Yi ..))
   ·exact ih (fun e' h'=>h e' (Yk _ h')) e he
theorem Ui(xs:List Str):∀(t:List (Str×List Nat)) (i n:Nat),(∀e∈t,e.2.length<=n)->∀e∈gB t i xs,e.2.length<=n+xs.length:=by
 induction xs with
 |nil=>exact fun O O O h=>h
 |cons x xs ih=>exact fun t i n h e he=>Zg (ih (dX t x i) (i+1) (n+1) (Vc x i h) e he) (o5 (o4 ..))
theorem FU(y:Str):∀(xs:List Str) (t:List (Str×List Nat)) (i:Nat),gB t i (xs++[y])=dX (gB t i xs) y (i+xs.length)
 | [],_,_=>rfl
 |x::xs,t,i=>(FU y xs (dX t x i) (i+1)).trans (congrArg (dX _ y) (by rw[Yq,p6,Nat.add_comm 1]))
noncomputable def oJ(es:dL):List (Str×AV):=es.map fun e=>(e.1,.lst e.2.2)
theorem SN{es:dL}{t:List (Str×List Nat)}(h:dn es=fj t)(k:Str):bn (oJ es) k=(gi t k).map fun js => .lst (dU js):=by
 have e:oJ es=(fj t).map fun e=>(e.1,AV.lst e.2):=by rw[← h];simp[oJ,dn]
 rw[e];clear h e;induction t with
 |nil=>rfl
 |cons p r ih =>
  obtain⟨x,js⟩:=p;unfold bn gi fj at *;rw[Yu,Yu,c8,c8];by_cases q:x=k
  ·simp[q]
  ·simp only[q,decide_false];exact ih
theorem SO{es:dL}{b:List Str}(h:dn es=fj (gB [] 0 b))(hb:b.length<200)(k:Str):(bn (oJ es) k).getD (.lst [])=.lst (dU (bO b k)):=by
 have hT:E9 (gB [] 0 b) b:=by simpa using E9.chain b E9.nil
 have hp:qF b k=false:=by unfold qF;simp[Nat.not_le.mpr hb]
 rw[SN h,hT k];unfold bO;rw[hp];by_cases q:dQ b k=[]
 ·rw[if_pos q,q];rfl
 ·rw[if_neg q];rfl
def FT(vv:YA)(w:YH)(A:Yz)(B:u6)(s9:Env)(elts:List Expr)(vs:List AV)(st:St)(K:Unit->St->Prop):Prop:=FA vv w A B s9 (elts.map fun e=>ZQ e s9) vs st K
theorem zf{K:Unit->St->Prop}(h:K () st):FT vv w A B s9 [] [] st K:=zm h
theorem mq{t:Expr}{ts:List Expr}{vs:List AV}{K:Unit->St->Prop}(h:F1 vv w A B s9 aV (ZQ t s9) v st fun O t5=>FT vv w A B s9 ts vs t5 K):FT vv w A B s9 (t::ts) (v::vs) st K:=Ha h
theorem dv{x1:Nat}{vs:List AV}{K:Unit->St->Prop}(hh:A.handled=none)(he:(ZZ elts s9).map (·.2)=elts.map fun e=>ZQ e s9)(hn:elts.length=vs.length)(P7:(ZZ elts s9).findIdx? (·.1)=none)
  (h:FT vv w A B s9 elts vs st K):F1 vv w A B s9 aV (ZQ (.Tuple elts x1 pos) s9) (.tup vs) st K :=
 XT hh (by rw[← hn,← Yl (f:=(·.2)) (as:=ZZ elts s9),he,Yl]) P7 (by exact(Eq.symm (he))▸h)
section
variable{led led':aa}
theorem za{K:Type}[DecidableEq K]{knd:n8 vv w K}(h:∀d,d∉keys led->B d=none->R (.ref d) ⟨loc,(d,aB knd [])::led⟩):T vv w A B s9 Val (ZI (.Dict [] [] pos) s9) ⟨loc,led⟩ R:=fun s Z S Q E hQ=>by
 have P:=S.tot8.push (o:={ cls:=.type "dict",data:=.dict #[]}) (ao:=aB knd []) rfl s.toks (oV (Heap.DictOf.new s.heap) .nil);have hB:B s.heap.objs.size=none:=by
  cases e:B s.heap.objs.size with
  |none=>rfl
  |some o=>have:=S.base _ _ e;rw[S.tot8.zfresh] at this;cases this
 have hq:=hQ _ _ _ _ _ (h _ S.tot8.lfresh hB) (S.after P.1 P.2) (.ref _) P.2.toF;rw[eval_Dict_empty];exact Yh (YU (Yh (wpAny_alloc (Yj hq))))
theorem dq(hs:spliced (g6 pos (Zl [] s9))=spliced [])(h:∀a,a∉keys led->R (.ref a) ⟨loc,(a,.list [])::led⟩):T vv w A B s9 Val (ZI (.List [] pos) s9) ⟨loc,led⟩ R :=
 fu (tP ⟨by decide,h⟩)
theorem eH(U:Upd a (.list xs) (.list (xs++[v])) led led')(hsz:xs.length<=Zc)(h:K .none ⟨loc,led'⟩) :
  FC vv w A B s9 (.blt "list.append") [.ref a,v] [] ⟨loc,led⟩ K:=zl hsz U h
theorem GS(h:∀a,a∉keys led->R (.ref a) ⟨loc,(a,dH)::led⟩):FC vv w A B s9 (.typ "set") [] [] ⟨loc,led⟩ R:=WK h
theorem WI{K:Type}[DecidableEq K]{knd:n8 vv w K}{m:List (K×AV)}{k:K}(U:Upd d (aB knd m) (aB knd (m++[(k,u)])) led led')(H5:(d==d5)=false)(hk:∀Z x,Val Z v x->knd.is k x=true)(hsz:m.length<=Zc)
  (h1:∀x,bn m k=some x->R x ⟨loc,led⟩) (h2:bn m k=none->R u ⟨loc,led'⟩) :
  FC vv w A B s9 (.blt "dict.setdefault") [.ref d,v,u] [] ⟨loc,led⟩ R:=WJ H5 hk hsz U h1 h2
end
theorem eI{K:Frag}{m m':List (Str×AV)}{led led':aa}{R:Unit->St->Prop}(ok:L7 K C)(ht:takerIn K C name=some none)
  (U:Upd d (bI m) (bI m') led led') (hm:df m name v=m') (hsz:m'.length<=1000) (h:R () ⟨loc,led'⟩):F2 vv w A (ap K) s9 aV (fun x y=>setAttr x name y) (.inst C d) v ⟨loc,led⟩ R:=Hj ok ht hm hsz U h
section
variable{led led':aa}
def L5(l l':aa):Prop:=∃r,l.Perm (r++l')
theorem L5.refl(l:aa):L5 l l:=⟨[],.refl _⟩
theorem L5.drop{p:YV×y1}{l:aa}:L5 (p::l) l:=⟨[p],.refl _⟩
theorem L5.perm{l l':aa}(h:l.Perm l'):L5 l l':=⟨[],h⟩
theorem w5.weak{l l':aa}(S:w5 B s9 s Z ⟨loc,l⟩)(h:L5 l l'):w5 B s9 s Z ⟨loc,l'⟩:=by
 obtain⟨r,p⟩:=h;exact(S.perm p).drop
theorem y8.weakF{o:R0}{s':Yo}{Z':u6}{l l':aa}(X:y8 o s Z s' Z' (aD s9 ⟨loc,l⟩))(h:L5 l l'):y8 o s Z s' Z' (aD s9 ⟨loc,l'⟩):=by
 obtain⟨r,p⟩:=h;rw[eT (s9:=s9) (loc:=loc) (w6:=loc) p] at X;exact y8.dropF X
theorem FC.weak{f:AV}{K0:AV->St->Prop}(h:FC vv w A B s9 f args kw st K0)(hw:∀v w6 l,K0 v ⟨w6,l⟩->∃l',L5 l l'/\K v ⟨w6,l'⟩):FC vv w A B s9 f args kw st K :=
 fun s Z fx xs ks hf hx hk S Q E hQ=>h s Z fx xs ks hf hx hk S Q E fun v x s' Z' t5 k S' V X=>by
  obtain⟨l',hl,k'⟩:=hw v t5.loc t5.led k;exact hQ v x s' Z' _ k' (w5.weak (loc:=t5.loc) (l:=t5.led) S' hl) V (y8.weakF (loc:=t5.loc) (l:=t5.led) X hl)
theorem T.weakPost{rel:u6->α->β->Prop}{t:Sem β}{K K0:α->St->Prop}(h:T vv w A B s9 rel t st K0)(hw:∀v w6 l,K0 v ⟨w6,l⟩->∃l',L5 l l'/\K v ⟨w6,l'⟩):T vv w A B s9 rel t st K :=
 fun s Z S Q E hQ=>h s Z S Q E fun v x s' Z' t5 k S' V X=>by
  obtain⟨l',hl,k'⟩:=hw v t5.loc t5.led k;exact hQ v x s' Z' _ k' (w5.weak (loc:=t5.loc) (l:=t5.led) S' hl) V (y8.weakF (loc:=t5.loc) (l:=t5.led) X hl)
theorem WH{dj:YV}{es:dL}{rest:aa}(H5:(dj==d5)=false)(hsz:es.length<=Zc)
  (h:∀J1 a' js J9,(∀v,eG (dn es) y v=dn (J1++(y,a',js++[v])::J9))->R (.ref a') ⟨loc,(dj,aB (YT vv w) (dx (J1++(y,a',js)::J9)))::(eY J1++(a',.list js)::(eY J9++rest))⟩) :
  FC vv w A B s9 (.blt "dict.setdefault") [.ref dj,.str y,.ref a] [] ⟨loc,(a,.list [])::(dj,aB (YT vv w) (dx es))::(eY es++rest)⟩ R:=by
 refine(WI (knd:=YT vv w) (k:=y) (m:=dx es) (led':=(a,.list [])::(dj,aB (YT vv w) (dx es++[(y,.ref a)]))::(eY es++rest)) (R:=fun v t5=>∃l',L5 t5.led l'/\R v ⟨t5.loc,l'⟩) (.there .here) H5 (sZ y) (by unfold dx;rw[Yl];exact hsz) (fun v hv=>?_) fun hv=>?_).weak fun v w6 l k=>k
 ·obtain⟨J1,a',js,J9,rfl,rfl,C8⟩:=SK hv;refine⟨_,.drop,?_⟩
  have:=h J1 a' js J9 fun v=>Vd C8;simpa[eY] using this
 ·have C8:=SM hv;refine⟨(dj,aB (YT vv w) (dx (es++[(y,a,[])])))::(eY es++(a,.list [])::(eY []++rest)),.perm ?_,h es a [] [] fun v=>Gq C8⟩;have e:dx (es++[(y,a,[])])=dx es++[(y,.ref a)]:=by simp[dx]
  rw[e];refine(c0 ..).trans (.cons _ ?_);show List.Perm ((a,y1.list [])::(eY es++rest)) (eY es++(a,y1.list [])::rest);exact ZX.symm
end
theorem t8.weak{l l':aa}(S:t8 B s Z l)(h:L5 l l'):t8 B s Z l':=by
 obtain⟨r,p⟩:=h;exact(S.perm p).drop
theorem y8.weakL{o:R0}{s':Yo}{Z':u6}{l l':aa}(X:y8 o s Z s' Z' (aj l))(h:L5 l l'):y8 o s Z s' Z' (aj l'):=by
 obtain⟨r,p⟩:=h;rw[er p] at X;refine X.less (fun a h=>?_) fun a h=>?_
 ·show a∈keys (r++l');rw[keys,YK];exact YQ _ h
 ·show a∈gkeys (r++l');unfold gkeys;rw[i9];exact YQ _ h
theorem TC.weak{f:AV}{led:aa}{K:AV->aa->Prop}(h:TC vv w A B f args kw led fun v l=>∃l',L5 l l'/\K v l'):TC vv w A B f args kw led K :=
 fun s Z fx xs ks S hf hx hk R hR=>h s Z fx xs ks S hf hx hk R fun v x s' Z' led' k S' V X=>by
  obtain⟨l',hl,k'⟩:=k;exact hR v x s' Z' l' k' (S'.weak hl) V (X.weakL hl)
theorem TC.mono{f:AV}{led:aa}{K K':AV->aa->Prop}(h:TC vv w A B f args kw led K)(hk:∀v l,K v l->K' v l):TC vv w A B f args kw led K' :=
 fun s Z fx xs ks S hf hx P9 R hR=>h s Z fx xs ks S hf hx P9 R fun v x s' Z' led' k S' V X=>hR v x s' Z' led' (hk _ _ k) S' V X
theorem ig{f:AV}{led:aa}{K0:AV->aa->Prop}(h:TC vv w A B f args kw led K0)(hk:∀v led',K0 v led'->K v ⟨loc,led'⟩):FC vv w A B s9 f args kw ⟨loc,led⟩ K :=
 zg (h.mono hk)
theorem Qh{K:Frag}{f:YV}{k:Keeper}(e:Zm K ⟨vv,w.params⟩ (keeperOf (.ref f))=some k):gI vv w (ap K) (.ref f):=fun A s Z fx V le fr Q E hQ=>by
 (have e_:=V.inv;subst e_)
 exact k8 (M:=YG vv w) (dA le fr) e A Q E s (fun b o e=>e) (hQ k)
theorem dc{K:Frag}{f:YV}(e:(Zm K ⟨vv,w.params⟩ (keeperOf (.ref f))).isSome=true):gI vv w (ap K) (.ref f):=by
 obtain⟨k,e⟩:=Option.isSome_iff_exists.mp e;exact Qh e
theorem Xi{K:Type}[DecidableEq K]{knd:n8 vv w K}{m:List (K×AV)}{k:K}{led led':aa}{R:Unit->St->Prop}(U:Upd d (aB knd m) (aB knd (eP m k u)) led led')
  (hk:∀Z x,Val Z v x->knd.is k x=true) (hsz:m.length<=Zc) (h:R () ⟨loc,led'⟩):F3 vv w A B s9 setItem (.ref d) v u ⟨loc,led⟩ R:=Xj hk hsz rfl U h
theorem TC.perm{f:AV}{l l':aa}{K:AV->aa->Prop}(p:l.Perm l')(h:TC vv w A B f args kw l' K):TC vv w A B f args kw l K :=
 fun s Z fx xs ks S hf hx hk R hR=>h s Z fx xs ks (S.perm p) hf hx hk R fun v x s' Z' led' k S' V X=>hR v x s' Z' led' k S' V (by exact(Eq.symm (er p))▸X)
theorem WL{f:AV}{led C7:aa}{K0:AV->Prop}(p:led.Perm C7)(h:TC vv w A B f args kw C7 fun v l=>K0 v/\l=C7)(hk:∀v,K0 v->K v ⟨loc,led⟩):FC vv w A B s9 f args kw ⟨loc,led⟩ K :=
 FC.weak (K0:=fun v t5=>K0 v/\t5=⟨loc,C7⟩) (zg ((TC.perm p h).mono fun v l h'=>⟨h'.1,by rw[h'.2]⟩)) fun v w6 l h'=>by
  obtain⟨h1,h2⟩:=h';cases h2
  exact⟨led,.perm p.symm,hk v h1⟩
theorem Vo{t u r:Expr}{R:u7->St->Prop}(hs:swapsWithSole [t,u,r] value pos.line s9=b9 false)(hw:swappedStores [t,u,r] value s9=b9 none)(he:ZZ [t,u,r] s9=[(false,ZQ t s9),(false,ZQ u s9),(false,ZQ r s9)])
  (h:T vv w A B s9 Val (ZI value s9) st fun v y6=>F1 vv w A B s9 aV (ZQ t s9) v y6 fun O A5=>F1 vv w A B s9 aV (ZQ u s9) v A5 fun O D1=>F1 vv w A B s9 aV (ZQ r s9) v D1 fun O F4=>R .next F4):T vv w A B s9 y0 (exec (.Assign [t,u,r] value pos) s9) st R :=
 yY hs hw (by
  exact(Eq.symm (he))▸h.mono fun v t5 k=>zv (fun s Z x V S Q E hQ=>k s Z x V S Q E fun v' x' s' Z' t5 k'=>hQ v' x' s' Z' t5 (zv k')))
section
variable{K:Frag}
theorem cZ{t:Sem α}{a:α}{Q:α->Yo->Prop}(X:K.In s.heap)(e:Zm K ⟨vv,w.params⟩ t=some a)(h:Q a s):YJ (YG vv w) A t Q E s :=
 k8 (M:=YG vv w) X e A Q E s (fun b o e=>e) h
structure D_ (vv:YA) (w:YH) (K:Frag) (C:YV):Prop where
 isT:Zm K ⟨vv,w.params⟩ (isType (.ref C))=some true
 sub:Zm K ⟨vv,w.params⟩ (l4 (.ref C) (.type "tuple"))=some true
 here:Zm K ⟨vv,w.params⟩ (Bind.madeHere "tuple.__new__" (.ref C))=some ()
 ini:Zm K ⟨vv,w.params⟩ (ZJ (.ref C) "__init__")=some (some (.builtin "object.__init__"))
 del:Zm K ⟨vv,w.params⟩ (classHasDel C)=some false
theorem Ki{t:YV}{o:Obj}{items:Array Value}{P:PySem.Fin->Yo->Prop}(ok:D_ vv w K C)(X:K.In s.heap)(ho:s.heap.get? t=some o)(hc:o.cls=.type "tuple")(hd:o.data=.seq items n)(hsz:items.size<=Zc)
  (h:∀h':Heap,(∀b o',s.heap.get? b=some o'->h'.get? b=some o')->P (.done (.ret (.ref (h'.objs.size+1)))) {s with heap:=(h'.push {cls:=.type "dict",data:=.dict #[]}).push {cls:=.ref C,dict:=some h'.objs.size,data:=.seq items} }) :
  YJ (YG vv w) A (Builtin.«tuple.__new__» ⟨[.ref C,.ref t],[]⟩) P E s:=by
 unfold Builtin.«tuple.__new__»;refine Yh (cZ X ok.isT ?_);refine Zw rfl ?_;refine Yh (cZ X ok.sub ?_);refine Zw rfl ?_;refine Yh (cZ X ok.here ?_);refine Yh (cZ X ok.ini ?_);refine KFB.if_so (by decide +kernel) ?_;refine Yh (Zr (a:=()) rfl ?_);refine Yh (Zr (a:=()) @_ ?_);refine Zw rfl ?_;refine Yh (wpAny_collect_seq t (.inr rfl) ho hc hd (fun h' hk=>?_) hsz);refine Yh (Yj ?_);refine Yh (wpAny_alloc ?_);refine Yh ?_;unfold newObj;dsimp only;refine fW (by simpa using Nat.not_lt.mpr hsz) ?_;unfold newObjAsIs;refine Yh (wpAny_alloc ?_);dsimp only;have X':K.In ((h'.push {cls:=.type "dict",data:=.dict #[]}).push {cls:=.ref C,dict:=some h'.objs.size,data:=.seq items}):=fun a o e=>Yt _ (Yt _ (hk a o (X a o e)));have e1:(h'.push {cls:=.type "dict",data:=.dict #[]}).objs.size=h'.objs.size+1:=l7 ..;have fin:=h h' hk;rw[← e1] at fin;refine Yh (cZ (K:=K) (by simpa using X') ok.del ?_);refine Zw rfl ?_;refine Yj ?_;refine Yj ?_;simpa using fin
end
section
variable{K:Frag}
theorem RV{T' id:String}{pl:Sem Bool}{Q:Value×List Value->Yo->Prop}(X:K.In s.heap)(E2:Manifest.isStub T'=false)(Z9:typeOf (.type T')=b9 (.type "type"))
  (hg:findIn K (.type "type") "__getattribute__" = some (some (.builtin "type.__getattribute__"))) (H6:subIn K (.type "type") (.type "type")=some true)
  (e:findCls K (.type T') (.type "type") name=some (.val (.builtin id))) (hh:handedOut (.builtin id)=b9 (.builtin id)) (h:Q (.builtin id,[]) {s with toks:=s.toks+1}):YJ (YG vv w) A (getMethod (.type T') name pl) Q E s:=by
 have Ø:opaqueClassAbove (.type T')=b9 none:=by unfold opaqueClassAbove;dsimp only;rw[E2];rfl
 have L0:Looks (YG vv w) s.heap (typeOf (.type T')) (.type "type"):=Looks.of_pure Z9;unfold getMethod specialOf;refine Yh (Yh (L0.here ((looks_findIn X hg).here ?_)));dsimp only;rw[if_pos canon_tga];refine Yh (Zk (Q:=fun v=>Q (v,[])) (E:=E) ?_ (fun O O z=>Yj z) fun O O z=>z);have LO:Looks (YG vv w) s.heap (opaqueClassAbove (.type T')) none:=Looks.of_pure Ø;refine cls_open X LO L0 hg (looks_hook X (r:=none) (by rfl)) H6 e ?_;refine Yj ?_;show YJ _ _ (handedOut (.builtin id)) _ _ _;rw[hh];exact Yj h
theorem GB{o:Expr}{I0:Pos}{args:List Expr}{T' id:String}
  (H0:attributeBase o name s9 (ZI o s9)=ZI o s9)
  (T2:((g6 pos (Zl args s9)).all (fun x => !x.1)&&(backToKw pos (keywordEach [] s9)).all (fun x=>x.1.isSome)
   && decide (args.length+([]:List Keyword).length+(if ([]:List Keyword).isEmpty then 0 else 1)<30))=true)
  (G7:(I0.endLine==pos.line)=true) (E2:Manifest.isStub T'=false) (Z9:typeOf (.type T')=b9 (.type "type"))
  (hg:findIn K (.type "type") "__getattribute__" = some (some (.builtin "type.__getattribute__"))) (H6:subIn K (.type "type") (.type "type")=some true)
  (e:findCls K (.type T') (.type "type") name=some (.val (.builtin id))) (hh:handedOut (.builtin id)=b9 (.builtin id))
  (h:T vv w A (ap K) s9 Val (ZI o s9) st fun v y6=>v=.typ T'/\CA vv w A (ap K) s9 pos (.blt id) [] args y6 R) :
  T vv w A (ap K) s9 Val (ZI (.Call (.Attribute o name I0) args [] pos) s9) st R:=fun s Z S Q E hQ=>by
 rw[arm_eval_Call,H0];refine Yh (h s Z S _ _ fun v x s₁ Z1 y6 k₁ S1 V1 X1=>Yh (YU ?_));obtain⟨rfl,hc⟩:=k₁
 (have e_:=V1.inv;subst e_)
 have o_:methodCallForm (args.length+([]:List Keyword).length) (g6 pos (Zl args s9)) (backToKw pos (keywordEach [] s9))=true:=T2;have W5:methodCallPos true o s9 I0 pos=b9 pos:=by unfold methodCallPos;simp[G7]
 unfold methodCall;rw[o_];refine Yh (Yw (RV (K:=K) (dA S1.base S1.frozen) E2 Z9 hg H6 e hh ?_));refine Yh (Zr W5 ?_);exact hc _ Z1 (.builtin id) [] (.blt id) .nil (S1.toks _) _ _ fun v y s' Z' t5 k S' V X=>hQ v y s' Z' t5 k S' V ((X1.trans (.toks _)).trans X)
theorem GR(ok:D_ vv w K C)(hsz:xs.length<=Zc)(Δ:∀x,Zm K ⟨vv,w.params⟩ (checkBuiltinCall "tuple.__new__" ⟨[.ref C,x],[]⟩)=some ())(h:R (.mat C xs) st) :
  FC vv w A (ap K) s9 (.blt "tuple.__new__") [.ref C,.tup xs] [] st R:=FC.b fun s Z S Q E hQ=>Vals.un <| Val.eRef <| Vals.un <| fun O h2=>Vals.un0 <| by
 refine bv (iF h2) fun a items n qv e hv=>?_;subst qv;refine f9 (d3 (b:=Builtin.«tuple.__new__») (by decide +kernel) (f1 @_) (cZ (dA S.base S.frozen) (Δ _) ?_));refine Ki (items:=items.toArray) ok (dA S.base S.frozen) (S.frozen _ _ e) rfl rfl (by simpa[hv.length] using hsz) fun h' hk=>?_;have P0:=S.keepAll (h':=h') (tk:=s.toks) hk;have P1:=P0.1.tot8.push0 (o:={ cls:=.type "dict",data:=.dict #[]}) s.toks;have P2:=P1.1.pushZ (o:={ cls:=.ref C,dict:=some h'.objs.size,data:=.seq items.toArray}) rfl s.toks;have X:=P1.2.trans P2.2;have hs:(h'.push {cls:=.type "dict",data:=.dict #[]}).objs.size=h'.objs.size+1:=l7 ..;refine hQ _ _ _ _ _ h (P0.1.after P2.1 X) ?_ (P0.2.trans X.toF);exact(hs)▸.mat (u6.add_at ..) (hv.mono X.le)
end
structure V8 (vv:YA) (w:YH) (K:Frag) (C fN:YV):Prop where
 obj:∃o cd,K.lookup C=some o/\o.data=.cls cd
 call:Zm K ⟨vv,w.params⟩ (specialOf (.ref C) "__call__")=some (some (.builtin "type.__call__"))
 typ:Zm K ⟨vv,w.params⟩ (isInstance (.ref C) (.type "type"))=some true
 mro:∃l,Zm K ⟨vv,w.params⟩ (mroOf (.ref C))=some l/\l.isEmpty=false
 made:Zm K ⟨vv,w.params⟩ (Bind.madeBy (.ref C))=some none
 reads:readsIn K C (.type "type")=true
 new:∃p rest,findCls K (.ref C) (.type "type") "__new__" = some (.get (.builtin "staticmethod.__get__") (.ref p) .none (.ref C))/\recIn K p "staticmethod" = some (.ref fN::rest)
 sub:Zm K ⟨vv,w.params⟩ (l4 (.ref C) (.ref C))=some true
 subo:Zm K ⟨vv,w.params⟩ (l4 (.ref C) (.type "object"))=some true
 ini:Zm K ⟨vv,w.params⟩ (ZJ (.ref C) "__init__")=some (some (.builtin "object.__init__"))
section
variable{K:Frag}
theorem UM(a b c d:Value):m9 "object.__init__" ⟨[a,b,c,d],[]⟩:=by unfold m9;kernel_rfl
theorem VN{fN:YV}{x y z:AV}{led:aa}{R:AV->aa->Prop}(hA:w0 A (k+1))(ok:V8 vv w K C fN)
  (h:∀A',w0 A' k->TC vv w A' (ap K) (.ref fN) [.ref C,x,y,z] [] led fun v led'=>v=.mat C xs/\R (.mat C xs) led') :
  TC vv w A (ap K) (.ref C) [x,y,z] [] led R:=fun s Z fx vs ks S T0 hx P9 Q hQ=>by
 have e:=T0.inv;subst e;refine w8.un0 (P:=fun ks=>codeAny (YG vv w) A (.call (.ref C) ⟨vs,ks⟩) Q s) ?_ ks P9;refine Vals.un3 (P:=fun vs=>Vals Z [x,y,z] vs->codeAny (YG vv w) A (.call (.ref C) ⟨vs,[]⟩) Q s) (fun x1 O x2 O x3 O hx0=>?_) vs hx hx;have X:=dA S.base S.frozen;refine bK ok.obj fun o cd ho hd=>?_;refine codeAny_of_tree ?_;show YJ _ _ (callAny (.ref C) _) _ _ _;unfold callAny;refine Yh (wpAny_load (X _ _ ho) ?_);rw[hd];show YJ _ _ (callAny.viaDunder (.ref C) _) _ _ _;unfold callAny.viaDunder;refine Yh (cZ X ok.call ?_);dsimp only;rw[tc_bind];refine Yh (Yj (Yh (Yj ?_)));refine Yj (a:=Fin.again (.call (.builtin "type.__call__") ⟨.ref C::[x1,x2,x3],[]⟩)) (And.intro rfl ?_);refine codeAny_call_builtin_at (Code.quiet_builtin _ (by decide +kernel)) entry_typeCall (check_slot tc_kind tc_split (k8 X ok.typ) (tc_args _ _ _) ?_);unfold Builtin.«type.__call__»;refine Zw rfl ?_;refine ae ok.mro fun l Ė N7=>?_;refine Yh (cZ X Ė ?_);refine Zw N7 ?_;refine Yh (cZ X ok.made ?_);dsimp only;refine bK ok.new fun p rest hn1 ē=>?_;refine Yh (cls_bind X ok.reads hn1 (f9 (sm_get (s:={ s with toks:=s.toks+1}) X ē (handed_on rfl ?_))));refine Yh (Yw (f9 ?_));have S1:t8 (ap K) {s with toks:=s.toks+1} Z led:=⟨S.base,S.frozen,S.nodup,S.apart,fun p hp=>(S.own p hp).mono (.refl _) (fun O e=>e) fun O O O e=>e,S.gnodup,S.bare⟩;refine h (A.under (.builtin "type.__call__" ⟨.ref C::[x1,x2,x3],[]⟩)) ⟨hA.h,?_,?_⟩ _ Z (.ref fN) _ [] S1 (.ref fN) (.cons (.ref C) hx0) .nil _ fun v x' s' Z' led' k S' V X'=>?_
 ·have e:(Code.builtin "type.__call__" ⟨.ref C::[x1,x2,x3],[]⟩).weight=1:=@_
  have:=hA.d;show A.depth+(Code.builtin "type.__call__" ⟨.ref C::[x1,x2,x3],[]⟩).weight+k<=_;rw[e];omega
 ·have e:(Code.builtin "type.__call__" ⟨.ref C::[x1,x2,x3],[]⟩).cUnits=1:=@_
  have:=hA.u;show A.units+(Code.builtin "type.__call__" ⟨.ref C::[x1,x2,x3],[]⟩).cUnits+k<=_;rw[e];omega
 ·refine aL k ?_;clear k;intro O1 k;subst O1;have V0:=V;refine ed (tp V) fun a d items n qv e hv=>?_;subst qv;have X2:=dA S'.base S'.frozen;have ha:=S'.frozen _ _ e;have tl:Looks (YG vv w) s'.heap (typeOf (.ref a)) (.ref C):=(Looks.ld ha).andThen .now;refine Yh (Yh (tl.here (cZ X2 ok.sub ?_)));refine Zw rfl ?_;refine Yh (Yw ?_);unfold callSpecial? specialOf;refine Yh (Yh (tl.here (cZ X2 ok.ini ?_)));dsimp only;refine Yw ?_;refine Yh (Zr (F.slot_object_init.bind _) ?_);refine Yh (f9 (d3 F.slot_object_init.plain F.entry_object_init (check_slot (i := "object.__init__") (owner := "object") (n := "__init__") (by decide +kernel) (by decide +kernel) (tl.andThen (k8 X2 ok.subo)) (UM _ _ _ _) ?_)));unfold Builtin.«object.__init__»;refine KFB.if_so rfl ?_;refine Yh (tl.here ?_);refine Yh (cZ X2 ok.ini ?_);dsimp only;refine Yh (cZ X2 ok.made ?_);refine Zw (by decide +kernel) ?_;refine Zw (by decide +kernel) ?_;refine Yj ?_;refine Yj ?_;dsimp only;refine Zw rfl ?_;refine Yj ?_;have X3:y8 (aj led) s Z s' Z' (aj led'):=⟨X'.le,X'.kept,X'.grow,X'.zgrow,X'.os,X'.gkept,X'.ggrow⟩;exact hQ _ _ s' Z' led' k S' V0 X3
end
structure V7 (vv:YA) (w:YH) (K:Frag) (C:YV):Prop where
 it:Zm K ⟨vv,w.params⟩ (ZJ (.ref C) "__iter__")=some (some (.builtin "tuple.__iter__"))
 sub:Zm K ⟨vv,w.params⟩ (l4 (.ref C) (.type "tuple"))=some true
section
variable{K:Frag}
theorem Ix{t:YV}{ot:Obj}{items:Array Value}{x:Value}{Q:Option Value->Yo->Prop}(hit:s.heap.IsTupleIter it t i)
  (Χ:s.heap.get? t=some ot) (õ:ot.data=.seq items n) (hx:items[i]?=some x)
  (hQ:∀h',h'.IsTupleIter it t (i+1)->YS it s.heap h'->Q (some x) {s with heap:=h' }) :
  YJ (YG vv w) A (e9 (.ref it)) Q E s:=by
 refine aZ (id hit) fun o ho hc hd=>?_;unfold e9;refine Yh (f2 (Zn (name:=Yn "__next__") hit.typeIs d4
  (Zf d4 hit.typeIs F.entry_tuple_iterator_next ?_ (F.args_tuple_iterator_next_1 _))))
 show YJ _ _ (field (.ref it) 0>>=_) _ _ s;refine Yh (j4 ho hd (x:=.ref t) rfl ?_);refine Zw rfl ?_;refine Yh (j4 ho hd (x:=.int i 0) rfl ?_);refine Yh (a8 Χ õ ?_);simp only[Zb,hx];refine Yh (wpAny_setField ho hd (by simp) (Yj ⟨x,rfl,Yj (hQ _ ?_ (YX ..))⟩));exact⟨_,YZ _ ho (g7 (l9 hd _)),(Obj.cls_mapFields ..).trans hc,by
  rw[l9 hd];simp[ZG]⟩
theorem Iy{t:YV}{ot:Obj}{items:Array Value}{Q:Option Value->Yo->Prop}(hh:A.handled=none)(hit:s.heap.IsTupleIter it t i)
  (Χ:s.heap.get? t=some ot) (õ:ot.data=.seq items n) (hx:items[i]?=none)
  (hQ:∀h',Heap.ExtBut it s.heap h'->Q none {s with heap:=h' }):YJ (YG vv w) A (e9 (.ref it)) Q E s:=by
 refine aZ (id hit) fun o ho hc hd=>?_;unfold e9;refine Yh (f2 (Zn (name:=Yn "__next__") hit.typeIs d4
  (Zf d4 hit.typeIs F.entry_tuple_iterator_next ?_ (F.args_tuple_iterator_next_1 _))))
 show YJ _ _ (field (.ref it) 0>>=_) _ _ s;refine Yh (j4 ho hd (x:=.ref t) rfl ?_);refine Zw rfl ?_;refine Yh (j4 ho hd (x:=.int i 0) rfl ?_);refine Yh (a8 Χ õ ?_);simp only[Zb,hx];refine Yh (ZM (Yh (wpAny_setField ho hd (by simp) ?_)));show YJ _ _ (newExc (.type "StopIteration") []>>=_) _ _ _;refine Yh ?_;dsimp only[newExc,newTuple];refine Yh (Zo ?_ (by size_fits));refine Yh (m:=f6 _ _) (Zr (a:=ZC) (by first |rfl |(dsimp only[f6];rfl)) ?_);refine Zo ?_ (by size_fits);dsimp only[raiseNew];refine Yh (wpAny_handled ?_);rw[show A.in1.handled=none from hh];refine Yh (Yj (wpAny_throw ?_));refine Yh (ZV (T := "StopIteration") (b:=true) ⟨_,Ys _ rfl,rfl⟩ isSubtype_stop ?_);exact Yj (hQ _ (((YX ..).extBut.push _).push _))
theorem Iz{t:YV}{ot:Obj}{items:Array Value}{m:Nat}(C8:t≠it)(õ:ot.data=.seq items m):∀(n i:Nat) (s:Yo) (Q:List Value->Yo->Prop),s.heap.IsTupleIter it t i->s.heap.get? t=some ot->i+n<=items.size ->
  (∀h',h'.IsTupleIter it t (i+n)->YS it s.heap h'->Q ((items.toList.drop i).take n) {s with heap:=h' })->YJ (YG vv w) A (draw (.ref it) n) Q E s:=by
 intro t_;induction t_ with
 |zero =>
  intro i s Q hit _ _ hQ;exact Yj (by simpa using hQ s.heap hit (Heap.SameBut.refl ..))
 |succ n ih =>
  intro i s Q hit Χ hle hQ;have C5:i<items.size:=by omega
  show YJ _ _ (e9 (.ref it)>>=_) Q E s;refine Yh (Ix hit Χ õ (x:=items[i]) (by simp[C5]) fun h1 φ Q8=>?_);refine Yh (Yw (ih (i+1) _ _ φ ((Q8.2 t C8).trans Χ) ⋯ fun h2 hit2 U5=>Yj ?_));have hd:items.toList.drop i=items[i]::items.toList.drop (i+1):=by simp[ZT,C5]
  have:=hQ h2 (by rw[show i+(n+1)=i+1+n by omega];exact hit2) (Q8.trans U5);rw[hd,List.take_succ_cons] at this;exact this
theorem Pg{items:Array Value}(ok:V7 vv w K C)(X:K.In s.heap)(ha:s.heap.get? a=some {cls:=.ref C,dict:=some d,data:=.seq items n})
  (hQ:Q (.ref s.heap.objs.size) {s with heap:=s.heap.push {cls:=.type "tuple_iterator",data:=.fields #[.ref a,.int 0 0]} }) :
  YJ (YG vv w) A (pyIter (.ref a)) Q E s:=by
 have tl:Looks (YG vv w) s.heap (typeOf (.ref a)) (.ref C):=(Looks.ld ha).andThen .now;have hc:YJ (YG vv w) A (call (.builtin "tuple.__iter__") [.ref a]) (fun v s'=>v=.ref s.heap.objs.size/\s'={ s with heap:=s.heap.push {cls:=.type "tuple_iterator",data:=.fields #[.ref a,.int 0 0]} }) (fun O O=>False) s:=by
  refine f9 (d3 F.slot_tuple_iter.plain F.entry_tuple_iter (check_slot (i := "tuple.__iter__") (owner := "tuple") (n := "__iter__") (by decide +kernel) (by decide +kernel) (tl.andThen (k8 X ok.sub)) (F.args_tuple_iter_1 _) ?_));show YJ _ _ (do ret (← newFields "tuple_iterator" [.ref a,ZG 0])) _ _ s;exact Yh (Zo (Yj ⟨rfl,rfl⟩))
 unfold pyIter specialOf;refine Yh (Yh (tl.here (cZ X ok.it ?_)));dsimp only;refine Yh ?_;dsimp only[callSpecialIfBoundUnlessNone?,bindSpecialIfBound?];refine Yw (Yh ?_);unfold specialOf;refine Yh (Yh (tl.here (cZ X ok.it ?_)));dsimp only[F.slot_tuple_iter.bind];refine Yh (wpAny_askSetting (wpAny_ite ?_));have Ġ:∀hp:Heap,hp=s.heap.push {cls:=.type "tuple_iterator",data:=.fields #[.ref a,.int 0 0]}->({s with heap:=hp}:Yo).TypeIs (.ref s.heap.objs.size) "tuple_iterator" := fun hp e=>by subst e;exact bQ _ (Ys _ rfl) rfl
 split
 ·refine Yh (Yj (Yj ?_));refine Zw rfl (Yh (Zk hc (fun v s' h'=>?_) fun O O h'=>h'.elim));refine aL h' fun O1 O2=>?_;clear h';subst O1;subst O2;exact Yj (Yh (m4 (Ġ _ rfl) F.slot_tuple_iterator_next.lookup (Yj hQ)))
 ·refine wpAny_tryCatch (Yh (Yj (Yj ?_)));refine Zw rfl (Yh (Zk hc (fun v s' h'=>?_) fun O O h'=>h'.elim));refine aL h' fun O1 O2=>?_;clear h';subst O1;subst O2;exact Yj (Yh (m4 (Ġ _ rfl) F.slot_tuple_iterator_next.lookup (Yj hQ)))
theorem Pe{items:Array Value}{Q:List Value->Yo->Prop}(hh:A.handled=none)(ok:V7 vv w K C)(X:K.In s.heap)(ha:s.heap.get? a=some {cls:=.ref C,dict:=some d,data:=.seq items n})
  (hQ:∀h',Heap.ExtBut s.heap.objs.size s.heap h'->Q items.toList {s with heap:=h' }):YJ (YG vv w) A (unpackItems (.ref a) items.size none) Q E s:=by
 have tl:Looks (YG vv w) s.heap (typeOf (.ref a)) (.ref C):=(Looks.ld ha).andThen .now;have C5:a≠s.heap.objs.size:=ZE (Zj ha);unfold unpackItems;refine Yh ?_;unfold notIterableAtAll specialOf;refine Yh (Yh (tl.here (cZ X ok.it ?_)));refine KFB.if_so rfl ?_;refine Yj ?_;refine Zw rfl ?_;refine Yh (Yw (Pg ok X ha ?_));refine Yh (Yw (Iz (ot:={ cls:=.ref C,dict:=some d,data:=.seq items n}) C5 rfl items.size 0 _ _ ⟨_,Ys _ rfl,rfl,rfl⟩ (Yt _ ha) ⋯ fun h1 φ Q8=>?_));have K6:List.take items.size (List.drop 0 items.toList)=items.toList:=by rw[List.drop_zero];exact List.take_of_length_le (by simp)
 rw[K6];refine fW (by simp) ?_;refine Yh (Yw (Iy hh φ ((Q8.2 a C5).trans (Yt _ ha)) rfl (by simp) fun h2 he2=>?_));refine Zw rfl ?_;exact Yj (hQ h2 fun b o hb e=>he2 b o hb (Q8.extBut b o hb (Yt _ e)))
end
section
variable{K:Frag}
theorem zu{x1:Nat}{vs:List AV}{R:Unit->St->Prop}(hh:A.handled=none)(ok:V7 vv w K C)(he:(ZZ elts s9).map (·.2)=elts.map fun e=>ZQ e s9)(hn:elts.length=vs.length)(P7:(ZZ elts s9).findIdx? (·.1)=none)
  (h:FT vv w A (ap K) s9 elts vs st R):F1 vv w A (ap K) s9 aV (ZQ (.Tuple elts x1 pos) s9) (.mat C vs) st R:=fun s Z u V S Q E hQ=>by
 refine ed (tp V) fun a d items n qv e hv=>?_;subst qv;have hln:(ZZ elts s9).length=items.toArray.size:=by
  rw[← Yl (f:=(·.2)) (as:=ZZ elts s9),he,Yl,hn,← hv.length];simp
 rw[arm_assign_Tuple];unfold unpack;rw[hln,P7,he];refine Yh (YU (Yh (Yw (Pe hh ok (dA S.base S.frozen) (S.frozen _ _ e) fun h' hx=>?_))));refine aL (S.ext1 hx) fun S' X'=>?_;exact h _ Z _ (by simpa using hv) S' Q E fun v x G5 E8 A3 k' D7 V' L4=>hQ v x G5 E8 A3 k' D7 V' (X'.trans L4)
end
noncomputable def am(a b:List Str)(i j:Nat):Bool:=a[i]?==b[j]?
noncomputable def aI(a b:List Str)(i:Nat):List Nat:=(a[i]?).elim [] (bO b)
def K7(m:List (Int×AV))(D:Int->Nat):Prop:=∀x,(bn m x).getD (.int 0)=.int (D x)
theorem K7.nil:K7 [] (fun O=>0):=fun O=>rfl
theorem K7.store{m:List (Int×AV)}{D:Int->Nat}(h:K7 m D)(j:Int)(k:Nat):K7 (eP m j (.int k)) (fun x=>if x=j then k else D x):=fun x=>by
 rw[SJ];dsimp only;by_cases e:x=j
 ·rw[if_pos e,if_pos e];rfl
 ·rw[if_neg e,if_neg e];exact h x
structure C2 (alo blo t7 i:Nat) (s:(Int->Nat)×ab):Prop where
 d1:∀x,s.1 x<=i-alo
 d2:∀x,0<s.1 x->(blo:Int)<=x/\(s.1 x:Int)<=x+1-blo
 b1:alo<=s.2.1
 b2:s.2.1+s.2.2.2<=i
 b3:blo<=s.2.2.1
 b4:s.2.2.1+s.2.2.2<=t7
theorem C2.start(h:blo<=t7):C2 alo blo t7 alo (fun O=>0,(alo,blo,0)):=⟨fun O=>YD _,fun O h=>absurd h (d7 _),YR _,YR _,YR _,h⟩
theorem C2.row{s:(Int->Nat)×ab}(h:C2 alo blo t7 i s):C2 alo blo t7 (i+1) (fun O=>0,s.2):=⟨fun O=>YD _,fun O h=>absurd h (d7 _),h.b1,r9 h.b2,h.b3,h.b4⟩
theorem C2.len{s:(Int->Nat)×ab}(h:C2 alo blo t7 i s)(hi:alo<=i)(h1:blo<=j):s.1 ((j:Int)-1)<=i-alo/\s.1 ((j:Int)-1)<=j-blo:=by
 refine⟨h.d1 _,?_⟩;by_cases q:0<s.1 ((j:Int)-1)
 ·have:=(h.d2 _ q).2;rw[Int.sub_add_cancel] at this;exact Nat.le_sub_of_add_le (Int.ofNat_le.mp (Int.add_le_of_le_sub_right this))
 ·exact Nat.eq_zero_of_not_pos q▸YD _
theorem C2.step{s s2:(Int->Nat)×ab}(h:C2 alo blo t7 i s)(h2:C2 alo blo t7 (i+1) s2)(hi:alo<=i)(hj:blo<=j)(W7:j<t7):C2 alo blo t7 (i+1) (dF s.1 i s2 j):=by
 refine aL (h.len hi hj) fun e1 e2=>?_;unfold dF;generalize s.1 ((j:Int)-1)=D at e1 e2;have d1:∀x,(if x=(j:Int) then D+1 else s2.1 x)<=i+1-alo:=fun x=>if e:x=j then if_pos e▸Nat.succ_sub hi▸p8 e1 else if_neg e▸h2.d1 x
 have d2:∀x,0<(if x=(j:Int) then D+1 else s2.1 x)->(blo:Int)<=x/\((if x=(j:Int) then D+1 else s2.1 x:Nat):Int)<=x+1-blo:=fun x hx=>by
  by_cases e:x=j
  ·rw[if_pos e,e];exact⟨Int.ofNat_le.mpr hj,Int.le_sub_right_of_add_le (Int.ofNat_le.mpr (Nat.succ_add .. ▸ p8 (Nat.add_le_of_le_sub hj e2)))⟩
  ·rw[if_neg e] at hx ⊢;exact h2.d2 x hx
 have l1:=Nat.sub_add_cancel (Zg e1 (r7 ..));have l2:=Nat.sub_add_cancel (Zg e2 (r7 ..));by_cases c:s2.2.2.2<D+1
 ·rw[if_pos c];exact⟨d1,d2,Nat.le_sub_of_add_le (Nat.add_le_of_le_sub' hi e1),p8 (o5 l1),Nat.le_sub_of_add_le (Nat.add_le_of_le_sub' hj e2),Zg (p8 (o5 l2)) W7⟩
 ·rw[if_neg c];exact⟨d1,d2,h2.b1,h2.b2,h2.b3,h2.b4⟩
theorem QM(b:List Str)(k:Str):(dQ b k).Pairwise (· < ·):=(List.pairwise_lt_range).filter _
theorem QP{b:List Str}{k:Str}(h:j∈dQ b k):j<b.length:=List.mem_range.mp (c7.mp h).1
theorem ED(b:List Str)(k:Str):(bO b k).Pairwise (· < ·):=by
 unfold bO;split
 ·exact .nil
 ·exact QM b k
theorem QH{b:List Str}{k:Str}(h:j∈bO b k):j<b.length:=by
 unfold bO at h;split at h
 ·cases h
 ·exact QP h
theorem QI(b:List Str)(k:Str):(bO b k).length<=b.length:=by
 unfold bO;split
 ·exact YD _
 ·unfold dQ;exact Zg (List.length_filter_le ..) (by rw[List.length_range];exact YR _)
theorem HK{js:List Nat}(h:j<blo):within blo t7 (j::js)=within blo t7 js:=by
 unfold within;rw[List.filter_cons_of_neg (by rw[decide_eq_false (Nat.not_le.mpr h)];exact Zd)]
theorem HL{js:List Nat}(h:blo<=j)(h':j<t7):within blo t7 (j::js)=j::within blo t7 js:=by
 unfold within;rw[List.filter_cons_of_pos (by rw[decide_eq_true h,decide_eq_true h'];rfl)]
theorem HJ{js:List Nat}(hs:(j::js).Pairwise (· < ·))(h':t7<=j):within blo t7 (j::js)=[]:=by
 unfold within;rw[List.filter_eq_nil_iff];intro x hx
 have:j<=x:=by
  rcases Yp.mp hx with rfl |hx
  ·exact YR _
  ·exact a6 ((g9.mp hs).1 x hx)
 rw[decide_eq_false (Nat.not_lt.mpr (Zg h' this)),Bool.and_false];exact Zd
theorem mL(a b:Nat):cI (a:Int) (b:Int)=(Zx a (b-a)).map fun(i:Nat)=>AV.int (i:Int):=by
 unfold cI;rw[List.range'_eq_map_range,ZR];rw[show ((b:Int)-(a:Int)).toNat=b-a from Int.toNat_sub b a];refine d6 fun i O=>?_;simp
theorem Eu{b:List Str}{z:Int}(hz:z=j)(hy:b[j]?=some y):(b.map AV.str)[z.toNat]?=some (.str y):=by
 subst hz;simp[hy]
theorem Tb(h : ¬ alo<i):bF e alo blo i j k=(i,j,k):=by
 cases i with
 |zero=>rfl
 |succ i=>cases j with
  |zero=>rfl
  |succ j=>exact if_neg (by rw[decide_eq_false h];exact Zd)
theorem Ta(h : ¬ blo<j):bF e alo blo i j k=(i,j,k):=by
 cases i with
 |zero=>rfl
 |succ i=>cases j with
  |zero=>rfl
  |succ j=>exact if_neg (by rw[decide_eq_false h,Bool.false_and,Bool.and_false];exact Zd)
theorem SZ(h:e i j=false):bF e alo blo (i+1) (j+1) k=(i+1,j+1,k) :=
 if_neg (by rw[h,Bool.and_false,Bool.and_false];exact Zd)
theorem Td(h1:alo<i+1)(h2:blo<j+1)(h:e i j=true):bF e alo blo (i+1) (j+1) k=bF e alo blo i j (k+1) :=
 if_pos (by rw[h,decide_eq_true h1,decide_eq_true h2];rfl)
theorem Fo{t9 f:Nat}(h : ¬ (i+k<t9/\j+k<t7/\e (i+k) (j+k)=true)):cN e t9 t7 i j f k=k:=by
 cases f with
 |zero=>rfl
 |succ f =>
  exact if_neg fun q=>h ((Zy ..).mp q |>.imp of_decide_eq_true fun q=>((Zy ..).mp q).imp_left of_decide_eq_true)
theorem SW{t9 f:Nat}(h1:i+k<t9)(h2:j+k<t7)(h:e (i+k) (j+k)=true):cN e t9 t7 i j (f+1) k=cN e t9 t7 i j f (k+1) :=
 if_pos (by rw[h,decide_eq_true h1,decide_eq_true h2];rfl)
theorem tA{a b:List Str}(hx:a[i]?=some x)(hy:b[j]?=some y):am a b i j=(x==y):=by
 unfold am;rw[hx,hy];cases q:x==y with
 |true=>rw[beq_iff_eq.mp q];simp
 |false=>have:=beq_eq_false_iff_ne.mp q;simpa using this
noncomputable abbrev ak:YA:=PySem.Challenge.pw_dm0049_10
noncomputable def Ai:List YV:=[256]
noncomputable def KB(P:Ym):Frag:=(KO P).filter fun p => !Ai.contains p.1
noncomputable abbrev al(w:YH):u6:=ap (KB w.params)
theorem cL(w:YH):A7 (al w):=⟨fun s h=>⟨fun O=>none,by
 have e:=h 2 _ (show al w 2=some (boot_o_2 w.params) from @_);exact⟨_,#[],0,e,@_,fun O h=>by simp at h,fun O=>rfl⟩,rfl⟩⟩
set_option backward.match.sparseCases false in
noncomputable def aA(o:Obj):m3:=match o.data with |.func f=>f |_=>default
set_option backward.match.sparseCases false in
noncomputable def eC(o:Obj):Array Value:=match o.data with |.fields f=>f |_ => #[]
set_option backward.match.sparseCases false in
noncomputable def mB:Value->Tok
 |.str _ t=>t
 |_=>0
theorem dK{K:Frag}{f c:YV}{gen:Bool}(o oc:Obj)(h:(K.lookup f,o.data,(aA o).body,(aA o).code,(aA o).closure,(aA o).globals,(aA o).builtins,K.lookup c,oc.data,(eC oc)[1]?,(aA o).scope.isCoroutine,(aA o).scope.isGenerator,(aA o).scope.kind,(aA o).scope.names.all fun x=>decide (x.2 ≠ .cell))=(some o,.func (aA o),.stmts body,.ref c,[],ZP,f0,some oc,.fields (eC oc),some (.str (aA o).qualname (mB ((eC oc).getD 1 .none))),false,gen,.function,true)):cM K f gen (aA o) body c:=by
 simp only[Prod.mk.injEq] at h;obtain⟨h1,h2,h3,h4,h5,h6,h7,h8,h9,ha,hb,hc,hd,he⟩:=h;exact⟨⟨o,h1,h2⟩,h3,h4,h5,h6,h7,⟨oc,_,_,h8,h9,ha⟩,⟨hb,hc,hd⟩,he⟩
theorem Sl(P:Ym):cM (KB P) 82 false (aA (iC P)) (cg (aw 3 4)) 81 :=
 dK (iC P) (mS P) @_
theorem Sj(P:Ym):cM (KB P) 89 false (aA (iB P)) (cg (aw 3 5)) 88 :=
 dK (iB P) (mR P) @_
theorem SB(P:Ym):cM (KB P) 160 false (aA (jJ P)) (cg (aw 5 1)) 159 :=
 dK (jJ P) (rI P) @_
theorem SA(P:Ym):cM (KB P) 167 false (aA (jI P)) (cg (aw 5 2)) 166 :=
 dK (jI P) (rH P) @_
theorem Sz(P:Ym):cM (KB P) 174 false (aA (jH P)) (cg (aw 5 3)) 173 :=
 dK (jH P) (rG P) @_
theorem Sy(P:Ym):cM (KB P) 181 false (aA (jG P)) (cg (aw 5 4)) 180 :=
 dK (jG P) (rF P) @_
theorem Sx(P:Ym):cM (KB P) 188 false (aA (jF P)) (cg (aw 5 5)) 187 :=
 dK (jF P) (rE P) @_
theorem Sw(P:Ym):cM (KB P) 196 false (aA (iD P)) (cg (aw 5 6)) 195 :=
 dK (iD P) (rD P) @_
theorem Sv(P:Ym):cM (KB P) 203 false (aA (jE P)) (cg (aw 5 7)) 202 :=
 dK (jE P) (rC P) @_
theorem Su(P:Ym):cM (KB P) 210 false (aA (jD P)) (cg (aw 5 8)) 209 :=
 dK (jD P) (rB P) @_
theorem Ss(P:Ym):cM (KB P) 218 true (aA (lx P)) (cg (aw 5 9)) 217 :=
 dK (lx P) (rA P) @_
theorem Sr(P:Ym):cM (KB P) 253 false (aA (lu P)) (cg (aS 6)) 252 :=
 dK (lu P) (vQ P) @_
theorem Sq(P:Ym):cM (KB P) 261 true (aA (jC P)) (cg (aS 7)) 260 :=
 dK (jC P) (ry P) @_
theorem So(P:Ym):cM (KB P) 268 false (aA (gf P)) (cg (aS 8)) 267 :=
 dK (gf P) (vP P) @_
theorem Sn(P:Ym):cM (KB P) 288 false (aA (ls P)) (cg (aS 13)) 287 :=
 dK (ls P) (vO P) @_
noncomputable def fi(o:Obj):Array DictEntry:=match o.data with |.dict es _=>es |_ => #[]
noncomputable def Ft(o:Obj):Nat:=match o.data with |.dict _ ep=>ep |_=>0
noncomputable def UW(es:Array DictEntry):Bool:=es.toList.all fun e=>match e.key with |.str _ _=>true |_=>false
theorem Av{es:Array DictEntry}(h:UW es=true):StrKeys es:=fun e he=>by
 have:=YY.mp h e (by simpa using he);cases q:e.key with
 |str n t=>exact⟨n,t,rfl⟩
 |_=>rw[q] at this;cases this
theorem gM(w:YH):al w ZP=some (et w.params):=@_
theorem yw(P:Ym):(et P).data=.dict (fi (et P)) (Ft (et P)):=@_
theorem yv(P:Ym):StrKeys (fi (et P)):=Av @_
theorem gU(w:YH):al w f0=some (boot_o_0 w.params):=@_
theorem EX(P:Ym):(boot_o_0 P).data=.dict (fi (boot_o_0 P)) (Ft (boot_o_0 P)):=@_
theorem EW(P:Ym):StrKeys (fi (boot_o_0 P)):=Av @_
theorem gX(h:nsFind (fi (et w.params)) x=some (.ref a)):bo (al w) x (.ref a):=RB (gM w) (yw _) (yv _) h fun Z => .ref _
theorem lT{n:String}(h:nsFind (fi (et w.params)) x=none)(h2:nsFind (fi (boot_o_0 w.params)) x=some (.builtin n)):bo (al w) x (.blt n):=EN (gM w) (yw _) (yv _) h (gU w) (EX _) (EW _) h2 fun Z => .blt _
theorem gx{n:String}(h:nsFind (fi (et w.params)) x=none)(h2:nsFind (fi (boot_o_0 w.params)) x=some (.type n)):bo (al w) x (.typ n):=EN (gM w) (yw _) (yv _) h (gU w) (EX _) (EW _) h2 fun Z => .typ _
theorem RU(w:YH):bo (al w) ge (.ref 242):=gX @_
theorem ET(w:YH):bo (al w) fC (.ref 135):=gX @_
theorem RN(w:YH):bo (al w) jv (.ref 253):=gX @_
theorem RQ(w:YH):bo (al w) jt (.ref 261):=gX @_
theorem RS(w:YH):bo (al w) jr (.ref 268):=gX @_
theorem RH(w:YH):bo (al w) jp (.ref 273):=gX @_
theorem ES(w:YH):bo (al w) jo (.ref 278):=gX @_
theorem RI(w:YH):bo (al w) jn (.ref 283):=gX @_
theorem RJ(w:YH):bo (al w) jm (.ref 288):=gX @_
theorem RK(w:YH):bo (al w) Mu (.blt "isinstance"):=lT @_ @_
theorem gw(w:YH):bo (al w) Ls (.blt "len"):=lT @_ @_
theorem EP(w:YH):bo (al w) MR (.blt "min"):=lT @_ @_
theorem EQ(w:YH):bo (al w) MS (.blt "max"):=lT @_ @_
theorem RT(w:YH):bo (al w) Mw (.blt "any"):=lT @_ @_
theorem RD(w:YH):bo (al w) MQ (.blt "sum"):=lT @_ @_
theorem RE(w:YH):bo (al w) Mt (.typ "str"):=gx @_ @_
theorem ER(w:YH):bo (al w) Ll (.typ "list"):=gx @_ @_
theorem oS(w:YH):bo (al w) Lb (.typ "range"):=gx @_ @_
theorem RO(w:YH):bo (al w) Lk (.typ "enumerate"):=gx @_ @_
theorem RF(w:YH):bo (al w) Lh (.typ "set"):=gx @_ @_
theorem RP(w:YH):bo (al w) MH (.typ "dict"):=gx @_ @_
theorem RG(w:YH):bo (al w) Lm (.typ "map"):=gx @_ @_
theorem EO(w:YH):bo (al w) MI (.typ "tuple"):=gx @_ @_
theorem RL(w:YH):bo (al w) LX (.typ "int"):=gx @_ @_
theorem RC(w:YH):bo (al w) LI (.typ "zip"):=gx @_ @_
inductive ĥ (B:u6) (o:AV) (led:aa):Prop where
 |mk {T':String} {id:String} (h:ZJ (.type T') "__getitem__" = b9 (some (.builtin id))) (t:gF B o led T')
theorem VE{slice:Expr}
  (hs:∀o i,subscripted slice false o i=operate [o,i] (getItem o i))
  (h:T vv w A B s9 Val (ZI value s9) st fun v1 y6=>T vv w A B s9 Val (ZI slice s9) y6 fun v2 A5=>ĥ B v1 A5.led/\F2 vv w A B s9 Val getItem v1 v2 A5 K) :
  T vv w A B s9 Val (ZI (.Subscript value slice pos) s9) st K:=fun s Z S Q E hQ =>
 PyProof.Rows.Subscript_ (h s Z S _ _ fun v1 x1 s₁ Z1 y6 k₁ S1 V1 X1=>k₁ s₁ Z1 S1 _ _ fun v2 x2 s2 Z2 A5 k2 S2 V2 X2=>by
  refine aL k2 fun ix k2=>ĥ.rec (fun{T' id} hl ht=>?_) ix;have hT:=(ht s2 Z2 x1 (V1.mono X2.le) S2.tot8).1;unfold PyProof.Rows.subscriptTail;refine Yh ?_;rw[getitemInPython_of_ne hT.not_modules];refine Yh (m4 hT hl ?_);have fin:YJ (YG vv w) A (subscripted slice false x1 x2) (fun r w7=>YJ (YG vv w) A (letTemporaryGo value x1 r>>=fun O=>b9 r) Q E w7) E s2:=by
   rw[hs];exact wpAny_operating (k2 s2 Z2 x1 x2 (V1.mono X2.le) V2 S2 _ _ fun v x s' Z' t5 k S' V X=>Yh (wpAny_letTemporaryGo (Yj (hQ v x s' Z' t5 k S' V ((X1.trans X2).trans X)))))
  first
   |exact Yj (Yh fin)
   |exact Yh (Yj (Yh fin))
   |exact Yh fin)
theorem Vy{x:Expr}{i:Int}(h:T vv w A B s9 Val (ZI x s9) st fun v t5=>v=.int i/\K (.int (-i)) t5):T vv w A B s9 Val (ZI (.UnaryOp .USub x pos) s9) st K:=fun s Z S Q E hQ=>by
 rw[show ZI (.UnaryOp .USub x pos) s9=(ZI x s9>>=fun v=>standAt pos>>=fun O=>m6 [v] (unaryOp .USub v)) from rfl];refine Yh (h s Z S _ _ fun v y s' Z' t5 k S' V X=>?_);refine aL k ?_;clear k;intro O1 k;subst O1;cases V
 exact Yh (YU (Yw (PyProof.Rows.neg_int (hQ _ _ _ Z' t5 k (S'.toks _) (.int _ _) (X.trans (.toks _))))))
theorem Vx{p:Pos}{i:Int}(h:K (.int (-i)) st):T vv w A B s9 Val (ZI (.UnaryOp .USub (.Constant (.int i) k p) pos) s9) st K :=
 Vy (Gw ⟨rfl,h⟩)
theorem Ij{led:aa}:gF B (.tup xs) led "tuple" := fun s Z u V S=>by
 refine bv (iF V) fun O O O qv e h=>?_;subst qv;exact⟨⟨_,S.frozen _ _ e,rfl⟩,fun b q=>by cases q;exact bQ _ (S.frozen _ _ e) rfl⟩
theorem VU{x:Expr}{rest:List Expr}{K:Bool->St->Prop}
  (h:T vv w A B s9 aM (isTrue x s9 (ZI x s9)) st fun b t5=>if b then K true t5 else T vv w A B s9 aM (allTrue .Or rest s9) t5 K):T vv w A B s9 aM (allTrue .Or (x::rest) s9) st K:=fun s Z S Q E hQ =>
 wpAny_allTrue_Or_cons (h s Z S _ _ fun b c s' Z' t5 k S' V X=>by
  unfold aM at V;subst V;cases c with
  |true=>exact hQ true true s' Z' t5 k S' rfl X
  |false=>exact k s' Z' S' Q E fun b' c' G5 E8 A3 k' D7 V' X'=>hQ b' c' G5 E8 A3 k' D7 V' (X.trans X'))
noncomputable def cG(a b:Str):Bool:=PySem.W.Fast.lEq a.cps.toList b.cps.toList
theorem tB{a b:Str}:cG a b=true↔a=b:=by
 unfold cG;rw[PySem.W.Fast.lEq_iff];constructor
 ·intro h;cases a;cases b
  simp only[Str.mk.injEq];exact Array.toList_inj.mp h
 ·rintro rfl;rfl
theorem tC(a b:Str):(a==b)=cG a b:=by
 rw[k4,beq_iff_eq,tB]
noncomputable def lk(x:Str)(l:List (Str×AV)):Option AV:=@List.rec _ (fun O=>Option AV) none (fun p O ih=>@Bool.rec (fun O=>Option AV) ih (some p.2) (cG x p.1)) l
noncomputable def sk(x:Str)(v:AV)(l:List (Str×AV)):List (Str×AV):=@List.rec _ (fun O=>List (Str×AV)) [(x,v)] (fun p r ih=>@Bool.rec (fun O=>List (Str×AV)) (p::ih) ((p.1,v)::r) (cG x p.1)) l
theorem jP(x:Str):∀l,lk x l=l.lookup x
 | []=>rfl
 |(y,u)::l=>by
  show @Bool.rec (fun O=>Option AV) (lk x l) (some u) (cG x y)=_;rw[YE,tC,jP x l];cases cG x y <;> rfl
theorem uP(x:Str)(v:AV):∀l,sk x v l=df l x v
 | []=>rfl
 |(y,u)::l=>by
  show @Bool.rec (fun O=>List (Str×AV)) ((y,u)::sk x v l) ((y,v)::l) (cG x y)=_;rw[uQ,tC,uP x v l];cases cG x y <;> rfl
set_option genCtorIdx false in set_option genInjectivity false in set_option genSizeOf false in
inductive J2 where
 |e (x:Expr) (K:AV->St->Prop)
 |es (pos:Pos) (xs:List Expr) (K:List AV->St->Prop)
 |t (x:Expr) (K:Bool->St->Prop)
 |ts (op:BoolOp) (xs:List Expr) (K:Bool->St->Prop)
 |s (x:Stmt) (K:u7->St->Prop)
 |ss (xs:List Stmt) (K:u7->St->Prop)
noncomputable def J2.ctorIdx(x:J2):Nat:=by cases x;exact 0;exact 1;exact 2;exact 3;exact 4;exact 5
inductive t6 (P:Prop):Prop where
 |mk (h:P):t6 P
theorem t6.out(h:t6 P):P:=by
 induction h with
 |mk h=>exact h
set_option genInjectivity false in set_option genSizeOf false in
structure G2 where
 name:Str
 kind:Nat
 id:String
noncomputable def lP:Nat->String
 |0 => "str"
 |1 => "list"
 |_ => "dict"
set_option genInjectivity false in set_option genSizeOf false in
structure Ctx where
 p:YA
 w:YH
 A:Yz
 B:u6
 e:Env
 G:List (Str×AV)
 F:List YV
 M:List G2
section
variable(Γ:Ctx)
def dN(x:Expr)(K:AV->St->Prop)(st:St):Prop:=t6 (T Γ.p Γ.w Γ.A Γ.B Γ.e Val (ZI x Γ.e) st K)
def zJ(pos:Pos)(xs:List Expr)(K:List AV->St->Prop)(st:St):Prop:=t6 (T Γ.p Γ.w Γ.A Γ.B Γ.e Vals (spliced (g6 pos (Zl xs Γ.e))) st K)
def kt(x:Expr)(K:Bool->St->Prop)(st:St):Prop:=t6 (T Γ.p Γ.w Γ.A Γ.B Γ.e aM (isTrue x Γ.e (ZI x Γ.e)) st K)
def HW(op:BoolOp)(xs:List Expr)(K:Bool->St->Prop)(st:St):Prop:=t6 (T Γ.p Γ.w Γ.A Γ.B Γ.e aM (allTrue op xs Γ.e) st K)
def fz(x:Stmt)(K:u7->St->Prop)(st:St):Prop:=t6 (T Γ.p Γ.w Γ.A Γ.B Γ.e y0 (exec x Γ.e) st K)
def HX(xs:List Stmt)(K:u7->St->Prop)(st:St):Prop:=t6 (T Γ.p Γ.w Γ.A Γ.B Γ.e y0 (execs xs Γ.e) st K)
def b2(f:Value->Value->Sem Value)(v u:AV)(K:AV->St->Prop)(st:St):Prop:=t6 (F2 Γ.p Γ.w Γ.A Γ.B Γ.e Val f v u st K)
def qo:J2->St->Prop
 |.e x K,st=>dN Γ x K st
 |.es pos xs K,st=>zJ Γ pos xs K st
 |.t x K,st=>kt Γ x K st
 |.ts op xs K,st=>HW Γ op xs K st
 |.s x K,st=>fz Γ x K st
 |.ss xs K,st=>HX Γ xs K st
def pz(b:Bool)(P Q:Prop):Prop:=@Bool.rec (fun O=>Prop) Q P b
def pk(b:Bool)(P Q:Prop):Prop:=@Bool.rec (fun O=>Prop) Q P b
def oN(o:Option α)(P:Prop)(f:α->Prop):Prop:=@Option.rec α (fun O=>Prop) P f o
set_option backward.match.sparseCases false in
noncomputable def CT:AV->Bool
 |.any=>false
 |_=>true
def zL(x:Str)(pos:Pos)(K:AV->St->Prop)(st:St):Prop :=
 oN (lk x st.loc) (oN (lk x Γ.G) (dN Γ (.Name x pos) K st) fun v=>K v st) fun v=>pz (CT v && !cG x s8) (K v st) (dN Γ (.Name x pos) K st)
set_option backward.match.sparseCases false in
def fJ(v u:AV)(fb:Prop)(f:Int->Int->Prop):Prop :=
 match v with
 |.int a=>(match u with
  |.int b=>f a b
  |_=>fb)
 |_=>fb
set_option backward.match.sparseCases false in
def uL(v u:AV)(fb:Prop)(f:Str->Str->Prop):Prop :=
 match v with
 |.str a=>(match u with
  |.str b=>f a b
  |_=>fb)
 |_=>fb
set_option backward.match.sparseCases false in
noncomputable def ym(u:AV):Bool :=
 match u with
 |.none=>true
 |_=>false
set_option backward.match.sparseCases false in
def uE(op:Operator)(v u:AV)(K:AV->St->Prop)(st:St):Prop :=
 match op with
 |.Add=>fJ v u (b2 Γ (binaryOp .Add) v u K st) fun a b=>K (.int (a+b)) st
 |.Sub=>fJ v u (b2 Γ (binaryOp .Sub) v u K st) fun a b=>K (.int (a-b)) st
 |op=>b2 Γ (binaryOp op) v u K st
def zM(op:Operator)(v u:AV)(K:AV->St->Prop)(st:St):Prop :=
 match op with
 |.Add=>fJ v u (b2 Γ (inplaceOp .Add) v u K st) fun a b=>K (.int (a+b)) st
 |.Sub=>fJ v u (b2 Γ (inplaceOp .Sub) v u K st) fun a b=>K (.int (a-b)) st
 |op=>b2 Γ (inplaceOp op) v u K st
set_option backward.match.sparseCases false in
def uD(op:CmpOp)(v u:AV)(K:AV->St->Prop)(st:St):Prop :=
 match op with
 |.Eq=>fJ v u (uL v u (b2 Γ (g5 .Eq) v u K st) fun a b=>K (.bool (a==b)) st) fun a b=>K (.bool (a==b)) st
 |.NotEq=>fJ v u (uL v u (b2 Γ (g5 .NotEq) v u K st) fun a b=>K (.bool (a != b)) st) fun a b=>K (.bool (a != b)) st
 |.Lt=>fJ v u (b2 Γ (g5 .Lt) v u K st) fun a b=>K (.bool (decide (a<b))) st
 |.Gt=>fJ v u (b2 Γ (g5 .Gt) v u K st) fun a b=>K (.bool (decide (b<a))) st
 |.LtE=>fJ v u (b2 Γ (g5 .LtE) v u K st) fun a b=>K (.bool (decide (a<=b))) st
 |.GtE=>fJ v u (b2 Γ (g5 .GtE) v u K st) fun a b=>K (.bool (decide (b<=a))) st
 |.Is=>pz (ym u&&v.isNone.isSome) (K (.bool (v.isNone.getD false)) st) (b2 Γ (g5 .Is) v u K st)
 |.IsNot=>pz (ym u&&v.isNone.isSome) (K (.bool (!v.isNone.getD false)) st) (b2 Γ (g5 .IsNot) v u K st)
 |op=>b2 Γ (g5 op) v u K st
set_option backward.match.sparseCases false in
def pS(v:AV)(K:Bool->St->Prop)(st:St):Prop :=
 match v with
 |.bool b=>K b st
 |.int i=>K (i != 0) st
 |.none=>K false st
 |v=>t6 (F1 Γ.p Γ.w Γ.A Γ.B Γ.e aM truthy v st K)
set_option backward.match.sparseCases false in
noncomputable def Qp(o:AV):Bool :=
 match o with
 |.lst _ |.tup _ |.str _=>true
 |_=>false
def zK(o k:AV)(K:AV->St->Prop)(st:St):Prop :=
 pz (Qp o) (b2 Γ getItem o k K st) (ĥ Γ.B o st.led/\b2 Γ getItem o k K st)
set_option backward.match.sparseCases false in
noncomputable def Er:AV->Bool
 |.typ _ |.blt _ |.bm _ _=>true
 |.ref f=>Γ.F.any fun g=>Nat.beq f g
 |_=>false
noncomputable def tn(e:Expr):Bool :=
 match e with
 |.Starred .. => true
 |_=>false
noncomputable def lG(e:Expr):Bool := !tn e
set_option backward.match.sparseCases false in
noncomputable def xL:Expr->Bool
 |.Call .. => false
 |_=>true
set_option backward.match.sparseCases false in
noncomputable def Cy:Expr->Bool
 |.Name .. |.Constant .. |.BinOp .. |.UnaryOp .. |.Subscript .. => true
 |_=>false
set_option backward.match.sparseCases false in
noncomputable def sH:Expr->Bool
 |.ListComp .. |.SetComp .. |.DictComp .. => false
 |_=>true
def HZ(c:Const)(K:AV->St->Prop)(st:St)(fb:Prop):Prop :=
 match c with
 |.int i=>K (.int i) st
 |.str x=>K (.str x) st
 |.none=>K .none st
 |.bool b=>K (.bool b) st
 |_=>fb
set_option genCtorIdx false in set_option genInjectivity false in set_option genSizeOf false in
inductive Vw where
 |name (x:Str) (p:Pos) |attr (e:Expr) (n:Str) (p:Pos) |tup (xs:List Expr) (n:Nat) (p:Pos) |num (i:Int) (k:Nat) (p:Pos) |no
noncomputable def Vw.ctorIdx(x:Vw):Nat:=by cases x;exact 0;exact 1;exact 2;exact 3;exact 4
set_option backward.match.sparseCases false in
noncomputable def vw(e:Expr):Vw :=
 match e with
 |.Name x p => .name x p
 |.Attribute e n p => .attr e n p
 |.Tuple xs n p => .tup xs n p
 |.Constant (.int i) k p => .num i k p
 |_ => .no
noncomputable def Vw.pick{α:Sort _}(v:Vw)(d:α)(f:Str->Pos->α)(g:Expr->Str->Pos->α)(h:List Expr->Nat->Pos->α)(k:Int->Nat->Pos->α):α:=@Vw.rec (fun O=>α) f g h k d v
theorem pT(e:Expr):(vw e).pick True (fun x p=>e=.Name x p) (fun o n p=>e=.Attribute o n p) (fun xs n p=>e=.Tuple xs n p) (fun i k p=>e=.Constant (.int i) k p):=by
 cases e with
 |Name=>rfl
 |Attribute=>rfl
 |Tuple=>rfl
 |Constant c k p=>cases c <;> first |rfl |trivial
 |_=>trivial
noncomputable def xQ(x:Expr):Option Int:=(vw x).pick none (fun O O=>none) (fun O O O=>none) (fun O O O=>none) fun i O O=>some i
noncomputable def Qu(o:UnaryOp):Bool :=
 match o with
 |.USub=>true
 |_=>false
noncomputable def Qw(o:UnaryOp):Bool :=
 match o with
 |.Not=>true
 |_=>false
noncomputable def one(l:List α):Option α :=
 match l with
 | []=>none
 |x::r=>(match r with
  | []=>some x
  |_::_=>none)
noncomputable def cw(x:Expr):Option Str:=(vw x).pick none (fun n O=>some n) (fun O O O=>none) (fun O O O=>none) fun O O O=>none
noncomputable def ya(x:Expr):Option (Expr×Str×Pos):=(vw x).pick none (fun O O=>none) (fun o n p=>some (o,n,p)) (fun O O O=>none) fun O O O=>none
noncomputable def mk(x:Str)(l:List G2):Option G2:=@List.rec _ (fun O=>Option G2) none (fun p O ih=>@Bool.rec (fun O=>Option G2) ih (some p) (cG x p.name)) l
set_option backward.match.sparseCases false in
noncomputable def Ew(v:AV)(k:Nat):Bool :=
 match v with
 |.str _=>Nat.beq k 0
 |.lst _=>Nat.beq k 1
 |_=>false
def zN(ih:J2->St->Prop)(f:Expr)(args:List Expr)(pos:Pos)(K:AV->St->Prop)(st:St)(fb:Prop):Prop :=
 oN (ya f) (pz (cw f).isSome (ih (.e f fun fv s₁=>pz (Er Γ fv&&args.all lG) (ih (.es pos args fun vs s2=>t6 (FC Γ.p Γ.w Γ.A Γ.B Γ.e fv vs [] s2 K)) s₁) (t6 (CA Γ.p Γ.w Γ.A Γ.B Γ.e pos fv [] args s₁ K))) st) fb) fun m=>oN (mk m.2.1 Γ.M) fb fun t =>
  pz (Nat.ble args.length 25&&(args.all lG&&(Nat.beq m.2.2.endLine pos.line&&xL m.1))) (ih (.e m.1 fun v s₁=>pz (Ew v t.kind) (ih (.es pos args fun vs s2=>t6 (FC Γ.p Γ.w Γ.A Γ.B Γ.e (.blt t.id) (v::vs) [] s2 K)) s₁) (gF Γ.B v s₁.led (lP t.kind)/\ih (.es pos args fun vs s2=>t6 (FC Γ.p Γ.w Γ.A Γ.B Γ.e (.blt t.id) (v::vs) [] s2 K)) s₁)) st) fb
set_option backward.match.sparseCases false in
def AA(ih:J2->St->Prop)(x:Expr)(K:AV->St->Prop)(st:St):Prop :=
 match x with
 |.Constant c k p=>HZ c K st (dN Γ (.Constant c k p) K st)
 |.Name x pos=>zL Γ x pos K st
 |.Tuple xs n pos=>ih (.es pos xs fun vs t5=>pz (Nat.ble vs.length 50) (K (.tup vs) t5) False) st
 |.BinOp l op r _=>ih (.e l fun v s₁=>ih (.e r fun u s2=>uE Γ op v u K s2) s₁) st
 |.Compare l E5 rs pos=>oN (one E5) (dN Γ (.Compare l E5 rs pos) K st) fun op=>oN (one rs) (dN Γ (.Compare l E5 rs pos) K st) fun r =>
   pz (behindInMarks op r) (dN Γ (.Compare l E5 rs pos) K st) (ih (.e l fun v s₁=>ih (.e r fun u s2=>uD Γ op v u K s2) s₁) st)
 |.IfExp t a b _=>ih (.t t fun c s₁=>pk c (ih (.e a K) s₁) (ih (.e b K) s₁)) st
 |.UnaryOp o x pos=>pz (Qu o) (oN (xQ x) (dN Γ (.UnaryOp o x pos) K st) fun i=>K (.int (-i)) st) (dN Γ (.UnaryOp o x pos) K st)
 |.Subscript v i pos=>pz (Cy i) (ih (.e v fun o s₁=>ih (.e i fun k s2=>zK Γ o k K s2) s₁) st) (dN Γ (.Subscript v i pos) K st)
 |.Call f args P6 pos=>pz P6.isEmpty (zN Γ ih f args pos K st (dN Γ (.Call f args P6 pos) K st)) (dN Γ (.Call f args P6 pos) K st)
 |.Attribute o n pos=>pz (xL o) (ih (.e o fun v s₁=>t6 (F1 Γ.p Γ.w Γ.A Γ.B Γ.e Val (fun x=>getAttr x n true) v s₁ K)) st) (dN Γ (.Attribute o n pos) K st)
 |x=>dN Γ x K st
def Ja(ih:J2->St->Prop)(pos:Pos)(xs:List Expr)(K:List AV->St->Prop)(st:St):Prop :=
 match xs with
 | []=>K [] st
 |x::xs=>pz (lG x) (ih (.e x fun v s₁=>ih (.es pos xs fun vs s2=>K (v::vs) s2) s₁) st) (zJ Γ pos (x::xs) K st)
set_option backward.match.sparseCases false in
def IV(ih:J2->St->Prop)(x:Expr)(K:Bool->St->Prop)(st:St):Prop :=
 match x with
 |.UnaryOp o x pos=>pz (Qw o) (ih (.t x fun b s₁=>K (!b) s₁) st) (kt Γ (.UnaryOp o x pos) K st)
 |.BoolOp op xs _=>ih (.ts op xs K) st
 |.Compare l E5 rs pos=>oN (one E5) (kt Γ (.Compare l E5 rs pos) K st) fun op=>oN (one rs) (kt Γ (.Compare l E5 rs pos) K st) fun r =>
   pz (behindInMarks op r) (kt Γ (.Compare l E5 rs pos) K st) (ih (.e l fun v s₁=>ih (.e r fun u s2=>uD Γ op v u (fun c w7=>pS Γ c K w7) s2) s₁) st)
 |.Name x pos=>ih (.e (.Name x pos) fun v s₁=>pS Γ v K s₁) st
 |.Call f args P6 pos=>ih (.e (.Call f args P6 pos) fun v s₁=>pS Γ v K s₁) st
 |x=>kt Γ x K st
noncomputable def Ex(o:BoolOp):Bool :=
 match o with
 |.And=>true
 |.Or=>false
def IX(ih:J2->St->Prop)(op:BoolOp)(xs:List Expr)(K:Bool->St->Prop)(st:St):Prop :=
 match xs with
 | []=>K (Ex op) st
 |x::xs=>ih (.t x fun b s₁=>pz (Ex op) (pk b (ih (.ts op xs K) s₁) (K false s₁)) (pk b (K true s₁) (ih (.ts op xs K) s₁))) st
noncomputable def Qx(f:u7):Bool :=
 match f with
 |.next=>true
 |_=>false
def IY(ih:J2->St->Prop)(xs:List Stmt)(K:u7->St->Prop)(st:St):Prop :=
 match xs with
 | []=>K .next st
 |x::xs=>ih (.s x fun f s₁=>pz (Qx f) (ih (.ss xs K) s₁) (K f s₁)) st
noncomputable def lm(vs:List Expr):Bool := !(vs.any tn)&&(!(vs.all (foldedForSure 8)) && !(vs.all (constantsAlone 8)))
def lX(l:List α)(fb:Prop)(f:α->List α->Prop):Prop:=@List.rec α (fun O=>Prop) fb (fun a r O=>f a r) l
def xN(l:List α)(fb P:Prop):Prop:=@List.rec α (fun O=>Prop) P (fun O O O=>fb) l
def uF(l:List α)(fb:Prop)(f:α->α->Prop):Prop:=lX l fb fun a r=>lX r fb fun b r=>xN r fb (f a b)
def uJ(l:List α)(fb:Prop)(f:α->α->α->Prop):Prop:=lX l fb fun a r=>lX r fb fun b r=>lX r fb fun c r=>xN r fb (f a b c)
theorem oX{l:List α}{fb:Prop}{f:α->List α->Prop}(h:lX l fb f)(h1:fb->P)(h2:∀a r,l=a::r->f a r->P):P:=by
 cases l with
 |nil=>exact h1 h
 |cons a r=>exact h2 a r rfl h
theorem DE{l:List α}{fb Q:Prop}(h:xN l fb P)(h1:fb->Q)(h2:l=[]->P->Q):Q:=by
 cases l with
 |nil=>exact h2 rfl h
 |cons a r=>exact h1 h
theorem zT{l:List α}{fb:Prop}{f:α->α->Prop}(h:uF l fb f)(h1:fb->P)(h2:∀a b,l=[a,b]->f a b->P):P :=
 oX h h1 fun a O e h=>oX h h1 fun b O e2 h=>DE h h1 fun e3 h=>h2 a b (by rw[e,e2,e3]) h
theorem Af{l:List α}{fb:Prop}{f:α->α->α->Prop}(h:uJ l fb f)(h1:fb->P)(h2:∀a b c,l=[a,b,c]->f a b c->P):P :=
 oX h h1 fun a O e h=>oX h h1 fun b O e2 h=>oX h h1 fun c O e4 h=>DE h h1 fun e3 h=>h2 a b c (by rw[e,e2,e4,e3]) h
def Am(ih:J2->St->Prop)(t1 t2:Expr)(pos:Pos)(vs:List Expr)(K:u7->St->Prop)(st:St)(fb:Prop):Prop :=
 oN (cw t1) fb fun x=>oN (cw t2) fb fun y=>pz (Nat.beq vs.length 2&&(lm vs&&(Nat.beq t1.pos.line t2.pos.line&&(!cG x y&&((lk x st.loc).isSome&&(lk y st.loc).isSome)))))
  (ih (.es pos vs fun us s₁=>uF us False fun u v=>pz ((lk x s₁.loc).isSome&&(lk y s₁.loc).isSome) (K .next ⟨sk x u (sk y v s₁.loc),s₁.led⟩) False) st) fb
def Al(ih:J2->St->Prop)(t1 t2 t3:Expr)(pos:Pos)(vs:List Expr)(K:u7->St->Prop)(st:St)(fb:Prop):Prop :=
 oN (cw t1) fb fun x=>oN (cw t2) fb fun y=>oN (cw t3) fb fun z=>pz (Nat.beq vs.length 3&&(lm vs&&(Nat.beq t1.pos.line t2.pos.line&&(Nat.beq t1.pos.line t3.pos.line&&(!cG x y&&(!cG x z&&(!cG y z&&((lk x st.loc).isSome&&((lk y st.loc).isSome&&(lk z st.loc).isSome)))))))))
  (ih (.es pos vs fun us s₁=>uJ us False fun u v r=>pz ((lk x s₁.loc).isSome&&((lk y s₁.loc).isSome&&(lk z s₁.loc).isSome)) (K .next ⟨sk x u (sk y v (sk z r s₁.loc)),s₁.led⟩) False) st) fb
noncomputable def pW(x:Expr):Option (List Expr×Nat×Pos):=(vw x).pick none (fun O O=>none) (fun O O O=>none) (fun xs n p=>some (xs,n,p)) fun O O O=>none
noncomputable def AP(xs:List Str):List AV->List (Str×AV)->List (Str×AV):=@List.rec _ (fun O=>List AV->List (Str×AV)->List (Str×AV)) (fun O l=>l) (fun x O ih vs l=>@List.rec _ (fun O=>List (Str×AV)) l (fun v r O=>ih r (sk x v l)) vs) xs
def UK(ih:J2->St->Prop)(ts:List Expr)(pos:Pos)(vs:List Expr)(K:u7->St->Prop)(st:St)(fb:Prop):Prop :=
 pz (Nat.ble 4 ts.length&&Nat.beq (ts.filterMap cw).length ts.length)
  (ih (.es pos vs fun us s₁=>pz (Nat.ble us.length 50&&(Nat.beq us.length ts.length&&(ts.filterMap cw).all fun x=>(lk x s₁.loc).isSome)) (K .next ⟨AP (ts.filterMap cw) us s₁.loc,s₁.led⟩) False) st) fb
def Ak(ih:J2->St->Prop)(ts:List Expr)(pos:Pos)(vs:List Expr)(K:u7->St->Prop)(st:St)(fb:Prop):Prop :=
 uF ts (uJ ts (UK ih ts pos vs K st fb) fun t1 t2 t3=>Al ih t1 t2 t3 pos vs K st fb) fun t1 t2=>Am ih t1 t2 pos vs K st fb
set_option backward.match.sparseCases false in
def Az(ih:J2->St->Prop)(x:Stmt)(K:u7->St->Prop)(st:St):Prop :=
 match x with
 |.If t a b _=>ih (.t t fun c s₁=>pk c (ih (.ss a K) s₁) (ih (.ss b K) s₁)) st
 |.Return e _=>oN e (K (.ret .none) st) fun e=>ih (.e e fun v s₁=>K (.ret v) s₁) st
 |.Pass _=>K .next st
 |.Break _=>K .brk st
 |.Continue _=>K .cont st
 |.Expr e pos=>pz (sH e) (ih (.e e fun O s₁=>K .next s₁) st) (fz Γ (.Expr e pos) K st)
 |.Assign ts e pos=>oN (one ts) (fz Γ (.Assign ts e pos) K st) fun t=>oN (cw t) (oN (pW t) (fz Γ (.Assign ts e pos) K st) fun a=>oN (pW e) (fz Γ (.Assign ts e pos) K st) fun b=>Ak ih a.1 b.2.2 b.1 K st (fz Γ (.Assign ts e pos) K st)) fun x =>
   pz (sH e&&(lk x st.loc).isSome) (ih (.e e fun v s₁=>pz (lk x s₁.loc).isSome (K .next ⟨sk x v s₁.loc,s₁.led⟩) False) st) (fz Γ (.Assign ts e pos) K st)
 |.AugAssign t op e pos=>oN (cw t) (fz Γ (.AugAssign t op e pos) K st) fun x=>oN (lk x st.loc) (fz Γ (.AugAssign t op e pos) K st) fun v=>pz (CT v)
   (ih (.e e fun u s₁=>zM Γ op v u (fun r s2=>pz (lk x s2.loc).isSome (K .next ⟨sk x r s2.loc,s2.led⟩) False) s₁) st) (fz Γ (.AugAssign t op e pos) K st)
 |x=>fz Γ x K st
def step(ih:J2->St->Prop)(c:J2)(st:St):Prop :=
 match c with
 |.e x K=>AA Γ ih x K st
 |.es pos xs K=>Ja Γ ih pos xs K st
 |.t x K=>IV Γ ih x K st
 |.ts op xs K=>IX ih op xs K st
 |.s x K=>Az Γ ih x K st
 |.ss xs K=>IY ih xs K st
def wp:Nat->J2->St->Prop
 |0=>qo Γ
 |n+1=>step Γ (wp n)
end
section
variable{Γ:Ctx}
theorem bV{b:Bool}{Q R:Prop}(h:pk b P Q)(h1:b=true->P->R)(h2:b=false->Q->R):R:=by
 cases b with
 |true=>exact h1 rfl h
 |false=>exact h2 rfl h
theorem cU{b:Bool}{Q:Prop}(h1:b=true->P)(h2:b=false->Q):pk b P Q:=by
 cases b with
 |true=>exact h1 rfl
 |false=>exact h2 rfl
theorem cV{o:Option α}{R:Prop}{f:α->Prop}(h:oN o P f)(h1:P->R)(h2:∀x,o=some x->f x->R):R:=by
 cases o with
 |none=>exact h1 h
 |some x=>exact h2 x rfl h
structure I2 (Γ:Ctx):Prop where
 glob:∀p∈Γ.G,bo Γ.B p.1 p.2/\Γ.e.kindOf p.1=some .globalImplicit/\cG p.1 s8=false
 gl:Γ.e.globals=ZP
 bu:Γ.e.builtins=f0
 kept:∀f∈Γ.F,gI Γ.p Γ.w Γ.B (.ref f)
 act:interactive Γ.e=false
 blk:Γ.e.blockKind=.function
 hh:Γ.A.handled=none
 meth:∀m∈Γ.M,PlainAttrs (lP m.kind)/\Slot (lP m.kind) m.name m.id/\typeOf (.builtin m.id)=b9 (.type "method_descriptor")
theorem I2.g{F:List YV}{M:List G2}(h:I2 ⟨vv,w,A,B,s9,G,F,M⟩)(h1:bo B x v)(h2:s9.kindOf x=some .globalImplicit)(h3:cG x s8=false):I2 ⟨vv,w,A,B,s9,(x,v)::G,F,M⟩ :=
 { h with glob:=fun p hp=>(Yp.mp hp).elim (fun e=>by subst e;exact⟨h1,h2,h3⟩) (h.glob p)}
theorem I2.f{F:List YV}{M:List G2}(h:I2 ⟨vv,w,A,B,s9,G,F,M⟩){f:YV}(h1:gI vv w B (.ref f)):I2 ⟨vv,w,A,B,s9,G,f::F,M⟩ :=
 { h with kept:=fun p hp=>(Yp.mp hp).elim (fun e=>by subst e;exact h1) (h.kept p)}
theorem I2.m{F:List YV}{M:List G2}(h:I2 ⟨vv,w,A,B,s9,G,F,M⟩)(m:G2)(h1:PlainAttrs (lP m.kind))(h2:Slot (lP m.kind) m.name m.id)(h3:typeOf (.builtin m.id)=b9 (.type "method_descriptor")):I2 ⟨vv,w,A,B,s9,G,F,m::M⟩ :=
 { h with meth:=fun p hp=>(Yp.mp hp).elim (fun e=>by subst e;exact⟨h1,h2,h3⟩) (h.meth p)}
theorem ce(h1:s9.globals=ZP)(h2:s9.builtins=f0)(h3:interactive s9=false)(h4:s9.blockKind=.function)(h5:A.handled=none):I2 ⟨vv,w,A,B,s9,[],[],[]⟩ :=
 { glob:=fun O h=>(nomatch h),gl:=h1,bu:=h2,kept:=fun O h=>(nomatch h),act:=h3,blk:=h4,hh:=h5,meth:=fun O h=>(nomatch h)}
theorem Eb:∀ {l:List (Str×AV)},lk x l=some v->(x,v)∈l
 | [],h=>by cases h
 |(y,u)::l,h=>by
  have h':@Bool.rec (fun O=>Option AV) (lk x l) (some u) (cG x y)=some v:=h;cases hq:cG x y with
  |true =>
   rw[hq] at h';obtain rfl:=tB.mp hq;obtain rfl:u=v:=d8 h';exact Yi ..
  |false =>
   rw[hq] at h';exact Yk _ (Eb h')
theorem xU{m:G2}:∀ {l:List G2},mk x l=some m->m∈l/\m.name=x
 | [],h=>by cases h
 |y::l,h=>by
  have h':@Bool.rec (fun O=>Option G2) (mk x l) (some y) (cG x y.name)=some m:=h;cases hq:cG x y.name with
  |true =>
   rw[hq] at h';obtain rfl:y=m:=d8 h';exact⟨Yi ..,(tB.mp hq).symm⟩
  |false =>
   rw[hq] at h';exact⟨Yk _ (xU h').1,(xU h').2⟩
theorem OD(g:I2 Γ)(h:zL Γ x pos K st):T Γ.p Γ.w Γ.A Γ.B Γ.e Val (ZI (.Name x pos) Γ.e) st K :=
 cV h (fun h=>cV h t6.out fun v e h=>by
  refine dM (g.glob _ (Eb e)) fun h1 h2 h3=>?_;exact Gx h1 h2 g.gl g.bu (by rw[tC];exact h3) h) fun v e h=>bV h (fun hb hk=>by
  rw[Zy,Bool.not_eq_true'] at hb;refine Vz (by rw[← jP];exact e) hk (by rw[tC];exact hb.2) ?_;cases v <;> first |rfl |exact(Zd hb.1).elim) fun O=>t6.out
theorem gq{fb:Prop}{f:Int->Int->Prop}{R:Prop}(h:fJ v u fb f)(h1:fb->R)(h2:∀a b,v=.int a->u=.int b->f a b->R):R:=by
 cases v with
 |int a=>cases u with
  |int b=>exact h2 a b rfl rfl h
  |_=>exact h1 h
 |_=>exact h1 h
theorem AC{fb:Prop}{f:Str->Str->Prop}{R:Prop}(h:uL v u fb f)(h1:fb->R)(h2:∀a b,v=.str a->u=.str b->f a b->R):R:=by
 cases v with
 |str a=>cases u with
  |str b=>exact h2 a b rfl rfl h
  |_=>exact h1 h
 |_=>exact h1 h
theorem UF{op:Operator}(h:uE Γ op v u K st):F2 Γ.p Γ.w Γ.A Γ.B Γ.e Val (binaryOp op) v u st K:=by
 cases op with
 |Add=>exact gq h t6.out fun a b e1 e2 k=>by exact(Eq.symm (e1))▸(Eq.symm (e2))▸XG k
 |Sub=>exact gq h t6.out fun a b e1 e2 k=>by exact(Eq.symm (e1))▸(Eq.symm (e2))▸Xk k
 |_=>exact t6.out h
theorem QJ{op:Operator}(h:zM Γ op v u K st):F2 Γ.p Γ.w Γ.A Γ.B Γ.e Val (inplaceOp op) v u st K:=by
 cases op with
 |Add=>exact gq h t6.out fun a b e1 e2 k=>by exact(Eq.symm (e1))▸(Eq.symm (e2))▸He k
 |Sub=>exact gq h t6.out fun a b e1 e2 k=>by exact(Eq.symm (e1))▸(Eq.symm (e2))▸Xw k
 |_=>exact t6.out h
theorem DC(h:ym u=true):u=.none:=by
 cases u <;> first |rfl |exact(Zd h).elim
theorem FO{op:CmpOp}(h:uD Γ op v u K st):F2 Γ.p Γ.w Γ.A Γ.B Γ.e Val (g5 op) v u st K:=by
 cases op with
 |Eq=>exact gq h (fun h=>AC h t6.out fun a b e1 e2 k=>by exact(Eq.symm (e1))▸(Eq.symm (e2))▸XD k) fun a b e1 e2 k=>by exact(Eq.symm (e1))▸(Eq.symm (e2))▸XE k
 |NotEq=>exact gq h (fun h=>AC h t6.out fun a b e1 e2 k=>by exact(Eq.symm (e1))▸(Eq.symm (e2))▸Xo k) fun a b e1 e2 k=>by exact(Eq.symm (e1))▸(Eq.symm (e2))▸Xq k
 |Lt=>exact gq h t6.out fun a b e1 e2 k=>by exact(Eq.symm (e1))▸(Eq.symm (e2))▸Xs k
 |Gt=>exact gq h t6.out fun a b e1 e2 k=>by exact(Eq.symm (e1))▸(Eq.symm (e2))▸Xz k
 |LtE=>exact gq h t6.out fun a b e1 e2 k=>by exact(Eq.symm (e1))▸(Eq.symm (e2))▸Xu k
 |GtE=>exact gq h t6.out fun a b e1 e2 k=>by exact(Eq.symm (e1))▸(Eq.symm (e2))▸XA k
 |Is =>
  refine bV h (fun hb k=>?_) fun O=>t6.out;rw[Zy] at hb;refine aq (Option.isSome_iff_exists.mp hb.2) fun q hq=>?_;rw[DC hb.1];rw[hq] at k;exact Xy hq k
 |IsNot =>
  refine bV h (fun hb k=>?_) fun O=>t6.out;rw[Zy] at hb;refine aq (Option.isSome_iff_exists.mp hb.2) fun q hq=>?_;rw[DC hb.1];rw[hq] at k;exact Xx hq k
 |_=>exact t6.out h
theorem uG{K:Bool->St->Prop}(h:pS Γ v K st):F1 Γ.p Γ.w Γ.A Γ.B Γ.e aM truthy v st K:=by
 cases v with
 |bool b=>exact tU h
 |int i=>exact XI h
 |none=>exact XH h
 |_=>exact t6.out h
theorem IN{o k:AV}(h:zK Γ o k K st) :
  ĥ Γ.B o st.led/\F2 Γ.p Γ.w Γ.A Γ.B Γ.e Val getItem o k st K:=by
 refine bV h (fun hb h=>?_) fun O h=>⟨h.1,h.2.out⟩;cases o with
 |lst _=>exact⟨.mk list_getitem_lookup zS,h.out⟩
 |tup _=>exact⟨.mk F.slot_tuple_getitem.lookup Ij,h.out⟩
 |str _=>exact⟨.mk F.slot_str_getitem.lookup mA,h.out⟩
 |_=>exact(Zd hb).elim
theorem Ay{x:Expr}{xs:List Expr}(h:lG x=true):Zl (x::xs) Γ.e=(false,ZI x Γ.e)::Zl xs Γ.e:=by
 cases x <;> first |rfl |exact(Zd h).elim
theorem Gf{o:Expr}{n:Str}(h:xL o=true):attributeBase o n Γ.e (ZI o Γ.e)=ZI o Γ.e:=by
 cases o <;> first |rfl |exact(Zd h).elim
theorem mE(pos:Pos):∀ {xs:List Expr},xs.all lG=true->((g6 pos (Zl xs Γ.e)).all fun x => !x.1)=true
 | [],_=>rfl
 |x::xs,h=>by
  rw[List.all_cons,Zy] at h;rw[Ay h.1];show (!false&&((g6 pos (Zl xs Γ.e)).all fun x => !x.1))=true;rw[mE pos h.2];rfl
theorem Qi(g:I2 Γ){f:AV}(h:Er Γ f=true):gI Γ.p Γ.w Γ.B f:=by
 cases f with
 |typ n=>exact Qg
 |blt n=>exact oO
 |bm i s=>exact Qj
 |ref a =>
  refine ae (List.any_eq_true.mp h) fun b hb e=>?_;obtain rfl:=Nat.eq_of_beq_eq_true e;exact g.kept _ hb
 |_=>exact(Zd h).elim
theorem yH{e:Expr}{t:Option Expr}(h:sH e=true):swapsWith e t n Γ.e=b9 false:=by
 cases e <;> first |rfl |exact(Zd h).elim
theorem Nf{e:Expr}(h:Cy e=true):∀o i,subscripted e false o i=operate [o,i] (getItem o i):=by
 cases e <;> first |(intro _ _;rfl) |exact(Zd h).elim
theorem T.up{rel:u6->α->β->Prop}{t:Sem β}{K K':α->St->Prop}(h:T vv w A B s9 rel t st K)(k:∀v s,K v s->K' v s):T vv w A B s9 rel t st K':=h.mono k
theorem bc{K:St->Prop}(hb:(lk x st.loc).isSome=true)(h:K ⟨sk x v st.loc,st.led⟩):F1 vv w A B s9 aV (m5 s9 x) v st fun O s=>K s:=fun s Z u V S Q E hQ=>by
 refine aq (Option.isSome_iff_exists.mp hb) fun q hq=>?_;exact Hi (S.kinds x q (by rw[← jP];exact hq)) (uP ..).symm h s Z u V S Q E hQ
theorem F2.up2{f:Value->Value->Sem Value}{K':AV->St->Prop}(h:F2 vv w A B s9 Val f v u st K)(k:∀v s,K v s->K' v s):F2 vv w A B s9 Val f v u st K' :=
 fun s Z x1 x2 V1 V2 S Q E hQ=>h s Z x1 x2 V1 V2 S Q E fun v x s' Z' t5 hk=>hQ v x s' Z' t5 (k v t5 hk)
theorem lq{l:List α}{x:α}(h:one l=some x):l=[x]:=by
 cases l with
 |nil=>cases h
 |cons y r=>cases r with
  |nil=>cases h;rfl
  |cons z r=>cases h
theorem gP{x:Expr}{n:Str}(h:cw x=some n):∃p,x=.Name n p:=by
 have q:=pT x;revert h;unfold cw;cases e:vw x <;> intro h <;> first |(rw[e] at q;cases h;exact⟨_,q⟩) |cases h
theorem OA{x:Expr}{i:Int}(h:xQ x=some i):∃k p,x=.Constant (.int i) k p:=by
 have q:=pT x;revert h;unfold xQ;cases e:vw x <;> intro h <;> first |(rw[e] at q;cases h;exact ze _ _ q) |cases h
theorem ON{x:Expr}{m:Expr×Str×Pos}(h:ya x=some m):x=.Attribute m.1 m.2.1 m.2.2:=by
 have q:=pT x;revert h;unfold ya;cases e:vw x <;> intro h <;> first |(rw[e] at q;cases h;exact q) |cases h
theorem Qv{led:aa}(h:Ew v k=true):gF Γ.B v led (lP k):=by
 cases v with
 |str x=>obtain rfl:=Nat.eq_of_beq_eq_true h;exact mA
 |lst x=>obtain rfl:=Nat.eq_of_beq_eq_true h;exact zS
 |_=>exact(Zd h).elim
theorem SS(pos:Pos){args:List Expr}(h1:args.all lG=true)(h2:args.length<=25):((g6 pos (Zl args Γ.e)).all (fun x => !x.1)&&(backToKw pos (keywordEach [] Γ.e)).all (fun x=>x.1.isSome)
   && decide (args.length+([]:List Keyword).length+(if ([]:List Keyword).isEmpty then 0 else 1)<30))=true:=by
 rw[mE pos h1];exact decide_eq_true (o0 h2 (by decide))
theorem Uq(g:I2 Γ){ih:J2->St->Prop}(hE:∀ {x:Expr} {K:AV->St->Prop} {st:St},ih (.e x K) st->T Γ.p Γ.w Γ.A Γ.B Γ.e Val (ZI x Γ.e) st K)
  (hA:∀ {pos:Pos} {x:List Expr} {K:List AV->St->Prop} {st:St},ih (.es pos x K) st->T Γ.p Γ.w Γ.A Γ.B Γ.e Vals (spliced (g6 pos (Zl x Γ.e))) st K)
  {f:Expr} {args:List Expr}    {fb:Prop} (hf:fb->T Γ.p Γ.w Γ.A Γ.B Γ.e Val (ZI (.Call f args [] pos) Γ.e) st K) (h:zN Γ ih f args pos K st fb) :
  T Γ.p Γ.w Γ.A Γ.B Γ.e Val (ZI (.Call f args [] pos) Γ.e) st K :=
 cV h (fun h=>bV h (fun hb h=>by
  refine aq (Option.isSome_iff_exists.mp hb) fun n hn=>?_;refine aq (gP hn) fun p O2=>?_;subst O2;exact zb rfl ((hE h).up fun v s k=>bV k (fun hb k=>by
   rw[Zy] at hb;exact eK (mE _ hb.2) (Qi g hb.1) ((hA k).up fun O O k=>k.out)) fun O=>t6.out)) fun O=>hf) fun m e1 h=>cV h hf fun t e2 h=>bV h (fun hb h=>by
  rw[Zy,Zy,Zy] at hb;refine aL (xU e2) fun h1 h2=>?_;refine dM (g.meth t h1) fun q1 q2 q3=>?_;rw[ON e1];rw[h2] at q2;refine VF (Gf hb.2.2.2) (SS pos hb.2.1 (ZB hb.1)) (beq_iff_eq.mpr (Nat.eq_of_beq_eq_true hb.2.2.1)) q1 q2 q3 ((hE h).up fun v s k=>bV k (fun hs k=>⟨Qv hs,?_⟩) fun O k=>⟨k.1,?_⟩)
  ·exact eK (mE _ hb.2.1) oO ((hA k).up fun O O k=>k.out)
  ·exact eK (mE _ hb.2.1) oO ((hA k.2).up fun O O k=>k.out)) fun O=>hf
theorem IZ(g:I2 Γ){ih:J2->St->Prop}(hE:∀ {x:Expr} {K:AV->St->Prop} {st:St},ih (.e x K) st->T Γ.p Γ.w Γ.A Γ.B Γ.e Val (ZI x Γ.e) st K)
  (hA:∀ {pos:Pos} {x:List Expr} {K:List AV->St->Prop} {st:St},ih (.es pos x K) st->T Γ.p Γ.w Γ.A Γ.B Γ.e Vals (spliced (g6 pos (Zl x Γ.e))) st K)
  (hT:∀ {x:Expr} {K:Bool->St->Prop} {st:St},ih (.t x K) st->T Γ.p Γ.w Γ.A Γ.B Γ.e aM (isTrue x Γ.e (ZI x Γ.e)) st K) {x:Expr}   (h:AA Γ ih x K st):T Γ.p Γ.w Γ.A Γ.B Γ.e Val (ZI x Γ.e) st K:=by
 cases x with
 |Constant c k p=>cases c with
  |int i=>exact Gw h
  |str i=>exact Vu h
  |none=>exact Vv h
  |bool i=>exact VD h
  |_=>exact t6.out h
 |Name x pos=>exact OD g h
 |Tuple xs n pos=>exact tN ((hA h).up fun vs s k=>bV k (fun hb k=>⟨Zg (ZB hb) (by decide),k⟩) fun O k=>False.elim k)
 |BinOp l op r pos=>exact VK ((hE h).up fun v s k=>(hE k).up fun u s k=>UF k)
 |Compare l E5 rs pos =>
  exact cV h t6.out fun op e1 h=>cV h t6.out fun r e2 h=>by
   obtain rfl:=lq e1;obtain rfl:=lq e2;exact bV h (fun O=>t6.out) fun hb h=>VH ((hE h).up fun v s k=>(hE k).up fun u s k=>FO k) hb
 |IfExp t a b pos=>exact VG ((hT h).up fun c s k=>by cases c with |true=>exact hE k |false=>exact hE k)
 |UnaryOp o x pos=>cases o with
  |USub =>
   exact cV h t6.out fun i e h=>by
    refine zw (OA e) fun k p O3=>?_;subst O3;exact Vx h
  |_=>exact t6.out h
 |Subscript v i pos=>exact bV h (fun hb h=>VE (Nf hb) ((hE h).up fun v s k=>(hE k).up fun u s k=>IN k)) fun O=>t6.out
 |Attribute o n pos=>exact bV h (fun hb h=>VL (Gf hb) ((hE h).up fun O O k=>k.out)) fun O=>t6.out
 |Call f args P6 pos =>
  refine bV h (fun hb h=>?_) fun O=>t6.out;obtain rfl:=List.isEmpty_iff.mp hb;exact Uq g hE hA t6.out h
 |_=>exact t6.out h
theorem zU{x:Expr}{a:List Expr×Nat×Pos}(h:pW x=some a):x=.Tuple a.1 a.2.1 a.2.2:=by
 have q:=pT x;revert h;unfold pW;cases e:vw x <;> intro h <;> first |(rw[e] at q;cases h;exact q) |cases h
theorem sJ(h:(!cG x y)=true):x≠y:=fun e=>by
 rw[tB.mpr e] at h;cases h
theorem uM{t e:Expr}(h:sH e=true):swapsWithSole [t] e n Γ.e=b9 false:=yH h
theorem zO{vs:List Expr}(h:lm vs=true):vs.any tn=false/\vs.all (foldedForSure 8)=false/\vs.all (constantsAlone 8)=false:=by
 unfold lm at h;rw[Zy,Zy] at h;exact⟨Bool.not_eq_true' _ |>.mp h.1,Bool.not_eq_true' _ |>.mp h.2.1,Bool.not_eq_true' _ |>.mp h.2.2⟩
noncomputable def sK(s9:Env)(line:Nat):Expr->Option Str
 |.Name id pos=>if s9.kindOf id==some .local&&pos.line==line then some id else none
 |_=>none
theorem oG{p:Pos}{a:Nat}(hx:Γ.e.kindOf x=some .local)(e:p.line=a):sK Γ.e a (.Name x p)=some x :=
 if_pos (by rw[hx,e,beq_self_eq_true,beq_self_eq_true];rfl)
theorem xM{b:Bool}(h:b=false) : ¬ b=true:=fun e=>Zd (h.symm.trans e)
theorem Aj{ts vs:List Expr}{names:List Str}{n1 n2:Nat}{p1 p2:Pos}(h0 : ¬ (!(ts.length==2||ts.length==3)||vs.length != ts.length||Γ.e.blockKind != .function)=true)(h1:vs.any tn=false)
  (h2:vs.all (foldedForSure 8)=false) (h3:vs.all (constantsAlone 8)=false) (e:ts.filterMap (sK Γ.e ((ts.head?.map (·.pos.line)).getD 0))=names)
  (hn : ¬ (names.length != ts.length||names.eraseDups.length != names.length)=true):swappedStores [.Tuple ts n1 p1] (.Tuple vs n2 p2) Γ.e=b9 (some names):=by
 subst e;exact(if_neg h0).trans ((if_neg (xM h1)).trans ((if_neg hn).trans ((if_neg (xM h2)).trans (if_neg (xM h3)))))
theorem Ty(h:x≠y):[x,y].eraseDups.length=2:=by
 have e:(y==x)=false:=beq_eq_false_iff_ne.mpr h.symm;rw[List.eraseDups_cons,List.filter_cons,e];rfl
theorem Tw{z:Str}(h:x≠y)(h2:x≠z)(h3:y≠z):[x,y,z].eraseDups.length=3:=by
 have e:(y==x)=false:=beq_eq_false_iff_ne.mpr h.symm;have e2:(z==x)=false:=beq_eq_false_iff_ne.mpr h2.symm;have e3:(z==y)=false:=beq_eq_false_iff_ne.mpr h3.symm;rw[List.eraseDups_cons,List.filter_cons,e,List.filter_cons,e2];show (x::[y,z].eraseDups).length=3;rw[List.eraseDups_cons,List.filter_cons,e3];rfl
theorem IJ{px py p1 p2:Pos}{n1 n2:Nat}{vs:List Expr}(hb:Γ.e.blockKind=.function)(hx:Γ.e.kindOf x=some .local)(hy:Γ.e.kindOf y=some .local)(hl:px.line=py.line)(C8:x≠y)(y4:vs.length=2)
  (hp:lm vs=true):swappedStores [.Tuple [.Name x px,.Name y py] n1 p1] (.Tuple vs n2 p2) Γ.e=b9 (some [x,y]):=by
 obtain⟨h1,h2,h3⟩:=zO hp;have e:[Expr.Name x px,.Name y py].filterMap (sK Γ.e px.line)=[x,y]:=by
  rw[List.filterMap_cons_some (oG hx rfl),List.filterMap_cons_some (oG hy hl.symm)];rfl
 exact Aj (ts:=[.Name x px,.Name y py]) (by exact(Eq.symm (y4))▸(Eq.symm (hb))▸Zd) h1 h2 h3 e (by exact(Eq.symm (Ty C8))▸Zd)
theorem II{z:Str}{px py pz p1 p2:Pos}{n1 n2:Nat}{vs:List Expr}(hb:Γ.e.blockKind=.function)(hx:Γ.e.kindOf x=some .local)(hy:Γ.e.kindOf y=some .local)(hz:Γ.e.kindOf z=some .local)(hl:px.line=py.line)(N7:px.line=pz.line)(C8:x≠y)(hne2:x≠z)(hne3:y≠z)(y4:vs.length=3)
  (hp:lm vs=true):swappedStores [.Tuple [.Name x px,.Name y py,.Name z pz] n1 p1] (.Tuple vs n2 p2) Γ.e=b9 (some [x,y,z]):=by
 obtain⟨h1,h2,h3⟩:=zO hp;have e:[Expr.Name x px,.Name y py,.Name z pz].filterMap (sK Γ.e px.line)=[x,y,z]:=by
  rw[List.filterMap_cons_some (oG hx rfl),List.filterMap_cons_some (oG hy hl.symm),List.filterMap_cons_some (oG hz N7.symm)];rfl
 exact Aj (ts:=[.Name x px,.Name y py,.Name z pz]) (by exact(Eq.symm (y4))▸(Eq.symm (hb))▸Zd) h1 h2 h3 e (by exact(Eq.symm (Tw C8 hne2 hne3))▸Zd)
theorem mH(h:(lk x l).isSome=true):(lk x (sk y v l)).isSome=true:=by
 rw[jP,uP,sU];rw[jP] at h;split
 ·rfl
 ·exact h
theorem Fc{t:Expr}{ts:List Expr}(h:((t::ts).filterMap cw).length=(t::ts).length):∃x p,t=.Name x p/\(ts.filterMap cw).length=ts.length/\(t::ts).filterMap cw=x::ts.filterMap cw:=by
 cases e:cw t with
 |none =>
  rw[List.filterMap_cons_none e,Yq] at h
  have:=List.length_filterMap_le cw ts;omega
 |some x =>
  refine aq (gP e) fun p O2=>?_;subst O2;rw[List.filterMap_cons_some e] at h ⊢;exact tQ x p rfl (by simpa using h) rfl
theorem UJ(ts:List Expr):(ts.filterMap cw).length=ts.length->((ZZ ts s9).map (·.2)=ts.map (fun e=>ZQ e s9)/\(ZZ ts s9).findIdx? (·.1)=none)/\True:=by
 induction ts with
 |nil=>exact fun O=>⟨⟨rfl,rfl⟩,trivial⟩
 |cons t ts ih =>
  intro h;refine bw (Fc h) fun x p O3 h2 O=>?_;subst O3;refine aL (ih h2) fun O1 O=>?_;obtain⟨i1,i2⟩:=O1;refine⟨⟨?_,?_⟩,trivial⟩
  ·show ZQ (.Name x p) s9::(ZZ ts s9).map (·.2)=_;rw[i1];rfl
  ·show ((false,ZQ (.Name x p) s9)::ZZ ts s9).findIdx? (·.1)=none;rw[List.findIdx?_cons,i2];rfl
theorem de:∀(ts:List Expr),(ts.filterMap cw).length=ts.length->∀(us:List AV) (s:St),ts.length=us.length->((ts.filterMap cw).all fun x=>(lk x s.loc).isSome)=true->∀ {K:St->Prop},K ⟨AP (ts.filterMap cw) us s.loc,s.led⟩->FT vv w A B s9 ts us s fun O s=>K s:=by
 intro t_;induction t_ with
 |nil =>
  intro _ us s e _ K k;cases us with
  |nil=>exact zf k
  |cons _ _=>cases e
 |cons t ts ih =>
  intro h us s e hl K k;refine bw (Fc h) fun x p O3 h2 h3=>?_;subst O3;rw[h3] at hl k;cases us with
  |nil=>cases e
  |cons u us =>
   rw[List.all_cons,Zy] at hl;refine mq (bX (bc (K:=fun s=>FT vv w A B s9 ts us s fun O s=>K s) hl.1 (ih h2 us _ (Nat.succ.inj e) ?_ k)));rw[YY] at hl ⊢;exact fun y hy=>mH (hl.2 y hy)
theorem mD{xs:List (Value->Sem Unit)}{vs:List AV}{K:u7->St->Prop}(hb:(lk x st.loc).isSome=true)(h:FA vv w A B s9 xs vs ⟨sk x v st.loc,st.led⟩ fun O s=>K .next s) :
  FA vv w A B s9 (bindName s9 x::xs) (v::vs) st fun O s=>K .next s:=Ha (XS (bc (K:=fun s=>FA vv w A B s9 xs vs s fun O s=>K .next s) hb h))
theorem oM(S:w5 B s9 s Z st)(h:(lk x st.loc).isSome=true):s9.kindOf x=some .local:=by
 obtain⟨u,hu⟩:=Option.isSome_iff_exists.mp h;exact S.kinds x u (by rw[← jP];exact hu)
theorem IM(g:I2 Γ){ih:J2->St->Prop}
  (hA:∀ {pos:Pos} {x:List Expr} {K:List AV->St->Prop} {st:St},ih (.es pos x K) st->T Γ.p Γ.w Γ.A Γ.B Γ.e Vals (spliced (g6 pos (Zl x Γ.e))) st K)
  {t1 t2:Expr} {vs:List Expr} {n1 n2:Nat} {p1 p2:Pos} {K:u7->St->Prop}  {fb:Prop} (hf:fb->T Γ.p Γ.w Γ.A Γ.B Γ.e y0 (exec (.Assign [.Tuple [t1,t2] n1 p1] (.Tuple vs n2 p2) pos) Γ.e) st K)
  (h:Am ih t1 t2 p2 vs K st fb):T Γ.p Γ.w Γ.A Γ.B Γ.e y0 (exec (.Assign [.Tuple [t1,t2] n1 p1] (.Tuple vs n2 p2) pos) Γ.e) st K :=
 cV h hf fun x e1 h=>cV h hf fun y e2 h=>bV h (fun hb h9=>(gP e1).elim fun px e1=>(gP e2).elim fun py e2=>by
  subst e1;subst e2;simp only[Zy] at hb;refine XY hb fun b1 b2 b4 b5 b6 b7=>?_;clear hb;exact fun s Z S=>Gu g.hh (uM rfl) (IJ g.blk (oM S b6) (oM S b7) (Nat.eq_of_beq_eq_true b4) (sJ b5) (Nat.eq_of_beq_eq_true b1) b2) (tN ((hA h9).up fun us s k=>zT k False.elim fun u v e k=>by
   subst e;exact⟨(by decide:2<=Zc),_,rfl,rfl,bV k (fun hb k=>by
    rw[Zy] at hb;exact mD hb.2 (mD (mH hb.1) (zm k))) fun O k=>False.elim k⟩)) s Z S) fun O=>hf
theorem IL(g:I2 Γ){ih:J2->St->Prop}
  (hA:∀ {pos:Pos} {x:List Expr} {K:List AV->St->Prop} {st:St},ih (.es pos x K) st->T Γ.p Γ.w Γ.A Γ.B Γ.e Vals (spliced (g6 pos (Zl x Γ.e))) st K)
  {t1 t2 t3:Expr} {vs:List Expr} {n1 n2:Nat} {p1 p2:Pos} {K:u7->St->Prop}  {fb:Prop} (hf:fb->T Γ.p Γ.w Γ.A Γ.B Γ.e y0 (exec (.Assign [.Tuple [t1,t2,t3] n1 p1] (.Tuple vs n2 p2) pos) Γ.e) st K)
  (h:Al ih t1 t2 t3 p2 vs K st fb):T Γ.p Γ.w Γ.A Γ.B Γ.e y0 (exec (.Assign [.Tuple [t1,t2,t3] n1 p1] (.Tuple vs n2 p2) pos) Γ.e) st K :=
 cV h hf fun x e1 h=>cV h hf fun y e2 h=>cV h hf fun z e3 h=>bV h (fun hb h9=>(gP e1).elim fun px e1=>(gP e2).elim fun py e2=>(gP e3).elim fun pz e3=>by
  subst e1;subst e2;subst e3;simp only[Zy] at hb;refine XZ hb fun b1 b2 b4 b4' b5 b5' b5'' b6 b7 b8=>?_;clear hb;exact fun s Z S=>Gu g.hh (uM rfl) (II g.blk (oM S b6) (oM S b7) (oM S b8) (Nat.eq_of_beq_eq_true b4) (Nat.eq_of_beq_eq_true b4') (sJ b5) (sJ b5') (sJ b5'') (Nat.eq_of_beq_eq_true b1) b2) (tN ((hA h9).up fun us s k=>Af k False.elim fun u v r e k=>by
   subst e;exact⟨(by decide:3<=Zc),_,rfl,rfl,bV k (fun hb k=>by
    rw[Zy,Zy] at hb;exact mD hb.2.2 (mD (mH hb.2.1) (mD (mH (mH hb.1)) (zm k)))) fun O k=>False.elim k⟩)) s Z S) fun O=>hf
theorem Oq{ts vs:List Expr}{n1 n2:Nat}{p1 p2:Pos}(h:4<=ts.length):swappedStores [.Tuple ts n1 p1] (.Tuple vs n2 p2) Γ.e=b9 none:=by
 have e2:(ts.length==2)=false:=by rw[beq_eq_false_iff_ne];omega
 have e3:(ts.length==3)=false:=by rw[beq_eq_false_iff_ne];omega
 exact if_pos (by rw[e2,e3];rfl)
theorem IK(g:I2 Γ){ih:J2->St->Prop}
  (hA:∀ {pos:Pos} {x:List Expr} {K:List AV->St->Prop} {st:St},ih (.es pos x K) st->T Γ.p Γ.w Γ.A Γ.B Γ.e Vals (spliced (g6 pos (Zl x Γ.e))) st K)
  {ts vs:List Expr} {n1 n2:Nat} {p1 p2:Pos} {K:u7->St->Prop}  {fb:Prop} (hf:fb->T Γ.p Γ.w Γ.A Γ.B Γ.e y0 (exec (.Assign [.Tuple ts n1 p1] (.Tuple vs n2 p2) pos) Γ.e) st K)
  (h:Ak ih ts p2 vs K st fb):T Γ.p Γ.w Γ.A Γ.B Γ.e y0 (exec (.Assign [.Tuple ts n1 p1] (.Tuple vs n2 p2) pos) Γ.e) st K :=
 zT h (fun h=>Af h (fun h=>bV h (fun hb h9=>by
  rw[Zy] at hb;refine cH (uM rfl) (Oq (ZB hb.1)) rfl (tN ((hA h9).up fun us s k=>bV k (fun ý k=>?_) fun O k=>False.elim k));rw[Zy,Zy] at ý;have q:=(UJ (s9:=Γ.e) ts (Nat.eq_of_beq_eq_true hb.2)).1;exact⟨Zg (ZB ý.1) (by decide),dv g.hh q.1 (Nat.eq_of_beq_eq_true ý.2.1).symm q.2 (de ts (Nat.eq_of_beq_eq_true hb.2) us s (Nat.eq_of_beq_eq_true ý.2.1).symm ý.2.2 k)⟩) fun O=>hf) fun t1 t2 t3 e h=>by subst e;exact IL g hA hf h) fun t1 t2 e h=>by subst e;exact IM g hA hf h
theorem IW(g:I2 Γ){ih:J2->St->Prop}(hE:∀ {x:Expr} {K:AV->St->Prop} {st:St},ih (.e x K) st->T Γ.p Γ.w Γ.A Γ.B Γ.e Val (ZI x Γ.e) st K)
  (hT:∀ {x:Expr} {K:Bool->St->Prop} {st:St},ih (.t x K) st->T Γ.p Γ.w Γ.A Γ.B Γ.e aM (isTrue x Γ.e (ZI x Γ.e)) st K)
  (hL:∀ {x:List Stmt} {K:u7->St->Prop} {st:St},ih (.ss x K) st->T Γ.p Γ.w Γ.A Γ.B Γ.e y0 (execs x Γ.e) st K)
  (hA:∀ {pos:Pos} {x:List Expr} {K:List AV->St->Prop} {st:St},ih (.es pos x K) st->T Γ.p Γ.w Γ.A Γ.B Γ.e Vals (spliced (g6 pos (Zl x Γ.e))) st K) {x:Stmt} {K:u7->St->Prop}  (h:Az Γ ih x K st):T Γ.p Γ.w Γ.A Γ.B Γ.e y0 (exec x Γ.e) st K:=by
 cases x with
 |If t a b pos=>exact jX ((hT h).up fun c s k=>by cases c with |true=>exact hL k |false=>exact hL k)
 |Return e pos=>cases e with
  |none=>exact Vf h
  |some e=>exact Vg (hE h)
 |Pass pos=>exact Vh h
 |Break pos=>exact Vl h
 |Continue pos=>exact Vk h
 |Expr e pos=>exact bV h (fun hb h=>Vj g.act (yH hb) (hE h)) fun O=>t6.out
 |Assign ts e pos =>
  exact cV h t6.out fun t e1 h=>cV h (fun h=>cV h t6.out fun a e2 h=>cV h t6.out fun b e3 h=>by
   obtain rfl:=lq e1;rw[zU e2,zU e3] at h ⊢;exact IK g hA t6.out h) fun x e2 h=>by
   obtain rfl:=lq e1;refine aq (gP e2) fun p O2=>?_;subst O2;refine bV h (fun hb h=>?_) fun O=>t6.out;rw[Zy] at hb;exact me ((hE h).up fun v s k=>bV k (fun hb k=>bc hb k) fun O k=>False.elim k) (yH hb.1)
 |AugAssign t op e pos =>
  exact cV h t6.out fun x e1 h=>cV h t6.out fun v e2 h=>by
   refine aq (gP e1) fun p O2=>?_;subst O2;refine bV h (fun hb h=>?_) fun O=>t6.out;refine Vm (v₀:=v) (by rw[← jP];exact e2) (by cases v <;> first |rfl |cases hb) ((hE h).up fun u s k=>(QJ k).up2 fun r s k=>?_);exact bV k (fun hb k=>bc hb k) fun O k=>False.elim k
 |_=>exact t6.out h
theorem IT(g:I2 Γ){ih:J2->St->Prop}(hi:∀c st,ih c st->qo Γ c st)(c:J2)(st:St)(h:step Γ ih c st):qo Γ c st:=by
 have hE:∀ {x:Expr} {K:AV->St->Prop} {st:St},ih (.e x K) st->T Γ.p Γ.w Γ.A Γ.B Γ.e Val (ZI x Γ.e) st K:=fun h=>(hi _ _ h).out;have hA:∀ {pos:Pos} {x:List Expr} {K:List AV->St->Prop} {st:St},ih (.es pos x K) st->T Γ.p Γ.w Γ.A Γ.B Γ.e Vals (spliced (g6 pos (Zl x Γ.e))) st K:=fun h=>(hi _ _ h).out;have hT:∀ {x:Expr} {K:Bool->St->Prop} {st:St},ih (.t x K) st->T Γ.p Γ.w Γ.A Γ.B Γ.e aM (isTrue x Γ.e (ZI x Γ.e)) st K:=fun h=>(hi _ _ h).out;have hO:∀ {op:BoolOp} {x:List Expr} {K:Bool->St->Prop} {st:St},ih (.ts op x K) st->T Γ.p Γ.w Γ.A Γ.B Γ.e aM (allTrue op x Γ.e) st K:=fun h=>(hi _ _ h).out;have hS:∀ {x:Stmt} {K:u7->St->Prop} {st:St},ih (.s x K) st->T Γ.p Γ.w Γ.A Γ.B Γ.e y0 (exec x Γ.e) st K:=fun h=>(hi _ _ h).out;have hL:∀ {x:List Stmt} {K:u7->St->Prop} {st:St},ih (.ss x K) st->T Γ.p Γ.w Γ.A Γ.B Γ.e y0 (execs x Γ.e) st K:=fun h=>(hi _ _ h).out;cases c with
 |e x K=>exact t6.mk (IZ g hE hA hT h)
 |es pos xs K =>
  cases xs with
  |nil=>exact t6.mk (tP h)
  |cons x xs=>exact bV h (fun hb h=>t6.mk (Wa (Ay hb) ((hE h).up fun v s k=>hA k))) fun O h=>h
 |t x K =>
  refine t6.mk ?_;cases x with
  |UnaryOp o x pos=>cases o with
   |Not=>exact VV (hT h)
   |_=>exact t6.out h
  |BoolOp op xs pos=>exact VX (hO h)
  |Compare l E5 rs pos =>
   exact cV h t6.out fun op e1 h=>cV h t6.out fun r e2 h=>by
    obtain rfl:=lq e1;obtain rfl:=lq e2;exact bV h (fun O=>t6.out) fun hb h=>VW ((hE h).up fun v s k=>(hE k).up fun u s k=>(FO k).up2 fun c s k=>uG k) hb
  |Name x pos=>exact pn ((hE h).up fun v s k=>uG k)
  |Call f args P6 pos=>exact pn ((hE h).up fun v s k=>uG k)
  |_=>exact t6.out h
 |ts op xs K =>
  refine t6.mk ?_;cases xs with
  |nil=>cases op with
   |And=>exact VY h
   |Or=>exact VT h
  |cons x xs=>cases op with
   |And=>exact VZ ((hT h).up fun c s k=>by cases c with |true=>exact hO k |false=>exact k)
   |Or=>exact VU ((hT h).up fun c s k=>by cases c with |true=>exact k |false=>exact hO k)
 |s x K=>exact t6.mk (IW g hE hT hL hA h)
 |ss xs K =>
  refine t6.mk ?_;cases xs with
  |nil=>exact bP h
  |cons x xs=>exact ah ((hS h).up fun f s k=>by cases f with |next=>exact hL k |_=>exact k)
theorem kq(g:I2 Γ):∀(n:Nat) (c:J2) (st:St),wp Γ n c st->qo Γ c st
 |0,c,st,h=>h
 |n+1,c,st,h=>IT g (kq g n) c st h
theorem bD{F:List YV}{M:List G2}(g:I2 ⟨vv,w,A,B,s9,G,F,M⟩)(n:Nat){xs:List Stmt}{K:u7->St->Prop}(h:wp ⟨vv,w,A,B,s9,G,F,M⟩ n (.ss xs K) st):T vv w A B s9 y0 (execs xs s9) st K:=(kq g n _ _ h).out
theorem aF{F:List YV}{M:List G2}(g:I2 ⟨vv,w,A,B,s9,G,F,M⟩)(n:Nat){x:Stmt}{K:u7->St->Prop}(h:wp ⟨vv,w,A,B,s9,G,F,M⟩ n (.s x K) st):T vv w A B s9 y0 (exec x s9) st K:=(kq g n _ _ h).out
theorem cR{F:List YV}{M:List G2}(g:I2 ⟨vv,w,A,B,s9,G,F,M⟩)(n:Nat){xs:List Expr}{K:List AV->St->Prop}(h:wp ⟨vv,w,A,B,s9,G,F,M⟩ n (.es pos xs K) st):T vv w A B s9 Vals (spliced (g6 pos (Zl xs s9))) st K:=(kq g n _ _ h).out
theorem ad{F:List YV}{M:List G2}(g:I2 ⟨vv,w,A,B,s9,G,F,M⟩)(n:Nat){x:Expr}(h:wp ⟨vv,w,A,B,s9,G,F,M⟩ n (.e x K) st):T vv w A B s9 Val (ZI x s9) st K:=(kq g n _ _ h).out
theorem bH{F:List YV}{M:List G2}(g:I2 ⟨vv,w,A,B,s9,G,F,M⟩)(n:Nat){x:Expr}{K:Bool->St->Prop}(h:wp ⟨vv,w,A,B,s9,G,F,M⟩ n (.t x K) st):T vv w A B s9 aM (isTrue x s9 (ZI x s9)) st K:=(kq g n _ _ h).out
end
theorem bE{p:Prop}[Decidable p]{Q:Prop}(h1:p->P)(h2 : ¬ p->Q):pk (decide p) P Q:=cU (fun h=>h1 (of_decide_eq_true h)) fun h=>h2 (of_decide_eq_false h)
theorem Nh{Q:Prop}(h:P):pk true P Q:=h
theorem lp{Q:Prop}(h:Q):pk false P Q:=h
theorem mO{a b:Int}{Q:Prop}(h1:a=b->P)(h2:a≠b->Q):pk (a==b) P Q:=cU (fun h=>h1 (beq_iff_eq.mp h)) fun h=>h2 (beq_eq_false_iff_ne.mp h)
theorem qH{a b:Int}{Q:Prop}(h1:a≠b->P)(h2:a=b->Q):pk (a != b) P Q:=cU (fun h=>h1 (bne_iff_ne.mp h)) fun h=>h2 (bne_eq_false_iff_eq.mp h)
theorem Nl{i:Int}{Q:Prop}(h1:i=0->P)(h2:i≠0->Q):pk (!(i != 0)) P Q:=by
 by_cases h:i=0
 ·subst h;exact h1 rfl
 ·exact(Eq.symm (bne_iff_ne.mpr h))▸h2 h
section
variable{K:Frag}{fd:m3}{x1 x2 x3 x4 x5 x6 x7 x8 x9:AV}
theorem Binds.of1(h:∀Z v1,Val Z x1 v1->∃bs,Zm K ⟨vv,w.params⟩ (bindArgs fd ⟨[v1],[]⟩)=some bs/\w8 Z binds bs):Binds vv w A (ap K) fd [x1] [] binds :=
 Binds.pk fun Z=>Vals.un fun v1 h1=>Vals.un0 (h Z v1 h1)
theorem Binds.of2(h:∀Z v1 v2,Val Z x1 v1->Val Z x2 v2->∃bs,Zm K ⟨vv,w.params⟩ (bindArgs fd ⟨[v1,v2],[]⟩)=some bs/\w8 Z binds bs):Binds vv w A (ap K) fd [x1,x2] [] binds :=
 Binds.pk fun Z=>Vals.un fun v1 h1=>Vals.un fun v2 h2=>Vals.un0 (h Z v1 v2 h1 h2)
theorem Binds.of4(h:∀Z v1 v2 v3 v4,Val Z x1 v1->Val Z x2 v2->Val Z x3 v3->Val Z x4 v4->∃bs,Zm K ⟨vv,w.params⟩ (bindArgs fd ⟨[v1,v2,v3,v4],[]⟩)=some bs/\w8 Z binds bs):Binds vv w A (ap K) fd [x1,x2,x3,x4] [] binds :=
 Binds.pk fun Z=>Vals.un fun v1 h1=>Vals.un fun v2 h2=>Vals.un fun v3 h3=>Vals.un fun v4 h4=>Vals.un0 (h Z v1 v2 v3 v4 h1 h2 h3 h4)
end
theorem oQ{b:Bool}{Q:Prop}(h1:b=true->P)(h2:b=false->Q):if b=true then P else Q:=by
 cases b with
 |true=>exact h1 rfl
 |false=>exact h2 rfl
theorem Nx.id:Nx (fun P=>P st) .next st:=⟨rfl,st,B2.self _,fun O y=>y⟩
def JL(loc:Int->Int->Int->List (Str×AV))(B4:aa)(X:Int->Int->Int->Nat->Prop)(n:Nat)(P:St->Prop):Prop:=∀ti tj tk,X ti tj tk n->P ⟨loc ti tj tk,B4⟩
theorem JL.mk{loc:Int->Int->Int->List (Str×AV)}{B4:aa}{X:Int->Int->Int->Nat->Prop}{ti tj tk:Int}(h:X ti tj tk n):Lw (JL loc B4 X) n ⟨loc ti tj tk,B4⟩:=⟨_,B2.self _,fun O y=>y _ _ _ h⟩
def KL(loc:Int->Int->Int->List (Str×AV))(B4:aa)(X:Int->Int->Int->Prop)(P:St->Prop):Prop:=∀ti tj tk,X ti tj tk->P ⟨loc ti tj tk,B4⟩
theorem KL.mk{loc:Int->Int->Int->List (Str×AV)}{B4:aa}{X:Int->Int->Int->Prop}{ti tj tk:Int}(h:X ti tj tk):Nx (KL loc B4 X) .next ⟨loc ti tj tk,B4⟩:=⟨rfl,_,B2.self _,fun O y=>y _ _ _ h⟩
theorem T.joinW{t:Sem Flow}{K:u7->St->Prop}(Y:(St->Prop)->Prop)(h:T vv w A B s9 y0 t st (Nx Y))(k:Y fun t5=>∃l',L5 t5.led l'/\K .next ⟨t5.loc,l'⟩):T vv w A B s9 y0 t st K :=
 T.weakPost (T.join (K:=fun f t5=>∃l',L5 t5.led l'/\K f ⟨t5.loc,l'⟩) Y h k) fun O O O h=>h
theorem Xg{knd:n8 vv w Int}{m:List (Int×AV)}{dflt:AV}{k:Int}(H5:(d==d5)=false)(hk:∀Z x,Val Z v x->knd.is k x=true)(hm:(d,aB knd m)∈st.led)
  (e:(bn m k).getD dflt=u) (h:R u st):FC vv w A B s9 (.bm "dict.get" (.ref d)) [v,dflt] [] st R:=Xh H5 hk hm (e.symm▸h)
theorem WS{m:List (Str×AV)}{dflt:AV}{k:Str}(H5:(d==d5)=false)(hk:∀Z x,Val Z v x->(YT vv w).is k x=true)(hm:(d,aB (YT vv w) m)∈st.led)
  (e:(bn m k).getD dflt=u) (h:R u st):FC vv w A B s9 (.blt "dict.get") [.ref d,v,dflt] [] st R:=WT H5 hk hm (e.symm▸h)
theorem WM{led led':aa}(e:ys=xs++[v])(U:Upd a (.list ys) (.list xs) led led')(hsz:xs.length<Zc)(h:K v ⟨loc,led'⟩) :
  FC vv w A B s9 (.blt "list.pop") [.ref a] [] ⟨loc,led⟩ K:=by subst e;exact WN hsz U h
theorem ik{led led':aa}(e:xs++[v]=ys)(U:Upd a (.list xs) (.list ys) led led')(hsz:xs.length<=Zc)(h:K .none ⟨loc,led'⟩) :
  FC vv w A B s9 (.blt "list.append") [.ref a,v] [] ⟨loc,led⟩ K:=by subst e;exact zl hsz U h
theorem jY(f:α->AV){px:Pos}(Y:List α->(St->Prop)->Prop){K:u7->St->Prop}(hA:w0 A k)
  (C3:T vv w A B s9 Val (ZI iter s9) st fun v y6=>F1 vv w A B s9 Val pyIter v y6 (Æ vv w B [] k (.Name x px) (Lo f Y)))
  (step:∀gl a as,Y (a::as) fun t5=>(lk x t5.loc).isSome=true/\T vv w A B s9 y0 (execs body s9) ⟨sk x (f a) t5.loc,t5.led++gl⟩ (J7 (Lo f Y) K (as.map f) gl))
  (done:Y [] (K .next)) (hs:∀x,j8 iter s9 x=b9 x) :
  T vv w A B s9 y0 (exec (.For (.Name x px) iter body [] pos) s9) st K:=Gs f Y (fun O O O O h=>bX (bc h.1 h.2)) hA C3 step (fun O O O => .nil) done hs
theorem ie{f:AV}{led C7:aa}{v0:AV}(h:TC vv w A B f args kw led fun v l=>l=C7/\v=v0)(k:K v0 ⟨loc,C7⟩):FC vv w A B s9 f args kw ⟨loc,led⟩ K :=
 ig h fun v l q=>q.1.symm▸q.2.symm▸k
theorem T.bool{p:Prop}{t:Sem Bool}{K:Bool->St->Prop}(h:T vv w A B s9 aM t st fun b s=>s=st/\(b=true↔p))(h1:p->K true st)(h2 : ¬ p->K false st):T vv w A B s9 aM t st K :=
 h.mono fun b s k=>by
  refine aL k ?_;clear k;intro O1 k;subst O1;cases b with
  |true=>exact h1 (k.mp rfl)
  |false=>exact h2 fun q=>Bool.noConfusion (k.mpr q)

theorem gk(w:YH)(A:Yz)(fd:m3)(L f c:YV)(h3:interactive (bz fd L f c)=false)(h4:(bz fd L f c).blockKind=.function)(hh:A.handled=none):I2 ⟨ak,w,A,al w,bz fd L f c,[],[],[]⟩:=ce rfl rfl h3 h4 hh
theorem CG:PlainAttrs "str" := F.plainAttrs_str
theorem AH:Slot "str" ML "str.format" := by
 rw[show (ML:Str)=Yn "format" from by decide +kernel];exact F.slot_str_format_m
theorem UD{a b r1 r2 r3 r4 r5:AV} :
  Binds ak w A (al w) (aA (gf w.params)) [a,b,r1,r2,r3,r4,r5] [] [(eo,a),(dO,b),(BM,.tup [r1,r2,r3,r4,r5])]:=fun s Z led xs ks S hx hk Q E hQ =>
 w8.un0 (P:=fun ks=>YJ (YG ak w) A (bindArgs (aA (gf w.params)) ⟨xs,ks⟩) Q E s) (Vals.un (P:=fun xs=>YJ (YG ak w) A (bindArgs (aA (gf w.params)) ⟨xs,[]⟩) Q E s) (fun x1 h1=>Vals.un fun x2 h2 xr hr=>by
  rw[Y0.out hr (fun l=>bindArgs (aA (gf w.params)) ⟨x1::x2::l,[]⟩) (fun l=>newTuple l>>=fun t=>b9 [(eo,x1),(dO,x2),(BM,t)]) fun O O O O O=>@_];have P:=S.pushZ (o:={ cls:=.type "tuple",data:=.seq xr.toArray}) rfl s.toks;exact Yh (wpAny_newTuple (Yj (hQ _ _ _ P.1 (.cons (h1.mono P.2.le) (.cons (h2.mono P.2.le) (.cons (.tup (u6.add_at ..) (hr.mono P.2.le)) .nil))) P.2)) (by rw[hr.length];exact(by decide:5<=Zc)))) xs hx) ks hk
theorem yX{B1:Expr}{B3:List Stmt}{K:u7->St->Prop}
  (h:T vv w A B s9 aM (isTrue B1 s9 (ZI B1 s9)) st fun b t5=>b=false/\t5=st) (h2:T vv w A B s9 y0 (execs B3 s9) st K):T vv w A B s9 y0 (exec (.If B1 body B3 pos) s9) st K :=
 jX (h.mono fun b t5 k=>by refine aL k fun O1 O2=>?_;clear k;subst O1;subst O2;simpa using h2)
theorem Fj{a:List Str}(c:(!(a.map AV.str).isEmpty)=true):∃x,(a.map AV.str)[(0:Int).toNat]?=some (.str x):=by
 cases a with
 |nil=>cases c
 |cons x xs=>exact⟨x,rfl⟩
noncomputable abbrev PH(a b:List Str)(r v:AV:=.any):List (Str×AV):=[(BM,r),(dO,.lst (b.map .str)),(eo,.lst (a.map .str)),(BL,v)]
theorem TZ{a b:List Str}{r1 r2 r3 r4 r5:Str}{led:aa}(hA:w0 A 20)(ha:a.length<10^6)(hb:b.length<10^6) :
  TC ak w A (al w) (.ref 268) [.lst (a.map .str),.lst (b.map .str),.str r1,.str r2,.str r3,.str r4,.str r5] [] led fun v led'=>led'=led/\v=.none:=by
 refine zc (cL w) (So _) hA.lt UD @_ fun L hL=>?_;have u9:=hA.deeper (k:=17) (s9:=bz (aA (gf w.params)) L 268 267);have hG:=((gk w (A.deeper _) (aA (gf w.params)) L 268 267 @_ @_ u9.h).g (RK w) @_ @_).g (RE w) @_ @_;simp only[YO,List.reverse_nil,Yy,Yv];refine T.spare BL @_ ?_;simp only[Yv,Yy];refine ah (yX (bH hG 20 (t6.mk (pB .frz (by rw[Yl];omega) (cU (fun c=>(Fj c).elim fun x hx=>?_) fun c=>⟨rfl,rfl⟩)))) (bP ?_))
 ·exact t6.mk (bG .frz (by decide) (by decide) hx (t6.mk (zh F.isi_meta_str F.isi_self_str mA ⟨rfl,rfl⟩)))
 refine ah (yX (bH hG 20 (t6.mk (pB .frz (by rw[Yl];omega) (cU (fun c=>(Fj c).elim fun x hx=>?_) fun c=>⟨rfl,rfl⟩)))) (bP ?_))
 ·exact t6.mk (bG .frz (by decide) (by decide) hx (t6.mk (zh F.isi_meta_str F.isi_self_str mA ⟨rfl,rfl⟩)))
 refine ah (jY (k:=5) AV.str (fun O P=>P ⟨PH a b (.tup [.str r1,.str r2,.str r3,.str r4,.str r5]),led⟩) (u9.mono ⋯) (ad hG 20 (XK fun it gl h => .mk h (.mk (gs:=[r1,r2,r3,r4,r5]) (fun O y=>y) @_))) ?_ (bP ⟨rfl,rfl⟩) fun O=>@_);exact fun gl y ys=>⟨rfl,ah (yX (bH hG 20 (t6.mk (zh F.isi_meta_str F.isi_self_str mA ⟨rfl,rfl⟩))) (bP (bP (.next (l:=led) (.mk (fun O y=>y) @_)))))⟩
noncomputable def bB(a b:Int):Str:=if b-a=0 then Yn (l8 a) else if b-a=1 then Yn (l8 (a+1)) else Yn (l8 (a+1))++Yn "," ++ Yn (l8 b)
section
variable{a b:Int}
theorem KU(h:b-a=0):AV.str (Yn (l8 (a+1-1)))=.str (bB a b):=by
 unfold bB;rw[if_pos h,Int.add_sub_cancel]
theorem KS(h:b-a≠0)(h':b-a<=1)(W9:a<=b):AV.str (Yn (l8 (a+1)))=.str (bB a b):=by
 unfold bB;rw[if_neg h,if_pos (show b-a=1 by omega)]
theorem KR(h:b-a≠0)(h' : ¬ b-a<=1):AV.str (Yn (l8 (a+1))++Yn "," ++ Yn (l8 (a+1+(b-a)-1)))=.str (bB a b):=by
 unfold bB;rw[if_neg h,if_neg ⋯,show a+1+(b-a)-1=b by omega]
end
section
variable{a b:Int}{led:aa}(hA:w0 A 10)(ha:0<=a)(W9:a<=b)(hb:b<10^9)
include hA ha W9 hb
theorem Bj:TC ak w A (al w) (.ref 253) [.int a,.int b] [] led fun v led'=>led'=led/\v=.str (bB a b):=by
 refine fU [(Cf,.int b),(Cg,.int a),(Ce,.any),(vq,.any)] (cL w) hA.lt (fun O O=>@_) @_ @_ (Sr _) fun L hL=>?_;have hG:=(gk w (A.deeper (bz (aA (lu w.params)) L 253 252)) (aA (lu w.params)) L 253 252 @_ @_ hA.h).m ⟨ML,0, "str.format"⟩ CG AH F.type_str_format_m;refine bD hG 60 (Nl (fun c=>bE (fun O=>?_) fun q=>?_) fun c=>bE (fun q=>?_) fun q=>?_)
 ·exact t6.mk (GY ⋯ ⋯ ⟨rfl,KU c⟩)
 ·exact absurd (c▸by decide) q
 ·exact t6.mk (GY ⋯ ⋯ ⟨rfl,KS c q W9⟩)
 ·exact t6.mk (WV ⋯ ⋯ ⋯ ⋯ ⟨rfl,KR c q⟩)
end
set_option backward.match.sparseCases false in
noncomputable def FV(o:Obj):ClassData:=match o.data with |.cls c=>c |_=>default
theorem ba(P:Ym):L7 (KB P) 242:=⟨@_,@_,@_,@_,FV (rz P),@_,@_⟩
noncomputable abbrev nA:Str:=eo
theorem kF(l:List (Str×AV))(x:Str)(v:AV):(df l x v).length<=l.length+1:=by
 induction l with
 |nil=>exact YR _
 |cons p r ih =>
  rw[uQ];split
  ·exact Nat.le_succ _
  ·rw[Yq,Yq];exact p8 ih
theorem zt{K:Frag}{m m':List (Str×AV)}{led:aa}{R:Unit->St->Prop}(ok:L7 K C)(ht:takerIn K C name=some none)
  (hm:df m name v=m') (hsz:m'.length<=1000) (h:R () ⟨loc,(d,bI m')::led⟩):F2 vv w A (ap K) s9 aV (fun x y=>setAttr x name y) (.inst C d) v ⟨loc,(d,bI m)::led⟩ R :=
 Hj ok ht hm hsz (led':=(d,bI m')::led) .here h
theorem JM{m:List (Str×AV)}{led:aa}(hA:w0 A 20)(hm:m.lookup nA=some .none)(hsz:m.length<=100) :
  TC ak w A (al w) (.ref 174) [.inst 242 d,.lst xs] [] ((d,bI m)::led) fun v led'=>v=.none/\led'=(d,bI (df (df (df m nA (.lst xs)) vk .none) BE .none))::led:=by
 refine fU [(nA,.lst xs),(q6,.inst 242 d)] (cL w) hA.lt (fun O O=>@_) @_ @_ (Sz _) fun L hL=>?_;have hG:=gk w (A.deeper (bz (aA (jH w.params)) L 174 173)) (aA (jH w.params)) L 174 173 @_ @_ hA.h;refine bD hG 60 (t6.mk (ec (ba _) @_ (Yi ..) hm rfl ?_));refine t6.mk (cH rfl rfl rfl (ad hG 5 (dG (ad hG 5 (zt (ba _) @_ rfl (Zg (kF ..) ⋯) ?_)))));refine t6.mk (gG rfl rfl rfl (ad hG 5 (dG (ad hG 5 (zt (ba _) @_ rfl (Zg (kF ..) (Nat.succ_le_of_lt (o0 (kF ..) ⋯))) (dG (ad hG 5 (zt (ba _) @_ rfl (Zg (kF ..) (Nat.succ_le_of_lt (o0 (kF ..) (o0 (p8 (kF ..)) ⋯)))) ?_))))))));exact⟨rfl,rfl⟩
theorem t8.fixZ{s0:Yo}{led:aa}(S:t8 B s Z led){c:YV}{o:Obj}(hc:s.heap.get? c=some o)(h0:s0.heap.get? c=none)(hl:c∉keys led)(hZ:Z c=none)(X:y8 (aj led) s0 Z s Z (aj led)) :
  t8 B s (Z.add c o) led/\y8 (aj led) s0 Z s (Z.add c o) (aj led):=by
 have le:=u6.le_add (o:=o) hZ;refine⟨⟨S.base.trans le,fun a x e=>?_,S.nodup,fun p hp=>?_,fun p hp=>(S.own p hp).mono le (fun O e=>e) fun O O O e=>e,S.gnodup,S.bare⟩,⟨le,X.kept,X.grow,fun a x e=>?_,X.os,X.gkept,X.ggrow⟩⟩
 ·unfold u6.add at e;split at e
  ·rename_i q;cases e;exact(Eq.symm (q))▸hc
  ·exact S.frozen a x e
 ·unfold u6.add;exact(Eq.symm (if_neg fun(q:p.1=c)=>hl (q▸YF hp)))▸S.apart p hp
 ·unfold u6.add at e;split at e
  ·rename_i q;exact .inr (.inr (q▸h0))
  ·exact .inl e
section
open PySem PySem.W PySem.Builtin
end
noncomputable abbrev mC:Expr:=.Name ⟨⟨[]⟩⟩ default
section
variable{N:aa}
theorem pR{led:aa}{P_:Array Value}{f:Array Value->Array Value}{Q:Unit->Yo->Prop}(S:t8 B s Z ((a,.list xs)::led))(hg:s.heap.get? a=some {cls:=.type "list",data:=.seq P_ n})(hv:Vals Z ys (f P_).toList)(hz:P_.size<=Zc)(ξ:(f P_).size<=Zc+1)
  (k:∀h' n',h'.get? a=some {cls:=.type "list",data:=.seq (f P_) n' }->t8 B {s with heap:=h' } Z ((a,.list ys)::led)->y8 (aj ((a,.list xs)::led)) s Z {s with heap:=h' } Z (aj ((a,.list ys)::led))->Q () {s with heap:=h' }) :
  YJ (YG vv w) A (updateSeq a f) Q E s:=wpAny_updateSeq hg rfl (aq (⟨_,YZ (Zi f) hg rfl⟩:∃n',(s.heap.update a (Zi f)).get? a=some {cls:=.type "list",data:=.seq (f P_) n' }) fun n' G9 =>
   have P:=S.upd (led':=(a,.list ys)::led) .here (h':=s.heap.update a (Zi f)) (tk:=s.toks) (fun b ob hb e=>(YX ..).extBut b ob hb e) rfl rfl ⟨_,n',G9,hv⟩;k _ n' G9 P.1 P.2) hz ξ
theorem SU{S:YV}{res:Value}{R:Result->Yo->Prop}(hA:w0 A (k+1))  (items:List AV):∀(acc:List AV) (gl led:aa) (s:Yo) (Z:u6),D4 N led->u8 vv w B N k mC it items gl->acc.length+items.length<=Zc ->
  t8 B s Z ((S,.list acc)::(gl++led))->(∀s' Z',t8 B s' Z' ((S,.list (acc++items))::led)->y8 (aj ((S,.list acc)::(gl++led))) s Z s' Z' (aj ((S,.list (acc++items))::led))->R (.ok (.ret res)) s') ->
  codeAny (YG vv w) A (.builtin "list.extend.loop" ⟨[.ref S,.ref it,res],[]⟩) R s:=by
 induction items with
 |nil =>
  intro acc gl led s Z hN hI hsz S1 hR;refine j9 F.entry_extend_loop ?_;rw[j7 F.plain_extend_loop _];refine hI.last hA.in1 (hN.cons _) (S1.perm (ZX.symm)) fun s' Z' S' X'=>Yj ?_;rw[Zv] at hR;exact hR s' Z' S' (er (ZX (l₁:=gl) (l₂:=led) (a:=(S,y1.list acc)))▸X')
 |cons x items ih =>
  intro acc gl led s Z hN hI hsz S1 hR;refine j9 F.entry_extend_loop ?_;rw[j7 F.plain_extend_loop _];rw[Yq] at hsz;have W8:acc.length<Zc:=by omega
  refine hI.draw hA.in1 (hN.cons _) (S1.perm (ZX.symm)) (fun O=>rfl) fun s' Z' v gl' S' V X' hI'=>?_;rw[er (ZX (l₁:=gl) (l₂:=led) (a:=(S,y1.list acc))),er (ZX (l₁:=gl') (l₂:=led) (a:=(S,y1.list acc)))] at X';have S2:=S'.perm (ZX (l₁:=gl') (l₂:=led) (a:=(S,y1.list acc)));refine bK (S2.own _ (Yi ..)) fun P_ n g vs=>?_;dsimp only at g;have y4:P_.size=acc.length:=vs.size;show YJ _ A.in1 (updateSeq S (·.push v)>>=_) _ _ _;refine Yh (pR (ys:=acc++[x]) S2 g (by simpa using vs.append (.cons V .nil)) (by rw[y4];omega) (by show (P_.push v).size<=Zc+1;rw[Array.size_push,y4];omega) fun h' n' O S3 X3=>Yj ⟨plainId_quiet F.plain_extend_loop _,ih (acc++[x]) gl' led _ Z' hN hI' (by simp only[Yr,d9];omega) S3 fun G5 E8 D7 L4=>?_⟩);rw[YN] at D7 L4;exact hR G5 E8 D7 ((X'.trans X3).trans L4)
theorem A9.same:∀loc:List (Str×AV),A9 a xs loc loc
 | [] => .nil
 |_::l => .keep (A9.same l)
theorem GU{T':String}{items:List AV}{gl led:aa}(hA:w0 A (k+3))(hN:D4 N led)(hI:u8 vv w B N k mC it items gl)(hsz:items.length<=Zc)
  (hT:∀s Z,t8 B s Z (gl++led)->s.TypeIs (.ref it) T') (hT1:(l5 T'==l5 "list")=false) (hT2:(l5 T'==l5 "tuple")=false)
  (F6:∀(A:Yz) s Z,t8 B s Z (gl++led)->∀(Q:Value->Yo->Prop) E,Q (.ref it) s->YJ (YG vv w) A (pyIter (.ref it)) Q E s)
  (y4:ZJ (.type T') "__len__" = b9 none) (ð:ZJ (.type T') "__length_hint__" = b9 none)
  (h:K (.lst items) ⟨loc,led⟩):FC vv w A B s9 (.typ "list") [.ref it] [] ⟨loc,gl++led⟩ K:=FC.t fun s Z S0 Q E hQ=>Vals.un <| Val.eRef <| Vals.un0 <| by
 have SL:=S0.tot8;have P1:=SL.push (o:={ cls:=.type "list",data:=.seq #[]}) (ao:=.list []) rfl s.toks ⟨#[],0,Ys _ rfl,.nil⟩;refine ae (hT s Z SL) fun oi g_ O=>?_;have C8:s.heap.objs.size≠it:=fun e=>by have:=Zj g_;rw[← e] at this;exact d7 _ this
 refine callType_codes (Q₁:=fun obj s₁=>obj=.ref s.heap.objs.size/\s₁={ s with heap:=s.heap.push {cls:=.type "list",data:=.seq #[]} }) F.called_list (F.typeCall_list_1 _) F.entry_list_init
  (code_list_new _ ⟨rfl,rfl⟩) fun obj s₁ Ò=>?_
 refine aL Ò fun O1 O2=>?_;clear Ò;subst O1;subst O2;have hS:(s.heap.push {cls:=.type "list",data:=.seq #[]}).get? s.heap.objs.size=some {cls:=.type "list",data:=.seq #[]}:=Ys _ rfl;refine⟨⟨_,hS,rfl⟩,F.args_list_init_2 _ _,?_⟩;show YJ _ A.in1.in1 (do let old ← Builtin.List.listItems (.ref s.heap.objs.size);Builtin.List.listUpdate (.ref s.heap.objs.size) (fun O => #[]);letGo old.toList.reverse;Builtin.List.listExtendWith (.ref s.heap.objs.size) (.ref it) .none) _ _ _;refine Yh ?_;unfold Builtin.List.listItems;refine Yh (a8 hS rfl (Yj ?_));show YJ _ A.in1.in1 (updateSeq s.heap.objs.size (fun O => #[])>>=fun O=>letGo (#[]:Array Value).toList.reverse>>=fun O=>Builtin.List.listExtendWith (.ref s.heap.objs.size) (.ref it) .none) _ _ _;refine Yh (pR (ys:=[]) P1.1 hS .nil (YD _) (YD _) fun h2 n2 hS2 S2 X2=>?_);refine Yh (wpAny_letGo ?_);unfold Builtin.List.listExtendWith;have D2:=S2.drop1;refine Yh (wpAny_typeOf (hT _ Z D2) ?_);have h1:Builtin.List.listSameRef (.ref s.heap.objs.size) (.ref it)=false:=by simp[Builtin.List.listSameRef,C8]
 simp only[h1,hT1,hT2,Bool.or_false,Za,if_false];refine Yh (F6 _ _ Z D2 _ _ ?_);refine Yh (Yw ?_);unfold Builtin.List.listLengthHint;refine Yh (m4 (hT _ Z D2) y4 ?_);show YJ _ A.in1.in1 (specialOf (Value.ref it) (Yn "__length_hint__")>>=_) _ _ _;refine Yh (m4 (hT _ Z D2) ð ?_);refine Yj ?_;show YJ _ A.in1.in1 (rule "list.extend.makes-room" >>= fun O=>Builtin.List.listTouch (.ref s.heap.objs.size)>>=fun O =>
  again (.builtin "list.extend.loop" ⟨[.ref s.heap.objs.size,.ref it,.none],[]⟩)) _ _ _
 refine Yh (ZM ?_);refine Yh ?_;show YJ _ A.in1.in1 (updateSeq s.heap.objs.size (·.push .none)>>=fun O=>updateSeq s.heap.objs.size (·.pop)) _ _ _;refine Yh (pR (ys:=[.none]) S2 hS2 (.cons .none .nil) (YD _) (Nat.le_add_left ..) fun h3 n3 hS3 S3 X3=>?_);refine pR (ys:=[]) S3 hS3 .nil (by decide:1<=Zc) (YD _) fun h4 n4 hS4 S4 X4=>?_;refine Yj ⟨plainId_quiet F.plain_extend_loop _,SU (k:=k) ?_ items [] gl led _ Z hN hI (by simpa using hsz) S4 fun s' Z' S' X'=>?_⟩
 ·exact⟨hA.h,by have:=hA.d;show A.depth+(k+1)<=_;omega,by have:=hA.u;show A.units+1+(k+1)<=_;omega⟩
 ·rw[Yy] at S' X';have X:=(((P1.2.trans X2).trans X3).trans X4).trans X';have SF:=S0.after S' X;refine aZ (SF.freeze (w6:=loc) (A9.same loc)) fun Z2 S2 V2 X2=>?_;exact⟨rfl,hQ _ _ s' Z2 _ h S2 V2 ((X.toF (st:=⟨loc,gl++led⟩)).trans X2)⟩
end
theorem Jh:Slot "map" "__init__" "object.__init__" :=
 .of (owner := "object") (n := "__init__") (by rw[Zs,YW];kernel_rfl) (by decide +kernel) (by decide +kernel) (by decide +kernel)
  (by first |exact .inl (by decide +kernel) |exact .inr (by decide +kernel)) (by rw[Zp];kernel_rfl)
theorem mF:Slot "map" "__next__" "map.__next__" :=
 .of (owner := "map") (n := "__next__") (by rw[Zs,YW];kernel_rfl) (by decide +kernel) (by decide +kernel) (by decide +kernel)
  (by first |exact .inl (by decide +kernel) |exact .inr (by decide +kernel)) (by rw[Zp];kernel_rfl)
theorem AG:Slot "map" "__iter__" "map.__iter__" :=
 .of (owner := "map") (n := "__iter__") (by rw[Zs,YW];kernel_rfl) (by decide +kernel) (by decide +kernel) (by decide +kernel)
  (by first |exact .inl (by decide +kernel) |exact .inr (by decide +kernel)) (by rw[Zp];kernel_rfl)
theorem Fv:entryFor table "map.__next__" = some Builtin.«map.__next__» := f1 @_
theorem Tp:entryFor table "map.__new__" = some Builtin.«map.__new__» := f1 @_
theorem Tq:entryFor table "map.__iter__" = some Builtin.«dict_keyiterator.__iter__» :=
 entryFor_alias (id' := "dict_keyiterator.__iter__") @_ (by first |rfl |decide +kernel |(unfold String.splitOn;simp +decide [String.splitOnAux])) (by decide +kernel) @_
theorem Gh(a:Value):m9 "map.__next__" ⟨[a],[]⟩:=by unfold m9;kernel_rfl
theorem UO(a:Value):m9 "map.__iter__" ⟨[a],[]⟩:=by unfold m9;kernel_rfl
theorem DL:mroOf (.type "map")=b9 [.type "map",.type "object"]:=by rw[mroOf_type];kernel_rfl
theorem Pt:ZJ (.type "map") "__new__" = b9 (some (.builtin "map.__new__")):=by rw[Zs,YW];kernel_rfl
theorem Uo:TypeCalled "map" "map.__new__" "object.__init__" :=
 ⟨by decide +kernel,by decide +kernel,⟨_,_,DL⟩,madeBy_type DL Pt (by decide +kernel),by decide +kernel,by rw[Zp];kernel_rfl,Jh⟩
theorem Ik(a b:Value):checkTypeCall "map" ⟨[a,b],[]⟩=b9 ():=@_
theorem Oz(a b:Value):checkBuiltinCall "map.__new__" ⟨[.type "map",a,b],[]⟩=b9 ():=@_
theorem IP:l4 (.type "map") (.type "map")=b9 true:=by rw[Zp];kernel_rfl
theorem Pk:ZJ (.type "map") "__len__" = b9 none:=by rw[Zs,YW];kernel_rfl
theorem Pl:ZJ (.type "map") "__length_hint__" = b9 none:=by rw[Zs,YW];kernel_rfl
theorem Km{l:YV}{f:Value}{items:Array Value}{P:PySem.Fin->Yo->Prop}(hl:s.heap.IsList l items)
  (h:P (.done (.ret (.ref (s.heap.objs.size+2)))) {s with heap:=((s.heap.push {cls:=.type "list_iterator",data:=.fields #[.ref l,.int 0 0]}).push {cls:=.type "tuple",data:=.seq #[.ref s.heap.objs.size]}).push {cls:=.type "map",data:=.fields #[.ref (s.heap.objs.size+1),f]} }) :
  YJ (YG vv w) A (Builtin.«map.__new__» ⟨[.type "map",f,.ref l],[]⟩) P E s:=by
 unfold Builtin.«map.__new__»;refine Yh ?_;unfold Builtin.SmallTypes.newClass;refine Yh (Zr (a:=true) rfl ?_);refine Zw rfl ?_;refine Yh (Zr (a:=true) IP ?_);refine Zw rfl ?_;refine Yj ?_;refine Yh (Zr (a:=()) rfl ?_);dsimp only;refine fW (by simp) ?_;refine Yh ?_;unfold Builtin.SmallTypes.iterAll;simp only[List.drop_succ_cons,List.drop_zero,List.forIn_cons,List.forIn_nil];refine Yh (Yh (Yh (Yw (wpAny_pyIter_list hl ?_))));refine Yj (Yj (Yj ?_));refine Yh (wpAny_newTuple ?_ (by simp;decide));refine Yh ?_;unfold Builtin.SmallTypes.newRecord;refine Zo ?_;refine Yj ?_;simpa[l7] using h
theorem PK{l:YV}{items:Array Value}{x:Value}(hit:s.heap.IsListIter it l i)(hl:s.heap.IsList l items)(hx:items[i]?=some x)
  (hQ:∀h',h'.IsListIter it l (i+1)->YS it s.heap h'->Q x {s with heap:=h' }):YJ (YG vv w) A (Builtin.SmallTypes.nextOf (.ref it)) Q E s:=by
 refine aZ (id hit) fun o ho hc hd=>?_;obtain⟨ol,Ē,_,nl,ö⟩:=hl;unfold Builtin.SmallTypes.nextOf;refine Yh (Zn (name:=Yn "__next__") hit.typeIs slot_listiter_next (Zf slot_listiter_next hit.typeIs entry_listiter_next ?_ (args_listiter_next _)));show YJ _ _ (field (.ref it) 0>>=_) _ _ s;refine Yh (j4 ho hd (x:=.ref l) rfl ?_);refine Zw rfl ?_;refine Yh (j4 ho hd (x:=.int i 0) rfl ?_);refine Yh (a8 Ē ö ?_);simp only[Zb,hx];refine Yh (wpAny_setField ho hd (by simp) (Yj ⟨x,rfl,Yj (hQ _ ?_ (YX ..))⟩));exact⟨_,YZ _ ho (g7 (l9 hd _)),(Obj.cls_mapFields ..).trans hc,by
  rw[l9 hd];simp[ZG]⟩
theorem PL{l:YV}{items:Array Value}(hh:A.handled=none)(hit:s.heap.IsListIter it l i)(hl:s.heap.IsList l items)(hx:items[i]?=none)
  (hQ:∀h' e,Heap.ExtBut it s.heap h'->({s with heap:=h' }:Yo).TypeIs (.ref e) "StopIteration" -> E (.ref e) {s with heap:=h' }):YJ (YG vv w) A (Builtin.SmallTypes.nextOf (.ref it)) Q E s:=by
 refine aZ (id hit) fun o ho hc hd=>?_;obtain⟨ol,Ē,_,nl,ö⟩:=hl;unfold Builtin.SmallTypes.nextOf;refine Yh (Zn (name:=Yn "__next__") hit.typeIs slot_listiter_next (Zf slot_listiter_next hit.typeIs entry_listiter_next ?_ (args_listiter_next _)));show YJ _ _ (field (.ref it) 0>>=_) _ _ s;refine Yh (j4 ho hd (x:=.ref l) rfl ?_);refine Zw rfl ?_;refine Yh (j4 ho hd (x:=.int i 0) rfl ?_);refine Yh (a8 Ē ö ?_);simp only[Zb,hx];refine Yh (ZM (Yh (wpAny_setField ho hd (by simp) ?_)));show YJ _ _ (newExc (.type "StopIteration") []>>=_) _ _ _;refine Yh ?_;dsimp only[newExc,newTuple];refine Yh (Zo ?_ (by size_fits));refine Yh (m:=f6 _ _) (Zr (a:=ZC) (by first |rfl |(dsimp only[f6];rfl)) ?_);refine Zo ?_ (by size_fits);dsimp only[raiseNew];refine Yh (wpAny_handled ?_);rw[show A.in1.handled=none from hh];refine Yh (Yj (wpAny_throw ?_));exact hQ _ _ (((YX ..).extBut.push _).push _) ⟨_,Ys _ rfl,rfl⟩
theorem Pm{m tt l:YV}{f x:Value}{items:Array Value}{Q:Option Value->Yo->Prop}(hm:s.heap.get? m=some {cls:=.type "map",data:=.fields #[.ref tt,f]})(ht:s.heap.get? tt=some {cls:=.type "tuple",data:=.seq #[.ref it]})
  (hit:s.heap.IsListIter it l i) (hl:s.heap.IsList l items) (hx:items[i]?=some x) (hmi:m≠it)
  (h:∀h',h'.IsListIter it l (i+1)->YS it s.heap h'->YJ (YG vv w) A.in1 (call f [x]) (fun v s'=>Q (some v) s') (fun O O=>False) {s with heap:=h' }) :
  YJ (YG vv w) A (e9 (.ref m)) Q E s:=by
 have hT:s.TypeIs (.ref m) "map" := ⟨_,hm,rfl⟩;unfold e9;refine Yh (f2 (Zn (name:=Yn "__next__") hT mF (Zf mF hT Fv ?_ (Gh _))));show YJ _ _ (field (.ref m) 0>>=_) _ _ s;refine Yh (j4 hm rfl (x:=.ref tt) rfl ?_);refine Yh (a8 ht rfl ?_);simp only[← Array.forIn_toList,List.forIn_cons,List.forIn_nil];refine Yh (Yh (Yh (Yw (PK hit hl hx fun h' H7 Q9=>?_))));refine Yj (Yj ?_);have ç:h'.get? m=some {cls:=.type "map",data:=.fields #[.ref tt,f]}:=(Q9.2 m hmi).trans hm;refine Yh (j4 ç rfl (x:=f) rfl ?_);refine Yh (Yw (Zk (h h' H7 Q9) (fun v s' hv=>?_) fun O O z=>z.elim));refine Yh (wpAny_letGo (Yj ⟨v,rfl,Yj hv⟩))
theorem Pn{m tt l:YV}{f:Value}{items:Array Value}{Q:Option Value->Yo->Prop}(hh:A.handled=none)(hm:s.heap.get? m=some {cls:=.type "map",data:=.fields #[.ref tt,f]})(ht:s.heap.get? tt=some {cls:=.type "tuple",data:=.seq #[.ref it]})
  (hit:s.heap.IsListIter it l i) (hl:s.heap.IsList l items) (hx:items[i]?=none)
  (hQ:∀h',Heap.ExtBut it s.heap h'->Q none {s with heap:=h' }):YJ (YG vv w) A (e9 (.ref m)) Q E s:=by
 have hT:s.TypeIs (.ref m) "map" := ⟨_,hm,rfl⟩;unfold e9;refine Yh (f2 (Zn (name:=Yn "__next__") hT mF (Zf mF hT Fv ?_ (Gh _))));show YJ _ _ (field (.ref m) 0>>=_) _ _ s;refine Yh (j4 hm rfl (x:=.ref tt) rfl ?_);refine Yh (a8 ht rfl ?_);simp only[← Array.forIn_toList,List.forIn_cons,List.forIn_nil];refine Yh (Yh (Yh (Yw (PL hh hit hl hx fun h' e Ď Ġ=>?_))));refine Yh (ZV (T := "StopIteration") (b:=true) Ġ isSubtype_stop ?_);exact Yj (hQ h' Ď)
section
open PySem PySem.W PySem.Builtin
end
section
open PySem PySem.W PySem.Builtin
end
section
open PySem PySem.W PySem.Builtin
end
section
open PySem PySem.W PySem.Builtin
end
section
open PySem PySem.W PySem.Builtin
end
section
open PySem PySem.W PySem.Builtin
theorem Nu{x y z:α}{l:List α}:(x::y::z::l).Perm (z::y::x::l):=(List.perm_append_comm_assoc [x,y] [z] l).trans (.cons z (.swap y x l))
end
noncomputable abbrev gp(va:AV)(b:List Str):List (Str×AV) :=
 [(qy,.none),(eo,va),(dO,.lst (b.map .str)),(vp,.bool true),(vk,.none),(BE,.none),(BD,.none)]
noncomputable abbrev EA(va:AV)(b:List Str)(dj jk pp:YV):List (Str×AV):=gp va b++[(qw,.ref dj),(BA,.ref jk),(By,.ref pp)]
theorem xR{dj:YV}(h:al w dj=none):(dj==d5)=false:=beq_eq_false_iff_ne.mpr fun q=>by
 have:(al w d5).isSome=true:=@_;rw[← q,h] at this;cases this
structure X9 (b pre rest:List Str) (es:dL):Prop where
 e:b=pre++rest
 es:dn es=fj (gB [] 0 pre)
section
variable{b pre rest:List Str}{es J1 J9:dL}{js:List AV}{a':YV}
theorem X9.room(h:X9 b pre rest es):es.length<=b.length:=by
 have h1:=congrArg k9 h.es;simp only[dn,fj,Yl] at h1;have h2:=Uj pre [] 0;simp only[YI] at h2;rw[h.e,Yr];omega
theorem X9.step(h:X9 b pre (y::rest) es)(T4:∀v,eG (dn es) y v=dn (J1++(y,a',js++[v])::J9)):X9 b (pre++[y]) rest (J1++(y,a',js++[.int pre.length])::J9) :=
 ⟨by rw[h.e,YN];rfl,by rw[FU,r0,Tt,← h.es,T4]⟩
theorem X9.lens(h:X9 b pre rest es){e:Str×YV×List AV}(he:e∈es):e.2.2.length<=pre.length:=by
 have hm:(e.1,e.2.2)∈fj (gB [] 0 pre):=by rw[← h.es];exact YF (f:=fun e:Str×YV×List AV=>(e.1,e.2.2)) he
 refine ae (YM.mp hm) fun e' ě q=>?_;have h1:=Ui pre [] 0 0 (fun O h=>by cases h) e' ě;have h2:=congrArg (fun p=>p.2.length) q;simp only[dU,Yl] at h1 h2;omega
theorem X9.lenjs(h:X9 b pre (y::rest) es)(T4:∀v,eG (dn es) y v=dn (J1++(y,a',js++[v])::J9)):js.length<=b.length:=by
 have:=(h.step T4).lens (e:=(y,a',js++[.int pre.length])) (YQ _ (Yi ..));have e:=(h.step T4).e;rw[e,Yr];simp only[Yr,d9] at this ⊢;omega
end
section
variable(w:YH)(d dj:YV)(va:AV)(b:List Str)(led:aa)
noncomputable abbrev PI(vi ve vx bj ju ij po nn nt vz:AV:=.any):List (Str×AV) :=
 [(q6,.inst 242 d),(mN,vi),(BC,ve),(BB,vx),(dO,.lst (b.map .str)),(qw,bj),(Bz,ju),(qy,ij),(Bx,po),(qt,nn),(Bw,nt),(Bv,vz)]
noncomputable abbrev Fx(p:Str×Nat):AV:=.tup [.int p.2,.str p.1]
def JB(gs:List (Str×Nat))(P:St->Prop):Prop:=∀pre rest es,gs=rest.zipIdx pre.length->X9 b pre rest es->P ⟨PI d b .any .any .any (.ref dj),(dj,aB (YT ak w) (dx es))::(eY es++(d,bI (gp va b++[(qw,.ref dj)]))::led)⟩
end
theorem Tj(l:List Str)(n:Nat):tD n (l.map .str)=(l.zipIdx n).map Fx:=by
 induction l generalizing n with
 |nil=>rfl
 |cons x l ih=>exact congrArg _ (ih (n+1))
theorem Hv{p:Str×Nat}{gs:List (Str×Nat)}{rest:List Str}(e:p::gs=rest.zipIdx n):∃r,rest=p.1::r/\n=p.2/\gs=r.zipIdx (n+1):=by
 cases rest with
 |nil=>cases e
 |cons y r=>cases e;exact⟨r,rfl,rfl,rfl⟩
theorem X9.all{b pre rest:List Str}{es:dL}(h:X9 b pre rest es)(e:[]=rest.zipIdx n):X9 b b [] es:=by
 cases rest with
 |nil =>
  have q:=h.e;rw[Zv] at q;exact q▸h
 |cons y r=>cases e
theorem Uh{va:AV}{b:List Str}{led:aa}(hA:w0 A 20)(hb:b.length<200) :
  TC ak w A (al w) (.ref 188) [.inst 242 d] [] ((d,bI (gp va b))::led) fun v led'=>v=.none/\∃dj jk pp mm,led'=(d,bI (gp va b++[(qw,.ref dj),(BA,.ref jk),(By,.ref pp)]))::(dj,aB (YT ak w) mm)::(jk,dH)::led
   /\ (dj==d5)=false/\∀k,(bn mm k).getD (.lst [])=.lst (dU (bO b k)):=by
 refine TC.weak (fU [(q6,.inst 242 d),(mN,.any),(BC,.any),(BB,.any),(dO,.any),(qw,.any),(Bz,.any),(qy,.any),(Bx,.any),(qt,.any),(Bw,.any),(Bv,.any)] (cL w) hA.lt (fun O=>@_) @_ @_ (Sx _) fun L hL=>?_);have u9:=hA.deeper (k:=17) (s9:=bz (aA (jF w.params)) L 188 187);have hh:=u9.h;have hG:=((((((gk w (A.deeper _) (aA (jF w.params)) L 188 187 @_ @_ hh).g (gw w) @_ @_).g (RO w) @_ @_).g (RF w) @_ @_).m ⟨Li,1, "list.append"⟩ F.plainAttrs_list jc F.type_list_append).m ⟨Lj,2, "dict.setdefault"⟩ F.plainAttrs_dict Jr F.type_dict_setdefault);refine ah (aF hG 20 (t6.mk (ec (ba _) @_ (Yi ..) (v:=.lst (b.map .str)) @_ rfl ?_)));refine ah (gG rfl rfl rfl (za (knd:=YT ak w) fun dj hdj hdB=>dG (ad hG 5 (eI (m':=gp va b++[(qw,.ref dj)]) (ba _) @_ (.there .here) rfl (ZB rfl) (bX (bc rfl ?_))))));have H5:=xR hdB;refine ah (hF (k:=5) Fx (JB w d dj va b led) (u9.mono ⋯) (ad hG 20 (t6.mk (Xd fun e it=>XN (k:=5) fun hI => .mk hI (Tj b 0▸.mk (fun O y=>y [] b [] rfl ⟨rfl,rfl⟩) @_)))) ?_ ?_ fun O=>@_)
 ·intro gl p ps pre rest es e h;refine aZ (Hv e) fun r e1 e2 e3=>?_;have h:=e1▸h;have hr:=h.room;refine dv hh @_ @_ @_ (de _ rfl _ _ rfl rfl ?_);simp only[Yv,YN];refine bD hG 40 ⟨pV (knd:=YT _ _) (Yi ..),t6.mk (dq rfl fun a ha=>t6.mk (WH H5 (by rw[ZD];omega) fun J1 a' js J9 T4=>?_))⟩;have hj:=h.lenjs T4;refine⟨br (xs:=js) (.tail _ (YQ _ (.head _))),t6.mk (eH (xs:=js) (.there (.skip .here)) (by rw[ZD];omega) ?_)⟩;refine .nextE (l:=(dj,aB (YT ak w) (dx (J1++(p.1,a',js++[.int p.2])::J9)))::(eY (J1++(p.1,a',js++[.int p.2])::J9)++(d,bI (gp va b++[(qw,.ref dj)]))::led)) (by simp[dx,eY]) (.mk (fun O y=>y (pre++[p.1]) r _ (e3.trans (by rw[Yr];rfl)) (e2▸h.step T4)) @_)
 ·intro pre rest es e h;have h:=h.all e;refine T.freezes (knd:=YT ak w) es ?_;refine ah (gG rfl rfl rfl (ad hG 20 (t6.mk (GS fun jk hjk=>dG (ad hG 5 (eI (m':=gp va b++[(qw,.ref dj),(BA,.ref jk)]) (ba _) @_ (.there (.there .here)) rfl (ZB rfl) (bX (bc rfl ?_))))))));refine ah (aF hG 20 (t6.mk (ec (ba _) @_ (by repeat constructor) (v:=.none) @_ rfl ?_)));refine ah (aF hG 20 ?_);refine ah (gG rfl rfl rfl (ad hG 20 (t6.mk (GS fun pp hpp=>dG (ad hG 5 (eI (m':=EA va b dj jk pp) (ba _) @_ (.there (.there (.there .here))) rfl (ZB rfl) (bX (bc rfl ?_))))))));refine ah (aF hG 20 (t6.mk (mt .frz (by rw[Yl];omega) ?_)));rw[Yl];refine bD hG 20 (t6.mk (pn (ad hG 5 (t6.mk (ec (ba _) @_ (by repeat constructor) (v:=.bool true) @_ rfl (tU ?_))))));refine Nh (Q:=True) (bE (fun c=>?_) fun c=>?_)
  ·exact absurd c ⋯
  ·refine⟨(d,bI (EA va b dj jk pp))::(dj,aB (YT ak w) (oJ es))::(jk,dH)::led,⟨[(pp,dH)],.cons _ Nu⟩,rfl,dj,jk,pp,_,rfl,H5,SO h.es ⋯⟩
def ml(w:YH)(d:YV)(a b:List Str)(led led':aa):Prop:=∃dj jk pp mm,led'=(d,bI (gp (.lst (a.map .str)) b++[(qw,.ref dj),(BA,.ref jk),(By,.ref pp)]))::(dj,aB (YT ak w) mm)::(jk,dH)::led
   /\ (dj==d5)=false/\∀k,(bn mm k).getD (.lst [])=.lst (dU (bO b k))
theorem JK{a b:List Str}{led:aa}(hA:w0 A 30)(hb:b.length<200) :
  TC ak w A (al w) (.ref 181) [.inst 242 d,.lst (b.map .str)] [] ((d,bI [(qy,.none),(eo,.lst (a.map .str)),(dO,.none),(vp,.bool true),(vk,.none),(BE,.none)])::led) fun v led'=>v=.none/\ml w d a b led led':=by
 refine TC.weak (fU [(dO,.lst (b.map .str)),(q6,.inst 242 d)] (cL w) hA.lt (fun O O=>@_) @_ @_ (Sy _) fun L hL=>?_);have u9:=hA.deeper (k:=27) (s9:=bz (aA (jG w.params)) L 181 180);have hG:=gk w (A.deeper _) (aA (jG w.params)) L 181 180 @_ @_ u9.h;refine bD hG 60 (t6.mk (ec (ba _) @_ (Yi ..) (v:=.none) @_ rfl ?_));refine t6.mk (cH rfl rfl rfl (ad hG 5 (dG (ad hG 5 (eI (m':=[(qy,.none),(eo,.lst (a.map .str)),(dO,.lst (b.map .str)),(vp,.bool true),(vk,.none),(BE,.none)]) (ba _) @_ .here rfl (ZB rfl) (?_))))));refine t6.mk (gG rfl rfl rfl (ad hG 5 (dG (ad hG 5 (eI (m':=[(qy,.none),(eo,.lst (a.map .str)),(dO,.lst (b.map .str)),(vp,.bool true),(vk,.none),(BE,.none)]) (ba _) @_ .here rfl (ZB rfl) (dG (ad hG 5 (eI (m':=[(qy,.none),(eo,.lst (a.map .str)),(dO,.lst (b.map .str)),(vp,.bool true),(vk,.none),(BE,.none)]) (ba _) @_ .here rfl (ZB rfl) (?_)))))))));refine t6.mk (cH rfl rfl rfl (ad hG 5 (dG (ad hG 5 (eI (m':=gp (.lst (a.map .str)) b) (ba _) @_ .here rfl (ZB rfl) (?_))))));refine t6.mk (iO (name:=vj) (C:=242) (f:=188) @_ @_ @_ (ba _) @_ @_ (ad hG 5 (.mk (Yi ..) @_ (eK @_ (dc @_) (cR hG 10 (ig (Uh (u9.mono ⋯) hb) fun v led' h=>?_))))));exact gJ _ (.refl _) rfl h.2
theorem JH{a b:List Str}{led:aa}(hA:w0 A 40)(hb:b.length<200) :
  TC ak w A (al w) (.ref 167) [.inst 242 d,.lst (a.map .str),.lst (b.map .str)] [] ((d,bI [(qy,.none),(eo,.none),(dO,.none),(vp,.bool true)])::led) fun v led'=>v=.none/\ml w d a b led led':=by
 refine TC.weak (fU [(dO,.lst (b.map .str)),(eo,.lst (a.map .str)),(q6,.inst 242 d)] (cL w) hA.lt (fun O O O=>@_) @_ @_ (SA _) fun L hL=>?_);have u9:=hA.deeper (k:=37) (s9:=bz (aA (jI w.params)) L 167 166);have hG:=gk w (A.deeper _) (aA (jI w.params)) L 167 166 @_ @_ u9.h;refine bD hG 60 (t6.mk (iO (name:=kL) (C:=242) (f:=174) @_ @_ @_ (ba _) @_ @_ (ad hG 5 (.mk (Yi ..) @_ (eK @_ (dc @_) (cR hG 10 (ig (JM (u9.mono ⋯) rfl (ZB rfl)) fun v led' h=>?_)))))));refine aL h fun O1 O2=>?_;clear h;subst O1;subst O2;refine t6.mk (iO (name:=kK) (C:=242) (f:=181) @_ @_ @_ (ba _) @_ @_ (ad hG 5 (.mk (Yi ..) @_ (eK @_ (dc @_) (cR hG 10 (ig (K0:=fun v led'=>v=.none/\ml w d a b led led') (JK (u9.mono ⋯) hb) fun v led' h=>?_))))));exact gJ _ (.refl _) rfl h.2
theorem init{a b:List Str}{led:aa}(hA:w0 A 50)(hb:b.length<200) :
  TC ak w A (al w) (.ref 160) [.inst 242 d,.none,.lst (a.map .str),.lst (b.map .str)] [] ((d,bI [])::led) fun v led'=>v=.none/\ml w d a b led led':=by
 refine TC.weak (zc (binds:=[(q6,.inst 242 d),(qy,.none),(eo,.lst (a.map .str)),(dO,.lst (b.map .str)),(vp,.bool true)]) (cL w) (SB _) hA.lt (Binds.of4 fun Z v1 v2 v3 v4 h1 h2 h3 h4=>⟨_,@_,.cons h1 (.cons h2 (.cons h3 (.cons h4 (.cons (.bool true) .nil))))⟩) @_ fun L hL=>?_);have u9:=hA.deeper (k:=47) (s9:=bz (aA (jJ w.params)) L 160 159);have hG:=gk w (A.deeper _) (aA (jJ w.params)) L 160 159 @_ @_ u9.h;simp only[YO,List.reverse_nil,Yy,Yv];refine bD hG 60 (t6.mk (cH rfl rfl rfl (ad hG 5 (dG (ad hG 5 (eI (m':=[(qy,.none)]) (ba _) @_ .here rfl (ZB rfl) (?_)))))));refine t6.mk (gG rfl rfl rfl (ad hG 5 (dG (ad hG 5 (eI (m':=[(qy,.none),(eo,.none)]) (ba _) @_ .here rfl (ZB rfl) (dG (ad hG 5 (eI (m':=[(qy,.none),(eo,.none),(dO,.none)]) (ba _) @_ .here rfl (ZB rfl) (?_)))))))));refine t6.mk (cH rfl rfl rfl (ad hG 5 (dG (ad hG 5 (eI (m':=[(qy,.none),(eo,.none),(dO,.none),(vp,.bool true)]) (ba _) @_ .here rfl (ZB rfl) (?_))))));refine t6.mk (iO (name:=kM) (C:=242) (f:=167) @_ @_ @_ (ba _) @_ @_ (ad hG 5 (.mk (Yi ..) @_ (eK @_ (dc @_) (cR hG 10 (ig (JH (u9.mono ⋯) hb) fun v led' h=>?_))))));exact gJ _ (.refl _) rfl h.2
theorem Pq{a b:List Str}{led:aa}(hA:w0 A 60)(hb:b.length<200) :
  TC ak w A (al w) (.ref 242) [.none,.lst (a.map .str),.lst (b.map .str)] [] led fun v led'=>∃d,v=.inst 242 d/\ml w d a b led led' :=
 VS (k:=59) (hA.mono ⋯) @_ @_ @_ fun d A' u9 hd=>(init (u9.mono ⋯) hb).mono fun v l h=>⟨h.1,d,rfl,h.2⟩
theorem Ps{a b:List Str}{led:aa}{P:AV->aa->Prop}
  (k:∀d dj jk pp mm,(dj==d5)=false->(∀k,(bn mm k).getD (.lst [])=.lst (dU (bO b k)))->P (.inst 242 d) ((d,bI (gp (.lst (a.map .str)) b++[(qw,.ref dj),(BA,.ref jk),(By,.ref pp)]))::(dj,aB (YT ak w) mm)::(jk,dH)::led))
  (v:AV) (led':aa) (h:∃d,v=.inst 242 d/\ml w d a b led led'):P v led' :=
 ae h fun d e h=>ed h fun dj jk pp mm el H5 j_=>e▸el▸k d dj jk pp mm H5 j_
theorem DU(w:YH):D_ ak w (KB w.params) 135:=⟨@_,@_,@_,@_,@_⟩
set_option backward.match.sparseCases false in
noncomputable def CH(P:Ym):YV:=match findCls (KB P) (.ref 135) (.type "type") "__new__" with |some (.get _ (.ref p) _ _)=>p |_=>0
noncomputable def KX(P:Ym):List Value:=((recIn (KB P) (CH P) "staticmethod").getD []).tail
noncomputable def OF(w:YH):List Value:=(Zm (KB w.params) ⟨ak,w.params⟩ (mroOf (.ref 135))).getD []
theorem Pi(w:YH):V8 ak w (KB w.params) 135 82 :=
 ⟨⟨lC w.params,FV (lC w.params),@_,@_⟩,@_,@_,⟨OF w,@_,@_⟩,@_,@_,⟨CH w.params,KX w.params,@_,@_⟩,@_,@_,@_⟩
theorem Ov{x y z:Int}{led:aa}(hA:w0 A 20) :
  TC ak w A (al w) (.ref 82) [.ref 135,.int x,.int y,.int z] [] led fun v led'=>v=.mat 135 [.int x,.int y,.int z]/\led'=led:=by
 refine fU [(ji,.int z),(dO,.int y),(eo,.int x),(BJ,.ref 135)] (cL w) hA.lt (fun O O O O=>@_) @_ @_ (Sl _) fun L hL=>?_;have hG:=(gk w (A.deeper (bz (aA (iC w.params)) L 82 81)) (aA (iC w.params)) L 82 81 @_ @_ hA.h).g (EO w) @_ @_;refine bD hG 60 (t6.mk (GB (name:=kS) (T' := "tuple") (id := "tuple.__new__") @_ @_ @_ (by decide +kernel) @_ @_ @_ @_ @_ (ad hG 5 ⟨rfl,eK @_ oO (cR hG 20 (GR (DU w) (by decide:3<=Zc) (fun O=>@_) ?_))⟩)));exact⟨rfl,rfl⟩
theorem Pr{x y z:Int}{led:aa}(hA:w0 A 30) :
  TC ak w A (al w) (.ref 135) [.int x,.int y,.int z] [] led fun v led'=>v=.mat 135 [.int x,.int y,.int z]/\led'=led :=
 VN (k:=29) (xs:=[.int x,.int y,.int z]) (hA.mono ⋯) (Pi w) fun A' u9=>(Ov (u9.mono ⋯)).mono fun v l h=>⟨h.1,rfl,h.2⟩
section
variable{a b:List Str}{alo t9 blo t7:Nat}
def pv(s:ab)(ti tj tk:Int):Prop:=ti=s.1/\tj=s.2.1/\tk=s.2.2
structure N8 (a b:List Str) (alo t9 blo t7 i0:Nat) (s:(Int->Nat)×ab) (m:List (Int×AV)) (ti tj tk:Int):Prop where
 g1:alo<=i0
 g2:i0<=t9
 inv:C2 alo blo t7 i0 s
 fold:gb (aI a b) blo t7 (Zx i0 (t9-i0)) s=gb (aI a b) blo t7 (Zx alo (t9-alo)) (fun O=>0,(alo,blo,0))
 rel:K7 m s.1
 e:pv s.2 ti tj tk
theorem N8.start(h1:alo<=t9)(h3:blo<=t7):N8 a b alo t9 blo t7 alo (fun O=>0,(alo,blo,0)) [] alo blo 0:=⟨YR _,h1,C2.start h3,rfl,K7.nil,rfl,rfl,rfl⟩
structure L6 (b:List Str) (alo blo t7 i0:Nat) (s:(Int->Nat)×ab) (la:Str) (js:List Nat) (s2:(Int->Nat)×ab) (m2:List (Int×AV)) (ti tj tk:Int):Prop where
 sort:js.Pairwise (· < ·)
 lt:∀j∈js,j<b.length
 inv:C2 alo blo t7 (i0+1) s2
 fold:(within blo t7 js).foldl (dF s.1 i0) s2=eQ (bO b la) blo t7 i0 s
 rel:K7 m2 s2.1
 len:m2.length+js.length<=b.length
 e:pv s2.2 ti tj tk
structure N3 (b:List Str) (alo blo t7 i0:Nat) (s:(Int->Nat)×ab) (la:Str) (m2:List (Int×AV)) (ti tj tk:Int):Prop where
 rel:K7 m2 (eQ (bO b la) blo t7 i0 s).1
 inv:C2 alo blo t7 (i0+1) (eQ (bO b la) blo t7 i0 s)
 e:pv (eQ (bO b la) blo t7 i0 s).2 ti tj tk
theorem xK{a b:Nat}(q : ¬ (a:Int)<b):b<=a:=Nat.not_lt.mp fun h=>q (Int.ofNat_lt.mpr h)
theorem DB{a b:Nat}(q : ¬ (a:Int)<=b):b<a:=Nat.not_le.mp fun h=>q (Int.ofNat_le.mpr h)
theorem PO{x m b:Nat}(hl:x<=m+1)(hn:m+(j+1)<=b):x+j<=b:=Zg (r6 hl _) (Zg (o5 (o4 ..)) hn)
theorem Ao{m:Nat}(h:m<n):n-m=n-(m+1)+1:=(Nat.succ_pred_eq_of_pos (Nat.sub_pos_of_lt h)).symm
theorem An{D:Nat}(h:D<=i):(i:Int)-((D:Int)+1)+1=((i-D:Nat):Int):=by rw[Int.ofNat_sub h,← Int.sub_sub,Int.sub_add_cancel]
variable{i0:Nat}{s s2:(Int->Nat)×ab}{m m2:List (Int×AV)}{ti tj tk:Int}{la:Str}{js:List Nat}
theorem N8.inn(h:N8 a b alo t9 blo t7 i0 s m ti tj tk):L6 b alo blo t7 i0 s la (bO b la) (fun O=>0,s.2) [] ti tj tk :=
 ⟨ED b la,fun j hj=>QH hj,h.inv.row,rfl,K7.nil,by simpa using QI b la,h.e⟩
theorem L6.low(h:L6 b alo blo t7 i0 s la (j::js) s2 m2 ti tj tk)(q:(j:Int)<blo):L6 b alo blo t7 i0 s la js s2 m2 ti tj tk :=
 ⟨(g9.mp h.sort).2,fun j' W7=>h.lt j' (Yk _ W7),h.inv,by rw[← h.fold,HK (Int.ofNat_lt.mp q)],h.rel,Zg (p5 (Nat.le_succ _) _) h.len,h.e⟩
theorem L6.done(h:L6 b alo blo t7 i0 s la js s2 m2 ti tj tk)(q:within blo t7 js=[]):N3 b alo blo t7 i0 s la m2 ti tj tk:=by
 have f:=h.fold;rw[q] at f;have f:s2=_:=f;exact⟨f▸h.rel,f▸h.inv,f▸h.e⟩
theorem L6.out(h:L6 b alo blo t7 i0 s la (j::js) s2 m2 ti tj tk)(q:(t7:Int)<=j):N3 b alo blo t7 i0 s la m2 ti tj tk:=h.done (HJ h.sort (Int.ofNat_le.mp q))
theorem L6.room(h:L6 b alo blo t7 i0 s la (j::js) s2 m2 ti tj tk):m2.length<=b.length:=Zg (n9 _ _) h.len
theorem L6.go(h:L6 b alo blo t7 i0 s la (j::js) s2 m2 ti tj tk)(r:N8 a b alo t9 blo t7 i0 s m č Č G')(q : ¬ (j:Int)<blo)(q' : ¬ (t7:Int)<=j){ui uj uk:Int}(hu:pv (dF s.1 i0 s2 j).2 ui uj uk) :
  L6 b alo blo t7 i0 s la js (dF s.1 i0 s2 j) (eP m2 (j:Int) (.int (((s.1 ((j:Int)-1):Nat):Int)+1))) ui uj uk:=by
 have f:=h.fold;rw[HL (xK q) (DB q'),Zu] at f;exact⟨(g9.mp h.sort).2,fun j' W7=>h.lt j' (Yk _ W7),r.inv.step h.inv r.g1 (xK q) (DB q'),f,h.rel.store (j:Int) (s.1 ((j:Int)-1)+1),PO (IS ..) h.len,hu⟩
theorem L6.hit(h:L6 b alo blo t7 i0 s la (j::js) s2 m2 ti tj tk)(r:N8 a b alo t9 blo t7 i0 s m č Č G')(q : ¬ (j:Int)<blo)(q' : ¬ (t7:Int)<=j)(hk:tk<((s.1 ((j:Int)-1):Nat):Int)+1) :
  L6 b alo blo t7 i0 s la js (dF s.1 i0 s2 j) (eP m2 (j:Int) (.int (((s.1 ((j:Int)-1):Nat):Int)+1))) (i0-(((s.1 ((j:Int)-1):Nat):Int)+1)+1) (j-(((s.1 ((j:Int)-1):Nat):Int)+1)+1) (((s.1 ((j:Int)-1):Nat):Int)+1):=by
 refine aL (r.inv.len r.g1 (j:=j) (xK q)) fun e1 e2=>?_;refine h.go r q q' ?_;unfold dF;rw[if_pos (Int.ofNat_lt.mp (h.e.2.2▸hk))];exact⟨An (Zg e1 (r7 ..)),An (Zg e2 (r7 ..)),rfl⟩
theorem L6.miss(h:L6 b alo blo t7 i0 s la (j::js) s2 m2 ti tj tk)(r:N8 a b alo t9 blo t7 i0 s m č Č G')(q : ¬ (j:Int)<blo)(q' : ¬ (t7:Int)<=j)(hk : ¬ tk<((s.1 ((j:Int)-1):Nat):Int)+1) :
  L6 b alo blo t7 i0 s la js (dF s.1 i0 s2 j) (eP m2 (j:Int) (.int (((s.1 ((j:Int)-1):Nat):Int)+1))) ti tj tk:=by
 refine h.go r q q' ?_;unfold dF;rw[if_neg fun c=>hk (h.e.2.2▸Int.ofNat_lt.mpr c)];exact h.e
theorem N8.next(r:N8 a b alo t9 blo t7 i0 s m č Č G')(hi:i0<t9)(À:a[i0]?=some la)(h:N3 b alo blo t7 i0 s la m2 ti tj tk):N8 a b alo t9 blo t7 (i0+1) (eQ (bO b la) blo t7 i0 s) m2 ti tj tk:=by
 refine⟨r9 r.g1,hi,h.inv,?_,h.rel,h.e⟩;rw[← r.fold,Ao hi,List.range'_succ];show _=gb _ _ _ _ (eQ (aI a b i0) blo t7 i0 s);rw[show aI a b i0=bO b la by unfold aI;rw[À];rfl]
structure A4 (b:List Str) (z:Int) (y:Str):Prop where
 at':(b.map AV.str)[z.toNat]?=some (.str y)
 raw:b[z.toNat]?=some y
 pos:0<=z
 lt:z<b.length
theorem Qq{b:List Str}{z:Int}(h0:0<=z)(h1:z<b.length):∃y,A4 b z y:=by
 have hl:z.toNat<b.length:=(Int.toNat_lt h0).mpr h1;exact⟨b[z.toNat],by rw[Ze,YL hl];rfl,YL hl,h0,h1⟩
structure Lf (e:Nat->Nat->Bool) (alo t9 blo t7:Nat) (t:ab) (ti tj tk:Int) (n:Nat):Prop where
 run:∃i j k:Nat,ti=i/\tj=j/\tk=k/\n=i/\alo<=i/\blo<=j/\i+k<=t9/\j+k<=t7/\bF e alo blo i j k=t
structure Lx (alo t9 blo t7:Nat) (t:ab) (ti tj tk:Int):Prop where
 e:pv t ti tj tk
 h1:alo<=t.1
 h2:blo<=t.2.1
 h3:t.1+t.2.2<=t9
 h4:t.2.1+t.2.2<=t7
variable{t:ab}
theorem N8.lf(r:N8 a b alo t9 blo t7 t9 s m ti tj tk):Lf (am a b) alo t9 blo t7 (bF (am a b) alo blo s.2.1 s.2.2.1 s.2.2.2) ti tj tk s.2.1 :=
 ⟨_,_,_,r.e.1,r.e.2.1,r.e.2.2,rfl,r.inv.b1,r.inv.b3,r.inv.b2,r.inv.b4,rfl⟩
theorem oP{b:List Str}(h:j<b.length):∃y,A4 b (j:Int) y :=
 ⟨b[j],by rw[Zb,Ze,YL h];rfl,YL h,p7 j,Int.ofNat_lt.mpr h⟩
theorem jw(j:Nat):((j+1:Nat):Int)-1=j:=Int.add_sub_cancel j 1
theorem A4.nat(h:A4 b (j:Int) y):b[j]?=some y:=h.raw
theorem oI{m l:Nat}(h:j+1+k<=m)(hl:m<=l):j<l:=o6 (o6 (g4 j) (Zg (n9 _ k) h)) hl
theorem oF{m:Nat}(q:(m:Int)<((0:Nat):Int)):P:=absurd (Int.ofNat_lt.mp q) (Nat.not_lt_zero m)
theorem Lf.item(h:Lf e alo t9 blo t7 t ti tj tk n)(hb:t7<=b.length)(q:(blo:Int)<tj):∃y,A4 b (tj-1) y:=by
 refine tY h.run fun i j k e1 e2 e3 O7 O8 O9 O10 h4 O12=>?_;clear O12;subst e2;cases j with
 |zero=>exact oF q
 |succ j=>rw[jw];exact oP (oI h4 hb)
theorem Lf.itemA(h:Lf e alo t9 blo t7 t ti tj tk n)(ha:t9<=a.length)(q:(alo:Int)<ti):∃y,A4 a (ti-1) y:=by
 refine tY h.run fun i j k e1 e2 e3 O7 O8 O9 h3 O11 O12=>?_;clear O12;subst e1;cases i with
 |zero=>exact oF q
 |succ i=>rw[jw];exact oP (oI h3 ha)
theorem Lf.go(h:Lf (am a b) alo t9 blo t7 t ti tj tk n)(q1:(alo:Int)<ti)(q2:(blo:Int)<tj)(ix:A4 a (ti-1) x)(iy:A4 b (tj-1) y)(hc:(x==y)=true) :
  (ti-1).toNat<n/\Lf (am a b) alo t9 blo t7 t (ti-1) (tj-1) (tk+1) (ti-1).toNat:=by
 refine tY h.run fun i j k e1 e2 e3 e4 h1 h2 h3 h4 hr=>?_;subst e1;subst e2;subst e3;subst e4;cases n with
 |zero=>exact oF q1
 |succ i =>
  cases j with
  |zero=>exact oF q2
  |succ j =>
   rw[jw] at ix iy;rw[jw,jw];have c1:=Int.ofNat_lt.mp q1;have c2:=Int.ofNat_lt.mp q2;exact⟨g4 i,i,j,k+1,rfl,rfl,rfl,rfl,Nat.le_of_lt_succ c1,Nat.le_of_lt_succ c2,by rw[← p6,Nat.add_right_comm];exact h3,by rw[← p6,Nat.add_right_comm];exact h4,
    by rw[← hr,Td c1 c2 ((tA ix.nat iy.nat).trans hc)]⟩
theorem Lf.stop(h:Lf (am a b) alo t9 blo t7 t ti tj tk n)(q : ¬ ((alo:Int)<ti/\(blo:Int)<tj/\∀x y,A4 a (ti-1) x->A4 b (tj-1) y->(x==y)=true))(ha:t9<=a.length)(hb:t7<=b.length) :
  Lx alo t9 blo t7 t ti tj tk:=by
 refine tY h.run fun i j k e1 e2 e3 e4 h1 h2 h3 h4 hr=>?_;subst e1;subst e2;subst e3;subst e4;have f:bF (am a b) alo blo n j k=(n,j,k):=by
  by_cases c1:alo<n
  ·by_cases c2:blo<j
   ·cases n with
    |zero=>exact absurd c1 (Nat.not_lt_zero _)
    |succ i =>
     cases j with
     |zero=>exact absurd c2 (Nat.not_lt_zero _)
     |succ j =>
      have ia:=oI h3 ha;have jb:=oI h4 hb;refine SZ ?_;rw[tA (YL ia) (YL jb)];refine Bool.eq_false_iff.mpr fun hc=>q ⟨Int.ofNat_lt.mpr c1,Int.ofNat_lt.mpr c2,fun x y ix iy=>?_⟩;rw[jw] at ix iy;have hx:=ix.nat;have hy:=iy.nat;rw[YL ia] at hx;rw[YL jb] at hy;cases hx;cases hy;exact hc
   ·exact Ta c2
  ·exact Tb c1
 rw[f] at hr;subst hr;exact⟨⟨rfl,rfl,rfl⟩,h1,h2,h3,h4⟩
structure Rt (e:Nat->Nat->Bool) (t9 t7:Nat) (t:ab) (tk:Int) (n:Nat):Prop where
 run:∃k:Nat,tk=k/\n=t9-(t.1+k)/\t.1+k<=t9/\t.2.1+k<=t7/\cN e t9 t7 t.1 t.2.1 (t9-(t.1+k)) k=cN e t9 t7 t.1 t.2.1 (t9-(t.1+t.2.2)) t.2.2
structure Rx (e:Nat->Nat->Bool) (t9 t7:Nat) (t:ab) (tk:Int):Prop where
 e:tk=(cN e t9 t7 t.1 t.2.1 (t9-(t.1+t.2.2)) t.2.2:Nat)
 h3:t.1+tk<=t9
 h4:t.2.1+tk<=t7
 h5:0<=tk
theorem Lx.rt(h:Lx alo t9 blo t7 t ti tj tk):Rt e t9 t7 t tk (t9-(t.1+t.2.2)):=⟨t.2.2,h.e.2.2,rfl,h.h3,h.h4,rfl⟩
theorem Rt.item(h:Rt e t9 t7 t tk n)(l:Lx alo t9 blo t7 t ti tj G')(hb:t7<=b.length)(q:tj+tk<t7):∃y,A4 b (tj+tk) y:=by
 refine ae h.run fun k e1 O3=>?_;clear O3;rw[l.e.2.1,e1] at q ⊢;exact oP (o6 (Int.ofNat_lt.mp q) hb)
theorem Rt.itemA(h:Rt e t9 t7 t tk n)(l:Lx alo t9 blo t7 t ti tj G')(ha:t9<=a.length)(q:ti+tk<t9):∃y,A4 a (ti+tk) y:=by
 refine ae h.run fun k e1 O3=>?_;clear O3;rw[l.e.1,e1] at q ⊢;exact oP (o6 (Int.ofNat_lt.mp q) ha)
theorem Rt.go(h:Rt (am a b) t9 t7 t tk n)(l:Lx alo t9 blo t7 t ti tj G')(q1:ti+tk<t9)(q2:tj+tk<t7)(ix:A4 a (ti+tk) x)(iy:A4 b (tj+tk) y)(hc:(x==y)=true) :
  n-1<n/\Rt (am a b) t9 t7 t (tk+1) (n-1):=by
 refine zx h.run fun k e1 e2 h1 h2 hr=>?_;rw[l.e.1,e1] at q1 ix;rw[l.e.2.1,e1] at q2 iy;subst e1;subst e2;have c1:t.1+k<t9:=Int.ofNat_lt.mp q1;have c2:t.2.1+k<t7:=Int.ofNat_lt.mp q2;have e:=Ao c1;rw[e] at hr ⊢;exact⟨g4 _,k+1,rfl,rfl,c1,c2,by rw[← hr,SW c1 c2 ((tA (A4.nat (b:=a) ix) (A4.nat iy)).trans hc)];rfl⟩
theorem Rt.stop(h:Rt (am a b) t9 t7 t tk n)(l:Lx alo t9 blo t7 t ti tj G')(q : ¬ (ti+tk<t9/\tj+tk<t7/\∀x y,A4 a (ti+tk) x->A4 b (tj+tk) y->(x==y)=true)) :
  Rx (am a b) t9 t7 t tk:=by
 refine zx h.run fun k e1 e2 h1 h2 hr=>?_;rw[l.e.1,l.e.2.1,e1] at q;have f:cN (am a b) t9 t7 t.1 t.2.1 (t9-(t.1+k)) k=k :=
  Fo fun⟨c1,c2,c3⟩=>q ⟨Int.ofNat_lt.mpr c1,Int.ofNat_lt.mpr c2,fun x y ix iy=>(tA (A4.nat (b:=a) ix) (A4.nat iy)).symm.trans c3⟩
 rw[f] at hr;subst e1;exact⟨by rw[hr],Int.ofNat_le.mpr h1,Int.ofNat_le.mpr h2,p7 k⟩
theorem N8.last(r:N8 a b alo t9 blo t7 t9 s m ti tj tk):bq (am a b) (aI a b) alo t9 blo t7=((bF (am a b) alo blo s.2.1 s.2.2.1 s.2.2.2).1,(bF (am a b) alo blo s.2.1 s.2.2.1 s.2.2.2).2.1,
  cN (am a b) t9 t7 (bF (am a b) alo blo s.2.1 s.2.2.1 s.2.2.2).1 (bF (am a b) alo blo s.2.1 s.2.2.1 s.2.2.2).2.1 (t9-((bF (am a b) alo blo s.2.1 s.2.2.1 s.2.2.2).1+(bF (am a b) alo blo s.2.1 s.2.2.1 s.2.2.2).2.2)) (bF (am a b) alo blo s.2.1 s.2.2.1 s.2.2.2).2.2):=by
 have f:=r.fold;rw[Nat.sub_self] at f;have f:s=_:=f;unfold bq;rw[← f]
theorem Lx.item(l:Lx alo t9 blo t7 t ti tj tk)(hb:t7<=b.length)(q:(blo:Int)<tj):∃y,A4 b (tj-1) y:=by
 rw[l.e.2.1] at q ⊢;have h4:=l.h4;revert h4 q;cases t.2.1 with
 |zero=>exact fun q O=>oF q
 |succ j=>rw[jw];exact fun O h4=>oP (oI h4 hb)
theorem Rx.item(x:Rx e t9 t7 t tk)(l:Lx alo t9 blo t7 t ti tj G')(hb:t7<=b.length)(q:tj+tk<t7):∃y,A4 b (tj+tk) y :=
 Qq (Int.add_nonneg (l.e.2.1▸p7 _) x.h5) (Int.lt_of_lt_of_le q (Int.ofNat_le.mpr hb))
theorem N8.res(r:N8 a b alo t9 blo t7 t9 s m č Č G')(l:Lx alo t9 blo t7 (bF (am a b) alo blo s.2.1 s.2.2.1 s.2.2.2) ti tj tk'')(x:Rx (am a b) t9 t7 (bF (am a b) alo blo s.2.1 s.2.2.1 s.2.2.2) tk)(c:YV) :
  AV.mat c [.int ti,.int tj,.int tk]=.mat c [.int (bq (am a b) (aI a b) alo t9 blo t7).1,.int (bq (am a b) (aI a b) alo t9 blo t7).2.1,.int (bq (am a b) (aI a b) alo t9 blo t7).2.2]:=by
 rw[r.last,l.e.1,l.e.2.1,x.e]
end
noncomputable abbrev jR(a b:List Str)(dj jk pp:YV)(vm vo:AV:=.any):List (Str×AV) :=
 [(qy,.none),(eo,.lst (a.map .str)),(dO,.lst (b.map .str)),(vp,.bool true),(vk,vm),(BE,vo),(BD,.none),(qw,.ref dj),(BA,.ref jk),(By,.ref pp)]
noncomputable abbrev eW(d dj jk d0:YV)(a b:List Str)(alo t9 blo t7:Nat)(vi vg vn:AV)(ti tj tk:Int):List (Str×AV) :=
 [(vc,.int t7),(vd,.int blo),(vf,.int t9),(vh,.int alo),(q6,.inst 242 d),(mN,vi),(Bo,vg),(Bn,vn),(qr,.any),(q1,.any),(eo,.lst (a.map .str)),(dO,.lst (b.map .str)),(qw,.ref dj),
  (Bu,.bm "set.__contains__" (.ref jk)),(Br,.int tk),(Bs,.int tj),(Bt,.int ti),(Bq,.ref d0),(Bp,.lst [])]
noncomputable abbrev Ez(i:Nat):AV:=.int (i:Int)
section
variable(w:YH)(d dj jk:YV)(a b:List Str)(alo t9 blo t7:Nat)(B4:aa)
def JI(is:List Nat)(P:St->Prop):Prop:=∀i0 s m d0 ti tj tk,is=Zx i0 (t9-i0)->N8 a b alo t9 blo t7 i0 s m ti tj tk->(d0==d5)=false ->
 P ⟨eW d dj jk d0 a b alo t9 blo t7 .any .any .any ti tj tk,(d0,aB (k6 ak w) m)::B4⟩
variable(i0:Nat)(s:(Int->Nat)×ab)(m:List (Int×AV))(la:Str)(d0 d1:YV)(C7:aa)
def JJ(js:List Nat)(P:St->Prop):Prop:=∀s2 m2 ti tj tk,L6 b alo blo t7 i0 s la js s2 m2 ti tj tk ->
 P ⟨eW d dj jk d0 a b alo t9 blo t7 (.int i0) (.bm "dict.get" (.ref d0)) (.ref d1) ti tj tk,(d1,aB (k6 ak w) m2)::(d0,aB (k6 ak w) m)::C7⟩
end
theorem KG(h:i<=n)(e:[]=Zx i (n-i)):i=n:=Nat.le_antisymm h (Nat.le_of_sub_eq_zero (List.range'_eq_nil_iff.mp e.symm))
theorem uX{is:List Nat}(e:j::is=Zx i (n-i)):i=j/\j<n/\is=Zx (j+1) (n-(j+1)) :=
 have h:=List.range'_eq_cons_iff.mp e.symm
 ⟨h.1,h.1▸Nat.lt_of_sub_pos h.2.1,h.2.2.trans (congrArg (Zx (j+1)) (h.1▸(Nat.sub_sub ..)))⟩
theorem UH(alo t9:Nat):cI (alo:Int) (t9:Int)=dU (Zx alo (t9-alo)):=mL alo t9
theorem iQ{b:List Str}{z:Int}(i:A4 b z y)(hb:b.length<10^6)(h:K (.str y) st):F2 vv w A B s9 Val getItem (.lst (b.map .str)) (.int z) st K :=
 bG .frz i.pos (by have:=i.lt;omega) i.at' h
theorem SI{dj jk pp:YV}{vm vo:AV}{a b:List Str}{mm:List (Str×AV)}{led:aa}{t9:Nat}(hA:w0 A 60)(ha:a.length<10^6)(hb:b.length<10^6)
  (h1:alo<=t9) (h2:t9<=a.length) (h3:blo<=t7) (h4:t7<=b.length) (H5:(dj==d5)=false) (j_:∀k,(bn mm k).getD (.lst [])=.lst (dU (bO b k))) :
  TC ak w A (al w) (.ref 196) [.inst 242 d,.int alo,.int t9,.int blo,.int t7] [] ((d,bI (jR a b dj jk pp vm vo))::(dj,aB (YT ak w) mm)::(jk,dH)::led) fun v led' =>
   v=.mat 135 [.int (bq (am a b) (aI a b) alo t9 blo t7).1,.int (bq (am a b) (aI a b) alo t9 blo t7).2.1,.int (bq (am a b) (aI a b) alo t9 blo t7).2.2] /\
   led'=((d,bI (jR a b dj jk pp vm vo))::(dj,aB (YT ak w) mm)::(jk,dH)::led):=by
 refine TC.weak (fU [(vc,.int t7),(vd,.int blo),(vf,.int t9),(vh,.int alo),(q6,.inst 242 d),(mN,.any),(Bo,.any),(Bn,.any),(qr,.any),(q1,.any),(eo,.any),(dO,.any),(qw,.any),(Bu,.any),(Br,.any),(Bs,.any),(Bt,.any),(Bq,.any),(Bp,.any)] (cL w) hA.lt (fun O O O O O=>@_) @_ @_ (Sw _) fun L hL=>?_);have u9:=hA.deeper (k:=57) (s9:=bz (aA (iD w.params)) L 196 195);have hh:=u9.h;have hG:=(((((gk w (A.deeper _) (aA (iD w.params)) L 196 195 @_ @_ hh).g (ET w) @_ @_).g (oS w) @_ @_)).f (f:=135) (dc @_)).m ⟨La,2, "dict.get"⟩ F.plainAttrs_dict Jt F.type_dict_get;generalize U_:((d,bI (jR a b dj jk pp vm vo))::(dj,aB (YT ak w) mm)::(jk,dH)::led)=B4;have Ĕ:(d,bI (jR a b dj jk pp vm vo))∈B4:=U_▸Yi ..;have hmj:(dj,aB (YT ak w) mm)∈B4:=U_▸Yk _ (Yi ..);have I_:(jk,dH)∈B4:=U_▸Yk _ (Yk _ (Yi ..));clear U_;generalize bz (aA (iD w.params)) L 196 195=s9 at hG u9 hh ⊢;generalize A.deeper s9=A1 at hG u9 hh ⊢;refine bD hG 100 ?_;refine t6.mk (ec (ba _) @_ Ĕ (v:=.lst (a.map .str)) @_ rfl ?_);refine t6.mk (ec (ba _) @_ Ĕ (v:=.lst (b.map .str)) @_ rfl ?_);refine t6.mk (ec (ba _) @_ Ĕ (v:=.ref dj) @_ rfl ?_);refine t6.mk (ec (ba _) @_ Ĕ (v:=.ref jk) @_ rfl ?_);refine t6.mk (XR I_ ?_);refine t6.mk (za (knd:=k6 ak w) fun d0 hd0 hB0=>?_);refine t6.mk (dq rfl fun nn U7=>?_);refine t6.mk (T.freeze (a:=nn) (xs:=[]) (w6:=eW d dj jk d0 a b alo t9 blo t7 .any .any .any alo blo 0) (by repeat constructor) ?_);refine jY (k:=5) Ez (JI w d dj jk a b alo t9 blo t7 B4) (u9.mono ⋯) (ad hG 60 (t6.mk (GT (tV (k:=5) ⋯ ⋯ ⋯ ⋯ fun it gl hI => .mk hI (UH alo t9▸.mk (fun O y=>y _ _ _ d0 _ _ _ rfl (N8.start h1 h3) (xR hB0)) @_))))) ?_ ?_ fun O=>@_
 ·intro gl i0 is j0 s m d0 ti tj tk e r hd;have hi:=(uX e).2.1;have r:=(uX e).1▸r;have e:=(uX e).2.2;refine aq (⟨_,YL (o6 hi h2)⟩:∃la,a[i0]?=some la) fun la À=>⟨rfl,bD hG 60 ?_⟩;refine t6.mk (XQ (knd:=k6 ak w) (Yi ..) ?_);refine t6.mk (za (knd:=k6 ak w) fun d1 hd1 ā=>?_);refine t6.mk (T.joinW (fun P=>∀m2 ti tj tk,N3 b alo blo t7 i0 s la m2 ti tj tk->P ⟨eW d dj jk d0 a b alo t9 blo t7 (.int i0) (.bm "dict.get" (.ref d0)) (.ref d1) ti tj tk,(d1,aB (k6 ak w) m2)::(d0,aB (k6 ak w) m)::(B4++gl)⟩) ?_ fun m2 ti tj tk h=>⟨(d1,aB (k6 ak w) m2)::(B4++gl),⟨[(d0,aB (k6 ak w) m)],c0 _ _ _⟩,.next (l:=(d1,aB (k6 ak w) m2)::B4) (.mk (fun O y=>y _ _ _ d1 _ _ _ e (r.next hi À h) (xR ā)) @_)⟩);refine jY (k:=5) Ez (JJ w d dj jk a b alo t9 blo t7 i0 s m la d0 d1 (B4++gl)) (u9.mono ⋯) ?_ ?_ (fun O O O O O h => .mk (fun O y=>y _ _ _ _ (h.done rfl)) @_) fun O=>@_
  ·refine ad hG 60 ⟨pV (knd:=YT _ _) (Yk _ (Yk _ (Zq _ hmj))),?_⟩;refine t6.mk (bG .frz ⋯ ⋯ (x:=.str la) (by simp[À]) ?_);exact t6.mk (WS H5 (sZ la) (Yk _ (Yk _ (Zq _ hmj))) (j_ la) (eJ (k:=5) fun it gl' hI => .mk hI (.mk (fun O y=>y _ _ _ _ _ r.inn) @_)))
  ·intro gl' j js s2 m2 ti tj tk h;refine⟨rfl,bD hG 60 (bE (fun Ğ => .cont (l:=(d1,_)::(d0,aB (k6 ak w) m)::(B4++gl)) (.mk (fun O y=>y _ _ _ _ _ (h.low Ğ)) @_)) fun Ğ=>bE (fun ĝ => .brk (l:=(d1,_)::(d0,aB (k6 ak w) m)::(B4++gl)) (.mk (fun O y=>y _ _ _ _ (h.out ĝ)) @_)) fun ĝ=>?_)⟩;refine t6.mk (gG rfl rfl rfl (ad hG 60 (t6.mk (Xg (knd:=k6 ak w) (m:=m) hd (Eo _) (Yk _ (Yi ..)) (r.rel _) (bX (bc rfl (tW (ad hG 20 (ad hG 20 ?_)))))))));exact Xi (knd:=k6 ak w) (m:=m2) (k:=(j:Int)) .here (Eo _) (Zg h.room (by rw[ZD];omega)) (bE (fun hc3 => .next (l:=(d1,_)::(d0,aB (k6 ak w) m)::(B4++gl)) (.mk (fun O y=>y _ _ _ _ _ (h.hit r Ğ ĝ hc3)) @_)) fun hc3 => .next (l:=(d1,_)::(d0,aB (k6 ak w) m)::(B4++gl)) (.mk (fun O y=>y _ _ _ _ _ (h.miss r Ğ ĝ hc3)) @_))
 ·intro i0 s m d0 ti tj tk e r _;have r:=KG r.g2 e▸r;refine t6.mk (T.drop (T.join (KL (eW d dj jk d0 a b alo t9 blo t7 .any .any .any) B4 (Lx alo t9 blo t7 (bF (am a b) alo blo s.2.1 s.2.2.1 s.2.2.2))) ?_ fun ti tj G' l=>?_))
  ·refine jW (JL (eW d dj jk d0 a b alo t9 blo t7 .any .any .any) B4 (Lf (am a b) alo t9 blo t7 _)) (fun n ti tj tk h=>?_) (JL.mk r.lf);refine bH hG 60 (bE (fun q1=>bE (fun q2=>?_) fun q2=>KL.mk (h.stop (fun c=>q2 c.2.1) h2 h4)) fun q1=>KL.mk (h.stop (fun c=>q1 c.1) h2 h4));refine(h.item h4 q2).elim fun y iy=>(h.itemA h2 q1).elim fun x ix=>?_;refine t6.mk (iQ iy hb (t6.mk (tR I_ (t6.mk (iQ ix ha (t6.mk (iQ iy hb ?_)))))));refine cU (fun hc=>bD hG 60 ⟨_,(h.go q1 q2 ix iy hc).1,JL.mk (h.go q1 q2 ix iy hc).2⟩) fun hc=>KL.mk (h.stop (fun c=>?_) h2 h4);exact Zd (hc.symm.trans (c.2.2 x y ix iy))
  ·refine t6.mk (T.join (KL (fun O O tk=>eW d dj jk d0 a b alo t9 blo t7 .any .any .any ti tj tk) B4 fun O O tk=>Rx (am a b) t9 t7 (bF (am a b) alo blo s.2.1 s.2.2.1 s.2.2.2) tk) ?_ fun O O tk x=>?_)
   ·refine jW (JL (fun O O tk=>eW d dj jk d0 a b alo t9 blo t7 .any .any .any ti tj tk) B4 (fun O O tk=>Rt (am a b) t9 t7 _ tk)) (fun n O O tk h=>?_) (JL.mk (ti:=0) (tj:=0) l.rt);refine bH hG 60 (bE (fun q1=>bE (fun q2=>?_) fun q2=>Nx.mk (fun O y=>y 0 0 _ (h.stop l fun c=>q2 c.2.1)) @_) fun q1=>Nx.mk (fun O y=>y 0 0 _ (h.stop l fun c=>q1 c.1)) @_);refine(h.item l h4 q2).elim fun y iy=>(h.itemA l h2 q1).elim fun x ix=>?_;refine t6.mk (iQ iy hb (t6.mk (tR I_ (t6.mk (iQ ix ha (t6.mk (iQ iy hb ?_)))))));refine cU (fun hc=>bD hG 60 ⟨_,(h.go l q1 q2 ix iy hc).1,JL.mk (ti:=0) (tj:=0) (h.go l q1 q2 ix iy hc).2⟩) fun hc=>Nx.mk (fun O q=>q 0 0 _ (h.stop l fun c=>?_)) @_;exact Zd (hc.symm.trans (c.2.2 x y ix iy))
   ·refine t6.mk (T.join (fun P=>P ⟨eW d dj jk d0 a b alo t9 blo t7 .any .any .any ti tj tk,B4⟩) ?_ ?_)
    ·refine jW (fun O P=>P ⟨eW d dj jk d0 a b alo t9 blo t7 .any .any .any ti tj tk,B4⟩) (fun O=>?_) (n:=0) ⟨_,B2.self _,fun O y=>y⟩;refine bH hG 60 (bE (fun q1=>bE (fun q2=>?_) fun q2=>Nx.id) fun q1=>Nx.id);exact(l.item h4 q2).elim fun y iy=>t6.mk (iQ iy hb (t6.mk (tR I_ Nx.id)))
    ·refine t6.mk (T.join (fun P=>P ⟨eW d dj jk d0 a b alo t9 blo t7 .any .any .any ti tj tk,B4⟩) ?_ ?_)
     ·refine jW (fun O P=>P ⟨eW d dj jk d0 a b alo t9 blo t7 .any .any .any ti tj tk,B4⟩) (fun O=>?_) (n:=0) ⟨_,B2.self _,fun O y=>y⟩;refine bH hG 60 (bE (fun q1=>bE (fun q2=>?_) fun q2=>Nx.id) fun q1=>Nx.id);exact(x.item l h4 q2).elim fun y iy=>t6.mk (iQ iy hb (t6.mk (tR I_ Nx.id)))
     ·refine t6.mk (ig (Pr (u9.mono ⋯)) fun v led' h=>?_);exact gJ _ (.refl _) (h.1.trans (r.res l x 135)) h.2
section
variable{N:aa}
def lI(f:AV)(it:YV)(Z:u6)(o:Obj):Prop:=∃tt fx,o={ cls:=.type "map",data:=.fields #[.ref tt,fx]}/\Z tt=some {cls:=.type "tuple",data:=.seq #[.ref it]}/\Val Z f fx
theorem sT{f:AV}(Z Z':u6)(o:Obj)(k:u6.le Z Z')(x:lI f it Z o):lI f it Z' o:=x.imp fun O h=>h.imp fun O h=>⟨h.1,k _ _ h.2.1,h.2.2.mono k⟩
noncomputable abbrev gR(m it:YV)(f:AV)(xs:List AV)(i:Nat)(T6:aa):aa:=(m,.obj (lI f it) sT)::(it,.obj (gY xs i) jV)::T6
theorem Po{f:AV}{m:YV}{T6 led:aa}(S:t8 B s Z (gR m it f xs i T6++led)):s.TypeIs (.ref m) "map" :=
 ae (S.own _ (Yi ..)) fun om ρ h=>h.elim fun O h=>h.elim fun O h=>bQ om ρ (h.1▸rfl)
theorem vH{a b:YV×y1}{l r:aa}:(a::b::(l++r)).Perm (l++a::b::r) :=
 (j6 a (ZX (l₁:=l) (l₂:=r) (a:=b)).symm).trans (ZX (l₁:=l) (l₂:=b::r) (a:=a)).symm
theorem u8.map{f:AV}{m:YV}{T6:aa}(y4:ys.length=xs.length)
  (hf:∀(i:Nat) x y,xs[i]?=some x->ys[i]?=some y->∀A',w0 A' k->∀led,D4 N led->TC vv w A' B f [x] [] (T6++led) fun v led'=>v=y/\led'=T6++led) :
  ∀(d i:Nat),i+d=xs.length->u8 vv w B N (k+1) mC m (ys.drop i) (gR m it f xs i T6):=by
 intro d;induction d with
 |zero =>
  intro i hi;have hi:i=ys.length:=((Nat.add_zero i).symm.trans hi).trans y4.symm;subst hi;rw[List.drop_length];intro A hA led hN s Z S Q E hQ;refine ae (S.own _ (Yi ..)) fun om ρ h_=>bw h_ fun tt fx e_ Đ T0=>?_;subst e_;refine ae (S.own _ (Yk _ (Yi ..))) fun oi g_ h_=>ki h_ fun l items n hc hd hz hv=>?_;refine Pn hA.h ρ (S.frozen _ _ Đ) ⟨oi,g_,hc,hd⟩ ⟨_,S.frozen _ _ hz,rfl,n,rfl⟩ ((List.getElem?_toArray ..).trans (a7 (y4▸o5 hv.length))) fun h' hx=>?_;have P:=t8.stepE (gl:=gR m it f xs ys.length T6) (s':={ s with heap:=h' }) S (fun b o hb q=>hx b o (fun y=>hb (y▸Yk _ (Yi ..))) q) rfl rfl;exact hQ _ Z P.1 P.2
 |succ d ih =>
  intro i hi;have C5:i<xs.length:=hi▸s6 (Nat.succ_pos d);have é:i<ys.length:=y4▸C5;rw[ZT é];intro A hA led hN s Z S Q E hQ;refine ae (S.own _ (Yi ..)) fun om ρ h_=>bw h_ fun tt fx e_ Đ T0=>?_;subst e_;refine ae (S.own _ (Yk _ (Yi ..))) fun oi g_ h_=>ki h_ fun l items n hc hd hz hv=>?_;have hmi:m≠it:=fun q=>(YC.mp S.nodup).1 (q▸Yi ..);refine ae (hv.get (YL C5)) fun u hu hV=>Pm ρ (S.frozen _ _ Đ) ⟨oi,g_,hc,hd⟩ ⟨_,S.frozen _ _ hz,rfl,n,rfl⟩ (x:=u) ((List.getElem?_toArray ..).trans hu) hmi fun h' H7 Q9=>aZ H7 fun oi' ς J' r_=>?_;have P:=S.upd (led':=gR m it f xs (i+1) T6++led) (.there .here) (h':=h') (tk:=s.toks) (fun b ob hb e=>(Q9.2 b hb).trans e) rfl rfl ⟨oi',ς,l,items,n,J',r_,hz,hv⟩;refine f9 (hf i _ _ (YL C5) (YL é) A.in1 hA.in1 ((m,.obj (lI f it) sT)::(it,.obj (gY xs (i+1)) jV)::led) (fun p hp=>Yk _ (Yk _ (hN p hp))) _ Z fx [u] [] (P.1.perm (vH (l:=T6) (r:=led))) T0 (.cons hV .nil) .nil _
   fun v y s' Z' led' kk S' V X'=>?_)
  have k1:=kk.1;have k2:=kk.2;subst k1;subst k2;exact Yj (hQ s' Z' y (gR m it f xs (i+1) T6) (S'.perm (vH (l:=T6) (r:=led)).symm) V (P.2.trans ((er (vH (a:=(m,y1.obj (lI f it) sT)) (b:=(it,y1.obj (gY xs (i+1)) jV)) (l:=T6) (r:=led)))▸X'))
   (ih (i+1) ((o4 i d).trans hi)))
theorem Pj{m:YV}{f:AV}{T6 led:aa}(S:t8 B s Z (gR m it f xs i T6++led))(h:Q (.ref m) s):YJ (YG vv w) A (pyIter (.ref m)) Q E s:=by
 refine ae (S.own _ (Yi ..)) fun om ρ h_=>bw h_ fun tt fx e_ Đ T0=>?_;subst e_;have hT:s.TypeIs (.ref m) "map" := ⟨_,ρ,rfl⟩;refine wpAny_pyIter_slot hT AG (Zf AG hT Tq ?_ (UO _));show YJ _ _ (ret (.ref m)) _ _ s;exact Yj ⟨_,rfl, "map",_,hT,mF.lookup,h⟩
theorem WO{f:AV}{led:aa}(h:∀m it,R (.ref m) ⟨loc,gR m it f xs 0 []++led⟩):FC vv w A B s9 (.typ "map") [f,.lst xs] [] ⟨loc,led⟩ R:=FC.t fun s Z S Q E hQ=>Vals.un <| fun fv h0=>Vals.un <| fun O h1=>Vals.un0 <| by
 refine bv (iH h1) fun a items n qv e hv=>?_;subst qv;have hl:s.heap.IsList a items.toArray:=⟨_,S.frozen _ _ e,rfl,n,rfl⟩;refine callType_new Uo (by decide) (Ik _ _) (Oz _ _) (fun obj=>F.args_object_init_3 obj _ _) Tp
  (Meets.of_wp (S:=fun O R s=>s.heap.IsList a items.toArray/\R (.ok (.ret (.ref (s.heap.objs.size+2)))) {s with heap:=((s.heap.push {cls:=.type "list_iterator",data:=.fields #[.ref a,.int 0 0]}).push {cls:=.type "tuple",data:=.seq #[.ref s.heap.objs.size]}).push {cls:=.type "map",data:=.fields #[.ref (s.heap.objs.size+1),fv]} })
   fun vv w A R s hs=>Km hs.1 ⟨_,rfl,hs.2⟩) ⟨hl,?_⟩
 have P1:=S.tot8.push (o:={ cls:=.type "list_iterator",data:=.fields #[.ref a,.int 0 0]}) (ao:=.obj (gY xs 0) jV) rfl s.toks ⟨_,Ys _ rfl,a,items,n,rfl,rfl,e,hv⟩;have P2:=P1.1.pushZ (o:={ cls:=.type "tuple",data:=.seq #[.ref s.heap.objs.size]}) rfl s.toks;have e1:(s.heap.push {cls:=.type "list_iterator",data:=.fields #[.ref a,.int 0 0]}).objs.size=s.heap.objs.size+1:=l7 ..;have e2:((s.heap.push {cls:=.type "list_iterator",data:=.fields #[.ref a,.int 0 0]}).push {cls:=.type "tuple",data:=.seq #[.ref s.heap.objs.size]}).objs.size=s.heap.objs.size+2:=by rw[l7,e1]
 have P3:=P2.1.push (o:={ cls:=.type "map",data:=.fields #[.ref (s.heap.objs.size+1),fv]}) (ao:=.obj (lI f s.heap.objs.size) sT) rfl s.toks ⟨_,Ys _ rfl,s.heap.objs.size+1,fv,rfl,by rw[← e1];exact u6.add_at ..,h0.mono (P1.2.le.trans P2.2.le)⟩;have X:=(P1.2.trans P2.2).trans P3.2;have hq:=hQ _ (.ref (((s.heap.push {cls:=.type "list_iterator",data:=.fields #[.ref a,.int 0 0]}).push {cls:=.type "tuple",data:=.seq #[.ref s.heap.objs.size]}).objs.size)) _ _ ⟨loc,gR _ s.heap.objs.size f xs 0 []++led⟩ (h _ _) (S.after P3.1 X) (.ref _) X.toF;refine⟨⟨_,by rw[← e2];exact Ys _ rfl,rfl⟩,?_⟩;rw[← e2];exact hq
end
section
variable{K:Frag}
theorem Tk:entryFor table "tuple.__len__" = some Builtin.«tuple.__len__» := f1 @_
theorem WQ(H6:Zm K ⟨vv,w.params⟩ (l4 (.ref C) (.type "tuple"))=some true)(hln:Zm K ⟨vv,w.params⟩ (ZJ (.ref C) "__len__")=some (some (.builtin "tuple.__len__")))
  (h1:xs.length<2^62) (h:R (.int xs.length) st):FC vv w A (ap K) s9 (.blt "len") [.mat C xs] [] st R:=FC.b fun s Z S Q E hQ=>Vals.un <| fun O hv0=>Vals.un0 <| by
 refine ed (tp hv0) fun a d items n qv e hv=>?_;clear hv0;subst qv;have X:=dA S.base S.frozen;have ha:=S.frozen _ _ e;have tl:Looks (YG vv w) s.heap (typeOf (.ref a)) (.ref C):=(Looks.ld ha).andThen .now;have y4:items.length=xs.length:=hv.length;refine Calls.call_function_entry kind_len plain_len entry_len (args_len1 _) ?_;unfold Builtin.«len»;refine Yh (m:=oneArg "len" _) (Yj ?_);refine Yh ?_;unfold callSpecial? specialOf;refine Yh (Yh (tl.here (cZ X hln ?_)));dsimp only;refine Yw ?_;refine Yh (Zr (F.slot_tuple_len.bind _) ?_);refine Yh (f9 (d3 F.slot_tuple_len.plain Tk (check_slot (i := "tuple.__len__") (owner := "tuple") (n := "__len__") (by decide +kernel) (by decide +kernel) (tl.andThen (k8 X H6)) (F.args_tuple_len_1 _) ?_)));show YJ _ _ (do retInt (← Builtin.Tuple.tupleItemsOf (.ref a)).size) _ _ s;unfold Builtin.Tuple.tupleItemsOf;refine Yh (Yh (a8 ha rfl (Yj ?_)));refine Yh (wpAny_mkInt (Yj ?_));refine Yj ?_;dsimp only;refine Yh (Yw (Yj ?_));refine Yh (wpAny_letGo ?_);have hz:((items.toArray.size:Nat):Int)=(xs.length:Int):=by simp[y4]
 show YJ _ _ (if ((items.toArray.size:Nat):Int)<0 then _ else _) _ _ _;refine fW ⋯ ?_;show YJ _ _ (if ((items.toArray.size:Nat):Int) ≥ 2^63 then _ else _) _ _ _;refine fW ⋯ ?_;refine Yh (wpAny_mkInt (Yj ⟨_,rfl,hQ _ _ _ Z st h (S.toks _) ?_ (.toks _)⟩));rw[hz];exact .int _ _
theorem XO{p f:YV}{rest:List Value}{led:aa}{J8:Bool}(hr:readsIn K C (.type "type")=true)
  (e:findCls K (.ref C) (.type "type") name=some (.get (.builtin "classmethod.__get__") (.ref p) .none (.ref C))) (hp:recIn K p "classmethod" = some (.ref f::rest))
  (h:∀q,R (.ref q) ⟨loc,(q,.raw (methodObj (.ref f) (.ref C)))::led⟩):F1 vv w A (ap K) s9 Val (fun x=>getAttr x name J8) (.ref C) ⟨loc,led⟩ R:=F1.of fun s Z S Q E hQ=>Val.eRef <| by
 have X:=dA S.base S.frozen;refine cls_bind X hr e (f9 (cm_get (s:={ s with toks:=s.toks+1}) X hp (handed_on rfl ?_)));have P:=S.tot8.push (o:=methodObj (.ref f) (.ref C)) (ao:=.raw (methodObj (.ref f) (.ref C))) rfl (s.toks+1) (Ys _ rfl);exact hQ _ _ _ _ _ (h _) (S.after P.1 P.2) (.ref _) P.2.toF
theorem VM{q f:YV}{led:aa}{R:AV->aa->Prop}(hm:(q,.raw (methodObj (.ref f) (.ref C)))∈led)(h:TC vv w A B (.ref f) (.ref C::args) [] led R):TC vv w A B (.ref q) args [] led R:=fun s Z fx xs ks S hf hx hk Q hQ=>by
 cases hf
 cases hk
 have hq:s.heap.get? q=some (methodObj (.ref f) (.ref C)):=S.own _ hm;refine codeAny_of_tree ?_;show YJ _ A.in1 (callAny (.ref q) ⟨xs,[]⟩) _ _ s;dsimp only[callAny];refine Yh (wpAny_load hq ?_);dsimp only;refine KFB.if_so (by decide) ?_;refine Yj ⟨rfl,?_⟩;exact h s Z (.ref f) (.ref C::xs) [] S (.ref f) (.cons (.ref C) hx) .nil Q hQ
end
theorem ye(w:YH):V7 ak w (KB w.params) 135:=⟨@_,@_⟩
noncomputable def vL(P:Ym):YV:=match findCls (KB P) (.ref 135) (.type "type") jh with |some (.get _ (.ref p) _ _)=>p |_=>0
noncomputable def KY(P:Ym):List Value:=((recIn (KB P) (vL P) "classmethod").getD []).tail
theorem ST(P:Ym):findCls (KB P) (.ref 135) (.type "type") jh=some (.get (.builtin "classmethod.__get__") (.ref (vL P)) .none (.ref 135)):=@_
theorem Rd(P:Ym):recIn (KB P) (vL P) "classmethod" = some (.ref 89::KY P):=@_
theorem Pp{x y z:Int}{led:aa}(hA:w0 A 20) :
  TC ak w A (al w) (.ref 89) [.ref 135,.tup [.int x,.int y,.int z]] [] led fun v led'=>v=.mat 135 [.int x,.int y,.int z]/\led'=led:=by
 refine fU [(BG,.tup [.int x,.int y,.int z]),(BH,.ref 135),(vA,.any)] (cL w) hA.lt (fun O O=>@_) @_ @_ (Sj _) fun L hL=>?_;have hG:=((gk w (A.deeper (bz (aA (iB w.params)) L 89 88)) (aA (iB w.params)) L 89 88 @_ @_ hA.h).g (EO w) @_ @_).g (gw w) @_ @_;refine bD hG 60 (t6.mk (GB (name:=kS) (T' := "tuple") (id := "tuple.__new__") @_ @_ @_ (by decide +kernel) @_ @_ @_ @_ @_ (ad hG 5 ⟨rfl,eK @_ oO (cR hG 20 (GR (DU w) (by decide:3<=Zc) (fun O=>@_) ?_))⟩)));exact t6.mk (WQ @_ @_ (by decide:3<2^62) ⟨rfl,rfl⟩)
theorem QD{s:(Int->Nat)×ab}(h:C2 alo blo t7 i s)(hi:alo<=i)(js:List Nat):∀(s2:(Int->Nat)×ab),(∀j∈js,blo<=j/\j<t7)->C2 alo blo t7 (i+1) s2->C2 alo blo t7 (i+1) (js.foldl (dF s.1 i) s2):=by
 induction js with
 |nil=>exact fun O O h2=>h2
 |cons j js ih=>exact fun s2 hj h2=>ih _ (fun j' h'=>hj j' (Yk _ h')) (h.step h2 hi (hj j (Yi ..)).1 (hj j (Yi ..)).2)
theorem uC{js:List Nat}(h:j∈within blo t7 js):blo<=j/\j<t7:=by
 have:=(c7.mp h).2;simpa using this
theorem uV{s:(Int->Nat)×ab}(js:List Nat)(h:C2 alo blo t7 i s)(hi:alo<=i):C2 alo blo t7 (i+1) (eQ js blo t7 i s) :=
 QD h hi _ _ (fun j hj=>uC hj) h.row
theorem Kf{idx:Nat->List Nat}(n:Nat):∀(i:Nat) (s:(Int->Nat)×ab),alo<=i->C2 alo blo t7 i s->C2 alo blo t7 (i+n) (gb idx blo t7 (Zx i n) s):=by
 induction n with
 |zero=>exact fun O O O h=>h
 |succ n ih=>exact fun i s hi h=>(o4 i n)▸ih (i+1) (eQ (idx i) blo t7 i s) (r9 hi) (uV (idx i) h hi)
def LB(alo blo i j:Nat)(t:ab):Prop:=alo<=t.1/\blo<=t.2.1/\t.1+t.2.2=i/\t.2.1+t.2.2=j
theorem Te(i:Nat):∀(j k:Nat),alo<=i->blo<=j->LB alo blo (i+k) (j+k) (bF e alo blo i j k):=by
 induction i with
 |zero=>exact fun j k h1 h2=>⟨h1,h2,rfl,rfl⟩
 |succ i ih =>
  intro j k h1 h2;cases j with
  |zero=>exact⟨h1,h2,rfl,rfl⟩
  |succ j=>exact iteInduction (motive:=LB alo blo (i+1+k) (j+1+k)) (fun hc=>(o4 i k).symm▸(o4 j k).symm▸ih j (k+1) (Nat.le_of_lt_succ (of_decide_eq_true (Bool.and_eq_true_iff.mp hc).1)) (Nat.le_of_lt_succ (of_decide_eq_true (Bool.and_eq_true_iff.mp (Bool.and_eq_true_iff.mp hc).2).1))) fun O=>⟨h1,h2,rfl,rfl⟩
theorem SX{t9:Nat}(f:Nat):∀(k:Nat),i+k<=t9->j+k<=t7->k<=cN e t9 t7 i j f k/\i+cN e t9 t7 i j f k<=t9/\j+cN e t9 t7 i j f k<=t7:=by
 induction f with
 |zero=>exact fun k h1 h2=>⟨YR _,h1,h2⟩
 |succ f ih =>
  intro k h1 h2;exact iteInduction (motive:=fun x=>k<=x/\i+x<=t9/\j+x<=t7) (fun hc=>(ih (k+1) (of_decide_eq_true (Bool.and_eq_true_iff.mp hc).1) (of_decide_eq_true (Bool.and_eq_true_iff.mp (Bool.and_eq_true_iff.mp hc).2).1)).imp_left Nat.le_of_succ_le) fun O=>⟨YR _,h1,h2⟩
def cQ(fl:Nat->Nat->Nat->Nat->ab):Prop:=∀alo t9 blo t7,alo<=t9->blo<=t7->alo<=(fl alo t9 blo t7).1/\(fl alo t9 blo t7).1+(fl alo t9 blo t7).2.2<=t9/\blo<=(fl alo t9 blo t7).2.1/\(fl alo t9 blo t7).2.1+(fl alo t9 blo t7).2.2<=t7
theorem fe(e:Nat->Nat->Bool)(idx:Nat->List Nat):cQ (bq e idx):=fun alo t9 blo t7 h1 h2=>by
 have hs:=Kf (idx:=idx) (t7:=t7) (t9-alo) alo (fun O=>0,(alo,blo,0)) (YR _) (C2.start h2);rw[Nat.add_sub_cancel' h1] at hs;unfold bq;dsimp only;generalize (gb idx blo t7 (Zx alo (t9-alo)) (fun O=>0,(alo,blo,0)))=s at hs;obtain⟨D,si,sj,sk⟩:=s;have q:=Te (e:=e) si sj sk hs.b1 hs.b3;have c2:=hs.b2;have c4:=hs.b4;dsimp only at c2 c4 q ⊢;generalize bF e alo blo si sj sk=u at q;have f:=SX (e:=e) (t9:=t9) (t7:=t7) (i:=u.1) (j:=u.2.1) (t9-(u.1+u.2.2)) u.2.2 (q.2.2.1▸c2) (q.2.2.2▸c4);exact⟨q.1,f.2.1,q.2.1,f.2.2⟩
noncomputable def cE(fl:Nat->Nat->Nat->Nat->ab):Nat->Nat->Nat->Nat->Nat->List ab
 |0,_,_,_,_=>[]
 |f+1,alo,t9,blo,t7 =>
  let r:=fl alo t9 blo t7
  if r.2.2=0 then [] else
   (if alo<r.1/\blo<r.2.1 then cE fl f alo r.1 blo r.2.1 else [])++r::(if r.1+r.2.2<t9/\r.2.1+r.2.2<t7 then cE fl f (r.1+r.2.2) t9 (r.2.1+r.2.2) t7 else [])
theorem DT{fl:Nat->Nat->Nat->Nat->ab}(ok:cQ fl){t9:Nat}(h1:alo<=t9)(h2:blo<=t7)(h3:t9<=alo):∀f,cE fl f alo t9 blo t7=[]
 |0=>rfl
 |f+1=>if_pos (Nat.le_zero.mp (Nat.le_of_add_le_add_left (Zg (ok alo t9 blo t7 h1 h2).2.1 (Zg h3 (ok alo t9 blo t7 h1 h2).1))))
theorem tm{c:Prop}[Decidable c]{x y:List α}(h:x=y):(if c then x else [])=if c then y else []:=h▸rfl
theorem Gk{x y u v:List α}{t:α}(h:x=y)(h':u=v):x++t::u=y++t::v:=h▸h'▸rfl
theorem yy{t9 f:Nat}(a2:i+k<=t9)(hk : ¬ k=0)(h:t9<=alo+(f+1)):i<=alo+f:=Nat.le_of_lt_succ (o6 (o6 (s6 (Nat.pos_of_ne_zero hk)) a2) h)
theorem yx{t9 f:Nat}(a1:alo<=i)(hk : ¬ k=0)(h:t9<=alo+(f+1)):t9<=i+k+f:=Zg h (Zg (o5 (Nat.add_right_comm alo f 1)) (r6 (r8 a1 (Nat.pos_of_ne_zero hk)) f))
noncomputable def yb(fl:Nat->Nat->Nat->Nat->ab)(f alo t9 blo t7:Nat)(r:ab):List ab :=
 if r.2.2=0 then [] else (if alo<r.1/\blo<r.2.1 then cE fl f alo r.1 blo r.2.1 else [])++r::(if r.1+r.2.2<t9/\r.2.1+r.2.2<t7 then cE fl f (r.1+r.2.2) t9 (r.2.1+r.2.2) t7 else [])
theorem Pb{fl:Nat->Nat->Nat->Nat->ab}{f g t9:Nat}{r:ab}(hl : ¬ r.2.2=0->cE fl f alo r.1 blo r.2.1=cE fl g alo r.1 blo r.2.1)(hr : ¬ r.2.2=0->cE fl f (r.1+r.2.2) t9 (r.2.1+r.2.2) t7=cE fl g (r.1+r.2.2) t9 (r.2.1+r.2.2) t7):yb fl f alo t9 blo t7 r=yb fl g alo t9 blo t7 r :=
 if hk:r.2.2=0 then (if_pos hk).trans (if_pos hk).symm else (if_neg hk).trans ((Gk (tm (hl hk)) (tm (hr hk))).trans (if_neg hk).symm)
theorem sQ{fl:Nat->Nat->Nat->Nat->ab}(ok:cQ fl)(f:Nat):∀(g alo t9 blo t7:Nat),alo<=t9->blo<=t7->t9<=alo+f->t9<=alo+g->cE fl f alo t9 blo t7=cE fl g alo t9 blo t7:=by
 induction f with
 |zero=>exact fun g alo t9 blo t7 h1 h2 h3 O=>(DT ok h1 h2 h3 g).symm
 |succ f ih =>
  intro g alo t9 blo t7 h1 h2 h3 h4;cases g with
  |zero=>exact DT ok h1 h2 h4 _
  |succ g =>
   have a:=ok alo t9 blo t7 h1 h2;exact Pb (fun hk=>ih g _ _ _ _ a.1 a.2.2.1 (yy a.2.1 hk h3) (yy a.2.1 hk h4)) fun hk=>ih g _ _ _ _ a.2.1 a.2.2.2 (yx a.1 hk h3) (yx a.1 hk h4)
theorem sP{fl:Nat->Nat->Nat->Nat->ab}(ok:cQ fl){P:Nat->Nat->Nat->Nat->List ab->Prop}(nil:∀alo t9 blo t7,alo<=t9->blo<=t7->P alo t9 blo t7 [])
  (node:∀alo t9 blo t7 i j k l r,alo<=t9->blo<=t7->fl alo t9 blo t7=(i,j,k+1)->alo<=i->i+(k+1)<=t9->blo<=j->j+(k+1)<=t7->P alo i blo j l->P (i+(k+1)) t9 (j+(k+1)) t7 r->P alo t9 blo t7 (l++(i,j,k+1)::r))
  (f:Nat):∀alo t9 blo t7:Nat,alo<=t9->blo<=t7->P alo t9 blo t7 (cE fl f alo t9 blo t7):=by
 induction f with
 |zero=>exact nil
 |succ f ih =>
  intro alo t9 blo t7 h1 h2;have a:=ok alo t9 blo t7 h1 h2;have n:=node alo t9 blo t7;show P _ _ _ _ (yb fl f alo t9 blo t7 (fl alo t9 blo t7));generalize fl alo t9 blo t7=r at a n;obtain⟨i,j,k⟩:=r;cases k with
  |zero=>exact nil _ _ _ _ h1 h2
  |succ k=>exact n i j k _ _ h1 h2 rfl a.1 a.2.1 a.2.2.1 a.2.2.2 (iteInduction (motive:=P alo i blo j) (fun O=>ih _ _ _ _ a.1 a.2.2.1) fun O=>nil _ _ _ _ a.1 a.2.2.1) (iteInduction (motive:=P (i+(k+1)) t9 (j+(k+1)) t7) (fun O=>ih _ _ _ _ a.2.1 a.2.2.2) fun O=>nil _ _ _ _ a.2.1 a.2.2.2)
noncomputable abbrev dp:=Nat×Nat×Nat×Nat
noncomputable def bf(fl:Nat->Nat->Nat->Nat->ab)(q:dp):List ab:=cE fl (q.2.1-q.1) q.1 q.2.1 q.2.2.1 q.2.2.2
def yU(la lb:Nat)(q:dp):Prop:=q.1<=q.2.1/\q.2.1<=la/\q.2.2.1<=q.2.2.2/\q.2.2.2<=lb
theorem DQ{fl:Nat->Nat->Nat->Nat->ab}{q:dp}(hk:(fl q.1 q.2.1 q.2.2.1 q.2.2.2).2.2=0):bf fl q=[]:=by
 unfold bf;cases q.2.1-q.1 with
 |zero=>rfl
 |succ g=>exact if_pos hk
theorem iX(n m:Nat):n<=m+(n-m):=Nat.sub_le_iff_le_add'.mp (YR _)
theorem DR{fl:Nat->Nat->Nat->Nat->ab}(ok:cQ fl){q:dp}(h1:q.1<=q.2.1)(h2:q.2.2.1<=q.2.2.2)(hk:(fl q.1 q.2.1 q.2.2.1 q.2.2.2).2.2≠0) :
  bf fl q=(if q.1<(fl q.1 q.2.1 q.2.2.1 q.2.2.2).1/\q.2.2.1<(fl q.1 q.2.1 q.2.2.1 q.2.2.2).2.1 then bf fl (q.1,(fl q.1 q.2.1 q.2.2.1 q.2.2.2).1,q.2.2.1,(fl q.1 q.2.1 q.2.2.1 q.2.2.2).2.1) else [])++fl q.1 q.2.1 q.2.2.1 q.2.2.2 ::
   (if (fl q.1 q.2.1 q.2.2.1 q.2.2.2).1+(fl q.1 q.2.1 q.2.2.1 q.2.2.2).2.2<q.2.1/\(fl q.1 q.2.1 q.2.2.1 q.2.2.2).2.1+(fl q.1 q.2.1 q.2.2.1 q.2.2.2).2.2<q.2.2.2 then bf fl ((fl q.1 q.2.1 q.2.2.1 q.2.2.2).1+(fl q.1 q.2.1 q.2.2.1 q.2.2.2).2.2,q.2.1,(fl q.1 q.2.1 q.2.2.1 q.2.2.2).2.1+(fl q.1 q.2.1 q.2.2.1 q.2.2.2).2.2,q.2.2.2) else []):=by
 obtain⟨alo,t9,blo,t7⟩:=q;dsimp only at *;have a:=ok alo t9 blo t7 h1 h2;unfold bf;dsimp only;refine(sQ ok _ (t9-alo+1) alo t9 blo t7 h1 h2 (iX t9 alo) (r9 (iX t9 alo))).trans ?_;refine(if_neg hk).trans ?_;exact Gk (tm (sQ ok _ _ _ _ _ _ a.1 a.2.2.1 (yy a.2.1 hk (r9 (iX t9 alo))) (iX _ alo))) (tm (sQ ok _ _ _ _ _ _ a.2.1 a.2.2.2 (yx a.1 hk (r9 (iX t9 alo))) (iX t9 _)))
noncomputable def cA(s:ab×List ab)(t:ab):ab×List ab :=
 if s.1.1+s.1.2.2=t.1/\s.1.2.1+s.1.2.2=t.2.1 then ((s.1.1,s.1.2.1,s.1.2.2+t.2.2),s.2) else (t,if s.1.2.2=0 then s.2 else s.2++[s.1])
noncomputable def dW(s:ab×List ab):List ab:=if s.1.2.2=0 then s.2 else s.2++[s.1]
noncomputable def aW(fl:Nat->Nat->Nat->Nat->ab)(la lb:Nat):List ab:=dW ((bf fl (0,la,0,lb)).foldl cA ((0,0,0),[]))++[(la,lb,0)]
def zd(alo t9 blo t7:Nat)(t:ab):Prop:=alo<=t.1/\t.1+t.2.2<=t9/\blo<=t.2.1/\t.2.1+t.2.2<=t7/\0<t.2.2
theorem sO{P:α->Prop}{l r:List α}{x:α}(hl:∀t∈l,P t)(hx:P x)(hr:∀t∈r,P t)(t:α)(h:t∈l++x::r):P t :=
 (Zh.mp h).elim (hl t) fun h=>(Yp.mp h).elim (fun e=>e▸hx) (hr t)
theorem yc{fl:Nat->Nat->Nat->Nat->ab}(ok:cQ fl):∀(f alo t9 blo t7:Nat),alo<=t9->blo<=t7->∀t∈cE fl f alo t9 blo t7,zd alo t9 blo t7 t :=
 sP ok (P:=fun alo t9 blo t7 L=>∀t∈L,zd alo t9 blo t7 t) (fun O O O O O O=>aG) fun alo t9 blo t7 i j k l r O O O a1 a2 a3 a4 hl hr =>
  sO (fun t h=>⟨(hl t h).1,Zg (hl t h).2.1 (Zg (n9 ..) a2),(hl t h).2.2.1,Zg (hl t h).2.2.2.1 (Zg (n9 ..) a4),(hl t h).2.2.2.2⟩) ⟨a1,a2,a3,a4,Nat.succ_pos _⟩
   fun t h=>⟨Zg (Zg a1 (n9 ..)) (hr t h).1,(hr t h).2.1,Zg (Zg a3 (n9 ..)) (hr t h).2.2.1,(hr t h).2.2.2⟩
def yV(s t:ab):Prop:=s.1+s.2.2<=t.1/\s.2.1+s.2.2<=t.2.1
theorem DS{fl:Nat->Nat->Nat->Nat->ab}(ok:cQ fl)(f alo t9 blo t7:Nat)(h1:alo<=t9)(h2:blo<=t7):(cE fl f alo t9 blo t7).Pairwise yV :=
 (sP ok (P:=fun alo t9 blo t7 L=>(∀t∈L,zd alo t9 blo t7 t)/\L.Pairwise yV) (fun O O O O O O=>⟨aG,.nil⟩) (fun alo t9 blo t7 i j k l r O O O a1 a2 a3 a4 hl hr =>
  ⟨sO (fun t h=>⟨(hl.1 t h).1,Zg (hl.1 t h).2.1 (Zg (n9 ..) a2),(hl.1 t h).2.2.1,Zg (hl.1 t h).2.2.2.1 (Zg (n9 ..) a4),(hl.1 t h).2.2.2.2⟩) ⟨a1,a2,a3,a4,Nat.succ_pos _⟩
   fun t h=>⟨Zg (Zg a1 (n9 ..)) (hr.1 t h).1,(hr.1 t h).2.1,Zg (Zg a3 (n9 ..)) (hr.1 t h).2.2.1,(hr.1 t h).2.2.2⟩,
  List.pairwise_append.mpr ⟨hl.2,g9.mpr ⟨fun t h=>⟨(hr.1 t h).1,(hr.1 t h).2.2.1⟩,hr.2⟩,fun s hs=>sO (x:=(i,j,k+1)) (l:=[]) aG ⟨(hl.1 s hs).2.1,(hl.1 s hs).2.2.2.1⟩
   fun t h=>⟨Zg (hl.1 s hs).2.1 (Zg (n9 ..) (hr.1 t h).1),Zg (hl.1 s hs).2.2.2.1 (Zg (n9 ..) (hr.1 t h).2.2.1)⟩⟩⟩) f alo t9 blo t7 h1 h2).2
theorem Pd{fl:Nat->Nat->Nat->Nat->ab}(ok:cQ fl):∀(f alo t9 blo t7:Nat),alo<=t9->blo<=t7->(cE fl f alo t9 blo t7).length+alo<=t9 :=
 sP ok (P:=fun alo t9 O O L=>L.length+alo<=t9) (fun O O O O h O=>(r0 _).symm▸h) fun alo t9 blo t7 i j k l r O O O a1 a2 a3 a4 hl hr=>by
  rw[Yr,Yq];clear a1 a2 a3 a4;omega
theorem yd{fl:Nat->Nat->Nat->Nat->ab}(ok:cQ fl)(f alo t9 blo t7:Nat)(h1:alo<=t9)(h2:blo<=t7):(cE fl f alo t9 blo t7).length<=t9-alo:=Nat.le_sub_of_add_le (Pd ok f alo t9 blo t7 h1 h2)
noncomputable def eS(qs:List dp):Nat:=(qs.map fun q=>2 * (q.2.1-q.1)+1).sum
theorem Bk(qs:List dp):qs.length<=eS qs:=by
 unfold eS;induction qs with
 |nil=>exact YD _
 |cons q qs ih=>rw[Yu,List.sum_cons,Yq];omega
theorem KZ(qs:List dp)(q:dp):eS (qs++[q])=eS qs+(2 * (q.2.1-q.1)+1):=by
 unfold eS;rw[YK,List.sum_append];simp
theorem Bm(qs rs:List dp):eS (qs++rs)=eS qs+eS rs:=by
 unfold eS;rw[YK,List.sum_append]
theorem Nt{ms qs lw rw T:List ab}{t:ab}(h:((ms++qs)++(lw++t::rw)).Perm T):((ms++[t])++((qs++lw)++rw)).Perm T:=by
 rw[← YN] at h;refine List.Perm.trans ?_ (ZX.symm.trans h);rw[YN ms [t]];exact ZX.trans (List.Perm.of_eq (by rw[YN,YN,YN];rfl))
theorem Fh{c:Prop}[Decidable c](f:α->List β)(x:α):(if c then [x] else []).flatMap f=if c then f x else []:=by
 split <;> simp
theorem Pa{fl:Nat->Nat->Nat->Nat->ab}(ok:cQ fl){q:dp}(h1:q.1<=q.2.1)(h2:q.2.2.1<=q.2.2.2):(bf fl q).Pairwise fun s t=>s.1<t.1 :=
 (DS ok (q.2.1-q.1) q.1 q.2.1 q.2.2.1 q.2.2.2 h1 h2).imp_of_mem fun{s t} hs _ h=>by
  exact o6 (s6 (yc ok _ _ _ _ _ h1 h2 s hs).2.2.2.2) h.1
theorem yT(s:ab×List ab)(t:ab):(cA s t).2.length<=s.2.length+1:=by
 unfold cA;split
 ·exact Nat.le_succ _
 ·dsimp only;split
  ·exact Nat.le_succ _
  ·simp
section
open PySem PyProof.Rows
section
variable{a0:Array Keyed}{key:Keyed->Nat}
def ib(vv:YA)(w:YH)(A:Yz)(E:Value->Yo->Prop)(s:Yo)(a0:Array Keyed)(key:Keyed->Nat):Prop :=
 ∀x∈a0.toList,∀y∈a0.toList,∀(Q:Option Bool->SortSt->Prop) (st:SortSt),kindOf st=oneType'->Q (some (decide (key x<key y))) st->wpS (YG vv w) A E s (lt' x y) Q st
noncomputable def aX(key:Keyed->Nat)(xs:Array Keyed)(i:Nat):Nat:=match xs[i]? with
 |some p=>key p
 |none=>0
theorem pu{xs ys:Array Keyed}(h:xs[i]?=ys[j]?):aX key xs i=aX key ys j:=by unfold aX;rw[h]
def Up(key:Keyed->Nat)(xs:Array Keyed)(k:Nat):Prop:=∀i j,i<j->j<k->aX key xs i<aX key xs j
def I8(key:Keyed->Nat)(xs:Array Keyed)(k:Nat):Prop:=∀i j,i<j->j<k->aX key xs j<aX key xs i
def fy(key:Keyed->Nat)(xs:Array Keyed):Prop:=∀i j,i<j->j<xs.size->aX key xs i≠aX key xs j
theorem Gl{xs:Array Keyed}:fy key xs↔(xs.toList.map key).Nodup:=by
 have hk:∀i (h:i<xs.size),aX key xs i=key xs[i]:=fun i h=>by unfold aX;rw[getElem?_pos xs i h]
 have hm:∀i (h:i<(xs.toList.map key).length),∃h':i<xs.size,(xs.toList.map key)[i]=aX key xs i:=fun i h =>
  have h':i<xs.size:=Nat.lt_of_lt_of_eq h (Yl _)
  ⟨h',(List.getElem_map key).trans (hk i h').symm⟩
 have hs:(xs.toList.map key).length=xs.size:=Yl _;refine⟨fun h=>List.pairwise_iff_getElem.mpr fun i j hi hj G8=>?_,fun h i j G8 hj=>?_⟩
 ·exact aq (hm i hi) fun h1 e1=>aq (hm j hj) fun h2 e2=>e1▸e2▸h i j G8 h2
 ·exact aq (hm i (hs▸Nat.lt_trans G8 hj)) fun h1 e1=>aq (hm j (hs▸hj)) fun h2 e2=>e1▸e2▸List.pairwise_iff_getElem.mp h i j _ _ G8
theorem SBase.apart{st:SortSt}(h:SBase a0 st)(hd:fy key a0):fy key (arrOf st):=by
 rw[Gl] at hd ⊢;exact((f8.mp h.perm).map key).nodup_iff.mpr hd
theorem mz{st:SortSt}{Q:Option Bool->SortSt->Prop}(hL:ib vv w A E s a0 key)(hB:SBase a0 st)(hi:i<a0.size)(hj:j<a0.size)
  (h:Q (some (decide (aX key (arrOf st) i<aX key (arrOf st) j))) st):wpS (YG vv w) A E s (ltAt' i j) Q st:=by
 have hi':i<(arrOf st).size:=by rw[hB.size];exact hi
 have W7:j<(arrOf st).size:=by rw[hB.size];exact hj
 have mi:(arrOf st)[i]∈a0.toList:=(f8.mp hB.perm).mem_iff.mp (by simp);have mj:(arrOf st)[j]∈a0.toList:=(f8.mp hB.perm).mem_iff.mp (by simp);have e1:(arrOf st)[i]?=some (arrOf st)[i]:=getElem?_pos _ i hi';have e2:(arrOf st)[j]?=some (arrOf st)[j]:=getElem?_pos _ j W7;unfold aX at h;rw[e1,e2] at h;rw[ltAt'_eq];refine wpS_bind (wpS_get ?_);show wpS _ _ _ _ (do let x ← elem' (arrOf st) i;let y ← elem' (arrOf st) j;lt' x y) Q st;rw[elem'_eq,elem'_eq,e1,e2];exact wpS_bind (wpS_pure (wpS_bind (wpS_pure (hL _ mi _ mj _ _ hB.kind h))))
theorem Wb{xs:Array Keyed}{G_ d:Nat}(hs:G_<xs.size)(hd:d<=G_)(k:Nat) :
  aX key (bubble xs G_ d) k=if k=G_-d then aX key xs G_ else if G_-d<k/\k<=G_ then aX key xs (k-1) else aX key xs k:=by
 by_cases h1:k=G_-d
 ·rw[if_pos h1];exact pu ((getElem?_bubble hs d hd k).trans (if_pos h1))
 ·rw[if_neg h1];by_cases h2:G_-d<k/\k<=G_
  ·rw[if_pos h2];exact pu ((getElem?_bubble hs d hd k).trans ((if_neg h1).trans (if_pos h2)))
  ·rw[if_neg h2];exact pu ((getElem?_bubble hs d hd k).trans ((if_neg h1).trans (if_neg h2)))
theorem GI{xs:Array Keyed}(hj:j<=xs.size)(k:Nat):aX key (mirror xs i j ((j-i) / 2)) k=if i<=k/\k<j then aX key xs (i+j-1-k) else aX key xs k:=by
 by_cases h1:i<=k/\k<j
 ·rw[if_pos h1];exact pu ((getElem?_mirror_all hj k).trans (if_pos h1))
 ·rw[if_neg h1];exact pu ((getElem?_mirror_all hj k).trans (if_neg h1))
theorem Ii{f g:Nat->Nat}{l x:Nat}(lo:∀i,i<l->g i=f i)(at_:g l=x)(hi:∀i,l<=i->i<k->g (i+1)=f i)(hu:∀i j,i<j->j<k->f i<f j)
  (h1:∀i,i<l->f i<x) (h2:∀i,l<=i->i<k->x<f i) (hl:l<=k) (i j:Nat) (G8:i<j) (hj:j<k+1):g i<g j:=by
 have up:∀m,l<m->m<k+1->∃n,m=n+1/\l<=n/\n<k:=fun m a b=>by
  cases m with
  |zero=>exact absurd a (Nat.not_lt_zero _)
  |succ n=>exact⟨n,rfl,Nat.le_of_lt_succ a,Nat.lt_of_succ_lt_succ b⟩
 refine(Nat.lt_trichotomy i l).elim (fun a=>?_) fun a=>a.elim (fun a=>?_) fun a=>?_
 ·rw[lo i a];refine(Nat.lt_trichotomy j l).elim (fun b=>?_) fun b=>b.elim (fun b=>?_) fun b=>?_
  ·rw[lo j b];exact hu i j G8 (o6 b hl)
  ·rw[b,at_];exact h1 i a
  ·exact aZ (up j b hj) fun n e c d=>e▸(hi n c d).symm▸hu i n (o6 a c) d
 ·subst a;rw[at_];exact aZ (up j G8 hj) fun n e c d=>e▸(hi n c d).symm▸h2 n c d
 ·exact aZ (up i a (Nat.lt_trans G8 hj)) fun m e c d=>aZ (up j (Nat.lt_trans a G8) hj) fun n e' c' d'=>by
   subst e;subst e';rw[hi m c d,hi n c' d'];exact hu m n (Nat.lt_of_succ_lt_succ G8) d'
theorem Up.bubble{xs:Array Keyed}{l:Nat}(hk:k<xs.size)(hl:l<=k)(hu:Up key xs k)(h1:∀i,i<l->aX key xs i<aX key xs k)(h2:∀i,l<=i->i<k->aX key xs k<aX key xs i):Up key (bubble xs k (k-l)) (k+1):=by
 have e:=fun m=>Wb (key:=key) hk (r7 k l) m;rw[Nat.sub_sub_self hl] at e;refine Ii (f:=aX key xs) (x:=aX key xs k) (l:=l) (fun i a=>?_) ((e l).trans (if_pos rfl)) (fun i a b=>?_) hu h1 h2 hl
 ·exact(e i).trans ((if_neg (ZE a)).trans (if_neg fun q=>Nat.lt_asymm a q.1))
 ·exact(e (i+1)).trans ((if_neg (Nat.ne_of_gt (Nat.lt_succ_of_le a))).trans (if_pos ⟨Nat.lt_succ_of_le a,b⟩))
structure F' (f:Nat->Nat) (x k m l r:Nat):Prop where
 le:l<=r
 rk:r<=k
 rm:r<=l+m
 lo:∀i,i<l->f i<x
 hi:∀i,r<=i->i<k->x<f i
theorem jL{l r:Nat}(h:l<r):l<=(l+r) / 2/\(l+r) / 2<r :=
 ⟨(Nat.le_div_iff_mul_le (Nat.succ_pos 1)).mpr (Nat.mul_two l▸p5 (a6 h) l),Nat.div_lt_of_lt_mul (Nat.two_mul r▸Nat.add_lt_add_right h r)⟩
theorem F'.low{f:Nat->Nat}{x m l r:Nat}(h:F' f x k (m+1) l r)(C5:l<r)(hu:∀i j,i<j->j<k->f i<f j)(hc:x<f ((l+r) / 2)):F' f x k m l ((l+r) / 2) :=
 ⟨(jL C5).1,Zg (a6 (jL C5).2) h.rk,Nat.le_of_lt_succ (o6 (jL C5).2 h.rm),h.lo,fun i a b=>(Nat.eq_or_lt_of_le a).elim (fun e=>e▸hc) fun a=>Nat.lt_trans hc (hu _ _ a b)⟩
theorem F'.high{f:Nat->Nat}{x m l r:Nat}(h:F' f x k (m+1) l r)(C5:l<r)(hu:∀i j,i<j->j<k->f i<f j)(hc:f ((l+r) / 2)<x):F' f x k m ((l+r) / 2+1) r :=
 ⟨(jL C5).2,h.rk,Zg h.rm (o4 l m▸r6 (p8 (jL C5).1) m),fun i a=>(Nat.eq_or_lt_of_le (Nat.le_of_lt_succ a)).elim (fun e=>e▸hc) fun a=>Nat.lt_trans (hu _ _ a (o6 (jL C5).2 h.rk)) hc,h.hi⟩
theorem F'.fin{f:Nat->Nat}{x m l r:Nat}(h:F' f x k m l r)(S9:r<=l)(m':Nat):F' f x k m' l r:=⟨h.le,h.rk,Zg S9 (n9 ..),h.lo,h.hi⟩
theorem HG{st:SortSt}{ok:Nat}{Q:Bool->SortSt->Prop}(hL:ib vv w A E s a0 key)(hd:fy key a0)(hn:n<=a0.size)(W6:1<=ok)(hokn:ok<=n)(hB:SBase a0 st)(hs:Up key (arrOf st) ok)
  (h:∀t5,SBase a0 t5->Up key (arrOf t5) n->Q true t5):wpS (YG vv w) A E s (binarySort' 0 n ok) Q st:=by
 rw[binarySort'_eq,Nat.max_eq_left W6];refine wpS_bind (wpS_mono (wpS_forRange (β:=Option Bool×Unit) (fun k c t5=>c=(none,())/\SBase a0 t5/\Up key (arrOf t5) k) (Q:=fun c t5=>c=(none,())/\SBase a0 t5/\Up key (arrOf t5) n) ?_ (fun c t5 Y=>Nat.max_eq_right hokn▸Y) ⟨rfl,hB,hs⟩)
  fun c t5 Y=>dM Y fun e V4 hu=>by subst e;exact wpS_pure (h t5 V4 hu))
 intro k c t5 î í Y;refine dM Y fun e V4 hu=>?_;clear Y;subst e;have v_:=SBase.apart V4 hd;have hk:=o6 í hn;refine wpS_bind (wpS_mono (wpS_forRange (β:=Option Bool×Nat×Nat) (fun t c A3=>∃l r,c=(none,l,r)/\A3=t5/\F' (aX key (arrOf t5)) (aX key (arrOf t5) k) k (k-t) l r)
  (Q:=fun c A3=>∃l r,c=(none,l,r)/\A3=t5/\F' (aX key (arrOf t5)) (aX key (arrOf t5) k) k 0 l r) ?_ ?_ ?_) ?_)
 ·intro t c A3 ht1 ht2 Y;refine bw Y fun l r e e' b=>?_;clear Y;subst e;subst e';dsimp only;rw[show k-t=k-(t+1)+1 from(Nat.succ_pred_eq_of_pos (Nat.sub_pos_of_lt ht2)).symm] at b;split
  ·rename_i S9
   exact wpS_pure ⟨l,r,rfl,rfl,b.fin S9 0⟩
  ·rename_i C5
   have C5:=Nat.not_le.mp C5;have hm:=jL C5;have I_:=o6 hm.2 b.rk;rw[r0,r0];refine wpS_bind (mz hL V4 hk (Nat.lt_trans I_ hk) ?_);by_cases hc:aX key (arrOf A3) k<aX key (arrOf A3) ((l+r) / 2)
   ·rw[decide_eq_true hc];exact wpS_pure ⟨l,_,rfl,rfl,b.low C5 hu hc⟩
   ·rw[decide_eq_false hc];exact wpS_pure ⟨_,r,rfl,rfl,b.high C5 hu (Nat.lt_of_le_of_ne (Nat.not_lt.mp hc) (v_ _ _ I_ (V4.size.symm▸hk)))⟩
 ·exact fun c A3 Y=>bw Y fun l r e e' b=>⟨l,r,e,e',Nat.sub_eq_zero_of_le (Nat.le_max_right 0 k)▸b⟩
 ·exact⟨0,k,rfl,rfl,YD _,YR _,o5 (r0 _).symm,fun O=>nofun,fun i a b=>absurd b (Nat.not_lt.mpr a)⟩
 ·intro c A3 Y;refine bw Y fun l r e e' b=>?_;clear Y;subst e;subst e';have q:=Nat.le_antisymm b.le b.rm;subst q;dsimp only;rw[moveDown'_eq,r0,r0];exact wpS_bind (wpS_modify (wpS_pure ⟨rfl,V4.setArr (bubble_perm ..),Up.bubble (V4.size.symm▸hk) b.rk hu b.lo b.hi⟩))
end
end
section
open PySem PyProof.Rows
section
variable{a0:Array Keyed}{key:Keyed->Nat}
theorem Up.one{xs:Array Keyed}:Up key xs 1:=fun i j h1 h2=>absurd h1 (Nat.lt_one_iff.mp h2▸Nat.not_lt_zero i)
theorem Up.more{xs:Array Keyed}{x:Nat}(hu:Up key xs (x+1))(h:aX key xs x<aX key xs (x+1)):Up key xs (x+2):=fun i j G8 hj =>
 (Nat.lt_succ_iff_lt_or_eq.mp hj).elim (hu i j G8) fun e=>by
  subst e;exact(Nat.lt_succ_iff_lt_or_eq.mp G8).elim (fun a=>Nat.lt_trans (hu i x a (g4 x)) h) fun a=>a▸h
theorem I8.more{xs:Array Keyed}{x:Nat}(hu:I8 key xs (x+1))(h:aX key xs (x+1)<aX key xs x):I8 key xs (x+2):=fun i j G8 hj =>
 (Nat.lt_succ_iff_lt_or_eq.mp hj).elim (hu i j G8) fun e=>by
  subst e;exact(Nat.lt_succ_iff_lt_or_eq.mp G8).elim (fun a=>Nat.lt_trans h (hu i x a (g4 x))) fun a=>a▸h
theorem DN(h1:i<j)(h2:j<n):0+n-1-j<0+n-1-i/\0+n-1-i<n:=by
 rw[r0];exact⟨Nat.sub_lt_sub_left (Nat.lt_sub_of_add_lt (o0 h1 h2)) h1,o0 (r7 ..) (Nat.sub_one_lt (Nat.ne_of_gt (Nat.zero_lt_of_lt h2)))⟩
theorem I8.mirror{xs:Array Keyed}(hn:n<=xs.size)(h:I8 key xs n):Up key (mirror xs 0 n ((n-0) / 2)) n:=fun i j G8 hj=>by
 rw[GI hn,GI hn,if_pos ⟨YD _,Nat.lt_trans G8 hj⟩,if_pos ⟨YD _,hj⟩];exact h _ _ (DN G8 hj).1 (DN G8 hj).2
theorem zE{st:SortSt}{a C1:Nat}{Q:AscSt->SortSt->Prop}(hL:ib vv w A E s a0 key)(hd:fy key a0)(hn:C1<=a0.size)(ha:1<=a)(han:a<=C1)(hB:SBase a0 st)(hs:Up key (arrOf st) a)
  (h:∀n,a<=n->n<=C1->Up key (arrOf st) n->(n=C1∨aX key (arrOf st) n<aX key (arrOf st) (n-1))->Q (none,n) st):wpS (YG vv w) A E s (ascLoop a C1) Q st:=by
 have v_:=SBase.apart hB hd;unfold ascLoop;refine wpS_forRange (fun x c t5=>c=(none,x)/\t5=st/\Up key (arrOf st) x) ?_ ?_ ⟨rfl,rfl,hs⟩
 ·intro x c t5 h1 h2 Y6;refine dM Y6 fun e e' hu=>?_;clear Y6;subst e;subst e';cases x with
  |zero=>exact absurd (Zg ha h1) (Nat.not_succ_le_zero 0)
  |succ x =>
   have hx:=o6 h2 hn;refine wpS_bind (mz hL hB hx (Nat.lt_of_succ_lt hx) ?_);rw[Nat.add_sub_cancel];dsimp only;by_cases hc:aX key (arrOf t5) (x+1)<aX key (arrOf t5) x
   ·rw[decide_eq_true hc];exact wpS_pure (h (x+1) h1 (a6 h2) hu (.inr hc))
   ·rw[decide_eq_false hc];exact wpS_pure ⟨rfl,rfl,hu.more (Nat.lt_of_le_of_ne (Nat.not_lt.mp hc) (v_ x (x+1) (g4 x) (hB.size.symm▸hx)))⟩
 ·intro c t5 Y3;refine dM Y3 fun e e' hu=>?_;rw[Nat.max_eq_right han] at e hu;subst e;subst e';exact h C1 han (YR _) hu (.inl rfl)
theorem HB{st:SortSt}{C1:Nat}{Q:Option Nat->SortSt->Prop}(hL:ib vv w A E s a0 key)(hd:fy key a0)(hn:C1<=a0.size)(h1:1<=n)(U7:n<=C1)(hB:SBase a0 st)(hs:I8 key (arrOf st) n)
  (h:∀m t5,SBase a0 t5->1<=m->m<=C1->Up key (arrOf t5) m->Q (some m) t5):wpS (YG vv w) A E s (tail3 n C1) Q st:=by
 unfold tail3;have V4:SBase a0 (setArr st (mirror (arrOf st) 0 n ((n-0) / 2))):=hB.setArr (mirror_perm _ _ _ _);exact wpS_bind (wpS_reverse (wpS_bind (zE hL hd hn h1 U7 V4 (I8.mirror (hB.size.symm▸Zg U7 hn) hs) fun m a b c O=>wpS_pure (h m _ V4 (Zg h1 a) b c))))
theorem HE{st:SortSt}{C1:Nat}{Q:DescSt->SortSt->Prop}(hL:ib vv w A E s a0 key)(hd:fy key a0)(hn:C1<=a0.size)(h1:1<=n)(U7:n<=C1)(hB:SBase a0 st)(hs:I8 key (arrOf st) n)
  (h:∀m,n<=m->m<=C1->I8 key (arrOf st) m->Q (none,m,0) st):wpS (YG vv w) A E s (descLoop n C1) Q st:=by
 have v_:=SBase.apart hB hd;unfold descLoop;refine wpS_forRange (fun x c t5=>c=(none,x,0)/\t5=st/\I8 key (arrOf st) x) ?_ ?_ ⟨rfl,rfl,hs⟩
 ·intro x c t5 h2 h3 Y6;refine dM Y6 fun e e' hu=>?_;clear Y6;subst e;subst e';cases x with
  |zero=>exact absurd (Zg h1 h2) (Nat.not_succ_le_zero 0)
  |succ x =>
   have hx:=o6 h3 hn;refine wpS_bind (mz hL hB hx (Nat.lt_of_succ_lt hx) ?_);rw[Nat.add_sub_cancel];dsimp only;by_cases hc:aX key (arrOf t5) (x+1)<aX key (arrOf t5) x
   ·rw[decide_eq_true hc,if_pos rfl,if_neg (d7 0)];exact wpS_pure ⟨rfl,rfl,hu.more hc⟩
   ·rw[decide_eq_false hc,if_neg Zd];refine wpS_bind (mz hL hB (Nat.lt_of_succ_lt hx) hx ?_);rw[decide_eq_true (Nat.lt_of_le_of_ne (Nat.not_lt.mp hc) (v_ x (x+1) (g4 x) (hB.size.symm▸hx)))];exact wpS_pure (h (x+1) h2 (a6 h3) hu)
 ·intro c t5 Y3;refine dM Y3 fun e e' hu=>?_;rw[Nat.max_eq_right U7] at e hu;subst e;subst e';exact h C1 U7 (YR _) hu
theorem HD{st:SortSt}{C1:Nat}{Q:Option Nat->SortSt->Prop}(hL:ib vv w A E s a0 key)(hd:fy key a0)(hn:C1<=a0.size)(U7:n+1<=C1)(hB:SBase a0 st)(hs:I8 key (arrOf st) (n+1))
  (h:∀m t5,SBase a0 t5->1<=m->m<=C1->Up key (arrOf t5) m->Q (some m) t5):wpS (YG vv w) A E s (descPart n C1) Q st:=by
 unfold descPart;refine wpS_bind (wpS_lift (ZM ⟨rfl,wpS_bind (HE hL hd hn (Nat.succ_pos n) U7 hB hs fun m a b c=>?_)⟩));dsimp only;rw[if_neg (d7 0)];exact HB hL hd hn (Zg (Nat.succ_pos n) a) b hB c h
theorem HF{st:SortSt}{C1:Nat}{Q:Option Nat->SortSt->Prop}(hL:ib vv w A E s a0 key)(hd:fy key a0)(hn:C1<=a0.size)(h1:1<=C1)(hB:SBase a0 st)
  (h:∀m t5,SBase a0 t5->1<=m->m<=C1->Up key (arrOf t5) m->Q (some m) t5):wpS (YG vv w) A E s (countRun' 0 C1) Q st:=by
 rw[countRun0_eq];refine wpS_bind (zE hL hd hn (YR _) h1 hB Up.one fun n a b c e=>?_);dsimp only;by_cases U7:n=C1
 ·rw[if_pos (beq_iff_eq.mpr U7)];exact wpS_pure (h n st hB a b c)
 ·rw[if_neg fun q=>U7 (beq_iff_eq.mp q)];have C5:=e.resolve_left U7;have U8:=o6 (Nat.lt_of_le_of_ne b U7) hn;by_cases ė:n > 1
  ·rw[if_pos ė];have h0:=Nat.sub_lt (o6 Nat.one_pos a) Nat.one_pos;refine wpS_bind (mz hL hB (o0 (YD _) U8) (Nat.lt_trans h0 U8) ?_);rw[decide_eq_true (c 0 (n-1) (Nat.sub_pos_of_lt ė) h0)];exact wpS_pure (h n st hB a b c)
  ·rw[if_neg ė];have q:=Nat.le_antisymm (Nat.not_lt.mp ė) a;subst q;exact HD hL hd hn (Nat.lt_of_le_of_ne b U7) hB (I8.more (fun i j h1 h2=>absurd h1 (Nat.lt_one_iff.mp h2▸Nat.not_lt_zero i)) C5) h
def N4(key:Keyed->Nat)(a0:Array Keyed)(st:SortSt):Prop:=(arrOf st).Perm a0/\failedOf st=none/\pendingOf st=#[(0,a0.size,0)]/\Up key (arrOf st) a0.size
theorem N4.of{st:SortSt}(hB:SBase a0 st)(hs:Up key (arrOf st) a0.size):N4 key a0 (setPending st ((pendingOf st).push (0,a0.size,0))):=⟨hB.perm,hB.failed,by
 show (pendingOf st).push (0,a0.size,0)=_;rw[hB.pend];rfl,hs⟩
theorem OH(h2:2<=n)(h64:n<64):minRun' n n 0=n:=by
 cases n with
 |zero=>omega
 |succ f=>rw[minRun'_succ,if_pos h64]
theorem HC{st:SortSt}{Q:Unit->SortSt->Prop}(hL:ib vv w A E s a0 key)(hd:fy key a0)(hB:SBase a0 st)(h2:2<=a0.size)(h64:a0.size<64)
  (h:∀t5,(arrOf t5).Perm a0->failedOf t5=none->Up key (arrOf t5) a0.size->Q () t5):wpS (YG vv w) A E s sortRuns' Q st:=by
 rw[sortRuns'_eq];refine wpS_bind (wpS_get ?_);rw[hB.size];dsimp only;rw[OH h2 h64];refine wpS_bind (wpS_mono (wpS_forRange (Q:=fun c t5=>c=(none,a0.size)/\N4 key a0 t5)
  (fun x c t5=>(c=(none,0)/\x=0/\SBase a0 t5)∨(c=(none,a0.size)/\1<=x/\N4 key a0 t5)) ?_ ?_ (.inl ⟨rfl,rfl,hB⟩)) ?_)
 ·rintro x c t5 _ hx (⟨rfl,rfl,V4⟩ |⟨rfl,hx1,hO⟩)
  ·dsimp only;rw[if_neg (Nat.not_le.mpr (o6 (by decide) h2)),Nat.sub_zero,Nat.min_self];refine wpS_bind (HF hL hd (YR _) (Zg (by decide) h2) V4 fun m aS ā m1 m2 Q8=>?_);dsimp only;by_cases C5:m<a0.size
   ·rw[if_pos C5];refine wpS_bind (wpS_lift (ZM ⟨rfl,wpS_bind (HG hL hd (YR _) m1 m2 ā Q8 fun aw hB2 U5=>?_)⟩));rw[if_neg (by decide)];refine wpS_bind (wpS_get ?_);rw[show (pendingOf aw).back?=none from by rw[hB2.pend];rfl];exact wpS_bind (wpS_modify (wpS_pure (.inr ⟨congrArg (Prod.mk none) (r0 _),Nat.succ_pos _,.of hB2 U5⟩)))
   ·rw[if_neg C5]
    have:m=a0.size:=Nat.le_antisymm m2 (Nat.not_lt.mp C5);subst this;refine wpS_bind (wpS_get ?_);rw[show (pendingOf aS).back?=none from by rw[ā.pend];rfl];exact wpS_bind (wpS_modify (wpS_pure (.inr ⟨congrArg (Prod.mk none) (r0 _),Nat.succ_pos _,.of ā Q8⟩)))
  ·dsimp only;rw[if_pos (YR _)];exact wpS_pure ⟨rfl,hO⟩
 ·rintro c t5 (⟨_,hx,_⟩ |⟨hc,_,hO⟩)
  ·exact absurd ((Nat.max_eq_right (YD _)).symm.trans hx▸h2) (by decide)
  ·exact⟨hc,hO⟩
 ·intro c t5 Y3;refine aL Y3 fun Κ hO=>?_;clear Y3;subst Κ;dsimp only;refine wpS_bind (wpS_mono (wpS_forRange (Q:=fun c A3=>c=(none,())/\A3=t5) (fun O c A3=>c=(none,())/\A3=t5) ?_ (fun O O q=>q) ⟨rfl,rfl⟩) ?_)
  ·intro x c A3 _ _ Y6;refine aL Y6 fun Y61 Y62=>?_;clear Y6;subst Y61;subst Y62;refine wpS_bind (wpS_get ?_);rw[if_pos (by rw[hO.2.2.1];exact YR 1)];exact wpS_pure ⟨rfl,rfl⟩
  ·intro c A3 Y3;refine aL Y3 fun Κ Y32=>?_;clear Y3;subst Κ;subst Y32;exact wpS_pure (h _ hO.1 hO.2.1 hO.2.2.2)
end
end
section
open PySem PySem.W PyProof.Rows
structure E_ (vv:YA) (w:YH) (K:Frag) (C:YV):Prop where
 lt:Zm K ⟨vv,w.params⟩ (ZJ (.ref C) "__lt__")=some (some (.builtin "tuple.__lt__"))
 sub:Zm K ⟨vv,w.params⟩ (l4 (.ref C) (.type "tuple"))=some true
theorem Io(x y:Value):Builtin.«tuple.__lt__» ⟨[x,y],[]⟩=(do
  if !(← isInstance y (.type "tuple")) then return ← ret .notImplemented
  let xs ← Builtin.Tuple.tupleItemsOf x
  let ys ← Builtin.Tuple.tupleItemsOf y
  for (p,q) in xs.toList.zip ys.toList do
   if !(← eqBool p q) then
    rule "tuple.compare.by-the-first-pair-that-differs";return ← ret (← richCompare .Lt p q)
  ret (Builtin.Tuple.tupleCompareSizes .Lt xs.size ys.size)):=rfl
section
variable{K:Frag}
theorem Pf{b e:YV}{i j k i' j' k':Int}{t1 t2 t3 u1 u2 u3:Tok}{m:Nat}{Q:Bool->Yo->Prop}(ok:E_ vv w K C)(X:K.In s.heap)(hu:A.units<cLine)
  (ha:s.heap.get? a=some {cls:=.ref C,dict:=some d,data:=.seq #[.int i t1,.int j t2,.int k t3] n})
  (hb:s.heap.get? b=some {cls:=.ref C,dict:=some e,data:=.seq #[.int i' u1,.int j' u2,.int k' u3] m})
  (C8:i=i'->j=j'/\k=k') (hQ:Q (decide (i<i')) s):YJ (YG vv w) A (oneLt' true (.ref a) (.ref b)) Q E s:=by
 have tl:Looks (YG vv w) s.heap (typeOf (.ref a)) (.ref C):=(Looks.ld ha).andThen .now;have tb:Looks (YG vv w) s.heap (typeOf (.ref b)) (.ref C):=(Looks.ld hb).andThen .now;have hc:YJ (YG vv w) A (call (.builtin "tuple.__lt__") [.ref a,.ref b]) (fun v s'=>v=.bool (decide (i<i'))/\s'=s) (fun O O=>False) s:=by
  refine f9 (d3 F.slot_tuple_lt.plain F.entry_tuple_lt (check_slot (i := "tuple.__lt__") (owner := "tuple") (n := "__lt__") (by decide +kernel) (by decide +kernel) (tl.andThen (k8 X ok.sub)) (F.args_tuple_lt_2 _ _) ?_));rw[Io];refine Yh ?_;unfold isInstance;refine Yh (tb.here (cZ X ok.sub ?_));refine Zw rfl ?_;refine Yh (wpAny_tupleItemsOf ha rfl (Yh (wpAny_tupleItemsOf hb rfl ?_)));dsimp only[g8,List.zip_nil_right,List.forIn_cons,List.forIn_nil];refine Yh (Yh (Yh (wpAny_eqBool_int ?_)));by_cases q:i=i'
  ·refine aL (C8 q) fun O1 O2=>?_;subst O1;subst O2;subst q;simp only[beq_self_eq_true,Bool.not_true,Za,if_false];refine Yj ?_;dsimp only;refine Yh (Yh (wpAny_eqBool_int ?_));simp only[beq_self_eq_true,Bool.not_true,Za,if_false];refine Yj ?_;dsimp only;refine Yh (Yh (wpAny_eqBool_int ?_));simp only[beq_self_eq_true,Bool.not_true,Za,if_false];refine Yj ?_;dsimp only;refine Yj (Yj ⟨?_,rfl⟩);rw[decide_eq_false ⋯];rfl
  ·have hq:(i==i')=false:=beq_eq_false_iff_ne.mpr q;simp only[hq,Bool.not_false,if_true];refine Yh (ZM (Yh (PyProof.Rows.lt_int ?_)));exact Yh (Yj (Yj (Yj (Yj ⟨rfl,rfl⟩))))
 rw[oneLt'_eq];dsimp only[if_true];refine Yh (wpAny_cRoomFor hu ?_);dsimp only[callSpecialIfBound?,bindSpecialIfBound?];refine Yh (Yw (Yh ?_));unfold specialOf;refine Yh (Yh (tl.here (cZ X ok.lt ?_)));dsimp only[F.slot_tuple_lt.bind];refine Yh (wpAny_askSetting (wpAny_ite ?_));split
 ·refine Yh (Yj (Yj ?_));refine Yh (Zk hc (fun v s' h'=>?_) fun O O h'=>h'.elim);refine aL h' fun O1 O2=>?_;clear h';subst O1;subst O2;exact Yj (wpAny_truthy_bool hQ)
 ·refine wpAny_tryCatch (Yh (Yj (Yj ?_)));refine Yh (Zk hc (fun v s' h'=>?_) fun O O h'=>h'.elim);refine aL h' fun O1 O2=>?_;clear h';subst O1;subst O2;exact Yj (wpAny_truthy_bool hQ)
end
end
section
open PySem PySem.W PyProof.Rows
section
variable{key:Keyed->Nat}
def mo(a:YV)(h h':Heap):Prop:=∀b o,b≠a->h.get? b=some o->h'.get? b=some o
theorem Jd{h:Heap}{out:Array Value}:mo a h (sortedHeap h a vs out):=fun b o hb e=>by
 unfold sortedHeap;rw[Heap.get?_update_ne _ _ _ _ hb];refine Yt _ (Yt _ ?_);rw[Heap.get?_update_ne _ _ _ _ hb];exact e
theorem PJ{P:PySem.Fin->Yo->Prop}(ho:s.heap.get? a=some (seqObj "list" vs.toArray n))(hsz:vs.length<64)(hd:fy key (pairsOf vs))
  (hL:∀h',mo a s.heap h'->ib vv w A E {s with heap:=h' } (pairsOf vs) key)
  (hK:∀h',mo a s.heap h'->2<=vs.length->∀Q:SortKind->Yo->Prop,Q oneType' { s with heap:=h' }->YJ (YG vv w) A (keyKind' vs.toArray) Q E {s with heap:=h' })
  (h:∀out:Array Keyed,out.Perm (pairsOf vs)->Up key out (pairsOf vs).size->P (.done (.ret .none)) {s with heap:=sortedHeap s.heap a vs (out.map (·.2))}) :
  YJ (YG vv w) A (Builtin.«list.sort» ⟨[.ref a],[]⟩) P E s:=by
 have C5:=Zj ho;have c_:(pairsOf vs).size=vs.length:=pairsOf_size vs;rw[list_sort_plain];refine Yh (listItems_at ho rfl (Yh (listUpdate_at ho rfl ?_ (by rw[List.size_toArray,ZD];omega) (YD _))));obtain⟨e,he⟩:∃e,(s.heap.update a (Zi fun O=>(#[]:Array Value))).get? a=some (seqObj "list" #[] e):=⟨_,get?_update_seq ho _⟩;refine Yh (seqEpoch_at he rfl (Yh (wpAny_newTuple (Yh (wpAny_newList (Yw ?_) (YD _))) (by show vs.length<=_;rw[ZD];omega))));have hk:mo a s.heap (((s.heap.update a (Zi fun O=>(#[]:Array Value))).push (seqObj "tuple" vs.toArray 0)).push (seqObj "list" #[] 0)):=fun b o hb q=>by
  refine Yt _ (Yt _ ?_);exact(Eq.symm (Heap.get?_update_ne _ _ _ _ hb))▸q
 have ě:(((s.heap.update a (Zi fun O=>(#[]:Array Value))).push (seqObj "tuple" vs.toArray 0)).push (seqObj "list" #[] 0)).get? a=some (seqObj "list" #[] e):=Yt _ (Yt _ he);show YJ (YG vv w) A _ P E {s with heap:=((s.heap.update a (Zi fun O=>(#[]:Array Value))).push (seqObj "tuple" vs.toArray 0)).push (seqObj "list" #[] 0)};have fin:∀t5:SortSt,failedOf t5=none->(arrOf t5).Perm (pairsOf vs)->Up key (arrOf t5) (pairsOf vs).size ->
   YJ (YG vv w) A (do
    let N_:=(← seqEpoch a) != e
    Builtin.List.listUpdate (.ref a) fun O=>(arrOf t5).map (·.2)
    if let some x:=failedOf t5 then rule "list.sort.comparison-raised";throw x
    if N_ then rule "list.sort.modified";raiseError "ValueError" "list modified during sort"
    ret .none) P E {s with heap:=((s.heap.update a (Zi fun O=>(#[]:Array Value))).push (seqObj "tuple" vs.toArray 0)).push (seqObj "list" #[] 0)}:=fun t5 hf hp hu=>by
  refine Yh (seqEpoch_at ě rfl (Yh (listUpdate_at ě rfl ?_ (YD _) (by rw[Array.size_map,hp.size_eq,c_,ZD];omega))));rw[hf];simp only[bne_self_eq_false,Za,if_false];exact Yj (h _ hp hu)
 dsimp only at fin ⊢;by_cases h2:vs.length<2
 ·have Θ:vs.toArray.size<2:=by exact(Eq.symm (List.size_toArray))▸h2
  rw[if_pos Θ,if_pos Θ];refine Yh (Yj ?_);rw[StateT.run_pure];exact Yh (Yj (fin (SortSt.mk' general' (pairsOf vs) #[] 7 none) rfl (Array.Perm.refl _) fun i j G8 hj=>by omega))
 ·have Θ : ¬ vs.toArray.size<2:=by exact(Eq.symm (List.size_toArray))▸h2
  rw[if_neg Θ,if_neg Θ];refine Yh (hK _ hk ⋯ _ ?_);refine Yh (Zk (HC (st:=SortSt.mk' oneType' (pairsOf vs) #[] 7 none) (Q:=fun O t5=>failedOf t5=none/\(arrOf t5).Perm (pairsOf vs)/\Up key (arrOf t5) (pairsOf vs).size)
   (hL _ hk) hd ⟨Array.Perm.refl _,rfl,rfl,rfl⟩ ⋯ ⋯ fun t5 a1 a2 a3=>⟨a2,a1,a3⟩) ?_ fun O O q=>q)
  intro Y1;obtain⟨⟨⟩,t5⟩:=Y1;intro s' Y3;refine tZ Y3 fun Κ hf hp hu=>?_;clear Y3;subst Κ;exact fin t5 hf hp hu
end
theorem vJ(vs:List Value):(pairsOf vs).toList=vs.map fun v=>(v,v):=by
 rw[pairsOf_toList];induction vs with
 |nil=>rfl
 |cons v vs ih=>rw[g8,Yu,ih]
theorem Vals.mem(h:Vals Z xs vs):∀v∈vs,∃x∈xs,Val Z x v :=
 h.ind (P:=fun xs vs=>∀v∈vs,∃x∈xs,Val Z x v) aG fun h O t v hv=>(Yp.mp hv).elim (fun e=>bQ _ (Yi ..) (e▸h)) fun hv=>ae (t v hv) fun x hx q=>bQ x (Yk _ hx) q
theorem Vals.mapcons{f:α->AV}{x:Value}{ts:List α}(h:Vals Z (ts.map f) (x::vs)):∃t ts',ts=t::ts'/\Val Z (f t) x/\Vals Z (ts'.map f) vs:=by
 cases ts with
 |nil=>exact nomatch h.inv
 |cons t ts=>exact bw h.inv fun y ys e h1 h2=>tQ t ts rfl ((c9 e).1▸h1) ((c9 e).2▸h2)
theorem Vals.perm{f:α->AV}{us:List Value}(p:vs.Perm us):∀ {ts:List α},Vals Z (ts.map f) vs->∃rs:List α,rs.Perm ts/\Vals Z (rs.map f) us:=by
 induction p with
 |nil=>exact fun h=>bQ _ (.refl _) h
 |cons x p ih=>exact fun h=>bw h.mapcons fun t ts e h1 h2=>ae (ih h2) fun rs pr hr=>bQ (t::rs) (e▸pr.cons _) (.cons h1 hr)
 |swap x y l=>exact fun h=>bw h.mapcons fun t ts e h1 h2=>bw h2.mapcons fun r rs e' h3 h4=>bQ (r::t::rs) (e▸e'▸.swap ..) (.cons h3 (.cons h1 h4))
 |trans p q ih1 ih2=>exact fun h=>ae (ih1 h) fun rs pr hr=>ae (ih2 hr) fun qs pq hq=>bQ qs (pq.trans pr) hq
theorem RY{ts:List ab}(hn:(ts.map (·.1)).Nodup):∀ {t r:ab},t∈ts->r∈ts->t.1=r.1->t=r:=by
 induction ts with
 |nil=>intro t r ht;cases ht
 |cons x xs ih =>
  intro t r ht hr e;rw[Yu,YC] at hn;rcases Yp.mp ht with rfl |ht' <;> rcases Yp.mp hr with rfl |hr'
  ·rfl
  ·exact absurd (e▸YF hr') hn.1
  ·exact absurd (e▸YF ht') hn.1
  ·exact ih hn.2 ht' hr' e
noncomputable def ev(C:YV)(t:ab):AV:=.mat C [.int t.1,.int t.2.1,.int t.2.2]
noncomputable def fG(Z:u6)(p:Keyed):Nat:=match p.1 with
 |.ref x=>match Z x with
  |some o=>match o.data with
   |Data.seq items _=>match items[0]? with
    |some (Value.int i _)=>i.toNat
    |_=>0
   |_=>0
  |none=>0
 |_=>0
theorem XX{α0:Sort _}{α1:Sort _}{α2:Sort _}{p0:α0->α1->α2->Prop}(h:∃a0 a1 a2,p0 a0 a1 a2)(c:∀a0 a1 a2,p0 a0 a1 a2->P):P:=h.elim fun a0 h=>h.elim fun a1 h=>h.elim fun a2 h=>c a0 a1 a2 h
theorem Vals.int3{i j k:Int}(vs:List Value)(h:Vals Z [.int i,.int j,.int k] vs):∃t1 t2 t3,vs=[.int i t1,.int j t2,.int k t3] :=
 Vals.un (P:=fun vs=>∃t1 t2 t3,vs=[.int i t1,.int j t2,.int k t3]) (Val.eInt fun t1=>Vals.un (Val.eInt fun t2=>Vals.un (Val.eInt fun t3=>Vals.un0 ⟨t1,t2,t3,rfl⟩))) vs h
theorem sS{t:ab}{v:Value}(h:Val Z (ev C t) v):∃a d n t1 t2 t3,v=.ref a/\Z a=some {cls:=.ref C,dict:=some d,data:=.seq #[.int t.1 t1,.int t.2.1 t2,.int t.2.2 t3] n} :=
 ed (tp h) fun a d items n qv e hv=>XX (Vals.int3 items hv) fun t1 t2 t3 q=>⟨a,d,n,t1,t2,t3,qv,q▸e⟩
theorem yj{t:ab}{v u:Value}(h:Val Z (ev C t) v):fG Z (v,u)=t.1:=by
 refine tX (sS h) fun a d n t1 t2 t3 O7 e=>?_;subst O7;unfold fG;dsimp only;rw[e];rfl
theorem Ep(rs:List ab):∀ul:List Value,Vals Z (rs.map (ev C)) ul->ul.map (fun v=>fG Z (v,v))=rs.map (·.1):=by
 induction rs with
 |nil=>exact fun ul h=>Vals.un0 (P:=fun ul=>ul.map (fun v=>fG Z (v,v))=[]) rfl ul h
 |cons r rs ih=>exact fun ul h=>Vals.un (P:=fun ul=>ul.map (fun v=>fG Z (v,v))=r.1::rs.map (·.1)) (fun x h1 ys h2=>congr (congrArg List.cons (yj h1)) (ih ys h2)) ul h
theorem vK{ts:List ab}{vl:List Value}(vs:Vals Z (ts.map (ev C)) vl){p:Keyed}(hp:p∈(pairsOf vl).toList):∃v t,p=(v,v)/\t∈ts/\Val Z (ev C t) v:=by
 rw[vJ vl] at hp;exact ae (YM.mp hp) fun v hv e=>ae (vs.mem v hv) fun x hx q=>ae (YM.mp hx) fun t ht e'=>tQ v t e.symm ht (e'▸q)
theorem Ny{ts:List ab}{vl:List Value}(vs:Vals Z (ts.map (ev C)) vl)(hn:(ts.map (·.1)).Nodup):fy (fG Z) (pairsOf vl):=by
 rw[Gl,vJ,ZR];exact Ep ts vl vs▸hn
theorem Je{ts us:List ab}{vl:List Value}{out:Array Keyed}(vs:Vals Z (ts.map (ev C)) vl)(hp:us.Perm ts)(hs:us.Pairwise fun s t=>s.1<t.1)(U6:out.Perm (pairsOf vl))(hup:Up (fG Z) out (pairsOf vl).size) :
  Vals Z (us.map (ev C)) (out.map (·.2)).toList:=by
 have hl:=f8.mp U6;have e1:(pairsOf vl).toList.map (·.2)=vl:=by rw[vJ,ZR];exact List.map_id vl
 have e2:(out.map (·.2)).toList=out.toList.map (·.2):=Array.toList_map;have e3:(out.toList.map (·.2)).map (fun v=>fG Z (v,v))=out.toList.map (fG Z):=by
  rw[ZR];exact d6 fun p hp'=>bw (vK vs (hl.mem_iff.mp hp')) fun v t e O O=>e▸rfl
 rw[e2];refine ae (Vals.perm (f:=ev C) (e1▸hl.map (fun p:Keyed=>p.2)).symm vs) fun rs pr hr=>?_;have hk:=(Ep rs _ hr).symm.trans e3;have hr':rs.Pairwise fun s t=>s.1<t.1:=by
  refine(List.pairwise_map (f:=fun t:ab=>t.1) (R:=(· < ·))).mp (hk▸(List.pairwise_map (f:=fG Z) (R:=(· < ·))).mpr (List.pairwise_iff_getElem.mpr fun i j hi hj G8=>?_));have q:=hup i j G8 (U6.size_eq▸hj);unfold aX at q;rw[getElem?_pos out i hi,getElem?_pos out j hj] at q;exact q
 exact List.Perm.eq_of_pairwise (le:=fun s t:ab=>s.1<t.1) (fun a b O O h1 h2=>absurd h1 (Nat.lt_asymm h2)) hr' hs (pr.trans hp.symm)▸hr
section
variable{K:Frag}
theorem WG{ts us:List ab}{led led':aa}(ok:E_ vv w K C)(hA:w0 A (k+10))(hp:us.Perm ts)(hs:us.Pairwise fun s t=>s.1<t.1)(hsz:ts.length<64)
  (U:Upd a (.list (ts.map (ev C))) (.list (us.map (ev C))) led led') (h:R .none ⟨loc,led'⟩):FC vv w A (ap K) s9 (.blt "list.sort") [.ref a] [] ⟨loc,led⟩ R:=FC.b fun s Z S Q E hQ=>Vals.un <| Val.eRef <| Vals.un0 <| by
 refine bK (S.own _ U.mem) fun arr n g vs=>?_;dsimp only at g;have hn:(ts.map (·.1)).Nodup:=by
  have:(us.map (·.1)).Nodup:=by
   rw[List.nodup_iff_pairwise_ne,List.pairwise_map];exact hs.imp fun h=>ZE h
  exact(hp.map _).nodup_iff.mp this
 generalize hvs:arr.toList=vl at vs;have harr:arr=vl.toArray:=by rw[← hvs]
 subst harr;have hvl:vl.length=ts.length:=vs.length.trans (Yl _);have haZ:Z a=none:=S.apart _ U.mem;have m_:∀h',mo a s.heap h'->∀b o,Z b=some o->h'.get? b=some o:=fun h' hk b o e=>hk b o (fun q=>by rw[q,haZ] at e;cases e) (S.frozen b o e);refine Zf slot_list_sort ⟨_,g,rfl⟩ entry_list_sort (PJ (key:=fG Z) g (hvl▸hsz) ?_ ?_ ?_ ?_) (args_list_sort _)
 ·exact Ny vs hn
 ·intro h' hk x hx y hy Q' st hkd hq;refine bw (vK vs hx) fun v t O3 ht hv=>?_;subst O3;refine bw (vK vs hy) fun u r O3 hr hu=>?_;subst O3;rw[yj hv,yj hu] at hq;refine tX (sS hv) fun a1 d1 n1 q1 q2 q3 O7 e1=>?_;subst O7;refine tX (sS hu) fun a2 d2 n2 p1 p2 p3 O7 e2=>?_;subst O7;rw[lt'_eq];refine wpS_bind (wpS_get ?_);dsimp only;rw[hkd,keyLt'_oneType];refine wpS_bind (wpS_lift (f2 (Pf ok (dA S.base (m_ h' hk)) ?_ (m_ h' hk _ _ e1) (m_ h' hk _ _ e2) (fun q=>?_) ⟨rfl,?_⟩)))
  ·have:=hA.u;show A.units+1<cLine;omega
  ·have:t=r:=RY hn ht hr (Int.ofNat.inj q);subst this;exact⟨rfl,rfl⟩
  ·have e:decide ((t.1:Int)<(r.1:Int))=decide (t.1<r.1):=decide_eq_decide.mpr Int.ofNat_lt;exact(Eq.symm (e))▸wpS_pure hq
 ·intro h' hk h2 Q' hq;refine kas_kind (T:=.ref C) h2 (fun v hv=>?_) rfl (by simp) hq;exact ae (vs.mem v hv) fun x hx q=>ae (YM.mp hx) fun t ht O3=>by
   subst O3;exact tX (sS q) fun a1 d1 n1 q1 q2 q3 O7 e1=>by subst O7;exact(Looks.ld (m_ h' hk _ _ e1)).andThen .now
 ·intro out U6 hup;have hr:=Je vs hp hs U6 hup;have G9:∃n',(sortedHeap s.heap a vl (out.map (·.2))).get? a=some {cls:=.type "list",data:=.seq (out.map (·.2)) n' }:=by
   obtain⟨e,he⟩:∃e,(s.heap.update a (Zi fun O=>(#[]:Array Value))).get? a=some (seqObj "list" #[] e):=⟨_,get?_update_seq g _⟩;exact⟨_,get?_update_seq (Yt _ (Yt _ he)) _⟩
  refine aq G9 ?_;clear G9;intro n' G9;have hkp:mo a s.heap (sortedHeap s.heap a vl (out.map (·.2))):=Jd;generalize sortedHeap s.heap a vl (out.map (·.2))=h' at G9 hkp ⊢;generalize out.map (·.2)=ov at G9 hr;have hh:Holds Z {s with heap:=h',toks:=s.toks} a (.list (us.map (ev C))):=⟨ov,n',G9,hr⟩;have P:=S.tot8.upd U (h':=h') (tk:=s.toks) hkp rfl rfl hh;exact bQ _ rfl (hQ .none .none _ Z ⟨loc,led'⟩ h (S.after P.1 P.2) .none P.2.toF)
end
end
noncomputable abbrev cB(t:ab):AV:=ev 135 t
theorem Ph(w:YH):E_ ak w (KB w.params) 135:=⟨@_,@_⟩
theorem WF{ts us:List ab}{led led':aa}(hA:w0 A (k+10))(hp:us.Perm ts)(hs:us.Pairwise fun s t=>s.1<t.1)(hsz:ts.length<64)
  (U:Upd a (.list (ts.map cB)) (.list (us.map cB)) led led') (h:K .none ⟨loc,led'⟩):FC ak w A (al w) s9 (.blt "list.sort") [.ref a] [] ⟨loc,led⟩ K:=WG (Ph w) hA hp hs hsz U h
section
noncomputable abbrev iV(q:dp):AV:=.tup [.int (q.1:Nat),.int (q.2.1:Nat),.int (q.2.2.1:Nat),.int (q.2.2.2:Nat)]
noncomputable abbrev gK(t:ab):AV:=.mat 135 [.int (t.1:Nat),.int (t.2.1:Nat),.int (t.2.2:Nat)]
noncomputable abbrev uH(t:ab):AV:=.tup [.int (t.1:Nat),.int (t.2.1:Nat),.int (t.2.2:Nat)]
structure T8 (fl:Nat->Nat->Nat->Nat->ab) (la lb:Nat) (xs ws:List AV) (n:Nat):Prop where
 run:∃(ms:List ab) (qs:List dp),xs=ms.map gK/\ws=qs.map iV/\eS qs<=n/\n<=2 * la+1/\(∀q∈qs,yU la lb q)/\(ms++qs.flatMap (bf fl)).Perm (bf fl (0,la,0,lb))
structure C_ (fl:Nat->Nat->Nat->Nat->ab) (la lb:Nat) (xs ws:List AV) (q:dp) (n:Nat):Prop where
 w:yU la lb q
 run:∃(ms:List ab) (qs:List dp),xs=ms.map gK/\ws=qs.map iV/\eS qs+(2 * (q.2.1-q.1)+1)<=n/\n<=2 * la+1/\(∀q∈qs,yU la lb q)/\((ms++qs.flatMap (bf fl))++bf fl q).Perm (bf fl (0,la,0,lb))
variable{fl:Nat->Nat->Nat->Nat->ab}{la lb n:Nat}{xs ws:List AV}{q:dp}
theorem T8.start:T8 fl la lb [] [.tup [.int 0,.int la,.int 0,.int lb]] (2 * la+1) :=
 ⟨[],[(0,la,0,lb)],rfl,rfl,YR _,YR _,fun q hq=>by rw[YB.mp hq];exact⟨YD _,YR _,YD _,YR _⟩,by rw[o7,List.flatMap_nil,Zv];exact List.Perm.refl _⟩
theorem T8.room(h:T8 fl la lb xs ws n):ws.length<=2 * la+1:=by
 refine Ho h.run fun ms qs O3 O4 h1 h2 O7=>?_;clear O3;subst O4;clear O7;rw[Yl];exact Zg (Bk qs) (Zg h1 h2)
theorem T8.pop(h:T8 fl la lb xs ws n)(c:(!ws.isEmpty)=true):∃μ q,ws=μ++[iV q]/\C_ fl la lb xs μ q n:=by
 refine my h.run fun ms qs O3 O4 h1 h2 h3 h4=>?_;subst O3;subst O4;rcases n5 qs with rfl |⟨qs',q,rfl⟩
 ·cases c
 rw[n6] at *;rw[KZ] at h1;refine⟨qs'.map iV,q,by rw[YK];rfl,h3 q (YQ _ (List.mem_singleton_self _)),ms,qs',rfl,rfl,h1,h2,fun q hq=>h3 q (Zq _ hq),?_⟩;rw[o9,← YN,o7,List.flatMap_nil,Zv] at h4;exact h4
theorem T8.done(h:T8 fl la lb xs ws n)(c:(!ws.isEmpty)=false):ws=[]/\∃ms:List ab,xs=ms.map gK/\(bf fl (0,la,0,lb)).Perm ms:=by
 refine my h.run fun ms qs O3 O4 O5 O6 O7 h4=>?_;subst O3;subst O4;clear O5;clear O6;clear O7;cases qs with
 |nil=>rw[List.flatMap_nil,Zv] at h4;exact⟨rfl,ms,rfl,h4.symm⟩
 |cons q qs=>cases c
theorem C_.room(ok:cQ fl)(h:C_ fl la lb xs ws q n):ws.length<=2 * la/\xs.length<=la:=by
 refine my h.run fun ms qs O3 O4 h1 h2 O7 h4=>?_;subst O3;subst O4;clear O7;have e:=h4.length_eq;have f:(cE fl (la-0) 0 la 0 lb).length<=la-0:=yd ok (la-0) 0 la 0 lb (YD _) (YD _);have g:=Bk qs;rw[Yr,Yr] at e;rw[Yl,Yl];exact⟨Nat.le_of_succ_le_succ (Zg (p8 (Zg g (n9 _ _))) (Zg h1 h2)),Zg (Zg (n9 _ _) (n9 _ _)) (Zg (o5 e) f)⟩
theorem DV{a b:Nat}(h:a+(b+1)<=n):n-1<n:=Nat.sub_one_lt (Nat.ne_of_gt (o6 (Nat.succ_pos _) h))
theorem PN{a b:Nat}(h:a+(b+1)<=n):a<=n-1:=Nat.le_sub_one_of_lt (o0 (n9 _ b) h)
theorem C_.zero(h:C_ fl la lb xs ws q n)(c:(((fl q.1 q.2.1 q.2.2.1 q.2.2.2).2.2:Nat):Int)=0):n-1<n/\T8 fl la lb xs ws (n-1):=by
 refine my h.run fun ms qs O3 O4 h1 h2 h3 h4=>?_;subst O3;subst O4;rw[DQ (Int.ofNat_eq_zero.mp c),Zv] at h4;exact⟨DV h1,ms,qs,rfl,rfl,PN h1,Zg (r7 ..) h2,h3,h4⟩
noncomputable def fX(q:dp)(r:ab):List AV:=if q.1<r.1/\q.2.2.1<r.2.1 then [iV (q.1,r.1,q.2.2.1,r.2.1)] else []
noncomputable def kr(q:dp)(r:ab):List AV:=if r.1+r.2.2<q.2.1/\r.2.1+r.2.2<q.2.2.2 then [iV (r.1+r.2.2,q.2.1,r.2.1+r.2.2,q.2.2.2)] else []
variable{r:ab}
theorem HP(c1:(q.1:Int)<r.1)(c2:(q.2.2.1:Int)<r.2.1):fX q r=[iV (q.1,r.1,q.2.2.1,r.2.1)]:=if_pos ⟨Int.ofNat_lt.mp c1,Int.ofNat_lt.mp c2⟩
theorem HT(c1 : ¬ (q.1:Int)<r.1):fX q r=[]:=if_neg fun h=>c1 (Int.ofNat_lt.mpr h.1)
theorem HS(c1 : ¬ (q.2.2.1:Int)<r.2.1):fX q r=[]:=if_neg fun h=>c1 (Int.ofNat_lt.mpr h.2)
theorem HM(c1:((r.1:Nat):Int)+(r.2.2:Nat)<(q.2.1:Nat))(c2:((r.2.1:Nat):Int)+(r.2.2:Nat)<(q.2.2.2:Nat)):kr q r=[.tup [.int ((r.1:Nat)+(r.2.2:Nat)),.int (q.2.1:Nat),.int ((r.2.1:Nat)+(r.2.2:Nat)),.int (q.2.2.2:Nat)]] :=
 if_pos ⟨Int.ofNat_lt.mp c1,Int.ofNat_lt.mp c2⟩
theorem HO(c1 : ¬ ((r.1:Nat):Int)+(r.2.2:Nat)<(q.2.1:Nat)):kr q r=[]:=if_neg fun h=>c1 (Int.ofNat_lt.mpr h.1)
theorem HN(c1 : ¬ ((r.2.1:Nat):Int)+(r.2.2:Nat)<(q.2.2.2:Nat)):kr q r=[]:=if_neg fun h=>c1 (Int.ofNat_lt.mpr h.2)
theorem HU:(fX q r).length<=1:=by unfold fX;split <;> exact ZB rfl
theorem EB{c:Prop}[Decidable c](f:α->β)(x:α):(if c then [x] else []).map f=if c then [f x] else []:=by split <;> rfl
theorem Bl{c:Prop}[Decidable c](q:dp):eS (if c then [q] else [])<=2 * (q.2.1-q.1)+1:=by
 split
 ·exact YR _
 ·exact YD _
theorem Jy{S X Y a b c:Nat}(h:S+(2 * (b-a)+1)<=n)(hx:X<=2 * (c-a)+1)(hy:Y<=2 * (b-(c+k))+1)(h1:a<=c)(h2:c+k<=b)(hk:k≠0):S+X+Y<=n-1:=by
 obtain⟨d,rfl⟩:=Nat.le.dest h1;obtain⟨e,rfl⟩:=Nat.le.dest h2;rw[o8] at hx hy;rw[p6,p6,o8] at h;refine Nat.le_sub_one_of_lt (o0 ?_ h);rw[p6];refine p5 (Zg (r8 hx hy) ?_) S;rw[Nat.add_add_add_comm,← Nat.mul_add];exact Nat.mul_le_mul_left 2 (p5 (Nat.add_comm k e▸p5 (Nat.pos_of_ne_zero hk) e) d)
theorem C_.go(ok:cQ fl)(h:C_ fl la lb xs ws q n)(c:(((fl q.1 q.2.1 q.2.2.1 q.2.2.2).2.2:Nat):Int)≠0) :
  n-1<n/\T8 fl la lb (xs++[gK (fl q.1 q.2.1 q.2.2.1 q.2.2.2)]) (ws++fX q (fl q.1 q.2.1 q.2.2.1 q.2.2.2)++kr q (fl q.1 q.2.1 q.2.2.1 q.2.2.2)) (n-1):=by
 have hk:(fl q.1 q.2.1 q.2.2.1 q.2.2.2).2.2≠0:=fun e=>c (by rw[e];rfl);refine tZ h.w fun w1 w2 w3 w4=>?_;refine tZ (ok q.1 q.2.1 q.2.2.1 q.2.2.2 w1 w3) fun b1 b2 b3 b4=>?_;have hs:=DR (fl:=fl) ok w1 w3 hk;refine my h.run fun ms qs O3 O4 h1 h2 h3 h4=>?_;subst O3;subst O4;rw[hs] at h4;clear hs;generalize fl q.1 q.2.1 q.2.2.1 q.2.2.2=r at *;refine⟨DV h1,ms++[r],(qs++if q.1<r.1/\q.2.2.1<r.2.1 then [(q.1,r.1,q.2.2.1,r.2.1)] else [])++(if r.1+r.2.2<q.2.1/\r.2.1+r.2.2<q.2.2.2 then [(r.1+r.2.2,q.2.1,r.2.1+r.2.2,q.2.2.2)] else []),?_,?_,?_,Zg (r7 ..) h2,?_,?_⟩
 ·rw[YK];rfl
 ·rw[YK,YK,EB,EB];rfl
 ·rw[Bm,Bm];have e1:=Bl (c:=q.1<r.1/\q.2.2.1<r.2.1) (q.1,r.1,q.2.2.1,r.2.1);have e2:=Bl (c:=r.1+r.2.2<q.2.1/\r.2.1+r.2.2<q.2.2.2) (r.1+r.2.2,q.2.1,r.2.1+r.2.2,q.2.2.2);exact Jy h1 e1 e2 b1 b2 hk
 ·intro x hx;rcases Zh.mp hx with hx |hx
  ·rcases Zh.mp hx with hx |hx
   ·exact h3 x hx
   ·split at hx
    ·rw[YB.mp hx];exact⟨b1,Zg (Zg (n9 _ _) b2) w2,b3,Zg (Zg (n9 _ _) b4) w4⟩
    ·cases hx
  ·split at hx
   ·rw[YB.mp hx];exact⟨b2,w2,b4,w4⟩
   ·cases hx
 ·rw[o9,o9,Fh,Fh];exact Nt h4
theorem C_.goR(ok:cQ fl)(h:C_ fl la lb xs ws q n)(e:fl q.1 q.2.1 q.2.2.1 q.2.2.2=r)(c:((r.2.2:Nat):Int)≠0):n-1<n/\T8 fl la lb (xs++[gK r]) (ws++fX q r++kr q r) (n-1):=by
 subst e;exact h.go ok c
theorem C_.zeroR(h:C_ fl la lb xs ws q n)(e:fl q.1 q.2.1 q.2.2.1 q.2.2.2=r)(c:((r.2.2:Nat):Int)=0):n-1<n/\T8 fl la lb xs ws (n-1):=by
 subst e;exact h.zero c
structure K4 (us ts:List ab) (s:ab×List ab) (i j k:Int) (xs:List AV):Prop where
 e1:i=s.1.1
 e2:j=s.1.2.1
 e3:k=s.1.2.2
 e4:xs=s.2.map uH
 fold:ts.foldl cA s=us.foldl cA ((0,0,0),[])
 len:s.2.length+ts.length<=us.length
variable{us ts:List ab}{s:ab×List ab}{i j k:Int}{t:ab}
theorem K4.start:K4 us us ((0,0,0),[]) 0 0 0 []:=⟨rfl,rfl,rfl,rfl,rfl,o5 (r0 _)⟩
theorem K4.room(h:K4 us ts s i j k xs):xs.length<=us.length:=by
 rw[h.e4,Yl];exact Zg (n9 _ _) h.len
theorem K4.step(h:K4 us (t::ts) s i j k xs):(cA s t).2.length+ts.length<=us.length :=
 Zg (r6 (yT s t) _) (Zg (o5 (o4 ..)) h.len)
theorem K4.join(h:K4 us (t::ts) s i j k xs)(c1:i+k=(t.1:Nat))(c2:j+k=(t.2.1:Nat)):K4 us ts (cA s t) i j (k+(t.2.2:Nat)) xs:=by
 have e:cA s t=((s.1.1,s.1.2.1,s.1.2.2+t.2.2),s.2):=if_pos ⟨Int.ofNat_inj.mp (by rw[Int.natCast_add,← h.e1,← h.e3];exact c1),Int.ofNat_inj.mp (by rw[Int.natCast_add,← h.e2,← h.e3];exact c2)⟩;refine⟨?_,?_,?_,?_,h.fold,h.step⟩
 ·rw[e];exact h.e1
 ·rw[e];exact h.e2
 ·rw[e,h.e3];rfl
 ·rw[e];exact h.e4
structure Y2 (s:ab×List ab) (ys:List AV):Prop where
 e:ys=(dW s).map uH
theorem K4.put(h:K4 us ts s i j k xs)(c:k≠0):Y2 s (xs++[.tup [.int i,.int j,.int k]]):=by
 have e:dW s=s.2++[s.1]:=if_neg fun q=>c (by rw[h.e3,q];rfl);exact⟨by rw[e,YK,h.e1,h.e2,h.e3,h.e4];rfl⟩
theorem K4.skip(h:K4 us ts s i j k xs)(c:k=0):Y2 s xs:=by
 have e:dW s=s.2:=if_pos (Int.ofNat_eq_zero.mp (h.e3▸c));exact⟨by rw[e,h.e4]⟩
theorem K4.roomM(h:K4 us ts s i j k xs)(m:Y2 s ys):ys.length<=us.length+1:=by
 have:=h.len;rw[m.e,Yl];unfold dW;split
 ·omega
 ·rw[Yr,d9];omega
theorem FW{fl:Nat->Nat->Nat->Nat->ab}(la lb:Nat):(aW fl la lb).length<=(bf fl (0,la,0,lb)).length+2:=by
 have h2:∀(ts:List ab) (s:ab×List ab),(ts.foldl cA s).2.length<=s.2.length+ts.length:=by
  intro ts;induction ts with
  |nil=>intro s;exact YR _
  |cons t ts ih =>
   intro s;have h1:=ih (cA s t);have h3:=yT s t;rw[Zu,Yq];omega
 have h2:=h2 (bf fl (0,la,0,lb)) ((0,0,0),[]);unfold aW dW;rw[Yr];simp only[YI,Yq] at h2 ⊢;split
 ·omega
 ·rw[Yr,d9];omega
theorem K4.new(h:K4 us (t::ts) s i j k xs)(c : ¬ (i+k=(t.1:Nat)/\j+k=(t.2.1:Nat)))(m:Y2 s ys):K4 us ts (cA s t) (t.1:Nat) (t.2.1:Nat) (t.2.2:Nat) ys:=by
 have e:cA s t=(t,dW s):=if_neg fun q=>c ⟨by rw[h.e1,h.e3,← q.1];rfl,by rw[h.e2,h.e3,← q.2];rfl⟩;refine⟨?_,?_,?_,?_,h.fold,h.step⟩
 ·rw[e]
 ·rw[e]
 ·rw[e]
 ·rw[e];exact m.e
theorem K4.last(h:K4 (bf fl (0,la,0,lb)) [] s i j k xs)(m:Y2 s ys):ys++[.tup [.int la,.int lb,.int 0]]=(aW fl la lb).map uH:=by
 have f:s=_:=h.fold;rw[m.e,f];unfold aW;rw[YK];rfl
end
noncomputable def zX(t:ab):AV:=.tup [.int t.1,.int t.2.1,.int t.2.2]
noncomputable abbrev bN(w:YH)(d dj jk pp:YV)(a b:List Str)(mm:List (Str×AV))(vm vo:AV)(led:aa):aa:=(d,bI (jR a b dj jk pp vm vo))::(dj,aB (YT ak w) mm)::(jk,dH)::led
noncomputable abbrev be(a b:List Str):Nat->Nat->Nat->Nat->ab:=bq (am a b) (aI a b)
noncomputable abbrev sX(d:YV)(v1 v2 v3 v4 v5 v6 v7 v8 v9 M_ L_ lb la qu mb i1 j1 k1 na:AV:=.any):List (Str×AV) :=
 [(q6,.inst 242 d),(vh,v1),(vf,v2),(vd,v3),(vc,v4),(mN,v5),(qr,v6),(q1,v7),(Cr,v8),(qB,v9),(qA,M_),(Cn,L_),(Ct,lb),(Cu,la),(Cs,qu),(vk,mb),(qE,i1),(qD,j1),(Cq,k1),(Cp,na)]
section
variable(d qa ma:YV)(la lb:Nat)(rest:aa)(fl:Nat->Nat->Nat->Nat->ab)
noncomputable abbrev oK(v1 v2 v3 v4 v5 v6 v7 v8:AV:=.any):List (Str×AV):=sX d v1 v2 v3 v4 v5 v6 v7 v8 .any .any .any (.int lb) (.int la) (.ref qa) (.ref ma)
def JQ(n:Nat)(P:St->Prop):Prop:=∀xs ws,T8 fl la lb xs ws n->P ⟨oK d qa ma la lb,(ma,.list xs)::(qa,.list ws)::rest⟩
def KQ(P:St->Prop):Prop:=∀ms,(bf fl (0,la,0,lb)).Perm ms->P ⟨oK d qa ma la lb,(ma,.list (ms.map cB))::(qa,.list [])::rest⟩
variable{d qa ma la lb rest fl}
theorem KQ.of{ws:List AV}(h:T8 fl la lb xs ws n)(c:(!ws.isEmpty)=false):Nx (KQ d qa ma la lb rest fl) .next ⟨oK d qa ma la lb,(ma,.list xs)::(qa,.list ws)::rest⟩:=by
 obtain⟨rfl,ms,rfl,p⟩:=h.done c;exact .mk (fun O y=>y _ p) @_
end
section
variable(d qa na:YV)(la lb:Nat)(us:List ab)(rest:aa)
noncomputable abbrev yf(v9 M_ L_:AV)(i j k:Int):List (Str×AV):=sX d .any .any .any .any .any .any .any .any v9 M_ L_ (.int lb) (.int la) (.ref qa) (.lst (us.map cB)) (.int i) (.int j) (.int k) (.ref na)
def JA(ts:List ab)(P:St->Prop):Prop:=∀s i j k xs,K4 us ts s i j k xs->P ⟨yf d qa na la lb us .any .any .any i j k,(na,.list xs)::rest⟩
def GL(v9 M_ L_:AV)(i j k:Int)(s:ab×List ab)(P:St->Prop):Prop:=∀ys,Y2 s ys->P ⟨yf d qa na la lb us v9 M_ L_ i j k,(na,.list ys)::rest⟩
end
def KW(loc:List (Str×AV))(led:y1->aa)(E:List AV)(P:St->Prop):Prop:=P ⟨loc,led (.list E)⟩
theorem KW.mk{led:y1->aa}{B4:aa}{E ws:List AV}(e:ws=E)(h:fg w6 loc=loc)(h2:B4=led (.list ws)):Nx (KW loc led E) .next ⟨w6,B4⟩:=h2▸.ld (t5:=⟨loc,led (.list ws)⟩) (fun O y=>e▸y) h
theorem Uy{dj jk pp:YV}{vo:AV}{a b:List Str}{mm:List (Str×AV)}{led:aa}(hA:w0 A 80)(ha:a.length<10^5)(hb:b.length<10^5)(M2:(bf (be a b) (0,a.length,0,b.length)).length<64)
  (H5:(dj==d5)=false) (j_:∀k,(bn mm k).getD (.lst [])=.lst (dU (bO b k))) :
  TC ak w A (al w) (.ref 203) [.inst 242 d] [] (bN w d dj jk pp a b mm .none vo led) fun v led' =>
   v=.lst ((aW (be a b) a.length b.length).map cB)/\led'=bN w d dj jk pp a b mm (.lst ((aW (be a b) a.length b.length).map cB)) vo led:=by
 refine TC.weak (fU (sX d) (cL w) hA.lt (fun O=>@_) @_ @_ (Sv _) fun L hL=>?_);have u9:=hA.deeper (k:=77) (s9:=bz (aA (jE w.params)) L 203 202);have hh:=u9.h;have hG:=(((((((gk w (A.deeper _) (aA (jE w.params)) L 203 202 @_ @_ hh).g (gw w) @_ @_).g (ER w) @_ @_).g (RG w) @_ @_).g (ET w) @_ @_).m ⟨Li,1, "list.append"⟩ F.plainAttrs_list jc F.type_list_append).m ⟨Ln,1, "list.pop"⟩ F.plainAttrs_list Js F.type_list_pop).m ⟨MX,1, "list.sort"⟩ F.plainAttrs_list Jq F.type_list_sort;have ó:=fe (am a b) (aI a b);refine ah (aF hG 20 ?_);refine ah (aF hG 20 (t6.mk (ec (ba _) @_ (Yi ..) (v:=.none) @_ rfl ?_)));refine ah (aF hG 20 (t6.mk (ec (ba _) @_ (Yi ..) (v:=.lst (a.map .str)) @_ rfl (t6.mk (mt .frz (by rw[Yl];omega) (t6.mk (ec (ba _) @_ (Yi ..) (v:=.lst (b.map .str)) @_ rfl (t6.mk (mt .frz (by rw[Yl];omega) ?_)))))))));rw[Yl,Yl];refine ah (me (fu (cR hG 20 ⟨(by decide:1<=Zc),fun qa hqa=>bc rfl ?_⟩)) @_);refine ah (aF hG 20 (t6.mk (dq rfl fun ma hma=>?_)));refine ah (T.join (KQ d qa ma a.length b.length (bN w d dj jk pp a b mm .none vo led) (be a b)) (jW (JQ d qa ma a.length b.length (bN w d dj jk pp a b mm .none vo led) (be a b)) (fun n xs ws h=>?_) (.mk (fun O y=>y _ _ T8.start) @_)) fun ms h=>?_)
 ·refine bH hG 20 (t6.mk (pB (.own (Yk _ (Yi ..))) (o0 h.room ⋯) (oQ (fun c=>?_) fun c=>KQ.of h c)));refine(h.pop c).elim fun μ hp=>hp.elim fun q p=>?_;have hr:=p.2.room ó;have hw:=p.2.w;refine ah (cH rfl rfl rfl (ad hG 20 ⟨br (Yk _ (Yi ..)),t6.mk (WM p.1 (.there .here) (by rw[ZD];omega) (dv (by assumption) @_ @_ @_ (de _ rfl _ _ rfl rfl ?_)))⟩));refine ah (gG rfl rfl rfl (iO (name:=kJ) (C:=242) (f:=196) @_ @_ @_ (ba _) @_ @_ (ad hG 20 (.mk (Yk _ (Yk _ (Yi ..))) @_ (eK @_ (dc @_) (cR hG 20 ?_))))));refine WL (C7:=bN w d dj jk pp a b mm .none vo ((ma,.list xs)::(qa,.list μ)::led)) (List.perm_append_comm_assoc [_,_] [_,_,_] _) (SI (u9.mono ⋯) ⋯ ⋯ hw.1 hw.2.1 hw.2.2.1 hw.2.2.2 H5 j_) fun v hv=>?_;rw[hv];clear hv v;generalize đ:bq (am a b) (aI a b) q.1 q.2.1 q.2.2.1 q.2.2.2=r;refine zu (by assumption) (ye _) @_ @_ @_ (de _ rfl _ _ rfl rfl (bX (bc rfl ?_)));refine ah (jX (bH hG 20 (oQ (fun c=>?_) fun c=>bP (bP ⟨_,(p.2.zeroR đ (bne_eq_false_iff_eq.mp c)).1,.mk (fun O y=>y _ _ (p.2.zeroR đ (bne_eq_false_iff_eq.mp c)).2) @_⟩))));have hk:=bne_iff_ne.mp c;refine ah (aF hG 20 ⟨br (Yi ..),t6.mk (eH .here (by rw[ZD];omega) ?_)⟩);refine ah (T.join (KW (oK d qa ma a.length b.length (.int q.1) (.int q.2.1) (.int q.2.2.1) (.int q.2.2.2) (.int r.1) (.int r.2.1) (.int r.2.2) (gK r)) (fun o=>(ma,.list (xs++[gK r]))::(qa,o)::bN w d dj jk pp a b mm .none vo led) (μ++fX q r)) (aF hG 20 (bE (fun c1=>bE (fun c2=>⟨br (Yk _ (Yi ..)),t6.mk (eH (.there .here) (by rw[ZD];omega) (KW.mk (by rw[HP c1 c2]) @_ rfl))⟩) fun c2=>lp (KW.mk (by rw[HS c2,Zv]) @_ rfl)) fun c1=>lp (KW.mk (by rw[HT c1,Zv]) @_ rfl))) ?_);have N7:(μ++fX q r).length<=2 * a.length+1:=by have:=HU (q:=q) (r:=r);rw[Yr];omega
  refine ah (T.join (KW (oK d qa ma a.length b.length (.int q.1) (.int q.2.1) (.int q.2.2.1) (.int q.2.2.2) (.int r.1) (.int r.2.1) (.int r.2.2) (gK r)) (fun o=>(ma,.list (xs++[gK r]))::(qa,o)::bN w d dj jk pp a b mm .none vo led) (μ++fX q r++kr q r)) (aF hG 20 (bE (fun c1=>bE (fun c2=>⟨br (Yk _ (Yi ..)),t6.mk (eH (.there .here) (by rw[ZD];omega) (KW.mk (by rw[HM c1 c2]) @_ rfl))⟩) fun c2=>lp (KW.mk (by rw[HN c2,Zv]) @_ rfl)) fun c1=>lp (KW.mk (by rw[HO c1,Zv]) @_ rfl))) ?_);exact bP (bP ⟨_,(p.2.goR ó đ hk).1,.mk (fun O y=>y _ _ (p.2.goR ó đ hk).2) @_⟩)
 ·have Ö:=Pa ó (q:=(0,a.length,0,b.length)) (YD _) (YD _);refine ah (aF hG 20 ⟨br (Yi ..),t6.mk (WF (k:=20) (ts:=ms) (us:=bf (be a b) (0,a.length,0,b.length)) (u9.mono ⋯) h Ö (h.length_eq▸M2) .here ?_)⟩);refine ah (Vo rfl rfl rfl (ad hG 20 (bX (bc rfl (bX (bc rfl (bX (bc rfl ?_))))))));refine ah (aF hG 20 (t6.mk (dq rfl fun na hna=>?_)));refine T.perm (c0 _ _ _) (T.freeze (w6:=yf d qa na a.length b.length (bf (be a b) (0,a.length,0,b.length)) .any .any .any 0 0 0) (by repeat constructor) ?_);refine ah (hF (k:=5) cB (JA d qa na a.length b.length (bf (be a b) (0,a.length,0,b.length)) ((qa,.list [])::bN w d dj jk pp a b mm .none vo led)) (u9.mono ⋯) (ad hG 20 (eJ (k:=5) fun it gl hI => .mk hI (.mk (fun O y=>y _ _ _ _ _ K4.start) @_))) ?_ ?_ fun O=>@_)
  ·intro gl t ts s i j k xs h;have hr:=h.room;refine zu (by assumption) (ye _) @_ @_ @_ (de _ rfl _ _ rfl rfl ?_);refine ah (jX (T.bool (p:=i+k=(t.1:Nat)/\j+k=(t.2.1:Nat)) (bH hG 20 (mO (fun c1=>mO (fun c2=>⟨rfl,iff_of_true rfl ⟨c1,c2⟩⟩) fun c2=>⟨rfl,iff_of_false Zd fun q=>c2 q.2⟩) fun c1=>⟨rfl,iff_of_false Zd fun q=>c1 q.1⟩)) (fun c=>?_) fun c=>?_))
   ·exact ah (aF hG 20 (bP (bP (.next (l:=(na,.list xs)::(qa,.list [])::bN w d dj jk pp a b mm .none vo led) (.mk (fun O y=>y _ _ _ _ _ (h.join c.1 c.2)) @_)))))
   ·refine ah (T.join (GL d qa na a.length b.length (bf (be a b) (0,a.length,0,b.length)) (((qa,.list [])::bN w d dj jk pp a b mm .none vo led)++gl) (.int (t.1:Nat)) (.int (t.2.1:Nat)) (.int (t.2.2:Nat)) i j k s) (aF hG 20 (qH (fun c=>⟨br (Yi ..),t6.mk (eH .here (by rw[ZD];omega) (.mk (fun O y=>y _ (h.put c)) @_))⟩) fun c => .mk (fun O y=>y _ (h.skip c)) @_)) fun ys m=>?_);refine ah (aF hG 20 ?_);exact bP (bP (.next (l:=(na,.list ys)::(qa,.list [])::bN w d dj jk pp a b mm .none vo led) (.mk (fun O y=>y _ _ _ _ _ (h.new c m)) @_)))
  ·intro s i j k xs h;have hr:=h.room;refine ah (T.join (GL d qa na a.length b.length (bf (be a b) (0,a.length,0,b.length)) ((qa,.list [])::bN w d dj jk pp a b mm .none vo led) .any .any .any i j k s) (aF hG 20 (qH (fun c=>⟨br (Yi ..),t6.mk (eH .here (by rw[ZD];omega) (.mk (fun O y=>y _ (h.put c)) @_))⟩) fun c => .mk (fun O y=>y _ (h.skip c)) @_)) fun ys m=>?_);have Ý:=h.roomM m;refine ah (aF hG 20 ⟨br (Yi ..),t6.mk (ik (h.last m) .here (by rw[ZD];omega) ?_)⟩);have û:=FW (fl:=be a b) a.length b.length;generalize aW (be a b) a.length b.length=bs at *;refine T.freeze (w6:=sX d .any .any .any .any .any .any .any .any .any .any .any (.int b.length) (.int a.length) (.ref qa) (.lst ((bf (be a b) (0,a.length,0,b.length)).map cB)) (.int i) (.int j) (.int k) (.lst (bs.map zX))) (by repeat constructor) ?_;refine ah (cH rfl rfl rfl (ad hG 20 (t6.mk (XO (f:=89) @_ (ST _) (Rd _) fun q=>t6.mk (WO fun m it=>t6.mk ?_)))));refine GU (k:=31) (T' := "map") (items:=bs.map cB) (gl:=gR m it (.ref q) (bs.map zX) 0 [(q,.raw (methodObj (.ref 89) (.ref 135)))]) (led:=(qa,.list [])::bN w d dj jk pp a b mm .none vo led) (N:=[]) (u9.mono ⋯) .nil
    (u8.map (N:=[]) (k:=30) (ys:=bs.map cB) (by rw[Yl,Yl]) (fun i x y hx hy A' T5 led' O=>?_) bs.length 0 (by rw[Yl,r0])) (by rw[Yl,ZD];omega) (fun s Z S=>?_) (by decide) (by decide) (fun A s Z S Q E h=>Pj S h) Pk Pl ?_
   ·rw[Ze] at hx hy;refine ae (ZF.mp hx) fun t ht O3=>?_;subst O3;refine ae (ZF.mp hy) fun t' ht' O3=>?_;subst O3;rw[ht] at ht';cases ht'
    exact VM (by repeat constructor) (Pp (T5.mono ⋯))
   ·exact Po S
   ·refine dG (ad hG 20 (eI (m':=jR a b dj jk pp (.lst (bs.map cB)) vo) (ba _) @_ (.there .here) rfl (ZB rfl) ?_));refine bD hG 20 (t6.mk (ec (ba _) @_ (Yk _ (Yi ..)) (v:=.lst (bs.map cB)) @_ rfl ?_));exact gJ _ ⟨[(qa,.list [])],.refl _⟩ rfl rfl
set_option genSizeOf false in set_option genInjectivity false in
structure Op where
 tag:Str
 i1:Nat
 i2:Nat
 j1:Nat
 j2:Nat
noncomputable abbrev av:Str:=MT
noncomputable abbrev bR:Str:=MW
noncomputable abbrev bx:Str:=MV
noncomputable abbrev bA:Str:=MU
noncomputable def aY(o:Op):AV:=.tup [.str o.tag,.int o.i1,.int o.i2,.int o.j1,.int o.j2]
noncomputable def bC(i ai j bj:Nat):List Op :=
 if i<ai/\j<bj then [⟨bR,i,ai,j,bj⟩] else if i<ai then [⟨bx,i,ai,j,bj⟩] else if j<bj then [⟨bA,i,ai,j,bj⟩] else []
noncomputable def cW(t:ab):List Op:=if t.2.2=0 then [] else [⟨av,t.1,t.1+t.2.2,t.2.1,t.2.1+t.2.2⟩]
noncomputable def cr(s:(Nat×Nat)×List Op)(t:ab):(Nat×Nat)×List Op:=((t.1+t.2.2,t.2.1+t.2.2),s.2++bC s.1.1 t.1 s.1.2 t.2.1++cW t)
noncomputable def bY(bs:List ab):List Op:=(bs.foldl cr ((0,0),[])).2
theorem FS(i ai j bj:Nat):(bC i ai j bj).length<=1:=by
 unfold bC;split
 ·simp
 ·split
  ·simp
  ·split <;> simp
theorem Qn(t:ab):(cW t).length<=1:=by unfold cW;split <;> simp
theorem CL(s:(Nat×Nat)×List Op)(t:ab):(cr s t).2.length<=s.2.length+2:=by
 have h1:=FS s.1.1 t.1 s.1.2 t.2.1;have h2:=Qn t;unfold cr;simp only[Yr];omega
theorem UZ(ts:List ab):∀s:ab×List ab,(ts.foldl cA s).2.length<=s.2.length+ts.length:=by
 induction ts with
 |nil=>exact fun s=>YR _
 |cons t ts ih=>exact fun s=>Zg (ih (cA s t)) (Zg (r6 (yT s t) _) (o5 (o4 ..)))
theorem yL{fl:Nat->Nat->Nat->Nat->ab}(ok:cQ fl)(la lb:Nat):(aW fl la lb).length<=la+2:=by
 have h1:(bf fl (0,la,0,lb)).length<=la:=yd ok (la-0) 0 la 0 lb (YD _) (YD _);have h2:=UZ (bf fl (0,la,0,lb)) ((0,0,0),[]);unfold aW dW;rw[Yr];simp only[YI,Yq] at h2 ⊢;split
 ·omega
 ·rw[Yr];simp only[Yq,YI];omega
theorem zr{K:Bool->St->Prop}(hl:x.length<2^62)(h:K ((x.length:Int) != 0) st):F1 vv w A B s9 aM truthy (.str x) st K:=F1.of fun s Z S Q E hQ=>Val.eStr fun O=>PySem.P.truthy_str ⋯ (hQ _ _ _ Z st h (S.toks _) rfl (.toks _))
theorem GZ{f:AV}{led C7:aa}{K0:AV->aa->Prop}(p:led.Perm C7)(h:TC vv w A B f args kw C7 K0)(hk:∀v l,K0 v l->∃l',L5 l l'/\K v ⟨loc,l'⟩):FC vv w A B s9 f args kw ⟨loc,led⟩ K :=
 FC.weak (K0:=fun v t5=>K0 v t5.led/\t5.loc=loc) (zg ((TC.perm p h).mono fun v l h'=>⟨h',rfl⟩)) fun v w6 l h'=>by
  refine aL h' fun h1 h2=>?_;clear h';dsimp only at h1 h2;subst h2;exact hk v l h1
section
structure C6 (bs ts:List ab) (s:(Nat×Nat)×List Op) (i j:Int) (xs:List AV):Prop where
 e1:i=s.1.1
 e2:j=s.1.2
 e3:xs=s.2.map aY
 fold:ts.foldl cr s=bs.foldl cr ((0,0),[])
 len:s.2.length+2 * ts.length<=2 * bs.length
inductive F9 (s:Nat×Nat) (t:ab):Str->Prop where
 |no (h:bC s.1 t.1 s.2 t.2.1=[]):F9 s t ⟨⟨[]⟩⟩
 |yes {tag:Str} (h0:0<tag.length) (h1:tag.length<2^62) (h:bC s.1 t.1 s.2 t.2.1=[⟨tag,s.1,t.1,s.2,t.2.1⟩]):F9 s t tag
variable{bs ts:List ab}{s:(Nat×Nat)×List Op}{i j:Int}{t:ab}{tag:Str}{l:List Op}
theorem C6.rep(h:C6 bs (t::ts) s i j xs)(c1:i<(t.1:Int))(c2:j<(t.2.1:Int)):F9 s.1 t bR :=
 .yes (by decide) (by decide) (if_pos ⟨Int.ofNat_lt.mp (h.e1▸c1),Int.ofNat_lt.mp (h.e2▸c2)⟩)
theorem C6.del(h:C6 bs (t::ts) s i j xs)(c1:i<(t.1:Int))(c2 : ¬ j<(t.2.1:Int)):F9 s.1 t bx :=
 .yes (by decide) (by decide) ((if_neg fun q=>c2 (h.e2▸Int.ofNat_lt.mpr q.2)).trans (if_pos (Int.ofNat_lt.mp (h.e1▸c1))))
theorem C6.ins(h:C6 bs (t::ts) s i j xs)(c1 : ¬ i<(t.1:Int))(c2:j<(t.2.1:Int)):F9 s.1 t bA :=
 have n : ¬ s.1.1<t.1:=fun q=>c1 (h.e1▸Int.ofNat_lt.mpr q)
 .yes (by decide) (by decide) ((if_neg fun q=>n q.1).trans ((if_neg n).trans (if_pos (Int.ofNat_lt.mp (h.e2▸c2)))))
theorem C6.none(h:C6 bs (t::ts) s i j xs)(c1 : ¬ i<(t.1:Int))(c2 : ¬ j<(t.2.1:Int)):F9 s.1 t ⟨⟨[]⟩⟩ :=
 have n : ¬ s.1.1<t.1:=fun q=>c1 (h.e1▸Int.ofNat_lt.mpr q)
 .no ((if_neg fun q=>n q.1).trans ((if_neg n).trans (if_neg fun q=>c2 (h.e2▸Int.ofNat_lt.mpr q))))
theorem F9.small(h:F9 s.1 t tag):tag.length<2^62:=by
 induction h with
 |no _=>decide
 |yes _ h1 _=>exact h1
structure T9 (s:(Nat×Nat)×List Op) (t:ab) (ys:List AV):Prop where
 e:ys=(s.2++bC s.1.1 t.1 s.1.2 t.2.1).map aY
theorem C6.put(h:C6 bs (t::ts) s i j xs)(g:F9 s.1 t tag)(c:((tag.length:Int) != 0)=true):T9 s t (xs++[.tup [.str tag,.int i,.int (t.1:Nat),.int j,.int (t.2.1:Nat)]]):=by
 cases g with
 |no _=>cases c
 |yes _ _ q=>exact⟨by rw[q,YK,h.e1,h.e2,h.e3];rfl⟩
theorem C6.skip(h:C6 bs (t::ts) s i j xs)(g:F9 s.1 t tag)(c:((tag.length:Int) != 0)=false):T9 s t xs:=by
 cases g with
 |no q=>exact⟨by rw[q,Zv,h.e3]⟩
 |yes h0 _ _=>exact absurd (Int.ofNat_eq_zero.mp (bne_eq_false_iff_eq.mp c)) (Nat.ne_of_gt h0)
theorem C6.room(h:C6 bs (t::ts) s i j xs):xs.length+2<=2 * bs.length:=by
 have:=h.len;rw[h.e3,Yl];rw[Yq] at this;omega
theorem T9.room(h:C6 bs (t::ts) s i j xs)(m:T9 s t ys):ys.length+1<=2 * bs.length:=by
 have:=h.len
 have:=FS s.1.1 t.1 s.1.2 t.2.1;rw[m.e,Yl,Yr];rw[Yq] at *;omega
theorem C6.step(h:C6 bs (t::ts) s i j xs):(cr s t).2.length+2 * ts.length<=2 * bs.length:=by
 have:=h.len
 have:=CL s t;rw[Yq] at *;omega
theorem C6.keep(h:C6 bs (t::ts) s i j xs)(m:T9 s t ys)(c:(((t.2.2:Nat):Int) != 0)=true) :
  C6 bs ts (cr s t) ((t.1:Nat)+(t.2.2:Nat)) ((t.2.1:Nat)+(t.2.2:Nat)) (ys++[.tup [.str av,.int (t.1:Nat),.int ((t.1:Nat)+(t.2.2:Nat)),.int (t.2.1:Nat),.int ((t.2.1:Nat)+(t.2.2:Nat))]]):=by
 have k:cW t=[⟨av,t.1,t.1+t.2.2,t.2.1,t.2.1+t.2.2⟩]:=if_neg fun q=>bne_iff_ne.mp c (by rw[q];rfl);refine⟨rfl,rfl,?_,h.fold,h.step⟩;show _=List.map aY (s.2++_++cW t);rw[k,YK,m.e];rfl
theorem C6.pass(h:C6 bs (t::ts) s i j xs)(m:T9 s t ys)(c:(((t.2.2:Nat):Int) != 0)=false) :
  C6 bs ts (cr s t) ((t.1:Nat)+(t.2.2:Nat)) ((t.2.1:Nat)+(t.2.2:Nat)) ys:=by
 have k:cW t=[]:=if_pos (Int.ofNat_eq_zero.mp (bne_eq_false_iff_eq.mp c));refine⟨rfl,rfl,?_,h.fold,h.step⟩;show _=List.map aY (s.2++_++cW t);rw[k,Zv,m.e]
theorem C6.last(h:C6 bs [] s i j xs):xs=(bY bs).map aY:=by
 have f:s=_:=h.fold;rw[h.e3,f];rfl
end
section
variable(d oa:YV)(bs:List ab)(l0:aa)
noncomputable abbrev yg(v1 v2 v3 v4:AV)(i j:Int):List (Str×AV):=[(q6,.inst 242 d),(Cl,v1),(Ck,v2),(ji,v3),(qz,v4),(mN,.int i),(qr,.int j),(Cm,.ref oa)]
def JO(ts:List ab)(P:St->Prop):Prop:=∀s i j xs,C6 bs ts s i j xs->P ⟨yg d oa .any .any .any .any i j,(oa,.list xs)::l0⟩
def KT(s:(Nat×Nat)×List Op)(t:ab)(i j:Int)(xs:List AV)(P:St->Prop):Prop:=∀tag,F9 s.1 t tag->P ⟨yg d oa (.int (t.1:Nat)) (.int (t.2.1:Nat)) (.int (t.2.2:Nat)) (.str tag) i j,(oa,.list xs)::l0⟩
def KM(s:(Nat×Nat)×List Op)(t:ab)(i j:Int)(tag:Str)(P:St->Prop):Prop:=∀ys,T9 s t ys->P ⟨yg d oa (.int (t.1:Nat)) (.int (t.2.1:Nat)) (.int (t.2.2:Nat)) (.str tag) i j,(oa,.list ys)::l0⟩
end
theorem NM{dj jk pp:YV}{a b:List Str}{mm:List (Str×AV)}{led:aa}(hA:w0 A 90)(ha:a.length<10^5)(hb:b.length<10^5)(M2:(bf (be a b) (0,a.length,0,b.length)).length<64)
  (H5:(dj==d5)=false) (j_:∀k,(bn mm k).getD (.lst [])=.lst (dU (bO b k))) :
  TC ak w A (al w) (.ref 210) [.inst 242 d] [] (bN w d dj jk pp a b mm .none .none led) fun v led' =>
   ∃oa,v=.ref oa/\led'=(oa,.list ((bY (aW (be a b) a.length b.length)).map aY))::bN w d dj jk pp a b mm (.lst ((aW (be a b) a.length b.length).map cB)) (.ref oa) led:=by
 refine TC.weak (fU [(q6,.inst 242 d),(Cl,.any),(Ck,.any),(ji,.any),(qz,.any),(mN,.any),(qr,.any),(Cm,.any)] (cL w) hA.lt (fun O=>@_) @_ @_ (Su _) fun L hL=>?_);have u9:=hA.deeper (k:=87) (s9:=bz (aA (jD w.params)) L 210 209);have hh:=u9.h;have hG:=((gk w (A.deeper _) (aA (jD w.params)) L 210 209 @_ @_ hh)).m ⟨Li,1, "list.append"⟩ F.plainAttrs_list jc F.type_list_append;have û:=yL (fe (am a b) (aI a b)) a.length b.length;generalize U9:aW (be a b) a.length b.length=bs at *;refine bD hG 100 ?_;refine t6.mk (ec (ba _) @_ (Yi ..) (v:=.none) @_ rfl ?_);refine t6.mk (gG rfl rfl rfl (ad hG 20 (bX (bc rfl (bX (bc rfl ?_))))));refine t6.mk (gG rfl rfl rfl (t6.mk (dq rfl fun oa hoa=>?_)).out);refine dG (ad hG 20 ?_);refine eI (m':=jR a b dj jk pp .none (.ref oa)) (ba _) @_ (.there .here) rfl (ZB rfl) ?_;refine bX (bc rfl ?_);refine t6.mk (hF (k:=5) cB (JO d oa bs (bN w d dj jk pp a b mm (.lst (bs.map cB)) (.ref oa) led)) (u9.mono ⋯) ?_ ?_ ?_ fun O=>@_)
 ·refine iO (name:=li) (C:=242) (f:=203) @_ @_ @_ (ba _) @_ @_ (ad hG 20 (.mk (Yk _ (Yi ..)) @_ (eK @_ (dc @_) (tP ?_))));refine GZ (C7:=bN w d dj jk pp a b mm .none (.ref oa) ((oa,.list [])::led)) (List.perm_append_comm_assoc [_] [_,_,_] _) (Uy (u9.mono ⋯) ha hb M2 H5 j_) fun v l h=>?_;rw[h.1,h.2,U9];refine bQ ((oa,.list [])::bN w d dj jk pp a b mm (.lst (bs.map cB)) (.ref oa) led) (.perm (List.perm_append_comm_assoc [_,_,_] [_] _)) ?_;exact eJ (k:=5) fun it gl hI => .mk hI (.mk (fun O y=>y ((0,0),[]) _ _ _ ⟨rfl,rfl,rfl,rfl,o5 (r0 _)⟩) @_)
 ·intro gl t ts s i j xs h;have hr:=h.room;refine zu (by assumption) (ye _) @_ @_ @_ (de _ rfl _ _ rfl rfl ?_);refine ah (aF hG 60 ?_);refine ah (T.join (KT d oa (bN w d dj jk pp a b mm (.lst (bs.map cB)) (.ref oa) led++gl) s t i j xs) (aF hG 60 (bE (fun c1=>bE (fun c2 => .mk (fun O y=>y _ (h.rep c1 c2)) @_) fun c2=>lp (bE (fun O => .mk (fun O y=>y _ (h.del c1 c2)) @_) fun c=>(c c1).elim)) fun c1=>lp (bE (fun c=>(c1 c).elim) fun O=>bE (fun c2 => .mk (fun O y=>y _ (h.ins c1 c2)) @_) fun c2 => .mk (fun O y=>y _ (h.none c1 c2)) @_))) fun tag g=>?_);refine ah (T.join (KM d oa (bN w d dj jk pp a b mm (.lst (bs.map cB)) (.ref oa) led++gl) s t i j tag) (aF hG 60 (t6.mk (zr g.small (cU (fun c=>⟨br (Yi ..),t6.mk (eH .here (by rw[ZD];omega) (.mk (fun O y=>y _ (h.put g c)) @_))⟩) fun c => .mk (fun O y=>y _ (h.skip g c)) @_)))) fun ys m=>?_);have hr:=m.room h;refine bD hG 60 (cU (fun c=>⟨br (Yi ..),t6.mk (eH .here (by rw[ZD];omega) (.next (l:=(oa,.list _)::bN w d dj jk pp a b mm (.lst (bs.map cB)) (.ref oa) led) (.mk (fun O y=>y _ _ _ _ (h.keep m c)) @_)))⟩) fun c => .next (l:=(oa,.list _)::bN w d dj jk pp a b mm (.lst (bs.map cB)) (.ref oa) led) (.mk (fun O y=>y _ _ _ _ (h.pass m c)) @_))
 ·intro s i j xs h;exact⟨_,.refl _,oa,rfl,h.last▸rfl⟩
noncomputable def bh(n:Nat)(o:Op):Op:=if o.tag=av then ⟨o.tag,max o.i1 (o.i2-n),o.i2,max o.j1 (o.j2-n),o.j2⟩ else o
noncomputable def bg(n:Nat)(o:Op):Op:=if o.tag=av then ⟨o.tag,o.i1,min o.i2 (o.i1+n),o.j1,min o.j2 (o.j1+n)⟩ else o
noncomputable def jz(f:Op->Op):List Op->List Op
 | []=>[]
 |o::os=>f o::os
noncomputable def dg(f:Op->Op):List Op->List Op
 | []=>[]
 | [o]=>[f o]
 |o::p::os=>o::dg f (p::os)
noncomputable def fY(n:Nat)(codes:List Op):List Op:=dg (bg n) (jz (bh n) (if codes.isEmpty then [⟨av,0,1,0,1⟩] else codes))
noncomputable def cF(n:Nat):List Op->List Op->List (List Op)
 |group,[]=>if group.isEmpty then [] else if group.length=1/\(group.head?.map (·.tag))=some av then [] else [group]
 |group,o::os =>
  if o.tag=av/\o.i1+(n+n)<o.i2 then
   (group++[⟨o.tag,o.i1,min o.i2 (o.i1+n),o.j1,min o.j2 (o.j1+n)⟩])::cF n [⟨o.tag,max o.i1 (o.i2-n),o.i2,max o.j1 (o.j2-n),o.j2⟩] os
  else cF n (group++[o]) os
theorem gW{g:List Op}{P:List (List Op)->Prop}(a:g.isEmpty=true->P [])(b:g.length=1/\(g.head?.map (·.tag))=some av->P [])(c : ¬ g.isEmpty=true -> ¬ (g.length=1/\(g.head?.map (·.tag))=some av)->P [g]):P (cF n g []):=iteInduction (motive:=P) a fun h=>iteInduction (motive:=P) b (c h)
theorem lS{g:List Op}{P:List (List Op)->Prop}(a:o.tag=av/\o.i1+(n+n)<o.i2->P ((g++[⟨o.tag,o.i1,min o.i2 (o.i1+n),o.j1,min o.j2 (o.j1+n)⟩])::cF n [⟨o.tag,max o.i1 (o.i2-n),o.i2,max o.j1 (o.j2-n),o.j2⟩] os))(b : ¬ (o.tag=av/\o.i1+(n+n)<o.i2)->P (cF n (g++[o]) os)):P (cF n g (o::os)):=iteInduction (motive:=P) a b
noncomputable def bl(n:Nat)(codes:List Op):List (List Op):=cF n [] (fY n codes)
noncomputable def dm(g:List Op):AV:=.lst (g.map aY)
theorem NG(ts:List ab):∀s:(Nat×Nat)×List Op,(ts.foldl cr s).2.length<=s.2.length+2 * ts.length:=by
 induction ts with
 |nil=>exact fun s=>YR _
 |cons t ts ih=>exact fun s=>Zg (ih (cr s t)) (Zg (r6 (CL s t) _) (o5 (by rw[Yq,Nat.mul_succ,p6,Nat.add_comm 2])))
theorem vM(bs:List ab):(bY bs).length<=2 * bs.length:=by
 have:=NG bs ((0,0),[]);unfold bY;simp only[YI] at this;omega
section
variable{N:aa}{n m:Nat}{rows:List AV}{K:u7->St->List AV->Prop}{t:Sem Flow}{l l':aa}
theorem TG.freeze(hr:A9 a xs loc w6)(h:TG vv w B N n m s9 t ⟨w6,l⟩ rows K):TG vv w B N n m s9 t ⟨loc,(a,.list xs)::l⟩ rows K :=
 fun c fs Kc H gd lv hs hg hK A hA led hN B8 B7 Z0 s Z S X=>by
  refine aZ (w5.freeze (led:=l++led) S hr) fun Z' S' V X'=>?_;exact h c fs Kc H gd lv hs hg hK A hA led hN B8 B7 Z0 s Z' S' (X.trans X')
theorem TG.weak(hw:L5 l l')(h:TG vv w B N n m s9 t ⟨loc,l'⟩ rows K):TG vv w B N n m s9 t ⟨loc,l⟩ rows K :=
 fun c fs Kc H gd lv hs hg hK A hA led hN B8 B7 Z0 s Z S X=>by
  refine aq hw fun r p=>?_;clear hw;have hw':L5 (l++led) (l'++led):=⟨r,by rw[← YN];exact p.append_right led⟩;exact h c fs Kc H gd lv hs hg hK A hA led hN B8 B7 Z0 s Z (S.weak hw') (X.weakF hw')
theorem TG.mono{K':u7->St->List AV->Prop}(h:TG vv w B N n m s9 t st rows K)(hk:∀f t5 y2,K f t5 y2->K' f t5 y2):TG vv w B N n m s9 t st rows K' :=
 fun c fs Kc H gd lv hs hg hK=>h c fs Kc H gd lv hs hg fun f x t5 y2 k=>hK f x t5 y2 (hk f t5 y2 k)
theorem Vp(h:∀A,w0 A m->∀led,D4 N led->T vv w A B s9 y0 t ⟨st.loc,st.led++led⟩ fun f t5=>f=.next/\∃w6 l,t5=⟨w6,l++led⟩/\K .next ⟨w6,l⟩ rows):TG vv w B N n m s9 t st rows K :=
 Vq fun A hA led hN=>(h A hA led hN).mono fun f t5 k=>by
  obtain⟨rfl,w6,l,rfl,k⟩:=k;exact gJ l rfl trivial k
end
theorem fw{i:Int}{x:AV}(h0:0<=i)(h1:i<2^63)(hx:xs[i.toNat]?=some x)(h:K x st) :
  F2 vv w A B s9 Val getItem (.tup xs) (.int i) st K:=fun s Z x1 x2 V1 V2 S Q E hQ=>by
 refine bv (iF V1) fun O O O qv e vs=>?_;subst qv
 (refine aq V2.inv fun t_ e_=>?_;subst e_)
 refine ae (vs.get hx) fun u e' hu=>?_;have C5:=(j5.mp e').1;exact P.getItem_tuple (k:=i.toNat) (S.frozen _ _ e) (Int.le_trans (by decide) h0) h1 (seqIndex_of h0 ((Int.toNat_lt h0).mp C5)) (by simpa using e') (hQ x u s Z st h S hu .refl)
theorem JT{l:YV}{items:Array Value}{k:Int}{t:Tok}{v:Value}{Q:Unit->Yo->Prop}(ho:s.heap.get? l=some {cls:=.type "list",data:=.seq items n})
  (hk:k=j∨(k<0/\k+items.size=j)) (hj:j<items.size) (hsz:items.size<2^62)
  (h:Q () {s with heap:=s.heap.update l (Zi (·.setIfInBounds j v))}) :
  YJ (YG vv w) A (setItem (.ref l) (.int k t) v) Q E s:=by
 have hl:s.heap.IsList l items:=⟨_,ho,rfl,n,rfl⟩;have hd:({cls:=.type "list",data:=.seq items n}:Obj).data=.seq items n:=rfl;unfold setItem;try with_reducible refine Yw ?_
 first |refine Yh (Yj ?_) |skip
 refine Yh (wpAny_sequenceKey hl.typeIs (by decide) ?_);refine Yh (Zn (name:=Yn "__setitem__") hl.typeIs slot_list_setitem
  (Zf slot_list_setitem hl.typeIs entry_list_setitem ?_ (args_list_setitem _ _ _)))
 have Ď:items[j]?=some items[j]:=ZU hj;have ô:Builtin.List.listFitsIndex k=true:=by
  rcases hk with h |h
  ·exact fitsIndex_of ⋯ ⋯
  ·exact fitsIndex_neg h.1 ⋯
 show YJ _ _ (Builtin.List.listSubscript? (.int k t)>>=_) _ _ s;refine Yh (wpAny_listSubscript_int ô ?_);clear ô hsz;rcases hk with rfl |⟨h0,h1⟩
 ·skip
  show YJ _ _ ((seqItemAt l j>>=fun r=>b9 (r.map (j,·)))>>=_) _ _ s;refine Yh (Yh (wpAny_seqItemAt ho hd (Yj ?_)));rw[Ď];show YJ _ _ (setSeqItemAt l j v>>=_) _ _ s;refine Yh (wpAny_setSeqItemAt ho hd ?_);first
   |exact Yh (Yj (Yj ⟨.none,rfl,Yj h⟩))
   |exact Yj ⟨.none,rfl,Yj h⟩
 ·have χ:=seqIndex_neg (n:=items.size) h0 ⋯;have W7:(k+items.size).toNat=j:=by omega
  obtain⟨m,rfl⟩:∃j:Nat,k=Int.negSucc j:=by
   cases k with
   |ofNat n=>exact absurd h0 (Int.not_lt.mpr (p7 n))
   |negSucc n=>exact⟨n,rfl⟩
  show YJ _ _ ((Builtin.List.listItems (.ref l)>>=fun xs=>b9 ((seqIndex? (Int.negSucc m) xs.size).bind fun i=>xs[i]?.map (i,·)))>>=_) _ _ s;refine Yh (Yh ?_);show YJ _ _ (seqItems? (.ref l)>>=_) _ _ s;refine Yh (a8 ho hd (Yj (Yj ?_)));rw[χ,W7];simp only[Option.bind_some,Ď,Option.map_some];show YJ _ _ (setSeqItemAt l j v>>=_) _ _ s;refine Yh (wpAny_setSeqItemAt ho hd ?_);first
   |exact Yh (Yj (Yj ⟨.none,rfl,Yj h⟩))
   |exact Yj ⟨.none,rfl,Yj h⟩
theorem Vals.set{ys:List Value}(h:Vals Z xs ys){x:AV}{y:Value}(hv:Val Z x y):∀(j:Nat),Vals Z (xs.set j x) (ys.set j y):=by
 intro j;induction xs generalizing ys j with
 |nil=>cases h;exact .nil
 |cons a xs ih =>
  cases h with
  |cons h1 h2=>cases j with
   |zero=>exact .cons hv h2
   |succ j=>exact .cons h1 (ih h2 j)
theorem zo{k:Int}{led led':aa}{R:Unit->St->Prop}(U:Upd a (.list xs) (.list ys) led led')(hy:ys=xs.set j u)
  (hk:k=j∨(k<0/\k+xs.length=j)) (hj:j<xs.length) (hsz:xs.length<2^62) (h:R () ⟨loc,led'⟩):F3 vv w A B s9 setItem (.ref a) (.int k) u ⟨loc,led⟩ R:=fun s Z x1 x2 x3 V1 V2 V3 S Q E hQ=>by
 (have e_:=V1.inv;subst e_)
 (refine aq V2.inv fun t_ e_=>?_;subst e_)
 subst hy;refine bK (S.own _ U.mem) fun items n g vs=>?_;dsimp only at g;have y4:items.size=xs.length:=by have:=vs.length;simpa using this
 refine JT (j:=j) g (by exact(Eq.symm (y4))▸hk) ⋯ ⋯ ?_;have G9:∃n',(s.heap.update a (Zi (·.setIfInBounds j x3))).get? a=some {cls:=.type "list",data:=.seq (items.setIfInBounds j x3) n' }:=⟨_,YZ (Zi (·.setIfInBounds j x3)) g rfl⟩;refine aq G9 ?_;clear G9;intro n' G9;have Y8:Vals Z (xs.set j u) (items.setIfInBounds j x3).toList:=by
  exact(Eq.symm (Array.toList_setIfInBounds))▸vs.set V3 j
 have P:=S.tot8.upd U (h':=s.heap.update a (Zi (·.setIfInBounds j x3))) (tk:=s.toks) (fun b ob hb e=>(YX ..).extBut b ob hb e) rfl rfl ⟨_,n',G9,Y8⟩;exact hQ () _ _ Z _ h (S.after P.1 P.2) trivial P.2.toF
theorem mw{x:AV}(hl:w9 st.led v ys)(hy:ys=xs++[x])(h2:xs.length<10^9)(h:K x st):F2 vv w A B s9 Val getItem v (.int (-1)) st K:=by
 have e:ys.length=xs.length+1:=hy▸Yr;refine Xv hl ⋯ ⋯ ⋯ ?_ h;rw[e,hy,show (-1+((xs.length+1:Nat):Int)).toNat=xs.length from congrArg Int.toNat (show -1+((xs.length:Int)+1)=xs.length by rw[Int.add_comm,Int.add_neg_cancel_right])];exact List.getElem?_concat_length
section
noncomputable abbrev cD(o:Op):AV:=.tup [.str o.tag,.int (o.i1:Nat),.int (o.i2:Nat),.int (o.j1:Nat),.int (o.j2:Nat)]
theorem CP(f:Op->Op)(z:Op):∀(xs:List Op),dg f (xs++[z])=xs++[f z]
 | []=>rfl
 | [x]=>rfl
 |x::y::xs=>congrArg (x :: ·) (CP f z (y::xs))
variable{o z:Op}{os ini:List Op}
theorem sR(a b n:Nat):max (a:Int) (b-n)=((max a (b-n):Nat):Int):=by
 rcases Nat.le_total n b with h |h
 ·rw[← Int.ofNat_sub h];rcases Nat.le_total a (b-n) with q |q
  ·rw[Nat.max_eq_right q];exact Int.max_eq_right (Int.ofNat_le.mpr q)
  ·rw[Nat.max_eq_left q];exact Int.max_eq_left (Int.ofNat_le.mpr q)
 ·rw[Nat.sub_eq_zero_of_le h,Nat.max_eq_left (YD a)];exact Int.max_eq_left (Int.le_trans (Int.sub_nonpos_of_le (Int.ofNat_le.mpr h)) (p7 a))
theorem sM(a b n:Nat):min (a:Int) (b+n)=((min a (b+n):Nat):Int):=by
 rcases Nat.le_total a (b+n) with q |q
 ·rw[Nat.min_eq_left q];exact Int.min_eq_left (Int.ofNat_le.mpr q)
 ·rw[Nat.min_eq_right q];exact Int.min_eq_right (Int.ofNat_le.mpr q)
theorem QT(h:o.tag=av):cD (bh n o)=.tup [.str o.tag,.int (max (o.i1:Nat) ((o.i2:Nat)-(n:Nat))),.int (o.i2:Nat),.int (max (o.j1:Nat) ((o.j2:Nat)-(n:Nat))),.int (o.j2:Nat)]:=by
 unfold bh;rw[if_pos h,sR,sR]
theorem EF(h:o.tag≠av):bh n o=o:=if_neg h
theorem PX(h:z.tag=av):cD (bg n z)=.tup [.str z.tag,.int (z.i1:Nat),.int (min (z.i2:Nat) ((z.i1:Nat)+(n:Nat))),.int (z.j1:Nat),.int (min (z.j2:Nat) ((z.j1:Nat)+(n:Nat)))]:=by
 unfold bg;rw[if_pos h,sM,sM]
theorem Em(h:z.tag≠av):bg n z=z:=if_neg h
noncomputable def pb(E5:List Op):List Op:=if E5.isEmpty then [Op.mk av 0 1 0 1] else E5
theorem TU(E5:List Op):∃o os,pb E5=o::os/\os.length<=E5.length:=by
 cases E5 with
 |nil=>exact dZ _ _ rfl (YR _)
 |cons o os=>exact dZ o os rfl (Nat.le_succ _)
theorem AF(o:Op)(os:List Op):∃ini z,o::os=ini++[z]/\ini.length=os.length:=by
 rcases n5 (o::os) with h |⟨l,x,h⟩
 ·cases h
 ·rw[n6] at h;exact dZ l x h (by have:=congrArg k9 h;simp only[Yq,Yr,YI] at this;omega)
theorem Iq{E5:List Op}(h:pb E5=o::os)(h':bh n o::os=ini++[z]):fY n E5=ini++[bg n z]:=by
 show dg (bg n) (jz (bh n) (pb E5))=_;rw[h];show dg (bg n) (bh n o::os)=_;rw[h',CP]
structure N5 (n:Nat) (ps:List Op) (xs rows:List AV):Prop where
 run:∃g:List Op,xs=g.map cD/\rows=(cF n g ps).map dm/\xs.length+2 * ps.length<10^7
structure U0 (n:Nat) (p:Op) (ps:List Op) (qi qj:Int) (xs rows:List AV):Prop where
 run:∃(g:List Op) (a b:Nat),qi=a/\qj=b/\xs=g.map cD/\rows=(cF n (g++[⟨p.tag,a,p.i2,b,p.j2⟩]) ps).map dm/\xs.length+2+2 * ps.length<10^7
variable{p:Op}{ps:List Op}{xs rows:List AV}{qi qj:Int}
abbrev yn(n:Nat)(p:Op):Prop:=p.tag=av/\((n:Nat):Int)+(n:Nat)<(p.i2:Nat)-(p.i1:Nat)
theorem N5.start{cs:List Op}(h:cs.length<10^6+10):N5 n cs [] ((cF n [] cs).map dm):=⟨[],rfl,rfl,by rw[YI];omega⟩
theorem N5.room(h:N5 n ps xs rows):xs.length<10^7:=by
 refine aZ h.run fun g O2 O3 h=>?_;clear O2;clear O3;omega
theorem U0.room(h:U0 n p ps qi qj xs rows):xs.length<10^7:=by
 refine pG h.run fun g a b O4 O5 O6 O7 h=>?_;clear O4;clear O5;clear O6;clear O7;omega
theorem N5.cut(h:N5 n (p::ps) xs rows)(c:yn n p):∃rest,rows=.lst (xs++[.tup [.str p.tag,.int (p.i1:Nat),.int (min (p.i2:Nat) ((p.i1:Nat)+(n:Nat))),.int (p.j1:Nat),.int (min (p.j2:Nat) ((p.j1:Nat)+(n:Nat)))]])::rest /\
  U0 n p ps (max (p.i1:Nat) ((p.i2:Nat)-(n:Nat))) (max (p.j1:Nat) ((p.j2:Nat)-(n:Nat))) [] rest:=by
 refine aZ h.run fun g O2 O3 hl=>?_;subst O2;subst O3;refine⟨(cF n ([]++[⟨p.tag,max p.i1 (p.i2-n),p.i2,max p.j1 (p.j2-n),p.j2⟩]) ps).map dm,?_,[],_,_,sR ..,sR ..,rfl,rfl,by rw[Yq] at hl;rw[YI];omega⟩;have c2:=c.2;rw[show cF n g (p::ps)=_ from if_pos ⟨c.1,by omega⟩,Yu,sM,sM];show AV.lst (List.map aY (g++_))::_=_;rw[YK];rfl
theorem N5.same(h:N5 n (p::ps) xs rows)(c : ¬ yn n p):U0 n p ps (p.i1:Nat) (p.j1:Nat) xs rows:=by
 refine aZ h.run fun g O2 O3 hl=>?_;subst O2;subst O3;refine⟨g,p.i1,p.j1,rfl,rfl,rfl,?_,by rw[Yq] at hl;omega⟩;exact congrArg (List.map dm) (if_neg fun q=>c ⟨q.1,by have:=q.2;omega⟩)
theorem U0.put(h:U0 n p ps qi qj xs rows):N5 n ps (xs++[.tup [.str p.tag,.int qi,.int (p.i2:Nat),.int qj,.int (p.j2:Nat)]]) rows:=by
 refine pG h.run fun g a b O4 O5 O6 O7 h=>?_;subst O4;subst O5;subst O6;subst O7;exact⟨g++[⟨p.tag,a,p.i2,b,p.j2⟩],by rw[YK];rfl,rfl,by rw[Yr,d9];omega⟩
theorem N5.none(h:N5 n [] xs rows)(c:(!xs.isEmpty)=false):rows=[]:=by
 refine aZ h.run fun g O2 O3 O4=>?_;subst O2;subst O3;clear O4;cases g with
 |nil=>rfl
 |cons q qs=>cases c
theorem N5.one(h:N5 n [] xs rows)(c:((xs.length:Nat):Int)=1):∃q:Op,xs=[cD q]/\(q.tag=av->rows=[])/\(q.tag≠av->rows=[.lst xs]):=by
 refine aZ h.run fun g O2 O3 O4=>?_;subst O2;subst O3;clear O4;rw[Yl] at c;refine aq (List.length_eq_one_iff.mp (Int.ofNat_inj.mp c)) fun q O2=>?_;subst O2;exact gJ q rfl (fun e=>gW (P:=fun l=>l.map dm=[]) (fun O=>rfl) (fun O=>rfl) fun O c=>(c ⟨rfl,congrArg some e⟩).elim) fun e=>gW (P:=fun l=>l.map dm=[.lst [cD q]]) (fun c=>nomatch c) (fun c=>(e (d8 c.2)).elim) fun O O=>rfl
theorem N5.many(h:N5 n [] xs rows)(c:(!xs.isEmpty)=true)(c':((xs.length:Nat):Int)≠1):rows=[.lst xs]:=by
 refine aZ h.run fun g O2 O3 O4=>?_;subst O2;subst O3;clear O4;rw[Yl] at c';cases g with
 |nil=>cases c
 |cons q qs =>
  have : ¬ (qs.length=0):=fun e=>c' (by rw[Yq,e];rfl);exact gW (P:=fun l=>l.map dm=[.lst ((q::qs).map cD)]) (fun c=>nomatch c) (fun c=>(this (Nat.succ.inj c.1)).elim) fun O O=>rfl
theorem N5.last(h:N5 n [] xs rows):rows=[]∨rows=[.lst xs]:=by
 cases c : !xs.isEmpty with
 |false=>exact .inl (h.none c)
 |true =>
  by_cases c':((xs.length:Nat):Int)=1
  ·refine aZ (h.one c') fun q O2 h1 h2=>?_;clear O2;by_cases e:q.tag=av
   ·exact .inl (h1 e)
   ·exact .inr (h2 e)
  ·exact .inr (h.many c c')
theorem TS{E5:List Op}(c:(!!(E5.map aY).isEmpty)=true)(hc:pb E5=o::os):[AV.tup [.str av,.int 0,.int 1,.int 0,.int 1]]=(o::os).map aY:=by
 cases E5 with
 |nil=>rw[← hc];rfl
 |cons p ps=>cases c
theorem TT{E5:List Op}(c:(!!(E5.map aY).isEmpty)=false)(hc:pb E5=o::os):E5.map aY=(o::os).map aY:=by
 cases E5 with
 |nil=>cases c
 |cons p ps=>rw[← hc];rfl
theorem JS(o o':Op)(os:List Op)(e:cD o'=u):(o'::os).map aY=((o::os).map aY).set 0 u:=by rw[← e];rfl
theorem JR(z z':Op)(ini:List Op)(e:cD z'=u):(ini++[z']).map aY=((ini++[z]).map aY).set ini.length u:=by
 rw[← e,YK,YK,List.set_append_right _ _ (by simp)];simp[aY]
end
section
variable{N:aa}{n m:Nat}{rows:List AV}{K:u7->St->List AV->Prop}{t:Sem Flow}
inductive ģ (K:u7->St->List AV->Prop) (rows:List AV) (led:aa):u7->St->Prop where
 |mk {loc:List (Str×AV)} (l:aa) (h:K .next ⟨loc,l⟩ rows):ģ K rows led .next ⟨loc,l++led⟩
theorem fR(h:∀A,w0 A m->∀led,D4 N led->T vv w A B s9 y0 t ⟨st.loc,st.led++led⟩ (ģ K rows led)):TG vv w B N n m s9 t st rows K :=
 Vp fun A hA led hN=>(h A hA led hN).mono fun f t5 k=>by
  cases k with
  |mk l h=>exact⟨rfl,_,l,rfl,h⟩
inductive Yld (K:u7->St->List AV->Prop) (led:aa):List AV->AV->St->Prop where
 |mk {loc:List (Str×AV)} {v:AV} {rest:List AV} (l:aa) (h:K .next ⟨loc,l⟩ rest):Yld K led (v::rest) v ⟨loc,l++led⟩
theorem yZ{e:Expr}{L8:Pos}(h:∀A,w0 A m->∀led,D4 N led->T vv w A B s9 Val (ZI e s9) ⟨st.loc,st.led++led⟩ (Yld K led rows))
  (J0:s9.scope.isCoroutine=false) (hi:interactive s9=false):TG vv w B N n m s9 (exec (.Expr (.Yield (some e) L8) pos) s9) st rows K :=
 Vr (fun A hA led hN=>(h A hA led hN).mono fun v t5 k =>
  Yld.casesOn (motive:=fun rows v t5 O=>∃l rest,rows=v::rest/\t5.led=l++led/\K .next ⟨t5.loc,l⟩ rest) k fun l h=>⟨l,_,rfl,rfl,h⟩) J0 hi
theorem N0.nextE{J:List AV->St->List AV->Prop}{K:u7->St->List AV->Prop}{gl l led:aa}{rows:List AV}(e:l++gl=led)(h:J xs ⟨loc,l⟩ rows):N0 J K xs gl .next ⟨loc,led⟩ rows:=e▸.next h
inductive Ends (loc:List (Str×AV)) (led:aa):u7->St->Prop where
 |mk:Ends loc led .next ⟨loc,led⟩
theorem fS{x:Stmt}{rest:List Stmt}(l:aa)(h:∀A,w0 A m->∀led,D4 N led->T vv w A B s9 y0 (exec x s9) ⟨st.loc,st.led++led⟩ (Ends loc (l++led)))(k:TG vv w B N n m s9 (execs rest s9) ⟨loc,l⟩ rows K):TG vv w B N n m s9 (execs (x::rest) s9) st rows K :=
 dY (fR fun A hA led hN=>(h A hA led hN).mono fun f t5 q=>q.rec (.mk l k))
inductive Gives (loc:List (Str×AV)) (led:aa) (v:AV):AV->St->Prop where
 |mk:Gives loc led v v ⟨loc,led⟩
theorem mf{e:Expr}{L8:Pos}{rest:List Stmt}(l:aa)(h:∀A,w0 A m->∀led,D4 N led->T vv w A B s9 Val (ZI e s9) ⟨st.loc,st.led++led⟩ (Gives loc (l++led) v))
  (k:TG vv w B N n m s9 (execs rest s9) ⟨loc,l⟩ rows K) (J0:s9.scope.isCoroutine=false) (hi:interactive s9=false):TG vv w B N n m s9 (execs (.Expr (.Yield (some e) L8) pos::rest) s9) st (v::rows) K :=
 dY (yZ (fun A hA led hN=>(h A hA led hN).mono fun f t5 q=>q.rec (.mk l k)) J0 hi)
theorem jZ{p:Prop}{B1:Expr}{B3:List Stmt}(h:∀A,w0 A m->∀led,D4 N led->T vv w A B s9 aM (isTrue B1 s9 (ZI B1 s9)) ⟨st.loc,st.led++led⟩ fun b s=>s=⟨st.loc,st.led++led⟩/\(b=true↔p))
  (h1:p->TG vv w B N n m s9 (execs body s9) st rows K) (h2 : ¬ p->TG vv w B N n m s9 (execs B3 s9) st rows K):TG vv w B N n m s9 (exec (.If B1 body B3 pos) s9) st rows K :=
 Vs fun A hA led hN=>(h A hA led hN).mono fun b s k=>by
  refine aL k ?_;clear k;intro O1 k;subst O1;refine bQ st.led rfl ?_;cases b with
  |true=>exact h1 (k.mp rfl)
  |false=>exact h2 fun q=>Bool.noConfusion (k.mpr q)
inductive KE (K:St->Prop):u7->St->List AV->Prop where
 |mk {t5:St} (h:K t5):KE K .next t5 []
end
section
variable(n:Nat)(d:YV)(R:List AV)
noncomputable abbrev lL(v1 v2 v3 v4 v5 co nn gr:AV:=.any):List (Str×AV):=[(qt,.int n),(q6,.inst 242 d),(qz,v1),(qE,v2),(qB,v3),(qD,v4),(qA,v5),(Ci,co),(Ch,nn),(vE,gr)]
def KC(cs:List Op)(P:St->List AV->Prop):Prop:=∀ca X,P ⟨lL n d .any .any .any .any .any (.ref ca),(ca,.list (cs.map aY))::X⟩ R
variable{n d R} in
theorem KC.mk{cs:List Op}{ca:YV}{X:aa}{v1 v2 v3 v4 v5:AV}(e:xs=cs.map aY):R1 (KC n d R cs) .next ⟨lL n d v1 v2 v3 v4 v5 (.ref ca),(ca,.list xs)::X⟩ R:=e▸.mk (fun O y=>y ca X) @_
variable(cs:List Op)(X:aa)
noncomputable abbrev yh(v1 v2 v3 v4 v5:AV)(ga:YV):List (Str×AV):=lL n d v1 v2 v3 v4 v5 (.lst (cs.map aY)) (.int ((n:Int)+(n:Int))) (.ref ga)
def JG(ps:List Op)(P:St->List AV->Prop):Prop:=∀xs rows ga,N5 n ps xs rows->P ⟨yh n d cs .any .any .any .any .any ga,(ga,.list xs)::X⟩ rows
def We(p:Op)(ps:List Op)(P:St->List AV->Prop):Prop:=∀qi qj xs rows ga,U0 n p ps qi qj xs rows->P ⟨yh n d cs (.str p.tag) (.int qi) (.int (p.i2:Nat)) (.int qj) (.int (p.j2:Nat)) ga,(ga,.list xs)::X⟩ rows
end
theorem Rv{dj jk pp:YV}{a b:List Str}{mm:List (Str×AV)}{led N:aa}(hA:w0 A 120)(hn:n<10^5)(ha:a.length<10^5)(hb:b.length<10^5)(M2:(bf (be a b) (0,a.length,0,b.length)).length<64)
  (H5:(dj==d5)=false) (j_:∀k,(bn mm k).getD (.lst [])=.lst (dU (bO b k))) :
  TC ak w A (al w) (.ref 218) [.inst 242 d,.int n] [] (bN w d dj jk pp a b mm .none .none []++led) (E7 ak w (al w) N 103 ((bl n (bY (aW (be a b) a.length b.length))).map dm) led):=by
 refine VO (m:=100) (lL n d) (cL w) hA.lt (fun O O=>@_) @_ @_ (Ss _) fun L=>?_;have hG:=fun(A:Yz) (hh:A.handled=none)=>((((gk w A (aA (lx w.params)) L 218 217 @_ @_ hh).g (gw w) @_ @_).g (EP w) @_ @_).g (EQ w) @_ @_).m ⟨Li,1, "list.append"⟩ F.plainAttrs_list jc F.type_list_append;refine fS _ (fun A' u9 led' A8=>aF (hG A' u9.h) 20 .mk) ?_;refine dY (fR fun A' u9 led' A8=>me (iO (name:=lh) (C:=242) (f:=210) @_ @_ @_ (ba _) @_ @_ (ad (hG A' u9.h) 20 (.mk (Yi ..) @_ (eK @_ (dc @_) (tP (ig (led:=bN w d dj jk pp a b mm .none .none led') (NM (u9.mono ⋯) ha hb M2 H5 j_) fun v l h=>?_)))))) @_);refine ae h fun oa O2 O3=>?_;clear h;subst O2;subst O3;refine bc rfl (.mk ((oa,.list ((bY (aW (be a b) a.length b.length)).map aY))::bN w d dj jk pp a b mm (.lst ((aW (be a b) a.length b.length).map cB)) (.ref oa) []) ?_);have Ē:(bY (aW (be a b) a.length b.length)).length<10^6:=by
  have h1:=vM (aW (be a b) a.length b.length);have h2:=FW (fl:=be a b) a.length b.length;omega
 generalize bN w d dj jk pp a b mm (.lst ((aW (be a b) a.length b.length).map cB)) (.ref oa) []=X0;generalize bY (aW (be a b) a.length b.length)=E5 at *;refine bK (TU E5) fun o os hc y4=>?_;refine hM (KC n d ((bl n E5).map dm) (o::os)) (fR fun A' u9 led' A8=>aF (hG A' u9.h) 20 (t6.mk (pB (.own (Yi ..)) (by rw[Yl];omega) (cU (fun c=>t6.mk (fu (cR (hG A' u9.h) 20 ⟨(by decide:1<=Zc),fun ca hca => .mk ((ca,.list _)::(oa,.list (E5.map aY))::X0) (KC.mk (TS c hc))⟩))) fun c => .mk _ (KC.mk (TT c hc)))))) fun ca X=>?_;refine hM (KC n d ((bl n E5).map dm) (bh n o::os)) (fR fun A' u9 led' A8=>jX (T.bool (p:=o.tag=av) (bH (hG A' u9.h) 20 ⟨.mk list_getitem_lookup (br (Yi ..)),t6.mk (bG (.own (Yi ..)) (by decide) (by decide) (x:=aY o) rfl (t6.mk (fw (by decide) (by decide) (x:=.str o.tag) rfl ⟨rfl,beq_iff_eq⟩)))⟩) (fun c=>?_) fun c=>bP (.mk _ (KC.mk (by rw[EF c]))))) fun ca X=>?_
 ·refine ah (cH rfl rfl rfl (ad (hG A' u9.h) 20 ⟨.mk list_getitem_lookup (br (Yi ..)),t6.mk (bG (.own (Yi ..)) (by decide) (by decide) (x:=cD o) rfl (dv u9.h @_ @_ @_ (de _ rfl _ _ rfl rfl ?_)))⟩));refine ah (cH rfl rfl rfl (ad (hG A' u9.h) 40 (t6.mk (kh u9.h (t6.mk (kh u9.h (tW (ad (hG A' u9.h) 20 (ad (hG A' u9.h) 20 ?_)))))))));refine zo (j:=0) .here (JS o (bh n o) os (QT c)) (.inl rfl) (by rw[Yl];exact Nat.succ_pos _) (by rw[Yl,Yq];omega) ?_;refine bP ?_;exact ģ.mk _ (KC.mk rfl)
 refine bK (AF (bh n o) os) fun ini z hz hlz=>?_;have a_:=Iq (n:=n) hc hz;rw[hz];refine hM (KC n d ((bl n E5).map dm) (ini++[bg n z])) (fR fun A' u9 led' A8=>jX (T.bool (p:=z.tag=av) (bH (hG A' u9.h) 20 ⟨.mk list_getitem_lookup (br (Yi ..)),t6.mk (mw (.own (Yi ..)) (xs:=ini.map aY) (x:=aY z) YK (by rw[Yl];omega) (t6.mk (fw (by decide) (by decide) (x:=.str z.tag) rfl ⟨rfl,beq_iff_eq⟩)))⟩) (fun c=>?_) fun c=>bP (.mk _ (KC.mk (by rw[Em c]))))) fun ca X=>?_
 ·refine ah (cH rfl rfl rfl (ad (hG A' u9.h) 20 ⟨.mk list_getitem_lookup (br (Yi ..)),t6.mk (mw (.own (Yi ..)) (xs:=ini.map aY) (x:=cD z) YK (by rw[Yl];omega) (dv u9.h @_ @_ @_ (de _ rfl _ _ rfl rfl ?_)))⟩));refine ah (cH rfl rfl rfl (ad (hG A' u9.h) 40 (t6.mk (mr u9.h (t6.mk (mr u9.h (tW (ad (hG A' u9.h) 20 (ad (hG A' u9.h) 20 ?_)))))))));refine zo (j:=ini.length) .here (JR z (bg n z) ini (PX c)) (.inr ⟨by decide,by rw[Yl,Yr,d9];omega⟩) (by rw[Yl,Yr,d9];omega) (by rw[Yl,Yr,d9];omega) ?_;refine bP ?_;exact ģ.mk _ (KC.mk rfl)
 rw[← a_];have Β:(fY n E5).length<10^6+10:=by rw[a_,Yr,d9];omega
 unfold bl;generalize fY n E5=cs at *;clear a_ hz hc y4 hlz;refine fS _ (fun A' u9 led' A8=>aF (hG A' u9.h) 20 .mk) ?_;refine dY (fR fun A' u9 led' A8=>aF (hG A' u9.h) 20 (t6.mk (dq rfl fun ga η => .mk ((ga,.list [])::(ca,.list (cs.map aY))::X) ?_)));refine TG.weak (.perm (c0 _ _ _)) (TG.freeze (w6:=yh n d cs .any .any .any .any .any ga) (by repeat constructor) ?_);refine pj (k:=5) aY (JG n d cs X) ⋯ (fun A' u9 led' A8=>ad (hG A' u9.h) 20 (eJ (k:=5) fun it gl hI => .mk (l:=(ga,.list [])::X) hI (.mk (fun O y=>y _ _ ga (N5.start Β)) @_))) ?_ ?_ (fun O=>@_)
 ·intro gl p ps xs rows ga h;have hr:=h.room;refine .mk (fun A' u9 led' A8=>dv u9.h @_ @_ @_ (de _ rfl _ _ rfl rfl rfl)) ?_;refine hM (We n d cs (X++gl) p ps) (jZ (p:=yn n p) (fun A' u9 led' A8=>bH (hG A' u9.h) 20 (cU (fun c1=>bE (fun c2=>⟨rfl,iff_of_true rfl ⟨beq_iff_eq.mp c1,c2⟩⟩) fun c2=>⟨rfl,iff_of_false Zd fun q=>c2 q.2⟩) fun c1=>⟨rfl,iff_of_false Zd fun q=>beq_eq_false_iff_ne.mp c1 q.1⟩)) (fun c=>?_) fun c=>cP (R1.mk (fun O y=>y _ _ _ _ ga (h.same c)) @_)) fun qi qj xs rows gc h=>?_
  ·refine ae (h.cut c) fun rest O2 g=>?_;subst O2;refine dY (fR fun A' u9 led' A8=>aF (hG A' u9.h) 40 ⟨br (Yi ..),t6.mk (mr u9.h (t6.mk (mr u9.h (t6.mk (eH .here (by rw[ZD];omega) (.mk ((ga,.list (xs++[_]))::(X++gl)) ?_))))))⟩);refine TG.freeze (w6:=lL n d (.str p.tag) (.int (p.i1:Nat)) (.int (p.i2:Nat)) (.int (p.j1:Nat)) (.int (p.j2:Nat)) (.lst (cs.map aY)) (.int ((n:Int)+(n:Int))) (.lst (xs++[_]))) (by repeat constructor) ?_;refine dY (yZ (fun A' u9 led' A8=>ad (hG A' u9.h) 20 (.mk (X++gl) ?_)) @_ @_);refine dY (fR fun A' u9 led' A8=>aF (hG A' u9.h) 20 (t6.mk (dq rfl fun gc hgc => .mk ((gc,.list [])::(X++gl)) ?_)));exact dY (fR fun A' u9 led' A8=>aF (hG A' u9.h) 40 (t6.mk (kh u9.h (t6.mk (kh u9.h (.mk ((gc,.list [])::(X++gl)) (cP (R1.mk (fun O y=>y _ _ _ _ gc g) @_))))))))
  ·have hr:=h.room;refine dY (fR fun A' u9 led' A8=>aF (hG A' u9.h) 20 ⟨br (Yi ..),t6.mk (eH .here (by rw[ZD];omega) (.mk ((gc,.list (xs++[_]))::(X++gl)) ?_))⟩);exact cP (.next (l:=(gc,.list (xs++[_]))::X) (.mk (fun O y=>y _ _ gc h.put) @_))
 ·intro xs rows ga h;have hr:=h.room;refine dY (TG.mono (K:=KE fun O=>True) (jZ (p:=rows=[.lst xs]) (fun A' u9 led' A8=>?_) (fun c=>?_) fun c=>?_) fun f st rows h=>?_)
  ·refine bH (hG A' u9.h) 40 (t6.mk (pB (.own (Yi ..)) ⋯ (cU (fun c1=>t6.mk (mt (.own (Yi ..)) ⋯ (mO (fun c2=>?_) fun c2=>⟨rfl,iff_of_true rfl (h.many c1 c2)⟩))) fun c1=>⟨rfl,iff_of_false Zd fun q=>?_⟩)))
   ·refine aZ (h.one c2) fun q e h1 h2=>?_;refine And.intro (.mk list_getitem_lookup (br (Yi ..))) (t6.mk (bG (.own (Yi ..)) (by decide) (by decide) (x:=cD q) (by rw[e];rfl) (t6.mk (fw (by decide) (by decide) (x:=.str q.tag) rfl (cU (fun c3=>?_) fun c3=>?_)))))
    ·exact⟨rfl,iff_of_false Zd fun q'=>nomatch (h1 (beq_iff_eq.mp c3)).symm.trans q'⟩
    ·exact⟨rfl,iff_of_true rfl (h2 (beq_eq_false_iff_ne.mp c3))⟩
   ·rw[h.none c1] at q;cases q
  ·subst c;refine TG.freeze (w6:=lL n d .any .any .any .any .any (.lst (cs.map aY)) (.int ((n:Int)+(n:Int))) (.lst xs)) (by repeat constructor) ?_;exact dY (yZ (fun A' u9 led' A8=>ad (hG A' u9.h) 20 (.mk X (cP (KE.mk trivial)))) @_ @_)
  ·induction h.last with
   |inl e=>subst e;exact cP (KE.mk trivial)
   |inr e=>exact absurd e c
  ·induction h with
   |mk _=>exact cP rfl
noncomputable def tv(x:Str):Str:=(Yn "\t" ++ x)
theorem OS{t u1:Tok}(hx:x.length<10^5):Meets (Builtin.«str.format» ⟨[.str (Str.mk #[9,123,125]) t,.str x u1],[]⟩) (fun O R s=>∀t' k,R (.ok (.ret (.str ((Yn "\t" ++ x)) t'))) {s with toks:=k}) :=
 jM (F:=[9,123,125]) (.field (l:=[9]) (rest:=[]) (L:=Yn "\t") rfl (ZB rfl) rfl rfl (.str (a6 hx)) (by decide +kernel) KFm.cat_ex .done) (ZB rfl) (ZB rfl)
noncomputable def Fa(x y z:Str):Str:=(((Yn "--- " ++ x)++y)++z)
theorem OR{z:Str}{t u1 u2 u3:Tok}(hx:x.length<10^5)(hy:y.length<10^5)(hz:z.length<10^5):Meets (Builtin.«str.format» ⟨[.str (Str.mk #[45,45,45,32,123,125,123,125,123,125]) t,.str x u1,.str y u2,.str z u3],[]⟩) (fun O R s=>∀t' k,R (.ok (.ret (.str ((((Yn "--- " ++ x)++y)++z)) t'))) {s with toks:=k}) :=
 jM (F:=[45,45,45,32,123,125,123,125,123,125]) (.field (l:=[45,45,45,32]) (rest:=[123,125,123,125]) (L:=Yn "--- ") rfl (ZB rfl) rfl rfl (.str (a6 hx)) (by decide +kernel) KFm.cat_ex (.field (l:=[]) (rest:=[123,125]) (L:=Yn "") rfl (ZB rfl) rfl rfl (.str (a6 hy)) (by decide +kernel) KFm.cat_te (.field (l:=[]) (rest:=[]) (L:=Yn "") rfl (ZB rfl) rfl rfl (.str (a6 hz)) (by decide +kernel) KFm.cat_te .done))) (ZB rfl) (ZB rfl)
noncomputable def Fb(x y z:Str):Str:=(((Yn "*** " ++ x)++y)++z)
theorem OX{z:Str}{t u1 u2 u3:Tok}(hx:x.length<10^5)(hy:y.length<10^5)(hz:z.length<10^5):Meets (Builtin.«str.format» ⟨[.str (Str.mk #[42,42,42,32,123,125,123,125,123,125]) t,.str x u1,.str y u2,.str z u3],[]⟩) (fun O R s=>∀t' k,R (.ok (.ret (.str ((((Yn "*** " ++ x)++y)++z)) t'))) {s with toks:=k}) :=
 jM (F:=[42,42,42,32,123,125,123,125,123,125]) (.field (l:=[42,42,42,32]) (rest:=[123,125,123,125]) (L:=Yn "*** ") rfl (ZB rfl) rfl rfl (.str (a6 hx)) (by decide +kernel) KFm.cat_ex (.field (l:=[]) (rest:=[123,125]) (L:=Yn "") rfl (ZB rfl) rfl rfl (.str (a6 hy)) (by decide +kernel) KFm.cat_te (.field (l:=[]) (rest:=[]) (L:=Yn "") rfl (ZB rfl) rfl rfl (.str (a6 hz)) (by decide +kernel) KFm.cat_te .done))) (ZB rfl) (ZB rfl)
noncomputable def oU(x y:Str):Str:=(((Yn "*** " ++ x)++Yn " ****")++y)
theorem OZ{t u1 u2:Tok}(hx:x.length<10^5)(hy:y.length<10^5):Meets (Builtin.«str.format» ⟨[.str (Str.mk #[42,42,42,32,123,125,32,42,42,42,42,123,125]) t,.str x u1,.str y u2],[]⟩) (fun O R s=>∀t' k,R (.ok (.ret (.str ((((Yn "*** " ++ x)++Yn " ****")++y)) t'))) {s with toks:=k}) :=
 jM (F:=[42,42,42,32,123,125,32,42,42,42,42,123,125]) (.field (l:=[42,42,42,32]) (rest:=[32,42,42,42,42,123,125]) (L:=Yn "*** ") rfl (ZB rfl) rfl rfl (.str (a6 hx)) (by decide +kernel) KFm.cat_ex (.field (l:=[32,42,42,42,42]) (rest:=[]) (L:=Yn " ****") rfl (ZB rfl) rfl rfl (.str (a6 hy)) (by decide +kernel) rfl .done)) (ZB rfl) (ZB rfl)
noncomputable def iK(x y:Str):Str:=(((Yn "--- " ++ x)++Yn " ----")++y)
theorem OY{t u1 u2:Tok}(hx:x.length<10^5)(hy:y.length<10^5):Meets (Builtin.«str.format» ⟨[.str (Str.mk #[45,45,45,32,123,125,32,45,45,45,45,123,125]) t,.str x u1,.str y u2],[]⟩) (fun O R s=>∀t' k,R (.ok (.ret (.str ((((Yn "--- " ++ x)++Yn " ----")++y)) t'))) {s with toks:=k}) :=
 jM (F:=[45,45,45,32,123,125,32,45,45,45,45,123,125]) (.field (l:=[45,45,45,32]) (rest:=[32,45,45,45,45,123,125]) (L:=Yn "--- ") rfl (ZB rfl) rfl rfl (.str (a6 hx)) (by decide +kernel) KFm.cat_ex (.field (l:=[32,45,45,45,45]) (rest:=[]) (L:=Yn " ----") rfl (ZB rfl) rfl rfl (.str (a6 hy)) (by decide +kernel) rfl .done)) (ZB rfl) (ZB rfl)
noncomputable abbrev ip(vv:YA)(w:YH)(S:Str->Bool)(n:Nat):y1:=.obj (fun O o=>Obj.SetObjOf (YT vv w) o S n) fun O O O O x=>x
theorem AB{S:Str->Bool}{t:Tok}{led led':aa}{Q:Bool->Yo->Prop}(hn:n+1<scanBound)
  (U:Upd d (ip vv w S n) (ip vv w (fun k=>S k||decide (k=x)) (if S x then n else n+1)) led led')
  (Sm:w5 B s9 s Z ⟨loc,led⟩) (hQ:∀s',w5 B s9 s' Z ⟨loc,led'⟩->y8 (aD s9 ⟨loc,led⟩) s Z s' Z (aD s9 ⟨loc,led'⟩)->Q (!S x) s'):YJ (YG vv w) A (setAdd d (.str x t)) Q E s:=by
 refine ae (Sm.own _ U.mem) fun o ho Ù=>?_;dsimp only at ho;unfold setAdd;refine Yw (Yh ((YT vv w).pyHash (strKind_is vv w x t) ?_));refine wpAny_setAddHashed_of (s:={ s with toks:=s.toks+1}) (strKind_is vv w x t) rfl (Ù.setOf ho ⋯) hn fun h' Q7 hS'=>?_;refine ae hS'.objOf fun so' I' R'=>?_;have P:=Sm.tot8.upd U (h':=h') (tk:=s.toks+1) (fun b ob hb e=>Q7.extBut b ob hb e) rfl rfl ⟨so',I',R'⟩;exact hQ _ (Sm.after P.1 P.2) P.2.toF
theorem Jb{S:Str->Bool}{led:aa}{Q:Unit->Yo->Prop}(hn:n<scanBound)
  (Sm:w5 B s9 s Z ⟨loc,(d,ip vv w S n)::led⟩) (hQ:∀s',w5 B s9 s' Z ⟨loc,(d,ip vv w S n)::led⟩->y8 (aD s9 ⟨loc,(d,ip vv w S n)::led⟩) s Z s' Z (aD s9 ⟨loc,(d,ip vv w S n)::led⟩)->Q () s'):YJ (YG vv w) A (setUnled d) Q E s:=by
 refine ae (Sm.own _ (Yi ..)) fun o ho Ù=>?_;dsimp only at ho;obtain⟨hex,es,ep,t,hd,hel,hmem,U8,hf⟩:=Ù;have Ä:es.size<scanBound:=by rw[U8];exact hn
 have hf':({t with led:=false}:SetTable).fits es.size=true:=by cases t;exact hf
 unfold setUnled;refine Yh (wpAny_setState_of ho hd hf ?_);dsimp only;refine wpAny_storeSet_of ho hd ?_ (fits_of_scanBound Ä);refine aL (SetOf_store (knd:=YT vv w) ho hex hd hel hmem Ä hf') fun O hS=>?_;refine ae hS.objOf fun so' I' R'=>?_;rw[U8] at R';have P:=Sm.tot8.upd (Upd.here (o':=ip vv w S n)) (h':=s.heap.update d (Obj.putSet es {t with led:=false})) (tk:=s.toks) (fun b ob hb e=>(YX ..).extBut b ob hb e) rfl rfl ⟨so',I',R'⟩;exact hQ _ (Sm.after P.1 P.2) P.2.toF
theorem QE{K:Frag}{c1 c2:Str}{k1 k2:Nat}{p1 p2 p:Pos}{t:Tok}(hc:∀s:Yo,K.In s.heap->∀(Q:Bool->Yo->Prop),(∀b,Q b s)->YJ (YG vv w) A (inMainModule s9) Q E s)
  (Sm:w5 (ap K) s9 s Z st) (hQ:∀s',w5 (ap K) s9 s' Z st->y8 (aD s9 st) s Z s' Z (aD s9 st)->Q (.bool (x==c1||x==c2)) s') :
  YJ (YG vv w) A (ZI (.Set [.Constant (.str c1) k1 p1,.Constant (.str c2) k2 p2] 0 p) s9) (fun b s₂=>KdiMark (YG vv w) A E b (fun w7=>YJ (YG vv w) A (g5 .In (.str x t) b) Q E w7) s₂) E s:=by
 obtain⟨loc,led⟩:=st;rw[arm_eval_Set];refine Yh (YU ?_);refine Yh (hc s (dA Sm.base Sm.frozen) _ fun b=>?_);rw[kds_star [.Constant (.str c1) k1 p1,.Constant (.str c2) k2 p2] rfl,ZR];refine kds_core (ts:=(evalEach [.Constant (.str c1) k1 p1,.Constant (.str c2) k2 p2] s9).map fun t=>do let v ← t;standAt p;b9 v) rfl ?_ ?_ ?_ fun lb=>?_
 ·refine List.findIdx?_eq_none_iff.mpr fun x hx=>?_;refine ae (YM.mp hx) fun t O O3=>?_;subst O3;rfl
 ·rw[Yl,kds_len];show 2<=30;decide
 ·rw[ZR];try rfl
 ·have P:=Sm.tot8.push (o:={ cls:=.type "set",dict:=none,data:=.set #[] 0 (.fresh 0 0 lb)}) (ao:=ip vv w (fun O=>false) 0) rfl s.toks ⟨_,Ys _ rfl,PyProof.Rows.setObjOf_fresh lb⟩;have S0:=Sm.after P.1 P.2;refine kds_all p _ _ _ ?_;show YJ (YG vv w) A (ZI (.Constant (.str c1) k1 p1) s9) (fun v s'=>YJ (YG vv w) A (ZI (.Constant (.str c2) k2 p2) s9) (fun v' G5=>KdsFill (YG vv w) A E _ _ _ [v,v'] G5) E s') E _;refine j3 (j3 ?_);have S1:=(S0.toks (s.toks+1)).toks (s.toks+1+1);refine kds_fill_cons (AB (n:=0) (by decide) Upd.here S1 fun s2 S2 X2=>?_);refine kds_fill_cons (AB (n:=1) (by decide) Upd.here S2 fun s3 S3 X3=>?_);refine kds_fill_nil rfl (kdi_mark ?_);have ē:(if (false||decide (c2=c1))=true then 1 else 1+1)<scanBound:=by split <;> decide
  refine Jb ē S3 fun s4 S4 X4=>?_;refine ae (S4.own _ (Yi ..)) fun o ho Ù=>?_;dsimp only at ho;refine wpAny_inSet_of (knd:=YT vv w) (k:=x) (strKind_is vv w x t) rfl (Ù.setOf ho ē) ?_;have e:((false||decide (x=c1))||decide (x=c2))=(x==c1||x==c2):=by
   rw[Bool.false_or,k4,Bool.or_eq_true,Bool.or_eq_true,decide_eq_true_eq,decide_eq_true_eq,beq_iff_eq,beq_iff_eq]
  rw[e];have X:=(((P.2.toF.trans (y8.toks (s.toks+1+1))).trans X2).trans X3).trans X4;exact hQ _ (S4.drop1.toks _) ((X.trans (y8.toks _)).dropF (l:=[_]))
theorem GC{K:Frag}{l:Expr}{c1 c2:Str}{k1 k2:Nat}{p1 p2 p:Pos}(hc:∀ {E:Value->Yo->Prop},∀s:Yo,K.In s.heap->∀(Q:Bool->Yo->Prop),(∀b,Q b s)->YJ (YG vv w) A (inMainModule s9) Q E s)(hm:behindInMarks .In (.Set [.Constant (.str c1) k1 p1,.Constant (.str c2) k2 p2] 0 p)=true)
  (h:T vv w A (ap K) s9 Val (ZI l s9) st fun v t5=>∃x,v=.str x/\R (.bool (x==c1||x==c2)) t5):T vv w A (ap K) s9 Val (ZI (.Compare l [.In] [.Set [.Constant (.str c1) k1 p1,.Constant (.str c2) k2 p2] 0 p] pos) s9) st R:=fun s Z S Q E hQ=>by
 refine kdi_eval hm (h s Z S _ _ fun v y s1 Z1 aS k S1 V X1=>?_);refine ae k ?_;clear k;intro x O2 k;subst O2
 (refine aq V.inv fun t_ e_=>?_;subst e_)
 refine QE hc S1 fun s2 S2 X2=>?_;exact hQ _ _ s2 Z1 aS k S2 (.bool _) (X1.trans X2)
theorem GX(hx:x.length<10^5)(h:R (.str (tv x)) st):FC vv w A B s9 (.blt "str.format") [.str (Str.mk (ZH [9,123,125])),.str x] [] st R :=
 GW (fun Z t=>Val.eStr fun O=>OS hx) h
theorem WU{z:Str}(hx:x.length<10^5)(hy:y.length<10^5)(hz:z.length<10^5)(h:R (.str (Fa x y z)) st):FC vv w A B s9 (.blt "str.format") [.str (Str.mk (ZH [45,45,45,32,123,125,123,125,123,125])),.str x,.str y,.str z] [] st R :=
 GV (fun Z t=>Val.eStr fun O=>Val.eStr fun O=>Val.eStr fun O=>OR hx hy hz) h
theorem WW{z:Str}(hx:x.length<10^5)(hy:y.length<10^5)(hz:z.length<10^5)(h:R (.str (Fb x y z)) st):FC vv w A B s9 (.blt "str.format") [.str (Str.mk (ZH [42,42,42,32,123,125,123,125,123,125])),.str x,.str y,.str z] [] st R :=
 GV (fun Z t=>Val.eStr fun O=>Val.eStr fun O=>Val.eStr fun O=>OX hx hy hz) h
theorem WY(hx:x.length<10^5)(hy:y.length<10^5)(h:R (.str (oU x y)) st):FC vv w A B s9 (.blt "str.format") [.str (Str.mk (ZH [42,42,42,32,123,125,32,42,42,42,42,123,125])),.str x,.str y] [] st R :=
 zi (fun Z t=>Val.eStr fun O=>Val.eStr fun O=>OZ hx hy) h
theorem WX(hx:x.length<10^5)(hy:y.length<10^5)(h:R (.str (iK x y)) st):FC vv w A B s9 (.blt "str.format") [.str (Str.mk (ZH [45,45,45,32,123,125,32,45,45,45,45,123,125])),.str x,.str y] [] st R :=
 zi (fun Z t=>Val.eStr fun O=>Val.eStr fun O=>OY hx hy) h
noncomputable abbrev sE:Str:=⟨⟨[]⟩⟩
noncomputable def iM(d:Str):Str:=if d.length=0 then sE else tv d
noncomputable def aE(a:List Str)(i j:Nat):List Str:=(a.drop i).take (j-i)
noncomputable def CN:Op:=⟨sE,0,0,0,0⟩
noncomputable def aH(g:List Op):Op:=g.headD CN
noncomputable def ay(g:List Op):Op:=g.getLastD CN
structure E0 (la lb:Nat) (g:List Op):Prop where
 ne:g≠[]
 i:∀o∈g,o.i1<=o.i2/\o.i2<=la
 j:∀o∈g,o.j1<=o.j2/\o.j2<=lb
 ii:(aH g).i1<=(ay g).i2
 jj:(aH g).j1<=(ay g).j2
 len:g.length<10^7
 tg:∀o∈g,o.tag=av∨o.tag=bR∨o.tag=bx∨o.tag=bA
theorem E0.last{la lb:Nat}{g:List Op}(h:E0 la lb g):∃os,g=os++[ay g]:=by
 rcases n5 g with h' |⟨l,x,h'⟩
 ·exact absurd h' h.ne
 ·refine⟨l,?_⟩;rw[n6] at h';subst h';simp[ay,List.getLastD_eq_getLast?]
theorem E0.i2{la lb:Nat}{g:List Op}(h:E0 la lb g):(ay g).i2<=la/\(ay g).j2<=lb:=by
 refine aq h.last fun os e=>?_;have hm:ay g∈g:=by
  rw[e];simp
  exact .inr (by rw[← e])
 exact⟨(h.i _ hm).2,(h.j _ hm).2⟩
def G3:Nat->Nat->List ab->Prop
 |_,_,[]=>True
 |i,j,t::ts=>i<=t.1/\j<=t.2.1/\G3 (t.1+t.2.2) (t.2.1+t.2.2) ts
theorem G3.mono{i' j':Nat}{ts:List ab}(h:G3 i j ts)(h1:i'<=i)(h2:j'<=j):G3 i' j' ts :=
 match ts,h with
 | [],_=>trivial
 |_::_,h=>⟨Zg h1 h.1,Zg h2 h.2.1,h.2.2⟩
theorem G3.app{xs ys zs:List ab}(k:∀i j,G3 i j ys->G3 i j zs):∀ {i j:Nat},G3 i j (xs++ys)->G3 i j (xs++zs):=by
 induction xs with
 |nil=>exact k _ _
 |cons x xs ih=>exact fun h=>⟨h.1,h.2.1,ih h.2.2⟩
theorem G3.cut{t:ab}{ys:List ab}(h0:t.2.2=0)(i j:Nat)(h:G3 i j (t::ys)):G3 i j ys :=
 h.2.2.mono (Zg h.1 (n9 ..)) (Zg h.2.1 (n9 ..))
theorem G3.join{s t:ab}{ys:List ab}(e1:s.1+s.2.2=t.1)(e2:s.2.1+s.2.2=t.2.1)(i j:Nat)(h:G3 i j (s::t::ys)):G3 i j ((s.1,s.2.1,s.2.2+t.2.2)::ys) :=
 ⟨h.1,h.2.1,h.2.2.2.2.mono (o5 (e1▸(p6 ..).symm)) (o5 (e2▸(p6 ..).symm))⟩
theorem G3.drop{s:ab×List ab}{r:List ab}(h:G3 0 0 (s.2++s.1::r)):G3 0 0 ((if s.1.2.2=0 then s.2 else s.2++[s.1])++r):=by
 split
 ·rename_i h0;exact G3.app (G3.cut h0) h
 ·rw[YN];exact h
theorem G3.adj(ts:List ab):∀(s:ab×List ab) (r:List ab),G3 0 0 (s.2++s.1::(ts++r))->G3 0 0 (dW (ts.foldl cA s)++r):=by
 induction ts with
 |nil=>exact fun s r h=>h.drop
 |cons t ts ih =>
  intro s r h;rw[Zu];refine ih _ r ?_;unfold cA;split
  ·rename_i hc
   exact G3.app (G3.join hc.1 hc.2) h
  ·exact G3.drop (s:=s) h
theorem G3.of_pairwise{la lb:Nat}{ts:List ab}:∀ {i j:Nat},ts.Pairwise yV->(∀t∈ts,i<=t.1/\j<=t.2.1)->(∀t∈ts,t.1+t.2.2<=la/\t.2.1+t.2.2<=lb)->i<=la->j<=lb->G3 i j (ts++[(la,lb,0)]):=by
 induction ts with
 |nil=>exact fun O O O h1 h2=>⟨h1,h2,trivial⟩
 |cons t ts ih=>exact fun hp hl hu h1 h2 =>
  have p:=g9.mp hp
  ⟨(hl t (Yi ..)).1,(hl t (Yi ..)).2,ih p.2 p.1 (fun u hm=>hu u (Yk _ hm)) (hu t (Yi ..)).1 (hu t (Yi ..)).2⟩
theorem yM{fl:Nat->Nat->Nat->Nat->ab}(ok:cQ fl)(la lb:Nat):G3 0 0 (aW fl la lb) :=
 G3.adj _ ((0,0,0),[]) _ ⟨YR _,YR _,G3.of_pairwise (DS ok _ _ _ _ _ (YD _) (YD _)) (fun t ht=>⟨YD _,YD _⟩)
  (fun t ht=>have h:=yc ok (la-0) 0 la 0 lb (YD _) (YD _) t ht;⟨h.2.1,h.2.2.2.1⟩) (YD _) (YD _)⟩
def A2:Nat->Nat->List Op->Nat->Nat->Prop
 |i,j,[],i',j'=>i=i'/\j=j'
 |i,j,o::os,i',j'=>o.i1=i/\o.j1=j/\i<=o.i2/\j<=o.j2/\A2 o.i2 o.j2 os i' j'
theorem A2.nil:A2 i j [] i j:=⟨rfl,rfl⟩
theorem A2.append{xs ys:List Op}{m i' j':Nat}(h':A2 m n ys i' j'):∀ {i j:Nat},A2 i j xs m n->A2 i j (xs++ys) i' j':=by
 induction xs with
 |nil=>exact fun h=>h.1▸h.2▸h'
 |cons x xs ih=>exact fun h=>⟨h.1,h.2.1,h.2.2.1,h.2.2.2.1,ih h.2.2.2.2⟩
theorem A2.snoc{xs:List Op}{m:Nat}(p:A2 i j xs m k)(h:o.i1=m)(h':o.j1=k)(l1:o.i1<=o.i2)(l2:o.j1<=o.j2):A2 i j (xs++[o]) o.i2 o.j2:=A2.append (show A2 m k [o] _ _ from⟨h,h',h▸l1,h'▸l2,rfl,rfl⟩) p
theorem A2.split{xs ys:List Op}{i' j':Nat}:∀ {i j:Nat},A2 i j (xs++ys) i' j'->∃m n,A2 i j xs m n/\A2 m n ys i' j':=by
 induction xs with
 |nil=>exact fun h=>dZ _ _ .nil h
 |cons x xs ih=>exact fun h=>bK (ih h.2.2.2.2) fun m n h1 h2=>dZ m n ⟨h.1,h.2.1,h.2.2.1,h.2.2.2.1,h1⟩ h2
theorem A2.le{xs:List Op}{i' j':Nat}:∀ {i j:Nat},A2 i j xs i' j'->i<=i'/\j<=j':=by
 induction xs with
 |nil=>exact fun h=>⟨o5 h.1,o5 h.2⟩
 |cons x xs ih=>exact fun h=>⟨Zg h.2.2.1 (ih h.2.2.2.2).1,Zg h.2.2.2.1 (ih h.2.2.2.2).2⟩
theorem A2.mem{xs:List Op}{i' j':Nat}:∀ {i j:Nat},A2 i j xs i' j'->∀o∈xs,i<=o.i1/\o.i1<=o.i2/\o.i2<=i'/\j<=o.j1/\o.j1<=o.j2/\o.j2<=j':=by
 induction xs with
 |nil=>exact fun O=>aG
 |cons x xs ih=>exact fun h o ho=>(Yp.mp ho).elim (fun e=>e▸⟨o5 h.1.symm,h.1▸h.2.2.1,h.2.2.2.2.le.1,o5 h.2.1.symm,h.2.1▸h.2.2.2.1,h.2.2.2.2.le.2⟩) fun ho =>
  have r:=ih h.2.2.2.2 o ho
  ⟨Zg h.2.2.1 r.1,r.2.1,r.2.2.1,Zg h.2.2.2.1 r.2.2.2.1,r.2.2.2.2⟩
theorem Uc{ai bj:Nat}(a1:i<=ai)(a2:j<=bj):A2 i j (bC i ai j bj) ai bj:=by
 unfold bC;split
 ·exact⟨rfl,rfl,a1,a2,rfl,rfl⟩
 ·split
  ·exact⟨rfl,rfl,a1,a2,rfl,rfl⟩
  ·split
   ·exact⟨rfl,rfl,a1,a2,rfl,rfl⟩
   ·rename_i q1 q2
    exact⟨Nat.le_antisymm a1 (Nat.not_lt.mp q1),Nat.le_antisymm a2 (Nat.not_lt.mp q2)⟩
theorem Ql(t:ab):A2 t.1 t.2.1 (cW t) (t.1+t.2.2) (t.2.1+t.2.2):=by
 unfold cW;split
 ·rename_i h
  exact⟨h▸rfl,h▸rfl⟩
 ·exact⟨rfl,rfl,n9 ..,n9 ..,rfl,rfl⟩
theorem NF(ts:List ab):∀(s:(Nat×Nat)×List Op),G3 s.1.1 s.1.2 ts->A2 0 0 s.2 s.1.1 s.1.2->A2 0 0 (ts.foldl cr s).2 (ts.foldl cr s).1.1 (ts.foldl cr s).1.2:=by
 induction ts with
 |nil=>exact fun O O h=>h
 |cons t ts ih=>exact fun s ha h=>ih (cr s t) ha.2.2 (A2.append (Ql t) (A2.append (Uc ha.1 ha.2.1) h))
theorem NI:∀(ts:List ab) (s:(Nat×Nat)×List Op) (la lb:Nat),((ts++[(la,lb,0)]).foldl cr s).1=(la,lb):=fun ts s la lb=>by
 rw[List.foldl_append];rfl
theorem qI{fl:Nat->Nat->Nat->Nat->ab}(ok:cQ fl)(la lb:Nat):A2 0 0 (bY (aW fl la lb)) la lb:=by
 have h:=NF (aW fl la lb) ((0,0),[]) (yM ok la lb) .nil;rw[show ((aW fl la lb).foldl cr ((0,0),[])).1=(la,lb) from NI _ _ _ _] at h;exact h
def R3(la lb:Nat)(g:List Op):Prop:=∃i j i' j',A2 i j g i' j'/\i'<=la/\j'<=lb
theorem mQ(f:Op->Op)(z:Op)(xs:List Op):dg f (xs++[z])=xs++[f z]:=by
 induction xs with
 |nil=>rfl
 |cons x xs ih =>
  cases xs with
  |nil=>rfl
  |cons y xs=>exact congrArg (List.cons x) ih
theorem kA{P:List α->Prop}(xs:List α)(n:P [])(c:∀l x,P (l++[x])):P xs :=
 (n5 xs).elim (fun e=>e▸n) fun⟨l,x,e⟩=>(e.trans (n6 ..))▸c l x
theorem max_le{a b:Nat}(h:a<=b):max a (b-n)<=b:=Nat.max_le.mpr ⟨h,r7 ..⟩
theorem le_min{a b:Nat}(h:a<=b):a<=min b (a+n):=Nat.le_min.mpr ⟨h,n9 ..⟩
theorem R3.head{la lb:Nat}{g:List Op}(h:R3 la lb g):R3 la lb (jz (bh n) g):=by
 cases g with
 |nil=>exact h
 |cons o os =>
  refine ed h fun i j i' j' hp h1 h2=>?_;show R3 la lb (bh n o::os);unfold bh;split
  ·exact iP _ _ i' j' ⟨rfl,rfl,max_le (hp.1▸hp.2.2.1),max_le (hp.2.1▸hp.2.2.2.1),hp.2.2.2.2⟩ h1 h2
  ·exact h
theorem R3.last{la lb:Nat}{g:List Op}:R3 la lb g->R3 la lb (dg (bg n) g) :=
 kA (P:=fun g=>R3 la lb g->R3 la lb (dg (bg n) g)) g (fun h=>h) fun l x h=>by
  rw[mQ];refine ed h fun i j i' j' hp h1 h2=>bK hp.split fun m k p1 p2=>?_;unfold bg;split
  ·exact iP i j _ _ (p1.snoc p2.1 p2.2.1 (le_min (p2.1▸p2.2.2.1)) (le_min (p2.2.1▸p2.2.2.2.1))) (Zg (Nat.min_le_left ..) (Zg p2.2.2.2.2.le.1 h1)) (Zg (Nat.min_le_left ..) (Zg p2.2.2.2.2.le.2 h2))
  ·exact h
theorem yu{Q:List Op->Prop}{I:List Op->List Op->Prop}(done:∀group,I group []->group≠[]->Q group)
  (cut:∀group o os,I group (o::os)->Q (group++[⟨o.tag,o.i1,min o.i2 (o.i1+n),o.j1,min o.j2 (o.j1+n)⟩])/\I [⟨o.tag,max o.i1 (o.i2-n),o.i2,max o.j1 (o.j2-n),o.j2⟩] os)
  (keep:∀group o os,I group (o::os)->I (group++[o]) os) (codes:List Op):∀group,I group codes->∀g∈cF n group codes,Q g:=by
 induction codes with
 |nil=>exact fun group h=>gW (P:=fun l=>∀g∈l,Q g) (fun O=>aG) (fun O=>aG) fun C8 O g hg=>YB.mp hg▸done group h fun e=>C8 (e▸rfl)
 |cons o os ih=>exact fun group h=>lS (P:=fun l=>∀g∈l,Q g) (fun O g hg=>(Yp.mp hg).elim (fun e=>e▸(cut group o os h).1) (ih _ (cut group o os h).2 g)) fun O=>ih _ (keep group o os h)
theorem Gj(xs:List α)(y:α)(zs:List α):xs++[y]++zs=xs++y::zs:=YN ..
theorem DH{xs:List α}{y:α}:xs++[y]≠[]:=fun e=>nomatch (List.append_eq_nil_iff.mp e).2
theorem Ru{la lb:Nat}{codes:List Op}(h:R3 la lb codes)(C8:codes≠[]):∀g∈bl n codes,g≠[]/\R3 la lb g:=by
 unfold bl fY;rw[List.isEmpty_eq_false_iff.mpr C8];refine yu (Q:=fun g=>g≠[]/\R3 la lb g) (I:=fun group codes=>R3 la lb (group++codes)) (fun group h hn=>⟨hn,Zv group▸h⟩) (fun group o os h=>?_) (fun group o os h=>(Gj ..).symm▸h) _ [] ((h.head (n:=n)).last (n:=n));refine ed h fun i j i' j' hp h1 h2=>bK hp.split fun m k p1 p2=>?_;exact⟨⟨DH,iP i j _ _ (p1.snoc p2.1 p2.2.1 (le_min (p2.1▸p2.2.2.1)) (le_min (p2.2.1▸p2.2.2.2.1))) (Zg (Nat.min_le_left ..) (Zg p2.2.2.2.2.le.1 h1)) (Zg (Nat.min_le_left ..) (Zg p2.2.2.2.2.le.2 h2))⟩,
  iP _ _ i' j' ⟨rfl,rfl,max_le (p2.1▸p2.2.2.1),max_le (p2.2.1▸p2.2.2.2.1),p2.2.2.2.2⟩ h1 h2⟩
theorem EM{l:Nat}:cF n [] [bg n (bh n ⟨av,i,k,j,l⟩)]=[]:=by
 unfold bh bg;rw[if_pos rfl,if_pos rfl];exact if_neg fun h=>Nat.not_lt.mpr (Zg (Nat.min_le_right ..) (p5 (n9 ..) _)) h.2
theorem oR:bl n []=[]:=EM
theorem EL{fl:Nat->Nat->Nat->Nat->ab}(ok:cQ fl)(la lb n:Nat):∀g∈bl n (bY (aW fl la lb)),g≠[]/\R3 la lb g:=by
 by_cases h:bY (aW fl la lb)=[]
 ·rw[h,oR];exact aG
 ·exact Ru ⟨0,0,la,lb,qI ok la lb,YR _,YR _⟩ h
theorem NX(f:Op->Op)(xs:List Op):(dg f xs).length=xs.length :=
 kA (P:=fun xs=>(dg f xs).length=xs.length) xs rfl fun l x=>by rw[mQ,Yr,Yr];rfl
theorem Oa(f:Op->Op)(xs:List Op):(jz f xs).length=xs.length:=by cases xs <;> rfl
theorem zW(codes:List Op):(fY n codes).length<=codes.length+1:=by
 unfold fY;rw[NX,Oa];split
 ·exact Nat.le_add_left ..
 ·exact Nat.le_succ _
theorem Rs{codes:List Op}:∀g∈bl n codes,g.length<=codes.length+2 :=
 yu (Q:=fun g=>g.length<=codes.length+2) (I:=fun group cs=>group.length+cs.length<=codes.length+1) (fun group h O=>r9 h)
  (fun group o os h=>by
   rw[Yr];rw[Yq] at h ⊢;exact⟨by show _+1<=_;omega,by show 1+_<=_;omega⟩)
  (fun group o os h=>by
   rw[Yr];rw[Yq] at h;show _+1+_<=_;omega) _ [] (r0 _▸zW codes)
def ph(t:Str):Prop:=t=av∨t=bR∨t=bx∨t=bA
def y5(os:List Op):Prop:=∀o∈os,ph o.tag
theorem y5.app{xs ys:List Op}(h:y5 xs)(h':y5 ys):y5 (xs++ys):=fun o ho=>(Zh.mp ho).elim (h o) (h' o)
theorem y5.one(h:ph o.tag):y5 [o]:=fun p hp=>YB.mp hp▸h
theorem y5.none:y5 []:=aG
theorem y5.hd(h:y5 (o::os)):ph o.tag:=h o (Yi ..)
theorem y5.tl(h:y5 (o::os)):y5 os:=fun p hp=>h p (Yk _ hp)
theorem CJ(bs:List ab):y5 (bY bs):=by
 have key:∀(ts:List ab) (s:(Nat×Nat)×List Op),y5 s.2->y5 (ts.foldl cr s).2:=by
  intro ts;induction ts with
  |nil=>intro s h;exact h
  |cons t ts ih =>
   intro s h;rw[Zu];refine ih _ ((h.app ?_).app ?_)
   ·unfold bC;split
    ·exact .one (.inr (.inl rfl))
    ·split
     ·exact .one (.inr (.inr (.inl rfl)))
     ·split
      ·exact .one (.inr (.inr (.inr rfl)))
      ·exact .none
   ·unfold cW;split
    ·exact .none
    ·exact .one (.inl rfl)
 exact key bs ((0,0),[]) .none
theorem tr(n:Nat)(o:Op):(bh n o).tag=o.tag:=by unfold bh;split <;> rfl
theorem oL(n:Nat)(o:Op):(bg n o).tag=o.tag:=by unfold bg;split <;> rfl
theorem NY(h:y5 os):y5 (jz (bh n) os):=by
 cases os with
 |nil=>exact h
 |cons o os=>exact y5.app (.one (tr n o▸h.hd)) h.tl
theorem NV:y5 os->y5 (dg (bg n) os) :=
 kA (P:=fun os=>y5 os->y5 (dg (bg n) os)) os (fun h=>h) fun l x h=>by
  rw[mQ];exact y5.app (fun o ho=>h o (Zq _ ho)) (.one (oL n x▸h x (YQ _ (YB.mpr rfl))))
theorem Rq{codes:List Op}(h:y5 codes):∀g∈bl n codes,y5 g:=by
 refine yu (Q:=y5) (I:=fun group cs=>y5 group/\y5 cs) (fun group h O=>h.1) (fun group o os h=>⟨h.1.app (.one h.2.hd),.one h.2.hd,h.2.tl⟩) (fun group o os h=>⟨h.1.app (.one h.2.hd),h.2.tl⟩) _ [] ⟨.none,?_⟩;unfold fY;refine NV (NY ?_);split
 ·exact .one (.inl rfl)
 ·exact h
section
variable{idx:Nat->List Nat}
theorem Sf{D:Int->Nat}{x:Int}(js:List Nat):∀s:(Int->Nat)×ab,(∀j∈js,x≠(j:Int))->(js.foldl (dF D i) s).1 x=s.1 x:=by
 induction js with
 |nil=>exact fun O O=>rfl
 |cons j js ih=>exact fun s h=>(ih _ fun j' h'=>h j' (Yk _ h')).trans (if_neg (h j (Yi ..)))
theorem Sh{D:Int->Nat}(js:List Nat):∀s:(Int->Nat)×ab,k∈js->(js.foldl (dF D i) s).1 (k:Int)=D ((k:Int)-1)+1:=by
 induction js with
 |nil=>exact fun O=>nofun
 |cons j js ih =>
  intro s h;by_cases c:k∈js
  ·exact ih _ c
  ·have q:=(Yp.mp h).resolve_right c;subst q;exact(Sf js _ fun j' h' e=>c ((Int.ofNat.inj e:k=j')▸h')).trans (if_pos rfl)
end
def y7(e:Nat->Nat->Bool)(t:ab):Prop:=∀d,d<t.2.2->e (t.1+d) (t.2.1+d)=true
section
variable{idx:Nat->List Nat}{alo t9 blo t7:Nat}
theorem y7.none:y7 e (i,j,0):=nofun
theorem y7.snoc(h:y7 e (i,j,k))(h':e (i+k) (j+k)=true):y7 e (i,j,k+1):=fun d hd =>
 (Nat.lt_succ_iff_lt_or_eq.mp hd).elim (h d) fun q=>q▸h'
theorem y7.cons(h:y7 e (i+1,j+1,k))(h':e i j=true):y7 e (i,j,k+1):=fun d hd =>
 match d,hd with
 |0,_=>h'
 |d+1,hd=>(o4 i d)▸(o4 j d)▸h d (Nat.lt_of_succ_lt_succ hd)
def E1(e:Nat->Nat->Bool)(i:Nat)(D:Int->Nat):Prop:=∀y p q:Nat,p+D ((y:Int)-1)=i->q+D ((y:Int)-1)=y->y7 e (p,q,D ((y:Int)-1))
theorem E1.start{D:Int->Nat}(h:∀x,D x=0):E1 e i D:=fun y p q O O=>(h ((y:Int)-1)).symm▸.none
theorem TR{y:Nat}(h:(y:Int)-1=(j:Int)):y=j+1:=by omega
theorem E1.inner{s:(Int->Nat)×ab}(hs:C2 alo blo t7 i s)(hr:E1 e i s.1)(hi:alo<=i)(js:List Nat):∀s2:(Int->Nat)×ab,(∀j∈js,blo<=j/\e i j=true)->E1 e (i+1) s2.1/\y7 e s2.2 ->
  E1 e (i+1) (js.foldl (dF s.1 i) s2).1/\y7 e (js.foldl (dF s.1 i) s2).2:=by
 induction js with
 |nil=>exact fun O O h=>h
 |cons j js ih =>
  intro s2 hj h;have g:=hj j (Yi ..);have l:=hs.len hi g.1;refine ih _ (fun j' h'=>hj j' (Yk _ h')) ⟨fun y p q=>?_,?_⟩
  ·show p+(if (y:Int)-1=(j:Int) then _ else _)=_->q+(if (y:Int)-1=(j:Int) then _ else _)=_->y7 e (p,q,if (y:Int)-1=(j:Int) then _ else _);split
   ·rename_i c
    rw[TR c];intro h1 h2;have h1:p+s.1 ((j:Int)-1)=i:=Nat.succ.inj h1;have h2:q+s.1 ((j:Int)-1)=j:=Nat.succ.inj h2;exact .snoc (hr j p q h1 h2) (h1.symm▸h2.symm▸g.2)
   ·exact h.1 y p q
  ·show y7 e (if _ then _ else _);have k1:=Nat.sub_add_cancel (Zg l.1 (r7 ..));have k2:=Nat.sub_add_cancel (Zg l.2 (r7 ..));split
   ·exact .snoc (hr j _ _ k1 k2) (k1.symm▸k2.symm▸g.2)
   ·exact h.2
theorem E1.scan(hi:∀i j,j∈idx i->e i j=true)(n:Nat):∀(i:Nat) (s:(Int->Nat)×ab),alo<=i->C2 alo blo t7 i s->E1 e i s.1/\y7 e s.2->y7 e (gb idx blo t7 (Zx i n) s).2:=by
 induction n with
 |zero=>exact fun O O O O h=>h.2
 |succ n ih=>exact fun i s hl hs h=>ih (i+1) (eQ (idx i) blo t7 i s) (r9 hl) (uV (idx i) hs hl) (E1.inner hs h.1 hl _ _ (fun j hj=>⟨(uC hj).1,hi i j (c7.mp hj).1⟩) ⟨.start fun O=>rfl,h.2⟩)
theorem AU(hi:∀i j,j∈idx i->e i j=true)(h:blo<=t7)(n:Nat):y7 e (gb idx blo t7 (Zx alo n) (fun O=>0,(alo,blo,0))).2 :=
 E1.scan hi n alo _ (YR _) (C2.start h) ⟨.start fun O=>rfl,.none⟩
def GH(e:Nat->Nat->Bool)(alo blo:Nat)(t:ab):Prop := ¬ (alo<t.1/\blo<t.2.1/\e (t.1-1) (t.2.1-1)=true)
theorem oY{a b:Prop}[Decidable a][Decidable b]{c:Bool}:((decide a&&(decide b&&c))=true)↔a/\b/\c=true:=by
 rw[Bool.and_eq_true_iff,Bool.and_eq_true_iff,decide_eq_true_iff,decide_eq_true_iff]
theorem SY(i:Nat):∀j k:Nat,y7 e (i,j,k)->y7 e (bF e alo blo i j k)/\GH e alo blo (bF e alo blo i j k):=by
 induction i with
 |zero=>exact fun j k h=>⟨h,fun q=>absurd q.1 (Nat.not_lt_zero _)⟩
 |succ i ih =>
  intro j k h;cases j with
  |zero=>exact⟨h,fun q=>absurd q.2.1 (Nat.not_lt_zero _)⟩
  |succ j =>
   rw[show bF e alo blo (i+1) (j+1) k=if decide (alo<i+1)&&(decide (blo<j+1)&&e i j) then bF e alo blo i j (k+1) else (i+1,j+1,k) from rfl];split
   ·rename_i hc
    exact ih j (k+1) (.cons h (oY.mp hc).2.2)
   ·rename_i hc
    exact⟨h,fun q=>hc (oY.mpr q)⟩
theorem SV(f:Nat):∀k:Nat,t9<=i+k+f->y7 e (i,j,k)->y7 e (i,j,cN e t9 t7 i j f k) /\ ¬ (i+cN e t9 t7 i j f k<t9/\j+cN e t9 t7 i j f k<t7/\e (i+cN e t9 t7 i j f k) (j+cN e t9 t7 i j f k)=true):=by
 induction f with
 |zero=>exact fun k hf h=>⟨h,fun q=>absurd q.1 (Nat.not_lt.mpr hf)⟩
 |succ f ih =>
  intro k hf h;rw[show cN e t9 t7 i j (f+1) k=if decide (i+k<t9)&&(decide (j+k<t7)&&e (i+k) (j+k)) then cN e t9 t7 i j f (k+1) else k from rfl];split
  ·rename_i hc
   exact ih (k+1) (p6 i k 1▸(o4 (i+k) f).symm▸hf) (.snoc h (oY.mp hc).2.2)
  ·rename_i hc
   exact⟨h,fun q=>hc (oY.mpr q)⟩
structure W0 (e:Nat->Nat->Bool) (fl:Nat->Nat->Nat->Nat->ab):Prop where
 run:∀alo t9 blo t7,alo<=t9->blo<=t7->y7 e (fl alo t9 blo t7)
 left:∀alo t9 blo t7,alo<=t9->blo<=t7->GH e alo blo (fl alo t9 blo t7)
 right:∀alo t9 blo t7,alo<=t9->blo<=t7 -> ¬ ((fl alo t9 blo t7).1+(fl alo t9 blo t7).2.2<t9/\(fl alo t9 blo t7).2.1+(fl alo t9 blo t7).2.2<t7/\e ((fl alo t9 blo t7).1+(fl alo t9 blo t7).2.2) ((fl alo t9 blo t7).2.1+(fl alo t9 blo t7).2.2)=true)
theorem SC(hi:∀i j,j∈idx i->e i j=true):W0 e (bq e idx):=by
 have k1:=fun alo t9 blo t7 (h2:blo<=t7) =>
  have s:=AU (e:=e) (idx:=idx) (alo:=alo) hi h2 (t9-alo)
  SY (alo:=alo) (blo:=blo) _ _ _ s
 have k2:=fun alo t9 blo t7 (h2:blo<=t7)=>SV (t9:=t9) (t7:=t7) _ _ (iX ..) (k1 alo t9 blo t7 h2).1;exact⟨fun a b c d O h2=>(k2 a b c d h2).1,fun a b c d O h2=>(k1 a b c d h2).2,fun a b c d O h2=>(k2 a b c d h2).2⟩
end
theorem EC(a b:List Str):∀i j,j∈aI a b i->am a b i j=true:=fun i j h=>by
 unfold aI at h;unfold am;cases hx:a[i]? with
 |none=>rw[hx] at h;cases h
 |some x =>
  rw[hx] at h;have h:j∈bO b x:=h;unfold bO at h;split at h
  ·cases h
  ·have:=(c7.mp h).2;rw[beq_iff_eq] at this;rw[this];simp
theorem QF(a b:List Str):∀i,(aI a b i).Pairwise (· < ·):=fun i=>by
 unfold aI;cases a[i]? with
 |none=>exact .nil
 |some x=>exact ED b x
theorem SE(a b:List Str):W0 (am a b) (bq (am a b) (aI a b)):=SC (EC a b)
section
variable{N:aa}
theorem XM{g:Nat}{gs:l3}{gl led:aa}{rows:List AV}(hG:A7 B)(h0:D6 vv w B N n rows gl gs)
  (h:(∀x p,u8 vv w B N (n+1) (.Name x p) a rows ((a,.gen g gs)::gl))->R (.ref a) ⟨loc,((a,.gen g gs)::gl)++led⟩) :
  F1 vv w A B s9 Val pyIter (.ref a) ⟨loc,((a,.gen g gs)::gl)++led⟩ R:=F1.of fun s Z S Q E hQ=>Val.eRef <| by
 have hg:=(S.own _ (Yi ..)).1;exact wpAny_pyIter_gen hg (hQ _ _ s Z _ (h (fun x p=>u8.gen hG (fun O O O O O O O O A Q E hq=>Yj hq) h0)) S (.ref _) .refl)
theorem tT{a b:Str}(hsz:a.length+b.length<10^6)(h:K (.str (a++b)) st):F2 vv w A B s9 Val (binaryOp .Add) (.str a) (.str b) st K :=
 XF (Zg (a6 hsz) (by decide)) h
theorem T.to{rel:u6->α->β->Prop}{t:Sem β}{K:α->St->Prop}(v0:α)(h:T vv w A B s9 rel t st fun v t5=>v=v0/\t5=st)(k:K v0 st):T vv w A B s9 rel t st K :=
 h.mono fun v t5 q=>by refine aL q fun O1 O2=>?_;clear q;subst O1;subst O2;exact k
theorem Gv{m:Nat}{px:Pos}{e:Expr}{L8 ppos:Pos}{tl:List Stmt}{L:AV->List (Str×AV)}{l:aa}{xs:List Str}{f:Str->Str}{rest:List AV}{K:u7->St->List AV->Prop}(hm:5<=m)
  (hx:s9.kindOf x=some .local) (hset:∀u v,df (L u) x v=L v)
  (C3:∀A,w0 A m->∀led,D4 N led->T vv w A B s9 Val (ZI iter s9) ⟨L u,l++led⟩ (Gives (L u) (l++led) (.lst (xs.map .str))))
  (hy:∀A,w0 A m->∀l',(∀p∈l,p∈l')->∀y,y∈xs->T vv w A B s9 Val (ZI e s9) ⟨L (.str y),l'⟩ (Gives (L (.str y)) l' (.str (f y))))
  (hd:∀v,TG vv w B N n m s9 (execs tl s9) ⟨L v,l⟩ rest K) (hs:∀x,j8 iter s9 x=b9 x) (J0:s9.scope.isCoroutine=false) (hi:interactive s9=false) :
  TG vv w B N n m s9 (execs (.For (.Name x px) iter [.Expr (.Yield (some e) L8) ppos] [] pos::tl) s9) ⟨L u,l⟩ ((xs.map f).map .str++rest) K :=
 pj (k:=5) AV.str (fun ys P=>∀v,(∀y∈ys,y∈xs)->P ⟨L v,l⟩ ((ys.map f).map .str++rest)) hm
  (fun A hA led hN=>(C3 A hA led hN).mono fun v y6 q=>q.rec (eJ (k:=5) fun it gl hI => .mk hI ⟨xs,_,rfl,B2.self ⟨L u,l⟩,fun O k=>k u fun y hy=>hy⟩))
  (fun gl y ys v Υ => .mk (fun A hA led hN=>bX (Hi hx (hset v _) rfl))
   (mf (l++gl) (fun A hA led hN=>hy A hA _ (fun p hp=>Zq _ (Zq _ hp)) y (Υ y (Yi ..)))
    (cP (.next ⟨ys,_,rfl,B2.self ⟨L (.str y),l⟩,fun O k=>k (.str y) fun y' h'=>Υ y' (Yk _ h')⟩)) J0 hi))
  (fun v O=>hd v) hs
end
theorem E0.of{la lb:Nat}{g:List Op}(C8:g≠[])(h:R3 la lb g)(y4:g.length<10^7)(htg:y5 g):E0 la lb g:=by
 refine ed h fun i j i' j' hp h1 h2=>?_;clear h;have hm:=hp.mem;have ii:(aH g).i1<=(ay g).i2/\(aH g).j1<=(ay g).j2:=by
  cases g with
  |nil=>exact absurd rfl C8
  |cons o os =>
   have e1:aH (o::os)=o:=rfl;have hl:ay (o::os)∈o::os:=by
    unfold ay;rw[List.getLastD_cons];cases os with
    |nil=>exact Yi ..
    |cons p ps=>rw[List.getLastD_eq_getLast?,List.getLast?_eq_some_getLast (List.cons_ne_nil _ _)];exact Yk _ (List.getLast_mem _)
   rw[e1];refine Hq hp fun q1 q2 q3 q4 q5=>?_;clear hp;have m:=hm _ hl;exact⟨q1▸Zg m.1 m.2.1,q2▸Zg m.2.2.2.1 m.2.2.2.2.1⟩
 exact⟨C8,fun o ho=>⟨(hm o ho).2.1,Zg (hm o ho).2.2.1 h1⟩,fun o ho=>⟨(hm o ho).2.2.2.2.1,Zg (hm o ho).2.2.2.2.2 h2⟩,ii.1,ii.2,y4,htg⟩
theorem EK(a b:List Str)(n:Nat)(ha:a.length<10^5):∀g∈bl n (bY (aW (be a b) a.length b.length)),E0 a.length b.length g:=fun g hg =>
 have h:=EL (fe (am a b) (aI a b)) a.length b.length n g hg
 .of h.1 h.2 (by
  have h1:=Rs g hg;have h2:=vM (aW (be a b) a.length b.length);have h3:(aW (be a b) a.length b.length).length<=a.length+2:=yL (fe (am a b) (aI a b)) a.length b.length;exact o0 (Zg h1 (r6 (Zg h2 (Nat.mul_le_mul_left 2 h3)) 2)) (o0 (r6 (Nat.mul_le_mul_left 2 (r6 (a6 ha) 2)) 2) (by decide))) (Rq (CJ _) g hg)
theorem qq{a b:Int}(h0:0<=a)(h1:a<=b)(h2:b<10^9):(bB a b).length<100:=by
 have e1:(Yn ",").length=1:=by decide +kernel
 have k1:=KT.len_num (n:=a) h0 ⋯;have k2:=KT.len_num (n:=a+1) ⋯ ⋯;have k3:=KT.len_num (n:=b) ⋯ ⋯;unfold bB;split
 ·omega
 ·split
  ·omega
  ·simp only[Str.length_append];omega
def U1(o:Obj):Prop:=o.cls=.none/\o.dict=none/\o.slots=#[]
theorem U1.map{o:Obj}(h:U1 o)(f:Array Value->Array Value):U1 (c6 f o):=by
 obtain⟨c,d,dt,sl⟩:=o;cases dt <;> exact h
def qc(q:Str)(Z:u6)(o:Obj):Prop:=(o.isFreed=false/\U1 o)/\∃ps,o.data=.fields ps/\TriplesOk ps.toList/\∀pos cv,m7 pos ps.toList=some cv->∃c oc vs t,cv=.ref c/\Z c=some oc/\oc.data=.fields vs/\vs[1]?=some (.str q t)
theorem IH{q:Str}(Z Z':u6)(o:Obj)(k:u6.le Z Z')(x:qc q Z o):qc q Z' o:=by
 obtain⟨hf,ps,h1,h2,h3⟩:=x;refine⟨hf,ps,h1,h2,fun pos cv e=>?_⟩;refine ed (h3 pos cv e) fun c oc vs t a b r=>?_;exact iP c oc vs t a (k _ _ b) r
noncomputable abbrev qd(q:Str):y1:=.obj (qc q) IH
theorem TY{a b:Int}{c cv:Value}(l:List Value)(h:TriplesOk l)(e:m7 pos (l++[ZG a,ZG b,c])=some cv):m7 pos l=some cv∨cv=c:=by
 fun_induction TriplesOk l with
 |case1 =>
  simp only[Yy,ZG,m7] at e;split at e
  ·right;cases e;rfl
  ·cases e
 |case2 a' t b' u x rest ih =>
  simp only[Yv,m7] at e ⊢;split
  ·rename_i hc;rw[if_pos hc] at e;exact .inl e
  ·rename_i hc;rw[if_neg hc] at e;exact ih h e
 |case3 l h1 h2=>exact h.elim
noncomputable def tF(vs:Array Value)(P:YV):Bool:=(vs.getD 11 .none==.ref P)&&(match vs.getD 18 .none with |.str _ _=>true |_=>false)&&(match vs.getD 7 .none with |.int _ _=>true |_=>false)&&(match vs.getD 9 .none with |.bool _=>true |_=>false)&&(match vs.getD 10 .none with |.int _ _=>true |_=>false)
noncomputable def pc(K:Frag)(c P:YV):Bool:=match K.lookup c with
 |some o=>match o.data with
  |.fields vs=>tF vs P
  |_=>false
 |none=>false
theorem IQ{v:Value}(h:(match v with |.str _ _=>true |_=>false)=true):∃x t,v=.str x t:=by
 cases v <;> first |exact ze _ _ rfl |exact(Zd h).elim
theorem Ey{v:Value}(h:(match v with |.int _ _=>true |_=>false)=true):∃x t,v=.int x t:=by
 cases v <;> first |exact ze _ _ rfl |exact(Zd h).elim
theorem Ut{v:Value}(h:(match v with |.bool _=>true |_=>false)=true):∃x,v=.bool x:=by
 cases v <;> first |exact⟨_,rfl⟩ |exact(Zd h).elim
theorem TH{P:YV}{d:Data}(h:(match d with |.fields vs=>tF vs P |_=>false)=true):∃vs,d=.fields vs/\tF vs P=true:=by
 cases d <;> first |exact bQ _ rfl h |exact(Zd h).elim
theorem TV{K:Frag}{c P:YV}(h:pc K c P=true):∃o vs Ć tf ι tg inF É tt,K.lookup c=some o/\o.data=.fields vs/\vs.getD 11 .none=.ref P/\vs.getD 18 .none=.str Ć tf/\vs.getD 7 .none=.int ι tg/\vs.getD 9 .none=.bool inF/\vs.getD 10 .none=.int É tt:=by
 unfold pc at h;cases e:K.lookup c with
 |none=>rw[e] at h;exact(Zd h).elim
 |some o =>
  rw[e] at h;refine ae (TH h) fun vs d h=>?_;unfold tF at h;simp only[Zy,beq_iff_eq] at h;refine aL h fun O1 h5=>?_;clear h;obtain⟨⟨⟨h1,h2⟩,h3⟩,h4⟩:=O1;exact(IQ h2).elim fun O q=>q.elim fun O q2=>(Ey h3).elim fun O q=>q.elim fun O q3=>(Ut h4).elim fun O q4=>(Ey h5).elim fun O q=>q.elim fun O q5=>⟨o,vs,_,_,_,_,_,_,_,rfl,d,h1,q2,q3,q4,q5⟩
theorem Upd.same{o:y1}:∀ {l:aa},(a,o)∈l->Upd a o o l l
 |p::l,h=>by
  rcases Yp.mp h with e |h
  ·subst e;exact .here
  ·exact .there (Upd.same h)
theorem t8.grow{led:aa}(S:t8 B s Z led){h':Heap}{tk:Nat}(hk:∀b o,s.heap.get? b=some o->h'.get? b=some o):t8 B {s with heap:=h',toks:=tk} Z led/\y8 (aj led) s Z {s with heap:=h',toks:=tk} Z (aj led) :=
 ⟨⟨S.base,fun a o e=>hk a o (S.frozen a o e),S.nodup,S.apart,fun p hp=>Holds.mono (s:=s) (.refl _) (fun o e=>hk _ o e) (fun O O O e=>e) (S.own p hp),S.gnodup,S.bare⟩,
  ⟨.refl _,fun a o e O=>hk a o e,fun O h => .inl h,fun O O e => .inl e,rfl,fun O O e O=>e,fun O h => .inl h⟩⟩
def ke(vv:YA)(w:YH)(B:u6)(it:YV)(gl:aa):Prop :=
 ∀(A:Yz) (led:aa) s Z,t8 B s Z (gl++led)->∀(Q:Value->Yo->Prop) E,Q (.ref it) s->YJ (YG vv w) A (pyIter (.ref it)) Q E s
section
variable{N:aa}
theorem Hk(h:∀it gl,(∀B' N,u8 vv w B' N k t0 it xs gl)->(∀B',ke vv w B' it gl)->K (.ref it) ⟨st.loc,gl++st.led⟩):F1 vv w A B s9 Val pyIter (.lst xs) st K:=fun s Z x V S Q E hQ=>by
 refine bv (iH V) fun a items n qv e hv=>?_;subst qv;have hl:=EZ S.frozen e;refine wpAny_pyIter_list hl ?_;have C8:a≠s.heap.objs.size:=ZE (Zj (S.frozen _ _ e));have y4:items.toArray.size=xs.length:=by simp[hv.length]
 have P:=S.tot8.push (o:={ cls:=.type "list_iterator",data:=.fields #[.ref a,.int 0 0]}) (ao:=fH s.heap.objs.size [s.heap.objs.size,a] (fun i v=>items.toArray[i]?=some v) xs (fun i h=>h.IsListIter s.heap.objs.size a i/\h.IsList a items.toArray) 0) rfl s.toks
  ⟨_,Ys _ rfl,fun b hb=>by
   simp only[Yp,ZY,or_false] at hb;rcases hb with rfl |rfl
   ·exact .inl rfl
   ·exact .inr ⟨_,e⟩,fun i y v h1 h2=>by
   refine ae (hv.get h1) fun u e1 e2=>?_;simp only[List.getElem?_toArray] at h2;rw[e1] at h2;cases h2
   exact e2,fun h e1 e2=>⟨⟨_,e1,rfl,rfl⟩,_,e2 _ _ e,rfl,n,rfl⟩⟩
 refine hQ _ _ _ Z _ (h s.heap.objs.size _ (fun B' N=>u8.walks (vv:=vv) (w:=w) (B:=B') (t0:=t0) (xs:=xs) (fun A hA=>by exact(y4)▸Walks.list hA s.heap.objs.size a C8 items.toArray) (fun A i s v Q E E2 hq=>Ei E2.1 hq) (fun i h E2=>by refine ae E2.1 fun o ho O=>?_;exact⟨o,ho⟩) k xs.length 0 ⋯) ?_) (S.after P.1 P.2) (.ref _) P.2.toF;intro B' A' led' s' Z' S' Q' E' hq;refine iT (S'.own _ (Yi ..)) fun o ho h1 h2 h3=>?_;exact wpAny_pyIter_listiter (h3 _ ho S'.frozen).1 hq
theorem fB{Φ:End->Yo->Prop}{c:Code}{fs:List Frame}{M:Model}{m:Sem α}{K:α->Sem β}{K':β->Sem PySem.Fin}{H':Value->Sem PySem.Fin}{gd lv}
  (h:YJ M (A.over c fs) m (fun a s'=>bb M A Φ c ((K a).wrap K' H' gd lv) fs s') (fun x s'=>bb M A Φ c (H' x) fs s') s):bb M A Φ c ((m>>=K).wrap K' H' gd lv) fs s:=by
 rw[Zz,ZW];exact ef h
noncomputable abbrev cy(elt t0 iter:Expr)(scope:Scope)(pos:Pos):Expr:=.GeneratorExp elt [⟨t0,iter,[],0⟩] scope pos
theorem FM(elt t0 iter:Expr)(scope:Scope)(pos:Pos)(it acc:Value)(s9:Env) :
  compTurn (cy elt t0 iter scope pos) 0 it acc s9=(standAt iter.pos>>=fun O=>e9 it>>=fun r=>match r with
   |none=>b9 (.done .next)
   |some v=>Zt t0 it v>>=fun O=>ZQ t0 s9 v>>=fun O=>(ZI elt s9>>=fun v=>standAt elt.pos>>=fun O=>yieldOut s9 v>>=fun O=>b9 PUnit.unit)>>=fun O=>again (.compLoop (cy elt t0 iter scope pos) 0 it acc s9)):=by rfl
theorem Bc{c:Code}{m:Nat}(hw:c.weight=1)(hu:c.cUnits<=3)(hA:w0 A (m+3)):w0 (A.over c []) m:=⟨hA.h,by
  show A.depth+c.weight+m<=_;rw[hw,p6,Nat.add_comm 1 m];exact Zg (p5 (p5 (by decide) m) _) hA.d,by
  show A.units+c.cUnits+m<=_;rw[p6,Nat.add_comm c.cUnits m];exact Zg (p5 (p5 hu m) _) hA.u⟩
theorem JY{scope:Scope}{m:Nat}(hk:k<=m)(J0:s9.scope.isCoroutine=false) :
  ∀(xs rows:List AV),xs.length=rows.length->(∀p∈xs.zip rows,∀loc,J loc->∀A,w0 A m->∀led,F1 vv w A B s9 aV (ZQ t0 s9) p.1 ⟨loc,led⟩ fun O D1=>T vv w A B s9 Val (ZI elt s9) D1 fun v F4=>v=p.2/\F4.led=led/\J F4.loc) ->
   ∀(gl:aa) (loc:List (Str×AV)),u8 vv w B N k t0 it xs gl->J loc ->
   kd vv w B N (m+3) s9 (.compLoop (cy elt t0 iter scope pos) 0 (.ref it) .none s9) ((YG vv w).den (.compLoop (cy elt t0 iter scope pos) 0 (.ref it) .none s9)) [] rows ⟨loc,gl⟩:=by
 intro xs;induction xs with
 |nil =>
  intro rows hl B5 gl loc hI hJ A hA led hN B8 B7 Z0 s Z S X;cases rows with
  |cons r rs=>cases hl
  |nil =>
   have hr:=Bc (c:=.compLoop (cy elt t0 iter scope pos) 0 (.ref it) .none s9) rfl (by show 3<=3;omega) hA;show bb _ A _ _ ((compTurn (cy elt t0 iter scope pos) 0 (.ref it) .none s9).onRaise (leaving s9)) [] s;rw[FM,k7];refine fB (YU ?_);have Sp:w5 B s9 s Z ⟨loc,led++gl⟩:=S.perm Yx;refine fB (tc hI (hr.mono hk) hN Sp fun w7 Z3 Μ X3=>?_);have X':y8 (aD s9 ⟨loc,gl++led⟩) s Z w7 Z3 (aD s9 ⟨loc,led⟩):=by
    rw[eT (s9:=s9) (loc:=loc) (w6:=loc) (l:=gl++led) (l':=led++gl) Yx];exact X3
   refine AS (.ok .next) ⟨.inr rfl,Z3,Μ.tot8,(X.trans X').less (fun a h => .inr h) fun a h=>h⟩
 |cons x xs ih =>
  intro rows hl B5 gl loc hI hJ A hA led hN B8 B7 Z0 s Z S X;cases rows with
  |nil=>cases hl
  |cons q rs =>
   have hr:=Bc (c:=.compLoop (cy elt t0 iter scope pos) 0 (.ref it) .none s9) rfl (by show 3<=3;omega) hA;show bb _ A _ _ ((compTurn (cy elt t0 iter scope pos) 0 (.ref it) .none s9).onRaise (leaving s9)) [] s;rw[FM,k7];refine fB (YU ?_);have Sp:w5 B s9 s Z ⟨loc,led++gl⟩:=S.perm Yx;refine fB (Zk (ta hI (hr.mono hk) hN Sp (Q:=fun r s₁=>match r with
    |none=>False
    |some v=>bb (YG vv w) A (pE vv w B N (m+3) (q::rs) led B8 B7 Z0) (.compLoop (cy elt t0 iter scope pos) 0 (.ref it) .none s9) ((ZQ t0 s9 v>>=fun O=>(ZI elt s9>>=fun v=>standAt elt.pos>>=fun O=>yieldOut s9 v>>=fun O=>b9 PUnit.unit)>>=fun O=>again (.compLoop (cy elt t0 iter scope pos) 0 (.ref it) .none s9)).wrap .pure (fun e=>(leaving s9 e).bind fun O => .raise e) id id) [] s₁)
    (E:=fun O O=>False) fun w7 Z3 v gl3 Μ V3 X3 M6=>?_) (fun r s₁ h1=>?_) fun O O h=>h.elim)
   ·dsimp only;have X':y8 (aD s9 ⟨loc,gl++led⟩) s Z w7 Z3 (aD s9 ⟨loc,gl3++led⟩):=by
     rw[eT (s9:=s9) (loc:=loc) (w6:=loc) (l:=gl++led) (l':=led++gl) Yx,eT (s9:=s9) (loc:=loc) (w6:=loc) (l:=gl3++led) (l':=led++gl3) Yx];exact X3
    have X2:=X.trans X';have S3:w5 B s9 w7 Z3 ⟨loc,gl3++led⟩:=Μ.perm Yx;refine fB (B5 (x,q) (by simp) loc hJ _ hr (gl3++led) w7 Z3 v V3 S3 _ _ fun O O s4 Z4 F4 M0 S4 O X4=>?_);rw[Zz,Zz,ZW,ZW];refine ef (M0 s4 Z4 S4 _ _ fun u y s5 Z5 U2 E6 S5 V5 X5=>?_);obtain⟨F5,led5⟩:=U2;refine dM E6 fun O1 e ÿ=>?_;clear E6;subst O1;dsimp only at e ÿ;subst e;have hy:∀v,yieldOut s9 v=yieldValue v:=fun v=>by simp only[yieldOut,J0,Za,if_false]
    rw[hy];refine fB (YU ?_);show bb _ A _ _ (.yield y _ _ _) [] s5;refine AR rfl fun p=>?_;refine⟨rfl,y,Z5,(s9.locals,.ns F5)::gl3,rfl,S5.toL,V5,?_,?_⟩
    ·have:=X2.trans (X4.trans X5);rw[dI (st:=⟨F5,gl3++led⟩)] at this;exact this
    ·rw[D6.iff];intro A' u9 led' A8 s' Z' D7;have SF:w5 B s9 s' Z' ⟨F5,gl3++led'⟩:=t8.toF (st:=⟨F5,gl3++led'⟩) D7 S5.kinds S5.fn;refine mK rfl (ih rs (by simpa using hl) (fun p hp=>B5 p (by rw[g8];exact Yk _ hp)) gl3 F5 M6 ÿ A' u9 led' A8 _ s' Z' s' Z' SF ?_);rw[dI];exact .refl
   ·cases r with
    |none=>exact h1.elim
    |some v=>exact fB (Zk h1 (fun O s2 h2=>h2) fun O O h=>h.elim)
theorem D6.genexp{scope:Scope}{m:Nat}{rows:List AV}{gl:aa}(hk:k<=m)(J0:s9.scope.isCoroutine=false)
  (hkd:∀x v,loc.lookup x=some v->s9.kindOf x=some .local) (hf:s9.scope.kind=.function) (hl:xs.length=rows.length)
  (B5:∀p∈xs.zip rows,∀loc,J loc->∀A,w0 A m->∀led,F1 vv w A B s9 aV (ZQ t0 s9) p.1 ⟨loc,led⟩ fun O D1=>T vv w A B s9 Val (ZI elt s9) D1 fun v F4=>v=p.2/\F4.led=led/\J F4.loc)
  (hI:u8 vv w B N k t0 it xs gl) (hs:ke vv w B it gl) (hJ:J loc) :
  D6 vv w B N (m+3) rows ((s9.locals,.ns loc)::gl) (.fresh (.compStart (cy elt t0 iter scope pos) 0 (.ref it) .none s9)):=by
 rw[D6.iff];intro A hA led hN s Z S;have SF:w5 B s9 s Z ⟨loc,gl++led⟩:=t8.toF (st:=⟨loc,gl++led⟩) S hkd hf;have loop:=JY (elt:=elt) (iter:=iter) (scope:=scope) (pos:=pos) hk J0 xs rows hl B5 gl loc hI hJ A hA led hN (aj ((s9.locals,.ns loc)::gl++led)) s Z s Z SF (by rw[dI];exact .refl);show bb _ A _ _ ((compStart (cy elt t0 iter scope pos) 0 (.ref it) .none s9).onRaise (leaving s9)) [] s;unfold compStart;rw[k7];show bb _ A _ _ ((ask>>=_).wrap _ _ _ _) [] s;refine fB (wpAny_askSetting ?_);split
 ·exact mK rfl loop
 ·refine fB (ZM ?_);show bb _ A _ _ ((standAt iter.pos>>=_).wrap _ _ _ _) [] s;exact fB (YU (fB (hs _ ((s9.locals,.ns loc)::led) s Z (t8.perm S ZX.symm) _ _ (mK rfl loop))))
theorem HA{K:Frag}{c P:YV}{q:Str}{scope:Scope}{led:aa}(hc:s9.code=.ref c)(W6:pc K c P=true)(hP:(P,qd q)∈led)(S:t8 (ap K) s Z led)
  (hQ:∀c' oc vs t s' Z',t8 (ap K) s' Z' led->y8 (aj led) s Z s' Z' (aj led)->Z' c'=some oc->oc.data=.fields vs->vs[1]?=some (.str q t)->Q (.ref c') s'):YJ (YG vv w) A (genexprCode s9 pos q scope) Q E s:=by
 obtain⟨o,vs,Ć,tf,ι,tg,inF,É,tt,τ,hd,h11,h2,h7,h9,h10⟩:=TV W6;have ho:s.heap.get? c=some o:=S.frozen _ _ (S.base _ _ τ);obtain⟨op,R_,⟨m_,hsh⟩,ps,hpd,htr,n_⟩:=S.own _ hP;dsimp only at R_;have hPZ:Z P=none:=S.apart _ hP;have hcP:c≠P:=fun e=>by have:=S.base _ _ τ;rw[e,hPZ] at this;cases this
 unfold genexprCode codeAt;rw[hc,if_neg (show ¬ ((Value.ref c==ZC)=true) from Zd)];refine Yh (a9 ho hd ?_);rw[h11];refine Yh (a9 R_ hpd ?_);cases hnf:m7 pos ps.toList with
 |some cv =>
  refine Hm (n_ pos cv hnf) fun c' oc vs' t O5 hz hdc hq=>?_;subst O5;exact Yj (hQ c' oc vs' t s Z S .refl hz hdc hq)
 |none =>
  rw[h2,h7,h9,h10];refine Yh (wpAny_newCode fun c' P' h' tk hk J' hP' hcode' Z_=>?_);refine aL (S.grow (h':=h') (tk:=tk) hk) fun S1 X1=>?_;refine Hm Z_ fun c2 oc Ρ t2 W' g₂ ć r2=>?_;clear Z_;cases W'
  have i_:s.heap.get? c'=none:=Heap.get?_none_of_le J';have Β:c'∉keys led:=fun hm=>by
   refine ae (YM.mp hm) fun p hp e=>?_;refine aq ((S.own p hp).live) fun ob g=>?_;rw[e,i_] at g;cases g
  have hcz:Z c'=none:=by
   cases e:Z c' with
   |none=>rfl
   |some x=>have:=S.frozen _ _ e;rw[i_] at this;cases this
  refine aL (S1.fixZ (s0:=s) (c:=c') (o:=oc) g₂ i_ Β hcz X1) fun S2 X2=>?_;have à:=hk _ _ R_;refine Yh (wpAny_updateFieldsOfTheText à hpd ?_);have I4:(c6 (fun vs=>if (m7 pos vs.toList).isSome=true then vs else vs ++ #[ZG pos.line,ZG pos.col,.ref c']) op).data =
    .fields (ps ++ #[ZG pos.line,ZG pos.col,.ref c']):=by
   rw[l9 hpd,hnf];rfl
  have I5:=YZ (h:=h') (fun o=>c6 (fun vs=>if (m7 pos vs.toList).isSome=true then vs else
   vs ++ #[ZG pos.line,ZG pos.col,.ref c']) o) à (g7 I4)
  refine Yh (a9 I5 I4 ?_);have hl:(ps ++ #[ZG pos.line,ZG pos.col,Value.ref c']).toList=ps.toList++[ZG pos.line,ZG pos.col,.ref c']:=by simp
  rw[hl,codeAmong_snoc _ htr hnf];have P3:=S2.upd (Upd.same hP) (h':=h'.update P fun o=>c6 (fun vs=>if (m7 pos vs.toList).isSome=true then vs else vs ++ #[ZG pos.line,ZG pos.col,.ref c']) o) (tk:=tk) (fun b ob hb e=>(YX ..).extBut b ob hb e) rfl rfl
   ⟨_,I5,⟨g7 I4,hsh.map _⟩,_,I4,by rw[hl];exact TriplesOk_snoc _ _ _ _ htr,fun O0 cv e=>?_⟩
  ·exact Yj (hQ c' oc Ρ t2 _ _ P3.1 (X2.trans P3.2) (u6.add_at ..) ć r2)
  ·rw[hl] at e;rcases TY _ htr e with e |rfl
   ·refine ed (n_ O0 cv e) fun c3 oc3 vs3 t3 e3 z3 r3=>?_;exact iP c3 oc3 vs3 t3 e3 (u6.le_add hcz _ _ z3) r3
   ·exact Wx c' oc Ρ t2 rfl (u6.add_at ..) ć r2
end
section
variable{N:aa}
theorem Ec(h:Heap):h.get? h.objs.size=none:=by
 cases e:h.get? h.objs.size with
 |none=>rfl
 |some o=>exact absurd (Zj e) (d7 _)
theorem t8.newGen{led:aa}{f:Str->Option Value}{gs:l3}{go:Obj}{nm qn:Value}{h1:Heap}{tk:Nat}(S:t8 B s Z led)
  (H4:h1.Ns s.heap.objs.size f) (Q7:YS s.heap.objs.size (s.heap.push {cls:=.type "frame",data:=.dict #[]}) h1) (hv:∀x,y9 Z (loc.lookup x) (f x)) (L1:go={ cls:=.type "generator",data:=.fields #[.int s.gens.size 0,nm,qn]}) (ü:gs.bare=true) :
  t8 B {s with gens:=s.gens.push gs,toks:=tk,heap:=h1.push go} Z ((h1.objs.size,.gen s.gens.size gs)::(s.heap.objs.size,.ns loc)::led) /\
   y8 (aj led) s Z {s with gens:=s.gens.push gs,toks:=tk,heap:=h1.push go} Z (aj ((h1.objs.size,.gen s.gens.size gs)::(s.heap.objs.size,.ns loc)::led)):=by
 have keep:∀b o,s.heap.get? b=some o->h1.get? b=some o:=fun b o e=>Q7.extBut b o (ZE (Zj e)) (Yt _ e);have H8:=Ec s.heap;have hL:s.heap.objs.size∉keys led:=fun q=>by
  refine ae (YM.mp q) fun p hp e=>?_;refine aq ((S.own p hp).live) fun ob g=>?_;rw[e,H8] at g;cases g
 have hZ:Z s.heap.objs.size=none:=S.zfresh;have x_:∃ob,h1.get? s.heap.objs.size=some ob:=by refine kj H4 fun ob O O g O=>?_;clear H4;exact⟨ob,g⟩
 refine aq x_ fun obL hobL=>?_;clear x_;have C8:s.heap.objs.size≠h1.objs.size:=ZE (Zj hobL);have M8:=Ec h1;have J3:∀b o,h1.get? b=some o->(h1.push go).get? b=some o:=fun b o e=>Yt go e;have η:(h1.push go).get? h1.objs.size=some go:=Ys _ (by subst L1;rfl);have Q2:s.gens[s.gens.size]?=none:=by simp
 have ñ:s.gens.size∉gkeys led:=fun q=>by
  refine ae (List.mem_filterMap.mp q) fun p hp e=>?_
  have:=S.own p hp;obtain⟨a,ob⟩:=p;cases ob with
  |gen g gs =>
   simp only[y1.gnum,ZO] at e;subst e
   have:=this.2;rw[Q2] at this;cases this
  |_=>cases e
 have Q4:∀g (gs x:l3),s.gens[g]?=some gs->(s.gens.push x)[g]?=some gs:=fun g gs x e=>by
  rw[Array.getElem?_push];refine aq (Array.getElem?_eq_some_iff.mp e) fun C5 O=>?_;rw[if_neg ⋯];exact e
 refine⟨⟨S.base,fun a o e=>J3 a o (keep a o (S.frozen a o e)),?_,fun p hp=>?_,fun p hp=>?_,?_,fun x hx=>?_⟩,
  ⟨.refl _,fun a o e O=>J3 a o (keep a o e),fun a ha=>?_,fun O O e => .inl e,rfl,fun g gs e O=>Q4 g gs _ e,fun g hg=>?_⟩⟩
 ·refine YC.mpr ⟨fun q=>?_,YC.mpr ⟨hL,S.nodup⟩⟩;rcases Yp.mp q with q |q
  ·exact C8 q.symm
  ·refine ae (YM.mp q) fun p hp e=>?_;refine aq ((S.own p hp).live) fun ob g=>?_
   have:=keep _ _ g;rw[e,M8] at this;cases this
 ·rcases Yp.mp hp with rfl |hp
  ·cases e:Z h1.objs.size with
   |none=>rfl
   |some o =>
    have:=keep _ _ (S.frozen _ _ e);rw[M8] at this;cases this
  ·rcases Yp.mp hp with rfl |hp
   ·exact hZ
   ·exact S.apart p hp
 ·rcases Yp.mp hp with rfl |hp
  ·refine⟨⟨go,_,_,η,by subst L1;rfl,by subst L1;rfl,by subst L1;rfl⟩,?_⟩;show (s.gens.push _)[s.gens.size]?=_;rw[Array.getElem?_push,if_pos rfl]
  ·rcases Yp.mp hp with rfl |hp
   ·exact I7.mono (.refl _) (fun o e=>J3 _ o e) ⟨_,H4,hv⟩
   ·exact(S.own p hp).mono (.refl _) (fun o e=>J3 _ o (keep _ o e)) fun g gs O e=>Q4 g gs _ e
 ·exact YC.mpr ⟨ñ,S.gnodup⟩
 ·rcases Array.mem_push.mp hx with hx |hx
  ·exact S.bare x hx
  ·subst hx;exact ü
 ·rcases Yp.mp ha with q |q
  ·right
   cases e:s.heap.get? a with
   |none=>rfl
   |some o =>
    have:=keep a o e;rw[q,M8] at this;cases this
  ·rcases Yp.mp q with q |q
   ·exact .inr (q▸H8)
   ·exact .inl q
 ·rcases Yp.mp (show g∈s.gens.size::gkeys led from hg) with q |q
  ·exact .inr (q▸Q2)
  ·exact .inl q
theorem US{R:Result->Yo->Prop}(hA:w0 A (k+1))  (bs:List Bool):∀(gl led:aa) (s:Yo) (Z:u6),D4 N led->u8 vv w B N k mC it (bs.map .bool) gl->t8 B s Z (gl++led) ->
  (∀s' Z',t8 B s' Z' led->y8 (aj (gl++led)) s Z s' Z' (aj led)->R (.ok (.ret (.bool (bs.any id)))) s')->codeAny (YG vv w) A (.builtin "any.loop" ⟨[.ref it],[]⟩) R s:=by
 induction bs with
 |nil =>
  intro gl led s Z hN hI S hR;refine j9 F.entry_any_loop ?_;rw[j7 F.plain_any_loop _];exact hI.last hA.in1 hN S fun s' Z' S' X'=>Yh (ZM (Yj (hR s' Z' S' X')))
 |cons b bs ih =>
  intro gl led s Z hN hI S hR;refine j9 F.entry_any_loop ?_;rw[j7 F.plain_any_loop _];refine hI.draw hA.in1 hN S (fun O=>rfl) fun s' Z' v gl' S' V X' hI'=>?_;refine Yh (Yw ?_)
  (have e_:=V.inv;subst e_)
  refine wpAny_truthy_bool (Yh (wpAny_letGo ?_));cases b with
  |true =>
   exact Hz rfl (Yh (ZM (Yj (hR s' Z' S'.drop (X'.less (fun a h=>by rw[aj];show a∈keys (gl'++led);rw[keys,YK];exact YQ _ h) fun a h=>by
    show a∈gkeys (gl'++led);unfold gkeys;exact(Eq.symm (i9))▸YQ _ h)))))
  |false=>exact fW Zd (Yj ⟨plainId_quiet F.plain_any_loop _,ih gl' led s' Z' hN hI' S' fun G5 E8 D7 L4=>hR G5 E8 D7 (X'.trans L4)⟩)
theorem Yb{id:String}{args:List Expr}(E2:((g6 pos (Zl args s9)).all fun x => !x.1)=true)
  (h:∀s Z,w5 B s9 s Z st->∀(Q:Value->Yo->Prop) (E:Value->Yo->Prop),HQ B s9 Val st K s Z Q ->
   YJ (YG vv w) A (spliced (g6 pos (Zl args s9))) (fun vs s₁=>YJ (YG vv w) A (call (.builtin id) vs []) Q E s₁) E s):CA vv w A B s9 pos (.blt id) [] args st K:=fun s Z fx xs hf Ó S Q E hQ=>by
 (have e_:=hf.inv;subst e_)
 cases Ó
 unfold callWith;have U4:=h s Z S (fun r s'=>YJ (YG vv w) A (do m6 [r] point;b9 r) Q E s') E fun v y s' Z' t5 k S' V X=>Yh (Yw (wpAny_point (Yj (hQ v y s' Z' t5 k S' V X))));have u_:∀ {Q':Args->Yo->Prop},(∀vs s₁,YJ (YG vv w) A (call (.builtin id) vs []) (fun r s'=>YJ (YG vv w) A (do m6 [r] point;b9 r) Q E s') E s₁->Q' ⟨vs,[]⟩ s₁) ->
   YJ (YG vv w) A (evalArgs (.builtin id) true (g6 pos (Zl args s9)) []) Q' E s:=fun{Q'} Ζ=>by
  have Q_:=Zk U4 (Q':=fun vs s₁=>Q' ⟨vs,[]⟩ s₁) (fun vs s₁ h'=>Ζ vs s₁ h') fun O O x=>x;revert Q_ E2;generalize g6 pos (Zl args s9)=l;intro E2 Q_;cases l with
  |nil=>exact Fq Q_
  |cons y r =>
   obtain⟨b,t⟩:=y
   have:b=false:=by simpa using (YY.mp E2 (b,t) (Yi ..))
   subst this;exact Calls.evalArgs_plain Q_
 refine Yh (Yw (u_ fun vs s₁ D0=>Yh (YU (Yh (Yj ?_)))));have R_:∀l,YJ (YG vv w) A (operate l (call (.builtin id) ([]++vs) [])>>=fun r=>(do m6 [r] point;b9 r)) Q E s₁:=fun l=>Yh (fun Γ p K9=>by rw[Sem.wp_operate];exact D0 Γ p K9);have hm:∀m,YJ (YG vv w) A (callMarked m (.builtin id) ([]++vs) []>>=fun r=>(do m6 [r] point;b9 r)) Q E s₁:=fun m=>Yh (by unfold callMarked;exact Calls.wpAny_keep D0);generalize (((g6 pos (Zl args s9)).any fun x=>x.fst)||([]:List (Option Str×Sem Value)).any fun x=>x.fst.isNone)=b;cases b <;> first
  |exact R_ _
  |exact hm _
  |exact Yh D0
  |exact wpAny_ite (by split <;> first |exact Yh D0 |exact hm _)
theorem RZ{K:Frag}{c:YV}{oc:Obj}(h:u6.le (ap K) Z)(hc:Z c=some oc):u6.le (ap ((c,oc)::K)) Z:=fun a o e=>by
 unfold ap at e;rw[YE] at e;by_cases q:a=c
 ·subst q;simp only[beq_self_eq_true,ZO] at e;subst e;exact hc
 ·have:(a==c)=false:=beq_eq_false_iff_ne.mpr q;rw[this] at e;exact h a o e
theorem Yc{K:Frag}{c P:YV}{q:Str}{scope:Scope}{H9:Pos}{L9:List (Str×AV)}{led:aa}{bs:List Bool}{m:Nat}{bi:YV}
  (hG:∀K',(∀a o,K.lookup a=some o->(ap K') a=some o)->A7 (ap K')) (hm:5<=m) (hA:w0 A (m+10))
  (E2:((g6 pos (Zl [cy elt t0 iter scope H9] s9)).all fun x => !x.1)=true) (hse:Zl [cy elt t0 iter scope H9] s9=(false,ZI (cy elt t0 iter scope H9) s9)::Zl [] s9)
  (J0:scope.isCoroutine=false) (J5:closureFor scope s9=b9 []) (C4:∀y∈scope.names,y.2 ≠ .cell) (h0:scope.names.lookup (".0" : Str)=some NameKind.local) (D5:scope.kind=.function) (p_:∀x,genFold iter s9 x=b9 x)
  (hc:s9.code=.ref c) (W6:pc K c P=true) (hq:s9.qual ++ "<genexpr>" = q) (θ:Zm K ⟨vv,w.params⟩ (builtinsFor s9.globals s9.builtins)=some bi) (hP:(P,qd q)∈led)
  (C3:T vv w A (ap K) s9 Val (ZI iter s9) ⟨loc,led⟩ fun v y6=>v=.lst xs/\y6=⟨loc,led⟩) (hl:xs.length=bs.length)
  (ε:∀x v,L9.lookup x=some v->v=.any/\scope.names.lookup x=some .local) (Ģ:(L9.lookup (".0" : Str)).isSome=true) (hJ:J L9)
  (B5:∀(K':Frag) y3 c' L,(∀a o,K.lookup a=some o->(ap K') a=some o)->y3=genEnv scope [] L (.ref c') bi s9->kdsCode K' (.ref c')=true->∀p∈xs.zip (bs.map AV.bool),∀loc,J loc->∀A,w0 A m->∀led,
   F1 vv w A (ap K') y3 aV (ZQ t0 y3) p.1 ⟨loc,led⟩ fun O D1=>T vv w A (ap K') y3 Val (ZI elt y3) D1 fun v F4=>v=p.2/\F4.led=led/\J F4.loc)
  (h:R (.bool (bs.any id)) ⟨loc,led⟩):CA vv w A (ap K) s9 pos (.blt "any") [] [cy elt t0 iter scope H9] ⟨loc,led⟩ R:=Yb E2 fun s Z S Q E hQ=>by
 rw[hse];refine Calls.spliced_cons ?_;refine wpAny_GeneratorExp_make J0 J5 C4 h0 D5 hA.lt ?_ p_;refine C3 s Z S _ _ fun v x s₁ Z1 y6 k₁ S1 V1 X1=>?_;refine aL k₁ fun O1 O2=>?_;clear k₁;subst O1;subst O2;refine Hk (vv:=vv) (w:=w) (B:=ap K) (t0:=t0) (st:=⟨loc,led⟩) (k:=m) (K:=fun u A5=>∃it gl,u=.ref it/\A5=⟨loc,gl++led⟩/\(∀B' N,u8 vv w B' N m t0 it xs gl)/\∀B',ke vv w B' it gl)
  (fun it gl h1 h2=>⟨it,gl,rfl,rfl,h1,h2⟩) s₁ Z1 x V1 S1 _ _ fun u y s2 Z2 A5 k2 S2 V2 X2=>?_
 refine pH k2 fun it gl O3 O4 hI F6=>?_;clear k2;subst O3;subst O4
 (have e_:=V2.inv;subst e_)
 have hGK:=hG K fun a o e=>e;refine⟨hGK.lim _ fun a o e=>S2.frozen a o (S2.base a o e),?_⟩;have S2L:=S2.toL;rw[hq];refine HA (led:=(s9.locals,.ns loc)::(gl++led)) hc W6 (Yk _ (YQ _ hP)) S2L fun c' oc vs t w7 Z3 S3 X3 hz hd hr=>?_;have û:=k8 (M:=YG vv w) (dA S3.base S3.frozen) θ;refine û A _ _ w7 (fun b o e=>e) ?_;intro h' H4 Q7;have hle':u6.le (ap ((c',oc)::K)) Z3:=RZ S3.base hz;have hKK:∀a o,K.lookup a=some o->(ap ((c',oc)::K)) a=some o:=fun a o e=>by
  unfold ap;rw[YE];by_cases q:a=c'
  ·subst q
   have:=S3.base _ _ e;rw[hz] at this;cases this
   simp
  ·have:(a==c')=false:=beq_eq_false_iff_ne.mpr q;exact(Eq.symm (this))▸e
 have S3':t8 (ap ((c',oc)::K)) w7 Z3 ((s9.locals,.ns loc)::(gl++led)):=⟨hle',S3.frozen,S3.nodup,S3.apart,S3.own,S3.gnodup,S3.bare⟩;have ú:kdsCode ((c',oc)::K) (.ref c')=true:=by
  obtain⟨a1,a2,a3,a4⟩:=oc;dsimp only at hd;subst hd;simp[kdsCode,YE]
 have N1:=S3'.newGen (nm:=.str (Yn "<genexpr>") (w7.toks+1)) (qn:=.str q (w7.toks+1+1)) (loc:=L9) (gs:=.fresh (.compStart (cy elt t0 iter scope H9) 0 (.ref it) .none (genEnv scope [] w7.heap.objs.size (.ref c') bi s9))) (tk:=w7.toks+1+1+1) H4 Q7 (fun x=>by
   cases e:L9.lookup x with
   |some v =>
    refine aL (ε x v e) fun O1 O2=>?_;subst O1;clear O2;exact .any
   |none =>
    have hx:x≠(".0" : Str):=fun e'=>by rw[e'] at e;rw[e] at Ģ;cases Ģ
    exact(Eq.symm (if_neg hx))▸.none) rfl rfl
 refine aL N1 fun S4 X4=>?_;clear N1;refine Calls.spliced_nil ?_;have hsus:=D6.genexp (vv:=vv) (w:=w) (B:=ap ((c',oc)::K)) (N:=[]) (s9:=genEnv scope [] w7.heap.objs.size (.ref c') bi s9) (elt:=elt) (t0:=t0) (iter:=iter) (scope:=scope) (pos:=H9) (it:=it) (k:=m) (m:=m) (J:=J) (xs:=xs) (rows:=bs.map AV.bool) (gl:=gl) (loc:=L9) (YR _) J0
  (fun x v e=>(ε x v e).2) D5 (by rw[Yl];exact hl) (B5 _ _ c' _ hKK rfl ú) (hI _ _) (F6 _) hJ
 have hit:=u8.gen (vv:=vv) (w:=w) (B:=ap ((c',oc)::K)) (N:=[]) (t0:=mC) (a:=h'.objs.size) (g:=w7.gens.size) (hG _ hKK) (fun O O O O O O O O A Q E hq=>Yj hq) hsus;have P4:((h'.objs.size,y1.gen w7.gens.size (.fresh (.compStart (cy elt t0 iter scope H9) 0 (.ref it) .none (genEnv scope [] w7.heap.objs.size (.ref c') bi s9))))::(w7.heap.objs.size,y1.ns L9)::(s9.locals,y1.ns loc)::(gl++led)).Perm
   (((h'.objs.size,y1.gen w7.gens.size (.fresh (.compStart (cy elt t0 iter scope H9) 0 (.ref it) .none (genEnv scope [] w7.heap.objs.size (.ref c') bi s9))))::(w7.heap.objs.size,y1.ns L9)::gl)++((s9.locals,y1.ns loc)::led)) :=
  j6 _ (j6 _ ZX.symm)
 have S4':=S4.perm P4;rw[er P4] at X4;refine call_function_tree F.kind_any F.plain_any F.entry_any (F.args_any1 _) ?_;unfold Builtin.«any»;refine Yh (m:=oneArg "any" _) (Yj ?_);refine Yh (wpAny_pyIter_gen (S4'.own _ (Yi ..)).1 ?_);refine Yj ⟨plainId_quiet F.plain_any_loop _,US (k:=m+3+1) ?_ bs _ ((s9.locals,.ns loc)::led) _ Z3 .nil hit S4' fun s5 Z5 S5 X5=>?_⟩
 ·exact⟨hA.h,by have:=hA.d;show A.depth+(m+3+1+1)<=_;omega,by have:=hA.u;show A.units+(m+3+1+1)<=_;omega⟩
 ·have S5K:t8 (ap K) s5 Z5 ((s9.locals,.ns loc)::led):=⟨S3.base.trans (X4.le.trans X5.le),S5.frozen,S5.nodup,S5.apart,S5.own,S5.gnodup,S5.bare⟩;have K_:=X1.trans X2;have X35:=(X3.trans X4).trans X5;rw[dI (st:=⟨loc,gl++led⟩)] at K_;have X:=K_.trans X35;have e:=dI (s9:=s9) (st:=⟨loc,led⟩);dsimp only at e;rw[← e] at X;exact hQ (.bool (bs.any id)) _ s5 Z5 ⟨loc,led⟩ h (t8.toF (st:=⟨loc,led⟩) S5K S2.kinds S2.fn) (.bool _) X
theorem Ht{γ:Type}(f:α->β)(h:α->γ)(g:List α):(g.map f).zip (g.map h)=g.map fun o=>(f o,h o):=by
 induction g with
 |nil=>rfl
 |cons x xs ih=>rw[Yu,Yu,g8,ih,Yu]
theorem Hs{K:Frag}{c P:YV}{q:Str}{scope:Scope}{H9:Pos}(ns:List Str){led:aa}(f:α->AV)(t:α->Bool){gs:List α}{m:Nat}{bi:YV}
  (hG:∀K',(∀a o,K.lookup a=some o->(ap K') a=some o)->A7 (ap K')) (hm:5<=m) (hA:w0 A (m+10))
  (E2:((g6 pos (Zl [cy elt t0 iter scope H9] s9)).all fun x => !x.1)=true) (hse:Zl [cy elt t0 iter scope H9] s9=(false,ZI (cy elt t0 iter scope H9) s9)::Zl [] s9)
  (J0:scope.isCoroutine=false) (J5:closureFor scope s9=b9 []) (C4:(scope.names.all fun x=>decide (x.2 ≠ .cell))=true) (h0:scope.names.lookup (".0" : Str)=some NameKind.local) (D5:scope.kind=.function) (p_:∀x,genFold iter s9 x=b9 x)
  (hc:s9.code=.ref c) (W6:pc K c P=true) (hq:s9.qual ++ "<genexpr>" = q) (θ:Zm K ⟨vv,w.params⟩ (builtinsFor s9.globals s9.builtins)=some bi)
  (H4:(ns.all fun x=>decide (scope.names.lookup x=some .local))=true) (Ģ:ns.contains (".0" : Str)=true)
  (hP:(P,qd q)∈led)
  (C3:T vv w A (ap K) s9 Val (ZI iter s9) ⟨loc,led⟩ fun v y6=>v=.lst (gs.map f)/\y6=⟨loc,led⟩)
  (B5:∀(K':Frag) y3 c' L,(∀a o,K.lookup a=some o->(ap K') a=some o)->y3=genEnv scope [] L (.ref c') bi s9->kdsCode K' (.ref c')=true->∀o∈gs,∀A,w0 A m->∀led,
   F1 vv w A (ap K') y3 aV (ZQ t0 y3) (f o) ⟨ns.map fun x=>(x,.any),led⟩ fun O D1=>T vv w A (ap K') y3 Val (ZI elt y3) D1 fun v F4=>v=.bool (t o)/\F4.led=led/\fg F4.loc (ns.map fun x=>(x,.any))=ns.map fun x=>(x,.any))
  (h:R (.bool ((gs.map t).any id)) ⟨loc,led⟩):CA vv w A (ap K) s9 pos (.blt "any") [] [cy elt t0 iter scope H9] ⟨loc,led⟩ R:=by
 have τ:∀(l:List Str) x v,(l.map fun x=>(x,AV.any)).lookup x=some v->v=.any/\x∈l:=by
  intro l;induction l with
  |nil=>intro x v h;cases h
  |cons y l ih =>
   intro x v h;rw[Yu,YE] at h;by_cases e:x=y
   ·subst e;rw[beq_self_eq_true,ZO] at h;exact⟨h.symm,Yi ..⟩
   ·have:(x==y)=false:=beq_eq_false_iff_ne.mpr e;rw[this] at h;exact⟨(ih x v h).1,Yk _ (ih x v h).2⟩
 have Q1:∀(l:List Str) x,x∈l->((l.map fun x=>(x,AV.any)).lookup x).isSome=true:=by
  intro l;induction l with
  |nil=>intro x h;cases h
  |cons y l ih =>
   intro x h;rw[Yu,YE];by_cases e:x=y
   ·subst e;simp
   ·have:(x==y)=false:=beq_eq_false_iff_ne.mpr e;exact(Eq.symm (this))▸ih x ((Yp.mp h).resolve_left e)
 refine Yc (L9:=ns.map fun x=>(x,.any)) hG hm hA E2 hse J0 J5 (fun y hy=>by have:=YY.mp C4 y hy;simpa using this) h0 D5 p_ hc W6 hq θ hP C3 (bs:=gs.map t) (J:=fun l=>fg l (ns.map fun x=>(x,.any))=ns.map fun x=>(x,.any)) (by rw[Yl,Yl]) (fun x v e=>?_) (Q1 ns _ (by simpa using Ģ)) (Fl _) (fun K' y3 c' L hK e hk p hp loc hJ A hA led=>?_) h
 ·refine aL (τ ns x v e) fun O1 hx=>?_;subst O1;exact⟨rfl,by have:=YY.mp H4 x hx;simpa using this⟩
 ·rw[ZR,Ht] at hp;exact(YM.mp hp).elim fun o q=>q.2▸F1.fit hJ (B5 K' y3 c' L hK e hk o q.1 A hA led)
end
noncomputable abbrev kI:Str:=MU
noncomputable abbrev kD:Str:=MV
noncomputable abbrev kR:Str:=MW
noncomputable abbrev kE:Str:=MT
theorem Qb(a b c d:Value):checkTypeCall "dict" ⟨[],[(kI,a),(kD,b),(kR,c),(kE,d)]⟩=b9 ():=@_
theorem Qc(a b c d:Value):checkBuiltinCall "dict.__new__" ⟨[.type "dict"],[(kI,a),(kD,b),(kR,c),(kE,d)]⟩=b9 ():=@_
theorem Qe(x a b c d:Value):m9 "dict.__init__" ⟨[x],[(kI,a),(kD,b),(kR,c),(kE,d)]⟩:=by
 unfold m9;rw[signature?_of (id := "dict.__init__") (n:=['_','_','t','i','n','i','_','_']) (o:=['t','c','i','d']) @_ F.owner_dict];kernel_rfl
theorem Qd(P6:List (Str×Value))(hk:checkBuiltinCall "dict.__new__" ⟨[.type "dict"],P6⟩=b9 ()){Q₁:Value->Yo->Prop}(h:Q₁ (.ref s.heap.objs.size) {s with heap:=s.heap.push {cls:=.type "dict",data:=.dict #[]} }) :
  codeAny (YG vv w) A (.call (.builtin "dict.__new__") ⟨[.type "dict"],P6⟩) (wants Q₁ E) s:=by
 refine d3 F.kt_plain_dict_new F.kt_entry_dict_new (Zr hk ?_);have H6:=F.kt_sub_dict;have hmro:=F.kt_mro_dict;obtain⟨hp,g,d,tk,os⟩:=s;unfold Builtin.«dict.__new__»;wp_walk
 exact h
theorem Us{T Y_ R6:String}{Bi:Builtin}{P6:List (Str×Value)}{Q₁:Value->Yo->Prop}(ft:TypeCalled T Y_ R6)
  (hct:checkTypeCall T ⟨[],P6⟩=b9 ()) (Ι:entryFor table R6=some Bi)
  (I4:codeAny (YG vv w) A.in1 (.call (.builtin Y_) ⟨[.type T],P6⟩) (wants Q₁ E) s)
  (ã:∀obj s₁,Q₁ obj s₁->s₁.TypeIs obj T/\m9 R6 ⟨[obj],P6⟩ /\
   YJ (YG vv w) A.in1.in1 (Bi ⟨[obj],P6⟩)
    (fun fin s'=>match fin with |.done f=>wants (fun r s2=>r=.none/\Q obj s2) E (.ok f) s' |.again c'=>c'.quiet=true/\codeAny (YG vv w) A.in1 c' (wants (fun r s2=>r=.none/\Q obj s2) E) s')
    (fun e s'=>wants (fun r s2=>r=.none/\Q obj s2) E (.error e) s') s₁) :
  YJ (YG vv w) A (call (.type T) [] P6) Q E s:=by
 refine zw ft.mro fun c tl hmro=>?_;have hmade:=ft.made;have H6:=ft.sub;refine f9 (codeAny_of_tree ?_);show YJ _ _ (callAny (.type T) _) _ _ _;refine Yj ⟨Code.quiet_builtin _ (by decide +kernel),j9 F.entry_type_call ?_⟩;rw[Around.under_plain (weight_type_call_type T [] P6) rfl];have h1:=ft.notType;have h2:=ft.canCreate;repeat (any_goals (first |assumption |wp_step))
 refine codeAny_mono I4 fun r s₁ hr=>?_;cases r with
 |error e=>exact hr
 |ok fl =>
  cases fl with
  |ret obj =>
   refine dM (ã _ _ hr) fun hT W6 hsi=>?_;have hli:=ft.init.lookup;have θ:=ft.init.bind obj;repeat (any_goals (first |assumption |wp_step))
   refine codeAny_mono (d3 ft.init.plain Ι (ft.init.check _ _ _ _ _ _ _ _ hT W6 hsi)) fun r2 s2 Ý=>?_;cases r2 with
   |error e=>exact Ý
   |ok fl2 =>
    cases fl2 with
    |ret r =>
     refine aL Ý fun O1 hq=>?_;clear Ý;subst O1;repeat (any_goals (first |assumption |wp_step))
    |_=>exact Ý.elim
  |_=>exact hr.elim
theorem IR{kvs:List (Str×Value)}{k:Str}{v:Value}:(stored kvs k v).length<=kvs.length+1:=by
 unfold stored;split
 ·rw[Yl];exact Nat.le_succ _
 ·exact o5 Yr
theorem UQ{m l:Nat}(h:n+(l+1)<=k)(h':m<=n+1):m+l<=k:=Zg (r6 h' l) (Zg (o5 (Nat.add_right_comm n 1 l)) h)
theorem Vb{h0:Heap}(L:List (Str×Value)):∀(kvs:List (Str×Value)) (s:Yo) (Q:Unit->Yo->Prop),(∀p∈L,p.1.length<=Zc)->kvs.length+L.length<=Zc->s.heap.DictOf (YT vv w) a kvs->YS a h0 s.heap ->
  (∀h' tk,h'.DictOf (YT vv w) a (L.foldl (fun m p=>stored m p.1 p.2) kvs)->YS a h0 h'->Q () {s with heap:=h',toks:=tk})->YJ (YG vv w) A (Builtin.Dict.addKeywords a L) Q E s:=by
 unfold Builtin.Dict.addKeywords;intro kvs s Q hk hz hd hs hQ;refine Yh ?_;have Ζ:∀h' tk,h'.DictOf (YT vv w) a (L.foldl (fun m p=>stored m p.1 p.2) kvs)->YS a h0 h'->(fun(_:PUnit) s'=>YJ (YG vv w) A (b9 ()) Q E s') () {s with heap:=h',toks:=tk}:=fun h' tk d e=>Yj (hQ h' tk d e);generalize (fun(_:PUnit) s'=>YJ (YG vv w) A (b9 ()) Q E s')=Q' at Ζ ⊢;clear hQ Q;induction L generalizing kvs s with
 |nil=>exact Yj (Ζ s.heap s.toks hd hs)
 |cons p L ih =>
  obtain⟨k,v⟩:=p;rw[List.forIn_cons];refine Yh (Yh (wpAny_mkStr (x:=k) (hx:=hk (k,v) (Yi ..)) (Yh ?_)));refine wpAny_dictSet_pairs (hsz:=Zg (n9 ..) hz) (k:=k) (knd:=YT vv w) (by simp[YT,Value.isStrOf]) hd fun h1 d1 s1=>?_;exact Yj (ih _ _ (fun q hq=>hk q (Yk _ hq)) (UQ hz IR) d1 (hs.trans s1) Ζ)
theorem Ur{v1 v2 v3 v4:Value}
  (h:∀h' tk,h'.DictOf (YT vv w) s.heap.objs.size [(kI,v1),(kD,v2),(kR,v3),(kE,v4)]->YS s.heap.objs.size (s.heap.push {cls:=.type "dict",data:=.dict #[]}) h'->Q (.ref s.heap.objs.size) {s with heap:=h',toks:=tk}) :
  YJ (YG vv w) A (call (.type "dict") [] [(kI,v1),(kD,v2),(kR,v3),(kE,v4)]) Q E s:=by
 refine Us (Q₁:=fun obj s₁=>obj=.ref s.heap.objs.size/\s₁={ s with heap:=s.heap.push {cls:=.type "dict",data:=.dict #[]} }) F.kt_called_dict (Qb _ _ _ _) F.entry_dict_init (Qd _ (Qc _ _ _ _) ⟨rfl,rfl⟩) ?_;intro obj s₁ Y3;refine aL Y3 fun Κ Y32=>?_;clear Y3;subst Κ;subst Y32;have I4:(s.heap.push {cls:=.type "dict",data:=.dict #[]}).DictOf (YT vv w) s.heap.objs.size []:=Heap.DictOf.new s.heap;refine⟨I4.typeIs,Qe _ _ _ _ _,?_⟩;unfold Builtin.«dict.__init__»;refine Yh ?_;unfold Builtin.Dict.selfAndRest;refine Yh (wpAny_notOrdered_dict I4.typeIs ?_);show YJ _ _ (b9 (s.heap.objs.size,[])) _ _ _;refine Yj ?_;show YJ _ _ (Builtin.Dict.addKeywords s.heap.objs.size [(kI,v1),(kD,v2),(kR,v3),(kE,v4)]>>=fun O=>ret .none) _ _ _;refine Yh ?_;refine Vb (h0:=s.heap.push {cls:=.type "dict",data:=.dict #[]}) _ [] _ _ (fun p hp=>?_) (by show 4<=_;rw[ZD];decide) I4 (.refl _ _) fun h' tk d e=>Yj ⟨rfl,h h' _ (show h'.DictOf (YT vv w) _ [(kI,v1),(kD,v2),(kR,v3),(kE,v4)] from d) e⟩;have sz:∀x:Str,x.length<=20->x.length<=Zc:=fun x h=>Zg h (by rw[ZD];decide);simp only[Yp,ZY,or_false] at hp;rcases hp with rfl |rfl |rfl |rfl
 ·exact sz kI (by decide)
 ·exact sz kD (by decide)
 ·exact sz kR (by decide)
 ·exact sz kE (by decide)
theorem VB{px p1 p2 p3 p4:Pos}{q1 q2 q3 q4:Pos}{n1 n2 n3 n4:Nat}{t1 t2 t3 t4:Str}{led:aa}
  (hc:ZI (.Call (.Name x px) [] [⟨some kI,.Constant (.str t1) n1 p1,q1⟩,⟨some kD,.Constant (.str t2) n2 p2,q2⟩,⟨some kR,.Constant (.str t3) n3 p3,q3⟩,⟨some kE,.Constant (.str t4) n4 p4,q4⟩] pos) s9 =
   (do callWith pos (← ZI (.Name x px) s9) [] (g6 pos (Zl [] s9)) (backToKw pos (keywordEach [⟨some kI,.Constant (.str t1) n1 p1,q1⟩,⟨some kD,.Constant (.str t2) n2 p2,q2⟩,⟨some kR,.Constant (.str t3) n3 p3,q3⟩,⟨some kE,.Constant (.str t4) n4 p4,q4⟩] s9))))
  (hx:bo B x (.typ "dict")) (hk:s9.kindOf x=some .globalImplicit) (hg:s9.globals=ZP) (hb:s9.builtins=f0) (hd:(x==("__debug__" : Str))=false)
  (h:∀d,d∉keys led->R (.ref d) ⟨loc,(d,aB (YT vv w) [(kI,.str t1),(kD,.str t2),(kR,.str t3),(kE,.str t4)])::led⟩) :
  T vv w A B s9 Val (ZI (.Call (.Name x px) [] [⟨some kI,.Constant (.str t1) n1 p1,q1⟩,⟨some kD,.Constant (.str t2) n2 p2,q2⟩,⟨some kR,.Constant (.str t3) n3 p3,q3⟩,⟨some kE,.Constant (.str t4) n4 p4,q4⟩] pos) s9) ⟨loc,led⟩ R:=fun s Z S Q E hQ=>by
 rw[hc];refine Yh (Gx (K:=fun v t5=>v=.typ "dict" /\ t5=⟨loc,led⟩) hx hk hg hb hd ⟨rfl,rfl⟩ s Z S _ _ fun v u s₁ Z1 y6 k₁ S1 V1 X1=>?_);refine aL k₁ fun O1 O2=>?_;clear k₁;subst O1;subst O2
 (have e_:=V1.inv;subst e_)
 unfold callWith;have sz:∀n,n<10->n<=Zc:=fun n h=>by rw[ZD];omega
 refine Yh (Yw (evalArgs_kw_nil rfl ?_));show YJ (YG vv w) A (evalAll [(do let v ← ZI (.Constant (.str t1) n1 p1) s9;standAt pos;b9 v),(do let v ← ZI (.Constant (.str t2) n2 p2) s9;standAt pos;b9 v),(do let v ← ZI (.Constant (.str t3) n3 p3) s9;standAt pos;b9 v),(do let v ← ZI (.Constant (.str t4) n4 p4) s9;standAt pos;b9 v)]) _ E s₁;refine wpAny_evalAll_cons (Yh (j3 (Yh (YU (Yj ?_)))));refine wpAny_evalAll_cons (Yh (j3 (Yh (YU (Yj ?_)))));refine wpAny_evalAll_cons (Yh (j3 (Yh (YU (Yj ?_)))));refine wpAny_evalAll_cons (Yh (j3 (Yh (YU (Yj ?_)))));refine wpAny_evalAll_nil ?_;refine Yh (YU (Yh (Yj ?_)));have fin:∀s2:Yo,w5 B s9 s2 Z1 ⟨loc,led⟩->y8 (aD s9 ⟨loc,led⟩) s Z s2 Z1 (aD s9 ⟨loc,led⟩)->∀u1 u2 u3 u4:Tok,
   YJ (YG vv w) A (call (.type "dict") [] [(kI,.str t1 u1),(kD,.str t2 u2),(kR,.str t3 u3),(kE,.str t4 u4)]) (fun r s'=>YJ (YG vv w) A (do m6 [r] point;b9 r) Q E s') E s2:=fun s2 S2 X2 u1 u2 u3 u4=>by
  refine Ur fun h' tk r_ Q7=>?_;have keep:∀b o,s2.heap.get? b=some o->h'.get? b=some o:=fun b o e=>Q7.extBut b o (ZE (Zj e)) (Yt _ e);have P1:=S2.tot8.push (o:={ cls:=.type "dict",data:=.dict #[]}) (ao:=aB (YT vv w) []) rfl s2.toks (oV (s:={ s2 with heap:=s2.heap.push {cls:=.type "dict",data:=.dict #[]} }) (Heap.DictOf.new s2.heap) .nil);have P2:=P1.1.upd (led':=(s2.heap.objs.size,aB (YT vv w) [(kI,.str t1),(kD,.str t2),(kR,.str t3),(kE,.str t4)])::led) .here (h':=h') (tk:=tk) (fun b ob hb e=>(Q7.2 b hb).trans e) rfl rfl
   (oV (s:={ s2 with heap:=h',toks:=tk}) r_ (.cons (.str _ _) (.cons (.str _ _) (.cons (.str _ _) (.cons (.str _ _) .nil)))))
  have m_:s2.heap.objs.size∉keys led:=S2.tot8.lfresh;refine Yh (Yw (wpAny_point (Yj (hQ (.ref s2.heap.objs.size) _ _ Z1 _ (h _ m_) (S2.after P2.1 (P1.2.trans P2.2)) (.ref _) (X2.trans ((P1.2.trans P2.2).toF (st:=⟨loc,led⟩)))))))
 have S2:=S1.toks (s₁.toks+1+1+1+1);have X2:=X1.trans (y8.toks (own:=aD s9 ⟨loc,led⟩) (s:=s₁) (Z:=Z1) (s₁.toks+1+1+1+1));have D0:=fin _ S2 X2 s₁.toks (s₁.toks+1) (s₁.toks+1+1) (s₁.toks+1+1+1);exact Yh D0
theorem FG{d:Str}(h:d.length<10^4):(iM d).length<10^5:=by
 unfold iM;split
 ·show (sE).length<_;decide
 ·unfold tv;rw[Str.length_append,show (Yn "\t").length=1 from by decide +kernel];omega
theorem FE{d:Str}(c:(((d.length:Nat):Int) != 0)=true):AV.str (tv d)=.str (iM d):=congrArg AV.str (if_neg fun q=>bne_iff_ne.mp c (by rw[q];rfl)).symm
theorem FF{d:Str}(c:(((d.length:Nat):Int) != 0)=false):AV.str sE=.str (iM d):=congrArg AV.str (if_pos (Int.ofNat_eq_zero.mp (bne_eq_false_iff_eq.mp c))).symm
theorem AN(i j:Nat)(xs:List Str):AV.lst (((xs.map AV.str).drop i).take (j-i))=.lst ((aE xs i j).map AV.str):=by unfold aE;rw[List.map_take,List.map_drop]
theorem qh{xs:List Str}(h:y∈aE xs i j):y∈xs:=List.mem_of_mem_drop (List.mem_of_mem_take h)
def JV(f:Op->List Str)(L:List (Str×AV))(Y:aa)(g:List Op)(rest:List Str)(os:List Op)(P:St->List AV->Prop):Prop:=(∀o∈os,o∈g)->P ⟨L,Y⟩ ((os.flatMap f++rest).map .str)
theorem E0.at0{la lb:Nat}{g:List Op}(h:E0 la lb g):(g.map aY)[(0:Int).toNat]?=some (cD (aH g)):=by
 cases g with
 |nil=>exact absurd rfl h.ne
 |cons o os=>rfl
theorem E0.atL{la lb:Nat}{g:List Op}(h:E0 la lb g):∃os:List Op,g.map aY=os.map aY++[cD (ay g)]/\(os.map aY).length<10^9:=by
 refine aq h.last fun os e=>?_;refine bQ os ((congrArg (List.map aY) e).trans YK) ?_
 have:=h.len;rw[e,Yr,d9] at this;rw[Yl];omega
theorem VA{o:Expr}{px I0:Pos}{args:List Expr}{a b:List Str}{l led N:aa}{rows:List AV}{J:List AV->St->List AV->Prop}
  (hA:w0 A 150) (hn:n<10^5) (ha:a.length<10^5) (hb:b.length<200) (M2:(bf (be a b) (0,a.length,0,b.length)).length<64)
  (H0:attributeBase o kZ s9 (ZI o s9)=ZI o s9)
  (T2:((g6 pos (Zl args s9)).all (fun x => !x.1)&&(backToKw pos (keywordEach [] s9)).all (fun x=>x.1.isSome)
   && decide (args.length+([]:List Keyword).length+(if ([]:List Keyword).isEmpty then 0 else 1)<30))=true)
  (G7:(I0.endLine==pos.line)=true)
  (ho:∀K,FC ak w A (al w) s9 (.ref 242) [.none,.lst (a.map .str),.lst (b.map .str)] [] ⟨loc,l++led⟩ K->T ak w A (al w) s9 Val (ZI o s9) ⟨loc,l++led⟩ K)
  (hc:∀v led' K,FC ak w A (al w) s9 (.ref 218) [v,.int n] [] ⟨loc,led'⟩ K->CA ak w A (al w) s9 pos (.ref 218) [v] args ⟨loc,led'⟩ K)
  (hj:J ((bl n (bY (aW (be a b) a.length b.length))).map dm) ⟨loc,l⟩ rows) :
  T ak w A (al w) s9 Val (ZI (.Call (.Attribute o kZ I0) args [] pos) s9) ⟨loc,l++led⟩ fun v y6=>F1 ak w A (al w) s9 Val pyIter v y6 (C' ak w (al w) N 104 (.Name x px) led J rows) :=
 iO (K:=KB w.params) (C:=242) (f:=218) H0 T2 G7 (ba _) @_ @_ (ho _ (ig (Pq (hA.mono ⋯) hb) (Ps fun md dj jk pp mm H5 j_ =>
  Ξ.mk (Yi ..) @_ (hc _ _ _ (GZ (C7:=bN w md dj jk pp a b mm .none .none []++(l++led)) (.refl _) (Rv (N:=N) (hA.mono ⋯) hn ha ⋯ M2 H5 j_) (E7.elim fun ga gn gs gl U4 =>
   bQ _ (L5.refl _) (XM (cL w) U4 fun hI => .mk (hI _ _) hj)))))))
theorem EY(w:YH)(K':Frag)(h:∀a o,(KB w.params).lookup a=some o->(ap K') a=some o):A7 (ap K'):=⟨fun s hs=>⟨fun O=>none,by
 have e:=hs 2 _ (h 2 _ (show al w 2=some (boot_o_2 w.params) from @_));exact Wy _ (#[]) 0 e @_ (fun O h=>by simp at h) (fun O=>rfl),rfl⟩⟩
noncomputable abbrev vb:Str:=⟨⟨[99,111,110,116,101,120,116,95,100,105,102,102,46,60,108,111,99,97,108,115,62,46,60,103,101,110,101,120,112,114,62]⟩⟩
noncomputable abbrev fA:YV×y1:=(256,qd vb)
noncomputable def fE(t:Str):Str:=if t=bA then MG else if t=bx then MF else if t=bR then ME else MD
noncomputable abbrev fD:List (Str×AV):=[(kI,.str MG),(kD,.str MF),(kR,.str ME),(kE,.str MD)]
theorem Cw{t:Str}(h:ph t):bn fD t=some (.str (fE t)):=by
 rcases h with rfl |rfl |rfl |rfl <;> rfl
theorem Cv(t:Str):(fE t).length=2:=by
 unfold fE;split
 ·rfl
 ·split
  ·rfl
  ·split <;> rfl
theorem FB:ZJ (.type "dict") "__getitem__" = b9 (some (.builtin "dict.__getitem__")):=F.slot_dict_getitem.lookup
noncomputable def dJ(o:Op):Bool:=o.tag==bR||o.tag==bx
noncomputable def dE(o:Op):Bool:=o.tag==bR||o.tag==bA
noncomputable def eV(a:List Str)(o:Op):List Str:=if o.tag=bA then [] else (aE a o.i1 o.i2).map (fE o.tag ++ ·)
noncomputable def eU(b:List Str)(o:Op):List Str:=if o.tag=bx then [] else (aE b o.j1 o.j2).map (fE o.tag ++ ·)
noncomputable def iI(a:List Str)(g:List Op):List Str:=if (g.map dJ).any id then g.flatMap (eV a) else []
noncomputable def fL(b:List Str)(g:List Op):List Str:=if (g.map dE).any id then g.flatMap (eU b) else []
noncomputable abbrev Ax:Str:=My
noncomputable def fM(a b:List Str)(lt:Str)(g:List Op):List Str :=
 (Ax++lt)::oU (bB (aH g).i1 (ay g).i2) lt::(iI a g++iK (bB (aH g).j1 (ay g).j2) lt::fL b g)
noncomputable def EG(ff tf fd td lt:Str):List Str:=[Fb ff (iM fd) lt,Fa tf (iM td) lt]
noncomputable def cS(a b:List Str)(ff tf fd td lt:Str):Bool->List (List Op)->List Str
 |_,[]=>[]
 |started,g::gs=>(if started then [] else EG ff tf fd td lt)++(fM a b lt g++cS a b ff tf fd td lt true gs)
section
variable{a b R:List Str}{g os:List Op}{lt:Str}
theorem Rj:(fM a b lt g++R).map AV.str=.str (Ax++lt) :: .str (oU (bB (aH g).i1 (ay g).i2) lt)::(iI a g++(iK (bB (aH g).j1 (ay g).j2) lt::(fL b g++R))).map .str:=by
 unfold fM;rw[Yv,Yv,YN];rfl
theorem Ra(c:(g.map dJ).any id=true):(iI a g++R).map AV.str=(g.flatMap (eV a)++R).map .str:=by rw[show iI a g=_ from if_pos c]
theorem Rb(c : ¬ (g.map dJ).any id=true):(iI a g++R).map AV.str=R.map .str:=by rw[show iI a g=_ from if_neg c];rfl
theorem QX(c:(g.map dE).any id=true):(fL b g++R).map AV.str=(g.flatMap (eU b)++R).map .str:=by rw[show fL b g=_ from if_pos c]
theorem QY(c : ¬ (g.map dE).any id=true):(fL b g++R).map AV.str=R.map .str:=by rw[show fL b g=_ from if_neg c];rfl
theorem NP(c:o.tag≠bA):((o::os).flatMap (eV a)++R).map AV.str=((aE a o.i1 o.i2).map (fE o.tag ++ ·)).map .str++(os.flatMap (eV a)++R).map .str:=by rw[o7,YN,show eV a o=_ from if_neg c,YK]
theorem NQ(c : ¬ o.tag≠bA):((o::os).flatMap (eV a)++R).map AV.str=(os.flatMap (eV a)++R).map .str:=by rw[o7,YN,show eV a o=_ from if_pos (Decidable.not_not.mp c)];rfl
theorem NN(c:o.tag≠bx):((o::os).flatMap (eU b)++R).map AV.str=((aE b o.j1 o.j2).map (fE o.tag ++ ·)).map .str++(os.flatMap (eU b)++R).map .str:=by rw[o7,YN,show eU b o=_ from if_neg c,YK]
theorem NO(c : ¬ o.tag≠bx):((o::os).flatMap (eU b)++R).map AV.str=(os.flatMap (eU b)++R).map .str:=by rw[o7,YN,show eU b o=_ from if_pos (Decidable.not_not.mp c)];rfl
end
section
variable(a b:List Str)(ff tf fd td lt:Str)(n:Nat)(d:YV)(D:aa)
noncomputable abbrev eX(s v1 v4 v5 v6 v7 v8 v9 M_ L_ v12 v13 v14 d:AV:=.any):List (Str×AV) :=
 [(BZ,.str lt),(qt,.int n),(Ca,.str td),(Cb,.str fd),(Cc,.str tf),(Cd,.str ff),(dO,.lst (b.map .str)),(eo,.lst (a.map .str)),
  (vE,v1),(BV,.any),(BU,.any),(BS,v4),(BR,v5),(BQ,v6),(BN,v7),(qz,v8),(qE,v9),(qB,M_),(BP,L_),(qD,v12),(qA,v13),(BO,v14),(BX,d),(BW,s)]
def JC(gs:List (List Op))(P:St->List AV->Prop):Prop:=∀s,(∀g∈gs,E0 a.length b.length g)->P ⟨eX a b ff tf fd td lt n (.bool s) .any .any .any .any .any .any .any .any .any .any .any .any (.ref d),D⟩ ((cS a b ff tf fd td lt s gs).map .str)
def KH(g:List Op)(gs:List (List Op))(Y:aa)(P:St->List AV->Prop):Prop:=P ⟨eX a b ff tf fd td lt n (.bool true) (dm g) .any .any .any .any .any .any .any .any .any .any .any (.ref d),Y⟩ ((fM a b lt g++cS a b ff tf fd td lt true gs).map .str)
noncomputable abbrev lO(g:List Op)(v7 v8 v9 M_ L_ v12 v13:AV:=.any):List (Str×AV):=eX a b ff tf fd td lt n (.bool true) (dm g) (cD (aH g)) (cD (ay g)) (.str (bB (aH g).i1 (ay g).i2)) v7 v8 v9 M_ L_ v12 v13 .any (.ref d)
end
theorem TN{a b:List Str}{ff tf fd td lt:Str}{led N:aa}(hbd:Binds ak w A.in1 (al w) (aA (jC w.params)) args kw [(eo,.lst (a.map .str)),(dO,.lst (b.map .str)),(Cd,.str ff),(Cc,.str tf),(Cb,.str fd),(Ca,.str td),(qt,.int n),(BZ,.str lt)])(hA:w0 A 200)(hNt:fA∈N)(hn:n<10^5)(ha:a.length<10^5)(hb:b.length<200)
  (hff:ff.length<10^4) (htf:tf.length<10^4) (hfd:fd.length<10^4) (htd:td.length<10^4) (C5:lt.length<10^4) (À:∀x∈a,x.length<10^4) (hlb:∀x∈b,x.length<10^4)
  (M2:(bf (be a b) (0,a.length,0,b.length)).length<64) :
  TC ak w A (al w) (.ref 261) args kw led
   (E7 ak w (al w) N 153 ((cS a b ff tf fd td lt false (bl n (bY (aW (be a b) a.length b.length)))).map .str) led):=by
 refine VP (m:=150) (eX a b ff tf fd td lt n) (cL w) hA.lt hbd @_ @_ @_ (Sq _) fun L=>?_;have hG:=fun(A:Yz) (hh:A.handled=none)=>((((((((gk w A (aA (jC w.params)) L 261 260 @_ @_ hh).g (RS w) @_ @_).g (RU w) @_ @_).g (RN w) @_ @_).g (RT w) @_ @_).f (f:=268) (dc @_)).f (f:=253) (dc @_)).f (f:=242) (dc @_)).m ⟨ML,0, "str.format"⟩ CG AH F.type_str_format_m;refine fS [] (fun A' u9 led' A8=>aF (hG A' u9.h) 20 .mk) ?_;refine fS [] (fun A' u9 led' A8=>aF (hG A' u9.h) 40 (t6.mk (ie (TZ (u9.mono ⋯) ⋯ ⋯) .mk))) ?_;refine dY (fR fun A' u9 led' A8=>me (VB @_ (RP w) @_ @_ @_ @_ fun d hd=>bc rfl (.mk [(d,aB (YT ak w) fD)] ?_)) @_);refine fS [(d,aB (YT ak w) fD)] (fun A' u9 led' A8=>aF (hG A' u9.h) 20 .mk) ?_;refine pj (k:=104) dm (JC a b ff tf fd td lt n d [(d,aB (YT ak w) fD)]) ⋯ ?_ ?_ (fun O O=>cP rfl) (fun O=>@_)
 ·intro A' u9 led' A8;exact VA (l:=[(d,aB (YT ak w) fD)]) (u9.mono ⋯) hn ha hb M2 @_ @_ @_ (fun O h=>ad (hG A' u9.h) 40 (t6.mk h)) (fun O O O h=>eK @_ (dc @_) (cR (hG A' u9.h) 20 h)) (.mk (fun O y=>y false (EK a b n ha)) @_)
 ·intro gl g gs s R9;have hg:=R9 g (Yi ..);have hgs':=fun g' h'=>R9 g' (Yk _ h');clear R9;refine .mk (fun A' u9 led' A8=>bX (bc rfl rfl)) ?_;generalize hX:[(d,aB (YT ak w) fD)]++gl=X;have hdX:(d,aB (YT ak w) fD)∈X:=hX▸Yi ..;refine hM (KH a b ff tf fd td lt n d g gs X) (jZ (p:=s=false) (fun A' u9 led' A8=>bH (hG A' u9.h) 20 ⟨rfl,by cases s <;> decide⟩) (fun c=>?_) fun c=>?_) ?_
  ·subst c;refine fS X (fun A' u9 led' A8=>aF (hG A' u9.h) 20 .mk) ?_;refine fS X (fun A' u9 led' A8=>me (T.to (.str (iM fd)) (ad (hG A' u9.h) 20 (t6.mk (zr ⋯ (cU (fun c=>t6.mk (GX ⋯ ⟨FE c,rfl⟩)) fun c=>⟨FF c,rfl⟩)))) (bc rfl .mk)) @_) ?_;refine fS X (fun A' u9 led' A8=>me (T.to (.str (iM td)) (ad (hG A' u9.h) 20 (t6.mk (zr ⋯ (cU (fun c=>t6.mk (GX ⋯ ⟨FE c,rfl⟩)) fun c=>⟨FF c,rfl⟩)))) (bc rfl .mk)) @_) ?_;have d1:=FG hfd;have d2:=FG htd;refine mf X (fun A' u9 led' A8=>ad (hG A' u9.h) 20 (t6.mk (WW ⋯ d1 ⋯ .mk))) ?_ @_ @_;refine mf X (fun A' u9 led' A8=>ad (hG A' u9.h) 20 (t6.mk (WU ⋯ d2 ⋯ .mk))) ?_ @_ @_;exact cP (R1.mk (fun O y=>y) @_)
  ·cases s with
   |true=>exact cP (R1.mk (fun O y=>y) @_)
   |false=>exact absurd rfl c
  ·have hf1:=hg.ii;have Q3:=hg.jj;refine aL hg.i2 fun Ė N7=>?_;refine ae hg.atL fun osL eL nL=>?_;have r1:=qq (a:=(aH g).i1) (b:=(ay g).i2) ⋯ ⋯ ⋯;have r2:=qq (a:=(aH g).j1) (b:=(ay g).j2) ⋯ ⋯ ⋯;refine TG.eq Rj ?_;refine fS X (fun A' u9 led' A8=>aF (hG A' u9.h) 40 (t6.mk (bG .frz (by decide) (by decide) (x:=cD (aH g)) hg.at0 (t6.mk (mw (xs:=osL.map aY) (x:=cD (ay g)) .frz eL nL .mk))))) ?_;refine mf X (fun A' u9 led' A8=>ad (hG A' u9.h) 20 (t6.mk (tT (by show 15+lt.length<_;omega) .mk))) ?_ @_ @_;refine fS X (fun A' u9 led' A8=>aF (hG A' u9.h) 40 (t6.mk (fw (by decide) (by decide) (x:=.int (aH g).i1) rfl (t6.mk (fw (by decide) (by decide) (x:=.int (ay g).i2) rfl (t6.mk (ie (Bj (u9.mono ⋯) ⋯ ⋯ ⋯) .mk))))))) ?_;refine mf X (fun A' u9 led' A8=>ad (hG A' u9.h) 20 (t6.mk (WY ⋯ ⋯ .mk))) ?_ @_ @_;refine hM (fun P=>P ⟨lO a b ff tf fd td lt n d g,X⟩ ((iK (bB (aH g).j1 (ay g).j2) lt::(fL b g++cS a b ff tf fd td lt true gs)).map .str)) (jZ (p:=(g.map dJ).any id=true) (fun A' u9 led' A8=>?_) (fun c=>TG.eq (Ra c) ?_) fun c=>TG.eq (Rb c) (cP (R1.mk (fun O y=>y) @_))) ?_
   ·refine pn (zb @_ (ad (hG A' u9.h) 5 (Hs (K:=KB w.params) (c:=260) (P:=256) (q:=vb) [MN,qz,BP] aY dJ (gs:=g) (m:=100) (bi:=f0) (EY w) ⋯ (u9.mono ⋯) @_ @_ @_ @_ @_ @_ @_ (fun O=>@_) @_ @_ @_ @_ @_ @_ ?_ ?_ ?_ (tU ⟨rfl,Iff.rfl⟩)))) @_
    ·exact YQ _ (A8 _ hNt)
    ·exact ad (hG A' u9.h) 5 ⟨rfl,rfl⟩
    ·intro K' y3 c' L' hK' s_ ú o ho A'' T5 Ï;subst s_;exact dv (vs:=[.str o.tag,.int o.i1,.int o.i2,.int o.j1,.int o.j2]) T5.h @_ @_ @_ (de _ rfl _ _ rfl rfl (GC (fun s X Q h=>kds_main X ú h) @_ (ad (ce @_ @_ @_ @_ T5.h) 5 ⟨o.tag,rfl,rfl,rfl,@_⟩)))
   ·refine pj (k:=5) aY (JV (eV a) (lO a b ff tf fd td lt n d g) X g (iK (bB (aH g).j1 (ay g).j2) lt::(fL b g++cS a b ff tf fd td lt true gs))) ⋯ (fun A' u9 led' A8=>ad (hG A' u9.h) 20 (eJ (k:=5) fun it gl' hI => .mk (l:=X) hI (.mk (fun O y=>y fun o ho=>ho) @_))) ?_ (fun O=>cP (R1.mk (fun O y=>y) @_)) (fun O=>@_);intro gl' o os M3;have ho:=M3 o (Yi ..);have M3:=fun o' h'=>M3 o' (Yk _ h');have hi:=hg.i o ho;have ø:(d,aB (YT ak w) fD)∈X++gl':=Zq _ hdX;refine .mk (fun A' u9 led' A8=>dv u9.h @_ @_ @_ (de _ rfl _ _ rfl rfl rfl)) ?_;refine hM (fun P=>P ⟨lO a b ff tf fd td lt n d g .any (.str o.tag) (.int (o.i1:Nat)) (.int (o.i2:Nat)) (.int (o.j2:Nat)),X++gl'⟩ ((os.flatMap (eV a)++(iK (bB (aH g).j1 (ay g).j2) lt::(fL b g++cS a b ff tf fd td lt true gs))).map .str)) (jZ (p:=o.tag≠bA) (fun A' u9 led' A8=>bH (hG A' u9.h) 20 ⟨rfl,bne_iff_ne⟩) (fun c=>TG.eq (NP c) ?_) fun c=>TG.eq (NQ c) (cP (R1.mk (fun O y=>y) @_))) (cP (.next (l:=X) (.mk (fun O y=>y M3) @_)));refine Gv (xs:=aE a o.i1 o.i2) (f:=fun y=>fE o.tag++y) (L:=fun v=>eX a b ff tf fd td lt n (.bool true) (dm g) (cD (aH g)) (cD (ay g)) (.str (bB (aH g).i1 (ay g).i2)) .any (.str o.tag) (.int (o.i1:Nat)) (.int (o.i2:Nat)) (.int (o.j2:Nat)) .any .any v (.ref d)) ⋯ @_ (fun u v=>@_) ?_ ?_ (fun v=>cP (R1.mk (fun O y=>y) @_)) (fun O=>@_) @_ @_
    ·exact fun A' u9 led' A8=>GA (fun O O=>@_) (ad (hG A' u9.h) 5 (ad (hG A' u9.h) 5 (ad (hG A' u9.h) 5 ⟨a.map AV.str,o.i1,o.i2,.frz,rfl,rfl,hi.1,by rw[Yl];exact hi.2,by rw[Yl,ZD];omega,AN .. ▸ .mk⟩)))
    ·exact fun A' u9 l' ì y hy=>ad (hG A' u9.h) 20 ⟨.mk FB (pV (knd:=YT ak w) (m:=fD) (ì _ ø)),t6.mk (Hd (knd:=YT ak w) (sZ o.tag) (ì _ ø) (Cw (hg.tg o ho)) (t6.mk (tT (by have:=À y (qh hy);rw[Cv];omega) .mk)))⟩
   refine fS X (fun A' u9 led' A8=>aF (hG A' u9.h) 40 (t6.mk (fw (by decide) (by decide) (x:=.int (aH g).j1) rfl (t6.mk (fw (by decide) (by decide) (x:=.int (ay g).j2) rfl (t6.mk (ie (Bj (u9.mono ⋯) ⋯ ⋯ ⋯) .mk))))))) ?_;refine mf X (fun A' u9 led' A8=>ad (hG A' u9.h) 20 (t6.mk (WX ⋯ ⋯ .mk))) ?_ @_ @_;refine hM (fun P=>P ⟨lO a b ff tf fd td lt n d g (.str (bB (aH g).j1 (ay g).j2)),X⟩ ((cS a b ff tf fd td lt true gs).map .str)) (jZ (p:=(g.map dE).any id=true) (fun A' u9 led' A8=>?_) (fun c=>TG.eq (QX c) ?_) fun c=>TG.eq (QY c) (cP (R1.mk (fun O y=>y) @_))) (cP (.nextE hX (.mk (fun O y=>y true hgs') @_)))
   ·refine pn (zb @_ (ad (hG A' u9.h) 5 (Hs (K:=KB w.params) (c:=260) (P:=256) (q:=vb) [MN,qz,BP] aY dE (gs:=g) (m:=100) (bi:=f0) (EY w) ⋯ (u9.mono ⋯) @_ @_ @_ @_ @_ @_ @_ (fun O=>@_) @_ @_ @_ @_ @_ @_ ?_ ?_ ?_ (tU ⟨rfl,Iff.rfl⟩)))) @_
    ·exact YQ _ (A8 _ hNt)
    ·exact ad (hG A' u9.h) 5 ⟨rfl,rfl⟩
    ·intro K' y3 c' L' hK' s_ ú o ho A'' T5 Ï;subst s_;exact dv (vs:=[.str o.tag,.int o.i1,.int o.i2,.int o.j1,.int o.j2]) T5.h @_ @_ @_ (de _ rfl _ _ rfl rfl (GC (fun s X Q h=>kds_main X ú h) @_ (ad (ce @_ @_ @_ @_ T5.h) 5 ⟨o.tag,rfl,rfl,rfl,@_⟩)))
   ·refine pj (k:=5) aY (JV (eU b) (lO a b ff tf fd td lt n d g (.str (bB (aH g).j1 (ay g).j2))) X g (cS a b ff tf fd td lt true gs)) ⋯ (fun A' u9 led' A8=>ad (hG A' u9.h) 20 (eJ (k:=5) fun it gl' hI => .mk (l:=X) hI (.mk (fun O y=>y fun o ho=>ho) @_))) ?_ (fun O=>cP (R1.mk (fun O y=>y) @_)) (fun O=>@_);intro gl' o os M3;have ho:=M3 o (Yi ..);have M3:=fun o' h'=>M3 o' (Yk _ h');have hi:=hg.j o ho;have ø:(d,aB (YT ak w) fD)∈X++gl':=Zq _ hdX;refine .mk (fun A' u9 led' A8=>dv u9.h @_ @_ @_ (de _ rfl _ _ rfl rfl rfl)) ?_;refine hM (fun P=>P ⟨lO a b ff tf fd td lt n d g (.str (bB (aH g).j1 (ay g).j2)) (.str o.tag) .any .any (.int (o.i2:Nat)) (.int (o.j1:Nat)) (.int (o.j2:Nat)),X++gl'⟩ ((os.flatMap (eU b)++(cS a b ff tf fd td lt true gs)).map .str)) (jZ (p:=o.tag≠bx) (fun A' u9 led' A8=>bH (hG A' u9.h) 20 ⟨rfl,bne_iff_ne⟩) (fun c=>TG.eq (NN c) ?_) fun c=>TG.eq (NO c) (cP (R1.mk (fun O y=>y) @_))) (cP (.next (l:=X) (.mk (fun O y=>y M3) @_)));refine Gv (xs:=aE b o.j1 o.j2) (f:=fun y=>fE o.tag++y) (L:=fun v=>eX a b ff tf fd td lt n (.bool true) (dm g) (cD (aH g)) (cD (ay g)) (.str (bB (aH g).i1 (ay g).i2)) (.str (bB (aH g).j1 (ay g).j2)) (.str o.tag) .any .any (.int (o.i2:Nat)) (.int (o.j1:Nat)) (.int (o.j2:Nat)) v (.ref d)) ⋯ @_ (fun u v=>@_) ?_ ?_ (fun v=>cP (R1.mk (fun O y=>y) @_)) (fun O=>@_) @_ @_
    ·exact fun A' u9 led' A8=>GA (fun O O=>@_) (ad (hG A' u9.h) 5 (ad (hG A' u9.h) 5 (ad (hG A' u9.h) 5 ⟨b.map AV.str,o.j1,o.j2,.frz,rfl,rfl,hi.1,by rw[Yl];exact hi.2,by rw[Yl,ZD];omega,AN .. ▸ .mk⟩)))
    ·exact fun A' u9 l' ì y hy=>ad (hG A' u9.h) 20 ⟨.mk FB (pV (knd:=YT ak w) (m:=fD) (ì _ ø)),t6.mk (Hd (knd:=YT ak w) (sZ o.tag) (ì _ ø) (Cw (hg.tg o ho)) (t6.mk (tT (by have:=hlb y (qh hy);rw[Cv];omega) .mk)))⟩
noncomputable abbrev dh:Str:=BY
noncomputable abbrev aQ:Str:=⟨⟨[]⟩⟩
section
variable{a b:List Str}
noncomputable abbrev Gb(a b:List Str)(n:Nat):List (Str×AV):=[(eo,.lst (a.map .str)),(dO,.lst (b.map .str)),(Cd,.str aQ),(Cc,.str aQ),(Cb,.str aQ),(Ca,.str aQ),(qt,.int n),(BZ,.str dh)]
theorem UC:Binds ak w A (al w) (aA (jC w.params)) [.lst (a.map .str),.lst (b.map .str)] [(qt,.int n)] (Gb a b n):=Binds.peek fun Z xs ks hx hk=>by
 obtain _ |⟨h1,hx⟩:=hx
 obtain _ |⟨h2,hx⟩:=hx
 cases hx
 obtain _ |⟨h3,hk⟩:=hk
 cases hk
 exact⟨_,@_,show w8 Z (Gb a b n) _ from .cons h1 (.cons h2 (.cons (.str _ 603) (.cons (.str _ 604) (.cons (.str _ 605) (.cons (.str _ 606) (.cons h3 (.cons (.str _ 608) .nil)))))))⟩
end
theorem t8.lose{ao:y1}{led:aa}(S:t8 B s Z ((C,ao)::led)){h':Heap}(hs:YS C s.heap h') :
  t8 B {s with heap:=h' } Z led/\y8 (aj ((C,ao)::led)) s Z {s with heap:=h' } Z (aj led):=by
 have hC:C∉keys led:=(YC.mp S.nodup).1;have hCZ:Z C=none:=S.apart _ (Yi ..);have S1:=S.drop1;refine⟨⟨S1.base,fun a o e=>hs.extBut a o (fun q=>by rw[q,hCZ] at e;cases e) (S1.frozen a o e),S1.nodup,S1.apart,fun p hp=>(S1.own p hp).mono (.refl _) (fun o e=>hs.extBut _ o (fun q=>hC (q▸YF hp)) e) (fun O O O e=>e),S1.gnodup,S1.bare⟩,
  ⟨.refl _,fun a o e h=>hs.extBut a o (fun q=>h (q▸Yi ..)) e,fun a h => .inl (Yk _ h),fun O O e => .inl e,rfl,fun O O e O=>e,fun g h => .inl (EU h)⟩⟩
section
variable{N:aa}
noncomputable abbrev iW(F0:List Expr)(s9:Env):Sem Bool:=forIn F0 true fun c r=>if r=true then do let ok ← isTrue c s9 (ZI c s9);b9 (ForInStep.yield ok) else b9 (ForInStep.yield r)
theorem gZ{K:Bool->St->Prop}(h:K true st):T vv w A B s9 aM (iW [] s9) st K:=fun s Z S Q E hQ=>Yj (hQ true true s Z st h S rfl .refl)
theorem yW{c:Expr}{K:Bool->St->Prop}(h:T vv w A B s9 aM (isTrue c s9 (ZI c s9)) st K):T vv w A B s9 aM (iW [c] s9) st K:=fun s Z S Q E hQ =>
 wpAny_tests_one (h s Z S Q E hQ)
theorem TX{R:Result->Yo->Prop}{scope:Scope}{it acc:Value}(I:Nat->Yo->Prop)
  (turn:∀n s,I n s->YJ (YG vv w) A (e9 it) (fun r s₁=>match r with
   |none=>R (.ok .next) s₁
   |some v=>YJ (YG vv w) A (Zt t0 it v) (fun O s₁=>YJ (YG vv w) A (ZQ t0 s9 v) (fun O s2 =>
     YJ (YG vv w) A (iW F0 s9) (fun ok w7 =>
      if ok=true then YJ (YG vv w) A (ZI elt s9) (fun x s4 =>
       YJ (YG vv w) A (call (.builtin "list.append") [acc,x]) (fun O s5=>∃m,m<n/\I m s5) (notedBy (YG vv w) A s9 fun e s'=>R (.error e) s') s4) (notedBy (YG vv w) A s9 fun e s'=>R (.error e) s') w7
      else ∃m,m<n/\I m w7) (notedBy (YG vv w) A s9 fun e s'=>R (.error e) s') s2) (notedBy (YG vv w) A s9 fun e s'=>R (.error e) s') s₁) (notedBy (YG vv w) A s9 fun e s'=>R (.error e) s') s₁) (notedBy (YG vv w) A s9 fun e s'=>R (.error e) s') s)
  (n:Nat) (h:I n s) :
  codeAny (YG vv w) A (.compLoop (.ListComp elt [⟨t0,iter,F0,0⟩] scope pos) 0 it acc s9) R s:=by
 refine codeAny_loop rfl I (fun n s hI=>?_) n h;show YJ _ A ((compTurn (.ListComp elt [⟨t0,iter,F0,0⟩] scope pos) 0 it acc s9).onRaise (fun x=>do noteFrame x s9;theTreesLotGoes x)) _ _ s;refine wpAny_noted ?_;rw[compTurn_list];refine Yh (YU (Yh (Zk (turn n s hI) (fun r s₁ h1=>?_) fun O O h'=>h')));cases r with
 |none=>exact Yj h1
 |some v =>
  refine Yh (Zk h1 (fun O s1' h1'=>?_) fun O O h'=>h');refine Yh (Zk h1' (fun O s2 h2=>Yh (Zk h2 (fun ok w7 M1=>?_) fun O O h'=>h')) fun O O h'=>h');cases ok with
  |false=>exact Yj ⟨rfl,M1⟩
  |true =>
   exact Yh (Yh (Zk M1 (fun x s4 h₄=>Yh (Zk h₄ (fun O s5 h₅=>Yj (Yj ⟨rfl,h₅⟩)) fun O O h'=>h')) fun O O h'=>h'))
def im(vv:YA)(w:YH)(A:Yz)(B:u6)(y3:Env)(t0 elt:Expr)(F0:List Expr)(N:aa)(J:List (Str×AV)->Prop)(x:AV)(y:Option AV):Prop :=
 ∀loc,J loc->∀led,D4 N led->F1 vv w A B y3 aV (ZQ t0 y3) x ⟨loc,led⟩ fun O D1=>T vv w A B y3 aM (iW F0 y3) D1 fun b F4 =>
  if b then T vv w A B y3 Val (ZI elt y3) F4 fun v U2=>y=some v/\U2.led=led/\J U2.loc else y=none/\F4.led=led/\J F4.loc
inductive W3 (vv:YA) (w:YH) (A:Yz) (B:u6) (y3:Env) (t0 elt:Expr) (F0:List Expr) (N:aa) (J:List (Str×AV)->Prop) (k:Nat) (it D:YV) (l0:aa) (O':List AV) (o:R0) (s:Yo) (Z:u6):Nat->Yo->Prop
 |mk {s':Yo} {Z':u6} {w6:List (Str×AV)} {gl':aa} {ps:List (AV×Option AV)} {acc:List AV} (ha:acc++ps.filterMap (·.2)=O') (hz:acc.length+ps.length<=Zc) (hJ:J w6) (S:w5 B y3 s' Z' ⟨w6,((D,.list acc)::l0)++gl'⟩)
  (hI:u8 vv w B [] k t0 it (ps.map (·.1)) gl') (hs:∀p∈ps,im vv w A B y3 t0 elt F0 N J p.1 p.2) (X:y8 o s Z s' Z' (aD y3 ⟨w6,((D,.list acc)::l0)++gl'⟩)):W3 vv w A B y3 t0 elt F0 N J k it D l0 O' o s Z ps.length s'
theorem UR(xs:List α)(y:α)(zs:List α):xs++[y]++zs=xs++y::zs:=YN ..
theorem UP{a p m:Nat}(h:a+(p+1)<=m):a+p<=m/\a+1+p<=m/\a<m:=⟨Nat.le_of_succ_le h,Zg (o5 (Nat.add_right_comm a 1 p)) h,o6 (Nat.lt_succ_of_le (n9 a p)) h⟩
theorem TQ{R:Result->Yo->Prop}{y3:Env}{scope:Scope}{D:YV}{l0 gl:aa}(hA:w0 A k)(hN:D4 N l0)
   {ys:List (Option AV)} (y4:xs.length=ys.length) (hsz:xs.length<=Zc)
  (hI:u8 vv w B [] k t0 it xs gl) (B5:∀p∈xs.zip ys,im vv w A B y3 t0 elt F0 N J p.1 p.2) (hJ:J loc)
  (S:w5 B y3 s Z ⟨loc,((D,.list [])::l0)++gl⟩)
  (hR:∀s' Z' w6,w5 B y3 s' Z' ⟨w6,(D,.list (ys.filterMap id))::l0⟩->y8 (aD y3 ⟨loc,((D,.list [])::l0)++gl⟩) s Z s' Z' (aD y3 ⟨w6,(D,.list (ys.filterMap id))::l0⟩)->R (.ok .next) s') :
  codeAny (YG vv w) A (.compLoop (.ListComp elt [⟨t0,iter,F0,0⟩] scope pos) 0 (.ref it) (.ref D) y3) R s:=by
 have e1:(xs.zip ys).map (·.1)=xs:=List.map_fst_zip (o5 y4);have e2:(xs.zip ys).filterMap (·.2)=ys.filterMap id:=(m0 (f:=fun p:AV×Option AV=>p.2) (g:=id)).symm.trans (congrArg (List.filterMap id) (List.map_snd_zip (o5 y4.symm)));have e3:(xs.zip ys).length=xs.length:=by rw[List.length_zip,y4,Nat.min_self]
 generalize ys.filterMap id=O' at e2 hR;generalize xs.zip ys=ps at e1 e2 e3 B5;subst e1;refine TX (W3 vv w A B y3 t0 elt F0 N J k it D l0 O' (aD y3 ⟨loc,((D,.list [])::l0)++gl⟩) s Z) ?_ ps.length (.mk (acc:=[]) e2 (by rw[YI,r0,e3];exact hsz) hJ S hI B5 .refl);clear hI B5 hJ S hsz e3 e2 y4;intro n s' Y;induction Y with
 | @mk s' Z' w6 gl' ps acc W8 hsz' J_ S' H7 b_ X' =>
 cases ps with
 |nil=>exact tc H7 hA .nil S' fun w7 Z3 S3 X3=>(show acc=O' from(Zv acc).symm.trans W8)▸hR w7 Z3 w6 (((show acc=O' from(Zv acc).symm.trans W8))▸S3) (((show acc=O' from(Zv acc).symm.trans W8))▸X'.trans X3)
 |cons p ps =>
  have hz:=UP hsz';refine Zk (ta H7 hA .nil S' (Q:=fun r s₁=>match r with
    |none=>False
    |some v=>YJ (YG vv w) A (ZQ t0 y3 v) (fun O s2 =>
     YJ (YG vv w) A (iW F0 y3) (fun ok w7 =>
      if ok=true then YJ (YG vv w) A (ZI elt y3) (fun x1 s4 =>
       YJ (YG vv w) A (call (.builtin "list.append") [.ref D,x1]) (fun O s5=>∃m,m<(p::ps).length/\W3 vv w A B y3 t0 elt F0 N J k it D l0 O' (aD y3 ⟨loc,((D,.list [])::l0)++gl⟩) s Z m s5) (notedBy (YG vv w) A y3 fun e s'=>R (.error e) s') s4) (notedBy (YG vv w) A y3 fun e s'=>R (.error e) s') w7
      else ∃m,m<(p::ps).length/\W3 vv w A B y3 t0 elt F0 N J k it D l0 O' (aD y3 ⟨loc,((D,.list [])::l0)++gl⟩) s Z m w7) (notedBy (YG vv w) A y3 fun e s'=>R (.error e) s') s2) (notedBy (YG vv w) A y3 fun e s'=>R (.error e) s') s₁)
    fun w7 Z3 v gl3 S3 V3 X3 M6=>?_) (fun r s₁ h1=>?_) fun O O h=>h
  ·refine b_ p (Yi ..) w6 J_ _ (fun p hp=>Zq _ (Yk _ (hN p hp))) w7 Z3 v V3 S3 _ _ fun O O s4 Z4 F4 M0 S4 O X4=>M0 s4 Z4 S4 _ _ fun b c s5 Z5 U2 E6 S5 V5 X5=>?_;have X6:=((X'.trans X3).trans X4).trans X5;have E2:=fun q hq=>b_ q (Yk _ hq);clear X' X3 X4 X5 S3 V3 M0 S4 S' H7 b_ J_ hR;have hb:c=b:=V5;subst hb;clear V5;cases c with
   |false =>
    rw[if_neg Zd] at E6 ⊢;obtain⟨F5,led5⟩:=U2;refine dM E6 fun hy e ÿ=>?_;clear E6;dsimp only at e ÿ;subst e;exact⟨ps.length,g4 _,.mk ((congrArg (acc ++ ·) (List.filterMap_cons_none hy).symm).trans W8) hz.1 ÿ S5 M6 E2 X6⟩
   |true =>
    rw[if_pos rfl] at E6 ⊢;refine E6 s5 Z5 S5 _ _ fun u z s₆ Z6 st6 Ð S6 V6 ĉ=>?_;have X7:=X6.trans ĉ;clear X6 ĉ S5 E6;obtain⟨Í,led6⟩:=st6;refine dM Ð fun hy e hJ6=>?_;clear Ð;dsimp only at e hJ6;subst e;have hf:FC vv w A B y3 (.blt "list.append") [.ref D,u] [] ⟨Í,((D,.list acc)::l0)++gl3⟩ fun O t5=>t5=⟨Í,((D,.list (acc++[u]))::l0)++gl3⟩:=zl (xs:=acc) (a6 hz.2.2) .here rfl;refine hf s₆ Z6 (.builtin "list.append") [.ref D,z] [] (.blt _) (.cons (.ref _) (.cons V6 .nil)) .nil S6 _ _ fun O O s₇ Z7 st7 k₇ S7 O X₇=>?_;subst k₇;exact⟨ps.length,g4 _,.mk (((UR ..).trans (congrArg (acc ++ ·) (List.filterMap_cons_some hy).symm)).trans W8) ((Yr (as:=acc) (bs:=[u]))▸hz.2.1) hJ6 S7 M6 E2 (X7.trans X₇)⟩
  ·cases r with
   |none=>exact h1.elim
   |some v=>exact h1
end
section
variable{N:aa}
theorem Py(vars:List Str)(y:Str):(vars.map fun x=>(x,AV.any)).lookup y=none∨(vars.map fun x=>(x,AV.any)).lookup y=some .any:=by
 induction vars with
 |nil=>exact .inl rfl
 |cons x vars ih =>
  rw[Yu,YE];cases y==x with
  |true=>exact .inr rfl
  |false=>exact ih
theorem Px{vars:List Str}(h:(vars.map fun x=>(x,AV.any)).lookup y=some v):y∈vars:=by
 induction vars with
 |nil=>cases h
 |cons x vars ih =>
  rw[Yu,YE] at h;cases q:y==x with
  |true=>rw[beq_iff_eq.mp q];exact Yi ..
  |false=>rw[q] at h;exact Yk _ (ih h)
theorem FL{RR:Value->YV->Result->Yo->Prop}{scope:Scope}{cl:List (Str×YV)}{l gl:aa}{vars:List Str}
  (hA:w0 A k) (hN:D4 N l) (C4:∀y∈scope.names,y.2 ≠ .cell) (D5:scope.kind=.function) (hv:∀x∈vars,scope.names.lookup x=some .local)
   {ys:List (Option AV)} (y4:xs.length=ys.length) (hsz:xs.length<=Zc)
  (hI:u8 vv w B [] k t0 it xs gl) (F6:ke vv w B it gl)
  (B5:∀L,∀p∈xs.zip ys,im vv w A B (compEnvC scope cl L s9) t0 elt F0 N J p.1 p.2) (hJ:J (vars.map fun x=>(x,.any)))
  (S:w5 B s9 s Z ⟨loc,gl++l⟩)
  (hRR:∀D C s' Z' eX,t8 B s' Z' ((C,.ns eX)::(D,.list (ys.filterMap id))::(s9.locals,.ns loc)::l) ->
   y8 (aj ((s9.locals,.ns loc)::(gl++l))) s Z s' Z' (aj ((C,.ns eX)::(D,.list (ys.filterMap id))::(s9.locals,.ns loc)::l))->RR (.ref D) C (.ok .next) s') :
  YJ (YG vv w) A (newList []) (fun acc w7=>YJ (YG vv w) A (newFunctionEnv scope s9.globals cl [] s9.qual none .none (some s9)) (fun y3 s4 =>
   codeAny (YG vv w) A (.compStart (.ListComp elt [⟨t0,iter,F0,0⟩] scope pos) 0 (.ref it) acc {y3 with scope:=relabel scope s9}) (RR acc y3.locals) s4) E w7) E s:=by
 refine Zo ?_;have S0:=S.toL;have P1:=S0.push (o:={ cls:=.type "list",dict:=none,data:=.seq ([]:List Value).toArray}) (ao:=.list []) rfl s.toks ⟨_,_,Ys _ rfl,.nil⟩;generalize Q8:({s with heap:=s.heap.push {cls:=.type "list",dict:=none,data:=.seq ([]:List Value).toArray},toks:=s.toks}:Yo)=s1 at P1;generalize s.heap.objs.size=D at P1 ⊢;refine aL P1 fun S1 X1=>?_;clear P1;refine wpAny_newFunctionEnv C4 (by intro y hy;simp at hy) (fun h1 hns1 hsb1=>?_) D5;have keep:∀b o,s1.heap.get? b=some o->h1.get? b=some o:=fun b o e=>hsb1.extBut b o (ZE (Zj e)) (Yt _ e);have P2:=S1.newAt (h':=h1) (ao:=.ns (vars.map fun x=>(x,.any))) rfl (s1.toks+([]:List (Str×Value)).length) keep ⟨_,hns1,fun y=>by
  rcases Py vars y with e |e
  ·rw[e];exact .none
  ·rw[e];exact .any⟩
 generalize U5:({s1 with heap:=h1,toks:=s1.toks+([]:List (Str×Value)).length}:Yo)=s2 at P2 ⊢;generalize s1.heap.objs.size=C at P2 ⊢;refine aL P2 fun S2 X2=>?_;clear P2;have K_:=X1.trans X2;have hkin:∀x v,(vars.map fun x=>(x,AV.any)).lookup x=some v->(compEnvC scope cl C s9).kindOf x=some .local:=fun x v e=>lookup_relabel_local (hv x (Px e));have pm:((C,y1.ns (vars.map fun x=>(x,.any)))::(D,.list [])::(s9.locals,.ns loc)::(gl++l)).Perm ((C,y1.ns (vars.map fun x=>(x,.any)))::(((D,.list [])::(s9.locals,.ns loc)::l)++gl)) :=
  j6 _ (j6 _ (j6 _ Yx))
 have S3:w5 B (compEnvC scope cl C s9) s2 Z ⟨vars.map fun x=>(x,.any),((D,.list [])::(s9.locals,.ns loc)::l)++gl⟩ :=
  t8.toF (s9:=compEnvC scope cl C s9) (st:=⟨vars.map fun x=>(x,.any),((D,.list [])::(s9.locals,.ns loc)::l)++gl⟩) (S2.perm pm) hkin D5
 have loop:codeAny (YG vv w) A (.compLoop (.ListComp elt [⟨t0,iter,F0,0⟩] scope pos) 0 (.ref it) (.ref D) (compEnvC scope cl C s9)) (RR (.ref D) C) s2:=by
  refine TQ hA (N:=N) (l0:=(s9.locals,.ns loc)::l) (hN.cons _) y4 hsz hI (B5 C) hJ S3 fun s' Z' w6 S' X'=>?_;refine hRR D C s' Z' w6 S'.toL ?_;rw[dI,dI] at X';refine K_.trans ?_;rw[er pm];exact X'
 have pm2:((C,y1.ns (vars.map fun x=>(x,.any)))::(D,.list [])::(s9.locals,.ns loc)::(gl++l)).Perm (gl++((C,y1.ns (vars.map fun x=>(x,.any)))::(D,.list [])::(s9.locals,.ns loc)::l)):=by
  refine List.Perm.trans pm ?_;exact Yx (l₁:=(C,y1.ns (vars.map fun x=>(x,.any)))::(D,.list [])::(s9.locals,.ns loc)::l) (l₂:=gl)
 exact codeAny_compStart_list loop (F6 A _ s2 Z (S2.perm pm2) _ _ loop)
def pI(vv:YA)(w:YH)(A:Yz)(B:u6)(s9:Env)(k:Nat)(N:aa)(vars:List Str)(scope:Scope)(cl:List (Str×YV))(elt t0:Expr)(F0:List Expr)(J:List (Str×AV)->Prop)(K:List AV->St->Prop)(u:AV)(A5:St):Prop :=
 ∃it gl l xs ys,u=.ref it/\A5.led=gl++l/\u8 vv w B [] k t0 it xs gl/\ke vv w B it gl/\D4 N l/\xs.length=ys.length/\xs.length<=Zc /\
  (∀L,∀p∈xs.zip ys,im vv w A B (compEnvC scope cl L s9) t0 elt F0 N J p.1 p.2)/\K (ys.filterMap id) ⟨A5.loc,l⟩
theorem kc{scope:Scope}{cl:List (Str×YV)}(vars:List Str)
  (hA:w0 A k) (J5:closureFor scope s9=b9 cl) (C4:(scope.names.all fun y=>y.2 != .cell)=true) (D5:scope.kind=.function) (R8:(scope.names.all fun x=>x.2 != .local||scope.names.lookup x.1==some .local)=true)
  (hv:(vars.all fun x=>scope.names.lookup x==some .local)=true) (hs:∀x,j8 iter s9 x=b9 x) (hJ:J (vars.map fun x=>(x,.any)))
  (h:T vv w A B s9 Val (ZI iter s9) st fun v y6=>F1 vv w A B s9 Val pyIter v y6 fun u A5=>pI vv w A B s9 k N vars scope cl elt t0 F0 J (fun ys D1=>∀D,D∉keys D1.led->K (.ref D) ⟨D1.loc,(D,.list ys)::D1.led⟩) u A5) :
  T vv w A B s9 Val (ZI (.ListComp elt [⟨t0,iter,F0,0⟩] scope pos) s9) st K:=fun s Z S Q E hQ=>by
 have T3:∀y∈scope.names,y.2 ≠ .cell:=fun y hy=>by simpa using YY.mp C4 y hy
 have M4:∀y∈scope.names,y.2=.local->scope.names.lookup y.1=some .local:=fun y hy e=>by
  have:=YY.mp R8 y hy;simpa[e] using this
 have Y9:∀x∈vars,scope.names.lookup x=some .local:=fun x hx=>by simpa using YY.mp hv x hx
 rw[eval_ListComp];refine wpAny_comprehension_free (use:=none) rfl hs J5 D5 M4 (h s Z S _ _ fun v x s₁ Z1 y6 k₁ S1 V1 X1=>k₁ s₁ Z1 x V1 S1 _ _ fun u y s2 Z2 A5 k2 S2 V2 X2=>?_);obtain⟨D8,Î⟩:=A5;refine Hl k2 fun it gl l xs ys O6 e hI F6 hN y4 hsz B5 hK=>?_;clear k2;subst O6;dsimp only at e hK;subst e
 (have e_:=V2.inv;subst e_)
 refine FL (RR:=fun acc C=>compPost (YG vv w) A E none Q acc C) hA hN T3 D5 Y9 y4 hsz hI F6 B5 hJ S2 fun D C s' Z' eX S' X'=>?_;refine ae (S'.own _ (Yi ..)) fun m hn O=>?_;refine bQ m hn (fun h' Q9=>?_);refine aL (S'.lose Q9) fun S3 X3=>?_;have S4:=S3.perm (l':=(s9.locals,.ns D8)::(D,.list (ys.filterMap id))::l) (c0 ..);have SF:w5 B s9 {s' with heap:=h' } Z' ⟨D8,(D,.list (ys.filterMap id))::l⟩:=t8.toF (st:=⟨D8,(D,.list (ys.filterMap id))::l⟩) S4 S2.kinds S2.fn;refine hQ (.ref D) (.ref D) _ Z' _ (hK D (YC.mp SF.nodup).1) SF (.ref _) ((X1.trans X2).trans ?_);rw[dI,dI];refine(X'.trans X3).trans ?_;rw[er (l:=(D,.list (ys.filterMap id))::(s9.locals,.ns D8)::l) (l':=(s9.locals,.ns D8)::(D,.list (ys.filterMap id))::l) (c0 ..)];exact .refl
theorem pi{px Ê:Pos}{scope:Scope}{cl:List (Str×YV)}{K:u7->St->Prop}(vars:List Str)
  (hsw:swapsWith (.ListComp elt [⟨t0,iter,F0,0⟩] scope pos) (some (.Name x px)) Ê.line s9=b9 true)
  (hA:w0 A k) (J5:closureFor scope s9=b9 cl) (C4:(scope.names.all fun y=>y.2 != .cell)=true) (D5:scope.kind=.function) (R8:(scope.names.all fun x=>x.2 != .local||scope.names.lookup x.1==some .local)=true)
  (hv:(vars.all fun x=>scope.names.lookup x==some .local)=true) (hs:∀x,j8 iter s9 x=b9 x) (hJ:J (vars.map fun x=>(x,.any)))
  (h:T vv w A B s9 Val (ZI iter s9) st fun v y6=>F1 vv w A B s9 Val pyIter v y6 fun u A5=>pI vv w A B s9 k N vars scope cl elt t0 F0 J (fun ys D1=>∀D,D∉keys D1.led->F1 vv w A B s9 aV (m5 s9 x) (.ref D) ⟨D1.loc,(D,.list ys)::D1.led⟩ fun O F4=>K .next F4) u A5) :
  T vv w A B s9 y0 (exec (.Assign [.Name x px] (.ListComp elt [⟨t0,iter,F0,0⟩] scope pos) Ê) s9) st K:=fun s Z S Q E hQ=>by
 have T3:∀y∈scope.names,y.2 ≠ .cell:=fun y hy=>by simpa using YY.mp C4 y hy
 have M4:∀y∈scope.names,y.2=.local->scope.names.lookup y.1=some .local:=fun y hy e=>by
  have:=YY.mp R8 y hy;simpa[e] using this
 have Y9:∀x∈vars,scope.names.lookup x=some .local:=fun x hx=>by simpa using YY.mp hv x hx
 rw[exec_Assign_Name_used _ _ _ _ hsw];refine Yh (YU (Yh ?_));show YJ _ A (do let _ ← comprehension (.ListComp elt [⟨t0,iter,F0,0⟩] scope pos) scope s9 _ (newList []) false (ZI iter s9) (some (ZQ (.Name x px) s9))) _ _ s;refine Yh (Zk (wpAny_comprehension_free (use:=some (ZQ (.Name x px) s9)) (Q:=fun O s'=>Q .next s') rfl hs J5 D5 M4
  (h s Z S _ _ fun v x s₁ Z1 y6 k₁ S1 V1 X1=>k₁ s₁ Z1 x V1 S1 _ _ fun u y s2 Z2 A5 k2 S2 V2 X2=>?_)) (fun O s' hq=>Yj (Yj hq)) fun O O e=>e)
 obtain⟨D8,Î⟩:=A5;refine Hl k2 fun it gl l xs ys O6 e hI F6 hN y4 hsz B5 hK=>?_;clear k2;subst O6;dsimp only at e hK;subst e
 (have e_:=V2.inv;subst e_)
 refine FL (RR:=fun acc C=>compPost (YG vv w) A E (some (ZQ (.Name _ px) s9)) (fun O s'=>Q .next s') acc C) hA hN T3 D5 Y9 y4 hsz hI F6 B5 hJ S2 fun D C s' Z' eX S' X'=>?_;have S3:=S'.drop1;have S4:=S3.perm (l':=(s9.locals,.ns D8)::(D,.list (ys.filterMap id))::l) (c0 ..);have SF:w5 B s9 s' Z' ⟨D8,(D,.list (ys.filterMap id))::l⟩:=t8.toF (st:=⟨D8,(D,.list (ys.filterMap id))::l⟩) S4 S2.kinds S2.fn;refine ae (S'.own _ (Yi ..)) fun m hn O=>?_;dsimp only at hn;have hC:C∉keys ((D,.list (ys.filterMap id))::(s9.locals,.ns D8)::l):=(YC.mp S'.nodup).1;have hCZ:Z' C=none:=S'.apart _ (Yi ..);have y_ : ¬ (aD s9 ⟨D8,(D,.list (ys.filterMap id))::l⟩).at_ C:=by
  rintro (q |q)
  ·exact hC (q▸Yk _ (Yi ..))
  ·rcases Yp.mp q with q |q
   ·exact hC (q▸Yi ..)
   ·exact hC (Yk _ (Yk _ q))
 have Xf:y8 (aD s9 st) s Z s' Z' (aj ((C,.ns eX)::(D,.list (ys.filterMap id))::(s9.locals,.ns D8)::l)):=by
  have:=X1.trans X2;rw[dI (s9:=s9) ⟨D8,gl++l⟩] at this;exact this.trans X'
 have hCs:(aD s9 st).at_ C∨s.heap.get? C=none:=Xf.grow C (Yi ..);have Xa:y8 (aD s9 st) s Z s' Z' (aD s9 ⟨D8,(D,.list (ys.filterMap id))::l⟩):=by
  refine(X1.trans X2).trans ?_;rw[dI,dI];refine X'.less (fun a ha=>?_) fun g hg=>?_
  ·rcases Yp.mp ha with q |ha
   ·exact q▸Yk _ (Yk _ (Yi ..))
   ·rcases Yp.mp ha with q |ha
    ·exact q▸Yk _ (Yi ..)
    ·exact Yk _ (Yk _ (Yk _ ha))
  ·exact hg
 show YJ _ A (ZQ (.Name _ px) s9 (.ref D)) _ _ _;refine wpAny_assign_Name (hK D (YC.mp SF.nodup).1 s' Z' (.ref D) (.ref _) SF _ _ fun O O s4 Z4 F4 M0 I6 O X4=>?_);refine kj (id hn) fun oc oes oep R7 Û=>?_;have hoc':=X4.kept _ _ R7 y_;refine bQ m ⟨oc,oes,oep,hoc',Û⟩ (fun h' Q9=>?_);have C8:∀a,(aD s9 F4).at_ a->a≠C:=fun a ha q=>by
  subst q;rcases X4.grow a ha with q |q
  ·exact y_ q
  ·rw[R7] at q;cases q
 have hZC:Z4 C=none:=by
  cases e:Z4 C with
  |none=>rfl
  |some o =>
   rcases X4.zgrow C o e with q |q |q
   ·rw[hCZ] at q;cases q
   ·exact(y_ q).elim
   ·rw[R7] at q;cases q
 have keep:∀b o,b≠C->s4.heap.get? b=some o->h'.get? b=some o:=fun b o hb e=>Q9.extBut b o hb e;refine hQ _ _ _ Z4 F4 M0 ⟨⟨I6.base,fun a o e=>keep a o (fun q=>by rw[q,hZC] at e;cases e) (I6.frozen a o e),I6.nodup,I6.apart,fun p hp=>(I6.own p hp).mono (.refl _) (fun o e=>keep _ o (C8 _ (.inr (YF hp))) e) (fun O O O e=>e),I6.gnodup,I6.bare⟩,
  I6.locZ,I6.locL,I7.mono (.refl _) (fun o e=>keep _ o (C8 _ (.inl rfl)) e) I6.loc,I6.kinds,I6.fn⟩ .next ?_
 have Xb:=Xa.trans X4;refine⟨Xb.le,fun a o e h=>keep a o (fun q=>?_) (Xb.kept a o e h),Xb.grow,Xb.zgrow,Xb.os,Xb.gkept,Xb.ggrow⟩;subst q;rcases hCs with q |q
 ·exact h q
 ·rw[q] at e;cases e
end
section
variable{N:aa}
theorem Qs{fp:List YV}{Pv:Nat->Value->Prop}{St:Nat->Heap->Prop}(F6:∀(A:Yz) (s:Yo) (Q:Value->Yo->Prop) E,St i s.heap->Q (.ref it) s->YJ (YG vv w) A (pyIter (.ref it)) Q E s) :
  ke vv w B it [(it,fH it fp Pv xs St i)]:=fun A led s Z S Q E hq=>by
 refine iT (S.own _ (Yi ..)) fun o ho O O h3=>?_;exact F6 A s Q E (h3 _ ho S.frozen) hq
theorem XL{a b:Int}(ha : -(2^62)<=a)(ha':a<2^62)(hb : -(2^62)<=b)(Ä:b<2^62)
  (h:∀it gl,(∀t0 B' N,u8 vv w B' N k t0 it (cI a b) gl)->(∀B',ke vv w B' it gl)->R (.ref it) ⟨st.loc,gl++st.led⟩):F1 vv w A B s9 Val pyIter (.rng a b) st R:=fun s Z x V S Q E hQ=>by
 refine Hn (EE V) fun r t u v qv e=>?_;subst qv;refine wpAny_pyIter_range (S.frozen _ _ e) (small_one ha ha' hb Ä) ?_;have y4:(cI a b).length=(b-a).toNat:=by unfold cI;rw[Yl,List.length_range]
 have hsz:Builtin.Range.rangeSize a b 1=((b-a).toNat:Int):=by
  rw[rangeSize_one];split <;> omega
 rw[hsz];have P:=S.tot8.push (o:={ cls:=.type "range_iterator",data:=.fields #[ZG a,ZG ((b-a).toNat:Int),ZG 1]})
  (ao:=fH s.heap.objs.size [s.heap.objs.size] (fun i v=>∃t,v=.int (a+i * 1) t) (cI a b) (fun i h=>IsRangeIter h s.heap.objs.size (a+(i:Nat) * 1) (((b-a).toNat:Int)-(i:Nat)) 1) 0) rfl s.toks
  ⟨_,Ys _ rfl,fun c hc => .inl (by simpa using hc),fun i y v h1 h2=>by
   refine aq h2 fun t O2=>?_;clear h2;subst O2;unfold cI at h1;rw[Ze] at h1;refine ae (ZF.mp h1) fun j hj O3=>?_;subst O3;have W7:j=i:=by
    refine aq (j5.mp hj) fun h1 h2=>?_;rw[← h2,List.getElem_range]
   rw[W7,Int.mul_one];exact .int _ _,fun h e1 e2=>by
   show h.get? s.heap.objs.size=_;rw[e1];simp⟩
 exact hQ _ _ _ Z _ (h s.heap.objs.size _ (fun t0 B' N=>u8.walks (vv:=vv) (w:=w) (B:=B') (t0:=t0) (xs:=cI a b) (fp:=[s.heap.objs.size]) (Pv:=fun i v=>∃t,v=.int (a+i * 1) t) (St:=fun i h=>IsRangeIter h s.heap.objs.size (a+(i:Nat) * 1) (((b-a).toNat:Int)-(i:Nat)) 1) (fun A hA=>by exact(Eq.symm (y4))▸Walks.range hA s.heap.objs.size a 1 (b-a).toNat) (fun A i s v Q E E2 hq=>Eh E2 hq) (fun i h E2=>⟨_,E2⟩) k (cI a b).length 0 ⋯) fun B'=>Qs fun A s Q E E2 hq=>wpAny_pyIter_rangeiter E2 hq) (S.after P.1 P.2) (.ref _) P.2.toF
end
def yK(v:AV)(Z:u6)(o:Obj):Prop:=∃x,o.data=.cell (some x)/\Val Z v x
theorem Ul(Z Z':u6)(o:Obj)(k:u6.le Z Z')(x:yK v Z o):yK v Z' o:=x.imp fun O h=>⟨h.1,h.2.mono k⟩
noncomputable abbrev aU(v:AV):y1:=.obj (yK v) Ul
def Un(Z:u6)(o:Obj):Prop:=∃x,o.data=.cell x
noncomputable abbrev fo:y1:=.obj Un (fun O O O O x=>x)
section
variable{N:aa}
theorem VC{c:YV}(hk:s9.kindOf x=some .cell)(hc:s9.cells.lookup x=some c)(hm:(c,aU v)∈st.led)(hd:(x==("__debug__" : Str))=false)(h:K v st) :
  T vv w A B s9 Val (ZI (.Name x pos) s9) st K:=fun s Z S Q E hQ=>by
 obtain⟨o,ho,y,hy,V⟩:=S.own _ hm;exact wpAny_Name (wpAny_loadName_cell S.fn hk hc ⟨o,ho,hy⟩ (hQ _ _ s Z st h S V .refl)) hd
theorem Hh{c:YV}{e0:y1}{led led':aa}{K:Unit->St->Prop}(hk:s9.kindOf x=some .cell)(hc:s9.cells.lookup x=some c)(h0:∀Z s,Holds Z s c e0->∃u,s.heap.IsCell c u)(g0:e0.gnum=none)
  (U:Upd c e0 (aU v) led led') (h:K () ⟨loc,led'⟩):F1 vv w A B s9 aV (m5 s9 x) v ⟨loc,led⟩ K:=fun s Z u V S Q E hQ=>by
 refine aq (h0 _ _ (S.own _ U.mem)) fun u0 hu=>?_;refine wpAny_storeName_cell S.fn hk hc hu fun h' J' Q9=>?_;refine ae J' fun o' I' r_=>?_;clear J';have P:=S.tot8.upd U (h':=h') (tk:=s.toks) (fun b ob hb e=>Q9.extBut b ob hb e) g0 rfl ⟨o',I',u,r_,V⟩;exact hQ () () _ Z _ h (S.after P.1 P.2) trivial P.2.toF
theorem Um(Z:u6)(s:Yo)(c:YV)(h:Holds Z s c fo):∃u,s.heap.IsCell c u:=by
 obtain⟨o,ho,x,hx⟩:=h;exact dZ x o ho hx
end
section
open PySem PySem.W PySem.SeqAt
section
variable{N:aa}
theorem zR(ns:List Int):∀vs:List Value,Vals Z (ns.map .int) vs->PyProof.Rows.IntsAre vs ns:=by
 induction ns with
 |nil=>exact Vals.un0 .nil
 |cons n ns ih=>exact Vals.un (Val.eInt fun t ys h => .cons _ _ (ih ys h))
theorem Xc{led':aa}(hl:w9 st.led v ys)(hsz:xs.length+ys.length<=2^20)(U:Upd a (.list xs) (.list (xs++ys)) st.led led')(h:K .none ⟨st.loc,led'⟩) :
  FC vv w A B s9 (.blt "list.extend") [.ref a,v] [] st K:=fun s Z fx zs ks hf hx hk S Q E hQ=>by
 cases hf
 cases hk
 cases hx with
 |cons h1 hx =>
  cases hx with
  |cons h2 hx =>
   (have e_:=hx.inv;subst e_)
   (have e_:=h1.inv;subst e_)
   refine bv (hl.get h2 S.tot8) fun b items2 n2 O4 ò Q6=>?_;subst O4;refine bK (S.own _ U.mem) fun items n g vs=>?_;dsimp only at g;have y4:items.size=xs.length:=vs.size;have ë:items2.size=ys.length:=by simpa using Q6.length
   have hs:(2:Nat)^20<=Zc:=by decide
   refine call_meets F.slot_list_extend (⟨_,g,rfl⟩) F.entry_list_extend (F.args_list_extend_2 _ _) (PySem.AutoSeq1.list_extend_list_list_0 a items n b items2 n2 (by simp[Builtin.List.listTooLong,y4,ë];intro _;omega) ⋯ ⋯) ⟨g,ò,?_⟩;have G9:∃n',(s.heap.update a (Zi fun x=>x++items2)).get? a=some {cls:=.type "list",data:=.seq (items++items2) n' }:=⟨_,YZ (Zi fun x=>x++items2) g rfl⟩;refine aq G9 ?_;clear G9;intro n' G9;have P:=S.tot8.upd U (h':=s.heap.update a (Zi fun x=>x++items2)) (tk:=s.toks) (fun b ob hb e=>(YX ..).extBut b ob hb e) rfl rfl ⟨_,n',G9,by simpa using vs.append Q6⟩;exact hQ _ _ _ Z _ h (S.after P.1 P.2) .none P.2.toF
def iS[DecidableEq β](f:β->AV):Prop:=∀(Z:u6) (x y:β) (u v:Value),Val Z (f x) u->Val Z (f y) v->∀(A:Yz) (s:Yo),EqAt A s u v (decide (x=y))
theorem fO:iS AV.str:=fun Z x y u v h1 h2 A s=>by
 refine aq h1.inv fun t e=>?_;subst e;refine aq h2.inv fun Τ e=>?_;subst e
 have:=EqAt.str_str (A:=A) (s:=s) x t y Τ;rwa [show (x==y)=decide (x=y) from by rw[k4,beq_iff_eq,decide_eq_true_eq]] at this
theorem Ti:iS AV.int:=fun Z x y u v h1 h2 A s=>by
 refine aq h1.inv fun t e=>?_;subst e;refine aq h2.inv fun Τ e=>?_;subst e
 have:=EqAt.int_int (A:=A) (s:=s) x t y Τ;rwa [show (x==y)=decide (x=y) from by rw[k4,beq_iff_eq,decide_eq_true_eq]] at this
theorem pg[DecidableEq β](as bs:List β)(h:as.length=bs.length):(List.range as.length).all (fun j=>decide (as[j]?=bs[j]?))=decide (as=bs):=by
 rw[k4,YY,decide_eq_true_eq];constructor
 ·intro h1;refine List.ext_getElem? fun j=>?_;by_cases q:j<as.length
  ·simpa using h1 j (List.mem_range.mpr q)
  ·rw[a7 ⋯,a7 ⋯]
 ·rintro rfl j _
  simp
theorem w9.isList{led:aa}(h:w9 led v xs){x:Value}(V:Val Z v x)(S:t8 B s Z led):∃a items,x=.ref a/\s.heap.IsList a items/\Vals Z xs items.toList:=by
 refine bv (h.get V S) fun a items n O4 I5 hv=>?_;subst O4;exact tQ a items rfl ⟨_,I5,rfl,n,rfl⟩ hv
theorem Fs[DecidableEq β]{f:β->AV}(hf:iS f){as bs:List β}{items items2:Array Value}(h1:Vals Z (as.map f) items.toList)(h2:Vals Z (bs.map f) items2.toList)(hsz:as.length=bs.length)(A:Yz)(s:Yo) :
  ∀j (q1:j<items.size) (q2:j<items2.size),EqAt A s items[j] items2[j] (decide (as[j]?=bs[j]?)):=fun j q1 q2=>by
 have l1:items.size=as.length:=by simpa using h1.length
 have l2:items2.size=bs.length:=by simpa using h2.length
 refine ae (h1.get (i:=j) (x:=f (as[j]'⋯)) (by rw[Ze,YL ⋯];rfl)) fun u e1 V1=>?_;refine ae (h2.get (i:=j) (x:=f (bs[j]'⋯)) (by rw[Ze,YL ⋯];rfl)) fun v e2 V2=>?_;have g1:items[j]=u:=by rw[e8,ZU q1] at e1;exact d8 e1
 have g2:items2[j]=v:=by rw[e8,ZU q2] at e2;exact d8 e2
 rw[g1,g2]
 have:=hf Z _ _ u v V1 V2 A s;rwa [show decide (as[j]'⋯ = bs[j]'⋯)=decide (as[j]?=bs[j]?) from by
  rw[YL (show j<as.length by omega),YL (show j<bs.length by omega),k4,decide_eq_true_eq,decide_eq_true_eq,ZO]] at this
theorem pA[DecidableEq β]{f:β->AV}(hf:iS f){as bs:List β}(hA:w0 A 1)(hl:w9 st.led v (as.map f))(hr:w9 st.led u (bs.map f))(h:K (.bool (decide (as=bs))) st) :
  F2 vv w A B s9 Val (g5 .Eq) v u st K:=fun s Z x1 x2 V1 V2 S Q E hQ=>by
 refine bw (hl.isList V1 S.tot8) fun a items O3 hi hv=>?_;subst O3;refine bw (hr.isList V2 S.tot8) fun b items2 O3 Y4 Q6=>?_;subst O3;have l1:items.size=as.length:=by simpa using hv.length
 have l2:items2.size=bs.length:=by simpa using Q6.length
 by_cases hsz:as.length=bs.length
 ·refine PySem.SeqAt.eq_listAt (e:=fun j=>decide (as[j]?=bs[j]?)) hi Y4 ⋯ hA.ult (Fs hf hv Q6 hsz _ _) ?_;rw[l1,pg as bs hsz];exact hQ _ _ s Z st h S (.bool _) .refl
 ·refine PySem.SeqAt.eq_list_lengthsAt hi Y4 (by simp;omega) hA.ult ?_;rw[decide_eq_false (fun e=>hsz (by rw[e]))] at h;exact hQ _ _ s Z st h S (.bool _) .refl
theorem zq[DecidableEq β]{f:β->AV}(hf:iS f){as bs:List β}(hA:w0 A 1)(hl:w9 st.led v (as.map f))(hr:w9 st.led u (bs.map f))(h:K (.bool (!decide (as=bs))) st) :
  F2 vv w A B s9 Val (g5 .NotEq) v u st K:=fun s Z x1 x2 V1 V2 S Q E hQ=>by
 refine bw (hl.isList V1 S.tot8) fun a items O3 hi hv=>?_;subst O3;refine bw (hr.isList V2 S.tot8) fun b items2 O3 Y4 Q6=>?_;subst O3;have l1:items.size=as.length:=by simpa using hv.length
 have l2:items2.size=bs.length:=by simpa using Q6.length
 by_cases hsz:as.length=bs.length
 ·refine RcNeAt.lists (e:=fun j=>decide (as[j]?=bs[j]?)) hi Y4 ⋯ hA.ult (Fs hf hv Q6 hsz _ _) vv w E _ ?_;rw[l1,pg as bs hsz];exact hQ _ _ s Z st h S (.bool _) .refl
 ·refine RcNeAt.lists_lengths hi Y4 (by simp;omega) hA.ult vv w E _ ?_;rw[decide_eq_false (fun e=>hsz (by rw[e]))] at h;exact hQ _ _ s Z st h S (.bool _) .refl
theorem Xr{a b:Bool}(h:K (.bool (!(a==b))) st):F2 vv w A B s9 Val (g5 .NotEq) (.bool a) (.bool b) st K:=F2.of fun s Z S Q E hQ=>Val.eBool <| Val.eBool <| RcNeAt.bool_bool a b vv w E _ (hQ _ _ s Z st h S (.bool _) .refl)
end
end
section
open PySem PySem.W PySem.SeqAt
theorem RW:ZJ (.type "generator") "__len__" = b9 none:=by rw[Zs,YW];kernel_rfl
theorem RX:ZJ (.type "generator") "__length_hint__" = b9 none:=by rw[Zs,YW];kernel_rfl
theorem Jo(items:Array Value)(a b:Nat)(W9:a<=b):slicePick items (some a) (some b) none=((items.toList.drop a).take (b-a)).toArray:=by
 rw[slicePick_plain];simp only[Option.elim,clipAt_nat];congr 1
 have hl:items.toList.length=items.size:=ZL;rcases Nat.le_total b items.size with h |h
 ·rw[Nat.min_eq_left h,Nat.min_eq_left (Zg W9 h)]
 ·rw[Nat.min_eq_right h];rcases Nat.le_total a items.size with h' |h'
  ·rw[Nat.min_eq_left h',List.take_of_length_le (by rw[p9,hl];exact YR _),List.take_of_length_le (by rw[p9,hl];exact Nat.sub_le_sub_right h a)]
  ·rw[Nat.min_eq_right h',ZS (o5 hl),ZS (Zg (o5 hl) h'),List.take_nil,List.take_nil]
section
variable{N:aa}
theorem WP{ga g:Nat}{gs:l3}{gl led:aa}{rows:List AV}(hG:A7 B)(hA:w0 A (n+4))(hN:D4 N led)(h0:D6 vv w B N n rows gl gs)(hsz:rows.length<=Zc)(h:R (.lst rows) ⟨loc,led⟩) :
  FC vv w A B s9 (.typ "list") [.ref ga] [] ⟨loc,((ga,.gen g gs)::gl)++led⟩ R:=by
 refine GU (k:=n+1) (T' := "generator") hA hN (u8.gen hG (fun O O O O O O O O A Q E hq=>Yj hq) h0) hsz (fun s Z S=>?_) (by decide) (by decide) (fun A s Z S Q E hq=>?_) RW RX h
 ·exact(S.own _ (Yi ..)).1.typeIs
 ·exact wpAny_pyIter_gen (S.own _ (Yi ..)).1 hq
end
end
section
open PySem PySem.W PySem.SeqAt
noncomputable def qb(n:Nat)(x:Str):Str:=⟨(x.cps.toList.take n).toArray⟩
noncomputable def yE(n:Nat)(x:Str):Str:=⟨(x.cps.toList.drop n).toArray⟩
theorem iE(x:Str):x.cps.toList.length=x.length:=by simp[Str.length]
theorem Ji(x:Str)(n:Nat):Txt.slice x none (some (n:Int))=qb n x:=by
 by_cases h:n<=x.length
 ·have:=eq_of_beq (PyProof.Rows.slice_closes_toL (x:=x) (j:=n) ⋯ ⋯);rw[this,qb];simp
 ·rw[PyProof.Rows.slice_to_beyond ⋯]
  have:=eq_of_beq (PyProof.Rows.slice_closes_toL (x:=x) (j:=(x.length:Nat)) ⋯ ⋯);rw[this,qb];congr 1
  simp only[Int.toNat_zero,List.drop_zero,Int.sub_zero,Zb];rw[List.take_of_length_le (o5 (iE x)),List.take_of_length_le (by rw[iE];omega)]
theorem Jn(x:Str)(n:Nat):Txt.slice x (some (n:Int)) none=yE n x:=by
 refine(ZA x.length n).elim (fun h=>?_) fun h=>?_
 ·rw[PyProof.Rows.slice_from_beyond (Int.ofNat_le.mpr (a6 h)),yE,List.drop_eq_nil_of_le (by rw[iE];exact a6 h)]
 ·have:=eq_of_beq (PyProof.Rows.slice_closes_fromL (x:=x) (i:=n) (b:=(x.length:Nat)) (p7 _) (Int.ofNat_le.mpr h) rfl);rw[this,yE];congr 2
  refine List.take_of_length_le ?_;rw[p9,iE];show _<=(((x.length:Int)-(n:Int))).toNat;rw[Int.toNat_sub];exact YR _
theorem UI{c:Nat}(hc:x.cps.toList[i]?=some c):(seqIndex? (i:Int) x.length).bind (x.cps[·]?)=some c:=by
 have C5:=(j5.mp hc).1;rw[iE] at C5;rw[seqIndex_of (p7 i) (Int.ofNat_lt.mpr C5)];exact(e8 ..).symm.trans hc
theorem OC(hi:i<2^62):(decide ((i:Int) < -(2^63:Int))||decide ((i:Int) ≥ 2^63))=false:=by
 rw[decide_eq_false (Int.not_lt.mpr (Int.le_trans (by decide) (p7 i))),decide_eq_false (Int.not_le.mpr (Int.lt_of_lt_of_le (Int.ofNat_lt.mpr hi) (by decide)))];rfl
theorem mu{c:Nat}(hi:i<2^62)(hc:x.cps.toList[i]?=some c)(h:K (.str ⟨#[c]⟩) st) :
  F2 vv w A B s9 Val getItem (.str x) (.int i) st K:=F2.of fun s Z S Q E hQ=>Val.eStr fun O=>Val.eInt fun O=>P.getItem_str (OC hi) (UI hc) (hQ _ _ _ Z st h (S.toks _) (.str _ _) (.toks _))
end
section
open PySem PySem.W PySem.SeqAt
noncomputable abbrev aT(xs:List Str):AV:=.lst (xs.map .str)
end
theorem Pc{fl:Nat->Nat->Nat->Nat->ab}(ok:cQ fl)(mx:W0 e fl):∀(f alo t9 blo t7:Nat),alo<=t9->blo<=t7->∀t∈cE fl f alo t9 blo t7,y7 e t :=
 sP ok (P:=fun O O O O L=>∀t∈L,y7 e t) (fun O O O O O O=>aG) fun alo t9 blo t7 i j k l r h1 h2 e O O O O hl hr=>sO hl (e▸mx.run _ _ _ _ h1 h2) hr
theorem y7.join{l:Nat}(h1:y7 e (i,j,k))(h2:y7 e (i+k,j+k,l)):y7 e (i,j,k+l):=fun d hd =>
 (ZA d k).elim (h1 d) fun q=>aq (Nat.le.dest q) fun c e=>e▸p6 i k c▸p6 j k c▸h2 c (Nat.lt_of_add_lt_add_left (e.symm▸hd:k+c<k+l))
theorem gh{Q:α->Prop}{xs:List α}{x:α}(h1:∀t∈xs,Q t)(h2:Q x)(t:α)(h:t∈xs++[x]):Q t:=(Zh.mp h).elim (h1 t) fun h=>YB.mp h▸h2
theorem Gn{Q:ab->Prop}{s:ab×List ab}(h1:Q s.1)(h2:∀t∈s.2,Q t):∀t∈(if s.1.2.2=0 then s.2 else s.2++[s.1]),Q t:=by
 split
 ·exact h2
 ·exact gh h2 h1
theorem UY(ts:List ab):∀s:ab×List ab,y7 e s.1->(∀t∈s.2,y7 e t)->(∀t∈ts,y7 e t)->∀t∈dW (ts.foldl cA s),y7 e t:=by
 induction ts with
 |nil=>exact fun s h1 h2 O=>Gn h1 h2
 |cons x ts ih =>
  intro s h1 h2 h3;have hx:=h3 x (Yi ..);have h3':=fun t ht=>h3 t (Yk _ ht);rw[Zu];unfold cA;split
  ·rename_i hc
   refine ih _ (y7.join h1 ?_) h2 h3';rw[hc.1,hc.2];exact hx
  ·exact ih _ hx (Gn h1 h2) h3'
theorem Ux{fl:Nat->Nat->Nat->Nat->ab}(ok:cQ fl)(mx:W0 e fl)(la lb:Nat):∀t∈aW fl la lb,y7 e t :=
 gh (UY _ ((0,0,0),[]) .none aG (Pc ok mx _ _ _ _ _ (YD _) (YD _))) .none
def fc(o:Op):Prop:=o.tag=av
def pD(e:Nat->Nat->Bool)(o:Op):Prop:=fc o->∃k,o.i2=o.i1+k/\o.j2=o.j1+k/\y7 e (o.i1,o.j1,k)
theorem yI{Q:Op->Prop}(h:∀t i ai j bj,t=bR∨t=bx∨t=bA->Q ⟨t,i,ai,j,bj⟩){ai bj:Nat}:∀o∈bC i ai j bj,Q o:=by
 unfold bC;split
 ·exact fun o ho=>YB.mp ho▸h _ _ _ _ _ (.inl rfl)
 ·split
  ·exact fun o ho=>YB.mp ho▸h _ _ _ _ _ (.inr (.inl rfl))
  ·split
   ·exact fun o ho=>YB.mp ho▸h _ _ _ _ _ (.inr (.inr rfl))
   ·exact aG
theorem sG{t:Str}(h:t=bR∨t=bx∨t=bA):t≠av:=by rcases h with rfl |rfl |rfl <;> decide
theorem NH(ts:List ab):∀s:(Nat×Nat)×List Op,(∀t∈ts,y7 e t)->(∀o∈s.2,pD e o)->∀o∈(ts.foldl cr s).2,pD e o:=by
 induction ts with
 |nil=>exact fun O O h=>h
 |cons t ts ih =>
  intro s h1 h2;refine ih (cr s t) (fun u hu=>h1 u (Yk _ hu)) fun o ho=>(Zh.mp ho).elim (fun ho=>(Zh.mp ho).elim (h2 o) (yI (fun O O O O O g q=>absurd q (sG g)) o)) ?_;unfold cW;split
  ·exact nofun
  ·exact fun q=>YB.mp q▸fun O=>⟨t.2.2,rfl,rfl,h1 t (Yi ..)⟩
theorem CK(a b:List Str):∀o∈bY (aW (bq (am a b) (aI a b)) a.length b.length),pD (am a b) o :=
 NH _ _ (Ux (fe _ _) (SE a b) _ _) aG
theorem Rp(codes:List Op):∀group,cF n group codes=[]->∀o∈group++codes,fc o:=by
 induction codes with
 |nil=>exact fun group=>(Zv group).symm▸gW (P:=fun l=>l=[]->∀o∈group,fc o) (fun c O=>List.isEmpty_iff.mp c▸aG) (fun c O=>aq (List.length_eq_one_iff.mp c.1) fun x e o ho=>YB.mp (e▸ho)▸d8 (e▸c.2:Option.map _ (List.head? [x])=_)) fun O O h=>nomatch h
 |cons o os ih=>exact fun group=>lS (P:=fun l=>l=[]->∀p∈group++o::os,fc p) (fun O h=>nomatch h) fun O h=>Gj group o os▸ih _ h
theorem NZ{f:Op->Op}(hf:∀o,(f o).tag=o.tag)(h:∀o∈jz f os,fc o):∀o∈os,fc o:=by
 cases os with
 |nil=>exact aG
 |cons x xs=>exact fun o ho=>(Yp.mp ho).elim (fun e=>e▸(hf x).symm.trans (h (f x) (Yi ..))) fun ho=>h o (Yk _ ho)
theorem NW{f:Op->Op}(hf:∀o,(f o).tag=o.tag):(∀o∈dg f os,fc o)->∀o∈os,fc o :=
 kA (P:=fun os=>(∀o∈dg f os,fc o)->∀o∈os,fc o) os (fun O=>aG) fun l x h=>by
  rw[mQ] at h;exact gh (fun o ho=>h o (Zq _ ho)) ((hf x).symm.trans (h (f x) (YQ _ (List.mem_singleton_self _))))
theorem Rr{codes:List Op}(h:bl n codes=[]):∀o∈codes,fc o:=by
 have k:=NZ (tr n) (NW (oL n) (Rp _ [] h));split at k
 ·rename_i c
  exact List.isEmpty_iff.mp c▸aG
 ·exact k
theorem Nv{a b:List Str}{i' j':Nat}(os:List Op):∀i,A2 i i os i' j'->(∀o∈os,pD (am a b) o/\fc o)->i'=j'/\∀d,i<=d->d<i'->a[d]?=b[d]?:=by
 induction os with
 |nil=>exact fun i h O=>⟨h.1.symm.trans h.2,fun d h1 h2=>absurd h2 (Nat.not_lt.mpr (h.1▸h1))⟩
 |cons o os ih =>
  intro i h K6;have q:=K6 o (Yi ..);refine aZ (q.1 q.2) fun k e1 e2 r=>?_;rw[h.1] at e1 r;rw[h.2.1] at e2 r;have h5:=h.2.2.2.2;rw[e1,e2] at h5;have g:=ih (i+k) h5 fun p hp=>K6 p (Yk _ hp);refine⟨g.1,fun d h1 h2=>(ZA d (i+k)).elim (fun z=>?_) fun z=>g.2 d z h2⟩;refine aq (Nat.le.dest h1) fun c e=>?_;subst e;exact beq_iff_eq.mp (r c (Nat.lt_of_add_lt_add_left z))
theorem Uf:bC i i j j=[]:=by unfold bC;rw[if_neg fun h=>d7 _ h.1,if_neg (d7 _),if_neg (d7 _)]
theorem Rl(a b:List Str)(n:Nat)(hs:bq (am a a) (aI a a) 0 a.length 0 a.length=(0,0,a.length)):bl n (bY (aW (bq (am a b) (aI a b)) a.length b.length))=[]↔a=b:=by
 constructor
 ·intro h;have r:=Nv _ 0 (qI (fe _ _) a.length b.length) fun o ho=>⟨CK a b o ho,Rr h o ho⟩;exact List.ext_getElem? fun d=>(ZA d a.length).elim (r.2 d (YD _)) fun q=>(a7 q).trans (a7 (r.1▸q)).symm
 ·rintro rfl
  have ok:=fe (am a a) (aI a a);generalize bq (am a a) (aI a a)=fl at hs ok;generalize a.length=m at hs;cases m with
  |zero =>
   unfold aW;rw[DQ (q:=(0,0,0,0)) (congrArg (fun t=>t.2.2) hs)];exact oR
  |succ m =>
   have h1:=DR (q:=(0,m+1,0,m+1)) ok (YD _) (YD _) (hs▸Nat.succ_ne_zero _);have z:0+(m+1)=m+1:=r0 _;rw[hs,if_neg fun h=>d7 _ h.1,if_neg fun h=>d7 (m+1) (o0 (o5 z.symm) (show 0+(m+1)<m+1 from h.1))] at h1;unfold aW;rw[h1];show bl n (bY ([(0,0,0+(m+1))]++[(m+1,m+1,0)]))=[];rw[z];show bl n ([]++[⟨av,0,0+(m+1),0,0+(m+1)⟩]++bC (0+(m+1)) (m+1) (0+(m+1)) (m+1)++[])=[];rw[z,Uf];exact EM
def W_:List Str->(List (Str×YV)->Prop)->Prop
 | [],P=>P []
 |x::r,P=>∀c,W_ r fun cs=>P ((x,c)::cs)
theorem W_.out{xs:List Str}:∀ {P:List (Str×YV)->Prop} {cs:List (Str×YV)},W_ xs P->cs.map (·.1)=xs->P cs:=by
 induction xs with
 |nil=>exact fun h e=>List.map_eq_nil_iff.mp e▸h
 |cons x xs ih =>
  intro P cs h e;cases cs with
  |nil=>exact nomatch e
  |cons p cs =>
   obtain⟨y,c⟩:=p;cases(c9 e).1
   exact ih (P:=fun cs=>P ((y,c)::cs)) (h c) (c9 e).2
theorem Pz{c:YV}{cs:List (Str×YV)}(hn:(cs.map (·.1)).Nodup)(h:(x,c)∈cs):cs.lookup x=some c:=by
 induction cs with
 |nil=>exact nomatch h
 |cons p cs ih =>
  rw[YE];have U8:=YC.mp hn;refine(Yp.mp h).elim (fun e=>e▸by rw[beq_self_eq_true]) fun h=>?_;rw[show (x==p.1)=false from beq_eq_false_iff_ne.mpr fun e=>U8.1 (show p.1∈cs.map (·.1) from e▸YM.mpr ⟨(x,c),h,rfl⟩)];exact ih U8.2 h
noncomputable abbrev pe(cs:List (Str×YV)):aa:=cs.map fun p=>(p.2,fo)
theorem yJ{cs:List (Str×YV)}{led:aa}(h:a∈keys (pe cs++led)):(∃x,(x,a)∈cs)∨a∈keys led:=by
 unfold keys at h;rw[YK] at h;refine(Zh.mp h).imp_left fun h=>?_;rw[ZR] at h;obtain⟨p,hp,e⟩:=YM.mp h;exact⟨p.1,e▸hp⟩
theorem Uk(cs:List (Str×YV))(led:aa):gkeys (pe cs++led)=gkeys led:=by
 induction cs with
 |nil=>rfl
 |cons p cs ih=>exact ih
theorem t8.cells{led:aa}(S:t8 B s Z led)(cs:List (Str×YV))(v_:cs.Pairwise fun x y=>x.2≠y.2)(h:∀p∈cs,p.2∉keys led/\Z p.2=none/\∃u,s.heap.IsCell p.2 u):t8 B s Z (pe cs++led):=by
 induction cs with
 |nil=>exact S
 |cons p cs ih =>
  have hp:=h p (Yi ..);have S':=ih (g9.mp v_).2 fun q hq=>h q (Yk _ hq);obtain⟨u,o,ho,hd⟩:=hp.2.2;exact t8.cons S' (fun q=>(yJ q).elim (fun⟨x,q⟩=>(g9.mp v_).1 _ q rfl) hp.1) hp.2.1 ⟨o,ho,u,hd⟩ S'.gnodup
section
variable{N:aa}
theorem UE{k:Str->Option NameKind}(bs:List (Str×Value))(h:∀p∈bs,k p.1=some .local):bindL k bs (fun O=>none)=fun y=>bs.reverse.lookup y:=by
 have la:∀(y:Str) (l1 l2:List (Str×Value)),(l1++l2).lookup y=(l1.lookup y).or (l2.lookup y):=fun y l1=>by
  induction l1 with
  |nil=>exact fun l2=>(Option.none_or).symm
  |cons q l1 ih1 =>
   intro l2;rw[Yv,YE,YE];cases y==q.1 with
   |true=>rfl
   |false=>exact ih1 l2
 have gen:∀(l:List (Str×Value)) (m:Str->Option Value),(∀p∈l,k p.1=some .local)->bindL k l m=fun y=>(l.reverse.lookup y).or (m y):=fun l=>by
  induction l with
  |nil=>exact fun m O=>rfl
  |cons p l ih =>
   intro m hm;rw[show bindL k (p::l) m=bindL k l (fun y=>if y=p.1 then some p.2 else m y) from congrArg (bindL k l) (if_pos (hm p (Yi ..))),ih _ fun q hq=>hm q (Yk _ hq)];funext y
   rw[YO,la,Option.or_assoc];congr 1
   rw[YE];by_cases e:y=p.1
   ·rw[if_pos e,beq_iff_eq.mpr e];rfl
   ·rw[if_neg e,beq_eq_false_iff_ne.mpr e];rfl
 rw[gen bs _ h];funext y
 exact Option.or_none
theorem tO{f:YV}{o:Obj}{fd:m3}{led:aa}{K:AV->aa->Prop}{c:YV}{oc:Obj}{vs:Array Value}{tq:Tok}(xs:List Str)
  (hG:A7 B) (ho:B f=some o) (hd:o.data=.func fd) (J0:fd.scope.isCoroutine=false) (S8:fd.scope.isGenerator=false) (hk:fd.scope.kind=.function) (F8:fd.body=.stmts body)
  (ù:∀n,(cellsFrom n fd.scope.names []).map (·.1)=xs) (Ó:xs.Nodup) (hclo:fd.closure=[])
  (hc:fd.code=.ref c) (R7:B c=some oc) (J4:oc.data=.fields vs) (hq:vs[1]?=some (.str fd.qualname tq)) (B9:A.depth<b0)
  (hb:Binds vv w A.in1 B fd args kw binds) (E3:∀x∈binds.map (·.1),fd.scope.names.lookup x=some .local)
  (h:∀L,W_ xs fun cs=>T vv w (A.deeper (dS fd.scope L fd.globals cs fd.qualname f fd.code fd.builtins)) B (dS fd.scope L fd.globals cs fd.qualname f fd.code fd.builtins) y0
   (execs body (dS fd.scope L fd.globals cs fd.qualname f fd.code fd.builtins)) ⟨binds.reverse,pe cs++led⟩ (kH K)) :
  TC vv w A B (.ref f) args kw led K:=fun s Z fx xs ks S hf hx P9 R hR=>by
 (have e_:=hf.inv;subst e_)
 refine codeAny_call_function B9 (S.frozen _ _ (S.base _ _ ho)) hd J0 S8 F8 ⟨c,oc,vs,tq,hc,S.frozen _ _ (S.base _ _ R7),J4,hq⟩ ?_;refine hb s Z led xs ks S hx P9 _ _ fun bs s₁ Z1 S1 U9 X1=>?_;have hR:=hR.after X1;clear X1 S;revert s₁ Z1;intro s Z S U9 hR;have δ:∀x∈bs,fd.scope.names.lookup x.1=some .local:=fun x hx=>E3 x.1 (by rw[← U9.keys];exact YF hx);rw[hclo];refine wpAny_newFunctionEnv_cells hk (fun y hy => .inl (δ y hy)) fun env' he s' Q1=>?_;have ù:=ù (s.heap.objs.size+1);generalize cellsFrom (s.heap.objs.size+1) fd.scope.names []=cs at he ù;have hin':=Q1;rw[he] at Q1;obtain⟨⟨⟨h1,tk1,rfl⟩,H4,keep,m_⟩,C4,v_,W9⟩:=Q1;dsimp only[newEnv] at H4 keep C4 v_ W9 m_;have H4:h1.Ns s.heap.objs.size (fun y=>bs.reverse.lookup y):=UE (k:=Env.kindOf (newEnv fd.scope s.heap.objs.size fd.globals cs fd.qualname (some f) fd.code none fd.builtins)) bs (fun p hp=>δ p hp)▸H4;have H8:∀p∈cs,s.heap.get? p.2=none:=fun p hp=>Heap.get?_none_of_le (a6 (W9 p.1 p.2 hp));have hL:s.heap.objs.size∉keys led:=S.lfresh;subst he;refine⟨hG.lim _ fun a o e=>keep a o (S.frozen a o (S.base a o e)),?_⟩;show codeAny _ A (.func body (dS fd.scope s.heap.objs.size fd.globals cs fd.qualname f fd.code fd.builtins)) R _;refine codeAny_func ?_;refine(h s.heap.objs.size).out ù _ Z (w5.enter (t8.cells (S.keep (s₁:={ s with heap:=h1,toks:=tk1}) keep (fun O O e=>e) S.bare) cs v_ fun p hp=>⟨S.lfree (H8 p hp),S.zfree (H8 p hp),_,C4 p.1 p.2 (Pz (ù▸Ó) hp)⟩) S.zfresh (fun q=>(yJ q).elim (fun⟨x,q⟩=>d7 _ (W9 x _ q)) hL) H4 U9 E3 hk) _ _
  (El hR keep (fun a q=>q.elim (fun e => .inr (e▸gz s)) fun q=>(yJ q).elim (fun⟨x,q⟩ => .inr (H8 _ q)) .inl) (Uk cs led) (fun O O h=>h) fun O h=>⟨h,h,h⟩)
theorem aP{c:YV}(hk:(s9.kindOf x,s9.cells.lookup x,x==("__debug__" : Str))=(some .cell,some c,false))(hm:(c,aU v)∈st.led)(h:K v st) :
  t6 (T vv w A B s9 Val (ZI (.Name x pos) s9) st K):=.mk (VC (congrArg (·.1) hk) (congrArg (·.2.1) hk) hm (congrArg (·.2.2) hk) h)
structure R2 (e:y1):Prop where
 c:∀Z s a,Holds Z s a e->∃u,s.heap.IsCell a u
 g:e.gnum=none
theorem gm:R2 fo:=⟨fun Z s a h=>Um Z s a h,rfl⟩
theorem gj:R2 (aU v):=⟨fun Z s a ⟨o,ho,x,hd,_⟩=>⟨some x,o,ho,hd⟩,rfl⟩
theorem ea{c:YV}{e0:y1}{led led':aa}{K:Unit->St->Prop}(hk:(s9.kindOf x,s9.cells.lookup x)=(some .cell,some c))(h0:R2 e0)
  (U:Upd c e0 (aU v) led led') (h:K () ⟨loc,led'⟩):F1 vv w A B s9 aV (ZQ (.Name x pos) s9) v ⟨loc,led⟩ K :=
 bX (Hh (congrArg (·.1) hk) (congrArg (·.2) hk) (fun Z s=>h0.c Z s c) h0.g U h)
theorem Vn{c:YV}{O0:Pos}{op:Operator}{led led':aa}{v₀ r:AV}{K:u7->St->Prop}(hk:(s9.kindOf x,s9.cells.lookup x)=(some .cell,some c))(U:Upd c (aU v₀) (aU r) led led')
  (h:T vv w A B s9 Val (ZI value s9) ⟨loc,led⟩ fun v y6=>F2 vv w A B s9 Val (inplaceOp op) v₀ v y6 fun r' A5=>r'=r/\A5=⟨loc,led⟩) (k:K .next ⟨loc,led'⟩) :
  T vv w A B s9 y0 (exec (.AugAssign (.Name x O0) op value pos) s9) ⟨loc,led⟩ K:=fun s Z S Q E hQ=>by
 obtain⟨o,ho,y,hy,V⟩:=S.own _ U.mem;refine wpAny_AugAssign_Name (wpAny_loadName_cell S.fn (congrArg (·.1) hk) (congrArg (·.2) hk) ⟨o,ho,hy⟩ (h s Z S _ _ fun O x1 s₁ Z1 O k₁ S1 V1 X1=>k₁ s₁ Z1 y x1 (V.mono X1.le) V1 S1 _ _ fun r' x2 s2 Z2 A5 k2 S2 V2 X2=>?_));obtain⟨rfl,rfl⟩:=k2;exact Hh (congrArg (·.1) hk) (congrArg (·.2) hk) (fun Z s=>gj.c Z s c) rfl U (K:=fun O st=>st=⟨loc,led'⟩) rfl s2 Z2 x2 V2 S2 _ _ fun O O s' Z' t5 e S' O X=>hQ _ _ s' Z' t5 (e▸k) S' .next ((X1.trans X2).trans X)
end
section
variable{N:aa}
noncomputable def fF:Option Int->AV
 |none => .none
 |some i => .int i
theorem vI{l:Option Int}{x:Value}(V:Val Z (fF l) x):IsPart x l:=by
 cases l with
 |none=>exact(show x=.none from V.inv)▸.none
 |some i=>exact aq V.inv fun t e=>e▸.int i t
def fV(xs ys:List AV)(i j k:Option Int):Prop:=∀(Z:u6) (vs:List Value),Vals Z xs vs->∃us,slicePick vs.toArray i j k=List.toArray us/\Vals Z ys us
inductive SlcK (R:AV->St->Prop) (v l u:AV) (st:St):Prop
 |mk (xs ys:List AV) (i j:Option Int) (hl:w9 st.led v xs) (e:l=fF i) (e2:u=fF j) (hs:xs.length<=Zc) (hp:fV xs ys i j none) (k:R (.lst ys) st):SlcK R v l u st
inductive SlkK (R:AV->St->Prop) (c:Int) (v l:AV) (st:St):Prop
 |mk (xs ys:List AV) (i:Option Int) (hl:w9 st.led v xs) (e:l=fF i) (hs:xs.length<=Zc) (hp:fV xs ys i none (some c)) (k:R (.lst ys) st):SlkK R c v l st
theorem iz(n:Nat):fV xs (xs.drop n) (some n) none none:=fun Z vs h=>⟨_,slicePick_from' ..,h.drop n⟩
theorem jy(n:Nat):fV xs (xs.take n) none (some n) none:=fun Z vs h=>⟨_,slicePick_upto' ..,h.take n⟩
theorem CB(i j:Nat)(G8:i<=j):fV xs ((xs.drop i).take (j-i)) (some i) (some j) none:=fun Z vs h=>⟨_,Jo _ i j G8,(h.drop i).take _⟩
noncomputable def eE:List α->List α
 | []=>[]
 | [x]=>[x]
 |x::_::r=>x::eE r
theorem yC:∀ {xs:List AV} {vs:List Value},Vals Z xs vs->Vals Z (eE xs) (eE vs)
 | [],_,h=>Vals.un0 (P:=fun vs=>Vals Z [] (eE vs)) .nil _ h
 | [_],_,h=>Vals.un (P:=fun vs=>Vals Z _ (eE vs)) (fun x hx=>Vals.un0 (.cons hx .nil)) _ h
 |_::_::r,_,h=>Vals.un (P:=fun vs=>Vals Z _ (eE vs)) (fun x hx=>Vals.un fun y hy ys Υ => .cons hx (yC Υ)) _ h
theorem Fp:∀(vs:List α),(List.range ((vs.length+1) / 2)).filterMap (fun k=>vs[2 * k]?)=eE vs
 | []=>by
  rw[YI];rfl
 | [x]=>by
  rw[d9];rfl
 |x::y::r=>by
  have ih:=Fp r;rw[show ((x::y::r).length+1) / 2=(r.length+1) / 2+1 from Nat.add_div_right (z:=2) (r.length+1) (by decide),List.range_succ_eq_map,ZK];show x::_=x::eE r;rw[← ih,m0];rfl
theorem KN(a n:Nat):sliceRange (a:Int) (n:Int) 2=(List.range ((n-a+1) / 2)).map fun k=>a+2 * k:=by
 unfold sliceRange;rw[if_pos (by decide)];have e:(if (a:Int)<(n:Int) then ((n:Int)-a+2-1) / 2 else 0).toNat=(n-a+1) / 2:=by
  split
  ·rename_i h
   obtain⟨d,rfl⟩:=Nat.le.dest (a6 (Int.ofNat_lt.mp h));rw[o8,Int.natCast_add,Int.add_comm (a:Int),Int.add_sub_cancel,Int.add_sub_assoc];rfl
  ·rename_i h
   rw[Nat.sub_eq_zero_of_le (Nat.not_lt.mp fun z=>h (Int.ofNat_lt.mpr z))];rfl
 dsimp only;rw[e];refine d6 fun k O=>?_;exact Zb (a+2 * k)
theorem CC(vs:List Value)(a:Nat)(lo:Option Int)(h:(sliceBounds lo none (some 2) vs.length).1=a):slicePick vs.toArray lo none (some 2)=(eE (vs.drop a)).toArray:=by
 unfold slicePick;rw[List.size_toArray,h,show (sliceBounds lo none (some 2) vs.length).2.1=(vs.length:Int) from rfl,show (sliceBounds lo none (some 2) vs.length).2.2=2 from rfl,KN,← Fp,p9,m0];refine congrArg (fun f=>((List.range ((vs.length-a+1) / 2)).filterMap f).toArray) (funext fun k=>?_);rw[List.getElem?_drop];exact List.getElem?_toArray ..
theorem Nm:fV xs (eE xs) none none (some 2):=fun Z vs h=>⟨_,CC vs 0 none rfl,yC h⟩
theorem Nj(h1:1<=xs.length):fV xs (eE (xs.drop 1)) (some 1) none (some 2):=fun Z vs h=>⟨_,CC vs 1 (some 1) (by
 rw[← h.length] at h1;show max 0 (min 1 (vs.length:Int))=_;rw[Int.min_eq_left (show (1:Int)<=vs.length from Int.ofNat_le.mpr h1)];rfl),yC (h.drop 1)⟩
theorem Ni:fV [] [] (some 1) none (some 2):=fun Z vs h=>Vals.un0 (P:=fun vs=>∃us,slicePick vs.toArray (some 1) none (some 2)=List.toArray us/\Vals Z [] us) ⟨[],rfl,.nil⟩ vs h
theorem cO(h:K .none st):T vv w A B s9 Val (evalPart none s9) st K:=fun s Z S Q E hQ=>by
 rw[evalPart_none];exact Yj (hQ _ _ s Z st h S .none .refl)
theorem bd{e:Expr}(h:T vv w A B s9 Val (ZI e s9) st K):T vv w A B s9 Val (evalPart (some e) s9) st K:=fun s Z S Q E hQ=>by
 rw[evalPart_some];exact h s Z S Q E hQ
theorem uK{lo hi step:Option Expr}{p:Pos}{T id:String}(hl:ZJ (.type T) "__getitem__" = b9 (some (.builtin id)))
  (h:YJ (YG vv w) A (ZI value s9) (fun o s₁=>YJ (YG vv w) A (ZI (.Slice lo hi step p) s9) (fun i s2=>s2.TypeIs o T/\YJ (YG vv w) A (getItem o i) Q E s2) E s₁) E s) :
  YJ (YG vv w) A (ZI (.Subscript value (.Slice lo hi step p) pos) s9) Q E s:=by
 rw[eval_Subscript];refine Yh (Zk h (fun o s₁ h1=>Yh (Yw (Zk h1 (fun i s2 h2=>Yh (YU ?_)) fun O O x=>x))) fun O O x=>x);have fin:∀l,YJ (YG vv w) A (operate l (getItem o i)) (fun r w7=>YJ (YG vv w) A (letTemporaryGo value o r>>=fun O=>b9 r) Q E w7) E s2:=fun l =>
  wpAny_operating (Zk h2.2 (fun r w7 M1=>Yh (wpAny_letTemporaryGo (Yj M1))) fun O O x=>x)
 refine Yh ?_;rw[getitemInPython_of_ne h2.1.not_modules];refine Yh (m4 h2.1 hl ?_);cases step with
 |none=>first |exact Yj (Yh (fin _)) |exact Yh (Yj (Yh (fin _))) |exact Yh (fin _)
 |some _=>first |exact Yj (Yh (fin _)) |exact Yh (Yj (Yh (fin _))) |exact Yh (fin _)
theorem kb{lo hi:Option Expr}{p:Pos}
  (h:T vv w A B s9 Val (ZI value s9) st fun v y6=>T vv w A B s9 Val (evalPart lo s9) y6 fun l A5=>T vv w A B s9 Val (evalPart hi s9) A5 fun u D1 =>
   SlcK R v l u D1) :
  T vv w A B s9 Val (ZI (.Subscript value (.Slice lo hi none p) pos) s9) st R:=fun s Z S Q E hQ=>by
 refine uK (T := "list") list_getitem_lookup (h s Z S _ _ fun v x s₁ Z1 y6 k₁ S1 V1 X1=>wpAny_Slice (k₁ s₁ Z1 S1 _ _ fun l y s2 Z2 A5 k2 S2 V2 X2=>k2 s2 Z2 S2 _ _ fun u z w7 Z3 D1 k3 S3 V3 X3=>?_));obtain⟨xs,ys,i,j,hl,rfl,rfl,hsz,hp,k⟩:=k3;refine bv (hl.get (V1.mono (X2.le.trans X3.le)) S3.tot8) fun a items n O4 g vs=>?_;subst O4;rw[evalPart_none];have hL:w7.heap.IsList a items:=⟨_,g,rfl,n,rfl⟩;refine Yj ⟨(hL.push _).typeIs,wpAny_getItem_list_slice (hL.push _) (Heap.IsSliceOf.new ..) (vI V2) (vI V3) .none nofun ?_ (vs.size▸hsz)⟩;refine ae (hp _ _ vs) fun us e V=>?_;rw[show slicePick items i j none=us.toArray from e];have P1:=S3.tot8.push0 (o:={ cls:=.type "slice",data:=.fields #[y,z,.none]}) w7.toks;have P2:=P1.1.pushZ (o:={ cls:=.type "list",data:=.seq us.toArray}) rfl w7.toks;have X:=P1.2.trans P2.2;exact hQ _ _ _ _ _ k (S3.after P2.1 X) (.lst (u6.add_at ..) (V.mono X.le)) (((X1.trans X2).trans X3).trans X.toF)
theorem fT{lo hi:Option Expr}{p:Pos}{v0:AV}{i j:Option Int}(hv:T vv w A B s9 Val (ZI value s9) st fun v s=>v=v0/\s=st)(h1:T vv w A B s9 Val (evalPart lo s9) st fun l s=>l=fF i/\s=st)
  (h2:T vv w A B s9 Val (evalPart hi s9) st fun u s=>u=fF j/\s=st) (hl:w9 st.led v0 xs) (hs:xs.length<=Zc) (hp:fV xs ys i j none) (k:R (.lst ys) st):T vv w A B s9 Val (ZI (.Subscript value (.Slice lo hi none p) pos) s9) st R :=
 kb (hv.mono fun v s e=>e.1.symm▸e.2.symm▸h1.mono fun l s e=>e.1.symm▸e.2.symm▸h2.mono fun u s e=>e.1.symm▸e.2.symm▸⟨xs,ys,i,j,hl,rfl,rfl,hs,hp,k⟩)
theorem Gz{lo:Option Expr}{c:Int}{n0:Nat}{q p:Pos}(hc:c≠0)
  (h:T vv w A B s9 Val (ZI value s9) st fun v y6=>T vv w A B s9 Val (evalPart lo s9) y6 fun l A5 =>
   SlkK R c v l A5) :
  T vv w A B s9 Val (ZI (.Subscript value (.Slice lo none (some (.Constant (.int c) n0 q)) p) pos) s9) st R:=fun s Z S Q E hQ=>by
 refine uK (T := "list") list_getitem_lookup (h s Z S _ _ fun v x s₁ Z1 y6 k₁ S1 V1 X1=>wpAny_Slice (k₁ s₁ Z1 S1 _ _ fun l y s2 Z2 A5 k2 S2 V2 X2=>?_));obtain⟨xs,ys,i,hl,rfl,hsz,hp,k⟩:=k2;refine bv (hl.get (V1.mono X2.le) S2.tot8) fun a items n O4 g vs=>?_;subst O4;rw[evalPart_none];refine Yj ?_;rw[evalPart_some];refine wpAny_Constant_int ?_;have hL:s2.heap.IsList a items:=⟨_,g,rfl,n,rfl⟩;refine⟨(hL.push _).typeIs,wpAny_getItem_list_slice (hL.push _) (Heap.IsSliceOf.new ..) (vI V2) .none (.int c s2.toks) (fun e=>hc (d8 e)) ?_ (vs.size▸hsz)⟩;refine ae (hp _ _ vs) fun us e V=>?_;rw[show slicePick items i none (some c)=us.toArray from e];have P1:=S2.tot8.push0 (o:={ cls:=.type "slice",data:=.fields #[y,.none,.int c s2.toks]}) (s2.toks+1);have P2:=P1.1.pushZ (o:={ cls:=.type "list",data:=.seq us.toArray}) rfl (s2.toks+1);have X:=P1.2.trans P2.2;exact hQ _ _ _ _ _ k (S2.after P2.1 X) (.lst (u6.add_at ..) (V.mono X.le)) ((X1.trans X2).trans X.toF)
end
inductive StrK (R:AV->St->Prop) (v l u:AV) (st:St):Prop
 |mk (x:Str) (i j:Option Int) (e:v=.str x) (e1:l=fF i) (e2:u=fF j) (hs:x.length<=Zc) (k:R (.str (Txt.slice x i j)) st):StrK R v l u st
section
variable{N:aa}
theorem iR(hl:w9 st.led v xs)(hr:w9 st.led u ys)(hsz:xs.length+ys.length<=Zc)(h:K (.lst (xs++ys)) st):F2 vv w A B s9 Val (binaryOp .Add) v u st K:=F2.of fun s Z S Q E hQ x V1 y V2=>by
 refine bv (hl.get V1 S.tot8) fun a items n O4 g vs=>?_;subst O4;refine bv (hr.get V2 S.tot8) fun b items2 n2 O4 g2 us=>?_;subst O4;refine concat_meets ⟨_,g,rfl⟩ ⟨_,g2,rfl⟩ noFill_list_add seq_list_add F.slot_list_add F.entry_list_add (F.args_list_add_2 _ _) (PyProof.Rows.list_addW a b items items2 n n2 none none #[] #[] (vs.size▸us.size▸hsz)) ⟨g,g2,?_⟩;have P:=S.tot8.pushZ (o:={ cls:=.type "list",data:=.seq (items++items2)}) rfl s.toks;refine hQ _ _ _ _ _ h (S.after P.1 P.2) ?_ P.2.toF;exact .lst (items:=items.toList++items2.toList) (by rw[← List.append_toArray];exact u6.add_at ..) ((vs.append us).mono P.2.le)
theorem Hg(hx:xs≠[])(hy:ys≠[])(hsz:xs.length+ys.length<=Zc)(h:K (.tup (xs++ys)) st):F2 vv w A B s9 Val (binaryOp .Add) (.tup xs) (.tup ys) st K:=F2.of fun s Z S Q E hQ=>Val.eTup fun a vs n e hv=>Val.eTup fun b us m e2 hu=>by
 have l1:vs≠[]:=fun q=>hx (List.eq_nil_of_length_eq_zero (hv.length.symm.trans (congrArg k9 q)));have l2:us≠[]:=fun q=>hy (List.eq_nil_of_length_eq_zero (hu.length.symm.trans (congrArg k9 q)));refine concat_meets ⟨_,S.frozen _ _ e,rfl⟩ ⟨_,S.frozen _ _ e2,rfl⟩ noFill_tuple_add seq_tuple_add F.slot_tuple_add F.entry_tuple_add (F.args_tuple_add_2 _ _)
  (PyProof.Rows.tuple_addW2 a b vs.toArray us.toArray n m none none #[] #[] (by simpa using l1) (by simpa using l2) (by rw[List.size_toArray,List.size_toArray,hv.length,hu.length];exact hsz)) ⟨S.frozen _ _ e,S.frozen _ _ e2,?_⟩
 have P:=S.tot8.pushZ (o:={ cls:=.type "tuple",data:=.seq (vs.toArray++us.toArray)}) rfl s.toks;refine hQ _ _ _ _ _ h (S.after P.1 P.2) ?_ P.2.toF;exact .tup (items:=vs++us) (by rw[← List.append_toArray];exact u6.add_at ..) ((hv.append hu).mono P.2.le)
theorem WR{n:Int}(h0:0<=n)(h1:n<10^10)(h:K (.int n) st):FC vv w A B s9 (.typ "int") [.str (Yn (l8 n))] [] st K:=FC.t fun s Z S Q E hQ=>Vals.un <| Val.eStr fun O=>Vals.un0 <| KIN.call_num h0 h1 (hQ _ _ _ Z st h (S.toks _) (.int _ _) (.toks _))
theorem Ie(l:List (Str×Tok)):Vals Z ((l.map (·.1)).map .str) (strValues l):=by
 induction l with
 |nil=>exact .nil
 |cons p l ih=>exact .cons (.str _ _) ih
theorem WE(hy:(y.length==0)=false)(hx:x.length<=Zc)(hn:(Builtin.Str.partsBetween x (Builtin.Str.occurrences x y 0 x.length (x.length+1)) y.length).length<=Zc)(h:K (.lst ((Txt.split x y).map .str)) st) :
  FC vv w A B s9 (.blt "str.split") [.str x,.str y] [] st K:=FC.b fun s Z S Q E hQ=>Vals.un2 <| Val.eStr fun t=>Val.eStr fun u=>by
 have fin:∀(l:List (Str×Tok)) (tk:Nat),l.map (·.1)=Txt.split x y->Q (.ref s.heap.objs.size) {s with toks:=tk,heap:=s.heap.push {cls:=.type "list",data:=.seq (strValues l).toArray} }:=fun l tk e=>by
  have P:=S.tot8.pushZ (o:={ cls:=.type "list",data:=.seq (strValues l).toArray}) rfl tk;exact hQ _ _ _ _ _ h (S.after P.1 P.2) (.lst (u6.add_at ..) (e▸(Ie l).mono P.2.le)) P.2.toF
 cases h1:(decide (x.length<y.length)||decide (Builtin.Str.strKind x<Builtin.Str.strKind y))
 ·cases hf:(Builtin.Str.occurrences x y 0 x.length (x.length+1)).isEmpty
  ·refine call_meets F.slot_str_split (typeIs_str _ _ _) F.entry_str_split (F.args_str_split_2 _ _) (meets_str_split_sep x y t u h1 hy hf hx hn) ?_;show wants Q E _ {s with toks:=_,heap:=s.heap.push {cls:=.type "list",data:=.seq (strsFrom s.toks (Builtin.Str.partsBetween x (Builtin.Str.occurrences x y 0 x.length (x.length+1)) y.length)).toArray} };rw[strsFrom_eq];exact fin (numbered s.toks _) _ ((numbered_texts _ _).trans ((if_neg (ne_true_of_eq_false h1)).trans (if_neg (ne_true_of_eq_false hf))).symm)
  ·exact call_meets F.slot_str_split (typeIs_str _ _ _) F.entry_str_split (F.args_str_split_2 _ _) (meets_str_split_not_found x y t u h1 hy hf) (fin [(x,t)] _ ((if_neg (ne_true_of_eq_false h1)).trans (if_pos hf)).symm)
 ·exact call_meets F.slot_str_split (typeIs_str _ _ _) F.entry_str_split (F.args_str_split_2 _ _) (meets_str_split_cannot_occur x y t u h1) (fin [(x,t)] _ (if_pos h1).symm)
theorem CF{i:Option Int}{y:Value}(V:Val Z (fF i) y):∃l:Option (Int×Tok),y=partValue l/\l.map (·.1)=i:=by
 cases i with
 |none=>exact⟨none,V.inv,rfl⟩
 |some i=>exact aq V.inv fun t e=>⟨some (i,t),e,rfl⟩
theorem Gy{lo hi:Option Expr}{p:Pos}
  (h:T vv w A B s9 Val (ZI value s9) st fun v y6=>T vv w A B s9 Val (evalPart lo s9) y6 fun l A5=>T vv w A B s9 Val (evalPart hi s9) A5 fun u D1 =>
   StrK R v l u D1) :
  T vv w A B s9 Val (ZI (.Subscript value (.Slice lo hi none p) pos) s9) st R:=fun s Z S Q E hQ=>by
 refine uK (T := "str") F.slot_str_getitem.lookup (h s Z S _ _ fun v x s₁ Z1 y6 k₁ S1 V1 X1=>wpAny_Slice (k₁ s₁ Z1 S1 _ _ fun l y s2 Z2 A5 k2 S2 V2 X2=>k2 s2 Z2 S2 _ _ fun u z w7 Z3 D1 k3 S3 V3 X3=>?_));obtain⟨q,i,j,rfl,rfl,rfl,hsz,k⟩:=k3;refine aq V1.inv fun t e=>?_;subst e;refine ae (CF V2) fun l e e1=>?_;subst e;subst e1;refine ae (CF V3) fun u e e1=>?_;subst e;subst e1;rw[evalPart_none];refine Yj ⟨typeIs_str _ q t,wpAny_getItem_str_slice (l:=l) (u:=u) (st:=none) ⟨_,Ys _ rfl,rfl,rfl⟩ rfl ?_⟩;have P1:=S3.tot8.push0 (o:={ cls:=.type "slice",data:=.fields #[partValue l,partValue u,.none]}) w7.toks;refine PySem.post_val_or_str ⟨Zg (Txt.slice_le q _ _) hsz,fun t' tk=>?_⟩;exact hQ _ _ _ _ _ k ((S3.after P1.1 P1.2).toks tk) (.str _ _) ((((X1.trans X2).trans X3).trans P1.2.toF).trans (.toks tk))
theorem gH{lo hi:Option Expr}{p:Pos}{i j:Option Int}(hv:T vv w A B s9 Val (ZI value s9) st fun v s=>v=.str x/\s=st)(h1:T vv w A B s9 Val (evalPart lo s9) st fun l s=>l=fF i/\s=st)
  (h2:T vv w A B s9 Val (evalPart hi s9) st fun u s=>u=fF j/\s=st) (hs:x.length<=Zc) (k:R (.str (Txt.slice x i j)) st):T vv w A B s9 Val (ZI (.Subscript value (.Slice lo hi none p) pos) s9) st R :=
 Gy (hv.mono fun v s e=>e.1.symm▸e.2.symm▸h1.mono fun l s e=>e.1.symm▸e.2.symm▸h2.mono fun u s e=>e.1.symm▸e.2.symm▸⟨x,i,j,rfl,rfl,rfl,hs,k⟩)
theorem WD{ns:List Int}(hh:A.handled=none)(hl:w9 st.led v (ns.map .int))(h:K (.int ns.sum) st):FC vv w A B s9 (.blt "sum") [v] [] st K:=FC.b fun s Z S Q E hQ=>Vals.un <| fun x V=>Vals.un0 <| by
 refine bv (hl.get V S.tot8) fun a items n O4 g vs=>?_;subst O4;have hi:=zR ns _ vs;obtain⟨xs,hx⟩:=hi.allInts.items;refine sum_intListG (xs:=xs) hh ⟨_,g,rfl,n,by rw[← hx]⟩ fun h' tk t' hk=>?_;have e2:preSum (numAt xs) xs.size=ns.sum:=by
  rw[preSum_eq,List.take_of_length_le (by simp),← nums_intItems,← hx];exact congrArg List.sum (show numsOf items.toList.toArray.toList=ns from hi.numsOf)
 rw[e2];have L:=S.tot8.keep (s₁:={ s with heap:=h',toks:=tk}) hk (fun O O e=>e) S.bare;have X:y8 (aj st.led) s Z {s with heap:=h',toks:=tk} Z (aj st.led):=⟨.refl _,fun a o e O=>hk a o e,fun O h => .inl h,fun O O e => .inl e,rfl,fun O O e O=>e,fun O h => .inl h⟩;exact hQ _ _ _ _ _ h (S.after L X) (.int _ _) X.toF
theorem Xl{k:Int}{ns:List Int}(hl:w9 st.led v (ns.map .int))(h:K (.bool (!ns.any (· == k))) st):F2 vv w A B s9 Val (g5 .NotIn) (.int k) v st K:=F2.of fun s Z S Q E hQ=>Val.eInt fun t x V=>by
 refine bv (hl.get V S.tot8) fun a items n O4 g vs=>?_;subst O4;exact PyProof.Rows.notin_list_ints (vs:=items.toList) ⟨_,g,rfl,n,rfl⟩ (zR ns _ vs) (hQ _ _ s Z st h S (.bool _) .refl)
theorem Hc{a b:Nat}(hb:b≠0)(h:K (.int (a % b:Nat)) st):F2 vv w A B s9 Val (binaryOp .Mod) (.int a) (.int b) st K :=
 il (fun e=>hb (Int.ofNat.inj e)) (by rw[Int.fmod_eq_emod_of_nonneg _ (p7 b),← Int.natCast_emod];exact h)
end
section
open PySem PySem.W PySem.SeqAt
noncomputable abbrev ag:=Str×List Int
noncomputable abbrev jd(q:Str ⊕ Int):AV:=q.elim .str .int
noncomputable def gv(h:ag):List (Str ⊕ Int):=.inl h.1::h.2.map .inr
noncomputable def az(h:ag):AV:=.tup (.str h.1::h.2.map .int)
theorem Rg(h:ag):az h=.tup ((gv h).map jd):=by
 unfold gv az;rw[Yu,ZR];rfl
theorem Re{x y:ag}(h:gv x=gv y):x=y:=by
 obtain⟨a,as⟩:=x;obtain⟨b,bs⟩:=y;have h1:a=b:=Sum.inl.inj (c9 h).1;have h2:=(c9 h).2;rw[h1,show as=bs from(List.map_inj_right fun O O=>Sum.inr.inj).mp h2]
theorem Rf{x y:ag}:decide (gv x=gv y)=decide (x=y):=decide_eq_decide.mpr ⟨Re,fun e=>e▸rfl⟩
theorem Th:iS jd:=fun Z x y u v h1 h2 A s=>by
 cases x with
 |inl x=>cases y with
  |inl y=>exact(decide_eq_decide.mpr ⟨fun e=>congrArg Sum.inl e,fun e=>Sum.inl.inj e⟩:decide (x=y)=decide ((Sum.inl x:Str ⊕ Int)=.inl y))▸fO Z x y u v h1 h2 A s
  |inr y=>exact aq h1.inv fun t e=>aq h2.inv fun t' e'=>e▸e'▸EqAt.str_int x t y t'
 |inr x=>cases y with
  |inl y=>exact aq h1.inv fun t e=>aq h2.inv fun t' e'=>e▸e'▸EqAt.int_str x t y t'
  |inr y=>exact(decide_eq_decide.mpr ⟨fun e=>congrArg Sum.inr e,fun e=>Sum.inr.inj e⟩:decide (x=y)=decide ((Sum.inr x:Str ⊕ Int)=.inr y))▸Ti Z x y u v h1 h2 A s
theorem JD{x y:Str ⊕ Int}{u:Value}(h1:Val Z (jd x) u)(h2:Val Z (jd y) u):x=y:=by
 cases x with
 |inl x =>
  refine aq h1.inv fun t e=>?_;cases y with
  |inl y=>exact aq h2.inv fun t' e'=>congrArg Sum.inl (Value.str.inj (e.symm.trans e')).1
  |inr y=>exact aq h2.inv fun t' e'=>nomatch e.symm.trans e'
 |inr x =>
  refine aq h1.inv fun t e=>?_;cases y with
  |inl y=>exact aq h2.inv fun t' e'=>nomatch e.symm.trans e'
  |inr y=>exact aq h2.inv fun t' e'=>congrArg Sum.inr (Value.int.inj (e.symm.trans e')).1
theorem Jz{xs:List (Str ⊕ Int)}:∀ {ys:List (Str ⊕ Int)} {vs:List Value},Vals Z (xs.map jd) vs->Vals Z (ys.map jd) vs->xs=ys:=by
 induction xs with
 |nil =>
  intro ys vs h1 h2;cases ys with
  |nil=>rfl
  |cons y ys=>exact nomatch h2.length.symm.trans h1.length
 |cons x xs ih =>
  intro ys vs h1 h2;cases ys with
  |nil=>exact nomatch h2.length.symm.trans h1.length
  |cons y ys=>exact Vals.un (P:=fun vs=>Vals Z ((y::ys).map jd) vs->x::xs=y::ys) (fun u hu us Ö h2=>Vals.un (P:=fun vs=>vs=u::us->x::xs=y::ys) (fun u' hu' us' hus' e=>by
    cases e
    rw[JD hu hu',ih Ö hus']) _ h2 rfl) _ h1 h2
theorem OG[DecidableEq β](as bs:List β):((List.range (min as.length bs.length)).all (fun j=>decide (as[j]?=bs[j]?))&&(as.length==bs.length))=decide (as=bs):=by
 by_cases h:as.length=bs.length
 ·rw[← h,Nat.min_self,pg as bs h,beq_self_eq_true,Bool.and_true]
 ·rw[beq_eq_false_iff_ne.mpr h,Bool.and_false,decide_eq_false fun e=>h (congrArg k9 e)]
theorem yk[DecidableEq β]{f:β->AV}(hf:∀(x y:β) (u v:Value),Val Z (f x) u->Val Z (f y) v->EqAt A s u v (decide (x=y))){as bs:List β}{items items2:Array Value}(h1:Vals Z (as.map f) items.toList)(h2:Vals Z (bs.map f) items2.toList) :
  ∀j (q1:j<items.size) (q2:j<items2.size),EqAt A s items[j] items2[j] (decide (as[j]?=bs[j]?)):=fun j q1 q2=>by
 have ja:j<as.length:=(h1.size.trans (Yl ..))▸q1;have jb:j<bs.length:=(h2.size.trans (Yl ..))▸q2;refine ae (h1.get (i:=j) (x:=f as[j]) (by rw[Ze,YL ja];rfl)) fun u e1 V1=>?_;refine ae (h2.get (i:=j) (x:=f bs[j]) (by rw[Ze,YL jb];rfl)) fun v e2 V2=>?_;rw[e8,ZU q1] at e1;rw[e8,ZU q2] at e2;rw[d8 e1,d8 e2,YL ja,YL jb,show decide (some as[j]=some bs[j])=decide (as[j]=bs[j]) from decide_eq_decide.mpr ⟨d8,congrArg some⟩];exact hf _ _ u v V1 V2
def pC[DecidableEq β](f:β->AV):Prop:=∀ {Z:u6} {A:Yz} {s:Yo},A.units<cLine->(∀b o,Z b=some o->s.heap.get? b=some o)->∀(x y:β) (u v:Value),Val Z (f x) u->Val Z (f y) v->EqAt A s u v (decide (x=y))
theorem Fr:pC az:=fun{Z A s} hu hZ x y u v h1 h2=>by
 rw[Rg] at h1 h2;rw[← Rf];refine bv (iF h1) fun a items n qv e vs=>?_;subst qv;refine bv (iF h2) fun b items2 n2 qv e2 Ρ=>?_;subst qv;by_cases W9:a=b
 ·subst W9;cases d8 (e.symm.trans e2)
  rw[Jz vs Ρ,decide_eq_true rfl];exact EqAt.same _
 ·have l1:items.toArray.size=(gv x).length:=vs.length.trans (Yl ..);have l2:items2.toArray.size=(gv y).length:=Ρ.length.trans (Yl ..);refine EqAt.of_refs W9 ?_;have k:=RcAt.tuples (e:=fun j=>decide ((gv x)[j]?=(gv y)[j]?)) ⟨_,hZ _ _ e,rfl,n,rfl⟩ ⟨_,hZ _ _ e2,rfl,n2,rfl⟩ hu (yk (A:=A.in1) (fun x y u v V1 V2=>Th Z x y u v V1 V2 A.in1 s) (items:=items.toArray) (items2:=items2.toArray) vs Ρ);rwa [l1,l2,OG] at k
section
variable[DecidableEq β]{f:β->AV}{as bs:List β}
theorem Xn(hf:pC f)(hA:w0 A 5)(hl:w9 st.led v (as.map f))(hr:w9 st.led u (bs.map f))(h:K (.bool (!decide (as=bs))) st):F2 vv w A B s9 Val (g5 .NotEq) v u st K:=fun s Z x1 x2 V1 V2 S Q E hQ=>by
 refine bw (hl.isList V1 S.tot8) fun a items O3 hi hv=>?_;subst O3;refine bw (hr.isList V2 S.tot8) fun b items2 O3 Y4 Q6=>?_;subst O3;have l1:items.size=as.length:=hv.size.trans (Yl ..);have l2:items2.size=bs.length:=Q6.size.trans (Yl ..);have hu:A.in1.units<cLine:=o6 (Nat.add_lt_add_left (by decide) A.units) hA.u;by_cases hsz:as.length=bs.length
 ·refine RcNeAt.lists (e:=fun j=>decide (as[j]?=bs[j]?)) hi Y4 (l1.trans (hsz.trans l2.symm)) hA.ult (yk (hf hu S.frozen) hv Q6) vv w E _ ?_;rw[l1,pg as bs hsz];exact hQ _ _ s Z st h S (.bool _) .refl
 ·refine RcNeAt.lists_lengths hi Y4 (bne_iff_ne.mpr fun e=>hsz (l1.symm.trans (e.trans l2))) hA.ult vv w E _ ?_;rw[decide_eq_false (fun e=>hsz (by rw[e]))] at h;exact hQ _ _ s Z st h S (.bool _) .refl
theorem XC(hf:pC f)(hA:w0 A 5)(hl:w9 st.led v (as.map f))(hr:w9 st.led u (bs.map f))(h:K (.bool (decide (as=bs))) st):F2 vv w A B s9 Val (g5 .Eq) v u st K:=fun s Z x1 x2 V1 V2 S Q E hQ=>by
 refine bw (hl.isList V1 S.tot8) fun a items O3 hi hv=>?_;subst O3;refine bw (hr.isList V2 S.tot8) fun b items2 O3 Y4 Q6=>?_;subst O3;have l1:items.size=as.length:=hv.size.trans (Yl ..);have l2:items2.size=bs.length:=Q6.size.trans (Yl ..);have hu:A.in1.units<cLine:=o6 (Nat.add_lt_add_left (by decide) A.units) hA.u;by_cases hsz:as.length=bs.length
 ·refine PySem.SeqAt.eq_listAt (e:=fun j=>decide (as[j]?=bs[j]?)) hi Y4 (l1.trans (hsz.trans l2.symm)) hA.ult (yk (hf hu S.frozen) hv Q6) ?_;rw[l1,pg as bs hsz];exact hQ _ _ s Z st h S (.bool _) .refl
 ·refine PySem.SeqAt.eq_list_lengthsAt hi Y4 (bne_iff_ne.mpr fun e=>hsz (l1.symm.trans (e.trans l2))) hA.ult ?_;rw[decide_eq_false (fun e=>hsz (by rw[e]))] at h;exact hQ _ _ s Z st h S (.bool _) .refl
end
end
noncomputable def iu:List Str->List Str->Nat
 |x::xs,y::ys=>if x=y then iu xs ys+1 else 0
 |_,_=>0
theorem qp{xs ys:List Str}:iu (x::xs) (y::ys)=if x=y then iu xs ys+1 else 0:=rfl
theorem Ks(a:List Str):∀b,iu a b<=a.length/\iu a b<=b.length:=by
 induction a with
 |nil=>exact fun b=>⟨YD _,YD _⟩
 |cons x xs ih =>
  intro b;cases b with
  |nil=>exact⟨YD _,YD _⟩
  |cons y ys =>
   rw[qp];split
   ·exact⟨p8 (ih ys).1,p8 (ih ys).2⟩
   ·exact⟨YD _,YD _⟩
noncomputable abbrev cC(a b:List Str)(i j:Nat):Nat:=iu (a.drop i) (b.drop j)
section
variable{a b:List Str}{i j s:Nat}
theorem mM:cC a b i j<=a.length-i/\cC a b i j<=b.length-j:=by
 have h:=Ks (a.drop i) (b.drop j);rw[p9,p9] at h;exact h
theorem Bg(h : ¬ i<a.length):cC a b i j=0:=Nat.le_zero.mp (Nat.sub_eq_zero_of_le (Nat.not_lt.mp h)▸(mM (b:=b) (j:=j)).1)
theorem Bf(h : ¬ j<b.length):cC a b i j=0:=Nat.le_zero.mp (Nat.sub_eq_zero_of_le (Nat.not_lt.mp h)▸(mM (a:=a) (i:=i) (j:=j)).2)
theorem Bh(hx:a[i]?=some x)(hy:b[j]?=some y):cC a b i j=if x=y then cC a b (i+1) (j+1)+1 else 0:=by
 refine aq (j5.mp hx) fun h1 e1=>aq (j5.mp hy) fun h2 e2=>?_;unfold cC;rw[ZT h1,ZT h2,qp,e1,e2]
end
noncomputable def gC(a b:List Str)(i:Nat)(s:ab)(j:Nat):ab:=if s.1<cC a b i j then (cC a b i j,i,j) else s
noncomputable def gD(a b:List Str)(s:ab)(i:Nat):ab:=(Zx 0 b.length).foldl (gC a b i) s
noncomputable def bJ(a b:List Str):ab:=(Zx 0 a.length).foldl (gD a b) (0,0,0)
def C0(a b:List Str)(t:ab):Prop:=t.2.1+t.1<=a.length/\t.2.2+t.1<=b.length
theorem C0.step{a b:List Str}{t:ab}(hi:i<a.length)(hj:j<b.length)(h:C0 a b t):C0 a b (gC a b i t j):=by
 unfold gC;split
 ·have h:=mM (a:=a) (b:=b) (i:=i) (j:=j);exact⟨Nat.add_le_of_le_sub' (a6 hi) h.1,Nat.add_le_of_le_sub' (a6 hj) h.2⟩
 ·exact h
theorem C0.fold{a b:List Str}(hi:i<a.length)(js:List Nat):∀t,(∀j∈js,j<b.length)->C0 a b t->C0 a b (js.foldl (gC a b i) t):=by
 induction js with
 |nil=>exact fun O O h=>h
 |cons j js ih=>exact fun t hj h=>ih _ (fun q hq=>hj q (Yk _ hq)) (h.step hi (hj j (Yi ..)))
theorem oH(h:i∈Zx 0 n):i<n:=Nat.lt_of_lt_of_eq (List.mem_range'_1.mp h).2 (r0 _)
theorem C0.row{a b:List Str}{t:ab}(hi:i<a.length)(h:C0 a b t):C0 a b (gD a b t i):=.fold hi _ _ (fun O h=>oH h) h
theorem C0.rows{a b:List Str}(is:List Nat):∀t,(∀i∈is,i<a.length)->C0 a b t->C0 a b (is.foldl (gD a b) t):=by
 induction is with
 |nil=>exact fun O O h=>h
 |cons i is ih=>exact fun t hi h=>ih _ (fun q hq=>hi q (Yk _ hq)) (h.row (hi i (Yi ..)))
theorem pf(a b:List Str):C0 a b (bJ a b):=.rows _ _ (fun O h=>oH h) ⟨YD _,YD _⟩
noncomputable def jf(t:ab):List (Nat×Nat):=(Zx 0 t.1).map fun m=>(t.2.1+m,t.2.2+m)
noncomputable def kC(t:ab)(ps:List (Nat×Nat)):List (Nat×Nat):=ps.map fun p=>(t.2.1+t.1+p.1,t.2.2+t.1+p.2)
noncomputable def cq:Nat->List Str->List Str->List (Nat×Nat)
 |0,_,_=>[]
 |f+1,a,b=>if (bJ a b).1=0 then [] else cq f (a.take (bJ a b).2.1) (b.take (bJ a b).2.2)++jf (bJ a b)++kC (bJ a b) (cq f (a.drop ((bJ a b).2.1+(bJ a b).1)) (b.drop ((bJ a b).2.2+(bJ a b).1)))
theorem yG(f:Nat):∀(a b:List Str),(cq f a b).length<=a.length:=by
 induction f with
 |zero=>exact fun O O=>YD _
 |succ f ih =>
  intro a b;refine iteInduction (motive:=fun l:List (Nat×Nat)=>l.length<=a.length) (fun O=>YD _) fun h=>?_;have hb:=(pf a b).1;have h1:=ih (a.take (bJ a b).2.1) (b.take (bJ a b).2.2);have h2:=ih (a.drop ((bJ a b).2.1+(bJ a b).1)) (b.drop ((bJ a b).2.2+(bJ a b).1));unfold jf kC;rw[Yr,Yr,Yl,Yl,List.length_range'];rw[List.length_take,Nat.min_eq_left (Zg (n9 ..) hb)] at h1;rw[p9] at h2;exact Zg (r8 (r6 h1 _) h2) (o5 (Nat.add_sub_cancel' hb))
noncomputable abbrev cJ(p:Nat×Nat):AV:=.tup [.int (p.1:Nat),.int (p.2:Nat)]
theorem zz{γ:Type}(f:α->β)(h:α->γ)(g:List α):(g.map f).zip (g.map h)=g.map fun o=>(f o,h o):=by
 induction g with
 |nil=>rfl
 |cons x g ih=>exact congrArg (_ :: ·) ih
theorem A9.refl:∀l:List (Str×AV),A9 a xs l l
 | [] => .nil
 |(_,_)::l => .keep (A9.refl l)
inductive FrzK (K:AV->St->Prop) (v:AV):St->Prop
 |mk (a:YV) (xs:List AV) (led':aa) {loc:List (Str×AV)} {led:aa} (e:v=.ref a) (e2:led=(a,.list xs)::led') (k:K (.lst xs) ⟨loc,led'⟩):FrzK K v ⟨loc,led⟩
section
variable{N:aa}
theorem T.frz{t:Sem Value}(h:T vv w A B s9 Val t st (FrzK K)):T vv w A B s9 Val t st K:=fun s Z S Q E hQ =>
 h s Z S Q E fun v x s' Z' t5 k S' V X=>by
  cases k with
  |mk a xs led' e e2 k =>
   subst e;subst e2;refine aZ (S'.freeze (A9.refl _)) fun E8 D7 V'' L4=>?_;exact hQ _ _ _ _ _ k D7 ((show x=.ref a from V.inv)▸V'') (X.trans L4)
theorem du(hl:w9 st.led v xs)(e:xs.length=n)(hz:n<2^62)(h:K (.int n) st):FC vv w A B s9 (.blt "len") [v] [] st K:=mt hl (e.symm▸hz) (e.symm▸h)
theorem iG{m:Nat}(h:m<=n)(hn:n<=10^6):((m:Nat):Int)<2^63:=Int.ofNat_lt.mpr (o0 (Zg h hn) (by decide))
theorem iq{γ:Type}(f:γ->AV)(g:β->γ)(xs:List β):(xs.map fun y=>some (f (g y))).filterMap id=(xs.map g).map f:=by rw[m0,ZR];exact List.filterMap_eq_map▸rfl
theorem fZ{y3:Env}{a:AV}{y:Option AV}(h:∀v led,D4 N led->F1 vv w A B y3 aV (ZQ t0 y3) a ⟨[(x,v)],led⟩ fun O D1=>T vv w A B y3 aM (iW F0 y3) D1 fun b F4 =>
  if b then T vv w A B y3 Val (ZI elt y3) F4 fun v U2=>y=some v/\U2.led=led/\∃v,U2.loc=[(x,v)] else y=none/\F4.led=led/\∃v,F4.loc=[(x,v)]):im vv w A B y3 t0 elt F0 N (fun loc=>∃v,loc=[(x,v)]) a y :=
 fun loc j led hN=>j.elim fun v e=>e.symm▸h v led hN
theorem Aw{y3:Env}{z:Str}{a:AV}{y:Option AV}(h:∀v u led,D4 N led->F1 vv w A B y3 aV (ZQ t0 y3) a ⟨[(x,v),(z,u)],led⟩ fun O D1=>T vv w A B y3 aM (iW F0 y3) D1 fun b F4 =>
  if b then T vv w A B y3 Val (ZI elt y3) F4 fun v U2=>y=some v/\U2.led=led/\∃v u,U2.loc=[(x,v),(z,u)] else y=none/\F4.led=led/\∃v u,F4.loc=[(x,v),(z,u)]):im vv w A B y3 t0 elt F0 N (fun loc=>∃v u,loc=[(x,v),(z,u)]) a y :=
 fun loc j led hN=>j.elim fun v j=>j.elim fun u e=>e.symm▸h v u led hN
theorem lY{f:β->AV}{g:β->Option AV}{xs:List β}{scope:Scope}{cl:List (Str×YV)}{vars:List Str}{K:List AV->St->Prop}(e:(xs.map g).filterMap id=ys)(hsz:xs.length<=Zc)(hN:D4 N st.led)
  (hs:∀L,∀y∈xs,im vv w A B (compEnvC scope cl L s9) t0 elt F0 N J (f y) (g y)) (h:K ys st) :
  F1 vv w A B s9 Val pyIter (.lst (xs.map f)) st fun u A5=>pI vv w A B s9 k N vars scope cl elt t0 F0 J K u A5 :=
 Hk fun it gl hI hS=>⟨it,gl,_,xs.map f,xs.map g,rfl,rfl,hI _ _,hS _,hN,by rw[Yl,Yl],by rw[Yl];exact hsz,fun L p hp=>by
  rw[zz] at hp;refine ae (YM.mp hp) fun y hy O3=>?_;subst O3;exact hs L y hy,e▸h⟩
theorem oZ{g:Nat->Option AV}{scope:Scope}{cl:List (Str×YV)}{vars:List Str}{K:List AV->St->Prop}(e:((Zx 0 n).map g).filterMap id=ys)(hsz:n<=10^6)(hN:D4 N st.led)
  (hs:∀L,∀i,i<n->im vv w A B (compEnvC scope cl L s9) t0 elt F0 N J (.int (i:Nat)) (g i)) (h:K ys st) :
  F1 vv w A B s9 Val pyIter (.rng 0 (n:Nat)) st fun u A5=>pI vv w A B s9 k N vars scope cl elt t0 F0 J K u A5 :=
 XL ⋯ ⋯ ⋯ ⋯ fun it gl hI hS=>⟨it,gl,_,(Zx 0 n).map fun i:Nat => .int (i:Nat),(Zx 0 n).map g,rfl,rfl,(show cI 0 (n:Int)=(Zx 0 n).map fun i:Nat=>AV.int (i:Int) from mL 0 n)▸hI _ _ _,hS _,hN,by rw[Yl,Yl],by rw[Yl,List.length_range',ZD];omega,fun L p hp=>by
  rw[zz] at hp;refine ae (YM.mp hp) fun y hy O3=>?_;subst O3;exact hs L y (Nat.lt_of_lt_of_eq (List.mem_range'_1.mp hy).2 (r0 _)),e▸h⟩
end
noncomputable abbrev cY(o:Obj)(f:YV)(L:YV)(cs:List (Str×YV)):Env:=dS (aA o).scope L (aA o).globals cs (aA o).qualname f (aA o).code (aA o).builtins
noncomputable abbrev kx(t:ab):AV:=.tup [.int (t.1:Nat),.int (t.2.1:Nat),.int (t.2.2:Nat)]
section
variable(a b:List Str)(cs cj ci:YV)(l0:aa)
noncomputable abbrev jO(v1 v2 v3:AV:=.any):List (Str×AV):=[(dO,aT b),(eo,aT a),(Mj,v1),(Mi,v2),(Mh,v3)]
def Wp(is:List Nat)(P:St->Prop):Prop:=∀t es ej ei,is.foldl (gD a b) t=bJ a b->(∀i∈is,i<a.length)->R2 es->R2 ej->R2 ei->P ⟨jO a b (kx t),(cs,es)::(cj,ej)::(ci,ei)::l0⟩
def Wo(i:Nat)(T:ab)(js:List Nat)(P:St->Prop):Prop:=∀t es ej,js.foldl (gC a b i) t=T->(∀j∈js,j<b.length)->R2 es->R2 ej->P ⟨jO a b (kx t),(cs,es)::(cj,ej)::(ci,aU (.int (i:Nat)))::l0⟩
def Wh(i:Nat)(T:ab)(P:St->Prop):Prop:=∀es ej,R2 es->R2 ej->P ⟨jO a b (kx T),(cs,es)::(cj,ej)::(ci,aU (.int (i:Nat)))::l0⟩
def Wn(t:ab)(i j:Nat)(n:Nat)(P:St->Prop):Prop:=∀s:Nat,s+cC a b (i+s) (j+s)=cC a b i j->n=cC a b (i+s) (j+s)->P ⟨jO a b (kx t),(cs,aU (.int (s:Nat)))::(cj,aU (.int (j:Nat)))::(ci,aU (.int (i:Nat)))::l0⟩
def Wg(t:ab)(i j:Nat)(P:St->Prop):Prop:=P ⟨jO a b (kx t),(cs,aU (.int (cC a b i j:Nat)))::(cj,aU (.int (j:Nat)))::(ci,aU (.int (i:Nat)))::l0⟩
def GJ(P:St->Prop):Prop:=∀es ej ei,R2 es->R2 ej->R2 ei->P ⟨jO a b (kx (bJ a b)),(cs,es)::(cj,ej)::(ci,ei)::l0⟩
end
theorem TM{a b:List Str}{L cs cj ci:YV}{led:aa}{K:u7->St->Prop}(u9:w0 A 20)(ha:a.length<=100)(hb:b.length<=100)
  (k:GJ a b cs cj ci led (T ak w A (al w) (cY (eu w.params) 278 L [(ji,cs),(qr,cj),(mN,ci)]) y0 (execs ((cg (aS 11)).drop 2) (cY (eu w.params) 278 L [(ji,cs),(qr,cj),(mN,ci)])) · K)) :
  T ak w A (al w) (cY (eu w.params) 278 L [(ji,cs),(qr,cj),(mN,ci)]) y0 (execs (cg (aS 11)) (cY (eu w.params) 278 L [(ji,cs),(qr,cj),(mN,ci)])) ⟨jO a b,pe [(ji,cs),(qr,cj),(mN,ci)]++led⟩ K:=by
 have hh:=u9.h;have hG:=((ce (vv:=ak) (w:=w) (B:=al w) (A:=A) (s9:=cY (eu w.params) 278 L [(ji,cs),(qr,cj),(mN,ci)]) @_ @_ @_ @_ hh).g (gw w) @_ @_).g (oS w) @_ @_;refine ah (aF hG 20 ?_);refine ah (T.join (GJ a b cs cj ci led) (hF (k:=5) (fun i:Nat=>AV.int (i:Int)) (Wp a b cs cj ci led) (u9.mono ⋯) (ad hG 20 (t6.mk (du (n:=a.length) .frz (Yl ..) (o0 ha (by decide)) ?_))) ?_ ?_ fun O=>@_) k)
 ·exact t6.mk (kg (tV ⋯ ⋯ ⋯ ⋯ fun it gl hI => .mk ((show cI 0 (a.length:Int)=(Zx 0 a.length).map fun i:Nat=>AV.int (i:Int) from mL 0 a.length)▸hI) (.mk (fun O y=>y (0,0,0) _ _ _ rfl (fun O h=>oH h) gm gm gm) @_)))
 ·intro gl i is t es ej ei hf hi c1 c2 c3;refine ea @_ c3 (.there (.there .here)) ?_;refine ah (T.join (Wh a b cs cj ci (led++gl) i (gD a b t i)) (hF (k:=5) (fun i:Nat=>AV.int (i:Int)) (Wo a b cs cj ci (led++gl) i (gD a b t i)) (u9.mono ⋯) (ad hG 20 (t6.mk (du (n:=b.length) .frz (Yl ..) (o0 hb (by decide)) ?_))) ?_ ?_ fun O=>@_) fun es ej c1 c2=>?_)
  ·exact t6.mk (kg (tV ⋯ ⋯ ⋯ ⋯ fun it gl hI => .mk ((show cI 0 (b.length:Int)=(Zx 0 b.length).map fun i:Nat=>AV.int (i:Int) from mL 0 b.length)▸hI) (.mk (fun O y=>y t _ _ rfl (fun O h=>oH h) c1 c2) @_)))
  ·intro gl2 j js t2 es ej Q3 hj c1 c2;refine ea @_ c2 (.there .here) ?_;refine ah (cH rfl rfl rfl (ad hG 20 (ea @_ c1 .here ?_)));have hil:=hi i (Yi ..);have hjl:=hj j (Yi ..);have hr:=mM (a:=a) (b:=b) (i:=i) (j:=j);refine ah (T.join (Wg a b cs cj ci ((led++gl)++gl2) t2 i j) (jW (Wn a b cs cj ci ((led++gl)++gl2) t2 i j) (fun n s hs hn=>?_) ⟨_,B2.self _,fun O y=>y 0 (r0 _) rfl⟩) ?_)
   ·refine T.bool (p:=0<cC a b (i+s) (j+s)) (bH hG 60 ?_) (fun hp=>?_) fun hp=>?_
    ·refine aP @_ (.tail _ (.tail _ (.head _))) (aP @_ (.head _) (t6.mk (du (n:=a.length) .frz (Yl ..) (o0 ha (by decide)) ?_)));refine bE (fun q1=>?_) fun q1=>⟨rfl,nofun,fun q=>absurd (Bg (a:=a) (b:=b) (j:=j+s) (i:=i+s) fun z=>q1 (Int.ofNat_lt.mpr z)) (Nat.ne_of_gt q)⟩;refine aP @_ (.tail _ (.head _)) (aP @_ (.head _) (t6.mk (du (n:=b.length) .frz (Yl ..) (o0 hb (by decide)) ?_)));refine bE (fun q2=>?_) fun q2=>⟨rfl,nofun,fun q=>absurd (Bf (a:=a) (b:=b) (j:=j+s) (i:=i+s) fun z=>q2 (Int.ofNat_lt.mpr z)) (Nat.ne_of_gt q)⟩;have l1:i+s<a.length:=Int.ofNat_lt.mp q1;have l2:j+s<b.length:=Int.ofNat_lt.mp q2;refine aP @_ (.tail _ (.tail _ (.head _))) (aP @_ (.head _) (t6.mk (bG (x:=.str a[i+s]) .frz (p7 (i+s)) (iG (a6 l1) (Zg ha (by decide))) (Eu (j:=i+s) rfl (YL l1)) ?_)));refine aP @_ (.tail _ (.head _)) (aP @_ (.head _) (t6.mk (bG (x:=.str b[j+s]) .frz (p7 (j+s)) (iG (a6 l2) (Zg hb (by decide))) (Eu (j:=j+s) rfl (YL l2)) ?_)));have e:=Bh (a:=a) (b:=b) (YL l1) (YL l2);refine cU (fun h=>⟨rfl,fun O=>?_,fun O=>rfl⟩) fun h=>⟨rfl,nofun,fun q=>absurd q ?_⟩
     ·rw[e,if_pos (beq_iff_eq.mp h)];exact Nat.succ_pos _
     ·rw[e,if_neg (beq_eq_false_iff_ne.mp h)];exact d7 0
    ·rw[if_pos rfl];have l1:i+s<a.length:=(Decidable.em (i+s<a.length)).elim id fun h=>absurd (Bg (b:=b) (j:=j+s) h) (Nat.ne_of_gt hp);have l2:j+s<b.length:=(Decidable.em (j+s<b.length)).elim id fun h=>absurd (Bf (a:=a) (i:=i+s) h) (Nat.ne_of_gt hp);have e:=Bh (a:=a) (b:=b) (YL l1) (YL l2);by_cases hx:a[i+s]=b[j+s]
     ·rw[if_pos hx] at e;refine ah (Vn (v₀:=.int (s:Nat)) (r:=.int ((s+1:Nat):Int)) @_ .here (ad hG 5 (He ⟨rfl,rfl⟩)) (bP ⟨cC a b (i+(s+1)) (j+(s+1)),?_,_,B2.self _,fun O y=>y (s+1) ?_ rfl⟩))
      ·rw[hn,e];exact g4 _
      ·rw[← hs,e];exact(o4 ..)
     ·rw[if_neg hx] at e;exact absurd e (Nat.ne_of_gt hp)
    ·rw[if_neg (by decide)];have e:s=cC a b i j:=by rw[← hs,Nat.eq_zero_of_not_pos hp];rfl
     subst e;exact Nx.mk (fun O y=>y) @_
   ·refine ah (aF hG 60 (aP @_ (.head _) (t6.mk (fw (x:=.int (t2.1:Nat)) (by decide) (by decide) rfl (bE (fun q=>?_) fun q=>?_)))))
    ·refine aP @_ (.head _) (aP @_ (.tail _ (.tail _ (.head _))) (aP @_ (.tail _ (.head _)) ?_));refine bP (.next (l:=_::_::_::(led++gl)) (.mk (gs:=js) (fun O y=>y (cC a b i j,i,j) (aU (.int (cC a b i j:Nat))) (aU (.int (j:Nat))) ?_ (fun q hq=>hj q (Yk _ hq)) gj gj) @_));rw[← Q3,Zu,show gC a b i t2 j=(cC a b i j,i,j) from if_pos (Int.ofNat_lt.mp q)]
    ·refine bP (.next (l:=_::_::_::(led++gl)) (.mk (gs:=js) (fun O y=>y t2 (aU (.int (cC a b i j:Nat))) (aU (.int (j:Nat))) ?_ (fun q hq=>hj q (Yk _ hq)) gj gj) @_));rw[← Q3,Zu,show gC a b i t2 j=t2 from if_neg fun z=>q (Int.ofNat_lt.mpr z)]
  ·intro t2 es ej e hj c1 c2;exact Nx.mk (fun O y=>(show t2=gD a b t i from e)▸y es ej c1 c2) @_
  ·exact bP (.next (l:=_::_::_::led) (.mk (gs:=is) (fun O y=>y (gD a b t i) es ej (aU (.int (i:Nat))) hf (fun q hq=>hi q (Yk _ hq)) c1 c2 gj) @_))
 ·intro t es ej ei e hi c1 c2 c3;exact Nx.mk (fun O y=>(show t=bJ a b from e)▸y es ej ei c1 c2 c3) @_
theorem Kq(t:ab):((Zx 0 t.1).map fun m=>some (cJ (t.2.1+m,t.2.2+m))).filterMap id=(jf t).map cJ:=iq cJ (fun m=>(t.2.1+m,t.2.2+m)) _
theorem JE(t:ab)(ps:List (Nat×Nat)):(ps.map fun p:Nat×Nat=>some (cJ (t.2.1+t.1+p.1,t.2.2+t.1+p.2))).filterMap id=(kC t ps).map cJ:=iq cJ (fun p:Nat×Nat=>(t.2.1+t.1+p.1,t.2.2+t.1+p.2)) _
theorem PW(f:Nat):∀ {w:YH} {A:Yz} {a b:List Str} {led:aa},w0 A (40+10 * f)->a.length<=f->a.length<=100->b.length<=100 ->
  TC ak w A (al w) (.ref 278) [aT a,aT b] [] led fun v led'=>led'=led/\v=.lst ((cq f a b).map cJ):=by
 suffices h:∀(f:Nat) {w:YH} {A:Yz} {a b:List Str} {led:aa},w0 A (40+10 * f)->a.length<=f->a.length<=100->b.length<=100 ->
   ((bJ a b).1≠0->∃f',f=f'+1/\∀ {A:Yz} {a b:List Str} {led:aa},w0 A (40+10 * f')->a.length<=f'->a.length<=100->b.length<=100->TC ak w A (al w) (.ref 278) [aT a,aT b] [] led fun v led'=>led'=led/\v=.lst ((cq f' a b).map cJ)) ->
   TC ak w A (al w) (.ref 278) [aT a,aT b] [] led fun v led'=>led'=led/\v=.lst ((cq f a b).map cJ) by
  induction f with
  |zero=>exact fun{w A a b led} hA hl ha hb=>h 0 hA hl ha hb fun q=>absurd (Nat.le_zero.mp (Zg (Zg (Nat.le_add_left ..) (pf a b).1) hl)) q
  |succ f ih=>exact fun{w A a b led} hA hl ha hb=>h (f+1) hA hl ha hb fun O=>⟨f,rfl,fun{A a b led}=>ih⟩
 intro f w A a b led hA hl ha hb Ü;refine TC.weak (tO [ji,qr,mN] (binds:=[(eo,aT a),(dO,aT b)]) (o:=eu w.params) (fd:=aA (eu w.params)) (body:=cg (aS 11)) (c:=277) (oc:=nU w.params) (vs:=eC (nU w.params)) (tq:=mB ((eC (nU w.params)).getD 1 .none)) (cL w)
  @_ @_ @_ @_ @_ @_ (fun n=>@_) (by decide) @_ @_ @_ @_ @_ (hA.mono (j:=1) ⋯).lt (Binds.of2 fun Z v1 v2 h1 h2=>⟨_,@_,.cons h1 (.cons h2 .nil)⟩) (s7.mpr ⟨@_,s7.mpr ⟨@_,aG⟩⟩) fun L cs cj ci=>?_)
 have u9:w0 (A.deeper (cY (eu w.params) 278 L [(ji,cs),(qr,cj),(mN,ci)])) (37+10 * f):=w0.deeper (k:=37+10 * f) (hA.mono (o5 (Nat.add_right_comm 37 (10 * f) 3)));have hh:=u9.h;have hG:=((((ce (vv:=ak) (w:=w) (B:=al w) (A:=A.deeper (cY (eu w.params) 278 L [(ji,cs),(qr,cj),(mN,ci)])) (s9:=cY (eu w.params) 278 L [(ji,cs),(qr,cj),(mN,ci)]) @_ @_ @_ @_ hh).g (gw w) @_ @_).g (oS w) @_ @_).g (ES w) @_ @_).f (f:=278) (dc @_);refine T.spares [Mj,Mi,Mh] @_ ?_;refine TM (u9.mono ⋯) ha hb fun es ej ei c1 c2 c3=>?_;obtain⟨t,ht⟩:∃t,bJ a b=t:=⟨_,rfl⟩;have Q1:=pf a b;rw[ht] at Q1 Ü ⊢;have hi1:t.2.1+t.1<=a.length:=Q1.1;have Y4:t.2.2+t.1<=b.length:=Q1.2;refine ah (cH rfl rfl rfl (ad hG 20 (dv (vs:=[.int (t.1:Nat),.int (t.2.1:Nat),.int (t.2.2:Nat)]) hh @_ @_ @_ (mq (ea @_ c1 .here (mq (ea @_ c3 (.there (.there .here)) (mq (ea @_ c2 (.there .here) (zf ?_))))))))));refine ah (aF hG 20 (aP @_ (.head _) (mO (fun h0=>?_) fun h0=>?_)))
 ·have h0:t.1=0:=Int.ofNat.inj h0;refine t6.mk (T.frz (dq rfl fun n hn=>⟨_,_,_,rfl,rfl,?_⟩));refine⟨led,⟨[_,_,_],.refl _⟩,rfl,?_⟩;cases f with
  |zero=>rfl
  |succ f=>exact congrArg (fun l:List (Nat×Nat)=>AV.lst (l.map cJ)) (show []=if (bJ a b).1=0 then [] else _ from(if_pos (ht▸h0)).symm)
 ·have h0:t.1≠0:=fun q=>h0 (congrArg Int.ofNat q);obtain⟨f',rfl,hr⟩:=Ü h0;have hA2:w0 (A.deeper (cY (eu w.params) 278 L [(ji,cs),(qr,cj),(mN,ci)])) (40+10 * f'):=u9.mono ⋯;have W5:=Nat.pos_of_ne_zero h0;have hr3:t.1<=100:=Zg (Zg (Nat.le_add_left ..) hi1) ha;have haz:(a.map AV.str).length<=Zc:=(Yl ..).symm▸Zg ha (by decide);have hbz:(b.map AV.str).length<=Zc:=(Yl ..).symm▸Zg hb (by decide);have l1:(a.drop (t.2.1+t.1)).length<=f':=by rw[p9];exact Nat.sub_le_of_le_add (Zg hl (p5 (Zg W5 (Nat.le_add_left ..)) f'))
  have l2:(a.take t.2.1).length<=f':=Zg (List.length_take_le ..) (Nat.le_of_lt_succ (o6 (s6 W5) (Zg hi1 hl)));refine ah (aF hG 40 (t6.mk (fT (i:=some ((t.2.1+t.1:Nat):Int)) (j:=none) (ad hG 5 ⟨rfl,rfl⟩) (bd (ad hG 5 (aP (v:=.int (t.2.1:Nat)) @_ (.tail _ (.tail _ (.head _))) (aP (v:=.int (t.1:Nat)) @_ (.head _) ⟨rfl,rfl⟩)))) (cO ⟨rfl,rfl⟩) .frz haz (iz _) ?_)));refine t6.mk (fT (i:=some ((t.2.2+t.1:Nat):Int)) (j:=none) (ad hG 5 ⟨rfl,rfl⟩) (bd (ad hG 5 (aP (v:=.int (t.2.2:Nat)) @_ (.tail _ (.head _)) (aP (v:=.int (t.1:Nat)) @_ (.head _) ⟨rfl,rfl⟩)))) (cO ⟨rfl,rfl⟩) .frz hbz (iz _) ?_);rw[← List.map_drop,← List.map_drop];refine t6.mk (ie (hr hA2 l1 (Zg (Zg (o5 p9) (r7 ..)) ha) (Zg (Zg (o5 p9) (r7 ..)) hb)) ?_);refine ah (aF hG 40 (t6.mk (fT (i:=none) (j:=some ((t.2.1:Nat):Int)) (ad hG 5 ⟨rfl,rfl⟩) (cO ⟨rfl,rfl⟩) (bd (ad hG 5 (aP (v:=.int (t.2.1:Nat)) @_ (.tail _ (.tail _ (.head _))) ⟨rfl,rfl⟩))) .frz haz (jy _) ?_)));refine t6.mk (fT (i:=none) (j:=some ((t.2.2:Nat):Int)) (ad hG 5 ⟨rfl,rfl⟩) (cO ⟨rfl,rfl⟩) (bd (ad hG 5 (aP (v:=.int (t.2.2:Nat)) @_ (.tail _ (.head _)) ⟨rfl,rfl⟩))) .frz hbz (jy _) ?_);rw[← List.map_take,← List.map_take];refine t6.mk (ie (hr hA2 l2 (Zg (List.length_take_le ..) ⋯) (Zg (List.length_take_le' ..) hb)) ?_);refine t6.mk (T.frz (kc (k:=5) (N:=[(ci,aU (.int (t.2.1:Nat))),(cj,aU (.int (t.2.2:Nat)))]) (cl:=[(qr,cj),(mN,ci)]) (J:=fun loc=>∃v,loc=[(Mf,v)]) [Mf] (u9.mono ⋯) @_ @_ @_ @_ @_ (fun O=>@_) ⟨_,rfl⟩ (ad hG 20 (aP @_ (.head _) (t6.mk (kg (oZ (g:=fun m=>some (cJ (t.2.1+m,t.2.2+m))) (Kq t) (Zg hr3 (by decide)) (s7.mpr ⟨.tail _ (.tail _ (.head _)),s7.mpr ⟨.tail _ (.head _),aG⟩⟩) (fun L2 m hm=>?_) fun D hD=>⟨_,_,_,rfl,rfl,?_⟩)))))))
  ·refine fZ fun v led' A8=>?_;exact bX (bc rfl (gZ (ad (ce @_ @_ @_ @_ hh) 20 (aP @_ (A8 _ (.head _)) (aP @_ (A8 _ (.tail _ (.head _))) ⟨rfl,rfl,_,rfl⟩)))))
  ·have h3:(cq f' (a.take t.2.1) (b.take t.2.2)).length<=100:=Zg (yG ..) (Zg (List.length_take_le' ..) ha);have h4:(cq f' (a.drop (t.2.1+t.1)) (b.drop (t.2.2+t.1))).length<=100:=Zg (yG ..) (Zg (o5 p9) (Zg (r7 ..) ha));refine t6.mk (iR .frz .frz (by rw[Yl,Yl,jf,Yl,List.length_range'];exact Zg (r8 h3 hr3) (by decide)) ?_);rw[← YK];refine bD hG 40 (t6.mk (T.frz (kc (k:=5) (N:=[(ci,aU (.int (t.2.1:Nat))),(cs,aU (.int (t.1:Nat))),(cj,aU (.int (t.2.2:Nat)))]) (cl:=[(ji,cs),(qr,cj),(mN,ci)]) (J:=fun loc=>∃v u,loc=[(Me,v),(Md,u)]) [Me,Md] (u9.mono ⋯) @_ @_ @_ @_ @_ (fun O=>@_) ⟨_,_,rfl⟩ (ad hG 20 (lY (f:=cJ) (g:=fun p:Nat×Nat=>some (cJ (t.2.1+t.1+p.1,t.2.2+t.1+p.2))) (JE t _) ?_ (s7.mpr ⟨.tail _ (.tail _ (.head _)),s7.mpr ⟨.head _,s7.mpr ⟨.tail _ (.head _),aG⟩⟩⟩) (fun L2 m hm=>?_) fun D hD=>⟨_,_,_,rfl,rfl,?_⟩)))))
   ·exact Zg h4 (by decide)
   ·refine Aw fun v u led' A8=>?_;refine dv (vs:=[.int (m.1:Nat),.int (m.2:Nat)]) hh @_ @_ @_ (de _ rfl _ _ rfl rfl (gZ (ad (ce @_ @_ @_ @_ hh) 20 ?_)));exact aP @_ (A8 _ (.head _)) (aP @_ (A8 _ (.tail _ (.head _))) (aP @_ (A8 _ (.tail _ (.tail _ (.head _)))) (aP @_ (A8 _ (.tail _ (.head _))) ⟨rfl,rfl,_,_,rfl⟩)))
   ·refine t6.mk (iR .frz .frz (by rw[Yl,Yl,Yr,kC,Yl,jf,Yl,List.length_range'];exact Zg (r8 (r8 h3 hr3) h4) (by decide)) ?_);refine⟨led,⟨[_,_,_],.refl _⟩,rfl,?_⟩;rw[← YK];exact congrArg (fun l:List (Nat×Nat)=>AV.lst (l.map cJ)) (by
     show _=if (bJ a b).1=0 then [] else _
     rw[ht,if_neg h0])
noncomputable def db:List Str:=[⟨⟨[97,10]⟩⟩,⟨⟨[45,32,97,10]⟩⟩,⟨⟨[33,32,10]⟩⟩,⟨⟨[42,42,42,32,49,32,42,42,42,42,10]⟩⟩]
noncomputable def dk(i:Int):Str:=db.getD i.toNat default
noncomputable def eN:List Str:=[0,1,0,2,1,0].map fun i:Nat=>dk (i:Int)
noncomputable def dC(p:List Str)(x:Int):Nat:=((x.fdiv 10).fmod ((p.length:Int)+1)).toNat
noncomputable def gO(p:List Str)(x:Int):List Str :=
 if x.fmod 10=9 then p.drop (dC p x)++p.take (dC p x)
 else (p.take (dC p x)++[dk ((x.fdiv 1000).fmod 4),dk ((x.fdiv 4000).fmod 4)].take ((x.fmod 10).fdiv 3).toNat++p.drop (dC p x+((x.fmod 10).fmod 3).toNat)).take 30
noncomputable def ku:List Str->List Int->List (List Str)
 |p,[]=>[p]
 |p,x::xs=>p::ku (gO p x) xs
noncomputable def bk(script:List Int):List (List Str):=ku eN ([29,1014,6]++script)
def ic(p:List Str):Prop:=p.length<=30/\∀y∈p,y∈db
theorem tw(x:Int)(n:Nat):∃k:Nat,x.fmod ((n:Int)+1)=k/\k<=n:=by
 have h0:=Int.fmod_nonneg_of_pos x (show (0:Int)<(n:Int)+1 by omega);have h1:=Int.fmod_lt_of_pos x (show (0:Int)<(n:Int)+1 by omega);exact⟨(x.fmod ((n:Int)+1)).toNat,(Int.toNat_of_nonneg h0).symm,Int.ofNat_le.mp (by rw[Int.toNat_of_nonneg h0];exact Int.le_of_lt_add_one h1)⟩
theorem tx(x:Int):∃k:Nat,x.fmod 4=k/\k<=3:=tw x 3
theorem yP(p:List Str)(x:Int):(x.fdiv 10).fmod ((p.length:Int)+1)=(dC p x:Nat)/\dC p x<=p.length:=ae (tw (x.fdiv 10) p.length) fun k e h=>by
 unfold dC;rw[e,Zb];exact⟨rfl,h⟩
theorem Sc(x:Int):∃k:Nat,(x.fmod 10).fdiv 3=k:=ae (tw x 9) fun k e h=>⟨k / 3,by
 rw[show x.fmod 10=(k:Int) from e];exact(Int.ofNat_fdiv k 3).symm⟩
theorem Jw(x:Int):∃k:Nat,(x.fmod 10).fmod 3=k:=ae (tw (x.fmod 10) 2) fun k e O=>⟨k,e⟩
theorem Eg(x:Int):(db.map AV.str)[(x.fmod 4).toNat]?=some (.str (dk (x.fmod 4))):=ae (tx x) fun k e h=>by
 unfold dk;rw[e,Zb,Ze,List.getD_eq_getElem?_getD];have hl:k<db.length:=Nat.lt_succ_of_le h;rw[YL hl];rfl
theorem Ee(x:Int):0<=x.fmod 4/\x.fmod 4<2^63:=ae (tx x) fun k e h=>⟨e▸p7 k,e▸Int.ofNat_lt.mpr (o0 h (by decide))⟩
theorem Ef(i:Int)(h:i.toNat<4):dk i∈db:=by
 unfold dk;rw[List.getD_eq_getElem?_getD,YL (show i.toNat<db.length from h)];exact List.getElem_mem _
theorem DM(x:Int):dk (x.fmod 4)∈db:=ae (tx x) fun k e h=>Ef _ (by rw[e,Zb];exact Nat.lt_succ_of_le h)
theorem zQ:ic eN:=by
 refine⟨by decide,fun y hy=>?_⟩;unfold eN at hy;refine ae (YM.mp hy) fun i hi e=>e▸Ef _ ?_;rw[Zb];exact(by decide:∀i∈[0,1,0,2,1,0],i<4) i hi
theorem DF{p:List Str}(h:ic p)(x:Int):ic (gO p x):=by
 unfold gO;split
 ·refine⟨?_,fun y hy=>(Zh.mp hy).elim (fun q=>h.2 y (List.mem_of_mem_drop q)) fun q=>h.2 y (List.mem_of_mem_take q)⟩;rw[Yr,p9,List.length_take,Nat.min_eq_left (yP p x).2,Nat.sub_add_cancel (yP p x).2];exact h.1
 ·refine⟨List.length_take_le ..,fun y hy=>?_⟩;refine(Zh.mp (List.mem_of_mem_take hy)).elim (fun q=>(Zh.mp q).elim (fun q=>h.2 y (List.mem_of_mem_take q)) fun q=>?_) fun q=>h.2 y (List.mem_of_mem_drop q);exact(Yp.mp (List.mem_of_mem_take q)).elim (fun e=>e▸DM _) fun q=>YB.mp q▸DM _
theorem Ic(xs:List Int):∀p,ic p->∀v∈ku p xs,ic v:=by
 induction xs with
 |nil=>exact fun p h v hv=>YB.mp hv▸h
 |cons x xs ih=>exact fun p h v hv=>(Yp.mp hv).elim (fun e=>e▸h) (ih _ (DF h x) v)
theorem pU(script:List Int):∀v∈bk script,ic v:=Ic _ _ zQ
theorem Ib(xs:List Int):∀p,(ku p xs).length=xs.length+1:=by
 induction xs with
 |nil=>exact fun O=>rfl
 |cons x xs ih=>exact fun p=>congrArg Nat.succ (ih _)
theorem zP(script:List Int):(bk script).length=script.length+4:=Ib _ _
noncomputable abbrev jQ:AV:=aT db
section
variable(script:List Int)(vl cl:YV)(led:aa)
noncomputable abbrev sV(v1 v2 v3 v4 v5:AV:=.any):List (Str×AV):=[(Mq,.lst (script.map .int)),(Mo,v1),(Cr,v2),(Mn,v3),(Mm,v4),(Ml,v5)]
def Wl(xs:List Int)(P:St->Prop):Prop:=∀acc p,acc++ku p xs=bk script->ic p->P ⟨sV script (.ref vl),(vl,.list ((acc++[p]).map aT))::(cl,aU jQ)::led⟩
def Wc(P:St->Prop):Prop:=P ⟨sV script (.ref vl),(vl,.list ((bk script).map aT))::(cl,aU jQ)::led⟩
def Wd(acc:List (List Str))(p:List Str)(x:Int)(gl:aa)(P:St->Prop):Prop:=P ⟨sV script (.ref vl) (.int x),(vl,.list (((acc++[p])++[gO p x]).map aT))::(cl,aU jQ)::led++gl⟩
end
theorem Ia(script:List Int)(hs:script.length<=63){acc:List (List Str)}{p:List Str}{xs:List Int}(h:acc++ku p xs=bk script):acc.length<=67:=by
 have:=congrArg k9 h;rw[Yr,zP] at this;omega
theorem Os{p:List Str}{x:Int}(h:x.fmod 10=9):(p.map AV.str).drop (dC p x)++(p.map AV.str).take (dC p x)=(gO p x).map .str:=by
 rw[gO,if_pos h,YK,List.map_drop,List.map_take]
theorem Ot{p:List Str}{x:Int}(h:x.fmod 10≠9)(hi:(x.fmod 10).fdiv 3=i)(hj:(x.fmod 10).fmod 3=j) :
  (((p.map AV.str).take (dC p x)++[AV.str (dk ((x.fdiv 1000).fmod 4)),.str (dk ((x.fdiv 4000).fmod 4))].take i)++(p.map AV.str).drop (dC p x+j)).take 30=(gO p x).map .str:=by
 rw[gO,if_neg h,hi,hj,Zb,Zb,List.map_take,YK,YK,List.map_take,List.map_take,List.map_drop];rfl
theorem PT{script:List Int}{led:aa}(hA:w0 A 30)(hs:script.length<=63) :
  TC ak w A (al w) (.ref 273) [.lst (script.map .int)] [] led fun v led'=>led'=led/\v=.lst ((bk script).map aT):=by
 refine TC.weak (tO [Mp] (binds:=[(Mq,.lst (script.map .int))]) (o:=jB w.params) (fd:=aA (jB w.params)) (body:=cg (aS 10)) (c:=272) (oc:=nV w.params) (vs:=eC (nV w.params)) (tq:=mB ((eC (nV w.params)).getD 1 .none)) (cL w)
  @_ @_ @_ @_ @_ @_ (fun n=>@_) (by decide) @_ @_ @_ @_ @_ hA.lt (Binds.of1 fun Z v1 h1=>⟨_,@_,.cons h1 .nil⟩) (s7.mpr ⟨@_,aG⟩) fun L cl=>?_)
 have u9:=hA.deeper (k:=27) (s9:=cY (jB w.params) 273 L [(Mp,cl)]);have hh:=u9.h;have hG:=((ce (vv:=ak) (w:=w) (B:=al w) (A:=A.deeper (cY (jB w.params) 273 L [(Mp,cl)])) (s9:=cY (jB w.params) 273 L [(Mp,cl)]) @_ @_ @_ @_ hh).g (gw w) @_ @_).m ⟨Li,1, "list.append"⟩ F.plainAttrs_list jc F.type_list_append;refine T.spares [Mo,Cr,Mn,Mm,Ml] @_ ?_;refine ah (cH rfl rfl rfl (T.frz (fu (cR hG 5 ⟨by decide,fun n hn=>⟨_,_,_,rfl,rfl,ea (v:=jQ) @_ gm .here ?_⟩⟩))));refine ah (aF hG 20 (t6.mk (fu (cR hG 5 (t6.mk (T.frz (kc (k:=5) (N:=[(cl,aU jQ)]) (cl:=[(Mp,cl)]) (J:=fun loc=>∃v,loc=[(q1,v)]) [q1] (u9.mono ⋯) @_ @_ @_ @_ @_ (fun O=>@_) ⟨_,rfl⟩ ?_)))))));refine T.frz (fu (cR hG 10 ?_));refine⟨by decide,fun n hn=>⟨_,_,_,rfl,rfl,lY (f:=fun i:Nat=>AV.int (i:Nat)) (xs:=[0,1,0,2,1,0]) (g:=fun i=>some (.str (dk (i:Nat)))) (iq AV.str (fun i:Nat=>dk (i:Nat)) _) (by decide) (s7.mpr ⟨.head _,aG⟩) (fun L2 m hm=>?_) fun D hD=>⟨_,_,_,rfl,rfl,⟨by decide,fun vl hvl=>?_⟩⟩⟩⟩
 ·refine fZ fun v led' A8=>?_;have hm4:=(by decide:∀i∈[0,1,0,2,1,0],i<4) m hm;refine bX (bc rfl (gZ (ad (ce @_ @_ @_ @_ hh) 20 (aP @_ (A8 _ (.head _)) (t6.mk (bG (x:=.str (dk (m:Nat))) .frz (p7 m) (iG (a6 hm4) (by decide)) ?_ ⟨rfl,rfl,_,rfl⟩))))));rw[Zb,Ze,YL (show m<db.length from hm4)];unfold dk;rw[Zb,List.getD_eq_getElem?_getD,YL (show m<db.length from hm4)];rfl
 refine ah (T.join (Wc script vl cl led) (jY (k:=5) AV.int (Wl script vl cl led) (u9.mono ⋯) (ad hG 20 (t6.mk (T.frz (fu (cR hG 5 ?_))))) ?_ ?_ fun O=>@_) ?_)
 ·exact⟨by decide,fun n hn=>⟨_,_,_,rfl,rfl,t6.mk (iR .frz .frz (by rw[Yl];exact Zg (p5 hs 3) (by decide)) (eJ (k:=5) fun it gl hI => .mk hI (.mk (gs:=[29,1014,6]++script) (fun O y=>y [] eN rfl zQ) @_)))⟩⟩
 ·intro gl x xs acc p he hp;have hz:=Ia script hs he;have hat:=yP p x;have hpl:=hp.1;refine⟨rfl,T.join (Wd script vl cl led acc p x gl) ?_ (.next (l:=_::_::led) (.mk (gs:=xs) (fun O y=>y (acc++[p]) (gO p x) (by rw[YN];exact he) (DF hp x)) @_))⟩;have hp30:(p.map AV.str).length<=30:=(Yl ..).symm▸hpl;have c_:(p.map AV.str).length<=Zc:=Zg hp30 (by decide);refine ah (aF hG 20 ⟨.mk list_getitem_lookup (br (by repeat constructor)),t6.mk (mw (xs:=acc.map aT) (x:=aT p) (.own (by repeat constructor)) YK (by rw[Yl];omega) ?_)⟩);refine ah (aF hG 40 (t6.mk (tS (by decide) (by decide) (t6.mk (mt .frz (by rw[Yl];omega) ?_)))));rw[Yl];refine t6.mk (il ⋯ ?_);rw[hat.1];refine bD hG 40 (t6.mk (il (by decide) (mO (fun c=>?_) fun c=>?_)))
  ·refine⟨br (by repeat constructor),t6.mk (fT (i:=some ((dC p x:Nat):Int)) (j:=none) (ad hG 5 ⟨rfl,rfl⟩) (bd (ad hG 5 ⟨rfl,rfl⟩)) (cO ⟨rfl,rfl⟩) .frz c_ (iz _) ?_)⟩;refine t6.mk (fT (i:=none) (j:=some ((dC p x:Nat):Int)) (ad hG 5 ⟨rfl,rfl⟩) (cO ⟨rfl,rfl⟩) (bd (ad hG 5 ⟨rfl,rfl⟩)) .frz c_ (jy _) ?_);refine t6.mk (iR .frz .frz (Zg (r8 (Zg (o5 p9) (Zg (r7 ..) hp30)) (Zg (List.length_take_le' ..) hp30)) (by decide)) ?_);rw[Os c];exact t6.mk (eH (xs:=(acc++[p]).map aT) (by repeat constructor) (by rw[Yl,Yr];exact Zg (p8 hz) (by decide)) (.mkE (fun O y=>y) (by rw[YK (l₁:=acc++[p])];rfl) @_))
  ·refine aq (Sc x) fun i hi=>aq (Jw x) fun j hj=>?_;have r1:=Ee (x.fdiv 1000);have r2:=Ee (x.fdiv 4000);refine t6.mk (kb (T.frz (fu (cR hG 20 ?_))));refine aP (v:=jQ) @_ (.tail _ (.head _)) (t6.mk (tS (by decide) (by decide) (t6.mk (il (by decide) (t6.mk (bG .frz r1.1 r1.2 (Eg _) ?_))))));refine aP (v:=jQ) @_ (.tail _ (.head _)) (t6.mk (tS (by decide) (by decide) (t6.mk (il (by decide) (t6.mk (bG .frz r2.1 r2.2 (Eg _) ?_))))));refine⟨ZB rfl,fun n hn=>⟨_,_,_,rfl,rfl,?_⟩⟩;refine cO (bd (ad hG 20 ?_));refine t6.mk (il (by decide) ?_);refine t6.mk (tS (by decide) (by decide) ?_);rw[hi];refine⟨_,_,none,some (i:Int),.frz,rfl,rfl,ZB rfl,jy i,?_⟩;refine⟨br (by repeat constructor),t6.mk (kb (ad hG 20 ?_))⟩;refine t6.mk (kb (ad hG 5 (cO (bd (ad hG 5 ?_)))));refine⟨_,_,none,some ((dC p x:Nat):Int),.frz,rfl,rfl,c_,jy _,?_⟩;have N7:(List.take i [AV.str (dk ((x.fdiv 1000).fmod 4)),.str (dk ((x.fdiv 4000).fmod 4))]).length<=2:=List.length_take_le' ..;refine t6.mk (iR .frz .frz (Zg (r8 (Zg (List.length_take_le' ..) hp30) N7) (by decide)) ?_);refine t6.mk (kb (ad hG 5 (bd (ad hG 20 ?_))));refine t6.mk (il (by decide) ?_);refine t6.mk (il (by decide) ?_);rw[hj];refine cO ⟨_,_,some ((dC p x+j:Nat):Int),none,.frz,rfl,rfl,c_,iz _,?_⟩;have ĕ:((p.map AV.str).take (dC p x)++List.take i [AV.str (dk ((x.fdiv 1000).fmod 4)),.str (dk ((x.fdiv 4000).fmod 4))]).length+((p.map AV.str).drop (dC p x+j)).length<=100:=by
    rw[Yr];exact Zg (r8 (r8 (Zg (List.length_take_le' ..) hp30) N7) (Zg (o5 p9) (Zg (r7 ..) hp30))) (by decide)
   refine t6.mk (iR .frz .frz (Zg ĕ (by decide)) ?_);refine cO (bd (ad hG 5 ?_));refine⟨_,_,none,some ((30:Nat):Int),.frz,rfl,rfl,by rw[Yr];exact Zg ĕ (by decide),jy 30,?_⟩;rw[Ot c hi hj];exact t6.mk (eH (xs:=(acc++[p]).map aT) (by repeat constructor) (by rw[Yl,Yr];exact Zg (p8 hz) (by decide)) (.mkE (fun O y=>y) (by rw[YK (l₁:=acc++[p])];rfl) @_))
 ·intro acc p e hp;exact .mkE (fun O y=>y) (by rw[show acc++[p]=bk script from e]) @_
 ·exact T.freeze (a:=vl) (xs:=(bk script).map aT) (w6:=sV script (.lst ((bk script).map aT))) (by repeat constructor) (bD hG 20 ⟨led,⟨[_],.refl _⟩,rfl,rfl⟩)
theorem qe(h:x.cps.toList=y.cps.toList):x=y:=by
 obtain⟨⟨a⟩⟩:=x;obtain⟨⟨b⟩⟩:=y;exact congrArg (fun l=>(⟨⟨l⟩⟩:Str)) h
theorem eF(x y:Str):(x++y).cps.toList=x.cps.toList++y.cps.toList:=Array.toList_append
theorem JX{c:Nat}{u v:List Nat}(p:List Nat):∀x:List Nat,c∉p->c∉x->p++c::u=x++c::v->p=x/\u=v:=by
 induction p with
 |nil =>
  intro x h1 h2 e;cases x with
  |nil=>exact⟨rfl,(c9 e).2⟩
  |cons a x=>exact absurd ((c9 e).1▸Yi ..) h2
 |cons b p ih =>
  intro x h1 h2 e;cases x with
  |nil=>exact absurd ((c9 e).1▸Yi ..) h1
  |cons a x =>
   have r:=ih x (fun h=>h1 (Yk _ h)) (fun h=>h2 (Yk _ h)) (c9 e).2;exact⟨by rw[(c9 e).1,r.1],r.2⟩
theorem Et{c:Nat}{p q:Str}{r:List Str}:(Str.join ⟨#[c]⟩ (p::q::r)).cps.toList=p.cps.toList++c::(Str.join ⟨#[c]⟩ (q::r)).cps.toList:=by
 show ((p++⟨#[c]⟩)++Str.join ⟨#[c]⟩ (q::r)).cps.toList=_;rw[eF,eF,YN];rfl
theorem Es{c:Nat}{ps:List Str}(C8:ps≠[])(hj:Str.join ⟨#[c]⟩ ps=y)(hc:c∉y.cps.toList):ps=[y]:=by
 cases ps with
 |nil=>exact absurd rfl C8
 |cons p ps =>
  cases ps with
  |nil=>exact congrArg (fun z=>[z]) hj
  |cons q r=>exact absurd (by rw[← hj,Et];exact YQ _ (Yi ..)) hc
theorem AE(x y:Str):Txt.split x y≠[]:=fun e=>absurd (PyProof.Rows.split_pos x y) (by rw[e];decide)
theorem AD{c:Nat}(hc:c∉x.cps.toList):Txt.split x ⟨#[c]⟩=[x]:=Es (AE x ⟨#[c]⟩) (StrLaws.join_split x ⟨#[c]⟩) hc
theorem Jc{c:Nat}(hx:c∉x.cps.toList)(hy:c∉y.cps.toList):Txt.split (x++⟨#[c]⟩++y) ⟨#[c]⟩=[x,y]:=by
 have hj:=StrLaws.join_split (x++⟨#[c]⟩++y) ⟨#[c]⟩;have hf:=StrLaws.split_free (x++⟨#[c]⟩++y) c;have hn:=AE (x++⟨#[c]⟩++y) ⟨#[c]⟩;generalize Txt.split (x++⟨#[c]⟩++y) ⟨#[c]⟩=ps at hj hf hn;have e0:(x++(⟨#[c]⟩:Str)++y).cps.toList=x.cps.toList++c::y.cps.toList:=by rw[eF,eF,YN];rfl
 cases ps with
 |nil=>exact absurd rfl hn
 |cons p ps =>
  have hp:=hf p (Yi ..);cases ps with
  |nil=>exact absurd (by rw[show p=_ from hj,e0];exact YQ _ (Yi ..)) hp
  |cons q r =>
   have e:=congrArg (fun z:Str=>z.cps.toList) hj;rw[Et,e0] at e;have s:=JX _ _ hp hx e;rw[qe s.1,Es (List.cons_ne_nil q r) (qe s.2) hy]
theorem xV{P m S:List Nat}(e:x.cps.toList=P++(m++S)):x.length=P.length+(m.length+S.length):=by rw[← iE,e,Yr,Yr]
theorem AL(G8:i<=j)(hj:j<=x.length):Txt.slice x (some (i:Int)) (some (j:Int))=⟨((x.cps.toList.drop i).take (j-i)).toArray⟩:=StrLaws.sliceText_nat x G8 hj
theorem Jl{P m S:List Nat}(e:x.cps.toList=P++(m++S))(hS:S.length=6):Txt.slice x (some (-6)) none=⟨S.toArray⟩:=by
 have hl:=xV e;rw[hS] at hl;have k:=eq_of_beq (PyProof.Rows.slice_closes_from_neg (x:=x) (i := -6) (a:=((P.length+m.length:Nat):Int)) (b:=(x.length:Nat)) (by decide) ⋯ ⋯ rfl);rw[k,Zb,Int.toNat_sub,e,← YN,← Yr,List.drop_left,List.take_of_length_le (by rw[Yr];omega)]
theorem Jk{P m S:List Nat}(e:x.cps.toList=P++(m++S))(hP:P.length=4)(hS:S.length=6):Txt.slice x (some 4) (some (-6))=⟨m.toArray⟩:=by
 have hl:=xV e;rw[hS,hP] at hl;have k:Txt.slice x (some 4) (some (-6))=Txt.slice x (some 4) (some (-6+x.length)):=StrLaws.sliceText_neg_hi x _ (by decide) ⋯;rw[k,show (-6+(x.length:Int))=((4+m.length:Nat):Int) from by omega];refine(AL (i:=4) (n9 ..) ⋯).trans ?_;rw[e,← hP,List.drop_left,o8,List.take_left]
theorem Jm{P m:List Nat}(e:x.cps.toList=P++m)(hP:P.length=4):Txt.slice x none (some 4)=⟨P.toArray⟩:=by
 refine(Ji x 4).trans ?_;unfold qb;rw[e,← hP,List.take_left]
theorem uN{c:Nat}(h:x.cps.toList[i]?=some c):Txt.slice x (some (i:Int)) (some ((i+1:Nat):Int))=⟨#[c]⟩:=by
 refine aq (j5.mp h) fun hl e=>?_;rw[AL (Nat.le_succ i) (by rw[← iE];exact hl),ZT hl,show i.succ-i=1 from o8 (n:=i) (m:=1),e];rfl
set_option genCtorIdx false in set_option genInjectivity false in set_option genSizeOf false in
inductive I1 where
 |star
 |rng (k a b:Nat)
 |body (c:Nat) (y:Str)
noncomputable def I1.ctorIdx(x:I1):Nat:=by cases x;exact 0;exact 1;exact 2
noncomputable abbrev DD:Str:=BY
noncomputable abbrev ee:Str:=⟨⟨[42,42,42,42,42,42,42,42,42,42,42,42,42,42,42,10]⟩⟩
noncomputable def dR(k:Nat):Str:=if k=0 then ⟨⟨[42,42,42,32,32,42,42,42,42,10]⟩⟩ else ⟨⟨[45,45,45,32,32,45,45,45,45,10]⟩⟩
noncomputable def fQ(c:Nat)(y:Str):Str:=(⟨⟨[c,32]⟩⟩:Str)++y
noncomputable def uZ(k a b:Nat):Str:=if k=0 then oU (bB a b) DD else iK (bB a b) DD
noncomputable def bS:I1->Str
 |.star=>ee
 |.rng k a b=>uZ k a b
 |.body c y=>fQ c y
noncomputable def bM(a b:Nat):List Nat:=if b-a=0 then [a] else if b-a=1 then [a+1] else [a+1,b]
noncomputable abbrev sF(n:Nat):Str:=Yn (l8 (n:Int))
def mh:I1->Prop
 |.star=>True
 |.rng k a b=>k<2/\a<=b/\b<=30
 |.body c y=>c∈[32,33,43,45]/\y∈db
noncomputable abbrev yN:Str:=LY
noncomputable abbrev FQ:Str:=LU
theorem sD(n:Nat):44∉(sF n).cps.toList:=fun h=>by
 rw[show (sF n).cps.toList=(Nat.toDigits 10 n).map Char.toNat from KIN.signs_num n] at h;refine ae (YM.mp h) fun ch hch e=>?_;have r:=PyProof.Rows.digit_range (Nat.isDigit_of_mem_toDigits (by decide) (by decide) hch);rw[e] at r;exact absurd r.1 (by decide)
theorem KP{a b:Nat}(h:a<=b):Txt.split (bB a b) FQ=(bM a b).map sF:=by
 unfold bB bM;rw[show (b:Int)-a=((b-a:Nat):Int) from(Int.ofNat_sub h).symm];by_cases h0:b-a=0
 ·rw[if_pos (show ((b-a:Nat):Int)=0 from congrArg Int.ofNat h0),if_pos h0];exact AD (sD a)
 ·rw[if_neg (show ¬ ((b-a:Nat):Int)=0 from fun q=>h0 (Int.ofNat.inj q)),if_neg h0];by_cases h1:b-a=1
  ·rw[if_pos (show ((b-a:Nat):Int)=1 from congrArg Int.ofNat h1),if_pos h1];exact AD (sD (a+1))
  ·rw[if_neg (show ¬ ((b-a:Nat):Int)=1 from fun q=>h1 (Int.ofNat.inj q)),if_neg h1];exact Jc (sD (a+1)) (sD b)
noncomputable def iw(k:Nat):List Nat:=if k=0 then [42,42,42,32] else [45,45,45,32]
noncomputable def ll(k:Nat):List Nat:=if k=0 then [32,42,42,42,42,10] else [32,45,45,45,45,10]
theorem KJ(k a b:Nat):(bS (.rng k a b)).cps.toList=iw k++((bB a b).cps.toList++ll k):=by
 show (uZ k a b).cps.toList=_;unfold uZ iw ll;split
 ·unfold oU;rw[eF,eF,eF,YN,YN,show (Yn "*** ").cps.toList=[42,42,42,32] by decide +kernel,show (Yn " ****").cps.toList=[32,42,42,42,42] by decide +kernel];rfl
 ·unfold iK;rw[eF,eF,eF,YN,YN,show (Yn "--- ").cps.toList=[45,45,45,32] by decide +kernel,show (Yn " ----").cps.toList=[32,45,45,45,45] by decide +kernel];rfl
theorem vF(k:Nat):(iw k).length=4:=by unfold iw;split <;> rfl
theorem vG(k:Nat):(ll k).length=6:=by unfold ll;split <;> rfl
theorem Sd(k:Nat):(⟨(iw k).toArray⟩:Str)++⟨(ll k).toArray⟩=dR k:=by unfold iw ll dR;split <;> rfl
structure Ċ (k a b:Nat):Prop where
 s1:Txt.slice (bS (.rng k a b)) (some 1) (some 2)≠yN
 s3:Txt.slice (bS (.rng k a b)) (some 3) (some 4)=yN
 fm:Txt.slice (bS (.rng k a b)) none (some 4)++Txt.slice (bS (.rng k a b)) (some (-6)) none=dR k
 md:Txt.slice (bS (.rng k a b)) (some 4) (some (-6))=bB a b
 l1:(bS (.rng k a b)).length<=200
theorem Bd{a b:Nat}(h:a<=b)(hb:b<=30):Ċ k a b:=by
 have e:=KJ k a b;have h1:(bS (.rng k a b)).cps.toList[1]?=some (if k=0 then 42 else 45):=by rw[e];unfold iw;split <;> rfl
 have h3:(bS (.rng k a b)).cps.toList[3]?=some 32:=by rw[e];unfold iw;split <;> rfl
 refine⟨?_,uN (i:=3) h3,?_,?_,?_⟩
 ·rw[show Txt.slice (bS (.rng k a b)) (some 1) (some 2)=_ from uN (i:=1) h1];split <;> decide
 ·rw[Jm e (vF k),Jl e (vG k)];exact Sd k
 ·exact(Jk e (vF k) (vG k)).trans (qe rfl)
 ·have:=qq (a:=a) (b:=b) (p7 a) (Int.ofNat_le.mpr h) (Int.ofNat_lt.mpr (o0 hb (by decide)));rw[xV e,vF,vG,iE];omega
theorem Uu(c:Nat)(y:Str):Txt.slice (fQ c y) (some 1) (some 2)=yN:=uN (i:=1) (by
 show ((⟨⟨[c,32]⟩⟩:Str)++y).cps.toList[1]?=_;rw[eF];rfl)
noncomputable abbrev Hf:=List Nat×List Str
set_option genInjectivity false in set_option genSizeOf false in
structure R4 where
 done:List Hf
 cur:Option Hf
 heads:List Str
noncomputable def R4.all(s:R4):List Hf:=s.done++s.cur.toList
noncomputable def dl(st:R4):I1->R4
 |.star=>⟨st.done,st.cur,st.heads++[ee]⟩
 |.rng k a b=>⟨st.all,some (bM a b,[]),st.heads++[dR k]⟩
 |.body c y=>⟨st.done,st.cur.map fun h=>(h.1,h.2++[fQ c y]),st.heads⟩
def gu:R4->List I1->Prop
 |_,[]=>True
 |st,r::rs=>mh r/\((∃c y,r=.body c y)->st.cur.isSome=true)/\gu (dl st r) rs
noncomputable def cX:List Str:=[ee,dR 0,dR 1]
def kf(hs:List Str):Prop:=hs=(Zx 0 hs.length).map (fun k=>cX.getD (k % 3) default)/\hs.length % 3=0
noncomputable abbrev dd(h:Hf):AV:=.tup [.lst ((h.1.map fun n:Nat=>(n:Int)).map .int),.lst (h.2.map .str)]
noncomputable def jS(P p hd:YV)(st:R4):aa:=match st.cur with
 |none=>[(P,.list (st.done.map dd)),(hd,.list (st.heads.map .str))]
 |some h=>[(p,.list (h.2.map .str)),(P,.list (st.done.map dd++[.tup [.lst ((h.1.map fun n:Nat=>(n:Int)).map .int),.ref p]])),(hd,.list (st.heads.map .str))]
theorem T.freezeG{rel:u6->α->β->Prop}{t:Sem β}{b:YV}{Ç:List AV}{led:aa}{K:α->St->Prop}(hr:∀Z vs,Val Z (.lst xs) (.ref a)->Vals Z ys vs->Vals Z Ç vs)
  (h:T vv w A B s9 rel t ⟨loc,(b,.list Ç)::led⟩ K):T vv w A B s9 rel t ⟨loc,(a,.list xs)::(b,.list ys)::led⟩ K:=fun s Z S Q E hQ=>by
 obtain⟨Z',S',V,le,X⟩:=S.tot8.freeze;have SF:=S.after S' X;have S2:t8 B s Z' ((b,.list Ç)::led):=⟨S'.base,S'.frozen,S'.nodup,s7.mpr ⟨S'.apart (b,.list ys) (Yi ..),fun p hp=>S'.apart p (Yk _ hp)⟩,
  s7.mpr ⟨bK (S'.own (b,.list ys) (Yi ..)) fun items n g v=>⟨items,n,g,hr _ _ V v⟩,fun p hp=>S'.own p (Yk _ hp)⟩,S'.gnodup,S'.bare⟩
 have X2:y8 (aD s9 ⟨loc,(a,.list xs)::(b,.list ys)::led⟩) s Z s Z' (aD s9 ⟨loc,(b,.list Ç)::led⟩):=X.toF (st:=⟨loc,(a,.list xs)::(b,.list ys)::led⟩);exact h s Z' ⟨S2,SF.locZ,SF.locL,SF.loc,SF.kinds,SF.fn⟩ Q E fun v x s' E8 t5 k D7 V' X'=>hQ v x s' E8 t5 k D7 V' (X2.trans X')
theorem Ih{zs:List AV}(k:∀x,Val Z u x->Val Z v x):∀ {vs:List Value},Vals Z (zs++[u]) vs->Vals Z (zs++[v]) vs:=by
 induction zs with
 |nil=>exact fun h=>Vals.un (P:=Vals Z [v]) (fun x hx=>Vals.un0 (.cons (k x hx) .nil)) _ h
 |cons z zs ih=>exact fun h=>Vals.un (P:=Vals Z (z::zs++[v])) (fun x hx ys Υ => .cons hx (ih Υ)) _ h
theorem Ip(V:Val Z (.lst xs) (.ref a))(x:Value)(h:Val Z (.tup [u,.ref a]) x):Val Z (.tup [u,.lst xs]) x :=
 Val.eTup (P:=Val Z (.tup [u,.lst xs])) (fun b items n e vs => .tup e (Vals.un2 (P:=Vals Z [u,.lst xs]) (fun y hy z hz => .cons hy (.cons ((show z=.ref a from Val.inv (v:=.ref a) hz)▸V) .nil)) _ vs)) x h
theorem T.hFreeze{rel:u6->α->β->Prop}{t:Sem β}{P p hd:YV}{st:R4}{rest:aa}{K:α->St->Prop}
  (h:T vv w A B s9 rel t ⟨loc,(P,.list (st.all.map dd))::(hd,.list (st.heads.map .str))::rest⟩ K):T vv w A B s9 rel t ⟨loc,jS P p hd st++rest⟩ K:=by
 obtain⟨d,c,hs⟩:=st;cases c with
 |none =>
  rw[show (⟨d,none,hs⟩:R4).all=d from Zv d] at h;exact h
 |some q =>
  refine T.freezeG (Ç:=d.map dd++[dd q]) (fun Z vs V v=>Ih (Ip V) v) ?_;rw[show (⟨d,some q,hs⟩:R4).all=d++[q] from rfl,YK] at h;exact h
theorem qg{xs:List Str}:xs.map AV.str++[.str y]=(xs++[y]).map .str:=by rw[YK];rfl
theorem Jf:Slot "str" LV "str.split" := by
 rw[show (LV:Str)=Yn "split" from by decide +kernel];exact F.slot_str_split
def Yd(n:Nat)(st:R4):Prop:=st.all.length<=n/\st.heads.length<=n/\(st.cur.map (·.2.length)).getD 0<=n
theorem lJ{f:α->β}{xs:List α}(h:xs.length<=n):(xs.map f).length<=n:=(Yl ..).symm▸h
theorem tI{xs:List α}{y:α}(h:xs.length<=n):(xs++[y]).length<=n+1:=Yr▸p8 h
section
variable(rows:List Str)(P hd cf:YV)(fin:R4)(l0 gl:aa)
noncomputable abbrev sW(pa h r:AV:=.any):List (Str×AV):=[(Mc,.lst (rows.map .str)),(Mb,pa),(Ma,h),(LZ,r)]
def GN(rs:List I1)(Q:St->Prop):Prop:=∀st p n,rs.foldl dl st=fin->gu st rs->Yd n st->n+rs.length<=10^4->Q ⟨sW rows (.ref P) (.ref hd),jS P p hd st++((cf,fo)::l0)⟩
def Wi(Q:St->Prop):Prop:=∀p,Q ⟨sW rows (.ref P) (.ref hd),jS P p hd fin++((cf,fo)::l0)⟩
end
theorem Nw(x y:Str):(Builtin.Str.partsBetween x (Builtin.Str.occurrences x y 0 x.length (x.length+1)) y.length).length<=x.length+2:=by
 rw[PyProof.Rows.len_partsBetween]
 have:=StrLaws.occ_length_le x y 0 x.length (x.length+1);omega
theorem On(a b:Nat):(bM a b).length<=2:=by unfold bM;split;exact ZB rfl;split <;> exact ZB rfl
theorem Oo{a b:Nat}(hb:b<=30)(W9:a<=b):∀n∈bM a b,n<=31:=by
 unfold bM;split
 ·exact fun n h=>by rw[YB.mp h];omega
 ·split
  ·exact fun n h=>by rw[YB.mp h];omega
  ·exact fun n h=>(Yp.mp h).elim (fun e=>by rw[e];omega) fun h=>by rw[YB.mp h];omega
theorem QR(rs:List I1):∀st:R4,(rs.foldl dl st).heads.length<=st.heads.length+rs.length:=by
 induction rs with
 |nil=>exact fun O=>YR _
 |cons r rs ih =>
  intro st;refine Zg (ih (dl st r)) ?_;have h:(dl st r).heads.length<=st.heads.length+1:=by
   cases r with
   |body c y=>exact Nat.le_succ _
   |_=>exact o5 (Yr ..)
  rw[Yq];omega
theorem Ky{r:I1}(h:mh r):(bS r).length<=200:=by
 cases r with
 |star=>exact ZB rfl
 |rng k a b=>exact(Bd h.2.1 h.2.2).l1
 |body c y =>
  have:∀z∈db,z.length<=11:=by decide
  have:=this y h.2;show (fQ c y).length<=200;unfold fQ;rw[Str.length_append,show (⟨⟨[c,32]⟩⟩:Str).length=2 from rfl];omega
theorem PU{rows:List Str}{items:List I1}{led:aa}(hA:w0 A 30)(y4:rows.length<=10^4)(hr:rows.drop 2=items.map bS)(W6:gu ⟨[],none,[]⟩ items)(hhd:kf (items.foldl dl ⟨[],none,[]⟩).heads) :
  TC ak w A (al w) (.ref 283) [.lst (rows.map .str)] [] led fun v led'=>led'=led/\v=.lst ((items.foldl dl ⟨[],none,[]⟩).all.map dd):=by
 refine TC.weak (tO [LS] (binds:=[(Mc,.lst (rows.map .str))]) (o:=jA w.params) (fd:=aA (jA w.params)) (body:=cg (aS 12)) (c:=282) (oc:=nS w.params) (vs:=eC (nS w.params)) (tq:=mB ((eC (nS w.params)).getD 1 .none)) (cL w)
  @_ @_ @_ @_ @_ @_ (fun n=>@_) (by decide) @_ @_ @_ @_ @_ hA.lt (Binds.of1 fun Z v1 h1=>⟨_,@_,.cons h1 .nil⟩) (s7.mpr ⟨@_,aG⟩) fun L cf=>?_)
 have u9:=hA.deeper (k:=27) (s9:=cY (jA w.params) 283 L [(LS,cf)]);have hh:=u9.h;have hG:=(((ce (vv:=ak) (w:=w) (B:=al w) (A:=A.deeper (cY (jA w.params) 283 L [(LS,cf)])) (s9:=cY (jA w.params) 283 L [(LS,cf)]) @_ @_ @_ @_ hh).g (gw w) @_ @_).g (oS w) @_ @_).m ⟨Li,1, "list.append"⟩ F.plainAttrs_list jc F.type_list_append;have Η:=hG.m ⟨LV,0, "str.split"⟩ F.plainAttrs_str Jf F.type_str_split;refine T.spares [Mb,Ma,LZ] @_ ?_;generalize V_:items.foldl dl ⟨[],none,[]⟩=fin at hhd;refine ah (aF hG 20 (t6.mk (dq rfl fun P hP=>?_)));refine ah (aF hG 20 (t6.mk (dq rfl fun hd hhd2=>?_)));refine T.perm (l':=jS P 0 hd ⟨[],none,[]⟩++((cf,fo)::led)) (c0 _ _ _) ?_;refine ah (T.join (Wi rows P hd cf fin led) (jY (k:=5) (fun r=>AV.str (bS r)) (GN rows P hd cf fin led) (u9.mono ⋯) (fT (i:=some ((2:Nat):Int)) (j:=none) (ad hG 5 ⟨rfl,rfl⟩) (bd (ad hG 5 ⟨rfl,rfl⟩)) (cO ⟨rfl,rfl⟩) .frz (by rw[Yl,ZD];omega) (iz 2) ?_) ?_ (fun st p n e O O O=>Nx.mkE (fun O q=>q p) (by rw[show st=fin from e]) @_) (fun O=>@_)) fun p=>?_)
 ·have hi:=congrArg k9 hr;rw[Yl,p9] at hi;rw[← List.map_drop,hr,ZR];exact eJ (k:=5) fun it gl hI => .mk hI (.mk (gs:=items) (fun O q=>q _ 0 0 V_ W6 ⟨YR _,YR _,YR _⟩ ((r0 _).symm▸Zg (o5 hi.symm) (Zg (r7 ..) y4))) @_)
 ·intro gl r rs st p n he hk hb hsz;have P8:=hk.1;have hl:=Ky P8;have N7:(bS r).length<=Zc:=Zg hl (by decide);have H4:n<=Zc:=Zg (Zg (n9 ..) hsz) (by decide);have U5:n+1+rs.length<=10^4:=(o4 n rs.length)▸hsz;refine⟨rfl,?_⟩;cases r with
  |body c y =>
   refine bD hG 40 (t6.mk (gH (x:=fQ c y) (i:=some 1) (j:=some 2) (ad hG 5 ⟨rfl,rfl⟩) (bd (ad hG 5 ⟨rfl,rfl⟩)) (bd (ad hG 5 ⟨rfl,rfl⟩)) N7 ?_));rw[Uu];obtain⟨d,cu,hs⟩:=st;cases cu with
   |none=>exact nomatch hk.2.1 ⟨c,y,rfl⟩
   |some h =>
    obtain⟨ns,ν⟩:=h;refine⟨.mk list_getitem_lookup (br (by repeat constructor)),t6.mk (mw (xs:=d.map dd) (.own (by repeat constructor)) rfl (o0 (lJ (Zg (Zg (n9 ..) (o5 (Yr (as:=d) (bs:=[(ns,ν)])).symm)) (Zg hb.1 H4))) (by decide)) ?_)⟩;refine t6.mk (fw (x:=.ref p) (by decide) (by decide) rfl ?_);refine⟨br (.head _),t6.mk (ik (xs:=ν.map .str) (ys:=(ν++[fQ c y]).map .str) qg .here (lJ (Zg hb.2.2 H4)) ?_)⟩;exact .next (l:=jS P p hd ⟨d,some (ns,ν++[fQ c y]),hs⟩++((cf,fo)::led)) (.mk (gs:=rs) (fun O q=>q ⟨d,some (ns,ν++[fQ c y]),hs⟩ p (n+1) he hk.2.2 ⟨r9 (Zg (o5 ((Yr (as:=d) (bs:=[(ns,ν++[fQ c y])])).trans (Yr (as:=d) (bs:=[(ns,ν)])).symm)) hb.1),r9 hb.2.1,tI hb.2.2⟩ U5) @_)
  |star =>
   refine bD hG 40 (t6.mk (gH (x:=ee) (i:=some 1) (j:=some 2) (ad hG 5 ⟨rfl,rfl⟩) (bd (ad hG 5 ⟨rfl,rfl⟩)) (bd (ad hG 5 ⟨rfl,rfl⟩)) N7 ?_));refine t6.mk (gH (x:=ee) (i:=some 3) (j:=some 4) (ad hG 5 ⟨rfl,rfl⟩) (bd (ad hG 5 ⟨rfl,rfl⟩)) (bd (ad hG 5 ⟨rfl,rfl⟩)) N7 ?_);obtain⟨d,cu,hs⟩:=st;have fin2:∀l,J7 (Lo (fun r=>AV.str (bS r)) (GN rows P hd cf fin led)) l (rs.map fun r=>AV.str (bS r)) gl .next ⟨sW rows (.ref P) (.ref hd) (.str ee),(jS P p hd ⟨d,cu,hs++[ee]⟩++((cf,fo)::led))++gl⟩:=fun l =>
    .next (.mk (gs:=rs) (fun O q=>q ⟨d,cu,hs++[ee]⟩ p (n+1) he hk.2.2 ⟨r9 hb.1,tI hb.2.1,r9 hb.2.2⟩ U5) @_)
   cases cu with
   |none=>exact⟨br (by repeat constructor),t6.mk (ik (xs:=hs.map .str) (ys:=(hs++[ee]).map .str) qg (.there .here) (lJ (Zg hb.2.1 H4)) (fin2 _))⟩
   |some h=>exact⟨br (by repeat constructor),t6.mk (ik (xs:=hs.map .str) (ys:=(hs++[ee]).map .str) qg (.there (.there .here)) (lJ (Zg hb.2.1 H4)) (fin2 _))⟩
  |rng k a b =>
   have ok:=Bd (k:=k) P8.2.1 P8.2.2;have hm:(bB a b).length<100:=qq (p7 a) (Int.ofNat_le.mpr P8.2.1) (Int.ofNat_lt.mpr (o0 P8.2.2 (by decide)));refine(YN .. ▸ T.hFreeze ?_);refine bD Η 60 (t6.mk (gH (x:=bS (.rng k a b)) (i:=some 1) (j:=some 2) (ad hG 5 ⟨rfl,rfl⟩) (bd (ad hG 5 ⟨rfl,rfl⟩)) (bd (ad hG 5 ⟨rfl,rfl⟩)) N7 ?_));refine cU (fun q=>?_) fun O=>?_
   ·exact absurd (beq_iff_eq.mp q) ok.s1
   refine t6.mk (gH (x:=bS (.rng k a b)) (i:=some 3) (j:=some 4) (ad hG 5 ⟨rfl,rfl⟩) (bd (ad hG 5 ⟨rfl,rfl⟩)) (bd (ad hG 5 ⟨rfl,rfl⟩)) N7 ?_);rw[ok.s3];refine⟨br (by repeat constructor),t6.mk (gH (x:=bS (.rng k a b)) (i:=none) (j:=some 4) (ad hG 5 ⟨rfl,rfl⟩) (cO ⟨rfl,rfl⟩) (bd (ad hG 5 ⟨rfl,rfl⟩)) N7 ?_)⟩;refine t6.mk (gH (x:=bS (.rng k a b)) (i:=some (-6)) (j:=none) (ad hG 5 ⟨rfl,rfl⟩) (bd (ad hG 5 ⟨rfl,rfl⟩)) (cO ⟨rfl,rfl⟩) N7 ?_);refine t6.mk (tT (o0 (r8 (Zg (Txt.slice_le ..) hl) (Zg (Txt.slice_le ..) hl)) (by decide)) ?_);rw[ok.fm];refine t6.mk (ik (xs:=st.heads.map .str) (ys:=(st.heads++[dR k]).map .str) qg (.there .here) (lJ (Zg hb.2.1 H4)) ?_);refine⟨br (by repeat constructor),t6.mk (T.frz (kc (k:=5) (N:=[]) (cl:=[]) (J:=fun loc=>∃v,loc=[(LW,v)]) [LW] (u9.mono ⋯) (m8 (by decide)) @_ @_ @_ @_ (fun O=>@_) ⟨_,rfl⟩ (ad Η 40 ?_)))⟩;refine t6.mk (gH (x:=bS (.rng k a b)) (i:=some 4) (j:=some (-6)) (ad hG 5 ⟨rfl,rfl⟩) (bd (ad hG 5 ⟨rfl,rfl⟩)) (bd (ad hG 5 ⟨rfl,rfl⟩)) N7 ?_);rw[ok.md];refine t6.mk (WE (y:=FQ) rfl (Zg (a6 hm) (by decide)) ?_ ?_)
   ·exact Zg (Nw _ _) (Zg (r6 (a6 hm) 2) (by decide))
   rw[KP P8.2.1,ZR];refine lY (f:=fun n:Nat=>AV.str (sF n)) (g:=fun n:Nat=>some (.int (n:Nat))) (ys:=((bM a b).map fun n:Nat=>(n:Int)).map .int) (iq AV.int (fun n:Nat=>(n:Int)) _) ?_ aG (fun L2 m T_=>?_) fun D hD=>⟨_,_,_,rfl,rfl,?_⟩
   ·exact Zg (On a b) (by decide)
   ·refine fZ fun v led' A8=>?_;have hn:=Oo P8.2.2 P8.2.1 m T_;exact bX (bc rfl (gZ (ad ((ce @_ @_ @_ @_ hh).g (RL w) @_ @_) 20 (t6.mk (WR (p7 m) (Int.ofNat_lt.mpr (o0 hn (by decide))) ⟨rfl,rfl,_,rfl⟩)))))
   refine t6.mk (dq rfl fun p' hp'=>?_);refine t6.mk (eH (xs:=st.all.map dd) (.there .here) (lJ (Zg hb.1 H4)) ?_);refine .next (l:=jS P p' hd ⟨st.all,some (bM a b,[]),st.heads++[dR k]⟩++((cf,fo)::led)) (.mk (gs:=rs) (fun O q=>q ⟨st.all,some (bM a b,[]),st.heads++[dR k]⟩ p' (n+1) he hk.2.2 ⟨tI hb.1,tI hb.2.1,YD _⟩ U5) @_)
 ·refine T.hFreeze ?_;have hz:fin.heads.length<=10^5:=by
   rw[← V_];exact Zg (QR items _) (by have hi:=congrArg k9 hr;rw[Yl,p9] at hi;show 0+_<=_;omega)
  refine ah (cH rfl rfl rfl (T.frz (fu (cR hG 5 ?_))));refine⟨ZB rfl,fun n hn=>⟨_,_,_,rfl,rfl,ea (v:=.lst (cX.map .str)) @_ gm (.there (.there .here)) ?_⟩⟩;refine ah (aF hG 40 (t6.mk (T.frz (kc (k:=5) (N:=[(cf,aU (.lst (cX.map .str)))]) (cl:=[(LS,cf)]) (J:=fun loc=>∃v,loc=[(q1,v)]) [q1] (u9.mono ⋯) @_ @_ @_ @_ @_ (fun O=>@_) ⟨_,rfl⟩ (ad hG 20 ?_)))));refine t6.mk (du (xs:=fin.heads.map .str) (.own (.tail _ (.head _))) (Yl ..) ⋯ ?_);refine t6.mk (kg (oZ (g:=fun k=>some (.str (cX.getD (k % 3) default))) (iq AV.str (fun k:Nat=>cX.getD (k % 3) default) _) ⋯ (s7.mpr ⟨.tail _ (.tail _ (.head _)),aG⟩) (fun L2 m hm=>?_) fun D hD=>⟨_,_,_,rfl,rfl,?_⟩))
  ·refine fZ fun v led' A8=>?_;have h3:=Nat.mod_lt m (show 3 > 0 by decide);refine bX (bc rfl (gZ (ad (ce @_ @_ @_ @_ hh) 20 (aP (v:=.lst (cX.map .str)) @_ (A8 _ (.head _)) (t6.mk (Hc (a:=m) (b:=3) (by decide) (t6.mk (bG (x:=.str (cX.getD (m % 3) default)) .frz (p7 _) ⋯ ?_ ⟨rfl,rfl,_,rfl⟩))))))));rw[Zb,Ze,List.getD_eq_getElem?_getD,YL (show m % 3<cX.length from h3)];rfl
  ·refine t6.mk (zq (f:=AV.str) fO (as:=fin.heads) (bs:=(Zx 0 fin.heads.length).map fun k=>cX.getD (k % 3) default) (u9.mono ⋯) (.own (.tail _ (.head _))) .frz (cU (fun q=>?_) fun q=>?_))
   ·rw[decide_eq_true hhd.1] at q;exact nomatch q
   ·refine t6.mk (du (xs:=fin.heads.map .str) (.own (.tail _ (.head _))) (Yl ..) ⋯ ?_);refine t6.mk (Hc (a:=fin.heads.length) (b:=3) (by decide) (qH (fun q=>?_) fun q=>?_))
    ·exact absurd (congrArg Int.ofNat hhd.2) q
    ·refine T.freeze (a:=P) (xs:=fin.all.map dd) (w6:=sW rows (.lst (fin.all.map dd)) (.ref hd)) (by repeat constructor) ?_;exact bD hG 20 ⟨led,⟨[_,_],.refl _⟩,rfl,rfl⟩
noncomputable abbrev aC:=Nat×Str
noncomputable abbrev aJ(r:aC):Str:=fQ r.1 r.2
set_option genInjectivity false in set_option genSizeOf false in
structure B6 where
 i1:Nat
 i2:Nat
 j1:Nat
 j2:Nat
 old:List aC
 new:List aC
noncomputable def dB(rs:List aC):List aC:=rs.filter fun r=>r.1==32
noncomputable def bZ(g:B6):List aC:=if g.old=[] then dB g.new else g.old
noncomputable def da(g:B6):List aC:=if g.new=[] then dB (bZ g) else g.new
noncomputable def aO(v:Nat)(af:List ag):List aC->List ag×List aC
 | []=>(af,[])
 |r::rs=>if r.1=32 then (af,r::rs) else aO v (af++[(r.2,[(v:Int),(af.length:Int)])]) rs
set_option genInjectivity false in set_option genSizeOf false in
structure N6 where
 pos:Nat
 after:List ag
 gone:List ag
 new:List aC
noncomputable def dw(x:ag)(v:Nat):ag:=(x.1,x.2++[(v:Int)])
noncomputable def cK(now:List ag)(v:Nat)(st:N6)(r:aC):N6 :=
 if r.1=32 then ⟨st.pos+1,(aO v st.after st.new).1++[now.getD st.pos default],st.gone,(aO v st.after st.new).2.tail⟩
 else ⟨st.pos+1,st.after,st.gone++[dw (now.getD st.pos default) v],st.new⟩
def lr(now:List ag)(v:Nat):N6->List aC->Prop
 |_,[]=>True
 |st,r::rs=>((∃x,now[st.pos]?=some x/\x.1=r.2)/\(r.1=32->∃us,(aO v st.after st.new).2=r::us))/\lr now v (cK now v st r) rs
set_option genInjectivity false in set_option genSizeOf false in
structure V9 where
 pos:Int
 after:List ag
 gone:List ag
noncomputable def gy(now:List ag)(st:V9)(g:B6):List ag:=st.after++(now.drop st.pos.toNat).take (g.i1-st.pos.toNat)
noncomputable def iJ(now:List ag)(v:Nat)(st:V9)(g:B6):N6:=(bZ g).foldl (cK now v) ⟨g.i1,gy now st g,st.gone,da g⟩
noncomputable def cn(now:List ag)(v:Nat)(st:V9)(g:B6):V9:=⟨(iJ now v st g).pos,(aO v (iJ now v st g).after (iJ now v st g).new).1,(iJ now v st g).gone⟩
structure Ο (now:List ag) (v:Nat) (st:V9) (g:B6):Prop where
 some1:g.old≠[]∨g.new≠[]
 len1:g.i1+(bZ g).length=g.i2
 len2:g.j1+(da g).length=g.j2
 lt:st.pos<g.i1
 pre:(gy now st g).length=g.j1
 ok:lr now v ⟨g.i1,gy now st g,st.gone,da g⟩ (bZ g)
 rest:∀r∈(iJ now v st g).new,r.1≠32
 z1:st.after.length<=100
 z2:st.gone.length<=100
 z3:g.old.length<=100
 z4:g.new.length<=100
 z5:∀r∈g.old++g.new,r.2.length<=100
def jT(now:List ag)(v:Nat):V9->List B6->Prop
 |_,[]=>True
 |st,g::gs=>Ο now v st g/\jT now v (cn now v st g) gs
noncomputable def fK(g:B6):List Hf:=[(bM g.i1 g.i2,g.old.map aJ),(bM g.j1 g.j2,g.new.map aJ)]
noncomputable abbrev Hr:=List Nat×List aC
noncomputable abbrev QK(h:Hr):AV:=dd (h.1,h.2.map aJ)
noncomputable abbrev lV(g:B6):AV:=dd (bM g.i1 g.i2,g.old.map aJ)
noncomputable abbrev lU(g:B6):AV:=dd (bM g.j1 g.j2,g.new.map aJ)
noncomputable abbrev yt(g:B6):AV:=.tup [lV g,lU g]
theorem Tg(gs:List B6):eE ((gs.flatMap fK).map dd)=gs.map lV:=by
 induction gs with
 |nil=>rfl
 |cons g gs ih=>exact congrArg (lV g :: ·) ih
theorem Tf(gs:List B6):eE (((gs.flatMap fK).map dd).drop 1)=gs.map lU:=by
 induction gs with
 |nil=>rfl
 |cons g gs ih =>
  cases gs with
  |nil=>rfl
  |cons g' gs=>exact congrArg (lU g :: ·) ih
theorem Nk(gs:List B6):fV ((gs.flatMap fK).map dd) (gs.map lU) (some 1) none (some 2):=by
 rw[← Tf];cases gs with
 |nil=>exact Ni
 |cons g gs=>exact Nj (p8 (YD _))
theorem Nn(gs:List B6):fV ((gs.flatMap fK).map dd) (gs.map lV) none none (some 2):=Tg gs▸Nm
theorem Hu(gs:List B6):pJ (gs.map lV) (gs.map lU)=gs.map yt:=by
 induction gs with
 |nil=>rfl
 |cons g gs ih=>exact congrArg (yt g :: ·) ih
theorem SD(gs:List B6):(gs.flatMap fK).length=2 * gs.length:=by
 induction gs with
 |nil=>rfl
 |cons g gs ih=>rw[o7,Yr,ih,Yq,show (fK g).length=2 from rfl];omega
structure κ (l:List Nat) (a n:Nat):Prop where
 last:∃xs y,(l.map fun n:Nat=>(n:Int))=xs++[y]/\xs.length<2/\y-((a+min n 1:Nat):Int)=max ((n:Int)-1) 0
 head:((l.map fun n:Nat=>(n:Int)).map AV.int)[0]?=some (.int ((a+min n 1:Nat):Int))
 len:1<l.length↔1<n
 le:l.length<=2
theorem Fw{a b:Nat}(h:a+n=b):κ (bM a b) a n:=by
 subst h;unfold bM;rw[o8];by_cases h0:n=0
 ·subst h0;exact⟨⟨[],(a:Int),rfl,ZB rfl,Int.sub_self _⟩,rfl,⟨nofun,nofun⟩,ZB rfl⟩
 ·rw[if_neg h0];by_cases h1:n=1
  ·subst h1;exact⟨⟨[],((a+1:Nat):Int),rfl,ZB rfl,Int.sub_self _⟩,rfl,Iff.rfl,ZB rfl⟩
  ·rw[if_neg h1];have m1:min n 1=1:=Nat.min_eq_right ⋯;refine⟨⟨[((a+1:Nat):Int)],((a+n:Nat):Int),rfl,ZB rfl,?_⟩,?_,?_,ZB rfl⟩
   ·rw[m1];cases n with
    |zero=>exact absurd rfl h0
    |succ m =>
     rw[show (((m+1:Nat):Int))-1=m from Int.add_sub_cancel (m:Int) 1,Int.max_eq_left (p7 m),show ((a+(m+1):Nat):Int)=m+((a+1:Nat):Int) from congrArg Int.ofNat (Nat.add_left_comm a m 1)];exact Int.add_sub_cancel (m:Int) _
   ·rw[m1];rfl
   ·exact⟨fun O=>by omega,fun O=>ZB rfl⟩
theorem FY(rs:List aC):(dB rs).length<=rs.length:=List.length_filter_le ..
theorem CS{g:B6}(h1:g.old.length<=100)(h2:g.new.length<=100):(bZ g).length<=100:=by
 unfold bZ;split
 ·exact Zg (FY _) h2
 ·exact h1
theorem Oy{g:B6}(h1:g.old.length<=100)(h2:g.new.length<=100):(da g).length<=100:=by
 unfold da;split
 ·exact Zg (FY _) (CS h1 h2)
 ·exact h2
theorem CR{g:B6}{r:aC}(h:r∈bZ g):r∈g.old++g.new:=by
 unfold bZ at h;split at h
 ·exact YQ _ ((c7.mp h).1)
 ·exact Zq _ h
theorem Ox{g:B6}{r:aC}(h:r∈da g):r∈g.old++g.new:=by
 unfold da at h;split at h
 ·exact CR ((c7.mp h).1)
 ·exact YQ _ h
theorem UA(rs:List aC):(rs.map fun r=>if r.1=32 then some (AV.str (aJ r)) else none).filterMap id=((dB rs).map aJ).map .str:=by
 unfold dB;induction rs with
 |nil=>rfl
 |cons r rs ih =>
  by_cases h:r.1=32
  ·rw[Yu,if_pos h,show List.filter (fun r:aC=>r.1==32) (r::rs)=r::List.filter (fun r:aC=>r.1==32) rs from List.filter_cons_of_pos (beq_iff_eq.mpr h)];exact congrArg (AV.str (aJ r) :: ·) ih
  ·rw[Yu,if_neg h,show List.filter (fun r:aC=>r.1==32) (r::rs)=List.filter (fun r:aC=>r.1==32) rs from List.filter_cons_of_neg fun q=>h (beq_iff_eq.mp q)];exact ih
theorem kG(r:aC):(aJ r).cps.toList[0]?=some r.1:=by
 show ((⟨⟨[r.1,32]⟩⟩:Str)++r.2).cps.toList[0]?=_;rw[eF];rfl
theorem uW(r:aC):Txt.slice (aJ r) (some 2) none=r.2:=(Jn (aJ r) 2).trans (qe (by
 show ((⟨⟨[r.1,32]⟩⟩:Str)++r.2).cps.toList.drop 2=_;rw[eF];rfl))
theorem uU{r:aC}(h:r.2.length<=100):(aJ r).length<=Zc:=by
 have:(aJ r).length=2+r.2.length:=Str.length_append ..;rw[this,ZD];omega
theorem mP{c d:Nat}(q:((⟨#[c]⟩:Str)==⟨⟨[d]⟩⟩)=true):c=d:=by
 have q:=beq_iff_eq.mp q;injection q with q
 exact(c9 (Array.mk.inj q)).1
theorem qJ{c d:Nat}(q:((⟨#[c]⟩:Str)==⟨⟨[d]⟩⟩)=false):c≠d:=fun e=>by
 subst e;exact nomatch (beq_self_eq_true (⟨#[c]⟩:Str)).symm.trans q
theorem NU{c d:Nat}{Q:Prop}(h1:c=d->P)(h2:c≠d->Q):pk ((⟨#[c]⟩:Str)==⟨⟨[d]⟩⟩) P Q:=cU (fun q=>h1 (mP q)) fun q=>h2 (qJ q)
theorem I9{f:α->β}{xs:List α}(h:xs.map f=[]):xs=[]:=List.map_eq_nil_iff.mp h
theorem zp[DecidableEq β]{f:β->AV}(hf:iS f){as bs:List β}(hA:w0 A 1)(hl:w9 st.led v (as.map f))(hr:w9 st.led u (bs.map f))(e:as=bs)(h:K (.bool false) st) :
  F2 vv w A B s9 Val (g5 .NotEq) v u st K:=zq hf hA hl hr (by rw[decide_eq_true e];exact h)
theorem Hb{p q:Prop}[Decidable p][Decidable q](e:p↔q)(h:K (.bool false) st):F2 vv w A B s9 Val (g5 .NotEq) (.bool (decide p)) (.bool (decide q)) st K :=
 Xr (by rw[show decide p=decide q from decide_eq_decide.mpr e,beq_self_eq_true];exact h)
theorem mc{B1:Expr}{K:u7->St->Prop}(h:T vv w A B s9 aM (isTrue B1 s9 (ZI B1 s9)) st fun b s=>b=false/\s=st)(k:K .next st):T vv w A B s9 y0 (exec (.If B1 body [] pos) s9) st K :=
 jX (T.to false h (by rw[if_neg Zd];exact bP k))
theorem tM{t:Sem Flow}{K:u7->St->Prop}(h:T vv w A B s9 y0 t st fun f t5=>f=.next/\∃a xs loc w6 led',t5=⟨loc,(a,.list xs)::led'⟩/\A9 a xs loc w6/\K .next ⟨w6,led'⟩):T vv w A B s9 y0 t st K:=fun s Z S Q E hQ =>
 h s Z S Q E fun v x s' Z' t5 k S' V X=>by
  obtain⟨rfl,a,xs,loc,w6,led',rfl,hr,k⟩:=k;refine aZ (S'.freeze hr) fun E8 D7 V'' L4=>?_;cases V
  exact hQ _ _ _ _ _ k D7 .next (X.trans L4)
theorem FK{rs:List aC}{scope:Scope}{vars:List Str}{K:List AV->St->Prop}(hsz:rs.length<=100)
  (hs:∀L,∀r∈rs,im vv w A B (compEnvC scope [] L s9) t0 elt F0 [] J (.str (aJ r)) (if r.1=32 then some (.str (aJ r)) else none)) (h:K (((dB rs).map aJ).map .str) st) :
  F1 vv w A B s9 Val pyIter (.lst ((rs.map aJ).map .str)) st fun u A5=>pI vv w A B s9 k [] vars scope [] elt t0 F0 J K u A5:=by
 rw[ZR];exact lY (f:=fun r:aC=>AV.str (aJ r)) (g:=fun r:aC=>if r.1=32 then some (AV.str (aJ r)) else none) (UA _) (by rw[ZD];omega) aG hs h
theorem WZ{zs:List AV}{led':aa}(hl:w9 st.led v ys)(hsz:xs.length+ys.length<=2^20)(e:xs++ys=zs)(U:Upd a (.list xs) (.list zs) st.led led')(h:K .none ⟨st.loc,led'⟩) :
  FC vv w A B s9 (.blt "list.extend") [.ref a,v] [] st K:=by subst e;exact Xc hl hsz U h
theorem Xp[DecidableEq β]{f:β->AV}(hf:iS f){as bs:List β}(hA:w0 A 1)(hl:w9 st.led v (as.map f))(hr:w9 st.led u (bs.map f))(e:as≠bs)(h:K (.bool true) st) :
  F2 vv w A B s9 Val (g5 .NotEq) v u st K:=zq hf hA hl hr (by rw[decide_eq_false e];exact h)
theorem CO{c d:Nat}{Q:Prop}(h1:c≠d->P)(h2:c=d->Q):pk ((⟨#[c]⟩:Str) != ⟨⟨[d]⟩⟩) P Q:=cU (fun q=>h1 (qJ (bne_iff_ne.mp q |> beq_eq_false_iff_ne.mpr))) fun q=>h2 (mP (beq_iff_eq.mpr (bne_eq_false_iff_eq.mp q)))
theorem Ap(a n:Nat):((a+min n 1:Nat):Int)-min (n:Int) 1=(a:Nat):=by
 cases n with
 |zero=>rfl
 |succ n=>rw[Nat.min_eq_right (p8 (YD n)),Int.min_eq_right (show (1:Int)<=((n+1:Nat):Int) from Int.ofNat_le.mpr (p8 (YD n)))];exact Int.add_sub_cancel (a:Int) 1
theorem Aq{Γ:Ctx}{a b c:Int}(e:a-b=c)(h:K (.int c) st):uE Γ .Sub (.int a) (.int b) K st:=by subst e;exact h
theorem MZ(now:List ag)(st:V9)(g:B6):st.after.map az++((now.map az).drop st.pos.toNat).take (g.i1-st.pos.toNat)=(gy now st g).map az:=by
 rw[gy,YK,List.map_take,List.map_drop]
theorem NR{now:List ag}{p:Nat}{y:ag}(h:now[p]?=some y):((now.map az).drop p).take (p+1-p)=[y].map az:=by
 have C5:=(j5.mp h).1;have e:=(j5.mp h).2;rw[← List.map_drop,ZT C5,e,o8];rfl
theorem qf(af:List ag)(x:ag):af.map az++[az x]=(af++[x]).map az:=by rw[YK];rfl
theorem zV(y:ag)(v:Nat):AV.tup ((AV.str y.1::y.2.map .int)++[.int (v:Nat)])=az (dw y v):=by
 unfold az dw;rw[YK];rfl
theorem Ag(v:Nat)(rs:List aC):∀af:List ag,(aO v af rs).1.length+(aO v af rs).2.length=af.length+rs.length:=by
 induction rs with
 |nil=>exact fun af=>rfl
 |cons r rs ih =>
  intro af;by_cases h:r.1=32
  ·rw[show aO v af (r::rs)=(af,r::rs) from if_pos h]
  ·rw[show aO v af (r::rs)=aO v (af++[_]) rs from if_neg h,ih,Yr,d9,Yq];omega
theorem ID{v:Nat}{r:aC}(rs:List aC):∀ {af:List ag},r∈(aO v af rs).2->r∈rs:=by
 induction rs with
 |nil=>exact fun h=>h
 |cons q rs ih =>
  intro af h;by_cases hq:q.1=32
  ·rw[show aO v af (q::rs)=(af,q::rs) from if_pos hq] at h;exact h
  ·rw[show aO v af (q::rs)=aO v (af++[_]) rs from if_neg hq] at h;exact Yk _ (ih h)
theorem Na{now:List ag}{st:V9}{g:B6}(h1:st.after.length<=100)(h2:now.length<=100):(gy now st g).length<=200:=by
 rw[gy,Yr];exact r8 h1 (Zg (List.length_take_le' ..) (Zg (o5 p9) (Zg (r7 ..) h2)))
theorem AX(rs:List aC):(rs.map aJ).map AV.str=rs.map fun r=>AV.str (aJ r):=ZR ..
theorem IB{v:Nat}{af:List ag}{nw:List aC}(h : ¬ ∃q qs,nw=q::qs/\q.1≠32):aO v af nw=(af,nw):=by
 cases nw with
 |nil=>rfl
 |cons q qs=>exact if_pos (Decidable.byContradiction fun e=>h ⟨q,qs,rfl,e⟩)
theorem Og(now:List ag)(v:Nat)(x:N6)(r:aC):∃A G N,cK now v x r=⟨x.pos+1,A,G,N⟩:=by
 unfold cK;split <;> exact⟨_,_,_,rfl⟩
theorem CV{now:List ag}{v:Nat}{x:N6}{r:aC}{y:ag}(hy:now[x.pos]?=some y)(c:r.1=32):cK now v x r=⟨x.pos+1,(aO v x.after x.new).1++[y],x.gone,(aO v x.after x.new).2.tail⟩:=by
 rw[cK,if_pos c,List.getD_eq_getElem?_getD,hy];rfl
theorem CU{now:List ag}{v:Nat}{x:N6}{r:aC}{y:ag}(hy:now[x.pos]?=some y)(c:r.1≠32):cK now v x r=⟨x.pos+1,x.after,x.gone++[dw y v],x.new⟩:=by
 rw[cK,if_neg c,List.getD_eq_getElem?_getD,hy];rfl
theorem Of{now:List ag}{v:Nat}{x:N6}{r:aC}{A G:List ag}{N:List aC}(hx:cK now v x r=⟨x.pos+1,A,G,N⟩):A.length+N.length<=x.after.length+x.new.length+1/\G.length<=x.gone.length+1/\∀q∈N,q∈x.new:=by
 have hs:=Ag v x.new x.after;unfold cK at hx;split at hx
 ·cases hx
  refine⟨?_,Nat.le_succ _,fun q hq=>ID _ (List.mem_of_mem_tail hq)⟩;rw[Yr,d9,List.length_tail];exact Zg (p5 (r7 ..) _) (o5 ((Nat.add_right_comm ..).trans (congrArg (· + 1) hs)))
 ·cases hx
  exact⟨Nat.le_succ _,o5 Yr,fun q hq=>hq⟩
section
variable(E4:List B6)(now:List ag)(v:Nat)(af gn:YV)(l0:aa)
noncomputable abbrev lN(a4 a5 po he ol th ne ro en ha sa:AV:=.any):List (Str×AV):=[(LQ,.int (v:Nat)),(LR,.lst (now.map az)),(Mb,.lst ((E4.flatMap fK).map dd)),(LP,a4),(LN,a5),(Mm,po),(LM,he),(LL,ol),(LK,th),(LJ,ne),(LZ,ro),(LH,en),(LG,ha),(Cg,sa)]
noncomputable abbrev sY(x y:List ag):aa:=(gn,.list (y.map az))::(af,.list (x.map az))::l0
def Ws(fin:V9)(gs:List B6)(P:St->Prop):Prop:=∀st:V9,gs.foldl (cn now v) st=fin->jT now v st gs->P ⟨lN E4 now v (.ref af) (.ref gn) (.int st.pos),sY af gn l0 st.after st.gone⟩
def Wk(fin:V9)(P:St->Prop):Prop:=P ⟨lN E4 now v (.ref af) (.ref gn) (.int fin.pos),sY af gn l0 fin.after fin.gone⟩
noncomputable abbrev kz(g:B6)(st:V9)(ol ne:List aC)(gl:aa):St:=⟨lN E4 now v (.ref af) (.ref gn) (.int st.pos) (.lst (((bM g.i1 g.i2).map fun n:Nat=>(n:Int)).map .int)) (.lst ((ol.map aJ).map .str)) (.lst (((bM g.j1 g.j2).map fun n:Nat=>(n:Int)).map .int)) (.lst ((ne.map aJ).map .str)),sY af gn l0 st.after st.gone++gl⟩
def Wu(g:B6)(st:V9)(gl:aa)(hs:List Hr)(P:St->Prop):Prop:=(∀h∈hs,∃a,κ h.1 a h.2.length/\h.2.length<=100)->P (kz E4 now v af gn l0 g st (bZ g) (da g) gl)
noncomputable abbrev ky(x:N6)(ro:AV):St:=⟨lN E4 now v (.ref af) (.ref gn) (.int (x.pos:Nat)) .any .any .any (.lst ((x.new.map aJ).map .str)) ro,sY af gn l0 x.after x.gone⟩
def Wr(fin:N6)(rs:List aC)(P:St->Prop):Prop:=∀x:N6,rs.foldl (cK now v) x=fin->lr now v x rs->x.after.length+x.new.length+rs.length<=400->x.gone.length+rs.length<=300->(∀r∈x.new,r.2.length<=100)->(∀r∈rs,r.2.length<=100)->P (ky E4 now v af gn l0 x .any)
def Wj(fin:N6)(P:St->Prop):Prop:=fin.after.length+fin.new.length<=400->(∀r∈fin.new,r.2.length<=100)->P (ky E4 now v af gn l0 fin .any)
def Wq(x:N6)(r:aC)(T:List ag×List aC)(n:Nat)(P:St->Prop):Prop:=∀G4 O_,(if r.1=32 then aO v G4 O_ else (G4,O_))=T->O_.length=n->G4.length+O_.length<=400->(∀r∈O_,r.2.length<=100)->P (ky E4 now v af gn l0 ⟨x.pos,G4,x.gone,O_⟩ (.str (aJ r)))
def GK(x:N6)(r:aC)(P:St->Prop):Prop:=P (ky E4 now v af gn l0 x (.str (aJ r)))
def Wt(x:N6)(T:List ag)(rs:List aC)(P:St->Prop):Prop:=∀G4,(aO v G4 rs).1=T->G4.length+rs.length<=400->(∀r∈rs,r.1≠32/\r.2.length<=100)->P (ky E4 now v af gn l0 ⟨x.pos,G4,x.gone,x.new⟩ .any)
end
theorem PV{E4:List B6}{now:List ag}{v:Nat}{led:aa}(hA:w0 A 30)(y4:E4.length<=10^4)(S_:now.length<=100)(Ψ:∀y∈now,y.2.length<=10)(W6:jT now v ⟨-1,[],[]⟩ E4)(hfa:(E4.foldl (cn now v) ⟨-1,[],[]⟩).after.length<=200) :
  TC ak w A (al w) (.ref 288) [.lst ((E4.flatMap fK).map dd),.lst (now.map az),.int (v:Nat)] [] led fun u led'=>led'=led/\u=.tup [.lst (((E4.foldl (cn now v) ⟨-1,[],[]⟩).after++now.drop (E4.foldl (cn now v) ⟨-1,[],[]⟩).pos.toNat).map az),.lst ((E4.foldl (cn now v) ⟨-1,[],[]⟩).gone.map az)]:=by
 refine TC.weak (fU (lN E4 now v) (cL w) hA.lt (fun O O O=>@_) @_ @_ (Sn _) fun L hL=>?_);have u9:=hA.deeper (k:=27) (s9:=bz (aA (ls w.params)) L 288 287);have hh:=u9.h;have hnz:(now.map az).length<=Zc:=(Yl ..).symm▸Zg S_ (by decide);have hG:=((((gk w (A.deeper _) (aA (ls w.params)) L 288 287 @_ @_ hh).g (gw w) @_ @_).g (EP w) @_ @_).g (EQ w) @_ @_).g (RC w) @_ @_;have Ā:=hG.m ⟨Li,1, "list.append"⟩ F.plainAttrs_list jc F.type_list_append;have Η:=hG.m ⟨LF,1, "list.extend"⟩ F.plainAttrs_list Ju F.type_list_extend;refine ah (aF hG 20 (t6.mk (dq rfl fun af haf=>?_)));refine ah (aF hG 20 (t6.mk (dq rfl fun gn M7=>?_)));refine ah (aF hG 20 ?_);refine ah (aF hG 20 ?_);generalize V_:E4.foldl (cn now v) ⟨-1,[],[]⟩=fin at hfa;refine ah (T.join (Wk E4 now v af gn led fin) (hF (k:=5) yt (Ws E4 now v af gn led fin) (u9.mono ⋯) (ad hG 20 ?_) ?_ ?_ fun O=>@_) ?_)
 ·have ó:=SD E4;refine t6.mk (Gz (by decide) (ad hG 20 (cO ⟨_,_,none,.frz,rfl,by rw[Yl,ZD];omega,Nn E4,?_⟩)));refine t6.mk (Gz (by decide) (ad hG 20 (bd (ad hG 20 ⟨_,_,some 1,.frz,rfl,by rw[Yl,ZD];omega,Nk E4,?_⟩))));refine t6.mk (WC fun z TI TO i1 i2=>XJ (by rw[Yl,Yl]) fun hI => .mk hI ?_);rw[Hu];exact .mk (gs:=E4) (fun O y=>y ⟨-1,[],[]⟩ V_ W6) @_
 ·intro gl g gs st he hk;refine dv (vs:=[lV g,lU g]) hh @_ @_ @_ ?_;refine mq (dv hh @_ @_ @_ (de _ rfl _ _ rfl rfl ?_));refine mq (dv hh @_ @_ @_ (de _ rfl _ _ rfl rfl (zf ?_)));obtain⟨k,í⟩:=hk;refine ah (mc (bH hG 20 (t6.mk (iR .frz .frz (by rw[Yl,Yl,Yl,Yl];exact Zg (r8 k.z3 k.z4) (by decide)) ?_))) ?_)
  ·rw[← YK];refine t6.mk (T.frz (dq rfl fun n hn=>⟨_,_,_,rfl,rfl,t6.mk (pA (f:=AV.str) fO (bs:=[]) (u9.mono ⋯) .frz .frz ⟨decide_eq_false fun q=>?_,rfl⟩)⟩));have q:=List.append_eq_nil_iff.mp q;exact k.some1.elim (fun h=>h (I9 q.1)) fun h=>h (I9 q.2)
  refine ah (T.join (fun P=>P (kz E4 now v af gn led g st (bZ g) g.new gl)) (aF hG 20 (t6.mk (T.frz (dq rfl fun n hn=>⟨_,_,_,rfl,rfl,t6.mk (pA (f:=AV.str) fO (as:=g.old.map aJ) (bs:=[]) (u9.mono ⋯) .frz .frz (bE (fun q=>?_) fun q=>?_))⟩)))) ?_)
  ·refine t6.mk (tM (pi (k:=5) (N:=[]) (cl:=[]) (J:=fun loc=>∃v,loc=[(LZ,v)]) [LZ] @_ (u9.mono ⋯) (m8 (by decide)) @_ @_ @_ @_ (fun O=>@_) ⟨_,rfl⟩ (ad hG 40 ?_)));refine FK k.z4 (fun L2 m hm=>?_) ?_
   ·refine fZ fun v led' A8=>?_;exact bX (bc rfl (yW (bH (ce @_ @_ @_ @_ hh) 20 (t6.mk (mu (i:=0) (by decide) (kG m) (oQ (fun c=>ad (ce @_ @_ @_ @_ hh) 20 ⟨if_pos (mP c),rfl,_,rfl⟩) fun c=>⟨if_neg (qJ c),rfl,_,rfl⟩))))))
   ·refine fun D hD=>bc rfl ?_;rw[show bZ g=dB g.new from if_pos (I9 q)];exact⟨rfl,_,_,_,(kz E4 now v af gn led g st (dB g.new) g.new gl).loc,_,rfl,by repeat constructor,.mk (fun O y=>y) @_⟩
  ·exact .mk (fun O y=>y) (by rw[show bZ g=g.old from if_neg fun e=>q (congrArg (List.map aJ) e)];kernel_rfl)
  have lo:=CS k.z3 k.z4;have ln:=Oy k.z3 k.z4;refine ah (T.join (fun P=>P (kz E4 now v af gn led g st (bZ g) (da g) gl)) (aF hG 20 (t6.mk (T.frz (dq rfl fun n hn=>⟨_,_,_,rfl,rfl,t6.mk (pA (f:=AV.str) fO (as:=g.new.map aJ) (bs:=[]) (u9.mono ⋯) .frz .frz (bE (fun q=>?_) fun q=>?_))⟩)))) ?_)
  ·refine t6.mk (tM (pi (k:=5) (N:=[]) (cl:=[]) (J:=fun loc=>∃v,loc=[(LZ,v)]) [LZ] @_ (u9.mono ⋯) (m8 (by decide)) @_ @_ @_ @_ (fun O=>@_) ⟨_,rfl⟩ (ad hG 40 ?_)));refine FK lo (fun L2 m hm=>?_) ?_
   ·refine fZ fun v led' A8=>?_;exact bX (bc rfl (yW (bH (ce @_ @_ @_ @_ hh) 20 (t6.mk (mu (i:=0) (by decide) (kG m) (oQ (fun c=>ad (ce @_ @_ @_ @_ hh) 20 ⟨if_pos (mP c),rfl,_,rfl⟩) fun c=>⟨if_neg (qJ c),rfl,_,rfl⟩))))))
   ·refine fun D hD=>bc rfl ?_;rw[show da g=dB (bZ g) from if_pos (I9 q)];exact⟨rfl,_,_,_,(kz E4 now v af gn led g st (bZ g) (dB (bZ g)) gl).loc,_,rfl,by repeat constructor,.mk (fun O y=>y) @_⟩
  ·exact .mk (fun O y=>y) (by rw[show da g=g.new from if_neg fun e=>q (congrArg (List.map aJ) e)];kernel_rfl)
  have e1:=Fw k.len1;have e2:=Fw k.len2;refine ah (T.join (fun P=>P (kz E4 now v af gn led g st (bZ g) (da g) gl)) (hF (k:=5) QK (Wu E4 now v af gn led g st gl) (u9.mono ⋯) (ad hG 20 (t6.mk (T.frz (fu (cR hG 20 ⟨ZB rfl,fun n hn=>⟨_,_,_,rfl,rfl,?_⟩⟩))))) ?_ ?_ fun O=>@_) ?_)
  ·exact eJ (k:=5) fun it gl' hI => .mk hI (.mk (gs:=[(bM g.i1 g.i2,bZ g),(bM g.j1 g.j2,da g)]) (fun O y=>y (s7.mpr ⟨⟨_,e1,lo⟩,s7.mpr ⟨⟨_,e2,ln⟩,aG⟩⟩)) @_)
  ·intro gl2 h hs K6;refine dv hh @_ @_ @_ (de _ rfl _ _ rfl rfl ?_);obtain⟨a,eh,el⟩:=K6 h (Yi ..);obtain⟨xs,y,Ė,N7,ĕ⟩:=eh.last;refine ah (mc (bH hG 60 ?_) ?_)
   ·refine t6.mk (du (n:=h.1.length) .frz ((Yl ..).trans (Yl ..)) (o0 eh.le (by decide)) ?_);refine t6.mk (du (n:=h.2.length) .frz ((Yl ..).trans (Yl ..)) (o0 el (by decide)) ?_);refine t6.mk (Hb ?_ ?_)
    ·exact⟨fun z=>Int.ofNat_lt.mpr (eh.len.mp (Int.ofNat_lt.mp z)),fun z=>Int.ofNat_lt.mpr (eh.len.mpr (Int.ofNat_lt.mp z))⟩
    refine t6.mk (mw (xs:=xs.map .int) (x:=.int y) .frz (by rw[Ė,YK];rfl) (by rw[Yl];omega) ?_);refine t6.mk (bG .frz (by decide) (by decide) eh.head ?_);refine t6.mk (du (n:=h.2.length) .frz ((Yl ..).trans (Yl ..)) (o0 el (by decide)) ?_);exact t6.mk (kh hh (qH (fun c=>absurd ĕ c) fun O=>⟨rfl,rfl⟩))
   ·exact bP (.next (.mk (gs:=hs) (fun O y=>y fun q hq=>K6 q (Yk _ hq)) @_))
  ·exact fun O=>Nx.mk (fun O y=>y) @_
  refine ah (aF hG 20 (t6.mk (bG .frz (by decide) (by decide) e1.head (t6.mk (du (n:=(bZ g).length) .frz ((Yl ..).trans (Yl ..)) (o0 lo (by decide)) ?_)))));refine t6.mk (mr hh ?_);refine Aq (Ap _ _) ?_;refine ah (mc (bH hG 20 ⟨decide_eq_false (Int.not_le.mpr k.lt),rfl⟩) ?_);have hpz:=Na (g:=g) k.z1 S_;have c_:st.pos.toNat<=g.i1:=Int.toNat_le.mpr (Int.le_of_lt k.lt);refine ah (aF Η 20 ⟨br (by repeat constructor),t6.mk (kb (ad Η 20 (bd (ad Η 20 (t6.mk (kh hh ?_))))))⟩);rw[← Int.ofNat_toNat];refine bd (ad Η 20 ⟨_,_,some (st.pos.toNat:Int),some (g.i1:Int),.frz,rfl,rfl,hnz,CB _ _ c_,?_⟩);refine t6.mk (WZ .frz (Zg (r8 ((Yl ..).symm▸k.z1) (Zg (List.length_take_le' ..) (Zg (o5 p9) (Zg (r7 ..) ((Yl ..).symm▸S_))))) (by decide)) (MZ now st g) (.there .here) ?_);have hpl:=k.pre;refine ah (mc (bH hG 20 (t6.mk (du (xs:=(gy now st g).map az) (.own (.tail _ (.head _))) (Yl ..) (o0 hpz (by decide)) (t6.mk (bG .frz (by decide) (by decide) e2.head (t6.mk (du (n:=(da g).length) .frz ((Yl ..).trans (Yl ..)) (o0 ln (by decide)) ?_))))))) ?_)
  ·exact t6.mk (mr hh (Aq (Ap _ _) ⟨bne_eq_false_iff_eq.mpr (congrArg Int.ofNat hpl),rfl⟩))
  refine ah (aF hG 20 ?_);have hz5:=k.z5;have hk3:=k.rest;obtain⟨fm,ę⟩:∃fm,iJ now v st g=fm:=⟨_,rfl⟩;rw[ę] at hk3;have he2:gs.foldl (cn now v) ⟨fm.pos,(aO v fm.after fm.new).1,fm.gone⟩=fin:=by
   rw[← ę];exact he
  have hk4:jT now v ⟨fm.pos,(aO v fm.after fm.new).1,fm.gone⟩ gs:=by
   rw[← ę];exact í
  refine ah (T.join (Wj E4 now v af gn (led++gl) fm) (jY (k:=5) (fun r:aC=>AV.str (aJ r)) (Wr E4 now v af gn (led++gl) fm) (u9.mono ⋯) (ad hG 20 ?_) ?_ ?_ fun O=>@_) fun hz1 hz2=>?_)
  ·exact eJ (k:=5) fun it gl' hI => .mk ((AX (bZ g))▸hI) (.mk (gs:=bZ g) (fun O y=>y ⟨g.i1,gy now st g,st.gone,da g⟩ ę k.ok (r8 (r8 hpz ln) lo) (Zg (r8 k.z2 lo) (by decide)) (fun r hr=>hz5 r (Ox hr)) fun r hr=>hz5 r (CR hr)) @_)
  ·intro gl2 r rs x hf hok2 Q8 U5 U' T_;obtain⟨⟨⟨y,hy,hyr⟩,û⟩,á⟩:=hok2;have hrl:=T_ r (Yi ..);refine⟨rfl,?_⟩;refine ah (mc (bH hG 40 (t6.mk (T.frz (kc (k:=5) (N:=[]) (cl:=[]) (J:=fun loc=>∃v,loc=[(LW,v)]) [LW] (u9.mono ⋯) (m8 (by decide)) @_ @_ @_ @_ (fun O=>@_) ⟨_,rfl⟩ (ad hG 40 ?_))))) ?_)
   ·refine t6.mk (fT (i:=some (x.pos:Int)) (j:=some ((x.pos+1:Nat):Int)) (ad hG 5 ⟨rfl,rfl⟩) (bd (ad hG 5 ⟨rfl,rfl⟩)) (bd (ad hG 5 ⟨rfl,rfl⟩)) .frz hnz (CB _ _ (Nat.le_succ _)) ?_);rw[NR hy];refine lY (f:=az) (xs:=[y]) (g:=fun y=>some (.str y.1)) (ys:=[.str y.1]) rfl (ZB rfl) aG (fun L2 m hm=>?_) ?_
    ·refine fZ fun v led' A8=>?_;exact bX (bc rfl (gZ (ad (ce @_ @_ @_ @_ hh) 20 (t6.mk (fw (x:=.str m.1) (by decide) (by decide) rfl ⟨rfl,rfl,_,rfl⟩)))))
    refine fun D hD=>⟨_,_,_,rfl,rfl,?_⟩;refine t6.mk (T.frz (fu (cR hG 20 (t6.mk (gH (x:=aJ r) (i:=some 2) (j:=none) (ad hG 5 ⟨rfl,rfl⟩) (bd (ad hG 5 ⟨rfl,rfl⟩)) (cO ⟨rfl,rfl⟩) (uU hrl) ?_)))));rw[uW];refine⟨ZB rfl,fun n hn=>⟨_,_,_,rfl,rfl,t6.mk (zp (f:=AV.str) fO (as:=[y.1]) (bs:=[r.2]) (u9.mono ⋯) .frz .frz (congrArg (fun z=>[z]) hyr) ⟨rfl,rfl⟩)⟩⟩
   obtain⟨W,hW⟩:∃W,(if r.1=32 then aO v x.after x.new else (x.after,x.new))=W:=⟨_,rfl⟩;refine ah (T.join (GK E4 now v af gn ((led++gl)++gl2) ⟨x.pos,W.1,x.gone,W.2⟩ r) (jW (Wq E4 now v af gn ((led++gl)++gl2) x r W) (fun n G4 O_ þ hn hz0 æ=>?_) ⟨_,B2.self _,fun O y=>y x.after x.new hW rfl ⋯ U'⟩) ?_)
   ·refine T.bool (p:=r.1=32/\∃q qs,O_=q::qs/\q.1≠32) (bH hG 60 (t6.mk (mu (i:=0) (by decide) (kG r) (NU (fun h1=>?_) fun h1=>⟨rfl,nofun,fun z=>absurd z.1 h1⟩)))) (fun hp=>?_) fun hp=>?_
    ·refine t6.mk (T.frz (dq rfl fun n hn=>⟨_,_,_,rfl,rfl,?_⟩));cases O_ with
     |nil=>exact t6.mk (zp (f:=AV.str) fO (as:=[]) (bs:=[]) (u9.mono ⋯) .frz .frz rfl ⟨rfl,nofun,fun z=>nomatch z.2⟩)
     |cons q qs =>
      refine t6.mk (Xp (f:=AV.str) fO (as:=(q::qs).map aJ) (bs:=[]) (u9.mono ⋯) .frz .frz nofun ?_);exact t6.mk (bG (x:=.str (aJ q)) .frz (by decide) (by decide) rfl (t6.mk (mu (i:=0) (by decide) (kG q) (CO (fun c=>⟨rfl,fun O=>⟨h1,q,qs,rfl,c⟩,fun O=>rfl⟩) fun c=>⟨rfl,nofun,fun z=>z.2.elim fun q' z=>z.elim fun qs' z=>absurd ((c9 z.1).1▸c) z.2⟩))))
    ·obtain⟨h1,q,qs,rfl,hq⟩:=hp;rw[if_pos rfl];have hql:=æ q (Yi ..);rw[Yq] at hz0;refine ah (aF Ā 40 ⟨br (by repeat constructor),?_⟩);refine t6.mk (Gy (ad Ā 20 (t6.mk (bG (x:=.str (aJ q)) .frz (by decide) (by decide) rfl ?_))));refine bd (ad hG 5 (cO ⟨aJ q,some 2,none,rfl,rfl,rfl,uU hql,?_⟩));rw[uW];refine t6.mk (du (xs:=G4.map az) (.own (.tail _ (.head _))) (Yl ..) ⋯ ?_);refine t6.mk (ik (xs:=G4.map az) (ys:=(G4++[(q.2,[(v:Int),(G4.length:Int)])]).map az) (by exact qf G4 (q.2,[(v:Int),(G4.length:Int)])) (.there .here) (by rw[Yl,ZD];omega) ?_);refine ah (aF hG 20 (t6.mk (fT (i:=some ((1:Nat):Int)) (j:=none) (ad hG 5 ⟨rfl,rfl⟩) (bd (ad hG 5 ⟨rfl,rfl⟩)) (cO ⟨rfl,rfl⟩) .frz (by rw[Yl,Yl,Yq,ZD];omega) (iz 1) ?_)));refine bP ⟨qs.length,by rw[← hn];exact g4 _,_,B2.self _,fun O y=>y (G4++[(q.2,[(v:Int),(G4.length:Int)])]) qs ?_ rfl ?_ fun r hr=>æ r (Yk _ hr)⟩
     ·rw[if_pos h1] at þ ⊢;exact(show aO v G4 (q::qs)=aO v _ qs from if_neg hq).symm.trans þ
     ·rw[Yr,d9];omega
    ·rw[if_neg (by decide)];refine Nx.mk (fun O y=>y) ?_;rw[← þ];by_cases h1:r.1=32
     ·rw[if_pos h1,IB fun z=>hp ⟨h1,z⟩];kernel_rfl
     ·rw[if_neg h1];kernel_rfl
   obtain⟨A1,G1,N1,hx⟩:=Og now v x r;have ho:=Of hx;rw[hx] at á;have Q3:rs.foldl (cK now v) ⟨x.pos+1,A1,G1,N1⟩=fm:=by rw[← hx];exact hf
   rw[Yq] at Q8 U5;have C5:=(j5.mp hy).1;have hya:(now.map az)[((x.pos:Nat):Int).toNat]?=some (az y):=by rw[Zb,Ze,hy];rfl
   have hss:=Ag v x.new x.after;have hxp:((x.pos:Nat):Int)<2^63:=by omega
   refine ah (T.join (GK E4 now v af gn ((led++gl)++gl2) ⟨x.pos,A1,G1,N1⟩ r) (aF Ā 60 (t6.mk (mu (i:=0) (by decide) (kG r) (CO (fun c=>?_) fun c=>?_)))) ?_)
   ·rw[CU hy c] at hx;cases hx
    rw[if_neg c] at hW;cases hW
    refine⟨br (by repeat constructor),t6.mk (bG (x:=az y) .frz (p7 _) hxp hya (t6.mk (Hg nofun nofun ?_ ?_)))⟩
    ·rw[Yq,Yl,ZD]
     have:=Ψ y (List.mem_of_getElem? hy);show _+1<=_;omega
    refine t6.mk (ik (xs:=x.gone.map az) (ys:=(x.gone++[dw y v]).map az) ((congrArg (fun z=>x.gone.map az++[z]) (zV y v)).trans (qf _ _)) .here (by rw[Yl,ZD];omega) ?_);exact Nx.mk (fun O y=>y) @_
   ·rw[CV hy c] at hx;obtain⟨us,Ö⟩:=û c;rw[if_pos c] at hW;cases hx
    subst hW;refine t6.mk (fT (i:=none) (j:=some ((1:Nat):Int)) (ad hG 5 ⟨rfl,rfl⟩) (cO ⟨rfl,rfl⟩) (bd (ad hG 5 ⟨rfl,rfl⟩)) .frz (by rw[Yl,Yl,ZD];show (aO v x.after x.new).2.length<=_;omega) (jy 1) ?_);refine t6.mk (T.frz (fu (cR hG 5 ⟨ZB rfl,fun n hn=>⟨_,_,_,rfl,rfl,?_⟩⟩)));generalize aO v x.after x.new=W at *;obtain⟨W1,W2⟩:=W;obtain rfl:W2=r::us:=Ö;have hss:W1.length+(us.length+1)=x.after.length+x.new.length:=hss;refine t6.mk (zp (f:=AV.str) fO (as:=[aJ r]) (bs:=[aJ r]) (u9.mono ⋯) .frz .frz rfl ?_);refine⟨br (by repeat constructor),t6.mk (bG (x:=az y) .frz (p7 _) hxp hya ?_)⟩;refine t6.mk (ik (xs:=W1.map az) (ys:=(W1++[y]).map az) (qf W1 y) (.there .here) (by rw[Yl,ZD];omega) ?_);refine t6.mk (fT (i:=some ((1:Nat):Int)) (j:=none) (ad hG 5 ⟨rfl,rfl⟩) (bd (ad hG 5 ⟨rfl,rfl⟩)) (cO ⟨rfl,rfl⟩) .frz (by rw[Yl,Yl,ZD];show us.length+1<=_;omega) (iz 1) ?_);exact Nx.mk (fun O y=>y) @_
   ·refine bD hG 20 ?_;exact .next (l:=_::_::(led++gl)) (.mk (gs:=rs) (fun O y=>y ⟨x.pos+1,A1,G1,N1⟩ Q3 á (Zg (r6 ho.1 _) (Zg (o5 (o4 ..)) Q8)) (Zg (r6 ho.2.1 _) (Zg (o5 (o4 ..)) U5)) (fun q hq=>U' q (ho.2.2 q hq)) fun q hq=>T_ q (Yk _ hq)) @_)
  ·exact fun x e O Q8 U5 U' O=>Nx.mk (fun O y=>(show x=fm from e)▸y ((show x=fm from e)▸Q8) ((show x=fm from e)▸U')) @_
  refine ah (T.join (fun P=>P (ky E4 now v af gn (led++gl) ⟨fm.pos,(aO v fm.after fm.new).1,fm.gone,fm.new⟩ .any)) (jY (k:=5) (fun r:aC=>AV.str (aJ r)) (Wt E4 now v af gn (led++gl) fm (aO v fm.after fm.new).1) (u9.mono ⋯) (ad hG 20 ?_) ?_ ?_ fun O=>@_) ?_)
  ·exact eJ (k:=5) fun it gl' hI => .mk ((AX fm.new)▸hI) (.mk (gs:=fm.new) (fun O y=>y fm.after rfl hz1 fun r hr=>⟨hk3 r hr,hz2 r hr⟩) @_)
  ·intro gl2 r rs G4 þ hz0 æ;have hr:=æ r (Yi ..);rw[Yq] at hz0;refine⟨rfl,?_⟩;refine ah (mc (bH hG 20 (t6.mk (mu (i:=0) (by decide) (kG r) ⟨beq_eq_false_iff_ne.mpr fun e=>hr.1 (mP (beq_iff_eq.mpr e)),rfl⟩))) (bD Ā 60 ⟨br (by repeat constructor),?_⟩));refine t6.mk (gH (x:=aJ r) (i:=some 2) (j:=none) (ad Ā 20 ⟨rfl,rfl⟩) (bd (ad hG 5 ⟨rfl,rfl⟩)) (cO ⟨rfl,rfl⟩) (uU hr.2) ?_);rw[uW];refine t6.mk (du (xs:=G4.map az) (.own (.tail _ (.head _))) (Yl ..) ⋯ ?_);refine t6.mk (ik (xs:=G4.map az) (ys:=(G4++[(r.2,[(v:Int),(G4.length:Int)])]).map az) (by exact qf G4 (r.2,[(v:Int),(G4.length:Int)])) (.there .here) (by rw[Yl,ZD];omega) ?_);refine .next (l:=_::_::(led++gl)) (.mk (gs:=rs) (fun O y=>y (G4++[(r.2,[(v:Int),(G4.length:Int)])]) ?_ ?_ fun q hq=>æ q (Yk _ hq)) @_)
   ·exact(congrArg Prod.fst (show aO v G4 (r::rs)=aO v _ rs from if_neg hr.1)).symm.trans þ
   ·rw[Yr,d9];omega
  ·exact fun G4 e O O=>Nx.mk (fun O y=>(show G4=_ from e)▸y) @_
  ·exact bP (.next (l:=_::_::led) (.mk (gs:=gs) (fun O y=>y ⟨fm.pos,(aO v fm.after fm.new).1,fm.gone⟩ he2 hk4) @_))
 ·exact fun st e O=>Nx.mkE (fun O y=>(show st=fin from e)▸y) rfl @_
 ·refine T.freeze (a:=gn) (xs:=fin.gone.map az) (w6:=lN E4 now v (.ref af) (.lst (fin.gone.map az)) (.int fin.pos)) (by repeat constructor) ?_;refine bD hG 20 (t6.mk (kb (ad hG 5 (bd (ad hG 20 (t6.mk (kh hh ?_)))))));rw[← Int.ofNat_toNat];refine cO ⟨_,_,some (fin.pos.toNat:Int),none,.frz,rfl,rfl,hnz,iz _,?_⟩;refine t6.mk (iR (xs:=fin.after.map az) (.own (.head _)) .frz ?_ ?_)
  ·exact Zg (r8 ((Yl ..).symm▸hfa) (Zg (o5 p9) (Zg (r7 ..) ((Yl ..).symm▸S_)))) (by decide)
  rw[← List.map_drop,← YK];exact⟨led,⟨[_],.refl _⟩,rfl,rfl⟩
noncomputable abbrev tE(a b:List Str)(n:Nat):List Str:=cS a b aQ aQ aQ aQ dh false (bl n (bY (aW (be a b) a.length b.length)))
noncomputable def jx(b:List Str)(k:Nat):List ag:=(Zx 0 b.length).map fun j=>(b.getD j default,[(k:Int),(j:Int)])
noncomputable def dT(b:List Str)(k:Nat)(D:List ag)(ps:List (Nat×Nat)):List ag:=ps.foldl (fun pl p=>pl.set p.2 (D.getD p.1 default)) (jx b k)
noncomputable def lR(ps:List (Nat×Nat))(i:Nat):Bool := !(ps.map fun p=>(p.1:Int)).any (· == (i:Int))
noncomputable def gL(a:List Str)(k:Nat)(D:List ag)(ps:List (Nat×Nat)):List ag:=((Zx 0 a.length).filter (lR ps)).map fun i=>dw (D.getD i default) k
noncomputable def EI(items:List I1):R4:=items.foldl dl ⟨[],none,[]⟩
noncomputable def tu(D:List ag)(k:Nat)(gs:List B6):V9:=gs.foldl (cn D k) ⟨-1,[],[]⟩
structure Λ (a b:List Str) (D:List ag) (k n:Nat) (items:List I1) (gs:List B6):Prop where
 rows:(tE a b n).drop 2=items.map bS
 ok:gu ⟨[],none,[]⟩ items
 heads:kf (EI items).heads
 all:(EI items).all=gs.flatMap fK
 len:gs.length<=10^4
 gok:jT D k ⟨-1,[],[]⟩ gs
 after:(tu D k gs).after++D.drop (tu D k gs).pos.toNat=dT b k D (cq 30 a b)
 gone:(tu D k gs).gone=gL a k D (cq 30 a b)
structure A_ (a b:List Str) (D:List ag) (k n:Nat):Prop where
 raw:(bf (be a b) (0,a.length,0,b.length)).length<64
 ex:∃items gs,Λ a b D k n items gs
 lenC:(tE a b n).length<=10^4
 emp:tE a b n=[]↔a=b
 pr:∀p∈cq 30 a b,p.1<a.length/\p.2<b.length
 nx:(dT b k D (cq 30 a b)).map Prod.fst=b
 nl:∀y∈dT b k D (cq 30 a b),y.2.length<=2
noncomputable def jK(script:List Int):Nat:=(script.sum.fmod 4).toNat
theorem OE(script:List Int):script.sum.fmod 4=(jK script:Nat)/\jK script<=3:=ae (tx script.sum) fun k e h=>⟨by unfold jK;rw[e];rfl,by unfold jK;rw[e];exact h⟩
def GE(script:List Int):Prop:=∀k,1<=k->k<(bk script).length->∀D:List ag,D.map Prod.fst=(bk script).getD (k-1) []->(∀y∈D,y.2.length<=2)->A_ ((bk script).getD (k-1) []) ((bk script).getD k []) D k (jK script)
theorem Cz(b:List Str)(k:Nat):(jx b k).length=b.length:=by rw[jx,Yl,List.length_range']
theorem JP(ps:List (Nat×Nat))(D:List ag):∀pl:List ag,(ps.foldl (fun pl p=>pl.set p.2 (D.getD p.1 default)) pl).length=pl.length:=by
 induction ps with
 |nil=>exact fun O=>rfl
 |cons p ps ih=>exact fun pl=>(ih _).trans (List.length_set ..)
theorem lZ[Inhabited α](f:α->AV){xs:List α}(h:i<xs.length):(xs.map f)[((i:Nat):Int).toNat]?=some (f (xs.getD i default)):=by
 rw[Zb,Ze,List.getD_eq_getElem?_getD,YL h];rfl
theorem ND(a:List Str)(k:Nat)(D:List ag)(ps:List (Nat×Nat)):((Zx 0 a.length).map fun i=>if lR ps i=true then some (az (dw (D.getD i default) k)) else none).filterMap id=(gL a k D ps).map az:=by
 unfold gL;generalize Zx 0 a.length=is;induction is with
 |nil=>rfl
 |cons i is ih =>
  by_cases h:lR ps i=true
  ·rw[Yu,if_pos h,List.filter_cons_of_pos h];exact congrArg (az (dw (D.getD i default) k) :: ·) ih
  ·rw[Yu,if_neg h,List.filter_cons_of_neg h];exact ih
theorem oT{xs:List α}{d:α}(h:i<xs.length):xs.getD i d∈xs:=by
 rw[List.getD_eq_getElem?_getD,YL h];exact List.getElem_mem h
theorem Ng(b:List Str)(k:Nat):∀y∈jx b k,y.2.length<=2:=fun y hy=>by
 refine ae (YM.mp hy) fun j O e=>?_;rw[← e];exact YR 2
theorem Nd{D:List ag}{b:List Str}{ps:List (Nat×Nat)}:(dT b k D ps).length=b.length:=(JP ps D _).trans (Cz b k)
section
variable[DecidableEq β]{f:β->AV}{as bs:List β}
theorem Xm(hf:pC f)(hA:w0 A 5)(hl:w9 st.led v (as.map f))(hr:w9 st.led u (bs.map f))(e:as=bs)(h:K (.bool false) st):F2 vv w A B s9 Val (g5 .NotEq) v u st K:=Xn hf hA hl hr (by rw[decide_eq_true e];exact h)
theorem XB(hf:pC f)(hA:w0 A 5)(hl:w9 st.led v (as.map f))(hr:w9 st.led u (bs.map f))(e:as=bs)(h:K (.bool true) st):F2 vv w A B s9 Val (g5 .Eq) v u st K:=XC hf hA hl hr (by rw[decide_eq_true e];exact h)
end
theorem Xe{N:aa}{rows:List AV}{f:AV}{led:aa}(h:TC vv w A B f args kw led (E7 vv w B N n rows led))
  (hk:∀ga gn gs gl,D6 vv w B N n rows gl gs->K (.ref ga) ⟨loc,((ga,.gen gn gs)::gl)++led⟩):FC vv w A B s9 f args kw ⟨loc,led⟩ K :=
 ig h fun v l h=>by
  refine ed h fun ga gn gs gl O5 O6 U4=>?_;clear h;subst O5;subst O6;exact hk _ _ _ _ U4
noncomputable abbrev pt:aa:=[fA]
section
variable(script:List Int)(cp cb ck cd cv:YV)(l0:aa)
noncomputable abbrev lK(t a p q o pl r rd:AV:=.any):List (Str×AV):=[(Mq,.lst (script.map .int)),(LD,t),(eo,a),(Me,p),(Md,q),(Lz,o),(Ly,pl),(Lv,r),(Lu,rd)]
noncomputable abbrev Ek(ep eb ek:y1)(D:List ag):aa:=(cp,ep)::(cb,eb)::(ck,ek)::(cd,aU (.lst (D.map az)))::(cv,aU (.lst ((bk script).map aT)))::l0
def Wm(ks:List Nat)(P:St->Prop):Prop:=∀k m D ep eb ek,ks=Zx k m->k+m=(bk script).length->1<=k->D.map Prod.fst=(bk script).getD (k-1) []->(∀y∈D,y.2.length<=2)->R2 ep->R2 eb->R2 ek ->
 P ⟨lK script (.lst (D.map az)),Ek script cp cb ck cd cv l0 ep eb ek D⟩
def Wf(P:St->Prop):Prop:=∀D ep eb ek,P ⟨lK script (.lst (D.map az)),Ek script cp cb ck cd cv l0 ep eb ek D⟩
noncomputable abbrev Ej(k:Nat)(b:List Str)(ps:List (Nat×Nat))(D:List ag):aa:=(cp,aU (.lst (ps.map cJ)))::(cb,aU (aT b))::(ck,aU (.int (k:Nat)))::(cd,aU (.lst (D.map az)))::(cv,aU (.lst ((bk script).map aT)))::l0
def GM(k:Nat)(a b:List Str)(ps:List (Nat×Nat))(D:List ag)(pl:YV)(qs:List (Nat×Nat))(P:St->Prop):Prop:=∀x:List ag,qs.foldl (fun pl p=>pl.set p.2 (D.getD p.1 default)) x=dT b k D ps->x.length=b.length->(∀p∈qs,p.1<a.length/\p.2<b.length) ->
 P ⟨lK script (.lst (D.map az)) (aT a) .any .any (.lst ((gL a k D ps).map az)) (.ref pl),(pl,.list (x.map az))::Ej script cp cb ck cd cv l0 k b ps D⟩
end
noncomputable abbrev pd(cp cb ck cd cv:YV):List (Str×YV):=[(Mh,cp),(dO,cb),(q1,ck),(LC,cd),(Mo,cv)]
theorem PS{script:List Int}{led:aa}(hA:w0 A 400)(hs:script.length<=63)(ok:GE script) :
  TC ak w A (al w) (.ref 293) [.lst (script.map .int)] [] ((fA)::led) fun v led'=>v=.bool true/\D4 pt led':=by
 refine TC.weak (tO [Mh,dO,q1,LC,Mo] (binds:=[(Mq,.lst (script.map .int))]) (o:=gN w.params) (fd:=aA (gN w.params)) (body:=cg (aS 14)) (c:=292) (oc:=nQ w.params) (vs:=eC (nQ w.params)) (tq:=mB ((eC (nQ w.params)).getD 1 .none)) (cL w)
  @_ @_ @_ @_ @_ @_ (fun n=>@_) (by decide) @_ @_ @_ @_ @_ hA.lt (Binds.of1 fun Z v1 h1=>⟨_,@_,.cons h1 .nil⟩) (s7.mpr ⟨@_,aG⟩) fun L cp cb ck cd cv=>?_)
 have u9:=hA.deeper (k:=397) (s9:=cY (gN w.params) 293 L (pd cp cb ck cd cv));have hh:=u9.h;have hG:=((((((((((ce (vv:=ak) (w:=w) (B:=al w) (A:=A.deeper (cY (gN w.params) 293 L (pd cp cb ck cd cv))) (s9:=cY (gN w.params) 293 L (pd cp cb ck cd cv)) @_ @_ @_ @_ hh).g (gw w) @_ @_).g (oS w) @_ @_).g (RH w) @_ @_).g (ES w) @_ @_).g (RI w) @_ @_).g (RJ w) @_ @_).f (f:=273) (dc @_)).f (f:=278) (dc @_)).f (f:=283) (dc @_)).f (f:=288) (dc @_);have ġ:=((((ce (vv:=ak) (w:=w) (B:=al w) (A:=A.deeper (cY (gN w.params) 293 L (pd cp cb ck cd cv))) (s9:=cY (gN w.params) 293 L (pd cp cb ck cd cv)) @_ @_ @_ @_ hh).g (ER w) @_ @_).g (RD w) @_ @_).g (RQ w) @_ @_).f (f:=261) (dc @_);refine T.spares [LD,eo,Me,Md,Lz,Ly,Lv,Lu] @_ ?_;refine ah (cH rfl rfl rfl (ad hG 20 ?_));refine t6.mk (ie (PT (u9.mono ⋯) hs) ?_);refine ea @_ gm (.there (.there (.there (.there .here)))) ?_;have hvl:=zP script;have hv0:(bk script).getD 0 []=eN:=rfl;have h0:((bk script).map aT)[(0:Int).toNat]?=some (aT eN):=rfl;refine ah (tM (pi (k:=5) (N:=[(cv,aU (.lst ((bk script).map aT)))]) (cl:=[(Mo,cv)]) (J:=fun loc=>∃v,loc=[(qr,v)]) [qr] @_ (u9.mono ⋯) @_ @_ @_ @_ @_ (fun O=>@_) ⟨_,rfl⟩ (ad hG 40 ?_)));refine aP (v:=.lst ((bk script).map aT)) @_ (.tail _ (.tail _ (.tail _ (.tail _ (.head _))))) (t6.mk (bG .frz (by decide) (by decide) h0 (t6.mk (du (n:=eN.length) .frz (Yl ..) (ZB rfl) ?_))));refine t6.mk (kg (oZ (g:=fun j=>some (az (eN.getD j default,[((0:Nat):Int),(j:Int)]))) (iq az (fun j:Nat=>(eN.getD j default,[((0:Nat):Int),(j:Int)])) _) (ZB rfl) (s7.mpr ⟨.tail _ (.tail _ (.tail _ (.tail _ (.head _)))),aG⟩) (fun L2 m hm=>?_) fun D hD=>bc rfl ?_))
 ·refine fZ fun v led' A8=>?_;have hm6:m<6:=hm;exact bX (bc rfl (gZ (ad (ce @_ @_ @_ @_ hh) 20 (aP (v:=.lst ((bk script).map aT)) @_ (A8 _ (.head _)) (t6.mk (bG .frz (by decide) (by decide) h0 (t6.mk (bG .frz (p7 m) (iG (a6 hm) (by decide)) (lZ AV.str hm) ⟨rfl,rfl,_,rfl⟩))))))))
 refine⟨rfl,_,_,_,lK script (.lst ((jx eN 0).map az)),_,rfl,by repeat constructor,?_⟩;refine ah (cH rfl rfl rfl (ad hG 20 (ea @_ gm (.there (.there (.there .here))) ?_)));refine ah (T.join (Wf script cp cb ck cd cv (fA::led)) (hF (k:=5) (fun i:Nat=>AV.int (i:Int)) (Wm script cp cb ck cd cv (fA::led)) (u9.mono ⋯) (ad hG 20 ?_) ?_ ?_ fun O=>@_) ?_)
 ·refine aP (v:=.lst ((bk script).map aT)) @_ (.tail _ (.tail _ (.tail _ (.tail _ (.head _))))) (t6.mk (du .frz (Yl ..) ⋯ ?_));refine t6.mk (GT (tV ⋯ ⋯ ⋯ ⋯ fun it gl hI => .mk ((show cI 1 ((bk script).length:Int)=(Zx 1 ((bk script).length-1)).map fun i:Nat=>AV.int (i:Int) from mL 1 _)▸hI) (.mk (gs:=Zx 1 ((bk script).length-1)) (fun O y=>y 1 ((bk script).length-1) (jx eN 0) fo fo fo rfl ⋯ (YR 1) ?_ ?_ gm gm gm) @_)))
  ·exact rfl
  ·exact Ng eN 0
 ·intro gl k0 ks k m D ep eb ek hks hkm î hDa Y5 c1 c2 c3;cases m with
  |zero=>exact nomatch hks
  |succ m =>
  obtain⟨rfl,rfl⟩:k0=k/\ks=Zx (k+1) m:=c9 hks;clear hks;have hkl:k0<(bk script).length:=Nat.lt_of_lt_of_eq (s6 (Nat.succ_pos m)) hkm;have hkl1:=o0 (r7 k0 1) hkl;have hk67:k0<=67:=by omega
  have X_:=ok k0 î hkl D hDa Y5;have ď:=lZ aT (xs:=bk script) (i:=k0-1) hkl1;have hvb:=lZ aT (xs:=bk script) (i:=k0) hkl;have fa:=pU script _ (oT (d:=[]) hkl1);have fb:=pU script _ (oT (d:=[]) hkl);have hnx:=X_.nx;rw[show (default:List Str)=[] from rfl] at ď hvb;generalize (bk script).getD (k0-1) []=a at *;generalize hb:(bk script).getD k0 []=b at *;have Ĝ:D.length=a.length:=by rw[← hDa,Yl]
  have la:=fa.1;have lb:=fb.1;have la6:a.length<=10^6:=Zg la (by decide);have lb6:b.length<=10^6:=Zg lb (by decide);refine ea @_ c3 (.there (.there .here)) ?_;refine ah (aF hG 20 (aP (v:=.lst ((bk script).map aT)) @_ (.tail _ (.tail _ (.tail _ (.tail _ (.head _))))) (aP (v:=.int (k0:Nat)) @_ (.tail _ (.tail _ (.head _))) (t6.mk (bG (x:=aT a) .frz ?_ ?_ ?_ ?_)))))
  ·exact Int.sub_nonneg.mpr (Int.ofNat_le.mpr î)
  ·exact Int.ofNat_sub î▸Int.ofNat_lt.mpr (o0 (r7 ..) (o0 hk67 (by decide)))
  ·exact Int.ofNat_sub î▸ď
  refine ah (cH rfl rfl rfl (ad hG 20 (aP (v:=.lst ((bk script).map aT)) @_ (.tail _ (.tail _ (.tail _ (.tail _ (.head _))))) (aP (v:=.int (k0:Nat)) @_ (.tail _ (.tail _ (.head _))) (t6.mk (bG (x:=aT b) .frz (p7 k0) (iG hk67 (by decide)) hvb (ea @_ c2 (.there .here) ?_)))))));refine ah (cH rfl rfl rfl (ad hG 20 (aP (v:=aT b) @_ (.tail _ (.head _)) (t6.mk (ie (PW 30 (u9.mono ⋯) la (Zg la (by decide)) (Zg lb (by decide))) (ea @_ c1 .here ?_))))));have hpr:=X_.pr;have Ψ:=X_.nl;generalize c_:cq 30 a b=ps at *;have hpl:ps.length<=30:=by rw[← c_];exact Zg (yG ..) la
  refine ah (tM (pi (k:=5) (N:=[(cd,aU (.lst (D.map az))),(ck,aU (.int (k0:Nat))),(cp,aU (.lst (ps.map cJ)))]) (cl:=[(Mh,cp),(q1,ck),(LC,cd)]) (J:=fun loc=>∃v,loc=[(mN,v)]) [mN] @_ (u9.mono ⋯) @_ @_ @_ @_ @_ (fun O=>@_) ⟨_,rfl⟩ (ad hG 40 ?_)));refine t6.mk (du .frz (Yl ..) (o0 la (by decide)) ?_);refine t6.mk (kg (oZ (g:=fun i=>if lR ps i=true then some (az (dw (D.getD i default) k0)) else none) (ND a k0 D ps) la6 (s7.mpr ⟨.tail _ (.tail _ (.tail _ (.head _))),s7.mpr ⟨.tail _ (.tail _ (.head _)),s7.mpr ⟨.head _,aG⟩⟩⟩) (fun L2 m hm=>?_) fun D2 hD2=>bc rfl ?_))
  ·refine fZ fun v led' A8=>?_;refine bX (bc rfl (yW (bH (ce @_ @_ @_ @_ hh) 20 ?_)));refine t6.mk (T.frz (kc (k:=5) (N:=[]) (cl:=[]) (J:=fun loc=>∃v u,loc=[(Me,v),(Md,u)]) [Me,Md] (u9.mono ⋯) (m8 (by decide)) @_ @_ @_ @_ (fun O=>@_) ⟨_,_,rfl⟩ (ad (ce @_ @_ @_ @_ hh) 20 (aP (v:=.lst (ps.map cJ)) @_ (A8 _ (.tail _ (.tail _ (.head _)))) ?_))));refine lY (f:=cJ) (g:=fun p:Nat×Nat=>some (.int (p.1:Nat))) (iq AV.int (fun p:Nat×Nat=>(p.1:Int)) _) (Zg hpl (by decide)) aG (fun L3 m2 T_=>?_) fun D3 hD3=>⟨_,_,_,rfl,rfl,?_⟩
   ·refine Aw fun v u Î hN2=>?_;exact dv (vs:=[.int (m2.1:Nat),.int (m2.2:Nat)]) hh @_ @_ @_ (de _ rfl _ _ rfl rfl (gZ (ad (ce @_ @_ @_ @_ hh) 20 ⟨rfl,rfl,_,_,rfl⟩)))
   ·refine t6.mk (Xl .frz (oQ (fun c=>?_) fun c=>⟨if_neg (Bool.eq_false_iff.mp c),rfl,_,rfl⟩));refine ad (ce @_ @_ @_ @_ hh) 20 (aP (v:=.lst (D.map az)) @_ (A8 _ (.head _)) (t6.mk (bG .frz (p7 m) (iG (a6 hm) la6) (lZ az (by rw[Ĝ];exact hm)) (aP (v:=.int (k0:Nat)) @_ (A8 _ (.tail _ (.head _))) (t6.mk (Hg nofun nofun ?_ ?_))))))
    ·have:=Y5 _ (oT (d:=default) (show m<D.length by rw[Ĝ];exact hm));rw[Yq,Yl,ZD];show _+1<=_;omega
    ·exact⟨(if_pos c).trans (congrArg some (zV _ _).symm),rfl,_,rfl⟩
  refine⟨rfl,_,_,_,lK script (.lst (D.map az)) (aT a) .any .any (.lst ((gL a k0 D ps).map az)),_,rfl,by repeat constructor,?_⟩;refine ah (pi (k:=5) (N:=[(ck,aU (.int (k0:Nat))),(cb,aU (aT b))]) (cl:=[(q1,ck),(dO,cb)]) (J:=fun loc=>∃v,loc=[(qr,v)]) [qr] @_ (u9.mono ⋯) @_ @_ @_ @_ @_ (fun O=>@_) ⟨_,rfl⟩ (ad hG 40 (aP (v:=aT b) @_ (.tail _ (.head _)) ?_)));refine t6.mk (du .frz (Yl ..) (o0 lb (by decide)) ?_);refine t6.mk (kg (oZ (g:=fun j=>some (az (b.getD j default,[(k0:Int),(j:Int)]))) (iq az (fun j:Nat=>(b.getD j default,[(k0:Int),(j:Int)])) _) lb6 (s7.mpr ⟨.tail _ (.tail _ (.head _)),s7.mpr ⟨.tail _ (.head _),aG⟩⟩) (fun L2 m hm=>?_) fun pl hpl2=>bc rfl ?_))
  ·refine fZ fun v led' A8=>?_;exact bX (bc rfl (gZ (ad (ce @_ @_ @_ @_ hh) 20 (aP (v:=aT b) @_ (A8 _ (.tail _ (.head _))) (t6.mk (bG .frz (p7 m) (iG (a6 hm) lb6) (lZ AV.str hm) (aP (v:=.int (k0:Nat)) @_ (A8 _ (.head _)) ⟨rfl,rfl,_,rfl⟩)))))))
  refine ah (T.join (GM script cp cb ck cd cv ((fA::led)++gl) k0 a b ps D pl []) (hF (k:=5) cJ (GM script cp cb ck cd cv ((fA::led)++gl) k0 a b ps D pl) (u9.mono ⋯) (ad hG 20 (aP (v:=.lst (ps.map cJ)) @_ (.tail _ (.head _)) ?_)) ?_ ?_ fun O=>@_) ?_)
  ·exact eJ (k:=5) fun it gl' hI => .mk hI (.mk (gs:=ps) (fun O y=>y (jx b k0) rfl (Cz b k0) hpr) @_)
  ·intro gl2 q qs x hx Ô hq;have hq1:=hq q (Yi ..);refine dv (vs:=[.int (q.1:Nat),.int (q.2:Nat)]) hh @_ @_ @_ (de _ rfl _ _ rfl rfl ?_);refine ah (cH rfl rfl rfl (ad hG 20 (aP (v:=.lst (D.map az)) @_ (.tail _ (.tail _ (.tail _ (.tail _ (.head _))))) (t6.mk (bG .frz (p7 q.1) (iG (a6 hq1.1) la6) (lZ az (by rw[Ĝ];exact hq1.1)) (tW (ad hG 5 (ad hG 5 ?_))))))));refine zo (xs:=x.map az) (ys:=(x.set q.2 (D.getD q.1 default)).map az) (j:=q.2) .here (List.map_set ..) (.inl rfl) (by rw[Yl,Ô];exact hq1.2) (by rw[Yl,Ô];exact o0 lb (by decide)) ?_;refine bP (.next (l:=_::_::_::_::_::_::((fA::led)++gl)) (.mk (gs:=qs) (fun O y=>y (x.set q.2 (D.getD q.1 default)) hx ((List.length_set ..).trans Ô) fun p hp=>hq p (Yk _ hp)) @_))
  ·exact fun x hx Ô hq=>Nx.mk (fun O y=>y x hx Ô hq) @_
  intro x hx _ _;have hx:x=dT b k0 D ps:=hx;subst hx;refine T.freeze (a:=pl) (xs:=(dT b k0 D ps).map az) (w6:=lK script (.lst (D.map az)) (aT a) .any .any (.lst ((gL a k0 D ps).map az)) (.lst ((dT b k0 D ps).map az))) (by repeat constructor) ?_;refine ah (cH rfl rfl rfl (ad hG 20 (ea @_ gj (.there (.there (.there .here))) ?_)));have hn:=OE script;refine ah (aF ġ 40 (t6.mk (VJ ?_ ?_ ?_)))
  ·kernel_rfl
  ·rfl
  refine ad ġ 5 ⟨dc @_,cR ġ 5 (aP (v:=aT b) @_ (.tail _ (.head _)) (ad ġ 20 (t6.mk (WD hh .frz (t6.mk (il (by decide) ?_))))))⟩;rw[hn.1];have hl4:∀y∈db,y.length<10^4:=by decide
  refine Xe (led:=Ej script cp cb ck cd cv ((fA::led)++gl) k0 b ps (dT b k0 D ps)) (TN (n:=jK script) (N:=pt) UC (u9.mono ⋯) (Yi ..) (o0 hn.2 (by decide)) (o0 la (by decide)) (o0 lb (by decide)) (by decide) (by decide) (by decide) (by decide) (by decide) (fun x hx=>hl4 x (fa.2 x hx)) (fun x hx=>hl4 x (fb.2 x hx)) X_.raw) fun ga gn gs gl' U4=>t6.mk (WP (cL w) (u9.mono ⋯) (s7.mpr ⟨.tail _ (.tail _ (.tail _ (.tail _ (.tail _ (.head _))))),aG⟩) U4 ?_ ?_)
  ·rw[Yl];exact Zg X_.lenC (by decide)
  obtain⟨items,ă,Y'⟩:=X_.ex;have ö:(dT b k0 D ps).length=b.length:=Nd;have ha:=Y'.after;have hg2:=Y'.gone;rw[c_] at ha hg2;have hz:(tu D k0 ă).after.length<=200:=by
   have:=congrArg k9 ha;rw[Yr] at this;exact Zg (Zg (n9 ..) (o5 this)) (ö▸Zg lb (by decide))
  refine ah (aF hG 40 (t6.mk (ie (PU (u9.mono ⋯) X_.lenC Y'.rows Y'.ok Y'.heads) ?_)));rw[show (items.foldl dl ⟨[],none,[]⟩).all=ă.flatMap fK from Y'.all];refine aP (v:=.int (k0:Nat)) @_ (.tail _ (.tail _ (.head _))) (t6.mk (ie (PV (u9.mono ⋯) Y'.len (Ĝ▸Zg la (by decide)) (fun y hy=>Zg (Y5 y hy) (by decide)) Y'.gok hz) ?_));rw[show (ă.foldl (cn D k0) ⟨-1,[],[]⟩).after++D.drop (ă.foldl (cn D k0) ⟨-1,[],[]⟩).pos.toNat=dT b k0 D ps from ha,show (ă.foldl (cn D k0) ⟨-1,[],[]⟩).gone=gL a k0 D ps from hg2];refine ah (aF hG 60 (t6.mk (fw (x:=.lst ((gL a k0 D ps).map az)) (by decide) (by decide) rfl (t6.mk (Xm Fr (u9.mono ⋯) .frz .frz rfl ?_)))));refine t6.mk (T.frz (dq rfl fun n hn=>⟨_,_,_,rfl,rfl,t6.mk (pA (f:=AV.str) fO (as:=tE a b (jK script)) (bs:=[]) (u9.mono ⋯) .frz .frz ?_)⟩));refine aP (v:=aT b) @_ (.tail _ (.head _)) (t6.mk (pA (f:=AV.str) fO (as:=a) (bs:=b) (u9.mono ⋯) .frz .frz (t6.mk (Hb X_.emp ?_))));refine bD hG 20 (t6.mk (fw (x:=.lst ((dT b k0 D ps).map az)) (by decide) (by decide) rfl ?_));exact .next (l:=_::_::_::_::_::(fA::led)) (.mk (gs:=Zx (k0+1) m) (fun O y=>y (k0+1) m (dT b k0 D ps) (aU (.lst (ps.map cJ))) (aU (aT b)) (aU (.int (k0:Nat))) rfl ((o4 k0 m).trans hkm) (p8 (YD k0)) (hnx.trans hb.symm) Ψ gj gj gj) @_)
 ·exact fun k m D ep eb ek O O O O O O O O=>Nx.mk (fun O y=>y D ep eb ek) @_
 ·intro D ep eb ek;refine bD hG 20 (aP (v:=.lst (D.map az)) @_ (.tail _ (.tail _ (.tail _ (.head _)))) (t6.mk (XB Fr (u9.mono ⋯) .frz .frz rfl ?_)));exact⟨fA::led,⟨[_,_,_,_,_],.refl _⟩,rfl,s7.mpr ⟨.head _,aG⟩⟩
structure B0 (a b:List Str) (alo t9 blo t7 p q k:Nat):Prop where
 p1:alo<=p
 p2:p+k<=t9
 q1:blo<=q
 q2:q+k<=t7
 e:∀d,d<k->a[p+d]?=b[q+d]?
def I3(p q k p' q' k':Nat):Prop:=k'<k∨(k'=k/\(p<p'∨(p=p'/\q<=q')))
structure H2 (a b:List Str) (alo t9 blo t7 p q k:Nat):Prop where
 run:B0 a b alo t9 blo t7 p q k
 best:∀p' q' k',0<k'->B0 a b alo t9 blo t7 p' q' k'->I3 p q k p' q' k'
theorem H2.uniq{a b:List Str}{t9 p q p' q' k':Nat}(h:H2 a b alo t9 blo t7 p q k)(h':H2 a b alo t9 blo t7 p' q' k')(hk:0<k):p'=p/\q'=q/\k'=k:=by
 have h1:=h'.best p q k hk h.run;have ï:0<k':=h1.elim (fun c=>o0 (YD _) c) fun c=>c.1▸hk;have h2:=h.best p' q' k' ï h'.run;rcases h1 with c |⟨e1,c⟩ <;> rcases h2 with d |⟨e2,d⟩
 ·exact absurd c (Nat.lt_asymm d)
 ·exact absurd c (e2▸d7 _)
 ·exact absurd d (e1▸d7 _)
 ·rcases c with c |⟨c1,c2⟩ <;> rcases d with d |⟨d1,d2⟩
  ·exact absurd c (Nat.lt_asymm d)
  ·exact absurd c (d1▸d7 _)
  ·exact absurd d (c1▸d7 _)
  ·exact⟨c1,Nat.le_antisymm c2 d2,e2⟩
theorem I3.more{p q p' q' k' u v m:Nat}(h:I3 p q k p' q' k')(hm:k<m):I3 u v m p' q' k':=.inl (h.elim (fun c=>Nat.lt_trans c hm) fun c=>c.1▸hm)
theorem Kt(a:List Str):∀(b:List Str) (d:Nat),d<iu a b->a[d]?=b[d]?:=by
 induction a with
 |nil=>exact fun b d h=>absurd h (Nat.not_lt_zero d)
 |cons x xs ih =>
  intro b d h;cases b with
  |nil=>exact absurd h (Nat.not_lt_zero d)
  |cons y ys =>
   rw[qp] at h;split at h
   ·cases d with
    |zero=>exact congrArg some ‹x=y›
    |succ d=>exact ih ys d (Nat.lt_of_succ_lt_succ h)
   ·exact absurd h (Nat.not_lt_zero d)
theorem Kr(a:List Str):∀(b:List Str) (k:Nat),k<=a.length->k<=b.length->(∀d,d<k->a[d]?=b[d]?)->k<=iu a b:=by
 induction a with
 |nil=>exact fun b k h O O=>h
 |cons x xs ih =>
  intro b k h1 h2 h;cases k with
  |zero=>exact YD _
  |succ k =>
   cases b with
   |nil=>exact h2
   |cons y ys =>
    rw[qp,if_pos (d8 (h 0 (Nat.succ_pos k)))];exact p8 (ih ys k (Nat.le_of_succ_le_succ h1) (Nat.le_of_succ_le_succ h2) fun d hd=>h (d+1) (Nat.succ_lt_succ hd))
section
variable{a b:List Str}
theorem KK(hi:i<=a.length)(hj:j<=b.length):B0 a b 0 a.length 0 b.length i j (cC a b i j) :=
 have h:=mM (a:=a) (b:=b) (i:=i) (j:=j)
 ⟨YD _,Nat.add_le_of_le_sub' hi h.1,YD _,Nat.add_le_of_le_sub' hj h.2,fun d hd=>by
  have:=Kt _ _ d hd;rwa [List.getElem?_drop,List.getElem?_drop] at this⟩
theorem Be(h:B0 a b 0 a.length 0 b.length i j k):k<=cC a b i j :=
 Kr _ _ k (by rw[p9];exact Nat.le_sub_of_add_le' h.p2) (by rw[p9];exact Nat.le_sub_of_add_le' h.q2) fun d hd=>by
  rw[List.getElem?_drop,List.getElem?_drop];exact h.e d hd
structure BI (a b:List Str) (i j:Nat) (t:ab):Prop where
 run:B0 a b 0 a.length 0 b.length t.2.1 t.2.2 t.1
 best:∀p q k,0<k->B0 a b 0 a.length 0 b.length p q k->(p<i∨(p=i/\q<j))->I3 t.2.1 t.2.2 t.1 p q k
 lex:t.1=0∨t.2.1<i∨(t.2.1=i/\t.2.2<j)
theorem BI.step{t:ab}(hi:i<=a.length)(hj:j<=b.length)(h:BI a b i j t):BI a b i (j+1) (gC a b i t j):=by
 unfold gC;split
 ·rename_i c
  refine⟨KK hi hj,fun p q k hk hr ho=>?_,.inr (.inr ⟨rfl,g4 j⟩)⟩;by_cases hc:p=i/\q=j
  ·obtain⟨rfl,rfl⟩:=hc;exact(Nat.lt_or_eq_of_le (Be hr)).elim .inl fun e => .inr ⟨e,.inr ⟨rfl,YR _⟩⟩
  ·exact(h.best p q k hk hr (ho.imp id fun z=>⟨z.1,Nat.lt_of_le_of_ne (Nat.le_of_lt_succ z.2) fun e=>hc ⟨z.1,e⟩⟩)).more c
 ·rename_i c
  refine⟨h.run,fun p q k hk hr ho=>?_,h.lex.imp id (Or.imp id fun z=>⟨z.1,Nat.lt_succ_of_lt z.2⟩)⟩;by_cases hc:p=i/\q=j
  ·obtain⟨rfl,rfl⟩:=hc;refine(Nat.lt_or_eq_of_le (Zg (Be hr) (Nat.not_lt.mp c))).elim .inl fun e => .inr ⟨e,?_⟩;exact h.lex.elim (fun z=>absurd (e.trans z) (Nat.ne_of_gt hk)) (Or.imp id fun z=>⟨z.1,a6 z.2⟩)
  ·exact h.best p q k hk hr (ho.imp id fun z=>⟨z.1,Nat.lt_of_le_of_ne (Nat.le_of_lt_succ z.2) fun e=>hc ⟨z.1,e⟩⟩)
theorem BI.cells(hi:i<=a.length)(n:Nat):∀(j:Nat) (t:ab),j+n<=b.length->BI a b i j t->BI a b i (j+n) ((Zx j n).foldl (gC a b i) t):=by
 induction n with
 |zero=>exact fun O O O h=>h
 |succ n ih=>exact fun j t hn h=>(o4 j n)▸ih (j+1) _ ((o4 j n).symm▸hn) (h.step hi (Zg (n9 ..) hn))
theorem BI.row{t:ab}(hi:i<=a.length)(h:BI a b i 0 t):BI a b (i+1) 0 (gD a b t i):=by
 have r:=BI.cells hi b.length 0 t (o5 (r0 _)) h;refine⟨r.run,fun p q k hk hr ho=>r.best p q k hk hr ?_,r.lex.imp id fun z => .inl (z.elim (fun z=>Nat.lt_succ_of_lt z) fun z=>Nat.lt_succ_of_le (o5 z.1))⟩;have hp:=ho.resolve_right fun z=>Nat.not_lt_zero _ z.2;exact(Nat.lt_or_eq_of_le (Nat.le_of_lt_succ hp)).imp id fun e=>⟨e,(r0 b.length).symm▸o6 (s6 hk) hr.q2⟩
theorem BI.rows(n:Nat):∀(i:Nat) (t:ab),i+n<=a.length->BI a b i 0 t->BI a b (i+n) 0 ((Zx i n).foldl (gD a b) t):=by
 induction n with
 |zero=>exact fun O O O h=>h
 |succ n ih=>exact fun i t hn h=>(o4 i n)▸ih (i+1) _ ((o4 i n).symm▸hn) (h.row (Zg (n9 ..) hn))
theorem SH(a b:List Str):H2 a b 0 a.length 0 b.length (bJ a b).2.1 (bJ a b).2.2 (bJ a b).1:=by
 have r:=BI.rows a.length 0 (0,0,0) (o5 (r0 _)) (BI.mk (a:=a) (b:=b) ⟨YD _,YD _,YD _,YD _,nofun⟩ (fun p q k O O ho=>absurd ho fun z=>z.elim (Nat.not_lt_zero _) fun z=>Nat.not_lt_zero _ z.2) (.inl rfl));exact⟨r.run,fun p q k hk hr=>r.best p q k hk hr (.inl ((r0 a.length).symm▸o6 (s6 hk) hr.p2))⟩
end
section
variable{a b:List Str}{alo t9 blo t7:Nat}
def RM(a b:List Str)(alo t9 blo t7 i:Nat)(D:Int->Nat):Prop:=∀p q m,B0 a b alo t9 blo t7 p q m->p+m=i->m<=D (((q+m:Nat):Int)-1)
structure ċ (a b:List Str) (alo t9 blo t7 i:Nat) (js:List Nat) (t:ab):Prop where
 le:t.1+t.2.2<=i+1
 col:t.1+t.2.2=i+1->∀j∈js,t.2.1+t.2.2<=j
 best:∀p q m,B0 a b alo t9 blo t7 p q (m+1)->(p+m<i∨(p+m=i/\q+m∉js))->I3 t.1 t.2.1 t.2.2 p q (m+1)
theorem B0.pred{p q m:Nat}(h:B0 a b alo t9 blo t7 p q (m+1)):B0 a b alo t9 blo t7 p q m :=
 ⟨h.p1,Zg (p5 (Nat.le_succ m) p) h.p2,h.q1,Zg (p5 (Nat.le_succ m) q) h.q2,fun d hd=>h.e d (Nat.lt_succ_of_lt hd)⟩
theorem ċ.fold{D:Int->Nat}(hD:RM a b alo t9 blo t7 i D)(hi:∀j,D j<=i)(js:List Nat):∀s:(Int->Nat)×ab,js.Pairwise (· < ·)->(∀j∈js,D ((j:Int)-1)<=j)->ċ a b alo t9 blo t7 i js s.2->ċ a b alo t9 blo t7 i [] (js.foldl (dF D i) s).2:=by
 induction js with
 |nil=>exact fun O O O h=>h
 |cons j js ih =>
  intro s hp hj e;have p:=g9.mp hp;have dj:=hj j (Yi ..);have di:=hi ((j:Int)-1);refine ih _ p.2 (fun j' h'=>hj j' (Yk _ h')) ?_;have hm:∀p q m,B0 a b alo t9 blo t7 p q (m+1)->p+m=i->q+m=j->m<=D ((j:Int)-1):=fun p q m hr h1 h2=>h2▸hD p q m hr.pred h1;show ċ a b alo t9 blo t7 i js (if s.2.2.2<D ((j:Int)-1)+1 then (i-D ((j:Int)-1),j-D ((j:Int)-1),D ((j:Int)-1)+1) else s.2);generalize D ((j:Int)-1)=d at *;split
  ·rename_i c
   refine⟨o5 (by rw[← p6,Nat.sub_add_cancel di]),fun O j' h'=>Zg (o5 (by rw[← p6,Nat.sub_add_cancel dj])) (p.1 j' h'),fun p' q' m hr ho=>?_⟩;by_cases hc:p'+m=i/\q'+m=j
   ·obtain⟨rfl,rfl⟩:=hc;refine(Nat.lt_or_eq_of_le (hm p' q' m hr rfl rfl)).imp Nat.succ_lt_succ fun e=>?_;subst e;exact⟨rfl,.inr ⟨Nat.add_sub_cancel ..,o5 (Nat.add_sub_cancel ..)⟩⟩
   ·exact(e.best p' q' m hr (ho.imp id fun z=>⟨z.1,fun w=>(Yp.mp w).elim (fun w=>hc ⟨z.1,w⟩) z.2⟩)).more c
  ·rename_i c
   refine⟨e.le,fun h j' h'=>e.col h j' (Yk _ h'),fun p' q' m hr ho=>?_⟩;by_cases hc:p'+m=i/\q'+m=j
   ·have h1:=hm p' q' m hr hc.1 hc.2;obtain⟨rfl,rfl⟩:=hc;refine(Nat.lt_or_eq_of_le (Zg (p8 h1) (Nat.not_lt.mp c))).imp id fun w=>⟨w,?_⟩;have h2:=e.le;rw[← w] at h2;refine(Nat.lt_or_eq_of_le (Nat.le_of_add_le_add_right (show s.2.1+(m+1)<=p'+(m+1) from h2))).imp id fun v=>⟨v,?_⟩;have h3:=e.col (by rw[← w,v];rfl) _ (Yi ..);rw[← w] at h3;exact a6 (Nat.lt_of_add_lt_add_right (show s.2.2.1+m<q'+m from h3))
   ·exact e.best p' q' m hr (ho.imp id fun z=>⟨z.1,fun w=>(Yp.mp w).elim (fun w=>hc ⟨z.1,w⟩) z.2⟩)
structure Ν (a b:List Str) (alo t9 blo t7 i:Nat) (s:(Int->Nat)×ab):Prop where
 inv:C2 alo blo t7 i s
 rm:RM a b alo t9 blo t7 i s.1
 le:s.2.1+s.2.2.2<=i
 best:∀p q m,B0 a b alo t9 blo t7 p q (m+1)->p+m<i->I3 s.2.1 s.2.2.1 s.2.2.2 p q (m+1)
theorem QG(hb:b.length<200)(hi:a[i]?=some x)(hj:b[j]?=some x):j∈aI a b i:=by
 unfold aI;rw[hi];show j∈bO b x;unfold bO;rw[if_neg (by unfold qF;rw[decide_eq_false (Nat.not_le.mpr hb)];exact Zd)];exact c7.mpr ⟨List.mem_range.mpr (j5.mp hj).1,beq_iff_eq.mpr hj⟩
theorem Ν.row(hb:b.length<200)(ha:t9<=a.length){s:(Int->Nat)×ab}(hi:alo<=i)(h:Ν a b alo t9 blo t7 i s):Ν a b alo t9 blo t7 (i+1) (eQ (aI a b i) blo t7 i s):=by
 have cell:∀p q m,B0 a b alo t9 blo t7 p q (m+1)->p+m=i->q+m∈within blo t7 (aI a b i):=fun p q m hr hp=>by
  have e:=hr.e m (g4 m);have l:i<a.length:=o6 (hp▸hr.p2) ha;rw[hp,YL l] at e;exact c7.mpr ⟨QG hb (YL l) e.symm,Bool.and_eq_true_iff.mpr ⟨decide_eq_true (Zg hr.q1 (n9 ..)),decide_eq_true hr.q2⟩⟩
 have c:=ċ.fold h.rm (fun j=>Zg (h.inv.d1 j) (r7 ..)) (within blo t7 (aI a b i)) (fun O=>0,s.2) ((QF a b i).filter _) (fun j hj=>Zg (h.inv.len hi (uC hj).1).2 (r7 ..))
  ⟨r9 h.le,fun e=>absurd h.le (Nat.not_le.mpr (e▸g4 i)),fun p q m hr ho=>ho.elim (h.best p q m hr) fun z=>absurd (cell p q m hr z.1) z.2⟩
 refine⟨uV (aI a b i) h.inv hi,fun p q m hr hp=>?_,c.le,fun p q m hr ho=>c.best p q m hr ((Nat.lt_or_eq_of_le (Nat.le_of_lt_succ ho)).imp id fun e=>⟨e,ZY⟩)⟩;cases m with
 |zero=>exact YD _
 |succ m =>
  have hp:p+m=i:=Nat.succ.inj hp;rw[show ((q+(m+1):Nat):Int)-1=((q+m:Nat):Int) from Int.add_sub_cancel ((q+m:Nat):Int) 1];rw[show (eQ (aI a b i) blo t7 i s).1 ((q+m:Nat):Int)=s.1 (((q+m:Nat):Int)-1)+1 from Sh _ _ (cell p q m hr hp)];exact p8 (h.rm p q m hr.pred hp)
theorem Ν.scan(hb:b.length<200)(ha:t9<=a.length)(n:Nat):∀(i:Nat) (s:(Int->Nat)×ab),alo<=i->Ν a b alo t9 blo t7 i s->Ν a b alo t9 blo t7 (i+n) (gb (aI a b) blo t7 (Zx i n) s):=by
 induction n with
 |zero=>exact fun O O O h=>h
 |succ n ih=>exact fun i s hi h=>(o4 i n)▸ih (i+1) _ (r9 hi) (h.row hb ha hi)
theorem Tc(i j k:Nat)(h : ¬ (alo<i/\blo<j/\e (i-1) (j-1)=true)):bF e alo blo i j k=(i,j,k):=by
 cases i with
 |zero=>rfl
 |succ i=>cases j with
  |zero=>rfl
  |succ j=>exact if_neg fun c=>h (oY.mp c)
theorem Fk(hb:b.length<200)(h1:alo<=t9)(h2:blo<=t7)(ha:t9<=a.length):H2 a b alo t9 blo t7 (bq (am a b) (aI a b) alo t9 blo t7).1 (bq (am a b) (aI a b) alo t9 blo t7).2.1 (bq (am a b) (aI a b) alo t9 blo t7).2.2:=by
 have h:=Ν.scan (a:=a) (b:=b) (alo:=alo) (t9:=t9) (blo:=blo) (t7:=t7) hb ha (t9-alo) alo (fun O=>0,(alo,blo,0)) (YR _) ⟨C2.start h2,fun p q m hr hp=>by
  exact Nat.le_of_add_le_add_left (show p+m<=p+0 from hp▸hr.p1),YR _,fun p q m hr ho=>absurd ho (Nat.not_lt.mpr (Zg hr.p1 (n9 ..)))⟩
 have hr:=AU (e:=am a b) (idx:=aI a b) (alo:=alo) (EC a b) h2 (t9-alo);rw[Nat.add_sub_cancel' h1] at h;unfold bq;dsimp only;generalize gb (aI a b) blo t7 (Zx alo (t9-alo)) (fun O=>0,(alo,blo,0))=s at h hr;obtain⟨D,i,j,k⟩:=s;have hi:=h.inv;have b1:alo<=i:=hi.b1;have b2:i+k<=t9:=hi.b2;have b3:blo<=j:=hi.b3;have b4:j+k<=t7:=hi.b4;have run:B0 a b alo t9 blo t7 i j k:=⟨b1,b2,b3,b4,fun d hd=>beq_iff_eq.mp (hr d hd)⟩;have best:∀p q m,B0 a b alo t9 blo t7 p q (m+1)->I3 i j k p q (m+1):=fun p q m hq=>h.best p q m hq hq.p2;dsimp only;have eL:bF (am a b) alo blo i j k=(i,j,k):=Tc i j k fun c=>by
  obtain⟨i,rfl⟩:∃i',i=i'+1:=⟨i-1,(Nat.succ_pred_eq_of_pos (o0 (YD _) c.1)).symm⟩;obtain⟨j,rfl⟩:∃j',j=j'+1:=⟨j-1,(Nat.succ_pred_eq_of_pos (o0 (YD _) c.2.1)).symm⟩;have w:B0 a b alo t9 blo t7 i j (k+1):=⟨Nat.le_of_lt_succ c.1,o4 i k▸b2,Nat.le_of_lt_succ c.2.1,o4 j k▸b4,fun d hd=>by
   cases d with
   |zero=>exact beq_iff_eq.mp c.2.2
   |succ d=>exact o4 i d▸o4 j d▸run.e d (Nat.lt_of_succ_lt_succ hd)⟩
  exact(best i j k w).elim (fun z=>Nat.not_lt.mpr (Nat.le_succ k) z) fun z=>Nat.succ_ne_self k z.1
 rw[eL];dsimp only;have eR:cN (am a b) t9 t7 i j (t9-(i+k)) k=k:=Fo fun c=>by
  have w:B0 a b alo t9 blo t7 i j (k+1):=⟨b1,c.1,b3,c.2.1,fun d hd=>(Nat.lt_succ_iff_lt_or_eq.mp hd).elim (run.e d) fun z=>z▸beq_iff_eq.mp c.2.2⟩;exact(best i j k w).elim (fun z=>Nat.not_lt.mpr (Nat.le_succ k) z) fun z=>Nat.succ_ne_self k z.1
 rw[eR];refine⟨run,fun p' q' k' hk hq=>?_⟩;cases k' with
 |zero=>exact absurd hk (d7 0)
 |succ m=>exact best p' q' m hq
end
section
variable{a b:List Str}{alo t9 blo t7:Nat}
theorem kB(xs:List Str)(i j d:Nat)(h:i+d<j):(aE xs i j)[d]?=xs[i+d]?:=by
 unfold aE;rw[List.getElem?_take,if_pos (Nat.lt_sub_of_add_lt (Nat.add_comm i d▸h)),List.getElem?_drop]
theorem iZ{xs:List Str}(h:j<=xs.length):(aE xs i j).length=j-i:=by
 unfold aE;rw[List.length_take,p9];exact Nat.min_eq_left (Nat.sub_le_sub_right h i)
theorem AJ{xs:List Str}(h:i+n<=j):(aE xs i j).take n=aE xs i (i+n):=by
 unfold aE;rw[List.take_take,o8,Nat.min_eq_left (Nat.le_sub_of_add_le' h)]
theorem AM{xs:List Str}:(aE xs i j).drop n=aE xs (i+n) j:=by
 unfold aE;rw[List.drop_take,List.drop_drop,Nat.sub_add_eq]
theorem B0.abs{p q:Nat}(ha:alo<=t9)(hb:blo<=t7)(h:B0 (aE a alo t9) (aE b blo t7) 0 (t9-alo) 0 (t7-blo) p q k):B0 a b alo t9 blo t7 (alo+p) (blo+q) k:=by
 have h1:=h.p2;have h2:=h.q2;have k1:=Nat.add_le_of_le_sub' ha h1;have k2:=Nat.add_le_of_le_sub' hb h2;refine⟨n9 ..,(p6 ..).symm▸k1,n9 ..,(p6 ..).symm▸k2,fun d hd=>?_⟩
 have:=h.e d hd;rwa [kB a alo t9 (p+d) (o6 (Nat.add_lt_add_left (Nat.add_lt_add_left hd p) alo) k1),kB b blo t7 (q+d) (o6 (Nat.add_lt_add_left (Nat.add_lt_add_left hd q) blo) k2),← p6,← p6] at this
theorem B0.rel{p q:Nat}(h:B0 a b alo t9 blo t7 (alo+p) (blo+q) k):B0 (aE a alo t9) (aE b blo t7) 0 (t9-alo) 0 (t7-blo) p q k:=by
 have k1:=h.p2;have k2:=h.q2;rw[p6] at k1 k2;refine⟨YD _,Nat.le_sub_of_add_le' k1,YD _,Nat.le_sub_of_add_le' k2,fun d hd=>?_⟩
 have:=h.e d hd;rwa [kB a alo t9 (p+d) (o6 (Nat.add_lt_add_left (Nat.add_lt_add_left hd p) alo) k1),kB b blo t7 (q+d) (o6 (Nat.add_lt_add_left (Nat.add_lt_add_left hd q) blo) k2),← p6,← p6]
theorem H2.abs{p q:Nat}(ha:alo<=t9)(hb:blo<=t7)(h:H2 (aE a alo t9) (aE b blo t7) 0 (t9-alo) 0 (t7-blo) p q k):H2 a b alo t9 blo t7 (alo+p) (blo+q) k:=by
 refine⟨h.run.abs ha hb,fun p' q' k' hk hr=>?_⟩;obtain⟨u,rfl⟩:=Nat.le.dest hr.p1;obtain⟨v,rfl⟩:=Nat.le.dest hr.q1;exact(h.best u v k' hk hr.rel).imp id fun z=>⟨z.1,z.2.imp (Nat.add_lt_add_left · alo) fun w=>⟨congrArg (alo + ·) w.1,p5 w.2 blo⟩⟩
noncomputable def bp(t:ab):List (Nat×Nat):=(Zx 0 t.2.2).map fun m=>(t.1+m,t.2.1+m)
noncomputable def ir(i j:Nat)(p:Nat×Nat):Nat×Nat:=(i+p.1,j+p.2)
theorem FI(f:Nat)(b:List Str):cq f [] b=[]:=by cases f <;> rfl
theorem FH(f:Nat)(a:List Str):cq f a []=[]:=by
 cases f with
 |zero=>rfl
 |succ f =>
  have h:=(pf a []).2;exact if_pos (Nat.le_zero.mp (Zg (Nat.le_add_left ..) h))
theorem iY{xs:List Str}(h:j<=i):aE xs i j=[]:=by
 unfold aE;rw[Nat.sub_eq_zero_of_le h];rfl
theorem TL(hb:b.length<200)(f:Nat):∀alo t9 blo t7:Nat,alo<=t9->t9<=a.length->blo<=t7->t7<=b.length ->
  (cE (bq (am a b) (aI a b)) f alo t9 blo t7).flatMap bp=(cq f (aE a alo t9) (aE b blo t7)).map (ir alo blo):=by
 induction f with
 |zero=>exact fun O O O O O O O O=>rfl
 |succ f ih =>
  intro alo t9 blo t7 h1 h2 h3 h4;have e1:=Fk (a:=a) hb h1 h3 h2;have e2:=SH (aE a alo t9) (aE b blo t7);rw[iZ h2,iZ h4] at e2;have e3:=e2.abs h1 h3;have Q1:=pf (aE a alo t9) (aE b blo t7);unfold C0 at Q1;rw[iZ h2,iZ h4] at Q1;show (if (bq (am a b) (aI a b) alo t9 blo t7).2.2=0 then [] else _).flatMap bp=(if (bJ (aE a alo t9) (aE b blo t7)).1=0 then [] else _).map (ir alo blo);generalize bq (am a b) (aI a b) alo t9 blo t7=r at *;generalize bJ (aE a alo t9) (aE b blo t7)=t at *;by_cases h0:t.1=0
  ·have:r.2.2=0:=Nat.eq_zero_of_not_pos fun z=>absurd (e1.uniq e3 z).2.2 (fun w=>Nat.ne_of_gt z (w.symm.trans h0));rw[if_pos this,if_pos h0];rfl
  ·obtain⟨u1,u2,u3⟩:=e3.uniq e1 (Nat.pos_of_ne_zero h0);obtain⟨r1,r2,r3⟩:=r;dsimp only at u1 u2 u3;subst u1 u2 u3;obtain⟨n,i,j⟩:=t;dsimp only at h0 Q1 ⊢;rw[if_neg h0,if_neg h0,o9,o7,YK,YK,YN];have hi:=Nat.add_le_of_le_sub' h1 Q1.1;have hj:=Nat.add_le_of_le_sub' h3 Q1.2;rw[← p6] at hi hj;have hi0:=Zg (n9 (alo+i) n) hi;have hj0:=Zg (n9 (blo+j) n) hj;have s1:(if alo<alo+i/\blo<blo+j then cE (bq (am a b) (aI a b)) f alo (alo+i) blo (blo+j) else []).flatMap bp=(cq f ((aE a alo t9).take i) ((aE b blo t7).take j)).map (ir alo blo):=by
    rw[AJ hi0,AJ hj0];split
    ·exact ih alo (alo+i) blo (blo+j) (n9 ..) (Zg hi0 h2) (n9 ..) (Zg hj0 h4)
    ·rename_i c
     by_cases c1:i=0
     ·rw[iY (j:=alo+i) (o5 (by rw[c1];rfl)),FI];rfl
     ·rw[iY (xs:=b) (j:=blo+j) (Nat.not_lt.mp fun z=>c ⟨s6 (Nat.pos_of_ne_zero c1),z⟩),FH];rfl
   have s2:(if alo+i+n<t9/\blo+j+n<t7 then cE (bq (am a b) (aI a b)) f (alo+i+n) t9 (blo+j+n) t7 else []).flatMap bp=(kC (n,i,j) (cq f ((aE a alo t9).drop (i+n)) ((aE b blo t7).drop (j+n)))).map (ir alo blo):=by
    rw[AM,AM,← p6,← p6];split
    ·rw[ih (alo+i+n) t9 (blo+j+n) t7 hi h2 hj h4,kC,ZR];refine d6 fun p O=>?_;show (alo+i+n+p.1,blo+j+n+p.2)=(alo+(i+n+p.1),blo+(j+n+p.2));rw[p6,p6,p6 blo,p6 blo,p6 i,p6 j]
    ·rename_i c
     by_cases c1:t9<=alo+i+n
     ·rw[iY c1,FI];rfl
     ·rw[iY (xs:=b) (i:=blo+j+n) (Nat.not_lt.mp fun z=>c ⟨Nat.not_le.mp c1,z⟩),FH];rfl
   have s3:bp (alo+i,blo+j,n)=(jf (n,i,j)).map (ir alo blo):=by
    unfold bp jf;rw[ZR];refine d6 fun m O=>?_;show (alo+i+m,blo+j+m)=(alo+(i+m),blo+(j+m));rw[p6,p6]
   exact s1▸s2▸s3▸rfl
end
theorem AI(xs:List Str):aE xs 0 xs.length=xs:=List.take_length
theorem JF(ps:List (Nat×Nat)):ps.map (ir 0 0)=ps:=by
 rw[show ir 0 0=id from funext fun p=>by unfold ir;rw[r0,r0];rfl,List.map_id]
theorem TK{a b:List Str}{f:Nat}(hb:b.length<200)(ha:a.length<=f):(bf (bq (am a b) (aI a b)) (0,a.length,0,b.length)).flatMap bp=cq f a b:=by
 have h:=TL (a:=a) hb f 0 a.length 0 b.length (YD _) (YR _) (YD _) (YR _);rw[AI,AI,JF] at h;rw[← h];exact congrArg (List.flatMap bp) (sQ (fe (am a b) (aI a b)) _ _ _ _ _ _ (YD _) (YD _) (by show a.length<=0+(a.length-0);omega) (by show a.length<=0+f;omega))
theorem AW(i j k l:Nat):bp (i,j,k+l)=bp (i,j,k)++bp (i+k,j+k,l):=by
 unfold bp;rw[show (Zx 0 (k+l))=Zx 0 k++Zx (0+k) l from(List.range'_append_1).symm,YK];refine congrArg (_ ++ ·) ?_;rw[r0,← Nat.add_zero k,List.range'_eq_map_range (s:=k+0),List.range'_eq_map_range (s:=0),ZR,ZR];refine d6 fun m O=>?_;exact Prod.ext (show i+(k+0+m)=i+(k+0)+(0+m) by omega) (show j+(k+0+m)=j+(k+0)+(0+m) by omega)
theorem Go(s:ab×List ab):(dW s).flatMap bp=s.2.flatMap bp++bp s.1:=by
 unfold dW;split
 ·rename_i h
  rw[show bp s.1=[] by unfold bp;rw[h];rfl,Zv]
 ·rw[o9,List.flatMap_singleton]
theorem UX(ts:List ab):∀s:ab×List ab,(dW (ts.foldl cA s)).flatMap bp=s.2.flatMap bp++bp s.1++ts.flatMap bp:=by
 induction ts with
 |nil=>exact fun s=>(Go s).trans (Zv _).symm
 |cons t ts ih =>
  intro s;rw[Zu,ih,o7,← YN];refine congrArg (· ++ ts.flatMap bp) ?_;unfold cA;split
  ·rename_i c
   obtain⟨⟨i,j,k⟩,l⟩:=s;obtain⟨i',j',k'⟩:=t;dsimp only at c ⊢;obtain⟨rfl,rfl⟩:=c;rw[AW,YN]
  ·exact congrArg (· ++ bp t) (Go s)
theorem Uw(fl:Nat->Nat->Nat->Nat->ab)(la lb:Nat):(aW fl la lb).flatMap bp=(bf fl (0,la,0,lb)).flatMap bp:=by
 unfold aW;rw[o9,UX];exact Zv _
noncomputable def dy(o:Op):List (Nat×Nat):=if o.tag=av then bp (o.i1,o.j1,o.i2-o.i1) else []
theorem Ud(i ai j bj:Nat):(bC i ai j bj).flatMap dy=[]:=by
 unfold bC;split
 ·rfl
 ·split
  ·rfl
  ·split <;> rfl
theorem Qm(t:ab):(cW t).flatMap dy=bp t:=by
 unfold cW;split
 ·rename_i h
  unfold bp;rw[h];rfl
 ·show dy _++[]=_;rw[Zv,dy,if_pos rfl,o8]
theorem NE(ts:List ab):∀s:(Nat×Nat)×List Op,(ts.foldl cr s).2.flatMap dy=s.2.flatMap dy++ts.flatMap bp:=by
 induction ts with
 |nil=>exact fun s=>(Zv _).symm
 |cons t ts ih =>
  intro s;rw[Zu,ih,o7,← YN];refine congrArg (· ++ ts.flatMap bp) ?_;unfold cr;rw[o9,o9,Ud,Qm,Zv]
theorem TJ{a b:List Str}{f:Nat}(hb:b.length<200)(ha:a.length<=f):cq f a b=(bY (aW (bq (am a b) (aI a b)) a.length b.length)).flatMap dy :=
 ((TK hb ha).symm.trans (Uw _ _ _).symm).trans (NE _ ((0,0),[])).symm
section
noncomputable def kp(n:Nat):Nat->List (Bool×α)->List (Bool×α)
 |_,[]=>[]
 |c,(true,x)::r=>(true,x)::kp n n r
 |c,(false,x)::r=>(if 0<c∨(r.take n).any (·.1)=true then [(false,x)] else [])++kp n (c-1) r
def K3:List Op->Prop
 | []=>True
 | [_]=>True
 |o::p::os => ¬ (o.tag=av/\p.tag=av)/\K3 (p::os)
theorem K3.tail(h:K3 (o::os)):K3 os:=by
 cases os with
 |nil=>trivial
 |cons p os=>exact h.2
variable{ka:List α}{ch:Op->List α}{os g:List Op}
theorem En(a b n:Nat):max a (b-n)=a+(b-a-n):=by rw[Nat.sub_right_comm,Nat.add_comm,Nat.sub_add_eq_max,Nat.max_comm]
theorem PY: ¬ ((bg n o).tag=av/\(bg n o).i1+(n+n)<(bg n o).i2):=fun h=>by
 rw[oL] at h;unfold bg at h;rw[if_pos h.1] at h;exact Nat.not_lt.mpr (Zg (Nat.min_le_right ..) (p5 (n9 ..) _)) h.2
theorem QW(he:o.tag=av):bh n o=⟨o.tag,max o.i1 (o.i2-n),o.i2,max o.j1 (o.j2-n),o.j2⟩:=if_pos he
theorem QU: ¬ ((bh n o).tag=av/\(bh n o).i1+(n+n)<(bh n o).i2):=fun h=>by
 rw[tr] at h;rw[QW h.1] at h;exact Nat.not_lt.mpr (Zg (Nat.le_add_of_sub_le (Nat.le_max_right o.i1 (o.i2-n))) (p5 (Nat.le_add_left ..) _)) h.2
end
def A6:List ab->Prop
 | []=>True
 | [_]=>True
 |t::u::ts => ¬ (t.1+t.2.2=u.1/\t.2.1+t.2.2=u.2.1)/\A6 (u::ts)
theorem A6.tail{t:ab}{ts:List ab}(h:A6 (t::ts)):A6 ts:=by
 cases ts with
 |nil=>trivial
 |cons u ts=>exact h.2
theorem A6.snoc2{t u:ab}(h : ¬ (t.1+t.2.2=u.1/\t.2.1+t.2.2=u.2.1)):∀xs:List ab,A6 (xs++[t])->A6 (xs++[t]++[u])
 | [],_=>⟨h,trivial⟩
 | [x],k=>⟨k.1,h,trivial⟩
 |x::y::xs,k=>⟨k.1,A6.snoc2 h (y::xs) k.2⟩
theorem A6.grow{t u:ab}(h1:t.1=u.1)(h2:t.2.1=u.2.1):∀xs:List ab,A6 (xs++[t])->A6 (xs++[u])
 | [],_=>trivial
 | [x],k=>⟨h1▸h2▸k.1,trivial⟩
 |x::y::xs,k=>⟨k.1,A6.grow h1 h2 (y::xs) k.2⟩
theorem A6.init{t:ab}:∀xs:List ab,A6 (xs++[t])->A6 xs
 | [],_=>trivial
 | [x],_=>trivial
 |x::y::xs,k=>⟨k.1,A6.init (y::xs) k.2⟩
def F_(s:ab×List ab):Prop:=A6 (s.2++[s.1])/\(∀t∈s.2,0<t.2.2)/\(s.1.2.2=0->s.2=[])
theorem F_.step{s:ab×List ab}{t:ab}(h:F_ s)(ht:0<t.2.2):F_ (cA s t):=by
 unfold cA;split
 ·rename_i c
  exact⟨A6.grow (t:=s.1) (u:=(s.1.1,s.1.2.1,s.1.2.2+t.2.2)) rfl rfl s.2 h.1,h.2.1,fun e=>absurd e (Nat.ne_of_gt (o6 ht (Nat.le_add_left ..)))⟩
 ·rename_i c
  refine⟨?_,?_,fun e=>absurd e (Nat.ne_of_gt ht)⟩
  ·dsimp only;split
   ·rename_i e
    rw[h.2.2 e];trivial
   ·exact A6.snoc2 c _ h.1
  ·dsimp only;split
   ·exact h.2.1
   ·exact gh h.2.1 ⋯
theorem Va(ts:List ab):∀s:ab×List ab,F_ s->(∀t∈ts,0<t.2.2)->F_ (ts.foldl cA s):=by
 induction ts with
 |nil=>exact fun O h O=>h
 |cons t ts ih=>exact fun s h k=>ih _ (h.step (k t (Yi ..))) fun u hu=>k u (Yk _ hu)
theorem Uv{fl:Nat->Nat->Nat->Nat->ab}(ok:cQ fl)(la lb:Nat):∃xs,aW fl la lb=xs++[(la,lb,0)]/\A6 xs/\∀t∈xs,0<t.2.2:=by
 have h:=Va (bf fl (0,la,0,lb)) ((0,0,0),[]) ⟨trivial,aG,fun O=>rfl⟩ fun t ht=>(yc ok (la-0) 0 la 0 lb (YD _) (YD _) t ht).2.2.2.2;refine⟨_,rfl,?_⟩;unfold dW;split
 ·exact⟨h.1.init,h.2.1⟩
 ·rename_i c
  exact⟨h.1,gh h.2.1 ⋯⟩
noncomputable def iA:Nat->Nat->List ab->List Op
 |_,_,[]=>[]
 |i,j,t::ts=>bC i t.1 j t.2.1++(cW t++iA (t.1+t.2.2) (t.2.1+t.2.2) ts)
theorem CI(ts:List ab):∀s:(Nat×Nat)×List Op,(ts.foldl cr s).2=s.2++iA s.1.1 s.1.2 ts:=by
 induction ts with
 |nil=>exact fun s=>(Zv _).symm
 |cons t ts ih=>exact fun s=>(ih (cr s t)).trans (show s.2++bC s.1.1 t.1 s.1.2 t.2.1++cW t++_=s.2++(bC s.1.1 t.1 s.1.2 t.2.1++(cW t++_)) by rw[YN,YN];rfl)
theorem K3.cons(h:K3 os)(k:∀p ps,os=p::ps -> ¬ (o.tag=av/\p.tag=av)):K3 (o::os):=by
 cases os with
 |nil=>trivial
 |cons p os=>exact⟨k p os rfl,h⟩
theorem FR{ai bj:Nat}(h:K3 os):K3 (bC i ai j bj++os):=by
 have k:∀t,t=bR∨t=bx∨t=bA->K3 ([⟨t,i,ai,j,bj⟩]++os):=fun t ht=>h.cons fun p ps O q=>sG ht q.1;unfold bC;split
 ·exact k _ (.inl rfl)
 ·split
  ·exact k _ (.inr (.inl rfl))
  ·split
   ·exact k _ (.inr (.inr rfl))
   ·exact h
theorem Ue{ai bj:Nat}(h1:i<=ai)(h2:j<=bj)(e:bC i ai j bj=[]):i=ai/\j=bj:=by
 unfold bC at e;split at e
 ·cases e
 ·split at e
  ·cases e
  ·split at e
   ·cases e
   ·rename_i c d
    exact⟨Nat.le_antisymm h1 (Nat.not_lt.mp c),Nat.le_antisymm h2 (Nat.not_lt.mp d)⟩
theorem Ug{ai bj:Nat}{rest:List Op}(h1:i<=ai)(h2:j<=bj)(e:bC i ai j bj++rest=o::os)(he:o.tag=av):i=ai/\j=bj:=by
 cases q:bC i ai j bj with
 |nil=>exact Ue h1 h2 q
 |cons p ps =>
  rw[q] at e;obtain⟨rfl,_⟩:=c9 e;exact absurd he (yI (Q:=fun o=>o.tag≠av) (fun t O O O O ht=>sG ht) p (q▸Yi ..))
theorem Sb{la lb:Nat}(xs:List ab):∀i j,G3 i j (xs++[(la,lb,0)])->A6 xs->(∀t∈xs,0<t.2.2) ->
  K3 (iA i j (xs++[(la,lb,0)]))/\∀o os,iA i j (xs++[(la,lb,0)])=o::os->o.tag=av->∃t ts,xs=t::ts/\i=t.1/\j=t.2.1:=by
 induction xs with
 |nil =>
  intro i j ha _ _;have e:iA i j ([]++[(la,lb,0)])=bC i la j lb++[]:=rfl;rw[e];refine⟨FR trivial,fun o os q he=>?_⟩;rw[Zv] at q;exact absurd he (yI (Q:=fun o=>o.tag≠av) (fun t O O O O ht=>sG ht) o (q▸Yi ..))
 |cons t ts ih =>
  intro i j ha hn hp;have r:=ih (t.1+t.2.2) (t.2.1+t.2.2) ha.2.2 hn.tail fun u hu=>hp u (Yk _ hu);have ht:=hp t (Yi ..);have e:iA i j (t::ts++[(la,lb,0)])=bC i t.1 j t.2.1++(⟨av,t.1,t.1+t.2.2,t.2.1,t.2.1+t.2.2⟩::iA (t.1+t.2.2) (t.2.1+t.2.2) (ts++[(la,lb,0)])):=by
   show bC i t.1 j t.2.1++(cW t++_)=_;unfold cW;rw[if_neg (Nat.ne_of_gt ht)];rfl
  rw[e];refine⟨FR (r.1.cons fun p ps q h=>?_),fun o os q he=>⟨t,ts,rfl,Ug ha.1 ha.2.1 q he⟩⟩;obtain⟨u,us,rfl,e1,e2⟩:=r.2 p ps q h.2;exact hn.1 ⟨e1,e2⟩
theorem NK{fl:Nat->Nat->Nat->Nat->ab}(ok:cQ fl)(la lb:Nat):K3 (bY (aW fl la lb)):=by
 obtain⟨xs,e,h1,h2⟩:=Uv ok la lb;have ha:=yM ok la lb;unfold bY;rw[e] at ha ⊢;rw[CI];exact(Sb xs 0 0 ha h1 h2).1
structure A0 (la lb:Nat) (e:Nat->Nat->Bool) (o:Op):Prop where
 tg:ph o.tag
 eq:pD e o
 ins:o.tag=bA->o.i1=o.i2
 del:o.tag=bx->o.j1=o.j2
 ne1:o.tag=bR∨o.tag=bx->o.i1<o.i2
 ne2:o.tag=bR∨o.tag=bA->o.j1<o.j2
 i2:o.i1<=o.i2/\o.i2<=la
 j2:o.j1<=o.j2/\o.j2<=lb
structure D' (o:Op):Prop where
 ins:o.tag=bA->o.i1=o.i2
 del:o.tag=bx->o.j1=o.j2
 ne1:o.tag=bR∨o.tag=bx->o.i1<o.i2
 ne2:o.tag=bR∨o.tag=bA->o.j1<o.j2
theorem Ub{ai bj:Nat}(h1:i<=ai)(h2:j<=bj):∀o∈bC i ai j bj,D' o:=by
 unfold bC;split
 ·rename_i c
  exact fun o ho=>YB.mp ho▸⟨fun e=>absurd (show bR=bA from e) (by decide),fun e=>absurd (show bR=bx from e) (by decide),fun O=>c.1,fun O=>c.2⟩
 ·split
  ·rename_i c d
   exact fun o ho=>YB.mp ho▸⟨fun e=>absurd (show bx=bA from e) (by decide),fun O=>by dsimp only;omega,fun O=>d,fun e=>absurd (show bx=bR∨bx=bA from e) (by decide)⟩
  ·split
   ·rename_i c d e
    exact fun o ho=>YB.mp ho▸⟨fun O=>by dsimp only;omega,fun e=>absurd (show bA=bx from e) (by decide),fun e=>absurd (show bA=bR∨bA=bx from e) (by decide),fun O=>e⟩
   ·exact aG
theorem Qk(t:ab):∀o∈cW t,D' o:=by
 unfold cW;split
 ·exact aG
 ·exact fun o ho=>YB.mp ho▸⟨fun e=>absurd (show av=bA from e) (by decide),fun e=>absurd (show av=bx from e) (by decide),fun e=>absurd (show av=bR∨av=bx from e) (by decide),fun e=>absurd (show av=bR∨av=bA from e) (by decide)⟩
theorem Sa(ts:List ab):∀i j,G3 i j ts->∀o∈iA i j ts,D' o:=by
 induction ts with
 |nil=>exact fun O O O=>aG
 |cons t ts ih=>exact fun i j h o ho=>(Zh.mp ho).elim (Ub h.1 h.2.1 o) fun ho=>(Zh.mp ho).elim (Qk t o) (ih _ _ h.2.2 o)
theorem NJ(a b:List Str):∀o∈bY (aW (bq (am a b) (aI a b)) a.length b.length),A0 a.length b.length (am a b) o:=fun o ho=>by
 have p:=(qI (fe (am a b) (aI a b)) a.length b.length).mem o ho;have s:=Sa _ 0 0 (yM (fe (am a b) (aI a b)) a.length b.length) o (by
  have:=CI (aW (bq (am a b) (aI a b)) a.length b.length) ((0,0),[]);unfold bY at ho;rw[this] at ho;exact ho)
 exact⟨CJ _ o ho,CK a b o ho,s.ins,s.del,s.ne1,s.ne2,p.2.1 |> fun q=>⟨q,p.2.2.1⟩,⟨p.2.2.2.2.1,p.2.2.2.2.2⟩⟩
section
variable{la lb n:Nat}
theorem A0.ofEq{i1 i2 j1 j2:Nat}(h1:i2=i1+k)(h2:j2=j1+k)(hr:y7 e (i1,j1,k))(l1:i2<=la)(l2:j2<=lb):A0 la lb e ⟨av,i1,i2,j1,j2⟩ :=
 ⟨.inl rfl,fun O=>⟨k,h1,h2,hr⟩,fun q=>absurd (show av=bA from q) (by decide),fun q=>absurd (show av=bx from q) (by decide),fun q=>absurd (show av=bR∨av=bx from q) (by decide),
  fun q=>absurd (show av=bR∨av=bA from q) (by decide),⟨h1▸n9 ..,l1⟩,⟨h2▸n9 ..,l2⟩⟩
theorem A0.cutL(h:A0 la lb e o)(he:o.tag=av):A0 la lb e ⟨o.tag,o.i1,min o.i2 (o.i1+n),o.j1,min o.j2 (o.j1+n)⟩ :=
 aZ (h.eq he) fun k h1 h2 h3=>by
  rw[he,h1,h2,Nat.add_min_add_left,Nat.add_min_add_left];exact .ofEq rfl rfl (fun d hd=>h3 d (o6 hd (Nat.min_le_left ..))) (Zg (p5 (Nat.min_le_left ..) _) (h1▸h.i2.2)) (Zg (p5 (Nat.min_le_left ..) _) (h2▸h.j2.2))
theorem FJ{a:Nat}:a+k=a+(k-n)+min k n:=by rw[p6,Nat.sub_add_min_cancel]
theorem A0.cutR(h:A0 la lb e o)(he:o.tag=av):A0 la lb e ⟨o.tag,max o.i1 (o.i2-n),o.i2,max o.j1 (o.j2-n),o.j2⟩ :=
 aZ (h.eq he) fun k h1 h2 h3=>by
  have l1:=h.i2.2;have l2:=h.j2.2;rw[h1] at l1;rw[h2] at l2;rw[he,h1,h2,En,En,o8,o8];refine .ofEq (k:=min k n) FJ FJ (fun d hd=>?_) l1 l2
  have:=h3 (k-n+d) (Nat.lt_of_lt_of_eq (Nat.add_lt_add_left hd _) (Nat.sub_add_min_cancel ..));rw[← p6,← p6] at this;exact this
theorem A0.head(h:A0 la lb e o):A0 la lb e (bh n o):=by
 unfold bh;split
 ·rename_i he
  exact h.cutR he
 ·exact h
theorem A0.last(h:A0 la lb e o):A0 la lb e (bg n o):=by
 unfold bg;split
 ·rename_i he
  exact h.cutL he
 ·exact h
end
theorem CQ{Q:Op->Prop}{f:Op->Op}(hf:∀o,Q o->Q (f o)):∀os:List Op,(∀o∈os,Q o)->∀o∈dg f os,Q o
 | [],_=>aG
 | [o],h=>fun p hp=>YB.mp hp▸hf o (h o (Yi ..))
 |o::p::os,h=>fun q hq=>(Yp.mp hq).elim (fun e=>e▸h o (Yi ..)) (CQ hf (p::os) (fun r hr=>h r (Yk _ hr)) q)
theorem Ob{Q:Op->Prop}{f:Op->Op}(hf:∀o,Q o->Q (f o)):∀os:List Op,(∀o∈os,Q o)->∀o∈jz f os,Q o
 | [],_=>aG
 |o::os,h=>fun p hp=>(Yp.mp hp).elim (fun e=>e▸hf o (h o (Yi ..))) fun hp=>h p (Yk _ hp)
theorem SG{la lb:Nat}(codes:List Op):∀group:List Op,(∀o∈group,A0 la lb e o)->(∀o∈codes,A0 la lb e o)->∀g∈cF n group codes,∀o∈g,A0 la lb e o:=by
 induction codes with
 |nil=>exact fun group h1 O=>gW (P:=fun l=>∀g∈l,∀o∈g,A0 la lb e o) (fun O=>aG) (fun O=>aG) fun O O g hg=>YB.mp hg▸h1
 |cons o os ih =>
  intro group h1 h2;have ho:=h2 o (Yi ..);have h3:∀p∈os,A0 la lb e p:=fun p hp=>h2 p (Yk _ hp);exact lS (P:=fun l=>∀g∈l,∀o∈g,A0 la lb e o) (fun c g hg=>(Yp.mp hg).elim (fun q=>q▸gh h1 (ho.cutL c.1)) fun hg=>ih _ (fun p hp=>YB.mp hp▸ho.cutR c.1) h3 g hg) fun O=>ih _ (gh h1 ho) h3
theorem Rn{la lb:Nat}{codes:List Op}(h:∀o∈codes,A0 la lb e o):∀g∈bl n codes,∀o∈g,A0 la lb e o:=by
 by_cases hc:codes=[]
 ·rw[hc,oR];exact aG
 ·unfold bl fY;rw[List.isEmpty_eq_false_iff.mpr hc];exact SG _ [] aG (CQ (fun O h=>h.last) _ (Ob (fun O h=>h.head) _ h))
def H1(g:List Op):Prop:=∃o∈g,o.tag≠av
theorem H1.app{g:List Op}(h:H1 g)(o:Op):H1 (g++[o]):=by
 obtain⟨p,hp,q⟩:=h;exact⟨p,Zq _ hp,q⟩
def GG(os:List Op):Prop:=∀p ps,os=p::ps->p.tag≠av
def WB(n:Nat)(group codes:List Op):Prop:=H1 group∨(∃e,group=[e]/\e.tag=av/\GG codes)∨(group=[]/\∀p ps,codes=p::ps->p.tag=av->p.i2<=p.i1+(n+n))
theorem K3.noEq(h:K3 (o::os))(he:o.tag=av):GG os:=fun p ps e q=>by
 subst e;exact h.1 ⟨he,q⟩
theorem RA(codes:List Op):∀group,K3 codes->WB n group codes->∀g∈cF n group codes,H1 g:=by
 induction codes with
 |nil=>exact fun group O h=>gW (P:=fun l=>∀g∈l,H1 g) (fun O=>aG) (fun O=>aG) fun h1 h2 g hg=>YB.mp hg▸h.elim (fun h=>h) fun h=>h.elim (fun h=>aZ h fun e e1 he O=>absurd (e1▸⟨rfl,congrArg some he⟩) h2) fun h=>absurd (h.1▸rfl) h1
 |cons o os ih =>
  intro group ha h;have hc:o.tag=av->H1 (group++[o])∨group=[]:=fun he=>h.elim (fun h => .inl (h.app _)) fun h=>h.elim (fun h=>aZ h fun e O O k=>absurd he (k o os rfl)) fun h => .inr h.1;refine lS (P:=fun l=>∀g∈l,H1 g) (fun c g hg=>(Yp.mp hg).elim (fun e=>e▸?_) (ih _ ha.tail (.inr (.inl ⟨⟨o.tag,max o.i1 (o.i2-n),o.i2,max o.j1 (o.j2-n),o.j2⟩,rfl,c.1,ha.noEq c.1⟩)) g)) fun c=>ih _ ha.tail ?_
  ·exact h.elim (fun h=>h.app _) fun h=>h.elim (fun h=>aZ h fun e O O k=>absurd c.1 (k o os rfl)) fun h=>absurd (h.2 o os rfl c.1) (Nat.not_le.mpr c.2)
  ·exact(Decidable.em (o.tag=av)).elim (fun he=>(hc he).elim .inl fun e => .inr (.inl ⟨o,(congrArg (· ++ [o]) e).trans rfl,he,ha.noEq he⟩)) fun he => .inl ⟨o,YQ _ (YB.mpr rfl),he⟩
theorem K3.head(h:K3 (o::os)):K3 (bh n o::os):=by
 cases os with
 |nil=>trivial
 |cons p os=>exact⟨tr n o▸h.1,h.2⟩
theorem K3.last:∀ {os:List Op},K3 os->K3 (dg (bg n) os)
 | [],_=>trivial
 | [o],_=>trivial
 | [o,p],h=>⟨(oL n p).symm▸h.1,trivial⟩
 |o::p::q::os,h=>⟨h.1,K3.last h.2⟩
theorem Ro{codes:List Op}(ha:K3 codes):∀g∈bl n codes,H1 g:=by
 cases codes with
 |nil=>rw[oR];exact aG
 |cons o os =>
  show ∀g∈cF n [] (dg (bg n) (bh n o::os)),H1 g;refine RA _ [] ha.head.last (.inr (.inr ⟨rfl,fun p ps e he=>?_⟩));cases os with
  |nil=>exact(c9 e).1▸Nat.not_lt.mp fun q=>PY ⟨(c9 e).1.symm▸he,q⟩
  |cons q qs=>exact(c9 e).1▸Nat.not_lt.mp fun q=>QU ⟨(c9 e).1.symm▸he,q⟩
set_option genCtorIdx false in set_option genInjectivity false in set_option genSizeOf false in
inductive G0 where
 |eq (x:ag)
 |del (c:Nat) (x:ag)
 |ins (c:Nat) (y:Str)
noncomputable def G0.ctorIdx(x:G0):Nat:=by cases x;exact 0;exact 1;exact 2
noncomputable def fk(t:Str):Nat:=if t=bR then 33 else if t=bx then 45 else 43
noncomputable def FN(t:Str):fk t≠32:=by unfold fk;split;decide;split <;> decide
noncomputable def bt(xs:List α)(i j:Nat):List α:=(xs.drop i).take (j-i)
noncomputable def aR(D:List ag)(b:List Str)(o:Op):List G0 :=
 if o.tag=av then (bt D o.i1 o.i2).map .eq else (bt D o.i1 o.i2).map (.del (fk o.tag))++(aE b o.j1 o.j2).map (.ins (fk o.tag))
noncomputable def cx(k:Nat)(af:List ag):List G0->List ag
 | []=>af
 |.eq x::ms=>cx k (af++[x]) ms
 |.del _ _::ms=>cx k af ms
 |.ins _ y::ms=>cx k (af++[(y,[(k:Int),(af.length:Int)])]) ms
noncomputable def dz(k:Nat):G0->List ag
 |.del _ x=>[dw x k]
 |_=>[]
noncomputable def bW:G0->List ag
 |.eq x=>[x]
 |.del _ x=>[x]
 |.ins _ _=>[]
noncomputable def gQ:G0->List Str
 |.eq x=>[x.1]
 |.del _ _=>[]
 |.ins _ y=>[y]
noncomputable def ew:G0->List aC
 |.eq x=>[(32,x.1)]
 |.del c x=>[(c,x.1)]
 |.ins _ _=>[]
noncomputable def cc:G0->List aC
 |.eq x=>[(32,x.1)]
 |.del _ _=>[]
 |.ins c y=>[(c,y)]
theorem mG{xs:List α}(h:j<=xs.length):(bt xs i j).length=j-i:=by
 unfold bt;rw[List.length_take,p9];exact Nat.min_eq_left (Nat.sub_le_sub_right h i)
theorem qm(xs:List α){m:Nat}(h1:i<=m)(h2:m<=j):bt xs i j=bt xs i m++bt xs m j:=by
 unfold bt;obtain⟨d,rfl⟩:=Nat.le.dest h1;obtain⟨e,rfl⟩:=Nat.le.dest h2;rw[show i+d+e-i=d+e by rw[p6,o8],o8,o8,List.take_add,List.drop_drop]
theorem Jp{xs:List ag}(h:i<xs.length):bt xs i (i+1)=[xs.getD i default]:=by
 unfold bt;rw[o8,ZT h,List.getD_eq_getElem?_getD,YL h];rfl
theorem sN(k:Nat)(ms ns:List G0):∀af,cx k af (ms++ns)=cx k (cx k af ms) ns:=by
 induction ms with
 |nil=>exact fun O=>rfl
 |cons m ms ih =>
  intro af;cases m with
  |eq x=>exact ih _
  |del c x=>exact ih _
  |ins c y=>exact ih _
theorem xZ(k:Nat)(xs:List ag):∀af,cx k af (xs.map .eq)=af++xs:=by
 induction xs with
 |nil=>exact fun af=>(Zv af).symm
 |cons x xs ih=>exact fun af=>(ih _).trans (YN ..)
theorem OM(k c:Nat)(xs:List ag):∀af,cx k af (xs.map (.del c))=af:=by
 induction xs with
 |nil=>exact fun O=>rfl
 |cons x xs ih=>exact fun af=>ih af
noncomputable def qG(b:List Str)(k m:Nat):ag:=(b.getD m default,[(k:Int),(m:Int)])
theorem OL(b:List Str)(k c n:Nat):∀(j:Nat) (af:List ag),af.length=j->j+n<=b.length->cx k af ((aE b j (j+n)).map (.ins c))=af++(Zx j n).map (qG b k):=by
 induction n with
 |zero=>exact fun j af O O=>by rw[iY (xs:=b) (i:=j) (j:=j+0) (YR _)];exact(Zv af).symm
 |succ n ih =>
  intro j af hl hj;have e:aE b j (j+(n+1))=b.getD j default::aE b (j+1) (j+1+n):=by
   unfold aE;rw[o8,o8,ZT (show j<b.length by omega),List.getD_eq_getElem?_getD,YL (show j<b.length by omega)];rfl
  rw[e];show cx k (af++[(b.getD j default,[(k:Int),(af.length:Int)])]) ((aE b (j+1) (j+1+n)).map (.ins c))=_;rw[ih (j+1) _ (by rw[Yr,hl];rfl) ⋯,YN,hl];rfl
theorem dP{D:List ag}{b:List Str}(h:o.tag=av):aR D b o=(bt D o.i1 o.i2).map .eq:=if_pos h
theorem gg{D:List ag}{b:List Str}(h:o.tag≠av):aR D b o=(bt D o.i1 o.i2).map (.del (fk o.tag))++(aE b o.j1 o.j2).map (.ins (fk o.tag)):=if_neg h
theorem lW(f:G0->List β)(g:ag->β)(h:∀x,f (.eq x)=[g x])(xs:List ag):(xs.map G0.eq).flatMap f=xs.map g:=by
 induction xs with
 |nil=>rfl
 |cons x xs ih=>rw[Yu,o7,h,ih];rfl
theorem ty(f:G0->List β)(g:ag->β)(c:Nat)(h:∀x,f (.del c x)=[g x])(xs:List ag):(xs.map (G0.del c)).flatMap f=xs.map g:=by
 induction xs with
 |nil=>rfl
 |cons x xs ih=>rw[Yu,o7,h,ih];rfl
theorem yB(f:G0->List β)(g:Str->β)(c:Nat)(h:∀x,f (.ins c x)=[g x])(xs:List Str):(xs.map (G0.ins c)).flatMap f=xs.map g:=by
 induction xs with
 |nil=>rfl
 |cons x xs ih=>rw[Yu,o7,h,ih];rfl
theorem fh(f:G0->List β)(g:α->G0)(h:∀x,f (g x)=[])(xs:List α):(xs.map g).flatMap f=[]:=by
 induction xs with
 |nil=>rfl
 |cons x xs ih=>rw[Yu,o7,h,ih];rfl
section
variable{a b:List Str}{D:List ag}
abbrev dD(a b:List Str)(os:List Op):Prop:=∀o∈os,A0 a.length b.length (am a b) o
theorem qk(xs:List α)(i:Nat):bt xs i i=[]:=by unfold bt;rw[Nat.sub_self];rfl
theorem OI(o:Op):(aR D b o).flatMap bW=bt D o.i1 o.i2:=by
 by_cases h:o.tag=av
 ·rw[dP h,lW bW (fun x=>x) fun O=>rfl,List.map_id']
 ·rw[gg h,o9,ty bW (fun x=>x) _ fun O=>rfl,fh bW _ fun O=>rfl,List.map_id',Zv]
theorem xW(os:List Op):∀ {i j i' j':Nat},A2 i j os i' j'->(os.flatMap (aR D b)).flatMap bW=bt D i i':=by
 induction os with
 |nil=>exact fun h=>by rw[h.1,qk];rfl
 |cons o os ih =>
  intro i j i' j' h;rw[o7,o9,OI,ih h.2.2.2.2,h.1,← qm D h.2.2.1 h.2.2.2.2.le.1]
theorem uT(h:y7 (am a b) (i,j,n)):aE a i (i+n)=aE b j (j+n):=by
 refine List.ext_getElem? fun d=>?_;by_cases hd:d<n
 ·rw[kB a i (i+n) d (Nat.add_lt_add_left hd i),kB b j (j+n) d (Nat.add_lt_add_left hd j)];exact beq_iff_eq.mp (h d hd)
 ·unfold aE;rw[o8,o8,List.getElem?_take,List.getElem?_take,if_neg hd,if_neg hd]
theorem uO(h:D.map Prod.fst=a)(i j:Nat):(bt D i j).map Prod.fst=aE a i j:=by
 unfold bt aE;rw[List.map_take,List.map_drop,h]
theorem OJ(hD:D.map Prod.fst=a)(h:A0 a.length b.length (am a b) o):(aR D b o).flatMap gQ=aE b o.j1 o.j2:=by
 by_cases he:o.tag=av
 ·obtain⟨n,e1,e2,hr⟩:=h.eq he;rw[dP he,lW gQ Prod.fst fun O=>rfl,uO hD,e1,e2,uT hr]
 ·rw[gg he,o9,fh gQ _ fun O=>rfl,yB gQ (fun y=>y) _ fun O=>rfl,List.map_id',Yy]
theorem Jv(xs:List Str){m:Nat}(h1:i<=m)(h2:m<=j):aE xs i j=aE xs i m++aE xs m j:=qm xs h1 h2
theorem xX(hD:D.map Prod.fst=a)(os:List Op):∀ {i j i' j':Nat},dD a b os->A2 i j os i' j'->(os.flatMap (aR D b)).flatMap gQ=aE b j j':=by
 induction os with
 |nil=>exact fun O h=>by rw[h.2,iY (YR _)];rfl
 |cons o os ih =>
  intro i j i' j' hf h;rw[o7,o9,OJ hD (hf o (Yi ..)),ih (fun p hp=>hf p (Yk _ hp)) h.2.2.2.2,h.2.1,← Jv b h.2.2.2.1 h.2.2.2.2.le.2]
theorem DP(k:Nat)(ms:List G0):∀af,(cx k af ms).map Prod.fst=af.map Prod.fst++ms.flatMap gQ:=by
 induction ms with
 |nil=>exact fun af=>(Zv _).symm
 |cons m ms ih =>
  intro af;cases m with
  |eq x=>exact(ih _).trans (by rw[YK,YN];rfl)
  |del c x=>exact ih _
  |ins c y=>exact(ih _).trans (by rw[YK,YN];rfl)
theorem OK{Q:ag->Prop}(k:Nat)(ms:List G0):∀af,(∀y∈af,Q y)->(∀y∈ms.flatMap bW,Q y)->(∀y n,Q (y,[(k:Int),n]))->∀y∈cx k af ms,Q y:=by
 induction ms with
 |nil=>exact fun af h O O=>h
 |cons m ms ih =>
  intro af h1 h2 h3;have h4:∀y∈ms.flatMap bW,Q y:=fun y hy=>h2 y (YQ _ hy);cases m with
  |eq x=>exact ih _ (gh h1 (h2 x (Yi ..))) h4 h3
  |del c x=>exact ih _ h1 h4 h3
  |ins c y=>exact ih _ (gh h1 (h3 _ _)) h4 h3
noncomputable abbrev uR(D:List ag)(pl:List ag)(p:Nat×Nat):List ag:=pl.set p.2 (D.getD p.1 default)
theorem Kp(i j n:Nat):bp (i,j,n+1)=(i,j)::bp (i+1,j+1,n):=by
 rw[Nat.add_comm n 1,AW];rfl
theorem AO(h:i+(n+1)<=D.length):bt D i (i+(n+1))=D.getD i default::bt D (i+1) (i+1+n):=by
 rw[qm D (Nat.le_succ i) (show i+1<=i+(n+1) by omega),Jp ⋯,show i+(n+1)=i+1+n by omega];rfl
theorem JN(n:Nat):∀(i:Nat) (pre rest r2:List ag),i+n<=D.length->rest.length=n->(bp (i,pre.length,n)).foldl (uR D) (pre++(rest++r2))=pre++bt D i (i+n)++r2:=by
 induction n with
 |zero=>exact fun i pre rest r2 O h=>by rw[List.length_eq_zero_iff.mp h,show i+0=i from rfl,qk,Zv];rfl
 |succ n ih =>
  intro i pre rest r2 hi hr;cases rest with
  |nil=>cases hr
  |cons x rest =>
   rw[Kp,Zu,AO hi];have e:uR D (pre++(x::rest++r2)) (i,pre.length)=(pre++[D.getD i default])++(rest++r2):=by
    show (pre++(x::rest++r2)).set pre.length _=_;rw[List.set_append_right _ _ (YR _),Nat.sub_self,YN];rfl
   have h:=ih (i+1) (pre++[D.getD i default]) rest r2 ⋯ (Nat.succ.inj hr);rw[Yr,d9] at h;rw[e,h,YN pre];rfl
theorem uY(j:Nat){m:Nat}(h:n<=m):Zx j m=Zx j n++Zx (j+n) (m-n):=by
 rw[List.range'_append_1,Nat.add_sub_cancel' h]
theorem Tz(hD:D.length=a.length)(os:List Op):∀(i j:Nat) (pre:List ag),A2 i j os a.length b.length->dD a b os->pre.length=j ->
  (os.flatMap dy).foldl (uR D) (pre++(Zx j (b.length-j)).map (qG b k))=cx k pre (os.flatMap (aR D b)):=by
 induction os with
 |nil=>exact fun i j pre h O O=>by rw[h.2,Nat.sub_self];exact Zv pre
 |cons o os ih =>
  intro i j pre h hf hp;obtain⟨rfl,rfl,l1,l2,ht⟩:=h;have ho:=hf o (Yi ..);have Q3:dD a b os:=fun p hp=>hf p (Yk _ hp);have b1:=ho.i2.2;have b2:=ho.j2.2;rw[o7,o7,List.foldl_append,sN,uY o.j1 (Nat.sub_le_sub_right b2 o.j1),Nat.add_sub_cancel' l2,YK,Nat.sub_sub_sub_cancel_right l2];by_cases he:o.tag=av
  ·obtain⟨n,e1,e2,_⟩:=ho.eq he;rw[dP he,xZ,dy,if_pos he];have s:=JN (D:=D) n o.i1 pre ((Zx o.j1 (o.j2-o.j1)).map (qG b k)) ((Zx o.j2 (b.length-o.j2)).map (qG b k)) (by rw[hD,← e1];exact b1) (by rw[Yl,List.length_range',e2,o8]);rw[hp,← e1] at s;rw[show o.i2-o.i1=n by rw[e1,o8],s];exact ih o.i2 o.j2 _ ht Q3 (by rw[Yr,mG (hD.symm▸b1),hp,e1,e2,o8])
  ·rw[gg he,sN,OM,dy,if_neg he];have m:=OL b k (fk o.tag) (o.j2-o.j1) o.j1 pre hp (by rw[Nat.add_sub_cancel' l2];exact b2);rw[Nat.add_sub_cancel' l2] at m;rw[m,← YN];exact ih o.i2 o.j2 _ ht Q3 (by rw[Yr,Yl,List.length_range',hp];exact Nat.add_sub_cancel' l2)
theorem CM(ho:A0 a.length b.length (am a b) o):∀p∈dy o,o.i1<=p.1/\p.1<o.i2/\o.j1<=p.2/\p.2<o.j2:=by
 unfold dy;split
 ·rename_i he
  obtain⟨n,e1,e2,_⟩:=ho.eq he;intro p hp;refine ae (YM.mp hp) fun m hm e=>?_
  have:=oH hm;rw[e1,o8] at this;subst e;rw[e1,e2];exact⟨n9 ..,Nat.add_lt_add_left this _,n9 ..,Nat.add_lt_add_left this _⟩
 ·exact aG
theorem CD(os:List Op):∀ {i j i' j':Nat},dD a b os->A2 i j os i' j'->∀p∈os.flatMap dy,i<=p.1/\p.1<i'/\j<=p.2/\p.2<j':=by
 induction os with
 |nil=>exact fun O O=>aG
 |cons o os ih =>
  intro i j i' j' hf h p hp;have l:=h.2.2.2.2.le;have h1:=h.1;have h2:=h.2.1;refine(Zh.mp (o7▸hp)).elim (fun hp=>?_) fun hp=>?_
  ·have:=CM (hf o (Yi ..)) p hp;exact⟨h1▸this.1,o6 this.2.1 l.1,h2▸this.2.2.1,o6 this.2.2.2 l.2⟩
  ·have:=ih (fun p hp=>hf p (Yk _ hp)) h.2.2.2.2 p hp;exact⟨Zg h.2.2.1 this.1,this.2.1,Zg h.2.2.2.1 this.2.2.1,this.2.2.2⟩
theorem KI(g:ag->β)(n:Nat):∀i:Nat,i+n<=D.length->(Zx i n).map (fun m=>g (D.getD m default))=(bt D i (i+n)).map g:=by
 induction n with
 |zero=>exact fun i O=>by rw[show i+0=i from rfl,qk];rfl
 |succ n ih =>
  intro i h;rw[AO h,Yu,← ih (i+1) ⋯];rfl
theorem SR{q:Nat->Bool}{xs:List Nat}(h:∀m∈xs,q m=true):xs.filter q=xs:=List.filter_eq_self.mpr h
theorem SQ{q:Nat->Bool}{xs:List Nat}(h:∀m∈xs,¬ q m=true):xs.filter q=[]:=List.filter_eq_nil_iff.mpr h
theorem NC(hD:D.length=a.length){q:Nat->Bool}(os:List Op):∀(i j:Nat),A2 i j os a.length b.length->dD a b os->(∀m,i<=m->m<a.length->(q m=true↔∀p∈os.flatMap dy,p.1≠m)) ->
  ((Zx i (a.length-i)).filter q).map (fun m=>dw (D.getD m default) k)=(os.flatMap (aR D b)).flatMap (dz k):=by
 induction os with
 |nil=>exact fun i j h O O=>by rw[h.1,Nat.sub_self];rfl
 |cons o os ih =>
  intro i j h hf hq;obtain⟨rfl,rfl,l1,l2,ht⟩:=h;have ho:=hf o (Yi ..);have Q3:dD a b os:=fun p hp=>hf p (Yk _ hp);have b1:=ho.i2.2;have Q1:=CM ho;have hin2:=CD os Q3 ht;rw[o7] at hq;rw[o7,o9,uY o.i1 (Nat.sub_le_sub_right b1 o.i1),Nat.add_sub_cancel' l1,List.filter_append,YK,Nat.sub_sub_sub_cancel_right l1];rw[ih o.i2 o.j2 ht Q3 fun m h1 h2=>(hq m (Zg l1 h1) h2).trans ⟨fun z p hp=>z p (YQ _ hp),fun z p hp=>(Zh.mp hp).elim (fun hp e=>absurd (Q1 p hp).2.1 (Nat.not_lt.mpr (e▸h1))) (z p)⟩];refine congrArg (· ++ _) ?_;by_cases he:o.tag=av
  ·rw[dP he,fh (dz k) _ fun O=>rfl,SQ]
   ·rfl
   ·intro m hm z;obtain⟨n,e1,e2,_⟩:=ho.eq he;have hm:=List.mem_range'_1.mp hm;rw[Nat.add_sub_cancel' l1] at hm;refine(hq m hm.1 (o6 hm.2 b1)).mp z (m,o.j1+(m-o.i1)) (Zq _ ?_) rfl;rw[dy,if_pos he];exact YM.mpr ⟨m-o.i1,List.mem_range'_1.mpr ⟨YD _,by rw[r0];exact Nat.sub_lt_sub_right hm.1 hm.2⟩,Prod.ext (Nat.add_sub_cancel' hm.1) rfl⟩
  ·rw[gg he,o9,fh (dz k) (G0.ins (fk o.tag)) fun O=>rfl,ty (dz k) (fun x=>dw x k) _ fun O=>rfl,Zv,SR,KI (fun x=>dw x k) _ _ (by rw[Nat.add_sub_cancel' l1,hD];exact b1),Nat.add_sub_cancel' l1];intro m hm;have hm:=List.mem_range'_1.mp hm;rw[Nat.add_sub_cancel' l1] at hm;refine(hq m hm.1 (o6 hm.2 b1)).mpr fun p hp e=>?_;rw[dy,if_neg he,Yy] at hp;exact absurd hm.2 (Nat.not_lt.mpr (e▸(hin2 p hp).1))
end
section
variable{a b:List Str}{D:List ag}
def kl(D:List ag)(b:List Str):Nat->Nat->Bool->List G0->List (List Op)->Prop
 |_,_,_,M,[]=>∃E:List ag,M=E.map .eq
 |i,j,s,M,g::gs=>∃(E:List ag) (M':List G0),M=E.map .eq++(g.flatMap (aR D b)++M')/\(aH g).i1=i+E.length/\(aH g).j1=j+E.length/\(s=true∨0<E.length)/\A2 (aH g).i1 (aH g).j1 g (ay g).i2 (ay g).j2/\kl D b (ay g).i2 (ay g).j2 false M' gs
theorem CE{g:List Op}{i' j':Nat}(h:A2 i j g i' j')(C8:g≠[]):(aH g).i1=i/\(aH g).j1=j/\(ay g).i2=i'/\(ay g).j2=j':=by
 have k1:(aH g).i1=i/\(aH g).j1=j:=by
  cases g with
  |nil=>exact absurd rfl C8
  |cons o os=>exact⟨h.1,h.2.1⟩
 refine⟨k1.1,k1.2,?_⟩;revert C8 h;refine kA (P:=fun g=>A2 i j g i' j'->g≠[]->(ay g).i2=i'/\(ay g).j2=j') g (fun O h=>absurd rfl h) fun l x h O=>?_;rw[show ay (l++[x])=x by unfold ay;rw[List.getLastD_eq_getLast?,List.getLast?_concat];rfl];refine bK h.split fun m k p1 p2=>?_;exact p2.2.2.2.2
theorem ql{m:Nat}(h1:i<=m)(h2:m<=j):(bt D i j).map G0.eq=(bt D i m).map .eq++(bt D m j).map .eq:=by rw[qm D h1 h2,YK]
theorem TD{i' j':Nat}{s:Bool}{E Tl:List ag}{g:List Op}(hg:g≠[])(hp:A2 (i+E.length) (j+E.length) g i' j')(hs:s=true∨0<E.length):kl D b i j s (E.map .eq++(g.flatMap (aR D b)++Tl.map .eq)) [g]:=by
 obtain⟨e1,e2,e3,e4⟩:=CE hp hg;exact⟨E,Tl.map .eq,rfl,e1,e2,hs,e1.symm▸e2.symm▸e3.symm▸e4.symm▸hp,Tl,rfl⟩
theorem lH:max i (i+k-n)=i+(k-n):=by
 rcases Nat.le_total n k with h |h
 ·rw[Nat.add_sub_assoc h];exact Nat.max_eq_right (n9 ..)
 ·rw[Nat.sub_eq_zero_of_le h];exact Nat.max_eq_left (Nat.sub_le_of_le_add (p5 h i))
theorem Rz(hD:D.length=a.length)(cs:List Op):∀(group:List Op) (i j i' j':Nat) (s:Bool) (E Tl:List ag),dD a b (group++cs)->A2 (i+E.length) (j+E.length) (group++cs) i' j'->(s=true∨0<E.length) ->
  kl D b i j s (E.map .eq++((group++cs).flatMap (aR D b)++Tl.map .eq)) (cF n group cs):=by
 induction cs with
 |nil =>
  intro group i j i' j' s E Tl hf hp hs;rw[Zv] at hf hp ⊢;refine gW (P:=fun gs=>kl D b i j s (E.map .eq++(group.flatMap (aR D b)++Tl.map .eq)) gs) (fun c=>?_) (fun c=>?_) fun c O=>TD (fun e=>c (e▸rfl)) hp hs
  ·rw[List.isEmpty_iff.mp c];exact⟨E++Tl,(YK ..).symm⟩
  ·refine aq (List.length_eq_one_iff.mp c.1) fun x e=>?_;subst e;refine⟨E++(bt D x.i1 x.i2++Tl),?_⟩;rw[YK,YK,List.flatMap_singleton,dP (d8 c.2)]
 |cons o os ih =>
  intro group i j i' j' s E Tl hf hp hs;have ho:=hf o (YQ _ (Yi ..));refine lS (P:=fun gs=>kl D b i j s (E.map .eq++((group++o::os).flatMap (aR D b)++Tl.map .eq)) gs) (fun c=>?_) fun c=>?_
  ·obtain⟨t,i1,i2,j1,j2⟩:=o;obtain⟨he,hc⟩:=c;obtain⟨k,k1,k2,_⟩:=ho.eq he;have b1:=ho.i2.2;obtain rfl:i2=i1+k:=k1;obtain rfl:j2=j1+k:=k2;have hc:n+n<k:=Nat.lt_of_add_lt_add_left hc;have hn:n<=k-n:=Nat.le_sub_of_add_le (a6 hc);have hk:n<=k:=Zg hn (r7 ..);refine bK hp.split fun m l p1 p2=>?_;obtain⟨rfl,rfl,l1,l2,ht⟩:=p2;have m1:∀x,min (x+k) (x+n)=x+n:=fun x=>Nat.min_eq_right (p5 hk x);have c1:=ho.cutR (n:=n) he;dsimp only at c1 ⊢;rw[lH,lH] at c1;rw[m1,m1,lH,lH];have hp1:A2 (i+E.length) (j+E.length) (group++[⟨t,i1,i1+n,j1,j1+n⟩]) (i1+n) (j1+n):=A2.snoc (o:=⟨t,i1,i1+n,j1,j1+n⟩) p1 rfl rfl (n9 ..) (n9 ..);obtain⟨e1,e2,e3,e4⟩:=CE hp1 DH;have hkn:i1+(k-n)<=i1+k:=p5 (r7 ..) _;have el:(bt D (i1+n) (i1+(k-n))).length=k-n-n:=(mG (hD.symm▸Zg hkn b1)).trans (Nat.add_sub_add_left ..);refine⟨E,(bt D (i1+n) (i1+(k-n))).map .eq++((([⟨t,i1+(k-n),i1+k,j1+(k-n),j1+k⟩]:List Op)++os).flatMap (aR D b)++Tl.map .eq),?_,e1,e2,hs,e1.symm▸e2.symm▸e3.symm▸e4.symm▸hp1,?_⟩
   ·rw[o9,o7,o9,o9,List.flatMap_singleton,List.flatMap_singleton,dP he,dP (o:=⟨t,i1,i1+n,j1,j1+n⟩) he,dP (o:=⟨t,i1+(k-n),i1+k,j1+(k-n),j1+k⟩) he,
     ql (n9 i1 n) (p5 hk i1),ql (p5 hn i1) hkn]
    simp only[YN]
   ·rw[e3,e4];refine ih [⟨t,i1+(k-n),i1+k,j1+(k-n),j1+k⟩] (i1+n) (j1+n) i' j' false (bt D (i1+n) (i1+(k-n))) Tl (fun p hp=>(Zh.mp hp).elim (fun hp=>YB.mp hp▸c1) fun hp=>hf p (YQ _ (Yk _ hp))) ?_ (.inr (el▸Nat.sub_pos_of_lt (Nat.lt_sub_of_add_lt hc)));have ar:∀x,x+(k-n)=x+n+(k-n-n):=fun x=>by rw[p6,Nat.add_sub_cancel' hn]
    rw[el,← ar,← ar];exact⟨rfl,rfl,hkn,p5 (r7 ..) _,ht⟩
  ·have e:group++[o]++os=group++o::os:=YN ..
   have:=ih (group++[o]) i j i' j' s E Tl (e.symm▸hf) (e.symm▸hp) hs;rw[e] at this;exact this
theorem QV(hD:D.length=a.length){i' j':Nat}(ho:A0 a.length b.length (am a b) o)(hp:A2 i j (o::os) i' j'):∃E:List ag,aR D b o=E.map .eq++aR D b (bh n o)/\A2 (i+E.length) (j+E.length) (bh n o::os) i' j':=by
 by_cases he:o.tag=av
 ·obtain⟨t,i1,i2,j1,j2⟩:=o;obtain⟨k,k1,k2,_⟩:=ho.eq he;have b1:=ho.i2.2;obtain rfl:i2=i1+k:=k1;obtain rfl:j2=j1+k:=k2;obtain⟨rfl,rfl,l1,l2,ht⟩:=hp;have hkn:∀x,x+(k-n)<=x+k:=fun x=>p5 (r7 ..) x;have eh:bh n ⟨t,i1,i1+k,j1,j1+k⟩=⟨t,i1+(k-n),i1+k,j1+(k-n),j1+k⟩:=by
   rw[bh,if_pos he,lH,lH]
  rw[eh];refine⟨bt D i1 (i1+(k-n)),?_,?_⟩
  ·rw[dP he,dP (o:=⟨t,i1+(k-n),i1+k,j1+(k-n),j1+k⟩) he];exact ql (n9 ..) (hkn i1)
  ·rw[mG (hD.symm▸Zg (hkn i1) b1),o8];exact⟨rfl,rfl,hkn i1,hkn j1,ht⟩
 ·rw[EF he];exact⟨[],rfl,hp⟩
theorem Qa{z:Op}{ini:List Op}{i' j':Nat}(hz:A0 a.length b.length (am a b) z)(hp:A2 i j (ini++[z]) i' j'):∃(Tl:List ag) (i'' j'':Nat),aR D b z=aR D b (bg n z)++Tl.map .eq/\A2 i j (ini++[bg n z]) i'' j'':=by
 by_cases he:z.tag=av
 ·refine bK hp.split fun m l p1 p2=>?_;obtain⟨rfl,rfl,l1,l2,ht⟩:=p2;refine⟨bt D (min z.i2 (z.i1+n)) z.i2,min z.i2 (z.i1+n),min z.j2 (z.j1+n),?_,?_⟩
  ·rw[dP he,dP (o:=bg n z) ((oL n z).trans he),bg,if_pos he];exact ql (le_min l1) (Nat.min_le_left ..)
  ·rw[bg,if_pos he];exact A2.snoc (o:=⟨z.tag,z.i1,min z.i2 (z.i1+n),z.j1,min z.j2 (z.j1+n)⟩) p1 rfl rfl (le_min l1) (le_min l2)
 ·rw[Em he];exact⟨[],i',j',(Zv _).symm,hp⟩
theorem TE(hD:D.length=a.length){codes:List Op}{i' j':Nat}(hf:dD a b codes)(hp:A2 0 0 codes i' j'):kl D b 0 0 true (codes.flatMap (aR D b)) (bl n codes):=by
 cases codes with
 |nil=>rw[oR];exact⟨[],rfl⟩
 |cons o os =>
  have ho:=hf o (Yi ..);obtain⟨E,e1,p1⟩:=QV (n:=n) hD ho hp;have Q3:dD a b (bh n o::os):=fun p hp=>(Yp.mp hp).elim (fun e=>e▸ho.head) fun h=>hf p (Yk _ h);obtain⟨ini,z,e2,_⟩:=AF (bh n o) os;rw[e2] at p1 Q3;have hz:=Q3 z (YQ _ (YB.mpr rfl));obtain⟨Tl,i2,j2,e3,p2⟩:=Qa (n:=n) (D:=D) hz p1;have eg:bl n (o::os)=cF n [] (ini++[bg n z]):=by
   show cF n [] (dg (bg n) (bh n o::os))=_;rw[e2,mQ]
  have em:(o::os).flatMap (aR D b)=E.map .eq++(([]++(ini++[bg n z])).flatMap (aR D b)++Tl.map .eq):=by
   rw[o7,e1,YN,show aR D b (bh n o)++os.flatMap (aR D b)=(bh n o::os).flatMap (aR D b) from rfl,e2,o9,List.flatMap_singleton,e3,Yy,o9,List.flatMap_singleton,YN]
  rw[eg,em];exact Rz hD _ [] 0 0 i2 j2 true E Tl (fun p hp=>(Zh.mp (show p∈ini++[bg n z] from hp)).elim (fun h=>Q3 p (Zq _ h)) fun h=>YB.mp h▸hz.last) p2 (.inl rfl)
end
def NB(rs:List aC):Prop:=∀r∈rs,r.1≠32
theorem Ah(v:Nat)(rs:List aC)(y:Str)(rest:List aC):∀af,NB rs->aO v af (rs++(32,y)::rest)=((aO v af rs).1,(32,y)::rest):=by
 induction rs with
 |nil=>exact fun O O=>rfl
 |cons r rs ih =>
  intro af h;have hr:=h r (Yi ..);rw[show aO v af (r::rs)=aO v _ rs from if_neg hr,← ih _ fun q hq=>h q (Yk _ hq)];exact if_neg hr
theorem IC(v:Nat)(rs:List aC)(q:aC)(hq:q.1≠32):∀af,NB rs->(aO v af (rs++[q])).1=(aO v af rs).1++[(q.2,[(v:Int),((aO v af rs).1.length:Int)])]:=by
 induction rs with
 |nil=>exact fun af O=>congrArg Prod.fst (show aO v af [q]=aO v _ [] from if_neg hq)
 |cons r rs ih =>
  intro af h;have hr:=h r (Yi ..);rw[show aO v af (r::rs)=aO v _ rs from if_neg hr,← ih _ fun q hq=>h q (Yk _ hq)];exact congrArg Prod.fst (if_neg hr)
def mn:G0->Prop
 |.eq _=>True
 |.del c _=>c≠32
 |.ins c _=>c≠32
theorem Fz{D:List ag}{x:ag}{r:List ag}(h:D.drop i=x::r):D[i]?=some x/\D.drop (i+1)=r:=by
 refine⟨?_,?_⟩
 ·have:=congrArg (·[0]?) h;rw[List.getElem?_drop] at this;exact this
 ·rw[← List.drop_drop,h];rfl
theorem Sg(k:Nat)(D:List ag)(ms:List G0):∀(i:Nat) (af gn:List ag) (pend:List aC) (rest:List ag),NB pend->(∀m∈ms,mn m)->D.drop i=ms.flatMap bW++rest ->
  ∃T7 C9,(ms.flatMap ew).foldl (cK D k) ⟨i,af,gn,pend++ms.flatMap cc⟩=⟨i+(ms.flatMap bW).length,T7,gn++ms.flatMap (dz k),C9⟩/\NB C9/\(aO k T7 C9).1=cx k (aO k af pend).1 ms/\lr D k ⟨i,af,gn,pend++ms.flatMap cc⟩ (ms.flatMap ew):=by
 induction ms with
 |nil=>exact fun i af gn pend rest hp O O=>⟨af,pend,by show (⟨i,af,gn,pend++[]⟩:N6)=⟨i+0,af,gn++[],pend⟩;rw[Zv,Zv];rfl,hp,rfl,trivial⟩
 |cons m ms ih =>
  intro i af gn pend rest hp hm hD;have T_:∀m∈ms,mn m:=fun q hq=>hm q (Yk _ hq);have U':=hm m (Yi ..);cases m with
  |eq x =>
   have hd:=Fz (x:=x) (r:=ms.flatMap bW++rest) hD;have e:cK D k ⟨i,af,gn,pend++(32,x.1)::ms.flatMap cc⟩ (32,x.1)=⟨i+1,(aO k af pend).1++[x],gn,[]++ms.flatMap cc⟩:=by
    rw[CV (x:=⟨i,af,gn,pend++(32,x.1)::ms.flatMap cc⟩) hd.1 rfl];show (⟨i+1,(aO k af (pend++(32,x.1)::ms.flatMap cc)).1++[x],gn,(aO k af (pend++(32,x.1)::ms.flatMap cc)).2.tail⟩:N6)=_;rw[Ah k pend _ _ _ hp];rfl
   obtain⟨T7,C9,h1,h2,h3,h4⟩:=ih (i+1) ((aO k af pend).1++[x]) gn [] rest aG T_ hd.2;refine⟨T7,C9,?_,h2,h3,⟨⟨x,hd.1,rfl⟩,fun O=>⟨ms.flatMap cc,?_⟩⟩,?_⟩
   ·show (ms.flatMap ew).foldl (cK D k) (cK D k ⟨i,af,gn,pend++(32,x.1)::ms.flatMap cc⟩ (32,x.1))=_;rw[e,h1];show (⟨i+1+(ms.flatMap bW).length,T7,gn++ms.flatMap (dz k),C9⟩:N6)=⟨i+(ms.flatMap bW).length.succ,T7,gn++ms.flatMap (dz k),C9⟩;rw[o4]
   ·show (aO k af (pend++(32,x.1)::ms.flatMap cc)).2=_;rw[Ah k pend _ _ _ hp]
   ·show lr D k (cK D k ⟨i,af,gn,pend++(32,x.1)::ms.flatMap cc⟩ (32,x.1)) _;rw[e];exact h4
  |del c x =>
   have hd:=Fz (x:=x) (r:=ms.flatMap bW++rest) hD;have e:cK D k ⟨i,af,gn,pend++ms.flatMap cc⟩ (c,x.1)=⟨i+1,af,gn++[dw x k],pend++ms.flatMap cc⟩:=CU (x:=⟨i,af,gn,pend++ms.flatMap cc⟩) hd.1 U';obtain⟨T7,C9,h1,h2,h3,h4⟩:=ih (i+1) af (gn++[dw x k]) pend rest hp T_ hd.2;refine⟨T7,C9,?_,h2,h3,⟨⟨x,hd.1,rfl⟩,fun z=>absurd z U'⟩,?_⟩
   ·show (ms.flatMap ew).foldl (cK D k) (cK D k ⟨i,af,gn,pend++ms.flatMap cc⟩ (c,x.1))=_;rw[e,h1];show (⟨i+1+(ms.flatMap bW).length,T7,gn++[dw x k]++ms.flatMap (dz k),C9⟩:N6)=⟨i+(ms.flatMap bW).length.succ,T7,gn++([dw x k]++ms.flatMap (dz k)),C9⟩;rw[o4,YN]
   ·show lr D k (cK D k ⟨i,af,gn,pend++ms.flatMap cc⟩ (c,x.1)) _;rw[e];exact h4
  |ins c y =>
   obtain⟨T7,C9,h1,h2,h3,h4⟩:=ih i af gn (pend++[(c,y)]) rest (gh hp U') T_ hD;rw[YN] at h1 h4;exact⟨T7,C9,h1,h2,h3.trans (congrArg (fun l=>cx k l ms) (IC k pend (c,y) U' af hp)),h4⟩
theorem vN(ms:List G0):(ms.flatMap ew).length=(ms.flatMap bW).length:=by
 induction ms with
 |nil=>rfl
 |cons m ms ih =>
  rw[o7,o7,Yr,Yr,ih];cases m <;> rfl
theorem xO(ms:List G0):(ms.flatMap cc).length=(ms.flatMap gQ).length:=by
 induction ms with
 |nil=>rfl
 |cons m ms ih =>
  rw[o7,o7,Yr,Yr,ih];cases m <;> rfl
theorem Rw(k:Nat)(ms:List G0):(ms.flatMap (dz k)).length<=(ms.flatMap bW).length:=by
 induction ms with
 |nil=>exact YR _
 |cons m ms ih =>
  rw[o7,o7,Yr,Yr];refine r8 ?_ ih;cases m <;> exact ZB rfl
theorem xY(k:Nat)(ms:List G0)(af:List ag):(cx k af ms).length=af.length+(ms.flatMap gQ).length:=by
 have:=congrArg k9 (DP k ms af);rwa [Yr,Yl,Yl] at this
theorem DO{D:List ag}{b:List Str}(o:Op):∀m∈aR D b o,mn m:=by
 unfold aR;split
 ·exact fun m hm=>ae (YM.mp hm) fun x O e=>e▸trivial
 ·exact fun m hm=>(Zh.mp hm).elim (fun hm=>ae (YM.mp hm) fun x O e=>e▸FN _) fun hm=>ae (YM.mp hm) fun x O e=>e▸FN _
noncomputable def iN(t:Str):Nat:=if t=bA then 43 else if t=bx then 45 else if t=bR then 33 else 32
noncomputable def bU(a:List Str)(o:Op):List aC:=if o.tag=bA then [] else (aE a o.i1 o.i2).map fun y=>(iN o.tag,y)
noncomputable def bL(b:List Str)(o:Op):List aC:=if o.tag=bx then [] else (aE b o.j1 o.j2).map fun y=>(iN o.tag,y)
noncomputable def aN(a b:List Str)(g:List Op):B6:=⟨(aH g).i1,(ay g).i2,(aH g).j1,(ay g).j2,if (g.map dJ).any id then g.flatMap (bU a) else [],if (g.map dE).any id then g.flatMap (bL b) else []⟩
section
variable{a b:List Str}{D:List ag}
theorem xS{f:α->List β}{xs:List α}{x:α}(h:x∈xs)(hf:f x≠[]):xs.flatMap f≠[]:=fun e=>hf (List.flatMap_eq_nil_iff.mp e x h)
theorem tz{f g:α->List β}{xs:List α}(h:∀x∈xs,f x=g x):xs.flatMap f=xs.flatMap g:=by
 induction xs with
 |nil=>rfl
 |cons x xs ih=>rw[o7,o7,h x (Yi ..),ih fun y hy=>h y (Yk _ hy)]
theorem Ff{γ:Type}(f:α->List β)(g:β->List γ)(xs:List α):(xs.flatMap f).flatMap g=xs.flatMap fun x=>(f x).flatMap g:=List.flatMap_assoc
theorem Jj{xs:List Str}(h:i=j):aE xs i j=[]:=iY (o5 h.symm)
theorem Oc(hD:D.map Prod.fst=a)(h:A0 a.length b.length (am a b) o):(aR D b o).flatMap ew=bU a o:=by
 have hf:=uO hD o.i1 o.i2;rcases h.tg with e |e |e |e
 ·rw[dP e,lW ew (fun x=>(32,x.1)) fun O=>rfl,bU,if_neg (e▸by decide),← hf,ZR,e];rfl
 ·rw[gg (e▸by decide),o9,ty ew (fun x=>(fk o.tag,x.1)) _ fun O=>rfl,fh ew _ fun O=>rfl,Zv,bU,if_neg (e▸by decide),← hf,ZR,e];rfl
 ·rw[gg (e▸by decide),o9,ty ew (fun x=>(fk o.tag,x.1)) _ fun O=>rfl,fh ew _ fun O=>rfl,Zv,bU,if_neg (e▸by decide),← hf,ZR,e];rfl
 ·rw[gg (e▸by decide),o9,fh ew (G0.ins _) fun O=>rfl,Zv,h.ins e,qk,bU,if_pos e];rfl
theorem Ou(hD:D.map Prod.fst=a)(h:A0 a.length b.length (am a b) o):(aR D b o).flatMap cc=bL b o:=by
 have hf:=uO hD o.i1 o.i2;rcases h.tg with e |e |e |e
 ·obtain⟨n,e1,e2,hr⟩:=h.eq e;rw[dP e,lW cc (fun x=>(32,x.1)) fun O=>rfl,bL,if_neg (e▸by decide),e2,← uT hr,← e1,← hf,ZR,e];rfl
 ·rw[gg (e▸by decide),o9,yB cc (fun y=>(fk o.tag,y)) _ fun O=>rfl,fh cc (G0.del _) fun O=>rfl,Yy,bL,if_neg (e▸by decide),e];rfl
 ·rw[gg (e▸by decide),o9,fh cc (G0.del _) fun O=>rfl,Yy,Jj (h.del e),bL,if_pos e];rfl
 ·rw[gg (e▸by decide),o9,yB cc (fun y=>(fk o.tag,y)) _ fun O=>rfl,fh cc (G0.del _) fun O=>rfl,Yy,bL,if_neg (e▸by decide),e];rfl
theorem UB(xs ys:List aC):dB (xs++ys)=dB xs++dB ys:=List.filter_append ..
theorem FZ(f:Op->List aC)(g:List Op):dB (g.flatMap f)=g.flatMap fun o=>dB (f o):=by
 induction g with
 |nil=>rfl
 |cons o g ih=>rw[o7,UB,ih];rfl
theorem Ga(ys:List Str):dB (ys.map fun y=>(32,y))=ys.map fun y=>(32,y):=List.filter_eq_self.mpr fun r hr=>ae (YM.mp hr) fun y O e=>e▸rfl
theorem FX(c:Nat)(hc:c≠32)(ys:List Str):dB (ys.map fun y=>(c,y))=[]:=List.filter_eq_nil_iff.mpr fun r hr=>ae (YM.mp hr) fun y O e=>e▸fun z=>hc (beq_iff_eq.mp z)
theorem yQ{f:Op->Bool}{g:List Op}(h:(g.map f).any id=true):∃o∈g,f o=true:=by
 rw[List.any_map,List.any_eq_true] at h;exact h
theorem yR{f:Op->Bool}{g:List Op}(h : ¬ (g.map f).any id=true):∀o∈g,f o=false:=fun o ho=>Bool.eq_false_iff.mpr fun z=>h (by rw[List.any_map];exact List.any_eq_true.mpr ⟨o,ho,z⟩)
theorem QA(h:dJ o=true):o.tag=bR∨o.tag=bx:=(Bool.or_eq_true_iff.mp h).imp beq_iff_eq.mp beq_iff_eq.mp
theorem Qz(h:dE o=true):o.tag=bR∨o.tag=bA:=(Bool.or_eq_true_iff.mp h).imp beq_iff_eq.mp beq_iff_eq.mp
theorem AK{xs:List Str}(h:i<j)(h2:j<=xs.length):aE xs i j≠[]:=fun e=>by
 have:=iZ (xs:=xs) (i:=i) h2;rw[e] at this;exact Nat.ne_of_gt (Nat.sub_pos_of_lt h) this.symm
theorem KA(h:A0 a.length b.length (am a b) o)(hA:dJ o=true):bU a o≠[]:=by
 have ht:=QA hA;rw[bU,if_neg (ht.elim (fun e=>e▸by decide) fun e=>e▸by decide)];exact fun e=>AK (h.ne1 ht) h.i2.2 (List.map_eq_nil_iff.mp e)
theorem Bb(h:A0 a.length b.length (am a b) o)(hB:dE o=true):bL b o≠[]:=by
 have ht:=Qz hB;rw[bL,if_neg (ht.elim (fun e=>e▸by decide) fun e=>e▸by decide)];exact fun e=>AK (h.ne2 ht) h.j2.2 (List.map_eq_nil_iff.mp e)
theorem Ba(h:A0 a.length b.length (am a b) o)(e:o.tag=av):bU a o=(aE a o.i1 o.i2).map (fun y=>(32,y))/\bL b o=bU a o:=by
 obtain⟨n,e1,e2,hr⟩:=h.eq e;rw[bU,bL,if_neg (e▸by decide),if_neg (e▸by decide),e2,← uT hr,← e1,e];exact⟨rfl,rfl⟩
variable{g:List Op}
theorem uI(hf:dD a b g)(hc:H1 g):bZ (aN a b g)=g.flatMap (bU a)/\((aN a b g).old≠[]∨(aN a b g).new≠[]):=by
 by_cases h1:(g.map dJ).any id=true
 ·have e1:(aN a b g).old=g.flatMap (bU a):=if_pos h1;have C8:g.flatMap (bU a)≠[]:=ae (yQ h1) fun o ho hA=>xS ho (KA (hf o ho) hA);refine⟨?_,.inl (e1▸C8)⟩;unfold bZ;rw[e1,if_neg C8]
 ·have e1:(aN a b g).old=[]:=if_neg h1;have h2:(g.map dE).any id=true:=ae hc fun o ho ht=>by
   rw[List.any_map];refine List.any_eq_true.mpr ⟨o,ho,?_⟩
   have:=yR h1 o ho;rcases(hf o ho).tg with e |e |e |e
   ·exact absurd e ht
   ·exact absurd this (by unfold dJ;rw[e];decide)
   ·exact absurd this (by unfold dJ;rw[e];decide)
   ·show dE o=true;unfold dE;rw[e];decide
  have e2:(aN a b g).new=g.flatMap (bL b):=if_pos h2;have C8:g.flatMap (bL b)≠[]:=ae (yQ h2) fun o ho hB=>xS ho (Bb (hf o ho) hB);refine⟨?_,.inr (e2▸C8)⟩;unfold bZ;rw[e1,if_pos rfl,e2,FZ];refine tz fun o ho=>?_;have hA:=yR h1 o ho;rcases(hf o ho).tg with e |e |e |e
  ·have:=Ba (hf o ho) e;rw[this.2,this.1];exact Ga _
  ·exact absurd hA (by unfold dJ;rw[e];decide)
  ·exact absurd hA (by unfold dJ;rw[e];decide)
  ·rw[bU,if_pos e,bL,if_neg (e▸by decide),e];exact FX 43 (by decide) _
theorem Iw(hf:dD a b g)(hc:H1 g):da (aN a b g)=g.flatMap (bL b):=by
 by_cases h2:(g.map dE).any id=true
 ·have e2:(aN a b g).new=g.flatMap (bL b):=if_pos h2;have C8:g.flatMap (bL b)≠[]:=ae (yQ h2) fun o ho hB=>xS ho (Bb (hf o ho) hB);unfold da;rw[e2,if_neg C8]
 ·have e2:(aN a b g).new=[]:=if_neg h2;unfold da;rw[e2,if_pos rfl,(uI hf hc).1,FZ];refine tz fun o ho=>?_;have hB:=yR h2 o ho;rcases(hf o ho).tg with e |e |e |e
  ·have:=Ba (hf o ho) e;rw[this.2,this.1];exact Ga _
  ·exact absurd hB (by unfold dE;rw[e];decide)
  ·rw[bL,if_pos e,bU,if_neg (e▸by decide),e];exact FX 45 (by decide) _
  ·exact absurd hB (by unfold dE;rw[e];decide)
end
section
variable{a b:List Str}{D:List ag}
theorem yz(hD:D.map Prod.fst=a){g:List Op}(hf:dD a b g):(g.flatMap (aR D b)).flatMap ew=g.flatMap (bU a):=(Ff ..).trans (tz fun o ho=>Oc hD (hf o ho))
theorem yA(hD:D.map Prod.fst=a){g:List Op}(hf:dD a b g):(g.flatMap (aR D b)).flatMap cc=g.flatMap (bL b):=(Ff ..).trans (tz fun o ho=>Ou hD (hf o ho))
theorem PZ{g:List Op}(h:g≠[]):ay g∈g:=by
 revert h;refine kA (P:=fun g=>g≠[]->ay g∈g) g (fun h=>absurd rfl h) fun l x O=>?_;rw[show ay (l++[x])=x by unfold ay;rw[List.getLastD_eq_getLast?,List.getLast?_concat];rfl];exact YQ _ (YB.mpr rfl)
theorem AY{xs:List Str}(hx:∀y∈xs,y.length<=100){f:Op->List aC}(h:f o=[]∨f o=(aE xs i j).map fun y=>(iN o.tag,y)):∀r∈f o,r.2.length<=100:=by
 rcases h with h |h
 ·rw[h];exact aG
 ·rw[h];exact fun r hr=>ae (YM.mp hr) fun y hy e=>e▸hx y (qh hy)
theorem lQ{c:Prop}[Decidable c](x:α)(y:α):(if c then x else y)=x∨(if c then x else y)=y:=by split;exact .inl rfl;exact .inr rfl
theorem Fd{f:Op->List aC}{g:List Op}(h:∀o∈g,∀r∈f o,r.2.length<=100):∀r∈g.flatMap f,r.2.length<=100:=fun r hr=>ae (List.mem_flatMap.mp hr) fun o ho hr=>h o ho r hr
theorem Iv{g:List Op}(ha:∀y∈a,y.length<=100)(hb:∀y∈b,y.length<=100):∀r∈(aN a b g).old++(aN a b g).new,r.2.length<=100:=fun r hr=>by
 have k1:∀r∈g.flatMap (bU a),r.2.length<=100:=Fd fun o O=>AY (f:=bU a) ha (lQ ..);have k2:∀r∈g.flatMap (bL b),r.2.length<=100:=Fd fun o O=>AY (f:=bL b) hb (lQ ..);refine(Zh.mp hr).elim (fun h=>?_) fun h=>?_
 ·exact(lQ (c:=(g.map dJ).any id=true) (g.flatMap (bU a)) []).elim (fun e=>k1 r ((show (aN a b g).old=_ from e)▸h)) fun e=>absurd ((show (aN a b g).old=_ from e)▸h) ZY
 ·exact(lQ (c:=(g.map dE).any id=true) (g.flatMap (bL b)) []).elim (fun e=>k2 r ((show (aN a b g).new=_ from e)▸h)) fun e=>absurd ((show (aN a b g).new=_ from e)▸h) ZY
theorem te{c:Prop}[Decidable c](xs:List aC):(if c then xs else []).length<=xs.length:=by split;exact YR _;exact YD _
theorem Si(hD:D.map Prod.fst=a)(ha:∀y∈a,y.length<=100)(hb:∀y∈b,y.length<=100)(gs:List (List Op)):∀(i j:Nat) (s:Bool) (M:List G0) (A G:List ag) (pos:Int),(∀g∈gs,dD a b g/\H1 g)->kl D b i j s M gs->pos.toNat=i->(s=true->pos<0)->A.length=j ->
  D.drop i=M.flatMap bW->(∀m∈M,mn m)->(cx k A M).length<=100->G.length<=i->i+(M.flatMap bW).length<=100 ->
  jT D k ⟨pos,A,G⟩ (gs.map (aN a b))/\((gs.map (aN a b)).foldl (cn D k) ⟨pos,A,G⟩).after++D.drop ((gs.map (aN a b)).foldl (cn D k) ⟨pos,A,G⟩).pos.toNat=cx k A M/\((gs.map (aN a b)).foldl (cn D k) ⟨pos,A,G⟩).gone=G++M.flatMap (dz k):=by
 induction gs with
 |nil =>
  intro i j s M A G pos _ hd hp _ _ Ã _ _ _ _;obtain⟨E,rfl⟩:=hd;rw[lW bW (fun x=>x) fun O=>rfl,List.map_id'] at Ã;refine⟨trivial,?_,?_⟩
  ·show A++D.drop pos.toNat=_;rw[hp,Ã,xZ]
  ·rw[fh (dz k) G0.eq fun O=>rfl];exact(Zv G).symm
 |cons g gs ih =>
  intro i j s M A G pos hg hd hp hs hA Ã hm hz hG hi;obtain⟨E,M',rfl,e1,e2,hsE,f_,hd2⟩:=hd;obtain⟨hf,hc⟩:=hg g (Yi ..);have C8:g≠[]:=fun e=>ae hc fun o ho O=>ZY (e▸ho);have ζ:=hf _ (PZ C8);have b1:=ζ.i2.2;have b2:=ζ.j2.2;have Y5:D.length=a.length:=by rw[← hD,Yl]
  have Ω:=xW (D:=D) (b:=b) g f_;have å:=xX (D:=D) hD g hf f_;have pl:=f_.le;have lD:((g.flatMap (aR D b)).flatMap bW).length=(ay g).i2-(aH g).i1:=by rw[Ω,mG (Y5.symm▸b1)]
  have lB:((g.flatMap (aR D b)).flatMap gQ).length=(ay g).j2-(aH g).j1:=by rw[å,iZ b2]
  have hI:(aH g).i1+((g.flatMap (aR D b)).flatMap bW).length=(ay g).i2:=by rw[lD,Nat.add_sub_cancel' pl.1]
  rw[o9,o9,lW bW (fun x=>x) fun O=>rfl,List.map_id'] at Ã hi;rw[Yr,Yr] at hi;rw[sN,sN,xZ] at hz ⊢;have hmg:∀m∈g.flatMap (aR D b),mn m:=fun m hm=>ae (List.mem_flatMap.mp hm) fun o O h=>DO o m h;have ç:∀m∈M',mn m:=fun m h=>hm m (YQ _ (YQ _ h));have hd1:D.drop (aH g).i1=(g.flatMap (aR D b)).flatMap bW++M'.flatMap bW:=by rw[e1,← List.drop_drop,Ã,List.drop_left]
  have hd3:D.drop (ay g).i2=M'.flatMap bW:=by
   rw[← hI,← List.drop_drop,hd1,List.drop_left]
  have d_:gy D ⟨pos,A,G⟩ (aN a b g)=A++E:=by
   show A++(D.drop pos.toNat).take ((aH g).i1-pos.toNat)=_;rw[hp,Ã,e1,o8,List.take_left]
  have ho:=(uI (a:=a) (b:=b) hf hc).1;have hn:=Iw (a:=a) (b:=b) hf hc;rw[← yz hD hf] at ho;rw[← yA hD hf] at hn;obtain⟨T7,C9,h1,h2,h3,h4⟩:=Sg k D (g.flatMap (aR D b)) (aH g).i1 (A++E) G [] _ aG hmg hd1;rw[Yy] at h1 h4;have h3:(aO k T7 C9).1=cx k (A++E) (g.flatMap (aR D b)):=h3;have ä:iJ D k ⟨pos,A,G⟩ (aN a b g)=⟨(ay g).i2,T7,G++(g.flatMap (aR D b)).flatMap (dz k),C9⟩:=by
   unfold iJ;rw[d_,ho,hn];refine h1.trans ?_;rw[hI]
  have B5:cn D k ⟨pos,A,G⟩ (aN a b g)=⟨((ay g).i2:Nat),cx k (A++E) (g.flatMap (aR D b)),G++(g.flatMap (aR D b)).flatMap (dz k)⟩:=by
   unfold cn;rw[ä,← h3]
  have lA:(A++E).length=(aH g).j1:=by rw[Yr,hA,e2]
  have lM:(cx k (A++E) (g.flatMap (aR D b))).length=(ay g).j2:=by rw[xY,lA,lB,Nat.add_sub_cancel' pl.2]
  have lz:=hz;rw[xY,lM] at lz;have lg:=Rw k (g.flatMap (aR D b));have ih':=ih (ay g).i2 (ay g).j2 false M' (cx k (A++E) (g.flatMap (aR D b))) (G++(g.flatMap (aR D b)).flatMap (dz k)) ((ay g).i2:Nat) (fun g' h=>hg g' (Yk _ h)) hd2 rfl nofun lM hd3 ç hz (by rw[Yr];exact Zg (r8 (Zg hG (e1▸n9 i E.length)) lg) (o5 hI)) (Zg (o5 (by rw[← hI,e1,p6,p6])) hi);refine⟨⟨⟨(uI hf hc).2,?_,?_,?_,?_,?_,?_,?_,?_,?_,?_,Iv ha hb⟩,?_⟩,?_,?_⟩
  ·show (aH g).i1+(bZ (aN a b g)).length=(ay g).i2;rw[ho,vN];exact hI
  ·show (aH g).j1+(da (aN a b g)).length=(ay g).j2;rw[hn,xO,lB,Nat.add_sub_cancel' pl.2]
  ·show pos<((aH g).i1:Nat);rcases hsE with h |h
   ·exact Int.lt_of_lt_of_le (hs h) (p7 _)
   ·exact Int.lt_of_le_of_lt (Int.self_le_toNat pos) (Int.ofNat_lt.mpr (by rw[hp,e1];exact s6 h))
  ·rw[d_];exact lA
  ·rw[d_,ho,hn];exact h4
  ·rw[ä];exact h2
  ·exact Zg (Zg (o5 hA) (e2▸n9 j E.length)) (Zg pl.2 (Zg (n9 ..) lz))
  ·exact Zg hG (Zg (n9 ..) hi)
  ·refine Zg (te (g.flatMap (bU a))) ?_;rw[← yz hD hf,vN];exact Zg (Zg (n9 ..) (Nat.le_add_left ..)) (Zg (Nat.le_add_left ..) hi)
  ·refine Zg (te (g.flatMap (bL b))) ?_;rw[← yA hD hf,xO,lB];exact Zg (r7 ..) (Zg (n9 ..) lz)
  ·show jT D k (cn D k ⟨pos,A,G⟩ (aN a b g)) _;rw[B5];exact ih'.1
  ·show ((gs.map (aN a b)).foldl (cn D k) (cn D k ⟨pos,A,G⟩ (aN a b g))).after++D.drop ((gs.map (aN a b)).foldl (cn D k) (cn D k ⟨pos,A,G⟩ (aN a b g))).pos.toNat=_;rw[B5];exact ih'.2.1
  ·show ((gs.map (aN a b)).foldl (cn D k) (cn D k ⟨pos,A,G⟩ (aN a b g))).gone=_;rw[B5,o9,o9,fh (dz k) G0.eq fun O=>rfl,Yy,← YN];exact ih'.2.2
end
noncomputable abbrev fq(r:aC):I1:=.body r.1 r.2
noncomputable def eZ(a b:List Str)(g:List Op):List I1:=.star :: .rng 0 (aH g).i1 (ay g).i2::((aN a b g).old.map fq ++ .rng 1 (aH g).j1 (ay g).j2::(aN a b g).new.map fq)
theorem Cx(t:Str):fE t=⟨⟨[iN t,32]⟩⟩:=by
 unfold fE iN;split
 ·rfl
 ·split
  ·rfl
  ·split <;> rfl
theorem Ua(t:Str):iN t∈[32,33,43,45]:=by
 unfold iN;split
 ·decide
 ·split
  ·decide
  ·split <;> decide
section
variable{a b:List Str}
theorem Gd(rs:List aC):(rs.map fq).map bS=rs.map aJ:=(ZR ..).trans rfl
theorem Fe{γ:Type}{f:α->List β}{h:β->γ}{u:α->List γ}(e:∀x,(f x).map h=u x)(xs:List α):(xs.flatMap f).map h=xs.flatMap u:=by
 induction xs with
 |nil=>rfl
 |cons x xs ih=>rw[o7,o7,YK,e,ih]
theorem KD(o:Op):(bU a o).map aJ=eV a o:=by
 unfold bU eV;split
 ·rfl
 ·rw[ZR,Cx];rfl
theorem Kz(o:Op):(bL b o).map aJ=eU b o:=by
 unfold bL eU;split
 ·rfl
 ·rw[ZR,Cx];rfl
theorem Rc(g:List Op):(aN a b g).old.map aJ=iI a g:=by
 show (if (g.map dJ).any id then g.flatMap (bU a) else []).map aJ=_;unfold iI;split
 ·exact Fe KD g
 ·rfl
theorem QZ(g:List Op):(aN a b g).new.map aJ=fL b g:=by
 show (if (g.map dE).any id then g.flatMap (bL b) else []).map aJ=_;unfold fL;split
 ·exact Fe Kz g
 ·rfl
theorem EJ(g:List Op):fM a b dh g=(eZ a b g).map bS:=by
 unfold eZ fM;rw[Yu,Yu,YK,Yu,Gd,Gd,Rc,QZ];rfl
theorem Ku(gs:List (List Op)):cS a b aQ aQ aQ aQ dh true gs=(gs.flatMap (eZ a b)).map bS:=by
 induction gs with
 |nil=>rfl
 |cons g gs ih=>rw[o7,YK,← EJ,← ih];rfl
theorem Kw(gs:List (List Op)):(cS a b aQ aQ aQ aQ dh false gs).drop 2=(gs.flatMap (eZ a b)).map bS:=by
 cases gs with
 |nil=>rfl
 |cons g gs=>rw[← Ku];rfl
theorem Gc(rs:List aC):∀(d:List Hf) (ns:List Nat) (rw:List Str) (hs:List Str),(rs.map fq).foldl dl ⟨d,some (ns,rw),hs⟩=⟨d,some (ns,rw++rs.map aJ),hs⟩:=by
 induction rs with
 |nil=>exact fun d ns rw hs=>by rw[show rw++[].map aJ=rw from Zv rw];rfl
 |cons r rs ih=>exact fun d ns rw hs=>(ih d ns (rw++[aJ r]) hs).trans (by rw[YN];rfl)
theorem Rh(g:List Op)(st:R4):(eZ a b g).foldl dl st=⟨st.all++[(bM (aH g).i1 (ay g).i2,(aN a b g).old.map aJ)],some (bM (aH g).j1 (ay g).j2,(aN a b g).new.map aJ),st.heads++cX⟩:=by
 obtain⟨d,c,hs⟩:=st;show (((aN a b g).old.map fq ++ .rng 1 (aH g).j1 (ay g).j2::(aN a b g).new.map fq)).foldl dl ⟨d++c.toList,some (bM (aH g).i1 (ay g).i2,[]),hs++[ee]++[dR 0]⟩=_;rw[List.foldl_append,Gc,Zu];show ((aN a b g).new.map fq).foldl dl ⟨d++c.toList++[(bM (aH g).i1 (ay g).i2,[]++(aN a b g).old.map aJ)],some (bM (aH g).j1 (ay g).j2,[]),hs++[ee]++[dR 0]++[dR 1]⟩=_;rw[Gc,show hs++[ee]++[dR 0]++[dR 1]=hs++cX by rw[YN,YN];rfl];rfl
theorem UV(gs:List (List Op)):∀st:R4,((gs.flatMap (eZ a b)).foldl dl st).all=st.all++(gs.map (aN a b)).flatMap fK/\((gs.flatMap (eZ a b)).foldl dl st).heads=st.heads++gs.flatMap fun O=>cX:=by
 induction gs with
 |nil=>exact fun st=>⟨(Zv _).symm,(Zv _).symm⟩
 |cons g gs ih =>
  intro st;rw[o7,List.foldl_append,Rh];have h:=ih ⟨st.all++[(bM (aH g).i1 (ay g).i2,(aN a b g).old.map aJ)],some (bM (aH g).j1 (ay g).j2,(aN a b g).new.map aJ),st.heads++cX⟩;refine⟨h.1.trans ?_,h.2.trans (YN ..)⟩;rw[Yu,o7,← YN];refine congrArg (· ++ _) ?_;show st.all++[_]++[_]=st.all++[_,_];rw[YN];rfl
theorem QQ{hs:List Str}(h:kf hs):kf (hs++cX):=by
 obtain⟨h1,h2⟩:=h;have l:(hs++cX).length=hs.length+3:=Yr;refine⟨?_,by rw[l,Nat.add_mod_right];exact h2⟩;rw[l,uY 0 (n9 hs.length 3),YK,← h1,o8,r0];refine congrArg (hs ++ ·) ?_;show cX=[cX.getD (hs.length % 3) default,cX.getD ((hs.length+1) % 3) default,cX.getD ((hs.length+2) % 3) default];rw[h2,show (hs.length+1) % 3=1 by rw[Nat.add_mod,h2],show (hs.length+2) % 3=2 by rw[Nat.add_mod,h2]];rfl
theorem QS(gs:List (List Op)):∀hs,kf hs->kf (hs++gs.flatMap fun O=>cX):=by
 induction gs with
 |nil=>exact fun hs h=>(Zv hs).symm▸h
 |cons g gs ih=>exact fun hs h=>by rw[o7,← YN];exact ih _ (QQ h)
theorem EH(xs ys:List I1):∀st,gu st xs->gu (xs.foldl dl st) ys->gu st (xs++ys):=by
 induction xs with
 |nil=>exact fun O O h=>h
 |cons x xs ih=>exact fun st h1 h2=>⟨h1.1,h1.2.1,ih _ h1.2.2 h2⟩
theorem Ge(rs:List aC):∀(d:List Hf) (q:Hf) (hs:List Str),(∀r∈rs,mh (fq r))->gu ⟨d,some q,hs⟩ (rs.map fq):=by
 induction rs with
 |nil=>exact fun O O O O=>trivial
 |cons r rs ih=>exact fun d q hs h=>⟨h r (Yi ..),fun O=>rfl,ih d _ hs fun q hq=>h q (Yk _ hq)⟩
theorem AZ{xs:List Str}(hx:∀y∈xs,y∈db){f:Op->List aC}(h:f o=[]∨f o=(aE xs i j).map fun y=>(iN o.tag,y)):∀r∈f o,mh (fq r):=by
 rcases h with h |h
 ·rw[h];exact aG
 ·rw[h];exact fun r hr=>ae (YM.mp hr) fun y hy e=>e▸⟨Ua _,hx y (qh hy)⟩
theorem Ev{c:Prop}[Decidable c]{Q:aC->Prop}{xs:List aC}(h:∀r∈xs,Q r):∀r∈(if c then xs else []),Q r:=by split;exact h;exact aG
theorem Fg{Q:aC->Prop}{f:Op->List aC}{g:List Op}(h:∀o∈g,∀r∈f o,Q r):∀r∈g.flatMap f,Q r:=fun r hr=>ae (List.mem_flatMap.mp hr) fun o ho hr=>h o ho r hr
theorem Ri(ha:∀y∈a,y∈db)(hb:∀y∈b,y∈db)(la:a.length<=30)(lb:b.length<=30){g:List Op}(hg:E0 a.length b.length g)(st:R4):gu st (eZ a b g):=by
 have k1:∀r∈(aN a b g).old,mh (fq r):=Ev (Fg fun o O=>AZ (f:=bU a) ha (lQ ..));have k2:∀r∈(aN a b g).new,mh (fq r):=Ev (Fg fun o O=>AZ (f:=bL b) hb (lQ ..));refine⟨trivial,fun h=>(h.elim fun O h=>h.elim fun O h=>nomatch h),⟨by decide,hg.ii,Zg hg.i2.1 la⟩,fun h=>(h.elim fun O h=>h.elim fun O h=>nomatch h),?_⟩;refine EH _ _ _ (Ge _ _ _ _ k1) ?_;exact⟨⟨by decide,hg.jj,Zg hg.i2.2 lb⟩,fun h=>(h.elim fun O h=>h.elim fun O h=>nomatch h),Ge _ _ _ _ k2⟩
theorem Qo(ha:∀y∈a,y∈db)(hb:∀y∈b,y∈db)(la:a.length<=30)(lb:b.length<=30)(gs:List (List Op)):∀st,(∀g∈gs,E0 a.length b.length g)->gu st (gs.flatMap (eZ a b)):=by
 induction gs with
 |nil=>exact fun O O=>trivial
 |cons g gs ih=>exact fun st h=>EH _ _ _ (Ri ha hb la lb (h g (Yi ..)) st) (ih _ fun q hq=>h q (Yk _ hq))
end
section
variable{a b:List Str}{D:List ag}
noncomputable abbrev cm(a b:List Str):List Op:=bY (aW (be a b) a.length b.length)
theorem Ry(n:Nat)(codes:List Op):∀group,(cF n group codes).length<=codes.length+1:=by
 induction codes with
 |nil=>exact fun group=>gW (P:=fun l=>l.length<=1) (fun O=>YD _) (fun O=>YD _) fun O O=>YR _
 |cons o os ih=>exact fun group=>lS (P:=fun l=>l.length<=os.length+1+1) (fun O=>p8 (ih _)) fun O=>r9 (ih _)
theorem Rm(la:a.length<=30):(bl n (cm a b)).length<=66:=by
 have h1:=Ry n (fY n (cm a b)) [];have h2:=zW (n:=n) (cm a b);have h3:(cm a b).length<=2 * (aW (bq (am a b) (aI a b)) a.length b.length).length:=vM _;have h4:=yL (fe (am a b) (aI a b)) a.length b.length;exact Zg h1 (p8 (Zg h2 (p8 (Zg h3 (Nat.mul_le_mul_left 2 (Zg h4 (r6 la 2)))))))
theorem Rk(hD:D.map Prod.fst=a)(la:a.length<=30)(lb:b.length<=30){g:List Op}(hf:dD a b g)(hp:R3 a.length b.length g):(fM a b dh g).length<=63:=by
 obtain⟨i,j,i',j',hp,h1,h2⟩:=hp;have Y5:D.length=a.length:=by rw[← hD,Yl]
 have e1:=congrArg k9 (xW (D:=D) (b:=b) g hp);have e2:=congrArg k9 (xX (D:=D) hD g hf hp);rw[mG (Y5.symm▸h1),← vN,yz hD hf] at e1;rw[iZ h2,← xO,yA hD hf] at e2;have l1:(aN a b g).old.length<=(g.flatMap (bU a)).length:=te _;have l2:(aN a b g).new.length<=(g.flatMap (bL b)).length:=te _;have k1:(aN a b g).old.length<=30:=Zg l1 (e1▸Zg (r7 ..) (Zg h1 la));have k2:(aN a b g).new.length<=30:=Zg l2 (e2▸Zg (r7 ..) (Zg h2 lb));rw[EJ,Yl,eZ,Yq,Yq,Yr,Yq,Yl,Yl];exact p8 (p8 (r8 k1 (p8 k2)))
theorem Kv(gs:List (List Op)):(∀g∈gs,(fM a b dh g).length<=63)->(cS a b aQ aQ aQ aQ dh true gs).length<=gs.length * 63:=by
 induction gs with
 |nil=>exact fun O=>YD _
 |cons g gs ih =>
  intro h;have h1:=h g (Yi ..);have h2:=ih fun q hq=>h q (Yk _ hq);show (fM a b dh g++cS a b aQ aQ aQ aQ dh true gs).length<=_;rw[Yr,Yq,Nat.succ_mul];omega
theorem Kx(gs:List (List Op)):(cS a b aQ aQ aQ aQ dh false gs).length<=(cS a b aQ aQ aQ aQ dh true gs).length+2:=by
 cases gs with
 |nil=>exact YD _
 |cons g gs =>
  show (EG aQ aQ aQ aQ dh++(fM a b dh g++cS a b aQ aQ aQ aQ dh true gs)).length<=(fM a b dh g++cS a b aQ aQ aQ aQ dh true gs).length+2;rw[Yr];exact o5 (Nat.add_comm ..)
theorem Kg(a:List Str)(h:a.length<200):bq (am a a) (aI a a) 0 a.length 0 a.length=(0,0,a.length):=by
 have e:=Fk (a:=a) (b:=a) h (YD a.length) (YD a.length) (YR _);by_cases h0:a.length=0
 ·rw[List.length_eq_zero_iff.mp h0];rfl
 ·have u:=H2.uniq (p:=0) (q:=0) (k:=a.length) ⟨⟨YR _,o5 (r0 _),YR _,o5 (r0 _),fun O O=>rfl⟩,fun p q k O hr=>(Nat.lt_or_eq_of_le (Zg (Nat.le_add_left ..) hr.p2)).imp id fun w=>⟨w,(Nat.lt_or_eq_of_le (YD p)).imp id fun v=>⟨v,YD q⟩⟩⟩ e (Nat.pos_of_ne_zero h0);exact Prod.ext u.1 (Prod.ext u.2.1 u.2.2)
theorem Qy(ps:List (Nat×Nat))(m:Nat):lR ps m=true↔∀p∈ps,p.1≠m:=by
 unfold lR;rw[Bool.not_eq_true',List.any_map,List.any_eq_false];exact⟨fun h p hp e=>h p hp (beq_iff_eq.mpr (congrArg Int.ofNat e)),fun h p hp e=>h p hp (Int.ofNat.inj (beq_iff_eq.mp e))⟩
theorem Ed:∀y∈db,y.length<=100:=by decide
theorem Im(fa:ic a)(fb:ic b)(hD:D.map Prod.fst=a)(hl:∀y∈D,y.2.length<=2):A_ a b D k n:=by
 have la:=fa.1;have lb:=fb.1;have Y5:D.length=a.length:=by rw[← hD,Yl]
 have ok:=fe (am a b) (aI a b);have hf:dD a b (cm a b):=NJ a b;have hp:A2 0 0 (cm a b) a.length b.length:=qI ok a.length b.length;have Α:cq 30 a b=(cm a b).flatMap dy:=TJ ⋯ la;have Ω:=xW (D:=D) (b:=b) (cm a b) hp;have å:=xX (D:=D) hD (cm a b) hf hp;have eD:bt D 0 a.length=D:=by rw[← Y5];exact List.take_length
 rw[eD] at Ω;have eB:aE b 0 b.length=b:=List.take_length;rw[eB] at å;have hA:cx k [] ((cm a b).flatMap (aR D b))=dT b k D (cq 30 a b):=by
  rw[Α];exact(Tz (k:=k) Y5 (cm a b) 0 0 [] hp hf rfl).symm
 have hG:((cm a b).flatMap (aR D b)).flatMap (dz k)=gL a k D (cq 30 a b):=by
  rw[Α];exact(NC (k:=k) Y5 (cm a b) 0 0 hp hf fun m O O=>Qy _ m).symm
 have Ę:∀g∈bl n (cm a b),dD a b g/\H1 g:=fun g hg=>⟨Rn hf g hg,Ro (NK ok a.length b.length) g hg⟩;have L1:=EK a b n ⋯;have ñ:=Rm (a:=a) (b:=b) (n:=n) la;have hdec:=TE (n:=n) Y5 hf hp;have lA:=xY k ((cm a b).flatMap (aR D b)) [];rw[å] at lA;have fd:=Si (k:=k) hD (fun y hy=>Ed y (fa.2 y hy)) (fun y hy=>Ed y (fb.2 y hy)) _ 0 0 true _ [] [] (-1) Ę hdec rfl (fun O=>by decide) rfl (by rw[Ω];rfl) (fun m hm=>ae (List.mem_flatMap.mp hm) fun o O h=>DO o m h) (by rw[lA];show 0+_<=_;omega) (YR _) (by rw[Ω];omega);have K6:=UV (a:=a) (b:=b) (bl n (cm a b)) ⟨[],none,[]⟩;refine⟨?_,⟨(bl n (cm a b)).flatMap (eZ a b),(bl n (cm a b)).map (aN a b),⟨Kw _,Qo fa.2 fb.2 la lb _ _ L1,?_,K6.1,by rw[Yl];omega,fd.1,fd.2.1.trans hA,fd.2.2.trans hG⟩⟩,?_,?_,?_,?_,?_⟩
 ·have:=yd ok (a.length-0) 0 a.length 0 b.length (YD _) (YD _);exact o0 this ⋯
 ·show kf ((bl n (cm a b)).flatMap (eZ a b) |>.foldl dl ⟨[],none,[]⟩).heads;rw[K6.2];exact QS _ [] ⟨rfl,rfl⟩
 ·exact Zg (Kx _) (Zg (r6 (Zg (Kv (a:=a) (b:=b) (bl n (cm a b)) fun g hg=>Rk hD la lb (Ę g hg).1 (EL ok a.length b.length n g hg).2) (Nat.mul_le_mul_right 63 ñ)) 2) (by decide))
 ·refine Iff.trans ?_ (Rl a b n (Kg a ⋯));show cS a b aQ aQ aQ aQ dh false (bl n (cm a b))=[]↔bl n (cm a b)=[];cases bl n (cm a b) with
  |nil=>exact⟨fun O=>rfl,fun O=>rfl⟩
  |cons g gs=>exact⟨fun h=>(nomatch h),fun h=>(nomatch h)⟩
 ·rw[Α];exact fun p hpm=>have h:=CD (cm a b) hf hp p hpm;⟨h.2.1,h.2.2.2⟩
 ·rw[← hA,DP,å];rfl
 ·rw[← hA];exact OK (Q:=fun y=>y.2.length<=2) k _ [] aG (by rw[Ω];exact hl) fun y m=>YR 2
end
theorem Oe(script:List Int):GE script:=fun k h1 h2 D hD hl=>Im (pU script _ (oT (o0 (r7 ..) h2))) (pU script _ (oT h2)) hD hl
theorem Pw(ts:List YV)(K:Frag)(a:YV)(o:Obj):(K.filter fun p => !ts.contains p.1).lookup a=some o->K.lookup a=some o/\ts.contains a=false:=by
 induction K with
 |nil=>exact nofun
 |cons p K ih =>
  intro h;rw[YE];by_cases hp:ts.contains p.1=true
  ·rw[List.filter_cons_of_neg (by simpa using hp)] at h;have r:=ih h;have C8:(a==p.1)=false:=beq_eq_false_iff_ne.mpr fun e=>Zd (r.2.symm.trans (e▸hp));exact C8.symm▸r
  ·rw[List.filter_cons_of_pos (by simpa using hp),YE] at h;cases q:a==p.1 with
   |true =>
    rw[q] at h;exact⟨h,beq_iff_eq.mp q▸Bool.eq_false_iff.mpr hp⟩
   |false =>
    rw[q] at h;exact ih h
theorem QB{R:WRecords}{xs:List WData}:WShape.hasItems R xs .int=true->∃ns:List Int,xs=ns.map .int:=by
 induction xs with
 |nil=>exact fun O=>⟨[],rfl⟩
 |cons x xs ih =>
  intro h;rw[WShape.hasItems,Zy] at h;exact aq (hasW_int h.1) fun i e=>aq (ih h.2) fun ns e'=>⟨i::ns,e▸e'▸rfl⟩
theorem Ke{l:OpenLaw}(hm:l.most=some 63)(hb:l.bound=none){args:List WData}(h:l.row.toRowW.claim.pre args=true):∃script:List Int,args=[.list (script.map .int)]/\script.length<=63:=by
 refine aL (pre_splitW h) fun h1 h2=>?_;refine bw (hasAllW_cons (e:=.list .int) (es:=[]) h1) fun d r O3 h3 h4=>?_;subst O3;obtain rfl:=hasAllW_nil h4;refine ae (hasW_list h3) fun xs O2 h5=>?_;subst O2;refine aq (QB h5) fun ns O2=>?_;subst O2;refine bQ ns rfl ?_;have h2:WTm.holds l.row.toRowW.records l.pre {args:=[.list (ns.map .int)]}=true:=h2;unfold OpenLaw.pre at h2;rw[hm,hb] at h2;by_cases q:ns.length<=63
 ·exact q
 ·exfalso
  have e0:(WTm.len (.arg 0)).value l.row.toRowW.records {args:=[.list (ns.map .int)]}=some (.int ns.length):=by simp[WTm.value]
  have e1:=w_lt (a:=.lit (.int (63:Nat))) (b:=.len (.arg 0)) (R:=l.row.toRowW.records) (e:={ args:=[.list (ns.map .int)]}) rfl e0;rw[decide_eq_true ⋯] at e1;have e2:(WTm.not (.lt (.lit (.int (63:Nat))) (.len (.arg 0)))).value l.row.toRowW.records {args:=[.list (ns.map .int)]}=some (.bool false):=by rw[WTm.value,e1];rfl
  unfold WTm.holds at h2;rw[WTm.value,e2] at h2;cases h2
theorem Ig{P:Ym}{h:Heap}{ns:List Int}:∀ {vs:List Value},WellAll P h vs (ns.map .int)->Vals Z (ns.map .int) vs:=by
 induction ns with
 |nil=>exact fun w=>by cases w;exact .nil
 |cons n ns ih =>
  intro vs w;cases w with
  |cons w1 w2=>cases w1;exact .cons (.int _ _) (ih w2)
theorem Qt{K:Frag}{h:Heap}{c P:YV}{o:Obj}(hK:K.In h)(h1:K.lookup c=some o)(h2:o.cls=.type "code")(h3:o.data=.fields (eC o))(h4:(eC o)[11]?=some (.ref P)):isCodeTable h P:=⟨c,o,_,hK _ _ h1,h2,h3,h4⟩
theorem IG{h h':Heap}{b:YV}{o o':Obj}{q:Str}(ho:o=⟨.none,none,.fields ⟨[]⟩,⟨[]⟩⟩)(hT:isCodeTable h b)(hg:h'.get? b=some o')(hp:qc q Z o'):asItWas h h' b o:=by
 obtain⟨⟨_,h1,h2,h3⟩,ps,h4,_⟩:=hp;subst ho;refine .inr (.inl ⟨hT,rfl,#[],ps,rfl,?_⟩);rw[hg];obtain⟨c,d,dt,sl⟩:=o';dsimp only at h1 h2 h3 h4;subst h1 h2 h3 h4;simp
theorem KF:w0 callerA 400:=⟨rfl,by decide +kernel,by decide +kernel⟩
theorem OB{h:Heap}{b:YV}{o o':Obj}(h1:h.get? a=some o)(h2:h.get? b=some o')(hc:o.cls≠o'.cls):a≠b:=fun e=>hc (congrArg Obj.cls (d8 (h1.symm.trans (e▸h2))))
theorem IU{b:YV}(hK:(KO w.params).In s.heap)(I5:s.heap.get? b=some {cls:=.type "list",data:=.seq vs.toArray})(l_:s.gens=#[]) :
  t8 (al w) s ((al w).add b {cls:=.type "list",data:=.seq vs.toArray}) pt:=by
 have Ă:s.heap.get? 256=some (nY w.params):=hK _ _ @_;have n256:(256:YV)≠b:=OB Ă I5 ((by kernel_rfl:(nY w.params).cls=.none)▸fun e=>nomatch e);have hB:∀x ox,al w x=some ox->s.heap.get? x=some ox:=fun x ox e=>hK _ _ (Pw Ai _ _ _ e).1;have hle:u6.le (al w) ((al w).add b {cls:=.type "list",data:=.seq vs.toArray}):=fun x ox e=>by
  unfold u6.add;by_cases q:x=b
  ·rw[if_pos q];exact(q▸I5:s.heap.get? x=_).symm.trans (hB _ _ e)
  ·rw[if_neg q];exact e
 have S0:t8 (al w) s ((al w).add b {cls:=.type "list",data:=.seq vs.toArray}) []:=⟨hle,fun x ox e=>(u6.add_inv e).elim (hB x ox) fun q=>q.1▸q.2▸I5,List.nodup_nil,fun O h=>absurd h ZY,fun O h=>absurd h ZY,List.nodup_nil,fun x hx=>by rw[l_] at hx;simp at hx⟩;exact t8.cons S0 ZY ((if_neg n256).trans @_) ⟨_,Ă,⟨@_,@_,@_,@_⟩,#[],@_,trivial,fun pos cv e=>nomatch e⟩ List.nodup_nil
theorem Ts{s':Yo}{Z':u6}{led':aa}(hK:(KO w.params).In s.heap)(S':t8 (al w) s' Z' led')(hN:D4 pt led')(X:y8 (aj pt) s Z s' Z' (aj led'))(x:YV)(ox:Obj)(e:s.heap.get? x=some ox) :
  asItWas s.heap s'.heap x ox/\∃o',s'.heap.get? x=some o':=by
 by_cases n1:x=256
 ·refine ae (S'.own _ (hN _ (Yi ..))) fun p q r=>?_;subst n1;have q1:=d8 ((hK _ _ @_:s.heap.get? 256=some (nY w.params)).symm.trans e);exact⟨IG (q1.symm.trans @_) (Qt (c:=260) (o:=ry w.params) hK @_ @_ @_ @_) q r,_,q⟩
 ·have g:=X.kept x ox e fun h=>n1 (YB.mp h);exact⟨.inl g,_,g⟩
theorem HV{P:Ym}{h:Heap}{ds:List WData}(w:WellAll P h vs [.list ds]):∃b us,vs=[.ref b]/\h.get? b=some {cls:=.type "list",data:=.seq us.toArray}/\WellAll P h us ds:=by
 obtain _ |⟨w1,w2⟩:=w
 cases w2
 cases w1 with
 | @list b vs _ I5 hwv=>exact⟨b,vs,rfl,I5,hwv⟩
theorem HY:WalkO qV jN (fun O O=>True) eA.says PySem.Challenge.rw_dm0049_10.row.toRowW gS [] (fun f vs=>PySem.call f vs):=by
 intro w B7 s₁ mg mb G Y a o pm cd doc dV kV ho H_ hcr hdf hmg l_ args vals as d_ hlay hrd Õ hsys;have hK:(KO w.params).In s₁.heap:=kIn_of Y;refine ki (id G.T.g) fun og es ep hog hd hk hm=>?_;have hog':s₁.heap.get? ZP=some (et w.params):=hK _ _ @_;rw[hog'] at hog;obtain rfl:=d8 hog;have hes:fi (et w.params)=es:=by unfold fi;rw[hd]
 have ha:a=293:=by
  have h1:=hm gS.name;rw[hmg,← hes] at h1;have h2:nsFind (fi (et w.params)) gS.name=some (.ref 293):=@_;rw[h2] at h1;injection h1 with h1
  injection h1 with h1
  exact h1.symm
 subst ha;refine ae (Ke (l:=PySem.Challenge.rw_dm0049_10) rfl rfl d_) fun script O2 hs=>?_;subst O2;refine bw (HV Õ) fun b vs O2 I5 hwv=>?_;subst O2;have S:=IU hK I5 l_;refine f9 (PS (script:=script) (led:=[]) KF hs (Oe script) s₁ _ (.ref 293) [.ref b] [] S (.ref _) (.cons (.lst (u6.add_at ..) (Ig hwv)) .nil) .nil _ fun v x s' Z' led' k S' V X=>?_);refine aL k fun O1 hN=>?_;clear k;subst O1;cases V
 have F:=Ts hK S' hN X;refine⟨.inl ⟨.bool true,.bool true,[],rfl,fun O=>rfl,.bool true,?_,fun O=>⟨List.nodup_nil,fun a ha=>by cases ha⟩⟩,⟨fun x ox e=>(F x ox e).1,fun x ox e=>(F x ox e).2⟩,X.os,S'.bare⟩
 ·show (WShape.has PySem.Challenge.rw_dm0049_10.row.toRowW.records (.bool true) .bool&&WTm.holds PySem.Challenge.rw_dm0049_10.row.toRowW.records (.eq .res (.lit (.bool true))) _)=true;exact @_
theorem Yg:PySem.Challenge.rw_dm0049_10.Holds:=QL HY
end Mine.Internal
theorem PySem.Challenge.cw_dm0049_10_holds : PySem.Challenge.rw_dm0049_10.Holds :=
  Mine.Internal.Yg
